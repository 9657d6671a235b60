import JvmDerived
import JvmDerived.Pilot.@@N@@Statement
import JvmDerived.Pilot.@@N@@Code
set_option linter.unusedVariables false
set_option linter.unusedSimpArgs false
namespace Jvm.RoadKit
open Sem ClassFile Op Lib Jvm.Stand Jvm.Free Jvm.LawKit
section New
variable {p : Program} {l : Launch} {e : Env} {R : Room} {s : State} {m : MethodId} {args : Array Value} {below : List Frame} {meth : Method} {c : Code} {T : State} {locs : List Loc} {cells slots : Nat}
theorem retI (X : Stand p l e R s m args below meth c T locs cells slots) (hx : p.tables.exec = Jvm.exec) {pc : Nat} {Ls : Array Slot} {z : Int32} {rest : List Value} (hret : meth.sig.returnType = some .int) (hd : decode c.code pc = .ok (.ireturn, 1)) {fs : List Frame}
    (hl : ∀ (f : JFrame) (acts : List Action), f.method = m → f.locked = none → f.entered = [] → (doReturn e (T.setTop f) acts (some (.int z))).1 = T.setFrames fs) : Steps p.tables e below (T.setTop (mkF m pc Ls (.int z :: rest))) (T.setFrames fs) := by
  have hm' : T.vm.method? m = some meth := X.method'
  have hn : narrow .int (.int z) = .int z := rfl
  show Steps p.tables e below (T.setTop { method := m, pc := pc, locals := Ls, stack := _ :: rest, locked := none }) _
  jvm_step X.here [X.here.top, hx, hd, hm', hret, hn]
  first | (intro acts; rw [hl _ acts rfl rfl rfl]) | rw [hl _ _ rfl rfl rfl]
  exact Steps.refl _
end New
end Jvm.RoadKit
namespace Jvm.Pilot.@@N@@
open Jvm Jvm.ClassFile Sem Op Lib Jvm.Free Jvm.Stand Jvm.LawKit Jvm.RoadKit Bundle Jvm.Pilot.@@N@@.Jvm.D
theorem own_safeV {Z : State} {EL : List (String × Nat)} {vm : Vm} {h : Heap} {x : Addr} {k : ClassId} {ty : FieldType} {z : Int32} {vs : List Value} {d : Value} (hal : Z.vm.Alike vm) (A : Arv Z h x k ty z vs d) (ht : ty ≠ .byte) : Safe Z EL vm h x := by
  obtain ⟨c, A, -⟩ := A; exact Safe.arr hal A ht
theorem own_safe {Z : State} {EL : List (String × Nat)} {vm : Vm} {h : Heap} {a : Addr} (hal : Z.vm.Alike vm) (E : Exa Z h a "java/lang/String") (F : Fld Z h a "java/lang/String" "value" "[B" .null) : Safe Z EL vm h a := fun B => by
  obtain ⟨p, -, u, a', -, q, -, G, rfl | rfl⟩ := B
  · obtain ⟨cS, ⟨SL, -, -⟩, -⟩ := G
    obtain ⟨cell, cf, k, i, f, h1, h2, -, -, -, -, h7⟩ := F
    have ha : h[q.sa]? = some q.sC := SL.ha
    cases h1.symm.trans ha
    obtain ⟨cV, kV, iV, g1, -⟩ := SL.ffV
    obtain ⟨k', g2, -⟩ := State.fieldFound?_setVm (s := ({ Z with heap := h } : State)) hal (show ({ Z with heap := h } : State).fieldFound? _ _ _ = _ from h2)
    have g3 := (show (Wst Z vm h).fieldFound? _ _ _ = _ from g2).symm.trans g1
    simp only [Option.some.injEq, Prod.mk.injEq] at g3
    have g4 := SL.slV
    rw [← g3.2.2.2, h7] at g4
    cases g4
  · obtain ⟨cell, k, e1, e2, e3, -, -⟩ := E
    have hd : h[q.sd]? = some q.SA := G.hd
    cases hd.symm.trans e1
    obtain ⟨cS, -, -, f, -⟩ := G
    have f' : vm.findClass "[B" = some q.SA.cls := f
    rw [hal.findClass] at f'
    obtain ⟨k1, q1, q2⟩ := Vm.findClass_spec f'
    obtain ⟨k2, q3, q4⟩ := Vm.findClass_spec e2
    cases q1.symm.trans q3
    exact absurd (q2.symm.trans q4) (by decide)
theorem own_pd0 : parseMethodDescriptor "([CIILjava/lang/Void;)V" = some ⟨[(.array .char), .int, .int, (.object "java/lang/Void")], none⟩ := by decide +kernel
theorem own_pd1 : parseMethodDescriptor "([CI[BII)I" = some ⟨[(.array .char), .int, (.array .byte), .int, .int], some .int⟩ := by decide +kernel
theorem own_pd2 : parseMethodDescriptor "([CII)[B" = some ⟨[(.array .char), .int, .int], some (.array .byte)⟩ := by decide +kernel
theorem own_pd3 : parseMethodDescriptor "([BI)B" = some ⟨[(.array .byte), .int], some .byte⟩ := by decide +kernel
theorem own_pd4 : parseMethodDescriptor "()V" = some ⟨[], none⟩ := by decide +kernel
theorem own_pd5 : parseMethodDescriptor "()Ljava/util/Set;" = some ⟨[], some (.object "java/util/Set")⟩ := by decide +kernel
theorem own_pd6 : parseMethodDescriptor "()Ljava/util/Map;" = some ⟨[], some (.object "java/util/Map")⟩ := by decide +kernel
theorem own_pd7 : parseMethodDescriptor "(Ljava/lang/String;Ljava/util/List;Ljava/util/Set;Ljava/util/Map;Ljava/util/Set;)V" = some ⟨[(.object "java/lang/String"), (.object "java/util/List"), (.object "java/util/Set"), (.object "java/util/Map"), (.object "java/util/Set")], none⟩ := by decide +kernel
theorem own_pd8 : parseMethodDescriptor "()Z" = some ⟨[], some .boolean⟩ := by decide +kernel
theorem own_pd9 : parseMethodDescriptor "(Ljava/util/List;)Lcom/example/outcomist/outcomist/Catalogue$Proxy;" = some ⟨[(.object "java/util/List")], some (.object "com/example/outcomist/outcomist/Catalogue$Proxy")⟩ := by decide +kernel
theorem own_pd10 : parseMethodDescriptor "([C)V" = some ⟨[(.array .char)], none⟩ := by decide +kernel
theorem own_n1 (c0 : Int32) : ¬ ((255 : Int32) < (nar .char ((c0 &&& (255 : Int32)).toUInt32.toUInt16.toUInt32.toInt32))) := by
  simp only [Int32.lt_iff_toInt_lt]
  have nf1 := rng32 c0
  have nf2 : (255 : Int32).toInt = 255 := by decide
  have nf3 := c_mask c0 (255 : Int32) 8 (by decide) (by decide)
  have nr4 := rng32 ((c0 &&& (255 : Int32)).toUInt32.toUInt16.toUInt32.toInt32)
  have nf4 := c_i2c (c0 &&& (255 : Int32))
  have nf5 : ((nar .char ((c0 &&& (255 : Int32)).toUInt32.toUInt16.toUInt32.toInt32)).toInt - ((c0 &&& (255 : Int32)).toUInt32.toUInt16.toUInt32.toInt32).toInt) % 65536 = 0 ∧ 0 ≤ (nar .char ((c0 &&& (255 : Int32)).toUInt32.toUInt16.toUInt32.toInt32)).toInt ∧ (nar .char ((c0 &&& (255 : Int32)).toUInt32.toUInt16.toUInt32.toInt32)).toInt < 65536 := c_i2c ((c0 &&& (255 : Int32)).toUInt32.toUInt16.toUInt32.toInt32)
  omega
theorem own_n2 (c0 : Int32) : ¬ ((255 : Int32) < (nar .char ((c0 &&& (255 : Int32)).toUInt32.toUInt16.toUInt32.toInt32))) := by
  simp only [Int32.lt_iff_toInt_lt]
  have nf1 := rng32 c0
  have nf2 : (255 : Int32).toInt = 255 := by decide
  have nf3 := c_mask c0 (255 : Int32) 8 (by decide) (by decide)
  have nr4 := rng32 ((c0 &&& (255 : Int32)).toUInt32.toUInt16.toUInt32.toInt32)
  have nf4 := c_i2c (c0 &&& (255 : Int32))
  have nf5 : ((nar .char ((c0 &&& (255 : Int32)).toUInt32.toUInt16.toUInt32.toInt32)).toInt - ((c0 &&& (255 : Int32)).toUInt32.toUInt16.toUInt32.toInt32).toInt) % 65536 = 0 ∧ 0 ≤ (nar .char ((c0 &&& (255 : Int32)).toUInt32.toUInt16.toUInt32.toInt32)).toInt ∧ (nar .char ((c0 &&& (255 : Int32)).toUInt32.toUInt16.toUInt32.toInt32)).toInt < 65536 := c_i2c ((c0 &&& (255 : Int32)).toUInt32.toUInt16.toUInt32.toInt32)
  omega
theorem own_n3 (c1 : Int32) : ¬ ((255 : Int32) < (nar .char ((c1 &&& (255 : Int32)).toUInt32.toUInt16.toUInt32.toInt32))) := by
  simp only [Int32.lt_iff_toInt_lt]
  have nf1 := rng32 c1
  have nf2 : (255 : Int32).toInt = 255 := by decide
  have nf3 := c_mask c1 (255 : Int32) 8 (by decide) (by decide)
  have nr4 := rng32 ((c1 &&& (255 : Int32)).toUInt32.toUInt16.toUInt32.toInt32)
  have nf4 := c_i2c (c1 &&& (255 : Int32))
  have nf5 : ((nar .char ((c1 &&& (255 : Int32)).toUInt32.toUInt16.toUInt32.toInt32)).toInt - ((c1 &&& (255 : Int32)).toUInt32.toUInt16.toUInt32.toInt32).toInt) % 65536 = 0 ∧ 0 ≤ (nar .char ((c1 &&& (255 : Int32)).toUInt32.toUInt16.toUInt32.toInt32)).toInt ∧ (nar .char ((c1 &&& (255 : Int32)).toUInt32.toUInt16.toUInt32.toInt32)).toInt < 65536 := c_i2c ((c1 &&& (255 : Int32)).toUInt32.toUInt16.toUInt32.toInt32)
  omega
theorem own_dsI0_0 : decode jdk_42_method_149_code 0 = .ok (.aload_n 0, 1) := by decide +kernel
theorem own_dsI0_1 : decode jdk_42_method_149_code 1 = .ok (.invokespecial 1, 3) := by decide +kernel
theorem own_dsI0_4 : decode jdk_42_method_149_code 4 = .ok (.iload_n 3, 1) := by decide +kernel
theorem own_dsI0_5 : decode jdk_42_method_149_code 5 = .ok (.ifCond .ne 22, 3) := by decide +kernel
theorem own_dsI0_8 : decode jdk_42_method_149_code 8 = .ok (.aload_n 0, 1) := by decide +kernel
theorem own_dsI0_9 : decode jdk_42_method_149_code 9 = .ok (.ldc 7, 2) := by decide +kernel
theorem own_dsI0_11 : decode jdk_42_method_149_code 11 = .ok (.getfield 9, 3) := by decide +kernel
theorem own_dsI0_14 : decode jdk_42_method_149_code 14 = .ok (.putfield 9, 3) := by decide +kernel
theorem own_dsI0_17 : decode jdk_42_method_149_code 17 = .ok (.aload_n 0, 1) := by decide +kernel
theorem own_dsI0_18 : decode jdk_42_method_149_code 18 = .ok (.ldc 7, 2) := by decide +kernel
theorem own_dsI0_20 : decode jdk_42_method_149_code 20 = .ok (.getfield 15, 3) := by decide +kernel
theorem own_dsI0_23 : decode jdk_42_method_149_code 23 = .ok (.putfield 15, 3) := by decide +kernel
theorem own_dsI0_26 : decode jdk_42_method_149_code 26 = .ok (.return_, 1) := by decide +kernel
theorem own_pn_own_sI0 : plainName "java/lang/String" = true := by first | (simp [plainName, overriddenIn]; done) | decide +kernel
theorem own_ef_own_sI0 (m : MethodId) (x0 : Addr) (x1 : Addr) (x2 : Int32) (x3 : Int32) : entryFrame m #[(.ref x0), (.ref x1), (.int x2), (.int x3), .null] 6 = mkF m 0 #[.val (.ref x0), .val (.ref x1), .val (.int x2), .val (.int x3), .val .null, .unset] [] := by first | (simp [entryFrame, mkF, argsToLocals, Value.category]; done) | rfl
def Q_own_sI0 (Z : State) (a1 : Addr) (ac : Addr) (uc : Value) (h0 : Heap) (n0 : Nat) (v : Option Value) (h : Heap) (L : List Loc) : Prop := v = none ∧ Fr n0 L ∧ Keep h0 h [a1] ∧ Exa Z h a1 "java/lang/String" ∧ Fld Z h a1 "java/lang/String" "coder" "B" (.int (0 : Int32)) ∧ ∃ (y : Addr) (ky : ClassId), Fld Z h a1 "java/lang/String" "value" "[B" (.ref y) ∧ y ≠ a1 ∧ Arv Z h y ky .byte (0 : Int32) [] (.int (0 : Int32))
set_option maxRecDepth 65536 in
set_option maxHeartbeats 40000000 in
theorem own_sI0 (l : Launch) (Z : State) (a0 : Array Value) (hw : ∀ d ∈ tables_1, d.before a0 Z = true) (ws : List Jvm.Cond) (a1 : Addr) (ac : Addr) (uc : Value) (h0 : Heap) (n0 : Nat) (Z0 : n0 ≤ h0.size) (E_a1 : Exa Z h0 a1 "java/lang/String") (Fv : Fld Z h0 a1 "java/lang/String" "value" "[B" .null) (Fc : Fld Z h0 a1 "java/lang/String" "coder" "B" uc) (g_a1 : n0 ≤ a1) :
    MetFree l (⟨"java/lang/String", "<init>", "([CIILjava/lang/Void;)V"⟩ : MethodName) (head1 (Jvm.Cond.code (⟨"java/lang/String", "<init>", "([CIILjava/lang/Void;)V"⟩ : MethodName) jdk_42_method_149_code 6 none :: ws) ({ frames := 1, cells := 2, slots := 4, locals := 12 } : Room)) (fun a U => a = #[(.ref a1), (.ref ac), (.int (0 : Int32)), (.int (0 : Int32)), .null] ∧ Z.Warmed39 U.vm ∧ U.heap = h0 ∧ CHv Z [("java/lang/String", 7)] U.vm h0) (fun _ _ _ _ _ => True) (fun _ U o U' => ∃ v L, o = .returned v ∧ Q_own_sI0 Z a1 ac uc h0 n0 v U'.heap L ∧ CHr Z [("java/lang/String", 7)] U.vm U.heap U'.vm U'.heap ∧ ReturnedEndW U o U' L ({ frames := 1, cells := 2, slots := 4, locals := 12 } : Room).cells ({ frames := 1, cells := 2, slots := 4, locals := 12 } : Room).slots) := by
  refine MetFree.of_bodySF (plainFor_of_name own_pn_own_sI0) hisR ?_
  intro p e s m args below meth c s₁ Bd hml0 hP hK
  obtain ⟨rfl, hZ, hh, hCH⟩ := hP
  have hx := Bd.exec
  have hby := Bd.bytes
  have hml : c.maxLocals = 6 := hml0
  have hown : s.vm.findClass "java/lang/String" = some m.cls := findClass_of_methodNamed Bd.named
  have hnm := (name_of_methodNamed Bd.named Bd.method).1
  have X0 : Stand p l e ({ frames := 1, cells := 2, slots := 4, locals := 12 } : Room) s m #[(.ref a1), (.ref ac), (.int (0 : Int32)), (.int (0 : Int32)), .null] below meth c s₁ [] 0 0 := Stand.of_body Bd
  have e0 : s₁.heap = h0 := by rw [← hh, Bd.state]; rfl
  have N0 := Fr.nil n0
  have pre0 : Goes p e below s₁ (entryFrame m #[(.ref a1), (.ref ac), (.int (0 : Int32)), (.int (0 : Int32)), .null] 6) s₁ (mkF m 0 #[.val (.ref a1), .val (.ref ac), .val (.int (0 : Int32)), .val (.int (0 : Int32)), .val .null, .unset] []) := fun t k => castTop (own_ef_own_sI0 m a1 ac (0 : Int32) (0 : Int32)) k
  have hEL : EW Z a0 [("java/lang/String", 7)] := (EW.cons (hw _ (List.mem_of_getElem? (i := 81) rfl)) (by simp) EW.nil)
  have CH0 : CHr Z [("java/lang/String", 7)] s.vm h0 s.vm h0 := CHr.refl hCH
  have pre1 : Goes p e below s₁ (entryFrame m #[(.ref a1), (.ref ac), (.int (0 : Int32)), (.int (0 : Int32)), .null] 6) s₁ (mkF m 1 #[.val (.ref a1), .val (.ref ac), .val (.int (0 : Int32)), .val (.int (0 : Int32)), .val .null, .unset] [(.ref a1)]) := fun t kt => pre0 t (by
      show Steps p.tables e below (s₁.setTop (mkF m 0 #[.val (.ref a1), .val (.ref ac), .val (.int (0 : Int32)), .val (.int (0 : Int32)), .val .null, .unset] [])) _
      refine XS.aloadN X0.here hx rfl (hb hby own_dsI0_0) rfl rfl ?_
      exact kt)
  obtain ⟨T2, X2, e2, st2⟩ := initO X0 hx hZ hown (hw _ (List.mem_of_getElem? (i := 80) rfl)) (hw _ (List.mem_of_getElem? (i := 19) rfl)) (hw _ (List.mem_of_getElem? (i := 20) rfl)) e0 (g := (mkF m 1 #[.val (.ref a1), .val (.ref ac), .val (.int (0 : Int32)), .val (.int (0 : Int32)), .val .null, .unset] [(.ref a1)])) rfl (by rw [hml]; rfl) rfl (hb hby own_dsI0_1) (by decide) (W := 0) (by show 2 * 0 + _ ≤ _; exact Nat.le_of_eq rfl) (by decide)
  have pre3 : Goes p e below s₁ (entryFrame m #[(.ref a1), (.ref ac), (.int (0 : Int32)), (.int (0 : Int32)), .null] 6) T2 (mkF m 4 #[.val (.ref a1), .val (.ref ac), .val (.int (0 : Int32)), .val (.int (0 : Int32)), .val .null, .unset] []) := fun t kt => pre1 t (st2 t kt)
  have SF0_a1 : Safe Z [("java/lang/String", 7)] s.vm h0 a1 := (own_safe hZ.alike E_a1 Fv)
  have pre4 : Goes p e below s₁ (entryFrame m #[(.ref a1), (.ref ac), (.int (0 : Int32)), (.int (0 : Int32)), .null] 6) T2 (mkF m 9 #[.val (.ref a1), .val (.ref ac), .val (.int (0 : Int32)), .val (.int (0 : Int32)), .val .null, .unset] [(.ref a1)]) := fun t kt => pre3 t (by
      show Steps p.tables e below (T2.setTop (mkF m 4 #[.val (.ref a1), .val (.ref ac), .val (.int (0 : Int32)), .val (.int (0 : Int32)), .val .null, .unset] [])) _
      refine XS.iloadN X2.here hx rfl (hb hby own_dsI0_4) rfl ?_
      show Steps p.tables e below (T2.setTop (mkF m 5 #[.val (.ref a1), .val (.ref ac), .val (.int (0 : Int32)), .val (.int (0 : Int32)), .val .null, .unset] [(.int (0 : Int32))])) _
      refine XS.ifNo X2.here hx rfl (hb hby own_dsI0_5) rfl ((if0 _ _).trans (teq (by decide : (0 : Int32) = (0 : Int32))).2) ?_
      show Steps p.tables e below (T2.setTop (mkF m 8 #[.val (.ref a1), .val (.ref ac), .val (.int (0 : Int32)), .val (.int (0 : Int32)), .val .null, .unset] [])) _
      refine XS.aloadN X2.here hx rfl (hb hby own_dsI0_8) rfl rfl ?_
      exact kt)
  have wS5 : ∀ a ∈ Bundle.stringAtoms, a.before a0 Z = true := fun d hd => by
    simp only [Bundle.stringAtoms, List.mem_cons, List.not_mem_nil, or_false] at hd
    rcases hd with rfl | rfl | rfl | rfl | rfl | rfl | rfl
    · exact (hw _ (List.mem_of_getElem? (i := 71) rfl))
    · exact (hw _ (List.mem_of_getElem? (i := 70) rfl))
    · exact (hw _ (List.mem_of_getElem? (i := 82) rfl))
    · exact (hw _ (List.mem_of_getElem? (i := 83) rfl))
    · exact (hw _ (List.mem_of_getElem? (i := 84) rfl))
    · exact (hw _ (List.mem_of_getElem? (i := 85) rfl))
    · exact (hw _ (List.mem_of_getElem? (i := 86) rfl))
  obtain ⟨sa5, T5, h5, kk5, sd5, ky5, X5, e5, E5, hS5, hk5, hZ, hown, Es5, Fc5, Fv5, Vd5, ls5, ld5, hC5, Lt5, nS5, st5⟩ := ldcCH (s := s) (vm0 := s.vm) X2 hx hZ hown (hw _ (List.mem_of_getElem? (i := 81) rfl)) wS5 e2 (State.WarmedH.since (State.WarmedH.refl s) 0) (Nat.zero_le _) hEL (List.mem_of_getElem? (i := 0) rfl) CH0.1 (vs := []) (z := (0 : Int32)) ⟨by simp, by simp⟩ (by decide) (by decide) (g := (mkF m 9 #[.val (.ref a1), .val (.ref ac), .val (.int (0 : Int32)), .val (.int (0 : Int32)), .val .null, .unset] [(.ref a1)])) rfl (hb hby own_dsI0_9) (n := 0) (by decide) (by decide) (by decide) (by decide)
  have K5 : Keep h0 h5 [a1] := (Keep.refl h0 [a1]).ext E5
  have CH5 : CHr Z [("java/lang/String", 7)] s.vm h0 T5.vm h5 := CH0.trans hC5
  have SF5_a1 : Safe Z [("java/lang/String", 7)] T5.vm h5 a1 := CHr.safe hC5 E_a1.lt SF0_a1
  have pre6 : Goes p e below s₁ (entryFrame m #[(.ref a1), (.ref ac), (.int (0 : Int32)), (.int (0 : Int32)), .null] 6) T5 (mkF m 11 #[.val (.ref a1), .val (.ref ac), .val (.int (0 : Int32)), .val (.int (0 : Int32)), .val .null, .unset] [(.ref sa5), (.ref a1)]) := fun t kt => pre4 t (st5 t kt)
  obtain ⟨T7, X7, e7, st7⟩ := getF X5 hx hZ hown (host := "") (Or.inl (hw _ (List.mem_of_getElem? (i := 87) rfl))) Via.refl e5 Fv5 (g := (mkF m 11 #[.val (.ref a1), .val (.ref ac), .val (.int (0 : Int32)), .val (.int (0 : Int32)), .val .null, .unset] [(.ref sa5), (.ref a1)])) rfl rfl (hb hby own_dsI0_11)
  have pre8 : Goes p e below s₁ (entryFrame m #[(.ref a1), (.ref ac), (.int (0 : Int32)), (.int (0 : Int32)), .null] 6) T7 (mkF m 14 #[.val (.ref a1), .val (.ref ac), .val (.int (0 : Int32)), .val (.int (0 : Int32)), .val .null, .unset] [(.ref sd5), (.ref a1)]) := fun t kt => pre6 t (st7 t kt)
  obtain ⟨T9, h9, X9, e9, W9, st9⟩ := putF X7 hx hZ hown (host := "") (Or.inl (hw _ (List.mem_of_getElem? (i := 87) rfl))) Via.refl e7 (Fv.ext E5) (E_a1.ext E5) (Or.inr ⟨(hw _ (List.mem_of_getElem? (i := 83) rfl)), rfl, hnm⟩) (hw _ (List.mem_of_getElem? (i := 70) rfl)) (ty := (.array .byte)) (by decide) rfl rfl (g := (mkF m 14 #[.val (.ref a1), .val (.ref ac), .val (.int (0 : Int32)), .val (.int (0 : Int32)), .val .null, .unset] [(.ref sd5), (.ref a1)])) rfl rfl (hb hby own_dsI0_14)
  have Fw9 := (Fv.ext E5).same W9
  have K9 : Keep h0 h9 [a1] := K5.wr W9 (Or.inl (List.mem_of_getElem? (i := 0) rfl))
  have CH9 : CHr Z [("java/lang/String", 7)] s.vm h0 T5.vm h9 := CH5.trans (CHr.wr W9 SF5_a1 CH5.1)
  have SF9_a1 : Safe Z [("java/lang/String", 7)] T5.vm h9 a1 := Safe.wr W9 SF5_a1 CH5.1 SF5_a1
  have N9 := Fr.snoc X9 N0 g_a1
  have pre10 : Goes p e below s₁ (entryFrame m #[(.ref a1), (.ref ac), (.int (0 : Int32)), (.int (0 : Int32)), .null] 6) T9 (mkF m 17 #[.val (.ref a1), .val (.ref ac), .val (.int (0 : Int32)), .val (.int (0 : Int32)), .val .null, .unset] []) := fun t kt => pre8 t (st9 t kt)
  have pre11 : Goes p e below s₁ (entryFrame m #[(.ref a1), (.ref ac), (.int (0 : Int32)), (.int (0 : Int32)), .null] 6) T9 (mkF m 18 #[.val (.ref a1), .val (.ref ac), .val (.int (0 : Int32)), .val (.int (0 : Int32)), .val .null, .unset] [(.ref a1)]) := fun t kt => pre10 t (by
      show Steps p.tables e below (T9.setTop (mkF m 17 #[.val (.ref a1), .val (.ref ac), .val (.int (0 : Int32)), .val (.int (0 : Int32)), .val .null, .unset] [])) _
      refine XS.aloadN X9.here hx rfl (hb hby own_dsI0_17) rfl rfl ?_
      exact kt)
  have pre13 : Goes p e below s₁ (entryFrame m #[(.ref a1), (.ref ac), (.int (0 : Int32)), (.int (0 : Int32)), .null] 6) T9 (mkF m 20 #[.val (.ref a1), .val (.ref ac), .val (.int (0 : Int32)), .val (.int (0 : Int32)), .val .null, .unset] [(.ref sa5), (.ref a1)]) := fun t kt => pre11 t (by
      show Steps p.tables e below (T9.setTop (mkF m 18 #[.val (.ref a1), .val (.ref ac), .val (.int (0 : Int32)), .val (.int (0 : Int32)), .val .null, .unset] [(.ref a1)])) _
      refine ldcAgain (s := s) (vm0 := T5.vm) X9 hx hZ hown (hw _ (List.mem_of_getElem? (i := 81) rfl)) Lt5 (g := (mkF m 18 #[.val (.ref a1), .val (.ref ac), .val (.int (0 : Int32)), .val (.int (0 : Int32)), .val .null, .unset] [(.ref a1)])) rfl (hb hby own_dsI0_18) _ ?_
      exact kt)
  obtain ⟨T14, X14, e14, st14⟩ := getF X9 hx hZ hown (host := "") (Or.inl (hw _ (List.mem_of_getElem? (i := 88) rfl))) Via.refl e9 (Fc5.other W9 (Or.inl (Ne.symm (nS5 a1 SF5_a1).1))) (g := (mkF m 20 #[.val (.ref a1), .val (.ref ac), .val (.int (0 : Int32)), .val (.int (0 : Int32)), .val .null, .unset] [(.ref sa5), (.ref a1)])) rfl rfl (hb hby own_dsI0_20)
  have pre15 : Goes p e below s₁ (entryFrame m #[(.ref a1), (.ref ac), (.int (0 : Int32)), (.int (0 : Int32)), .null] 6) T14 (mkF m 23 #[.val (.ref a1), .val (.ref ac), .val (.int (0 : Int32)), .val (.int (0 : Int32)), .val .null, .unset] [(.int (0 : Int32)), (.ref a1)]) := fun t kt => pre13 t (st14 t kt)
  obtain ⟨T16, h16, X16, e16, W16, st16⟩ := putFN X14 hx hZ hown (hw _ (List.mem_of_getElem? (i := 88) rfl)) Via.refl e14 ((Fc.ext E5).other W9 (Or.inr (slot_ne (Or.inr (hw _ (List.mem_of_getElem? (i := 84) rfl))) (Or.inr (hw _ (List.mem_of_getElem? (i := 83) rfl))) (by decide) (t := .byte) (t' := (.array .byte)) (by decide) (by decide)))) ((E_a1.ext E5).wr W9) (Or.inr ⟨(hw _ (List.mem_of_getElem? (i := 84) rfl)), rfl, hnm⟩) (hw _ (List.mem_of_getElem? (i := 70) rfl)) (ty := .byte) (v' := (.int (0 : Int32))) (by decide) rfl rfl (g := (mkF m 23 #[.val (.ref a1), .val (.ref ac), .val (.int (0 : Int32)), .val (.int (0 : Int32)), .val .null, .unset] [(.int (0 : Int32)), (.ref a1)])) rfl rfl (hb hby own_dsI0_23)
  have Fw16 := ((Fc.ext E5).other W9 (Or.inr (slot_ne (Or.inr (hw _ (List.mem_of_getElem? (i := 84) rfl))) (Or.inr (hw _ (List.mem_of_getElem? (i := 83) rfl))) (by decide) (t := .byte) (t' := (.array .byte)) (by decide) (by decide)))).same W16
  have K16 : Keep h0 h16 [a1] := K9.wr W16 (Or.inl (List.mem_of_getElem? (i := 0) rfl))
  have CH16 : CHr Z [("java/lang/String", 7)] s.vm h0 T5.vm h16 := CH9.trans (CHr.wr W16 SF9_a1 CH9.1)
  have SF16_a1 : Safe Z [("java/lang/String", 7)] T5.vm h16 a1 := Safe.wr W16 SF9_a1 CH9.1 SF9_a1
  have N16 := Fr.snoc X16 N9 g_a1
  have pre17 : Goes p e below s₁ (entryFrame m #[(.ref a1), (.ref ac), (.int (0 : Int32)), (.int (0 : Int32)), .null] 6) T16 (mkF m 26 #[.val (.ref a1), .val (.ref ac), .val (.int (0 : Int32)), .val (.int (0 : Int32)), .val .null, .unset] []) := fun t kt => pre15 t (st16 t kt)
  obtain ⟨fs, hr, hrun, hended, hEnd⟩ := X16.leaveW hS5 (by rw [e16]; exact (Nat.le_trans (Nat.le_trans hk5 (Keep.of_wr W9).1) (Keep.of_wr W16).1)) (v := none) (fun _ => rfl)
  refine ⟨_, _, pre17 _ ?_, hrun, hended, _, _, rfl, ?_, ?_, hEnd.1, hEnd.2.1, hEnd.2.2.1, hEnd.2.2.2.mono (by decide) (by decide)⟩
  · show Steps p.tables e below (T16.setTop (mkF m 26 #[.val (.ref a1), .val (.ref ac), .val (.int (0 : Int32)), .val (.int (0 : Int32)), .val .null, .unset] [])) _
    exact X16.returnOut hx Bd.returns (hb hby own_dsI0_26) hr
  · show Q_own_sI0 Z a1 ac uc h0 n0 _ T16.heap _
    rw [e16]
    exact ⟨rfl, N16, K16, (((E_a1.ext E5).wr W9).wr W16), Fw16, sd5, _, (Fw9.other W16 (Or.inr (slot_ne (Or.inr (hw _ (List.mem_of_getElem? (i := 83) rfl))) (Or.inr (hw _ (List.mem_of_getElem? (i := 84) rfl))) (by decide) (t := (.array .byte)) (t' := .byte) (by decide) (by decide)))), (Ne.symm (nS5 a1 SF5_a1).2), ((Vd5.other W9 (Ne.symm (nS5 a1 SF5_a1).2)).other W16 (Ne.symm (nS5 a1 SF5_a1).2))⟩
  · show CHr Z [("java/lang/String", 7)] s.vm s.heap T16.vm T16.heap
    rw [hh, e16]
    exact CH16.trans (CHv.at (s := s) (vm0 := T5.vm) X16 hZ hEL CH16.1)
theorem own_dsJ0_0 : decode jdk_42_method_3_code 0 = .ok (.aload_n 0, 1) := by decide +kernel
theorem own_dsJ0_1 : decode jdk_42_method_3_code 1 = .ok (.aload_n 1, 1) := by decide +kernel
theorem own_dsJ0_2 : decode jdk_42_method_3_code 2 = .ok (.iconst 0, 1) := by decide +kernel
theorem own_dsJ0_3 : decode jdk_42_method_3_code 3 = .ok (.aload_n 1, 1) := by decide +kernel
theorem own_dsJ0_4 : decode jdk_42_method_3_code 4 = .ok (.arraylength, 1) := by decide +kernel
theorem own_dsJ0_5 : decode jdk_42_method_3_code 5 = .ok (.aconst_null, 1) := by decide +kernel
theorem own_dsJ0_6 : decode jdk_42_method_3_code 6 = .ok (.invokespecial 27, 3) := by decide +kernel
theorem own_dsJ0_9 : decode jdk_42_method_3_code 9 = .ok (.return_, 1) := by decide +kernel
theorem own_pn_own_sJ0 : plainName "java/lang/String" = true := by first | (simp [plainName, overriddenIn]; done) | decide +kernel
theorem own_ef_own_sJ0 (m : MethodId) (x0 : Addr) (x1 : Addr) : entryFrame m #[(.ref x0), (.ref x1)] 2 = mkF m 0 #[.val (.ref x0), .val (.ref x1)] [] := by first | (simp [entryFrame, mkF, argsToLocals, Value.category]; done) | rfl
def Q_own_sJ0 (Z : State) (a1 : Addr) (ac : Addr) (kc : ClassId) (uc : Value) (h0 : Heap) (n0 : Nat) (v : Option Value) (h : Heap) (L : List Loc) : Prop := v = none ∧ Fr n0 L ∧ Keep h0 h [a1] ∧ Exa Z h a1 "java/lang/String" ∧ Fld Z h a1 "java/lang/String" "coder" "B" (.int (0 : Int32)) ∧ ∃ (y : Addr) (ky : ClassId), Fld Z h a1 "java/lang/String" "value" "[B" (.ref y) ∧ y ≠ a1 ∧ Arv Z h y ky .byte (0 : Int32) [] (.int (0 : Int32))
set_option maxRecDepth 65536 in
set_option maxHeartbeats 40000000 in
theorem own_sJ0 (l : Launch) (Z : State) (a0 : Array Value) (hw : ∀ d ∈ tables_1, d.before a0 Z = true) (ws : List Jvm.Cond) (a1 : Addr) (ac : Addr) (kc : ClassId) (uc : Value) (h0 : Heap) (n0 : Nat) (Z0 : n0 ≤ h0.size) (E_a1 : Exa Z h0 a1 "java/lang/String") (Fv : Fld Z h0 a1 "java/lang/String" "value" "[B" .null) (Fc : Fld Z h0 a1 "java/lang/String" "coder" "B" uc) (g_a1 : n0 ≤ a1) (V_ac : Arv Z h0 ac kc .char (0 : Int32) [] (.int (0 : Int32))) :
    MetFree l (⟨"java/lang/String", "<init>", "([C)V"⟩ : MethodName) (head1 (Jvm.Cond.code (⟨"java/lang/String", "<init>", "([C)V"⟩ : MethodName) jdk_42_method_3_code 2 none :: ws) ({ frames := 2, cells := 2, slots := 4, locals := 29 } : Room)) (fun a U => a = #[(.ref a1), (.ref ac)] ∧ Z.Warmed39 U.vm ∧ U.heap = h0 ∧ CHv Z [("java/lang/String", 7)] U.vm h0) (fun _ _ _ _ _ => True) (fun _ U o U' => ∃ v L, o = .returned v ∧ Q_own_sJ0 Z a1 ac kc uc h0 n0 v U'.heap L ∧ CHr Z [("java/lang/String", 7)] U.vm U.heap U'.vm U'.heap ∧ ReturnedEndW U o U' L ({ frames := 2, cells := 2, slots := 4, locals := 29 } : Room).cells ({ frames := 2, cells := 2, slots := 4, locals := 29 } : Room).slots) := by
  refine MetFree.of_bodySF (plainFor_of_name own_pn_own_sJ0) hisR ?_
  intro p e s m args below meth c s₁ Bd hml0 hP hK
  obtain ⟨rfl, hZ, hh, hCH⟩ := hP
  have hx := Bd.exec
  have hby := Bd.bytes
  have hml : c.maxLocals = 2 := hml0
  have hown : s.vm.findClass "java/lang/String" = some m.cls := findClass_of_methodNamed Bd.named
  have hnm := (name_of_methodNamed Bd.named Bd.method).1
  have X0 : Stand p l e ({ frames := 2, cells := 2, slots := 4, locals := 29 } : Room) s m #[(.ref a1), (.ref ac)] below meth c s₁ [] 0 0 := Stand.of_body Bd
  have e0 : s₁.heap = h0 := by rw [← hh, Bd.state]; rfl
  have N0 := Fr.nil n0
  have pre0 : Goes p e below s₁ (entryFrame m #[(.ref a1), (.ref ac)] 2) s₁ (mkF m 0 #[.val (.ref a1), .val (.ref ac)] []) := fun t k => castTop (own_ef_own_sJ0 m a1 ac) k
  have hEL : EW Z a0 [("java/lang/String", 7)] := (EW.cons (hw _ (List.mem_of_getElem? (i := 81) rfl)) (by simp) EW.nil)
  have CH0 : CHr Z [("java/lang/String", 7)] s.vm h0 s.vm h0 := CHr.refl hCH
  have pre1 : Goes p e below s₁ (entryFrame m #[(.ref a1), (.ref ac)] 2) s₁ (mkF m 4 #[.val (.ref a1), .val (.ref ac)] [(.ref ac), (.int (0 : Int32)), (.ref ac), (.ref a1)]) := fun t kt => pre0 t (by
      show Steps p.tables e below (s₁.setTop (mkF m 0 #[.val (.ref a1), .val (.ref ac)] [])) _
      refine XS.aloadN X0.here hx rfl (hb hby own_dsJ0_0) rfl rfl ?_
      show Steps p.tables e below (s₁.setTop (mkF m 1 #[.val (.ref a1), .val (.ref ac)] [(.ref a1)])) _
      refine XS.aloadN X0.here hx rfl (hb hby own_dsJ0_1) rfl rfl ?_
      show Steps p.tables e below (s₁.setTop (mkF m 2 #[.val (.ref a1), .val (.ref ac)] [(.ref ac), (.ref a1)])) _
      refine XS.iconst X0.here hx rfl (hb hby own_dsJ0_2) ?_
      show Steps p.tables e below (s₁.setTop (mkF m 3 #[.val (.ref a1), .val (.ref ac)] [(.int (0 : Int32)), (.ref ac), (.ref a1)])) _
      refine XS.aloadN X0.here hx rfl (hb hby own_dsJ0_3) rfl rfl ?_
      exact kt)
  obtain ⟨cl2, Ar2, q2, S2, N_2, H2, G2⟩ := (id (V_ac))
  have pre3 : Goes p e below s₁ (entryFrame m #[(.ref a1), (.ref ac)] 2) s₁ (mkF m 6 #[.val (.ref a1), .val (.ref ac)] [.null, (.int (0 : Int32)), (.int (0 : Int32)), (.ref ac), (.ref a1)]) := fun t kt => pre1 t (by
      show Steps p.tables e below (s₁.setTop (mkF m 4 #[.val (.ref a1), .val (.ref ac)] [(.ref ac), (.int (0 : Int32)), (.ref ac), (.ref a1)])) _
      refine X0.arraylength hx (by (try rw [e0]); exact Ar2.1) (State.isArrayOf_alike hZ.alike Ar2.2.1) (g := (mkF m 4 #[.val (.ref a1), .val (.ref ac)] [(.ref ac), (.int (0 : Int32)), (.ref ac), (.ref a1)])) rfl rfl (hb hby own_dsJ0_4) _ ?_
      rw [len_of S2 N_2]
      show Steps p.tables e below (s₁.setTop (mkF m 5 #[.val (.ref a1), .val (.ref ac)] [(.int (0 : Int32)), (.int (0 : Int32)), (.ref ac), (.ref a1)])) _
      refine XS.aconstNull X0.here hx rfl (hb hby own_dsJ0_5) ?_
      exact kt)
  obtain ⟨_, _, ⟨T4, L4, k4, n4⟩, -, XX4, hSS4, hGG4, ⟨Lc4, hQ4, l4, y4, z4, hCr4⟩, st4⟩ := X0.specialBackS hx (y := (⟨"java/lang/String", "<init>", "([CIILjava/lang/Void;)V"⟩ : MethodName)) rfl hown (mvT hZ (hw _ (List.mem_of_getElem? (i := 76) rfl))) (mvT hZ (hw _ (List.mem_of_getElem? (i := 77) rfl))) (mvT hZ (hw _ (List.mem_of_getElem? (i := 79) rfl))) (by decide) (backOfSH (s := s) (vm0 := s.vm) (W := 0) (own_sI0 l Z a0 hw [] a1 ac uc h0 n0 Z0 E_a1 Fv Fc g_a1) hZ (hw _ (List.mem_of_getElem? (i := 79) rfl)) (hw _ (List.mem_of_getElem? (i := 71) rfl)) (by decide) (by decide) hEL CH0.1) (g := (mkF m 6 #[.val (.ref a1), .val (.ref ac)] [.null, (.int (0 : Int32)), (.int (0 : Int32)), (.ref ac), (.ref a1)])) rfl (by rw [hml]; rfl) (Steps.refl _) (a := a1) (argsL := [(.ref ac), (.int (0 : Int32)), (.int (0 : Int32)), .null]) (rest := []) (lenOf own_pd0 rfl) rfl (by show 2 * 0 + _ ≤ _; exact Nat.le_of_eq rfl) (hb hby own_dsJ0_6) (fun _ _ => ⟨rfl, e0, (by decide : 0 + 2 ≤ _), (by decide : 0 + 4 ≤ _)⟩)
  dsimp only [Pt.U, Pt.locs, Pt.cells, Pt.slots] at hCr4 hSS4 hGG4 XX4 l4 y4 z4 st4 hQ4
  subst l4 y4 z4
  obtain ⟨rfl, N4q, K4q, Rest4⟩ := hQ4
  have N4 := Fr.app N0 N4q
  obtain ⟨X4, hS4, hZ, hown⟩ := rebS (s := s) (vm0 := s.vm) (State.WarmedH.since (State.WarmedH.refl s) 0) (by rw [e0]; exact (Nat.zero_le _)) XX4 hSS4 hGG4 hZ hown
  have KC4 : Keep h0 T4.heap [a1] := (Keep.refl h0 [a1]).trans K4q (allS (Or.inl (List.mem_of_getElem? (i := 0) rfl)) all0)
  have CH4 : CHr Z [("java/lang/String", 7)] s.vm h0 T4.vm T4.heap := CH0.trans hCr4
  have pre5 : Goes p e below s₁ (entryFrame m #[(.ref a1), (.ref ac)] 2) T4 (mkF m 9 #[.val (.ref a1), .val (.ref ac)] []) := fun t kt => pre3 t (st4.trans kt)
  obtain ⟨fs, hr, hrun, hended, hEnd⟩ := X4.leaveW hS4 (Nat.le_refl _) (v := none) (fun _ => rfl)
  refine ⟨_, _, pre5 _ ?_, hrun, hended, _, _, rfl, ?_, ?_, hEnd.1, hEnd.2.1, hEnd.2.2.1, hEnd.2.2.2.mono (by decide) (by decide)⟩
  · show Steps p.tables e below (T4.setTop (mkF m 9 #[.val (.ref a1), .val (.ref ac)] [])) _
    exact X4.returnOut hx Bd.returns (hb hby own_dsJ0_9) hr
  · show Q_own_sJ0 Z a1 ac kc uc h0 n0 _ T4.heap _
    exact ⟨rfl, N4, KC4, Rest4⟩
  · show CHr Z [("java/lang/String", 7)] s.vm s.heap T4.vm T4.heap
    rw [hh]
    exact CH4.trans (CHv.at (s := s) (vm0 := T4.vm) X4 hZ hEL CH4.1)
theorem own_dcmpI1_0 : decode jdk_52_method_21_code 0 = .ok (.iconst 0, 1) := by decide +kernel
theorem own_dcmpI1_1 : decode jdk_52_method_21_code 1 = .ok (.istore 5, 2) := by decide +kernel
theorem own_dcmpI1_3 : decode jdk_52_method_21_code 3 = .ok (.iload 5, 2) := by decide +kernel
theorem own_dcmpI1_5 : decode jdk_52_method_21_code 5 = .ok (.iload 4, 2) := by decide +kernel
theorem own_dcmpI1_7 : decode jdk_52_method_21_code 7 = .ok (.if_icmp .ge 37, 3) := by decide +kernel
theorem own_dcmpI1_10 : decode jdk_52_method_21_code 10 = .ok (.aload_n 0, 1) := by decide +kernel
theorem own_dcmpI1_11 : decode jdk_52_method_21_code 11 = .ok (.iload_n 1, 1) := by decide +kernel
theorem own_dcmpI1_12 : decode jdk_52_method_21_code 12 = .ok (.caload, 1) := by decide +kernel
theorem own_dcmpI1_13 : decode jdk_52_method_21_code 13 = .ok (.istore 6, 2) := by decide +kernel
theorem own_dcmpI1_15 : decode jdk_52_method_21_code 15 = .ok (.iload 6, 2) := by decide +kernel
theorem own_dcmpI1_17 : decode jdk_52_method_21_code 17 = .ok (.sipush 255, 3) := by decide +kernel
theorem own_dcmpI1_20 : decode jdk_52_method_21_code 20 = .ok (.if_icmp .le 6, 3) := by decide +kernel
theorem own_dcmpI1_26 : decode jdk_52_method_21_code 26 = .ok (.aload_n 2, 1) := by decide +kernel
theorem own_dcmpI1_27 : decode jdk_52_method_21_code 27 = .ok (.iload_n 3, 1) := by decide +kernel
theorem own_dcmpI1_28 : decode jdk_52_method_21_code 28 = .ok (.iload 6, 2) := by decide +kernel
theorem own_dcmpI1_30 : decode jdk_52_method_21_code 30 = .ok (.i2b, 1) := by decide +kernel
theorem own_dcmpI1_31 : decode jdk_52_method_21_code 31 = .ok (.bastore, 1) := by decide +kernel
theorem own_dcmpI1_32 : decode jdk_52_method_21_code 32 = .ok (.iinc 1 1, 3) := by decide +kernel
theorem own_dcmpI1_35 : decode jdk_52_method_21_code 35 = .ok (.iinc 3 1, 3) := by decide +kernel
theorem own_dcmpI1_38 : decode jdk_52_method_21_code 38 = .ok (.iinc 5 1, 3) := by decide +kernel
theorem own_dcmpI1_41 : decode jdk_52_method_21_code 41 = .ok (.goto (-38), 3) := by decide +kernel
theorem own_dcmpI1_44 : decode jdk_52_method_21_code 44 = .ok (.iload 4, 2) := by decide +kernel
theorem own_dcmpI1_46 : decode jdk_52_method_21_code 46 = .ok (.ireturn, 1) := by decide +kernel
theorem own_pn_own_cmpI1 : plainName "java/lang/StringUTF16" = true := by first | (simp [plainName, overriddenIn]; done) | decide +kernel
theorem own_ef_own_cmpI1 (m : MethodId) (x0 : Addr) (x1 : Int32) (x2 : Addr) (x3 : Int32) (x4 : Int32) : entryFrame m #[(.ref x0), (.int x1), (.ref x2), (.int x3), (.int x4)] 7 = mkF m 0 #[.val (.ref x0), .val (.int x1), .val (.ref x2), .val (.int x3), .val (.int x4), .unset, .unset] [] := by first | (simp [entryFrame, mkF, argsToLocals, Value.category]; done) | rfl
def Q_own_cmpI1 (Z : State) (ac : Addr) (ab : Addr) (kc : ClassId) (kb : ClassId) (v0 : Int32) (h0 : Heap) (n0 : Nat) (v : Option Value) (h : Heap) (L : List Loc) : Prop := v = some (.int (1 : Int32)) ∧ Fr n0 L ∧ Keep h0 h [ab] ∧ Arv Z h ab kb .byte (1 : Int32) [(.int (nar .byte (v0.toInt8.toInt32)))] (.int (0 : Int32))
set_option maxRecDepth 65536 in
set_option maxHeartbeats 40000000 in
theorem own_cmpI1 (l : Launch) (Z : State) (a0 : Array Value) (hw : ∀ d ∈ tables_1, d.before a0 Z = true) (ws : List Jvm.Cond) (ac : Addr) (ab : Addr) (kc : ClassId) (kb : ClassId) (v0 : Int32) (h0 : Heap) (n0 : Nat) (Z0 : n0 ≤ h0.size) (V_ac : Arv Z h0 ac kc .char (1 : Int32) [(.int v0)] (.int (0 : Int32))) (V_ab : Arv Z h0 ab kb .byte (1 : Int32) [(.int (0 : Int32))] (.int (0 : Int32))) (g_ab : n0 ≤ ab) (nab : ac ≠ ab) (hp0 : ¬ ((255 : Int32) < v0)) :
    MetFree l (⟨"java/lang/StringUTF16", "compress", "([CI[BII)I"⟩ : MethodName) (head1 (Jvm.Cond.code (⟨"java/lang/StringUTF16", "compress", "([CI[BII)I"⟩ : MethodName) jdk_52_method_21_code 7 (some .int) :: ws) ({ frames := 0, cells := 0, slots := 0, locals := 0 } : Room)) (fun a U => a = #[(.ref ac), (.int (0 : Int32)), (.ref ab), (.int (0 : Int32)), (.int (1 : Int32))] ∧ Z.Warmed39 U.vm ∧ U.heap = h0) (fun _ _ _ _ _ => True) (fun _ U o U' => ∃ v L, o = .returned v ∧ Q_own_cmpI1 Z ac ab kc kb v0 h0 n0 v U'.heap L ∧ FrameEnd U o U' L ({ frames := 0, cells := 0, slots := 0, locals := 0 } : Room).cells ({ frames := 0, cells := 0, slots := 0, locals := 0 } : Room).slots) := by
  refine MetFree.of_bodySF (plainFor_of_name own_pn_own_cmpI1) hisR ?_
  intro p e s m args below meth c s₁ Bd hml0 hP hK
  obtain ⟨rfl, hZ, hh⟩ := hP
  have hx := Bd.exec
  have hby := Bd.bytes
  have hml : c.maxLocals = 7 := hml0
  have hown : s.vm.findClass "java/lang/StringUTF16" = some m.cls := findClass_of_methodNamed Bd.named
  have hnm := (name_of_methodNamed Bd.named Bd.method).1
  have X0 : Stand p l e ({ frames := 0, cells := 0, slots := 0, locals := 0 } : Room) s m #[(.ref ac), (.int (0 : Int32)), (.ref ab), (.int (0 : Int32)), (.int (1 : Int32))] below meth c s₁ [] 0 0 := Stand.of_body Bd
  have e0 : s₁.heap = h0 := by rw [← hh, Bd.state]; rfl
  have N0 := Fr.nil n0
  have pre0 : Goes p e below s₁ (entryFrame m #[(.ref ac), (.int (0 : Int32)), (.ref ab), (.int (0 : Int32)), (.int (1 : Int32))] 7) s₁ (mkF m 0 #[.val (.ref ac), .val (.int (0 : Int32)), .val (.ref ab), .val (.int (0 : Int32)), .val (.int (1 : Int32)), .unset, .unset] []) := fun t k => castTop (own_ef_own_cmpI1 m ac (0 : Int32) ab (0 : Int32) (1 : Int32)) k
  have pre1 : Goes p e below s₁ (entryFrame m #[(.ref ac), (.int (0 : Int32)), (.ref ab), (.int (0 : Int32)), (.int (1 : Int32))] 7) s₁ (mkF m 12 #[.val (.ref ac), .val (.int (0 : Int32)), .val (.ref ab), .val (.int (0 : Int32)), .val (.int (1 : Int32)), .val (.int (0 : Int32)), .unset] [(.int (0 : Int32)), (.ref ac)]) := fun t kt => pre0 t (by
      show Steps p.tables e below (s₁.setTop (mkF m 0 #[.val (.ref ac), .val (.int (0 : Int32)), .val (.ref ab), .val (.int (0 : Int32)), .val (.int (1 : Int32)), .unset, .unset] [])) _
      refine XS.iconst X0.here hx rfl (hb hby own_dcmpI1_0) ?_
      show Steps p.tables e below (s₁.setTop (mkF m 1 #[.val (.ref ac), .val (.int (0 : Int32)), .val (.ref ab), .val (.int (0 : Int32)), .val (.int (1 : Int32)), .unset, .unset] [(.int (0 : Int32))])) _
      refine XS.istore X0.here hx rfl (hb hby own_dcmpI1_1) rfl (l' := #[.val (.ref ac), .val (.int (0 : Int32)), .val (.ref ab), .val (.int (0 : Int32)), .val (.int (1 : Int32)), .val (.int (0 : Int32)), .unset]) rfl ?_
      show Steps p.tables e below (s₁.setTop (mkF m 3 #[.val (.ref ac), .val (.int (0 : Int32)), .val (.ref ab), .val (.int (0 : Int32)), .val (.int (1 : Int32)), .val (.int (0 : Int32)), .unset] [])) _
      refine XS.iload X0.here hx rfl (hb hby own_dcmpI1_3) rfl ?_
      show Steps p.tables e below (s₁.setTop (mkF m 5 #[.val (.ref ac), .val (.int (0 : Int32)), .val (.ref ab), .val (.int (0 : Int32)), .val (.int (1 : Int32)), .val (.int (0 : Int32)), .unset] [(.int (0 : Int32))])) _
      refine XS.iload X0.here hx rfl (hb hby own_dcmpI1_5) rfl ?_
      show Steps p.tables e below (s₁.setTop (mkF m 7 #[.val (.ref ac), .val (.int (0 : Int32)), .val (.ref ab), .val (.int (0 : Int32)), .val (.int (1 : Int32)), .val (.int (0 : Int32)), .unset] [(.int (1 : Int32)), (.int (0 : Int32))])) _
      refine XS.icmpNo X0.here hx rfl (hb hby own_dcmpI1_7) rfl (tlt (by decide : (0 : Int32) < (1 : Int32))).2.1 ?_
      show Steps p.tables e below (s₁.setTop (mkF m 10 #[.val (.ref ac), .val (.int (0 : Int32)), .val (.ref ab), .val (.int (0 : Int32)), .val (.int (1 : Int32)), .val (.int (0 : Int32)), .unset] [])) _
      refine XS.aloadN X0.here hx rfl (hb hby own_dcmpI1_10) rfl rfl ?_
      show Steps p.tables e below (s₁.setTop (mkF m 11 #[.val (.ref ac), .val (.int (0 : Int32)), .val (.ref ab), .val (.int (0 : Int32)), .val (.int (1 : Int32)), .val (.int (0 : Int32)), .unset] [(.ref ac)])) _
      refine XS.iloadN X0.here hx rfl (hb hby own_dcmpI1_11) rfl ?_
      exact kt)
  obtain ⟨cl2, Ar2, q2, S2, N_2, H2, G2⟩ := (id (V_ac))
  have hin2 : ¬ ((0 : Int32) < 0 ∨ cl2.slots.size ≤ ((0 : Int32)).toNatClampNeg) := inb_of S2 ⟨by decide, by decide⟩
  have hat2 : cl2.slots[((0 : Int32)).toNatClampNeg]? = some (.int v0) := Has.at H2 hin2 rfl
  have pre3 : Goes p e below s₁ (entryFrame m #[(.ref ac), (.int (0 : Int32)), (.ref ab), (.int (0 : Int32)), (.int (1 : Int32))] 7) s₁ (mkF m 31 #[.val (.ref ac), .val (.int (0 : Int32)), .val (.ref ab), .val (.int (0 : Int32)), .val (.int (1 : Int32)), .val (.int (0 : Int32)), .val (.int v0)] [(.int (v0.toInt8.toInt32)), (.int (0 : Int32)), (.ref ab)]) := fun t kt => pre1 t (by
      show Steps p.tables e below (s₁.setTop (mkF m 12 #[.val (.ref ac), .val (.int (0 : Int32)), .val (.ref ab), .val (.int (0 : Int32)), .val (.int (1 : Int32)), .val (.int (0 : Int32)), .unset] [(.int (0 : Int32)), (.ref ac)])) _
      refine X0.caload hx (j := (0 : Int32)) (v := (.int v0)) (by (try rw [e0]); exact Ar2.1) (State.isArrayOf_alike hZ.alike Ar2.2.1) Ar2.2.2 hin2 hat2 (g := (mkF m 12 #[.val (.ref ac), .val (.int (0 : Int32)), .val (.ref ab), .val (.int (0 : Int32)), .val (.int (1 : Int32)), .val (.int (0 : Int32)), .unset] [(.int (0 : Int32)), (.ref ac)])) rfl rfl (hb hby own_dcmpI1_12) _ ?_
      show Steps p.tables e below (s₁.setTop (mkF m 13 #[.val (.ref ac), .val (.int (0 : Int32)), .val (.ref ab), .val (.int (0 : Int32)), .val (.int (1 : Int32)), .val (.int (0 : Int32)), .unset] [(.int v0)])) _
      refine XS.istore X0.here hx rfl (hb hby own_dcmpI1_13) rfl (l' := #[.val (.ref ac), .val (.int (0 : Int32)), .val (.ref ab), .val (.int (0 : Int32)), .val (.int (1 : Int32)), .val (.int (0 : Int32)), .val (.int v0)]) rfl ?_
      show Steps p.tables e below (s₁.setTop (mkF m 15 #[.val (.ref ac), .val (.int (0 : Int32)), .val (.ref ab), .val (.int (0 : Int32)), .val (.int (1 : Int32)), .val (.int (0 : Int32)), .val (.int v0)] [])) _
      refine XS.iload X0.here hx rfl (hb hby own_dcmpI1_15) rfl ?_
      show Steps p.tables e below (s₁.setTop (mkF m 17 #[.val (.ref ac), .val (.int (0 : Int32)), .val (.ref ab), .val (.int (0 : Int32)), .val (.int (1 : Int32)), .val (.int (0 : Int32)), .val (.int v0)] [(.int v0)])) _
      refine XS.sipush X0.here hx rfl (hb hby own_dcmpI1_17) ?_
      show Steps p.tables e below (s₁.setTop (mkF m 20 #[.val (.ref ac), .val (.int (0 : Int32)), .val (.ref ab), .val (.int (0 : Int32)), .val (.int (1 : Int32)), .val (.int (0 : Int32)), .val (.int v0)] [(.int (255 : Int32)), (.int v0)])) _
      refine XS.icmpYes X0.here hx rfl (pc0 := 20) (pc' := 26) rfl (hb hby own_dcmpI1_20) rfl (flt hp0).2.2.2 (by decide) (by decide) ?_
      show Steps p.tables e below (s₁.setTop (mkF m 26 #[.val (.ref ac), .val (.int (0 : Int32)), .val (.ref ab), .val (.int (0 : Int32)), .val (.int (1 : Int32)), .val (.int (0 : Int32)), .val (.int v0)] [])) _
      refine XS.aloadN X0.here hx rfl (hb hby own_dcmpI1_26) rfl rfl ?_
      show Steps p.tables e below (s₁.setTop (mkF m 27 #[.val (.ref ac), .val (.int (0 : Int32)), .val (.ref ab), .val (.int (0 : Int32)), .val (.int (1 : Int32)), .val (.int (0 : Int32)), .val (.int v0)] [(.ref ab)])) _
      refine XS.iloadN X0.here hx rfl (hb hby own_dcmpI1_27) rfl ?_
      show Steps p.tables e below (s₁.setTop (mkF m 28 #[.val (.ref ac), .val (.int (0 : Int32)), .val (.ref ab), .val (.int (0 : Int32)), .val (.int (1 : Int32)), .val (.int (0 : Int32)), .val (.int v0)] [(.int (0 : Int32)), (.ref ab)])) _
      refine XS.iload X0.here hx rfl (hb hby own_dcmpI1_28) rfl ?_
      show Steps p.tables e below (s₁.setTop (mkF m 30 #[.val (.ref ac), .val (.int (0 : Int32)), .val (.ref ab), .val (.int (0 : Int32)), .val (.int (1 : Int32)), .val (.int (0 : Int32)), .val (.int v0)] [(.int v0), (.int (0 : Int32)), (.ref ab)])) _
      refine XS.i2b X0.here hx rfl (hb hby own_dcmpI1_30) rfl ?_
      exact kt)
  obtain ⟨cl4, Ar4, q4, S4, N_4, H4, G4⟩ := (id (V_ab))
  have hin4 : ¬ ((0 : Int32) < 0 ∨ cl4.slots.size ≤ ((0 : Int32)).toNatClampNeg) := inb_of S4 ⟨by decide, by decide⟩
  obtain ⟨T5, h5, X5, e5, W5, st5⟩ := stB X0 hx hZ e0 Ar4 (j := (0 : Int32)) hin4 (g := (mkF m 31 #[.val (.ref ac), .val (.int (0 : Int32)), .val (.ref ab), .val (.int (0 : Int32)), .val (.int (1 : Int32)), .val (.int (0 : Int32)), .val (.int v0)] [(.int (v0.toInt8.toInt32)), (.int (0 : Int32)), (.ref ab)])) rfl rfl (hb hby own_dcmpI1_31)
  have V5 : Arv Z h5 ab kb .byte (1 : Int32) [(.int (nar .byte (v0.toInt8.toInt32)))] (.int (0 : Int32)) := Arv.set Ar4 q4 S4 N_4 H4 G4 (fits_nar_byte _) W5 0 rfl (Nat.le_of_ble_eq_true rfl)
  have K5 : Keep h0 h5 [ab] := (Keep.refl h0 [ab]).wr W5 (Or.inl (List.mem_of_getElem? (i := 0) rfl))
  have N5 := Fr.snoc X5 N0 g_ab
  have pre6 : Goes p e below s₁ (entryFrame m #[(.ref ac), (.int (0 : Int32)), (.ref ab), (.int (0 : Int32)), (.int (1 : Int32))] 7) T5 (mkF m 32 #[.val (.ref ac), .val (.int (0 : Int32)), .val (.ref ab), .val (.int (0 : Int32)), .val (.int (1 : Int32)), .val (.int (0 : Int32)), .val (.int v0)] []) := fun t kt => pre3 t (st5 t kt)
  have pre7 : Goes p e below s₁ (entryFrame m #[(.ref ac), (.int (0 : Int32)), (.ref ab), (.int (0 : Int32)), (.int (1 : Int32))] 7) T5 (mkF m 46 #[.val (.ref ac), .val (.int (1 : Int32)), .val (.ref ab), .val (.int (1 : Int32)), .val (.int (1 : Int32)), .val (.int (1 : Int32)), .val (.int v0)] [(.int (1 : Int32))]) := fun t kt => pre6 t (by
      show Steps p.tables e below (T5.setTop (mkF m 32 #[.val (.ref ac), .val (.int (0 : Int32)), .val (.ref ab), .val (.int (0 : Int32)), .val (.int (1 : Int32)), .val (.int (0 : Int32)), .val (.int v0)] [])) _
      refine XS.iinc X5.here hx rfl (hb hby own_dcmpI1_32) rfl (l' := #[.val (.ref ac), .val (.int (1 : Int32)), .val (.ref ab), .val (.int (0 : Int32)), .val (.int (1 : Int32)), .val (.int (0 : Int32)), .val (.int v0)]) rfl ?_
      show Steps p.tables e below (T5.setTop (mkF m 35 #[.val (.ref ac), .val (.int (1 : Int32)), .val (.ref ab), .val (.int (0 : Int32)), .val (.int (1 : Int32)), .val (.int (0 : Int32)), .val (.int v0)] [])) _
      refine XS.iinc X5.here hx rfl (hb hby own_dcmpI1_35) rfl (l' := #[.val (.ref ac), .val (.int (1 : Int32)), .val (.ref ab), .val (.int (1 : Int32)), .val (.int (1 : Int32)), .val (.int (0 : Int32)), .val (.int v0)]) rfl ?_
      show Steps p.tables e below (T5.setTop (mkF m 38 #[.val (.ref ac), .val (.int (1 : Int32)), .val (.ref ab), .val (.int (1 : Int32)), .val (.int (1 : Int32)), .val (.int (0 : Int32)), .val (.int v0)] [])) _
      refine XS.iinc X5.here hx rfl (hb hby own_dcmpI1_38) rfl (l' := #[.val (.ref ac), .val (.int (1 : Int32)), .val (.ref ab), .val (.int (1 : Int32)), .val (.int (1 : Int32)), .val (.int (1 : Int32)), .val (.int v0)]) rfl ?_
      show Steps p.tables e below (T5.setTop (mkF m 41 #[.val (.ref ac), .val (.int (1 : Int32)), .val (.ref ab), .val (.int (1 : Int32)), .val (.int (1 : Int32)), .val (.int (1 : Int32)), .val (.int v0)] [])) _
      refine XS.goto X5.here hx rfl (pc0 := 41) (pc' := 3) rfl (hb hby own_dcmpI1_41) (by decide) (by decide) ?_
      show Steps p.tables e below (T5.setTop (mkF m 3 #[.val (.ref ac), .val (.int (1 : Int32)), .val (.ref ab), .val (.int (1 : Int32)), .val (.int (1 : Int32)), .val (.int (1 : Int32)), .val (.int v0)] [])) _
      refine XS.iload X5.here hx rfl (hb hby own_dcmpI1_3) rfl ?_
      show Steps p.tables e below (T5.setTop (mkF m 5 #[.val (.ref ac), .val (.int (1 : Int32)), .val (.ref ab), .val (.int (1 : Int32)), .val (.int (1 : Int32)), .val (.int (1 : Int32)), .val (.int v0)] [(.int (1 : Int32))])) _
      refine XS.iload X5.here hx rfl (hb hby own_dcmpI1_5) rfl ?_
      show Steps p.tables e below (T5.setTop (mkF m 7 #[.val (.ref ac), .val (.int (1 : Int32)), .val (.ref ab), .val (.int (1 : Int32)), .val (.int (1 : Int32)), .val (.int (1 : Int32)), .val (.int v0)] [(.int (1 : Int32)), (.int (1 : Int32))])) _
      refine XS.icmpYes X5.here hx rfl (pc0 := 7) (pc' := 44) rfl (hb hby own_dcmpI1_7) rfl (flt (by decide : ¬ ((1 : Int32) < (1 : Int32)))).2.1 (by decide) (by decide) ?_
      show Steps p.tables e below (T5.setTop (mkF m 44 #[.val (.ref ac), .val (.int (1 : Int32)), .val (.ref ab), .val (.int (1 : Int32)), .val (.int (1 : Int32)), .val (.int (1 : Int32)), .val (.int v0)] [])) _
      refine XS.iload X5.here hx rfl (hb hby own_dcmpI1_44) rfl ?_
      exact kt)
  obtain ⟨fs, hr, hrun, hended, hW, hsame⟩ := X5.leave (v := some (.int (1 : Int32))) (fun h => by rw [Bd.returns] at h; cases h)
  refine ⟨_, _, pre7 _ ?_, hrun, hended, _, _, rfl, ?_, ⟨_, rfl⟩, hW, hsame.mono (by decide) (by decide)⟩
  · show Steps p.tables e below (T5.setTop (mkF m 46 #[.val (.ref ac), .val (.int (1 : Int32)), .val (.ref ab), .val (.int (1 : Int32)), .val (.int (1 : Int32)), .val (.int (1 : Int32)), .val (.int v0)] [(.int (1 : Int32))])) _
    exact retI X5 hx Bd.returns (hb hby own_dcmpI1_46) hr
  · show Q_own_cmpI1 Z ac ab kc kb v0 h0 n0 _ T5.heap _
    rw [e5]
    exact ⟨rfl, N5, K5, V5⟩
theorem own_dcmpO1_0 : decode jdk_52_method_16_code 0 = .ok (.iload_n 2, 1) := by decide +kernel
theorem own_dcmpO1_1 : decode jdk_52_method_16_code 1 = .ok (.newarray .byte, 2) := by decide +kernel
theorem own_dcmpO1_3 : decode jdk_52_method_16_code 3 = .ok (.astore_n 3, 1) := by decide +kernel
theorem own_dcmpO1_4 : decode jdk_52_method_16_code 4 = .ok (.aload_n 0, 1) := by decide +kernel
theorem own_dcmpO1_5 : decode jdk_52_method_16_code 5 = .ok (.iload_n 1, 1) := by decide +kernel
theorem own_dcmpO1_6 : decode jdk_52_method_16_code 6 = .ok (.aload_n 3, 1) := by decide +kernel
theorem own_dcmpO1_7 : decode jdk_52_method_16_code 7 = .ok (.iconst 0, 1) := by decide +kernel
theorem own_dcmpO1_8 : decode jdk_52_method_16_code 8 = .ok (.iload_n 2, 1) := by decide +kernel
theorem own_dcmpO1_9 : decode jdk_52_method_16_code 9 = .ok (.invokestatic 115, 3) := by decide +kernel
theorem own_dcmpO1_12 : decode jdk_52_method_16_code 12 = .ok (.istore 4, 2) := by decide +kernel
theorem own_dcmpO1_14 : decode jdk_52_method_16_code 14 = .ok (.iload 4, 2) := by decide +kernel
theorem own_dcmpO1_16 : decode jdk_52_method_16_code 16 = .ok (.iload_n 2, 1) := by decide +kernel
theorem own_dcmpO1_17 : decode jdk_52_method_16_code 17 = .ok (.if_icmp .eq 40, 3) := by decide +kernel
theorem own_dcmpO1_57 : decode jdk_52_method_16_code 57 = .ok (.aload_n 3, 1) := by decide +kernel
theorem own_dcmpO1_58 : decode jdk_52_method_16_code 58 = .ok (.areturn, 1) := by decide +kernel
theorem own_pn_own_cmpO1 : plainName "java/lang/StringUTF16" = true := by first | (simp [plainName, overriddenIn]; done) | decide +kernel
theorem own_ef_own_cmpO1 (m : MethodId) (x0 : Addr) (x1 : Int32) (x2 : Int32) : entryFrame m #[(.ref x0), (.int x1), (.int x2)] 6 = mkF m 0 #[.val (.ref x0), .val (.int x1), .val (.int x2), .unset, .unset, .unset] [] := by first | (simp [entryFrame, mkF, argsToLocals, Value.category]; done) | rfl
def Q_own_cmpO1 (Z : State) (ac : Addr) (kc : ClassId) (v0 : Int32) (h0 : Heap) (n0 : Nat) (v : Option Value) (h : Heap) (L : List Loc) : Prop := ∃ (y : Addr) (ky : ClassId), v = some (.ref y) ∧ Fr n0 L ∧ Keep h0 h [] ∧ h0.size ≤ y ∧ n0 ≤ y ∧ Arv Z h y ky .byte (1 : Int32) [(.int (nar .byte (v0.toInt8.toInt32)))] (.int (0 : Int32))
set_option maxRecDepth 65536 in
set_option maxHeartbeats 40000000 in
theorem own_cmpO1 (l : Launch) (Z : State) (a0 : Array Value) (hw : ∀ d ∈ tables_1, d.before a0 Z = true) (ws : List Jvm.Cond) (ac : Addr) (kc : ClassId) (v0 : Int32) (h0 : Heap) (n0 : Nat) (Z0 : n0 ≤ h0.size) (V_ac : Arv Z h0 ac kc .char (1 : Int32) [(.int v0)] (.int (0 : Int32))) (hp0 : ¬ ((255 : Int32) < v0)) :
    MetFree l (⟨"java/lang/StringUTF16", "compress", "([CII)[B"⟩ : MethodName) (head1 (Jvm.Cond.code (⟨"java/lang/StringUTF16", "compress", "([CII)[B"⟩ : MethodName) jdk_52_method_16_code 6 (some (.array .byte)) :: ws) ({ frames := 1, cells := 1, slots := 1, locals := 18 } : Room)) (fun a U => a = #[(.ref ac), (.int (0 : Int32)), (.int (1 : Int32))] ∧ Z.Warmed39 U.vm ∧ U.heap = h0) (fun _ _ _ _ _ => True) (fun _ U o U' => ∃ v L, o = .returned v ∧ Q_own_cmpO1 Z ac kc v0 h0 n0 v U'.heap L ∧ FrameEnd U o U' L ({ frames := 1, cells := 1, slots := 1, locals := 18 } : Room).cells ({ frames := 1, cells := 1, slots := 1, locals := 18 } : Room).slots) := by
  refine MetFree.of_bodySF (plainFor_of_name own_pn_own_cmpO1) hisR ?_
  intro p e s m args below meth c s₁ Bd hml0 hP hK
  obtain ⟨rfl, hZ, hh⟩ := hP
  have hx := Bd.exec
  have hby := Bd.bytes
  have hml : c.maxLocals = 6 := hml0
  have hown : s.vm.findClass "java/lang/StringUTF16" = some m.cls := findClass_of_methodNamed Bd.named
  have hnm := (name_of_methodNamed Bd.named Bd.method).1
  have X0 : Stand p l e ({ frames := 1, cells := 1, slots := 1, locals := 18 } : Room) s m #[(.ref ac), (.int (0 : Int32)), (.int (1 : Int32))] below meth c s₁ [] 0 0 := Stand.of_body Bd
  have e0 : s₁.heap = h0 := by rw [← hh, Bd.state]; rfl
  have N0 := Fr.nil n0
  have pre0 : Goes p e below s₁ (entryFrame m #[(.ref ac), (.int (0 : Int32)), (.int (1 : Int32))] 6) s₁ (mkF m 0 #[.val (.ref ac), .val (.int (0 : Int32)), .val (.int (1 : Int32)), .unset, .unset, .unset] []) := fun t k => castTop (own_ef_own_cmpO1 m ac (0 : Int32) (1 : Int32)) k
  have pre1 : Goes p e below s₁ (entryFrame m #[(.ref ac), (.int (0 : Int32)), (.int (1 : Int32))] 6) s₁ (mkF m 1 #[.val (.ref ac), .val (.int (0 : Int32)), .val (.int (1 : Int32)), .unset, .unset, .unset] [(.int (1 : Int32))]) := fun t kt => pre0 t (by
      show Steps p.tables e below (s₁.setTop (mkF m 0 #[.val (.ref ac), .val (.int (0 : Int32)), .val (.int (1 : Int32)), .unset, .unset, .unset] [])) _
      refine XS.iloadN X0.here hx rfl (hb hby own_dcmpO1_0) rfl ?_
      exact kt)
  obtain ⟨T2, h2, k2, X2, e2, E2, A2, st2⟩ := newP X0 hx hZ (hw _ (List.mem_of_getElem? (i := 82) rfl)) e0 (g := (mkF m 1 #[.val (.ref ac), .val (.int (0 : Int32)), .val (.int (1 : Int32)), .unset, .unset, .unset] [(.int (1 : Int32))])) rfl (hb hby own_dcmpO1_1) rfl (by decide) (cap := 1) (by decide) (by decide) (by decide) (by decide)
  obtain ⟨b2, g2⟩ : ∃ z, z = h0.size := ⟨_, rfl⟩
  rw [← g2] at A2 st2
  have V_b2 : Arv Z h2 b2 k2 .byte (1 : Int32) [(.int (0 : Int32))] (.int (0 : Int32)) := (Arv.new A2 (by decide)).pad (pad_rep [] (.int (0 : Int32)) 1)
  have g_b2 : n0 ≤ b2 := Nat.le_trans Z0 (Nat.le_of_eq g2.symm)
  have sz_b2 : h0.size ≤ b2 := (Nat.le_trans (Keep.refl h0 []).1 (Nat.le_of_eq g2.symm))
  have K2 : Keep h0 h2 [] := (Keep.refl h0 []).ext E2
  have pre3 : Goes p e below s₁ (entryFrame m #[(.ref ac), (.int (0 : Int32)), (.int (1 : Int32))] 6) T2 (mkF m 3 #[.val (.ref ac), .val (.int (0 : Int32)), .val (.int (1 : Int32)), .unset, .unset, .unset] [(.ref b2)]) := fun t kt => pre1 t (st2 t kt)
  have pre4 : Goes p e below s₁ (entryFrame m #[(.ref ac), (.int (0 : Int32)), (.int (1 : Int32))] 6) T2 (mkF m 9 #[.val (.ref ac), .val (.int (0 : Int32)), .val (.int (1 : Int32)), .val (.ref b2), .unset, .unset] [(.int (1 : Int32)), (.int (0 : Int32)), (.ref b2), (.int (0 : Int32)), (.ref ac)]) := fun t kt => pre3 t (by
      show Steps p.tables e below (T2.setTop (mkF m 3 #[.val (.ref ac), .val (.int (0 : Int32)), .val (.int (1 : Int32)), .unset, .unset, .unset] [(.ref b2)])) _
      refine XS.astoreN X2.here hx rfl (hb hby own_dcmpO1_3) rfl rfl (l' := #[.val (.ref ac), .val (.int (0 : Int32)), .val (.int (1 : Int32)), .val (.ref b2), .unset, .unset]) rfl ?_
      show Steps p.tables e below (T2.setTop (mkF m 4 #[.val (.ref ac), .val (.int (0 : Int32)), .val (.int (1 : Int32)), .val (.ref b2), .unset, .unset] [])) _
      refine XS.aloadN X2.here hx rfl (hb hby own_dcmpO1_4) rfl rfl ?_
      show Steps p.tables e below (T2.setTop (mkF m 5 #[.val (.ref ac), .val (.int (0 : Int32)), .val (.int (1 : Int32)), .val (.ref b2), .unset, .unset] [(.ref ac)])) _
      refine XS.iloadN X2.here hx rfl (hb hby own_dcmpO1_5) rfl ?_
      show Steps p.tables e below (T2.setTop (mkF m 6 #[.val (.ref ac), .val (.int (0 : Int32)), .val (.int (1 : Int32)), .val (.ref b2), .unset, .unset] [(.int (0 : Int32)), (.ref ac)])) _
      refine XS.aloadN X2.here hx rfl (hb hby own_dcmpO1_6) rfl rfl ?_
      show Steps p.tables e below (T2.setTop (mkF m 7 #[.val (.ref ac), .val (.int (0 : Int32)), .val (.int (1 : Int32)), .val (.ref b2), .unset, .unset] [(.ref b2), (.int (0 : Int32)), (.ref ac)])) _
      refine XS.iconst X2.here hx rfl (hb hby own_dcmpO1_7) ?_
      show Steps p.tables e below (T2.setTop (mkF m 8 #[.val (.ref ac), .val (.int (0 : Int32)), .val (.int (1 : Int32)), .val (.ref b2), .unset, .unset] [(.int (0 : Int32)), (.ref b2), (.int (0 : Int32)), (.ref ac)])) _
      refine XS.iloadN X2.here hx rfl (hb hby own_dcmpO1_8) rfl ?_
      exact kt)
  obtain ⟨_, _, ⟨T5, L5, k5, n5⟩, -, X5, ⟨Lc5, hQ5, l5, y5, z5⟩, st5⟩ := Jvm.LawKit.callS X2 hx (y := (⟨"java/lang/StringUTF16", "compress", "([CI[BII)I"⟩ : MethodName)) hown (mvT hZ (hw _ (List.mem_of_getElem? (i := 94) rfl))) (mvT hZ (hw _ (List.mem_of_getElem? (i := 95) rfl))) (mvT hZ (hw _ (List.mem_of_getElem? (i := 92) rfl))) (mvT hZ (hw _ (List.mem_of_getElem? (i := 96) rfl))) (by decide) (backOf (W := 0) (own_cmpI1 l Z a0 hw [] ac b2 kc k2 v0 h2 n0 (Nat.le_trans Z0 E2.1) (V_ac.ext E2) V_b2 g_b2 (Nat.ne_of_lt (Nat.lt_of_lt_of_le V_ac.lt (Nat.le_of_eq g2.symm))) hp0) hZ (hw _ (List.mem_of_getElem? (i := 96) rfl)) (hw _ (List.mem_of_getElem? (i := 92) rfl)) (by decide) (by decide)) (g := (mkF m 9 #[.val (.ref ac), .val (.int (0 : Int32)), .val (.int (1 : Int32)), .val (.ref b2), .unset, .unset] [(.int (1 : Int32)), (.int (0 : Int32)), (.ref b2), (.int (0 : Int32)), (.ref ac)])) rfl (by rw [hml]; rfl) (argsL := [(.ref ac), (.int (0 : Int32)), (.ref b2), (.int (0 : Int32)), (.int (1 : Int32))]) (rest := []) (lenOf own_pd1 rfl) rfl (by show 2 * 0 + _ ≤ _; exact Nat.le_of_eq rfl) (hb hby own_dcmpO1_9) (fun _ _ => ⟨rfl, e2, (by decide : 1 + 0 ≤ _), (by decide : 1 + 0 ≤ _)⟩)
  dsimp only [Pt.U, Pt.locs, Pt.cells, Pt.slots] at X5 l5 y5 z5 st5 hQ5
  subst l5 y5 z5
  obtain ⟨rfl, N5q, K5q, Vb5⟩ := hQ5
  have N5 := Fr.app N0 N5q
  have KC5 : Keep h0 T5.heap [] := K2.trans K5q (allS (Or.inr sz_b2) all0)
  have pre6 : Goes p e below s₁ (entryFrame m #[(.ref ac), (.int (0 : Int32)), (.int (1 : Int32))] 6) T5 (mkF m 12 #[.val (.ref ac), .val (.int (0 : Int32)), .val (.int (1 : Int32)), .val (.ref b2), .unset, .unset] [(.int (1 : Int32))]) := fun t kt => pre4 t (st5 t kt)
  have pre7 : Goes p e below s₁ (entryFrame m #[(.ref ac), (.int (0 : Int32)), (.int (1 : Int32))] 6) T5 (mkF m 58 #[.val (.ref ac), .val (.int (0 : Int32)), .val (.int (1 : Int32)), .val (.ref b2), .val (.int (1 : Int32)), .unset] [(.ref b2)]) := fun t kt => pre6 t (by
      show Steps p.tables e below (T5.setTop (mkF m 12 #[.val (.ref ac), .val (.int (0 : Int32)), .val (.int (1 : Int32)), .val (.ref b2), .unset, .unset] [(.int (1 : Int32))])) _
      refine XS.istore X5.here hx rfl (hb hby own_dcmpO1_12) rfl (l' := #[.val (.ref ac), .val (.int (0 : Int32)), .val (.int (1 : Int32)), .val (.ref b2), .val (.int (1 : Int32)), .unset]) rfl ?_
      show Steps p.tables e below (T5.setTop (mkF m 14 #[.val (.ref ac), .val (.int (0 : Int32)), .val (.int (1 : Int32)), .val (.ref b2), .val (.int (1 : Int32)), .unset] [])) _
      refine XS.iload X5.here hx rfl (hb hby own_dcmpO1_14) rfl ?_
      show Steps p.tables e below (T5.setTop (mkF m 16 #[.val (.ref ac), .val (.int (0 : Int32)), .val (.int (1 : Int32)), .val (.ref b2), .val (.int (1 : Int32)), .unset] [(.int (1 : Int32))])) _
      refine XS.iloadN X5.here hx rfl (hb hby own_dcmpO1_16) rfl ?_
      show Steps p.tables e below (T5.setTop (mkF m 17 #[.val (.ref ac), .val (.int (0 : Int32)), .val (.int (1 : Int32)), .val (.ref b2), .val (.int (1 : Int32)), .unset] [(.int (1 : Int32)), (.int (1 : Int32))])) _
      refine XS.icmpYes X5.here hx rfl (pc0 := 17) (pc' := 57) rfl (hb hby own_dcmpO1_17) rfl (teq (by decide : (1 : Int32) = (1 : Int32))).1 (by decide) (by decide) ?_
      show Steps p.tables e below (T5.setTop (mkF m 57 #[.val (.ref ac), .val (.int (0 : Int32)), .val (.int (1 : Int32)), .val (.ref b2), .val (.int (1 : Int32)), .unset] [])) _
      refine XS.aloadN X5.here hx rfl (hb hby own_dcmpO1_57) rfl rfl ?_
      exact kt)
  obtain ⟨fs, hr, hrun, hended, hW, hsame⟩ := X5.leave (v := some (.ref b2)) (fun h => by rw [Bd.returns] at h; cases h)
  refine ⟨_, _, pre7 _ ?_, hrun, hended, _, _, rfl, ?_, ⟨_, rfl⟩, hW, hsame.mono (by decide) (by decide)⟩
  · show Steps p.tables e below (T5.setTop (mkF m 58 #[.val (.ref ac), .val (.int (0 : Int32)), .val (.int (1 : Int32)), .val (.ref b2), .val (.int (1 : Int32)), .unset] [(.ref b2)])) _
    jvm_step X5.here [X5.here.top, hx, (hb hby own_dcmpO1_58), X5.method', Bd.returns, Value.isRef, FieldType.isReference]
    first | (intro acts; rw [hr _ acts rfl rfl rfl]) | rw [hr _ _ rfl rfl rfl]
    exact Steps.refl _
  · show Q_own_cmpO1 Z ac kc v0 h0 n0 _ T5.heap _
    exact ⟨b2, k2, rfl, N5, KC5, sz_b2, g_b2, Vb5⟩
theorem own_dcod1_0 : decode jdk_52_method_15_code 0 = .ok (.iload_n 1, 1) := by decide +kernel
theorem own_dcod1_1 : decode jdk_52_method_15_code 1 = .ok (.aload_n 0, 1) := by decide +kernel
theorem own_dcod1_2 : decode jdk_52_method_15_code 2 = .ok (.arraylength, 1) := by decide +kernel
theorem own_dcod1_3 : decode jdk_52_method_15_code 3 = .ok (.isub, 1) := by decide +kernel
theorem own_dcod1_4 : decode jdk_52_method_15_code 4 = .ok (.bipush 31, 2) := by decide +kernel
theorem own_dcod1_6 : decode jdk_52_method_15_code 6 = .ok (.iushr, 1) := by decide +kernel
theorem own_dcod1_7 : decode jdk_52_method_15_code 7 = .ok (.i2b, 1) := by decide +kernel
theorem own_dcod1_8 : decode jdk_52_method_15_code 8 = .ok (.ireturn, 1) := by decide +kernel
theorem own_pn_own_cod1 : plainName "java/lang/StringUTF16" = true := by first | (simp [plainName, overriddenIn]; done) | decide +kernel
theorem own_ef_own_cod1 (m : MethodId) (x0 : Addr) (x1 : Int32) : entryFrame m #[(.ref x0), (.int x1)] 2 = mkF m 0 #[.val (.ref x0), .val (.int x1)] [] := by first | (simp [entryFrame, mkF, argsToLocals, Value.category]; done) | rfl
def Q_own_cod1 (Z : State) (ab : Addr) (kb : ClassId) (v0 : Int32) (h0 : Heap) (n0 : Nat) (v : Option Value) (h : Heap) (L : List Loc) : Prop := v = some (.int (0 : Int32)) ∧ Fr n0 L ∧ h = h0
set_option maxRecDepth 65536 in
set_option maxHeartbeats 40000000 in
theorem own_cod1 (l : Launch) (Z : State) (a0 : Array Value) (hw : ∀ d ∈ tables_1, d.before a0 Z = true) (ws : List Jvm.Cond) (ab : Addr) (kb : ClassId) (v0 : Int32) (h0 : Heap) (n0 : Nat) (Z0 : n0 ≤ h0.size) (V_ab : Arv Z h0 ab kb .byte (1 : Int32) [(.int v0)] (.int (0 : Int32))) :
    MetFree l (⟨"java/lang/StringUTF16", "coderFromArrayLen", "([BI)B"⟩ : MethodName) (head1 (Jvm.Cond.code (⟨"java/lang/StringUTF16", "coderFromArrayLen", "([BI)B"⟩ : MethodName) jdk_52_method_15_code 2 (some .byte) :: ws) ({ frames := 0, cells := 0, slots := 0, locals := 0 } : Room)) (fun a U => a = #[(.ref ab), (.int (1 : Int32))] ∧ Z.Warmed39 U.vm ∧ U.heap = h0) (fun _ _ _ _ _ => True) (fun _ U o U' => ∃ v L, o = .returned v ∧ Q_own_cod1 Z ab kb v0 h0 n0 v U'.heap L ∧ FrameEnd U o U' L ({ frames := 0, cells := 0, slots := 0, locals := 0 } : Room).cells ({ frames := 0, cells := 0, slots := 0, locals := 0 } : Room).slots) := by
  refine MetFree.of_bodySF (plainFor_of_name own_pn_own_cod1) hisR ?_
  intro p e s m args below meth c s₁ Bd hml0 hP hK
  obtain ⟨rfl, hZ, hh⟩ := hP
  have hx := Bd.exec
  have hby := Bd.bytes
  have hml : c.maxLocals = 2 := hml0
  have hown : s.vm.findClass "java/lang/StringUTF16" = some m.cls := findClass_of_methodNamed Bd.named
  have hnm := (name_of_methodNamed Bd.named Bd.method).1
  have X0 : Stand p l e ({ frames := 0, cells := 0, slots := 0, locals := 0 } : Room) s m #[(.ref ab), (.int (1 : Int32))] below meth c s₁ [] 0 0 := Stand.of_body Bd
  have e0 : s₁.heap = h0 := by rw [← hh, Bd.state]; rfl
  have N0 := Fr.nil n0
  have pre0 : Goes p e below s₁ (entryFrame m #[(.ref ab), (.int (1 : Int32))] 2) s₁ (mkF m 0 #[.val (.ref ab), .val (.int (1 : Int32))] []) := fun t k => castTop (own_ef_own_cod1 m ab (1 : Int32)) k
  have pre1 : Goes p e below s₁ (entryFrame m #[(.ref ab), (.int (1 : Int32))] 2) s₁ (mkF m 2 #[.val (.ref ab), .val (.int (1 : Int32))] [(.ref ab), (.int (1 : Int32))]) := fun t kt => pre0 t (by
      show Steps p.tables e below (s₁.setTop (mkF m 0 #[.val (.ref ab), .val (.int (1 : Int32))] [])) _
      refine XS.iloadN X0.here hx rfl (hb hby own_dcod1_0) rfl ?_
      show Steps p.tables e below (s₁.setTop (mkF m 1 #[.val (.ref ab), .val (.int (1 : Int32))] [(.int (1 : Int32))])) _
      refine XS.aloadN X0.here hx rfl (hb hby own_dcod1_1) rfl rfl ?_
      exact kt)
  obtain ⟨cl2, Ar2, q2, S2, N_2, H2, G2⟩ := (id (V_ab))
  have pre3 : Goes p e below s₁ (entryFrame m #[(.ref ab), (.int (1 : Int32))] 2) s₁ (mkF m 8 #[.val (.ref ab), .val (.int (1 : Int32))] [(.int ((((0 : Int32).toUInt32 >>> ((31 : Int32) &&& 31).toUInt32).toInt32).toInt8.toInt32))]) := fun t kt => pre1 t (by
      show Steps p.tables e below (s₁.setTop (mkF m 2 #[.val (.ref ab), .val (.int (1 : Int32))] [(.ref ab), (.int (1 : Int32))])) _
      refine X0.arraylength hx (by (try rw [e0]); exact Ar2.1) (State.isArrayOf_alike hZ.alike Ar2.2.1) (g := (mkF m 2 #[.val (.ref ab), .val (.int (1 : Int32))] [(.ref ab), (.int (1 : Int32))])) rfl rfl (hb hby own_dcod1_2) _ ?_
      rw [len_of S2 N_2]
      show Steps p.tables e below (s₁.setTop (mkF m 3 #[.val (.ref ab), .val (.int (1 : Int32))] [(.int (1 : Int32)), (.int (1 : Int32))])) _
      refine XS.isub X0.here hx rfl (hb hby own_dcod1_3) rfl ?_
      show Steps p.tables e below (s₁.setTop (mkF m 4 #[.val (.ref ab), .val (.int (1 : Int32))] [(.int (0 : Int32))])) _
      refine XS.bipush X0.here hx rfl (hb hby own_dcod1_4) ?_
      show Steps p.tables e below (s₁.setTop (mkF m 6 #[.val (.ref ab), .val (.int (1 : Int32))] [(.int (31 : Int32)), (.int (0 : Int32))])) _
      refine XS.iushr X0.here hx rfl (hb hby own_dcod1_6) rfl ?_
      show Steps p.tables e below (s₁.setTop (mkF m 7 #[.val (.ref ab), .val (.int (1 : Int32))] [(.int (((0 : Int32).toUInt32 >>> ((31 : Int32) &&& 31).toUInt32).toInt32))])) _
      refine XS.i2b X0.here hx rfl (hb hby own_dcod1_7) rfl ?_
      exact kt)
  obtain ⟨fs, hr, hrun, hended, hW, hsame⟩ := X0.leave (v := some (.int (nar .byte ((((0 : Int32).toUInt32 >>> ((31 : Int32) &&& 31).toUInt32).toInt32).toInt8.toInt32)))) (fun h => by rw [Bd.returns] at h; cases h)
  refine ⟨_, _, pre3 _ ?_, hrun, hended, _, _, rfl, ?_, ⟨_, rfl⟩, hW, hsame.mono (by decide) (by decide)⟩
  · show Steps p.tables e below (s₁.setTop (mkF m 8 #[.val (.ref ab), .val (.int (1 : Int32))] [(.int ((((0 : Int32).toUInt32 >>> ((31 : Int32) &&& 31).toUInt32).toInt32).toInt8.toInt32))])) _
    exact retN X0 hx (t := .byte) Bd.returns (by simp) (hb hby own_dcod1_8) hr
  · show Q_own_cod1 Z ab kb v0 h0 n0 _ s₁.heap _
    rw [e0]
    exact ⟨rfl, N0, rfl⟩
theorem own_dsI1_0 : decode jdk_42_method_149_code 0 = .ok (.aload_n 0, 1) := by decide +kernel
theorem own_dsI1_1 : decode jdk_42_method_149_code 1 = .ok (.invokespecial 1, 3) := by decide +kernel
theorem own_dsI1_4 : decode jdk_42_method_149_code 4 = .ok (.iload_n 3, 1) := by decide +kernel
theorem own_dsI1_5 : decode jdk_42_method_149_code 5 = .ok (.ifCond .ne 22, 3) := by decide +kernel
theorem own_dsI1_27 : decode jdk_42_method_149_code 27 = .ok (.getstatic 38, 3) := by decide +kernel
theorem own_dsI1_30 : decode jdk_42_method_149_code 30 = .ok (.ifCond .eq 28, 3) := by decide +kernel
theorem own_dsI1_33 : decode jdk_42_method_149_code 33 = .ok (.aload_n 1, 1) := by decide +kernel
theorem own_dsI1_34 : decode jdk_42_method_149_code 34 = .ok (.iload_n 2, 1) := by decide +kernel
theorem own_dsI1_35 : decode jdk_42_method_149_code 35 = .ok (.iload_n 3, 1) := by decide +kernel
theorem own_dsI1_36 : decode jdk_42_method_149_code 36 = .ok (.invokestatic 177, 3) := by decide +kernel
theorem own_dsI1_39 : decode jdk_42_method_149_code 39 = .ok (.astore 5, 2) := by decide +kernel
theorem own_dsI1_41 : decode jdk_42_method_149_code 41 = .ok (.aload_n 0, 1) := by decide +kernel
theorem own_dsI1_42 : decode jdk_42_method_149_code 42 = .ok (.aload 5, 2) := by decide +kernel
theorem own_dsI1_44 : decode jdk_42_method_149_code 44 = .ok (.iload_n 3, 1) := by decide +kernel
theorem own_dsI1_45 : decode jdk_42_method_149_code 45 = .ok (.invokestatic 47, 3) := by decide +kernel
theorem own_dsI1_48 : decode jdk_42_method_149_code 48 = .ok (.putfield 15, 3) := by decide +kernel
theorem own_dsI1_51 : decode jdk_42_method_149_code 51 = .ok (.aload_n 0, 1) := by decide +kernel
theorem own_dsI1_52 : decode jdk_42_method_149_code 52 = .ok (.aload 5, 2) := by decide +kernel
theorem own_dsI1_54 : decode jdk_42_method_149_code 54 = .ok (.putfield 9, 3) := by decide +kernel
theorem own_dsI1_57 : decode jdk_42_method_149_code 57 = .ok (.return_, 1) := by decide +kernel
theorem own_pn_own_sI1 : plainName "java/lang/String" = true := by first | (simp [plainName, overriddenIn]; done) | decide +kernel
theorem own_ef_own_sI1 (m : MethodId) (x0 : Addr) (x1 : Addr) (x2 : Int32) (x3 : Int32) : entryFrame m #[(.ref x0), (.ref x1), (.int x2), (.int x3), .null] 6 = mkF m 0 #[.val (.ref x0), .val (.ref x1), .val (.int x2), .val (.int x3), .val .null, .unset] [] := by first | (simp [entryFrame, mkF, argsToLocals, Value.category]; done) | rfl
def Q_own_sI1 (Z : State) (a1 : Addr) (ac : Addr) (kc : ClassId) (cs : Int32) (uv : Value) (uc : Value) (v0 : Int32) (h0 : Heap) (n0 : Nat) (v : Option Value) (h : Heap) (L : List Loc) : Prop := v = none ∧ Fr n0 L ∧ Keep h0 h [a1] ∧ Exa Z h a1 "java/lang/String" ∧ Fld Z h a1 "java/lang/String" "coder" "B" (.int (0 : Int32)) ∧ ∃ (y : Addr) (ky : ClassId), h0.size ≤ y ∧ n0 ≤ y ∧ Fld Z h a1 "java/lang/String" "value" "[B" (.ref y) ∧ Arv Z h y ky .byte (1 : Int32) [(.int (nar .byte (v0.toInt8.toInt32)))] (.int (0 : Int32))
set_option maxRecDepth 65536 in
set_option maxHeartbeats 40000000 in
theorem own_sI1 (l : Launch) (Z : State) (a0 : Array Value) (hw : ∀ d ∈ tables_1, d.before a0 Z = true) (ws : List Jvm.Cond) (a1 : Addr) (ac : Addr) (kc : ClassId) (cs : Int32) (uv : Value) (uc : Value) (v0 : Int32) (h0 : Heap) (n0 : Nat) (Z0 : n0 ≤ h0.size) (E_a1 : Exa Z h0 a1 "java/lang/String") (Fv : Fld Z h0 a1 "java/lang/String" "value" "[B" uv) (Fc : Fld Z h0 a1 "java/lang/String" "coder" "B" uc) (g_a1 : n0 ≤ a1) (V_ac : Arv Z h0 ac kc .char (1 : Int32) [(.int v0)] (.int (0 : Int32))) (S_CS : Sta Z h0 "java/lang/String" "COMPACT_STRINGS" "Z" (.int cs)) (hcs : ¬ (cs = (0 : Int32))) (hp0 : ¬ ((255 : Int32) < v0)) :
    MetFree l (⟨"java/lang/String", "<init>", "([CIILjava/lang/Void;)V"⟩ : MethodName) (head1 (Jvm.Cond.code (⟨"java/lang/String", "<init>", "([CIILjava/lang/Void;)V"⟩ : MethodName) jdk_42_method_149_code 6 none :: ws) ({ frames := 2, cells := 1, slots := 1, locals := 35 } : Room)) (fun a U => a = #[(.ref a1), (.ref ac), (.int (0 : Int32)), (.int (1 : Int32)), .null] ∧ Z.Warmed39 U.vm ∧ U.heap = h0) (fun _ _ _ _ _ => True) (fun _ U o U' => ∃ v L, o = .returned v ∧ Q_own_sI1 Z a1 ac kc cs uv uc v0 h0 n0 v U'.heap L ∧ FrameEnd U o U' L ({ frames := 2, cells := 1, slots := 1, locals := 35 } : Room).cells ({ frames := 2, cells := 1, slots := 1, locals := 35 } : Room).slots) := by
  refine MetFree.of_bodySF (plainFor_of_name own_pn_own_sI1) hisR ?_
  intro p e s m args below meth c s₁ Bd hml0 hP hK
  obtain ⟨rfl, hZ, hh⟩ := hP
  have hx := Bd.exec
  have hby := Bd.bytes
  have hml : c.maxLocals = 6 := hml0
  have hown : s.vm.findClass "java/lang/String" = some m.cls := findClass_of_methodNamed Bd.named
  have hnm := (name_of_methodNamed Bd.named Bd.method).1
  have X0 : Stand p l e ({ frames := 2, cells := 1, slots := 1, locals := 35 } : Room) s m #[(.ref a1), (.ref ac), (.int (0 : Int32)), (.int (1 : Int32)), .null] below meth c s₁ [] 0 0 := Stand.of_body Bd
  have e0 : s₁.heap = h0 := by rw [← hh, Bd.state]; rfl
  have N0 := Fr.nil n0
  have pre0 : Goes p e below s₁ (entryFrame m #[(.ref a1), (.ref ac), (.int (0 : Int32)), (.int (1 : Int32)), .null] 6) s₁ (mkF m 0 #[.val (.ref a1), .val (.ref ac), .val (.int (0 : Int32)), .val (.int (1 : Int32)), .val .null, .unset] []) := fun t k => castTop (own_ef_own_sI1 m a1 ac (0 : Int32) (1 : Int32)) k
  have pre1 : Goes p e below s₁ (entryFrame m #[(.ref a1), (.ref ac), (.int (0 : Int32)), (.int (1 : Int32)), .null] 6) s₁ (mkF m 1 #[.val (.ref a1), .val (.ref ac), .val (.int (0 : Int32)), .val (.int (1 : Int32)), .val .null, .unset] [(.ref a1)]) := fun t kt => pre0 t (by
      show Steps p.tables e below (s₁.setTop (mkF m 0 #[.val (.ref a1), .val (.ref ac), .val (.int (0 : Int32)), .val (.int (1 : Int32)), .val .null, .unset] [])) _
      refine XS.aloadN X0.here hx rfl (hb hby own_dsI1_0) rfl rfl ?_
      exact kt)
  obtain ⟨T2, X2, e2, st2⟩ := initO X0 hx hZ hown (hw _ (List.mem_of_getElem? (i := 80) rfl)) (hw _ (List.mem_of_getElem? (i := 19) rfl)) (hw _ (List.mem_of_getElem? (i := 20) rfl)) e0 (g := (mkF m 1 #[.val (.ref a1), .val (.ref ac), .val (.int (0 : Int32)), .val (.int (1 : Int32)), .val .null, .unset] [(.ref a1)])) rfl (by rw [hml]; rfl) rfl (hb hby own_dsI1_1) (by decide) (W := 0) (by show 2 * 0 + _ ≤ _; exact Nat.le_of_eq rfl) (by decide)
  have pre3 : Goes p e below s₁ (entryFrame m #[(.ref a1), (.ref ac), (.int (0 : Int32)), (.int (1 : Int32)), .null] 6) T2 (mkF m 4 #[.val (.ref a1), .val (.ref ac), .val (.int (0 : Int32)), .val (.int (1 : Int32)), .val .null, .unset] []) := fun t kt => pre1 t (st2 t kt)
  have pre4 : Goes p e below s₁ (entryFrame m #[(.ref a1), (.ref ac), (.int (0 : Int32)), (.int (1 : Int32)), .null] 6) T2 (mkF m 27 #[.val (.ref a1), .val (.ref ac), .val (.int (0 : Int32)), .val (.int (1 : Int32)), .val .null, .unset] []) := fun t kt => pre3 t (by
      show Steps p.tables e below (T2.setTop (mkF m 4 #[.val (.ref a1), .val (.ref ac), .val (.int (0 : Int32)), .val (.int (1 : Int32)), .val .null, .unset] [])) _
      refine XS.iloadN X2.here hx rfl (hb hby own_dsI1_4) rfl ?_
      show Steps p.tables e below (T2.setTop (mkF m 5 #[.val (.ref a1), .val (.ref ac), .val (.int (0 : Int32)), .val (.int (1 : Int32)), .val .null, .unset] [(.int (1 : Int32))])) _
      refine XS.ifYes X2.here hx rfl (pc0 := 5) (pc' := 27) rfl (hb hby own_dsI1_5) rfl ((if0 _ _).trans (feq (by decide : ¬ ((1 : Int32) = (0 : Int32)))).2) (by decide) (by decide) ?_
      exact kt)
  obtain ⟨T5, X5, e5, st5⟩ := getS2 X2 hx hZ hown (host := "") (Or.inl (hw _ (List.mem_of_getElem? (i := 89) rfl))) Via.refl e2 S_CS (g := (mkF m 27 #[.val (.ref a1), .val (.ref ac), .val (.int (0 : Int32)), .val (.int (1 : Int32)), .val .null, .unset] [])) rfl (hb hby own_dsI1_27)
  have pre6 : Goes p e below s₁ (entryFrame m #[(.ref a1), (.ref ac), (.int (0 : Int32)), (.int (1 : Int32)), .null] 6) T5 (mkF m 30 #[.val (.ref a1), .val (.ref ac), .val (.int (0 : Int32)), .val (.int (1 : Int32)), .val .null, .unset] [(.int cs)]) := fun t kt => pre4 t (st5 t kt)
  have pre7 : Goes p e below s₁ (entryFrame m #[(.ref a1), (.ref ac), (.int (0 : Int32)), (.int (1 : Int32)), .null] 6) T5 (mkF m 36 #[.val (.ref a1), .val (.ref ac), .val (.int (0 : Int32)), .val (.int (1 : Int32)), .val .null, .unset] [(.int (1 : Int32)), (.int (0 : Int32)), (.ref ac)]) := fun t kt => pre6 t (by
      show Steps p.tables e below (T5.setTop (mkF m 30 #[.val (.ref a1), .val (.ref ac), .val (.int (0 : Int32)), .val (.int (1 : Int32)), .val .null, .unset] [(.int cs)])) _
      refine XS.ifNo X5.here hx rfl (hb hby own_dsI1_30) rfl ((if0 _ _).trans (feq hcs).1) ?_
      show Steps p.tables e below (T5.setTop (mkF m 33 #[.val (.ref a1), .val (.ref ac), .val (.int (0 : Int32)), .val (.int (1 : Int32)), .val .null, .unset] [])) _
      refine XS.aloadN X5.here hx rfl (hb hby own_dsI1_33) rfl rfl ?_
      show Steps p.tables e below (T5.setTop (mkF m 34 #[.val (.ref a1), .val (.ref ac), .val (.int (0 : Int32)), .val (.int (1 : Int32)), .val .null, .unset] [(.ref ac)])) _
      refine XS.iloadN X5.here hx rfl (hb hby own_dsI1_34) rfl ?_
      show Steps p.tables e below (T5.setTop (mkF m 35 #[.val (.ref a1), .val (.ref ac), .val (.int (0 : Int32)), .val (.int (1 : Int32)), .val .null, .unset] [(.int (0 : Int32)), (.ref ac)])) _
      refine XS.iloadN X5.here hx rfl (hb hby own_dsI1_35) rfl ?_
      exact kt)
  obtain ⟨_, _, ⟨T8, L8, k8, n8⟩, -, X8, ⟨Lc8, hQ8, l8, y8, z8⟩, st8⟩ := Jvm.LawKit.callS X5 hx (y := (⟨"java/lang/StringUTF16", "compress", "([CII)[B"⟩ : MethodName)) hown (mvT hZ (hw _ (List.mem_of_getElem? (i := 90) rfl))) (mvT hZ (hw _ (List.mem_of_getElem? (i := 91) rfl))) (mvT hZ (hw _ (List.mem_of_getElem? (i := 92) rfl))) (mvT hZ (hw _ (List.mem_of_getElem? (i := 93) rfl))) (by decide) (backOf (W := 0) (own_cmpO1 l Z a0 hw [] ac kc v0 h0 n0 Z0 V_ac hp0) hZ (hw _ (List.mem_of_getElem? (i := 93) rfl)) (hw _ (List.mem_of_getElem? (i := 92) rfl)) (by decide) (by decide)) (g := (mkF m 36 #[.val (.ref a1), .val (.ref ac), .val (.int (0 : Int32)), .val (.int (1 : Int32)), .val .null, .unset] [(.int (1 : Int32)), (.int (0 : Int32)), (.ref ac)])) rfl (by rw [hml]; rfl) (argsL := [(.ref ac), (.int (0 : Int32)), (.int (1 : Int32))]) (rest := []) (lenOf own_pd2 rfl) rfl (by show 2 * 0 + _ ≤ _; exact Nat.le_of_eq rfl) (hb hby own_dsI1_36) (fun _ _ => ⟨rfl, e5, (by decide : 0 + 1 ≤ _), (by decide : 0 + 1 ≤ _)⟩)
  dsimp only [Pt.U, Pt.locs, Pt.cells, Pt.slots] at X8 l8 y8 z8 st8 hQ8
  subst l8 y8 z8
  obtain ⟨yy8, ky8, rfl, N8q, K8q, zy8, gy8, Vy8⟩ := hQ8
  have N8 := Fr.app N0 N8q
  have KC8 : Keep h0 T8.heap [a1] := (Keep.refl h0 [a1]).trans K8q all0
  have pre9 : Goes p e below s₁ (entryFrame m #[(.ref a1), (.ref ac), (.int (0 : Int32)), (.int (1 : Int32)), .null] 6) T8 (mkF m 39 #[.val (.ref a1), .val (.ref ac), .val (.int (0 : Int32)), .val (.int (1 : Int32)), .val .null, .unset] [(.ref yy8)]) := fun t kt => pre7 t (st8 t kt)
  have sz_yy8 := zy8
  have g_yy8 := gy8
  have pre10 : Goes p e below s₁ (entryFrame m #[(.ref a1), (.ref ac), (.int (0 : Int32)), (.int (1 : Int32)), .null] 6) T8 (mkF m 45 #[.val (.ref a1), .val (.ref ac), .val (.int (0 : Int32)), .val (.int (1 : Int32)), .val .null, .val (.ref yy8)] [(.int (1 : Int32)), (.ref yy8), (.ref a1)]) := fun t kt => pre9 t (by
      show Steps p.tables e below (T8.setTop (mkF m 39 #[.val (.ref a1), .val (.ref ac), .val (.int (0 : Int32)), .val (.int (1 : Int32)), .val .null, .unset] [(.ref yy8)])) _
      refine XS.astore X8.here hx rfl (hb hby own_dsI1_39) rfl rfl (l' := #[.val (.ref a1), .val (.ref ac), .val (.int (0 : Int32)), .val (.int (1 : Int32)), .val .null, .val (.ref yy8)]) rfl ?_
      show Steps p.tables e below (T8.setTop (mkF m 41 #[.val (.ref a1), .val (.ref ac), .val (.int (0 : Int32)), .val (.int (1 : Int32)), .val .null, .val (.ref yy8)] [])) _
      refine XS.aloadN X8.here hx rfl (hb hby own_dsI1_41) rfl rfl ?_
      show Steps p.tables e below (T8.setTop (mkF m 42 #[.val (.ref a1), .val (.ref ac), .val (.int (0 : Int32)), .val (.int (1 : Int32)), .val .null, .val (.ref yy8)] [(.ref a1)])) _
      refine XS.aload X8.here hx rfl (hb hby own_dsI1_42) rfl rfl ?_
      show Steps p.tables e below (T8.setTop (mkF m 44 #[.val (.ref a1), .val (.ref ac), .val (.int (0 : Int32)), .val (.int (1 : Int32)), .val .null, .val (.ref yy8)] [(.ref yy8), (.ref a1)])) _
      refine XS.iloadN X8.here hx rfl (hb hby own_dsI1_44) rfl ?_
      exact kt)
  obtain ⟨_, _, ⟨T11, L11, k11, n11⟩, -, X11, ⟨Lc11, hQ11, l11, y11, z11⟩, st11⟩ := Jvm.LawKit.callS X8 hx (y := (⟨"java/lang/StringUTF16", "coderFromArrayLen", "([BI)B"⟩ : MethodName)) hown (mvT hZ (hw _ (List.mem_of_getElem? (i := 97) rfl))) (mvT hZ (hw _ (List.mem_of_getElem? (i := 98) rfl))) (mvT hZ (hw _ (List.mem_of_getElem? (i := 92) rfl))) (mvT hZ (hw _ (List.mem_of_getElem? (i := 99) rfl))) (by decide) (backOf (W := 1) (own_cod1 l Z a0 hw [] yy8 ky8 (nar .byte (v0.toInt8.toInt32)) T8.heap n0 (Nat.le_trans Z0 K8q.1) Vy8) hZ (hw _ (List.mem_of_getElem? (i := 99) rfl)) (hw _ (List.mem_of_getElem? (i := 92) rfl)) (by decide) (by decide)) (g := (mkF m 45 #[.val (.ref a1), .val (.ref ac), .val (.int (0 : Int32)), .val (.int (1 : Int32)), .val .null, .val (.ref yy8)] [(.int (1 : Int32)), (.ref yy8), (.ref a1)])) rfl (by rw [hml]; rfl) (argsL := [(.ref yy8), (.int (1 : Int32))]) (rest := [(.ref a1)]) (lenOf own_pd3 rfl) rfl (by show 2 * 0 + _ ≤ _; exact Nat.le_of_eq rfl) (hb hby own_dsI1_45) (fun _ _ => ⟨rfl, rfl, (by decide : 1 + 0 ≤ _), (by decide : 1 + 0 ≤ _)⟩)
  dsimp only [Pt.U, Pt.locs, Pt.cells, Pt.slots] at X11 l11 y11 z11 st11 hQ11
  subst l11 y11 z11
  obtain ⟨rfl, N11q, e11⟩ := hQ11
  have N11 := Fr.app N8 N11q
  have pre12 : Goes p e below s₁ (entryFrame m #[(.ref a1), (.ref ac), (.int (0 : Int32)), (.int (1 : Int32)), .null] 6) T11 (mkF m 48 #[.val (.ref a1), .val (.ref ac), .val (.int (0 : Int32)), .val (.int (1 : Int32)), .val .null, .val (.ref yy8)] [(.int (0 : Int32)), (.ref a1)]) := fun t kt => pre10 t (st11 t kt)
  obtain ⟨T13, h13, X13, e13, W13, st13⟩ := putFN X11 hx hZ hown (hw _ (List.mem_of_getElem? (i := 88) rfl)) Via.refl e11 (Fc.keep K8q nin0) (E_a1.keep K8q) (Or.inr ⟨(hw _ (List.mem_of_getElem? (i := 84) rfl)), rfl, hnm⟩) (hw _ (List.mem_of_getElem? (i := 70) rfl)) (ty := .byte) (v' := (.int (0 : Int32))) (by decide) rfl rfl (g := (mkF m 48 #[.val (.ref a1), .val (.ref ac), .val (.int (0 : Int32)), .val (.int (1 : Int32)), .val .null, .val (.ref yy8)] [(.int (0 : Int32)), (.ref a1)])) rfl rfl (hb hby own_dsI1_48)
  have Fw13 := (Fc.keep K8q nin0).same W13
  have K13 : Keep h0 h13 [a1] := KC8.wr W13 (Or.inl (List.mem_of_getElem? (i := 0) rfl))
  have N13 := Fr.snoc X13 N11 g_a1
  have pre14 : Goes p e below s₁ (entryFrame m #[(.ref a1), (.ref ac), (.int (0 : Int32)), (.int (1 : Int32)), .null] 6) T13 (mkF m 51 #[.val (.ref a1), .val (.ref ac), .val (.int (0 : Int32)), .val (.int (1 : Int32)), .val .null, .val (.ref yy8)] []) := fun t kt => pre12 t (st13 t kt)
  have pre15 : Goes p e below s₁ (entryFrame m #[(.ref a1), (.ref ac), (.int (0 : Int32)), (.int (1 : Int32)), .null] 6) T13 (mkF m 54 #[.val (.ref a1), .val (.ref ac), .val (.int (0 : Int32)), .val (.int (1 : Int32)), .val .null, .val (.ref yy8)] [(.ref yy8), (.ref a1)]) := fun t kt => pre14 t (by
      show Steps p.tables e below (T13.setTop (mkF m 51 #[.val (.ref a1), .val (.ref ac), .val (.int (0 : Int32)), .val (.int (1 : Int32)), .val .null, .val (.ref yy8)] [])) _
      refine XS.aloadN X13.here hx rfl (hb hby own_dsI1_51) rfl rfl ?_
      show Steps p.tables e below (T13.setTop (mkF m 52 #[.val (.ref a1), .val (.ref ac), .val (.int (0 : Int32)), .val (.int (1 : Int32)), .val .null, .val (.ref yy8)] [(.ref a1)])) _
      refine XS.aload X13.here hx rfl (hb hby own_dsI1_52) rfl rfl ?_
      exact kt)
  obtain ⟨T16, h16, X16, e16, W16, st16⟩ := putF X13 hx hZ hown (host := "") (Or.inl (hw _ (List.mem_of_getElem? (i := 87) rfl))) Via.refl e13 ((Fv.keep K8q nin0).other W13 (Or.inr (slot_ne (Or.inr (hw _ (List.mem_of_getElem? (i := 83) rfl))) (Or.inr (hw _ (List.mem_of_getElem? (i := 84) rfl))) (by decide) (t := (.array .byte)) (t' := .byte) (by decide) (by decide)))) ((E_a1.keep K8q).wr W13) (Or.inr ⟨(hw _ (List.mem_of_getElem? (i := 83) rfl)), rfl, hnm⟩) (hw _ (List.mem_of_getElem? (i := 70) rfl)) (ty := (.array .byte)) (by decide) rfl rfl (g := (mkF m 54 #[.val (.ref a1), .val (.ref ac), .val (.int (0 : Int32)), .val (.int (1 : Int32)), .val .null, .val (.ref yy8)] [(.ref yy8), (.ref a1)])) rfl rfl (hb hby own_dsI1_54)
  have Fw16 := ((Fv.keep K8q nin0).other W13 (Or.inr (slot_ne (Or.inr (hw _ (List.mem_of_getElem? (i := 83) rfl))) (Or.inr (hw _ (List.mem_of_getElem? (i := 84) rfl))) (by decide) (t := (.array .byte)) (t' := .byte) (by decide) (by decide)))).same W16
  have K16 : Keep h0 h16 [a1] := K13.wr W16 (Or.inl (List.mem_of_getElem? (i := 0) rfl))
  have N16 := Fr.snoc X16 N13 g_a1
  have pre17 : Goes p e below s₁ (entryFrame m #[(.ref a1), (.ref ac), (.int (0 : Int32)), (.int (1 : Int32)), .null] 6) T16 (mkF m 57 #[.val (.ref a1), .val (.ref ac), .val (.int (0 : Int32)), .val (.int (1 : Int32)), .val .null, .val (.ref yy8)] []) := fun t kt => pre15 t (st16 t kt)
  obtain ⟨fs, hr, hrun, hended, hW, hsame⟩ := X16.leave (v := none) (fun _ => rfl)
  refine ⟨_, _, pre17 _ ?_, hrun, hended, _, _, rfl, ?_, ⟨_, rfl⟩, hW, hsame.mono (by decide) (by decide)⟩
  · show Steps p.tables e below (T16.setTop (mkF m 57 #[.val (.ref a1), .val (.ref ac), .val (.int (0 : Int32)), .val (.int (1 : Int32)), .val .null, .val (.ref yy8)] [])) _
    exact X16.returnOut hx Bd.returns (hb hby own_dsI1_57) hr
  · show Q_own_sI1 Z a1 ac kc cs uv uc v0 h0 n0 _ T16.heap _
    rw [e16]
    exact ⟨rfl, N16, K16, (((E_a1.keep K8q).wr W13).wr W16), (Fw13.other W16 (Or.inr (slot_ne (Or.inr (hw _ (List.mem_of_getElem? (i := 84) rfl))) (Or.inr (hw _ (List.mem_of_getElem? (i := 83) rfl))) (by decide) (t := .byte) (t' := (.array .byte)) (by decide) (by decide)))), yy8, ky8, zy8, gy8, Fw16, ((Vy8.other W13 (Ne.symm (Nat.ne_of_lt (Nat.lt_of_lt_of_le E_a1.lt zy8)))).other W16 (Ne.symm (Nat.ne_of_lt (Nat.lt_of_lt_of_le E_a1.lt zy8))))⟩
theorem own_dsJ1_0 : decode jdk_42_method_3_code 0 = .ok (.aload_n 0, 1) := by decide +kernel
theorem own_dsJ1_1 : decode jdk_42_method_3_code 1 = .ok (.aload_n 1, 1) := by decide +kernel
theorem own_dsJ1_2 : decode jdk_42_method_3_code 2 = .ok (.iconst 0, 1) := by decide +kernel
theorem own_dsJ1_3 : decode jdk_42_method_3_code 3 = .ok (.aload_n 1, 1) := by decide +kernel
theorem own_dsJ1_4 : decode jdk_42_method_3_code 4 = .ok (.arraylength, 1) := by decide +kernel
theorem own_dsJ1_5 : decode jdk_42_method_3_code 5 = .ok (.aconst_null, 1) := by decide +kernel
theorem own_dsJ1_6 : decode jdk_42_method_3_code 6 = .ok (.invokespecial 27, 3) := by decide +kernel
theorem own_dsJ1_9 : decode jdk_42_method_3_code 9 = .ok (.return_, 1) := by decide +kernel
theorem own_pn_own_sJ1 : plainName "java/lang/String" = true := by first | (simp [plainName, overriddenIn]; done) | decide +kernel
theorem own_ef_own_sJ1 (m : MethodId) (x0 : Addr) (x1 : Addr) : entryFrame m #[(.ref x0), (.ref x1)] 2 = mkF m 0 #[.val (.ref x0), .val (.ref x1)] [] := by first | (simp [entryFrame, mkF, argsToLocals, Value.category]; done) | rfl
def Q_own_sJ1 (Z : State) (a1 : Addr) (ac : Addr) (kc : ClassId) (cs : Int32) (uv : Value) (uc : Value) (v0 : Int32) (h0 : Heap) (n0 : Nat) (v : Option Value) (h : Heap) (L : List Loc) : Prop := v = none ∧ Fr n0 L ∧ Keep h0 h [a1] ∧ Exa Z h a1 "java/lang/String" ∧ Fld Z h a1 "java/lang/String" "coder" "B" (.int (0 : Int32)) ∧ ∃ (y : Addr) (ky : ClassId), h0.size ≤ y ∧ n0 ≤ y ∧ Fld Z h a1 "java/lang/String" "value" "[B" (.ref y) ∧ Arv Z h y ky .byte (1 : Int32) [(.int (nar .byte (v0.toInt8.toInt32)))] (.int (0 : Int32))
set_option maxRecDepth 65536 in
set_option maxHeartbeats 40000000 in
theorem own_sJ1 (l : Launch) (Z : State) (a0 : Array Value) (hw : ∀ d ∈ tables_1, d.before a0 Z = true) (ws : List Jvm.Cond) (a1 : Addr) (ac : Addr) (kc : ClassId) (cs : Int32) (uv : Value) (uc : Value) (v0 : Int32) (h0 : Heap) (n0 : Nat) (Z0 : n0 ≤ h0.size) (E_a1 : Exa Z h0 a1 "java/lang/String") (Fv : Fld Z h0 a1 "java/lang/String" "value" "[B" uv) (Fc : Fld Z h0 a1 "java/lang/String" "coder" "B" uc) (g_a1 : n0 ≤ a1) (V_ac : Arv Z h0 ac kc .char (1 : Int32) [(.int v0)] (.int (0 : Int32))) (S_CS : Sta Z h0 "java/lang/String" "COMPACT_STRINGS" "Z" (.int cs)) (hcs : ¬ (cs = (0 : Int32))) (hp0 : ¬ ((255 : Int32) < v0)) :
    MetFree l (⟨"java/lang/String", "<init>", "([C)V"⟩ : MethodName) (head1 (Jvm.Cond.code (⟨"java/lang/String", "<init>", "([C)V"⟩ : MethodName) jdk_42_method_3_code 2 none :: ws) ({ frames := 3, cells := 1, slots := 1, locals := 52 } : Room)) (fun a U => a = #[(.ref a1), (.ref ac)] ∧ Z.Warmed39 U.vm ∧ U.heap = h0) (fun _ _ _ _ _ => True) (fun _ U o U' => ∃ v L, o = .returned v ∧ Q_own_sJ1 Z a1 ac kc cs uv uc v0 h0 n0 v U'.heap L ∧ FrameEnd U o U' L ({ frames := 3, cells := 1, slots := 1, locals := 52 } : Room).cells ({ frames := 3, cells := 1, slots := 1, locals := 52 } : Room).slots) := by
  refine MetFree.of_bodySF (plainFor_of_name own_pn_own_sJ1) hisR ?_
  intro p e s m args below meth c s₁ Bd hml0 hP hK
  obtain ⟨rfl, hZ, hh⟩ := hP
  have hx := Bd.exec
  have hby := Bd.bytes
  have hml : c.maxLocals = 2 := hml0
  have hown : s.vm.findClass "java/lang/String" = some m.cls := findClass_of_methodNamed Bd.named
  have hnm := (name_of_methodNamed Bd.named Bd.method).1
  have X0 : Stand p l e ({ frames := 3, cells := 1, slots := 1, locals := 52 } : Room) s m #[(.ref a1), (.ref ac)] below meth c s₁ [] 0 0 := Stand.of_body Bd
  have e0 : s₁.heap = h0 := by rw [← hh, Bd.state]; rfl
  have N0 := Fr.nil n0
  have pre0 : Goes p e below s₁ (entryFrame m #[(.ref a1), (.ref ac)] 2) s₁ (mkF m 0 #[.val (.ref a1), .val (.ref ac)] []) := fun t k => castTop (own_ef_own_sJ1 m a1 ac) k
  have pre1 : Goes p e below s₁ (entryFrame m #[(.ref a1), (.ref ac)] 2) s₁ (mkF m 4 #[.val (.ref a1), .val (.ref ac)] [(.ref ac), (.int (0 : Int32)), (.ref ac), (.ref a1)]) := fun t kt => pre0 t (by
      show Steps p.tables e below (s₁.setTop (mkF m 0 #[.val (.ref a1), .val (.ref ac)] [])) _
      refine XS.aloadN X0.here hx rfl (hb hby own_dsJ1_0) rfl rfl ?_
      show Steps p.tables e below (s₁.setTop (mkF m 1 #[.val (.ref a1), .val (.ref ac)] [(.ref a1)])) _
      refine XS.aloadN X0.here hx rfl (hb hby own_dsJ1_1) rfl rfl ?_
      show Steps p.tables e below (s₁.setTop (mkF m 2 #[.val (.ref a1), .val (.ref ac)] [(.ref ac), (.ref a1)])) _
      refine XS.iconst X0.here hx rfl (hb hby own_dsJ1_2) ?_
      show Steps p.tables e below (s₁.setTop (mkF m 3 #[.val (.ref a1), .val (.ref ac)] [(.int (0 : Int32)), (.ref ac), (.ref a1)])) _
      refine XS.aloadN X0.here hx rfl (hb hby own_dsJ1_3) rfl rfl ?_
      exact kt)
  obtain ⟨cl2, Ar2, q2, S2, N_2, H2, G2⟩ := (id (V_ac))
  have pre3 : Goes p e below s₁ (entryFrame m #[(.ref a1), (.ref ac)] 2) s₁ (mkF m 6 #[.val (.ref a1), .val (.ref ac)] [.null, (.int (1 : Int32)), (.int (0 : Int32)), (.ref ac), (.ref a1)]) := fun t kt => pre1 t (by
      show Steps p.tables e below (s₁.setTop (mkF m 4 #[.val (.ref a1), .val (.ref ac)] [(.ref ac), (.int (0 : Int32)), (.ref ac), (.ref a1)])) _
      refine X0.arraylength hx (by (try rw [e0]); exact Ar2.1) (State.isArrayOf_alike hZ.alike Ar2.2.1) (g := (mkF m 4 #[.val (.ref a1), .val (.ref ac)] [(.ref ac), (.int (0 : Int32)), (.ref ac), (.ref a1)])) rfl rfl (hb hby own_dsJ1_4) _ ?_
      rw [len_of S2 N_2]
      show Steps p.tables e below (s₁.setTop (mkF m 5 #[.val (.ref a1), .val (.ref ac)] [(.int (1 : Int32)), (.int (0 : Int32)), (.ref ac), (.ref a1)])) _
      refine XS.aconstNull X0.here hx rfl (hb hby own_dsJ1_5) ?_
      exact kt)
  obtain ⟨_, _, ⟨T4, L4, k4, n4⟩, -, X4, ⟨Lc4, hQ4, l4, y4, z4⟩, st4⟩ := X0.specialBack hx (y := (⟨"java/lang/String", "<init>", "([CIILjava/lang/Void;)V"⟩ : MethodName)) rfl hown (mvT hZ (hw _ (List.mem_of_getElem? (i := 76) rfl))) (mvT hZ (hw _ (List.mem_of_getElem? (i := 77) rfl))) (mvT hZ (hw _ (List.mem_of_getElem? (i := 79) rfl))) (by decide) (backOf (W := 0) (own_sI1 l Z a0 hw [] a1 ac kc cs uv uc v0 h0 n0 Z0 E_a1 Fv Fc g_a1 V_ac S_CS hcs hp0) hZ (hw _ (List.mem_of_getElem? (i := 79) rfl)) (hw _ (List.mem_of_getElem? (i := 71) rfl)) (by decide) (by decide)) (g := (mkF m 6 #[.val (.ref a1), .val (.ref ac)] [.null, (.int (1 : Int32)), (.int (0 : Int32)), (.ref ac), (.ref a1)])) rfl (by rw [hml]; rfl) (Steps.refl _) (a := a1) (argsL := [(.ref ac), (.int (0 : Int32)), (.int (1 : Int32)), .null]) (rest := []) (lenOf own_pd0 rfl) rfl (by show 2 * 0 + _ ≤ _; exact Nat.le_of_eq rfl) (hb hby own_dsJ1_6) (fun _ _ => ⟨rfl, e0, (by decide : 0 + 1 ≤ _), (by decide : 0 + 1 ≤ _)⟩)
  dsimp only [Pt.U, Pt.locs, Pt.cells, Pt.slots] at X4 l4 y4 z4 st4 hQ4
  subst l4 y4 z4
  obtain ⟨rfl, N4q, K4q, Rest4⟩ := hQ4
  have N4 := Fr.app N0 N4q
  have KC4 : Keep h0 T4.heap [a1] := (Keep.refl h0 [a1]).trans K4q (allS (Or.inl (List.mem_of_getElem? (i := 0) rfl)) all0)
  have pre5 : Goes p e below s₁ (entryFrame m #[(.ref a1), (.ref ac)] 2) T4 (mkF m 9 #[.val (.ref a1), .val (.ref ac)] []) := fun t kt => pre3 t (st4.trans kt)
  obtain ⟨fs, hr, hrun, hended, hW, hsame⟩ := X4.leave (v := none) (fun _ => rfl)
  refine ⟨_, _, pre5 _ ?_, hrun, hended, _, _, rfl, ?_, ⟨_, rfl⟩, hW, hsame.mono (by decide) (by decide)⟩
  · show Steps p.tables e below (T4.setTop (mkF m 9 #[.val (.ref a1), .val (.ref ac)] [])) _
    exact X4.returnOut hx Bd.returns (hb hby own_dsJ1_9) hr
  · show Q_own_sJ1 Z a1 ac kc cs uv uc v0 h0 n0 _ T4.heap _
    exact ⟨rfl, N4, KC4, Rest4⟩
theorem own_dcmpI2_0 : decode jdk_52_method_21_code 0 = .ok (.iconst 0, 1) := by decide +kernel
theorem own_dcmpI2_1 : decode jdk_52_method_21_code 1 = .ok (.istore 5, 2) := by decide +kernel
theorem own_dcmpI2_3 : decode jdk_52_method_21_code 3 = .ok (.iload 5, 2) := by decide +kernel
theorem own_dcmpI2_5 : decode jdk_52_method_21_code 5 = .ok (.iload 4, 2) := by decide +kernel
theorem own_dcmpI2_7 : decode jdk_52_method_21_code 7 = .ok (.if_icmp .ge 37, 3) := by decide +kernel
theorem own_dcmpI2_10 : decode jdk_52_method_21_code 10 = .ok (.aload_n 0, 1) := by decide +kernel
theorem own_dcmpI2_11 : decode jdk_52_method_21_code 11 = .ok (.iload_n 1, 1) := by decide +kernel
theorem own_dcmpI2_12 : decode jdk_52_method_21_code 12 = .ok (.caload, 1) := by decide +kernel
theorem own_dcmpI2_13 : decode jdk_52_method_21_code 13 = .ok (.istore 6, 2) := by decide +kernel
theorem own_dcmpI2_15 : decode jdk_52_method_21_code 15 = .ok (.iload 6, 2) := by decide +kernel
theorem own_dcmpI2_17 : decode jdk_52_method_21_code 17 = .ok (.sipush 255, 3) := by decide +kernel
theorem own_dcmpI2_20 : decode jdk_52_method_21_code 20 = .ok (.if_icmp .le 6, 3) := by decide +kernel
theorem own_dcmpI2_26 : decode jdk_52_method_21_code 26 = .ok (.aload_n 2, 1) := by decide +kernel
theorem own_dcmpI2_27 : decode jdk_52_method_21_code 27 = .ok (.iload_n 3, 1) := by decide +kernel
theorem own_dcmpI2_28 : decode jdk_52_method_21_code 28 = .ok (.iload 6, 2) := by decide +kernel
theorem own_dcmpI2_30 : decode jdk_52_method_21_code 30 = .ok (.i2b, 1) := by decide +kernel
theorem own_dcmpI2_31 : decode jdk_52_method_21_code 31 = .ok (.bastore, 1) := by decide +kernel
theorem own_dcmpI2_32 : decode jdk_52_method_21_code 32 = .ok (.iinc 1 1, 3) := by decide +kernel
theorem own_dcmpI2_35 : decode jdk_52_method_21_code 35 = .ok (.iinc 3 1, 3) := by decide +kernel
theorem own_dcmpI2_38 : decode jdk_52_method_21_code 38 = .ok (.iinc 5 1, 3) := by decide +kernel
theorem own_dcmpI2_41 : decode jdk_52_method_21_code 41 = .ok (.goto (-38), 3) := by decide +kernel
theorem own_dcmpI2_44 : decode jdk_52_method_21_code 44 = .ok (.iload 4, 2) := by decide +kernel
theorem own_dcmpI2_46 : decode jdk_52_method_21_code 46 = .ok (.ireturn, 1) := by decide +kernel
theorem own_pn_own_cmpI2 : plainName "java/lang/StringUTF16" = true := by first | (simp [plainName, overriddenIn]; done) | decide +kernel
theorem own_ef_own_cmpI2 (m : MethodId) (x0 : Addr) (x1 : Int32) (x2 : Addr) (x3 : Int32) (x4 : Int32) : entryFrame m #[(.ref x0), (.int x1), (.ref x2), (.int x3), (.int x4)] 7 = mkF m 0 #[.val (.ref x0), .val (.int x1), .val (.ref x2), .val (.int x3), .val (.int x4), .unset, .unset] [] := by first | (simp [entryFrame, mkF, argsToLocals, Value.category]; done) | rfl
def Q_own_cmpI2 (Z : State) (ac : Addr) (ab : Addr) (kc : ClassId) (kb : ClassId) (v0 : Int32) (v1 : Int32) (h0 : Heap) (n0 : Nat) (v : Option Value) (h : Heap) (L : List Loc) : Prop := v = some (.int (2 : Int32)) ∧ Fr n0 L ∧ Keep h0 h [ab] ∧ Arv Z h ab kb .byte (2 : Int32) [(.int (nar .byte (v0.toInt8.toInt32))), (.int (nar .byte (v1.toInt8.toInt32)))] (.int (0 : Int32))
set_option maxRecDepth 65536 in
set_option maxHeartbeats 40000000 in
theorem own_cmpI2 (l : Launch) (Z : State) (a0 : Array Value) (hw : ∀ d ∈ tables_1, d.before a0 Z = true) (ws : List Jvm.Cond) (ac : Addr) (ab : Addr) (kc : ClassId) (kb : ClassId) (v0 : Int32) (v1 : Int32) (h0 : Heap) (n0 : Nat) (Z0 : n0 ≤ h0.size) (V_ac : Arv Z h0 ac kc .char (2 : Int32) [(.int v0), (.int v1)] (.int (0 : Int32))) (V_ab : Arv Z h0 ab kb .byte (2 : Int32) [(.int (0 : Int32)), (.int (0 : Int32))] (.int (0 : Int32))) (g_ab : n0 ≤ ab) (nab : ac ≠ ab) (hp0 : ¬ ((255 : Int32) < v0)) (hp1 : ¬ ((255 : Int32) < v1)) :
    MetFree l (⟨"java/lang/StringUTF16", "compress", "([CI[BII)I"⟩ : MethodName) (head1 (Jvm.Cond.code (⟨"java/lang/StringUTF16", "compress", "([CI[BII)I"⟩ : MethodName) jdk_52_method_21_code 7 (some .int) :: ws) ({ frames := 0, cells := 0, slots := 0, locals := 0 } : Room)) (fun a U => a = #[(.ref ac), (.int (0 : Int32)), (.ref ab), (.int (0 : Int32)), (.int (2 : Int32))] ∧ Z.Warmed39 U.vm ∧ U.heap = h0) (fun _ _ _ _ _ => True) (fun _ U o U' => ∃ v L, o = .returned v ∧ Q_own_cmpI2 Z ac ab kc kb v0 v1 h0 n0 v U'.heap L ∧ FrameEnd U o U' L ({ frames := 0, cells := 0, slots := 0, locals := 0 } : Room).cells ({ frames := 0, cells := 0, slots := 0, locals := 0 } : Room).slots) := by
  refine MetFree.of_bodySF (plainFor_of_name own_pn_own_cmpI2) hisR ?_
  intro p e s m args below meth c s₁ Bd hml0 hP hK
  obtain ⟨rfl, hZ, hh⟩ := hP
  have hx := Bd.exec
  have hby := Bd.bytes
  have hml : c.maxLocals = 7 := hml0
  have hown : s.vm.findClass "java/lang/StringUTF16" = some m.cls := findClass_of_methodNamed Bd.named
  have hnm := (name_of_methodNamed Bd.named Bd.method).1
  have X0 : Stand p l e ({ frames := 0, cells := 0, slots := 0, locals := 0 } : Room) s m #[(.ref ac), (.int (0 : Int32)), (.ref ab), (.int (0 : Int32)), (.int (2 : Int32))] below meth c s₁ [] 0 0 := Stand.of_body Bd
  have e0 : s₁.heap = h0 := by rw [← hh, Bd.state]; rfl
  have N0 := Fr.nil n0
  have pre0 : Goes p e below s₁ (entryFrame m #[(.ref ac), (.int (0 : Int32)), (.ref ab), (.int (0 : Int32)), (.int (2 : Int32))] 7) s₁ (mkF m 0 #[.val (.ref ac), .val (.int (0 : Int32)), .val (.ref ab), .val (.int (0 : Int32)), .val (.int (2 : Int32)), .unset, .unset] []) := fun t k => castTop (own_ef_own_cmpI2 m ac (0 : Int32) ab (0 : Int32) (2 : Int32)) k
  have pre1 : Goes p e below s₁ (entryFrame m #[(.ref ac), (.int (0 : Int32)), (.ref ab), (.int (0 : Int32)), (.int (2 : Int32))] 7) s₁ (mkF m 12 #[.val (.ref ac), .val (.int (0 : Int32)), .val (.ref ab), .val (.int (0 : Int32)), .val (.int (2 : Int32)), .val (.int (0 : Int32)), .unset] [(.int (0 : Int32)), (.ref ac)]) := fun t kt => pre0 t (by
      show Steps p.tables e below (s₁.setTop (mkF m 0 #[.val (.ref ac), .val (.int (0 : Int32)), .val (.ref ab), .val (.int (0 : Int32)), .val (.int (2 : Int32)), .unset, .unset] [])) _
      refine XS.iconst X0.here hx rfl (hb hby own_dcmpI2_0) ?_
      show Steps p.tables e below (s₁.setTop (mkF m 1 #[.val (.ref ac), .val (.int (0 : Int32)), .val (.ref ab), .val (.int (0 : Int32)), .val (.int (2 : Int32)), .unset, .unset] [(.int (0 : Int32))])) _
      refine XS.istore X0.here hx rfl (hb hby own_dcmpI2_1) rfl (l' := #[.val (.ref ac), .val (.int (0 : Int32)), .val (.ref ab), .val (.int (0 : Int32)), .val (.int (2 : Int32)), .val (.int (0 : Int32)), .unset]) rfl ?_
      show Steps p.tables e below (s₁.setTop (mkF m 3 #[.val (.ref ac), .val (.int (0 : Int32)), .val (.ref ab), .val (.int (0 : Int32)), .val (.int (2 : Int32)), .val (.int (0 : Int32)), .unset] [])) _
      refine XS.iload X0.here hx rfl (hb hby own_dcmpI2_3) rfl ?_
      show Steps p.tables e below (s₁.setTop (mkF m 5 #[.val (.ref ac), .val (.int (0 : Int32)), .val (.ref ab), .val (.int (0 : Int32)), .val (.int (2 : Int32)), .val (.int (0 : Int32)), .unset] [(.int (0 : Int32))])) _
      refine XS.iload X0.here hx rfl (hb hby own_dcmpI2_5) rfl ?_
      show Steps p.tables e below (s₁.setTop (mkF m 7 #[.val (.ref ac), .val (.int (0 : Int32)), .val (.ref ab), .val (.int (0 : Int32)), .val (.int (2 : Int32)), .val (.int (0 : Int32)), .unset] [(.int (2 : Int32)), (.int (0 : Int32))])) _
      refine XS.icmpNo X0.here hx rfl (hb hby own_dcmpI2_7) rfl (tlt (by decide : (0 : Int32) < (2 : Int32))).2.1 ?_
      show Steps p.tables e below (s₁.setTop (mkF m 10 #[.val (.ref ac), .val (.int (0 : Int32)), .val (.ref ab), .val (.int (0 : Int32)), .val (.int (2 : Int32)), .val (.int (0 : Int32)), .unset] [])) _
      refine XS.aloadN X0.here hx rfl (hb hby own_dcmpI2_10) rfl rfl ?_
      show Steps p.tables e below (s₁.setTop (mkF m 11 #[.val (.ref ac), .val (.int (0 : Int32)), .val (.ref ab), .val (.int (0 : Int32)), .val (.int (2 : Int32)), .val (.int (0 : Int32)), .unset] [(.ref ac)])) _
      refine XS.iloadN X0.here hx rfl (hb hby own_dcmpI2_11) rfl ?_
      exact kt)
  obtain ⟨cl2, Ar2, q2, S2, N_2, H2, G2⟩ := (id (V_ac))
  have hin2 : ¬ ((0 : Int32) < 0 ∨ cl2.slots.size ≤ ((0 : Int32)).toNatClampNeg) := inb_of S2 ⟨by decide, by decide⟩
  have hat2 : cl2.slots[((0 : Int32)).toNatClampNeg]? = some (.int v0) := Has.at H2 hin2 rfl
  have pre3 : Goes p e below s₁ (entryFrame m #[(.ref ac), (.int (0 : Int32)), (.ref ab), (.int (0 : Int32)), (.int (2 : Int32))] 7) s₁ (mkF m 31 #[.val (.ref ac), .val (.int (0 : Int32)), .val (.ref ab), .val (.int (0 : Int32)), .val (.int (2 : Int32)), .val (.int (0 : Int32)), .val (.int v0)] [(.int (v0.toInt8.toInt32)), (.int (0 : Int32)), (.ref ab)]) := fun t kt => pre1 t (by
      show Steps p.tables e below (s₁.setTop (mkF m 12 #[.val (.ref ac), .val (.int (0 : Int32)), .val (.ref ab), .val (.int (0 : Int32)), .val (.int (2 : Int32)), .val (.int (0 : Int32)), .unset] [(.int (0 : Int32)), (.ref ac)])) _
      refine X0.caload hx (j := (0 : Int32)) (v := (.int v0)) (by (try rw [e0]); exact Ar2.1) (State.isArrayOf_alike hZ.alike Ar2.2.1) Ar2.2.2 hin2 hat2 (g := (mkF m 12 #[.val (.ref ac), .val (.int (0 : Int32)), .val (.ref ab), .val (.int (0 : Int32)), .val (.int (2 : Int32)), .val (.int (0 : Int32)), .unset] [(.int (0 : Int32)), (.ref ac)])) rfl rfl (hb hby own_dcmpI2_12) _ ?_
      show Steps p.tables e below (s₁.setTop (mkF m 13 #[.val (.ref ac), .val (.int (0 : Int32)), .val (.ref ab), .val (.int (0 : Int32)), .val (.int (2 : Int32)), .val (.int (0 : Int32)), .unset] [(.int v0)])) _
      refine XS.istore X0.here hx rfl (hb hby own_dcmpI2_13) rfl (l' := #[.val (.ref ac), .val (.int (0 : Int32)), .val (.ref ab), .val (.int (0 : Int32)), .val (.int (2 : Int32)), .val (.int (0 : Int32)), .val (.int v0)]) rfl ?_
      show Steps p.tables e below (s₁.setTop (mkF m 15 #[.val (.ref ac), .val (.int (0 : Int32)), .val (.ref ab), .val (.int (0 : Int32)), .val (.int (2 : Int32)), .val (.int (0 : Int32)), .val (.int v0)] [])) _
      refine XS.iload X0.here hx rfl (hb hby own_dcmpI2_15) rfl ?_
      show Steps p.tables e below (s₁.setTop (mkF m 17 #[.val (.ref ac), .val (.int (0 : Int32)), .val (.ref ab), .val (.int (0 : Int32)), .val (.int (2 : Int32)), .val (.int (0 : Int32)), .val (.int v0)] [(.int v0)])) _
      refine XS.sipush X0.here hx rfl (hb hby own_dcmpI2_17) ?_
      show Steps p.tables e below (s₁.setTop (mkF m 20 #[.val (.ref ac), .val (.int (0 : Int32)), .val (.ref ab), .val (.int (0 : Int32)), .val (.int (2 : Int32)), .val (.int (0 : Int32)), .val (.int v0)] [(.int (255 : Int32)), (.int v0)])) _
      refine XS.icmpYes X0.here hx rfl (pc0 := 20) (pc' := 26) rfl (hb hby own_dcmpI2_20) rfl (flt hp0).2.2.2 (by decide) (by decide) ?_
      show Steps p.tables e below (s₁.setTop (mkF m 26 #[.val (.ref ac), .val (.int (0 : Int32)), .val (.ref ab), .val (.int (0 : Int32)), .val (.int (2 : Int32)), .val (.int (0 : Int32)), .val (.int v0)] [])) _
      refine XS.aloadN X0.here hx rfl (hb hby own_dcmpI2_26) rfl rfl ?_
      show Steps p.tables e below (s₁.setTop (mkF m 27 #[.val (.ref ac), .val (.int (0 : Int32)), .val (.ref ab), .val (.int (0 : Int32)), .val (.int (2 : Int32)), .val (.int (0 : Int32)), .val (.int v0)] [(.ref ab)])) _
      refine XS.iloadN X0.here hx rfl (hb hby own_dcmpI2_27) rfl ?_
      show Steps p.tables e below (s₁.setTop (mkF m 28 #[.val (.ref ac), .val (.int (0 : Int32)), .val (.ref ab), .val (.int (0 : Int32)), .val (.int (2 : Int32)), .val (.int (0 : Int32)), .val (.int v0)] [(.int (0 : Int32)), (.ref ab)])) _
      refine XS.iload X0.here hx rfl (hb hby own_dcmpI2_28) rfl ?_
      show Steps p.tables e below (s₁.setTop (mkF m 30 #[.val (.ref ac), .val (.int (0 : Int32)), .val (.ref ab), .val (.int (0 : Int32)), .val (.int (2 : Int32)), .val (.int (0 : Int32)), .val (.int v0)] [(.int v0), (.int (0 : Int32)), (.ref ab)])) _
      refine XS.i2b X0.here hx rfl (hb hby own_dcmpI2_30) rfl ?_
      exact kt)
  obtain ⟨cl4, Ar4, q4, S4, N_4, H4, G4⟩ := (id (V_ab))
  have hin4 : ¬ ((0 : Int32) < 0 ∨ cl4.slots.size ≤ ((0 : Int32)).toNatClampNeg) := inb_of S4 ⟨by decide, by decide⟩
  obtain ⟨T5, h5, X5, e5, W5, st5⟩ := stB X0 hx hZ e0 Ar4 (j := (0 : Int32)) hin4 (g := (mkF m 31 #[.val (.ref ac), .val (.int (0 : Int32)), .val (.ref ab), .val (.int (0 : Int32)), .val (.int (2 : Int32)), .val (.int (0 : Int32)), .val (.int v0)] [(.int (v0.toInt8.toInt32)), (.int (0 : Int32)), (.ref ab)])) rfl rfl (hb hby own_dcmpI2_31)
  have V5 : Arv Z h5 ab kb .byte (2 : Int32) [(.int (nar .byte (v0.toInt8.toInt32))), (.int (0 : Int32))] (.int (0 : Int32)) := Arv.set Ar4 q4 S4 N_4 H4 G4 (fits_nar_byte _) W5 0 rfl (Nat.le_of_ble_eq_true rfl)
  have K5 : Keep h0 h5 [ab] := (Keep.refl h0 [ab]).wr W5 (Or.inl (List.mem_of_getElem? (i := 0) rfl))
  have N5 := Fr.snoc X5 N0 g_ab
  have pre6 : Goes p e below s₁ (entryFrame m #[(.ref ac), (.int (0 : Int32)), (.ref ab), (.int (0 : Int32)), (.int (2 : Int32))] 7) T5 (mkF m 32 #[.val (.ref ac), .val (.int (0 : Int32)), .val (.ref ab), .val (.int (0 : Int32)), .val (.int (2 : Int32)), .val (.int (0 : Int32)), .val (.int v0)] []) := fun t kt => pre3 t (st5 t kt)
  have pre7 : Goes p e below s₁ (entryFrame m #[(.ref ac), (.int (0 : Int32)), (.ref ab), (.int (0 : Int32)), (.int (2 : Int32))] 7) T5 (mkF m 12 #[.val (.ref ac), .val (.int (1 : Int32)), .val (.ref ab), .val (.int (1 : Int32)), .val (.int (2 : Int32)), .val (.int (1 : Int32)), .val (.int v0)] [(.int (1 : Int32)), (.ref ac)]) := fun t kt => pre6 t (by
      show Steps p.tables e below (T5.setTop (mkF m 32 #[.val (.ref ac), .val (.int (0 : Int32)), .val (.ref ab), .val (.int (0 : Int32)), .val (.int (2 : Int32)), .val (.int (0 : Int32)), .val (.int v0)] [])) _
      refine XS.iinc X5.here hx rfl (hb hby own_dcmpI2_32) rfl (l' := #[.val (.ref ac), .val (.int (1 : Int32)), .val (.ref ab), .val (.int (0 : Int32)), .val (.int (2 : Int32)), .val (.int (0 : Int32)), .val (.int v0)]) rfl ?_
      show Steps p.tables e below (T5.setTop (mkF m 35 #[.val (.ref ac), .val (.int (1 : Int32)), .val (.ref ab), .val (.int (0 : Int32)), .val (.int (2 : Int32)), .val (.int (0 : Int32)), .val (.int v0)] [])) _
      refine XS.iinc X5.here hx rfl (hb hby own_dcmpI2_35) rfl (l' := #[.val (.ref ac), .val (.int (1 : Int32)), .val (.ref ab), .val (.int (1 : Int32)), .val (.int (2 : Int32)), .val (.int (0 : Int32)), .val (.int v0)]) rfl ?_
      show Steps p.tables e below (T5.setTop (mkF m 38 #[.val (.ref ac), .val (.int (1 : Int32)), .val (.ref ab), .val (.int (1 : Int32)), .val (.int (2 : Int32)), .val (.int (0 : Int32)), .val (.int v0)] [])) _
      refine XS.iinc X5.here hx rfl (hb hby own_dcmpI2_38) rfl (l' := #[.val (.ref ac), .val (.int (1 : Int32)), .val (.ref ab), .val (.int (1 : Int32)), .val (.int (2 : Int32)), .val (.int (1 : Int32)), .val (.int v0)]) rfl ?_
      show Steps p.tables e below (T5.setTop (mkF m 41 #[.val (.ref ac), .val (.int (1 : Int32)), .val (.ref ab), .val (.int (1 : Int32)), .val (.int (2 : Int32)), .val (.int (1 : Int32)), .val (.int v0)] [])) _
      refine XS.goto X5.here hx rfl (pc0 := 41) (pc' := 3) rfl (hb hby own_dcmpI2_41) (by decide) (by decide) ?_
      show Steps p.tables e below (T5.setTop (mkF m 3 #[.val (.ref ac), .val (.int (1 : Int32)), .val (.ref ab), .val (.int (1 : Int32)), .val (.int (2 : Int32)), .val (.int (1 : Int32)), .val (.int v0)] [])) _
      refine XS.iload X5.here hx rfl (hb hby own_dcmpI2_3) rfl ?_
      show Steps p.tables e below (T5.setTop (mkF m 5 #[.val (.ref ac), .val (.int (1 : Int32)), .val (.ref ab), .val (.int (1 : Int32)), .val (.int (2 : Int32)), .val (.int (1 : Int32)), .val (.int v0)] [(.int (1 : Int32))])) _
      refine XS.iload X5.here hx rfl (hb hby own_dcmpI2_5) rfl ?_
      show Steps p.tables e below (T5.setTop (mkF m 7 #[.val (.ref ac), .val (.int (1 : Int32)), .val (.ref ab), .val (.int (1 : Int32)), .val (.int (2 : Int32)), .val (.int (1 : Int32)), .val (.int v0)] [(.int (2 : Int32)), (.int (1 : Int32))])) _
      refine XS.icmpNo X5.here hx rfl (hb hby own_dcmpI2_7) rfl (tlt (by decide : (1 : Int32) < (2 : Int32))).2.1 ?_
      show Steps p.tables e below (T5.setTop (mkF m 10 #[.val (.ref ac), .val (.int (1 : Int32)), .val (.ref ab), .val (.int (1 : Int32)), .val (.int (2 : Int32)), .val (.int (1 : Int32)), .val (.int v0)] [])) _
      refine XS.aloadN X5.here hx rfl (hb hby own_dcmpI2_10) rfl rfl ?_
      show Steps p.tables e below (T5.setTop (mkF m 11 #[.val (.ref ac), .val (.int (1 : Int32)), .val (.ref ab), .val (.int (1 : Int32)), .val (.int (2 : Int32)), .val (.int (1 : Int32)), .val (.int v0)] [(.ref ac)])) _
      refine XS.iloadN X5.here hx rfl (hb hby own_dcmpI2_11) rfl ?_
      exact kt)
  obtain ⟨cl8, Ar8, q8, S8, N_8, H8, G8⟩ := (id ((V_ac.other W5 nab)))
  have hin8 : ¬ ((1 : Int32) < 0 ∨ cl8.slots.size ≤ ((1 : Int32)).toNatClampNeg) := inb_of S8 ⟨by decide, by decide⟩
  have hat8 : cl8.slots[((1 : Int32)).toNatClampNeg]? = some (.int v1) := Has.at H8 hin8 rfl
  have pre9 : Goes p e below s₁ (entryFrame m #[(.ref ac), (.int (0 : Int32)), (.ref ab), (.int (0 : Int32)), (.int (2 : Int32))] 7) T5 (mkF m 31 #[.val (.ref ac), .val (.int (1 : Int32)), .val (.ref ab), .val (.int (1 : Int32)), .val (.int (2 : Int32)), .val (.int (1 : Int32)), .val (.int v1)] [(.int (v1.toInt8.toInt32)), (.int (1 : Int32)), (.ref ab)]) := fun t kt => pre7 t (by
      show Steps p.tables e below (T5.setTop (mkF m 12 #[.val (.ref ac), .val (.int (1 : Int32)), .val (.ref ab), .val (.int (1 : Int32)), .val (.int (2 : Int32)), .val (.int (1 : Int32)), .val (.int v0)] [(.int (1 : Int32)), (.ref ac)])) _
      refine X5.caload hx (j := (1 : Int32)) (v := (.int v1)) (by (try rw [e5]); exact Ar8.1) (State.isArrayOf_alike hZ.alike Ar8.2.1) Ar8.2.2 hin8 hat8 (g := (mkF m 12 #[.val (.ref ac), .val (.int (1 : Int32)), .val (.ref ab), .val (.int (1 : Int32)), .val (.int (2 : Int32)), .val (.int (1 : Int32)), .val (.int v0)] [(.int (1 : Int32)), (.ref ac)])) rfl rfl (hb hby own_dcmpI2_12) _ ?_
      show Steps p.tables e below (T5.setTop (mkF m 13 #[.val (.ref ac), .val (.int (1 : Int32)), .val (.ref ab), .val (.int (1 : Int32)), .val (.int (2 : Int32)), .val (.int (1 : Int32)), .val (.int v0)] [(.int v1)])) _
      refine XS.istore X5.here hx rfl (hb hby own_dcmpI2_13) rfl (l' := #[.val (.ref ac), .val (.int (1 : Int32)), .val (.ref ab), .val (.int (1 : Int32)), .val (.int (2 : Int32)), .val (.int (1 : Int32)), .val (.int v1)]) rfl ?_
      show Steps p.tables e below (T5.setTop (mkF m 15 #[.val (.ref ac), .val (.int (1 : Int32)), .val (.ref ab), .val (.int (1 : Int32)), .val (.int (2 : Int32)), .val (.int (1 : Int32)), .val (.int v1)] [])) _
      refine XS.iload X5.here hx rfl (hb hby own_dcmpI2_15) rfl ?_
      show Steps p.tables e below (T5.setTop (mkF m 17 #[.val (.ref ac), .val (.int (1 : Int32)), .val (.ref ab), .val (.int (1 : Int32)), .val (.int (2 : Int32)), .val (.int (1 : Int32)), .val (.int v1)] [(.int v1)])) _
      refine XS.sipush X5.here hx rfl (hb hby own_dcmpI2_17) ?_
      show Steps p.tables e below (T5.setTop (mkF m 20 #[.val (.ref ac), .val (.int (1 : Int32)), .val (.ref ab), .val (.int (1 : Int32)), .val (.int (2 : Int32)), .val (.int (1 : Int32)), .val (.int v1)] [(.int (255 : Int32)), (.int v1)])) _
      refine XS.icmpYes X5.here hx rfl (pc0 := 20) (pc' := 26) rfl (hb hby own_dcmpI2_20) rfl (flt hp1).2.2.2 (by decide) (by decide) ?_
      show Steps p.tables e below (T5.setTop (mkF m 26 #[.val (.ref ac), .val (.int (1 : Int32)), .val (.ref ab), .val (.int (1 : Int32)), .val (.int (2 : Int32)), .val (.int (1 : Int32)), .val (.int v1)] [])) _
      refine XS.aloadN X5.here hx rfl (hb hby own_dcmpI2_26) rfl rfl ?_
      show Steps p.tables e below (T5.setTop (mkF m 27 #[.val (.ref ac), .val (.int (1 : Int32)), .val (.ref ab), .val (.int (1 : Int32)), .val (.int (2 : Int32)), .val (.int (1 : Int32)), .val (.int v1)] [(.ref ab)])) _
      refine XS.iloadN X5.here hx rfl (hb hby own_dcmpI2_27) rfl ?_
      show Steps p.tables e below (T5.setTop (mkF m 28 #[.val (.ref ac), .val (.int (1 : Int32)), .val (.ref ab), .val (.int (1 : Int32)), .val (.int (2 : Int32)), .val (.int (1 : Int32)), .val (.int v1)] [(.int (1 : Int32)), (.ref ab)])) _
      refine XS.iload X5.here hx rfl (hb hby own_dcmpI2_28) rfl ?_
      show Steps p.tables e below (T5.setTop (mkF m 30 #[.val (.ref ac), .val (.int (1 : Int32)), .val (.ref ab), .val (.int (1 : Int32)), .val (.int (2 : Int32)), .val (.int (1 : Int32)), .val (.int v1)] [(.int v1), (.int (1 : Int32)), (.ref ab)])) _
      refine XS.i2b X5.here hx rfl (hb hby own_dcmpI2_30) rfl ?_
      exact kt)
  obtain ⟨cl10, Ar10, q10, S10, N_10, H10, G10⟩ := (id (V5))
  have hin10 : ¬ ((1 : Int32) < 0 ∨ cl10.slots.size ≤ ((1 : Int32)).toNatClampNeg) := inb_of S10 ⟨by decide, by decide⟩
  obtain ⟨T11, h11, X11, e11, W11, st11⟩ := stB X5 hx hZ e5 Ar10 (j := (1 : Int32)) hin10 (g := (mkF m 31 #[.val (.ref ac), .val (.int (1 : Int32)), .val (.ref ab), .val (.int (1 : Int32)), .val (.int (2 : Int32)), .val (.int (1 : Int32)), .val (.int v1)] [(.int (v1.toInt8.toInt32)), (.int (1 : Int32)), (.ref ab)])) rfl rfl (hb hby own_dcmpI2_31)
  have V11 : Arv Z h11 ab kb .byte (2 : Int32) [(.int (nar .byte (v0.toInt8.toInt32))), (.int (nar .byte (v1.toInt8.toInt32)))] (.int (0 : Int32)) := Arv.set Ar10 q10 S10 N_10 H10 G10 (fits_nar_byte _) W11 1 rfl (Nat.le_of_ble_eq_true rfl)
  have K11 : Keep h0 h11 [ab] := K5.wr W11 (Or.inl (List.mem_of_getElem? (i := 0) rfl))
  have N11 := Fr.snoc X11 N5 g_ab
  have pre12 : Goes p e below s₁ (entryFrame m #[(.ref ac), (.int (0 : Int32)), (.ref ab), (.int (0 : Int32)), (.int (2 : Int32))] 7) T11 (mkF m 32 #[.val (.ref ac), .val (.int (1 : Int32)), .val (.ref ab), .val (.int (1 : Int32)), .val (.int (2 : Int32)), .val (.int (1 : Int32)), .val (.int v1)] []) := fun t kt => pre9 t (st11 t kt)
  have pre13 : Goes p e below s₁ (entryFrame m #[(.ref ac), (.int (0 : Int32)), (.ref ab), (.int (0 : Int32)), (.int (2 : Int32))] 7) T11 (mkF m 46 #[.val (.ref ac), .val (.int (2 : Int32)), .val (.ref ab), .val (.int (2 : Int32)), .val (.int (2 : Int32)), .val (.int (2 : Int32)), .val (.int v1)] [(.int (2 : Int32))]) := fun t kt => pre12 t (by
      show Steps p.tables e below (T11.setTop (mkF m 32 #[.val (.ref ac), .val (.int (1 : Int32)), .val (.ref ab), .val (.int (1 : Int32)), .val (.int (2 : Int32)), .val (.int (1 : Int32)), .val (.int v1)] [])) _
      refine XS.iinc X11.here hx rfl (hb hby own_dcmpI2_32) rfl (l' := #[.val (.ref ac), .val (.int (2 : Int32)), .val (.ref ab), .val (.int (1 : Int32)), .val (.int (2 : Int32)), .val (.int (1 : Int32)), .val (.int v1)]) rfl ?_
      show Steps p.tables e below (T11.setTop (mkF m 35 #[.val (.ref ac), .val (.int (2 : Int32)), .val (.ref ab), .val (.int (1 : Int32)), .val (.int (2 : Int32)), .val (.int (1 : Int32)), .val (.int v1)] [])) _
      refine XS.iinc X11.here hx rfl (hb hby own_dcmpI2_35) rfl (l' := #[.val (.ref ac), .val (.int (2 : Int32)), .val (.ref ab), .val (.int (2 : Int32)), .val (.int (2 : Int32)), .val (.int (1 : Int32)), .val (.int v1)]) rfl ?_
      show Steps p.tables e below (T11.setTop (mkF m 38 #[.val (.ref ac), .val (.int (2 : Int32)), .val (.ref ab), .val (.int (2 : Int32)), .val (.int (2 : Int32)), .val (.int (1 : Int32)), .val (.int v1)] [])) _
      refine XS.iinc X11.here hx rfl (hb hby own_dcmpI2_38) rfl (l' := #[.val (.ref ac), .val (.int (2 : Int32)), .val (.ref ab), .val (.int (2 : Int32)), .val (.int (2 : Int32)), .val (.int (2 : Int32)), .val (.int v1)]) rfl ?_
      show Steps p.tables e below (T11.setTop (mkF m 41 #[.val (.ref ac), .val (.int (2 : Int32)), .val (.ref ab), .val (.int (2 : Int32)), .val (.int (2 : Int32)), .val (.int (2 : Int32)), .val (.int v1)] [])) _
      refine XS.goto X11.here hx rfl (pc0 := 41) (pc' := 3) rfl (hb hby own_dcmpI2_41) (by decide) (by decide) ?_
      show Steps p.tables e below (T11.setTop (mkF m 3 #[.val (.ref ac), .val (.int (2 : Int32)), .val (.ref ab), .val (.int (2 : Int32)), .val (.int (2 : Int32)), .val (.int (2 : Int32)), .val (.int v1)] [])) _
      refine XS.iload X11.here hx rfl (hb hby own_dcmpI2_3) rfl ?_
      show Steps p.tables e below (T11.setTop (mkF m 5 #[.val (.ref ac), .val (.int (2 : Int32)), .val (.ref ab), .val (.int (2 : Int32)), .val (.int (2 : Int32)), .val (.int (2 : Int32)), .val (.int v1)] [(.int (2 : Int32))])) _
      refine XS.iload X11.here hx rfl (hb hby own_dcmpI2_5) rfl ?_
      show Steps p.tables e below (T11.setTop (mkF m 7 #[.val (.ref ac), .val (.int (2 : Int32)), .val (.ref ab), .val (.int (2 : Int32)), .val (.int (2 : Int32)), .val (.int (2 : Int32)), .val (.int v1)] [(.int (2 : Int32)), (.int (2 : Int32))])) _
      refine XS.icmpYes X11.here hx rfl (pc0 := 7) (pc' := 44) rfl (hb hby own_dcmpI2_7) rfl (flt (by decide : ¬ ((2 : Int32) < (2 : Int32)))).2.1 (by decide) (by decide) ?_
      show Steps p.tables e below (T11.setTop (mkF m 44 #[.val (.ref ac), .val (.int (2 : Int32)), .val (.ref ab), .val (.int (2 : Int32)), .val (.int (2 : Int32)), .val (.int (2 : Int32)), .val (.int v1)] [])) _
      refine XS.iload X11.here hx rfl (hb hby own_dcmpI2_44) rfl ?_
      exact kt)
  obtain ⟨fs, hr, hrun, hended, hW, hsame⟩ := X11.leave (v := some (.int (2 : Int32))) (fun h => by rw [Bd.returns] at h; cases h)
  refine ⟨_, _, pre13 _ ?_, hrun, hended, _, _, rfl, ?_, ⟨_, rfl⟩, hW, hsame.mono (by decide) (by decide)⟩
  · show Steps p.tables e below (T11.setTop (mkF m 46 #[.val (.ref ac), .val (.int (2 : Int32)), .val (.ref ab), .val (.int (2 : Int32)), .val (.int (2 : Int32)), .val (.int (2 : Int32)), .val (.int v1)] [(.int (2 : Int32))])) _
    exact retI X11 hx Bd.returns (hb hby own_dcmpI2_46) hr
  · show Q_own_cmpI2 Z ac ab kc kb v0 v1 h0 n0 _ T11.heap _
    rw [e11]
    exact ⟨rfl, N11, K11, V11⟩
theorem own_dcmpO2_0 : decode jdk_52_method_16_code 0 = .ok (.iload_n 2, 1) := by decide +kernel
theorem own_dcmpO2_1 : decode jdk_52_method_16_code 1 = .ok (.newarray .byte, 2) := by decide +kernel
theorem own_dcmpO2_3 : decode jdk_52_method_16_code 3 = .ok (.astore_n 3, 1) := by decide +kernel
theorem own_dcmpO2_4 : decode jdk_52_method_16_code 4 = .ok (.aload_n 0, 1) := by decide +kernel
theorem own_dcmpO2_5 : decode jdk_52_method_16_code 5 = .ok (.iload_n 1, 1) := by decide +kernel
theorem own_dcmpO2_6 : decode jdk_52_method_16_code 6 = .ok (.aload_n 3, 1) := by decide +kernel
theorem own_dcmpO2_7 : decode jdk_52_method_16_code 7 = .ok (.iconst 0, 1) := by decide +kernel
theorem own_dcmpO2_8 : decode jdk_52_method_16_code 8 = .ok (.iload_n 2, 1) := by decide +kernel
theorem own_dcmpO2_9 : decode jdk_52_method_16_code 9 = .ok (.invokestatic 115, 3) := by decide +kernel
theorem own_dcmpO2_12 : decode jdk_52_method_16_code 12 = .ok (.istore 4, 2) := by decide +kernel
theorem own_dcmpO2_14 : decode jdk_52_method_16_code 14 = .ok (.iload 4, 2) := by decide +kernel
theorem own_dcmpO2_16 : decode jdk_52_method_16_code 16 = .ok (.iload_n 2, 1) := by decide +kernel
theorem own_dcmpO2_17 : decode jdk_52_method_16_code 17 = .ok (.if_icmp .eq 40, 3) := by decide +kernel
theorem own_dcmpO2_57 : decode jdk_52_method_16_code 57 = .ok (.aload_n 3, 1) := by decide +kernel
theorem own_dcmpO2_58 : decode jdk_52_method_16_code 58 = .ok (.areturn, 1) := by decide +kernel
theorem own_pn_own_cmpO2 : plainName "java/lang/StringUTF16" = true := by first | (simp [plainName, overriddenIn]; done) | decide +kernel
theorem own_ef_own_cmpO2 (m : MethodId) (x0 : Addr) (x1 : Int32) (x2 : Int32) : entryFrame m #[(.ref x0), (.int x1), (.int x2)] 6 = mkF m 0 #[.val (.ref x0), .val (.int x1), .val (.int x2), .unset, .unset, .unset] [] := by first | (simp [entryFrame, mkF, argsToLocals, Value.category]; done) | rfl
def Q_own_cmpO2 (Z : State) (ac : Addr) (kc : ClassId) (v0 : Int32) (v1 : Int32) (h0 : Heap) (n0 : Nat) (v : Option Value) (h : Heap) (L : List Loc) : Prop := ∃ (y : Addr) (ky : ClassId), v = some (.ref y) ∧ Fr n0 L ∧ Keep h0 h [] ∧ h0.size ≤ y ∧ n0 ≤ y ∧ Arv Z h y ky .byte (2 : Int32) [(.int (nar .byte (v0.toInt8.toInt32))), (.int (nar .byte (v1.toInt8.toInt32)))] (.int (0 : Int32))
set_option maxRecDepth 65536 in
set_option maxHeartbeats 40000000 in
theorem own_cmpO2 (l : Launch) (Z : State) (a0 : Array Value) (hw : ∀ d ∈ tables_1, d.before a0 Z = true) (ws : List Jvm.Cond) (ac : Addr) (kc : ClassId) (v0 : Int32) (v1 : Int32) (h0 : Heap) (n0 : Nat) (Z0 : n0 ≤ h0.size) (V_ac : Arv Z h0 ac kc .char (2 : Int32) [(.int v0), (.int v1)] (.int (0 : Int32))) (hp0 : ¬ ((255 : Int32) < v0)) (hp1 : ¬ ((255 : Int32) < v1)) :
    MetFree l (⟨"java/lang/StringUTF16", "compress", "([CII)[B"⟩ : MethodName) (head1 (Jvm.Cond.code (⟨"java/lang/StringUTF16", "compress", "([CII)[B"⟩ : MethodName) jdk_52_method_16_code 6 (some (.array .byte)) :: ws) ({ frames := 1, cells := 1, slots := 2, locals := 18 } : Room)) (fun a U => a = #[(.ref ac), (.int (0 : Int32)), (.int (2 : Int32))] ∧ Z.Warmed39 U.vm ∧ U.heap = h0) (fun _ _ _ _ _ => True) (fun _ U o U' => ∃ v L, o = .returned v ∧ Q_own_cmpO2 Z ac kc v0 v1 h0 n0 v U'.heap L ∧ FrameEnd U o U' L ({ frames := 1, cells := 1, slots := 2, locals := 18 } : Room).cells ({ frames := 1, cells := 1, slots := 2, locals := 18 } : Room).slots) := by
  refine MetFree.of_bodySF (plainFor_of_name own_pn_own_cmpO2) hisR ?_
  intro p e s m args below meth c s₁ Bd hml0 hP hK
  obtain ⟨rfl, hZ, hh⟩ := hP
  have hx := Bd.exec
  have hby := Bd.bytes
  have hml : c.maxLocals = 6 := hml0
  have hown : s.vm.findClass "java/lang/StringUTF16" = some m.cls := findClass_of_methodNamed Bd.named
  have hnm := (name_of_methodNamed Bd.named Bd.method).1
  have X0 : Stand p l e ({ frames := 1, cells := 1, slots := 2, locals := 18 } : Room) s m #[(.ref ac), (.int (0 : Int32)), (.int (2 : Int32))] below meth c s₁ [] 0 0 := Stand.of_body Bd
  have e0 : s₁.heap = h0 := by rw [← hh, Bd.state]; rfl
  have N0 := Fr.nil n0
  have pre0 : Goes p e below s₁ (entryFrame m #[(.ref ac), (.int (0 : Int32)), (.int (2 : Int32))] 6) s₁ (mkF m 0 #[.val (.ref ac), .val (.int (0 : Int32)), .val (.int (2 : Int32)), .unset, .unset, .unset] []) := fun t k => castTop (own_ef_own_cmpO2 m ac (0 : Int32) (2 : Int32)) k
  have pre1 : Goes p e below s₁ (entryFrame m #[(.ref ac), (.int (0 : Int32)), (.int (2 : Int32))] 6) s₁ (mkF m 1 #[.val (.ref ac), .val (.int (0 : Int32)), .val (.int (2 : Int32)), .unset, .unset, .unset] [(.int (2 : Int32))]) := fun t kt => pre0 t (by
      show Steps p.tables e below (s₁.setTop (mkF m 0 #[.val (.ref ac), .val (.int (0 : Int32)), .val (.int (2 : Int32)), .unset, .unset, .unset] [])) _
      refine XS.iloadN X0.here hx rfl (hb hby own_dcmpO2_0) rfl ?_
      exact kt)
  obtain ⟨T2, h2, k2, X2, e2, E2, A2, st2⟩ := newP X0 hx hZ (hw _ (List.mem_of_getElem? (i := 82) rfl)) e0 (g := (mkF m 1 #[.val (.ref ac), .val (.int (0 : Int32)), .val (.int (2 : Int32)), .unset, .unset, .unset] [(.int (2 : Int32))])) rfl (hb hby own_dcmpO2_1) rfl (by decide) (cap := 2) (by decide) (by decide) (by decide) (by decide)
  obtain ⟨b2, g2⟩ : ∃ z, z = h0.size := ⟨_, rfl⟩
  rw [← g2] at A2 st2
  have V_b2 : Arv Z h2 b2 k2 .byte (2 : Int32) [(.int (0 : Int32)), (.int (0 : Int32))] (.int (0 : Int32)) := (Arv.new A2 (by decide)).pad (pad_rep [] (.int (0 : Int32)) 2)
  have g_b2 : n0 ≤ b2 := Nat.le_trans Z0 (Nat.le_of_eq g2.symm)
  have sz_b2 : h0.size ≤ b2 := (Nat.le_trans (Keep.refl h0 []).1 (Nat.le_of_eq g2.symm))
  have K2 : Keep h0 h2 [] := (Keep.refl h0 []).ext E2
  have pre3 : Goes p e below s₁ (entryFrame m #[(.ref ac), (.int (0 : Int32)), (.int (2 : Int32))] 6) T2 (mkF m 3 #[.val (.ref ac), .val (.int (0 : Int32)), .val (.int (2 : Int32)), .unset, .unset, .unset] [(.ref b2)]) := fun t kt => pre1 t (st2 t kt)
  have pre4 : Goes p e below s₁ (entryFrame m #[(.ref ac), (.int (0 : Int32)), (.int (2 : Int32))] 6) T2 (mkF m 9 #[.val (.ref ac), .val (.int (0 : Int32)), .val (.int (2 : Int32)), .val (.ref b2), .unset, .unset] [(.int (2 : Int32)), (.int (0 : Int32)), (.ref b2), (.int (0 : Int32)), (.ref ac)]) := fun t kt => pre3 t (by
      show Steps p.tables e below (T2.setTop (mkF m 3 #[.val (.ref ac), .val (.int (0 : Int32)), .val (.int (2 : Int32)), .unset, .unset, .unset] [(.ref b2)])) _
      refine XS.astoreN X2.here hx rfl (hb hby own_dcmpO2_3) rfl rfl (l' := #[.val (.ref ac), .val (.int (0 : Int32)), .val (.int (2 : Int32)), .val (.ref b2), .unset, .unset]) rfl ?_
      show Steps p.tables e below (T2.setTop (mkF m 4 #[.val (.ref ac), .val (.int (0 : Int32)), .val (.int (2 : Int32)), .val (.ref b2), .unset, .unset] [])) _
      refine XS.aloadN X2.here hx rfl (hb hby own_dcmpO2_4) rfl rfl ?_
      show Steps p.tables e below (T2.setTop (mkF m 5 #[.val (.ref ac), .val (.int (0 : Int32)), .val (.int (2 : Int32)), .val (.ref b2), .unset, .unset] [(.ref ac)])) _
      refine XS.iloadN X2.here hx rfl (hb hby own_dcmpO2_5) rfl ?_
      show Steps p.tables e below (T2.setTop (mkF m 6 #[.val (.ref ac), .val (.int (0 : Int32)), .val (.int (2 : Int32)), .val (.ref b2), .unset, .unset] [(.int (0 : Int32)), (.ref ac)])) _
      refine XS.aloadN X2.here hx rfl (hb hby own_dcmpO2_6) rfl rfl ?_
      show Steps p.tables e below (T2.setTop (mkF m 7 #[.val (.ref ac), .val (.int (0 : Int32)), .val (.int (2 : Int32)), .val (.ref b2), .unset, .unset] [(.ref b2), (.int (0 : Int32)), (.ref ac)])) _
      refine XS.iconst X2.here hx rfl (hb hby own_dcmpO2_7) ?_
      show Steps p.tables e below (T2.setTop (mkF m 8 #[.val (.ref ac), .val (.int (0 : Int32)), .val (.int (2 : Int32)), .val (.ref b2), .unset, .unset] [(.int (0 : Int32)), (.ref b2), (.int (0 : Int32)), (.ref ac)])) _
      refine XS.iloadN X2.here hx rfl (hb hby own_dcmpO2_8) rfl ?_
      exact kt)
  obtain ⟨_, _, ⟨T5, L5, k5, n5⟩, -, X5, ⟨Lc5, hQ5, l5, y5, z5⟩, st5⟩ := Jvm.LawKit.callS X2 hx (y := (⟨"java/lang/StringUTF16", "compress", "([CI[BII)I"⟩ : MethodName)) hown (mvT hZ (hw _ (List.mem_of_getElem? (i := 94) rfl))) (mvT hZ (hw _ (List.mem_of_getElem? (i := 95) rfl))) (mvT hZ (hw _ (List.mem_of_getElem? (i := 92) rfl))) (mvT hZ (hw _ (List.mem_of_getElem? (i := 96) rfl))) (by decide) (backOf (W := 0) (own_cmpI2 l Z a0 hw [] ac b2 kc k2 v0 v1 h2 n0 (Nat.le_trans Z0 E2.1) (V_ac.ext E2) V_b2 g_b2 (Nat.ne_of_lt (Nat.lt_of_lt_of_le V_ac.lt (Nat.le_of_eq g2.symm))) hp0 hp1) hZ (hw _ (List.mem_of_getElem? (i := 96) rfl)) (hw _ (List.mem_of_getElem? (i := 92) rfl)) (by decide) (by decide)) (g := (mkF m 9 #[.val (.ref ac), .val (.int (0 : Int32)), .val (.int (2 : Int32)), .val (.ref b2), .unset, .unset] [(.int (2 : Int32)), (.int (0 : Int32)), (.ref b2), (.int (0 : Int32)), (.ref ac)])) rfl (by rw [hml]; rfl) (argsL := [(.ref ac), (.int (0 : Int32)), (.ref b2), (.int (0 : Int32)), (.int (2 : Int32))]) (rest := []) (lenOf own_pd1 rfl) rfl (by show 2 * 0 + _ ≤ _; exact Nat.le_of_eq rfl) (hb hby own_dcmpO2_9) (fun _ _ => ⟨rfl, e2, (by decide : 1 + 0 ≤ _), (by decide : 2 + 0 ≤ _)⟩)
  dsimp only [Pt.U, Pt.locs, Pt.cells, Pt.slots] at X5 l5 y5 z5 st5 hQ5
  subst l5 y5 z5
  obtain ⟨rfl, N5q, K5q, Vb5⟩ := hQ5
  have N5 := Fr.app N0 N5q
  have KC5 : Keep h0 T5.heap [] := K2.trans K5q (allS (Or.inr sz_b2) all0)
  have pre6 : Goes p e below s₁ (entryFrame m #[(.ref ac), (.int (0 : Int32)), (.int (2 : Int32))] 6) T5 (mkF m 12 #[.val (.ref ac), .val (.int (0 : Int32)), .val (.int (2 : Int32)), .val (.ref b2), .unset, .unset] [(.int (2 : Int32))]) := fun t kt => pre4 t (st5 t kt)
  have pre7 : Goes p e below s₁ (entryFrame m #[(.ref ac), (.int (0 : Int32)), (.int (2 : Int32))] 6) T5 (mkF m 58 #[.val (.ref ac), .val (.int (0 : Int32)), .val (.int (2 : Int32)), .val (.ref b2), .val (.int (2 : Int32)), .unset] [(.ref b2)]) := fun t kt => pre6 t (by
      show Steps p.tables e below (T5.setTop (mkF m 12 #[.val (.ref ac), .val (.int (0 : Int32)), .val (.int (2 : Int32)), .val (.ref b2), .unset, .unset] [(.int (2 : Int32))])) _
      refine XS.istore X5.here hx rfl (hb hby own_dcmpO2_12) rfl (l' := #[.val (.ref ac), .val (.int (0 : Int32)), .val (.int (2 : Int32)), .val (.ref b2), .val (.int (2 : Int32)), .unset]) rfl ?_
      show Steps p.tables e below (T5.setTop (mkF m 14 #[.val (.ref ac), .val (.int (0 : Int32)), .val (.int (2 : Int32)), .val (.ref b2), .val (.int (2 : Int32)), .unset] [])) _
      refine XS.iload X5.here hx rfl (hb hby own_dcmpO2_14) rfl ?_
      show Steps p.tables e below (T5.setTop (mkF m 16 #[.val (.ref ac), .val (.int (0 : Int32)), .val (.int (2 : Int32)), .val (.ref b2), .val (.int (2 : Int32)), .unset] [(.int (2 : Int32))])) _
      refine XS.iloadN X5.here hx rfl (hb hby own_dcmpO2_16) rfl ?_
      show Steps p.tables e below (T5.setTop (mkF m 17 #[.val (.ref ac), .val (.int (0 : Int32)), .val (.int (2 : Int32)), .val (.ref b2), .val (.int (2 : Int32)), .unset] [(.int (2 : Int32)), (.int (2 : Int32))])) _
      refine XS.icmpYes X5.here hx rfl (pc0 := 17) (pc' := 57) rfl (hb hby own_dcmpO2_17) rfl (teq (by decide : (2 : Int32) = (2 : Int32))).1 (by decide) (by decide) ?_
      show Steps p.tables e below (T5.setTop (mkF m 57 #[.val (.ref ac), .val (.int (0 : Int32)), .val (.int (2 : Int32)), .val (.ref b2), .val (.int (2 : Int32)), .unset] [])) _
      refine XS.aloadN X5.here hx rfl (hb hby own_dcmpO2_57) rfl rfl ?_
      exact kt)
  obtain ⟨fs, hr, hrun, hended, hW, hsame⟩ := X5.leave (v := some (.ref b2)) (fun h => by rw [Bd.returns] at h; cases h)
  refine ⟨_, _, pre7 _ ?_, hrun, hended, _, _, rfl, ?_, ⟨_, rfl⟩, hW, hsame.mono (by decide) (by decide)⟩
  · show Steps p.tables e below (T5.setTop (mkF m 58 #[.val (.ref ac), .val (.int (0 : Int32)), .val (.int (2 : Int32)), .val (.ref b2), .val (.int (2 : Int32)), .unset] [(.ref b2)])) _
    jvm_step X5.here [X5.here.top, hx, (hb hby own_dcmpO2_58), X5.method', Bd.returns, Value.isRef, FieldType.isReference]
    first | (intro acts; rw [hr _ acts rfl rfl rfl]) | rw [hr _ _ rfl rfl rfl]
    exact Steps.refl _
  · show Q_own_cmpO2 Z ac kc v0 v1 h0 n0 _ T5.heap _
    exact ⟨b2, k2, rfl, N5, KC5, sz_b2, g_b2, Vb5⟩
theorem own_dcod2_0 : decode jdk_52_method_15_code 0 = .ok (.iload_n 1, 1) := by decide +kernel
theorem own_dcod2_1 : decode jdk_52_method_15_code 1 = .ok (.aload_n 0, 1) := by decide +kernel
theorem own_dcod2_2 : decode jdk_52_method_15_code 2 = .ok (.arraylength, 1) := by decide +kernel
theorem own_dcod2_3 : decode jdk_52_method_15_code 3 = .ok (.isub, 1) := by decide +kernel
theorem own_dcod2_4 : decode jdk_52_method_15_code 4 = .ok (.bipush 31, 2) := by decide +kernel
theorem own_dcod2_6 : decode jdk_52_method_15_code 6 = .ok (.iushr, 1) := by decide +kernel
theorem own_dcod2_7 : decode jdk_52_method_15_code 7 = .ok (.i2b, 1) := by decide +kernel
theorem own_dcod2_8 : decode jdk_52_method_15_code 8 = .ok (.ireturn, 1) := by decide +kernel
theorem own_pn_own_cod2 : plainName "java/lang/StringUTF16" = true := by first | (simp [plainName, overriddenIn]; done) | decide +kernel
theorem own_ef_own_cod2 (m : MethodId) (x0 : Addr) (x1 : Int32) : entryFrame m #[(.ref x0), (.int x1)] 2 = mkF m 0 #[.val (.ref x0), .val (.int x1)] [] := by first | (simp [entryFrame, mkF, argsToLocals, Value.category]; done) | rfl
def Q_own_cod2 (Z : State) (ab : Addr) (kb : ClassId) (v0 : Int32) (v1 : Int32) (h0 : Heap) (n0 : Nat) (v : Option Value) (h : Heap) (L : List Loc) : Prop := v = some (.int (0 : Int32)) ∧ Fr n0 L ∧ h = h0
set_option maxRecDepth 65536 in
set_option maxHeartbeats 40000000 in
theorem own_cod2 (l : Launch) (Z : State) (a0 : Array Value) (hw : ∀ d ∈ tables_1, d.before a0 Z = true) (ws : List Jvm.Cond) (ab : Addr) (kb : ClassId) (v0 : Int32) (v1 : Int32) (h0 : Heap) (n0 : Nat) (Z0 : n0 ≤ h0.size) (V_ab : Arv Z h0 ab kb .byte (2 : Int32) [(.int v0), (.int v1)] (.int (0 : Int32))) :
    MetFree l (⟨"java/lang/StringUTF16", "coderFromArrayLen", "([BI)B"⟩ : MethodName) (head1 (Jvm.Cond.code (⟨"java/lang/StringUTF16", "coderFromArrayLen", "([BI)B"⟩ : MethodName) jdk_52_method_15_code 2 (some .byte) :: ws) ({ frames := 0, cells := 0, slots := 0, locals := 0 } : Room)) (fun a U => a = #[(.ref ab), (.int (2 : Int32))] ∧ Z.Warmed39 U.vm ∧ U.heap = h0) (fun _ _ _ _ _ => True) (fun _ U o U' => ∃ v L, o = .returned v ∧ Q_own_cod2 Z ab kb v0 v1 h0 n0 v U'.heap L ∧ FrameEnd U o U' L ({ frames := 0, cells := 0, slots := 0, locals := 0 } : Room).cells ({ frames := 0, cells := 0, slots := 0, locals := 0 } : Room).slots) := by
  refine MetFree.of_bodySF (plainFor_of_name own_pn_own_cod2) hisR ?_
  intro p e s m args below meth c s₁ Bd hml0 hP hK
  obtain ⟨rfl, hZ, hh⟩ := hP
  have hx := Bd.exec
  have hby := Bd.bytes
  have hml : c.maxLocals = 2 := hml0
  have hown : s.vm.findClass "java/lang/StringUTF16" = some m.cls := findClass_of_methodNamed Bd.named
  have hnm := (name_of_methodNamed Bd.named Bd.method).1
  have X0 : Stand p l e ({ frames := 0, cells := 0, slots := 0, locals := 0 } : Room) s m #[(.ref ab), (.int (2 : Int32))] below meth c s₁ [] 0 0 := Stand.of_body Bd
  have e0 : s₁.heap = h0 := by rw [← hh, Bd.state]; rfl
  have N0 := Fr.nil n0
  have pre0 : Goes p e below s₁ (entryFrame m #[(.ref ab), (.int (2 : Int32))] 2) s₁ (mkF m 0 #[.val (.ref ab), .val (.int (2 : Int32))] []) := fun t k => castTop (own_ef_own_cod2 m ab (2 : Int32)) k
  have pre1 : Goes p e below s₁ (entryFrame m #[(.ref ab), (.int (2 : Int32))] 2) s₁ (mkF m 2 #[.val (.ref ab), .val (.int (2 : Int32))] [(.ref ab), (.int (2 : Int32))]) := fun t kt => pre0 t (by
      show Steps p.tables e below (s₁.setTop (mkF m 0 #[.val (.ref ab), .val (.int (2 : Int32))] [])) _
      refine XS.iloadN X0.here hx rfl (hb hby own_dcod2_0) rfl ?_
      show Steps p.tables e below (s₁.setTop (mkF m 1 #[.val (.ref ab), .val (.int (2 : Int32))] [(.int (2 : Int32))])) _
      refine XS.aloadN X0.here hx rfl (hb hby own_dcod2_1) rfl rfl ?_
      exact kt)
  obtain ⟨cl2, Ar2, q2, S2, N_2, H2, G2⟩ := (id (V_ab))
  have pre3 : Goes p e below s₁ (entryFrame m #[(.ref ab), (.int (2 : Int32))] 2) s₁ (mkF m 8 #[.val (.ref ab), .val (.int (2 : Int32))] [(.int ((((0 : Int32).toUInt32 >>> ((31 : Int32) &&& 31).toUInt32).toInt32).toInt8.toInt32))]) := fun t kt => pre1 t (by
      show Steps p.tables e below (s₁.setTop (mkF m 2 #[.val (.ref ab), .val (.int (2 : Int32))] [(.ref ab), (.int (2 : Int32))])) _
      refine X0.arraylength hx (by (try rw [e0]); exact Ar2.1) (State.isArrayOf_alike hZ.alike Ar2.2.1) (g := (mkF m 2 #[.val (.ref ab), .val (.int (2 : Int32))] [(.ref ab), (.int (2 : Int32))])) rfl rfl (hb hby own_dcod2_2) _ ?_
      rw [len_of S2 N_2]
      show Steps p.tables e below (s₁.setTop (mkF m 3 #[.val (.ref ab), .val (.int (2 : Int32))] [(.int (2 : Int32)), (.int (2 : Int32))])) _
      refine XS.isub X0.here hx rfl (hb hby own_dcod2_3) rfl ?_
      show Steps p.tables e below (s₁.setTop (mkF m 4 #[.val (.ref ab), .val (.int (2 : Int32))] [(.int (0 : Int32))])) _
      refine XS.bipush X0.here hx rfl (hb hby own_dcod2_4) ?_
      show Steps p.tables e below (s₁.setTop (mkF m 6 #[.val (.ref ab), .val (.int (2 : Int32))] [(.int (31 : Int32)), (.int (0 : Int32))])) _
      refine XS.iushr X0.here hx rfl (hb hby own_dcod2_6) rfl ?_
      show Steps p.tables e below (s₁.setTop (mkF m 7 #[.val (.ref ab), .val (.int (2 : Int32))] [(.int (((0 : Int32).toUInt32 >>> ((31 : Int32) &&& 31).toUInt32).toInt32))])) _
      refine XS.i2b X0.here hx rfl (hb hby own_dcod2_7) rfl ?_
      exact kt)
  obtain ⟨fs, hr, hrun, hended, hW, hsame⟩ := X0.leave (v := some (.int (nar .byte ((((0 : Int32).toUInt32 >>> ((31 : Int32) &&& 31).toUInt32).toInt32).toInt8.toInt32)))) (fun h => by rw [Bd.returns] at h; cases h)
  refine ⟨_, _, pre3 _ ?_, hrun, hended, _, _, rfl, ?_, ⟨_, rfl⟩, hW, hsame.mono (by decide) (by decide)⟩
  · show Steps p.tables e below (s₁.setTop (mkF m 8 #[.val (.ref ab), .val (.int (2 : Int32))] [(.int ((((0 : Int32).toUInt32 >>> ((31 : Int32) &&& 31).toUInt32).toInt32).toInt8.toInt32))])) _
    exact retN X0 hx (t := .byte) Bd.returns (by simp) (hb hby own_dcod2_8) hr
  · show Q_own_cod2 Z ab kb v0 v1 h0 n0 _ s₁.heap _
    rw [e0]
    exact ⟨rfl, N0, rfl⟩
theorem own_dsI2_0 : decode jdk_42_method_149_code 0 = .ok (.aload_n 0, 1) := by decide +kernel
theorem own_dsI2_1 : decode jdk_42_method_149_code 1 = .ok (.invokespecial 1, 3) := by decide +kernel
theorem own_dsI2_4 : decode jdk_42_method_149_code 4 = .ok (.iload_n 3, 1) := by decide +kernel
theorem own_dsI2_5 : decode jdk_42_method_149_code 5 = .ok (.ifCond .ne 22, 3) := by decide +kernel
theorem own_dsI2_27 : decode jdk_42_method_149_code 27 = .ok (.getstatic 38, 3) := by decide +kernel
theorem own_dsI2_30 : decode jdk_42_method_149_code 30 = .ok (.ifCond .eq 28, 3) := by decide +kernel
theorem own_dsI2_33 : decode jdk_42_method_149_code 33 = .ok (.aload_n 1, 1) := by decide +kernel
theorem own_dsI2_34 : decode jdk_42_method_149_code 34 = .ok (.iload_n 2, 1) := by decide +kernel
theorem own_dsI2_35 : decode jdk_42_method_149_code 35 = .ok (.iload_n 3, 1) := by decide +kernel
theorem own_dsI2_36 : decode jdk_42_method_149_code 36 = .ok (.invokestatic 177, 3) := by decide +kernel
theorem own_dsI2_39 : decode jdk_42_method_149_code 39 = .ok (.astore 5, 2) := by decide +kernel
theorem own_dsI2_41 : decode jdk_42_method_149_code 41 = .ok (.aload_n 0, 1) := by decide +kernel
theorem own_dsI2_42 : decode jdk_42_method_149_code 42 = .ok (.aload 5, 2) := by decide +kernel
theorem own_dsI2_44 : decode jdk_42_method_149_code 44 = .ok (.iload_n 3, 1) := by decide +kernel
theorem own_dsI2_45 : decode jdk_42_method_149_code 45 = .ok (.invokestatic 47, 3) := by decide +kernel
theorem own_dsI2_48 : decode jdk_42_method_149_code 48 = .ok (.putfield 15, 3) := by decide +kernel
theorem own_dsI2_51 : decode jdk_42_method_149_code 51 = .ok (.aload_n 0, 1) := by decide +kernel
theorem own_dsI2_52 : decode jdk_42_method_149_code 52 = .ok (.aload 5, 2) := by decide +kernel
theorem own_dsI2_54 : decode jdk_42_method_149_code 54 = .ok (.putfield 9, 3) := by decide +kernel
theorem own_dsI2_57 : decode jdk_42_method_149_code 57 = .ok (.return_, 1) := by decide +kernel
theorem own_pn_own_sI2 : plainName "java/lang/String" = true := by first | (simp [plainName, overriddenIn]; done) | decide +kernel
theorem own_ef_own_sI2 (m : MethodId) (x0 : Addr) (x1 : Addr) (x2 : Int32) (x3 : Int32) : entryFrame m #[(.ref x0), (.ref x1), (.int x2), (.int x3), .null] 6 = mkF m 0 #[.val (.ref x0), .val (.ref x1), .val (.int x2), .val (.int x3), .val .null, .unset] [] := by first | (simp [entryFrame, mkF, argsToLocals, Value.category]; done) | rfl
def Q_own_sI2 (Z : State) (a1 : Addr) (ac : Addr) (kc : ClassId) (cs : Int32) (uv : Value) (uc : Value) (v0 : Int32) (v1 : Int32) (h0 : Heap) (n0 : Nat) (v : Option Value) (h : Heap) (L : List Loc) : Prop := v = none ∧ Fr n0 L ∧ Keep h0 h [a1] ∧ Exa Z h a1 "java/lang/String" ∧ Fld Z h a1 "java/lang/String" "coder" "B" (.int (0 : Int32)) ∧ ∃ (y : Addr) (ky : ClassId), h0.size ≤ y ∧ n0 ≤ y ∧ Fld Z h a1 "java/lang/String" "value" "[B" (.ref y) ∧ Arv Z h y ky .byte (2 : Int32) [(.int (nar .byte (v0.toInt8.toInt32))), (.int (nar .byte (v1.toInt8.toInt32)))] (.int (0 : Int32))
set_option maxRecDepth 65536 in
set_option maxHeartbeats 40000000 in
theorem own_sI2 (l : Launch) (Z : State) (a0 : Array Value) (hw : ∀ d ∈ tables_1, d.before a0 Z = true) (ws : List Jvm.Cond) (a1 : Addr) (ac : Addr) (kc : ClassId) (cs : Int32) (uv : Value) (uc : Value) (v0 : Int32) (v1 : Int32) (h0 : Heap) (n0 : Nat) (Z0 : n0 ≤ h0.size) (E_a1 : Exa Z h0 a1 "java/lang/String") (Fv : Fld Z h0 a1 "java/lang/String" "value" "[B" uv) (Fc : Fld Z h0 a1 "java/lang/String" "coder" "B" uc) (g_a1 : n0 ≤ a1) (V_ac : Arv Z h0 ac kc .char (2 : Int32) [(.int v0), (.int v1)] (.int (0 : Int32))) (S_CS : Sta Z h0 "java/lang/String" "COMPACT_STRINGS" "Z" (.int cs)) (hcs : ¬ (cs = (0 : Int32))) (hp0 : ¬ ((255 : Int32) < v0)) (hp1 : ¬ ((255 : Int32) < v1)) :
    MetFree l (⟨"java/lang/String", "<init>", "([CIILjava/lang/Void;)V"⟩ : MethodName) (head1 (Jvm.Cond.code (⟨"java/lang/String", "<init>", "([CIILjava/lang/Void;)V"⟩ : MethodName) jdk_42_method_149_code 6 none :: ws) ({ frames := 2, cells := 1, slots := 2, locals := 35 } : Room)) (fun a U => a = #[(.ref a1), (.ref ac), (.int (0 : Int32)), (.int (2 : Int32)), .null] ∧ Z.Warmed39 U.vm ∧ U.heap = h0) (fun _ _ _ _ _ => True) (fun _ U o U' => ∃ v L, o = .returned v ∧ Q_own_sI2 Z a1 ac kc cs uv uc v0 v1 h0 n0 v U'.heap L ∧ FrameEnd U o U' L ({ frames := 2, cells := 1, slots := 2, locals := 35 } : Room).cells ({ frames := 2, cells := 1, slots := 2, locals := 35 } : Room).slots) := by
  refine MetFree.of_bodySF (plainFor_of_name own_pn_own_sI2) hisR ?_
  intro p e s m args below meth c s₁ Bd hml0 hP hK
  obtain ⟨rfl, hZ, hh⟩ := hP
  have hx := Bd.exec
  have hby := Bd.bytes
  have hml : c.maxLocals = 6 := hml0
  have hown : s.vm.findClass "java/lang/String" = some m.cls := findClass_of_methodNamed Bd.named
  have hnm := (name_of_methodNamed Bd.named Bd.method).1
  have X0 : Stand p l e ({ frames := 2, cells := 1, slots := 2, locals := 35 } : Room) s m #[(.ref a1), (.ref ac), (.int (0 : Int32)), (.int (2 : Int32)), .null] below meth c s₁ [] 0 0 := Stand.of_body Bd
  have e0 : s₁.heap = h0 := by rw [← hh, Bd.state]; rfl
  have N0 := Fr.nil n0
  have pre0 : Goes p e below s₁ (entryFrame m #[(.ref a1), (.ref ac), (.int (0 : Int32)), (.int (2 : Int32)), .null] 6) s₁ (mkF m 0 #[.val (.ref a1), .val (.ref ac), .val (.int (0 : Int32)), .val (.int (2 : Int32)), .val .null, .unset] []) := fun t k => castTop (own_ef_own_sI2 m a1 ac (0 : Int32) (2 : Int32)) k
  have pre1 : Goes p e below s₁ (entryFrame m #[(.ref a1), (.ref ac), (.int (0 : Int32)), (.int (2 : Int32)), .null] 6) s₁ (mkF m 1 #[.val (.ref a1), .val (.ref ac), .val (.int (0 : Int32)), .val (.int (2 : Int32)), .val .null, .unset] [(.ref a1)]) := fun t kt => pre0 t (by
      show Steps p.tables e below (s₁.setTop (mkF m 0 #[.val (.ref a1), .val (.ref ac), .val (.int (0 : Int32)), .val (.int (2 : Int32)), .val .null, .unset] [])) _
      refine XS.aloadN X0.here hx rfl (hb hby own_dsI2_0) rfl rfl ?_
      exact kt)
  obtain ⟨T2, X2, e2, st2⟩ := initO X0 hx hZ hown (hw _ (List.mem_of_getElem? (i := 80) rfl)) (hw _ (List.mem_of_getElem? (i := 19) rfl)) (hw _ (List.mem_of_getElem? (i := 20) rfl)) e0 (g := (mkF m 1 #[.val (.ref a1), .val (.ref ac), .val (.int (0 : Int32)), .val (.int (2 : Int32)), .val .null, .unset] [(.ref a1)])) rfl (by rw [hml]; rfl) rfl (hb hby own_dsI2_1) (by decide) (W := 0) (by show 2 * 0 + _ ≤ _; exact Nat.le_of_eq rfl) (by decide)
  have pre3 : Goes p e below s₁ (entryFrame m #[(.ref a1), (.ref ac), (.int (0 : Int32)), (.int (2 : Int32)), .null] 6) T2 (mkF m 4 #[.val (.ref a1), .val (.ref ac), .val (.int (0 : Int32)), .val (.int (2 : Int32)), .val .null, .unset] []) := fun t kt => pre1 t (st2 t kt)
  have pre4 : Goes p e below s₁ (entryFrame m #[(.ref a1), (.ref ac), (.int (0 : Int32)), (.int (2 : Int32)), .null] 6) T2 (mkF m 27 #[.val (.ref a1), .val (.ref ac), .val (.int (0 : Int32)), .val (.int (2 : Int32)), .val .null, .unset] []) := fun t kt => pre3 t (by
      show Steps p.tables e below (T2.setTop (mkF m 4 #[.val (.ref a1), .val (.ref ac), .val (.int (0 : Int32)), .val (.int (2 : Int32)), .val .null, .unset] [])) _
      refine XS.iloadN X2.here hx rfl (hb hby own_dsI2_4) rfl ?_
      show Steps p.tables e below (T2.setTop (mkF m 5 #[.val (.ref a1), .val (.ref ac), .val (.int (0 : Int32)), .val (.int (2 : Int32)), .val .null, .unset] [(.int (2 : Int32))])) _
      refine XS.ifYes X2.here hx rfl (pc0 := 5) (pc' := 27) rfl (hb hby own_dsI2_5) rfl ((if0 _ _).trans (feq (by decide : ¬ ((2 : Int32) = (0 : Int32)))).2) (by decide) (by decide) ?_
      exact kt)
  obtain ⟨T5, X5, e5, st5⟩ := getS2 X2 hx hZ hown (host := "") (Or.inl (hw _ (List.mem_of_getElem? (i := 89) rfl))) Via.refl e2 S_CS (g := (mkF m 27 #[.val (.ref a1), .val (.ref ac), .val (.int (0 : Int32)), .val (.int (2 : Int32)), .val .null, .unset] [])) rfl (hb hby own_dsI2_27)
  have pre6 : Goes p e below s₁ (entryFrame m #[(.ref a1), (.ref ac), (.int (0 : Int32)), (.int (2 : Int32)), .null] 6) T5 (mkF m 30 #[.val (.ref a1), .val (.ref ac), .val (.int (0 : Int32)), .val (.int (2 : Int32)), .val .null, .unset] [(.int cs)]) := fun t kt => pre4 t (st5 t kt)
  have pre7 : Goes p e below s₁ (entryFrame m #[(.ref a1), (.ref ac), (.int (0 : Int32)), (.int (2 : Int32)), .null] 6) T5 (mkF m 36 #[.val (.ref a1), .val (.ref ac), .val (.int (0 : Int32)), .val (.int (2 : Int32)), .val .null, .unset] [(.int (2 : Int32)), (.int (0 : Int32)), (.ref ac)]) := fun t kt => pre6 t (by
      show Steps p.tables e below (T5.setTop (mkF m 30 #[.val (.ref a1), .val (.ref ac), .val (.int (0 : Int32)), .val (.int (2 : Int32)), .val .null, .unset] [(.int cs)])) _
      refine XS.ifNo X5.here hx rfl (hb hby own_dsI2_30) rfl ((if0 _ _).trans (feq hcs).1) ?_
      show Steps p.tables e below (T5.setTop (mkF m 33 #[.val (.ref a1), .val (.ref ac), .val (.int (0 : Int32)), .val (.int (2 : Int32)), .val .null, .unset] [])) _
      refine XS.aloadN X5.here hx rfl (hb hby own_dsI2_33) rfl rfl ?_
      show Steps p.tables e below (T5.setTop (mkF m 34 #[.val (.ref a1), .val (.ref ac), .val (.int (0 : Int32)), .val (.int (2 : Int32)), .val .null, .unset] [(.ref ac)])) _
      refine XS.iloadN X5.here hx rfl (hb hby own_dsI2_34) rfl ?_
      show Steps p.tables e below (T5.setTop (mkF m 35 #[.val (.ref a1), .val (.ref ac), .val (.int (0 : Int32)), .val (.int (2 : Int32)), .val .null, .unset] [(.int (0 : Int32)), (.ref ac)])) _
      refine XS.iloadN X5.here hx rfl (hb hby own_dsI2_35) rfl ?_
      exact kt)
  obtain ⟨_, _, ⟨T8, L8, k8, n8⟩, -, X8, ⟨Lc8, hQ8, l8, y8, z8⟩, st8⟩ := Jvm.LawKit.callS X5 hx (y := (⟨"java/lang/StringUTF16", "compress", "([CII)[B"⟩ : MethodName)) hown (mvT hZ (hw _ (List.mem_of_getElem? (i := 90) rfl))) (mvT hZ (hw _ (List.mem_of_getElem? (i := 91) rfl))) (mvT hZ (hw _ (List.mem_of_getElem? (i := 92) rfl))) (mvT hZ (hw _ (List.mem_of_getElem? (i := 93) rfl))) (by decide) (backOf (W := 0) (own_cmpO2 l Z a0 hw [] ac kc v0 v1 h0 n0 Z0 V_ac hp0 hp1) hZ (hw _ (List.mem_of_getElem? (i := 93) rfl)) (hw _ (List.mem_of_getElem? (i := 92) rfl)) (by decide) (by decide)) (g := (mkF m 36 #[.val (.ref a1), .val (.ref ac), .val (.int (0 : Int32)), .val (.int (2 : Int32)), .val .null, .unset] [(.int (2 : Int32)), (.int (0 : Int32)), (.ref ac)])) rfl (by rw [hml]; rfl) (argsL := [(.ref ac), (.int (0 : Int32)), (.int (2 : Int32))]) (rest := []) (lenOf own_pd2 rfl) rfl (by show 2 * 0 + _ ≤ _; exact Nat.le_of_eq rfl) (hb hby own_dsI2_36) (fun _ _ => ⟨rfl, e5, (by decide : 0 + 1 ≤ _), (by decide : 0 + 2 ≤ _)⟩)
  dsimp only [Pt.U, Pt.locs, Pt.cells, Pt.slots] at X8 l8 y8 z8 st8 hQ8
  subst l8 y8 z8
  obtain ⟨yy8, ky8, rfl, N8q, K8q, zy8, gy8, Vy8⟩ := hQ8
  have N8 := Fr.app N0 N8q
  have KC8 : Keep h0 T8.heap [a1] := (Keep.refl h0 [a1]).trans K8q all0
  have pre9 : Goes p e below s₁ (entryFrame m #[(.ref a1), (.ref ac), (.int (0 : Int32)), (.int (2 : Int32)), .null] 6) T8 (mkF m 39 #[.val (.ref a1), .val (.ref ac), .val (.int (0 : Int32)), .val (.int (2 : Int32)), .val .null, .unset] [(.ref yy8)]) := fun t kt => pre7 t (st8 t kt)
  have sz_yy8 := zy8
  have g_yy8 := gy8
  have pre10 : Goes p e below s₁ (entryFrame m #[(.ref a1), (.ref ac), (.int (0 : Int32)), (.int (2 : Int32)), .null] 6) T8 (mkF m 45 #[.val (.ref a1), .val (.ref ac), .val (.int (0 : Int32)), .val (.int (2 : Int32)), .val .null, .val (.ref yy8)] [(.int (2 : Int32)), (.ref yy8), (.ref a1)]) := fun t kt => pre9 t (by
      show Steps p.tables e below (T8.setTop (mkF m 39 #[.val (.ref a1), .val (.ref ac), .val (.int (0 : Int32)), .val (.int (2 : Int32)), .val .null, .unset] [(.ref yy8)])) _
      refine XS.astore X8.here hx rfl (hb hby own_dsI2_39) rfl rfl (l' := #[.val (.ref a1), .val (.ref ac), .val (.int (0 : Int32)), .val (.int (2 : Int32)), .val .null, .val (.ref yy8)]) rfl ?_
      show Steps p.tables e below (T8.setTop (mkF m 41 #[.val (.ref a1), .val (.ref ac), .val (.int (0 : Int32)), .val (.int (2 : Int32)), .val .null, .val (.ref yy8)] [])) _
      refine XS.aloadN X8.here hx rfl (hb hby own_dsI2_41) rfl rfl ?_
      show Steps p.tables e below (T8.setTop (mkF m 42 #[.val (.ref a1), .val (.ref ac), .val (.int (0 : Int32)), .val (.int (2 : Int32)), .val .null, .val (.ref yy8)] [(.ref a1)])) _
      refine XS.aload X8.here hx rfl (hb hby own_dsI2_42) rfl rfl ?_
      show Steps p.tables e below (T8.setTop (mkF m 44 #[.val (.ref a1), .val (.ref ac), .val (.int (0 : Int32)), .val (.int (2 : Int32)), .val .null, .val (.ref yy8)] [(.ref yy8), (.ref a1)])) _
      refine XS.iloadN X8.here hx rfl (hb hby own_dsI2_44) rfl ?_
      exact kt)
  obtain ⟨_, _, ⟨T11, L11, k11, n11⟩, -, X11, ⟨Lc11, hQ11, l11, y11, z11⟩, st11⟩ := Jvm.LawKit.callS X8 hx (y := (⟨"java/lang/StringUTF16", "coderFromArrayLen", "([BI)B"⟩ : MethodName)) hown (mvT hZ (hw _ (List.mem_of_getElem? (i := 97) rfl))) (mvT hZ (hw _ (List.mem_of_getElem? (i := 98) rfl))) (mvT hZ (hw _ (List.mem_of_getElem? (i := 92) rfl))) (mvT hZ (hw _ (List.mem_of_getElem? (i := 99) rfl))) (by decide) (backOf (W := 1) (own_cod2 l Z a0 hw [] yy8 ky8 (nar .byte (v0.toInt8.toInt32)) (nar .byte (v1.toInt8.toInt32)) T8.heap n0 (Nat.le_trans Z0 K8q.1) Vy8) hZ (hw _ (List.mem_of_getElem? (i := 99) rfl)) (hw _ (List.mem_of_getElem? (i := 92) rfl)) (by decide) (by decide)) (g := (mkF m 45 #[.val (.ref a1), .val (.ref ac), .val (.int (0 : Int32)), .val (.int (2 : Int32)), .val .null, .val (.ref yy8)] [(.int (2 : Int32)), (.ref yy8), (.ref a1)])) rfl (by rw [hml]; rfl) (argsL := [(.ref yy8), (.int (2 : Int32))]) (rest := [(.ref a1)]) (lenOf own_pd3 rfl) rfl (by show 2 * 0 + _ ≤ _; exact Nat.le_of_eq rfl) (hb hby own_dsI2_45) (fun _ _ => ⟨rfl, rfl, (by decide : 1 + 0 ≤ _), (by decide : 2 + 0 ≤ _)⟩)
  dsimp only [Pt.U, Pt.locs, Pt.cells, Pt.slots] at X11 l11 y11 z11 st11 hQ11
  subst l11 y11 z11
  obtain ⟨rfl, N11q, e11⟩ := hQ11
  have N11 := Fr.app N8 N11q
  have pre12 : Goes p e below s₁ (entryFrame m #[(.ref a1), (.ref ac), (.int (0 : Int32)), (.int (2 : Int32)), .null] 6) T11 (mkF m 48 #[.val (.ref a1), .val (.ref ac), .val (.int (0 : Int32)), .val (.int (2 : Int32)), .val .null, .val (.ref yy8)] [(.int (0 : Int32)), (.ref a1)]) := fun t kt => pre10 t (st11 t kt)
  obtain ⟨T13, h13, X13, e13, W13, st13⟩ := putFN X11 hx hZ hown (hw _ (List.mem_of_getElem? (i := 88) rfl)) Via.refl e11 (Fc.keep K8q nin0) (E_a1.keep K8q) (Or.inr ⟨(hw _ (List.mem_of_getElem? (i := 84) rfl)), rfl, hnm⟩) (hw _ (List.mem_of_getElem? (i := 70) rfl)) (ty := .byte) (v' := (.int (0 : Int32))) (by decide) rfl rfl (g := (mkF m 48 #[.val (.ref a1), .val (.ref ac), .val (.int (0 : Int32)), .val (.int (2 : Int32)), .val .null, .val (.ref yy8)] [(.int (0 : Int32)), (.ref a1)])) rfl rfl (hb hby own_dsI2_48)
  have Fw13 := (Fc.keep K8q nin0).same W13
  have K13 : Keep h0 h13 [a1] := KC8.wr W13 (Or.inl (List.mem_of_getElem? (i := 0) rfl))
  have N13 := Fr.snoc X13 N11 g_a1
  have pre14 : Goes p e below s₁ (entryFrame m #[(.ref a1), (.ref ac), (.int (0 : Int32)), (.int (2 : Int32)), .null] 6) T13 (mkF m 51 #[.val (.ref a1), .val (.ref ac), .val (.int (0 : Int32)), .val (.int (2 : Int32)), .val .null, .val (.ref yy8)] []) := fun t kt => pre12 t (st13 t kt)
  have pre15 : Goes p e below s₁ (entryFrame m #[(.ref a1), (.ref ac), (.int (0 : Int32)), (.int (2 : Int32)), .null] 6) T13 (mkF m 54 #[.val (.ref a1), .val (.ref ac), .val (.int (0 : Int32)), .val (.int (2 : Int32)), .val .null, .val (.ref yy8)] [(.ref yy8), (.ref a1)]) := fun t kt => pre14 t (by
      show Steps p.tables e below (T13.setTop (mkF m 51 #[.val (.ref a1), .val (.ref ac), .val (.int (0 : Int32)), .val (.int (2 : Int32)), .val .null, .val (.ref yy8)] [])) _
      refine XS.aloadN X13.here hx rfl (hb hby own_dsI2_51) rfl rfl ?_
      show Steps p.tables e below (T13.setTop (mkF m 52 #[.val (.ref a1), .val (.ref ac), .val (.int (0 : Int32)), .val (.int (2 : Int32)), .val .null, .val (.ref yy8)] [(.ref a1)])) _
      refine XS.aload X13.here hx rfl (hb hby own_dsI2_52) rfl rfl ?_
      exact kt)
  obtain ⟨T16, h16, X16, e16, W16, st16⟩ := putF X13 hx hZ hown (host := "") (Or.inl (hw _ (List.mem_of_getElem? (i := 87) rfl))) Via.refl e13 ((Fv.keep K8q nin0).other W13 (Or.inr (slot_ne (Or.inr (hw _ (List.mem_of_getElem? (i := 83) rfl))) (Or.inr (hw _ (List.mem_of_getElem? (i := 84) rfl))) (by decide) (t := (.array .byte)) (t' := .byte) (by decide) (by decide)))) ((E_a1.keep K8q).wr W13) (Or.inr ⟨(hw _ (List.mem_of_getElem? (i := 83) rfl)), rfl, hnm⟩) (hw _ (List.mem_of_getElem? (i := 70) rfl)) (ty := (.array .byte)) (by decide) rfl rfl (g := (mkF m 54 #[.val (.ref a1), .val (.ref ac), .val (.int (0 : Int32)), .val (.int (2 : Int32)), .val .null, .val (.ref yy8)] [(.ref yy8), (.ref a1)])) rfl rfl (hb hby own_dsI2_54)
  have Fw16 := ((Fv.keep K8q nin0).other W13 (Or.inr (slot_ne (Or.inr (hw _ (List.mem_of_getElem? (i := 83) rfl))) (Or.inr (hw _ (List.mem_of_getElem? (i := 84) rfl))) (by decide) (t := (.array .byte)) (t' := .byte) (by decide) (by decide)))).same W16
  have K16 : Keep h0 h16 [a1] := K13.wr W16 (Or.inl (List.mem_of_getElem? (i := 0) rfl))
  have N16 := Fr.snoc X16 N13 g_a1
  have pre17 : Goes p e below s₁ (entryFrame m #[(.ref a1), (.ref ac), (.int (0 : Int32)), (.int (2 : Int32)), .null] 6) T16 (mkF m 57 #[.val (.ref a1), .val (.ref ac), .val (.int (0 : Int32)), .val (.int (2 : Int32)), .val .null, .val (.ref yy8)] []) := fun t kt => pre15 t (st16 t kt)
  obtain ⟨fs, hr, hrun, hended, hW, hsame⟩ := X16.leave (v := none) (fun _ => rfl)
  refine ⟨_, _, pre17 _ ?_, hrun, hended, _, _, rfl, ?_, ⟨_, rfl⟩, hW, hsame.mono (by decide) (by decide)⟩
  · show Steps p.tables e below (T16.setTop (mkF m 57 #[.val (.ref a1), .val (.ref ac), .val (.int (0 : Int32)), .val (.int (2 : Int32)), .val .null, .val (.ref yy8)] [])) _
    exact X16.returnOut hx Bd.returns (hb hby own_dsI2_57) hr
  · show Q_own_sI2 Z a1 ac kc cs uv uc v0 v1 h0 n0 _ T16.heap _
    rw [e16]
    exact ⟨rfl, N16, K16, (((E_a1.keep K8q).wr W13).wr W16), (Fw13.other W16 (Or.inr (slot_ne (Or.inr (hw _ (List.mem_of_getElem? (i := 84) rfl))) (Or.inr (hw _ (List.mem_of_getElem? (i := 83) rfl))) (by decide) (t := .byte) (t' := (.array .byte)) (by decide) (by decide)))), yy8, ky8, zy8, gy8, Fw16, ((Vy8.other W13 (Ne.symm (Nat.ne_of_lt (Nat.lt_of_lt_of_le E_a1.lt zy8)))).other W16 (Ne.symm (Nat.ne_of_lt (Nat.lt_of_lt_of_le E_a1.lt zy8))))⟩
theorem own_dsJ2_0 : decode jdk_42_method_3_code 0 = .ok (.aload_n 0, 1) := by decide +kernel
theorem own_dsJ2_1 : decode jdk_42_method_3_code 1 = .ok (.aload_n 1, 1) := by decide +kernel
theorem own_dsJ2_2 : decode jdk_42_method_3_code 2 = .ok (.iconst 0, 1) := by decide +kernel
theorem own_dsJ2_3 : decode jdk_42_method_3_code 3 = .ok (.aload_n 1, 1) := by decide +kernel
theorem own_dsJ2_4 : decode jdk_42_method_3_code 4 = .ok (.arraylength, 1) := by decide +kernel
theorem own_dsJ2_5 : decode jdk_42_method_3_code 5 = .ok (.aconst_null, 1) := by decide +kernel
theorem own_dsJ2_6 : decode jdk_42_method_3_code 6 = .ok (.invokespecial 27, 3) := by decide +kernel
theorem own_dsJ2_9 : decode jdk_42_method_3_code 9 = .ok (.return_, 1) := by decide +kernel
theorem own_pn_own_sJ2 : plainName "java/lang/String" = true := by first | (simp [plainName, overriddenIn]; done) | decide +kernel
theorem own_ef_own_sJ2 (m : MethodId) (x0 : Addr) (x1 : Addr) : entryFrame m #[(.ref x0), (.ref x1)] 2 = mkF m 0 #[.val (.ref x0), .val (.ref x1)] [] := by first | (simp [entryFrame, mkF, argsToLocals, Value.category]; done) | rfl
def Q_own_sJ2 (Z : State) (a1 : Addr) (ac : Addr) (kc : ClassId) (cs : Int32) (uv : Value) (uc : Value) (v0 : Int32) (v1 : Int32) (h0 : Heap) (n0 : Nat) (v : Option Value) (h : Heap) (L : List Loc) : Prop := v = none ∧ Fr n0 L ∧ Keep h0 h [a1] ∧ Exa Z h a1 "java/lang/String" ∧ Fld Z h a1 "java/lang/String" "coder" "B" (.int (0 : Int32)) ∧ ∃ (y : Addr) (ky : ClassId), h0.size ≤ y ∧ n0 ≤ y ∧ Fld Z h a1 "java/lang/String" "value" "[B" (.ref y) ∧ Arv Z h y ky .byte (2 : Int32) [(.int (nar .byte (v0.toInt8.toInt32))), (.int (nar .byte (v1.toInt8.toInt32)))] (.int (0 : Int32))
set_option maxRecDepth 65536 in
set_option maxHeartbeats 40000000 in
theorem own_sJ2 (l : Launch) (Z : State) (a0 : Array Value) (hw : ∀ d ∈ tables_1, d.before a0 Z = true) (ws : List Jvm.Cond) (a1 : Addr) (ac : Addr) (kc : ClassId) (cs : Int32) (uv : Value) (uc : Value) (v0 : Int32) (v1 : Int32) (h0 : Heap) (n0 : Nat) (Z0 : n0 ≤ h0.size) (E_a1 : Exa Z h0 a1 "java/lang/String") (Fv : Fld Z h0 a1 "java/lang/String" "value" "[B" uv) (Fc : Fld Z h0 a1 "java/lang/String" "coder" "B" uc) (g_a1 : n0 ≤ a1) (V_ac : Arv Z h0 ac kc .char (2 : Int32) [(.int v0), (.int v1)] (.int (0 : Int32))) (S_CS : Sta Z h0 "java/lang/String" "COMPACT_STRINGS" "Z" (.int cs)) (hcs : ¬ (cs = (0 : Int32))) (hp0 : ¬ ((255 : Int32) < v0)) (hp1 : ¬ ((255 : Int32) < v1)) :
    MetFree l (⟨"java/lang/String", "<init>", "([C)V"⟩ : MethodName) (head1 (Jvm.Cond.code (⟨"java/lang/String", "<init>", "([C)V"⟩ : MethodName) jdk_42_method_3_code 2 none :: ws) ({ frames := 3, cells := 1, slots := 2, locals := 52 } : Room)) (fun a U => a = #[(.ref a1), (.ref ac)] ∧ Z.Warmed39 U.vm ∧ U.heap = h0) (fun _ _ _ _ _ => True) (fun _ U o U' => ∃ v L, o = .returned v ∧ Q_own_sJ2 Z a1 ac kc cs uv uc v0 v1 h0 n0 v U'.heap L ∧ FrameEnd U o U' L ({ frames := 3, cells := 1, slots := 2, locals := 52 } : Room).cells ({ frames := 3, cells := 1, slots := 2, locals := 52 } : Room).slots) := by
  refine MetFree.of_bodySF (plainFor_of_name own_pn_own_sJ2) hisR ?_
  intro p e s m args below meth c s₁ Bd hml0 hP hK
  obtain ⟨rfl, hZ, hh⟩ := hP
  have hx := Bd.exec
  have hby := Bd.bytes
  have hml : c.maxLocals = 2 := hml0
  have hown : s.vm.findClass "java/lang/String" = some m.cls := findClass_of_methodNamed Bd.named
  have hnm := (name_of_methodNamed Bd.named Bd.method).1
  have X0 : Stand p l e ({ frames := 3, cells := 1, slots := 2, locals := 52 } : Room) s m #[(.ref a1), (.ref ac)] below meth c s₁ [] 0 0 := Stand.of_body Bd
  have e0 : s₁.heap = h0 := by rw [← hh, Bd.state]; rfl
  have N0 := Fr.nil n0
  have pre0 : Goes p e below s₁ (entryFrame m #[(.ref a1), (.ref ac)] 2) s₁ (mkF m 0 #[.val (.ref a1), .val (.ref ac)] []) := fun t k => castTop (own_ef_own_sJ2 m a1 ac) k
  have pre1 : Goes p e below s₁ (entryFrame m #[(.ref a1), (.ref ac)] 2) s₁ (mkF m 4 #[.val (.ref a1), .val (.ref ac)] [(.ref ac), (.int (0 : Int32)), (.ref ac), (.ref a1)]) := fun t kt => pre0 t (by
      show Steps p.tables e below (s₁.setTop (mkF m 0 #[.val (.ref a1), .val (.ref ac)] [])) _
      refine XS.aloadN X0.here hx rfl (hb hby own_dsJ2_0) rfl rfl ?_
      show Steps p.tables e below (s₁.setTop (mkF m 1 #[.val (.ref a1), .val (.ref ac)] [(.ref a1)])) _
      refine XS.aloadN X0.here hx rfl (hb hby own_dsJ2_1) rfl rfl ?_
      show Steps p.tables e below (s₁.setTop (mkF m 2 #[.val (.ref a1), .val (.ref ac)] [(.ref ac), (.ref a1)])) _
      refine XS.iconst X0.here hx rfl (hb hby own_dsJ2_2) ?_
      show Steps p.tables e below (s₁.setTop (mkF m 3 #[.val (.ref a1), .val (.ref ac)] [(.int (0 : Int32)), (.ref ac), (.ref a1)])) _
      refine XS.aloadN X0.here hx rfl (hb hby own_dsJ2_3) rfl rfl ?_
      exact kt)
  obtain ⟨cl2, Ar2, q2, S2, N_2, H2, G2⟩ := (id (V_ac))
  have pre3 : Goes p e below s₁ (entryFrame m #[(.ref a1), (.ref ac)] 2) s₁ (mkF m 6 #[.val (.ref a1), .val (.ref ac)] [.null, (.int (2 : Int32)), (.int (0 : Int32)), (.ref ac), (.ref a1)]) := fun t kt => pre1 t (by
      show Steps p.tables e below (s₁.setTop (mkF m 4 #[.val (.ref a1), .val (.ref ac)] [(.ref ac), (.int (0 : Int32)), (.ref ac), (.ref a1)])) _
      refine X0.arraylength hx (by (try rw [e0]); exact Ar2.1) (State.isArrayOf_alike hZ.alike Ar2.2.1) (g := (mkF m 4 #[.val (.ref a1), .val (.ref ac)] [(.ref ac), (.int (0 : Int32)), (.ref ac), (.ref a1)])) rfl rfl (hb hby own_dsJ2_4) _ ?_
      rw [len_of S2 N_2]
      show Steps p.tables e below (s₁.setTop (mkF m 5 #[.val (.ref a1), .val (.ref ac)] [(.int (2 : Int32)), (.int (0 : Int32)), (.ref ac), (.ref a1)])) _
      refine XS.aconstNull X0.here hx rfl (hb hby own_dsJ2_5) ?_
      exact kt)
  obtain ⟨_, _, ⟨T4, L4, k4, n4⟩, -, X4, ⟨Lc4, hQ4, l4, y4, z4⟩, st4⟩ := X0.specialBack hx (y := (⟨"java/lang/String", "<init>", "([CIILjava/lang/Void;)V"⟩ : MethodName)) rfl hown (mvT hZ (hw _ (List.mem_of_getElem? (i := 76) rfl))) (mvT hZ (hw _ (List.mem_of_getElem? (i := 77) rfl))) (mvT hZ (hw _ (List.mem_of_getElem? (i := 79) rfl))) (by decide) (backOf (W := 0) (own_sI2 l Z a0 hw [] a1 ac kc cs uv uc v0 v1 h0 n0 Z0 E_a1 Fv Fc g_a1 V_ac S_CS hcs hp0 hp1) hZ (hw _ (List.mem_of_getElem? (i := 79) rfl)) (hw _ (List.mem_of_getElem? (i := 71) rfl)) (by decide) (by decide)) (g := (mkF m 6 #[.val (.ref a1), .val (.ref ac)] [.null, (.int (2 : Int32)), (.int (0 : Int32)), (.ref ac), (.ref a1)])) rfl (by rw [hml]; rfl) (Steps.refl _) (a := a1) (argsL := [(.ref ac), (.int (0 : Int32)), (.int (2 : Int32)), .null]) (rest := []) (lenOf own_pd0 rfl) rfl (by show 2 * 0 + _ ≤ _; exact Nat.le_of_eq rfl) (hb hby own_dsJ2_6) (fun _ _ => ⟨rfl, e0, (by decide : 0 + 1 ≤ _), (by decide : 0 + 2 ≤ _)⟩)
  dsimp only [Pt.U, Pt.locs, Pt.cells, Pt.slots] at X4 l4 y4 z4 st4 hQ4
  subst l4 y4 z4
  obtain ⟨rfl, N4q, K4q, Rest4⟩ := hQ4
  have N4 := Fr.app N0 N4q
  have KC4 : Keep h0 T4.heap [a1] := (Keep.refl h0 [a1]).trans K4q (allS (Or.inl (List.mem_of_getElem? (i := 0) rfl)) all0)
  have pre5 : Goes p e below s₁ (entryFrame m #[(.ref a1), (.ref ac)] 2) T4 (mkF m 9 #[.val (.ref a1), .val (.ref ac)] []) := fun t kt => pre3 t (st4.trans kt)
  obtain ⟨fs, hr, hrun, hended, hW, hsame⟩ := X4.leave (v := none) (fun _ => rfl)
  refine ⟨_, _, pre5 _ ?_, hrun, hended, _, _, rfl, ?_, ⟨_, rfl⟩, hW, hsame.mono (by decide) (by decide)⟩
  · show Steps p.tables e below (T4.setTop (mkF m 9 #[.val (.ref a1), .val (.ref ac)] [])) _
    exact X4.returnOut hx Bd.returns (hb hby own_dsJ2_9) hr
  · show Q_own_sJ2 Z a1 ac kc cs uv uc v0 v1 h0 n0 _ T4.heap _
    exact ⟨rfl, N4, KC4, Rest4⟩
theorem own_d3_0 : decode jdk_22_method_1_code 0 = .ok (.aload_n 0, 1) := by decide +kernel
theorem own_d3_1 : decode jdk_22_method_1_code 1 = .ok (.invokespecial 1, 3) := by decide +kernel
theorem own_d3_4 : decode jdk_22_method_1_code 4 = .ok (.return_, 1) := by decide +kernel
theorem own_pn_own_absC : plainName "java/util/AbstractCollection" = true := by first | (simp [plainName, overriddenIn]; done) | decide +kernel
theorem own_ef_own_absC (m : MethodId) (x0 : Addr) : entryFrame m #[(.ref x0)] 1 = mkF m 0 #[.val (.ref x0)] [] := by first | (simp [entryFrame, mkF, argsToLocals, Value.category]; done) | rfl
def Q_own_absC (Z : State) (a1 : Addr) (h0 : Heap) (n0 : Nat) (v : Option Value) (h : Heap) (L : List Loc) : Prop := v = none ∧ Fr n0 L ∧ h = h0
set_option maxRecDepth 65536 in
set_option maxHeartbeats 40000000 in
theorem own_absC (l : Launch) (Z : State) (a0 : Array Value) (hw : ∀ d ∈ tables_1, d.before a0 Z = true) (ws : List Jvm.Cond) (a1 : Addr) (h0 : Heap) (n0 : Nat) (Z0 : n0 ≤ h0.size) :
    MetFree l (⟨"java/util/AbstractCollection", "<init>", "()V"⟩ : MethodName) (head1 (Jvm.Cond.code (⟨"java/util/AbstractCollection", "<init>", "()V"⟩ : MethodName) jdk_22_method_1_code 1 none :: ws) ({ frames := 1, cells := 0, slots := 0, locals := 12 } : Room)) (fun a U => a = #[(.ref a1)] ∧ Z.Warmed39 U.vm ∧ U.heap = h0) (fun _ _ _ _ _ => True) (fun _ U o U' => ∃ v L, o = .returned v ∧ Q_own_absC Z a1 h0 n0 v U'.heap L ∧ FrameEnd U o U' L ({ frames := 1, cells := 0, slots := 0, locals := 12 } : Room).cells ({ frames := 1, cells := 0, slots := 0, locals := 12 } : Room).slots) := by
  refine MetFree.of_bodySF (plainFor_of_name own_pn_own_absC) hisR ?_
  intro p e s m args below meth c s₁ Bd hml0 hP hK
  obtain ⟨rfl, hZ, hh⟩ := hP
  have hx := Bd.exec
  have hby := Bd.bytes
  have hml : c.maxLocals = 1 := hml0
  have hown : s.vm.findClass "java/util/AbstractCollection" = some m.cls := findClass_of_methodNamed Bd.named
  have hnm := (name_of_methodNamed Bd.named Bd.method).1
  have X0 : Stand p l e ({ frames := 1, cells := 0, slots := 0, locals := 12 } : Room) s m #[(.ref a1)] below meth c s₁ [] 0 0 := Stand.of_body Bd
  have e0 : s₁.heap = h0 := by rw [← hh, Bd.state]; rfl
  have N0 := Fr.nil n0
  have pre0 : Goes p e below s₁ (entryFrame m #[(.ref a1)] 1) s₁ (mkF m 0 #[.val (.ref a1)] []) := fun t k => castTop (own_ef_own_absC m a1) k
  have pre1 : Goes p e below s₁ (entryFrame m #[(.ref a1)] 1) s₁ (mkF m 1 #[.val (.ref a1)] [(.ref a1)]) := fun t kt => pre0 t (by
      show Steps p.tables e below (s₁.setTop (mkF m 0 #[.val (.ref a1)] [])) _
      refine XS.aloadN X0.here hx rfl (hb hby own_d3_0) rfl rfl ?_
      exact kt)
  obtain ⟨T2, X2, e2, st2⟩ := initO X0 hx hZ hown (hw _ (List.mem_of_getElem? (i := 18) rfl)) (hw _ (List.mem_of_getElem? (i := 19) rfl)) (hw _ (List.mem_of_getElem? (i := 20) rfl)) e0 (g := (mkF m 1 #[.val (.ref a1)] [(.ref a1)])) rfl (by rw [hml]; rfl) rfl (hb hby own_d3_1) (by decide) (W := 0) (by show 2 * 0 + _ ≤ _; exact Nat.le_of_eq rfl) (by decide)
  have pre3 : Goes p e below s₁ (entryFrame m #[(.ref a1)] 1) T2 (mkF m 4 #[.val (.ref a1)] []) := fun t kt => pre1 t (st2 t kt)
  obtain ⟨fs, hr, hrun, hended, hW, hsame⟩ := X2.leave (v := none) (fun _ => rfl)
  refine ⟨_, _, pre3 _ ?_, hrun, hended, _, _, rfl, ?_, ⟨_, rfl⟩, hW, hsame.mono (by decide) (by decide)⟩
  · show Steps p.tables e below (T2.setTop (mkF m 4 #[.val (.ref a1)] [])) _
    exact X2.returnOut hx Bd.returns (hb hby own_d3_4) hr
  · show Q_own_absC Z a1 h0 n0 _ T2.heap _
    rw [e2]
    exact ⟨rfl, N0, rfl⟩
theorem own_d2_0 : decode jdk_39_method_1_code 0 = .ok (.aload_n 0, 1) := by decide +kernel
theorem own_d2_1 : decode jdk_39_method_1_code 1 = .ok (.invokespecial 1, 3) := by decide +kernel
theorem own_d2_4 : decode jdk_39_method_1_code 4 = .ok (.aload_n 0, 1) := by decide +kernel
theorem own_d2_5 : decode jdk_39_method_1_code 5 = .ok (.iconst 0, 1) := by decide +kernel
theorem own_d2_6 : decode jdk_39_method_1_code 6 = .ok (.putfield 7, 3) := by decide +kernel
theorem own_d2_9 : decode jdk_39_method_1_code 9 = .ok (.return_, 1) := by decide +kernel
theorem own_pn_own_absL : plainName "java/util/AbstractList" = true := by first | (simp [plainName, overriddenIn]; done) | decide +kernel
theorem own_ef_own_absL (m : MethodId) (x0 : Addr) : entryFrame m #[(.ref x0)] 1 = mkF m 0 #[.val (.ref x0)] [] := by first | (simp [entryFrame, mkF, argsToLocals, Value.category]; done) | rfl
def Q_own_absL (Z : State) (a1 : Addr) (h0 : Heap) (n0 : Nat) (v : Option Value) (h : Heap) (L : List Loc) : Prop := v = none ∧ Fr n0 L ∧ Keep h0 h [a1] ∧ Exa Z h a1 "java/util/ArrayList" ∧ Fld Z h a1 "java/util/ArrayList" "elementData" "[Ljava/lang/Object;" .null
set_option maxRecDepth 65536 in
set_option maxHeartbeats 40000000 in
theorem own_absL (l : Launch) (Z : State) (a0 : Array Value) (hw : ∀ d ∈ tables_1, d.before a0 Z = true) (ws : List Jvm.Cond) (a1 : Addr) (h0 : Heap) (n0 : Nat) (Z0 : n0 ≤ h0.size) (E_a1 : Exa Z h0 a1 "java/util/ArrayList") (F_mc : Fld Z h0 a1 "java/util/AbstractList" "modCount" "I" (.int (0 : Int32))) (F_el : Fld Z h0 a1 "java/util/ArrayList" "elementData" "[Ljava/lang/Object;" .null) (g_a1 : n0 ≤ a1) :
    MetFree l (⟨"java/util/AbstractList", "<init>", "()V"⟩ : MethodName) (head1 (Jvm.Cond.code (⟨"java/util/AbstractList", "<init>", "()V"⟩ : MethodName) jdk_39_method_1_code 1 none :: ws) ({ frames := 2, cells := 0, slots := 0, locals := 24 } : Room)) (fun a U => a = #[(.ref a1)] ∧ Z.Warmed39 U.vm ∧ U.heap = h0) (fun _ _ _ _ _ => True) (fun _ U o U' => ∃ v L, o = .returned v ∧ Q_own_absL Z a1 h0 n0 v U'.heap L ∧ FrameEnd U o U' L ({ frames := 2, cells := 0, slots := 0, locals := 24 } : Room).cells ({ frames := 2, cells := 0, slots := 0, locals := 24 } : Room).slots) := by
  refine MetFree.of_bodySF (plainFor_of_name own_pn_own_absL) hisR ?_
  intro p e s m args below meth c s₁ Bd hml0 hP hK
  obtain ⟨rfl, hZ, hh⟩ := hP
  have hx := Bd.exec
  have hby := Bd.bytes
  have hml : c.maxLocals = 1 := hml0
  have hown : s.vm.findClass "java/util/AbstractList" = some m.cls := findClass_of_methodNamed Bd.named
  have hnm := (name_of_methodNamed Bd.named Bd.method).1
  have X0 : Stand p l e ({ frames := 2, cells := 0, slots := 0, locals := 24 } : Room) s m #[(.ref a1)] below meth c s₁ [] 0 0 := Stand.of_body Bd
  have e0 : s₁.heap = h0 := by rw [← hh, Bd.state]; rfl
  have N0 := Fr.nil n0
  have pre0 : Goes p e below s₁ (entryFrame m #[(.ref a1)] 1) s₁ (mkF m 0 #[.val (.ref a1)] []) := fun t k => castTop (own_ef_own_absL m a1) k
  have pre1 : Goes p e below s₁ (entryFrame m #[(.ref a1)] 1) s₁ (mkF m 1 #[.val (.ref a1)] [(.ref a1)]) := fun t kt => pre0 t (by
      show Steps p.tables e below (s₁.setTop (mkF m 0 #[.val (.ref a1)] [])) _
      refine XS.aloadN X0.here hx rfl (hb hby own_d2_0) rfl rfl ?_
      exact kt)
  obtain ⟨_, _, ⟨T2, L2, k2, n2⟩, -, X2, ⟨Lc2, hQ2, l2, y2, z2⟩, st2⟩ := X0.specialBack hx (y := (⟨"java/util/AbstractCollection", "<init>", "()V"⟩ : MethodName)) rfl hown (mvT hZ (hw _ (List.mem_of_getElem? (i := 12) rfl))) (mvT hZ (hw _ (List.mem_of_getElem? (i := 13) rfl))) (mvT hZ (hw _ (List.mem_of_getElem? (i := 17) rfl))) (by decide) (backOf (W := 0) (own_absC l Z a0 hw [] a1 h0 n0 Z0 ) hZ (hw _ (List.mem_of_getElem? (i := 17) rfl)) (hw _ (List.mem_of_getElem? (i := 16) rfl)) (by decide) (by decide)) (g := (mkF m 1 #[.val (.ref a1)] [(.ref a1)])) rfl (by rw [hml]; rfl) (Steps.refl _) (a := a1) (argsL := []) (rest := []) (lenOf own_pd4 rfl) rfl (by show 2 * 0 + _ ≤ _; exact Nat.le_of_eq rfl) (hb hby own_d2_1) (fun _ _ => ⟨rfl, e0, (by decide : 0 + 0 ≤ _), (by decide : 0 + 0 ≤ _)⟩)
  dsimp only [Pt.U, Pt.locs, Pt.cells, Pt.slots] at X2 l2 y2 z2 st2 hQ2
  subst l2 y2 z2
  obtain ⟨rfl, N2q, e2⟩ := hQ2
  have N2 := Fr.app N0 N2q
  have pre3 : Goes p e below s₁ (entryFrame m #[(.ref a1)] 1) T2 (mkF m 4 #[.val (.ref a1)] []) := fun t kt => pre1 t (st2.trans kt)
  have pre4 : Goes p e below s₁ (entryFrame m #[(.ref a1)] 1) T2 (mkF m 6 #[.val (.ref a1)] [(.int (0 : Int32)), (.ref a1)]) := fun t kt => pre3 t (by
      show Steps p.tables e below (T2.setTop (mkF m 4 #[.val (.ref a1)] [])) _
      refine XS.aloadN X2.here hx rfl (hb hby own_d2_4) rfl rfl ?_
      show Steps p.tables e below (T2.setTop (mkF m 5 #[.val (.ref a1)] [(.ref a1)])) _
      refine XS.iconst X2.here hx rfl (hb hby own_d2_5) ?_
      exact kt)
  obtain ⟨T5, h5, X5, e5, W5, st5⟩ := putF X2 hx hZ hown (host := "") (Or.inl (hw _ (List.mem_of_getElem? (i := 21) rfl))) Via.refl e2 F_mc E_a1 (Or.inl (hw _ (List.mem_of_getElem? (i := 22) rfl))) (hw _ (List.mem_of_getElem? (i := 1) rfl)) (ty := .int) (by decide) rfl rfl (g := (mkF m 6 #[.val (.ref a1)] [(.int (0 : Int32)), (.ref a1)])) rfl rfl (hb hby own_d2_6)
  have Fw5 := F_mc.same W5
  have K5 : Keep h0 h5 [a1] := (Keep.refl h0 [a1]).wr W5 (Or.inl (List.mem_of_getElem? (i := 0) rfl))
  have N5 := Fr.snoc X5 N2 g_a1
  have pre6 : Goes p e below s₁ (entryFrame m #[(.ref a1)] 1) T5 (mkF m 9 #[.val (.ref a1)] []) := fun t kt => pre4 t (st5 t kt)
  obtain ⟨fs, hr, hrun, hended, hW, hsame⟩ := X5.leave (v := none) (fun _ => rfl)
  refine ⟨_, _, pre6 _ ?_, hrun, hended, _, _, rfl, ?_, ⟨_, rfl⟩, hW, hsame.mono (by decide) (by decide)⟩
  · show Steps p.tables e below (T5.setTop (mkF m 9 #[.val (.ref a1)] [])) _
    exact X5.returnOut hx Bd.returns (hb hby own_d2_9) hr
  · show Q_own_absL Z a1 h0 n0 _ T5.heap _
    rw [e5]
    exact ⟨rfl, N5, K5, (E_a1.wr W5), (F_el.other W5 (Or.inr (slot_ne (Or.inl (hw _ (List.mem_of_getElem? (i := 25) rfl))) (Or.inl (hw _ (List.mem_of_getElem? (i := 22) rfl))) (by decide) (t := (.array (.object "java/lang/Object"))) (t' := .int) (by decide) (by decide))))⟩
theorem own_d1_0 : decode jdk_38_method_2_code 0 = .ok (.aload_n 0, 1) := by decide +kernel
theorem own_d1_1 : decode jdk_38_method_2_code 1 = .ok (.invokespecial 1, 3) := by decide +kernel
theorem own_d1_4 : decode jdk_38_method_2_code 4 = .ok (.aload_n 0, 1) := by decide +kernel
theorem own_d1_5 : decode jdk_38_method_2_code 5 = .ok (.getstatic 39, 3) := by decide +kernel
theorem own_d1_8 : decode jdk_38_method_2_code 8 = .ok (.putfield 9, 3) := by decide +kernel
theorem own_d1_11 : decode jdk_38_method_2_code 11 = .ok (.return_, 1) := by decide +kernel
theorem own_pn_own_arl : plainName "java/util/ArrayList" = true := by first | (simp [plainName, overriddenIn]; done) | decide +kernel
theorem own_ef_own_arl (m : MethodId) (x0 : Addr) : entryFrame m #[(.ref x0)] 1 = mkF m 0 #[.val (.ref x0)] [] := by first | (simp [entryFrame, mkF, argsToLocals, Value.category]; done) | rfl
def Q_own_arl (Z : State) (a1 : Addr) (aDEFAULTCAPACITY_EMPTY_ELEMENTDATA : Addr) (h0 : Heap) (n0 : Nat) (v : Option Value) (h : Heap) (L : List Loc) : Prop := v = none ∧ Fr n0 L ∧ Keep h0 h [a1]
set_option maxRecDepth 65536 in
set_option maxHeartbeats 40000000 in
theorem own_arl (l : Launch) (Z : State) (a0 : Array Value) (hw : ∀ d ∈ tables_1, d.before a0 Z = true) (ws : List Jvm.Cond) (a1 : Addr) (aDEFAULTCAPACITY_EMPTY_ELEMENTDATA : Addr) (h0 : Heap) (n0 : Nat) (Z0 : n0 ≤ h0.size) (E_a1 : Exa Z h0 a1 "java/util/ArrayList") (F_mc : Fld Z h0 a1 "java/util/AbstractList" "modCount" "I" (.int (0 : Int32))) (F_el : Fld Z h0 a1 "java/util/ArrayList" "elementData" "[Ljava/lang/Object;" .null) (g_a1 : n0 ≤ a1) (S_DC : Sta Z Z.heap "java/util/ArrayList" "DEFAULTCAPACITY_EMPTY_ELEMENTDATA" "[Ljava/lang/Object;" (.ref aDEFAULTCAPACITY_EMPTY_ELEMENTDATA)) (O0 : Old Z n0 h0) :
    MetFree l (⟨"java/util/ArrayList", "<init>", "()V"⟩ : MethodName) (head1 (Jvm.Cond.code (⟨"java/util/ArrayList", "<init>", "()V"⟩ : MethodName) jdk_38_method_2_code 1 none :: ws) ({ frames := 3, cells := 0, slots := 0, locals := 36 } : Room)) (fun a U => a = #[(.ref a1)] ∧ Z.Warmed39 U.vm ∧ U.heap = h0) (fun _ _ _ _ _ => True) (fun _ U o U' => ∃ v L, o = .returned v ∧ Q_own_arl Z a1 aDEFAULTCAPACITY_EMPTY_ELEMENTDATA h0 n0 v U'.heap L ∧ FrameEnd U o U' L ({ frames := 3, cells := 0, slots := 0, locals := 36 } : Room).cells ({ frames := 3, cells := 0, slots := 0, locals := 36 } : Room).slots) := by
  refine MetFree.of_bodySF (plainFor_of_name own_pn_own_arl) hisR ?_
  intro p e s m args below meth c s₁ Bd hml0 hP hK
  obtain ⟨rfl, hZ, hh⟩ := hP
  have hx := Bd.exec
  have hby := Bd.bytes
  have hml : c.maxLocals = 1 := hml0
  have hown : s.vm.findClass "java/util/ArrayList" = some m.cls := findClass_of_methodNamed Bd.named
  have hnm := (name_of_methodNamed Bd.named Bd.method).1
  have X0 : Stand p l e ({ frames := 3, cells := 0, slots := 0, locals := 36 } : Room) s m #[(.ref a1)] below meth c s₁ [] 0 0 := Stand.of_body Bd
  have e0 : s₁.heap = h0 := by rw [← hh, Bd.state]; rfl
  have N0 := Fr.nil n0
  have pre0 : Goes p e below s₁ (entryFrame m #[(.ref a1)] 1) s₁ (mkF m 0 #[.val (.ref a1)] []) := fun t k => castTop (own_ef_own_arl m a1) k
  have pre1 : Goes p e below s₁ (entryFrame m #[(.ref a1)] 1) s₁ (mkF m 1 #[.val (.ref a1)] [(.ref a1)]) := fun t kt => pre0 t (by
      show Steps p.tables e below (s₁.setTop (mkF m 0 #[.val (.ref a1)] [])) _
      refine XS.aloadN X0.here hx rfl (hb hby own_d1_0) rfl rfl ?_
      exact kt)
  obtain ⟨_, _, ⟨T2, L2, k2, n2⟩, -, X2, ⟨Lc2, hQ2, l2, y2, z2⟩, st2⟩ := X0.specialBack hx (y := (⟨"java/util/AbstractList", "<init>", "()V"⟩ : MethodName)) rfl hown (mvT hZ (hw _ (List.mem_of_getElem? (i := 6) rfl))) (mvT hZ (hw _ (List.mem_of_getElem? (i := 7) rfl))) (mvT hZ (hw _ (List.mem_of_getElem? (i := 11) rfl))) (by decide) (backOf (W := 0) (own_absL l Z a0 hw [] a1 h0 n0 Z0 E_a1 F_mc F_el g_a1) hZ (hw _ (List.mem_of_getElem? (i := 11) rfl)) (hw _ (List.mem_of_getElem? (i := 10) rfl)) (by decide) (by decide)) (g := (mkF m 1 #[.val (.ref a1)] [(.ref a1)])) rfl (by rw [hml]; rfl) (Steps.refl _) (a := a1) (argsL := []) (rest := []) (lenOf own_pd4 rfl) rfl (by show 2 * 0 + _ ≤ _; exact Nat.le_of_eq rfl) (hb hby own_d1_1) (fun _ _ => ⟨rfl, e0, (by decide : 0 + 0 ≤ _), (by decide : 0 + 0 ≤ _)⟩)
  dsimp only [Pt.U, Pt.locs, Pt.cells, Pt.slots] at X2 l2 y2 z2 st2 hQ2
  subst l2 y2 z2
  obtain ⟨rfl, N2q, K2q, Ea2, Fe2⟩ := hQ2
  have N2 := Fr.app N0 N2q
  have KC2 : Keep h0 T2.heap [a1] := (Keep.refl h0 [a1]).trans K2q (allS (Or.inl (List.mem_of_getElem? (i := 0) rfl)) all0)
  have pre3 : Goes p e below s₁ (entryFrame m #[(.ref a1)] 1) T2 (mkF m 4 #[.val (.ref a1)] []) := fun t kt => pre1 t (st2.trans kt)
  have pre4 : Goes p e below s₁ (entryFrame m #[(.ref a1)] 1) T2 (mkF m 5 #[.val (.ref a1)] [(.ref a1)]) := fun t kt => pre3 t (by
      show Steps p.tables e below (T2.setTop (mkF m 4 #[.val (.ref a1)] [])) _
      refine XS.aloadN X2.here hx rfl (hb hby own_d1_4) rfl rfl ?_
      exact kt)
  obtain ⟨T5, X5, e5, st5⟩ := getS2 X2 hx hZ hown (host := "") (Or.inl (hw _ (List.mem_of_getElem? (i := 23) rfl))) Via.refl rfl (S_DC.ext (O0.keep K2q (allS g_a1 all0)).2) (g := (mkF m 5 #[.val (.ref a1)] [(.ref a1)])) rfl (hb hby own_d1_5)
  have pre6 : Goes p e below s₁ (entryFrame m #[(.ref a1)] 1) T5 (mkF m 8 #[.val (.ref a1)] [(.ref aDEFAULTCAPACITY_EMPTY_ELEMENTDATA), (.ref a1)]) := fun t kt => pre4 t (st5 t kt)
  obtain ⟨T7, h7, X7, e7, W7, st7⟩ := putF X5 hx hZ hown (host := "") (Or.inl (hw _ (List.mem_of_getElem? (i := 24) rfl))) Via.refl e5 Fe2 Ea2 (Or.inl (hw _ (List.mem_of_getElem? (i := 25) rfl))) (hw _ (List.mem_of_getElem? (i := 1) rfl)) (ty := (.array (.object "java/lang/Object"))) (by decide) rfl rfl (g := (mkF m 8 #[.val (.ref a1)] [(.ref aDEFAULTCAPACITY_EMPTY_ELEMENTDATA), (.ref a1)])) rfl rfl (hb hby own_d1_8)
  have Fw7 := Fe2.same W7
  have K7 : Keep h0 h7 [a1] := KC2.wr W7 (Or.inl (List.mem_of_getElem? (i := 0) rfl))
  have N7 := Fr.snoc X7 N2 g_a1
  have pre8 : Goes p e below s₁ (entryFrame m #[(.ref a1)] 1) T7 (mkF m 11 #[.val (.ref a1)] []) := fun t kt => pre6 t (st7 t kt)
  obtain ⟨fs, hr, hrun, hended, hW, hsame⟩ := X7.leave (v := none) (fun _ => rfl)
  refine ⟨_, _, pre8 _ ?_, hrun, hended, _, _, rfl, ?_, ⟨_, rfl⟩, hW, hsame.mono (by decide) (by decide)⟩
  · show Steps p.tables e below (T7.setTop (mkF m 11 #[.val (.ref a1)] [])) _
    exact X7.returnOut hx Bd.returns (hb hby own_d1_11) hr
  · show Q_own_arl Z a1 aDEFAULTCAPACITY_EMPTY_ELEMENTDATA h0 n0 _ T7.heap _
    rw [e7]
    exact ⟨rfl, N7, K7⟩
theorem own_d6_0 : decode jdk_30_method_1_code 0 = .ok (.aload_n 0, 1) := by decide +kernel
theorem own_d6_1 : decode jdk_30_method_1_code 1 = .ok (.invokespecial 1, 3) := by decide +kernel
theorem own_d6_4 : decode jdk_30_method_1_code 4 = .ok (.return_, 1) := by decide +kernel
theorem own_pn_own_rec : plainName "java/lang/Record" = true := by first | (simp [plainName, overriddenIn]; done) | decide +kernel
theorem own_ef_own_rec (m : MethodId) (x0 : Addr) : entryFrame m #[(.ref x0)] 1 = mkF m 0 #[.val (.ref x0)] [] := by first | (simp [entryFrame, mkF, argsToLocals, Value.category]; done) | rfl
def Q_own_rec (Z : State) (a1 : Addr) (h0 : Heap) (n0 : Nat) (v : Option Value) (h : Heap) (L : List Loc) : Prop := v = none ∧ Fr n0 L ∧ h = h0
set_option maxRecDepth 65536 in
set_option maxHeartbeats 40000000 in
theorem own_rec (l : Launch) (Z : State) (a0 : Array Value) (hw : ∀ d ∈ tables_1, d.before a0 Z = true) (ws : List Jvm.Cond) (a1 : Addr) (h0 : Heap) (n0 : Nat) (Z0 : n0 ≤ h0.size) :
    MetFree l (⟨"java/lang/Record", "<init>", "()V"⟩ : MethodName) (head1 (Jvm.Cond.code (⟨"java/lang/Record", "<init>", "()V"⟩ : MethodName) jdk_30_method_1_code 1 none :: ws) ({ frames := 1, cells := 0, slots := 0, locals := 12 } : Room)) (fun a U => a = #[(.ref a1)] ∧ Z.Warmed39 U.vm ∧ U.heap = h0) (fun _ _ _ _ _ => True) (fun _ U o U' => ∃ v L, o = .returned v ∧ Q_own_rec Z a1 h0 n0 v U'.heap L ∧ FrameEnd U o U' L ({ frames := 1, cells := 0, slots := 0, locals := 12 } : Room).cells ({ frames := 1, cells := 0, slots := 0, locals := 12 } : Room).slots) := by
  refine MetFree.of_bodySF (plainFor_of_name own_pn_own_rec) hisR ?_
  intro p e s m args below meth c s₁ Bd hml0 hP hK
  obtain ⟨rfl, hZ, hh⟩ := hP
  have hx := Bd.exec
  have hby := Bd.bytes
  have hml : c.maxLocals = 1 := hml0
  have hown : s.vm.findClass "java/lang/Record" = some m.cls := findClass_of_methodNamed Bd.named
  have hnm := (name_of_methodNamed Bd.named Bd.method).1
  have X0 : Stand p l e ({ frames := 1, cells := 0, slots := 0, locals := 12 } : Room) s m #[(.ref a1)] below meth c s₁ [] 0 0 := Stand.of_body Bd
  have e0 : s₁.heap = h0 := by rw [← hh, Bd.state]; rfl
  have N0 := Fr.nil n0
  have pre0 : Goes p e below s₁ (entryFrame m #[(.ref a1)] 1) s₁ (mkF m 0 #[.val (.ref a1)] []) := fun t k => castTop (own_ef_own_rec m a1) k
  have pre1 : Goes p e below s₁ (entryFrame m #[(.ref a1)] 1) s₁ (mkF m 1 #[.val (.ref a1)] [(.ref a1)]) := fun t kt => pre0 t (by
      show Steps p.tables e below (s₁.setTop (mkF m 0 #[.val (.ref a1)] [])) _
      refine XS.aloadN X0.here hx rfl (hb hby own_d6_0) rfl rfl ?_
      exact kt)
  obtain ⟨T2, X2, e2, st2⟩ := initO X0 hx hZ hown (hw _ (List.mem_of_getElem? (i := 37) rfl)) (hw _ (List.mem_of_getElem? (i := 19) rfl)) (hw _ (List.mem_of_getElem? (i := 20) rfl)) e0 (g := (mkF m 1 #[.val (.ref a1)] [(.ref a1)])) rfl (by rw [hml]; rfl) rfl (hb hby own_d6_1) (by decide) (W := 0) (by show 2 * 0 + _ ≤ _; exact Nat.le_of_eq rfl) (by decide)
  have pre3 : Goes p e below s₁ (entryFrame m #[(.ref a1)] 1) T2 (mkF m 4 #[.val (.ref a1)] []) := fun t kt => pre1 t (st2 t kt)
  obtain ⟨fs, hr, hrun, hended, hW, hsame⟩ := X2.leave (v := none) (fun _ => rfl)
  refine ⟨_, _, pre3 _ ?_, hrun, hended, _, _, rfl, ?_, ⟨_, rfl⟩, hW, hsame.mono (by decide) (by decide)⟩
  · show Steps p.tables e below (T2.setTop (mkF m 4 #[.val (.ref a1)] [])) _
    exact X2.returnOut hx Bd.returns (hb hby own_d6_4) hr
  · show Q_own_rec Z a1 h0 n0 _ T2.heap _
    rw [e2]
    exact ⟨rfl, N0, rfl⟩
theorem own_dpxN_0 : decode prog_7_method_1_code 0 = .ok (.aload_n 0, 1) := by decide +kernel
theorem own_dpxN_1 : decode prog_7_method_1_code 1 = .ok (.invokespecial 1, 3) := by decide +kernel
theorem own_dpxN_4 : decode prog_7_method_1_code 4 = .ok (.aload_n 0, 1) := by decide +kernel
theorem own_dpxN_5 : decode prog_7_method_1_code 5 = .ok (.aload_n 1, 1) := by decide +kernel
theorem own_dpxN_6 : decode prog_7_method_1_code 6 = .ok (.putfield 7, 3) := by decide +kernel
theorem own_dpxN_9 : decode prog_7_method_1_code 9 = .ok (.aload_n 0, 1) := by decide +kernel
theorem own_dpxN_10 : decode prog_7_method_1_code 10 = .ok (.aload_n 2, 1) := by decide +kernel
theorem own_dpxN_11 : decode prog_7_method_1_code 11 = .ok (.putfield 13, 3) := by decide +kernel
theorem own_dpxN_14 : decode prog_7_method_1_code 14 = .ok (.aload_n 0, 1) := by decide +kernel
theorem own_dpxN_15 : decode prog_7_method_1_code 15 = .ok (.aload_n 3, 1) := by decide +kernel
theorem own_dpxN_16 : decode prog_7_method_1_code 16 = .ok (.putfield 17, 3) := by decide +kernel
theorem own_dpxN_19 : decode prog_7_method_1_code 19 = .ok (.aload_n 0, 1) := by decide +kernel
theorem own_dpxN_20 : decode prog_7_method_1_code 20 = .ok (.aload 4, 2) := by decide +kernel
theorem own_dpxN_22 : decode prog_7_method_1_code 22 = .ok (.putfield 21, 3) := by decide +kernel
theorem own_dpxN_25 : decode prog_7_method_1_code 25 = .ok (.aload_n 0, 1) := by decide +kernel
theorem own_dpxN_26 : decode prog_7_method_1_code 26 = .ok (.aload 5, 2) := by decide +kernel
theorem own_dpxN_28 : decode prog_7_method_1_code 28 = .ok (.putfield 25, 3) := by decide +kernel
theorem own_dpxN_31 : decode prog_7_method_1_code 31 = .ok (.return_, 1) := by decide +kernel
theorem own_pn_own_pxN : plainName "com/example/outcomist/outcomist/Catalogue$Proxy" = true := by first | (simp [plainName, overriddenIn]; done) | decide +kernel
theorem own_ef_own_pxN (m : MethodId) (x0 : Addr) (x2 : Addr) : entryFrame m #[(.ref x0), .null, (.ref x2), .null, .null, .null] 6 = mkF m 0 #[.val (.ref x0), .val .null, .val (.ref x2), .val .null, .val .null, .val .null] [] := by first | (simp [entryFrame, mkF, argsToLocals, Value.category]; done) | rfl
def Q_own_pxN (Z : State) (a1 : Addr) (x1 : Addr) (h0 : Heap) (n0 : Nat) (v : Option Value) (h : Heap) (L : List Loc) : Prop := v = none ∧ Fr n0 L ∧ Keep h0 h [a1] ∧ Exa Z h a1 "com/example/outcomist/outcomist/Catalogue$Proxy" ∧ Fld Z h a1 "com/example/outcomist/outcomist/Catalogue$Proxy" "codingSystem" "Ljava/lang/String;" .null
set_option maxRecDepth 65536 in
set_option maxHeartbeats 40000000 in
theorem own_pxN (l : Launch) (Z : State) (a0 : Array Value) (hw : ∀ d ∈ tables_1, d.before a0 Z = true) (ws : List Jvm.Cond) (a1 : Addr) (x1 : Addr) (h0 : Heap) (n0 : Nat) (Z0 : n0 ≤ h0.size) (E_a1 : Exa Z h0 a1 "com/example/outcomist/outcomist/Catalogue$Proxy") (F_codingSystem : Fld Z h0 a1 "com/example/outcomist/outcomist/Catalogue$Proxy" "codingSystem" "Ljava/lang/String;" .null) (F_outcomes : Fld Z h0 a1 "com/example/outcomist/outcomist/Catalogue$Proxy" "outcomes" "Ljava/util/List;" .null) (F_severityVariants : Fld Z h0 a1 "com/example/outcomist/outcomist/Catalogue$Proxy" "severityVariants" "Ljava/util/Set;" .null) (F_issueTypeVariants : Fld Z h0 a1 "com/example/outcomist/outcomist/Catalogue$Proxy" "issueTypeVariants" "Ljava/util/Map;" .null) (F_codingSystemVariants : Fld Z h0 a1 "com/example/outcomist/outcomist/Catalogue$Proxy" "codingSystemVariants" "Ljava/util/Set;" .null) (g_a1 : n0 ≤ a1) :
    MetFree l (⟨"com/example/outcomist/outcomist/Catalogue$Proxy", "<init>", "(Ljava/lang/String;Ljava/util/List;Ljava/util/Set;Ljava/util/Map;Ljava/util/Set;)V"⟩ : MethodName) (head1 (Jvm.Cond.code (⟨"com/example/outcomist/outcomist/Catalogue$Proxy", "<init>", "(Ljava/lang/String;Ljava/util/List;Ljava/util/Set;Ljava/util/Map;Ljava/util/Set;)V"⟩ : MethodName) prog_7_method_1_code 6 none :: ws) ({ frames := 2, cells := 0, slots := 0, locals := 24 } : Room)) (fun a U => a = #[(.ref a1), .null, (.ref x1), .null, .null, .null] ∧ Z.Warmed39 U.vm ∧ U.heap = h0) (fun _ _ _ _ _ => True) (fun _ U o U' => ∃ v L, o = .returned v ∧ Q_own_pxN Z a1 x1 h0 n0 v U'.heap L ∧ FrameEnd U o U' L ({ frames := 2, cells := 0, slots := 0, locals := 24 } : Room).cells ({ frames := 2, cells := 0, slots := 0, locals := 24 } : Room).slots) := by
  refine MetFree.of_bodySF (plainFor_of_name own_pn_own_pxN) hisR ?_
  intro p e s m args below meth c s₁ Bd hml0 hP hK
  obtain ⟨rfl, hZ, hh⟩ := hP
  have hx := Bd.exec
  have hby := Bd.bytes
  have hml : c.maxLocals = 6 := hml0
  have hown : s.vm.findClass "com/example/outcomist/outcomist/Catalogue$Proxy" = some m.cls := findClass_of_methodNamed Bd.named
  have hnm := (name_of_methodNamed Bd.named Bd.method).1
  have X0 : Stand p l e ({ frames := 2, cells := 0, slots := 0, locals := 24 } : Room) s m #[(.ref a1), .null, (.ref x1), .null, .null, .null] below meth c s₁ [] 0 0 := Stand.of_body Bd
  have e0 : s₁.heap = h0 := by rw [← hh, Bd.state]; rfl
  have N0 := Fr.nil n0
  have pre0 : Goes p e below s₁ (entryFrame m #[(.ref a1), .null, (.ref x1), .null, .null, .null] 6) s₁ (mkF m 0 #[.val (.ref a1), .val .null, .val (.ref x1), .val .null, .val .null, .val .null] []) := fun t k => castTop (own_ef_own_pxN m a1 x1) k
  have pre1 : Goes p e below s₁ (entryFrame m #[(.ref a1), .null, (.ref x1), .null, .null, .null] 6) s₁ (mkF m 1 #[.val (.ref a1), .val .null, .val (.ref x1), .val .null, .val .null, .val .null] [(.ref a1)]) := fun t kt => pre0 t (by
      show Steps p.tables e below (s₁.setTop (mkF m 0 #[.val (.ref a1), .val .null, .val (.ref x1), .val .null, .val .null, .val .null] [])) _
      refine XS.aloadN X0.here hx rfl (hb hby own_dpxN_0) rfl rfl ?_
      exact kt)
  obtain ⟨_, _, ⟨T2, L2, k2, n2⟩, -, X2, ⟨Lc2, hQ2, l2, y2, z2⟩, st2⟩ := X0.specialBack hx (y := (⟨"java/lang/Record", "<init>", "()V"⟩ : MethodName)) rfl hown (mvT hZ (hw _ (List.mem_of_getElem? (i := 32) rfl))) (mvT hZ (hw _ (List.mem_of_getElem? (i := 33) rfl))) (mvT hZ (hw _ (List.mem_of_getElem? (i := 36) rfl))) (by decide) (backOf (W := 0) (own_rec l Z a0 hw [] a1 h0 n0 Z0 ) hZ (hw _ (List.mem_of_getElem? (i := 36) rfl)) (hw _ (List.mem_of_getElem? (i := 35) rfl)) (by decide) (by decide)) (g := (mkF m 1 #[.val (.ref a1), .val .null, .val (.ref x1), .val .null, .val .null, .val .null] [(.ref a1)])) rfl (by rw [hml]; rfl) (Steps.refl _) (a := a1) (argsL := []) (rest := []) (lenOf own_pd4 rfl) rfl (by show 2 * 0 + _ ≤ _; exact Nat.le_of_eq rfl) (hb hby own_dpxN_1) (fun _ _ => ⟨rfl, e0, (by decide : 0 + 0 ≤ _), (by decide : 0 + 0 ≤ _)⟩)
  dsimp only [Pt.U, Pt.locs, Pt.cells, Pt.slots] at X2 l2 y2 z2 st2 hQ2
  subst l2 y2 z2
  obtain ⟨rfl, N2q, e2⟩ := hQ2
  have N2 := Fr.app N0 N2q
  have pre3 : Goes p e below s₁ (entryFrame m #[(.ref a1), .null, (.ref x1), .null, .null, .null] 6) T2 (mkF m 4 #[.val (.ref a1), .val .null, .val (.ref x1), .val .null, .val .null, .val .null] []) := fun t kt => pre1 t (st2.trans kt)
  have pre4 : Goes p e below s₁ (entryFrame m #[(.ref a1), .null, (.ref x1), .null, .null, .null] 6) T2 (mkF m 6 #[.val (.ref a1), .val .null, .val (.ref x1), .val .null, .val .null, .val .null] [.null, (.ref a1)]) := fun t kt => pre3 t (by
      show Steps p.tables e below (T2.setTop (mkF m 4 #[.val (.ref a1), .val .null, .val (.ref x1), .val .null, .val .null, .val .null] [])) _
      refine XS.aloadN X2.here hx rfl (hb hby own_dpxN_4) rfl rfl ?_
      show Steps p.tables e below (T2.setTop (mkF m 5 #[.val (.ref a1), .val .null, .val (.ref x1), .val .null, .val .null, .val .null] [(.ref a1)])) _
      refine XS.aloadN X2.here hx rfl (hb hby own_dpxN_5) rfl rfl ?_
      exact kt)
  obtain ⟨T5, h5, X5, e5, W5, st5⟩ := putF X2 hx hZ hown (host := "") (Or.inl (hw _ (List.mem_of_getElem? (i := 38) rfl))) Via.refl e2 F_codingSystem E_a1 (Or.inr ⟨(hw _ (List.mem_of_getElem? (i := 39) rfl)), rfl, hnm⟩) (hw _ (List.mem_of_getElem? (i := 27) rfl)) (ty := (.object "java/lang/String")) (by decide) rfl rfl (g := (mkF m 6 #[.val (.ref a1), .val .null, .val (.ref x1), .val .null, .val .null, .val .null] [.null, (.ref a1)])) rfl rfl (hb hby own_dpxN_6)
  have Fw5 := F_codingSystem.same W5
  have K5 : Keep h0 h5 [a1] := (Keep.refl h0 [a1]).wr W5 (Or.inl (List.mem_of_getElem? (i := 0) rfl))
  have N5 := Fr.snoc X5 N2 g_a1
  have pre6 : Goes p e below s₁ (entryFrame m #[(.ref a1), .null, (.ref x1), .null, .null, .null] 6) T5 (mkF m 9 #[.val (.ref a1), .val .null, .val (.ref x1), .val .null, .val .null, .val .null] []) := fun t kt => pre4 t (st5 t kt)
  have pre7 : Goes p e below s₁ (entryFrame m #[(.ref a1), .null, (.ref x1), .null, .null, .null] 6) T5 (mkF m 11 #[.val (.ref a1), .val .null, .val (.ref x1), .val .null, .val .null, .val .null] [(.ref x1), (.ref a1)]) := fun t kt => pre6 t (by
      show Steps p.tables e below (T5.setTop (mkF m 9 #[.val (.ref a1), .val .null, .val (.ref x1), .val .null, .val .null, .val .null] [])) _
      refine XS.aloadN X5.here hx rfl (hb hby own_dpxN_9) rfl rfl ?_
      show Steps p.tables e below (T5.setTop (mkF m 10 #[.val (.ref a1), .val .null, .val (.ref x1), .val .null, .val .null, .val .null] [(.ref a1)])) _
      refine XS.aloadN X5.here hx rfl (hb hby own_dpxN_10) rfl rfl ?_
      exact kt)
  obtain ⟨T8, h8, X8, e8, W8, st8⟩ := putF X5 hx hZ hown (host := "") (Or.inl (hw _ (List.mem_of_getElem? (i := 40) rfl))) Via.refl e5 (F_outcomes.other W5 (Or.inr (slot_ne (Or.inr (hw _ (List.mem_of_getElem? (i := 41) rfl))) (Or.inr (hw _ (List.mem_of_getElem? (i := 39) rfl))) (by decide) (t := (.object "java/util/List")) (t' := (.object "java/lang/String")) (by decide) (by decide)))) (E_a1.wr W5) (Or.inr ⟨(hw _ (List.mem_of_getElem? (i := 41) rfl)), rfl, hnm⟩) (hw _ (List.mem_of_getElem? (i := 27) rfl)) (ty := (.object "java/util/List")) (by decide) rfl rfl (g := (mkF m 11 #[.val (.ref a1), .val .null, .val (.ref x1), .val .null, .val .null, .val .null] [(.ref x1), (.ref a1)])) rfl rfl (hb hby own_dpxN_11)
  have Fw8 := (F_outcomes.other W5 (Or.inr (slot_ne (Or.inr (hw _ (List.mem_of_getElem? (i := 41) rfl))) (Or.inr (hw _ (List.mem_of_getElem? (i := 39) rfl))) (by decide) (t := (.object "java/util/List")) (t' := (.object "java/lang/String")) (by decide) (by decide)))).same W8
  have K8 : Keep h0 h8 [a1] := K5.wr W8 (Or.inl (List.mem_of_getElem? (i := 0) rfl))
  have N8 := Fr.snoc X8 N5 g_a1
  have pre9 : Goes p e below s₁ (entryFrame m #[(.ref a1), .null, (.ref x1), .null, .null, .null] 6) T8 (mkF m 14 #[.val (.ref a1), .val .null, .val (.ref x1), .val .null, .val .null, .val .null] []) := fun t kt => pre7 t (st8 t kt)
  have pre10 : Goes p e below s₁ (entryFrame m #[(.ref a1), .null, (.ref x1), .null, .null, .null] 6) T8 (mkF m 16 #[.val (.ref a1), .val .null, .val (.ref x1), .val .null, .val .null, .val .null] [.null, (.ref a1)]) := fun t kt => pre9 t (by
      show Steps p.tables e below (T8.setTop (mkF m 14 #[.val (.ref a1), .val .null, .val (.ref x1), .val .null, .val .null, .val .null] [])) _
      refine XS.aloadN X8.here hx rfl (hb hby own_dpxN_14) rfl rfl ?_
      show Steps p.tables e below (T8.setTop (mkF m 15 #[.val (.ref a1), .val .null, .val (.ref x1), .val .null, .val .null, .val .null] [(.ref a1)])) _
      refine XS.aloadN X8.here hx rfl (hb hby own_dpxN_15) rfl rfl ?_
      exact kt)
  obtain ⟨T11, h11, X11, e11, W11, st11⟩ := putF X8 hx hZ hown (host := "") (Or.inl (hw _ (List.mem_of_getElem? (i := 42) rfl))) Via.refl e8 ((F_severityVariants.other W5 (Or.inr (slot_ne (Or.inr (hw _ (List.mem_of_getElem? (i := 43) rfl))) (Or.inr (hw _ (List.mem_of_getElem? (i := 39) rfl))) (by decide) (t := (.object "java/util/Set")) (t' := (.object "java/lang/String")) (by decide) (by decide)))).other W8 (Or.inr (slot_ne (Or.inr (hw _ (List.mem_of_getElem? (i := 43) rfl))) (Or.inr (hw _ (List.mem_of_getElem? (i := 41) rfl))) (by decide) (t := (.object "java/util/Set")) (t' := (.object "java/util/List")) (by decide) (by decide)))) ((E_a1.wr W5).wr W8) (Or.inr ⟨(hw _ (List.mem_of_getElem? (i := 43) rfl)), rfl, hnm⟩) (hw _ (List.mem_of_getElem? (i := 27) rfl)) (ty := (.object "java/util/Set")) (by decide) rfl rfl (g := (mkF m 16 #[.val (.ref a1), .val .null, .val (.ref x1), .val .null, .val .null, .val .null] [.null, (.ref a1)])) rfl rfl (hb hby own_dpxN_16)
  have Fw11 := ((F_severityVariants.other W5 (Or.inr (slot_ne (Or.inr (hw _ (List.mem_of_getElem? (i := 43) rfl))) (Or.inr (hw _ (List.mem_of_getElem? (i := 39) rfl))) (by decide) (t := (.object "java/util/Set")) (t' := (.object "java/lang/String")) (by decide) (by decide)))).other W8 (Or.inr (slot_ne (Or.inr (hw _ (List.mem_of_getElem? (i := 43) rfl))) (Or.inr (hw _ (List.mem_of_getElem? (i := 41) rfl))) (by decide) (t := (.object "java/util/Set")) (t' := (.object "java/util/List")) (by decide) (by decide)))).same W11
  have K11 : Keep h0 h11 [a1] := K8.wr W11 (Or.inl (List.mem_of_getElem? (i := 0) rfl))
  have N11 := Fr.snoc X11 N8 g_a1
  have pre12 : Goes p e below s₁ (entryFrame m #[(.ref a1), .null, (.ref x1), .null, .null, .null] 6) T11 (mkF m 19 #[.val (.ref a1), .val .null, .val (.ref x1), .val .null, .val .null, .val .null] []) := fun t kt => pre10 t (st11 t kt)
  have pre13 : Goes p e below s₁ (entryFrame m #[(.ref a1), .null, (.ref x1), .null, .null, .null] 6) T11 (mkF m 22 #[.val (.ref a1), .val .null, .val (.ref x1), .val .null, .val .null, .val .null] [.null, (.ref a1)]) := fun t kt => pre12 t (by
      show Steps p.tables e below (T11.setTop (mkF m 19 #[.val (.ref a1), .val .null, .val (.ref x1), .val .null, .val .null, .val .null] [])) _
      refine XS.aloadN X11.here hx rfl (hb hby own_dpxN_19) rfl rfl ?_
      show Steps p.tables e below (T11.setTop (mkF m 20 #[.val (.ref a1), .val .null, .val (.ref x1), .val .null, .val .null, .val .null] [(.ref a1)])) _
      refine XS.aload X11.here hx rfl (hb hby own_dpxN_20) rfl rfl ?_
      exact kt)
  obtain ⟨T14, h14, X14, e14, W14, st14⟩ := putF X11 hx hZ hown (host := "") (Or.inl (hw _ (List.mem_of_getElem? (i := 44) rfl))) Via.refl e11 (((F_issueTypeVariants.other W5 (Or.inr (slot_ne (Or.inr (hw _ (List.mem_of_getElem? (i := 45) rfl))) (Or.inr (hw _ (List.mem_of_getElem? (i := 39) rfl))) (by decide) (t := (.object "java/util/Map")) (t' := (.object "java/lang/String")) (by decide) (by decide)))).other W8 (Or.inr (slot_ne (Or.inr (hw _ (List.mem_of_getElem? (i := 45) rfl))) (Or.inr (hw _ (List.mem_of_getElem? (i := 41) rfl))) (by decide) (t := (.object "java/util/Map")) (t' := (.object "java/util/List")) (by decide) (by decide)))).other W11 (Or.inr (slot_ne (Or.inr (hw _ (List.mem_of_getElem? (i := 45) rfl))) (Or.inr (hw _ (List.mem_of_getElem? (i := 43) rfl))) (by decide) (t := (.object "java/util/Map")) (t' := (.object "java/util/Set")) (by decide) (by decide)))) (((E_a1.wr W5).wr W8).wr W11) (Or.inr ⟨(hw _ (List.mem_of_getElem? (i := 45) rfl)), rfl, hnm⟩) (hw _ (List.mem_of_getElem? (i := 27) rfl)) (ty := (.object "java/util/Map")) (by decide) rfl rfl (g := (mkF m 22 #[.val (.ref a1), .val .null, .val (.ref x1), .val .null, .val .null, .val .null] [.null, (.ref a1)])) rfl rfl (hb hby own_dpxN_22)
  have Fw14 := (((F_issueTypeVariants.other W5 (Or.inr (slot_ne (Or.inr (hw _ (List.mem_of_getElem? (i := 45) rfl))) (Or.inr (hw _ (List.mem_of_getElem? (i := 39) rfl))) (by decide) (t := (.object "java/util/Map")) (t' := (.object "java/lang/String")) (by decide) (by decide)))).other W8 (Or.inr (slot_ne (Or.inr (hw _ (List.mem_of_getElem? (i := 45) rfl))) (Or.inr (hw _ (List.mem_of_getElem? (i := 41) rfl))) (by decide) (t := (.object "java/util/Map")) (t' := (.object "java/util/List")) (by decide) (by decide)))).other W11 (Or.inr (slot_ne (Or.inr (hw _ (List.mem_of_getElem? (i := 45) rfl))) (Or.inr (hw _ (List.mem_of_getElem? (i := 43) rfl))) (by decide) (t := (.object "java/util/Map")) (t' := (.object "java/util/Set")) (by decide) (by decide)))).same W14
  have K14 : Keep h0 h14 [a1] := K11.wr W14 (Or.inl (List.mem_of_getElem? (i := 0) rfl))
  have N14 := Fr.snoc X14 N11 g_a1
  have pre15 : Goes p e below s₁ (entryFrame m #[(.ref a1), .null, (.ref x1), .null, .null, .null] 6) T14 (mkF m 25 #[.val (.ref a1), .val .null, .val (.ref x1), .val .null, .val .null, .val .null] []) := fun t kt => pre13 t (st14 t kt)
  have pre16 : Goes p e below s₁ (entryFrame m #[(.ref a1), .null, (.ref x1), .null, .null, .null] 6) T14 (mkF m 28 #[.val (.ref a1), .val .null, .val (.ref x1), .val .null, .val .null, .val .null] [.null, (.ref a1)]) := fun t kt => pre15 t (by
      show Steps p.tables e below (T14.setTop (mkF m 25 #[.val (.ref a1), .val .null, .val (.ref x1), .val .null, .val .null, .val .null] [])) _
      refine XS.aloadN X14.here hx rfl (hb hby own_dpxN_25) rfl rfl ?_
      show Steps p.tables e below (T14.setTop (mkF m 26 #[.val (.ref a1), .val .null, .val (.ref x1), .val .null, .val .null, .val .null] [(.ref a1)])) _
      refine XS.aload X14.here hx rfl (hb hby own_dpxN_26) rfl rfl ?_
      exact kt)
  obtain ⟨T17, h17, X17, e17, W17, st17⟩ := putF X14 hx hZ hown (host := "") (Or.inl (hw _ (List.mem_of_getElem? (i := 46) rfl))) Via.refl e14 ((((F_codingSystemVariants.other W5 (Or.inr (slot_ne (Or.inr (hw _ (List.mem_of_getElem? (i := 47) rfl))) (Or.inr (hw _ (List.mem_of_getElem? (i := 39) rfl))) (by decide) (t := (.object "java/util/Set")) (t' := (.object "java/lang/String")) (by decide) (by decide)))).other W8 (Or.inr (slot_ne (Or.inr (hw _ (List.mem_of_getElem? (i := 47) rfl))) (Or.inr (hw _ (List.mem_of_getElem? (i := 41) rfl))) (by decide) (t := (.object "java/util/Set")) (t' := (.object "java/util/List")) (by decide) (by decide)))).other W11 (Or.inr (slot_ne (Or.inr (hw _ (List.mem_of_getElem? (i := 47) rfl))) (Or.inr (hw _ (List.mem_of_getElem? (i := 43) rfl))) (by decide) (t := (.object "java/util/Set")) (t' := (.object "java/util/Set")) (by decide) (by decide)))).other W14 (Or.inr (slot_ne (Or.inr (hw _ (List.mem_of_getElem? (i := 47) rfl))) (Or.inr (hw _ (List.mem_of_getElem? (i := 45) rfl))) (by decide) (t := (.object "java/util/Set")) (t' := (.object "java/util/Map")) (by decide) (by decide)))) ((((E_a1.wr W5).wr W8).wr W11).wr W14) (Or.inr ⟨(hw _ (List.mem_of_getElem? (i := 47) rfl)), rfl, hnm⟩) (hw _ (List.mem_of_getElem? (i := 27) rfl)) (ty := (.object "java/util/Set")) (by decide) rfl rfl (g := (mkF m 28 #[.val (.ref a1), .val .null, .val (.ref x1), .val .null, .val .null, .val .null] [.null, (.ref a1)])) rfl rfl (hb hby own_dpxN_28)
  have Fw17 := ((((F_codingSystemVariants.other W5 (Or.inr (slot_ne (Or.inr (hw _ (List.mem_of_getElem? (i := 47) rfl))) (Or.inr (hw _ (List.mem_of_getElem? (i := 39) rfl))) (by decide) (t := (.object "java/util/Set")) (t' := (.object "java/lang/String")) (by decide) (by decide)))).other W8 (Or.inr (slot_ne (Or.inr (hw _ (List.mem_of_getElem? (i := 47) rfl))) (Or.inr (hw _ (List.mem_of_getElem? (i := 41) rfl))) (by decide) (t := (.object "java/util/Set")) (t' := (.object "java/util/List")) (by decide) (by decide)))).other W11 (Or.inr (slot_ne (Or.inr (hw _ (List.mem_of_getElem? (i := 47) rfl))) (Or.inr (hw _ (List.mem_of_getElem? (i := 43) rfl))) (by decide) (t := (.object "java/util/Set")) (t' := (.object "java/util/Set")) (by decide) (by decide)))).other W14 (Or.inr (slot_ne (Or.inr (hw _ (List.mem_of_getElem? (i := 47) rfl))) (Or.inr (hw _ (List.mem_of_getElem? (i := 45) rfl))) (by decide) (t := (.object "java/util/Set")) (t' := (.object "java/util/Map")) (by decide) (by decide)))).same W17
  have K17 : Keep h0 h17 [a1] := K14.wr W17 (Or.inl (List.mem_of_getElem? (i := 0) rfl))
  have N17 := Fr.snoc X17 N14 g_a1
  have pre18 : Goes p e below s₁ (entryFrame m #[(.ref a1), .null, (.ref x1), .null, .null, .null] 6) T17 (mkF m 31 #[.val (.ref a1), .val .null, .val (.ref x1), .val .null, .val .null, .val .null] []) := fun t kt => pre16 t (st17 t kt)
  obtain ⟨fs, hr, hrun, hended, hW, hsame⟩ := X17.leave (v := none) (fun _ => rfl)
  refine ⟨_, _, pre18 _ ?_, hrun, hended, _, _, rfl, ?_, ⟨_, rfl⟩, hW, hsame.mono (by decide) (by decide)⟩
  · show Steps p.tables e below (T17.setTop (mkF m 31 #[.val (.ref a1), .val .null, .val (.ref x1), .val .null, .val .null, .val .null] [])) _
    exact X17.returnOut hx Bd.returns (hb hby own_dpxN_31) hr
  · show Q_own_pxN Z a1 x1 h0 n0 _ T17.heap _
    rw [e17]
    exact ⟨rfl, N17, K17, (((((E_a1.wr W5).wr W8).wr W11).wr W14).wr W17), ((((Fw5.other W8 (Or.inr (slot_ne (Or.inr (hw _ (List.mem_of_getElem? (i := 39) rfl))) (Or.inr (hw _ (List.mem_of_getElem? (i := 41) rfl))) (by decide) (t := (.object "java/lang/String")) (t' := (.object "java/util/List")) (by decide) (by decide)))).other W11 (Or.inr (slot_ne (Or.inr (hw _ (List.mem_of_getElem? (i := 39) rfl))) (Or.inr (hw _ (List.mem_of_getElem? (i := 43) rfl))) (by decide) (t := (.object "java/lang/String")) (t' := (.object "java/util/Set")) (by decide) (by decide)))).other W14 (Or.inr (slot_ne (Or.inr (hw _ (List.mem_of_getElem? (i := 39) rfl))) (Or.inr (hw _ (List.mem_of_getElem? (i := 45) rfl))) (by decide) (t := (.object "java/lang/String")) (t' := (.object "java/util/Map")) (by decide) (by decide)))).other W17 (Or.inr (slot_ne (Or.inr (hw _ (List.mem_of_getElem? (i := 39) rfl))) (Or.inr (hw _ (List.mem_of_getElem? (i := 47) rfl))) (by decide) (t := (.object "java/lang/String")) (t' := (.object "java/util/Set")) (by decide) (by decide))))⟩
theorem own_dpxR_0 : decode prog_7_method_1_code 0 = .ok (.aload_n 0, 1) := by decide +kernel
theorem own_dpxR_1 : decode prog_7_method_1_code 1 = .ok (.invokespecial 1, 3) := by decide +kernel
theorem own_dpxR_4 : decode prog_7_method_1_code 4 = .ok (.aload_n 0, 1) := by decide +kernel
theorem own_dpxR_5 : decode prog_7_method_1_code 5 = .ok (.aload_n 1, 1) := by decide +kernel
theorem own_dpxR_6 : decode prog_7_method_1_code 6 = .ok (.putfield 7, 3) := by decide +kernel
theorem own_dpxR_9 : decode prog_7_method_1_code 9 = .ok (.aload_n 0, 1) := by decide +kernel
theorem own_dpxR_10 : decode prog_7_method_1_code 10 = .ok (.aload_n 2, 1) := by decide +kernel
theorem own_dpxR_11 : decode prog_7_method_1_code 11 = .ok (.putfield 13, 3) := by decide +kernel
theorem own_dpxR_14 : decode prog_7_method_1_code 14 = .ok (.aload_n 0, 1) := by decide +kernel
theorem own_dpxR_15 : decode prog_7_method_1_code 15 = .ok (.aload_n 3, 1) := by decide +kernel
theorem own_dpxR_16 : decode prog_7_method_1_code 16 = .ok (.putfield 17, 3) := by decide +kernel
theorem own_dpxR_19 : decode prog_7_method_1_code 19 = .ok (.aload_n 0, 1) := by decide +kernel
theorem own_dpxR_20 : decode prog_7_method_1_code 20 = .ok (.aload 4, 2) := by decide +kernel
theorem own_dpxR_22 : decode prog_7_method_1_code 22 = .ok (.putfield 21, 3) := by decide +kernel
theorem own_dpxR_25 : decode prog_7_method_1_code 25 = .ok (.aload_n 0, 1) := by decide +kernel
theorem own_dpxR_26 : decode prog_7_method_1_code 26 = .ok (.aload 5, 2) := by decide +kernel
theorem own_dpxR_28 : decode prog_7_method_1_code 28 = .ok (.putfield 25, 3) := by decide +kernel
theorem own_dpxR_31 : decode prog_7_method_1_code 31 = .ok (.return_, 1) := by decide +kernel
theorem own_pn_own_pxR : plainName "com/example/outcomist/outcomist/Catalogue$Proxy" = true := by first | (simp [plainName, overriddenIn]; done) | decide +kernel
theorem own_ef_own_pxR (m : MethodId) (x0 : Addr) (x1 : Addr) (x2 : Addr) : entryFrame m #[(.ref x0), (.ref x1), (.ref x2), .null, .null, .null] 6 = mkF m 0 #[.val (.ref x0), .val (.ref x1), .val (.ref x2), .val .null, .val .null, .val .null] [] := by first | (simp [entryFrame, mkF, argsToLocals, Value.category]; done) | rfl
def Q_own_pxR (Z : State) (a1 : Addr) (x0 : Addr) (x1 : Addr) (h0 : Heap) (n0 : Nat) (v : Option Value) (h : Heap) (L : List Loc) : Prop := v = none ∧ Fr n0 L ∧ Keep h0 h [a1] ∧ Exa Z h a1 "com/example/outcomist/outcomist/Catalogue$Proxy" ∧ Fld Z h a1 "com/example/outcomist/outcomist/Catalogue$Proxy" "codingSystem" "Ljava/lang/String;" (.ref x0)
set_option maxRecDepth 65536 in
set_option maxHeartbeats 40000000 in
theorem own_pxR (l : Launch) (Z : State) (a0 : Array Value) (hw : ∀ d ∈ tables_1, d.before a0 Z = true) (ws : List Jvm.Cond) (a1 : Addr) (x0 : Addr) (x1 : Addr) (h0 : Heap) (n0 : Nat) (Z0 : n0 ≤ h0.size) (E_a1 : Exa Z h0 a1 "com/example/outcomist/outcomist/Catalogue$Proxy") (F_codingSystem : Fld Z h0 a1 "com/example/outcomist/outcomist/Catalogue$Proxy" "codingSystem" "Ljava/lang/String;" .null) (F_outcomes : Fld Z h0 a1 "com/example/outcomist/outcomist/Catalogue$Proxy" "outcomes" "Ljava/util/List;" .null) (F_severityVariants : Fld Z h0 a1 "com/example/outcomist/outcomist/Catalogue$Proxy" "severityVariants" "Ljava/util/Set;" .null) (F_issueTypeVariants : Fld Z h0 a1 "com/example/outcomist/outcomist/Catalogue$Proxy" "issueTypeVariants" "Ljava/util/Map;" .null) (F_codingSystemVariants : Fld Z h0 a1 "com/example/outcomist/outcomist/Catalogue$Proxy" "codingSystemVariants" "Ljava/util/Set;" .null) (g_a1 : n0 ≤ a1) :
    MetFree l (⟨"com/example/outcomist/outcomist/Catalogue$Proxy", "<init>", "(Ljava/lang/String;Ljava/util/List;Ljava/util/Set;Ljava/util/Map;Ljava/util/Set;)V"⟩ : MethodName) (head1 (Jvm.Cond.code (⟨"com/example/outcomist/outcomist/Catalogue$Proxy", "<init>", "(Ljava/lang/String;Ljava/util/List;Ljava/util/Set;Ljava/util/Map;Ljava/util/Set;)V"⟩ : MethodName) prog_7_method_1_code 6 none :: ws) ({ frames := 2, cells := 0, slots := 0, locals := 24 } : Room)) (fun a U => a = #[(.ref a1), (.ref x0), (.ref x1), .null, .null, .null] ∧ Z.Warmed39 U.vm ∧ U.heap = h0) (fun _ _ _ _ _ => True) (fun _ U o U' => ∃ v L, o = .returned v ∧ Q_own_pxR Z a1 x0 x1 h0 n0 v U'.heap L ∧ FrameEnd U o U' L ({ frames := 2, cells := 0, slots := 0, locals := 24 } : Room).cells ({ frames := 2, cells := 0, slots := 0, locals := 24 } : Room).slots) := by
  refine MetFree.of_bodySF (plainFor_of_name own_pn_own_pxR) hisR ?_
  intro p e s m args below meth c s₁ Bd hml0 hP hK
  obtain ⟨rfl, hZ, hh⟩ := hP
  have hx := Bd.exec
  have hby := Bd.bytes
  have hml : c.maxLocals = 6 := hml0
  have hown : s.vm.findClass "com/example/outcomist/outcomist/Catalogue$Proxy" = some m.cls := findClass_of_methodNamed Bd.named
  have hnm := (name_of_methodNamed Bd.named Bd.method).1
  have X0 : Stand p l e ({ frames := 2, cells := 0, slots := 0, locals := 24 } : Room) s m #[(.ref a1), (.ref x0), (.ref x1), .null, .null, .null] below meth c s₁ [] 0 0 := Stand.of_body Bd
  have e0 : s₁.heap = h0 := by rw [← hh, Bd.state]; rfl
  have N0 := Fr.nil n0
  have pre0 : Goes p e below s₁ (entryFrame m #[(.ref a1), (.ref x0), (.ref x1), .null, .null, .null] 6) s₁ (mkF m 0 #[.val (.ref a1), .val (.ref x0), .val (.ref x1), .val .null, .val .null, .val .null] []) := fun t k => castTop (own_ef_own_pxR m a1 x0 x1) k
  have pre1 : Goes p e below s₁ (entryFrame m #[(.ref a1), (.ref x0), (.ref x1), .null, .null, .null] 6) s₁ (mkF m 1 #[.val (.ref a1), .val (.ref x0), .val (.ref x1), .val .null, .val .null, .val .null] [(.ref a1)]) := fun t kt => pre0 t (by
      show Steps p.tables e below (s₁.setTop (mkF m 0 #[.val (.ref a1), .val (.ref x0), .val (.ref x1), .val .null, .val .null, .val .null] [])) _
      refine XS.aloadN X0.here hx rfl (hb hby own_dpxR_0) rfl rfl ?_
      exact kt)
  obtain ⟨_, _, ⟨T2, L2, k2, n2⟩, -, X2, ⟨Lc2, hQ2, l2, y2, z2⟩, st2⟩ := X0.specialBack hx (y := (⟨"java/lang/Record", "<init>", "()V"⟩ : MethodName)) rfl hown (mvT hZ (hw _ (List.mem_of_getElem? (i := 32) rfl))) (mvT hZ (hw _ (List.mem_of_getElem? (i := 33) rfl))) (mvT hZ (hw _ (List.mem_of_getElem? (i := 36) rfl))) (by decide) (backOf (W := 0) (own_rec l Z a0 hw [] a1 h0 n0 Z0 ) hZ (hw _ (List.mem_of_getElem? (i := 36) rfl)) (hw _ (List.mem_of_getElem? (i := 35) rfl)) (by decide) (by decide)) (g := (mkF m 1 #[.val (.ref a1), .val (.ref x0), .val (.ref x1), .val .null, .val .null, .val .null] [(.ref a1)])) rfl (by rw [hml]; rfl) (Steps.refl _) (a := a1) (argsL := []) (rest := []) (lenOf own_pd4 rfl) rfl (by show 2 * 0 + _ ≤ _; exact Nat.le_of_eq rfl) (hb hby own_dpxR_1) (fun _ _ => ⟨rfl, e0, (by decide : 0 + 0 ≤ _), (by decide : 0 + 0 ≤ _)⟩)
  dsimp only [Pt.U, Pt.locs, Pt.cells, Pt.slots] at X2 l2 y2 z2 st2 hQ2
  subst l2 y2 z2
  obtain ⟨rfl, N2q, e2⟩ := hQ2
  have N2 := Fr.app N0 N2q
  have pre3 : Goes p e below s₁ (entryFrame m #[(.ref a1), (.ref x0), (.ref x1), .null, .null, .null] 6) T2 (mkF m 4 #[.val (.ref a1), .val (.ref x0), .val (.ref x1), .val .null, .val .null, .val .null] []) := fun t kt => pre1 t (st2.trans kt)
  have pre4 : Goes p e below s₁ (entryFrame m #[(.ref a1), (.ref x0), (.ref x1), .null, .null, .null] 6) T2 (mkF m 6 #[.val (.ref a1), .val (.ref x0), .val (.ref x1), .val .null, .val .null, .val .null] [(.ref x0), (.ref a1)]) := fun t kt => pre3 t (by
      show Steps p.tables e below (T2.setTop (mkF m 4 #[.val (.ref a1), .val (.ref x0), .val (.ref x1), .val .null, .val .null, .val .null] [])) _
      refine XS.aloadN X2.here hx rfl (hb hby own_dpxR_4) rfl rfl ?_
      show Steps p.tables e below (T2.setTop (mkF m 5 #[.val (.ref a1), .val (.ref x0), .val (.ref x1), .val .null, .val .null, .val .null] [(.ref a1)])) _
      refine XS.aloadN X2.here hx rfl (hb hby own_dpxR_5) rfl rfl ?_
      exact kt)
  obtain ⟨T5, h5, X5, e5, W5, st5⟩ := putF X2 hx hZ hown (host := "") (Or.inl (hw _ (List.mem_of_getElem? (i := 38) rfl))) Via.refl e2 F_codingSystem E_a1 (Or.inr ⟨(hw _ (List.mem_of_getElem? (i := 39) rfl)), rfl, hnm⟩) (hw _ (List.mem_of_getElem? (i := 27) rfl)) (ty := (.object "java/lang/String")) (by decide) rfl rfl (g := (mkF m 6 #[.val (.ref a1), .val (.ref x0), .val (.ref x1), .val .null, .val .null, .val .null] [(.ref x0), (.ref a1)])) rfl rfl (hb hby own_dpxR_6)
  have Fw5 := F_codingSystem.same W5
  have K5 : Keep h0 h5 [a1] := (Keep.refl h0 [a1]).wr W5 (Or.inl (List.mem_of_getElem? (i := 0) rfl))
  have N5 := Fr.snoc X5 N2 g_a1
  have pre6 : Goes p e below s₁ (entryFrame m #[(.ref a1), (.ref x0), (.ref x1), .null, .null, .null] 6) T5 (mkF m 9 #[.val (.ref a1), .val (.ref x0), .val (.ref x1), .val .null, .val .null, .val .null] []) := fun t kt => pre4 t (st5 t kt)
  have pre7 : Goes p e below s₁ (entryFrame m #[(.ref a1), (.ref x0), (.ref x1), .null, .null, .null] 6) T5 (mkF m 11 #[.val (.ref a1), .val (.ref x0), .val (.ref x1), .val .null, .val .null, .val .null] [(.ref x1), (.ref a1)]) := fun t kt => pre6 t (by
      show Steps p.tables e below (T5.setTop (mkF m 9 #[.val (.ref a1), .val (.ref x0), .val (.ref x1), .val .null, .val .null, .val .null] [])) _
      refine XS.aloadN X5.here hx rfl (hb hby own_dpxR_9) rfl rfl ?_
      show Steps p.tables e below (T5.setTop (mkF m 10 #[.val (.ref a1), .val (.ref x0), .val (.ref x1), .val .null, .val .null, .val .null] [(.ref a1)])) _
      refine XS.aloadN X5.here hx rfl (hb hby own_dpxR_10) rfl rfl ?_
      exact kt)
  obtain ⟨T8, h8, X8, e8, W8, st8⟩ := putF X5 hx hZ hown (host := "") (Or.inl (hw _ (List.mem_of_getElem? (i := 40) rfl))) Via.refl e5 (F_outcomes.other W5 (Or.inr (slot_ne (Or.inr (hw _ (List.mem_of_getElem? (i := 41) rfl))) (Or.inr (hw _ (List.mem_of_getElem? (i := 39) rfl))) (by decide) (t := (.object "java/util/List")) (t' := (.object "java/lang/String")) (by decide) (by decide)))) (E_a1.wr W5) (Or.inr ⟨(hw _ (List.mem_of_getElem? (i := 41) rfl)), rfl, hnm⟩) (hw _ (List.mem_of_getElem? (i := 27) rfl)) (ty := (.object "java/util/List")) (by decide) rfl rfl (g := (mkF m 11 #[.val (.ref a1), .val (.ref x0), .val (.ref x1), .val .null, .val .null, .val .null] [(.ref x1), (.ref a1)])) rfl rfl (hb hby own_dpxR_11)
  have Fw8 := (F_outcomes.other W5 (Or.inr (slot_ne (Or.inr (hw _ (List.mem_of_getElem? (i := 41) rfl))) (Or.inr (hw _ (List.mem_of_getElem? (i := 39) rfl))) (by decide) (t := (.object "java/util/List")) (t' := (.object "java/lang/String")) (by decide) (by decide)))).same W8
  have K8 : Keep h0 h8 [a1] := K5.wr W8 (Or.inl (List.mem_of_getElem? (i := 0) rfl))
  have N8 := Fr.snoc X8 N5 g_a1
  have pre9 : Goes p e below s₁ (entryFrame m #[(.ref a1), (.ref x0), (.ref x1), .null, .null, .null] 6) T8 (mkF m 14 #[.val (.ref a1), .val (.ref x0), .val (.ref x1), .val .null, .val .null, .val .null] []) := fun t kt => pre7 t (st8 t kt)
  have pre10 : Goes p e below s₁ (entryFrame m #[(.ref a1), (.ref x0), (.ref x1), .null, .null, .null] 6) T8 (mkF m 16 #[.val (.ref a1), .val (.ref x0), .val (.ref x1), .val .null, .val .null, .val .null] [.null, (.ref a1)]) := fun t kt => pre9 t (by
      show Steps p.tables e below (T8.setTop (mkF m 14 #[.val (.ref a1), .val (.ref x0), .val (.ref x1), .val .null, .val .null, .val .null] [])) _
      refine XS.aloadN X8.here hx rfl (hb hby own_dpxR_14) rfl rfl ?_
      show Steps p.tables e below (T8.setTop (mkF m 15 #[.val (.ref a1), .val (.ref x0), .val (.ref x1), .val .null, .val .null, .val .null] [(.ref a1)])) _
      refine XS.aloadN X8.here hx rfl (hb hby own_dpxR_15) rfl rfl ?_
      exact kt)
  obtain ⟨T11, h11, X11, e11, W11, st11⟩ := putF X8 hx hZ hown (host := "") (Or.inl (hw _ (List.mem_of_getElem? (i := 42) rfl))) Via.refl e8 ((F_severityVariants.other W5 (Or.inr (slot_ne (Or.inr (hw _ (List.mem_of_getElem? (i := 43) rfl))) (Or.inr (hw _ (List.mem_of_getElem? (i := 39) rfl))) (by decide) (t := (.object "java/util/Set")) (t' := (.object "java/lang/String")) (by decide) (by decide)))).other W8 (Or.inr (slot_ne (Or.inr (hw _ (List.mem_of_getElem? (i := 43) rfl))) (Or.inr (hw _ (List.mem_of_getElem? (i := 41) rfl))) (by decide) (t := (.object "java/util/Set")) (t' := (.object "java/util/List")) (by decide) (by decide)))) ((E_a1.wr W5).wr W8) (Or.inr ⟨(hw _ (List.mem_of_getElem? (i := 43) rfl)), rfl, hnm⟩) (hw _ (List.mem_of_getElem? (i := 27) rfl)) (ty := (.object "java/util/Set")) (by decide) rfl rfl (g := (mkF m 16 #[.val (.ref a1), .val (.ref x0), .val (.ref x1), .val .null, .val .null, .val .null] [.null, (.ref a1)])) rfl rfl (hb hby own_dpxR_16)
  have Fw11 := ((F_severityVariants.other W5 (Or.inr (slot_ne (Or.inr (hw _ (List.mem_of_getElem? (i := 43) rfl))) (Or.inr (hw _ (List.mem_of_getElem? (i := 39) rfl))) (by decide) (t := (.object "java/util/Set")) (t' := (.object "java/lang/String")) (by decide) (by decide)))).other W8 (Or.inr (slot_ne (Or.inr (hw _ (List.mem_of_getElem? (i := 43) rfl))) (Or.inr (hw _ (List.mem_of_getElem? (i := 41) rfl))) (by decide) (t := (.object "java/util/Set")) (t' := (.object "java/util/List")) (by decide) (by decide)))).same W11
  have K11 : Keep h0 h11 [a1] := K8.wr W11 (Or.inl (List.mem_of_getElem? (i := 0) rfl))
  have N11 := Fr.snoc X11 N8 g_a1
  have pre12 : Goes p e below s₁ (entryFrame m #[(.ref a1), (.ref x0), (.ref x1), .null, .null, .null] 6) T11 (mkF m 19 #[.val (.ref a1), .val (.ref x0), .val (.ref x1), .val .null, .val .null, .val .null] []) := fun t kt => pre10 t (st11 t kt)
  have pre13 : Goes p e below s₁ (entryFrame m #[(.ref a1), (.ref x0), (.ref x1), .null, .null, .null] 6) T11 (mkF m 22 #[.val (.ref a1), .val (.ref x0), .val (.ref x1), .val .null, .val .null, .val .null] [.null, (.ref a1)]) := fun t kt => pre12 t (by
      show Steps p.tables e below (T11.setTop (mkF m 19 #[.val (.ref a1), .val (.ref x0), .val (.ref x1), .val .null, .val .null, .val .null] [])) _
      refine XS.aloadN X11.here hx rfl (hb hby own_dpxR_19) rfl rfl ?_
      show Steps p.tables e below (T11.setTop (mkF m 20 #[.val (.ref a1), .val (.ref x0), .val (.ref x1), .val .null, .val .null, .val .null] [(.ref a1)])) _
      refine XS.aload X11.here hx rfl (hb hby own_dpxR_20) rfl rfl ?_
      exact kt)
  obtain ⟨T14, h14, X14, e14, W14, st14⟩ := putF X11 hx hZ hown (host := "") (Or.inl (hw _ (List.mem_of_getElem? (i := 44) rfl))) Via.refl e11 (((F_issueTypeVariants.other W5 (Or.inr (slot_ne (Or.inr (hw _ (List.mem_of_getElem? (i := 45) rfl))) (Or.inr (hw _ (List.mem_of_getElem? (i := 39) rfl))) (by decide) (t := (.object "java/util/Map")) (t' := (.object "java/lang/String")) (by decide) (by decide)))).other W8 (Or.inr (slot_ne (Or.inr (hw _ (List.mem_of_getElem? (i := 45) rfl))) (Or.inr (hw _ (List.mem_of_getElem? (i := 41) rfl))) (by decide) (t := (.object "java/util/Map")) (t' := (.object "java/util/List")) (by decide) (by decide)))).other W11 (Or.inr (slot_ne (Or.inr (hw _ (List.mem_of_getElem? (i := 45) rfl))) (Or.inr (hw _ (List.mem_of_getElem? (i := 43) rfl))) (by decide) (t := (.object "java/util/Map")) (t' := (.object "java/util/Set")) (by decide) (by decide)))) (((E_a1.wr W5).wr W8).wr W11) (Or.inr ⟨(hw _ (List.mem_of_getElem? (i := 45) rfl)), rfl, hnm⟩) (hw _ (List.mem_of_getElem? (i := 27) rfl)) (ty := (.object "java/util/Map")) (by decide) rfl rfl (g := (mkF m 22 #[.val (.ref a1), .val (.ref x0), .val (.ref x1), .val .null, .val .null, .val .null] [.null, (.ref a1)])) rfl rfl (hb hby own_dpxR_22)
  have Fw14 := (((F_issueTypeVariants.other W5 (Or.inr (slot_ne (Or.inr (hw _ (List.mem_of_getElem? (i := 45) rfl))) (Or.inr (hw _ (List.mem_of_getElem? (i := 39) rfl))) (by decide) (t := (.object "java/util/Map")) (t' := (.object "java/lang/String")) (by decide) (by decide)))).other W8 (Or.inr (slot_ne (Or.inr (hw _ (List.mem_of_getElem? (i := 45) rfl))) (Or.inr (hw _ (List.mem_of_getElem? (i := 41) rfl))) (by decide) (t := (.object "java/util/Map")) (t' := (.object "java/util/List")) (by decide) (by decide)))).other W11 (Or.inr (slot_ne (Or.inr (hw _ (List.mem_of_getElem? (i := 45) rfl))) (Or.inr (hw _ (List.mem_of_getElem? (i := 43) rfl))) (by decide) (t := (.object "java/util/Map")) (t' := (.object "java/util/Set")) (by decide) (by decide)))).same W14
  have K14 : Keep h0 h14 [a1] := K11.wr W14 (Or.inl (List.mem_of_getElem? (i := 0) rfl))
  have N14 := Fr.snoc X14 N11 g_a1
  have pre15 : Goes p e below s₁ (entryFrame m #[(.ref a1), (.ref x0), (.ref x1), .null, .null, .null] 6) T14 (mkF m 25 #[.val (.ref a1), .val (.ref x0), .val (.ref x1), .val .null, .val .null, .val .null] []) := fun t kt => pre13 t (st14 t kt)
  have pre16 : Goes p e below s₁ (entryFrame m #[(.ref a1), (.ref x0), (.ref x1), .null, .null, .null] 6) T14 (mkF m 28 #[.val (.ref a1), .val (.ref x0), .val (.ref x1), .val .null, .val .null, .val .null] [.null, (.ref a1)]) := fun t kt => pre15 t (by
      show Steps p.tables e below (T14.setTop (mkF m 25 #[.val (.ref a1), .val (.ref x0), .val (.ref x1), .val .null, .val .null, .val .null] [])) _
      refine XS.aloadN X14.here hx rfl (hb hby own_dpxR_25) rfl rfl ?_
      show Steps p.tables e below (T14.setTop (mkF m 26 #[.val (.ref a1), .val (.ref x0), .val (.ref x1), .val .null, .val .null, .val .null] [(.ref a1)])) _
      refine XS.aload X14.here hx rfl (hb hby own_dpxR_26) rfl rfl ?_
      exact kt)
  obtain ⟨T17, h17, X17, e17, W17, st17⟩ := putF X14 hx hZ hown (host := "") (Or.inl (hw _ (List.mem_of_getElem? (i := 46) rfl))) Via.refl e14 ((((F_codingSystemVariants.other W5 (Or.inr (slot_ne (Or.inr (hw _ (List.mem_of_getElem? (i := 47) rfl))) (Or.inr (hw _ (List.mem_of_getElem? (i := 39) rfl))) (by decide) (t := (.object "java/util/Set")) (t' := (.object "java/lang/String")) (by decide) (by decide)))).other W8 (Or.inr (slot_ne (Or.inr (hw _ (List.mem_of_getElem? (i := 47) rfl))) (Or.inr (hw _ (List.mem_of_getElem? (i := 41) rfl))) (by decide) (t := (.object "java/util/Set")) (t' := (.object "java/util/List")) (by decide) (by decide)))).other W11 (Or.inr (slot_ne (Or.inr (hw _ (List.mem_of_getElem? (i := 47) rfl))) (Or.inr (hw _ (List.mem_of_getElem? (i := 43) rfl))) (by decide) (t := (.object "java/util/Set")) (t' := (.object "java/util/Set")) (by decide) (by decide)))).other W14 (Or.inr (slot_ne (Or.inr (hw _ (List.mem_of_getElem? (i := 47) rfl))) (Or.inr (hw _ (List.mem_of_getElem? (i := 45) rfl))) (by decide) (t := (.object "java/util/Set")) (t' := (.object "java/util/Map")) (by decide) (by decide)))) ((((E_a1.wr W5).wr W8).wr W11).wr W14) (Or.inr ⟨(hw _ (List.mem_of_getElem? (i := 47) rfl)), rfl, hnm⟩) (hw _ (List.mem_of_getElem? (i := 27) rfl)) (ty := (.object "java/util/Set")) (by decide) rfl rfl (g := (mkF m 28 #[.val (.ref a1), .val (.ref x0), .val (.ref x1), .val .null, .val .null, .val .null] [.null, (.ref a1)])) rfl rfl (hb hby own_dpxR_28)
  have Fw17 := ((((F_codingSystemVariants.other W5 (Or.inr (slot_ne (Or.inr (hw _ (List.mem_of_getElem? (i := 47) rfl))) (Or.inr (hw _ (List.mem_of_getElem? (i := 39) rfl))) (by decide) (t := (.object "java/util/Set")) (t' := (.object "java/lang/String")) (by decide) (by decide)))).other W8 (Or.inr (slot_ne (Or.inr (hw _ (List.mem_of_getElem? (i := 47) rfl))) (Or.inr (hw _ (List.mem_of_getElem? (i := 41) rfl))) (by decide) (t := (.object "java/util/Set")) (t' := (.object "java/util/List")) (by decide) (by decide)))).other W11 (Or.inr (slot_ne (Or.inr (hw _ (List.mem_of_getElem? (i := 47) rfl))) (Or.inr (hw _ (List.mem_of_getElem? (i := 43) rfl))) (by decide) (t := (.object "java/util/Set")) (t' := (.object "java/util/Set")) (by decide) (by decide)))).other W14 (Or.inr (slot_ne (Or.inr (hw _ (List.mem_of_getElem? (i := 47) rfl))) (Or.inr (hw _ (List.mem_of_getElem? (i := 45) rfl))) (by decide) (t := (.object "java/util/Set")) (t' := (.object "java/util/Map")) (by decide) (by decide)))).same W17
  have K17 : Keep h0 h17 [a1] := K14.wr W17 (Or.inl (List.mem_of_getElem? (i := 0) rfl))
  have N17 := Fr.snoc X17 N14 g_a1
  have pre18 : Goes p e below s₁ (entryFrame m #[(.ref a1), (.ref x0), (.ref x1), .null, .null, .null] 6) T17 (mkF m 31 #[.val (.ref a1), .val (.ref x0), .val (.ref x1), .val .null, .val .null, .val .null] []) := fun t kt => pre16 t (st17 t kt)
  obtain ⟨fs, hr, hrun, hended, hW, hsame⟩ := X17.leave (v := none) (fun _ => rfl)
  refine ⟨_, _, pre18 _ ?_, hrun, hended, _, _, rfl, ?_, ⟨_, rfl⟩, hW, hsame.mono (by decide) (by decide)⟩
  · show Steps p.tables e below (T17.setTop (mkF m 31 #[.val (.ref a1), .val (.ref x0), .val (.ref x1), .val .null, .val .null, .val .null] [])) _
    exact X17.returnOut hx Bd.returns (hb hby own_dpxR_31) hr
  · show Q_own_pxR Z a1 x0 x1 h0 n0 _ T17.heap _
    rw [e17]
    exact ⟨rfl, N17, K17, (((((E_a1.wr W5).wr W8).wr W11).wr W14).wr W17), ((((Fw5.other W8 (Or.inr (slot_ne (Or.inr (hw _ (List.mem_of_getElem? (i := 39) rfl))) (Or.inr (hw _ (List.mem_of_getElem? (i := 41) rfl))) (by decide) (t := (.object "java/lang/String")) (t' := (.object "java/util/List")) (by decide) (by decide)))).other W11 (Or.inr (slot_ne (Or.inr (hw _ (List.mem_of_getElem? (i := 39) rfl))) (Or.inr (hw _ (List.mem_of_getElem? (i := 43) rfl))) (by decide) (t := (.object "java/lang/String")) (t' := (.object "java/util/Set")) (by decide) (by decide)))).other W14 (Or.inr (slot_ne (Or.inr (hw _ (List.mem_of_getElem? (i := 39) rfl))) (Or.inr (hw _ (List.mem_of_getElem? (i := 45) rfl))) (by decide) (t := (.object "java/lang/String")) (t' := (.object "java/util/Map")) (by decide) (by decide)))).other W17 (Or.inr (slot_ne (Or.inr (hw _ (List.mem_of_getElem? (i := 39) rfl))) (Or.inr (hw _ (List.mem_of_getElem? (i := 47) rfl))) (by decide) (t := (.object "java/lang/String")) (t' := (.object "java/util/Set")) (by decide) (by decide))))⟩
theorem own_dpxW_0 : decode prog_7_method_1_code 0 = .ok (.aload_n 0, 1) := by decide +kernel
theorem own_dpxW_1 : decode prog_7_method_1_code 1 = .ok (.invokespecial 1, 3) := by decide +kernel
theorem own_dpxW_4 : decode prog_7_method_1_code 4 = .ok (.aload_n 0, 1) := by decide +kernel
theorem own_dpxW_5 : decode prog_7_method_1_code 5 = .ok (.aload_n 1, 1) := by decide +kernel
theorem own_dpxW_6 : decode prog_7_method_1_code 6 = .ok (.putfield 7, 3) := by decide +kernel
theorem own_dpxW_9 : decode prog_7_method_1_code 9 = .ok (.aload_n 0, 1) := by decide +kernel
theorem own_dpxW_10 : decode prog_7_method_1_code 10 = .ok (.aload_n 2, 1) := by decide +kernel
theorem own_dpxW_11 : decode prog_7_method_1_code 11 = .ok (.putfield 13, 3) := by decide +kernel
theorem own_dpxW_14 : decode prog_7_method_1_code 14 = .ok (.aload_n 0, 1) := by decide +kernel
theorem own_dpxW_15 : decode prog_7_method_1_code 15 = .ok (.aload_n 3, 1) := by decide +kernel
theorem own_dpxW_16 : decode prog_7_method_1_code 16 = .ok (.putfield 17, 3) := by decide +kernel
theorem own_dpxW_19 : decode prog_7_method_1_code 19 = .ok (.aload_n 0, 1) := by decide +kernel
theorem own_dpxW_20 : decode prog_7_method_1_code 20 = .ok (.aload 4, 2) := by decide +kernel
theorem own_dpxW_22 : decode prog_7_method_1_code 22 = .ok (.putfield 21, 3) := by decide +kernel
theorem own_dpxW_25 : decode prog_7_method_1_code 25 = .ok (.aload_n 0, 1) := by decide +kernel
theorem own_dpxW_26 : decode prog_7_method_1_code 26 = .ok (.aload 5, 2) := by decide +kernel
theorem own_dpxW_28 : decode prog_7_method_1_code 28 = .ok (.putfield 25, 3) := by decide +kernel
theorem own_dpxW_31 : decode prog_7_method_1_code 31 = .ok (.return_, 1) := by decide +kernel
theorem own_pn_own_pxW : plainName "com/example/outcomist/outcomist/Catalogue$Proxy" = true := by first | (simp [plainName, overriddenIn]; done) | decide +kernel
theorem own_ef_own_pxW (m : MethodId) (x0 : Addr) (x2 : Addr) (x3 : Addr) (x4 : Addr) (x5 : Addr) : entryFrame m #[(.ref x0), .null, (.ref x2), (.ref x3), (.ref x4), (.ref x5)] 6 = mkF m 0 #[.val (.ref x0), .val .null, .val (.ref x2), .val (.ref x3), .val (.ref x4), .val (.ref x5)] [] := by first | (simp [entryFrame, mkF, argsToLocals, Value.category]; done) | rfl
def Q_own_pxW (Z : State) (a1 : Addr) (x1 : Addr) (x2 : Addr) (x3 : Addr) (x4 : Addr) (h0 : Heap) (n0 : Nat) (v : Option Value) (h : Heap) (L : List Loc) : Prop := v = none ∧ Fr n0 L ∧ Keep h0 h [a1] ∧ Exa Z h a1 "com/example/outcomist/outcomist/Catalogue$Proxy" ∧ Fld Z h a1 "com/example/outcomist/outcomist/Catalogue$Proxy" "codingSystem" "Ljava/lang/String;" .null
set_option maxRecDepth 65536 in
set_option maxHeartbeats 40000000 in
theorem own_pxW (l : Launch) (Z : State) (a0 : Array Value) (hw : ∀ d ∈ tables_1, d.before a0 Z = true) (ws : List Jvm.Cond) (a1 : Addr) (x1 : Addr) (x2 : Addr) (x3 : Addr) (x4 : Addr) (h0 : Heap) (n0 : Nat) (Z0 : n0 ≤ h0.size) (E_a1 : Exa Z h0 a1 "com/example/outcomist/outcomist/Catalogue$Proxy") (F_codingSystem : Fld Z h0 a1 "com/example/outcomist/outcomist/Catalogue$Proxy" "codingSystem" "Ljava/lang/String;" .null) (F_outcomes : Fld Z h0 a1 "com/example/outcomist/outcomist/Catalogue$Proxy" "outcomes" "Ljava/util/List;" .null) (F_severityVariants : Fld Z h0 a1 "com/example/outcomist/outcomist/Catalogue$Proxy" "severityVariants" "Ljava/util/Set;" .null) (F_issueTypeVariants : Fld Z h0 a1 "com/example/outcomist/outcomist/Catalogue$Proxy" "issueTypeVariants" "Ljava/util/Map;" .null) (F_codingSystemVariants : Fld Z h0 a1 "com/example/outcomist/outcomist/Catalogue$Proxy" "codingSystemVariants" "Ljava/util/Set;" .null) (g_a1 : n0 ≤ a1) :
    MetFree l (⟨"com/example/outcomist/outcomist/Catalogue$Proxy", "<init>", "(Ljava/lang/String;Ljava/util/List;Ljava/util/Set;Ljava/util/Map;Ljava/util/Set;)V"⟩ : MethodName) (head1 (Jvm.Cond.code (⟨"com/example/outcomist/outcomist/Catalogue$Proxy", "<init>", "(Ljava/lang/String;Ljava/util/List;Ljava/util/Set;Ljava/util/Map;Ljava/util/Set;)V"⟩ : MethodName) prog_7_method_1_code 6 none :: ws) ({ frames := 2, cells := 0, slots := 0, locals := 24 } : Room)) (fun a U => a = #[(.ref a1), .null, (.ref x1), (.ref x2), (.ref x3), (.ref x4)] ∧ Z.Warmed39 U.vm ∧ U.heap = h0) (fun _ _ _ _ _ => True) (fun _ U o U' => ∃ v L, o = .returned v ∧ Q_own_pxW Z a1 x1 x2 x3 x4 h0 n0 v U'.heap L ∧ FrameEnd U o U' L ({ frames := 2, cells := 0, slots := 0, locals := 24 } : Room).cells ({ frames := 2, cells := 0, slots := 0, locals := 24 } : Room).slots) := by
  refine MetFree.of_bodySF (plainFor_of_name own_pn_own_pxW) hisR ?_
  intro p e s m args below meth c s₁ Bd hml0 hP hK
  obtain ⟨rfl, hZ, hh⟩ := hP
  have hx := Bd.exec
  have hby := Bd.bytes
  have hml : c.maxLocals = 6 := hml0
  have hown : s.vm.findClass "com/example/outcomist/outcomist/Catalogue$Proxy" = some m.cls := findClass_of_methodNamed Bd.named
  have hnm := (name_of_methodNamed Bd.named Bd.method).1
  have X0 : Stand p l e ({ frames := 2, cells := 0, slots := 0, locals := 24 } : Room) s m #[(.ref a1), .null, (.ref x1), (.ref x2), (.ref x3), (.ref x4)] below meth c s₁ [] 0 0 := Stand.of_body Bd
  have e0 : s₁.heap = h0 := by rw [← hh, Bd.state]; rfl
  have N0 := Fr.nil n0
  have pre0 : Goes p e below s₁ (entryFrame m #[(.ref a1), .null, (.ref x1), (.ref x2), (.ref x3), (.ref x4)] 6) s₁ (mkF m 0 #[.val (.ref a1), .val .null, .val (.ref x1), .val (.ref x2), .val (.ref x3), .val (.ref x4)] []) := fun t k => castTop (own_ef_own_pxW m a1 x1 x2 x3 x4) k
  have pre1 : Goes p e below s₁ (entryFrame m #[(.ref a1), .null, (.ref x1), (.ref x2), (.ref x3), (.ref x4)] 6) s₁ (mkF m 1 #[.val (.ref a1), .val .null, .val (.ref x1), .val (.ref x2), .val (.ref x3), .val (.ref x4)] [(.ref a1)]) := fun t kt => pre0 t (by
      show Steps p.tables e below (s₁.setTop (mkF m 0 #[.val (.ref a1), .val .null, .val (.ref x1), .val (.ref x2), .val (.ref x3), .val (.ref x4)] [])) _
      refine XS.aloadN X0.here hx rfl (hb hby own_dpxW_0) rfl rfl ?_
      exact kt)
  obtain ⟨_, _, ⟨T2, L2, k2, n2⟩, -, X2, ⟨Lc2, hQ2, l2, y2, z2⟩, st2⟩ := X0.specialBack hx (y := (⟨"java/lang/Record", "<init>", "()V"⟩ : MethodName)) rfl hown (mvT hZ (hw _ (List.mem_of_getElem? (i := 32) rfl))) (mvT hZ (hw _ (List.mem_of_getElem? (i := 33) rfl))) (mvT hZ (hw _ (List.mem_of_getElem? (i := 36) rfl))) (by decide) (backOf (W := 0) (own_rec l Z a0 hw [] a1 h0 n0 Z0 ) hZ (hw _ (List.mem_of_getElem? (i := 36) rfl)) (hw _ (List.mem_of_getElem? (i := 35) rfl)) (by decide) (by decide)) (g := (mkF m 1 #[.val (.ref a1), .val .null, .val (.ref x1), .val (.ref x2), .val (.ref x3), .val (.ref x4)] [(.ref a1)])) rfl (by rw [hml]; rfl) (Steps.refl _) (a := a1) (argsL := []) (rest := []) (lenOf own_pd4 rfl) rfl (by show 2 * 0 + _ ≤ _; exact Nat.le_of_eq rfl) (hb hby own_dpxW_1) (fun _ _ => ⟨rfl, e0, (by decide : 0 + 0 ≤ _), (by decide : 0 + 0 ≤ _)⟩)
  dsimp only [Pt.U, Pt.locs, Pt.cells, Pt.slots] at X2 l2 y2 z2 st2 hQ2
  subst l2 y2 z2
  obtain ⟨rfl, N2q, e2⟩ := hQ2
  have N2 := Fr.app N0 N2q
  have pre3 : Goes p e below s₁ (entryFrame m #[(.ref a1), .null, (.ref x1), (.ref x2), (.ref x3), (.ref x4)] 6) T2 (mkF m 4 #[.val (.ref a1), .val .null, .val (.ref x1), .val (.ref x2), .val (.ref x3), .val (.ref x4)] []) := fun t kt => pre1 t (st2.trans kt)
  have pre4 : Goes p e below s₁ (entryFrame m #[(.ref a1), .null, (.ref x1), (.ref x2), (.ref x3), (.ref x4)] 6) T2 (mkF m 6 #[.val (.ref a1), .val .null, .val (.ref x1), .val (.ref x2), .val (.ref x3), .val (.ref x4)] [.null, (.ref a1)]) := fun t kt => pre3 t (by
      show Steps p.tables e below (T2.setTop (mkF m 4 #[.val (.ref a1), .val .null, .val (.ref x1), .val (.ref x2), .val (.ref x3), .val (.ref x4)] [])) _
      refine XS.aloadN X2.here hx rfl (hb hby own_dpxW_4) rfl rfl ?_
      show Steps p.tables e below (T2.setTop (mkF m 5 #[.val (.ref a1), .val .null, .val (.ref x1), .val (.ref x2), .val (.ref x3), .val (.ref x4)] [(.ref a1)])) _
      refine XS.aloadN X2.here hx rfl (hb hby own_dpxW_5) rfl rfl ?_
      exact kt)
  obtain ⟨T5, h5, X5, e5, W5, st5⟩ := putF X2 hx hZ hown (host := "") (Or.inl (hw _ (List.mem_of_getElem? (i := 38) rfl))) Via.refl e2 F_codingSystem E_a1 (Or.inr ⟨(hw _ (List.mem_of_getElem? (i := 39) rfl)), rfl, hnm⟩) (hw _ (List.mem_of_getElem? (i := 27) rfl)) (ty := (.object "java/lang/String")) (by decide) rfl rfl (g := (mkF m 6 #[.val (.ref a1), .val .null, .val (.ref x1), .val (.ref x2), .val (.ref x3), .val (.ref x4)] [.null, (.ref a1)])) rfl rfl (hb hby own_dpxW_6)
  have Fw5 := F_codingSystem.same W5
  have K5 : Keep h0 h5 [a1] := (Keep.refl h0 [a1]).wr W5 (Or.inl (List.mem_of_getElem? (i := 0) rfl))
  have N5 := Fr.snoc X5 N2 g_a1
  have pre6 : Goes p e below s₁ (entryFrame m #[(.ref a1), .null, (.ref x1), (.ref x2), (.ref x3), (.ref x4)] 6) T5 (mkF m 9 #[.val (.ref a1), .val .null, .val (.ref x1), .val (.ref x2), .val (.ref x3), .val (.ref x4)] []) := fun t kt => pre4 t (st5 t kt)
  have pre7 : Goes p e below s₁ (entryFrame m #[(.ref a1), .null, (.ref x1), (.ref x2), (.ref x3), (.ref x4)] 6) T5 (mkF m 11 #[.val (.ref a1), .val .null, .val (.ref x1), .val (.ref x2), .val (.ref x3), .val (.ref x4)] [(.ref x1), (.ref a1)]) := fun t kt => pre6 t (by
      show Steps p.tables e below (T5.setTop (mkF m 9 #[.val (.ref a1), .val .null, .val (.ref x1), .val (.ref x2), .val (.ref x3), .val (.ref x4)] [])) _
      refine XS.aloadN X5.here hx rfl (hb hby own_dpxW_9) rfl rfl ?_
      show Steps p.tables e below (T5.setTop (mkF m 10 #[.val (.ref a1), .val .null, .val (.ref x1), .val (.ref x2), .val (.ref x3), .val (.ref x4)] [(.ref a1)])) _
      refine XS.aloadN X5.here hx rfl (hb hby own_dpxW_10) rfl rfl ?_
      exact kt)
  obtain ⟨T8, h8, X8, e8, W8, st8⟩ := putF X5 hx hZ hown (host := "") (Or.inl (hw _ (List.mem_of_getElem? (i := 40) rfl))) Via.refl e5 (F_outcomes.other W5 (Or.inr (slot_ne (Or.inr (hw _ (List.mem_of_getElem? (i := 41) rfl))) (Or.inr (hw _ (List.mem_of_getElem? (i := 39) rfl))) (by decide) (t := (.object "java/util/List")) (t' := (.object "java/lang/String")) (by decide) (by decide)))) (E_a1.wr W5) (Or.inr ⟨(hw _ (List.mem_of_getElem? (i := 41) rfl)), rfl, hnm⟩) (hw _ (List.mem_of_getElem? (i := 27) rfl)) (ty := (.object "java/util/List")) (by decide) rfl rfl (g := (mkF m 11 #[.val (.ref a1), .val .null, .val (.ref x1), .val (.ref x2), .val (.ref x3), .val (.ref x4)] [(.ref x1), (.ref a1)])) rfl rfl (hb hby own_dpxW_11)
  have Fw8 := (F_outcomes.other W5 (Or.inr (slot_ne (Or.inr (hw _ (List.mem_of_getElem? (i := 41) rfl))) (Or.inr (hw _ (List.mem_of_getElem? (i := 39) rfl))) (by decide) (t := (.object "java/util/List")) (t' := (.object "java/lang/String")) (by decide) (by decide)))).same W8
  have K8 : Keep h0 h8 [a1] := K5.wr W8 (Or.inl (List.mem_of_getElem? (i := 0) rfl))
  have N8 := Fr.snoc X8 N5 g_a1
  have pre9 : Goes p e below s₁ (entryFrame m #[(.ref a1), .null, (.ref x1), (.ref x2), (.ref x3), (.ref x4)] 6) T8 (mkF m 14 #[.val (.ref a1), .val .null, .val (.ref x1), .val (.ref x2), .val (.ref x3), .val (.ref x4)] []) := fun t kt => pre7 t (st8 t kt)
  have pre10 : Goes p e below s₁ (entryFrame m #[(.ref a1), .null, (.ref x1), (.ref x2), (.ref x3), (.ref x4)] 6) T8 (mkF m 16 #[.val (.ref a1), .val .null, .val (.ref x1), .val (.ref x2), .val (.ref x3), .val (.ref x4)] [(.ref x2), (.ref a1)]) := fun t kt => pre9 t (by
      show Steps p.tables e below (T8.setTop (mkF m 14 #[.val (.ref a1), .val .null, .val (.ref x1), .val (.ref x2), .val (.ref x3), .val (.ref x4)] [])) _
      refine XS.aloadN X8.here hx rfl (hb hby own_dpxW_14) rfl rfl ?_
      show Steps p.tables e below (T8.setTop (mkF m 15 #[.val (.ref a1), .val .null, .val (.ref x1), .val (.ref x2), .val (.ref x3), .val (.ref x4)] [(.ref a1)])) _
      refine XS.aloadN X8.here hx rfl (hb hby own_dpxW_15) rfl rfl ?_
      exact kt)
  obtain ⟨T11, h11, X11, e11, W11, st11⟩ := putF X8 hx hZ hown (host := "") (Or.inl (hw _ (List.mem_of_getElem? (i := 42) rfl))) Via.refl e8 ((F_severityVariants.other W5 (Or.inr (slot_ne (Or.inr (hw _ (List.mem_of_getElem? (i := 43) rfl))) (Or.inr (hw _ (List.mem_of_getElem? (i := 39) rfl))) (by decide) (t := (.object "java/util/Set")) (t' := (.object "java/lang/String")) (by decide) (by decide)))).other W8 (Or.inr (slot_ne (Or.inr (hw _ (List.mem_of_getElem? (i := 43) rfl))) (Or.inr (hw _ (List.mem_of_getElem? (i := 41) rfl))) (by decide) (t := (.object "java/util/Set")) (t' := (.object "java/util/List")) (by decide) (by decide)))) ((E_a1.wr W5).wr W8) (Or.inr ⟨(hw _ (List.mem_of_getElem? (i := 43) rfl)), rfl, hnm⟩) (hw _ (List.mem_of_getElem? (i := 27) rfl)) (ty := (.object "java/util/Set")) (by decide) rfl rfl (g := (mkF m 16 #[.val (.ref a1), .val .null, .val (.ref x1), .val (.ref x2), .val (.ref x3), .val (.ref x4)] [(.ref x2), (.ref a1)])) rfl rfl (hb hby own_dpxW_16)
  have Fw11 := ((F_severityVariants.other W5 (Or.inr (slot_ne (Or.inr (hw _ (List.mem_of_getElem? (i := 43) rfl))) (Or.inr (hw _ (List.mem_of_getElem? (i := 39) rfl))) (by decide) (t := (.object "java/util/Set")) (t' := (.object "java/lang/String")) (by decide) (by decide)))).other W8 (Or.inr (slot_ne (Or.inr (hw _ (List.mem_of_getElem? (i := 43) rfl))) (Or.inr (hw _ (List.mem_of_getElem? (i := 41) rfl))) (by decide) (t := (.object "java/util/Set")) (t' := (.object "java/util/List")) (by decide) (by decide)))).same W11
  have K11 : Keep h0 h11 [a1] := K8.wr W11 (Or.inl (List.mem_of_getElem? (i := 0) rfl))
  have N11 := Fr.snoc X11 N8 g_a1
  have pre12 : Goes p e below s₁ (entryFrame m #[(.ref a1), .null, (.ref x1), (.ref x2), (.ref x3), (.ref x4)] 6) T11 (mkF m 19 #[.val (.ref a1), .val .null, .val (.ref x1), .val (.ref x2), .val (.ref x3), .val (.ref x4)] []) := fun t kt => pre10 t (st11 t kt)
  have pre13 : Goes p e below s₁ (entryFrame m #[(.ref a1), .null, (.ref x1), (.ref x2), (.ref x3), (.ref x4)] 6) T11 (mkF m 22 #[.val (.ref a1), .val .null, .val (.ref x1), .val (.ref x2), .val (.ref x3), .val (.ref x4)] [(.ref x3), (.ref a1)]) := fun t kt => pre12 t (by
      show Steps p.tables e below (T11.setTop (mkF m 19 #[.val (.ref a1), .val .null, .val (.ref x1), .val (.ref x2), .val (.ref x3), .val (.ref x4)] [])) _
      refine XS.aloadN X11.here hx rfl (hb hby own_dpxW_19) rfl rfl ?_
      show Steps p.tables e below (T11.setTop (mkF m 20 #[.val (.ref a1), .val .null, .val (.ref x1), .val (.ref x2), .val (.ref x3), .val (.ref x4)] [(.ref a1)])) _
      refine XS.aload X11.here hx rfl (hb hby own_dpxW_20) rfl rfl ?_
      exact kt)
  obtain ⟨T14, h14, X14, e14, W14, st14⟩ := putF X11 hx hZ hown (host := "") (Or.inl (hw _ (List.mem_of_getElem? (i := 44) rfl))) Via.refl e11 (((F_issueTypeVariants.other W5 (Or.inr (slot_ne (Or.inr (hw _ (List.mem_of_getElem? (i := 45) rfl))) (Or.inr (hw _ (List.mem_of_getElem? (i := 39) rfl))) (by decide) (t := (.object "java/util/Map")) (t' := (.object "java/lang/String")) (by decide) (by decide)))).other W8 (Or.inr (slot_ne (Or.inr (hw _ (List.mem_of_getElem? (i := 45) rfl))) (Or.inr (hw _ (List.mem_of_getElem? (i := 41) rfl))) (by decide) (t := (.object "java/util/Map")) (t' := (.object "java/util/List")) (by decide) (by decide)))).other W11 (Or.inr (slot_ne (Or.inr (hw _ (List.mem_of_getElem? (i := 45) rfl))) (Or.inr (hw _ (List.mem_of_getElem? (i := 43) rfl))) (by decide) (t := (.object "java/util/Map")) (t' := (.object "java/util/Set")) (by decide) (by decide)))) (((E_a1.wr W5).wr W8).wr W11) (Or.inr ⟨(hw _ (List.mem_of_getElem? (i := 45) rfl)), rfl, hnm⟩) (hw _ (List.mem_of_getElem? (i := 27) rfl)) (ty := (.object "java/util/Map")) (by decide) rfl rfl (g := (mkF m 22 #[.val (.ref a1), .val .null, .val (.ref x1), .val (.ref x2), .val (.ref x3), .val (.ref x4)] [(.ref x3), (.ref a1)])) rfl rfl (hb hby own_dpxW_22)
  have Fw14 := (((F_issueTypeVariants.other W5 (Or.inr (slot_ne (Or.inr (hw _ (List.mem_of_getElem? (i := 45) rfl))) (Or.inr (hw _ (List.mem_of_getElem? (i := 39) rfl))) (by decide) (t := (.object "java/util/Map")) (t' := (.object "java/lang/String")) (by decide) (by decide)))).other W8 (Or.inr (slot_ne (Or.inr (hw _ (List.mem_of_getElem? (i := 45) rfl))) (Or.inr (hw _ (List.mem_of_getElem? (i := 41) rfl))) (by decide) (t := (.object "java/util/Map")) (t' := (.object "java/util/List")) (by decide) (by decide)))).other W11 (Or.inr (slot_ne (Or.inr (hw _ (List.mem_of_getElem? (i := 45) rfl))) (Or.inr (hw _ (List.mem_of_getElem? (i := 43) rfl))) (by decide) (t := (.object "java/util/Map")) (t' := (.object "java/util/Set")) (by decide) (by decide)))).same W14
  have K14 : Keep h0 h14 [a1] := K11.wr W14 (Or.inl (List.mem_of_getElem? (i := 0) rfl))
  have N14 := Fr.snoc X14 N11 g_a1
  have pre15 : Goes p e below s₁ (entryFrame m #[(.ref a1), .null, (.ref x1), (.ref x2), (.ref x3), (.ref x4)] 6) T14 (mkF m 25 #[.val (.ref a1), .val .null, .val (.ref x1), .val (.ref x2), .val (.ref x3), .val (.ref x4)] []) := fun t kt => pre13 t (st14 t kt)
  have pre16 : Goes p e below s₁ (entryFrame m #[(.ref a1), .null, (.ref x1), (.ref x2), (.ref x3), (.ref x4)] 6) T14 (mkF m 28 #[.val (.ref a1), .val .null, .val (.ref x1), .val (.ref x2), .val (.ref x3), .val (.ref x4)] [(.ref x4), (.ref a1)]) := fun t kt => pre15 t (by
      show Steps p.tables e below (T14.setTop (mkF m 25 #[.val (.ref a1), .val .null, .val (.ref x1), .val (.ref x2), .val (.ref x3), .val (.ref x4)] [])) _
      refine XS.aloadN X14.here hx rfl (hb hby own_dpxW_25) rfl rfl ?_
      show Steps p.tables e below (T14.setTop (mkF m 26 #[.val (.ref a1), .val .null, .val (.ref x1), .val (.ref x2), .val (.ref x3), .val (.ref x4)] [(.ref a1)])) _
      refine XS.aload X14.here hx rfl (hb hby own_dpxW_26) rfl rfl ?_
      exact kt)
  obtain ⟨T17, h17, X17, e17, W17, st17⟩ := putF X14 hx hZ hown (host := "") (Or.inl (hw _ (List.mem_of_getElem? (i := 46) rfl))) Via.refl e14 ((((F_codingSystemVariants.other W5 (Or.inr (slot_ne (Or.inr (hw _ (List.mem_of_getElem? (i := 47) rfl))) (Or.inr (hw _ (List.mem_of_getElem? (i := 39) rfl))) (by decide) (t := (.object "java/util/Set")) (t' := (.object "java/lang/String")) (by decide) (by decide)))).other W8 (Or.inr (slot_ne (Or.inr (hw _ (List.mem_of_getElem? (i := 47) rfl))) (Or.inr (hw _ (List.mem_of_getElem? (i := 41) rfl))) (by decide) (t := (.object "java/util/Set")) (t' := (.object "java/util/List")) (by decide) (by decide)))).other W11 (Or.inr (slot_ne (Or.inr (hw _ (List.mem_of_getElem? (i := 47) rfl))) (Or.inr (hw _ (List.mem_of_getElem? (i := 43) rfl))) (by decide) (t := (.object "java/util/Set")) (t' := (.object "java/util/Set")) (by decide) (by decide)))).other W14 (Or.inr (slot_ne (Or.inr (hw _ (List.mem_of_getElem? (i := 47) rfl))) (Or.inr (hw _ (List.mem_of_getElem? (i := 45) rfl))) (by decide) (t := (.object "java/util/Set")) (t' := (.object "java/util/Map")) (by decide) (by decide)))) ((((E_a1.wr W5).wr W8).wr W11).wr W14) (Or.inr ⟨(hw _ (List.mem_of_getElem? (i := 47) rfl)), rfl, hnm⟩) (hw _ (List.mem_of_getElem? (i := 27) rfl)) (ty := (.object "java/util/Set")) (by decide) rfl rfl (g := (mkF m 28 #[.val (.ref a1), .val .null, .val (.ref x1), .val (.ref x2), .val (.ref x3), .val (.ref x4)] [(.ref x4), (.ref a1)])) rfl rfl (hb hby own_dpxW_28)
  have Fw17 := ((((F_codingSystemVariants.other W5 (Or.inr (slot_ne (Or.inr (hw _ (List.mem_of_getElem? (i := 47) rfl))) (Or.inr (hw _ (List.mem_of_getElem? (i := 39) rfl))) (by decide) (t := (.object "java/util/Set")) (t' := (.object "java/lang/String")) (by decide) (by decide)))).other W8 (Or.inr (slot_ne (Or.inr (hw _ (List.mem_of_getElem? (i := 47) rfl))) (Or.inr (hw _ (List.mem_of_getElem? (i := 41) rfl))) (by decide) (t := (.object "java/util/Set")) (t' := (.object "java/util/List")) (by decide) (by decide)))).other W11 (Or.inr (slot_ne (Or.inr (hw _ (List.mem_of_getElem? (i := 47) rfl))) (Or.inr (hw _ (List.mem_of_getElem? (i := 43) rfl))) (by decide) (t := (.object "java/util/Set")) (t' := (.object "java/util/Set")) (by decide) (by decide)))).other W14 (Or.inr (slot_ne (Or.inr (hw _ (List.mem_of_getElem? (i := 47) rfl))) (Or.inr (hw _ (List.mem_of_getElem? (i := 45) rfl))) (by decide) (t := (.object "java/util/Set")) (t' := (.object "java/util/Map")) (by decide) (by decide)))).same W17
  have K17 : Keep h0 h17 [a1] := K14.wr W17 (Or.inl (List.mem_of_getElem? (i := 0) rfl))
  have N17 := Fr.snoc X17 N14 g_a1
  have pre18 : Goes p e below s₁ (entryFrame m #[(.ref a1), .null, (.ref x1), (.ref x2), (.ref x3), (.ref x4)] 6) T17 (mkF m 31 #[.val (.ref a1), .val .null, .val (.ref x1), .val (.ref x2), .val (.ref x3), .val (.ref x4)] []) := fun t kt => pre16 t (st17 t kt)
  obtain ⟨fs, hr, hrun, hended, hW, hsame⟩ := X17.leave (v := none) (fun _ => rfl)
  refine ⟨_, _, pre18 _ ?_, hrun, hended, _, _, rfl, ?_, ⟨_, rfl⟩, hW, hsame.mono (by decide) (by decide)⟩
  · show Steps p.tables e below (T17.setTop (mkF m 31 #[.val (.ref a1), .val .null, .val (.ref x1), .val (.ref x2), .val (.ref x3), .val (.ref x4)] [])) _
    exact X17.returnOut hx Bd.returns (hb hby own_dpxW_31) hr
  · show Q_own_pxW Z a1 x1 x2 x3 x4 h0 n0 _ T17.heap _
    rw [e17]
    exact ⟨rfl, N17, K17, (((((E_a1.wr W5).wr W8).wr W11).wr W14).wr W17), ((((Fw5.other W8 (Or.inr (slot_ne (Or.inr (hw _ (List.mem_of_getElem? (i := 39) rfl))) (Or.inr (hw _ (List.mem_of_getElem? (i := 41) rfl))) (by decide) (t := (.object "java/lang/String")) (t' := (.object "java/util/List")) (by decide) (by decide)))).other W11 (Or.inr (slot_ne (Or.inr (hw _ (List.mem_of_getElem? (i := 39) rfl))) (Or.inr (hw _ (List.mem_of_getElem? (i := 43) rfl))) (by decide) (t := (.object "java/lang/String")) (t' := (.object "java/util/Set")) (by decide) (by decide)))).other W14 (Or.inr (slot_ne (Or.inr (hw _ (List.mem_of_getElem? (i := 39) rfl))) (Or.inr (hw _ (List.mem_of_getElem? (i := 45) rfl))) (by decide) (t := (.object "java/lang/String")) (t' := (.object "java/util/Map")) (by decide) (by decide)))).other W17 (Or.inr (slot_ne (Or.inr (hw _ (List.mem_of_getElem? (i := 39) rfl))) (Or.inr (hw _ (List.mem_of_getElem? (i := 47) rfl))) (by decide) (t := (.object "java/lang/String")) (t' := (.object "java/util/Set")) (by decide) (by decide))))⟩
theorem own_dcdN_0 : decode prog_7_method_3_code 0 = .ok (.aload_n 0, 1) := by decide +kernel
theorem own_dcdN_1 : decode prog_7_method_3_code 1 = .ok (.getfield 7, 3) := by decide +kernel
theorem own_dcdN_4 : decode prog_7_method_3_code 4 = .ok (.ifnull 7, 3) := by decide +kernel
theorem own_dcdN_11 : decode prog_7_method_3_code 11 = .ok (.iconst 0, 1) := by decide +kernel
theorem own_dcdN_12 : decode prog_7_method_3_code 12 = .ok (.ireturn, 1) := by decide +kernel
theorem own_pn_own_cdN : plainName "com/example/outcomist/outcomist/Catalogue$Proxy" = true := by first | (simp [plainName, overriddenIn]; done) | decide +kernel
theorem own_ef_own_cdN (m : MethodId) (x0 : Addr) : entryFrame m #[(.ref x0)] 1 = mkF m 0 #[.val (.ref x0)] [] := by first | (simp [entryFrame, mkF, argsToLocals, Value.category]; done) | rfl
def Q_own_cdN (Z : State) (a1 : Addr) (h0 : Heap) (n0 : Nat) (v : Option Value) (h : Heap) (L : List Loc) : Prop := v = some (.int (0 : Int32)) ∧ Fr n0 L ∧ h = h0
set_option maxRecDepth 65536 in
set_option maxHeartbeats 40000000 in
theorem own_cdN (l : Launch) (Z : State) (a0 : Array Value) (hw : ∀ d ∈ tables_1, d.before a0 Z = true) (ws : List Jvm.Cond) (a1 : Addr) (h0 : Heap) (n0 : Nat) (Z0 : n0 ≤ h0.size) (F_cs : Fld Z h0 a1 "com/example/outcomist/outcomist/Catalogue$Proxy" "codingSystem" "Ljava/lang/String;" .null) :
    MetFree l (⟨"com/example/outcomist/outcomist/Catalogue$Proxy", "coded", "()Z"⟩ : MethodName) (head1 (Jvm.Cond.code (⟨"com/example/outcomist/outcomist/Catalogue$Proxy", "coded", "()Z"⟩ : MethodName) prog_7_method_3_code 1 (some .boolean) :: ws) ({ frames := 0, cells := 0, slots := 0, locals := 0 } : Room)) (fun a U => a = #[(.ref a1)] ∧ Z.Warmed39 U.vm ∧ U.heap = h0) (fun _ _ _ _ _ => True) (fun _ U o U' => ∃ v L, o = .returned v ∧ Q_own_cdN Z a1 h0 n0 v U'.heap L ∧ FrameEnd U o U' L ({ frames := 0, cells := 0, slots := 0, locals := 0 } : Room).cells ({ frames := 0, cells := 0, slots := 0, locals := 0 } : Room).slots) := by
  refine MetFree.of_bodySF (plainFor_of_name own_pn_own_cdN) hisR ?_
  intro p e s m args below meth c s₁ Bd hml0 hP hK
  obtain ⟨rfl, hZ, hh⟩ := hP
  have hx := Bd.exec
  have hby := Bd.bytes
  have hml : c.maxLocals = 1 := hml0
  have hown : s.vm.findClass "com/example/outcomist/outcomist/Catalogue$Proxy" = some m.cls := findClass_of_methodNamed Bd.named
  have hnm := (name_of_methodNamed Bd.named Bd.method).1
  have X0 : Stand p l e ({ frames := 0, cells := 0, slots := 0, locals := 0 } : Room) s m #[(.ref a1)] below meth c s₁ [] 0 0 := Stand.of_body Bd
  have e0 : s₁.heap = h0 := by rw [← hh, Bd.state]; rfl
  have N0 := Fr.nil n0
  have pre0 : Goes p e below s₁ (entryFrame m #[(.ref a1)] 1) s₁ (mkF m 0 #[.val (.ref a1)] []) := fun t k => castTop (own_ef_own_cdN m a1) k
  have pre1 : Goes p e below s₁ (entryFrame m #[(.ref a1)] 1) s₁ (mkF m 1 #[.val (.ref a1)] [(.ref a1)]) := fun t kt => pre0 t (by
      show Steps p.tables e below (s₁.setTop (mkF m 0 #[.val (.ref a1)] [])) _
      refine XS.aloadN X0.here hx rfl (hb hby own_dcdN_0) rfl rfl ?_
      exact kt)
  obtain ⟨T2, X2, e2, st2⟩ := getF X0 hx hZ hown (host := "") (Or.inl (hw _ (List.mem_of_getElem? (i := 38) rfl))) Via.refl e0 F_cs (g := (mkF m 1 #[.val (.ref a1)] [(.ref a1)])) rfl rfl (hb hby own_dcdN_1)
  have pre3 : Goes p e below s₁ (entryFrame m #[(.ref a1)] 1) T2 (mkF m 4 #[.val (.ref a1)] [.null]) := fun t kt => pre1 t (st2 t kt)
  have pre4 : Goes p e below s₁ (entryFrame m #[(.ref a1)] 1) T2 (mkF m 12 #[.val (.ref a1)] [(.int (0 : Int32))]) := fun t kt => pre3 t (by
      show Steps p.tables e below (T2.setTop (mkF m 4 #[.val (.ref a1)] [.null])) _
      refine XS.ifnullYes X2.here hx rfl (pc0 := 4) (pc' := 11) rfl (hb hby own_dcdN_4) rfl (by decide) (by decide) ?_
      show Steps p.tables e below (T2.setTop (mkF m 11 #[.val (.ref a1)] [])) _
      refine XS.iconst X2.here hx rfl (hb hby own_dcdN_11) ?_
      exact kt)
  obtain ⟨fs, hr, hrun, hended, hW, hsame⟩ := X2.leave (v := some (.int (0 : Int32))) (fun h => by rw [Bd.returns] at h; cases h)
  refine ⟨_, _, pre4 _ ?_, hrun, hended, _, _, rfl, ?_, ⟨_, rfl⟩, hW, hsame.mono (by decide) (by decide)⟩
  · show Steps p.tables e below (T2.setTop (mkF m 12 #[.val (.ref a1)] [(.int (0 : Int32))])) _
    exact retN X2 hx (t := .boolean) Bd.returns (by simp) (hb hby own_dcdN_12) hr
  · show Q_own_cdN Z a1 h0 n0 _ T2.heap _
    rw [e2]
    exact ⟨rfl, N0, rfl⟩
theorem own_dcdR_0 : decode prog_7_method_3_code 0 = .ok (.aload_n 0, 1) := by decide +kernel
theorem own_dcdR_1 : decode prog_7_method_3_code 1 = .ok (.getfield 7, 3) := by decide +kernel
theorem own_dcdR_4 : decode prog_7_method_3_code 4 = .ok (.ifnull 7, 3) := by decide +kernel
theorem own_dcdR_7 : decode prog_7_method_3_code 7 = .ok (.iconst 1, 1) := by decide +kernel
theorem own_dcdR_8 : decode prog_7_method_3_code 8 = .ok (.goto 4, 3) := by decide +kernel
theorem own_dcdR_12 : decode prog_7_method_3_code 12 = .ok (.ireturn, 1) := by decide +kernel
theorem own_pn_own_cdR : plainName "com/example/outcomist/outcomist/Catalogue$Proxy" = true := by first | (simp [plainName, overriddenIn]; done) | decide +kernel
theorem own_ef_own_cdR (m : MethodId) (x0 : Addr) : entryFrame m #[(.ref x0)] 1 = mkF m 0 #[.val (.ref x0)] [] := by first | (simp [entryFrame, mkF, argsToLocals, Value.category]; done) | rfl
def Q_own_cdR (Z : State) (a1 : Addr) (x0 : Addr) (h0 : Heap) (n0 : Nat) (v : Option Value) (h : Heap) (L : List Loc) : Prop := v = some (.int (1 : Int32)) ∧ Fr n0 L ∧ h = h0
set_option maxRecDepth 65536 in
set_option maxHeartbeats 40000000 in
theorem own_cdR (l : Launch) (Z : State) (a0 : Array Value) (hw : ∀ d ∈ tables_1, d.before a0 Z = true) (ws : List Jvm.Cond) (a1 : Addr) (x0 : Addr) (h0 : Heap) (n0 : Nat) (Z0 : n0 ≤ h0.size) (F_cs : Fld Z h0 a1 "com/example/outcomist/outcomist/Catalogue$Proxy" "codingSystem" "Ljava/lang/String;" (.ref x0)) :
    MetFree l (⟨"com/example/outcomist/outcomist/Catalogue$Proxy", "coded", "()Z"⟩ : MethodName) (head1 (Jvm.Cond.code (⟨"com/example/outcomist/outcomist/Catalogue$Proxy", "coded", "()Z"⟩ : MethodName) prog_7_method_3_code 1 (some .boolean) :: ws) ({ frames := 0, cells := 0, slots := 0, locals := 0 } : Room)) (fun a U => a = #[(.ref a1)] ∧ Z.Warmed39 U.vm ∧ U.heap = h0) (fun _ _ _ _ _ => True) (fun _ U o U' => ∃ v L, o = .returned v ∧ Q_own_cdR Z a1 x0 h0 n0 v U'.heap L ∧ FrameEnd U o U' L ({ frames := 0, cells := 0, slots := 0, locals := 0 } : Room).cells ({ frames := 0, cells := 0, slots := 0, locals := 0 } : Room).slots) := by
  refine MetFree.of_bodySF (plainFor_of_name own_pn_own_cdR) hisR ?_
  intro p e s m args below meth c s₁ Bd hml0 hP hK
  obtain ⟨rfl, hZ, hh⟩ := hP
  have hx := Bd.exec
  have hby := Bd.bytes
  have hml : c.maxLocals = 1 := hml0
  have hown : s.vm.findClass "com/example/outcomist/outcomist/Catalogue$Proxy" = some m.cls := findClass_of_methodNamed Bd.named
  have hnm := (name_of_methodNamed Bd.named Bd.method).1
  have X0 : Stand p l e ({ frames := 0, cells := 0, slots := 0, locals := 0 } : Room) s m #[(.ref a1)] below meth c s₁ [] 0 0 := Stand.of_body Bd
  have e0 : s₁.heap = h0 := by rw [← hh, Bd.state]; rfl
  have N0 := Fr.nil n0
  have pre0 : Goes p e below s₁ (entryFrame m #[(.ref a1)] 1) s₁ (mkF m 0 #[.val (.ref a1)] []) := fun t k => castTop (own_ef_own_cdR m a1) k
  have pre1 : Goes p e below s₁ (entryFrame m #[(.ref a1)] 1) s₁ (mkF m 1 #[.val (.ref a1)] [(.ref a1)]) := fun t kt => pre0 t (by
      show Steps p.tables e below (s₁.setTop (mkF m 0 #[.val (.ref a1)] [])) _
      refine XS.aloadN X0.here hx rfl (hb hby own_dcdR_0) rfl rfl ?_
      exact kt)
  obtain ⟨T2, X2, e2, st2⟩ := getF X0 hx hZ hown (host := "") (Or.inl (hw _ (List.mem_of_getElem? (i := 38) rfl))) Via.refl e0 F_cs (g := (mkF m 1 #[.val (.ref a1)] [(.ref a1)])) rfl rfl (hb hby own_dcdR_1)
  have pre3 : Goes p e below s₁ (entryFrame m #[(.ref a1)] 1) T2 (mkF m 4 #[.val (.ref a1)] [(.ref x0)]) := fun t kt => pre1 t (st2 t kt)
  have pre4 : Goes p e below s₁ (entryFrame m #[(.ref a1)] 1) T2 (mkF m 12 #[.val (.ref a1)] [(.int (1 : Int32))]) := fun t kt => pre3 t (by
      show Steps p.tables e below (T2.setTop (mkF m 4 #[.val (.ref a1)] [(.ref x0)])) _
      refine XS.ifnullNo X2.here hx rfl (hb hby own_dcdR_4) rfl ?_
      show Steps p.tables e below (T2.setTop (mkF m 7 #[.val (.ref a1)] [])) _
      refine XS.iconst X2.here hx rfl (hb hby own_dcdR_7) ?_
      show Steps p.tables e below (T2.setTop (mkF m 8 #[.val (.ref a1)] [(.int (1 : Int32))])) _
      refine XS.goto X2.here hx rfl (pc0 := 8) (pc' := 12) rfl (hb hby own_dcdR_8) (by decide) (by decide) ?_
      exact kt)
  obtain ⟨fs, hr, hrun, hended, hW, hsame⟩ := X2.leave (v := some (.int (1 : Int32))) (fun h => by rw [Bd.returns] at h; cases h)
  refine ⟨_, _, pre4 _ ?_, hrun, hended, _, _, rfl, ?_, ⟨_, rfl⟩, hW, hsame.mono (by decide) (by decide)⟩
  · show Steps p.tables e below (T2.setTop (mkF m 12 #[.val (.ref a1)] [(.int (1 : Int32))])) _
    exact retN X2 hx (t := .boolean) Bd.returns (by simp) (hb hby own_dcdR_12) hr
  · show Q_own_cdR Z a1 x0 h0 n0 _ T2.heap _
    rw [e2]
    exact ⟨rfl, N0, rfl⟩
theorem own_d9_0 : decode jdk_96_method_17_code 0 = .ok (.getstatic 9, 3) := by decide +kernel
theorem own_d9_3 : decode jdk_96_method_17_code 3 = .ok (.areturn, 1) := by decide +kernel
theorem own_pn_own_setOf : plainName "java/util/Set" = true := by first | (simp [plainName, overriddenIn]; done) | decide +kernel
theorem own_ef_own_setOf (m : MethodId)  : entryFrame m #[] 0 = mkF m 0 #[] [] := by first | (simp [entryFrame, mkF, argsToLocals, Value.category]; done) | rfl
def Q_own_setOf (Z : State) (aq : Addr) (h0 : Heap) (n0 : Nat) (v : Option Value) (h : Heap) (L : List Loc) : Prop := v = some (.ref aq) ∧ Fr n0 L ∧ h = h0
set_option maxRecDepth 65536 in
set_option maxHeartbeats 40000000 in
theorem own_setOf (l : Launch) (Z : State) (a0 : Array Value) (hw : ∀ d ∈ tables_1, d.before a0 Z = true) (ws : List Jvm.Cond) (aq : Addr) (h0 : Heap) (n0 : Nat) (Z0 : n0 ≤ h0.size) (S_q : Sta Z h0 "java/util/ImmutableCollections" "EMPTY_SET" "Ljava/util/ImmutableCollections$SetN;" (.ref aq)) :
    MetFree l (⟨"java/util/Set", "of", "()Ljava/util/Set;"⟩ : MethodName) (head1 (Jvm.Cond.code (⟨"java/util/Set", "of", "()Ljava/util/Set;"⟩ : MethodName) jdk_96_method_17_code 0 (some (.object "java/util/Set")) :: ws) ({ frames := 0, cells := 0, slots := 0, locals := 0 } : Room)) (fun a U => a = #[] ∧ Z.Warmed39 U.vm ∧ U.heap = h0) (fun _ _ _ _ _ => True) (fun _ U o U' => ∃ v L, o = .returned v ∧ Q_own_setOf Z aq h0 n0 v U'.heap L ∧ FrameEnd U o U' L ({ frames := 0, cells := 0, slots := 0, locals := 0 } : Room).cells ({ frames := 0, cells := 0, slots := 0, locals := 0 } : Room).slots) := by
  refine MetFree.of_bodySF (plainFor_of_name own_pn_own_setOf) hisR ?_
  intro p e s m args below meth c s₁ Bd hml0 hP hK
  obtain ⟨rfl, hZ, hh⟩ := hP
  have hx := Bd.exec
  have hby := Bd.bytes
  have hml : c.maxLocals = 0 := hml0
  have hown : s.vm.findClass "java/util/Set" = some m.cls := findClass_of_methodNamed Bd.named
  have hnm := (name_of_methodNamed Bd.named Bd.method).1
  have X0 : Stand p l e ({ frames := 0, cells := 0, slots := 0, locals := 0 } : Room) s m #[] below meth c s₁ [] 0 0 := Stand.of_body Bd
  have e0 : s₁.heap = h0 := by rw [← hh, Bd.state]; rfl
  have N0 := Fr.nil n0
  have pre0 : Goes p e below s₁ (entryFrame m #[] 0) s₁ (mkF m 0 #[] []) := fun t k => castTop (own_ef_own_setOf m ) k
  obtain ⟨T1, X1, e1, st1⟩ := getS2 X0 hx hZ hown (host := "") (Or.inl (hw _ (List.mem_of_getElem? (i := 61) rfl))) Via.refl e0 S_q (g := (mkF m 0 #[] [])) rfl (hb hby own_d9_0)
  have pre2 : Goes p e below s₁ (entryFrame m #[] 0) T1 (mkF m 3 #[] [(.ref aq)]) := fun t kt => pre0 t (st1 t kt)
  obtain ⟨fs, hr, hrun, hended, hW, hsame⟩ := X1.leave (v := some (.ref aq)) (fun h => by rw [Bd.returns] at h; cases h)
  refine ⟨_, _, pre2 _ ?_, hrun, hended, _, _, rfl, ?_, ⟨_, rfl⟩, hW, hsame.mono (by decide) (by decide)⟩
  · show Steps p.tables e below (T1.setTop (mkF m 3 #[] [(.ref aq)])) _
    jvm_step X1.here [X1.here.top, hx, (hb hby own_d9_3), X1.method', Bd.returns, Value.isRef, FieldType.isReference]
    first | (intro acts; rw [hr _ acts rfl rfl rfl]) | rw [hr _ _ rfl rfl rfl]
    exact Steps.refl _
  · show Q_own_setOf Z aq h0 n0 _ T1.heap _
    rw [e1]
    exact ⟨rfl, N0, rfl⟩
theorem own_d10_0 : decode jdk_72_method_26_code 0 = .ok (.getstatic 81, 3) := by decide +kernel
theorem own_d10_3 : decode jdk_72_method_26_code 3 = .ok (.areturn, 1) := by decide +kernel
theorem own_pn_own_mapOf : plainName "java/util/Map" = true := by first | (simp [plainName, overriddenIn]; done) | decide +kernel
theorem own_ef_own_mapOf (m : MethodId)  : entryFrame m #[] 0 = mkF m 0 #[] [] := by first | (simp [entryFrame, mkF, argsToLocals, Value.category]; done) | rfl
def Q_own_mapOf (Z : State) (aq : Addr) (h0 : Heap) (n0 : Nat) (v : Option Value) (h : Heap) (L : List Loc) : Prop := v = some (.ref aq) ∧ Fr n0 L ∧ h = h0
set_option maxRecDepth 65536 in
set_option maxHeartbeats 40000000 in
theorem own_mapOf (l : Launch) (Z : State) (a0 : Array Value) (hw : ∀ d ∈ tables_1, d.before a0 Z = true) (ws : List Jvm.Cond) (aq : Addr) (h0 : Heap) (n0 : Nat) (Z0 : n0 ≤ h0.size) (S_q : Sta Z h0 "java/util/ImmutableCollections" "EMPTY_MAP" "Ljava/util/ImmutableCollections$MapN;" (.ref aq)) :
    MetFree l (⟨"java/util/Map", "of", "()Ljava/util/Map;"⟩ : MethodName) (head1 (Jvm.Cond.code (⟨"java/util/Map", "of", "()Ljava/util/Map;"⟩ : MethodName) jdk_72_method_26_code 0 (some (.object "java/util/Map")) :: ws) ({ frames := 0, cells := 0, slots := 0, locals := 0 } : Room)) (fun a U => a = #[] ∧ Z.Warmed39 U.vm ∧ U.heap = h0) (fun _ _ _ _ _ => True) (fun _ U o U' => ∃ v L, o = .returned v ∧ Q_own_mapOf Z aq h0 n0 v U'.heap L ∧ FrameEnd U o U' L ({ frames := 0, cells := 0, slots := 0, locals := 0 } : Room).cells ({ frames := 0, cells := 0, slots := 0, locals := 0 } : Room).slots) := by
  refine MetFree.of_bodySF (plainFor_of_name own_pn_own_mapOf) hisR ?_
  intro p e s m args below meth c s₁ Bd hml0 hP hK
  obtain ⟨rfl, hZ, hh⟩ := hP
  have hx := Bd.exec
  have hby := Bd.bytes
  have hml : c.maxLocals = 0 := hml0
  have hown : s.vm.findClass "java/util/Map" = some m.cls := findClass_of_methodNamed Bd.named
  have hnm := (name_of_methodNamed Bd.named Bd.method).1
  have X0 : Stand p l e ({ frames := 0, cells := 0, slots := 0, locals := 0 } : Room) s m #[] below meth c s₁ [] 0 0 := Stand.of_body Bd
  have e0 : s₁.heap = h0 := by rw [← hh, Bd.state]; rfl
  have N0 := Fr.nil n0
  have pre0 : Goes p e below s₁ (entryFrame m #[] 0) s₁ (mkF m 0 #[] []) := fun t k => castTop (own_ef_own_mapOf m ) k
  obtain ⟨T1, X1, e1, st1⟩ := getS2 X0 hx hZ hown (host := "") (Or.inl (hw _ (List.mem_of_getElem? (i := 67) rfl))) Via.refl e0 S_q (g := (mkF m 0 #[] [])) rfl (hb hby own_d10_0)
  have pre2 : Goes p e below s₁ (entryFrame m #[] 0) T1 (mkF m 3 #[] [(.ref aq)]) := fun t kt => pre0 t (st1 t kt)
  obtain ⟨fs, hr, hrun, hended, hW, hsame⟩ := X1.leave (v := some (.ref aq)) (fun h => by rw [Bd.returns] at h; cases h)
  refine ⟨_, _, pre2 _ ?_, hrun, hended, _, _, rfl, ?_, ⟨_, rfl⟩, hW, hsame.mono (by decide) (by decide)⟩
  · show Steps p.tables e below (T1.setTop (mkF m 3 #[] [(.ref aq)])) _
    jvm_step X1.here [X1.here.top, hx, (hb hby own_d10_3), X1.method', Bd.returns, Value.isRef, FieldType.isReference]
    first | (intro acts; rw [hr _ acts rfl rfl rfl]) | rw [hr _ _ rfl rfl rfl]
    exact Steps.refl _
  · show Q_own_mapOf Z aq h0 n0 _ T1.heap _
    rw [e1]
    exact ⟨rfl, N0, rfl⟩
theorem own_d8_0 : decode prog_7_method_2_code 0 = .ok (.new 8, 3) := by decide +kernel
theorem own_d8_3 : decode prog_7_method_2_code 3 = .ok (.dup, 1) := by decide +kernel
theorem own_d8_4 : decode prog_7_method_2_code 4 = .ok (.aconst_null, 1) := by decide +kernel
theorem own_d8_5 : decode prog_7_method_2_code 5 = .ok (.aload_n 0, 1) := by decide +kernel
theorem own_d8_6 : decode prog_7_method_2_code 6 = .ok (.invokestatic 28, 3) := by decide +kernel
theorem own_d8_9 : decode prog_7_method_2_code 9 = .ok (.invokestatic 34, 3) := by decide +kernel
theorem own_d8_12 : decode prog_7_method_2_code 12 = .ok (.invokestatic 28, 3) := by decide +kernel
theorem own_d8_15 : decode prog_7_method_2_code 15 = .ok (.invokespecial 39, 3) := by decide +kernel
theorem own_d8_18 : decode prog_7_method_2_code 18 = .ok (.areturn, 1) := by decide +kernel
theorem own_pn_own_without : plainName "com/example/outcomist/outcomist/Catalogue$Proxy" = true := by first | (simp [plainName, overriddenIn]; done) | decide +kernel
theorem own_ef_own_without (m : MethodId) (x0 : Addr) : entryFrame m #[(.ref x0)] 1 = mkF m 0 #[.val (.ref x0)] [] := by first | (simp [entryFrame, mkF, argsToLocals, Value.category]; done) | rfl
def Q_own_without (Z : State) (a1 : Addr) (aEMPTY_SET : Addr) (aEMPTY_MAP : Addr) (h0 : Heap) (n0 : Nat) (v : Option Value) (h : Heap) (L : List Loc) : Prop := ∃ b : Addr, v = some (.ref b) ∧ Fr n0 L ∧ Keep h0 h [] ∧ Exa Z h b "com/example/outcomist/outcomist/Catalogue$Proxy" ∧ Fld Z h b "com/example/outcomist/outcomist/Catalogue$Proxy" "codingSystem" "Ljava/lang/String;" .null
set_option maxRecDepth 65536 in
set_option maxHeartbeats 40000000 in
theorem own_without (l : Launch) (Z : State) (a0 : Array Value) (hw : ∀ d ∈ tables_1, d.before a0 Z = true) (ws : List Jvm.Cond) (a1 : Addr) (aEMPTY_SET : Addr) (aEMPTY_MAP : Addr) (h0 : Heap) (n0 : Nat) (Z0 : n0 ≤ h0.size) (S_ES : Sta Z Z.heap "java/util/ImmutableCollections" "EMPTY_SET" "Ljava/util/ImmutableCollections$SetN;" (.ref aEMPTY_SET)) (S_EM : Sta Z Z.heap "java/util/ImmutableCollections" "EMPTY_MAP" "Ljava/util/ImmutableCollections$MapN;" (.ref aEMPTY_MAP)) (O0 : Old Z n0 h0) :
    MetFree l (⟨"com/example/outcomist/outcomist/Catalogue$Proxy", "withoutCoding", "(Ljava/util/List;)Lcom/example/outcomist/outcomist/Catalogue$Proxy;"⟩ : MethodName) (head1 (Jvm.Cond.code (⟨"com/example/outcomist/outcomist/Catalogue$Proxy", "withoutCoding", "(Ljava/util/List;)Lcom/example/outcomist/outcomist/Catalogue$Proxy;"⟩ : MethodName) prog_7_method_2_code 1 (some (.object "com/example/outcomist/outcomist/Catalogue$Proxy")) :: ws) ({ frames := 3, cells := 1, slots := 5, locals := 42 } : Room)) (fun a U => a = #[(.ref a1)] ∧ Z.Warmed39 U.vm ∧ U.heap = h0) (fun _ _ _ _ _ => True) (fun _ U o U' => ∃ v L, o = .returned v ∧ Q_own_without Z a1 aEMPTY_SET aEMPTY_MAP h0 n0 v U'.heap L ∧ FrameEnd U o U' L ({ frames := 3, cells := 1, slots := 5, locals := 42 } : Room).cells ({ frames := 3, cells := 1, slots := 5, locals := 42 } : Room).slots) := by
  refine MetFree.of_bodySF (plainFor_of_name own_pn_own_without) hisR ?_
  intro p e s m args below meth c s₁ Bd hml0 hP hK
  obtain ⟨rfl, hZ, hh⟩ := hP
  have hx := Bd.exec
  have hby := Bd.bytes
  have hml : c.maxLocals = 1 := hml0
  have hown : s.vm.findClass "com/example/outcomist/outcomist/Catalogue$Proxy" = some m.cls := findClass_of_methodNamed Bd.named
  have hnm := (name_of_methodNamed Bd.named Bd.method).1
  have X0 : Stand p l e ({ frames := 3, cells := 1, slots := 5, locals := 42 } : Room) s m #[(.ref a1)] below meth c s₁ [] 0 0 := Stand.of_body Bd
  have e0 : s₁.heap = h0 := by rw [← hh, Bd.state]; rfl
  have N0 := Fr.nil n0
  have pre0 : Goes p e below s₁ (entryFrame m #[(.ref a1)] 1) s₁ (mkF m 0 #[.val (.ref a1)] []) := fun t k => castTop (own_ef_own_without m a1) k
  obtain ⟨T1, h1, X1, e1, E1, A1, DD1, -, st1⟩ := newO X0 hx hZ hown (hw _ (List.mem_of_getElem? (i := 56) rfl)) (hw _ (List.mem_of_getElem? (i := 27) rfl)) (hw _ (List.mem_of_getElem? (i := 28) rfl)) e0 (g := (mkF m 0 #[.val (.ref a1)] [])) rfl (hb hby own_d8_0) (by decide) (by decide)
  obtain ⟨b1, g1⟩ : ∃ z, z = h0.size := ⟨_, rfl⟩
  rw [← g1] at A1 DD1 st1
  have F_codingSystem_b1 : Fld Z h1 b1 "com/example/outcomist/outcomist/Catalogue$Proxy" "codingSystem" "Ljava/lang/String;" .null := DD1 (Or.inr (hw _ (List.mem_of_getElem? (i := 39) rfl))) (ty := (.object "java/lang/String")) (by decide)
  have F_outcomes_b1 : Fld Z h1 b1 "com/example/outcomist/outcomist/Catalogue$Proxy" "outcomes" "Ljava/util/List;" .null := DD1 (Or.inr (hw _ (List.mem_of_getElem? (i := 41) rfl))) (ty := (.object "java/util/List")) (by decide)
  have F_severityVariants_b1 : Fld Z h1 b1 "com/example/outcomist/outcomist/Catalogue$Proxy" "severityVariants" "Ljava/util/Set;" .null := DD1 (Or.inr (hw _ (List.mem_of_getElem? (i := 43) rfl))) (ty := (.object "java/util/Set")) (by decide)
  have F_issueTypeVariants_b1 : Fld Z h1 b1 "com/example/outcomist/outcomist/Catalogue$Proxy" "issueTypeVariants" "Ljava/util/Map;" .null := DD1 (Or.inr (hw _ (List.mem_of_getElem? (i := 45) rfl))) (ty := (.object "java/util/Map")) (by decide)
  have F_codingSystemVariants_b1 : Fld Z h1 b1 "com/example/outcomist/outcomist/Catalogue$Proxy" "codingSystemVariants" "Ljava/util/Set;" .null := DD1 (Or.inr (hw _ (List.mem_of_getElem? (i := 47) rfl))) (ty := (.object "java/util/Set")) (by decide)
  have g_b1 : n0 ≤ b1 := Nat.le_trans Z0 (Nat.le_of_eq g1.symm)
  have sz_b1 : h0.size ≤ b1 := (Nat.le_trans (Keep.refl h0 []).1 (Nat.le_of_eq g1.symm))
  have K1 : Keep h0 h1 [] := (Keep.refl h0 []).ext E1
  have pre2 : Goes p e below s₁ (entryFrame m #[(.ref a1)] 1) T1 (mkF m 3 #[.val (.ref a1)] [(.ref b1)]) := fun t kt => pre0 t (st1 t kt)
  have pre3 : Goes p e below s₁ (entryFrame m #[(.ref a1)] 1) T1 (mkF m 6 #[.val (.ref a1)] [(.ref a1), .null, (.ref b1), (.ref b1)]) := fun t kt => pre2 t (by
      show Steps p.tables e below (T1.setTop (mkF m 3 #[.val (.ref a1)] [(.ref b1)])) _
      refine XS.dup X1.here hx rfl (hb hby own_d8_3) rfl rfl ?_
      show Steps p.tables e below (T1.setTop (mkF m 4 #[.val (.ref a1)] [(.ref b1), (.ref b1)])) _
      refine XS.aconstNull X1.here hx rfl (hb hby own_d8_4) ?_
      show Steps p.tables e below (T1.setTop (mkF m 5 #[.val (.ref a1)] [.null, (.ref b1), (.ref b1)])) _
      refine XS.aloadN X1.here hx rfl (hb hby own_d8_5) rfl rfl ?_
      exact kt)
  obtain ⟨_, _, ⟨T4, L4, k4, n4⟩, -, X4, ⟨Lc4, hQ4, l4, y4, z4⟩, st4⟩ := Jvm.LawKit.callS X1 hx (y := (⟨"java/util/Set", "of", "()Ljava/util/Set;"⟩ : MethodName)) hown (mvT hZ (hw _ (List.mem_of_getElem? (i := 57) rfl))) (mvT hZ (hw _ (List.mem_of_getElem? (i := 58) rfl))) (mvT hZ (hw _ (List.mem_of_getElem? (i := 59) rfl))) (mvT hZ (hw _ (List.mem_of_getElem? (i := 60) rfl))) (by decide) (backOf (W := 4) (own_setOf l Z a0 hw [] aEMPTY_SET h1 n0 (Nat.le_trans Z0 E1.1) (S_ES.ext (O0.ext E1).2)) hZ (hw _ (List.mem_of_getElem? (i := 60) rfl)) (hw _ (List.mem_of_getElem? (i := 59) rfl)) (by decide) (by decide)) (g := (mkF m 6 #[.val (.ref a1)] [(.ref a1), .null, (.ref b1), (.ref b1)])) rfl (by rw [hml]; rfl) (argsL := []) (rest := [(.ref a1), .null, (.ref b1), (.ref b1)]) (lenOf own_pd5 rfl) rfl (by show 2 * 0 + _ ≤ _; exact Nat.le_of_eq rfl) (hb hby own_d8_6) (fun _ _ => ⟨rfl, e1, (by decide : 1 + 0 ≤ _), (by decide : 5 + 0 ≤ _)⟩)
  dsimp only [Pt.U, Pt.locs, Pt.cells, Pt.slots] at X4 l4 y4 z4 st4 hQ4
  subst l4 y4 z4
  obtain ⟨rfl, N4q, e4⟩ := hQ4
  have N4 := Fr.app N0 N4q
  have pre5 : Goes p e below s₁ (entryFrame m #[(.ref a1)] 1) T4 (mkF m 9 #[.val (.ref a1)] [(.ref aEMPTY_SET), (.ref a1), .null, (.ref b1), (.ref b1)]) := fun t kt => pre3 t (st4 t kt)
  obtain ⟨_, _, ⟨T6, L6, k6, n6⟩, -, X6, ⟨Lc6, hQ6, l6, y6, z6⟩, st6⟩ := Jvm.LawKit.callS X4 hx (y := (⟨"java/util/Map", "of", "()Ljava/util/Map;"⟩ : MethodName)) hown (mvT hZ (hw _ (List.mem_of_getElem? (i := 63) rfl))) (mvT hZ (hw _ (List.mem_of_getElem? (i := 64) rfl))) (mvT hZ (hw _ (List.mem_of_getElem? (i := 65) rfl))) (mvT hZ (hw _ (List.mem_of_getElem? (i := 66) rfl))) (by decide) (backOf (W := 5) (own_mapOf l Z a0 hw [] aEMPTY_MAP h1 n0 (Nat.le_trans Z0 E1.1) (S_EM.ext (O0.ext E1).2)) hZ (hw _ (List.mem_of_getElem? (i := 66) rfl)) (hw _ (List.mem_of_getElem? (i := 65) rfl)) (by decide) (by decide)) (g := (mkF m 9 #[.val (.ref a1)] [(.ref aEMPTY_SET), (.ref a1), .null, (.ref b1), (.ref b1)])) rfl (by rw [hml]; rfl) (argsL := []) (rest := [(.ref aEMPTY_SET), (.ref a1), .null, (.ref b1), (.ref b1)]) (lenOf own_pd6 rfl) rfl (by show 2 * 0 + _ ≤ _; exact Nat.le_of_eq rfl) (hb hby own_d8_9) (fun _ _ => ⟨rfl, e4, (by decide : 1 + 0 ≤ _), (by decide : 5 + 0 ≤ _)⟩)
  dsimp only [Pt.U, Pt.locs, Pt.cells, Pt.slots] at X6 l6 y6 z6 st6 hQ6
  subst l6 y6 z6
  obtain ⟨rfl, N6q, e6⟩ := hQ6
  have N6 := Fr.app N4 N6q
  have pre7 : Goes p e below s₁ (entryFrame m #[(.ref a1)] 1) T6 (mkF m 12 #[.val (.ref a1)] [(.ref aEMPTY_MAP), (.ref aEMPTY_SET), (.ref a1), .null, (.ref b1), (.ref b1)]) := fun t kt => pre5 t (st6 t kt)
  obtain ⟨_, _, ⟨T8, L8, k8, n8⟩, -, X8, ⟨Lc8, hQ8, l8, y8, z8⟩, st8⟩ := Jvm.LawKit.callS X6 hx (y := (⟨"java/util/Set", "of", "()Ljava/util/Set;"⟩ : MethodName)) hown (mvT hZ (hw _ (List.mem_of_getElem? (i := 57) rfl))) (mvT hZ (hw _ (List.mem_of_getElem? (i := 58) rfl))) (mvT hZ (hw _ (List.mem_of_getElem? (i := 59) rfl))) (mvT hZ (hw _ (List.mem_of_getElem? (i := 60) rfl))) (by decide) (backOf (W := 6) (own_setOf l Z a0 hw [] aEMPTY_SET h1 n0 (Nat.le_trans Z0 E1.1) (S_ES.ext (O0.ext E1).2)) hZ (hw _ (List.mem_of_getElem? (i := 60) rfl)) (hw _ (List.mem_of_getElem? (i := 59) rfl)) (by decide) (by decide)) (g := (mkF m 12 #[.val (.ref a1)] [(.ref aEMPTY_MAP), (.ref aEMPTY_SET), (.ref a1), .null, (.ref b1), (.ref b1)])) rfl (by rw [hml]; rfl) (argsL := []) (rest := [(.ref aEMPTY_MAP), (.ref aEMPTY_SET), (.ref a1), .null, (.ref b1), (.ref b1)]) (lenOf own_pd5 rfl) rfl (by show 2 * 0 + _ ≤ _; exact Nat.le_of_eq rfl) (hb hby own_d8_12) (fun _ _ => ⟨rfl, e6, (by decide : 1 + 0 ≤ _), (by decide : 5 + 0 ≤ _)⟩)
  dsimp only [Pt.U, Pt.locs, Pt.cells, Pt.slots] at X8 l8 y8 z8 st8 hQ8
  subst l8 y8 z8
  obtain ⟨rfl, N8q, e8⟩ := hQ8
  have N8 := Fr.app N6 N8q
  have pre9 : Goes p e below s₁ (entryFrame m #[(.ref a1)] 1) T8 (mkF m 15 #[.val (.ref a1)] [(.ref aEMPTY_SET), (.ref aEMPTY_MAP), (.ref aEMPTY_SET), (.ref a1), .null, (.ref b1), (.ref b1)]) := fun t kt => pre7 t (st8 t kt)
  obtain ⟨_, _, ⟨T10, L10, k10, n10⟩, -, X10, ⟨Lc10, hQ10, l10, y10, z10⟩, st10⟩ := X8.specialBack hx (y := (⟨"com/example/outcomist/outcomist/Catalogue$Proxy", "<init>", "(Ljava/lang/String;Ljava/util/List;Ljava/util/Set;Ljava/util/Map;Ljava/util/Set;)V"⟩ : MethodName)) rfl hown (mvT hZ (hw _ (List.mem_of_getElem? (i := 68) rfl))) (mvT hZ (hw _ (List.mem_of_getElem? (i := 30) rfl))) (mvT hZ (hw _ (List.mem_of_getElem? (i := 31) rfl))) (by decide) (backOf (W := 1) (own_pxW l Z a0 hw [] b1 a1 aEMPTY_SET aEMPTY_MAP aEMPTY_SET h1 n0 (Nat.le_trans Z0 E1.1) A1 F_codingSystem_b1 F_outcomes_b1 F_severityVariants_b1 F_issueTypeVariants_b1 F_codingSystemVariants_b1 g_b1) hZ (hw _ (List.mem_of_getElem? (i := 31) rfl)) (hw _ (List.mem_of_getElem? (i := 28) rfl)) (by decide) (by decide)) (g := (mkF m 15 #[.val (.ref a1)] [(.ref aEMPTY_SET), (.ref aEMPTY_MAP), (.ref aEMPTY_SET), (.ref a1), .null, (.ref b1), (.ref b1)])) rfl (by rw [hml]; rfl) (Steps.refl _) (a := b1) (argsL := [.null, (.ref a1), (.ref aEMPTY_SET), (.ref aEMPTY_MAP), (.ref aEMPTY_SET)]) (rest := [(.ref b1)]) (lenOf own_pd7 rfl) rfl (by show 2 * 0 + _ ≤ _; exact Nat.le_of_eq rfl) (hb hby own_d8_15) (fun _ _ => ⟨rfl, e8, (by decide : 1 + 0 ≤ _), (by decide : 5 + 0 ≤ _)⟩)
  dsimp only [Pt.U, Pt.locs, Pt.cells, Pt.slots] at X10 l10 y10 z10 st10 hQ10
  subst l10 y10 z10
  obtain ⟨rfl, N10q, K10q, Eb10, Fb10⟩ := hQ10
  have N10 := Fr.app N8 N10q
  have KC10 : Keep h0 T10.heap [] := K1.trans K10q (allS (Or.inr sz_b1) all0)
  have pre11 : Goes p e below s₁ (entryFrame m #[(.ref a1)] 1) T10 (mkF m 18 #[.val (.ref a1)] [(.ref b1)]) := fun t kt => pre9 t (st10.trans kt)
  obtain ⟨fs, hr, hrun, hended, hW, hsame⟩ := X10.leave (v := some (.ref b1)) (fun h => by rw [Bd.returns] at h; cases h)
  refine ⟨_, _, pre11 _ ?_, hrun, hended, _, _, rfl, ?_, ⟨_, rfl⟩, hW, hsame.mono (by decide) (by decide)⟩
  · show Steps p.tables e below (T10.setTop (mkF m 18 #[.val (.ref a1)] [(.ref b1)])) _
    jvm_step X10.here [X10.here.top, hx, (hb hby own_d8_18), X10.method', Bd.returns, Value.isRef, FieldType.isReference]
    first | (intro acts; rw [hr _ acts rfl rfl rfl]) | rw [hr _ _ rfl rfl rfl]
    exact Steps.refl _
  · show Q_own_without Z a1 aEMPTY_SET aEMPTY_MAP h0 n0 _ T10.heap _
    exact ⟨b1, rfl, N10, KC10, Eb10, Fb10⟩
theorem own_pn_own_rm0 : plainName "com/example/outcomist/outcomist/ProxyCodedPinLaw" = true := by first | (simp [plainName, overriddenIn]; done) | decide +kernel
theorem own_ef_own_rm0 (m : MethodId) (x0 : Int32) (x1 : Int32) (x2 : Int32) : entryFrame m #[(.int x0), (.int x1), (.int x2)] maxLocals = mkF m 0 #[.val (.int x0), .val (.int x1), .val (.int x2), .unset, .unset, .unset, .unset, .unset, .unset, .unset] [] := by first | (simp [entryFrame, mkF, argsToLocals, Value.category, maxLocals]; done) | rfl
def Q_own_rm0 (Z : State) (flag : Int32) (c0 : Int32) (c1 : Int32) (cs : Int32) (aDEFAULTCAPACITY_EMPTY_ELEMENTDATA : Addr) (aEMPTY_SET : Addr) (aEMPTY_MAP : Addr) (h0 : Heap) (n0 : Nat) (v : Option Value) (h : Heap) (L : List Loc) : Prop := v = some (.int (1 : Int32)) ∧ Fr n0 L
set_option maxRecDepth 65536 in
set_option maxHeartbeats 40000000 in
theorem own_rm0 (l : Launch) (Z : State) (a0 : Array Value) (hw : ∀ d ∈ tables_1, d.before a0 Z = true) (ws : List Jvm.Cond) (flag : Int32) (c0 : Int32) (c1 : Int32) (cs : Int32) (aDEFAULTCAPACITY_EMPTY_ELEMENTDATA : Addr) (aEMPTY_SET : Addr) (aEMPTY_MAP : Addr) (h0 : Heap) (n0 : Nat) (Z0 : n0 ≤ h0.size) (S_CS : Sta Z Z.heap "java/lang/String" "COMPACT_STRINGS" "Z" (.int cs)) (hcs : ¬ (cs = (0 : Int32))) (O0 : Old Z n0 h0) (S_DC : Sta Z Z.heap "java/util/ArrayList" "DEFAULTCAPACITY_EMPTY_ELEMENTDATA" "[Ljava/lang/Object;" (.ref aDEFAULTCAPACITY_EMPTY_ELEMENTDATA)) (S_ES : Sta Z Z.heap "java/util/ImmutableCollections" "EMPTY_SET" "Ljava/util/ImmutableCollections$SetN;" (.ref aEMPTY_SET)) (S_EM : Sta Z Z.heap "java/util/ImmutableCollections" "EMPTY_MAP" "Ljava/util/ImmutableCollections$MapN;" (.ref aEMPTY_MAP)) :
    MetFree l x (head1 (Jvm.Cond.code x code maxLocals ret :: ws) room_1) (fun a U => a = #[(.int flag), (.int c0), (.int c1)] ∧ Z.Warmed39 U.vm ∧ U.heap = h0 ∧ CHv Z [("java/lang/String", 7)] U.vm h0) (fun _ _ _ _ _ => True) (fun _ U o U' => ∃ v L, o = .returned v ∧ Q_own_rm0 Z flag c0 c1 cs aDEFAULTCAPACITY_EMPTY_ELEMENTDATA aEMPTY_SET aEMPTY_MAP h0 n0 v U'.heap L ∧ CHr Z [("java/lang/String", 7)] U.vm U.heap U'.vm U'.heap ∧ ReturnedEndW U o U' L room_1.cells room_1.slots) := by
  refine MetFree.of_bodySF (plainFor_of_name own_pn_own_rm0) hisR ?_
  intro p e s m args below meth c s₁ Bd hml0 hP hK
  obtain ⟨rfl, hZ, hh, hCH⟩ := hP
  have hx := Bd.exec
  have hby := Bd.bytes
  have hml : c.maxLocals = 10 := hml0
  have hown : s.vm.findClass "com/example/outcomist/outcomist/ProxyCodedPinLaw" = some m.cls := findClass_of_methodNamed Bd.named
  have hnm := (name_of_methodNamed Bd.named Bd.method).1
  have X0 : Stand p l e room_1 s m #[(.int flag), (.int c0), (.int c1)] below meth c s₁ [] 0 0 := Stand.of_body Bd
  have e0 : s₁.heap = h0 := by rw [← hh, Bd.state]; rfl
  have N0 := Fr.nil n0
  have pre0 : Goes p e below s₁ (entryFrame m #[(.int flag), (.int c0), (.int c1)] maxLocals) s₁ (mkF m 0 #[.val (.int flag), .val (.int c0), .val (.int c1), .unset, .unset, .unset, .unset, .unset, .unset, .unset] []) := fun t k => castTop (own_ef_own_rm0 m flag c0 c1) k
  have hEL : EW Z a0 [("java/lang/String", 7)] := (EW.cons (hw _ (List.mem_of_getElem? (i := 81) rfl)) (by simp) EW.nil)
  have CH0 : CHr Z [("java/lang/String", 7)] s.vm h0 s.vm h0 := CHr.refl hCH
  have pre1 : Goes p e below s₁ (entryFrame m #[(.int flag), (.int c0), (.int c1)] maxLocals) s₁ (mkF m 5 #[.val (.int flag), .val (.int c0), .val (.int c1), .val (.int (flag &&& (3 : Int32))), .unset, .unset, .unset, .unset, .unset, .unset] [(.int (flag &&& (3 : Int32)))]) := fun t kt => pre0 t (by
      show Steps p.tables e below (s₁.setTop (mkF m 0 #[.val (.int flag), .val (.int c0), .val (.int c1), .unset, .unset, .unset, .unset, .unset, .unset, .unset] [])) _
      refine XS.iloadN X0.here hx rfl (hb hby at_0) rfl ?_
      show Steps p.tables e below (s₁.setTop (mkF m 1 #[.val (.int flag), .val (.int c0), .val (.int c1), .unset, .unset, .unset, .unset, .unset, .unset, .unset] [(.int flag)])) _
      refine XS.iconst X0.here hx rfl (hb hby at_1) ?_
      show Steps p.tables e below (s₁.setTop (mkF m 2 #[.val (.int flag), .val (.int c0), .val (.int c1), .unset, .unset, .unset, .unset, .unset, .unset, .unset] [(.int (3 : Int32)), (.int flag)])) _
      refine XS.iand X0.here hx rfl (hb hby at_2) rfl ?_
      show Steps p.tables e below (s₁.setTop (mkF m 3 #[.val (.int flag), .val (.int c0), .val (.int c1), .unset, .unset, .unset, .unset, .unset, .unset, .unset] [(.int (flag &&& (3 : Int32)))])) _
      refine XS.istoreN X0.here hx rfl (hb hby at_3) rfl (l' := #[.val (.int flag), .val (.int c0), .val (.int c1), .val (.int (flag &&& (3 : Int32))), .unset, .unset, .unset, .unset, .unset, .unset]) rfl ?_
      show Steps p.tables e below (s₁.setTop (mkF m 4 #[.val (.int flag), .val (.int c0), .val (.int c1), .val (.int (flag &&& (3 : Int32))), .unset, .unset, .unset, .unset, .unset, .unset] [])) _
      refine XS.iloadN X0.here hx rfl (hb hby at_4) rfl ?_
      exact kt)
  by_cases hc5_2 : (flag &&& (3 : Int32)) = (0 : Int32)
  · -- yes at pc 5: 
    have pre3 : Goes p e below s₁ (entryFrame m #[(.int flag), (.int c0), (.int c1)] maxLocals) s₁ (mkF m 104 #[.val (.int flag), .val (.int c0), .val (.int c1), .val (.int (flag &&& (3 : Int32))), .val .null, .unset, .unset, .unset, .unset, .unset] []) := fun t kt => pre1 t (by
        show Steps p.tables e below (s₁.setTop (mkF m 5 #[.val (.int flag), .val (.int c0), .val (.int c1), .val (.int (flag &&& (3 : Int32))), .unset, .unset, .unset, .unset, .unset, .unset] [(.int (flag &&& (3 : Int32)))])) _
        refine XS.ifNo X0.here hx rfl (hb hby at_5) rfl ((if0 _ _).trans (teq hc5_2).2) ?_
        show Steps p.tables e below (s₁.setTop (mkF m 8 #[.val (.int flag), .val (.int c0), .val (.int c1), .val (.int (flag &&& (3 : Int32))), .unset, .unset, .unset, .unset, .unset, .unset] [])) _
        refine XS.aconstNull X0.here hx rfl (hb hby at_8) ?_
        show Steps p.tables e below (s₁.setTop (mkF m 9 #[.val (.int flag), .val (.int c0), .val (.int c1), .val (.int (flag &&& (3 : Int32))), .unset, .unset, .unset, .unset, .unset, .unset] [.null])) _
        refine XS.astore X0.here hx rfl (hb hby at_9) rfl rfl (l' := #[.val (.int flag), .val (.int c0), .val (.int c1), .val (.int (flag &&& (3 : Int32))), .val .null, .unset, .unset, .unset, .unset, .unset]) rfl ?_
        show Steps p.tables e below (s₁.setTop (mkF m 11 #[.val (.int flag), .val (.int c0), .val (.int c1), .val (.int (flag &&& (3 : Int32))), .val .null, .unset, .unset, .unset, .unset, .unset] [])) _
        refine XS.goto X0.here hx rfl (pc0 := 11) (pc' := 104) rfl (hb hby at_11) (by decide) (by decide) ?_
        exact kt)
    obtain ⟨T4, h4, X4, e4, E4, A4, DD4, -, st4⟩ := newO X0 hx hZ hown (hw _ (List.mem_of_getElem? (i := 0) rfl)) (hw _ (List.mem_of_getElem? (i := 1) rfl)) (hw _ (List.mem_of_getElem? (i := 2) rfl)) e0 (g := (mkF m 104 #[.val (.int flag), .val (.int c0), .val (.int c1), .val (.int (flag &&& (3 : Int32))), .val .null, .unset, .unset, .unset, .unset, .unset] [])) rfl (hb hby at_104) (by decide) (by decide)
    obtain ⟨b4, g4⟩ : ∃ z, z = h0.size := ⟨_, rfl⟩
    rw [← g4] at A4 DD4 st4
    have F_modCount_b4 : Fld Z h4 b4 "java/util/AbstractList" "modCount" "I" (.int (0 : Int32)) := DD4 (Or.inl (hw _ (List.mem_of_getElem? (i := 22) rfl))) (ty := .int) (by decide)
    have F_elementData_b4 : Fld Z h4 b4 "java/util/ArrayList" "elementData" "[Ljava/lang/Object;" .null := DD4 (Or.inl (hw _ (List.mem_of_getElem? (i := 25) rfl))) (ty := (.array (.object "java/lang/Object"))) (by decide)
    have g_b4 : n0 ≤ b4 := Nat.le_trans Z0 (Nat.le_of_eq g4.symm)
    have sz_b4 : h0.size ≤ b4 := (Nat.le_trans (Keep.refl h0 []).1 (Nat.le_of_eq g4.symm))
    have K4 : Keep h0 h4 [] := (Keep.refl h0 []).ext E4
    have CH4 : CHr Z [("java/lang/String", 7)] s.vm h0 s.vm h4 := CH0.trans (CHr.ext E4 CH0.1)
    have pre5 : Goes p e below s₁ (entryFrame m #[(.int flag), (.int c0), (.int c1)] maxLocals) T4 (mkF m 107 #[.val (.int flag), .val (.int c0), .val (.int c1), .val (.int (flag &&& (3 : Int32))), .val .null, .unset, .unset, .unset, .unset, .unset] [(.ref b4)]) := fun t kt => pre3 t (st4 t kt)
    have pre6 : Goes p e below s₁ (entryFrame m #[(.int flag), (.int c0), (.int c1)] maxLocals) T4 (mkF m 108 #[.val (.int flag), .val (.int c0), .val (.int c1), .val (.int (flag &&& (3 : Int32))), .val .null, .unset, .unset, .unset, .unset, .unset] [(.ref b4), (.ref b4)]) := fun t kt => pre5 t (by
        show Steps p.tables e below (T4.setTop (mkF m 107 #[.val (.int flag), .val (.int c0), .val (.int c1), .val (.int (flag &&& (3 : Int32))), .val .null, .unset, .unset, .unset, .unset, .unset] [(.ref b4)])) _
        refine XS.dup X4.here hx rfl (hb hby at_107) rfl rfl ?_
        exact kt)
    obtain ⟨_, _, ⟨T7, L7, k7, n7⟩, -, X7, ⟨Lc7, hQ7, l7, y7, z7⟩, st7⟩ := X4.specialBack hx (y := (⟨"java/util/ArrayList", "<init>", "()V"⟩ : MethodName)) rfl hown (mvT hZ (hw _ (List.mem_of_getElem? (i := 3) rfl))) (mvT hZ (hw _ (List.mem_of_getElem? (i := 4) rfl))) (mvT hZ (hw _ (List.mem_of_getElem? (i := 5) rfl))) (by decide) (backOf (W := 1) (own_arl l Z a0 hw [] b4 aDEFAULTCAPACITY_EMPTY_ELEMENTDATA h4 n0 (Nat.le_trans Z0 E4.1) A4 F_modCount_b4 F_elementData_b4 g_b4 S_DC (O0.ext E4)) hZ (hw _ (List.mem_of_getElem? (i := 5) rfl)) (hw _ (List.mem_of_getElem? (i := 2) rfl)) (by decide) (by decide)) (g := (mkF m 108 #[.val (.int flag), .val (.int c0), .val (.int c1), .val (.int (flag &&& (3 : Int32))), .val .null, .unset, .unset, .unset, .unset, .unset] [(.ref b4), (.ref b4)])) rfl (by rw [hml]; rfl) (Steps.refl _) (a := b4) (argsL := []) (rest := [(.ref b4)]) (lenOf own_pd4 rfl) rfl (by show 2 * 0 + _ ≤ _; exact Nat.le_of_eq rfl) (hb hby at_108) (fun _ _ => ⟨rfl, e4, (by decide : 1 + 0 ≤ _), (by decide : 3 + 0 ≤ _)⟩)
    dsimp only [Pt.U, Pt.locs, Pt.cells, Pt.slots] at X7 l7 y7 z7 st7 hQ7
    subst l7 y7 z7
    obtain ⟨rfl, N7q, K7q⟩ := hQ7
    have N7 := Fr.app N0 N7q
    have KC7 : Keep h0 T7.heap [] := K4.trans K7q (allS (Or.inr sz_b4) all0)
    have CH7 : CHr Z [("java/lang/String", 7)] s.vm h0 s.vm T7.heap := CH4.trans (CHr.keep K7q (allS (Safe.exa hZ.alike A4 (by decide) (by decide)) all0) CH4.1)
    have pre8 : Goes p e below s₁ (entryFrame m #[(.int flag), (.int c0), (.int c1)] maxLocals) T7 (mkF m 111 #[.val (.int flag), .val (.int c0), .val (.int c1), .val (.int (flag &&& (3 : Int32))), .val .null, .unset, .unset, .unset, .unset, .unset] [(.ref b4)]) := fun t kt => pre6 t (st7.trans kt)
    have pre9 : Goes p e below s₁ (entryFrame m #[(.int flag), (.int c0), (.int c1)] maxLocals) T7 (mkF m 113 #[.val (.int flag), .val (.int c0), .val (.int c1), .val (.int (flag &&& (3 : Int32))), .val .null, .val (.ref b4), .unset, .unset, .unset, .unset] []) := fun t kt => pre8 t (by
        show Steps p.tables e below (T7.setTop (mkF m 111 #[.val (.int flag), .val (.int c0), .val (.int c1), .val (.int (flag &&& (3 : Int32))), .val .null, .unset, .unset, .unset, .unset, .unset] [(.ref b4)])) _
        refine XS.astore X7.here hx rfl (hb hby at_111) rfl rfl (l' := #[.val (.int flag), .val (.int c0), .val (.int c1), .val (.int (flag &&& (3 : Int32))), .val .null, .val (.ref b4), .unset, .unset, .unset, .unset]) rfl ?_
        exact kt)
    obtain ⟨T10, h10, X10, e10, E10, A10, DD10, -, st10⟩ := newO X7 hx hZ hown (hw _ (List.mem_of_getElem? (i := 26) rfl)) (hw _ (List.mem_of_getElem? (i := 27) rfl)) (hw _ (List.mem_of_getElem? (i := 28) rfl)) rfl (g := (mkF m 113 #[.val (.int flag), .val (.int c0), .val (.int c1), .val (.int (flag &&& (3 : Int32))), .val .null, .val (.ref b4), .unset, .unset, .unset, .unset] [])) rfl (hb hby at_113) (by decide) (by decide)
    obtain ⟨b10, g10⟩ : ∃ z, z = T7.heap.size := ⟨_, rfl⟩
    rw [← g10] at A10 DD10 st10
    have F_codingSystem_b10 : Fld Z h10 b10 "com/example/outcomist/outcomist/Catalogue$Proxy" "codingSystem" "Ljava/lang/String;" .null := DD10 (Or.inr (hw _ (List.mem_of_getElem? (i := 39) rfl))) (ty := (.object "java/lang/String")) (by decide)
    have F_outcomes_b10 : Fld Z h10 b10 "com/example/outcomist/outcomist/Catalogue$Proxy" "outcomes" "Ljava/util/List;" .null := DD10 (Or.inr (hw _ (List.mem_of_getElem? (i := 41) rfl))) (ty := (.object "java/util/List")) (by decide)
    have F_severityVariants_b10 : Fld Z h10 b10 "com/example/outcomist/outcomist/Catalogue$Proxy" "severityVariants" "Ljava/util/Set;" .null := DD10 (Or.inr (hw _ (List.mem_of_getElem? (i := 43) rfl))) (ty := (.object "java/util/Set")) (by decide)
    have F_issueTypeVariants_b10 : Fld Z h10 b10 "com/example/outcomist/outcomist/Catalogue$Proxy" "issueTypeVariants" "Ljava/util/Map;" .null := DD10 (Or.inr (hw _ (List.mem_of_getElem? (i := 45) rfl))) (ty := (.object "java/util/Map")) (by decide)
    have F_codingSystemVariants_b10 : Fld Z h10 b10 "com/example/outcomist/outcomist/Catalogue$Proxy" "codingSystemVariants" "Ljava/util/Set;" .null := DD10 (Or.inr (hw _ (List.mem_of_getElem? (i := 47) rfl))) (ty := (.object "java/util/Set")) (by decide)
    have g_b10 : n0 ≤ b10 := Nat.le_trans (Nat.le_trans (Nat.le_trans Z0 E4.1) K7q.1) (Nat.le_of_eq g10.symm)
    have sz_b10 : h0.size ≤ b10 := (Nat.le_trans KC7.1 (Nat.le_of_eq g10.symm))
    have K10 : Keep h0 h10 [] := KC7.ext E10
    have CH10 : CHr Z [("java/lang/String", 7)] s.vm h0 s.vm h10 := CH7.trans (CHr.ext E10 CH7.1)
    have pre11 : Goes p e below s₁ (entryFrame m #[(.int flag), (.int c0), (.int c1)] maxLocals) T10 (mkF m 116 #[.val (.int flag), .val (.int c0), .val (.int c1), .val (.int (flag &&& (3 : Int32))), .val .null, .val (.ref b4), .unset, .unset, .unset, .unset] [(.ref b10)]) := fun t kt => pre9 t (st10 t kt)
    have pre12 : Goes p e below s₁ (entryFrame m #[(.int flag), (.int c0), (.int c1)] maxLocals) T10 (mkF m 124 #[.val (.int flag), .val (.int c0), .val (.int c1), .val (.int (flag &&& (3 : Int32))), .val .null, .val (.ref b4), .unset, .unset, .unset, .unset] [.null, .null, .null, (.ref b4), .null, (.ref b10), (.ref b10)]) := fun t kt => pre11 t (by
        show Steps p.tables e below (T10.setTop (mkF m 116 #[.val (.int flag), .val (.int c0), .val (.int c1), .val (.int (flag &&& (3 : Int32))), .val .null, .val (.ref b4), .unset, .unset, .unset, .unset] [(.ref b10)])) _
        refine XS.dup X10.here hx rfl (hb hby at_116) rfl rfl ?_
        show Steps p.tables e below (T10.setTop (mkF m 117 #[.val (.int flag), .val (.int c0), .val (.int c1), .val (.int (flag &&& (3 : Int32))), .val .null, .val (.ref b4), .unset, .unset, .unset, .unset] [(.ref b10), (.ref b10)])) _
        refine XS.aload X10.here hx rfl (hb hby at_117) rfl rfl ?_
        show Steps p.tables e below (T10.setTop (mkF m 119 #[.val (.int flag), .val (.int c0), .val (.int c1), .val (.int (flag &&& (3 : Int32))), .val .null, .val (.ref b4), .unset, .unset, .unset, .unset] [.null, (.ref b10), (.ref b10)])) _
        refine XS.aload X10.here hx rfl (hb hby at_119) rfl rfl ?_
        show Steps p.tables e below (T10.setTop (mkF m 121 #[.val (.int flag), .val (.int c0), .val (.int c1), .val (.int (flag &&& (3 : Int32))), .val .null, .val (.ref b4), .unset, .unset, .unset, .unset] [(.ref b4), .null, (.ref b10), (.ref b10)])) _
        refine XS.aconstNull X10.here hx rfl (hb hby at_121) ?_
        show Steps p.tables e below (T10.setTop (mkF m 122 #[.val (.int flag), .val (.int c0), .val (.int c1), .val (.int (flag &&& (3 : Int32))), .val .null, .val (.ref b4), .unset, .unset, .unset, .unset] [.null, (.ref b4), .null, (.ref b10), (.ref b10)])) _
        refine XS.aconstNull X10.here hx rfl (hb hby at_122) ?_
        show Steps p.tables e below (T10.setTop (mkF m 123 #[.val (.int flag), .val (.int c0), .val (.int c1), .val (.int (flag &&& (3 : Int32))), .val .null, .val (.ref b4), .unset, .unset, .unset, .unset] [.null, .null, (.ref b4), .null, (.ref b10), (.ref b10)])) _
        refine XS.aconstNull X10.here hx rfl (hb hby at_123) ?_
        exact kt)
    obtain ⟨_, _, ⟨T13, L13, k13, n13⟩, -, X13, ⟨Lc13, hQ13, l13, y13, z13⟩, st13⟩ := X10.specialBack hx (y := (⟨"com/example/outcomist/outcomist/Catalogue$Proxy", "<init>", "(Ljava/lang/String;Ljava/util/List;Ljava/util/Set;Ljava/util/Map;Ljava/util/Set;)V"⟩ : MethodName)) rfl hown (mvT hZ (hw _ (List.mem_of_getElem? (i := 29) rfl))) (mvT hZ (hw _ (List.mem_of_getElem? (i := 30) rfl))) (mvT hZ (hw _ (List.mem_of_getElem? (i := 31) rfl))) (by decide) (backOf (W := 1) (own_pxN l Z a0 hw [] b10 b4 h10 n0 (Nat.le_trans (Nat.le_trans (Nat.le_trans Z0 E4.1) K7q.1) E10.1) A10 F_codingSystem_b10 F_outcomes_b10 F_severityVariants_b10 F_issueTypeVariants_b10 F_codingSystemVariants_b10 g_b10) hZ (hw _ (List.mem_of_getElem? (i := 31) rfl)) (hw _ (List.mem_of_getElem? (i := 28) rfl)) (by decide) (by decide)) (g := (mkF m 124 #[.val (.int flag), .val (.int c0), .val (.int c1), .val (.int (flag &&& (3 : Int32))), .val .null, .val (.ref b4), .unset, .unset, .unset, .unset] [.null, .null, .null, (.ref b4), .null, (.ref b10), (.ref b10)])) rfl (by rw [hml]; rfl) (Steps.refl _) (a := b10) (argsL := [.null, (.ref b4), .null, .null, .null]) (rest := [(.ref b10)]) (lenOf own_pd7 rfl) rfl (by show 2 * 0 + _ ≤ _; exact Nat.le_of_eq rfl) (hb hby at_124) (fun _ _ => ⟨rfl, e10, (by decide : 2 + 0 ≤ _), (by decide : 8 + 0 ≤ _)⟩)
    dsimp only [Pt.U, Pt.locs, Pt.cells, Pt.slots] at X13 l13 y13 z13 st13 hQ13
    subst l13 y13 z13
    obtain ⟨rfl, N13q, K13q, Eb13, Fb13⟩ := hQ13
    have N13 := Fr.app N7 N13q
    have KC13 : Keep h0 T13.heap [] := K10.trans K13q (allS (Or.inr sz_b10) all0)
    have CH13 : CHr Z [("java/lang/String", 7)] s.vm h0 s.vm T13.heap := CH10.trans (CHr.keep K13q (allS (Safe.exa hZ.alike A10 (by decide) (by decide)) all0) CH10.1)
    have pre14 : Goes p e below s₁ (entryFrame m #[(.int flag), (.int c0), (.int c1)] maxLocals) T13 (mkF m 127 #[.val (.int flag), .val (.int c0), .val (.int c1), .val (.int (flag &&& (3 : Int32))), .val .null, .val (.ref b4), .unset, .unset, .unset, .unset] [(.ref b10)]) := fun t kt => pre12 t (st13.trans kt)
    have pre15 : Goes p e below s₁ (entryFrame m #[(.int flag), (.int c0), (.int c1)] maxLocals) T13 (mkF m 142 #[.val (.int flag), .val (.int c0), .val (.int c1), .val (.int (flag &&& (3 : Int32))), .val .null, .val (.ref b4), .val (.ref b10), .val (.int (0 : Int32)), .unset, .unset] [(.ref b10)]) := fun t kt => pre14 t (by
        show Steps p.tables e below (T13.setTop (mkF m 127 #[.val (.int flag), .val (.int c0), .val (.int c1), .val (.int (flag &&& (3 : Int32))), .val .null, .val (.ref b4), .unset, .unset, .unset, .unset] [(.ref b10)])) _
        refine XS.astore X13.here hx rfl (hb hby at_127) rfl rfl (l' := #[.val (.int flag), .val (.int c0), .val (.int c1), .val (.int (flag &&& (3 : Int32))), .val .null, .val (.ref b4), .val (.ref b10), .unset, .unset, .unset]) rfl ?_
        show Steps p.tables e below (T13.setTop (mkF m 129 #[.val (.int flag), .val (.int c0), .val (.int c1), .val (.int (flag &&& (3 : Int32))), .val .null, .val (.ref b4), .val (.ref b10), .unset, .unset, .unset] [])) _
        refine XS.iloadN X13.here hx rfl (hb hby at_129) rfl ?_
        show Steps p.tables e below (T13.setTop (mkF m 130 #[.val (.int flag), .val (.int c0), .val (.int c1), .val (.int (flag &&& (3 : Int32))), .val .null, .val (.ref b4), .val (.ref b10), .unset, .unset, .unset] [(.int (flag &&& (3 : Int32)))])) _
        refine XS.ifYes X13.here hx rfl (pc0 := 130) (pc' := 137) rfl (hb hby at_130) rfl ((if0 _ _).trans (teq hc5_2).1) (by decide) (by decide) ?_
        show Steps p.tables e below (T13.setTop (mkF m 137 #[.val (.int flag), .val (.int c0), .val (.int c1), .val (.int (flag &&& (3 : Int32))), .val .null, .val (.ref b4), .val (.ref b10), .unset, .unset, .unset] [])) _
        refine XS.iconst X13.here hx rfl (hb hby at_137) ?_
        show Steps p.tables e below (T13.setTop (mkF m 138 #[.val (.int flag), .val (.int c0), .val (.int c1), .val (.int (flag &&& (3 : Int32))), .val .null, .val (.ref b4), .val (.ref b10), .unset, .unset, .unset] [(.int (0 : Int32))])) _
        refine XS.istore X13.here hx rfl (hb hby at_138) rfl (l' := #[.val (.int flag), .val (.int c0), .val (.int c1), .val (.int (flag &&& (3 : Int32))), .val .null, .val (.ref b4), .val (.ref b10), .val (.int (0 : Int32)), .unset, .unset]) rfl ?_
        show Steps p.tables e below (T13.setTop (mkF m 140 #[.val (.int flag), .val (.int c0), .val (.int c1), .val (.int (flag &&& (3 : Int32))), .val .null, .val (.ref b4), .val (.ref b10), .val (.int (0 : Int32)), .unset, .unset] [])) _
        refine XS.aload X13.here hx rfl (hb hby at_140) rfl rfl ?_
        exact kt)
    obtain ⟨cq16, kq16, q16a, q16b, q16c⟩ := isOf hZ rfl Eb13
    obtain ⟨_, _, ⟨T16, L16, k16, n16⟩, -, X16, ⟨Lc16, hQ16, l16, y16, z16⟩, st16⟩ := X13.virtualBack hx (y := (⟨"com/example/outcomist/outcomist/Catalogue$Proxy", "coded", "()Z"⟩ : MethodName)) (z := (⟨"com/example/outcomist/outcomist/Catalogue$Proxy", "coded", "()Z"⟩ : MethodName)) hown (mvT hZ (hw _ (List.mem_of_getElem? (i := 48) rfl))) (mvT hZ (hw _ (List.mem_of_getElem? (i := 49) rfl))) (notFace_of_selects (args := #[]) (mvT hZ (hw _ (List.mem_of_getElem? (i := 51) rfl)))) (mvT hZ (hw _ (List.mem_of_getElem? (i := 51) rfl))) (mvT hZ (hw _ (List.mem_of_getElem? (i := 50) rfl))) (by decide) (backOf (W := 0) (own_cdN l Z a0 hw [] b10 T13.heap n0 (Nat.le_trans (Nat.le_trans (Nat.le_trans (Nat.le_trans Z0 E4.1) K7q.1) E10.1) K13q.1) Fb13) hZ (hw _ (List.mem_of_getElem? (i := 52) rfl)) (hw _ (List.mem_of_getElem? (i := 28) rfl)) (by decide) (by decide)) q16a q16c (g := (mkF m 142 #[.val (.int flag), .val (.int c0), .val (.int c1), .val (.int (flag &&& (3 : Int32))), .val .null, .val (.ref b4), .val (.ref b10), .val (.int (0 : Int32)), .unset, .unset] [(.ref b10)])) rfl (by rw [hml]; rfl) (Steps.refl _) (argsL := []) (rest := []) (lenOf own_pd8 rfl) rfl (by show 2 * 0 + _ ≤ _; exact Nat.le_of_eq rfl) (hb hby at_142) (fun _ _ => ⟨rfl, rfl, (by decide : 2 + 0 ≤ _), (by decide : 8 + 0 ≤ _)⟩)
    dsimp only [Pt.U, Pt.locs, Pt.cells, Pt.slots] at X16 l16 y16 z16 st16 hQ16
    subst l16 y16 z16
    obtain ⟨rfl, N16q, e16⟩ := hQ16
    have N16 := Fr.app N13 N16q
    have pre17 : Goes p e below s₁ (entryFrame m #[(.int flag), (.int c0), (.int c1)] maxLocals) T16 (mkF m 145 #[.val (.int flag), .val (.int c0), .val (.int c1), .val (.int (flag &&& (3 : Int32))), .val .null, .val (.ref b4), .val (.ref b10), .val (.int (0 : Int32)), .unset, .unset] [(.int (0 : Int32))]) := fun t kt => pre15 t (st16.trans kt)
    have pre18 : Goes p e below s₁ (entryFrame m #[(.int flag), (.int c0), (.int c1)] maxLocals) T16 (mkF m 159 #[.val (.int flag), .val (.int c0), .val (.int c1), .val (.int (flag &&& (3 : Int32))), .val .null, .val (.ref b4), .val (.ref b10), .val (.int (0 : Int32)), .val (.int (1 : Int32)), .unset] [(.ref b4)]) := fun t kt => pre17 t (by
        show Steps p.tables e below (T16.setTop (mkF m 145 #[.val (.int flag), .val (.int c0), .val (.int c1), .val (.int (flag &&& (3 : Int32))), .val .null, .val (.ref b4), .val (.ref b10), .val (.int (0 : Int32)), .unset, .unset] [(.int (0 : Int32))])) _
        refine XS.iload X16.here hx rfl (hb hby at_145) rfl ?_
        show Steps p.tables e below (T16.setTop (mkF m 147 #[.val (.int flag), .val (.int c0), .val (.int c1), .val (.int (flag &&& (3 : Int32))), .val .null, .val (.ref b4), .val (.ref b10), .val (.int (0 : Int32)), .unset, .unset] [(.int (0 : Int32)), (.int (0 : Int32))])) _
        refine XS.icmpNo X16.here hx rfl (hb hby at_147) rfl (teq (by decide : (0 : Int32) = (0 : Int32))).2 ?_
        show Steps p.tables e below (T16.setTop (mkF m 150 #[.val (.int flag), .val (.int c0), .val (.int c1), .val (.int (flag &&& (3 : Int32))), .val .null, .val (.ref b4), .val (.ref b10), .val (.int (0 : Int32)), .unset, .unset] [])) _
        refine XS.iconst X16.here hx rfl (hb hby at_150) ?_
        show Steps p.tables e below (T16.setTop (mkF m 151 #[.val (.int flag), .val (.int c0), .val (.int c1), .val (.int (flag &&& (3 : Int32))), .val .null, .val (.ref b4), .val (.ref b10), .val (.int (0 : Int32)), .unset, .unset] [(.int (1 : Int32))])) _
        refine XS.goto X16.here hx rfl (pc0 := 151) (pc' := 155) rfl (hb hby at_151) (by decide) (by decide) ?_
        show Steps p.tables e below (T16.setTop (mkF m 155 #[.val (.int flag), .val (.int c0), .val (.int c1), .val (.int (flag &&& (3 : Int32))), .val .null, .val (.ref b4), .val (.ref b10), .val (.int (0 : Int32)), .unset, .unset] [(.int (1 : Int32))])) _
        refine XS.istore X16.here hx rfl (hb hby at_155) rfl (l' := #[.val (.int flag), .val (.int c0), .val (.int c1), .val (.int (flag &&& (3 : Int32))), .val .null, .val (.ref b4), .val (.ref b10), .val (.int (0 : Int32)), .val (.int (1 : Int32)), .unset]) rfl ?_
        show Steps p.tables e below (T16.setTop (mkF m 157 #[.val (.int flag), .val (.int c0), .val (.int c1), .val (.int (flag &&& (3 : Int32))), .val .null, .val (.ref b4), .val (.ref b10), .val (.int (0 : Int32)), .val (.int (1 : Int32)), .unset] [])) _
        refine XS.aload X16.here hx rfl (hb hby at_157) rfl rfl ?_
        exact kt)
    obtain ⟨_, _, ⟨T19, L19, k19, n19⟩, -, X19, ⟨Lc19, hQ19, l19, y19, z19⟩, st19⟩ := Jvm.LawKit.callS X16 hx (y := (⟨"com/example/outcomist/outcomist/Catalogue$Proxy", "withoutCoding", "(Ljava/util/List;)Lcom/example/outcomist/outcomist/Catalogue$Proxy;"⟩ : MethodName)) hown (mvT hZ (hw _ (List.mem_of_getElem? (i := 53) rfl))) (mvT hZ (hw _ (List.mem_of_getElem? (i := 54) rfl))) (mvT hZ (hw _ (List.mem_of_getElem? (i := 28) rfl))) (mvT hZ (hw _ (List.mem_of_getElem? (i := 55) rfl))) (by decide) (backOf (W := 0) (own_without l Z a0 hw [] b4 aEMPTY_SET aEMPTY_MAP T13.heap n0 (Nat.le_trans (Nat.le_trans (Nat.le_trans (Nat.le_trans Z0 E4.1) K7q.1) E10.1) K13q.1) S_ES S_EM ((((O0.ext E4).keep K7q (allS g_b4 all0)).ext E10).keep K13q (allS g_b10 all0))) hZ (hw _ (List.mem_of_getElem? (i := 55) rfl)) (hw _ (List.mem_of_getElem? (i := 28) rfl)) (by decide) (by decide)) (g := (mkF m 159 #[.val (.int flag), .val (.int c0), .val (.int c1), .val (.int (flag &&& (3 : Int32))), .val .null, .val (.ref b4), .val (.ref b10), .val (.int (0 : Int32)), .val (.int (1 : Int32)), .unset] [(.ref b4)])) rfl (by rw [hml]; rfl) (argsL := [(.ref b4)]) (rest := []) (lenOf own_pd9 rfl) rfl (by show 2 * 0 + _ ≤ _; exact Nat.le_of_eq rfl) (hb hby at_159) (fun _ _ => ⟨rfl, e16, (by decide : 2 + 1 ≤ _), (by decide : 8 + 5 ≤ _)⟩)
    dsimp only [Pt.U, Pt.locs, Pt.cells, Pt.slots] at X19 l19 y19 z19 st19 hQ19
    subst l19 y19 z19
    obtain ⟨wb19, rfl, N19q, K19q, Ew19, Fw19_⟩ := hQ19
    have N19 := Fr.app N16 N19q
    have KC19 : Keep h0 T19.heap [] := KC13.trans K19q all0
    have CH19 : CHr Z [("java/lang/String", 7)] s.vm h0 s.vm T19.heap := CH13.trans (CHr.keep K19q all0 CH13.1)
    have pre20 : Goes p e below s₁ (entryFrame m #[(.int flag), (.int c0), (.int c1)] maxLocals) T19 (mkF m 162 #[.val (.int flag), .val (.int c0), .val (.int c1), .val (.int (flag &&& (3 : Int32))), .val .null, .val (.ref b4), .val (.ref b10), .val (.int (0 : Int32)), .val (.int (1 : Int32)), .unset] [(.ref wb19)]) := fun t kt => pre18 t (st19 t kt)
    have pre21 : Goes p e below s₁ (entryFrame m #[(.int flag), (.int c0), (.int c1)] maxLocals) T19 (mkF m 171 #[.val (.int flag), .val (.int c0), .val (.int c1), .val (.int (flag &&& (3 : Int32))), .val .null, .val (.ref b4), .val (.ref b10), .val (.int (0 : Int32)), .val (.int (1 : Int32)), .val (.ref wb19)] [(.ref wb19)]) := fun t kt => pre20 t (by
        show Steps p.tables e below (T19.setTop (mkF m 162 #[.val (.int flag), .val (.int c0), .val (.int c1), .val (.int (flag &&& (3 : Int32))), .val .null, .val (.ref b4), .val (.ref b10), .val (.int (0 : Int32)), .val (.int (1 : Int32)), .unset] [(.ref wb19)])) _
        refine XS.astore X19.here hx rfl (hb hby at_162) rfl rfl (l' := #[.val (.int flag), .val (.int c0), .val (.int c1), .val (.int (flag &&& (3 : Int32))), .val .null, .val (.ref b4), .val (.ref b10), .val (.int (0 : Int32)), .val (.int (1 : Int32)), .val (.ref wb19)]) rfl ?_
        show Steps p.tables e below (T19.setTop (mkF m 164 #[.val (.int flag), .val (.int c0), .val (.int c1), .val (.int (flag &&& (3 : Int32))), .val .null, .val (.ref b4), .val (.ref b10), .val (.int (0 : Int32)), .val (.int (1 : Int32)), .val (.ref wb19)] [])) _
        refine XS.iload X19.here hx rfl (hb hby at_164) rfl ?_
        show Steps p.tables e below (T19.setTop (mkF m 166 #[.val (.int flag), .val (.int c0), .val (.int c1), .val (.int (flag &&& (3 : Int32))), .val .null, .val (.ref b4), .val (.ref b10), .val (.int (0 : Int32)), .val (.int (1 : Int32)), .val (.ref wb19)] [(.int (1 : Int32))])) _
        refine XS.ifNo X19.here hx rfl (hb hby at_166) rfl ((if0 _ _).trans (feq (by decide : ¬ ((1 : Int32) = (0 : Int32)))).1) ?_
        show Steps p.tables e below (T19.setTop (mkF m 169 #[.val (.int flag), .val (.int c0), .val (.int c1), .val (.int (flag &&& (3 : Int32))), .val .null, .val (.ref b4), .val (.ref b10), .val (.int (0 : Int32)), .val (.int (1 : Int32)), .val (.ref wb19)] [])) _
        refine XS.aload X19.here hx rfl (hb hby at_169) rfl rfl ?_
        exact kt)
    obtain ⟨cq22, kq22, q22a, q22b, q22c⟩ := isOf hZ rfl Ew19
    obtain ⟨_, _, ⟨T22, L22, k22, n22⟩, -, X22, ⟨Lc22, hQ22, l22, y22, z22⟩, st22⟩ := X19.virtualBack hx (y := (⟨"com/example/outcomist/outcomist/Catalogue$Proxy", "coded", "()Z"⟩ : MethodName)) (z := (⟨"com/example/outcomist/outcomist/Catalogue$Proxy", "coded", "()Z"⟩ : MethodName)) hown (mvT hZ (hw _ (List.mem_of_getElem? (i := 48) rfl))) (mvT hZ (hw _ (List.mem_of_getElem? (i := 49) rfl))) (notFace_of_selects (args := #[]) (mvT hZ (hw _ (List.mem_of_getElem? (i := 51) rfl)))) (mvT hZ (hw _ (List.mem_of_getElem? (i := 51) rfl))) (mvT hZ (hw _ (List.mem_of_getElem? (i := 50) rfl))) (by decide) (backOf (W := 0) (own_cdN l Z a0 hw [] wb19 T19.heap n0 (Nat.le_trans (Nat.le_trans (Nat.le_trans (Nat.le_trans (Nat.le_trans Z0 E4.1) K7q.1) E10.1) K13q.1) K19q.1) Fw19_) hZ (hw _ (List.mem_of_getElem? (i := 52) rfl)) (hw _ (List.mem_of_getElem? (i := 28) rfl)) (by decide) (by decide)) q22a q22c (g := (mkF m 171 #[.val (.int flag), .val (.int c0), .val (.int c1), .val (.int (flag &&& (3 : Int32))), .val .null, .val (.ref b4), .val (.ref b10), .val (.int (0 : Int32)), .val (.int (1 : Int32)), .val (.ref wb19)] [(.ref wb19)])) rfl (by rw [hml]; rfl) (Steps.refl _) (argsL := []) (rest := []) (lenOf own_pd8 rfl) rfl (by show 2 * 0 + _ ≤ _; exact Nat.le_of_eq rfl) (hb hby at_171) (fun _ _ => ⟨rfl, rfl, (by decide : 3 + 0 ≤ _), (by decide : 13 + 0 ≤ _)⟩)
    dsimp only [Pt.U, Pt.locs, Pt.cells, Pt.slots] at X22 l22 y22 z22 st22 hQ22
    subst l22 y22 z22
    obtain ⟨rfl, N22q, e22⟩ := hQ22
    have N22 := Fr.app N19 N22q
    have pre23 : Goes p e below s₁ (entryFrame m #[(.int flag), (.int c0), (.int c1)] maxLocals) T22 (mkF m 174 #[.val (.int flag), .val (.int c0), .val (.int c1), .val (.int (flag &&& (3 : Int32))), .val .null, .val (.ref b4), .val (.ref b10), .val (.int (0 : Int32)), .val (.int (1 : Int32)), .val (.ref wb19)] [(.int (0 : Int32))]) := fun t kt => pre21 t (st22.trans kt)
    have pre24 : Goes p e below s₁ (entryFrame m #[(.int flag), (.int c0), (.int c1)] maxLocals) T22 (mkF m 182 #[.val (.int flag), .val (.int c0), .val (.int c1), .val (.int (flag &&& (3 : Int32))), .val .null, .val (.ref b4), .val (.ref b10), .val (.int (0 : Int32)), .val (.int (1 : Int32)), .val (.ref wb19)] [(.int (1 : Int32))]) := fun t kt => pre23 t (by
        show Steps p.tables e below (T22.setTop (mkF m 174 #[.val (.int flag), .val (.int c0), .val (.int c1), .val (.int (flag &&& (3 : Int32))), .val .null, .val (.ref b4), .val (.ref b10), .val (.int (0 : Int32)), .val (.int (1 : Int32)), .val (.ref wb19)] [(.int (0 : Int32))])) _
        refine XS.ifNo X22.here hx rfl (hb hby at_174) rfl ((if0 _ _).trans (teq (by decide : (0 : Int32) = (0 : Int32))).2) ?_
        show Steps p.tables e below (T22.setTop (mkF m 177 #[.val (.int flag), .val (.int c0), .val (.int c1), .val (.int (flag &&& (3 : Int32))), .val .null, .val (.ref b4), .val (.ref b10), .val (.int (0 : Int32)), .val (.int (1 : Int32)), .val (.ref wb19)] [])) _
        refine XS.iconst X22.here hx rfl (hb hby at_177) ?_
        show Steps p.tables e below (T22.setTop (mkF m 178 #[.val (.int flag), .val (.int c0), .val (.int c1), .val (.int (flag &&& (3 : Int32))), .val .null, .val (.ref b4), .val (.ref b10), .val (.int (0 : Int32)), .val (.int (1 : Int32)), .val (.ref wb19)] [(.int (1 : Int32))])) _
        refine XS.goto X22.here hx rfl (pc0 := 178) (pc' := 182) rfl (hb hby at_178) (by decide) (by decide) ?_
        exact kt)
    obtain ⟨fs, hr, hrun, hended, hW, hsame⟩ := X22.leave (v := some (.int (1 : Int32))) (fun h => by rw [Bd.returns] at h; cases h)
    have hEnd := ReturnedEndW.of_narrow (o := .returned (some (.int (1 : Int32)))) ⟨_, rfl⟩ hW hsame
    refine ⟨_, _, pre24 _ ?_, hrun, hended, _, _, rfl, ?_, ?_, hEnd.1, hEnd.2.1, hEnd.2.2.1, hEnd.2.2.2.mono (by decide) (by decide)⟩
    · show Steps p.tables e below (T22.setTop (mkF m 182 #[.val (.int flag), .val (.int c0), .val (.int c1), .val (.int (flag &&& (3 : Int32))), .val .null, .val (.ref b4), .val (.ref b10), .val (.int (0 : Int32)), .val (.int (1 : Int32)), .val (.ref wb19)] [(.int (1 : Int32))])) _
      exact retN X22 hx (t := .boolean) Bd.returns (by simp) (hb hby at_182) hr
    · show Q_own_rm0 Z flag c0 c1 cs aDEFAULTCAPACITY_EMPTY_ELEMENTDATA aEMPTY_SET aEMPTY_MAP h0 n0 _ T22.heap _
      rw [e22]
      exact ⟨rfl, N22⟩
    · show CHr Z [("java/lang/String", 7)] s.vm s.heap T22.vm T22.heap
      rw [hh, e22]
      exact CH19.trans (CHv.at (s := s) (vm0 := s.vm) X22 hZ hEL CH19.1)
  · -- no at pc 5: 
    have pre25 : Goes p e below s₁ (entryFrame m #[(.int flag), (.int c0), (.int c1)] maxLocals) s₁ (mkF m 16 #[.val (.int flag), .val (.int c0), .val (.int c1), .val (.int (flag &&& (3 : Int32))), .unset, .unset, .unset, .unset, .unset, .unset] [(.int (1 : Int32)), (.int (flag &&& (3 : Int32)))]) := fun t kt => pre1 t (by
        show Steps p.tables e below (s₁.setTop (mkF m 5 #[.val (.int flag), .val (.int c0), .val (.int c1), .val (.int (flag &&& (3 : Int32))), .unset, .unset, .unset, .unset, .unset, .unset] [(.int (flag &&& (3 : Int32)))])) _
        refine XS.ifYes X0.here hx rfl (pc0 := 5) (pc' := 14) rfl (hb hby at_5) rfl ((if0 _ _).trans (feq hc5_2).2) (by decide) (by decide) ?_
        show Steps p.tables e below (s₁.setTop (mkF m 14 #[.val (.int flag), .val (.int c0), .val (.int c1), .val (.int (flag &&& (3 : Int32))), .unset, .unset, .unset, .unset, .unset, .unset] [])) _
        refine XS.iloadN X0.here hx rfl (hb hby at_14) rfl ?_
        show Steps p.tables e below (s₁.setTop (mkF m 15 #[.val (.int flag), .val (.int c0), .val (.int c1), .val (.int (flag &&& (3 : Int32))), .unset, .unset, .unset, .unset, .unset, .unset] [(.int (flag &&& (3 : Int32)))])) _
        refine XS.iconst X0.here hx rfl (hb hby at_15) ?_
        exact kt)
    by_cases hc16_26 : (flag &&& (3 : Int32)) = (1 : Int32)
    · -- yes at pc 16: t
      have pre27 : Goes p e below s₁ (entryFrame m #[(.int flag), (.int c0), (.int c1)] maxLocals) s₁ (mkF m 19 #[.val (.int flag), .val (.int c0), .val (.int c1), .val (.int (flag &&& (3 : Int32))), .unset, .unset, .unset, .unset, .unset, .unset] []) := fun t kt => pre25 t (by
          show Steps p.tables e below (s₁.setTop (mkF m 16 #[.val (.int flag), .val (.int c0), .val (.int c1), .val (.int (flag &&& (3 : Int32))), .unset, .unset, .unset, .unset, .unset, .unset] [(.int (1 : Int32)), (.int (flag &&& (3 : Int32)))])) _
          refine XS.icmpNo X0.here hx rfl (hb hby at_16) rfl (teq hc16_26).2 ?_
          exact kt)
      obtain ⟨T28, h28, X28, e28, E28, A28, DD28, -, st28⟩ := newO X0 hx hZ hown (hw _ (List.mem_of_getElem? (i := 69) rfl)) (hw _ (List.mem_of_getElem? (i := 70) rfl)) (hw _ (List.mem_of_getElem? (i := 71) rfl)) e0 (g := (mkF m 19 #[.val (.int flag), .val (.int c0), .val (.int c1), .val (.int (flag &&& (3 : Int32))), .unset, .unset, .unset, .unset, .unset, .unset] [])) rfl (hb hby at_19) (by decide) (by decide)
      obtain ⟨b28, g28⟩ : ∃ z, z = h0.size := ⟨_, rfl⟩
      rw [← g28] at A28 DD28 st28
      have F_value_b28 : Fld Z h28 b28 "java/lang/String" "value" "[B" .null := DD28 (Or.inr (hw _ (List.mem_of_getElem? (i := 83) rfl))) (ty := (.array .byte)) (by decide)
      have F_coder_b28 : Fld Z h28 b28 "java/lang/String" "coder" "B" (.int (0 : Int32)) := DD28 (Or.inr (hw _ (List.mem_of_getElem? (i := 84) rfl))) (ty := .byte) (by decide)
      have g_b28 : n0 ≤ b28 := Nat.le_trans Z0 (Nat.le_of_eq g28.symm)
      have sz_b28 : h0.size ≤ b28 := (Nat.le_trans (Keep.refl h0 []).1 (Nat.le_of_eq g28.symm))
      have K28 : Keep h0 h28 [] := (Keep.refl h0 []).ext E28
      have CH28 : CHr Z [("java/lang/String", 7)] s.vm h0 s.vm h28 := CH0.trans (CHr.ext E28 CH0.1)
      have pre29 : Goes p e below s₁ (entryFrame m #[(.int flag), (.int c0), (.int c1)] maxLocals) T28 (mkF m 22 #[.val (.int flag), .val (.int c0), .val (.int c1), .val (.int (flag &&& (3 : Int32))), .unset, .unset, .unset, .unset, .unset, .unset] [(.ref b28)]) := fun t kt => pre27 t (st28 t kt)
      have pre30 : Goes p e below s₁ (entryFrame m #[(.int flag), (.int c0), (.int c1)] maxLocals) T28 (mkF m 24 #[.val (.int flag), .val (.int c0), .val (.int c1), .val (.int (flag &&& (3 : Int32))), .unset, .unset, .unset, .unset, .unset, .unset] [(.int (0 : Int32)), (.ref b28), (.ref b28)]) := fun t kt => pre29 t (by
          show Steps p.tables e below (T28.setTop (mkF m 22 #[.val (.int flag), .val (.int c0), .val (.int c1), .val (.int (flag &&& (3 : Int32))), .unset, .unset, .unset, .unset, .unset, .unset] [(.ref b28)])) _
          refine XS.dup X28.here hx rfl (hb hby at_22) rfl rfl ?_
          show Steps p.tables e below (T28.setTop (mkF m 23 #[.val (.int flag), .val (.int c0), .val (.int c1), .val (.int (flag &&& (3 : Int32))), .unset, .unset, .unset, .unset, .unset, .unset] [(.ref b28), (.ref b28)])) _
          refine XS.iconst X28.here hx rfl (hb hby at_23) ?_
          exact kt)
      obtain ⟨T31, h31, k31, X31, e31, E31, A31, st31⟩ := newP X28 hx hZ (hw _ (List.mem_of_getElem? (i := 72) rfl)) e28 (g := (mkF m 24 #[.val (.int flag), .val (.int c0), .val (.int c1), .val (.int (flag &&& (3 : Int32))), .unset, .unset, .unset, .unset, .unset, .unset] [(.int (0 : Int32)), (.ref b28), (.ref b28)])) rfl (hb hby at_24) rfl (by decide) (cap := 0) (by decide) (by decide) (by decide) (by decide)
      obtain ⟨b31, g31⟩ : ∃ z, z = h28.size := ⟨_, rfl⟩
      rw [← g31] at A31 st31
      have V_b31 : Arv Z h31 b31 k31 .char (0 : Int32) [] (.int (0 : Int32)) := Arv.new A31 (by decide)
      have g_b31 : n0 ≤ b31 := Nat.le_trans (Nat.le_trans Z0 E28.1) (Nat.le_of_eq g31.symm)
      have sz_b31 : h0.size ≤ b31 := (Nat.le_trans K28.1 (Nat.le_of_eq g31.symm))
      have K31 : Keep h0 h31 [] := K28.ext E31
      have CH31 : CHr Z [("java/lang/String", 7)] s.vm h0 s.vm h31 := CH28.trans (CHr.ext E31 CH28.1)
      have pre32 : Goes p e below s₁ (entryFrame m #[(.int flag), (.int c0), (.int c1)] maxLocals) T31 (mkF m 26 #[.val (.int flag), .val (.int c0), .val (.int c1), .val (.int (flag &&& (3 : Int32))), .unset, .unset, .unset, .unset, .unset, .unset] [(.ref b31), (.ref b28), (.ref b28)]) := fun t kt => pre30 t (st31 t kt)
      obtain ⟨_, _, ⟨T33, L33, k33, n33⟩, -, XX33, hSS33, hGG33, ⟨Lc33, hQ33, l33, y33, z33, hCr33⟩, st33⟩ := X31.specialBackS hx (y := (⟨"java/lang/String", "<init>", "([C)V"⟩ : MethodName)) rfl hown (mvT hZ (hw _ (List.mem_of_getElem? (i := 73) rfl))) (mvT hZ (hw _ (List.mem_of_getElem? (i := 74) rfl))) (mvT hZ (hw _ (List.mem_of_getElem? (i := 75) rfl))) (by decide) (backOfSH (s := s) (vm0 := s.vm) (W := 1) (own_sJ0 l Z a0 hw [] b28 b31 k31 _ h31 n0 (Nat.le_trans (Nat.le_trans Z0 E28.1) E31.1) (A28.ext E31) (F_value_b28.ext E31) (F_coder_b28.ext E31) g_b28 V_b31) hZ (hw _ (List.mem_of_getElem? (i := 75) rfl)) (hw _ (List.mem_of_getElem? (i := 71) rfl)) (by decide) (by decide) hEL CH31.1) (g := (mkF m 26 #[.val (.int flag), .val (.int c0), .val (.int c1), .val (.int (flag &&& (3 : Int32))), .unset, .unset, .unset, .unset, .unset, .unset] [(.ref b31), (.ref b28), (.ref b28)])) rfl (by rw [hml]; rfl) (Steps.refl _) (a := b28) (argsL := [(.ref b31)]) (rest := [(.ref b28)]) (lenOf own_pd10 rfl) rfl (by show 2 * 0 + _ ≤ _; exact Nat.le_of_eq rfl) (hb hby at_26) (fun _ _ => ⟨rfl, e31, (by decide : 2 + 2 ≤ _), (by decide : 4 + 4 ≤ _)⟩)
      dsimp only [Pt.U, Pt.locs, Pt.cells, Pt.slots] at hCr33 hSS33 hGG33 XX33 l33 y33 z33 st33 hQ33
      subst l33 y33 z33
      obtain ⟨rfl, N33q, K33q, Rs33⟩ := hQ33
      have N33 := Fr.app N0 N33q
      obtain ⟨X33, hS33, hZ, hown⟩ := rebS (s := s) (vm0 := s.vm) (State.WarmedH.since (State.WarmedH.refl s) 0) (by rw [e31]; exact (Nat.zero_le _)) XX33 hSS33 hGG33 hZ hown
      have KC33 : Keep h0 T33.heap [] := K31.trans K33q (allS (Or.inr sz_b28) all0)
      have CH33 : CHr Z [("java/lang/String", 7)] s.vm h0 T33.vm T33.heap := CH31.trans hCr33
      have pre34 : Goes p e below s₁ (entryFrame m #[(.int flag), (.int c0), (.int c1)] maxLocals) T33 (mkF m 29 #[.val (.int flag), .val (.int c0), .val (.int c1), .val (.int (flag &&& (3 : Int32))), .unset, .unset, .unset, .unset, .unset, .unset] [(.ref b28)]) := fun t kt => pre32 t (st33.trans kt)
      have pre35 : Goes p e below s₁ (entryFrame m #[(.int flag), (.int c0), (.int c1)] maxLocals) T33 (mkF m 104 #[.val (.int flag), .val (.int c0), .val (.int c1), .val (.int (flag &&& (3 : Int32))), .val (.ref b28), .unset, .unset, .unset, .unset, .unset] []) := fun t kt => pre34 t (by
          show Steps p.tables e below (T33.setTop (mkF m 29 #[.val (.int flag), .val (.int c0), .val (.int c1), .val (.int (flag &&& (3 : Int32))), .unset, .unset, .unset, .unset, .unset, .unset] [(.ref b28)])) _
          refine XS.astore X33.here hx rfl (hb hby at_29) rfl rfl (l' := #[.val (.int flag), .val (.int c0), .val (.int c1), .val (.int (flag &&& (3 : Int32))), .val (.ref b28), .unset, .unset, .unset, .unset, .unset]) rfl ?_
          show Steps p.tables e below (T33.setTop (mkF m 31 #[.val (.int flag), .val (.int c0), .val (.int c1), .val (.int (flag &&& (3 : Int32))), .val (.ref b28), .unset, .unset, .unset, .unset, .unset] [])) _
          refine XS.goto X33.here hx rfl (pc0 := 31) (pc' := 104) rfl (hb hby at_31) (by decide) (by decide) ?_
          exact kt)
      obtain ⟨T36, h36, X36, e36, E36, A36, DD36, -, st36⟩ := newO X33 hx hZ hown (hw _ (List.mem_of_getElem? (i := 0) rfl)) (hw _ (List.mem_of_getElem? (i := 1) rfl)) (hw _ (List.mem_of_getElem? (i := 2) rfl)) rfl (g := (mkF m 104 #[.val (.int flag), .val (.int c0), .val (.int c1), .val (.int (flag &&& (3 : Int32))), .val (.ref b28), .unset, .unset, .unset, .unset, .unset] [])) rfl (hb hby at_104) (by decide) (by decide)
      obtain ⟨b36, g36⟩ : ∃ z, z = T33.heap.size := ⟨_, rfl⟩
      rw [← g36] at A36 DD36 st36
      have F_modCount_b36 : Fld Z h36 b36 "java/util/AbstractList" "modCount" "I" (.int (0 : Int32)) := DD36 (Or.inl (hw _ (List.mem_of_getElem? (i := 22) rfl))) (ty := .int) (by decide)
      have F_elementData_b36 : Fld Z h36 b36 "java/util/ArrayList" "elementData" "[Ljava/lang/Object;" .null := DD36 (Or.inl (hw _ (List.mem_of_getElem? (i := 25) rfl))) (ty := (.array (.object "java/lang/Object"))) (by decide)
      have g_b36 : n0 ≤ b36 := Nat.le_trans (Nat.le_trans (Nat.le_trans (Nat.le_trans Z0 E28.1) E31.1) K33q.1) (Nat.le_of_eq g36.symm)
      have sz_b36 : h0.size ≤ b36 := (Nat.le_trans KC33.1 (Nat.le_of_eq g36.symm))
      have K36 : Keep h0 h36 [] := KC33.ext E36
      have CH36 : CHr Z [("java/lang/String", 7)] s.vm h0 T33.vm h36 := CH33.trans (CHr.ext E36 CH33.1)
      have pre37 : Goes p e below s₁ (entryFrame m #[(.int flag), (.int c0), (.int c1)] maxLocals) T36 (mkF m 107 #[.val (.int flag), .val (.int c0), .val (.int c1), .val (.int (flag &&& (3 : Int32))), .val (.ref b28), .unset, .unset, .unset, .unset, .unset] [(.ref b36)]) := fun t kt => pre35 t (st36 t kt)
      have pre38 : Goes p e below s₁ (entryFrame m #[(.int flag), (.int c0), (.int c1)] maxLocals) T36 (mkF m 108 #[.val (.int flag), .val (.int c0), .val (.int c1), .val (.int (flag &&& (3 : Int32))), .val (.ref b28), .unset, .unset, .unset, .unset, .unset] [(.ref b36), (.ref b36)]) := fun t kt => pre37 t (by
          show Steps p.tables e below (T36.setTop (mkF m 107 #[.val (.int flag), .val (.int c0), .val (.int c1), .val (.int (flag &&& (3 : Int32))), .val (.ref b28), .unset, .unset, .unset, .unset, .unset] [(.ref b36)])) _
          refine XS.dup X36.here hx rfl (hb hby at_107) rfl rfl ?_
          exact kt)
      obtain ⟨_, _, ⟨T39, L39, k39, n39⟩, -, X39, ⟨Lc39, hQ39, l39, y39, z39⟩, st39⟩ := X36.specialBack hx (y := (⟨"java/util/ArrayList", "<init>", "()V"⟩ : MethodName)) rfl hown (mvT hZ (hw _ (List.mem_of_getElem? (i := 3) rfl))) (mvT hZ (hw _ (List.mem_of_getElem? (i := 4) rfl))) (mvT hZ (hw _ (List.mem_of_getElem? (i := 5) rfl))) (by decide) (backOf (W := 1) (own_arl l Z a0 hw [] b36 aDEFAULTCAPACITY_EMPTY_ELEMENTDATA h36 n0 (Nat.le_trans (Nat.le_trans (Nat.le_trans (Nat.le_trans Z0 E28.1) E31.1) K33q.1) E36.1) A36 F_modCount_b36 F_elementData_b36 g_b36 S_DC ((((O0.ext E28).ext E31).keep K33q (allS g_b28 all0)).ext E36)) hZ (hw _ (List.mem_of_getElem? (i := 5) rfl)) (hw _ (List.mem_of_getElem? (i := 2) rfl)) (by decide) (by decide)) (g := (mkF m 108 #[.val (.int flag), .val (.int c0), .val (.int c1), .val (.int (flag &&& (3 : Int32))), .val (.ref b28), .unset, .unset, .unset, .unset, .unset] [(.ref b36), (.ref b36)])) rfl (by rw [hml]; rfl) (Steps.refl _) (a := b36) (argsL := []) (rest := [(.ref b36)]) (lenOf own_pd4 rfl) rfl (by show 2 * 0 + _ ≤ _; exact Nat.le_of_eq rfl) (hb hby at_108) (fun _ _ => ⟨rfl, e36, (by decide : 5 + 0 ≤ _), (by decide : 11 + 0 ≤ _)⟩)
      dsimp only [Pt.U, Pt.locs, Pt.cells, Pt.slots] at X39 l39 y39 z39 st39 hQ39
      subst l39 y39 z39
      obtain ⟨rfl, N39q, K39q⟩ := hQ39
      have N39 := Fr.app N33 N39q
      have KC39 : Keep h0 T39.heap [] := K36.trans K39q (allS (Or.inr sz_b36) all0)
      have CH39 : CHr Z [("java/lang/String", 7)] s.vm h0 T33.vm T39.heap := CH36.trans (CHr.keep K39q (allS (Safe.exa hZ.alike A36 (by decide) (by decide)) all0) CH36.1)
      have pre40 : Goes p e below s₁ (entryFrame m #[(.int flag), (.int c0), (.int c1)] maxLocals) T39 (mkF m 111 #[.val (.int flag), .val (.int c0), .val (.int c1), .val (.int (flag &&& (3 : Int32))), .val (.ref b28), .unset, .unset, .unset, .unset, .unset] [(.ref b36)]) := fun t kt => pre38 t (st39.trans kt)
      have pre41 : Goes p e below s₁ (entryFrame m #[(.int flag), (.int c0), (.int c1)] maxLocals) T39 (mkF m 113 #[.val (.int flag), .val (.int c0), .val (.int c1), .val (.int (flag &&& (3 : Int32))), .val (.ref b28), .val (.ref b36), .unset, .unset, .unset, .unset] []) := fun t kt => pre40 t (by
          show Steps p.tables e below (T39.setTop (mkF m 111 #[.val (.int flag), .val (.int c0), .val (.int c1), .val (.int (flag &&& (3 : Int32))), .val (.ref b28), .unset, .unset, .unset, .unset, .unset] [(.ref b36)])) _
          refine XS.astore X39.here hx rfl (hb hby at_111) rfl rfl (l' := #[.val (.int flag), .val (.int c0), .val (.int c1), .val (.int (flag &&& (3 : Int32))), .val (.ref b28), .val (.ref b36), .unset, .unset, .unset, .unset]) rfl ?_
          exact kt)
      obtain ⟨T42, h42, X42, e42, E42, A42, DD42, -, st42⟩ := newO X39 hx hZ hown (hw _ (List.mem_of_getElem? (i := 26) rfl)) (hw _ (List.mem_of_getElem? (i := 27) rfl)) (hw _ (List.mem_of_getElem? (i := 28) rfl)) rfl (g := (mkF m 113 #[.val (.int flag), .val (.int c0), .val (.int c1), .val (.int (flag &&& (3 : Int32))), .val (.ref b28), .val (.ref b36), .unset, .unset, .unset, .unset] [])) rfl (hb hby at_113) (by decide) (by decide)
      obtain ⟨b42, g42⟩ : ∃ z, z = T39.heap.size := ⟨_, rfl⟩
      rw [← g42] at A42 DD42 st42
      have F_codingSystem_b42 : Fld Z h42 b42 "com/example/outcomist/outcomist/Catalogue$Proxy" "codingSystem" "Ljava/lang/String;" .null := DD42 (Or.inr (hw _ (List.mem_of_getElem? (i := 39) rfl))) (ty := (.object "java/lang/String")) (by decide)
      have F_outcomes_b42 : Fld Z h42 b42 "com/example/outcomist/outcomist/Catalogue$Proxy" "outcomes" "Ljava/util/List;" .null := DD42 (Or.inr (hw _ (List.mem_of_getElem? (i := 41) rfl))) (ty := (.object "java/util/List")) (by decide)
      have F_severityVariants_b42 : Fld Z h42 b42 "com/example/outcomist/outcomist/Catalogue$Proxy" "severityVariants" "Ljava/util/Set;" .null := DD42 (Or.inr (hw _ (List.mem_of_getElem? (i := 43) rfl))) (ty := (.object "java/util/Set")) (by decide)
      have F_issueTypeVariants_b42 : Fld Z h42 b42 "com/example/outcomist/outcomist/Catalogue$Proxy" "issueTypeVariants" "Ljava/util/Map;" .null := DD42 (Or.inr (hw _ (List.mem_of_getElem? (i := 45) rfl))) (ty := (.object "java/util/Map")) (by decide)
      have F_codingSystemVariants_b42 : Fld Z h42 b42 "com/example/outcomist/outcomist/Catalogue$Proxy" "codingSystemVariants" "Ljava/util/Set;" .null := DD42 (Or.inr (hw _ (List.mem_of_getElem? (i := 47) rfl))) (ty := (.object "java/util/Set")) (by decide)
      have g_b42 : n0 ≤ b42 := Nat.le_trans (Nat.le_trans (Nat.le_trans (Nat.le_trans (Nat.le_trans (Nat.le_trans Z0 E28.1) E31.1) K33q.1) E36.1) K39q.1) (Nat.le_of_eq g42.symm)
      have sz_b42 : h0.size ≤ b42 := (Nat.le_trans KC39.1 (Nat.le_of_eq g42.symm))
      have K42 : Keep h0 h42 [] := KC39.ext E42
      have CH42 : CHr Z [("java/lang/String", 7)] s.vm h0 T33.vm h42 := CH39.trans (CHr.ext E42 CH39.1)
      have pre43 : Goes p e below s₁ (entryFrame m #[(.int flag), (.int c0), (.int c1)] maxLocals) T42 (mkF m 116 #[.val (.int flag), .val (.int c0), .val (.int c1), .val (.int (flag &&& (3 : Int32))), .val (.ref b28), .val (.ref b36), .unset, .unset, .unset, .unset] [(.ref b42)]) := fun t kt => pre41 t (st42 t kt)
      have pre44 : Goes p e below s₁ (entryFrame m #[(.int flag), (.int c0), (.int c1)] maxLocals) T42 (mkF m 124 #[.val (.int flag), .val (.int c0), .val (.int c1), .val (.int (flag &&& (3 : Int32))), .val (.ref b28), .val (.ref b36), .unset, .unset, .unset, .unset] [.null, .null, .null, (.ref b36), (.ref b28), (.ref b42), (.ref b42)]) := fun t kt => pre43 t (by
          show Steps p.tables e below (T42.setTop (mkF m 116 #[.val (.int flag), .val (.int c0), .val (.int c1), .val (.int (flag &&& (3 : Int32))), .val (.ref b28), .val (.ref b36), .unset, .unset, .unset, .unset] [(.ref b42)])) _
          refine XS.dup X42.here hx rfl (hb hby at_116) rfl rfl ?_
          show Steps p.tables e below (T42.setTop (mkF m 117 #[.val (.int flag), .val (.int c0), .val (.int c1), .val (.int (flag &&& (3 : Int32))), .val (.ref b28), .val (.ref b36), .unset, .unset, .unset, .unset] [(.ref b42), (.ref b42)])) _
          refine XS.aload X42.here hx rfl (hb hby at_117) rfl rfl ?_
          show Steps p.tables e below (T42.setTop (mkF m 119 #[.val (.int flag), .val (.int c0), .val (.int c1), .val (.int (flag &&& (3 : Int32))), .val (.ref b28), .val (.ref b36), .unset, .unset, .unset, .unset] [(.ref b28), (.ref b42), (.ref b42)])) _
          refine XS.aload X42.here hx rfl (hb hby at_119) rfl rfl ?_
          show Steps p.tables e below (T42.setTop (mkF m 121 #[.val (.int flag), .val (.int c0), .val (.int c1), .val (.int (flag &&& (3 : Int32))), .val (.ref b28), .val (.ref b36), .unset, .unset, .unset, .unset] [(.ref b36), (.ref b28), (.ref b42), (.ref b42)])) _
          refine XS.aconstNull X42.here hx rfl (hb hby at_121) ?_
          show Steps p.tables e below (T42.setTop (mkF m 122 #[.val (.int flag), .val (.int c0), .val (.int c1), .val (.int (flag &&& (3 : Int32))), .val (.ref b28), .val (.ref b36), .unset, .unset, .unset, .unset] [.null, (.ref b36), (.ref b28), (.ref b42), (.ref b42)])) _
          refine XS.aconstNull X42.here hx rfl (hb hby at_122) ?_
          show Steps p.tables e below (T42.setTop (mkF m 123 #[.val (.int flag), .val (.int c0), .val (.int c1), .val (.int (flag &&& (3 : Int32))), .val (.ref b28), .val (.ref b36), .unset, .unset, .unset, .unset] [.null, .null, (.ref b36), (.ref b28), (.ref b42), (.ref b42)])) _
          refine XS.aconstNull X42.here hx rfl (hb hby at_123) ?_
          exact kt)
      obtain ⟨_, _, ⟨T45, L45, k45, n45⟩, -, X45, ⟨Lc45, hQ45, l45, y45, z45⟩, st45⟩ := X42.specialBack hx (y := (⟨"com/example/outcomist/outcomist/Catalogue$Proxy", "<init>", "(Ljava/lang/String;Ljava/util/List;Ljava/util/Set;Ljava/util/Map;Ljava/util/Set;)V"⟩ : MethodName)) rfl hown (mvT hZ (hw _ (List.mem_of_getElem? (i := 29) rfl))) (mvT hZ (hw _ (List.mem_of_getElem? (i := 30) rfl))) (mvT hZ (hw _ (List.mem_of_getElem? (i := 31) rfl))) (by decide) (backOf (W := 1) (own_pxR l Z a0 hw [] b42 b28 b36 h42 n0 (Nat.le_trans (Nat.le_trans (Nat.le_trans (Nat.le_trans (Nat.le_trans (Nat.le_trans Z0 E28.1) E31.1) K33q.1) E36.1) K39q.1) E42.1) A42 F_codingSystem_b42 F_outcomes_b42 F_severityVariants_b42 F_issueTypeVariants_b42 F_codingSystemVariants_b42 g_b42) hZ (hw _ (List.mem_of_getElem? (i := 31) rfl)) (hw _ (List.mem_of_getElem? (i := 28) rfl)) (by decide) (by decide)) (g := (mkF m 124 #[.val (.int flag), .val (.int c0), .val (.int c1), .val (.int (flag &&& (3 : Int32))), .val (.ref b28), .val (.ref b36), .unset, .unset, .unset, .unset] [.null, .null, .null, (.ref b36), (.ref b28), (.ref b42), (.ref b42)])) rfl (by rw [hml]; rfl) (Steps.refl _) (a := b42) (argsL := [(.ref b28), (.ref b36), .null, .null, .null]) (rest := [(.ref b42)]) (lenOf own_pd7 rfl) rfl (by show 2 * 0 + _ ≤ _; exact Nat.le_of_eq rfl) (hb hby at_124) (fun _ _ => ⟨rfl, e42, (by decide : 6 + 0 ≤ _), (by decide : 16 + 0 ≤ _)⟩)
      dsimp only [Pt.U, Pt.locs, Pt.cells, Pt.slots] at X45 l45 y45 z45 st45 hQ45
      subst l45 y45 z45
      obtain ⟨rfl, N45q, K45q, Eb45, Fb45⟩ := hQ45
      have N45 := Fr.app N39 N45q
      have KC45 : Keep h0 T45.heap [] := K42.trans K45q (allS (Or.inr sz_b42) all0)
      have CH45 : CHr Z [("java/lang/String", 7)] s.vm h0 T33.vm T45.heap := CH42.trans (CHr.keep K45q (allS (Safe.exa hZ.alike A42 (by decide) (by decide)) all0) CH42.1)
      have pre46 : Goes p e below s₁ (entryFrame m #[(.int flag), (.int c0), (.int c1)] maxLocals) T45 (mkF m 127 #[.val (.int flag), .val (.int c0), .val (.int c1), .val (.int (flag &&& (3 : Int32))), .val (.ref b28), .val (.ref b36), .unset, .unset, .unset, .unset] [(.ref b42)]) := fun t kt => pre44 t (st45.trans kt)
      have pre47 : Goes p e below s₁ (entryFrame m #[(.int flag), (.int c0), (.int c1)] maxLocals) T45 (mkF m 142 #[.val (.int flag), .val (.int c0), .val (.int c1), .val (.int (flag &&& (3 : Int32))), .val (.ref b28), .val (.ref b36), .val (.ref b42), .val (.int (1 : Int32)), .unset, .unset] [(.ref b42)]) := fun t kt => pre46 t (by
          show Steps p.tables e below (T45.setTop (mkF m 127 #[.val (.int flag), .val (.int c0), .val (.int c1), .val (.int (flag &&& (3 : Int32))), .val (.ref b28), .val (.ref b36), .unset, .unset, .unset, .unset] [(.ref b42)])) _
          refine XS.astore X45.here hx rfl (hb hby at_127) rfl rfl (l' := #[.val (.int flag), .val (.int c0), .val (.int c1), .val (.int (flag &&& (3 : Int32))), .val (.ref b28), .val (.ref b36), .val (.ref b42), .unset, .unset, .unset]) rfl ?_
          show Steps p.tables e below (T45.setTop (mkF m 129 #[.val (.int flag), .val (.int c0), .val (.int c1), .val (.int (flag &&& (3 : Int32))), .val (.ref b28), .val (.ref b36), .val (.ref b42), .unset, .unset, .unset] [])) _
          refine XS.iloadN X45.here hx rfl (hb hby at_129) rfl ?_
          show Steps p.tables e below (T45.setTop (mkF m 130 #[.val (.int flag), .val (.int c0), .val (.int c1), .val (.int (flag &&& (3 : Int32))), .val (.ref b28), .val (.ref b36), .val (.ref b42), .unset, .unset, .unset] [(.int (flag &&& (3 : Int32)))])) _
          refine XS.ifNo X45.here hx rfl (hb hby at_130) rfl ((if0 _ _).trans (feq hc5_2).1) ?_
          show Steps p.tables e below (T45.setTop (mkF m 133 #[.val (.int flag), .val (.int c0), .val (.int c1), .val (.int (flag &&& (3 : Int32))), .val (.ref b28), .val (.ref b36), .val (.ref b42), .unset, .unset, .unset] [])) _
          refine XS.iconst X45.here hx rfl (hb hby at_133) ?_
          show Steps p.tables e below (T45.setTop (mkF m 134 #[.val (.int flag), .val (.int c0), .val (.int c1), .val (.int (flag &&& (3 : Int32))), .val (.ref b28), .val (.ref b36), .val (.ref b42), .unset, .unset, .unset] [(.int (1 : Int32))])) _
          refine XS.goto X45.here hx rfl (pc0 := 134) (pc' := 138) rfl (hb hby at_134) (by decide) (by decide) ?_
          show Steps p.tables e below (T45.setTop (mkF m 138 #[.val (.int flag), .val (.int c0), .val (.int c1), .val (.int (flag &&& (3 : Int32))), .val (.ref b28), .val (.ref b36), .val (.ref b42), .unset, .unset, .unset] [(.int (1 : Int32))])) _
          refine XS.istore X45.here hx rfl (hb hby at_138) rfl (l' := #[.val (.int flag), .val (.int c0), .val (.int c1), .val (.int (flag &&& (3 : Int32))), .val (.ref b28), .val (.ref b36), .val (.ref b42), .val (.int (1 : Int32)), .unset, .unset]) rfl ?_
          show Steps p.tables e below (T45.setTop (mkF m 140 #[.val (.int flag), .val (.int c0), .val (.int c1), .val (.int (flag &&& (3 : Int32))), .val (.ref b28), .val (.ref b36), .val (.ref b42), .val (.int (1 : Int32)), .unset, .unset] [])) _
          refine XS.aload X45.here hx rfl (hb hby at_140) rfl rfl ?_
          exact kt)
      obtain ⟨cq48, kq48, q48a, q48b, q48c⟩ := isOf hZ rfl Eb45
      obtain ⟨_, _, ⟨T48, L48, k48, n48⟩, -, X48, ⟨Lc48, hQ48, l48, y48, z48⟩, st48⟩ := X45.virtualBack hx (y := (⟨"com/example/outcomist/outcomist/Catalogue$Proxy", "coded", "()Z"⟩ : MethodName)) (z := (⟨"com/example/outcomist/outcomist/Catalogue$Proxy", "coded", "()Z"⟩ : MethodName)) hown (mvT hZ (hw _ (List.mem_of_getElem? (i := 48) rfl))) (mvT hZ (hw _ (List.mem_of_getElem? (i := 49) rfl))) (notFace_of_selects (args := #[]) (mvT hZ (hw _ (List.mem_of_getElem? (i := 51) rfl)))) (mvT hZ (hw _ (List.mem_of_getElem? (i := 51) rfl))) (mvT hZ (hw _ (List.mem_of_getElem? (i := 50) rfl))) (by decide) (backOf (W := 0) (own_cdR l Z a0 hw [] b42 b28 T45.heap n0 (Nat.le_trans (Nat.le_trans (Nat.le_trans (Nat.le_trans (Nat.le_trans (Nat.le_trans (Nat.le_trans Z0 E28.1) E31.1) K33q.1) E36.1) K39q.1) E42.1) K45q.1) Fb45) hZ (hw _ (List.mem_of_getElem? (i := 52) rfl)) (hw _ (List.mem_of_getElem? (i := 28) rfl)) (by decide) (by decide)) q48a q48c (g := (mkF m 142 #[.val (.int flag), .val (.int c0), .val (.int c1), .val (.int (flag &&& (3 : Int32))), .val (.ref b28), .val (.ref b36), .val (.ref b42), .val (.int (1 : Int32)), .unset, .unset] [(.ref b42)])) rfl (by rw [hml]; rfl) (Steps.refl _) (argsL := []) (rest := []) (lenOf own_pd8 rfl) rfl (by show 2 * 0 + _ ≤ _; exact Nat.le_of_eq rfl) (hb hby at_142) (fun _ _ => ⟨rfl, rfl, (by decide : 6 + 0 ≤ _), (by decide : 16 + 0 ≤ _)⟩)
      dsimp only [Pt.U, Pt.locs, Pt.cells, Pt.slots] at X48 l48 y48 z48 st48 hQ48
      subst l48 y48 z48
      obtain ⟨rfl, N48q, e48⟩ := hQ48
      have N48 := Fr.app N45 N48q
      have pre49 : Goes p e below s₁ (entryFrame m #[(.int flag), (.int c0), (.int c1)] maxLocals) T48 (mkF m 145 #[.val (.int flag), .val (.int c0), .val (.int c1), .val (.int (flag &&& (3 : Int32))), .val (.ref b28), .val (.ref b36), .val (.ref b42), .val (.int (1 : Int32)), .unset, .unset] [(.int (1 : Int32))]) := fun t kt => pre47 t (st48.trans kt)
      have pre50 : Goes p e below s₁ (entryFrame m #[(.int flag), (.int c0), (.int c1)] maxLocals) T48 (mkF m 159 #[.val (.int flag), .val (.int c0), .val (.int c1), .val (.int (flag &&& (3 : Int32))), .val (.ref b28), .val (.ref b36), .val (.ref b42), .val (.int (1 : Int32)), .val (.int (1 : Int32)), .unset] [(.ref b36)]) := fun t kt => pre49 t (by
          show Steps p.tables e below (T48.setTop (mkF m 145 #[.val (.int flag), .val (.int c0), .val (.int c1), .val (.int (flag &&& (3 : Int32))), .val (.ref b28), .val (.ref b36), .val (.ref b42), .val (.int (1 : Int32)), .unset, .unset] [(.int (1 : Int32))])) _
          refine XS.iload X48.here hx rfl (hb hby at_145) rfl ?_
          show Steps p.tables e below (T48.setTop (mkF m 147 #[.val (.int flag), .val (.int c0), .val (.int c1), .val (.int (flag &&& (3 : Int32))), .val (.ref b28), .val (.ref b36), .val (.ref b42), .val (.int (1 : Int32)), .unset, .unset] [(.int (1 : Int32)), (.int (1 : Int32))])) _
          refine XS.icmpNo X48.here hx rfl (hb hby at_147) rfl (teq (by decide : (1 : Int32) = (1 : Int32))).2 ?_
          show Steps p.tables e below (T48.setTop (mkF m 150 #[.val (.int flag), .val (.int c0), .val (.int c1), .val (.int (flag &&& (3 : Int32))), .val (.ref b28), .val (.ref b36), .val (.ref b42), .val (.int (1 : Int32)), .unset, .unset] [])) _
          refine XS.iconst X48.here hx rfl (hb hby at_150) ?_
          show Steps p.tables e below (T48.setTop (mkF m 151 #[.val (.int flag), .val (.int c0), .val (.int c1), .val (.int (flag &&& (3 : Int32))), .val (.ref b28), .val (.ref b36), .val (.ref b42), .val (.int (1 : Int32)), .unset, .unset] [(.int (1 : Int32))])) _
          refine XS.goto X48.here hx rfl (pc0 := 151) (pc' := 155) rfl (hb hby at_151) (by decide) (by decide) ?_
          show Steps p.tables e below (T48.setTop (mkF m 155 #[.val (.int flag), .val (.int c0), .val (.int c1), .val (.int (flag &&& (3 : Int32))), .val (.ref b28), .val (.ref b36), .val (.ref b42), .val (.int (1 : Int32)), .unset, .unset] [(.int (1 : Int32))])) _
          refine XS.istore X48.here hx rfl (hb hby at_155) rfl (l' := #[.val (.int flag), .val (.int c0), .val (.int c1), .val (.int (flag &&& (3 : Int32))), .val (.ref b28), .val (.ref b36), .val (.ref b42), .val (.int (1 : Int32)), .val (.int (1 : Int32)), .unset]) rfl ?_
          show Steps p.tables e below (T48.setTop (mkF m 157 #[.val (.int flag), .val (.int c0), .val (.int c1), .val (.int (flag &&& (3 : Int32))), .val (.ref b28), .val (.ref b36), .val (.ref b42), .val (.int (1 : Int32)), .val (.int (1 : Int32)), .unset] [])) _
          refine XS.aload X48.here hx rfl (hb hby at_157) rfl rfl ?_
          exact kt)
      obtain ⟨_, _, ⟨T51, L51, k51, n51⟩, -, X51, ⟨Lc51, hQ51, l51, y51, z51⟩, st51⟩ := Jvm.LawKit.callS X48 hx (y := (⟨"com/example/outcomist/outcomist/Catalogue$Proxy", "withoutCoding", "(Ljava/util/List;)Lcom/example/outcomist/outcomist/Catalogue$Proxy;"⟩ : MethodName)) hown (mvT hZ (hw _ (List.mem_of_getElem? (i := 53) rfl))) (mvT hZ (hw _ (List.mem_of_getElem? (i := 54) rfl))) (mvT hZ (hw _ (List.mem_of_getElem? (i := 28) rfl))) (mvT hZ (hw _ (List.mem_of_getElem? (i := 55) rfl))) (by decide) (backOf (W := 0) (own_without l Z a0 hw [] b36 aEMPTY_SET aEMPTY_MAP T45.heap n0 (Nat.le_trans (Nat.le_trans (Nat.le_trans (Nat.le_trans (Nat.le_trans (Nat.le_trans (Nat.le_trans Z0 E28.1) E31.1) K33q.1) E36.1) K39q.1) E42.1) K45q.1) S_ES S_EM (((((((O0.ext E28).ext E31).keep K33q (allS g_b28 all0)).ext E36).keep K39q (allS g_b36 all0)).ext E42).keep K45q (allS g_b42 all0))) hZ (hw _ (List.mem_of_getElem? (i := 55) rfl)) (hw _ (List.mem_of_getElem? (i := 28) rfl)) (by decide) (by decide)) (g := (mkF m 159 #[.val (.int flag), .val (.int c0), .val (.int c1), .val (.int (flag &&& (3 : Int32))), .val (.ref b28), .val (.ref b36), .val (.ref b42), .val (.int (1 : Int32)), .val (.int (1 : Int32)), .unset] [(.ref b36)])) rfl (by rw [hml]; rfl) (argsL := [(.ref b36)]) (rest := []) (lenOf own_pd9 rfl) rfl (by show 2 * 0 + _ ≤ _; exact Nat.le_of_eq rfl) (hb hby at_159) (fun _ _ => ⟨rfl, e48, (by decide : 6 + 1 ≤ _), (by decide : 16 + 5 ≤ _)⟩)
      dsimp only [Pt.U, Pt.locs, Pt.cells, Pt.slots] at X51 l51 y51 z51 st51 hQ51
      subst l51 y51 z51
      obtain ⟨wb51, rfl, N51q, K51q, Ew51, Fw51_⟩ := hQ51
      have N51 := Fr.app N48 N51q
      have KC51 : Keep h0 T51.heap [] := KC45.trans K51q all0
      have CH51 : CHr Z [("java/lang/String", 7)] s.vm h0 T33.vm T51.heap := CH45.trans (CHr.keep K51q all0 CH45.1)
      have pre52 : Goes p e below s₁ (entryFrame m #[(.int flag), (.int c0), (.int c1)] maxLocals) T51 (mkF m 162 #[.val (.int flag), .val (.int c0), .val (.int c1), .val (.int (flag &&& (3 : Int32))), .val (.ref b28), .val (.ref b36), .val (.ref b42), .val (.int (1 : Int32)), .val (.int (1 : Int32)), .unset] [(.ref wb51)]) := fun t kt => pre50 t (st51 t kt)
      have pre53 : Goes p e below s₁ (entryFrame m #[(.int flag), (.int c0), (.int c1)] maxLocals) T51 (mkF m 171 #[.val (.int flag), .val (.int c0), .val (.int c1), .val (.int (flag &&& (3 : Int32))), .val (.ref b28), .val (.ref b36), .val (.ref b42), .val (.int (1 : Int32)), .val (.int (1 : Int32)), .val (.ref wb51)] [(.ref wb51)]) := fun t kt => pre52 t (by
          show Steps p.tables e below (T51.setTop (mkF m 162 #[.val (.int flag), .val (.int c0), .val (.int c1), .val (.int (flag &&& (3 : Int32))), .val (.ref b28), .val (.ref b36), .val (.ref b42), .val (.int (1 : Int32)), .val (.int (1 : Int32)), .unset] [(.ref wb51)])) _
          refine XS.astore X51.here hx rfl (hb hby at_162) rfl rfl (l' := #[.val (.int flag), .val (.int c0), .val (.int c1), .val (.int (flag &&& (3 : Int32))), .val (.ref b28), .val (.ref b36), .val (.ref b42), .val (.int (1 : Int32)), .val (.int (1 : Int32)), .val (.ref wb51)]) rfl ?_
          show Steps p.tables e below (T51.setTop (mkF m 164 #[.val (.int flag), .val (.int c0), .val (.int c1), .val (.int (flag &&& (3 : Int32))), .val (.ref b28), .val (.ref b36), .val (.ref b42), .val (.int (1 : Int32)), .val (.int (1 : Int32)), .val (.ref wb51)] [])) _
          refine XS.iload X51.here hx rfl (hb hby at_164) rfl ?_
          show Steps p.tables e below (T51.setTop (mkF m 166 #[.val (.int flag), .val (.int c0), .val (.int c1), .val (.int (flag &&& (3 : Int32))), .val (.ref b28), .val (.ref b36), .val (.ref b42), .val (.int (1 : Int32)), .val (.int (1 : Int32)), .val (.ref wb51)] [(.int (1 : Int32))])) _
          refine XS.ifNo X51.here hx rfl (hb hby at_166) rfl ((if0 _ _).trans (feq (by decide : ¬ ((1 : Int32) = (0 : Int32)))).1) ?_
          show Steps p.tables e below (T51.setTop (mkF m 169 #[.val (.int flag), .val (.int c0), .val (.int c1), .val (.int (flag &&& (3 : Int32))), .val (.ref b28), .val (.ref b36), .val (.ref b42), .val (.int (1 : Int32)), .val (.int (1 : Int32)), .val (.ref wb51)] [])) _
          refine XS.aload X51.here hx rfl (hb hby at_169) rfl rfl ?_
          exact kt)
      obtain ⟨cq54, kq54, q54a, q54b, q54c⟩ := isOf hZ rfl Ew51
      obtain ⟨_, _, ⟨T54, L54, k54, n54⟩, -, X54, ⟨Lc54, hQ54, l54, y54, z54⟩, st54⟩ := X51.virtualBack hx (y := (⟨"com/example/outcomist/outcomist/Catalogue$Proxy", "coded", "()Z"⟩ : MethodName)) (z := (⟨"com/example/outcomist/outcomist/Catalogue$Proxy", "coded", "()Z"⟩ : MethodName)) hown (mvT hZ (hw _ (List.mem_of_getElem? (i := 48) rfl))) (mvT hZ (hw _ (List.mem_of_getElem? (i := 49) rfl))) (notFace_of_selects (args := #[]) (mvT hZ (hw _ (List.mem_of_getElem? (i := 51) rfl)))) (mvT hZ (hw _ (List.mem_of_getElem? (i := 51) rfl))) (mvT hZ (hw _ (List.mem_of_getElem? (i := 50) rfl))) (by decide) (backOf (W := 0) (own_cdN l Z a0 hw [] wb51 T51.heap n0 (Nat.le_trans (Nat.le_trans (Nat.le_trans (Nat.le_trans (Nat.le_trans (Nat.le_trans (Nat.le_trans (Nat.le_trans Z0 E28.1) E31.1) K33q.1) E36.1) K39q.1) E42.1) K45q.1) K51q.1) Fw51_) hZ (hw _ (List.mem_of_getElem? (i := 52) rfl)) (hw _ (List.mem_of_getElem? (i := 28) rfl)) (by decide) (by decide)) q54a q54c (g := (mkF m 171 #[.val (.int flag), .val (.int c0), .val (.int c1), .val (.int (flag &&& (3 : Int32))), .val (.ref b28), .val (.ref b36), .val (.ref b42), .val (.int (1 : Int32)), .val (.int (1 : Int32)), .val (.ref wb51)] [(.ref wb51)])) rfl (by rw [hml]; rfl) (Steps.refl _) (argsL := []) (rest := []) (lenOf own_pd8 rfl) rfl (by show 2 * 0 + _ ≤ _; exact Nat.le_of_eq rfl) (hb hby at_171) (fun _ _ => ⟨rfl, rfl, (by decide : 7 + 0 ≤ _), (by decide : 21 + 0 ≤ _)⟩)
      dsimp only [Pt.U, Pt.locs, Pt.cells, Pt.slots] at X54 l54 y54 z54 st54 hQ54
      subst l54 y54 z54
      obtain ⟨rfl, N54q, e54⟩ := hQ54
      have N54 := Fr.app N51 N54q
      have pre55 : Goes p e below s₁ (entryFrame m #[(.int flag), (.int c0), (.int c1)] maxLocals) T54 (mkF m 174 #[.val (.int flag), .val (.int c0), .val (.int c1), .val (.int (flag &&& (3 : Int32))), .val (.ref b28), .val (.ref b36), .val (.ref b42), .val (.int (1 : Int32)), .val (.int (1 : Int32)), .val (.ref wb51)] [(.int (0 : Int32))]) := fun t kt => pre53 t (st54.trans kt)
      have pre56 : Goes p e below s₁ (entryFrame m #[(.int flag), (.int c0), (.int c1)] maxLocals) T54 (mkF m 182 #[.val (.int flag), .val (.int c0), .val (.int c1), .val (.int (flag &&& (3 : Int32))), .val (.ref b28), .val (.ref b36), .val (.ref b42), .val (.int (1 : Int32)), .val (.int (1 : Int32)), .val (.ref wb51)] [(.int (1 : Int32))]) := fun t kt => pre55 t (by
          show Steps p.tables e below (T54.setTop (mkF m 174 #[.val (.int flag), .val (.int c0), .val (.int c1), .val (.int (flag &&& (3 : Int32))), .val (.ref b28), .val (.ref b36), .val (.ref b42), .val (.int (1 : Int32)), .val (.int (1 : Int32)), .val (.ref wb51)] [(.int (0 : Int32))])) _
          refine XS.ifNo X54.here hx rfl (hb hby at_174) rfl ((if0 _ _).trans (teq (by decide : (0 : Int32) = (0 : Int32))).2) ?_
          show Steps p.tables e below (T54.setTop (mkF m 177 #[.val (.int flag), .val (.int c0), .val (.int c1), .val (.int (flag &&& (3 : Int32))), .val (.ref b28), .val (.ref b36), .val (.ref b42), .val (.int (1 : Int32)), .val (.int (1 : Int32)), .val (.ref wb51)] [])) _
          refine XS.iconst X54.here hx rfl (hb hby at_177) ?_
          show Steps p.tables e below (T54.setTop (mkF m 178 #[.val (.int flag), .val (.int c0), .val (.int c1), .val (.int (flag &&& (3 : Int32))), .val (.ref b28), .val (.ref b36), .val (.ref b42), .val (.int (1 : Int32)), .val (.int (1 : Int32)), .val (.ref wb51)] [(.int (1 : Int32))])) _
          refine XS.goto X54.here hx rfl (pc0 := 178) (pc' := 182) rfl (hb hby at_178) (by decide) (by decide) ?_
          exact kt)
      obtain ⟨fs, hr, hrun, hended, hEnd⟩ := X54.leaveW hS33 (by rw [e54]; exact (Nat.le_trans (Nat.le_trans (Nat.le_trans (Nat.le_trans (Nat.le_trans (Nat.le_refl _) E36.1) K39q.1) E42.1) K45q.1) K51q.1)) (v := some (.int (1 : Int32))) (fun h => by rw [Bd.returns] at h; cases h)
      refine ⟨_, _, pre56 _ ?_, hrun, hended, _, _, rfl, ?_, ?_, hEnd.1, hEnd.2.1, hEnd.2.2.1, hEnd.2.2.2.mono (by decide) (by decide)⟩
      · show Steps p.tables e below (T54.setTop (mkF m 182 #[.val (.int flag), .val (.int c0), .val (.int c1), .val (.int (flag &&& (3 : Int32))), .val (.ref b28), .val (.ref b36), .val (.ref b42), .val (.int (1 : Int32)), .val (.int (1 : Int32)), .val (.ref wb51)] [(.int (1 : Int32))])) _
        exact retN X54 hx (t := .boolean) Bd.returns (by simp) (hb hby at_182) hr
      · show Q_own_rm0 Z flag c0 c1 cs aDEFAULTCAPACITY_EMPTY_ELEMENTDATA aEMPTY_SET aEMPTY_MAP h0 n0 _ T54.heap _
        rw [e54]
        exact ⟨rfl, N54⟩
      · show CHr Z [("java/lang/String", 7)] s.vm s.heap T54.vm T54.heap
        rw [hh, e54]
        exact CH51.trans (CHv.at (s := s) (vm0 := T33.vm) X54 hZ hEL CH51.1)
    · -- no at pc 16: t
      have pre57 : Goes p e below s₁ (entryFrame m #[(.int flag), (.int c0), (.int c1)] maxLocals) s₁ (mkF m 36 #[.val (.int flag), .val (.int c0), .val (.int c1), .val (.int (flag &&& (3 : Int32))), .unset, .unset, .unset, .unset, .unset, .unset] [(.int (2 : Int32)), (.int (flag &&& (3 : Int32)))]) := fun t kt => pre25 t (by
          show Steps p.tables e below (s₁.setTop (mkF m 16 #[.val (.int flag), .val (.int c0), .val (.int c1), .val (.int (flag &&& (3 : Int32))), .unset, .unset, .unset, .unset, .unset, .unset] [(.int (1 : Int32)), (.int (flag &&& (3 : Int32)))])) _
          refine XS.icmpYes X0.here hx rfl (pc0 := 16) (pc' := 34) rfl (hb hby at_16) rfl (feq hc16_26).2 (by decide) (by decide) ?_
          show Steps p.tables e below (s₁.setTop (mkF m 34 #[.val (.int flag), .val (.int c0), .val (.int c1), .val (.int (flag &&& (3 : Int32))), .unset, .unset, .unset, .unset, .unset, .unset] [])) _
          refine XS.iloadN X0.here hx rfl (hb hby at_34) rfl ?_
          show Steps p.tables e below (s₁.setTop (mkF m 35 #[.val (.int flag), .val (.int c0), .val (.int c1), .val (.int (flag &&& (3 : Int32))), .unset, .unset, .unset, .unset, .unset, .unset] [(.int (flag &&& (3 : Int32)))])) _
          refine XS.iconst X0.here hx rfl (hb hby at_35) ?_
          exact kt)
      by_cases hc36_58 : (flag &&& (3 : Int32)) = (2 : Int32)
      · -- yes at pc 36: tt
        have pre59 : Goes p e below s₁ (entryFrame m #[(.int flag), (.int c0), (.int c1)] maxLocals) s₁ (mkF m 40 #[.val (.int flag), .val (.int c0), .val (.int c1), .val (.int (flag &&& (3 : Int32))), .unset, .unset, .unset, .unset, .unset, .unset] [(.int (1 : Int32))]) := fun t kt => pre57 t (by
            show Steps p.tables e below (s₁.setTop (mkF m 36 #[.val (.int flag), .val (.int c0), .val (.int c1), .val (.int (flag &&& (3 : Int32))), .unset, .unset, .unset, .unset, .unset, .unset] [(.int (2 : Int32)), (.int (flag &&& (3 : Int32)))])) _
            refine XS.icmpNo X0.here hx rfl (hb hby at_36) rfl (teq hc36_58).2 ?_
            show Steps p.tables e below (s₁.setTop (mkF m 39 #[.val (.int flag), .val (.int c0), .val (.int c1), .val (.int (flag &&& (3 : Int32))), .unset, .unset, .unset, .unset, .unset, .unset] [])) _
            refine XS.iconst X0.here hx rfl (hb hby at_39) ?_
            exact kt)
        obtain ⟨T60, h60, k60, X60, e60, E60, A60, st60⟩ := newP X0 hx hZ (hw _ (List.mem_of_getElem? (i := 72) rfl)) e0 (g := (mkF m 40 #[.val (.int flag), .val (.int c0), .val (.int c1), .val (.int (flag &&& (3 : Int32))), .unset, .unset, .unset, .unset, .unset, .unset] [(.int (1 : Int32))])) rfl (hb hby at_40) rfl (by decide) (cap := 1) (by decide) (by decide) (by decide) (by decide)
        obtain ⟨b60, g60⟩ : ∃ z, z = h0.size := ⟨_, rfl⟩
        rw [← g60] at A60 st60
        have V_b60 : Arv Z h60 b60 k60 .char (1 : Int32) [(.int (0 : Int32))] (.int (0 : Int32)) := (Arv.new A60 (by decide)).pad (pad_rep [] (.int (0 : Int32)) 1)
        have g_b60 : n0 ≤ b60 := Nat.le_trans Z0 (Nat.le_of_eq g60.symm)
        have sz_b60 : h0.size ≤ b60 := (Nat.le_trans (Keep.refl h0 []).1 (Nat.le_of_eq g60.symm))
        have K60 : Keep h0 h60 [] := (Keep.refl h0 []).ext E60
        have CH60 : CHr Z [("java/lang/String", 7)] s.vm h0 s.vm h60 := CH0.trans (CHr.ext E60 CH0.1)
        have pre61 : Goes p e below s₁ (entryFrame m #[(.int flag), (.int c0), (.int c1)] maxLocals) T60 (mkF m 42 #[.val (.int flag), .val (.int c0), .val (.int c1), .val (.int (flag &&& (3 : Int32))), .unset, .unset, .unset, .unset, .unset, .unset] [(.ref b60)]) := fun t kt => pre59 t (st60 t kt)
        have pre62 : Goes p e below s₁ (entryFrame m #[(.int flag), (.int c0), (.int c1)] maxLocals) T60 (mkF m 53 #[.val (.int flag), .val (.int c0), .val (.int c1), .val (.int (flag &&& (3 : Int32))), .unset, .val (.ref b60), .unset, .unset, .unset, .unset] [(.int ((c0 &&& (255 : Int32)).toUInt32.toUInt16.toUInt32.toInt32)), (.int (0 : Int32)), (.ref b60)]) := fun t kt => pre61 t (by
            show Steps p.tables e below (T60.setTop (mkF m 42 #[.val (.int flag), .val (.int c0), .val (.int c1), .val (.int (flag &&& (3 : Int32))), .unset, .unset, .unset, .unset, .unset, .unset] [(.ref b60)])) _
            refine XS.astore X60.here hx rfl (hb hby at_42) rfl rfl (l' := #[.val (.int flag), .val (.int c0), .val (.int c1), .val (.int (flag &&& (3 : Int32))), .unset, .val (.ref b60), .unset, .unset, .unset, .unset]) rfl ?_
            show Steps p.tables e below (T60.setTop (mkF m 44 #[.val (.int flag), .val (.int c0), .val (.int c1), .val (.int (flag &&& (3 : Int32))), .unset, .val (.ref b60), .unset, .unset, .unset, .unset] [])) _
            refine XS.aload X60.here hx rfl (hb hby at_44) rfl rfl ?_
            show Steps p.tables e below (T60.setTop (mkF m 46 #[.val (.int flag), .val (.int c0), .val (.int c1), .val (.int (flag &&& (3 : Int32))), .unset, .val (.ref b60), .unset, .unset, .unset, .unset] [(.ref b60)])) _
            refine XS.iconst X60.here hx rfl (hb hby at_46) ?_
            show Steps p.tables e below (T60.setTop (mkF m 47 #[.val (.int flag), .val (.int c0), .val (.int c1), .val (.int (flag &&& (3 : Int32))), .unset, .val (.ref b60), .unset, .unset, .unset, .unset] [(.int (0 : Int32)), (.ref b60)])) _
            refine XS.iloadN X60.here hx rfl (hb hby at_47) rfl ?_
            show Steps p.tables e below (T60.setTop (mkF m 48 #[.val (.int flag), .val (.int c0), .val (.int c1), .val (.int (flag &&& (3 : Int32))), .unset, .val (.ref b60), .unset, .unset, .unset, .unset] [(.int c0), (.int (0 : Int32)), (.ref b60)])) _
            refine XS.sipush X60.here hx rfl (hb hby at_48) ?_
            show Steps p.tables e below (T60.setTop (mkF m 51 #[.val (.int flag), .val (.int c0), .val (.int c1), .val (.int (flag &&& (3 : Int32))), .unset, .val (.ref b60), .unset, .unset, .unset, .unset] [(.int (255 : Int32)), (.int c0), (.int (0 : Int32)), (.ref b60)])) _
            refine XS.iand X60.here hx rfl (hb hby at_51) rfl ?_
            show Steps p.tables e below (T60.setTop (mkF m 52 #[.val (.int flag), .val (.int c0), .val (.int c1), .val (.int (flag &&& (3 : Int32))), .unset, .val (.ref b60), .unset, .unset, .unset, .unset] [(.int (c0 &&& (255 : Int32))), (.int (0 : Int32)), (.ref b60)])) _
            refine XS.i2c X60.here hx rfl (hb hby at_52) rfl ?_
            exact kt)
        obtain ⟨cl63, Ar63, q63, S63, N_63, H63, G63⟩ := (id (V_b60))
        have hin63 : ¬ ((0 : Int32) < 0 ∨ cl63.slots.size ≤ ((0 : Int32)).toNatClampNeg) := inb_of S63 ⟨by decide, by decide⟩
        obtain ⟨T64, h64, X64, e64, W64, st64⟩ := stC X60 hx hZ e60 Ar63 (j := (0 : Int32)) hin63 (g := (mkF m 53 #[.val (.int flag), .val (.int c0), .val (.int c1), .val (.int (flag &&& (3 : Int32))), .unset, .val (.ref b60), .unset, .unset, .unset, .unset] [(.int ((c0 &&& (255 : Int32)).toUInt32.toUInt16.toUInt32.toInt32)), (.int (0 : Int32)), (.ref b60)])) rfl rfl (hb hby at_53)
        have V64 : Arv Z h64 b60 k60 .char (1 : Int32) [(.int (nar .char ((c0 &&& (255 : Int32)).toUInt32.toUInt16.toUInt32.toInt32)))] (.int (0 : Int32)) := Arv.set Ar63 q63 S63 N_63 H63 G63 (fits_nar_char _) W64 0 rfl (Nat.le_of_ble_eq_true rfl)
        have K64 : Keep h0 h64 [] := K60.wr W64 (Or.inr sz_b60)
        have CH64 : CHr Z [("java/lang/String", 7)] s.vm h0 s.vm h64 := CH60.trans (CHr.wr W64 (own_safeV hZ.alike V_b60 (by decide)) CH60.1)
        have N64 := Fr.snoc X64 N0 g_b60
        have pre65 : Goes p e below s₁ (entryFrame m #[(.int flag), (.int c0), (.int c1)] maxLocals) T64 (mkF m 54 #[.val (.int flag), .val (.int c0), .val (.int c1), .val (.int (flag &&& (3 : Int32))), .unset, .val (.ref b60), .unset, .unset, .unset, .unset] []) := fun t kt => pre62 t (st64 t kt)
        obtain ⟨T66, h66, X66, e66, E66, A66, DD66, -, st66⟩ := newO X64 hx hZ hown (hw _ (List.mem_of_getElem? (i := 69) rfl)) (hw _ (List.mem_of_getElem? (i := 70) rfl)) (hw _ (List.mem_of_getElem? (i := 71) rfl)) e64 (g := (mkF m 54 #[.val (.int flag), .val (.int c0), .val (.int c1), .val (.int (flag &&& (3 : Int32))), .unset, .val (.ref b60), .unset, .unset, .unset, .unset] [])) rfl (hb hby at_54) (by decide) (by decide)
        obtain ⟨b66, g66⟩ : ∃ z, z = h64.size := ⟨_, rfl⟩
        rw [← g66] at A66 DD66 st66
        have F_value_b66 : Fld Z h66 b66 "java/lang/String" "value" "[B" .null := DD66 (Or.inr (hw _ (List.mem_of_getElem? (i := 83) rfl))) (ty := (.array .byte)) (by decide)
        have F_coder_b66 : Fld Z h66 b66 "java/lang/String" "coder" "B" (.int (0 : Int32)) := DD66 (Or.inr (hw _ (List.mem_of_getElem? (i := 84) rfl))) (ty := .byte) (by decide)
        have g_b66 : n0 ≤ b66 := Nat.le_trans (Nat.le_trans (Nat.le_trans Z0 E60.1) (Keep.of_wr W64).1) (Nat.le_of_eq g66.symm)
        have sz_b66 : h0.size ≤ b66 := (Nat.le_trans K64.1 (Nat.le_of_eq g66.symm))
        have K66 : Keep h0 h66 [] := K64.ext E66
        have CH66 : CHr Z [("java/lang/String", 7)] s.vm h0 s.vm h66 := CH64.trans (CHr.ext E66 CH64.1)
        have pre67 : Goes p e below s₁ (entryFrame m #[(.int flag), (.int c0), (.int c1)] maxLocals) T66 (mkF m 57 #[.val (.int flag), .val (.int c0), .val (.int c1), .val (.int (flag &&& (3 : Int32))), .unset, .val (.ref b60), .unset, .unset, .unset, .unset] [(.ref b66)]) := fun t kt => pre65 t (st66 t kt)
        have pre68 : Goes p e below s₁ (entryFrame m #[(.int flag), (.int c0), (.int c1)] maxLocals) T66 (mkF m 60 #[.val (.int flag), .val (.int c0), .val (.int c1), .val (.int (flag &&& (3 : Int32))), .unset, .val (.ref b60), .unset, .unset, .unset, .unset] [(.ref b60), (.ref b66), (.ref b66)]) := fun t kt => pre67 t (by
            show Steps p.tables e below (T66.setTop (mkF m 57 #[.val (.int flag), .val (.int c0), .val (.int c1), .val (.int (flag &&& (3 : Int32))), .unset, .val (.ref b60), .unset, .unset, .unset, .unset] [(.ref b66)])) _
            refine XS.dup X66.here hx rfl (hb hby at_57) rfl rfl ?_
            show Steps p.tables e below (T66.setTop (mkF m 58 #[.val (.int flag), .val (.int c0), .val (.int c1), .val (.int (flag &&& (3 : Int32))), .unset, .val (.ref b60), .unset, .unset, .unset, .unset] [(.ref b66), (.ref b66)])) _
            refine XS.aload X66.here hx rfl (hb hby at_58) rfl rfl ?_
            exact kt)
        obtain ⟨_, _, ⟨T69, L69, k69, n69⟩, -, X69, ⟨Lc69, hQ69, l69, y69, z69⟩, st69⟩ := X66.specialBack hx (y := (⟨"java/lang/String", "<init>", "([C)V"⟩ : MethodName)) rfl hown (mvT hZ (hw _ (List.mem_of_getElem? (i := 73) rfl))) (mvT hZ (hw _ (List.mem_of_getElem? (i := 74) rfl))) (mvT hZ (hw _ (List.mem_of_getElem? (i := 75) rfl))) (by decide) (backOf (W := 1) (own_sJ1 l Z a0 hw [] b66 b60 k60 cs _ _ (nar .char ((c0 &&& (255 : Int32)).toUInt32.toUInt16.toUInt32.toInt32)) h66 n0 (Nat.le_trans (Nat.le_trans (Nat.le_trans Z0 E60.1) (Keep.of_wr W64).1) E66.1) A66 F_value_b66 F_coder_b66 g_b66 (V64.ext E66) (S_CS.ext (((O0.ext E60).wr W64 g_b60).ext E66).2) hcs (own_n1 c0)) hZ (hw _ (List.mem_of_getElem? (i := 75) rfl)) (hw _ (List.mem_of_getElem? (i := 71) rfl)) (by decide) (by decide)) (g := (mkF m 60 #[.val (.int flag), .val (.int c0), .val (.int c1), .val (.int (flag &&& (3 : Int32))), .unset, .val (.ref b60), .unset, .unset, .unset, .unset] [(.ref b60), (.ref b66), (.ref b66)])) rfl (by rw [hml]; rfl) (Steps.refl _) (a := b66) (argsL := [(.ref b60)]) (rest := [(.ref b66)]) (lenOf own_pd10 rfl) rfl (by show 2 * 0 + _ ≤ _; exact Nat.le_of_eq rfl) (hb hby at_60) (fun _ _ => ⟨rfl, e66, (by decide : 2 + 1 ≤ _), (by decide : 5 + 1 ≤ _)⟩)
        dsimp only [Pt.U, Pt.locs, Pt.cells, Pt.slots] at X69 l69 y69 z69 st69 hQ69
        subst l69 y69 z69
        obtain ⟨rfl, N69q, K69q, Rs69⟩ := hQ69
        have N69 := Fr.app N64 N69q
        have KC69 : Keep h0 T69.heap [] := K66.trans K69q (allS (Or.inr sz_b66) all0)
        have CH69 : CHr Z [("java/lang/String", 7)] s.vm h0 s.vm T69.heap := CH66.trans (CHr.keep K69q (allS (own_safe hZ.alike A66 F_value_b66) all0) CH66.1)
        have pre70 : Goes p e below s₁ (entryFrame m #[(.int flag), (.int c0), (.int c1)] maxLocals) T69 (mkF m 63 #[.val (.int flag), .val (.int c0), .val (.int c1), .val (.int (flag &&& (3 : Int32))), .unset, .val (.ref b60), .unset, .unset, .unset, .unset] [(.ref b66)]) := fun t kt => pre68 t (st69.trans kt)
        have pre71 : Goes p e below s₁ (entryFrame m #[(.int flag), (.int c0), (.int c1)] maxLocals) T69 (mkF m 104 #[.val (.int flag), .val (.int c0), .val (.int c1), .val (.int (flag &&& (3 : Int32))), .val (.ref b66), .val (.ref b60), .unset, .unset, .unset, .unset] []) := fun t kt => pre70 t (by
            show Steps p.tables e below (T69.setTop (mkF m 63 #[.val (.int flag), .val (.int c0), .val (.int c1), .val (.int (flag &&& (3 : Int32))), .unset, .val (.ref b60), .unset, .unset, .unset, .unset] [(.ref b66)])) _
            refine XS.astore X69.here hx rfl (hb hby at_63) rfl rfl (l' := #[.val (.int flag), .val (.int c0), .val (.int c1), .val (.int (flag &&& (3 : Int32))), .val (.ref b66), .val (.ref b60), .unset, .unset, .unset, .unset]) rfl ?_
            show Steps p.tables e below (T69.setTop (mkF m 65 #[.val (.int flag), .val (.int c0), .val (.int c1), .val (.int (flag &&& (3 : Int32))), .val (.ref b66), .val (.ref b60), .unset, .unset, .unset, .unset] [])) _
            refine XS.goto X69.here hx rfl (pc0 := 65) (pc' := 104) rfl (hb hby at_65) (by decide) (by decide) ?_
            exact kt)
        obtain ⟨T72, h72, X72, e72, E72, A72, DD72, -, st72⟩ := newO X69 hx hZ hown (hw _ (List.mem_of_getElem? (i := 0) rfl)) (hw _ (List.mem_of_getElem? (i := 1) rfl)) (hw _ (List.mem_of_getElem? (i := 2) rfl)) rfl (g := (mkF m 104 #[.val (.int flag), .val (.int c0), .val (.int c1), .val (.int (flag &&& (3 : Int32))), .val (.ref b66), .val (.ref b60), .unset, .unset, .unset, .unset] [])) rfl (hb hby at_104) (by decide) (by decide)
        obtain ⟨b72, g72⟩ : ∃ z, z = T69.heap.size := ⟨_, rfl⟩
        rw [← g72] at A72 DD72 st72
        have F_modCount_b72 : Fld Z h72 b72 "java/util/AbstractList" "modCount" "I" (.int (0 : Int32)) := DD72 (Or.inl (hw _ (List.mem_of_getElem? (i := 22) rfl))) (ty := .int) (by decide)
        have F_elementData_b72 : Fld Z h72 b72 "java/util/ArrayList" "elementData" "[Ljava/lang/Object;" .null := DD72 (Or.inl (hw _ (List.mem_of_getElem? (i := 25) rfl))) (ty := (.array (.object "java/lang/Object"))) (by decide)
        have g_b72 : n0 ≤ b72 := Nat.le_trans (Nat.le_trans (Nat.le_trans (Nat.le_trans (Nat.le_trans Z0 E60.1) (Keep.of_wr W64).1) E66.1) K69q.1) (Nat.le_of_eq g72.symm)
        have sz_b72 : h0.size ≤ b72 := (Nat.le_trans KC69.1 (Nat.le_of_eq g72.symm))
        have K72 : Keep h0 h72 [] := KC69.ext E72
        have CH72 : CHr Z [("java/lang/String", 7)] s.vm h0 s.vm h72 := CH69.trans (CHr.ext E72 CH69.1)
        have pre73 : Goes p e below s₁ (entryFrame m #[(.int flag), (.int c0), (.int c1)] maxLocals) T72 (mkF m 107 #[.val (.int flag), .val (.int c0), .val (.int c1), .val (.int (flag &&& (3 : Int32))), .val (.ref b66), .val (.ref b60), .unset, .unset, .unset, .unset] [(.ref b72)]) := fun t kt => pre71 t (st72 t kt)
        have pre74 : Goes p e below s₁ (entryFrame m #[(.int flag), (.int c0), (.int c1)] maxLocals) T72 (mkF m 108 #[.val (.int flag), .val (.int c0), .val (.int c1), .val (.int (flag &&& (3 : Int32))), .val (.ref b66), .val (.ref b60), .unset, .unset, .unset, .unset] [(.ref b72), (.ref b72)]) := fun t kt => pre73 t (by
            show Steps p.tables e below (T72.setTop (mkF m 107 #[.val (.int flag), .val (.int c0), .val (.int c1), .val (.int (flag &&& (3 : Int32))), .val (.ref b66), .val (.ref b60), .unset, .unset, .unset, .unset] [(.ref b72)])) _
            refine XS.dup X72.here hx rfl (hb hby at_107) rfl rfl ?_
            exact kt)
        obtain ⟨_, _, ⟨T75, L75, k75, n75⟩, -, X75, ⟨Lc75, hQ75, l75, y75, z75⟩, st75⟩ := X72.specialBack hx (y := (⟨"java/util/ArrayList", "<init>", "()V"⟩ : MethodName)) rfl hown (mvT hZ (hw _ (List.mem_of_getElem? (i := 3) rfl))) (mvT hZ (hw _ (List.mem_of_getElem? (i := 4) rfl))) (mvT hZ (hw _ (List.mem_of_getElem? (i := 5) rfl))) (by decide) (backOf (W := 1) (own_arl l Z a0 hw [] b72 aDEFAULTCAPACITY_EMPTY_ELEMENTDATA h72 n0 (Nat.le_trans (Nat.le_trans (Nat.le_trans (Nat.le_trans (Nat.le_trans Z0 E60.1) (Keep.of_wr W64).1) E66.1) K69q.1) E72.1) A72 F_modCount_b72 F_elementData_b72 g_b72 S_DC (((((O0.ext E60).wr W64 g_b60).ext E66).keep K69q (allS g_b66 all0)).ext E72)) hZ (hw _ (List.mem_of_getElem? (i := 5) rfl)) (hw _ (List.mem_of_getElem? (i := 2) rfl)) (by decide) (by decide)) (g := (mkF m 108 #[.val (.int flag), .val (.int c0), .val (.int c1), .val (.int (flag &&& (3 : Int32))), .val (.ref b66), .val (.ref b60), .unset, .unset, .unset, .unset] [(.ref b72), (.ref b72)])) rfl (by rw [hml]; rfl) (Steps.refl _) (a := b72) (argsL := []) (rest := [(.ref b72)]) (lenOf own_pd4 rfl) rfl (by show 2 * 0 + _ ≤ _; exact Nat.le_of_eq rfl) (hb hby at_108) (fun _ _ => ⟨rfl, e72, (by decide : 4 + 0 ≤ _), (by decide : 9 + 0 ≤ _)⟩)
        dsimp only [Pt.U, Pt.locs, Pt.cells, Pt.slots] at X75 l75 y75 z75 st75 hQ75
        subst l75 y75 z75
        obtain ⟨rfl, N75q, K75q⟩ := hQ75
        have N75 := Fr.app N69 N75q
        have KC75 : Keep h0 T75.heap [] := K72.trans K75q (allS (Or.inr sz_b72) all0)
        have CH75 : CHr Z [("java/lang/String", 7)] s.vm h0 s.vm T75.heap := CH72.trans (CHr.keep K75q (allS (Safe.exa hZ.alike A72 (by decide) (by decide)) all0) CH72.1)
        have pre76 : Goes p e below s₁ (entryFrame m #[(.int flag), (.int c0), (.int c1)] maxLocals) T75 (mkF m 111 #[.val (.int flag), .val (.int c0), .val (.int c1), .val (.int (flag &&& (3 : Int32))), .val (.ref b66), .val (.ref b60), .unset, .unset, .unset, .unset] [(.ref b72)]) := fun t kt => pre74 t (st75.trans kt)
        have pre77 : Goes p e below s₁ (entryFrame m #[(.int flag), (.int c0), (.int c1)] maxLocals) T75 (mkF m 113 #[.val (.int flag), .val (.int c0), .val (.int c1), .val (.int (flag &&& (3 : Int32))), .val (.ref b66), .val (.ref b72), .unset, .unset, .unset, .unset] []) := fun t kt => pre76 t (by
            show Steps p.tables e below (T75.setTop (mkF m 111 #[.val (.int flag), .val (.int c0), .val (.int c1), .val (.int (flag &&& (3 : Int32))), .val (.ref b66), .val (.ref b60), .unset, .unset, .unset, .unset] [(.ref b72)])) _
            refine XS.astore X75.here hx rfl (hb hby at_111) rfl rfl (l' := #[.val (.int flag), .val (.int c0), .val (.int c1), .val (.int (flag &&& (3 : Int32))), .val (.ref b66), .val (.ref b72), .unset, .unset, .unset, .unset]) rfl ?_
            exact kt)
        obtain ⟨T78, h78, X78, e78, E78, A78, DD78, -, st78⟩ := newO X75 hx hZ hown (hw _ (List.mem_of_getElem? (i := 26) rfl)) (hw _ (List.mem_of_getElem? (i := 27) rfl)) (hw _ (List.mem_of_getElem? (i := 28) rfl)) rfl (g := (mkF m 113 #[.val (.int flag), .val (.int c0), .val (.int c1), .val (.int (flag &&& (3 : Int32))), .val (.ref b66), .val (.ref b72), .unset, .unset, .unset, .unset] [])) rfl (hb hby at_113) (by decide) (by decide)
        obtain ⟨b78, g78⟩ : ∃ z, z = T75.heap.size := ⟨_, rfl⟩
        rw [← g78] at A78 DD78 st78
        have F_codingSystem_b78 : Fld Z h78 b78 "com/example/outcomist/outcomist/Catalogue$Proxy" "codingSystem" "Ljava/lang/String;" .null := DD78 (Or.inr (hw _ (List.mem_of_getElem? (i := 39) rfl))) (ty := (.object "java/lang/String")) (by decide)
        have F_outcomes_b78 : Fld Z h78 b78 "com/example/outcomist/outcomist/Catalogue$Proxy" "outcomes" "Ljava/util/List;" .null := DD78 (Or.inr (hw _ (List.mem_of_getElem? (i := 41) rfl))) (ty := (.object "java/util/List")) (by decide)
        have F_severityVariants_b78 : Fld Z h78 b78 "com/example/outcomist/outcomist/Catalogue$Proxy" "severityVariants" "Ljava/util/Set;" .null := DD78 (Or.inr (hw _ (List.mem_of_getElem? (i := 43) rfl))) (ty := (.object "java/util/Set")) (by decide)
        have F_issueTypeVariants_b78 : Fld Z h78 b78 "com/example/outcomist/outcomist/Catalogue$Proxy" "issueTypeVariants" "Ljava/util/Map;" .null := DD78 (Or.inr (hw _ (List.mem_of_getElem? (i := 45) rfl))) (ty := (.object "java/util/Map")) (by decide)
        have F_codingSystemVariants_b78 : Fld Z h78 b78 "com/example/outcomist/outcomist/Catalogue$Proxy" "codingSystemVariants" "Ljava/util/Set;" .null := DD78 (Or.inr (hw _ (List.mem_of_getElem? (i := 47) rfl))) (ty := (.object "java/util/Set")) (by decide)
        have g_b78 : n0 ≤ b78 := Nat.le_trans (Nat.le_trans (Nat.le_trans (Nat.le_trans (Nat.le_trans (Nat.le_trans (Nat.le_trans Z0 E60.1) (Keep.of_wr W64).1) E66.1) K69q.1) E72.1) K75q.1) (Nat.le_of_eq g78.symm)
        have sz_b78 : h0.size ≤ b78 := (Nat.le_trans KC75.1 (Nat.le_of_eq g78.symm))
        have K78 : Keep h0 h78 [] := KC75.ext E78
        have CH78 : CHr Z [("java/lang/String", 7)] s.vm h0 s.vm h78 := CH75.trans (CHr.ext E78 CH75.1)
        have pre79 : Goes p e below s₁ (entryFrame m #[(.int flag), (.int c0), (.int c1)] maxLocals) T78 (mkF m 116 #[.val (.int flag), .val (.int c0), .val (.int c1), .val (.int (flag &&& (3 : Int32))), .val (.ref b66), .val (.ref b72), .unset, .unset, .unset, .unset] [(.ref b78)]) := fun t kt => pre77 t (st78 t kt)
        have pre80 : Goes p e below s₁ (entryFrame m #[(.int flag), (.int c0), (.int c1)] maxLocals) T78 (mkF m 124 #[.val (.int flag), .val (.int c0), .val (.int c1), .val (.int (flag &&& (3 : Int32))), .val (.ref b66), .val (.ref b72), .unset, .unset, .unset, .unset] [.null, .null, .null, (.ref b72), (.ref b66), (.ref b78), (.ref b78)]) := fun t kt => pre79 t (by
            show Steps p.tables e below (T78.setTop (mkF m 116 #[.val (.int flag), .val (.int c0), .val (.int c1), .val (.int (flag &&& (3 : Int32))), .val (.ref b66), .val (.ref b72), .unset, .unset, .unset, .unset] [(.ref b78)])) _
            refine XS.dup X78.here hx rfl (hb hby at_116) rfl rfl ?_
            show Steps p.tables e below (T78.setTop (mkF m 117 #[.val (.int flag), .val (.int c0), .val (.int c1), .val (.int (flag &&& (3 : Int32))), .val (.ref b66), .val (.ref b72), .unset, .unset, .unset, .unset] [(.ref b78), (.ref b78)])) _
            refine XS.aload X78.here hx rfl (hb hby at_117) rfl rfl ?_
            show Steps p.tables e below (T78.setTop (mkF m 119 #[.val (.int flag), .val (.int c0), .val (.int c1), .val (.int (flag &&& (3 : Int32))), .val (.ref b66), .val (.ref b72), .unset, .unset, .unset, .unset] [(.ref b66), (.ref b78), (.ref b78)])) _
            refine XS.aload X78.here hx rfl (hb hby at_119) rfl rfl ?_
            show Steps p.tables e below (T78.setTop (mkF m 121 #[.val (.int flag), .val (.int c0), .val (.int c1), .val (.int (flag &&& (3 : Int32))), .val (.ref b66), .val (.ref b72), .unset, .unset, .unset, .unset] [(.ref b72), (.ref b66), (.ref b78), (.ref b78)])) _
            refine XS.aconstNull X78.here hx rfl (hb hby at_121) ?_
            show Steps p.tables e below (T78.setTop (mkF m 122 #[.val (.int flag), .val (.int c0), .val (.int c1), .val (.int (flag &&& (3 : Int32))), .val (.ref b66), .val (.ref b72), .unset, .unset, .unset, .unset] [.null, (.ref b72), (.ref b66), (.ref b78), (.ref b78)])) _
            refine XS.aconstNull X78.here hx rfl (hb hby at_122) ?_
            show Steps p.tables e below (T78.setTop (mkF m 123 #[.val (.int flag), .val (.int c0), .val (.int c1), .val (.int (flag &&& (3 : Int32))), .val (.ref b66), .val (.ref b72), .unset, .unset, .unset, .unset] [.null, .null, (.ref b72), (.ref b66), (.ref b78), (.ref b78)])) _
            refine XS.aconstNull X78.here hx rfl (hb hby at_123) ?_
            exact kt)
        obtain ⟨_, _, ⟨T81, L81, k81, n81⟩, -, X81, ⟨Lc81, hQ81, l81, y81, z81⟩, st81⟩ := X78.specialBack hx (y := (⟨"com/example/outcomist/outcomist/Catalogue$Proxy", "<init>", "(Ljava/lang/String;Ljava/util/List;Ljava/util/Set;Ljava/util/Map;Ljava/util/Set;)V"⟩ : MethodName)) rfl hown (mvT hZ (hw _ (List.mem_of_getElem? (i := 29) rfl))) (mvT hZ (hw _ (List.mem_of_getElem? (i := 30) rfl))) (mvT hZ (hw _ (List.mem_of_getElem? (i := 31) rfl))) (by decide) (backOf (W := 1) (own_pxR l Z a0 hw [] b78 b66 b72 h78 n0 (Nat.le_trans (Nat.le_trans (Nat.le_trans (Nat.le_trans (Nat.le_trans (Nat.le_trans (Nat.le_trans Z0 E60.1) (Keep.of_wr W64).1) E66.1) K69q.1) E72.1) K75q.1) E78.1) A78 F_codingSystem_b78 F_outcomes_b78 F_severityVariants_b78 F_issueTypeVariants_b78 F_codingSystemVariants_b78 g_b78) hZ (hw _ (List.mem_of_getElem? (i := 31) rfl)) (hw _ (List.mem_of_getElem? (i := 28) rfl)) (by decide) (by decide)) (g := (mkF m 124 #[.val (.int flag), .val (.int c0), .val (.int c1), .val (.int (flag &&& (3 : Int32))), .val (.ref b66), .val (.ref b72), .unset, .unset, .unset, .unset] [.null, .null, .null, (.ref b72), (.ref b66), (.ref b78), (.ref b78)])) rfl (by rw [hml]; rfl) (Steps.refl _) (a := b78) (argsL := [(.ref b66), (.ref b72), .null, .null, .null]) (rest := [(.ref b78)]) (lenOf own_pd7 rfl) rfl (by show 2 * 0 + _ ≤ _; exact Nat.le_of_eq rfl) (hb hby at_124) (fun _ _ => ⟨rfl, e78, (by decide : 5 + 0 ≤ _), (by decide : 14 + 0 ≤ _)⟩)
        dsimp only [Pt.U, Pt.locs, Pt.cells, Pt.slots] at X81 l81 y81 z81 st81 hQ81
        subst l81 y81 z81
        obtain ⟨rfl, N81q, K81q, Eb81, Fb81⟩ := hQ81
        have N81 := Fr.app N75 N81q
        have KC81 : Keep h0 T81.heap [] := K78.trans K81q (allS (Or.inr sz_b78) all0)
        have CH81 : CHr Z [("java/lang/String", 7)] s.vm h0 s.vm T81.heap := CH78.trans (CHr.keep K81q (allS (Safe.exa hZ.alike A78 (by decide) (by decide)) all0) CH78.1)
        have pre82 : Goes p e below s₁ (entryFrame m #[(.int flag), (.int c0), (.int c1)] maxLocals) T81 (mkF m 127 #[.val (.int flag), .val (.int c0), .val (.int c1), .val (.int (flag &&& (3 : Int32))), .val (.ref b66), .val (.ref b72), .unset, .unset, .unset, .unset] [(.ref b78)]) := fun t kt => pre80 t (st81.trans kt)
        have pre83 : Goes p e below s₁ (entryFrame m #[(.int flag), (.int c0), (.int c1)] maxLocals) T81 (mkF m 142 #[.val (.int flag), .val (.int c0), .val (.int c1), .val (.int (flag &&& (3 : Int32))), .val (.ref b66), .val (.ref b72), .val (.ref b78), .val (.int (1 : Int32)), .unset, .unset] [(.ref b78)]) := fun t kt => pre82 t (by
            show Steps p.tables e below (T81.setTop (mkF m 127 #[.val (.int flag), .val (.int c0), .val (.int c1), .val (.int (flag &&& (3 : Int32))), .val (.ref b66), .val (.ref b72), .unset, .unset, .unset, .unset] [(.ref b78)])) _
            refine XS.astore X81.here hx rfl (hb hby at_127) rfl rfl (l' := #[.val (.int flag), .val (.int c0), .val (.int c1), .val (.int (flag &&& (3 : Int32))), .val (.ref b66), .val (.ref b72), .val (.ref b78), .unset, .unset, .unset]) rfl ?_
            show Steps p.tables e below (T81.setTop (mkF m 129 #[.val (.int flag), .val (.int c0), .val (.int c1), .val (.int (flag &&& (3 : Int32))), .val (.ref b66), .val (.ref b72), .val (.ref b78), .unset, .unset, .unset] [])) _
            refine XS.iloadN X81.here hx rfl (hb hby at_129) rfl ?_
            show Steps p.tables e below (T81.setTop (mkF m 130 #[.val (.int flag), .val (.int c0), .val (.int c1), .val (.int (flag &&& (3 : Int32))), .val (.ref b66), .val (.ref b72), .val (.ref b78), .unset, .unset, .unset] [(.int (flag &&& (3 : Int32)))])) _
            refine XS.ifNo X81.here hx rfl (hb hby at_130) rfl ((if0 _ _).trans (feq hc5_2).1) ?_
            show Steps p.tables e below (T81.setTop (mkF m 133 #[.val (.int flag), .val (.int c0), .val (.int c1), .val (.int (flag &&& (3 : Int32))), .val (.ref b66), .val (.ref b72), .val (.ref b78), .unset, .unset, .unset] [])) _
            refine XS.iconst X81.here hx rfl (hb hby at_133) ?_
            show Steps p.tables e below (T81.setTop (mkF m 134 #[.val (.int flag), .val (.int c0), .val (.int c1), .val (.int (flag &&& (3 : Int32))), .val (.ref b66), .val (.ref b72), .val (.ref b78), .unset, .unset, .unset] [(.int (1 : Int32))])) _
            refine XS.goto X81.here hx rfl (pc0 := 134) (pc' := 138) rfl (hb hby at_134) (by decide) (by decide) ?_
            show Steps p.tables e below (T81.setTop (mkF m 138 #[.val (.int flag), .val (.int c0), .val (.int c1), .val (.int (flag &&& (3 : Int32))), .val (.ref b66), .val (.ref b72), .val (.ref b78), .unset, .unset, .unset] [(.int (1 : Int32))])) _
            refine XS.istore X81.here hx rfl (hb hby at_138) rfl (l' := #[.val (.int flag), .val (.int c0), .val (.int c1), .val (.int (flag &&& (3 : Int32))), .val (.ref b66), .val (.ref b72), .val (.ref b78), .val (.int (1 : Int32)), .unset, .unset]) rfl ?_
            show Steps p.tables e below (T81.setTop (mkF m 140 #[.val (.int flag), .val (.int c0), .val (.int c1), .val (.int (flag &&& (3 : Int32))), .val (.ref b66), .val (.ref b72), .val (.ref b78), .val (.int (1 : Int32)), .unset, .unset] [])) _
            refine XS.aload X81.here hx rfl (hb hby at_140) rfl rfl ?_
            exact kt)
        obtain ⟨cq84, kq84, q84a, q84b, q84c⟩ := isOf hZ rfl Eb81
        obtain ⟨_, _, ⟨T84, L84, k84, n84⟩, -, X84, ⟨Lc84, hQ84, l84, y84, z84⟩, st84⟩ := X81.virtualBack hx (y := (⟨"com/example/outcomist/outcomist/Catalogue$Proxy", "coded", "()Z"⟩ : MethodName)) (z := (⟨"com/example/outcomist/outcomist/Catalogue$Proxy", "coded", "()Z"⟩ : MethodName)) hown (mvT hZ (hw _ (List.mem_of_getElem? (i := 48) rfl))) (mvT hZ (hw _ (List.mem_of_getElem? (i := 49) rfl))) (notFace_of_selects (args := #[]) (mvT hZ (hw _ (List.mem_of_getElem? (i := 51) rfl)))) (mvT hZ (hw _ (List.mem_of_getElem? (i := 51) rfl))) (mvT hZ (hw _ (List.mem_of_getElem? (i := 50) rfl))) (by decide) (backOf (W := 0) (own_cdR l Z a0 hw [] b78 b66 T81.heap n0 (Nat.le_trans (Nat.le_trans (Nat.le_trans (Nat.le_trans (Nat.le_trans (Nat.le_trans (Nat.le_trans (Nat.le_trans Z0 E60.1) (Keep.of_wr W64).1) E66.1) K69q.1) E72.1) K75q.1) E78.1) K81q.1) Fb81) hZ (hw _ (List.mem_of_getElem? (i := 52) rfl)) (hw _ (List.mem_of_getElem? (i := 28) rfl)) (by decide) (by decide)) q84a q84c (g := (mkF m 142 #[.val (.int flag), .val (.int c0), .val (.int c1), .val (.int (flag &&& (3 : Int32))), .val (.ref b66), .val (.ref b72), .val (.ref b78), .val (.int (1 : Int32)), .unset, .unset] [(.ref b78)])) rfl (by rw [hml]; rfl) (Steps.refl _) (argsL := []) (rest := []) (lenOf own_pd8 rfl) rfl (by show 2 * 0 + _ ≤ _; exact Nat.le_of_eq rfl) (hb hby at_142) (fun _ _ => ⟨rfl, rfl, (by decide : 5 + 0 ≤ _), (by decide : 14 + 0 ≤ _)⟩)
        dsimp only [Pt.U, Pt.locs, Pt.cells, Pt.slots] at X84 l84 y84 z84 st84 hQ84
        subst l84 y84 z84
        obtain ⟨rfl, N84q, e84⟩ := hQ84
        have N84 := Fr.app N81 N84q
        have pre85 : Goes p e below s₁ (entryFrame m #[(.int flag), (.int c0), (.int c1)] maxLocals) T84 (mkF m 145 #[.val (.int flag), .val (.int c0), .val (.int c1), .val (.int (flag &&& (3 : Int32))), .val (.ref b66), .val (.ref b72), .val (.ref b78), .val (.int (1 : Int32)), .unset, .unset] [(.int (1 : Int32))]) := fun t kt => pre83 t (st84.trans kt)
        have pre86 : Goes p e below s₁ (entryFrame m #[(.int flag), (.int c0), (.int c1)] maxLocals) T84 (mkF m 159 #[.val (.int flag), .val (.int c0), .val (.int c1), .val (.int (flag &&& (3 : Int32))), .val (.ref b66), .val (.ref b72), .val (.ref b78), .val (.int (1 : Int32)), .val (.int (1 : Int32)), .unset] [(.ref b72)]) := fun t kt => pre85 t (by
            show Steps p.tables e below (T84.setTop (mkF m 145 #[.val (.int flag), .val (.int c0), .val (.int c1), .val (.int (flag &&& (3 : Int32))), .val (.ref b66), .val (.ref b72), .val (.ref b78), .val (.int (1 : Int32)), .unset, .unset] [(.int (1 : Int32))])) _
            refine XS.iload X84.here hx rfl (hb hby at_145) rfl ?_
            show Steps p.tables e below (T84.setTop (mkF m 147 #[.val (.int flag), .val (.int c0), .val (.int c1), .val (.int (flag &&& (3 : Int32))), .val (.ref b66), .val (.ref b72), .val (.ref b78), .val (.int (1 : Int32)), .unset, .unset] [(.int (1 : Int32)), (.int (1 : Int32))])) _
            refine XS.icmpNo X84.here hx rfl (hb hby at_147) rfl (teq (by decide : (1 : Int32) = (1 : Int32))).2 ?_
            show Steps p.tables e below (T84.setTop (mkF m 150 #[.val (.int flag), .val (.int c0), .val (.int c1), .val (.int (flag &&& (3 : Int32))), .val (.ref b66), .val (.ref b72), .val (.ref b78), .val (.int (1 : Int32)), .unset, .unset] [])) _
            refine XS.iconst X84.here hx rfl (hb hby at_150) ?_
            show Steps p.tables e below (T84.setTop (mkF m 151 #[.val (.int flag), .val (.int c0), .val (.int c1), .val (.int (flag &&& (3 : Int32))), .val (.ref b66), .val (.ref b72), .val (.ref b78), .val (.int (1 : Int32)), .unset, .unset] [(.int (1 : Int32))])) _
            refine XS.goto X84.here hx rfl (pc0 := 151) (pc' := 155) rfl (hb hby at_151) (by decide) (by decide) ?_
            show Steps p.tables e below (T84.setTop (mkF m 155 #[.val (.int flag), .val (.int c0), .val (.int c1), .val (.int (flag &&& (3 : Int32))), .val (.ref b66), .val (.ref b72), .val (.ref b78), .val (.int (1 : Int32)), .unset, .unset] [(.int (1 : Int32))])) _
            refine XS.istore X84.here hx rfl (hb hby at_155) rfl (l' := #[.val (.int flag), .val (.int c0), .val (.int c1), .val (.int (flag &&& (3 : Int32))), .val (.ref b66), .val (.ref b72), .val (.ref b78), .val (.int (1 : Int32)), .val (.int (1 : Int32)), .unset]) rfl ?_
            show Steps p.tables e below (T84.setTop (mkF m 157 #[.val (.int flag), .val (.int c0), .val (.int c1), .val (.int (flag &&& (3 : Int32))), .val (.ref b66), .val (.ref b72), .val (.ref b78), .val (.int (1 : Int32)), .val (.int (1 : Int32)), .unset] [])) _
            refine XS.aload X84.here hx rfl (hb hby at_157) rfl rfl ?_
            exact kt)
        obtain ⟨_, _, ⟨T87, L87, k87, n87⟩, -, X87, ⟨Lc87, hQ87, l87, y87, z87⟩, st87⟩ := Jvm.LawKit.callS X84 hx (y := (⟨"com/example/outcomist/outcomist/Catalogue$Proxy", "withoutCoding", "(Ljava/util/List;)Lcom/example/outcomist/outcomist/Catalogue$Proxy;"⟩ : MethodName)) hown (mvT hZ (hw _ (List.mem_of_getElem? (i := 53) rfl))) (mvT hZ (hw _ (List.mem_of_getElem? (i := 54) rfl))) (mvT hZ (hw _ (List.mem_of_getElem? (i := 28) rfl))) (mvT hZ (hw _ (List.mem_of_getElem? (i := 55) rfl))) (by decide) (backOf (W := 0) (own_without l Z a0 hw [] b72 aEMPTY_SET aEMPTY_MAP T81.heap n0 (Nat.le_trans (Nat.le_trans (Nat.le_trans (Nat.le_trans (Nat.le_trans (Nat.le_trans (Nat.le_trans (Nat.le_trans Z0 E60.1) (Keep.of_wr W64).1) E66.1) K69q.1) E72.1) K75q.1) E78.1) K81q.1) S_ES S_EM ((((((((O0.ext E60).wr W64 g_b60).ext E66).keep K69q (allS g_b66 all0)).ext E72).keep K75q (allS g_b72 all0)).ext E78).keep K81q (allS g_b78 all0))) hZ (hw _ (List.mem_of_getElem? (i := 55) rfl)) (hw _ (List.mem_of_getElem? (i := 28) rfl)) (by decide) (by decide)) (g := (mkF m 159 #[.val (.int flag), .val (.int c0), .val (.int c1), .val (.int (flag &&& (3 : Int32))), .val (.ref b66), .val (.ref b72), .val (.ref b78), .val (.int (1 : Int32)), .val (.int (1 : Int32)), .unset] [(.ref b72)])) rfl (by rw [hml]; rfl) (argsL := [(.ref b72)]) (rest := []) (lenOf own_pd9 rfl) rfl (by show 2 * 0 + _ ≤ _; exact Nat.le_of_eq rfl) (hb hby at_159) (fun _ _ => ⟨rfl, e84, (by decide : 5 + 1 ≤ _), (by decide : 14 + 5 ≤ _)⟩)
        dsimp only [Pt.U, Pt.locs, Pt.cells, Pt.slots] at X87 l87 y87 z87 st87 hQ87
        subst l87 y87 z87
        obtain ⟨wb87, rfl, N87q, K87q, Ew87, Fw87_⟩ := hQ87
        have N87 := Fr.app N84 N87q
        have KC87 : Keep h0 T87.heap [] := KC81.trans K87q all0
        have CH87 : CHr Z [("java/lang/String", 7)] s.vm h0 s.vm T87.heap := CH81.trans (CHr.keep K87q all0 CH81.1)
        have pre88 : Goes p e below s₁ (entryFrame m #[(.int flag), (.int c0), (.int c1)] maxLocals) T87 (mkF m 162 #[.val (.int flag), .val (.int c0), .val (.int c1), .val (.int (flag &&& (3 : Int32))), .val (.ref b66), .val (.ref b72), .val (.ref b78), .val (.int (1 : Int32)), .val (.int (1 : Int32)), .unset] [(.ref wb87)]) := fun t kt => pre86 t (st87 t kt)
        have pre89 : Goes p e below s₁ (entryFrame m #[(.int flag), (.int c0), (.int c1)] maxLocals) T87 (mkF m 171 #[.val (.int flag), .val (.int c0), .val (.int c1), .val (.int (flag &&& (3 : Int32))), .val (.ref b66), .val (.ref b72), .val (.ref b78), .val (.int (1 : Int32)), .val (.int (1 : Int32)), .val (.ref wb87)] [(.ref wb87)]) := fun t kt => pre88 t (by
            show Steps p.tables e below (T87.setTop (mkF m 162 #[.val (.int flag), .val (.int c0), .val (.int c1), .val (.int (flag &&& (3 : Int32))), .val (.ref b66), .val (.ref b72), .val (.ref b78), .val (.int (1 : Int32)), .val (.int (1 : Int32)), .unset] [(.ref wb87)])) _
            refine XS.astore X87.here hx rfl (hb hby at_162) rfl rfl (l' := #[.val (.int flag), .val (.int c0), .val (.int c1), .val (.int (flag &&& (3 : Int32))), .val (.ref b66), .val (.ref b72), .val (.ref b78), .val (.int (1 : Int32)), .val (.int (1 : Int32)), .val (.ref wb87)]) rfl ?_
            show Steps p.tables e below (T87.setTop (mkF m 164 #[.val (.int flag), .val (.int c0), .val (.int c1), .val (.int (flag &&& (3 : Int32))), .val (.ref b66), .val (.ref b72), .val (.ref b78), .val (.int (1 : Int32)), .val (.int (1 : Int32)), .val (.ref wb87)] [])) _
            refine XS.iload X87.here hx rfl (hb hby at_164) rfl ?_
            show Steps p.tables e below (T87.setTop (mkF m 166 #[.val (.int flag), .val (.int c0), .val (.int c1), .val (.int (flag &&& (3 : Int32))), .val (.ref b66), .val (.ref b72), .val (.ref b78), .val (.int (1 : Int32)), .val (.int (1 : Int32)), .val (.ref wb87)] [(.int (1 : Int32))])) _
            refine XS.ifNo X87.here hx rfl (hb hby at_166) rfl ((if0 _ _).trans (feq (by decide : ¬ ((1 : Int32) = (0 : Int32)))).1) ?_
            show Steps p.tables e below (T87.setTop (mkF m 169 #[.val (.int flag), .val (.int c0), .val (.int c1), .val (.int (flag &&& (3 : Int32))), .val (.ref b66), .val (.ref b72), .val (.ref b78), .val (.int (1 : Int32)), .val (.int (1 : Int32)), .val (.ref wb87)] [])) _
            refine XS.aload X87.here hx rfl (hb hby at_169) rfl rfl ?_
            exact kt)
        obtain ⟨cq90, kq90, q90a, q90b, q90c⟩ := isOf hZ rfl Ew87
        obtain ⟨_, _, ⟨T90, L90, k90, n90⟩, -, X90, ⟨Lc90, hQ90, l90, y90, z90⟩, st90⟩ := X87.virtualBack hx (y := (⟨"com/example/outcomist/outcomist/Catalogue$Proxy", "coded", "()Z"⟩ : MethodName)) (z := (⟨"com/example/outcomist/outcomist/Catalogue$Proxy", "coded", "()Z"⟩ : MethodName)) hown (mvT hZ (hw _ (List.mem_of_getElem? (i := 48) rfl))) (mvT hZ (hw _ (List.mem_of_getElem? (i := 49) rfl))) (notFace_of_selects (args := #[]) (mvT hZ (hw _ (List.mem_of_getElem? (i := 51) rfl)))) (mvT hZ (hw _ (List.mem_of_getElem? (i := 51) rfl))) (mvT hZ (hw _ (List.mem_of_getElem? (i := 50) rfl))) (by decide) (backOf (W := 0) (own_cdN l Z a0 hw [] wb87 T87.heap n0 (Nat.le_trans (Nat.le_trans (Nat.le_trans (Nat.le_trans (Nat.le_trans (Nat.le_trans (Nat.le_trans (Nat.le_trans (Nat.le_trans Z0 E60.1) (Keep.of_wr W64).1) E66.1) K69q.1) E72.1) K75q.1) E78.1) K81q.1) K87q.1) Fw87_) hZ (hw _ (List.mem_of_getElem? (i := 52) rfl)) (hw _ (List.mem_of_getElem? (i := 28) rfl)) (by decide) (by decide)) q90a q90c (g := (mkF m 171 #[.val (.int flag), .val (.int c0), .val (.int c1), .val (.int (flag &&& (3 : Int32))), .val (.ref b66), .val (.ref b72), .val (.ref b78), .val (.int (1 : Int32)), .val (.int (1 : Int32)), .val (.ref wb87)] [(.ref wb87)])) rfl (by rw [hml]; rfl) (Steps.refl _) (argsL := []) (rest := []) (lenOf own_pd8 rfl) rfl (by show 2 * 0 + _ ≤ _; exact Nat.le_of_eq rfl) (hb hby at_171) (fun _ _ => ⟨rfl, rfl, (by decide : 6 + 0 ≤ _), (by decide : 19 + 0 ≤ _)⟩)
        dsimp only [Pt.U, Pt.locs, Pt.cells, Pt.slots] at X90 l90 y90 z90 st90 hQ90
        subst l90 y90 z90
        obtain ⟨rfl, N90q, e90⟩ := hQ90
        have N90 := Fr.app N87 N90q
        have pre91 : Goes p e below s₁ (entryFrame m #[(.int flag), (.int c0), (.int c1)] maxLocals) T90 (mkF m 174 #[.val (.int flag), .val (.int c0), .val (.int c1), .val (.int (flag &&& (3 : Int32))), .val (.ref b66), .val (.ref b72), .val (.ref b78), .val (.int (1 : Int32)), .val (.int (1 : Int32)), .val (.ref wb87)] [(.int (0 : Int32))]) := fun t kt => pre89 t (st90.trans kt)
        have pre92 : Goes p e below s₁ (entryFrame m #[(.int flag), (.int c0), (.int c1)] maxLocals) T90 (mkF m 182 #[.val (.int flag), .val (.int c0), .val (.int c1), .val (.int (flag &&& (3 : Int32))), .val (.ref b66), .val (.ref b72), .val (.ref b78), .val (.int (1 : Int32)), .val (.int (1 : Int32)), .val (.ref wb87)] [(.int (1 : Int32))]) := fun t kt => pre91 t (by
            show Steps p.tables e below (T90.setTop (mkF m 174 #[.val (.int flag), .val (.int c0), .val (.int c1), .val (.int (flag &&& (3 : Int32))), .val (.ref b66), .val (.ref b72), .val (.ref b78), .val (.int (1 : Int32)), .val (.int (1 : Int32)), .val (.ref wb87)] [(.int (0 : Int32))])) _
            refine XS.ifNo X90.here hx rfl (hb hby at_174) rfl ((if0 _ _).trans (teq (by decide : (0 : Int32) = (0 : Int32))).2) ?_
            show Steps p.tables e below (T90.setTop (mkF m 177 #[.val (.int flag), .val (.int c0), .val (.int c1), .val (.int (flag &&& (3 : Int32))), .val (.ref b66), .val (.ref b72), .val (.ref b78), .val (.int (1 : Int32)), .val (.int (1 : Int32)), .val (.ref wb87)] [])) _
            refine XS.iconst X90.here hx rfl (hb hby at_177) ?_
            show Steps p.tables e below (T90.setTop (mkF m 178 #[.val (.int flag), .val (.int c0), .val (.int c1), .val (.int (flag &&& (3 : Int32))), .val (.ref b66), .val (.ref b72), .val (.ref b78), .val (.int (1 : Int32)), .val (.int (1 : Int32)), .val (.ref wb87)] [(.int (1 : Int32))])) _
            refine XS.goto X90.here hx rfl (pc0 := 178) (pc' := 182) rfl (hb hby at_178) (by decide) (by decide) ?_
            exact kt)
        obtain ⟨fs, hr, hrun, hended, hW, hsame⟩ := X90.leave (v := some (.int (1 : Int32))) (fun h => by rw [Bd.returns] at h; cases h)
        have hEnd := ReturnedEndW.of_narrow (o := .returned (some (.int (1 : Int32)))) ⟨_, rfl⟩ hW hsame
        refine ⟨_, _, pre92 _ ?_, hrun, hended, _, _, rfl, ?_, ?_, hEnd.1, hEnd.2.1, hEnd.2.2.1, hEnd.2.2.2.mono (by decide) (by decide)⟩
        · show Steps p.tables e below (T90.setTop (mkF m 182 #[.val (.int flag), .val (.int c0), .val (.int c1), .val (.int (flag &&& (3 : Int32))), .val (.ref b66), .val (.ref b72), .val (.ref b78), .val (.int (1 : Int32)), .val (.int (1 : Int32)), .val (.ref wb87)] [(.int (1 : Int32))])) _
          exact retN X90 hx (t := .boolean) Bd.returns (by simp) (hb hby at_182) hr
        · show Q_own_rm0 Z flag c0 c1 cs aDEFAULTCAPACITY_EMPTY_ELEMENTDATA aEMPTY_SET aEMPTY_MAP h0 n0 _ T90.heap _
          rw [e90]
          exact ⟨rfl, N90⟩
        · show CHr Z [("java/lang/String", 7)] s.vm s.heap T90.vm T90.heap
          rw [hh, e90]
          exact CH87.trans (CHv.at (s := s) (vm0 := s.vm) X90 hZ hEL CH87.1)
      · -- no at pc 36: tt
        have pre93 : Goes p e below s₁ (entryFrame m #[(.int flag), (.int c0), (.int c1)] maxLocals) s₁ (mkF m 69 #[.val (.int flag), .val (.int c0), .val (.int c1), .val (.int (flag &&& (3 : Int32))), .unset, .unset, .unset, .unset, .unset, .unset] [(.int (2 : Int32))]) := fun t kt => pre57 t (by
            show Steps p.tables e below (s₁.setTop (mkF m 36 #[.val (.int flag), .val (.int c0), .val (.int c1), .val (.int (flag &&& (3 : Int32))), .unset, .unset, .unset, .unset, .unset, .unset] [(.int (2 : Int32)), (.int (flag &&& (3 : Int32)))])) _
            refine XS.icmpYes X0.here hx rfl (pc0 := 36) (pc' := 68) rfl (hb hby at_36) rfl (feq hc36_58).2 (by decide) (by decide) ?_
            show Steps p.tables e below (s₁.setTop (mkF m 68 #[.val (.int flag), .val (.int c0), .val (.int c1), .val (.int (flag &&& (3 : Int32))), .unset, .unset, .unset, .unset, .unset, .unset] [])) _
            refine XS.iconst X0.here hx rfl (hb hby at_68) ?_
            exact kt)
        obtain ⟨T94, h94, k94, X94, e94, E94, A94, st94⟩ := newP X0 hx hZ (hw _ (List.mem_of_getElem? (i := 72) rfl)) e0 (g := (mkF m 69 #[.val (.int flag), .val (.int c0), .val (.int c1), .val (.int (flag &&& (3 : Int32))), .unset, .unset, .unset, .unset, .unset, .unset] [(.int (2 : Int32))])) rfl (hb hby at_69) rfl (by decide) (cap := 2) (by decide) (by decide) (by decide) (by decide)
        obtain ⟨b94, g94⟩ : ∃ z, z = h0.size := ⟨_, rfl⟩
        rw [← g94] at A94 st94
        have V_b94 : Arv Z h94 b94 k94 .char (2 : Int32) [(.int (0 : Int32)), (.int (0 : Int32))] (.int (0 : Int32)) := (Arv.new A94 (by decide)).pad (pad_rep [] (.int (0 : Int32)) 2)
        have g_b94 : n0 ≤ b94 := Nat.le_trans Z0 (Nat.le_of_eq g94.symm)
        have sz_b94 : h0.size ≤ b94 := (Nat.le_trans (Keep.refl h0 []).1 (Nat.le_of_eq g94.symm))
        have K94 : Keep h0 h94 [] := (Keep.refl h0 []).ext E94
        have CH94 : CHr Z [("java/lang/String", 7)] s.vm h0 s.vm h94 := CH0.trans (CHr.ext E94 CH0.1)
        have pre95 : Goes p e below s₁ (entryFrame m #[(.int flag), (.int c0), (.int c1)] maxLocals) T94 (mkF m 71 #[.val (.int flag), .val (.int c0), .val (.int c1), .val (.int (flag &&& (3 : Int32))), .unset, .unset, .unset, .unset, .unset, .unset] [(.ref b94)]) := fun t kt => pre93 t (st94 t kt)
        have pre96 : Goes p e below s₁ (entryFrame m #[(.int flag), (.int c0), (.int c1)] maxLocals) T94 (mkF m 82 #[.val (.int flag), .val (.int c0), .val (.int c1), .val (.int (flag &&& (3 : Int32))), .unset, .val (.ref b94), .unset, .unset, .unset, .unset] [(.int ((c0 &&& (255 : Int32)).toUInt32.toUInt16.toUInt32.toInt32)), (.int (0 : Int32)), (.ref b94)]) := fun t kt => pre95 t (by
            show Steps p.tables e below (T94.setTop (mkF m 71 #[.val (.int flag), .val (.int c0), .val (.int c1), .val (.int (flag &&& (3 : Int32))), .unset, .unset, .unset, .unset, .unset, .unset] [(.ref b94)])) _
            refine XS.astore X94.here hx rfl (hb hby at_71) rfl rfl (l' := #[.val (.int flag), .val (.int c0), .val (.int c1), .val (.int (flag &&& (3 : Int32))), .unset, .val (.ref b94), .unset, .unset, .unset, .unset]) rfl ?_
            show Steps p.tables e below (T94.setTop (mkF m 73 #[.val (.int flag), .val (.int c0), .val (.int c1), .val (.int (flag &&& (3 : Int32))), .unset, .val (.ref b94), .unset, .unset, .unset, .unset] [])) _
            refine XS.aload X94.here hx rfl (hb hby at_73) rfl rfl ?_
            show Steps p.tables e below (T94.setTop (mkF m 75 #[.val (.int flag), .val (.int c0), .val (.int c1), .val (.int (flag &&& (3 : Int32))), .unset, .val (.ref b94), .unset, .unset, .unset, .unset] [(.ref b94)])) _
            refine XS.iconst X94.here hx rfl (hb hby at_75) ?_
            show Steps p.tables e below (T94.setTop (mkF m 76 #[.val (.int flag), .val (.int c0), .val (.int c1), .val (.int (flag &&& (3 : Int32))), .unset, .val (.ref b94), .unset, .unset, .unset, .unset] [(.int (0 : Int32)), (.ref b94)])) _
            refine XS.iloadN X94.here hx rfl (hb hby at_76) rfl ?_
            show Steps p.tables e below (T94.setTop (mkF m 77 #[.val (.int flag), .val (.int c0), .val (.int c1), .val (.int (flag &&& (3 : Int32))), .unset, .val (.ref b94), .unset, .unset, .unset, .unset] [(.int c0), (.int (0 : Int32)), (.ref b94)])) _
            refine XS.sipush X94.here hx rfl (hb hby at_77) ?_
            show Steps p.tables e below (T94.setTop (mkF m 80 #[.val (.int flag), .val (.int c0), .val (.int c1), .val (.int (flag &&& (3 : Int32))), .unset, .val (.ref b94), .unset, .unset, .unset, .unset] [(.int (255 : Int32)), (.int c0), (.int (0 : Int32)), (.ref b94)])) _
            refine XS.iand X94.here hx rfl (hb hby at_80) rfl ?_
            show Steps p.tables e below (T94.setTop (mkF m 81 #[.val (.int flag), .val (.int c0), .val (.int c1), .val (.int (flag &&& (3 : Int32))), .unset, .val (.ref b94), .unset, .unset, .unset, .unset] [(.int (c0 &&& (255 : Int32))), (.int (0 : Int32)), (.ref b94)])) _
            refine XS.i2c X94.here hx rfl (hb hby at_81) rfl ?_
            exact kt)
        obtain ⟨cl97, Ar97, q97, S97, N_97, H97, G97⟩ := (id (V_b94))
        have hin97 : ¬ ((0 : Int32) < 0 ∨ cl97.slots.size ≤ ((0 : Int32)).toNatClampNeg) := inb_of S97 ⟨by decide, by decide⟩
        obtain ⟨T98, h98, X98, e98, W98, st98⟩ := stC X94 hx hZ e94 Ar97 (j := (0 : Int32)) hin97 (g := (mkF m 82 #[.val (.int flag), .val (.int c0), .val (.int c1), .val (.int (flag &&& (3 : Int32))), .unset, .val (.ref b94), .unset, .unset, .unset, .unset] [(.int ((c0 &&& (255 : Int32)).toUInt32.toUInt16.toUInt32.toInt32)), (.int (0 : Int32)), (.ref b94)])) rfl rfl (hb hby at_82)
        have V98 : Arv Z h98 b94 k94 .char (2 : Int32) [(.int (nar .char ((c0 &&& (255 : Int32)).toUInt32.toUInt16.toUInt32.toInt32))), (.int (0 : Int32))] (.int (0 : Int32)) := Arv.set Ar97 q97 S97 N_97 H97 G97 (fits_nar_char _) W98 0 rfl (Nat.le_of_ble_eq_true rfl)
        have K98 : Keep h0 h98 [] := K94.wr W98 (Or.inr sz_b94)
        have CH98 : CHr Z [("java/lang/String", 7)] s.vm h0 s.vm h98 := CH94.trans (CHr.wr W98 (own_safeV hZ.alike V_b94 (by decide)) CH94.1)
        have N98 := Fr.snoc X98 N0 g_b94
        have pre99 : Goes p e below s₁ (entryFrame m #[(.int flag), (.int c0), (.int c1)] maxLocals) T98 (mkF m 83 #[.val (.int flag), .val (.int c0), .val (.int c1), .val (.int (flag &&& (3 : Int32))), .unset, .val (.ref b94), .unset, .unset, .unset, .unset] []) := fun t kt => pre96 t (st98 t kt)
        have pre100 : Goes p e below s₁ (entryFrame m #[(.int flag), (.int c0), (.int c1)] maxLocals) T98 (mkF m 92 #[.val (.int flag), .val (.int c0), .val (.int c1), .val (.int (flag &&& (3 : Int32))), .unset, .val (.ref b94), .unset, .unset, .unset, .unset] [(.int ((c1 &&& (255 : Int32)).toUInt32.toUInt16.toUInt32.toInt32)), (.int (1 : Int32)), (.ref b94)]) := fun t kt => pre99 t (by
            show Steps p.tables e below (T98.setTop (mkF m 83 #[.val (.int flag), .val (.int c0), .val (.int c1), .val (.int (flag &&& (3 : Int32))), .unset, .val (.ref b94), .unset, .unset, .unset, .unset] [])) _
            refine XS.aload X98.here hx rfl (hb hby at_83) rfl rfl ?_
            show Steps p.tables e below (T98.setTop (mkF m 85 #[.val (.int flag), .val (.int c0), .val (.int c1), .val (.int (flag &&& (3 : Int32))), .unset, .val (.ref b94), .unset, .unset, .unset, .unset] [(.ref b94)])) _
            refine XS.iconst X98.here hx rfl (hb hby at_85) ?_
            show Steps p.tables e below (T98.setTop (mkF m 86 #[.val (.int flag), .val (.int c0), .val (.int c1), .val (.int (flag &&& (3 : Int32))), .unset, .val (.ref b94), .unset, .unset, .unset, .unset] [(.int (1 : Int32)), (.ref b94)])) _
            refine XS.iloadN X98.here hx rfl (hb hby at_86) rfl ?_
            show Steps p.tables e below (T98.setTop (mkF m 87 #[.val (.int flag), .val (.int c0), .val (.int c1), .val (.int (flag &&& (3 : Int32))), .unset, .val (.ref b94), .unset, .unset, .unset, .unset] [(.int c1), (.int (1 : Int32)), (.ref b94)])) _
            refine XS.sipush X98.here hx rfl (hb hby at_87) ?_
            show Steps p.tables e below (T98.setTop (mkF m 90 #[.val (.int flag), .val (.int c0), .val (.int c1), .val (.int (flag &&& (3 : Int32))), .unset, .val (.ref b94), .unset, .unset, .unset, .unset] [(.int (255 : Int32)), (.int c1), (.int (1 : Int32)), (.ref b94)])) _
            refine XS.iand X98.here hx rfl (hb hby at_90) rfl ?_
            show Steps p.tables e below (T98.setTop (mkF m 91 #[.val (.int flag), .val (.int c0), .val (.int c1), .val (.int (flag &&& (3 : Int32))), .unset, .val (.ref b94), .unset, .unset, .unset, .unset] [(.int (c1 &&& (255 : Int32))), (.int (1 : Int32)), (.ref b94)])) _
            refine XS.i2c X98.here hx rfl (hb hby at_91) rfl ?_
            exact kt)
        obtain ⟨cl101, Ar101, q101, S101, N_101, H101, G101⟩ := (id (V98))
        have hin101 : ¬ ((1 : Int32) < 0 ∨ cl101.slots.size ≤ ((1 : Int32)).toNatClampNeg) := inb_of S101 ⟨by decide, by decide⟩
        obtain ⟨T102, h102, X102, e102, W102, st102⟩ := stC X98 hx hZ e98 Ar101 (j := (1 : Int32)) hin101 (g := (mkF m 92 #[.val (.int flag), .val (.int c0), .val (.int c1), .val (.int (flag &&& (3 : Int32))), .unset, .val (.ref b94), .unset, .unset, .unset, .unset] [(.int ((c1 &&& (255 : Int32)).toUInt32.toUInt16.toUInt32.toInt32)), (.int (1 : Int32)), (.ref b94)])) rfl rfl (hb hby at_92)
        have V102 : Arv Z h102 b94 k94 .char (2 : Int32) [(.int (nar .char ((c0 &&& (255 : Int32)).toUInt32.toUInt16.toUInt32.toInt32))), (.int (nar .char ((c1 &&& (255 : Int32)).toUInt32.toUInt16.toUInt32.toInt32)))] (.int (0 : Int32)) := Arv.set Ar101 q101 S101 N_101 H101 G101 (fits_nar_char _) W102 1 rfl (Nat.le_of_ble_eq_true rfl)
        have K102 : Keep h0 h102 [] := K98.wr W102 (Or.inr sz_b94)
        have CH102 : CHr Z [("java/lang/String", 7)] s.vm h0 s.vm h102 := CH98.trans (CHr.wr W102 (own_safeV hZ.alike V98 (by decide)) CH98.1)
        have N102 := Fr.snoc X102 N98 g_b94
        have pre103 : Goes p e below s₁ (entryFrame m #[(.int flag), (.int c0), (.int c1)] maxLocals) T102 (mkF m 93 #[.val (.int flag), .val (.int c0), .val (.int c1), .val (.int (flag &&& (3 : Int32))), .unset, .val (.ref b94), .unset, .unset, .unset, .unset] []) := fun t kt => pre100 t (st102 t kt)
        obtain ⟨T104, h104, X104, e104, E104, A104, DD104, -, st104⟩ := newO X102 hx hZ hown (hw _ (List.mem_of_getElem? (i := 69) rfl)) (hw _ (List.mem_of_getElem? (i := 70) rfl)) (hw _ (List.mem_of_getElem? (i := 71) rfl)) e102 (g := (mkF m 93 #[.val (.int flag), .val (.int c0), .val (.int c1), .val (.int (flag &&& (3 : Int32))), .unset, .val (.ref b94), .unset, .unset, .unset, .unset] [])) rfl (hb hby at_93) (by decide) (by decide)
        obtain ⟨b104, g104⟩ : ∃ z, z = h102.size := ⟨_, rfl⟩
        rw [← g104] at A104 DD104 st104
        have F_value_b104 : Fld Z h104 b104 "java/lang/String" "value" "[B" .null := DD104 (Or.inr (hw _ (List.mem_of_getElem? (i := 83) rfl))) (ty := (.array .byte)) (by decide)
        have F_coder_b104 : Fld Z h104 b104 "java/lang/String" "coder" "B" (.int (0 : Int32)) := DD104 (Or.inr (hw _ (List.mem_of_getElem? (i := 84) rfl))) (ty := .byte) (by decide)
        have g_b104 : n0 ≤ b104 := Nat.le_trans (Nat.le_trans (Nat.le_trans (Nat.le_trans Z0 E94.1) (Keep.of_wr W98).1) (Keep.of_wr W102).1) (Nat.le_of_eq g104.symm)
        have sz_b104 : h0.size ≤ b104 := (Nat.le_trans K102.1 (Nat.le_of_eq g104.symm))
        have K104 : Keep h0 h104 [] := K102.ext E104
        have CH104 : CHr Z [("java/lang/String", 7)] s.vm h0 s.vm h104 := CH102.trans (CHr.ext E104 CH102.1)
        have pre105 : Goes p e below s₁ (entryFrame m #[(.int flag), (.int c0), (.int c1)] maxLocals) T104 (mkF m 96 #[.val (.int flag), .val (.int c0), .val (.int c1), .val (.int (flag &&& (3 : Int32))), .unset, .val (.ref b94), .unset, .unset, .unset, .unset] [(.ref b104)]) := fun t kt => pre103 t (st104 t kt)
        have pre106 : Goes p e below s₁ (entryFrame m #[(.int flag), (.int c0), (.int c1)] maxLocals) T104 (mkF m 99 #[.val (.int flag), .val (.int c0), .val (.int c1), .val (.int (flag &&& (3 : Int32))), .unset, .val (.ref b94), .unset, .unset, .unset, .unset] [(.ref b94), (.ref b104), (.ref b104)]) := fun t kt => pre105 t (by
            show Steps p.tables e below (T104.setTop (mkF m 96 #[.val (.int flag), .val (.int c0), .val (.int c1), .val (.int (flag &&& (3 : Int32))), .unset, .val (.ref b94), .unset, .unset, .unset, .unset] [(.ref b104)])) _
            refine XS.dup X104.here hx rfl (hb hby at_96) rfl rfl ?_
            show Steps p.tables e below (T104.setTop (mkF m 97 #[.val (.int flag), .val (.int c0), .val (.int c1), .val (.int (flag &&& (3 : Int32))), .unset, .val (.ref b94), .unset, .unset, .unset, .unset] [(.ref b104), (.ref b104)])) _
            refine XS.aload X104.here hx rfl (hb hby at_97) rfl rfl ?_
            exact kt)
        obtain ⟨_, _, ⟨T107, L107, k107, n107⟩, -, X107, ⟨Lc107, hQ107, l107, y107, z107⟩, st107⟩ := X104.specialBack hx (y := (⟨"java/lang/String", "<init>", "([C)V"⟩ : MethodName)) rfl hown (mvT hZ (hw _ (List.mem_of_getElem? (i := 73) rfl))) (mvT hZ (hw _ (List.mem_of_getElem? (i := 74) rfl))) (mvT hZ (hw _ (List.mem_of_getElem? (i := 75) rfl))) (by decide) (backOf (W := 1) (own_sJ2 l Z a0 hw [] b104 b94 k94 cs _ _ (nar .char ((c0 &&& (255 : Int32)).toUInt32.toUInt16.toUInt32.toInt32)) (nar .char ((c1 &&& (255 : Int32)).toUInt32.toUInt16.toUInt32.toInt32)) h104 n0 (Nat.le_trans (Nat.le_trans (Nat.le_trans (Nat.le_trans Z0 E94.1) (Keep.of_wr W98).1) (Keep.of_wr W102).1) E104.1) A104 F_value_b104 F_coder_b104 g_b104 (V102.ext E104) (S_CS.ext ((((O0.ext E94).wr W98 g_b94).wr W102 g_b94).ext E104).2) hcs (own_n2 c0) (own_n3 c1)) hZ (hw _ (List.mem_of_getElem? (i := 75) rfl)) (hw _ (List.mem_of_getElem? (i := 71) rfl)) (by decide) (by decide)) (g := (mkF m 99 #[.val (.int flag), .val (.int c0), .val (.int c1), .val (.int (flag &&& (3 : Int32))), .unset, .val (.ref b94), .unset, .unset, .unset, .unset] [(.ref b94), (.ref b104), (.ref b104)])) rfl (by rw [hml]; rfl) (Steps.refl _) (a := b104) (argsL := [(.ref b94)]) (rest := [(.ref b104)]) (lenOf own_pd10 rfl) rfl (by show 2 * 0 + _ ≤ _; exact Nat.le_of_eq rfl) (hb hby at_99) (fun _ _ => ⟨rfl, e104, (by decide : 2 + 1 ≤ _), (by decide : 6 + 2 ≤ _)⟩)
        dsimp only [Pt.U, Pt.locs, Pt.cells, Pt.slots] at X107 l107 y107 z107 st107 hQ107
        subst l107 y107 z107
        obtain ⟨rfl, N107q, K107q, Rs107⟩ := hQ107
        have N107 := Fr.app N102 N107q
        have KC107 : Keep h0 T107.heap [] := K104.trans K107q (allS (Or.inr sz_b104) all0)
        have CH107 : CHr Z [("java/lang/String", 7)] s.vm h0 s.vm T107.heap := CH104.trans (CHr.keep K107q (allS (own_safe hZ.alike A104 F_value_b104) all0) CH104.1)
        have pre108 : Goes p e below s₁ (entryFrame m #[(.int flag), (.int c0), (.int c1)] maxLocals) T107 (mkF m 102 #[.val (.int flag), .val (.int c0), .val (.int c1), .val (.int (flag &&& (3 : Int32))), .unset, .val (.ref b94), .unset, .unset, .unset, .unset] [(.ref b104)]) := fun t kt => pre106 t (st107.trans kt)
        have pre109 : Goes p e below s₁ (entryFrame m #[(.int flag), (.int c0), (.int c1)] maxLocals) T107 (mkF m 104 #[.val (.int flag), .val (.int c0), .val (.int c1), .val (.int (flag &&& (3 : Int32))), .val (.ref b104), .val (.ref b94), .unset, .unset, .unset, .unset] []) := fun t kt => pre108 t (by
            show Steps p.tables e below (T107.setTop (mkF m 102 #[.val (.int flag), .val (.int c0), .val (.int c1), .val (.int (flag &&& (3 : Int32))), .unset, .val (.ref b94), .unset, .unset, .unset, .unset] [(.ref b104)])) _
            refine XS.astore X107.here hx rfl (hb hby at_102) rfl rfl (l' := #[.val (.int flag), .val (.int c0), .val (.int c1), .val (.int (flag &&& (3 : Int32))), .val (.ref b104), .val (.ref b94), .unset, .unset, .unset, .unset]) rfl ?_
            exact kt)
        obtain ⟨T110, h110, X110, e110, E110, A110, DD110, -, st110⟩ := newO X107 hx hZ hown (hw _ (List.mem_of_getElem? (i := 0) rfl)) (hw _ (List.mem_of_getElem? (i := 1) rfl)) (hw _ (List.mem_of_getElem? (i := 2) rfl)) rfl (g := (mkF m 104 #[.val (.int flag), .val (.int c0), .val (.int c1), .val (.int (flag &&& (3 : Int32))), .val (.ref b104), .val (.ref b94), .unset, .unset, .unset, .unset] [])) rfl (hb hby at_104) (by decide) (by decide)
        obtain ⟨b110, g110⟩ : ∃ z, z = T107.heap.size := ⟨_, rfl⟩
        rw [← g110] at A110 DD110 st110
        have F_modCount_b110 : Fld Z h110 b110 "java/util/AbstractList" "modCount" "I" (.int (0 : Int32)) := DD110 (Or.inl (hw _ (List.mem_of_getElem? (i := 22) rfl))) (ty := .int) (by decide)
        have F_elementData_b110 : Fld Z h110 b110 "java/util/ArrayList" "elementData" "[Ljava/lang/Object;" .null := DD110 (Or.inl (hw _ (List.mem_of_getElem? (i := 25) rfl))) (ty := (.array (.object "java/lang/Object"))) (by decide)
        have g_b110 : n0 ≤ b110 := Nat.le_trans (Nat.le_trans (Nat.le_trans (Nat.le_trans (Nat.le_trans (Nat.le_trans Z0 E94.1) (Keep.of_wr W98).1) (Keep.of_wr W102).1) E104.1) K107q.1) (Nat.le_of_eq g110.symm)
        have sz_b110 : h0.size ≤ b110 := (Nat.le_trans KC107.1 (Nat.le_of_eq g110.symm))
        have K110 : Keep h0 h110 [] := KC107.ext E110
        have CH110 : CHr Z [("java/lang/String", 7)] s.vm h0 s.vm h110 := CH107.trans (CHr.ext E110 CH107.1)
        have pre111 : Goes p e below s₁ (entryFrame m #[(.int flag), (.int c0), (.int c1)] maxLocals) T110 (mkF m 107 #[.val (.int flag), .val (.int c0), .val (.int c1), .val (.int (flag &&& (3 : Int32))), .val (.ref b104), .val (.ref b94), .unset, .unset, .unset, .unset] [(.ref b110)]) := fun t kt => pre109 t (st110 t kt)
        have pre112 : Goes p e below s₁ (entryFrame m #[(.int flag), (.int c0), (.int c1)] maxLocals) T110 (mkF m 108 #[.val (.int flag), .val (.int c0), .val (.int c1), .val (.int (flag &&& (3 : Int32))), .val (.ref b104), .val (.ref b94), .unset, .unset, .unset, .unset] [(.ref b110), (.ref b110)]) := fun t kt => pre111 t (by
            show Steps p.tables e below (T110.setTop (mkF m 107 #[.val (.int flag), .val (.int c0), .val (.int c1), .val (.int (flag &&& (3 : Int32))), .val (.ref b104), .val (.ref b94), .unset, .unset, .unset, .unset] [(.ref b110)])) _
            refine XS.dup X110.here hx rfl (hb hby at_107) rfl rfl ?_
            exact kt)
        obtain ⟨_, _, ⟨T113, L113, k113, n113⟩, -, X113, ⟨Lc113, hQ113, l113, y113, z113⟩, st113⟩ := X110.specialBack hx (y := (⟨"java/util/ArrayList", "<init>", "()V"⟩ : MethodName)) rfl hown (mvT hZ (hw _ (List.mem_of_getElem? (i := 3) rfl))) (mvT hZ (hw _ (List.mem_of_getElem? (i := 4) rfl))) (mvT hZ (hw _ (List.mem_of_getElem? (i := 5) rfl))) (by decide) (backOf (W := 1) (own_arl l Z a0 hw [] b110 aDEFAULTCAPACITY_EMPTY_ELEMENTDATA h110 n0 (Nat.le_trans (Nat.le_trans (Nat.le_trans (Nat.le_trans (Nat.le_trans (Nat.le_trans Z0 E94.1) (Keep.of_wr W98).1) (Keep.of_wr W102).1) E104.1) K107q.1) E110.1) A110 F_modCount_b110 F_elementData_b110 g_b110 S_DC ((((((O0.ext E94).wr W98 g_b94).wr W102 g_b94).ext E104).keep K107q (allS g_b104 all0)).ext E110)) hZ (hw _ (List.mem_of_getElem? (i := 5) rfl)) (hw _ (List.mem_of_getElem? (i := 2) rfl)) (by decide) (by decide)) (g := (mkF m 108 #[.val (.int flag), .val (.int c0), .val (.int c1), .val (.int (flag &&& (3 : Int32))), .val (.ref b104), .val (.ref b94), .unset, .unset, .unset, .unset] [(.ref b110), (.ref b110)])) rfl (by rw [hml]; rfl) (Steps.refl _) (a := b110) (argsL := []) (rest := [(.ref b110)]) (lenOf own_pd4 rfl) rfl (by show 2 * 0 + _ ≤ _; exact Nat.le_of_eq rfl) (hb hby at_108) (fun _ _ => ⟨rfl, e110, (by decide : 4 + 0 ≤ _), (by decide : 11 + 0 ≤ _)⟩)
        dsimp only [Pt.U, Pt.locs, Pt.cells, Pt.slots] at X113 l113 y113 z113 st113 hQ113
        subst l113 y113 z113
        obtain ⟨rfl, N113q, K113q⟩ := hQ113
        have N113 := Fr.app N107 N113q
        have KC113 : Keep h0 T113.heap [] := K110.trans K113q (allS (Or.inr sz_b110) all0)
        have CH113 : CHr Z [("java/lang/String", 7)] s.vm h0 s.vm T113.heap := CH110.trans (CHr.keep K113q (allS (Safe.exa hZ.alike A110 (by decide) (by decide)) all0) CH110.1)
        have pre114 : Goes p e below s₁ (entryFrame m #[(.int flag), (.int c0), (.int c1)] maxLocals) T113 (mkF m 111 #[.val (.int flag), .val (.int c0), .val (.int c1), .val (.int (flag &&& (3 : Int32))), .val (.ref b104), .val (.ref b94), .unset, .unset, .unset, .unset] [(.ref b110)]) := fun t kt => pre112 t (st113.trans kt)
        have pre115 : Goes p e below s₁ (entryFrame m #[(.int flag), (.int c0), (.int c1)] maxLocals) T113 (mkF m 113 #[.val (.int flag), .val (.int c0), .val (.int c1), .val (.int (flag &&& (3 : Int32))), .val (.ref b104), .val (.ref b110), .unset, .unset, .unset, .unset] []) := fun t kt => pre114 t (by
            show Steps p.tables e below (T113.setTop (mkF m 111 #[.val (.int flag), .val (.int c0), .val (.int c1), .val (.int (flag &&& (3 : Int32))), .val (.ref b104), .val (.ref b94), .unset, .unset, .unset, .unset] [(.ref b110)])) _
            refine XS.astore X113.here hx rfl (hb hby at_111) rfl rfl (l' := #[.val (.int flag), .val (.int c0), .val (.int c1), .val (.int (flag &&& (3 : Int32))), .val (.ref b104), .val (.ref b110), .unset, .unset, .unset, .unset]) rfl ?_
            exact kt)
        obtain ⟨T116, h116, X116, e116, E116, A116, DD116, -, st116⟩ := newO X113 hx hZ hown (hw _ (List.mem_of_getElem? (i := 26) rfl)) (hw _ (List.mem_of_getElem? (i := 27) rfl)) (hw _ (List.mem_of_getElem? (i := 28) rfl)) rfl (g := (mkF m 113 #[.val (.int flag), .val (.int c0), .val (.int c1), .val (.int (flag &&& (3 : Int32))), .val (.ref b104), .val (.ref b110), .unset, .unset, .unset, .unset] [])) rfl (hb hby at_113) (by decide) (by decide)
        obtain ⟨b116, g116⟩ : ∃ z, z = T113.heap.size := ⟨_, rfl⟩
        rw [← g116] at A116 DD116 st116
        have F_codingSystem_b116 : Fld Z h116 b116 "com/example/outcomist/outcomist/Catalogue$Proxy" "codingSystem" "Ljava/lang/String;" .null := DD116 (Or.inr (hw _ (List.mem_of_getElem? (i := 39) rfl))) (ty := (.object "java/lang/String")) (by decide)
        have F_outcomes_b116 : Fld Z h116 b116 "com/example/outcomist/outcomist/Catalogue$Proxy" "outcomes" "Ljava/util/List;" .null := DD116 (Or.inr (hw _ (List.mem_of_getElem? (i := 41) rfl))) (ty := (.object "java/util/List")) (by decide)
        have F_severityVariants_b116 : Fld Z h116 b116 "com/example/outcomist/outcomist/Catalogue$Proxy" "severityVariants" "Ljava/util/Set;" .null := DD116 (Or.inr (hw _ (List.mem_of_getElem? (i := 43) rfl))) (ty := (.object "java/util/Set")) (by decide)
        have F_issueTypeVariants_b116 : Fld Z h116 b116 "com/example/outcomist/outcomist/Catalogue$Proxy" "issueTypeVariants" "Ljava/util/Map;" .null := DD116 (Or.inr (hw _ (List.mem_of_getElem? (i := 45) rfl))) (ty := (.object "java/util/Map")) (by decide)
        have F_codingSystemVariants_b116 : Fld Z h116 b116 "com/example/outcomist/outcomist/Catalogue$Proxy" "codingSystemVariants" "Ljava/util/Set;" .null := DD116 (Or.inr (hw _ (List.mem_of_getElem? (i := 47) rfl))) (ty := (.object "java/util/Set")) (by decide)
        have g_b116 : n0 ≤ b116 := Nat.le_trans (Nat.le_trans (Nat.le_trans (Nat.le_trans (Nat.le_trans (Nat.le_trans (Nat.le_trans (Nat.le_trans Z0 E94.1) (Keep.of_wr W98).1) (Keep.of_wr W102).1) E104.1) K107q.1) E110.1) K113q.1) (Nat.le_of_eq g116.symm)
        have sz_b116 : h0.size ≤ b116 := (Nat.le_trans KC113.1 (Nat.le_of_eq g116.symm))
        have K116 : Keep h0 h116 [] := KC113.ext E116
        have CH116 : CHr Z [("java/lang/String", 7)] s.vm h0 s.vm h116 := CH113.trans (CHr.ext E116 CH113.1)
        have pre117 : Goes p e below s₁ (entryFrame m #[(.int flag), (.int c0), (.int c1)] maxLocals) T116 (mkF m 116 #[.val (.int flag), .val (.int c0), .val (.int c1), .val (.int (flag &&& (3 : Int32))), .val (.ref b104), .val (.ref b110), .unset, .unset, .unset, .unset] [(.ref b116)]) := fun t kt => pre115 t (st116 t kt)
        have pre118 : Goes p e below s₁ (entryFrame m #[(.int flag), (.int c0), (.int c1)] maxLocals) T116 (mkF m 124 #[.val (.int flag), .val (.int c0), .val (.int c1), .val (.int (flag &&& (3 : Int32))), .val (.ref b104), .val (.ref b110), .unset, .unset, .unset, .unset] [.null, .null, .null, (.ref b110), (.ref b104), (.ref b116), (.ref b116)]) := fun t kt => pre117 t (by
            show Steps p.tables e below (T116.setTop (mkF m 116 #[.val (.int flag), .val (.int c0), .val (.int c1), .val (.int (flag &&& (3 : Int32))), .val (.ref b104), .val (.ref b110), .unset, .unset, .unset, .unset] [(.ref b116)])) _
            refine XS.dup X116.here hx rfl (hb hby at_116) rfl rfl ?_
            show Steps p.tables e below (T116.setTop (mkF m 117 #[.val (.int flag), .val (.int c0), .val (.int c1), .val (.int (flag &&& (3 : Int32))), .val (.ref b104), .val (.ref b110), .unset, .unset, .unset, .unset] [(.ref b116), (.ref b116)])) _
            refine XS.aload X116.here hx rfl (hb hby at_117) rfl rfl ?_
            show Steps p.tables e below (T116.setTop (mkF m 119 #[.val (.int flag), .val (.int c0), .val (.int c1), .val (.int (flag &&& (3 : Int32))), .val (.ref b104), .val (.ref b110), .unset, .unset, .unset, .unset] [(.ref b104), (.ref b116), (.ref b116)])) _
            refine XS.aload X116.here hx rfl (hb hby at_119) rfl rfl ?_
            show Steps p.tables e below (T116.setTop (mkF m 121 #[.val (.int flag), .val (.int c0), .val (.int c1), .val (.int (flag &&& (3 : Int32))), .val (.ref b104), .val (.ref b110), .unset, .unset, .unset, .unset] [(.ref b110), (.ref b104), (.ref b116), (.ref b116)])) _
            refine XS.aconstNull X116.here hx rfl (hb hby at_121) ?_
            show Steps p.tables e below (T116.setTop (mkF m 122 #[.val (.int flag), .val (.int c0), .val (.int c1), .val (.int (flag &&& (3 : Int32))), .val (.ref b104), .val (.ref b110), .unset, .unset, .unset, .unset] [.null, (.ref b110), (.ref b104), (.ref b116), (.ref b116)])) _
            refine XS.aconstNull X116.here hx rfl (hb hby at_122) ?_
            show Steps p.tables e below (T116.setTop (mkF m 123 #[.val (.int flag), .val (.int c0), .val (.int c1), .val (.int (flag &&& (3 : Int32))), .val (.ref b104), .val (.ref b110), .unset, .unset, .unset, .unset] [.null, .null, (.ref b110), (.ref b104), (.ref b116), (.ref b116)])) _
            refine XS.aconstNull X116.here hx rfl (hb hby at_123) ?_
            exact kt)
        obtain ⟨_, _, ⟨T119, L119, k119, n119⟩, -, X119, ⟨Lc119, hQ119, l119, y119, z119⟩, st119⟩ := X116.specialBack hx (y := (⟨"com/example/outcomist/outcomist/Catalogue$Proxy", "<init>", "(Ljava/lang/String;Ljava/util/List;Ljava/util/Set;Ljava/util/Map;Ljava/util/Set;)V"⟩ : MethodName)) rfl hown (mvT hZ (hw _ (List.mem_of_getElem? (i := 29) rfl))) (mvT hZ (hw _ (List.mem_of_getElem? (i := 30) rfl))) (mvT hZ (hw _ (List.mem_of_getElem? (i := 31) rfl))) (by decide) (backOf (W := 1) (own_pxR l Z a0 hw [] b116 b104 b110 h116 n0 (Nat.le_trans (Nat.le_trans (Nat.le_trans (Nat.le_trans (Nat.le_trans (Nat.le_trans (Nat.le_trans (Nat.le_trans Z0 E94.1) (Keep.of_wr W98).1) (Keep.of_wr W102).1) E104.1) K107q.1) E110.1) K113q.1) E116.1) A116 F_codingSystem_b116 F_outcomes_b116 F_severityVariants_b116 F_issueTypeVariants_b116 F_codingSystemVariants_b116 g_b116) hZ (hw _ (List.mem_of_getElem? (i := 31) rfl)) (hw _ (List.mem_of_getElem? (i := 28) rfl)) (by decide) (by decide)) (g := (mkF m 124 #[.val (.int flag), .val (.int c0), .val (.int c1), .val (.int (flag &&& (3 : Int32))), .val (.ref b104), .val (.ref b110), .unset, .unset, .unset, .unset] [.null, .null, .null, (.ref b110), (.ref b104), (.ref b116), (.ref b116)])) rfl (by rw [hml]; rfl) (Steps.refl _) (a := b116) (argsL := [(.ref b104), (.ref b110), .null, .null, .null]) (rest := [(.ref b116)]) (lenOf own_pd7 rfl) rfl (by show 2 * 0 + _ ≤ _; exact Nat.le_of_eq rfl) (hb hby at_124) (fun _ _ => ⟨rfl, e116, (by decide : 5 + 0 ≤ _), (by decide : 16 + 0 ≤ _)⟩)
        dsimp only [Pt.U, Pt.locs, Pt.cells, Pt.slots] at X119 l119 y119 z119 st119 hQ119
        subst l119 y119 z119
        obtain ⟨rfl, N119q, K119q, Eb119, Fb119⟩ := hQ119
        have N119 := Fr.app N113 N119q
        have KC119 : Keep h0 T119.heap [] := K116.trans K119q (allS (Or.inr sz_b116) all0)
        have CH119 : CHr Z [("java/lang/String", 7)] s.vm h0 s.vm T119.heap := CH116.trans (CHr.keep K119q (allS (Safe.exa hZ.alike A116 (by decide) (by decide)) all0) CH116.1)
        have pre120 : Goes p e below s₁ (entryFrame m #[(.int flag), (.int c0), (.int c1)] maxLocals) T119 (mkF m 127 #[.val (.int flag), .val (.int c0), .val (.int c1), .val (.int (flag &&& (3 : Int32))), .val (.ref b104), .val (.ref b110), .unset, .unset, .unset, .unset] [(.ref b116)]) := fun t kt => pre118 t (st119.trans kt)
        have pre121 : Goes p e below s₁ (entryFrame m #[(.int flag), (.int c0), (.int c1)] maxLocals) T119 (mkF m 142 #[.val (.int flag), .val (.int c0), .val (.int c1), .val (.int (flag &&& (3 : Int32))), .val (.ref b104), .val (.ref b110), .val (.ref b116), .val (.int (1 : Int32)), .unset, .unset] [(.ref b116)]) := fun t kt => pre120 t (by
            show Steps p.tables e below (T119.setTop (mkF m 127 #[.val (.int flag), .val (.int c0), .val (.int c1), .val (.int (flag &&& (3 : Int32))), .val (.ref b104), .val (.ref b110), .unset, .unset, .unset, .unset] [(.ref b116)])) _
            refine XS.astore X119.here hx rfl (hb hby at_127) rfl rfl (l' := #[.val (.int flag), .val (.int c0), .val (.int c1), .val (.int (flag &&& (3 : Int32))), .val (.ref b104), .val (.ref b110), .val (.ref b116), .unset, .unset, .unset]) rfl ?_
            show Steps p.tables e below (T119.setTop (mkF m 129 #[.val (.int flag), .val (.int c0), .val (.int c1), .val (.int (flag &&& (3 : Int32))), .val (.ref b104), .val (.ref b110), .val (.ref b116), .unset, .unset, .unset] [])) _
            refine XS.iloadN X119.here hx rfl (hb hby at_129) rfl ?_
            show Steps p.tables e below (T119.setTop (mkF m 130 #[.val (.int flag), .val (.int c0), .val (.int c1), .val (.int (flag &&& (3 : Int32))), .val (.ref b104), .val (.ref b110), .val (.ref b116), .unset, .unset, .unset] [(.int (flag &&& (3 : Int32)))])) _
            refine XS.ifNo X119.here hx rfl (hb hby at_130) rfl ((if0 _ _).trans (feq hc5_2).1) ?_
            show Steps p.tables e below (T119.setTop (mkF m 133 #[.val (.int flag), .val (.int c0), .val (.int c1), .val (.int (flag &&& (3 : Int32))), .val (.ref b104), .val (.ref b110), .val (.ref b116), .unset, .unset, .unset] [])) _
            refine XS.iconst X119.here hx rfl (hb hby at_133) ?_
            show Steps p.tables e below (T119.setTop (mkF m 134 #[.val (.int flag), .val (.int c0), .val (.int c1), .val (.int (flag &&& (3 : Int32))), .val (.ref b104), .val (.ref b110), .val (.ref b116), .unset, .unset, .unset] [(.int (1 : Int32))])) _
            refine XS.goto X119.here hx rfl (pc0 := 134) (pc' := 138) rfl (hb hby at_134) (by decide) (by decide) ?_
            show Steps p.tables e below (T119.setTop (mkF m 138 #[.val (.int flag), .val (.int c0), .val (.int c1), .val (.int (flag &&& (3 : Int32))), .val (.ref b104), .val (.ref b110), .val (.ref b116), .unset, .unset, .unset] [(.int (1 : Int32))])) _
            refine XS.istore X119.here hx rfl (hb hby at_138) rfl (l' := #[.val (.int flag), .val (.int c0), .val (.int c1), .val (.int (flag &&& (3 : Int32))), .val (.ref b104), .val (.ref b110), .val (.ref b116), .val (.int (1 : Int32)), .unset, .unset]) rfl ?_
            show Steps p.tables e below (T119.setTop (mkF m 140 #[.val (.int flag), .val (.int c0), .val (.int c1), .val (.int (flag &&& (3 : Int32))), .val (.ref b104), .val (.ref b110), .val (.ref b116), .val (.int (1 : Int32)), .unset, .unset] [])) _
            refine XS.aload X119.here hx rfl (hb hby at_140) rfl rfl ?_
            exact kt)
        obtain ⟨cq122, kq122, q122a, q122b, q122c⟩ := isOf hZ rfl Eb119
        obtain ⟨_, _, ⟨T122, L122, k122, n122⟩, -, X122, ⟨Lc122, hQ122, l122, y122, z122⟩, st122⟩ := X119.virtualBack hx (y := (⟨"com/example/outcomist/outcomist/Catalogue$Proxy", "coded", "()Z"⟩ : MethodName)) (z := (⟨"com/example/outcomist/outcomist/Catalogue$Proxy", "coded", "()Z"⟩ : MethodName)) hown (mvT hZ (hw _ (List.mem_of_getElem? (i := 48) rfl))) (mvT hZ (hw _ (List.mem_of_getElem? (i := 49) rfl))) (notFace_of_selects (args := #[]) (mvT hZ (hw _ (List.mem_of_getElem? (i := 51) rfl)))) (mvT hZ (hw _ (List.mem_of_getElem? (i := 51) rfl))) (mvT hZ (hw _ (List.mem_of_getElem? (i := 50) rfl))) (by decide) (backOf (W := 0) (own_cdR l Z a0 hw [] b116 b104 T119.heap n0 (Nat.le_trans (Nat.le_trans (Nat.le_trans (Nat.le_trans (Nat.le_trans (Nat.le_trans (Nat.le_trans (Nat.le_trans (Nat.le_trans Z0 E94.1) (Keep.of_wr W98).1) (Keep.of_wr W102).1) E104.1) K107q.1) E110.1) K113q.1) E116.1) K119q.1) Fb119) hZ (hw _ (List.mem_of_getElem? (i := 52) rfl)) (hw _ (List.mem_of_getElem? (i := 28) rfl)) (by decide) (by decide)) q122a q122c (g := (mkF m 142 #[.val (.int flag), .val (.int c0), .val (.int c1), .val (.int (flag &&& (3 : Int32))), .val (.ref b104), .val (.ref b110), .val (.ref b116), .val (.int (1 : Int32)), .unset, .unset] [(.ref b116)])) rfl (by rw [hml]; rfl) (Steps.refl _) (argsL := []) (rest := []) (lenOf own_pd8 rfl) rfl (by show 2 * 0 + _ ≤ _; exact Nat.le_of_eq rfl) (hb hby at_142) (fun _ _ => ⟨rfl, rfl, (by decide : 5 + 0 ≤ _), (by decide : 16 + 0 ≤ _)⟩)
        dsimp only [Pt.U, Pt.locs, Pt.cells, Pt.slots] at X122 l122 y122 z122 st122 hQ122
        subst l122 y122 z122
        obtain ⟨rfl, N122q, e122⟩ := hQ122
        have N122 := Fr.app N119 N122q
        have pre123 : Goes p e below s₁ (entryFrame m #[(.int flag), (.int c0), (.int c1)] maxLocals) T122 (mkF m 145 #[.val (.int flag), .val (.int c0), .val (.int c1), .val (.int (flag &&& (3 : Int32))), .val (.ref b104), .val (.ref b110), .val (.ref b116), .val (.int (1 : Int32)), .unset, .unset] [(.int (1 : Int32))]) := fun t kt => pre121 t (st122.trans kt)
        have pre124 : Goes p e below s₁ (entryFrame m #[(.int flag), (.int c0), (.int c1)] maxLocals) T122 (mkF m 159 #[.val (.int flag), .val (.int c0), .val (.int c1), .val (.int (flag &&& (3 : Int32))), .val (.ref b104), .val (.ref b110), .val (.ref b116), .val (.int (1 : Int32)), .val (.int (1 : Int32)), .unset] [(.ref b110)]) := fun t kt => pre123 t (by
            show Steps p.tables e below (T122.setTop (mkF m 145 #[.val (.int flag), .val (.int c0), .val (.int c1), .val (.int (flag &&& (3 : Int32))), .val (.ref b104), .val (.ref b110), .val (.ref b116), .val (.int (1 : Int32)), .unset, .unset] [(.int (1 : Int32))])) _
            refine XS.iload X122.here hx rfl (hb hby at_145) rfl ?_
            show Steps p.tables e below (T122.setTop (mkF m 147 #[.val (.int flag), .val (.int c0), .val (.int c1), .val (.int (flag &&& (3 : Int32))), .val (.ref b104), .val (.ref b110), .val (.ref b116), .val (.int (1 : Int32)), .unset, .unset] [(.int (1 : Int32)), (.int (1 : Int32))])) _
            refine XS.icmpNo X122.here hx rfl (hb hby at_147) rfl (teq (by decide : (1 : Int32) = (1 : Int32))).2 ?_
            show Steps p.tables e below (T122.setTop (mkF m 150 #[.val (.int flag), .val (.int c0), .val (.int c1), .val (.int (flag &&& (3 : Int32))), .val (.ref b104), .val (.ref b110), .val (.ref b116), .val (.int (1 : Int32)), .unset, .unset] [])) _
            refine XS.iconst X122.here hx rfl (hb hby at_150) ?_
            show Steps p.tables e below (T122.setTop (mkF m 151 #[.val (.int flag), .val (.int c0), .val (.int c1), .val (.int (flag &&& (3 : Int32))), .val (.ref b104), .val (.ref b110), .val (.ref b116), .val (.int (1 : Int32)), .unset, .unset] [(.int (1 : Int32))])) _
            refine XS.goto X122.here hx rfl (pc0 := 151) (pc' := 155) rfl (hb hby at_151) (by decide) (by decide) ?_
            show Steps p.tables e below (T122.setTop (mkF m 155 #[.val (.int flag), .val (.int c0), .val (.int c1), .val (.int (flag &&& (3 : Int32))), .val (.ref b104), .val (.ref b110), .val (.ref b116), .val (.int (1 : Int32)), .unset, .unset] [(.int (1 : Int32))])) _
            refine XS.istore X122.here hx rfl (hb hby at_155) rfl (l' := #[.val (.int flag), .val (.int c0), .val (.int c1), .val (.int (flag &&& (3 : Int32))), .val (.ref b104), .val (.ref b110), .val (.ref b116), .val (.int (1 : Int32)), .val (.int (1 : Int32)), .unset]) rfl ?_
            show Steps p.tables e below (T122.setTop (mkF m 157 #[.val (.int flag), .val (.int c0), .val (.int c1), .val (.int (flag &&& (3 : Int32))), .val (.ref b104), .val (.ref b110), .val (.ref b116), .val (.int (1 : Int32)), .val (.int (1 : Int32)), .unset] [])) _
            refine XS.aload X122.here hx rfl (hb hby at_157) rfl rfl ?_
            exact kt)
        obtain ⟨_, _, ⟨T125, L125, k125, n125⟩, -, X125, ⟨Lc125, hQ125, l125, y125, z125⟩, st125⟩ := Jvm.LawKit.callS X122 hx (y := (⟨"com/example/outcomist/outcomist/Catalogue$Proxy", "withoutCoding", "(Ljava/util/List;)Lcom/example/outcomist/outcomist/Catalogue$Proxy;"⟩ : MethodName)) hown (mvT hZ (hw _ (List.mem_of_getElem? (i := 53) rfl))) (mvT hZ (hw _ (List.mem_of_getElem? (i := 54) rfl))) (mvT hZ (hw _ (List.mem_of_getElem? (i := 28) rfl))) (mvT hZ (hw _ (List.mem_of_getElem? (i := 55) rfl))) (by decide) (backOf (W := 0) (own_without l Z a0 hw [] b110 aEMPTY_SET aEMPTY_MAP T119.heap n0 (Nat.le_trans (Nat.le_trans (Nat.le_trans (Nat.le_trans (Nat.le_trans (Nat.le_trans (Nat.le_trans (Nat.le_trans (Nat.le_trans Z0 E94.1) (Keep.of_wr W98).1) (Keep.of_wr W102).1) E104.1) K107q.1) E110.1) K113q.1) E116.1) K119q.1) S_ES S_EM (((((((((O0.ext E94).wr W98 g_b94).wr W102 g_b94).ext E104).keep K107q (allS g_b104 all0)).ext E110).keep K113q (allS g_b110 all0)).ext E116).keep K119q (allS g_b116 all0))) hZ (hw _ (List.mem_of_getElem? (i := 55) rfl)) (hw _ (List.mem_of_getElem? (i := 28) rfl)) (by decide) (by decide)) (g := (mkF m 159 #[.val (.int flag), .val (.int c0), .val (.int c1), .val (.int (flag &&& (3 : Int32))), .val (.ref b104), .val (.ref b110), .val (.ref b116), .val (.int (1 : Int32)), .val (.int (1 : Int32)), .unset] [(.ref b110)])) rfl (by rw [hml]; rfl) (argsL := [(.ref b110)]) (rest := []) (lenOf own_pd9 rfl) rfl (by show 2 * 0 + _ ≤ _; exact Nat.le_of_eq rfl) (hb hby at_159) (fun _ _ => ⟨rfl, e122, (by decide : 5 + 1 ≤ _), (by decide : 16 + 5 ≤ _)⟩)
        dsimp only [Pt.U, Pt.locs, Pt.cells, Pt.slots] at X125 l125 y125 z125 st125 hQ125
        subst l125 y125 z125
        obtain ⟨wb125, rfl, N125q, K125q, Ew125, Fw125_⟩ := hQ125
        have N125 := Fr.app N122 N125q
        have KC125 : Keep h0 T125.heap [] := KC119.trans K125q all0
        have CH125 : CHr Z [("java/lang/String", 7)] s.vm h0 s.vm T125.heap := CH119.trans (CHr.keep K125q all0 CH119.1)
        have pre126 : Goes p e below s₁ (entryFrame m #[(.int flag), (.int c0), (.int c1)] maxLocals) T125 (mkF m 162 #[.val (.int flag), .val (.int c0), .val (.int c1), .val (.int (flag &&& (3 : Int32))), .val (.ref b104), .val (.ref b110), .val (.ref b116), .val (.int (1 : Int32)), .val (.int (1 : Int32)), .unset] [(.ref wb125)]) := fun t kt => pre124 t (st125 t kt)
        have pre127 : Goes p e below s₁ (entryFrame m #[(.int flag), (.int c0), (.int c1)] maxLocals) T125 (mkF m 171 #[.val (.int flag), .val (.int c0), .val (.int c1), .val (.int (flag &&& (3 : Int32))), .val (.ref b104), .val (.ref b110), .val (.ref b116), .val (.int (1 : Int32)), .val (.int (1 : Int32)), .val (.ref wb125)] [(.ref wb125)]) := fun t kt => pre126 t (by
            show Steps p.tables e below (T125.setTop (mkF m 162 #[.val (.int flag), .val (.int c0), .val (.int c1), .val (.int (flag &&& (3 : Int32))), .val (.ref b104), .val (.ref b110), .val (.ref b116), .val (.int (1 : Int32)), .val (.int (1 : Int32)), .unset] [(.ref wb125)])) _
            refine XS.astore X125.here hx rfl (hb hby at_162) rfl rfl (l' := #[.val (.int flag), .val (.int c0), .val (.int c1), .val (.int (flag &&& (3 : Int32))), .val (.ref b104), .val (.ref b110), .val (.ref b116), .val (.int (1 : Int32)), .val (.int (1 : Int32)), .val (.ref wb125)]) rfl ?_
            show Steps p.tables e below (T125.setTop (mkF m 164 #[.val (.int flag), .val (.int c0), .val (.int c1), .val (.int (flag &&& (3 : Int32))), .val (.ref b104), .val (.ref b110), .val (.ref b116), .val (.int (1 : Int32)), .val (.int (1 : Int32)), .val (.ref wb125)] [])) _
            refine XS.iload X125.here hx rfl (hb hby at_164) rfl ?_
            show Steps p.tables e below (T125.setTop (mkF m 166 #[.val (.int flag), .val (.int c0), .val (.int c1), .val (.int (flag &&& (3 : Int32))), .val (.ref b104), .val (.ref b110), .val (.ref b116), .val (.int (1 : Int32)), .val (.int (1 : Int32)), .val (.ref wb125)] [(.int (1 : Int32))])) _
            refine XS.ifNo X125.here hx rfl (hb hby at_166) rfl ((if0 _ _).trans (feq (by decide : ¬ ((1 : Int32) = (0 : Int32)))).1) ?_
            show Steps p.tables e below (T125.setTop (mkF m 169 #[.val (.int flag), .val (.int c0), .val (.int c1), .val (.int (flag &&& (3 : Int32))), .val (.ref b104), .val (.ref b110), .val (.ref b116), .val (.int (1 : Int32)), .val (.int (1 : Int32)), .val (.ref wb125)] [])) _
            refine XS.aload X125.here hx rfl (hb hby at_169) rfl rfl ?_
            exact kt)
        obtain ⟨cq128, kq128, q128a, q128b, q128c⟩ := isOf hZ rfl Ew125
        obtain ⟨_, _, ⟨T128, L128, k128, n128⟩, -, X128, ⟨Lc128, hQ128, l128, y128, z128⟩, st128⟩ := X125.virtualBack hx (y := (⟨"com/example/outcomist/outcomist/Catalogue$Proxy", "coded", "()Z"⟩ : MethodName)) (z := (⟨"com/example/outcomist/outcomist/Catalogue$Proxy", "coded", "()Z"⟩ : MethodName)) hown (mvT hZ (hw _ (List.mem_of_getElem? (i := 48) rfl))) (mvT hZ (hw _ (List.mem_of_getElem? (i := 49) rfl))) (notFace_of_selects (args := #[]) (mvT hZ (hw _ (List.mem_of_getElem? (i := 51) rfl)))) (mvT hZ (hw _ (List.mem_of_getElem? (i := 51) rfl))) (mvT hZ (hw _ (List.mem_of_getElem? (i := 50) rfl))) (by decide) (backOf (W := 0) (own_cdN l Z a0 hw [] wb125 T125.heap n0 (Nat.le_trans (Nat.le_trans (Nat.le_trans (Nat.le_trans (Nat.le_trans (Nat.le_trans (Nat.le_trans (Nat.le_trans (Nat.le_trans (Nat.le_trans Z0 E94.1) (Keep.of_wr W98).1) (Keep.of_wr W102).1) E104.1) K107q.1) E110.1) K113q.1) E116.1) K119q.1) K125q.1) Fw125_) hZ (hw _ (List.mem_of_getElem? (i := 52) rfl)) (hw _ (List.mem_of_getElem? (i := 28) rfl)) (by decide) (by decide)) q128a q128c (g := (mkF m 171 #[.val (.int flag), .val (.int c0), .val (.int c1), .val (.int (flag &&& (3 : Int32))), .val (.ref b104), .val (.ref b110), .val (.ref b116), .val (.int (1 : Int32)), .val (.int (1 : Int32)), .val (.ref wb125)] [(.ref wb125)])) rfl (by rw [hml]; rfl) (Steps.refl _) (argsL := []) (rest := []) (lenOf own_pd8 rfl) rfl (by show 2 * 0 + _ ≤ _; exact Nat.le_of_eq rfl) (hb hby at_171) (fun _ _ => ⟨rfl, rfl, (by decide : 6 + 0 ≤ _), (by decide : 21 + 0 ≤ _)⟩)
        dsimp only [Pt.U, Pt.locs, Pt.cells, Pt.slots] at X128 l128 y128 z128 st128 hQ128
        subst l128 y128 z128
        obtain ⟨rfl, N128q, e128⟩ := hQ128
        have N128 := Fr.app N125 N128q
        have pre129 : Goes p e below s₁ (entryFrame m #[(.int flag), (.int c0), (.int c1)] maxLocals) T128 (mkF m 174 #[.val (.int flag), .val (.int c0), .val (.int c1), .val (.int (flag &&& (3 : Int32))), .val (.ref b104), .val (.ref b110), .val (.ref b116), .val (.int (1 : Int32)), .val (.int (1 : Int32)), .val (.ref wb125)] [(.int (0 : Int32))]) := fun t kt => pre127 t (st128.trans kt)
        have pre130 : Goes p e below s₁ (entryFrame m #[(.int flag), (.int c0), (.int c1)] maxLocals) T128 (mkF m 182 #[.val (.int flag), .val (.int c0), .val (.int c1), .val (.int (flag &&& (3 : Int32))), .val (.ref b104), .val (.ref b110), .val (.ref b116), .val (.int (1 : Int32)), .val (.int (1 : Int32)), .val (.ref wb125)] [(.int (1 : Int32))]) := fun t kt => pre129 t (by
            show Steps p.tables e below (T128.setTop (mkF m 174 #[.val (.int flag), .val (.int c0), .val (.int c1), .val (.int (flag &&& (3 : Int32))), .val (.ref b104), .val (.ref b110), .val (.ref b116), .val (.int (1 : Int32)), .val (.int (1 : Int32)), .val (.ref wb125)] [(.int (0 : Int32))])) _
            refine XS.ifNo X128.here hx rfl (hb hby at_174) rfl ((if0 _ _).trans (teq (by decide : (0 : Int32) = (0 : Int32))).2) ?_
            show Steps p.tables e below (T128.setTop (mkF m 177 #[.val (.int flag), .val (.int c0), .val (.int c1), .val (.int (flag &&& (3 : Int32))), .val (.ref b104), .val (.ref b110), .val (.ref b116), .val (.int (1 : Int32)), .val (.int (1 : Int32)), .val (.ref wb125)] [])) _
            refine XS.iconst X128.here hx rfl (hb hby at_177) ?_
            show Steps p.tables e below (T128.setTop (mkF m 178 #[.val (.int flag), .val (.int c0), .val (.int c1), .val (.int (flag &&& (3 : Int32))), .val (.ref b104), .val (.ref b110), .val (.ref b116), .val (.int (1 : Int32)), .val (.int (1 : Int32)), .val (.ref wb125)] [(.int (1 : Int32))])) _
            refine XS.goto X128.here hx rfl (pc0 := 178) (pc' := 182) rfl (hb hby at_178) (by decide) (by decide) ?_
            exact kt)
        obtain ⟨fs, hr, hrun, hended, hW, hsame⟩ := X128.leave (v := some (.int (1 : Int32))) (fun h => by rw [Bd.returns] at h; cases h)
        have hEnd := ReturnedEndW.of_narrow (o := .returned (some (.int (1 : Int32)))) ⟨_, rfl⟩ hW hsame
        refine ⟨_, _, pre130 _ ?_, hrun, hended, _, _, rfl, ?_, ?_, hEnd.1, hEnd.2.1, hEnd.2.2.1, hEnd.2.2.2.mono (by decide) (by decide)⟩
        · show Steps p.tables e below (T128.setTop (mkF m 182 #[.val (.int flag), .val (.int c0), .val (.int c1), .val (.int (flag &&& (3 : Int32))), .val (.ref b104), .val (.ref b110), .val (.ref b116), .val (.int (1 : Int32)), .val (.int (1 : Int32)), .val (.ref wb125)] [(.int (1 : Int32))])) _
          exact retN X128 hx (t := .boolean) Bd.returns (by simp) (hb hby at_182) hr
        · show Q_own_rm0 Z flag c0 c1 cs aDEFAULTCAPACITY_EMPTY_ELEMENTDATA aEMPTY_SET aEMPTY_MAP h0 n0 _ T128.heap _
          rw [e128]
          exact ⟨rfl, N128⟩
        · show CHr Z [("java/lang/String", 7)] s.vm s.heap T128.vm T128.heap
          rw [hh, e128]
          exact CH125.trans (CHv.at (s := s) (vm0 := s.vm) X128 hZ hEL CH125.1)
set_option maxRecDepth 65536 in
set_option maxHeartbeats 40000000 in
theorem comes_1 {Post : Tables → Env → Array Value → State → Outcome → State → Prop} (hpost : ∀ tb e args s v u, (limb_1_1.after args s (.returned v) u = true ∧ limb_1_2.after args s (.returned v) u = true ∧ True) → ReturnedEndW s (.returned v) u (Jvm.fieldLocs frame_1_writes args s ++ Jvm.arrayLocs frame_1_arrays args s ++ Jvm.staticLocs frame_1_statics s) 24 1152 → Post tb e args s (.returned v) u) :
    ArmFor flags0 classFile x code maxLocals ret World_1 tables_1 room_1 Calls_1 rest_1 Pre_1 Post := by
  intro l hfl _ _ p e ha hc hk s m args below hf hA hF happ hP
  obtain ⟨hcalls, hrest, hpre⟩ := hP
  obtain ⟨-, -, -, hnamed, -, -, -, hat⟩ := (Spec.applies_iff hf).mp happ
  obtain ⟨hg, hn⟩ := and_e (Cond.before_iff.mp (show (Jvm.Cond.and given_1 narrow_1).before args s = true from hpre))
  obtain ⟨g5, g6⟩ := and_e hg
  obtain ⟨g7, g8⟩ := and_e g6
  obtain ⟨g9, g10⟩ := and_e g8
  obtain ⟨w0, w1, w2, rfl⟩ : ∃ w0 w1 w2 : Value, args = #[w0, w1, w2] := by
    have hs : args.size = 3 := by simpa [Cond.value, given_1] using g5
    obtain ⟨L⟩ := args
    match L, hs with
    | [w0, w1, w2], _ => exact ⟨w0, w1, w2, rfl⟩
  have hw := fun d (hd : d ∈ tables_1) => atoms_spec (ws := Jvm.Cond.code x code maxLocals ret :: tables_1) hat d (List.mem_cons_of_mem _ hd)
  have hfit : Fit s := fun {y c} hc i hi => by
    obtain ⟨ha, rfl⟩ := Array.getElem?_eq_some_iff.mp hc
    have q := List.all_eq_true.mp ((Array.all_eq_true_iff_forall_mem.mp hF) _ (Array.getElem_mem ha)) i (List.mem_range.mpr hi)
    simpa [Array.getElem?_eq_getElem hi] using q
  obtain ⟨hsets, hown0⟩ := atoms_of _ (rest_1_c_eq ▸ (show rest_1_c.before _ s = true from hrest))
  have hr0 := Cond.before_iff.mp hown0
  obtain ⟨i0, ei0⟩ := is_v g7
  obtain rfl : w0 = (.int i0) := Option.some.inj ei0
  obtain ⟨i1, ei1⟩ := is_v g9
  obtain rfl : w1 = (.int i1) := Option.some.inj ei1
  obtain ⟨i2, ei2⟩ := is_v g10
  obtain rfl : w2 = (.int i2) := Option.some.inj ei2
  have n5 := not_v (Cond.before_iff.mp (hsets _ (List.mem_of_getElem? (i := 25) rfl)))
  obtain ⟨ics, ecs⟩ := is_v (Cond.before_iff.mp (hsets _ (List.mem_of_getElem? (i := 24) rfl)))
  have S_CS : Sta s s.heap "java/lang/String" "COMPACT_STRINGS" "Z" (.int ics) := Sta.start ecs (Or.inl (hsets _ (List.mem_of_getElem? (i := 23) rfl)))
  have hcs : ¬ (ics = (0 : Int32)) := gotF (Cond.eq_ints ecs (Term.int_eval (0))) n5
  have xDEFAULTCAPACITY_EMPTY_ELEMENTDATA := Cond.before_iff.mp (hsets _ (List.mem_of_getElem? (i := 7) rfl))
  obtain ⟨aDEFAULTCAPACITY_EMPTY_ELEMENTDATA, evDEFAULTCAPACITY_EMPTY_ELEMENTDATA⟩ := exa_v xDEFAULTCAPACITY_EMPTY_ELEMENTDATA
  have S_DEFAULTCAPACITY_EMPTY_ELEMENTDATA := Sta.start evDEFAULTCAPACITY_EMPTY_ELEMENTDATA (Or.inr ⟨(hw _ (List.mem_of_getElem? (i := 2) rfl)), (hsets _ (List.mem_of_getElem? (i := 2) rfl))⟩)
  have xEMPTY_SET := Cond.before_iff.mp (hsets _ (List.mem_of_getElem? (i := 11) rfl))
  obtain ⟨aEMPTY_SET, evEMPTY_SET⟩ := exa_v xEMPTY_SET
  have S_EMPTY_SET := Sta.start evEMPTY_SET (Or.inl (hsets _ (List.mem_of_getElem? (i := 10) rfl)))
  have xEMPTY_MAP := Cond.before_iff.mp (hsets _ (List.mem_of_getElem? (i := 18) rfl))
  obtain ⟨aEMPTY_MAP, evEMPTY_MAP⟩ := exa_v xEMPTY_MAP
  have S_EMPTY_MAP := Sta.start evEMPTY_MAP (Or.inl (hsets _ (List.mem_of_getElem? (i := 17) rfl)))
  have hEL : EW s _ [("java/lang/String", 7)] := (EW.cons (hw _ (List.mem_of_getElem? (i := 81) rfl)) (by simp) EW.nil)
  have hCH : CHv s [("java/lang/String", 7)] s.vm s.heap := CHv.start hEL (show ∀ q ∈ [("java/lang/String", 7)], Jvm.Lit.constHeld s q.1 q.2 from hcalls.1) (hsets _ (List.mem_of_getElem? (i := 25) rfl)) (hw _ (List.mem_of_getElem? (i := 82) rfl)) (hw _ (List.mem_of_getElem? (i := 70) rfl))
  obtain ⟨n, o, h1, h2, h3, _, L, rfl, ⟨rfl, N⟩, -, hq⟩ := own_rm0 l s _ hw tables_1 i0 i1 i2 ics aDEFAULTCAPACITY_EMPTY_ELEMENTDATA aEMPTY_SET aEMPTY_MAP s.heap s.heap.size (Nat.le_refl _) S_CS hcs (Old.start s) S_DEFAULTCAPACITY_EMPTY_ELEMENTDATA S_EMPTY_SET S_EMPTY_MAP p e ha hc hk s m _ below hf ((Spec.applies_iff_loose hf).mp happ).1 ⟨rfl, State.Warmed39.refl s, rfl, hCH⟩ trivial
  refine ⟨n, _, h1, h2, h3, hpost _ _ _ _ _ _ ⟨Cond.after_iff.mpr rfl, Cond.after_iff.mpr (eq_i res_at (Term.int_eval (1)) rfl), trivial⟩ ⟨hq.1, hq.2.1, hq.2.2.1, (hq.2.2.2.sift fun y hy => Or.inr (N y hy)).mono (by decide) (by decide)⟩⟩
theorem main_1_1 : Claimed_1_1 := comes_1 fun _ _ _ _ _ _ h hF => ⟨h.1, hF⟩
theorem main_1_2 : Claimed_1_2 := comes_1 fun _ _ _ _ _ _ h hF => ⟨h.2.1, hF⟩
end Jvm.Pilot.@@N@@
namespace Jvm.Pilot.@@N@@
open Jvm Jvm.ClassFile Sem Op Lib Jvm.Free Jvm.Stand Jvm.Pilot.@@N@@.Jvm.D
/-! MADE BY PROGRAM (witnessworld.py) out of the Statement's table words and the real class files: 39 classes; the members and pool entries that the words name. The judged class is class 1, her method 1. -/
namespace start1
open Jvm.ClassFile
def u (s : String) : CpInfo := .utf8 (stringToUtf16 s)
/-- a pool by its gaps: so many unusable entries, then the entry; so many at the end -/
def gap : Nat → List CpInfo → List CpInfo
  | 0, r => r
  | n + 1, r => .unusable :: gap n r
def poolList (es : List (Nat × CpInfo)) (last : Nat) : List CpInfo := es.foldr (fun e r => gap e.1 (e.2 :: r)) (gap last [])
def pool (es : List (Nat × CpInfo)) (last : Nat) : Array CpInfo := ⟨poolList es last⟩
def fileOf (pool : Array CpInfo) (this : Nat) (attrs : Array Attribute := #[]) (ms : Array MethodInfo := #[]) (fl : Nat := 33) (sup : Nat := 0) (ifs : Array Nat := #[]) (fds : Array FieldInfo := #[]) : ClassFile where
  minorVersion := 0
  majorVersion := 65
  constantPool := pool
  accessFlags := fl
  thisClass := this
  superClass := sup
  interfaces := ifs
  fields := fds
  methods := ms
  attributes := attrs
def plain (name : String) (sup : Option ClassId) : Class where
  name := name
  kind := .ordinary
  loader := none
  accessFlags := 33
  super := sup
  interfaces := #[]
  cf := none
  fields := #[]
  methods := #[]
  instanceTypes := #[]
  staticTypes := #[]
  resolved := #[]
  callSites := []
  init := .initialized
  statics := none
  mirror := none

def pool0 : Array CpInfo := pool [(5, u "<init>"), (0, u "()V"), (1, .class_ 10), (1, u "java/lang/Object")] 113

def k0c0 : Code := { maxStack := 0, maxLocals := 1, code := object_method_1_code, exceptionTable := #[], attributes := #[] }
def k0m0 : Method := { name := "<init>", desc := "()V", sig := { parameters := [], returnType := none }, accessFlags := 1, code := some k0c0 }
/-- java/lang/Object -/
def k0 : Class := { plain "java/lang/Object" none with
  accessFlags := 33
  interfaces := #[]
  cf := some (fileOf pool0 8 #[] #[{ accessFlags := 1, nameIndex := 5, descriptorIndex := 6, attributes := #[] }] 33 0 #[] #[])
  fields := #[]
  methods := #[k0m0]
  instanceTypes := #[]
  staticTypes := #[]
  resolved := Array.replicate 124 none
  statics := none }

def pool1 : Array CpInfo := pool [(2, .class_ 4), (0, .nameAndType 5 6), (0, u "java/lang/Object"), (0, u "<init>"), (0, u "()V"), (0, .class_ 8), (0, u "java/lang/String"), (0, .methodref 7 10), (0, .nameAndType 5 11), (0, u "([C)V"), (0, .class_ 13), (0, u "java/util/ArrayList"), (0, .methodref 12 3), (0, .class_ 16), (0, u "com/example/outcomist/outcomist/Catalogue$Proxy"), (0, .methodref 15 18), (0, .nameAndType 5 19), (0, u "(Ljava/lang/String;Ljava/util/List;Ljava/util/Set;Ljava/util/Map;Ljava/util/Set;)V"), (0, .methodref 15 21), (0, .nameAndType 22 23), (0, u "coded"), (0, u "()Z"), (0, .methodref 15 25), (0, .nameAndType 26 27), (0, u "withoutCoding"), (0, u "(Ljava/util/List;)Lcom/example/outcomist/outcomist/Catalogue$Proxy;"), (0, .class_ 29), (0, u "com/example/outcomist/outcomist/ProxyCodedPinLaw"), (2, u "law"), (0, u "(III)Z")] 7

def k1m0 : Method := { name := "<init>", desc := "()V", sig := { parameters := [], returnType := none }, accessFlags := 2, code := none }
def k1c1 : Code := { maxStack := 7, maxLocals := 10, code := code, exceptionTable := #[], attributes := #[] }
def k1m1 : Method := { name := "law", desc := "(III)Z", sig := { parameters := [.int, .int, .int], returnType := some .boolean }, accessFlags := 9, code := some k1c1 }
/-- com/example/outcomist/outcomist/ProxyCodedPinLaw -/
def k1 : Class := { plain "com/example/outcomist/outcomist/ProxyCodedPinLaw" (some 0) with
  accessFlags := 49
  interfaces := #[]
  cf := some (fileOf pool1 28 #[] #[{ accessFlags := 2, nameIndex := 5, descriptorIndex := 6, attributes := #[] }, { accessFlags := 9, nameIndex := 32, descriptorIndex := 33, attributes := #[] }] 49 2 #[] #[])
  fields := #[]
  methods := #[k1m0, k1m1]
  instanceTypes := #[]
  staticTypes := #[]
  resolved := Array.replicate 41 none
  statics := none }

def pool2 : Array CpInfo := pool [(8, .class_ 10), (1, u "java/lang/Iterable"), (24, .class_ 36), (0, u "java/lang/Object")] 25

/-- java/lang/Iterable -/
def k2 : Class := { plain "java/lang/Iterable" (some 0) with
  accessFlags := 1537
  interfaces := #[]
  cf := some (fileOf pool2 8 #[] #[] 1537 35 #[] #[])
  fields := #[]
  methods := #[]
  instanceTypes := #[]
  staticTypes := #[]
  resolved := Array.replicate 62 none
  statics := none }

def pool3 : Array CpInfo := pool [(10, .class_ 12), (1, u "java/util/Collection"), (47, .class_ 61), (0, u "java/lang/Object"), (0, .class_ 63), (0, u "java/lang/Iterable")] 51

/-- java/util/Collection -/
def k3 : Class := { plain "java/util/Collection" (some 0) with
  accessFlags := 1537
  interfaces := #[2]
  cf := some (fileOf pool3 10 #[] #[] 1537 60 #[62] #[])
  fields := #[]
  methods := #[]
  instanceTypes := #[]
  staticTypes := #[]
  resolved := Array.replicate 115 none
  statics := none }

def pool4 : Array CpInfo := pool [(1, .methodref 2 3), (0, .class_ 4), (0, .nameAndType 5 6), (0, u "java/lang/Object"), (0, u "<init>"), (0, u "()V"), (1, .class_ 10), (1, u "java/util/AbstractCollection"), (66, .class_ 78), (0, u "java/util/Collection")] 81

def k4c0 : Code := { maxStack := 1, maxLocals := 1, code := jdk_22_method_1_code, exceptionTable := #[], attributes := #[] }
def k4m0 : Method := { name := "<init>", desc := "()V", sig := { parameters := [], returnType := none }, accessFlags := 4, code := some k4c0 }
/-- java/util/AbstractCollection -/
def k4 : Class := { plain "java/util/AbstractCollection" (some 0) with
  accessFlags := 1057
  interfaces := #[3]
  cf := some (fileOf pool4 8 #[] #[{ accessFlags := 4, nameIndex := 5, descriptorIndex := 6, attributes := #[] }] 1057 2 #[77] #[])
  fields := #[]
  methods := #[k4m0]
  instanceTypes := #[]
  staticTypes := #[]
  resolved := Array.replicate 160 none
  statics := none }

def pool5 : Array CpInfo := pool [(8, .class_ 10), (1, u "java/util/SequencedCollection"), (15, .class_ 27), (0, u "java/lang/Object"), (0, .class_ 29), (0, u "java/util/Collection")] 27

/-- java/util/SequencedCollection -/
def k5 : Class := { plain "java/util/SequencedCollection" (some 0) with
  accessFlags := 1537
  interfaces := #[3]
  cf := some (fileOf pool5 8 #[] #[] 1537 26 #[28] #[])
  fields := #[]
  methods := #[]
  instanceTypes := #[]
  staticTypes := #[]
  resolved := Array.replicate 57 none
  statics := none }

def pool6 : Array CpInfo := pool [(8, .class_ 10), (1, u "java/util/List"), (92, .class_ 104), (0, u "java/lang/Object"), (15, .class_ 121), (0, u "java/util/SequencedCollection")] 129

/-- java/util/List -/
def k6 : Class := { plain "java/util/List" (some 0) with
  accessFlags := 1537
  interfaces := #[5]
  cf := some (fileOf pool6 8 #[] #[] 1537 103 #[120] #[])
  fields := #[]
  methods := #[]
  instanceTypes := #[]
  staticTypes := #[]
  resolved := Array.replicate 251 none
  statics := none }

def pool7 : Array CpInfo := pool [(1, .methodref 2 3), (0, .class_ 4), (0, .nameAndType 5 6), (0, u "java/util/AbstractCollection"), (0, u "<init>"), (0, u "()V"), (0, .fieldref 8 9), (0, .class_ 10), (0, .nameAndType 11 12), (0, u "java/util/AbstractList"), (0, u "modCount"), (0, u "I"), (64, .class_ 78), (0, u "java/util/AbstractList$Itr"), (3, .class_ 83), (0, u "java/util/AbstractList$ListItr"), (9, .class_ 94), (0, u "java/util/AbstractList$RandomAccessSubList"), (3, .class_ 99), (0, u "java/util/AbstractList$SubList"), (33, .class_ 134), (0, u "java/util/List"), (73, .class_ 209), (0, u "java/util/AbstractList$SubList$1"), (0, .class_ 211), (0, u "java/util/AbstractList$RandomAccessSpliterator")] 6

def k7c0 : Code := { maxStack := 2, maxLocals := 1, code := jdk_39_method_1_code, exceptionTable := #[], attributes := #[] }
def k7m0 : Method := { name := "<init>", desc := "()V", sig := { parameters := [], returnType := none }, accessFlags := 4, code := some k7c0 }
/-- java/util/AbstractList -/
def k7 : Class := { plain "java/util/AbstractList" (some 4) with
  accessFlags := 1057
  interfaces := #[6]
  cf := some (fileOf pool7 8 #[.nestMembers #[93, 98, 208, 210, 82, 77]] #[{ accessFlags := 4, nameIndex := 5, descriptorIndex := 6, attributes := #[] }] 1057 2 #[133] #[{ accessFlags := 132, nameIndex := 11, descriptorIndex := 12, attributes := #[] }])
  fields := #[{ name := "modCount", type := .int, accessFlags := 132, slot := 0, constantValue := 0 }]
  methods := #[k7m0]
  instanceTypes := #[.int]
  staticTypes := #[]
  resolved := Array.replicate 218 none
  statics := none }

def pool8 : Array CpInfo := pool [(1, .class_ 2), (0, u "java/util/RandomAccess"), (0, .class_ 4), (0, u "java/lang/Object")] 2

/-- java/util/RandomAccess -/
def k8 : Class := { plain "java/util/RandomAccess" (some 0) with
  accessFlags := 1537
  interfaces := #[]
  cf := some (fileOf pool8 1 #[] #[] 1537 3 #[] #[])
  fields := #[]
  methods := #[]
  instanceTypes := #[]
  staticTypes := #[]
  resolved := Array.replicate 7 none
  statics := none }

def pool9 : Array CpInfo := pool [(1, .class_ 2), (0, u "java/lang/Cloneable"), (0, .class_ 4), (0, u "java/lang/Object")] 2

/-- java/lang/Cloneable -/
def k9 : Class := { plain "java/lang/Cloneable" (some 0) with
  accessFlags := 1537
  interfaces := #[]
  cf := some (fileOf pool9 1 #[] #[] 1537 3 #[] #[])
  fields := #[]
  methods := #[]
  instanceTypes := #[]
  staticTypes := #[]
  resolved := Array.replicate 7 none
  statics := none }

def pool10 : Array CpInfo := pool [(1, .class_ 2), (0, u "java/io/Serializable"), (0, .class_ 4), (0, u "java/lang/Object")] 2

/-- java/io/Serializable -/
def k10 : Class := { plain "java/io/Serializable" (some 0) with
  accessFlags := 1537
  interfaces := #[]
  cf := some (fileOf pool10 1 #[] #[] 1537 3 #[] #[])
  fields := #[]
  methods := #[]
  instanceTypes := #[]
  staticTypes := #[]
  resolved := Array.replicate 7 none
  statics := none }

def pool11 : Array CpInfo := pool [(1, .methodref 2 3), (0, .class_ 4), (0, .nameAndType 5 6), (0, u "java/util/AbstractList"), (0, u "<init>"), (0, u "()V"), (2, .fieldref 10 11), (0, .class_ 12), (0, .nameAndType 13 14), (0, u "java/util/ArrayList"), (0, u "elementData"), (0, u "[Ljava/lang/Object;"), (2, u "EMPTY_ELEMENTDATA"), (21, .fieldref 10 40), (0, .nameAndType 41 14), (0, u "DEFAULTCAPACITY_EMPTY_ELEMENTDATA"), (8, u "size"), (0, u "I"), (96, .class_ 149), (0, u "java/util/List"), (112, .class_ 263), (0, u "java/util/ArrayList$ListItr"), (3, .class_ 268), (0, u "java/util/ArrayList$Itr"), (7, .class_ 277), (0, u "java/util/ArrayList$SubList"), (12, .class_ 291), (0, u "java/util/ArrayList$ArrayListSpliterator"), (37, .class_ 330), (0, u "java/util/RandomAccess"), (0, .class_ 332), (0, u "java/lang/Cloneable"), (0, .class_ 334), (0, u "java/io/Serializable"), (0, u "serialVersionUID"), (0, u "J"), (3, u "DEFAULT_CAPACITY"), (159, .class_ 501), (0, u "java/util/ArrayList$SubList$2"), (0, .class_ 503), (0, u "java/util/ArrayList$SubList$1")] 5

def k11c0 : Code := { maxStack := 2, maxLocals := 1, code := jdk_38_method_2_code, exceptionTable := #[], attributes := #[] }
def k11m0 : Method := { name := "<init>", desc := "()V", sig := { parameters := [], returnType := none }, accessFlags := 1, code := some k11c0 }
/-- java/util/ArrayList -/
def k11 : Class := { plain "java/util/ArrayList" (some 7) with
  accessFlags := 33
  interfaces := #[6, 8, 9, 10]
  cf := some (fileOf pool11 10 #[.nestMembers #[290, 276, 500, 502, 262, 267]] #[{ accessFlags := 1, nameIndex := 5, descriptorIndex := 6, attributes := #[] }] 33 2 #[148, 329, 331, 333] #[{ accessFlags := 26, nameIndex := 335, descriptorIndex := 336, attributes := #[] }, { accessFlags := 26, nameIndex := 340, descriptorIndex := 51, attributes := #[] }, { accessFlags := 26, nameIndex := 17, descriptorIndex := 14, attributes := #[] }, { accessFlags := 26, nameIndex := 41, descriptorIndex := 14, attributes := #[] }, { accessFlags := 128, nameIndex := 13, descriptorIndex := 14, attributes := #[] }, { accessFlags := 2, nameIndex := 50, descriptorIndex := 51, attributes := #[] }])
  fields := #[{ name := "serialVersionUID", type := .long, accessFlags := 26, slot := 0, constantValue := 0 }, { name := "DEFAULT_CAPACITY", type := .int, accessFlags := 26, slot := 1, constantValue := 0 }, { name := "EMPTY_ELEMENTDATA", type := (.array (.object "java/lang/Object")), accessFlags := 26, slot := 2, constantValue := 0 }, { name := "DEFAULTCAPACITY_EMPTY_ELEMENTDATA", type := (.array (.object "java/lang/Object")), accessFlags := 26, slot := 3, constantValue := 0 }, { name := "elementData", type := (.array (.object "java/lang/Object")), accessFlags := 128, slot := 1, constantValue := 0 }, { name := "size", type := .int, accessFlags := 2, slot := 2, constantValue := 0 }]
  methods := #[k11m0]
  instanceTypes := #[.int, (.array (.object "java/lang/Object")), .int]
  staticTypes := #[.long, .int, (.array (.object "java/lang/Object")), (.array (.object "java/lang/Object"))]
  resolved := Array.replicate 509 none
  statics := some 0 }

def pool12 : Array CpInfo := pool [(1, .methodref 2 3), (0, .class_ 4), (0, .nameAndType 5 6), (0, u "java/lang/Object"), (0, u "<init>"), (0, u "()V"), (0, .class_ 8), (0, u "java/lang/Record")] 13

def k12c0 : Code := { maxStack := 1, maxLocals := 1, code := jdk_30_method_1_code, exceptionTable := #[], attributes := #[] }
def k12m0 : Method := { name := "<init>", desc := "()V", sig := { parameters := [], returnType := none }, accessFlags := 4, code := some k12c0 }
/-- java/lang/Record -/
def k12 : Class := { plain "java/lang/Record" (some 0) with
  accessFlags := 1057
  interfaces := #[]
  cf := some (fileOf pool12 7 #[] #[{ accessFlags := 4, nameIndex := 5, descriptorIndex := 6, attributes := #[] }] 1057 2 #[] #[])
  fields := #[]
  methods := #[k12m0]
  instanceTypes := #[]
  staticTypes := #[]
  resolved := Array.replicate 22 none
  statics := none }

def pool13 : Array CpInfo := pool [(1, .methodref 2 3), (0, .class_ 4), (0, .nameAndType 5 6), (0, u "java/lang/Record"), (0, u "<init>"), (0, u "()V"), (0, .fieldref 8 9), (0, .class_ 10), (0, .nameAndType 11 12), (0, u "com/example/outcomist/outcomist/Catalogue$Proxy"), (0, u "codingSystem"), (0, u "Ljava/lang/String;"), (0, .fieldref 8 14), (0, .nameAndType 15 16), (0, u "outcomes"), (0, u "Ljava/util/List;"), (0, .fieldref 8 18), (0, .nameAndType 19 20), (0, u "severityVariants"), (0, u "Ljava/util/Set;"), (0, .fieldref 8 22), (0, .nameAndType 23 24), (0, u "issueTypeVariants"), (0, u "Ljava/util/Map;"), (0, .fieldref 8 26), (0, .nameAndType 27 20), (0, u "codingSystemVariants"), (0, .interfaceMethodref 29 30), (0, .class_ 31), (0, .nameAndType 32 33), (0, u "java/util/Set"), (0, u "of"), (0, u "()Ljava/util/Set;"), (0, .interfaceMethodref 35 36), (0, .class_ 37), (0, .nameAndType 32 38), (0, u "java/util/Map"), (0, u "()Ljava/util/Map;"), (0, .methodref 8 40), (0, .nameAndType 5 41), (0, u "(Ljava/lang/String;Ljava/util/List;Ljava/util/Set;Ljava/util/Map;Ljava/util/Set;)V"), (67, u "withoutCoding"), (0, u "(Ljava/util/List;)Lcom/example/outcomist/outcomist/Catalogue$Proxy;"), (1, u "coded"), (0, u "()Z"), (18, .class_ 133), (0, u "com/example/outcomist/outcomist/Catalogue")] 39

def k13c0 : Code := { maxStack := 2, maxLocals := 6, code := prog_7_method_1_code, exceptionTable := #[], attributes := #[] }
def k13m0 : Method := { name := "<init>", desc := "(Ljava/lang/String;Ljava/util/List;Ljava/util/Set;Ljava/util/Map;Ljava/util/Set;)V", sig := { parameters := [(.object "java/lang/String"), (.object "java/util/List"), (.object "java/util/Set"), (.object "java/util/Map"), (.object "java/util/Set")], returnType := none }, accessFlags := 0, code := some k13c0 }
def k13c1 : Code := { maxStack := 7, maxLocals := 1, code := prog_7_method_2_code, exceptionTable := #[], attributes := #[] }
def k13m1 : Method := { name := "withoutCoding", desc := "(Ljava/util/List;)Lcom/example/outcomist/outcomist/Catalogue$Proxy;", sig := { parameters := [(.object "java/util/List")], returnType := some (.object "com/example/outcomist/outcomist/Catalogue$Proxy") }, accessFlags := 8, code := some k13c1 }
def k13c2 : Code := { maxStack := 1, maxLocals := 1, code := prog_7_method_3_code, exceptionTable := #[], attributes := #[] }
def k13m2 : Method := { name := "coded", desc := "()Z", sig := { parameters := [], returnType := some .boolean }, accessFlags := 0, code := some k13c2 }
/-- com/example/outcomist/outcomist/Catalogue$Proxy -/
def k13 : Class := { plain "com/example/outcomist/outcomist/Catalogue$Proxy" (some 12) with
  accessFlags := 48
  interfaces := #[]
  cf := some (fileOf pool13 8 #[.nestHost 132] #[{ accessFlags := 0, nameIndex := 5, descriptorIndex := 41, attributes := #[] }, { accessFlags := 8, nameIndex := 109, descriptorIndex := 110, attributes := #[] }, { accessFlags := 0, nameIndex := 112, descriptorIndex := 113, attributes := #[] }] 48 2 #[] #[{ accessFlags := 18, nameIndex := 11, descriptorIndex := 12, attributes := #[] }, { accessFlags := 18, nameIndex := 15, descriptorIndex := 16, attributes := #[] }, { accessFlags := 18, nameIndex := 19, descriptorIndex := 20, attributes := #[] }, { accessFlags := 18, nameIndex := 23, descriptorIndex := 24, attributes := #[] }, { accessFlags := 18, nameIndex := 27, descriptorIndex := 20, attributes := #[] }])
  fields := #[{ name := "codingSystem", type := (.object "java/lang/String"), accessFlags := 18, slot := 0, constantValue := 0 }, { name := "outcomes", type := (.object "java/util/List"), accessFlags := 18, slot := 1, constantValue := 0 }, { name := "severityVariants", type := (.object "java/util/Set"), accessFlags := 18, slot := 2, constantValue := 0 }, { name := "issueTypeVariants", type := (.object "java/util/Map"), accessFlags := 18, slot := 3, constantValue := 0 }, { name := "codingSystemVariants", type := (.object "java/util/Set"), accessFlags := 18, slot := 4, constantValue := 0 }]
  methods := #[k13m0, k13m1, k13m2]
  instanceTypes := #[(.object "java/lang/String"), (.object "java/util/List"), (.object "java/util/Set"), (.object "java/util/Map"), (.object "java/util/Set")]
  staticTypes := #[]
  resolved := Array.replicate 173 none
  statics := none }

def pool14 : Array CpInfo := pool [(9, .fieldref 10 11), (0, .class_ 12), (0, .nameAndType 13 14), (0, u "java/util/ImmutableCollections"), (0, u "EMPTY_SET"), (0, u "Ljava/util/ImmutableCollections$SetN;"), (11, .class_ 27), (0, u "java/lang/Object"), (5, .class_ 34), (0, u "java/util/Set"), (1, .class_ 38), (1, u "java/util/Collection"), (4, u "of"), (0, u "()Ljava/util/Set;")] 99

def k14c0 : Code := { maxStack := 1, maxLocals := 0, code := jdk_96_method_17_code, exceptionTable := #[], attributes := #[] }
def k14m0 : Method := { name := "of", desc := "()Ljava/util/Set;", sig := { parameters := [], returnType := some (.object "java/util/Set") }, accessFlags := 9, code := some k14c0 }
/-- java/util/Set -/
def k14 : Class := { plain "java/util/Set" (some 0) with
  accessFlags := 1537
  interfaces := #[3]
  cf := some (fileOf pool14 33 #[] #[{ accessFlags := 9, nameIndex := 43, descriptorIndex := 44, attributes := #[] }] 1537 26 #[36] #[])
  fields := #[]
  methods := #[k14m0]
  instanceTypes := #[]
  staticTypes := #[]
  resolved := Array.replicate 144 none
  statics := none }

def pool15 : Array CpInfo := pool [(2, .class_ 4), (1, u "java/lang/Object"), (0, u "<init>"), (0, u "()V"), (3, .class_ 11), (0, u "java/util/ImmutableCollections$List12"), (0, .class_ 13), (0, u "java/util/ImmutableCollections$ListN"), (3, u "Z"), (29, .class_ 49), (1, u "java/util/ImmutableCollections"), (0, u "$assertionsDisabled"), (5, u "[Ljava/lang/Object;"), (5, u "EMPTY_LIST"), (0, u "Ljava/util/ImmutableCollections$ListN;"), (8, u "EMPTY_LIST_NULLS"), (22, u "SALT32L"), (0, u "J"), (2, u "REVERSE"), (6, u "archivedObjects"), (2, u "EMPTY"), (0, u "Ljava/lang/Object;"), (0, .class_ 112), (0, u "java/util/ImmutableCollections$SetN"), (5, u "EMPTY_SET"), (0, u "Ljava/util/ImmutableCollections$SetN;"), (0, .class_ 121), (0, u "java/util/ImmutableCollections$MapN"), (3, u "EMPTY_MAP"), (0, u "Ljava/util/ImmutableCollections$MapN;"), (4, u "EXPAND_FACTOR"), (0, u "I"), (36, .class_ 170), (0, u "java/util/ImmutableCollections$MapN$MapNIterator"), (0, .class_ 172), (0, u "java/util/ImmutableCollections$MapN$1"), (0, .class_ 174), (0, u "java/util/ImmutableCollections$Map1"), (0, .class_ 176), (0, u "java/util/ImmutableCollections$AbstractImmutableMap"), (0, .class_ 178), (0, u "java/util/ImmutableCollections$SetN$SetNIterator"), (0, .class_ 180), (0, u "java/util/ImmutableCollections$Set12"), (0, .class_ 182), (0, u "java/util/ImmutableCollections$Set12$1"), (0, .class_ 184), (0, u "java/util/ImmutableCollections$AbstractImmutableSet"), (0, .class_ 186), (0, u "java/util/ImmutableCollections$SubList"), (0, .class_ 188), (0, u "java/util/ImmutableCollections$ListItr"), (0, .class_ 190), (0, u "java/util/ImmutableCollections$AbstractImmutableList"), (0, .class_ 192), (0, u "java/util/ImmutableCollections$AbstractImmutableCollection"), (0, .class_ 194), (0, u "java/util/ImmutableCollections$Access"), (0, .class_ 196), (0, u "java/util/ImmutableCollections$Access$1")] 16

def k15m0 : Method := { name := "<init>", desc := "()V", sig := { parameters := [], returnType := none }, accessFlags := 2, code := none }
/-- java/util/ImmutableCollections -/
def k15 : Class := { plain "java/util/ImmutableCollections" (some 0) with
  accessFlags := 32
  interfaces := #[]
  cf := some (fileOf pool15 47 #[.nestMembers #[120, 169, 171, 173, 175, 111, 177, 179, 181, 183, 12, 10, 185, 187, 189, 191, 193, 195]] #[{ accessFlags := 2, nameIndex := 5, descriptorIndex := 6, attributes := #[] }] 32 2 #[] #[{ accessFlags := 26, nameIndex := 95, descriptorIndex := 96, attributes := #[] }, { accessFlags := 26, nameIndex := 99, descriptorIndex := 17, attributes := #[] }, { accessFlags := 10, nameIndex := 106, descriptorIndex := 56, attributes := #[] }, { accessFlags := 26, nameIndex := 109, descriptorIndex := 110, attributes := #[] }, { accessFlags := 24, nameIndex := 62, descriptorIndex := 63, attributes := #[] }, { accessFlags := 24, nameIndex := 72, descriptorIndex := 63, attributes := #[] }, { accessFlags := 24, nameIndex := 118, descriptorIndex := 119, attributes := #[] }, { accessFlags := 24, nameIndex := 125, descriptorIndex := 126, attributes := #[] }, { accessFlags := 24, nameIndex := 131, descriptorIndex := 132, attributes := #[] }, { accessFlags := 4120, nameIndex := 50, descriptorIndex := 17, attributes := #[] }])
  fields := #[{ name := "SALT32L", type := .long, accessFlags := 26, slot := 0, constantValue := 0 }, { name := "REVERSE", type := .boolean, accessFlags := 26, slot := 1, constantValue := 0 }, { name := "archivedObjects", type := (.array (.object "java/lang/Object")), accessFlags := 10, slot := 2, constantValue := 0 }, { name := "EMPTY", type := (.object "java/lang/Object"), accessFlags := 26, slot := 3, constantValue := 0 }, { name := "EMPTY_LIST", type := (.object "java/util/ImmutableCollections$ListN"), accessFlags := 24, slot := 4, constantValue := 0 }, { name := "EMPTY_LIST_NULLS", type := (.object "java/util/ImmutableCollections$ListN"), accessFlags := 24, slot := 5, constantValue := 0 }, { name := "EMPTY_SET", type := (.object "java/util/ImmutableCollections$SetN"), accessFlags := 24, slot := 6, constantValue := 0 }, { name := "EMPTY_MAP", type := (.object "java/util/ImmutableCollections$MapN"), accessFlags := 24, slot := 7, constantValue := 0 }, { name := "EXPAND_FACTOR", type := .int, accessFlags := 24, slot := 8, constantValue := 0 }, { name := "$assertionsDisabled", type := .boolean, accessFlags := 4120, slot := 9, constantValue := 0 }]
  methods := #[k15m0]
  instanceTypes := #[]
  staticTypes := #[.long, .boolean, (.array (.object "java/lang/Object")), (.object "java/lang/Object"), (.object "java/util/ImmutableCollections$ListN"), (.object "java/util/ImmutableCollections$ListN"), (.object "java/util/ImmutableCollections$SetN"), (.object "java/util/ImmutableCollections$MapN"), .int, .boolean]
  resolved := Array.replicate 213 none
  statics := some 1 }

def pool16 : Array CpInfo := pool [(2, .class_ 4), (1, u "java/util/Map"), (31, .class_ 37), (0, u "java/util/Map$Entry"), (43, .fieldref 82 83), (0, .class_ 84), (0, .nameAndType 85 86), (0, u "java/util/ImmutableCollections"), (0, u "EMPTY_MAP"), (0, u "Ljava/util/ImmutableCollections$MapN;"), (6, .class_ 94), (0, u "java/lang/Object"), (13, u "of"), (0, u "()Ljava/util/Map;")] 153

def k16c0 : Code := { maxStack := 1, maxLocals := 0, code := jdk_72_method_26_code, exceptionTable := #[], attributes := #[] }
def k16m0 : Method := { name := "of", desc := "()Ljava/util/Map;", sig := { parameters := [], returnType := some (.object "java/util/Map") }, accessFlags := 9, code := some k16c0 }
/-- java/util/Map -/
def k16 : Class := { plain "java/util/Map" (some 0) with
  accessFlags := 1537
  interfaces := #[]
  cf := some (fileOf pool16 2 #[.nestMembers #[36]] #[{ accessFlags := 9, nameIndex := 108, descriptorIndex := 109, attributes := #[] }] 1537 93 #[] #[])
  fields := #[]
  methods := #[k16m0]
  instanceTypes := #[]
  staticTypes := #[]
  resolved := Array.replicate 263 none
  statics := none }

def pool17 : Array CpInfo := pool [(1, .class_ 2), (0, u "java/lang/Comparable"), (0, .class_ 4), (0, u "java/lang/Object")] 7

/-- java/lang/Comparable -/
def k17 : Class := { plain "java/lang/Comparable" (some 0) with
  accessFlags := 1537
  interfaces := #[]
  cf := some (fileOf pool17 1 #[] #[] 1537 3 #[] #[])
  fields := #[]
  methods := #[]
  instanceTypes := #[]
  staticTypes := #[]
  resolved := Array.replicate 12 none
  statics := none }

def pool18 : Array CpInfo := pool [(2, .class_ 4), (1, u "java/lang/CharSequence"), (42, .class_ 48), (0, u "java/lang/CharSequence$1CodePointIterator"), (10, .class_ 60), (0, u "java/lang/CharSequence$1CharIterator"), (5, .class_ 67), (0, u "java/lang/Object")] 63

/-- java/lang/CharSequence -/
def k18 : Class := { plain "java/lang/CharSequence" (some 0) with
  accessFlags := 1537
  interfaces := #[]
  cf := some (fileOf pool18 2 #[.nestMembers #[47, 59]] #[] 1537 66 #[] #[])
  fields := #[]
  methods := #[]
  instanceTypes := #[]
  staticTypes := #[]
  resolved := Array.replicate 131 none
  statics := none }

def pool19 : Array CpInfo := pool [(1, .class_ 2), (0, u "java/lang/constant/Constable"), (0, .class_ 4), (0, u "java/lang/Object")] 6

/-- java/lang/constant/Constable -/
def k19 : Class := { plain "java/lang/constant/Constable" (some 0) with
  accessFlags := 1537
  interfaces := #[]
  cf := some (fileOf pool19 1 #[] #[] 1537 3 #[] #[])
  fields := #[]
  methods := #[]
  instanceTypes := #[]
  staticTypes := #[]
  resolved := Array.replicate 11 none
  statics := none }

def pool20 : Array CpInfo := pool [(1, .class_ 2), (0, u "java/lang/constant/ConstantDesc"), (0, .class_ 4), (0, u "java/lang/Object")] 32

/-- java/lang/constant/ConstantDesc -/
def k20 : Class := { plain "java/lang/constant/ConstantDesc" (some 0) with
  accessFlags := 1537
  interfaces := #[]
  cf := some (fileOf pool20 1 #[] #[] 1537 3 #[] #[])
  fields := #[]
  methods := #[]
  instanceTypes := #[]
  staticTypes := #[]
  resolved := Array.replicate 37 none
  statics := none }

def pool21 : Array CpInfo := pool [(1, .methodref 2 3), (0, .class_ 4), (0, .nameAndType 5 6), (0, u "java/lang/Object"), (0, u "<init>"), (0, u "()V"), (0, .string 8), (0, u ""), (0, .fieldref 10 11), (0, .class_ 12), (0, .nameAndType 13 14), (0, u "java/lang/String"), (0, u "value"), (0, u "[B"), (0, .fieldref 10 16), (0, .nameAndType 17 18), (0, u "coder"), (0, u "B"), (2, u "hash"), (0, u "I"), (2, u "hashIsZero"), (0, u "Z"), (0, .methodref 10 28), (0, .nameAndType 5 29), (0, u "([CIILjava/lang/Void;)V"), (8, .fieldref 10 39), (0, .nameAndType 40 26), (0, u "COMPACT_STRINGS"), (1, .class_ 44), (1, u "java/lang/StringUTF16"), (0, u "compress"), (1, .methodref 42 48), (0, .nameAndType 49 50), (0, u "coderFromArrayLen"), (0, u "([BI)B"), (126, .methodref 42 178), (0, .nameAndType 45 179), (0, u "([CII)[B"), (395, .class_ 576), (0, u "java/lang/CharSequence"), (22, u "CASE_INSENSITIVE_ORDER"), (0, u "Ljava/util/Comparator;"), (409, u "([C)V"), (90, u "serialPersistentFields"), (0, u "[Ljava/io/ObjectStreamField;"), (0, .class_ 1104), (0, u "java/lang/String$CaseInsensitiveComparator"), (1, .class_ 1107), (0, u "java/io/Serializable"), (0, .class_ 1109), (0, u "java/lang/Comparable"), (0, .class_ 1111), (0, u "java/lang/constant/Constable"), (0, .class_ 1113), (0, u "java/lang/constant/ConstantDesc"), (2, u "serialVersionUID"), (0, u "J"), (3, u "REPL"), (0, u "C"), (2, u "LATIN1"), (1, u "UTF16")] 323

def k21m0 : Method := { name := "<init>", desc := "()V", sig := { parameters := [], returnType := none }, accessFlags := 1, code := none }
def k21c1 : Code := { maxStack := 5, maxLocals := 2, code := jdk_42_method_3_code, exceptionTable := #[], attributes := #[] }
def k21m1 : Method := { name := "<init>", desc := "([C)V", sig := { parameters := [(.array .char)], returnType := none }, accessFlags := 1, code := some k21c1 }
def k21c2 : Code := { maxStack := 4, maxLocals := 6, code := jdk_42_method_149_code, exceptionTable := #[], attributes := #[] }
def k21m2 : Method := { name := "<init>", desc := "([CIILjava/lang/Void;)V", sig := { parameters := [(.array .char), .int, .int, (.object "java/lang/Void")], returnType := none }, accessFlags := 2, code := some k21c2 }
/-- java/lang/String -/
def k21 : Class := { plain "java/lang/String" (some 0) with
  accessFlags := 49
  interfaces := #[10, 17, 18, 19, 20]
  cf := some (fileOf pool21 10 #[.nestMembers #[1103]] #[{ accessFlags := 1, nameIndex := 5, descriptorIndex := 6, attributes := #[] }, { accessFlags := 1, nameIndex := 5, descriptorIndex := 1010, attributes := #[] }, { accessFlags := 2, nameIndex := 5, descriptorIndex := 29, attributes := #[] }] 49 2 #[1106, 1108, 575, 1110, 1112] #[{ accessFlags := 18, nameIndex := 13, descriptorIndex := 14, attributes := #[] }, { accessFlags := 18, nameIndex := 17, descriptorIndex := 18, attributes := #[] }, { accessFlags := 2, nameIndex := 21, descriptorIndex := 22, attributes := #[] }, { accessFlags := 2, nameIndex := 25, descriptorIndex := 26, attributes := #[] }, { accessFlags := 26, nameIndex := 1116, descriptorIndex := 1117, attributes := #[] }, { accessFlags := 24, nameIndex := 40, descriptorIndex := 26, attributes := #[] }, { accessFlags := 26, nameIndex := 1101, descriptorIndex := 1102, attributes := #[] }, { accessFlags := 26, nameIndex := 1121, descriptorIndex := 1122, attributes := #[] }, { accessFlags := 25, nameIndex := 599, descriptorIndex := 600, attributes := #[] }, { accessFlags := 24, nameIndex := 1125, descriptorIndex := 18, attributes := #[] }, { accessFlags := 24, nameIndex := 1127, descriptorIndex := 18, attributes := #[] }])
  fields := #[{ name := "value", type := (.array .byte), accessFlags := 18, slot := 0, constantValue := 0 }, { name := "coder", type := .byte, accessFlags := 18, slot := 1, constantValue := 0 }, { name := "hash", type := .int, accessFlags := 2, slot := 2, constantValue := 0 }, { name := "hashIsZero", type := .boolean, accessFlags := 2, slot := 3, constantValue := 0 }, { name := "serialVersionUID", type := .long, accessFlags := 26, slot := 0, constantValue := 0 }, { name := "COMPACT_STRINGS", type := .boolean, accessFlags := 24, slot := 1, constantValue := 0 }, { name := "serialPersistentFields", type := (.array (.object "java/io/ObjectStreamField")), accessFlags := 26, slot := 2, constantValue := 0 }, { name := "REPL", type := .char, accessFlags := 26, slot := 3, constantValue := 0 }, { name := "CASE_INSENSITIVE_ORDER", type := (.object "java/util/Comparator"), accessFlags := 25, slot := 4, constantValue := 0 }, { name := "LATIN1", type := .byte, accessFlags := 24, slot := 5, constantValue := 0 }, { name := "UTF16", type := .byte, accessFlags := 24, slot := 6, constantValue := 0 }]
  methods := #[k21m0, k21m1, k21m2]
  instanceTypes := #[(.array .byte), .byte, .int, .boolean]
  staticTypes := #[.long, .boolean, (.array (.object "java/io/ObjectStreamField")), .char, (.object "java/util/Comparator"), .byte, .byte]
  resolved := Array.replicate 1451 none
  statics := some 2 }

def pool22 : Array CpInfo := pool [(6, .class_ 8), (1, u "java/lang/Object"), (0, u "<init>"), (0, u "()V"), (1, .class_ 14), (1, u "java/lang/StringUTF16"), (31, u "$assertionsDisabled"), (0, u "Z"), (13, u "HI_BYTE_SHIFT"), (0, u "I"), (2, u "LO_BYTE_SHIFT"), (49, .methodref 12 116), (0, .nameAndType 117 118), (0, u "compress"), (0, u "([CI[BII)I"), (3, u "([CII)[B"), (138, u "coderFromArrayLen"), (0, u "([BI)B"), (106, .class_ 371), (1, u "java/lang/StringUTF16$LinesSpliterator"), (58, u "MAX_LENGTH"), (196, .class_ 628), (0, u "java/lang/StringUTF16$CodePointsSpliterator"), (0, .class_ 630), (0, u "java/lang/StringUTF16$CharsSpliterator")] 4

def k22m0 : Method := { name := "<init>", desc := "()V", sig := { parameters := [], returnType := none }, accessFlags := 0, code := none }
def k22c1 : Code := { maxStack := 2, maxLocals := 2, code := jdk_52_method_15_code, exceptionTable := #[], attributes := #[] }
def k22m1 : Method := { name := "coderFromArrayLen", desc := "([BI)B", sig := { parameters := [(.array .byte), .int], returnType := some .byte }, accessFlags := 8, code := some k22c1 }
def k22c2 : Code := { maxStack := 5, maxLocals := 6, code := jdk_52_method_16_code, exceptionTable := #[], attributes := #[] }
def k22m2 : Method := { name := "compress", desc := "([CII)[B", sig := { parameters := [(.array .char), .int, .int], returnType := some (.array .byte) }, accessFlags := 9, code := some k22c2 }
def k22c3 : Code := { maxStack := 3, maxLocals := 7, code := jdk_52_method_21_code, exceptionTable := #[], attributes := #[] }
def k22m3 : Method := { name := "compress", desc := "([CI[BII)I", sig := { parameters := [(.array .char), .int, (.array .byte), .int, .int], returnType := some .int }, accessFlags := 9, code := some k22c3 }
/-- java/lang/StringUTF16 -/
def k22 : Class := { plain "java/lang/StringUTF16" (some 0) with
  accessFlags := 48
  interfaces := #[]
  cf := some (fileOf pool22 12 #[.nestMembers #[627, 629, 369]] #[{ accessFlags := 0, nameIndex := 9, descriptorIndex := 10, attributes := #[] }, { accessFlags := 8, nameIndex := 261, descriptorIndex := 262, attributes := #[] }, { accessFlags := 9, nameIndex := 117, descriptorIndex := 122, attributes := #[] }, { accessFlags := 9, nameIndex := 117, descriptorIndex := 118, attributes := #[] }] 48 6 #[] #[{ accessFlags := 26, nameIndex := 61, descriptorIndex := 62, attributes := #[] }, { accessFlags := 26, nameIndex := 65, descriptorIndex := 62, attributes := #[] }, { accessFlags := 24, nameIndex := 430, descriptorIndex := 62, attributes := #[] }, { accessFlags := 4120, nameIndex := 46, descriptorIndex := 47, attributes := #[] }])
  fields := #[{ name := "HI_BYTE_SHIFT", type := .int, accessFlags := 26, slot := 0, constantValue := 0 }, { name := "LO_BYTE_SHIFT", type := .int, accessFlags := 26, slot := 1, constantValue := 0 }, { name := "MAX_LENGTH", type := .int, accessFlags := 24, slot := 2, constantValue := 0 }, { name := "$assertionsDisabled", type := .boolean, accessFlags := 4120, slot := 3, constantValue := 0 }]
  methods := #[k22m0, k22m1, k22m2, k22m3]
  instanceTypes := #[]
  staticTypes := #[.int, .int, .int, .boolean]
  resolved := Array.replicate 635 none
  statics := none }

def pool23 : Array CpInfo := pool [(4, .class_ 6), (1, u "java/lang/Object"), (0, u "<init>"), (0, u "()V"), (5, .class_ 16), (1, u "java/lang/StringLatin1"), (104, u "$assertionsDisabled"), (0, u "Z"), (98, .class_ 223), (1, u "java/lang/StringLatin1$LinesSpliterator"), (166, .class_ 391), (0, u "java/lang/StringLatin1$CharsSpliterator")] 3

def k23m0 : Method := { name := "<init>", desc := "()V", sig := { parameters := [], returnType := none }, accessFlags := 0, code := none }
/-- java/lang/StringLatin1 -/
def k23 : Class := { plain "java/lang/StringLatin1" (some 0) with
  accessFlags := 48
  interfaces := #[]
  cf := some (fileOf pool23 14 #[.nestMembers #[390, 221]] #[{ accessFlags := 0, nameIndex := 7, descriptorIndex := 8, attributes := #[] }] 48 4 #[] #[{ accessFlags := 4120, nameIndex := 121, descriptorIndex := 122, attributes := #[] }])
  fields := #[{ name := "$assertionsDisabled", type := .boolean, accessFlags := 4120, slot := 0, constantValue := 0 }]
  methods := #[k23m0]
  instanceTypes := #[]
  staticTypes := #[.boolean]
  resolved := Array.replicate 395 none
  statics := none }

def pool24 : Array CpInfo := pool [(2, .class_ 4), (1, u "java/lang/Object"), (0, u "<init>"), (0, u "()V"), (17, .class_ 26), (1, u "jdk/internal/util/Preconditions"), (28, .class_ 56), (0, u "jdk/internal/util/Preconditions$4"), (57, .class_ 115), (0, u "jdk/internal/util/Preconditions$1"), (7, u "SIOOBE_FORMATTER"), (0, u "Ljava/util/function/BiFunction;"), (0, .class_ 126), (0, u "jdk/internal/util/Preconditions$2"), (3, u "AIOOBE_FORMATTER"), (0, .class_ 132), (0, u "jdk/internal/util/Preconditions$3"), (3, u "IOOBE_FORMATTER")] 57

def k24m0 : Method := { name := "<init>", desc := "()V", sig := { parameters := [], returnType := none }, accessFlags := 1, code := none }
/-- jdk/internal/util/Preconditions -/
def k24 : Class := { plain "jdk/internal/util/Preconditions" (some 0) with
  accessFlags := 33
  interfaces := #[]
  cf := some (fileOf pool24 24 #[.nestMembers #[55, 131, 125, 114]] #[{ accessFlags := 1, nameIndex := 5, descriptorIndex := 6, attributes := #[] }] 33 2 #[] #[{ accessFlags := 25, nameIndex := 123, descriptorIndex := 124, attributes := #[] }, { accessFlags := 25, nameIndex := 130, descriptorIndex := 124, attributes := #[] }, { accessFlags := 25, nameIndex := 136, descriptorIndex := 124, attributes := #[] }])
  fields := #[{ name := "SIOOBE_FORMATTER", type := (.object "java/util/function/BiFunction"), accessFlags := 25, slot := 0, constantValue := 0 }, { name := "AIOOBE_FORMATTER", type := (.object "java/util/function/BiFunction"), accessFlags := 25, slot := 1, constantValue := 0 }, { name := "IOOBE_FORMATTER", type := (.object "java/util/function/BiFunction"), accessFlags := 25, slot := 2, constantValue := 0 }]
  methods := #[k24m0]
  instanceTypes := #[]
  staticTypes := #[(.object "java/util/function/BiFunction"), (.object "java/util/function/BiFunction"), (.object "java/util/function/BiFunction")]
  resolved := Array.replicate 194 none
  statics := some 3 }

def pool25 : Array CpInfo := pool [(9, u "<init>"), (6, .class_ 18), (1, u "java/lang/Object"), (0, u "()V"), (1, .class_ 23), (1, u "jdk/internal/util/ArraysSupport"), (0, u "LOG2_ARRAY_LONG_INDEX_SCALE"), (0, u "I"), (2, u "U"), (0, u "Ljdk/internal/misc/Unsafe;"), (8, u "BIG_ENDIAN"), (0, u "Z"), (8, u "LOG2_BYTE_BIT_SIZE"), (4, u "LOG2_ARRAY_INT_INDEX_SCALE"), (54, u "JLA"), (0, u "Ljdk/internal/access/JavaLangAccess;"), (11, u "LOG2_ARRAY_BOOLEAN_INDEX_SCALE"), (9, u "LOG2_ARRAY_BYTE_INDEX_SCALE"), (5, u "LOG2_ARRAY_CHAR_INDEX_SCALE"), (5, u "LOG2_ARRAY_SHORT_INDEX_SCALE"), (18, u "LOG2_ARRAY_FLOAT_INDEX_SCALE"), (24, u "LOG2_ARRAY_DOUBLE_INDEX_SCALE"), (89, u "T_BOOLEAN"), (2, u "T_CHAR"), (1, u "T_FLOAT"), (1, u "T_DOUBLE"), (1, u "T_BYTE"), (1, u "T_SHORT"), (1, u "T_INT"), (1, u "T_LONG"), (1, u "SOFT_MAX_ARRAY_LENGTH")] 83

def k25m0 : Method := { name := "<init>", desc := "()V", sig := { parameters := [], returnType := none }, accessFlags := 2, code := none }
/-- jdk/internal/util/ArraysSupport -/
def k25 : Class := { plain "jdk/internal/util/ArraysSupport" (some 0) with
  accessFlags := 33
  interfaces := #[]
  cf := some (fileOf pool25 21 #[] #[{ accessFlags := 2, nameIndex := 9, descriptorIndex := 19, attributes := #[] }] 33 16 #[] #[{ accessFlags := 24, nameIndex := 28, descriptorIndex := 29, attributes := #[] }, { accessFlags := 26, nameIndex := 38, descriptorIndex := 39, attributes := #[] }, { accessFlags := 25, nameIndex := 121, descriptorIndex := 25, attributes := #[] }, { accessFlags := 25, nameIndex := 131, descriptorIndex := 25, attributes := #[] }, { accessFlags := 25, nameIndex := 137, descriptorIndex := 25, attributes := #[] }, { accessFlags := 25, nameIndex := 143, descriptorIndex := 25, attributes := #[] }, { accessFlags := 25, nameIndex := 53, descriptorIndex := 25, attributes := #[] }, { accessFlags := 25, nameIndex := 24, descriptorIndex := 25, attributes := #[] }, { accessFlags := 25, nameIndex := 162, descriptorIndex := 25, attributes := #[] }, { accessFlags := 25, nameIndex := 187, descriptorIndex := 25, attributes := #[] }, { accessFlags := 26, nameIndex := 48, descriptorIndex := 25, attributes := #[] }, { accessFlags := 25, nameIndex := 277, descriptorIndex := 25, attributes := #[] }, { accessFlags := 25, nameIndex := 280, descriptorIndex := 25, attributes := #[] }, { accessFlags := 25, nameIndex := 282, descriptorIndex := 25, attributes := #[] }, { accessFlags := 25, nameIndex := 284, descriptorIndex := 25, attributes := #[] }, { accessFlags := 25, nameIndex := 286, descriptorIndex := 25, attributes := #[] }, { accessFlags := 25, nameIndex := 288, descriptorIndex := 25, attributes := #[] }, { accessFlags := 25, nameIndex := 290, descriptorIndex := 25, attributes := #[] }, { accessFlags := 25, nameIndex := 292, descriptorIndex := 25, attributes := #[] }, { accessFlags := 26, nameIndex := 108, descriptorIndex := 109, attributes := #[] }, { accessFlags := 25, nameIndex := 294, descriptorIndex := 25, attributes := #[] }])
  fields := #[{ name := "U", type := (.object "jdk/internal/misc/Unsafe"), accessFlags := 24, slot := 0, constantValue := 0 }, { name := "BIG_ENDIAN", type := .boolean, accessFlags := 26, slot := 1, constantValue := 0 }, { name := "LOG2_ARRAY_BOOLEAN_INDEX_SCALE", type := .int, accessFlags := 25, slot := 2, constantValue := 0 }, { name := "LOG2_ARRAY_BYTE_INDEX_SCALE", type := .int, accessFlags := 25, slot := 3, constantValue := 0 }, { name := "LOG2_ARRAY_CHAR_INDEX_SCALE", type := .int, accessFlags := 25, slot := 4, constantValue := 0 }, { name := "LOG2_ARRAY_SHORT_INDEX_SCALE", type := .int, accessFlags := 25, slot := 5, constantValue := 0 }, { name := "LOG2_ARRAY_INT_INDEX_SCALE", type := .int, accessFlags := 25, slot := 6, constantValue := 0 }, { name := "LOG2_ARRAY_LONG_INDEX_SCALE", type := .int, accessFlags := 25, slot := 7, constantValue := 0 }, { name := "LOG2_ARRAY_FLOAT_INDEX_SCALE", type := .int, accessFlags := 25, slot := 8, constantValue := 0 }, { name := "LOG2_ARRAY_DOUBLE_INDEX_SCALE", type := .int, accessFlags := 25, slot := 9, constantValue := 0 }, { name := "LOG2_BYTE_BIT_SIZE", type := .int, accessFlags := 26, slot := 10, constantValue := 0 }, { name := "T_BOOLEAN", type := .int, accessFlags := 25, slot := 11, constantValue := 0 }, { name := "T_CHAR", type := .int, accessFlags := 25, slot := 12, constantValue := 0 }, { name := "T_FLOAT", type := .int, accessFlags := 25, slot := 13, constantValue := 0 }, { name := "T_DOUBLE", type := .int, accessFlags := 25, slot := 14, constantValue := 0 }, { name := "T_BYTE", type := .int, accessFlags := 25, slot := 15, constantValue := 0 }, { name := "T_SHORT", type := .int, accessFlags := 25, slot := 16, constantValue := 0 }, { name := "T_INT", type := .int, accessFlags := 25, slot := 17, constantValue := 0 }, { name := "T_LONG", type := .int, accessFlags := 25, slot := 18, constantValue := 0 }, { name := "JLA", type := (.object "jdk/internal/access/JavaLangAccess"), accessFlags := 26, slot := 19, constantValue := 0 }, { name := "SOFT_MAX_ARRAY_LENGTH", type := .int, accessFlags := 25, slot := 20, constantValue := 0 }]
  methods := #[k25m0]
  instanceTypes := #[]
  staticTypes := #[(.object "jdk/internal/misc/Unsafe"), .boolean, .int, .int, .int, .int, .int, .int, .int, .int, .int, .int, .int, .int, .int, .int, .int, .int, .int, (.object "jdk/internal/access/JavaLangAccess"), .int]
  resolved := Array.replicate 378 none
  statics := none }

def pool26 : Array CpInfo := pool [(2, .class_ 4), (1, u "java/util/AbstractCollection"), (0, u "<init>"), (0, u "()V"), (1, .class_ 10), (1, u "java/util/ImmutableCollections"), (2, .class_ 14), (0, u "java/util/ImmutableCollections$AbstractImmutableCollection")] 41

def k26m0 : Method := { name := "<init>", desc := "()V", sig := { parameters := [], returnType := none }, accessFlags := 0, code := none }
/-- java/util/ImmutableCollections$AbstractImmutableCollection -/
def k26 : Class := { plain "java/util/ImmutableCollections$AbstractImmutableCollection" (some 4) with
  accessFlags := 1056
  interfaces := #[]
  cf := some (fileOf pool26 13 #[.nestHost 8] #[{ accessFlags := 0, nameIndex := 5, descriptorIndex := 6, attributes := #[] }] 1056 2 #[] #[])
  fields := #[]
  methods := #[k26m0]
  instanceTypes := #[]
  staticTypes := #[]
  resolved := Array.replicate 56 none
  statics := none }

def pool27 : Array CpInfo := pool [(2, .class_ 4), (1, u "java/util/ImmutableCollections$AbstractImmutableCollection"), (0, u "<init>"), (0, u "()V"), (0, .class_ 8), (0, u "java/util/Set"), (7, .class_ 17), (0, u "java/util/ImmutableCollections$AbstractImmutableSet"), (43, .class_ 62), (0, u "java/util/ImmutableCollections")] 3

def k27m0 : Method := { name := "<init>", desc := "()V", sig := { parameters := [], returnType := none }, accessFlags := 0, code := none }
/-- java/util/ImmutableCollections$AbstractImmutableSet -/
def k27 : Class := { plain "java/util/ImmutableCollections$AbstractImmutableSet" (some 26) with
  accessFlags := 1056
  interfaces := #[14]
  cf := some (fileOf pool27 16 #[.nestHost 61] #[{ accessFlags := 0, nameIndex := 5, descriptorIndex := 6, attributes := #[] }] 1056 2 #[7] #[])
  fields := #[]
  methods := #[k27m0]
  instanceTypes := #[]
  staticTypes := #[]
  resolved := Array.replicate 66 none
  statics := none }

def pool28 : Array CpInfo := pool [(1, .class_ 2), (0, u "java/util/ImmutableCollections"), (1, .class_ 6), (1, u "java/util/ImmutableCollections$AbstractImmutableSet"), (3, .class_ 12), (1, u "java/util/ImmutableCollections$SetN"), (0, u "size"), (0, u "I"), (4, u "elements"), (0, u "[Ljava/lang/Object;"), (86, .class_ 108), (0, u "java/io/Serializable")] 59

/-- java/util/ImmutableCollections$SetN -/
def k28 : Class := { plain "java/util/ImmutableCollections$SetN" (some 27) with
  accessFlags := 48
  interfaces := #[10]
  cf := some (fileOf pool28 10 #[.nestHost 1] #[] 48 4 #[107] #[{ accessFlags := 16, nameIndex := 19, descriptorIndex := 20, attributes := #[] }, { accessFlags := 16, nameIndex := 13, descriptorIndex := 14, attributes := #[] }])
  fields := #[{ name := "elements", type := (.array (.object "java/lang/Object")), accessFlags := 16, slot := 0, constantValue := 0 }, { name := "size", type := .int, accessFlags := 16, slot := 1, constantValue := 0 }]
  methods := #[]
  instanceTypes := #[(.array (.object "java/lang/Object")), .int]
  staticTypes := #[]
  resolved := Array.replicate 168 none
  statics := none }

def pool29 : Array CpInfo := pool [(2, .class_ 4), (1, u "java/lang/Object"), (0, u "<init>"), (0, u "()V"), (1, .class_ 10), (1, u "java/util/AbstractMap"), (42, .class_ 54), (0, u "java/util/Map"), (9, u "keySet"), (0, u "Ljava/util/Set;"), (0, .class_ 67), (0, u "java/util/AbstractMap$1"), (5, u "values"), (0, u "Ljava/util/Collection;"), (0, .class_ 76), (0, u "java/util/AbstractMap$2"), (104, .class_ 182), (0, u "java/util/AbstractMap$ViewCollection"), (0, .class_ 184), (0, u "java/util/AbstractMap$SimpleImmutableEntry"), (0, .class_ 186), (0, u "java/util/AbstractMap$SimpleEntry"), (0, .class_ 188), (0, u "java/util/AbstractMap$2$1"), (0, .class_ 190), (0, u "java/util/AbstractMap$1$1")] 5

def k29m0 : Method := { name := "<init>", desc := "()V", sig := { parameters := [], returnType := none }, accessFlags := 4, code := none }
/-- java/util/AbstractMap -/
def k29 : Class := { plain "java/util/AbstractMap" (some 0) with
  accessFlags := 1057
  interfaces := #[16]
  cf := some (fileOf pool29 8 #[.nestMembers #[181, 183, 185, 75, 187, 66, 189]] #[{ accessFlags := 4, nameIndex := 5, descriptorIndex := 6, attributes := #[] }] 1057 2 #[53] #[{ accessFlags := 128, nameIndex := 64, descriptorIndex := 65, attributes := #[] }, { accessFlags := 128, nameIndex := 73, descriptorIndex := 74, attributes := #[] }])
  fields := #[{ name := "keySet", type := (.object "java/util/Set"), accessFlags := 128, slot := 0, constantValue := 0 }, { name := "values", type := (.object "java/util/Collection"), accessFlags := 128, slot := 1, constantValue := 0 }]
  methods := #[k29m0]
  instanceTypes := #[(.object "java/util/Set"), (.object "java/util/Collection")]
  staticTypes := #[]
  resolved := Array.replicate 196 none
  statics := none }

def pool30 : Array CpInfo := pool [(2, .class_ 4), (1, u "java/util/AbstractMap"), (0, u "<init>"), (0, u "()V"), (1, .class_ 10), (1, u "java/util/ImmutableCollections"), (3, .class_ 16), (1, u "java/util/ImmutableCollections$AbstractImmutableMap"), (2, .class_ 20), (0, u "java/io/Serializable")] 66

def k30m0 : Method := { name := "<init>", desc := "()V", sig := { parameters := [], returnType := none }, accessFlags := 0, code := none }
/-- java/util/ImmutableCollections$AbstractImmutableMap -/
def k30 : Class := { plain "java/util/ImmutableCollections$AbstractImmutableMap" (some 29) with
  accessFlags := 1056
  interfaces := #[10]
  cf := some (fileOf pool30 14 #[.nestHost 8] #[{ accessFlags := 0, nameIndex := 5, descriptorIndex := 6, attributes := #[] }] 1056 2 #[19] #[])
  fields := #[]
  methods := #[k30m0]
  instanceTypes := #[(.object "java/util/Set"), (.object "java/util/Collection")]
  staticTypes := #[]
  resolved := Array.replicate 87 none
  statics := none }

def pool31 : Array CpInfo := pool [(1, .class_ 2), (0, u "java/util/ImmutableCollections"), (1, .class_ 6), (1, u "java/util/ImmutableCollections$AbstractImmutableMap"), (10, .class_ 19), (1, u "java/util/ImmutableCollections$MapN"), (0, u "size"), (0, u "I"), (4, u "table"), (0, u "[Ljava/lang/Object;")] 121

/-- java/util/ImmutableCollections$MapN -/
def k31 : Class := { plain "java/util/ImmutableCollections$MapN" (some 30) with
  accessFlags := 48
  interfaces := #[]
  cf := some (fileOf pool31 17 #[.nestHost 1] #[] 48 4 #[] #[{ accessFlags := 16, nameIndex := 26, descriptorIndex := 27, attributes := #[] }, { accessFlags := 16, nameIndex := 20, descriptorIndex := 21, attributes := #[] }])
  fields := #[{ name := "table", type := (.array (.object "java/lang/Object")), accessFlags := 16, slot := 2, constantValue := 0 }, { name := "size", type := .int, accessFlags := 16, slot := 3, constantValue := 0 }]
  methods := #[]
  instanceTypes := #[(.object "java/util/Set"), (.object "java/util/Collection"), (.array (.object "java/lang/Object")), .int]
  staticTypes := #[]
  resolved := Array.replicate 149 none
  statics := none }

/-- the primitive byte -/
def k32 : Class := { plain "byte" none with kind := .primitive 'B', accessFlags := 0x411 }
/-- [B -/
def k33 : Class := { plain "[B" (some 0) with kind := .array 32 .byte, interfaces := #[9, 10], accessFlags := 1041 }

/-- the primitive char -/
def k34 : Class := { plain "char" none with kind := .primitive 'C', accessFlags := 0x411 }
/-- [C -/
def k35 : Class := { plain "[C" (some 0) with kind := .array 34 .char, interfaces := #[9, 10], accessFlags := 1041 }

/-- the primitive int -/
def k36 : Class := { plain "int" none with kind := .primitive 'I', accessFlags := 0x411 }
/-- [I -/
def k37 : Class := { plain "[I" (some 0) with kind := .array 36 .int, interfaces := #[9, 10], accessFlags := 1041 }

/-- [Ljava/lang/Object; -/
def k38 : Class := { plain "[Ljava/lang/Object;" (some 0) with kind := .array 0 (.object "java/lang/Object"), interfaces := #[9, 10], accessFlags := 1041 }

def heap : Heap := #[{ cls := 11, slots := #[.long 0, .int 0, .ref 7, .ref 8], vm := .statics 11 },
  { cls := 15, slots := #[.long 0, .int 0, .null, .null, .null, .null, .ref 5, .ref 6, .int 0, .int 0], vm := .statics 15 },
  { cls := 21, slots := #[.long 0, .int 1, .null, .int 0, .null, .int 0, .int 0], vm := .statics 21 },
  { cls := 24, slots := #[.null, .null, .null], vm := .statics 24 },
  { cls := 38, slots := #[], vm := .none },
  { cls := 28, slots := #[.ref 4, .int 0], vm := .none },
  { cls := 31, slots := #[.null, .null, .ref 4, .int 0], vm := .none },
  { cls := 38, slots := #[], vm := .none },
  { cls := 38, slots := #[], vm := .none }]
def classes : Array Class := #[k0, k1, k2, k3, k4, k5, k6, k7, k8, k9, k10, k11, k12, k13, k14, k15, k16, k17, k18, k19, k20, k21, k22, k23, k24, k25, k26, k27, k28, k29, k30, k31, k32, k33, k34, k35, k36, k37, k38]
def interned : List (Array UInt16 × Addr) := []
def slotsUsed : Nat := 30
def theMethod : MethodId := ⟨1, 1⟩
def args0 : Array Value := #[.int 1, .int 5, .int 7]
def aboutOver (below : List Frame) : State where
  vm := { classes := classes, interned := interned.toArray }
  heap := heap
  slotsUsed := slotsUsed
  threads := #[{ frames := .invoking theMethod args0 :: below }]
def below0 : List Frame := [.native { method := ⟨0, 0⟩, args := #[] }]
def about1 : State := aboutOver below0
def p0 : Program := .bare "" "" ""
def e0 : Env := launch0.env 0 0 0
theorem w_frames : about1.frames = Frame.invoking theMethod args0 :: below0 := rfl
set_option maxRecDepth 65536 in
theorem w_args : argsFit about1.vm theMethod args0 = true := by decide +kernel
set_option maxRecDepth 65536 in
theorem w_heap : heapFits about1 = true := by decide +kernel
set_option maxRecDepth 65536 in
theorem w_runnable : about1.curStatus? = some .runnable := by decide +kernel
set_option maxRecDepth 65536 in
theorem w_alone : about1.alone = true := by decide +kernel
set_option maxRecDepth 65536 in
theorem w_named : about1.methodNamed? x = some theMethod := by decide +kernel
set_option maxRecDepth 65536 in
theorem w_hears : about1.hears theMethod below0 = true := by decide +kernel
set_option maxRecDepth 65536 in
theorem w_ripe : about1.ripe theMethod args0 below0 = true := by decide +kernel
theorem w_running : about1.status = .running := rfl
set_option maxRecDepth 65536 in
theorem w_room : about1.hasRoom e0.platform room_1 = true :=
  launch0.hasRoom_least _ room_1 (by decide +kernel) (by decide +kernel) (by decide +kernel) (by decide +kernel) (by decide +kernel) (by decide +kernel)
theorem allAtoms_all (ts : List Jvm.Cond) (a : Array Jvm.Value) (st : Jvm.State) : (allAtoms ts).before a st = ts.all (fun c => c.before a st) := by
  induction ts with
  | nil => rfl
  | cons c t ih =>
    show (Jvm.Cond.and c (allAtoms t)).before a st = _
    rw [Jvm.Cond.before_and, ih, List.all_cons]
def words1 : List Jvm.Cond := Jvm.Cond.code x code maxLocals ret :: tables_1
/-- a 'code' word, met by the world's own term for the bytes: nothing is compared byte by byte -/
theorem code_word {y : MethodName} {bytes : ByteArray} {mx : Nat} {rt : Option FieldType} {a : Array Value} {s : State} {m : MethodId} {meth : Method} {c : Code} (h1 : s.methodNamed? y = some m) (h2 : s.vm.method? m = some meth) (h3 : meth.code = some c) (h4 : c.code = bytes)
    (h5 : (c.maxLocals == mx && c.exceptionTable.isEmpty && decide (c.maxStack ≤ mostOperands) && decide (meth.sig.returnType = rt) && !meth.locks && decide (parseMethodDescriptor y.desc = some meth.sig)) = true) : (Jvm.Cond.code y bytes mx rt).before a s = true := by
  simp only [Bool.and_eq_true, beq_iff_eq, Bool.not_eq_true', decide_eq_true_eq] at h5
  obtain ⟨⟨⟨⟨⟨g1, g2⟩, g3⟩, g4⟩, g5⟩, g6⟩ := h5
  simp [Cond.before, Cond.holds, Cond.value, h1, h2, h3, h4, g1, g2, g3, g4, g5, g6]
def isCode : Jvm.Cond → Bool
  | .code _ _ _ _ => true
  | _ => false
theorem all_split {L : List Jvm.Cond} {P : Jvm.Cond → Bool} (h1 : L.all (fun c => isCode c || P c) = true) (h2 : ∀ c ∈ L.filter isCode, P c = true) : L.all P = true := by
  refine List.all_eq_true.mpr fun c hc => ?_
  have h := List.all_eq_true.mp h1 c hc
  rcases Bool.eq_false_or_eq_true (isCode c) with hi | hi
  · exact h2 c (List.mem_filter.mpr ⟨hc, hi⟩)
  · simpa [hi] using h
set_option maxRecDepth 65536 in
theorem w_c0 : (Jvm.Cond.code x code maxLocals ret).before args0 about1 = true := code_word (m := ⟨1, 1⟩) (meth := k1m1) (c := k1c1) (by decide +kernel) rfl rfl rfl (by decide +kernel)
set_option maxRecDepth 65536 in
theorem w_c1 : (Jvm.Cond.code ({ cls := "java/util/ArrayList", name := "<init>", desc := "()V" } : Jvm.MethodName) jdk_38_method_2_code (1 : Nat) (Option.none : Option Jvm.ClassFile.FieldType)).before args0 about1 = true := code_word (m := ⟨11, 0⟩) (meth := k11m0) (c := k11c0) (by decide +kernel) rfl rfl rfl (by decide +kernel)
set_option maxRecDepth 65536 in
theorem w_c2 : (Jvm.Cond.code ({ cls := "java/util/AbstractList", name := "<init>", desc := "()V" } : Jvm.MethodName) jdk_39_method_1_code (1 : Nat) (Option.none : Option Jvm.ClassFile.FieldType)).before args0 about1 = true := code_word (m := ⟨7, 0⟩) (meth := k7m0) (c := k7c0) (by decide +kernel) rfl rfl rfl (by decide +kernel)
set_option maxRecDepth 65536 in
theorem w_c3 : (Jvm.Cond.code ({ cls := "java/util/AbstractCollection", name := "<init>", desc := "()V" } : Jvm.MethodName) jdk_22_method_1_code (1 : Nat) (Option.none : Option Jvm.ClassFile.FieldType)).before args0 about1 = true := code_word (m := ⟨4, 0⟩) (meth := k4m0) (c := k4c0) (by decide +kernel) rfl rfl rfl (by decide +kernel)
set_option maxRecDepth 65536 in
theorem w_c4 : (Jvm.Cond.code ({ cls := "java/lang/Object", name := "<init>", desc := "()V" } : Jvm.MethodName) object_method_1_code (1 : Nat) (Option.none : Option Jvm.ClassFile.FieldType)).before args0 about1 = true := code_word (m := ⟨0, 0⟩) (meth := k0m0) (c := k0c0) (by decide +kernel) rfl rfl rfl (by decide +kernel)
set_option maxRecDepth 65536 in
theorem w_c5 : (Jvm.Cond.code ({ cls := "com/example/outcomist/outcomist/Catalogue$Proxy", name := "<init>", desc := "(Ljava/lang/String;Ljava/util/List;Ljava/util/Set;Ljava/util/Map;Ljava/util/Set;)V" } : Jvm.MethodName) prog_7_method_1_code (6 : Nat) (Option.none : Option Jvm.ClassFile.FieldType)).before args0 about1 = true := code_word (m := ⟨13, 0⟩) (meth := k13m0) (c := k13c0) (by decide +kernel) rfl rfl rfl (by decide +kernel)
set_option maxRecDepth 65536 in
theorem w_c6 : (Jvm.Cond.code ({ cls := "java/lang/Record", name := "<init>", desc := "()V" } : Jvm.MethodName) jdk_30_method_1_code (1 : Nat) (Option.none : Option Jvm.ClassFile.FieldType)).before args0 about1 = true := code_word (m := ⟨12, 0⟩) (meth := k12m0) (c := k12c0) (by decide +kernel) rfl rfl rfl (by decide +kernel)
set_option maxRecDepth 65536 in
theorem w_c7 : (Jvm.Cond.code ({ cls := "com/example/outcomist/outcomist/Catalogue$Proxy", name := "coded", desc := "()Z" } : Jvm.MethodName) prog_7_method_3_code (1 : Nat) (Option.some Jvm.ClassFile.FieldType.boolean)).before args0 about1 = true := code_word (m := ⟨13, 2⟩) (meth := k13m2) (c := k13c2) (by decide +kernel) rfl rfl rfl (by decide +kernel)
set_option maxRecDepth 65536 in
theorem w_c8 : (Jvm.Cond.code ({ cls := "com/example/outcomist/outcomist/Catalogue$Proxy", name := "withoutCoding", desc := "(Ljava/util/List;)Lcom/example/outcomist/outcomist/Catalogue$Proxy;" } : Jvm.MethodName) prog_7_method_2_code (1 : Nat) (Option.some (Jvm.ClassFile.FieldType.object "com/example/outcomist/outcomist/Catalogue$Proxy"))).before args0 about1 = true := code_word (m := ⟨13, 1⟩) (meth := k13m1) (c := k13c1) (by decide +kernel) rfl rfl rfl (by decide +kernel)
set_option maxRecDepth 65536 in
theorem w_c9 : (Jvm.Cond.code ({ cls := "java/util/Set", name := "of", desc := "()Ljava/util/Set;" } : Jvm.MethodName) jdk_96_method_17_code (0 : Nat) (Option.some (Jvm.ClassFile.FieldType.object "java/util/Set"))).before args0 about1 = true := code_word (m := ⟨14, 0⟩) (meth := k14m0) (c := k14c0) (by decide +kernel) rfl rfl rfl (by decide +kernel)
set_option maxRecDepth 65536 in
theorem w_c10 : (Jvm.Cond.code ({ cls := "java/util/Map", name := "of", desc := "()Ljava/util/Map;" } : Jvm.MethodName) jdk_72_method_26_code (0 : Nat) (Option.some (Jvm.ClassFile.FieldType.object "java/util/Map"))).before args0 about1 = true := code_word (m := ⟨16, 0⟩) (meth := k16m0) (c := k16c0) (by decide +kernel) rfl rfl rfl (by decide +kernel)
set_option maxRecDepth 65536 in
theorem w_c11 : (Jvm.Cond.code ({ cls := "java/lang/String", name := "<init>", desc := "([C)V" } : Jvm.MethodName) jdk_42_method_3_code (2 : Nat) (Option.none : Option Jvm.ClassFile.FieldType)).before args0 about1 = true := code_word (m := ⟨21, 1⟩) (meth := k21m1) (c := k21c1) (by decide +kernel) rfl rfl rfl (by decide +kernel)
set_option maxRecDepth 65536 in
theorem w_c12 : (Jvm.Cond.code ({ cls := "java/lang/String", name := "<init>", desc := "([CIILjava/lang/Void;)V" } : Jvm.MethodName) jdk_42_method_149_code (6 : Nat) (Option.none : Option Jvm.ClassFile.FieldType)).before args0 about1 = true := code_word (m := ⟨21, 2⟩) (meth := k21m2) (c := k21c2) (by decide +kernel) rfl rfl rfl (by decide +kernel)
set_option maxRecDepth 65536 in
theorem w_c13 : (Jvm.Cond.code ({ cls := "java/lang/StringUTF16", name := "compress", desc := "([CII)[B" } : Jvm.MethodName) jdk_52_method_16_code (6 : Nat) (Option.some (Jvm.ClassFile.FieldType.array Jvm.ClassFile.FieldType.byte))).before args0 about1 = true := code_word (m := ⟨22, 2⟩) (meth := k22m2) (c := k22c2) (by decide +kernel) rfl rfl rfl (by decide +kernel)
set_option maxRecDepth 65536 in
theorem w_c14 : (Jvm.Cond.code ({ cls := "java/lang/StringUTF16", name := "compress", desc := "([CI[BII)I" } : Jvm.MethodName) jdk_52_method_21_code (7 : Nat) (Option.some Jvm.ClassFile.FieldType.int)).before args0 about1 = true := code_word (m := ⟨22, 3⟩) (meth := k22m3) (c := k22c3) (by decide +kernel) rfl rfl rfl (by decide +kernel)
set_option maxRecDepth 65536 in
theorem w_c15 : (Jvm.Cond.code ({ cls := "java/lang/StringUTF16", name := "coderFromArrayLen", desc := "([BI)B" } : Jvm.MethodName) jdk_52_method_15_code (2 : Nat) (Option.some Jvm.ClassFile.FieldType.byte)).before args0 about1 = true := code_word (m := ⟨22, 1⟩) (meth := k22m1) (c := k22c1) (by decide +kernel) rfl rfl rfl (by decide +kernel)
def codes1 : List Jvm.Cond := [Jvm.Cond.code x code maxLocals ret, Jvm.Cond.code ({ cls := "java/util/ArrayList", name := "<init>", desc := "()V" } : Jvm.MethodName) jdk_38_method_2_code (1 : Nat) (Option.none : Option Jvm.ClassFile.FieldType), Jvm.Cond.code ({ cls := "java/util/AbstractList", name := "<init>", desc := "()V" } : Jvm.MethodName) jdk_39_method_1_code (1 : Nat) (Option.none : Option Jvm.ClassFile.FieldType), Jvm.Cond.code ({ cls := "java/util/AbstractCollection", name := "<init>", desc := "()V" } : Jvm.MethodName) jdk_22_method_1_code (1 : Nat) (Option.none : Option Jvm.ClassFile.FieldType), Jvm.Cond.code ({ cls := "java/lang/Object", name := "<init>", desc := "()V" } : Jvm.MethodName) object_method_1_code (1 : Nat) (Option.none : Option Jvm.ClassFile.FieldType), Jvm.Cond.code ({ cls := "com/example/outcomist/outcomist/Catalogue$Proxy", name := "<init>", desc := "(Ljava/lang/String;Ljava/util/List;Ljava/util/Set;Ljava/util/Map;Ljava/util/Set;)V" } : Jvm.MethodName) prog_7_method_1_code (6 : Nat) (Option.none : Option Jvm.ClassFile.FieldType), Jvm.Cond.code ({ cls := "java/lang/Record", name := "<init>", desc := "()V" } : Jvm.MethodName) jdk_30_method_1_code (1 : Nat) (Option.none : Option Jvm.ClassFile.FieldType), Jvm.Cond.code ({ cls := "com/example/outcomist/outcomist/Catalogue$Proxy", name := "coded", desc := "()Z" } : Jvm.MethodName) prog_7_method_3_code (1 : Nat) (Option.some Jvm.ClassFile.FieldType.boolean), Jvm.Cond.code ({ cls := "com/example/outcomist/outcomist/Catalogue$Proxy", name := "withoutCoding", desc := "(Ljava/util/List;)Lcom/example/outcomist/outcomist/Catalogue$Proxy;" } : Jvm.MethodName) prog_7_method_2_code (1 : Nat) (Option.some (Jvm.ClassFile.FieldType.object "com/example/outcomist/outcomist/Catalogue$Proxy")), Jvm.Cond.code ({ cls := "java/util/Set", name := "of", desc := "()Ljava/util/Set;" } : Jvm.MethodName) jdk_96_method_17_code (0 : Nat) (Option.some (Jvm.ClassFile.FieldType.object "java/util/Set")), Jvm.Cond.code ({ cls := "java/util/Map", name := "of", desc := "()Ljava/util/Map;" } : Jvm.MethodName) jdk_72_method_26_code (0 : Nat) (Option.some (Jvm.ClassFile.FieldType.object "java/util/Map")), Jvm.Cond.code ({ cls := "java/lang/String", name := "<init>", desc := "([C)V" } : Jvm.MethodName) jdk_42_method_3_code (2 : Nat) (Option.none : Option Jvm.ClassFile.FieldType), Jvm.Cond.code ({ cls := "java/lang/String", name := "<init>", desc := "([CIILjava/lang/Void;)V" } : Jvm.MethodName) jdk_42_method_149_code (6 : Nat) (Option.none : Option Jvm.ClassFile.FieldType), Jvm.Cond.code ({ cls := "java/lang/StringUTF16", name := "compress", desc := "([CII)[B" } : Jvm.MethodName) jdk_52_method_16_code (6 : Nat) (Option.some (Jvm.ClassFile.FieldType.array Jvm.ClassFile.FieldType.byte)), Jvm.Cond.code ({ cls := "java/lang/StringUTF16", name := "compress", desc := "([CI[BII)I" } : Jvm.MethodName) jdk_52_method_21_code (7 : Nat) (Option.some Jvm.ClassFile.FieldType.int), Jvm.Cond.code ({ cls := "java/lang/StringUTF16", name := "coderFromArrayLen", desc := "([BI)B" } : Jvm.MethodName) jdk_52_method_15_code (2 : Nat) (Option.some Jvm.ClassFile.FieldType.byte)]
set_option maxRecDepth 65536 in
theorem codes_eq : words1.filter isCode = codes1 := rfl
theorem w_codes : ∀ c ∈ words1.filter isCode, c.before args0 about1 = true := by
  rw [codes_eq]
  intro c hc
  simp only [codes1, List.mem_cons, List.not_mem_nil, or_false] at hc
  rcases hc with rfl | rfl | rfl | rfl | rfl | rfl | rfl | rfl | rfl | rfl | rfl | rfl | rfl | rfl | rfl | rfl
  · exact w_c0
  · exact w_c1
  · exact w_c2
  · exact w_c3
  · exact w_c4
  · exact w_c5
  · exact w_c6
  · exact w_c7
  · exact w_c8
  · exact w_c9
  · exact w_c10
  · exact w_c11
  · exact w_c12
  · exact w_c13
  · exact w_c14
  · exact w_c15
set_option maxRecDepth 65536 in
theorem w_t1 : (words1.take 24).all (fun c => isCode c || c.before args0 about1) = true := by decide +kernel
set_option maxRecDepth 65536 in
theorem w_t2 : ((words1.drop 24).take 24).all (fun c => isCode c || c.before args0 about1) = true := by decide +kernel
set_option maxRecDepth 65536 in
theorem w_t3 : (((words1.drop 24).drop 24).take 24).all (fun c => isCode c || c.before args0 about1) = true := by decide +kernel
set_option maxRecDepth 65536 in
theorem w_t4 : ((((words1.drop 24).drop 24).drop 24).take 24).all (fun c => isCode c || c.before args0 about1) = true := by decide +kernel
set_option maxRecDepth 65536 in
theorem w_t5 : ((((words1.drop 24).drop 24).drop 24).drop 24).all (fun c => isCode c || c.before args0 about1) = true := by decide +kernel
theorem w_tables : (allAtoms (Jvm.Cond.code x code maxLocals ret :: tables_1)).before args0 about1 = true := by
  rw [allAtoms_all]
  show words1.all (fun c => c.before args0 about1) = true
  refine all_split ?_ w_codes
  rw [← List.take_append_drop 24 words1, List.all_append, w_t1, ← List.take_append_drop 24 (words1.drop 24), List.all_append, w_t2, ← List.take_append_drop 24 ((words1.drop 24).drop 24), List.all_append, w_t3, ← List.take_append_drop 24 (((words1.drop 24).drop 24).drop 24), List.all_append, w_t4, w_t5]
  rfl
set_option maxRecDepth 65536 in
theorem w_rest : rest_1_c.before args0 about1 = true := by decide +kernel
set_option maxRecDepth 65536 in
theorem w_case : (Jvm.Cond.and given_1 narrow_1).before args0 about1 = true := by decide +kernel
set_option maxRecDepth 65536 in
theorem w_consts : constsHeld consts_1 about1 := Jvm.Lit.constsHeldB_iff.mp (by decide +kernel)
theorem w_applies : (headSpec (Jvm.Cond.code x code maxLocals ret :: tables_1) room_1).applies x e0.platform about1 = true :=
  (Spec.applies_iff w_frames).mpr ⟨w_running, w_runnable, w_alone, w_named, w_hears, w_ripe, w_room, w_tables⟩
theorem atStart : AtStart classFile x code maxLocals ret World_1 tables_1 room_1 Calls_1 rest_1 Pre_1 launch0 p0 e0 about1 theMethod args0 below0 :=
  ⟨lists_1, trivial, launch0.admits_env _ _ _, launch0.least_env, fairChoices_fair.cas, fairChoices_fair.clock, w_frames, w_args, w_heap, w_applies, ⟨w_consts, trivial⟩, w_rest, w_case⟩
end start1
theorem witness_1 : WitnessClaimed_1 := ⟨start1.p0, start1.e0, start1.about1, start1.theMethod, start1.args0, start1.below0, start1.atStart⟩
end Jvm.Pilot.@@N@@
