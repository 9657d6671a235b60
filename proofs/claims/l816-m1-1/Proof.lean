import JvmDerived
import JvmDerived.Pilot.@@N@@Statement
import JvmDerived.Pilot.@@N@@Code
set_option linter.unusedVariables false
set_option linter.unusedSimpArgs false
namespace Jvm.RoadKit
open Sem ClassFile Op Lib Jvm.Stand Jvm.Free Jvm.LawKit
section New
variable {p : Program} {l : Launch} {e : Env} {R : Room} {s : State} {m : MethodId} {args : Array Value} {below : List Frame} {meth : Method} {c : Code} {T : State} {locs : List Loc} {cells slots : Nat}
theorem retI (X : Stand p l e R s m args below meth c T locs cells slots) (hx : p.tables.exec = Jvm.exec) {pc : Nat} {Ls : Array Slot} {z : Int32} {rest : List Value} (hret : meth.sig.returnType = some .int) (hd : decode c.code pc = .ok (.ireturn, 1)) {fs : List Frame}
    (hl : ∀ (f : JFrame) (acts : List Action), f.method = m → f.locked = none → f.entered = [] → (doReturn e (T.setTop f) acts (some (.int z))).1 = T.setFrames fs) : Steps p.tables e below (T.setTop (mkF m pc Ls (.int z :: rest))) (T.setFrames fs) := by
  have hm' : T.vm.method? m = some meth := X.method'
  have hn : narrow .int (.int z) = .int z := rfl
  show Steps p.tables e below (T.setTop { method := m, pc := pc, locals := Ls, stack := _ :: rest, locked := none }) _
  jvm_step X.here [X.here.top, hx, hd, hm', hret, hn]
  first | (intro acts; rw [hl _ acts rfl rfl rfl]) | rw [hl _ _ rfl rfl rfl]
  exact Steps.refl _
end New
end Jvm.RoadKit
namespace Jvm.Pilot.@@N@@
open Jvm Jvm.ClassFile Sem Op Lib Jvm.Free Jvm.Stand Jvm.LawKit Jvm.RoadKit Bundle Jvm.Pilot.@@N@@.Jvm.D
theorem own_pd0 : parseMethodDescriptor "()V" = some ⟨[], none⟩ := by decide +kernel
theorem own_pd1 : parseMethodDescriptor "(I)V" = some ⟨[.int], none⟩ := by decide +kernel
theorem own_pd2 : parseMethodDescriptor "()Z" = some ⟨[], some .boolean⟩ := by decide +kernel
theorem own_pd3 : parseMethodDescriptor "(I)Z" = some ⟨[.int], some .boolean⟩ := by decide +kernel
theorem own_n1 (w1 : Int32) (a0 : w1 < (45 : Int32)) : ¬ (45 ≤ w1.toInt ∧ w1.toInt ≤ 61) := by
  have c0 := Int32.lt_iff_toInt_lt.mp a0
  have nf1 := rng32 w1
  have nf2 : (45 : Int32).toInt = 45 := by decide
  omega
theorem own_n2 (w1 : Int32) (a0 : ¬ (w1 < (45 : Int32))) (a1 : (61 : Int32) < w1) : ¬ (45 ≤ w1.toInt ∧ w1.toInt ≤ 61) := by
  have c0 : ¬ (w1.toInt < (45 : Int32).toInt) := fun q => a0 (Int32.lt_iff_toInt_lt.mpr q)
  have c1 := Int32.lt_iff_toInt_lt.mp a1
  have nf1 := rng32 w1
  have nf2 : (45 : Int32).toInt = 45 := by decide
  have nf3 : (61 : Int32).toInt = 61 := by decide
  omega
theorem own_n3 (w1 : Int32) (a0 : ¬ (w1 < (45 : Int32))) (a1 : ¬ ((61 : Int32) < w1)) : (45 ≤ w1.toInt ∧ w1.toInt ≤ 61) := by
  have c0 : ¬ (w1.toInt < (45 : Int32).toInt) := fun q => a0 (Int32.lt_iff_toInt_lt.mpr q)
  have c1 : ¬ ((61 : Int32).toInt < w1.toInt) := fun q => a1 (Int32.lt_iff_toInt_lt.mpr q)
  have nf1 := rng32 w1
  have nf2 : (45 : Int32).toInt = 45 := by decide
  have nf3 : (61 : Int32).toInt = 61 := by decide
  omega
theorem own_n4 (p1 : Int32) (a0 : (lcmpW ((p1.toInt64) - (45 : Int64)) (0 : Int64)) < (0 : Int32)) : ¬ (45 ≤ p1.toInt ∧ p1.toInt ≤ 61) := by
  have c0 := Int32.lt_iff_toInt_lt.mp a0
  have nf1 := rng32 p1
  have nr2 := rng64 (p1.toInt64)
  have nf2 := c_i2l p1
  have nf3 : (45 : Int64).toInt = 45 := by decide
  have nr4 := rng64 ((p1.toInt64) - (45 : Int64))
  have nf4 := c_lsub (p1.toInt64) (45 : Int64)
  have nf5 : (0 : Int64).toInt = 0 := by decide
  have nf6 := c_lcmp ((p1.toInt64) - (45 : Int64)) (0 : Int64)
  have nf7 : (0 : Int32).toInt = 0 := by decide
  omega
theorem own_n5 (p1 : Int32) (a0 : ¬ ((lcmpW ((p1.toInt64) - (45 : Int64)) (0 : Int64)) < (0 : Int32))) (a1 : (lcmpW ((p1.toInt64) - (45 : Int64)) (17 : Int64)) < (0 : Int32)) : (45 ≤ p1.toInt ∧ p1.toInt ≤ 61) := by
  have c0 : ¬ ((lcmpW ((p1.toInt64) - (45 : Int64)) (0 : Int64)).toInt < (0 : Int32).toInt) := fun q => a0 (Int32.lt_iff_toInt_lt.mpr q)
  have c1 := Int32.lt_iff_toInt_lt.mp a1
  have nf1 := rng32 p1
  have nr2 := rng64 (p1.toInt64)
  have nf2 := c_i2l p1
  have nf3 : (45 : Int64).toInt = 45 := by decide
  have nr4 := rng64 ((p1.toInt64) - (45 : Int64))
  have nf4 := c_lsub (p1.toInt64) (45 : Int64)
  have nf5 : (0 : Int64).toInt = 0 := by decide
  have nf6 := c_lcmp ((p1.toInt64) - (45 : Int64)) (0 : Int64)
  have nf7 : (0 : Int32).toInt = 0 := by decide
  have nf8 : (17 : Int64).toInt = 17 := by decide
  have nf9 := c_lcmp ((p1.toInt64) - (45 : Int64)) (17 : Int64)
  omega
theorem own_n6 (p1 : Int32) (a0 : ¬ ((lcmpW ((p1.toInt64) - (45 : Int64)) (0 : Int64)) < (0 : Int32))) (a1 : ¬ ((lcmpW ((p1.toInt64) - (45 : Int64)) (17 : Int64)) < (0 : Int32))) : ¬ (45 ≤ p1.toInt ∧ p1.toInt ≤ 61) := by
  have c0 : ¬ ((lcmpW ((p1.toInt64) - (45 : Int64)) (0 : Int64)).toInt < (0 : Int32).toInt) := fun q => a0 (Int32.lt_iff_toInt_lt.mpr q)
  have c1 : ¬ ((lcmpW ((p1.toInt64) - (45 : Int64)) (17 : Int64)).toInt < (0 : Int32).toInt) := fun q => a1 (Int32.lt_iff_toInt_lt.mpr q)
  have nf1 := rng32 p1
  have nr2 := rng64 (p1.toInt64)
  have nf2 := c_i2l p1
  have nf3 : (45 : Int64).toInt = 45 := by decide
  have nr4 := rng64 ((p1.toInt64) - (45 : Int64))
  have nf4 := c_lsub (p1.toInt64) (45 : Int64)
  have nf5 : (0 : Int64).toInt = 0 := by decide
  have nf6 := c_lcmp ((p1.toInt64) - (45 : Int64)) (0 : Int64)
  have nf7 : (0 : Int32).toInt = 0 := by decide
  have nf8 : (17 : Int64).toInt = 17 := by decide
  have nf9 := c_lcmp ((p1.toInt64) - (45 : Int64)) (17 : Int64)
  omega
theorem own_d3_0 : decode jdk_30_method_1_code 0 = .ok (.aload_n 0, 1) := by decide +kernel
theorem own_d3_1 : decode jdk_30_method_1_code 1 = .ok (.invokespecial 1, 3) := by decide +kernel
theorem own_d3_4 : decode jdk_30_method_1_code 4 = .ok (.return_, 1) := by decide +kernel
theorem own_pn_own_rm3 : plainName "java/lang/Record" = true := by first | (simp [plainName, overriddenIn]; done) | decide +kernel
theorem own_ef_own_rm3 (m : MethodId) (x0 : Addr) : entryFrame m #[(.ref x0)] 1 = mkF m 0 #[.val (.ref x0)] [] := by first | (simp [entryFrame, mkF, argsToLocals, Value.category]; done) | rfl
def Q_own_rm3 (Z : State) (a1 : Addr) (h0 : Heap) (n0 : Nat) (v : Option Value) (h : Heap) (L : List Loc) : Prop := v = none ∧ Fr n0 L ∧ h = h0
set_option maxRecDepth 65536 in
set_option maxHeartbeats 40000000 in
theorem own_rm3 (l : Launch) (Z : State) (a0 : Array Value) (hw : ∀ d ∈ tables_1, d.before a0 Z = true) (ws : List Jvm.Cond) (a1 : Addr) (h0 : Heap) (n0 : Nat) (Z0 : n0 ≤ h0.size) :
    MetFree l (⟨"java/lang/Record", "<init>", "()V"⟩ : MethodName) (head1 (Jvm.Cond.code (⟨"java/lang/Record", "<init>", "()V"⟩ : MethodName) jdk_30_method_1_code 1 none :: ws) ({ frames := 1, cells := 0, slots := 0, locals := 12 } : Room)) (fun a U => a = #[(.ref a1)] ∧ Z.Warmed39 U.vm ∧ U.heap = h0) (fun _ _ _ _ _ => True) (fun _ U o U' => ∃ v L, o = .returned v ∧ Q_own_rm3 Z a1 h0 n0 v U'.heap L ∧ FrameEnd U o U' L ({ frames := 1, cells := 0, slots := 0, locals := 12 } : Room).cells ({ frames := 1, cells := 0, slots := 0, locals := 12 } : Room).slots) := by
  refine MetFree.of_bodySF (plainFor_of_name own_pn_own_rm3) hisR ?_
  intro p e s m args below meth c s₁ Bd hml0 hP hK
  obtain ⟨rfl, hZ, hh⟩ := hP
  have hx := Bd.exec
  have hby := Bd.bytes
  have hml : c.maxLocals = 1 := hml0
  have hown : s.vm.findClass "java/lang/Record" = some m.cls := findClass_of_methodNamed Bd.named
  have hnm := (name_of_methodNamed Bd.named Bd.method).1
  have X0 : Stand p l e ({ frames := 1, cells := 0, slots := 0, locals := 12 } : Room) s m #[(.ref a1)] below meth c s₁ [] 0 0 := Stand.of_body Bd
  have e0 : s₁.heap = h0 := by rw [← hh, Bd.state]; rfl
  have N0 := Fr.nil n0
  have pre0 : Goes p e below s₁ (entryFrame m #[(.ref a1)] 1) s₁ (mkF m 0 #[.val (.ref a1)] []) := fun t k => castTop (own_ef_own_rm3 m a1) k
  have pre1 : Goes p e below s₁ (entryFrame m #[(.ref a1)] 1) s₁ (mkF m 1 #[.val (.ref a1)] [(.ref a1)]) := fun t kt => pre0 t (by
      show Steps p.tables e below (s₁.setTop (mkF m 0 #[.val (.ref a1)] [])) _
      refine XS.aloadN X0.here hx rfl (hb hby own_d3_0) rfl rfl ?_
      exact kt)
  obtain ⟨T2, X2, e2, st2⟩ := initO X0 hx hZ hown (hw _ (List.mem_of_getElem? (i := 16) rfl)) (hw _ (List.mem_of_getElem? (i := 17) rfl)) (hw _ (List.mem_of_getElem? (i := 18) rfl)) e0 (g := (mkF m 1 #[.val (.ref a1)] [(.ref a1)])) rfl (by rw [hml]; rfl) rfl (hb hby own_d3_1) (by decide) (W := 0) (by show 2 * 0 + _ ≤ _; exact Nat.le_of_eq rfl) (by decide)
  have pre3 : Goes p e below s₁ (entryFrame m #[(.ref a1)] 1) T2 (mkF m 4 #[.val (.ref a1)] []) := fun t kt => pre1 t (st2 t kt)
  obtain ⟨fs, hr, hrun, hended, hW, hsame⟩ := X2.leave (v := none) (fun _ => rfl)
  refine ⟨_, _, pre3 _ ?_, hrun, hended, _, _, rfl, ?_, ⟨_, rfl⟩, hW, hsame.mono (by decide) (by decide)⟩
  · show Steps p.tables e below (T2.setTop (mkF m 4 #[.val (.ref a1)] [])) _
    exact X2.returnOut hx Bd.returns (hb hby own_d3_4) hr
  · show Q_own_rm3 Z a1 h0 n0 _ T2.heap _
    rw [e2]
    exact ⟨rfl, N0, rfl⟩
theorem own_d2_0 : decode prog_1_method_1_code 0 = .ok (.aload_n 0, 1) := by decide +kernel
theorem own_d2_1 : decode prog_1_method_1_code 1 = .ok (.invokespecial 1, 3) := by decide +kernel
theorem own_d2_4 : decode prog_1_method_1_code 4 = .ok (.aload_n 0, 1) := by decide +kernel
theorem own_d2_5 : decode prog_1_method_1_code 5 = .ok (.iload_n 1, 1) := by decide +kernel
theorem own_d2_6 : decode prog_1_method_1_code 6 = .ok (.putfield 7, 3) := by decide +kernel
theorem own_d2_9 : decode prog_1_method_1_code 9 = .ok (.return_, 1) := by decide +kernel
theorem own_pn_own_rm2 : plainName "raveller/agent/ClassFileVersion" = true := by first | (simp [plainName, overriddenIn]; done) | decide +kernel
theorem own_ef_own_rm2 (m : MethodId) (x0 : Addr) (x1 : Int32) : entryFrame m #[(.ref x0), (.int x1)] 2 = mkF m 0 #[.val (.ref x0), .val (.int x1)] [] := by first | (simp [entryFrame, mkF, argsToLocals, Value.category]; done) | rfl
def Q_own_rm2 (Z : State) (a1 : Addr) (p1 : Int32) (u : Value) (h0 : Heap) (n0 : Nat) (v : Option Value) (h : Heap) (L : List Loc) : Prop := v = none ∧ Fr n0 L ∧ Keep h0 h [a1] ∧ Exa Z h a1 "raveller/agent/ClassFileVersion" ∧ Fld Z h a1 "raveller/agent/ClassFileVersion" "major" "I" (.int p1)
set_option maxRecDepth 65536 in
set_option maxHeartbeats 40000000 in
theorem own_rm2 (l : Launch) (Z : State) (a0 : Array Value) (hw : ∀ d ∈ tables_1, d.before a0 Z = true) (ws : List Jvm.Cond) (a1 : Addr) (p1 : Int32) (u : Value) (h0 : Heap) (n0 : Nat) (Z0 : n0 ≤ h0.size) (E_a1 : Exa Z h0 a1 "raveller/agent/ClassFileVersion") (F_a1 : Fld Z h0 a1 "raveller/agent/ClassFileVersion" "major" "I" u) (g_a1 : n0 ≤ a1) :
    MetFree l (⟨"raveller/agent/ClassFileVersion", "<init>", "(I)V"⟩ : MethodName) (head1 (Jvm.Cond.code (⟨"raveller/agent/ClassFileVersion", "<init>", "(I)V"⟩ : MethodName) prog_1_method_1_code 2 none :: ws) ({ frames := 2, cells := 0, slots := 0, locals := 24 } : Room)) (fun a U => a = #[(.ref a1), (.int p1)] ∧ Z.Warmed39 U.vm ∧ U.heap = h0) (fun _ _ _ _ _ => True) (fun _ U o U' => ∃ v L, o = .returned v ∧ Q_own_rm2 Z a1 p1 u h0 n0 v U'.heap L ∧ FrameEnd U o U' L ({ frames := 2, cells := 0, slots := 0, locals := 24 } : Room).cells ({ frames := 2, cells := 0, slots := 0, locals := 24 } : Room).slots) := by
  refine MetFree.of_bodySF (plainFor_of_name own_pn_own_rm2) hisR ?_
  intro p e s m args below meth c s₁ Bd hml0 hP hK
  obtain ⟨rfl, hZ, hh⟩ := hP
  have hx := Bd.exec
  have hby := Bd.bytes
  have hml : c.maxLocals = 2 := hml0
  have hown : s.vm.findClass "raveller/agent/ClassFileVersion" = some m.cls := findClass_of_methodNamed Bd.named
  have hnm := (name_of_methodNamed Bd.named Bd.method).1
  have X0 : Stand p l e ({ frames := 2, cells := 0, slots := 0, locals := 24 } : Room) s m #[(.ref a1), (.int p1)] below meth c s₁ [] 0 0 := Stand.of_body Bd
  have e0 : s₁.heap = h0 := by rw [← hh, Bd.state]; rfl
  have N0 := Fr.nil n0
  have pre0 : Goes p e below s₁ (entryFrame m #[(.ref a1), (.int p1)] 2) s₁ (mkF m 0 #[.val (.ref a1), .val (.int p1)] []) := fun t k => castTop (own_ef_own_rm2 m a1 p1) k
  have pre1 : Goes p e below s₁ (entryFrame m #[(.ref a1), (.int p1)] 2) s₁ (mkF m 1 #[.val (.ref a1), .val (.int p1)] [(.ref a1)]) := fun t kt => pre0 t (by
      show Steps p.tables e below (s₁.setTop (mkF m 0 #[.val (.ref a1), .val (.int p1)] [])) _
      refine XS.aloadN X0.here hx rfl (hb hby own_d2_0) rfl rfl ?_
      exact kt)
  obtain ⟨_, _, ⟨T2, L2, k2, n2⟩, -, X2, ⟨Lc2, hQ2, l2, y2, z2⟩, st2⟩ := X0.specialBack hx (y := (⟨"java/lang/Record", "<init>", "()V"⟩ : MethodName)) rfl hown (mvT hZ (hw _ (List.mem_of_getElem? (i := 11) rfl))) (mvT hZ (hw _ (List.mem_of_getElem? (i := 12) rfl))) (mvT hZ (hw _ (List.mem_of_getElem? (i := 15) rfl))) (by decide) (backOf (W := 0) (own_rm3 l Z a0 hw [] a1 h0 n0 Z0 ) hZ (hw _ (List.mem_of_getElem? (i := 15) rfl)) (hw _ (List.mem_of_getElem? (i := 14) rfl)) (by decide) (by decide)) (g := (mkF m 1 #[.val (.ref a1), .val (.int p1)] [(.ref a1)])) rfl (by rw [hml]; rfl) (Steps.refl _) (a := a1) (argsL := []) (rest := []) (lenOf own_pd0 rfl) rfl (by show 2 * 0 + _ ≤ _; exact Nat.le_of_eq rfl) (hb hby own_d2_1) (fun _ _ => ⟨rfl, e0, (by decide : 0 + 0 ≤ _), (by decide : 0 + 0 ≤ _)⟩)
  dsimp only [Pt.U, Pt.locs, Pt.cells, Pt.slots] at X2 l2 y2 z2 st2 hQ2
  subst l2 y2 z2
  obtain ⟨rfl, N2q, e2⟩ := hQ2
  have N2 := Fr.app N0 N2q
  have pre3 : Goes p e below s₁ (entryFrame m #[(.ref a1), (.int p1)] 2) T2 (mkF m 4 #[.val (.ref a1), .val (.int p1)] []) := fun t kt => pre1 t (st2.trans kt)
  have pre4 : Goes p e below s₁ (entryFrame m #[(.ref a1), (.int p1)] 2) T2 (mkF m 6 #[.val (.ref a1), .val (.int p1)] [(.int p1), (.ref a1)]) := fun t kt => pre3 t (by
      show Steps p.tables e below (T2.setTop (mkF m 4 #[.val (.ref a1), .val (.int p1)] [])) _
      refine XS.aloadN X2.here hx rfl (hb hby own_d2_4) rfl rfl ?_
      show Steps p.tables e below (T2.setTop (mkF m 5 #[.val (.ref a1), .val (.int p1)] [(.ref a1)])) _
      refine XS.iloadN X2.here hx rfl (hb hby own_d2_5) rfl ?_
      exact kt)
  obtain ⟨T5, h5, X5, e5, W5, st5⟩ := putF X2 hx hZ hown (host := "") (Or.inl (hw _ (List.mem_of_getElem? (i := 19) rfl))) Via.refl e2 F_a1 E_a1 (Or.inr ⟨(hw _ (List.mem_of_getElem? (i := 20) rfl)), rfl, hnm⟩) (hw _ (List.mem_of_getElem? (i := 6) rfl)) (ty := .int) (by decide) rfl rfl (g := (mkF m 6 #[.val (.ref a1), .val (.int p1)] [(.int p1), (.ref a1)])) rfl rfl (hb hby own_d2_6)
  have Fw5 := F_a1.same W5
  have K5 : Keep h0 h5 [a1] := (Keep.refl h0 [a1]).wr W5 (Or.inl (List.mem_of_getElem? (i := 0) rfl))
  have N5 := Fr.snoc X5 N2 g_a1
  have pre6 : Goes p e below s₁ (entryFrame m #[(.ref a1), (.int p1)] 2) T5 (mkF m 9 #[.val (.ref a1), .val (.int p1)] []) := fun t kt => pre4 t (st5 t kt)
  obtain ⟨fs, hr, hrun, hended, hW, hsame⟩ := X5.leave (v := none) (fun _ => rfl)
  refine ⟨_, _, pre6 _ ?_, hrun, hended, _, _, rfl, ?_, ⟨_, rfl⟩, hW, hsame.mono (by decide) (by decide)⟩
  · show Steps p.tables e below (T5.setTop (mkF m 9 #[.val (.ref a1), .val (.int p1)] [])) _
    exact X5.returnOut hx Bd.returns (hb hby own_d2_9) hr
  · show Q_own_rm2 Z a1 p1 u h0 n0 _ T5.heap _
    rw [e5]
    exact ⟨rfl, N5, K5, (E_a1.wr W5), Fw5⟩
theorem own_d5_0 : decode prog_1_method_3_code 0 = .ok (.aload_n 0, 1) := by decide +kernel
theorem own_d5_1 : decode prog_1_method_3_code 1 = .ok (.getfield 7, 3) := by decide +kernel
theorem own_d5_4 : decode prog_1_method_3_code 4 = .ok (.bipush 45, 2) := by decide +kernel
theorem own_d5_6 : decode prog_1_method_3_code 6 = .ok (.if_icmp .lt 16, 3) := by decide +kernel
theorem own_d5_9 : decode prog_1_method_3_code 9 = .ok (.aload_n 0, 1) := by decide +kernel
theorem own_d5_10 : decode prog_1_method_3_code 10 = .ok (.getfield 7, 3) := by decide +kernel
theorem own_d5_13 : decode prog_1_method_3_code 13 = .ok (.bipush 61, 2) := by decide +kernel
theorem own_d5_15 : decode prog_1_method_3_code 15 = .ok (.if_icmp .gt 7, 3) := by decide +kernel
theorem own_d5_18 : decode prog_1_method_3_code 18 = .ok (.iconst 1, 1) := by decide +kernel
theorem own_d5_19 : decode prog_1_method_3_code 19 = .ok (.goto 4, 3) := by decide +kernel
theorem own_d5_22 : decode prog_1_method_3_code 22 = .ok (.iconst 0, 1) := by decide +kernel
theorem own_d5_23 : decode prog_1_method_3_code 23 = .ok (.ireturn, 1) := by decide +kernel
theorem own_pn_own_rm5 : plainName "raveller/agent/ClassFileVersion" = true := by first | (simp [plainName, overriddenIn]; done) | decide +kernel
theorem own_ef_own_rm5 (m : MethodId) (x0 : Addr) : entryFrame m #[(.ref x0)] 1 = mkF m 0 #[.val (.ref x0)] [] := by first | (simp [entryFrame, mkF, argsToLocals, Value.category]; done) | rfl
def Q_own_rm5 (Z : State) (a1 : Addr) (w1 : Int32) (h0 : Heap) (n0 : Nat) (v : Option Value) (h : Heap) (L : List Loc) : Prop := v = some (.int (if (45 ≤ w1.toInt ∧ w1.toInt ≤ 61) then 1 else 0)) ∧ Fr n0 L ∧ h = h0
set_option maxRecDepth 65536 in
set_option maxHeartbeats 40000000 in
theorem own_rm5 (l : Launch) (Z : State) (a0 : Array Value) (hw : ∀ d ∈ tables_1, d.before a0 Z = true) (ws : List Jvm.Cond) (a1 : Addr) (w1 : Int32) (h0 : Heap) (n0 : Nat) (Z0 : n0 ≤ h0.size) (F_a1 : Fld Z h0 a1 "raveller/agent/ClassFileVersion" "major" "I" (.int w1)) :
    MetFree l (⟨"raveller/agent/ClassFileVersion", "isSupported", "()Z"⟩ : MethodName) (head1 (Jvm.Cond.code (⟨"raveller/agent/ClassFileVersion", "isSupported", "()Z"⟩ : MethodName) prog_1_method_3_code 1 (some .boolean) :: ws) ({ frames := 0, cells := 0, slots := 0, locals := 0 } : Room)) (fun a U => a = #[(.ref a1)] ∧ Z.Warmed39 U.vm ∧ U.heap = h0) (fun _ _ _ _ _ => True) (fun _ U o U' => ∃ v L, o = .returned v ∧ Q_own_rm5 Z a1 w1 h0 n0 v U'.heap L ∧ FrameEnd U o U' L ({ frames := 0, cells := 0, slots := 0, locals := 0 } : Room).cells ({ frames := 0, cells := 0, slots := 0, locals := 0 } : Room).slots) := by
  refine MetFree.of_bodySF (plainFor_of_name own_pn_own_rm5) hisR ?_
  intro p e s m args below meth c s₁ Bd hml0 hP hK
  obtain ⟨rfl, hZ, hh⟩ := hP
  have hx := Bd.exec
  have hby := Bd.bytes
  have hml : c.maxLocals = 1 := hml0
  have hown : s.vm.findClass "raveller/agent/ClassFileVersion" = some m.cls := findClass_of_methodNamed Bd.named
  have hnm := (name_of_methodNamed Bd.named Bd.method).1
  have X0 : Stand p l e ({ frames := 0, cells := 0, slots := 0, locals := 0 } : Room) s m #[(.ref a1)] below meth c s₁ [] 0 0 := Stand.of_body Bd
  have e0 : s₁.heap = h0 := by rw [← hh, Bd.state]; rfl
  have N0 := Fr.nil n0
  have pre0 : Goes p e below s₁ (entryFrame m #[(.ref a1)] 1) s₁ (mkF m 0 #[.val (.ref a1)] []) := fun t k => castTop (own_ef_own_rm5 m a1) k
  have pre1 : Goes p e below s₁ (entryFrame m #[(.ref a1)] 1) s₁ (mkF m 1 #[.val (.ref a1)] [(.ref a1)]) := fun t kt => pre0 t (by
      show Steps p.tables e below (s₁.setTop (mkF m 0 #[.val (.ref a1)] [])) _
      refine XS.aloadN X0.here hx rfl (hb hby own_d5_0) rfl rfl ?_
      exact kt)
  obtain ⟨T2, X2, e2, st2⟩ := getF X0 hx hZ hown (host := "") (Or.inl (hw _ (List.mem_of_getElem? (i := 19) rfl))) Via.refl e0 F_a1 (g := (mkF m 1 #[.val (.ref a1)] [(.ref a1)])) rfl rfl (hb hby own_d5_1)
  have pre3 : Goes p e below s₁ (entryFrame m #[(.ref a1)] 1) T2 (mkF m 4 #[.val (.ref a1)] [(.int w1)]) := fun t kt => pre1 t (st2 t kt)
  have pre4 : Goes p e below s₁ (entryFrame m #[(.ref a1)] 1) T2 (mkF m 6 #[.val (.ref a1)] [(.int (45 : Int32)), (.int w1)]) := fun t kt => pre3 t (by
      show Steps p.tables e below (T2.setTop (mkF m 4 #[.val (.ref a1)] [(.int w1)])) _
      refine XS.bipush X2.here hx rfl (hb hby own_d5_4) ?_
      exact kt)
  by_cases hc6_5 : w1 < (45 : Int32)
  · -- yes at pc 6: 
    have pre6 : Goes p e below s₁ (entryFrame m #[(.ref a1)] 1) T2 (mkF m 23 #[.val (.ref a1)] [(.int (0 : Int32))]) := fun t kt => pre4 t (by
        show Steps p.tables e below (T2.setTop (mkF m 6 #[.val (.ref a1)] [(.int (45 : Int32)), (.int w1)])) _
        refine XS.icmpYes X2.here hx rfl (pc0 := 6) (pc' := 22) rfl (hb hby own_d5_6) rfl (tlt hc6_5).1 (by decide) (by decide) ?_
        show Steps p.tables e below (T2.setTop (mkF m 22 #[.val (.ref a1)] [])) _
        refine XS.iconst X2.here hx rfl (hb hby own_d5_22) ?_
        exact kt)
    obtain ⟨fs, hr, hrun, hended, hW, hsame⟩ := X2.leave (v := some (.int (0 : Int32))) (fun h => by rw [Bd.returns] at h; cases h)
    refine ⟨_, _, pre6 _ ?_, hrun, hended, _, _, rfl, ?_, ⟨_, rfl⟩, hW, hsame.mono (by decide) (by decide)⟩
    · show Steps p.tables e below (T2.setTop (mkF m 23 #[.val (.ref a1)] [(.int (0 : Int32))])) _
      exact retN X2 hx (t := .boolean) Bd.returns (by simp) (hb hby own_d5_23) hr
    · show Q_own_rm5 Z a1 w1 h0 n0 _ T2.heap _
      rw [e2]
      exact ⟨by rw [if_neg (own_n1 w1 hc6_5)], N0, rfl⟩
  · -- no at pc 6: 
    have pre7 : Goes p e below s₁ (entryFrame m #[(.ref a1)] 1) T2 (mkF m 10 #[.val (.ref a1)] [(.ref a1)]) := fun t kt => pre4 t (by
        show Steps p.tables e below (T2.setTop (mkF m 6 #[.val (.ref a1)] [(.int (45 : Int32)), (.int w1)])) _
        refine XS.icmpNo X2.here hx rfl (hb hby own_d5_6) rfl (flt hc6_5).1 ?_
        show Steps p.tables e below (T2.setTop (mkF m 9 #[.val (.ref a1)] [])) _
        refine XS.aloadN X2.here hx rfl (hb hby own_d5_9) rfl rfl ?_
        exact kt)
    obtain ⟨T8, X8, e8, st8⟩ := getF X2 hx hZ hown (host := "") (Or.inl (hw _ (List.mem_of_getElem? (i := 19) rfl))) Via.refl e2 F_a1 (g := (mkF m 10 #[.val (.ref a1)] [(.ref a1)])) rfl rfl (hb hby own_d5_10)
    have pre9 : Goes p e below s₁ (entryFrame m #[(.ref a1)] 1) T8 (mkF m 13 #[.val (.ref a1)] [(.int w1)]) := fun t kt => pre7 t (st8 t kt)
    have pre10 : Goes p e below s₁ (entryFrame m #[(.ref a1)] 1) T8 (mkF m 15 #[.val (.ref a1)] [(.int (61 : Int32)), (.int w1)]) := fun t kt => pre9 t (by
        show Steps p.tables e below (T8.setTop (mkF m 13 #[.val (.ref a1)] [(.int w1)])) _
        refine XS.bipush X8.here hx rfl (hb hby own_d5_13) ?_
        exact kt)
    by_cases hc15_11 : (61 : Int32) < w1
    · -- yes at pc 15: f
      have pre12 : Goes p e below s₁ (entryFrame m #[(.ref a1)] 1) T8 (mkF m 23 #[.val (.ref a1)] [(.int (0 : Int32))]) := fun t kt => pre10 t (by
          show Steps p.tables e below (T8.setTop (mkF m 15 #[.val (.ref a1)] [(.int (61 : Int32)), (.int w1)])) _
          refine XS.icmpYes X8.here hx rfl (pc0 := 15) (pc' := 22) rfl (hb hby own_d5_15) rfl (tlt hc15_11).2.2.1 (by decide) (by decide) ?_
          show Steps p.tables e below (T8.setTop (mkF m 22 #[.val (.ref a1)] [])) _
          refine XS.iconst X8.here hx rfl (hb hby own_d5_22) ?_
          exact kt)
      obtain ⟨fs, hr, hrun, hended, hW, hsame⟩ := X8.leave (v := some (.int (0 : Int32))) (fun h => by rw [Bd.returns] at h; cases h)
      refine ⟨_, _, pre12 _ ?_, hrun, hended, _, _, rfl, ?_, ⟨_, rfl⟩, hW, hsame.mono (by decide) (by decide)⟩
      · show Steps p.tables e below (T8.setTop (mkF m 23 #[.val (.ref a1)] [(.int (0 : Int32))])) _
        exact retN X8 hx (t := .boolean) Bd.returns (by simp) (hb hby own_d5_23) hr
      · show Q_own_rm5 Z a1 w1 h0 n0 _ T8.heap _
        rw [e8]
        exact ⟨by rw [if_neg (own_n2 w1 hc6_5 hc15_11)], N0, rfl⟩
    · -- no at pc 15: f
      have pre13 : Goes p e below s₁ (entryFrame m #[(.ref a1)] 1) T8 (mkF m 23 #[.val (.ref a1)] [(.int (1 : Int32))]) := fun t kt => pre10 t (by
          show Steps p.tables e below (T8.setTop (mkF m 15 #[.val (.ref a1)] [(.int (61 : Int32)), (.int w1)])) _
          refine XS.icmpNo X8.here hx rfl (hb hby own_d5_15) rfl (flt hc15_11).2.2.1 ?_
          show Steps p.tables e below (T8.setTop (mkF m 18 #[.val (.ref a1)] [])) _
          refine XS.iconst X8.here hx rfl (hb hby own_d5_18) ?_
          show Steps p.tables e below (T8.setTop (mkF m 19 #[.val (.ref a1)] [(.int (1 : Int32))])) _
          refine XS.goto X8.here hx rfl (pc0 := 19) (pc' := 23) rfl (hb hby own_d5_19) (by decide) (by decide) ?_
          exact kt)
      obtain ⟨fs, hr, hrun, hended, hW, hsame⟩ := X8.leave (v := some (.int (1 : Int32))) (fun h => by rw [Bd.returns] at h; cases h)
      refine ⟨_, _, pre13 _ ?_, hrun, hended, _, _, rfl, ?_, ⟨_, rfl⟩, hW, hsame.mono (by decide) (by decide)⟩
      · show Steps p.tables e below (T8.setTop (mkF m 23 #[.val (.ref a1)] [(.int (1 : Int32))])) _
        exact retN X8 hx (t := .boolean) Bd.returns (by simp) (hb hby own_d5_23) hr
      · show Q_own_rm5 Z a1 w1 h0 n0 _ T8.heap _
        rw [e8]
        exact ⟨by rw [if_pos (own_n3 w1 hc6_5 hc15_11)], N0, rfl⟩
theorem own_d1_0 : decode method_3_code 0 = .ok (.iload_n 0, 1) := by decide +kernel
theorem own_d1_1 : decode method_3_code 1 = .ok (.i2l, 1) := by decide +kernel
theorem own_d1_2 : decode method_3_code 2 = .ok (.ldc2_w 13, 3) := by decide +kernel
theorem own_d1_5 : decode method_3_code 5 = .ok (.lsub, 1) := by decide +kernel
theorem own_d1_6 : decode method_3_code 6 = .ok (.lstore_n 1, 1) := by decide +kernel
theorem own_d1_7 : decode method_3_code 7 = .ok (.lload_n 1, 1) := by decide +kernel
theorem own_d1_8 : decode method_3_code 8 = .ok (.lconst 0, 1) := by decide +kernel
theorem own_d1_9 : decode method_3_code 9 = .ok (.lcmp, 1) := by decide +kernel
theorem own_d1_10 : decode method_3_code 10 = .ok (.ifCond .lt 15, 3) := by decide +kernel
theorem own_d1_13 : decode method_3_code 13 = .ok (.lload_n 1, 1) := by decide +kernel
theorem own_d1_14 : decode method_3_code 14 = .ok (.ldc2_w 15, 3) := by decide +kernel
theorem own_d1_17 : decode method_3_code 17 = .ok (.lcmp, 1) := by decide +kernel
theorem own_d1_18 : decode method_3_code 18 = .ok (.ifCond .ge 7, 3) := by decide +kernel
theorem own_d1_21 : decode method_3_code 21 = .ok (.iconst 1, 1) := by decide +kernel
theorem own_d1_22 : decode method_3_code 22 = .ok (.goto 4, 3) := by decide +kernel
theorem own_d1_25 : decode method_3_code 25 = .ok (.iconst 0, 1) := by decide +kernel
theorem own_d1_26 : decode method_3_code 26 = .ok (.istore_n 3, 1) := by decide +kernel
theorem own_d1_27 : decode method_3_code 27 = .ok (.new 17, 3) := by decide +kernel
theorem own_d1_30 : decode method_3_code 30 = .ok (.dup, 1) := by decide +kernel
theorem own_d1_31 : decode method_3_code 31 = .ok (.iload_n 0, 1) := by decide +kernel
theorem own_d1_32 : decode method_3_code 32 = .ok (.invokespecial 19, 3) := by decide +kernel
theorem own_d1_35 : decode method_3_code 35 = .ok (.invokevirtual 22, 3) := by decide +kernel
theorem own_d1_38 : decode method_3_code 38 = .ok (.iload_n 3, 1) := by decide +kernel
theorem own_d1_39 : decode method_3_code 39 = .ok (.if_icmp .ne 7, 3) := by decide +kernel
theorem own_d1_42 : decode method_3_code 42 = .ok (.iconst 1, 1) := by decide +kernel
theorem own_d1_43 : decode method_3_code 43 = .ok (.goto 4, 3) := by decide +kernel
theorem own_d1_47 : decode method_3_code 47 = .ok (.ireturn, 1) := by decide +kernel
theorem own_pn_own_rm1 : plainName "raveller/agent/ClassFileVersionIsSupportedPinLaw" = true := by first | (simp [plainName, overriddenIn]; done) | decide +kernel
theorem own_ef_own_rm1 (m : MethodId) (x0 : Int32) : entryFrame m #[(.int x0)] 4 = mkF m 0 #[.val (.int x0), .unset, .unset, .unset] [] := by first | (simp [entryFrame, mkF, argsToLocals, Value.category]; done) | rfl
def Q_own_rm1 (Z : State) (p1 : Int32) (h0 : Heap) (n0 : Nat) (v : Option Value) (h : Heap) (L : List Loc) : Prop := v = some (.int (1 : Int32)) ∧ Fr n0 L ∧ Keep h0 h []
set_option maxRecDepth 65536 in
set_option maxHeartbeats 40000000 in
theorem own_rm1 (l : Launch) (Z : State) (a0 : Array Value) (hw : ∀ d ∈ tables_1, d.before a0 Z = true) (ws : List Jvm.Cond) (p1 : Int32) (h0 : Heap) (n0 : Nat) (Z0 : n0 ≤ h0.size) :
    MetFree l (⟨"raveller/agent/ClassFileVersionIsSupportedPinLaw", "check", "(I)Z"⟩ : MethodName) (head1 (Jvm.Cond.code (⟨"raveller/agent/ClassFileVersionIsSupportedPinLaw", "check", "(I)Z"⟩ : MethodName) method_3_code 4 (some .boolean) :: ws) ({ frames := 3, cells := 1, slots := 1, locals := 38 } : Room)) (fun a U => a = #[(.int p1)] ∧ Z.Warmed39 U.vm ∧ U.heap = h0) (fun _ _ _ _ _ => True) (fun _ U o U' => ∃ v L, o = .returned v ∧ Q_own_rm1 Z p1 h0 n0 v U'.heap L ∧ FrameEnd U o U' L ({ frames := 3, cells := 1, slots := 1, locals := 38 } : Room).cells ({ frames := 3, cells := 1, slots := 1, locals := 38 } : Room).slots) := by
  refine MetFree.of_bodySF (plainFor_of_name own_pn_own_rm1) hisR ?_
  intro p e s m args below meth c s₁ Bd hml0 hP hK
  obtain ⟨rfl, hZ, hh⟩ := hP
  have hx := Bd.exec
  have hby := Bd.bytes
  have hml : c.maxLocals = 4 := hml0
  have hown : s.vm.findClass "raveller/agent/ClassFileVersionIsSupportedPinLaw" = some m.cls := findClass_of_methodNamed Bd.named
  have hnm := (name_of_methodNamed Bd.named Bd.method).1
  have X0 : Stand p l e ({ frames := 3, cells := 1, slots := 1, locals := 38 } : Room) s m #[(.int p1)] below meth c s₁ [] 0 0 := Stand.of_body Bd
  have e0 : s₁.heap = h0 := by rw [← hh, Bd.state]; rfl
  have N0 := Fr.nil n0
  have pre0 : Goes p e below s₁ (entryFrame m #[(.int p1)] 4) s₁ (mkF m 0 #[.val (.int p1), .unset, .unset, .unset] []) := fun t k => castTop (own_ef_own_rm1 m p1) k
  have pre1 : Goes p e below s₁ (entryFrame m #[(.int p1)] 4) s₁ (mkF m 10 #[.val (.int p1), .val (.long ((p1.toInt64) - (45 : Int64))), .second, .unset] [(.int (lcmpW ((p1.toInt64) - (45 : Int64)) (0 : Int64)))]) := fun t kt => pre0 t (by
      show Steps p.tables e below (s₁.setTop (mkF m 0 #[.val (.int p1), .unset, .unset, .unset] [])) _
      refine XS.iloadN X0.here hx rfl (hb hby own_d1_0) rfl ?_
      show Steps p.tables e below (s₁.setTop (mkF m 1 #[.val (.int p1), .unset, .unset, .unset] [(.int p1)])) _
      refine XS.i2l X0.here hx rfl (hb hby own_d1_1) rfl ?_
      show Steps p.tables e below (s₁.setTop (mkF m 2 #[.val (.int p1), .unset, .unset, .unset] [(.long (p1.toInt64))])) _
      refine X0.ldc2Long hx hown (mvT hZ (hw _ (List.mem_of_getElem? (i := 4) rfl))) (g := (mkF m 2 #[.val (.int p1), .unset, .unset, .unset] [(.long (p1.toInt64))])) rfl (hb hby own_d1_2) _ ?_
      show Steps p.tables e below (s₁.setTop (mkF m 5 #[.val (.int p1), .unset, .unset, .unset] [(.long (45 : Int64)), (.long (p1.toInt64))])) _
      refine XS.lsub X0.here hx rfl (hb hby own_d1_5) rfl ?_
      show Steps p.tables e below (s₁.setTop (mkF m 6 #[.val (.int p1), .unset, .unset, .unset] [(.long ((p1.toInt64) - (45 : Int64)))])) _
      refine XS.lstoreN X0.here hx rfl (hb hby own_d1_6) rfl (l' := #[.val (.int p1), .val (.long ((p1.toInt64) - (45 : Int64))), .second, .unset]) rfl ?_
      show Steps p.tables e below (s₁.setTop (mkF m 7 #[.val (.int p1), .val (.long ((p1.toInt64) - (45 : Int64))), .second, .unset] [])) _
      refine XS.lloadN X0.here hx rfl (hb hby own_d1_7) rfl ?_
      show Steps p.tables e below (s₁.setTop (mkF m 8 #[.val (.int p1), .val (.long ((p1.toInt64) - (45 : Int64))), .second, .unset] [(.long ((p1.toInt64) - (45 : Int64)))])) _
      refine XS.lconst X0.here hx rfl (hb hby own_d1_8) ?_
      show Steps p.tables e below (s₁.setTop (mkF m 9 #[.val (.int p1), .val (.long ((p1.toInt64) - (45 : Int64))), .second, .unset] [(.long (0 : Int64)), (.long ((p1.toInt64) - (45 : Int64)))])) _
      refine XS.lcmp X0.here hx rfl (hb hby own_d1_9) rfl ?_
      exact kt)
  by_cases hc10_2 : (lcmpW ((p1.toInt64) - (45 : Int64)) (0 : Int64)) < (0 : Int32)
  · -- yes at pc 10: 
    have pre3 : Goes p e below s₁ (entryFrame m #[(.int p1)] 4) s₁ (mkF m 27 #[.val (.int p1), .val (.long ((p1.toInt64) - (45 : Int64))), .second, .val (.int (0 : Int32))] []) := fun t kt => pre1 t (by
        show Steps p.tables e below (s₁.setTop (mkF m 10 #[.val (.int p1), .val (.long ((p1.toInt64) - (45 : Int64))), .second, .unset] [(.int (lcmpW ((p1.toInt64) - (45 : Int64)) (0 : Int64)))])) _
        refine XS.ifYes X0.here hx rfl (pc0 := 10) (pc' := 25) rfl (hb hby own_d1_10) rfl ((if0 _ _).trans (tlt hc10_2).1) (by decide) (by decide) ?_
        show Steps p.tables e below (s₁.setTop (mkF m 25 #[.val (.int p1), .val (.long ((p1.toInt64) - (45 : Int64))), .second, .unset] [])) _
        refine XS.iconst X0.here hx rfl (hb hby own_d1_25) ?_
        show Steps p.tables e below (s₁.setTop (mkF m 26 #[.val (.int p1), .val (.long ((p1.toInt64) - (45 : Int64))), .second, .unset] [(.int (0 : Int32))])) _
        refine XS.istoreN X0.here hx rfl (hb hby own_d1_26) rfl (l' := #[.val (.int p1), .val (.long ((p1.toInt64) - (45 : Int64))), .second, .val (.int (0 : Int32))]) rfl ?_
        exact kt)
    obtain ⟨T4, h4, X4, e4, E4, A4, DD4, -, st4⟩ := newO X0 hx hZ hown (hw _ (List.mem_of_getElem? (i := 5) rfl)) (hw _ (List.mem_of_getElem? (i := 6) rfl)) (hw _ (List.mem_of_getElem? (i := 7) rfl)) e0 (g := (mkF m 27 #[.val (.int p1), .val (.long ((p1.toInt64) - (45 : Int64))), .second, .val (.int (0 : Int32))] [])) rfl (hb hby own_d1_27) (by decide) (by decide)
    obtain ⟨b4, g4⟩ : ∃ z, z = h0.size := ⟨_, rfl⟩
    rw [← g4] at A4 DD4 st4
    have F_major_b4 : Fld Z h4 b4 "raveller/agent/ClassFileVersion" "major" "I" (.int (0 : Int32)) := DD4 (Or.inr (hw _ (List.mem_of_getElem? (i := 20) rfl))) (ty := .int) (by decide)
    have g_b4 : n0 ≤ b4 := Nat.le_trans Z0 (Nat.le_of_eq g4.symm)
    have sz_b4 : h0.size ≤ b4 := (Nat.le_trans (Keep.refl h0 []).1 (Nat.le_of_eq g4.symm))
    have K4 : Keep h0 h4 [] := (Keep.refl h0 []).ext E4
    have pre5 : Goes p e below s₁ (entryFrame m #[(.int p1)] 4) T4 (mkF m 30 #[.val (.int p1), .val (.long ((p1.toInt64) - (45 : Int64))), .second, .val (.int (0 : Int32))] [(.ref b4)]) := fun t kt => pre3 t (st4 t kt)
    have pre6 : Goes p e below s₁ (entryFrame m #[(.int p1)] 4) T4 (mkF m 32 #[.val (.int p1), .val (.long ((p1.toInt64) - (45 : Int64))), .second, .val (.int (0 : Int32))] [(.int p1), (.ref b4), (.ref b4)]) := fun t kt => pre5 t (by
        show Steps p.tables e below (T4.setTop (mkF m 30 #[.val (.int p1), .val (.long ((p1.toInt64) - (45 : Int64))), .second, .val (.int (0 : Int32))] [(.ref b4)])) _
        refine XS.dup X4.here hx rfl (hb hby own_d1_30) rfl rfl ?_
        show Steps p.tables e below (T4.setTop (mkF m 31 #[.val (.int p1), .val (.long ((p1.toInt64) - (45 : Int64))), .second, .val (.int (0 : Int32))] [(.ref b4), (.ref b4)])) _
        refine XS.iloadN X4.here hx rfl (hb hby own_d1_31) rfl ?_
        exact kt)
    obtain ⟨_, _, ⟨T7, L7, k7, n7⟩, -, X7, ⟨Lc7, hQ7, l7, y7, z7⟩, st7⟩ := X4.specialBack hx (y := (⟨"raveller/agent/ClassFileVersion", "<init>", "(I)V"⟩ : MethodName)) rfl hown (mvT hZ (hw _ (List.mem_of_getElem? (i := 8) rfl))) (mvT hZ (hw _ (List.mem_of_getElem? (i := 9) rfl))) (mvT hZ (hw _ (List.mem_of_getElem? (i := 10) rfl))) (by decide) (backOf (W := 1) (own_rm2 l Z a0 hw [] b4 p1 _ h4 n0 (Nat.le_trans Z0 E4.1) A4 F_major_b4 g_b4) hZ (hw _ (List.mem_of_getElem? (i := 10) rfl)) (hw _ (List.mem_of_getElem? (i := 7) rfl)) (by decide) (by decide)) (g := (mkF m 32 #[.val (.int p1), .val (.long ((p1.toInt64) - (45 : Int64))), .second, .val (.int (0 : Int32))] [(.int p1), (.ref b4), (.ref b4)])) rfl (by rw [hml]; rfl) (Steps.refl _) (a := b4) (argsL := [(.int p1)]) (rest := [(.ref b4)]) (lenOf own_pd1 rfl) rfl (by show 2 * 0 + _ ≤ _; exact Nat.le_of_eq rfl) (hb hby own_d1_32) (fun _ _ => ⟨rfl, e4, (by decide : 1 + 0 ≤ _), (by decide : 1 + 0 ≤ _)⟩)
    dsimp only [Pt.U, Pt.locs, Pt.cells, Pt.slots] at X7 l7 y7 z7 st7 hQ7
    subst l7 y7 z7
    obtain ⟨rfl, N7q, K7q, Eq7, Fq7⟩ := hQ7
    have N7 := Fr.app N0 N7q
    have KC7 : Keep h0 T7.heap [] := K4.trans K7q (allS (Or.inr sz_b4) all0)
    have pre8 : Goes p e below s₁ (entryFrame m #[(.int p1)] 4) T7 (mkF m 35 #[.val (.int p1), .val (.long ((p1.toInt64) - (45 : Int64))), .second, .val (.int (0 : Int32))] [(.ref b4)]) := fun t kt => pre6 t (st7.trans kt)
    obtain ⟨cq9, kq9, q9a, q9b, q9c⟩ := isOf hZ rfl (A4.keep K7q)
    obtain ⟨_, _, ⟨T9, L9, k9, n9⟩, -, X9, ⟨Lc9, hQ9, l9, y9, z9⟩, st9⟩ := X7.virtualBack hx (y := (⟨"raveller/agent/ClassFileVersion", "isSupported", "()Z"⟩ : MethodName)) (z := (⟨"raveller/agent/ClassFileVersion", "isSupported", "()Z"⟩ : MethodName)) hown (mvT hZ (hw _ (List.mem_of_getElem? (i := 21) rfl))) (mvT hZ (hw _ (List.mem_of_getElem? (i := 22) rfl))) (notFace_of_selects (args := #[]) (mvT hZ (hw _ (List.mem_of_getElem? (i := 24) rfl)))) (mvT hZ (hw _ (List.mem_of_getElem? (i := 24) rfl))) (mvT hZ (hw _ (List.mem_of_getElem? (i := 23) rfl))) (by decide) (backOf (W := 0) (own_rm5 l Z a0 hw [] b4 p1 T7.heap n0 (Nat.le_trans (Nat.le_trans Z0 E4.1) K7q.1) Fq7) hZ (hw _ (List.mem_of_getElem? (i := 25) rfl)) (hw _ (List.mem_of_getElem? (i := 7) rfl)) (by decide) (by decide)) q9a q9c (g := (mkF m 35 #[.val (.int p1), .val (.long ((p1.toInt64) - (45 : Int64))), .second, .val (.int (0 : Int32))] [(.ref b4)])) rfl (by rw [hml]; rfl) (Steps.refl _) (argsL := []) (rest := []) (lenOf own_pd2 rfl) rfl (by show 2 * 0 + _ ≤ _; exact Nat.le_of_eq rfl) (hb hby own_d1_35) (fun _ _ => ⟨rfl, rfl, (by decide : 1 + 0 ≤ _), (by decide : 1 + 0 ≤ _)⟩)
    dsimp only [Pt.U, Pt.locs, Pt.cells, Pt.slots] at X9 l9 y9 z9 st9 hQ9
    subst l9 y9 z9
    obtain ⟨rfl, N9q, e9⟩ := hQ9
    have N9 := Fr.app N7 N9q
    have pre10 : Goes p e below s₁ (entryFrame m #[(.int p1)] 4) T9 (mkF m 38 #[.val (.int p1), .val (.long ((p1.toInt64) - (45 : Int64))), .second, .val (.int (0 : Int32))] [(.int (if (45 ≤ p1.toInt ∧ p1.toInt ≤ 61) then 1 else 0))]) := fun t kt => pre8 t (st9.trans kt)
    have pre11 : Goes p e below s₁ (entryFrame m #[(.int p1)] 4) T9 (mkF m 47 #[.val (.int p1), .val (.long ((p1.toInt64) - (45 : Int64))), .second, .val (.int (0 : Int32))] [(.int (1 : Int32))]) := fun t kt => pre10 t (by
        show Steps p.tables e below (T9.setTop (mkF m 38 #[.val (.int p1), .val (.long ((p1.toInt64) - (45 : Int64))), .second, .val (.int (0 : Int32))] [(.int (if (45 ≤ p1.toInt ∧ p1.toInt ≤ 61) then 1 else 0))])) _
        refine XS.iloadN X9.here hx rfl (hb hby own_d1_38) rfl ?_
        show Steps p.tables e below (T9.setTop (mkF m 39 #[.val (.int p1), .val (.long ((p1.toInt64) - (45 : Int64))), .second, .val (.int (0 : Int32))] [(.int (0 : Int32)), (.int (if (45 ≤ p1.toInt ∧ p1.toInt ≤ 61) then 1 else 0))])) _
        refine XS.icmpNo X9.here hx rfl (hb hby own_d1_39) rfl (teq (if_neg (own_n4 p1 hc10_2) : (if (45 ≤ p1.toInt ∧ p1.toInt ≤ 61) then 1 else 0) = (0 : Int32))).2 ?_
        show Steps p.tables e below (T9.setTop (mkF m 42 #[.val (.int p1), .val (.long ((p1.toInt64) - (45 : Int64))), .second, .val (.int (0 : Int32))] [])) _
        refine XS.iconst X9.here hx rfl (hb hby own_d1_42) ?_
        show Steps p.tables e below (T9.setTop (mkF m 43 #[.val (.int p1), .val (.long ((p1.toInt64) - (45 : Int64))), .second, .val (.int (0 : Int32))] [(.int (1 : Int32))])) _
        refine XS.goto X9.here hx rfl (pc0 := 43) (pc' := 47) rfl (hb hby own_d1_43) (by decide) (by decide) ?_
        exact kt)
    obtain ⟨fs, hr, hrun, hended, hW, hsame⟩ := X9.leave (v := some (.int (1 : Int32))) (fun h => by rw [Bd.returns] at h; cases h)
    refine ⟨_, _, pre11 _ ?_, hrun, hended, _, _, rfl, ?_, ⟨_, rfl⟩, hW, hsame.mono (by decide) (by decide)⟩
    · show Steps p.tables e below (T9.setTop (mkF m 47 #[.val (.int p1), .val (.long ((p1.toInt64) - (45 : Int64))), .second, .val (.int (0 : Int32))] [(.int (1 : Int32))])) _
      exact retN X9 hx (t := .boolean) Bd.returns (by simp) (hb hby own_d1_47) hr
    · show Q_own_rm1 Z p1 h0 n0 _ T9.heap _
      rw [e9]
      exact ⟨rfl, N9, KC7⟩
  · -- no at pc 10: 
    have pre12 : Goes p e below s₁ (entryFrame m #[(.int p1)] 4) s₁ (mkF m 18 #[.val (.int p1), .val (.long ((p1.toInt64) - (45 : Int64))), .second, .unset] [(.int (lcmpW ((p1.toInt64) - (45 : Int64)) (17 : Int64)))]) := fun t kt => pre1 t (by
        show Steps p.tables e below (s₁.setTop (mkF m 10 #[.val (.int p1), .val (.long ((p1.toInt64) - (45 : Int64))), .second, .unset] [(.int (lcmpW ((p1.toInt64) - (45 : Int64)) (0 : Int64)))])) _
        refine XS.ifNo X0.here hx rfl (hb hby own_d1_10) rfl ((if0 _ _).trans (flt hc10_2).1) ?_
        show Steps p.tables e below (s₁.setTop (mkF m 13 #[.val (.int p1), .val (.long ((p1.toInt64) - (45 : Int64))), .second, .unset] [])) _
        refine XS.lloadN X0.here hx rfl (hb hby own_d1_13) rfl ?_
        show Steps p.tables e below (s₁.setTop (mkF m 14 #[.val (.int p1), .val (.long ((p1.toInt64) - (45 : Int64))), .second, .unset] [(.long ((p1.toInt64) - (45 : Int64)))])) _
        refine X0.ldc2Long hx hown (mvT hZ (hw _ (List.mem_of_getElem? (i := 26) rfl))) (g := (mkF m 14 #[.val (.int p1), .val (.long ((p1.toInt64) - (45 : Int64))), .second, .unset] [(.long ((p1.toInt64) - (45 : Int64)))])) rfl (hb hby own_d1_14) _ ?_
        show Steps p.tables e below (s₁.setTop (mkF m 17 #[.val (.int p1), .val (.long ((p1.toInt64) - (45 : Int64))), .second, .unset] [(.long (17 : Int64)), (.long ((p1.toInt64) - (45 : Int64)))])) _
        refine XS.lcmp X0.here hx rfl (hb hby own_d1_17) rfl ?_
        exact kt)
    by_cases hc18_13 : (lcmpW ((p1.toInt64) - (45 : Int64)) (17 : Int64)) < (0 : Int32)
    · -- yes at pc 18: f
      have pre14 : Goes p e below s₁ (entryFrame m #[(.int p1)] 4) s₁ (mkF m 27 #[.val (.int p1), .val (.long ((p1.toInt64) - (45 : Int64))), .second, .val (.int (1 : Int32))] []) := fun t kt => pre12 t (by
          show Steps p.tables e below (s₁.setTop (mkF m 18 #[.val (.int p1), .val (.long ((p1.toInt64) - (45 : Int64))), .second, .unset] [(.int (lcmpW ((p1.toInt64) - (45 : Int64)) (17 : Int64)))])) _
          refine XS.ifNo X0.here hx rfl (hb hby own_d1_18) rfl ((if0 _ _).trans (tlt hc18_13).2.1) ?_
          show Steps p.tables e below (s₁.setTop (mkF m 21 #[.val (.int p1), .val (.long ((p1.toInt64) - (45 : Int64))), .second, .unset] [])) _
          refine XS.iconst X0.here hx rfl (hb hby own_d1_21) ?_
          show Steps p.tables e below (s₁.setTop (mkF m 22 #[.val (.int p1), .val (.long ((p1.toInt64) - (45 : Int64))), .second, .unset] [(.int (1 : Int32))])) _
          refine XS.goto X0.here hx rfl (pc0 := 22) (pc' := 26) rfl (hb hby own_d1_22) (by decide) (by decide) ?_
          show Steps p.tables e below (s₁.setTop (mkF m 26 #[.val (.int p1), .val (.long ((p1.toInt64) - (45 : Int64))), .second, .unset] [(.int (1 : Int32))])) _
          refine XS.istoreN X0.here hx rfl (hb hby own_d1_26) rfl (l' := #[.val (.int p1), .val (.long ((p1.toInt64) - (45 : Int64))), .second, .val (.int (1 : Int32))]) rfl ?_
          exact kt)
      obtain ⟨T15, h15, X15, e15, E15, A15, DD15, -, st15⟩ := newO X0 hx hZ hown (hw _ (List.mem_of_getElem? (i := 5) rfl)) (hw _ (List.mem_of_getElem? (i := 6) rfl)) (hw _ (List.mem_of_getElem? (i := 7) rfl)) e0 (g := (mkF m 27 #[.val (.int p1), .val (.long ((p1.toInt64) - (45 : Int64))), .second, .val (.int (1 : Int32))] [])) rfl (hb hby own_d1_27) (by decide) (by decide)
      obtain ⟨b15, g15⟩ : ∃ z, z = h0.size := ⟨_, rfl⟩
      rw [← g15] at A15 DD15 st15
      have F_major_b15 : Fld Z h15 b15 "raveller/agent/ClassFileVersion" "major" "I" (.int (0 : Int32)) := DD15 (Or.inr (hw _ (List.mem_of_getElem? (i := 20) rfl))) (ty := .int) (by decide)
      have g_b15 : n0 ≤ b15 := Nat.le_trans Z0 (Nat.le_of_eq g15.symm)
      have sz_b15 : h0.size ≤ b15 := (Nat.le_trans (Keep.refl h0 []).1 (Nat.le_of_eq g15.symm))
      have K15 : Keep h0 h15 [] := (Keep.refl h0 []).ext E15
      have pre16 : Goes p e below s₁ (entryFrame m #[(.int p1)] 4) T15 (mkF m 30 #[.val (.int p1), .val (.long ((p1.toInt64) - (45 : Int64))), .second, .val (.int (1 : Int32))] [(.ref b15)]) := fun t kt => pre14 t (st15 t kt)
      have pre17 : Goes p e below s₁ (entryFrame m #[(.int p1)] 4) T15 (mkF m 32 #[.val (.int p1), .val (.long ((p1.toInt64) - (45 : Int64))), .second, .val (.int (1 : Int32))] [(.int p1), (.ref b15), (.ref b15)]) := fun t kt => pre16 t (by
          show Steps p.tables e below (T15.setTop (mkF m 30 #[.val (.int p1), .val (.long ((p1.toInt64) - (45 : Int64))), .second, .val (.int (1 : Int32))] [(.ref b15)])) _
          refine XS.dup X15.here hx rfl (hb hby own_d1_30) rfl rfl ?_
          show Steps p.tables e below (T15.setTop (mkF m 31 #[.val (.int p1), .val (.long ((p1.toInt64) - (45 : Int64))), .second, .val (.int (1 : Int32))] [(.ref b15), (.ref b15)])) _
          refine XS.iloadN X15.here hx rfl (hb hby own_d1_31) rfl ?_
          exact kt)
      obtain ⟨_, _, ⟨T18, L18, k18, n18⟩, -, X18, ⟨Lc18, hQ18, l18, y18, z18⟩, st18⟩ := X15.specialBack hx (y := (⟨"raveller/agent/ClassFileVersion", "<init>", "(I)V"⟩ : MethodName)) rfl hown (mvT hZ (hw _ (List.mem_of_getElem? (i := 8) rfl))) (mvT hZ (hw _ (List.mem_of_getElem? (i := 9) rfl))) (mvT hZ (hw _ (List.mem_of_getElem? (i := 10) rfl))) (by decide) (backOf (W := 1) (own_rm2 l Z a0 hw [] b15 p1 _ h15 n0 (Nat.le_trans Z0 E15.1) A15 F_major_b15 g_b15) hZ (hw _ (List.mem_of_getElem? (i := 10) rfl)) (hw _ (List.mem_of_getElem? (i := 7) rfl)) (by decide) (by decide)) (g := (mkF m 32 #[.val (.int p1), .val (.long ((p1.toInt64) - (45 : Int64))), .second, .val (.int (1 : Int32))] [(.int p1), (.ref b15), (.ref b15)])) rfl (by rw [hml]; rfl) (Steps.refl _) (a := b15) (argsL := [(.int p1)]) (rest := [(.ref b15)]) (lenOf own_pd1 rfl) rfl (by show 2 * 0 + _ ≤ _; exact Nat.le_of_eq rfl) (hb hby own_d1_32) (fun _ _ => ⟨rfl, e15, (by decide : 1 + 0 ≤ _), (by decide : 1 + 0 ≤ _)⟩)
      dsimp only [Pt.U, Pt.locs, Pt.cells, Pt.slots] at X18 l18 y18 z18 st18 hQ18
      subst l18 y18 z18
      obtain ⟨rfl, N18q, K18q, Eq18, Fq18⟩ := hQ18
      have N18 := Fr.app N0 N18q
      have KC18 : Keep h0 T18.heap [] := K15.trans K18q (allS (Or.inr sz_b15) all0)
      have pre19 : Goes p e below s₁ (entryFrame m #[(.int p1)] 4) T18 (mkF m 35 #[.val (.int p1), .val (.long ((p1.toInt64) - (45 : Int64))), .second, .val (.int (1 : Int32))] [(.ref b15)]) := fun t kt => pre17 t (st18.trans kt)
      obtain ⟨cq20, kq20, q20a, q20b, q20c⟩ := isOf hZ rfl (A15.keep K18q)
      obtain ⟨_, _, ⟨T20, L20, k20, n20⟩, -, X20, ⟨Lc20, hQ20, l20, y20, z20⟩, st20⟩ := X18.virtualBack hx (y := (⟨"raveller/agent/ClassFileVersion", "isSupported", "()Z"⟩ : MethodName)) (z := (⟨"raveller/agent/ClassFileVersion", "isSupported", "()Z"⟩ : MethodName)) hown (mvT hZ (hw _ (List.mem_of_getElem? (i := 21) rfl))) (mvT hZ (hw _ (List.mem_of_getElem? (i := 22) rfl))) (notFace_of_selects (args := #[]) (mvT hZ (hw _ (List.mem_of_getElem? (i := 24) rfl)))) (mvT hZ (hw _ (List.mem_of_getElem? (i := 24) rfl))) (mvT hZ (hw _ (List.mem_of_getElem? (i := 23) rfl))) (by decide) (backOf (W := 0) (own_rm5 l Z a0 hw [] b15 p1 T18.heap n0 (Nat.le_trans (Nat.le_trans Z0 E15.1) K18q.1) Fq18) hZ (hw _ (List.mem_of_getElem? (i := 25) rfl)) (hw _ (List.mem_of_getElem? (i := 7) rfl)) (by decide) (by decide)) q20a q20c (g := (mkF m 35 #[.val (.int p1), .val (.long ((p1.toInt64) - (45 : Int64))), .second, .val (.int (1 : Int32))] [(.ref b15)])) rfl (by rw [hml]; rfl) (Steps.refl _) (argsL := []) (rest := []) (lenOf own_pd2 rfl) rfl (by show 2 * 0 + _ ≤ _; exact Nat.le_of_eq rfl) (hb hby own_d1_35) (fun _ _ => ⟨rfl, rfl, (by decide : 1 + 0 ≤ _), (by decide : 1 + 0 ≤ _)⟩)
      dsimp only [Pt.U, Pt.locs, Pt.cells, Pt.slots] at X20 l20 y20 z20 st20 hQ20
      subst l20 y20 z20
      obtain ⟨rfl, N20q, e20⟩ := hQ20
      have N20 := Fr.app N18 N20q
      have pre21 : Goes p e below s₁ (entryFrame m #[(.int p1)] 4) T20 (mkF m 38 #[.val (.int p1), .val (.long ((p1.toInt64) - (45 : Int64))), .second, .val (.int (1 : Int32))] [(.int (if (45 ≤ p1.toInt ∧ p1.toInt ≤ 61) then 1 else 0))]) := fun t kt => pre19 t (st20.trans kt)
      have pre22 : Goes p e below s₁ (entryFrame m #[(.int p1)] 4) T20 (mkF m 47 #[.val (.int p1), .val (.long ((p1.toInt64) - (45 : Int64))), .second, .val (.int (1 : Int32))] [(.int (1 : Int32))]) := fun t kt => pre21 t (by
          show Steps p.tables e below (T20.setTop (mkF m 38 #[.val (.int p1), .val (.long ((p1.toInt64) - (45 : Int64))), .second, .val (.int (1 : Int32))] [(.int (if (45 ≤ p1.toInt ∧ p1.toInt ≤ 61) then 1 else 0))])) _
          refine XS.iloadN X20.here hx rfl (hb hby own_d1_38) rfl ?_
          show Steps p.tables e below (T20.setTop (mkF m 39 #[.val (.int p1), .val (.long ((p1.toInt64) - (45 : Int64))), .second, .val (.int (1 : Int32))] [(.int (1 : Int32)), (.int (if (45 ≤ p1.toInt ∧ p1.toInt ≤ 61) then 1 else 0))])) _
          refine XS.icmpNo X20.here hx rfl (hb hby own_d1_39) rfl (teq (if_pos (own_n5 p1 hc10_2 hc18_13) : (if (45 ≤ p1.toInt ∧ p1.toInt ≤ 61) then 1 else 0) = (1 : Int32))).2 ?_
          show Steps p.tables e below (T20.setTop (mkF m 42 #[.val (.int p1), .val (.long ((p1.toInt64) - (45 : Int64))), .second, .val (.int (1 : Int32))] [])) _
          refine XS.iconst X20.here hx rfl (hb hby own_d1_42) ?_
          show Steps p.tables e below (T20.setTop (mkF m 43 #[.val (.int p1), .val (.long ((p1.toInt64) - (45 : Int64))), .second, .val (.int (1 : Int32))] [(.int (1 : Int32))])) _
          refine XS.goto X20.here hx rfl (pc0 := 43) (pc' := 47) rfl (hb hby own_d1_43) (by decide) (by decide) ?_
          exact kt)
      obtain ⟨fs, hr, hrun, hended, hW, hsame⟩ := X20.leave (v := some (.int (1 : Int32))) (fun h => by rw [Bd.returns] at h; cases h)
      refine ⟨_, _, pre22 _ ?_, hrun, hended, _, _, rfl, ?_, ⟨_, rfl⟩, hW, hsame.mono (by decide) (by decide)⟩
      · show Steps p.tables e below (T20.setTop (mkF m 47 #[.val (.int p1), .val (.long ((p1.toInt64) - (45 : Int64))), .second, .val (.int (1 : Int32))] [(.int (1 : Int32))])) _
        exact retN X20 hx (t := .boolean) Bd.returns (by simp) (hb hby own_d1_47) hr
      · show Q_own_rm1 Z p1 h0 n0 _ T20.heap _
        rw [e20]
        exact ⟨rfl, N20, KC18⟩
    · -- no at pc 18: f
      have pre23 : Goes p e below s₁ (entryFrame m #[(.int p1)] 4) s₁ (mkF m 27 #[.val (.int p1), .val (.long ((p1.toInt64) - (45 : Int64))), .second, .val (.int (0 : Int32))] []) := fun t kt => pre12 t (by
          show Steps p.tables e below (s₁.setTop (mkF m 18 #[.val (.int p1), .val (.long ((p1.toInt64) - (45 : Int64))), .second, .unset] [(.int (lcmpW ((p1.toInt64) - (45 : Int64)) (17 : Int64)))])) _
          refine XS.ifYes X0.here hx rfl (pc0 := 18) (pc' := 25) rfl (hb hby own_d1_18) rfl ((if0 _ _).trans (flt hc18_13).2.1) (by decide) (by decide) ?_
          show Steps p.tables e below (s₁.setTop (mkF m 25 #[.val (.int p1), .val (.long ((p1.toInt64) - (45 : Int64))), .second, .unset] [])) _
          refine XS.iconst X0.here hx rfl (hb hby own_d1_25) ?_
          show Steps p.tables e below (s₁.setTop (mkF m 26 #[.val (.int p1), .val (.long ((p1.toInt64) - (45 : Int64))), .second, .unset] [(.int (0 : Int32))])) _
          refine XS.istoreN X0.here hx rfl (hb hby own_d1_26) rfl (l' := #[.val (.int p1), .val (.long ((p1.toInt64) - (45 : Int64))), .second, .val (.int (0 : Int32))]) rfl ?_
          exact kt)
      obtain ⟨T24, h24, X24, e24, E24, A24, DD24, -, st24⟩ := newO X0 hx hZ hown (hw _ (List.mem_of_getElem? (i := 5) rfl)) (hw _ (List.mem_of_getElem? (i := 6) rfl)) (hw _ (List.mem_of_getElem? (i := 7) rfl)) e0 (g := (mkF m 27 #[.val (.int p1), .val (.long ((p1.toInt64) - (45 : Int64))), .second, .val (.int (0 : Int32))] [])) rfl (hb hby own_d1_27) (by decide) (by decide)
      obtain ⟨b24, g24⟩ : ∃ z, z = h0.size := ⟨_, rfl⟩
      rw [← g24] at A24 DD24 st24
      have F_major_b24 : Fld Z h24 b24 "raveller/agent/ClassFileVersion" "major" "I" (.int (0 : Int32)) := DD24 (Or.inr (hw _ (List.mem_of_getElem? (i := 20) rfl))) (ty := .int) (by decide)
      have g_b24 : n0 ≤ b24 := Nat.le_trans Z0 (Nat.le_of_eq g24.symm)
      have sz_b24 : h0.size ≤ b24 := (Nat.le_trans (Keep.refl h0 []).1 (Nat.le_of_eq g24.symm))
      have K24 : Keep h0 h24 [] := (Keep.refl h0 []).ext E24
      have pre25 : Goes p e below s₁ (entryFrame m #[(.int p1)] 4) T24 (mkF m 30 #[.val (.int p1), .val (.long ((p1.toInt64) - (45 : Int64))), .second, .val (.int (0 : Int32))] [(.ref b24)]) := fun t kt => pre23 t (st24 t kt)
      have pre26 : Goes p e below s₁ (entryFrame m #[(.int p1)] 4) T24 (mkF m 32 #[.val (.int p1), .val (.long ((p1.toInt64) - (45 : Int64))), .second, .val (.int (0 : Int32))] [(.int p1), (.ref b24), (.ref b24)]) := fun t kt => pre25 t (by
          show Steps p.tables e below (T24.setTop (mkF m 30 #[.val (.int p1), .val (.long ((p1.toInt64) - (45 : Int64))), .second, .val (.int (0 : Int32))] [(.ref b24)])) _
          refine XS.dup X24.here hx rfl (hb hby own_d1_30) rfl rfl ?_
          show Steps p.tables e below (T24.setTop (mkF m 31 #[.val (.int p1), .val (.long ((p1.toInt64) - (45 : Int64))), .second, .val (.int (0 : Int32))] [(.ref b24), (.ref b24)])) _
          refine XS.iloadN X24.here hx rfl (hb hby own_d1_31) rfl ?_
          exact kt)
      obtain ⟨_, _, ⟨T27, L27, k27, n27⟩, -, X27, ⟨Lc27, hQ27, l27, y27, z27⟩, st27⟩ := X24.specialBack hx (y := (⟨"raveller/agent/ClassFileVersion", "<init>", "(I)V"⟩ : MethodName)) rfl hown (mvT hZ (hw _ (List.mem_of_getElem? (i := 8) rfl))) (mvT hZ (hw _ (List.mem_of_getElem? (i := 9) rfl))) (mvT hZ (hw _ (List.mem_of_getElem? (i := 10) rfl))) (by decide) (backOf (W := 1) (own_rm2 l Z a0 hw [] b24 p1 _ h24 n0 (Nat.le_trans Z0 E24.1) A24 F_major_b24 g_b24) hZ (hw _ (List.mem_of_getElem? (i := 10) rfl)) (hw _ (List.mem_of_getElem? (i := 7) rfl)) (by decide) (by decide)) (g := (mkF m 32 #[.val (.int p1), .val (.long ((p1.toInt64) - (45 : Int64))), .second, .val (.int (0 : Int32))] [(.int p1), (.ref b24), (.ref b24)])) rfl (by rw [hml]; rfl) (Steps.refl _) (a := b24) (argsL := [(.int p1)]) (rest := [(.ref b24)]) (lenOf own_pd1 rfl) rfl (by show 2 * 0 + _ ≤ _; exact Nat.le_of_eq rfl) (hb hby own_d1_32) (fun _ _ => ⟨rfl, e24, (by decide : 1 + 0 ≤ _), (by decide : 1 + 0 ≤ _)⟩)
      dsimp only [Pt.U, Pt.locs, Pt.cells, Pt.slots] at X27 l27 y27 z27 st27 hQ27
      subst l27 y27 z27
      obtain ⟨rfl, N27q, K27q, Eq27, Fq27⟩ := hQ27
      have N27 := Fr.app N0 N27q
      have KC27 : Keep h0 T27.heap [] := K24.trans K27q (allS (Or.inr sz_b24) all0)
      have pre28 : Goes p e below s₁ (entryFrame m #[(.int p1)] 4) T27 (mkF m 35 #[.val (.int p1), .val (.long ((p1.toInt64) - (45 : Int64))), .second, .val (.int (0 : Int32))] [(.ref b24)]) := fun t kt => pre26 t (st27.trans kt)
      obtain ⟨cq29, kq29, q29a, q29b, q29c⟩ := isOf hZ rfl (A24.keep K27q)
      obtain ⟨_, _, ⟨T29, L29, k29, n29⟩, -, X29, ⟨Lc29, hQ29, l29, y29, z29⟩, st29⟩ := X27.virtualBack hx (y := (⟨"raveller/agent/ClassFileVersion", "isSupported", "()Z"⟩ : MethodName)) (z := (⟨"raveller/agent/ClassFileVersion", "isSupported", "()Z"⟩ : MethodName)) hown (mvT hZ (hw _ (List.mem_of_getElem? (i := 21) rfl))) (mvT hZ (hw _ (List.mem_of_getElem? (i := 22) rfl))) (notFace_of_selects (args := #[]) (mvT hZ (hw _ (List.mem_of_getElem? (i := 24) rfl)))) (mvT hZ (hw _ (List.mem_of_getElem? (i := 24) rfl))) (mvT hZ (hw _ (List.mem_of_getElem? (i := 23) rfl))) (by decide) (backOf (W := 0) (own_rm5 l Z a0 hw [] b24 p1 T27.heap n0 (Nat.le_trans (Nat.le_trans Z0 E24.1) K27q.1) Fq27) hZ (hw _ (List.mem_of_getElem? (i := 25) rfl)) (hw _ (List.mem_of_getElem? (i := 7) rfl)) (by decide) (by decide)) q29a q29c (g := (mkF m 35 #[.val (.int p1), .val (.long ((p1.toInt64) - (45 : Int64))), .second, .val (.int (0 : Int32))] [(.ref b24)])) rfl (by rw [hml]; rfl) (Steps.refl _) (argsL := []) (rest := []) (lenOf own_pd2 rfl) rfl (by show 2 * 0 + _ ≤ _; exact Nat.le_of_eq rfl) (hb hby own_d1_35) (fun _ _ => ⟨rfl, rfl, (by decide : 1 + 0 ≤ _), (by decide : 1 + 0 ≤ _)⟩)
      dsimp only [Pt.U, Pt.locs, Pt.cells, Pt.slots] at X29 l29 y29 z29 st29 hQ29
      subst l29 y29 z29
      obtain ⟨rfl, N29q, e29⟩ := hQ29
      have N29 := Fr.app N27 N29q
      have pre30 : Goes p e below s₁ (entryFrame m #[(.int p1)] 4) T29 (mkF m 38 #[.val (.int p1), .val (.long ((p1.toInt64) - (45 : Int64))), .second, .val (.int (0 : Int32))] [(.int (if (45 ≤ p1.toInt ∧ p1.toInt ≤ 61) then 1 else 0))]) := fun t kt => pre28 t (st29.trans kt)
      have pre31 : Goes p e below s₁ (entryFrame m #[(.int p1)] 4) T29 (mkF m 47 #[.val (.int p1), .val (.long ((p1.toInt64) - (45 : Int64))), .second, .val (.int (0 : Int32))] [(.int (1 : Int32))]) := fun t kt => pre30 t (by
          show Steps p.tables e below (T29.setTop (mkF m 38 #[.val (.int p1), .val (.long ((p1.toInt64) - (45 : Int64))), .second, .val (.int (0 : Int32))] [(.int (if (45 ≤ p1.toInt ∧ p1.toInt ≤ 61) then 1 else 0))])) _
          refine XS.iloadN X29.here hx rfl (hb hby own_d1_38) rfl ?_
          show Steps p.tables e below (T29.setTop (mkF m 39 #[.val (.int p1), .val (.long ((p1.toInt64) - (45 : Int64))), .second, .val (.int (0 : Int32))] [(.int (0 : Int32)), (.int (if (45 ≤ p1.toInt ∧ p1.toInt ≤ 61) then 1 else 0))])) _
          refine XS.icmpNo X29.here hx rfl (hb hby own_d1_39) rfl (teq (if_neg (own_n6 p1 hc10_2 hc18_13) : (if (45 ≤ p1.toInt ∧ p1.toInt ≤ 61) then 1 else 0) = (0 : Int32))).2 ?_
          show Steps p.tables e below (T29.setTop (mkF m 42 #[.val (.int p1), .val (.long ((p1.toInt64) - (45 : Int64))), .second, .val (.int (0 : Int32))] [])) _
          refine XS.iconst X29.here hx rfl (hb hby own_d1_42) ?_
          show Steps p.tables e below (T29.setTop (mkF m 43 #[.val (.int p1), .val (.long ((p1.toInt64) - (45 : Int64))), .second, .val (.int (0 : Int32))] [(.int (1 : Int32))])) _
          refine XS.goto X29.here hx rfl (pc0 := 43) (pc' := 47) rfl (hb hby own_d1_43) (by decide) (by decide) ?_
          exact kt)
      obtain ⟨fs, hr, hrun, hended, hW, hsame⟩ := X29.leave (v := some (.int (1 : Int32))) (fun h => by rw [Bd.returns] at h; cases h)
      refine ⟨_, _, pre31 _ ?_, hrun, hended, _, _, rfl, ?_, ⟨_, rfl⟩, hW, hsame.mono (by decide) (by decide)⟩
      · show Steps p.tables e below (T29.setTop (mkF m 47 #[.val (.int p1), .val (.long ((p1.toInt64) - (45 : Int64))), .second, .val (.int (0 : Int32))] [(.int (1 : Int32))])) _
        exact retN X29 hx (t := .boolean) Bd.returns (by simp) (hb hby own_d1_47) hr
      · show Q_own_rm1 Z p1 h0 n0 _ T29.heap _
        rw [e29]
        exact ⟨rfl, N29, KC27⟩
theorem own_pn_own_rm0 : plainName "raveller/agent/ClassFileVersionIsSupportedPinLaw" = true := by first | (simp [plainName, overriddenIn]; done) | decide +kernel
theorem own_ef_own_rm0 (m : MethodId) (x0 : Int32) (x1 : Int32) : entryFrame m #[(.int x0), (.int x1)] maxLocals = mkF m 0 #[.val (.int x0), .val (.int x1), .unset] [] := by first | (simp [entryFrame, mkF, argsToLocals, Value.category, maxLocals]; done) | rfl
def Q_own_rm0 (Z : State) (qx : Int32) (qy : Int32) (h0 : Heap) (n0 : Nat) (v : Option Value) (h : Heap) (L : List Loc) : Prop := v = some (.int (1 : Int32)) ∧ Fr n0 L
set_option maxRecDepth 65536 in
set_option maxHeartbeats 40000000 in
theorem own_rm0 (l : Launch) (Z : State) (a0 : Array Value) (hw : ∀ d ∈ tables_1, d.before a0 Z = true) (ws : List Jvm.Cond) (qx : Int32) (qy : Int32) (h0 : Heap) (n0 : Nat) (Z0 : n0 ≤ h0.size) :
    MetFree l x (head1 (Jvm.Cond.code x code maxLocals ret :: ws) room_1) (fun a U => a = #[(.int qx), (.int qy)] ∧ Z.Warmed39 U.vm ∧ U.heap = h0) (fun _ _ _ _ _ => True) (fun _ U o U' => ∃ v L, o = .returned v ∧ Q_own_rm0 Z qx qy h0 n0 v U'.heap L ∧ FrameEnd U o U' L room_1.cells room_1.slots) := by
  refine MetFree.of_bodySF (plainFor_of_name own_pn_own_rm0) hisR ?_
  intro p e s m args below meth c s₁ Bd hml0 hP hK
  obtain ⟨rfl, hZ, hh⟩ := hP
  have hx := Bd.exec
  have hby := Bd.bytes
  have hml : c.maxLocals = 3 := hml0
  have hown : s.vm.findClass "raveller/agent/ClassFileVersionIsSupportedPinLaw" = some m.cls := findClass_of_methodNamed Bd.named
  have hnm := (name_of_methodNamed Bd.named Bd.method).1
  have X0 : Stand p l e room_1 s m #[(.int qx), (.int qy)] below meth c s₁ [] 0 0 := Stand.of_body Bd
  have e0 : s₁.heap = h0 := by rw [← hh, Bd.state]; rfl
  have N0 := Fr.nil n0
  have pre0 : Goes p e below s₁ (entryFrame m #[(.int qx), (.int qy)] maxLocals) s₁ (mkF m 0 #[.val (.int qx), .val (.int qy), .unset] []) := fun t k => castTop (own_ef_own_rm0 m qx qy) k
  have pre1 : Goes p e below s₁ (entryFrame m #[(.int qx), (.int qy)] maxLocals) s₁ (mkF m 9 #[.val (.int qx), .val (.int qy), .val (.int ((37 : Int32) + (qy &&& (31 : Int32))))] [(.int qx)]) := fun t kt => pre0 t (by
      show Steps p.tables e below (s₁.setTop (mkF m 0 #[.val (.int qx), .val (.int qy), .unset] [])) _
      refine XS.bipush X0.here hx rfl (hb hby at_0) ?_
      show Steps p.tables e below (s₁.setTop (mkF m 2 #[.val (.int qx), .val (.int qy), .unset] [(.int (37 : Int32))])) _
      refine XS.iloadN X0.here hx rfl (hb hby at_2) rfl ?_
      show Steps p.tables e below (s₁.setTop (mkF m 3 #[.val (.int qx), .val (.int qy), .unset] [(.int qy), (.int (37 : Int32))])) _
      refine XS.bipush X0.here hx rfl (hb hby at_3) ?_
      show Steps p.tables e below (s₁.setTop (mkF m 5 #[.val (.int qx), .val (.int qy), .unset] [(.int (31 : Int32)), (.int qy), (.int (37 : Int32))])) _
      refine XS.iand X0.here hx rfl (hb hby at_5) rfl ?_
      show Steps p.tables e below (s₁.setTop (mkF m 6 #[.val (.int qx), .val (.int qy), .unset] [(.int (qy &&& (31 : Int32))), (.int (37 : Int32))])) _
      refine XS.iadd X0.here hx rfl (hb hby at_6) rfl ?_
      show Steps p.tables e below (s₁.setTop (mkF m 7 #[.val (.int qx), .val (.int qy), .unset] [(.int ((37 : Int32) + (qy &&& (31 : Int32))))])) _
      refine XS.istoreN X0.here hx rfl (hb hby at_7) rfl (l' := #[.val (.int qx), .val (.int qy), .val (.int ((37 : Int32) + (qy &&& (31 : Int32))))]) rfl ?_
      show Steps p.tables e below (s₁.setTop (mkF m 8 #[.val (.int qx), .val (.int qy), .val (.int ((37 : Int32) + (qy &&& (31 : Int32))))] [])) _
      refine XS.iloadN X0.here hx rfl (hb hby at_8) rfl ?_
      exact kt)
  obtain ⟨_, _, ⟨T2, L2, k2, n2⟩, -, X2, ⟨Lc2, hQ2, l2, y2, z2⟩, st2⟩ := Jvm.LawKit.callS X0 hx (y := (⟨"raveller/agent/ClassFileVersionIsSupportedPinLaw", "check", "(I)Z"⟩ : MethodName)) hown (mvT hZ (hw _ (List.mem_of_getElem? (i := 0) rfl))) (mvT hZ (hw _ (List.mem_of_getElem? (i := 1) rfl))) (mvT hZ (hw _ (List.mem_of_getElem? (i := 2) rfl))) (mvT hZ (hw _ (List.mem_of_getElem? (i := 3) rfl))) (by decide) (backOf (W := 0) (own_rm1 l Z a0 hw [] qx h0 n0 Z0 ) hZ (hw _ (List.mem_of_getElem? (i := 3) rfl)) (hw _ (List.mem_of_getElem? (i := 2) rfl)) (by decide) (by decide)) (g := (mkF m 9 #[.val (.int qx), .val (.int qy), .val (.int ((37 : Int32) + (qy &&& (31 : Int32))))] [(.int qx)])) rfl (by rw [hml]; rfl) (argsL := [(.int qx)]) (rest := []) (lenOf own_pd3 rfl) rfl (by show 2 * 0 + _ ≤ _; exact Nat.le_of_eq rfl) (hb hby at_9) (fun _ _ => ⟨rfl, e0, (by decide : 0 + 1 ≤ _), (by decide : 0 + 1 ≤ _)⟩)
  dsimp only [Pt.U, Pt.locs, Pt.cells, Pt.slots] at X2 l2 y2 z2 st2 hQ2
  subst l2 y2 z2
  obtain ⟨rfl, N2q, K2q⟩ := hQ2
  have N2 := Fr.app N0 N2q
  have KC2 : Keep h0 T2.heap [] := (Keep.refl h0 []).trans K2q all0
  have pre3 : Goes p e below s₁ (entryFrame m #[(.int qx), (.int qy)] maxLocals) T2 (mkF m 12 #[.val (.int qx), .val (.int qy), .val (.int ((37 : Int32) + (qy &&& (31 : Int32))))] [(.int (1 : Int32))]) := fun t kt => pre1 t (st2 t kt)
  have pre4 : Goes p e below s₁ (entryFrame m #[(.int qx), (.int qy)] maxLocals) T2 (mkF m 16 #[.val (.int qx), .val (.int qy), .val (.int ((37 : Int32) + (qy &&& (31 : Int32))))] [(.int ((37 : Int32) + (qy &&& (31 : Int32))))]) := fun t kt => pre3 t (by
      show Steps p.tables e below (T2.setTop (mkF m 12 #[.val (.int qx), .val (.int qy), .val (.int ((37 : Int32) + (qy &&& (31 : Int32))))] [(.int (1 : Int32))])) _
      refine XS.ifNo X2.here hx rfl (hb hby at_12) rfl ((if0 _ _).trans (feq (by decide : ¬ ((1 : Int32) = (0 : Int32)))).1) ?_
      show Steps p.tables e below (T2.setTop (mkF m 15 #[.val (.int qx), .val (.int qy), .val (.int ((37 : Int32) + (qy &&& (31 : Int32))))] [])) _
      refine XS.iloadN X2.here hx rfl (hb hby at_15) rfl ?_
      exact kt)
  obtain ⟨_, _, ⟨T5, L5, k5, n5⟩, -, X5, ⟨Lc5, hQ5, l5, y5, z5⟩, st5⟩ := Jvm.LawKit.callS X2 hx (y := (⟨"raveller/agent/ClassFileVersionIsSupportedPinLaw", "check", "(I)Z"⟩ : MethodName)) hown (mvT hZ (hw _ (List.mem_of_getElem? (i := 0) rfl))) (mvT hZ (hw _ (List.mem_of_getElem? (i := 1) rfl))) (mvT hZ (hw _ (List.mem_of_getElem? (i := 2) rfl))) (mvT hZ (hw _ (List.mem_of_getElem? (i := 3) rfl))) (by decide) (backOf (W := 0) (own_rm1 l Z a0 hw [] ((37 : Int32) + (qy &&& (31 : Int32))) T2.heap n0 (Nat.le_trans Z0 K2q.1) ) hZ (hw _ (List.mem_of_getElem? (i := 3) rfl)) (hw _ (List.mem_of_getElem? (i := 2) rfl)) (by decide) (by decide)) (g := (mkF m 16 #[.val (.int qx), .val (.int qy), .val (.int ((37 : Int32) + (qy &&& (31 : Int32))))] [(.int ((37 : Int32) + (qy &&& (31 : Int32))))])) rfl (by rw [hml]; rfl) (argsL := [(.int ((37 : Int32) + (qy &&& (31 : Int32))))]) (rest := []) (lenOf own_pd3 rfl) rfl (by show 2 * 0 + _ ≤ _; exact Nat.le_of_eq rfl) (hb hby at_16) (fun _ _ => ⟨rfl, rfl, (by decide : 1 + 1 ≤ _), (by decide : 1 + 1 ≤ _)⟩)
  dsimp only [Pt.U, Pt.locs, Pt.cells, Pt.slots] at X5 l5 y5 z5 st5 hQ5
  subst l5 y5 z5
  obtain ⟨rfl, N5q, K5q⟩ := hQ5
  have N5 := Fr.app N2 N5q
  have KC5 : Keep h0 T5.heap [] := KC2.trans K5q all0
  have pre6 : Goes p e below s₁ (entryFrame m #[(.int qx), (.int qy)] maxLocals) T5 (mkF m 19 #[.val (.int qx), .val (.int qy), .val (.int ((37 : Int32) + (qy &&& (31 : Int32))))] [(.int (1 : Int32))]) := fun t kt => pre4 t (st5 t kt)
  have pre7 : Goes p e below s₁ (entryFrame m #[(.int qx), (.int qy)] maxLocals) T5 (mkF m 27 #[.val (.int qx), .val (.int qy), .val (.int ((37 : Int32) + (qy &&& (31 : Int32))))] [(.int (1 : Int32))]) := fun t kt => pre6 t (by
      show Steps p.tables e below (T5.setTop (mkF m 19 #[.val (.int qx), .val (.int qy), .val (.int ((37 : Int32) + (qy &&& (31 : Int32))))] [(.int (1 : Int32))])) _
      refine XS.ifNo X5.here hx rfl (hb hby at_19) rfl ((if0 _ _).trans (feq (by decide : ¬ ((1 : Int32) = (0 : Int32)))).1) ?_
      show Steps p.tables e below (T5.setTop (mkF m 22 #[.val (.int qx), .val (.int qy), .val (.int ((37 : Int32) + (qy &&& (31 : Int32))))] [])) _
      refine XS.iconst X5.here hx rfl (hb hby at_22) ?_
      show Steps p.tables e below (T5.setTop (mkF m 23 #[.val (.int qx), .val (.int qy), .val (.int ((37 : Int32) + (qy &&& (31 : Int32))))] [(.int (1 : Int32))])) _
      refine XS.goto X5.here hx rfl (pc0 := 23) (pc' := 27) rfl (hb hby at_23) (by decide) (by decide) ?_
      exact kt)
  obtain ⟨fs, hr, hrun, hended, hW, hsame⟩ := X5.leave (v := some (.int (1 : Int32))) (fun h => by rw [Bd.returns] at h; cases h)
  refine ⟨_, _, pre7 _ ?_, hrun, hended, _, _, rfl, ?_, ⟨_, rfl⟩, hW, hsame.mono (by decide) (by decide)⟩
  · show Steps p.tables e below (T5.setTop (mkF m 27 #[.val (.int qx), .val (.int qy), .val (.int ((37 : Int32) + (qy &&& (31 : Int32))))] [(.int (1 : Int32))])) _
    exact retN X5 hx (t := .boolean) Bd.returns (by simp) (hb hby at_27) hr
  · show Q_own_rm0 Z qx qy h0 n0 _ T5.heap _
    exact ⟨rfl, N5⟩
set_option maxRecDepth 65536 in
set_option maxHeartbeats 40000000 in
theorem comes_1 {Post : Tables → Env → Array Value → State → Outcome → State → Prop} (hpost : ∀ tb e args s v u, (limb_1_1.after args s (.returned v) u = true ∧ limb_1_2.after args s (.returned v) u = true ∧ True) → FrameEnd s (.returned v) u (Jvm.fieldLocs frame_1_writes args s ++ Jvm.arrayLocs frame_1_arrays args s ++ Jvm.staticLocs frame_1_statics s) 16 128 → Post tb e args s (.returned v) u) :
    ArmFor flags0 classFile x code maxLocals ret World_1 tables_1 room_1 Calls_1 rest_1 Pre_1 Post := by
  intro l hfl _ _ p e ha hc hk s m args below hf hA hF happ hP
  obtain ⟨hcalls, hrest, hpre⟩ := hP
  obtain ⟨-, -, -, hnamed, -, -, -, hat⟩ := (Spec.applies_iff hf).mp happ
  obtain ⟨hg, hn⟩ := and_e (Cond.before_iff.mp (show (Jvm.Cond.and given_1 narrow_1).before args s = true from hpre))
  obtain ⟨g5, g6⟩ := and_e hg
  obtain ⟨g7, g8⟩ := and_e g6
  obtain ⟨w0, w1, rfl⟩ : ∃ w0 w1 : Value, args = #[w0, w1] := by
    have hs : args.size = 2 := by simpa [Cond.value, given_1] using g5
    obtain ⟨L⟩ := args
    match L, hs with
    | [w0, w1], _ => exact ⟨w0, w1, rfl⟩
  have hw := fun d (hd : d ∈ tables_1) => atoms_spec (ws := Jvm.Cond.code x code maxLocals ret :: tables_1) hat d (List.mem_cons_of_mem _ hd)
  have hfit : Fit s := fun {y c} hc i hi => by
    obtain ⟨ha, rfl⟩ := Array.getElem?_eq_some_iff.mp hc
    have q := List.all_eq_true.mp ((Array.all_eq_true_iff_forall_mem.mp hF) _ (Array.getElem_mem ha)) i (List.mem_range.mpr hi)
    simpa [Array.getElem?_eq_getElem hi] using q
  obtain ⟨i0, ei0⟩ := is_v g7
  obtain rfl : w0 = (.int i0) := Option.some.inj ei0
  obtain ⟨i1, ei1⟩ := is_v g8
  obtain rfl : w1 = (.int i1) := Option.some.inj ei1
  obtain ⟨n, o, h1, h2, h3, _, L, rfl, ⟨rfl, N⟩, hq⟩ := own_rm0 l s _ hw tables_1 i0 i1  s.heap s.heap.size (Nat.le_refl _)  p e ha hc hk s m _ below hf ((Spec.applies_iff_loose hf).mp happ).1 ⟨rfl, State.Warmed39.refl s, rfl⟩ trivial
  refine ⟨n, _, h1, h2, h3, hpost _ _ _ _ _ _ ⟨Cond.after_iff.mpr rfl, Cond.after_iff.mpr (eq_i res_at (Term.int_eval (1)) rfl), trivial⟩ ⟨hq.1, hq.2.1, (hq.2.2.sift fun y hy => Or.inr (N y hy)).mono (by decide) (by decide)⟩⟩
theorem main_1_1 : Claimed_1_1 := comes_1 fun _ _ _ _ _ _ h hF => ⟨h.1, hF⟩
theorem main_1_2 : Claimed_1_2 := comes_1 fun _ _ _ _ _ _ h hF => ⟨h.2.1, hF⟩
end Jvm.Pilot.@@N@@
namespace Jvm.Pilot.@@N@@
open Jvm Jvm.ClassFile Sem Op Lib Jvm.Free Jvm.Stand Jvm.Pilot.@@N@@.Jvm.D
/-! MADE BY PROGRAM (witnessworld.py) out of the Statement's table words and the real class files: 10 classes; the members and pool entries that the words name. The judged class is class 1, her method 1. -/
namespace start1
open Jvm.ClassFile
def u (s : String) : CpInfo := .utf8 (stringToUtf16 s)
/-- a pool by its gaps: so many unusable entries, then the entry; so many at the end -/
def gap : Nat → List CpInfo → List CpInfo
  | 0, r => r
  | n + 1, r => .unusable :: gap n r
def poolList (es : List (Nat × CpInfo)) (last : Nat) : List CpInfo := es.foldr (fun e r => gap e.1 (e.2 :: r)) (gap last [])
def pool (es : List (Nat × CpInfo)) (last : Nat) : Array CpInfo := ⟨poolList es last⟩
def fileOf (pool : Array CpInfo) (this : Nat) (attrs : Array Attribute := #[]) (ms : Array MethodInfo := #[]) (fl : Nat := 33) (sup : Nat := 0) (ifs : Array Nat := #[]) (fds : Array FieldInfo := #[]) : ClassFile where
  minorVersion := 0
  majorVersion := 65
  constantPool := pool
  accessFlags := fl
  thisClass := this
  superClass := sup
  interfaces := ifs
  fields := fds
  methods := ms
  attributes := attrs
def plain (name : String) (sup : Option ClassId) : Class where
  name := name
  kind := .ordinary
  loader := none
  accessFlags := 33
  super := sup
  interfaces := #[]
  cf := none
  fields := #[]
  methods := #[]
  instanceTypes := #[]
  staticTypes := #[]
  resolved := #[]
  callSites := []
  init := .initialized
  statics := none
  mirror := none

def pool0 : Array CpInfo := pool [(5, u "<init>"), (0, u "()V"), (1, .class_ 10), (1, u "java/lang/Object")] 113

def k0c0 : Code := { maxStack := 0, maxLocals := 1, code := object_method_1_code, exceptionTable := #[], attributes := #[] }
def k0m0 : Method := { name := "<init>", desc := "()V", sig := { parameters := [], returnType := none }, accessFlags := 1, code := some k0c0 }
/-- java/lang/Object -/
def k0 : Class := { plain "java/lang/Object" none with
  accessFlags := 33
  interfaces := #[]
  cf := some (fileOf pool0 8 #[] #[{ accessFlags := 1, nameIndex := 5, descriptorIndex := 6, attributes := #[] }] 33 0 #[] #[])
  fields := #[]
  methods := #[k0m0]
  instanceTypes := #[]
  staticTypes := #[]
  resolved := Array.replicate 124 none
  statics := none }

def pool1 : Array CpInfo := pool [(2, .class_ 4), (1, u "java/lang/Object"), (0, u "<init>"), (0, u "()V"), (0, .methodref 8 9), (0, .class_ 10), (0, .nameAndType 11 12), (0, u "raveller/agent/ClassFileVersionIsSupportedPinLaw"), (0, u "check"), (0, u "(I)Z"), (0, .long 45), (1, .long 17), (1, .class_ 18), (0, u "raveller/agent/ClassFileVersion"), (0, .methodref 17 20), (0, .nameAndType 5 21), (0, u "(I)V"), (0, .methodref 17 23), (0, .nameAndType 24 25), (0, u "isSupported"), (0, u "()Z"), (2, u "law"), (0, u "(II)Z")] 3

def k1m0 : Method := { name := "<init>", desc := "()V", sig := { parameters := [], returnType := none }, accessFlags := 1, code := none }
def k1c1 : Code := { maxStack := 3, maxLocals := 3, code := code, exceptionTable := #[], attributes := #[] }
def k1m1 : Method := { name := "law", desc := "(II)Z", sig := { parameters := [.int, .int], returnType := some .boolean }, accessFlags := 9, code := some k1c1 }
def k1c2 : Code := { maxStack := 4, maxLocals := 4, code := method_3_code, exceptionTable := #[], attributes := #[] }
def k1m2 : Method := { name := "check", desc := "(I)Z", sig := { parameters := [.int], returnType := some .boolean }, accessFlags := 10, code := some k1c2 }
/-- raveller/agent/ClassFileVersionIsSupportedPinLaw -/
def k1 : Class := { plain "raveller/agent/ClassFileVersionIsSupportedPinLaw" (some 0) with
  accessFlags := 49
  interfaces := #[]
  cf := some (fileOf pool1 8 #[] #[{ accessFlags := 1, nameIndex := 5, descriptorIndex := 6, attributes := #[] }, { accessFlags := 9, nameIndex := 28, descriptorIndex := 29, attributes := #[] }, { accessFlags := 10, nameIndex := 11, descriptorIndex := 12, attributes := #[] }] 49 2 #[] #[])
  fields := #[]
  methods := #[k1m0, k1m1, k1m2]
  instanceTypes := #[]
  staticTypes := #[]
  resolved := Array.replicate 33 none
  statics := none }

def pool2 : Array CpInfo := pool [(1, .methodref 2 3), (0, .class_ 4), (0, .nameAndType 5 6), (0, u "java/lang/Object"), (0, u "<init>"), (0, u "()V"), (0, .class_ 8), (0, u "java/lang/Record")] 13

def k2c0 : Code := { maxStack := 1, maxLocals := 1, code := jdk_30_method_1_code, exceptionTable := #[], attributes := #[] }
def k2m0 : Method := { name := "<init>", desc := "()V", sig := { parameters := [], returnType := none }, accessFlags := 4, code := some k2c0 }
/-- java/lang/Record -/
def k2 : Class := { plain "java/lang/Record" (some 0) with
  accessFlags := 1057
  interfaces := #[]
  cf := some (fileOf pool2 7 #[] #[{ accessFlags := 4, nameIndex := 5, descriptorIndex := 6, attributes := #[] }] 1057 2 #[] #[])
  fields := #[]
  methods := #[k2m0]
  instanceTypes := #[]
  staticTypes := #[]
  resolved := Array.replicate 22 none
  statics := none }

def pool3 : Array CpInfo := pool [(1, .methodref 2 3), (0, .class_ 4), (0, .nameAndType 5 6), (0, u "java/lang/Record"), (0, u "<init>"), (0, u "()V"), (0, .fieldref 8 9), (0, .class_ 10), (0, .nameAndType 11 12), (0, u "raveller/agent/ClassFileVersion"), (0, u "major"), (0, u "I"), (17, u "(I)V"), (12, u "OLDEST_SUPPORTED"), (2, u "NEWEST_SUPPORTED"), (1, u "MAGIC"), (6, u "isSupported"), (0, u "()Z")] 22

def k3c0 : Code := { maxStack := 2, maxLocals := 2, code := prog_1_method_1_code, exceptionTable := #[], attributes := #[] }
def k3m0 : Method := { name := "<init>", desc := "(I)V", sig := { parameters := [.int], returnType := none }, accessFlags := 1, code := some k3c0 }
def k3c1 : Code := { maxStack := 2, maxLocals := 1, code := prog_1_method_3_code, exceptionTable := #[], attributes := #[] }
def k3m1 : Method := { name := "isSupported", desc := "()Z", sig := { parameters := [], returnType := some .boolean }, accessFlags := 1, code := some k3c1 }
/-- raveller/agent/ClassFileVersion -/
def k3 : Class := { plain "raveller/agent/ClassFileVersion" (some 2) with
  accessFlags := 49
  interfaces := #[]
  cf := some (fileOf pool3 8 #[] #[{ accessFlags := 1, nameIndex := 5, descriptorIndex := 30, attributes := #[] }, { accessFlags := 1, nameIndex := 55, descriptorIndex := 56, attributes := #[] }] 49 2 #[] #[{ accessFlags := 18, nameIndex := 11, descriptorIndex := 12, attributes := #[] }, { accessFlags := 25, nameIndex := 43, descriptorIndex := 12, attributes := #[] }, { accessFlags := 25, nameIndex := 46, descriptorIndex := 12, attributes := #[] }, { accessFlags := 26, nameIndex := 48, descriptorIndex := 12, attributes := #[] }])
  fields := #[{ name := "major", type := .int, accessFlags := 18, slot := 0, constantValue := 0 }, { name := "OLDEST_SUPPORTED", type := .int, accessFlags := 25, slot := 0, constantValue := 0 }, { name := "NEWEST_SUPPORTED", type := .int, accessFlags := 25, slot := 1, constantValue := 0 }, { name := "MAGIC", type := .int, accessFlags := 26, slot := 2, constantValue := 0 }]
  methods := #[k3m0, k3m1]
  instanceTypes := #[.int]
  staticTypes := #[.int, .int, .int]
  resolved := Array.replicate 79 none
  statics := none }

def pool4 : Array CpInfo := pool [(1, u "java/lang/Cloneable"), (0, .class_ 1), (0, u "java/lang/Object"), (0, .class_ 3)] 3

/-- java/lang/Cloneable -/
def k4 : Class := { plain "java/lang/Cloneable" (some 0) with
  accessFlags := 1537
  interfaces := #[]
  cf := some (fileOf pool4 2 #[] #[] 1537 4 #[] #[])
  fields := #[]
  methods := #[]
  instanceTypes := #[]
  staticTypes := #[]
  resolved := Array.replicate 8 none
  statics := none }

def pool5 : Array CpInfo := pool [(1, u "java/io/Serializable"), (0, .class_ 1), (0, u "java/lang/Object"), (0, .class_ 3)] 3

/-- java/io/Serializable -/
def k5 : Class := { plain "java/io/Serializable" (some 0) with
  accessFlags := 1537
  interfaces := #[]
  cf := some (fileOf pool5 2 #[] #[] 1537 4 #[] #[])
  fields := #[]
  methods := #[]
  instanceTypes := #[]
  staticTypes := #[]
  resolved := Array.replicate 8 none
  statics := none }

/-- the primitive byte -/
def k6 : Class := { plain "byte" none with kind := .primitive 'B', accessFlags := 0x411 }
/-- [B -/
def k7 : Class := { plain "[B" (some 0) with kind := .array 6 .byte, interfaces := #[4, 5], accessFlags := 1041 }

/-- the primitive int -/
def k8 : Class := { plain "int" none with kind := .primitive 'I', accessFlags := 0x411 }
/-- [I -/
def k9 : Class := { plain "[I" (some 0) with kind := .array 8 .int, interfaces := #[4, 5], accessFlags := 1041 }

def heap : Heap := #[]
def classes : Array Class := #[k0, k1, k2, k3, k4, k5, k6, k7, k8, k9]
def interned : List (Array UInt16 × Addr) := []
def slotsUsed : Nat := 0
def theMethod : MethodId := ⟨1, 1⟩
def args0 : Array Value := #[.int 5, .int 3]
def aboutOver (below : List Frame) : State where
  vm := { classes := classes, interned := interned.toArray }
  heap := heap
  slotsUsed := slotsUsed
  threads := #[{ frames := .invoking theMethod args0 :: below }]
def below0 : List Frame := [.native { method := ⟨0, 0⟩, args := #[] }]
def about1 : State := aboutOver below0
def p0 : Program := .bare "" "" ""
def e0 : Env := launch0.env 0 0 0
theorem w_frames : about1.frames = Frame.invoking theMethod args0 :: below0 := rfl
set_option maxRecDepth 65536 in
theorem w_args : argsFit about1.vm theMethod args0 = true := by decide +kernel
set_option maxRecDepth 65536 in
theorem w_heap : heapFits about1 = true := by decide +kernel
set_option maxRecDepth 65536 in
theorem w_runnable : about1.curStatus? = some .runnable := by decide +kernel
set_option maxRecDepth 65536 in
theorem w_alone : about1.alone = true := by decide +kernel
set_option maxRecDepth 65536 in
theorem w_named : about1.methodNamed? x = some theMethod := by decide +kernel
set_option maxRecDepth 65536 in
theorem w_hears : about1.hears theMethod below0 = true := by decide +kernel
set_option maxRecDepth 65536 in
theorem w_ripe : about1.ripe theMethod args0 below0 = true := by decide +kernel
theorem w_running : about1.status = .running := rfl
set_option maxRecDepth 65536 in
theorem w_room : about1.hasRoom e0.platform room_1 = true :=
  launch0.hasRoom_least _ room_1 (by decide +kernel) (by decide +kernel) (by decide +kernel) (by decide +kernel) (by decide +kernel) (by decide +kernel)
theorem allAtoms_all (ts : List Jvm.Cond) (a : Array Jvm.Value) (st : Jvm.State) : (allAtoms ts).before a st = ts.all (fun c => c.before a st) := by
  induction ts with
  | nil => rfl
  | cons c t ih =>
    show (Jvm.Cond.and c (allAtoms t)).before a st = _
    rw [Jvm.Cond.before_and, ih, List.all_cons]
def words1 : List Jvm.Cond := Jvm.Cond.code x code maxLocals ret :: tables_1
/-- a 'code' word, met by the world's own term for the bytes: nothing is compared byte by byte -/
theorem code_word {y : MethodName} {bytes : ByteArray} {mx : Nat} {rt : Option FieldType} {a : Array Value} {s : State} {m : MethodId} {meth : Method} {c : Code} (h1 : s.methodNamed? y = some m) (h2 : s.vm.method? m = some meth) (h3 : meth.code = some c) (h4 : c.code = bytes)
    (h5 : (c.maxLocals == mx && c.exceptionTable.isEmpty && decide (c.maxStack ≤ mostOperands) && decide (meth.sig.returnType = rt) && !meth.locks && decide (parseMethodDescriptor y.desc = some meth.sig)) = true) : (Jvm.Cond.code y bytes mx rt).before a s = true := by
  simp only [Bool.and_eq_true, beq_iff_eq, Bool.not_eq_true', decide_eq_true_eq] at h5
  obtain ⟨⟨⟨⟨⟨g1, g2⟩, g3⟩, g4⟩, g5⟩, g6⟩ := h5
  simp [Cond.before, Cond.holds, Cond.value, h1, h2, h3, h4, g1, g2, g3, g4, g5, g6]
def isCode : Jvm.Cond → Bool
  | .code _ _ _ _ => true
  | _ => false
theorem all_split {L : List Jvm.Cond} {P : Jvm.Cond → Bool} (h1 : L.all (fun c => isCode c || P c) = true) (h2 : ∀ c ∈ L.filter isCode, P c = true) : L.all P = true := by
  refine List.all_eq_true.mpr fun c hc => ?_
  have h := List.all_eq_true.mp h1 c hc
  rcases Bool.eq_false_or_eq_true (isCode c) with hi | hi
  · exact h2 c (List.mem_filter.mpr ⟨hc, hi⟩)
  · simpa [hi] using h
set_option maxRecDepth 65536 in
theorem w_c0 : (Jvm.Cond.code x code maxLocals ret).before args0 about1 = true := code_word (m := ⟨1, 1⟩) (meth := k1m1) (c := k1c1) (by decide +kernel) rfl rfl rfl (by decide +kernel)
set_option maxRecDepth 65536 in
theorem w_c1 : (Jvm.Cond.code ({ cls := "raveller/agent/ClassFileVersionIsSupportedPinLaw", name := "check", desc := "(I)Z" } : Jvm.MethodName) method_3_code (4 : Nat) (Option.some Jvm.ClassFile.FieldType.boolean)).before args0 about1 = true := code_word (m := ⟨1, 2⟩) (meth := k1m2) (c := k1c2) (by decide +kernel) rfl rfl rfl (by decide +kernel)
set_option maxRecDepth 65536 in
theorem w_c2 : (Jvm.Cond.code ({ cls := "raveller/agent/ClassFileVersion", name := "<init>", desc := "(I)V" } : Jvm.MethodName) prog_1_method_1_code (2 : Nat) (Option.none : Option Jvm.ClassFile.FieldType)).before args0 about1 = true := code_word (m := ⟨3, 0⟩) (meth := k3m0) (c := k3c0) (by decide +kernel) rfl rfl rfl (by decide +kernel)
set_option maxRecDepth 65536 in
theorem w_c3 : (Jvm.Cond.code ({ cls := "java/lang/Record", name := "<init>", desc := "()V" } : Jvm.MethodName) jdk_30_method_1_code (1 : Nat) (Option.none : Option Jvm.ClassFile.FieldType)).before args0 about1 = true := code_word (m := ⟨2, 0⟩) (meth := k2m0) (c := k2c0) (by decide +kernel) rfl rfl rfl (by decide +kernel)
set_option maxRecDepth 65536 in
theorem w_c4 : (Jvm.Cond.code ({ cls := "java/lang/Object", name := "<init>", desc := "()V" } : Jvm.MethodName) object_method_1_code (1 : Nat) (Option.none : Option Jvm.ClassFile.FieldType)).before args0 about1 = true := code_word (m := ⟨0, 0⟩) (meth := k0m0) (c := k0c0) (by decide +kernel) rfl rfl rfl (by decide +kernel)
set_option maxRecDepth 65536 in
theorem w_c5 : (Jvm.Cond.code ({ cls := "raveller/agent/ClassFileVersion", name := "isSupported", desc := "()Z" } : Jvm.MethodName) prog_1_method_3_code (1 : Nat) (Option.some Jvm.ClassFile.FieldType.boolean)).before args0 about1 = true := code_word (m := ⟨3, 1⟩) (meth := k3m1) (c := k3c1) (by decide +kernel) rfl rfl rfl (by decide +kernel)
def codes1 : List Jvm.Cond := [Jvm.Cond.code x code maxLocals ret, Jvm.Cond.code ({ cls := "raveller/agent/ClassFileVersionIsSupportedPinLaw", name := "check", desc := "(I)Z" } : Jvm.MethodName) method_3_code (4 : Nat) (Option.some Jvm.ClassFile.FieldType.boolean), Jvm.Cond.code ({ cls := "raveller/agent/ClassFileVersion", name := "<init>", desc := "(I)V" } : Jvm.MethodName) prog_1_method_1_code (2 : Nat) (Option.none : Option Jvm.ClassFile.FieldType), Jvm.Cond.code ({ cls := "java/lang/Record", name := "<init>", desc := "()V" } : Jvm.MethodName) jdk_30_method_1_code (1 : Nat) (Option.none : Option Jvm.ClassFile.FieldType), Jvm.Cond.code ({ cls := "java/lang/Object", name := "<init>", desc := "()V" } : Jvm.MethodName) object_method_1_code (1 : Nat) (Option.none : Option Jvm.ClassFile.FieldType), Jvm.Cond.code ({ cls := "raveller/agent/ClassFileVersion", name := "isSupported", desc := "()Z" } : Jvm.MethodName) prog_1_method_3_code (1 : Nat) (Option.some Jvm.ClassFile.FieldType.boolean)]
set_option maxRecDepth 65536 in
theorem codes_eq : words1.filter isCode = codes1 := rfl
theorem w_codes : ∀ c ∈ words1.filter isCode, c.before args0 about1 = true := by
  rw [codes_eq]
  intro c hc
  simp only [codes1, List.mem_cons, List.not_mem_nil, or_false] at hc
  rcases hc with rfl | rfl | rfl | rfl | rfl | rfl
  · exact w_c0
  · exact w_c1
  · exact w_c2
  · exact w_c3
  · exact w_c4
  · exact w_c5
set_option maxRecDepth 65536 in
theorem w_t1 : (words1.take 24).all (fun c => isCode c || c.before args0 about1) = true := by decide +kernel
set_option maxRecDepth 65536 in
theorem w_t2 : (words1.drop 24).all (fun c => isCode c || c.before args0 about1) = true := by decide +kernel
theorem w_tables : (allAtoms (Jvm.Cond.code x code maxLocals ret :: tables_1)).before args0 about1 = true := by
  rw [allAtoms_all]
  show words1.all (fun c => c.before args0 about1) = true
  refine all_split ?_ w_codes
  rw [← List.take_append_drop 24 words1, List.all_append, w_t1, w_t2]
  rfl
set_option maxRecDepth 65536 in
theorem w_case : (Jvm.Cond.and given_1 narrow_1).before args0 about1 = true := by decide +kernel
theorem w_applies : (headSpec (Jvm.Cond.code x code maxLocals ret :: tables_1) room_1).applies x e0.platform about1 = true :=
  (Spec.applies_iff w_frames).mpr ⟨w_running, w_runnable, w_alone, w_named, w_hears, w_ripe, w_room, w_tables⟩
theorem atStart : AtStart classFile x code maxLocals ret World_1 tables_1 room_1 Calls_1 rest_1 Pre_1 launch0 p0 e0 about1 theMethod args0 below0 :=
  ⟨lists_1, trivial, launch0.admits_env _ _ _, launch0.least_env, fairChoices_fair.cas, fairChoices_fair.clock, w_frames, w_args, w_heap, w_applies, trivial, trivial, w_case⟩
end start1
theorem witness_1 : WitnessClaimed_1 := ⟨start1.p0, start1.e0, start1.about1, start1.theMethod, start1.args0, start1.below0, start1.atStart⟩
end Jvm.Pilot.@@N@@
