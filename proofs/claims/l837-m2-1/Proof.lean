import JvmDerived
import JvmDerived.Pilot.@@N@@Statement
import JvmDerived.Pilot.@@N@@Code
set_option linter.unusedVariables false
set_option linter.unusedSimpArgs false
namespace Jvm.RoadKit
open Sem ClassFile Op Lib Jvm.Stand Jvm.Free Jvm.LawKit
section New
variable {p : Program} {l : Launch} {e : Env} {R : Room} {s : State} {m : MethodId} {args : Array Value} {below : List Frame} {meth : Method} {c : Code} {T : State} {locs : List Loc} {cells slots : Nat}
theorem retI (X : Stand p l e R s m args below meth c T locs cells slots) (hx : p.tables.exec = Jvm.exec) {pc : Nat} {Ls : Array Slot} {z : Int32} {rest : List Value} (hret : meth.sig.returnType = some .int) (hd : decode c.code pc = .ok (.ireturn, 1)) {fs : List Frame}
    (hl : ∀ (f : JFrame) (acts : List Action), f.method = m → f.locked = none → f.entered = [] → (doReturn e (T.setTop f) acts (some (.int z))).1 = T.setFrames fs) : Steps p.tables e below (T.setTop (mkF m pc Ls (.int z :: rest))) (T.setFrames fs) := by
  have hm' : T.vm.method? m = some meth := X.method'
  have hn : narrow .int (.int z) = .int z := rfl
  show Steps p.tables e below (T.setTop { method := m, pc := pc, locals := Ls, stack := _ :: rest, locked := none }) _
  jvm_step X.here [X.here.top, hx, hd, hm', hret, hn]
  first | (intro acts; rw [hl _ acts rfl rfl rfl]) | rw [hl _ _ rfl rfl rfl]
  exact Steps.refl _
end New
end Jvm.RoadKit
namespace Jvm.Pilot.@@N@@
open Jvm Jvm.ClassFile Sem Op Lib Jvm.Free Jvm.Stand Jvm.LawKit Jvm.RoadKit Bundle Jvm.Pilot.@@N@@.Jvm.D
theorem own_pd0 : parseMethodDescriptor "()V" = some ⟨[], none⟩ := by decide +kernel
theorem own_pd1 : parseMethodDescriptor "(II)V" = some ⟨[.int, .int], none⟩ := by decide +kernel
theorem own_pd2 : parseMethodDescriptor "(I)Z" = some ⟨[.int], some .boolean⟩ := by decide +kernel
theorem own_n1 (p2 : Int32) (wf : Int32) (wl : Int32) (a0 : p2 < wf) : ¬ (wf.toInt ≤ p2.toInt ∧ p2.toInt ≤ wl.toInt) := by
  have c0 := Int32.lt_iff_toInt_lt.mp a0
  have nf1 := rng32 p2
  have nf2 := rng32 wf
  omega
theorem own_n2 (p2 : Int32) (wf : Int32) (wl : Int32) (a0 : ¬ (p2 < wf)) (a1 : wl < p2) : ¬ (wf.toInt ≤ p2.toInt ∧ p2.toInt ≤ wl.toInt) := by
  have c0 : ¬ (p2.toInt < wf.toInt) := fun q => a0 (Int32.lt_iff_toInt_lt.mpr q)
  have c1 := Int32.lt_iff_toInt_lt.mp a1
  have nf1 := rng32 p2
  have nf2 := rng32 wf
  have nf3 := rng32 wl
  omega
theorem own_n3 (p2 : Int32) (wf : Int32) (wl : Int32) (a0 : ¬ (p2 < wf)) (a1 : ¬ (wl < p2)) : (wf.toInt ≤ p2.toInt ∧ p2.toInt ≤ wl.toInt) := by
  have c0 : ¬ (p2.toInt < wf.toInt) := fun q => a0 (Int32.lt_iff_toInt_lt.mpr q)
  have c1 : ¬ (wl.toInt < p2.toInt) := fun q => a1 (Int32.lt_iff_toInt_lt.mpr q)
  have nf1 := rng32 p2
  have nf2 := rng32 wf
  have nf3 := rng32 wl
  omega
theorem own_n4 (probe : Int32) (pf : Int32) (pl : Int32) (a0 : (lcmpW ((probe.toInt64) - (pf.toInt64)) (0 : Int64)) < (0 : Int32)) : ¬ (pf.toInt ≤ probe.toInt ∧ probe.toInt ≤ pl.toInt) := by
  have c0 := Int32.lt_iff_toInt_lt.mp a0
  have nf1 := rng32 probe
  have nr2 := rng64 (probe.toInt64)
  have nf2 := c_i2l probe
  have nf3 := rng32 pf
  have nr4 := rng64 (pf.toInt64)
  have nf4 := c_i2l pf
  have nr5 := rng64 ((probe.toInt64) - (pf.toInt64))
  have nf5 := c_lsub (probe.toInt64) (pf.toInt64)
  have nf6 : (0 : Int64).toInt = 0 := by decide
  have nf7 := c_lcmp ((probe.toInt64) - (pf.toInt64)) (0 : Int64)
  have nf8 : (0 : Int32).toInt = 0 := by decide
  omega
theorem own_n5 (probe : Int32) (pf : Int32) (pl : Int32) (a0 : ¬ ((lcmpW ((probe.toInt64) - (pf.toInt64)) (0 : Int64)) < (0 : Int32))) (a1 : (lcmpW ((pl.toInt64) - (probe.toInt64)) (0 : Int64)) < (0 : Int32)) : ¬ (pf.toInt ≤ probe.toInt ∧ probe.toInt ≤ pl.toInt) := by
  have c0 : ¬ ((lcmpW ((probe.toInt64) - (pf.toInt64)) (0 : Int64)).toInt < (0 : Int32).toInt) := fun q => a0 (Int32.lt_iff_toInt_lt.mpr q)
  have c1 := Int32.lt_iff_toInt_lt.mp a1
  have nf1 := rng32 probe
  have nr2 := rng64 (probe.toInt64)
  have nf2 := c_i2l probe
  have nf3 := rng32 pf
  have nr4 := rng64 (pf.toInt64)
  have nf4 := c_i2l pf
  have nr5 := rng64 ((probe.toInt64) - (pf.toInt64))
  have nf5 := c_lsub (probe.toInt64) (pf.toInt64)
  have nf6 : (0 : Int64).toInt = 0 := by decide
  have nf7 := c_lcmp ((probe.toInt64) - (pf.toInt64)) (0 : Int64)
  have nf8 : (0 : Int32).toInt = 0 := by decide
  have nf9 := rng32 pl
  have nr10 := rng64 (pl.toInt64)
  have nf10 := c_i2l pl
  have nr11 := rng64 ((pl.toInt64) - (probe.toInt64))
  have nf11 := c_lsub (pl.toInt64) (probe.toInt64)
  have nf12 := c_lcmp ((pl.toInt64) - (probe.toInt64)) (0 : Int64)
  omega
theorem own_n6 (probe : Int32) (pf : Int32) (pl : Int32) (a0 : ¬ ((lcmpW ((probe.toInt64) - (pf.toInt64)) (0 : Int64)) < (0 : Int32))) (a1 : ¬ ((lcmpW ((pl.toInt64) - (probe.toInt64)) (0 : Int64)) < (0 : Int32))) : (pf.toInt ≤ probe.toInt ∧ probe.toInt ≤ pl.toInt) := by
  have c0 : ¬ ((lcmpW ((probe.toInt64) - (pf.toInt64)) (0 : Int64)).toInt < (0 : Int32).toInt) := fun q => a0 (Int32.lt_iff_toInt_lt.mpr q)
  have c1 : ¬ ((lcmpW ((pl.toInt64) - (probe.toInt64)) (0 : Int64)).toInt < (0 : Int32).toInt) := fun q => a1 (Int32.lt_iff_toInt_lt.mpr q)
  have nf1 := rng32 probe
  have nr2 := rng64 (probe.toInt64)
  have nf2 := c_i2l probe
  have nf3 := rng32 pf
  have nr4 := rng64 (pf.toInt64)
  have nf4 := c_i2l pf
  have nr5 := rng64 ((probe.toInt64) - (pf.toInt64))
  have nf5 := c_lsub (probe.toInt64) (pf.toInt64)
  have nf6 : (0 : Int64).toInt = 0 := by decide
  have nf7 := c_lcmp ((probe.toInt64) - (pf.toInt64)) (0 : Int64)
  have nf8 : (0 : Int32).toInt = 0 := by decide
  have nf9 := rng32 pl
  have nr10 := rng64 (pl.toInt64)
  have nf10 := c_i2l pl
  have nr11 := rng64 ((pl.toInt64) - (probe.toInt64))
  have nf11 := c_lsub (pl.toInt64) (probe.toInt64)
  have nf12 := c_lcmp ((pl.toInt64) - (probe.toInt64)) (0 : Int64)
  omega
theorem own_d2_0 : decode jdk_30_method_1_code 0 = .ok (.aload_n 0, 1) := by decide +kernel
theorem own_d2_1 : decode jdk_30_method_1_code 1 = .ok (.invokespecial 1, 3) := by decide +kernel
theorem own_d2_4 : decode jdk_30_method_1_code 4 = .ok (.return_, 1) := by decide +kernel
theorem own_pn_own_rm2 : plainName "java/lang/Record" = true := by first | (simp [plainName, overriddenIn]; done) | decide +kernel
theorem own_ef_own_rm2 (m : MethodId) (x0 : Addr) : entryFrame m #[(.ref x0)] 1 = mkF m 0 #[.val (.ref x0)] [] := by first | (simp [entryFrame, mkF, argsToLocals, Value.category]; done) | rfl
def Q_own_rm2 (Z : State) (a1 : Addr) (h0 : Heap) (n0 : Nat) (v : Option Value) (h : Heap) (L : List Loc) : Prop := v = none ∧ Fr n0 L ∧ h = h0
set_option maxRecDepth 65536 in
set_option maxHeartbeats 40000000 in
theorem own_rm2 (l : Launch) (Z : State) (a0 : Array Value) (hw : ∀ d ∈ tables_1, d.before a0 Z = true) (ws : List Jvm.Cond) (a1 : Addr) (h0 : Heap) (n0 : Nat) (Z0 : n0 ≤ h0.size) :
    MetFree l (⟨"java/lang/Record", "<init>", "()V"⟩ : MethodName) (head1 (Jvm.Cond.code (⟨"java/lang/Record", "<init>", "()V"⟩ : MethodName) jdk_30_method_1_code 1 none :: ws) ({ frames := 1, cells := 0, slots := 0, locals := 12 } : Room)) (fun a U => a = #[(.ref a1)] ∧ Z.Warmed39 U.vm ∧ U.heap = h0) (fun _ _ _ _ _ => True) (fun _ U o U' => ∃ v L, o = .returned v ∧ Q_own_rm2 Z a1 h0 n0 v U'.heap L ∧ FrameEnd U o U' L ({ frames := 1, cells := 0, slots := 0, locals := 12 } : Room).cells ({ frames := 1, cells := 0, slots := 0, locals := 12 } : Room).slots) := by
  refine MetFree.of_bodySF (plainFor_of_name own_pn_own_rm2) hisR ?_
  intro p e s m args below meth c s₁ Bd hml0 hP hK
  obtain ⟨rfl, hZ, hh⟩ := hP
  have hx := Bd.exec
  have hby := Bd.bytes
  have hml : c.maxLocals = 1 := hml0
  have hown : s.vm.findClass "java/lang/Record" = some m.cls := findClass_of_methodNamed Bd.named
  have hnm := (name_of_methodNamed Bd.named Bd.method).1
  have X0 : Stand p l e ({ frames := 1, cells := 0, slots := 0, locals := 12 } : Room) s m #[(.ref a1)] below meth c s₁ [] 0 0 := Stand.of_body Bd
  have e0 : s₁.heap = h0 := by rw [← hh, Bd.state]; rfl
  have N0 := Fr.nil n0
  have pre0 : Goes p e below s₁ (entryFrame m #[(.ref a1)] 1) s₁ (mkF m 0 #[.val (.ref a1)] []) := fun t k => castTop (own_ef_own_rm2 m a1) k
  have pre1 : Goes p e below s₁ (entryFrame m #[(.ref a1)] 1) s₁ (mkF m 1 #[.val (.ref a1)] [(.ref a1)]) := fun t kt => pre0 t (by
      show Steps p.tables e below (s₁.setTop (mkF m 0 #[.val (.ref a1)] [])) _
      refine XS.aloadN X0.here hx rfl (hb hby own_d2_0) rfl rfl ?_
      exact kt)
  obtain ⟨T2, X2, e2, st2⟩ := initO X0 hx hZ hown (hw _ (List.mem_of_getElem? (i := 11) rfl)) (hw _ (List.mem_of_getElem? (i := 12) rfl)) (hw _ (List.mem_of_getElem? (i := 13) rfl)) e0 (g := (mkF m 1 #[.val (.ref a1)] [(.ref a1)])) rfl (by rw [hml]; rfl) rfl (hb hby own_d2_1) (by decide) (W := 0) (by show 2 * 0 + _ ≤ _; exact Nat.le_of_eq rfl) (by decide)
  have pre3 : Goes p e below s₁ (entryFrame m #[(.ref a1)] 1) T2 (mkF m 4 #[.val (.ref a1)] []) := fun t kt => pre1 t (st2 t kt)
  obtain ⟨fs, hr, hrun, hended, hW, hsame⟩ := X2.leave (v := none) (fun _ => rfl)
  refine ⟨_, _, pre3 _ ?_, hrun, hended, _, _, rfl, ?_, ⟨_, rfl⟩, hW, hsame.mono (by decide) (by decide)⟩
  · show Steps p.tables e below (T2.setTop (mkF m 4 #[.val (.ref a1)] [])) _
    exact X2.returnOut hx Bd.returns (hb hby own_d2_4) hr
  · show Q_own_rm2 Z a1 h0 n0 _ T2.heap _
    rw [e2]
    exact ⟨rfl, N0, rfl⟩
theorem own_d1_0 : decode prog_95_method_1_code 0 = .ok (.aload_n 0, 1) := by decide +kernel
theorem own_d1_1 : decode prog_95_method_1_code 1 = .ok (.invokespecial 1, 3) := by decide +kernel
theorem own_d1_4 : decode prog_95_method_1_code 4 = .ok (.aload_n 0, 1) := by decide +kernel
theorem own_d1_5 : decode prog_95_method_1_code 5 = .ok (.iload_n 1, 1) := by decide +kernel
theorem own_d1_6 : decode prog_95_method_1_code 6 = .ok (.putfield 7, 3) := by decide +kernel
theorem own_d1_9 : decode prog_95_method_1_code 9 = .ok (.aload_n 0, 1) := by decide +kernel
theorem own_d1_10 : decode prog_95_method_1_code 10 = .ok (.iload_n 2, 1) := by decide +kernel
theorem own_d1_11 : decode prog_95_method_1_code 11 = .ok (.putfield 13, 3) := by decide +kernel
theorem own_d1_14 : decode prog_95_method_1_code 14 = .ok (.return_, 1) := by decide +kernel
theorem own_pn_own_rm1 : plainName "ratify/Options$IdRange" = true := by first | (simp [plainName, overriddenIn]; done) | decide +kernel
theorem own_ef_own_rm1 (m : MethodId) (x0 : Addr) (x1 : Int32) (x2 : Int32) : entryFrame m #[(.ref x0), (.int x1), (.int x2)] 3 = mkF m 0 #[.val (.ref x0), .val (.int x1), .val (.int x2)] [] := by first | (simp [entryFrame, mkF, argsToLocals, Value.category]; done) | rfl
def Q_own_rm1 (Z : State) (a1 : Addr) (p2 : Int32) (p3 : Int32) (uf : Value) (ul : Value) (h0 : Heap) (n0 : Nat) (v : Option Value) (h : Heap) (L : List Loc) : Prop := v = none ∧ Fr n0 L ∧ Keep h0 h [a1] ∧ Exa Z h a1 "ratify/Options$IdRange" ∧ Fld Z h a1 "ratify/Options$IdRange" "first" "I" (.int p2) ∧ Fld Z h a1 "ratify/Options$IdRange" "last" "I" (.int p3)
set_option maxRecDepth 65536 in
set_option maxHeartbeats 40000000 in
theorem own_rm1 (l : Launch) (Z : State) (a0 : Array Value) (hw : ∀ d ∈ tables_1, d.before a0 Z = true) (ws : List Jvm.Cond) (a1 : Addr) (p2 : Int32) (p3 : Int32) (uf : Value) (ul : Value) (h0 : Heap) (n0 : Nat) (Z0 : n0 ≤ h0.size) (E_a1 : Exa Z h0 a1 "ratify/Options$IdRange") (Ff : Fld Z h0 a1 "ratify/Options$IdRange" "first" "I" uf) (Fl : Fld Z h0 a1 "ratify/Options$IdRange" "last" "I" ul) (g_a1 : n0 ≤ a1) :
    MetFree l (⟨"ratify/Options$IdRange", "<init>", "(II)V"⟩ : MethodName) (head1 (Jvm.Cond.code (⟨"ratify/Options$IdRange", "<init>", "(II)V"⟩ : MethodName) prog_95_method_1_code 3 none :: ws) ({ frames := 2, cells := 0, slots := 0, locals := 24 } : Room)) (fun a U => a = #[(.ref a1), (.int p2), (.int p3)] ∧ Z.Warmed39 U.vm ∧ U.heap = h0) (fun _ _ _ _ _ => True) (fun _ U o U' => ∃ v L, o = .returned v ∧ Q_own_rm1 Z a1 p2 p3 uf ul h0 n0 v U'.heap L ∧ FrameEnd U o U' L ({ frames := 2, cells := 0, slots := 0, locals := 24 } : Room).cells ({ frames := 2, cells := 0, slots := 0, locals := 24 } : Room).slots) := by
  refine MetFree.of_bodySF (plainFor_of_name own_pn_own_rm1) hisR ?_
  intro p e s m args below meth c s₁ Bd hml0 hP hK
  obtain ⟨rfl, hZ, hh⟩ := hP
  have hx := Bd.exec
  have hby := Bd.bytes
  have hml : c.maxLocals = 3 := hml0
  have hown : s.vm.findClass "ratify/Options$IdRange" = some m.cls := findClass_of_methodNamed Bd.named
  have hnm := (name_of_methodNamed Bd.named Bd.method).1
  have X0 : Stand p l e ({ frames := 2, cells := 0, slots := 0, locals := 24 } : Room) s m #[(.ref a1), (.int p2), (.int p3)] below meth c s₁ [] 0 0 := Stand.of_body Bd
  have e0 : s₁.heap = h0 := by rw [← hh, Bd.state]; rfl
  have N0 := Fr.nil n0
  have pre0 : Goes p e below s₁ (entryFrame m #[(.ref a1), (.int p2), (.int p3)] 3) s₁ (mkF m 0 #[.val (.ref a1), .val (.int p2), .val (.int p3)] []) := fun t k => castTop (own_ef_own_rm1 m a1 p2 p3) k
  have pre1 : Goes p e below s₁ (entryFrame m #[(.ref a1), (.int p2), (.int p3)] 3) s₁ (mkF m 1 #[.val (.ref a1), .val (.int p2), .val (.int p3)] [(.ref a1)]) := fun t kt => pre0 t (by
      show Steps p.tables e below (s₁.setTop (mkF m 0 #[.val (.ref a1), .val (.int p2), .val (.int p3)] [])) _
      refine XS.aloadN X0.here hx rfl (hb hby own_d1_0) rfl rfl ?_
      exact kt)
  obtain ⟨_, _, ⟨T2, L2, k2, n2⟩, -, X2, ⟨Lc2, hQ2, l2, y2, z2⟩, st2⟩ := X0.specialBack hx (y := (⟨"java/lang/Record", "<init>", "()V"⟩ : MethodName)) rfl hown (mvT hZ (hw _ (List.mem_of_getElem? (i := 6) rfl))) (mvT hZ (hw _ (List.mem_of_getElem? (i := 7) rfl))) (mvT hZ (hw _ (List.mem_of_getElem? (i := 10) rfl))) (by decide) (backOf (W := 0) (own_rm2 l Z a0 hw [] a1 h0 n0 Z0 ) hZ (hw _ (List.mem_of_getElem? (i := 10) rfl)) (hw _ (List.mem_of_getElem? (i := 9) rfl)) (by decide) (by decide)) (g := (mkF m 1 #[.val (.ref a1), .val (.int p2), .val (.int p3)] [(.ref a1)])) rfl (by rw [hml]; rfl) (Steps.refl _) (a := a1) (argsL := []) (rest := []) (lenOf own_pd0 rfl) rfl (by show 2 * 0 + _ ≤ _; exact Nat.le_of_eq rfl) (hb hby own_d1_1) (fun _ _ => ⟨rfl, e0, (by decide : 0 + 0 ≤ _), (by decide : 0 + 0 ≤ _)⟩)
  dsimp only [Pt.U, Pt.locs, Pt.cells, Pt.slots] at X2 l2 y2 z2 st2 hQ2
  subst l2 y2 z2
  obtain ⟨rfl, N2q, e2⟩ := hQ2
  have N2 := Fr.app N0 N2q
  have pre3 : Goes p e below s₁ (entryFrame m #[(.ref a1), (.int p2), (.int p3)] 3) T2 (mkF m 4 #[.val (.ref a1), .val (.int p2), .val (.int p3)] []) := fun t kt => pre1 t (st2.trans kt)
  have pre4 : Goes p e below s₁ (entryFrame m #[(.ref a1), (.int p2), (.int p3)] 3) T2 (mkF m 6 #[.val (.ref a1), .val (.int p2), .val (.int p3)] [(.int p2), (.ref a1)]) := fun t kt => pre3 t (by
      show Steps p.tables e below (T2.setTop (mkF m 4 #[.val (.ref a1), .val (.int p2), .val (.int p3)] [])) _
      refine XS.aloadN X2.here hx rfl (hb hby own_d1_4) rfl rfl ?_
      show Steps p.tables e below (T2.setTop (mkF m 5 #[.val (.ref a1), .val (.int p2), .val (.int p3)] [(.ref a1)])) _
      refine XS.iloadN X2.here hx rfl (hb hby own_d1_5) rfl ?_
      exact kt)
  obtain ⟨T5, h5, X5, e5, W5, st5⟩ := putF X2 hx hZ hown (host := "") (Or.inl (hw _ (List.mem_of_getElem? (i := 14) rfl))) Via.refl e2 Ff E_a1 (Or.inr ⟨(hw _ (List.mem_of_getElem? (i := 15) rfl)), rfl, hnm⟩) (hw _ (List.mem_of_getElem? (i := 1) rfl)) (ty := .int) (by decide) rfl rfl (g := (mkF m 6 #[.val (.ref a1), .val (.int p2), .val (.int p3)] [(.int p2), (.ref a1)])) rfl rfl (hb hby own_d1_6)
  have Fw5 := Ff.same W5
  have K5 : Keep h0 h5 [a1] := (Keep.refl h0 [a1]).wr W5 (Or.inl (List.mem_of_getElem? (i := 0) rfl))
  have N5 := Fr.snoc X5 N2 g_a1
  have pre6 : Goes p e below s₁ (entryFrame m #[(.ref a1), (.int p2), (.int p3)] 3) T5 (mkF m 9 #[.val (.ref a1), .val (.int p2), .val (.int p3)] []) := fun t kt => pre4 t (st5 t kt)
  have pre7 : Goes p e below s₁ (entryFrame m #[(.ref a1), (.int p2), (.int p3)] 3) T5 (mkF m 11 #[.val (.ref a1), .val (.int p2), .val (.int p3)] [(.int p3), (.ref a1)]) := fun t kt => pre6 t (by
      show Steps p.tables e below (T5.setTop (mkF m 9 #[.val (.ref a1), .val (.int p2), .val (.int p3)] [])) _
      refine XS.aloadN X5.here hx rfl (hb hby own_d1_9) rfl rfl ?_
      show Steps p.tables e below (T5.setTop (mkF m 10 #[.val (.ref a1), .val (.int p2), .val (.int p3)] [(.ref a1)])) _
      refine XS.iloadN X5.here hx rfl (hb hby own_d1_10) rfl ?_
      exact kt)
  obtain ⟨T8, h8, X8, e8, W8, st8⟩ := putF X5 hx hZ hown (host := "") (Or.inl (hw _ (List.mem_of_getElem? (i := 16) rfl))) Via.refl e5 (Fl.other W5 (Or.inr (slot_ne (Or.inr (hw _ (List.mem_of_getElem? (i := 17) rfl))) (Or.inr (hw _ (List.mem_of_getElem? (i := 15) rfl))) (by decide) (t := .int) (t' := .int) (by decide) (by decide)))) (E_a1.wr W5) (Or.inr ⟨(hw _ (List.mem_of_getElem? (i := 17) rfl)), rfl, hnm⟩) (hw _ (List.mem_of_getElem? (i := 1) rfl)) (ty := .int) (by decide) rfl rfl (g := (mkF m 11 #[.val (.ref a1), .val (.int p2), .val (.int p3)] [(.int p3), (.ref a1)])) rfl rfl (hb hby own_d1_11)
  have Fw8 := (Fl.other W5 (Or.inr (slot_ne (Or.inr (hw _ (List.mem_of_getElem? (i := 17) rfl))) (Or.inr (hw _ (List.mem_of_getElem? (i := 15) rfl))) (by decide) (t := .int) (t' := .int) (by decide) (by decide)))).same W8
  have K8 : Keep h0 h8 [a1] := K5.wr W8 (Or.inl (List.mem_of_getElem? (i := 0) rfl))
  have N8 := Fr.snoc X8 N5 g_a1
  have pre9 : Goes p e below s₁ (entryFrame m #[(.ref a1), (.int p2), (.int p3)] 3) T8 (mkF m 14 #[.val (.ref a1), .val (.int p2), .val (.int p3)] []) := fun t kt => pre7 t (st8 t kt)
  obtain ⟨fs, hr, hrun, hended, hW, hsame⟩ := X8.leave (v := none) (fun _ => rfl)
  refine ⟨_, _, pre9 _ ?_, hrun, hended, _, _, rfl, ?_, ⟨_, rfl⟩, hW, hsame.mono (by decide) (by decide)⟩
  · show Steps p.tables e below (T8.setTop (mkF m 14 #[.val (.ref a1), .val (.int p2), .val (.int p3)] [])) _
    exact X8.returnOut hx Bd.returns (hb hby own_d1_14) hr
  · show Q_own_rm1 Z a1 p2 p3 uf ul h0 n0 _ T8.heap _
    rw [e8]
    exact ⟨rfl, N8, K8, ((E_a1.wr W5).wr W8), (Fw5.other W8 (Or.inr (slot_ne (Or.inr (hw _ (List.mem_of_getElem? (i := 15) rfl))) (Or.inr (hw _ (List.mem_of_getElem? (i := 17) rfl))) (by decide) (t := .int) (t' := .int) (by decide) (by decide)))), Fw8⟩
theorem own_d4_0 : decode prog_95_method_2_code 0 = .ok (.aload_n 0, 1) := by decide +kernel
theorem own_d4_1 : decode prog_95_method_2_code 1 = .ok (.getfield 7, 3) := by decide +kernel
theorem own_d4_4 : decode prog_95_method_2_code 4 = .ok (.iload_n 1, 1) := by decide +kernel
theorem own_d4_5 : decode prog_95_method_2_code 5 = .ok (.if_icmp .gt 15, 3) := by decide +kernel
theorem own_d4_8 : decode prog_95_method_2_code 8 = .ok (.iload_n 1, 1) := by decide +kernel
theorem own_d4_9 : decode prog_95_method_2_code 9 = .ok (.aload_n 0, 1) := by decide +kernel
theorem own_d4_10 : decode prog_95_method_2_code 10 = .ok (.getfield 13, 3) := by decide +kernel
theorem own_d4_13 : decode prog_95_method_2_code 13 = .ok (.if_icmp .gt 7, 3) := by decide +kernel
theorem own_d4_16 : decode prog_95_method_2_code 16 = .ok (.iconst 1, 1) := by decide +kernel
theorem own_d4_17 : decode prog_95_method_2_code 17 = .ok (.goto 4, 3) := by decide +kernel
theorem own_d4_20 : decode prog_95_method_2_code 20 = .ok (.iconst 0, 1) := by decide +kernel
theorem own_d4_21 : decode prog_95_method_2_code 21 = .ok (.ireturn, 1) := by decide +kernel
theorem own_pn_own_rm4 : plainName "ratify/Options$IdRange" = true := by first | (simp [plainName, overriddenIn]; done) | decide +kernel
theorem own_ef_own_rm4 (m : MethodId) (x0 : Addr) (x1 : Int32) : entryFrame m #[(.ref x0), (.int x1)] 2 = mkF m 0 #[.val (.ref x0), .val (.int x1)] [] := by first | (simp [entryFrame, mkF, argsToLocals, Value.category]; done) | rfl
def Q_own_rm4 (Z : State) (a1 : Addr) (p2 : Int32) (wf : Int32) (wl : Int32) (h0 : Heap) (n0 : Nat) (v : Option Value) (h : Heap) (L : List Loc) : Prop := v = some (.int (if (wf.toInt ≤ p2.toInt ∧ p2.toInt ≤ wl.toInt) then 1 else 0)) ∧ Fr n0 L ∧ h = h0
set_option maxRecDepth 65536 in
set_option maxHeartbeats 40000000 in
theorem own_rm4 (l : Launch) (Z : State) (a0 : Array Value) (hw : ∀ d ∈ tables_1, d.before a0 Z = true) (ws : List Jvm.Cond) (a1 : Addr) (p2 : Int32) (wf : Int32) (wl : Int32) (h0 : Heap) (n0 : Nat) (Z0 : n0 ≤ h0.size) (Ff : Fld Z h0 a1 "ratify/Options$IdRange" "first" "I" (.int wf)) (Fl : Fld Z h0 a1 "ratify/Options$IdRange" "last" "I" (.int wl)) :
    MetFree l (⟨"ratify/Options$IdRange", "contains", "(I)Z"⟩ : MethodName) (head1 (Jvm.Cond.code (⟨"ratify/Options$IdRange", "contains", "(I)Z"⟩ : MethodName) prog_95_method_2_code 2 (some .boolean) :: ws) ({ frames := 0, cells := 0, slots := 0, locals := 0 } : Room)) (fun a U => a = #[(.ref a1), (.int p2)] ∧ Z.Warmed39 U.vm ∧ U.heap = h0) (fun _ _ _ _ _ => True) (fun _ U o U' => ∃ v L, o = .returned v ∧ Q_own_rm4 Z a1 p2 wf wl h0 n0 v U'.heap L ∧ FrameEnd U o U' L ({ frames := 0, cells := 0, slots := 0, locals := 0 } : Room).cells ({ frames := 0, cells := 0, slots := 0, locals := 0 } : Room).slots) := by
  refine MetFree.of_bodySF (plainFor_of_name own_pn_own_rm4) hisR ?_
  intro p e s m args below meth c s₁ Bd hml0 hP hK
  obtain ⟨rfl, hZ, hh⟩ := hP
  have hx := Bd.exec
  have hby := Bd.bytes
  have hml : c.maxLocals = 2 := hml0
  have hown : s.vm.findClass "ratify/Options$IdRange" = some m.cls := findClass_of_methodNamed Bd.named
  have hnm := (name_of_methodNamed Bd.named Bd.method).1
  have X0 : Stand p l e ({ frames := 0, cells := 0, slots := 0, locals := 0 } : Room) s m #[(.ref a1), (.int p2)] below meth c s₁ [] 0 0 := Stand.of_body Bd
  have e0 : s₁.heap = h0 := by rw [← hh, Bd.state]; rfl
  have N0 := Fr.nil n0
  have pre0 : Goes p e below s₁ (entryFrame m #[(.ref a1), (.int p2)] 2) s₁ (mkF m 0 #[.val (.ref a1), .val (.int p2)] []) := fun t k => castTop (own_ef_own_rm4 m a1 p2) k
  have pre1 : Goes p e below s₁ (entryFrame m #[(.ref a1), (.int p2)] 2) s₁ (mkF m 1 #[.val (.ref a1), .val (.int p2)] [(.ref a1)]) := fun t kt => pre0 t (by
      show Steps p.tables e below (s₁.setTop (mkF m 0 #[.val (.ref a1), .val (.int p2)] [])) _
      refine XS.aloadN X0.here hx rfl (hb hby own_d4_0) rfl rfl ?_
      exact kt)
  obtain ⟨T2, X2, e2, st2⟩ := getF X0 hx hZ hown (host := "") (Or.inl (hw _ (List.mem_of_getElem? (i := 14) rfl))) Via.refl e0 Ff (g := (mkF m 1 #[.val (.ref a1), .val (.int p2)] [(.ref a1)])) rfl rfl (hb hby own_d4_1)
  have pre3 : Goes p e below s₁ (entryFrame m #[(.ref a1), (.int p2)] 2) T2 (mkF m 4 #[.val (.ref a1), .val (.int p2)] [(.int wf)]) := fun t kt => pre1 t (st2 t kt)
  have pre4 : Goes p e below s₁ (entryFrame m #[(.ref a1), (.int p2)] 2) T2 (mkF m 5 #[.val (.ref a1), .val (.int p2)] [(.int p2), (.int wf)]) := fun t kt => pre3 t (by
      show Steps p.tables e below (T2.setTop (mkF m 4 #[.val (.ref a1), .val (.int p2)] [(.int wf)])) _
      refine XS.iloadN X2.here hx rfl (hb hby own_d4_4) rfl ?_
      exact kt)
  by_cases hc5_5 : p2 < wf
  · -- yes at pc 5: 
    have pre6 : Goes p e below s₁ (entryFrame m #[(.ref a1), (.int p2)] 2) T2 (mkF m 21 #[.val (.ref a1), .val (.int p2)] [(.int (0 : Int32))]) := fun t kt => pre4 t (by
        show Steps p.tables e below (T2.setTop (mkF m 5 #[.val (.ref a1), .val (.int p2)] [(.int p2), (.int wf)])) _
        refine XS.icmpYes X2.here hx rfl (pc0 := 5) (pc' := 20) rfl (hb hby own_d4_5) rfl (tlt hc5_5).2.2.1 (by decide) (by decide) ?_
        show Steps p.tables e below (T2.setTop (mkF m 20 #[.val (.ref a1), .val (.int p2)] [])) _
        refine XS.iconst X2.here hx rfl (hb hby own_d4_20) ?_
        exact kt)
    obtain ⟨fs, hr, hrun, hended, hW, hsame⟩ := X2.leave (v := some (.int (0 : Int32))) (fun h => by rw [Bd.returns] at h; cases h)
    refine ⟨_, _, pre6 _ ?_, hrun, hended, _, _, rfl, ?_, ⟨_, rfl⟩, hW, hsame.mono (by decide) (by decide)⟩
    · show Steps p.tables e below (T2.setTop (mkF m 21 #[.val (.ref a1), .val (.int p2)] [(.int (0 : Int32))])) _
      exact retN X2 hx (t := .boolean) Bd.returns (by simp) (hb hby own_d4_21) hr
    · show Q_own_rm4 Z a1 p2 wf wl h0 n0 _ T2.heap _
      rw [e2]
      exact ⟨by rw [if_neg (own_n1 p2 wf wl hc5_5)], N0, rfl⟩
  · -- no at pc 5: 
    have pre7 : Goes p e below s₁ (entryFrame m #[(.ref a1), (.int p2)] 2) T2 (mkF m 10 #[.val (.ref a1), .val (.int p2)] [(.ref a1), (.int p2)]) := fun t kt => pre4 t (by
        show Steps p.tables e below (T2.setTop (mkF m 5 #[.val (.ref a1), .val (.int p2)] [(.int p2), (.int wf)])) _
        refine XS.icmpNo X2.here hx rfl (hb hby own_d4_5) rfl (flt hc5_5).2.2.1 ?_
        show Steps p.tables e below (T2.setTop (mkF m 8 #[.val (.ref a1), .val (.int p2)] [])) _
        refine XS.iloadN X2.here hx rfl (hb hby own_d4_8) rfl ?_
        show Steps p.tables e below (T2.setTop (mkF m 9 #[.val (.ref a1), .val (.int p2)] [(.int p2)])) _
        refine XS.aloadN X2.here hx rfl (hb hby own_d4_9) rfl rfl ?_
        exact kt)
    obtain ⟨T8, X8, e8, st8⟩ := getF X2 hx hZ hown (host := "") (Or.inl (hw _ (List.mem_of_getElem? (i := 16) rfl))) Via.refl e2 Fl (g := (mkF m 10 #[.val (.ref a1), .val (.int p2)] [(.ref a1), (.int p2)])) rfl rfl (hb hby own_d4_10)
    have pre9 : Goes p e below s₁ (entryFrame m #[(.ref a1), (.int p2)] 2) T8 (mkF m 13 #[.val (.ref a1), .val (.int p2)] [(.int wl), (.int p2)]) := fun t kt => pre7 t (st8 t kt)
    by_cases hc13_10 : wl < p2
    · -- yes at pc 13: f
      have pre11 : Goes p e below s₁ (entryFrame m #[(.ref a1), (.int p2)] 2) T8 (mkF m 21 #[.val (.ref a1), .val (.int p2)] [(.int (0 : Int32))]) := fun t kt => pre9 t (by
          show Steps p.tables e below (T8.setTop (mkF m 13 #[.val (.ref a1), .val (.int p2)] [(.int wl), (.int p2)])) _
          refine XS.icmpYes X8.here hx rfl (pc0 := 13) (pc' := 20) rfl (hb hby own_d4_13) rfl (tlt hc13_10).2.2.1 (by decide) (by decide) ?_
          show Steps p.tables e below (T8.setTop (mkF m 20 #[.val (.ref a1), .val (.int p2)] [])) _
          refine XS.iconst X8.here hx rfl (hb hby own_d4_20) ?_
          exact kt)
      obtain ⟨fs, hr, hrun, hended, hW, hsame⟩ := X8.leave (v := some (.int (0 : Int32))) (fun h => by rw [Bd.returns] at h; cases h)
      refine ⟨_, _, pre11 _ ?_, hrun, hended, _, _, rfl, ?_, ⟨_, rfl⟩, hW, hsame.mono (by decide) (by decide)⟩
      · show Steps p.tables e below (T8.setTop (mkF m 21 #[.val (.ref a1), .val (.int p2)] [(.int (0 : Int32))])) _
        exact retN X8 hx (t := .boolean) Bd.returns (by simp) (hb hby own_d4_21) hr
      · show Q_own_rm4 Z a1 p2 wf wl h0 n0 _ T8.heap _
        rw [e8]
        exact ⟨by rw [if_neg (own_n2 p2 wf wl hc5_5 hc13_10)], N0, rfl⟩
    · -- no at pc 13: f
      have pre12 : Goes p e below s₁ (entryFrame m #[(.ref a1), (.int p2)] 2) T8 (mkF m 21 #[.val (.ref a1), .val (.int p2)] [(.int (1 : Int32))]) := fun t kt => pre9 t (by
          show Steps p.tables e below (T8.setTop (mkF m 13 #[.val (.ref a1), .val (.int p2)] [(.int wl), (.int p2)])) _
          refine XS.icmpNo X8.here hx rfl (hb hby own_d4_13) rfl (flt hc13_10).2.2.1 ?_
          show Steps p.tables e below (T8.setTop (mkF m 16 #[.val (.ref a1), .val (.int p2)] [])) _
          refine XS.iconst X8.here hx rfl (hb hby own_d4_16) ?_
          show Steps p.tables e below (T8.setTop (mkF m 17 #[.val (.ref a1), .val (.int p2)] [(.int (1 : Int32))])) _
          refine XS.goto X8.here hx rfl (pc0 := 17) (pc' := 21) rfl (hb hby own_d4_17) (by decide) (by decide) ?_
          exact kt)
      obtain ⟨fs, hr, hrun, hended, hW, hsame⟩ := X8.leave (v := some (.int (1 : Int32))) (fun h => by rw [Bd.returns] at h; cases h)
      refine ⟨_, _, pre12 _ ?_, hrun, hended, _, _, rfl, ?_, ⟨_, rfl⟩, hW, hsame.mono (by decide) (by decide)⟩
      · show Steps p.tables e below (T8.setTop (mkF m 21 #[.val (.ref a1), .val (.int p2)] [(.int (1 : Int32))])) _
        exact retN X8 hx (t := .boolean) Bd.returns (by simp) (hb hby own_d4_21) hr
      · show Q_own_rm4 Z a1 p2 wf wl h0 n0 _ T8.heap _
        rw [e8]
        exact ⟨by rw [if_pos (own_n3 p2 wf wl hc5_5 hc13_10)], N0, rfl⟩
theorem own_pn_own_rm0 : plainName "ratify/IdRangeContainsPinLaw" = true := by first | (simp [plainName, overriddenIn]; done) | decide +kernel
theorem own_ef_own_rm0 (m : MethodId) (x0 : Int32) (x1 : Int32) (x2 : Int32) (x3 : Int32) : entryFrame m #[(.int x0), (.int x1), (.int x2), (.int x3)] maxLocals = mkF m 0 #[.val (.int x0), .val (.int x1), .val (.int x2), .val (.int x3), .unset, .unset, .unset, .unset, .unset, .unset, .unset, .unset, .unset, .unset] [] := by first | (simp [entryFrame, mkF, argsToLocals, Value.category, maxLocals]; done) | rfl
def Q_own_rm0 (Z : State) (pf : Int32) (pl : Int32) (pid : Int32) (psel : Int32) (h0 : Heap) (n0 : Nat) (v : Option Value) (h : Heap) (L : List Loc) : Prop := v = some (.int (1 : Int32)) ∧ Fr n0 L
set_option maxRecDepth 65536 in
set_option maxHeartbeats 40000000 in
theorem own_rm0 (l : Launch) (Z : State) (a0 : Array Value) (hw : ∀ d ∈ tables_1, d.before a0 Z = true) (ws : List Jvm.Cond) (pf : Int32) (pl : Int32) (pid : Int32) (psel : Int32) (h0 : Heap) (n0 : Nat) (Z0 : n0 ≤ h0.size) :
    MetFree l x (head1 (Jvm.Cond.code x code maxLocals ret :: ws) room_1) (fun a U => a = #[(.int pf), (.int pl), (.int pid), (.int psel)] ∧ Z.Warmed39 U.vm ∧ U.heap = h0) (fun _ _ _ _ _ => True) (fun _ U o U' => ∃ v L, o = .returned v ∧ Q_own_rm0 Z pf pl pid psel h0 n0 v U'.heap L ∧ FrameEnd U o U' L room_1.cells room_1.slots) := by
  refine MetFree.of_bodySF (plainFor_of_name own_pn_own_rm0) hisR ?_
  intro p e s m args below meth c s₁ Bd hml0 hP hK
  obtain ⟨rfl, hZ, hh⟩ := hP
  have hx := Bd.exec
  have hby := Bd.bytes
  have hml : c.maxLocals = 14 := hml0
  have hown : s.vm.findClass "ratify/IdRangeContainsPinLaw" = some m.cls := findClass_of_methodNamed Bd.named
  have hnm := (name_of_methodNamed Bd.named Bd.method).1
  have X0 : Stand p l e room_1 s m #[(.int pf), (.int pl), (.int pid), (.int psel)] below meth c s₁ [] 0 0 := Stand.of_body Bd
  have e0 : s₁.heap = h0 := by rw [← hh, Bd.state]; rfl
  have N0 := Fr.nil n0
  have pre0 : Goes p e below s₁ (entryFrame m #[(.int pf), (.int pl), (.int pid), (.int psel)] maxLocals) s₁ (mkF m 0 #[.val (.int pf), .val (.int pl), .val (.int pid), .val (.int psel), .unset, .unset, .unset, .unset, .unset, .unset, .unset, .unset, .unset, .unset] []) := fun t k => castTop (own_ef_own_rm0 m pf pl pid psel) k
  have pre1 : Goes p e below s₁ (entryFrame m #[(.int pf), (.int pl), (.int pid), (.int psel)] maxLocals) s₁ (mkF m 14 #[.val (.int pf), .val (.int pl), .val (.int pid), .val (.int psel), .val (.int (psel &&& (3 : Int32))), .val (.int (((psel >>> ((2 : Int32) &&& 31)) &&& (3 : Int32)) - (2 : Int32))), .unset, .unset, .unset, .unset, .unset, .unset, .unset, .unset] []) := fun t kt => pre0 t (by
      show Steps p.tables e below (s₁.setTop (mkF m 0 #[.val (.int pf), .val (.int pl), .val (.int pid), .val (.int psel), .unset, .unset, .unset, .unset, .unset, .unset, .unset, .unset, .unset, .unset] [])) _
      refine XS.iloadN X0.here hx rfl (hb hby at_0) rfl ?_
      show Steps p.tables e below (s₁.setTop (mkF m 1 #[.val (.int pf), .val (.int pl), .val (.int pid), .val (.int psel), .unset, .unset, .unset, .unset, .unset, .unset, .unset, .unset, .unset, .unset] [(.int psel)])) _
      refine XS.iconst X0.here hx rfl (hb hby at_1) ?_
      show Steps p.tables e below (s₁.setTop (mkF m 2 #[.val (.int pf), .val (.int pl), .val (.int pid), .val (.int psel), .unset, .unset, .unset, .unset, .unset, .unset, .unset, .unset, .unset, .unset] [(.int (3 : Int32)), (.int psel)])) _
      refine XS.iand X0.here hx rfl (hb hby at_2) rfl ?_
      show Steps p.tables e below (s₁.setTop (mkF m 3 #[.val (.int pf), .val (.int pl), .val (.int pid), .val (.int psel), .unset, .unset, .unset, .unset, .unset, .unset, .unset, .unset, .unset, .unset] [(.int (psel &&& (3 : Int32)))])) _
      refine XS.istore X0.here hx rfl (hb hby at_3) rfl (l' := #[.val (.int pf), .val (.int pl), .val (.int pid), .val (.int psel), .val (.int (psel &&& (3 : Int32))), .unset, .unset, .unset, .unset, .unset, .unset, .unset, .unset, .unset]) rfl ?_
      show Steps p.tables e below (s₁.setTop (mkF m 5 #[.val (.int pf), .val (.int pl), .val (.int pid), .val (.int psel), .val (.int (psel &&& (3 : Int32))), .unset, .unset, .unset, .unset, .unset, .unset, .unset, .unset, .unset] [])) _
      refine XS.iloadN X0.here hx rfl (hb hby at_5) rfl ?_
      show Steps p.tables e below (s₁.setTop (mkF m 6 #[.val (.int pf), .val (.int pl), .val (.int pid), .val (.int psel), .val (.int (psel &&& (3 : Int32))), .unset, .unset, .unset, .unset, .unset, .unset, .unset, .unset, .unset] [(.int psel)])) _
      refine XS.iconst X0.here hx rfl (hb hby at_6) ?_
      show Steps p.tables e below (s₁.setTop (mkF m 7 #[.val (.int pf), .val (.int pl), .val (.int pid), .val (.int psel), .val (.int (psel &&& (3 : Int32))), .unset, .unset, .unset, .unset, .unset, .unset, .unset, .unset, .unset] [(.int (2 : Int32)), (.int psel)])) _
      refine XS.ishr X0.here hx rfl (hb hby at_7) rfl ?_
      show Steps p.tables e below (s₁.setTop (mkF m 8 #[.val (.int pf), .val (.int pl), .val (.int pid), .val (.int psel), .val (.int (psel &&& (3 : Int32))), .unset, .unset, .unset, .unset, .unset, .unset, .unset, .unset, .unset] [(.int (psel >>> ((2 : Int32) &&& 31)))])) _
      refine XS.iconst X0.here hx rfl (hb hby at_8) ?_
      show Steps p.tables e below (s₁.setTop (mkF m 9 #[.val (.int pf), .val (.int pl), .val (.int pid), .val (.int psel), .val (.int (psel &&& (3 : Int32))), .unset, .unset, .unset, .unset, .unset, .unset, .unset, .unset, .unset] [(.int (3 : Int32)), (.int (psel >>> ((2 : Int32) &&& 31)))])) _
      refine XS.iand X0.here hx rfl (hb hby at_9) rfl ?_
      show Steps p.tables e below (s₁.setTop (mkF m 10 #[.val (.int pf), .val (.int pl), .val (.int pid), .val (.int psel), .val (.int (psel &&& (3 : Int32))), .unset, .unset, .unset, .unset, .unset, .unset, .unset, .unset, .unset] [(.int ((psel >>> ((2 : Int32) &&& 31)) &&& (3 : Int32)))])) _
      refine XS.iconst X0.here hx rfl (hb hby at_10) ?_
      show Steps p.tables e below (s₁.setTop (mkF m 11 #[.val (.int pf), .val (.int pl), .val (.int pid), .val (.int psel), .val (.int (psel &&& (3 : Int32))), .unset, .unset, .unset, .unset, .unset, .unset, .unset, .unset, .unset] [(.int (2 : Int32)), (.int ((psel >>> ((2 : Int32) &&& 31)) &&& (3 : Int32)))])) _
      refine XS.isub X0.here hx rfl (hb hby at_11) rfl ?_
      show Steps p.tables e below (s₁.setTop (mkF m 12 #[.val (.int pf), .val (.int pl), .val (.int pid), .val (.int psel), .val (.int (psel &&& (3 : Int32))), .unset, .unset, .unset, .unset, .unset, .unset, .unset, .unset, .unset] [(.int (((psel >>> ((2 : Int32) &&& 31)) &&& (3 : Int32)) - (2 : Int32)))])) _
      refine XS.istore X0.here hx rfl (hb hby at_12) rfl (l' := #[.val (.int pf), .val (.int pl), .val (.int pid), .val (.int psel), .val (.int (psel &&& (3 : Int32))), .val (.int (((psel >>> ((2 : Int32) &&& 31)) &&& (3 : Int32)) - (2 : Int32))), .unset, .unset, .unset, .unset, .unset, .unset, .unset, .unset]) rfl ?_
      exact kt)
  obtain ⟨probe, pre3⟩ : ∃ (probe : Int32), Goes p e below s₁ (entryFrame m #[(.int pf), (.int pl), (.int pid), (.int psel)] maxLocals) s₁ (mkF m 47 #[.val (.int pf), .val (.int pl), .val (.int pid), .val (.int psel), .val (.int (psel &&& (3 : Int32))), .val (.int (((psel >>> ((2 : Int32) &&& 31)) &&& (3 : Int32)) - (2 : Int32))), .val (.int probe), .unset, .unset, .unset, .unset, .unset, .unset, .unset] []) := by
    have pre4 : Goes p e below s₁ (entryFrame m #[(.int pf), (.int pl), (.int pid), (.int psel)] maxLocals) s₁ (mkF m 17 #[.val (.int pf), .val (.int pl), .val (.int pid), .val (.int psel), .val (.int (psel &&& (3 : Int32))), .val (.int (((psel >>> ((2 : Int32) &&& 31)) &&& (3 : Int32)) - (2 : Int32))), .unset, .unset, .unset, .unset, .unset, .unset, .unset, .unset] [(.int (1 : Int32)), (.int (psel &&& (3 : Int32)))]) := fun t kt => pre1 t (by
        show Steps p.tables e below (s₁.setTop (mkF m 14 #[.val (.int pf), .val (.int pl), .val (.int pid), .val (.int psel), .val (.int (psel &&& (3 : Int32))), .val (.int (((psel >>> ((2 : Int32) &&& 31)) &&& (3 : Int32)) - (2 : Int32))), .unset, .unset, .unset, .unset, .unset, .unset, .unset, .unset] [])) _
        refine XS.iload X0.here hx rfl (hb hby at_14) rfl ?_
        show Steps p.tables e below (s₁.setTop (mkF m 16 #[.val (.int pf), .val (.int pl), .val (.int pid), .val (.int psel), .val (.int (psel &&& (3 : Int32))), .val (.int (((psel >>> ((2 : Int32) &&& 31)) &&& (3 : Int32)) - (2 : Int32))), .unset, .unset, .unset, .unset, .unset, .unset, .unset, .unset] [(.int (psel &&& (3 : Int32)))])) _
        refine XS.iconst X0.here hx rfl (hb hby at_16) ?_
        exact kt)
    by_cases hc17_5 : (psel &&& (3 : Int32)) = (1 : Int32)
    · -- yes at pc 17: 
      have pre6 : Goes p e below s₁ (entryFrame m #[(.int pf), (.int pl), (.int pid), (.int psel)] maxLocals) s₁ (mkF m 47 #[.val (.int pf), .val (.int pl), .val (.int pid), .val (.int psel), .val (.int (psel &&& (3 : Int32))), .val (.int (((psel >>> ((2 : Int32) &&& 31)) &&& (3 : Int32)) - (2 : Int32))), .val (.int (pf + (((psel >>> ((2 : Int32) &&& 31)) &&& (3 : Int32)) - (2 : Int32)))), .unset, .unset, .unset, .unset, .unset, .unset, .unset] []) := fun t kt => pre4 t (by
          show Steps p.tables e below (s₁.setTop (mkF m 17 #[.val (.int pf), .val (.int pl), .val (.int pid), .val (.int psel), .val (.int (psel &&& (3 : Int32))), .val (.int (((psel >>> ((2 : Int32) &&& 31)) &&& (3 : Int32)) - (2 : Int32))), .unset, .unset, .unset, .unset, .unset, .unset, .unset, .unset] [(.int (1 : Int32)), (.int (psel &&& (3 : Int32)))])) _
          refine XS.icmpNo X0.here hx rfl (hb hby at_17) rfl (teq hc17_5).2 ?_
          show Steps p.tables e below (s₁.setTop (mkF m 20 #[.val (.int pf), .val (.int pl), .val (.int pid), .val (.int psel), .val (.int (psel &&& (3 : Int32))), .val (.int (((psel >>> ((2 : Int32) &&& 31)) &&& (3 : Int32)) - (2 : Int32))), .unset, .unset, .unset, .unset, .unset, .unset, .unset, .unset] [])) _
          refine XS.iloadN X0.here hx rfl (hb hby at_20) rfl ?_
          show Steps p.tables e below (s₁.setTop (mkF m 21 #[.val (.int pf), .val (.int pl), .val (.int pid), .val (.int psel), .val (.int (psel &&& (3 : Int32))), .val (.int (((psel >>> ((2 : Int32) &&& 31)) &&& (3 : Int32)) - (2 : Int32))), .unset, .unset, .unset, .unset, .unset, .unset, .unset, .unset] [(.int pf)])) _
          refine XS.iload X0.here hx rfl (hb hby at_21) rfl ?_
          show Steps p.tables e below (s₁.setTop (mkF m 23 #[.val (.int pf), .val (.int pl), .val (.int pid), .val (.int psel), .val (.int (psel &&& (3 : Int32))), .val (.int (((psel >>> ((2 : Int32) &&& 31)) &&& (3 : Int32)) - (2 : Int32))), .unset, .unset, .unset, .unset, .unset, .unset, .unset, .unset] [(.int (((psel >>> ((2 : Int32) &&& 31)) &&& (3 : Int32)) - (2 : Int32))), (.int pf)])) _
          refine XS.iadd X0.here hx rfl (hb hby at_23) rfl ?_
          show Steps p.tables e below (s₁.setTop (mkF m 24 #[.val (.int pf), .val (.int pl), .val (.int pid), .val (.int psel), .val (.int (psel &&& (3 : Int32))), .val (.int (((psel >>> ((2 : Int32) &&& 31)) &&& (3 : Int32)) - (2 : Int32))), .unset, .unset, .unset, .unset, .unset, .unset, .unset, .unset] [(.int (pf + (((psel >>> ((2 : Int32) &&& 31)) &&& (3 : Int32)) - (2 : Int32))))])) _
          refine XS.istore X0.here hx rfl (hb hby at_24) rfl (l' := #[.val (.int pf), .val (.int pl), .val (.int pid), .val (.int psel), .val (.int (psel &&& (3 : Int32))), .val (.int (((psel >>> ((2 : Int32) &&& 31)) &&& (3 : Int32)) - (2 : Int32))), .val (.int (pf + (((psel >>> ((2 : Int32) &&& 31)) &&& (3 : Int32)) - (2 : Int32)))), .unset, .unset, .unset, .unset, .unset, .unset, .unset]) rfl ?_
          show Steps p.tables e below (s₁.setTop (mkF m 26 #[.val (.int pf), .val (.int pl), .val (.int pid), .val (.int psel), .val (.int (psel &&& (3 : Int32))), .val (.int (((psel >>> ((2 : Int32) &&& 31)) &&& (3 : Int32)) - (2 : Int32))), .val (.int (pf + (((psel >>> ((2 : Int32) &&& 31)) &&& (3 : Int32)) - (2 : Int32)))), .unset, .unset, .unset, .unset, .unset, .unset, .unset] [])) _
          refine XS.goto X0.here hx rfl (pc0 := 26) (pc' := 47) rfl (hb hby at_26) (by decide) (by decide) ?_
          exact kt)
      exact ⟨(pf + (((psel >>> ((2 : Int32) &&& 31)) &&& (3 : Int32)) - (2 : Int32))), pre6⟩
    · -- no at pc 17: 
      have pre7 : Goes p e below s₁ (entryFrame m #[(.int pf), (.int pl), (.int pid), (.int psel)] maxLocals) s₁ (mkF m 32 #[.val (.int pf), .val (.int pl), .val (.int pid), .val (.int psel), .val (.int (psel &&& (3 : Int32))), .val (.int (((psel >>> ((2 : Int32) &&& 31)) &&& (3 : Int32)) - (2 : Int32))), .unset, .unset, .unset, .unset, .unset, .unset, .unset, .unset] [(.int (2 : Int32)), (.int (psel &&& (3 : Int32)))]) := fun t kt => pre4 t (by
          show Steps p.tables e below (s₁.setTop (mkF m 17 #[.val (.int pf), .val (.int pl), .val (.int pid), .val (.int psel), .val (.int (psel &&& (3 : Int32))), .val (.int (((psel >>> ((2 : Int32) &&& 31)) &&& (3 : Int32)) - (2 : Int32))), .unset, .unset, .unset, .unset, .unset, .unset, .unset, .unset] [(.int (1 : Int32)), (.int (psel &&& (3 : Int32)))])) _
          refine XS.icmpYes X0.here hx rfl (pc0 := 17) (pc' := 29) rfl (hb hby at_17) rfl (feq hc17_5).2 (by decide) (by decide) ?_
          show Steps p.tables e below (s₁.setTop (mkF m 29 #[.val (.int pf), .val (.int pl), .val (.int pid), .val (.int psel), .val (.int (psel &&& (3 : Int32))), .val (.int (((psel >>> ((2 : Int32) &&& 31)) &&& (3 : Int32)) - (2 : Int32))), .unset, .unset, .unset, .unset, .unset, .unset, .unset, .unset] [])) _
          refine XS.iload X0.here hx rfl (hb hby at_29) rfl ?_
          show Steps p.tables e below (s₁.setTop (mkF m 31 #[.val (.int pf), .val (.int pl), .val (.int pid), .val (.int psel), .val (.int (psel &&& (3 : Int32))), .val (.int (((psel >>> ((2 : Int32) &&& 31)) &&& (3 : Int32)) - (2 : Int32))), .unset, .unset, .unset, .unset, .unset, .unset, .unset, .unset] [(.int (psel &&& (3 : Int32)))])) _
          refine XS.iconst X0.here hx rfl (hb hby at_31) ?_
          exact kt)
      by_cases hc32_8 : (psel &&& (3 : Int32)) = (2 : Int32)
      · -- yes at pc 32: t
        have pre9 : Goes p e below s₁ (entryFrame m #[(.int pf), (.int pl), (.int pid), (.int psel)] maxLocals) s₁ (mkF m 47 #[.val (.int pf), .val (.int pl), .val (.int pid), .val (.int psel), .val (.int (psel &&& (3 : Int32))), .val (.int (((psel >>> ((2 : Int32) &&& 31)) &&& (3 : Int32)) - (2 : Int32))), .val (.int (pl + (((psel >>> ((2 : Int32) &&& 31)) &&& (3 : Int32)) - (2 : Int32)))), .unset, .unset, .unset, .unset, .unset, .unset, .unset] []) := fun t kt => pre7 t (by
            show Steps p.tables e below (s₁.setTop (mkF m 32 #[.val (.int pf), .val (.int pl), .val (.int pid), .val (.int psel), .val (.int (psel &&& (3 : Int32))), .val (.int (((psel >>> ((2 : Int32) &&& 31)) &&& (3 : Int32)) - (2 : Int32))), .unset, .unset, .unset, .unset, .unset, .unset, .unset, .unset] [(.int (2 : Int32)), (.int (psel &&& (3 : Int32)))])) _
            refine XS.icmpNo X0.here hx rfl (hb hby at_32) rfl (teq hc32_8).2 ?_
            show Steps p.tables e below (s₁.setTop (mkF m 35 #[.val (.int pf), .val (.int pl), .val (.int pid), .val (.int psel), .val (.int (psel &&& (3 : Int32))), .val (.int (((psel >>> ((2 : Int32) &&& 31)) &&& (3 : Int32)) - (2 : Int32))), .unset, .unset, .unset, .unset, .unset, .unset, .unset, .unset] [])) _
            refine XS.iloadN X0.here hx rfl (hb hby at_35) rfl ?_
            show Steps p.tables e below (s₁.setTop (mkF m 36 #[.val (.int pf), .val (.int pl), .val (.int pid), .val (.int psel), .val (.int (psel &&& (3 : Int32))), .val (.int (((psel >>> ((2 : Int32) &&& 31)) &&& (3 : Int32)) - (2 : Int32))), .unset, .unset, .unset, .unset, .unset, .unset, .unset, .unset] [(.int pl)])) _
            refine XS.iload X0.here hx rfl (hb hby at_36) rfl ?_
            show Steps p.tables e below (s₁.setTop (mkF m 38 #[.val (.int pf), .val (.int pl), .val (.int pid), .val (.int psel), .val (.int (psel &&& (3 : Int32))), .val (.int (((psel >>> ((2 : Int32) &&& 31)) &&& (3 : Int32)) - (2 : Int32))), .unset, .unset, .unset, .unset, .unset, .unset, .unset, .unset] [(.int (((psel >>> ((2 : Int32) &&& 31)) &&& (3 : Int32)) - (2 : Int32))), (.int pl)])) _
            refine XS.iadd X0.here hx rfl (hb hby at_38) rfl ?_
            show Steps p.tables e below (s₁.setTop (mkF m 39 #[.val (.int pf), .val (.int pl), .val (.int pid), .val (.int psel), .val (.int (psel &&& (3 : Int32))), .val (.int (((psel >>> ((2 : Int32) &&& 31)) &&& (3 : Int32)) - (2 : Int32))), .unset, .unset, .unset, .unset, .unset, .unset, .unset, .unset] [(.int (pl + (((psel >>> ((2 : Int32) &&& 31)) &&& (3 : Int32)) - (2 : Int32))))])) _
            refine XS.istore X0.here hx rfl (hb hby at_39) rfl (l' := #[.val (.int pf), .val (.int pl), .val (.int pid), .val (.int psel), .val (.int (psel &&& (3 : Int32))), .val (.int (((psel >>> ((2 : Int32) &&& 31)) &&& (3 : Int32)) - (2 : Int32))), .val (.int (pl + (((psel >>> ((2 : Int32) &&& 31)) &&& (3 : Int32)) - (2 : Int32)))), .unset, .unset, .unset, .unset, .unset, .unset, .unset]) rfl ?_
            show Steps p.tables e below (s₁.setTop (mkF m 41 #[.val (.int pf), .val (.int pl), .val (.int pid), .val (.int psel), .val (.int (psel &&& (3 : Int32))), .val (.int (((psel >>> ((2 : Int32) &&& 31)) &&& (3 : Int32)) - (2 : Int32))), .val (.int (pl + (((psel >>> ((2 : Int32) &&& 31)) &&& (3 : Int32)) - (2 : Int32)))), .unset, .unset, .unset, .unset, .unset, .unset, .unset] [])) _
            refine XS.goto X0.here hx rfl (pc0 := 41) (pc' := 47) rfl (hb hby at_41) (by decide) (by decide) ?_
            exact kt)
        exact ⟨(pl + (((psel >>> ((2 : Int32) &&& 31)) &&& (3 : Int32)) - (2 : Int32))), pre9⟩
      · -- no at pc 32: t
        have pre10 : Goes p e below s₁ (entryFrame m #[(.int pf), (.int pl), (.int pid), (.int psel)] maxLocals) s₁ (mkF m 47 #[.val (.int pf), .val (.int pl), .val (.int pid), .val (.int psel), .val (.int (psel &&& (3 : Int32))), .val (.int (((psel >>> ((2 : Int32) &&& 31)) &&& (3 : Int32)) - (2 : Int32))), .val (.int pid), .unset, .unset, .unset, .unset, .unset, .unset, .unset] []) := fun t kt => pre7 t (by
            show Steps p.tables e below (s₁.setTop (mkF m 32 #[.val (.int pf), .val (.int pl), .val (.int pid), .val (.int psel), .val (.int (psel &&& (3 : Int32))), .val (.int (((psel >>> ((2 : Int32) &&& 31)) &&& (3 : Int32)) - (2 : Int32))), .unset, .unset, .unset, .unset, .unset, .unset, .unset, .unset] [(.int (2 : Int32)), (.int (psel &&& (3 : Int32)))])) _
            refine XS.icmpYes X0.here hx rfl (pc0 := 32) (pc' := 44) rfl (hb hby at_32) rfl (feq hc32_8).2 (by decide) (by decide) ?_
            show Steps p.tables e below (s₁.setTop (mkF m 44 #[.val (.int pf), .val (.int pl), .val (.int pid), .val (.int psel), .val (.int (psel &&& (3 : Int32))), .val (.int (((psel >>> ((2 : Int32) &&& 31)) &&& (3 : Int32)) - (2 : Int32))), .unset, .unset, .unset, .unset, .unset, .unset, .unset, .unset] [])) _
            refine XS.iloadN X0.here hx rfl (hb hby at_44) rfl ?_
            show Steps p.tables e below (s₁.setTop (mkF m 45 #[.val (.int pf), .val (.int pl), .val (.int pid), .val (.int psel), .val (.int (psel &&& (3 : Int32))), .val (.int (((psel >>> ((2 : Int32) &&& 31)) &&& (3 : Int32)) - (2 : Int32))), .unset, .unset, .unset, .unset, .unset, .unset, .unset, .unset] [(.int pid)])) _
            refine XS.istore X0.here hx rfl (hb hby at_45) rfl (l' := #[.val (.int pf), .val (.int pl), .val (.int pid), .val (.int psel), .val (.int (psel &&& (3 : Int32))), .val (.int (((psel >>> ((2 : Int32) &&& 31)) &&& (3 : Int32)) - (2 : Int32))), .val (.int pid), .unset, .unset, .unset, .unset, .unset, .unset, .unset]) rfl ?_
            exact kt)
        exact ⟨pid, pre10⟩
  obtain ⟨T11, h11, X11, e11, E11, A11, DD11, -, st11⟩ := newO X0 hx hZ hown (hw _ (List.mem_of_getElem? (i := 0) rfl)) (hw _ (List.mem_of_getElem? (i := 1) rfl)) (hw _ (List.mem_of_getElem? (i := 2) rfl)) e0 (g := (mkF m 47 #[.val (.int pf), .val (.int pl), .val (.int pid), .val (.int psel), .val (.int (psel &&& (3 : Int32))), .val (.int (((psel >>> ((2 : Int32) &&& 31)) &&& (3 : Int32)) - (2 : Int32))), .val (.int probe), .unset, .unset, .unset, .unset, .unset, .unset, .unset] [])) rfl (hb hby at_47) (by decide) (by decide)
  obtain ⟨b11, g11⟩ : ∃ z, z = h0.size := ⟨_, rfl⟩
  rw [← g11] at A11 DD11 st11
  have F_first_b11 : Fld Z h11 b11 "ratify/Options$IdRange" "first" "I" (.int (0 : Int32)) := DD11 (Or.inr (hw _ (List.mem_of_getElem? (i := 15) rfl))) (ty := .int) (by decide)
  have F_last_b11 : Fld Z h11 b11 "ratify/Options$IdRange" "last" "I" (.int (0 : Int32)) := DD11 (Or.inr (hw _ (List.mem_of_getElem? (i := 17) rfl))) (ty := .int) (by decide)
  have g_b11 : n0 ≤ b11 := Nat.le_trans Z0 (Nat.le_of_eq g11.symm)
  have sz_b11 : h0.size ≤ b11 := (Nat.le_trans (Keep.refl h0 []).1 (Nat.le_of_eq g11.symm))
  have K11 : Keep h0 h11 [] := (Keep.refl h0 []).ext E11
  have pre12 : Goes p e below s₁ (entryFrame m #[(.int pf), (.int pl), (.int pid), (.int psel)] maxLocals) T11 (mkF m 50 #[.val (.int pf), .val (.int pl), .val (.int pid), .val (.int psel), .val (.int (psel &&& (3 : Int32))), .val (.int (((psel >>> ((2 : Int32) &&& 31)) &&& (3 : Int32)) - (2 : Int32))), .val (.int probe), .unset, .unset, .unset, .unset, .unset, .unset, .unset] [(.ref b11)]) := fun t kt => pre3 t (st11 t kt)
  have pre13 : Goes p e below s₁ (entryFrame m #[(.int pf), (.int pl), (.int pid), (.int psel)] maxLocals) T11 (mkF m 53 #[.val (.int pf), .val (.int pl), .val (.int pid), .val (.int psel), .val (.int (psel &&& (3 : Int32))), .val (.int (((psel >>> ((2 : Int32) &&& 31)) &&& (3 : Int32)) - (2 : Int32))), .val (.int probe), .unset, .unset, .unset, .unset, .unset, .unset, .unset] [(.int pl), (.int pf), (.ref b11), (.ref b11)]) := fun t kt => pre12 t (by
      show Steps p.tables e below (T11.setTop (mkF m 50 #[.val (.int pf), .val (.int pl), .val (.int pid), .val (.int psel), .val (.int (psel &&& (3 : Int32))), .val (.int (((psel >>> ((2 : Int32) &&& 31)) &&& (3 : Int32)) - (2 : Int32))), .val (.int probe), .unset, .unset, .unset, .unset, .unset, .unset, .unset] [(.ref b11)])) _
      refine XS.dup X11.here hx rfl (hb hby at_50) rfl rfl ?_
      show Steps p.tables e below (T11.setTop (mkF m 51 #[.val (.int pf), .val (.int pl), .val (.int pid), .val (.int psel), .val (.int (psel &&& (3 : Int32))), .val (.int (((psel >>> ((2 : Int32) &&& 31)) &&& (3 : Int32)) - (2 : Int32))), .val (.int probe), .unset, .unset, .unset, .unset, .unset, .unset, .unset] [(.ref b11), (.ref b11)])) _
      refine XS.iloadN X11.here hx rfl (hb hby at_51) rfl ?_
      show Steps p.tables e below (T11.setTop (mkF m 52 #[.val (.int pf), .val (.int pl), .val (.int pid), .val (.int psel), .val (.int (psel &&& (3 : Int32))), .val (.int (((psel >>> ((2 : Int32) &&& 31)) &&& (3 : Int32)) - (2 : Int32))), .val (.int probe), .unset, .unset, .unset, .unset, .unset, .unset, .unset] [(.int pf), (.ref b11), (.ref b11)])) _
      refine XS.iloadN X11.here hx rfl (hb hby at_52) rfl ?_
      exact kt)
  obtain ⟨_, _, ⟨T14, L14, k14, n14⟩, -, X14, ⟨Lc14, hQ14, l14, y14, z14⟩, st14⟩ := X11.specialBack hx (y := (⟨"ratify/Options$IdRange", "<init>", "(II)V"⟩ : MethodName)) rfl hown (mvT hZ (hw _ (List.mem_of_getElem? (i := 3) rfl))) (mvT hZ (hw _ (List.mem_of_getElem? (i := 4) rfl))) (mvT hZ (hw _ (List.mem_of_getElem? (i := 5) rfl))) (by decide) (backOf (W := 1) (own_rm1 l Z a0 hw [] b11 pf pl _ _ h11 n0 (Nat.le_trans Z0 E11.1) A11 F_first_b11 F_last_b11 g_b11) hZ (hw _ (List.mem_of_getElem? (i := 5) rfl)) (hw _ (List.mem_of_getElem? (i := 2) rfl)) (by decide) (by decide)) (g := (mkF m 53 #[.val (.int pf), .val (.int pl), .val (.int pid), .val (.int psel), .val (.int (psel &&& (3 : Int32))), .val (.int (((psel >>> ((2 : Int32) &&& 31)) &&& (3 : Int32)) - (2 : Int32))), .val (.int probe), .unset, .unset, .unset, .unset, .unset, .unset, .unset] [(.int pl), (.int pf), (.ref b11), (.ref b11)])) rfl (by rw [hml]; rfl) (Steps.refl _) (a := b11) (argsL := [(.int pf), (.int pl)]) (rest := [(.ref b11)]) (lenOf own_pd1 rfl) rfl (by show 2 * 0 + _ ≤ _; exact Nat.le_of_eq rfl) (hb hby at_53) (fun _ _ => ⟨rfl, e11, (by decide : 1 + 0 ≤ _), (by decide : 2 + 0 ≤ _)⟩)
  dsimp only [Pt.U, Pt.locs, Pt.cells, Pt.slots] at X14 l14 y14 z14 st14 hQ14
  subst l14 y14 z14
  obtain ⟨rfl, N14q, K14q, Eq14, Ff14, Fl14⟩ := hQ14
  have N14 := Fr.app N0 N14q
  have KC14 : Keep h0 T14.heap [] := K11.trans K14q (allS (Or.inr sz_b11) all0)
  have pre15 : Goes p e below s₁ (entryFrame m #[(.int pf), (.int pl), (.int pid), (.int psel)] maxLocals) T14 (mkF m 56 #[.val (.int pf), .val (.int pl), .val (.int pid), .val (.int psel), .val (.int (psel &&& (3 : Int32))), .val (.int (((psel >>> ((2 : Int32) &&& 31)) &&& (3 : Int32)) - (2 : Int32))), .val (.int probe), .unset, .unset, .unset, .unset, .unset, .unset, .unset] [(.ref b11)]) := fun t kt => pre13 t (st14.trans kt)
  have pre16 : Goes p e below s₁ (entryFrame m #[(.int pf), (.int pl), (.int pid), (.int psel)] maxLocals) T14 (mkF m 62 #[.val (.int pf), .val (.int pl), .val (.int pid), .val (.int psel), .val (.int (psel &&& (3 : Int32))), .val (.int (((psel >>> ((2 : Int32) &&& 31)) &&& (3 : Int32)) - (2 : Int32))), .val (.int probe), .val (.ref b11), .unset, .unset, .unset, .unset, .unset, .unset] [(.int probe), (.ref b11)]) := fun t kt => pre15 t (by
      show Steps p.tables e below (T14.setTop (mkF m 56 #[.val (.int pf), .val (.int pl), .val (.int pid), .val (.int psel), .val (.int (psel &&& (3 : Int32))), .val (.int (((psel >>> ((2 : Int32) &&& 31)) &&& (3 : Int32)) - (2 : Int32))), .val (.int probe), .unset, .unset, .unset, .unset, .unset, .unset, .unset] [(.ref b11)])) _
      refine XS.astore X14.here hx rfl (hb hby at_56) rfl rfl (l' := #[.val (.int pf), .val (.int pl), .val (.int pid), .val (.int psel), .val (.int (psel &&& (3 : Int32))), .val (.int (((psel >>> ((2 : Int32) &&& 31)) &&& (3 : Int32)) - (2 : Int32))), .val (.int probe), .val (.ref b11), .unset, .unset, .unset, .unset, .unset, .unset]) rfl ?_
      show Steps p.tables e below (T14.setTop (mkF m 58 #[.val (.int pf), .val (.int pl), .val (.int pid), .val (.int psel), .val (.int (psel &&& (3 : Int32))), .val (.int (((psel >>> ((2 : Int32) &&& 31)) &&& (3 : Int32)) - (2 : Int32))), .val (.int probe), .val (.ref b11), .unset, .unset, .unset, .unset, .unset, .unset] [])) _
      refine XS.aload X14.here hx rfl (hb hby at_58) rfl rfl ?_
      show Steps p.tables e below (T14.setTop (mkF m 60 #[.val (.int pf), .val (.int pl), .val (.int pid), .val (.int psel), .val (.int (psel &&& (3 : Int32))), .val (.int (((psel >>> ((2 : Int32) &&& 31)) &&& (3 : Int32)) - (2 : Int32))), .val (.int probe), .val (.ref b11), .unset, .unset, .unset, .unset, .unset, .unset] [(.ref b11)])) _
      refine XS.iload X14.here hx rfl (hb hby at_60) rfl ?_
      exact kt)
  obtain ⟨cq17, kq17, q17a, q17b, q17c⟩ := isOf hZ rfl (A11.keep K14q)
  obtain ⟨_, _, ⟨T17, L17, k17, n17⟩, -, X17, ⟨Lc17, hQ17, l17, y17, z17⟩, st17⟩ := X14.virtualBack hx (y := (⟨"ratify/Options$IdRange", "contains", "(I)Z"⟩ : MethodName)) (z := (⟨"ratify/Options$IdRange", "contains", "(I)Z"⟩ : MethodName)) hown (mvT hZ (hw _ (List.mem_of_getElem? (i := 18) rfl))) (mvT hZ (hw _ (List.mem_of_getElem? (i := 19) rfl))) (notFace_of_selects (args := #[]) (mvT hZ (hw _ (List.mem_of_getElem? (i := 21) rfl)))) (mvT hZ (hw _ (List.mem_of_getElem? (i := 21) rfl))) (mvT hZ (hw _ (List.mem_of_getElem? (i := 20) rfl))) (by decide) (backOf (W := 0) (own_rm4 l Z a0 hw [] b11 probe pf pl T14.heap n0 (Nat.le_trans (Nat.le_trans Z0 E11.1) K14q.1) Ff14 Fl14) hZ (hw _ (List.mem_of_getElem? (i := 22) rfl)) (hw _ (List.mem_of_getElem? (i := 2) rfl)) (by decide) (by decide)) q17a q17c (g := (mkF m 62 #[.val (.int pf), .val (.int pl), .val (.int pid), .val (.int psel), .val (.int (psel &&& (3 : Int32))), .val (.int (((psel >>> ((2 : Int32) &&& 31)) &&& (3 : Int32)) - (2 : Int32))), .val (.int probe), .val (.ref b11), .unset, .unset, .unset, .unset, .unset, .unset] [(.int probe), (.ref b11)])) rfl (by rw [hml]; rfl) (Steps.refl _) (argsL := [(.int probe)]) (rest := []) (lenOf own_pd2 rfl) rfl (by show 2 * 0 + _ ≤ _; exact Nat.le_of_eq rfl) (hb hby at_62) (fun _ _ => ⟨rfl, rfl, (by decide : 1 + 0 ≤ _), (by decide : 2 + 0 ≤ _)⟩)
  dsimp only [Pt.U, Pt.locs, Pt.cells, Pt.slots] at X17 l17 y17 z17 st17 hQ17
  subst l17 y17 z17
  obtain ⟨rfl, N17q, e17⟩ := hQ17
  have N17 := Fr.app N14 N17q
  have pre18 : Goes p e below s₁ (entryFrame m #[(.int pf), (.int pl), (.int pid), (.int psel)] maxLocals) T17 (mkF m 65 #[.val (.int pf), .val (.int pl), .val (.int pid), .val (.int psel), .val (.int (psel &&& (3 : Int32))), .val (.int (((psel >>> ((2 : Int32) &&& 31)) &&& (3 : Int32)) - (2 : Int32))), .val (.int probe), .val (.ref b11), .unset, .unset, .unset, .unset, .unset, .unset] [(.int (if (pf.toInt ≤ probe.toInt ∧ probe.toInt ≤ pl.toInt) then 1 else 0))]) := fun t kt => pre16 t (st17.trans kt)
  have pre19 : Goes p e below s₁ (entryFrame m #[(.int pf), (.int pl), (.int pid), (.int psel)] maxLocals) T17 (mkF m 87 #[.val (.int pf), .val (.int pl), .val (.int pid), .val (.int psel), .val (.int (psel &&& (3 : Int32))), .val (.int (((psel >>> ((2 : Int32) &&& 31)) &&& (3 : Int32)) - (2 : Int32))), .val (.int probe), .val (.ref b11), .val (.int (if (pf.toInt ≤ probe.toInt ∧ probe.toInt ≤ pl.toInt) then 1 else 0)), .val (.long ((probe.toInt64) - (pf.toInt64))), .second, .val (.long ((pl.toInt64) - (probe.toInt64))), .second, .unset] [(.int (lcmpW ((probe.toInt64) - (pf.toInt64)) (0 : Int64)))]) := fun t kt => pre18 t (by
      show Steps p.tables e below (T17.setTop (mkF m 65 #[.val (.int pf), .val (.int pl), .val (.int pid), .val (.int psel), .val (.int (psel &&& (3 : Int32))), .val (.int (((psel >>> ((2 : Int32) &&& 31)) &&& (3 : Int32)) - (2 : Int32))), .val (.int probe), .val (.ref b11), .unset, .unset, .unset, .unset, .unset, .unset] [(.int (if (pf.toInt ≤ probe.toInt ∧ probe.toInt ≤ pl.toInt) then 1 else 0))])) _
      refine XS.istore X17.here hx rfl (hb hby at_65) rfl (l' := #[.val (.int pf), .val (.int pl), .val (.int pid), .val (.int psel), .val (.int (psel &&& (3 : Int32))), .val (.int (((psel >>> ((2 : Int32) &&& 31)) &&& (3 : Int32)) - (2 : Int32))), .val (.int probe), .val (.ref b11), .val (.int (if (pf.toInt ≤ probe.toInt ∧ probe.toInt ≤ pl.toInt) then 1 else 0)), .unset, .unset, .unset, .unset, .unset]) rfl ?_
      show Steps p.tables e below (T17.setTop (mkF m 67 #[.val (.int pf), .val (.int pl), .val (.int pid), .val (.int psel), .val (.int (psel &&& (3 : Int32))), .val (.int (((psel >>> ((2 : Int32) &&& 31)) &&& (3 : Int32)) - (2 : Int32))), .val (.int probe), .val (.ref b11), .val (.int (if (pf.toInt ≤ probe.toInt ∧ probe.toInt ≤ pl.toInt) then 1 else 0)), .unset, .unset, .unset, .unset, .unset] [])) _
      refine XS.iload X17.here hx rfl (hb hby at_67) rfl ?_
      show Steps p.tables e below (T17.setTop (mkF m 69 #[.val (.int pf), .val (.int pl), .val (.int pid), .val (.int psel), .val (.int (psel &&& (3 : Int32))), .val (.int (((psel >>> ((2 : Int32) &&& 31)) &&& (3 : Int32)) - (2 : Int32))), .val (.int probe), .val (.ref b11), .val (.int (if (pf.toInt ≤ probe.toInt ∧ probe.toInt ≤ pl.toInt) then 1 else 0)), .unset, .unset, .unset, .unset, .unset] [(.int probe)])) _
      refine XS.i2l X17.here hx rfl (hb hby at_69) rfl ?_
      show Steps p.tables e below (T17.setTop (mkF m 70 #[.val (.int pf), .val (.int pl), .val (.int pid), .val (.int psel), .val (.int (psel &&& (3 : Int32))), .val (.int (((psel >>> ((2 : Int32) &&& 31)) &&& (3 : Int32)) - (2 : Int32))), .val (.int probe), .val (.ref b11), .val (.int (if (pf.toInt ≤ probe.toInt ∧ probe.toInt ≤ pl.toInt) then 1 else 0)), .unset, .unset, .unset, .unset, .unset] [(.long (probe.toInt64))])) _
      refine XS.iloadN X17.here hx rfl (hb hby at_70) rfl ?_
      show Steps p.tables e below (T17.setTop (mkF m 71 #[.val (.int pf), .val (.int pl), .val (.int pid), .val (.int psel), .val (.int (psel &&& (3 : Int32))), .val (.int (((psel >>> ((2 : Int32) &&& 31)) &&& (3 : Int32)) - (2 : Int32))), .val (.int probe), .val (.ref b11), .val (.int (if (pf.toInt ≤ probe.toInt ∧ probe.toInt ≤ pl.toInt) then 1 else 0)), .unset, .unset, .unset, .unset, .unset] [(.int pf), (.long (probe.toInt64))])) _
      refine XS.i2l X17.here hx rfl (hb hby at_71) rfl ?_
      show Steps p.tables e below (T17.setTop (mkF m 72 #[.val (.int pf), .val (.int pl), .val (.int pid), .val (.int psel), .val (.int (psel &&& (3 : Int32))), .val (.int (((psel >>> ((2 : Int32) &&& 31)) &&& (3 : Int32)) - (2 : Int32))), .val (.int probe), .val (.ref b11), .val (.int (if (pf.toInt ≤ probe.toInt ∧ probe.toInt ≤ pl.toInt) then 1 else 0)), .unset, .unset, .unset, .unset, .unset] [(.long (pf.toInt64)), (.long (probe.toInt64))])) _
      refine XS.lsub X17.here hx rfl (hb hby at_72) rfl ?_
      show Steps p.tables e below (T17.setTop (mkF m 73 #[.val (.int pf), .val (.int pl), .val (.int pid), .val (.int psel), .val (.int (psel &&& (3 : Int32))), .val (.int (((psel >>> ((2 : Int32) &&& 31)) &&& (3 : Int32)) - (2 : Int32))), .val (.int probe), .val (.ref b11), .val (.int (if (pf.toInt ≤ probe.toInt ∧ probe.toInt ≤ pl.toInt) then 1 else 0)), .unset, .unset, .unset, .unset, .unset] [(.long ((probe.toInt64) - (pf.toInt64)))])) _
      refine XS.lstore X17.here hx rfl (hb hby at_73) rfl (l' := #[.val (.int pf), .val (.int pl), .val (.int pid), .val (.int psel), .val (.int (psel &&& (3 : Int32))), .val (.int (((psel >>> ((2 : Int32) &&& 31)) &&& (3 : Int32)) - (2 : Int32))), .val (.int probe), .val (.ref b11), .val (.int (if (pf.toInt ≤ probe.toInt ∧ probe.toInt ≤ pl.toInt) then 1 else 0)), .val (.long ((probe.toInt64) - (pf.toInt64))), .second, .unset, .unset, .unset]) rfl ?_
      show Steps p.tables e below (T17.setTop (mkF m 75 #[.val (.int pf), .val (.int pl), .val (.int pid), .val (.int psel), .val (.int (psel &&& (3 : Int32))), .val (.int (((psel >>> ((2 : Int32) &&& 31)) &&& (3 : Int32)) - (2 : Int32))), .val (.int probe), .val (.ref b11), .val (.int (if (pf.toInt ≤ probe.toInt ∧ probe.toInt ≤ pl.toInt) then 1 else 0)), .val (.long ((probe.toInt64) - (pf.toInt64))), .second, .unset, .unset, .unset] [])) _
      refine XS.iloadN X17.here hx rfl (hb hby at_75) rfl ?_
      show Steps p.tables e below (T17.setTop (mkF m 76 #[.val (.int pf), .val (.int pl), .val (.int pid), .val (.int psel), .val (.int (psel &&& (3 : Int32))), .val (.int (((psel >>> ((2 : Int32) &&& 31)) &&& (3 : Int32)) - (2 : Int32))), .val (.int probe), .val (.ref b11), .val (.int (if (pf.toInt ≤ probe.toInt ∧ probe.toInt ≤ pl.toInt) then 1 else 0)), .val (.long ((probe.toInt64) - (pf.toInt64))), .second, .unset, .unset, .unset] [(.int pl)])) _
      refine XS.i2l X17.here hx rfl (hb hby at_76) rfl ?_
      show Steps p.tables e below (T17.setTop (mkF m 77 #[.val (.int pf), .val (.int pl), .val (.int pid), .val (.int psel), .val (.int (psel &&& (3 : Int32))), .val (.int (((psel >>> ((2 : Int32) &&& 31)) &&& (3 : Int32)) - (2 : Int32))), .val (.int probe), .val (.ref b11), .val (.int (if (pf.toInt ≤ probe.toInt ∧ probe.toInt ≤ pl.toInt) then 1 else 0)), .val (.long ((probe.toInt64) - (pf.toInt64))), .second, .unset, .unset, .unset] [(.long (pl.toInt64))])) _
      refine XS.iload X17.here hx rfl (hb hby at_77) rfl ?_
      show Steps p.tables e below (T17.setTop (mkF m 79 #[.val (.int pf), .val (.int pl), .val (.int pid), .val (.int psel), .val (.int (psel &&& (3 : Int32))), .val (.int (((psel >>> ((2 : Int32) &&& 31)) &&& (3 : Int32)) - (2 : Int32))), .val (.int probe), .val (.ref b11), .val (.int (if (pf.toInt ≤ probe.toInt ∧ probe.toInt ≤ pl.toInt) then 1 else 0)), .val (.long ((probe.toInt64) - (pf.toInt64))), .second, .unset, .unset, .unset] [(.int probe), (.long (pl.toInt64))])) _
      refine XS.i2l X17.here hx rfl (hb hby at_79) rfl ?_
      show Steps p.tables e below (T17.setTop (mkF m 80 #[.val (.int pf), .val (.int pl), .val (.int pid), .val (.int psel), .val (.int (psel &&& (3 : Int32))), .val (.int (((psel >>> ((2 : Int32) &&& 31)) &&& (3 : Int32)) - (2 : Int32))), .val (.int probe), .val (.ref b11), .val (.int (if (pf.toInt ≤ probe.toInt ∧ probe.toInt ≤ pl.toInt) then 1 else 0)), .val (.long ((probe.toInt64) - (pf.toInt64))), .second, .unset, .unset, .unset] [(.long (probe.toInt64)), (.long (pl.toInt64))])) _
      refine XS.lsub X17.here hx rfl (hb hby at_80) rfl ?_
      show Steps p.tables e below (T17.setTop (mkF m 81 #[.val (.int pf), .val (.int pl), .val (.int pid), .val (.int psel), .val (.int (psel &&& (3 : Int32))), .val (.int (((psel >>> ((2 : Int32) &&& 31)) &&& (3 : Int32)) - (2 : Int32))), .val (.int probe), .val (.ref b11), .val (.int (if (pf.toInt ≤ probe.toInt ∧ probe.toInt ≤ pl.toInt) then 1 else 0)), .val (.long ((probe.toInt64) - (pf.toInt64))), .second, .unset, .unset, .unset] [(.long ((pl.toInt64) - (probe.toInt64)))])) _
      refine XS.lstore X17.here hx rfl (hb hby at_81) rfl (l' := #[.val (.int pf), .val (.int pl), .val (.int pid), .val (.int psel), .val (.int (psel &&& (3 : Int32))), .val (.int (((psel >>> ((2 : Int32) &&& 31)) &&& (3 : Int32)) - (2 : Int32))), .val (.int probe), .val (.ref b11), .val (.int (if (pf.toInt ≤ probe.toInt ∧ probe.toInt ≤ pl.toInt) then 1 else 0)), .val (.long ((probe.toInt64) - (pf.toInt64))), .second, .val (.long ((pl.toInt64) - (probe.toInt64))), .second, .unset]) rfl ?_
      show Steps p.tables e below (T17.setTop (mkF m 83 #[.val (.int pf), .val (.int pl), .val (.int pid), .val (.int psel), .val (.int (psel &&& (3 : Int32))), .val (.int (((psel >>> ((2 : Int32) &&& 31)) &&& (3 : Int32)) - (2 : Int32))), .val (.int probe), .val (.ref b11), .val (.int (if (pf.toInt ≤ probe.toInt ∧ probe.toInt ≤ pl.toInt) then 1 else 0)), .val (.long ((probe.toInt64) - (pf.toInt64))), .second, .val (.long ((pl.toInt64) - (probe.toInt64))), .second, .unset] [])) _
      refine XS.lload X17.here hx rfl (hb hby at_83) rfl ?_
      show Steps p.tables e below (T17.setTop (mkF m 85 #[.val (.int pf), .val (.int pl), .val (.int pid), .val (.int psel), .val (.int (psel &&& (3 : Int32))), .val (.int (((psel >>> ((2 : Int32) &&& 31)) &&& (3 : Int32)) - (2 : Int32))), .val (.int probe), .val (.ref b11), .val (.int (if (pf.toInt ≤ probe.toInt ∧ probe.toInt ≤ pl.toInt) then 1 else 0)), .val (.long ((probe.toInt64) - (pf.toInt64))), .second, .val (.long ((pl.toInt64) - (probe.toInt64))), .second, .unset] [(.long ((probe.toInt64) - (pf.toInt64)))])) _
      refine XS.lconst X17.here hx rfl (hb hby at_85) ?_
      show Steps p.tables e below (T17.setTop (mkF m 86 #[.val (.int pf), .val (.int pl), .val (.int pid), .val (.int psel), .val (.int (psel &&& (3 : Int32))), .val (.int (((psel >>> ((2 : Int32) &&& 31)) &&& (3 : Int32)) - (2 : Int32))), .val (.int probe), .val (.ref b11), .val (.int (if (pf.toInt ≤ probe.toInt ∧ probe.toInt ≤ pl.toInt) then 1 else 0)), .val (.long ((probe.toInt64) - (pf.toInt64))), .second, .val (.long ((pl.toInt64) - (probe.toInt64))), .second, .unset] [(.long (0 : Int64)), (.long ((probe.toInt64) - (pf.toInt64)))])) _
      refine XS.lcmp X17.here hx rfl (hb hby at_86) rfl ?_
      exact kt)
  by_cases hc87_20 : (lcmpW ((probe.toInt64) - (pf.toInt64)) (0 : Int64)) < (0 : Int32)
  · -- yes at pc 87: 
    have pre21 : Goes p e below s₁ (entryFrame m #[(.int pf), (.int pl), (.int pid), (.int psel)] maxLocals) T17 (mkF m 116 #[.val (.int pf), .val (.int pl), .val (.int pid), .val (.int psel), .val (.int (psel &&& (3 : Int32))), .val (.int (((psel >>> ((2 : Int32) &&& 31)) &&& (3 : Int32)) - (2 : Int32))), .val (.int probe), .val (.ref b11), .val (.int (if (pf.toInt ≤ probe.toInt ∧ probe.toInt ≤ pl.toInt) then 1 else 0)), .val (.long ((probe.toInt64) - (pf.toInt64))), .second, .val (.long ((pl.toInt64) - (probe.toInt64))), .second, .val (.int (0 : Int32))] [(.int (1 : Int32))]) := fun t kt => pre19 t (by
        show Steps p.tables e below (T17.setTop (mkF m 87 #[.val (.int pf), .val (.int pl), .val (.int pid), .val (.int psel), .val (.int (psel &&& (3 : Int32))), .val (.int (((psel >>> ((2 : Int32) &&& 31)) &&& (3 : Int32)) - (2 : Int32))), .val (.int probe), .val (.ref b11), .val (.int (if (pf.toInt ≤ probe.toInt ∧ probe.toInt ≤ pl.toInt) then 1 else 0)), .val (.long ((probe.toInt64) - (pf.toInt64))), .second, .val (.long ((pl.toInt64) - (probe.toInt64))), .second, .unset] [(.int (lcmpW ((probe.toInt64) - (pf.toInt64)) (0 : Int64)))])) _
        refine XS.ifYes X17.here hx rfl (pc0 := 87) (pc' := 101) rfl (hb hby at_87) rfl ((if0 _ _).trans (tlt hc87_20).1) (by decide) (by decide) ?_
        show Steps p.tables e below (T17.setTop (mkF m 101 #[.val (.int pf), .val (.int pl), .val (.int pid), .val (.int psel), .val (.int (psel &&& (3 : Int32))), .val (.int (((psel >>> ((2 : Int32) &&& 31)) &&& (3 : Int32)) - (2 : Int32))), .val (.int probe), .val (.ref b11), .val (.int (if (pf.toInt ≤ probe.toInt ∧ probe.toInt ≤ pl.toInt) then 1 else 0)), .val (.long ((probe.toInt64) - (pf.toInt64))), .second, .val (.long ((pl.toInt64) - (probe.toInt64))), .second, .unset] [])) _
        refine XS.iconst X17.here hx rfl (hb hby at_101) ?_
        show Steps p.tables e below (T17.setTop (mkF m 102 #[.val (.int pf), .val (.int pl), .val (.int pid), .val (.int psel), .val (.int (psel &&& (3 : Int32))), .val (.int (((psel >>> ((2 : Int32) &&& 31)) &&& (3 : Int32)) - (2 : Int32))), .val (.int probe), .val (.ref b11), .val (.int (if (pf.toInt ≤ probe.toInt ∧ probe.toInt ≤ pl.toInt) then 1 else 0)), .val (.long ((probe.toInt64) - (pf.toInt64))), .second, .val (.long ((pl.toInt64) - (probe.toInt64))), .second, .unset] [(.int (0 : Int32))])) _
        refine XS.istore X17.here hx rfl (hb hby at_102) rfl (l' := #[.val (.int pf), .val (.int pl), .val (.int pid), .val (.int psel), .val (.int (psel &&& (3 : Int32))), .val (.int (((psel >>> ((2 : Int32) &&& 31)) &&& (3 : Int32)) - (2 : Int32))), .val (.int probe), .val (.ref b11), .val (.int (if (pf.toInt ≤ probe.toInt ∧ probe.toInt ≤ pl.toInt) then 1 else 0)), .val (.long ((probe.toInt64) - (pf.toInt64))), .second, .val (.long ((pl.toInt64) - (probe.toInt64))), .second, .val (.int (0 : Int32))]) rfl ?_
        show Steps p.tables e below (T17.setTop (mkF m 104 #[.val (.int pf), .val (.int pl), .val (.int pid), .val (.int psel), .val (.int (psel &&& (3 : Int32))), .val (.int (((psel >>> ((2 : Int32) &&& 31)) &&& (3 : Int32)) - (2 : Int32))), .val (.int probe), .val (.ref b11), .val (.int (if (pf.toInt ≤ probe.toInt ∧ probe.toInt ≤ pl.toInt) then 1 else 0)), .val (.long ((probe.toInt64) - (pf.toInt64))), .second, .val (.long ((pl.toInt64) - (probe.toInt64))), .second, .val (.int (0 : Int32))] [])) _
        refine XS.iload X17.here hx rfl (hb hby at_104) rfl ?_
        show Steps p.tables e below (T17.setTop (mkF m 106 #[.val (.int pf), .val (.int pl), .val (.int pid), .val (.int psel), .val (.int (psel &&& (3 : Int32))), .val (.int (((psel >>> ((2 : Int32) &&& 31)) &&& (3 : Int32)) - (2 : Int32))), .val (.int probe), .val (.ref b11), .val (.int (if (pf.toInt ≤ probe.toInt ∧ probe.toInt ≤ pl.toInt) then 1 else 0)), .val (.long ((probe.toInt64) - (pf.toInt64))), .second, .val (.long ((pl.toInt64) - (probe.toInt64))), .second, .val (.int (0 : Int32))] [(.int (if (pf.toInt ≤ probe.toInt ∧ probe.toInt ≤ pl.toInt) then 1 else 0))])) _
        refine XS.iload X17.here hx rfl (hb hby at_106) rfl ?_
        show Steps p.tables e below (T17.setTop (mkF m 108 #[.val (.int pf), .val (.int pl), .val (.int pid), .val (.int psel), .val (.int (psel &&& (3 : Int32))), .val (.int (((psel >>> ((2 : Int32) &&& 31)) &&& (3 : Int32)) - (2 : Int32))), .val (.int probe), .val (.ref b11), .val (.int (if (pf.toInt ≤ probe.toInt ∧ probe.toInt ≤ pl.toInt) then 1 else 0)), .val (.long ((probe.toInt64) - (pf.toInt64))), .second, .val (.long ((pl.toInt64) - (probe.toInt64))), .second, .val (.int (0 : Int32))] [(.int (0 : Int32)), (.int (if (pf.toInt ≤ probe.toInt ∧ probe.toInt ≤ pl.toInt) then 1 else 0))])) _
        refine XS.icmpNo X17.here hx rfl (hb hby at_108) rfl (teq (if_neg (own_n4 probe pf pl hc87_20) : (if (pf.toInt ≤ probe.toInt ∧ probe.toInt ≤ pl.toInt) then 1 else 0) = (0 : Int32))).2 ?_
        show Steps p.tables e below (T17.setTop (mkF m 111 #[.val (.int pf), .val (.int pl), .val (.int pid), .val (.int psel), .val (.int (psel &&& (3 : Int32))), .val (.int (((psel >>> ((2 : Int32) &&& 31)) &&& (3 : Int32)) - (2 : Int32))), .val (.int probe), .val (.ref b11), .val (.int (if (pf.toInt ≤ probe.toInt ∧ probe.toInt ≤ pl.toInt) then 1 else 0)), .val (.long ((probe.toInt64) - (pf.toInt64))), .second, .val (.long ((pl.toInt64) - (probe.toInt64))), .second, .val (.int (0 : Int32))] [])) _
        refine XS.iconst X17.here hx rfl (hb hby at_111) ?_
        show Steps p.tables e below (T17.setTop (mkF m 112 #[.val (.int pf), .val (.int pl), .val (.int pid), .val (.int psel), .val (.int (psel &&& (3 : Int32))), .val (.int (((psel >>> ((2 : Int32) &&& 31)) &&& (3 : Int32)) - (2 : Int32))), .val (.int probe), .val (.ref b11), .val (.int (if (pf.toInt ≤ probe.toInt ∧ probe.toInt ≤ pl.toInt) then 1 else 0)), .val (.long ((probe.toInt64) - (pf.toInt64))), .second, .val (.long ((pl.toInt64) - (probe.toInt64))), .second, .val (.int (0 : Int32))] [(.int (1 : Int32))])) _
        refine XS.goto X17.here hx rfl (pc0 := 112) (pc' := 116) rfl (hb hby at_112) (by decide) (by decide) ?_
        exact kt)
    obtain ⟨fs, hr, hrun, hended, hW, hsame⟩ := X17.leave (v := some (.int (1 : Int32))) (fun h => by rw [Bd.returns] at h; cases h)
    refine ⟨_, _, pre21 _ ?_, hrun, hended, _, _, rfl, ?_, ⟨_, rfl⟩, hW, hsame.mono (by decide) (by decide)⟩
    · show Steps p.tables e below (T17.setTop (mkF m 116 #[.val (.int pf), .val (.int pl), .val (.int pid), .val (.int psel), .val (.int (psel &&& (3 : Int32))), .val (.int (((psel >>> ((2 : Int32) &&& 31)) &&& (3 : Int32)) - (2 : Int32))), .val (.int probe), .val (.ref b11), .val (.int (if (pf.toInt ≤ probe.toInt ∧ probe.toInt ≤ pl.toInt) then 1 else 0)), .val (.long ((probe.toInt64) - (pf.toInt64))), .second, .val (.long ((pl.toInt64) - (probe.toInt64))), .second, .val (.int (0 : Int32))] [(.int (1 : Int32))])) _
      exact retN X17 hx (t := .boolean) Bd.returns (by simp) (hb hby at_116) hr
    · show Q_own_rm0 Z pf pl pid psel h0 n0 _ T17.heap _
      rw [e17]
      exact ⟨rfl, N17⟩
  · -- no at pc 87: 
    have pre22 : Goes p e below s₁ (entryFrame m #[(.int pf), (.int pl), (.int pid), (.int psel)] maxLocals) T17 (mkF m 94 #[.val (.int pf), .val (.int pl), .val (.int pid), .val (.int psel), .val (.int (psel &&& (3 : Int32))), .val (.int (((psel >>> ((2 : Int32) &&& 31)) &&& (3 : Int32)) - (2 : Int32))), .val (.int probe), .val (.ref b11), .val (.int (if (pf.toInt ≤ probe.toInt ∧ probe.toInt ≤ pl.toInt) then 1 else 0)), .val (.long ((probe.toInt64) - (pf.toInt64))), .second, .val (.long ((pl.toInt64) - (probe.toInt64))), .second, .unset] [(.int (lcmpW ((pl.toInt64) - (probe.toInt64)) (0 : Int64)))]) := fun t kt => pre19 t (by
        show Steps p.tables e below (T17.setTop (mkF m 87 #[.val (.int pf), .val (.int pl), .val (.int pid), .val (.int psel), .val (.int (psel &&& (3 : Int32))), .val (.int (((psel >>> ((2 : Int32) &&& 31)) &&& (3 : Int32)) - (2 : Int32))), .val (.int probe), .val (.ref b11), .val (.int (if (pf.toInt ≤ probe.toInt ∧ probe.toInt ≤ pl.toInt) then 1 else 0)), .val (.long ((probe.toInt64) - (pf.toInt64))), .second, .val (.long ((pl.toInt64) - (probe.toInt64))), .second, .unset] [(.int (lcmpW ((probe.toInt64) - (pf.toInt64)) (0 : Int64)))])) _
        refine XS.ifNo X17.here hx rfl (hb hby at_87) rfl ((if0 _ _).trans (flt hc87_20).1) ?_
        show Steps p.tables e below (T17.setTop (mkF m 90 #[.val (.int pf), .val (.int pl), .val (.int pid), .val (.int psel), .val (.int (psel &&& (3 : Int32))), .val (.int (((psel >>> ((2 : Int32) &&& 31)) &&& (3 : Int32)) - (2 : Int32))), .val (.int probe), .val (.ref b11), .val (.int (if (pf.toInt ≤ probe.toInt ∧ probe.toInt ≤ pl.toInt) then 1 else 0)), .val (.long ((probe.toInt64) - (pf.toInt64))), .second, .val (.long ((pl.toInt64) - (probe.toInt64))), .second, .unset] [])) _
        refine XS.lload X17.here hx rfl (hb hby at_90) rfl ?_
        show Steps p.tables e below (T17.setTop (mkF m 92 #[.val (.int pf), .val (.int pl), .val (.int pid), .val (.int psel), .val (.int (psel &&& (3 : Int32))), .val (.int (((psel >>> ((2 : Int32) &&& 31)) &&& (3 : Int32)) - (2 : Int32))), .val (.int probe), .val (.ref b11), .val (.int (if (pf.toInt ≤ probe.toInt ∧ probe.toInt ≤ pl.toInt) then 1 else 0)), .val (.long ((probe.toInt64) - (pf.toInt64))), .second, .val (.long ((pl.toInt64) - (probe.toInt64))), .second, .unset] [(.long ((pl.toInt64) - (probe.toInt64)))])) _
        refine XS.lconst X17.here hx rfl (hb hby at_92) ?_
        show Steps p.tables e below (T17.setTop (mkF m 93 #[.val (.int pf), .val (.int pl), .val (.int pid), .val (.int psel), .val (.int (psel &&& (3 : Int32))), .val (.int (((psel >>> ((2 : Int32) &&& 31)) &&& (3 : Int32)) - (2 : Int32))), .val (.int probe), .val (.ref b11), .val (.int (if (pf.toInt ≤ probe.toInt ∧ probe.toInt ≤ pl.toInt) then 1 else 0)), .val (.long ((probe.toInt64) - (pf.toInt64))), .second, .val (.long ((pl.toInt64) - (probe.toInt64))), .second, .unset] [(.long (0 : Int64)), (.long ((pl.toInt64) - (probe.toInt64)))])) _
        refine XS.lcmp X17.here hx rfl (hb hby at_93) rfl ?_
        exact kt)
    by_cases hc94_23 : (lcmpW ((pl.toInt64) - (probe.toInt64)) (0 : Int64)) < (0 : Int32)
    · -- yes at pc 94: f
      have pre24 : Goes p e below s₁ (entryFrame m #[(.int pf), (.int pl), (.int pid), (.int psel)] maxLocals) T17 (mkF m 116 #[.val (.int pf), .val (.int pl), .val (.int pid), .val (.int psel), .val (.int (psel &&& (3 : Int32))), .val (.int (((psel >>> ((2 : Int32) &&& 31)) &&& (3 : Int32)) - (2 : Int32))), .val (.int probe), .val (.ref b11), .val (.int (if (pf.toInt ≤ probe.toInt ∧ probe.toInt ≤ pl.toInt) then 1 else 0)), .val (.long ((probe.toInt64) - (pf.toInt64))), .second, .val (.long ((pl.toInt64) - (probe.toInt64))), .second, .val (.int (0 : Int32))] [(.int (1 : Int32))]) := fun t kt => pre22 t (by
          show Steps p.tables e below (T17.setTop (mkF m 94 #[.val (.int pf), .val (.int pl), .val (.int pid), .val (.int psel), .val (.int (psel &&& (3 : Int32))), .val (.int (((psel >>> ((2 : Int32) &&& 31)) &&& (3 : Int32)) - (2 : Int32))), .val (.int probe), .val (.ref b11), .val (.int (if (pf.toInt ≤ probe.toInt ∧ probe.toInt ≤ pl.toInt) then 1 else 0)), .val (.long ((probe.toInt64) - (pf.toInt64))), .second, .val (.long ((pl.toInt64) - (probe.toInt64))), .second, .unset] [(.int (lcmpW ((pl.toInt64) - (probe.toInt64)) (0 : Int64)))])) _
          refine XS.ifYes X17.here hx rfl (pc0 := 94) (pc' := 101) rfl (hb hby at_94) rfl ((if0 _ _).trans (tlt hc94_23).1) (by decide) (by decide) ?_
          show Steps p.tables e below (T17.setTop (mkF m 101 #[.val (.int pf), .val (.int pl), .val (.int pid), .val (.int psel), .val (.int (psel &&& (3 : Int32))), .val (.int (((psel >>> ((2 : Int32) &&& 31)) &&& (3 : Int32)) - (2 : Int32))), .val (.int probe), .val (.ref b11), .val (.int (if (pf.toInt ≤ probe.toInt ∧ probe.toInt ≤ pl.toInt) then 1 else 0)), .val (.long ((probe.toInt64) - (pf.toInt64))), .second, .val (.long ((pl.toInt64) - (probe.toInt64))), .second, .unset] [])) _
          refine XS.iconst X17.here hx rfl (hb hby at_101) ?_
          show Steps p.tables e below (T17.setTop (mkF m 102 #[.val (.int pf), .val (.int pl), .val (.int pid), .val (.int psel), .val (.int (psel &&& (3 : Int32))), .val (.int (((psel >>> ((2 : Int32) &&& 31)) &&& (3 : Int32)) - (2 : Int32))), .val (.int probe), .val (.ref b11), .val (.int (if (pf.toInt ≤ probe.toInt ∧ probe.toInt ≤ pl.toInt) then 1 else 0)), .val (.long ((probe.toInt64) - (pf.toInt64))), .second, .val (.long ((pl.toInt64) - (probe.toInt64))), .second, .unset] [(.int (0 : Int32))])) _
          refine XS.istore X17.here hx rfl (hb hby at_102) rfl (l' := #[.val (.int pf), .val (.int pl), .val (.int pid), .val (.int psel), .val (.int (psel &&& (3 : Int32))), .val (.int (((psel >>> ((2 : Int32) &&& 31)) &&& (3 : Int32)) - (2 : Int32))), .val (.int probe), .val (.ref b11), .val (.int (if (pf.toInt ≤ probe.toInt ∧ probe.toInt ≤ pl.toInt) then 1 else 0)), .val (.long ((probe.toInt64) - (pf.toInt64))), .second, .val (.long ((pl.toInt64) - (probe.toInt64))), .second, .val (.int (0 : Int32))]) rfl ?_
          show Steps p.tables e below (T17.setTop (mkF m 104 #[.val (.int pf), .val (.int pl), .val (.int pid), .val (.int psel), .val (.int (psel &&& (3 : Int32))), .val (.int (((psel >>> ((2 : Int32) &&& 31)) &&& (3 : Int32)) - (2 : Int32))), .val (.int probe), .val (.ref b11), .val (.int (if (pf.toInt ≤ probe.toInt ∧ probe.toInt ≤ pl.toInt) then 1 else 0)), .val (.long ((probe.toInt64) - (pf.toInt64))), .second, .val (.long ((pl.toInt64) - (probe.toInt64))), .second, .val (.int (0 : Int32))] [])) _
          refine XS.iload X17.here hx rfl (hb hby at_104) rfl ?_
          show Steps p.tables e below (T17.setTop (mkF m 106 #[.val (.int pf), .val (.int pl), .val (.int pid), .val (.int psel), .val (.int (psel &&& (3 : Int32))), .val (.int (((psel >>> ((2 : Int32) &&& 31)) &&& (3 : Int32)) - (2 : Int32))), .val (.int probe), .val (.ref b11), .val (.int (if (pf.toInt ≤ probe.toInt ∧ probe.toInt ≤ pl.toInt) then 1 else 0)), .val (.long ((probe.toInt64) - (pf.toInt64))), .second, .val (.long ((pl.toInt64) - (probe.toInt64))), .second, .val (.int (0 : Int32))] [(.int (if (pf.toInt ≤ probe.toInt ∧ probe.toInt ≤ pl.toInt) then 1 else 0))])) _
          refine XS.iload X17.here hx rfl (hb hby at_106) rfl ?_
          show Steps p.tables e below (T17.setTop (mkF m 108 #[.val (.int pf), .val (.int pl), .val (.int pid), .val (.int psel), .val (.int (psel &&& (3 : Int32))), .val (.int (((psel >>> ((2 : Int32) &&& 31)) &&& (3 : Int32)) - (2 : Int32))), .val (.int probe), .val (.ref b11), .val (.int (if (pf.toInt ≤ probe.toInt ∧ probe.toInt ≤ pl.toInt) then 1 else 0)), .val (.long ((probe.toInt64) - (pf.toInt64))), .second, .val (.long ((pl.toInt64) - (probe.toInt64))), .second, .val (.int (0 : Int32))] [(.int (0 : Int32)), (.int (if (pf.toInt ≤ probe.toInt ∧ probe.toInt ≤ pl.toInt) then 1 else 0))])) _
          refine XS.icmpNo X17.here hx rfl (hb hby at_108) rfl (teq (if_neg (own_n5 probe pf pl hc87_20 hc94_23) : (if (pf.toInt ≤ probe.toInt ∧ probe.toInt ≤ pl.toInt) then 1 else 0) = (0 : Int32))).2 ?_
          show Steps p.tables e below (T17.setTop (mkF m 111 #[.val (.int pf), .val (.int pl), .val (.int pid), .val (.int psel), .val (.int (psel &&& (3 : Int32))), .val (.int (((psel >>> ((2 : Int32) &&& 31)) &&& (3 : Int32)) - (2 : Int32))), .val (.int probe), .val (.ref b11), .val (.int (if (pf.toInt ≤ probe.toInt ∧ probe.toInt ≤ pl.toInt) then 1 else 0)), .val (.long ((probe.toInt64) - (pf.toInt64))), .second, .val (.long ((pl.toInt64) - (probe.toInt64))), .second, .val (.int (0 : Int32))] [])) _
          refine XS.iconst X17.here hx rfl (hb hby at_111) ?_
          show Steps p.tables e below (T17.setTop (mkF m 112 #[.val (.int pf), .val (.int pl), .val (.int pid), .val (.int psel), .val (.int (psel &&& (3 : Int32))), .val (.int (((psel >>> ((2 : Int32) &&& 31)) &&& (3 : Int32)) - (2 : Int32))), .val (.int probe), .val (.ref b11), .val (.int (if (pf.toInt ≤ probe.toInt ∧ probe.toInt ≤ pl.toInt) then 1 else 0)), .val (.long ((probe.toInt64) - (pf.toInt64))), .second, .val (.long ((pl.toInt64) - (probe.toInt64))), .second, .val (.int (0 : Int32))] [(.int (1 : Int32))])) _
          refine XS.goto X17.here hx rfl (pc0 := 112) (pc' := 116) rfl (hb hby at_112) (by decide) (by decide) ?_
          exact kt)
      obtain ⟨fs, hr, hrun, hended, hW, hsame⟩ := X17.leave (v := some (.int (1 : Int32))) (fun h => by rw [Bd.returns] at h; cases h)
      refine ⟨_, _, pre24 _ ?_, hrun, hended, _, _, rfl, ?_, ⟨_, rfl⟩, hW, hsame.mono (by decide) (by decide)⟩
      · show Steps p.tables e below (T17.setTop (mkF m 116 #[.val (.int pf), .val (.int pl), .val (.int pid), .val (.int psel), .val (.int (psel &&& (3 : Int32))), .val (.int (((psel >>> ((2 : Int32) &&& 31)) &&& (3 : Int32)) - (2 : Int32))), .val (.int probe), .val (.ref b11), .val (.int (if (pf.toInt ≤ probe.toInt ∧ probe.toInt ≤ pl.toInt) then 1 else 0)), .val (.long ((probe.toInt64) - (pf.toInt64))), .second, .val (.long ((pl.toInt64) - (probe.toInt64))), .second, .val (.int (0 : Int32))] [(.int (1 : Int32))])) _
        exact retN X17 hx (t := .boolean) Bd.returns (by simp) (hb hby at_116) hr
      · show Q_own_rm0 Z pf pl pid psel h0 n0 _ T17.heap _
        rw [e17]
        exact ⟨rfl, N17⟩
    · -- no at pc 94: f
      have pre25 : Goes p e below s₁ (entryFrame m #[(.int pf), (.int pl), (.int pid), (.int psel)] maxLocals) T17 (mkF m 116 #[.val (.int pf), .val (.int pl), .val (.int pid), .val (.int psel), .val (.int (psel &&& (3 : Int32))), .val (.int (((psel >>> ((2 : Int32) &&& 31)) &&& (3 : Int32)) - (2 : Int32))), .val (.int probe), .val (.ref b11), .val (.int (if (pf.toInt ≤ probe.toInt ∧ probe.toInt ≤ pl.toInt) then 1 else 0)), .val (.long ((probe.toInt64) - (pf.toInt64))), .second, .val (.long ((pl.toInt64) - (probe.toInt64))), .second, .val (.int (1 : Int32))] [(.int (1 : Int32))]) := fun t kt => pre22 t (by
          show Steps p.tables e below (T17.setTop (mkF m 94 #[.val (.int pf), .val (.int pl), .val (.int pid), .val (.int psel), .val (.int (psel &&& (3 : Int32))), .val (.int (((psel >>> ((2 : Int32) &&& 31)) &&& (3 : Int32)) - (2 : Int32))), .val (.int probe), .val (.ref b11), .val (.int (if (pf.toInt ≤ probe.toInt ∧ probe.toInt ≤ pl.toInt) then 1 else 0)), .val (.long ((probe.toInt64) - (pf.toInt64))), .second, .val (.long ((pl.toInt64) - (probe.toInt64))), .second, .unset] [(.int (lcmpW ((pl.toInt64) - (probe.toInt64)) (0 : Int64)))])) _
          refine XS.ifNo X17.here hx rfl (hb hby at_94) rfl ((if0 _ _).trans (flt hc94_23).1) ?_
          show Steps p.tables e below (T17.setTop (mkF m 97 #[.val (.int pf), .val (.int pl), .val (.int pid), .val (.int psel), .val (.int (psel &&& (3 : Int32))), .val (.int (((psel >>> ((2 : Int32) &&& 31)) &&& (3 : Int32)) - (2 : Int32))), .val (.int probe), .val (.ref b11), .val (.int (if (pf.toInt ≤ probe.toInt ∧ probe.toInt ≤ pl.toInt) then 1 else 0)), .val (.long ((probe.toInt64) - (pf.toInt64))), .second, .val (.long ((pl.toInt64) - (probe.toInt64))), .second, .unset] [])) _
          refine XS.iconst X17.here hx rfl (hb hby at_97) ?_
          show Steps p.tables e below (T17.setTop (mkF m 98 #[.val (.int pf), .val (.int pl), .val (.int pid), .val (.int psel), .val (.int (psel &&& (3 : Int32))), .val (.int (((psel >>> ((2 : Int32) &&& 31)) &&& (3 : Int32)) - (2 : Int32))), .val (.int probe), .val (.ref b11), .val (.int (if (pf.toInt ≤ probe.toInt ∧ probe.toInt ≤ pl.toInt) then 1 else 0)), .val (.long ((probe.toInt64) - (pf.toInt64))), .second, .val (.long ((pl.toInt64) - (probe.toInt64))), .second, .unset] [(.int (1 : Int32))])) _
          refine XS.goto X17.here hx rfl (pc0 := 98) (pc' := 102) rfl (hb hby at_98) (by decide) (by decide) ?_
          show Steps p.tables e below (T17.setTop (mkF m 102 #[.val (.int pf), .val (.int pl), .val (.int pid), .val (.int psel), .val (.int (psel &&& (3 : Int32))), .val (.int (((psel >>> ((2 : Int32) &&& 31)) &&& (3 : Int32)) - (2 : Int32))), .val (.int probe), .val (.ref b11), .val (.int (if (pf.toInt ≤ probe.toInt ∧ probe.toInt ≤ pl.toInt) then 1 else 0)), .val (.long ((probe.toInt64) - (pf.toInt64))), .second, .val (.long ((pl.toInt64) - (probe.toInt64))), .second, .unset] [(.int (1 : Int32))])) _
          refine XS.istore X17.here hx rfl (hb hby at_102) rfl (l' := #[.val (.int pf), .val (.int pl), .val (.int pid), .val (.int psel), .val (.int (psel &&& (3 : Int32))), .val (.int (((psel >>> ((2 : Int32) &&& 31)) &&& (3 : Int32)) - (2 : Int32))), .val (.int probe), .val (.ref b11), .val (.int (if (pf.toInt ≤ probe.toInt ∧ probe.toInt ≤ pl.toInt) then 1 else 0)), .val (.long ((probe.toInt64) - (pf.toInt64))), .second, .val (.long ((pl.toInt64) - (probe.toInt64))), .second, .val (.int (1 : Int32))]) rfl ?_
          show Steps p.tables e below (T17.setTop (mkF m 104 #[.val (.int pf), .val (.int pl), .val (.int pid), .val (.int psel), .val (.int (psel &&& (3 : Int32))), .val (.int (((psel >>> ((2 : Int32) &&& 31)) &&& (3 : Int32)) - (2 : Int32))), .val (.int probe), .val (.ref b11), .val (.int (if (pf.toInt ≤ probe.toInt ∧ probe.toInt ≤ pl.toInt) then 1 else 0)), .val (.long ((probe.toInt64) - (pf.toInt64))), .second, .val (.long ((pl.toInt64) - (probe.toInt64))), .second, .val (.int (1 : Int32))] [])) _
          refine XS.iload X17.here hx rfl (hb hby at_104) rfl ?_
          show Steps p.tables e below (T17.setTop (mkF m 106 #[.val (.int pf), .val (.int pl), .val (.int pid), .val (.int psel), .val (.int (psel &&& (3 : Int32))), .val (.int (((psel >>> ((2 : Int32) &&& 31)) &&& (3 : Int32)) - (2 : Int32))), .val (.int probe), .val (.ref b11), .val (.int (if (pf.toInt ≤ probe.toInt ∧ probe.toInt ≤ pl.toInt) then 1 else 0)), .val (.long ((probe.toInt64) - (pf.toInt64))), .second, .val (.long ((pl.toInt64) - (probe.toInt64))), .second, .val (.int (1 : Int32))] [(.int (if (pf.toInt ≤ probe.toInt ∧ probe.toInt ≤ pl.toInt) then 1 else 0))])) _
          refine XS.iload X17.here hx rfl (hb hby at_106) rfl ?_
          show Steps p.tables e below (T17.setTop (mkF m 108 #[.val (.int pf), .val (.int pl), .val (.int pid), .val (.int psel), .val (.int (psel &&& (3 : Int32))), .val (.int (((psel >>> ((2 : Int32) &&& 31)) &&& (3 : Int32)) - (2 : Int32))), .val (.int probe), .val (.ref b11), .val (.int (if (pf.toInt ≤ probe.toInt ∧ probe.toInt ≤ pl.toInt) then 1 else 0)), .val (.long ((probe.toInt64) - (pf.toInt64))), .second, .val (.long ((pl.toInt64) - (probe.toInt64))), .second, .val (.int (1 : Int32))] [(.int (1 : Int32)), (.int (if (pf.toInt ≤ probe.toInt ∧ probe.toInt ≤ pl.toInt) then 1 else 0))])) _
          refine XS.icmpNo X17.here hx rfl (hb hby at_108) rfl (teq (if_pos (own_n6 probe pf pl hc87_20 hc94_23) : (if (pf.toInt ≤ probe.toInt ∧ probe.toInt ≤ pl.toInt) then 1 else 0) = (1 : Int32))).2 ?_
          show Steps p.tables e below (T17.setTop (mkF m 111 #[.val (.int pf), .val (.int pl), .val (.int pid), .val (.int psel), .val (.int (psel &&& (3 : Int32))), .val (.int (((psel >>> ((2 : Int32) &&& 31)) &&& (3 : Int32)) - (2 : Int32))), .val (.int probe), .val (.ref b11), .val (.int (if (pf.toInt ≤ probe.toInt ∧ probe.toInt ≤ pl.toInt) then 1 else 0)), .val (.long ((probe.toInt64) - (pf.toInt64))), .second, .val (.long ((pl.toInt64) - (probe.toInt64))), .second, .val (.int (1 : Int32))] [])) _
          refine XS.iconst X17.here hx rfl (hb hby at_111) ?_
          show Steps p.tables e below (T17.setTop (mkF m 112 #[.val (.int pf), .val (.int pl), .val (.int pid), .val (.int psel), .val (.int (psel &&& (3 : Int32))), .val (.int (((psel >>> ((2 : Int32) &&& 31)) &&& (3 : Int32)) - (2 : Int32))), .val (.int probe), .val (.ref b11), .val (.int (if (pf.toInt ≤ probe.toInt ∧ probe.toInt ≤ pl.toInt) then 1 else 0)), .val (.long ((probe.toInt64) - (pf.toInt64))), .second, .val (.long ((pl.toInt64) - (probe.toInt64))), .second, .val (.int (1 : Int32))] [(.int (1 : Int32))])) _
          refine XS.goto X17.here hx rfl (pc0 := 112) (pc' := 116) rfl (hb hby at_112) (by decide) (by decide) ?_
          exact kt)
      obtain ⟨fs, hr, hrun, hended, hW, hsame⟩ := X17.leave (v := some (.int (1 : Int32))) (fun h => by rw [Bd.returns] at h; cases h)
      refine ⟨_, _, pre25 _ ?_, hrun, hended, _, _, rfl, ?_, ⟨_, rfl⟩, hW, hsame.mono (by decide) (by decide)⟩
      · show Steps p.tables e below (T17.setTop (mkF m 116 #[.val (.int pf), .val (.int pl), .val (.int pid), .val (.int psel), .val (.int (psel &&& (3 : Int32))), .val (.int (((psel >>> ((2 : Int32) &&& 31)) &&& (3 : Int32)) - (2 : Int32))), .val (.int probe), .val (.ref b11), .val (.int (if (pf.toInt ≤ probe.toInt ∧ probe.toInt ≤ pl.toInt) then 1 else 0)), .val (.long ((probe.toInt64) - (pf.toInt64))), .second, .val (.long ((pl.toInt64) - (probe.toInt64))), .second, .val (.int (1 : Int32))] [(.int (1 : Int32))])) _
        exact retN X17 hx (t := .boolean) Bd.returns (by simp) (hb hby at_116) hr
      · show Q_own_rm0 Z pf pl pid psel h0 n0 _ T17.heap _
        rw [e17]
        exact ⟨rfl, N17⟩
set_option maxRecDepth 65536 in
set_option maxHeartbeats 40000000 in
theorem comes_1 {Post : Tables → Env → Array Value → State → Outcome → State → Prop} (hpost : ∀ tb e args s v u, (limb_1_1.after args s (.returned v) u = true ∧ limb_1_2.after args s (.returned v) u = true ∧ True) → FrameEnd s (.returned v) u (Jvm.fieldLocs frame_1_writes args s ++ Jvm.arrayLocs frame_1_arrays args s ++ Jvm.staticLocs frame_1_statics s) 16 128 → Post tb e args s (.returned v) u) :
    ArmFor flags0 classFile x code maxLocals ret World_1 tables_1 room_1 Calls_1 rest_1 Pre_1 Post := by
  intro l hfl _ _ p e ha hc hk s m args below hf hA hF happ hP
  obtain ⟨hcalls, hrest, hpre⟩ := hP
  obtain ⟨-, -, -, hnamed, -, -, -, hat⟩ := (Spec.applies_iff hf).mp happ
  obtain ⟨hg, hn⟩ := and_e (Cond.before_iff.mp (show (Jvm.Cond.and given_1 narrow_1).before args s = true from hpre))
  obtain ⟨g5, g6⟩ := and_e hg
  obtain ⟨g7, g8⟩ := and_e g6
  obtain ⟨g9, g10⟩ := and_e g8
  obtain ⟨g11, g12⟩ := and_e g10
  obtain ⟨w0, w1, w2, w3, rfl⟩ : ∃ w0 w1 w2 w3 : Value, args = #[w0, w1, w2, w3] := by
    have hs : args.size = 4 := by simpa [Cond.value, given_1] using g5
    obtain ⟨L⟩ := args
    match L, hs with
    | [w0, w1, w2, w3], _ => exact ⟨w0, w1, w2, w3, rfl⟩
  have hw := fun d (hd : d ∈ tables_1) => atoms_spec (ws := Jvm.Cond.code x code maxLocals ret :: tables_1) hat d (List.mem_cons_of_mem _ hd)
  have hfit : Fit s := fun {y c} hc i hi => by
    obtain ⟨ha, rfl⟩ := Array.getElem?_eq_some_iff.mp hc
    have q := List.all_eq_true.mp ((Array.all_eq_true_iff_forall_mem.mp hF) _ (Array.getElem_mem ha)) i (List.mem_range.mpr hi)
    simpa [Array.getElem?_eq_getElem hi] using q
  obtain ⟨i0, ei0⟩ := is_v g7
  obtain rfl : w0 = (.int i0) := Option.some.inj ei0
  obtain ⟨i1, ei1⟩ := is_v g9
  obtain rfl : w1 = (.int i1) := Option.some.inj ei1
  obtain ⟨i2, ei2⟩ := is_v g11
  obtain rfl : w2 = (.int i2) := Option.some.inj ei2
  obtain ⟨i3, ei3⟩ := is_v g12
  obtain rfl : w3 = (.int i3) := Option.some.inj ei3
  obtain ⟨n, o, h1, h2, h3, _, L, rfl, ⟨rfl, N⟩, hq⟩ := own_rm0 l s _ hw tables_1 i0 i1 i2 i3  s.heap s.heap.size (Nat.le_refl _)  p e ha hc hk s m _ below hf ((Spec.applies_iff_loose hf).mp happ).1 ⟨rfl, State.Warmed39.refl s, rfl⟩ trivial
  refine ⟨n, _, h1, h2, h3, hpost _ _ _ _ _ _ ⟨Cond.after_iff.mpr rfl, Cond.after_iff.mpr (eq_i res_at (Term.int_eval (1)) rfl), trivial⟩ ⟨hq.1, hq.2.1, (hq.2.2.sift fun y hy => Or.inr (N y hy)).mono (by decide) (by decide)⟩⟩
theorem main_1_1 : Claimed_1_1 := comes_1 fun _ _ _ _ _ _ h hF => ⟨h.1, hF⟩
theorem main_1_2 : Claimed_1_2 := comes_1 fun _ _ _ _ _ _ h hF => ⟨h.2.1, hF⟩
end Jvm.Pilot.@@N@@
namespace Jvm.Pilot.@@N@@
open Jvm Jvm.ClassFile Sem Op Lib Jvm.Free Jvm.Stand Jvm.Pilot.@@N@@.Jvm.D
/-! MADE BY PROGRAM (witnessworld.py) out of the Statement's table words and the real class files: 10 classes; the members and pool entries that the words name. The judged class is class 1, her method 1. -/
namespace start1
open Jvm.ClassFile
def u (s : String) : CpInfo := .utf8 (stringToUtf16 s)
/-- a pool by its gaps: so many unusable entries, then the entry; so many at the end -/
def gap : Nat → List CpInfo → List CpInfo
  | 0, r => r
  | n + 1, r => .unusable :: gap n r
def poolList (es : List (Nat × CpInfo)) (last : Nat) : List CpInfo := es.foldr (fun e r => gap e.1 (e.2 :: r)) (gap last [])
def pool (es : List (Nat × CpInfo)) (last : Nat) : Array CpInfo := ⟨poolList es last⟩
def fileOf (pool : Array CpInfo) (this : Nat) (attrs : Array Attribute := #[]) (ms : Array MethodInfo := #[]) (fl : Nat := 33) (sup : Nat := 0) (ifs : Array Nat := #[]) (fds : Array FieldInfo := #[]) : ClassFile where
  minorVersion := 0
  majorVersion := 65
  constantPool := pool
  accessFlags := fl
  thisClass := this
  superClass := sup
  interfaces := ifs
  fields := fds
  methods := ms
  attributes := attrs
def plain (name : String) (sup : Option ClassId) : Class where
  name := name
  kind := .ordinary
  loader := none
  accessFlags := 33
  super := sup
  interfaces := #[]
  cf := none
  fields := #[]
  methods := #[]
  instanceTypes := #[]
  staticTypes := #[]
  resolved := #[]
  callSites := []
  init := .initialized
  statics := none
  mirror := none

def pool0 : Array CpInfo := pool [(5, u "<init>"), (0, u "()V"), (1, .class_ 10), (1, u "java/lang/Object")] 113

def k0c0 : Code := { maxStack := 0, maxLocals := 1, code := object_method_1_code, exceptionTable := #[], attributes := #[] }
def k0m0 : Method := { name := "<init>", desc := "()V", sig := { parameters := [], returnType := none }, accessFlags := 1, code := some k0c0 }
/-- java/lang/Object -/
def k0 : Class := { plain "java/lang/Object" none with
  accessFlags := 33
  interfaces := #[]
  cf := some (fileOf pool0 8 #[] #[{ accessFlags := 1, nameIndex := 5, descriptorIndex := 6, attributes := #[] }] 33 0 #[] #[])
  fields := #[]
  methods := #[k0m0]
  instanceTypes := #[]
  staticTypes := #[]
  resolved := Array.replicate 124 none
  statics := none }

def pool1 : Array CpInfo := pool [(2, .class_ 4), (1, u "java/lang/Object"), (0, u "<init>"), (0, u "()V"), (0, .class_ 8), (0, u "ratify/Options$IdRange"), (0, .methodref 7 10), (0, .nameAndType 5 11), (0, u "(II)V"), (0, .methodref 7 13), (0, .nameAndType 14 15), (0, u "contains"), (0, u "(I)Z"), (0, .class_ 17), (0, u "ratify/IdRangeContainsPinLaw"), (2, u "law"), (0, u "(IIII)Z")] 7

def k1m0 : Method := { name := "<init>", desc := "()V", sig := { parameters := [], returnType := none }, accessFlags := 2, code := none }
def k1c1 : Code := { maxStack := 4, maxLocals := 14, code := code, exceptionTable := #[], attributes := #[] }
def k1m1 : Method := { name := "law", desc := "(IIII)Z", sig := { parameters := [.int, .int, .int, .int], returnType := some .boolean }, accessFlags := 9, code := some k1c1 }
/-- ratify/IdRangeContainsPinLaw -/
def k1 : Class := { plain "ratify/IdRangeContainsPinLaw" (some 0) with
  accessFlags := 49
  interfaces := #[]
  cf := some (fileOf pool1 16 #[] #[{ accessFlags := 2, nameIndex := 5, descriptorIndex := 6, attributes := #[] }, { accessFlags := 9, nameIndex := 20, descriptorIndex := 21, attributes := #[] }] 49 2 #[] #[])
  fields := #[]
  methods := #[k1m0, k1m1]
  instanceTypes := #[]
  staticTypes := #[]
  resolved := Array.replicate 29 none
  statics := none }

def pool2 : Array CpInfo := pool [(1, .methodref 2 3), (0, .class_ 4), (0, .nameAndType 5 6), (0, u "java/lang/Object"), (0, u "<init>"), (0, u "()V"), (0, .class_ 8), (0, u "java/lang/Record")] 13

def k2c0 : Code := { maxStack := 1, maxLocals := 1, code := jdk_30_method_1_code, exceptionTable := #[], attributes := #[] }
def k2m0 : Method := { name := "<init>", desc := "()V", sig := { parameters := [], returnType := none }, accessFlags := 4, code := some k2c0 }
/-- java/lang/Record -/
def k2 : Class := { plain "java/lang/Record" (some 0) with
  accessFlags := 1057
  interfaces := #[]
  cf := some (fileOf pool2 7 #[] #[{ accessFlags := 4, nameIndex := 5, descriptorIndex := 6, attributes := #[] }] 1057 2 #[] #[])
  fields := #[]
  methods := #[k2m0]
  instanceTypes := #[]
  staticTypes := #[]
  resolved := Array.replicate 22 none
  statics := none }

def pool3 : Array CpInfo := pool [(1, .methodref 2 3), (0, .class_ 4), (0, .nameAndType 5 6), (0, u "java/lang/Record"), (0, u "<init>"), (0, u "()V"), (0, .fieldref 8 9), (0, .class_ 10), (0, .nameAndType 11 12), (0, u "ratify/Options$IdRange"), (0, u "first"), (0, u "I"), (0, .fieldref 8 14), (0, .nameAndType 15 12), (0, u "last"), (12, u "(II)V"), (3, u "contains"), (0, u "(I)Z"), (7, .class_ 42), (0, u "ratify/Options")] 20

def k3c0 : Code := { maxStack := 2, maxLocals := 3, code := prog_95_method_1_code, exceptionTable := #[], attributes := #[] }
def k3m0 : Method := { name := "<init>", desc := "(II)V", sig := { parameters := [.int, .int], returnType := none }, accessFlags := 0, code := some k3c0 }
def k3c1 : Code := { maxStack := 2, maxLocals := 2, code := prog_95_method_2_code, exceptionTable := #[], attributes := #[] }
def k3m1 : Method := { name := "contains", desc := "(I)Z", sig := { parameters := [.int], returnType := some .boolean }, accessFlags := 0, code := some k3c1 }
/-- ratify/Options$IdRange -/
def k3 : Class := { plain "ratify/Options$IdRange" (some 2) with
  accessFlags := 48
  interfaces := #[]
  cf := some (fileOf pool3 8 #[.nestHost 41] #[{ accessFlags := 0, nameIndex := 5, descriptorIndex := 28, attributes := #[] }, { accessFlags := 0, nameIndex := 32, descriptorIndex := 33, attributes := #[] }] 48 2 #[] #[{ accessFlags := 18, nameIndex := 11, descriptorIndex := 12, attributes := #[] }, { accessFlags := 18, nameIndex := 15, descriptorIndex := 12, attributes := #[] }])
  fields := #[{ name := "first", type := .int, accessFlags := 18, slot := 0, constantValue := 0 }, { name := "last", type := .int, accessFlags := 18, slot := 1, constantValue := 0 }]
  methods := #[k3m0, k3m1]
  instanceTypes := #[.int, .int]
  staticTypes := #[]
  resolved := Array.replicate 63 none
  statics := none }

def pool4 : Array CpInfo := pool [(1, u "java/lang/Cloneable"), (0, .class_ 1), (0, u "java/lang/Object"), (0, .class_ 3)] 3

/-- java/lang/Cloneable -/
def k4 : Class := { plain "java/lang/Cloneable" (some 0) with
  accessFlags := 1537
  interfaces := #[]
  cf := some (fileOf pool4 2 #[] #[] 1537 4 #[] #[])
  fields := #[]
  methods := #[]
  instanceTypes := #[]
  staticTypes := #[]
  resolved := Array.replicate 8 none
  statics := none }

def pool5 : Array CpInfo := pool [(1, u "java/io/Serializable"), (0, .class_ 1), (0, u "java/lang/Object"), (0, .class_ 3)] 3

/-- java/io/Serializable -/
def k5 : Class := { plain "java/io/Serializable" (some 0) with
  accessFlags := 1537
  interfaces := #[]
  cf := some (fileOf pool5 2 #[] #[] 1537 4 #[] #[])
  fields := #[]
  methods := #[]
  instanceTypes := #[]
  staticTypes := #[]
  resolved := Array.replicate 8 none
  statics := none }

/-- the primitive byte -/
def k6 : Class := { plain "byte" none with kind := .primitive 'B', accessFlags := 0x411 }
/-- [B -/
def k7 : Class := { plain "[B" (some 0) with kind := .array 6 .byte, interfaces := #[4, 5], accessFlags := 1041 }

/-- the primitive int -/
def k8 : Class := { plain "int" none with kind := .primitive 'I', accessFlags := 0x411 }
/-- [I -/
def k9 : Class := { plain "[I" (some 0) with kind := .array 8 .int, interfaces := #[4, 5], accessFlags := 1041 }

def heap : Heap := #[]
def classes : Array Class := #[k0, k1, k2, k3, k4, k5, k6, k7, k8, k9]
def interned : List (Array UInt16 × Addr) := []
def slotsUsed : Nat := 0
def theMethod : MethodId := ⟨1, 1⟩
def args0 : Array Value := #[.int 0, .int 1, .int 2, .int 3]
def aboutOver (below : List Frame) : State where
  vm := { classes := classes, interned := interned.toArray }
  heap := heap
  slotsUsed := slotsUsed
  threads := #[{ frames := .invoking theMethod args0 :: below }]
def below0 : List Frame := [.native { method := ⟨0, 0⟩, args := #[] }]
def about1 : State := aboutOver below0
def p0 : Program := .bare "" "" ""
def e0 : Env := launch0.env 0 0 0
theorem w_frames : about1.frames = Frame.invoking theMethod args0 :: below0 := rfl
set_option maxRecDepth 65536 in
theorem w_args : argsFit about1.vm theMethod args0 = true := by decide +kernel
set_option maxRecDepth 65536 in
theorem w_heap : heapFits about1 = true := by decide +kernel
set_option maxRecDepth 65536 in
theorem w_runnable : about1.curStatus? = some .runnable := by decide +kernel
set_option maxRecDepth 65536 in
theorem w_alone : about1.alone = true := by decide +kernel
set_option maxRecDepth 65536 in
theorem w_named : about1.methodNamed? x = some theMethod := by decide +kernel
set_option maxRecDepth 65536 in
theorem w_hears : about1.hears theMethod below0 = true := by decide +kernel
set_option maxRecDepth 65536 in
theorem w_ripe : about1.ripe theMethod args0 below0 = true := by decide +kernel
theorem w_running : about1.status = .running := rfl
set_option maxRecDepth 65536 in
theorem w_room : about1.hasRoom e0.platform room_1 = true :=
  launch0.hasRoom_least _ room_1 (by decide +kernel) (by decide +kernel) (by decide +kernel) (by decide +kernel) (by decide +kernel) (by decide +kernel)
theorem allAtoms_all (ts : List Jvm.Cond) (a : Array Jvm.Value) (st : Jvm.State) : (allAtoms ts).before a st = ts.all (fun c => c.before a st) := by
  induction ts with
  | nil => rfl
  | cons c t ih =>
    show (Jvm.Cond.and c (allAtoms t)).before a st = _
    rw [Jvm.Cond.before_and, ih, List.all_cons]
def words1 : List Jvm.Cond := Jvm.Cond.code x code maxLocals ret :: tables_1
/-- a 'code' word, met by the world's own term for the bytes: nothing is compared byte by byte -/
theorem code_word {y : MethodName} {bytes : ByteArray} {mx : Nat} {rt : Option FieldType} {a : Array Value} {s : State} {m : MethodId} {meth : Method} {c : Code} (h1 : s.methodNamed? y = some m) (h2 : s.vm.method? m = some meth) (h3 : meth.code = some c) (h4 : c.code = bytes)
    (h5 : (c.maxLocals == mx && c.exceptionTable.isEmpty && decide (c.maxStack ≤ mostOperands) && decide (meth.sig.returnType = rt) && !meth.locks && decide (parseMethodDescriptor y.desc = some meth.sig)) = true) : (Jvm.Cond.code y bytes mx rt).before a s = true := by
  simp only [Bool.and_eq_true, beq_iff_eq, Bool.not_eq_true', decide_eq_true_eq] at h5
  obtain ⟨⟨⟨⟨⟨g1, g2⟩, g3⟩, g4⟩, g5⟩, g6⟩ := h5
  simp [Cond.before, Cond.holds, Cond.value, h1, h2, h3, h4, g1, g2, g3, g4, g5, g6]
def isCode : Jvm.Cond → Bool
  | .code _ _ _ _ => true
  | _ => false
theorem all_split {L : List Jvm.Cond} {P : Jvm.Cond → Bool} (h1 : L.all (fun c => isCode c || P c) = true) (h2 : ∀ c ∈ L.filter isCode, P c = true) : L.all P = true := by
  refine List.all_eq_true.mpr fun c hc => ?_
  have h := List.all_eq_true.mp h1 c hc
  rcases Bool.eq_false_or_eq_true (isCode c) with hi | hi
  · exact h2 c (List.mem_filter.mpr ⟨hc, hi⟩)
  · simpa [hi] using h
set_option maxRecDepth 65536 in
theorem w_c0 : (Jvm.Cond.code x code maxLocals ret).before args0 about1 = true := code_word (m := ⟨1, 1⟩) (meth := k1m1) (c := k1c1) (by decide +kernel) rfl rfl rfl (by decide +kernel)
set_option maxRecDepth 65536 in
theorem w_c1 : (Jvm.Cond.code ({ cls := "ratify/Options$IdRange", name := "<init>", desc := "(II)V" } : Jvm.MethodName) prog_95_method_1_code (3 : Nat) (Option.none : Option Jvm.ClassFile.FieldType)).before args0 about1 = true := code_word (m := ⟨3, 0⟩) (meth := k3m0) (c := k3c0) (by decide +kernel) rfl rfl rfl (by decide +kernel)
set_option maxRecDepth 65536 in
theorem w_c2 : (Jvm.Cond.code ({ cls := "java/lang/Record", name := "<init>", desc := "()V" } : Jvm.MethodName) jdk_30_method_1_code (1 : Nat) (Option.none : Option Jvm.ClassFile.FieldType)).before args0 about1 = true := code_word (m := ⟨2, 0⟩) (meth := k2m0) (c := k2c0) (by decide +kernel) rfl rfl rfl (by decide +kernel)
set_option maxRecDepth 65536 in
theorem w_c3 : (Jvm.Cond.code ({ cls := "java/lang/Object", name := "<init>", desc := "()V" } : Jvm.MethodName) object_method_1_code (1 : Nat) (Option.none : Option Jvm.ClassFile.FieldType)).before args0 about1 = true := code_word (m := ⟨0, 0⟩) (meth := k0m0) (c := k0c0) (by decide +kernel) rfl rfl rfl (by decide +kernel)
set_option maxRecDepth 65536 in
theorem w_c4 : (Jvm.Cond.code ({ cls := "ratify/Options$IdRange", name := "contains", desc := "(I)Z" } : Jvm.MethodName) prog_95_method_2_code (2 : Nat) (Option.some Jvm.ClassFile.FieldType.boolean)).before args0 about1 = true := code_word (m := ⟨3, 1⟩) (meth := k3m1) (c := k3c1) (by decide +kernel) rfl rfl rfl (by decide +kernel)
def codes1 : List Jvm.Cond := [Jvm.Cond.code x code maxLocals ret, Jvm.Cond.code ({ cls := "ratify/Options$IdRange", name := "<init>", desc := "(II)V" } : Jvm.MethodName) prog_95_method_1_code (3 : Nat) (Option.none : Option Jvm.ClassFile.FieldType), Jvm.Cond.code ({ cls := "java/lang/Record", name := "<init>", desc := "()V" } : Jvm.MethodName) jdk_30_method_1_code (1 : Nat) (Option.none : Option Jvm.ClassFile.FieldType), Jvm.Cond.code ({ cls := "java/lang/Object", name := "<init>", desc := "()V" } : Jvm.MethodName) object_method_1_code (1 : Nat) (Option.none : Option Jvm.ClassFile.FieldType), Jvm.Cond.code ({ cls := "ratify/Options$IdRange", name := "contains", desc := "(I)Z" } : Jvm.MethodName) prog_95_method_2_code (2 : Nat) (Option.some Jvm.ClassFile.FieldType.boolean)]
set_option maxRecDepth 65536 in
theorem codes_eq : words1.filter isCode = codes1 := rfl
theorem w_codes : ∀ c ∈ words1.filter isCode, c.before args0 about1 = true := by
  rw [codes_eq]
  intro c hc
  simp only [codes1, List.mem_cons, List.not_mem_nil, or_false] at hc
  rcases hc with rfl | rfl | rfl | rfl | rfl
  · exact w_c0
  · exact w_c1
  · exact w_c2
  · exact w_c3
  · exact w_c4
set_option maxRecDepth 65536 in
theorem w_t1 : words1.all (fun c => isCode c || c.before args0 about1) = true := by decide +kernel
theorem w_tables : (allAtoms (Jvm.Cond.code x code maxLocals ret :: tables_1)).before args0 about1 = true := by
  rw [allAtoms_all]
  show words1.all (fun c => c.before args0 about1) = true
  refine all_split ?_ w_codes
  rw [w_t1]
set_option maxRecDepth 65536 in
theorem w_case : (Jvm.Cond.and given_1 narrow_1).before args0 about1 = true := by decide +kernel
theorem w_applies : (headSpec (Jvm.Cond.code x code maxLocals ret :: tables_1) room_1).applies x e0.platform about1 = true :=
  (Spec.applies_iff w_frames).mpr ⟨w_running, w_runnable, w_alone, w_named, w_hears, w_ripe, w_room, w_tables⟩
theorem atStart : AtStart classFile x code maxLocals ret World_1 tables_1 room_1 Calls_1 rest_1 Pre_1 launch0 p0 e0 about1 theMethod args0 below0 :=
  ⟨lists_1, trivial, launch0.admits_env _ _ _, launch0.least_env, fairChoices_fair.cas, fairChoices_fair.clock, w_frames, w_args, w_heap, w_applies, trivial, trivial, w_case⟩
end start1
theorem witness_1 : WitnessClaimed_1 := ⟨start1.p0, start1.e0, start1.about1, start1.theMethod, start1.args0, start1.below0, start1.atStart⟩
end Jvm.Pilot.@@N@@
