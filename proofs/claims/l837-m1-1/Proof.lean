import JvmDerived
import JvmDerived.Pilot.@@N@@Statement
import JvmDerived.Pilot.@@N@@Code
set_option linter.unusedVariables false
set_option linter.unusedSimpArgs false
namespace Jvm.RoadKit
open Sem ClassFile Op Lib Jvm.Stand Jvm.Free Jvm.LawKit
section New
variable {p : Program} {l : Launch} {e : Env} {R : Room} {s : State} {m : MethodId} {args : Array Value} {below : List Frame} {meth : Method} {c : Code} {T : State} {locs : List Loc} {cells slots : Nat}
theorem retI (X : Stand p l e R s m args below meth c T locs cells slots) (hx : p.tables.exec = Jvm.exec) {pc : Nat} {Ls : Array Slot} {z : Int32} {rest : List Value} (hret : meth.sig.returnType = some .int) (hd : decode c.code pc = .ok (.ireturn, 1)) {fs : List Frame}
    (hl : ∀ (f : JFrame) (acts : List Action), f.method = m → f.locked = none → f.entered = [] → (doReturn e (T.setTop f) acts (some (.int z))).1 = T.setFrames fs) : Steps p.tables e below (T.setTop (mkF m pc Ls (.int z :: rest))) (T.setFrames fs) := by
  have hm' : T.vm.method? m = some meth := X.method'
  have hn : narrow .int (.int z) = .int z := rfl
  show Steps p.tables e below (T.setTop { method := m, pc := pc, locals := Ls, stack := _ :: rest, locked := none }) _
  jvm_step X.here [X.here.top, hx, hd, hm', hret, hn]
  first | (intro acts; rw [hl _ acts rfl rfl rfl]) | rw [hl _ _ rfl rfl rfl]
  exact Steps.refl _
end New
end Jvm.RoadKit
namespace Jvm.Pilot.@@N@@
open Jvm Jvm.ClassFile Sem Op Lib Jvm.Free Jvm.Stand Jvm.LawKit Jvm.RoadKit Bundle Jvm.Pilot.@@N@@.Jvm.D
theorem own_ord {s : State} {args : Array Value} {t : Term} {x : Addr} {C n d : String} {k : Int32} (ht : t.eval args s none [] s = some (.ref x)) (h : (Jvm.Cond.eq (Jvm.Term.field t C n d) (Jvm.Term.int k)).value args s none s [] = some true) : s.fieldOf? x C n d = some (.int k) := by
  obtain ⟨a, b, ha, hb, -, hk⟩ := cmp_v (Or.inl h)
  have eb : b = .int k := (Option.some.inj ((Term.int_eval k).symm.trans hb)).symm
  subst eb
  obtain ⟨z, rfl⟩ := hk
  simp only [Cond.value, ha, hb] at h
  have e : z = k := by simpa using h
  rw [← e, ← ha, fld_at ht]
theorem own_pd0 : parseMethodDescriptor "()Z" = some ⟨[], some .boolean⟩ := by decide +kernel
theorem own_n1 (qx : Int32) : (((qx &&& (2147483647 : Int32)) % (6 : Int32)) = (0 : Int32) ∨ ((qx &&& (2147483647 : Int32)) % (6 : Int32)) = (1 : Int32) ∨ ((qx &&& (2147483647 : Int32)) % (6 : Int32)) = (2 : Int32) ∨ ((qx &&& (2147483647 : Int32)) % (6 : Int32)) = (3 : Int32) ∨ ((qx &&& (2147483647 : Int32)) % (6 : Int32)) = (4 : Int32) ∨ ((qx &&& (2147483647 : Int32)) % (6 : Int32)) = (5 : Int32)) := by
  have nf1 := rng32 qx
  have nf2 : (2147483647 : Int32).toInt = 2147483647 := by decide
  have nf3 := c_mask qx (2147483647 : Int32) 31 (by decide) (by decide)
  have nf4 : (6 : Int32).toInt = 6 := by decide
  have nf5 := c_irem (qx &&& (2147483647 : Int32)) (6 : Int32) (6) (by decide)
  have nf6 : (0 : Int32).toInt = 0 := by decide
  have nf7 : (1 : Int32).toInt = 1 := by decide
  have nf8 : (2 : Int32).toInt = 2 := by decide
  have nf9 : (3 : Int32).toInt = 3 := by decide
  have nf10 : (4 : Int32).toInt = 4 := by decide
  have nf11 : (5 : Int32).toInt = 5 := by decide
  simp only [← Int32.toInt_inj]; omega
theorem own_d1_0 : decode prog_136_method_6_code 0 = .ok (.aload_n 0, 1) := by decide +kernel
theorem own_d1_1 : decode prog_136_method_6_code 1 = .ok (.getstatic 10, 3) := by decide +kernel
theorem own_d1_4 : decode prog_136_method_6_code 4 = .ok (.if_acmp .eq 17, 3) := by decide +kernel
theorem own_d1_7 : decode prog_136_method_6_code 7 = .ok (.aload_n 0, 1) := by decide +kernel
theorem own_d1_8 : decode prog_136_method_6_code 8 = .ok (.getstatic 13, 3) := by decide +kernel
theorem own_d1_11 : decode prog_136_method_6_code 11 = .ok (.if_acmp .eq 10, 3) := by decide +kernel
theorem own_d1_14 : decode prog_136_method_6_code 14 = .ok (.aload_n 0, 1) := by decide +kernel
theorem own_d1_15 : decode prog_136_method_6_code 15 = .ok (.getstatic 19, 3) := by decide +kernel
theorem own_d1_18 : decode prog_136_method_6_code 18 = .ok (.if_acmp .ne 7, 3) := by decide +kernel
theorem own_d1_21 : decode prog_136_method_6_code 21 = .ok (.iconst 1, 1) := by decide +kernel
theorem own_d1_22 : decode prog_136_method_6_code 22 = .ok (.goto 4, 3) := by decide +kernel
theorem own_d1_25 : decode prog_136_method_6_code 25 = .ok (.iconst 0, 1) := by decide +kernel
theorem own_d1_26 : decode prog_136_method_6_code 26 = .ok (.ireturn, 1) := by decide +kernel
theorem own_pn_own_rm1 : plainName "ratify/TransactionState" = true := by first | (simp [plainName, overriddenIn]; done) | decide +kernel
theorem own_ef_own_rm1 (m : MethodId) (x0 : Addr) : entryFrame m #[(.ref x0)] 1 = mkF m 0 #[.val (.ref x0)] [] := by first | (simp [entryFrame, mkF, argsToLocals, Value.category]; done) | rfl
def Q_own_rm1 (Z : State) (a1 : Addr) (aCOMMITTED : Addr) (aABORTED : Addr) (aDECIDED : Addr) (r : Int32) (h0 : Heap) (n0 : Nat) (v : Option Value) (h : Heap) (L : List Loc) : Prop := v = some (.int r) ∧ Fr n0 L ∧ h = h0
set_option maxRecDepth 65536 in
set_option maxHeartbeats 40000000 in
theorem own_rm1 (l : Launch) (Z : State) (a0 : Array Value) (hw : ∀ d ∈ tables_1, d.before a0 Z = true) (ws : List Jvm.Cond) (a1 : Addr) (aCOMMITTED : Addr) (aABORTED : Addr) (aDECIDED : Addr) (r : Int32) (h0 : Heap) (n0 : Nat) (Z0 : n0 ≤ h0.size) (S_COMMITTED : Sta Z h0 "ratify/TransactionState" "COMMITTED" "Lratify/TransactionState;" (.ref aCOMMITTED)) (S_ABORTED : Sta Z h0 "ratify/TransactionState" "ABORTED" "Lratify/TransactionState;" (.ref aABORTED)) (S_DECIDED : Sta Z h0 "ratify/TransactionState" "DECIDED" "Lratify/TransactionState;" (.ref aDECIDED)) (hrr : r = if (a1 = aCOMMITTED ∨ a1 = aABORTED ∨ a1 = aDECIDED) then 1 else 0) :
    MetFree l (⟨"ratify/TransactionState", "isFinal", "()Z"⟩ : MethodName) (head1 (Jvm.Cond.code (⟨"ratify/TransactionState", "isFinal", "()Z"⟩ : MethodName) prog_136_method_6_code 1 (some .boolean) :: ws) ({ frames := 0, cells := 0, slots := 0, locals := 0 } : Room)) (fun a U => a = #[(.ref a1)] ∧ Z.Warmed39 U.vm ∧ U.heap = h0) (fun _ _ _ _ _ => True) (fun _ U o U' => ∃ v L, o = .returned v ∧ Q_own_rm1 Z a1 aCOMMITTED aABORTED aDECIDED r h0 n0 v U'.heap L ∧ FrameEnd U o U' L ({ frames := 0, cells := 0, slots := 0, locals := 0 } : Room).cells ({ frames := 0, cells := 0, slots := 0, locals := 0 } : Room).slots) := by
  refine MetFree.of_bodySF (plainFor_of_name own_pn_own_rm1) hisR ?_
  intro p e s m args below meth c s₁ Bd hml0 hP hK
  obtain ⟨rfl, hZ, hh⟩ := hP
  have hx := Bd.exec
  have hby := Bd.bytes
  have hml : c.maxLocals = 1 := hml0
  have hown : s.vm.findClass "ratify/TransactionState" = some m.cls := findClass_of_methodNamed Bd.named
  have hnm := (name_of_methodNamed Bd.named Bd.method).1
  have X0 : Stand p l e ({ frames := 0, cells := 0, slots := 0, locals := 0 } : Room) s m #[(.ref a1)] below meth c s₁ [] 0 0 := Stand.of_body Bd
  have e0 : s₁.heap = h0 := by rw [← hh, Bd.state]; rfl
  have N0 := Fr.nil n0
  have pre0 : Goes p e below s₁ (entryFrame m #[(.ref a1)] 1) s₁ (mkF m 0 #[.val (.ref a1)] []) := fun t k => castTop (own_ef_own_rm1 m a1) k
  have pre1 : Goes p e below s₁ (entryFrame m #[(.ref a1)] 1) s₁ (mkF m 1 #[.val (.ref a1)] [(.ref a1)]) := fun t kt => pre0 t (by
      show Steps p.tables e below (s₁.setTop (mkF m 0 #[.val (.ref a1)] [])) _
      refine XS.aloadN X0.here hx rfl (hb hby own_d1_0) rfl rfl ?_
      exact kt)
  obtain ⟨T2, X2, e2, st2⟩ := getS2 X0 hx hZ hown (host := "") (Or.inl (hw _ (List.mem_of_getElem? (i := 22) rfl))) Via.refl e0 S_COMMITTED (g := (mkF m 1 #[.val (.ref a1)] [(.ref a1)])) rfl (hb hby own_d1_1)
  have pre3 : Goes p e below s₁ (entryFrame m #[(.ref a1)] 1) T2 (mkF m 4 #[.val (.ref a1)] [(.ref aCOMMITTED), (.ref a1)]) := fun t kt => pre1 t (st2 t kt)
  by_cases ha4_4 : a1 = aCOMMITTED
  · -- acmp
    have pre5 : Goes p e below s₁ (entryFrame m #[(.ref a1)] 1) T2 (mkF m 26 #[.val (.ref a1)] [(.int (1 : Int32))]) := fun t kt => pre3 t (by
        show Steps p.tables e below (T2.setTop (mkF m 4 #[.val (.ref a1)] [(.ref aCOMMITTED), (.ref a1)])) _
        refine Jvm.RoadKit.acmp (g := (mkF m 4 #[.val (.ref a1)] [(.ref aCOMMITTED), (.ref a1)])) X2 hx rfl rfl rfl (pc0 := 4) (pc' := 21) (same := true) rfl (hb hby own_d1_4) rfl (decide_eq_true (congrArg Value.ref ha4_4)) (by decide) (by decide) ?_
        show Steps p.tables e below (T2.setTop (mkF m 21 #[.val (.ref a1)] [])) _
        refine XS.iconst X2.here hx rfl (hb hby own_d1_21) ?_
        show Steps p.tables e below (T2.setTop (mkF m 22 #[.val (.ref a1)] [(.int (1 : Int32))])) _
        refine XS.goto X2.here hx rfl (pc0 := 22) (pc' := 26) rfl (hb hby own_d1_22) (by decide) (by decide) ?_
        exact kt)
    obtain ⟨fs, hr, hrun, hended, hW, hsame⟩ := X2.leave (v := some (.int (1 : Int32))) (fun h => by rw [Bd.returns] at h; cases h)
    refine ⟨_, _, pre5 _ ?_, hrun, hended, _, _, rfl, ?_, ⟨_, rfl⟩, hW, hsame.mono (by decide) (by decide)⟩
    · show Steps p.tables e below (T2.setTop (mkF m 26 #[.val (.ref a1)] [(.int (1 : Int32))])) _
      exact retN X2 hx (t := .boolean) Bd.returns (by simp) (hb hby own_d1_26) hr
    · show Q_own_rm1 Z a1 aCOMMITTED aABORTED aDECIDED r h0 n0 _ T2.heap _
      rw [e2]
      exact ⟨by rw [hrr]; simp [ha4_4], N0, rfl⟩
  · -- acmp
    have pre6 : Goes p e below s₁ (entryFrame m #[(.ref a1)] 1) T2 (mkF m 8 #[.val (.ref a1)] [(.ref a1)]) := fun t kt => pre3 t (by
        show Steps p.tables e below (T2.setTop (mkF m 4 #[.val (.ref a1)] [(.ref aCOMMITTED), (.ref a1)])) _
        refine Jvm.RoadKit.acmp (g := (mkF m 4 #[.val (.ref a1)] [(.ref aCOMMITTED), (.ref a1)])) X2 hx rfl rfl rfl (pc0 := 4) (pc' := 7) (same := false) rfl (hb hby own_d1_4) rfl (decide_eq_false fun q => ha4_4 (Value.ref.inj q)) (by decide) (by decide) ?_
        show Steps p.tables e below (T2.setTop (mkF m 7 #[.val (.ref a1)] [])) _
        refine XS.aloadN X2.here hx rfl (hb hby own_d1_7) rfl rfl ?_
        exact kt)
    obtain ⟨T7, X7, e7, st7⟩ := getS2 X2 hx hZ hown (host := "") (Or.inl (hw _ (List.mem_of_getElem? (i := 23) rfl))) Via.refl e2 S_ABORTED (g := (mkF m 8 #[.val (.ref a1)] [(.ref a1)])) rfl (hb hby own_d1_8)
    have pre8 : Goes p e below s₁ (entryFrame m #[(.ref a1)] 1) T7 (mkF m 11 #[.val (.ref a1)] [(.ref aABORTED), (.ref a1)]) := fun t kt => pre6 t (st7 t kt)
    by_cases ha11_9 : a1 = aABORTED
    · -- acmp
      have pre10 : Goes p e below s₁ (entryFrame m #[(.ref a1)] 1) T7 (mkF m 26 #[.val (.ref a1)] [(.int (1 : Int32))]) := fun t kt => pre8 t (by
          show Steps p.tables e below (T7.setTop (mkF m 11 #[.val (.ref a1)] [(.ref aABORTED), (.ref a1)])) _
          refine Jvm.RoadKit.acmp (g := (mkF m 11 #[.val (.ref a1)] [(.ref aABORTED), (.ref a1)])) X7 hx rfl rfl rfl (pc0 := 11) (pc' := 21) (same := true) rfl (hb hby own_d1_11) rfl (decide_eq_true (congrArg Value.ref ha11_9)) (by decide) (by decide) ?_
          show Steps p.tables e below (T7.setTop (mkF m 21 #[.val (.ref a1)] [])) _
          refine XS.iconst X7.here hx rfl (hb hby own_d1_21) ?_
          show Steps p.tables e below (T7.setTop (mkF m 22 #[.val (.ref a1)] [(.int (1 : Int32))])) _
          refine XS.goto X7.here hx rfl (pc0 := 22) (pc' := 26) rfl (hb hby own_d1_22) (by decide) (by decide) ?_
          exact kt)
      obtain ⟨fs, hr, hrun, hended, hW, hsame⟩ := X7.leave (v := some (.int (1 : Int32))) (fun h => by rw [Bd.returns] at h; cases h)
      refine ⟨_, _, pre10 _ ?_, hrun, hended, _, _, rfl, ?_, ⟨_, rfl⟩, hW, hsame.mono (by decide) (by decide)⟩
      · show Steps p.tables e below (T7.setTop (mkF m 26 #[.val (.ref a1)] [(.int (1 : Int32))])) _
        exact retN X7 hx (t := .boolean) Bd.returns (by simp) (hb hby own_d1_26) hr
      · show Q_own_rm1 Z a1 aCOMMITTED aABORTED aDECIDED r h0 n0 _ T7.heap _
        rw [e7]
        exact ⟨by rw [hrr]; simp [ha4_4, ha11_9], N0, rfl⟩
    · -- acmp
      have pre11 : Goes p e below s₁ (entryFrame m #[(.ref a1)] 1) T7 (mkF m 15 #[.val (.ref a1)] [(.ref a1)]) := fun t kt => pre8 t (by
          show Steps p.tables e below (T7.setTop (mkF m 11 #[.val (.ref a1)] [(.ref aABORTED), (.ref a1)])) _
          refine Jvm.RoadKit.acmp (g := (mkF m 11 #[.val (.ref a1)] [(.ref aABORTED), (.ref a1)])) X7 hx rfl rfl rfl (pc0 := 11) (pc' := 14) (same := false) rfl (hb hby own_d1_11) rfl (decide_eq_false fun q => ha11_9 (Value.ref.inj q)) (by decide) (by decide) ?_
          show Steps p.tables e below (T7.setTop (mkF m 14 #[.val (.ref a1)] [])) _
          refine XS.aloadN X7.here hx rfl (hb hby own_d1_14) rfl rfl ?_
          exact kt)
      obtain ⟨T12, X12, e12, st12⟩ := getS2 X7 hx hZ hown (host := "") (Or.inl (hw _ (List.mem_of_getElem? (i := 24) rfl))) Via.refl e7 S_DECIDED (g := (mkF m 15 #[.val (.ref a1)] [(.ref a1)])) rfl (hb hby own_d1_15)
      have pre13 : Goes p e below s₁ (entryFrame m #[(.ref a1)] 1) T12 (mkF m 18 #[.val (.ref a1)] [(.ref aDECIDED), (.ref a1)]) := fun t kt => pre11 t (st12 t kt)
      by_cases ha18_14 : a1 = aDECIDED
      · -- acmp
        have pre15 : Goes p e below s₁ (entryFrame m #[(.ref a1)] 1) T12 (mkF m 26 #[.val (.ref a1)] [(.int (1 : Int32))]) := fun t kt => pre13 t (by
            show Steps p.tables e below (T12.setTop (mkF m 18 #[.val (.ref a1)] [(.ref aDECIDED), (.ref a1)])) _
            refine Jvm.RoadKit.acmp (g := (mkF m 18 #[.val (.ref a1)] [(.ref aDECIDED), (.ref a1)])) X12 hx rfl rfl rfl (pc0 := 18) (pc' := 21) (same := true) rfl (hb hby own_d1_18) rfl (decide_eq_true (congrArg Value.ref ha18_14)) (by decide) (by decide) ?_
            show Steps p.tables e below (T12.setTop (mkF m 21 #[.val (.ref a1)] [])) _
            refine XS.iconst X12.here hx rfl (hb hby own_d1_21) ?_
            show Steps p.tables e below (T12.setTop (mkF m 22 #[.val (.ref a1)] [(.int (1 : Int32))])) _
            refine XS.goto X12.here hx rfl (pc0 := 22) (pc' := 26) rfl (hb hby own_d1_22) (by decide) (by decide) ?_
            exact kt)
        obtain ⟨fs, hr, hrun, hended, hW, hsame⟩ := X12.leave (v := some (.int (1 : Int32))) (fun h => by rw [Bd.returns] at h; cases h)
        refine ⟨_, _, pre15 _ ?_, hrun, hended, _, _, rfl, ?_, ⟨_, rfl⟩, hW, hsame.mono (by decide) (by decide)⟩
        · show Steps p.tables e below (T12.setTop (mkF m 26 #[.val (.ref a1)] [(.int (1 : Int32))])) _
          exact retN X12 hx (t := .boolean) Bd.returns (by simp) (hb hby own_d1_26) hr
        · show Q_own_rm1 Z a1 aCOMMITTED aABORTED aDECIDED r h0 n0 _ T12.heap _
          rw [e12]
          exact ⟨by rw [hrr]; simp [ha4_4, ha11_9, ha18_14], N0, rfl⟩
      · -- acmp
        have pre16 : Goes p e below s₁ (entryFrame m #[(.ref a1)] 1) T12 (mkF m 26 #[.val (.ref a1)] [(.int (0 : Int32))]) := fun t kt => pre13 t (by
            show Steps p.tables e below (T12.setTop (mkF m 18 #[.val (.ref a1)] [(.ref aDECIDED), (.ref a1)])) _
            refine Jvm.RoadKit.acmp (g := (mkF m 18 #[.val (.ref a1)] [(.ref aDECIDED), (.ref a1)])) X12 hx rfl rfl rfl (pc0 := 18) (pc' := 25) (same := false) rfl (hb hby own_d1_18) rfl (decide_eq_false fun q => ha18_14 (Value.ref.inj q)) (by decide) (by decide) ?_
            show Steps p.tables e below (T12.setTop (mkF m 25 #[.val (.ref a1)] [])) _
            refine XS.iconst X12.here hx rfl (hb hby own_d1_25) ?_
            exact kt)
        obtain ⟨fs, hr, hrun, hended, hW, hsame⟩ := X12.leave (v := some (.int (0 : Int32))) (fun h => by rw [Bd.returns] at h; cases h)
        refine ⟨_, _, pre16 _ ?_, hrun, hended, _, _, rfl, ?_, ⟨_, rfl⟩, hW, hsame.mono (by decide) (by decide)⟩
        · show Steps p.tables e below (T12.setTop (mkF m 26 #[.val (.ref a1)] [(.int (0 : Int32))])) _
          exact retN X12 hx (t := .boolean) Bd.returns (by simp) (hb hby own_d1_26) hr
        · show Q_own_rm1 Z a1 aCOMMITTED aABORTED aDECIDED r h0 n0 _ T12.heap _
          rw [e12]
          exact ⟨by rw [hrr]; simp [ha4_4, ha11_9, ha18_14], N0, rfl⟩
theorem own_pn_own_rm0 : plainName "ratify/TransactionStateIsFinalPinLaw" = true := by first | (simp [plainName, overriddenIn]; done) | decide +kernel
theorem own_ef_own_rm0 (m : MethodId) (x0 : Int32) : entryFrame m #[(.int x0)] maxLocals = mkF m 0 #[.val (.int x0), .unset, .unset, .unset] [] := by first | (simp [entryFrame, mkF, argsToLocals, Value.category, maxLocals]; done) | rfl
def Q_own_rm0 (Z : State) (qx : Int32) (aUNKNOWN : Addr) (aPREPARED : Addr) (aCOMMITTED : Addr) (aABORTED : Addr) (aPENDING : Addr) (aDECIDED : Addr) (h0 : Heap) (n0 : Nat) (v : Option Value) (h : Heap) (L : List Loc) : Prop := v = some (.int (1 : Int32)) ∧ Fr n0 L
set_option maxRecDepth 65536 in
set_option maxHeartbeats 40000000 in
theorem own_rm0 (l : Launch) (Z : State) (a0 : Array Value) (hw : ∀ d ∈ tables_1, d.before a0 Z = true) (ws : List Jvm.Cond) (qx : Int32) (aUNKNOWN : Addr) (aPREPARED : Addr) (aCOMMITTED : Addr) (aABORTED : Addr) (aPENDING : Addr) (aDECIDED : Addr) (h0 : Heap) (n0 : Nat) (Z0 : n0 ≤ h0.size) (S_UNKNOWN : Sta Z h0 "ratify/TransactionState" "UNKNOWN" "Lratify/TransactionState;" (.ref aUNKNOWN)) (S_PREPARED : Sta Z h0 "ratify/TransactionState" "PREPARED" "Lratify/TransactionState;" (.ref aPREPARED)) (S_COMMITTED : Sta Z h0 "ratify/TransactionState" "COMMITTED" "Lratify/TransactionState;" (.ref aCOMMITTED)) (S_ABORTED : Sta Z h0 "ratify/TransactionState" "ABORTED" "Lratify/TransactionState;" (.ref aABORTED)) (S_PENDING : Sta Z h0 "ratify/TransactionState" "PENDING" "Lratify/TransactionState;" (.ref aPENDING)) (S_DECIDED : Sta Z h0 "ratify/TransactionState" "DECIDED" "Lratify/TransactionState;" (.ref aDECIDED)) (E_UNKNOWN : Exa Z h0 aUNKNOWN "ratify/TransactionState") (E_PREPARED : Exa Z h0 aPREPARED "ratify/TransactionState") (E_COMMITTED : Exa Z h0 aCOMMITTED "ratify/TransactionState") (E_ABORTED : Exa Z h0 aABORTED "ratify/TransactionState") (E_PENDING : Exa Z h0 aPENDING "ratify/TransactionState") (E_DECIDED : Exa Z h0 aDECIDED "ratify/TransactionState") (ne_UNKNOWN_COMMITTED : aUNKNOWN ≠ aCOMMITTED) (ne_UNKNOWN_ABORTED : aUNKNOWN ≠ aABORTED) (ne_UNKNOWN_DECIDED : aUNKNOWN ≠ aDECIDED) (ne_PREPARED_COMMITTED : aPREPARED ≠ aCOMMITTED) (ne_PREPARED_ABORTED : aPREPARED ≠ aABORTED) (ne_PREPARED_DECIDED : aPREPARED ≠ aDECIDED) (ne_COMMITTED_ABORTED : aCOMMITTED ≠ aABORTED) (ne_COMMITTED_DECIDED : aCOMMITTED ≠ aDECIDED) (ne_ABORTED_COMMITTED : aABORTED ≠ aCOMMITTED) (ne_ABORTED_DECIDED : aABORTED ≠ aDECIDED) (ne_PENDING_COMMITTED : aPENDING ≠ aCOMMITTED) (ne_PENDING_ABORTED : aPENDING ≠ aABORTED) (ne_PENDING_DECIDED : aPENDING ≠ aDECIDED) (ne_DECIDED_COMMITTED : aDECIDED ≠ aCOMMITTED) (ne_DECIDED_ABORTED : aDECIDED ≠ aABORTED) :
    MetFree l x (head1 (Jvm.Cond.code x code maxLocals ret :: ws) room_1) (fun a U => a = #[(.int qx)] ∧ Z.Warmed39 U.vm ∧ U.heap = h0) (fun _ _ _ _ _ => True) (fun _ U o U' => ∃ v L, o = .returned v ∧ Q_own_rm0 Z qx aUNKNOWN aPREPARED aCOMMITTED aABORTED aPENDING aDECIDED h0 n0 v U'.heap L ∧ FrameEnd U o U' L room_1.cells room_1.slots) := by
  refine MetFree.of_bodySF (plainFor_of_name own_pn_own_rm0) hisR ?_
  intro p e s m args below meth c s₁ Bd hml0 hP hK
  obtain ⟨rfl, hZ, hh⟩ := hP
  have hx := Bd.exec
  have hby := Bd.bytes
  have hml : c.maxLocals = 4 := hml0
  have hown : s.vm.findClass "ratify/TransactionStateIsFinalPinLaw" = some m.cls := findClass_of_methodNamed Bd.named
  have hnm := (name_of_methodNamed Bd.named Bd.method).1
  have X0 : Stand p l e room_1 s m #[(.int qx)] below meth c s₁ [] 0 0 := Stand.of_body Bd
  have e0 : s₁.heap = h0 := by rw [← hh, Bd.state]; rfl
  have N0 := Fr.nil n0
  have pre0 : Goes p e below s₁ (entryFrame m #[(.int qx)] maxLocals) s₁ (mkF m 0 #[.val (.int qx), .unset, .unset, .unset] []) := fun t k => castTop (own_ef_own_rm0 m qx) k
  have pre1 : Goes p e below s₁ (entryFrame m #[(.int qx)] maxLocals) s₁ (mkF m 2 #[.val (.int qx), .unset, .unset, .unset] [(.int (6 : Int32))]) := fun t kt => pre0 t (by
      show Steps p.tables e below (s₁.setTop (mkF m 0 #[.val (.int qx), .unset, .unset, .unset] [])) _
      refine XS.bipush X0.here hx rfl (hb hby at_0) ?_
      exact kt)
  obtain ⟨T2, h2, k2, X2, e2, E2, A2, O2, st2⟩ := newR X0 hx hZ hown (hw _ (List.mem_of_getElem? (i := 0) rfl)) (hw _ (List.mem_of_getElem? (i := 1) rfl)) e0 (g := (mkF m 2 #[.val (.int qx), .unset, .unset, .unset] [(.int (6 : Int32))])) rfl (hb hby at_2) rfl (by decide) (cap := 6) (by decide) (by decide) (by decide) (by decide)
  obtain ⟨b2, g2⟩ : ∃ z, z = h0.size := ⟨_, rfl⟩
  rw [← g2] at A2 st2
  have V_b2 : Arv Z h2 b2 k2 (.object "ratify/TransactionState") (6 : Int32) [.null, .null, .null, .null, .null, .null] .null := (Arv.new A2 (by decide)).pad (pad_rep [] .null 6)
  have g_b2 : n0 ≤ b2 := Nat.le_trans Z0 (Nat.le_of_eq g2.symm)
  have sz_b2 : h0.size ≤ b2 := (Nat.le_trans (Keep.refl h0 []).1 (Nat.le_of_eq g2.symm))
  have K2 : Keep h0 h2 [] := (Keep.refl h0 []).ext E2
  have pre3 : Goes p e below s₁ (entryFrame m #[(.int qx)] maxLocals) T2 (mkF m 5 #[.val (.int qx), .unset, .unset, .unset] [(.ref b2)]) := fun t kt => pre1 t (st2 t kt)
  have pre4 : Goes p e below s₁ (entryFrame m #[(.int qx)] maxLocals) T2 (mkF m 7 #[.val (.int qx), .unset, .unset, .unset] [(.int (0 : Int32)), (.ref b2), (.ref b2)]) := fun t kt => pre3 t (by
      show Steps p.tables e below (T2.setTop (mkF m 5 #[.val (.int qx), .unset, .unset, .unset] [(.ref b2)])) _
      refine XS.dup X2.here hx rfl (hb hby at_5) rfl rfl ?_
      show Steps p.tables e below (T2.setTop (mkF m 6 #[.val (.int qx), .unset, .unset, .unset] [(.ref b2), (.ref b2)])) _
      refine XS.iconst X2.here hx rfl (hb hby at_6) ?_
      exact kt)
  obtain ⟨T5, X5, e5, st5⟩ := getS2 X2 hx hZ hown (host := "") (Or.inl (hw _ (List.mem_of_getElem? (i := 2) rfl))) Via.refl e2 (S_UNKNOWN.ext E2) (g := (mkF m 7 #[.val (.int qx), .unset, .unset, .unset] [(.int (0 : Int32)), (.ref b2), (.ref b2)])) rfl (hb hby at_7)
  have pre6 : Goes p e below s₁ (entryFrame m #[(.int qx)] maxLocals) T5 (mkF m 10 #[.val (.int qx), .unset, .unset, .unset] [(.ref aUNKNOWN), (.int (0 : Int32)), (.ref b2), (.ref b2)]) := fun t kt => pre4 t (st5 t kt)
  obtain ⟨cl7, Ar7, q7, S7, N_7, H7, G7⟩ := V_b2
  have hin7 : ¬ ((0 : Int32) < 0 ∨ cl7.slots.size ≤ ((0 : Int32)).toNatClampNeg) := inb_of S7 ⟨by decide, by decide⟩
  obtain ⟨T8, h8, X8, e8, W8, st8⟩ := stR X5 hx hZ e5 Ar7 (j := (0 : Int32)) hin7 rfl (Sto.ofV Ar7 q7 O2 (Ins.self (E_UNKNOWN.ext E2))) (g := (mkF m 10 #[.val (.int qx), .unset, .unset, .unset] [(.ref aUNKNOWN), (.int (0 : Int32)), (.ref b2), (.ref b2)])) rfl rfl (hb hby at_10)
  have V8 : Arv Z h8 b2 k2 (.object "ratify/TransactionState") (6 : Int32) [(.ref aUNKNOWN), .null, .null, .null, .null, .null] .null := Arv.set Ar7 q7 S7 N_7 H7 G7 rfl W8 0 rfl (Nat.le_of_ble_eq_true rfl)
  have K8 : Keep h0 h8 [] := K2.wr W8 (Or.inr sz_b2)
  have N8 := Fr.snoc X8 N0 g_b2
  have pre9 : Goes p e below s₁ (entryFrame m #[(.int qx)] maxLocals) T8 (mkF m 11 #[.val (.int qx), .unset, .unset, .unset] [(.ref b2)]) := fun t kt => pre6 t (st8 t kt)
  have pre10 : Goes p e below s₁ (entryFrame m #[(.int qx)] maxLocals) T8 (mkF m 13 #[.val (.int qx), .unset, .unset, .unset] [(.int (1 : Int32)), (.ref b2), (.ref b2)]) := fun t kt => pre9 t (by
      show Steps p.tables e below (T8.setTop (mkF m 11 #[.val (.int qx), .unset, .unset, .unset] [(.ref b2)])) _
      refine XS.dup X8.here hx rfl (hb hby at_11) rfl rfl ?_
      show Steps p.tables e below (T8.setTop (mkF m 12 #[.val (.int qx), .unset, .unset, .unset] [(.ref b2), (.ref b2)])) _
      refine XS.iconst X8.here hx rfl (hb hby at_12) ?_
      exact kt)
  obtain ⟨T11, X11, e11, st11⟩ := getS2 X8 hx hZ hown (host := "") (Or.inl (hw _ (List.mem_of_getElem? (i := 6) rfl))) Via.refl e8 ((S_PREPARED.ext E2).wr W8) (g := (mkF m 13 #[.val (.int qx), .unset, .unset, .unset] [(.int (1 : Int32)), (.ref b2), (.ref b2)])) rfl (hb hby at_13)
  have pre12 : Goes p e below s₁ (entryFrame m #[(.int qx)] maxLocals) T11 (mkF m 16 #[.val (.int qx), .unset, .unset, .unset] [(.ref aPREPARED), (.int (1 : Int32)), (.ref b2), (.ref b2)]) := fun t kt => pre10 t (st11 t kt)
  obtain ⟨cl13, Ar13, q13, S13, N_13, H13, G13⟩ := V8
  have hin13 : ¬ ((1 : Int32) < 0 ∨ cl13.slots.size ≤ ((1 : Int32)).toNatClampNeg) := inb_of S13 ⟨by decide, by decide⟩
  obtain ⟨T14, h14, X14, e14, W14, st14⟩ := stR X11 hx hZ e11 Ar13 (j := (1 : Int32)) hin13 rfl (Sto.ofV Ar13 q13 O2 (Ins.self ((E_PREPARED.ext E2).wr W8))) (g := (mkF m 16 #[.val (.int qx), .unset, .unset, .unset] [(.ref aPREPARED), (.int (1 : Int32)), (.ref b2), (.ref b2)])) rfl rfl (hb hby at_16)
  have V14 : Arv Z h14 b2 k2 (.object "ratify/TransactionState") (6 : Int32) [(.ref aUNKNOWN), (.ref aPREPARED), .null, .null, .null, .null] .null := Arv.set Ar13 q13 S13 N_13 H13 G13 rfl W14 1 rfl (Nat.le_of_ble_eq_true rfl)
  have K14 : Keep h0 h14 [] := K8.wr W14 (Or.inr sz_b2)
  have N14 := Fr.snoc X14 N8 g_b2
  have pre15 : Goes p e below s₁ (entryFrame m #[(.int qx)] maxLocals) T14 (mkF m 17 #[.val (.int qx), .unset, .unset, .unset] [(.ref b2)]) := fun t kt => pre12 t (st14 t kt)
  have pre16 : Goes p e below s₁ (entryFrame m #[(.int qx)] maxLocals) T14 (mkF m 19 #[.val (.int qx), .unset, .unset, .unset] [(.int (2 : Int32)), (.ref b2), (.ref b2)]) := fun t kt => pre15 t (by
      show Steps p.tables e below (T14.setTop (mkF m 17 #[.val (.int qx), .unset, .unset, .unset] [(.ref b2)])) _
      refine XS.dup X14.here hx rfl (hb hby at_17) rfl rfl ?_
      show Steps p.tables e below (T14.setTop (mkF m 18 #[.val (.int qx), .unset, .unset, .unset] [(.ref b2), (.ref b2)])) _
      refine XS.iconst X14.here hx rfl (hb hby at_18) ?_
      exact kt)
  obtain ⟨T17, X17, e17, st17⟩ := getS2 X14 hx hZ hown (host := "") (Or.inl (hw _ (List.mem_of_getElem? (i := 8) rfl))) Via.refl e14 (((S_COMMITTED.ext E2).wr W8).wr W14) (g := (mkF m 19 #[.val (.int qx), .unset, .unset, .unset] [(.int (2 : Int32)), (.ref b2), (.ref b2)])) rfl (hb hby at_19)
  have pre18 : Goes p e below s₁ (entryFrame m #[(.int qx)] maxLocals) T17 (mkF m 22 #[.val (.int qx), .unset, .unset, .unset] [(.ref aCOMMITTED), (.int (2 : Int32)), (.ref b2), (.ref b2)]) := fun t kt => pre16 t (st17 t kt)
  obtain ⟨cl19, Ar19, q19, S19, N_19, H19, G19⟩ := V14
  have hin19 : ¬ ((2 : Int32) < 0 ∨ cl19.slots.size ≤ ((2 : Int32)).toNatClampNeg) := inb_of S19 ⟨by decide, by decide⟩
  obtain ⟨T20, h20, X20, e20, W20, st20⟩ := stR X17 hx hZ e17 Ar19 (j := (2 : Int32)) hin19 rfl (Sto.ofV Ar19 q19 O2 (Ins.self (((E_COMMITTED.ext E2).wr W8).wr W14))) (g := (mkF m 22 #[.val (.int qx), .unset, .unset, .unset] [(.ref aCOMMITTED), (.int (2 : Int32)), (.ref b2), (.ref b2)])) rfl rfl (hb hby at_22)
  have V20 : Arv Z h20 b2 k2 (.object "ratify/TransactionState") (6 : Int32) [(.ref aUNKNOWN), (.ref aPREPARED), (.ref aCOMMITTED), .null, .null, .null] .null := Arv.set Ar19 q19 S19 N_19 H19 G19 rfl W20 2 rfl (Nat.le_of_ble_eq_true rfl)
  have K20 : Keep h0 h20 [] := K14.wr W20 (Or.inr sz_b2)
  have N20 := Fr.snoc X20 N14 g_b2
  have pre21 : Goes p e below s₁ (entryFrame m #[(.int qx)] maxLocals) T20 (mkF m 23 #[.val (.int qx), .unset, .unset, .unset] [(.ref b2)]) := fun t kt => pre18 t (st20 t kt)
  have pre22 : Goes p e below s₁ (entryFrame m #[(.int qx)] maxLocals) T20 (mkF m 25 #[.val (.int qx), .unset, .unset, .unset] [(.int (3 : Int32)), (.ref b2), (.ref b2)]) := fun t kt => pre21 t (by
      show Steps p.tables e below (T20.setTop (mkF m 23 #[.val (.int qx), .unset, .unset, .unset] [(.ref b2)])) _
      refine XS.dup X20.here hx rfl (hb hby at_23) rfl rfl ?_
      show Steps p.tables e below (T20.setTop (mkF m 24 #[.val (.int qx), .unset, .unset, .unset] [(.ref b2), (.ref b2)])) _
      refine XS.iconst X20.here hx rfl (hb hby at_24) ?_
      exact kt)
  obtain ⟨T23, X23, e23, st23⟩ := getS2 X20 hx hZ hown (host := "") (Or.inl (hw _ (List.mem_of_getElem? (i := 10) rfl))) Via.refl e20 ((((S_ABORTED.ext E2).wr W8).wr W14).wr W20) (g := (mkF m 25 #[.val (.int qx), .unset, .unset, .unset] [(.int (3 : Int32)), (.ref b2), (.ref b2)])) rfl (hb hby at_25)
  have pre24 : Goes p e below s₁ (entryFrame m #[(.int qx)] maxLocals) T23 (mkF m 28 #[.val (.int qx), .unset, .unset, .unset] [(.ref aABORTED), (.int (3 : Int32)), (.ref b2), (.ref b2)]) := fun t kt => pre22 t (st23 t kt)
  obtain ⟨cl25, Ar25, q25, S25, N_25, H25, G25⟩ := V20
  have hin25 : ¬ ((3 : Int32) < 0 ∨ cl25.slots.size ≤ ((3 : Int32)).toNatClampNeg) := inb_of S25 ⟨by decide, by decide⟩
  obtain ⟨T26, h26, X26, e26, W26, st26⟩ := stR X23 hx hZ e23 Ar25 (j := (3 : Int32)) hin25 rfl (Sto.ofV Ar25 q25 O2 (Ins.self ((((E_ABORTED.ext E2).wr W8).wr W14).wr W20))) (g := (mkF m 28 #[.val (.int qx), .unset, .unset, .unset] [(.ref aABORTED), (.int (3 : Int32)), (.ref b2), (.ref b2)])) rfl rfl (hb hby at_28)
  have V26 : Arv Z h26 b2 k2 (.object "ratify/TransactionState") (6 : Int32) [(.ref aUNKNOWN), (.ref aPREPARED), (.ref aCOMMITTED), (.ref aABORTED), .null, .null] .null := Arv.set Ar25 q25 S25 N_25 H25 G25 rfl W26 3 rfl (Nat.le_of_ble_eq_true rfl)
  have K26 : Keep h0 h26 [] := K20.wr W26 (Or.inr sz_b2)
  have N26 := Fr.snoc X26 N20 g_b2
  have pre27 : Goes p e below s₁ (entryFrame m #[(.int qx)] maxLocals) T26 (mkF m 29 #[.val (.int qx), .unset, .unset, .unset] [(.ref b2)]) := fun t kt => pre24 t (st26 t kt)
  have pre28 : Goes p e below s₁ (entryFrame m #[(.int qx)] maxLocals) T26 (mkF m 31 #[.val (.int qx), .unset, .unset, .unset] [(.int (4 : Int32)), (.ref b2), (.ref b2)]) := fun t kt => pre27 t (by
      show Steps p.tables e below (T26.setTop (mkF m 29 #[.val (.int qx), .unset, .unset, .unset] [(.ref b2)])) _
      refine XS.dup X26.here hx rfl (hb hby at_29) rfl rfl ?_
      show Steps p.tables e below (T26.setTop (mkF m 30 #[.val (.int qx), .unset, .unset, .unset] [(.ref b2), (.ref b2)])) _
      refine XS.iconst X26.here hx rfl (hb hby at_30) ?_
      exact kt)
  obtain ⟨T29, X29, e29, st29⟩ := getS2 X26 hx hZ hown (host := "") (Or.inl (hw _ (List.mem_of_getElem? (i := 12) rfl))) Via.refl e26 (((((S_PENDING.ext E2).wr W8).wr W14).wr W20).wr W26) (g := (mkF m 31 #[.val (.int qx), .unset, .unset, .unset] [(.int (4 : Int32)), (.ref b2), (.ref b2)])) rfl (hb hby at_31)
  have pre30 : Goes p e below s₁ (entryFrame m #[(.int qx)] maxLocals) T29 (mkF m 34 #[.val (.int qx), .unset, .unset, .unset] [(.ref aPENDING), (.int (4 : Int32)), (.ref b2), (.ref b2)]) := fun t kt => pre28 t (st29 t kt)
  obtain ⟨cl31, Ar31, q31, S31, N_31, H31, G31⟩ := V26
  have hin31 : ¬ ((4 : Int32) < 0 ∨ cl31.slots.size ≤ ((4 : Int32)).toNatClampNeg) := inb_of S31 ⟨by decide, by decide⟩
  obtain ⟨T32, h32, X32, e32, W32, st32⟩ := stR X29 hx hZ e29 Ar31 (j := (4 : Int32)) hin31 rfl (Sto.ofV Ar31 q31 O2 (Ins.self (((((E_PENDING.ext E2).wr W8).wr W14).wr W20).wr W26))) (g := (mkF m 34 #[.val (.int qx), .unset, .unset, .unset] [(.ref aPENDING), (.int (4 : Int32)), (.ref b2), (.ref b2)])) rfl rfl (hb hby at_34)
  have V32 : Arv Z h32 b2 k2 (.object "ratify/TransactionState") (6 : Int32) [(.ref aUNKNOWN), (.ref aPREPARED), (.ref aCOMMITTED), (.ref aABORTED), (.ref aPENDING), .null] .null := Arv.set Ar31 q31 S31 N_31 H31 G31 rfl W32 4 rfl (Nat.le_of_ble_eq_true rfl)
  have K32 : Keep h0 h32 [] := K26.wr W32 (Or.inr sz_b2)
  have N32 := Fr.snoc X32 N26 g_b2
  have pre33 : Goes p e below s₁ (entryFrame m #[(.int qx)] maxLocals) T32 (mkF m 35 #[.val (.int qx), .unset, .unset, .unset] [(.ref b2)]) := fun t kt => pre30 t (st32 t kt)
  have pre34 : Goes p e below s₁ (entryFrame m #[(.int qx)] maxLocals) T32 (mkF m 37 #[.val (.int qx), .unset, .unset, .unset] [(.int (5 : Int32)), (.ref b2), (.ref b2)]) := fun t kt => pre33 t (by
      show Steps p.tables e below (T32.setTop (mkF m 35 #[.val (.int qx), .unset, .unset, .unset] [(.ref b2)])) _
      refine XS.dup X32.here hx rfl (hb hby at_35) rfl rfl ?_
      show Steps p.tables e below (T32.setTop (mkF m 36 #[.val (.int qx), .unset, .unset, .unset] [(.ref b2), (.ref b2)])) _
      refine XS.iconst X32.here hx rfl (hb hby at_36) ?_
      exact kt)
  obtain ⟨T35, X35, e35, st35⟩ := getS2 X32 hx hZ hown (host := "") (Or.inl (hw _ (List.mem_of_getElem? (i := 14) rfl))) Via.refl e32 ((((((S_DECIDED.ext E2).wr W8).wr W14).wr W20).wr W26).wr W32) (g := (mkF m 37 #[.val (.int qx), .unset, .unset, .unset] [(.int (5 : Int32)), (.ref b2), (.ref b2)])) rfl (hb hby at_37)
  have pre36 : Goes p e below s₁ (entryFrame m #[(.int qx)] maxLocals) T35 (mkF m 40 #[.val (.int qx), .unset, .unset, .unset] [(.ref aDECIDED), (.int (5 : Int32)), (.ref b2), (.ref b2)]) := fun t kt => pre34 t (st35 t kt)
  obtain ⟨cl37, Ar37, q37, S37, N_37, H37, G37⟩ := V32
  have hin37 : ¬ ((5 : Int32) < 0 ∨ cl37.slots.size ≤ ((5 : Int32)).toNatClampNeg) := inb_of S37 ⟨by decide, by decide⟩
  obtain ⟨T38, h38, X38, e38, W38, st38⟩ := stR X35 hx hZ e35 Ar37 (j := (5 : Int32)) hin37 rfl (Sto.ofV Ar37 q37 O2 (Ins.self ((((((E_DECIDED.ext E2).wr W8).wr W14).wr W20).wr W26).wr W32))) (g := (mkF m 40 #[.val (.int qx), .unset, .unset, .unset] [(.ref aDECIDED), (.int (5 : Int32)), (.ref b2), (.ref b2)])) rfl rfl (hb hby at_40)
  have V38 : Arv Z h38 b2 k2 (.object "ratify/TransactionState") (6 : Int32) [(.ref aUNKNOWN), (.ref aPREPARED), (.ref aCOMMITTED), (.ref aABORTED), (.ref aPENDING), (.ref aDECIDED)] .null := Arv.set Ar37 q37 S37 N_37 H37 G37 rfl W38 5 rfl (Nat.le_of_ble_eq_true rfl)
  have K38 : Keep h0 h38 [] := K32.wr W38 (Or.inr sz_b2)
  have N38 := Fr.snoc X38 N32 g_b2
  have pre39 : Goes p e below s₁ (entryFrame m #[(.int qx)] maxLocals) T38 (mkF m 41 #[.val (.int qx), .unset, .unset, .unset] [(.ref b2)]) := fun t kt => pre36 t (st38 t kt)
  have pre40 : Goes p e below s₁ (entryFrame m #[(.int qx)] maxLocals) T38 (mkF m 50 #[.val (.int qx), .val (.ref b2), .val (.int ((qx &&& (2147483647 : Int32)) % (6 : Int32))), .unset] []) := fun t kt => pre39 t (by
      show Steps p.tables e below (T38.setTop (mkF m 41 #[.val (.int qx), .unset, .unset, .unset] [(.ref b2)])) _
      refine XS.astoreN X38.here hx rfl (hb hby at_41) rfl rfl (l' := #[.val (.int qx), .val (.ref b2), .unset, .unset]) rfl ?_
      show Steps p.tables e below (T38.setTop (mkF m 42 #[.val (.int qx), .val (.ref b2), .unset, .unset] [])) _
      refine XS.iloadN X38.here hx rfl (hb hby at_42) rfl ?_
      show Steps p.tables e below (T38.setTop (mkF m 43 #[.val (.int qx), .val (.ref b2), .unset, .unset] [(.int qx)])) _
      refine X38.ldcInt hx hown (mvT hZ (hw _ (List.mem_of_getElem? (i := 16) rfl))) (g := (mkF m 43 #[.val (.int qx), .val (.ref b2), .unset, .unset] [(.int qx)])) rfl (hb hby at_43) _ ?_
      show Steps p.tables e below (T38.setTop (mkF m 45 #[.val (.int qx), .val (.ref b2), .unset, .unset] [(.int (2147483647 : Int32)), (.int qx)])) _
      refine XS.iand X38.here hx rfl (hb hby at_45) rfl ?_
      show Steps p.tables e below (T38.setTop (mkF m 46 #[.val (.int qx), .val (.ref b2), .unset, .unset] [(.int (qx &&& (2147483647 : Int32)))])) _
      refine XS.bipush X38.here hx rfl (hb hby at_46) ?_
      show Steps p.tables e below (T38.setTop (mkF m 48 #[.val (.int qx), .val (.ref b2), .unset, .unset] [(.int (6 : Int32)), (.int (qx &&& (2147483647 : Int32)))])) _
      refine iremM X38 hx rfl (hb hby at_48) rfl (by decide) ?_
      show Steps p.tables e below (T38.setTop (mkF m 49 #[.val (.int qx), .val (.ref b2), .unset, .unset] [(.int ((qx &&& (2147483647 : Int32)) % (6 : Int32)))])) _
      refine XS.istoreN X38.here hx rfl (hb hby at_49) rfl (l' := #[.val (.int qx), .val (.ref b2), .val (.int ((qx &&& (2147483647 : Int32)) % (6 : Int32))), .unset]) rfl ?_
      exact kt)
  rcases (own_n1 qx) with hk | hk | hk | hk | hk | hk
  · rw [hk] at pre40
    have pre41 : Goes p e below s₁ (entryFrame m #[(.int qx)] maxLocals) T38 (mkF m 72 #[.val (.int qx), .val (.ref b2), .val (.int (0 : Int32)), .val (.int (0 : Int32))] [(.int (0 : Int32)), (.ref b2)]) := fun t kt => pre40 t (by
        show Steps p.tables e below (T38.setTop (mkF m 50 #[.val (.int qx), .val (.ref b2), .val (.int (0 : Int32)), .unset] [])) _
        refine XS.iloadN X38.here hx rfl (hb hby at_50) rfl ?_
        show Steps p.tables e below (T38.setTop (mkF m 51 #[.val (.int qx), .val (.ref b2), .val (.int (0 : Int32)), .unset] [(.int (0 : Int32))])) _
        refine XS.ifYes X38.here hx rfl (pc0 := 51) (pc' := 68) rfl (hb hby at_51) rfl ((if0 _ _).trans (teq (by decide : (0 : Int32) = (0 : Int32))).1) (by decide) (by decide) ?_
        show Steps p.tables e below (T38.setTop (mkF m 68 #[.val (.int qx), .val (.ref b2), .val (.int (0 : Int32)), .unset] [])) _
        refine XS.iconst X38.here hx rfl (hb hby at_68) ?_
        show Steps p.tables e below (T38.setTop (mkF m 69 #[.val (.int qx), .val (.ref b2), .val (.int (0 : Int32)), .unset] [(.int (0 : Int32))])) _
        refine XS.istoreN X38.here hx rfl (hb hby at_69) rfl (l' := #[.val (.int qx), .val (.ref b2), .val (.int (0 : Int32)), .val (.int (0 : Int32))]) rfl ?_
        show Steps p.tables e below (T38.setTop (mkF m 70 #[.val (.int qx), .val (.ref b2), .val (.int (0 : Int32)), .val (.int (0 : Int32))] [])) _
        refine XS.aloadN X38.here hx rfl (hb hby at_70) rfl rfl ?_
        show Steps p.tables e below (T38.setTop (mkF m 71 #[.val (.int qx), .val (.ref b2), .val (.int (0 : Int32)), .val (.int (0 : Int32))] [(.ref b2)])) _
        refine XS.iloadN X38.here hx rfl (hb hby at_71) rfl ?_
        exact kt)
    obtain ⟨cl42, Ar42, q42, S42, N_42, H42, G42⟩ := V38
    have hin42 : ¬ ((0 : Int32) < 0 ∨ cl42.slots.size ≤ ((0 : Int32)).toNatClampNeg) := inb_of S42 ⟨by decide, by decide⟩
    have hat42 : cl42.slots[((0 : Int32)).toNatClampNeg]? = some (.ref aUNKNOWN) := Has.at H42 hin42 rfl
    have pre43 : Goes p e below s₁ (entryFrame m #[(.int qx)] maxLocals) T38 (mkF m 73 #[.val (.int qx), .val (.ref b2), .val (.int (0 : Int32)), .val (.int (0 : Int32))] [(.ref aUNKNOWN)]) := fun t kt => pre41 t (by
        show Steps p.tables e below (T38.setTop (mkF m 72 #[.val (.int qx), .val (.ref b2), .val (.int (0 : Int32)), .val (.int (0 : Int32))] [(.int (0 : Int32)), (.ref b2)])) _
        refine X38.aaload hx (j := (0 : Int32)) (v := (.ref aUNKNOWN)) (by rw [e38]; exact Ar42.1) (State.isArrayOf_alike hZ.alike Ar42.2.1) rfl Ar42.2.2 hin42 hat42 (g := (mkF m 72 #[.val (.int qx), .val (.ref b2), .val (.int (0 : Int32)), .val (.int (0 : Int32))] [(.int (0 : Int32)), (.ref b2)])) rfl rfl (hb hby at_72) _ ?_
        exact kt)
    obtain ⟨cq44, kq44, q44a, q44b, q44c⟩ := isOf hZ e38 (((((((E_UNKNOWN.ext E2).wr W8).wr W14).wr W20).wr W26).wr W32).wr W38)
    obtain ⟨_, _, ⟨T44, L44, k44, n44⟩, -, X44, ⟨Lc44, hQ44, l44, y44, z44⟩, st44⟩ := X38.virtualBack hx (y := (⟨"ratify/TransactionState", "isFinal", "()Z"⟩ : MethodName)) (z := (⟨"ratify/TransactionState", "isFinal", "()Z"⟩ : MethodName)) hown (mvT hZ (hw _ (List.mem_of_getElem? (i := 17) rfl))) (mvT hZ (hw _ (List.mem_of_getElem? (i := 18) rfl))) (notFace_of_selects (args := #[]) (mvT hZ (hw _ (List.mem_of_getElem? (i := 20) rfl)))) (mvT hZ (hw _ (List.mem_of_getElem? (i := 20) rfl))) (mvT hZ (hw _ (List.mem_of_getElem? (i := 19) rfl))) (by decide) (backOf (W := 0) (own_rm1 l Z a0 hw [] aUNKNOWN aCOMMITTED aABORTED aDECIDED (0 : Int32) h38 n0 (Nat.le_trans (Nat.le_trans (Nat.le_trans (Nat.le_trans (Nat.le_trans (Nat.le_trans (Nat.le_trans Z0 E2.1) (Keep.of_wr W8).1) (Keep.of_wr W14).1) (Keep.of_wr W20).1) (Keep.of_wr W26).1) (Keep.of_wr W32).1) (Keep.of_wr W38).1) (((((((S_COMMITTED.ext E2).wr W8).wr W14).wr W20).wr W26).wr W32).wr W38) (((((((S_ABORTED.ext E2).wr W8).wr W14).wr W20).wr W26).wr W32).wr W38) (((((((S_DECIDED.ext E2).wr W8).wr W14).wr W20).wr W26).wr W32).wr W38) ((if_neg (by simp [ne_UNKNOWN_COMMITTED, ne_UNKNOWN_ABORTED, ne_UNKNOWN_DECIDED])).symm)) hZ (hw _ (List.mem_of_getElem? (i := 21) rfl)) (hw _ (List.mem_of_getElem? (i := 3) rfl)) (by decide) (by decide)) q44a q44c (g := (mkF m 73 #[.val (.int qx), .val (.ref b2), .val (.int (0 : Int32)), .val (.int (0 : Int32))] [(.ref aUNKNOWN)])) rfl (by rw [hml]; rfl) (Steps.refl _) (argsL := []) (rest := []) (lenOf own_pd0 rfl) rfl (by show 2 * 0 + _ ≤ _; exact Nat.le_of_eq rfl) (hb hby at_73) (fun _ _ => ⟨rfl, e38, (by decide : 1 + 0 ≤ _), (by decide : 6 + 0 ≤ _)⟩)
    dsimp only [Pt.U, Pt.locs, Pt.cells, Pt.slots] at X44 l44 y44 z44 st44 hQ44
    subst l44 y44 z44
    obtain ⟨rfl, N44q, e44⟩ := hQ44
    have N44 := Fr.app N38 N44q
    have pre45 : Goes p e below s₁ (entryFrame m #[(.int qx)] maxLocals) T44 (mkF m 76 #[.val (.int qx), .val (.ref b2), .val (.int (0 : Int32)), .val (.int (0 : Int32))] [(.int (0 : Int32))]) := fun t kt => pre43 t (st44.trans kt)
    have pre46 : Goes p e below s₁ (entryFrame m #[(.int qx)] maxLocals) T44 (mkF m 85 #[.val (.int qx), .val (.ref b2), .val (.int (0 : Int32)), .val (.int (0 : Int32))] [(.int (1 : Int32))]) := fun t kt => pre45 t (by
        show Steps p.tables e below (T44.setTop (mkF m 76 #[.val (.int qx), .val (.ref b2), .val (.int (0 : Int32)), .val (.int (0 : Int32))] [(.int (0 : Int32))])) _
        refine XS.iloadN X44.here hx rfl (hb hby at_76) rfl ?_
        show Steps p.tables e below (T44.setTop (mkF m 77 #[.val (.int qx), .val (.ref b2), .val (.int (0 : Int32)), .val (.int (0 : Int32))] [(.int (0 : Int32)), (.int (0 : Int32))])) _
        refine XS.icmpNo X44.here hx rfl (hb hby at_77) rfl (teq (by decide : (0 : Int32) = (0 : Int32))).2 ?_
        show Steps p.tables e below (T44.setTop (mkF m 80 #[.val (.int qx), .val (.ref b2), .val (.int (0 : Int32)), .val (.int (0 : Int32))] [])) _
        refine XS.iconst X44.here hx rfl (hb hby at_80) ?_
        show Steps p.tables e below (T44.setTop (mkF m 81 #[.val (.int qx), .val (.ref b2), .val (.int (0 : Int32)), .val (.int (0 : Int32))] [(.int (1 : Int32))])) _
        refine XS.goto X44.here hx rfl (pc0 := 81) (pc' := 85) rfl (hb hby at_81) (by decide) (by decide) ?_
        exact kt)
    obtain ⟨fs, hr, hrun, hended, hW, hsame⟩ := X44.leave (v := some (.int (1 : Int32))) (fun h => by rw [Bd.returns] at h; cases h)
    refine ⟨_, _, pre46 _ ?_, hrun, hended, _, _, rfl, ?_, ⟨_, rfl⟩, hW, hsame.mono (by decide) (by decide)⟩
    · show Steps p.tables e below (T44.setTop (mkF m 85 #[.val (.int qx), .val (.ref b2), .val (.int (0 : Int32)), .val (.int (0 : Int32))] [(.int (1 : Int32))])) _
      exact retN X44 hx (t := .boolean) Bd.returns (by simp) (hb hby at_85) hr
    · show Q_own_rm0 Z qx aUNKNOWN aPREPARED aCOMMITTED aABORTED aPENDING aDECIDED h0 n0 _ T44.heap _
      rw [e44]
      exact ⟨rfl, N44⟩
  · rw [hk] at pre40
    have pre47 : Goes p e below s₁ (entryFrame m #[(.int qx)] maxLocals) T38 (mkF m 72 #[.val (.int qx), .val (.ref b2), .val (.int (1 : Int32)), .val (.int (0 : Int32))] [(.int (1 : Int32)), (.ref b2)]) := fun t kt => pre40 t (by
        show Steps p.tables e below (T38.setTop (mkF m 50 #[.val (.int qx), .val (.ref b2), .val (.int (1 : Int32)), .unset] [])) _
        refine XS.iloadN X38.here hx rfl (hb hby at_50) rfl ?_
        show Steps p.tables e below (T38.setTop (mkF m 51 #[.val (.int qx), .val (.ref b2), .val (.int (1 : Int32)), .unset] [(.int (1 : Int32))])) _
        refine XS.ifNo X38.here hx rfl (hb hby at_51) rfl ((if0 _ _).trans (feq (by decide : ¬ ((1 : Int32) = (0 : Int32)))).1) ?_
        show Steps p.tables e below (T38.setTop (mkF m 54 #[.val (.int qx), .val (.ref b2), .val (.int (1 : Int32)), .unset] [])) _
        refine XS.iloadN X38.here hx rfl (hb hby at_54) rfl ?_
        show Steps p.tables e below (T38.setTop (mkF m 55 #[.val (.int qx), .val (.ref b2), .val (.int (1 : Int32)), .unset] [(.int (1 : Int32))])) _
        refine XS.iconst X38.here hx rfl (hb hby at_55) ?_
        show Steps p.tables e below (T38.setTop (mkF m 56 #[.val (.int qx), .val (.ref b2), .val (.int (1 : Int32)), .unset] [(.int (1 : Int32)), (.int (1 : Int32))])) _
        refine XS.icmpYes X38.here hx rfl (pc0 := 56) (pc' := 68) rfl (hb hby at_56) rfl (teq (by decide : (1 : Int32) = (1 : Int32))).1 (by decide) (by decide) ?_
        show Steps p.tables e below (T38.setTop (mkF m 68 #[.val (.int qx), .val (.ref b2), .val (.int (1 : Int32)), .unset] [])) _
        refine XS.iconst X38.here hx rfl (hb hby at_68) ?_
        show Steps p.tables e below (T38.setTop (mkF m 69 #[.val (.int qx), .val (.ref b2), .val (.int (1 : Int32)), .unset] [(.int (0 : Int32))])) _
        refine XS.istoreN X38.here hx rfl (hb hby at_69) rfl (l' := #[.val (.int qx), .val (.ref b2), .val (.int (1 : Int32)), .val (.int (0 : Int32))]) rfl ?_
        show Steps p.tables e below (T38.setTop (mkF m 70 #[.val (.int qx), .val (.ref b2), .val (.int (1 : Int32)), .val (.int (0 : Int32))] [])) _
        refine XS.aloadN X38.here hx rfl (hb hby at_70) rfl rfl ?_
        show Steps p.tables e below (T38.setTop (mkF m 71 #[.val (.int qx), .val (.ref b2), .val (.int (1 : Int32)), .val (.int (0 : Int32))] [(.ref b2)])) _
        refine XS.iloadN X38.here hx rfl (hb hby at_71) rfl ?_
        exact kt)
    obtain ⟨cl48, Ar48, q48, S48, N_48, H48, G48⟩ := V38
    have hin48 : ¬ ((1 : Int32) < 0 ∨ cl48.slots.size ≤ ((1 : Int32)).toNatClampNeg) := inb_of S48 ⟨by decide, by decide⟩
    have hat48 : cl48.slots[((1 : Int32)).toNatClampNeg]? = some (.ref aPREPARED) := Has.at H48 hin48 rfl
    have pre49 : Goes p e below s₁ (entryFrame m #[(.int qx)] maxLocals) T38 (mkF m 73 #[.val (.int qx), .val (.ref b2), .val (.int (1 : Int32)), .val (.int (0 : Int32))] [(.ref aPREPARED)]) := fun t kt => pre47 t (by
        show Steps p.tables e below (T38.setTop (mkF m 72 #[.val (.int qx), .val (.ref b2), .val (.int (1 : Int32)), .val (.int (0 : Int32))] [(.int (1 : Int32)), (.ref b2)])) _
        refine X38.aaload hx (j := (1 : Int32)) (v := (.ref aPREPARED)) (by rw [e38]; exact Ar48.1) (State.isArrayOf_alike hZ.alike Ar48.2.1) rfl Ar48.2.2 hin48 hat48 (g := (mkF m 72 #[.val (.int qx), .val (.ref b2), .val (.int (1 : Int32)), .val (.int (0 : Int32))] [(.int (1 : Int32)), (.ref b2)])) rfl rfl (hb hby at_72) _ ?_
        exact kt)
    obtain ⟨cq50, kq50, q50a, q50b, q50c⟩ := isOf hZ e38 (((((((E_PREPARED.ext E2).wr W8).wr W14).wr W20).wr W26).wr W32).wr W38)
    obtain ⟨_, _, ⟨T50, L50, k50, n50⟩, -, X50, ⟨Lc50, hQ50, l50, y50, z50⟩, st50⟩ := X38.virtualBack hx (y := (⟨"ratify/TransactionState", "isFinal", "()Z"⟩ : MethodName)) (z := (⟨"ratify/TransactionState", "isFinal", "()Z"⟩ : MethodName)) hown (mvT hZ (hw _ (List.mem_of_getElem? (i := 17) rfl))) (mvT hZ (hw _ (List.mem_of_getElem? (i := 18) rfl))) (notFace_of_selects (args := #[]) (mvT hZ (hw _ (List.mem_of_getElem? (i := 20) rfl)))) (mvT hZ (hw _ (List.mem_of_getElem? (i := 20) rfl))) (mvT hZ (hw _ (List.mem_of_getElem? (i := 19) rfl))) (by decide) (backOf (W := 0) (own_rm1 l Z a0 hw [] aPREPARED aCOMMITTED aABORTED aDECIDED (0 : Int32) h38 n0 (Nat.le_trans (Nat.le_trans (Nat.le_trans (Nat.le_trans (Nat.le_trans (Nat.le_trans (Nat.le_trans Z0 E2.1) (Keep.of_wr W8).1) (Keep.of_wr W14).1) (Keep.of_wr W20).1) (Keep.of_wr W26).1) (Keep.of_wr W32).1) (Keep.of_wr W38).1) (((((((S_COMMITTED.ext E2).wr W8).wr W14).wr W20).wr W26).wr W32).wr W38) (((((((S_ABORTED.ext E2).wr W8).wr W14).wr W20).wr W26).wr W32).wr W38) (((((((S_DECIDED.ext E2).wr W8).wr W14).wr W20).wr W26).wr W32).wr W38) ((if_neg (by simp [ne_PREPARED_COMMITTED, ne_PREPARED_ABORTED, ne_PREPARED_DECIDED])).symm)) hZ (hw _ (List.mem_of_getElem? (i := 21) rfl)) (hw _ (List.mem_of_getElem? (i := 3) rfl)) (by decide) (by decide)) q50a q50c (g := (mkF m 73 #[.val (.int qx), .val (.ref b2), .val (.int (1 : Int32)), .val (.int (0 : Int32))] [(.ref aPREPARED)])) rfl (by rw [hml]; rfl) (Steps.refl _) (argsL := []) (rest := []) (lenOf own_pd0 rfl) rfl (by show 2 * 0 + _ ≤ _; exact Nat.le_of_eq rfl) (hb hby at_73) (fun _ _ => ⟨rfl, e38, (by decide : 1 + 0 ≤ _), (by decide : 6 + 0 ≤ _)⟩)
    dsimp only [Pt.U, Pt.locs, Pt.cells, Pt.slots] at X50 l50 y50 z50 st50 hQ50
    subst l50 y50 z50
    obtain ⟨rfl, N50q, e50⟩ := hQ50
    have N50 := Fr.app N38 N50q
    have pre51 : Goes p e below s₁ (entryFrame m #[(.int qx)] maxLocals) T50 (mkF m 76 #[.val (.int qx), .val (.ref b2), .val (.int (1 : Int32)), .val (.int (0 : Int32))] [(.int (0 : Int32))]) := fun t kt => pre49 t (st50.trans kt)
    have pre52 : Goes p e below s₁ (entryFrame m #[(.int qx)] maxLocals) T50 (mkF m 85 #[.val (.int qx), .val (.ref b2), .val (.int (1 : Int32)), .val (.int (0 : Int32))] [(.int (1 : Int32))]) := fun t kt => pre51 t (by
        show Steps p.tables e below (T50.setTop (mkF m 76 #[.val (.int qx), .val (.ref b2), .val (.int (1 : Int32)), .val (.int (0 : Int32))] [(.int (0 : Int32))])) _
        refine XS.iloadN X50.here hx rfl (hb hby at_76) rfl ?_
        show Steps p.tables e below (T50.setTop (mkF m 77 #[.val (.int qx), .val (.ref b2), .val (.int (1 : Int32)), .val (.int (0 : Int32))] [(.int (0 : Int32)), (.int (0 : Int32))])) _
        refine XS.icmpNo X50.here hx rfl (hb hby at_77) rfl (teq (by decide : (0 : Int32) = (0 : Int32))).2 ?_
        show Steps p.tables e below (T50.setTop (mkF m 80 #[.val (.int qx), .val (.ref b2), .val (.int (1 : Int32)), .val (.int (0 : Int32))] [])) _
        refine XS.iconst X50.here hx rfl (hb hby at_80) ?_
        show Steps p.tables e below (T50.setTop (mkF m 81 #[.val (.int qx), .val (.ref b2), .val (.int (1 : Int32)), .val (.int (0 : Int32))] [(.int (1 : Int32))])) _
        refine XS.goto X50.here hx rfl (pc0 := 81) (pc' := 85) rfl (hb hby at_81) (by decide) (by decide) ?_
        exact kt)
    obtain ⟨fs, hr, hrun, hended, hW, hsame⟩ := X50.leave (v := some (.int (1 : Int32))) (fun h => by rw [Bd.returns] at h; cases h)
    refine ⟨_, _, pre52 _ ?_, hrun, hended, _, _, rfl, ?_, ⟨_, rfl⟩, hW, hsame.mono (by decide) (by decide)⟩
    · show Steps p.tables e below (T50.setTop (mkF m 85 #[.val (.int qx), .val (.ref b2), .val (.int (1 : Int32)), .val (.int (0 : Int32))] [(.int (1 : Int32))])) _
      exact retN X50 hx (t := .boolean) Bd.returns (by simp) (hb hby at_85) hr
    · show Q_own_rm0 Z qx aUNKNOWN aPREPARED aCOMMITTED aABORTED aPENDING aDECIDED h0 n0 _ T50.heap _
      rw [e50]
      exact ⟨rfl, N50⟩
  · rw [hk] at pre40
    have pre53 : Goes p e below s₁ (entryFrame m #[(.int qx)] maxLocals) T38 (mkF m 72 #[.val (.int qx), .val (.ref b2), .val (.int (2 : Int32)), .val (.int (1 : Int32))] [(.int (2 : Int32)), (.ref b2)]) := fun t kt => pre40 t (by
        show Steps p.tables e below (T38.setTop (mkF m 50 #[.val (.int qx), .val (.ref b2), .val (.int (2 : Int32)), .unset] [])) _
        refine XS.iloadN X38.here hx rfl (hb hby at_50) rfl ?_
        show Steps p.tables e below (T38.setTop (mkF m 51 #[.val (.int qx), .val (.ref b2), .val (.int (2 : Int32)), .unset] [(.int (2 : Int32))])) _
        refine XS.ifNo X38.here hx rfl (hb hby at_51) rfl ((if0 _ _).trans (feq (by decide : ¬ ((2 : Int32) = (0 : Int32)))).1) ?_
        show Steps p.tables e below (T38.setTop (mkF m 54 #[.val (.int qx), .val (.ref b2), .val (.int (2 : Int32)), .unset] [])) _
        refine XS.iloadN X38.here hx rfl (hb hby at_54) rfl ?_
        show Steps p.tables e below (T38.setTop (mkF m 55 #[.val (.int qx), .val (.ref b2), .val (.int (2 : Int32)), .unset] [(.int (2 : Int32))])) _
        refine XS.iconst X38.here hx rfl (hb hby at_55) ?_
        show Steps p.tables e below (T38.setTop (mkF m 56 #[.val (.int qx), .val (.ref b2), .val (.int (2 : Int32)), .unset] [(.int (1 : Int32)), (.int (2 : Int32))])) _
        refine XS.icmpNo X38.here hx rfl (hb hby at_56) rfl (feq (by decide : ¬ ((2 : Int32) = (1 : Int32)))).1 ?_
        show Steps p.tables e below (T38.setTop (mkF m 59 #[.val (.int qx), .val (.ref b2), .val (.int (2 : Int32)), .unset] [])) _
        refine XS.iloadN X38.here hx rfl (hb hby at_59) rfl ?_
        show Steps p.tables e below (T38.setTop (mkF m 60 #[.val (.int qx), .val (.ref b2), .val (.int (2 : Int32)), .unset] [(.int (2 : Int32))])) _
        refine XS.iconst X38.here hx rfl (hb hby at_60) ?_
        show Steps p.tables e below (T38.setTop (mkF m 61 #[.val (.int qx), .val (.ref b2), .val (.int (2 : Int32)), .unset] [(.int (4 : Int32)), (.int (2 : Int32))])) _
        refine XS.icmpNo X38.here hx rfl (hb hby at_61) rfl (feq (by decide : ¬ ((2 : Int32) = (4 : Int32)))).1 ?_
        show Steps p.tables e below (T38.setTop (mkF m 64 #[.val (.int qx), .val (.ref b2), .val (.int (2 : Int32)), .unset] [])) _
        refine XS.iconst X38.here hx rfl (hb hby at_64) ?_
        show Steps p.tables e below (T38.setTop (mkF m 65 #[.val (.int qx), .val (.ref b2), .val (.int (2 : Int32)), .unset] [(.int (1 : Int32))])) _
        refine XS.goto X38.here hx rfl (pc0 := 65) (pc' := 69) rfl (hb hby at_65) (by decide) (by decide) ?_
        show Steps p.tables e below (T38.setTop (mkF m 69 #[.val (.int qx), .val (.ref b2), .val (.int (2 : Int32)), .unset] [(.int (1 : Int32))])) _
        refine XS.istoreN X38.here hx rfl (hb hby at_69) rfl (l' := #[.val (.int qx), .val (.ref b2), .val (.int (2 : Int32)), .val (.int (1 : Int32))]) rfl ?_
        show Steps p.tables e below (T38.setTop (mkF m 70 #[.val (.int qx), .val (.ref b2), .val (.int (2 : Int32)), .val (.int (1 : Int32))] [])) _
        refine XS.aloadN X38.here hx rfl (hb hby at_70) rfl rfl ?_
        show Steps p.tables e below (T38.setTop (mkF m 71 #[.val (.int qx), .val (.ref b2), .val (.int (2 : Int32)), .val (.int (1 : Int32))] [(.ref b2)])) _
        refine XS.iloadN X38.here hx rfl (hb hby at_71) rfl ?_
        exact kt)
    obtain ⟨cl54, Ar54, q54, S54, N_54, H54, G54⟩ := V38
    have hin54 : ¬ ((2 : Int32) < 0 ∨ cl54.slots.size ≤ ((2 : Int32)).toNatClampNeg) := inb_of S54 ⟨by decide, by decide⟩
    have hat54 : cl54.slots[((2 : Int32)).toNatClampNeg]? = some (.ref aCOMMITTED) := Has.at H54 hin54 rfl
    have pre55 : Goes p e below s₁ (entryFrame m #[(.int qx)] maxLocals) T38 (mkF m 73 #[.val (.int qx), .val (.ref b2), .val (.int (2 : Int32)), .val (.int (1 : Int32))] [(.ref aCOMMITTED)]) := fun t kt => pre53 t (by
        show Steps p.tables e below (T38.setTop (mkF m 72 #[.val (.int qx), .val (.ref b2), .val (.int (2 : Int32)), .val (.int (1 : Int32))] [(.int (2 : Int32)), (.ref b2)])) _
        refine X38.aaload hx (j := (2 : Int32)) (v := (.ref aCOMMITTED)) (by rw [e38]; exact Ar54.1) (State.isArrayOf_alike hZ.alike Ar54.2.1) rfl Ar54.2.2 hin54 hat54 (g := (mkF m 72 #[.val (.int qx), .val (.ref b2), .val (.int (2 : Int32)), .val (.int (1 : Int32))] [(.int (2 : Int32)), (.ref b2)])) rfl rfl (hb hby at_72) _ ?_
        exact kt)
    obtain ⟨cq56, kq56, q56a, q56b, q56c⟩ := isOf hZ e38 (((((((E_COMMITTED.ext E2).wr W8).wr W14).wr W20).wr W26).wr W32).wr W38)
    obtain ⟨_, _, ⟨T56, L56, k56, n56⟩, -, X56, ⟨Lc56, hQ56, l56, y56, z56⟩, st56⟩ := X38.virtualBack hx (y := (⟨"ratify/TransactionState", "isFinal", "()Z"⟩ : MethodName)) (z := (⟨"ratify/TransactionState", "isFinal", "()Z"⟩ : MethodName)) hown (mvT hZ (hw _ (List.mem_of_getElem? (i := 17) rfl))) (mvT hZ (hw _ (List.mem_of_getElem? (i := 18) rfl))) (notFace_of_selects (args := #[]) (mvT hZ (hw _ (List.mem_of_getElem? (i := 20) rfl)))) (mvT hZ (hw _ (List.mem_of_getElem? (i := 20) rfl))) (mvT hZ (hw _ (List.mem_of_getElem? (i := 19) rfl))) (by decide) (backOf (W := 0) (own_rm1 l Z a0 hw [] aCOMMITTED aCOMMITTED aABORTED aDECIDED (1 : Int32) h38 n0 (Nat.le_trans (Nat.le_trans (Nat.le_trans (Nat.le_trans (Nat.le_trans (Nat.le_trans (Nat.le_trans Z0 E2.1) (Keep.of_wr W8).1) (Keep.of_wr W14).1) (Keep.of_wr W20).1) (Keep.of_wr W26).1) (Keep.of_wr W32).1) (Keep.of_wr W38).1) (((((((S_COMMITTED.ext E2).wr W8).wr W14).wr W20).wr W26).wr W32).wr W38) (((((((S_ABORTED.ext E2).wr W8).wr W14).wr W20).wr W26).wr W32).wr W38) (((((((S_DECIDED.ext E2).wr W8).wr W14).wr W20).wr W26).wr W32).wr W38) ((if_pos (by simp)).symm)) hZ (hw _ (List.mem_of_getElem? (i := 21) rfl)) (hw _ (List.mem_of_getElem? (i := 3) rfl)) (by decide) (by decide)) q56a q56c (g := (mkF m 73 #[.val (.int qx), .val (.ref b2), .val (.int (2 : Int32)), .val (.int (1 : Int32))] [(.ref aCOMMITTED)])) rfl (by rw [hml]; rfl) (Steps.refl _) (argsL := []) (rest := []) (lenOf own_pd0 rfl) rfl (by show 2 * 0 + _ ≤ _; exact Nat.le_of_eq rfl) (hb hby at_73) (fun _ _ => ⟨rfl, e38, (by decide : 1 + 0 ≤ _), (by decide : 6 + 0 ≤ _)⟩)
    dsimp only [Pt.U, Pt.locs, Pt.cells, Pt.slots] at X56 l56 y56 z56 st56 hQ56
    subst l56 y56 z56
    obtain ⟨rfl, N56q, e56⟩ := hQ56
    have N56 := Fr.app N38 N56q
    have pre57 : Goes p e below s₁ (entryFrame m #[(.int qx)] maxLocals) T56 (mkF m 76 #[.val (.int qx), .val (.ref b2), .val (.int (2 : Int32)), .val (.int (1 : Int32))] [(.int (1 : Int32))]) := fun t kt => pre55 t (st56.trans kt)
    have pre58 : Goes p e below s₁ (entryFrame m #[(.int qx)] maxLocals) T56 (mkF m 85 #[.val (.int qx), .val (.ref b2), .val (.int (2 : Int32)), .val (.int (1 : Int32))] [(.int (1 : Int32))]) := fun t kt => pre57 t (by
        show Steps p.tables e below (T56.setTop (mkF m 76 #[.val (.int qx), .val (.ref b2), .val (.int (2 : Int32)), .val (.int (1 : Int32))] [(.int (1 : Int32))])) _
        refine XS.iloadN X56.here hx rfl (hb hby at_76) rfl ?_
        show Steps p.tables e below (T56.setTop (mkF m 77 #[.val (.int qx), .val (.ref b2), .val (.int (2 : Int32)), .val (.int (1 : Int32))] [(.int (1 : Int32)), (.int (1 : Int32))])) _
        refine XS.icmpNo X56.here hx rfl (hb hby at_77) rfl (teq (by decide : (1 : Int32) = (1 : Int32))).2 ?_
        show Steps p.tables e below (T56.setTop (mkF m 80 #[.val (.int qx), .val (.ref b2), .val (.int (2 : Int32)), .val (.int (1 : Int32))] [])) _
        refine XS.iconst X56.here hx rfl (hb hby at_80) ?_
        show Steps p.tables e below (T56.setTop (mkF m 81 #[.val (.int qx), .val (.ref b2), .val (.int (2 : Int32)), .val (.int (1 : Int32))] [(.int (1 : Int32))])) _
        refine XS.goto X56.here hx rfl (pc0 := 81) (pc' := 85) rfl (hb hby at_81) (by decide) (by decide) ?_
        exact kt)
    obtain ⟨fs, hr, hrun, hended, hW, hsame⟩ := X56.leave (v := some (.int (1 : Int32))) (fun h => by rw [Bd.returns] at h; cases h)
    refine ⟨_, _, pre58 _ ?_, hrun, hended, _, _, rfl, ?_, ⟨_, rfl⟩, hW, hsame.mono (by decide) (by decide)⟩
    · show Steps p.tables e below (T56.setTop (mkF m 85 #[.val (.int qx), .val (.ref b2), .val (.int (2 : Int32)), .val (.int (1 : Int32))] [(.int (1 : Int32))])) _
      exact retN X56 hx (t := .boolean) Bd.returns (by simp) (hb hby at_85) hr
    · show Q_own_rm0 Z qx aUNKNOWN aPREPARED aCOMMITTED aABORTED aPENDING aDECIDED h0 n0 _ T56.heap _
      rw [e56]
      exact ⟨rfl, N56⟩
  · rw [hk] at pre40
    have pre59 : Goes p e below s₁ (entryFrame m #[(.int qx)] maxLocals) T38 (mkF m 72 #[.val (.int qx), .val (.ref b2), .val (.int (3 : Int32)), .val (.int (1 : Int32))] [(.int (3 : Int32)), (.ref b2)]) := fun t kt => pre40 t (by
        show Steps p.tables e below (T38.setTop (mkF m 50 #[.val (.int qx), .val (.ref b2), .val (.int (3 : Int32)), .unset] [])) _
        refine XS.iloadN X38.here hx rfl (hb hby at_50) rfl ?_
        show Steps p.tables e below (T38.setTop (mkF m 51 #[.val (.int qx), .val (.ref b2), .val (.int (3 : Int32)), .unset] [(.int (3 : Int32))])) _
        refine XS.ifNo X38.here hx rfl (hb hby at_51) rfl ((if0 _ _).trans (feq (by decide : ¬ ((3 : Int32) = (0 : Int32)))).1) ?_
        show Steps p.tables e below (T38.setTop (mkF m 54 #[.val (.int qx), .val (.ref b2), .val (.int (3 : Int32)), .unset] [])) _
        refine XS.iloadN X38.here hx rfl (hb hby at_54) rfl ?_
        show Steps p.tables e below (T38.setTop (mkF m 55 #[.val (.int qx), .val (.ref b2), .val (.int (3 : Int32)), .unset] [(.int (3 : Int32))])) _
        refine XS.iconst X38.here hx rfl (hb hby at_55) ?_
        show Steps p.tables e below (T38.setTop (mkF m 56 #[.val (.int qx), .val (.ref b2), .val (.int (3 : Int32)), .unset] [(.int (1 : Int32)), (.int (3 : Int32))])) _
        refine XS.icmpNo X38.here hx rfl (hb hby at_56) rfl (feq (by decide : ¬ ((3 : Int32) = (1 : Int32)))).1 ?_
        show Steps p.tables e below (T38.setTop (mkF m 59 #[.val (.int qx), .val (.ref b2), .val (.int (3 : Int32)), .unset] [])) _
        refine XS.iloadN X38.here hx rfl (hb hby at_59) rfl ?_
        show Steps p.tables e below (T38.setTop (mkF m 60 #[.val (.int qx), .val (.ref b2), .val (.int (3 : Int32)), .unset] [(.int (3 : Int32))])) _
        refine XS.iconst X38.here hx rfl (hb hby at_60) ?_
        show Steps p.tables e below (T38.setTop (mkF m 61 #[.val (.int qx), .val (.ref b2), .val (.int (3 : Int32)), .unset] [(.int (4 : Int32)), (.int (3 : Int32))])) _
        refine XS.icmpNo X38.here hx rfl (hb hby at_61) rfl (feq (by decide : ¬ ((3 : Int32) = (4 : Int32)))).1 ?_
        show Steps p.tables e below (T38.setTop (mkF m 64 #[.val (.int qx), .val (.ref b2), .val (.int (3 : Int32)), .unset] [])) _
        refine XS.iconst X38.here hx rfl (hb hby at_64) ?_
        show Steps p.tables e below (T38.setTop (mkF m 65 #[.val (.int qx), .val (.ref b2), .val (.int (3 : Int32)), .unset] [(.int (1 : Int32))])) _
        refine XS.goto X38.here hx rfl (pc0 := 65) (pc' := 69) rfl (hb hby at_65) (by decide) (by decide) ?_
        show Steps p.tables e below (T38.setTop (mkF m 69 #[.val (.int qx), .val (.ref b2), .val (.int (3 : Int32)), .unset] [(.int (1 : Int32))])) _
        refine XS.istoreN X38.here hx rfl (hb hby at_69) rfl (l' := #[.val (.int qx), .val (.ref b2), .val (.int (3 : Int32)), .val (.int (1 : Int32))]) rfl ?_
        show Steps p.tables e below (T38.setTop (mkF m 70 #[.val (.int qx), .val (.ref b2), .val (.int (3 : Int32)), .val (.int (1 : Int32))] [])) _
        refine XS.aloadN X38.here hx rfl (hb hby at_70) rfl rfl ?_
        show Steps p.tables e below (T38.setTop (mkF m 71 #[.val (.int qx), .val (.ref b2), .val (.int (3 : Int32)), .val (.int (1 : Int32))] [(.ref b2)])) _
        refine XS.iloadN X38.here hx rfl (hb hby at_71) rfl ?_
        exact kt)
    obtain ⟨cl60, Ar60, q60, S60, N_60, H60, G60⟩ := V38
    have hin60 : ¬ ((3 : Int32) < 0 ∨ cl60.slots.size ≤ ((3 : Int32)).toNatClampNeg) := inb_of S60 ⟨by decide, by decide⟩
    have hat60 : cl60.slots[((3 : Int32)).toNatClampNeg]? = some (.ref aABORTED) := Has.at H60 hin60 rfl
    have pre61 : Goes p e below s₁ (entryFrame m #[(.int qx)] maxLocals) T38 (mkF m 73 #[.val (.int qx), .val (.ref b2), .val (.int (3 : Int32)), .val (.int (1 : Int32))] [(.ref aABORTED)]) := fun t kt => pre59 t (by
        show Steps p.tables e below (T38.setTop (mkF m 72 #[.val (.int qx), .val (.ref b2), .val (.int (3 : Int32)), .val (.int (1 : Int32))] [(.int (3 : Int32)), (.ref b2)])) _
        refine X38.aaload hx (j := (3 : Int32)) (v := (.ref aABORTED)) (by rw [e38]; exact Ar60.1) (State.isArrayOf_alike hZ.alike Ar60.2.1) rfl Ar60.2.2 hin60 hat60 (g := (mkF m 72 #[.val (.int qx), .val (.ref b2), .val (.int (3 : Int32)), .val (.int (1 : Int32))] [(.int (3 : Int32)), (.ref b2)])) rfl rfl (hb hby at_72) _ ?_
        exact kt)
    obtain ⟨cq62, kq62, q62a, q62b, q62c⟩ := isOf hZ e38 (((((((E_ABORTED.ext E2).wr W8).wr W14).wr W20).wr W26).wr W32).wr W38)
    obtain ⟨_, _, ⟨T62, L62, k62, n62⟩, -, X62, ⟨Lc62, hQ62, l62, y62, z62⟩, st62⟩ := X38.virtualBack hx (y := (⟨"ratify/TransactionState", "isFinal", "()Z"⟩ : MethodName)) (z := (⟨"ratify/TransactionState", "isFinal", "()Z"⟩ : MethodName)) hown (mvT hZ (hw _ (List.mem_of_getElem? (i := 17) rfl))) (mvT hZ (hw _ (List.mem_of_getElem? (i := 18) rfl))) (notFace_of_selects (args := #[]) (mvT hZ (hw _ (List.mem_of_getElem? (i := 20) rfl)))) (mvT hZ (hw _ (List.mem_of_getElem? (i := 20) rfl))) (mvT hZ (hw _ (List.mem_of_getElem? (i := 19) rfl))) (by decide) (backOf (W := 0) (own_rm1 l Z a0 hw [] aABORTED aCOMMITTED aABORTED aDECIDED (1 : Int32) h38 n0 (Nat.le_trans (Nat.le_trans (Nat.le_trans (Nat.le_trans (Nat.le_trans (Nat.le_trans (Nat.le_trans Z0 E2.1) (Keep.of_wr W8).1) (Keep.of_wr W14).1) (Keep.of_wr W20).1) (Keep.of_wr W26).1) (Keep.of_wr W32).1) (Keep.of_wr W38).1) (((((((S_COMMITTED.ext E2).wr W8).wr W14).wr W20).wr W26).wr W32).wr W38) (((((((S_ABORTED.ext E2).wr W8).wr W14).wr W20).wr W26).wr W32).wr W38) (((((((S_DECIDED.ext E2).wr W8).wr W14).wr W20).wr W26).wr W32).wr W38) ((if_pos (by simp)).symm)) hZ (hw _ (List.mem_of_getElem? (i := 21) rfl)) (hw _ (List.mem_of_getElem? (i := 3) rfl)) (by decide) (by decide)) q62a q62c (g := (mkF m 73 #[.val (.int qx), .val (.ref b2), .val (.int (3 : Int32)), .val (.int (1 : Int32))] [(.ref aABORTED)])) rfl (by rw [hml]; rfl) (Steps.refl _) (argsL := []) (rest := []) (lenOf own_pd0 rfl) rfl (by show 2 * 0 + _ ≤ _; exact Nat.le_of_eq rfl) (hb hby at_73) (fun _ _ => ⟨rfl, e38, (by decide : 1 + 0 ≤ _), (by decide : 6 + 0 ≤ _)⟩)
    dsimp only [Pt.U, Pt.locs, Pt.cells, Pt.slots] at X62 l62 y62 z62 st62 hQ62
    subst l62 y62 z62
    obtain ⟨rfl, N62q, e62⟩ := hQ62
    have N62 := Fr.app N38 N62q
    have pre63 : Goes p e below s₁ (entryFrame m #[(.int qx)] maxLocals) T62 (mkF m 76 #[.val (.int qx), .val (.ref b2), .val (.int (3 : Int32)), .val (.int (1 : Int32))] [(.int (1 : Int32))]) := fun t kt => pre61 t (st62.trans kt)
    have pre64 : Goes p e below s₁ (entryFrame m #[(.int qx)] maxLocals) T62 (mkF m 85 #[.val (.int qx), .val (.ref b2), .val (.int (3 : Int32)), .val (.int (1 : Int32))] [(.int (1 : Int32))]) := fun t kt => pre63 t (by
        show Steps p.tables e below (T62.setTop (mkF m 76 #[.val (.int qx), .val (.ref b2), .val (.int (3 : Int32)), .val (.int (1 : Int32))] [(.int (1 : Int32))])) _
        refine XS.iloadN X62.here hx rfl (hb hby at_76) rfl ?_
        show Steps p.tables e below (T62.setTop (mkF m 77 #[.val (.int qx), .val (.ref b2), .val (.int (3 : Int32)), .val (.int (1 : Int32))] [(.int (1 : Int32)), (.int (1 : Int32))])) _
        refine XS.icmpNo X62.here hx rfl (hb hby at_77) rfl (teq (by decide : (1 : Int32) = (1 : Int32))).2 ?_
        show Steps p.tables e below (T62.setTop (mkF m 80 #[.val (.int qx), .val (.ref b2), .val (.int (3 : Int32)), .val (.int (1 : Int32))] [])) _
        refine XS.iconst X62.here hx rfl (hb hby at_80) ?_
        show Steps p.tables e below (T62.setTop (mkF m 81 #[.val (.int qx), .val (.ref b2), .val (.int (3 : Int32)), .val (.int (1 : Int32))] [(.int (1 : Int32))])) _
        refine XS.goto X62.here hx rfl (pc0 := 81) (pc' := 85) rfl (hb hby at_81) (by decide) (by decide) ?_
        exact kt)
    obtain ⟨fs, hr, hrun, hended, hW, hsame⟩ := X62.leave (v := some (.int (1 : Int32))) (fun h => by rw [Bd.returns] at h; cases h)
    refine ⟨_, _, pre64 _ ?_, hrun, hended, _, _, rfl, ?_, ⟨_, rfl⟩, hW, hsame.mono (by decide) (by decide)⟩
    · show Steps p.tables e below (T62.setTop (mkF m 85 #[.val (.int qx), .val (.ref b2), .val (.int (3 : Int32)), .val (.int (1 : Int32))] [(.int (1 : Int32))])) _
      exact retN X62 hx (t := .boolean) Bd.returns (by simp) (hb hby at_85) hr
    · show Q_own_rm0 Z qx aUNKNOWN aPREPARED aCOMMITTED aABORTED aPENDING aDECIDED h0 n0 _ T62.heap _
      rw [e62]
      exact ⟨rfl, N62⟩
  · rw [hk] at pre40
    have pre65 : Goes p e below s₁ (entryFrame m #[(.int qx)] maxLocals) T38 (mkF m 72 #[.val (.int qx), .val (.ref b2), .val (.int (4 : Int32)), .val (.int (0 : Int32))] [(.int (4 : Int32)), (.ref b2)]) := fun t kt => pre40 t (by
        show Steps p.tables e below (T38.setTop (mkF m 50 #[.val (.int qx), .val (.ref b2), .val (.int (4 : Int32)), .unset] [])) _
        refine XS.iloadN X38.here hx rfl (hb hby at_50) rfl ?_
        show Steps p.tables e below (T38.setTop (mkF m 51 #[.val (.int qx), .val (.ref b2), .val (.int (4 : Int32)), .unset] [(.int (4 : Int32))])) _
        refine XS.ifNo X38.here hx rfl (hb hby at_51) rfl ((if0 _ _).trans (feq (by decide : ¬ ((4 : Int32) = (0 : Int32)))).1) ?_
        show Steps p.tables e below (T38.setTop (mkF m 54 #[.val (.int qx), .val (.ref b2), .val (.int (4 : Int32)), .unset] [])) _
        refine XS.iloadN X38.here hx rfl (hb hby at_54) rfl ?_
        show Steps p.tables e below (T38.setTop (mkF m 55 #[.val (.int qx), .val (.ref b2), .val (.int (4 : Int32)), .unset] [(.int (4 : Int32))])) _
        refine XS.iconst X38.here hx rfl (hb hby at_55) ?_
        show Steps p.tables e below (T38.setTop (mkF m 56 #[.val (.int qx), .val (.ref b2), .val (.int (4 : Int32)), .unset] [(.int (1 : Int32)), (.int (4 : Int32))])) _
        refine XS.icmpNo X38.here hx rfl (hb hby at_56) rfl (feq (by decide : ¬ ((4 : Int32) = (1 : Int32)))).1 ?_
        show Steps p.tables e below (T38.setTop (mkF m 59 #[.val (.int qx), .val (.ref b2), .val (.int (4 : Int32)), .unset] [])) _
        refine XS.iloadN X38.here hx rfl (hb hby at_59) rfl ?_
        show Steps p.tables e below (T38.setTop (mkF m 60 #[.val (.int qx), .val (.ref b2), .val (.int (4 : Int32)), .unset] [(.int (4 : Int32))])) _
        refine XS.iconst X38.here hx rfl (hb hby at_60) ?_
        show Steps p.tables e below (T38.setTop (mkF m 61 #[.val (.int qx), .val (.ref b2), .val (.int (4 : Int32)), .unset] [(.int (4 : Int32)), (.int (4 : Int32))])) _
        refine XS.icmpYes X38.here hx rfl (pc0 := 61) (pc' := 68) rfl (hb hby at_61) rfl (teq (by decide : (4 : Int32) = (4 : Int32))).1 (by decide) (by decide) ?_
        show Steps p.tables e below (T38.setTop (mkF m 68 #[.val (.int qx), .val (.ref b2), .val (.int (4 : Int32)), .unset] [])) _
        refine XS.iconst X38.here hx rfl (hb hby at_68) ?_
        show Steps p.tables e below (T38.setTop (mkF m 69 #[.val (.int qx), .val (.ref b2), .val (.int (4 : Int32)), .unset] [(.int (0 : Int32))])) _
        refine XS.istoreN X38.here hx rfl (hb hby at_69) rfl (l' := #[.val (.int qx), .val (.ref b2), .val (.int (4 : Int32)), .val (.int (0 : Int32))]) rfl ?_
        show Steps p.tables e below (T38.setTop (mkF m 70 #[.val (.int qx), .val (.ref b2), .val (.int (4 : Int32)), .val (.int (0 : Int32))] [])) _
        refine XS.aloadN X38.here hx rfl (hb hby at_70) rfl rfl ?_
        show Steps p.tables e below (T38.setTop (mkF m 71 #[.val (.int qx), .val (.ref b2), .val (.int (4 : Int32)), .val (.int (0 : Int32))] [(.ref b2)])) _
        refine XS.iloadN X38.here hx rfl (hb hby at_71) rfl ?_
        exact kt)
    obtain ⟨cl66, Ar66, q66, S66, N_66, H66, G66⟩ := V38
    have hin66 : ¬ ((4 : Int32) < 0 ∨ cl66.slots.size ≤ ((4 : Int32)).toNatClampNeg) := inb_of S66 ⟨by decide, by decide⟩
    have hat66 : cl66.slots[((4 : Int32)).toNatClampNeg]? = some (.ref aPENDING) := Has.at H66 hin66 rfl
    have pre67 : Goes p e below s₁ (entryFrame m #[(.int qx)] maxLocals) T38 (mkF m 73 #[.val (.int qx), .val (.ref b2), .val (.int (4 : Int32)), .val (.int (0 : Int32))] [(.ref aPENDING)]) := fun t kt => pre65 t (by
        show Steps p.tables e below (T38.setTop (mkF m 72 #[.val (.int qx), .val (.ref b2), .val (.int (4 : Int32)), .val (.int (0 : Int32))] [(.int (4 : Int32)), (.ref b2)])) _
        refine X38.aaload hx (j := (4 : Int32)) (v := (.ref aPENDING)) (by rw [e38]; exact Ar66.1) (State.isArrayOf_alike hZ.alike Ar66.2.1) rfl Ar66.2.2 hin66 hat66 (g := (mkF m 72 #[.val (.int qx), .val (.ref b2), .val (.int (4 : Int32)), .val (.int (0 : Int32))] [(.int (4 : Int32)), (.ref b2)])) rfl rfl (hb hby at_72) _ ?_
        exact kt)
    obtain ⟨cq68, kq68, q68a, q68b, q68c⟩ := isOf hZ e38 (((((((E_PENDING.ext E2).wr W8).wr W14).wr W20).wr W26).wr W32).wr W38)
    obtain ⟨_, _, ⟨T68, L68, k68, n68⟩, -, X68, ⟨Lc68, hQ68, l68, y68, z68⟩, st68⟩ := X38.virtualBack hx (y := (⟨"ratify/TransactionState", "isFinal", "()Z"⟩ : MethodName)) (z := (⟨"ratify/TransactionState", "isFinal", "()Z"⟩ : MethodName)) hown (mvT hZ (hw _ (List.mem_of_getElem? (i := 17) rfl))) (mvT hZ (hw _ (List.mem_of_getElem? (i := 18) rfl))) (notFace_of_selects (args := #[]) (mvT hZ (hw _ (List.mem_of_getElem? (i := 20) rfl)))) (mvT hZ (hw _ (List.mem_of_getElem? (i := 20) rfl))) (mvT hZ (hw _ (List.mem_of_getElem? (i := 19) rfl))) (by decide) (backOf (W := 0) (own_rm1 l Z a0 hw [] aPENDING aCOMMITTED aABORTED aDECIDED (0 : Int32) h38 n0 (Nat.le_trans (Nat.le_trans (Nat.le_trans (Nat.le_trans (Nat.le_trans (Nat.le_trans (Nat.le_trans Z0 E2.1) (Keep.of_wr W8).1) (Keep.of_wr W14).1) (Keep.of_wr W20).1) (Keep.of_wr W26).1) (Keep.of_wr W32).1) (Keep.of_wr W38).1) (((((((S_COMMITTED.ext E2).wr W8).wr W14).wr W20).wr W26).wr W32).wr W38) (((((((S_ABORTED.ext E2).wr W8).wr W14).wr W20).wr W26).wr W32).wr W38) (((((((S_DECIDED.ext E2).wr W8).wr W14).wr W20).wr W26).wr W32).wr W38) ((if_neg (by simp [ne_PENDING_COMMITTED, ne_PENDING_ABORTED, ne_PENDING_DECIDED])).symm)) hZ (hw _ (List.mem_of_getElem? (i := 21) rfl)) (hw _ (List.mem_of_getElem? (i := 3) rfl)) (by decide) (by decide)) q68a q68c (g := (mkF m 73 #[.val (.int qx), .val (.ref b2), .val (.int (4 : Int32)), .val (.int (0 : Int32))] [(.ref aPENDING)])) rfl (by rw [hml]; rfl) (Steps.refl _) (argsL := []) (rest := []) (lenOf own_pd0 rfl) rfl (by show 2 * 0 + _ ≤ _; exact Nat.le_of_eq rfl) (hb hby at_73) (fun _ _ => ⟨rfl, e38, (by decide : 1 + 0 ≤ _), (by decide : 6 + 0 ≤ _)⟩)
    dsimp only [Pt.U, Pt.locs, Pt.cells, Pt.slots] at X68 l68 y68 z68 st68 hQ68
    subst l68 y68 z68
    obtain ⟨rfl, N68q, e68⟩ := hQ68
    have N68 := Fr.app N38 N68q
    have pre69 : Goes p e below s₁ (entryFrame m #[(.int qx)] maxLocals) T68 (mkF m 76 #[.val (.int qx), .val (.ref b2), .val (.int (4 : Int32)), .val (.int (0 : Int32))] [(.int (0 : Int32))]) := fun t kt => pre67 t (st68.trans kt)
    have pre70 : Goes p e below s₁ (entryFrame m #[(.int qx)] maxLocals) T68 (mkF m 85 #[.val (.int qx), .val (.ref b2), .val (.int (4 : Int32)), .val (.int (0 : Int32))] [(.int (1 : Int32))]) := fun t kt => pre69 t (by
        show Steps p.tables e below (T68.setTop (mkF m 76 #[.val (.int qx), .val (.ref b2), .val (.int (4 : Int32)), .val (.int (0 : Int32))] [(.int (0 : Int32))])) _
        refine XS.iloadN X68.here hx rfl (hb hby at_76) rfl ?_
        show Steps p.tables e below (T68.setTop (mkF m 77 #[.val (.int qx), .val (.ref b2), .val (.int (4 : Int32)), .val (.int (0 : Int32))] [(.int (0 : Int32)), (.int (0 : Int32))])) _
        refine XS.icmpNo X68.here hx rfl (hb hby at_77) rfl (teq (by decide : (0 : Int32) = (0 : Int32))).2 ?_
        show Steps p.tables e below (T68.setTop (mkF m 80 #[.val (.int qx), .val (.ref b2), .val (.int (4 : Int32)), .val (.int (0 : Int32))] [])) _
        refine XS.iconst X68.here hx rfl (hb hby at_80) ?_
        show Steps p.tables e below (T68.setTop (mkF m 81 #[.val (.int qx), .val (.ref b2), .val (.int (4 : Int32)), .val (.int (0 : Int32))] [(.int (1 : Int32))])) _
        refine XS.goto X68.here hx rfl (pc0 := 81) (pc' := 85) rfl (hb hby at_81) (by decide) (by decide) ?_
        exact kt)
    obtain ⟨fs, hr, hrun, hended, hW, hsame⟩ := X68.leave (v := some (.int (1 : Int32))) (fun h => by rw [Bd.returns] at h; cases h)
    refine ⟨_, _, pre70 _ ?_, hrun, hended, _, _, rfl, ?_, ⟨_, rfl⟩, hW, hsame.mono (by decide) (by decide)⟩
    · show Steps p.tables e below (T68.setTop (mkF m 85 #[.val (.int qx), .val (.ref b2), .val (.int (4 : Int32)), .val (.int (0 : Int32))] [(.int (1 : Int32))])) _
      exact retN X68 hx (t := .boolean) Bd.returns (by simp) (hb hby at_85) hr
    · show Q_own_rm0 Z qx aUNKNOWN aPREPARED aCOMMITTED aABORTED aPENDING aDECIDED h0 n0 _ T68.heap _
      rw [e68]
      exact ⟨rfl, N68⟩
  · rw [hk] at pre40
    have pre71 : Goes p e below s₁ (entryFrame m #[(.int qx)] maxLocals) T38 (mkF m 72 #[.val (.int qx), .val (.ref b2), .val (.int (5 : Int32)), .val (.int (1 : Int32))] [(.int (5 : Int32)), (.ref b2)]) := fun t kt => pre40 t (by
        show Steps p.tables e below (T38.setTop (mkF m 50 #[.val (.int qx), .val (.ref b2), .val (.int (5 : Int32)), .unset] [])) _
        refine XS.iloadN X38.here hx rfl (hb hby at_50) rfl ?_
        show Steps p.tables e below (T38.setTop (mkF m 51 #[.val (.int qx), .val (.ref b2), .val (.int (5 : Int32)), .unset] [(.int (5 : Int32))])) _
        refine XS.ifNo X38.here hx rfl (hb hby at_51) rfl ((if0 _ _).trans (feq (by decide : ¬ ((5 : Int32) = (0 : Int32)))).1) ?_
        show Steps p.tables e below (T38.setTop (mkF m 54 #[.val (.int qx), .val (.ref b2), .val (.int (5 : Int32)), .unset] [])) _
        refine XS.iloadN X38.here hx rfl (hb hby at_54) rfl ?_
        show Steps p.tables e below (T38.setTop (mkF m 55 #[.val (.int qx), .val (.ref b2), .val (.int (5 : Int32)), .unset] [(.int (5 : Int32))])) _
        refine XS.iconst X38.here hx rfl (hb hby at_55) ?_
        show Steps p.tables e below (T38.setTop (mkF m 56 #[.val (.int qx), .val (.ref b2), .val (.int (5 : Int32)), .unset] [(.int (1 : Int32)), (.int (5 : Int32))])) _
        refine XS.icmpNo X38.here hx rfl (hb hby at_56) rfl (feq (by decide : ¬ ((5 : Int32) = (1 : Int32)))).1 ?_
        show Steps p.tables e below (T38.setTop (mkF m 59 #[.val (.int qx), .val (.ref b2), .val (.int (5 : Int32)), .unset] [])) _
        refine XS.iloadN X38.here hx rfl (hb hby at_59) rfl ?_
        show Steps p.tables e below (T38.setTop (mkF m 60 #[.val (.int qx), .val (.ref b2), .val (.int (5 : Int32)), .unset] [(.int (5 : Int32))])) _
        refine XS.iconst X38.here hx rfl (hb hby at_60) ?_
        show Steps p.tables e below (T38.setTop (mkF m 61 #[.val (.int qx), .val (.ref b2), .val (.int (5 : Int32)), .unset] [(.int (4 : Int32)), (.int (5 : Int32))])) _
        refine XS.icmpNo X38.here hx rfl (hb hby at_61) rfl (feq (by decide : ¬ ((5 : Int32) = (4 : Int32)))).1 ?_
        show Steps p.tables e below (T38.setTop (mkF m 64 #[.val (.int qx), .val (.ref b2), .val (.int (5 : Int32)), .unset] [])) _
        refine XS.iconst X38.here hx rfl (hb hby at_64) ?_
        show Steps p.tables e below (T38.setTop (mkF m 65 #[.val (.int qx), .val (.ref b2), .val (.int (5 : Int32)), .unset] [(.int (1 : Int32))])) _
        refine XS.goto X38.here hx rfl (pc0 := 65) (pc' := 69) rfl (hb hby at_65) (by decide) (by decide) ?_
        show Steps p.tables e below (T38.setTop (mkF m 69 #[.val (.int qx), .val (.ref b2), .val (.int (5 : Int32)), .unset] [(.int (1 : Int32))])) _
        refine XS.istoreN X38.here hx rfl (hb hby at_69) rfl (l' := #[.val (.int qx), .val (.ref b2), .val (.int (5 : Int32)), .val (.int (1 : Int32))]) rfl ?_
        show Steps p.tables e below (T38.setTop (mkF m 70 #[.val (.int qx), .val (.ref b2), .val (.int (5 : Int32)), .val (.int (1 : Int32))] [])) _
        refine XS.aloadN X38.here hx rfl (hb hby at_70) rfl rfl ?_
        show Steps p.tables e below (T38.setTop (mkF m 71 #[.val (.int qx), .val (.ref b2), .val (.int (5 : Int32)), .val (.int (1 : Int32))] [(.ref b2)])) _
        refine XS.iloadN X38.here hx rfl (hb hby at_71) rfl ?_
        exact kt)
    obtain ⟨cl72, Ar72, q72, S72, N_72, H72, G72⟩ := V38
    have hin72 : ¬ ((5 : Int32) < 0 ∨ cl72.slots.size ≤ ((5 : Int32)).toNatClampNeg) := inb_of S72 ⟨by decide, by decide⟩
    have hat72 : cl72.slots[((5 : Int32)).toNatClampNeg]? = some (.ref aDECIDED) := Has.at H72 hin72 rfl
    have pre73 : Goes p e below s₁ (entryFrame m #[(.int qx)] maxLocals) T38 (mkF m 73 #[.val (.int qx), .val (.ref b2), .val (.int (5 : Int32)), .val (.int (1 : Int32))] [(.ref aDECIDED)]) := fun t kt => pre71 t (by
        show Steps p.tables e below (T38.setTop (mkF m 72 #[.val (.int qx), .val (.ref b2), .val (.int (5 : Int32)), .val (.int (1 : Int32))] [(.int (5 : Int32)), (.ref b2)])) _
        refine X38.aaload hx (j := (5 : Int32)) (v := (.ref aDECIDED)) (by rw [e38]; exact Ar72.1) (State.isArrayOf_alike hZ.alike Ar72.2.1) rfl Ar72.2.2 hin72 hat72 (g := (mkF m 72 #[.val (.int qx), .val (.ref b2), .val (.int (5 : Int32)), .val (.int (1 : Int32))] [(.int (5 : Int32)), (.ref b2)])) rfl rfl (hb hby at_72) _ ?_
        exact kt)
    obtain ⟨cq74, kq74, q74a, q74b, q74c⟩ := isOf hZ e38 (((((((E_DECIDED.ext E2).wr W8).wr W14).wr W20).wr W26).wr W32).wr W38)
    obtain ⟨_, _, ⟨T74, L74, k74, n74⟩, -, X74, ⟨Lc74, hQ74, l74, y74, z74⟩, st74⟩ := X38.virtualBack hx (y := (⟨"ratify/TransactionState", "isFinal", "()Z"⟩ : MethodName)) (z := (⟨"ratify/TransactionState", "isFinal", "()Z"⟩ : MethodName)) hown (mvT hZ (hw _ (List.mem_of_getElem? (i := 17) rfl))) (mvT hZ (hw _ (List.mem_of_getElem? (i := 18) rfl))) (notFace_of_selects (args := #[]) (mvT hZ (hw _ (List.mem_of_getElem? (i := 20) rfl)))) (mvT hZ (hw _ (List.mem_of_getElem? (i := 20) rfl))) (mvT hZ (hw _ (List.mem_of_getElem? (i := 19) rfl))) (by decide) (backOf (W := 0) (own_rm1 l Z a0 hw [] aDECIDED aCOMMITTED aABORTED aDECIDED (1 : Int32) h38 n0 (Nat.le_trans (Nat.le_trans (Nat.le_trans (Nat.le_trans (Nat.le_trans (Nat.le_trans (Nat.le_trans Z0 E2.1) (Keep.of_wr W8).1) (Keep.of_wr W14).1) (Keep.of_wr W20).1) (Keep.of_wr W26).1) (Keep.of_wr W32).1) (Keep.of_wr W38).1) (((((((S_COMMITTED.ext E2).wr W8).wr W14).wr W20).wr W26).wr W32).wr W38) (((((((S_ABORTED.ext E2).wr W8).wr W14).wr W20).wr W26).wr W32).wr W38) (((((((S_DECIDED.ext E2).wr W8).wr W14).wr W20).wr W26).wr W32).wr W38) ((if_pos (by simp)).symm)) hZ (hw _ (List.mem_of_getElem? (i := 21) rfl)) (hw _ (List.mem_of_getElem? (i := 3) rfl)) (by decide) (by decide)) q74a q74c (g := (mkF m 73 #[.val (.int qx), .val (.ref b2), .val (.int (5 : Int32)), .val (.int (1 : Int32))] [(.ref aDECIDED)])) rfl (by rw [hml]; rfl) (Steps.refl _) (argsL := []) (rest := []) (lenOf own_pd0 rfl) rfl (by show 2 * 0 + _ ≤ _; exact Nat.le_of_eq rfl) (hb hby at_73) (fun _ _ => ⟨rfl, e38, (by decide : 1 + 0 ≤ _), (by decide : 6 + 0 ≤ _)⟩)
    dsimp only [Pt.U, Pt.locs, Pt.cells, Pt.slots] at X74 l74 y74 z74 st74 hQ74
    subst l74 y74 z74
    obtain ⟨rfl, N74q, e74⟩ := hQ74
    have N74 := Fr.app N38 N74q
    have pre75 : Goes p e below s₁ (entryFrame m #[(.int qx)] maxLocals) T74 (mkF m 76 #[.val (.int qx), .val (.ref b2), .val (.int (5 : Int32)), .val (.int (1 : Int32))] [(.int (1 : Int32))]) := fun t kt => pre73 t (st74.trans kt)
    have pre76 : Goes p e below s₁ (entryFrame m #[(.int qx)] maxLocals) T74 (mkF m 85 #[.val (.int qx), .val (.ref b2), .val (.int (5 : Int32)), .val (.int (1 : Int32))] [(.int (1 : Int32))]) := fun t kt => pre75 t (by
        show Steps p.tables e below (T74.setTop (mkF m 76 #[.val (.int qx), .val (.ref b2), .val (.int (5 : Int32)), .val (.int (1 : Int32))] [(.int (1 : Int32))])) _
        refine XS.iloadN X74.here hx rfl (hb hby at_76) rfl ?_
        show Steps p.tables e below (T74.setTop (mkF m 77 #[.val (.int qx), .val (.ref b2), .val (.int (5 : Int32)), .val (.int (1 : Int32))] [(.int (1 : Int32)), (.int (1 : Int32))])) _
        refine XS.icmpNo X74.here hx rfl (hb hby at_77) rfl (teq (by decide : (1 : Int32) = (1 : Int32))).2 ?_
        show Steps p.tables e below (T74.setTop (mkF m 80 #[.val (.int qx), .val (.ref b2), .val (.int (5 : Int32)), .val (.int (1 : Int32))] [])) _
        refine XS.iconst X74.here hx rfl (hb hby at_80) ?_
        show Steps p.tables e below (T74.setTop (mkF m 81 #[.val (.int qx), .val (.ref b2), .val (.int (5 : Int32)), .val (.int (1 : Int32))] [(.int (1 : Int32))])) _
        refine XS.goto X74.here hx rfl (pc0 := 81) (pc' := 85) rfl (hb hby at_81) (by decide) (by decide) ?_
        exact kt)
    obtain ⟨fs, hr, hrun, hended, hW, hsame⟩ := X74.leave (v := some (.int (1 : Int32))) (fun h => by rw [Bd.returns] at h; cases h)
    refine ⟨_, _, pre76 _ ?_, hrun, hended, _, _, rfl, ?_, ⟨_, rfl⟩, hW, hsame.mono (by decide) (by decide)⟩
    · show Steps p.tables e below (T74.setTop (mkF m 85 #[.val (.int qx), .val (.ref b2), .val (.int (5 : Int32)), .val (.int (1 : Int32))] [(.int (1 : Int32))])) _
      exact retN X74 hx (t := .boolean) Bd.returns (by simp) (hb hby at_85) hr
    · show Q_own_rm0 Z qx aUNKNOWN aPREPARED aCOMMITTED aABORTED aPENDING aDECIDED h0 n0 _ T74.heap _
      rw [e74]
      exact ⟨rfl, N74⟩
set_option maxRecDepth 65536 in
set_option maxHeartbeats 40000000 in
theorem comes_1 {Post : Tables → Env → Array Value → State → Outcome → State → Prop} (hpost : ∀ tb e args s v u, (limb_1_1.after args s (.returned v) u = true ∧ limb_1_2.after args s (.returned v) u = true ∧ True) → FrameEnd s (.returned v) u (Jvm.fieldLocs frame_1_writes args s ++ Jvm.arrayLocs frame_1_arrays args s ++ Jvm.staticLocs frame_1_statics s) 16 128 → Post tb e args s (.returned v) u) :
    ArmFor flags0 classFile x code maxLocals ret World_1 tables_1 room_1 Calls_1 rest_1 Pre_1 Post := by
  intro l hfl _ _ p e ha hc hk s m args below hf hA hF happ hP
  obtain ⟨hcalls, hrest, hpre⟩ := hP
  obtain ⟨-, -, -, hnamed, -, -, -, hat⟩ := (Spec.applies_iff hf).mp happ
  obtain ⟨hg, hn⟩ := and_e (Cond.before_iff.mp (show (Jvm.Cond.and given_1 narrow_1).before args s = true from hpre))
  obtain ⟨g5, g6⟩ := and_e hg
  obtain ⟨w0, rfl⟩ : ∃ w0 : Value, args = #[w0] := by
    have hs : args.size = 1 := by simpa [Cond.value, given_1] using g5
    obtain ⟨L⟩ := args
    match L, hs with
    | [w0], _ => exact ⟨w0, rfl⟩
  have hw := fun d (hd : d ∈ tables_1) => atoms_spec (ws := Jvm.Cond.code x code maxLocals ret :: tables_1) hat d (List.mem_cons_of_mem _ hd)
  have hfit : Fit s := fun {y c} hc i hi => by
    obtain ⟨ha, rfl⟩ := Array.getElem?_eq_some_iff.mp hc
    have q := List.all_eq_true.mp ((Array.all_eq_true_iff_forall_mem.mp hF) _ (Array.getElem_mem ha)) i (List.mem_range.mpr hi)
    simpa [Array.getElem?_eq_getElem hi] using q
  obtain ⟨i0, ei0⟩ := is_v g6
  obtain rfl : w0 = (.int i0) := Option.some.inj ei0
  obtain ⟨q0, r0⟩ := and_e hn
  obtain ⟨q1, r1⟩ := and_e r0
  obtain ⟨q2, r2⟩ := and_e r1
  obtain ⟨q3, r3⟩ := and_e r2
  obtain ⟨q4, r4⟩ := and_e r3
  obtain ⟨q5, r5⟩ := and_e r4
  obtain ⟨q6, r6⟩ := and_e r5
  obtain ⟨q7, r7⟩ := and_e r6
  obtain ⟨q8, r8⟩ := and_e r7
  obtain ⟨q9, r9⟩ := and_e r8
  obtain ⟨q10, r10⟩ := and_e r9
  obtain ⟨aUNKNOWN, evUNKNOWN⟩ := exa_v q0
  have E_UNKNOWN := Exa.start evUNKNOWN q0
  have S_UNKNOWN := Sta.start evUNKNOWN (Or.inr ⟨(hw _ (List.mem_of_getElem? (i := 3) rfl)), (hw _ (List.mem_of_getElem? (i := 4) rfl))⟩)
  obtain ⟨aPREPARED, evPREPARED⟩ := exa_v q1
  have E_PREPARED := Exa.start evPREPARED q1
  have S_PREPARED := Sta.start evPREPARED (Or.inr ⟨(hw _ (List.mem_of_getElem? (i := 3) rfl)), (hw _ (List.mem_of_getElem? (i := 7) rfl))⟩)
  obtain ⟨aCOMMITTED, evCOMMITTED⟩ := exa_v q2
  have E_COMMITTED := Exa.start evCOMMITTED q2
  have S_COMMITTED := Sta.start evCOMMITTED (Or.inr ⟨(hw _ (List.mem_of_getElem? (i := 3) rfl)), (hw _ (List.mem_of_getElem? (i := 9) rfl))⟩)
  obtain ⟨aABORTED, evABORTED⟩ := exa_v q3
  have E_ABORTED := Exa.start evABORTED q3
  have S_ABORTED := Sta.start evABORTED (Or.inr ⟨(hw _ (List.mem_of_getElem? (i := 3) rfl)), (hw _ (List.mem_of_getElem? (i := 11) rfl))⟩)
  obtain ⟨aPENDING, evPENDING⟩ := exa_v q4
  have E_PENDING := Exa.start evPENDING q4
  have S_PENDING := Sta.start evPENDING (Or.inr ⟨(hw _ (List.mem_of_getElem? (i := 3) rfl)), (hw _ (List.mem_of_getElem? (i := 13) rfl))⟩)
  obtain ⟨aDECIDED, evDECIDED⟩ := exa_v q5
  have E_DECIDED := Exa.start evDECIDED q5
  have S_DECIDED := Sta.start evDECIDED (Or.inr ⟨(hw _ (List.mem_of_getElem? (i := 3) rfl)), (hw _ (List.mem_of_getElem? (i := 15) rfl))⟩)
  have O_UNKNOWN := Fld.start (own_ord evUNKNOWN q6)
  have O_COMMITTED := Fld.start (own_ord evCOMMITTED q7)
  have O_ABORTED := Fld.start (own_ord evABORTED q8)
  have O_DECIDED := Fld.start (own_ord evDECIDED q9)
  have O_PREPARED := Fld.start (own_ord evPREPARED q10)
  have O_PENDING := Fld.start (own_ord evPENDING r10)
  obtain ⟨n, o, h1, h2, h3, _, L, rfl, ⟨rfl, N⟩, hq⟩ := own_rm0 l s _ hw tables_1 i0 aUNKNOWN aPREPARED aCOMMITTED aABORTED aPENDING aDECIDED s.heap s.heap.size (Nat.le_refl _) S_UNKNOWN S_PREPARED S_COMMITTED S_ABORTED S_PENDING S_DECIDED E_UNKNOWN E_PREPARED E_COMMITTED E_ABORTED E_PENDING E_DECIDED (Fld.ne O_UNKNOWN O_COMMITTED (by decide)) (Fld.ne O_UNKNOWN O_ABORTED (by decide)) (Fld.ne O_UNKNOWN O_DECIDED (by decide)) (Fld.ne O_PREPARED O_COMMITTED (by decide)) (Fld.ne O_PREPARED O_ABORTED (by decide)) (Fld.ne O_PREPARED O_DECIDED (by decide)) (Fld.ne O_COMMITTED O_ABORTED (by decide)) (Fld.ne O_COMMITTED O_DECIDED (by decide)) (Fld.ne O_ABORTED O_COMMITTED (by decide)) (Fld.ne O_ABORTED O_DECIDED (by decide)) (Fld.ne O_PENDING O_COMMITTED (by decide)) (Fld.ne O_PENDING O_ABORTED (by decide)) (Fld.ne O_PENDING O_DECIDED (by decide)) (Fld.ne O_DECIDED O_COMMITTED (by decide)) (Fld.ne O_DECIDED O_ABORTED (by decide)) p e ha hc hk s m _ below hf ((Spec.applies_iff_loose hf).mp happ).1 ⟨rfl, State.Warmed39.refl s, rfl⟩ trivial
  refine ⟨n, _, h1, h2, h3, hpost _ _ _ _ _ _ ⟨Cond.after_iff.mpr rfl, Cond.after_iff.mpr (eq_i res_at (Term.int_eval (1)) rfl), trivial⟩ ⟨hq.1, hq.2.1, (hq.2.2.sift fun y hy => Or.inr (N y hy)).mono (by decide) (by decide)⟩⟩
theorem main_1_1 : Claimed_1_1 := comes_1 fun _ _ _ _ _ _ h hF => ⟨h.1, hF⟩
theorem main_1_2 : Claimed_1_2 := comes_1 fun _ _ _ _ _ _ h hF => ⟨h.2.1, hF⟩
end Jvm.Pilot.@@N@@
namespace Jvm.Pilot.@@N@@
open Jvm Jvm.ClassFile Sem Op Lib Jvm.Free Jvm.Stand Jvm.Pilot.@@N@@.Jvm.D
/-! MADE BY PROGRAM (witnessworld.py) out of the Statement's table words and the real class files: 13 classes; the members and pool entries that the words name. The judged class is class 1, her method 1. -/
namespace start1
open Jvm.ClassFile
def u (s : String) : CpInfo := .utf8 (stringToUtf16 s)
/-- a pool by its gaps: so many unusable entries, then the entry; so many at the end -/
def gap : Nat → List CpInfo → List CpInfo
  | 0, r => r
  | n + 1, r => .unusable :: gap n r
def poolList (es : List (Nat × CpInfo)) (last : Nat) : List CpInfo := es.foldr (fun e r => gap e.1 (e.2 :: r)) (gap last [])
def pool (es : List (Nat × CpInfo)) (last : Nat) : Array CpInfo := ⟨poolList es last⟩
def fileOf (pool : Array CpInfo) (this : Nat) (attrs : Array Attribute := #[]) (ms : Array MethodInfo := #[]) (fl : Nat := 33) (sup : Nat := 0) (ifs : Array Nat := #[]) (fds : Array FieldInfo := #[]) : ClassFile where
  minorVersion := 0
  majorVersion := 65
  constantPool := pool
  accessFlags := fl
  thisClass := this
  superClass := sup
  interfaces := ifs
  fields := fds
  methods := ms
  attributes := attrs
def plain (name : String) (sup : Option ClassId) : Class where
  name := name
  kind := .ordinary
  loader := none
  accessFlags := 33
  super := sup
  interfaces := #[]
  cf := none
  fields := #[]
  methods := #[]
  instanceTypes := #[]
  staticTypes := #[]
  resolved := #[]
  callSites := []
  init := .initialized
  statics := none
  mirror := none

def pool0 : Array CpInfo := pool [(5, u "<init>"), (0, u "()V"), (1, .class_ 10), (1, u "java/lang/Object")] 113

def k0m0 : Method := { name := "<init>", desc := "()V", sig := { parameters := [], returnType := none }, accessFlags := 1, code := none }
/-- java/lang/Object -/
def k0 : Class := { plain "java/lang/Object" none with
  accessFlags := 33
  interfaces := #[]
  cf := some (fileOf pool0 8 #[] #[{ accessFlags := 1, nameIndex := 5, descriptorIndex := 6, attributes := #[] }] 33 0 #[] #[])
  fields := #[]
  methods := #[k0m0]
  instanceTypes := #[]
  staticTypes := #[]
  resolved := Array.replicate 124 none
  statics := none }

def pool1 : Array CpInfo := pool [(2, .class_ 4), (1, u "java/lang/Object"), (0, u "<init>"), (0, u "()V"), (0, .class_ 8), (0, u "ratify/TransactionState"), (0, .fieldref 7 10), (0, .nameAndType 11 12), (0, u "UNKNOWN"), (0, u "Lratify/TransactionState;"), (0, .fieldref 7 14), (0, .nameAndType 15 12), (0, u "PREPARED"), (0, .fieldref 7 17), (0, .nameAndType 18 12), (0, u "COMMITTED"), (0, .fieldref 7 20), (0, .nameAndType 21 12), (0, u "ABORTED"), (0, .fieldref 7 23), (0, .nameAndType 24 12), (0, u "PENDING"), (0, .fieldref 7 26), (0, .nameAndType 27 12), (0, u "DECIDED"), (0, .integer 2147483647), (0, .methodref 7 30), (0, .nameAndType 31 32), (0, u "isFinal"), (0, u "()Z"), (0, .class_ 34), (0, u "ratify/TransactionStateIsFinalPinLaw"), (2, u "law"), (0, u "(I)Z")] 5

def k1m0 : Method := { name := "<init>", desc := "()V", sig := { parameters := [], returnType := none }, accessFlags := 2, code := none }
def k1c1 : Code := { maxStack := 4, maxLocals := 4, code := code, exceptionTable := #[], attributes := #[] }
def k1m1 : Method := { name := "law", desc := "(I)Z", sig := { parameters := [.int], returnType := some .boolean }, accessFlags := 9, code := some k1c1 }
/-- ratify/TransactionStateIsFinalPinLaw -/
def k1 : Class := { plain "ratify/TransactionStateIsFinalPinLaw" (some 0) with
  accessFlags := 49
  interfaces := #[]
  cf := some (fileOf pool1 33 #[] #[{ accessFlags := 2, nameIndex := 5, descriptorIndex := 6, attributes := #[] }, { accessFlags := 9, nameIndex := 37, descriptorIndex := 38, attributes := #[] }] 49 2 #[] #[])
  fields := #[]
  methods := #[k1m0, k1m1]
  instanceTypes := #[]
  staticTypes := #[]
  resolved := Array.replicate 44 none
  statics := none }

def pool2 : Array CpInfo := pool [(1, .class_ 2), (0, u "java/lang/constant/Constable"), (0, .class_ 4), (0, u "java/lang/Object")] 6

/-- java/lang/constant/Constable -/
def k2 : Class := { plain "java/lang/constant/Constable" (some 0) with
  accessFlags := 1537
  interfaces := #[]
  cf := some (fileOf pool2 1 #[] #[] 1537 3 #[] #[])
  fields := #[]
  methods := #[]
  instanceTypes := #[]
  staticTypes := #[]
  resolved := Array.replicate 11 none
  statics := none }

def pool3 : Array CpInfo := pool [(1, .class_ 2), (0, u "java/lang/Comparable"), (0, .class_ 4), (0, u "java/lang/Object")] 7

/-- java/lang/Comparable -/
def k3 : Class := { plain "java/lang/Comparable" (some 0) with
  accessFlags := 1537
  interfaces := #[]
  cf := some (fileOf pool3 1 #[] #[] 1537 3 #[] #[])
  fields := #[]
  methods := #[]
  instanceTypes := #[]
  staticTypes := #[]
  resolved := Array.replicate 12 none
  statics := none }

def pool4 : Array CpInfo := pool [(1, .class_ 2), (0, u "java/io/Serializable"), (0, .class_ 4), (0, u "java/lang/Object")] 2

/-- java/io/Serializable -/
def k4 : Class := { plain "java/io/Serializable" (some 0) with
  accessFlags := 1537
  interfaces := #[]
  cf := some (fileOf pool4 1 #[] #[] 1537 3 #[] #[])
  fields := #[]
  methods := #[]
  instanceTypes := #[]
  staticTypes := #[]
  resolved := Array.replicate 7 none
  statics := none }

def pool5 : Array CpInfo := pool [(2, .class_ 4), (1, u "java/lang/Enum"), (0, u "name"), (0, u "Ljava/lang/String;"), (2, u "ordinal"), (0, u "I"), (1, .class_ 14), (1, u "java/lang/Object"), (4, u "hash"), (86, .class_ 108), (1, u "java/lang/Enum$EnumDesc"), (2, .class_ 112), (0, u "java/lang/constant/Constable"), (0, .class_ 114), (0, u "java/lang/Comparable"), (0, .class_ 116), (0, u "java/io/Serializable")] 87

/-- java/lang/Enum -/
def k5 : Class := { plain "java/lang/Enum" (some 0) with
  accessFlags := 1057
  interfaces := #[2, 3, 4]
  cf := some (fileOf pool5 2 #[.nestMembers #[106]] #[] 1057 12 #[111, 113, 115] #[{ accessFlags := 18, nameIndex := 5, descriptorIndex := 6, attributes := #[] }, { accessFlags := 18, nameIndex := 9, descriptorIndex := 10, attributes := #[] }, { accessFlags := 2, nameIndex := 19, descriptorIndex := 10, attributes := #[] }])
  fields := #[{ name := "name", type := (.object "java/lang/String"), accessFlags := 18, slot := 0, constantValue := 0 }, { name := "ordinal", type := .int, accessFlags := 18, slot := 1, constantValue := 0 }, { name := "hash", type := .int, accessFlags := 2, slot := 2, constantValue := 0 }]
  methods := #[]
  instanceTypes := #[(.object "java/lang/String"), .int, .int]
  staticTypes := #[]
  resolved := Array.replicate 204 none
  statics := none }

def pool6 : Array CpInfo := pool [(1, .class_ 2), (0, u "ratify/TransactionState"), (2, u "UNKNOWN"), (0, u "Lratify/TransactionState;"), (2, u "PREPARED"), (0, .fieldref 1 11), (0, .nameAndType 12 6), (0, u "COMMITTED"), (0, .fieldref 1 14), (0, .nameAndType 15 6), (0, u "ABORTED"), (2, u "PENDING"), (0, .fieldref 1 20), (0, .nameAndType 21 6), (0, u "DECIDED"), (2, u "$VALUES"), (0, u "[Lratify/TransactionState;"), (6, .class_ 34), (1, u "java/lang/Enum"), (39, u "isFinal"), (0, u "()Z")] 7

def k6c0 : Code := { maxStack := 2, maxLocals := 1, code := prog_136_method_6_code, exceptionTable := #[], attributes := #[] }
def k6m0 : Method := { name := "isFinal", desc := "()Z", sig := { parameters := [], returnType := some .boolean }, accessFlags := 0, code := some k6c0 }
/-- ratify/TransactionState -/
def k6 : Class := { plain "ratify/TransactionState" (some 5) with
  accessFlags := 16433
  interfaces := #[]
  cf := some (fileOf pool6 1 #[] #[{ accessFlags := 0, nameIndex := 74, descriptorIndex := 75, attributes := #[] }] 16433 32 #[] #[{ accessFlags := 16409, nameIndex := 5, descriptorIndex := 6, attributes := #[] }, { accessFlags := 16409, nameIndex := 9, descriptorIndex := 6, attributes := #[] }, { accessFlags := 16409, nameIndex := 12, descriptorIndex := 6, attributes := #[] }, { accessFlags := 16409, nameIndex := 15, descriptorIndex := 6, attributes := #[] }, { accessFlags := 16409, nameIndex := 18, descriptorIndex := 6, attributes := #[] }, { accessFlags := 16409, nameIndex := 21, descriptorIndex := 6, attributes := #[] }, { accessFlags := 4122, nameIndex := 24, descriptorIndex := 25, attributes := #[] }])
  fields := #[{ name := "UNKNOWN", type := (.object "ratify/TransactionState"), accessFlags := 16409, slot := 0, constantValue := 0 }, { name := "PREPARED", type := (.object "ratify/TransactionState"), accessFlags := 16409, slot := 1, constantValue := 0 }, { name := "COMMITTED", type := (.object "ratify/TransactionState"), accessFlags := 16409, slot := 2, constantValue := 0 }, { name := "ABORTED", type := (.object "ratify/TransactionState"), accessFlags := 16409, slot := 3, constantValue := 0 }, { name := "PENDING", type := (.object "ratify/TransactionState"), accessFlags := 16409, slot := 4, constantValue := 0 }, { name := "DECIDED", type := (.object "ratify/TransactionState"), accessFlags := 16409, slot := 5, constantValue := 0 }, { name := "$VALUES", type := (.array (.object "ratify/TransactionState")), accessFlags := 4122, slot := 6, constantValue := 0 }]
  methods := #[k6m0]
  instanceTypes := #[(.object "java/lang/String"), .int, .int]
  staticTypes := #[(.object "ratify/TransactionState"), (.object "ratify/TransactionState"), (.object "ratify/TransactionState"), (.object "ratify/TransactionState"), (.object "ratify/TransactionState"), (.object "ratify/TransactionState"), (.array (.object "ratify/TransactionState"))]
  resolved := Array.replicate 83 none
  statics := some 0 }

def pool7 : Array CpInfo := pool [(1, u "java/lang/Cloneable"), (0, .class_ 1), (0, u "java/lang/Object"), (0, .class_ 3)] 3

/-- java/lang/Cloneable -/
def k7 : Class := { plain "java/lang/Cloneable" (some 0) with
  accessFlags := 1537
  interfaces := #[]
  cf := some (fileOf pool7 2 #[] #[] 1537 4 #[] #[])
  fields := #[]
  methods := #[]
  instanceTypes := #[]
  staticTypes := #[]
  resolved := Array.replicate 8 none
  statics := none }

/-- the primitive byte -/
def k8 : Class := { plain "byte" none with kind := .primitive 'B', accessFlags := 0x411 }
/-- [B -/
def k9 : Class := { plain "[B" (some 0) with kind := .array 8 .byte, interfaces := #[7, 4], accessFlags := 1041 }

/-- the primitive int -/
def k10 : Class := { plain "int" none with kind := .primitive 'I', accessFlags := 0x411 }
/-- [I -/
def k11 : Class := { plain "[I" (some 0) with kind := .array 10 .int, interfaces := #[7, 4], accessFlags := 1041 }

/-- [Lratify/TransactionState; -/
def k12 : Class := { plain "[Lratify/TransactionState;" (some 0) with kind := .array 6 (.object "ratify/TransactionState"), interfaces := #[7, 4], accessFlags := 1041 }

def heap : Heap := #[{ cls := 6, slots := #[.ref 1, .ref 2, .ref 3, .ref 4, .ref 5, .ref 6, .null], vm := .statics 6 },
  { cls := 6, slots := #[.null, .int 0, .int 0], vm := .none },
  { cls := 6, slots := #[.null, .int 1, .int 0], vm := .none },
  { cls := 6, slots := #[.null, .int 2, .int 0], vm := .none },
  { cls := 6, slots := #[.null, .int 3, .int 0], vm := .none },
  { cls := 6, slots := #[.null, .int 4, .int 0], vm := .none },
  { cls := 6, slots := #[.null, .int 5, .int 0], vm := .none }]
def classes : Array Class := #[k0, k1, k2, k3, k4, k5, k6, k7, k8, k9, k10, k11, k12]
def interned : List (Array UInt16 × Addr) := []
def slotsUsed : Nat := 25
def theMethod : MethodId := ⟨1, 1⟩
def args0 : Array Value := #[.int 5]
def aboutOver (below : List Frame) : State where
  vm := { classes := classes, interned := interned.toArray }
  heap := heap
  slotsUsed := slotsUsed
  threads := #[{ frames := .invoking theMethod args0 :: below }]
def below0 : List Frame := [.native { method := ⟨0, 0⟩, args := #[] }]
def about1 : State := aboutOver below0
def p0 : Program := .bare "" "" ""
def e0 : Env := launch0.env 0 0 0
theorem w_frames : about1.frames = Frame.invoking theMethod args0 :: below0 := rfl
set_option maxRecDepth 65536 in
theorem w_args : argsFit about1.vm theMethod args0 = true := by decide +kernel
set_option maxRecDepth 65536 in
theorem w_heap : heapFits about1 = true := by decide +kernel
set_option maxRecDepth 65536 in
theorem w_runnable : about1.curStatus? = some .runnable := by decide +kernel
set_option maxRecDepth 65536 in
theorem w_alone : about1.alone = true := by decide +kernel
set_option maxRecDepth 65536 in
theorem w_named : about1.methodNamed? x = some theMethod := by decide +kernel
set_option maxRecDepth 65536 in
theorem w_hears : about1.hears theMethod below0 = true := by decide +kernel
set_option maxRecDepth 65536 in
theorem w_ripe : about1.ripe theMethod args0 below0 = true := by decide +kernel
theorem w_running : about1.status = .running := rfl
set_option maxRecDepth 65536 in
theorem w_room : about1.hasRoom e0.platform room_1 = true :=
  launch0.hasRoom_least _ room_1 (by decide +kernel) (by decide +kernel) (by decide +kernel) (by decide +kernel) (by decide +kernel) (by decide +kernel)
theorem allAtoms_all (ts : List Jvm.Cond) (a : Array Jvm.Value) (st : Jvm.State) : (allAtoms ts).before a st = ts.all (fun c => c.before a st) := by
  induction ts with
  | nil => rfl
  | cons c t ih =>
    show (Jvm.Cond.and c (allAtoms t)).before a st = _
    rw [Jvm.Cond.before_and, ih, List.all_cons]
def words1 : List Jvm.Cond := Jvm.Cond.code x code maxLocals ret :: tables_1
/-- a 'code' word, met by the world's own term for the bytes: nothing is compared byte by byte -/
theorem code_word {y : MethodName} {bytes : ByteArray} {mx : Nat} {rt : Option FieldType} {a : Array Value} {s : State} {m : MethodId} {meth : Method} {c : Code} (h1 : s.methodNamed? y = some m) (h2 : s.vm.method? m = some meth) (h3 : meth.code = some c) (h4 : c.code = bytes)
    (h5 : (c.maxLocals == mx && c.exceptionTable.isEmpty && decide (c.maxStack ≤ mostOperands) && decide (meth.sig.returnType = rt) && !meth.locks && decide (parseMethodDescriptor y.desc = some meth.sig)) = true) : (Jvm.Cond.code y bytes mx rt).before a s = true := by
  simp only [Bool.and_eq_true, beq_iff_eq, Bool.not_eq_true', decide_eq_true_eq] at h5
  obtain ⟨⟨⟨⟨⟨g1, g2⟩, g3⟩, g4⟩, g5⟩, g6⟩ := h5
  simp [Cond.before, Cond.holds, Cond.value, h1, h2, h3, h4, g1, g2, g3, g4, g5, g6]
def isCode : Jvm.Cond → Bool
  | .code _ _ _ _ => true
  | _ => false
theorem all_split {L : List Jvm.Cond} {P : Jvm.Cond → Bool} (h1 : L.all (fun c => isCode c || P c) = true) (h2 : ∀ c ∈ L.filter isCode, P c = true) : L.all P = true := by
  refine List.all_eq_true.mpr fun c hc => ?_
  have h := List.all_eq_true.mp h1 c hc
  rcases Bool.eq_false_or_eq_true (isCode c) with hi | hi
  · exact h2 c (List.mem_filter.mpr ⟨hc, hi⟩)
  · simpa [hi] using h
set_option maxRecDepth 65536 in
theorem w_c0 : (Jvm.Cond.code x code maxLocals ret).before args0 about1 = true := code_word (m := ⟨1, 1⟩) (meth := k1m1) (c := k1c1) (by decide +kernel) rfl rfl rfl (by decide +kernel)
set_option maxRecDepth 65536 in
theorem w_c1 : (Jvm.Cond.code ({ cls := "ratify/TransactionState", name := "isFinal", desc := "()Z" } : Jvm.MethodName) prog_136_method_6_code (1 : Nat) (Option.some Jvm.ClassFile.FieldType.boolean)).before args0 about1 = true := code_word (m := ⟨6, 0⟩) (meth := k6m0) (c := k6c0) (by decide +kernel) rfl rfl rfl (by decide +kernel)
def codes1 : List Jvm.Cond := [Jvm.Cond.code x code maxLocals ret, Jvm.Cond.code ({ cls := "ratify/TransactionState", name := "isFinal", desc := "()Z" } : Jvm.MethodName) prog_136_method_6_code (1 : Nat) (Option.some Jvm.ClassFile.FieldType.boolean)]
set_option maxRecDepth 65536 in
theorem codes_eq : words1.filter isCode = codes1 := rfl
theorem w_codes : ∀ c ∈ words1.filter isCode, c.before args0 about1 = true := by
  rw [codes_eq]
  intro c hc
  simp only [codes1, List.mem_cons, List.not_mem_nil, or_false] at hc
  rcases hc with rfl | rfl
  · exact w_c0
  · exact w_c1
set_option maxRecDepth 65536 in
theorem w_t1 : (words1.take 24).all (fun c => isCode c || c.before args0 about1) = true := by decide +kernel
set_option maxRecDepth 65536 in
theorem w_t2 : (words1.drop 24).all (fun c => isCode c || c.before args0 about1) = true := by decide +kernel
theorem w_tables : (allAtoms (Jvm.Cond.code x code maxLocals ret :: tables_1)).before args0 about1 = true := by
  rw [allAtoms_all]
  show words1.all (fun c => c.before args0 about1) = true
  refine all_split ?_ w_codes
  rw [← List.take_append_drop 24 words1, List.all_append, w_t1, w_t2]
  rfl
set_option maxRecDepth 65536 in
theorem w_case : (Jvm.Cond.and given_1 narrow_1).before args0 about1 = true := by decide +kernel
theorem w_applies : (headSpec (Jvm.Cond.code x code maxLocals ret :: tables_1) room_1).applies x e0.platform about1 = true :=
  (Spec.applies_iff w_frames).mpr ⟨w_running, w_runnable, w_alone, w_named, w_hears, w_ripe, w_room, w_tables⟩
theorem atStart : AtStart classFile x code maxLocals ret World_1 tables_1 room_1 Calls_1 rest_1 Pre_1 launch0 p0 e0 about1 theMethod args0 below0 :=
  ⟨lists_1, trivial, launch0.admits_env _ _ _, launch0.least_env, fairChoices_fair.cas, fairChoices_fair.clock, w_frames, w_args, w_heap, w_applies, trivial, trivial, w_case⟩
end start1
theorem witness_1 : WitnessClaimed_1 := ⟨start1.p0, start1.e0, start1.about1, start1.theMethod, start1.args0, start1.below0, start1.atStart⟩
end Jvm.Pilot.@@N@@
