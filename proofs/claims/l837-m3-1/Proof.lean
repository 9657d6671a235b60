import JvmDerived
import JvmDerived.Pilot.@@N@@Statement
import JvmDerived.Pilot.@@N@@Code
set_option linter.unusedVariables false
set_option linter.unusedSimpArgs false
namespace Jvm.RoadKit
open Sem ClassFile Op Lib Jvm.Stand Jvm.Free Jvm.LawKit
section New
variable {p : Program} {l : Launch} {e : Env} {R : Room} {s : State} {m : MethodId} {args : Array Value} {below : List Frame} {meth : Method} {c : Code} {T : State} {locs : List Loc} {cells slots : Nat}
theorem retI (X : Stand p l e R s m args below meth c T locs cells slots) (hx : p.tables.exec = Jvm.exec) {pc : Nat} {Ls : Array Slot} {z : Int32} {rest : List Value} (hret : meth.sig.returnType = some .int) (hd : decode c.code pc = .ok (.ireturn, 1)) {fs : List Frame}
    (hl : ∀ (f : JFrame) (acts : List Action), f.method = m → f.locked = none → f.entered = [] → (doReturn e (T.setTop f) acts (some (.int z))).1 = T.setFrames fs) : Steps p.tables e below (T.setTop (mkF m pc Ls (.int z :: rest))) (T.setFrames fs) := by
  have hm' : T.vm.method? m = some meth := X.method'
  have hn : narrow .int (.int z) = .int z := rfl
  show Steps p.tables e below (T.setTop { method := m, pc := pc, locals := Ls, stack := _ :: rest, locked := none }) _
  jvm_step X.here [X.here.top, hx, hd, hm', hret, hn]
  first | (intro acts; rw [hl _ acts rfl rfl rfl]) | rw [hl _ _ rfl rfl rfl]
  exact Steps.refl _
end New
end Jvm.RoadKit
namespace Jvm.Pilot.@@N@@
open Jvm Jvm.ClassFile Sem Op Lib Jvm.Free Jvm.Stand Jvm.LawKit Jvm.RoadKit Bundle Jvm.Pilot.@@N@@.Jvm.D
theorem own_ord {s : State} {args : Array Value} {t : Term} {x : Addr} {C n d : String} {k : Int32} (ht : t.eval args s none [] s = some (.ref x)) (h : (Jvm.Cond.eq (Jvm.Term.field t C n d) (Jvm.Term.int k)).value args s none s [] = some true) : s.fieldOf? x C n d = some (.int k) := by
  obtain ⟨a, b, ha, hb, -, hk⟩ := cmp_v (Or.inl h)
  have eb : b = .int k := (Option.some.inj ((Term.int_eval k).symm.trans hb)).symm
  subst eb
  obtain ⟨z, rfl⟩ := hk
  simp only [Cond.value, ha, hb] at h
  have e : z = k := by simpa using h
  rw [← e, ← ha, fld_at ht]
theorem own_pd0 : parseMethodDescriptor "(I)Lratify/TransactionState;" = some ⟨[.int], some (.object "ratify/TransactionState")⟩ := by decide +kernel
theorem own_pd1 : parseMethodDescriptor "()Z" = some ⟨[], some .boolean⟩ := by decide +kernel
theorem own_n1 (qx : Int32) : (((qx &&& (2147483647 : Int32)) % (6 : Int32)) = (0 : Int32) ∨ ((qx &&& (2147483647 : Int32)) % (6 : Int32)) = (1 : Int32) ∨ ((qx &&& (2147483647 : Int32)) % (6 : Int32)) = (2 : Int32) ∨ ((qx &&& (2147483647 : Int32)) % (6 : Int32)) = (3 : Int32) ∨ ((qx &&& (2147483647 : Int32)) % (6 : Int32)) = (4 : Int32) ∨ ((qx &&& (2147483647 : Int32)) % (6 : Int32)) = (5 : Int32)) := by
  have nf1 := rng32 qx
  have nf2 : (2147483647 : Int32).toInt = 2147483647 := by decide
  have nf3 := c_mask qx (2147483647 : Int32) 31 (by decide) (by decide)
  have nf4 : (6 : Int32).toInt = 6 := by decide
  have nf5 := c_irem (qx &&& (2147483647 : Int32)) (6 : Int32) (6) (by decide)
  have nf6 : (0 : Int32).toInt = 0 := by decide
  have nf7 : (1 : Int32).toInt = 1 := by decide
  have nf8 : (2 : Int32).toInt = 2 := by decide
  have nf9 : (3 : Int32).toInt = 3 := by decide
  have nf10 : (4 : Int32).toInt = 4 := by decide
  have nf11 : (5 : Int32).toInt = 5 := by decide
  simp only [← Int32.toInt_inj]; omega
theorem own_d3_0 : decode prog_136_method_6_code 0 = .ok (.aload_n 0, 1) := by decide +kernel
theorem own_d3_1 : decode prog_136_method_6_code 1 = .ok (.getstatic 10, 3) := by decide +kernel
theorem own_d3_4 : decode prog_136_method_6_code 4 = .ok (.if_acmp .eq 17, 3) := by decide +kernel
theorem own_d3_7 : decode prog_136_method_6_code 7 = .ok (.aload_n 0, 1) := by decide +kernel
theorem own_d3_8 : decode prog_136_method_6_code 8 = .ok (.getstatic 13, 3) := by decide +kernel
theorem own_d3_11 : decode prog_136_method_6_code 11 = .ok (.if_acmp .eq 10, 3) := by decide +kernel
theorem own_d3_14 : decode prog_136_method_6_code 14 = .ok (.aload_n 0, 1) := by decide +kernel
theorem own_d3_15 : decode prog_136_method_6_code 15 = .ok (.getstatic 19, 3) := by decide +kernel
theorem own_d3_18 : decode prog_136_method_6_code 18 = .ok (.if_acmp .ne 7, 3) := by decide +kernel
theorem own_d3_21 : decode prog_136_method_6_code 21 = .ok (.iconst 1, 1) := by decide +kernel
theorem own_d3_22 : decode prog_136_method_6_code 22 = .ok (.goto 4, 3) := by decide +kernel
theorem own_d3_25 : decode prog_136_method_6_code 25 = .ok (.iconst 0, 1) := by decide +kernel
theorem own_d3_26 : decode prog_136_method_6_code 26 = .ok (.ireturn, 1) := by decide +kernel
theorem own_pn_own_isFinal : plainName "ratify/TransactionState" = true := by first | (simp [plainName, overriddenIn]; done) | decide +kernel
theorem own_ef_own_isFinal (m : MethodId) (x0 : Addr) : entryFrame m #[(.ref x0)] 1 = mkF m 0 #[.val (.ref x0)] [] := by first | (simp [entryFrame, mkF, argsToLocals, Value.category]; done) | rfl
def Q_own_isFinal (Z : State) (a1 : Addr) (aCOMMITTED : Addr) (aABORTED : Addr) (aDECIDED : Addr) (r : Int32) (h0 : Heap) (n0 : Nat) (v : Option Value) (h : Heap) (L : List Loc) : Prop := v = some (.int r) ∧ Fr n0 L ∧ h = h0
set_option maxRecDepth 65536 in
set_option maxHeartbeats 40000000 in
theorem own_isFinal (l : Launch) (Z : State) (a0 : Array Value) (hw : ∀ d ∈ tables_1, d.before a0 Z = true) (ws : List Jvm.Cond) (a1 : Addr) (aCOMMITTED : Addr) (aABORTED : Addr) (aDECIDED : Addr) (r : Int32) (h0 : Heap) (n0 : Nat) (Z0 : n0 ≤ h0.size) (S_COMMITTED : Sta Z h0 "ratify/TransactionState" "COMMITTED" "Lratify/TransactionState;" (.ref aCOMMITTED)) (S_ABORTED : Sta Z h0 "ratify/TransactionState" "ABORTED" "Lratify/TransactionState;" (.ref aABORTED)) (S_DECIDED : Sta Z h0 "ratify/TransactionState" "DECIDED" "Lratify/TransactionState;" (.ref aDECIDED)) (hrr : r = if (a1 = aCOMMITTED ∨ a1 = aABORTED ∨ a1 = aDECIDED) then 1 else 0) :
    MetFree l (⟨"ratify/TransactionState", "isFinal", "()Z"⟩ : MethodName) (head1 (Jvm.Cond.code (⟨"ratify/TransactionState", "isFinal", "()Z"⟩ : MethodName) prog_136_method_6_code 1 (some .boolean) :: ws) ({ frames := 0, cells := 0, slots := 0, locals := 0 } : Room)) (fun a U => a = #[(.ref a1)] ∧ Z.Warmed39 U.vm ∧ U.heap = h0) (fun _ _ _ _ _ => True) (fun _ U o U' => ∃ v L, o = .returned v ∧ Q_own_isFinal Z a1 aCOMMITTED aABORTED aDECIDED r h0 n0 v U'.heap L ∧ FrameEnd U o U' L ({ frames := 0, cells := 0, slots := 0, locals := 0 } : Room).cells ({ frames := 0, cells := 0, slots := 0, locals := 0 } : Room).slots) := by
  refine MetFree.of_bodySF (plainFor_of_name own_pn_own_isFinal) hisR ?_
  intro p e s m args below meth c s₁ Bd hml0 hP hK
  obtain ⟨rfl, hZ, hh⟩ := hP
  have hx := Bd.exec
  have hby := Bd.bytes
  have hml : c.maxLocals = 1 := hml0
  have hown : s.vm.findClass "ratify/TransactionState" = some m.cls := findClass_of_methodNamed Bd.named
  have hnm := (name_of_methodNamed Bd.named Bd.method).1
  have X0 : Stand p l e ({ frames := 0, cells := 0, slots := 0, locals := 0 } : Room) s m #[(.ref a1)] below meth c s₁ [] 0 0 := Stand.of_body Bd
  have e0 : s₁.heap = h0 := by rw [← hh, Bd.state]; rfl
  have N0 := Fr.nil n0
  have pre0 : Goes p e below s₁ (entryFrame m #[(.ref a1)] 1) s₁ (mkF m 0 #[.val (.ref a1)] []) := fun t k => castTop (own_ef_own_isFinal m a1) k
  have pre1 : Goes p e below s₁ (entryFrame m #[(.ref a1)] 1) s₁ (mkF m 1 #[.val (.ref a1)] [(.ref a1)]) := fun t kt => pre0 t (by
      show Steps p.tables e below (s₁.setTop (mkF m 0 #[.val (.ref a1)] [])) _
      refine XS.aloadN X0.here hx rfl (hb hby own_d3_0) rfl rfl ?_
      exact kt)
  obtain ⟨T2, X2, e2, st2⟩ := getS2 X0 hx hZ hown (host := "") (Or.inl (hw _ (List.mem_of_getElem? (i := 30) rfl))) Via.refl e0 S_COMMITTED (g := (mkF m 1 #[.val (.ref a1)] [(.ref a1)])) rfl (hb hby own_d3_1)
  have pre3 : Goes p e below s₁ (entryFrame m #[(.ref a1)] 1) T2 (mkF m 4 #[.val (.ref a1)] [(.ref aCOMMITTED), (.ref a1)]) := fun t kt => pre1 t (st2 t kt)
  by_cases ha4_4 : a1 = aCOMMITTED
  · -- acmp
    have pre5 : Goes p e below s₁ (entryFrame m #[(.ref a1)] 1) T2 (mkF m 26 #[.val (.ref a1)] [(.int (1 : Int32))]) := fun t kt => pre3 t (by
        show Steps p.tables e below (T2.setTop (mkF m 4 #[.val (.ref a1)] [(.ref aCOMMITTED), (.ref a1)])) _
        refine Jvm.RoadKit.acmp (g := (mkF m 4 #[.val (.ref a1)] [(.ref aCOMMITTED), (.ref a1)])) X2 hx rfl rfl rfl (pc0 := 4) (pc' := 21) (same := true) rfl (hb hby own_d3_4) rfl (decide_eq_true (congrArg Value.ref ha4_4)) (by decide) (by decide) ?_
        show Steps p.tables e below (T2.setTop (mkF m 21 #[.val (.ref a1)] [])) _
        refine XS.iconst X2.here hx rfl (hb hby own_d3_21) ?_
        show Steps p.tables e below (T2.setTop (mkF m 22 #[.val (.ref a1)] [(.int (1 : Int32))])) _
        refine XS.goto X2.here hx rfl (pc0 := 22) (pc' := 26) rfl (hb hby own_d3_22) (by decide) (by decide) ?_
        exact kt)
    obtain ⟨fs, hr, hrun, hended, hW, hsame⟩ := X2.leave (v := some (.int (1 : Int32))) (fun h => by rw [Bd.returns] at h; cases h)
    refine ⟨_, _, pre5 _ ?_, hrun, hended, _, _, rfl, ?_, ⟨_, rfl⟩, hW, hsame.mono (by decide) (by decide)⟩
    · show Steps p.tables e below (T2.setTop (mkF m 26 #[.val (.ref a1)] [(.int (1 : Int32))])) _
      exact retN X2 hx (t := .boolean) Bd.returns (by simp) (hb hby own_d3_26) hr
    · show Q_own_isFinal Z a1 aCOMMITTED aABORTED aDECIDED r h0 n0 _ T2.heap _
      rw [e2]
      exact ⟨by rw [hrr]; simp [ha4_4], N0, rfl⟩
  · -- acmp
    have pre6 : Goes p e below s₁ (entryFrame m #[(.ref a1)] 1) T2 (mkF m 8 #[.val (.ref a1)] [(.ref a1)]) := fun t kt => pre3 t (by
        show Steps p.tables e below (T2.setTop (mkF m 4 #[.val (.ref a1)] [(.ref aCOMMITTED), (.ref a1)])) _
        refine Jvm.RoadKit.acmp (g := (mkF m 4 #[.val (.ref a1)] [(.ref aCOMMITTED), (.ref a1)])) X2 hx rfl rfl rfl (pc0 := 4) (pc' := 7) (same := false) rfl (hb hby own_d3_4) rfl (decide_eq_false fun q => ha4_4 (Value.ref.inj q)) (by decide) (by decide) ?_
        show Steps p.tables e below (T2.setTop (mkF m 7 #[.val (.ref a1)] [])) _
        refine XS.aloadN X2.here hx rfl (hb hby own_d3_7) rfl rfl ?_
        exact kt)
    obtain ⟨T7, X7, e7, st7⟩ := getS2 X2 hx hZ hown (host := "") (Or.inl (hw _ (List.mem_of_getElem? (i := 31) rfl))) Via.refl e2 S_ABORTED (g := (mkF m 8 #[.val (.ref a1)] [(.ref a1)])) rfl (hb hby own_d3_8)
    have pre8 : Goes p e below s₁ (entryFrame m #[(.ref a1)] 1) T7 (mkF m 11 #[.val (.ref a1)] [(.ref aABORTED), (.ref a1)]) := fun t kt => pre6 t (st7 t kt)
    by_cases ha11_9 : a1 = aABORTED
    · -- acmp
      have pre10 : Goes p e below s₁ (entryFrame m #[(.ref a1)] 1) T7 (mkF m 26 #[.val (.ref a1)] [(.int (1 : Int32))]) := fun t kt => pre8 t (by
          show Steps p.tables e below (T7.setTop (mkF m 11 #[.val (.ref a1)] [(.ref aABORTED), (.ref a1)])) _
          refine Jvm.RoadKit.acmp (g := (mkF m 11 #[.val (.ref a1)] [(.ref aABORTED), (.ref a1)])) X7 hx rfl rfl rfl (pc0 := 11) (pc' := 21) (same := true) rfl (hb hby own_d3_11) rfl (decide_eq_true (congrArg Value.ref ha11_9)) (by decide) (by decide) ?_
          show Steps p.tables e below (T7.setTop (mkF m 21 #[.val (.ref a1)] [])) _
          refine XS.iconst X7.here hx rfl (hb hby own_d3_21) ?_
          show Steps p.tables e below (T7.setTop (mkF m 22 #[.val (.ref a1)] [(.int (1 : Int32))])) _
          refine XS.goto X7.here hx rfl (pc0 := 22) (pc' := 26) rfl (hb hby own_d3_22) (by decide) (by decide) ?_
          exact kt)
      obtain ⟨fs, hr, hrun, hended, hW, hsame⟩ := X7.leave (v := some (.int (1 : Int32))) (fun h => by rw [Bd.returns] at h; cases h)
      refine ⟨_, _, pre10 _ ?_, hrun, hended, _, _, rfl, ?_, ⟨_, rfl⟩, hW, hsame.mono (by decide) (by decide)⟩
      · show Steps p.tables e below (T7.setTop (mkF m 26 #[.val (.ref a1)] [(.int (1 : Int32))])) _
        exact retN X7 hx (t := .boolean) Bd.returns (by simp) (hb hby own_d3_26) hr
      · show Q_own_isFinal Z a1 aCOMMITTED aABORTED aDECIDED r h0 n0 _ T7.heap _
        rw [e7]
        exact ⟨by rw [hrr]; simp [ha4_4, ha11_9], N0, rfl⟩
    · -- acmp
      have pre11 : Goes p e below s₁ (entryFrame m #[(.ref a1)] 1) T7 (mkF m 15 #[.val (.ref a1)] [(.ref a1)]) := fun t kt => pre8 t (by
          show Steps p.tables e below (T7.setTop (mkF m 11 #[.val (.ref a1)] [(.ref aABORTED), (.ref a1)])) _
          refine Jvm.RoadKit.acmp (g := (mkF m 11 #[.val (.ref a1)] [(.ref aABORTED), (.ref a1)])) X7 hx rfl rfl rfl (pc0 := 11) (pc' := 14) (same := false) rfl (hb hby own_d3_11) rfl (decide_eq_false fun q => ha11_9 (Value.ref.inj q)) (by decide) (by decide) ?_
          show Steps p.tables e below (T7.setTop (mkF m 14 #[.val (.ref a1)] [])) _
          refine XS.aloadN X7.here hx rfl (hb hby own_d3_14) rfl rfl ?_
          exact kt)
      obtain ⟨T12, X12, e12, st12⟩ := getS2 X7 hx hZ hown (host := "") (Or.inl (hw _ (List.mem_of_getElem? (i := 16) rfl))) Via.refl e7 S_DECIDED (g := (mkF m 15 #[.val (.ref a1)] [(.ref a1)])) rfl (hb hby own_d3_15)
      have pre13 : Goes p e below s₁ (entryFrame m #[(.ref a1)] 1) T12 (mkF m 18 #[.val (.ref a1)] [(.ref aDECIDED), (.ref a1)]) := fun t kt => pre11 t (st12 t kt)
      by_cases ha18_14 : a1 = aDECIDED
      · -- acmp
        have pre15 : Goes p e below s₁ (entryFrame m #[(.ref a1)] 1) T12 (mkF m 26 #[.val (.ref a1)] [(.int (1 : Int32))]) := fun t kt => pre13 t (by
            show Steps p.tables e below (T12.setTop (mkF m 18 #[.val (.ref a1)] [(.ref aDECIDED), (.ref a1)])) _
            refine Jvm.RoadKit.acmp (g := (mkF m 18 #[.val (.ref a1)] [(.ref aDECIDED), (.ref a1)])) X12 hx rfl rfl rfl (pc0 := 18) (pc' := 21) (same := true) rfl (hb hby own_d3_18) rfl (decide_eq_true (congrArg Value.ref ha18_14)) (by decide) (by decide) ?_
            show Steps p.tables e below (T12.setTop (mkF m 21 #[.val (.ref a1)] [])) _
            refine XS.iconst X12.here hx rfl (hb hby own_d3_21) ?_
            show Steps p.tables e below (T12.setTop (mkF m 22 #[.val (.ref a1)] [(.int (1 : Int32))])) _
            refine XS.goto X12.here hx rfl (pc0 := 22) (pc' := 26) rfl (hb hby own_d3_22) (by decide) (by decide) ?_
            exact kt)
        obtain ⟨fs, hr, hrun, hended, hW, hsame⟩ := X12.leave (v := some (.int (1 : Int32))) (fun h => by rw [Bd.returns] at h; cases h)
        refine ⟨_, _, pre15 _ ?_, hrun, hended, _, _, rfl, ?_, ⟨_, rfl⟩, hW, hsame.mono (by decide) (by decide)⟩
        · show Steps p.tables e below (T12.setTop (mkF m 26 #[.val (.ref a1)] [(.int (1 : Int32))])) _
          exact retN X12 hx (t := .boolean) Bd.returns (by simp) (hb hby own_d3_26) hr
        · show Q_own_isFinal Z a1 aCOMMITTED aABORTED aDECIDED r h0 n0 _ T12.heap _
          rw [e12]
          exact ⟨by rw [hrr]; simp [ha4_4, ha11_9, ha18_14], N0, rfl⟩
      · -- acmp
        have pre16 : Goes p e below s₁ (entryFrame m #[(.ref a1)] 1) T12 (mkF m 26 #[.val (.ref a1)] [(.int (0 : Int32))]) := fun t kt => pre13 t (by
            show Steps p.tables e below (T12.setTop (mkF m 18 #[.val (.ref a1)] [(.ref aDECIDED), (.ref a1)])) _
            refine Jvm.RoadKit.acmp (g := (mkF m 18 #[.val (.ref a1)] [(.ref aDECIDED), (.ref a1)])) X12 hx rfl rfl rfl (pc0 := 18) (pc' := 25) (same := false) rfl (hb hby own_d3_18) rfl (decide_eq_false fun q => ha18_14 (Value.ref.inj q)) (by decide) (by decide) ?_
            show Steps p.tables e below (T12.setTop (mkF m 25 #[.val (.ref a1)] [])) _
            refine XS.iconst X12.here hx rfl (hb hby own_d3_25) ?_
            exact kt)
        obtain ⟨fs, hr, hrun, hended, hW, hsame⟩ := X12.leave (v := some (.int (0 : Int32))) (fun h => by rw [Bd.returns] at h; cases h)
        refine ⟨_, _, pre16 _ ?_, hrun, hended, _, _, rfl, ?_, ⟨_, rfl⟩, hW, hsame.mono (by decide) (by decide)⟩
        · show Steps p.tables e below (T12.setTop (mkF m 26 #[.val (.ref a1)] [(.int (0 : Int32))])) _
          exact retN X12 hx (t := .boolean) Bd.returns (by simp) (hb hby own_d3_26) hr
        · show Q_own_isFinal Z a1 aCOMMITTED aABORTED aDECIDED r h0 n0 _ T12.heap _
          rw [e12]
          exact ⟨by rw [hrr]; simp [ha4_4, ha11_9, ha18_14], N0, rfl⟩
theorem own_d2_0 : decode prog_136_method_7_code 0 = .ok (.aload_n 0, 1) := by decide +kernel
theorem own_d2_1 : decode prog_136_method_7_code 1 = .ok (.getstatic 16, 3) := by decide +kernel
theorem own_d2_4 : decode prog_136_method_7_code 4 = .ok (.if_acmp .eq 10, 3) := by decide +kernel
theorem own_d2_7 : decode prog_136_method_7_code 7 = .ok (.aload_n 0, 1) := by decide +kernel
theorem own_d2_8 : decode prog_136_method_7_code 8 = .ok (.getstatic 19, 3) := by decide +kernel
theorem own_d2_11 : decode prog_136_method_7_code 11 = .ok (.if_acmp .ne 7, 3) := by decide +kernel
theorem own_d2_14 : decode prog_136_method_7_code 14 = .ok (.iconst 1, 1) := by decide +kernel
theorem own_d2_15 : decode prog_136_method_7_code 15 = .ok (.goto 4, 3) := by decide +kernel
theorem own_d2_18 : decode prog_136_method_7_code 18 = .ok (.iconst 0, 1) := by decide +kernel
theorem own_d2_19 : decode prog_136_method_7_code 19 = .ok (.ireturn, 1) := by decide +kernel
theorem own_pn_own_byRule : plainName "ratify/TransactionState" = true := by first | (simp [plainName, overriddenIn]; done) | decide +kernel
theorem own_ef_own_byRule (m : MethodId) (x0 : Addr) : entryFrame m #[(.ref x0)] 1 = mkF m 0 #[.val (.ref x0)] [] := by first | (simp [entryFrame, mkF, argsToLocals, Value.category]; done) | rfl
def Q_own_byRule (Z : State) (a1 : Addr) (aPENDING : Addr) (aDECIDED : Addr) (r : Int32) (h0 : Heap) (n0 : Nat) (v : Option Value) (h : Heap) (L : List Loc) : Prop := v = some (.int r) ∧ Fr n0 L ∧ h = h0
set_option maxRecDepth 65536 in
set_option maxHeartbeats 40000000 in
theorem own_byRule (l : Launch) (Z : State) (a0 : Array Value) (hw : ∀ d ∈ tables_1, d.before a0 Z = true) (ws : List Jvm.Cond) (a1 : Addr) (aPENDING : Addr) (aDECIDED : Addr) (r : Int32) (h0 : Heap) (n0 : Nat) (Z0 : n0 ≤ h0.size) (S_PENDING : Sta Z h0 "ratify/TransactionState" "PENDING" "Lratify/TransactionState;" (.ref aPENDING)) (S_DECIDED : Sta Z h0 "ratify/TransactionState" "DECIDED" "Lratify/TransactionState;" (.ref aDECIDED)) (hrr : r = if (a1 = aPENDING ∨ a1 = aDECIDED) then 1 else 0) :
    MetFree l (⟨"ratify/TransactionState", "byRule", "()Z"⟩ : MethodName) (head1 (Jvm.Cond.code (⟨"ratify/TransactionState", "byRule", "()Z"⟩ : MethodName) prog_136_method_7_code 1 (some .boolean) :: ws) ({ frames := 0, cells := 0, slots := 0, locals := 0 } : Room)) (fun a U => a = #[(.ref a1)] ∧ Z.Warmed39 U.vm ∧ U.heap = h0) (fun _ _ _ _ _ => True) (fun _ U o U' => ∃ v L, o = .returned v ∧ Q_own_byRule Z a1 aPENDING aDECIDED r h0 n0 v U'.heap L ∧ FrameEnd U o U' L ({ frames := 0, cells := 0, slots := 0, locals := 0 } : Room).cells ({ frames := 0, cells := 0, slots := 0, locals := 0 } : Room).slots) := by
  refine MetFree.of_bodySF (plainFor_of_name own_pn_own_byRule) hisR ?_
  intro p e s m args below meth c s₁ Bd hml0 hP hK
  obtain ⟨rfl, hZ, hh⟩ := hP
  have hx := Bd.exec
  have hby := Bd.bytes
  have hml : c.maxLocals = 1 := hml0
  have hown : s.vm.findClass "ratify/TransactionState" = some m.cls := findClass_of_methodNamed Bd.named
  have hnm := (name_of_methodNamed Bd.named Bd.method).1
  have X0 : Stand p l e ({ frames := 0, cells := 0, slots := 0, locals := 0 } : Room) s m #[(.ref a1)] below meth c s₁ [] 0 0 := Stand.of_body Bd
  have e0 : s₁.heap = h0 := by rw [← hh, Bd.state]; rfl
  have N0 := Fr.nil n0
  have pre0 : Goes p e below s₁ (entryFrame m #[(.ref a1)] 1) s₁ (mkF m 0 #[.val (.ref a1)] []) := fun t k => castTop (own_ef_own_byRule m a1) k
  have pre1 : Goes p e below s₁ (entryFrame m #[(.ref a1)] 1) s₁ (mkF m 1 #[.val (.ref a1)] [(.ref a1)]) := fun t kt => pre0 t (by
      show Steps p.tables e below (s₁.setTop (mkF m 0 #[.val (.ref a1)] [])) _
      refine XS.aloadN X0.here hx rfl (hb hby own_d2_0) rfl rfl ?_
      exact kt)
  obtain ⟨T2, X2, e2, st2⟩ := getS2 X0 hx hZ hown (host := "") (Or.inl (hw _ (List.mem_of_getElem? (i := 14) rfl))) Via.refl e0 S_PENDING (g := (mkF m 1 #[.val (.ref a1)] [(.ref a1)])) rfl (hb hby own_d2_1)
  have pre3 : Goes p e below s₁ (entryFrame m #[(.ref a1)] 1) T2 (mkF m 4 #[.val (.ref a1)] [(.ref aPENDING), (.ref a1)]) := fun t kt => pre1 t (st2 t kt)
  by_cases ha4_4 : a1 = aPENDING
  · -- acmp
    have pre5 : Goes p e below s₁ (entryFrame m #[(.ref a1)] 1) T2 (mkF m 19 #[.val (.ref a1)] [(.int (1 : Int32))]) := fun t kt => pre3 t (by
        show Steps p.tables e below (T2.setTop (mkF m 4 #[.val (.ref a1)] [(.ref aPENDING), (.ref a1)])) _
        refine Jvm.RoadKit.acmp (g := (mkF m 4 #[.val (.ref a1)] [(.ref aPENDING), (.ref a1)])) X2 hx rfl rfl rfl (pc0 := 4) (pc' := 14) (same := true) rfl (hb hby own_d2_4) rfl (decide_eq_true (congrArg Value.ref ha4_4)) (by decide) (by decide) ?_
        show Steps p.tables e below (T2.setTop (mkF m 14 #[.val (.ref a1)] [])) _
        refine XS.iconst X2.here hx rfl (hb hby own_d2_14) ?_
        show Steps p.tables e below (T2.setTop (mkF m 15 #[.val (.ref a1)] [(.int (1 : Int32))])) _
        refine XS.goto X2.here hx rfl (pc0 := 15) (pc' := 19) rfl (hb hby own_d2_15) (by decide) (by decide) ?_
        exact kt)
    obtain ⟨fs, hr, hrun, hended, hW, hsame⟩ := X2.leave (v := some (.int (1 : Int32))) (fun h => by rw [Bd.returns] at h; cases h)
    refine ⟨_, _, pre5 _ ?_, hrun, hended, _, _, rfl, ?_, ⟨_, rfl⟩, hW, hsame.mono (by decide) (by decide)⟩
    · show Steps p.tables e below (T2.setTop (mkF m 19 #[.val (.ref a1)] [(.int (1 : Int32))])) _
      exact retN X2 hx (t := .boolean) Bd.returns (by simp) (hb hby own_d2_19) hr
    · show Q_own_byRule Z a1 aPENDING aDECIDED r h0 n0 _ T2.heap _
      rw [e2]
      exact ⟨by rw [hrr]; simp [ha4_4], N0, rfl⟩
  · -- acmp
    have pre6 : Goes p e below s₁ (entryFrame m #[(.ref a1)] 1) T2 (mkF m 8 #[.val (.ref a1)] [(.ref a1)]) := fun t kt => pre3 t (by
        show Steps p.tables e below (T2.setTop (mkF m 4 #[.val (.ref a1)] [(.ref aPENDING), (.ref a1)])) _
        refine Jvm.RoadKit.acmp (g := (mkF m 4 #[.val (.ref a1)] [(.ref aPENDING), (.ref a1)])) X2 hx rfl rfl rfl (pc0 := 4) (pc' := 7) (same := false) rfl (hb hby own_d2_4) rfl (decide_eq_false fun q => ha4_4 (Value.ref.inj q)) (by decide) (by decide) ?_
        show Steps p.tables e below (T2.setTop (mkF m 7 #[.val (.ref a1)] [])) _
        refine XS.aloadN X2.here hx rfl (hb hby own_d2_7) rfl rfl ?_
        exact kt)
    obtain ⟨T7, X7, e7, st7⟩ := getS2 X2 hx hZ hown (host := "") (Or.inl (hw _ (List.mem_of_getElem? (i := 16) rfl))) Via.refl e2 S_DECIDED (g := (mkF m 8 #[.val (.ref a1)] [(.ref a1)])) rfl (hb hby own_d2_8)
    have pre8 : Goes p e below s₁ (entryFrame m #[(.ref a1)] 1) T7 (mkF m 11 #[.val (.ref a1)] [(.ref aDECIDED), (.ref a1)]) := fun t kt => pre6 t (st7 t kt)
    by_cases ha11_9 : a1 = aDECIDED
    · -- acmp
      have pre10 : Goes p e below s₁ (entryFrame m #[(.ref a1)] 1) T7 (mkF m 19 #[.val (.ref a1)] [(.int (1 : Int32))]) := fun t kt => pre8 t (by
          show Steps p.tables e below (T7.setTop (mkF m 11 #[.val (.ref a1)] [(.ref aDECIDED), (.ref a1)])) _
          refine Jvm.RoadKit.acmp (g := (mkF m 11 #[.val (.ref a1)] [(.ref aDECIDED), (.ref a1)])) X7 hx rfl rfl rfl (pc0 := 11) (pc' := 14) (same := true) rfl (hb hby own_d2_11) rfl (decide_eq_true (congrArg Value.ref ha11_9)) (by decide) (by decide) ?_
          show Steps p.tables e below (T7.setTop (mkF m 14 #[.val (.ref a1)] [])) _
          refine XS.iconst X7.here hx rfl (hb hby own_d2_14) ?_
          show Steps p.tables e below (T7.setTop (mkF m 15 #[.val (.ref a1)] [(.int (1 : Int32))])) _
          refine XS.goto X7.here hx rfl (pc0 := 15) (pc' := 19) rfl (hb hby own_d2_15) (by decide) (by decide) ?_
          exact kt)
      obtain ⟨fs, hr, hrun, hended, hW, hsame⟩ := X7.leave (v := some (.int (1 : Int32))) (fun h => by rw [Bd.returns] at h; cases h)
      refine ⟨_, _, pre10 _ ?_, hrun, hended, _, _, rfl, ?_, ⟨_, rfl⟩, hW, hsame.mono (by decide) (by decide)⟩
      · show Steps p.tables e below (T7.setTop (mkF m 19 #[.val (.ref a1)] [(.int (1 : Int32))])) _
        exact retN X7 hx (t := .boolean) Bd.returns (by simp) (hb hby own_d2_19) hr
      · show Q_own_byRule Z a1 aPENDING aDECIDED r h0 n0 _ T7.heap _
        rw [e7]
        exact ⟨by rw [hrr]; simp [ha4_4, ha11_9], N0, rfl⟩
    · -- acmp
      have pre11 : Goes p e below s₁ (entryFrame m #[(.ref a1)] 1) T7 (mkF m 19 #[.val (.ref a1)] [(.int (0 : Int32))]) := fun t kt => pre8 t (by
          show Steps p.tables e below (T7.setTop (mkF m 11 #[.val (.ref a1)] [(.ref aDECIDED), (.ref a1)])) _
          refine Jvm.RoadKit.acmp (g := (mkF m 11 #[.val (.ref a1)] [(.ref aDECIDED), (.ref a1)])) X7 hx rfl rfl rfl (pc0 := 11) (pc' := 18) (same := false) rfl (hb hby own_d2_11) rfl (decide_eq_false fun q => ha11_9 (Value.ref.inj q)) (by decide) (by decide) ?_
          show Steps p.tables e below (T7.setTop (mkF m 18 #[.val (.ref a1)] [])) _
          refine XS.iconst X7.here hx rfl (hb hby own_d2_18) ?_
          exact kt)
      obtain ⟨fs, hr, hrun, hended, hW, hsame⟩ := X7.leave (v := some (.int (0 : Int32))) (fun h => by rw [Bd.returns] at h; cases h)
      refine ⟨_, _, pre11 _ ?_, hrun, hended, _, _, rfl, ?_, ⟨_, rfl⟩, hW, hsame.mono (by decide) (by decide)⟩
      · show Steps p.tables e below (T7.setTop (mkF m 19 #[.val (.ref a1)] [(.int (0 : Int32))])) _
        exact retN X7 hx (t := .boolean) Bd.returns (by simp) (hb hby own_d2_19) hr
      · show Q_own_byRule Z a1 aPENDING aDECIDED r h0 n0 _ T7.heap _
        rw [e7]
        exact ⟨by rw [hrr]; simp [ha4_4, ha11_9], N0, rfl⟩
theorem own_d4_0 : decode prog_136_method_8_code 0 = .ok (.aload_n 0, 1) := by decide +kernel
theorem own_d4_1 : decode prog_136_method_8_code 1 = .ok (.getstatic 7, 3) := by decide +kernel
theorem own_d4_4 : decode prog_136_method_8_code 4 = .ok (.if_acmp .eq 10, 3) := by decide +kernel
theorem own_d4_7 : decode prog_136_method_8_code 7 = .ok (.aload_n 0, 1) := by decide +kernel
theorem own_d4_8 : decode prog_136_method_8_code 8 = .ok (.getstatic 16, 3) := by decide +kernel
theorem own_d4_11 : decode prog_136_method_8_code 11 = .ok (.if_acmp .ne 7, 3) := by decide +kernel
theorem own_d4_14 : decode prog_136_method_8_code 14 = .ok (.iconst 1, 1) := by decide +kernel
theorem own_d4_15 : decode prog_136_method_8_code 15 = .ok (.goto 4, 3) := by decide +kernel
theorem own_d4_18 : decode prog_136_method_8_code 18 = .ok (.iconst 0, 1) := by decide +kernel
theorem own_d4_19 : decode prog_136_method_8_code 19 = .ok (.ireturn, 1) := by decide +kernel
theorem own_pn_own_inDoubt : plainName "ratify/TransactionState" = true := by first | (simp [plainName, overriddenIn]; done) | decide +kernel
theorem own_ef_own_inDoubt (m : MethodId) (x0 : Addr) : entryFrame m #[(.ref x0)] 1 = mkF m 0 #[.val (.ref x0)] [] := by first | (simp [entryFrame, mkF, argsToLocals, Value.category]; done) | rfl
def Q_own_inDoubt (Z : State) (a1 : Addr) (aPREPARED : Addr) (aPENDING : Addr) (r : Int32) (h0 : Heap) (n0 : Nat) (v : Option Value) (h : Heap) (L : List Loc) : Prop := v = some (.int r) ∧ Fr n0 L ∧ h = h0
set_option maxRecDepth 65536 in
set_option maxHeartbeats 40000000 in
theorem own_inDoubt (l : Launch) (Z : State) (a0 : Array Value) (hw : ∀ d ∈ tables_1, d.before a0 Z = true) (ws : List Jvm.Cond) (a1 : Addr) (aPREPARED : Addr) (aPENDING : Addr) (r : Int32) (h0 : Heap) (n0 : Nat) (Z0 : n0 ≤ h0.size) (S_PREPARED : Sta Z h0 "ratify/TransactionState" "PREPARED" "Lratify/TransactionState;" (.ref aPREPARED)) (S_PENDING : Sta Z h0 "ratify/TransactionState" "PENDING" "Lratify/TransactionState;" (.ref aPENDING)) (hrr : r = if (a1 = aPREPARED ∨ a1 = aPENDING) then 1 else 0) :
    MetFree l (⟨"ratify/TransactionState", "inDoubt", "()Z"⟩ : MethodName) (head1 (Jvm.Cond.code (⟨"ratify/TransactionState", "inDoubt", "()Z"⟩ : MethodName) prog_136_method_8_code 1 (some .boolean) :: ws) ({ frames := 0, cells := 0, slots := 0, locals := 0 } : Room)) (fun a U => a = #[(.ref a1)] ∧ Z.Warmed39 U.vm ∧ U.heap = h0) (fun _ _ _ _ _ => True) (fun _ U o U' => ∃ v L, o = .returned v ∧ Q_own_inDoubt Z a1 aPREPARED aPENDING r h0 n0 v U'.heap L ∧ FrameEnd U o U' L ({ frames := 0, cells := 0, slots := 0, locals := 0 } : Room).cells ({ frames := 0, cells := 0, slots := 0, locals := 0 } : Room).slots) := by
  refine MetFree.of_bodySF (plainFor_of_name own_pn_own_inDoubt) hisR ?_
  intro p e s m args below meth c s₁ Bd hml0 hP hK
  obtain ⟨rfl, hZ, hh⟩ := hP
  have hx := Bd.exec
  have hby := Bd.bytes
  have hml : c.maxLocals = 1 := hml0
  have hown : s.vm.findClass "ratify/TransactionState" = some m.cls := findClass_of_methodNamed Bd.named
  have hnm := (name_of_methodNamed Bd.named Bd.method).1
  have X0 : Stand p l e ({ frames := 0, cells := 0, slots := 0, locals := 0 } : Room) s m #[(.ref a1)] below meth c s₁ [] 0 0 := Stand.of_body Bd
  have e0 : s₁.heap = h0 := by rw [← hh, Bd.state]; rfl
  have N0 := Fr.nil n0
  have pre0 : Goes p e below s₁ (entryFrame m #[(.ref a1)] 1) s₁ (mkF m 0 #[.val (.ref a1)] []) := fun t k => castTop (own_ef_own_inDoubt m a1) k
  have pre1 : Goes p e below s₁ (entryFrame m #[(.ref a1)] 1) s₁ (mkF m 1 #[.val (.ref a1)] [(.ref a1)]) := fun t kt => pre0 t (by
      show Steps p.tables e below (s₁.setTop (mkF m 0 #[.val (.ref a1)] [])) _
      refine XS.aloadN X0.here hx rfl (hb hby own_d4_0) rfl rfl ?_
      exact kt)
  obtain ⟨T2, X2, e2, st2⟩ := getS2 X0 hx hZ hown (host := "") (Or.inl (hw _ (List.mem_of_getElem? (i := 37) rfl))) Via.refl e0 S_PREPARED (g := (mkF m 1 #[.val (.ref a1)] [(.ref a1)])) rfl (hb hby own_d4_1)
  have pre3 : Goes p e below s₁ (entryFrame m #[(.ref a1)] 1) T2 (mkF m 4 #[.val (.ref a1)] [(.ref aPREPARED), (.ref a1)]) := fun t kt => pre1 t (st2 t kt)
  by_cases ha4_4 : a1 = aPREPARED
  · -- acmp
    have pre5 : Goes p e below s₁ (entryFrame m #[(.ref a1)] 1) T2 (mkF m 19 #[.val (.ref a1)] [(.int (1 : Int32))]) := fun t kt => pre3 t (by
        show Steps p.tables e below (T2.setTop (mkF m 4 #[.val (.ref a1)] [(.ref aPREPARED), (.ref a1)])) _
        refine Jvm.RoadKit.acmp (g := (mkF m 4 #[.val (.ref a1)] [(.ref aPREPARED), (.ref a1)])) X2 hx rfl rfl rfl (pc0 := 4) (pc' := 14) (same := true) rfl (hb hby own_d4_4) rfl (decide_eq_true (congrArg Value.ref ha4_4)) (by decide) (by decide) ?_
        show Steps p.tables e below (T2.setTop (mkF m 14 #[.val (.ref a1)] [])) _
        refine XS.iconst X2.here hx rfl (hb hby own_d4_14) ?_
        show Steps p.tables e below (T2.setTop (mkF m 15 #[.val (.ref a1)] [(.int (1 : Int32))])) _
        refine XS.goto X2.here hx rfl (pc0 := 15) (pc' := 19) rfl (hb hby own_d4_15) (by decide) (by decide) ?_
        exact kt)
    obtain ⟨fs, hr, hrun, hended, hW, hsame⟩ := X2.leave (v := some (.int (1 : Int32))) (fun h => by rw [Bd.returns] at h; cases h)
    refine ⟨_, _, pre5 _ ?_, hrun, hended, _, _, rfl, ?_, ⟨_, rfl⟩, hW, hsame.mono (by decide) (by decide)⟩
    · show Steps p.tables e below (T2.setTop (mkF m 19 #[.val (.ref a1)] [(.int (1 : Int32))])) _
      exact retN X2 hx (t := .boolean) Bd.returns (by simp) (hb hby own_d4_19) hr
    · show Q_own_inDoubt Z a1 aPREPARED aPENDING r h0 n0 _ T2.heap _
      rw [e2]
      exact ⟨by rw [hrr]; simp [ha4_4], N0, rfl⟩
  · -- acmp
    have pre6 : Goes p e below s₁ (entryFrame m #[(.ref a1)] 1) T2 (mkF m 8 #[.val (.ref a1)] [(.ref a1)]) := fun t kt => pre3 t (by
        show Steps p.tables e below (T2.setTop (mkF m 4 #[.val (.ref a1)] [(.ref aPREPARED), (.ref a1)])) _
        refine Jvm.RoadKit.acmp (g := (mkF m 4 #[.val (.ref a1)] [(.ref aPREPARED), (.ref a1)])) X2 hx rfl rfl rfl (pc0 := 4) (pc' := 7) (same := false) rfl (hb hby own_d4_4) rfl (decide_eq_false fun q => ha4_4 (Value.ref.inj q)) (by decide) (by decide) ?_
        show Steps p.tables e below (T2.setTop (mkF m 7 #[.val (.ref a1)] [])) _
        refine XS.aloadN X2.here hx rfl (hb hby own_d4_7) rfl rfl ?_
        exact kt)
    obtain ⟨T7, X7, e7, st7⟩ := getS2 X2 hx hZ hown (host := "") (Or.inl (hw _ (List.mem_of_getElem? (i := 14) rfl))) Via.refl e2 S_PENDING (g := (mkF m 8 #[.val (.ref a1)] [(.ref a1)])) rfl (hb hby own_d4_8)
    have pre8 : Goes p e below s₁ (entryFrame m #[(.ref a1)] 1) T7 (mkF m 11 #[.val (.ref a1)] [(.ref aPENDING), (.ref a1)]) := fun t kt => pre6 t (st7 t kt)
    by_cases ha11_9 : a1 = aPENDING
    · -- acmp
      have pre10 : Goes p e below s₁ (entryFrame m #[(.ref a1)] 1) T7 (mkF m 19 #[.val (.ref a1)] [(.int (1 : Int32))]) := fun t kt => pre8 t (by
          show Steps p.tables e below (T7.setTop (mkF m 11 #[.val (.ref a1)] [(.ref aPENDING), (.ref a1)])) _
          refine Jvm.RoadKit.acmp (g := (mkF m 11 #[.val (.ref a1)] [(.ref aPENDING), (.ref a1)])) X7 hx rfl rfl rfl (pc0 := 11) (pc' := 14) (same := true) rfl (hb hby own_d4_11) rfl (decide_eq_true (congrArg Value.ref ha11_9)) (by decide) (by decide) ?_
          show Steps p.tables e below (T7.setTop (mkF m 14 #[.val (.ref a1)] [])) _
          refine XS.iconst X7.here hx rfl (hb hby own_d4_14) ?_
          show Steps p.tables e below (T7.setTop (mkF m 15 #[.val (.ref a1)] [(.int (1 : Int32))])) _
          refine XS.goto X7.here hx rfl (pc0 := 15) (pc' := 19) rfl (hb hby own_d4_15) (by decide) (by decide) ?_
          exact kt)
      obtain ⟨fs, hr, hrun, hended, hW, hsame⟩ := X7.leave (v := some (.int (1 : Int32))) (fun h => by rw [Bd.returns] at h; cases h)
      refine ⟨_, _, pre10 _ ?_, hrun, hended, _, _, rfl, ?_, ⟨_, rfl⟩, hW, hsame.mono (by decide) (by decide)⟩
      · show Steps p.tables e below (T7.setTop (mkF m 19 #[.val (.ref a1)] [(.int (1 : Int32))])) _
        exact retN X7 hx (t := .boolean) Bd.returns (by simp) (hb hby own_d4_19) hr
      · show Q_own_inDoubt Z a1 aPREPARED aPENDING r h0 n0 _ T7.heap _
        rw [e7]
        exact ⟨by rw [hrr]; simp [ha4_4, ha11_9], N0, rfl⟩
    · -- acmp
      have pre11 : Goes p e below s₁ (entryFrame m #[(.ref a1)] 1) T7 (mkF m 19 #[.val (.ref a1)] [(.int (0 : Int32))]) := fun t kt => pre8 t (by
          show Steps p.tables e below (T7.setTop (mkF m 11 #[.val (.ref a1)] [(.ref aPENDING), (.ref a1)])) _
          refine Jvm.RoadKit.acmp (g := (mkF m 11 #[.val (.ref a1)] [(.ref aPENDING), (.ref a1)])) X7 hx rfl rfl rfl (pc0 := 11) (pc' := 18) (same := false) rfl (hb hby own_d4_11) rfl (decide_eq_false fun q => ha11_9 (Value.ref.inj q)) (by decide) (by decide) ?_
          show Steps p.tables e below (T7.setTop (mkF m 18 #[.val (.ref a1)] [])) _
          refine XS.iconst X7.here hx rfl (hb hby own_d4_18) ?_
          exact kt)
      obtain ⟨fs, hr, hrun, hended, hW, hsame⟩ := X7.leave (v := some (.int (0 : Int32))) (fun h => by rw [Bd.returns] at h; cases h)
      refine ⟨_, _, pre11 _ ?_, hrun, hended, _, _, rfl, ?_, ⟨_, rfl⟩, hW, hsame.mono (by decide) (by decide)⟩
      · show Steps p.tables e below (T7.setTop (mkF m 19 #[.val (.ref a1)] [(.int (0 : Int32))])) _
        exact retN X7 hx (t := .boolean) Bd.returns (by simp) (hb hby own_d4_19) hr
      · show Q_own_inDoubt Z a1 aPREPARED aPENDING r h0 n0 _ T7.heap _
        rw [e7]
        exact ⟨by rw [hrr]; simp [ha4_4, ha11_9], N0, rfl⟩
theorem own_dp0_0 : decode method_2_code 0 = .ok (.iload_n 0, 1) := by decide +kernel
theorem own_dp0_1 : decode method_2_code 1 = .ok (.ifCond .ne 7, 3) := by decide +kernel
theorem own_dp0_4 : decode method_2_code 4 = .ok (.getstatic 7, 3) := by decide +kernel
theorem own_dp0_7 : decode method_2_code 7 = .ok (.areturn, 1) := by decide +kernel
theorem own_pn_own_pick0 : plainName "ratify/TransactionStateByRulePinLaw" = true := by first | (simp [plainName, overriddenIn]; done) | decide +kernel
theorem own_ef_own_pick0 (m : MethodId) (x0 : Int32) : entryFrame m #[(.int x0)] 1 = mkF m 0 #[.val (.int x0)] [] := by first | (simp [entryFrame, mkF, argsToLocals, Value.category]; done) | rfl
def Q_own_pick0 (Z : State) (aUNKNOWN : Addr) (h0 : Heap) (n0 : Nat) (v : Option Value) (h : Heap) (L : List Loc) : Prop := v = some (.ref aUNKNOWN) ∧ Fr n0 L ∧ h = h0
set_option maxRecDepth 65536 in
set_option maxHeartbeats 40000000 in
theorem own_pick0 (l : Launch) (Z : State) (a0 : Array Value) (hw : ∀ d ∈ tables_1, d.before a0 Z = true) (ws : List Jvm.Cond) (aUNKNOWN : Addr) (h0 : Heap) (n0 : Nat) (Z0 : n0 ≤ h0.size) (S_UNKNOWN : Sta Z h0 "ratify/TransactionState" "UNKNOWN" "Lratify/TransactionState;" (.ref aUNKNOWN)) :
    MetFree l (⟨"ratify/TransactionStateByRulePinLaw", "pick", "(I)Lratify/TransactionState;"⟩ : MethodName) (head1 (Jvm.Cond.code (⟨"ratify/TransactionStateByRulePinLaw", "pick", "(I)Lratify/TransactionState;"⟩ : MethodName) method_2_code 1 (some (.object "ratify/TransactionState")) :: ws) ({ frames := 0, cells := 0, slots := 0, locals := 0 } : Room)) (fun a U => a = #[(.int (0 : Int32))] ∧ Z.Warmed39 U.vm ∧ U.heap = h0) (fun _ _ _ _ _ => True) (fun _ U o U' => ∃ v L, o = .returned v ∧ Q_own_pick0 Z aUNKNOWN h0 n0 v U'.heap L ∧ FrameEnd U o U' L ({ frames := 0, cells := 0, slots := 0, locals := 0 } : Room).cells ({ frames := 0, cells := 0, slots := 0, locals := 0 } : Room).slots) := by
  refine MetFree.of_bodySF (plainFor_of_name own_pn_own_pick0) hisR ?_
  intro p e s m args below meth c s₁ Bd hml0 hP hK
  obtain ⟨rfl, hZ, hh⟩ := hP
  have hx := Bd.exec
  have hby := Bd.bytes
  have hml : c.maxLocals = 1 := hml0
  have hown : s.vm.findClass "ratify/TransactionStateByRulePinLaw" = some m.cls := findClass_of_methodNamed Bd.named
  have hnm := (name_of_methodNamed Bd.named Bd.method).1
  have X0 : Stand p l e ({ frames := 0, cells := 0, slots := 0, locals := 0 } : Room) s m #[(.int (0 : Int32))] below meth c s₁ [] 0 0 := Stand.of_body Bd
  have e0 : s₁.heap = h0 := by rw [← hh, Bd.state]; rfl
  have N0 := Fr.nil n0
  have pre0 : Goes p e below s₁ (entryFrame m #[(.int (0 : Int32))] 1) s₁ (mkF m 0 #[.val (.int (0 : Int32))] []) := fun t k => castTop (own_ef_own_pick0 m (0 : Int32)) k
  have pre1 : Goes p e below s₁ (entryFrame m #[(.int (0 : Int32))] 1) s₁ (mkF m 4 #[.val (.int (0 : Int32))] []) := fun t kt => pre0 t (by
      show Steps p.tables e below (s₁.setTop (mkF m 0 #[.val (.int (0 : Int32))] [])) _
      refine XS.iloadN X0.here hx rfl (hb hby own_dp0_0) rfl ?_
      show Steps p.tables e below (s₁.setTop (mkF m 1 #[.val (.int (0 : Int32))] [(.int (0 : Int32))])) _
      refine XS.ifNo X0.here hx rfl (hb hby own_dp0_1) rfl ((if0 _ _).trans (teq (by decide : (0 : Int32) = (0 : Int32))).2) ?_
      exact kt)
  obtain ⟨T2, X2, e2, st2⟩ := getS2 X0 hx hZ hown (host := "") (Or.inl (hw _ (List.mem_of_getElem? (i := 6) rfl))) Via.refl e0 S_UNKNOWN (g := (mkF m 4 #[.val (.int (0 : Int32))] [])) rfl (hb hby own_dp0_4)
  have pre3 : Goes p e below s₁ (entryFrame m #[(.int (0 : Int32))] 1) T2 (mkF m 7 #[.val (.int (0 : Int32))] [(.ref aUNKNOWN)]) := fun t kt => pre1 t (st2 t kt)
  obtain ⟨fs, hr, hrun, hended, hW, hsame⟩ := X2.leave (v := some (.ref aUNKNOWN)) (fun h => by rw [Bd.returns] at h; cases h)
  refine ⟨_, _, pre3 _ ?_, hrun, hended, _, _, rfl, ?_, ⟨_, rfl⟩, hW, hsame.mono (by decide) (by decide)⟩
  · show Steps p.tables e below (T2.setTop (mkF m 7 #[.val (.int (0 : Int32))] [(.ref aUNKNOWN)])) _
    jvm_step X2.here [X2.here.top, hx, (hb hby own_dp0_7), X2.method', Bd.returns, Value.isRef, FieldType.isReference]
    first | (intro acts; rw [hr _ acts rfl rfl rfl]) | rw [hr _ _ rfl rfl rfl]
    exact Steps.refl _
  · show Q_own_pick0 Z aUNKNOWN h0 n0 _ T2.heap _
    rw [e2]
    exact ⟨rfl, N0, rfl⟩
theorem own_dp1_0 : decode method_2_code 0 = .ok (.iload_n 0, 1) := by decide +kernel
theorem own_dp1_1 : decode method_2_code 1 = .ok (.ifCond .ne 7, 3) := by decide +kernel
theorem own_dp1_8 : decode method_2_code 8 = .ok (.iload_n 0, 1) := by decide +kernel
theorem own_dp1_9 : decode method_2_code 9 = .ok (.iconst 1, 1) := by decide +kernel
theorem own_dp1_10 : decode method_2_code 10 = .ok (.if_icmp .ne 7, 3) := by decide +kernel
theorem own_dp1_13 : decode method_2_code 13 = .ok (.getstatic 13, 3) := by decide +kernel
theorem own_dp1_16 : decode method_2_code 16 = .ok (.areturn, 1) := by decide +kernel
theorem own_pn_own_pick1 : plainName "ratify/TransactionStateByRulePinLaw" = true := by first | (simp [plainName, overriddenIn]; done) | decide +kernel
theorem own_ef_own_pick1 (m : MethodId) (x0 : Int32) : entryFrame m #[(.int x0)] 1 = mkF m 0 #[.val (.int x0)] [] := by first | (simp [entryFrame, mkF, argsToLocals, Value.category]; done) | rfl
def Q_own_pick1 (Z : State) (aPREPARED : Addr) (h0 : Heap) (n0 : Nat) (v : Option Value) (h : Heap) (L : List Loc) : Prop := v = some (.ref aPREPARED) ∧ Fr n0 L ∧ h = h0
set_option maxRecDepth 65536 in
set_option maxHeartbeats 40000000 in
theorem own_pick1 (l : Launch) (Z : State) (a0 : Array Value) (hw : ∀ d ∈ tables_1, d.before a0 Z = true) (ws : List Jvm.Cond) (aPREPARED : Addr) (h0 : Heap) (n0 : Nat) (Z0 : n0 ≤ h0.size) (S_PREPARED : Sta Z h0 "ratify/TransactionState" "PREPARED" "Lratify/TransactionState;" (.ref aPREPARED)) :
    MetFree l (⟨"ratify/TransactionStateByRulePinLaw", "pick", "(I)Lratify/TransactionState;"⟩ : MethodName) (head1 (Jvm.Cond.code (⟨"ratify/TransactionStateByRulePinLaw", "pick", "(I)Lratify/TransactionState;"⟩ : MethodName) method_2_code 1 (some (.object "ratify/TransactionState")) :: ws) ({ frames := 0, cells := 0, slots := 0, locals := 0 } : Room)) (fun a U => a = #[(.int (1 : Int32))] ∧ Z.Warmed39 U.vm ∧ U.heap = h0) (fun _ _ _ _ _ => True) (fun _ U o U' => ∃ v L, o = .returned v ∧ Q_own_pick1 Z aPREPARED h0 n0 v U'.heap L ∧ FrameEnd U o U' L ({ frames := 0, cells := 0, slots := 0, locals := 0 } : Room).cells ({ frames := 0, cells := 0, slots := 0, locals := 0 } : Room).slots) := by
  refine MetFree.of_bodySF (plainFor_of_name own_pn_own_pick1) hisR ?_
  intro p e s m args below meth c s₁ Bd hml0 hP hK
  obtain ⟨rfl, hZ, hh⟩ := hP
  have hx := Bd.exec
  have hby := Bd.bytes
  have hml : c.maxLocals = 1 := hml0
  have hown : s.vm.findClass "ratify/TransactionStateByRulePinLaw" = some m.cls := findClass_of_methodNamed Bd.named
  have hnm := (name_of_methodNamed Bd.named Bd.method).1
  have X0 : Stand p l e ({ frames := 0, cells := 0, slots := 0, locals := 0 } : Room) s m #[(.int (1 : Int32))] below meth c s₁ [] 0 0 := Stand.of_body Bd
  have e0 : s₁.heap = h0 := by rw [← hh, Bd.state]; rfl
  have N0 := Fr.nil n0
  have pre0 : Goes p e below s₁ (entryFrame m #[(.int (1 : Int32))] 1) s₁ (mkF m 0 #[.val (.int (1 : Int32))] []) := fun t k => castTop (own_ef_own_pick1 m (1 : Int32)) k
  have pre1 : Goes p e below s₁ (entryFrame m #[(.int (1 : Int32))] 1) s₁ (mkF m 13 #[.val (.int (1 : Int32))] []) := fun t kt => pre0 t (by
      show Steps p.tables e below (s₁.setTop (mkF m 0 #[.val (.int (1 : Int32))] [])) _
      refine XS.iloadN X0.here hx rfl (hb hby own_dp1_0) rfl ?_
      show Steps p.tables e below (s₁.setTop (mkF m 1 #[.val (.int (1 : Int32))] [(.int (1 : Int32))])) _
      refine XS.ifYes X0.here hx rfl (pc0 := 1) (pc' := 8) rfl (hb hby own_dp1_1) rfl ((if0 _ _).trans (feq (by decide : ¬ ((1 : Int32) = (0 : Int32)))).2) (by decide) (by decide) ?_
      show Steps p.tables e below (s₁.setTop (mkF m 8 #[.val (.int (1 : Int32))] [])) _
      refine XS.iloadN X0.here hx rfl (hb hby own_dp1_8) rfl ?_
      show Steps p.tables e below (s₁.setTop (mkF m 9 #[.val (.int (1 : Int32))] [(.int (1 : Int32))])) _
      refine XS.iconst X0.here hx rfl (hb hby own_dp1_9) ?_
      show Steps p.tables e below (s₁.setTop (mkF m 10 #[.val (.int (1 : Int32))] [(.int (1 : Int32)), (.int (1 : Int32))])) _
      refine XS.icmpNo X0.here hx rfl (hb hby own_dp1_10) rfl (teq (by decide : (1 : Int32) = (1 : Int32))).2 ?_
      exact kt)
  obtain ⟨T2, X2, e2, st2⟩ := getS2 X0 hx hZ hown (host := "") (Or.inl (hw _ (List.mem_of_getElem? (i := 22) rfl))) Via.refl e0 S_PREPARED (g := (mkF m 13 #[.val (.int (1 : Int32))] [])) rfl (hb hby own_dp1_13)
  have pre3 : Goes p e below s₁ (entryFrame m #[(.int (1 : Int32))] 1) T2 (mkF m 16 #[.val (.int (1 : Int32))] [(.ref aPREPARED)]) := fun t kt => pre1 t (st2 t kt)
  obtain ⟨fs, hr, hrun, hended, hW, hsame⟩ := X2.leave (v := some (.ref aPREPARED)) (fun h => by rw [Bd.returns] at h; cases h)
  refine ⟨_, _, pre3 _ ?_, hrun, hended, _, _, rfl, ?_, ⟨_, rfl⟩, hW, hsame.mono (by decide) (by decide)⟩
  · show Steps p.tables e below (T2.setTop (mkF m 16 #[.val (.int (1 : Int32))] [(.ref aPREPARED)])) _
    jvm_step X2.here [X2.here.top, hx, (hb hby own_dp1_16), X2.method', Bd.returns, Value.isRef, FieldType.isReference]
    first | (intro acts; rw [hr _ acts rfl rfl rfl]) | rw [hr _ _ rfl rfl rfl]
    exact Steps.refl _
  · show Q_own_pick1 Z aPREPARED h0 n0 _ T2.heap _
    rw [e2]
    exact ⟨rfl, N0, rfl⟩
theorem own_dp2_0 : decode method_2_code 0 = .ok (.iload_n 0, 1) := by decide +kernel
theorem own_dp2_1 : decode method_2_code 1 = .ok (.ifCond .ne 7, 3) := by decide +kernel
theorem own_dp2_8 : decode method_2_code 8 = .ok (.iload_n 0, 1) := by decide +kernel
theorem own_dp2_9 : decode method_2_code 9 = .ok (.iconst 1, 1) := by decide +kernel
theorem own_dp2_10 : decode method_2_code 10 = .ok (.if_icmp .ne 7, 3) := by decide +kernel
theorem own_dp2_17 : decode method_2_code 17 = .ok (.iload_n 0, 1) := by decide +kernel
theorem own_dp2_18 : decode method_2_code 18 = .ok (.iconst 2, 1) := by decide +kernel
theorem own_dp2_19 : decode method_2_code 19 = .ok (.if_icmp .ne 7, 3) := by decide +kernel
theorem own_dp2_22 : decode method_2_code 22 = .ok (.getstatic 16, 3) := by decide +kernel
theorem own_dp2_25 : decode method_2_code 25 = .ok (.areturn, 1) := by decide +kernel
theorem own_pn_own_pick2 : plainName "ratify/TransactionStateByRulePinLaw" = true := by first | (simp [plainName, overriddenIn]; done) | decide +kernel
theorem own_ef_own_pick2 (m : MethodId) (x0 : Int32) : entryFrame m #[(.int x0)] 1 = mkF m 0 #[.val (.int x0)] [] := by first | (simp [entryFrame, mkF, argsToLocals, Value.category]; done) | rfl
def Q_own_pick2 (Z : State) (aCOMMITTED : Addr) (h0 : Heap) (n0 : Nat) (v : Option Value) (h : Heap) (L : List Loc) : Prop := v = some (.ref aCOMMITTED) ∧ Fr n0 L ∧ h = h0
set_option maxRecDepth 65536 in
set_option maxHeartbeats 40000000 in
theorem own_pick2 (l : Launch) (Z : State) (a0 : Array Value) (hw : ∀ d ∈ tables_1, d.before a0 Z = true) (ws : List Jvm.Cond) (aCOMMITTED : Addr) (h0 : Heap) (n0 : Nat) (Z0 : n0 ≤ h0.size) (S_COMMITTED : Sta Z h0 "ratify/TransactionState" "COMMITTED" "Lratify/TransactionState;" (.ref aCOMMITTED)) :
    MetFree l (⟨"ratify/TransactionStateByRulePinLaw", "pick", "(I)Lratify/TransactionState;"⟩ : MethodName) (head1 (Jvm.Cond.code (⟨"ratify/TransactionStateByRulePinLaw", "pick", "(I)Lratify/TransactionState;"⟩ : MethodName) method_2_code 1 (some (.object "ratify/TransactionState")) :: ws) ({ frames := 0, cells := 0, slots := 0, locals := 0 } : Room)) (fun a U => a = #[(.int (2 : Int32))] ∧ Z.Warmed39 U.vm ∧ U.heap = h0) (fun _ _ _ _ _ => True) (fun _ U o U' => ∃ v L, o = .returned v ∧ Q_own_pick2 Z aCOMMITTED h0 n0 v U'.heap L ∧ FrameEnd U o U' L ({ frames := 0, cells := 0, slots := 0, locals := 0 } : Room).cells ({ frames := 0, cells := 0, slots := 0, locals := 0 } : Room).slots) := by
  refine MetFree.of_bodySF (plainFor_of_name own_pn_own_pick2) hisR ?_
  intro p e s m args below meth c s₁ Bd hml0 hP hK
  obtain ⟨rfl, hZ, hh⟩ := hP
  have hx := Bd.exec
  have hby := Bd.bytes
  have hml : c.maxLocals = 1 := hml0
  have hown : s.vm.findClass "ratify/TransactionStateByRulePinLaw" = some m.cls := findClass_of_methodNamed Bd.named
  have hnm := (name_of_methodNamed Bd.named Bd.method).1
  have X0 : Stand p l e ({ frames := 0, cells := 0, slots := 0, locals := 0 } : Room) s m #[(.int (2 : Int32))] below meth c s₁ [] 0 0 := Stand.of_body Bd
  have e0 : s₁.heap = h0 := by rw [← hh, Bd.state]; rfl
  have N0 := Fr.nil n0
  have pre0 : Goes p e below s₁ (entryFrame m #[(.int (2 : Int32))] 1) s₁ (mkF m 0 #[.val (.int (2 : Int32))] []) := fun t k => castTop (own_ef_own_pick2 m (2 : Int32)) k
  have pre1 : Goes p e below s₁ (entryFrame m #[(.int (2 : Int32))] 1) s₁ (mkF m 22 #[.val (.int (2 : Int32))] []) := fun t kt => pre0 t (by
      show Steps p.tables e below (s₁.setTop (mkF m 0 #[.val (.int (2 : Int32))] [])) _
      refine XS.iloadN X0.here hx rfl (hb hby own_dp2_0) rfl ?_
      show Steps p.tables e below (s₁.setTop (mkF m 1 #[.val (.int (2 : Int32))] [(.int (2 : Int32))])) _
      refine XS.ifYes X0.here hx rfl (pc0 := 1) (pc' := 8) rfl (hb hby own_dp2_1) rfl ((if0 _ _).trans (feq (by decide : ¬ ((2 : Int32) = (0 : Int32)))).2) (by decide) (by decide) ?_
      show Steps p.tables e below (s₁.setTop (mkF m 8 #[.val (.int (2 : Int32))] [])) _
      refine XS.iloadN X0.here hx rfl (hb hby own_dp2_8) rfl ?_
      show Steps p.tables e below (s₁.setTop (mkF m 9 #[.val (.int (2 : Int32))] [(.int (2 : Int32))])) _
      refine XS.iconst X0.here hx rfl (hb hby own_dp2_9) ?_
      show Steps p.tables e below (s₁.setTop (mkF m 10 #[.val (.int (2 : Int32))] [(.int (1 : Int32)), (.int (2 : Int32))])) _
      refine XS.icmpYes X0.here hx rfl (pc0 := 10) (pc' := 17) rfl (hb hby own_dp2_10) rfl (feq (by decide : ¬ ((2 : Int32) = (1 : Int32)))).2 (by decide) (by decide) ?_
      show Steps p.tables e below (s₁.setTop (mkF m 17 #[.val (.int (2 : Int32))] [])) _
      refine XS.iloadN X0.here hx rfl (hb hby own_dp2_17) rfl ?_
      show Steps p.tables e below (s₁.setTop (mkF m 18 #[.val (.int (2 : Int32))] [(.int (2 : Int32))])) _
      refine XS.iconst X0.here hx rfl (hb hby own_dp2_18) ?_
      show Steps p.tables e below (s₁.setTop (mkF m 19 #[.val (.int (2 : Int32))] [(.int (2 : Int32)), (.int (2 : Int32))])) _
      refine XS.icmpNo X0.here hx rfl (hb hby own_dp2_19) rfl (teq (by decide : (2 : Int32) = (2 : Int32))).2 ?_
      exact kt)
  obtain ⟨T2, X2, e2, st2⟩ := getS2 X0 hx hZ hown (host := "") (Or.inl (hw _ (List.mem_of_getElem? (i := 20) rfl))) Via.refl e0 S_COMMITTED (g := (mkF m 22 #[.val (.int (2 : Int32))] [])) rfl (hb hby own_dp2_22)
  have pre3 : Goes p e below s₁ (entryFrame m #[(.int (2 : Int32))] 1) T2 (mkF m 25 #[.val (.int (2 : Int32))] [(.ref aCOMMITTED)]) := fun t kt => pre1 t (st2 t kt)
  obtain ⟨fs, hr, hrun, hended, hW, hsame⟩ := X2.leave (v := some (.ref aCOMMITTED)) (fun h => by rw [Bd.returns] at h; cases h)
  refine ⟨_, _, pre3 _ ?_, hrun, hended, _, _, rfl, ?_, ⟨_, rfl⟩, hW, hsame.mono (by decide) (by decide)⟩
  · show Steps p.tables e below (T2.setTop (mkF m 25 #[.val (.int (2 : Int32))] [(.ref aCOMMITTED)])) _
    jvm_step X2.here [X2.here.top, hx, (hb hby own_dp2_25), X2.method', Bd.returns, Value.isRef, FieldType.isReference]
    first | (intro acts; rw [hr _ acts rfl rfl rfl]) | rw [hr _ _ rfl rfl rfl]
    exact Steps.refl _
  · show Q_own_pick2 Z aCOMMITTED h0 n0 _ T2.heap _
    rw [e2]
    exact ⟨rfl, N0, rfl⟩
theorem own_dp3_0 : decode method_2_code 0 = .ok (.iload_n 0, 1) := by decide +kernel
theorem own_dp3_1 : decode method_2_code 1 = .ok (.ifCond .ne 7, 3) := by decide +kernel
theorem own_dp3_8 : decode method_2_code 8 = .ok (.iload_n 0, 1) := by decide +kernel
theorem own_dp3_9 : decode method_2_code 9 = .ok (.iconst 1, 1) := by decide +kernel
theorem own_dp3_10 : decode method_2_code 10 = .ok (.if_icmp .ne 7, 3) := by decide +kernel
theorem own_dp3_17 : decode method_2_code 17 = .ok (.iload_n 0, 1) := by decide +kernel
theorem own_dp3_18 : decode method_2_code 18 = .ok (.iconst 2, 1) := by decide +kernel
theorem own_dp3_19 : decode method_2_code 19 = .ok (.if_icmp .ne 7, 3) := by decide +kernel
theorem own_dp3_26 : decode method_2_code 26 = .ok (.iload_n 0, 1) := by decide +kernel
theorem own_dp3_27 : decode method_2_code 27 = .ok (.iconst 3, 1) := by decide +kernel
theorem own_dp3_28 : decode method_2_code 28 = .ok (.if_icmp .ne 7, 3) := by decide +kernel
theorem own_dp3_31 : decode method_2_code 31 = .ok (.getstatic 19, 3) := by decide +kernel
theorem own_dp3_34 : decode method_2_code 34 = .ok (.areturn, 1) := by decide +kernel
theorem own_pn_own_pick3 : plainName "ratify/TransactionStateByRulePinLaw" = true := by first | (simp [plainName, overriddenIn]; done) | decide +kernel
theorem own_ef_own_pick3 (m : MethodId) (x0 : Int32) : entryFrame m #[(.int x0)] 1 = mkF m 0 #[.val (.int x0)] [] := by first | (simp [entryFrame, mkF, argsToLocals, Value.category]; done) | rfl
def Q_own_pick3 (Z : State) (aABORTED : Addr) (h0 : Heap) (n0 : Nat) (v : Option Value) (h : Heap) (L : List Loc) : Prop := v = some (.ref aABORTED) ∧ Fr n0 L ∧ h = h0
set_option maxRecDepth 65536 in
set_option maxHeartbeats 40000000 in
theorem own_pick3 (l : Launch) (Z : State) (a0 : Array Value) (hw : ∀ d ∈ tables_1, d.before a0 Z = true) (ws : List Jvm.Cond) (aABORTED : Addr) (h0 : Heap) (n0 : Nat) (Z0 : n0 ≤ h0.size) (S_ABORTED : Sta Z h0 "ratify/TransactionState" "ABORTED" "Lratify/TransactionState;" (.ref aABORTED)) :
    MetFree l (⟨"ratify/TransactionStateByRulePinLaw", "pick", "(I)Lratify/TransactionState;"⟩ : MethodName) (head1 (Jvm.Cond.code (⟨"ratify/TransactionStateByRulePinLaw", "pick", "(I)Lratify/TransactionState;"⟩ : MethodName) method_2_code 1 (some (.object "ratify/TransactionState")) :: ws) ({ frames := 0, cells := 0, slots := 0, locals := 0 } : Room)) (fun a U => a = #[(.int (3 : Int32))] ∧ Z.Warmed39 U.vm ∧ U.heap = h0) (fun _ _ _ _ _ => True) (fun _ U o U' => ∃ v L, o = .returned v ∧ Q_own_pick3 Z aABORTED h0 n0 v U'.heap L ∧ FrameEnd U o U' L ({ frames := 0, cells := 0, slots := 0, locals := 0 } : Room).cells ({ frames := 0, cells := 0, slots := 0, locals := 0 } : Room).slots) := by
  refine MetFree.of_bodySF (plainFor_of_name own_pn_own_pick3) hisR ?_
  intro p e s m args below meth c s₁ Bd hml0 hP hK
  obtain ⟨rfl, hZ, hh⟩ := hP
  have hx := Bd.exec
  have hby := Bd.bytes
  have hml : c.maxLocals = 1 := hml0
  have hown : s.vm.findClass "ratify/TransactionStateByRulePinLaw" = some m.cls := findClass_of_methodNamed Bd.named
  have hnm := (name_of_methodNamed Bd.named Bd.method).1
  have X0 : Stand p l e ({ frames := 0, cells := 0, slots := 0, locals := 0 } : Room) s m #[(.int (3 : Int32))] below meth c s₁ [] 0 0 := Stand.of_body Bd
  have e0 : s₁.heap = h0 := by rw [← hh, Bd.state]; rfl
  have N0 := Fr.nil n0
  have pre0 : Goes p e below s₁ (entryFrame m #[(.int (3 : Int32))] 1) s₁ (mkF m 0 #[.val (.int (3 : Int32))] []) := fun t k => castTop (own_ef_own_pick3 m (3 : Int32)) k
  have pre1 : Goes p e below s₁ (entryFrame m #[(.int (3 : Int32))] 1) s₁ (mkF m 31 #[.val (.int (3 : Int32))] []) := fun t kt => pre0 t (by
      show Steps p.tables e below (s₁.setTop (mkF m 0 #[.val (.int (3 : Int32))] [])) _
      refine XS.iloadN X0.here hx rfl (hb hby own_dp3_0) rfl ?_
      show Steps p.tables e below (s₁.setTop (mkF m 1 #[.val (.int (3 : Int32))] [(.int (3 : Int32))])) _
      refine XS.ifYes X0.here hx rfl (pc0 := 1) (pc' := 8) rfl (hb hby own_dp3_1) rfl ((if0 _ _).trans (feq (by decide : ¬ ((3 : Int32) = (0 : Int32)))).2) (by decide) (by decide) ?_
      show Steps p.tables e below (s₁.setTop (mkF m 8 #[.val (.int (3 : Int32))] [])) _
      refine XS.iloadN X0.here hx rfl (hb hby own_dp3_8) rfl ?_
      show Steps p.tables e below (s₁.setTop (mkF m 9 #[.val (.int (3 : Int32))] [(.int (3 : Int32))])) _
      refine XS.iconst X0.here hx rfl (hb hby own_dp3_9) ?_
      show Steps p.tables e below (s₁.setTop (mkF m 10 #[.val (.int (3 : Int32))] [(.int (1 : Int32)), (.int (3 : Int32))])) _
      refine XS.icmpYes X0.here hx rfl (pc0 := 10) (pc' := 17) rfl (hb hby own_dp3_10) rfl (feq (by decide : ¬ ((3 : Int32) = (1 : Int32)))).2 (by decide) (by decide) ?_
      show Steps p.tables e below (s₁.setTop (mkF m 17 #[.val (.int (3 : Int32))] [])) _
      refine XS.iloadN X0.here hx rfl (hb hby own_dp3_17) rfl ?_
      show Steps p.tables e below (s₁.setTop (mkF m 18 #[.val (.int (3 : Int32))] [(.int (3 : Int32))])) _
      refine XS.iconst X0.here hx rfl (hb hby own_dp3_18) ?_
      show Steps p.tables e below (s₁.setTop (mkF m 19 #[.val (.int (3 : Int32))] [(.int (2 : Int32)), (.int (3 : Int32))])) _
      refine XS.icmpYes X0.here hx rfl (pc0 := 19) (pc' := 26) rfl (hb hby own_dp3_19) rfl (feq (by decide : ¬ ((3 : Int32) = (2 : Int32)))).2 (by decide) (by decide) ?_
      show Steps p.tables e below (s₁.setTop (mkF m 26 #[.val (.int (3 : Int32))] [])) _
      refine XS.iloadN X0.here hx rfl (hb hby own_dp3_26) rfl ?_
      show Steps p.tables e below (s₁.setTop (mkF m 27 #[.val (.int (3 : Int32))] [(.int (3 : Int32))])) _
      refine XS.iconst X0.here hx rfl (hb hby own_dp3_27) ?_
      show Steps p.tables e below (s₁.setTop (mkF m 28 #[.val (.int (3 : Int32))] [(.int (3 : Int32)), (.int (3 : Int32))])) _
      refine XS.icmpNo X0.here hx rfl (hb hby own_dp3_28) rfl (teq (by decide : (3 : Int32) = (3 : Int32))).2 ?_
      exact kt)
  obtain ⟨T2, X2, e2, st2⟩ := getS2 X0 hx hZ hown (host := "") (Or.inl (hw _ (List.mem_of_getElem? (i := 18) rfl))) Via.refl e0 S_ABORTED (g := (mkF m 31 #[.val (.int (3 : Int32))] [])) rfl (hb hby own_dp3_31)
  have pre3 : Goes p e below s₁ (entryFrame m #[(.int (3 : Int32))] 1) T2 (mkF m 34 #[.val (.int (3 : Int32))] [(.ref aABORTED)]) := fun t kt => pre1 t (st2 t kt)
  obtain ⟨fs, hr, hrun, hended, hW, hsame⟩ := X2.leave (v := some (.ref aABORTED)) (fun h => by rw [Bd.returns] at h; cases h)
  refine ⟨_, _, pre3 _ ?_, hrun, hended, _, _, rfl, ?_, ⟨_, rfl⟩, hW, hsame.mono (by decide) (by decide)⟩
  · show Steps p.tables e below (T2.setTop (mkF m 34 #[.val (.int (3 : Int32))] [(.ref aABORTED)])) _
    jvm_step X2.here [X2.here.top, hx, (hb hby own_dp3_34), X2.method', Bd.returns, Value.isRef, FieldType.isReference]
    first | (intro acts; rw [hr _ acts rfl rfl rfl]) | rw [hr _ _ rfl rfl rfl]
    exact Steps.refl _
  · show Q_own_pick3 Z aABORTED h0 n0 _ T2.heap _
    rw [e2]
    exact ⟨rfl, N0, rfl⟩
theorem own_dp4_0 : decode method_2_code 0 = .ok (.iload_n 0, 1) := by decide +kernel
theorem own_dp4_1 : decode method_2_code 1 = .ok (.ifCond .ne 7, 3) := by decide +kernel
theorem own_dp4_8 : decode method_2_code 8 = .ok (.iload_n 0, 1) := by decide +kernel
theorem own_dp4_9 : decode method_2_code 9 = .ok (.iconst 1, 1) := by decide +kernel
theorem own_dp4_10 : decode method_2_code 10 = .ok (.if_icmp .ne 7, 3) := by decide +kernel
theorem own_dp4_17 : decode method_2_code 17 = .ok (.iload_n 0, 1) := by decide +kernel
theorem own_dp4_18 : decode method_2_code 18 = .ok (.iconst 2, 1) := by decide +kernel
theorem own_dp4_19 : decode method_2_code 19 = .ok (.if_icmp .ne 7, 3) := by decide +kernel
theorem own_dp4_26 : decode method_2_code 26 = .ok (.iload_n 0, 1) := by decide +kernel
theorem own_dp4_27 : decode method_2_code 27 = .ok (.iconst 3, 1) := by decide +kernel
theorem own_dp4_28 : decode method_2_code 28 = .ok (.if_icmp .ne 7, 3) := by decide +kernel
theorem own_dp4_35 : decode method_2_code 35 = .ok (.iload_n 0, 1) := by decide +kernel
theorem own_dp4_36 : decode method_2_code 36 = .ok (.iconst 4, 1) := by decide +kernel
theorem own_dp4_37 : decode method_2_code 37 = .ok (.if_icmp .ne 7, 3) := by decide +kernel
theorem own_dp4_40 : decode method_2_code 40 = .ok (.getstatic 22, 3) := by decide +kernel
theorem own_dp4_43 : decode method_2_code 43 = .ok (.areturn, 1) := by decide +kernel
theorem own_pn_own_pick4 : plainName "ratify/TransactionStateByRulePinLaw" = true := by first | (simp [plainName, overriddenIn]; done) | decide +kernel
theorem own_ef_own_pick4 (m : MethodId) (x0 : Int32) : entryFrame m #[(.int x0)] 1 = mkF m 0 #[.val (.int x0)] [] := by first | (simp [entryFrame, mkF, argsToLocals, Value.category]; done) | rfl
def Q_own_pick4 (Z : State) (aPENDING : Addr) (h0 : Heap) (n0 : Nat) (v : Option Value) (h : Heap) (L : List Loc) : Prop := v = some (.ref aPENDING) ∧ Fr n0 L ∧ h = h0
set_option maxRecDepth 65536 in
set_option maxHeartbeats 40000000 in
theorem own_pick4 (l : Launch) (Z : State) (a0 : Array Value) (hw : ∀ d ∈ tables_1, d.before a0 Z = true) (ws : List Jvm.Cond) (aPENDING : Addr) (h0 : Heap) (n0 : Nat) (Z0 : n0 ≤ h0.size) (S_PENDING : Sta Z h0 "ratify/TransactionState" "PENDING" "Lratify/TransactionState;" (.ref aPENDING)) :
    MetFree l (⟨"ratify/TransactionStateByRulePinLaw", "pick", "(I)Lratify/TransactionState;"⟩ : MethodName) (head1 (Jvm.Cond.code (⟨"ratify/TransactionStateByRulePinLaw", "pick", "(I)Lratify/TransactionState;"⟩ : MethodName) method_2_code 1 (some (.object "ratify/TransactionState")) :: ws) ({ frames := 0, cells := 0, slots := 0, locals := 0 } : Room)) (fun a U => a = #[(.int (4 : Int32))] ∧ Z.Warmed39 U.vm ∧ U.heap = h0) (fun _ _ _ _ _ => True) (fun _ U o U' => ∃ v L, o = .returned v ∧ Q_own_pick4 Z aPENDING h0 n0 v U'.heap L ∧ FrameEnd U o U' L ({ frames := 0, cells := 0, slots := 0, locals := 0 } : Room).cells ({ frames := 0, cells := 0, slots := 0, locals := 0 } : Room).slots) := by
  refine MetFree.of_bodySF (plainFor_of_name own_pn_own_pick4) hisR ?_
  intro p e s m args below meth c s₁ Bd hml0 hP hK
  obtain ⟨rfl, hZ, hh⟩ := hP
  have hx := Bd.exec
  have hby := Bd.bytes
  have hml : c.maxLocals = 1 := hml0
  have hown : s.vm.findClass "ratify/TransactionStateByRulePinLaw" = some m.cls := findClass_of_methodNamed Bd.named
  have hnm := (name_of_methodNamed Bd.named Bd.method).1
  have X0 : Stand p l e ({ frames := 0, cells := 0, slots := 0, locals := 0 } : Room) s m #[(.int (4 : Int32))] below meth c s₁ [] 0 0 := Stand.of_body Bd
  have e0 : s₁.heap = h0 := by rw [← hh, Bd.state]; rfl
  have N0 := Fr.nil n0
  have pre0 : Goes p e below s₁ (entryFrame m #[(.int (4 : Int32))] 1) s₁ (mkF m 0 #[.val (.int (4 : Int32))] []) := fun t k => castTop (own_ef_own_pick4 m (4 : Int32)) k
  have pre1 : Goes p e below s₁ (entryFrame m #[(.int (4 : Int32))] 1) s₁ (mkF m 40 #[.val (.int (4 : Int32))] []) := fun t kt => pre0 t (by
      show Steps p.tables e below (s₁.setTop (mkF m 0 #[.val (.int (4 : Int32))] [])) _
      refine XS.iloadN X0.here hx rfl (hb hby own_dp4_0) rfl ?_
      show Steps p.tables e below (s₁.setTop (mkF m 1 #[.val (.int (4 : Int32))] [(.int (4 : Int32))])) _
      refine XS.ifYes X0.here hx rfl (pc0 := 1) (pc' := 8) rfl (hb hby own_dp4_1) rfl ((if0 _ _).trans (feq (by decide : ¬ ((4 : Int32) = (0 : Int32)))).2) (by decide) (by decide) ?_
      show Steps p.tables e below (s₁.setTop (mkF m 8 #[.val (.int (4 : Int32))] [])) _
      refine XS.iloadN X0.here hx rfl (hb hby own_dp4_8) rfl ?_
      show Steps p.tables e below (s₁.setTop (mkF m 9 #[.val (.int (4 : Int32))] [(.int (4 : Int32))])) _
      refine XS.iconst X0.here hx rfl (hb hby own_dp4_9) ?_
      show Steps p.tables e below (s₁.setTop (mkF m 10 #[.val (.int (4 : Int32))] [(.int (1 : Int32)), (.int (4 : Int32))])) _
      refine XS.icmpYes X0.here hx rfl (pc0 := 10) (pc' := 17) rfl (hb hby own_dp4_10) rfl (feq (by decide : ¬ ((4 : Int32) = (1 : Int32)))).2 (by decide) (by decide) ?_
      show Steps p.tables e below (s₁.setTop (mkF m 17 #[.val (.int (4 : Int32))] [])) _
      refine XS.iloadN X0.here hx rfl (hb hby own_dp4_17) rfl ?_
      show Steps p.tables e below (s₁.setTop (mkF m 18 #[.val (.int (4 : Int32))] [(.int (4 : Int32))])) _
      refine XS.iconst X0.here hx rfl (hb hby own_dp4_18) ?_
      show Steps p.tables e below (s₁.setTop (mkF m 19 #[.val (.int (4 : Int32))] [(.int (2 : Int32)), (.int (4 : Int32))])) _
      refine XS.icmpYes X0.here hx rfl (pc0 := 19) (pc' := 26) rfl (hb hby own_dp4_19) rfl (feq (by decide : ¬ ((4 : Int32) = (2 : Int32)))).2 (by decide) (by decide) ?_
      show Steps p.tables e below (s₁.setTop (mkF m 26 #[.val (.int (4 : Int32))] [])) _
      refine XS.iloadN X0.here hx rfl (hb hby own_dp4_26) rfl ?_
      show Steps p.tables e below (s₁.setTop (mkF m 27 #[.val (.int (4 : Int32))] [(.int (4 : Int32))])) _
      refine XS.iconst X0.here hx rfl (hb hby own_dp4_27) ?_
      show Steps p.tables e below (s₁.setTop (mkF m 28 #[.val (.int (4 : Int32))] [(.int (3 : Int32)), (.int (4 : Int32))])) _
      refine XS.icmpYes X0.here hx rfl (pc0 := 28) (pc' := 35) rfl (hb hby own_dp4_28) rfl (feq (by decide : ¬ ((4 : Int32) = (3 : Int32)))).2 (by decide) (by decide) ?_
      show Steps p.tables e below (s₁.setTop (mkF m 35 #[.val (.int (4 : Int32))] [])) _
      refine XS.iloadN X0.here hx rfl (hb hby own_dp4_35) rfl ?_
      show Steps p.tables e below (s₁.setTop (mkF m 36 #[.val (.int (4 : Int32))] [(.int (4 : Int32))])) _
      refine XS.iconst X0.here hx rfl (hb hby own_dp4_36) ?_
      show Steps p.tables e below (s₁.setTop (mkF m 37 #[.val (.int (4 : Int32))] [(.int (4 : Int32)), (.int (4 : Int32))])) _
      refine XS.icmpNo X0.here hx rfl (hb hby own_dp4_37) rfl (teq (by decide : (4 : Int32) = (4 : Int32))).2 ?_
      exact kt)
  obtain ⟨T2, X2, e2, st2⟩ := getS2 X0 hx hZ hown (host := "") (Or.inl (hw _ (List.mem_of_getElem? (i := 38) rfl))) Via.refl e0 S_PENDING (g := (mkF m 40 #[.val (.int (4 : Int32))] [])) rfl (hb hby own_dp4_40)
  have pre3 : Goes p e below s₁ (entryFrame m #[(.int (4 : Int32))] 1) T2 (mkF m 43 #[.val (.int (4 : Int32))] [(.ref aPENDING)]) := fun t kt => pre1 t (st2 t kt)
  obtain ⟨fs, hr, hrun, hended, hW, hsame⟩ := X2.leave (v := some (.ref aPENDING)) (fun h => by rw [Bd.returns] at h; cases h)
  refine ⟨_, _, pre3 _ ?_, hrun, hended, _, _, rfl, ?_, ⟨_, rfl⟩, hW, hsame.mono (by decide) (by decide)⟩
  · show Steps p.tables e below (T2.setTop (mkF m 43 #[.val (.int (4 : Int32))] [(.ref aPENDING)])) _
    jvm_step X2.here [X2.here.top, hx, (hb hby own_dp4_43), X2.method', Bd.returns, Value.isRef, FieldType.isReference]
    first | (intro acts; rw [hr _ acts rfl rfl rfl]) | rw [hr _ _ rfl rfl rfl]
    exact Steps.refl _
  · show Q_own_pick4 Z aPENDING h0 n0 _ T2.heap _
    rw [e2]
    exact ⟨rfl, N0, rfl⟩
theorem own_dp5_0 : decode method_2_code 0 = .ok (.iload_n 0, 1) := by decide +kernel
theorem own_dp5_1 : decode method_2_code 1 = .ok (.ifCond .ne 7, 3) := by decide +kernel
theorem own_dp5_8 : decode method_2_code 8 = .ok (.iload_n 0, 1) := by decide +kernel
theorem own_dp5_9 : decode method_2_code 9 = .ok (.iconst 1, 1) := by decide +kernel
theorem own_dp5_10 : decode method_2_code 10 = .ok (.if_icmp .ne 7, 3) := by decide +kernel
theorem own_dp5_17 : decode method_2_code 17 = .ok (.iload_n 0, 1) := by decide +kernel
theorem own_dp5_18 : decode method_2_code 18 = .ok (.iconst 2, 1) := by decide +kernel
theorem own_dp5_19 : decode method_2_code 19 = .ok (.if_icmp .ne 7, 3) := by decide +kernel
theorem own_dp5_26 : decode method_2_code 26 = .ok (.iload_n 0, 1) := by decide +kernel
theorem own_dp5_27 : decode method_2_code 27 = .ok (.iconst 3, 1) := by decide +kernel
theorem own_dp5_28 : decode method_2_code 28 = .ok (.if_icmp .ne 7, 3) := by decide +kernel
theorem own_dp5_35 : decode method_2_code 35 = .ok (.iload_n 0, 1) := by decide +kernel
theorem own_dp5_36 : decode method_2_code 36 = .ok (.iconst 4, 1) := by decide +kernel
theorem own_dp5_37 : decode method_2_code 37 = .ok (.if_icmp .ne 7, 3) := by decide +kernel
theorem own_dp5_44 : decode method_2_code 44 = .ok (.getstatic 25, 3) := by decide +kernel
theorem own_dp5_47 : decode method_2_code 47 = .ok (.areturn, 1) := by decide +kernel
theorem own_pn_own_pick5 : plainName "ratify/TransactionStateByRulePinLaw" = true := by first | (simp [plainName, overriddenIn]; done) | decide +kernel
theorem own_ef_own_pick5 (m : MethodId) (x0 : Int32) : entryFrame m #[(.int x0)] 1 = mkF m 0 #[.val (.int x0)] [] := by first | (simp [entryFrame, mkF, argsToLocals, Value.category]; done) | rfl
def Q_own_pick5 (Z : State) (aDECIDED : Addr) (h0 : Heap) (n0 : Nat) (v : Option Value) (h : Heap) (L : List Loc) : Prop := v = some (.ref aDECIDED) ∧ Fr n0 L ∧ h = h0
set_option maxRecDepth 65536 in
set_option maxHeartbeats 40000000 in
theorem own_pick5 (l : Launch) (Z : State) (a0 : Array Value) (hw : ∀ d ∈ tables_1, d.before a0 Z = true) (ws : List Jvm.Cond) (aDECIDED : Addr) (h0 : Heap) (n0 : Nat) (Z0 : n0 ≤ h0.size) (S_DECIDED : Sta Z h0 "ratify/TransactionState" "DECIDED" "Lratify/TransactionState;" (.ref aDECIDED)) :
    MetFree l (⟨"ratify/TransactionStateByRulePinLaw", "pick", "(I)Lratify/TransactionState;"⟩ : MethodName) (head1 (Jvm.Cond.code (⟨"ratify/TransactionStateByRulePinLaw", "pick", "(I)Lratify/TransactionState;"⟩ : MethodName) method_2_code 1 (some (.object "ratify/TransactionState")) :: ws) ({ frames := 0, cells := 0, slots := 0, locals := 0 } : Room)) (fun a U => a = #[(.int (5 : Int32))] ∧ Z.Warmed39 U.vm ∧ U.heap = h0) (fun _ _ _ _ _ => True) (fun _ U o U' => ∃ v L, o = .returned v ∧ Q_own_pick5 Z aDECIDED h0 n0 v U'.heap L ∧ FrameEnd U o U' L ({ frames := 0, cells := 0, slots := 0, locals := 0 } : Room).cells ({ frames := 0, cells := 0, slots := 0, locals := 0 } : Room).slots) := by
  refine MetFree.of_bodySF (plainFor_of_name own_pn_own_pick5) hisR ?_
  intro p e s m args below meth c s₁ Bd hml0 hP hK
  obtain ⟨rfl, hZ, hh⟩ := hP
  have hx := Bd.exec
  have hby := Bd.bytes
  have hml : c.maxLocals = 1 := hml0
  have hown : s.vm.findClass "ratify/TransactionStateByRulePinLaw" = some m.cls := findClass_of_methodNamed Bd.named
  have hnm := (name_of_methodNamed Bd.named Bd.method).1
  have X0 : Stand p l e ({ frames := 0, cells := 0, slots := 0, locals := 0 } : Room) s m #[(.int (5 : Int32))] below meth c s₁ [] 0 0 := Stand.of_body Bd
  have e0 : s₁.heap = h0 := by rw [← hh, Bd.state]; rfl
  have N0 := Fr.nil n0
  have pre0 : Goes p e below s₁ (entryFrame m #[(.int (5 : Int32))] 1) s₁ (mkF m 0 #[.val (.int (5 : Int32))] []) := fun t k => castTop (own_ef_own_pick5 m (5 : Int32)) k
  have pre1 : Goes p e below s₁ (entryFrame m #[(.int (5 : Int32))] 1) s₁ (mkF m 44 #[.val (.int (5 : Int32))] []) := fun t kt => pre0 t (by
      show Steps p.tables e below (s₁.setTop (mkF m 0 #[.val (.int (5 : Int32))] [])) _
      refine XS.iloadN X0.here hx rfl (hb hby own_dp5_0) rfl ?_
      show Steps p.tables e below (s₁.setTop (mkF m 1 #[.val (.int (5 : Int32))] [(.int (5 : Int32))])) _
      refine XS.ifYes X0.here hx rfl (pc0 := 1) (pc' := 8) rfl (hb hby own_dp5_1) rfl ((if0 _ _).trans (feq (by decide : ¬ ((5 : Int32) = (0 : Int32)))).2) (by decide) (by decide) ?_
      show Steps p.tables e below (s₁.setTop (mkF m 8 #[.val (.int (5 : Int32))] [])) _
      refine XS.iloadN X0.here hx rfl (hb hby own_dp5_8) rfl ?_
      show Steps p.tables e below (s₁.setTop (mkF m 9 #[.val (.int (5 : Int32))] [(.int (5 : Int32))])) _
      refine XS.iconst X0.here hx rfl (hb hby own_dp5_9) ?_
      show Steps p.tables e below (s₁.setTop (mkF m 10 #[.val (.int (5 : Int32))] [(.int (1 : Int32)), (.int (5 : Int32))])) _
      refine XS.icmpYes X0.here hx rfl (pc0 := 10) (pc' := 17) rfl (hb hby own_dp5_10) rfl (feq (by decide : ¬ ((5 : Int32) = (1 : Int32)))).2 (by decide) (by decide) ?_
      show Steps p.tables e below (s₁.setTop (mkF m 17 #[.val (.int (5 : Int32))] [])) _
      refine XS.iloadN X0.here hx rfl (hb hby own_dp5_17) rfl ?_
      show Steps p.tables e below (s₁.setTop (mkF m 18 #[.val (.int (5 : Int32))] [(.int (5 : Int32))])) _
      refine XS.iconst X0.here hx rfl (hb hby own_dp5_18) ?_
      show Steps p.tables e below (s₁.setTop (mkF m 19 #[.val (.int (5 : Int32))] [(.int (2 : Int32)), (.int (5 : Int32))])) _
      refine XS.icmpYes X0.here hx rfl (pc0 := 19) (pc' := 26) rfl (hb hby own_dp5_19) rfl (feq (by decide : ¬ ((5 : Int32) = (2 : Int32)))).2 (by decide) (by decide) ?_
      show Steps p.tables e below (s₁.setTop (mkF m 26 #[.val (.int (5 : Int32))] [])) _
      refine XS.iloadN X0.here hx rfl (hb hby own_dp5_26) rfl ?_
      show Steps p.tables e below (s₁.setTop (mkF m 27 #[.val (.int (5 : Int32))] [(.int (5 : Int32))])) _
      refine XS.iconst X0.here hx rfl (hb hby own_dp5_27) ?_
      show Steps p.tables e below (s₁.setTop (mkF m 28 #[.val (.int (5 : Int32))] [(.int (3 : Int32)), (.int (5 : Int32))])) _
      refine XS.icmpYes X0.here hx rfl (pc0 := 28) (pc' := 35) rfl (hb hby own_dp5_28) rfl (feq (by decide : ¬ ((5 : Int32) = (3 : Int32)))).2 (by decide) (by decide) ?_
      show Steps p.tables e below (s₁.setTop (mkF m 35 #[.val (.int (5 : Int32))] [])) _
      refine XS.iloadN X0.here hx rfl (hb hby own_dp5_35) rfl ?_
      show Steps p.tables e below (s₁.setTop (mkF m 36 #[.val (.int (5 : Int32))] [(.int (5 : Int32))])) _
      refine XS.iconst X0.here hx rfl (hb hby own_dp5_36) ?_
      show Steps p.tables e below (s₁.setTop (mkF m 37 #[.val (.int (5 : Int32))] [(.int (4 : Int32)), (.int (5 : Int32))])) _
      refine XS.icmpYes X0.here hx rfl (pc0 := 37) (pc' := 44) rfl (hb hby own_dp5_37) rfl (feq (by decide : ¬ ((5 : Int32) = (4 : Int32)))).2 (by decide) (by decide) ?_
      exact kt)
  obtain ⟨T2, X2, e2, st2⟩ := getS2 X0 hx hZ hown (host := "") (Or.inl (hw _ (List.mem_of_getElem? (i := 24) rfl))) Via.refl e0 S_DECIDED (g := (mkF m 44 #[.val (.int (5 : Int32))] [])) rfl (hb hby own_dp5_44)
  have pre3 : Goes p e below s₁ (entryFrame m #[(.int (5 : Int32))] 1) T2 (mkF m 47 #[.val (.int (5 : Int32))] [(.ref aDECIDED)]) := fun t kt => pre1 t (st2 t kt)
  obtain ⟨fs, hr, hrun, hended, hW, hsame⟩ := X2.leave (v := some (.ref aDECIDED)) (fun h => by rw [Bd.returns] at h; cases h)
  refine ⟨_, _, pre3 _ ?_, hrun, hended, _, _, rfl, ?_, ⟨_, rfl⟩, hW, hsame.mono (by decide) (by decide)⟩
  · show Steps p.tables e below (T2.setTop (mkF m 47 #[.val (.int (5 : Int32))] [(.ref aDECIDED)])) _
    jvm_step X2.here [X2.here.top, hx, (hb hby own_dp5_47), X2.method', Bd.returns, Value.isRef, FieldType.isReference]
    first | (intro acts; rw [hr _ acts rfl rfl rfl]) | rw [hr _ _ rfl rfl rfl]
    exact Steps.refl _
  · show Q_own_pick5 Z aDECIDED h0 n0 _ T2.heap _
    rw [e2]
    exact ⟨rfl, N0, rfl⟩
theorem own_pn_own_rm0 : plainName "ratify/TransactionStateByRulePinLaw" = true := by first | (simp [plainName, overriddenIn]; done) | decide +kernel
theorem own_ef_own_rm0 (m : MethodId) (x0 : Int32) : entryFrame m #[(.int x0)] maxLocals = mkF m 0 #[.val (.int x0), .unset, .unset, .unset, .unset] [] := by first | (simp [entryFrame, mkF, argsToLocals, Value.category, maxLocals]; done) | rfl
def Q_own_rm0 (Z : State) (qx : Int32) (aUNKNOWN : Addr) (aPREPARED : Addr) (aCOMMITTED : Addr) (aABORTED : Addr) (aPENDING : Addr) (aDECIDED : Addr) (h0 : Heap) (n0 : Nat) (v : Option Value) (h : Heap) (L : List Loc) : Prop := v = some (.int (1 : Int32)) ∧ Fr n0 L
set_option maxRecDepth 65536 in
set_option maxHeartbeats 40000000 in
theorem own_rm0 (l : Launch) (Z : State) (a0 : Array Value) (hw : ∀ d ∈ tables_1, d.before a0 Z = true) (ws : List Jvm.Cond) (qx : Int32) (aUNKNOWN : Addr) (aPREPARED : Addr) (aCOMMITTED : Addr) (aABORTED : Addr) (aPENDING : Addr) (aDECIDED : Addr) (h0 : Heap) (n0 : Nat) (Z0 : n0 ≤ h0.size) (S_UNKNOWN : Sta Z h0 "ratify/TransactionState" "UNKNOWN" "Lratify/TransactionState;" (.ref aUNKNOWN)) (S_PREPARED : Sta Z h0 "ratify/TransactionState" "PREPARED" "Lratify/TransactionState;" (.ref aPREPARED)) (S_COMMITTED : Sta Z h0 "ratify/TransactionState" "COMMITTED" "Lratify/TransactionState;" (.ref aCOMMITTED)) (S_ABORTED : Sta Z h0 "ratify/TransactionState" "ABORTED" "Lratify/TransactionState;" (.ref aABORTED)) (S_PENDING : Sta Z h0 "ratify/TransactionState" "PENDING" "Lratify/TransactionState;" (.ref aPENDING)) (S_DECIDED : Sta Z h0 "ratify/TransactionState" "DECIDED" "Lratify/TransactionState;" (.ref aDECIDED)) (E_UNKNOWN : Exa Z h0 aUNKNOWN "ratify/TransactionState") (E_PREPARED : Exa Z h0 aPREPARED "ratify/TransactionState") (E_COMMITTED : Exa Z h0 aCOMMITTED "ratify/TransactionState") (E_ABORTED : Exa Z h0 aABORTED "ratify/TransactionState") (E_PENDING : Exa Z h0 aPENDING "ratify/TransactionState") (E_DECIDED : Exa Z h0 aDECIDED "ratify/TransactionState") (ne_UNKNOWN_PREPARED : aUNKNOWN ≠ aPREPARED) (ne_UNKNOWN_COMMITTED : aUNKNOWN ≠ aCOMMITTED) (ne_UNKNOWN_ABORTED : aUNKNOWN ≠ aABORTED) (ne_UNKNOWN_PENDING : aUNKNOWN ≠ aPENDING) (ne_UNKNOWN_DECIDED : aUNKNOWN ≠ aDECIDED) (ne_PREPARED_UNKNOWN : aPREPARED ≠ aUNKNOWN) (ne_PREPARED_COMMITTED : aPREPARED ≠ aCOMMITTED) (ne_PREPARED_ABORTED : aPREPARED ≠ aABORTED) (ne_PREPARED_PENDING : aPREPARED ≠ aPENDING) (ne_PREPARED_DECIDED : aPREPARED ≠ aDECIDED) (ne_COMMITTED_UNKNOWN : aCOMMITTED ≠ aUNKNOWN) (ne_COMMITTED_PREPARED : aCOMMITTED ≠ aPREPARED) (ne_COMMITTED_ABORTED : aCOMMITTED ≠ aABORTED) (ne_COMMITTED_PENDING : aCOMMITTED ≠ aPENDING) (ne_COMMITTED_DECIDED : aCOMMITTED ≠ aDECIDED) (ne_ABORTED_UNKNOWN : aABORTED ≠ aUNKNOWN) (ne_ABORTED_PREPARED : aABORTED ≠ aPREPARED) (ne_ABORTED_COMMITTED : aABORTED ≠ aCOMMITTED) (ne_ABORTED_PENDING : aABORTED ≠ aPENDING) (ne_ABORTED_DECIDED : aABORTED ≠ aDECIDED) (ne_PENDING_UNKNOWN : aPENDING ≠ aUNKNOWN) (ne_PENDING_PREPARED : aPENDING ≠ aPREPARED) (ne_PENDING_COMMITTED : aPENDING ≠ aCOMMITTED) (ne_PENDING_ABORTED : aPENDING ≠ aABORTED) (ne_PENDING_DECIDED : aPENDING ≠ aDECIDED) (ne_DECIDED_UNKNOWN : aDECIDED ≠ aUNKNOWN) (ne_DECIDED_PREPARED : aDECIDED ≠ aPREPARED) (ne_DECIDED_COMMITTED : aDECIDED ≠ aCOMMITTED) (ne_DECIDED_ABORTED : aDECIDED ≠ aABORTED) (ne_DECIDED_PENDING : aDECIDED ≠ aPENDING) :
    MetFree l x (head1 (Jvm.Cond.code x code maxLocals ret :: ws) room_1) (fun a U => a = #[(.int qx)] ∧ Z.Warmed39 U.vm ∧ U.heap = h0) (fun _ _ _ _ _ => True) (fun _ U o U' => ∃ v L, o = .returned v ∧ Q_own_rm0 Z qx aUNKNOWN aPREPARED aCOMMITTED aABORTED aPENDING aDECIDED h0 n0 v U'.heap L ∧ FrameEnd U o U' L room_1.cells room_1.slots) := by
  refine MetFree.of_bodySF (plainFor_of_name own_pn_own_rm0) hisR ?_
  intro p e s m args below meth c s₁ Bd hml0 hP hK
  obtain ⟨rfl, hZ, hh⟩ := hP
  have hx := Bd.exec
  have hby := Bd.bytes
  have hml : c.maxLocals = 5 := hml0
  have hown : s.vm.findClass "ratify/TransactionStateByRulePinLaw" = some m.cls := findClass_of_methodNamed Bd.named
  have hnm := (name_of_methodNamed Bd.named Bd.method).1
  have X0 : Stand p l e room_1 s m #[(.int qx)] below meth c s₁ [] 0 0 := Stand.of_body Bd
  have e0 : s₁.heap = h0 := by rw [← hh, Bd.state]; rfl
  have N0 := Fr.nil n0
  have pre0 : Goes p e below s₁ (entryFrame m #[(.int qx)] maxLocals) s₁ (mkF m 0 #[.val (.int qx), .unset, .unset, .unset, .unset] []) := fun t k => castTop (own_ef_own_rm0 m qx) k
  have pre1 : Goes p e below s₁ (entryFrame m #[(.int qx)] maxLocals) s₁ (mkF m 10 #[.val (.int qx), .val (.int ((qx &&& (2147483647 : Int32)) % (6 : Int32))), .unset, .unset, .unset] [(.int (6 : Int32))]) := fun t kt => pre0 t (by
      show Steps p.tables e below (s₁.setTop (mkF m 0 #[.val (.int qx), .unset, .unset, .unset, .unset] [])) _
      refine XS.iloadN X0.here hx rfl (hb hby at_0) rfl ?_
      show Steps p.tables e below (s₁.setTop (mkF m 1 #[.val (.int qx), .unset, .unset, .unset, .unset] [(.int qx)])) _
      refine X0.ldcInt hx hown (mvT hZ (hw _ (List.mem_of_getElem? (i := 0) rfl))) (g := (mkF m 1 #[.val (.int qx), .unset, .unset, .unset, .unset] [(.int qx)])) rfl (hb hby at_1) _ ?_
      show Steps p.tables e below (s₁.setTop (mkF m 3 #[.val (.int qx), .unset, .unset, .unset, .unset] [(.int (2147483647 : Int32)), (.int qx)])) _
      refine XS.iand X0.here hx rfl (hb hby at_3) rfl ?_
      show Steps p.tables e below (s₁.setTop (mkF m 4 #[.val (.int qx), .unset, .unset, .unset, .unset] [(.int (qx &&& (2147483647 : Int32)))])) _
      refine XS.bipush X0.here hx rfl (hb hby at_4) ?_
      show Steps p.tables e below (s₁.setTop (mkF m 6 #[.val (.int qx), .unset, .unset, .unset, .unset] [(.int (6 : Int32)), (.int (qx &&& (2147483647 : Int32)))])) _
      refine iremM X0 hx rfl (hb hby at_6) rfl (by decide) ?_
      show Steps p.tables e below (s₁.setTop (mkF m 7 #[.val (.int qx), .unset, .unset, .unset, .unset] [(.int ((qx &&& (2147483647 : Int32)) % (6 : Int32)))])) _
      refine XS.istoreN X0.here hx rfl (hb hby at_7) rfl (l' := #[.val (.int qx), .val (.int ((qx &&& (2147483647 : Int32)) % (6 : Int32))), .unset, .unset, .unset]) rfl ?_
      show Steps p.tables e below (s₁.setTop (mkF m 8 #[.val (.int qx), .val (.int ((qx &&& (2147483647 : Int32)) % (6 : Int32))), .unset, .unset, .unset] [])) _
      refine XS.bipush X0.here hx rfl (hb hby at_8) ?_
      exact kt)
  obtain ⟨T2, h2, k2, X2, e2, E2, A2, st2⟩ := newP X0 hx hZ (hw _ (List.mem_of_getElem? (i := 1) rfl)) e0 (g := (mkF m 10 #[.val (.int qx), .val (.int ((qx &&& (2147483647 : Int32)) % (6 : Int32))), .unset, .unset, .unset] [(.int (6 : Int32))])) rfl (hb hby at_10) rfl (by decide) (cap := 6) (by decide) (by decide) (by decide) (by decide)
  obtain ⟨b2, g2⟩ : ∃ z, z = h0.size := ⟨_, rfl⟩
  rw [← g2] at A2 st2
  have V_b2 : Arv Z h2 b2 k2 .boolean (6 : Int32) [(.int (0 : Int32)), (.int (0 : Int32)), (.int (0 : Int32)), (.int (0 : Int32)), (.int (0 : Int32)), (.int (0 : Int32))] (.int (0 : Int32)) := (Arv.new A2 (by decide)).pad (pad_rep [] (.int (0 : Int32)) 6)
  have g_b2 : n0 ≤ b2 := Nat.le_trans Z0 (Nat.le_of_eq g2.symm)
  have sz_b2 : h0.size ≤ b2 := (Nat.le_trans (Keep.refl h0 []).1 (Nat.le_of_eq g2.symm))
  have K2 : Keep h0 h2 [] := (Keep.refl h0 []).ext E2
  have pre3 : Goes p e below s₁ (entryFrame m #[(.int qx)] maxLocals) T2 (mkF m 12 #[.val (.int qx), .val (.int ((qx &&& (2147483647 : Int32)) % (6 : Int32))), .unset, .unset, .unset] [(.ref b2)]) := fun t kt => pre1 t (st2 t kt)
  have pre4 : Goes p e below s₁ (entryFrame m #[(.int qx)] maxLocals) T2 (mkF m 15 #[.val (.int qx), .val (.int ((qx &&& (2147483647 : Int32)) % (6 : Int32))), .unset, .unset, .unset] [(.int (0 : Int32)), (.int (0 : Int32)), (.ref b2), (.ref b2)]) := fun t kt => pre3 t (by
      show Steps p.tables e below (T2.setTop (mkF m 12 #[.val (.int qx), .val (.int ((qx &&& (2147483647 : Int32)) % (6 : Int32))), .unset, .unset, .unset] [(.ref b2)])) _
      refine XS.dup X2.here hx rfl (hb hby at_12) rfl rfl ?_
      show Steps p.tables e below (T2.setTop (mkF m 13 #[.val (.int qx), .val (.int ((qx &&& (2147483647 : Int32)) % (6 : Int32))), .unset, .unset, .unset] [(.ref b2), (.ref b2)])) _
      refine XS.iconst X2.here hx rfl (hb hby at_13) ?_
      show Steps p.tables e below (T2.setTop (mkF m 14 #[.val (.int qx), .val (.int ((qx &&& (2147483647 : Int32)) % (6 : Int32))), .unset, .unset, .unset] [(.int (0 : Int32)), (.ref b2), (.ref b2)])) _
      refine XS.iconst X2.here hx rfl (hb hby at_14) ?_
      exact kt)
  obtain ⟨cl5, Ar5, q5, S5, N_5, H5, G5⟩ := V_b2
  have hin5 : ¬ ((0 : Int32) < 0 ∨ cl5.slots.size ≤ ((0 : Int32)).toNatClampNeg) := inb_of S5 ⟨by decide, by decide⟩
  obtain ⟨T6, h6, X6, e6, W6, st6⟩ := stZ X2 hx hZ e2 Ar5 (j := (0 : Int32)) hin5 (g := (mkF m 15 #[.val (.int qx), .val (.int ((qx &&& (2147483647 : Int32)) % (6 : Int32))), .unset, .unset, .unset] [(.int (0 : Int32)), (.int (0 : Int32)), (.ref b2), (.ref b2)])) rfl rfl (hb hby at_15)
  have V6 : Arv Z h6 b2 k2 .boolean (6 : Int32) [(.int (0 : Int32)), (.int (0 : Int32)), (.int (0 : Int32)), (.int (0 : Int32)), (.int (0 : Int32)), (.int (0 : Int32))] (.int (0 : Int32)) := Arv.set Ar5 q5 S5 N_5 H5 G5 (fits_nar_bool _) W6 0 rfl (Nat.le_of_ble_eq_true rfl)
  have K6 : Keep h0 h6 [] := K2.wr W6 (Or.inr sz_b2)
  have N6 := Fr.snoc X6 N0 g_b2
  have pre7 : Goes p e below s₁ (entryFrame m #[(.int qx)] maxLocals) T6 (mkF m 16 #[.val (.int qx), .val (.int ((qx &&& (2147483647 : Int32)) % (6 : Int32))), .unset, .unset, .unset] [(.ref b2)]) := fun t kt => pre4 t (st6 t kt)
  have pre8 : Goes p e below s₁ (entryFrame m #[(.int qx)] maxLocals) T6 (mkF m 19 #[.val (.int qx), .val (.int ((qx &&& (2147483647 : Int32)) % (6 : Int32))), .unset, .unset, .unset] [(.int (0 : Int32)), (.int (1 : Int32)), (.ref b2), (.ref b2)]) := fun t kt => pre7 t (by
      show Steps p.tables e below (T6.setTop (mkF m 16 #[.val (.int qx), .val (.int ((qx &&& (2147483647 : Int32)) % (6 : Int32))), .unset, .unset, .unset] [(.ref b2)])) _
      refine XS.dup X6.here hx rfl (hb hby at_16) rfl rfl ?_
      show Steps p.tables e below (T6.setTop (mkF m 17 #[.val (.int qx), .val (.int ((qx &&& (2147483647 : Int32)) % (6 : Int32))), .unset, .unset, .unset] [(.ref b2), (.ref b2)])) _
      refine XS.iconst X6.here hx rfl (hb hby at_17) ?_
      show Steps p.tables e below (T6.setTop (mkF m 18 #[.val (.int qx), .val (.int ((qx &&& (2147483647 : Int32)) % (6 : Int32))), .unset, .unset, .unset] [(.int (1 : Int32)), (.ref b2), (.ref b2)])) _
      refine XS.iconst X6.here hx rfl (hb hby at_18) ?_
      exact kt)
  obtain ⟨cl9, Ar9, q9, S9, N_9, H9, G9⟩ := V6
  have hin9 : ¬ ((1 : Int32) < 0 ∨ cl9.slots.size ≤ ((1 : Int32)).toNatClampNeg) := inb_of S9 ⟨by decide, by decide⟩
  obtain ⟨T10, h10, X10, e10, W10, st10⟩ := stZ X6 hx hZ e6 Ar9 (j := (1 : Int32)) hin9 (g := (mkF m 19 #[.val (.int qx), .val (.int ((qx &&& (2147483647 : Int32)) % (6 : Int32))), .unset, .unset, .unset] [(.int (0 : Int32)), (.int (1 : Int32)), (.ref b2), (.ref b2)])) rfl rfl (hb hby at_19)
  have V10 : Arv Z h10 b2 k2 .boolean (6 : Int32) [(.int (0 : Int32)), (.int (0 : Int32)), (.int (0 : Int32)), (.int (0 : Int32)), (.int (0 : Int32)), (.int (0 : Int32))] (.int (0 : Int32)) := Arv.set Ar9 q9 S9 N_9 H9 G9 (fits_nar_bool _) W10 1 rfl (Nat.le_of_ble_eq_true rfl)
  have K10 : Keep h0 h10 [] := K6.wr W10 (Or.inr sz_b2)
  have N10 := Fr.snoc X10 N6 g_b2
  have pre11 : Goes p e below s₁ (entryFrame m #[(.int qx)] maxLocals) T10 (mkF m 20 #[.val (.int qx), .val (.int ((qx &&& (2147483647 : Int32)) % (6 : Int32))), .unset, .unset, .unset] [(.ref b2)]) := fun t kt => pre8 t (st10 t kt)
  have pre12 : Goes p e below s₁ (entryFrame m #[(.int qx)] maxLocals) T10 (mkF m 23 #[.val (.int qx), .val (.int ((qx &&& (2147483647 : Int32)) % (6 : Int32))), .unset, .unset, .unset] [(.int (0 : Int32)), (.int (2 : Int32)), (.ref b2), (.ref b2)]) := fun t kt => pre11 t (by
      show Steps p.tables e below (T10.setTop (mkF m 20 #[.val (.int qx), .val (.int ((qx &&& (2147483647 : Int32)) % (6 : Int32))), .unset, .unset, .unset] [(.ref b2)])) _
      refine XS.dup X10.here hx rfl (hb hby at_20) rfl rfl ?_
      show Steps p.tables e below (T10.setTop (mkF m 21 #[.val (.int qx), .val (.int ((qx &&& (2147483647 : Int32)) % (6 : Int32))), .unset, .unset, .unset] [(.ref b2), (.ref b2)])) _
      refine XS.iconst X10.here hx rfl (hb hby at_21) ?_
      show Steps p.tables e below (T10.setTop (mkF m 22 #[.val (.int qx), .val (.int ((qx &&& (2147483647 : Int32)) % (6 : Int32))), .unset, .unset, .unset] [(.int (2 : Int32)), (.ref b2), (.ref b2)])) _
      refine XS.iconst X10.here hx rfl (hb hby at_22) ?_
      exact kt)
  obtain ⟨cl13, Ar13, q13, S13, N_13, H13, G13⟩ := V10
  have hin13 : ¬ ((2 : Int32) < 0 ∨ cl13.slots.size ≤ ((2 : Int32)).toNatClampNeg) := inb_of S13 ⟨by decide, by decide⟩
  obtain ⟨T14, h14, X14, e14, W14, st14⟩ := stZ X10 hx hZ e10 Ar13 (j := (2 : Int32)) hin13 (g := (mkF m 23 #[.val (.int qx), .val (.int ((qx &&& (2147483647 : Int32)) % (6 : Int32))), .unset, .unset, .unset] [(.int (0 : Int32)), (.int (2 : Int32)), (.ref b2), (.ref b2)])) rfl rfl (hb hby at_23)
  have V14 : Arv Z h14 b2 k2 .boolean (6 : Int32) [(.int (0 : Int32)), (.int (0 : Int32)), (.int (0 : Int32)), (.int (0 : Int32)), (.int (0 : Int32)), (.int (0 : Int32))] (.int (0 : Int32)) := Arv.set Ar13 q13 S13 N_13 H13 G13 (fits_nar_bool _) W14 2 rfl (Nat.le_of_ble_eq_true rfl)
  have K14 : Keep h0 h14 [] := K10.wr W14 (Or.inr sz_b2)
  have N14 := Fr.snoc X14 N10 g_b2
  have pre15 : Goes p e below s₁ (entryFrame m #[(.int qx)] maxLocals) T14 (mkF m 24 #[.val (.int qx), .val (.int ((qx &&& (2147483647 : Int32)) % (6 : Int32))), .unset, .unset, .unset] [(.ref b2)]) := fun t kt => pre12 t (st14 t kt)
  have pre16 : Goes p e below s₁ (entryFrame m #[(.int qx)] maxLocals) T14 (mkF m 27 #[.val (.int qx), .val (.int ((qx &&& (2147483647 : Int32)) % (6 : Int32))), .unset, .unset, .unset] [(.int (0 : Int32)), (.int (3 : Int32)), (.ref b2), (.ref b2)]) := fun t kt => pre15 t (by
      show Steps p.tables e below (T14.setTop (mkF m 24 #[.val (.int qx), .val (.int ((qx &&& (2147483647 : Int32)) % (6 : Int32))), .unset, .unset, .unset] [(.ref b2)])) _
      refine XS.dup X14.here hx rfl (hb hby at_24) rfl rfl ?_
      show Steps p.tables e below (T14.setTop (mkF m 25 #[.val (.int qx), .val (.int ((qx &&& (2147483647 : Int32)) % (6 : Int32))), .unset, .unset, .unset] [(.ref b2), (.ref b2)])) _
      refine XS.iconst X14.here hx rfl (hb hby at_25) ?_
      show Steps p.tables e below (T14.setTop (mkF m 26 #[.val (.int qx), .val (.int ((qx &&& (2147483647 : Int32)) % (6 : Int32))), .unset, .unset, .unset] [(.int (3 : Int32)), (.ref b2), (.ref b2)])) _
      refine XS.iconst X14.here hx rfl (hb hby at_26) ?_
      exact kt)
  obtain ⟨cl17, Ar17, q17, S17, N_17, H17, G17⟩ := V14
  have hin17 : ¬ ((3 : Int32) < 0 ∨ cl17.slots.size ≤ ((3 : Int32)).toNatClampNeg) := inb_of S17 ⟨by decide, by decide⟩
  obtain ⟨T18, h18, X18, e18, W18, st18⟩ := stZ X14 hx hZ e14 Ar17 (j := (3 : Int32)) hin17 (g := (mkF m 27 #[.val (.int qx), .val (.int ((qx &&& (2147483647 : Int32)) % (6 : Int32))), .unset, .unset, .unset] [(.int (0 : Int32)), (.int (3 : Int32)), (.ref b2), (.ref b2)])) rfl rfl (hb hby at_27)
  have V18 : Arv Z h18 b2 k2 .boolean (6 : Int32) [(.int (0 : Int32)), (.int (0 : Int32)), (.int (0 : Int32)), (.int (0 : Int32)), (.int (0 : Int32)), (.int (0 : Int32))] (.int (0 : Int32)) := Arv.set Ar17 q17 S17 N_17 H17 G17 (fits_nar_bool _) W18 3 rfl (Nat.le_of_ble_eq_true rfl)
  have K18 : Keep h0 h18 [] := K14.wr W18 (Or.inr sz_b2)
  have N18 := Fr.snoc X18 N14 g_b2
  have pre19 : Goes p e below s₁ (entryFrame m #[(.int qx)] maxLocals) T18 (mkF m 28 #[.val (.int qx), .val (.int ((qx &&& (2147483647 : Int32)) % (6 : Int32))), .unset, .unset, .unset] [(.ref b2)]) := fun t kt => pre16 t (st18 t kt)
  have pre20 : Goes p e below s₁ (entryFrame m #[(.int qx)] maxLocals) T18 (mkF m 31 #[.val (.int qx), .val (.int ((qx &&& (2147483647 : Int32)) % (6 : Int32))), .unset, .unset, .unset] [(.int (1 : Int32)), (.int (4 : Int32)), (.ref b2), (.ref b2)]) := fun t kt => pre19 t (by
      show Steps p.tables e below (T18.setTop (mkF m 28 #[.val (.int qx), .val (.int ((qx &&& (2147483647 : Int32)) % (6 : Int32))), .unset, .unset, .unset] [(.ref b2)])) _
      refine XS.dup X18.here hx rfl (hb hby at_28) rfl rfl ?_
      show Steps p.tables e below (T18.setTop (mkF m 29 #[.val (.int qx), .val (.int ((qx &&& (2147483647 : Int32)) % (6 : Int32))), .unset, .unset, .unset] [(.ref b2), (.ref b2)])) _
      refine XS.iconst X18.here hx rfl (hb hby at_29) ?_
      show Steps p.tables e below (T18.setTop (mkF m 30 #[.val (.int qx), .val (.int ((qx &&& (2147483647 : Int32)) % (6 : Int32))), .unset, .unset, .unset] [(.int (4 : Int32)), (.ref b2), (.ref b2)])) _
      refine XS.iconst X18.here hx rfl (hb hby at_30) ?_
      exact kt)
  obtain ⟨cl21, Ar21, q21, S21, N_21, H21, G21⟩ := V18
  have hin21 : ¬ ((4 : Int32) < 0 ∨ cl21.slots.size ≤ ((4 : Int32)).toNatClampNeg) := inb_of S21 ⟨by decide, by decide⟩
  obtain ⟨T22, h22, X22, e22, W22, st22⟩ := stZ X18 hx hZ e18 Ar21 (j := (4 : Int32)) hin21 (g := (mkF m 31 #[.val (.int qx), .val (.int ((qx &&& (2147483647 : Int32)) % (6 : Int32))), .unset, .unset, .unset] [(.int (1 : Int32)), (.int (4 : Int32)), (.ref b2), (.ref b2)])) rfl rfl (hb hby at_31)
  have V22 : Arv Z h22 b2 k2 .boolean (6 : Int32) [(.int (0 : Int32)), (.int (0 : Int32)), (.int (0 : Int32)), (.int (0 : Int32)), (.int (1 : Int32)), (.int (0 : Int32))] (.int (0 : Int32)) := Arv.set Ar21 q21 S21 N_21 H21 G21 (fits_nar_bool _) W22 4 rfl (Nat.le_of_ble_eq_true rfl)
  have K22 : Keep h0 h22 [] := K18.wr W22 (Or.inr sz_b2)
  have N22 := Fr.snoc X22 N18 g_b2
  have pre23 : Goes p e below s₁ (entryFrame m #[(.int qx)] maxLocals) T22 (mkF m 32 #[.val (.int qx), .val (.int ((qx &&& (2147483647 : Int32)) % (6 : Int32))), .unset, .unset, .unset] [(.ref b2)]) := fun t kt => pre20 t (st22 t kt)
  have pre24 : Goes p e below s₁ (entryFrame m #[(.int qx)] maxLocals) T22 (mkF m 35 #[.val (.int qx), .val (.int ((qx &&& (2147483647 : Int32)) % (6 : Int32))), .unset, .unset, .unset] [(.int (1 : Int32)), (.int (5 : Int32)), (.ref b2), (.ref b2)]) := fun t kt => pre23 t (by
      show Steps p.tables e below (T22.setTop (mkF m 32 #[.val (.int qx), .val (.int ((qx &&& (2147483647 : Int32)) % (6 : Int32))), .unset, .unset, .unset] [(.ref b2)])) _
      refine XS.dup X22.here hx rfl (hb hby at_32) rfl rfl ?_
      show Steps p.tables e below (T22.setTop (mkF m 33 #[.val (.int qx), .val (.int ((qx &&& (2147483647 : Int32)) % (6 : Int32))), .unset, .unset, .unset] [(.ref b2), (.ref b2)])) _
      refine XS.iconst X22.here hx rfl (hb hby at_33) ?_
      show Steps p.tables e below (T22.setTop (mkF m 34 #[.val (.int qx), .val (.int ((qx &&& (2147483647 : Int32)) % (6 : Int32))), .unset, .unset, .unset] [(.int (5 : Int32)), (.ref b2), (.ref b2)])) _
      refine XS.iconst X22.here hx rfl (hb hby at_34) ?_
      exact kt)
  obtain ⟨cl25, Ar25, q25, S25, N_25, H25, G25⟩ := V22
  have hin25 : ¬ ((5 : Int32) < 0 ∨ cl25.slots.size ≤ ((5 : Int32)).toNatClampNeg) := inb_of S25 ⟨by decide, by decide⟩
  obtain ⟨T26, h26, X26, e26, W26, st26⟩ := stZ X22 hx hZ e22 Ar25 (j := (5 : Int32)) hin25 (g := (mkF m 35 #[.val (.int qx), .val (.int ((qx &&& (2147483647 : Int32)) % (6 : Int32))), .unset, .unset, .unset] [(.int (1 : Int32)), (.int (5 : Int32)), (.ref b2), (.ref b2)])) rfl rfl (hb hby at_35)
  have V26 : Arv Z h26 b2 k2 .boolean (6 : Int32) [(.int (0 : Int32)), (.int (0 : Int32)), (.int (0 : Int32)), (.int (0 : Int32)), (.int (1 : Int32)), (.int (1 : Int32))] (.int (0 : Int32)) := Arv.set Ar25 q25 S25 N_25 H25 G25 (fits_nar_bool _) W26 5 rfl (Nat.le_of_ble_eq_true rfl)
  have K26 : Keep h0 h26 [] := K22.wr W26 (Or.inr sz_b2)
  have N26 := Fr.snoc X26 N22 g_b2
  have pre27 : Goes p e below s₁ (entryFrame m #[(.int qx)] maxLocals) T26 (mkF m 36 #[.val (.int qx), .val (.int ((qx &&& (2147483647 : Int32)) % (6 : Int32))), .unset, .unset, .unset] [(.ref b2)]) := fun t kt => pre24 t (st26 t kt)
  have pre28 : Goes p e below s₁ (entryFrame m #[(.int qx)] maxLocals) T26 (mkF m 37 #[.val (.int qx), .val (.int ((qx &&& (2147483647 : Int32)) % (6 : Int32))), .val (.ref b2), .unset, .unset] []) := fun t kt => pre27 t (by
      show Steps p.tables e below (T26.setTop (mkF m 36 #[.val (.int qx), .val (.int ((qx &&& (2147483647 : Int32)) % (6 : Int32))), .unset, .unset, .unset] [(.ref b2)])) _
      refine XS.astoreN X26.here hx rfl (hb hby at_36) rfl rfl (l' := #[.val (.int qx), .val (.int ((qx &&& (2147483647 : Int32)) % (6 : Int32))), .val (.ref b2), .unset, .unset]) rfl ?_
      exact kt)
  rcases (own_n1 qx) with hk | hk | hk | hk | hk | hk
  · rw [hk] at pre28
    have pre29 : Goes p e below s₁ (entryFrame m #[(.int qx)] maxLocals) T26 (mkF m 38 #[.val (.int qx), .val (.int (0 : Int32)), .val (.ref b2), .unset, .unset] [(.int (0 : Int32))]) := fun t kt => pre28 t (by
        show Steps p.tables e below (T26.setTop (mkF m 37 #[.val (.int qx), .val (.int (0 : Int32)), .val (.ref b2), .unset, .unset] [])) _
        refine XS.iloadN X26.here hx rfl (hb hby at_37) rfl ?_
        exact kt)
    obtain ⟨_, _, ⟨T30, L30, k30, n30⟩, -, X30, ⟨Lc30, hQ30, l30, y30, z30⟩, st30⟩ := Jvm.LawKit.callS X26 hx (y := (⟨"ratify/TransactionStateByRulePinLaw", "pick", "(I)Lratify/TransactionState;"⟩ : MethodName)) hown (mvT hZ (hw _ (List.mem_of_getElem? (i := 2) rfl))) (mvT hZ (hw _ (List.mem_of_getElem? (i := 3) rfl))) (mvT hZ (hw _ (List.mem_of_getElem? (i := 4) rfl))) (mvT hZ (hw _ (List.mem_of_getElem? (i := 5) rfl))) (by decide) (backOf (W := 0) (own_pick0 l Z a0 hw [] aUNKNOWN h26 n0 (Nat.le_trans (Nat.le_trans (Nat.le_trans (Nat.le_trans (Nat.le_trans (Nat.le_trans (Nat.le_trans Z0 E2.1) (Keep.of_wr W6).1) (Keep.of_wr W10).1) (Keep.of_wr W14).1) (Keep.of_wr W18).1) (Keep.of_wr W22).1) (Keep.of_wr W26).1) (((((((S_UNKNOWN.ext E2).wr W6).wr W10).wr W14).wr W18).wr W22).wr W26)) hZ (hw _ (List.mem_of_getElem? (i := 5) rfl)) (hw _ (List.mem_of_getElem? (i := 4) rfl)) (by decide) (by decide)) (g := (mkF m 38 #[.val (.int qx), .val (.int (0 : Int32)), .val (.ref b2), .unset, .unset] [(.int (0 : Int32))])) rfl (by rw [hml]; rfl) (argsL := [(.int (0 : Int32))]) (rest := []) (lenOf own_pd0 rfl) rfl (by show 2 * 0 + _ ≤ _; exact Nat.le_of_eq rfl) (hb hby at_38) (fun _ _ => ⟨rfl, e26, (by decide : 1 + 0 ≤ _), (by decide : 6 + 0 ≤ _)⟩)
    dsimp only [Pt.U, Pt.locs, Pt.cells, Pt.slots] at X30 l30 y30 z30 st30 hQ30
    subst l30 y30 z30
    obtain ⟨rfl, N30q, e30⟩ := hQ30
    have N30 := Fr.app N26 N30q
    have pre31 : Goes p e below s₁ (entryFrame m #[(.int qx)] maxLocals) T30 (mkF m 41 #[.val (.int qx), .val (.int (0 : Int32)), .val (.ref b2), .unset, .unset] [(.ref aUNKNOWN)]) := fun t kt => pre29 t (st30 t kt)
    have pre32 : Goes p e below s₁ (entryFrame m #[(.int qx)] maxLocals) T30 (mkF m 43 #[.val (.int qx), .val (.int (0 : Int32)), .val (.ref b2), .val (.ref aUNKNOWN), .unset] [(.ref aUNKNOWN)]) := fun t kt => pre31 t (by
        show Steps p.tables e below (T30.setTop (mkF m 41 #[.val (.int qx), .val (.int (0 : Int32)), .val (.ref b2), .unset, .unset] [(.ref aUNKNOWN)])) _
        refine XS.astoreN X30.here hx rfl (hb hby at_41) rfl rfl (l' := #[.val (.int qx), .val (.int (0 : Int32)), .val (.ref b2), .val (.ref aUNKNOWN), .unset]) rfl ?_
        show Steps p.tables e below (T30.setTop (mkF m 42 #[.val (.int qx), .val (.int (0 : Int32)), .val (.ref b2), .val (.ref aUNKNOWN), .unset] [])) _
        refine XS.aloadN X30.here hx rfl (hb hby at_42) rfl rfl ?_
        exact kt)
    obtain ⟨cq33, kq33, q33a, q33b, q33c⟩ := isOf hZ e30 (((((((E_UNKNOWN.ext E2).wr W6).wr W10).wr W14).wr W18).wr W22).wr W26)
    obtain ⟨_, _, ⟨T33, L33, k33, n33⟩, -, X33, ⟨Lc33, hQ33, l33, y33, z33⟩, st33⟩ := X30.virtualBack hx (y := (⟨"ratify/TransactionState", "byRule", "()Z"⟩ : MethodName)) (z := (⟨"ratify/TransactionState", "byRule", "()Z"⟩ : MethodName)) hown (mvT hZ (hw _ (List.mem_of_getElem? (i := 9) rfl))) (mvT hZ (hw _ (List.mem_of_getElem? (i := 10) rfl))) (notFace_of_selects (args := #[]) (mvT hZ (hw _ (List.mem_of_getElem? (i := 12) rfl)))) (mvT hZ (hw _ (List.mem_of_getElem? (i := 12) rfl))) (mvT hZ (hw _ (List.mem_of_getElem? (i := 11) rfl))) (by decide) (backOf (W := 0) (own_byRule l Z a0 hw [] aUNKNOWN aPENDING aDECIDED (0 : Int32) h26 n0 (Nat.le_trans (Nat.le_trans (Nat.le_trans (Nat.le_trans (Nat.le_trans (Nat.le_trans (Nat.le_trans Z0 E2.1) (Keep.of_wr W6).1) (Keep.of_wr W10).1) (Keep.of_wr W14).1) (Keep.of_wr W18).1) (Keep.of_wr W22).1) (Keep.of_wr W26).1) (((((((S_PENDING.ext E2).wr W6).wr W10).wr W14).wr W18).wr W22).wr W26) (((((((S_DECIDED.ext E2).wr W6).wr W10).wr W14).wr W18).wr W22).wr W26) ((if_neg (by simp [ne_UNKNOWN_PENDING, ne_UNKNOWN_DECIDED])).symm)) hZ (hw _ (List.mem_of_getElem? (i := 13) rfl)) (hw _ (List.mem_of_getElem? (i := 7) rfl)) (by decide) (by decide)) q33a q33c (g := (mkF m 43 #[.val (.int qx), .val (.int (0 : Int32)), .val (.ref b2), .val (.ref aUNKNOWN), .unset] [(.ref aUNKNOWN)])) rfl (by rw [hml]; rfl) (Steps.refl _) (argsL := []) (rest := []) (lenOf own_pd1 rfl) rfl (by show 2 * 0 + _ ≤ _; exact Nat.le_of_eq rfl) (hb hby at_43) (fun _ _ => ⟨rfl, e30, (by decide : 1 + 0 ≤ _), (by decide : 6 + 0 ≤ _)⟩)
    dsimp only [Pt.U, Pt.locs, Pt.cells, Pt.slots] at X33 l33 y33 z33 st33 hQ33
    subst l33 y33 z33
    obtain ⟨rfl, N33q, e33⟩ := hQ33
    have N33 := Fr.app N30 N33q
    have pre34 : Goes p e below s₁ (entryFrame m #[(.int qx)] maxLocals) T33 (mkF m 46 #[.val (.int qx), .val (.int (0 : Int32)), .val (.ref b2), .val (.ref aUNKNOWN), .unset] [(.int (0 : Int32))]) := fun t kt => pre32 t (st33.trans kt)
    have pre35 : Goes p e below s₁ (entryFrame m #[(.int qx)] maxLocals) T33 (mkF m 52 #[.val (.int qx), .val (.int (0 : Int32)), .val (.ref b2), .val (.ref aUNKNOWN), .val (.int (0 : Int32))] [(.int (0 : Int32)), (.ref b2), (.int (0 : Int32))]) := fun t kt => pre34 t (by
        show Steps p.tables e below (T33.setTop (mkF m 46 #[.val (.int qx), .val (.int (0 : Int32)), .val (.ref b2), .val (.ref aUNKNOWN), .unset] [(.int (0 : Int32))])) _
        refine XS.istore X33.here hx rfl (hb hby at_46) rfl (l' := #[.val (.int qx), .val (.int (0 : Int32)), .val (.ref b2), .val (.ref aUNKNOWN), .val (.int (0 : Int32))]) rfl ?_
        show Steps p.tables e below (T33.setTop (mkF m 48 #[.val (.int qx), .val (.int (0 : Int32)), .val (.ref b2), .val (.ref aUNKNOWN), .val (.int (0 : Int32))] [])) _
        refine XS.iload X33.here hx rfl (hb hby at_48) rfl ?_
        show Steps p.tables e below (T33.setTop (mkF m 50 #[.val (.int qx), .val (.int (0 : Int32)), .val (.ref b2), .val (.ref aUNKNOWN), .val (.int (0 : Int32))] [(.int (0 : Int32))])) _
        refine XS.aloadN X33.here hx rfl (hb hby at_50) rfl rfl ?_
        show Steps p.tables e below (T33.setTop (mkF m 51 #[.val (.int qx), .val (.int (0 : Int32)), .val (.ref b2), .val (.ref aUNKNOWN), .val (.int (0 : Int32))] [(.ref b2), (.int (0 : Int32))])) _
        refine XS.iloadN X33.here hx rfl (hb hby at_51) rfl ?_
        exact kt)
    obtain ⟨cl36, Ar36, q36, S36, N_36, H36, G36⟩ := V26
    have hin36 : ¬ ((0 : Int32) < 0 ∨ cl36.slots.size ≤ ((0 : Int32)).toNatClampNeg) := inb_of S36 ⟨by decide, by decide⟩
    have hat36 : cl36.slots[((0 : Int32)).toNatClampNeg]? = some (.int (0 : Int32)) := Has.at H36 hin36 rfl
    have pre37 : Goes p e below s₁ (entryFrame m #[(.int qx)] maxLocals) T33 (mkF m 77 #[.val (.int qx), .val (.int (0 : Int32)), .val (.ref b2), .val (.ref aUNKNOWN), .val (.int (0 : Int32))] [(.int (1 : Int32))]) := fun t kt => pre35 t (by
        show Steps p.tables e below (T33.setTop (mkF m 52 #[.val (.int qx), .val (.int (0 : Int32)), .val (.ref b2), .val (.ref aUNKNOWN), .val (.int (0 : Int32))] [(.int (0 : Int32)), (.ref b2), (.int (0 : Int32))])) _
        refine X33.baloadBooleans hx (j := (0 : Int32)) (v := (.int (0 : Int32))) (by rw [e33]; exact Ar36.1) (State.isArrayOf_alike hZ.alike Ar36.2.1) Ar36.2.2 hin36 hat36 (g := (mkF m 52 #[.val (.int qx), .val (.int (0 : Int32)), .val (.ref b2), .val (.ref aUNKNOWN), .val (.int (0 : Int32))] [(.int (0 : Int32)), (.ref b2), (.int (0 : Int32))])) rfl rfl (hb hby at_52) _ ?_
        show Steps p.tables e below (T33.setTop (mkF m 53 #[.val (.int qx), .val (.int (0 : Int32)), .val (.ref b2), .val (.ref aUNKNOWN), .val (.int (0 : Int32))] [(.int (0 : Int32)), (.int (0 : Int32))])) _
        refine XS.icmpYes X33.here hx rfl (pc0 := 53) (pc' := 58) rfl (hb hby at_53) rfl (teq (by decide : (0 : Int32) = (0 : Int32))).1 (by decide) (by decide) ?_
        show Steps p.tables e below (T33.setTop (mkF m 58 #[.val (.int qx), .val (.int (0 : Int32)), .val (.ref b2), .val (.ref aUNKNOWN), .val (.int (0 : Int32))] [])) _
        refine XS.iload X33.here hx rfl (hb hby at_58) rfl ?_
        show Steps p.tables e below (T33.setTop (mkF m 60 #[.val (.int qx), .val (.int (0 : Int32)), .val (.ref b2), .val (.ref aUNKNOWN), .val (.int (0 : Int32))] [(.int (0 : Int32))])) _
        refine XS.ifYes X33.here hx rfl (pc0 := 60) (pc' := 76) rfl (hb hby at_60) rfl ((if0 _ _).trans (teq (by decide : (0 : Int32) = (0 : Int32))).1) (by decide) (by decide) ?_
        show Steps p.tables e below (T33.setTop (mkF m 76 #[.val (.int qx), .val (.int (0 : Int32)), .val (.ref b2), .val (.ref aUNKNOWN), .val (.int (0 : Int32))] [])) _
        refine XS.iconst X33.here hx rfl (hb hby at_76) ?_
        exact kt)
    obtain ⟨fs, hr, hrun, hended, hW, hsame⟩ := X33.leave (v := some (.int (1 : Int32))) (fun h => by rw [Bd.returns] at h; cases h)
    refine ⟨_, _, pre37 _ ?_, hrun, hended, _, _, rfl, ?_, ⟨_, rfl⟩, hW, hsame.mono (by decide) (by decide)⟩
    · show Steps p.tables e below (T33.setTop (mkF m 77 #[.val (.int qx), .val (.int (0 : Int32)), .val (.ref b2), .val (.ref aUNKNOWN), .val (.int (0 : Int32))] [(.int (1 : Int32))])) _
      exact retN X33 hx (t := .boolean) Bd.returns (by simp) (hb hby at_77) hr
    · show Q_own_rm0 Z qx aUNKNOWN aPREPARED aCOMMITTED aABORTED aPENDING aDECIDED h0 n0 _ T33.heap _
      rw [e33]
      exact ⟨rfl, N33⟩
  · rw [hk] at pre28
    have pre38 : Goes p e below s₁ (entryFrame m #[(.int qx)] maxLocals) T26 (mkF m 38 #[.val (.int qx), .val (.int (1 : Int32)), .val (.ref b2), .unset, .unset] [(.int (1 : Int32))]) := fun t kt => pre28 t (by
        show Steps p.tables e below (T26.setTop (mkF m 37 #[.val (.int qx), .val (.int (1 : Int32)), .val (.ref b2), .unset, .unset] [])) _
        refine XS.iloadN X26.here hx rfl (hb hby at_37) rfl ?_
        exact kt)
    obtain ⟨_, _, ⟨T39, L39, k39, n39⟩, -, X39, ⟨Lc39, hQ39, l39, y39, z39⟩, st39⟩ := Jvm.LawKit.callS X26 hx (y := (⟨"ratify/TransactionStateByRulePinLaw", "pick", "(I)Lratify/TransactionState;"⟩ : MethodName)) hown (mvT hZ (hw _ (List.mem_of_getElem? (i := 2) rfl))) (mvT hZ (hw _ (List.mem_of_getElem? (i := 3) rfl))) (mvT hZ (hw _ (List.mem_of_getElem? (i := 4) rfl))) (mvT hZ (hw _ (List.mem_of_getElem? (i := 5) rfl))) (by decide) (backOf (W := 0) (own_pick1 l Z a0 hw [] aPREPARED h26 n0 (Nat.le_trans (Nat.le_trans (Nat.le_trans (Nat.le_trans (Nat.le_trans (Nat.le_trans (Nat.le_trans Z0 E2.1) (Keep.of_wr W6).1) (Keep.of_wr W10).1) (Keep.of_wr W14).1) (Keep.of_wr W18).1) (Keep.of_wr W22).1) (Keep.of_wr W26).1) (((((((S_PREPARED.ext E2).wr W6).wr W10).wr W14).wr W18).wr W22).wr W26)) hZ (hw _ (List.mem_of_getElem? (i := 5) rfl)) (hw _ (List.mem_of_getElem? (i := 4) rfl)) (by decide) (by decide)) (g := (mkF m 38 #[.val (.int qx), .val (.int (1 : Int32)), .val (.ref b2), .unset, .unset] [(.int (1 : Int32))])) rfl (by rw [hml]; rfl) (argsL := [(.int (1 : Int32))]) (rest := []) (lenOf own_pd0 rfl) rfl (by show 2 * 0 + _ ≤ _; exact Nat.le_of_eq rfl) (hb hby at_38) (fun _ _ => ⟨rfl, e26, (by decide : 1 + 0 ≤ _), (by decide : 6 + 0 ≤ _)⟩)
    dsimp only [Pt.U, Pt.locs, Pt.cells, Pt.slots] at X39 l39 y39 z39 st39 hQ39
    subst l39 y39 z39
    obtain ⟨rfl, N39q, e39⟩ := hQ39
    have N39 := Fr.app N26 N39q
    have pre40 : Goes p e below s₁ (entryFrame m #[(.int qx)] maxLocals) T39 (mkF m 41 #[.val (.int qx), .val (.int (1 : Int32)), .val (.ref b2), .unset, .unset] [(.ref aPREPARED)]) := fun t kt => pre38 t (st39 t kt)
    have pre41 : Goes p e below s₁ (entryFrame m #[(.int qx)] maxLocals) T39 (mkF m 43 #[.val (.int qx), .val (.int (1 : Int32)), .val (.ref b2), .val (.ref aPREPARED), .unset] [(.ref aPREPARED)]) := fun t kt => pre40 t (by
        show Steps p.tables e below (T39.setTop (mkF m 41 #[.val (.int qx), .val (.int (1 : Int32)), .val (.ref b2), .unset, .unset] [(.ref aPREPARED)])) _
        refine XS.astoreN X39.here hx rfl (hb hby at_41) rfl rfl (l' := #[.val (.int qx), .val (.int (1 : Int32)), .val (.ref b2), .val (.ref aPREPARED), .unset]) rfl ?_
        show Steps p.tables e below (T39.setTop (mkF m 42 #[.val (.int qx), .val (.int (1 : Int32)), .val (.ref b2), .val (.ref aPREPARED), .unset] [])) _
        refine XS.aloadN X39.here hx rfl (hb hby at_42) rfl rfl ?_
        exact kt)
    obtain ⟨cq42, kq42, q42a, q42b, q42c⟩ := isOf hZ e39 (((((((E_PREPARED.ext E2).wr W6).wr W10).wr W14).wr W18).wr W22).wr W26)
    obtain ⟨_, _, ⟨T42, L42, k42, n42⟩, -, X42, ⟨Lc42, hQ42, l42, y42, z42⟩, st42⟩ := X39.virtualBack hx (y := (⟨"ratify/TransactionState", "byRule", "()Z"⟩ : MethodName)) (z := (⟨"ratify/TransactionState", "byRule", "()Z"⟩ : MethodName)) hown (mvT hZ (hw _ (List.mem_of_getElem? (i := 9) rfl))) (mvT hZ (hw _ (List.mem_of_getElem? (i := 10) rfl))) (notFace_of_selects (args := #[]) (mvT hZ (hw _ (List.mem_of_getElem? (i := 12) rfl)))) (mvT hZ (hw _ (List.mem_of_getElem? (i := 12) rfl))) (mvT hZ (hw _ (List.mem_of_getElem? (i := 11) rfl))) (by decide) (backOf (W := 0) (own_byRule l Z a0 hw [] aPREPARED aPENDING aDECIDED (0 : Int32) h26 n0 (Nat.le_trans (Nat.le_trans (Nat.le_trans (Nat.le_trans (Nat.le_trans (Nat.le_trans (Nat.le_trans Z0 E2.1) (Keep.of_wr W6).1) (Keep.of_wr W10).1) (Keep.of_wr W14).1) (Keep.of_wr W18).1) (Keep.of_wr W22).1) (Keep.of_wr W26).1) (((((((S_PENDING.ext E2).wr W6).wr W10).wr W14).wr W18).wr W22).wr W26) (((((((S_DECIDED.ext E2).wr W6).wr W10).wr W14).wr W18).wr W22).wr W26) ((if_neg (by simp [ne_PREPARED_PENDING, ne_PREPARED_DECIDED])).symm)) hZ (hw _ (List.mem_of_getElem? (i := 13) rfl)) (hw _ (List.mem_of_getElem? (i := 7) rfl)) (by decide) (by decide)) q42a q42c (g := (mkF m 43 #[.val (.int qx), .val (.int (1 : Int32)), .val (.ref b2), .val (.ref aPREPARED), .unset] [(.ref aPREPARED)])) rfl (by rw [hml]; rfl) (Steps.refl _) (argsL := []) (rest := []) (lenOf own_pd1 rfl) rfl (by show 2 * 0 + _ ≤ _; exact Nat.le_of_eq rfl) (hb hby at_43) (fun _ _ => ⟨rfl, e39, (by decide : 1 + 0 ≤ _), (by decide : 6 + 0 ≤ _)⟩)
    dsimp only [Pt.U, Pt.locs, Pt.cells, Pt.slots] at X42 l42 y42 z42 st42 hQ42
    subst l42 y42 z42
    obtain ⟨rfl, N42q, e42⟩ := hQ42
    have N42 := Fr.app N39 N42q
    have pre43 : Goes p e below s₁ (entryFrame m #[(.int qx)] maxLocals) T42 (mkF m 46 #[.val (.int qx), .val (.int (1 : Int32)), .val (.ref b2), .val (.ref aPREPARED), .unset] [(.int (0 : Int32))]) := fun t kt => pre41 t (st42.trans kt)
    have pre44 : Goes p e below s₁ (entryFrame m #[(.int qx)] maxLocals) T42 (mkF m 52 #[.val (.int qx), .val (.int (1 : Int32)), .val (.ref b2), .val (.ref aPREPARED), .val (.int (0 : Int32))] [(.int (1 : Int32)), (.ref b2), (.int (0 : Int32))]) := fun t kt => pre43 t (by
        show Steps p.tables e below (T42.setTop (mkF m 46 #[.val (.int qx), .val (.int (1 : Int32)), .val (.ref b2), .val (.ref aPREPARED), .unset] [(.int (0 : Int32))])) _
        refine XS.istore X42.here hx rfl (hb hby at_46) rfl (l' := #[.val (.int qx), .val (.int (1 : Int32)), .val (.ref b2), .val (.ref aPREPARED), .val (.int (0 : Int32))]) rfl ?_
        show Steps p.tables e below (T42.setTop (mkF m 48 #[.val (.int qx), .val (.int (1 : Int32)), .val (.ref b2), .val (.ref aPREPARED), .val (.int (0 : Int32))] [])) _
        refine XS.iload X42.here hx rfl (hb hby at_48) rfl ?_
        show Steps p.tables e below (T42.setTop (mkF m 50 #[.val (.int qx), .val (.int (1 : Int32)), .val (.ref b2), .val (.ref aPREPARED), .val (.int (0 : Int32))] [(.int (0 : Int32))])) _
        refine XS.aloadN X42.here hx rfl (hb hby at_50) rfl rfl ?_
        show Steps p.tables e below (T42.setTop (mkF m 51 #[.val (.int qx), .val (.int (1 : Int32)), .val (.ref b2), .val (.ref aPREPARED), .val (.int (0 : Int32))] [(.ref b2), (.int (0 : Int32))])) _
        refine XS.iloadN X42.here hx rfl (hb hby at_51) rfl ?_
        exact kt)
    obtain ⟨cl45, Ar45, q45, S45, N_45, H45, G45⟩ := V26
    have hin45 : ¬ ((1 : Int32) < 0 ∨ cl45.slots.size ≤ ((1 : Int32)).toNatClampNeg) := inb_of S45 ⟨by decide, by decide⟩
    have hat45 : cl45.slots[((1 : Int32)).toNatClampNeg]? = some (.int (0 : Int32)) := Has.at H45 hin45 rfl
    have pre46 : Goes p e below s₁ (entryFrame m #[(.int qx)] maxLocals) T42 (mkF m 77 #[.val (.int qx), .val (.int (1 : Int32)), .val (.ref b2), .val (.ref aPREPARED), .val (.int (0 : Int32))] [(.int (1 : Int32))]) := fun t kt => pre44 t (by
        show Steps p.tables e below (T42.setTop (mkF m 52 #[.val (.int qx), .val (.int (1 : Int32)), .val (.ref b2), .val (.ref aPREPARED), .val (.int (0 : Int32))] [(.int (1 : Int32)), (.ref b2), (.int (0 : Int32))])) _
        refine X42.baloadBooleans hx (j := (1 : Int32)) (v := (.int (0 : Int32))) (by rw [e42]; exact Ar45.1) (State.isArrayOf_alike hZ.alike Ar45.2.1) Ar45.2.2 hin45 hat45 (g := (mkF m 52 #[.val (.int qx), .val (.int (1 : Int32)), .val (.ref b2), .val (.ref aPREPARED), .val (.int (0 : Int32))] [(.int (1 : Int32)), (.ref b2), (.int (0 : Int32))])) rfl rfl (hb hby at_52) _ ?_
        show Steps p.tables e below (T42.setTop (mkF m 53 #[.val (.int qx), .val (.int (1 : Int32)), .val (.ref b2), .val (.ref aPREPARED), .val (.int (0 : Int32))] [(.int (0 : Int32)), (.int (0 : Int32))])) _
        refine XS.icmpYes X42.here hx rfl (pc0 := 53) (pc' := 58) rfl (hb hby at_53) rfl (teq (by decide : (0 : Int32) = (0 : Int32))).1 (by decide) (by decide) ?_
        show Steps p.tables e below (T42.setTop (mkF m 58 #[.val (.int qx), .val (.int (1 : Int32)), .val (.ref b2), .val (.ref aPREPARED), .val (.int (0 : Int32))] [])) _
        refine XS.iload X42.here hx rfl (hb hby at_58) rfl ?_
        show Steps p.tables e below (T42.setTop (mkF m 60 #[.val (.int qx), .val (.int (1 : Int32)), .val (.ref b2), .val (.ref aPREPARED), .val (.int (0 : Int32))] [(.int (0 : Int32))])) _
        refine XS.ifYes X42.here hx rfl (pc0 := 60) (pc' := 76) rfl (hb hby at_60) rfl ((if0 _ _).trans (teq (by decide : (0 : Int32) = (0 : Int32))).1) (by decide) (by decide) ?_
        show Steps p.tables e below (T42.setTop (mkF m 76 #[.val (.int qx), .val (.int (1 : Int32)), .val (.ref b2), .val (.ref aPREPARED), .val (.int (0 : Int32))] [])) _
        refine XS.iconst X42.here hx rfl (hb hby at_76) ?_
        exact kt)
    obtain ⟨fs, hr, hrun, hended, hW, hsame⟩ := X42.leave (v := some (.int (1 : Int32))) (fun h => by rw [Bd.returns] at h; cases h)
    refine ⟨_, _, pre46 _ ?_, hrun, hended, _, _, rfl, ?_, ⟨_, rfl⟩, hW, hsame.mono (by decide) (by decide)⟩
    · show Steps p.tables e below (T42.setTop (mkF m 77 #[.val (.int qx), .val (.int (1 : Int32)), .val (.ref b2), .val (.ref aPREPARED), .val (.int (0 : Int32))] [(.int (1 : Int32))])) _
      exact retN X42 hx (t := .boolean) Bd.returns (by simp) (hb hby at_77) hr
    · show Q_own_rm0 Z qx aUNKNOWN aPREPARED aCOMMITTED aABORTED aPENDING aDECIDED h0 n0 _ T42.heap _
      rw [e42]
      exact ⟨rfl, N42⟩
  · rw [hk] at pre28
    have pre47 : Goes p e below s₁ (entryFrame m #[(.int qx)] maxLocals) T26 (mkF m 38 #[.val (.int qx), .val (.int (2 : Int32)), .val (.ref b2), .unset, .unset] [(.int (2 : Int32))]) := fun t kt => pre28 t (by
        show Steps p.tables e below (T26.setTop (mkF m 37 #[.val (.int qx), .val (.int (2 : Int32)), .val (.ref b2), .unset, .unset] [])) _
        refine XS.iloadN X26.here hx rfl (hb hby at_37) rfl ?_
        exact kt)
    obtain ⟨_, _, ⟨T48, L48, k48, n48⟩, -, X48, ⟨Lc48, hQ48, l48, y48, z48⟩, st48⟩ := Jvm.LawKit.callS X26 hx (y := (⟨"ratify/TransactionStateByRulePinLaw", "pick", "(I)Lratify/TransactionState;"⟩ : MethodName)) hown (mvT hZ (hw _ (List.mem_of_getElem? (i := 2) rfl))) (mvT hZ (hw _ (List.mem_of_getElem? (i := 3) rfl))) (mvT hZ (hw _ (List.mem_of_getElem? (i := 4) rfl))) (mvT hZ (hw _ (List.mem_of_getElem? (i := 5) rfl))) (by decide) (backOf (W := 0) (own_pick2 l Z a0 hw [] aCOMMITTED h26 n0 (Nat.le_trans (Nat.le_trans (Nat.le_trans (Nat.le_trans (Nat.le_trans (Nat.le_trans (Nat.le_trans Z0 E2.1) (Keep.of_wr W6).1) (Keep.of_wr W10).1) (Keep.of_wr W14).1) (Keep.of_wr W18).1) (Keep.of_wr W22).1) (Keep.of_wr W26).1) (((((((S_COMMITTED.ext E2).wr W6).wr W10).wr W14).wr W18).wr W22).wr W26)) hZ (hw _ (List.mem_of_getElem? (i := 5) rfl)) (hw _ (List.mem_of_getElem? (i := 4) rfl)) (by decide) (by decide)) (g := (mkF m 38 #[.val (.int qx), .val (.int (2 : Int32)), .val (.ref b2), .unset, .unset] [(.int (2 : Int32))])) rfl (by rw [hml]; rfl) (argsL := [(.int (2 : Int32))]) (rest := []) (lenOf own_pd0 rfl) rfl (by show 2 * 0 + _ ≤ _; exact Nat.le_of_eq rfl) (hb hby at_38) (fun _ _ => ⟨rfl, e26, (by decide : 1 + 0 ≤ _), (by decide : 6 + 0 ≤ _)⟩)
    dsimp only [Pt.U, Pt.locs, Pt.cells, Pt.slots] at X48 l48 y48 z48 st48 hQ48
    subst l48 y48 z48
    obtain ⟨rfl, N48q, e48⟩ := hQ48
    have N48 := Fr.app N26 N48q
    have pre49 : Goes p e below s₁ (entryFrame m #[(.int qx)] maxLocals) T48 (mkF m 41 #[.val (.int qx), .val (.int (2 : Int32)), .val (.ref b2), .unset, .unset] [(.ref aCOMMITTED)]) := fun t kt => pre47 t (st48 t kt)
    have pre50 : Goes p e below s₁ (entryFrame m #[(.int qx)] maxLocals) T48 (mkF m 43 #[.val (.int qx), .val (.int (2 : Int32)), .val (.ref b2), .val (.ref aCOMMITTED), .unset] [(.ref aCOMMITTED)]) := fun t kt => pre49 t (by
        show Steps p.tables e below (T48.setTop (mkF m 41 #[.val (.int qx), .val (.int (2 : Int32)), .val (.ref b2), .unset, .unset] [(.ref aCOMMITTED)])) _
        refine XS.astoreN X48.here hx rfl (hb hby at_41) rfl rfl (l' := #[.val (.int qx), .val (.int (2 : Int32)), .val (.ref b2), .val (.ref aCOMMITTED), .unset]) rfl ?_
        show Steps p.tables e below (T48.setTop (mkF m 42 #[.val (.int qx), .val (.int (2 : Int32)), .val (.ref b2), .val (.ref aCOMMITTED), .unset] [])) _
        refine XS.aloadN X48.here hx rfl (hb hby at_42) rfl rfl ?_
        exact kt)
    obtain ⟨cq51, kq51, q51a, q51b, q51c⟩ := isOf hZ e48 (((((((E_COMMITTED.ext E2).wr W6).wr W10).wr W14).wr W18).wr W22).wr W26)
    obtain ⟨_, _, ⟨T51, L51, k51, n51⟩, -, X51, ⟨Lc51, hQ51, l51, y51, z51⟩, st51⟩ := X48.virtualBack hx (y := (⟨"ratify/TransactionState", "byRule", "()Z"⟩ : MethodName)) (z := (⟨"ratify/TransactionState", "byRule", "()Z"⟩ : MethodName)) hown (mvT hZ (hw _ (List.mem_of_getElem? (i := 9) rfl))) (mvT hZ (hw _ (List.mem_of_getElem? (i := 10) rfl))) (notFace_of_selects (args := #[]) (mvT hZ (hw _ (List.mem_of_getElem? (i := 12) rfl)))) (mvT hZ (hw _ (List.mem_of_getElem? (i := 12) rfl))) (mvT hZ (hw _ (List.mem_of_getElem? (i := 11) rfl))) (by decide) (backOf (W := 0) (own_byRule l Z a0 hw [] aCOMMITTED aPENDING aDECIDED (0 : Int32) h26 n0 (Nat.le_trans (Nat.le_trans (Nat.le_trans (Nat.le_trans (Nat.le_trans (Nat.le_trans (Nat.le_trans Z0 E2.1) (Keep.of_wr W6).1) (Keep.of_wr W10).1) (Keep.of_wr W14).1) (Keep.of_wr W18).1) (Keep.of_wr W22).1) (Keep.of_wr W26).1) (((((((S_PENDING.ext E2).wr W6).wr W10).wr W14).wr W18).wr W22).wr W26) (((((((S_DECIDED.ext E2).wr W6).wr W10).wr W14).wr W18).wr W22).wr W26) ((if_neg (by simp [ne_COMMITTED_PENDING, ne_COMMITTED_DECIDED])).symm)) hZ (hw _ (List.mem_of_getElem? (i := 13) rfl)) (hw _ (List.mem_of_getElem? (i := 7) rfl)) (by decide) (by decide)) q51a q51c (g := (mkF m 43 #[.val (.int qx), .val (.int (2 : Int32)), .val (.ref b2), .val (.ref aCOMMITTED), .unset] [(.ref aCOMMITTED)])) rfl (by rw [hml]; rfl) (Steps.refl _) (argsL := []) (rest := []) (lenOf own_pd1 rfl) rfl (by show 2 * 0 + _ ≤ _; exact Nat.le_of_eq rfl) (hb hby at_43) (fun _ _ => ⟨rfl, e48, (by decide : 1 + 0 ≤ _), (by decide : 6 + 0 ≤ _)⟩)
    dsimp only [Pt.U, Pt.locs, Pt.cells, Pt.slots] at X51 l51 y51 z51 st51 hQ51
    subst l51 y51 z51
    obtain ⟨rfl, N51q, e51⟩ := hQ51
    have N51 := Fr.app N48 N51q
    have pre52 : Goes p e below s₁ (entryFrame m #[(.int qx)] maxLocals) T51 (mkF m 46 #[.val (.int qx), .val (.int (2 : Int32)), .val (.ref b2), .val (.ref aCOMMITTED), .unset] [(.int (0 : Int32))]) := fun t kt => pre50 t (st51.trans kt)
    have pre53 : Goes p e below s₁ (entryFrame m #[(.int qx)] maxLocals) T51 (mkF m 52 #[.val (.int qx), .val (.int (2 : Int32)), .val (.ref b2), .val (.ref aCOMMITTED), .val (.int (0 : Int32))] [(.int (2 : Int32)), (.ref b2), (.int (0 : Int32))]) := fun t kt => pre52 t (by
        show Steps p.tables e below (T51.setTop (mkF m 46 #[.val (.int qx), .val (.int (2 : Int32)), .val (.ref b2), .val (.ref aCOMMITTED), .unset] [(.int (0 : Int32))])) _
        refine XS.istore X51.here hx rfl (hb hby at_46) rfl (l' := #[.val (.int qx), .val (.int (2 : Int32)), .val (.ref b2), .val (.ref aCOMMITTED), .val (.int (0 : Int32))]) rfl ?_
        show Steps p.tables e below (T51.setTop (mkF m 48 #[.val (.int qx), .val (.int (2 : Int32)), .val (.ref b2), .val (.ref aCOMMITTED), .val (.int (0 : Int32))] [])) _
        refine XS.iload X51.here hx rfl (hb hby at_48) rfl ?_
        show Steps p.tables e below (T51.setTop (mkF m 50 #[.val (.int qx), .val (.int (2 : Int32)), .val (.ref b2), .val (.ref aCOMMITTED), .val (.int (0 : Int32))] [(.int (0 : Int32))])) _
        refine XS.aloadN X51.here hx rfl (hb hby at_50) rfl rfl ?_
        show Steps p.tables e below (T51.setTop (mkF m 51 #[.val (.int qx), .val (.int (2 : Int32)), .val (.ref b2), .val (.ref aCOMMITTED), .val (.int (0 : Int32))] [(.ref b2), (.int (0 : Int32))])) _
        refine XS.iloadN X51.here hx rfl (hb hby at_51) rfl ?_
        exact kt)
    obtain ⟨cl54, Ar54, q54, S54, N_54, H54, G54⟩ := V26
    have hin54 : ¬ ((2 : Int32) < 0 ∨ cl54.slots.size ≤ ((2 : Int32)).toNatClampNeg) := inb_of S54 ⟨by decide, by decide⟩
    have hat54 : cl54.slots[((2 : Int32)).toNatClampNeg]? = some (.int (0 : Int32)) := Has.at H54 hin54 rfl
    have pre55 : Goes p e below s₁ (entryFrame m #[(.int qx)] maxLocals) T51 (mkF m 77 #[.val (.int qx), .val (.int (2 : Int32)), .val (.ref b2), .val (.ref aCOMMITTED), .val (.int (0 : Int32))] [(.int (1 : Int32))]) := fun t kt => pre53 t (by
        show Steps p.tables e below (T51.setTop (mkF m 52 #[.val (.int qx), .val (.int (2 : Int32)), .val (.ref b2), .val (.ref aCOMMITTED), .val (.int (0 : Int32))] [(.int (2 : Int32)), (.ref b2), (.int (0 : Int32))])) _
        refine X51.baloadBooleans hx (j := (2 : Int32)) (v := (.int (0 : Int32))) (by rw [e51]; exact Ar54.1) (State.isArrayOf_alike hZ.alike Ar54.2.1) Ar54.2.2 hin54 hat54 (g := (mkF m 52 #[.val (.int qx), .val (.int (2 : Int32)), .val (.ref b2), .val (.ref aCOMMITTED), .val (.int (0 : Int32))] [(.int (2 : Int32)), (.ref b2), (.int (0 : Int32))])) rfl rfl (hb hby at_52) _ ?_
        show Steps p.tables e below (T51.setTop (mkF m 53 #[.val (.int qx), .val (.int (2 : Int32)), .val (.ref b2), .val (.ref aCOMMITTED), .val (.int (0 : Int32))] [(.int (0 : Int32)), (.int (0 : Int32))])) _
        refine XS.icmpYes X51.here hx rfl (pc0 := 53) (pc' := 58) rfl (hb hby at_53) rfl (teq (by decide : (0 : Int32) = (0 : Int32))).1 (by decide) (by decide) ?_
        show Steps p.tables e below (T51.setTop (mkF m 58 #[.val (.int qx), .val (.int (2 : Int32)), .val (.ref b2), .val (.ref aCOMMITTED), .val (.int (0 : Int32))] [])) _
        refine XS.iload X51.here hx rfl (hb hby at_58) rfl ?_
        show Steps p.tables e below (T51.setTop (mkF m 60 #[.val (.int qx), .val (.int (2 : Int32)), .val (.ref b2), .val (.ref aCOMMITTED), .val (.int (0 : Int32))] [(.int (0 : Int32))])) _
        refine XS.ifYes X51.here hx rfl (pc0 := 60) (pc' := 76) rfl (hb hby at_60) rfl ((if0 _ _).trans (teq (by decide : (0 : Int32) = (0 : Int32))).1) (by decide) (by decide) ?_
        show Steps p.tables e below (T51.setTop (mkF m 76 #[.val (.int qx), .val (.int (2 : Int32)), .val (.ref b2), .val (.ref aCOMMITTED), .val (.int (0 : Int32))] [])) _
        refine XS.iconst X51.here hx rfl (hb hby at_76) ?_
        exact kt)
    obtain ⟨fs, hr, hrun, hended, hW, hsame⟩ := X51.leave (v := some (.int (1 : Int32))) (fun h => by rw [Bd.returns] at h; cases h)
    refine ⟨_, _, pre55 _ ?_, hrun, hended, _, _, rfl, ?_, ⟨_, rfl⟩, hW, hsame.mono (by decide) (by decide)⟩
    · show Steps p.tables e below (T51.setTop (mkF m 77 #[.val (.int qx), .val (.int (2 : Int32)), .val (.ref b2), .val (.ref aCOMMITTED), .val (.int (0 : Int32))] [(.int (1 : Int32))])) _
      exact retN X51 hx (t := .boolean) Bd.returns (by simp) (hb hby at_77) hr
    · show Q_own_rm0 Z qx aUNKNOWN aPREPARED aCOMMITTED aABORTED aPENDING aDECIDED h0 n0 _ T51.heap _
      rw [e51]
      exact ⟨rfl, N51⟩
  · rw [hk] at pre28
    have pre56 : Goes p e below s₁ (entryFrame m #[(.int qx)] maxLocals) T26 (mkF m 38 #[.val (.int qx), .val (.int (3 : Int32)), .val (.ref b2), .unset, .unset] [(.int (3 : Int32))]) := fun t kt => pre28 t (by
        show Steps p.tables e below (T26.setTop (mkF m 37 #[.val (.int qx), .val (.int (3 : Int32)), .val (.ref b2), .unset, .unset] [])) _
        refine XS.iloadN X26.here hx rfl (hb hby at_37) rfl ?_
        exact kt)
    obtain ⟨_, _, ⟨T57, L57, k57, n57⟩, -, X57, ⟨Lc57, hQ57, l57, y57, z57⟩, st57⟩ := Jvm.LawKit.callS X26 hx (y := (⟨"ratify/TransactionStateByRulePinLaw", "pick", "(I)Lratify/TransactionState;"⟩ : MethodName)) hown (mvT hZ (hw _ (List.mem_of_getElem? (i := 2) rfl))) (mvT hZ (hw _ (List.mem_of_getElem? (i := 3) rfl))) (mvT hZ (hw _ (List.mem_of_getElem? (i := 4) rfl))) (mvT hZ (hw _ (List.mem_of_getElem? (i := 5) rfl))) (by decide) (backOf (W := 0) (own_pick3 l Z a0 hw [] aABORTED h26 n0 (Nat.le_trans (Nat.le_trans (Nat.le_trans (Nat.le_trans (Nat.le_trans (Nat.le_trans (Nat.le_trans Z0 E2.1) (Keep.of_wr W6).1) (Keep.of_wr W10).1) (Keep.of_wr W14).1) (Keep.of_wr W18).1) (Keep.of_wr W22).1) (Keep.of_wr W26).1) (((((((S_ABORTED.ext E2).wr W6).wr W10).wr W14).wr W18).wr W22).wr W26)) hZ (hw _ (List.mem_of_getElem? (i := 5) rfl)) (hw _ (List.mem_of_getElem? (i := 4) rfl)) (by decide) (by decide)) (g := (mkF m 38 #[.val (.int qx), .val (.int (3 : Int32)), .val (.ref b2), .unset, .unset] [(.int (3 : Int32))])) rfl (by rw [hml]; rfl) (argsL := [(.int (3 : Int32))]) (rest := []) (lenOf own_pd0 rfl) rfl (by show 2 * 0 + _ ≤ _; exact Nat.le_of_eq rfl) (hb hby at_38) (fun _ _ => ⟨rfl, e26, (by decide : 1 + 0 ≤ _), (by decide : 6 + 0 ≤ _)⟩)
    dsimp only [Pt.U, Pt.locs, Pt.cells, Pt.slots] at X57 l57 y57 z57 st57 hQ57
    subst l57 y57 z57
    obtain ⟨rfl, N57q, e57⟩ := hQ57
    have N57 := Fr.app N26 N57q
    have pre58 : Goes p e below s₁ (entryFrame m #[(.int qx)] maxLocals) T57 (mkF m 41 #[.val (.int qx), .val (.int (3 : Int32)), .val (.ref b2), .unset, .unset] [(.ref aABORTED)]) := fun t kt => pre56 t (st57 t kt)
    have pre59 : Goes p e below s₁ (entryFrame m #[(.int qx)] maxLocals) T57 (mkF m 43 #[.val (.int qx), .val (.int (3 : Int32)), .val (.ref b2), .val (.ref aABORTED), .unset] [(.ref aABORTED)]) := fun t kt => pre58 t (by
        show Steps p.tables e below (T57.setTop (mkF m 41 #[.val (.int qx), .val (.int (3 : Int32)), .val (.ref b2), .unset, .unset] [(.ref aABORTED)])) _
        refine XS.astoreN X57.here hx rfl (hb hby at_41) rfl rfl (l' := #[.val (.int qx), .val (.int (3 : Int32)), .val (.ref b2), .val (.ref aABORTED), .unset]) rfl ?_
        show Steps p.tables e below (T57.setTop (mkF m 42 #[.val (.int qx), .val (.int (3 : Int32)), .val (.ref b2), .val (.ref aABORTED), .unset] [])) _
        refine XS.aloadN X57.here hx rfl (hb hby at_42) rfl rfl ?_
        exact kt)
    obtain ⟨cq60, kq60, q60a, q60b, q60c⟩ := isOf hZ e57 (((((((E_ABORTED.ext E2).wr W6).wr W10).wr W14).wr W18).wr W22).wr W26)
    obtain ⟨_, _, ⟨T60, L60, k60, n60⟩, -, X60, ⟨Lc60, hQ60, l60, y60, z60⟩, st60⟩ := X57.virtualBack hx (y := (⟨"ratify/TransactionState", "byRule", "()Z"⟩ : MethodName)) (z := (⟨"ratify/TransactionState", "byRule", "()Z"⟩ : MethodName)) hown (mvT hZ (hw _ (List.mem_of_getElem? (i := 9) rfl))) (mvT hZ (hw _ (List.mem_of_getElem? (i := 10) rfl))) (notFace_of_selects (args := #[]) (mvT hZ (hw _ (List.mem_of_getElem? (i := 12) rfl)))) (mvT hZ (hw _ (List.mem_of_getElem? (i := 12) rfl))) (mvT hZ (hw _ (List.mem_of_getElem? (i := 11) rfl))) (by decide) (backOf (W := 0) (own_byRule l Z a0 hw [] aABORTED aPENDING aDECIDED (0 : Int32) h26 n0 (Nat.le_trans (Nat.le_trans (Nat.le_trans (Nat.le_trans (Nat.le_trans (Nat.le_trans (Nat.le_trans Z0 E2.1) (Keep.of_wr W6).1) (Keep.of_wr W10).1) (Keep.of_wr W14).1) (Keep.of_wr W18).1) (Keep.of_wr W22).1) (Keep.of_wr W26).1) (((((((S_PENDING.ext E2).wr W6).wr W10).wr W14).wr W18).wr W22).wr W26) (((((((S_DECIDED.ext E2).wr W6).wr W10).wr W14).wr W18).wr W22).wr W26) ((if_neg (by simp [ne_ABORTED_PENDING, ne_ABORTED_DECIDED])).symm)) hZ (hw _ (List.mem_of_getElem? (i := 13) rfl)) (hw _ (List.mem_of_getElem? (i := 7) rfl)) (by decide) (by decide)) q60a q60c (g := (mkF m 43 #[.val (.int qx), .val (.int (3 : Int32)), .val (.ref b2), .val (.ref aABORTED), .unset] [(.ref aABORTED)])) rfl (by rw [hml]; rfl) (Steps.refl _) (argsL := []) (rest := []) (lenOf own_pd1 rfl) rfl (by show 2 * 0 + _ ≤ _; exact Nat.le_of_eq rfl) (hb hby at_43) (fun _ _ => ⟨rfl, e57, (by decide : 1 + 0 ≤ _), (by decide : 6 + 0 ≤ _)⟩)
    dsimp only [Pt.U, Pt.locs, Pt.cells, Pt.slots] at X60 l60 y60 z60 st60 hQ60
    subst l60 y60 z60
    obtain ⟨rfl, N60q, e60⟩ := hQ60
    have N60 := Fr.app N57 N60q
    have pre61 : Goes p e below s₁ (entryFrame m #[(.int qx)] maxLocals) T60 (mkF m 46 #[.val (.int qx), .val (.int (3 : Int32)), .val (.ref b2), .val (.ref aABORTED), .unset] [(.int (0 : Int32))]) := fun t kt => pre59 t (st60.trans kt)
    have pre62 : Goes p e below s₁ (entryFrame m #[(.int qx)] maxLocals) T60 (mkF m 52 #[.val (.int qx), .val (.int (3 : Int32)), .val (.ref b2), .val (.ref aABORTED), .val (.int (0 : Int32))] [(.int (3 : Int32)), (.ref b2), (.int (0 : Int32))]) := fun t kt => pre61 t (by
        show Steps p.tables e below (T60.setTop (mkF m 46 #[.val (.int qx), .val (.int (3 : Int32)), .val (.ref b2), .val (.ref aABORTED), .unset] [(.int (0 : Int32))])) _
        refine XS.istore X60.here hx rfl (hb hby at_46) rfl (l' := #[.val (.int qx), .val (.int (3 : Int32)), .val (.ref b2), .val (.ref aABORTED), .val (.int (0 : Int32))]) rfl ?_
        show Steps p.tables e below (T60.setTop (mkF m 48 #[.val (.int qx), .val (.int (3 : Int32)), .val (.ref b2), .val (.ref aABORTED), .val (.int (0 : Int32))] [])) _
        refine XS.iload X60.here hx rfl (hb hby at_48) rfl ?_
        show Steps p.tables e below (T60.setTop (mkF m 50 #[.val (.int qx), .val (.int (3 : Int32)), .val (.ref b2), .val (.ref aABORTED), .val (.int (0 : Int32))] [(.int (0 : Int32))])) _
        refine XS.aloadN X60.here hx rfl (hb hby at_50) rfl rfl ?_
        show Steps p.tables e below (T60.setTop (mkF m 51 #[.val (.int qx), .val (.int (3 : Int32)), .val (.ref b2), .val (.ref aABORTED), .val (.int (0 : Int32))] [(.ref b2), (.int (0 : Int32))])) _
        refine XS.iloadN X60.here hx rfl (hb hby at_51) rfl ?_
        exact kt)
    obtain ⟨cl63, Ar63, q63, S63, N_63, H63, G63⟩ := V26
    have hin63 : ¬ ((3 : Int32) < 0 ∨ cl63.slots.size ≤ ((3 : Int32)).toNatClampNeg) := inb_of S63 ⟨by decide, by decide⟩
    have hat63 : cl63.slots[((3 : Int32)).toNatClampNeg]? = some (.int (0 : Int32)) := Has.at H63 hin63 rfl
    have pre64 : Goes p e below s₁ (entryFrame m #[(.int qx)] maxLocals) T60 (mkF m 77 #[.val (.int qx), .val (.int (3 : Int32)), .val (.ref b2), .val (.ref aABORTED), .val (.int (0 : Int32))] [(.int (1 : Int32))]) := fun t kt => pre62 t (by
        show Steps p.tables e below (T60.setTop (mkF m 52 #[.val (.int qx), .val (.int (3 : Int32)), .val (.ref b2), .val (.ref aABORTED), .val (.int (0 : Int32))] [(.int (3 : Int32)), (.ref b2), (.int (0 : Int32))])) _
        refine X60.baloadBooleans hx (j := (3 : Int32)) (v := (.int (0 : Int32))) (by rw [e60]; exact Ar63.1) (State.isArrayOf_alike hZ.alike Ar63.2.1) Ar63.2.2 hin63 hat63 (g := (mkF m 52 #[.val (.int qx), .val (.int (3 : Int32)), .val (.ref b2), .val (.ref aABORTED), .val (.int (0 : Int32))] [(.int (3 : Int32)), (.ref b2), (.int (0 : Int32))])) rfl rfl (hb hby at_52) _ ?_
        show Steps p.tables e below (T60.setTop (mkF m 53 #[.val (.int qx), .val (.int (3 : Int32)), .val (.ref b2), .val (.ref aABORTED), .val (.int (0 : Int32))] [(.int (0 : Int32)), (.int (0 : Int32))])) _
        refine XS.icmpYes X60.here hx rfl (pc0 := 53) (pc' := 58) rfl (hb hby at_53) rfl (teq (by decide : (0 : Int32) = (0 : Int32))).1 (by decide) (by decide) ?_
        show Steps p.tables e below (T60.setTop (mkF m 58 #[.val (.int qx), .val (.int (3 : Int32)), .val (.ref b2), .val (.ref aABORTED), .val (.int (0 : Int32))] [])) _
        refine XS.iload X60.here hx rfl (hb hby at_58) rfl ?_
        show Steps p.tables e below (T60.setTop (mkF m 60 #[.val (.int qx), .val (.int (3 : Int32)), .val (.ref b2), .val (.ref aABORTED), .val (.int (0 : Int32))] [(.int (0 : Int32))])) _
        refine XS.ifYes X60.here hx rfl (pc0 := 60) (pc' := 76) rfl (hb hby at_60) rfl ((if0 _ _).trans (teq (by decide : (0 : Int32) = (0 : Int32))).1) (by decide) (by decide) ?_
        show Steps p.tables e below (T60.setTop (mkF m 76 #[.val (.int qx), .val (.int (3 : Int32)), .val (.ref b2), .val (.ref aABORTED), .val (.int (0 : Int32))] [])) _
        refine XS.iconst X60.here hx rfl (hb hby at_76) ?_
        exact kt)
    obtain ⟨fs, hr, hrun, hended, hW, hsame⟩ := X60.leave (v := some (.int (1 : Int32))) (fun h => by rw [Bd.returns] at h; cases h)
    refine ⟨_, _, pre64 _ ?_, hrun, hended, _, _, rfl, ?_, ⟨_, rfl⟩, hW, hsame.mono (by decide) (by decide)⟩
    · show Steps p.tables e below (T60.setTop (mkF m 77 #[.val (.int qx), .val (.int (3 : Int32)), .val (.ref b2), .val (.ref aABORTED), .val (.int (0 : Int32))] [(.int (1 : Int32))])) _
      exact retN X60 hx (t := .boolean) Bd.returns (by simp) (hb hby at_77) hr
    · show Q_own_rm0 Z qx aUNKNOWN aPREPARED aCOMMITTED aABORTED aPENDING aDECIDED h0 n0 _ T60.heap _
      rw [e60]
      exact ⟨rfl, N60⟩
  · rw [hk] at pre28
    have pre65 : Goes p e below s₁ (entryFrame m #[(.int qx)] maxLocals) T26 (mkF m 38 #[.val (.int qx), .val (.int (4 : Int32)), .val (.ref b2), .unset, .unset] [(.int (4 : Int32))]) := fun t kt => pre28 t (by
        show Steps p.tables e below (T26.setTop (mkF m 37 #[.val (.int qx), .val (.int (4 : Int32)), .val (.ref b2), .unset, .unset] [])) _
        refine XS.iloadN X26.here hx rfl (hb hby at_37) rfl ?_
        exact kt)
    obtain ⟨_, _, ⟨T66, L66, k66, n66⟩, -, X66, ⟨Lc66, hQ66, l66, y66, z66⟩, st66⟩ := Jvm.LawKit.callS X26 hx (y := (⟨"ratify/TransactionStateByRulePinLaw", "pick", "(I)Lratify/TransactionState;"⟩ : MethodName)) hown (mvT hZ (hw _ (List.mem_of_getElem? (i := 2) rfl))) (mvT hZ (hw _ (List.mem_of_getElem? (i := 3) rfl))) (mvT hZ (hw _ (List.mem_of_getElem? (i := 4) rfl))) (mvT hZ (hw _ (List.mem_of_getElem? (i := 5) rfl))) (by decide) (backOf (W := 0) (own_pick4 l Z a0 hw [] aPENDING h26 n0 (Nat.le_trans (Nat.le_trans (Nat.le_trans (Nat.le_trans (Nat.le_trans (Nat.le_trans (Nat.le_trans Z0 E2.1) (Keep.of_wr W6).1) (Keep.of_wr W10).1) (Keep.of_wr W14).1) (Keep.of_wr W18).1) (Keep.of_wr W22).1) (Keep.of_wr W26).1) (((((((S_PENDING.ext E2).wr W6).wr W10).wr W14).wr W18).wr W22).wr W26)) hZ (hw _ (List.mem_of_getElem? (i := 5) rfl)) (hw _ (List.mem_of_getElem? (i := 4) rfl)) (by decide) (by decide)) (g := (mkF m 38 #[.val (.int qx), .val (.int (4 : Int32)), .val (.ref b2), .unset, .unset] [(.int (4 : Int32))])) rfl (by rw [hml]; rfl) (argsL := [(.int (4 : Int32))]) (rest := []) (lenOf own_pd0 rfl) rfl (by show 2 * 0 + _ ≤ _; exact Nat.le_of_eq rfl) (hb hby at_38) (fun _ _ => ⟨rfl, e26, (by decide : 1 + 0 ≤ _), (by decide : 6 + 0 ≤ _)⟩)
    dsimp only [Pt.U, Pt.locs, Pt.cells, Pt.slots] at X66 l66 y66 z66 st66 hQ66
    subst l66 y66 z66
    obtain ⟨rfl, N66q, e66⟩ := hQ66
    have N66 := Fr.app N26 N66q
    have pre67 : Goes p e below s₁ (entryFrame m #[(.int qx)] maxLocals) T66 (mkF m 41 #[.val (.int qx), .val (.int (4 : Int32)), .val (.ref b2), .unset, .unset] [(.ref aPENDING)]) := fun t kt => pre65 t (st66 t kt)
    have pre68 : Goes p e below s₁ (entryFrame m #[(.int qx)] maxLocals) T66 (mkF m 43 #[.val (.int qx), .val (.int (4 : Int32)), .val (.ref b2), .val (.ref aPENDING), .unset] [(.ref aPENDING)]) := fun t kt => pre67 t (by
        show Steps p.tables e below (T66.setTop (mkF m 41 #[.val (.int qx), .val (.int (4 : Int32)), .val (.ref b2), .unset, .unset] [(.ref aPENDING)])) _
        refine XS.astoreN X66.here hx rfl (hb hby at_41) rfl rfl (l' := #[.val (.int qx), .val (.int (4 : Int32)), .val (.ref b2), .val (.ref aPENDING), .unset]) rfl ?_
        show Steps p.tables e below (T66.setTop (mkF m 42 #[.val (.int qx), .val (.int (4 : Int32)), .val (.ref b2), .val (.ref aPENDING), .unset] [])) _
        refine XS.aloadN X66.here hx rfl (hb hby at_42) rfl rfl ?_
        exact kt)
    obtain ⟨cq69, kq69, q69a, q69b, q69c⟩ := isOf hZ e66 (((((((E_PENDING.ext E2).wr W6).wr W10).wr W14).wr W18).wr W22).wr W26)
    obtain ⟨_, _, ⟨T69, L69, k69, n69⟩, -, X69, ⟨Lc69, hQ69, l69, y69, z69⟩, st69⟩ := X66.virtualBack hx (y := (⟨"ratify/TransactionState", "byRule", "()Z"⟩ : MethodName)) (z := (⟨"ratify/TransactionState", "byRule", "()Z"⟩ : MethodName)) hown (mvT hZ (hw _ (List.mem_of_getElem? (i := 9) rfl))) (mvT hZ (hw _ (List.mem_of_getElem? (i := 10) rfl))) (notFace_of_selects (args := #[]) (mvT hZ (hw _ (List.mem_of_getElem? (i := 12) rfl)))) (mvT hZ (hw _ (List.mem_of_getElem? (i := 12) rfl))) (mvT hZ (hw _ (List.mem_of_getElem? (i := 11) rfl))) (by decide) (backOf (W := 0) (own_byRule l Z a0 hw [] aPENDING aPENDING aDECIDED (1 : Int32) h26 n0 (Nat.le_trans (Nat.le_trans (Nat.le_trans (Nat.le_trans (Nat.le_trans (Nat.le_trans (Nat.le_trans Z0 E2.1) (Keep.of_wr W6).1) (Keep.of_wr W10).1) (Keep.of_wr W14).1) (Keep.of_wr W18).1) (Keep.of_wr W22).1) (Keep.of_wr W26).1) (((((((S_PENDING.ext E2).wr W6).wr W10).wr W14).wr W18).wr W22).wr W26) (((((((S_DECIDED.ext E2).wr W6).wr W10).wr W14).wr W18).wr W22).wr W26) ((if_pos (by simp)).symm)) hZ (hw _ (List.mem_of_getElem? (i := 13) rfl)) (hw _ (List.mem_of_getElem? (i := 7) rfl)) (by decide) (by decide)) q69a q69c (g := (mkF m 43 #[.val (.int qx), .val (.int (4 : Int32)), .val (.ref b2), .val (.ref aPENDING), .unset] [(.ref aPENDING)])) rfl (by rw [hml]; rfl) (Steps.refl _) (argsL := []) (rest := []) (lenOf own_pd1 rfl) rfl (by show 2 * 0 + _ ≤ _; exact Nat.le_of_eq rfl) (hb hby at_43) (fun _ _ => ⟨rfl, e66, (by decide : 1 + 0 ≤ _), (by decide : 6 + 0 ≤ _)⟩)
    dsimp only [Pt.U, Pt.locs, Pt.cells, Pt.slots] at X69 l69 y69 z69 st69 hQ69
    subst l69 y69 z69
    obtain ⟨rfl, N69q, e69⟩ := hQ69
    have N69 := Fr.app N66 N69q
    have pre70 : Goes p e below s₁ (entryFrame m #[(.int qx)] maxLocals) T69 (mkF m 46 #[.val (.int qx), .val (.int (4 : Int32)), .val (.ref b2), .val (.ref aPENDING), .unset] [(.int (1 : Int32))]) := fun t kt => pre68 t (st69.trans kt)
    have pre71 : Goes p e below s₁ (entryFrame m #[(.int qx)] maxLocals) T69 (mkF m 52 #[.val (.int qx), .val (.int (4 : Int32)), .val (.ref b2), .val (.ref aPENDING), .val (.int (1 : Int32))] [(.int (4 : Int32)), (.ref b2), (.int (1 : Int32))]) := fun t kt => pre70 t (by
        show Steps p.tables e below (T69.setTop (mkF m 46 #[.val (.int qx), .val (.int (4 : Int32)), .val (.ref b2), .val (.ref aPENDING), .unset] [(.int (1 : Int32))])) _
        refine XS.istore X69.here hx rfl (hb hby at_46) rfl (l' := #[.val (.int qx), .val (.int (4 : Int32)), .val (.ref b2), .val (.ref aPENDING), .val (.int (1 : Int32))]) rfl ?_
        show Steps p.tables e below (T69.setTop (mkF m 48 #[.val (.int qx), .val (.int (4 : Int32)), .val (.ref b2), .val (.ref aPENDING), .val (.int (1 : Int32))] [])) _
        refine XS.iload X69.here hx rfl (hb hby at_48) rfl ?_
        show Steps p.tables e below (T69.setTop (mkF m 50 #[.val (.int qx), .val (.int (4 : Int32)), .val (.ref b2), .val (.ref aPENDING), .val (.int (1 : Int32))] [(.int (1 : Int32))])) _
        refine XS.aloadN X69.here hx rfl (hb hby at_50) rfl rfl ?_
        show Steps p.tables e below (T69.setTop (mkF m 51 #[.val (.int qx), .val (.int (4 : Int32)), .val (.ref b2), .val (.ref aPENDING), .val (.int (1 : Int32))] [(.ref b2), (.int (1 : Int32))])) _
        refine XS.iloadN X69.here hx rfl (hb hby at_51) rfl ?_
        exact kt)
    obtain ⟨cl72, Ar72, q72, S72, N_72, H72, G72⟩ := V26
    have hin72 : ¬ ((4 : Int32) < 0 ∨ cl72.slots.size ≤ ((4 : Int32)).toNatClampNeg) := inb_of S72 ⟨by decide, by decide⟩
    have hat72 : cl72.slots[((4 : Int32)).toNatClampNeg]? = some (.int (1 : Int32)) := Has.at H72 hin72 rfl
    have pre73 : Goes p e below s₁ (entryFrame m #[(.int qx)] maxLocals) T69 (mkF m 64 #[.val (.int qx), .val (.int (4 : Int32)), .val (.ref b2), .val (.ref aPENDING), .val (.int (1 : Int32))] [(.ref aPENDING)]) := fun t kt => pre71 t (by
        show Steps p.tables e below (T69.setTop (mkF m 52 #[.val (.int qx), .val (.int (4 : Int32)), .val (.ref b2), .val (.ref aPENDING), .val (.int (1 : Int32))] [(.int (4 : Int32)), (.ref b2), (.int (1 : Int32))])) _
        refine X69.baloadBooleans hx (j := (4 : Int32)) (v := (.int (1 : Int32))) (by rw [e69]; exact Ar72.1) (State.isArrayOf_alike hZ.alike Ar72.2.1) Ar72.2.2 hin72 hat72 (g := (mkF m 52 #[.val (.int qx), .val (.int (4 : Int32)), .val (.ref b2), .val (.ref aPENDING), .val (.int (1 : Int32))] [(.int (4 : Int32)), (.ref b2), (.int (1 : Int32))])) rfl rfl (hb hby at_52) _ ?_
        show Steps p.tables e below (T69.setTop (mkF m 53 #[.val (.int qx), .val (.int (4 : Int32)), .val (.ref b2), .val (.ref aPENDING), .val (.int (1 : Int32))] [(.int (1 : Int32)), (.int (1 : Int32))])) _
        refine XS.icmpYes X69.here hx rfl (pc0 := 53) (pc' := 58) rfl (hb hby at_53) rfl (teq (by decide : (1 : Int32) = (1 : Int32))).1 (by decide) (by decide) ?_
        show Steps p.tables e below (T69.setTop (mkF m 58 #[.val (.int qx), .val (.int (4 : Int32)), .val (.ref b2), .val (.ref aPENDING), .val (.int (1 : Int32))] [])) _
        refine XS.iload X69.here hx rfl (hb hby at_58) rfl ?_
        show Steps p.tables e below (T69.setTop (mkF m 60 #[.val (.int qx), .val (.int (4 : Int32)), .val (.ref b2), .val (.ref aPENDING), .val (.int (1 : Int32))] [(.int (1 : Int32))])) _
        refine XS.ifNo X69.here hx rfl (hb hby at_60) rfl ((if0 _ _).trans (feq (by decide : ¬ ((1 : Int32) = (0 : Int32)))).1) ?_
        show Steps p.tables e below (T69.setTop (mkF m 63 #[.val (.int qx), .val (.int (4 : Int32)), .val (.ref b2), .val (.ref aPENDING), .val (.int (1 : Int32))] [])) _
        refine XS.aloadN X69.here hx rfl (hb hby at_63) rfl rfl ?_
        exact kt)
    obtain ⟨cq74, kq74, q74a, q74b, q74c⟩ := isOf hZ e69 (((((((E_PENDING.ext E2).wr W6).wr W10).wr W14).wr W18).wr W22).wr W26)
    obtain ⟨_, _, ⟨T74, L74, k74, n74⟩, -, X74, ⟨Lc74, hQ74, l74, y74, z74⟩, st74⟩ := X69.virtualBack hx (y := (⟨"ratify/TransactionState", "isFinal", "()Z"⟩ : MethodName)) (z := (⟨"ratify/TransactionState", "isFinal", "()Z"⟩ : MethodName)) hown (mvT hZ (hw _ (List.mem_of_getElem? (i := 25) rfl))) (mvT hZ (hw _ (List.mem_of_getElem? (i := 26) rfl))) (notFace_of_selects (args := #[]) (mvT hZ (hw _ (List.mem_of_getElem? (i := 28) rfl)))) (mvT hZ (hw _ (List.mem_of_getElem? (i := 28) rfl))) (mvT hZ (hw _ (List.mem_of_getElem? (i := 27) rfl))) (by decide) (backOf (W := 0) (own_isFinal l Z a0 hw [] aPENDING aCOMMITTED aABORTED aDECIDED (0 : Int32) h26 n0 (Nat.le_trans (Nat.le_trans (Nat.le_trans (Nat.le_trans (Nat.le_trans (Nat.le_trans (Nat.le_trans Z0 E2.1) (Keep.of_wr W6).1) (Keep.of_wr W10).1) (Keep.of_wr W14).1) (Keep.of_wr W18).1) (Keep.of_wr W22).1) (Keep.of_wr W26).1) (((((((S_COMMITTED.ext E2).wr W6).wr W10).wr W14).wr W18).wr W22).wr W26) (((((((S_ABORTED.ext E2).wr W6).wr W10).wr W14).wr W18).wr W22).wr W26) (((((((S_DECIDED.ext E2).wr W6).wr W10).wr W14).wr W18).wr W22).wr W26) ((if_neg (by simp [ne_PENDING_COMMITTED, ne_PENDING_ABORTED, ne_PENDING_DECIDED])).symm)) hZ (hw _ (List.mem_of_getElem? (i := 29) rfl)) (hw _ (List.mem_of_getElem? (i := 7) rfl)) (by decide) (by decide)) q74a q74c (g := (mkF m 64 #[.val (.int qx), .val (.int (4 : Int32)), .val (.ref b2), .val (.ref aPENDING), .val (.int (1 : Int32))] [(.ref aPENDING)])) rfl (by rw [hml]; rfl) (Steps.refl _) (argsL := []) (rest := []) (lenOf own_pd1 rfl) rfl (by show 2 * 0 + _ ≤ _; exact Nat.le_of_eq rfl) (hb hby at_64) (fun _ _ => ⟨rfl, e69, (by decide : 1 + 0 ≤ _), (by decide : 6 + 0 ≤ _)⟩)
    dsimp only [Pt.U, Pt.locs, Pt.cells, Pt.slots] at X74 l74 y74 z74 st74 hQ74
    subst l74 y74 z74
    obtain ⟨rfl, N74q, e74⟩ := hQ74
    have N74 := Fr.app N69 N74q
    have pre75 : Goes p e below s₁ (entryFrame m #[(.int qx)] maxLocals) T74 (mkF m 67 #[.val (.int qx), .val (.int (4 : Int32)), .val (.ref b2), .val (.ref aPENDING), .val (.int (1 : Int32))] [(.int (0 : Int32))]) := fun t kt => pre73 t (st74.trans kt)
    have pre76 : Goes p e below s₁ (entryFrame m #[(.int qx)] maxLocals) T74 (mkF m 68 #[.val (.int qx), .val (.int (4 : Int32)), .val (.ref b2), .val (.ref aPENDING), .val (.int (1 : Int32))] [(.ref aPENDING), (.int (0 : Int32))]) := fun t kt => pre75 t (by
        show Steps p.tables e below (T74.setTop (mkF m 67 #[.val (.int qx), .val (.int (4 : Int32)), .val (.ref b2), .val (.ref aPENDING), .val (.int (1 : Int32))] [(.int (0 : Int32))])) _
        refine XS.aloadN X74.here hx rfl (hb hby at_67) rfl rfl ?_
        exact kt)
    obtain ⟨cq77, kq77, q77a, q77b, q77c⟩ := isOf hZ e74 (((((((E_PENDING.ext E2).wr W6).wr W10).wr W14).wr W18).wr W22).wr W26)
    obtain ⟨_, _, ⟨T77, L77, k77, n77⟩, -, X77, ⟨Lc77, hQ77, l77, y77, z77⟩, st77⟩ := X74.virtualBack hx (y := (⟨"ratify/TransactionState", "inDoubt", "()Z"⟩ : MethodName)) (z := (⟨"ratify/TransactionState", "inDoubt", "()Z"⟩ : MethodName)) hown (mvT hZ (hw _ (List.mem_of_getElem? (i := 32) rfl))) (mvT hZ (hw _ (List.mem_of_getElem? (i := 33) rfl))) (notFace_of_selects (args := #[]) (mvT hZ (hw _ (List.mem_of_getElem? (i := 35) rfl)))) (mvT hZ (hw _ (List.mem_of_getElem? (i := 35) rfl))) (mvT hZ (hw _ (List.mem_of_getElem? (i := 34) rfl))) (by decide) (backOf (W := 1) (own_inDoubt l Z a0 hw [] aPENDING aPREPARED aPENDING (1 : Int32) h26 n0 (Nat.le_trans (Nat.le_trans (Nat.le_trans (Nat.le_trans (Nat.le_trans (Nat.le_trans (Nat.le_trans Z0 E2.1) (Keep.of_wr W6).1) (Keep.of_wr W10).1) (Keep.of_wr W14).1) (Keep.of_wr W18).1) (Keep.of_wr W22).1) (Keep.of_wr W26).1) (((((((S_PREPARED.ext E2).wr W6).wr W10).wr W14).wr W18).wr W22).wr W26) (((((((S_PENDING.ext E2).wr W6).wr W10).wr W14).wr W18).wr W22).wr W26) ((if_pos (by simp)).symm)) hZ (hw _ (List.mem_of_getElem? (i := 36) rfl)) (hw _ (List.mem_of_getElem? (i := 7) rfl)) (by decide) (by decide)) q77a q77c (g := (mkF m 68 #[.val (.int qx), .val (.int (4 : Int32)), .val (.ref b2), .val (.ref aPENDING), .val (.int (1 : Int32))] [(.ref aPENDING), (.int (0 : Int32))])) rfl (by rw [hml]; rfl) (Steps.refl _) (argsL := []) (rest := [(.int (0 : Int32))]) (lenOf own_pd1 rfl) rfl (by show 2 * 0 + _ ≤ _; exact Nat.le_of_eq rfl) (hb hby at_68) (fun _ _ => ⟨rfl, e74, (by decide : 1 + 0 ≤ _), (by decide : 6 + 0 ≤ _)⟩)
    dsimp only [Pt.U, Pt.locs, Pt.cells, Pt.slots] at X77 l77 y77 z77 st77 hQ77
    subst l77 y77 z77
    obtain ⟨rfl, N77q, e77⟩ := hQ77
    have N77 := Fr.app N74 N77q
    have pre78 : Goes p e below s₁ (entryFrame m #[(.int qx)] maxLocals) T77 (mkF m 71 #[.val (.int qx), .val (.int (4 : Int32)), .val (.ref b2), .val (.ref aPENDING), .val (.int (1 : Int32))] [(.int (1 : Int32)), (.int (0 : Int32))]) := fun t kt => pre76 t (st77.trans kt)
    have pre79 : Goes p e below s₁ (entryFrame m #[(.int qx)] maxLocals) T77 (mkF m 77 #[.val (.int qx), .val (.int (4 : Int32)), .val (.ref b2), .val (.ref aPENDING), .val (.int (1 : Int32))] [(.int (1 : Int32))]) := fun t kt => pre78 t (by
        show Steps p.tables e below (T77.setTop (mkF m 71 #[.val (.int qx), .val (.int (4 : Int32)), .val (.ref b2), .val (.ref aPENDING), .val (.int (1 : Int32))] [(.int (1 : Int32)), (.int (0 : Int32))])) _
        refine XS.icmpYes X77.here hx rfl (pc0 := 71) (pc' := 76) rfl (hb hby at_71) rfl (feq (by decide : ¬ ((0 : Int32) = (1 : Int32)))).2 (by decide) (by decide) ?_
        show Steps p.tables e below (T77.setTop (mkF m 76 #[.val (.int qx), .val (.int (4 : Int32)), .val (.ref b2), .val (.ref aPENDING), .val (.int (1 : Int32))] [])) _
        refine XS.iconst X77.here hx rfl (hb hby at_76) ?_
        exact kt)
    obtain ⟨fs, hr, hrun, hended, hW, hsame⟩ := X77.leave (v := some (.int (1 : Int32))) (fun h => by rw [Bd.returns] at h; cases h)
    refine ⟨_, _, pre79 _ ?_, hrun, hended, _, _, rfl, ?_, ⟨_, rfl⟩, hW, hsame.mono (by decide) (by decide)⟩
    · show Steps p.tables e below (T77.setTop (mkF m 77 #[.val (.int qx), .val (.int (4 : Int32)), .val (.ref b2), .val (.ref aPENDING), .val (.int (1 : Int32))] [(.int (1 : Int32))])) _
      exact retN X77 hx (t := .boolean) Bd.returns (by simp) (hb hby at_77) hr
    · show Q_own_rm0 Z qx aUNKNOWN aPREPARED aCOMMITTED aABORTED aPENDING aDECIDED h0 n0 _ T77.heap _
      rw [e77]
      exact ⟨rfl, N77⟩
  · rw [hk] at pre28
    have pre80 : Goes p e below s₁ (entryFrame m #[(.int qx)] maxLocals) T26 (mkF m 38 #[.val (.int qx), .val (.int (5 : Int32)), .val (.ref b2), .unset, .unset] [(.int (5 : Int32))]) := fun t kt => pre28 t (by
        show Steps p.tables e below (T26.setTop (mkF m 37 #[.val (.int qx), .val (.int (5 : Int32)), .val (.ref b2), .unset, .unset] [])) _
        refine XS.iloadN X26.here hx rfl (hb hby at_37) rfl ?_
        exact kt)
    obtain ⟨_, _, ⟨T81, L81, k81, n81⟩, -, X81, ⟨Lc81, hQ81, l81, y81, z81⟩, st81⟩ := Jvm.LawKit.callS X26 hx (y := (⟨"ratify/TransactionStateByRulePinLaw", "pick", "(I)Lratify/TransactionState;"⟩ : MethodName)) hown (mvT hZ (hw _ (List.mem_of_getElem? (i := 2) rfl))) (mvT hZ (hw _ (List.mem_of_getElem? (i := 3) rfl))) (mvT hZ (hw _ (List.mem_of_getElem? (i := 4) rfl))) (mvT hZ (hw _ (List.mem_of_getElem? (i := 5) rfl))) (by decide) (backOf (W := 0) (own_pick5 l Z a0 hw [] aDECIDED h26 n0 (Nat.le_trans (Nat.le_trans (Nat.le_trans (Nat.le_trans (Nat.le_trans (Nat.le_trans (Nat.le_trans Z0 E2.1) (Keep.of_wr W6).1) (Keep.of_wr W10).1) (Keep.of_wr W14).1) (Keep.of_wr W18).1) (Keep.of_wr W22).1) (Keep.of_wr W26).1) (((((((S_DECIDED.ext E2).wr W6).wr W10).wr W14).wr W18).wr W22).wr W26)) hZ (hw _ (List.mem_of_getElem? (i := 5) rfl)) (hw _ (List.mem_of_getElem? (i := 4) rfl)) (by decide) (by decide)) (g := (mkF m 38 #[.val (.int qx), .val (.int (5 : Int32)), .val (.ref b2), .unset, .unset] [(.int (5 : Int32))])) rfl (by rw [hml]; rfl) (argsL := [(.int (5 : Int32))]) (rest := []) (lenOf own_pd0 rfl) rfl (by show 2 * 0 + _ ≤ _; exact Nat.le_of_eq rfl) (hb hby at_38) (fun _ _ => ⟨rfl, e26, (by decide : 1 + 0 ≤ _), (by decide : 6 + 0 ≤ _)⟩)
    dsimp only [Pt.U, Pt.locs, Pt.cells, Pt.slots] at X81 l81 y81 z81 st81 hQ81
    subst l81 y81 z81
    obtain ⟨rfl, N81q, e81⟩ := hQ81
    have N81 := Fr.app N26 N81q
    have pre82 : Goes p e below s₁ (entryFrame m #[(.int qx)] maxLocals) T81 (mkF m 41 #[.val (.int qx), .val (.int (5 : Int32)), .val (.ref b2), .unset, .unset] [(.ref aDECIDED)]) := fun t kt => pre80 t (st81 t kt)
    have pre83 : Goes p e below s₁ (entryFrame m #[(.int qx)] maxLocals) T81 (mkF m 43 #[.val (.int qx), .val (.int (5 : Int32)), .val (.ref b2), .val (.ref aDECIDED), .unset] [(.ref aDECIDED)]) := fun t kt => pre82 t (by
        show Steps p.tables e below (T81.setTop (mkF m 41 #[.val (.int qx), .val (.int (5 : Int32)), .val (.ref b2), .unset, .unset] [(.ref aDECIDED)])) _
        refine XS.astoreN X81.here hx rfl (hb hby at_41) rfl rfl (l' := #[.val (.int qx), .val (.int (5 : Int32)), .val (.ref b2), .val (.ref aDECIDED), .unset]) rfl ?_
        show Steps p.tables e below (T81.setTop (mkF m 42 #[.val (.int qx), .val (.int (5 : Int32)), .val (.ref b2), .val (.ref aDECIDED), .unset] [])) _
        refine XS.aloadN X81.here hx rfl (hb hby at_42) rfl rfl ?_
        exact kt)
    obtain ⟨cq84, kq84, q84a, q84b, q84c⟩ := isOf hZ e81 (((((((E_DECIDED.ext E2).wr W6).wr W10).wr W14).wr W18).wr W22).wr W26)
    obtain ⟨_, _, ⟨T84, L84, k84, n84⟩, -, X84, ⟨Lc84, hQ84, l84, y84, z84⟩, st84⟩ := X81.virtualBack hx (y := (⟨"ratify/TransactionState", "byRule", "()Z"⟩ : MethodName)) (z := (⟨"ratify/TransactionState", "byRule", "()Z"⟩ : MethodName)) hown (mvT hZ (hw _ (List.mem_of_getElem? (i := 9) rfl))) (mvT hZ (hw _ (List.mem_of_getElem? (i := 10) rfl))) (notFace_of_selects (args := #[]) (mvT hZ (hw _ (List.mem_of_getElem? (i := 12) rfl)))) (mvT hZ (hw _ (List.mem_of_getElem? (i := 12) rfl))) (mvT hZ (hw _ (List.mem_of_getElem? (i := 11) rfl))) (by decide) (backOf (W := 0) (own_byRule l Z a0 hw [] aDECIDED aPENDING aDECIDED (1 : Int32) h26 n0 (Nat.le_trans (Nat.le_trans (Nat.le_trans (Nat.le_trans (Nat.le_trans (Nat.le_trans (Nat.le_trans Z0 E2.1) (Keep.of_wr W6).1) (Keep.of_wr W10).1) (Keep.of_wr W14).1) (Keep.of_wr W18).1) (Keep.of_wr W22).1) (Keep.of_wr W26).1) (((((((S_PENDING.ext E2).wr W6).wr W10).wr W14).wr W18).wr W22).wr W26) (((((((S_DECIDED.ext E2).wr W6).wr W10).wr W14).wr W18).wr W22).wr W26) ((if_pos (by simp)).symm)) hZ (hw _ (List.mem_of_getElem? (i := 13) rfl)) (hw _ (List.mem_of_getElem? (i := 7) rfl)) (by decide) (by decide)) q84a q84c (g := (mkF m 43 #[.val (.int qx), .val (.int (5 : Int32)), .val (.ref b2), .val (.ref aDECIDED), .unset] [(.ref aDECIDED)])) rfl (by rw [hml]; rfl) (Steps.refl _) (argsL := []) (rest := []) (lenOf own_pd1 rfl) rfl (by show 2 * 0 + _ ≤ _; exact Nat.le_of_eq rfl) (hb hby at_43) (fun _ _ => ⟨rfl, e81, (by decide : 1 + 0 ≤ _), (by decide : 6 + 0 ≤ _)⟩)
    dsimp only [Pt.U, Pt.locs, Pt.cells, Pt.slots] at X84 l84 y84 z84 st84 hQ84
    subst l84 y84 z84
    obtain ⟨rfl, N84q, e84⟩ := hQ84
    have N84 := Fr.app N81 N84q
    have pre85 : Goes p e below s₁ (entryFrame m #[(.int qx)] maxLocals) T84 (mkF m 46 #[.val (.int qx), .val (.int (5 : Int32)), .val (.ref b2), .val (.ref aDECIDED), .unset] [(.int (1 : Int32))]) := fun t kt => pre83 t (st84.trans kt)
    have pre86 : Goes p e below s₁ (entryFrame m #[(.int qx)] maxLocals) T84 (mkF m 52 #[.val (.int qx), .val (.int (5 : Int32)), .val (.ref b2), .val (.ref aDECIDED), .val (.int (1 : Int32))] [(.int (5 : Int32)), (.ref b2), (.int (1 : Int32))]) := fun t kt => pre85 t (by
        show Steps p.tables e below (T84.setTop (mkF m 46 #[.val (.int qx), .val (.int (5 : Int32)), .val (.ref b2), .val (.ref aDECIDED), .unset] [(.int (1 : Int32))])) _
        refine XS.istore X84.here hx rfl (hb hby at_46) rfl (l' := #[.val (.int qx), .val (.int (5 : Int32)), .val (.ref b2), .val (.ref aDECIDED), .val (.int (1 : Int32))]) rfl ?_
        show Steps p.tables e below (T84.setTop (mkF m 48 #[.val (.int qx), .val (.int (5 : Int32)), .val (.ref b2), .val (.ref aDECIDED), .val (.int (1 : Int32))] [])) _
        refine XS.iload X84.here hx rfl (hb hby at_48) rfl ?_
        show Steps p.tables e below (T84.setTop (mkF m 50 #[.val (.int qx), .val (.int (5 : Int32)), .val (.ref b2), .val (.ref aDECIDED), .val (.int (1 : Int32))] [(.int (1 : Int32))])) _
        refine XS.aloadN X84.here hx rfl (hb hby at_50) rfl rfl ?_
        show Steps p.tables e below (T84.setTop (mkF m 51 #[.val (.int qx), .val (.int (5 : Int32)), .val (.ref b2), .val (.ref aDECIDED), .val (.int (1 : Int32))] [(.ref b2), (.int (1 : Int32))])) _
        refine XS.iloadN X84.here hx rfl (hb hby at_51) rfl ?_
        exact kt)
    obtain ⟨cl87, Ar87, q87, S87, N_87, H87, G87⟩ := V26
    have hin87 : ¬ ((5 : Int32) < 0 ∨ cl87.slots.size ≤ ((5 : Int32)).toNatClampNeg) := inb_of S87 ⟨by decide, by decide⟩
    have hat87 : cl87.slots[((5 : Int32)).toNatClampNeg]? = some (.int (1 : Int32)) := Has.at H87 hin87 rfl
    have pre88 : Goes p e below s₁ (entryFrame m #[(.int qx)] maxLocals) T84 (mkF m 64 #[.val (.int qx), .val (.int (5 : Int32)), .val (.ref b2), .val (.ref aDECIDED), .val (.int (1 : Int32))] [(.ref aDECIDED)]) := fun t kt => pre86 t (by
        show Steps p.tables e below (T84.setTop (mkF m 52 #[.val (.int qx), .val (.int (5 : Int32)), .val (.ref b2), .val (.ref aDECIDED), .val (.int (1 : Int32))] [(.int (5 : Int32)), (.ref b2), (.int (1 : Int32))])) _
        refine X84.baloadBooleans hx (j := (5 : Int32)) (v := (.int (1 : Int32))) (by rw [e84]; exact Ar87.1) (State.isArrayOf_alike hZ.alike Ar87.2.1) Ar87.2.2 hin87 hat87 (g := (mkF m 52 #[.val (.int qx), .val (.int (5 : Int32)), .val (.ref b2), .val (.ref aDECIDED), .val (.int (1 : Int32))] [(.int (5 : Int32)), (.ref b2), (.int (1 : Int32))])) rfl rfl (hb hby at_52) _ ?_
        show Steps p.tables e below (T84.setTop (mkF m 53 #[.val (.int qx), .val (.int (5 : Int32)), .val (.ref b2), .val (.ref aDECIDED), .val (.int (1 : Int32))] [(.int (1 : Int32)), (.int (1 : Int32))])) _
        refine XS.icmpYes X84.here hx rfl (pc0 := 53) (pc' := 58) rfl (hb hby at_53) rfl (teq (by decide : (1 : Int32) = (1 : Int32))).1 (by decide) (by decide) ?_
        show Steps p.tables e below (T84.setTop (mkF m 58 #[.val (.int qx), .val (.int (5 : Int32)), .val (.ref b2), .val (.ref aDECIDED), .val (.int (1 : Int32))] [])) _
        refine XS.iload X84.here hx rfl (hb hby at_58) rfl ?_
        show Steps p.tables e below (T84.setTop (mkF m 60 #[.val (.int qx), .val (.int (5 : Int32)), .val (.ref b2), .val (.ref aDECIDED), .val (.int (1 : Int32))] [(.int (1 : Int32))])) _
        refine XS.ifNo X84.here hx rfl (hb hby at_60) rfl ((if0 _ _).trans (feq (by decide : ¬ ((1 : Int32) = (0 : Int32)))).1) ?_
        show Steps p.tables e below (T84.setTop (mkF m 63 #[.val (.int qx), .val (.int (5 : Int32)), .val (.ref b2), .val (.ref aDECIDED), .val (.int (1 : Int32))] [])) _
        refine XS.aloadN X84.here hx rfl (hb hby at_63) rfl rfl ?_
        exact kt)
    obtain ⟨cq89, kq89, q89a, q89b, q89c⟩ := isOf hZ e84 (((((((E_DECIDED.ext E2).wr W6).wr W10).wr W14).wr W18).wr W22).wr W26)
    obtain ⟨_, _, ⟨T89, L89, k89, n89⟩, -, X89, ⟨Lc89, hQ89, l89, y89, z89⟩, st89⟩ := X84.virtualBack hx (y := (⟨"ratify/TransactionState", "isFinal", "()Z"⟩ : MethodName)) (z := (⟨"ratify/TransactionState", "isFinal", "()Z"⟩ : MethodName)) hown (mvT hZ (hw _ (List.mem_of_getElem? (i := 25) rfl))) (mvT hZ (hw _ (List.mem_of_getElem? (i := 26) rfl))) (notFace_of_selects (args := #[]) (mvT hZ (hw _ (List.mem_of_getElem? (i := 28) rfl)))) (mvT hZ (hw _ (List.mem_of_getElem? (i := 28) rfl))) (mvT hZ (hw _ (List.mem_of_getElem? (i := 27) rfl))) (by decide) (backOf (W := 0) (own_isFinal l Z a0 hw [] aDECIDED aCOMMITTED aABORTED aDECIDED (1 : Int32) h26 n0 (Nat.le_trans (Nat.le_trans (Nat.le_trans (Nat.le_trans (Nat.le_trans (Nat.le_trans (Nat.le_trans Z0 E2.1) (Keep.of_wr W6).1) (Keep.of_wr W10).1) (Keep.of_wr W14).1) (Keep.of_wr W18).1) (Keep.of_wr W22).1) (Keep.of_wr W26).1) (((((((S_COMMITTED.ext E2).wr W6).wr W10).wr W14).wr W18).wr W22).wr W26) (((((((S_ABORTED.ext E2).wr W6).wr W10).wr W14).wr W18).wr W22).wr W26) (((((((S_DECIDED.ext E2).wr W6).wr W10).wr W14).wr W18).wr W22).wr W26) ((if_pos (by simp)).symm)) hZ (hw _ (List.mem_of_getElem? (i := 29) rfl)) (hw _ (List.mem_of_getElem? (i := 7) rfl)) (by decide) (by decide)) q89a q89c (g := (mkF m 64 #[.val (.int qx), .val (.int (5 : Int32)), .val (.ref b2), .val (.ref aDECIDED), .val (.int (1 : Int32))] [(.ref aDECIDED)])) rfl (by rw [hml]; rfl) (Steps.refl _) (argsL := []) (rest := []) (lenOf own_pd1 rfl) rfl (by show 2 * 0 + _ ≤ _; exact Nat.le_of_eq rfl) (hb hby at_64) (fun _ _ => ⟨rfl, e84, (by decide : 1 + 0 ≤ _), (by decide : 6 + 0 ≤ _)⟩)
    dsimp only [Pt.U, Pt.locs, Pt.cells, Pt.slots] at X89 l89 y89 z89 st89 hQ89
    subst l89 y89 z89
    obtain ⟨rfl, N89q, e89⟩ := hQ89
    have N89 := Fr.app N84 N89q
    have pre90 : Goes p e below s₁ (entryFrame m #[(.int qx)] maxLocals) T89 (mkF m 67 #[.val (.int qx), .val (.int (5 : Int32)), .val (.ref b2), .val (.ref aDECIDED), .val (.int (1 : Int32))] [(.int (1 : Int32))]) := fun t kt => pre88 t (st89.trans kt)
    have pre91 : Goes p e below s₁ (entryFrame m #[(.int qx)] maxLocals) T89 (mkF m 68 #[.val (.int qx), .val (.int (5 : Int32)), .val (.ref b2), .val (.ref aDECIDED), .val (.int (1 : Int32))] [(.ref aDECIDED), (.int (1 : Int32))]) := fun t kt => pre90 t (by
        show Steps p.tables e below (T89.setTop (mkF m 67 #[.val (.int qx), .val (.int (5 : Int32)), .val (.ref b2), .val (.ref aDECIDED), .val (.int (1 : Int32))] [(.int (1 : Int32))])) _
        refine XS.aloadN X89.here hx rfl (hb hby at_67) rfl rfl ?_
        exact kt)
    obtain ⟨cq92, kq92, q92a, q92b, q92c⟩ := isOf hZ e89 (((((((E_DECIDED.ext E2).wr W6).wr W10).wr W14).wr W18).wr W22).wr W26)
    obtain ⟨_, _, ⟨T92, L92, k92, n92⟩, -, X92, ⟨Lc92, hQ92, l92, y92, z92⟩, st92⟩ := X89.virtualBack hx (y := (⟨"ratify/TransactionState", "inDoubt", "()Z"⟩ : MethodName)) (z := (⟨"ratify/TransactionState", "inDoubt", "()Z"⟩ : MethodName)) hown (mvT hZ (hw _ (List.mem_of_getElem? (i := 32) rfl))) (mvT hZ (hw _ (List.mem_of_getElem? (i := 33) rfl))) (notFace_of_selects (args := #[]) (mvT hZ (hw _ (List.mem_of_getElem? (i := 35) rfl)))) (mvT hZ (hw _ (List.mem_of_getElem? (i := 35) rfl))) (mvT hZ (hw _ (List.mem_of_getElem? (i := 34) rfl))) (by decide) (backOf (W := 1) (own_inDoubt l Z a0 hw [] aDECIDED aPREPARED aPENDING (0 : Int32) h26 n0 (Nat.le_trans (Nat.le_trans (Nat.le_trans (Nat.le_trans (Nat.le_trans (Nat.le_trans (Nat.le_trans Z0 E2.1) (Keep.of_wr W6).1) (Keep.of_wr W10).1) (Keep.of_wr W14).1) (Keep.of_wr W18).1) (Keep.of_wr W22).1) (Keep.of_wr W26).1) (((((((S_PREPARED.ext E2).wr W6).wr W10).wr W14).wr W18).wr W22).wr W26) (((((((S_PENDING.ext E2).wr W6).wr W10).wr W14).wr W18).wr W22).wr W26) ((if_neg (by simp [ne_DECIDED_PREPARED, ne_DECIDED_PENDING])).symm)) hZ (hw _ (List.mem_of_getElem? (i := 36) rfl)) (hw _ (List.mem_of_getElem? (i := 7) rfl)) (by decide) (by decide)) q92a q92c (g := (mkF m 68 #[.val (.int qx), .val (.int (5 : Int32)), .val (.ref b2), .val (.ref aDECIDED), .val (.int (1 : Int32))] [(.ref aDECIDED), (.int (1 : Int32))])) rfl (by rw [hml]; rfl) (Steps.refl _) (argsL := []) (rest := [(.int (1 : Int32))]) (lenOf own_pd1 rfl) rfl (by show 2 * 0 + _ ≤ _; exact Nat.le_of_eq rfl) (hb hby at_68) (fun _ _ => ⟨rfl, e89, (by decide : 1 + 0 ≤ _), (by decide : 6 + 0 ≤ _)⟩)
    dsimp only [Pt.U, Pt.locs, Pt.cells, Pt.slots] at X92 l92 y92 z92 st92 hQ92
    subst l92 y92 z92
    obtain ⟨rfl, N92q, e92⟩ := hQ92
    have N92 := Fr.app N89 N92q
    have pre93 : Goes p e below s₁ (entryFrame m #[(.int qx)] maxLocals) T92 (mkF m 71 #[.val (.int qx), .val (.int (5 : Int32)), .val (.ref b2), .val (.ref aDECIDED), .val (.int (1 : Int32))] [(.int (0 : Int32)), (.int (1 : Int32))]) := fun t kt => pre91 t (st92.trans kt)
    have pre94 : Goes p e below s₁ (entryFrame m #[(.int qx)] maxLocals) T92 (mkF m 77 #[.val (.int qx), .val (.int (5 : Int32)), .val (.ref b2), .val (.ref aDECIDED), .val (.int (1 : Int32))] [(.int (1 : Int32))]) := fun t kt => pre93 t (by
        show Steps p.tables e below (T92.setTop (mkF m 71 #[.val (.int qx), .val (.int (5 : Int32)), .val (.ref b2), .val (.ref aDECIDED), .val (.int (1 : Int32))] [(.int (0 : Int32)), (.int (1 : Int32))])) _
        refine XS.icmpYes X92.here hx rfl (pc0 := 71) (pc' := 76) rfl (hb hby at_71) rfl (feq (by decide : ¬ ((1 : Int32) = (0 : Int32)))).2 (by decide) (by decide) ?_
        show Steps p.tables e below (T92.setTop (mkF m 76 #[.val (.int qx), .val (.int (5 : Int32)), .val (.ref b2), .val (.ref aDECIDED), .val (.int (1 : Int32))] [])) _
        refine XS.iconst X92.here hx rfl (hb hby at_76) ?_
        exact kt)
    obtain ⟨fs, hr, hrun, hended, hW, hsame⟩ := X92.leave (v := some (.int (1 : Int32))) (fun h => by rw [Bd.returns] at h; cases h)
    refine ⟨_, _, pre94 _ ?_, hrun, hended, _, _, rfl, ?_, ⟨_, rfl⟩, hW, hsame.mono (by decide) (by decide)⟩
    · show Steps p.tables e below (T92.setTop (mkF m 77 #[.val (.int qx), .val (.int (5 : Int32)), .val (.ref b2), .val (.ref aDECIDED), .val (.int (1 : Int32))] [(.int (1 : Int32))])) _
      exact retN X92 hx (t := .boolean) Bd.returns (by simp) (hb hby at_77) hr
    · show Q_own_rm0 Z qx aUNKNOWN aPREPARED aCOMMITTED aABORTED aPENDING aDECIDED h0 n0 _ T92.heap _
      rw [e92]
      exact ⟨rfl, N92⟩
set_option maxRecDepth 65536 in
set_option maxHeartbeats 40000000 in
theorem comes_1 {Post : Tables → Env → Array Value → State → Outcome → State → Prop} (hpost : ∀ tb e args s v u, (limb_1_1.after args s (.returned v) u = true ∧ limb_1_2.after args s (.returned v) u = true ∧ True) → FrameEnd s (.returned v) u (Jvm.fieldLocs frame_1_writes args s ++ Jvm.arrayLocs frame_1_arrays args s ++ Jvm.staticLocs frame_1_statics s) 16 128 → Post tb e args s (.returned v) u) :
    ArmFor flags0 classFile x code maxLocals ret World_1 tables_1 room_1 Calls_1 rest_1 Pre_1 Post := by
  intro l hfl _ _ p e ha hc hk s m args below hf hA hF happ hP
  obtain ⟨hcalls, hrest, hpre⟩ := hP
  obtain ⟨-, -, -, hnamed, -, -, -, hat⟩ := (Spec.applies_iff hf).mp happ
  obtain ⟨hg, hn⟩ := and_e (Cond.before_iff.mp (show (Jvm.Cond.and given_1 narrow_1).before args s = true from hpre))
  obtain ⟨g5, g6⟩ := and_e hg
  obtain ⟨w0, rfl⟩ : ∃ w0 : Value, args = #[w0] := by
    have hs : args.size = 1 := by simpa [Cond.value, given_1] using g5
    obtain ⟨L⟩ := args
    match L, hs with
    | [w0], _ => exact ⟨w0, rfl⟩
  have hw := fun d (hd : d ∈ tables_1) => atoms_spec (ws := Jvm.Cond.code x code maxLocals ret :: tables_1) hat d (List.mem_cons_of_mem _ hd)
  have hfit : Fit s := fun {y c} hc i hi => by
    obtain ⟨ha, rfl⟩ := Array.getElem?_eq_some_iff.mp hc
    have q := List.all_eq_true.mp ((Array.all_eq_true_iff_forall_mem.mp hF) _ (Array.getElem_mem ha)) i (List.mem_range.mpr hi)
    simpa [Array.getElem?_eq_getElem hi] using q
  obtain ⟨i0, ei0⟩ := is_v g6
  obtain rfl : w0 = (.int i0) := Option.some.inj ei0
  obtain ⟨q0, r0⟩ := and_e hn
  obtain ⟨q1, r1⟩ := and_e r0
  obtain ⟨q2, r2⟩ := and_e r1
  obtain ⟨q3, r3⟩ := and_e r2
  obtain ⟨q4, r4⟩ := and_e r3
  obtain ⟨q5, r5⟩ := and_e r4
  obtain ⟨q6, r6⟩ := and_e r5
  obtain ⟨q7, r7⟩ := and_e r6
  obtain ⟨q8, r8⟩ := and_e r7
  obtain ⟨q9, r9⟩ := and_e r8
  obtain ⟨q10, r10⟩ := and_e r9
  obtain ⟨aUNKNOWN, evUNKNOWN⟩ := exa_v q0
  have E_UNKNOWN := Exa.start evUNKNOWN q0
  have S_UNKNOWN := Sta.start evUNKNOWN (Or.inr ⟨(hw _ (List.mem_of_getElem? (i := 7) rfl)), (hw _ (List.mem_of_getElem? (i := 8) rfl))⟩)
  obtain ⟨aPENDING, evPENDING⟩ := exa_v q1
  have E_PENDING := Exa.start evPENDING q1
  have S_PENDING := Sta.start evPENDING (Or.inr ⟨(hw _ (List.mem_of_getElem? (i := 7) rfl)), (hw _ (List.mem_of_getElem? (i := 15) rfl))⟩)
  obtain ⟨aDECIDED, evDECIDED⟩ := exa_v q4
  have E_DECIDED := Exa.start evDECIDED q4
  have S_DECIDED := Sta.start evDECIDED (Or.inr ⟨(hw _ (List.mem_of_getElem? (i := 7) rfl)), (hw _ (List.mem_of_getElem? (i := 17) rfl))⟩)
  obtain ⟨aABORTED, evABORTED⟩ := exa_v q6
  have E_ABORTED := Exa.start evABORTED q6
  have S_ABORTED := Sta.start evABORTED (Or.inr ⟨(hw _ (List.mem_of_getElem? (i := 7) rfl)), (hw _ (List.mem_of_getElem? (i := 19) rfl))⟩)
  obtain ⟨aCOMMITTED, evCOMMITTED⟩ := exa_v q8
  have E_COMMITTED := Exa.start evCOMMITTED q8
  have S_COMMITTED := Sta.start evCOMMITTED (Or.inr ⟨(hw _ (List.mem_of_getElem? (i := 7) rfl)), (hw _ (List.mem_of_getElem? (i := 21) rfl))⟩)
  obtain ⟨aPREPARED, evPREPARED⟩ := exa_v q10
  have E_PREPARED := Exa.start evPREPARED q10
  have S_PREPARED := Sta.start evPREPARED (Or.inr ⟨(hw _ (List.mem_of_getElem? (i := 7) rfl)), (hw _ (List.mem_of_getElem? (i := 23) rfl))⟩)
  have O_UNKNOWN := Fld.start (own_ord evUNKNOWN q2)
  have O_PENDING := Fld.start (own_ord evPENDING q3)
  have O_DECIDED := Fld.start (own_ord evDECIDED q5)
  have O_ABORTED := Fld.start (own_ord evABORTED q7)
  have O_COMMITTED := Fld.start (own_ord evCOMMITTED q9)
  have O_PREPARED := Fld.start (own_ord evPREPARED r10)
  obtain ⟨n, o, h1, h2, h3, _, L, rfl, ⟨rfl, N⟩, hq⟩ := own_rm0 l s _ hw tables_1 i0 aUNKNOWN aPREPARED aCOMMITTED aABORTED aPENDING aDECIDED s.heap s.heap.size (Nat.le_refl _) S_UNKNOWN S_PREPARED S_COMMITTED S_ABORTED S_PENDING S_DECIDED E_UNKNOWN E_PREPARED E_COMMITTED E_ABORTED E_PENDING E_DECIDED (Fld.ne O_UNKNOWN O_PREPARED (by decide)) (Fld.ne O_UNKNOWN O_COMMITTED (by decide)) (Fld.ne O_UNKNOWN O_ABORTED (by decide)) (Fld.ne O_UNKNOWN O_PENDING (by decide)) (Fld.ne O_UNKNOWN O_DECIDED (by decide)) (Fld.ne O_PREPARED O_UNKNOWN (by decide)) (Fld.ne O_PREPARED O_COMMITTED (by decide)) (Fld.ne O_PREPARED O_ABORTED (by decide)) (Fld.ne O_PREPARED O_PENDING (by decide)) (Fld.ne O_PREPARED O_DECIDED (by decide)) (Fld.ne O_COMMITTED O_UNKNOWN (by decide)) (Fld.ne O_COMMITTED O_PREPARED (by decide)) (Fld.ne O_COMMITTED O_ABORTED (by decide)) (Fld.ne O_COMMITTED O_PENDING (by decide)) (Fld.ne O_COMMITTED O_DECIDED (by decide)) (Fld.ne O_ABORTED O_UNKNOWN (by decide)) (Fld.ne O_ABORTED O_PREPARED (by decide)) (Fld.ne O_ABORTED O_COMMITTED (by decide)) (Fld.ne O_ABORTED O_PENDING (by decide)) (Fld.ne O_ABORTED O_DECIDED (by decide)) (Fld.ne O_PENDING O_UNKNOWN (by decide)) (Fld.ne O_PENDING O_PREPARED (by decide)) (Fld.ne O_PENDING O_COMMITTED (by decide)) (Fld.ne O_PENDING O_ABORTED (by decide)) (Fld.ne O_PENDING O_DECIDED (by decide)) (Fld.ne O_DECIDED O_UNKNOWN (by decide)) (Fld.ne O_DECIDED O_PREPARED (by decide)) (Fld.ne O_DECIDED O_COMMITTED (by decide)) (Fld.ne O_DECIDED O_ABORTED (by decide)) (Fld.ne O_DECIDED O_PENDING (by decide)) p e ha hc hk s m _ below hf ((Spec.applies_iff_loose hf).mp happ).1 ⟨rfl, State.Warmed39.refl s, rfl⟩ trivial
  refine ⟨n, _, h1, h2, h3, hpost _ _ _ _ _ _ ⟨Cond.after_iff.mpr rfl, Cond.after_iff.mpr (eq_i res_at (Term.int_eval (1)) rfl), trivial⟩ ⟨hq.1, hq.2.1, (hq.2.2.sift fun y hy => Or.inr (N y hy)).mono (by decide) (by decide)⟩⟩
theorem main_1_1 : Claimed_1_1 := comes_1 fun _ _ _ _ _ _ h hF => ⟨h.1, hF⟩
theorem main_1_2 : Claimed_1_2 := comes_1 fun _ _ _ _ _ _ h hF => ⟨h.2.1, hF⟩
end Jvm.Pilot.@@N@@
namespace Jvm.Pilot.@@N@@
open Jvm Jvm.ClassFile Sem Op Lib Jvm.Free Jvm.Stand Jvm.Pilot.@@N@@.Jvm.D
/-! MADE BY PROGRAM (witnessworld.py) out of the Statement's table words and the real class files: 14 classes; the members and pool entries that the words name. The judged class is class 1, her method 2. -/
namespace start1
open Jvm.ClassFile
def u (s : String) : CpInfo := .utf8 (stringToUtf16 s)
/-- a pool by its gaps: so many unusable entries, then the entry; so many at the end -/
def gap : Nat → List CpInfo → List CpInfo
  | 0, r => r
  | n + 1, r => .unusable :: gap n r
def poolList (es : List (Nat × CpInfo)) (last : Nat) : List CpInfo := es.foldr (fun e r => gap e.1 (e.2 :: r)) (gap last [])
def pool (es : List (Nat × CpInfo)) (last : Nat) : Array CpInfo := ⟨poolList es last⟩
def fileOf (pool : Array CpInfo) (this : Nat) (attrs : Array Attribute := #[]) (ms : Array MethodInfo := #[]) (fl : Nat := 33) (sup : Nat := 0) (ifs : Array Nat := #[]) (fds : Array FieldInfo := #[]) : ClassFile where
  minorVersion := 0
  majorVersion := 65
  constantPool := pool
  accessFlags := fl
  thisClass := this
  superClass := sup
  interfaces := ifs
  fields := fds
  methods := ms
  attributes := attrs
def plain (name : String) (sup : Option ClassId) : Class where
  name := name
  kind := .ordinary
  loader := none
  accessFlags := 33
  super := sup
  interfaces := #[]
  cf := none
  fields := #[]
  methods := #[]
  instanceTypes := #[]
  staticTypes := #[]
  resolved := #[]
  callSites := []
  init := .initialized
  statics := none
  mirror := none

def pool0 : Array CpInfo := pool [(5, u "<init>"), (0, u "()V"), (1, .class_ 10), (1, u "java/lang/Object")] 113

def k0m0 : Method := { name := "<init>", desc := "()V", sig := { parameters := [], returnType := none }, accessFlags := 1, code := none }
/-- java/lang/Object -/
def k0 : Class := { plain "java/lang/Object" none with
  accessFlags := 33
  interfaces := #[]
  cf := some (fileOf pool0 8 #[] #[{ accessFlags := 1, nameIndex := 5, descriptorIndex := 6, attributes := #[] }] 33 0 #[] #[])
  fields := #[]
  methods := #[k0m0]
  instanceTypes := #[]
  staticTypes := #[]
  resolved := Array.replicate 124 none
  statics := none }

def pool1 : Array CpInfo := pool [(2, .class_ 4), (1, u "java/lang/Object"), (0, u "<init>"), (0, u "()V"), (0, .fieldref 8 9), (0, .class_ 10), (0, .nameAndType 11 12), (0, u "ratify/TransactionState"), (0, u "UNKNOWN"), (0, u "Lratify/TransactionState;"), (0, .fieldref 8 14), (0, .nameAndType 15 12), (0, u "PREPARED"), (0, .fieldref 8 17), (0, .nameAndType 18 12), (0, u "COMMITTED"), (0, .fieldref 8 20), (0, .nameAndType 21 12), (0, u "ABORTED"), (0, .fieldref 8 23), (0, .nameAndType 24 12), (0, u "PENDING"), (0, .fieldref 8 26), (0, .nameAndType 27 12), (0, u "DECIDED"), (0, .integer 2147483647), (0, .methodref 30 31), (0, .class_ 32), (0, .nameAndType 33 34), (0, u "ratify/TransactionStateByRulePinLaw"), (0, u "pick"), (0, u "(I)Lratify/TransactionState;"), (0, .methodref 8 36), (0, .nameAndType 37 38), (0, u "byRule"), (0, u "()Z"), (0, .methodref 8 40), (0, .nameAndType 41 38), (0, u "isFinal"), (0, .methodref 8 43), (0, .nameAndType 44 38), (0, u "inDoubt"), (3, u "law"), (0, u "(I)Z")] 4

def k1m0 : Method := { name := "<init>", desc := "()V", sig := { parameters := [], returnType := none }, accessFlags := 1, code := none }
def k1c1 : Code := { maxStack := 2, maxLocals := 1, code := method_2_code, exceptionTable := #[], attributes := #[] }
def k1m1 : Method := { name := "pick", desc := "(I)Lratify/TransactionState;", sig := { parameters := [.int], returnType := some (.object "ratify/TransactionState") }, accessFlags := 10, code := some k1c1 }
def k1c2 : Code := { maxStack := 4, maxLocals := 5, code := code, exceptionTable := #[], attributes := #[] }
def k1m2 : Method := { name := "law", desc := "(I)Z", sig := { parameters := [.int], returnType := some .boolean }, accessFlags := 9, code := some k1c2 }
/-- ratify/TransactionStateByRulePinLaw -/
def k1 : Class := { plain "ratify/TransactionStateByRulePinLaw" (some 0) with
  accessFlags := 49
  interfaces := #[]
  cf := some (fileOf pool1 30 #[] #[{ accessFlags := 1, nameIndex := 5, descriptorIndex := 6, attributes := #[] }, { accessFlags := 10, nameIndex := 33, descriptorIndex := 34, attributes := #[] }, { accessFlags := 9, nameIndex := 48, descriptorIndex := 49, attributes := #[] }] 49 2 #[] #[])
  fields := #[]
  methods := #[k1m0, k1m1, k1m2]
  instanceTypes := #[]
  staticTypes := #[]
  resolved := Array.replicate 54 none
  statics := none }

def pool2 : Array CpInfo := pool [(1, .class_ 2), (0, u "java/lang/constant/Constable"), (0, .class_ 4), (0, u "java/lang/Object")] 6

/-- java/lang/constant/Constable -/
def k2 : Class := { plain "java/lang/constant/Constable" (some 0) with
  accessFlags := 1537
  interfaces := #[]
  cf := some (fileOf pool2 1 #[] #[] 1537 3 #[] #[])
  fields := #[]
  methods := #[]
  instanceTypes := #[]
  staticTypes := #[]
  resolved := Array.replicate 11 none
  statics := none }

def pool3 : Array CpInfo := pool [(1, .class_ 2), (0, u "java/lang/Comparable"), (0, .class_ 4), (0, u "java/lang/Object")] 7

/-- java/lang/Comparable -/
def k3 : Class := { plain "java/lang/Comparable" (some 0) with
  accessFlags := 1537
  interfaces := #[]
  cf := some (fileOf pool3 1 #[] #[] 1537 3 #[] #[])
  fields := #[]
  methods := #[]
  instanceTypes := #[]
  staticTypes := #[]
  resolved := Array.replicate 12 none
  statics := none }

def pool4 : Array CpInfo := pool [(1, .class_ 2), (0, u "java/io/Serializable"), (0, .class_ 4), (0, u "java/lang/Object")] 2

/-- java/io/Serializable -/
def k4 : Class := { plain "java/io/Serializable" (some 0) with
  accessFlags := 1537
  interfaces := #[]
  cf := some (fileOf pool4 1 #[] #[] 1537 3 #[] #[])
  fields := #[]
  methods := #[]
  instanceTypes := #[]
  staticTypes := #[]
  resolved := Array.replicate 7 none
  statics := none }

def pool5 : Array CpInfo := pool [(2, .class_ 4), (1, u "java/lang/Enum"), (0, u "name"), (0, u "Ljava/lang/String;"), (2, u "ordinal"), (0, u "I"), (1, .class_ 14), (1, u "java/lang/Object"), (4, u "hash"), (86, .class_ 108), (1, u "java/lang/Enum$EnumDesc"), (2, .class_ 112), (0, u "java/lang/constant/Constable"), (0, .class_ 114), (0, u "java/lang/Comparable"), (0, .class_ 116), (0, u "java/io/Serializable")] 87

/-- java/lang/Enum -/
def k5 : Class := { plain "java/lang/Enum" (some 0) with
  accessFlags := 1057
  interfaces := #[2, 3, 4]
  cf := some (fileOf pool5 2 #[.nestMembers #[106]] #[] 1057 12 #[111, 113, 115] #[{ accessFlags := 18, nameIndex := 5, descriptorIndex := 6, attributes := #[] }, { accessFlags := 18, nameIndex := 9, descriptorIndex := 10, attributes := #[] }, { accessFlags := 2, nameIndex := 19, descriptorIndex := 10, attributes := #[] }])
  fields := #[{ name := "name", type := (.object "java/lang/String"), accessFlags := 18, slot := 0, constantValue := 0 }, { name := "ordinal", type := .int, accessFlags := 18, slot := 1, constantValue := 0 }, { name := "hash", type := .int, accessFlags := 2, slot := 2, constantValue := 0 }]
  methods := #[]
  instanceTypes := #[(.object "java/lang/String"), .int, .int]
  staticTypes := #[]
  resolved := Array.replicate 204 none
  statics := none }

def pool6 : Array CpInfo := pool [(1, .class_ 2), (0, u "ratify/TransactionState"), (2, u "UNKNOWN"), (0, u "Lratify/TransactionState;"), (0, .fieldref 1 8), (0, .nameAndType 9 6), (0, u "PREPARED"), (0, .fieldref 1 11), (0, .nameAndType 12 6), (0, u "COMMITTED"), (0, .fieldref 1 14), (0, .nameAndType 15 6), (0, u "ABORTED"), (0, .fieldref 1 17), (0, .nameAndType 18 6), (0, u "PENDING"), (0, .fieldref 1 20), (0, .nameAndType 21 6), (0, u "DECIDED"), (2, u "$VALUES"), (0, u "[Lratify/TransactionState;"), (6, .class_ 34), (1, u "java/lang/Enum"), (39, u "isFinal"), (0, u "()Z"), (1, u "byRule"), (0, u "inDoubt")] 4

def k6c0 : Code := { maxStack := 2, maxLocals := 1, code := prog_136_method_6_code, exceptionTable := #[], attributes := #[] }
def k6m0 : Method := { name := "isFinal", desc := "()Z", sig := { parameters := [], returnType := some .boolean }, accessFlags := 0, code := some k6c0 }
def k6c1 : Code := { maxStack := 2, maxLocals := 1, code := prog_136_method_7_code, exceptionTable := #[], attributes := #[] }
def k6m1 : Method := { name := "byRule", desc := "()Z", sig := { parameters := [], returnType := some .boolean }, accessFlags := 0, code := some k6c1 }
def k6c2 : Code := { maxStack := 2, maxLocals := 1, code := prog_136_method_8_code, exceptionTable := #[], attributes := #[] }
def k6m2 : Method := { name := "inDoubt", desc := "()Z", sig := { parameters := [], returnType := some .boolean }, accessFlags := 0, code := some k6c2 }
/-- ratify/TransactionState -/
def k6 : Class := { plain "ratify/TransactionState" (some 5) with
  accessFlags := 16433
  interfaces := #[]
  cf := some (fileOf pool6 1 #[] #[{ accessFlags := 0, nameIndex := 74, descriptorIndex := 75, attributes := #[] }, { accessFlags := 0, nameIndex := 77, descriptorIndex := 75, attributes := #[] }, { accessFlags := 0, nameIndex := 78, descriptorIndex := 75, attributes := #[] }] 16433 32 #[] #[{ accessFlags := 16409, nameIndex := 5, descriptorIndex := 6, attributes := #[] }, { accessFlags := 16409, nameIndex := 9, descriptorIndex := 6, attributes := #[] }, { accessFlags := 16409, nameIndex := 12, descriptorIndex := 6, attributes := #[] }, { accessFlags := 16409, nameIndex := 15, descriptorIndex := 6, attributes := #[] }, { accessFlags := 16409, nameIndex := 18, descriptorIndex := 6, attributes := #[] }, { accessFlags := 16409, nameIndex := 21, descriptorIndex := 6, attributes := #[] }, { accessFlags := 4122, nameIndex := 24, descriptorIndex := 25, attributes := #[] }])
  fields := #[{ name := "UNKNOWN", type := (.object "ratify/TransactionState"), accessFlags := 16409, slot := 0, constantValue := 0 }, { name := "PREPARED", type := (.object "ratify/TransactionState"), accessFlags := 16409, slot := 1, constantValue := 0 }, { name := "COMMITTED", type := (.object "ratify/TransactionState"), accessFlags := 16409, slot := 2, constantValue := 0 }, { name := "ABORTED", type := (.object "ratify/TransactionState"), accessFlags := 16409, slot := 3, constantValue := 0 }, { name := "PENDING", type := (.object "ratify/TransactionState"), accessFlags := 16409, slot := 4, constantValue := 0 }, { name := "DECIDED", type := (.object "ratify/TransactionState"), accessFlags := 16409, slot := 5, constantValue := 0 }, { name := "$VALUES", type := (.array (.object "ratify/TransactionState")), accessFlags := 4122, slot := 6, constantValue := 0 }]
  methods := #[k6m0, k6m1, k6m2]
  instanceTypes := #[(.object "java/lang/String"), .int, .int]
  staticTypes := #[(.object "ratify/TransactionState"), (.object "ratify/TransactionState"), (.object "ratify/TransactionState"), (.object "ratify/TransactionState"), (.object "ratify/TransactionState"), (.object "ratify/TransactionState"), (.array (.object "ratify/TransactionState"))]
  resolved := Array.replicate 83 none
  statics := some 0 }

def pool7 : Array CpInfo := pool [(1, u "java/lang/Cloneable"), (0, .class_ 1), (0, u "java/lang/Object"), (0, .class_ 3)] 3

/-- java/lang/Cloneable -/
def k7 : Class := { plain "java/lang/Cloneable" (some 0) with
  accessFlags := 1537
  interfaces := #[]
  cf := some (fileOf pool7 2 #[] #[] 1537 4 #[] #[])
  fields := #[]
  methods := #[]
  instanceTypes := #[]
  staticTypes := #[]
  resolved := Array.replicate 8 none
  statics := none }

/-- the primitive boolean -/
def k8 : Class := { plain "boolean" none with kind := .primitive 'Z', accessFlags := 0x411 }
/-- [Z -/
def k9 : Class := { plain "[Z" (some 0) with kind := .array 8 .boolean, interfaces := #[7, 4], accessFlags := 1041 }

/-- the primitive byte -/
def k10 : Class := { plain "byte" none with kind := .primitive 'B', accessFlags := 0x411 }
/-- [B -/
def k11 : Class := { plain "[B" (some 0) with kind := .array 10 .byte, interfaces := #[7, 4], accessFlags := 1041 }

/-- the primitive int -/
def k12 : Class := { plain "int" none with kind := .primitive 'I', accessFlags := 0x411 }
/-- [I -/
def k13 : Class := { plain "[I" (some 0) with kind := .array 12 .int, interfaces := #[7, 4], accessFlags := 1041 }

def heap : Heap := #[{ cls := 6, slots := #[.ref 1, .ref 2, .ref 3, .ref 4, .ref 5, .ref 6, .null], vm := .statics 6 },
  { cls := 6, slots := #[.null, .int 0, .int 0], vm := .none },
  { cls := 6, slots := #[.null, .int 1, .int 0], vm := .none },
  { cls := 6, slots := #[.null, .int 2, .int 0], vm := .none },
  { cls := 6, slots := #[.null, .int 3, .int 0], vm := .none },
  { cls := 6, slots := #[.null, .int 4, .int 0], vm := .none },
  { cls := 6, slots := #[.null, .int 5, .int 0], vm := .none }]
def classes : Array Class := #[k0, k1, k2, k3, k4, k5, k6, k7, k8, k9, k10, k11, k12, k13]
def interned : List (Array UInt16 × Addr) := []
def slotsUsed : Nat := 25
def theMethod : MethodId := ⟨1, 2⟩
def args0 : Array Value := #[.int 5]
def aboutOver (below : List Frame) : State where
  vm := { classes := classes, interned := interned.toArray }
  heap := heap
  slotsUsed := slotsUsed
  threads := #[{ frames := .invoking theMethod args0 :: below }]
def below0 : List Frame := [.native { method := ⟨0, 0⟩, args := #[] }]
def about1 : State := aboutOver below0
def p0 : Program := .bare "" "" ""
def e0 : Env := launch0.env 0 0 0
theorem w_frames : about1.frames = Frame.invoking theMethod args0 :: below0 := rfl
set_option maxRecDepth 65536 in
theorem w_args : argsFit about1.vm theMethod args0 = true := by decide +kernel
set_option maxRecDepth 65536 in
theorem w_heap : heapFits about1 = true := by decide +kernel
set_option maxRecDepth 65536 in
theorem w_runnable : about1.curStatus? = some .runnable := by decide +kernel
set_option maxRecDepth 65536 in
theorem w_alone : about1.alone = true := by decide +kernel
set_option maxRecDepth 65536 in
theorem w_named : about1.methodNamed? x = some theMethod := by decide +kernel
set_option maxRecDepth 65536 in
theorem w_hears : about1.hears theMethod below0 = true := by decide +kernel
set_option maxRecDepth 65536 in
theorem w_ripe : about1.ripe theMethod args0 below0 = true := by decide +kernel
theorem w_running : about1.status = .running := rfl
set_option maxRecDepth 65536 in
theorem w_room : about1.hasRoom e0.platform room_1 = true :=
  launch0.hasRoom_least _ room_1 (by decide +kernel) (by decide +kernel) (by decide +kernel) (by decide +kernel) (by decide +kernel) (by decide +kernel)
theorem allAtoms_all (ts : List Jvm.Cond) (a : Array Jvm.Value) (st : Jvm.State) : (allAtoms ts).before a st = ts.all (fun c => c.before a st) := by
  induction ts with
  | nil => rfl
  | cons c t ih =>
    show (Jvm.Cond.and c (allAtoms t)).before a st = _
    rw [Jvm.Cond.before_and, ih, List.all_cons]
def words1 : List Jvm.Cond := Jvm.Cond.code x code maxLocals ret :: tables_1
/-- a 'code' word, met by the world's own term for the bytes: nothing is compared byte by byte -/
theorem code_word {y : MethodName} {bytes : ByteArray} {mx : Nat} {rt : Option FieldType} {a : Array Value} {s : State} {m : MethodId} {meth : Method} {c : Code} (h1 : s.methodNamed? y = some m) (h2 : s.vm.method? m = some meth) (h3 : meth.code = some c) (h4 : c.code = bytes)
    (h5 : (c.maxLocals == mx && c.exceptionTable.isEmpty && decide (c.maxStack ≤ mostOperands) && decide (meth.sig.returnType = rt) && !meth.locks && decide (parseMethodDescriptor y.desc = some meth.sig)) = true) : (Jvm.Cond.code y bytes mx rt).before a s = true := by
  simp only [Bool.and_eq_true, beq_iff_eq, Bool.not_eq_true', decide_eq_true_eq] at h5
  obtain ⟨⟨⟨⟨⟨g1, g2⟩, g3⟩, g4⟩, g5⟩, g6⟩ := h5
  simp [Cond.before, Cond.holds, Cond.value, h1, h2, h3, h4, g1, g2, g3, g4, g5, g6]
def isCode : Jvm.Cond → Bool
  | .code _ _ _ _ => true
  | _ => false
theorem all_split {L : List Jvm.Cond} {P : Jvm.Cond → Bool} (h1 : L.all (fun c => isCode c || P c) = true) (h2 : ∀ c ∈ L.filter isCode, P c = true) : L.all P = true := by
  refine List.all_eq_true.mpr fun c hc => ?_
  have h := List.all_eq_true.mp h1 c hc
  rcases Bool.eq_false_or_eq_true (isCode c) with hi | hi
  · exact h2 c (List.mem_filter.mpr ⟨hc, hi⟩)
  · simpa [hi] using h
set_option maxRecDepth 65536 in
theorem w_c0 : (Jvm.Cond.code x code maxLocals ret).before args0 about1 = true := code_word (m := ⟨1, 2⟩) (meth := k1m2) (c := k1c2) (by decide +kernel) rfl rfl rfl (by decide +kernel)
set_option maxRecDepth 65536 in
theorem w_c1 : (Jvm.Cond.code ({ cls := "ratify/TransactionStateByRulePinLaw", name := "pick", desc := "(I)Lratify/TransactionState;" } : Jvm.MethodName) method_2_code (1 : Nat) (Option.some (Jvm.ClassFile.FieldType.object "ratify/TransactionState"))).before args0 about1 = true := code_word (m := ⟨1, 1⟩) (meth := k1m1) (c := k1c1) (by decide +kernel) rfl rfl rfl (by decide +kernel)
set_option maxRecDepth 65536 in
theorem w_c2 : (Jvm.Cond.code ({ cls := "ratify/TransactionState", name := "byRule", desc := "()Z" } : Jvm.MethodName) prog_136_method_7_code (1 : Nat) (Option.some Jvm.ClassFile.FieldType.boolean)).before args0 about1 = true := code_word (m := ⟨6, 1⟩) (meth := k6m1) (c := k6c1) (by decide +kernel) rfl rfl rfl (by decide +kernel)
set_option maxRecDepth 65536 in
theorem w_c3 : (Jvm.Cond.code ({ cls := "ratify/TransactionState", name := "isFinal", desc := "()Z" } : Jvm.MethodName) prog_136_method_6_code (1 : Nat) (Option.some Jvm.ClassFile.FieldType.boolean)).before args0 about1 = true := code_word (m := ⟨6, 0⟩) (meth := k6m0) (c := k6c0) (by decide +kernel) rfl rfl rfl (by decide +kernel)
set_option maxRecDepth 65536 in
theorem w_c4 : (Jvm.Cond.code ({ cls := "ratify/TransactionState", name := "inDoubt", desc := "()Z" } : Jvm.MethodName) prog_136_method_8_code (1 : Nat) (Option.some Jvm.ClassFile.FieldType.boolean)).before args0 about1 = true := code_word (m := ⟨6, 2⟩) (meth := k6m2) (c := k6c2) (by decide +kernel) rfl rfl rfl (by decide +kernel)
def codes1 : List Jvm.Cond := [Jvm.Cond.code x code maxLocals ret, Jvm.Cond.code ({ cls := "ratify/TransactionStateByRulePinLaw", name := "pick", desc := "(I)Lratify/TransactionState;" } : Jvm.MethodName) method_2_code (1 : Nat) (Option.some (Jvm.ClassFile.FieldType.object "ratify/TransactionState")), Jvm.Cond.code ({ cls := "ratify/TransactionState", name := "byRule", desc := "()Z" } : Jvm.MethodName) prog_136_method_7_code (1 : Nat) (Option.some Jvm.ClassFile.FieldType.boolean), Jvm.Cond.code ({ cls := "ratify/TransactionState", name := "isFinal", desc := "()Z" } : Jvm.MethodName) prog_136_method_6_code (1 : Nat) (Option.some Jvm.ClassFile.FieldType.boolean), Jvm.Cond.code ({ cls := "ratify/TransactionState", name := "inDoubt", desc := "()Z" } : Jvm.MethodName) prog_136_method_8_code (1 : Nat) (Option.some Jvm.ClassFile.FieldType.boolean)]
set_option maxRecDepth 65536 in
theorem codes_eq : words1.filter isCode = codes1 := rfl
theorem w_codes : ∀ c ∈ words1.filter isCode, c.before args0 about1 = true := by
  rw [codes_eq]
  intro c hc
  simp only [codes1, List.mem_cons, List.not_mem_nil, or_false] at hc
  rcases hc with rfl | rfl | rfl | rfl | rfl
  · exact w_c0
  · exact w_c1
  · exact w_c2
  · exact w_c3
  · exact w_c4
set_option maxRecDepth 65536 in
theorem w_t1 : (words1.take 24).all (fun c => isCode c || c.before args0 about1) = true := by decide +kernel
set_option maxRecDepth 65536 in
theorem w_t2 : (words1.drop 24).all (fun c => isCode c || c.before args0 about1) = true := by decide +kernel
theorem w_tables : (allAtoms (Jvm.Cond.code x code maxLocals ret :: tables_1)).before args0 about1 = true := by
  rw [allAtoms_all]
  show words1.all (fun c => c.before args0 about1) = true
  refine all_split ?_ w_codes
  rw [← List.take_append_drop 24 words1, List.all_append, w_t1, w_t2]
  rfl
set_option maxRecDepth 65536 in
theorem w_case : (Jvm.Cond.and given_1 narrow_1).before args0 about1 = true := by decide +kernel
theorem w_applies : (headSpec (Jvm.Cond.code x code maxLocals ret :: tables_1) room_1).applies x e0.platform about1 = true :=
  (Spec.applies_iff w_frames).mpr ⟨w_running, w_runnable, w_alone, w_named, w_hears, w_ripe, w_room, w_tables⟩
theorem atStart : AtStart classFile x code maxLocals ret World_1 tables_1 room_1 Calls_1 rest_1 Pre_1 launch0 p0 e0 about1 theMethod args0 below0 :=
  ⟨lists_1, trivial, launch0.admits_env _ _ _, launch0.least_env, fairChoices_fair.cas, fairChoices_fair.clock, w_frames, w_args, w_heap, w_applies, trivial, trivial, w_case⟩
end start1
theorem witness_1 : WitnessClaimed_1 := ⟨start1.p0, start1.e0, start1.about1, start1.theMethod, start1.args0, start1.below0, start1.atStart⟩
end Jvm.Pilot.@@N@@
