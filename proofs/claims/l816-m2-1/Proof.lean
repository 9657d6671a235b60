import JvmDerived
import JvmDerived.Pilot.@@N@@Statement
import JvmDerived.Pilot.@@N@@Code
set_option linter.unusedVariables false
set_option linter.unusedSimpArgs false
namespace Jvm.RoadKit
open Sem ClassFile Op Lib Jvm.Stand Jvm.Free Jvm.LawKit
section New
variable {p : Program} {l : Launch} {e : Env} {R : Room} {s : State} {m : MethodId} {args : Array Value} {below : List Frame} {meth : Method} {c : Code} {T : State} {locs : List Loc} {cells slots : Nat}
theorem retI (X : Stand p l e R s m args below meth c T locs cells slots) (hx : p.tables.exec = Jvm.exec) {pc : Nat} {Ls : Array Slot} {z : Int32} {rest : List Value} (hret : meth.sig.returnType = some .int) (hd : decode c.code pc = .ok (.ireturn, 1)) {fs : List Frame}
    (hl : ∀ (f : JFrame) (acts : List Action), f.method = m → f.locked = none → f.entered = [] → (doReturn e (T.setTop f) acts (some (.int z))).1 = T.setFrames fs) : Steps p.tables e below (T.setTop (mkF m pc Ls (.int z :: rest))) (T.setFrames fs) := by
  have hm' : T.vm.method? m = some meth := X.method'
  have hn : narrow .int (.int z) = .int z := rfl
  show Steps p.tables e below (T.setTop { method := m, pc := pc, locals := Ls, stack := _ :: rest, locked := none }) _
  jvm_step X.here [X.here.top, hx, hd, hm', hret, hn]
  first | (intro acts; rw [hl _ acts rfl rfl rfl]) | rw [hl _ _ rfl rfl rfl]
  exact Steps.refl _
end New
end Jvm.RoadKit
namespace Jvm.Pilot.@@N@@
open Jvm Jvm.ClassFile Sem Op Lib Jvm.Free Jvm.Stand Jvm.LawKit Jvm.RoadKit Bundle Jvm.Pilot.@@N@@.Jvm.D
theorem own_ord {s : State} {args : Array Value} {t : Term} {x : Addr} {C n d : String} {k : Int32} (ht : t.eval args s none [] s = some (.ref x)) (h : (Jvm.Cond.eq (Jvm.Term.field t C n d) (Jvm.Term.int k)).value args s none s [] = some true) : s.fieldOf? x C n d = some (.int k) := by
  obtain ⟨a, b, ha, hb, -, hk⟩ := cmp_v (Or.inl h)
  have eb : b = .int k := (Option.some.inj ((Term.int_eval k).symm.trans hb)).symm
  subst eb
  obtain ⟨z, rfl⟩ := hk
  simp only [Cond.value, ha, hb] at h
  have e : z = k := by simpa using h
  rw [← e, ← ha, fld_at ht]
theorem own_pd0 : parseMethodDescriptor "()I" = some ⟨[], some .int⟩ := by decide +kernel

theorem own_d1_0 : decode prog_84_method_5_code 0 = .ok (.aload_n 0, 1) := by decide +kernel
theorem own_d1_1 : decode prog_84_method_5_code 1 = .ok (.getstatic 3, 3) := by decide +kernel
theorem own_d1_4 : decode prog_84_method_5_code 4 = .ok (.if_acmp .ne 7, 3) := by decide +kernel
theorem own_d1_7 : decode prog_84_method_5_code 7 = .ok (.iconst 0, 1) := by decide +kernel
theorem own_d1_8 : decode prog_84_method_5_code 8 = .ok (.goto 4, 3) := by decide +kernel
theorem own_d1_11 : decode prog_84_method_5_code 11 = .ok (.iconst 1, 1) := by decide +kernel
theorem own_d1_12 : decode prog_84_method_5_code 12 = .ok (.ireturn, 1) := by decide +kernel
theorem own_pn_own_rm1 : plainName "raveller/core/Verdict$Outcome" = true := by first | (simp [plainName, overriddenIn]; done) | decide +kernel
theorem own_ef_own_rm1 (m : MethodId) (x0 : Addr) : entryFrame m #[(.ref x0)] 1 = mkF m 0 #[.val (.ref x0)] [] := by first | (simp [entryFrame, mkF, argsToLocals, Value.category]; done) | rfl
def Q_own_rm1 (Z : State) (a1 : Addr) (aPASS : Addr) (h0 : Heap) (n0 : Nat) (v : Option Value) (h : Heap) (L : List Loc) : Prop := v = some (.int (if a1 = aPASS then 0 else 1)) ∧ Fr n0 L ∧ h = h0
set_option maxRecDepth 65536 in
set_option maxHeartbeats 40000000 in
theorem own_rm1 (l : Launch) (Z : State) (a0 : Array Value) (hw : ∀ d ∈ tables_1, d.before a0 Z = true) (ws : List Jvm.Cond) (a1 : Addr) (aPASS : Addr) (h0 : Heap) (n0 : Nat) (Z0 : n0 ≤ h0.size) (S_PASS : Sta Z h0 "raveller/core/Verdict$Outcome" "PASS" "Lraveller/core/Verdict$Outcome;" (.ref aPASS)) :
    MetFree l (⟨"raveller/core/Verdict$Outcome", "exitStatus", "()I"⟩ : MethodName) (head1 (Jvm.Cond.code (⟨"raveller/core/Verdict$Outcome", "exitStatus", "()I"⟩ : MethodName) prog_84_method_5_code 1 (some .int) :: ws) ({ frames := 0, cells := 0, slots := 0, locals := 0 } : Room)) (fun a U => a = #[(.ref a1)] ∧ Z.Warmed39 U.vm ∧ U.heap = h0) (fun _ _ _ _ _ => True) (fun _ U o U' => ∃ v L, o = .returned v ∧ Q_own_rm1 Z a1 aPASS h0 n0 v U'.heap L ∧ FrameEnd U o U' L ({ frames := 0, cells := 0, slots := 0, locals := 0 } : Room).cells ({ frames := 0, cells := 0, slots := 0, locals := 0 } : Room).slots) := by
  refine MetFree.of_bodySF (plainFor_of_name own_pn_own_rm1) hisR ?_
  intro p e s m args below meth c s₁ Bd hml0 hP hK
  obtain ⟨rfl, hZ, hh⟩ := hP
  have hx := Bd.exec
  have hby := Bd.bytes
  have hml : c.maxLocals = 1 := hml0
  have hown : s.vm.findClass "raveller/core/Verdict$Outcome" = some m.cls := findClass_of_methodNamed Bd.named
  have hnm := (name_of_methodNamed Bd.named Bd.method).1
  have X0 : Stand p l e ({ frames := 0, cells := 0, slots := 0, locals := 0 } : Room) s m #[(.ref a1)] below meth c s₁ [] 0 0 := Stand.of_body Bd
  have e0 : s₁.heap = h0 := by rw [← hh, Bd.state]; rfl
  have N0 := Fr.nil n0
  have pre0 : Goes p e below s₁ (entryFrame m #[(.ref a1)] 1) s₁ (mkF m 0 #[.val (.ref a1)] []) := fun t k => castTop (own_ef_own_rm1 m a1) k
  have pre1 : Goes p e below s₁ (entryFrame m #[(.ref a1)] 1) s₁ (mkF m 1 #[.val (.ref a1)] [(.ref a1)]) := fun t kt => pre0 t (by
      show Steps p.tables e below (s₁.setTop (mkF m 0 #[.val (.ref a1)] [])) _
      refine XS.aloadN X0.here hx rfl (hb hby own_d1_0) rfl rfl ?_
      exact kt)
  obtain ⟨T2, X2, e2, st2⟩ := getS2 X0 hx hZ hown (host := "") (Or.inl (hw _ (List.mem_of_getElem? (i := 8) rfl))) Via.refl e0 S_PASS (g := (mkF m 1 #[.val (.ref a1)] [(.ref a1)])) rfl (hb hby own_d1_1)
  have pre3 : Goes p e below s₁ (entryFrame m #[(.ref a1)] 1) T2 (mkF m 4 #[.val (.ref a1)] [(.ref aPASS), (.ref a1)]) := fun t kt => pre1 t (st2 t kt)
  by_cases ha4_4 : a1 = aPASS
  · -- acmp
    have pre5 : Goes p e below s₁ (entryFrame m #[(.ref a1)] 1) T2 (mkF m 12 #[.val (.ref a1)] [(.int (0 : Int32))]) := fun t kt => pre3 t (by
        show Steps p.tables e below (T2.setTop (mkF m 4 #[.val (.ref a1)] [(.ref aPASS), (.ref a1)])) _
        refine Jvm.RoadKit.acmp (g := (mkF m 4 #[.val (.ref a1)] [(.ref aPASS), (.ref a1)])) X2 hx rfl rfl rfl (pc0 := 4) (pc' := 7) (same := true) rfl (hb hby own_d1_4) rfl (decide_eq_true (congrArg Value.ref ha4_4)) (by decide) (by decide) ?_
        show Steps p.tables e below (T2.setTop (mkF m 7 #[.val (.ref a1)] [])) _
        refine XS.iconst X2.here hx rfl (hb hby own_d1_7) ?_
        show Steps p.tables e below (T2.setTop (mkF m 8 #[.val (.ref a1)] [(.int (0 : Int32))])) _
        refine XS.goto X2.here hx rfl (pc0 := 8) (pc' := 12) rfl (hb hby own_d1_8) (by decide) (by decide) ?_
        exact kt)
    obtain ⟨fs, hr, hrun, hended, hW, hsame⟩ := X2.leave (v := some (.int (0 : Int32))) (fun h => by rw [Bd.returns] at h; cases h)
    refine ⟨_, _, pre5 _ ?_, hrun, hended, _, _, rfl, ?_, ⟨_, rfl⟩, hW, hsame.mono (by decide) (by decide)⟩
    · show Steps p.tables e below (T2.setTop (mkF m 12 #[.val (.ref a1)] [(.int (0 : Int32))])) _
      exact retI X2 hx Bd.returns (hb hby own_d1_12) hr
    · show Q_own_rm1 Z a1 aPASS h0 n0 _ T2.heap _
      rw [e2]
      exact ⟨by rw [if_pos ha4_4], N0, rfl⟩
  · -- acmp
    have pre6 : Goes p e below s₁ (entryFrame m #[(.ref a1)] 1) T2 (mkF m 12 #[.val (.ref a1)] [(.int (1 : Int32))]) := fun t kt => pre3 t (by
        show Steps p.tables e below (T2.setTop (mkF m 4 #[.val (.ref a1)] [(.ref aPASS), (.ref a1)])) _
        refine Jvm.RoadKit.acmp (g := (mkF m 4 #[.val (.ref a1)] [(.ref aPASS), (.ref a1)])) X2 hx rfl rfl rfl (pc0 := 4) (pc' := 11) (same := false) rfl (hb hby own_d1_4) rfl (decide_eq_false fun q => ha4_4 (Value.ref.inj q)) (by decide) (by decide) ?_
        show Steps p.tables e below (T2.setTop (mkF m 11 #[.val (.ref a1)] [])) _
        refine XS.iconst X2.here hx rfl (hb hby own_d1_11) ?_
        exact kt)
    obtain ⟨fs, hr, hrun, hended, hW, hsame⟩ := X2.leave (v := some (.int (1 : Int32))) (fun h => by rw [Bd.returns] at h; cases h)
    refine ⟨_, _, pre6 _ ?_, hrun, hended, _, _, rfl, ?_, ⟨_, rfl⟩, hW, hsame.mono (by decide) (by decide)⟩
    · show Steps p.tables e below (T2.setTop (mkF m 12 #[.val (.ref a1)] [(.int (1 : Int32))])) _
      exact retI X2 hx Bd.returns (hb hby own_d1_12) hr
    · show Q_own_rm1 Z a1 aPASS h0 n0 _ T2.heap _
      rw [e2]
      exact ⟨by rw [if_neg ha4_4], N0, rfl⟩
theorem own_pn_own_rm0 : plainName "raveller/core/OutcomeExitStatusPinLaw" = true := by first | (simp [plainName, overriddenIn]; done) | decide +kernel
theorem own_ef_own_rm0 (m : MethodId) (x0 : Int32) : entryFrame m #[(.int x0)] maxLocals = mkF m 0 #[.val (.int x0), .unset, .unset, .unset] [] := by first | (simp [entryFrame, mkF, argsToLocals, Value.category, maxLocals]; done) | rfl
def Q_own_rm0 (Z : State) (qk : Int32) (aPASS : Addr) (aSTEP_LIMIT : Addr) (aDEADLOCK : Addr) (aFAIL : Addr) (h0 : Heap) (n0 : Nat) (v : Option Value) (h : Heap) (L : List Loc) : Prop := v = some (.int (1 : Int32)) ∧ Fr n0 L
set_option maxRecDepth 65536 in
set_option maxHeartbeats 40000000 in
theorem own_rm0 (l : Launch) (Z : State) (a0 : Array Value) (hw : ∀ d ∈ tables_1, d.before a0 Z = true) (ws : List Jvm.Cond) (qk : Int32) (aPASS : Addr) (aSTEP_LIMIT : Addr) (aDEADLOCK : Addr) (aFAIL : Addr) (h0 : Heap) (n0 : Nat) (Z0 : n0 ≤ h0.size) (S_PASS : Sta Z h0 "raveller/core/Verdict$Outcome" "PASS" "Lraveller/core/Verdict$Outcome;" (.ref aPASS)) (S_STEP_LIMIT : Sta Z h0 "raveller/core/Verdict$Outcome" "STEP_LIMIT" "Lraveller/core/Verdict$Outcome;" (.ref aSTEP_LIMIT)) (S_DEADLOCK : Sta Z h0 "raveller/core/Verdict$Outcome" "DEADLOCK" "Lraveller/core/Verdict$Outcome;" (.ref aDEADLOCK)) (S_FAIL : Sta Z h0 "raveller/core/Verdict$Outcome" "FAIL" "Lraveller/core/Verdict$Outcome;" (.ref aFAIL)) (E_PASS : Exa Z h0 aPASS "raveller/core/Verdict$Outcome") (E_STEP_LIMIT : Exa Z h0 aSTEP_LIMIT "raveller/core/Verdict$Outcome") (E_DEADLOCK : Exa Z h0 aDEADLOCK "raveller/core/Verdict$Outcome") (E_FAIL : Exa Z h0 aFAIL "raveller/core/Verdict$Outcome") (ne_STEP_LIMIT : aSTEP_LIMIT ≠ aPASS) (ne_DEADLOCK : aDEADLOCK ≠ aPASS) (ne_FAIL : aFAIL ≠ aPASS) :
    MetFree l x (head1 (Jvm.Cond.code x code maxLocals ret :: ws) room_1) (fun a U => a = #[(.int qk)] ∧ Z.Warmed39 U.vm ∧ U.heap = h0) (fun _ _ _ _ _ => True) (fun _ U o U' => ∃ v L, o = .returned v ∧ Q_own_rm0 Z qk aPASS aSTEP_LIMIT aDEADLOCK aFAIL h0 n0 v U'.heap L ∧ FrameEnd U o U' L room_1.cells room_1.slots) := by
  refine MetFree.of_bodySF (plainFor_of_name own_pn_own_rm0) hisR ?_
  intro p e s m args below meth c s₁ Bd hml0 hP hK
  obtain ⟨rfl, hZ, hh⟩ := hP
  have hx := Bd.exec
  have hby := Bd.bytes
  have hml : c.maxLocals = 4 := hml0
  have hown : s.vm.findClass "raveller/core/OutcomeExitStatusPinLaw" = some m.cls := findClass_of_methodNamed Bd.named
  have hnm := (name_of_methodNamed Bd.named Bd.method).1
  have X0 : Stand p l e room_1 s m #[(.int qk)] below meth c s₁ [] 0 0 := Stand.of_body Bd
  have e0 : s₁.heap = h0 := by rw [← hh, Bd.state]; rfl
  have N0 := Fr.nil n0
  have pre0 : Goes p e below s₁ (entryFrame m #[(.int qk)] maxLocals) s₁ (mkF m 0 #[.val (.int qk), .unset, .unset, .unset] []) := fun t k => castTop (own_ef_own_rm0 m qk) k
  have pre1 : Goes p e below s₁ (entryFrame m #[(.int qk)] maxLocals) s₁ (mkF m 5 #[.val (.int qk), .val (.int (qk &&& (3 : Int32))), .unset, .unset] [(.int (qk &&& (3 : Int32)))]) := fun t kt => pre0 t (by
      show Steps p.tables e below (s₁.setTop (mkF m 0 #[.val (.int qk), .unset, .unset, .unset] [])) _
      refine XS.iloadN X0.here hx rfl (hb hby at_0) rfl ?_
      show Steps p.tables e below (s₁.setTop (mkF m 1 #[.val (.int qk), .unset, .unset, .unset] [(.int qk)])) _
      refine XS.iconst X0.here hx rfl (hb hby at_1) ?_
      show Steps p.tables e below (s₁.setTop (mkF m 2 #[.val (.int qk), .unset, .unset, .unset] [(.int (3 : Int32)), (.int qk)])) _
      refine XS.iand X0.here hx rfl (hb hby at_2) rfl ?_
      show Steps p.tables e below (s₁.setTop (mkF m 3 #[.val (.int qk), .unset, .unset, .unset] [(.int (qk &&& (3 : Int32)))])) _
      refine XS.istoreN X0.here hx rfl (hb hby at_3) rfl (l' := #[.val (.int qk), .val (.int (qk &&& (3 : Int32))), .unset, .unset]) rfl ?_
      show Steps p.tables e below (s₁.setTop (mkF m 4 #[.val (.int qk), .val (.int (qk &&& (3 : Int32))), .unset, .unset] [])) _
      refine XS.iloadN X0.here hx rfl (hb hby at_4) rfl ?_
      exact kt)
  by_cases hc5_2 : (qk &&& (3 : Int32)) = (0 : Int32)
  · -- yes at pc 5: 
    have pre3 : Goes p e below s₁ (entryFrame m #[(.int qk)] maxLocals) s₁ (mkF m 8 #[.val (.int qk), .val (.int (qk &&& (3 : Int32))), .unset, .unset] []) := fun t kt => pre1 t (by
        show Steps p.tables e below (s₁.setTop (mkF m 5 #[.val (.int qk), .val (.int (qk &&& (3 : Int32))), .unset, .unset] [(.int (qk &&& (3 : Int32)))])) _
        refine XS.ifNo X0.here hx rfl (hb hby at_5) rfl ((if0 _ _).trans (teq hc5_2).2) ?_
        exact kt)
    obtain ⟨T4, X4, e4, st4⟩ := getS2 X0 hx hZ hown (host := "") (Or.inl (hw _ (List.mem_of_getElem? (i := 0) rfl))) Via.refl e0 S_PASS (g := (mkF m 8 #[.val (.int qk), .val (.int (qk &&& (3 : Int32))), .unset, .unset] [])) rfl (hb hby at_8)
    have pre5 : Goes p e below s₁ (entryFrame m #[(.int qk)] maxLocals) T4 (mkF m 11 #[.val (.int qk), .val (.int (qk &&& (3 : Int32))), .unset, .unset] [(.ref aPASS)]) := fun t kt => pre3 t (st4 t kt)
    have pre6 : Goes p e below s₁ (entryFrame m #[(.int qk)] maxLocals) T4 (mkF m 52 #[.val (.int qk), .val (.int (qk &&& (3 : Int32))), .val (.ref aPASS), .val (.int (0 : Int32))] [(.ref aPASS)]) := fun t kt => pre5 t (by
        show Steps p.tables e below (T4.setTop (mkF m 11 #[.val (.int qk), .val (.int (qk &&& (3 : Int32))), .unset, .unset] [(.ref aPASS)])) _
        refine XS.astoreN X4.here hx rfl (hb hby at_11) rfl rfl (l' := #[.val (.int qk), .val (.int (qk &&& (3 : Int32))), .val (.ref aPASS), .unset]) rfl ?_
        show Steps p.tables e below (T4.setTop (mkF m 12 #[.val (.int qk), .val (.int (qk &&& (3 : Int32))), .val (.ref aPASS), .unset] [])) _
        refine XS.iconst X4.here hx rfl (hb hby at_12) ?_
        show Steps p.tables e below (T4.setTop (mkF m 13 #[.val (.int qk), .val (.int (qk &&& (3 : Int32))), .val (.ref aPASS), .unset] [(.int (0 : Int32))])) _
        refine XS.istoreN X4.here hx rfl (hb hby at_13) rfl (l' := #[.val (.int qk), .val (.int (qk &&& (3 : Int32))), .val (.ref aPASS), .val (.int (0 : Int32))]) rfl ?_
        show Steps p.tables e below (T4.setTop (mkF m 14 #[.val (.int qk), .val (.int (qk &&& (3 : Int32))), .val (.ref aPASS), .val (.int (0 : Int32))] [])) _
        refine XS.goto X4.here hx rfl (pc0 := 14) (pc' := 51) rfl (hb hby at_14) (by decide) (by decide) ?_
        show Steps p.tables e below (T4.setTop (mkF m 51 #[.val (.int qk), .val (.int (qk &&& (3 : Int32))), .val (.ref aPASS), .val (.int (0 : Int32))] [])) _
        refine XS.aloadN X4.here hx rfl (hb hby at_51) rfl rfl ?_
        exact kt)
    obtain ⟨cq7, kq7, q7a, q7b, q7c⟩ := isOf hZ e4 E_PASS
    obtain ⟨_, _, ⟨T7, L7, k7, n7⟩, -, X7, ⟨Lc7, hQ7, l7, y7, z7⟩, st7⟩ := X4.virtualBack hx (y := (⟨"raveller/core/Verdict$Outcome", "exitStatus", "()I"⟩ : MethodName)) (z := (⟨"raveller/core/Verdict$Outcome", "exitStatus", "()I"⟩ : MethodName)) hown (mvT hZ (hw _ (List.mem_of_getElem? (i := 3) rfl))) (mvT hZ (hw _ (List.mem_of_getElem? (i := 4) rfl))) (notFace_of_selects (args := #[]) (mvT hZ (hw _ (List.mem_of_getElem? (i := 6) rfl)))) (mvT hZ (hw _ (List.mem_of_getElem? (i := 6) rfl))) (mvT hZ (hw _ (List.mem_of_getElem? (i := 5) rfl))) (by decide) (backOf (W := 0) (own_rm1 l Z a0 hw [] aPASS aPASS h0 n0 Z0 S_PASS) hZ (hw _ (List.mem_of_getElem? (i := 7) rfl)) (hw _ (List.mem_of_getElem? (i := 1) rfl)) (by decide) (by decide)) q7a q7c (g := (mkF m 52 #[.val (.int qk), .val (.int (qk &&& (3 : Int32))), .val (.ref aPASS), .val (.int (0 : Int32))] [(.ref aPASS)])) rfl (by rw [hml]; rfl) (Steps.refl _) (argsL := []) (rest := []) (lenOf own_pd0 rfl) rfl (by show 2 * 0 + _ ≤ _; exact Nat.le_of_eq rfl) (hb hby at_52) (fun _ _ => ⟨rfl, e4, (by decide : 0 + 0 ≤ _), (by decide : 0 + 0 ≤ _)⟩)
    dsimp only [Pt.U, Pt.locs, Pt.cells, Pt.slots] at X7 l7 y7 z7 st7 hQ7
    subst l7 y7 z7
    obtain ⟨rfl, N7q, e7⟩ := hQ7
    have N7 := Fr.app N0 N7q
    have pre8 : Goes p e below s₁ (entryFrame m #[(.int qk)] maxLocals) T7 (mkF m 55 #[.val (.int qk), .val (.int (qk &&& (3 : Int32))), .val (.ref aPASS), .val (.int (0 : Int32))] [(.int (if aPASS = aPASS then 0 else 1))]) := fun t kt => pre6 t (st7.trans kt)
    have pre9 : Goes p e below s₁ (entryFrame m #[(.int qk)] maxLocals) T7 (mkF m 64 #[.val (.int qk), .val (.int (qk &&& (3 : Int32))), .val (.ref aPASS), .val (.int (0 : Int32))] [(.int (1 : Int32))]) := fun t kt => pre8 t (by
        show Steps p.tables e below (T7.setTop (mkF m 55 #[.val (.int qk), .val (.int (qk &&& (3 : Int32))), .val (.ref aPASS), .val (.int (0 : Int32))] [(.int (if aPASS = aPASS then 0 else 1))])) _
        refine XS.iloadN X7.here hx rfl (hb hby at_55) rfl ?_
        show Steps p.tables e below (T7.setTop (mkF m 56 #[.val (.int qk), .val (.int (qk &&& (3 : Int32))), .val (.ref aPASS), .val (.int (0 : Int32))] [(.int (0 : Int32)), (.int (if aPASS = aPASS then 0 else 1))])) _
        refine XS.icmpNo X7.here hx rfl (hb hby at_56) rfl (teq (if_pos rfl : (if aPASS = aPASS then 0 else 1) = (0 : Int32))).2 ?_
        show Steps p.tables e below (T7.setTop (mkF m 59 #[.val (.int qk), .val (.int (qk &&& (3 : Int32))), .val (.ref aPASS), .val (.int (0 : Int32))] [])) _
        refine XS.iconst X7.here hx rfl (hb hby at_59) ?_
        show Steps p.tables e below (T7.setTop (mkF m 60 #[.val (.int qk), .val (.int (qk &&& (3 : Int32))), .val (.ref aPASS), .val (.int (0 : Int32))] [(.int (1 : Int32))])) _
        refine XS.goto X7.here hx rfl (pc0 := 60) (pc' := 64) rfl (hb hby at_60) (by decide) (by decide) ?_
        exact kt)
    obtain ⟨fs, hr, hrun, hended, hW, hsame⟩ := X7.leave (v := some (.int (1 : Int32))) (fun h => by rw [Bd.returns] at h; cases h)
    refine ⟨_, _, pre9 _ ?_, hrun, hended, _, _, rfl, ?_, ⟨_, rfl⟩, hW, hsame.mono (by decide) (by decide)⟩
    · show Steps p.tables e below (T7.setTop (mkF m 64 #[.val (.int qk), .val (.int (qk &&& (3 : Int32))), .val (.ref aPASS), .val (.int (0 : Int32))] [(.int (1 : Int32))])) _
      exact retN X7 hx (t := .boolean) Bd.returns (by simp) (hb hby at_64) hr
    · show Q_own_rm0 Z qk aPASS aSTEP_LIMIT aDEADLOCK aFAIL h0 n0 _ T7.heap _
      rw [e7]
      exact ⟨rfl, N7⟩
  · -- no at pc 5: 
    have pre10 : Goes p e below s₁ (entryFrame m #[(.int qk)] maxLocals) s₁ (mkF m 19 #[.val (.int qk), .val (.int (qk &&& (3 : Int32))), .unset, .unset] [(.int (1 : Int32)), (.int (qk &&& (3 : Int32)))]) := fun t kt => pre1 t (by
        show Steps p.tables e below (s₁.setTop (mkF m 5 #[.val (.int qk), .val (.int (qk &&& (3 : Int32))), .unset, .unset] [(.int (qk &&& (3 : Int32)))])) _
        refine XS.ifYes X0.here hx rfl (pc0 := 5) (pc' := 17) rfl (hb hby at_5) rfl ((if0 _ _).trans (feq hc5_2).2) (by decide) (by decide) ?_
        show Steps p.tables e below (s₁.setTop (mkF m 17 #[.val (.int qk), .val (.int (qk &&& (3 : Int32))), .unset, .unset] [])) _
        refine XS.iloadN X0.here hx rfl (hb hby at_17) rfl ?_
        show Steps p.tables e below (s₁.setTop (mkF m 18 #[.val (.int qk), .val (.int (qk &&& (3 : Int32))), .unset, .unset] [(.int (qk &&& (3 : Int32)))])) _
        refine XS.iconst X0.here hx rfl (hb hby at_18) ?_
        exact kt)
    by_cases hc19_11 : (qk &&& (3 : Int32)) = (1 : Int32)
    · -- yes at pc 19: t
      have pre12 : Goes p e below s₁ (entryFrame m #[(.int qk)] maxLocals) s₁ (mkF m 22 #[.val (.int qk), .val (.int (qk &&& (3 : Int32))), .unset, .unset] []) := fun t kt => pre10 t (by
          show Steps p.tables e below (s₁.setTop (mkF m 19 #[.val (.int qk), .val (.int (qk &&& (3 : Int32))), .unset, .unset] [(.int (1 : Int32)), (.int (qk &&& (3 : Int32)))])) _
          refine XS.icmpNo X0.here hx rfl (hb hby at_19) rfl (teq hc19_11).2 ?_
          exact kt)
      obtain ⟨T13, X13, e13, st13⟩ := getS2 X0 hx hZ hown (host := "") (Or.inl (hw _ (List.mem_of_getElem? (i := 13) rfl))) Via.refl e0 S_FAIL (g := (mkF m 22 #[.val (.int qk), .val (.int (qk &&& (3 : Int32))), .unset, .unset] [])) rfl (hb hby at_22)
      have pre14 : Goes p e below s₁ (entryFrame m #[(.int qk)] maxLocals) T13 (mkF m 25 #[.val (.int qk), .val (.int (qk &&& (3 : Int32))), .unset, .unset] [(.ref aFAIL)]) := fun t kt => pre12 t (st13 t kt)
      have pre15 : Goes p e below s₁ (entryFrame m #[(.int qk)] maxLocals) T13 (mkF m 52 #[.val (.int qk), .val (.int (qk &&& (3 : Int32))), .val (.ref aFAIL), .val (.int (1 : Int32))] [(.ref aFAIL)]) := fun t kt => pre14 t (by
          show Steps p.tables e below (T13.setTop (mkF m 25 #[.val (.int qk), .val (.int (qk &&& (3 : Int32))), .unset, .unset] [(.ref aFAIL)])) _
          refine XS.astoreN X13.here hx rfl (hb hby at_25) rfl rfl (l' := #[.val (.int qk), .val (.int (qk &&& (3 : Int32))), .val (.ref aFAIL), .unset]) rfl ?_
          show Steps p.tables e below (T13.setTop (mkF m 26 #[.val (.int qk), .val (.int (qk &&& (3 : Int32))), .val (.ref aFAIL), .unset] [])) _
          refine XS.iconst X13.here hx rfl (hb hby at_26) ?_
          show Steps p.tables e below (T13.setTop (mkF m 27 #[.val (.int qk), .val (.int (qk &&& (3 : Int32))), .val (.ref aFAIL), .unset] [(.int (1 : Int32))])) _
          refine XS.istoreN X13.here hx rfl (hb hby at_27) rfl (l' := #[.val (.int qk), .val (.int (qk &&& (3 : Int32))), .val (.ref aFAIL), .val (.int (1 : Int32))]) rfl ?_
          show Steps p.tables e below (T13.setTop (mkF m 28 #[.val (.int qk), .val (.int (qk &&& (3 : Int32))), .val (.ref aFAIL), .val (.int (1 : Int32))] [])) _
          refine XS.goto X13.here hx rfl (pc0 := 28) (pc' := 51) rfl (hb hby at_28) (by decide) (by decide) ?_
          show Steps p.tables e below (T13.setTop (mkF m 51 #[.val (.int qk), .val (.int (qk &&& (3 : Int32))), .val (.ref aFAIL), .val (.int (1 : Int32))] [])) _
          refine XS.aloadN X13.here hx rfl (hb hby at_51) rfl rfl ?_
          exact kt)
      obtain ⟨cq16, kq16, q16a, q16b, q16c⟩ := isOf hZ e13 E_FAIL
      obtain ⟨_, _, ⟨T16, L16, k16, n16⟩, -, X16, ⟨Lc16, hQ16, l16, y16, z16⟩, st16⟩ := X13.virtualBack hx (y := (⟨"raveller/core/Verdict$Outcome", "exitStatus", "()I"⟩ : MethodName)) (z := (⟨"raveller/core/Verdict$Outcome", "exitStatus", "()I"⟩ : MethodName)) hown (mvT hZ (hw _ (List.mem_of_getElem? (i := 3) rfl))) (mvT hZ (hw _ (List.mem_of_getElem? (i := 4) rfl))) (notFace_of_selects (args := #[]) (mvT hZ (hw _ (List.mem_of_getElem? (i := 6) rfl)))) (mvT hZ (hw _ (List.mem_of_getElem? (i := 6) rfl))) (mvT hZ (hw _ (List.mem_of_getElem? (i := 5) rfl))) (by decide) (backOf (W := 0) (own_rm1 l Z a0 hw [] aFAIL aPASS h0 n0 Z0 S_PASS) hZ (hw _ (List.mem_of_getElem? (i := 7) rfl)) (hw _ (List.mem_of_getElem? (i := 1) rfl)) (by decide) (by decide)) q16a q16c (g := (mkF m 52 #[.val (.int qk), .val (.int (qk &&& (3 : Int32))), .val (.ref aFAIL), .val (.int (1 : Int32))] [(.ref aFAIL)])) rfl (by rw [hml]; rfl) (Steps.refl _) (argsL := []) (rest := []) (lenOf own_pd0 rfl) rfl (by show 2 * 0 + _ ≤ _; exact Nat.le_of_eq rfl) (hb hby at_52) (fun _ _ => ⟨rfl, e13, (by decide : 0 + 0 ≤ _), (by decide : 0 + 0 ≤ _)⟩)
      dsimp only [Pt.U, Pt.locs, Pt.cells, Pt.slots] at X16 l16 y16 z16 st16 hQ16
      subst l16 y16 z16
      obtain ⟨rfl, N16q, e16⟩ := hQ16
      have N16 := Fr.app N0 N16q
      have pre17 : Goes p e below s₁ (entryFrame m #[(.int qk)] maxLocals) T16 (mkF m 55 #[.val (.int qk), .val (.int (qk &&& (3 : Int32))), .val (.ref aFAIL), .val (.int (1 : Int32))] [(.int (if aFAIL = aPASS then 0 else 1))]) := fun t kt => pre15 t (st16.trans kt)
      have pre18 : Goes p e below s₁ (entryFrame m #[(.int qk)] maxLocals) T16 (mkF m 64 #[.val (.int qk), .val (.int (qk &&& (3 : Int32))), .val (.ref aFAIL), .val (.int (1 : Int32))] [(.int (1 : Int32))]) := fun t kt => pre17 t (by
          show Steps p.tables e below (T16.setTop (mkF m 55 #[.val (.int qk), .val (.int (qk &&& (3 : Int32))), .val (.ref aFAIL), .val (.int (1 : Int32))] [(.int (if aFAIL = aPASS then 0 else 1))])) _
          refine XS.iloadN X16.here hx rfl (hb hby at_55) rfl ?_
          show Steps p.tables e below (T16.setTop (mkF m 56 #[.val (.int qk), .val (.int (qk &&& (3 : Int32))), .val (.ref aFAIL), .val (.int (1 : Int32))] [(.int (1 : Int32)), (.int (if aFAIL = aPASS then 0 else 1))])) _
          refine XS.icmpNo X16.here hx rfl (hb hby at_56) rfl (teq (if_neg ne_FAIL : (if aFAIL = aPASS then 0 else 1) = (1 : Int32))).2 ?_
          show Steps p.tables e below (T16.setTop (mkF m 59 #[.val (.int qk), .val (.int (qk &&& (3 : Int32))), .val (.ref aFAIL), .val (.int (1 : Int32))] [])) _
          refine XS.iconst X16.here hx rfl (hb hby at_59) ?_
          show Steps p.tables e below (T16.setTop (mkF m 60 #[.val (.int qk), .val (.int (qk &&& (3 : Int32))), .val (.ref aFAIL), .val (.int (1 : Int32))] [(.int (1 : Int32))])) _
          refine XS.goto X16.here hx rfl (pc0 := 60) (pc' := 64) rfl (hb hby at_60) (by decide) (by decide) ?_
          exact kt)
      obtain ⟨fs, hr, hrun, hended, hW, hsame⟩ := X16.leave (v := some (.int (1 : Int32))) (fun h => by rw [Bd.returns] at h; cases h)
      refine ⟨_, _, pre18 _ ?_, hrun, hended, _, _, rfl, ?_, ⟨_, rfl⟩, hW, hsame.mono (by decide) (by decide)⟩
      · show Steps p.tables e below (T16.setTop (mkF m 64 #[.val (.int qk), .val (.int (qk &&& (3 : Int32))), .val (.ref aFAIL), .val (.int (1 : Int32))] [(.int (1 : Int32))])) _
        exact retN X16 hx (t := .boolean) Bd.returns (by simp) (hb hby at_64) hr
      · show Q_own_rm0 Z qk aPASS aSTEP_LIMIT aDEADLOCK aFAIL h0 n0 _ T16.heap _
        rw [e16]
        exact ⟨rfl, N16⟩
    · -- no at pc 19: t
      have pre19 : Goes p e below s₁ (entryFrame m #[(.int qk)] maxLocals) s₁ (mkF m 33 #[.val (.int qk), .val (.int (qk &&& (3 : Int32))), .unset, .unset] [(.int (2 : Int32)), (.int (qk &&& (3 : Int32)))]) := fun t kt => pre10 t (by
          show Steps p.tables e below (s₁.setTop (mkF m 19 #[.val (.int qk), .val (.int (qk &&& (3 : Int32))), .unset, .unset] [(.int (1 : Int32)), (.int (qk &&& (3 : Int32)))])) _
          refine XS.icmpYes X0.here hx rfl (pc0 := 19) (pc' := 31) rfl (hb hby at_19) rfl (feq hc19_11).2 (by decide) (by decide) ?_
          show Steps p.tables e below (s₁.setTop (mkF m 31 #[.val (.int qk), .val (.int (qk &&& (3 : Int32))), .unset, .unset] [])) _
          refine XS.iloadN X0.here hx rfl (hb hby at_31) rfl ?_
          show Steps p.tables e below (s₁.setTop (mkF m 32 #[.val (.int qk), .val (.int (qk &&& (3 : Int32))), .unset, .unset] [(.int (qk &&& (3 : Int32)))])) _
          refine XS.iconst X0.here hx rfl (hb hby at_32) ?_
          exact kt)
      by_cases hc33_20 : (qk &&& (3 : Int32)) = (2 : Int32)
      · -- yes at pc 33: tt
        have pre21 : Goes p e below s₁ (entryFrame m #[(.int qk)] maxLocals) s₁ (mkF m 36 #[.val (.int qk), .val (.int (qk &&& (3 : Int32))), .unset, .unset] []) := fun t kt => pre19 t (by
            show Steps p.tables e below (s₁.setTop (mkF m 33 #[.val (.int qk), .val (.int (qk &&& (3 : Int32))), .unset, .unset] [(.int (2 : Int32)), (.int (qk &&& (3 : Int32)))])) _
            refine XS.icmpNo X0.here hx rfl (hb hby at_33) rfl (teq hc33_20).2 ?_
            exact kt)
        obtain ⟨T22, X22, e22, st22⟩ := getS2 X0 hx hZ hown (host := "") (Or.inl (hw _ (List.mem_of_getElem? (i := 11) rfl))) Via.refl e0 S_DEADLOCK (g := (mkF m 36 #[.val (.int qk), .val (.int (qk &&& (3 : Int32))), .unset, .unset] [])) rfl (hb hby at_36)
        have pre23 : Goes p e below s₁ (entryFrame m #[(.int qk)] maxLocals) T22 (mkF m 39 #[.val (.int qk), .val (.int (qk &&& (3 : Int32))), .unset, .unset] [(.ref aDEADLOCK)]) := fun t kt => pre21 t (st22 t kt)
        have pre24 : Goes p e below s₁ (entryFrame m #[(.int qk)] maxLocals) T22 (mkF m 52 #[.val (.int qk), .val (.int (qk &&& (3 : Int32))), .val (.ref aDEADLOCK), .val (.int (1 : Int32))] [(.ref aDEADLOCK)]) := fun t kt => pre23 t (by
            show Steps p.tables e below (T22.setTop (mkF m 39 #[.val (.int qk), .val (.int (qk &&& (3 : Int32))), .unset, .unset] [(.ref aDEADLOCK)])) _
            refine XS.astoreN X22.here hx rfl (hb hby at_39) rfl rfl (l' := #[.val (.int qk), .val (.int (qk &&& (3 : Int32))), .val (.ref aDEADLOCK), .unset]) rfl ?_
            show Steps p.tables e below (T22.setTop (mkF m 40 #[.val (.int qk), .val (.int (qk &&& (3 : Int32))), .val (.ref aDEADLOCK), .unset] [])) _
            refine XS.iconst X22.here hx rfl (hb hby at_40) ?_
            show Steps p.tables e below (T22.setTop (mkF m 41 #[.val (.int qk), .val (.int (qk &&& (3 : Int32))), .val (.ref aDEADLOCK), .unset] [(.int (1 : Int32))])) _
            refine XS.istoreN X22.here hx rfl (hb hby at_41) rfl (l' := #[.val (.int qk), .val (.int (qk &&& (3 : Int32))), .val (.ref aDEADLOCK), .val (.int (1 : Int32))]) rfl ?_
            show Steps p.tables e below (T22.setTop (mkF m 42 #[.val (.int qk), .val (.int (qk &&& (3 : Int32))), .val (.ref aDEADLOCK), .val (.int (1 : Int32))] [])) _
            refine XS.goto X22.here hx rfl (pc0 := 42) (pc' := 51) rfl (hb hby at_42) (by decide) (by decide) ?_
            show Steps p.tables e below (T22.setTop (mkF m 51 #[.val (.int qk), .val (.int (qk &&& (3 : Int32))), .val (.ref aDEADLOCK), .val (.int (1 : Int32))] [])) _
            refine XS.aloadN X22.here hx rfl (hb hby at_51) rfl rfl ?_
            exact kt)
        obtain ⟨cq25, kq25, q25a, q25b, q25c⟩ := isOf hZ e22 E_DEADLOCK
        obtain ⟨_, _, ⟨T25, L25, k25, n25⟩, -, X25, ⟨Lc25, hQ25, l25, y25, z25⟩, st25⟩ := X22.virtualBack hx (y := (⟨"raveller/core/Verdict$Outcome", "exitStatus", "()I"⟩ : MethodName)) (z := (⟨"raveller/core/Verdict$Outcome", "exitStatus", "()I"⟩ : MethodName)) hown (mvT hZ (hw _ (List.mem_of_getElem? (i := 3) rfl))) (mvT hZ (hw _ (List.mem_of_getElem? (i := 4) rfl))) (notFace_of_selects (args := #[]) (mvT hZ (hw _ (List.mem_of_getElem? (i := 6) rfl)))) (mvT hZ (hw _ (List.mem_of_getElem? (i := 6) rfl))) (mvT hZ (hw _ (List.mem_of_getElem? (i := 5) rfl))) (by decide) (backOf (W := 0) (own_rm1 l Z a0 hw [] aDEADLOCK aPASS h0 n0 Z0 S_PASS) hZ (hw _ (List.mem_of_getElem? (i := 7) rfl)) (hw _ (List.mem_of_getElem? (i := 1) rfl)) (by decide) (by decide)) q25a q25c (g := (mkF m 52 #[.val (.int qk), .val (.int (qk &&& (3 : Int32))), .val (.ref aDEADLOCK), .val (.int (1 : Int32))] [(.ref aDEADLOCK)])) rfl (by rw [hml]; rfl) (Steps.refl _) (argsL := []) (rest := []) (lenOf own_pd0 rfl) rfl (by show 2 * 0 + _ ≤ _; exact Nat.le_of_eq rfl) (hb hby at_52) (fun _ _ => ⟨rfl, e22, (by decide : 0 + 0 ≤ _), (by decide : 0 + 0 ≤ _)⟩)
        dsimp only [Pt.U, Pt.locs, Pt.cells, Pt.slots] at X25 l25 y25 z25 st25 hQ25
        subst l25 y25 z25
        obtain ⟨rfl, N25q, e25⟩ := hQ25
        have N25 := Fr.app N0 N25q
        have pre26 : Goes p e below s₁ (entryFrame m #[(.int qk)] maxLocals) T25 (mkF m 55 #[.val (.int qk), .val (.int (qk &&& (3 : Int32))), .val (.ref aDEADLOCK), .val (.int (1 : Int32))] [(.int (if aDEADLOCK = aPASS then 0 else 1))]) := fun t kt => pre24 t (st25.trans kt)
        have pre27 : Goes p e below s₁ (entryFrame m #[(.int qk)] maxLocals) T25 (mkF m 64 #[.val (.int qk), .val (.int (qk &&& (3 : Int32))), .val (.ref aDEADLOCK), .val (.int (1 : Int32))] [(.int (1 : Int32))]) := fun t kt => pre26 t (by
            show Steps p.tables e below (T25.setTop (mkF m 55 #[.val (.int qk), .val (.int (qk &&& (3 : Int32))), .val (.ref aDEADLOCK), .val (.int (1 : Int32))] [(.int (if aDEADLOCK = aPASS then 0 else 1))])) _
            refine XS.iloadN X25.here hx rfl (hb hby at_55) rfl ?_
            show Steps p.tables e below (T25.setTop (mkF m 56 #[.val (.int qk), .val (.int (qk &&& (3 : Int32))), .val (.ref aDEADLOCK), .val (.int (1 : Int32))] [(.int (1 : Int32)), (.int (if aDEADLOCK = aPASS then 0 else 1))])) _
            refine XS.icmpNo X25.here hx rfl (hb hby at_56) rfl (teq (if_neg ne_DEADLOCK : (if aDEADLOCK = aPASS then 0 else 1) = (1 : Int32))).2 ?_
            show Steps p.tables e below (T25.setTop (mkF m 59 #[.val (.int qk), .val (.int (qk &&& (3 : Int32))), .val (.ref aDEADLOCK), .val (.int (1 : Int32))] [])) _
            refine XS.iconst X25.here hx rfl (hb hby at_59) ?_
            show Steps p.tables e below (T25.setTop (mkF m 60 #[.val (.int qk), .val (.int (qk &&& (3 : Int32))), .val (.ref aDEADLOCK), .val (.int (1 : Int32))] [(.int (1 : Int32))])) _
            refine XS.goto X25.here hx rfl (pc0 := 60) (pc' := 64) rfl (hb hby at_60) (by decide) (by decide) ?_
            exact kt)
        obtain ⟨fs, hr, hrun, hended, hW, hsame⟩ := X25.leave (v := some (.int (1 : Int32))) (fun h => by rw [Bd.returns] at h; cases h)
        refine ⟨_, _, pre27 _ ?_, hrun, hended, _, _, rfl, ?_, ⟨_, rfl⟩, hW, hsame.mono (by decide) (by decide)⟩
        · show Steps p.tables e below (T25.setTop (mkF m 64 #[.val (.int qk), .val (.int (qk &&& (3 : Int32))), .val (.ref aDEADLOCK), .val (.int (1 : Int32))] [(.int (1 : Int32))])) _
          exact retN X25 hx (t := .boolean) Bd.returns (by simp) (hb hby at_64) hr
        · show Q_own_rm0 Z qk aPASS aSTEP_LIMIT aDEADLOCK aFAIL h0 n0 _ T25.heap _
          rw [e25]
          exact ⟨rfl, N25⟩
      · -- no at pc 33: tt
        have pre28 : Goes p e below s₁ (entryFrame m #[(.int qk)] maxLocals) s₁ (mkF m 45 #[.val (.int qk), .val (.int (qk &&& (3 : Int32))), .unset, .unset] []) := fun t kt => pre19 t (by
            show Steps p.tables e below (s₁.setTop (mkF m 33 #[.val (.int qk), .val (.int (qk &&& (3 : Int32))), .unset, .unset] [(.int (2 : Int32)), (.int (qk &&& (3 : Int32)))])) _
            refine XS.icmpYes X0.here hx rfl (pc0 := 33) (pc' := 45) rfl (hb hby at_33) rfl (feq hc33_20).2 (by decide) (by decide) ?_
            exact kt)
        obtain ⟨T29, X29, e29, st29⟩ := getS2 X0 hx hZ hown (host := "") (Or.inl (hw _ (List.mem_of_getElem? (i := 9) rfl))) Via.refl e0 S_STEP_LIMIT (g := (mkF m 45 #[.val (.int qk), .val (.int (qk &&& (3 : Int32))), .unset, .unset] [])) rfl (hb hby at_45)
        have pre30 : Goes p e below s₁ (entryFrame m #[(.int qk)] maxLocals) T29 (mkF m 48 #[.val (.int qk), .val (.int (qk &&& (3 : Int32))), .unset, .unset] [(.ref aSTEP_LIMIT)]) := fun t kt => pre28 t (st29 t kt)
        have pre31 : Goes p e below s₁ (entryFrame m #[(.int qk)] maxLocals) T29 (mkF m 52 #[.val (.int qk), .val (.int (qk &&& (3 : Int32))), .val (.ref aSTEP_LIMIT), .val (.int (1 : Int32))] [(.ref aSTEP_LIMIT)]) := fun t kt => pre30 t (by
            show Steps p.tables e below (T29.setTop (mkF m 48 #[.val (.int qk), .val (.int (qk &&& (3 : Int32))), .unset, .unset] [(.ref aSTEP_LIMIT)])) _
            refine XS.astoreN X29.here hx rfl (hb hby at_48) rfl rfl (l' := #[.val (.int qk), .val (.int (qk &&& (3 : Int32))), .val (.ref aSTEP_LIMIT), .unset]) rfl ?_
            show Steps p.tables e below (T29.setTop (mkF m 49 #[.val (.int qk), .val (.int (qk &&& (3 : Int32))), .val (.ref aSTEP_LIMIT), .unset] [])) _
            refine XS.iconst X29.here hx rfl (hb hby at_49) ?_
            show Steps p.tables e below (T29.setTop (mkF m 50 #[.val (.int qk), .val (.int (qk &&& (3 : Int32))), .val (.ref aSTEP_LIMIT), .unset] [(.int (1 : Int32))])) _
            refine XS.istoreN X29.here hx rfl (hb hby at_50) rfl (l' := #[.val (.int qk), .val (.int (qk &&& (3 : Int32))), .val (.ref aSTEP_LIMIT), .val (.int (1 : Int32))]) rfl ?_
            show Steps p.tables e below (T29.setTop (mkF m 51 #[.val (.int qk), .val (.int (qk &&& (3 : Int32))), .val (.ref aSTEP_LIMIT), .val (.int (1 : Int32))] [])) _
            refine XS.aloadN X29.here hx rfl (hb hby at_51) rfl rfl ?_
            exact kt)
        obtain ⟨cq32, kq32, q32a, q32b, q32c⟩ := isOf hZ e29 E_STEP_LIMIT
        obtain ⟨_, _, ⟨T32, L32, k32, n32⟩, -, X32, ⟨Lc32, hQ32, l32, y32, z32⟩, st32⟩ := X29.virtualBack hx (y := (⟨"raveller/core/Verdict$Outcome", "exitStatus", "()I"⟩ : MethodName)) (z := (⟨"raveller/core/Verdict$Outcome", "exitStatus", "()I"⟩ : MethodName)) hown (mvT hZ (hw _ (List.mem_of_getElem? (i := 3) rfl))) (mvT hZ (hw _ (List.mem_of_getElem? (i := 4) rfl))) (notFace_of_selects (args := #[]) (mvT hZ (hw _ (List.mem_of_getElem? (i := 6) rfl)))) (mvT hZ (hw _ (List.mem_of_getElem? (i := 6) rfl))) (mvT hZ (hw _ (List.mem_of_getElem? (i := 5) rfl))) (by decide) (backOf (W := 0) (own_rm1 l Z a0 hw [] aSTEP_LIMIT aPASS h0 n0 Z0 S_PASS) hZ (hw _ (List.mem_of_getElem? (i := 7) rfl)) (hw _ (List.mem_of_getElem? (i := 1) rfl)) (by decide) (by decide)) q32a q32c (g := (mkF m 52 #[.val (.int qk), .val (.int (qk &&& (3 : Int32))), .val (.ref aSTEP_LIMIT), .val (.int (1 : Int32))] [(.ref aSTEP_LIMIT)])) rfl (by rw [hml]; rfl) (Steps.refl _) (argsL := []) (rest := []) (lenOf own_pd0 rfl) rfl (by show 2 * 0 + _ ≤ _; exact Nat.le_of_eq rfl) (hb hby at_52) (fun _ _ => ⟨rfl, e29, (by decide : 0 + 0 ≤ _), (by decide : 0 + 0 ≤ _)⟩)
        dsimp only [Pt.U, Pt.locs, Pt.cells, Pt.slots] at X32 l32 y32 z32 st32 hQ32
        subst l32 y32 z32
        obtain ⟨rfl, N32q, e32⟩ := hQ32
        have N32 := Fr.app N0 N32q
        have pre33 : Goes p e below s₁ (entryFrame m #[(.int qk)] maxLocals) T32 (mkF m 55 #[.val (.int qk), .val (.int (qk &&& (3 : Int32))), .val (.ref aSTEP_LIMIT), .val (.int (1 : Int32))] [(.int (if aSTEP_LIMIT = aPASS then 0 else 1))]) := fun t kt => pre31 t (st32.trans kt)
        have pre34 : Goes p e below s₁ (entryFrame m #[(.int qk)] maxLocals) T32 (mkF m 64 #[.val (.int qk), .val (.int (qk &&& (3 : Int32))), .val (.ref aSTEP_LIMIT), .val (.int (1 : Int32))] [(.int (1 : Int32))]) := fun t kt => pre33 t (by
            show Steps p.tables e below (T32.setTop (mkF m 55 #[.val (.int qk), .val (.int (qk &&& (3 : Int32))), .val (.ref aSTEP_LIMIT), .val (.int (1 : Int32))] [(.int (if aSTEP_LIMIT = aPASS then 0 else 1))])) _
            refine XS.iloadN X32.here hx rfl (hb hby at_55) rfl ?_
            show Steps p.tables e below (T32.setTop (mkF m 56 #[.val (.int qk), .val (.int (qk &&& (3 : Int32))), .val (.ref aSTEP_LIMIT), .val (.int (1 : Int32))] [(.int (1 : Int32)), (.int (if aSTEP_LIMIT = aPASS then 0 else 1))])) _
            refine XS.icmpNo X32.here hx rfl (hb hby at_56) rfl (teq (if_neg ne_STEP_LIMIT : (if aSTEP_LIMIT = aPASS then 0 else 1) = (1 : Int32))).2 ?_
            show Steps p.tables e below (T32.setTop (mkF m 59 #[.val (.int qk), .val (.int (qk &&& (3 : Int32))), .val (.ref aSTEP_LIMIT), .val (.int (1 : Int32))] [])) _
            refine XS.iconst X32.here hx rfl (hb hby at_59) ?_
            show Steps p.tables e below (T32.setTop (mkF m 60 #[.val (.int qk), .val (.int (qk &&& (3 : Int32))), .val (.ref aSTEP_LIMIT), .val (.int (1 : Int32))] [(.int (1 : Int32))])) _
            refine XS.goto X32.here hx rfl (pc0 := 60) (pc' := 64) rfl (hb hby at_60) (by decide) (by decide) ?_
            exact kt)
        obtain ⟨fs, hr, hrun, hended, hW, hsame⟩ := X32.leave (v := some (.int (1 : Int32))) (fun h => by rw [Bd.returns] at h; cases h)
        refine ⟨_, _, pre34 _ ?_, hrun, hended, _, _, rfl, ?_, ⟨_, rfl⟩, hW, hsame.mono (by decide) (by decide)⟩
        · show Steps p.tables e below (T32.setTop (mkF m 64 #[.val (.int qk), .val (.int (qk &&& (3 : Int32))), .val (.ref aSTEP_LIMIT), .val (.int (1 : Int32))] [(.int (1 : Int32))])) _
          exact retN X32 hx (t := .boolean) Bd.returns (by simp) (hb hby at_64) hr
        · show Q_own_rm0 Z qk aPASS aSTEP_LIMIT aDEADLOCK aFAIL h0 n0 _ T32.heap _
          rw [e32]
          exact ⟨rfl, N32⟩
set_option maxRecDepth 65536 in
set_option maxHeartbeats 40000000 in
theorem comes_1 {Post : Tables → Env → Array Value → State → Outcome → State → Prop} (hpost : ∀ tb e args s v u, (limb_1_1.after args s (.returned v) u = true ∧ limb_1_2.after args s (.returned v) u = true ∧ True) → FrameEnd s (.returned v) u (Jvm.fieldLocs frame_1_writes args s ++ Jvm.arrayLocs frame_1_arrays args s ++ Jvm.staticLocs frame_1_statics s) 0 0 → Post tb e args s (.returned v) u) :
    ArmFor flags0 classFile x code maxLocals ret World_1 tables_1 room_1 Calls_1 rest_1 Pre_1 Post := by
  intro l hfl _ _ p e ha hc hk s m args below hf hA hF happ hP
  obtain ⟨hcalls, hrest, hpre⟩ := hP
  obtain ⟨-, -, -, hnamed, -, -, -, hat⟩ := (Spec.applies_iff hf).mp happ
  obtain ⟨hg, hn⟩ := and_e (Cond.before_iff.mp (show (Jvm.Cond.and given_1 narrow_1).before args s = true from hpre))
  obtain ⟨g5, g6⟩ := and_e hg
  obtain ⟨w0, rfl⟩ : ∃ w0 : Value, args = #[w0] := by
    have hs : args.size = 1 := by simpa [Cond.value, given_1] using g5
    obtain ⟨L⟩ := args
    match L, hs with
    | [w0], _ => exact ⟨w0, rfl⟩
  have hw := fun d (hd : d ∈ tables_1) => atoms_spec (ws := Jvm.Cond.code x code maxLocals ret :: tables_1) hat d (List.mem_cons_of_mem _ hd)
  have hfit : Fit s := fun {y c} hc i hi => by
    obtain ⟨ha, rfl⟩ := Array.getElem?_eq_some_iff.mp hc
    have q := List.all_eq_true.mp ((Array.all_eq_true_iff_forall_mem.mp hF) _ (Array.getElem_mem ha)) i (List.mem_range.mpr hi)
    simpa [Array.getElem?_eq_getElem hi] using q
  obtain ⟨i0, ei0⟩ := is_v g6
  obtain rfl : w0 = (.int i0) := Option.some.inj ei0
  obtain ⟨q0, r0⟩ := and_e hn
  obtain ⟨q1, r1⟩ := and_e r0
  obtain ⟨q2, r2⟩ := and_e r1
  obtain ⟨q3, r3⟩ := and_e r2
  obtain ⟨q4, r4⟩ := and_e r3
  obtain ⟨q5, r5⟩ := and_e r4
  obtain ⟨q6, r6⟩ := and_e r5
  obtain ⟨aPASS, evPASS⟩ := exa_v q0
  have E_PASS := Exa.start evPASS q0
  have S_PASS := Sta.start evPASS (Or.inr ⟨(hw _ (List.mem_of_getElem? (i := 1) rfl)), (hw _ (List.mem_of_getElem? (i := 2) rfl))⟩)
  obtain ⟨aSTEP_LIMIT, evSTEP_LIMIT⟩ := exa_v q1
  have E_STEP_LIMIT := Exa.start evSTEP_LIMIT q1
  have S_STEP_LIMIT := Sta.start evSTEP_LIMIT (Or.inr ⟨(hw _ (List.mem_of_getElem? (i := 1) rfl)), (hw _ (List.mem_of_getElem? (i := 10) rfl))⟩)
  obtain ⟨aDEADLOCK, evDEADLOCK⟩ := exa_v q4
  have E_DEADLOCK := Exa.start evDEADLOCK q4
  have S_DEADLOCK := Sta.start evDEADLOCK (Or.inr ⟨(hw _ (List.mem_of_getElem? (i := 1) rfl)), (hw _ (List.mem_of_getElem? (i := 12) rfl))⟩)
  obtain ⟨aFAIL, evFAIL⟩ := exa_v q6
  have E_FAIL := Exa.start evFAIL q6
  have S_FAIL := Sta.start evFAIL (Or.inr ⟨(hw _ (List.mem_of_getElem? (i := 1) rfl)), (hw _ (List.mem_of_getElem? (i := 14) rfl))⟩)
  have O_STEP_LIMIT := Fld.start (own_ord evSTEP_LIMIT q2)
  have O_PASS := Fld.start (own_ord evPASS q3)
  have O_DEADLOCK := Fld.start (own_ord evDEADLOCK q5)
  have O_FAIL := Fld.start (own_ord evFAIL r6)
  obtain ⟨n, o, h1, h2, h3, _, L, rfl, ⟨rfl, N⟩, hq⟩ := own_rm0 l s _ hw tables_1 i0 aPASS aSTEP_LIMIT aDEADLOCK aFAIL s.heap s.heap.size (Nat.le_refl _) S_PASS S_STEP_LIMIT S_DEADLOCK S_FAIL E_PASS E_STEP_LIMIT E_DEADLOCK E_FAIL (Fld.ne O_STEP_LIMIT O_PASS (by decide)) (Fld.ne O_DEADLOCK O_PASS (by decide)) (Fld.ne O_FAIL O_PASS (by decide)) p e ha hc hk s m _ below hf ((Spec.applies_iff_loose hf).mp happ).1 ⟨rfl, State.Warmed39.refl s, rfl⟩ trivial
  refine ⟨n, _, h1, h2, h3, hpost _ _ _ _ _ _ ⟨Cond.after_iff.mpr rfl, Cond.after_iff.mpr (eq_i res_at (Term.int_eval (1)) rfl), trivial⟩ ⟨hq.1, hq.2.1, (hq.2.2.sift fun y hy => Or.inr (N y hy)).mono (by decide) (by decide)⟩⟩
theorem main_1_1 : Claimed_1_1 := comes_1 fun _ _ _ _ _ _ h hF => ⟨h.1, hF⟩
theorem main_1_2 : Claimed_1_2 := comes_1 fun _ _ _ _ _ _ h hF => ⟨h.2.1, hF⟩
end Jvm.Pilot.@@N@@
namespace Jvm.Pilot.@@N@@
open Jvm Jvm.ClassFile Sem Op Lib Jvm.Free Jvm.Stand Jvm.Pilot.@@N@@.Jvm.D
/-! MADE BY PROGRAM (witnessworld.py) out of the Statement's table words and the real class files: 12 classes; the members and pool entries that the words name. The judged class is class 1, her method 1. -/
namespace start1
open Jvm.ClassFile
def u (s : String) : CpInfo := .utf8 (stringToUtf16 s)
/-- a pool by its gaps: so many unusable entries, then the entry; so many at the end -/
def gap : Nat → List CpInfo → List CpInfo
  | 0, r => r
  | n + 1, r => .unusable :: gap n r
def poolList (es : List (Nat × CpInfo)) (last : Nat) : List CpInfo := es.foldr (fun e r => gap e.1 (e.2 :: r)) (gap last [])
def pool (es : List (Nat × CpInfo)) (last : Nat) : Array CpInfo := ⟨poolList es last⟩
def fileOf (pool : Array CpInfo) (this : Nat) (attrs : Array Attribute := #[]) (ms : Array MethodInfo := #[]) (fl : Nat := 33) (sup : Nat := 0) (ifs : Array Nat := #[]) (fds : Array FieldInfo := #[]) : ClassFile where
  minorVersion := 0
  majorVersion := 65
  constantPool := pool
  accessFlags := fl
  thisClass := this
  superClass := sup
  interfaces := ifs
  fields := fds
  methods := ms
  attributes := attrs
def plain (name : String) (sup : Option ClassId) : Class where
  name := name
  kind := .ordinary
  loader := none
  accessFlags := 33
  super := sup
  interfaces := #[]
  cf := none
  fields := #[]
  methods := #[]
  instanceTypes := #[]
  staticTypes := #[]
  resolved := #[]
  callSites := []
  init := .initialized
  statics := none
  mirror := none

def pool0 : Array CpInfo := pool [(5, u "<init>"), (0, u "()V"), (1, .class_ 10), (1, u "java/lang/Object")] 113

def k0m0 : Method := { name := "<init>", desc := "()V", sig := { parameters := [], returnType := none }, accessFlags := 1, code := none }
/-- java/lang/Object -/
def k0 : Class := { plain "java/lang/Object" none with
  accessFlags := 33
  interfaces := #[]
  cf := some (fileOf pool0 8 #[] #[{ accessFlags := 1, nameIndex := 5, descriptorIndex := 6, attributes := #[] }] 33 0 #[] #[])
  fields := #[]
  methods := #[k0m0]
  instanceTypes := #[]
  staticTypes := #[]
  resolved := Array.replicate 124 none
  statics := none }

def pool1 : Array CpInfo := pool [(2, .class_ 4), (1, u "java/lang/Object"), (0, u "<init>"), (0, u "()V"), (0, .fieldref 8 9), (0, .class_ 10), (0, .nameAndType 11 12), (0, u "raveller/core/Verdict$Outcome"), (0, u "PASS"), (0, u "Lraveller/core/Verdict$Outcome;"), (0, .fieldref 8 14), (0, .nameAndType 15 12), (0, u "FAIL"), (0, .fieldref 8 17), (0, .nameAndType 18 12), (0, u "DEADLOCK"), (0, .fieldref 8 20), (0, .nameAndType 21 12), (0, u "STEP_LIMIT"), (0, .methodref 8 23), (0, .nameAndType 24 25), (0, u "exitStatus"), (0, u "()I"), (0, .class_ 27), (0, u "raveller/core/OutcomeExitStatusPinLaw"), (2, u "law"), (0, u "(I)Z")] 7

def k1m0 : Method := { name := "<init>", desc := "()V", sig := { parameters := [], returnType := none }, accessFlags := 2, code := none }
def k1c1 : Code := { maxStack := 2, maxLocals := 4, code := code, exceptionTable := #[], attributes := #[] }
def k1m1 : Method := { name := "law", desc := "(I)Z", sig := { parameters := [.int], returnType := some .boolean }, accessFlags := 9, code := some k1c1 }
/-- raveller/core/OutcomeExitStatusPinLaw -/
def k1 : Class := { plain "raveller/core/OutcomeExitStatusPinLaw" (some 0) with
  accessFlags := 49
  interfaces := #[]
  cf := some (fileOf pool1 26 #[] #[{ accessFlags := 2, nameIndex := 5, descriptorIndex := 6, attributes := #[] }, { accessFlags := 9, nameIndex := 30, descriptorIndex := 31, attributes := #[] }] 49 2 #[] #[])
  fields := #[]
  methods := #[k1m0, k1m1]
  instanceTypes := #[]
  staticTypes := #[]
  resolved := Array.replicate 39 none
  statics := none }

def pool2 : Array CpInfo := pool [(1, .class_ 2), (0, u "java/lang/constant/Constable"), (0, .class_ 4), (0, u "java/lang/Object")] 6

/-- java/lang/constant/Constable -/
def k2 : Class := { plain "java/lang/constant/Constable" (some 0) with
  accessFlags := 1537
  interfaces := #[]
  cf := some (fileOf pool2 1 #[] #[] 1537 3 #[] #[])
  fields := #[]
  methods := #[]
  instanceTypes := #[]
  staticTypes := #[]
  resolved := Array.replicate 11 none
  statics := none }

def pool3 : Array CpInfo := pool [(1, .class_ 2), (0, u "java/lang/Comparable"), (0, .class_ 4), (0, u "java/lang/Object")] 7

/-- java/lang/Comparable -/
def k3 : Class := { plain "java/lang/Comparable" (some 0) with
  accessFlags := 1537
  interfaces := #[]
  cf := some (fileOf pool3 1 #[] #[] 1537 3 #[] #[])
  fields := #[]
  methods := #[]
  instanceTypes := #[]
  staticTypes := #[]
  resolved := Array.replicate 12 none
  statics := none }

def pool4 : Array CpInfo := pool [(1, .class_ 2), (0, u "java/io/Serializable"), (0, .class_ 4), (0, u "java/lang/Object")] 2

/-- java/io/Serializable -/
def k4 : Class := { plain "java/io/Serializable" (some 0) with
  accessFlags := 1537
  interfaces := #[]
  cf := some (fileOf pool4 1 #[] #[] 1537 3 #[] #[])
  fields := #[]
  methods := #[]
  instanceTypes := #[]
  staticTypes := #[]
  resolved := Array.replicate 7 none
  statics := none }

def pool5 : Array CpInfo := pool [(2, .class_ 4), (1, u "java/lang/Enum"), (0, u "name"), (0, u "Ljava/lang/String;"), (2, u "ordinal"), (0, u "I"), (1, .class_ 14), (1, u "java/lang/Object"), (4, u "hash"), (86, .class_ 108), (1, u "java/lang/Enum$EnumDesc"), (2, .class_ 112), (0, u "java/lang/constant/Constable"), (0, .class_ 114), (0, u "java/lang/Comparable"), (0, .class_ 116), (0, u "java/io/Serializable")] 87

/-- java/lang/Enum -/
def k5 : Class := { plain "java/lang/Enum" (some 0) with
  accessFlags := 1057
  interfaces := #[2, 3, 4]
  cf := some (fileOf pool5 2 #[.nestMembers #[106]] #[] 1057 12 #[111, 113, 115] #[{ accessFlags := 18, nameIndex := 5, descriptorIndex := 6, attributes := #[] }, { accessFlags := 18, nameIndex := 9, descriptorIndex := 10, attributes := #[] }, { accessFlags := 2, nameIndex := 19, descriptorIndex := 10, attributes := #[] }])
  fields := #[{ name := "name", type := (.object "java/lang/String"), accessFlags := 18, slot := 0, constantValue := 0 }, { name := "ordinal", type := .int, accessFlags := 18, slot := 1, constantValue := 0 }, { name := "hash", type := .int, accessFlags := 2, slot := 2, constantValue := 0 }]
  methods := #[]
  instanceTypes := #[(.object "java/lang/String"), .int, .int]
  staticTypes := #[]
  resolved := Array.replicate 204 none
  statics := none }

def pool6 : Array CpInfo := pool [(1, .class_ 2), (0, u "raveller/core/Verdict$Outcome"), (0, .fieldref 1 4), (0, .nameAndType 5 6), (0, u "PASS"), (0, u "Lraveller/core/Verdict$Outcome;"), (2, u "FAIL"), (2, u "DEADLOCK"), (2, u "STEP_LIMIT"), (2, u "$VALUES"), (0, u "[Lraveller/core/Verdict$Outcome;"), (6, .class_ 28), (1, u "java/lang/Enum"), (8, u "word"), (0, u "Ljava/lang/String;"), (21, u "exitStatus"), (0, u "()I"), (7, .class_ 70), (0, u "raveller/core/Verdict")] 2

def k6c0 : Code := { maxStack := 2, maxLocals := 1, code := prog_84_method_5_code, exceptionTable := #[], attributes := #[] }
def k6m0 : Method := { name := "exitStatus", desc := "()I", sig := { parameters := [], returnType := some .int }, accessFlags := 1, code := some k6c0 }
/-- raveller/core/Verdict$Outcome -/
def k6 : Class := { plain "raveller/core/Verdict$Outcome" (some 5) with
  accessFlags := 16433
  interfaces := #[]
  cf := some (fileOf pool6 1 #[.nestHost 69] #[{ accessFlags := 1, nameIndex := 60, descriptorIndex := 61, attributes := #[] }] 16433 26 #[] #[{ accessFlags := 16409, nameIndex := 5, descriptorIndex := 6, attributes := #[] }, { accessFlags := 16409, nameIndex := 9, descriptorIndex := 6, attributes := #[] }, { accessFlags := 16409, nameIndex := 12, descriptorIndex := 6, attributes := #[] }, { accessFlags := 16409, nameIndex := 15, descriptorIndex := 6, attributes := #[] }, { accessFlags := 18, nameIndex := 37, descriptorIndex := 38, attributes := #[] }, { accessFlags := 4122, nameIndex := 18, descriptorIndex := 19, attributes := #[] }])
  fields := #[{ name := "PASS", type := (.object "raveller/core/Verdict$Outcome"), accessFlags := 16409, slot := 0, constantValue := 0 }, { name := "FAIL", type := (.object "raveller/core/Verdict$Outcome"), accessFlags := 16409, slot := 1, constantValue := 0 }, { name := "DEADLOCK", type := (.object "raveller/core/Verdict$Outcome"), accessFlags := 16409, slot := 2, constantValue := 0 }, { name := "STEP_LIMIT", type := (.object "raveller/core/Verdict$Outcome"), accessFlags := 16409, slot := 3, constantValue := 0 }, { name := "word", type := (.object "java/lang/String"), accessFlags := 18, slot := 3, constantValue := 0 }, { name := "$VALUES", type := (.array (.object "raveller/core/Verdict$Outcome")), accessFlags := 4122, slot := 4, constantValue := 0 }]
  methods := #[k6m0]
  instanceTypes := #[(.object "java/lang/String"), .int, .int, (.object "java/lang/String")]
  staticTypes := #[(.object "raveller/core/Verdict$Outcome"), (.object "raveller/core/Verdict$Outcome"), (.object "raveller/core/Verdict$Outcome"), (.object "raveller/core/Verdict$Outcome"), (.array (.object "raveller/core/Verdict$Outcome"))]
  resolved := Array.replicate 73 none
  statics := some 0 }

def pool7 : Array CpInfo := pool [(1, u "java/lang/Cloneable"), (0, .class_ 1), (0, u "java/lang/Object"), (0, .class_ 3)] 3

/-- java/lang/Cloneable -/
def k7 : Class := { plain "java/lang/Cloneable" (some 0) with
  accessFlags := 1537
  interfaces := #[]
  cf := some (fileOf pool7 2 #[] #[] 1537 4 #[] #[])
  fields := #[]
  methods := #[]
  instanceTypes := #[]
  staticTypes := #[]
  resolved := Array.replicate 8 none
  statics := none }

/-- the primitive byte -/
def k8 : Class := { plain "byte" none with kind := .primitive 'B', accessFlags := 0x411 }
/-- [B -/
def k9 : Class := { plain "[B" (some 0) with kind := .array 8 .byte, interfaces := #[7, 4], accessFlags := 1041 }

/-- the primitive int -/
def k10 : Class := { plain "int" none with kind := .primitive 'I', accessFlags := 0x411 }
/-- [I -/
def k11 : Class := { plain "[I" (some 0) with kind := .array 10 .int, interfaces := #[7, 4], accessFlags := 1041 }

def heap : Heap := #[{ cls := 6, slots := #[.ref 1, .ref 4, .ref 3, .ref 2, .null], vm := .statics 6 },
  { cls := 6, slots := #[.null, .int 0, .int 0, .null], vm := .none },
  { cls := 6, slots := #[.null, .int 3, .int 0, .null], vm := .none },
  { cls := 6, slots := #[.null, .int 2, .int 0, .null], vm := .none },
  { cls := 6, slots := #[.null, .int 1, .int 0, .null], vm := .none }]
def classes : Array Class := #[k0, k1, k2, k3, k4, k5, k6, k7, k8, k9, k10, k11]
def interned : List (Array UInt16 × Addr) := []
def slotsUsed : Nat := 21
def theMethod : MethodId := ⟨1, 1⟩
def args0 : Array Value := #[.int 5]
def aboutOver (below : List Frame) : State where
  vm := { classes := classes, interned := interned.toArray }
  heap := heap
  slotsUsed := slotsUsed
  threads := #[{ frames := .invoking theMethod args0 :: below }]
def below0 : List Frame := [.native { method := ⟨0, 0⟩, args := #[] }]
def about1 : State := aboutOver below0
def p0 : Program := .bare "" "" ""
def e0 : Env := launch0.env 0 0 0
theorem w_frames : about1.frames = Frame.invoking theMethod args0 :: below0 := rfl
set_option maxRecDepth 65536 in
theorem w_args : argsFit about1.vm theMethod args0 = true := by decide +kernel
set_option maxRecDepth 65536 in
theorem w_heap : heapFits about1 = true := by decide +kernel
set_option maxRecDepth 65536 in
theorem w_runnable : about1.curStatus? = some .runnable := by decide +kernel
set_option maxRecDepth 65536 in
theorem w_alone : about1.alone = true := by decide +kernel
set_option maxRecDepth 65536 in
theorem w_named : about1.methodNamed? x = some theMethod := by decide +kernel
set_option maxRecDepth 65536 in
theorem w_hears : about1.hears theMethod below0 = true := by decide +kernel
set_option maxRecDepth 65536 in
theorem w_ripe : about1.ripe theMethod args0 below0 = true := by decide +kernel
theorem w_running : about1.status = .running := rfl
set_option maxRecDepth 65536 in
theorem w_room : about1.hasRoom e0.platform room_1 = true :=
  launch0.hasRoom_least _ room_1 (by decide +kernel) (by decide +kernel) (by decide +kernel) (by decide +kernel) (by decide +kernel) (by decide +kernel)
theorem allAtoms_all (ts : List Jvm.Cond) (a : Array Jvm.Value) (st : Jvm.State) : (allAtoms ts).before a st = ts.all (fun c => c.before a st) := by
  induction ts with
  | nil => rfl
  | cons c t ih =>
    show (Jvm.Cond.and c (allAtoms t)).before a st = _
    rw [Jvm.Cond.before_and, ih, List.all_cons]
def words1 : List Jvm.Cond := Jvm.Cond.code x code maxLocals ret :: tables_1
/-- a 'code' word, met by the world's own term for the bytes: nothing is compared byte by byte -/
theorem code_word {y : MethodName} {bytes : ByteArray} {mx : Nat} {rt : Option FieldType} {a : Array Value} {s : State} {m : MethodId} {meth : Method} {c : Code} (h1 : s.methodNamed? y = some m) (h2 : s.vm.method? m = some meth) (h3 : meth.code = some c) (h4 : c.code = bytes)
    (h5 : (c.maxLocals == mx && c.exceptionTable.isEmpty && decide (c.maxStack ≤ mostOperands) && decide (meth.sig.returnType = rt) && !meth.locks && decide (parseMethodDescriptor y.desc = some meth.sig)) = true) : (Jvm.Cond.code y bytes mx rt).before a s = true := by
  simp only [Bool.and_eq_true, beq_iff_eq, Bool.not_eq_true', decide_eq_true_eq] at h5
  obtain ⟨⟨⟨⟨⟨g1, g2⟩, g3⟩, g4⟩, g5⟩, g6⟩ := h5
  simp [Cond.before, Cond.holds, Cond.value, h1, h2, h3, h4, g1, g2, g3, g4, g5, g6]
def isCode : Jvm.Cond → Bool
  | .code _ _ _ _ => true
  | _ => false
theorem all_split {L : List Jvm.Cond} {P : Jvm.Cond → Bool} (h1 : L.all (fun c => isCode c || P c) = true) (h2 : ∀ c ∈ L.filter isCode, P c = true) : L.all P = true := by
  refine List.all_eq_true.mpr fun c hc => ?_
  have h := List.all_eq_true.mp h1 c hc
  rcases Bool.eq_false_or_eq_true (isCode c) with hi | hi
  · exact h2 c (List.mem_filter.mpr ⟨hc, hi⟩)
  · simpa [hi] using h
set_option maxRecDepth 65536 in
theorem w_c0 : (Jvm.Cond.code x code maxLocals ret).before args0 about1 = true := code_word (m := ⟨1, 1⟩) (meth := k1m1) (c := k1c1) (by decide +kernel) rfl rfl rfl (by decide +kernel)
set_option maxRecDepth 65536 in
theorem w_c1 : (Jvm.Cond.code ({ cls := "raveller/core/Verdict$Outcome", name := "exitStatus", desc := "()I" } : Jvm.MethodName) prog_84_method_5_code (1 : Nat) (Option.some Jvm.ClassFile.FieldType.int)).before args0 about1 = true := code_word (m := ⟨6, 0⟩) (meth := k6m0) (c := k6c0) (by decide +kernel) rfl rfl rfl (by decide +kernel)
def codes1 : List Jvm.Cond := [Jvm.Cond.code x code maxLocals ret, Jvm.Cond.code ({ cls := "raveller/core/Verdict$Outcome", name := "exitStatus", desc := "()I" } : Jvm.MethodName) prog_84_method_5_code (1 : Nat) (Option.some Jvm.ClassFile.FieldType.int)]
set_option maxRecDepth 65536 in
theorem codes_eq : words1.filter isCode = codes1 := rfl
theorem w_codes : ∀ c ∈ words1.filter isCode, c.before args0 about1 = true := by
  rw [codes_eq]
  intro c hc
  simp only [codes1, List.mem_cons, List.not_mem_nil, or_false] at hc
  rcases hc with rfl | rfl
  · exact w_c0
  · exact w_c1
set_option maxRecDepth 65536 in
theorem w_t1 : words1.all (fun c => isCode c || c.before args0 about1) = true := by decide +kernel
theorem w_tables : (allAtoms (Jvm.Cond.code x code maxLocals ret :: tables_1)).before args0 about1 = true := by
  rw [allAtoms_all]
  show words1.all (fun c => c.before args0 about1) = true
  refine all_split ?_ w_codes
  rw [w_t1]
set_option maxRecDepth 65536 in
theorem w_case : (Jvm.Cond.and given_1 narrow_1).before args0 about1 = true := by decide +kernel
theorem w_applies : (headSpec (Jvm.Cond.code x code maxLocals ret :: tables_1) room_1).applies x e0.platform about1 = true :=
  (Spec.applies_iff w_frames).mpr ⟨w_running, w_runnable, w_alone, w_named, w_hears, w_ripe, w_room, w_tables⟩
theorem atStart : AtStart classFile x code maxLocals ret World_1 tables_1 room_1 Calls_1 rest_1 Pre_1 launch0 p0 e0 about1 theMethod args0 below0 :=
  ⟨lists_1, trivial, launch0.admits_env _ _ _, launch0.least_env, fairChoices_fair.cas, fairChoices_fair.clock, w_frames, w_args, w_heap, w_applies, trivial, trivial, w_case⟩
end start1
theorem witness_1 : WitnessClaimed_1 := ⟨start1.p0, start1.e0, start1.about1, start1.theMethod, start1.args0, start1.below0, start1.atStart⟩
end Jvm.Pilot.@@N@@
