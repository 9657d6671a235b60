import JvmDerived
import JvmDerived.Pilot.@@N@@Statement
import JvmDerived.Pilot.@@N@@Code
set_option linter.unusedVariables false
set_option linter.unusedSimpArgs false
namespace Jvm.RoadKit
open Sem ClassFile Op Lib Jvm.Stand Jvm.Free Jvm.LawKit
section New
variable {p : Program} {l : Launch} {e : Env} {R : Room} {s : State} {m : MethodId} {args : Array Value} {below : List Frame} {meth : Method} {c : Code} {T : State} {locs : List Loc} {cells slots : Nat}
theorem retI (X : Stand p l e R s m args below meth c T locs cells slots) (hx : p.tables.exec = Jvm.exec) {pc : Nat} {Ls : Array Slot} {z : Int32} {rest : List Value} (hret : meth.sig.returnType = some .int) (hd : decode c.code pc = .ok (.ireturn, 1)) {fs : List Frame}
    (hl : ∀ (f : JFrame) (acts : List Action), f.method = m → f.locked = none → f.entered = [] → (doReturn e (T.setTop f) acts (some (.int z))).1 = T.setFrames fs) : Steps p.tables e below (T.setTop (mkF m pc Ls (.int z :: rest))) (T.setFrames fs) := by
  have hm' : T.vm.method? m = some meth := X.method'
  have hn : narrow .int (.int z) = .int z := rfl
  show Steps p.tables e below (T.setTop { method := m, pc := pc, locals := Ls, stack := _ :: rest, locked := none }) _
  jvm_step X.here [X.here.top, hx, hd, hm', hret, hn]
  first | (intro acts; rw [hl _ acts rfl rfl rfl]) | rw [hl _ _ rfl rfl rfl]
  exact Steps.refl _
end New
end Jvm.RoadKit
namespace Jvm.Pilot.@@N@@
open Jvm Jvm.ClassFile Sem Op Lib Jvm.Free Jvm.Stand Jvm.LawKit Jvm.RoadKit Bundle Jvm.Pilot.@@N@@.Jvm.D
theorem own_pd0 : parseMethodDescriptor "(II)I" = some ⟨[.int, .int], some .int⟩ := by decide +kernel
theorem own_pd1 : parseMethodDescriptor "(Ljava/lang/String;[I)V" = some ⟨[(.object "java/lang/String"), (.array .int)], none⟩ := by decide +kernel
theorem own_pd2 : parseMethodDescriptor "(I)Z" = some ⟨[.int], some .boolean⟩ := by decide +kernel
theorem own_n1 (sel : Int32) : ((((sel.toUInt32 >>> ((3 : Int32) &&& 31).toUInt32).toInt32) &&& (3 : Int32)) = (0 : Int32) ∨ (((sel.toUInt32 >>> ((3 : Int32) &&& 31).toUInt32).toInt32) &&& (3 : Int32)) = (1 : Int32) ∨ (((sel.toUInt32 >>> ((3 : Int32) &&& 31).toUInt32).toInt32) &&& (3 : Int32)) = (2 : Int32) ∨ (((sel.toUInt32 >>> ((3 : Int32) &&& 31).toUInt32).toInt32) &&& (3 : Int32)) = (3 : Int32)) := by
  have nf1 := rng32 sel
  have nf2 : (3 : Int32).toInt = 3 := by decide
  have nr3 := rng32 ((sel.toUInt32 >>> ((3 : Int32) &&& 31).toUInt32).toInt32)
  have nf3 := c_iushr sel (3 : Int32) 3 (by decide) (by decide)
  have nf4 := c_mask ((sel.toUInt32 >>> ((3 : Int32) &&& 31).toUInt32).toInt32) (3 : Int32) 2 (by decide) (by decide)
  have nf5 : (0 : Int32).toInt = 0 := by decide
  have nf6 : (1 : Int32).toInt = 1 := by decide
  have nf7 : (2 : Int32).toInt = 2 := by decide
  simp only [← Int32.toInt_inj]; omega
theorem own_d1_0 : decode jdk_29_method_69_code 0 = .ok (.iload_n 0, 1) := by decide +kernel
theorem own_d1_1 : decode jdk_29_method_69_code 1 = .ok (.iload_n 1, 1) := by decide +kernel
theorem own_d1_2 : decode jdk_29_method_69_code 2 = .ok (.if_icmp .gt 7, 3) := by decide +kernel
theorem own_d1_5 : decode jdk_29_method_69_code 5 = .ok (.iload_n 0, 1) := by decide +kernel
theorem own_d1_6 : decode jdk_29_method_69_code 6 = .ok (.goto 4, 3) := by decide +kernel
theorem own_d1_9 : decode jdk_29_method_69_code 9 = .ok (.iload_n 1, 1) := by decide +kernel
theorem own_d1_10 : decode jdk_29_method_69_code 10 = .ok (.ireturn, 1) := by decide +kernel
theorem own_ef_own_min (m : MethodId) (x0 : Int32) (x1 : Int32) : entryFrame m #[(.int x0), (.int x1)] 2 = mkF m 0 #[.val (.int x0), .val (.int x1)] [] := by first | (simp [entryFrame, mkF, argsToLocals, Value.category]; done) | rfl
def Q_own_min (Z : State) (p1 : Int32) (p2 : Int32) (h0 : Heap) (n0 : Nat) (v : Option Value) (h : Heap) (L : List Loc) : Prop := ∃ r : Int32, v = some (.int r) ∧ Fr n0 L ∧ h = h0
set_option maxRecDepth 65536 in
set_option maxHeartbeats 40000000 in
theorem own_min (l : Launch) (Z : State) (a0 : Array Value) (hw : ∀ d ∈ tables_1, d.before a0 Z = true) (ws : List Jvm.Cond) (p1 : Int32) (p2 : Int32) (h0 : Heap) (n0 : Nat) (Z0 : n0 ≤ h0.size) :
    MetFree l (⟨"java/lang/Math", "min", "(II)I"⟩ : MethodName) (head1 (Jvm.Cond.code (⟨"java/lang/Math", "min", "(II)I"⟩ : MethodName) jdk_29_method_69_code 2 (some .int) :: ws) ({ frames := 0, cells := 0, slots := 0, locals := 0 } : Room)) (fun a U => a = #[(.int p1), (.int p2)] ∧ Z.Warmed39 U.vm ∧ U.heap = h0) (fun _ _ _ _ _ => True) (fun _ U o U' => ∃ v L, o = .returned v ∧ Q_own_min Z p1 p2 h0 n0 v U'.heap L ∧ FrameEnd U o U' L ({ frames := 0, cells := 0, slots := 0, locals := 0 } : Room).cells ({ frames := 0, cells := 0, slots := 0, locals := 0 } : Room).slots) := by
  refine MetFree.of_bodySF (Jvm.Free.JP.mathPlain rfl (by decide +kernel)) hisR ?_
  intro p e s m args below meth c s₁ Bd hml0 hP hK
  obtain ⟨rfl, hZ, hh⟩ := hP
  have hx := Bd.exec
  have hby := Bd.bytes
  have hml : c.maxLocals = 2 := hml0
  have hown : s.vm.findClass "java/lang/Math" = some m.cls := findClass_of_methodNamed Bd.named
  have hnm := (name_of_methodNamed Bd.named Bd.method).1
  have X0 : Stand p l e ({ frames := 0, cells := 0, slots := 0, locals := 0 } : Room) s m #[(.int p1), (.int p2)] below meth c s₁ [] 0 0 := Stand.of_body Bd
  have e0 : s₁.heap = h0 := by rw [← hh, Bd.state]; rfl
  have N0 := Fr.nil n0
  have pre0 : Goes p e below s₁ (entryFrame m #[(.int p1), (.int p2)] 2) s₁ (mkF m 0 #[.val (.int p1), .val (.int p2)] []) := fun t k => castTop (own_ef_own_min m p1 p2) k
  have pre1 : Goes p e below s₁ (entryFrame m #[(.int p1), (.int p2)] 2) s₁ (mkF m 2 #[.val (.int p1), .val (.int p2)] [(.int p2), (.int p1)]) := fun t kt => pre0 t (by
      show Steps p.tables e below (s₁.setTop (mkF m 0 #[.val (.int p1), .val (.int p2)] [])) _
      refine XS.iloadN X0.here hx rfl (hb hby own_d1_0) rfl ?_
      show Steps p.tables e below (s₁.setTop (mkF m 1 #[.val (.int p1), .val (.int p2)] [(.int p1)])) _
      refine XS.iloadN X0.here hx rfl (hb hby own_d1_1) rfl ?_
      exact kt)
  by_cases hc2_2 : p2 < p1
  · -- yes at pc 2: 
    have pre3 : Goes p e below s₁ (entryFrame m #[(.int p1), (.int p2)] 2) s₁ (mkF m 10 #[.val (.int p1), .val (.int p2)] [(.int p2)]) := fun t kt => pre1 t (by
        show Steps p.tables e below (s₁.setTop (mkF m 2 #[.val (.int p1), .val (.int p2)] [(.int p2), (.int p1)])) _
        refine XS.icmpYes X0.here hx rfl (pc0 := 2) (pc' := 9) rfl (hb hby own_d1_2) rfl (tlt hc2_2).2.2.1 (by decide) (by decide) ?_
        show Steps p.tables e below (s₁.setTop (mkF m 9 #[.val (.int p1), .val (.int p2)] [])) _
        refine XS.iloadN X0.here hx rfl (hb hby own_d1_9) rfl ?_
        exact kt)
    obtain ⟨fs, hr, hrun, hended, hW, hsame⟩ := X0.leave (v := some (.int p2)) (fun h => by rw [Bd.returns] at h; cases h)
    refine ⟨_, _, pre3 _ ?_, hrun, hended, _, _, rfl, ?_, ⟨_, rfl⟩, hW, hsame.mono (by decide) (by decide)⟩
    · show Steps p.tables e below (s₁.setTop (mkF m 10 #[.val (.int p1), .val (.int p2)] [(.int p2)])) _
      exact retI X0 hx Bd.returns (hb hby own_d1_10) hr
    · show Q_own_min Z p1 p2 h0 n0 _ s₁.heap _
      rw [e0]
      exact ⟨_, rfl, N0, rfl⟩
  · -- no at pc 2: 
    have pre4 : Goes p e below s₁ (entryFrame m #[(.int p1), (.int p2)] 2) s₁ (mkF m 10 #[.val (.int p1), .val (.int p2)] [(.int p1)]) := fun t kt => pre1 t (by
        show Steps p.tables e below (s₁.setTop (mkF m 2 #[.val (.int p1), .val (.int p2)] [(.int p2), (.int p1)])) _
        refine XS.icmpNo X0.here hx rfl (hb hby own_d1_2) rfl (flt hc2_2).2.2.1 ?_
        show Steps p.tables e below (s₁.setTop (mkF m 5 #[.val (.int p1), .val (.int p2)] [])) _
        refine XS.iloadN X0.here hx rfl (hb hby own_d1_5) rfl ?_
        show Steps p.tables e below (s₁.setTop (mkF m 6 #[.val (.int p1), .val (.int p2)] [(.int p1)])) _
        refine XS.goto X0.here hx rfl (pc0 := 6) (pc' := 10) rfl (hb hby own_d1_6) (by decide) (by decide) ?_
        exact kt)
    obtain ⟨fs, hr, hrun, hended, hW, hsame⟩ := X0.leave (v := some (.int p1)) (fun h => by rw [Bd.returns] at h; cases h)
    refine ⟨_, _, pre4 _ ?_, hrun, hended, _, _, rfl, ?_, ⟨_, rfl⟩, hW, hsame.mono (by decide) (by decide)⟩
    · show Steps p.tables e below (s₁.setTop (mkF m 10 #[.val (.int p1), .val (.int p2)] [(.int p1)])) _
      exact retI X0 hx Bd.returns (hb hby own_d1_10) hr
    · show Q_own_min Z p1 p2 h0 n0 _ s₁.heap _
      rw [e0]
      exact ⟨_, rfl, N0, rfl⟩
theorem own_d2_0 : decode jdk_29_method_65_code 0 = .ok (.iload_n 0, 1) := by decide +kernel
theorem own_d2_1 : decode jdk_29_method_65_code 1 = .ok (.iload_n 1, 1) := by decide +kernel
theorem own_d2_2 : decode jdk_29_method_65_code 2 = .ok (.if_icmp .lt 7, 3) := by decide +kernel
theorem own_d2_5 : decode jdk_29_method_65_code 5 = .ok (.iload_n 0, 1) := by decide +kernel
theorem own_d2_6 : decode jdk_29_method_65_code 6 = .ok (.goto 4, 3) := by decide +kernel
theorem own_d2_9 : decode jdk_29_method_65_code 9 = .ok (.iload_n 1, 1) := by decide +kernel
theorem own_d2_10 : decode jdk_29_method_65_code 10 = .ok (.ireturn, 1) := by decide +kernel
theorem own_ef_own_max (m : MethodId) (x0 : Int32) (x1 : Int32) : entryFrame m #[(.int x0), (.int x1)] 2 = mkF m 0 #[.val (.int x0), .val (.int x1)] [] := by first | (simp [entryFrame, mkF, argsToLocals, Value.category]; done) | rfl
def Q_own_max (Z : State) (p1 : Int32) (p2 : Int32) (h0 : Heap) (n0 : Nat) (v : Option Value) (h : Heap) (L : List Loc) : Prop := ∃ r : Int32, v = some (.int r) ∧ Fr n0 L ∧ h = h0
set_option maxRecDepth 65536 in
set_option maxHeartbeats 40000000 in
theorem own_max (l : Launch) (Z : State) (a0 : Array Value) (hw : ∀ d ∈ tables_1, d.before a0 Z = true) (ws : List Jvm.Cond) (p1 : Int32) (p2 : Int32) (h0 : Heap) (n0 : Nat) (Z0 : n0 ≤ h0.size) :
    MetFree l (⟨"java/lang/Math", "max", "(II)I"⟩ : MethodName) (head1 (Jvm.Cond.code (⟨"java/lang/Math", "max", "(II)I"⟩ : MethodName) jdk_29_method_65_code 2 (some .int) :: ws) ({ frames := 0, cells := 0, slots := 0, locals := 0 } : Room)) (fun a U => a = #[(.int p1), (.int p2)] ∧ Z.Warmed39 U.vm ∧ U.heap = h0) (fun _ _ _ _ _ => True) (fun _ U o U' => ∃ v L, o = .returned v ∧ Q_own_max Z p1 p2 h0 n0 v U'.heap L ∧ FrameEnd U o U' L ({ frames := 0, cells := 0, slots := 0, locals := 0 } : Room).cells ({ frames := 0, cells := 0, slots := 0, locals := 0 } : Room).slots) := by
  refine MetFree.of_bodySF (Jvm.Free.JP.mathPlain rfl (by decide +kernel)) hisR ?_
  intro p e s m args below meth c s₁ Bd hml0 hP hK
  obtain ⟨rfl, hZ, hh⟩ := hP
  have hx := Bd.exec
  have hby := Bd.bytes
  have hml : c.maxLocals = 2 := hml0
  have hown : s.vm.findClass "java/lang/Math" = some m.cls := findClass_of_methodNamed Bd.named
  have hnm := (name_of_methodNamed Bd.named Bd.method).1
  have X0 : Stand p l e ({ frames := 0, cells := 0, slots := 0, locals := 0 } : Room) s m #[(.int p1), (.int p2)] below meth c s₁ [] 0 0 := Stand.of_body Bd
  have e0 : s₁.heap = h0 := by rw [← hh, Bd.state]; rfl
  have N0 := Fr.nil n0
  have pre0 : Goes p e below s₁ (entryFrame m #[(.int p1), (.int p2)] 2) s₁ (mkF m 0 #[.val (.int p1), .val (.int p2)] []) := fun t k => castTop (own_ef_own_max m p1 p2) k
  have pre1 : Goes p e below s₁ (entryFrame m #[(.int p1), (.int p2)] 2) s₁ (mkF m 2 #[.val (.int p1), .val (.int p2)] [(.int p2), (.int p1)]) := fun t kt => pre0 t (by
      show Steps p.tables e below (s₁.setTop (mkF m 0 #[.val (.int p1), .val (.int p2)] [])) _
      refine XS.iloadN X0.here hx rfl (hb hby own_d2_0) rfl ?_
      show Steps p.tables e below (s₁.setTop (mkF m 1 #[.val (.int p1), .val (.int p2)] [(.int p1)])) _
      refine XS.iloadN X0.here hx rfl (hb hby own_d2_1) rfl ?_
      exact kt)
  by_cases hc2_2 : p1 < p2
  · -- yes at pc 2: 
    have pre3 : Goes p e below s₁ (entryFrame m #[(.int p1), (.int p2)] 2) s₁ (mkF m 10 #[.val (.int p1), .val (.int p2)] [(.int p2)]) := fun t kt => pre1 t (by
        show Steps p.tables e below (s₁.setTop (mkF m 2 #[.val (.int p1), .val (.int p2)] [(.int p2), (.int p1)])) _
        refine XS.icmpYes X0.here hx rfl (pc0 := 2) (pc' := 9) rfl (hb hby own_d2_2) rfl (tlt hc2_2).1 (by decide) (by decide) ?_
        show Steps p.tables e below (s₁.setTop (mkF m 9 #[.val (.int p1), .val (.int p2)] [])) _
        refine XS.iloadN X0.here hx rfl (hb hby own_d2_9) rfl ?_
        exact kt)
    obtain ⟨fs, hr, hrun, hended, hW, hsame⟩ := X0.leave (v := some (.int p2)) (fun h => by rw [Bd.returns] at h; cases h)
    refine ⟨_, _, pre3 _ ?_, hrun, hended, _, _, rfl, ?_, ⟨_, rfl⟩, hW, hsame.mono (by decide) (by decide)⟩
    · show Steps p.tables e below (s₁.setTop (mkF m 10 #[.val (.int p1), .val (.int p2)] [(.int p2)])) _
      exact retI X0 hx Bd.returns (hb hby own_d2_10) hr
    · show Q_own_max Z p1 p2 h0 n0 _ s₁.heap _
      rw [e0]
      exact ⟨_, rfl, N0, rfl⟩
  · -- no at pc 2: 
    have pre4 : Goes p e below s₁ (entryFrame m #[(.int p1), (.int p2)] 2) s₁ (mkF m 10 #[.val (.int p1), .val (.int p2)] [(.int p1)]) := fun t kt => pre1 t (by
        show Steps p.tables e below (s₁.setTop (mkF m 2 #[.val (.int p1), .val (.int p2)] [(.int p2), (.int p1)])) _
        refine XS.icmpNo X0.here hx rfl (hb hby own_d2_2) rfl (flt hc2_2).1 ?_
        show Steps p.tables e below (s₁.setTop (mkF m 5 #[.val (.int p1), .val (.int p2)] [])) _
        refine XS.iloadN X0.here hx rfl (hb hby own_d2_5) rfl ?_
        show Steps p.tables e below (s₁.setTop (mkF m 6 #[.val (.int p1), .val (.int p2)] [(.int p1)])) _
        refine XS.goto X0.here hx rfl (pc0 := 6) (pc' := 10) rfl (hb hby own_d2_6) (by decide) (by decide) ?_
        exact kt)
    obtain ⟨fs, hr, hrun, hended, hW, hsame⟩ := X0.leave (v := some (.int p1)) (fun h => by rw [Bd.returns] at h; cases h)
    refine ⟨_, _, pre4 _ ?_, hrun, hended, _, _, rfl, ?_, ⟨_, rfl⟩, hW, hsame.mono (by decide) (by decide)⟩
    · show Steps p.tables e below (s₁.setTop (mkF m 10 #[.val (.int p1), .val (.int p2)] [(.int p1)])) _
      exact retI X0 hx Bd.returns (hb hby own_d2_10) hr
    · show Q_own_max Z p1 p2 h0 n0 _ s₁.heap _
      rw [e0]
      exact ⟨_, rfl, N0, rfl⟩
theorem own_d3_0 : decode prog_3_method_1_code 0 = .ok (.aload_n 0, 1) := by decide +kernel
theorem own_d3_1 : decode prog_3_method_1_code 1 = .ok (.invokespecial 1, 3) := by decide +kernel
theorem own_d3_4 : decode prog_3_method_1_code 4 = .ok (.aload_n 0, 1) := by decide +kernel
theorem own_d3_5 : decode prog_3_method_1_code 5 = .ok (.aload_n 1, 1) := by decide +kernel
theorem own_d3_6 : decode prog_3_method_1_code 6 = .ok (.putfield 7, 3) := by decide +kernel
theorem own_d3_9 : decode prog_3_method_1_code 9 = .ok (.aload_n 0, 1) := by decide +kernel
theorem own_d3_10 : decode prog_3_method_1_code 10 = .ok (.aload_n 2, 1) := by decide +kernel
theorem own_d3_11 : decode prog_3_method_1_code 11 = .ok (.invokevirtual 13, 3) := by decide +kernel
theorem own_d3_14 : decode prog_3_method_1_code 14 = .ok (.checkcast 14, 3) := by decide +kernel
theorem own_d3_17 : decode prog_3_method_1_code 17 = .ok (.putfield 19, 3) := by decide +kernel
theorem own_d3_20 : decode prog_3_method_1_code 20 = .ok (.return_, 1) := by decide +kernel
theorem own_pn_own_init : plainName "com/example/ferry/ferry/FormatVersions" = true := by first | (simp [plainName, overriddenIn]; done) | decide +kernel
theorem own_ef_own_init (m : MethodId) (x0 : Addr) (x1 : Addr) (x2 : Addr) : entryFrame m #[(.ref x0), (.ref x1), (.ref x2)] 3 = mkF m 0 #[.val (.ref x0), .val (.ref x1), .val (.ref x2)] [] := by first | (simp [entryFrame, mkF, argsToLocals, Value.category]; done) | rfl
def Q_own_init (Z : State) (a1 : Addr) (sN : Addr) (ta : Addr) (ka : ClassId) (zn : Int32) (vs : List Value) (h0 : Heap) (n0 : Nat) (v : Option Value) (h : Heap) (L : List Loc) : Prop := v = none ∧ Fr n0 L ∧ Keep h0 h [a1] ∧ ∃ t2 : Addr, Fld Z h a1 "com/example/ferry/ferry/FormatVersions" "versions" "[I" (.ref t2) ∧ Arv Z h t2 ka .int zn vs (.int (0 : Int32))
set_option maxRecDepth 65536 in
set_option maxHeartbeats 40000000 in
theorem own_init (l : Launch) (Z : State) (a0 : Array Value) (hw : ∀ d ∈ tables_1, d.before a0 Z = true) (ws : List Jvm.Cond) (a1 : Addr) (sN : Addr) (ta : Addr) (ka : ClassId) (zn : Int32) (vs : List Value) (h0 : Heap) (n0 : Nat) (Z0 : n0 ≤ h0.size) (E_a1 : Exa Z h0 a1 "com/example/ferry/ferry/FormatVersions") (F_name : Fld Z h0 a1 "com/example/ferry/ferry/FormatVersions" "name" "Ljava/lang/String;" .null) (F_versions : Fld Z h0 a1 "com/example/ferry/ferry/FormatVersions" "versions" "[I" .null) (g_a1 : n0 ≤ a1) (V_ta : Arv Z h0 ta ka .int zn vs (.int (0 : Int32))) (E_ta : Exa Z h0 ta "[I") (nat : ta ≠ a1) (hz : zn.toNatClampNeg ≤ 3) :
    MetFree l (⟨"com/example/ferry/ferry/FormatVersions", "<init>", "(Ljava/lang/String;[I)V"⟩ : MethodName) (head1 (Jvm.Cond.code (⟨"com/example/ferry/ferry/FormatVersions", "<init>", "(Ljava/lang/String;[I)V"⟩ : MethodName) prog_3_method_1_code 3 none :: ws) ({ frames := 1, cells := 1, slots := 3, locals := 15 } : Room)) (fun a U => a = #[(.ref a1), (.ref sN), (.ref ta)] ∧ Z.Warmed39 U.vm ∧ U.heap = h0) (fun _ _ _ _ _ => True) (fun _ U o U' => ∃ v L, o = .returned v ∧ Q_own_init Z a1 sN ta ka zn vs h0 n0 v U'.heap L ∧ FrameEnd U o U' L ({ frames := 1, cells := 1, slots := 3, locals := 15 } : Room).cells ({ frames := 1, cells := 1, slots := 3, locals := 15 } : Room).slots) := by
  refine MetFree.of_bodySF (plainFor_of_name own_pn_own_init) hisR ?_
  intro p e s m args below meth c s₁ Bd hml0 hP hK
  obtain ⟨rfl, hZ, hh⟩ := hP
  have hx := Bd.exec
  have hby := Bd.bytes
  have hml : c.maxLocals = 3 := hml0
  have hown : s.vm.findClass "com/example/ferry/ferry/FormatVersions" = some m.cls := findClass_of_methodNamed Bd.named
  have hnm := (name_of_methodNamed Bd.named Bd.method).1
  have X0 : Stand p l e ({ frames := 1, cells := 1, slots := 3, locals := 15 } : Room) s m #[(.ref a1), (.ref sN), (.ref ta)] below meth c s₁ [] 0 0 := Stand.of_body Bd
  have e0 : s₁.heap = h0 := by rw [← hh, Bd.state]; rfl
  have N0 := Fr.nil n0
  have pre0 : Goes p e below s₁ (entryFrame m #[(.ref a1), (.ref sN), (.ref ta)] 3) s₁ (mkF m 0 #[.val (.ref a1), .val (.ref sN), .val (.ref ta)] []) := fun t k => castTop (own_ef_own_init m a1 sN ta) k
  have pre1 : Goes p e below s₁ (entryFrame m #[(.ref a1), (.ref sN), (.ref ta)] 3) s₁ (mkF m 1 #[.val (.ref a1), .val (.ref sN), .val (.ref ta)] [(.ref a1)]) := fun t kt => pre0 t (by
      show Steps p.tables e below (s₁.setTop (mkF m 0 #[.val (.ref a1), .val (.ref sN), .val (.ref ta)] [])) _
      refine XS.aloadN X0.here hx rfl (hb hby own_d3_0) rfl rfl ?_
      exact kt)
  obtain ⟨T2, X2, e2, st2⟩ := initO X0 hx hZ hown (hw _ (List.mem_of_getElem? (i := 22) rfl)) (hw _ (List.mem_of_getElem? (i := 23) rfl)) (hw _ (List.mem_of_getElem? (i := 24) rfl)) e0 (g := (mkF m 1 #[.val (.ref a1), .val (.ref sN), .val (.ref ta)] [(.ref a1)])) rfl (by rw [hml]; rfl) rfl (hb hby own_d3_1) (by decide) (W := 0) (by show 2 * 0 + _ ≤ _; exact Nat.le_of_eq rfl) (by decide)
  have pre3 : Goes p e below s₁ (entryFrame m #[(.ref a1), (.ref sN), (.ref ta)] 3) T2 (mkF m 4 #[.val (.ref a1), .val (.ref sN), .val (.ref ta)] []) := fun t kt => pre1 t (st2 t kt)
  have pre4 : Goes p e below s₁ (entryFrame m #[(.ref a1), (.ref sN), (.ref ta)] 3) T2 (mkF m 6 #[.val (.ref a1), .val (.ref sN), .val (.ref ta)] [(.ref sN), (.ref a1)]) := fun t kt => pre3 t (by
      show Steps p.tables e below (T2.setTop (mkF m 4 #[.val (.ref a1), .val (.ref sN), .val (.ref ta)] [])) _
      refine XS.aloadN X2.here hx rfl (hb hby own_d3_4) rfl rfl ?_
      show Steps p.tables e below (T2.setTop (mkF m 5 #[.val (.ref a1), .val (.ref sN), .val (.ref ta)] [(.ref a1)])) _
      refine XS.aloadN X2.here hx rfl (hb hby own_d3_5) rfl rfl ?_
      exact kt)
  obtain ⟨T5, h5, X5, e5, W5, st5⟩ := putF X2 hx hZ hown (host := "") (Or.inl (hw _ (List.mem_of_getElem? (i := 25) rfl))) Via.refl e2 F_name E_a1 (Or.inr ⟨(hw _ (List.mem_of_getElem? (i := 26) rfl)), rfl, hnm⟩) (hw _ (List.mem_of_getElem? (i := 9) rfl)) (ty := (.object "java/lang/String")) (by decide) rfl rfl (g := (mkF m 6 #[.val (.ref a1), .val (.ref sN), .val (.ref ta)] [(.ref sN), (.ref a1)])) rfl rfl (hb hby own_d3_6)
  have Fw5 := F_name.same W5
  have K5 : Keep h0 h5 [a1] := (Keep.refl h0 [a1]).wr W5 (Or.inl (List.mem_of_getElem? (i := 0) rfl))
  have N5 := Fr.snoc X5 N0 g_a1
  have pre6 : Goes p e below s₁ (entryFrame m #[(.ref a1), (.ref sN), (.ref ta)] 3) T5 (mkF m 9 #[.val (.ref a1), .val (.ref sN), .val (.ref ta)] []) := fun t kt => pre4 t (st5 t kt)
  have pre7 : Goes p e below s₁ (entryFrame m #[(.ref a1), (.ref sN), (.ref ta)] 3) T5 (mkF m 11 #[.val (.ref a1), .val (.ref sN), .val (.ref ta)] [(.ref ta), (.ref a1)]) := fun t kt => pre6 t (by
      show Steps p.tables e below (T5.setTop (mkF m 9 #[.val (.ref a1), .val (.ref sN), .val (.ref ta)] [])) _
      refine XS.aloadN X5.here hx rfl (hb hby own_d3_9) rfl rfl ?_
      show Steps p.tables e below (T5.setTop (mkF m 10 #[.val (.ref a1), .val (.ref sN), .val (.ref ta)] [(.ref a1)])) _
      refine XS.aloadN X5.here hx rfl (hb hby own_d3_10) rfl rfl ?_
      exact kt)
  obtain ⟨T8, h8, X8, e8, E8, AR8, XA8, st8⟩ := cloneH X5 hx hZ hown (hw _ (List.mem_of_getElem? (i := 27) rfl)) (hw _ (List.mem_of_getElem? (i := 28) rfl)) (hw _ (List.mem_of_getElem? (i := 32) rfl)) (hw _ (List.mem_of_getElem? (i := 30) rfl)) (hw _ (List.mem_of_getElem? (i := 31) rfl)) (hw _ (List.mem_of_getElem? (i := 33) rfl)) e5 (Arv.arh (V_ta.other W5 nat)) (E_ta.wr W5) (g := (mkF m 11 #[.val (.ref a1), .val (.ref sN), .val (.ref ta)] [(.ref ta), (.ref a1)])) rfl (by rw [hml]; rfl) rfl (hb hby own_d3_11) (by decide) (W := 1) (by show 2 * 0 + _ ≤ _; exact Nat.le_of_eq rfl) (by decide) (cap := 3) hz (by decide) (by decide)
  obtain ⟨b8, g8⟩ : ∃ z, z = h5.size := ⟨_, rfl⟩
  rw [← g8] at AR8 XA8 st8
  have V_b8 : Arv Z h8 b8 ka .int zn vs (.int (0 : Int32)) := AR8
  have K8 : Keep h0 h8 [a1] := K5.ext E8
  have pre9 : Goes p e below s₁ (entryFrame m #[(.ref a1), (.ref sN), (.ref ta)] 3) T8 (mkF m 14 #[.val (.ref a1), .val (.ref sN), .val (.ref ta)] [(.ref b8), (.ref a1)]) := fun t kt => pre7 t (st8 t kt)
  obtain ⟨T10, X10, e10, st10⟩ := castY X8 hx hZ hown (hw _ (List.mem_of_getElem? (i := 34) rfl)) e8 (Ins.self XA8) (g := (mkF m 14 #[.val (.ref a1), .val (.ref sN), .val (.ref ta)] [(.ref b8), (.ref a1)])) rfl rfl (hb hby own_d3_14)
  have pre11 : Goes p e below s₁ (entryFrame m #[(.ref a1), (.ref sN), (.ref ta)] 3) T10 (mkF m 17 #[.val (.ref a1), .val (.ref sN), .val (.ref ta)] [(.ref b8), (.ref a1)]) := fun t kt => pre9 t (st10 t kt)
  obtain ⟨T12, h12, X12, e12, W12, st12⟩ := putF X10 hx hZ hown (host := "") (Or.inl (hw _ (List.mem_of_getElem? (i := 36) rfl))) Via.refl e10 ((F_versions.other W5 (Or.inr (slot_ne (Or.inr (hw _ (List.mem_of_getElem? (i := 37) rfl))) (Or.inr (hw _ (List.mem_of_getElem? (i := 26) rfl))) (by decide) (t := (.array .int)) (t' := (.object "java/lang/String")) (by decide) (by decide)))).ext E8) ((E_a1.wr W5).ext E8) (Or.inr ⟨(hw _ (List.mem_of_getElem? (i := 37) rfl)), rfl, hnm⟩) (hw _ (List.mem_of_getElem? (i := 9) rfl)) (ty := (.array .int)) (by decide) rfl rfl (g := (mkF m 17 #[.val (.ref a1), .val (.ref sN), .val (.ref ta)] [(.ref b8), (.ref a1)])) rfl rfl (hb hby own_d3_17)
  have Fw12 := ((F_versions.other W5 (Or.inr (slot_ne (Or.inr (hw _ (List.mem_of_getElem? (i := 37) rfl))) (Or.inr (hw _ (List.mem_of_getElem? (i := 26) rfl))) (by decide) (t := (.array .int)) (t' := (.object "java/lang/String")) (by decide) (by decide)))).ext E8).same W12
  have K12 : Keep h0 h12 [a1] := K8.wr W12 (Or.inl (List.mem_of_getElem? (i := 0) rfl))
  have N12 := Fr.snoc X12 N5 g_a1
  have pre13 : Goes p e below s₁ (entryFrame m #[(.ref a1), (.ref sN), (.ref ta)] 3) T12 (mkF m 20 #[.val (.ref a1), .val (.ref sN), .val (.ref ta)] []) := fun t kt => pre11 t (st12 t kt)
  obtain ⟨fs, hr, hrun, hended, hW, hsame⟩ := X12.leave (v := none) (fun _ => rfl)
  refine ⟨_, _, pre13 _ ?_, hrun, hended, _, _, rfl, ?_, ⟨_, rfl⟩, hW, hsame.mono (by decide) (by decide)⟩
  · show Steps p.tables e below (T12.setTop (mkF m 20 #[.val (.ref a1), .val (.ref sN), .val (.ref ta)] [])) _
    exact X12.returnOut hx Bd.returns (hb hby own_d3_20) hr
  · show Q_own_init Z a1 sN ta ka zn vs h0 n0 _ T12.heap _
    rw [e12]
    exact ⟨rfl, N12, K12, b8, Fw12, (V_b8.other W12 (Ne.symm (Nat.ne_of_lt (Nat.lt_of_lt_of_le (E_a1.wr W5).lt (Nat.le_of_eq g8.symm)))))⟩
theorem own_drd0_0 : decode prog_3_method_2_code 0 = .ok (.aload_n 0, 1) := by decide +kernel
theorem own_drd0_1 : decode prog_3_method_2_code 1 = .ok (.getfield 19, 3) := by decide +kernel
theorem own_drd0_4 : decode prog_3_method_2_code 4 = .ok (.astore_n 2, 1) := by decide +kernel
theorem own_drd0_5 : decode prog_3_method_2_code 5 = .ok (.aload_n 2, 1) := by decide +kernel
theorem own_drd0_6 : decode prog_3_method_2_code 6 = .ok (.arraylength, 1) := by decide +kernel
theorem own_drd0_7 : decode prog_3_method_2_code 7 = .ok (.istore_n 3, 1) := by decide +kernel
theorem own_drd0_8 : decode prog_3_method_2_code 8 = .ok (.iconst 0, 1) := by decide +kernel
theorem own_drd0_9 : decode prog_3_method_2_code 9 = .ok (.istore 4, 2) := by decide +kernel
theorem own_drd0_11 : decode prog_3_method_2_code 11 = .ok (.iload 4, 2) := by decide +kernel
theorem own_drd0_13 : decode prog_3_method_2_code 13 = .ok (.iload_n 3, 1) := by decide +kernel
theorem own_drd0_14 : decode prog_3_method_2_code 14 = .ok (.if_icmp .ge 23, 3) := by decide +kernel
theorem own_drd0_37 : decode prog_3_method_2_code 37 = .ok (.iconst 0, 1) := by decide +kernel
theorem own_drd0_38 : decode prog_3_method_2_code 38 = .ok (.ireturn, 1) := by decide +kernel
theorem own_pn_own_reads0 : plainName "com/example/ferry/ferry/FormatVersions" = true := by first | (simp [plainName, overriddenIn]; done) | decide +kernel
theorem own_ef_own_reads0 (m : MethodId) (x0 : Addr) (x1 : Int32) : entryFrame m #[(.ref x0), (.int x1)] 6 = mkF m 0 #[.val (.ref x0), .val (.int x1), .unset, .unset, .unset, .unset] [] := by first | (simp [entryFrame, mkF, argsToLocals, Value.category]; done) | rfl
def Q_own_reads0 (Z : State) (a1 : Addr) (p1 : Int32) (ta : Addr) (ka : ClassId) (r : Int32) (h0 : Heap) (n0 : Nat) (v : Option Value) (h : Heap) (L : List Loc) : Prop := v = some (.int r) ∧ Fr n0 L ∧ h = h0
set_option maxRecDepth 65536 in
set_option maxHeartbeats 40000000 in
theorem own_reads0 (l : Launch) (Z : State) (a0 : Array Value) (hw : ∀ d ∈ tables_1, d.before a0 Z = true) (ws : List Jvm.Cond) (a1 : Addr) (p1 : Int32) (ta : Addr) (ka : ClassId) (r : Int32) (h0 : Heap) (n0 : Nat) (Z0 : n0 ≤ h0.size) (F_a1 : Fld Z h0 a1 "com/example/ferry/ferry/FormatVersions" "versions" "[I" (.ref ta)) (V_ta : Arv Z h0 ta ka .int (0 : Int32) [] (.int (0 : Int32))) (hrr : r = 0) :
    MetFree l (⟨"com/example/ferry/ferry/FormatVersions", "reads", "(I)Z"⟩ : MethodName) (head1 (Jvm.Cond.code (⟨"com/example/ferry/ferry/FormatVersions", "reads", "(I)Z"⟩ : MethodName) prog_3_method_2_code 6 (some .boolean) :: ws) ({ frames := 0, cells := 0, slots := 0, locals := 0 } : Room)) (fun a U => a = #[(.ref a1), (.int p1)] ∧ Z.Warmed39 U.vm ∧ U.heap = h0) (fun _ _ _ _ _ => True) (fun _ U o U' => ∃ v L, o = .returned v ∧ Q_own_reads0 Z a1 p1 ta ka r h0 n0 v U'.heap L ∧ FrameEnd U o U' L ({ frames := 0, cells := 0, slots := 0, locals := 0 } : Room).cells ({ frames := 0, cells := 0, slots := 0, locals := 0 } : Room).slots) := by
  refine MetFree.of_bodySF (plainFor_of_name own_pn_own_reads0) hisR ?_
  intro p e s m args below meth c s₁ Bd hml0 hP hK
  obtain ⟨rfl, hZ, hh⟩ := hP
  have hx := Bd.exec
  have hby := Bd.bytes
  have hml : c.maxLocals = 6 := hml0
  have hown : s.vm.findClass "com/example/ferry/ferry/FormatVersions" = some m.cls := findClass_of_methodNamed Bd.named
  have hnm := (name_of_methodNamed Bd.named Bd.method).1
  have X0 : Stand p l e ({ frames := 0, cells := 0, slots := 0, locals := 0 } : Room) s m #[(.ref a1), (.int p1)] below meth c s₁ [] 0 0 := Stand.of_body Bd
  have e0 : s₁.heap = h0 := by rw [← hh, Bd.state]; rfl
  have N0 := Fr.nil n0
  have pre0 : Goes p e below s₁ (entryFrame m #[(.ref a1), (.int p1)] 6) s₁ (mkF m 0 #[.val (.ref a1), .val (.int p1), .unset, .unset, .unset, .unset] []) := fun t k => castTop (own_ef_own_reads0 m a1 p1) k
  have pre1 : Goes p e below s₁ (entryFrame m #[(.ref a1), (.int p1)] 6) s₁ (mkF m 1 #[.val (.ref a1), .val (.int p1), .unset, .unset, .unset, .unset] [(.ref a1)]) := fun t kt => pre0 t (by
      show Steps p.tables e below (s₁.setTop (mkF m 0 #[.val (.ref a1), .val (.int p1), .unset, .unset, .unset, .unset] [])) _
      refine XS.aloadN X0.here hx rfl (hb hby own_drd0_0) rfl rfl ?_
      exact kt)
  obtain ⟨T2, X2, e2, st2⟩ := getF X0 hx hZ hown (host := "") (Or.inl (hw _ (List.mem_of_getElem? (i := 36) rfl))) Via.refl e0 F_a1 (g := (mkF m 1 #[.val (.ref a1), .val (.int p1), .unset, .unset, .unset, .unset] [(.ref a1)])) rfl rfl (hb hby own_drd0_1)
  have pre3 : Goes p e below s₁ (entryFrame m #[(.ref a1), (.int p1)] 6) T2 (mkF m 4 #[.val (.ref a1), .val (.int p1), .unset, .unset, .unset, .unset] [(.ref ta)]) := fun t kt => pre1 t (st2 t kt)
  have pre4 : Goes p e below s₁ (entryFrame m #[(.ref a1), (.int p1)] 6) T2 (mkF m 6 #[.val (.ref a1), .val (.int p1), .val (.ref ta), .unset, .unset, .unset] [(.ref ta)]) := fun t kt => pre3 t (by
      show Steps p.tables e below (T2.setTop (mkF m 4 #[.val (.ref a1), .val (.int p1), .unset, .unset, .unset, .unset] [(.ref ta)])) _
      refine XS.astoreN X2.here hx rfl (hb hby own_drd0_4) rfl rfl (l' := #[.val (.ref a1), .val (.int p1), .val (.ref ta), .unset, .unset, .unset]) rfl ?_
      show Steps p.tables e below (T2.setTop (mkF m 5 #[.val (.ref a1), .val (.int p1), .val (.ref ta), .unset, .unset, .unset] [])) _
      refine XS.aloadN X2.here hx rfl (hb hby own_drd0_5) rfl rfl ?_
      exact kt)
  obtain ⟨cl5, Ar5, q5, S5, N_5, H5, G5⟩ := (id (V_ta))
  have pre6 : Goes p e below s₁ (entryFrame m #[(.ref a1), (.int p1)] 6) T2 (mkF m 38 #[.val (.ref a1), .val (.int p1), .val (.ref ta), .val (.int (0 : Int32)), .val (.int (0 : Int32)), .unset] [(.int (0 : Int32))]) := fun t kt => pre4 t (by
      show Steps p.tables e below (T2.setTop (mkF m 6 #[.val (.ref a1), .val (.int p1), .val (.ref ta), .unset, .unset, .unset] [(.ref ta)])) _
      refine X2.arraylength hx (by rw [e2]; exact Ar5.1) (State.isArrayOf_alike hZ.alike Ar5.2.1) (g := (mkF m 6 #[.val (.ref a1), .val (.int p1), .val (.ref ta), .unset, .unset, .unset] [(.ref ta)])) rfl rfl (hb hby own_drd0_6) _ ?_
      rw [len_of S5 N_5]
      show Steps p.tables e below (T2.setTop (mkF m 7 #[.val (.ref a1), .val (.int p1), .val (.ref ta), .unset, .unset, .unset] [(.int (0 : Int32))])) _
      refine XS.istoreN X2.here hx rfl (hb hby own_drd0_7) rfl (l' := #[.val (.ref a1), .val (.int p1), .val (.ref ta), .val (.int (0 : Int32)), .unset, .unset]) rfl ?_
      show Steps p.tables e below (T2.setTop (mkF m 8 #[.val (.ref a1), .val (.int p1), .val (.ref ta), .val (.int (0 : Int32)), .unset, .unset] [])) _
      refine XS.iconst X2.here hx rfl (hb hby own_drd0_8) ?_
      show Steps p.tables e below (T2.setTop (mkF m 9 #[.val (.ref a1), .val (.int p1), .val (.ref ta), .val (.int (0 : Int32)), .unset, .unset] [(.int (0 : Int32))])) _
      refine XS.istore X2.here hx rfl (hb hby own_drd0_9) rfl (l' := #[.val (.ref a1), .val (.int p1), .val (.ref ta), .val (.int (0 : Int32)), .val (.int (0 : Int32)), .unset]) rfl ?_
      show Steps p.tables e below (T2.setTop (mkF m 11 #[.val (.ref a1), .val (.int p1), .val (.ref ta), .val (.int (0 : Int32)), .val (.int (0 : Int32)), .unset] [])) _
      refine XS.iload X2.here hx rfl (hb hby own_drd0_11) rfl ?_
      show Steps p.tables e below (T2.setTop (mkF m 13 #[.val (.ref a1), .val (.int p1), .val (.ref ta), .val (.int (0 : Int32)), .val (.int (0 : Int32)), .unset] [(.int (0 : Int32))])) _
      refine XS.iloadN X2.here hx rfl (hb hby own_drd0_13) rfl ?_
      show Steps p.tables e below (T2.setTop (mkF m 14 #[.val (.ref a1), .val (.int p1), .val (.ref ta), .val (.int (0 : Int32)), .val (.int (0 : Int32)), .unset] [(.int (0 : Int32)), (.int (0 : Int32))])) _
      refine XS.icmpYes X2.here hx rfl (pc0 := 14) (pc' := 37) rfl (hb hby own_drd0_14) rfl (flt (by decide : ¬ ((0 : Int32) < (0 : Int32)))).2.1 (by decide) (by decide) ?_
      show Steps p.tables e below (T2.setTop (mkF m 37 #[.val (.ref a1), .val (.int p1), .val (.ref ta), .val (.int (0 : Int32)), .val (.int (0 : Int32)), .unset] [])) _
      refine XS.iconst X2.here hx rfl (hb hby own_drd0_37) ?_
      exact kt)
  obtain ⟨fs, hr, hrun, hended, hW, hsame⟩ := X2.leave (v := some (.int (0 : Int32))) (fun h => by rw [Bd.returns] at h; cases h)
  refine ⟨_, _, pre6 _ ?_, hrun, hended, _, _, rfl, ?_, ⟨_, rfl⟩, hW, hsame.mono (by decide) (by decide)⟩
  · show Steps p.tables e below (T2.setTop (mkF m 38 #[.val (.ref a1), .val (.int p1), .val (.ref ta), .val (.int (0 : Int32)), .val (.int (0 : Int32)), .unset] [(.int (0 : Int32))])) _
    exact retN X2 hx (t := .boolean) Bd.returns (by simp) (hb hby own_drd0_38) hr
  · show Q_own_reads0 Z a1 p1 ta ka r h0 n0 _ T2.heap _
    rw [e2]
    exact ⟨by rw [hrr], N0, rfl⟩
theorem own_drd1_0 : decode prog_3_method_2_code 0 = .ok (.aload_n 0, 1) := by decide +kernel
theorem own_drd1_1 : decode prog_3_method_2_code 1 = .ok (.getfield 19, 3) := by decide +kernel
theorem own_drd1_4 : decode prog_3_method_2_code 4 = .ok (.astore_n 2, 1) := by decide +kernel
theorem own_drd1_5 : decode prog_3_method_2_code 5 = .ok (.aload_n 2, 1) := by decide +kernel
theorem own_drd1_6 : decode prog_3_method_2_code 6 = .ok (.arraylength, 1) := by decide +kernel
theorem own_drd1_7 : decode prog_3_method_2_code 7 = .ok (.istore_n 3, 1) := by decide +kernel
theorem own_drd1_8 : decode prog_3_method_2_code 8 = .ok (.iconst 0, 1) := by decide +kernel
theorem own_drd1_9 : decode prog_3_method_2_code 9 = .ok (.istore 4, 2) := by decide +kernel
theorem own_drd1_11 : decode prog_3_method_2_code 11 = .ok (.iload 4, 2) := by decide +kernel
theorem own_drd1_13 : decode prog_3_method_2_code 13 = .ok (.iload_n 3, 1) := by decide +kernel
theorem own_drd1_14 : decode prog_3_method_2_code 14 = .ok (.if_icmp .ge 23, 3) := by decide +kernel
theorem own_drd1_17 : decode prog_3_method_2_code 17 = .ok (.aload_n 2, 1) := by decide +kernel
theorem own_drd1_18 : decode prog_3_method_2_code 18 = .ok (.iload 4, 2) := by decide +kernel
theorem own_drd1_20 : decode prog_3_method_2_code 20 = .ok (.iaload, 1) := by decide +kernel
theorem own_drd1_21 : decode prog_3_method_2_code 21 = .ok (.istore 5, 2) := by decide +kernel
theorem own_drd1_23 : decode prog_3_method_2_code 23 = .ok (.iload 5, 2) := by decide +kernel
theorem own_drd1_25 : decode prog_3_method_2_code 25 = .ok (.iload_n 1, 1) := by decide +kernel
theorem own_drd1_26 : decode prog_3_method_2_code 26 = .ok (.if_icmp .ne 5, 3) := by decide +kernel
theorem own_drd1_29 : decode prog_3_method_2_code 29 = .ok (.iconst 1, 1) := by decide +kernel
theorem own_drd1_30 : decode prog_3_method_2_code 30 = .ok (.ireturn, 1) := by decide +kernel
theorem own_drd1_31 : decode prog_3_method_2_code 31 = .ok (.iinc 4 1, 3) := by decide +kernel
theorem own_drd1_34 : decode prog_3_method_2_code 34 = .ok (.goto (-23), 3) := by decide +kernel
theorem own_drd1_37 : decode prog_3_method_2_code 37 = .ok (.iconst 0, 1) := by decide +kernel
theorem own_drd1_38 : decode prog_3_method_2_code 38 = .ok (.ireturn, 1) := by decide +kernel
theorem own_pn_own_reads1 : plainName "com/example/ferry/ferry/FormatVersions" = true := by first | (simp [plainName, overriddenIn]; done) | decide +kernel
theorem own_ef_own_reads1 (m : MethodId) (x0 : Addr) (x1 : Int32) : entryFrame m #[(.ref x0), (.int x1)] 6 = mkF m 0 #[.val (.ref x0), .val (.int x1), .unset, .unset, .unset, .unset] [] := by first | (simp [entryFrame, mkF, argsToLocals, Value.category]; done) | rfl
def Q_own_reads1 (Z : State) (a1 : Addr) (p1 : Int32) (ta : Addr) (ka : ClassId) (v0 : Int32) (r : Int32) (h0 : Heap) (n0 : Nat) (v : Option Value) (h : Heap) (L : List Loc) : Prop := v = some (.int r) ∧ Fr n0 L ∧ h = h0
set_option maxRecDepth 65536 in
set_option maxHeartbeats 40000000 in
theorem own_reads1 (l : Launch) (Z : State) (a0 : Array Value) (hw : ∀ d ∈ tables_1, d.before a0 Z = true) (ws : List Jvm.Cond) (a1 : Addr) (p1 : Int32) (ta : Addr) (ka : ClassId) (v0 : Int32) (r : Int32) (h0 : Heap) (n0 : Nat) (Z0 : n0 ≤ h0.size) (F_a1 : Fld Z h0 a1 "com/example/ferry/ferry/FormatVersions" "versions" "[I" (.ref ta)) (V_ta : Arv Z h0 ta ka .int (1 : Int32) [(.int v0)] (.int (0 : Int32))) (hrr : r = if (v0 = p1) then 1 else 0) :
    MetFree l (⟨"com/example/ferry/ferry/FormatVersions", "reads", "(I)Z"⟩ : MethodName) (head1 (Jvm.Cond.code (⟨"com/example/ferry/ferry/FormatVersions", "reads", "(I)Z"⟩ : MethodName) prog_3_method_2_code 6 (some .boolean) :: ws) ({ frames := 0, cells := 0, slots := 0, locals := 0 } : Room)) (fun a U => a = #[(.ref a1), (.int p1)] ∧ Z.Warmed39 U.vm ∧ U.heap = h0) (fun _ _ _ _ _ => True) (fun _ U o U' => ∃ v L, o = .returned v ∧ Q_own_reads1 Z a1 p1 ta ka v0 r h0 n0 v U'.heap L ∧ FrameEnd U o U' L ({ frames := 0, cells := 0, slots := 0, locals := 0 } : Room).cells ({ frames := 0, cells := 0, slots := 0, locals := 0 } : Room).slots) := by
  refine MetFree.of_bodySF (plainFor_of_name own_pn_own_reads1) hisR ?_
  intro p e s m args below meth c s₁ Bd hml0 hP hK
  obtain ⟨rfl, hZ, hh⟩ := hP
  have hx := Bd.exec
  have hby := Bd.bytes
  have hml : c.maxLocals = 6 := hml0
  have hown : s.vm.findClass "com/example/ferry/ferry/FormatVersions" = some m.cls := findClass_of_methodNamed Bd.named
  have hnm := (name_of_methodNamed Bd.named Bd.method).1
  have X0 : Stand p l e ({ frames := 0, cells := 0, slots := 0, locals := 0 } : Room) s m #[(.ref a1), (.int p1)] below meth c s₁ [] 0 0 := Stand.of_body Bd
  have e0 : s₁.heap = h0 := by rw [← hh, Bd.state]; rfl
  have N0 := Fr.nil n0
  have pre0 : Goes p e below s₁ (entryFrame m #[(.ref a1), (.int p1)] 6) s₁ (mkF m 0 #[.val (.ref a1), .val (.int p1), .unset, .unset, .unset, .unset] []) := fun t k => castTop (own_ef_own_reads1 m a1 p1) k
  have pre1 : Goes p e below s₁ (entryFrame m #[(.ref a1), (.int p1)] 6) s₁ (mkF m 1 #[.val (.ref a1), .val (.int p1), .unset, .unset, .unset, .unset] [(.ref a1)]) := fun t kt => pre0 t (by
      show Steps p.tables e below (s₁.setTop (mkF m 0 #[.val (.ref a1), .val (.int p1), .unset, .unset, .unset, .unset] [])) _
      refine XS.aloadN X0.here hx rfl (hb hby own_drd1_0) rfl rfl ?_
      exact kt)
  obtain ⟨T2, X2, e2, st2⟩ := getF X0 hx hZ hown (host := "") (Or.inl (hw _ (List.mem_of_getElem? (i := 36) rfl))) Via.refl e0 F_a1 (g := (mkF m 1 #[.val (.ref a1), .val (.int p1), .unset, .unset, .unset, .unset] [(.ref a1)])) rfl rfl (hb hby own_drd1_1)
  have pre3 : Goes p e below s₁ (entryFrame m #[(.ref a1), (.int p1)] 6) T2 (mkF m 4 #[.val (.ref a1), .val (.int p1), .unset, .unset, .unset, .unset] [(.ref ta)]) := fun t kt => pre1 t (st2 t kt)
  have pre4 : Goes p e below s₁ (entryFrame m #[(.ref a1), (.int p1)] 6) T2 (mkF m 6 #[.val (.ref a1), .val (.int p1), .val (.ref ta), .unset, .unset, .unset] [(.ref ta)]) := fun t kt => pre3 t (by
      show Steps p.tables e below (T2.setTop (mkF m 4 #[.val (.ref a1), .val (.int p1), .unset, .unset, .unset, .unset] [(.ref ta)])) _
      refine XS.astoreN X2.here hx rfl (hb hby own_drd1_4) rfl rfl (l' := #[.val (.ref a1), .val (.int p1), .val (.ref ta), .unset, .unset, .unset]) rfl ?_
      show Steps p.tables e below (T2.setTop (mkF m 5 #[.val (.ref a1), .val (.int p1), .val (.ref ta), .unset, .unset, .unset] [])) _
      refine XS.aloadN X2.here hx rfl (hb hby own_drd1_5) rfl rfl ?_
      exact kt)
  obtain ⟨cl5, Ar5, q5, S5, N_5, H5, G5⟩ := (id (V_ta))
  have pre6 : Goes p e below s₁ (entryFrame m #[(.ref a1), (.int p1)] 6) T2 (mkF m 20 #[.val (.ref a1), .val (.int p1), .val (.ref ta), .val (.int (1 : Int32)), .val (.int (0 : Int32)), .unset] [(.int (0 : Int32)), (.ref ta)]) := fun t kt => pre4 t (by
      show Steps p.tables e below (T2.setTop (mkF m 6 #[.val (.ref a1), .val (.int p1), .val (.ref ta), .unset, .unset, .unset] [(.ref ta)])) _
      refine X2.arraylength hx (by rw [e2]; exact Ar5.1) (State.isArrayOf_alike hZ.alike Ar5.2.1) (g := (mkF m 6 #[.val (.ref a1), .val (.int p1), .val (.ref ta), .unset, .unset, .unset] [(.ref ta)])) rfl rfl (hb hby own_drd1_6) _ ?_
      rw [len_of S5 N_5]
      show Steps p.tables e below (T2.setTop (mkF m 7 #[.val (.ref a1), .val (.int p1), .val (.ref ta), .unset, .unset, .unset] [(.int (1 : Int32))])) _
      refine XS.istoreN X2.here hx rfl (hb hby own_drd1_7) rfl (l' := #[.val (.ref a1), .val (.int p1), .val (.ref ta), .val (.int (1 : Int32)), .unset, .unset]) rfl ?_
      show Steps p.tables e below (T2.setTop (mkF m 8 #[.val (.ref a1), .val (.int p1), .val (.ref ta), .val (.int (1 : Int32)), .unset, .unset] [])) _
      refine XS.iconst X2.here hx rfl (hb hby own_drd1_8) ?_
      show Steps p.tables e below (T2.setTop (mkF m 9 #[.val (.ref a1), .val (.int p1), .val (.ref ta), .val (.int (1 : Int32)), .unset, .unset] [(.int (0 : Int32))])) _
      refine XS.istore X2.here hx rfl (hb hby own_drd1_9) rfl (l' := #[.val (.ref a1), .val (.int p1), .val (.ref ta), .val (.int (1 : Int32)), .val (.int (0 : Int32)), .unset]) rfl ?_
      show Steps p.tables e below (T2.setTop (mkF m 11 #[.val (.ref a1), .val (.int p1), .val (.ref ta), .val (.int (1 : Int32)), .val (.int (0 : Int32)), .unset] [])) _
      refine XS.iload X2.here hx rfl (hb hby own_drd1_11) rfl ?_
      show Steps p.tables e below (T2.setTop (mkF m 13 #[.val (.ref a1), .val (.int p1), .val (.ref ta), .val (.int (1 : Int32)), .val (.int (0 : Int32)), .unset] [(.int (0 : Int32))])) _
      refine XS.iloadN X2.here hx rfl (hb hby own_drd1_13) rfl ?_
      show Steps p.tables e below (T2.setTop (mkF m 14 #[.val (.ref a1), .val (.int p1), .val (.ref ta), .val (.int (1 : Int32)), .val (.int (0 : Int32)), .unset] [(.int (1 : Int32)), (.int (0 : Int32))])) _
      refine XS.icmpNo X2.here hx rfl (hb hby own_drd1_14) rfl (tlt (by decide : (0 : Int32) < (1 : Int32))).2.1 ?_
      show Steps p.tables e below (T2.setTop (mkF m 17 #[.val (.ref a1), .val (.int p1), .val (.ref ta), .val (.int (1 : Int32)), .val (.int (0 : Int32)), .unset] [])) _
      refine XS.aloadN X2.here hx rfl (hb hby own_drd1_17) rfl rfl ?_
      show Steps p.tables e below (T2.setTop (mkF m 18 #[.val (.ref a1), .val (.int p1), .val (.ref ta), .val (.int (1 : Int32)), .val (.int (0 : Int32)), .unset] [(.ref ta)])) _
      refine XS.iload X2.here hx rfl (hb hby own_drd1_18) rfl ?_
      exact kt)
  obtain ⟨cl7, Ar7, q7, S7, N_7, H7, G7⟩ := (id (V_ta))
  have hin7 : ¬ ((0 : Int32) < 0 ∨ cl7.slots.size ≤ ((0 : Int32)).toNatClampNeg) := inb_of S7 ⟨by decide, by decide⟩
  have hat7 : cl7.slots[((0 : Int32)).toNatClampNeg]? = some (.int v0) := Has.at H7 hin7 rfl
  have pre8 : Goes p e below s₁ (entryFrame m #[(.ref a1), (.int p1)] 6) T2 (mkF m 26 #[.val (.ref a1), .val (.int p1), .val (.ref ta), .val (.int (1 : Int32)), .val (.int (0 : Int32)), .val (.int v0)] [(.int p1), (.int v0)]) := fun t kt => pre6 t (by
      show Steps p.tables e below (T2.setTop (mkF m 20 #[.val (.ref a1), .val (.int p1), .val (.ref ta), .val (.int (1 : Int32)), .val (.int (0 : Int32)), .unset] [(.int (0 : Int32)), (.ref ta)])) _
      refine X2.iaload hx (j := (0 : Int32)) (v := (.int v0)) (by rw [e2]; exact Ar7.1) (State.isArrayOf_alike hZ.alike Ar7.2.1) Ar7.2.2 hin7 hat7 (g := (mkF m 20 #[.val (.ref a1), .val (.int p1), .val (.ref ta), .val (.int (1 : Int32)), .val (.int (0 : Int32)), .unset] [(.int (0 : Int32)), (.ref ta)])) rfl rfl (hb hby own_drd1_20) _ ?_
      show Steps p.tables e below (T2.setTop (mkF m 21 #[.val (.ref a1), .val (.int p1), .val (.ref ta), .val (.int (1 : Int32)), .val (.int (0 : Int32)), .unset] [(.int v0)])) _
      refine XS.istore X2.here hx rfl (hb hby own_drd1_21) rfl (l' := #[.val (.ref a1), .val (.int p1), .val (.ref ta), .val (.int (1 : Int32)), .val (.int (0 : Int32)), .val (.int v0)]) rfl ?_
      show Steps p.tables e below (T2.setTop (mkF m 23 #[.val (.ref a1), .val (.int p1), .val (.ref ta), .val (.int (1 : Int32)), .val (.int (0 : Int32)), .val (.int v0)] [])) _
      refine XS.iload X2.here hx rfl (hb hby own_drd1_23) rfl ?_
      show Steps p.tables e below (T2.setTop (mkF m 25 #[.val (.ref a1), .val (.int p1), .val (.ref ta), .val (.int (1 : Int32)), .val (.int (0 : Int32)), .val (.int v0)] [(.int v0)])) _
      refine XS.iloadN X2.here hx rfl (hb hby own_drd1_25) rfl ?_
      exact kt)
  by_cases hc26_9 : v0 = p1
  · -- yes at pc 26: f
    have pre10 : Goes p e below s₁ (entryFrame m #[(.ref a1), (.int p1)] 6) T2 (mkF m 30 #[.val (.ref a1), .val (.int p1), .val (.ref ta), .val (.int (1 : Int32)), .val (.int (0 : Int32)), .val (.int v0)] [(.int (1 : Int32))]) := fun t kt => pre8 t (by
        show Steps p.tables e below (T2.setTop (mkF m 26 #[.val (.ref a1), .val (.int p1), .val (.ref ta), .val (.int (1 : Int32)), .val (.int (0 : Int32)), .val (.int v0)] [(.int p1), (.int v0)])) _
        refine XS.icmpNo X2.here hx rfl (hb hby own_drd1_26) rfl (teq hc26_9).2 ?_
        show Steps p.tables e below (T2.setTop (mkF m 29 #[.val (.ref a1), .val (.int p1), .val (.ref ta), .val (.int (1 : Int32)), .val (.int (0 : Int32)), .val (.int v0)] [])) _
        refine XS.iconst X2.here hx rfl (hb hby own_drd1_29) ?_
        exact kt)
    obtain ⟨fs, hr, hrun, hended, hW, hsame⟩ := X2.leave (v := some (.int (1 : Int32))) (fun h => by rw [Bd.returns] at h; cases h)
    refine ⟨_, _, pre10 _ ?_, hrun, hended, _, _, rfl, ?_, ⟨_, rfl⟩, hW, hsame.mono (by decide) (by decide)⟩
    · show Steps p.tables e below (T2.setTop (mkF m 30 #[.val (.ref a1), .val (.int p1), .val (.ref ta), .val (.int (1 : Int32)), .val (.int (0 : Int32)), .val (.int v0)] [(.int (1 : Int32))])) _
      exact retN X2 hx (t := .boolean) Bd.returns (by simp) (hb hby own_drd1_30) hr
    · show Q_own_reads1 Z a1 p1 ta ka v0 r h0 n0 _ T2.heap _
      rw [e2]
      exact ⟨by rw [hrr]; simp [hc26_9], N0, rfl⟩
  · -- no at pc 26: f
    have pre11 : Goes p e below s₁ (entryFrame m #[(.ref a1), (.int p1)] 6) T2 (mkF m 38 #[.val (.ref a1), .val (.int p1), .val (.ref ta), .val (.int (1 : Int32)), .val (.int (1 : Int32)), .val (.int v0)] [(.int (0 : Int32))]) := fun t kt => pre8 t (by
        show Steps p.tables e below (T2.setTop (mkF m 26 #[.val (.ref a1), .val (.int p1), .val (.ref ta), .val (.int (1 : Int32)), .val (.int (0 : Int32)), .val (.int v0)] [(.int p1), (.int v0)])) _
        refine XS.icmpYes X2.here hx rfl (pc0 := 26) (pc' := 31) rfl (hb hby own_drd1_26) rfl (feq hc26_9).2 (by decide) (by decide) ?_
        show Steps p.tables e below (T2.setTop (mkF m 31 #[.val (.ref a1), .val (.int p1), .val (.ref ta), .val (.int (1 : Int32)), .val (.int (0 : Int32)), .val (.int v0)] [])) _
        refine XS.iinc X2.here hx rfl (hb hby own_drd1_31) rfl (l' := #[.val (.ref a1), .val (.int p1), .val (.ref ta), .val (.int (1 : Int32)), .val (.int (1 : Int32)), .val (.int v0)]) rfl ?_
        show Steps p.tables e below (T2.setTop (mkF m 34 #[.val (.ref a1), .val (.int p1), .val (.ref ta), .val (.int (1 : Int32)), .val (.int (1 : Int32)), .val (.int v0)] [])) _
        refine XS.goto X2.here hx rfl (pc0 := 34) (pc' := 11) rfl (hb hby own_drd1_34) (by decide) (by decide) ?_
        show Steps p.tables e below (T2.setTop (mkF m 11 #[.val (.ref a1), .val (.int p1), .val (.ref ta), .val (.int (1 : Int32)), .val (.int (1 : Int32)), .val (.int v0)] [])) _
        refine XS.iload X2.here hx rfl (hb hby own_drd1_11) rfl ?_
        show Steps p.tables e below (T2.setTop (mkF m 13 #[.val (.ref a1), .val (.int p1), .val (.ref ta), .val (.int (1 : Int32)), .val (.int (1 : Int32)), .val (.int v0)] [(.int (1 : Int32))])) _
        refine XS.iloadN X2.here hx rfl (hb hby own_drd1_13) rfl ?_
        show Steps p.tables e below (T2.setTop (mkF m 14 #[.val (.ref a1), .val (.int p1), .val (.ref ta), .val (.int (1 : Int32)), .val (.int (1 : Int32)), .val (.int v0)] [(.int (1 : Int32)), (.int (1 : Int32))])) _
        refine XS.icmpYes X2.here hx rfl (pc0 := 14) (pc' := 37) rfl (hb hby own_drd1_14) rfl (flt (by decide : ¬ ((1 : Int32) < (1 : Int32)))).2.1 (by decide) (by decide) ?_
        show Steps p.tables e below (T2.setTop (mkF m 37 #[.val (.ref a1), .val (.int p1), .val (.ref ta), .val (.int (1 : Int32)), .val (.int (1 : Int32)), .val (.int v0)] [])) _
        refine XS.iconst X2.here hx rfl (hb hby own_drd1_37) ?_
        exact kt)
    obtain ⟨fs, hr, hrun, hended, hW, hsame⟩ := X2.leave (v := some (.int (0 : Int32))) (fun h => by rw [Bd.returns] at h; cases h)
    refine ⟨_, _, pre11 _ ?_, hrun, hended, _, _, rfl, ?_, ⟨_, rfl⟩, hW, hsame.mono (by decide) (by decide)⟩
    · show Steps p.tables e below (T2.setTop (mkF m 38 #[.val (.ref a1), .val (.int p1), .val (.ref ta), .val (.int (1 : Int32)), .val (.int (1 : Int32)), .val (.int v0)] [(.int (0 : Int32))])) _
      exact retN X2 hx (t := .boolean) Bd.returns (by simp) (hb hby own_drd1_38) hr
    · show Q_own_reads1 Z a1 p1 ta ka v0 r h0 n0 _ T2.heap _
      rw [e2]
      exact ⟨by rw [hrr]; simp [hc26_9], N0, rfl⟩
theorem own_drd2_0 : decode prog_3_method_2_code 0 = .ok (.aload_n 0, 1) := by decide +kernel
theorem own_drd2_1 : decode prog_3_method_2_code 1 = .ok (.getfield 19, 3) := by decide +kernel
theorem own_drd2_4 : decode prog_3_method_2_code 4 = .ok (.astore_n 2, 1) := by decide +kernel
theorem own_drd2_5 : decode prog_3_method_2_code 5 = .ok (.aload_n 2, 1) := by decide +kernel
theorem own_drd2_6 : decode prog_3_method_2_code 6 = .ok (.arraylength, 1) := by decide +kernel
theorem own_drd2_7 : decode prog_3_method_2_code 7 = .ok (.istore_n 3, 1) := by decide +kernel
theorem own_drd2_8 : decode prog_3_method_2_code 8 = .ok (.iconst 0, 1) := by decide +kernel
theorem own_drd2_9 : decode prog_3_method_2_code 9 = .ok (.istore 4, 2) := by decide +kernel
theorem own_drd2_11 : decode prog_3_method_2_code 11 = .ok (.iload 4, 2) := by decide +kernel
theorem own_drd2_13 : decode prog_3_method_2_code 13 = .ok (.iload_n 3, 1) := by decide +kernel
theorem own_drd2_14 : decode prog_3_method_2_code 14 = .ok (.if_icmp .ge 23, 3) := by decide +kernel
theorem own_drd2_17 : decode prog_3_method_2_code 17 = .ok (.aload_n 2, 1) := by decide +kernel
theorem own_drd2_18 : decode prog_3_method_2_code 18 = .ok (.iload 4, 2) := by decide +kernel
theorem own_drd2_20 : decode prog_3_method_2_code 20 = .ok (.iaload, 1) := by decide +kernel
theorem own_drd2_21 : decode prog_3_method_2_code 21 = .ok (.istore 5, 2) := by decide +kernel
theorem own_drd2_23 : decode prog_3_method_2_code 23 = .ok (.iload 5, 2) := by decide +kernel
theorem own_drd2_25 : decode prog_3_method_2_code 25 = .ok (.iload_n 1, 1) := by decide +kernel
theorem own_drd2_26 : decode prog_3_method_2_code 26 = .ok (.if_icmp .ne 5, 3) := by decide +kernel
theorem own_drd2_29 : decode prog_3_method_2_code 29 = .ok (.iconst 1, 1) := by decide +kernel
theorem own_drd2_30 : decode prog_3_method_2_code 30 = .ok (.ireturn, 1) := by decide +kernel
theorem own_drd2_31 : decode prog_3_method_2_code 31 = .ok (.iinc 4 1, 3) := by decide +kernel
theorem own_drd2_34 : decode prog_3_method_2_code 34 = .ok (.goto (-23), 3) := by decide +kernel
theorem own_drd2_37 : decode prog_3_method_2_code 37 = .ok (.iconst 0, 1) := by decide +kernel
theorem own_drd2_38 : decode prog_3_method_2_code 38 = .ok (.ireturn, 1) := by decide +kernel
theorem own_pn_own_reads2 : plainName "com/example/ferry/ferry/FormatVersions" = true := by first | (simp [plainName, overriddenIn]; done) | decide +kernel
theorem own_ef_own_reads2 (m : MethodId) (x0 : Addr) (x1 : Int32) : entryFrame m #[(.ref x0), (.int x1)] 6 = mkF m 0 #[.val (.ref x0), .val (.int x1), .unset, .unset, .unset, .unset] [] := by first | (simp [entryFrame, mkF, argsToLocals, Value.category]; done) | rfl
def Q_own_reads2 (Z : State) (a1 : Addr) (p1 : Int32) (ta : Addr) (ka : ClassId) (v0 : Int32) (v1 : Int32) (r : Int32) (h0 : Heap) (n0 : Nat) (v : Option Value) (h : Heap) (L : List Loc) : Prop := v = some (.int r) ∧ Fr n0 L ∧ h = h0
set_option maxRecDepth 65536 in
set_option maxHeartbeats 40000000 in
theorem own_reads2 (l : Launch) (Z : State) (a0 : Array Value) (hw : ∀ d ∈ tables_1, d.before a0 Z = true) (ws : List Jvm.Cond) (a1 : Addr) (p1 : Int32) (ta : Addr) (ka : ClassId) (v0 : Int32) (v1 : Int32) (r : Int32) (h0 : Heap) (n0 : Nat) (Z0 : n0 ≤ h0.size) (F_a1 : Fld Z h0 a1 "com/example/ferry/ferry/FormatVersions" "versions" "[I" (.ref ta)) (V_ta : Arv Z h0 ta ka .int (2 : Int32) [(.int v0), (.int v1)] (.int (0 : Int32))) (hrr : r = if (v0 = p1 ∨ v1 = p1) then 1 else 0) :
    MetFree l (⟨"com/example/ferry/ferry/FormatVersions", "reads", "(I)Z"⟩ : MethodName) (head1 (Jvm.Cond.code (⟨"com/example/ferry/ferry/FormatVersions", "reads", "(I)Z"⟩ : MethodName) prog_3_method_2_code 6 (some .boolean) :: ws) ({ frames := 0, cells := 0, slots := 0, locals := 0 } : Room)) (fun a U => a = #[(.ref a1), (.int p1)] ∧ Z.Warmed39 U.vm ∧ U.heap = h0) (fun _ _ _ _ _ => True) (fun _ U o U' => ∃ v L, o = .returned v ∧ Q_own_reads2 Z a1 p1 ta ka v0 v1 r h0 n0 v U'.heap L ∧ FrameEnd U o U' L ({ frames := 0, cells := 0, slots := 0, locals := 0 } : Room).cells ({ frames := 0, cells := 0, slots := 0, locals := 0 } : Room).slots) := by
  refine MetFree.of_bodySF (plainFor_of_name own_pn_own_reads2) hisR ?_
  intro p e s m args below meth c s₁ Bd hml0 hP hK
  obtain ⟨rfl, hZ, hh⟩ := hP
  have hx := Bd.exec
  have hby := Bd.bytes
  have hml : c.maxLocals = 6 := hml0
  have hown : s.vm.findClass "com/example/ferry/ferry/FormatVersions" = some m.cls := findClass_of_methodNamed Bd.named
  have hnm := (name_of_methodNamed Bd.named Bd.method).1
  have X0 : Stand p l e ({ frames := 0, cells := 0, slots := 0, locals := 0 } : Room) s m #[(.ref a1), (.int p1)] below meth c s₁ [] 0 0 := Stand.of_body Bd
  have e0 : s₁.heap = h0 := by rw [← hh, Bd.state]; rfl
  have N0 := Fr.nil n0
  have pre0 : Goes p e below s₁ (entryFrame m #[(.ref a1), (.int p1)] 6) s₁ (mkF m 0 #[.val (.ref a1), .val (.int p1), .unset, .unset, .unset, .unset] []) := fun t k => castTop (own_ef_own_reads2 m a1 p1) k
  have pre1 : Goes p e below s₁ (entryFrame m #[(.ref a1), (.int p1)] 6) s₁ (mkF m 1 #[.val (.ref a1), .val (.int p1), .unset, .unset, .unset, .unset] [(.ref a1)]) := fun t kt => pre0 t (by
      show Steps p.tables e below (s₁.setTop (mkF m 0 #[.val (.ref a1), .val (.int p1), .unset, .unset, .unset, .unset] [])) _
      refine XS.aloadN X0.here hx rfl (hb hby own_drd2_0) rfl rfl ?_
      exact kt)
  obtain ⟨T2, X2, e2, st2⟩ := getF X0 hx hZ hown (host := "") (Or.inl (hw _ (List.mem_of_getElem? (i := 36) rfl))) Via.refl e0 F_a1 (g := (mkF m 1 #[.val (.ref a1), .val (.int p1), .unset, .unset, .unset, .unset] [(.ref a1)])) rfl rfl (hb hby own_drd2_1)
  have pre3 : Goes p e below s₁ (entryFrame m #[(.ref a1), (.int p1)] 6) T2 (mkF m 4 #[.val (.ref a1), .val (.int p1), .unset, .unset, .unset, .unset] [(.ref ta)]) := fun t kt => pre1 t (st2 t kt)
  have pre4 : Goes p e below s₁ (entryFrame m #[(.ref a1), (.int p1)] 6) T2 (mkF m 6 #[.val (.ref a1), .val (.int p1), .val (.ref ta), .unset, .unset, .unset] [(.ref ta)]) := fun t kt => pre3 t (by
      show Steps p.tables e below (T2.setTop (mkF m 4 #[.val (.ref a1), .val (.int p1), .unset, .unset, .unset, .unset] [(.ref ta)])) _
      refine XS.astoreN X2.here hx rfl (hb hby own_drd2_4) rfl rfl (l' := #[.val (.ref a1), .val (.int p1), .val (.ref ta), .unset, .unset, .unset]) rfl ?_
      show Steps p.tables e below (T2.setTop (mkF m 5 #[.val (.ref a1), .val (.int p1), .val (.ref ta), .unset, .unset, .unset] [])) _
      refine XS.aloadN X2.here hx rfl (hb hby own_drd2_5) rfl rfl ?_
      exact kt)
  obtain ⟨cl5, Ar5, q5, S5, N_5, H5, G5⟩ := (id (V_ta))
  have pre6 : Goes p e below s₁ (entryFrame m #[(.ref a1), (.int p1)] 6) T2 (mkF m 20 #[.val (.ref a1), .val (.int p1), .val (.ref ta), .val (.int (2 : Int32)), .val (.int (0 : Int32)), .unset] [(.int (0 : Int32)), (.ref ta)]) := fun t kt => pre4 t (by
      show Steps p.tables e below (T2.setTop (mkF m 6 #[.val (.ref a1), .val (.int p1), .val (.ref ta), .unset, .unset, .unset] [(.ref ta)])) _
      refine X2.arraylength hx (by rw [e2]; exact Ar5.1) (State.isArrayOf_alike hZ.alike Ar5.2.1) (g := (mkF m 6 #[.val (.ref a1), .val (.int p1), .val (.ref ta), .unset, .unset, .unset] [(.ref ta)])) rfl rfl (hb hby own_drd2_6) _ ?_
      rw [len_of S5 N_5]
      show Steps p.tables e below (T2.setTop (mkF m 7 #[.val (.ref a1), .val (.int p1), .val (.ref ta), .unset, .unset, .unset] [(.int (2 : Int32))])) _
      refine XS.istoreN X2.here hx rfl (hb hby own_drd2_7) rfl (l' := #[.val (.ref a1), .val (.int p1), .val (.ref ta), .val (.int (2 : Int32)), .unset, .unset]) rfl ?_
      show Steps p.tables e below (T2.setTop (mkF m 8 #[.val (.ref a1), .val (.int p1), .val (.ref ta), .val (.int (2 : Int32)), .unset, .unset] [])) _
      refine XS.iconst X2.here hx rfl (hb hby own_drd2_8) ?_
      show Steps p.tables e below (T2.setTop (mkF m 9 #[.val (.ref a1), .val (.int p1), .val (.ref ta), .val (.int (2 : Int32)), .unset, .unset] [(.int (0 : Int32))])) _
      refine XS.istore X2.here hx rfl (hb hby own_drd2_9) rfl (l' := #[.val (.ref a1), .val (.int p1), .val (.ref ta), .val (.int (2 : Int32)), .val (.int (0 : Int32)), .unset]) rfl ?_
      show Steps p.tables e below (T2.setTop (mkF m 11 #[.val (.ref a1), .val (.int p1), .val (.ref ta), .val (.int (2 : Int32)), .val (.int (0 : Int32)), .unset] [])) _
      refine XS.iload X2.here hx rfl (hb hby own_drd2_11) rfl ?_
      show Steps p.tables e below (T2.setTop (mkF m 13 #[.val (.ref a1), .val (.int p1), .val (.ref ta), .val (.int (2 : Int32)), .val (.int (0 : Int32)), .unset] [(.int (0 : Int32))])) _
      refine XS.iloadN X2.here hx rfl (hb hby own_drd2_13) rfl ?_
      show Steps p.tables e below (T2.setTop (mkF m 14 #[.val (.ref a1), .val (.int p1), .val (.ref ta), .val (.int (2 : Int32)), .val (.int (0 : Int32)), .unset] [(.int (2 : Int32)), (.int (0 : Int32))])) _
      refine XS.icmpNo X2.here hx rfl (hb hby own_drd2_14) rfl (tlt (by decide : (0 : Int32) < (2 : Int32))).2.1 ?_
      show Steps p.tables e below (T2.setTop (mkF m 17 #[.val (.ref a1), .val (.int p1), .val (.ref ta), .val (.int (2 : Int32)), .val (.int (0 : Int32)), .unset] [])) _
      refine XS.aloadN X2.here hx rfl (hb hby own_drd2_17) rfl rfl ?_
      show Steps p.tables e below (T2.setTop (mkF m 18 #[.val (.ref a1), .val (.int p1), .val (.ref ta), .val (.int (2 : Int32)), .val (.int (0 : Int32)), .unset] [(.ref ta)])) _
      refine XS.iload X2.here hx rfl (hb hby own_drd2_18) rfl ?_
      exact kt)
  obtain ⟨cl7, Ar7, q7, S7, N_7, H7, G7⟩ := (id (V_ta))
  have hin7 : ¬ ((0 : Int32) < 0 ∨ cl7.slots.size ≤ ((0 : Int32)).toNatClampNeg) := inb_of S7 ⟨by decide, by decide⟩
  have hat7 : cl7.slots[((0 : Int32)).toNatClampNeg]? = some (.int v0) := Has.at H7 hin7 rfl
  have pre8 : Goes p e below s₁ (entryFrame m #[(.ref a1), (.int p1)] 6) T2 (mkF m 26 #[.val (.ref a1), .val (.int p1), .val (.ref ta), .val (.int (2 : Int32)), .val (.int (0 : Int32)), .val (.int v0)] [(.int p1), (.int v0)]) := fun t kt => pre6 t (by
      show Steps p.tables e below (T2.setTop (mkF m 20 #[.val (.ref a1), .val (.int p1), .val (.ref ta), .val (.int (2 : Int32)), .val (.int (0 : Int32)), .unset] [(.int (0 : Int32)), (.ref ta)])) _
      refine X2.iaload hx (j := (0 : Int32)) (v := (.int v0)) (by rw [e2]; exact Ar7.1) (State.isArrayOf_alike hZ.alike Ar7.2.1) Ar7.2.2 hin7 hat7 (g := (mkF m 20 #[.val (.ref a1), .val (.int p1), .val (.ref ta), .val (.int (2 : Int32)), .val (.int (0 : Int32)), .unset] [(.int (0 : Int32)), (.ref ta)])) rfl rfl (hb hby own_drd2_20) _ ?_
      show Steps p.tables e below (T2.setTop (mkF m 21 #[.val (.ref a1), .val (.int p1), .val (.ref ta), .val (.int (2 : Int32)), .val (.int (0 : Int32)), .unset] [(.int v0)])) _
      refine XS.istore X2.here hx rfl (hb hby own_drd2_21) rfl (l' := #[.val (.ref a1), .val (.int p1), .val (.ref ta), .val (.int (2 : Int32)), .val (.int (0 : Int32)), .val (.int v0)]) rfl ?_
      show Steps p.tables e below (T2.setTop (mkF m 23 #[.val (.ref a1), .val (.int p1), .val (.ref ta), .val (.int (2 : Int32)), .val (.int (0 : Int32)), .val (.int v0)] [])) _
      refine XS.iload X2.here hx rfl (hb hby own_drd2_23) rfl ?_
      show Steps p.tables e below (T2.setTop (mkF m 25 #[.val (.ref a1), .val (.int p1), .val (.ref ta), .val (.int (2 : Int32)), .val (.int (0 : Int32)), .val (.int v0)] [(.int v0)])) _
      refine XS.iloadN X2.here hx rfl (hb hby own_drd2_25) rfl ?_
      exact kt)
  by_cases hc26_9 : v0 = p1
  · -- yes at pc 26: f
    have pre10 : Goes p e below s₁ (entryFrame m #[(.ref a1), (.int p1)] 6) T2 (mkF m 30 #[.val (.ref a1), .val (.int p1), .val (.ref ta), .val (.int (2 : Int32)), .val (.int (0 : Int32)), .val (.int v0)] [(.int (1 : Int32))]) := fun t kt => pre8 t (by
        show Steps p.tables e below (T2.setTop (mkF m 26 #[.val (.ref a1), .val (.int p1), .val (.ref ta), .val (.int (2 : Int32)), .val (.int (0 : Int32)), .val (.int v0)] [(.int p1), (.int v0)])) _
        refine XS.icmpNo X2.here hx rfl (hb hby own_drd2_26) rfl (teq hc26_9).2 ?_
        show Steps p.tables e below (T2.setTop (mkF m 29 #[.val (.ref a1), .val (.int p1), .val (.ref ta), .val (.int (2 : Int32)), .val (.int (0 : Int32)), .val (.int v0)] [])) _
        refine XS.iconst X2.here hx rfl (hb hby own_drd2_29) ?_
        exact kt)
    obtain ⟨fs, hr, hrun, hended, hW, hsame⟩ := X2.leave (v := some (.int (1 : Int32))) (fun h => by rw [Bd.returns] at h; cases h)
    refine ⟨_, _, pre10 _ ?_, hrun, hended, _, _, rfl, ?_, ⟨_, rfl⟩, hW, hsame.mono (by decide) (by decide)⟩
    · show Steps p.tables e below (T2.setTop (mkF m 30 #[.val (.ref a1), .val (.int p1), .val (.ref ta), .val (.int (2 : Int32)), .val (.int (0 : Int32)), .val (.int v0)] [(.int (1 : Int32))])) _
      exact retN X2 hx (t := .boolean) Bd.returns (by simp) (hb hby own_drd2_30) hr
    · show Q_own_reads2 Z a1 p1 ta ka v0 v1 r h0 n0 _ T2.heap _
      rw [e2]
      exact ⟨by rw [hrr]; simp [hc26_9], N0, rfl⟩
  · -- no at pc 26: f
    have pre11 : Goes p e below s₁ (entryFrame m #[(.ref a1), (.int p1)] 6) T2 (mkF m 20 #[.val (.ref a1), .val (.int p1), .val (.ref ta), .val (.int (2 : Int32)), .val (.int (1 : Int32)), .val (.int v0)] [(.int (1 : Int32)), (.ref ta)]) := fun t kt => pre8 t (by
        show Steps p.tables e below (T2.setTop (mkF m 26 #[.val (.ref a1), .val (.int p1), .val (.ref ta), .val (.int (2 : Int32)), .val (.int (0 : Int32)), .val (.int v0)] [(.int p1), (.int v0)])) _
        refine XS.icmpYes X2.here hx rfl (pc0 := 26) (pc' := 31) rfl (hb hby own_drd2_26) rfl (feq hc26_9).2 (by decide) (by decide) ?_
        show Steps p.tables e below (T2.setTop (mkF m 31 #[.val (.ref a1), .val (.int p1), .val (.ref ta), .val (.int (2 : Int32)), .val (.int (0 : Int32)), .val (.int v0)] [])) _
        refine XS.iinc X2.here hx rfl (hb hby own_drd2_31) rfl (l' := #[.val (.ref a1), .val (.int p1), .val (.ref ta), .val (.int (2 : Int32)), .val (.int (1 : Int32)), .val (.int v0)]) rfl ?_
        show Steps p.tables e below (T2.setTop (mkF m 34 #[.val (.ref a1), .val (.int p1), .val (.ref ta), .val (.int (2 : Int32)), .val (.int (1 : Int32)), .val (.int v0)] [])) _
        refine XS.goto X2.here hx rfl (pc0 := 34) (pc' := 11) rfl (hb hby own_drd2_34) (by decide) (by decide) ?_
        show Steps p.tables e below (T2.setTop (mkF m 11 #[.val (.ref a1), .val (.int p1), .val (.ref ta), .val (.int (2 : Int32)), .val (.int (1 : Int32)), .val (.int v0)] [])) _
        refine XS.iload X2.here hx rfl (hb hby own_drd2_11) rfl ?_
        show Steps p.tables e below (T2.setTop (mkF m 13 #[.val (.ref a1), .val (.int p1), .val (.ref ta), .val (.int (2 : Int32)), .val (.int (1 : Int32)), .val (.int v0)] [(.int (1 : Int32))])) _
        refine XS.iloadN X2.here hx rfl (hb hby own_drd2_13) rfl ?_
        show Steps p.tables e below (T2.setTop (mkF m 14 #[.val (.ref a1), .val (.int p1), .val (.ref ta), .val (.int (2 : Int32)), .val (.int (1 : Int32)), .val (.int v0)] [(.int (2 : Int32)), (.int (1 : Int32))])) _
        refine XS.icmpNo X2.here hx rfl (hb hby own_drd2_14) rfl (tlt (by decide : (1 : Int32) < (2 : Int32))).2.1 ?_
        show Steps p.tables e below (T2.setTop (mkF m 17 #[.val (.ref a1), .val (.int p1), .val (.ref ta), .val (.int (2 : Int32)), .val (.int (1 : Int32)), .val (.int v0)] [])) _
        refine XS.aloadN X2.here hx rfl (hb hby own_drd2_17) rfl rfl ?_
        show Steps p.tables e below (T2.setTop (mkF m 18 #[.val (.ref a1), .val (.int p1), .val (.ref ta), .val (.int (2 : Int32)), .val (.int (1 : Int32)), .val (.int v0)] [(.ref ta)])) _
        refine XS.iload X2.here hx rfl (hb hby own_drd2_18) rfl ?_
        exact kt)
    obtain ⟨cl12, Ar12, q12, S12, N_12, H12, G12⟩ := (id (V_ta))
    have hin12 : ¬ ((1 : Int32) < 0 ∨ cl12.slots.size ≤ ((1 : Int32)).toNatClampNeg) := inb_of S12 ⟨by decide, by decide⟩
    have hat12 : cl12.slots[((1 : Int32)).toNatClampNeg]? = some (.int v1) := Has.at H12 hin12 rfl
    have pre13 : Goes p e below s₁ (entryFrame m #[(.ref a1), (.int p1)] 6) T2 (mkF m 26 #[.val (.ref a1), .val (.int p1), .val (.ref ta), .val (.int (2 : Int32)), .val (.int (1 : Int32)), .val (.int v1)] [(.int p1), (.int v1)]) := fun t kt => pre11 t (by
        show Steps p.tables e below (T2.setTop (mkF m 20 #[.val (.ref a1), .val (.int p1), .val (.ref ta), .val (.int (2 : Int32)), .val (.int (1 : Int32)), .val (.int v0)] [(.int (1 : Int32)), (.ref ta)])) _
        refine X2.iaload hx (j := (1 : Int32)) (v := (.int v1)) (by rw [e2]; exact Ar12.1) (State.isArrayOf_alike hZ.alike Ar12.2.1) Ar12.2.2 hin12 hat12 (g := (mkF m 20 #[.val (.ref a1), .val (.int p1), .val (.ref ta), .val (.int (2 : Int32)), .val (.int (1 : Int32)), .val (.int v0)] [(.int (1 : Int32)), (.ref ta)])) rfl rfl (hb hby own_drd2_20) _ ?_
        show Steps p.tables e below (T2.setTop (mkF m 21 #[.val (.ref a1), .val (.int p1), .val (.ref ta), .val (.int (2 : Int32)), .val (.int (1 : Int32)), .val (.int v0)] [(.int v1)])) _
        refine XS.istore X2.here hx rfl (hb hby own_drd2_21) rfl (l' := #[.val (.ref a1), .val (.int p1), .val (.ref ta), .val (.int (2 : Int32)), .val (.int (1 : Int32)), .val (.int v1)]) rfl ?_
        show Steps p.tables e below (T2.setTop (mkF m 23 #[.val (.ref a1), .val (.int p1), .val (.ref ta), .val (.int (2 : Int32)), .val (.int (1 : Int32)), .val (.int v1)] [])) _
        refine XS.iload X2.here hx rfl (hb hby own_drd2_23) rfl ?_
        show Steps p.tables e below (T2.setTop (mkF m 25 #[.val (.ref a1), .val (.int p1), .val (.ref ta), .val (.int (2 : Int32)), .val (.int (1 : Int32)), .val (.int v1)] [(.int v1)])) _
        refine XS.iloadN X2.here hx rfl (hb hby own_drd2_25) rfl ?_
        exact kt)
    by_cases hc26_14 : v1 = p1
    · -- yes at pc 26: ftf
      have pre15 : Goes p e below s₁ (entryFrame m #[(.ref a1), (.int p1)] 6) T2 (mkF m 30 #[.val (.ref a1), .val (.int p1), .val (.ref ta), .val (.int (2 : Int32)), .val (.int (1 : Int32)), .val (.int v1)] [(.int (1 : Int32))]) := fun t kt => pre13 t (by
          show Steps p.tables e below (T2.setTop (mkF m 26 #[.val (.ref a1), .val (.int p1), .val (.ref ta), .val (.int (2 : Int32)), .val (.int (1 : Int32)), .val (.int v1)] [(.int p1), (.int v1)])) _
          refine XS.icmpNo X2.here hx rfl (hb hby own_drd2_26) rfl (teq hc26_14).2 ?_
          show Steps p.tables e below (T2.setTop (mkF m 29 #[.val (.ref a1), .val (.int p1), .val (.ref ta), .val (.int (2 : Int32)), .val (.int (1 : Int32)), .val (.int v1)] [])) _
          refine XS.iconst X2.here hx rfl (hb hby own_drd2_29) ?_
          exact kt)
      obtain ⟨fs, hr, hrun, hended, hW, hsame⟩ := X2.leave (v := some (.int (1 : Int32))) (fun h => by rw [Bd.returns] at h; cases h)
      refine ⟨_, _, pre15 _ ?_, hrun, hended, _, _, rfl, ?_, ⟨_, rfl⟩, hW, hsame.mono (by decide) (by decide)⟩
      · show Steps p.tables e below (T2.setTop (mkF m 30 #[.val (.ref a1), .val (.int p1), .val (.ref ta), .val (.int (2 : Int32)), .val (.int (1 : Int32)), .val (.int v1)] [(.int (1 : Int32))])) _
        exact retN X2 hx (t := .boolean) Bd.returns (by simp) (hb hby own_drd2_30) hr
      · show Q_own_reads2 Z a1 p1 ta ka v0 v1 r h0 n0 _ T2.heap _
        rw [e2]
        exact ⟨by rw [hrr]; simp [hc26_9, hc26_14], N0, rfl⟩
    · -- no at pc 26: ftf
      have pre16 : Goes p e below s₁ (entryFrame m #[(.ref a1), (.int p1)] 6) T2 (mkF m 38 #[.val (.ref a1), .val (.int p1), .val (.ref ta), .val (.int (2 : Int32)), .val (.int (2 : Int32)), .val (.int v1)] [(.int (0 : Int32))]) := fun t kt => pre13 t (by
          show Steps p.tables e below (T2.setTop (mkF m 26 #[.val (.ref a1), .val (.int p1), .val (.ref ta), .val (.int (2 : Int32)), .val (.int (1 : Int32)), .val (.int v1)] [(.int p1), (.int v1)])) _
          refine XS.icmpYes X2.here hx rfl (pc0 := 26) (pc' := 31) rfl (hb hby own_drd2_26) rfl (feq hc26_14).2 (by decide) (by decide) ?_
          show Steps p.tables e below (T2.setTop (mkF m 31 #[.val (.ref a1), .val (.int p1), .val (.ref ta), .val (.int (2 : Int32)), .val (.int (1 : Int32)), .val (.int v1)] [])) _
          refine XS.iinc X2.here hx rfl (hb hby own_drd2_31) rfl (l' := #[.val (.ref a1), .val (.int p1), .val (.ref ta), .val (.int (2 : Int32)), .val (.int (2 : Int32)), .val (.int v1)]) rfl ?_
          show Steps p.tables e below (T2.setTop (mkF m 34 #[.val (.ref a1), .val (.int p1), .val (.ref ta), .val (.int (2 : Int32)), .val (.int (2 : Int32)), .val (.int v1)] [])) _
          refine XS.goto X2.here hx rfl (pc0 := 34) (pc' := 11) rfl (hb hby own_drd2_34) (by decide) (by decide) ?_
          show Steps p.tables e below (T2.setTop (mkF m 11 #[.val (.ref a1), .val (.int p1), .val (.ref ta), .val (.int (2 : Int32)), .val (.int (2 : Int32)), .val (.int v1)] [])) _
          refine XS.iload X2.here hx rfl (hb hby own_drd2_11) rfl ?_
          show Steps p.tables e below (T2.setTop (mkF m 13 #[.val (.ref a1), .val (.int p1), .val (.ref ta), .val (.int (2 : Int32)), .val (.int (2 : Int32)), .val (.int v1)] [(.int (2 : Int32))])) _
          refine XS.iloadN X2.here hx rfl (hb hby own_drd2_13) rfl ?_
          show Steps p.tables e below (T2.setTop (mkF m 14 #[.val (.ref a1), .val (.int p1), .val (.ref ta), .val (.int (2 : Int32)), .val (.int (2 : Int32)), .val (.int v1)] [(.int (2 : Int32)), (.int (2 : Int32))])) _
          refine XS.icmpYes X2.here hx rfl (pc0 := 14) (pc' := 37) rfl (hb hby own_drd2_14) rfl (flt (by decide : ¬ ((2 : Int32) < (2 : Int32)))).2.1 (by decide) (by decide) ?_
          show Steps p.tables e below (T2.setTop (mkF m 37 #[.val (.ref a1), .val (.int p1), .val (.ref ta), .val (.int (2 : Int32)), .val (.int (2 : Int32)), .val (.int v1)] [])) _
          refine XS.iconst X2.here hx rfl (hb hby own_drd2_37) ?_
          exact kt)
      obtain ⟨fs, hr, hrun, hended, hW, hsame⟩ := X2.leave (v := some (.int (0 : Int32))) (fun h => by rw [Bd.returns] at h; cases h)
      refine ⟨_, _, pre16 _ ?_, hrun, hended, _, _, rfl, ?_, ⟨_, rfl⟩, hW, hsame.mono (by decide) (by decide)⟩
      · show Steps p.tables e below (T2.setTop (mkF m 38 #[.val (.ref a1), .val (.int p1), .val (.ref ta), .val (.int (2 : Int32)), .val (.int (2 : Int32)), .val (.int v1)] [(.int (0 : Int32))])) _
        exact retN X2 hx (t := .boolean) Bd.returns (by simp) (hb hby own_drd2_38) hr
      · show Q_own_reads2 Z a1 p1 ta ka v0 v1 r h0 n0 _ T2.heap _
        rw [e2]
        exact ⟨by rw [hrr]; simp [hc26_9, hc26_14], N0, rfl⟩
theorem own_drd3_0 : decode prog_3_method_2_code 0 = .ok (.aload_n 0, 1) := by decide +kernel
theorem own_drd3_1 : decode prog_3_method_2_code 1 = .ok (.getfield 19, 3) := by decide +kernel
theorem own_drd3_4 : decode prog_3_method_2_code 4 = .ok (.astore_n 2, 1) := by decide +kernel
theorem own_drd3_5 : decode prog_3_method_2_code 5 = .ok (.aload_n 2, 1) := by decide +kernel
theorem own_drd3_6 : decode prog_3_method_2_code 6 = .ok (.arraylength, 1) := by decide +kernel
theorem own_drd3_7 : decode prog_3_method_2_code 7 = .ok (.istore_n 3, 1) := by decide +kernel
theorem own_drd3_8 : decode prog_3_method_2_code 8 = .ok (.iconst 0, 1) := by decide +kernel
theorem own_drd3_9 : decode prog_3_method_2_code 9 = .ok (.istore 4, 2) := by decide +kernel
theorem own_drd3_11 : decode prog_3_method_2_code 11 = .ok (.iload 4, 2) := by decide +kernel
theorem own_drd3_13 : decode prog_3_method_2_code 13 = .ok (.iload_n 3, 1) := by decide +kernel
theorem own_drd3_14 : decode prog_3_method_2_code 14 = .ok (.if_icmp .ge 23, 3) := by decide +kernel
theorem own_drd3_17 : decode prog_3_method_2_code 17 = .ok (.aload_n 2, 1) := by decide +kernel
theorem own_drd3_18 : decode prog_3_method_2_code 18 = .ok (.iload 4, 2) := by decide +kernel
theorem own_drd3_20 : decode prog_3_method_2_code 20 = .ok (.iaload, 1) := by decide +kernel
theorem own_drd3_21 : decode prog_3_method_2_code 21 = .ok (.istore 5, 2) := by decide +kernel
theorem own_drd3_23 : decode prog_3_method_2_code 23 = .ok (.iload 5, 2) := by decide +kernel
theorem own_drd3_25 : decode prog_3_method_2_code 25 = .ok (.iload_n 1, 1) := by decide +kernel
theorem own_drd3_26 : decode prog_3_method_2_code 26 = .ok (.if_icmp .ne 5, 3) := by decide +kernel
theorem own_drd3_29 : decode prog_3_method_2_code 29 = .ok (.iconst 1, 1) := by decide +kernel
theorem own_drd3_30 : decode prog_3_method_2_code 30 = .ok (.ireturn, 1) := by decide +kernel
theorem own_drd3_31 : decode prog_3_method_2_code 31 = .ok (.iinc 4 1, 3) := by decide +kernel
theorem own_drd3_34 : decode prog_3_method_2_code 34 = .ok (.goto (-23), 3) := by decide +kernel
theorem own_drd3_37 : decode prog_3_method_2_code 37 = .ok (.iconst 0, 1) := by decide +kernel
theorem own_drd3_38 : decode prog_3_method_2_code 38 = .ok (.ireturn, 1) := by decide +kernel
theorem own_pn_own_reads3 : plainName "com/example/ferry/ferry/FormatVersions" = true := by first | (simp [plainName, overriddenIn]; done) | decide +kernel
theorem own_ef_own_reads3 (m : MethodId) (x0 : Addr) (x1 : Int32) : entryFrame m #[(.ref x0), (.int x1)] 6 = mkF m 0 #[.val (.ref x0), .val (.int x1), .unset, .unset, .unset, .unset] [] := by first | (simp [entryFrame, mkF, argsToLocals, Value.category]; done) | rfl
def Q_own_reads3 (Z : State) (a1 : Addr) (p1 : Int32) (ta : Addr) (ka : ClassId) (v0 : Int32) (v1 : Int32) (v2 : Int32) (r : Int32) (h0 : Heap) (n0 : Nat) (v : Option Value) (h : Heap) (L : List Loc) : Prop := v = some (.int r) ∧ Fr n0 L ∧ h = h0
set_option maxRecDepth 65536 in
set_option maxHeartbeats 40000000 in
theorem own_reads3 (l : Launch) (Z : State) (a0 : Array Value) (hw : ∀ d ∈ tables_1, d.before a0 Z = true) (ws : List Jvm.Cond) (a1 : Addr) (p1 : Int32) (ta : Addr) (ka : ClassId) (v0 : Int32) (v1 : Int32) (v2 : Int32) (r : Int32) (h0 : Heap) (n0 : Nat) (Z0 : n0 ≤ h0.size) (F_a1 : Fld Z h0 a1 "com/example/ferry/ferry/FormatVersions" "versions" "[I" (.ref ta)) (V_ta : Arv Z h0 ta ka .int (3 : Int32) [(.int v0), (.int v1), (.int v2)] (.int (0 : Int32))) (hrr : r = if (v0 = p1 ∨ v1 = p1 ∨ v2 = p1) then 1 else 0) :
    MetFree l (⟨"com/example/ferry/ferry/FormatVersions", "reads", "(I)Z"⟩ : MethodName) (head1 (Jvm.Cond.code (⟨"com/example/ferry/ferry/FormatVersions", "reads", "(I)Z"⟩ : MethodName) prog_3_method_2_code 6 (some .boolean) :: ws) ({ frames := 0, cells := 0, slots := 0, locals := 0 } : Room)) (fun a U => a = #[(.ref a1), (.int p1)] ∧ Z.Warmed39 U.vm ∧ U.heap = h0) (fun _ _ _ _ _ => True) (fun _ U o U' => ∃ v L, o = .returned v ∧ Q_own_reads3 Z a1 p1 ta ka v0 v1 v2 r h0 n0 v U'.heap L ∧ FrameEnd U o U' L ({ frames := 0, cells := 0, slots := 0, locals := 0 } : Room).cells ({ frames := 0, cells := 0, slots := 0, locals := 0 } : Room).slots) := by
  refine MetFree.of_bodySF (plainFor_of_name own_pn_own_reads3) hisR ?_
  intro p e s m args below meth c s₁ Bd hml0 hP hK
  obtain ⟨rfl, hZ, hh⟩ := hP
  have hx := Bd.exec
  have hby := Bd.bytes
  have hml : c.maxLocals = 6 := hml0
  have hown : s.vm.findClass "com/example/ferry/ferry/FormatVersions" = some m.cls := findClass_of_methodNamed Bd.named
  have hnm := (name_of_methodNamed Bd.named Bd.method).1
  have X0 : Stand p l e ({ frames := 0, cells := 0, slots := 0, locals := 0 } : Room) s m #[(.ref a1), (.int p1)] below meth c s₁ [] 0 0 := Stand.of_body Bd
  have e0 : s₁.heap = h0 := by rw [← hh, Bd.state]; rfl
  have N0 := Fr.nil n0
  have pre0 : Goes p e below s₁ (entryFrame m #[(.ref a1), (.int p1)] 6) s₁ (mkF m 0 #[.val (.ref a1), .val (.int p1), .unset, .unset, .unset, .unset] []) := fun t k => castTop (own_ef_own_reads3 m a1 p1) k
  have pre1 : Goes p e below s₁ (entryFrame m #[(.ref a1), (.int p1)] 6) s₁ (mkF m 1 #[.val (.ref a1), .val (.int p1), .unset, .unset, .unset, .unset] [(.ref a1)]) := fun t kt => pre0 t (by
      show Steps p.tables e below (s₁.setTop (mkF m 0 #[.val (.ref a1), .val (.int p1), .unset, .unset, .unset, .unset] [])) _
      refine XS.aloadN X0.here hx rfl (hb hby own_drd3_0) rfl rfl ?_
      exact kt)
  obtain ⟨T2, X2, e2, st2⟩ := getF X0 hx hZ hown (host := "") (Or.inl (hw _ (List.mem_of_getElem? (i := 36) rfl))) Via.refl e0 F_a1 (g := (mkF m 1 #[.val (.ref a1), .val (.int p1), .unset, .unset, .unset, .unset] [(.ref a1)])) rfl rfl (hb hby own_drd3_1)
  have pre3 : Goes p e below s₁ (entryFrame m #[(.ref a1), (.int p1)] 6) T2 (mkF m 4 #[.val (.ref a1), .val (.int p1), .unset, .unset, .unset, .unset] [(.ref ta)]) := fun t kt => pre1 t (st2 t kt)
  have pre4 : Goes p e below s₁ (entryFrame m #[(.ref a1), (.int p1)] 6) T2 (mkF m 6 #[.val (.ref a1), .val (.int p1), .val (.ref ta), .unset, .unset, .unset] [(.ref ta)]) := fun t kt => pre3 t (by
      show Steps p.tables e below (T2.setTop (mkF m 4 #[.val (.ref a1), .val (.int p1), .unset, .unset, .unset, .unset] [(.ref ta)])) _
      refine XS.astoreN X2.here hx rfl (hb hby own_drd3_4) rfl rfl (l' := #[.val (.ref a1), .val (.int p1), .val (.ref ta), .unset, .unset, .unset]) rfl ?_
      show Steps p.tables e below (T2.setTop (mkF m 5 #[.val (.ref a1), .val (.int p1), .val (.ref ta), .unset, .unset, .unset] [])) _
      refine XS.aloadN X2.here hx rfl (hb hby own_drd3_5) rfl rfl ?_
      exact kt)
  obtain ⟨cl5, Ar5, q5, S5, N_5, H5, G5⟩ := (id (V_ta))
  have pre6 : Goes p e below s₁ (entryFrame m #[(.ref a1), (.int p1)] 6) T2 (mkF m 20 #[.val (.ref a1), .val (.int p1), .val (.ref ta), .val (.int (3 : Int32)), .val (.int (0 : Int32)), .unset] [(.int (0 : Int32)), (.ref ta)]) := fun t kt => pre4 t (by
      show Steps p.tables e below (T2.setTop (mkF m 6 #[.val (.ref a1), .val (.int p1), .val (.ref ta), .unset, .unset, .unset] [(.ref ta)])) _
      refine X2.arraylength hx (by rw [e2]; exact Ar5.1) (State.isArrayOf_alike hZ.alike Ar5.2.1) (g := (mkF m 6 #[.val (.ref a1), .val (.int p1), .val (.ref ta), .unset, .unset, .unset] [(.ref ta)])) rfl rfl (hb hby own_drd3_6) _ ?_
      rw [len_of S5 N_5]
      show Steps p.tables e below (T2.setTop (mkF m 7 #[.val (.ref a1), .val (.int p1), .val (.ref ta), .unset, .unset, .unset] [(.int (3 : Int32))])) _
      refine XS.istoreN X2.here hx rfl (hb hby own_drd3_7) rfl (l' := #[.val (.ref a1), .val (.int p1), .val (.ref ta), .val (.int (3 : Int32)), .unset, .unset]) rfl ?_
      show Steps p.tables e below (T2.setTop (mkF m 8 #[.val (.ref a1), .val (.int p1), .val (.ref ta), .val (.int (3 : Int32)), .unset, .unset] [])) _
      refine XS.iconst X2.here hx rfl (hb hby own_drd3_8) ?_
      show Steps p.tables e below (T2.setTop (mkF m 9 #[.val (.ref a1), .val (.int p1), .val (.ref ta), .val (.int (3 : Int32)), .unset, .unset] [(.int (0 : Int32))])) _
      refine XS.istore X2.here hx rfl (hb hby own_drd3_9) rfl (l' := #[.val (.ref a1), .val (.int p1), .val (.ref ta), .val (.int (3 : Int32)), .val (.int (0 : Int32)), .unset]) rfl ?_
      show Steps p.tables e below (T2.setTop (mkF m 11 #[.val (.ref a1), .val (.int p1), .val (.ref ta), .val (.int (3 : Int32)), .val (.int (0 : Int32)), .unset] [])) _
      refine XS.iload X2.here hx rfl (hb hby own_drd3_11) rfl ?_
      show Steps p.tables e below (T2.setTop (mkF m 13 #[.val (.ref a1), .val (.int p1), .val (.ref ta), .val (.int (3 : Int32)), .val (.int (0 : Int32)), .unset] [(.int (0 : Int32))])) _
      refine XS.iloadN X2.here hx rfl (hb hby own_drd3_13) rfl ?_
      show Steps p.tables e below (T2.setTop (mkF m 14 #[.val (.ref a1), .val (.int p1), .val (.ref ta), .val (.int (3 : Int32)), .val (.int (0 : Int32)), .unset] [(.int (3 : Int32)), (.int (0 : Int32))])) _
      refine XS.icmpNo X2.here hx rfl (hb hby own_drd3_14) rfl (tlt (by decide : (0 : Int32) < (3 : Int32))).2.1 ?_
      show Steps p.tables e below (T2.setTop (mkF m 17 #[.val (.ref a1), .val (.int p1), .val (.ref ta), .val (.int (3 : Int32)), .val (.int (0 : Int32)), .unset] [])) _
      refine XS.aloadN X2.here hx rfl (hb hby own_drd3_17) rfl rfl ?_
      show Steps p.tables e below (T2.setTop (mkF m 18 #[.val (.ref a1), .val (.int p1), .val (.ref ta), .val (.int (3 : Int32)), .val (.int (0 : Int32)), .unset] [(.ref ta)])) _
      refine XS.iload X2.here hx rfl (hb hby own_drd3_18) rfl ?_
      exact kt)
  obtain ⟨cl7, Ar7, q7, S7, N_7, H7, G7⟩ := (id (V_ta))
  have hin7 : ¬ ((0 : Int32) < 0 ∨ cl7.slots.size ≤ ((0 : Int32)).toNatClampNeg) := inb_of S7 ⟨by decide, by decide⟩
  have hat7 : cl7.slots[((0 : Int32)).toNatClampNeg]? = some (.int v0) := Has.at H7 hin7 rfl
  have pre8 : Goes p e below s₁ (entryFrame m #[(.ref a1), (.int p1)] 6) T2 (mkF m 26 #[.val (.ref a1), .val (.int p1), .val (.ref ta), .val (.int (3 : Int32)), .val (.int (0 : Int32)), .val (.int v0)] [(.int p1), (.int v0)]) := fun t kt => pre6 t (by
      show Steps p.tables e below (T2.setTop (mkF m 20 #[.val (.ref a1), .val (.int p1), .val (.ref ta), .val (.int (3 : Int32)), .val (.int (0 : Int32)), .unset] [(.int (0 : Int32)), (.ref ta)])) _
      refine X2.iaload hx (j := (0 : Int32)) (v := (.int v0)) (by rw [e2]; exact Ar7.1) (State.isArrayOf_alike hZ.alike Ar7.2.1) Ar7.2.2 hin7 hat7 (g := (mkF m 20 #[.val (.ref a1), .val (.int p1), .val (.ref ta), .val (.int (3 : Int32)), .val (.int (0 : Int32)), .unset] [(.int (0 : Int32)), (.ref ta)])) rfl rfl (hb hby own_drd3_20) _ ?_
      show Steps p.tables e below (T2.setTop (mkF m 21 #[.val (.ref a1), .val (.int p1), .val (.ref ta), .val (.int (3 : Int32)), .val (.int (0 : Int32)), .unset] [(.int v0)])) _
      refine XS.istore X2.here hx rfl (hb hby own_drd3_21) rfl (l' := #[.val (.ref a1), .val (.int p1), .val (.ref ta), .val (.int (3 : Int32)), .val (.int (0 : Int32)), .val (.int v0)]) rfl ?_
      show Steps p.tables e below (T2.setTop (mkF m 23 #[.val (.ref a1), .val (.int p1), .val (.ref ta), .val (.int (3 : Int32)), .val (.int (0 : Int32)), .val (.int v0)] [])) _
      refine XS.iload X2.here hx rfl (hb hby own_drd3_23) rfl ?_
      show Steps p.tables e below (T2.setTop (mkF m 25 #[.val (.ref a1), .val (.int p1), .val (.ref ta), .val (.int (3 : Int32)), .val (.int (0 : Int32)), .val (.int v0)] [(.int v0)])) _
      refine XS.iloadN X2.here hx rfl (hb hby own_drd3_25) rfl ?_
      exact kt)
  by_cases hc26_9 : v0 = p1
  · -- yes at pc 26: f
    have pre10 : Goes p e below s₁ (entryFrame m #[(.ref a1), (.int p1)] 6) T2 (mkF m 30 #[.val (.ref a1), .val (.int p1), .val (.ref ta), .val (.int (3 : Int32)), .val (.int (0 : Int32)), .val (.int v0)] [(.int (1 : Int32))]) := fun t kt => pre8 t (by
        show Steps p.tables e below (T2.setTop (mkF m 26 #[.val (.ref a1), .val (.int p1), .val (.ref ta), .val (.int (3 : Int32)), .val (.int (0 : Int32)), .val (.int v0)] [(.int p1), (.int v0)])) _
        refine XS.icmpNo X2.here hx rfl (hb hby own_drd3_26) rfl (teq hc26_9).2 ?_
        show Steps p.tables e below (T2.setTop (mkF m 29 #[.val (.ref a1), .val (.int p1), .val (.ref ta), .val (.int (3 : Int32)), .val (.int (0 : Int32)), .val (.int v0)] [])) _
        refine XS.iconst X2.here hx rfl (hb hby own_drd3_29) ?_
        exact kt)
    obtain ⟨fs, hr, hrun, hended, hW, hsame⟩ := X2.leave (v := some (.int (1 : Int32))) (fun h => by rw [Bd.returns] at h; cases h)
    refine ⟨_, _, pre10 _ ?_, hrun, hended, _, _, rfl, ?_, ⟨_, rfl⟩, hW, hsame.mono (by decide) (by decide)⟩
    · show Steps p.tables e below (T2.setTop (mkF m 30 #[.val (.ref a1), .val (.int p1), .val (.ref ta), .val (.int (3 : Int32)), .val (.int (0 : Int32)), .val (.int v0)] [(.int (1 : Int32))])) _
      exact retN X2 hx (t := .boolean) Bd.returns (by simp) (hb hby own_drd3_30) hr
    · show Q_own_reads3 Z a1 p1 ta ka v0 v1 v2 r h0 n0 _ T2.heap _
      rw [e2]
      exact ⟨by rw [hrr]; simp [hc26_9], N0, rfl⟩
  · -- no at pc 26: f
    have pre11 : Goes p e below s₁ (entryFrame m #[(.ref a1), (.int p1)] 6) T2 (mkF m 20 #[.val (.ref a1), .val (.int p1), .val (.ref ta), .val (.int (3 : Int32)), .val (.int (1 : Int32)), .val (.int v0)] [(.int (1 : Int32)), (.ref ta)]) := fun t kt => pre8 t (by
        show Steps p.tables e below (T2.setTop (mkF m 26 #[.val (.ref a1), .val (.int p1), .val (.ref ta), .val (.int (3 : Int32)), .val (.int (0 : Int32)), .val (.int v0)] [(.int p1), (.int v0)])) _
        refine XS.icmpYes X2.here hx rfl (pc0 := 26) (pc' := 31) rfl (hb hby own_drd3_26) rfl (feq hc26_9).2 (by decide) (by decide) ?_
        show Steps p.tables e below (T2.setTop (mkF m 31 #[.val (.ref a1), .val (.int p1), .val (.ref ta), .val (.int (3 : Int32)), .val (.int (0 : Int32)), .val (.int v0)] [])) _
        refine XS.iinc X2.here hx rfl (hb hby own_drd3_31) rfl (l' := #[.val (.ref a1), .val (.int p1), .val (.ref ta), .val (.int (3 : Int32)), .val (.int (1 : Int32)), .val (.int v0)]) rfl ?_
        show Steps p.tables e below (T2.setTop (mkF m 34 #[.val (.ref a1), .val (.int p1), .val (.ref ta), .val (.int (3 : Int32)), .val (.int (1 : Int32)), .val (.int v0)] [])) _
        refine XS.goto X2.here hx rfl (pc0 := 34) (pc' := 11) rfl (hb hby own_drd3_34) (by decide) (by decide) ?_
        show Steps p.tables e below (T2.setTop (mkF m 11 #[.val (.ref a1), .val (.int p1), .val (.ref ta), .val (.int (3 : Int32)), .val (.int (1 : Int32)), .val (.int v0)] [])) _
        refine XS.iload X2.here hx rfl (hb hby own_drd3_11) rfl ?_
        show Steps p.tables e below (T2.setTop (mkF m 13 #[.val (.ref a1), .val (.int p1), .val (.ref ta), .val (.int (3 : Int32)), .val (.int (1 : Int32)), .val (.int v0)] [(.int (1 : Int32))])) _
        refine XS.iloadN X2.here hx rfl (hb hby own_drd3_13) rfl ?_
        show Steps p.tables e below (T2.setTop (mkF m 14 #[.val (.ref a1), .val (.int p1), .val (.ref ta), .val (.int (3 : Int32)), .val (.int (1 : Int32)), .val (.int v0)] [(.int (3 : Int32)), (.int (1 : Int32))])) _
        refine XS.icmpNo X2.here hx rfl (hb hby own_drd3_14) rfl (tlt (by decide : (1 : Int32) < (3 : Int32))).2.1 ?_
        show Steps p.tables e below (T2.setTop (mkF m 17 #[.val (.ref a1), .val (.int p1), .val (.ref ta), .val (.int (3 : Int32)), .val (.int (1 : Int32)), .val (.int v0)] [])) _
        refine XS.aloadN X2.here hx rfl (hb hby own_drd3_17) rfl rfl ?_
        show Steps p.tables e below (T2.setTop (mkF m 18 #[.val (.ref a1), .val (.int p1), .val (.ref ta), .val (.int (3 : Int32)), .val (.int (1 : Int32)), .val (.int v0)] [(.ref ta)])) _
        refine XS.iload X2.here hx rfl (hb hby own_drd3_18) rfl ?_
        exact kt)
    obtain ⟨cl12, Ar12, q12, S12, N_12, H12, G12⟩ := (id (V_ta))
    have hin12 : ¬ ((1 : Int32) < 0 ∨ cl12.slots.size ≤ ((1 : Int32)).toNatClampNeg) := inb_of S12 ⟨by decide, by decide⟩
    have hat12 : cl12.slots[((1 : Int32)).toNatClampNeg]? = some (.int v1) := Has.at H12 hin12 rfl
    have pre13 : Goes p e below s₁ (entryFrame m #[(.ref a1), (.int p1)] 6) T2 (mkF m 26 #[.val (.ref a1), .val (.int p1), .val (.ref ta), .val (.int (3 : Int32)), .val (.int (1 : Int32)), .val (.int v1)] [(.int p1), (.int v1)]) := fun t kt => pre11 t (by
        show Steps p.tables e below (T2.setTop (mkF m 20 #[.val (.ref a1), .val (.int p1), .val (.ref ta), .val (.int (3 : Int32)), .val (.int (1 : Int32)), .val (.int v0)] [(.int (1 : Int32)), (.ref ta)])) _
        refine X2.iaload hx (j := (1 : Int32)) (v := (.int v1)) (by rw [e2]; exact Ar12.1) (State.isArrayOf_alike hZ.alike Ar12.2.1) Ar12.2.2 hin12 hat12 (g := (mkF m 20 #[.val (.ref a1), .val (.int p1), .val (.ref ta), .val (.int (3 : Int32)), .val (.int (1 : Int32)), .val (.int v0)] [(.int (1 : Int32)), (.ref ta)])) rfl rfl (hb hby own_drd3_20) _ ?_
        show Steps p.tables e below (T2.setTop (mkF m 21 #[.val (.ref a1), .val (.int p1), .val (.ref ta), .val (.int (3 : Int32)), .val (.int (1 : Int32)), .val (.int v0)] [(.int v1)])) _
        refine XS.istore X2.here hx rfl (hb hby own_drd3_21) rfl (l' := #[.val (.ref a1), .val (.int p1), .val (.ref ta), .val (.int (3 : Int32)), .val (.int (1 : Int32)), .val (.int v1)]) rfl ?_
        show Steps p.tables e below (T2.setTop (mkF m 23 #[.val (.ref a1), .val (.int p1), .val (.ref ta), .val (.int (3 : Int32)), .val (.int (1 : Int32)), .val (.int v1)] [])) _
        refine XS.iload X2.here hx rfl (hb hby own_drd3_23) rfl ?_
        show Steps p.tables e below (T2.setTop (mkF m 25 #[.val (.ref a1), .val (.int p1), .val (.ref ta), .val (.int (3 : Int32)), .val (.int (1 : Int32)), .val (.int v1)] [(.int v1)])) _
        refine XS.iloadN X2.here hx rfl (hb hby own_drd3_25) rfl ?_
        exact kt)
    by_cases hc26_14 : v1 = p1
    · -- yes at pc 26: ftf
      have pre15 : Goes p e below s₁ (entryFrame m #[(.ref a1), (.int p1)] 6) T2 (mkF m 30 #[.val (.ref a1), .val (.int p1), .val (.ref ta), .val (.int (3 : Int32)), .val (.int (1 : Int32)), .val (.int v1)] [(.int (1 : Int32))]) := fun t kt => pre13 t (by
          show Steps p.tables e below (T2.setTop (mkF m 26 #[.val (.ref a1), .val (.int p1), .val (.ref ta), .val (.int (3 : Int32)), .val (.int (1 : Int32)), .val (.int v1)] [(.int p1), (.int v1)])) _
          refine XS.icmpNo X2.here hx rfl (hb hby own_drd3_26) rfl (teq hc26_14).2 ?_
          show Steps p.tables e below (T2.setTop (mkF m 29 #[.val (.ref a1), .val (.int p1), .val (.ref ta), .val (.int (3 : Int32)), .val (.int (1 : Int32)), .val (.int v1)] [])) _
          refine XS.iconst X2.here hx rfl (hb hby own_drd3_29) ?_
          exact kt)
      obtain ⟨fs, hr, hrun, hended, hW, hsame⟩ := X2.leave (v := some (.int (1 : Int32))) (fun h => by rw [Bd.returns] at h; cases h)
      refine ⟨_, _, pre15 _ ?_, hrun, hended, _, _, rfl, ?_, ⟨_, rfl⟩, hW, hsame.mono (by decide) (by decide)⟩
      · show Steps p.tables e below (T2.setTop (mkF m 30 #[.val (.ref a1), .val (.int p1), .val (.ref ta), .val (.int (3 : Int32)), .val (.int (1 : Int32)), .val (.int v1)] [(.int (1 : Int32))])) _
        exact retN X2 hx (t := .boolean) Bd.returns (by simp) (hb hby own_drd3_30) hr
      · show Q_own_reads3 Z a1 p1 ta ka v0 v1 v2 r h0 n0 _ T2.heap _
        rw [e2]
        exact ⟨by rw [hrr]; simp [hc26_9, hc26_14], N0, rfl⟩
    · -- no at pc 26: ftf
      have pre16 : Goes p e below s₁ (entryFrame m #[(.ref a1), (.int p1)] 6) T2 (mkF m 20 #[.val (.ref a1), .val (.int p1), .val (.ref ta), .val (.int (3 : Int32)), .val (.int (2 : Int32)), .val (.int v1)] [(.int (2 : Int32)), (.ref ta)]) := fun t kt => pre13 t (by
          show Steps p.tables e below (T2.setTop (mkF m 26 #[.val (.ref a1), .val (.int p1), .val (.ref ta), .val (.int (3 : Int32)), .val (.int (1 : Int32)), .val (.int v1)] [(.int p1), (.int v1)])) _
          refine XS.icmpYes X2.here hx rfl (pc0 := 26) (pc' := 31) rfl (hb hby own_drd3_26) rfl (feq hc26_14).2 (by decide) (by decide) ?_
          show Steps p.tables e below (T2.setTop (mkF m 31 #[.val (.ref a1), .val (.int p1), .val (.ref ta), .val (.int (3 : Int32)), .val (.int (1 : Int32)), .val (.int v1)] [])) _
          refine XS.iinc X2.here hx rfl (hb hby own_drd3_31) rfl (l' := #[.val (.ref a1), .val (.int p1), .val (.ref ta), .val (.int (3 : Int32)), .val (.int (2 : Int32)), .val (.int v1)]) rfl ?_
          show Steps p.tables e below (T2.setTop (mkF m 34 #[.val (.ref a1), .val (.int p1), .val (.ref ta), .val (.int (3 : Int32)), .val (.int (2 : Int32)), .val (.int v1)] [])) _
          refine XS.goto X2.here hx rfl (pc0 := 34) (pc' := 11) rfl (hb hby own_drd3_34) (by decide) (by decide) ?_
          show Steps p.tables e below (T2.setTop (mkF m 11 #[.val (.ref a1), .val (.int p1), .val (.ref ta), .val (.int (3 : Int32)), .val (.int (2 : Int32)), .val (.int v1)] [])) _
          refine XS.iload X2.here hx rfl (hb hby own_drd3_11) rfl ?_
          show Steps p.tables e below (T2.setTop (mkF m 13 #[.val (.ref a1), .val (.int p1), .val (.ref ta), .val (.int (3 : Int32)), .val (.int (2 : Int32)), .val (.int v1)] [(.int (2 : Int32))])) _
          refine XS.iloadN X2.here hx rfl (hb hby own_drd3_13) rfl ?_
          show Steps p.tables e below (T2.setTop (mkF m 14 #[.val (.ref a1), .val (.int p1), .val (.ref ta), .val (.int (3 : Int32)), .val (.int (2 : Int32)), .val (.int v1)] [(.int (3 : Int32)), (.int (2 : Int32))])) _
          refine XS.icmpNo X2.here hx rfl (hb hby own_drd3_14) rfl (tlt (by decide : (2 : Int32) < (3 : Int32))).2.1 ?_
          show Steps p.tables e below (T2.setTop (mkF m 17 #[.val (.ref a1), .val (.int p1), .val (.ref ta), .val (.int (3 : Int32)), .val (.int (2 : Int32)), .val (.int v1)] [])) _
          refine XS.aloadN X2.here hx rfl (hb hby own_drd3_17) rfl rfl ?_
          show Steps p.tables e below (T2.setTop (mkF m 18 #[.val (.ref a1), .val (.int p1), .val (.ref ta), .val (.int (3 : Int32)), .val (.int (2 : Int32)), .val (.int v1)] [(.ref ta)])) _
          refine XS.iload X2.here hx rfl (hb hby own_drd3_18) rfl ?_
          exact kt)
      obtain ⟨cl17, Ar17, q17, S17, N_17, H17, G17⟩ := (id (V_ta))
      have hin17 : ¬ ((2 : Int32) < 0 ∨ cl17.slots.size ≤ ((2 : Int32)).toNatClampNeg) := inb_of S17 ⟨by decide, by decide⟩
      have hat17 : cl17.slots[((2 : Int32)).toNatClampNeg]? = some (.int v2) := Has.at H17 hin17 rfl
      have pre18 : Goes p e below s₁ (entryFrame m #[(.ref a1), (.int p1)] 6) T2 (mkF m 26 #[.val (.ref a1), .val (.int p1), .val (.ref ta), .val (.int (3 : Int32)), .val (.int (2 : Int32)), .val (.int v2)] [(.int p1), (.int v2)]) := fun t kt => pre16 t (by
          show Steps p.tables e below (T2.setTop (mkF m 20 #[.val (.ref a1), .val (.int p1), .val (.ref ta), .val (.int (3 : Int32)), .val (.int (2 : Int32)), .val (.int v1)] [(.int (2 : Int32)), (.ref ta)])) _
          refine X2.iaload hx (j := (2 : Int32)) (v := (.int v2)) (by rw [e2]; exact Ar17.1) (State.isArrayOf_alike hZ.alike Ar17.2.1) Ar17.2.2 hin17 hat17 (g := (mkF m 20 #[.val (.ref a1), .val (.int p1), .val (.ref ta), .val (.int (3 : Int32)), .val (.int (2 : Int32)), .val (.int v1)] [(.int (2 : Int32)), (.ref ta)])) rfl rfl (hb hby own_drd3_20) _ ?_
          show Steps p.tables e below (T2.setTop (mkF m 21 #[.val (.ref a1), .val (.int p1), .val (.ref ta), .val (.int (3 : Int32)), .val (.int (2 : Int32)), .val (.int v1)] [(.int v2)])) _
          refine XS.istore X2.here hx rfl (hb hby own_drd3_21) rfl (l' := #[.val (.ref a1), .val (.int p1), .val (.ref ta), .val (.int (3 : Int32)), .val (.int (2 : Int32)), .val (.int v2)]) rfl ?_
          show Steps p.tables e below (T2.setTop (mkF m 23 #[.val (.ref a1), .val (.int p1), .val (.ref ta), .val (.int (3 : Int32)), .val (.int (2 : Int32)), .val (.int v2)] [])) _
          refine XS.iload X2.here hx rfl (hb hby own_drd3_23) rfl ?_
          show Steps p.tables e below (T2.setTop (mkF m 25 #[.val (.ref a1), .val (.int p1), .val (.ref ta), .val (.int (3 : Int32)), .val (.int (2 : Int32)), .val (.int v2)] [(.int v2)])) _
          refine XS.iloadN X2.here hx rfl (hb hby own_drd3_25) rfl ?_
          exact kt)
      by_cases hc26_19 : v2 = p1
      · -- yes at pc 26: ftftf
        have pre20 : Goes p e below s₁ (entryFrame m #[(.ref a1), (.int p1)] 6) T2 (mkF m 30 #[.val (.ref a1), .val (.int p1), .val (.ref ta), .val (.int (3 : Int32)), .val (.int (2 : Int32)), .val (.int v2)] [(.int (1 : Int32))]) := fun t kt => pre18 t (by
            show Steps p.tables e below (T2.setTop (mkF m 26 #[.val (.ref a1), .val (.int p1), .val (.ref ta), .val (.int (3 : Int32)), .val (.int (2 : Int32)), .val (.int v2)] [(.int p1), (.int v2)])) _
            refine XS.icmpNo X2.here hx rfl (hb hby own_drd3_26) rfl (teq hc26_19).2 ?_
            show Steps p.tables e below (T2.setTop (mkF m 29 #[.val (.ref a1), .val (.int p1), .val (.ref ta), .val (.int (3 : Int32)), .val (.int (2 : Int32)), .val (.int v2)] [])) _
            refine XS.iconst X2.here hx rfl (hb hby own_drd3_29) ?_
            exact kt)
        obtain ⟨fs, hr, hrun, hended, hW, hsame⟩ := X2.leave (v := some (.int (1 : Int32))) (fun h => by rw [Bd.returns] at h; cases h)
        refine ⟨_, _, pre20 _ ?_, hrun, hended, _, _, rfl, ?_, ⟨_, rfl⟩, hW, hsame.mono (by decide) (by decide)⟩
        · show Steps p.tables e below (T2.setTop (mkF m 30 #[.val (.ref a1), .val (.int p1), .val (.ref ta), .val (.int (3 : Int32)), .val (.int (2 : Int32)), .val (.int v2)] [(.int (1 : Int32))])) _
          exact retN X2 hx (t := .boolean) Bd.returns (by simp) (hb hby own_drd3_30) hr
        · show Q_own_reads3 Z a1 p1 ta ka v0 v1 v2 r h0 n0 _ T2.heap _
          rw [e2]
          exact ⟨by rw [hrr]; simp [hc26_9, hc26_14, hc26_19], N0, rfl⟩
      · -- no at pc 26: ftftf
        have pre21 : Goes p e below s₁ (entryFrame m #[(.ref a1), (.int p1)] 6) T2 (mkF m 38 #[.val (.ref a1), .val (.int p1), .val (.ref ta), .val (.int (3 : Int32)), .val (.int (3 : Int32)), .val (.int v2)] [(.int (0 : Int32))]) := fun t kt => pre18 t (by
            show Steps p.tables e below (T2.setTop (mkF m 26 #[.val (.ref a1), .val (.int p1), .val (.ref ta), .val (.int (3 : Int32)), .val (.int (2 : Int32)), .val (.int v2)] [(.int p1), (.int v2)])) _
            refine XS.icmpYes X2.here hx rfl (pc0 := 26) (pc' := 31) rfl (hb hby own_drd3_26) rfl (feq hc26_19).2 (by decide) (by decide) ?_
            show Steps p.tables e below (T2.setTop (mkF m 31 #[.val (.ref a1), .val (.int p1), .val (.ref ta), .val (.int (3 : Int32)), .val (.int (2 : Int32)), .val (.int v2)] [])) _
            refine XS.iinc X2.here hx rfl (hb hby own_drd3_31) rfl (l' := #[.val (.ref a1), .val (.int p1), .val (.ref ta), .val (.int (3 : Int32)), .val (.int (3 : Int32)), .val (.int v2)]) rfl ?_
            show Steps p.tables e below (T2.setTop (mkF m 34 #[.val (.ref a1), .val (.int p1), .val (.ref ta), .val (.int (3 : Int32)), .val (.int (3 : Int32)), .val (.int v2)] [])) _
            refine XS.goto X2.here hx rfl (pc0 := 34) (pc' := 11) rfl (hb hby own_drd3_34) (by decide) (by decide) ?_
            show Steps p.tables e below (T2.setTop (mkF m 11 #[.val (.ref a1), .val (.int p1), .val (.ref ta), .val (.int (3 : Int32)), .val (.int (3 : Int32)), .val (.int v2)] [])) _
            refine XS.iload X2.here hx rfl (hb hby own_drd3_11) rfl ?_
            show Steps p.tables e below (T2.setTop (mkF m 13 #[.val (.ref a1), .val (.int p1), .val (.ref ta), .val (.int (3 : Int32)), .val (.int (3 : Int32)), .val (.int v2)] [(.int (3 : Int32))])) _
            refine XS.iloadN X2.here hx rfl (hb hby own_drd3_13) rfl ?_
            show Steps p.tables e below (T2.setTop (mkF m 14 #[.val (.ref a1), .val (.int p1), .val (.ref ta), .val (.int (3 : Int32)), .val (.int (3 : Int32)), .val (.int v2)] [(.int (3 : Int32)), (.int (3 : Int32))])) _
            refine XS.icmpYes X2.here hx rfl (pc0 := 14) (pc' := 37) rfl (hb hby own_drd3_14) rfl (flt (by decide : ¬ ((3 : Int32) < (3 : Int32)))).2.1 (by decide) (by decide) ?_
            show Steps p.tables e below (T2.setTop (mkF m 37 #[.val (.ref a1), .val (.int p1), .val (.ref ta), .val (.int (3 : Int32)), .val (.int (3 : Int32)), .val (.int v2)] [])) _
            refine XS.iconst X2.here hx rfl (hb hby own_drd3_37) ?_
            exact kt)
        obtain ⟨fs, hr, hrun, hended, hW, hsame⟩ := X2.leave (v := some (.int (0 : Int32))) (fun h => by rw [Bd.returns] at h; cases h)
        refine ⟨_, _, pre21 _ ?_, hrun, hended, _, _, rfl, ?_, ⟨_, rfl⟩, hW, hsame.mono (by decide) (by decide)⟩
        · show Steps p.tables e below (T2.setTop (mkF m 38 #[.val (.ref a1), .val (.int p1), .val (.ref ta), .val (.int (3 : Int32)), .val (.int (3 : Int32)), .val (.int v2)] [(.int (0 : Int32))])) _
          exact retN X2 hx (t := .boolean) Bd.returns (by simp) (hb hby own_drd3_38) hr
        · show Q_own_reads3 Z a1 p1 ta ka v0 v1 v2 r h0 n0 _ T2.heap _
          rw [e2]
          exact ⟨by rw [hrr]; simp [hc26_9, hc26_14, hc26_19], N0, rfl⟩
theorem own_pn_own_rm0 : plainName "com/example/ferry/ferry/FormatVersionsReadsPinLaw" = true := by first | (simp [plainName, overriddenIn]; done) | decide +kernel
theorem own_ef_own_rm0 (m : MethodId) (x0 : Int32) (x1 : Int32) (x2 : Int32) (x3 : Int32) (x4 : Int32) : entryFrame m #[(.int x0), (.int x1), (.int x2), (.int x3), (.int x4)] maxLocals = mkF m 0 #[.val (.int x0), .val (.int x1), .val (.int x2), .val (.int x3), .val (.int x4), .unset, .unset, .unset, .unset, .unset, .unset, .unset, .unset, .unset] [] := by first | (simp [entryFrame, mkF, argsToLocals, Value.category, maxLocals]; done) | rfl
def Q_own_rm0 (Z : State) (qx : Int32) (qy : Int32) (qz : Int32) (wq : Int32) (sel : Int32) (h0 : Heap) (n0 : Nat) (v : Option Value) (h : Heap) (L : List Loc) : Prop := v = some (.int (1 : Int32)) ∧ Fr n0 L
set_option maxRecDepth 65536 in
set_option maxHeartbeats 40000000 in
theorem own_rm0 (l : Launch) (Z : State) (a0 : Array Value) (hw : ∀ d ∈ tables_1, d.before a0 Z = true) (ws : List Jvm.Cond) (qx : Int32) (qy : Int32) (qz : Int32) (wq : Int32) (sel : Int32) (h0 : Heap) (n0 : Nat) (Z0 : n0 ≤ h0.size) :
    MetFree l x (head1 (Jvm.Cond.code x code maxLocals ret :: ws) room_1) (fun a U => a = #[(.int qx), (.int qy), (.int qz), (.int wq), (.int sel)] ∧ Z.Warmed39 U.vm ∧ U.heap = h0) (fun _ _ _ _ _ => True) (fun _ U o U' => ∃ v L, o = .returned v ∧ Q_own_rm0 Z qx qy qz wq sel h0 n0 v U'.heap L ∧ ReturnedEndW U o U' L room_1.cells room_1.slots) := by
  refine MetFree.of_bodySF (plainFor_of_name own_pn_own_rm0) hisR ?_
  intro p e s m args below meth c s₁ Bd hml0 hP hK
  obtain ⟨rfl, hZ, hh⟩ := hP
  have hx := Bd.exec
  have hby := Bd.bytes
  have hml : c.maxLocals = 14 := hml0
  have hown : s.vm.findClass "com/example/ferry/ferry/FormatVersionsReadsPinLaw" = some m.cls := findClass_of_methodNamed Bd.named
  have hnm := (name_of_methodNamed Bd.named Bd.method).1
  have X0 : Stand p l e room_1 s m #[(.int qx), (.int qy), (.int qz), (.int wq), (.int sel)] below meth c s₁ [] 0 0 := Stand.of_body Bd
  have e0 : s₁.heap = h0 := by rw [← hh, Bd.state]; rfl
  have N0 := Fr.nil n0
  have pre0 : Goes p e below s₁ (entryFrame m #[(.int qx), (.int qy), (.int qz), (.int wq), (.int sel)] maxLocals) s₁ (mkF m 0 #[.val (.int qx), .val (.int qy), .val (.int qz), .val (.int wq), .val (.int sel), .unset, .unset, .unset, .unset, .unset, .unset, .unset, .unset, .unset] []) := fun t k => castTop (own_ef_own_rm0 m qx qy qz wq sel) k
  have pre1 : Goes p e below s₁ (entryFrame m #[(.int qx), (.int qy), (.int qz), (.int wq), (.int sel)] maxLocals) s₁ (mkF m 3 #[.val (.int qx), .val (.int qy), .val (.int qz), .val (.int wq), .val (.int sel), .unset, .unset, .unset, .unset, .unset, .unset, .unset, .unset, .unset] [(.int qz), (.int qy), (.int qx)]) := fun t kt => pre0 t (by
      show Steps p.tables e below (s₁.setTop (mkF m 0 #[.val (.int qx), .val (.int qy), .val (.int qz), .val (.int wq), .val (.int sel), .unset, .unset, .unset, .unset, .unset, .unset, .unset, .unset, .unset] [])) _
      refine XS.iloadN X0.here hx rfl (hb hby at_0) rfl ?_
      show Steps p.tables e below (s₁.setTop (mkF m 1 #[.val (.int qx), .val (.int qy), .val (.int qz), .val (.int wq), .val (.int sel), .unset, .unset, .unset, .unset, .unset, .unset, .unset, .unset, .unset] [(.int qx)])) _
      refine XS.iloadN X0.here hx rfl (hb hby at_1) rfl ?_
      show Steps p.tables e below (s₁.setTop (mkF m 2 #[.val (.int qx), .val (.int qy), .val (.int qz), .val (.int wq), .val (.int sel), .unset, .unset, .unset, .unset, .unset, .unset, .unset, .unset, .unset] [(.int qy), (.int qx)])) _
      refine XS.iloadN X0.here hx rfl (hb hby at_2) rfl ?_
      exact kt)
  obtain ⟨_, _, ⟨T2, L2, k2, n2⟩, -, X2, ⟨Lc2, hQ2, l2, y2, z2⟩, st2⟩ := Jvm.LawKit.callS X0 hx (y := (⟨"java/lang/Math", "min", "(II)I"⟩ : MethodName)) hown (mvT hZ (hw _ (List.mem_of_getElem? (i := 0) rfl))) (mvT hZ (hw _ (List.mem_of_getElem? (i := 1) rfl))) (mvT hZ (hw _ (List.mem_of_getElem? (i := 2) rfl))) (mvT hZ (hw _ (List.mem_of_getElem? (i := 3) rfl))) (by decide) (backOf (W := 1) (own_min l Z a0 hw [] qy qz h0 n0 Z0 ) hZ (hw _ (List.mem_of_getElem? (i := 3) rfl)) (hw _ (List.mem_of_getElem? (i := 2) rfl)) (by decide) (by decide)) (g := (mkF m 3 #[.val (.int qx), .val (.int qy), .val (.int qz), .val (.int wq), .val (.int sel), .unset, .unset, .unset, .unset, .unset, .unset, .unset, .unset, .unset] [(.int qz), (.int qy), (.int qx)])) rfl (by rw [hml]; rfl) (argsL := [(.int qy), (.int qz)]) (rest := [(.int qx)]) (lenOf own_pd0 rfl) rfl (by show 2 * 0 + _ ≤ _; exact Nat.le_of_eq rfl) (hb hby at_3) (fun _ _ => ⟨rfl, e0, (by decide : 0 + 0 ≤ _), (by decide : 0 + 0 ≤ _)⟩)
  dsimp only [Pt.U, Pt.locs, Pt.cells, Pt.slots] at X2 l2 y2 z2 st2 hQ2
  subst l2 y2 z2
  obtain ⟨r2, rfl, N2q, e2⟩ := hQ2
  have N2 := Fr.app N0 N2q
  have pre3 : Goes p e below s₁ (entryFrame m #[(.int qx), (.int qy), (.int qz), (.int wq), (.int sel)] maxLocals) T2 (mkF m 6 #[.val (.int qx), .val (.int qy), .val (.int qz), .val (.int wq), .val (.int sel), .unset, .unset, .unset, .unset, .unset, .unset, .unset, .unset, .unset] [(.int r2), (.int qx)]) := fun t kt => pre1 t (st2 t kt)
  obtain ⟨_, _, ⟨T4, L4, k4, n4⟩, -, X4, ⟨Lc4, hQ4, l4, y4, z4⟩, st4⟩ := Jvm.LawKit.callS X2 hx (y := (⟨"java/lang/Math", "min", "(II)I"⟩ : MethodName)) hown (mvT hZ (hw _ (List.mem_of_getElem? (i := 0) rfl))) (mvT hZ (hw _ (List.mem_of_getElem? (i := 1) rfl))) (mvT hZ (hw _ (List.mem_of_getElem? (i := 2) rfl))) (mvT hZ (hw _ (List.mem_of_getElem? (i := 3) rfl))) (by decide) (backOf (W := 0) (own_min l Z a0 hw [] qx r2 h0 n0 Z0 ) hZ (hw _ (List.mem_of_getElem? (i := 3) rfl)) (hw _ (List.mem_of_getElem? (i := 2) rfl)) (by decide) (by decide)) (g := (mkF m 6 #[.val (.int qx), .val (.int qy), .val (.int qz), .val (.int wq), .val (.int sel), .unset, .unset, .unset, .unset, .unset, .unset, .unset, .unset, .unset] [(.int r2), (.int qx)])) rfl (by rw [hml]; rfl) (argsL := [(.int qx), (.int r2)]) (rest := []) (lenOf own_pd0 rfl) rfl (by show 2 * 0 + _ ≤ _; exact Nat.le_of_eq rfl) (hb hby at_6) (fun _ _ => ⟨rfl, e2, (by decide : 0 + 0 ≤ _), (by decide : 0 + 0 ≤ _)⟩)
  dsimp only [Pt.U, Pt.locs, Pt.cells, Pt.slots] at X4 l4 y4 z4 st4 hQ4
  subst l4 y4 z4
  obtain ⟨r4, rfl, N4q, e4⟩ := hQ4
  have N4 := Fr.app N2 N4q
  have pre5 : Goes p e below s₁ (entryFrame m #[(.int qx), (.int qy), (.int qz), (.int wq), (.int sel)] maxLocals) T4 (mkF m 9 #[.val (.int qx), .val (.int qy), .val (.int qz), .val (.int wq), .val (.int sel), .unset, .unset, .unset, .unset, .unset, .unset, .unset, .unset, .unset] [(.int r4)]) := fun t kt => pre3 t (st4 t kt)
  have pre6 : Goes p e below s₁ (entryFrame m #[(.int qx), (.int qy), (.int qz), (.int wq), (.int sel)] maxLocals) T4 (mkF m 14 #[.val (.int qx), .val (.int qy), .val (.int qz), .val (.int wq), .val (.int sel), .val (.int r4), .unset, .unset, .unset, .unset, .unset, .unset, .unset, .unset] [(.int qz), (.int qy), (.int qx)]) := fun t kt => pre5 t (by
      show Steps p.tables e below (T4.setTop (mkF m 9 #[.val (.int qx), .val (.int qy), .val (.int qz), .val (.int wq), .val (.int sel), .unset, .unset, .unset, .unset, .unset, .unset, .unset, .unset, .unset] [(.int r4)])) _
      refine XS.istore X4.here hx rfl (hb hby at_9) rfl (l' := #[.val (.int qx), .val (.int qy), .val (.int qz), .val (.int wq), .val (.int sel), .val (.int r4), .unset, .unset, .unset, .unset, .unset, .unset, .unset, .unset]) rfl ?_
      show Steps p.tables e below (T4.setTop (mkF m 11 #[.val (.int qx), .val (.int qy), .val (.int qz), .val (.int wq), .val (.int sel), .val (.int r4), .unset, .unset, .unset, .unset, .unset, .unset, .unset, .unset] [])) _
      refine XS.iloadN X4.here hx rfl (hb hby at_11) rfl ?_
      show Steps p.tables e below (T4.setTop (mkF m 12 #[.val (.int qx), .val (.int qy), .val (.int qz), .val (.int wq), .val (.int sel), .val (.int r4), .unset, .unset, .unset, .unset, .unset, .unset, .unset, .unset] [(.int qx)])) _
      refine XS.iloadN X4.here hx rfl (hb hby at_12) rfl ?_
      show Steps p.tables e below (T4.setTop (mkF m 13 #[.val (.int qx), .val (.int qy), .val (.int qz), .val (.int wq), .val (.int sel), .val (.int r4), .unset, .unset, .unset, .unset, .unset, .unset, .unset, .unset] [(.int qy), (.int qx)])) _
      refine XS.iloadN X4.here hx rfl (hb hby at_13) rfl ?_
      exact kt)
  obtain ⟨_, _, ⟨T7, L7, k7, n7⟩, -, X7, ⟨Lc7, hQ7, l7, y7, z7⟩, st7⟩ := Jvm.LawKit.callS X4 hx (y := (⟨"java/lang/Math", "max", "(II)I"⟩ : MethodName)) hown (mvT hZ (hw _ (List.mem_of_getElem? (i := 4) rfl))) (mvT hZ (hw _ (List.mem_of_getElem? (i := 5) rfl))) (mvT hZ (hw _ (List.mem_of_getElem? (i := 2) rfl))) (mvT hZ (hw _ (List.mem_of_getElem? (i := 6) rfl))) (by decide) (backOf (W := 1) (own_max l Z a0 hw [] qy qz h0 n0 Z0 ) hZ (hw _ (List.mem_of_getElem? (i := 6) rfl)) (hw _ (List.mem_of_getElem? (i := 2) rfl)) (by decide) (by decide)) (g := (mkF m 14 #[.val (.int qx), .val (.int qy), .val (.int qz), .val (.int wq), .val (.int sel), .val (.int r4), .unset, .unset, .unset, .unset, .unset, .unset, .unset, .unset] [(.int qz), (.int qy), (.int qx)])) rfl (by rw [hml]; rfl) (argsL := [(.int qy), (.int qz)]) (rest := [(.int qx)]) (lenOf own_pd0 rfl) rfl (by show 2 * 0 + _ ≤ _; exact Nat.le_of_eq rfl) (hb hby at_14) (fun _ _ => ⟨rfl, e4, (by decide : 0 + 0 ≤ _), (by decide : 0 + 0 ≤ _)⟩)
  dsimp only [Pt.U, Pt.locs, Pt.cells, Pt.slots] at X7 l7 y7 z7 st7 hQ7
  subst l7 y7 z7
  obtain ⟨r7, rfl, N7q, e7⟩ := hQ7
  have N7 := Fr.app N4 N7q
  have pre8 : Goes p e below s₁ (entryFrame m #[(.int qx), (.int qy), (.int qz), (.int wq), (.int sel)] maxLocals) T7 (mkF m 17 #[.val (.int qx), .val (.int qy), .val (.int qz), .val (.int wq), .val (.int sel), .val (.int r4), .unset, .unset, .unset, .unset, .unset, .unset, .unset, .unset] [(.int r7), (.int qx)]) := fun t kt => pre6 t (st7 t kt)
  obtain ⟨_, _, ⟨T9, L9, k9, n9⟩, -, X9, ⟨Lc9, hQ9, l9, y9, z9⟩, st9⟩ := Jvm.LawKit.callS X7 hx (y := (⟨"java/lang/Math", "max", "(II)I"⟩ : MethodName)) hown (mvT hZ (hw _ (List.mem_of_getElem? (i := 4) rfl))) (mvT hZ (hw _ (List.mem_of_getElem? (i := 5) rfl))) (mvT hZ (hw _ (List.mem_of_getElem? (i := 2) rfl))) (mvT hZ (hw _ (List.mem_of_getElem? (i := 6) rfl))) (by decide) (backOf (W := 0) (own_max l Z a0 hw [] qx r7 h0 n0 Z0 ) hZ (hw _ (List.mem_of_getElem? (i := 6) rfl)) (hw _ (List.mem_of_getElem? (i := 2) rfl)) (by decide) (by decide)) (g := (mkF m 17 #[.val (.int qx), .val (.int qy), .val (.int qz), .val (.int wq), .val (.int sel), .val (.int r4), .unset, .unset, .unset, .unset, .unset, .unset, .unset, .unset] [(.int r7), (.int qx)])) rfl (by rw [hml]; rfl) (argsL := [(.int qx), (.int r7)]) (rest := []) (lenOf own_pd0 rfl) rfl (by show 2 * 0 + _ ≤ _; exact Nat.le_of_eq rfl) (hb hby at_17) (fun _ _ => ⟨rfl, e7, (by decide : 0 + 0 ≤ _), (by decide : 0 + 0 ≤ _)⟩)
  dsimp only [Pt.U, Pt.locs, Pt.cells, Pt.slots] at X9 l9 y9 z9 st9 hQ9
  subst l9 y9 z9
  obtain ⟨r9, rfl, N9q, e9⟩ := hQ9
  have N9 := Fr.app N7 N9q
  have pre10 : Goes p e below s₁ (entryFrame m #[(.int qx), (.int qy), (.int qz), (.int wq), (.int sel)] maxLocals) T9 (mkF m 20 #[.val (.int qx), .val (.int qy), .val (.int qz), .val (.int wq), .val (.int sel), .val (.int r4), .unset, .unset, .unset, .unset, .unset, .unset, .unset, .unset] [(.int r9)]) := fun t kt => pre8 t (st9 t kt)
  have pre11 : Goes p e below s₁ (entryFrame m #[(.int qx), (.int qy), (.int qz), (.int wq), (.int sel)] maxLocals) T9 (mkF m 33 #[.val (.int qx), .val (.int qy), .val (.int qz), .val (.int wq), .val (.int sel), .val (.int r4), .val (.int r9), .unset, .unset, .unset, .unset, .unset, .unset, .unset] [(.int ((((qx + qy) + qz) - r4) - r9))]) := fun t kt => pre10 t (by
      show Steps p.tables e below (T9.setTop (mkF m 20 #[.val (.int qx), .val (.int qy), .val (.int qz), .val (.int wq), .val (.int sel), .val (.int r4), .unset, .unset, .unset, .unset, .unset, .unset, .unset, .unset] [(.int r9)])) _
      refine XS.istore X9.here hx rfl (hb hby at_20) rfl (l' := #[.val (.int qx), .val (.int qy), .val (.int qz), .val (.int wq), .val (.int sel), .val (.int r4), .val (.int r9), .unset, .unset, .unset, .unset, .unset, .unset, .unset]) rfl ?_
      show Steps p.tables e below (T9.setTop (mkF m 22 #[.val (.int qx), .val (.int qy), .val (.int qz), .val (.int wq), .val (.int sel), .val (.int r4), .val (.int r9), .unset, .unset, .unset, .unset, .unset, .unset, .unset] [])) _
      refine XS.iloadN X9.here hx rfl (hb hby at_22) rfl ?_
      show Steps p.tables e below (T9.setTop (mkF m 23 #[.val (.int qx), .val (.int qy), .val (.int qz), .val (.int wq), .val (.int sel), .val (.int r4), .val (.int r9), .unset, .unset, .unset, .unset, .unset, .unset, .unset] [(.int qx)])) _
      refine XS.iloadN X9.here hx rfl (hb hby at_23) rfl ?_
      show Steps p.tables e below (T9.setTop (mkF m 24 #[.val (.int qx), .val (.int qy), .val (.int qz), .val (.int wq), .val (.int sel), .val (.int r4), .val (.int r9), .unset, .unset, .unset, .unset, .unset, .unset, .unset] [(.int qy), (.int qx)])) _
      refine XS.iadd X9.here hx rfl (hb hby at_24) rfl ?_
      show Steps p.tables e below (T9.setTop (mkF m 25 #[.val (.int qx), .val (.int qy), .val (.int qz), .val (.int wq), .val (.int sel), .val (.int r4), .val (.int r9), .unset, .unset, .unset, .unset, .unset, .unset, .unset] [(.int (qx + qy))])) _
      refine XS.iloadN X9.here hx rfl (hb hby at_25) rfl ?_
      show Steps p.tables e below (T9.setTop (mkF m 26 #[.val (.int qx), .val (.int qy), .val (.int qz), .val (.int wq), .val (.int sel), .val (.int r4), .val (.int r9), .unset, .unset, .unset, .unset, .unset, .unset, .unset] [(.int qz), (.int (qx + qy))])) _
      refine XS.iadd X9.here hx rfl (hb hby at_26) rfl ?_
      show Steps p.tables e below (T9.setTop (mkF m 27 #[.val (.int qx), .val (.int qy), .val (.int qz), .val (.int wq), .val (.int sel), .val (.int r4), .val (.int r9), .unset, .unset, .unset, .unset, .unset, .unset, .unset] [(.int ((qx + qy) + qz))])) _
      refine XS.iload X9.here hx rfl (hb hby at_27) rfl ?_
      show Steps p.tables e below (T9.setTop (mkF m 29 #[.val (.int qx), .val (.int qy), .val (.int qz), .val (.int wq), .val (.int sel), .val (.int r4), .val (.int r9), .unset, .unset, .unset, .unset, .unset, .unset, .unset] [(.int r4), (.int ((qx + qy) + qz))])) _
      refine XS.isub X9.here hx rfl (hb hby at_29) rfl ?_
      show Steps p.tables e below (T9.setTop (mkF m 30 #[.val (.int qx), .val (.int qy), .val (.int qz), .val (.int wq), .val (.int sel), .val (.int r4), .val (.int r9), .unset, .unset, .unset, .unset, .unset, .unset, .unset] [(.int (((qx + qy) + qz) - r4))])) _
      refine XS.iload X9.here hx rfl (hb hby at_30) rfl ?_
      show Steps p.tables e below (T9.setTop (mkF m 32 #[.val (.int qx), .val (.int qy), .val (.int qz), .val (.int wq), .val (.int sel), .val (.int r4), .val (.int r9), .unset, .unset, .unset, .unset, .unset, .unset, .unset] [(.int r9), (.int (((qx + qy) + qz) - r4))])) _
      refine XS.isub X9.here hx rfl (hb hby at_32) rfl ?_
      exact kt)
  obtain ⟨mid, hmid⟩ : ∃ q : Int32, q = ((((qx + qy) + qz) - r4) - r9) := ⟨_, rfl⟩
  rw [show ((((qx + qy) + qz) - r4) - r9) = mid from hmid.symm] at pre11
  have pre12 : Goes p e below s₁ (entryFrame m #[(.int qx), (.int qy), (.int qz), (.int wq), (.int sel)] maxLocals) T9 (mkF m 43 #[.val (.int qx), .val (.int qy), .val (.int qz), .val (.int wq), .val (.int sel), .val (.int r4), .val (.int r9), .val (.int mid), .val (.int (((sel.toUInt32 >>> ((3 : Int32) &&& 31).toUInt32).toInt32) &&& (3 : Int32))), .unset, .unset, .unset, .unset, .unset] []) := fun t kt => pre11 t (by
      show Steps p.tables e below (T9.setTop (mkF m 33 #[.val (.int qx), .val (.int qy), .val (.int qz), .val (.int wq), .val (.int sel), .val (.int r4), .val (.int r9), .unset, .unset, .unset, .unset, .unset, .unset, .unset] [(.int mid)])) _
      refine XS.istore X9.here hx rfl (hb hby at_33) rfl (l' := #[.val (.int qx), .val (.int qy), .val (.int qz), .val (.int wq), .val (.int sel), .val (.int r4), .val (.int r9), .val (.int mid), .unset, .unset, .unset, .unset, .unset, .unset]) rfl ?_
      show Steps p.tables e below (T9.setTop (mkF m 35 #[.val (.int qx), .val (.int qy), .val (.int qz), .val (.int wq), .val (.int sel), .val (.int r4), .val (.int r9), .val (.int mid), .unset, .unset, .unset, .unset, .unset, .unset] [])) _
      refine XS.iload X9.here hx rfl (hb hby at_35) rfl ?_
      show Steps p.tables e below (T9.setTop (mkF m 37 #[.val (.int qx), .val (.int qy), .val (.int qz), .val (.int wq), .val (.int sel), .val (.int r4), .val (.int r9), .val (.int mid), .unset, .unset, .unset, .unset, .unset, .unset] [(.int sel)])) _
      refine XS.iconst X9.here hx rfl (hb hby at_37) ?_
      show Steps p.tables e below (T9.setTop (mkF m 38 #[.val (.int qx), .val (.int qy), .val (.int qz), .val (.int wq), .val (.int sel), .val (.int r4), .val (.int r9), .val (.int mid), .unset, .unset, .unset, .unset, .unset, .unset] [(.int (3 : Int32)), (.int sel)])) _
      refine XS.iushr X9.here hx rfl (hb hby at_38) rfl ?_
      show Steps p.tables e below (T9.setTop (mkF m 39 #[.val (.int qx), .val (.int qy), .val (.int qz), .val (.int wq), .val (.int sel), .val (.int r4), .val (.int r9), .val (.int mid), .unset, .unset, .unset, .unset, .unset, .unset] [(.int ((sel.toUInt32 >>> ((3 : Int32) &&& 31).toUInt32).toInt32))])) _
      refine XS.iconst X9.here hx rfl (hb hby at_39) ?_
      show Steps p.tables e below (T9.setTop (mkF m 40 #[.val (.int qx), .val (.int qy), .val (.int qz), .val (.int wq), .val (.int sel), .val (.int r4), .val (.int r9), .val (.int mid), .unset, .unset, .unset, .unset, .unset, .unset] [(.int (3 : Int32)), (.int ((sel.toUInt32 >>> ((3 : Int32) &&& 31).toUInt32).toInt32))])) _
      refine XS.iand X9.here hx rfl (hb hby at_40) rfl ?_
      show Steps p.tables e below (T9.setTop (mkF m 41 #[.val (.int qx), .val (.int qy), .val (.int qz), .val (.int wq), .val (.int sel), .val (.int r4), .val (.int r9), .val (.int mid), .unset, .unset, .unset, .unset, .unset, .unset] [(.int (((sel.toUInt32 >>> ((3 : Int32) &&& 31).toUInt32).toInt32) &&& (3 : Int32)))])) _
      refine XS.istore X9.here hx rfl (hb hby at_41) rfl (l' := #[.val (.int qx), .val (.int qy), .val (.int qz), .val (.int wq), .val (.int sel), .val (.int r4), .val (.int r9), .val (.int mid), .val (.int (((sel.toUInt32 >>> ((3 : Int32) &&& 31).toUInt32).toInt32) &&& (3 : Int32))), .unset, .unset, .unset, .unset, .unset]) rfl ?_
      exact kt)
  rcases (own_n1 sel) with hk | hk | hk | hk
  · -- n = 0
    rw [show (((sel.toUInt32 >>> ((3 : Int32) &&& 31).toUInt32).toInt32) &&& (3 : Int32)) = (0 : Int32) from hk] at pre12
    have pre13 : Goes p e below s₁ (entryFrame m #[(.int qx), (.int qy), (.int qz), (.int wq), (.int sel)] maxLocals) T9 (mkF m 54 #[.val (.int qx), .val (.int qy), .val (.int qz), .val (.int wq), .val (.int sel), .val (.int r4), .val (.int r9), .val (.int mid), .val (.int (0 : Int32)), .unset, .unset, .unset, .unset, .unset] [(.int (0 : Int32))]) := fun t kt => pre12 t (by
        show Steps p.tables e below (T9.setTop (mkF m 43 #[.val (.int qx), .val (.int qy), .val (.int qz), .val (.int wq), .val (.int sel), .val (.int r4), .val (.int r9), .val (.int mid), .val (.int (0 : Int32)), .unset, .unset, .unset, .unset, .unset] [])) _
        refine XS.iload X9.here hx rfl (hb hby at_43) rfl ?_
        show Steps p.tables e below (T9.setTop (mkF m 45 #[.val (.int qx), .val (.int qy), .val (.int qz), .val (.int wq), .val (.int sel), .val (.int r4), .val (.int r9), .val (.int mid), .val (.int (0 : Int32)), .unset, .unset, .unset, .unset, .unset] [(.int (0 : Int32))])) _
        refine XS.iconst X9.here hx rfl (hb hby at_45) ?_
        show Steps p.tables e below (T9.setTop (mkF m 46 #[.val (.int qx), .val (.int qy), .val (.int qz), .val (.int wq), .val (.int sel), .val (.int r4), .val (.int r9), .val (.int mid), .val (.int (0 : Int32)), .unset, .unset, .unset, .unset, .unset] [(.int (3 : Int32)), (.int (0 : Int32))])) _
        refine XS.icmpYes X9.here hx rfl (pc0 := 46) (pc' := 52) rfl (hb hby at_46) rfl (feq (by decide : ¬ ((0 : Int32) = (3 : Int32)))).2 (by decide) (by decide) ?_
        show Steps p.tables e below (T9.setTop (mkF m 52 #[.val (.int qx), .val (.int qy), .val (.int qz), .val (.int wq), .val (.int sel), .val (.int r4), .val (.int r9), .val (.int mid), .val (.int (0 : Int32)), .unset, .unset, .unset, .unset, .unset] [])) _
        refine XS.iload X9.here hx rfl (hb hby at_52) rfl ?_
        exact kt)
    obtain ⟨T14, h14, k14, X14, e14, E14, A14, XA14, st14⟩ := newPE X9 hx hZ (hw _ (List.mem_of_getElem? (i := 7) rfl)) e9 (g := (mkF m 54 #[.val (.int qx), .val (.int qy), .val (.int qz), .val (.int wq), .val (.int sel), .val (.int r4), .val (.int r9), .val (.int mid), .val (.int (0 : Int32)), .unset, .unset, .unset, .unset, .unset] [(.int (0 : Int32))])) rfl (hb hby at_54) rfl (by decide) (cap := 0) (by decide) (by decide) (by decide) (by decide) (ad := "[I") rfl
    obtain ⟨b14, g14⟩ : ∃ z, z = h0.size := ⟨_, rfl⟩
    rw [← g14] at A14 XA14 st14
    have V_b14 : Arv Z h14 b14 k14 .int (0 : Int32) [] (.int (0 : Int32)) := Arv.new A14 (by decide)
    have g_b14 : n0 ≤ b14 := Nat.le_trans Z0 (Nat.le_of_eq g14.symm)
    have sz_b14 : h0.size ≤ b14 := (Nat.le_trans (Keep.refl h0 []).1 (Nat.le_of_eq g14.symm))
    have K14 : Keep h0 h14 [] := (Keep.refl h0 []).ext E14
    have pre15 : Goes p e below s₁ (entryFrame m #[(.int qx), (.int qy), (.int qz), (.int wq), (.int sel)] maxLocals) T14 (mkF m 56 #[.val (.int qx), .val (.int qy), .val (.int qz), .val (.int wq), .val (.int sel), .val (.int r4), .val (.int r9), .val (.int mid), .val (.int (0 : Int32)), .unset, .unset, .unset, .unset, .unset] [(.ref b14)]) := fun t kt => pre13 t (st14 t kt)
    have pre16 : Goes p e below s₁ (entryFrame m #[(.int qx), (.int qy), (.int qz), (.int wq), (.int sel)] maxLocals) T14 (mkF m 100 #[.val (.int qx), .val (.int qy), .val (.int qz), .val (.int wq), .val (.int sel), .val (.int r4), .val (.int r9), .val (.int mid), .val (.int (0 : Int32)), .val (.ref b14), .val (.int (sel &&& (7 : Int32))), .unset, .unset, .unset] []) := fun t kt => pre15 t (by
        show Steps p.tables e below (T14.setTop (mkF m 56 #[.val (.int qx), .val (.int qy), .val (.int qz), .val (.int wq), .val (.int sel), .val (.int r4), .val (.int r9), .val (.int mid), .val (.int (0 : Int32)), .unset, .unset, .unset, .unset, .unset] [(.ref b14)])) _
        refine XS.astore X14.here hx rfl (hb hby at_56) rfl rfl (l' := #[.val (.int qx), .val (.int qy), .val (.int qz), .val (.int wq), .val (.int sel), .val (.int r4), .val (.int r9), .val (.int mid), .val (.int (0 : Int32)), .val (.ref b14), .unset, .unset, .unset, .unset]) rfl ?_
        show Steps p.tables e below (T14.setTop (mkF m 58 #[.val (.int qx), .val (.int qy), .val (.int qz), .val (.int wq), .val (.int sel), .val (.int r4), .val (.int r9), .val (.int mid), .val (.int (0 : Int32)), .val (.ref b14), .unset, .unset, .unset, .unset] [])) _
        refine XS.iload X14.here hx rfl (hb hby at_58) rfl ?_
        show Steps p.tables e below (T14.setTop (mkF m 60 #[.val (.int qx), .val (.int qy), .val (.int qz), .val (.int wq), .val (.int sel), .val (.int r4), .val (.int r9), .val (.int mid), .val (.int (0 : Int32)), .val (.ref b14), .unset, .unset, .unset, .unset] [(.int (0 : Int32))])) _
        refine XS.ifYes X14.here hx rfl (pc0 := 60) (pc' := 69) rfl (hb hby at_60) rfl ((if0 _ _).trans (flt (by decide : ¬ ((0 : Int32) < (0 : Int32)))).2.2.2) (by decide) (by decide) ?_
        show Steps p.tables e below (T14.setTop (mkF m 69 #[.val (.int qx), .val (.int qy), .val (.int qz), .val (.int wq), .val (.int sel), .val (.int r4), .val (.int r9), .val (.int mid), .val (.int (0 : Int32)), .val (.ref b14), .unset, .unset, .unset, .unset] [])) _
        refine XS.iload X14.here hx rfl (hb hby at_69) rfl ?_
        show Steps p.tables e below (T14.setTop (mkF m 71 #[.val (.int qx), .val (.int qy), .val (.int qz), .val (.int wq), .val (.int sel), .val (.int r4), .val (.int r9), .val (.int mid), .val (.int (0 : Int32)), .val (.ref b14), .unset, .unset, .unset, .unset] [(.int (0 : Int32))])) _
        refine XS.iconst X14.here hx rfl (hb hby at_71) ?_
        show Steps p.tables e below (T14.setTop (mkF m 72 #[.val (.int qx), .val (.int qy), .val (.int qz), .val (.int wq), .val (.int sel), .val (.int r4), .val (.int r9), .val (.int mid), .val (.int (0 : Int32)), .val (.ref b14), .unset, .unset, .unset, .unset] [(.int (1 : Int32)), (.int (0 : Int32))])) _
        refine XS.icmpYes X14.here hx rfl (pc0 := 72) (pc' := 81) rfl (hb hby at_72) rfl (flt (by decide : ¬ ((1 : Int32) < (0 : Int32)))).2.2.2 (by decide) (by decide) ?_
        show Steps p.tables e below (T14.setTop (mkF m 81 #[.val (.int qx), .val (.int qy), .val (.int qz), .val (.int wq), .val (.int sel), .val (.int r4), .val (.int r9), .val (.int mid), .val (.int (0 : Int32)), .val (.ref b14), .unset, .unset, .unset, .unset] [])) _
        refine XS.iload X14.here hx rfl (hb hby at_81) rfl ?_
        show Steps p.tables e below (T14.setTop (mkF m 83 #[.val (.int qx), .val (.int qy), .val (.int qz), .val (.int wq), .val (.int sel), .val (.int r4), .val (.int r9), .val (.int mid), .val (.int (0 : Int32)), .val (.ref b14), .unset, .unset, .unset, .unset] [(.int (0 : Int32))])) _
        refine XS.iconst X14.here hx rfl (hb hby at_83) ?_
        show Steps p.tables e below (T14.setTop (mkF m 84 #[.val (.int qx), .val (.int qy), .val (.int qz), .val (.int wq), .val (.int sel), .val (.int r4), .val (.int r9), .val (.int mid), .val (.int (0 : Int32)), .val (.ref b14), .unset, .unset, .unset, .unset] [(.int (2 : Int32)), (.int (0 : Int32))])) _
        refine XS.icmpYes X14.here hx rfl (pc0 := 84) (pc' := 93) rfl (hb hby at_84) rfl (flt (by decide : ¬ ((2 : Int32) < (0 : Int32)))).2.2.2 (by decide) (by decide) ?_
        show Steps p.tables e below (T14.setTop (mkF m 93 #[.val (.int qx), .val (.int qy), .val (.int qz), .val (.int wq), .val (.int sel), .val (.int r4), .val (.int r9), .val (.int mid), .val (.int (0 : Int32)), .val (.ref b14), .unset, .unset, .unset, .unset] [])) _
        refine XS.iload X14.here hx rfl (hb hby at_93) rfl ?_
        show Steps p.tables e below (T14.setTop (mkF m 95 #[.val (.int qx), .val (.int qy), .val (.int qz), .val (.int wq), .val (.int sel), .val (.int r4), .val (.int r9), .val (.int mid), .val (.int (0 : Int32)), .val (.ref b14), .unset, .unset, .unset, .unset] [(.int sel)])) _
        refine XS.bipush X14.here hx rfl (hb hby at_95) ?_
        show Steps p.tables e below (T14.setTop (mkF m 97 #[.val (.int qx), .val (.int qy), .val (.int qz), .val (.int wq), .val (.int sel), .val (.int r4), .val (.int r9), .val (.int mid), .val (.int (0 : Int32)), .val (.ref b14), .unset, .unset, .unset, .unset] [(.int (7 : Int32)), (.int sel)])) _
        refine XS.iand X14.here hx rfl (hb hby at_97) rfl ?_
        show Steps p.tables e below (T14.setTop (mkF m 98 #[.val (.int qx), .val (.int qy), .val (.int qz), .val (.int wq), .val (.int sel), .val (.int r4), .val (.int r9), .val (.int mid), .val (.int (0 : Int32)), .val (.ref b14), .unset, .unset, .unset, .unset] [(.int (sel &&& (7 : Int32)))])) _
        refine XS.istore X14.here hx rfl (hb hby at_98) rfl (l' := #[.val (.int qx), .val (.int qy), .val (.int qz), .val (.int wq), .val (.int sel), .val (.int r4), .val (.int r9), .val (.int mid), .val (.int (0 : Int32)), .val (.ref b14), .val (.int (sel &&& (7 : Int32))), .unset, .unset, .unset]) rfl ?_
        exact kt)
    obtain ⟨vv, pre18⟩ : ∃ (vv : Int32), Goes p e below s₁ (entryFrame m #[(.int qx), (.int qy), (.int qz), (.int wq), (.int sel)] maxLocals) T14 (mkF m 187 #[.val (.int qx), .val (.int qy), .val (.int qz), .val (.int wq), .val (.int sel), .val (.int r4), .val (.int r9), .val (.int mid), .val (.int (0 : Int32)), .val (.ref b14), .val (.int (sel &&& (7 : Int32))), .val (.int vv), .unset, .unset] []) := by
      have pre19 : Goes p e below s₁ (entryFrame m #[(.int qx), (.int qy), (.int qz), (.int wq), (.int sel)] maxLocals) T14 (mkF m 102 #[.val (.int qx), .val (.int qy), .val (.int qz), .val (.int wq), .val (.int sel), .val (.int r4), .val (.int r9), .val (.int mid), .val (.int (0 : Int32)), .val (.ref b14), .val (.int (sel &&& (7 : Int32))), .unset, .unset, .unset] [(.int (sel &&& (7 : Int32)))]) := fun t kt => pre16 t (by
          show Steps p.tables e below (T14.setTop (mkF m 100 #[.val (.int qx), .val (.int qy), .val (.int qz), .val (.int wq), .val (.int sel), .val (.int r4), .val (.int r9), .val (.int mid), .val (.int (0 : Int32)), .val (.ref b14), .val (.int (sel &&& (7 : Int32))), .unset, .unset, .unset] [])) _
          refine XS.iload X14.here hx rfl (hb hby at_100) rfl ?_
          exact kt)
      by_cases hc102_20 : (sel &&& (7 : Int32)) = (0 : Int32)
      · -- yes at pc 102: tttt
        have pre21 : Goes p e below s₁ (entryFrame m #[(.int qx), (.int qy), (.int qz), (.int wq), (.int sel)] maxLocals) T14 (mkF m 187 #[.val (.int qx), .val (.int qy), .val (.int qz), .val (.int wq), .val (.int sel), .val (.int r4), .val (.int r9), .val (.int mid), .val (.int (0 : Int32)), .val (.ref b14), .val (.int (sel &&& (7 : Int32))), .val (.int r4), .unset, .unset] []) := fun t kt => pre19 t (by
            show Steps p.tables e below (T14.setTop (mkF m 102 #[.val (.int qx), .val (.int qy), .val (.int qz), .val (.int wq), .val (.int sel), .val (.int r4), .val (.int r9), .val (.int mid), .val (.int (0 : Int32)), .val (.ref b14), .val (.int (sel &&& (7 : Int32))), .unset, .unset, .unset] [(.int (sel &&& (7 : Int32)))])) _
            refine XS.ifNo X14.here hx rfl (hb hby at_102) rfl ((if0 _ _).trans (teq hc102_20).2) ?_
            show Steps p.tables e below (T14.setTop (mkF m 105 #[.val (.int qx), .val (.int qy), .val (.int qz), .val (.int wq), .val (.int sel), .val (.int r4), .val (.int r9), .val (.int mid), .val (.int (0 : Int32)), .val (.ref b14), .val (.int (sel &&& (7 : Int32))), .unset, .unset, .unset] [])) _
            refine XS.iload X14.here hx rfl (hb hby at_105) rfl ?_
            show Steps p.tables e below (T14.setTop (mkF m 107 #[.val (.int qx), .val (.int qy), .val (.int qz), .val (.int wq), .val (.int sel), .val (.int r4), .val (.int r9), .val (.int mid), .val (.int (0 : Int32)), .val (.ref b14), .val (.int (sel &&& (7 : Int32))), .unset, .unset, .unset] [(.int r4)])) _
            refine XS.istore X14.here hx rfl (hb hby at_107) rfl (l' := #[.val (.int qx), .val (.int qy), .val (.int qz), .val (.int wq), .val (.int sel), .val (.int r4), .val (.int r9), .val (.int mid), .val (.int (0 : Int32)), .val (.ref b14), .val (.int (sel &&& (7 : Int32))), .val (.int r4), .unset, .unset]) rfl ?_
            show Steps p.tables e below (T14.setTop (mkF m 109 #[.val (.int qx), .val (.int qy), .val (.int qz), .val (.int wq), .val (.int sel), .val (.int r4), .val (.int r9), .val (.int mid), .val (.int (0 : Int32)), .val (.ref b14), .val (.int (sel &&& (7 : Int32))), .val (.int r4), .unset, .unset] [])) _
            refine XS.goto X14.here hx rfl (pc0 := 109) (pc' := 187) rfl (hb hby at_109) (by decide) (by decide) ?_
            exact kt)
        exact ⟨r4, pre21⟩
      · -- no at pc 102: tttt
        have pre22 : Goes p e below s₁ (entryFrame m #[(.int qx), (.int qy), (.int qz), (.int wq), (.int sel)] maxLocals) T14 (mkF m 115 #[.val (.int qx), .val (.int qy), .val (.int qz), .val (.int wq), .val (.int sel), .val (.int r4), .val (.int r9), .val (.int mid), .val (.int (0 : Int32)), .val (.ref b14), .val (.int (sel &&& (7 : Int32))), .unset, .unset, .unset] [(.int (1 : Int32)), (.int (sel &&& (7 : Int32)))]) := fun t kt => pre19 t (by
            show Steps p.tables e below (T14.setTop (mkF m 102 #[.val (.int qx), .val (.int qy), .val (.int qz), .val (.int wq), .val (.int sel), .val (.int r4), .val (.int r9), .val (.int mid), .val (.int (0 : Int32)), .val (.ref b14), .val (.int (sel &&& (7 : Int32))), .unset, .unset, .unset] [(.int (sel &&& (7 : Int32)))])) _
            refine XS.ifYes X14.here hx rfl (pc0 := 102) (pc' := 112) rfl (hb hby at_102) rfl ((if0 _ _).trans (feq hc102_20).2) (by decide) (by decide) ?_
            show Steps p.tables e below (T14.setTop (mkF m 112 #[.val (.int qx), .val (.int qy), .val (.int qz), .val (.int wq), .val (.int sel), .val (.int r4), .val (.int r9), .val (.int mid), .val (.int (0 : Int32)), .val (.ref b14), .val (.int (sel &&& (7 : Int32))), .unset, .unset, .unset] [])) _
            refine XS.iload X14.here hx rfl (hb hby at_112) rfl ?_
            show Steps p.tables e below (T14.setTop (mkF m 114 #[.val (.int qx), .val (.int qy), .val (.int qz), .val (.int wq), .val (.int sel), .val (.int r4), .val (.int r9), .val (.int mid), .val (.int (0 : Int32)), .val (.ref b14), .val (.int (sel &&& (7 : Int32))), .unset, .unset, .unset] [(.int (sel &&& (7 : Int32)))])) _
            refine XS.iconst X14.here hx rfl (hb hby at_114) ?_
            exact kt)
        by_cases hc115_23 : (sel &&& (7 : Int32)) = (1 : Int32)
        · -- yes at pc 115: ttttt
          have pre24 : Goes p e below s₁ (entryFrame m #[(.int qx), (.int qy), (.int qz), (.int wq), (.int sel)] maxLocals) T14 (mkF m 187 #[.val (.int qx), .val (.int qy), .val (.int qz), .val (.int wq), .val (.int sel), .val (.int r4), .val (.int r9), .val (.int mid), .val (.int (0 : Int32)), .val (.ref b14), .val (.int (sel &&& (7 : Int32))), .val (.int mid), .unset, .unset] []) := fun t kt => pre22 t (by
              show Steps p.tables e below (T14.setTop (mkF m 115 #[.val (.int qx), .val (.int qy), .val (.int qz), .val (.int wq), .val (.int sel), .val (.int r4), .val (.int r9), .val (.int mid), .val (.int (0 : Int32)), .val (.ref b14), .val (.int (sel &&& (7 : Int32))), .unset, .unset, .unset] [(.int (1 : Int32)), (.int (sel &&& (7 : Int32)))])) _
              refine XS.icmpNo X14.here hx rfl (hb hby at_115) rfl (teq hc115_23).2 ?_
              show Steps p.tables e below (T14.setTop (mkF m 118 #[.val (.int qx), .val (.int qy), .val (.int qz), .val (.int wq), .val (.int sel), .val (.int r4), .val (.int r9), .val (.int mid), .val (.int (0 : Int32)), .val (.ref b14), .val (.int (sel &&& (7 : Int32))), .unset, .unset, .unset] [])) _
              refine XS.iload X14.here hx rfl (hb hby at_118) rfl ?_
              show Steps p.tables e below (T14.setTop (mkF m 120 #[.val (.int qx), .val (.int qy), .val (.int qz), .val (.int wq), .val (.int sel), .val (.int r4), .val (.int r9), .val (.int mid), .val (.int (0 : Int32)), .val (.ref b14), .val (.int (sel &&& (7 : Int32))), .unset, .unset, .unset] [(.int mid)])) _
              refine XS.istore X14.here hx rfl (hb hby at_120) rfl (l' := #[.val (.int qx), .val (.int qy), .val (.int qz), .val (.int wq), .val (.int sel), .val (.int r4), .val (.int r9), .val (.int mid), .val (.int (0 : Int32)), .val (.ref b14), .val (.int (sel &&& (7 : Int32))), .val (.int mid), .unset, .unset]) rfl ?_
              show Steps p.tables e below (T14.setTop (mkF m 122 #[.val (.int qx), .val (.int qy), .val (.int qz), .val (.int wq), .val (.int sel), .val (.int r4), .val (.int r9), .val (.int mid), .val (.int (0 : Int32)), .val (.ref b14), .val (.int (sel &&& (7 : Int32))), .val (.int mid), .unset, .unset] [])) _
              refine XS.goto X14.here hx rfl (pc0 := 122) (pc' := 187) rfl (hb hby at_122) (by decide) (by decide) ?_
              exact kt)
          exact ⟨mid, pre24⟩
        · -- no at pc 115: ttttt
          have pre25 : Goes p e below s₁ (entryFrame m #[(.int qx), (.int qy), (.int qz), (.int wq), (.int sel)] maxLocals) T14 (mkF m 128 #[.val (.int qx), .val (.int qy), .val (.int qz), .val (.int wq), .val (.int sel), .val (.int r4), .val (.int r9), .val (.int mid), .val (.int (0 : Int32)), .val (.ref b14), .val (.int (sel &&& (7 : Int32))), .unset, .unset, .unset] [(.int (2 : Int32)), (.int (sel &&& (7 : Int32)))]) := fun t kt => pre22 t (by
              show Steps p.tables e below (T14.setTop (mkF m 115 #[.val (.int qx), .val (.int qy), .val (.int qz), .val (.int wq), .val (.int sel), .val (.int r4), .val (.int r9), .val (.int mid), .val (.int (0 : Int32)), .val (.ref b14), .val (.int (sel &&& (7 : Int32))), .unset, .unset, .unset] [(.int (1 : Int32)), (.int (sel &&& (7 : Int32)))])) _
              refine XS.icmpYes X14.here hx rfl (pc0 := 115) (pc' := 125) rfl (hb hby at_115) rfl (feq hc115_23).2 (by decide) (by decide) ?_
              show Steps p.tables e below (T14.setTop (mkF m 125 #[.val (.int qx), .val (.int qy), .val (.int qz), .val (.int wq), .val (.int sel), .val (.int r4), .val (.int r9), .val (.int mid), .val (.int (0 : Int32)), .val (.ref b14), .val (.int (sel &&& (7 : Int32))), .unset, .unset, .unset] [])) _
              refine XS.iload X14.here hx rfl (hb hby at_125) rfl ?_
              show Steps p.tables e below (T14.setTop (mkF m 127 #[.val (.int qx), .val (.int qy), .val (.int qz), .val (.int wq), .val (.int sel), .val (.int r4), .val (.int r9), .val (.int mid), .val (.int (0 : Int32)), .val (.ref b14), .val (.int (sel &&& (7 : Int32))), .unset, .unset, .unset] [(.int (sel &&& (7 : Int32)))])) _
              refine XS.iconst X14.here hx rfl (hb hby at_127) ?_
              exact kt)
          by_cases hc128_26 : (sel &&& (7 : Int32)) = (2 : Int32)
          · -- yes at pc 128: tttttt
            have pre27 : Goes p e below s₁ (entryFrame m #[(.int qx), (.int qy), (.int qz), (.int wq), (.int sel)] maxLocals) T14 (mkF m 187 #[.val (.int qx), .val (.int qy), .val (.int qz), .val (.int wq), .val (.int sel), .val (.int r4), .val (.int r9), .val (.int mid), .val (.int (0 : Int32)), .val (.ref b14), .val (.int (sel &&& (7 : Int32))), .val (.int r9), .unset, .unset] []) := fun t kt => pre25 t (by
                show Steps p.tables e below (T14.setTop (mkF m 128 #[.val (.int qx), .val (.int qy), .val (.int qz), .val (.int wq), .val (.int sel), .val (.int r4), .val (.int r9), .val (.int mid), .val (.int (0 : Int32)), .val (.ref b14), .val (.int (sel &&& (7 : Int32))), .unset, .unset, .unset] [(.int (2 : Int32)), (.int (sel &&& (7 : Int32)))])) _
                refine XS.icmpNo X14.here hx rfl (hb hby at_128) rfl (teq hc128_26).2 ?_
                show Steps p.tables e below (T14.setTop (mkF m 131 #[.val (.int qx), .val (.int qy), .val (.int qz), .val (.int wq), .val (.int sel), .val (.int r4), .val (.int r9), .val (.int mid), .val (.int (0 : Int32)), .val (.ref b14), .val (.int (sel &&& (7 : Int32))), .unset, .unset, .unset] [])) _
                refine XS.iload X14.here hx rfl (hb hby at_131) rfl ?_
                show Steps p.tables e below (T14.setTop (mkF m 133 #[.val (.int qx), .val (.int qy), .val (.int qz), .val (.int wq), .val (.int sel), .val (.int r4), .val (.int r9), .val (.int mid), .val (.int (0 : Int32)), .val (.ref b14), .val (.int (sel &&& (7 : Int32))), .unset, .unset, .unset] [(.int r9)])) _
                refine XS.istore X14.here hx rfl (hb hby at_133) rfl (l' := #[.val (.int qx), .val (.int qy), .val (.int qz), .val (.int wq), .val (.int sel), .val (.int r4), .val (.int r9), .val (.int mid), .val (.int (0 : Int32)), .val (.ref b14), .val (.int (sel &&& (7 : Int32))), .val (.int r9), .unset, .unset]) rfl ?_
                show Steps p.tables e below (T14.setTop (mkF m 135 #[.val (.int qx), .val (.int qy), .val (.int qz), .val (.int wq), .val (.int sel), .val (.int r4), .val (.int r9), .val (.int mid), .val (.int (0 : Int32)), .val (.ref b14), .val (.int (sel &&& (7 : Int32))), .val (.int r9), .unset, .unset] [])) _
                refine XS.goto X14.here hx rfl (pc0 := 135) (pc' := 187) rfl (hb hby at_135) (by decide) (by decide) ?_
                exact kt)
            exact ⟨r9, pre27⟩
          · -- no at pc 128: tttttt
            have pre28 : Goes p e below s₁ (entryFrame m #[(.int qx), (.int qy), (.int qz), (.int wq), (.int sel)] maxLocals) T14 (mkF m 141 #[.val (.int qx), .val (.int qy), .val (.int qz), .val (.int wq), .val (.int sel), .val (.int r4), .val (.int r9), .val (.int mid), .val (.int (0 : Int32)), .val (.ref b14), .val (.int (sel &&& (7 : Int32))), .unset, .unset, .unset] [(.int (4 : Int32)), (.int (sel &&& (7 : Int32)))]) := fun t kt => pre25 t (by
                show Steps p.tables e below (T14.setTop (mkF m 128 #[.val (.int qx), .val (.int qy), .val (.int qz), .val (.int wq), .val (.int sel), .val (.int r4), .val (.int r9), .val (.int mid), .val (.int (0 : Int32)), .val (.ref b14), .val (.int (sel &&& (7 : Int32))), .unset, .unset, .unset] [(.int (2 : Int32)), (.int (sel &&& (7 : Int32)))])) _
                refine XS.icmpYes X14.here hx rfl (pc0 := 128) (pc' := 138) rfl (hb hby at_128) rfl (feq hc128_26).2 (by decide) (by decide) ?_
                show Steps p.tables e below (T14.setTop (mkF m 138 #[.val (.int qx), .val (.int qy), .val (.int qz), .val (.int wq), .val (.int sel), .val (.int r4), .val (.int r9), .val (.int mid), .val (.int (0 : Int32)), .val (.ref b14), .val (.int (sel &&& (7 : Int32))), .unset, .unset, .unset] [])) _
                refine XS.iload X14.here hx rfl (hb hby at_138) rfl ?_
                show Steps p.tables e below (T14.setTop (mkF m 140 #[.val (.int qx), .val (.int qy), .val (.int qz), .val (.int wq), .val (.int sel), .val (.int r4), .val (.int r9), .val (.int mid), .val (.int (0 : Int32)), .val (.ref b14), .val (.int (sel &&& (7 : Int32))), .unset, .unset, .unset] [(.int (sel &&& (7 : Int32)))])) _
                refine XS.iconst X14.here hx rfl (hb hby at_140) ?_
                exact kt)
            by_cases hc141_29 : (sel &&& (7 : Int32)) = (4 : Int32)
            · -- yes at pc 141: ttttttt
              have pre30 : Goes p e below s₁ (entryFrame m #[(.int qx), (.int qy), (.int qz), (.int wq), (.int sel)] maxLocals) T14 (mkF m 187 #[.val (.int qx), .val (.int qy), .val (.int qz), .val (.int wq), .val (.int sel), .val (.int r4), .val (.int r9), .val (.int mid), .val (.int (0 : Int32)), .val (.ref b14), .val (.int (sel &&& (7 : Int32))), .val (.int (r4 - (1 : Int32))), .unset, .unset] []) := fun t kt => pre28 t (by
                  show Steps p.tables e below (T14.setTop (mkF m 141 #[.val (.int qx), .val (.int qy), .val (.int qz), .val (.int wq), .val (.int sel), .val (.int r4), .val (.int r9), .val (.int mid), .val (.int (0 : Int32)), .val (.ref b14), .val (.int (sel &&& (7 : Int32))), .unset, .unset, .unset] [(.int (4 : Int32)), (.int (sel &&& (7 : Int32)))])) _
                  refine XS.icmpNo X14.here hx rfl (hb hby at_141) rfl (teq hc141_29).2 ?_
                  show Steps p.tables e below (T14.setTop (mkF m 144 #[.val (.int qx), .val (.int qy), .val (.int qz), .val (.int wq), .val (.int sel), .val (.int r4), .val (.int r9), .val (.int mid), .val (.int (0 : Int32)), .val (.ref b14), .val (.int (sel &&& (7 : Int32))), .unset, .unset, .unset] [])) _
                  refine XS.iload X14.here hx rfl (hb hby at_144) rfl ?_
                  show Steps p.tables e below (T14.setTop (mkF m 146 #[.val (.int qx), .val (.int qy), .val (.int qz), .val (.int wq), .val (.int sel), .val (.int r4), .val (.int r9), .val (.int mid), .val (.int (0 : Int32)), .val (.ref b14), .val (.int (sel &&& (7 : Int32))), .unset, .unset, .unset] [(.int r4)])) _
                  refine XS.iconst X14.here hx rfl (hb hby at_146) ?_
                  show Steps p.tables e below (T14.setTop (mkF m 147 #[.val (.int qx), .val (.int qy), .val (.int qz), .val (.int wq), .val (.int sel), .val (.int r4), .val (.int r9), .val (.int mid), .val (.int (0 : Int32)), .val (.ref b14), .val (.int (sel &&& (7 : Int32))), .unset, .unset, .unset] [(.int (1 : Int32)), (.int r4)])) _
                  refine XS.isub X14.here hx rfl (hb hby at_147) rfl ?_
                  show Steps p.tables e below (T14.setTop (mkF m 148 #[.val (.int qx), .val (.int qy), .val (.int qz), .val (.int wq), .val (.int sel), .val (.int r4), .val (.int r9), .val (.int mid), .val (.int (0 : Int32)), .val (.ref b14), .val (.int (sel &&& (7 : Int32))), .unset, .unset, .unset] [(.int (r4 - (1 : Int32)))])) _
                  refine XS.istore X14.here hx rfl (hb hby at_148) rfl (l' := #[.val (.int qx), .val (.int qy), .val (.int qz), .val (.int wq), .val (.int sel), .val (.int r4), .val (.int r9), .val (.int mid), .val (.int (0 : Int32)), .val (.ref b14), .val (.int (sel &&& (7 : Int32))), .val (.int (r4 - (1 : Int32))), .unset, .unset]) rfl ?_
                  show Steps p.tables e below (T14.setTop (mkF m 150 #[.val (.int qx), .val (.int qy), .val (.int qz), .val (.int wq), .val (.int sel), .val (.int r4), .val (.int r9), .val (.int mid), .val (.int (0 : Int32)), .val (.ref b14), .val (.int (sel &&& (7 : Int32))), .val (.int (r4 - (1 : Int32))), .unset, .unset] [])) _
                  refine XS.goto X14.here hx rfl (pc0 := 150) (pc' := 187) rfl (hb hby at_150) (by decide) (by decide) ?_
                  exact kt)
              exact ⟨(r4 - (1 : Int32)), pre30⟩
            · -- no at pc 141: ttttttt
              have pre31 : Goes p e below s₁ (entryFrame m #[(.int qx), (.int qy), (.int qz), (.int wq), (.int sel)] maxLocals) T14 (mkF m 156 #[.val (.int qx), .val (.int qy), .val (.int qz), .val (.int wq), .val (.int sel), .val (.int r4), .val (.int r9), .val (.int mid), .val (.int (0 : Int32)), .val (.ref b14), .val (.int (sel &&& (7 : Int32))), .unset, .unset, .unset] [(.int (5 : Int32)), (.int (sel &&& (7 : Int32)))]) := fun t kt => pre28 t (by
                  show Steps p.tables e below (T14.setTop (mkF m 141 #[.val (.int qx), .val (.int qy), .val (.int qz), .val (.int wq), .val (.int sel), .val (.int r4), .val (.int r9), .val (.int mid), .val (.int (0 : Int32)), .val (.ref b14), .val (.int (sel &&& (7 : Int32))), .unset, .unset, .unset] [(.int (4 : Int32)), (.int (sel &&& (7 : Int32)))])) _
                  refine XS.icmpYes X14.here hx rfl (pc0 := 141) (pc' := 153) rfl (hb hby at_141) rfl (feq hc141_29).2 (by decide) (by decide) ?_
                  show Steps p.tables e below (T14.setTop (mkF m 153 #[.val (.int qx), .val (.int qy), .val (.int qz), .val (.int wq), .val (.int sel), .val (.int r4), .val (.int r9), .val (.int mid), .val (.int (0 : Int32)), .val (.ref b14), .val (.int (sel &&& (7 : Int32))), .unset, .unset, .unset] [])) _
                  refine XS.iload X14.here hx rfl (hb hby at_153) rfl ?_
                  show Steps p.tables e below (T14.setTop (mkF m 155 #[.val (.int qx), .val (.int qy), .val (.int qz), .val (.int wq), .val (.int sel), .val (.int r4), .val (.int r9), .val (.int mid), .val (.int (0 : Int32)), .val (.ref b14), .val (.int (sel &&& (7 : Int32))), .unset, .unset, .unset] [(.int (sel &&& (7 : Int32)))])) _
                  refine XS.iconst X14.here hx rfl (hb hby at_155) ?_
                  exact kt)
              by_cases hc156_32 : (sel &&& (7 : Int32)) = (5 : Int32)
              · -- yes at pc 156: tttttttt
                have pre33 : Goes p e below s₁ (entryFrame m #[(.int qx), (.int qy), (.int qz), (.int wq), (.int sel)] maxLocals) T14 (mkF m 187 #[.val (.int qx), .val (.int qy), .val (.int qz), .val (.int wq), .val (.int sel), .val (.int r4), .val (.int r9), .val (.int mid), .val (.int (0 : Int32)), .val (.ref b14), .val (.int (sel &&& (7 : Int32))), .val (.int (r9 + (1 : Int32))), .unset, .unset] []) := fun t kt => pre31 t (by
                    show Steps p.tables e below (T14.setTop (mkF m 156 #[.val (.int qx), .val (.int qy), .val (.int qz), .val (.int wq), .val (.int sel), .val (.int r4), .val (.int r9), .val (.int mid), .val (.int (0 : Int32)), .val (.ref b14), .val (.int (sel &&& (7 : Int32))), .unset, .unset, .unset] [(.int (5 : Int32)), (.int (sel &&& (7 : Int32)))])) _
                    refine XS.icmpNo X14.here hx rfl (hb hby at_156) rfl (teq hc156_32).2 ?_
                    show Steps p.tables e below (T14.setTop (mkF m 159 #[.val (.int qx), .val (.int qy), .val (.int qz), .val (.int wq), .val (.int sel), .val (.int r4), .val (.int r9), .val (.int mid), .val (.int (0 : Int32)), .val (.ref b14), .val (.int (sel &&& (7 : Int32))), .unset, .unset, .unset] [])) _
                    refine XS.iload X14.here hx rfl (hb hby at_159) rfl ?_
                    show Steps p.tables e below (T14.setTop (mkF m 161 #[.val (.int qx), .val (.int qy), .val (.int qz), .val (.int wq), .val (.int sel), .val (.int r4), .val (.int r9), .val (.int mid), .val (.int (0 : Int32)), .val (.ref b14), .val (.int (sel &&& (7 : Int32))), .unset, .unset, .unset] [(.int r9)])) _
                    refine XS.iconst X14.here hx rfl (hb hby at_161) ?_
                    show Steps p.tables e below (T14.setTop (mkF m 162 #[.val (.int qx), .val (.int qy), .val (.int qz), .val (.int wq), .val (.int sel), .val (.int r4), .val (.int r9), .val (.int mid), .val (.int (0 : Int32)), .val (.ref b14), .val (.int (sel &&& (7 : Int32))), .unset, .unset, .unset] [(.int (1 : Int32)), (.int r9)])) _
                    refine XS.iadd X14.here hx rfl (hb hby at_162) rfl ?_
                    show Steps p.tables e below (T14.setTop (mkF m 163 #[.val (.int qx), .val (.int qy), .val (.int qz), .val (.int wq), .val (.int sel), .val (.int r4), .val (.int r9), .val (.int mid), .val (.int (0 : Int32)), .val (.ref b14), .val (.int (sel &&& (7 : Int32))), .unset, .unset, .unset] [(.int (r9 + (1 : Int32)))])) _
                    refine XS.istore X14.here hx rfl (hb hby at_163) rfl (l' := #[.val (.int qx), .val (.int qy), .val (.int qz), .val (.int wq), .val (.int sel), .val (.int r4), .val (.int r9), .val (.int mid), .val (.int (0 : Int32)), .val (.ref b14), .val (.int (sel &&& (7 : Int32))), .val (.int (r9 + (1 : Int32))), .unset, .unset]) rfl ?_
                    show Steps p.tables e below (T14.setTop (mkF m 165 #[.val (.int qx), .val (.int qy), .val (.int qz), .val (.int wq), .val (.int sel), .val (.int r4), .val (.int r9), .val (.int mid), .val (.int (0 : Int32)), .val (.ref b14), .val (.int (sel &&& (7 : Int32))), .val (.int (r9 + (1 : Int32))), .unset, .unset] [])) _
                    refine XS.goto X14.here hx rfl (pc0 := 165) (pc' := 187) rfl (hb hby at_165) (by decide) (by decide) ?_
                    exact kt)
                exact ⟨(r9 + (1 : Int32)), pre33⟩
              · -- no at pc 156: tttttttt
                have pre34 : Goes p e below s₁ (entryFrame m #[(.int qx), (.int qy), (.int qz), (.int wq), (.int sel)] maxLocals) T14 (mkF m 172 #[.val (.int qx), .val (.int qy), .val (.int qz), .val (.int wq), .val (.int sel), .val (.int r4), .val (.int r9), .val (.int mid), .val (.int (0 : Int32)), .val (.ref b14), .val (.int (sel &&& (7 : Int32))), .unset, .unset, .unset] [(.int (6 : Int32)), (.int (sel &&& (7 : Int32)))]) := fun t kt => pre31 t (by
                    show Steps p.tables e below (T14.setTop (mkF m 156 #[.val (.int qx), .val (.int qy), .val (.int qz), .val (.int wq), .val (.int sel), .val (.int r4), .val (.int r9), .val (.int mid), .val (.int (0 : Int32)), .val (.ref b14), .val (.int (sel &&& (7 : Int32))), .unset, .unset, .unset] [(.int (5 : Int32)), (.int (sel &&& (7 : Int32)))])) _
                    refine XS.icmpYes X14.here hx rfl (pc0 := 156) (pc' := 168) rfl (hb hby at_156) rfl (feq hc156_32).2 (by decide) (by decide) ?_
                    show Steps p.tables e below (T14.setTop (mkF m 168 #[.val (.int qx), .val (.int qy), .val (.int qz), .val (.int wq), .val (.int sel), .val (.int r4), .val (.int r9), .val (.int mid), .val (.int (0 : Int32)), .val (.ref b14), .val (.int (sel &&& (7 : Int32))), .unset, .unset, .unset] [])) _
                    refine XS.iload X14.here hx rfl (hb hby at_168) rfl ?_
                    show Steps p.tables e below (T14.setTop (mkF m 170 #[.val (.int qx), .val (.int qy), .val (.int qz), .val (.int wq), .val (.int sel), .val (.int r4), .val (.int r9), .val (.int mid), .val (.int (0 : Int32)), .val (.ref b14), .val (.int (sel &&& (7 : Int32))), .unset, .unset, .unset] [(.int (sel &&& (7 : Int32)))])) _
                    refine XS.bipush X14.here hx rfl (hb hby at_170) ?_
                    exact kt)
                by_cases hc172_35 : (sel &&& (7 : Int32)) = (6 : Int32)
                · -- yes at pc 172: ttttttttt
                  have pre36 : Goes p e below s₁ (entryFrame m #[(.int qx), (.int qy), (.int qz), (.int wq), (.int sel)] maxLocals) T14 (mkF m 187 #[.val (.int qx), .val (.int qy), .val (.int qz), .val (.int wq), .val (.int sel), .val (.int r4), .val (.int r9), .val (.int mid), .val (.int (0 : Int32)), .val (.ref b14), .val (.int (sel &&& (7 : Int32))), .val (.int (mid + (1 : Int32))), .unset, .unset] []) := fun t kt => pre34 t (by
                      show Steps p.tables e below (T14.setTop (mkF m 172 #[.val (.int qx), .val (.int qy), .val (.int qz), .val (.int wq), .val (.int sel), .val (.int r4), .val (.int r9), .val (.int mid), .val (.int (0 : Int32)), .val (.ref b14), .val (.int (sel &&& (7 : Int32))), .unset, .unset, .unset] [(.int (6 : Int32)), (.int (sel &&& (7 : Int32)))])) _
                      refine XS.icmpNo X14.here hx rfl (hb hby at_172) rfl (teq hc172_35).2 ?_
                      show Steps p.tables e below (T14.setTop (mkF m 175 #[.val (.int qx), .val (.int qy), .val (.int qz), .val (.int wq), .val (.int sel), .val (.int r4), .val (.int r9), .val (.int mid), .val (.int (0 : Int32)), .val (.ref b14), .val (.int (sel &&& (7 : Int32))), .unset, .unset, .unset] [])) _
                      refine XS.iload X14.here hx rfl (hb hby at_175) rfl ?_
                      show Steps p.tables e below (T14.setTop (mkF m 177 #[.val (.int qx), .val (.int qy), .val (.int qz), .val (.int wq), .val (.int sel), .val (.int r4), .val (.int r9), .val (.int mid), .val (.int (0 : Int32)), .val (.ref b14), .val (.int (sel &&& (7 : Int32))), .unset, .unset, .unset] [(.int mid)])) _
                      refine XS.iconst X14.here hx rfl (hb hby at_177) ?_
                      show Steps p.tables e below (T14.setTop (mkF m 178 #[.val (.int qx), .val (.int qy), .val (.int qz), .val (.int wq), .val (.int sel), .val (.int r4), .val (.int r9), .val (.int mid), .val (.int (0 : Int32)), .val (.ref b14), .val (.int (sel &&& (7 : Int32))), .unset, .unset, .unset] [(.int (1 : Int32)), (.int mid)])) _
                      refine XS.iadd X14.here hx rfl (hb hby at_178) rfl ?_
                      show Steps p.tables e below (T14.setTop (mkF m 179 #[.val (.int qx), .val (.int qy), .val (.int qz), .val (.int wq), .val (.int sel), .val (.int r4), .val (.int r9), .val (.int mid), .val (.int (0 : Int32)), .val (.ref b14), .val (.int (sel &&& (7 : Int32))), .unset, .unset, .unset] [(.int (mid + (1 : Int32)))])) _
                      refine XS.istore X14.here hx rfl (hb hby at_179) rfl (l' := #[.val (.int qx), .val (.int qy), .val (.int qz), .val (.int wq), .val (.int sel), .val (.int r4), .val (.int r9), .val (.int mid), .val (.int (0 : Int32)), .val (.ref b14), .val (.int (sel &&& (7 : Int32))), .val (.int (mid + (1 : Int32))), .unset, .unset]) rfl ?_
                      show Steps p.tables e below (T14.setTop (mkF m 181 #[.val (.int qx), .val (.int qy), .val (.int qz), .val (.int wq), .val (.int sel), .val (.int r4), .val (.int r9), .val (.int mid), .val (.int (0 : Int32)), .val (.ref b14), .val (.int (sel &&& (7 : Int32))), .val (.int (mid + (1 : Int32))), .unset, .unset] [])) _
                      refine XS.goto X14.here hx rfl (pc0 := 181) (pc' := 187) rfl (hb hby at_181) (by decide) (by decide) ?_
                      exact kt)
                  exact ⟨(mid + (1 : Int32)), pre36⟩
                · -- no at pc 172: ttttttttt
                  have pre37 : Goes p e below s₁ (entryFrame m #[(.int qx), (.int qy), (.int qz), (.int wq), (.int sel)] maxLocals) T14 (mkF m 187 #[.val (.int qx), .val (.int qy), .val (.int qz), .val (.int wq), .val (.int sel), .val (.int r4), .val (.int r9), .val (.int mid), .val (.int (0 : Int32)), .val (.ref b14), .val (.int (sel &&& (7 : Int32))), .val (.int wq), .unset, .unset] []) := fun t kt => pre34 t (by
                      show Steps p.tables e below (T14.setTop (mkF m 172 #[.val (.int qx), .val (.int qy), .val (.int qz), .val (.int wq), .val (.int sel), .val (.int r4), .val (.int r9), .val (.int mid), .val (.int (0 : Int32)), .val (.ref b14), .val (.int (sel &&& (7 : Int32))), .unset, .unset, .unset] [(.int (6 : Int32)), (.int (sel &&& (7 : Int32)))])) _
                      refine XS.icmpYes X14.here hx rfl (pc0 := 172) (pc' := 184) rfl (hb hby at_172) rfl (feq hc172_35).2 (by decide) (by decide) ?_
                      show Steps p.tables e below (T14.setTop (mkF m 184 #[.val (.int qx), .val (.int qy), .val (.int qz), .val (.int wq), .val (.int sel), .val (.int r4), .val (.int r9), .val (.int mid), .val (.int (0 : Int32)), .val (.ref b14), .val (.int (sel &&& (7 : Int32))), .unset, .unset, .unset] [])) _
                      refine XS.iloadN X14.here hx rfl (hb hby at_184) rfl ?_
                      show Steps p.tables e below (T14.setTop (mkF m 185 #[.val (.int qx), .val (.int qy), .val (.int qz), .val (.int wq), .val (.int sel), .val (.int r4), .val (.int r9), .val (.int mid), .val (.int (0 : Int32)), .val (.ref b14), .val (.int (sel &&& (7 : Int32))), .unset, .unset, .unset] [(.int wq)])) _
                      refine XS.istore X14.here hx rfl (hb hby at_185) rfl (l' := #[.val (.int qx), .val (.int qy), .val (.int qz), .val (.int wq), .val (.int sel), .val (.int r4), .val (.int r9), .val (.int mid), .val (.int (0 : Int32)), .val (.ref b14), .val (.int (sel &&& (7 : Int32))), .val (.int wq), .unset, .unset]) rfl ?_
                      exact kt)
                  exact ⟨wq, pre37⟩
    obtain ⟨T38, h38, X38, e38, E38, A38, DD38, -, st38⟩ := newO X14 hx hZ hown (hw _ (List.mem_of_getElem? (i := 8) rfl)) (hw _ (List.mem_of_getElem? (i := 9) rfl)) (hw _ (List.mem_of_getElem? (i := 10) rfl)) e14 (g := (mkF m 187 #[.val (.int qx), .val (.int qy), .val (.int qz), .val (.int wq), .val (.int sel), .val (.int r4), .val (.int r9), .val (.int mid), .val (.int (0 : Int32)), .val (.ref b14), .val (.int (sel &&& (7 : Int32))), .val (.int vv), .unset, .unset] [])) rfl (hb hby at_187) (by decide) (by decide)
    obtain ⟨b38, g38⟩ : ∃ z, z = h14.size := ⟨_, rfl⟩
    rw [← g38] at A38 DD38 st38
    have F_name_b38 : Fld Z h38 b38 "com/example/ferry/ferry/FormatVersions" "name" "Ljava/lang/String;" .null := DD38 (Or.inr (hw _ (List.mem_of_getElem? (i := 26) rfl))) (ty := (.object "java/lang/String")) (by decide)
    have F_versions_b38 : Fld Z h38 b38 "com/example/ferry/ferry/FormatVersions" "versions" "[I" .null := DD38 (Or.inr (hw _ (List.mem_of_getElem? (i := 37) rfl))) (ty := (.array .int)) (by decide)
    have g_b38 : n0 ≤ b38 := Nat.le_trans (Nat.le_trans Z0 E14.1) (Nat.le_of_eq g38.symm)
    have sz_b38 : h0.size ≤ b38 := (Nat.le_trans K14.1 (Nat.le_of_eq g38.symm))
    have K38 : Keep h0 h38 [] := K14.ext E38
    have pre39 : Goes p e below s₁ (entryFrame m #[(.int qx), (.int qy), (.int qz), (.int wq), (.int sel)] maxLocals) T38 (mkF m 190 #[.val (.int qx), .val (.int qy), .val (.int qz), .val (.int wq), .val (.int sel), .val (.int r4), .val (.int r9), .val (.int mid), .val (.int (0 : Int32)), .val (.ref b14), .val (.int (sel &&& (7 : Int32))), .val (.int vv), .unset, .unset] [(.ref b38)]) := fun t kt => pre18 t (st38 t kt)
    have pre40 : Goes p e below s₁ (entryFrame m #[(.int qx), (.int qy), (.int qz), (.int wq), (.int sel)] maxLocals) T38 (mkF m 191 #[.val (.int qx), .val (.int qy), .val (.int qz), .val (.int wq), .val (.int sel), .val (.int r4), .val (.int r9), .val (.int mid), .val (.int (0 : Int32)), .val (.ref b14), .val (.int (sel &&& (7 : Int32))), .val (.int vv), .unset, .unset] [(.ref b38), (.ref b38)]) := fun t kt => pre39 t (by
        show Steps p.tables e below (T38.setTop (mkF m 190 #[.val (.int qx), .val (.int qy), .val (.int qz), .val (.int wq), .val (.int sel), .val (.int r4), .val (.int r9), .val (.int mid), .val (.int (0 : Int32)), .val (.ref b14), .val (.int (sel &&& (7 : Int32))), .val (.int vv), .unset, .unset] [(.ref b38)])) _
        refine XS.dup X38.here hx rfl (hb hby at_190) rfl rfl ?_
        exact kt)
    have wS41 : ∀ a ∈ Bundle.stringAtoms, a.before a0 Z = true := fun d hd => by
      simp only [Bundle.stringAtoms, List.mem_cons, List.not_mem_nil, or_false] at hd
      rcases hd with rfl | rfl | rfl | rfl | rfl | rfl | rfl
      · exact (hw _ (List.mem_of_getElem? (i := 12) rfl))
      · exact (hw _ (List.mem_of_getElem? (i := 13) rfl))
      · exact (hw _ (List.mem_of_getElem? (i := 14) rfl))
      · exact (hw _ (List.mem_of_getElem? (i := 15) rfl))
      · exact (hw _ (List.mem_of_getElem? (i := 16) rfl))
      · exact (hw _ (List.mem_of_getElem? (i := 17) rfl))
      · exact (hw _ (List.mem_of_getElem? (i := 18) rfl))
    obtain ⟨sa41, T41, h41, kk41, X41, e41, E41, hS41, hk41, hZ, hown, st41⟩ := ldcS (s := s) (vm0 := s.vm) X38 hx hZ hown (hw _ (List.mem_of_getElem? (i := 11) rfl)) wS41 e38 (State.WarmedH.since (State.WarmedH.refl s) 0) (Nat.zero_le _) (g := (mkF m 191 #[.val (.int qx), .val (.int qy), .val (.int qz), .val (.int wq), .val (.int sel), .val (.int r4), .val (.int r9), .val (.int mid), .val (.int (0 : Int32)), .val (.ref b14), .val (.int (sel &&& (7 : Int32))), .val (.int vv), .unset, .unset] [(.ref b38), (.ref b38)])) rfl (hb hby at_191) (n := 56) (by decide) (by decide) (by decide) (by decide)
    have K41 : Keep h0 h41 [] := K38.ext E41
    have pre42 : Goes p e below s₁ (entryFrame m #[(.int qx), (.int qy), (.int qz), (.int wq), (.int sel)] maxLocals) T41 (mkF m 193 #[.val (.int qx), .val (.int qy), .val (.int qz), .val (.int wq), .val (.int sel), .val (.int r4), .val (.int r9), .val (.int mid), .val (.int (0 : Int32)), .val (.ref b14), .val (.int (sel &&& (7 : Int32))), .val (.int vv), .unset, .unset] [(.ref sa41), (.ref b38), (.ref b38)]) := fun t kt => pre40 t (st41 t kt)
    have pre43 : Goes p e below s₁ (entryFrame m #[(.int qx), (.int qy), (.int qz), (.int wq), (.int sel)] maxLocals) T41 (mkF m 195 #[.val (.int qx), .val (.int qy), .val (.int qz), .val (.int wq), .val (.int sel), .val (.int r4), .val (.int r9), .val (.int mid), .val (.int (0 : Int32)), .val (.ref b14), .val (.int (sel &&& (7 : Int32))), .val (.int vv), .unset, .unset] [(.ref b14), (.ref sa41), (.ref b38), (.ref b38)]) := fun t kt => pre42 t (by
        show Steps p.tables e below (T41.setTop (mkF m 193 #[.val (.int qx), .val (.int qy), .val (.int qz), .val (.int wq), .val (.int sel), .val (.int r4), .val (.int r9), .val (.int mid), .val (.int (0 : Int32)), .val (.ref b14), .val (.int (sel &&& (7 : Int32))), .val (.int vv), .unset, .unset] [(.ref sa41), (.ref b38), (.ref b38)])) _
        refine XS.aload X41.here hx rfl (hb hby at_193) rfl rfl ?_
        exact kt)
    obtain ⟨_, _, ⟨T44, L44, k44, n44⟩, -, X44, ⟨Lc44, hQ44, l44, y44, z44⟩, st44⟩ := X41.specialBack hx (y := (⟨"com/example/ferry/ferry/FormatVersions", "<init>", "(Ljava/lang/String;[I)V"⟩ : MethodName)) rfl hown (mvT hZ (hw _ (List.mem_of_getElem? (i := 19) rfl))) (mvT hZ (hw _ (List.mem_of_getElem? (i := 20) rfl))) (mvT hZ (hw _ (List.mem_of_getElem? (i := 21) rfl))) (by decide) (backOf (W := 1) (own_init l Z a0 hw [] b38 sa41 b14 k14 (0 : Int32) [] h41 n0 (Nat.le_trans (Nat.le_trans (Nat.le_trans Z0 E14.1) E38.1) E41.1) (A38.ext E41) (F_name_b38.ext E41) (F_versions_b38.ext E41) g_b38 ((V_b14.ext E38).ext E41) ((XA14.ext E38).ext E41) (Nat.ne_of_lt (Nat.lt_of_lt_of_le XA14.lt (Nat.le_of_eq g38.symm))) (by decide)) hZ (hw _ (List.mem_of_getElem? (i := 21) rfl)) (hw _ (List.mem_of_getElem? (i := 10) rfl)) (by decide) (by decide)) (g := (mkF m 195 #[.val (.int qx), .val (.int qy), .val (.int qz), .val (.int wq), .val (.int sel), .val (.int r4), .val (.int r9), .val (.int mid), .val (.int (0 : Int32)), .val (.ref b14), .val (.int (sel &&& (7 : Int32))), .val (.int vv), .unset, .unset] [(.ref b14), (.ref sa41), (.ref b38), (.ref b38)])) rfl (by rw [hml]; rfl) (Steps.refl _) (a := b38) (argsL := [(.ref sa41), (.ref b14)]) (rest := [(.ref b38)]) (lenOf own_pd1 rfl) rfl (by show 2 * 0 + _ ≤ _; exact Nat.le_of_eq rfl) (hb hby at_195) (fun _ _ => ⟨rfl, e41, (by decide : 4 + 1 ≤ _), (by decide : 62 + 3 ≤ _)⟩)
    dsimp only [Pt.U, Pt.locs, Pt.cells, Pt.slots] at X44 l44 y44 z44 st44 hQ44
    subst l44 y44 z44
    obtain ⟨rfl, N44q, K44q, t44, Fv44, Vt44⟩ := hQ44
    have N44 := Fr.app N9 N44q
    have KC44 : Keep h0 T44.heap [] := K41.trans K44q (allS (Or.inr sz_b38) all0)
    have pre45 : Goes p e below s₁ (entryFrame m #[(.int qx), (.int qy), (.int qz), (.int wq), (.int sel)] maxLocals) T44 (mkF m 198 #[.val (.int qx), .val (.int qy), .val (.int qz), .val (.int wq), .val (.int sel), .val (.int r4), .val (.int r9), .val (.int mid), .val (.int (0 : Int32)), .val (.ref b14), .val (.int (sel &&& (7 : Int32))), .val (.int vv), .unset, .unset] [(.ref b38)]) := fun t kt => pre43 t (st44.trans kt)
    have pre46 : Goes p e below s₁ (entryFrame m #[(.int qx), (.int qy), (.int qz), (.int wq), (.int sel)] maxLocals) T44 (mkF m 200 #[.val (.int qx), .val (.int qy), .val (.int qz), .val (.int wq), .val (.int sel), .val (.int r4), .val (.int r9), .val (.int mid), .val (.int (0 : Int32)), .val (.ref b14), .val (.int (sel &&& (7 : Int32))), .val (.int vv), .val (.ref b38), .unset] []) := fun t kt => pre45 t (by
        show Steps p.tables e below (T44.setTop (mkF m 198 #[.val (.int qx), .val (.int qy), .val (.int qz), .val (.int wq), .val (.int sel), .val (.int r4), .val (.int r9), .val (.int mid), .val (.int (0 : Int32)), .val (.ref b14), .val (.int (sel &&& (7 : Int32))), .val (.int vv), .unset, .unset] [(.ref b38)])) _
        refine XS.astore X44.here hx rfl (hb hby at_198) rfl rfl (l' := #[.val (.int qx), .val (.int qy), .val (.int qz), .val (.int wq), .val (.int sel), .val (.int r4), .val (.int r9), .val (.int mid), .val (.int (0 : Int32)), .val (.ref b14), .val (.int (sel &&& (7 : Int32))), .val (.int vv), .val (.ref b38), .unset]) rfl ?_
        exact kt)
    obtain ⟨ex, hex, pre48⟩ : ∃ (ex : Int32), (ex = 0) ∧ Goes p e below s₁ (entryFrame m #[(.int qx), (.int qy), (.int qz), (.int wq), (.int sel)] maxLocals) T44 (mkF m 245 #[.val (.int qx), .val (.int qy), .val (.int qz), .val (.int wq), .val (.int sel), .val (.int r4), .val (.int r9), .val (.int mid), .val (.int (0 : Int32)), .val (.ref b14), .val (.int (sel &&& (7 : Int32))), .val (.int vv), .val (.ref b38), .val (.int ex)] []) := by
      have pre49 : Goes p e below s₁ (entryFrame m #[(.int qx), (.int qy), (.int qz), (.int wq), (.int sel)] maxLocals) T44 (mkF m 245 #[.val (.int qx), .val (.int qy), .val (.int qz), .val (.int wq), .val (.int sel), .val (.int r4), .val (.int r9), .val (.int mid), .val (.int (0 : Int32)), .val (.ref b14), .val (.int (sel &&& (7 : Int32))), .val (.int vv), .val (.ref b38), .val (.int (0 : Int32))] []) := fun t kt => pre46 t (by
          show Steps p.tables e below (T44.setTop (mkF m 200 #[.val (.int qx), .val (.int qy), .val (.int qz), .val (.int wq), .val (.int sel), .val (.int r4), .val (.int r9), .val (.int mid), .val (.int (0 : Int32)), .val (.ref b14), .val (.int (sel &&& (7 : Int32))), .val (.int vv), .val (.ref b38), .unset] [])) _
          refine XS.iload X44.here hx rfl (hb hby at_200) rfl ?_
          show Steps p.tables e below (T44.setTop (mkF m 202 #[.val (.int qx), .val (.int qy), .val (.int qz), .val (.int wq), .val (.int sel), .val (.int r4), .val (.int r9), .val (.int mid), .val (.int (0 : Int32)), .val (.ref b14), .val (.int (sel &&& (7 : Int32))), .val (.int vv), .val (.ref b38), .unset] [(.int (0 : Int32))])) _
          refine XS.ifYes X44.here hx rfl (pc0 := 202) (pc' := 212) rfl (hb hby at_202) rfl ((if0 _ _).trans (flt (by decide : ¬ ((0 : Int32) < (0 : Int32)))).2.2.2) (by decide) (by decide) ?_
          show Steps p.tables e below (T44.setTop (mkF m 212 #[.val (.int qx), .val (.int qy), .val (.int qz), .val (.int wq), .val (.int sel), .val (.int r4), .val (.int r9), .val (.int mid), .val (.int (0 : Int32)), .val (.ref b14), .val (.int (sel &&& (7 : Int32))), .val (.int vv), .val (.ref b38), .unset] [])) _
          refine XS.iload X44.here hx rfl (hb hby at_212) rfl ?_
          show Steps p.tables e below (T44.setTop (mkF m 214 #[.val (.int qx), .val (.int qy), .val (.int qz), .val (.int wq), .val (.int sel), .val (.int r4), .val (.int r9), .val (.int mid), .val (.int (0 : Int32)), .val (.ref b14), .val (.int (sel &&& (7 : Int32))), .val (.int vv), .val (.ref b38), .unset] [(.int (0 : Int32))])) _
          refine XS.iconst X44.here hx rfl (hb hby at_214) ?_
          show Steps p.tables e below (T44.setTop (mkF m 215 #[.val (.int qx), .val (.int qy), .val (.int qz), .val (.int wq), .val (.int sel), .val (.int r4), .val (.int r9), .val (.int mid), .val (.int (0 : Int32)), .val (.ref b14), .val (.int (sel &&& (7 : Int32))), .val (.int vv), .val (.ref b38), .unset] [(.int (1 : Int32)), (.int (0 : Int32))])) _
          refine XS.icmpYes X44.here hx rfl (pc0 := 215) (pc' := 225) rfl (hb hby at_215) rfl (flt (by decide : ¬ ((1 : Int32) < (0 : Int32)))).2.2.2 (by decide) (by decide) ?_
          show Steps p.tables e below (T44.setTop (mkF m 225 #[.val (.int qx), .val (.int qy), .val (.int qz), .val (.int wq), .val (.int sel), .val (.int r4), .val (.int r9), .val (.int mid), .val (.int (0 : Int32)), .val (.ref b14), .val (.int (sel &&& (7 : Int32))), .val (.int vv), .val (.ref b38), .unset] [])) _
          refine XS.iload X44.here hx rfl (hb hby at_225) rfl ?_
          show Steps p.tables e below (T44.setTop (mkF m 227 #[.val (.int qx), .val (.int qy), .val (.int qz), .val (.int wq), .val (.int sel), .val (.int r4), .val (.int r9), .val (.int mid), .val (.int (0 : Int32)), .val (.ref b14), .val (.int (sel &&& (7 : Int32))), .val (.int vv), .val (.ref b38), .unset] [(.int (0 : Int32))])) _
          refine XS.iconst X44.here hx rfl (hb hby at_227) ?_
          show Steps p.tables e below (T44.setTop (mkF m 228 #[.val (.int qx), .val (.int qy), .val (.int qz), .val (.int wq), .val (.int sel), .val (.int r4), .val (.int r9), .val (.int mid), .val (.int (0 : Int32)), .val (.ref b14), .val (.int (sel &&& (7 : Int32))), .val (.int vv), .val (.ref b38), .unset] [(.int (2 : Int32)), (.int (0 : Int32))])) _
          refine XS.icmpYes X44.here hx rfl (pc0 := 228) (pc' := 242) rfl (hb hby at_228) rfl (flt (by decide : ¬ ((2 : Int32) < (0 : Int32)))).2.2.2 (by decide) (by decide) ?_
          show Steps p.tables e below (T44.setTop (mkF m 242 #[.val (.int qx), .val (.int qy), .val (.int qz), .val (.int wq), .val (.int sel), .val (.int r4), .val (.int r9), .val (.int mid), .val (.int (0 : Int32)), .val (.ref b14), .val (.int (sel &&& (7 : Int32))), .val (.int vv), .val (.ref b38), .unset] [])) _
          refine XS.iconst X44.here hx rfl (hb hby at_242) ?_
          show Steps p.tables e below (T44.setTop (mkF m 243 #[.val (.int qx), .val (.int qy), .val (.int qz), .val (.int wq), .val (.int sel), .val (.int r4), .val (.int r9), .val (.int mid), .val (.int (0 : Int32)), .val (.ref b14), .val (.int (sel &&& (7 : Int32))), .val (.int vv), .val (.ref b38), .unset] [(.int (0 : Int32))])) _
          refine XS.istore X44.here hx rfl (hb hby at_243) rfl (l' := #[.val (.int qx), .val (.int qy), .val (.int qz), .val (.int wq), .val (.int sel), .val (.int r4), .val (.int r9), .val (.int mid), .val (.int (0 : Int32)), .val (.ref b14), .val (.int (sel &&& (7 : Int32))), .val (.int vv), .val (.ref b38), .val (.int (0 : Int32))]) rfl ?_
          exact kt)
      exact ⟨(0 : Int32), rfl, pre49⟩
    have pre50 : Goes p e below s₁ (entryFrame m #[(.int qx), (.int qy), (.int qz), (.int wq), (.int sel)] maxLocals) T44 (mkF m 249 #[.val (.int qx), .val (.int qy), .val (.int qz), .val (.int wq), .val (.int sel), .val (.int r4), .val (.int r9), .val (.int mid), .val (.int (0 : Int32)), .val (.ref b14), .val (.int (sel &&& (7 : Int32))), .val (.int vv), .val (.ref b38), .val (.int ex)] [(.int vv), (.ref b38)]) := fun t kt => pre48 t (by
        show Steps p.tables e below (T44.setTop (mkF m 245 #[.val (.int qx), .val (.int qy), .val (.int qz), .val (.int wq), .val (.int sel), .val (.int r4), .val (.int r9), .val (.int mid), .val (.int (0 : Int32)), .val (.ref b14), .val (.int (sel &&& (7 : Int32))), .val (.int vv), .val (.ref b38), .val (.int ex)] [])) _
        refine XS.aload X44.here hx rfl (hb hby at_245) rfl rfl ?_
        show Steps p.tables e below (T44.setTop (mkF m 247 #[.val (.int qx), .val (.int qy), .val (.int qz), .val (.int wq), .val (.int sel), .val (.int r4), .val (.int r9), .val (.int mid), .val (.int (0 : Int32)), .val (.ref b14), .val (.int (sel &&& (7 : Int32))), .val (.int vv), .val (.ref b38), .val (.int ex)] [(.ref b38)])) _
        refine XS.iload X44.here hx rfl (hb hby at_247) rfl ?_
        exact kt)
    obtain ⟨cq51, kq51, q51a, q51b, q51c⟩ := isOf hZ rfl ((A38.ext E41).keep K44q)
    obtain ⟨_, _, ⟨T51, L51, k51, n51⟩, -, X51, ⟨Lc51, hQ51, l51, y51, z51⟩, st51⟩ := X44.virtualBack hx (y := (⟨"com/example/ferry/ferry/FormatVersions", "reads", "(I)Z"⟩ : MethodName)) (z := (⟨"com/example/ferry/ferry/FormatVersions", "reads", "(I)Z"⟩ : MethodName)) hown (mvT hZ (hw _ (List.mem_of_getElem? (i := 38) rfl))) (mvT hZ (hw _ (List.mem_of_getElem? (i := 39) rfl))) (notFace_of_selects (args := #[]) (mvT hZ (hw _ (List.mem_of_getElem? (i := 41) rfl)))) (mvT hZ (hw _ (List.mem_of_getElem? (i := 41) rfl))) (mvT hZ (hw _ (List.mem_of_getElem? (i := 40) rfl))) (by decide) (backOf (W := 0) (own_reads0 l Z a0 hw [] b38 vv t44 k14  ex T44.heap n0 (Nat.le_trans (Nat.le_trans (Nat.le_trans (Nat.le_trans Z0 E14.1) E38.1) E41.1) K44q.1) Fv44 Vt44 hex) hZ (hw _ (List.mem_of_getElem? (i := 42) rfl)) (hw _ (List.mem_of_getElem? (i := 10) rfl)) (by decide) (by decide)) q51a q51c (g := (mkF m 249 #[.val (.int qx), .val (.int qy), .val (.int qz), .val (.int wq), .val (.int sel), .val (.int r4), .val (.int r9), .val (.int mid), .val (.int (0 : Int32)), .val (.ref b14), .val (.int (sel &&& (7 : Int32))), .val (.int vv), .val (.ref b38), .val (.int ex)] [(.int vv), (.ref b38)])) rfl (by rw [hml]; rfl) (Steps.refl _) (argsL := [(.int vv)]) (rest := []) (lenOf own_pd2 rfl) rfl (by show 2 * 0 + _ ≤ _; exact Nat.le_of_eq rfl) (hb hby at_249) (fun _ _ => ⟨rfl, rfl, (by decide : 5 + 0 ≤ _), (by decide : 65 + 0 ≤ _)⟩)
    dsimp only [Pt.U, Pt.locs, Pt.cells, Pt.slots] at X51 l51 y51 z51 st51 hQ51
    subst l51 y51 z51
    obtain ⟨rfl, N51q, e51⟩ := hQ51
    have N51 := Fr.app N44 N51q
    have pre52 : Goes p e below s₁ (entryFrame m #[(.int qx), (.int qy), (.int qz), (.int wq), (.int sel)] maxLocals) T51 (mkF m 252 #[.val (.int qx), .val (.int qy), .val (.int qz), .val (.int wq), .val (.int sel), .val (.int r4), .val (.int r9), .val (.int mid), .val (.int (0 : Int32)), .val (.ref b14), .val (.int (sel &&& (7 : Int32))), .val (.int vv), .val (.ref b38), .val (.int ex)] [(.int ex)]) := fun t kt => pre50 t (st51.trans kt)
    have pre53 : Goes p e below s₁ (entryFrame m #[(.int qx), (.int qy), (.int qz), (.int wq), (.int sel)] maxLocals) T51 (mkF m 262 #[.val (.int qx), .val (.int qy), .val (.int qz), .val (.int wq), .val (.int sel), .val (.int r4), .val (.int r9), .val (.int mid), .val (.int (0 : Int32)), .val (.ref b14), .val (.int (sel &&& (7 : Int32))), .val (.int vv), .val (.ref b38), .val (.int ex)] [(.int (1 : Int32))]) := fun t kt => pre52 t (by
        show Steps p.tables e below (T51.setTop (mkF m 252 #[.val (.int qx), .val (.int qy), .val (.int qz), .val (.int wq), .val (.int sel), .val (.int r4), .val (.int r9), .val (.int mid), .val (.int (0 : Int32)), .val (.ref b14), .val (.int (sel &&& (7 : Int32))), .val (.int vv), .val (.ref b38), .val (.int ex)] [(.int ex)])) _
        refine XS.iload X51.here hx rfl (hb hby at_252) rfl ?_
        show Steps p.tables e below (T51.setTop (mkF m 254 #[.val (.int qx), .val (.int qy), .val (.int qz), .val (.int wq), .val (.int sel), .val (.int r4), .val (.int r9), .val (.int mid), .val (.int (0 : Int32)), .val (.ref b14), .val (.int (sel &&& (7 : Int32))), .val (.int vv), .val (.ref b38), .val (.int ex)] [(.int ex), (.int ex)])) _
        refine XS.icmpNo X51.here hx rfl (hb hby at_254) rfl (teq (rfl : ex = ex)).2 ?_
        show Steps p.tables e below (T51.setTop (mkF m 257 #[.val (.int qx), .val (.int qy), .val (.int qz), .val (.int wq), .val (.int sel), .val (.int r4), .val (.int r9), .val (.int mid), .val (.int (0 : Int32)), .val (.ref b14), .val (.int (sel &&& (7 : Int32))), .val (.int vv), .val (.ref b38), .val (.int ex)] [])) _
        refine XS.iconst X51.here hx rfl (hb hby at_257) ?_
        show Steps p.tables e below (T51.setTop (mkF m 258 #[.val (.int qx), .val (.int qy), .val (.int qz), .val (.int wq), .val (.int sel), .val (.int r4), .val (.int r9), .val (.int mid), .val (.int (0 : Int32)), .val (.ref b14), .val (.int (sel &&& (7 : Int32))), .val (.int vv), .val (.ref b38), .val (.int ex)] [(.int (1 : Int32))])) _
        refine XS.goto X51.here hx rfl (pc0 := 258) (pc' := 262) rfl (hb hby at_258) (by decide) (by decide) ?_
        exact kt)
    obtain ⟨fs, hr, hrun, hended, hEnd⟩ := X51.leaveW hS41 (by rw [e51]; exact (Nat.le_trans hk41 K44q.1)) (v := some (.int (1 : Int32))) (fun h => by rw [Bd.returns] at h; cases h)
    refine ⟨_, _, pre53 _ ?_, hrun, hended, _, _, rfl, ?_, hEnd.1, hEnd.2.1, hEnd.2.2.1, hEnd.2.2.2.mono (by decide) (by decide)⟩
    · show Steps p.tables e below (T51.setTop (mkF m 262 #[.val (.int qx), .val (.int qy), .val (.int qz), .val (.int wq), .val (.int sel), .val (.int r4), .val (.int r9), .val (.int mid), .val (.int (0 : Int32)), .val (.ref b14), .val (.int (sel &&& (7 : Int32))), .val (.int vv), .val (.ref b38), .val (.int ex)] [(.int (1 : Int32))])) _
      exact retN X51 hx (t := .boolean) Bd.returns (by simp) (hb hby at_262) hr
    · show Q_own_rm0 Z qx qy qz wq sel h0 n0 _ T51.heap _
      rw [e51]
      exact ⟨rfl, N51⟩
  · -- n = 1
    rw [show (((sel.toUInt32 >>> ((3 : Int32) &&& 31).toUInt32).toInt32) &&& (3 : Int32)) = (1 : Int32) from hk] at pre12
    have pre54 : Goes p e below s₁ (entryFrame m #[(.int qx), (.int qy), (.int qz), (.int wq), (.int sel)] maxLocals) T9 (mkF m 54 #[.val (.int qx), .val (.int qy), .val (.int qz), .val (.int wq), .val (.int sel), .val (.int r4), .val (.int r9), .val (.int mid), .val (.int (1 : Int32)), .unset, .unset, .unset, .unset, .unset] [(.int (1 : Int32))]) := fun t kt => pre12 t (by
        show Steps p.tables e below (T9.setTop (mkF m 43 #[.val (.int qx), .val (.int qy), .val (.int qz), .val (.int wq), .val (.int sel), .val (.int r4), .val (.int r9), .val (.int mid), .val (.int (1 : Int32)), .unset, .unset, .unset, .unset, .unset] [])) _
        refine XS.iload X9.here hx rfl (hb hby at_43) rfl ?_
        show Steps p.tables e below (T9.setTop (mkF m 45 #[.val (.int qx), .val (.int qy), .val (.int qz), .val (.int wq), .val (.int sel), .val (.int r4), .val (.int r9), .val (.int mid), .val (.int (1 : Int32)), .unset, .unset, .unset, .unset, .unset] [(.int (1 : Int32))])) _
        refine XS.iconst X9.here hx rfl (hb hby at_45) ?_
        show Steps p.tables e below (T9.setTop (mkF m 46 #[.val (.int qx), .val (.int qy), .val (.int qz), .val (.int wq), .val (.int sel), .val (.int r4), .val (.int r9), .val (.int mid), .val (.int (1 : Int32)), .unset, .unset, .unset, .unset, .unset] [(.int (3 : Int32)), (.int (1 : Int32))])) _
        refine XS.icmpYes X9.here hx rfl (pc0 := 46) (pc' := 52) rfl (hb hby at_46) rfl (feq (by decide : ¬ ((1 : Int32) = (3 : Int32)))).2 (by decide) (by decide) ?_
        show Steps p.tables e below (T9.setTop (mkF m 52 #[.val (.int qx), .val (.int qy), .val (.int qz), .val (.int wq), .val (.int sel), .val (.int r4), .val (.int r9), .val (.int mid), .val (.int (1 : Int32)), .unset, .unset, .unset, .unset, .unset] [])) _
        refine XS.iload X9.here hx rfl (hb hby at_52) rfl ?_
        exact kt)
    obtain ⟨T55, h55, k55, X55, e55, E55, A55, XA55, st55⟩ := newPE X9 hx hZ (hw _ (List.mem_of_getElem? (i := 7) rfl)) e9 (g := (mkF m 54 #[.val (.int qx), .val (.int qy), .val (.int qz), .val (.int wq), .val (.int sel), .val (.int r4), .val (.int r9), .val (.int mid), .val (.int (1 : Int32)), .unset, .unset, .unset, .unset, .unset] [(.int (1 : Int32))])) rfl (hb hby at_54) rfl (by decide) (cap := 1) (by decide) (by decide) (by decide) (by decide) (ad := "[I") rfl
    obtain ⟨b55, g55⟩ : ∃ z, z = h0.size := ⟨_, rfl⟩
    rw [← g55] at A55 XA55 st55
    have V_b55 : Arv Z h55 b55 k55 .int (1 : Int32) [(.int (0 : Int32))] (.int (0 : Int32)) := (Arv.new A55 (by decide)).pad (pad_rep [] (.int (0 : Int32)) 1)
    have g_b55 : n0 ≤ b55 := Nat.le_trans Z0 (Nat.le_of_eq g55.symm)
    have sz_b55 : h0.size ≤ b55 := (Nat.le_trans (Keep.refl h0 []).1 (Nat.le_of_eq g55.symm))
    have K55 : Keep h0 h55 [] := (Keep.refl h0 []).ext E55
    have pre56 : Goes p e below s₁ (entryFrame m #[(.int qx), (.int qy), (.int qz), (.int wq), (.int sel)] maxLocals) T55 (mkF m 56 #[.val (.int qx), .val (.int qy), .val (.int qz), .val (.int wq), .val (.int sel), .val (.int r4), .val (.int r9), .val (.int mid), .val (.int (1 : Int32)), .unset, .unset, .unset, .unset, .unset] [(.ref b55)]) := fun t kt => pre54 t (st55 t kt)
    have pre57 : Goes p e below s₁ (entryFrame m #[(.int qx), (.int qy), (.int qz), (.int wq), (.int sel)] maxLocals) T55 (mkF m 68 #[.val (.int qx), .val (.int qy), .val (.int qz), .val (.int wq), .val (.int sel), .val (.int r4), .val (.int r9), .val (.int mid), .val (.int (1 : Int32)), .val (.ref b55), .unset, .unset, .unset, .unset] [(.int r4), (.int (0 : Int32)), (.ref b55)]) := fun t kt => pre56 t (by
        show Steps p.tables e below (T55.setTop (mkF m 56 #[.val (.int qx), .val (.int qy), .val (.int qz), .val (.int wq), .val (.int sel), .val (.int r4), .val (.int r9), .val (.int mid), .val (.int (1 : Int32)), .unset, .unset, .unset, .unset, .unset] [(.ref b55)])) _
        refine XS.astore X55.here hx rfl (hb hby at_56) rfl rfl (l' := #[.val (.int qx), .val (.int qy), .val (.int qz), .val (.int wq), .val (.int sel), .val (.int r4), .val (.int r9), .val (.int mid), .val (.int (1 : Int32)), .val (.ref b55), .unset, .unset, .unset, .unset]) rfl ?_
        show Steps p.tables e below (T55.setTop (mkF m 58 #[.val (.int qx), .val (.int qy), .val (.int qz), .val (.int wq), .val (.int sel), .val (.int r4), .val (.int r9), .val (.int mid), .val (.int (1 : Int32)), .val (.ref b55), .unset, .unset, .unset, .unset] [])) _
        refine XS.iload X55.here hx rfl (hb hby at_58) rfl ?_
        show Steps p.tables e below (T55.setTop (mkF m 60 #[.val (.int qx), .val (.int qy), .val (.int qz), .val (.int wq), .val (.int sel), .val (.int r4), .val (.int r9), .val (.int mid), .val (.int (1 : Int32)), .val (.ref b55), .unset, .unset, .unset, .unset] [(.int (1 : Int32))])) _
        refine XS.ifNo X55.here hx rfl (hb hby at_60) rfl ((if0 _ _).trans (tlt (by decide : (0 : Int32) < (1 : Int32))).2.2.2) ?_
        show Steps p.tables e below (T55.setTop (mkF m 63 #[.val (.int qx), .val (.int qy), .val (.int qz), .val (.int wq), .val (.int sel), .val (.int r4), .val (.int r9), .val (.int mid), .val (.int (1 : Int32)), .val (.ref b55), .unset, .unset, .unset, .unset] [])) _
        refine XS.aload X55.here hx rfl (hb hby at_63) rfl rfl ?_
        show Steps p.tables e below (T55.setTop (mkF m 65 #[.val (.int qx), .val (.int qy), .val (.int qz), .val (.int wq), .val (.int sel), .val (.int r4), .val (.int r9), .val (.int mid), .val (.int (1 : Int32)), .val (.ref b55), .unset, .unset, .unset, .unset] [(.ref b55)])) _
        refine XS.iconst X55.here hx rfl (hb hby at_65) ?_
        show Steps p.tables e below (T55.setTop (mkF m 66 #[.val (.int qx), .val (.int qy), .val (.int qz), .val (.int wq), .val (.int sel), .val (.int r4), .val (.int r9), .val (.int mid), .val (.int (1 : Int32)), .val (.ref b55), .unset, .unset, .unset, .unset] [(.int (0 : Int32)), (.ref b55)])) _
        refine XS.iload X55.here hx rfl (hb hby at_66) rfl ?_
        exact kt)
    obtain ⟨cl58, Ar58, q58, S58, N_58, H58, G58⟩ := (id (V_b55))
    have hin58 : ¬ ((0 : Int32) < 0 ∨ cl58.slots.size ≤ ((0 : Int32)).toNatClampNeg) := inb_of S58 ⟨by decide, by decide⟩
    obtain ⟨T59, h59, X59, e59, W59, st59⟩ := stI X55 hx hZ e55 Ar58 (j := (0 : Int32)) hin58 (g := (mkF m 68 #[.val (.int qx), .val (.int qy), .val (.int qz), .val (.int wq), .val (.int sel), .val (.int r4), .val (.int r9), .val (.int mid), .val (.int (1 : Int32)), .val (.ref b55), .unset, .unset, .unset, .unset] [(.int r4), (.int (0 : Int32)), (.ref b55)])) rfl rfl (hb hby at_68)
    have V59 : Arv Z h59 b55 k55 .int (1 : Int32) [(.int r4)] (.int (0 : Int32)) := Arv.set Ar58 q58 S58 N_58 H58 G58 rfl W59 0 rfl (Nat.le_of_ble_eq_true rfl)
    have K59 : Keep h0 h59 [] := K55.wr W59 (Or.inr sz_b55)
    have N59 := Fr.snoc X59 N9 g_b55
    have pre60 : Goes p e below s₁ (entryFrame m #[(.int qx), (.int qy), (.int qz), (.int wq), (.int sel)] maxLocals) T59 (mkF m 69 #[.val (.int qx), .val (.int qy), .val (.int qz), .val (.int wq), .val (.int sel), .val (.int r4), .val (.int r9), .val (.int mid), .val (.int (1 : Int32)), .val (.ref b55), .unset, .unset, .unset, .unset] []) := fun t kt => pre57 t (st59 t kt)
    have pre61 : Goes p e below s₁ (entryFrame m #[(.int qx), (.int qy), (.int qz), (.int wq), (.int sel)] maxLocals) T59 (mkF m 100 #[.val (.int qx), .val (.int qy), .val (.int qz), .val (.int wq), .val (.int sel), .val (.int r4), .val (.int r9), .val (.int mid), .val (.int (1 : Int32)), .val (.ref b55), .val (.int (sel &&& (7 : Int32))), .unset, .unset, .unset] []) := fun t kt => pre60 t (by
        show Steps p.tables e below (T59.setTop (mkF m 69 #[.val (.int qx), .val (.int qy), .val (.int qz), .val (.int wq), .val (.int sel), .val (.int r4), .val (.int r9), .val (.int mid), .val (.int (1 : Int32)), .val (.ref b55), .unset, .unset, .unset, .unset] [])) _
        refine XS.iload X59.here hx rfl (hb hby at_69) rfl ?_
        show Steps p.tables e below (T59.setTop (mkF m 71 #[.val (.int qx), .val (.int qy), .val (.int qz), .val (.int wq), .val (.int sel), .val (.int r4), .val (.int r9), .val (.int mid), .val (.int (1 : Int32)), .val (.ref b55), .unset, .unset, .unset, .unset] [(.int (1 : Int32))])) _
        refine XS.iconst X59.here hx rfl (hb hby at_71) ?_
        show Steps p.tables e below (T59.setTop (mkF m 72 #[.val (.int qx), .val (.int qy), .val (.int qz), .val (.int wq), .val (.int sel), .val (.int r4), .val (.int r9), .val (.int mid), .val (.int (1 : Int32)), .val (.ref b55), .unset, .unset, .unset, .unset] [(.int (1 : Int32)), (.int (1 : Int32))])) _
        refine XS.icmpYes X59.here hx rfl (pc0 := 72) (pc' := 81) rfl (hb hby at_72) rfl (flt (by decide : ¬ ((1 : Int32) < (1 : Int32)))).2.2.2 (by decide) (by decide) ?_
        show Steps p.tables e below (T59.setTop (mkF m 81 #[.val (.int qx), .val (.int qy), .val (.int qz), .val (.int wq), .val (.int sel), .val (.int r4), .val (.int r9), .val (.int mid), .val (.int (1 : Int32)), .val (.ref b55), .unset, .unset, .unset, .unset] [])) _
        refine XS.iload X59.here hx rfl (hb hby at_81) rfl ?_
        show Steps p.tables e below (T59.setTop (mkF m 83 #[.val (.int qx), .val (.int qy), .val (.int qz), .val (.int wq), .val (.int sel), .val (.int r4), .val (.int r9), .val (.int mid), .val (.int (1 : Int32)), .val (.ref b55), .unset, .unset, .unset, .unset] [(.int (1 : Int32))])) _
        refine XS.iconst X59.here hx rfl (hb hby at_83) ?_
        show Steps p.tables e below (T59.setTop (mkF m 84 #[.val (.int qx), .val (.int qy), .val (.int qz), .val (.int wq), .val (.int sel), .val (.int r4), .val (.int r9), .val (.int mid), .val (.int (1 : Int32)), .val (.ref b55), .unset, .unset, .unset, .unset] [(.int (2 : Int32)), (.int (1 : Int32))])) _
        refine XS.icmpYes X59.here hx rfl (pc0 := 84) (pc' := 93) rfl (hb hby at_84) rfl (flt (by decide : ¬ ((2 : Int32) < (1 : Int32)))).2.2.2 (by decide) (by decide) ?_
        show Steps p.tables e below (T59.setTop (mkF m 93 #[.val (.int qx), .val (.int qy), .val (.int qz), .val (.int wq), .val (.int sel), .val (.int r4), .val (.int r9), .val (.int mid), .val (.int (1 : Int32)), .val (.ref b55), .unset, .unset, .unset, .unset] [])) _
        refine XS.iload X59.here hx rfl (hb hby at_93) rfl ?_
        show Steps p.tables e below (T59.setTop (mkF m 95 #[.val (.int qx), .val (.int qy), .val (.int qz), .val (.int wq), .val (.int sel), .val (.int r4), .val (.int r9), .val (.int mid), .val (.int (1 : Int32)), .val (.ref b55), .unset, .unset, .unset, .unset] [(.int sel)])) _
        refine XS.bipush X59.here hx rfl (hb hby at_95) ?_
        show Steps p.tables e below (T59.setTop (mkF m 97 #[.val (.int qx), .val (.int qy), .val (.int qz), .val (.int wq), .val (.int sel), .val (.int r4), .val (.int r9), .val (.int mid), .val (.int (1 : Int32)), .val (.ref b55), .unset, .unset, .unset, .unset] [(.int (7 : Int32)), (.int sel)])) _
        refine XS.iand X59.here hx rfl (hb hby at_97) rfl ?_
        show Steps p.tables e below (T59.setTop (mkF m 98 #[.val (.int qx), .val (.int qy), .val (.int qz), .val (.int wq), .val (.int sel), .val (.int r4), .val (.int r9), .val (.int mid), .val (.int (1 : Int32)), .val (.ref b55), .unset, .unset, .unset, .unset] [(.int (sel &&& (7 : Int32)))])) _
        refine XS.istore X59.here hx rfl (hb hby at_98) rfl (l' := #[.val (.int qx), .val (.int qy), .val (.int qz), .val (.int wq), .val (.int sel), .val (.int r4), .val (.int r9), .val (.int mid), .val (.int (1 : Int32)), .val (.ref b55), .val (.int (sel &&& (7 : Int32))), .unset, .unset, .unset]) rfl ?_
        exact kt)
    obtain ⟨vv, pre63⟩ : ∃ (vv : Int32), Goes p e below s₁ (entryFrame m #[(.int qx), (.int qy), (.int qz), (.int wq), (.int sel)] maxLocals) T59 (mkF m 187 #[.val (.int qx), .val (.int qy), .val (.int qz), .val (.int wq), .val (.int sel), .val (.int r4), .val (.int r9), .val (.int mid), .val (.int (1 : Int32)), .val (.ref b55), .val (.int (sel &&& (7 : Int32))), .val (.int vv), .unset, .unset] []) := by
      have pre64 : Goes p e below s₁ (entryFrame m #[(.int qx), (.int qy), (.int qz), (.int wq), (.int sel)] maxLocals) T59 (mkF m 102 #[.val (.int qx), .val (.int qy), .val (.int qz), .val (.int wq), .val (.int sel), .val (.int r4), .val (.int r9), .val (.int mid), .val (.int (1 : Int32)), .val (.ref b55), .val (.int (sel &&& (7 : Int32))), .unset, .unset, .unset] [(.int (sel &&& (7 : Int32)))]) := fun t kt => pre61 t (by
          show Steps p.tables e below (T59.setTop (mkF m 100 #[.val (.int qx), .val (.int qy), .val (.int qz), .val (.int wq), .val (.int sel), .val (.int r4), .val (.int r9), .val (.int mid), .val (.int (1 : Int32)), .val (.ref b55), .val (.int (sel &&& (7 : Int32))), .unset, .unset, .unset] [])) _
          refine XS.iload X59.here hx rfl (hb hby at_100) rfl ?_
          exact kt)
      by_cases hc102_65 : (sel &&& (7 : Int32)) = (0 : Int32)
      · -- yes at pc 102: tftt
        have pre66 : Goes p e below s₁ (entryFrame m #[(.int qx), (.int qy), (.int qz), (.int wq), (.int sel)] maxLocals) T59 (mkF m 187 #[.val (.int qx), .val (.int qy), .val (.int qz), .val (.int wq), .val (.int sel), .val (.int r4), .val (.int r9), .val (.int mid), .val (.int (1 : Int32)), .val (.ref b55), .val (.int (sel &&& (7 : Int32))), .val (.int r4), .unset, .unset] []) := fun t kt => pre64 t (by
            show Steps p.tables e below (T59.setTop (mkF m 102 #[.val (.int qx), .val (.int qy), .val (.int qz), .val (.int wq), .val (.int sel), .val (.int r4), .val (.int r9), .val (.int mid), .val (.int (1 : Int32)), .val (.ref b55), .val (.int (sel &&& (7 : Int32))), .unset, .unset, .unset] [(.int (sel &&& (7 : Int32)))])) _
            refine XS.ifNo X59.here hx rfl (hb hby at_102) rfl ((if0 _ _).trans (teq hc102_65).2) ?_
            show Steps p.tables e below (T59.setTop (mkF m 105 #[.val (.int qx), .val (.int qy), .val (.int qz), .val (.int wq), .val (.int sel), .val (.int r4), .val (.int r9), .val (.int mid), .val (.int (1 : Int32)), .val (.ref b55), .val (.int (sel &&& (7 : Int32))), .unset, .unset, .unset] [])) _
            refine XS.iload X59.here hx rfl (hb hby at_105) rfl ?_
            show Steps p.tables e below (T59.setTop (mkF m 107 #[.val (.int qx), .val (.int qy), .val (.int qz), .val (.int wq), .val (.int sel), .val (.int r4), .val (.int r9), .val (.int mid), .val (.int (1 : Int32)), .val (.ref b55), .val (.int (sel &&& (7 : Int32))), .unset, .unset, .unset] [(.int r4)])) _
            refine XS.istore X59.here hx rfl (hb hby at_107) rfl (l' := #[.val (.int qx), .val (.int qy), .val (.int qz), .val (.int wq), .val (.int sel), .val (.int r4), .val (.int r9), .val (.int mid), .val (.int (1 : Int32)), .val (.ref b55), .val (.int (sel &&& (7 : Int32))), .val (.int r4), .unset, .unset]) rfl ?_
            show Steps p.tables e below (T59.setTop (mkF m 109 #[.val (.int qx), .val (.int qy), .val (.int qz), .val (.int wq), .val (.int sel), .val (.int r4), .val (.int r9), .val (.int mid), .val (.int (1 : Int32)), .val (.ref b55), .val (.int (sel &&& (7 : Int32))), .val (.int r4), .unset, .unset] [])) _
            refine XS.goto X59.here hx rfl (pc0 := 109) (pc' := 187) rfl (hb hby at_109) (by decide) (by decide) ?_
            exact kt)
        exact ⟨r4, pre66⟩
      · -- no at pc 102: tftt
        have pre67 : Goes p e below s₁ (entryFrame m #[(.int qx), (.int qy), (.int qz), (.int wq), (.int sel)] maxLocals) T59 (mkF m 115 #[.val (.int qx), .val (.int qy), .val (.int qz), .val (.int wq), .val (.int sel), .val (.int r4), .val (.int r9), .val (.int mid), .val (.int (1 : Int32)), .val (.ref b55), .val (.int (sel &&& (7 : Int32))), .unset, .unset, .unset] [(.int (1 : Int32)), (.int (sel &&& (7 : Int32)))]) := fun t kt => pre64 t (by
            show Steps p.tables e below (T59.setTop (mkF m 102 #[.val (.int qx), .val (.int qy), .val (.int qz), .val (.int wq), .val (.int sel), .val (.int r4), .val (.int r9), .val (.int mid), .val (.int (1 : Int32)), .val (.ref b55), .val (.int (sel &&& (7 : Int32))), .unset, .unset, .unset] [(.int (sel &&& (7 : Int32)))])) _
            refine XS.ifYes X59.here hx rfl (pc0 := 102) (pc' := 112) rfl (hb hby at_102) rfl ((if0 _ _).trans (feq hc102_65).2) (by decide) (by decide) ?_
            show Steps p.tables e below (T59.setTop (mkF m 112 #[.val (.int qx), .val (.int qy), .val (.int qz), .val (.int wq), .val (.int sel), .val (.int r4), .val (.int r9), .val (.int mid), .val (.int (1 : Int32)), .val (.ref b55), .val (.int (sel &&& (7 : Int32))), .unset, .unset, .unset] [])) _
            refine XS.iload X59.here hx rfl (hb hby at_112) rfl ?_
            show Steps p.tables e below (T59.setTop (mkF m 114 #[.val (.int qx), .val (.int qy), .val (.int qz), .val (.int wq), .val (.int sel), .val (.int r4), .val (.int r9), .val (.int mid), .val (.int (1 : Int32)), .val (.ref b55), .val (.int (sel &&& (7 : Int32))), .unset, .unset, .unset] [(.int (sel &&& (7 : Int32)))])) _
            refine XS.iconst X59.here hx rfl (hb hby at_114) ?_
            exact kt)
        by_cases hc115_68 : (sel &&& (7 : Int32)) = (1 : Int32)
        · -- yes at pc 115: tfttt
          have pre69 : Goes p e below s₁ (entryFrame m #[(.int qx), (.int qy), (.int qz), (.int wq), (.int sel)] maxLocals) T59 (mkF m 187 #[.val (.int qx), .val (.int qy), .val (.int qz), .val (.int wq), .val (.int sel), .val (.int r4), .val (.int r9), .val (.int mid), .val (.int (1 : Int32)), .val (.ref b55), .val (.int (sel &&& (7 : Int32))), .val (.int mid), .unset, .unset] []) := fun t kt => pre67 t (by
              show Steps p.tables e below (T59.setTop (mkF m 115 #[.val (.int qx), .val (.int qy), .val (.int qz), .val (.int wq), .val (.int sel), .val (.int r4), .val (.int r9), .val (.int mid), .val (.int (1 : Int32)), .val (.ref b55), .val (.int (sel &&& (7 : Int32))), .unset, .unset, .unset] [(.int (1 : Int32)), (.int (sel &&& (7 : Int32)))])) _
              refine XS.icmpNo X59.here hx rfl (hb hby at_115) rfl (teq hc115_68).2 ?_
              show Steps p.tables e below (T59.setTop (mkF m 118 #[.val (.int qx), .val (.int qy), .val (.int qz), .val (.int wq), .val (.int sel), .val (.int r4), .val (.int r9), .val (.int mid), .val (.int (1 : Int32)), .val (.ref b55), .val (.int (sel &&& (7 : Int32))), .unset, .unset, .unset] [])) _
              refine XS.iload X59.here hx rfl (hb hby at_118) rfl ?_
              show Steps p.tables e below (T59.setTop (mkF m 120 #[.val (.int qx), .val (.int qy), .val (.int qz), .val (.int wq), .val (.int sel), .val (.int r4), .val (.int r9), .val (.int mid), .val (.int (1 : Int32)), .val (.ref b55), .val (.int (sel &&& (7 : Int32))), .unset, .unset, .unset] [(.int mid)])) _
              refine XS.istore X59.here hx rfl (hb hby at_120) rfl (l' := #[.val (.int qx), .val (.int qy), .val (.int qz), .val (.int wq), .val (.int sel), .val (.int r4), .val (.int r9), .val (.int mid), .val (.int (1 : Int32)), .val (.ref b55), .val (.int (sel &&& (7 : Int32))), .val (.int mid), .unset, .unset]) rfl ?_
              show Steps p.tables e below (T59.setTop (mkF m 122 #[.val (.int qx), .val (.int qy), .val (.int qz), .val (.int wq), .val (.int sel), .val (.int r4), .val (.int r9), .val (.int mid), .val (.int (1 : Int32)), .val (.ref b55), .val (.int (sel &&& (7 : Int32))), .val (.int mid), .unset, .unset] [])) _
              refine XS.goto X59.here hx rfl (pc0 := 122) (pc' := 187) rfl (hb hby at_122) (by decide) (by decide) ?_
              exact kt)
          exact ⟨mid, pre69⟩
        · -- no at pc 115: tfttt
          have pre70 : Goes p e below s₁ (entryFrame m #[(.int qx), (.int qy), (.int qz), (.int wq), (.int sel)] maxLocals) T59 (mkF m 128 #[.val (.int qx), .val (.int qy), .val (.int qz), .val (.int wq), .val (.int sel), .val (.int r4), .val (.int r9), .val (.int mid), .val (.int (1 : Int32)), .val (.ref b55), .val (.int (sel &&& (7 : Int32))), .unset, .unset, .unset] [(.int (2 : Int32)), (.int (sel &&& (7 : Int32)))]) := fun t kt => pre67 t (by
              show Steps p.tables e below (T59.setTop (mkF m 115 #[.val (.int qx), .val (.int qy), .val (.int qz), .val (.int wq), .val (.int sel), .val (.int r4), .val (.int r9), .val (.int mid), .val (.int (1 : Int32)), .val (.ref b55), .val (.int (sel &&& (7 : Int32))), .unset, .unset, .unset] [(.int (1 : Int32)), (.int (sel &&& (7 : Int32)))])) _
              refine XS.icmpYes X59.here hx rfl (pc0 := 115) (pc' := 125) rfl (hb hby at_115) rfl (feq hc115_68).2 (by decide) (by decide) ?_
              show Steps p.tables e below (T59.setTop (mkF m 125 #[.val (.int qx), .val (.int qy), .val (.int qz), .val (.int wq), .val (.int sel), .val (.int r4), .val (.int r9), .val (.int mid), .val (.int (1 : Int32)), .val (.ref b55), .val (.int (sel &&& (7 : Int32))), .unset, .unset, .unset] [])) _
              refine XS.iload X59.here hx rfl (hb hby at_125) rfl ?_
              show Steps p.tables e below (T59.setTop (mkF m 127 #[.val (.int qx), .val (.int qy), .val (.int qz), .val (.int wq), .val (.int sel), .val (.int r4), .val (.int r9), .val (.int mid), .val (.int (1 : Int32)), .val (.ref b55), .val (.int (sel &&& (7 : Int32))), .unset, .unset, .unset] [(.int (sel &&& (7 : Int32)))])) _
              refine XS.iconst X59.here hx rfl (hb hby at_127) ?_
              exact kt)
          by_cases hc128_71 : (sel &&& (7 : Int32)) = (2 : Int32)
          · -- yes at pc 128: tftttt
            have pre72 : Goes p e below s₁ (entryFrame m #[(.int qx), (.int qy), (.int qz), (.int wq), (.int sel)] maxLocals) T59 (mkF m 187 #[.val (.int qx), .val (.int qy), .val (.int qz), .val (.int wq), .val (.int sel), .val (.int r4), .val (.int r9), .val (.int mid), .val (.int (1 : Int32)), .val (.ref b55), .val (.int (sel &&& (7 : Int32))), .val (.int r9), .unset, .unset] []) := fun t kt => pre70 t (by
                show Steps p.tables e below (T59.setTop (mkF m 128 #[.val (.int qx), .val (.int qy), .val (.int qz), .val (.int wq), .val (.int sel), .val (.int r4), .val (.int r9), .val (.int mid), .val (.int (1 : Int32)), .val (.ref b55), .val (.int (sel &&& (7 : Int32))), .unset, .unset, .unset] [(.int (2 : Int32)), (.int (sel &&& (7 : Int32)))])) _
                refine XS.icmpNo X59.here hx rfl (hb hby at_128) rfl (teq hc128_71).2 ?_
                show Steps p.tables e below (T59.setTop (mkF m 131 #[.val (.int qx), .val (.int qy), .val (.int qz), .val (.int wq), .val (.int sel), .val (.int r4), .val (.int r9), .val (.int mid), .val (.int (1 : Int32)), .val (.ref b55), .val (.int (sel &&& (7 : Int32))), .unset, .unset, .unset] [])) _
                refine XS.iload X59.here hx rfl (hb hby at_131) rfl ?_
                show Steps p.tables e below (T59.setTop (mkF m 133 #[.val (.int qx), .val (.int qy), .val (.int qz), .val (.int wq), .val (.int sel), .val (.int r4), .val (.int r9), .val (.int mid), .val (.int (1 : Int32)), .val (.ref b55), .val (.int (sel &&& (7 : Int32))), .unset, .unset, .unset] [(.int r9)])) _
                refine XS.istore X59.here hx rfl (hb hby at_133) rfl (l' := #[.val (.int qx), .val (.int qy), .val (.int qz), .val (.int wq), .val (.int sel), .val (.int r4), .val (.int r9), .val (.int mid), .val (.int (1 : Int32)), .val (.ref b55), .val (.int (sel &&& (7 : Int32))), .val (.int r9), .unset, .unset]) rfl ?_
                show Steps p.tables e below (T59.setTop (mkF m 135 #[.val (.int qx), .val (.int qy), .val (.int qz), .val (.int wq), .val (.int sel), .val (.int r4), .val (.int r9), .val (.int mid), .val (.int (1 : Int32)), .val (.ref b55), .val (.int (sel &&& (7 : Int32))), .val (.int r9), .unset, .unset] [])) _
                refine XS.goto X59.here hx rfl (pc0 := 135) (pc' := 187) rfl (hb hby at_135) (by decide) (by decide) ?_
                exact kt)
            exact ⟨r9, pre72⟩
          · -- no at pc 128: tftttt
            have pre73 : Goes p e below s₁ (entryFrame m #[(.int qx), (.int qy), (.int qz), (.int wq), (.int sel)] maxLocals) T59 (mkF m 141 #[.val (.int qx), .val (.int qy), .val (.int qz), .val (.int wq), .val (.int sel), .val (.int r4), .val (.int r9), .val (.int mid), .val (.int (1 : Int32)), .val (.ref b55), .val (.int (sel &&& (7 : Int32))), .unset, .unset, .unset] [(.int (4 : Int32)), (.int (sel &&& (7 : Int32)))]) := fun t kt => pre70 t (by
                show Steps p.tables e below (T59.setTop (mkF m 128 #[.val (.int qx), .val (.int qy), .val (.int qz), .val (.int wq), .val (.int sel), .val (.int r4), .val (.int r9), .val (.int mid), .val (.int (1 : Int32)), .val (.ref b55), .val (.int (sel &&& (7 : Int32))), .unset, .unset, .unset] [(.int (2 : Int32)), (.int (sel &&& (7 : Int32)))])) _
                refine XS.icmpYes X59.here hx rfl (pc0 := 128) (pc' := 138) rfl (hb hby at_128) rfl (feq hc128_71).2 (by decide) (by decide) ?_
                show Steps p.tables e below (T59.setTop (mkF m 138 #[.val (.int qx), .val (.int qy), .val (.int qz), .val (.int wq), .val (.int sel), .val (.int r4), .val (.int r9), .val (.int mid), .val (.int (1 : Int32)), .val (.ref b55), .val (.int (sel &&& (7 : Int32))), .unset, .unset, .unset] [])) _
                refine XS.iload X59.here hx rfl (hb hby at_138) rfl ?_
                show Steps p.tables e below (T59.setTop (mkF m 140 #[.val (.int qx), .val (.int qy), .val (.int qz), .val (.int wq), .val (.int sel), .val (.int r4), .val (.int r9), .val (.int mid), .val (.int (1 : Int32)), .val (.ref b55), .val (.int (sel &&& (7 : Int32))), .unset, .unset, .unset] [(.int (sel &&& (7 : Int32)))])) _
                refine XS.iconst X59.here hx rfl (hb hby at_140) ?_
                exact kt)
            by_cases hc141_74 : (sel &&& (7 : Int32)) = (4 : Int32)
            · -- yes at pc 141: tfttttt
              have pre75 : Goes p e below s₁ (entryFrame m #[(.int qx), (.int qy), (.int qz), (.int wq), (.int sel)] maxLocals) T59 (mkF m 187 #[.val (.int qx), .val (.int qy), .val (.int qz), .val (.int wq), .val (.int sel), .val (.int r4), .val (.int r9), .val (.int mid), .val (.int (1 : Int32)), .val (.ref b55), .val (.int (sel &&& (7 : Int32))), .val (.int (r4 - (1 : Int32))), .unset, .unset] []) := fun t kt => pre73 t (by
                  show Steps p.tables e below (T59.setTop (mkF m 141 #[.val (.int qx), .val (.int qy), .val (.int qz), .val (.int wq), .val (.int sel), .val (.int r4), .val (.int r9), .val (.int mid), .val (.int (1 : Int32)), .val (.ref b55), .val (.int (sel &&& (7 : Int32))), .unset, .unset, .unset] [(.int (4 : Int32)), (.int (sel &&& (7 : Int32)))])) _
                  refine XS.icmpNo X59.here hx rfl (hb hby at_141) rfl (teq hc141_74).2 ?_
                  show Steps p.tables e below (T59.setTop (mkF m 144 #[.val (.int qx), .val (.int qy), .val (.int qz), .val (.int wq), .val (.int sel), .val (.int r4), .val (.int r9), .val (.int mid), .val (.int (1 : Int32)), .val (.ref b55), .val (.int (sel &&& (7 : Int32))), .unset, .unset, .unset] [])) _
                  refine XS.iload X59.here hx rfl (hb hby at_144) rfl ?_
                  show Steps p.tables e below (T59.setTop (mkF m 146 #[.val (.int qx), .val (.int qy), .val (.int qz), .val (.int wq), .val (.int sel), .val (.int r4), .val (.int r9), .val (.int mid), .val (.int (1 : Int32)), .val (.ref b55), .val (.int (sel &&& (7 : Int32))), .unset, .unset, .unset] [(.int r4)])) _
                  refine XS.iconst X59.here hx rfl (hb hby at_146) ?_
                  show Steps p.tables e below (T59.setTop (mkF m 147 #[.val (.int qx), .val (.int qy), .val (.int qz), .val (.int wq), .val (.int sel), .val (.int r4), .val (.int r9), .val (.int mid), .val (.int (1 : Int32)), .val (.ref b55), .val (.int (sel &&& (7 : Int32))), .unset, .unset, .unset] [(.int (1 : Int32)), (.int r4)])) _
                  refine XS.isub X59.here hx rfl (hb hby at_147) rfl ?_
                  show Steps p.tables e below (T59.setTop (mkF m 148 #[.val (.int qx), .val (.int qy), .val (.int qz), .val (.int wq), .val (.int sel), .val (.int r4), .val (.int r9), .val (.int mid), .val (.int (1 : Int32)), .val (.ref b55), .val (.int (sel &&& (7 : Int32))), .unset, .unset, .unset] [(.int (r4 - (1 : Int32)))])) _
                  refine XS.istore X59.here hx rfl (hb hby at_148) rfl (l' := #[.val (.int qx), .val (.int qy), .val (.int qz), .val (.int wq), .val (.int sel), .val (.int r4), .val (.int r9), .val (.int mid), .val (.int (1 : Int32)), .val (.ref b55), .val (.int (sel &&& (7 : Int32))), .val (.int (r4 - (1 : Int32))), .unset, .unset]) rfl ?_
                  show Steps p.tables e below (T59.setTop (mkF m 150 #[.val (.int qx), .val (.int qy), .val (.int qz), .val (.int wq), .val (.int sel), .val (.int r4), .val (.int r9), .val (.int mid), .val (.int (1 : Int32)), .val (.ref b55), .val (.int (sel &&& (7 : Int32))), .val (.int (r4 - (1 : Int32))), .unset, .unset] [])) _
                  refine XS.goto X59.here hx rfl (pc0 := 150) (pc' := 187) rfl (hb hby at_150) (by decide) (by decide) ?_
                  exact kt)
              exact ⟨(r4 - (1 : Int32)), pre75⟩
            · -- no at pc 141: tfttttt
              have pre76 : Goes p e below s₁ (entryFrame m #[(.int qx), (.int qy), (.int qz), (.int wq), (.int sel)] maxLocals) T59 (mkF m 156 #[.val (.int qx), .val (.int qy), .val (.int qz), .val (.int wq), .val (.int sel), .val (.int r4), .val (.int r9), .val (.int mid), .val (.int (1 : Int32)), .val (.ref b55), .val (.int (sel &&& (7 : Int32))), .unset, .unset, .unset] [(.int (5 : Int32)), (.int (sel &&& (7 : Int32)))]) := fun t kt => pre73 t (by
                  show Steps p.tables e below (T59.setTop (mkF m 141 #[.val (.int qx), .val (.int qy), .val (.int qz), .val (.int wq), .val (.int sel), .val (.int r4), .val (.int r9), .val (.int mid), .val (.int (1 : Int32)), .val (.ref b55), .val (.int (sel &&& (7 : Int32))), .unset, .unset, .unset] [(.int (4 : Int32)), (.int (sel &&& (7 : Int32)))])) _
                  refine XS.icmpYes X59.here hx rfl (pc0 := 141) (pc' := 153) rfl (hb hby at_141) rfl (feq hc141_74).2 (by decide) (by decide) ?_
                  show Steps p.tables e below (T59.setTop (mkF m 153 #[.val (.int qx), .val (.int qy), .val (.int qz), .val (.int wq), .val (.int sel), .val (.int r4), .val (.int r9), .val (.int mid), .val (.int (1 : Int32)), .val (.ref b55), .val (.int (sel &&& (7 : Int32))), .unset, .unset, .unset] [])) _
                  refine XS.iload X59.here hx rfl (hb hby at_153) rfl ?_
                  show Steps p.tables e below (T59.setTop (mkF m 155 #[.val (.int qx), .val (.int qy), .val (.int qz), .val (.int wq), .val (.int sel), .val (.int r4), .val (.int r9), .val (.int mid), .val (.int (1 : Int32)), .val (.ref b55), .val (.int (sel &&& (7 : Int32))), .unset, .unset, .unset] [(.int (sel &&& (7 : Int32)))])) _
                  refine XS.iconst X59.here hx rfl (hb hby at_155) ?_
                  exact kt)
              by_cases hc156_77 : (sel &&& (7 : Int32)) = (5 : Int32)
              · -- yes at pc 156: tftttttt
                have pre78 : Goes p e below s₁ (entryFrame m #[(.int qx), (.int qy), (.int qz), (.int wq), (.int sel)] maxLocals) T59 (mkF m 187 #[.val (.int qx), .val (.int qy), .val (.int qz), .val (.int wq), .val (.int sel), .val (.int r4), .val (.int r9), .val (.int mid), .val (.int (1 : Int32)), .val (.ref b55), .val (.int (sel &&& (7 : Int32))), .val (.int (r9 + (1 : Int32))), .unset, .unset] []) := fun t kt => pre76 t (by
                    show Steps p.tables e below (T59.setTop (mkF m 156 #[.val (.int qx), .val (.int qy), .val (.int qz), .val (.int wq), .val (.int sel), .val (.int r4), .val (.int r9), .val (.int mid), .val (.int (1 : Int32)), .val (.ref b55), .val (.int (sel &&& (7 : Int32))), .unset, .unset, .unset] [(.int (5 : Int32)), (.int (sel &&& (7 : Int32)))])) _
                    refine XS.icmpNo X59.here hx rfl (hb hby at_156) rfl (teq hc156_77).2 ?_
                    show Steps p.tables e below (T59.setTop (mkF m 159 #[.val (.int qx), .val (.int qy), .val (.int qz), .val (.int wq), .val (.int sel), .val (.int r4), .val (.int r9), .val (.int mid), .val (.int (1 : Int32)), .val (.ref b55), .val (.int (sel &&& (7 : Int32))), .unset, .unset, .unset] [])) _
                    refine XS.iload X59.here hx rfl (hb hby at_159) rfl ?_
                    show Steps p.tables e below (T59.setTop (mkF m 161 #[.val (.int qx), .val (.int qy), .val (.int qz), .val (.int wq), .val (.int sel), .val (.int r4), .val (.int r9), .val (.int mid), .val (.int (1 : Int32)), .val (.ref b55), .val (.int (sel &&& (7 : Int32))), .unset, .unset, .unset] [(.int r9)])) _
                    refine XS.iconst X59.here hx rfl (hb hby at_161) ?_
                    show Steps p.tables e below (T59.setTop (mkF m 162 #[.val (.int qx), .val (.int qy), .val (.int qz), .val (.int wq), .val (.int sel), .val (.int r4), .val (.int r9), .val (.int mid), .val (.int (1 : Int32)), .val (.ref b55), .val (.int (sel &&& (7 : Int32))), .unset, .unset, .unset] [(.int (1 : Int32)), (.int r9)])) _
                    refine XS.iadd X59.here hx rfl (hb hby at_162) rfl ?_
                    show Steps p.tables e below (T59.setTop (mkF m 163 #[.val (.int qx), .val (.int qy), .val (.int qz), .val (.int wq), .val (.int sel), .val (.int r4), .val (.int r9), .val (.int mid), .val (.int (1 : Int32)), .val (.ref b55), .val (.int (sel &&& (7 : Int32))), .unset, .unset, .unset] [(.int (r9 + (1 : Int32)))])) _
                    refine XS.istore X59.here hx rfl (hb hby at_163) rfl (l' := #[.val (.int qx), .val (.int qy), .val (.int qz), .val (.int wq), .val (.int sel), .val (.int r4), .val (.int r9), .val (.int mid), .val (.int (1 : Int32)), .val (.ref b55), .val (.int (sel &&& (7 : Int32))), .val (.int (r9 + (1 : Int32))), .unset, .unset]) rfl ?_
                    show Steps p.tables e below (T59.setTop (mkF m 165 #[.val (.int qx), .val (.int qy), .val (.int qz), .val (.int wq), .val (.int sel), .val (.int r4), .val (.int r9), .val (.int mid), .val (.int (1 : Int32)), .val (.ref b55), .val (.int (sel &&& (7 : Int32))), .val (.int (r9 + (1 : Int32))), .unset, .unset] [])) _
                    refine XS.goto X59.here hx rfl (pc0 := 165) (pc' := 187) rfl (hb hby at_165) (by decide) (by decide) ?_
                    exact kt)
                exact ⟨(r9 + (1 : Int32)), pre78⟩
              · -- no at pc 156: tftttttt
                have pre79 : Goes p e below s₁ (entryFrame m #[(.int qx), (.int qy), (.int qz), (.int wq), (.int sel)] maxLocals) T59 (mkF m 172 #[.val (.int qx), .val (.int qy), .val (.int qz), .val (.int wq), .val (.int sel), .val (.int r4), .val (.int r9), .val (.int mid), .val (.int (1 : Int32)), .val (.ref b55), .val (.int (sel &&& (7 : Int32))), .unset, .unset, .unset] [(.int (6 : Int32)), (.int (sel &&& (7 : Int32)))]) := fun t kt => pre76 t (by
                    show Steps p.tables e below (T59.setTop (mkF m 156 #[.val (.int qx), .val (.int qy), .val (.int qz), .val (.int wq), .val (.int sel), .val (.int r4), .val (.int r9), .val (.int mid), .val (.int (1 : Int32)), .val (.ref b55), .val (.int (sel &&& (7 : Int32))), .unset, .unset, .unset] [(.int (5 : Int32)), (.int (sel &&& (7 : Int32)))])) _
                    refine XS.icmpYes X59.here hx rfl (pc0 := 156) (pc' := 168) rfl (hb hby at_156) rfl (feq hc156_77).2 (by decide) (by decide) ?_
                    show Steps p.tables e below (T59.setTop (mkF m 168 #[.val (.int qx), .val (.int qy), .val (.int qz), .val (.int wq), .val (.int sel), .val (.int r4), .val (.int r9), .val (.int mid), .val (.int (1 : Int32)), .val (.ref b55), .val (.int (sel &&& (7 : Int32))), .unset, .unset, .unset] [])) _
                    refine XS.iload X59.here hx rfl (hb hby at_168) rfl ?_
                    show Steps p.tables e below (T59.setTop (mkF m 170 #[.val (.int qx), .val (.int qy), .val (.int qz), .val (.int wq), .val (.int sel), .val (.int r4), .val (.int r9), .val (.int mid), .val (.int (1 : Int32)), .val (.ref b55), .val (.int (sel &&& (7 : Int32))), .unset, .unset, .unset] [(.int (sel &&& (7 : Int32)))])) _
                    refine XS.bipush X59.here hx rfl (hb hby at_170) ?_
                    exact kt)
                by_cases hc172_80 : (sel &&& (7 : Int32)) = (6 : Int32)
                · -- yes at pc 172: tfttttttt
                  have pre81 : Goes p e below s₁ (entryFrame m #[(.int qx), (.int qy), (.int qz), (.int wq), (.int sel)] maxLocals) T59 (mkF m 187 #[.val (.int qx), .val (.int qy), .val (.int qz), .val (.int wq), .val (.int sel), .val (.int r4), .val (.int r9), .val (.int mid), .val (.int (1 : Int32)), .val (.ref b55), .val (.int (sel &&& (7 : Int32))), .val (.int (mid + (1 : Int32))), .unset, .unset] []) := fun t kt => pre79 t (by
                      show Steps p.tables e below (T59.setTop (mkF m 172 #[.val (.int qx), .val (.int qy), .val (.int qz), .val (.int wq), .val (.int sel), .val (.int r4), .val (.int r9), .val (.int mid), .val (.int (1 : Int32)), .val (.ref b55), .val (.int (sel &&& (7 : Int32))), .unset, .unset, .unset] [(.int (6 : Int32)), (.int (sel &&& (7 : Int32)))])) _
                      refine XS.icmpNo X59.here hx rfl (hb hby at_172) rfl (teq hc172_80).2 ?_
                      show Steps p.tables e below (T59.setTop (mkF m 175 #[.val (.int qx), .val (.int qy), .val (.int qz), .val (.int wq), .val (.int sel), .val (.int r4), .val (.int r9), .val (.int mid), .val (.int (1 : Int32)), .val (.ref b55), .val (.int (sel &&& (7 : Int32))), .unset, .unset, .unset] [])) _
                      refine XS.iload X59.here hx rfl (hb hby at_175) rfl ?_
                      show Steps p.tables e below (T59.setTop (mkF m 177 #[.val (.int qx), .val (.int qy), .val (.int qz), .val (.int wq), .val (.int sel), .val (.int r4), .val (.int r9), .val (.int mid), .val (.int (1 : Int32)), .val (.ref b55), .val (.int (sel &&& (7 : Int32))), .unset, .unset, .unset] [(.int mid)])) _
                      refine XS.iconst X59.here hx rfl (hb hby at_177) ?_
                      show Steps p.tables e below (T59.setTop (mkF m 178 #[.val (.int qx), .val (.int qy), .val (.int qz), .val (.int wq), .val (.int sel), .val (.int r4), .val (.int r9), .val (.int mid), .val (.int (1 : Int32)), .val (.ref b55), .val (.int (sel &&& (7 : Int32))), .unset, .unset, .unset] [(.int (1 : Int32)), (.int mid)])) _
                      refine XS.iadd X59.here hx rfl (hb hby at_178) rfl ?_
                      show Steps p.tables e below (T59.setTop (mkF m 179 #[.val (.int qx), .val (.int qy), .val (.int qz), .val (.int wq), .val (.int sel), .val (.int r4), .val (.int r9), .val (.int mid), .val (.int (1 : Int32)), .val (.ref b55), .val (.int (sel &&& (7 : Int32))), .unset, .unset, .unset] [(.int (mid + (1 : Int32)))])) _
                      refine XS.istore X59.here hx rfl (hb hby at_179) rfl (l' := #[.val (.int qx), .val (.int qy), .val (.int qz), .val (.int wq), .val (.int sel), .val (.int r4), .val (.int r9), .val (.int mid), .val (.int (1 : Int32)), .val (.ref b55), .val (.int (sel &&& (7 : Int32))), .val (.int (mid + (1 : Int32))), .unset, .unset]) rfl ?_
                      show Steps p.tables e below (T59.setTop (mkF m 181 #[.val (.int qx), .val (.int qy), .val (.int qz), .val (.int wq), .val (.int sel), .val (.int r4), .val (.int r9), .val (.int mid), .val (.int (1 : Int32)), .val (.ref b55), .val (.int (sel &&& (7 : Int32))), .val (.int (mid + (1 : Int32))), .unset, .unset] [])) _
                      refine XS.goto X59.here hx rfl (pc0 := 181) (pc' := 187) rfl (hb hby at_181) (by decide) (by decide) ?_
                      exact kt)
                  exact ⟨(mid + (1 : Int32)), pre81⟩
                · -- no at pc 172: tfttttttt
                  have pre82 : Goes p e below s₁ (entryFrame m #[(.int qx), (.int qy), (.int qz), (.int wq), (.int sel)] maxLocals) T59 (mkF m 187 #[.val (.int qx), .val (.int qy), .val (.int qz), .val (.int wq), .val (.int sel), .val (.int r4), .val (.int r9), .val (.int mid), .val (.int (1 : Int32)), .val (.ref b55), .val (.int (sel &&& (7 : Int32))), .val (.int wq), .unset, .unset] []) := fun t kt => pre79 t (by
                      show Steps p.tables e below (T59.setTop (mkF m 172 #[.val (.int qx), .val (.int qy), .val (.int qz), .val (.int wq), .val (.int sel), .val (.int r4), .val (.int r9), .val (.int mid), .val (.int (1 : Int32)), .val (.ref b55), .val (.int (sel &&& (7 : Int32))), .unset, .unset, .unset] [(.int (6 : Int32)), (.int (sel &&& (7 : Int32)))])) _
                      refine XS.icmpYes X59.here hx rfl (pc0 := 172) (pc' := 184) rfl (hb hby at_172) rfl (feq hc172_80).2 (by decide) (by decide) ?_
                      show Steps p.tables e below (T59.setTop (mkF m 184 #[.val (.int qx), .val (.int qy), .val (.int qz), .val (.int wq), .val (.int sel), .val (.int r4), .val (.int r9), .val (.int mid), .val (.int (1 : Int32)), .val (.ref b55), .val (.int (sel &&& (7 : Int32))), .unset, .unset, .unset] [])) _
                      refine XS.iloadN X59.here hx rfl (hb hby at_184) rfl ?_
                      show Steps p.tables e below (T59.setTop (mkF m 185 #[.val (.int qx), .val (.int qy), .val (.int qz), .val (.int wq), .val (.int sel), .val (.int r4), .val (.int r9), .val (.int mid), .val (.int (1 : Int32)), .val (.ref b55), .val (.int (sel &&& (7 : Int32))), .unset, .unset, .unset] [(.int wq)])) _
                      refine XS.istore X59.here hx rfl (hb hby at_185) rfl (l' := #[.val (.int qx), .val (.int qy), .val (.int qz), .val (.int wq), .val (.int sel), .val (.int r4), .val (.int r9), .val (.int mid), .val (.int (1 : Int32)), .val (.ref b55), .val (.int (sel &&& (7 : Int32))), .val (.int wq), .unset, .unset]) rfl ?_
                      exact kt)
                  exact ⟨wq, pre82⟩
    obtain ⟨T83, h83, X83, e83, E83, A83, DD83, -, st83⟩ := newO X59 hx hZ hown (hw _ (List.mem_of_getElem? (i := 8) rfl)) (hw _ (List.mem_of_getElem? (i := 9) rfl)) (hw _ (List.mem_of_getElem? (i := 10) rfl)) e59 (g := (mkF m 187 #[.val (.int qx), .val (.int qy), .val (.int qz), .val (.int wq), .val (.int sel), .val (.int r4), .val (.int r9), .val (.int mid), .val (.int (1 : Int32)), .val (.ref b55), .val (.int (sel &&& (7 : Int32))), .val (.int vv), .unset, .unset] [])) rfl (hb hby at_187) (by decide) (by decide)
    obtain ⟨b83, g83⟩ : ∃ z, z = h59.size := ⟨_, rfl⟩
    rw [← g83] at A83 DD83 st83
    have F_name_b83 : Fld Z h83 b83 "com/example/ferry/ferry/FormatVersions" "name" "Ljava/lang/String;" .null := DD83 (Or.inr (hw _ (List.mem_of_getElem? (i := 26) rfl))) (ty := (.object "java/lang/String")) (by decide)
    have F_versions_b83 : Fld Z h83 b83 "com/example/ferry/ferry/FormatVersions" "versions" "[I" .null := DD83 (Or.inr (hw _ (List.mem_of_getElem? (i := 37) rfl))) (ty := (.array .int)) (by decide)
    have g_b83 : n0 ≤ b83 := Nat.le_trans (Nat.le_trans (Nat.le_trans Z0 E55.1) (Keep.of_wr W59).1) (Nat.le_of_eq g83.symm)
    have sz_b83 : h0.size ≤ b83 := (Nat.le_trans K59.1 (Nat.le_of_eq g83.symm))
    have K83 : Keep h0 h83 [] := K59.ext E83
    have pre84 : Goes p e below s₁ (entryFrame m #[(.int qx), (.int qy), (.int qz), (.int wq), (.int sel)] maxLocals) T83 (mkF m 190 #[.val (.int qx), .val (.int qy), .val (.int qz), .val (.int wq), .val (.int sel), .val (.int r4), .val (.int r9), .val (.int mid), .val (.int (1 : Int32)), .val (.ref b55), .val (.int (sel &&& (7 : Int32))), .val (.int vv), .unset, .unset] [(.ref b83)]) := fun t kt => pre63 t (st83 t kt)
    have pre85 : Goes p e below s₁ (entryFrame m #[(.int qx), (.int qy), (.int qz), (.int wq), (.int sel)] maxLocals) T83 (mkF m 191 #[.val (.int qx), .val (.int qy), .val (.int qz), .val (.int wq), .val (.int sel), .val (.int r4), .val (.int r9), .val (.int mid), .val (.int (1 : Int32)), .val (.ref b55), .val (.int (sel &&& (7 : Int32))), .val (.int vv), .unset, .unset] [(.ref b83), (.ref b83)]) := fun t kt => pre84 t (by
        show Steps p.tables e below (T83.setTop (mkF m 190 #[.val (.int qx), .val (.int qy), .val (.int qz), .val (.int wq), .val (.int sel), .val (.int r4), .val (.int r9), .val (.int mid), .val (.int (1 : Int32)), .val (.ref b55), .val (.int (sel &&& (7 : Int32))), .val (.int vv), .unset, .unset] [(.ref b83)])) _
        refine XS.dup X83.here hx rfl (hb hby at_190) rfl rfl ?_
        exact kt)
    have wS86 : ∀ a ∈ Bundle.stringAtoms, a.before a0 Z = true := fun d hd => by
      simp only [Bundle.stringAtoms, List.mem_cons, List.not_mem_nil, or_false] at hd
      rcases hd with rfl | rfl | rfl | rfl | rfl | rfl | rfl
      · exact (hw _ (List.mem_of_getElem? (i := 12) rfl))
      · exact (hw _ (List.mem_of_getElem? (i := 13) rfl))
      · exact (hw _ (List.mem_of_getElem? (i := 14) rfl))
      · exact (hw _ (List.mem_of_getElem? (i := 15) rfl))
      · exact (hw _ (List.mem_of_getElem? (i := 16) rfl))
      · exact (hw _ (List.mem_of_getElem? (i := 17) rfl))
      · exact (hw _ (List.mem_of_getElem? (i := 18) rfl))
    obtain ⟨sa86, T86, h86, kk86, X86, e86, E86, hS86, hk86, hZ, hown, st86⟩ := ldcS (s := s) (vm0 := s.vm) X83 hx hZ hown (hw _ (List.mem_of_getElem? (i := 11) rfl)) wS86 e83 (State.WarmedH.since (State.WarmedH.refl s) 0) (Nat.zero_le _) (g := (mkF m 191 #[.val (.int qx), .val (.int qy), .val (.int qz), .val (.int wq), .val (.int sel), .val (.int r4), .val (.int r9), .val (.int mid), .val (.int (1 : Int32)), .val (.ref b55), .val (.int (sel &&& (7 : Int32))), .val (.int vv), .unset, .unset] [(.ref b83), (.ref b83)])) rfl (hb hby at_191) (n := 56) (by decide) (by decide) (by decide) (by decide)
    have K86 : Keep h0 h86 [] := K83.ext E86
    have pre87 : Goes p e below s₁ (entryFrame m #[(.int qx), (.int qy), (.int qz), (.int wq), (.int sel)] maxLocals) T86 (mkF m 193 #[.val (.int qx), .val (.int qy), .val (.int qz), .val (.int wq), .val (.int sel), .val (.int r4), .val (.int r9), .val (.int mid), .val (.int (1 : Int32)), .val (.ref b55), .val (.int (sel &&& (7 : Int32))), .val (.int vv), .unset, .unset] [(.ref sa86), (.ref b83), (.ref b83)]) := fun t kt => pre85 t (st86 t kt)
    have pre88 : Goes p e below s₁ (entryFrame m #[(.int qx), (.int qy), (.int qz), (.int wq), (.int sel)] maxLocals) T86 (mkF m 195 #[.val (.int qx), .val (.int qy), .val (.int qz), .val (.int wq), .val (.int sel), .val (.int r4), .val (.int r9), .val (.int mid), .val (.int (1 : Int32)), .val (.ref b55), .val (.int (sel &&& (7 : Int32))), .val (.int vv), .unset, .unset] [(.ref b55), (.ref sa86), (.ref b83), (.ref b83)]) := fun t kt => pre87 t (by
        show Steps p.tables e below (T86.setTop (mkF m 193 #[.val (.int qx), .val (.int qy), .val (.int qz), .val (.int wq), .val (.int sel), .val (.int r4), .val (.int r9), .val (.int mid), .val (.int (1 : Int32)), .val (.ref b55), .val (.int (sel &&& (7 : Int32))), .val (.int vv), .unset, .unset] [(.ref sa86), (.ref b83), (.ref b83)])) _
        refine XS.aload X86.here hx rfl (hb hby at_193) rfl rfl ?_
        exact kt)
    obtain ⟨_, _, ⟨T89, L89, k89, n89⟩, -, X89, ⟨Lc89, hQ89, l89, y89, z89⟩, st89⟩ := X86.specialBack hx (y := (⟨"com/example/ferry/ferry/FormatVersions", "<init>", "(Ljava/lang/String;[I)V"⟩ : MethodName)) rfl hown (mvT hZ (hw _ (List.mem_of_getElem? (i := 19) rfl))) (mvT hZ (hw _ (List.mem_of_getElem? (i := 20) rfl))) (mvT hZ (hw _ (List.mem_of_getElem? (i := 21) rfl))) (by decide) (backOf (W := 1) (own_init l Z a0 hw [] b83 sa86 b55 k55 (1 : Int32) [(.int r4)] h86 n0 (Nat.le_trans (Nat.le_trans (Nat.le_trans (Nat.le_trans Z0 E55.1) (Keep.of_wr W59).1) E83.1) E86.1) (A83.ext E86) (F_name_b83.ext E86) (F_versions_b83.ext E86) g_b83 ((V59.ext E83).ext E86) (((XA55.wr W59).ext E83).ext E86) (Nat.ne_of_lt (Nat.lt_of_lt_of_le (XA55.wr W59).lt (Nat.le_of_eq g83.symm))) (by decide)) hZ (hw _ (List.mem_of_getElem? (i := 21) rfl)) (hw _ (List.mem_of_getElem? (i := 10) rfl)) (by decide) (by decide)) (g := (mkF m 195 #[.val (.int qx), .val (.int qy), .val (.int qz), .val (.int wq), .val (.int sel), .val (.int r4), .val (.int r9), .val (.int mid), .val (.int (1 : Int32)), .val (.ref b55), .val (.int (sel &&& (7 : Int32))), .val (.int vv), .unset, .unset] [(.ref b55), (.ref sa86), (.ref b83), (.ref b83)])) rfl (by rw [hml]; rfl) (Steps.refl _) (a := b83) (argsL := [(.ref sa86), (.ref b55)]) (rest := [(.ref b83)]) (lenOf own_pd1 rfl) rfl (by show 2 * 0 + _ ≤ _; exact Nat.le_of_eq rfl) (hb hby at_195) (fun _ _ => ⟨rfl, e86, (by decide : 4 + 1 ≤ _), (by decide : 63 + 3 ≤ _)⟩)
    dsimp only [Pt.U, Pt.locs, Pt.cells, Pt.slots] at X89 l89 y89 z89 st89 hQ89
    subst l89 y89 z89
    obtain ⟨rfl, N89q, K89q, t89, Fv89, Vt89⟩ := hQ89
    have N89 := Fr.app N59 N89q
    have KC89 : Keep h0 T89.heap [] := K86.trans K89q (allS (Or.inr sz_b83) all0)
    have pre90 : Goes p e below s₁ (entryFrame m #[(.int qx), (.int qy), (.int qz), (.int wq), (.int sel)] maxLocals) T89 (mkF m 198 #[.val (.int qx), .val (.int qy), .val (.int qz), .val (.int wq), .val (.int sel), .val (.int r4), .val (.int r9), .val (.int mid), .val (.int (1 : Int32)), .val (.ref b55), .val (.int (sel &&& (7 : Int32))), .val (.int vv), .unset, .unset] [(.ref b83)]) := fun t kt => pre88 t (st89.trans kt)
    have pre91 : Goes p e below s₁ (entryFrame m #[(.int qx), (.int qy), (.int qz), (.int wq), (.int sel)] maxLocals) T89 (mkF m 200 #[.val (.int qx), .val (.int qy), .val (.int qz), .val (.int wq), .val (.int sel), .val (.int r4), .val (.int r9), .val (.int mid), .val (.int (1 : Int32)), .val (.ref b55), .val (.int (sel &&& (7 : Int32))), .val (.int vv), .val (.ref b83), .unset] []) := fun t kt => pre90 t (by
        show Steps p.tables e below (T89.setTop (mkF m 198 #[.val (.int qx), .val (.int qy), .val (.int qz), .val (.int wq), .val (.int sel), .val (.int r4), .val (.int r9), .val (.int mid), .val (.int (1 : Int32)), .val (.ref b55), .val (.int (sel &&& (7 : Int32))), .val (.int vv), .unset, .unset] [(.ref b83)])) _
        refine XS.astore X89.here hx rfl (hb hby at_198) rfl rfl (l' := #[.val (.int qx), .val (.int qy), .val (.int qz), .val (.int wq), .val (.int sel), .val (.int r4), .val (.int r9), .val (.int mid), .val (.int (1 : Int32)), .val (.ref b55), .val (.int (sel &&& (7 : Int32))), .val (.int vv), .val (.ref b83), .unset]) rfl ?_
        exact kt)
    obtain ⟨ex, hex, pre93⟩ : ∃ (ex : Int32), (ex = if (r4 = vv) then 1 else 0) ∧ Goes p e below s₁ (entryFrame m #[(.int qx), (.int qy), (.int qz), (.int wq), (.int sel)] maxLocals) T89 (mkF m 245 #[.val (.int qx), .val (.int qy), .val (.int qz), .val (.int wq), .val (.int sel), .val (.int r4), .val (.int r9), .val (.int mid), .val (.int (1 : Int32)), .val (.ref b55), .val (.int (sel &&& (7 : Int32))), .val (.int vv), .val (.ref b83), .val (.int ex)] []) := by
      have pre94 : Goes p e below s₁ (entryFrame m #[(.int qx), (.int qy), (.int qz), (.int wq), (.int sel)] maxLocals) T89 (mkF m 209 #[.val (.int qx), .val (.int qy), .val (.int qz), .val (.int wq), .val (.int sel), .val (.int r4), .val (.int r9), .val (.int mid), .val (.int (1 : Int32)), .val (.ref b55), .val (.int (sel &&& (7 : Int32))), .val (.int vv), .val (.ref b83), .unset] [(.int r4), (.int vv)]) := fun t kt => pre91 t (by
          show Steps p.tables e below (T89.setTop (mkF m 200 #[.val (.int qx), .val (.int qy), .val (.int qz), .val (.int wq), .val (.int sel), .val (.int r4), .val (.int r9), .val (.int mid), .val (.int (1 : Int32)), .val (.ref b55), .val (.int (sel &&& (7 : Int32))), .val (.int vv), .val (.ref b83), .unset] [])) _
          refine XS.iload X89.here hx rfl (hb hby at_200) rfl ?_
          show Steps p.tables e below (T89.setTop (mkF m 202 #[.val (.int qx), .val (.int qy), .val (.int qz), .val (.int wq), .val (.int sel), .val (.int r4), .val (.int r9), .val (.int mid), .val (.int (1 : Int32)), .val (.ref b55), .val (.int (sel &&& (7 : Int32))), .val (.int vv), .val (.ref b83), .unset] [(.int (1 : Int32))])) _
          refine XS.ifNo X89.here hx rfl (hb hby at_202) rfl ((if0 _ _).trans (tlt (by decide : (0 : Int32) < (1 : Int32))).2.2.2) ?_
          show Steps p.tables e below (T89.setTop (mkF m 205 #[.val (.int qx), .val (.int qy), .val (.int qz), .val (.int wq), .val (.int sel), .val (.int r4), .val (.int r9), .val (.int mid), .val (.int (1 : Int32)), .val (.ref b55), .val (.int (sel &&& (7 : Int32))), .val (.int vv), .val (.ref b83), .unset] [])) _
          refine XS.iload X89.here hx rfl (hb hby at_205) rfl ?_
          show Steps p.tables e below (T89.setTop (mkF m 207 #[.val (.int qx), .val (.int qy), .val (.int qz), .val (.int wq), .val (.int sel), .val (.int r4), .val (.int r9), .val (.int mid), .val (.int (1 : Int32)), .val (.ref b55), .val (.int (sel &&& (7 : Int32))), .val (.int vv), .val (.ref b83), .unset] [(.int vv)])) _
          refine XS.iload X89.here hx rfl (hb hby at_207) rfl ?_
          exact kt)
      by_cases hc209_95 : vv = r4
      · -- yes at pc 209: tfttf
        have pre96 : Goes p e below s₁ (entryFrame m #[(.int qx), (.int qy), (.int qz), (.int wq), (.int sel)] maxLocals) T89 (mkF m 245 #[.val (.int qx), .val (.int qy), .val (.int qz), .val (.int wq), .val (.int sel), .val (.int r4), .val (.int r9), .val (.int mid), .val (.int (1 : Int32)), .val (.ref b55), .val (.int (sel &&& (7 : Int32))), .val (.int vv), .val (.ref b83), .val (.int (1 : Int32))] []) := fun t kt => pre94 t (by
            show Steps p.tables e below (T89.setTop (mkF m 209 #[.val (.int qx), .val (.int qy), .val (.int qz), .val (.int wq), .val (.int sel), .val (.int r4), .val (.int r9), .val (.int mid), .val (.int (1 : Int32)), .val (.ref b55), .val (.int (sel &&& (7 : Int32))), .val (.int vv), .val (.ref b83), .unset] [(.int r4), (.int vv)])) _
            refine XS.icmpYes X89.here hx rfl (pc0 := 209) (pc' := 238) rfl (hb hby at_209) rfl (teq hc209_95).1 (by decide) (by decide) ?_
            show Steps p.tables e below (T89.setTop (mkF m 238 #[.val (.int qx), .val (.int qy), .val (.int qz), .val (.int wq), .val (.int sel), .val (.int r4), .val (.int r9), .val (.int mid), .val (.int (1 : Int32)), .val (.ref b55), .val (.int (sel &&& (7 : Int32))), .val (.int vv), .val (.ref b83), .unset] [])) _
            refine XS.iconst X89.here hx rfl (hb hby at_238) ?_
            show Steps p.tables e below (T89.setTop (mkF m 239 #[.val (.int qx), .val (.int qy), .val (.int qz), .val (.int wq), .val (.int sel), .val (.int r4), .val (.int r9), .val (.int mid), .val (.int (1 : Int32)), .val (.ref b55), .val (.int (sel &&& (7 : Int32))), .val (.int vv), .val (.ref b83), .unset] [(.int (1 : Int32))])) _
            refine XS.goto X89.here hx rfl (pc0 := 239) (pc' := 243) rfl (hb hby at_239) (by decide) (by decide) ?_
            show Steps p.tables e below (T89.setTop (mkF m 243 #[.val (.int qx), .val (.int qy), .val (.int qz), .val (.int wq), .val (.int sel), .val (.int r4), .val (.int r9), .val (.int mid), .val (.int (1 : Int32)), .val (.ref b55), .val (.int (sel &&& (7 : Int32))), .val (.int vv), .val (.ref b83), .unset] [(.int (1 : Int32))])) _
            refine XS.istore X89.here hx rfl (hb hby at_243) rfl (l' := #[.val (.int qx), .val (.int qy), .val (.int qz), .val (.int wq), .val (.int sel), .val (.int r4), .val (.int r9), .val (.int mid), .val (.int (1 : Int32)), .val (.ref b55), .val (.int (sel &&& (7 : Int32))), .val (.int vv), .val (.ref b83), .val (.int (1 : Int32))]) rfl ?_
            exact kt)
        exact ⟨(1 : Int32), (by simp [hc209_95.symm]), pre96⟩
      · -- no at pc 209: tfttf
        have pre97 : Goes p e below s₁ (entryFrame m #[(.int qx), (.int qy), (.int qz), (.int wq), (.int sel)] maxLocals) T89 (mkF m 245 #[.val (.int qx), .val (.int qy), .val (.int qz), .val (.int wq), .val (.int sel), .val (.int r4), .val (.int r9), .val (.int mid), .val (.int (1 : Int32)), .val (.ref b55), .val (.int (sel &&& (7 : Int32))), .val (.int vv), .val (.ref b83), .val (.int (0 : Int32))] []) := fun t kt => pre94 t (by
            show Steps p.tables e below (T89.setTop (mkF m 209 #[.val (.int qx), .val (.int qy), .val (.int qz), .val (.int wq), .val (.int sel), .val (.int r4), .val (.int r9), .val (.int mid), .val (.int (1 : Int32)), .val (.ref b55), .val (.int (sel &&& (7 : Int32))), .val (.int vv), .val (.ref b83), .unset] [(.int r4), (.int vv)])) _
            refine XS.icmpNo X89.here hx rfl (hb hby at_209) rfl (feq hc209_95).1 ?_
            show Steps p.tables e below (T89.setTop (mkF m 212 #[.val (.int qx), .val (.int qy), .val (.int qz), .val (.int wq), .val (.int sel), .val (.int r4), .val (.int r9), .val (.int mid), .val (.int (1 : Int32)), .val (.ref b55), .val (.int (sel &&& (7 : Int32))), .val (.int vv), .val (.ref b83), .unset] [])) _
            refine XS.iload X89.here hx rfl (hb hby at_212) rfl ?_
            show Steps p.tables e below (T89.setTop (mkF m 214 #[.val (.int qx), .val (.int qy), .val (.int qz), .val (.int wq), .val (.int sel), .val (.int r4), .val (.int r9), .val (.int mid), .val (.int (1 : Int32)), .val (.ref b55), .val (.int (sel &&& (7 : Int32))), .val (.int vv), .val (.ref b83), .unset] [(.int (1 : Int32))])) _
            refine XS.iconst X89.here hx rfl (hb hby at_214) ?_
            show Steps p.tables e below (T89.setTop (mkF m 215 #[.val (.int qx), .val (.int qy), .val (.int qz), .val (.int wq), .val (.int sel), .val (.int r4), .val (.int r9), .val (.int mid), .val (.int (1 : Int32)), .val (.ref b55), .val (.int (sel &&& (7 : Int32))), .val (.int vv), .val (.ref b83), .unset] [(.int (1 : Int32)), (.int (1 : Int32))])) _
            refine XS.icmpYes X89.here hx rfl (pc0 := 215) (pc' := 225) rfl (hb hby at_215) rfl (flt (by decide : ¬ ((1 : Int32) < (1 : Int32)))).2.2.2 (by decide) (by decide) ?_
            show Steps p.tables e below (T89.setTop (mkF m 225 #[.val (.int qx), .val (.int qy), .val (.int qz), .val (.int wq), .val (.int sel), .val (.int r4), .val (.int r9), .val (.int mid), .val (.int (1 : Int32)), .val (.ref b55), .val (.int (sel &&& (7 : Int32))), .val (.int vv), .val (.ref b83), .unset] [])) _
            refine XS.iload X89.here hx rfl (hb hby at_225) rfl ?_
            show Steps p.tables e below (T89.setTop (mkF m 227 #[.val (.int qx), .val (.int qy), .val (.int qz), .val (.int wq), .val (.int sel), .val (.int r4), .val (.int r9), .val (.int mid), .val (.int (1 : Int32)), .val (.ref b55), .val (.int (sel &&& (7 : Int32))), .val (.int vv), .val (.ref b83), .unset] [(.int (1 : Int32))])) _
            refine XS.iconst X89.here hx rfl (hb hby at_227) ?_
            show Steps p.tables e below (T89.setTop (mkF m 228 #[.val (.int qx), .val (.int qy), .val (.int qz), .val (.int wq), .val (.int sel), .val (.int r4), .val (.int r9), .val (.int mid), .val (.int (1 : Int32)), .val (.ref b55), .val (.int (sel &&& (7 : Int32))), .val (.int vv), .val (.ref b83), .unset] [(.int (2 : Int32)), (.int (1 : Int32))])) _
            refine XS.icmpYes X89.here hx rfl (pc0 := 228) (pc' := 242) rfl (hb hby at_228) rfl (flt (by decide : ¬ ((2 : Int32) < (1 : Int32)))).2.2.2 (by decide) (by decide) ?_
            show Steps p.tables e below (T89.setTop (mkF m 242 #[.val (.int qx), .val (.int qy), .val (.int qz), .val (.int wq), .val (.int sel), .val (.int r4), .val (.int r9), .val (.int mid), .val (.int (1 : Int32)), .val (.ref b55), .val (.int (sel &&& (7 : Int32))), .val (.int vv), .val (.ref b83), .unset] [])) _
            refine XS.iconst X89.here hx rfl (hb hby at_242) ?_
            show Steps p.tables e below (T89.setTop (mkF m 243 #[.val (.int qx), .val (.int qy), .val (.int qz), .val (.int wq), .val (.int sel), .val (.int r4), .val (.int r9), .val (.int mid), .val (.int (1 : Int32)), .val (.ref b55), .val (.int (sel &&& (7 : Int32))), .val (.int vv), .val (.ref b83), .unset] [(.int (0 : Int32))])) _
            refine XS.istore X89.here hx rfl (hb hby at_243) rfl (l' := #[.val (.int qx), .val (.int qy), .val (.int qz), .val (.int wq), .val (.int sel), .val (.int r4), .val (.int r9), .val (.int mid), .val (.int (1 : Int32)), .val (.ref b55), .val (.int (sel &&& (7 : Int32))), .val (.int vv), .val (.ref b83), .val (.int (0 : Int32))]) rfl ?_
            exact kt)
        exact ⟨(0 : Int32), (by simp [(show ¬ (r4 = vv) from fun q => hc209_95 q.symm)]), pre97⟩
    have pre98 : Goes p e below s₁ (entryFrame m #[(.int qx), (.int qy), (.int qz), (.int wq), (.int sel)] maxLocals) T89 (mkF m 249 #[.val (.int qx), .val (.int qy), .val (.int qz), .val (.int wq), .val (.int sel), .val (.int r4), .val (.int r9), .val (.int mid), .val (.int (1 : Int32)), .val (.ref b55), .val (.int (sel &&& (7 : Int32))), .val (.int vv), .val (.ref b83), .val (.int ex)] [(.int vv), (.ref b83)]) := fun t kt => pre93 t (by
        show Steps p.tables e below (T89.setTop (mkF m 245 #[.val (.int qx), .val (.int qy), .val (.int qz), .val (.int wq), .val (.int sel), .val (.int r4), .val (.int r9), .val (.int mid), .val (.int (1 : Int32)), .val (.ref b55), .val (.int (sel &&& (7 : Int32))), .val (.int vv), .val (.ref b83), .val (.int ex)] [])) _
        refine XS.aload X89.here hx rfl (hb hby at_245) rfl rfl ?_
        show Steps p.tables e below (T89.setTop (mkF m 247 #[.val (.int qx), .val (.int qy), .val (.int qz), .val (.int wq), .val (.int sel), .val (.int r4), .val (.int r9), .val (.int mid), .val (.int (1 : Int32)), .val (.ref b55), .val (.int (sel &&& (7 : Int32))), .val (.int vv), .val (.ref b83), .val (.int ex)] [(.ref b83)])) _
        refine XS.iload X89.here hx rfl (hb hby at_247) rfl ?_
        exact kt)
    obtain ⟨cq99, kq99, q99a, q99b, q99c⟩ := isOf hZ rfl ((A83.ext E86).keep K89q)
    obtain ⟨_, _, ⟨T99, L99, k99, n99⟩, -, X99, ⟨Lc99, hQ99, l99, y99, z99⟩, st99⟩ := X89.virtualBack hx (y := (⟨"com/example/ferry/ferry/FormatVersions", "reads", "(I)Z"⟩ : MethodName)) (z := (⟨"com/example/ferry/ferry/FormatVersions", "reads", "(I)Z"⟩ : MethodName)) hown (mvT hZ (hw _ (List.mem_of_getElem? (i := 38) rfl))) (mvT hZ (hw _ (List.mem_of_getElem? (i := 39) rfl))) (notFace_of_selects (args := #[]) (mvT hZ (hw _ (List.mem_of_getElem? (i := 41) rfl)))) (mvT hZ (hw _ (List.mem_of_getElem? (i := 41) rfl))) (mvT hZ (hw _ (List.mem_of_getElem? (i := 40) rfl))) (by decide) (backOf (W := 0) (own_reads1 l Z a0 hw [] b83 vv t89 k55 r4 ex T89.heap n0 (Nat.le_trans (Nat.le_trans (Nat.le_trans (Nat.le_trans (Nat.le_trans Z0 E55.1) (Keep.of_wr W59).1) E83.1) E86.1) K89q.1) Fv89 Vt89 hex) hZ (hw _ (List.mem_of_getElem? (i := 42) rfl)) (hw _ (List.mem_of_getElem? (i := 10) rfl)) (by decide) (by decide)) q99a q99c (g := (mkF m 249 #[.val (.int qx), .val (.int qy), .val (.int qz), .val (.int wq), .val (.int sel), .val (.int r4), .val (.int r9), .val (.int mid), .val (.int (1 : Int32)), .val (.ref b55), .val (.int (sel &&& (7 : Int32))), .val (.int vv), .val (.ref b83), .val (.int ex)] [(.int vv), (.ref b83)])) rfl (by rw [hml]; rfl) (Steps.refl _) (argsL := [(.int vv)]) (rest := []) (lenOf own_pd2 rfl) rfl (by show 2 * 0 + _ ≤ _; exact Nat.le_of_eq rfl) (hb hby at_249) (fun _ _ => ⟨rfl, rfl, (by decide : 5 + 0 ≤ _), (by decide : 66 + 0 ≤ _)⟩)
    dsimp only [Pt.U, Pt.locs, Pt.cells, Pt.slots] at X99 l99 y99 z99 st99 hQ99
    subst l99 y99 z99
    obtain ⟨rfl, N99q, e99⟩ := hQ99
    have N99 := Fr.app N89 N99q
    have pre100 : Goes p e below s₁ (entryFrame m #[(.int qx), (.int qy), (.int qz), (.int wq), (.int sel)] maxLocals) T99 (mkF m 252 #[.val (.int qx), .val (.int qy), .val (.int qz), .val (.int wq), .val (.int sel), .val (.int r4), .val (.int r9), .val (.int mid), .val (.int (1 : Int32)), .val (.ref b55), .val (.int (sel &&& (7 : Int32))), .val (.int vv), .val (.ref b83), .val (.int ex)] [(.int ex)]) := fun t kt => pre98 t (st99.trans kt)
    have pre101 : Goes p e below s₁ (entryFrame m #[(.int qx), (.int qy), (.int qz), (.int wq), (.int sel)] maxLocals) T99 (mkF m 262 #[.val (.int qx), .val (.int qy), .val (.int qz), .val (.int wq), .val (.int sel), .val (.int r4), .val (.int r9), .val (.int mid), .val (.int (1 : Int32)), .val (.ref b55), .val (.int (sel &&& (7 : Int32))), .val (.int vv), .val (.ref b83), .val (.int ex)] [(.int (1 : Int32))]) := fun t kt => pre100 t (by
        show Steps p.tables e below (T99.setTop (mkF m 252 #[.val (.int qx), .val (.int qy), .val (.int qz), .val (.int wq), .val (.int sel), .val (.int r4), .val (.int r9), .val (.int mid), .val (.int (1 : Int32)), .val (.ref b55), .val (.int (sel &&& (7 : Int32))), .val (.int vv), .val (.ref b83), .val (.int ex)] [(.int ex)])) _
        refine XS.iload X99.here hx rfl (hb hby at_252) rfl ?_
        show Steps p.tables e below (T99.setTop (mkF m 254 #[.val (.int qx), .val (.int qy), .val (.int qz), .val (.int wq), .val (.int sel), .val (.int r4), .val (.int r9), .val (.int mid), .val (.int (1 : Int32)), .val (.ref b55), .val (.int (sel &&& (7 : Int32))), .val (.int vv), .val (.ref b83), .val (.int ex)] [(.int ex), (.int ex)])) _
        refine XS.icmpNo X99.here hx rfl (hb hby at_254) rfl (teq (rfl : ex = ex)).2 ?_
        show Steps p.tables e below (T99.setTop (mkF m 257 #[.val (.int qx), .val (.int qy), .val (.int qz), .val (.int wq), .val (.int sel), .val (.int r4), .val (.int r9), .val (.int mid), .val (.int (1 : Int32)), .val (.ref b55), .val (.int (sel &&& (7 : Int32))), .val (.int vv), .val (.ref b83), .val (.int ex)] [])) _
        refine XS.iconst X99.here hx rfl (hb hby at_257) ?_
        show Steps p.tables e below (T99.setTop (mkF m 258 #[.val (.int qx), .val (.int qy), .val (.int qz), .val (.int wq), .val (.int sel), .val (.int r4), .val (.int r9), .val (.int mid), .val (.int (1 : Int32)), .val (.ref b55), .val (.int (sel &&& (7 : Int32))), .val (.int vv), .val (.ref b83), .val (.int ex)] [(.int (1 : Int32))])) _
        refine XS.goto X99.here hx rfl (pc0 := 258) (pc' := 262) rfl (hb hby at_258) (by decide) (by decide) ?_
        exact kt)
    obtain ⟨fs, hr, hrun, hended, hEnd⟩ := X99.leaveW hS86 (by rw [e99]; exact (Nat.le_trans hk86 K89q.1)) (v := some (.int (1 : Int32))) (fun h => by rw [Bd.returns] at h; cases h)
    refine ⟨_, _, pre101 _ ?_, hrun, hended, _, _, rfl, ?_, hEnd.1, hEnd.2.1, hEnd.2.2.1, hEnd.2.2.2.mono (by decide) (by decide)⟩
    · show Steps p.tables e below (T99.setTop (mkF m 262 #[.val (.int qx), .val (.int qy), .val (.int qz), .val (.int wq), .val (.int sel), .val (.int r4), .val (.int r9), .val (.int mid), .val (.int (1 : Int32)), .val (.ref b55), .val (.int (sel &&& (7 : Int32))), .val (.int vv), .val (.ref b83), .val (.int ex)] [(.int (1 : Int32))])) _
      exact retN X99 hx (t := .boolean) Bd.returns (by simp) (hb hby at_262) hr
    · show Q_own_rm0 Z qx qy qz wq sel h0 n0 _ T99.heap _
      rw [e99]
      exact ⟨rfl, N99⟩
  · -- n = 2
    rw [show (((sel.toUInt32 >>> ((3 : Int32) &&& 31).toUInt32).toInt32) &&& (3 : Int32)) = (2 : Int32) from hk] at pre12
    have pre102 : Goes p e below s₁ (entryFrame m #[(.int qx), (.int qy), (.int qz), (.int wq), (.int sel)] maxLocals) T9 (mkF m 54 #[.val (.int qx), .val (.int qy), .val (.int qz), .val (.int wq), .val (.int sel), .val (.int r4), .val (.int r9), .val (.int mid), .val (.int (2 : Int32)), .unset, .unset, .unset, .unset, .unset] [(.int (2 : Int32))]) := fun t kt => pre12 t (by
        show Steps p.tables e below (T9.setTop (mkF m 43 #[.val (.int qx), .val (.int qy), .val (.int qz), .val (.int wq), .val (.int sel), .val (.int r4), .val (.int r9), .val (.int mid), .val (.int (2 : Int32)), .unset, .unset, .unset, .unset, .unset] [])) _
        refine XS.iload X9.here hx rfl (hb hby at_43) rfl ?_
        show Steps p.tables e below (T9.setTop (mkF m 45 #[.val (.int qx), .val (.int qy), .val (.int qz), .val (.int wq), .val (.int sel), .val (.int r4), .val (.int r9), .val (.int mid), .val (.int (2 : Int32)), .unset, .unset, .unset, .unset, .unset] [(.int (2 : Int32))])) _
        refine XS.iconst X9.here hx rfl (hb hby at_45) ?_
        show Steps p.tables e below (T9.setTop (mkF m 46 #[.val (.int qx), .val (.int qy), .val (.int qz), .val (.int wq), .val (.int sel), .val (.int r4), .val (.int r9), .val (.int mid), .val (.int (2 : Int32)), .unset, .unset, .unset, .unset, .unset] [(.int (3 : Int32)), (.int (2 : Int32))])) _
        refine XS.icmpYes X9.here hx rfl (pc0 := 46) (pc' := 52) rfl (hb hby at_46) rfl (feq (by decide : ¬ ((2 : Int32) = (3 : Int32)))).2 (by decide) (by decide) ?_
        show Steps p.tables e below (T9.setTop (mkF m 52 #[.val (.int qx), .val (.int qy), .val (.int qz), .val (.int wq), .val (.int sel), .val (.int r4), .val (.int r9), .val (.int mid), .val (.int (2 : Int32)), .unset, .unset, .unset, .unset, .unset] [])) _
        refine XS.iload X9.here hx rfl (hb hby at_52) rfl ?_
        exact kt)
    obtain ⟨T103, h103, k103, X103, e103, E103, A103, XA103, st103⟩ := newPE X9 hx hZ (hw _ (List.mem_of_getElem? (i := 7) rfl)) e9 (g := (mkF m 54 #[.val (.int qx), .val (.int qy), .val (.int qz), .val (.int wq), .val (.int sel), .val (.int r4), .val (.int r9), .val (.int mid), .val (.int (2 : Int32)), .unset, .unset, .unset, .unset, .unset] [(.int (2 : Int32))])) rfl (hb hby at_54) rfl (by decide) (cap := 2) (by decide) (by decide) (by decide) (by decide) (ad := "[I") rfl
    obtain ⟨b103, g103⟩ : ∃ z, z = h0.size := ⟨_, rfl⟩
    rw [← g103] at A103 XA103 st103
    have V_b103 : Arv Z h103 b103 k103 .int (2 : Int32) [(.int (0 : Int32)), (.int (0 : Int32))] (.int (0 : Int32)) := (Arv.new A103 (by decide)).pad (pad_rep [] (.int (0 : Int32)) 2)
    have g_b103 : n0 ≤ b103 := Nat.le_trans Z0 (Nat.le_of_eq g103.symm)
    have sz_b103 : h0.size ≤ b103 := (Nat.le_trans (Keep.refl h0 []).1 (Nat.le_of_eq g103.symm))
    have K103 : Keep h0 h103 [] := (Keep.refl h0 []).ext E103
    have pre104 : Goes p e below s₁ (entryFrame m #[(.int qx), (.int qy), (.int qz), (.int wq), (.int sel)] maxLocals) T103 (mkF m 56 #[.val (.int qx), .val (.int qy), .val (.int qz), .val (.int wq), .val (.int sel), .val (.int r4), .val (.int r9), .val (.int mid), .val (.int (2 : Int32)), .unset, .unset, .unset, .unset, .unset] [(.ref b103)]) := fun t kt => pre102 t (st103 t kt)
    have pre105 : Goes p e below s₁ (entryFrame m #[(.int qx), (.int qy), (.int qz), (.int wq), (.int sel)] maxLocals) T103 (mkF m 68 #[.val (.int qx), .val (.int qy), .val (.int qz), .val (.int wq), .val (.int sel), .val (.int r4), .val (.int r9), .val (.int mid), .val (.int (2 : Int32)), .val (.ref b103), .unset, .unset, .unset, .unset] [(.int r4), (.int (0 : Int32)), (.ref b103)]) := fun t kt => pre104 t (by
        show Steps p.tables e below (T103.setTop (mkF m 56 #[.val (.int qx), .val (.int qy), .val (.int qz), .val (.int wq), .val (.int sel), .val (.int r4), .val (.int r9), .val (.int mid), .val (.int (2 : Int32)), .unset, .unset, .unset, .unset, .unset] [(.ref b103)])) _
        refine XS.astore X103.here hx rfl (hb hby at_56) rfl rfl (l' := #[.val (.int qx), .val (.int qy), .val (.int qz), .val (.int wq), .val (.int sel), .val (.int r4), .val (.int r9), .val (.int mid), .val (.int (2 : Int32)), .val (.ref b103), .unset, .unset, .unset, .unset]) rfl ?_
        show Steps p.tables e below (T103.setTop (mkF m 58 #[.val (.int qx), .val (.int qy), .val (.int qz), .val (.int wq), .val (.int sel), .val (.int r4), .val (.int r9), .val (.int mid), .val (.int (2 : Int32)), .val (.ref b103), .unset, .unset, .unset, .unset] [])) _
        refine XS.iload X103.here hx rfl (hb hby at_58) rfl ?_
        show Steps p.tables e below (T103.setTop (mkF m 60 #[.val (.int qx), .val (.int qy), .val (.int qz), .val (.int wq), .val (.int sel), .val (.int r4), .val (.int r9), .val (.int mid), .val (.int (2 : Int32)), .val (.ref b103), .unset, .unset, .unset, .unset] [(.int (2 : Int32))])) _
        refine XS.ifNo X103.here hx rfl (hb hby at_60) rfl ((if0 _ _).trans (tlt (by decide : (0 : Int32) < (2 : Int32))).2.2.2) ?_
        show Steps p.tables e below (T103.setTop (mkF m 63 #[.val (.int qx), .val (.int qy), .val (.int qz), .val (.int wq), .val (.int sel), .val (.int r4), .val (.int r9), .val (.int mid), .val (.int (2 : Int32)), .val (.ref b103), .unset, .unset, .unset, .unset] [])) _
        refine XS.aload X103.here hx rfl (hb hby at_63) rfl rfl ?_
        show Steps p.tables e below (T103.setTop (mkF m 65 #[.val (.int qx), .val (.int qy), .val (.int qz), .val (.int wq), .val (.int sel), .val (.int r4), .val (.int r9), .val (.int mid), .val (.int (2 : Int32)), .val (.ref b103), .unset, .unset, .unset, .unset] [(.ref b103)])) _
        refine XS.iconst X103.here hx rfl (hb hby at_65) ?_
        show Steps p.tables e below (T103.setTop (mkF m 66 #[.val (.int qx), .val (.int qy), .val (.int qz), .val (.int wq), .val (.int sel), .val (.int r4), .val (.int r9), .val (.int mid), .val (.int (2 : Int32)), .val (.ref b103), .unset, .unset, .unset, .unset] [(.int (0 : Int32)), (.ref b103)])) _
        refine XS.iload X103.here hx rfl (hb hby at_66) rfl ?_
        exact kt)
    obtain ⟨cl106, Ar106, q106, S106, N_106, H106, G106⟩ := (id (V_b103))
    have hin106 : ¬ ((0 : Int32) < 0 ∨ cl106.slots.size ≤ ((0 : Int32)).toNatClampNeg) := inb_of S106 ⟨by decide, by decide⟩
    obtain ⟨T107, h107, X107, e107, W107, st107⟩ := stI X103 hx hZ e103 Ar106 (j := (0 : Int32)) hin106 (g := (mkF m 68 #[.val (.int qx), .val (.int qy), .val (.int qz), .val (.int wq), .val (.int sel), .val (.int r4), .val (.int r9), .val (.int mid), .val (.int (2 : Int32)), .val (.ref b103), .unset, .unset, .unset, .unset] [(.int r4), (.int (0 : Int32)), (.ref b103)])) rfl rfl (hb hby at_68)
    have V107 : Arv Z h107 b103 k103 .int (2 : Int32) [(.int r4), (.int (0 : Int32))] (.int (0 : Int32)) := Arv.set Ar106 q106 S106 N_106 H106 G106 rfl W107 0 rfl (Nat.le_of_ble_eq_true rfl)
    have K107 : Keep h0 h107 [] := K103.wr W107 (Or.inr sz_b103)
    have N107 := Fr.snoc X107 N9 g_b103
    have pre108 : Goes p e below s₁ (entryFrame m #[(.int qx), (.int qy), (.int qz), (.int wq), (.int sel)] maxLocals) T107 (mkF m 69 #[.val (.int qx), .val (.int qy), .val (.int qz), .val (.int wq), .val (.int sel), .val (.int r4), .val (.int r9), .val (.int mid), .val (.int (2 : Int32)), .val (.ref b103), .unset, .unset, .unset, .unset] []) := fun t kt => pre105 t (st107 t kt)
    have pre109 : Goes p e below s₁ (entryFrame m #[(.int qx), (.int qy), (.int qz), (.int wq), (.int sel)] maxLocals) T107 (mkF m 80 #[.val (.int qx), .val (.int qy), .val (.int qz), .val (.int wq), .val (.int sel), .val (.int r4), .val (.int r9), .val (.int mid), .val (.int (2 : Int32)), .val (.ref b103), .unset, .unset, .unset, .unset] [(.int mid), (.int (1 : Int32)), (.ref b103)]) := fun t kt => pre108 t (by
        show Steps p.tables e below (T107.setTop (mkF m 69 #[.val (.int qx), .val (.int qy), .val (.int qz), .val (.int wq), .val (.int sel), .val (.int r4), .val (.int r9), .val (.int mid), .val (.int (2 : Int32)), .val (.ref b103), .unset, .unset, .unset, .unset] [])) _
        refine XS.iload X107.here hx rfl (hb hby at_69) rfl ?_
        show Steps p.tables e below (T107.setTop (mkF m 71 #[.val (.int qx), .val (.int qy), .val (.int qz), .val (.int wq), .val (.int sel), .val (.int r4), .val (.int r9), .val (.int mid), .val (.int (2 : Int32)), .val (.ref b103), .unset, .unset, .unset, .unset] [(.int (2 : Int32))])) _
        refine XS.iconst X107.here hx rfl (hb hby at_71) ?_
        show Steps p.tables e below (T107.setTop (mkF m 72 #[.val (.int qx), .val (.int qy), .val (.int qz), .val (.int wq), .val (.int sel), .val (.int r4), .val (.int r9), .val (.int mid), .val (.int (2 : Int32)), .val (.ref b103), .unset, .unset, .unset, .unset] [(.int (1 : Int32)), (.int (2 : Int32))])) _
        refine XS.icmpNo X107.here hx rfl (hb hby at_72) rfl (tlt (by decide : (1 : Int32) < (2 : Int32))).2.2.2 ?_
        show Steps p.tables e below (T107.setTop (mkF m 75 #[.val (.int qx), .val (.int qy), .val (.int qz), .val (.int wq), .val (.int sel), .val (.int r4), .val (.int r9), .val (.int mid), .val (.int (2 : Int32)), .val (.ref b103), .unset, .unset, .unset, .unset] [])) _
        refine XS.aload X107.here hx rfl (hb hby at_75) rfl rfl ?_
        show Steps p.tables e below (T107.setTop (mkF m 77 #[.val (.int qx), .val (.int qy), .val (.int qz), .val (.int wq), .val (.int sel), .val (.int r4), .val (.int r9), .val (.int mid), .val (.int (2 : Int32)), .val (.ref b103), .unset, .unset, .unset, .unset] [(.ref b103)])) _
        refine XS.iconst X107.here hx rfl (hb hby at_77) ?_
        show Steps p.tables e below (T107.setTop (mkF m 78 #[.val (.int qx), .val (.int qy), .val (.int qz), .val (.int wq), .val (.int sel), .val (.int r4), .val (.int r9), .val (.int mid), .val (.int (2 : Int32)), .val (.ref b103), .unset, .unset, .unset, .unset] [(.int (1 : Int32)), (.ref b103)])) _
        refine XS.iload X107.here hx rfl (hb hby at_78) rfl ?_
        exact kt)
    obtain ⟨cl110, Ar110, q110, S110, N_110, H110, G110⟩ := (id (V107))
    have hin110 : ¬ ((1 : Int32) < 0 ∨ cl110.slots.size ≤ ((1 : Int32)).toNatClampNeg) := inb_of S110 ⟨by decide, by decide⟩
    obtain ⟨T111, h111, X111, e111, W111, st111⟩ := stI X107 hx hZ e107 Ar110 (j := (1 : Int32)) hin110 (g := (mkF m 80 #[.val (.int qx), .val (.int qy), .val (.int qz), .val (.int wq), .val (.int sel), .val (.int r4), .val (.int r9), .val (.int mid), .val (.int (2 : Int32)), .val (.ref b103), .unset, .unset, .unset, .unset] [(.int mid), (.int (1 : Int32)), (.ref b103)])) rfl rfl (hb hby at_80)
    have V111 : Arv Z h111 b103 k103 .int (2 : Int32) [(.int r4), (.int mid)] (.int (0 : Int32)) := Arv.set Ar110 q110 S110 N_110 H110 G110 rfl W111 1 rfl (Nat.le_of_ble_eq_true rfl)
    have K111 : Keep h0 h111 [] := K107.wr W111 (Or.inr sz_b103)
    have N111 := Fr.snoc X111 N107 g_b103
    have pre112 : Goes p e below s₁ (entryFrame m #[(.int qx), (.int qy), (.int qz), (.int wq), (.int sel)] maxLocals) T111 (mkF m 81 #[.val (.int qx), .val (.int qy), .val (.int qz), .val (.int wq), .val (.int sel), .val (.int r4), .val (.int r9), .val (.int mid), .val (.int (2 : Int32)), .val (.ref b103), .unset, .unset, .unset, .unset] []) := fun t kt => pre109 t (st111 t kt)
    have pre113 : Goes p e below s₁ (entryFrame m #[(.int qx), (.int qy), (.int qz), (.int wq), (.int sel)] maxLocals) T111 (mkF m 100 #[.val (.int qx), .val (.int qy), .val (.int qz), .val (.int wq), .val (.int sel), .val (.int r4), .val (.int r9), .val (.int mid), .val (.int (2 : Int32)), .val (.ref b103), .val (.int (sel &&& (7 : Int32))), .unset, .unset, .unset] []) := fun t kt => pre112 t (by
        show Steps p.tables e below (T111.setTop (mkF m 81 #[.val (.int qx), .val (.int qy), .val (.int qz), .val (.int wq), .val (.int sel), .val (.int r4), .val (.int r9), .val (.int mid), .val (.int (2 : Int32)), .val (.ref b103), .unset, .unset, .unset, .unset] [])) _
        refine XS.iload X111.here hx rfl (hb hby at_81) rfl ?_
        show Steps p.tables e below (T111.setTop (mkF m 83 #[.val (.int qx), .val (.int qy), .val (.int qz), .val (.int wq), .val (.int sel), .val (.int r4), .val (.int r9), .val (.int mid), .val (.int (2 : Int32)), .val (.ref b103), .unset, .unset, .unset, .unset] [(.int (2 : Int32))])) _
        refine XS.iconst X111.here hx rfl (hb hby at_83) ?_
        show Steps p.tables e below (T111.setTop (mkF m 84 #[.val (.int qx), .val (.int qy), .val (.int qz), .val (.int wq), .val (.int sel), .val (.int r4), .val (.int r9), .val (.int mid), .val (.int (2 : Int32)), .val (.ref b103), .unset, .unset, .unset, .unset] [(.int (2 : Int32)), (.int (2 : Int32))])) _
        refine XS.icmpYes X111.here hx rfl (pc0 := 84) (pc' := 93) rfl (hb hby at_84) rfl (flt (by decide : ¬ ((2 : Int32) < (2 : Int32)))).2.2.2 (by decide) (by decide) ?_
        show Steps p.tables e below (T111.setTop (mkF m 93 #[.val (.int qx), .val (.int qy), .val (.int qz), .val (.int wq), .val (.int sel), .val (.int r4), .val (.int r9), .val (.int mid), .val (.int (2 : Int32)), .val (.ref b103), .unset, .unset, .unset, .unset] [])) _
        refine XS.iload X111.here hx rfl (hb hby at_93) rfl ?_
        show Steps p.tables e below (T111.setTop (mkF m 95 #[.val (.int qx), .val (.int qy), .val (.int qz), .val (.int wq), .val (.int sel), .val (.int r4), .val (.int r9), .val (.int mid), .val (.int (2 : Int32)), .val (.ref b103), .unset, .unset, .unset, .unset] [(.int sel)])) _
        refine XS.bipush X111.here hx rfl (hb hby at_95) ?_
        show Steps p.tables e below (T111.setTop (mkF m 97 #[.val (.int qx), .val (.int qy), .val (.int qz), .val (.int wq), .val (.int sel), .val (.int r4), .val (.int r9), .val (.int mid), .val (.int (2 : Int32)), .val (.ref b103), .unset, .unset, .unset, .unset] [(.int (7 : Int32)), (.int sel)])) _
        refine XS.iand X111.here hx rfl (hb hby at_97) rfl ?_
        show Steps p.tables e below (T111.setTop (mkF m 98 #[.val (.int qx), .val (.int qy), .val (.int qz), .val (.int wq), .val (.int sel), .val (.int r4), .val (.int r9), .val (.int mid), .val (.int (2 : Int32)), .val (.ref b103), .unset, .unset, .unset, .unset] [(.int (sel &&& (7 : Int32)))])) _
        refine XS.istore X111.here hx rfl (hb hby at_98) rfl (l' := #[.val (.int qx), .val (.int qy), .val (.int qz), .val (.int wq), .val (.int sel), .val (.int r4), .val (.int r9), .val (.int mid), .val (.int (2 : Int32)), .val (.ref b103), .val (.int (sel &&& (7 : Int32))), .unset, .unset, .unset]) rfl ?_
        exact kt)
    obtain ⟨vv, pre115⟩ : ∃ (vv : Int32), Goes p e below s₁ (entryFrame m #[(.int qx), (.int qy), (.int qz), (.int wq), (.int sel)] maxLocals) T111 (mkF m 187 #[.val (.int qx), .val (.int qy), .val (.int qz), .val (.int wq), .val (.int sel), .val (.int r4), .val (.int r9), .val (.int mid), .val (.int (2 : Int32)), .val (.ref b103), .val (.int (sel &&& (7 : Int32))), .val (.int vv), .unset, .unset] []) := by
      have pre116 : Goes p e below s₁ (entryFrame m #[(.int qx), (.int qy), (.int qz), (.int wq), (.int sel)] maxLocals) T111 (mkF m 102 #[.val (.int qx), .val (.int qy), .val (.int qz), .val (.int wq), .val (.int sel), .val (.int r4), .val (.int r9), .val (.int mid), .val (.int (2 : Int32)), .val (.ref b103), .val (.int (sel &&& (7 : Int32))), .unset, .unset, .unset] [(.int (sel &&& (7 : Int32)))]) := fun t kt => pre113 t (by
          show Steps p.tables e below (T111.setTop (mkF m 100 #[.val (.int qx), .val (.int qy), .val (.int qz), .val (.int wq), .val (.int sel), .val (.int r4), .val (.int r9), .val (.int mid), .val (.int (2 : Int32)), .val (.ref b103), .val (.int (sel &&& (7 : Int32))), .unset, .unset, .unset] [])) _
          refine XS.iload X111.here hx rfl (hb hby at_100) rfl ?_
          exact kt)
      by_cases hc102_117 : (sel &&& (7 : Int32)) = (0 : Int32)
      · -- yes at pc 102: tfft
        have pre118 : Goes p e below s₁ (entryFrame m #[(.int qx), (.int qy), (.int qz), (.int wq), (.int sel)] maxLocals) T111 (mkF m 187 #[.val (.int qx), .val (.int qy), .val (.int qz), .val (.int wq), .val (.int sel), .val (.int r4), .val (.int r9), .val (.int mid), .val (.int (2 : Int32)), .val (.ref b103), .val (.int (sel &&& (7 : Int32))), .val (.int r4), .unset, .unset] []) := fun t kt => pre116 t (by
            show Steps p.tables e below (T111.setTop (mkF m 102 #[.val (.int qx), .val (.int qy), .val (.int qz), .val (.int wq), .val (.int sel), .val (.int r4), .val (.int r9), .val (.int mid), .val (.int (2 : Int32)), .val (.ref b103), .val (.int (sel &&& (7 : Int32))), .unset, .unset, .unset] [(.int (sel &&& (7 : Int32)))])) _
            refine XS.ifNo X111.here hx rfl (hb hby at_102) rfl ((if0 _ _).trans (teq hc102_117).2) ?_
            show Steps p.tables e below (T111.setTop (mkF m 105 #[.val (.int qx), .val (.int qy), .val (.int qz), .val (.int wq), .val (.int sel), .val (.int r4), .val (.int r9), .val (.int mid), .val (.int (2 : Int32)), .val (.ref b103), .val (.int (sel &&& (7 : Int32))), .unset, .unset, .unset] [])) _
            refine XS.iload X111.here hx rfl (hb hby at_105) rfl ?_
            show Steps p.tables e below (T111.setTop (mkF m 107 #[.val (.int qx), .val (.int qy), .val (.int qz), .val (.int wq), .val (.int sel), .val (.int r4), .val (.int r9), .val (.int mid), .val (.int (2 : Int32)), .val (.ref b103), .val (.int (sel &&& (7 : Int32))), .unset, .unset, .unset] [(.int r4)])) _
            refine XS.istore X111.here hx rfl (hb hby at_107) rfl (l' := #[.val (.int qx), .val (.int qy), .val (.int qz), .val (.int wq), .val (.int sel), .val (.int r4), .val (.int r9), .val (.int mid), .val (.int (2 : Int32)), .val (.ref b103), .val (.int (sel &&& (7 : Int32))), .val (.int r4), .unset, .unset]) rfl ?_
            show Steps p.tables e below (T111.setTop (mkF m 109 #[.val (.int qx), .val (.int qy), .val (.int qz), .val (.int wq), .val (.int sel), .val (.int r4), .val (.int r9), .val (.int mid), .val (.int (2 : Int32)), .val (.ref b103), .val (.int (sel &&& (7 : Int32))), .val (.int r4), .unset, .unset] [])) _
            refine XS.goto X111.here hx rfl (pc0 := 109) (pc' := 187) rfl (hb hby at_109) (by decide) (by decide) ?_
            exact kt)
        exact ⟨r4, pre118⟩
      · -- no at pc 102: tfft
        have pre119 : Goes p e below s₁ (entryFrame m #[(.int qx), (.int qy), (.int qz), (.int wq), (.int sel)] maxLocals) T111 (mkF m 115 #[.val (.int qx), .val (.int qy), .val (.int qz), .val (.int wq), .val (.int sel), .val (.int r4), .val (.int r9), .val (.int mid), .val (.int (2 : Int32)), .val (.ref b103), .val (.int (sel &&& (7 : Int32))), .unset, .unset, .unset] [(.int (1 : Int32)), (.int (sel &&& (7 : Int32)))]) := fun t kt => pre116 t (by
            show Steps p.tables e below (T111.setTop (mkF m 102 #[.val (.int qx), .val (.int qy), .val (.int qz), .val (.int wq), .val (.int sel), .val (.int r4), .val (.int r9), .val (.int mid), .val (.int (2 : Int32)), .val (.ref b103), .val (.int (sel &&& (7 : Int32))), .unset, .unset, .unset] [(.int (sel &&& (7 : Int32)))])) _
            refine XS.ifYes X111.here hx rfl (pc0 := 102) (pc' := 112) rfl (hb hby at_102) rfl ((if0 _ _).trans (feq hc102_117).2) (by decide) (by decide) ?_
            show Steps p.tables e below (T111.setTop (mkF m 112 #[.val (.int qx), .val (.int qy), .val (.int qz), .val (.int wq), .val (.int sel), .val (.int r4), .val (.int r9), .val (.int mid), .val (.int (2 : Int32)), .val (.ref b103), .val (.int (sel &&& (7 : Int32))), .unset, .unset, .unset] [])) _
            refine XS.iload X111.here hx rfl (hb hby at_112) rfl ?_
            show Steps p.tables e below (T111.setTop (mkF m 114 #[.val (.int qx), .val (.int qy), .val (.int qz), .val (.int wq), .val (.int sel), .val (.int r4), .val (.int r9), .val (.int mid), .val (.int (2 : Int32)), .val (.ref b103), .val (.int (sel &&& (7 : Int32))), .unset, .unset, .unset] [(.int (sel &&& (7 : Int32)))])) _
            refine XS.iconst X111.here hx rfl (hb hby at_114) ?_
            exact kt)
        by_cases hc115_120 : (sel &&& (7 : Int32)) = (1 : Int32)
        · -- yes at pc 115: tfftt
          have pre121 : Goes p e below s₁ (entryFrame m #[(.int qx), (.int qy), (.int qz), (.int wq), (.int sel)] maxLocals) T111 (mkF m 187 #[.val (.int qx), .val (.int qy), .val (.int qz), .val (.int wq), .val (.int sel), .val (.int r4), .val (.int r9), .val (.int mid), .val (.int (2 : Int32)), .val (.ref b103), .val (.int (sel &&& (7 : Int32))), .val (.int mid), .unset, .unset] []) := fun t kt => pre119 t (by
              show Steps p.tables e below (T111.setTop (mkF m 115 #[.val (.int qx), .val (.int qy), .val (.int qz), .val (.int wq), .val (.int sel), .val (.int r4), .val (.int r9), .val (.int mid), .val (.int (2 : Int32)), .val (.ref b103), .val (.int (sel &&& (7 : Int32))), .unset, .unset, .unset] [(.int (1 : Int32)), (.int (sel &&& (7 : Int32)))])) _
              refine XS.icmpNo X111.here hx rfl (hb hby at_115) rfl (teq hc115_120).2 ?_
              show Steps p.tables e below (T111.setTop (mkF m 118 #[.val (.int qx), .val (.int qy), .val (.int qz), .val (.int wq), .val (.int sel), .val (.int r4), .val (.int r9), .val (.int mid), .val (.int (2 : Int32)), .val (.ref b103), .val (.int (sel &&& (7 : Int32))), .unset, .unset, .unset] [])) _
              refine XS.iload X111.here hx rfl (hb hby at_118) rfl ?_
              show Steps p.tables e below (T111.setTop (mkF m 120 #[.val (.int qx), .val (.int qy), .val (.int qz), .val (.int wq), .val (.int sel), .val (.int r4), .val (.int r9), .val (.int mid), .val (.int (2 : Int32)), .val (.ref b103), .val (.int (sel &&& (7 : Int32))), .unset, .unset, .unset] [(.int mid)])) _
              refine XS.istore X111.here hx rfl (hb hby at_120) rfl (l' := #[.val (.int qx), .val (.int qy), .val (.int qz), .val (.int wq), .val (.int sel), .val (.int r4), .val (.int r9), .val (.int mid), .val (.int (2 : Int32)), .val (.ref b103), .val (.int (sel &&& (7 : Int32))), .val (.int mid), .unset, .unset]) rfl ?_
              show Steps p.tables e below (T111.setTop (mkF m 122 #[.val (.int qx), .val (.int qy), .val (.int qz), .val (.int wq), .val (.int sel), .val (.int r4), .val (.int r9), .val (.int mid), .val (.int (2 : Int32)), .val (.ref b103), .val (.int (sel &&& (7 : Int32))), .val (.int mid), .unset, .unset] [])) _
              refine XS.goto X111.here hx rfl (pc0 := 122) (pc' := 187) rfl (hb hby at_122) (by decide) (by decide) ?_
              exact kt)
          exact ⟨mid, pre121⟩
        · -- no at pc 115: tfftt
          have pre122 : Goes p e below s₁ (entryFrame m #[(.int qx), (.int qy), (.int qz), (.int wq), (.int sel)] maxLocals) T111 (mkF m 128 #[.val (.int qx), .val (.int qy), .val (.int qz), .val (.int wq), .val (.int sel), .val (.int r4), .val (.int r9), .val (.int mid), .val (.int (2 : Int32)), .val (.ref b103), .val (.int (sel &&& (7 : Int32))), .unset, .unset, .unset] [(.int (2 : Int32)), (.int (sel &&& (7 : Int32)))]) := fun t kt => pre119 t (by
              show Steps p.tables e below (T111.setTop (mkF m 115 #[.val (.int qx), .val (.int qy), .val (.int qz), .val (.int wq), .val (.int sel), .val (.int r4), .val (.int r9), .val (.int mid), .val (.int (2 : Int32)), .val (.ref b103), .val (.int (sel &&& (7 : Int32))), .unset, .unset, .unset] [(.int (1 : Int32)), (.int (sel &&& (7 : Int32)))])) _
              refine XS.icmpYes X111.here hx rfl (pc0 := 115) (pc' := 125) rfl (hb hby at_115) rfl (feq hc115_120).2 (by decide) (by decide) ?_
              show Steps p.tables e below (T111.setTop (mkF m 125 #[.val (.int qx), .val (.int qy), .val (.int qz), .val (.int wq), .val (.int sel), .val (.int r4), .val (.int r9), .val (.int mid), .val (.int (2 : Int32)), .val (.ref b103), .val (.int (sel &&& (7 : Int32))), .unset, .unset, .unset] [])) _
              refine XS.iload X111.here hx rfl (hb hby at_125) rfl ?_
              show Steps p.tables e below (T111.setTop (mkF m 127 #[.val (.int qx), .val (.int qy), .val (.int qz), .val (.int wq), .val (.int sel), .val (.int r4), .val (.int r9), .val (.int mid), .val (.int (2 : Int32)), .val (.ref b103), .val (.int (sel &&& (7 : Int32))), .unset, .unset, .unset] [(.int (sel &&& (7 : Int32)))])) _
              refine XS.iconst X111.here hx rfl (hb hby at_127) ?_
              exact kt)
          by_cases hc128_123 : (sel &&& (7 : Int32)) = (2 : Int32)
          · -- yes at pc 128: tffttt
            have pre124 : Goes p e below s₁ (entryFrame m #[(.int qx), (.int qy), (.int qz), (.int wq), (.int sel)] maxLocals) T111 (mkF m 187 #[.val (.int qx), .val (.int qy), .val (.int qz), .val (.int wq), .val (.int sel), .val (.int r4), .val (.int r9), .val (.int mid), .val (.int (2 : Int32)), .val (.ref b103), .val (.int (sel &&& (7 : Int32))), .val (.int r9), .unset, .unset] []) := fun t kt => pre122 t (by
                show Steps p.tables e below (T111.setTop (mkF m 128 #[.val (.int qx), .val (.int qy), .val (.int qz), .val (.int wq), .val (.int sel), .val (.int r4), .val (.int r9), .val (.int mid), .val (.int (2 : Int32)), .val (.ref b103), .val (.int (sel &&& (7 : Int32))), .unset, .unset, .unset] [(.int (2 : Int32)), (.int (sel &&& (7 : Int32)))])) _
                refine XS.icmpNo X111.here hx rfl (hb hby at_128) rfl (teq hc128_123).2 ?_
                show Steps p.tables e below (T111.setTop (mkF m 131 #[.val (.int qx), .val (.int qy), .val (.int qz), .val (.int wq), .val (.int sel), .val (.int r4), .val (.int r9), .val (.int mid), .val (.int (2 : Int32)), .val (.ref b103), .val (.int (sel &&& (7 : Int32))), .unset, .unset, .unset] [])) _
                refine XS.iload X111.here hx rfl (hb hby at_131) rfl ?_
                show Steps p.tables e below (T111.setTop (mkF m 133 #[.val (.int qx), .val (.int qy), .val (.int qz), .val (.int wq), .val (.int sel), .val (.int r4), .val (.int r9), .val (.int mid), .val (.int (2 : Int32)), .val (.ref b103), .val (.int (sel &&& (7 : Int32))), .unset, .unset, .unset] [(.int r9)])) _
                refine XS.istore X111.here hx rfl (hb hby at_133) rfl (l' := #[.val (.int qx), .val (.int qy), .val (.int qz), .val (.int wq), .val (.int sel), .val (.int r4), .val (.int r9), .val (.int mid), .val (.int (2 : Int32)), .val (.ref b103), .val (.int (sel &&& (7 : Int32))), .val (.int r9), .unset, .unset]) rfl ?_
                show Steps p.tables e below (T111.setTop (mkF m 135 #[.val (.int qx), .val (.int qy), .val (.int qz), .val (.int wq), .val (.int sel), .val (.int r4), .val (.int r9), .val (.int mid), .val (.int (2 : Int32)), .val (.ref b103), .val (.int (sel &&& (7 : Int32))), .val (.int r9), .unset, .unset] [])) _
                refine XS.goto X111.here hx rfl (pc0 := 135) (pc' := 187) rfl (hb hby at_135) (by decide) (by decide) ?_
                exact kt)
            exact ⟨r9, pre124⟩
          · -- no at pc 128: tffttt
            have pre125 : Goes p e below s₁ (entryFrame m #[(.int qx), (.int qy), (.int qz), (.int wq), (.int sel)] maxLocals) T111 (mkF m 141 #[.val (.int qx), .val (.int qy), .val (.int qz), .val (.int wq), .val (.int sel), .val (.int r4), .val (.int r9), .val (.int mid), .val (.int (2 : Int32)), .val (.ref b103), .val (.int (sel &&& (7 : Int32))), .unset, .unset, .unset] [(.int (4 : Int32)), (.int (sel &&& (7 : Int32)))]) := fun t kt => pre122 t (by
                show Steps p.tables e below (T111.setTop (mkF m 128 #[.val (.int qx), .val (.int qy), .val (.int qz), .val (.int wq), .val (.int sel), .val (.int r4), .val (.int r9), .val (.int mid), .val (.int (2 : Int32)), .val (.ref b103), .val (.int (sel &&& (7 : Int32))), .unset, .unset, .unset] [(.int (2 : Int32)), (.int (sel &&& (7 : Int32)))])) _
                refine XS.icmpYes X111.here hx rfl (pc0 := 128) (pc' := 138) rfl (hb hby at_128) rfl (feq hc128_123).2 (by decide) (by decide) ?_
                show Steps p.tables e below (T111.setTop (mkF m 138 #[.val (.int qx), .val (.int qy), .val (.int qz), .val (.int wq), .val (.int sel), .val (.int r4), .val (.int r9), .val (.int mid), .val (.int (2 : Int32)), .val (.ref b103), .val (.int (sel &&& (7 : Int32))), .unset, .unset, .unset] [])) _
                refine XS.iload X111.here hx rfl (hb hby at_138) rfl ?_
                show Steps p.tables e below (T111.setTop (mkF m 140 #[.val (.int qx), .val (.int qy), .val (.int qz), .val (.int wq), .val (.int sel), .val (.int r4), .val (.int r9), .val (.int mid), .val (.int (2 : Int32)), .val (.ref b103), .val (.int (sel &&& (7 : Int32))), .unset, .unset, .unset] [(.int (sel &&& (7 : Int32)))])) _
                refine XS.iconst X111.here hx rfl (hb hby at_140) ?_
                exact kt)
            by_cases hc141_126 : (sel &&& (7 : Int32)) = (4 : Int32)
            · -- yes at pc 141: tfftttt
              have pre127 : Goes p e below s₁ (entryFrame m #[(.int qx), (.int qy), (.int qz), (.int wq), (.int sel)] maxLocals) T111 (mkF m 187 #[.val (.int qx), .val (.int qy), .val (.int qz), .val (.int wq), .val (.int sel), .val (.int r4), .val (.int r9), .val (.int mid), .val (.int (2 : Int32)), .val (.ref b103), .val (.int (sel &&& (7 : Int32))), .val (.int (r4 - (1 : Int32))), .unset, .unset] []) := fun t kt => pre125 t (by
                  show Steps p.tables e below (T111.setTop (mkF m 141 #[.val (.int qx), .val (.int qy), .val (.int qz), .val (.int wq), .val (.int sel), .val (.int r4), .val (.int r9), .val (.int mid), .val (.int (2 : Int32)), .val (.ref b103), .val (.int (sel &&& (7 : Int32))), .unset, .unset, .unset] [(.int (4 : Int32)), (.int (sel &&& (7 : Int32)))])) _
                  refine XS.icmpNo X111.here hx rfl (hb hby at_141) rfl (teq hc141_126).2 ?_
                  show Steps p.tables e below (T111.setTop (mkF m 144 #[.val (.int qx), .val (.int qy), .val (.int qz), .val (.int wq), .val (.int sel), .val (.int r4), .val (.int r9), .val (.int mid), .val (.int (2 : Int32)), .val (.ref b103), .val (.int (sel &&& (7 : Int32))), .unset, .unset, .unset] [])) _
                  refine XS.iload X111.here hx rfl (hb hby at_144) rfl ?_
                  show Steps p.tables e below (T111.setTop (mkF m 146 #[.val (.int qx), .val (.int qy), .val (.int qz), .val (.int wq), .val (.int sel), .val (.int r4), .val (.int r9), .val (.int mid), .val (.int (2 : Int32)), .val (.ref b103), .val (.int (sel &&& (7 : Int32))), .unset, .unset, .unset] [(.int r4)])) _
                  refine XS.iconst X111.here hx rfl (hb hby at_146) ?_
                  show Steps p.tables e below (T111.setTop (mkF m 147 #[.val (.int qx), .val (.int qy), .val (.int qz), .val (.int wq), .val (.int sel), .val (.int r4), .val (.int r9), .val (.int mid), .val (.int (2 : Int32)), .val (.ref b103), .val (.int (sel &&& (7 : Int32))), .unset, .unset, .unset] [(.int (1 : Int32)), (.int r4)])) _
                  refine XS.isub X111.here hx rfl (hb hby at_147) rfl ?_
                  show Steps p.tables e below (T111.setTop (mkF m 148 #[.val (.int qx), .val (.int qy), .val (.int qz), .val (.int wq), .val (.int sel), .val (.int r4), .val (.int r9), .val (.int mid), .val (.int (2 : Int32)), .val (.ref b103), .val (.int (sel &&& (7 : Int32))), .unset, .unset, .unset] [(.int (r4 - (1 : Int32)))])) _
                  refine XS.istore X111.here hx rfl (hb hby at_148) rfl (l' := #[.val (.int qx), .val (.int qy), .val (.int qz), .val (.int wq), .val (.int sel), .val (.int r4), .val (.int r9), .val (.int mid), .val (.int (2 : Int32)), .val (.ref b103), .val (.int (sel &&& (7 : Int32))), .val (.int (r4 - (1 : Int32))), .unset, .unset]) rfl ?_
                  show Steps p.tables e below (T111.setTop (mkF m 150 #[.val (.int qx), .val (.int qy), .val (.int qz), .val (.int wq), .val (.int sel), .val (.int r4), .val (.int r9), .val (.int mid), .val (.int (2 : Int32)), .val (.ref b103), .val (.int (sel &&& (7 : Int32))), .val (.int (r4 - (1 : Int32))), .unset, .unset] [])) _
                  refine XS.goto X111.here hx rfl (pc0 := 150) (pc' := 187) rfl (hb hby at_150) (by decide) (by decide) ?_
                  exact kt)
              exact ⟨(r4 - (1 : Int32)), pre127⟩
            · -- no at pc 141: tfftttt
              have pre128 : Goes p e below s₁ (entryFrame m #[(.int qx), (.int qy), (.int qz), (.int wq), (.int sel)] maxLocals) T111 (mkF m 156 #[.val (.int qx), .val (.int qy), .val (.int qz), .val (.int wq), .val (.int sel), .val (.int r4), .val (.int r9), .val (.int mid), .val (.int (2 : Int32)), .val (.ref b103), .val (.int (sel &&& (7 : Int32))), .unset, .unset, .unset] [(.int (5 : Int32)), (.int (sel &&& (7 : Int32)))]) := fun t kt => pre125 t (by
                  show Steps p.tables e below (T111.setTop (mkF m 141 #[.val (.int qx), .val (.int qy), .val (.int qz), .val (.int wq), .val (.int sel), .val (.int r4), .val (.int r9), .val (.int mid), .val (.int (2 : Int32)), .val (.ref b103), .val (.int (sel &&& (7 : Int32))), .unset, .unset, .unset] [(.int (4 : Int32)), (.int (sel &&& (7 : Int32)))])) _
                  refine XS.icmpYes X111.here hx rfl (pc0 := 141) (pc' := 153) rfl (hb hby at_141) rfl (feq hc141_126).2 (by decide) (by decide) ?_
                  show Steps p.tables e below (T111.setTop (mkF m 153 #[.val (.int qx), .val (.int qy), .val (.int qz), .val (.int wq), .val (.int sel), .val (.int r4), .val (.int r9), .val (.int mid), .val (.int (2 : Int32)), .val (.ref b103), .val (.int (sel &&& (7 : Int32))), .unset, .unset, .unset] [])) _
                  refine XS.iload X111.here hx rfl (hb hby at_153) rfl ?_
                  show Steps p.tables e below (T111.setTop (mkF m 155 #[.val (.int qx), .val (.int qy), .val (.int qz), .val (.int wq), .val (.int sel), .val (.int r4), .val (.int r9), .val (.int mid), .val (.int (2 : Int32)), .val (.ref b103), .val (.int (sel &&& (7 : Int32))), .unset, .unset, .unset] [(.int (sel &&& (7 : Int32)))])) _
                  refine XS.iconst X111.here hx rfl (hb hby at_155) ?_
                  exact kt)
              by_cases hc156_129 : (sel &&& (7 : Int32)) = (5 : Int32)
              · -- yes at pc 156: tffttttt
                have pre130 : Goes p e below s₁ (entryFrame m #[(.int qx), (.int qy), (.int qz), (.int wq), (.int sel)] maxLocals) T111 (mkF m 187 #[.val (.int qx), .val (.int qy), .val (.int qz), .val (.int wq), .val (.int sel), .val (.int r4), .val (.int r9), .val (.int mid), .val (.int (2 : Int32)), .val (.ref b103), .val (.int (sel &&& (7 : Int32))), .val (.int (r9 + (1 : Int32))), .unset, .unset] []) := fun t kt => pre128 t (by
                    show Steps p.tables e below (T111.setTop (mkF m 156 #[.val (.int qx), .val (.int qy), .val (.int qz), .val (.int wq), .val (.int sel), .val (.int r4), .val (.int r9), .val (.int mid), .val (.int (2 : Int32)), .val (.ref b103), .val (.int (sel &&& (7 : Int32))), .unset, .unset, .unset] [(.int (5 : Int32)), (.int (sel &&& (7 : Int32)))])) _
                    refine XS.icmpNo X111.here hx rfl (hb hby at_156) rfl (teq hc156_129).2 ?_
                    show Steps p.tables e below (T111.setTop (mkF m 159 #[.val (.int qx), .val (.int qy), .val (.int qz), .val (.int wq), .val (.int sel), .val (.int r4), .val (.int r9), .val (.int mid), .val (.int (2 : Int32)), .val (.ref b103), .val (.int (sel &&& (7 : Int32))), .unset, .unset, .unset] [])) _
                    refine XS.iload X111.here hx rfl (hb hby at_159) rfl ?_
                    show Steps p.tables e below (T111.setTop (mkF m 161 #[.val (.int qx), .val (.int qy), .val (.int qz), .val (.int wq), .val (.int sel), .val (.int r4), .val (.int r9), .val (.int mid), .val (.int (2 : Int32)), .val (.ref b103), .val (.int (sel &&& (7 : Int32))), .unset, .unset, .unset] [(.int r9)])) _
                    refine XS.iconst X111.here hx rfl (hb hby at_161) ?_
                    show Steps p.tables e below (T111.setTop (mkF m 162 #[.val (.int qx), .val (.int qy), .val (.int qz), .val (.int wq), .val (.int sel), .val (.int r4), .val (.int r9), .val (.int mid), .val (.int (2 : Int32)), .val (.ref b103), .val (.int (sel &&& (7 : Int32))), .unset, .unset, .unset] [(.int (1 : Int32)), (.int r9)])) _
                    refine XS.iadd X111.here hx rfl (hb hby at_162) rfl ?_
                    show Steps p.tables e below (T111.setTop (mkF m 163 #[.val (.int qx), .val (.int qy), .val (.int qz), .val (.int wq), .val (.int sel), .val (.int r4), .val (.int r9), .val (.int mid), .val (.int (2 : Int32)), .val (.ref b103), .val (.int (sel &&& (7 : Int32))), .unset, .unset, .unset] [(.int (r9 + (1 : Int32)))])) _
                    refine XS.istore X111.here hx rfl (hb hby at_163) rfl (l' := #[.val (.int qx), .val (.int qy), .val (.int qz), .val (.int wq), .val (.int sel), .val (.int r4), .val (.int r9), .val (.int mid), .val (.int (2 : Int32)), .val (.ref b103), .val (.int (sel &&& (7 : Int32))), .val (.int (r9 + (1 : Int32))), .unset, .unset]) rfl ?_
                    show Steps p.tables e below (T111.setTop (mkF m 165 #[.val (.int qx), .val (.int qy), .val (.int qz), .val (.int wq), .val (.int sel), .val (.int r4), .val (.int r9), .val (.int mid), .val (.int (2 : Int32)), .val (.ref b103), .val (.int (sel &&& (7 : Int32))), .val (.int (r9 + (1 : Int32))), .unset, .unset] [])) _
                    refine XS.goto X111.here hx rfl (pc0 := 165) (pc' := 187) rfl (hb hby at_165) (by decide) (by decide) ?_
                    exact kt)
                exact ⟨(r9 + (1 : Int32)), pre130⟩
              · -- no at pc 156: tffttttt
                have pre131 : Goes p e below s₁ (entryFrame m #[(.int qx), (.int qy), (.int qz), (.int wq), (.int sel)] maxLocals) T111 (mkF m 172 #[.val (.int qx), .val (.int qy), .val (.int qz), .val (.int wq), .val (.int sel), .val (.int r4), .val (.int r9), .val (.int mid), .val (.int (2 : Int32)), .val (.ref b103), .val (.int (sel &&& (7 : Int32))), .unset, .unset, .unset] [(.int (6 : Int32)), (.int (sel &&& (7 : Int32)))]) := fun t kt => pre128 t (by
                    show Steps p.tables e below (T111.setTop (mkF m 156 #[.val (.int qx), .val (.int qy), .val (.int qz), .val (.int wq), .val (.int sel), .val (.int r4), .val (.int r9), .val (.int mid), .val (.int (2 : Int32)), .val (.ref b103), .val (.int (sel &&& (7 : Int32))), .unset, .unset, .unset] [(.int (5 : Int32)), (.int (sel &&& (7 : Int32)))])) _
                    refine XS.icmpYes X111.here hx rfl (pc0 := 156) (pc' := 168) rfl (hb hby at_156) rfl (feq hc156_129).2 (by decide) (by decide) ?_
                    show Steps p.tables e below (T111.setTop (mkF m 168 #[.val (.int qx), .val (.int qy), .val (.int qz), .val (.int wq), .val (.int sel), .val (.int r4), .val (.int r9), .val (.int mid), .val (.int (2 : Int32)), .val (.ref b103), .val (.int (sel &&& (7 : Int32))), .unset, .unset, .unset] [])) _
                    refine XS.iload X111.here hx rfl (hb hby at_168) rfl ?_
                    show Steps p.tables e below (T111.setTop (mkF m 170 #[.val (.int qx), .val (.int qy), .val (.int qz), .val (.int wq), .val (.int sel), .val (.int r4), .val (.int r9), .val (.int mid), .val (.int (2 : Int32)), .val (.ref b103), .val (.int (sel &&& (7 : Int32))), .unset, .unset, .unset] [(.int (sel &&& (7 : Int32)))])) _
                    refine XS.bipush X111.here hx rfl (hb hby at_170) ?_
                    exact kt)
                by_cases hc172_132 : (sel &&& (7 : Int32)) = (6 : Int32)
                · -- yes at pc 172: tfftttttt
                  have pre133 : Goes p e below s₁ (entryFrame m #[(.int qx), (.int qy), (.int qz), (.int wq), (.int sel)] maxLocals) T111 (mkF m 187 #[.val (.int qx), .val (.int qy), .val (.int qz), .val (.int wq), .val (.int sel), .val (.int r4), .val (.int r9), .val (.int mid), .val (.int (2 : Int32)), .val (.ref b103), .val (.int (sel &&& (7 : Int32))), .val (.int (mid + (1 : Int32))), .unset, .unset] []) := fun t kt => pre131 t (by
                      show Steps p.tables e below (T111.setTop (mkF m 172 #[.val (.int qx), .val (.int qy), .val (.int qz), .val (.int wq), .val (.int sel), .val (.int r4), .val (.int r9), .val (.int mid), .val (.int (2 : Int32)), .val (.ref b103), .val (.int (sel &&& (7 : Int32))), .unset, .unset, .unset] [(.int (6 : Int32)), (.int (sel &&& (7 : Int32)))])) _
                      refine XS.icmpNo X111.here hx rfl (hb hby at_172) rfl (teq hc172_132).2 ?_
                      show Steps p.tables e below (T111.setTop (mkF m 175 #[.val (.int qx), .val (.int qy), .val (.int qz), .val (.int wq), .val (.int sel), .val (.int r4), .val (.int r9), .val (.int mid), .val (.int (2 : Int32)), .val (.ref b103), .val (.int (sel &&& (7 : Int32))), .unset, .unset, .unset] [])) _
                      refine XS.iload X111.here hx rfl (hb hby at_175) rfl ?_
                      show Steps p.tables e below (T111.setTop (mkF m 177 #[.val (.int qx), .val (.int qy), .val (.int qz), .val (.int wq), .val (.int sel), .val (.int r4), .val (.int r9), .val (.int mid), .val (.int (2 : Int32)), .val (.ref b103), .val (.int (sel &&& (7 : Int32))), .unset, .unset, .unset] [(.int mid)])) _
                      refine XS.iconst X111.here hx rfl (hb hby at_177) ?_
                      show Steps p.tables e below (T111.setTop (mkF m 178 #[.val (.int qx), .val (.int qy), .val (.int qz), .val (.int wq), .val (.int sel), .val (.int r4), .val (.int r9), .val (.int mid), .val (.int (2 : Int32)), .val (.ref b103), .val (.int (sel &&& (7 : Int32))), .unset, .unset, .unset] [(.int (1 : Int32)), (.int mid)])) _
                      refine XS.iadd X111.here hx rfl (hb hby at_178) rfl ?_
                      show Steps p.tables e below (T111.setTop (mkF m 179 #[.val (.int qx), .val (.int qy), .val (.int qz), .val (.int wq), .val (.int sel), .val (.int r4), .val (.int r9), .val (.int mid), .val (.int (2 : Int32)), .val (.ref b103), .val (.int (sel &&& (7 : Int32))), .unset, .unset, .unset] [(.int (mid + (1 : Int32)))])) _
                      refine XS.istore X111.here hx rfl (hb hby at_179) rfl (l' := #[.val (.int qx), .val (.int qy), .val (.int qz), .val (.int wq), .val (.int sel), .val (.int r4), .val (.int r9), .val (.int mid), .val (.int (2 : Int32)), .val (.ref b103), .val (.int (sel &&& (7 : Int32))), .val (.int (mid + (1 : Int32))), .unset, .unset]) rfl ?_
                      show Steps p.tables e below (T111.setTop (mkF m 181 #[.val (.int qx), .val (.int qy), .val (.int qz), .val (.int wq), .val (.int sel), .val (.int r4), .val (.int r9), .val (.int mid), .val (.int (2 : Int32)), .val (.ref b103), .val (.int (sel &&& (7 : Int32))), .val (.int (mid + (1 : Int32))), .unset, .unset] [])) _
                      refine XS.goto X111.here hx rfl (pc0 := 181) (pc' := 187) rfl (hb hby at_181) (by decide) (by decide) ?_
                      exact kt)
                  exact ⟨(mid + (1 : Int32)), pre133⟩
                · -- no at pc 172: tfftttttt
                  have pre134 : Goes p e below s₁ (entryFrame m #[(.int qx), (.int qy), (.int qz), (.int wq), (.int sel)] maxLocals) T111 (mkF m 187 #[.val (.int qx), .val (.int qy), .val (.int qz), .val (.int wq), .val (.int sel), .val (.int r4), .val (.int r9), .val (.int mid), .val (.int (2 : Int32)), .val (.ref b103), .val (.int (sel &&& (7 : Int32))), .val (.int wq), .unset, .unset] []) := fun t kt => pre131 t (by
                      show Steps p.tables e below (T111.setTop (mkF m 172 #[.val (.int qx), .val (.int qy), .val (.int qz), .val (.int wq), .val (.int sel), .val (.int r4), .val (.int r9), .val (.int mid), .val (.int (2 : Int32)), .val (.ref b103), .val (.int (sel &&& (7 : Int32))), .unset, .unset, .unset] [(.int (6 : Int32)), (.int (sel &&& (7 : Int32)))])) _
                      refine XS.icmpYes X111.here hx rfl (pc0 := 172) (pc' := 184) rfl (hb hby at_172) rfl (feq hc172_132).2 (by decide) (by decide) ?_
                      show Steps p.tables e below (T111.setTop (mkF m 184 #[.val (.int qx), .val (.int qy), .val (.int qz), .val (.int wq), .val (.int sel), .val (.int r4), .val (.int r9), .val (.int mid), .val (.int (2 : Int32)), .val (.ref b103), .val (.int (sel &&& (7 : Int32))), .unset, .unset, .unset] [])) _
                      refine XS.iloadN X111.here hx rfl (hb hby at_184) rfl ?_
                      show Steps p.tables e below (T111.setTop (mkF m 185 #[.val (.int qx), .val (.int qy), .val (.int qz), .val (.int wq), .val (.int sel), .val (.int r4), .val (.int r9), .val (.int mid), .val (.int (2 : Int32)), .val (.ref b103), .val (.int (sel &&& (7 : Int32))), .unset, .unset, .unset] [(.int wq)])) _
                      refine XS.istore X111.here hx rfl (hb hby at_185) rfl (l' := #[.val (.int qx), .val (.int qy), .val (.int qz), .val (.int wq), .val (.int sel), .val (.int r4), .val (.int r9), .val (.int mid), .val (.int (2 : Int32)), .val (.ref b103), .val (.int (sel &&& (7 : Int32))), .val (.int wq), .unset, .unset]) rfl ?_
                      exact kt)
                  exact ⟨wq, pre134⟩
    obtain ⟨T135, h135, X135, e135, E135, A135, DD135, -, st135⟩ := newO X111 hx hZ hown (hw _ (List.mem_of_getElem? (i := 8) rfl)) (hw _ (List.mem_of_getElem? (i := 9) rfl)) (hw _ (List.mem_of_getElem? (i := 10) rfl)) e111 (g := (mkF m 187 #[.val (.int qx), .val (.int qy), .val (.int qz), .val (.int wq), .val (.int sel), .val (.int r4), .val (.int r9), .val (.int mid), .val (.int (2 : Int32)), .val (.ref b103), .val (.int (sel &&& (7 : Int32))), .val (.int vv), .unset, .unset] [])) rfl (hb hby at_187) (by decide) (by decide)
    obtain ⟨b135, g135⟩ : ∃ z, z = h111.size := ⟨_, rfl⟩
    rw [← g135] at A135 DD135 st135
    have F_name_b135 : Fld Z h135 b135 "com/example/ferry/ferry/FormatVersions" "name" "Ljava/lang/String;" .null := DD135 (Or.inr (hw _ (List.mem_of_getElem? (i := 26) rfl))) (ty := (.object "java/lang/String")) (by decide)
    have F_versions_b135 : Fld Z h135 b135 "com/example/ferry/ferry/FormatVersions" "versions" "[I" .null := DD135 (Or.inr (hw _ (List.mem_of_getElem? (i := 37) rfl))) (ty := (.array .int)) (by decide)
    have g_b135 : n0 ≤ b135 := Nat.le_trans (Nat.le_trans (Nat.le_trans (Nat.le_trans Z0 E103.1) (Keep.of_wr W107).1) (Keep.of_wr W111).1) (Nat.le_of_eq g135.symm)
    have sz_b135 : h0.size ≤ b135 := (Nat.le_trans K111.1 (Nat.le_of_eq g135.symm))
    have K135 : Keep h0 h135 [] := K111.ext E135
    have pre136 : Goes p e below s₁ (entryFrame m #[(.int qx), (.int qy), (.int qz), (.int wq), (.int sel)] maxLocals) T135 (mkF m 190 #[.val (.int qx), .val (.int qy), .val (.int qz), .val (.int wq), .val (.int sel), .val (.int r4), .val (.int r9), .val (.int mid), .val (.int (2 : Int32)), .val (.ref b103), .val (.int (sel &&& (7 : Int32))), .val (.int vv), .unset, .unset] [(.ref b135)]) := fun t kt => pre115 t (st135 t kt)
    have pre137 : Goes p e below s₁ (entryFrame m #[(.int qx), (.int qy), (.int qz), (.int wq), (.int sel)] maxLocals) T135 (mkF m 191 #[.val (.int qx), .val (.int qy), .val (.int qz), .val (.int wq), .val (.int sel), .val (.int r4), .val (.int r9), .val (.int mid), .val (.int (2 : Int32)), .val (.ref b103), .val (.int (sel &&& (7 : Int32))), .val (.int vv), .unset, .unset] [(.ref b135), (.ref b135)]) := fun t kt => pre136 t (by
        show Steps p.tables e below (T135.setTop (mkF m 190 #[.val (.int qx), .val (.int qy), .val (.int qz), .val (.int wq), .val (.int sel), .val (.int r4), .val (.int r9), .val (.int mid), .val (.int (2 : Int32)), .val (.ref b103), .val (.int (sel &&& (7 : Int32))), .val (.int vv), .unset, .unset] [(.ref b135)])) _
        refine XS.dup X135.here hx rfl (hb hby at_190) rfl rfl ?_
        exact kt)
    have wS138 : ∀ a ∈ Bundle.stringAtoms, a.before a0 Z = true := fun d hd => by
      simp only [Bundle.stringAtoms, List.mem_cons, List.not_mem_nil, or_false] at hd
      rcases hd with rfl | rfl | rfl | rfl | rfl | rfl | rfl
      · exact (hw _ (List.mem_of_getElem? (i := 12) rfl))
      · exact (hw _ (List.mem_of_getElem? (i := 13) rfl))
      · exact (hw _ (List.mem_of_getElem? (i := 14) rfl))
      · exact (hw _ (List.mem_of_getElem? (i := 15) rfl))
      · exact (hw _ (List.mem_of_getElem? (i := 16) rfl))
      · exact (hw _ (List.mem_of_getElem? (i := 17) rfl))
      · exact (hw _ (List.mem_of_getElem? (i := 18) rfl))
    obtain ⟨sa138, T138, h138, kk138, X138, e138, E138, hS138, hk138, hZ, hown, st138⟩ := ldcS (s := s) (vm0 := s.vm) X135 hx hZ hown (hw _ (List.mem_of_getElem? (i := 11) rfl)) wS138 e135 (State.WarmedH.since (State.WarmedH.refl s) 0) (Nat.zero_le _) (g := (mkF m 191 #[.val (.int qx), .val (.int qy), .val (.int qz), .val (.int wq), .val (.int sel), .val (.int r4), .val (.int r9), .val (.int mid), .val (.int (2 : Int32)), .val (.ref b103), .val (.int (sel &&& (7 : Int32))), .val (.int vv), .unset, .unset] [(.ref b135), (.ref b135)])) rfl (hb hby at_191) (n := 56) (by decide) (by decide) (by decide) (by decide)
    have K138 : Keep h0 h138 [] := K135.ext E138
    have pre139 : Goes p e below s₁ (entryFrame m #[(.int qx), (.int qy), (.int qz), (.int wq), (.int sel)] maxLocals) T138 (mkF m 193 #[.val (.int qx), .val (.int qy), .val (.int qz), .val (.int wq), .val (.int sel), .val (.int r4), .val (.int r9), .val (.int mid), .val (.int (2 : Int32)), .val (.ref b103), .val (.int (sel &&& (7 : Int32))), .val (.int vv), .unset, .unset] [(.ref sa138), (.ref b135), (.ref b135)]) := fun t kt => pre137 t (st138 t kt)
    have pre140 : Goes p e below s₁ (entryFrame m #[(.int qx), (.int qy), (.int qz), (.int wq), (.int sel)] maxLocals) T138 (mkF m 195 #[.val (.int qx), .val (.int qy), .val (.int qz), .val (.int wq), .val (.int sel), .val (.int r4), .val (.int r9), .val (.int mid), .val (.int (2 : Int32)), .val (.ref b103), .val (.int (sel &&& (7 : Int32))), .val (.int vv), .unset, .unset] [(.ref b103), (.ref sa138), (.ref b135), (.ref b135)]) := fun t kt => pre139 t (by
        show Steps p.tables e below (T138.setTop (mkF m 193 #[.val (.int qx), .val (.int qy), .val (.int qz), .val (.int wq), .val (.int sel), .val (.int r4), .val (.int r9), .val (.int mid), .val (.int (2 : Int32)), .val (.ref b103), .val (.int (sel &&& (7 : Int32))), .val (.int vv), .unset, .unset] [(.ref sa138), (.ref b135), (.ref b135)])) _
        refine XS.aload X138.here hx rfl (hb hby at_193) rfl rfl ?_
        exact kt)
    obtain ⟨_, _, ⟨T141, L141, k141, n141⟩, -, X141, ⟨Lc141, hQ141, l141, y141, z141⟩, st141⟩ := X138.specialBack hx (y := (⟨"com/example/ferry/ferry/FormatVersions", "<init>", "(Ljava/lang/String;[I)V"⟩ : MethodName)) rfl hown (mvT hZ (hw _ (List.mem_of_getElem? (i := 19) rfl))) (mvT hZ (hw _ (List.mem_of_getElem? (i := 20) rfl))) (mvT hZ (hw _ (List.mem_of_getElem? (i := 21) rfl))) (by decide) (backOf (W := 1) (own_init l Z a0 hw [] b135 sa138 b103 k103 (2 : Int32) [(.int r4), (.int mid)] h138 n0 (Nat.le_trans (Nat.le_trans (Nat.le_trans (Nat.le_trans (Nat.le_trans Z0 E103.1) (Keep.of_wr W107).1) (Keep.of_wr W111).1) E135.1) E138.1) (A135.ext E138) (F_name_b135.ext E138) (F_versions_b135.ext E138) g_b135 ((V111.ext E135).ext E138) ((((XA103.wr W107).wr W111).ext E135).ext E138) (Nat.ne_of_lt (Nat.lt_of_lt_of_le ((XA103.wr W107).wr W111).lt (Nat.le_of_eq g135.symm))) (by decide)) hZ (hw _ (List.mem_of_getElem? (i := 21) rfl)) (hw _ (List.mem_of_getElem? (i := 10) rfl)) (by decide) (by decide)) (g := (mkF m 195 #[.val (.int qx), .val (.int qy), .val (.int qz), .val (.int wq), .val (.int sel), .val (.int r4), .val (.int r9), .val (.int mid), .val (.int (2 : Int32)), .val (.ref b103), .val (.int (sel &&& (7 : Int32))), .val (.int vv), .unset, .unset] [(.ref b103), (.ref sa138), (.ref b135), (.ref b135)])) rfl (by rw [hml]; rfl) (Steps.refl _) (a := b135) (argsL := [(.ref sa138), (.ref b103)]) (rest := [(.ref b135)]) (lenOf own_pd1 rfl) rfl (by show 2 * 0 + _ ≤ _; exact Nat.le_of_eq rfl) (hb hby at_195) (fun _ _ => ⟨rfl, e138, (by decide : 4 + 1 ≤ _), (by decide : 64 + 3 ≤ _)⟩)
    dsimp only [Pt.U, Pt.locs, Pt.cells, Pt.slots] at X141 l141 y141 z141 st141 hQ141
    subst l141 y141 z141
    obtain ⟨rfl, N141q, K141q, t141, Fv141, Vt141⟩ := hQ141
    have N141 := Fr.app N111 N141q
    have KC141 : Keep h0 T141.heap [] := K138.trans K141q (allS (Or.inr sz_b135) all0)
    have pre142 : Goes p e below s₁ (entryFrame m #[(.int qx), (.int qy), (.int qz), (.int wq), (.int sel)] maxLocals) T141 (mkF m 198 #[.val (.int qx), .val (.int qy), .val (.int qz), .val (.int wq), .val (.int sel), .val (.int r4), .val (.int r9), .val (.int mid), .val (.int (2 : Int32)), .val (.ref b103), .val (.int (sel &&& (7 : Int32))), .val (.int vv), .unset, .unset] [(.ref b135)]) := fun t kt => pre140 t (st141.trans kt)
    have pre143 : Goes p e below s₁ (entryFrame m #[(.int qx), (.int qy), (.int qz), (.int wq), (.int sel)] maxLocals) T141 (mkF m 200 #[.val (.int qx), .val (.int qy), .val (.int qz), .val (.int wq), .val (.int sel), .val (.int r4), .val (.int r9), .val (.int mid), .val (.int (2 : Int32)), .val (.ref b103), .val (.int (sel &&& (7 : Int32))), .val (.int vv), .val (.ref b135), .unset] []) := fun t kt => pre142 t (by
        show Steps p.tables e below (T141.setTop (mkF m 198 #[.val (.int qx), .val (.int qy), .val (.int qz), .val (.int wq), .val (.int sel), .val (.int r4), .val (.int r9), .val (.int mid), .val (.int (2 : Int32)), .val (.ref b103), .val (.int (sel &&& (7 : Int32))), .val (.int vv), .unset, .unset] [(.ref b135)])) _
        refine XS.astore X141.here hx rfl (hb hby at_198) rfl rfl (l' := #[.val (.int qx), .val (.int qy), .val (.int qz), .val (.int wq), .val (.int sel), .val (.int r4), .val (.int r9), .val (.int mid), .val (.int (2 : Int32)), .val (.ref b103), .val (.int (sel &&& (7 : Int32))), .val (.int vv), .val (.ref b135), .unset]) rfl ?_
        exact kt)
    obtain ⟨ex, hex, pre145⟩ : ∃ (ex : Int32), (ex = if (r4 = vv ∨ mid = vv) then 1 else 0) ∧ Goes p e below s₁ (entryFrame m #[(.int qx), (.int qy), (.int qz), (.int wq), (.int sel)] maxLocals) T141 (mkF m 245 #[.val (.int qx), .val (.int qy), .val (.int qz), .val (.int wq), .val (.int sel), .val (.int r4), .val (.int r9), .val (.int mid), .val (.int (2 : Int32)), .val (.ref b103), .val (.int (sel &&& (7 : Int32))), .val (.int vv), .val (.ref b135), .val (.int ex)] []) := by
      have pre146 : Goes p e below s₁ (entryFrame m #[(.int qx), (.int qy), (.int qz), (.int wq), (.int sel)] maxLocals) T141 (mkF m 209 #[.val (.int qx), .val (.int qy), .val (.int qz), .val (.int wq), .val (.int sel), .val (.int r4), .val (.int r9), .val (.int mid), .val (.int (2 : Int32)), .val (.ref b103), .val (.int (sel &&& (7 : Int32))), .val (.int vv), .val (.ref b135), .unset] [(.int r4), (.int vv)]) := fun t kt => pre143 t (by
          show Steps p.tables e below (T141.setTop (mkF m 200 #[.val (.int qx), .val (.int qy), .val (.int qz), .val (.int wq), .val (.int sel), .val (.int r4), .val (.int r9), .val (.int mid), .val (.int (2 : Int32)), .val (.ref b103), .val (.int (sel &&& (7 : Int32))), .val (.int vv), .val (.ref b135), .unset] [])) _
          refine XS.iload X141.here hx rfl (hb hby at_200) rfl ?_
          show Steps p.tables e below (T141.setTop (mkF m 202 #[.val (.int qx), .val (.int qy), .val (.int qz), .val (.int wq), .val (.int sel), .val (.int r4), .val (.int r9), .val (.int mid), .val (.int (2 : Int32)), .val (.ref b103), .val (.int (sel &&& (7 : Int32))), .val (.int vv), .val (.ref b135), .unset] [(.int (2 : Int32))])) _
          refine XS.ifNo X141.here hx rfl (hb hby at_202) rfl ((if0 _ _).trans (tlt (by decide : (0 : Int32) < (2 : Int32))).2.2.2) ?_
          show Steps p.tables e below (T141.setTop (mkF m 205 #[.val (.int qx), .val (.int qy), .val (.int qz), .val (.int wq), .val (.int sel), .val (.int r4), .val (.int r9), .val (.int mid), .val (.int (2 : Int32)), .val (.ref b103), .val (.int (sel &&& (7 : Int32))), .val (.int vv), .val (.ref b135), .unset] [])) _
          refine XS.iload X141.here hx rfl (hb hby at_205) rfl ?_
          show Steps p.tables e below (T141.setTop (mkF m 207 #[.val (.int qx), .val (.int qy), .val (.int qz), .val (.int wq), .val (.int sel), .val (.int r4), .val (.int r9), .val (.int mid), .val (.int (2 : Int32)), .val (.ref b103), .val (.int (sel &&& (7 : Int32))), .val (.int vv), .val (.ref b135), .unset] [(.int vv)])) _
          refine XS.iload X141.here hx rfl (hb hby at_207) rfl ?_
          exact kt)
      by_cases hc209_147 : vv = r4
      · -- yes at pc 209: tfftf
        have pre148 : Goes p e below s₁ (entryFrame m #[(.int qx), (.int qy), (.int qz), (.int wq), (.int sel)] maxLocals) T141 (mkF m 245 #[.val (.int qx), .val (.int qy), .val (.int qz), .val (.int wq), .val (.int sel), .val (.int r4), .val (.int r9), .val (.int mid), .val (.int (2 : Int32)), .val (.ref b103), .val (.int (sel &&& (7 : Int32))), .val (.int vv), .val (.ref b135), .val (.int (1 : Int32))] []) := fun t kt => pre146 t (by
            show Steps p.tables e below (T141.setTop (mkF m 209 #[.val (.int qx), .val (.int qy), .val (.int qz), .val (.int wq), .val (.int sel), .val (.int r4), .val (.int r9), .val (.int mid), .val (.int (2 : Int32)), .val (.ref b103), .val (.int (sel &&& (7 : Int32))), .val (.int vv), .val (.ref b135), .unset] [(.int r4), (.int vv)])) _
            refine XS.icmpYes X141.here hx rfl (pc0 := 209) (pc' := 238) rfl (hb hby at_209) rfl (teq hc209_147).1 (by decide) (by decide) ?_
            show Steps p.tables e below (T141.setTop (mkF m 238 #[.val (.int qx), .val (.int qy), .val (.int qz), .val (.int wq), .val (.int sel), .val (.int r4), .val (.int r9), .val (.int mid), .val (.int (2 : Int32)), .val (.ref b103), .val (.int (sel &&& (7 : Int32))), .val (.int vv), .val (.ref b135), .unset] [])) _
            refine XS.iconst X141.here hx rfl (hb hby at_238) ?_
            show Steps p.tables e below (T141.setTop (mkF m 239 #[.val (.int qx), .val (.int qy), .val (.int qz), .val (.int wq), .val (.int sel), .val (.int r4), .val (.int r9), .val (.int mid), .val (.int (2 : Int32)), .val (.ref b103), .val (.int (sel &&& (7 : Int32))), .val (.int vv), .val (.ref b135), .unset] [(.int (1 : Int32))])) _
            refine XS.goto X141.here hx rfl (pc0 := 239) (pc' := 243) rfl (hb hby at_239) (by decide) (by decide) ?_
            show Steps p.tables e below (T141.setTop (mkF m 243 #[.val (.int qx), .val (.int qy), .val (.int qz), .val (.int wq), .val (.int sel), .val (.int r4), .val (.int r9), .val (.int mid), .val (.int (2 : Int32)), .val (.ref b103), .val (.int (sel &&& (7 : Int32))), .val (.int vv), .val (.ref b135), .unset] [(.int (1 : Int32))])) _
            refine XS.istore X141.here hx rfl (hb hby at_243) rfl (l' := #[.val (.int qx), .val (.int qy), .val (.int qz), .val (.int wq), .val (.int sel), .val (.int r4), .val (.int r9), .val (.int mid), .val (.int (2 : Int32)), .val (.ref b103), .val (.int (sel &&& (7 : Int32))), .val (.int vv), .val (.ref b135), .val (.int (1 : Int32))]) rfl ?_
            exact kt)
        exact ⟨(1 : Int32), (by simp [hc209_147.symm]), pre148⟩
      · -- no at pc 209: tfftf
        have pre149 : Goes p e below s₁ (entryFrame m #[(.int qx), (.int qy), (.int qz), (.int wq), (.int sel)] maxLocals) T141 (mkF m 222 #[.val (.int qx), .val (.int qy), .val (.int qz), .val (.int wq), .val (.int sel), .val (.int r4), .val (.int r9), .val (.int mid), .val (.int (2 : Int32)), .val (.ref b103), .val (.int (sel &&& (7 : Int32))), .val (.int vv), .val (.ref b135), .unset] [(.int mid), (.int vv)]) := fun t kt => pre146 t (by
            show Steps p.tables e below (T141.setTop (mkF m 209 #[.val (.int qx), .val (.int qy), .val (.int qz), .val (.int wq), .val (.int sel), .val (.int r4), .val (.int r9), .val (.int mid), .val (.int (2 : Int32)), .val (.ref b103), .val (.int (sel &&& (7 : Int32))), .val (.int vv), .val (.ref b135), .unset] [(.int r4), (.int vv)])) _
            refine XS.icmpNo X141.here hx rfl (hb hby at_209) rfl (feq hc209_147).1 ?_
            show Steps p.tables e below (T141.setTop (mkF m 212 #[.val (.int qx), .val (.int qy), .val (.int qz), .val (.int wq), .val (.int sel), .val (.int r4), .val (.int r9), .val (.int mid), .val (.int (2 : Int32)), .val (.ref b103), .val (.int (sel &&& (7 : Int32))), .val (.int vv), .val (.ref b135), .unset] [])) _
            refine XS.iload X141.here hx rfl (hb hby at_212) rfl ?_
            show Steps p.tables e below (T141.setTop (mkF m 214 #[.val (.int qx), .val (.int qy), .val (.int qz), .val (.int wq), .val (.int sel), .val (.int r4), .val (.int r9), .val (.int mid), .val (.int (2 : Int32)), .val (.ref b103), .val (.int (sel &&& (7 : Int32))), .val (.int vv), .val (.ref b135), .unset] [(.int (2 : Int32))])) _
            refine XS.iconst X141.here hx rfl (hb hby at_214) ?_
            show Steps p.tables e below (T141.setTop (mkF m 215 #[.val (.int qx), .val (.int qy), .val (.int qz), .val (.int wq), .val (.int sel), .val (.int r4), .val (.int r9), .val (.int mid), .val (.int (2 : Int32)), .val (.ref b103), .val (.int (sel &&& (7 : Int32))), .val (.int vv), .val (.ref b135), .unset] [(.int (1 : Int32)), (.int (2 : Int32))])) _
            refine XS.icmpNo X141.here hx rfl (hb hby at_215) rfl (tlt (by decide : (1 : Int32) < (2 : Int32))).2.2.2 ?_
            show Steps p.tables e below (T141.setTop (mkF m 218 #[.val (.int qx), .val (.int qy), .val (.int qz), .val (.int wq), .val (.int sel), .val (.int r4), .val (.int r9), .val (.int mid), .val (.int (2 : Int32)), .val (.ref b103), .val (.int (sel &&& (7 : Int32))), .val (.int vv), .val (.ref b135), .unset] [])) _
            refine XS.iload X141.here hx rfl (hb hby at_218) rfl ?_
            show Steps p.tables e below (T141.setTop (mkF m 220 #[.val (.int qx), .val (.int qy), .val (.int qz), .val (.int wq), .val (.int sel), .val (.int r4), .val (.int r9), .val (.int mid), .val (.int (2 : Int32)), .val (.ref b103), .val (.int (sel &&& (7 : Int32))), .val (.int vv), .val (.ref b135), .unset] [(.int vv)])) _
            refine XS.iload X141.here hx rfl (hb hby at_220) rfl ?_
            exact kt)
        by_cases hc222_150 : vv = mid
        · -- yes at pc 222: tfftfff
          have pre151 : Goes p e below s₁ (entryFrame m #[(.int qx), (.int qy), (.int qz), (.int wq), (.int sel)] maxLocals) T141 (mkF m 245 #[.val (.int qx), .val (.int qy), .val (.int qz), .val (.int wq), .val (.int sel), .val (.int r4), .val (.int r9), .val (.int mid), .val (.int (2 : Int32)), .val (.ref b103), .val (.int (sel &&& (7 : Int32))), .val (.int vv), .val (.ref b135), .val (.int (1 : Int32))] []) := fun t kt => pre149 t (by
              show Steps p.tables e below (T141.setTop (mkF m 222 #[.val (.int qx), .val (.int qy), .val (.int qz), .val (.int wq), .val (.int sel), .val (.int r4), .val (.int r9), .val (.int mid), .val (.int (2 : Int32)), .val (.ref b103), .val (.int (sel &&& (7 : Int32))), .val (.int vv), .val (.ref b135), .unset] [(.int mid), (.int vv)])) _
              refine XS.icmpYes X141.here hx rfl (pc0 := 222) (pc' := 238) rfl (hb hby at_222) rfl (teq hc222_150).1 (by decide) (by decide) ?_
              show Steps p.tables e below (T141.setTop (mkF m 238 #[.val (.int qx), .val (.int qy), .val (.int qz), .val (.int wq), .val (.int sel), .val (.int r4), .val (.int r9), .val (.int mid), .val (.int (2 : Int32)), .val (.ref b103), .val (.int (sel &&& (7 : Int32))), .val (.int vv), .val (.ref b135), .unset] [])) _
              refine XS.iconst X141.here hx rfl (hb hby at_238) ?_
              show Steps p.tables e below (T141.setTop (mkF m 239 #[.val (.int qx), .val (.int qy), .val (.int qz), .val (.int wq), .val (.int sel), .val (.int r4), .val (.int r9), .val (.int mid), .val (.int (2 : Int32)), .val (.ref b103), .val (.int (sel &&& (7 : Int32))), .val (.int vv), .val (.ref b135), .unset] [(.int (1 : Int32))])) _
              refine XS.goto X141.here hx rfl (pc0 := 239) (pc' := 243) rfl (hb hby at_239) (by decide) (by decide) ?_
              show Steps p.tables e below (T141.setTop (mkF m 243 #[.val (.int qx), .val (.int qy), .val (.int qz), .val (.int wq), .val (.int sel), .val (.int r4), .val (.int r9), .val (.int mid), .val (.int (2 : Int32)), .val (.ref b103), .val (.int (sel &&& (7 : Int32))), .val (.int vv), .val (.ref b135), .unset] [(.int (1 : Int32))])) _
              refine XS.istore X141.here hx rfl (hb hby at_243) rfl (l' := #[.val (.int qx), .val (.int qy), .val (.int qz), .val (.int wq), .val (.int sel), .val (.int r4), .val (.int r9), .val (.int mid), .val (.int (2 : Int32)), .val (.ref b103), .val (.int (sel &&& (7 : Int32))), .val (.int vv), .val (.ref b135), .val (.int (1 : Int32))]) rfl ?_
              exact kt)
          exact ⟨(1 : Int32), (by simp [(show ¬ (r4 = vv) from fun q => hc209_147 q.symm), hc222_150.symm]), pre151⟩
        · -- no at pc 222: tfftfff
          have pre152 : Goes p e below s₁ (entryFrame m #[(.int qx), (.int qy), (.int qz), (.int wq), (.int sel)] maxLocals) T141 (mkF m 245 #[.val (.int qx), .val (.int qy), .val (.int qz), .val (.int wq), .val (.int sel), .val (.int r4), .val (.int r9), .val (.int mid), .val (.int (2 : Int32)), .val (.ref b103), .val (.int (sel &&& (7 : Int32))), .val (.int vv), .val (.ref b135), .val (.int (0 : Int32))] []) := fun t kt => pre149 t (by
              show Steps p.tables e below (T141.setTop (mkF m 222 #[.val (.int qx), .val (.int qy), .val (.int qz), .val (.int wq), .val (.int sel), .val (.int r4), .val (.int r9), .val (.int mid), .val (.int (2 : Int32)), .val (.ref b103), .val (.int (sel &&& (7 : Int32))), .val (.int vv), .val (.ref b135), .unset] [(.int mid), (.int vv)])) _
              refine XS.icmpNo X141.here hx rfl (hb hby at_222) rfl (feq hc222_150).1 ?_
              show Steps p.tables e below (T141.setTop (mkF m 225 #[.val (.int qx), .val (.int qy), .val (.int qz), .val (.int wq), .val (.int sel), .val (.int r4), .val (.int r9), .val (.int mid), .val (.int (2 : Int32)), .val (.ref b103), .val (.int (sel &&& (7 : Int32))), .val (.int vv), .val (.ref b135), .unset] [])) _
              refine XS.iload X141.here hx rfl (hb hby at_225) rfl ?_
              show Steps p.tables e below (T141.setTop (mkF m 227 #[.val (.int qx), .val (.int qy), .val (.int qz), .val (.int wq), .val (.int sel), .val (.int r4), .val (.int r9), .val (.int mid), .val (.int (2 : Int32)), .val (.ref b103), .val (.int (sel &&& (7 : Int32))), .val (.int vv), .val (.ref b135), .unset] [(.int (2 : Int32))])) _
              refine XS.iconst X141.here hx rfl (hb hby at_227) ?_
              show Steps p.tables e below (T141.setTop (mkF m 228 #[.val (.int qx), .val (.int qy), .val (.int qz), .val (.int wq), .val (.int sel), .val (.int r4), .val (.int r9), .val (.int mid), .val (.int (2 : Int32)), .val (.ref b103), .val (.int (sel &&& (7 : Int32))), .val (.int vv), .val (.ref b135), .unset] [(.int (2 : Int32)), (.int (2 : Int32))])) _
              refine XS.icmpYes X141.here hx rfl (pc0 := 228) (pc' := 242) rfl (hb hby at_228) rfl (flt (by decide : ¬ ((2 : Int32) < (2 : Int32)))).2.2.2 (by decide) (by decide) ?_
              show Steps p.tables e below (T141.setTop (mkF m 242 #[.val (.int qx), .val (.int qy), .val (.int qz), .val (.int wq), .val (.int sel), .val (.int r4), .val (.int r9), .val (.int mid), .val (.int (2 : Int32)), .val (.ref b103), .val (.int (sel &&& (7 : Int32))), .val (.int vv), .val (.ref b135), .unset] [])) _
              refine XS.iconst X141.here hx rfl (hb hby at_242) ?_
              show Steps p.tables e below (T141.setTop (mkF m 243 #[.val (.int qx), .val (.int qy), .val (.int qz), .val (.int wq), .val (.int sel), .val (.int r4), .val (.int r9), .val (.int mid), .val (.int (2 : Int32)), .val (.ref b103), .val (.int (sel &&& (7 : Int32))), .val (.int vv), .val (.ref b135), .unset] [(.int (0 : Int32))])) _
              refine XS.istore X141.here hx rfl (hb hby at_243) rfl (l' := #[.val (.int qx), .val (.int qy), .val (.int qz), .val (.int wq), .val (.int sel), .val (.int r4), .val (.int r9), .val (.int mid), .val (.int (2 : Int32)), .val (.ref b103), .val (.int (sel &&& (7 : Int32))), .val (.int vv), .val (.ref b135), .val (.int (0 : Int32))]) rfl ?_
              exact kt)
          exact ⟨(0 : Int32), (by simp [(show ¬ (r4 = vv) from fun q => hc209_147 q.symm), (show ¬ (mid = vv) from fun q => hc222_150 q.symm)]), pre152⟩
    have pre153 : Goes p e below s₁ (entryFrame m #[(.int qx), (.int qy), (.int qz), (.int wq), (.int sel)] maxLocals) T141 (mkF m 249 #[.val (.int qx), .val (.int qy), .val (.int qz), .val (.int wq), .val (.int sel), .val (.int r4), .val (.int r9), .val (.int mid), .val (.int (2 : Int32)), .val (.ref b103), .val (.int (sel &&& (7 : Int32))), .val (.int vv), .val (.ref b135), .val (.int ex)] [(.int vv), (.ref b135)]) := fun t kt => pre145 t (by
        show Steps p.tables e below (T141.setTop (mkF m 245 #[.val (.int qx), .val (.int qy), .val (.int qz), .val (.int wq), .val (.int sel), .val (.int r4), .val (.int r9), .val (.int mid), .val (.int (2 : Int32)), .val (.ref b103), .val (.int (sel &&& (7 : Int32))), .val (.int vv), .val (.ref b135), .val (.int ex)] [])) _
        refine XS.aload X141.here hx rfl (hb hby at_245) rfl rfl ?_
        show Steps p.tables e below (T141.setTop (mkF m 247 #[.val (.int qx), .val (.int qy), .val (.int qz), .val (.int wq), .val (.int sel), .val (.int r4), .val (.int r9), .val (.int mid), .val (.int (2 : Int32)), .val (.ref b103), .val (.int (sel &&& (7 : Int32))), .val (.int vv), .val (.ref b135), .val (.int ex)] [(.ref b135)])) _
        refine XS.iload X141.here hx rfl (hb hby at_247) rfl ?_
        exact kt)
    obtain ⟨cq154, kq154, q154a, q154b, q154c⟩ := isOf hZ rfl ((A135.ext E138).keep K141q)
    obtain ⟨_, _, ⟨T154, L154, k154, n154⟩, -, X154, ⟨Lc154, hQ154, l154, y154, z154⟩, st154⟩ := X141.virtualBack hx (y := (⟨"com/example/ferry/ferry/FormatVersions", "reads", "(I)Z"⟩ : MethodName)) (z := (⟨"com/example/ferry/ferry/FormatVersions", "reads", "(I)Z"⟩ : MethodName)) hown (mvT hZ (hw _ (List.mem_of_getElem? (i := 38) rfl))) (mvT hZ (hw _ (List.mem_of_getElem? (i := 39) rfl))) (notFace_of_selects (args := #[]) (mvT hZ (hw _ (List.mem_of_getElem? (i := 41) rfl)))) (mvT hZ (hw _ (List.mem_of_getElem? (i := 41) rfl))) (mvT hZ (hw _ (List.mem_of_getElem? (i := 40) rfl))) (by decide) (backOf (W := 0) (own_reads2 l Z a0 hw [] b135 vv t141 k103 r4 mid ex T141.heap n0 (Nat.le_trans (Nat.le_trans (Nat.le_trans (Nat.le_trans (Nat.le_trans (Nat.le_trans Z0 E103.1) (Keep.of_wr W107).1) (Keep.of_wr W111).1) E135.1) E138.1) K141q.1) Fv141 Vt141 hex) hZ (hw _ (List.mem_of_getElem? (i := 42) rfl)) (hw _ (List.mem_of_getElem? (i := 10) rfl)) (by decide) (by decide)) q154a q154c (g := (mkF m 249 #[.val (.int qx), .val (.int qy), .val (.int qz), .val (.int wq), .val (.int sel), .val (.int r4), .val (.int r9), .val (.int mid), .val (.int (2 : Int32)), .val (.ref b103), .val (.int (sel &&& (7 : Int32))), .val (.int vv), .val (.ref b135), .val (.int ex)] [(.int vv), (.ref b135)])) rfl (by rw [hml]; rfl) (Steps.refl _) (argsL := [(.int vv)]) (rest := []) (lenOf own_pd2 rfl) rfl (by show 2 * 0 + _ ≤ _; exact Nat.le_of_eq rfl) (hb hby at_249) (fun _ _ => ⟨rfl, rfl, (by decide : 5 + 0 ≤ _), (by decide : 67 + 0 ≤ _)⟩)
    dsimp only [Pt.U, Pt.locs, Pt.cells, Pt.slots] at X154 l154 y154 z154 st154 hQ154
    subst l154 y154 z154
    obtain ⟨rfl, N154q, e154⟩ := hQ154
    have N154 := Fr.app N141 N154q
    have pre155 : Goes p e below s₁ (entryFrame m #[(.int qx), (.int qy), (.int qz), (.int wq), (.int sel)] maxLocals) T154 (mkF m 252 #[.val (.int qx), .val (.int qy), .val (.int qz), .val (.int wq), .val (.int sel), .val (.int r4), .val (.int r9), .val (.int mid), .val (.int (2 : Int32)), .val (.ref b103), .val (.int (sel &&& (7 : Int32))), .val (.int vv), .val (.ref b135), .val (.int ex)] [(.int ex)]) := fun t kt => pre153 t (st154.trans kt)
    have pre156 : Goes p e below s₁ (entryFrame m #[(.int qx), (.int qy), (.int qz), (.int wq), (.int sel)] maxLocals) T154 (mkF m 262 #[.val (.int qx), .val (.int qy), .val (.int qz), .val (.int wq), .val (.int sel), .val (.int r4), .val (.int r9), .val (.int mid), .val (.int (2 : Int32)), .val (.ref b103), .val (.int (sel &&& (7 : Int32))), .val (.int vv), .val (.ref b135), .val (.int ex)] [(.int (1 : Int32))]) := fun t kt => pre155 t (by
        show Steps p.tables e below (T154.setTop (mkF m 252 #[.val (.int qx), .val (.int qy), .val (.int qz), .val (.int wq), .val (.int sel), .val (.int r4), .val (.int r9), .val (.int mid), .val (.int (2 : Int32)), .val (.ref b103), .val (.int (sel &&& (7 : Int32))), .val (.int vv), .val (.ref b135), .val (.int ex)] [(.int ex)])) _
        refine XS.iload X154.here hx rfl (hb hby at_252) rfl ?_
        show Steps p.tables e below (T154.setTop (mkF m 254 #[.val (.int qx), .val (.int qy), .val (.int qz), .val (.int wq), .val (.int sel), .val (.int r4), .val (.int r9), .val (.int mid), .val (.int (2 : Int32)), .val (.ref b103), .val (.int (sel &&& (7 : Int32))), .val (.int vv), .val (.ref b135), .val (.int ex)] [(.int ex), (.int ex)])) _
        refine XS.icmpNo X154.here hx rfl (hb hby at_254) rfl (teq (rfl : ex = ex)).2 ?_
        show Steps p.tables e below (T154.setTop (mkF m 257 #[.val (.int qx), .val (.int qy), .val (.int qz), .val (.int wq), .val (.int sel), .val (.int r4), .val (.int r9), .val (.int mid), .val (.int (2 : Int32)), .val (.ref b103), .val (.int (sel &&& (7 : Int32))), .val (.int vv), .val (.ref b135), .val (.int ex)] [])) _
        refine XS.iconst X154.here hx rfl (hb hby at_257) ?_
        show Steps p.tables e below (T154.setTop (mkF m 258 #[.val (.int qx), .val (.int qy), .val (.int qz), .val (.int wq), .val (.int sel), .val (.int r4), .val (.int r9), .val (.int mid), .val (.int (2 : Int32)), .val (.ref b103), .val (.int (sel &&& (7 : Int32))), .val (.int vv), .val (.ref b135), .val (.int ex)] [(.int (1 : Int32))])) _
        refine XS.goto X154.here hx rfl (pc0 := 258) (pc' := 262) rfl (hb hby at_258) (by decide) (by decide) ?_
        exact kt)
    obtain ⟨fs, hr, hrun, hended, hEnd⟩ := X154.leaveW hS138 (by rw [e154]; exact (Nat.le_trans hk138 K141q.1)) (v := some (.int (1 : Int32))) (fun h => by rw [Bd.returns] at h; cases h)
    refine ⟨_, _, pre156 _ ?_, hrun, hended, _, _, rfl, ?_, hEnd.1, hEnd.2.1, hEnd.2.2.1, hEnd.2.2.2.mono (by decide) (by decide)⟩
    · show Steps p.tables e below (T154.setTop (mkF m 262 #[.val (.int qx), .val (.int qy), .val (.int qz), .val (.int wq), .val (.int sel), .val (.int r4), .val (.int r9), .val (.int mid), .val (.int (2 : Int32)), .val (.ref b103), .val (.int (sel &&& (7 : Int32))), .val (.int vv), .val (.ref b135), .val (.int ex)] [(.int (1 : Int32))])) _
      exact retN X154 hx (t := .boolean) Bd.returns (by simp) (hb hby at_262) hr
    · show Q_own_rm0 Z qx qy qz wq sel h0 n0 _ T154.heap _
      rw [e154]
      exact ⟨rfl, N154⟩
  · -- n = 3
    rw [show (((sel.toUInt32 >>> ((3 : Int32) &&& 31).toUInt32).toInt32) &&& (3 : Int32)) = (3 : Int32) from hk] at pre12
    have pre157 : Goes p e below s₁ (entryFrame m #[(.int qx), (.int qy), (.int qz), (.int wq), (.int sel)] maxLocals) T9 (mkF m 54 #[.val (.int qx), .val (.int qy), .val (.int qz), .val (.int wq), .val (.int sel), .val (.int r4), .val (.int r9), .val (.int mid), .val (.int (3 : Int32)), .unset, .unset, .unset, .unset, .unset] [(.int (3 : Int32))]) := fun t kt => pre12 t (by
        show Steps p.tables e below (T9.setTop (mkF m 43 #[.val (.int qx), .val (.int qy), .val (.int qz), .val (.int wq), .val (.int sel), .val (.int r4), .val (.int r9), .val (.int mid), .val (.int (3 : Int32)), .unset, .unset, .unset, .unset, .unset] [])) _
        refine XS.iload X9.here hx rfl (hb hby at_43) rfl ?_
        show Steps p.tables e below (T9.setTop (mkF m 45 #[.val (.int qx), .val (.int qy), .val (.int qz), .val (.int wq), .val (.int sel), .val (.int r4), .val (.int r9), .val (.int mid), .val (.int (3 : Int32)), .unset, .unset, .unset, .unset, .unset] [(.int (3 : Int32))])) _
        refine XS.iconst X9.here hx rfl (hb hby at_45) ?_
        show Steps p.tables e below (T9.setTop (mkF m 46 #[.val (.int qx), .val (.int qy), .val (.int qz), .val (.int wq), .val (.int sel), .val (.int r4), .val (.int r9), .val (.int mid), .val (.int (3 : Int32)), .unset, .unset, .unset, .unset, .unset] [(.int (3 : Int32)), (.int (3 : Int32))])) _
        refine XS.icmpNo X9.here hx rfl (hb hby at_46) rfl (teq (by decide : (3 : Int32) = (3 : Int32))).2 ?_
        show Steps p.tables e below (T9.setTop (mkF m 49 #[.val (.int qx), .val (.int qy), .val (.int qz), .val (.int wq), .val (.int sel), .val (.int r4), .val (.int r9), .val (.int mid), .val (.int (3 : Int32)), .unset, .unset, .unset, .unset, .unset] [])) _
        refine XS.iconst X9.here hx rfl (hb hby at_49) ?_
        show Steps p.tables e below (T9.setTop (mkF m 50 #[.val (.int qx), .val (.int qy), .val (.int qz), .val (.int wq), .val (.int sel), .val (.int r4), .val (.int r9), .val (.int mid), .val (.int (3 : Int32)), .unset, .unset, .unset, .unset, .unset] [(.int (3 : Int32))])) _
        refine XS.istore X9.here hx rfl (hb hby at_50) rfl (l' := #[.val (.int qx), .val (.int qy), .val (.int qz), .val (.int wq), .val (.int sel), .val (.int r4), .val (.int r9), .val (.int mid), .val (.int (3 : Int32)), .unset, .unset, .unset, .unset, .unset]) rfl ?_
        show Steps p.tables e below (T9.setTop (mkF m 52 #[.val (.int qx), .val (.int qy), .val (.int qz), .val (.int wq), .val (.int sel), .val (.int r4), .val (.int r9), .val (.int mid), .val (.int (3 : Int32)), .unset, .unset, .unset, .unset, .unset] [])) _
        refine XS.iload X9.here hx rfl (hb hby at_52) rfl ?_
        exact kt)
    obtain ⟨T158, h158, k158, X158, e158, E158, A158, XA158, st158⟩ := newPE X9 hx hZ (hw _ (List.mem_of_getElem? (i := 7) rfl)) e9 (g := (mkF m 54 #[.val (.int qx), .val (.int qy), .val (.int qz), .val (.int wq), .val (.int sel), .val (.int r4), .val (.int r9), .val (.int mid), .val (.int (3 : Int32)), .unset, .unset, .unset, .unset, .unset] [(.int (3 : Int32))])) rfl (hb hby at_54) rfl (by decide) (cap := 3) (by decide) (by decide) (by decide) (by decide) (ad := "[I") rfl
    obtain ⟨b158, g158⟩ : ∃ z, z = h0.size := ⟨_, rfl⟩
    rw [← g158] at A158 XA158 st158
    have V_b158 : Arv Z h158 b158 k158 .int (3 : Int32) [(.int (0 : Int32)), (.int (0 : Int32)), (.int (0 : Int32))] (.int (0 : Int32)) := (Arv.new A158 (by decide)).pad (pad_rep [] (.int (0 : Int32)) 3)
    have g_b158 : n0 ≤ b158 := Nat.le_trans Z0 (Nat.le_of_eq g158.symm)
    have sz_b158 : h0.size ≤ b158 := (Nat.le_trans (Keep.refl h0 []).1 (Nat.le_of_eq g158.symm))
    have K158 : Keep h0 h158 [] := (Keep.refl h0 []).ext E158
    have pre159 : Goes p e below s₁ (entryFrame m #[(.int qx), (.int qy), (.int qz), (.int wq), (.int sel)] maxLocals) T158 (mkF m 56 #[.val (.int qx), .val (.int qy), .val (.int qz), .val (.int wq), .val (.int sel), .val (.int r4), .val (.int r9), .val (.int mid), .val (.int (3 : Int32)), .unset, .unset, .unset, .unset, .unset] [(.ref b158)]) := fun t kt => pre157 t (st158 t kt)
    have pre160 : Goes p e below s₁ (entryFrame m #[(.int qx), (.int qy), (.int qz), (.int wq), (.int sel)] maxLocals) T158 (mkF m 68 #[.val (.int qx), .val (.int qy), .val (.int qz), .val (.int wq), .val (.int sel), .val (.int r4), .val (.int r9), .val (.int mid), .val (.int (3 : Int32)), .val (.ref b158), .unset, .unset, .unset, .unset] [(.int r4), (.int (0 : Int32)), (.ref b158)]) := fun t kt => pre159 t (by
        show Steps p.tables e below (T158.setTop (mkF m 56 #[.val (.int qx), .val (.int qy), .val (.int qz), .val (.int wq), .val (.int sel), .val (.int r4), .val (.int r9), .val (.int mid), .val (.int (3 : Int32)), .unset, .unset, .unset, .unset, .unset] [(.ref b158)])) _
        refine XS.astore X158.here hx rfl (hb hby at_56) rfl rfl (l' := #[.val (.int qx), .val (.int qy), .val (.int qz), .val (.int wq), .val (.int sel), .val (.int r4), .val (.int r9), .val (.int mid), .val (.int (3 : Int32)), .val (.ref b158), .unset, .unset, .unset, .unset]) rfl ?_
        show Steps p.tables e below (T158.setTop (mkF m 58 #[.val (.int qx), .val (.int qy), .val (.int qz), .val (.int wq), .val (.int sel), .val (.int r4), .val (.int r9), .val (.int mid), .val (.int (3 : Int32)), .val (.ref b158), .unset, .unset, .unset, .unset] [])) _
        refine XS.iload X158.here hx rfl (hb hby at_58) rfl ?_
        show Steps p.tables e below (T158.setTop (mkF m 60 #[.val (.int qx), .val (.int qy), .val (.int qz), .val (.int wq), .val (.int sel), .val (.int r4), .val (.int r9), .val (.int mid), .val (.int (3 : Int32)), .val (.ref b158), .unset, .unset, .unset, .unset] [(.int (3 : Int32))])) _
        refine XS.ifNo X158.here hx rfl (hb hby at_60) rfl ((if0 _ _).trans (tlt (by decide : (0 : Int32) < (3 : Int32))).2.2.2) ?_
        show Steps p.tables e below (T158.setTop (mkF m 63 #[.val (.int qx), .val (.int qy), .val (.int qz), .val (.int wq), .val (.int sel), .val (.int r4), .val (.int r9), .val (.int mid), .val (.int (3 : Int32)), .val (.ref b158), .unset, .unset, .unset, .unset] [])) _
        refine XS.aload X158.here hx rfl (hb hby at_63) rfl rfl ?_
        show Steps p.tables e below (T158.setTop (mkF m 65 #[.val (.int qx), .val (.int qy), .val (.int qz), .val (.int wq), .val (.int sel), .val (.int r4), .val (.int r9), .val (.int mid), .val (.int (3 : Int32)), .val (.ref b158), .unset, .unset, .unset, .unset] [(.ref b158)])) _
        refine XS.iconst X158.here hx rfl (hb hby at_65) ?_
        show Steps p.tables e below (T158.setTop (mkF m 66 #[.val (.int qx), .val (.int qy), .val (.int qz), .val (.int wq), .val (.int sel), .val (.int r4), .val (.int r9), .val (.int mid), .val (.int (3 : Int32)), .val (.ref b158), .unset, .unset, .unset, .unset] [(.int (0 : Int32)), (.ref b158)])) _
        refine XS.iload X158.here hx rfl (hb hby at_66) rfl ?_
        exact kt)
    obtain ⟨cl161, Ar161, q161, S161, N_161, H161, G161⟩ := (id (V_b158))
    have hin161 : ¬ ((0 : Int32) < 0 ∨ cl161.slots.size ≤ ((0 : Int32)).toNatClampNeg) := inb_of S161 ⟨by decide, by decide⟩
    obtain ⟨T162, h162, X162, e162, W162, st162⟩ := stI X158 hx hZ e158 Ar161 (j := (0 : Int32)) hin161 (g := (mkF m 68 #[.val (.int qx), .val (.int qy), .val (.int qz), .val (.int wq), .val (.int sel), .val (.int r4), .val (.int r9), .val (.int mid), .val (.int (3 : Int32)), .val (.ref b158), .unset, .unset, .unset, .unset] [(.int r4), (.int (0 : Int32)), (.ref b158)])) rfl rfl (hb hby at_68)
    have V162 : Arv Z h162 b158 k158 .int (3 : Int32) [(.int r4), (.int (0 : Int32)), (.int (0 : Int32))] (.int (0 : Int32)) := Arv.set Ar161 q161 S161 N_161 H161 G161 rfl W162 0 rfl (Nat.le_of_ble_eq_true rfl)
    have K162 : Keep h0 h162 [] := K158.wr W162 (Or.inr sz_b158)
    have N162 := Fr.snoc X162 N9 g_b158
    have pre163 : Goes p e below s₁ (entryFrame m #[(.int qx), (.int qy), (.int qz), (.int wq), (.int sel)] maxLocals) T162 (mkF m 69 #[.val (.int qx), .val (.int qy), .val (.int qz), .val (.int wq), .val (.int sel), .val (.int r4), .val (.int r9), .val (.int mid), .val (.int (3 : Int32)), .val (.ref b158), .unset, .unset, .unset, .unset] []) := fun t kt => pre160 t (st162 t kt)
    have pre164 : Goes p e below s₁ (entryFrame m #[(.int qx), (.int qy), (.int qz), (.int wq), (.int sel)] maxLocals) T162 (mkF m 80 #[.val (.int qx), .val (.int qy), .val (.int qz), .val (.int wq), .val (.int sel), .val (.int r4), .val (.int r9), .val (.int mid), .val (.int (3 : Int32)), .val (.ref b158), .unset, .unset, .unset, .unset] [(.int mid), (.int (1 : Int32)), (.ref b158)]) := fun t kt => pre163 t (by
        show Steps p.tables e below (T162.setTop (mkF m 69 #[.val (.int qx), .val (.int qy), .val (.int qz), .val (.int wq), .val (.int sel), .val (.int r4), .val (.int r9), .val (.int mid), .val (.int (3 : Int32)), .val (.ref b158), .unset, .unset, .unset, .unset] [])) _
        refine XS.iload X162.here hx rfl (hb hby at_69) rfl ?_
        show Steps p.tables e below (T162.setTop (mkF m 71 #[.val (.int qx), .val (.int qy), .val (.int qz), .val (.int wq), .val (.int sel), .val (.int r4), .val (.int r9), .val (.int mid), .val (.int (3 : Int32)), .val (.ref b158), .unset, .unset, .unset, .unset] [(.int (3 : Int32))])) _
        refine XS.iconst X162.here hx rfl (hb hby at_71) ?_
        show Steps p.tables e below (T162.setTop (mkF m 72 #[.val (.int qx), .val (.int qy), .val (.int qz), .val (.int wq), .val (.int sel), .val (.int r4), .val (.int r9), .val (.int mid), .val (.int (3 : Int32)), .val (.ref b158), .unset, .unset, .unset, .unset] [(.int (1 : Int32)), (.int (3 : Int32))])) _
        refine XS.icmpNo X162.here hx rfl (hb hby at_72) rfl (tlt (by decide : (1 : Int32) < (3 : Int32))).2.2.2 ?_
        show Steps p.tables e below (T162.setTop (mkF m 75 #[.val (.int qx), .val (.int qy), .val (.int qz), .val (.int wq), .val (.int sel), .val (.int r4), .val (.int r9), .val (.int mid), .val (.int (3 : Int32)), .val (.ref b158), .unset, .unset, .unset, .unset] [])) _
        refine XS.aload X162.here hx rfl (hb hby at_75) rfl rfl ?_
        show Steps p.tables e below (T162.setTop (mkF m 77 #[.val (.int qx), .val (.int qy), .val (.int qz), .val (.int wq), .val (.int sel), .val (.int r4), .val (.int r9), .val (.int mid), .val (.int (3 : Int32)), .val (.ref b158), .unset, .unset, .unset, .unset] [(.ref b158)])) _
        refine XS.iconst X162.here hx rfl (hb hby at_77) ?_
        show Steps p.tables e below (T162.setTop (mkF m 78 #[.val (.int qx), .val (.int qy), .val (.int qz), .val (.int wq), .val (.int sel), .val (.int r4), .val (.int r9), .val (.int mid), .val (.int (3 : Int32)), .val (.ref b158), .unset, .unset, .unset, .unset] [(.int (1 : Int32)), (.ref b158)])) _
        refine XS.iload X162.here hx rfl (hb hby at_78) rfl ?_
        exact kt)
    obtain ⟨cl165, Ar165, q165, S165, N_165, H165, G165⟩ := (id (V162))
    have hin165 : ¬ ((1 : Int32) < 0 ∨ cl165.slots.size ≤ ((1 : Int32)).toNatClampNeg) := inb_of S165 ⟨by decide, by decide⟩
    obtain ⟨T166, h166, X166, e166, W166, st166⟩ := stI X162 hx hZ e162 Ar165 (j := (1 : Int32)) hin165 (g := (mkF m 80 #[.val (.int qx), .val (.int qy), .val (.int qz), .val (.int wq), .val (.int sel), .val (.int r4), .val (.int r9), .val (.int mid), .val (.int (3 : Int32)), .val (.ref b158), .unset, .unset, .unset, .unset] [(.int mid), (.int (1 : Int32)), (.ref b158)])) rfl rfl (hb hby at_80)
    have V166 : Arv Z h166 b158 k158 .int (3 : Int32) [(.int r4), (.int mid), (.int (0 : Int32))] (.int (0 : Int32)) := Arv.set Ar165 q165 S165 N_165 H165 G165 rfl W166 1 rfl (Nat.le_of_ble_eq_true rfl)
    have K166 : Keep h0 h166 [] := K162.wr W166 (Or.inr sz_b158)
    have N166 := Fr.snoc X166 N162 g_b158
    have pre167 : Goes p e below s₁ (entryFrame m #[(.int qx), (.int qy), (.int qz), (.int wq), (.int sel)] maxLocals) T166 (mkF m 81 #[.val (.int qx), .val (.int qy), .val (.int qz), .val (.int wq), .val (.int sel), .val (.int r4), .val (.int r9), .val (.int mid), .val (.int (3 : Int32)), .val (.ref b158), .unset, .unset, .unset, .unset] []) := fun t kt => pre164 t (st166 t kt)
    have pre168 : Goes p e below s₁ (entryFrame m #[(.int qx), (.int qy), (.int qz), (.int wq), (.int sel)] maxLocals) T166 (mkF m 92 #[.val (.int qx), .val (.int qy), .val (.int qz), .val (.int wq), .val (.int sel), .val (.int r4), .val (.int r9), .val (.int mid), .val (.int (3 : Int32)), .val (.ref b158), .unset, .unset, .unset, .unset] [(.int r9), (.int (2 : Int32)), (.ref b158)]) := fun t kt => pre167 t (by
        show Steps p.tables e below (T166.setTop (mkF m 81 #[.val (.int qx), .val (.int qy), .val (.int qz), .val (.int wq), .val (.int sel), .val (.int r4), .val (.int r9), .val (.int mid), .val (.int (3 : Int32)), .val (.ref b158), .unset, .unset, .unset, .unset] [])) _
        refine XS.iload X166.here hx rfl (hb hby at_81) rfl ?_
        show Steps p.tables e below (T166.setTop (mkF m 83 #[.val (.int qx), .val (.int qy), .val (.int qz), .val (.int wq), .val (.int sel), .val (.int r4), .val (.int r9), .val (.int mid), .val (.int (3 : Int32)), .val (.ref b158), .unset, .unset, .unset, .unset] [(.int (3 : Int32))])) _
        refine XS.iconst X166.here hx rfl (hb hby at_83) ?_
        show Steps p.tables e below (T166.setTop (mkF m 84 #[.val (.int qx), .val (.int qy), .val (.int qz), .val (.int wq), .val (.int sel), .val (.int r4), .val (.int r9), .val (.int mid), .val (.int (3 : Int32)), .val (.ref b158), .unset, .unset, .unset, .unset] [(.int (2 : Int32)), (.int (3 : Int32))])) _
        refine XS.icmpNo X166.here hx rfl (hb hby at_84) rfl (tlt (by decide : (2 : Int32) < (3 : Int32))).2.2.2 ?_
        show Steps p.tables e below (T166.setTop (mkF m 87 #[.val (.int qx), .val (.int qy), .val (.int qz), .val (.int wq), .val (.int sel), .val (.int r4), .val (.int r9), .val (.int mid), .val (.int (3 : Int32)), .val (.ref b158), .unset, .unset, .unset, .unset] [])) _
        refine XS.aload X166.here hx rfl (hb hby at_87) rfl rfl ?_
        show Steps p.tables e below (T166.setTop (mkF m 89 #[.val (.int qx), .val (.int qy), .val (.int qz), .val (.int wq), .val (.int sel), .val (.int r4), .val (.int r9), .val (.int mid), .val (.int (3 : Int32)), .val (.ref b158), .unset, .unset, .unset, .unset] [(.ref b158)])) _
        refine XS.iconst X166.here hx rfl (hb hby at_89) ?_
        show Steps p.tables e below (T166.setTop (mkF m 90 #[.val (.int qx), .val (.int qy), .val (.int qz), .val (.int wq), .val (.int sel), .val (.int r4), .val (.int r9), .val (.int mid), .val (.int (3 : Int32)), .val (.ref b158), .unset, .unset, .unset, .unset] [(.int (2 : Int32)), (.ref b158)])) _
        refine XS.iload X166.here hx rfl (hb hby at_90) rfl ?_
        exact kt)
    obtain ⟨cl169, Ar169, q169, S169, N_169, H169, G169⟩ := (id (V166))
    have hin169 : ¬ ((2 : Int32) < 0 ∨ cl169.slots.size ≤ ((2 : Int32)).toNatClampNeg) := inb_of S169 ⟨by decide, by decide⟩
    obtain ⟨T170, h170, X170, e170, W170, st170⟩ := stI X166 hx hZ e166 Ar169 (j := (2 : Int32)) hin169 (g := (mkF m 92 #[.val (.int qx), .val (.int qy), .val (.int qz), .val (.int wq), .val (.int sel), .val (.int r4), .val (.int r9), .val (.int mid), .val (.int (3 : Int32)), .val (.ref b158), .unset, .unset, .unset, .unset] [(.int r9), (.int (2 : Int32)), (.ref b158)])) rfl rfl (hb hby at_92)
    have V170 : Arv Z h170 b158 k158 .int (3 : Int32) [(.int r4), (.int mid), (.int r9)] (.int (0 : Int32)) := Arv.set Ar169 q169 S169 N_169 H169 G169 rfl W170 2 rfl (Nat.le_of_ble_eq_true rfl)
    have K170 : Keep h0 h170 [] := K166.wr W170 (Or.inr sz_b158)
    have N170 := Fr.snoc X170 N166 g_b158
    have pre171 : Goes p e below s₁ (entryFrame m #[(.int qx), (.int qy), (.int qz), (.int wq), (.int sel)] maxLocals) T170 (mkF m 93 #[.val (.int qx), .val (.int qy), .val (.int qz), .val (.int wq), .val (.int sel), .val (.int r4), .val (.int r9), .val (.int mid), .val (.int (3 : Int32)), .val (.ref b158), .unset, .unset, .unset, .unset] []) := fun t kt => pre168 t (st170 t kt)
    have pre172 : Goes p e below s₁ (entryFrame m #[(.int qx), (.int qy), (.int qz), (.int wq), (.int sel)] maxLocals) T170 (mkF m 100 #[.val (.int qx), .val (.int qy), .val (.int qz), .val (.int wq), .val (.int sel), .val (.int r4), .val (.int r9), .val (.int mid), .val (.int (3 : Int32)), .val (.ref b158), .val (.int (sel &&& (7 : Int32))), .unset, .unset, .unset] []) := fun t kt => pre171 t (by
        show Steps p.tables e below (T170.setTop (mkF m 93 #[.val (.int qx), .val (.int qy), .val (.int qz), .val (.int wq), .val (.int sel), .val (.int r4), .val (.int r9), .val (.int mid), .val (.int (3 : Int32)), .val (.ref b158), .unset, .unset, .unset, .unset] [])) _
        refine XS.iload X170.here hx rfl (hb hby at_93) rfl ?_
        show Steps p.tables e below (T170.setTop (mkF m 95 #[.val (.int qx), .val (.int qy), .val (.int qz), .val (.int wq), .val (.int sel), .val (.int r4), .val (.int r9), .val (.int mid), .val (.int (3 : Int32)), .val (.ref b158), .unset, .unset, .unset, .unset] [(.int sel)])) _
        refine XS.bipush X170.here hx rfl (hb hby at_95) ?_
        show Steps p.tables e below (T170.setTop (mkF m 97 #[.val (.int qx), .val (.int qy), .val (.int qz), .val (.int wq), .val (.int sel), .val (.int r4), .val (.int r9), .val (.int mid), .val (.int (3 : Int32)), .val (.ref b158), .unset, .unset, .unset, .unset] [(.int (7 : Int32)), (.int sel)])) _
        refine XS.iand X170.here hx rfl (hb hby at_97) rfl ?_
        show Steps p.tables e below (T170.setTop (mkF m 98 #[.val (.int qx), .val (.int qy), .val (.int qz), .val (.int wq), .val (.int sel), .val (.int r4), .val (.int r9), .val (.int mid), .val (.int (3 : Int32)), .val (.ref b158), .unset, .unset, .unset, .unset] [(.int (sel &&& (7 : Int32)))])) _
        refine XS.istore X170.here hx rfl (hb hby at_98) rfl (l' := #[.val (.int qx), .val (.int qy), .val (.int qz), .val (.int wq), .val (.int sel), .val (.int r4), .val (.int r9), .val (.int mid), .val (.int (3 : Int32)), .val (.ref b158), .val (.int (sel &&& (7 : Int32))), .unset, .unset, .unset]) rfl ?_
        exact kt)
    obtain ⟨vv, pre174⟩ : ∃ (vv : Int32), Goes p e below s₁ (entryFrame m #[(.int qx), (.int qy), (.int qz), (.int wq), (.int sel)] maxLocals) T170 (mkF m 187 #[.val (.int qx), .val (.int qy), .val (.int qz), .val (.int wq), .val (.int sel), .val (.int r4), .val (.int r9), .val (.int mid), .val (.int (3 : Int32)), .val (.ref b158), .val (.int (sel &&& (7 : Int32))), .val (.int vv), .unset, .unset] []) := by
      have pre175 : Goes p e below s₁ (entryFrame m #[(.int qx), (.int qy), (.int qz), (.int wq), (.int sel)] maxLocals) T170 (mkF m 102 #[.val (.int qx), .val (.int qy), .val (.int qz), .val (.int wq), .val (.int sel), .val (.int r4), .val (.int r9), .val (.int mid), .val (.int (3 : Int32)), .val (.ref b158), .val (.int (sel &&& (7 : Int32))), .unset, .unset, .unset] [(.int (sel &&& (7 : Int32)))]) := fun t kt => pre172 t (by
          show Steps p.tables e below (T170.setTop (mkF m 100 #[.val (.int qx), .val (.int qy), .val (.int qz), .val (.int wq), .val (.int sel), .val (.int r4), .val (.int r9), .val (.int mid), .val (.int (3 : Int32)), .val (.ref b158), .val (.int (sel &&& (7 : Int32))), .unset, .unset, .unset] [])) _
          refine XS.iload X170.here hx rfl (hb hby at_100) rfl ?_
          exact kt)
      by_cases hc102_176 : (sel &&& (7 : Int32)) = (0 : Int32)
      · -- yes at pc 102: ffff
        have pre177 : Goes p e below s₁ (entryFrame m #[(.int qx), (.int qy), (.int qz), (.int wq), (.int sel)] maxLocals) T170 (mkF m 187 #[.val (.int qx), .val (.int qy), .val (.int qz), .val (.int wq), .val (.int sel), .val (.int r4), .val (.int r9), .val (.int mid), .val (.int (3 : Int32)), .val (.ref b158), .val (.int (sel &&& (7 : Int32))), .val (.int r4), .unset, .unset] []) := fun t kt => pre175 t (by
            show Steps p.tables e below (T170.setTop (mkF m 102 #[.val (.int qx), .val (.int qy), .val (.int qz), .val (.int wq), .val (.int sel), .val (.int r4), .val (.int r9), .val (.int mid), .val (.int (3 : Int32)), .val (.ref b158), .val (.int (sel &&& (7 : Int32))), .unset, .unset, .unset] [(.int (sel &&& (7 : Int32)))])) _
            refine XS.ifNo X170.here hx rfl (hb hby at_102) rfl ((if0 _ _).trans (teq hc102_176).2) ?_
            show Steps p.tables e below (T170.setTop (mkF m 105 #[.val (.int qx), .val (.int qy), .val (.int qz), .val (.int wq), .val (.int sel), .val (.int r4), .val (.int r9), .val (.int mid), .val (.int (3 : Int32)), .val (.ref b158), .val (.int (sel &&& (7 : Int32))), .unset, .unset, .unset] [])) _
            refine XS.iload X170.here hx rfl (hb hby at_105) rfl ?_
            show Steps p.tables e below (T170.setTop (mkF m 107 #[.val (.int qx), .val (.int qy), .val (.int qz), .val (.int wq), .val (.int sel), .val (.int r4), .val (.int r9), .val (.int mid), .val (.int (3 : Int32)), .val (.ref b158), .val (.int (sel &&& (7 : Int32))), .unset, .unset, .unset] [(.int r4)])) _
            refine XS.istore X170.here hx rfl (hb hby at_107) rfl (l' := #[.val (.int qx), .val (.int qy), .val (.int qz), .val (.int wq), .val (.int sel), .val (.int r4), .val (.int r9), .val (.int mid), .val (.int (3 : Int32)), .val (.ref b158), .val (.int (sel &&& (7 : Int32))), .val (.int r4), .unset, .unset]) rfl ?_
            show Steps p.tables e below (T170.setTop (mkF m 109 #[.val (.int qx), .val (.int qy), .val (.int qz), .val (.int wq), .val (.int sel), .val (.int r4), .val (.int r9), .val (.int mid), .val (.int (3 : Int32)), .val (.ref b158), .val (.int (sel &&& (7 : Int32))), .val (.int r4), .unset, .unset] [])) _
            refine XS.goto X170.here hx rfl (pc0 := 109) (pc' := 187) rfl (hb hby at_109) (by decide) (by decide) ?_
            exact kt)
        exact ⟨r4, pre177⟩
      · -- no at pc 102: ffff
        have pre178 : Goes p e below s₁ (entryFrame m #[(.int qx), (.int qy), (.int qz), (.int wq), (.int sel)] maxLocals) T170 (mkF m 115 #[.val (.int qx), .val (.int qy), .val (.int qz), .val (.int wq), .val (.int sel), .val (.int r4), .val (.int r9), .val (.int mid), .val (.int (3 : Int32)), .val (.ref b158), .val (.int (sel &&& (7 : Int32))), .unset, .unset, .unset] [(.int (1 : Int32)), (.int (sel &&& (7 : Int32)))]) := fun t kt => pre175 t (by
            show Steps p.tables e below (T170.setTop (mkF m 102 #[.val (.int qx), .val (.int qy), .val (.int qz), .val (.int wq), .val (.int sel), .val (.int r4), .val (.int r9), .val (.int mid), .val (.int (3 : Int32)), .val (.ref b158), .val (.int (sel &&& (7 : Int32))), .unset, .unset, .unset] [(.int (sel &&& (7 : Int32)))])) _
            refine XS.ifYes X170.here hx rfl (pc0 := 102) (pc' := 112) rfl (hb hby at_102) rfl ((if0 _ _).trans (feq hc102_176).2) (by decide) (by decide) ?_
            show Steps p.tables e below (T170.setTop (mkF m 112 #[.val (.int qx), .val (.int qy), .val (.int qz), .val (.int wq), .val (.int sel), .val (.int r4), .val (.int r9), .val (.int mid), .val (.int (3 : Int32)), .val (.ref b158), .val (.int (sel &&& (7 : Int32))), .unset, .unset, .unset] [])) _
            refine XS.iload X170.here hx rfl (hb hby at_112) rfl ?_
            show Steps p.tables e below (T170.setTop (mkF m 114 #[.val (.int qx), .val (.int qy), .val (.int qz), .val (.int wq), .val (.int sel), .val (.int r4), .val (.int r9), .val (.int mid), .val (.int (3 : Int32)), .val (.ref b158), .val (.int (sel &&& (7 : Int32))), .unset, .unset, .unset] [(.int (sel &&& (7 : Int32)))])) _
            refine XS.iconst X170.here hx rfl (hb hby at_114) ?_
            exact kt)
        by_cases hc115_179 : (sel &&& (7 : Int32)) = (1 : Int32)
        · -- yes at pc 115: fffft
          have pre180 : Goes p e below s₁ (entryFrame m #[(.int qx), (.int qy), (.int qz), (.int wq), (.int sel)] maxLocals) T170 (mkF m 187 #[.val (.int qx), .val (.int qy), .val (.int qz), .val (.int wq), .val (.int sel), .val (.int r4), .val (.int r9), .val (.int mid), .val (.int (3 : Int32)), .val (.ref b158), .val (.int (sel &&& (7 : Int32))), .val (.int mid), .unset, .unset] []) := fun t kt => pre178 t (by
              show Steps p.tables e below (T170.setTop (mkF m 115 #[.val (.int qx), .val (.int qy), .val (.int qz), .val (.int wq), .val (.int sel), .val (.int r4), .val (.int r9), .val (.int mid), .val (.int (3 : Int32)), .val (.ref b158), .val (.int (sel &&& (7 : Int32))), .unset, .unset, .unset] [(.int (1 : Int32)), (.int (sel &&& (7 : Int32)))])) _
              refine XS.icmpNo X170.here hx rfl (hb hby at_115) rfl (teq hc115_179).2 ?_
              show Steps p.tables e below (T170.setTop (mkF m 118 #[.val (.int qx), .val (.int qy), .val (.int qz), .val (.int wq), .val (.int sel), .val (.int r4), .val (.int r9), .val (.int mid), .val (.int (3 : Int32)), .val (.ref b158), .val (.int (sel &&& (7 : Int32))), .unset, .unset, .unset] [])) _
              refine XS.iload X170.here hx rfl (hb hby at_118) rfl ?_
              show Steps p.tables e below (T170.setTop (mkF m 120 #[.val (.int qx), .val (.int qy), .val (.int qz), .val (.int wq), .val (.int sel), .val (.int r4), .val (.int r9), .val (.int mid), .val (.int (3 : Int32)), .val (.ref b158), .val (.int (sel &&& (7 : Int32))), .unset, .unset, .unset] [(.int mid)])) _
              refine XS.istore X170.here hx rfl (hb hby at_120) rfl (l' := #[.val (.int qx), .val (.int qy), .val (.int qz), .val (.int wq), .val (.int sel), .val (.int r4), .val (.int r9), .val (.int mid), .val (.int (3 : Int32)), .val (.ref b158), .val (.int (sel &&& (7 : Int32))), .val (.int mid), .unset, .unset]) rfl ?_
              show Steps p.tables e below (T170.setTop (mkF m 122 #[.val (.int qx), .val (.int qy), .val (.int qz), .val (.int wq), .val (.int sel), .val (.int r4), .val (.int r9), .val (.int mid), .val (.int (3 : Int32)), .val (.ref b158), .val (.int (sel &&& (7 : Int32))), .val (.int mid), .unset, .unset] [])) _
              refine XS.goto X170.here hx rfl (pc0 := 122) (pc' := 187) rfl (hb hby at_122) (by decide) (by decide) ?_
              exact kt)
          exact ⟨mid, pre180⟩
        · -- no at pc 115: fffft
          have pre181 : Goes p e below s₁ (entryFrame m #[(.int qx), (.int qy), (.int qz), (.int wq), (.int sel)] maxLocals) T170 (mkF m 128 #[.val (.int qx), .val (.int qy), .val (.int qz), .val (.int wq), .val (.int sel), .val (.int r4), .val (.int r9), .val (.int mid), .val (.int (3 : Int32)), .val (.ref b158), .val (.int (sel &&& (7 : Int32))), .unset, .unset, .unset] [(.int (2 : Int32)), (.int (sel &&& (7 : Int32)))]) := fun t kt => pre178 t (by
              show Steps p.tables e below (T170.setTop (mkF m 115 #[.val (.int qx), .val (.int qy), .val (.int qz), .val (.int wq), .val (.int sel), .val (.int r4), .val (.int r9), .val (.int mid), .val (.int (3 : Int32)), .val (.ref b158), .val (.int (sel &&& (7 : Int32))), .unset, .unset, .unset] [(.int (1 : Int32)), (.int (sel &&& (7 : Int32)))])) _
              refine XS.icmpYes X170.here hx rfl (pc0 := 115) (pc' := 125) rfl (hb hby at_115) rfl (feq hc115_179).2 (by decide) (by decide) ?_
              show Steps p.tables e below (T170.setTop (mkF m 125 #[.val (.int qx), .val (.int qy), .val (.int qz), .val (.int wq), .val (.int sel), .val (.int r4), .val (.int r9), .val (.int mid), .val (.int (3 : Int32)), .val (.ref b158), .val (.int (sel &&& (7 : Int32))), .unset, .unset, .unset] [])) _
              refine XS.iload X170.here hx rfl (hb hby at_125) rfl ?_
              show Steps p.tables e below (T170.setTop (mkF m 127 #[.val (.int qx), .val (.int qy), .val (.int qz), .val (.int wq), .val (.int sel), .val (.int r4), .val (.int r9), .val (.int mid), .val (.int (3 : Int32)), .val (.ref b158), .val (.int (sel &&& (7 : Int32))), .unset, .unset, .unset] [(.int (sel &&& (7 : Int32)))])) _
              refine XS.iconst X170.here hx rfl (hb hby at_127) ?_
              exact kt)
          by_cases hc128_182 : (sel &&& (7 : Int32)) = (2 : Int32)
          · -- yes at pc 128: fffftt
            have pre183 : Goes p e below s₁ (entryFrame m #[(.int qx), (.int qy), (.int qz), (.int wq), (.int sel)] maxLocals) T170 (mkF m 187 #[.val (.int qx), .val (.int qy), .val (.int qz), .val (.int wq), .val (.int sel), .val (.int r4), .val (.int r9), .val (.int mid), .val (.int (3 : Int32)), .val (.ref b158), .val (.int (sel &&& (7 : Int32))), .val (.int r9), .unset, .unset] []) := fun t kt => pre181 t (by
                show Steps p.tables e below (T170.setTop (mkF m 128 #[.val (.int qx), .val (.int qy), .val (.int qz), .val (.int wq), .val (.int sel), .val (.int r4), .val (.int r9), .val (.int mid), .val (.int (3 : Int32)), .val (.ref b158), .val (.int (sel &&& (7 : Int32))), .unset, .unset, .unset] [(.int (2 : Int32)), (.int (sel &&& (7 : Int32)))])) _
                refine XS.icmpNo X170.here hx rfl (hb hby at_128) rfl (teq hc128_182).2 ?_
                show Steps p.tables e below (T170.setTop (mkF m 131 #[.val (.int qx), .val (.int qy), .val (.int qz), .val (.int wq), .val (.int sel), .val (.int r4), .val (.int r9), .val (.int mid), .val (.int (3 : Int32)), .val (.ref b158), .val (.int (sel &&& (7 : Int32))), .unset, .unset, .unset] [])) _
                refine XS.iload X170.here hx rfl (hb hby at_131) rfl ?_
                show Steps p.tables e below (T170.setTop (mkF m 133 #[.val (.int qx), .val (.int qy), .val (.int qz), .val (.int wq), .val (.int sel), .val (.int r4), .val (.int r9), .val (.int mid), .val (.int (3 : Int32)), .val (.ref b158), .val (.int (sel &&& (7 : Int32))), .unset, .unset, .unset] [(.int r9)])) _
                refine XS.istore X170.here hx rfl (hb hby at_133) rfl (l' := #[.val (.int qx), .val (.int qy), .val (.int qz), .val (.int wq), .val (.int sel), .val (.int r4), .val (.int r9), .val (.int mid), .val (.int (3 : Int32)), .val (.ref b158), .val (.int (sel &&& (7 : Int32))), .val (.int r9), .unset, .unset]) rfl ?_
                show Steps p.tables e below (T170.setTop (mkF m 135 #[.val (.int qx), .val (.int qy), .val (.int qz), .val (.int wq), .val (.int sel), .val (.int r4), .val (.int r9), .val (.int mid), .val (.int (3 : Int32)), .val (.ref b158), .val (.int (sel &&& (7 : Int32))), .val (.int r9), .unset, .unset] [])) _
                refine XS.goto X170.here hx rfl (pc0 := 135) (pc' := 187) rfl (hb hby at_135) (by decide) (by decide) ?_
                exact kt)
            exact ⟨r9, pre183⟩
          · -- no at pc 128: fffftt
            have pre184 : Goes p e below s₁ (entryFrame m #[(.int qx), (.int qy), (.int qz), (.int wq), (.int sel)] maxLocals) T170 (mkF m 141 #[.val (.int qx), .val (.int qy), .val (.int qz), .val (.int wq), .val (.int sel), .val (.int r4), .val (.int r9), .val (.int mid), .val (.int (3 : Int32)), .val (.ref b158), .val (.int (sel &&& (7 : Int32))), .unset, .unset, .unset] [(.int (4 : Int32)), (.int (sel &&& (7 : Int32)))]) := fun t kt => pre181 t (by
                show Steps p.tables e below (T170.setTop (mkF m 128 #[.val (.int qx), .val (.int qy), .val (.int qz), .val (.int wq), .val (.int sel), .val (.int r4), .val (.int r9), .val (.int mid), .val (.int (3 : Int32)), .val (.ref b158), .val (.int (sel &&& (7 : Int32))), .unset, .unset, .unset] [(.int (2 : Int32)), (.int (sel &&& (7 : Int32)))])) _
                refine XS.icmpYes X170.here hx rfl (pc0 := 128) (pc' := 138) rfl (hb hby at_128) rfl (feq hc128_182).2 (by decide) (by decide) ?_
                show Steps p.tables e below (T170.setTop (mkF m 138 #[.val (.int qx), .val (.int qy), .val (.int qz), .val (.int wq), .val (.int sel), .val (.int r4), .val (.int r9), .val (.int mid), .val (.int (3 : Int32)), .val (.ref b158), .val (.int (sel &&& (7 : Int32))), .unset, .unset, .unset] [])) _
                refine XS.iload X170.here hx rfl (hb hby at_138) rfl ?_
                show Steps p.tables e below (T170.setTop (mkF m 140 #[.val (.int qx), .val (.int qy), .val (.int qz), .val (.int wq), .val (.int sel), .val (.int r4), .val (.int r9), .val (.int mid), .val (.int (3 : Int32)), .val (.ref b158), .val (.int (sel &&& (7 : Int32))), .unset, .unset, .unset] [(.int (sel &&& (7 : Int32)))])) _
                refine XS.iconst X170.here hx rfl (hb hby at_140) ?_
                exact kt)
            by_cases hc141_185 : (sel &&& (7 : Int32)) = (4 : Int32)
            · -- yes at pc 141: ffffttt
              have pre186 : Goes p e below s₁ (entryFrame m #[(.int qx), (.int qy), (.int qz), (.int wq), (.int sel)] maxLocals) T170 (mkF m 187 #[.val (.int qx), .val (.int qy), .val (.int qz), .val (.int wq), .val (.int sel), .val (.int r4), .val (.int r9), .val (.int mid), .val (.int (3 : Int32)), .val (.ref b158), .val (.int (sel &&& (7 : Int32))), .val (.int (r4 - (1 : Int32))), .unset, .unset] []) := fun t kt => pre184 t (by
                  show Steps p.tables e below (T170.setTop (mkF m 141 #[.val (.int qx), .val (.int qy), .val (.int qz), .val (.int wq), .val (.int sel), .val (.int r4), .val (.int r9), .val (.int mid), .val (.int (3 : Int32)), .val (.ref b158), .val (.int (sel &&& (7 : Int32))), .unset, .unset, .unset] [(.int (4 : Int32)), (.int (sel &&& (7 : Int32)))])) _
                  refine XS.icmpNo X170.here hx rfl (hb hby at_141) rfl (teq hc141_185).2 ?_
                  show Steps p.tables e below (T170.setTop (mkF m 144 #[.val (.int qx), .val (.int qy), .val (.int qz), .val (.int wq), .val (.int sel), .val (.int r4), .val (.int r9), .val (.int mid), .val (.int (3 : Int32)), .val (.ref b158), .val (.int (sel &&& (7 : Int32))), .unset, .unset, .unset] [])) _
                  refine XS.iload X170.here hx rfl (hb hby at_144) rfl ?_
                  show Steps p.tables e below (T170.setTop (mkF m 146 #[.val (.int qx), .val (.int qy), .val (.int qz), .val (.int wq), .val (.int sel), .val (.int r4), .val (.int r9), .val (.int mid), .val (.int (3 : Int32)), .val (.ref b158), .val (.int (sel &&& (7 : Int32))), .unset, .unset, .unset] [(.int r4)])) _
                  refine XS.iconst X170.here hx rfl (hb hby at_146) ?_
                  show Steps p.tables e below (T170.setTop (mkF m 147 #[.val (.int qx), .val (.int qy), .val (.int qz), .val (.int wq), .val (.int sel), .val (.int r4), .val (.int r9), .val (.int mid), .val (.int (3 : Int32)), .val (.ref b158), .val (.int (sel &&& (7 : Int32))), .unset, .unset, .unset] [(.int (1 : Int32)), (.int r4)])) _
                  refine XS.isub X170.here hx rfl (hb hby at_147) rfl ?_
                  show Steps p.tables e below (T170.setTop (mkF m 148 #[.val (.int qx), .val (.int qy), .val (.int qz), .val (.int wq), .val (.int sel), .val (.int r4), .val (.int r9), .val (.int mid), .val (.int (3 : Int32)), .val (.ref b158), .val (.int (sel &&& (7 : Int32))), .unset, .unset, .unset] [(.int (r4 - (1 : Int32)))])) _
                  refine XS.istore X170.here hx rfl (hb hby at_148) rfl (l' := #[.val (.int qx), .val (.int qy), .val (.int qz), .val (.int wq), .val (.int sel), .val (.int r4), .val (.int r9), .val (.int mid), .val (.int (3 : Int32)), .val (.ref b158), .val (.int (sel &&& (7 : Int32))), .val (.int (r4 - (1 : Int32))), .unset, .unset]) rfl ?_
                  show Steps p.tables e below (T170.setTop (mkF m 150 #[.val (.int qx), .val (.int qy), .val (.int qz), .val (.int wq), .val (.int sel), .val (.int r4), .val (.int r9), .val (.int mid), .val (.int (3 : Int32)), .val (.ref b158), .val (.int (sel &&& (7 : Int32))), .val (.int (r4 - (1 : Int32))), .unset, .unset] [])) _
                  refine XS.goto X170.here hx rfl (pc0 := 150) (pc' := 187) rfl (hb hby at_150) (by decide) (by decide) ?_
                  exact kt)
              exact ⟨(r4 - (1 : Int32)), pre186⟩
            · -- no at pc 141: ffffttt
              have pre187 : Goes p e below s₁ (entryFrame m #[(.int qx), (.int qy), (.int qz), (.int wq), (.int sel)] maxLocals) T170 (mkF m 156 #[.val (.int qx), .val (.int qy), .val (.int qz), .val (.int wq), .val (.int sel), .val (.int r4), .val (.int r9), .val (.int mid), .val (.int (3 : Int32)), .val (.ref b158), .val (.int (sel &&& (7 : Int32))), .unset, .unset, .unset] [(.int (5 : Int32)), (.int (sel &&& (7 : Int32)))]) := fun t kt => pre184 t (by
                  show Steps p.tables e below (T170.setTop (mkF m 141 #[.val (.int qx), .val (.int qy), .val (.int qz), .val (.int wq), .val (.int sel), .val (.int r4), .val (.int r9), .val (.int mid), .val (.int (3 : Int32)), .val (.ref b158), .val (.int (sel &&& (7 : Int32))), .unset, .unset, .unset] [(.int (4 : Int32)), (.int (sel &&& (7 : Int32)))])) _
                  refine XS.icmpYes X170.here hx rfl (pc0 := 141) (pc' := 153) rfl (hb hby at_141) rfl (feq hc141_185).2 (by decide) (by decide) ?_
                  show Steps p.tables e below (T170.setTop (mkF m 153 #[.val (.int qx), .val (.int qy), .val (.int qz), .val (.int wq), .val (.int sel), .val (.int r4), .val (.int r9), .val (.int mid), .val (.int (3 : Int32)), .val (.ref b158), .val (.int (sel &&& (7 : Int32))), .unset, .unset, .unset] [])) _
                  refine XS.iload X170.here hx rfl (hb hby at_153) rfl ?_
                  show Steps p.tables e below (T170.setTop (mkF m 155 #[.val (.int qx), .val (.int qy), .val (.int qz), .val (.int wq), .val (.int sel), .val (.int r4), .val (.int r9), .val (.int mid), .val (.int (3 : Int32)), .val (.ref b158), .val (.int (sel &&& (7 : Int32))), .unset, .unset, .unset] [(.int (sel &&& (7 : Int32)))])) _
                  refine XS.iconst X170.here hx rfl (hb hby at_155) ?_
                  exact kt)
              by_cases hc156_188 : (sel &&& (7 : Int32)) = (5 : Int32)
              · -- yes at pc 156: fffftttt
                have pre189 : Goes p e below s₁ (entryFrame m #[(.int qx), (.int qy), (.int qz), (.int wq), (.int sel)] maxLocals) T170 (mkF m 187 #[.val (.int qx), .val (.int qy), .val (.int qz), .val (.int wq), .val (.int sel), .val (.int r4), .val (.int r9), .val (.int mid), .val (.int (3 : Int32)), .val (.ref b158), .val (.int (sel &&& (7 : Int32))), .val (.int (r9 + (1 : Int32))), .unset, .unset] []) := fun t kt => pre187 t (by
                    show Steps p.tables e below (T170.setTop (mkF m 156 #[.val (.int qx), .val (.int qy), .val (.int qz), .val (.int wq), .val (.int sel), .val (.int r4), .val (.int r9), .val (.int mid), .val (.int (3 : Int32)), .val (.ref b158), .val (.int (sel &&& (7 : Int32))), .unset, .unset, .unset] [(.int (5 : Int32)), (.int (sel &&& (7 : Int32)))])) _
                    refine XS.icmpNo X170.here hx rfl (hb hby at_156) rfl (teq hc156_188).2 ?_
                    show Steps p.tables e below (T170.setTop (mkF m 159 #[.val (.int qx), .val (.int qy), .val (.int qz), .val (.int wq), .val (.int sel), .val (.int r4), .val (.int r9), .val (.int mid), .val (.int (3 : Int32)), .val (.ref b158), .val (.int (sel &&& (7 : Int32))), .unset, .unset, .unset] [])) _
                    refine XS.iload X170.here hx rfl (hb hby at_159) rfl ?_
                    show Steps p.tables e below (T170.setTop (mkF m 161 #[.val (.int qx), .val (.int qy), .val (.int qz), .val (.int wq), .val (.int sel), .val (.int r4), .val (.int r9), .val (.int mid), .val (.int (3 : Int32)), .val (.ref b158), .val (.int (sel &&& (7 : Int32))), .unset, .unset, .unset] [(.int r9)])) _
                    refine XS.iconst X170.here hx rfl (hb hby at_161) ?_
                    show Steps p.tables e below (T170.setTop (mkF m 162 #[.val (.int qx), .val (.int qy), .val (.int qz), .val (.int wq), .val (.int sel), .val (.int r4), .val (.int r9), .val (.int mid), .val (.int (3 : Int32)), .val (.ref b158), .val (.int (sel &&& (7 : Int32))), .unset, .unset, .unset] [(.int (1 : Int32)), (.int r9)])) _
                    refine XS.iadd X170.here hx rfl (hb hby at_162) rfl ?_
                    show Steps p.tables e below (T170.setTop (mkF m 163 #[.val (.int qx), .val (.int qy), .val (.int qz), .val (.int wq), .val (.int sel), .val (.int r4), .val (.int r9), .val (.int mid), .val (.int (3 : Int32)), .val (.ref b158), .val (.int (sel &&& (7 : Int32))), .unset, .unset, .unset] [(.int (r9 + (1 : Int32)))])) _
                    refine XS.istore X170.here hx rfl (hb hby at_163) rfl (l' := #[.val (.int qx), .val (.int qy), .val (.int qz), .val (.int wq), .val (.int sel), .val (.int r4), .val (.int r9), .val (.int mid), .val (.int (3 : Int32)), .val (.ref b158), .val (.int (sel &&& (7 : Int32))), .val (.int (r9 + (1 : Int32))), .unset, .unset]) rfl ?_
                    show Steps p.tables e below (T170.setTop (mkF m 165 #[.val (.int qx), .val (.int qy), .val (.int qz), .val (.int wq), .val (.int sel), .val (.int r4), .val (.int r9), .val (.int mid), .val (.int (3 : Int32)), .val (.ref b158), .val (.int (sel &&& (7 : Int32))), .val (.int (r9 + (1 : Int32))), .unset, .unset] [])) _
                    refine XS.goto X170.here hx rfl (pc0 := 165) (pc' := 187) rfl (hb hby at_165) (by decide) (by decide) ?_
                    exact kt)
                exact ⟨(r9 + (1 : Int32)), pre189⟩
              · -- no at pc 156: fffftttt
                have pre190 : Goes p e below s₁ (entryFrame m #[(.int qx), (.int qy), (.int qz), (.int wq), (.int sel)] maxLocals) T170 (mkF m 172 #[.val (.int qx), .val (.int qy), .val (.int qz), .val (.int wq), .val (.int sel), .val (.int r4), .val (.int r9), .val (.int mid), .val (.int (3 : Int32)), .val (.ref b158), .val (.int (sel &&& (7 : Int32))), .unset, .unset, .unset] [(.int (6 : Int32)), (.int (sel &&& (7 : Int32)))]) := fun t kt => pre187 t (by
                    show Steps p.tables e below (T170.setTop (mkF m 156 #[.val (.int qx), .val (.int qy), .val (.int qz), .val (.int wq), .val (.int sel), .val (.int r4), .val (.int r9), .val (.int mid), .val (.int (3 : Int32)), .val (.ref b158), .val (.int (sel &&& (7 : Int32))), .unset, .unset, .unset] [(.int (5 : Int32)), (.int (sel &&& (7 : Int32)))])) _
                    refine XS.icmpYes X170.here hx rfl (pc0 := 156) (pc' := 168) rfl (hb hby at_156) rfl (feq hc156_188).2 (by decide) (by decide) ?_
                    show Steps p.tables e below (T170.setTop (mkF m 168 #[.val (.int qx), .val (.int qy), .val (.int qz), .val (.int wq), .val (.int sel), .val (.int r4), .val (.int r9), .val (.int mid), .val (.int (3 : Int32)), .val (.ref b158), .val (.int (sel &&& (7 : Int32))), .unset, .unset, .unset] [])) _
                    refine XS.iload X170.here hx rfl (hb hby at_168) rfl ?_
                    show Steps p.tables e below (T170.setTop (mkF m 170 #[.val (.int qx), .val (.int qy), .val (.int qz), .val (.int wq), .val (.int sel), .val (.int r4), .val (.int r9), .val (.int mid), .val (.int (3 : Int32)), .val (.ref b158), .val (.int (sel &&& (7 : Int32))), .unset, .unset, .unset] [(.int (sel &&& (7 : Int32)))])) _
                    refine XS.bipush X170.here hx rfl (hb hby at_170) ?_
                    exact kt)
                by_cases hc172_191 : (sel &&& (7 : Int32)) = (6 : Int32)
                · -- yes at pc 172: ffffttttt
                  have pre192 : Goes p e below s₁ (entryFrame m #[(.int qx), (.int qy), (.int qz), (.int wq), (.int sel)] maxLocals) T170 (mkF m 187 #[.val (.int qx), .val (.int qy), .val (.int qz), .val (.int wq), .val (.int sel), .val (.int r4), .val (.int r9), .val (.int mid), .val (.int (3 : Int32)), .val (.ref b158), .val (.int (sel &&& (7 : Int32))), .val (.int (mid + (1 : Int32))), .unset, .unset] []) := fun t kt => pre190 t (by
                      show Steps p.tables e below (T170.setTop (mkF m 172 #[.val (.int qx), .val (.int qy), .val (.int qz), .val (.int wq), .val (.int sel), .val (.int r4), .val (.int r9), .val (.int mid), .val (.int (3 : Int32)), .val (.ref b158), .val (.int (sel &&& (7 : Int32))), .unset, .unset, .unset] [(.int (6 : Int32)), (.int (sel &&& (7 : Int32)))])) _
                      refine XS.icmpNo X170.here hx rfl (hb hby at_172) rfl (teq hc172_191).2 ?_
                      show Steps p.tables e below (T170.setTop (mkF m 175 #[.val (.int qx), .val (.int qy), .val (.int qz), .val (.int wq), .val (.int sel), .val (.int r4), .val (.int r9), .val (.int mid), .val (.int (3 : Int32)), .val (.ref b158), .val (.int (sel &&& (7 : Int32))), .unset, .unset, .unset] [])) _
                      refine XS.iload X170.here hx rfl (hb hby at_175) rfl ?_
                      show Steps p.tables e below (T170.setTop (mkF m 177 #[.val (.int qx), .val (.int qy), .val (.int qz), .val (.int wq), .val (.int sel), .val (.int r4), .val (.int r9), .val (.int mid), .val (.int (3 : Int32)), .val (.ref b158), .val (.int (sel &&& (7 : Int32))), .unset, .unset, .unset] [(.int mid)])) _
                      refine XS.iconst X170.here hx rfl (hb hby at_177) ?_
                      show Steps p.tables e below (T170.setTop (mkF m 178 #[.val (.int qx), .val (.int qy), .val (.int qz), .val (.int wq), .val (.int sel), .val (.int r4), .val (.int r9), .val (.int mid), .val (.int (3 : Int32)), .val (.ref b158), .val (.int (sel &&& (7 : Int32))), .unset, .unset, .unset] [(.int (1 : Int32)), (.int mid)])) _
                      refine XS.iadd X170.here hx rfl (hb hby at_178) rfl ?_
                      show Steps p.tables e below (T170.setTop (mkF m 179 #[.val (.int qx), .val (.int qy), .val (.int qz), .val (.int wq), .val (.int sel), .val (.int r4), .val (.int r9), .val (.int mid), .val (.int (3 : Int32)), .val (.ref b158), .val (.int (sel &&& (7 : Int32))), .unset, .unset, .unset] [(.int (mid + (1 : Int32)))])) _
                      refine XS.istore X170.here hx rfl (hb hby at_179) rfl (l' := #[.val (.int qx), .val (.int qy), .val (.int qz), .val (.int wq), .val (.int sel), .val (.int r4), .val (.int r9), .val (.int mid), .val (.int (3 : Int32)), .val (.ref b158), .val (.int (sel &&& (7 : Int32))), .val (.int (mid + (1 : Int32))), .unset, .unset]) rfl ?_
                      show Steps p.tables e below (T170.setTop (mkF m 181 #[.val (.int qx), .val (.int qy), .val (.int qz), .val (.int wq), .val (.int sel), .val (.int r4), .val (.int r9), .val (.int mid), .val (.int (3 : Int32)), .val (.ref b158), .val (.int (sel &&& (7 : Int32))), .val (.int (mid + (1 : Int32))), .unset, .unset] [])) _
                      refine XS.goto X170.here hx rfl (pc0 := 181) (pc' := 187) rfl (hb hby at_181) (by decide) (by decide) ?_
                      exact kt)
                  exact ⟨(mid + (1 : Int32)), pre192⟩
                · -- no at pc 172: ffffttttt
                  have pre193 : Goes p e below s₁ (entryFrame m #[(.int qx), (.int qy), (.int qz), (.int wq), (.int sel)] maxLocals) T170 (mkF m 187 #[.val (.int qx), .val (.int qy), .val (.int qz), .val (.int wq), .val (.int sel), .val (.int r4), .val (.int r9), .val (.int mid), .val (.int (3 : Int32)), .val (.ref b158), .val (.int (sel &&& (7 : Int32))), .val (.int wq), .unset, .unset] []) := fun t kt => pre190 t (by
                      show Steps p.tables e below (T170.setTop (mkF m 172 #[.val (.int qx), .val (.int qy), .val (.int qz), .val (.int wq), .val (.int sel), .val (.int r4), .val (.int r9), .val (.int mid), .val (.int (3 : Int32)), .val (.ref b158), .val (.int (sel &&& (7 : Int32))), .unset, .unset, .unset] [(.int (6 : Int32)), (.int (sel &&& (7 : Int32)))])) _
                      refine XS.icmpYes X170.here hx rfl (pc0 := 172) (pc' := 184) rfl (hb hby at_172) rfl (feq hc172_191).2 (by decide) (by decide) ?_
                      show Steps p.tables e below (T170.setTop (mkF m 184 #[.val (.int qx), .val (.int qy), .val (.int qz), .val (.int wq), .val (.int sel), .val (.int r4), .val (.int r9), .val (.int mid), .val (.int (3 : Int32)), .val (.ref b158), .val (.int (sel &&& (7 : Int32))), .unset, .unset, .unset] [])) _
                      refine XS.iloadN X170.here hx rfl (hb hby at_184) rfl ?_
                      show Steps p.tables e below (T170.setTop (mkF m 185 #[.val (.int qx), .val (.int qy), .val (.int qz), .val (.int wq), .val (.int sel), .val (.int r4), .val (.int r9), .val (.int mid), .val (.int (3 : Int32)), .val (.ref b158), .val (.int (sel &&& (7 : Int32))), .unset, .unset, .unset] [(.int wq)])) _
                      refine XS.istore X170.here hx rfl (hb hby at_185) rfl (l' := #[.val (.int qx), .val (.int qy), .val (.int qz), .val (.int wq), .val (.int sel), .val (.int r4), .val (.int r9), .val (.int mid), .val (.int (3 : Int32)), .val (.ref b158), .val (.int (sel &&& (7 : Int32))), .val (.int wq), .unset, .unset]) rfl ?_
                      exact kt)
                  exact ⟨wq, pre193⟩
    obtain ⟨T194, h194, X194, e194, E194, A194, DD194, -, st194⟩ := newO X170 hx hZ hown (hw _ (List.mem_of_getElem? (i := 8) rfl)) (hw _ (List.mem_of_getElem? (i := 9) rfl)) (hw _ (List.mem_of_getElem? (i := 10) rfl)) e170 (g := (mkF m 187 #[.val (.int qx), .val (.int qy), .val (.int qz), .val (.int wq), .val (.int sel), .val (.int r4), .val (.int r9), .val (.int mid), .val (.int (3 : Int32)), .val (.ref b158), .val (.int (sel &&& (7 : Int32))), .val (.int vv), .unset, .unset] [])) rfl (hb hby at_187) (by decide) (by decide)
    obtain ⟨b194, g194⟩ : ∃ z, z = h170.size := ⟨_, rfl⟩
    rw [← g194] at A194 DD194 st194
    have F_name_b194 : Fld Z h194 b194 "com/example/ferry/ferry/FormatVersions" "name" "Ljava/lang/String;" .null := DD194 (Or.inr (hw _ (List.mem_of_getElem? (i := 26) rfl))) (ty := (.object "java/lang/String")) (by decide)
    have F_versions_b194 : Fld Z h194 b194 "com/example/ferry/ferry/FormatVersions" "versions" "[I" .null := DD194 (Or.inr (hw _ (List.mem_of_getElem? (i := 37) rfl))) (ty := (.array .int)) (by decide)
    have g_b194 : n0 ≤ b194 := Nat.le_trans (Nat.le_trans (Nat.le_trans (Nat.le_trans (Nat.le_trans Z0 E158.1) (Keep.of_wr W162).1) (Keep.of_wr W166).1) (Keep.of_wr W170).1) (Nat.le_of_eq g194.symm)
    have sz_b194 : h0.size ≤ b194 := (Nat.le_trans K170.1 (Nat.le_of_eq g194.symm))
    have K194 : Keep h0 h194 [] := K170.ext E194
    have pre195 : Goes p e below s₁ (entryFrame m #[(.int qx), (.int qy), (.int qz), (.int wq), (.int sel)] maxLocals) T194 (mkF m 190 #[.val (.int qx), .val (.int qy), .val (.int qz), .val (.int wq), .val (.int sel), .val (.int r4), .val (.int r9), .val (.int mid), .val (.int (3 : Int32)), .val (.ref b158), .val (.int (sel &&& (7 : Int32))), .val (.int vv), .unset, .unset] [(.ref b194)]) := fun t kt => pre174 t (st194 t kt)
    have pre196 : Goes p e below s₁ (entryFrame m #[(.int qx), (.int qy), (.int qz), (.int wq), (.int sel)] maxLocals) T194 (mkF m 191 #[.val (.int qx), .val (.int qy), .val (.int qz), .val (.int wq), .val (.int sel), .val (.int r4), .val (.int r9), .val (.int mid), .val (.int (3 : Int32)), .val (.ref b158), .val (.int (sel &&& (7 : Int32))), .val (.int vv), .unset, .unset] [(.ref b194), (.ref b194)]) := fun t kt => pre195 t (by
        show Steps p.tables e below (T194.setTop (mkF m 190 #[.val (.int qx), .val (.int qy), .val (.int qz), .val (.int wq), .val (.int sel), .val (.int r4), .val (.int r9), .val (.int mid), .val (.int (3 : Int32)), .val (.ref b158), .val (.int (sel &&& (7 : Int32))), .val (.int vv), .unset, .unset] [(.ref b194)])) _
        refine XS.dup X194.here hx rfl (hb hby at_190) rfl rfl ?_
        exact kt)
    have wS197 : ∀ a ∈ Bundle.stringAtoms, a.before a0 Z = true := fun d hd => by
      simp only [Bundle.stringAtoms, List.mem_cons, List.not_mem_nil, or_false] at hd
      rcases hd with rfl | rfl | rfl | rfl | rfl | rfl | rfl
      · exact (hw _ (List.mem_of_getElem? (i := 12) rfl))
      · exact (hw _ (List.mem_of_getElem? (i := 13) rfl))
      · exact (hw _ (List.mem_of_getElem? (i := 14) rfl))
      · exact (hw _ (List.mem_of_getElem? (i := 15) rfl))
      · exact (hw _ (List.mem_of_getElem? (i := 16) rfl))
      · exact (hw _ (List.mem_of_getElem? (i := 17) rfl))
      · exact (hw _ (List.mem_of_getElem? (i := 18) rfl))
    obtain ⟨sa197, T197, h197, kk197, X197, e197, E197, hS197, hk197, hZ, hown, st197⟩ := ldcS (s := s) (vm0 := s.vm) X194 hx hZ hown (hw _ (List.mem_of_getElem? (i := 11) rfl)) wS197 e194 (State.WarmedH.since (State.WarmedH.refl s) 0) (Nat.zero_le _) (g := (mkF m 191 #[.val (.int qx), .val (.int qy), .val (.int qz), .val (.int wq), .val (.int sel), .val (.int r4), .val (.int r9), .val (.int mid), .val (.int (3 : Int32)), .val (.ref b158), .val (.int (sel &&& (7 : Int32))), .val (.int vv), .unset, .unset] [(.ref b194), (.ref b194)])) rfl (hb hby at_191) (n := 56) (by decide) (by decide) (by decide) (by decide)
    have K197 : Keep h0 h197 [] := K194.ext E197
    have pre198 : Goes p e below s₁ (entryFrame m #[(.int qx), (.int qy), (.int qz), (.int wq), (.int sel)] maxLocals) T197 (mkF m 193 #[.val (.int qx), .val (.int qy), .val (.int qz), .val (.int wq), .val (.int sel), .val (.int r4), .val (.int r9), .val (.int mid), .val (.int (3 : Int32)), .val (.ref b158), .val (.int (sel &&& (7 : Int32))), .val (.int vv), .unset, .unset] [(.ref sa197), (.ref b194), (.ref b194)]) := fun t kt => pre196 t (st197 t kt)
    have pre199 : Goes p e below s₁ (entryFrame m #[(.int qx), (.int qy), (.int qz), (.int wq), (.int sel)] maxLocals) T197 (mkF m 195 #[.val (.int qx), .val (.int qy), .val (.int qz), .val (.int wq), .val (.int sel), .val (.int r4), .val (.int r9), .val (.int mid), .val (.int (3 : Int32)), .val (.ref b158), .val (.int (sel &&& (7 : Int32))), .val (.int vv), .unset, .unset] [(.ref b158), (.ref sa197), (.ref b194), (.ref b194)]) := fun t kt => pre198 t (by
        show Steps p.tables e below (T197.setTop (mkF m 193 #[.val (.int qx), .val (.int qy), .val (.int qz), .val (.int wq), .val (.int sel), .val (.int r4), .val (.int r9), .val (.int mid), .val (.int (3 : Int32)), .val (.ref b158), .val (.int (sel &&& (7 : Int32))), .val (.int vv), .unset, .unset] [(.ref sa197), (.ref b194), (.ref b194)])) _
        refine XS.aload X197.here hx rfl (hb hby at_193) rfl rfl ?_
        exact kt)
    obtain ⟨_, _, ⟨T200, L200, k200, n200⟩, -, X200, ⟨Lc200, hQ200, l200, y200, z200⟩, st200⟩ := X197.specialBack hx (y := (⟨"com/example/ferry/ferry/FormatVersions", "<init>", "(Ljava/lang/String;[I)V"⟩ : MethodName)) rfl hown (mvT hZ (hw _ (List.mem_of_getElem? (i := 19) rfl))) (mvT hZ (hw _ (List.mem_of_getElem? (i := 20) rfl))) (mvT hZ (hw _ (List.mem_of_getElem? (i := 21) rfl))) (by decide) (backOf (W := 1) (own_init l Z a0 hw [] b194 sa197 b158 k158 (3 : Int32) [(.int r4), (.int mid), (.int r9)] h197 n0 (Nat.le_trans (Nat.le_trans (Nat.le_trans (Nat.le_trans (Nat.le_trans (Nat.le_trans Z0 E158.1) (Keep.of_wr W162).1) (Keep.of_wr W166).1) (Keep.of_wr W170).1) E194.1) E197.1) (A194.ext E197) (F_name_b194.ext E197) (F_versions_b194.ext E197) g_b194 ((V170.ext E194).ext E197) (((((XA158.wr W162).wr W166).wr W170).ext E194).ext E197) (Nat.ne_of_lt (Nat.lt_of_lt_of_le (((XA158.wr W162).wr W166).wr W170).lt (Nat.le_of_eq g194.symm))) (by decide)) hZ (hw _ (List.mem_of_getElem? (i := 21) rfl)) (hw _ (List.mem_of_getElem? (i := 10) rfl)) (by decide) (by decide)) (g := (mkF m 195 #[.val (.int qx), .val (.int qy), .val (.int qz), .val (.int wq), .val (.int sel), .val (.int r4), .val (.int r9), .val (.int mid), .val (.int (3 : Int32)), .val (.ref b158), .val (.int (sel &&& (7 : Int32))), .val (.int vv), .unset, .unset] [(.ref b158), (.ref sa197), (.ref b194), (.ref b194)])) rfl (by rw [hml]; rfl) (Steps.refl _) (a := b194) (argsL := [(.ref sa197), (.ref b158)]) (rest := [(.ref b194)]) (lenOf own_pd1 rfl) rfl (by show 2 * 0 + _ ≤ _; exact Nat.le_of_eq rfl) (hb hby at_195) (fun _ _ => ⟨rfl, e197, (by decide : 4 + 1 ≤ _), (by decide : 65 + 3 ≤ _)⟩)
    dsimp only [Pt.U, Pt.locs, Pt.cells, Pt.slots] at X200 l200 y200 z200 st200 hQ200
    subst l200 y200 z200
    obtain ⟨rfl, N200q, K200q, t200, Fv200, Vt200⟩ := hQ200
    have N200 := Fr.app N170 N200q
    have KC200 : Keep h0 T200.heap [] := K197.trans K200q (allS (Or.inr sz_b194) all0)
    have pre201 : Goes p e below s₁ (entryFrame m #[(.int qx), (.int qy), (.int qz), (.int wq), (.int sel)] maxLocals) T200 (mkF m 198 #[.val (.int qx), .val (.int qy), .val (.int qz), .val (.int wq), .val (.int sel), .val (.int r4), .val (.int r9), .val (.int mid), .val (.int (3 : Int32)), .val (.ref b158), .val (.int (sel &&& (7 : Int32))), .val (.int vv), .unset, .unset] [(.ref b194)]) := fun t kt => pre199 t (st200.trans kt)
    have pre202 : Goes p e below s₁ (entryFrame m #[(.int qx), (.int qy), (.int qz), (.int wq), (.int sel)] maxLocals) T200 (mkF m 200 #[.val (.int qx), .val (.int qy), .val (.int qz), .val (.int wq), .val (.int sel), .val (.int r4), .val (.int r9), .val (.int mid), .val (.int (3 : Int32)), .val (.ref b158), .val (.int (sel &&& (7 : Int32))), .val (.int vv), .val (.ref b194), .unset] []) := fun t kt => pre201 t (by
        show Steps p.tables e below (T200.setTop (mkF m 198 #[.val (.int qx), .val (.int qy), .val (.int qz), .val (.int wq), .val (.int sel), .val (.int r4), .val (.int r9), .val (.int mid), .val (.int (3 : Int32)), .val (.ref b158), .val (.int (sel &&& (7 : Int32))), .val (.int vv), .unset, .unset] [(.ref b194)])) _
        refine XS.astore X200.here hx rfl (hb hby at_198) rfl rfl (l' := #[.val (.int qx), .val (.int qy), .val (.int qz), .val (.int wq), .val (.int sel), .val (.int r4), .val (.int r9), .val (.int mid), .val (.int (3 : Int32)), .val (.ref b158), .val (.int (sel &&& (7 : Int32))), .val (.int vv), .val (.ref b194), .unset]) rfl ?_
        exact kt)
    obtain ⟨ex, hex, pre204⟩ : ∃ (ex : Int32), (ex = if (r4 = vv ∨ mid = vv ∨ r9 = vv) then 1 else 0) ∧ Goes p e below s₁ (entryFrame m #[(.int qx), (.int qy), (.int qz), (.int wq), (.int sel)] maxLocals) T200 (mkF m 245 #[.val (.int qx), .val (.int qy), .val (.int qz), .val (.int wq), .val (.int sel), .val (.int r4), .val (.int r9), .val (.int mid), .val (.int (3 : Int32)), .val (.ref b158), .val (.int (sel &&& (7 : Int32))), .val (.int vv), .val (.ref b194), .val (.int ex)] []) := by
      have pre205 : Goes p e below s₁ (entryFrame m #[(.int qx), (.int qy), (.int qz), (.int wq), (.int sel)] maxLocals) T200 (mkF m 209 #[.val (.int qx), .val (.int qy), .val (.int qz), .val (.int wq), .val (.int sel), .val (.int r4), .val (.int r9), .val (.int mid), .val (.int (3 : Int32)), .val (.ref b158), .val (.int (sel &&& (7 : Int32))), .val (.int vv), .val (.ref b194), .unset] [(.int r4), (.int vv)]) := fun t kt => pre202 t (by
          show Steps p.tables e below (T200.setTop (mkF m 200 #[.val (.int qx), .val (.int qy), .val (.int qz), .val (.int wq), .val (.int sel), .val (.int r4), .val (.int r9), .val (.int mid), .val (.int (3 : Int32)), .val (.ref b158), .val (.int (sel &&& (7 : Int32))), .val (.int vv), .val (.ref b194), .unset] [])) _
          refine XS.iload X200.here hx rfl (hb hby at_200) rfl ?_
          show Steps p.tables e below (T200.setTop (mkF m 202 #[.val (.int qx), .val (.int qy), .val (.int qz), .val (.int wq), .val (.int sel), .val (.int r4), .val (.int r9), .val (.int mid), .val (.int (3 : Int32)), .val (.ref b158), .val (.int (sel &&& (7 : Int32))), .val (.int vv), .val (.ref b194), .unset] [(.int (3 : Int32))])) _
          refine XS.ifNo X200.here hx rfl (hb hby at_202) rfl ((if0 _ _).trans (tlt (by decide : (0 : Int32) < (3 : Int32))).2.2.2) ?_
          show Steps p.tables e below (T200.setTop (mkF m 205 #[.val (.int qx), .val (.int qy), .val (.int qz), .val (.int wq), .val (.int sel), .val (.int r4), .val (.int r9), .val (.int mid), .val (.int (3 : Int32)), .val (.ref b158), .val (.int (sel &&& (7 : Int32))), .val (.int vv), .val (.ref b194), .unset] [])) _
          refine XS.iload X200.here hx rfl (hb hby at_205) rfl ?_
          show Steps p.tables e below (T200.setTop (mkF m 207 #[.val (.int qx), .val (.int qy), .val (.int qz), .val (.int wq), .val (.int sel), .val (.int r4), .val (.int r9), .val (.int mid), .val (.int (3 : Int32)), .val (.ref b158), .val (.int (sel &&& (7 : Int32))), .val (.int vv), .val (.ref b194), .unset] [(.int vv)])) _
          refine XS.iload X200.here hx rfl (hb hby at_207) rfl ?_
          exact kt)
      by_cases hc209_206 : vv = r4
      · -- yes at pc 209: fffff
        have pre207 : Goes p e below s₁ (entryFrame m #[(.int qx), (.int qy), (.int qz), (.int wq), (.int sel)] maxLocals) T200 (mkF m 245 #[.val (.int qx), .val (.int qy), .val (.int qz), .val (.int wq), .val (.int sel), .val (.int r4), .val (.int r9), .val (.int mid), .val (.int (3 : Int32)), .val (.ref b158), .val (.int (sel &&& (7 : Int32))), .val (.int vv), .val (.ref b194), .val (.int (1 : Int32))] []) := fun t kt => pre205 t (by
            show Steps p.tables e below (T200.setTop (mkF m 209 #[.val (.int qx), .val (.int qy), .val (.int qz), .val (.int wq), .val (.int sel), .val (.int r4), .val (.int r9), .val (.int mid), .val (.int (3 : Int32)), .val (.ref b158), .val (.int (sel &&& (7 : Int32))), .val (.int vv), .val (.ref b194), .unset] [(.int r4), (.int vv)])) _
            refine XS.icmpYes X200.here hx rfl (pc0 := 209) (pc' := 238) rfl (hb hby at_209) rfl (teq hc209_206).1 (by decide) (by decide) ?_
            show Steps p.tables e below (T200.setTop (mkF m 238 #[.val (.int qx), .val (.int qy), .val (.int qz), .val (.int wq), .val (.int sel), .val (.int r4), .val (.int r9), .val (.int mid), .val (.int (3 : Int32)), .val (.ref b158), .val (.int (sel &&& (7 : Int32))), .val (.int vv), .val (.ref b194), .unset] [])) _
            refine XS.iconst X200.here hx rfl (hb hby at_238) ?_
            show Steps p.tables e below (T200.setTop (mkF m 239 #[.val (.int qx), .val (.int qy), .val (.int qz), .val (.int wq), .val (.int sel), .val (.int r4), .val (.int r9), .val (.int mid), .val (.int (3 : Int32)), .val (.ref b158), .val (.int (sel &&& (7 : Int32))), .val (.int vv), .val (.ref b194), .unset] [(.int (1 : Int32))])) _
            refine XS.goto X200.here hx rfl (pc0 := 239) (pc' := 243) rfl (hb hby at_239) (by decide) (by decide) ?_
            show Steps p.tables e below (T200.setTop (mkF m 243 #[.val (.int qx), .val (.int qy), .val (.int qz), .val (.int wq), .val (.int sel), .val (.int r4), .val (.int r9), .val (.int mid), .val (.int (3 : Int32)), .val (.ref b158), .val (.int (sel &&& (7 : Int32))), .val (.int vv), .val (.ref b194), .unset] [(.int (1 : Int32))])) _
            refine XS.istore X200.here hx rfl (hb hby at_243) rfl (l' := #[.val (.int qx), .val (.int qy), .val (.int qz), .val (.int wq), .val (.int sel), .val (.int r4), .val (.int r9), .val (.int mid), .val (.int (3 : Int32)), .val (.ref b158), .val (.int (sel &&& (7 : Int32))), .val (.int vv), .val (.ref b194), .val (.int (1 : Int32))]) rfl ?_
            exact kt)
        exact ⟨(1 : Int32), (by simp [hc209_206.symm]), pre207⟩
      · -- no at pc 209: fffff
        have pre208 : Goes p e below s₁ (entryFrame m #[(.int qx), (.int qy), (.int qz), (.int wq), (.int sel)] maxLocals) T200 (mkF m 222 #[.val (.int qx), .val (.int qy), .val (.int qz), .val (.int wq), .val (.int sel), .val (.int r4), .val (.int r9), .val (.int mid), .val (.int (3 : Int32)), .val (.ref b158), .val (.int (sel &&& (7 : Int32))), .val (.int vv), .val (.ref b194), .unset] [(.int mid), (.int vv)]) := fun t kt => pre205 t (by
            show Steps p.tables e below (T200.setTop (mkF m 209 #[.val (.int qx), .val (.int qy), .val (.int qz), .val (.int wq), .val (.int sel), .val (.int r4), .val (.int r9), .val (.int mid), .val (.int (3 : Int32)), .val (.ref b158), .val (.int (sel &&& (7 : Int32))), .val (.int vv), .val (.ref b194), .unset] [(.int r4), (.int vv)])) _
            refine XS.icmpNo X200.here hx rfl (hb hby at_209) rfl (feq hc209_206).1 ?_
            show Steps p.tables e below (T200.setTop (mkF m 212 #[.val (.int qx), .val (.int qy), .val (.int qz), .val (.int wq), .val (.int sel), .val (.int r4), .val (.int r9), .val (.int mid), .val (.int (3 : Int32)), .val (.ref b158), .val (.int (sel &&& (7 : Int32))), .val (.int vv), .val (.ref b194), .unset] [])) _
            refine XS.iload X200.here hx rfl (hb hby at_212) rfl ?_
            show Steps p.tables e below (T200.setTop (mkF m 214 #[.val (.int qx), .val (.int qy), .val (.int qz), .val (.int wq), .val (.int sel), .val (.int r4), .val (.int r9), .val (.int mid), .val (.int (3 : Int32)), .val (.ref b158), .val (.int (sel &&& (7 : Int32))), .val (.int vv), .val (.ref b194), .unset] [(.int (3 : Int32))])) _
            refine XS.iconst X200.here hx rfl (hb hby at_214) ?_
            show Steps p.tables e below (T200.setTop (mkF m 215 #[.val (.int qx), .val (.int qy), .val (.int qz), .val (.int wq), .val (.int sel), .val (.int r4), .val (.int r9), .val (.int mid), .val (.int (3 : Int32)), .val (.ref b158), .val (.int (sel &&& (7 : Int32))), .val (.int vv), .val (.ref b194), .unset] [(.int (1 : Int32)), (.int (3 : Int32))])) _
            refine XS.icmpNo X200.here hx rfl (hb hby at_215) rfl (tlt (by decide : (1 : Int32) < (3 : Int32))).2.2.2 ?_
            show Steps p.tables e below (T200.setTop (mkF m 218 #[.val (.int qx), .val (.int qy), .val (.int qz), .val (.int wq), .val (.int sel), .val (.int r4), .val (.int r9), .val (.int mid), .val (.int (3 : Int32)), .val (.ref b158), .val (.int (sel &&& (7 : Int32))), .val (.int vv), .val (.ref b194), .unset] [])) _
            refine XS.iload X200.here hx rfl (hb hby at_218) rfl ?_
            show Steps p.tables e below (T200.setTop (mkF m 220 #[.val (.int qx), .val (.int qy), .val (.int qz), .val (.int wq), .val (.int sel), .val (.int r4), .val (.int r9), .val (.int mid), .val (.int (3 : Int32)), .val (.ref b158), .val (.int (sel &&& (7 : Int32))), .val (.int vv), .val (.ref b194), .unset] [(.int vv)])) _
            refine XS.iload X200.here hx rfl (hb hby at_220) rfl ?_
            exact kt)
        by_cases hc222_209 : vv = mid
        · -- yes at pc 222: fffffff
          have pre210 : Goes p e below s₁ (entryFrame m #[(.int qx), (.int qy), (.int qz), (.int wq), (.int sel)] maxLocals) T200 (mkF m 245 #[.val (.int qx), .val (.int qy), .val (.int qz), .val (.int wq), .val (.int sel), .val (.int r4), .val (.int r9), .val (.int mid), .val (.int (3 : Int32)), .val (.ref b158), .val (.int (sel &&& (7 : Int32))), .val (.int vv), .val (.ref b194), .val (.int (1 : Int32))] []) := fun t kt => pre208 t (by
              show Steps p.tables e below (T200.setTop (mkF m 222 #[.val (.int qx), .val (.int qy), .val (.int qz), .val (.int wq), .val (.int sel), .val (.int r4), .val (.int r9), .val (.int mid), .val (.int (3 : Int32)), .val (.ref b158), .val (.int (sel &&& (7 : Int32))), .val (.int vv), .val (.ref b194), .unset] [(.int mid), (.int vv)])) _
              refine XS.icmpYes X200.here hx rfl (pc0 := 222) (pc' := 238) rfl (hb hby at_222) rfl (teq hc222_209).1 (by decide) (by decide) ?_
              show Steps p.tables e below (T200.setTop (mkF m 238 #[.val (.int qx), .val (.int qy), .val (.int qz), .val (.int wq), .val (.int sel), .val (.int r4), .val (.int r9), .val (.int mid), .val (.int (3 : Int32)), .val (.ref b158), .val (.int (sel &&& (7 : Int32))), .val (.int vv), .val (.ref b194), .unset] [])) _
              refine XS.iconst X200.here hx rfl (hb hby at_238) ?_
              show Steps p.tables e below (T200.setTop (mkF m 239 #[.val (.int qx), .val (.int qy), .val (.int qz), .val (.int wq), .val (.int sel), .val (.int r4), .val (.int r9), .val (.int mid), .val (.int (3 : Int32)), .val (.ref b158), .val (.int (sel &&& (7 : Int32))), .val (.int vv), .val (.ref b194), .unset] [(.int (1 : Int32))])) _
              refine XS.goto X200.here hx rfl (pc0 := 239) (pc' := 243) rfl (hb hby at_239) (by decide) (by decide) ?_
              show Steps p.tables e below (T200.setTop (mkF m 243 #[.val (.int qx), .val (.int qy), .val (.int qz), .val (.int wq), .val (.int sel), .val (.int r4), .val (.int r9), .val (.int mid), .val (.int (3 : Int32)), .val (.ref b158), .val (.int (sel &&& (7 : Int32))), .val (.int vv), .val (.ref b194), .unset] [(.int (1 : Int32))])) _
              refine XS.istore X200.here hx rfl (hb hby at_243) rfl (l' := #[.val (.int qx), .val (.int qy), .val (.int qz), .val (.int wq), .val (.int sel), .val (.int r4), .val (.int r9), .val (.int mid), .val (.int (3 : Int32)), .val (.ref b158), .val (.int (sel &&& (7 : Int32))), .val (.int vv), .val (.ref b194), .val (.int (1 : Int32))]) rfl ?_
              exact kt)
          exact ⟨(1 : Int32), (by simp [(show ¬ (r4 = vv) from fun q => hc209_206 q.symm), hc222_209.symm]), pre210⟩
        · -- no at pc 222: fffffff
          have pre211 : Goes p e below s₁ (entryFrame m #[(.int qx), (.int qy), (.int qz), (.int wq), (.int sel)] maxLocals) T200 (mkF m 235 #[.val (.int qx), .val (.int qy), .val (.int qz), .val (.int wq), .val (.int sel), .val (.int r4), .val (.int r9), .val (.int mid), .val (.int (3 : Int32)), .val (.ref b158), .val (.int (sel &&& (7 : Int32))), .val (.int vv), .val (.ref b194), .unset] [(.int r9), (.int vv)]) := fun t kt => pre208 t (by
              show Steps p.tables e below (T200.setTop (mkF m 222 #[.val (.int qx), .val (.int qy), .val (.int qz), .val (.int wq), .val (.int sel), .val (.int r4), .val (.int r9), .val (.int mid), .val (.int (3 : Int32)), .val (.ref b158), .val (.int (sel &&& (7 : Int32))), .val (.int vv), .val (.ref b194), .unset] [(.int mid), (.int vv)])) _
              refine XS.icmpNo X200.here hx rfl (hb hby at_222) rfl (feq hc222_209).1 ?_
              show Steps p.tables e below (T200.setTop (mkF m 225 #[.val (.int qx), .val (.int qy), .val (.int qz), .val (.int wq), .val (.int sel), .val (.int r4), .val (.int r9), .val (.int mid), .val (.int (3 : Int32)), .val (.ref b158), .val (.int (sel &&& (7 : Int32))), .val (.int vv), .val (.ref b194), .unset] [])) _
              refine XS.iload X200.here hx rfl (hb hby at_225) rfl ?_
              show Steps p.tables e below (T200.setTop (mkF m 227 #[.val (.int qx), .val (.int qy), .val (.int qz), .val (.int wq), .val (.int sel), .val (.int r4), .val (.int r9), .val (.int mid), .val (.int (3 : Int32)), .val (.ref b158), .val (.int (sel &&& (7 : Int32))), .val (.int vv), .val (.ref b194), .unset] [(.int (3 : Int32))])) _
              refine XS.iconst X200.here hx rfl (hb hby at_227) ?_
              show Steps p.tables e below (T200.setTop (mkF m 228 #[.val (.int qx), .val (.int qy), .val (.int qz), .val (.int wq), .val (.int sel), .val (.int r4), .val (.int r9), .val (.int mid), .val (.int (3 : Int32)), .val (.ref b158), .val (.int (sel &&& (7 : Int32))), .val (.int vv), .val (.ref b194), .unset] [(.int (2 : Int32)), (.int (3 : Int32))])) _
              refine XS.icmpNo X200.here hx rfl (hb hby at_228) rfl (tlt (by decide : (2 : Int32) < (3 : Int32))).2.2.2 ?_
              show Steps p.tables e below (T200.setTop (mkF m 231 #[.val (.int qx), .val (.int qy), .val (.int qz), .val (.int wq), .val (.int sel), .val (.int r4), .val (.int r9), .val (.int mid), .val (.int (3 : Int32)), .val (.ref b158), .val (.int (sel &&& (7 : Int32))), .val (.int vv), .val (.ref b194), .unset] [])) _
              refine XS.iload X200.here hx rfl (hb hby at_231) rfl ?_
              show Steps p.tables e below (T200.setTop (mkF m 233 #[.val (.int qx), .val (.int qy), .val (.int qz), .val (.int wq), .val (.int sel), .val (.int r4), .val (.int r9), .val (.int mid), .val (.int (3 : Int32)), .val (.ref b158), .val (.int (sel &&& (7 : Int32))), .val (.int vv), .val (.ref b194), .unset] [(.int vv)])) _
              refine XS.iload X200.here hx rfl (hb hby at_233) rfl ?_
              exact kt)
          by_cases hc235_212 : vv = r9
          · -- yes at pc 235: fffffffff
            have pre213 : Goes p e below s₁ (entryFrame m #[(.int qx), (.int qy), (.int qz), (.int wq), (.int sel)] maxLocals) T200 (mkF m 245 #[.val (.int qx), .val (.int qy), .val (.int qz), .val (.int wq), .val (.int sel), .val (.int r4), .val (.int r9), .val (.int mid), .val (.int (3 : Int32)), .val (.ref b158), .val (.int (sel &&& (7 : Int32))), .val (.int vv), .val (.ref b194), .val (.int (1 : Int32))] []) := fun t kt => pre211 t (by
                show Steps p.tables e below (T200.setTop (mkF m 235 #[.val (.int qx), .val (.int qy), .val (.int qz), .val (.int wq), .val (.int sel), .val (.int r4), .val (.int r9), .val (.int mid), .val (.int (3 : Int32)), .val (.ref b158), .val (.int (sel &&& (7 : Int32))), .val (.int vv), .val (.ref b194), .unset] [(.int r9), (.int vv)])) _
                refine XS.icmpNo X200.here hx rfl (hb hby at_235) rfl (teq hc235_212).2 ?_
                show Steps p.tables e below (T200.setTop (mkF m 238 #[.val (.int qx), .val (.int qy), .val (.int qz), .val (.int wq), .val (.int sel), .val (.int r4), .val (.int r9), .val (.int mid), .val (.int (3 : Int32)), .val (.ref b158), .val (.int (sel &&& (7 : Int32))), .val (.int vv), .val (.ref b194), .unset] [])) _
                refine XS.iconst X200.here hx rfl (hb hby at_238) ?_
                show Steps p.tables e below (T200.setTop (mkF m 239 #[.val (.int qx), .val (.int qy), .val (.int qz), .val (.int wq), .val (.int sel), .val (.int r4), .val (.int r9), .val (.int mid), .val (.int (3 : Int32)), .val (.ref b158), .val (.int (sel &&& (7 : Int32))), .val (.int vv), .val (.ref b194), .unset] [(.int (1 : Int32))])) _
                refine XS.goto X200.here hx rfl (pc0 := 239) (pc' := 243) rfl (hb hby at_239) (by decide) (by decide) ?_
                show Steps p.tables e below (T200.setTop (mkF m 243 #[.val (.int qx), .val (.int qy), .val (.int qz), .val (.int wq), .val (.int sel), .val (.int r4), .val (.int r9), .val (.int mid), .val (.int (3 : Int32)), .val (.ref b158), .val (.int (sel &&& (7 : Int32))), .val (.int vv), .val (.ref b194), .unset] [(.int (1 : Int32))])) _
                refine XS.istore X200.here hx rfl (hb hby at_243) rfl (l' := #[.val (.int qx), .val (.int qy), .val (.int qz), .val (.int wq), .val (.int sel), .val (.int r4), .val (.int r9), .val (.int mid), .val (.int (3 : Int32)), .val (.ref b158), .val (.int (sel &&& (7 : Int32))), .val (.int vv), .val (.ref b194), .val (.int (1 : Int32))]) rfl ?_
                exact kt)
            exact ⟨(1 : Int32), (by simp [(show ¬ (r4 = vv) from fun q => hc209_206 q.symm), (show ¬ (mid = vv) from fun q => hc222_209 q.symm), hc235_212.symm]), pre213⟩
          · -- no at pc 235: fffffffff
            have pre214 : Goes p e below s₁ (entryFrame m #[(.int qx), (.int qy), (.int qz), (.int wq), (.int sel)] maxLocals) T200 (mkF m 245 #[.val (.int qx), .val (.int qy), .val (.int qz), .val (.int wq), .val (.int sel), .val (.int r4), .val (.int r9), .val (.int mid), .val (.int (3 : Int32)), .val (.ref b158), .val (.int (sel &&& (7 : Int32))), .val (.int vv), .val (.ref b194), .val (.int (0 : Int32))] []) := fun t kt => pre211 t (by
                show Steps p.tables e below (T200.setTop (mkF m 235 #[.val (.int qx), .val (.int qy), .val (.int qz), .val (.int wq), .val (.int sel), .val (.int r4), .val (.int r9), .val (.int mid), .val (.int (3 : Int32)), .val (.ref b158), .val (.int (sel &&& (7 : Int32))), .val (.int vv), .val (.ref b194), .unset] [(.int r9), (.int vv)])) _
                refine XS.icmpYes X200.here hx rfl (pc0 := 235) (pc' := 242) rfl (hb hby at_235) rfl (feq hc235_212).2 (by decide) (by decide) ?_
                show Steps p.tables e below (T200.setTop (mkF m 242 #[.val (.int qx), .val (.int qy), .val (.int qz), .val (.int wq), .val (.int sel), .val (.int r4), .val (.int r9), .val (.int mid), .val (.int (3 : Int32)), .val (.ref b158), .val (.int (sel &&& (7 : Int32))), .val (.int vv), .val (.ref b194), .unset] [])) _
                refine XS.iconst X200.here hx rfl (hb hby at_242) ?_
                show Steps p.tables e below (T200.setTop (mkF m 243 #[.val (.int qx), .val (.int qy), .val (.int qz), .val (.int wq), .val (.int sel), .val (.int r4), .val (.int r9), .val (.int mid), .val (.int (3 : Int32)), .val (.ref b158), .val (.int (sel &&& (7 : Int32))), .val (.int vv), .val (.ref b194), .unset] [(.int (0 : Int32))])) _
                refine XS.istore X200.here hx rfl (hb hby at_243) rfl (l' := #[.val (.int qx), .val (.int qy), .val (.int qz), .val (.int wq), .val (.int sel), .val (.int r4), .val (.int r9), .val (.int mid), .val (.int (3 : Int32)), .val (.ref b158), .val (.int (sel &&& (7 : Int32))), .val (.int vv), .val (.ref b194), .val (.int (0 : Int32))]) rfl ?_
                exact kt)
            exact ⟨(0 : Int32), (by simp [(show ¬ (r4 = vv) from fun q => hc209_206 q.symm), (show ¬ (mid = vv) from fun q => hc222_209 q.symm), (show ¬ (r9 = vv) from fun q => hc235_212 q.symm)]), pre214⟩
    have pre215 : Goes p e below s₁ (entryFrame m #[(.int qx), (.int qy), (.int qz), (.int wq), (.int sel)] maxLocals) T200 (mkF m 249 #[.val (.int qx), .val (.int qy), .val (.int qz), .val (.int wq), .val (.int sel), .val (.int r4), .val (.int r9), .val (.int mid), .val (.int (3 : Int32)), .val (.ref b158), .val (.int (sel &&& (7 : Int32))), .val (.int vv), .val (.ref b194), .val (.int ex)] [(.int vv), (.ref b194)]) := fun t kt => pre204 t (by
        show Steps p.tables e below (T200.setTop (mkF m 245 #[.val (.int qx), .val (.int qy), .val (.int qz), .val (.int wq), .val (.int sel), .val (.int r4), .val (.int r9), .val (.int mid), .val (.int (3 : Int32)), .val (.ref b158), .val (.int (sel &&& (7 : Int32))), .val (.int vv), .val (.ref b194), .val (.int ex)] [])) _
        refine XS.aload X200.here hx rfl (hb hby at_245) rfl rfl ?_
        show Steps p.tables e below (T200.setTop (mkF m 247 #[.val (.int qx), .val (.int qy), .val (.int qz), .val (.int wq), .val (.int sel), .val (.int r4), .val (.int r9), .val (.int mid), .val (.int (3 : Int32)), .val (.ref b158), .val (.int (sel &&& (7 : Int32))), .val (.int vv), .val (.ref b194), .val (.int ex)] [(.ref b194)])) _
        refine XS.iload X200.here hx rfl (hb hby at_247) rfl ?_
        exact kt)
    obtain ⟨cq216, kq216, q216a, q216b, q216c⟩ := isOf hZ rfl ((A194.ext E197).keep K200q)
    obtain ⟨_, _, ⟨T216, L216, k216, n216⟩, -, X216, ⟨Lc216, hQ216, l216, y216, z216⟩, st216⟩ := X200.virtualBack hx (y := (⟨"com/example/ferry/ferry/FormatVersions", "reads", "(I)Z"⟩ : MethodName)) (z := (⟨"com/example/ferry/ferry/FormatVersions", "reads", "(I)Z"⟩ : MethodName)) hown (mvT hZ (hw _ (List.mem_of_getElem? (i := 38) rfl))) (mvT hZ (hw _ (List.mem_of_getElem? (i := 39) rfl))) (notFace_of_selects (args := #[]) (mvT hZ (hw _ (List.mem_of_getElem? (i := 41) rfl)))) (mvT hZ (hw _ (List.mem_of_getElem? (i := 41) rfl))) (mvT hZ (hw _ (List.mem_of_getElem? (i := 40) rfl))) (by decide) (backOf (W := 0) (own_reads3 l Z a0 hw [] b194 vv t200 k158 r4 mid r9 ex T200.heap n0 (Nat.le_trans (Nat.le_trans (Nat.le_trans (Nat.le_trans (Nat.le_trans (Nat.le_trans (Nat.le_trans Z0 E158.1) (Keep.of_wr W162).1) (Keep.of_wr W166).1) (Keep.of_wr W170).1) E194.1) E197.1) K200q.1) Fv200 Vt200 hex) hZ (hw _ (List.mem_of_getElem? (i := 42) rfl)) (hw _ (List.mem_of_getElem? (i := 10) rfl)) (by decide) (by decide)) q216a q216c (g := (mkF m 249 #[.val (.int qx), .val (.int qy), .val (.int qz), .val (.int wq), .val (.int sel), .val (.int r4), .val (.int r9), .val (.int mid), .val (.int (3 : Int32)), .val (.ref b158), .val (.int (sel &&& (7 : Int32))), .val (.int vv), .val (.ref b194), .val (.int ex)] [(.int vv), (.ref b194)])) rfl (by rw [hml]; rfl) (Steps.refl _) (argsL := [(.int vv)]) (rest := []) (lenOf own_pd2 rfl) rfl (by show 2 * 0 + _ ≤ _; exact Nat.le_of_eq rfl) (hb hby at_249) (fun _ _ => ⟨rfl, rfl, (by decide : 5 + 0 ≤ _), (by decide : 68 + 0 ≤ _)⟩)
    dsimp only [Pt.U, Pt.locs, Pt.cells, Pt.slots] at X216 l216 y216 z216 st216 hQ216
    subst l216 y216 z216
    obtain ⟨rfl, N216q, e216⟩ := hQ216
    have N216 := Fr.app N200 N216q
    have pre217 : Goes p e below s₁ (entryFrame m #[(.int qx), (.int qy), (.int qz), (.int wq), (.int sel)] maxLocals) T216 (mkF m 252 #[.val (.int qx), .val (.int qy), .val (.int qz), .val (.int wq), .val (.int sel), .val (.int r4), .val (.int r9), .val (.int mid), .val (.int (3 : Int32)), .val (.ref b158), .val (.int (sel &&& (7 : Int32))), .val (.int vv), .val (.ref b194), .val (.int ex)] [(.int ex)]) := fun t kt => pre215 t (st216.trans kt)
    have pre218 : Goes p e below s₁ (entryFrame m #[(.int qx), (.int qy), (.int qz), (.int wq), (.int sel)] maxLocals) T216 (mkF m 262 #[.val (.int qx), .val (.int qy), .val (.int qz), .val (.int wq), .val (.int sel), .val (.int r4), .val (.int r9), .val (.int mid), .val (.int (3 : Int32)), .val (.ref b158), .val (.int (sel &&& (7 : Int32))), .val (.int vv), .val (.ref b194), .val (.int ex)] [(.int (1 : Int32))]) := fun t kt => pre217 t (by
        show Steps p.tables e below (T216.setTop (mkF m 252 #[.val (.int qx), .val (.int qy), .val (.int qz), .val (.int wq), .val (.int sel), .val (.int r4), .val (.int r9), .val (.int mid), .val (.int (3 : Int32)), .val (.ref b158), .val (.int (sel &&& (7 : Int32))), .val (.int vv), .val (.ref b194), .val (.int ex)] [(.int ex)])) _
        refine XS.iload X216.here hx rfl (hb hby at_252) rfl ?_
        show Steps p.tables e below (T216.setTop (mkF m 254 #[.val (.int qx), .val (.int qy), .val (.int qz), .val (.int wq), .val (.int sel), .val (.int r4), .val (.int r9), .val (.int mid), .val (.int (3 : Int32)), .val (.ref b158), .val (.int (sel &&& (7 : Int32))), .val (.int vv), .val (.ref b194), .val (.int ex)] [(.int ex), (.int ex)])) _
        refine XS.icmpNo X216.here hx rfl (hb hby at_254) rfl (teq (rfl : ex = ex)).2 ?_
        show Steps p.tables e below (T216.setTop (mkF m 257 #[.val (.int qx), .val (.int qy), .val (.int qz), .val (.int wq), .val (.int sel), .val (.int r4), .val (.int r9), .val (.int mid), .val (.int (3 : Int32)), .val (.ref b158), .val (.int (sel &&& (7 : Int32))), .val (.int vv), .val (.ref b194), .val (.int ex)] [])) _
        refine XS.iconst X216.here hx rfl (hb hby at_257) ?_
        show Steps p.tables e below (T216.setTop (mkF m 258 #[.val (.int qx), .val (.int qy), .val (.int qz), .val (.int wq), .val (.int sel), .val (.int r4), .val (.int r9), .val (.int mid), .val (.int (3 : Int32)), .val (.ref b158), .val (.int (sel &&& (7 : Int32))), .val (.int vv), .val (.ref b194), .val (.int ex)] [(.int (1 : Int32))])) _
        refine XS.goto X216.here hx rfl (pc0 := 258) (pc' := 262) rfl (hb hby at_258) (by decide) (by decide) ?_
        exact kt)
    obtain ⟨fs, hr, hrun, hended, hEnd⟩ := X216.leaveW hS197 (by rw [e216]; exact (Nat.le_trans hk197 K200q.1)) (v := some (.int (1 : Int32))) (fun h => by rw [Bd.returns] at h; cases h)
    refine ⟨_, _, pre218 _ ?_, hrun, hended, _, _, rfl, ?_, hEnd.1, hEnd.2.1, hEnd.2.2.1, hEnd.2.2.2.mono (by decide) (by decide)⟩
    · show Steps p.tables e below (T216.setTop (mkF m 262 #[.val (.int qx), .val (.int qy), .val (.int qz), .val (.int wq), .val (.int sel), .val (.int r4), .val (.int r9), .val (.int mid), .val (.int (3 : Int32)), .val (.ref b158), .val (.int (sel &&& (7 : Int32))), .val (.int vv), .val (.ref b194), .val (.int ex)] [(.int (1 : Int32))])) _
      exact retN X216 hx (t := .boolean) Bd.returns (by simp) (hb hby at_262) hr
    · show Q_own_rm0 Z qx qy qz wq sel h0 n0 _ T216.heap _
      rw [e216]
      exact ⟨rfl, N216⟩
set_option maxRecDepth 65536 in
set_option maxHeartbeats 40000000 in
theorem comes_1 {Post : Tables → Env → Array Value → State → Outcome → State → Prop} (hpost : ∀ tb e args s v u, (limb_1_1.after args s (.returned v) u = true ∧ limb_1_2.after args s (.returned v) u = true ∧ True) → ReturnedEndW s (.returned v) u (Jvm.fieldLocs frame_1_writes args s ++ Jvm.arrayLocs frame_1_arrays args s ++ Jvm.staticLocs frame_1_statics s) 16 1152 → Post tb e args s (.returned v) u) :
    ArmFor flags0 classFile x code maxLocals ret World_1 tables_1 room_1 Calls_1 rest_1 Pre_1 Post := by
  intro l hfl _ _ p e ha hc hk s m args below hf hA hF happ hP
  obtain ⟨hcalls, hrest, hpre⟩ := hP
  obtain ⟨-, -, -, hnamed, -, -, -, hat⟩ := (Spec.applies_iff hf).mp happ
  obtain ⟨hg, hn⟩ := and_e (Cond.before_iff.mp (show (Jvm.Cond.and given_1 narrow_1).before args s = true from hpre))
  obtain ⟨g5, g6⟩ := and_e hg
  obtain ⟨g7, g8⟩ := and_e g6
  obtain ⟨g9, g10⟩ := and_e g8
  obtain ⟨g11, g12⟩ := and_e g10
  obtain ⟨g13, g14⟩ := and_e g12
  obtain ⟨w0, w1, w2, w3, w4, rfl⟩ : ∃ w0 w1 w2 w3 w4 : Value, args = #[w0, w1, w2, w3, w4] := by
    have hs : args.size = 5 := by simpa [Cond.value, given_1] using g5
    obtain ⟨L⟩ := args
    match L, hs with
    | [w0, w1, w2, w3, w4], _ => exact ⟨w0, w1, w2, w3, w4, rfl⟩
  have hw := fun d (hd : d ∈ tables_1) => atoms_spec (ws := Jvm.Cond.code x code maxLocals ret :: tables_1) hat d (List.mem_cons_of_mem _ hd)
  have hfit : Fit s := fun {y c} hc i hi => by
    obtain ⟨ha, rfl⟩ := Array.getElem?_eq_some_iff.mp hc
    have q := List.all_eq_true.mp ((Array.all_eq_true_iff_forall_mem.mp hF) _ (Array.getElem_mem ha)) i (List.mem_range.mpr hi)
    simpa [Array.getElem?_eq_getElem hi] using q
  obtain ⟨i0, ei0⟩ := is_v g7
  obtain rfl : w0 = (.int i0) := Option.some.inj ei0
  obtain ⟨i1, ei1⟩ := is_v g9
  obtain rfl : w1 = (.int i1) := Option.some.inj ei1
  obtain ⟨i2, ei2⟩ := is_v g11
  obtain rfl : w2 = (.int i2) := Option.some.inj ei2
  obtain ⟨i3, ei3⟩ := is_v g13
  obtain rfl : w3 = (.int i3) := Option.some.inj ei3
  obtain ⟨i4, ei4⟩ := is_v g14
  obtain rfl : w4 = (.int i4) := Option.some.inj ei4
  obtain ⟨n, o, h1, h2, h3, _, L, rfl, ⟨rfl, N⟩, hq⟩ := own_rm0 l s _ hw tables_1 i0 i1 i2 i3 i4  s.heap s.heap.size (Nat.le_refl _)  p e ha hc hk s m _ below hf ((Spec.applies_iff_loose hf).mp happ).1 ⟨rfl, State.Warmed39.refl s, rfl⟩ trivial
  refine ⟨n, _, h1, h2, h3, hpost _ _ _ _ _ _ ⟨Cond.after_iff.mpr rfl, Cond.after_iff.mpr (eq_i res_at (Term.int_eval (1)) rfl), trivial⟩ ⟨hq.1, hq.2.1, hq.2.2.1, (hq.2.2.2.sift fun y hy => Or.inr (N y hy)).mono (by decide) (by decide)⟩⟩
theorem main_1_1 : Claimed_1_1 := comes_1 fun _ _ _ _ _ _ h hF => ⟨h.1, hF⟩
theorem main_1_2 : Claimed_1_2 := comes_1 fun _ _ _ _ _ _ h hF => ⟨h.2.1, hF⟩
end Jvm.Pilot.@@N@@
namespace Jvm.Pilot.@@N@@
open Jvm Jvm.ClassFile Sem Op Lib Jvm.Free Jvm.Stand Jvm.Pilot.@@N@@.Jvm.D
/-! MADE BY PROGRAM (witnessworld.py) out of the Statement's table words and the real class files: 15 classes; the members and pool entries that the words name. The judged class is class 1, her method 1. -/
namespace start1
open Jvm.ClassFile
def u (s : String) : CpInfo := .utf8 (stringToUtf16 s)
/-- a pool by its gaps: so many unusable entries, then the entry; so many at the end -/
def gap : Nat → List CpInfo → List CpInfo
  | 0, r => r
  | n + 1, r => .unusable :: gap n r
def poolList (es : List (Nat × CpInfo)) (last : Nat) : List CpInfo := es.foldr (fun e r => gap e.1 (e.2 :: r)) (gap last [])
def pool (es : List (Nat × CpInfo)) (last : Nat) : Array CpInfo := ⟨poolList es last⟩
def fileOf (pool : Array CpInfo) (this : Nat) (attrs : Array Attribute := #[]) (ms : Array MethodInfo := #[]) (fl : Nat := 33) (sup : Nat := 0) (ifs : Array Nat := #[]) (fds : Array FieldInfo := #[]) : ClassFile where
  minorVersion := 0
  majorVersion := 65
  constantPool := pool
  accessFlags := fl
  thisClass := this
  superClass := sup
  interfaces := ifs
  fields := fds
  methods := ms
  attributes := attrs
def plain (name : String) (sup : Option ClassId) : Class where
  name := name
  kind := .ordinary
  loader := none
  accessFlags := 33
  super := sup
  interfaces := #[]
  cf := none
  fields := #[]
  methods := #[]
  instanceTypes := #[]
  staticTypes := #[]
  resolved := #[]
  callSites := []
  init := .initialized
  statics := none
  mirror := none

def pool0 : Array CpInfo := pool [(5, u "<init>"), (0, u "()V"), (1, .class_ 10), (1, u "java/lang/Object"), (85, u "clone"), (0, u "()Ljava/lang/Object;")] 26

def k0c0 : Code := { maxStack := 0, maxLocals := 1, code := object_method_1_code, exceptionTable := #[], attributes := #[] }
def k0m0 : Method := { name := "<init>", desc := "()V", sig := { parameters := [], returnType := none }, accessFlags := 1, code := some k0c0 }
def k0m1 : Method := { name := "clone", desc := "()Ljava/lang/Object;", sig := { parameters := [], returnType := some (.object "java/lang/Object") }, accessFlags := 260, code := none }
/-- java/lang/Object -/
def k0 : Class := { plain "java/lang/Object" none with
  accessFlags := 33
  interfaces := #[]
  cf := some (fileOf pool0 8 #[] #[{ accessFlags := 1, nameIndex := 5, descriptorIndex := 6, attributes := #[] }, { accessFlags := 260, nameIndex := 96, descriptorIndex := 97, attributes := #[] }] 33 0 #[] #[])
  fields := #[]
  methods := #[k0m0, k0m1]
  instanceTypes := #[]
  staticTypes := #[]
  resolved := Array.replicate 124 none
  statics := none }

def pool1 : Array CpInfo := pool [(2, .class_ 4), (1, u "java/lang/Object"), (0, u "<init>"), (0, u "()V"), (0, .methodref 8 9), (0, .class_ 10), (0, .nameAndType 11 12), (0, u "java/lang/Math"), (0, u "min"), (0, u "(II)I"), (0, .methodref 8 14), (0, .nameAndType 15 12), (0, u "max"), (0, .class_ 17), (0, u "com/example/ferry/ferry/FormatVersions"), (0, .string 19), (0, u "header version"), (0, .methodref 16 21), (0, .nameAndType 5 22), (0, u "(Ljava/lang/String;[I)V"), (0, .methodref 16 24), (0, .nameAndType 25 26), (0, u "reads"), (0, u "(I)Z"), (0, .class_ 28), (0, u "com/example/ferry/ferry/FormatVersionsReadsPinLaw"), (2, u "law"), (0, u "(IIIII)Z")] 5

def k1m0 : Method := { name := "<init>", desc := "()V", sig := { parameters := [], returnType := none }, accessFlags := 1, code := none }
def k1c1 : Code := { maxStack := 4, maxLocals := 14, code := code, exceptionTable := #[], attributes := #[] }
def k1m1 : Method := { name := "law", desc := "(IIIII)Z", sig := { parameters := [.int, .int, .int, .int, .int], returnType := some .boolean }, accessFlags := 9, code := some k1c1 }
/-- com/example/ferry/ferry/FormatVersionsReadsPinLaw -/
def k1 : Class := { plain "com/example/ferry/ferry/FormatVersionsReadsPinLaw" (some 0) with
  accessFlags := 49
  interfaces := #[]
  cf := some (fileOf pool1 27 #[] #[{ accessFlags := 1, nameIndex := 5, descriptorIndex := 6, attributes := #[] }, { accessFlags := 9, nameIndex := 31, descriptorIndex := 32, attributes := #[] }] 49 2 #[] #[])
  fields := #[]
  methods := #[k1m0, k1m1]
  instanceTypes := #[]
  staticTypes := #[]
  resolved := Array.replicate 38 none
  statics := none }

def pool2 : Array CpInfo := pool [(1, .class_ 2), (0, u "java/lang/Math"), (1, .class_ 6), (1, u "java/lang/Object"), (0, u "<init>"), (0, u "()V"), (89, .class_ 100), (1, u "java/lang/Math$RandomNumberGeneratorHolder"), (71, u "negativeZeroFloatBits"), (0, u "J"), (2, u "negativeZeroDoubleBits"), (21, u "max"), (2, u "min"), (43, u "$assertionsDisabled"), (0, u "Z"), (88, u "(II)I"), (2, u "twoToTheDoubleScaleDown"), (0, u "D"), (4, u "twoToTheDoubleScaleUp"), (9, u "E"), (3, u "PI"), (2, u "TAU"), (2, u "DEGREES_TO_RADIANS"), (0, u "RADIANS_TO_DEGREES")] 94

def k2m0 : Method := { name := "<init>", desc := "()V", sig := { parameters := [], returnType := none }, accessFlags := 2, code := none }
def k2c1 : Code := { maxStack := 2, maxLocals := 2, code := jdk_29_method_65_code, exceptionTable := #[], attributes := #[] }
def k2m1 : Method := { name := "max", desc := "(II)I", sig := { parameters := [.int, .int], returnType := some .int }, accessFlags := 9, code := some k2c1 }
def k2c2 : Code := { maxStack := 2, maxLocals := 2, code := jdk_29_method_69_code, exceptionTable := #[], attributes := #[] }
def k2m2 : Method := { name := "min", desc := "(II)I", sig := { parameters := [.int, .int], returnType := some .int }, accessFlags := 9, code := some k2c2 }
/-- java/lang/Math -/
def k2 : Class := { plain "java/lang/Math" (some 0) with
  accessFlags := 49
  interfaces := #[]
  cf := some (fileOf pool2 1 #[.nestMembers #[98]] #[{ accessFlags := 2, nameIndex := 7, descriptorIndex := 8, attributes := #[] }, { accessFlags := 9, nameIndex := 198, descriptorIndex := 335, attributes := #[] }, { accessFlags := 9, nameIndex := 201, descriptorIndex := 335, attributes := #[] }] 49 4 #[] #[{ accessFlags := 25, nameIndex := 354, descriptorIndex := 339, attributes := #[] }, { accessFlags := 25, nameIndex := 358, descriptorIndex := 339, attributes := #[] }, { accessFlags := 25, nameIndex := 361, descriptorIndex := 339, attributes := #[] }, { accessFlags := 26, nameIndex := 364, descriptorIndex := 339, attributes := #[] }, { accessFlags := 26, nameIndex := 365, descriptorIndex := 339, attributes := #[] }, { accessFlags := 26, nameIndex := 172, descriptorIndex := 173, attributes := #[] }, { accessFlags := 26, nameIndex := 176, descriptorIndex := 173, attributes := #[] }, { accessFlags := 8, nameIndex := 344, descriptorIndex := 339, attributes := #[] }, { accessFlags := 8, nameIndex := 338, descriptorIndex := 339, attributes := #[] }, { accessFlags := 4120, nameIndex := 245, descriptorIndex := 246, attributes := #[] }])
  fields := #[{ name := "E", type := .double, accessFlags := 25, slot := 0, constantValue := 0 }, { name := "PI", type := .double, accessFlags := 25, slot := 1, constantValue := 0 }, { name := "TAU", type := .double, accessFlags := 25, slot := 2, constantValue := 0 }, { name := "DEGREES_TO_RADIANS", type := .double, accessFlags := 26, slot := 3, constantValue := 0 }, { name := "RADIANS_TO_DEGREES", type := .double, accessFlags := 26, slot := 4, constantValue := 0 }, { name := "negativeZeroFloatBits", type := .long, accessFlags := 26, slot := 5, constantValue := 0 }, { name := "negativeZeroDoubleBits", type := .long, accessFlags := 26, slot := 6, constantValue := 0 }, { name := "twoToTheDoubleScaleUp", type := .double, accessFlags := 8, slot := 7, constantValue := 0 }, { name := "twoToTheDoubleScaleDown", type := .double, accessFlags := 8, slot := 8, constantValue := 0 }, { name := "$assertionsDisabled", type := .boolean, accessFlags := 4120, slot := 9, constantValue := 0 }]
  methods := #[k2m0, k2m1, k2m2]
  instanceTypes := #[]
  staticTypes := #[.double, .double, .double, .double, .double, .long, .long, .double, .double, .boolean]
  resolved := Array.replicate 460 none
  statics := none }

def pool3 : Array CpInfo := pool [(1, .methodref 2 3), (0, .class_ 4), (0, .nameAndType 5 6), (0, u "java/lang/Object"), (0, u "<init>"), (0, u "()V"), (0, .fieldref 8 9), (0, .class_ 10), (0, .nameAndType 11 12), (0, u "com/example/ferry/ferry/FormatVersions"), (0, u "name"), (0, u "Ljava/lang/String;"), (0, .methodref 14 15), (0, .class_ 16), (0, .nameAndType 17 18), (0, u "[I"), (0, u "clone"), (0, u "()Ljava/lang/Object;"), (0, .fieldref 8 20), (0, .nameAndType 21 16), (0, u "versions"), (32, u "(Ljava/lang/String;[I)V"), (2, u "reads"), (0, u "(I)Z")] 5

def k3c0 : Code := { maxStack := 2, maxLocals := 3, code := prog_3_method_1_code, exceptionTable := #[], attributes := #[] }
def k3m0 : Method := { name := "<init>", desc := "(Ljava/lang/String;[I)V", sig := { parameters := [(.object "java/lang/String"), (.array .int)], returnType := none }, accessFlags := 129, code := some k3c0 }
def k3c1 : Code := { maxStack := 2, maxLocals := 6, code := prog_3_method_2_code, exceptionTable := #[], attributes := #[] }
def k3m1 : Method := { name := "reads", desc := "(I)Z", sig := { parameters := [.int], returnType := some .boolean }, accessFlags := 1, code := some k3c1 }
/-- com/example/ferry/ferry/FormatVersions -/
def k3 : Class := { plain "com/example/ferry/ferry/FormatVersions" (some 0) with
  accessFlags := 33
  interfaces := #[]
  cf := some (fileOf pool3 8 #[] #[{ accessFlags := 129, nameIndex := 5, descriptorIndex := 54, attributes := #[] }, { accessFlags := 1, nameIndex := 57, descriptorIndex := 58, attributes := #[] }] 33 2 #[] #[{ accessFlags := 18, nameIndex := 11, descriptorIndex := 12, attributes := #[] }, { accessFlags := 18, nameIndex := 21, descriptorIndex := 16, attributes := #[] }])
  fields := #[{ name := "name", type := (.object "java/lang/String"), accessFlags := 18, slot := 0, constantValue := 0 }, { name := "versions", type := (.array .int), accessFlags := 18, slot := 1, constantValue := 0 }]
  methods := #[k3m0, k3m1]
  instanceTypes := #[(.object "java/lang/String"), (.array .int)]
  staticTypes := #[]
  resolved := Array.replicate 64 none
  statics := none }

def pool4 : Array CpInfo := pool [(1, .class_ 2), (0, u "java/io/Serializable"), (0, .class_ 4), (0, u "java/lang/Object")] 2

/-- java/io/Serializable -/
def k4 : Class := { plain "java/io/Serializable" (some 0) with
  accessFlags := 1537
  interfaces := #[]
  cf := some (fileOf pool4 1 #[] #[] 1537 3 #[] #[])
  fields := #[]
  methods := #[]
  instanceTypes := #[]
  staticTypes := #[]
  resolved := Array.replicate 7 none
  statics := none }

def pool5 : Array CpInfo := pool [(1, .class_ 2), (0, u "java/lang/Comparable"), (0, .class_ 4), (0, u "java/lang/Object")] 7

/-- java/lang/Comparable -/
def k5 : Class := { plain "java/lang/Comparable" (some 0) with
  accessFlags := 1537
  interfaces := #[]
  cf := some (fileOf pool5 1 #[] #[] 1537 3 #[] #[])
  fields := #[]
  methods := #[]
  instanceTypes := #[]
  staticTypes := #[]
  resolved := Array.replicate 12 none
  statics := none }

def pool6 : Array CpInfo := pool [(2, .class_ 4), (1, u "java/lang/CharSequence"), (42, .class_ 48), (0, u "java/lang/CharSequence$1CodePointIterator"), (10, .class_ 60), (0, u "java/lang/CharSequence$1CharIterator"), (5, .class_ 67), (0, u "java/lang/Object")] 63

/-- java/lang/CharSequence -/
def k6 : Class := { plain "java/lang/CharSequence" (some 0) with
  accessFlags := 1537
  interfaces := #[]
  cf := some (fileOf pool6 2 #[.nestMembers #[47, 59]] #[] 1537 66 #[] #[])
  fields := #[]
  methods := #[]
  instanceTypes := #[]
  staticTypes := #[]
  resolved := Array.replicate 131 none
  statics := none }

def pool7 : Array CpInfo := pool [(1, .class_ 2), (0, u "java/lang/constant/Constable"), (0, .class_ 4), (0, u "java/lang/Object")] 6

/-- java/lang/constant/Constable -/
def k7 : Class := { plain "java/lang/constant/Constable" (some 0) with
  accessFlags := 1537
  interfaces := #[]
  cf := some (fileOf pool7 1 #[] #[] 1537 3 #[] #[])
  fields := #[]
  methods := #[]
  instanceTypes := #[]
  staticTypes := #[]
  resolved := Array.replicate 11 none
  statics := none }

def pool8 : Array CpInfo := pool [(1, .class_ 2), (0, u "java/lang/constant/ConstantDesc"), (0, .class_ 4), (0, u "java/lang/Object")] 32

/-- java/lang/constant/ConstantDesc -/
def k8 : Class := { plain "java/lang/constant/ConstantDesc" (some 0) with
  accessFlags := 1537
  interfaces := #[]
  cf := some (fileOf pool8 1 #[] #[] 1537 3 #[] #[])
  fields := #[]
  methods := #[]
  instanceTypes := #[]
  staticTypes := #[]
  resolved := Array.replicate 37 none
  statics := none }

def pool9 : Array CpInfo := pool [(2, .class_ 4), (1, u "java/lang/Object"), (0, u "<init>"), (0, u "()V"), (3, .class_ 12), (1, u "java/lang/String"), (0, u "value"), (0, u "[B"), (2, u "coder"), (0, u "B"), (2, u "hash"), (0, u "I"), (2, u "hashIsZero"), (0, u "Z"), (13, u "COMPACT_STRINGS"), (534, .class_ 576), (0, u "java/lang/CharSequence"), (22, u "CASE_INSENSITIVE_ORDER"), (0, u "Ljava/util/Comparator;"), (500, u "serialPersistentFields"), (0, u "[Ljava/io/ObjectStreamField;"), (0, .class_ 1104), (0, u "java/lang/String$CaseInsensitiveComparator"), (1, .class_ 1107), (0, u "java/io/Serializable"), (0, .class_ 1109), (0, u "java/lang/Comparable"), (0, .class_ 1111), (0, u "java/lang/constant/Constable"), (0, .class_ 1113), (0, u "java/lang/constant/ConstantDesc"), (2, u "serialVersionUID"), (0, u "J"), (3, u "REPL"), (0, u "C"), (2, u "LATIN1"), (1, u "UTF16")] 323

def k9m0 : Method := { name := "<init>", desc := "()V", sig := { parameters := [], returnType := none }, accessFlags := 1, code := none }
/-- java/lang/String -/
def k9 : Class := { plain "java/lang/String" (some 0) with
  accessFlags := 49
  interfaces := #[4, 5, 6, 7, 8]
  cf := some (fileOf pool9 10 #[.nestMembers #[1103]] #[{ accessFlags := 1, nameIndex := 5, descriptorIndex := 6, attributes := #[] }] 49 2 #[1106, 1108, 575, 1110, 1112] #[{ accessFlags := 18, nameIndex := 13, descriptorIndex := 14, attributes := #[] }, { accessFlags := 18, nameIndex := 17, descriptorIndex := 18, attributes := #[] }, { accessFlags := 2, nameIndex := 21, descriptorIndex := 22, attributes := #[] }, { accessFlags := 2, nameIndex := 25, descriptorIndex := 26, attributes := #[] }, { accessFlags := 26, nameIndex := 1116, descriptorIndex := 1117, attributes := #[] }, { accessFlags := 24, nameIndex := 40, descriptorIndex := 26, attributes := #[] }, { accessFlags := 26, nameIndex := 1101, descriptorIndex := 1102, attributes := #[] }, { accessFlags := 26, nameIndex := 1121, descriptorIndex := 1122, attributes := #[] }, { accessFlags := 25, nameIndex := 599, descriptorIndex := 600, attributes := #[] }, { accessFlags := 24, nameIndex := 1125, descriptorIndex := 18, attributes := #[] }, { accessFlags := 24, nameIndex := 1127, descriptorIndex := 18, attributes := #[] }])
  fields := #[{ name := "value", type := (.array .byte), accessFlags := 18, slot := 0, constantValue := 0 }, { name := "coder", type := .byte, accessFlags := 18, slot := 1, constantValue := 0 }, { name := "hash", type := .int, accessFlags := 2, slot := 2, constantValue := 0 }, { name := "hashIsZero", type := .boolean, accessFlags := 2, slot := 3, constantValue := 0 }, { name := "serialVersionUID", type := .long, accessFlags := 26, slot := 0, constantValue := 0 }, { name := "COMPACT_STRINGS", type := .boolean, accessFlags := 24, slot := 1, constantValue := 0 }, { name := "serialPersistentFields", type := (.array (.object "java/io/ObjectStreamField")), accessFlags := 26, slot := 2, constantValue := 0 }, { name := "REPL", type := .char, accessFlags := 26, slot := 3, constantValue := 0 }, { name := "CASE_INSENSITIVE_ORDER", type := (.object "java/util/Comparator"), accessFlags := 25, slot := 4, constantValue := 0 }, { name := "LATIN1", type := .byte, accessFlags := 24, slot := 5, constantValue := 0 }, { name := "UTF16", type := .byte, accessFlags := 24, slot := 6, constantValue := 0 }]
  methods := #[k9m0]
  instanceTypes := #[(.array .byte), .byte, .int, .boolean]
  staticTypes := #[.long, .boolean, (.array (.object "java/io/ObjectStreamField")), .char, (.object "java/util/Comparator"), .byte, .byte]
  resolved := Array.replicate 1451 none
  statics := none }

def pool10 : Array CpInfo := pool [(1, .class_ 2), (0, u "java/lang/Cloneable"), (0, .class_ 4), (0, u "java/lang/Object")] 2

/-- java/lang/Cloneable -/
def k10 : Class := { plain "java/lang/Cloneable" (some 0) with
  accessFlags := 1537
  interfaces := #[]
  cf := some (fileOf pool10 1 #[] #[] 1537 3 #[] #[])
  fields := #[]
  methods := #[]
  instanceTypes := #[]
  staticTypes := #[]
  resolved := Array.replicate 7 none
  statics := none }

/-- the primitive byte -/
def k11 : Class := { plain "byte" none with kind := .primitive 'B', accessFlags := 0x411 }
/-- [B -/
def k12 : Class := { plain "[B" (some 0) with kind := .array 11 .byte, interfaces := #[10, 4], accessFlags := 1041 }

/-- the primitive int -/
def k13 : Class := { plain "int" none with kind := .primitive 'I', accessFlags := 0x411 }
/-- [I -/
def k14 : Class := { plain "[I" (some 0) with kind := .array 13 .int, interfaces := #[10, 4], accessFlags := 1041 }

def heap : Heap := #[]
def classes : Array Class := #[k0, k1, k2, k3, k4, k5, k6, k7, k8, k9, k10, k11, k12, k13, k14]
def interned : List (Array UInt16 × Addr) := []
def slotsUsed : Nat := 0
def theMethod : MethodId := ⟨1, 1⟩
def args0 : Array Value := #[.int 3, .int 5, .int 7, .int 9, .int 11]
def aboutOver (below : List Frame) : State where
  vm := { classes := classes, interned := interned.toArray }
  heap := heap
  slotsUsed := slotsUsed
  threads := #[{ frames := .invoking theMethod args0 :: below }]
def below0 : List Frame := [.native { method := ⟨0, 0⟩, args := #[] }]
def about1 : State := aboutOver below0
def p0 : Program := .bare "" "" ""
def e0 : Env := launch0.env 0 0 0
theorem w_frames : about1.frames = Frame.invoking theMethod args0 :: below0 := rfl
set_option maxRecDepth 65536 in
theorem w_args : argsFit about1.vm theMethod args0 = true := by decide +kernel
set_option maxRecDepth 65536 in
theorem w_heap : heapFits about1 = true := by decide +kernel
set_option maxRecDepth 65536 in
theorem w_runnable : about1.curStatus? = some .runnable := by decide +kernel
set_option maxRecDepth 65536 in
theorem w_alone : about1.alone = true := by decide +kernel
set_option maxRecDepth 65536 in
theorem w_named : about1.methodNamed? x = some theMethod := by decide +kernel
set_option maxRecDepth 65536 in
theorem w_hears : about1.hears theMethod below0 = true := by decide +kernel
set_option maxRecDepth 65536 in
theorem w_ripe : about1.ripe theMethod args0 below0 = true := by decide +kernel
theorem w_running : about1.status = .running := rfl
set_option maxRecDepth 65536 in
theorem w_room : about1.hasRoom e0.platform room_1 = true :=
  launch0.hasRoom_least _ room_1 (by decide +kernel) (by decide +kernel) (by decide +kernel) (by decide +kernel) (by decide +kernel) (by decide +kernel)
theorem allAtoms_all (ts : List Jvm.Cond) (a : Array Jvm.Value) (st : Jvm.State) : (allAtoms ts).before a st = ts.all (fun c => c.before a st) := by
  induction ts with
  | nil => rfl
  | cons c t ih =>
    show (Jvm.Cond.and c (allAtoms t)).before a st = _
    rw [Jvm.Cond.before_and, ih, List.all_cons]
def words1 : List Jvm.Cond := Jvm.Cond.code x code maxLocals ret :: tables_1
/-- a 'code' word, met by the world's own term for the bytes: nothing is compared byte by byte -/
theorem code_word {y : MethodName} {bytes : ByteArray} {mx : Nat} {rt : Option FieldType} {a : Array Value} {s : State} {m : MethodId} {meth : Method} {c : Code} (h1 : s.methodNamed? y = some m) (h2 : s.vm.method? m = some meth) (h3 : meth.code = some c) (h4 : c.code = bytes)
    (h5 : (c.maxLocals == mx && c.exceptionTable.isEmpty && decide (c.maxStack ≤ mostOperands) && decide (meth.sig.returnType = rt) && !meth.locks && decide (parseMethodDescriptor y.desc = some meth.sig)) = true) : (Jvm.Cond.code y bytes mx rt).before a s = true := by
  simp only [Bool.and_eq_true, beq_iff_eq, Bool.not_eq_true', decide_eq_true_eq] at h5
  obtain ⟨⟨⟨⟨⟨g1, g2⟩, g3⟩, g4⟩, g5⟩, g6⟩ := h5
  simp [Cond.before, Cond.holds, Cond.value, h1, h2, h3, h4, g1, g2, g3, g4, g5, g6]
def isCode : Jvm.Cond → Bool
  | .code _ _ _ _ => true
  | _ => false
theorem all_split {L : List Jvm.Cond} {P : Jvm.Cond → Bool} (h1 : L.all (fun c => isCode c || P c) = true) (h2 : ∀ c ∈ L.filter isCode, P c = true) : L.all P = true := by
  refine List.all_eq_true.mpr fun c hc => ?_
  have h := List.all_eq_true.mp h1 c hc
  rcases Bool.eq_false_or_eq_true (isCode c) with hi | hi
  · exact h2 c (List.mem_filter.mpr ⟨hc, hi⟩)
  · simpa [hi] using h
set_option maxRecDepth 65536 in
theorem w_c0 : (Jvm.Cond.code x code maxLocals ret).before args0 about1 = true := code_word (m := ⟨1, 1⟩) (meth := k1m1) (c := k1c1) (by decide +kernel) rfl rfl rfl (by decide +kernel)
set_option maxRecDepth 65536 in
theorem w_c1 : (Jvm.Cond.code ({ cls := "java/lang/Math", name := "min", desc := "(II)I" } : Jvm.MethodName) jdk_29_method_69_code (2 : Nat) (Option.some Jvm.ClassFile.FieldType.int)).before args0 about1 = true := code_word (m := ⟨2, 2⟩) (meth := k2m2) (c := k2c2) (by decide +kernel) rfl rfl rfl (by decide +kernel)
set_option maxRecDepth 65536 in
theorem w_c2 : (Jvm.Cond.code ({ cls := "java/lang/Math", name := "max", desc := "(II)I" } : Jvm.MethodName) jdk_29_method_65_code (2 : Nat) (Option.some Jvm.ClassFile.FieldType.int)).before args0 about1 = true := code_word (m := ⟨2, 1⟩) (meth := k2m1) (c := k2c1) (by decide +kernel) rfl rfl rfl (by decide +kernel)
set_option maxRecDepth 65536 in
theorem w_c3 : (Jvm.Cond.code ({ cls := "com/example/ferry/ferry/FormatVersions", name := "<init>", desc := "(Ljava/lang/String;[I)V" } : Jvm.MethodName) prog_3_method_1_code (3 : Nat) (Option.none : Option Jvm.ClassFile.FieldType)).before args0 about1 = true := code_word (m := ⟨3, 0⟩) (meth := k3m0) (c := k3c0) (by decide +kernel) rfl rfl rfl (by decide +kernel)
set_option maxRecDepth 65536 in
theorem w_c4 : (Jvm.Cond.code ({ cls := "java/lang/Object", name := "<init>", desc := "()V" } : Jvm.MethodName) object_method_1_code (1 : Nat) (Option.none : Option Jvm.ClassFile.FieldType)).before args0 about1 = true := code_word (m := ⟨0, 0⟩) (meth := k0m0) (c := k0c0) (by decide +kernel) rfl rfl rfl (by decide +kernel)
set_option maxRecDepth 65536 in
theorem w_c5 : (Jvm.Cond.code ({ cls := "com/example/ferry/ferry/FormatVersions", name := "reads", desc := "(I)Z" } : Jvm.MethodName) prog_3_method_2_code (6 : Nat) (Option.some Jvm.ClassFile.FieldType.boolean)).before args0 about1 = true := code_word (m := ⟨3, 1⟩) (meth := k3m1) (c := k3c1) (by decide +kernel) rfl rfl rfl (by decide +kernel)
def codes1 : List Jvm.Cond := [Jvm.Cond.code x code maxLocals ret, Jvm.Cond.code ({ cls := "java/lang/Math", name := "min", desc := "(II)I" } : Jvm.MethodName) jdk_29_method_69_code (2 : Nat) (Option.some Jvm.ClassFile.FieldType.int), Jvm.Cond.code ({ cls := "java/lang/Math", name := "max", desc := "(II)I" } : Jvm.MethodName) jdk_29_method_65_code (2 : Nat) (Option.some Jvm.ClassFile.FieldType.int), Jvm.Cond.code ({ cls := "com/example/ferry/ferry/FormatVersions", name := "<init>", desc := "(Ljava/lang/String;[I)V" } : Jvm.MethodName) prog_3_method_1_code (3 : Nat) (Option.none : Option Jvm.ClassFile.FieldType), Jvm.Cond.code ({ cls := "java/lang/Object", name := "<init>", desc := "()V" } : Jvm.MethodName) object_method_1_code (1 : Nat) (Option.none : Option Jvm.ClassFile.FieldType), Jvm.Cond.code ({ cls := "com/example/ferry/ferry/FormatVersions", name := "reads", desc := "(I)Z" } : Jvm.MethodName) prog_3_method_2_code (6 : Nat) (Option.some Jvm.ClassFile.FieldType.boolean)]
set_option maxRecDepth 65536 in
theorem codes_eq : words1.filter isCode = codes1 := rfl
theorem w_codes : ∀ c ∈ words1.filter isCode, c.before args0 about1 = true := by
  rw [codes_eq]
  intro c hc
  simp only [codes1, List.mem_cons, List.not_mem_nil, or_false] at hc
  rcases hc with rfl | rfl | rfl | rfl | rfl | rfl
  · exact w_c0
  · exact w_c1
  · exact w_c2
  · exact w_c3
  · exact w_c4
  · exact w_c5
set_option maxRecDepth 65536 in
theorem w_t1 : (words1.take 24).all (fun c => isCode c || c.before args0 about1) = true := by decide +kernel
set_option maxRecDepth 65536 in
theorem w_t2 : (words1.drop 24).all (fun c => isCode c || c.before args0 about1) = true := by decide +kernel
theorem w_tables : (allAtoms (Jvm.Cond.code x code maxLocals ret :: tables_1)).before args0 about1 = true := by
  rw [allAtoms_all]
  show words1.all (fun c => c.before args0 about1) = true
  refine all_split ?_ w_codes
  rw [← List.take_append_drop 24 words1, List.all_append, w_t1, w_t2]
  rfl
set_option maxRecDepth 65536 in
theorem w_case : (Jvm.Cond.and given_1 narrow_1).before args0 about1 = true := by decide +kernel
theorem w_applies : (headSpec (Jvm.Cond.code x code maxLocals ret :: tables_1) room_1).applies x e0.platform about1 = true :=
  (Spec.applies_iff w_frames).mpr ⟨w_running, w_runnable, w_alone, w_named, w_hears, w_ripe, w_room, w_tables⟩
theorem atStart : AtStart classFile x code maxLocals ret World_1 tables_1 room_1 Calls_1 rest_1 Pre_1 launch0 p0 e0 about1 theMethod args0 below0 :=
  ⟨lists_1, trivial, launch0.admits_env _ _ _, launch0.least_env, fairChoices_fair.cas, fairChoices_fair.clock, w_frames, w_args, w_heap, w_applies, trivial, trivial, w_case⟩
end start1
theorem witness_1 : WitnessClaimed_1 := ⟨start1.p0, start1.e0, start1.about1, start1.theMethod, start1.args0, start1.below0, start1.atStart⟩
end Jvm.Pilot.@@N@@
