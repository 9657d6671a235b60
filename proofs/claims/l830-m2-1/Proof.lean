import JvmDerived
import JvmDerived.Pilot.@@N@@Statement
import JvmDerived.Pilot.@@N@@Code
set_option linter.unusedVariables false
set_option linter.unusedSimpArgs false
namespace Jvm.RoadKit
open Sem ClassFile Op Lib Jvm.Stand Jvm.Free Jvm.LawKit
section New
variable {p : Program} {l : Launch} {e : Env} {R : Room} {s : State} {m : MethodId} {args : Array Value} {below : List Frame} {meth : Method} {c : Code} {T : State} {locs : List Loc} {cells slots : Nat}
theorem retI (X : Stand p l e R s m args below meth c T locs cells slots) (hx : p.tables.exec = Jvm.exec) {pc : Nat} {Ls : Array Slot} {z : Int32} {rest : List Value} (hret : meth.sig.returnType = some .int) (hd : decode c.code pc = .ok (.ireturn, 1)) {fs : List Frame}
    (hl : ∀ (f : JFrame) (acts : List Action), f.method = m → f.locked = none → f.entered = [] → (doReturn e (T.setTop f) acts (some (.int z))).1 = T.setFrames fs) : Steps p.tables e below (T.setTop (mkF m pc Ls (.int z :: rest))) (T.setFrames fs) := by
  have hm' : T.vm.method? m = some meth := X.method'
  have hn : narrow .int (.int z) = .int z := rfl
  show Steps p.tables e below (T.setTop { method := m, pc := pc, locals := Ls, stack := _ :: rest, locked := none }) _
  jvm_step X.here [X.here.top, hx, hd, hm', hret, hn]
  first | (intro acts; rw [hl _ acts rfl rfl rfl]) | rw [hl _ _ rfl rfl rfl]
  exact Steps.refl _
end New
end Jvm.RoadKit
namespace Jvm.Pilot.@@N@@
open Jvm Jvm.ClassFile Sem Op Lib Jvm.Free Jvm.Stand Jvm.LawKit Jvm.RoadKit Bundle Jvm.Pilot.@@N@@.Jvm.D
theorem own_pd0 : parseMethodDescriptor "(IZ)I" = some ⟨[.int, .boolean], some .int⟩ := by decide +kernel
theorem own_pd1 : parseMethodDescriptor "(I)I" = some ⟨[.int], some .int⟩ := by decide +kernel
theorem own_pd2 : parseMethodDescriptor "(I)Z" = some ⟨[.int], some .boolean⟩ := by decide +kernel
theorem own_n1 (p1 : Int32) (a0 : (p1 % (2 : Int32)) = (1 : Int32)) : (p1 % (2 : Int32)).toInt = 1 := by
  have c0 : (p1 % (2 : Int32)).toInt = (1 : Int32).toInt := congrArg Int32.toInt a0
  have nf1 := rng32 p1
  have nf2 : (2 : Int32).toInt = 2 := by decide
  have nf3 := c_irem p1 (2 : Int32) (2) (by decide)
  have nf4 : (1 : Int32).toInt = 1 := by decide
  omega
theorem own_n2 (p1 : Int32) (a0 : ¬ ((p1 % (2 : Int32)) = (1 : Int32))) : ¬ (p1 % (2 : Int32)).toInt = 1 := by
  have c0 : ¬ ((p1 % (2 : Int32)).toInt = (1 : Int32).toInt) := fun q => a0 (Int32.toInt_inj.mp q)
  have nf1 := rng32 p1
  have nf2 : (2 : Int32).toInt = 2 := by decide
  have nf3 := c_irem p1 (2 : Int32) (2) (by decide)
  have nf4 : (1 : Int32).toInt = 1 := by decide
  omega
theorem own_n3 (goal : Int32) (flag : Int32) (a0 : (flag &&& (1 : Int32)) = (0 : Int32)) : ¬ ((((goal &&& (1073741823 : Int32)) * (2 : Int32)) + (0 : Int32)) < (0 : Int32)) := by
  intro q
  have q' := Int32.lt_iff_toInt_lt.mp q
  have c0 : (flag &&& (1 : Int32)).toInt = (0 : Int32).toInt := congrArg Int32.toInt a0
  have nf1 := rng32 goal
  have nf2 : (1073741823 : Int32).toInt = 1073741823 := by decide
  have nf3 := c_mask goal (1073741823 : Int32) 30 (by decide) (by decide)
  have nf4 : (2 : Int32).toInt = 2 := by decide
  have nr5 := rng32 ((goal &&& (1073741823 : Int32)) * (2 : Int32))
  have nf5 : (((goal &&& (1073741823 : Int32)) * (2 : Int32)).toInt - (goal &&& (1073741823 : Int32)).toInt * 2) % 4294967296 = 0 := by have q := c_imul (goal &&& (1073741823 : Int32)) (2 : Int32); rw [show ((2 : Int32)).toInt = 2 from by decide] at q; exact q
  have nf6 : (0 : Int32).toInt = 0 := by decide
  have nr7 := rng32 (((goal &&& (1073741823 : Int32)) * (2 : Int32)) + (0 : Int32))
  have nf7 := c_iadd ((goal &&& (1073741823 : Int32)) * (2 : Int32)) (0 : Int32)
  have nf8 := rng32 flag
  have nf9 : (1 : Int32).toInt = 1 := by decide
  have nf10 := c_mask flag (1 : Int32) 1 (by decide) (by decide)
  omega
theorem own_n4 (goal : Int32) (flag : Int32) (a0 : (flag &&& (1 : Int32)) = (0 : Int32)) : ((((goal &&& (1073741823 : Int32)) * (2 : Int32)) + (0 : Int32)) / (2 : Int32)) = (goal &&& (1073741823 : Int32)) := by
  refine Int32.toInt_inj.mp ?_
  have c0 : (flag &&& (1 : Int32)).toInt = (0 : Int32).toInt := congrArg Int32.toInt a0
  have nf1 := rng32 goal
  have nf2 : (1073741823 : Int32).toInt = 1073741823 := by decide
  have nf3 := c_mask goal (1073741823 : Int32) 30 (by decide) (by decide)
  have nf4 : (2 : Int32).toInt = 2 := by decide
  have nr5 := rng32 ((goal &&& (1073741823 : Int32)) * (2 : Int32))
  have nf5 : (((goal &&& (1073741823 : Int32)) * (2 : Int32)).toInt - (goal &&& (1073741823 : Int32)).toInt * 2) % 4294967296 = 0 := by have q := c_imul (goal &&& (1073741823 : Int32)) (2 : Int32); rw [show ((2 : Int32)).toInt = 2 from by decide] at q; exact q
  have nf6 : (0 : Int32).toInt = 0 := by decide
  have nr7 := rng32 (((goal &&& (1073741823 : Int32)) * (2 : Int32)) + (0 : Int32))
  have nf7 := c_iadd ((goal &&& (1073741823 : Int32)) * (2 : Int32)) (0 : Int32)
  have nf8 := c_idiv (((goal &&& (1073741823 : Int32)) * (2 : Int32)) + (0 : Int32)) (2 : Int32) (2) (by decide) (by decide)
  have nf9 := rng32 flag
  have nf10 : (1 : Int32).toInt = 1 := by decide
  have nf11 := c_mask flag (1 : Int32) 1 (by decide) (by decide)
  omega
theorem own_n5 (goal : Int32) (flag : Int32) (a0 : (flag &&& (1 : Int32)) = (0 : Int32)) : ¬ ((((goal &&& (1073741823 : Int32)) * (2 : Int32)) + (0 : Int32)) % (2 : Int32)).toInt = 1 := by
  have c0 : (flag &&& (1 : Int32)).toInt = (0 : Int32).toInt := congrArg Int32.toInt a0
  have nf1 := rng32 goal
  have nf2 : (1073741823 : Int32).toInt = 1073741823 := by decide
  have nf3 := c_mask goal (1073741823 : Int32) 30 (by decide) (by decide)
  have nf4 : (2 : Int32).toInt = 2 := by decide
  have nr5 := rng32 ((goal &&& (1073741823 : Int32)) * (2 : Int32))
  have nf5 : (((goal &&& (1073741823 : Int32)) * (2 : Int32)).toInt - (goal &&& (1073741823 : Int32)).toInt * 2) % 4294967296 = 0 := by have q := c_imul (goal &&& (1073741823 : Int32)) (2 : Int32); rw [show ((2 : Int32)).toInt = 2 from by decide] at q; exact q
  have nf6 : (0 : Int32).toInt = 0 := by decide
  have nr7 := rng32 (((goal &&& (1073741823 : Int32)) * (2 : Int32)) + (0 : Int32))
  have nf7 := c_iadd ((goal &&& (1073741823 : Int32)) * (2 : Int32)) (0 : Int32)
  have nf8 := c_irem (((goal &&& (1073741823 : Int32)) * (2 : Int32)) + (0 : Int32)) (2 : Int32) (2) (by decide)
  have nf9 := rng32 flag
  have nf10 : (1 : Int32).toInt = 1 := by decide
  have nf11 := c_mask flag (1 : Int32) 1 (by decide) (by decide)
  omega
theorem own_n6 (goal : Int32) (flag : Int32) (a0 : ¬ ((flag &&& (1 : Int32)) = (0 : Int32))) : ¬ ((((goal &&& (1073741823 : Int32)) * (2 : Int32)) + (1 : Int32)) < (0 : Int32)) := by
  intro q
  have q' := Int32.lt_iff_toInt_lt.mp q
  have c0 : ¬ ((flag &&& (1 : Int32)).toInt = (0 : Int32).toInt) := fun q => a0 (Int32.toInt_inj.mp q)
  have nf1 := rng32 goal
  have nf2 : (1073741823 : Int32).toInt = 1073741823 := by decide
  have nf3 := c_mask goal (1073741823 : Int32) 30 (by decide) (by decide)
  have nf4 : (2 : Int32).toInt = 2 := by decide
  have nr5 := rng32 ((goal &&& (1073741823 : Int32)) * (2 : Int32))
  have nf5 : (((goal &&& (1073741823 : Int32)) * (2 : Int32)).toInt - (goal &&& (1073741823 : Int32)).toInt * 2) % 4294967296 = 0 := by have q := c_imul (goal &&& (1073741823 : Int32)) (2 : Int32); rw [show ((2 : Int32)).toInt = 2 from by decide] at q; exact q
  have nf6 : (1 : Int32).toInt = 1 := by decide
  have nr7 := rng32 (((goal &&& (1073741823 : Int32)) * (2 : Int32)) + (1 : Int32))
  have nf7 := c_iadd ((goal &&& (1073741823 : Int32)) * (2 : Int32)) (1 : Int32)
  have nf8 : (0 : Int32).toInt = 0 := by decide
  have nf9 := rng32 flag
  have nf10 := c_mask flag (1 : Int32) 1 (by decide) (by decide)
  omega
theorem own_n7 (goal : Int32) (flag : Int32) (a0 : ¬ ((flag &&& (1 : Int32)) = (0 : Int32))) : ((((goal &&& (1073741823 : Int32)) * (2 : Int32)) + (1 : Int32)) / (2 : Int32)) = (goal &&& (1073741823 : Int32)) := by
  refine Int32.toInt_inj.mp ?_
  have c0 : ¬ ((flag &&& (1 : Int32)).toInt = (0 : Int32).toInt) := fun q => a0 (Int32.toInt_inj.mp q)
  have nf1 := rng32 goal
  have nf2 : (1073741823 : Int32).toInt = 1073741823 := by decide
  have nf3 := c_mask goal (1073741823 : Int32) 30 (by decide) (by decide)
  have nf4 : (2 : Int32).toInt = 2 := by decide
  have nr5 := rng32 ((goal &&& (1073741823 : Int32)) * (2 : Int32))
  have nf5 : (((goal &&& (1073741823 : Int32)) * (2 : Int32)).toInt - (goal &&& (1073741823 : Int32)).toInt * 2) % 4294967296 = 0 := by have q := c_imul (goal &&& (1073741823 : Int32)) (2 : Int32); rw [show ((2 : Int32)).toInt = 2 from by decide] at q; exact q
  have nf6 : (1 : Int32).toInt = 1 := by decide
  have nr7 := rng32 (((goal &&& (1073741823 : Int32)) * (2 : Int32)) + (1 : Int32))
  have nf7 := c_iadd ((goal &&& (1073741823 : Int32)) * (2 : Int32)) (1 : Int32)
  have nf8 := c_idiv (((goal &&& (1073741823 : Int32)) * (2 : Int32)) + (1 : Int32)) (2 : Int32) (2) (by decide) (by decide)
  have nf9 := rng32 flag
  have nf10 := c_mask flag (1 : Int32) 1 (by decide) (by decide)
  have nf11 : (0 : Int32).toInt = 0 := by decide
  omega
theorem own_n8 (goal : Int32) (flag : Int32) (a0 : ¬ ((flag &&& (1 : Int32)) = (0 : Int32))) : ((((goal &&& (1073741823 : Int32)) * (2 : Int32)) + (1 : Int32)) % (2 : Int32)).toInt = 1 := by
  have c0 : ¬ ((flag &&& (1 : Int32)).toInt = (0 : Int32).toInt) := fun q => a0 (Int32.toInt_inj.mp q)
  have nf1 := rng32 goal
  have nf2 : (1073741823 : Int32).toInt = 1073741823 := by decide
  have nf3 := c_mask goal (1073741823 : Int32) 30 (by decide) (by decide)
  have nf4 : (2 : Int32).toInt = 2 := by decide
  have nr5 := rng32 ((goal &&& (1073741823 : Int32)) * (2 : Int32))
  have nf5 : (((goal &&& (1073741823 : Int32)) * (2 : Int32)).toInt - (goal &&& (1073741823 : Int32)).toInt * 2) % 4294967296 = 0 := by have q := c_imul (goal &&& (1073741823 : Int32)) (2 : Int32); rw [show ((2 : Int32)).toInt = 2 from by decide] at q; exact q
  have nf6 : (1 : Int32).toInt = 1 := by decide
  have nr7 := rng32 (((goal &&& (1073741823 : Int32)) * (2 : Int32)) + (1 : Int32))
  have nf7 := c_iadd ((goal &&& (1073741823 : Int32)) * (2 : Int32)) (1 : Int32)
  have nf8 := c_irem (((goal &&& (1073741823 : Int32)) * (2 : Int32)) + (1 : Int32)) (2 : Int32) (2) (by decide)
  have nf9 := rng32 flag
  have nf10 := c_mask flag (1 : Int32) 1 (by decide) (by decide)
  have nf11 : (0 : Int32).toInt = 0 := by decide
  omega
theorem own_d1a_0 : decode prog_4_method_2_code 0 = .ok (.iload_n 0, 1) := by decide +kernel
theorem own_d1a_1 : decode prog_4_method_2_code 1 = .ok (.iconst 2, 1) := by decide +kernel
theorem own_d1a_2 : decode prog_4_method_2_code 2 = .ok (.imul, 1) := by decide +kernel
theorem own_d1a_3 : decode prog_4_method_2_code 3 = .ok (.iload_n 1, 1) := by decide +kernel
theorem own_d1a_4 : decode prog_4_method_2_code 4 = .ok (.ifCond .eq 7, 3) := by decide +kernel
theorem own_d1a_11 : decode prog_4_method_2_code 11 = .ok (.iconst 0, 1) := by decide +kernel
theorem own_d1a_12 : decode prog_4_method_2_code 12 = .ok (.iadd, 1) := by decide +kernel
theorem own_d1a_13 : decode prog_4_method_2_code 13 = .ok (.ireturn, 1) := by decide +kernel
theorem own_pn_own_rm1_0 : plainName "com/example/unicept/unicept/ConstantSystem" = true := by first | (simp [plainName, overriddenIn]; done) | decide +kernel
theorem own_ef_own_rm1_0 (m : MethodId) (x0 : Int32) (x1 : Int32) : entryFrame m #[(.int x0), (.int x1)] 2 = mkF m 0 #[.val (.int x0), .val (.int x1)] [] := by first | (simp [entryFrame, mkF, argsToLocals, Value.category]; done) | rfl
def Q_own_rm1_0 (Z : State) (p1 : Int32) (h0 : Heap) (n0 : Nat) (v : Option Value) (h : Heap) (L : List Loc) : Prop := v = some (.int ((p1 * (2 : Int32)) + (0 : Int32))) ∧ Fr n0 L ∧ h = h0
set_option maxRecDepth 65536 in
set_option maxHeartbeats 40000000 in
theorem own_rm1_0 (l : Launch) (Z : State) (a0 : Array Value) (hw : ∀ d ∈ tables_1, d.before a0 Z = true) (ws : List Jvm.Cond) (p1 : Int32) (h0 : Heap) (n0 : Nat) (Z0 : n0 ≤ h0.size) :
    MetFree l (⟨"com/example/unicept/unicept/ConstantSystem", "tag", "(IZ)I"⟩ : MethodName) (head1 (Jvm.Cond.code (⟨"com/example/unicept/unicept/ConstantSystem", "tag", "(IZ)I"⟩ : MethodName) prog_4_method_2_code 2 (some .int) :: ws) ({ frames := 0, cells := 0, slots := 0, locals := 0 } : Room)) (fun a U => a = #[(.int p1), (.int (0 : Int32))] ∧ Z.Warmed39 U.vm ∧ U.heap = h0) (fun _ _ _ _ _ => True) (fun _ U o U' => ∃ v L, o = .returned v ∧ Q_own_rm1_0 Z p1 h0 n0 v U'.heap L ∧ FrameEnd U o U' L ({ frames := 0, cells := 0, slots := 0, locals := 0 } : Room).cells ({ frames := 0, cells := 0, slots := 0, locals := 0 } : Room).slots) := by
  refine MetFree.of_bodySF (plainFor_of_name own_pn_own_rm1_0) hisR ?_
  intro p e s m args below meth c s₁ Bd hml0 hP hK
  obtain ⟨rfl, hZ, hh⟩ := hP
  have hx := Bd.exec
  have hby := Bd.bytes
  have hml : c.maxLocals = 2 := hml0
  have hown : s.vm.findClass "com/example/unicept/unicept/ConstantSystem" = some m.cls := findClass_of_methodNamed Bd.named
  have hnm := (name_of_methodNamed Bd.named Bd.method).1
  have X0 : Stand p l e ({ frames := 0, cells := 0, slots := 0, locals := 0 } : Room) s m #[(.int p1), (.int (0 : Int32))] below meth c s₁ [] 0 0 := Stand.of_body Bd
  have e0 : s₁.heap = h0 := by rw [← hh, Bd.state]; rfl
  have N0 := Fr.nil n0
  have pre0 : Goes p e below s₁ (entryFrame m #[(.int p1), (.int (0 : Int32))] 2) s₁ (mkF m 0 #[.val (.int p1), .val (.int (0 : Int32))] []) := fun t k => castTop (own_ef_own_rm1_0 m p1 (0 : Int32)) k
  have pre1 : Goes p e below s₁ (entryFrame m #[(.int p1), (.int (0 : Int32))] 2) s₁ (mkF m 13 #[.val (.int p1), .val (.int (0 : Int32))] [(.int ((p1 * (2 : Int32)) + (0 : Int32)))]) := fun t kt => pre0 t (by
      show Steps p.tables e below (s₁.setTop (mkF m 0 #[.val (.int p1), .val (.int (0 : Int32))] [])) _
      refine XS.iloadN X0.here hx rfl (hb hby own_d1a_0) rfl ?_
      show Steps p.tables e below (s₁.setTop (mkF m 1 #[.val (.int p1), .val (.int (0 : Int32))] [(.int p1)])) _
      refine XS.iconst X0.here hx rfl (hb hby own_d1a_1) ?_
      show Steps p.tables e below (s₁.setTop (mkF m 2 #[.val (.int p1), .val (.int (0 : Int32))] [(.int (2 : Int32)), (.int p1)])) _
      refine XS.imul X0.here hx rfl (hb hby own_d1a_2) rfl ?_
      show Steps p.tables e below (s₁.setTop (mkF m 3 #[.val (.int p1), .val (.int (0 : Int32))] [(.int (p1 * (2 : Int32)))])) _
      refine XS.iloadN X0.here hx rfl (hb hby own_d1a_3) rfl ?_
      show Steps p.tables e below (s₁.setTop (mkF m 4 #[.val (.int p1), .val (.int (0 : Int32))] [(.int (0 : Int32)), (.int (p1 * (2 : Int32)))])) _
      refine XS.ifYes X0.here hx rfl (pc0 := 4) (pc' := 11) rfl (hb hby own_d1a_4) rfl ((if0 _ _).trans (teq (by decide : (0 : Int32) = (0 : Int32))).1) (by decide) (by decide) ?_
      show Steps p.tables e below (s₁.setTop (mkF m 11 #[.val (.int p1), .val (.int (0 : Int32))] [(.int (p1 * (2 : Int32)))])) _
      refine XS.iconst X0.here hx rfl (hb hby own_d1a_11) ?_
      show Steps p.tables e below (s₁.setTop (mkF m 12 #[.val (.int p1), .val (.int (0 : Int32))] [(.int (0 : Int32)), (.int (p1 * (2 : Int32)))])) _
      refine XS.iadd X0.here hx rfl (hb hby own_d1a_12) rfl ?_
      exact kt)
  obtain ⟨fs, hr, hrun, hended, hW, hsame⟩ := X0.leave (v := some (.int ((p1 * (2 : Int32)) + (0 : Int32)))) (fun h => by rw [Bd.returns] at h; cases h)
  refine ⟨_, _, pre1 _ ?_, hrun, hended, _, _, rfl, ?_, ⟨_, rfl⟩, hW, hsame.mono (by decide) (by decide)⟩
  · show Steps p.tables e below (s₁.setTop (mkF m 13 #[.val (.int p1), .val (.int (0 : Int32))] [(.int ((p1 * (2 : Int32)) + (0 : Int32)))])) _
    exact retI X0 hx Bd.returns (hb hby own_d1a_13) hr
  · show Q_own_rm1_0 Z p1 h0 n0 _ s₁.heap _
    rw [e0]
    exact ⟨rfl, N0, rfl⟩
theorem own_d1b_0 : decode prog_4_method_2_code 0 = .ok (.iload_n 0, 1) := by decide +kernel
theorem own_d1b_1 : decode prog_4_method_2_code 1 = .ok (.iconst 2, 1) := by decide +kernel
theorem own_d1b_2 : decode prog_4_method_2_code 2 = .ok (.imul, 1) := by decide +kernel
theorem own_d1b_3 : decode prog_4_method_2_code 3 = .ok (.iload_n 1, 1) := by decide +kernel
theorem own_d1b_4 : decode prog_4_method_2_code 4 = .ok (.ifCond .eq 7, 3) := by decide +kernel
theorem own_d1b_7 : decode prog_4_method_2_code 7 = .ok (.iconst 1, 1) := by decide +kernel
theorem own_d1b_8 : decode prog_4_method_2_code 8 = .ok (.goto 4, 3) := by decide +kernel
theorem own_d1b_12 : decode prog_4_method_2_code 12 = .ok (.iadd, 1) := by decide +kernel
theorem own_d1b_13 : decode prog_4_method_2_code 13 = .ok (.ireturn, 1) := by decide +kernel
theorem own_pn_own_rm1_1 : plainName "com/example/unicept/unicept/ConstantSystem" = true := by first | (simp [plainName, overriddenIn]; done) | decide +kernel
theorem own_ef_own_rm1_1 (m : MethodId) (x0 : Int32) (x1 : Int32) : entryFrame m #[(.int x0), (.int x1)] 2 = mkF m 0 #[.val (.int x0), .val (.int x1)] [] := by first | (simp [entryFrame, mkF, argsToLocals, Value.category]; done) | rfl
def Q_own_rm1_1 (Z : State) (p1 : Int32) (h0 : Heap) (n0 : Nat) (v : Option Value) (h : Heap) (L : List Loc) : Prop := v = some (.int ((p1 * (2 : Int32)) + (1 : Int32))) ∧ Fr n0 L ∧ h = h0
set_option maxRecDepth 65536 in
set_option maxHeartbeats 40000000 in
theorem own_rm1_1 (l : Launch) (Z : State) (a0 : Array Value) (hw : ∀ d ∈ tables_1, d.before a0 Z = true) (ws : List Jvm.Cond) (p1 : Int32) (h0 : Heap) (n0 : Nat) (Z0 : n0 ≤ h0.size) :
    MetFree l (⟨"com/example/unicept/unicept/ConstantSystem", "tag", "(IZ)I"⟩ : MethodName) (head1 (Jvm.Cond.code (⟨"com/example/unicept/unicept/ConstantSystem", "tag", "(IZ)I"⟩ : MethodName) prog_4_method_2_code 2 (some .int) :: ws) ({ frames := 0, cells := 0, slots := 0, locals := 0 } : Room)) (fun a U => a = #[(.int p1), (.int (1 : Int32))] ∧ Z.Warmed39 U.vm ∧ U.heap = h0) (fun _ _ _ _ _ => True) (fun _ U o U' => ∃ v L, o = .returned v ∧ Q_own_rm1_1 Z p1 h0 n0 v U'.heap L ∧ FrameEnd U o U' L ({ frames := 0, cells := 0, slots := 0, locals := 0 } : Room).cells ({ frames := 0, cells := 0, slots := 0, locals := 0 } : Room).slots) := by
  refine MetFree.of_bodySF (plainFor_of_name own_pn_own_rm1_1) hisR ?_
  intro p e s m args below meth c s₁ Bd hml0 hP hK
  obtain ⟨rfl, hZ, hh⟩ := hP
  have hx := Bd.exec
  have hby := Bd.bytes
  have hml : c.maxLocals = 2 := hml0
  have hown : s.vm.findClass "com/example/unicept/unicept/ConstantSystem" = some m.cls := findClass_of_methodNamed Bd.named
  have hnm := (name_of_methodNamed Bd.named Bd.method).1
  have X0 : Stand p l e ({ frames := 0, cells := 0, slots := 0, locals := 0 } : Room) s m #[(.int p1), (.int (1 : Int32))] below meth c s₁ [] 0 0 := Stand.of_body Bd
  have e0 : s₁.heap = h0 := by rw [← hh, Bd.state]; rfl
  have N0 := Fr.nil n0
  have pre0 : Goes p e below s₁ (entryFrame m #[(.int p1), (.int (1 : Int32))] 2) s₁ (mkF m 0 #[.val (.int p1), .val (.int (1 : Int32))] []) := fun t k => castTop (own_ef_own_rm1_1 m p1 (1 : Int32)) k
  have pre1 : Goes p e below s₁ (entryFrame m #[(.int p1), (.int (1 : Int32))] 2) s₁ (mkF m 13 #[.val (.int p1), .val (.int (1 : Int32))] [(.int ((p1 * (2 : Int32)) + (1 : Int32)))]) := fun t kt => pre0 t (by
      show Steps p.tables e below (s₁.setTop (mkF m 0 #[.val (.int p1), .val (.int (1 : Int32))] [])) _
      refine XS.iloadN X0.here hx rfl (hb hby own_d1b_0) rfl ?_
      show Steps p.tables e below (s₁.setTop (mkF m 1 #[.val (.int p1), .val (.int (1 : Int32))] [(.int p1)])) _
      refine XS.iconst X0.here hx rfl (hb hby own_d1b_1) ?_
      show Steps p.tables e below (s₁.setTop (mkF m 2 #[.val (.int p1), .val (.int (1 : Int32))] [(.int (2 : Int32)), (.int p1)])) _
      refine XS.imul X0.here hx rfl (hb hby own_d1b_2) rfl ?_
      show Steps p.tables e below (s₁.setTop (mkF m 3 #[.val (.int p1), .val (.int (1 : Int32))] [(.int (p1 * (2 : Int32)))])) _
      refine XS.iloadN X0.here hx rfl (hb hby own_d1b_3) rfl ?_
      show Steps p.tables e below (s₁.setTop (mkF m 4 #[.val (.int p1), .val (.int (1 : Int32))] [(.int (1 : Int32)), (.int (p1 * (2 : Int32)))])) _
      refine XS.ifNo X0.here hx rfl (hb hby own_d1b_4) rfl ((if0 _ _).trans (feq (by decide : ¬ ((1 : Int32) = (0 : Int32)))).1) ?_
      show Steps p.tables e below (s₁.setTop (mkF m 7 #[.val (.int p1), .val (.int (1 : Int32))] [(.int (p1 * (2 : Int32)))])) _
      refine XS.iconst X0.here hx rfl (hb hby own_d1b_7) ?_
      show Steps p.tables e below (s₁.setTop (mkF m 8 #[.val (.int p1), .val (.int (1 : Int32))] [(.int (1 : Int32)), (.int (p1 * (2 : Int32)))])) _
      refine XS.goto X0.here hx rfl (pc0 := 8) (pc' := 12) rfl (hb hby own_d1b_8) (by decide) (by decide) ?_
      show Steps p.tables e below (s₁.setTop (mkF m 12 #[.val (.int p1), .val (.int (1 : Int32))] [(.int (1 : Int32)), (.int (p1 * (2 : Int32)))])) _
      refine XS.iadd X0.here hx rfl (hb hby own_d1b_12) rfl ?_
      exact kt)
  obtain ⟨fs, hr, hrun, hended, hW, hsame⟩ := X0.leave (v := some (.int ((p1 * (2 : Int32)) + (1 : Int32)))) (fun h => by rw [Bd.returns] at h; cases h)
  refine ⟨_, _, pre1 _ ?_, hrun, hended, _, _, rfl, ?_, ⟨_, rfl⟩, hW, hsame.mono (by decide) (by decide)⟩
  · show Steps p.tables e below (s₁.setTop (mkF m 13 #[.val (.int p1), .val (.int (1 : Int32))] [(.int ((p1 * (2 : Int32)) + (1 : Int32)))])) _
    exact retI X0 hx Bd.returns (hb hby own_d1b_13) hr
  · show Q_own_rm1_1 Z p1 h0 n0 _ s₁.heap _
    rw [e0]
    exact ⟨rfl, N0, rfl⟩
theorem own_d2_0 : decode prog_4_method_3_code 0 = .ok (.iload_n 0, 1) := by decide +kernel
theorem own_d2_1 : decode prog_4_method_3_code 1 = .ok (.iconst 2, 1) := by decide +kernel
theorem own_d2_2 : decode prog_4_method_3_code 2 = .ok (.idiv, 1) := by decide +kernel
theorem own_d2_3 : decode prog_4_method_3_code 3 = .ok (.ireturn, 1) := by decide +kernel
theorem own_pn_own_rm2 : plainName "com/example/unicept/unicept/ConstantSystem" = true := by first | (simp [plainName, overriddenIn]; done) | decide +kernel
theorem own_ef_own_rm2 (m : MethodId) (x0 : Int32) : entryFrame m #[(.int x0)] 1 = mkF m 0 #[.val (.int x0)] [] := by first | (simp [entryFrame, mkF, argsToLocals, Value.category]; done) | rfl
def Q_own_rm2 (Z : State) (p1 : Int32) (h0 : Heap) (n0 : Nat) (v : Option Value) (h : Heap) (L : List Loc) : Prop := v = some (.int (p1 / (2 : Int32))) ∧ Fr n0 L ∧ h = h0
set_option maxRecDepth 65536 in
set_option maxHeartbeats 40000000 in
theorem own_rm2 (l : Launch) (Z : State) (a0 : Array Value) (hw : ∀ d ∈ tables_1, d.before a0 Z = true) (ws : List Jvm.Cond) (p1 : Int32) (h0 : Heap) (n0 : Nat) (Z0 : n0 ≤ h0.size) :
    MetFree l (⟨"com/example/unicept/unicept/ConstantSystem", "goal", "(I)I"⟩ : MethodName) (head1 (Jvm.Cond.code (⟨"com/example/unicept/unicept/ConstantSystem", "goal", "(I)I"⟩ : MethodName) prog_4_method_3_code 1 (some .int) :: ws) ({ frames := 0, cells := 0, slots := 0, locals := 0 } : Room)) (fun a U => a = #[(.int p1)] ∧ Z.Warmed39 U.vm ∧ U.heap = h0) (fun _ _ _ _ _ => True) (fun _ U o U' => ∃ v L, o = .returned v ∧ Q_own_rm2 Z p1 h0 n0 v U'.heap L ∧ FrameEnd U o U' L ({ frames := 0, cells := 0, slots := 0, locals := 0 } : Room).cells ({ frames := 0, cells := 0, slots := 0, locals := 0 } : Room).slots) := by
  refine MetFree.of_bodySF (plainFor_of_name own_pn_own_rm2) hisR ?_
  intro p e s m args below meth c s₁ Bd hml0 hP hK
  obtain ⟨rfl, hZ, hh⟩ := hP
  have hx := Bd.exec
  have hby := Bd.bytes
  have hml : c.maxLocals = 1 := hml0
  have hown : s.vm.findClass "com/example/unicept/unicept/ConstantSystem" = some m.cls := findClass_of_methodNamed Bd.named
  have hnm := (name_of_methodNamed Bd.named Bd.method).1
  have X0 : Stand p l e ({ frames := 0, cells := 0, slots := 0, locals := 0 } : Room) s m #[(.int p1)] below meth c s₁ [] 0 0 := Stand.of_body Bd
  have e0 : s₁.heap = h0 := by rw [← hh, Bd.state]; rfl
  have N0 := Fr.nil n0
  have pre0 : Goes p e below s₁ (entryFrame m #[(.int p1)] 1) s₁ (mkF m 0 #[.val (.int p1)] []) := fun t k => castTop (own_ef_own_rm2 m p1) k
  have pre1 : Goes p e below s₁ (entryFrame m #[(.int p1)] 1) s₁ (mkF m 3 #[.val (.int p1)] [(.int (p1 / (2 : Int32)))]) := fun t kt => pre0 t (by
      show Steps p.tables e below (s₁.setTop (mkF m 0 #[.val (.int p1)] [])) _
      refine XS.iloadN X0.here hx rfl (hb hby own_d2_0) rfl ?_
      show Steps p.tables e below (s₁.setTop (mkF m 1 #[.val (.int p1)] [(.int p1)])) _
      refine XS.iconst X0.here hx rfl (hb hby own_d2_1) ?_
      show Steps p.tables e below (s₁.setTop (mkF m 2 #[.val (.int p1)] [(.int (2 : Int32)), (.int p1)])) _
      refine XS.idiv X0.here hx rfl (hb hby own_d2_2) rfl (by decide) ?_
      exact kt)
  obtain ⟨fs, hr, hrun, hended, hW, hsame⟩ := X0.leave (v := some (.int (p1 / (2 : Int32)))) (fun h => by rw [Bd.returns] at h; cases h)
  refine ⟨_, _, pre1 _ ?_, hrun, hended, _, _, rfl, ?_, ⟨_, rfl⟩, hW, hsame.mono (by decide) (by decide)⟩
  · show Steps p.tables e below (s₁.setTop (mkF m 3 #[.val (.int p1)] [(.int (p1 / (2 : Int32)))])) _
    exact retI X0 hx Bd.returns (hb hby own_d2_3) hr
  · show Q_own_rm2 Z p1 h0 n0 _ s₁.heap _
    rw [e0]
    exact ⟨rfl, N0, rfl⟩
theorem own_d3_0 : decode prog_4_method_4_code 0 = .ok (.iload_n 0, 1) := by decide +kernel
theorem own_d3_1 : decode prog_4_method_4_code 1 = .ok (.iconst 2, 1) := by decide +kernel
theorem own_d3_2 : decode prog_4_method_4_code 2 = .ok (.irem, 1) := by decide +kernel
theorem own_d3_3 : decode prog_4_method_4_code 3 = .ok (.iconst 1, 1) := by decide +kernel
theorem own_d3_4 : decode prog_4_method_4_code 4 = .ok (.if_icmp .ne 7, 3) := by decide +kernel
theorem own_d3_7 : decode prog_4_method_4_code 7 = .ok (.iconst 1, 1) := by decide +kernel
theorem own_d3_8 : decode prog_4_method_4_code 8 = .ok (.goto 4, 3) := by decide +kernel
theorem own_d3_11 : decode prog_4_method_4_code 11 = .ok (.iconst 0, 1) := by decide +kernel
theorem own_d3_12 : decode prog_4_method_4_code 12 = .ok (.ireturn, 1) := by decide +kernel
theorem own_pn_own_rm3 : plainName "com/example/unicept/unicept/ConstantSystem" = true := by first | (simp [plainName, overriddenIn]; done) | decide +kernel
theorem own_ef_own_rm3 (m : MethodId) (x0 : Int32) : entryFrame m #[(.int x0)] 1 = mkF m 0 #[.val (.int x0)] [] := by first | (simp [entryFrame, mkF, argsToLocals, Value.category]; done) | rfl
def Q_own_rm3 (Z : State) (p1 : Int32) (h0 : Heap) (n0 : Nat) (v : Option Value) (h : Heap) (L : List Loc) : Prop := v = some (.int (if (p1 % (2 : Int32)).toInt = 1 then 1 else 0)) ∧ Fr n0 L ∧ h = h0
set_option maxRecDepth 65536 in
set_option maxHeartbeats 40000000 in
theorem own_rm3 (l : Launch) (Z : State) (a0 : Array Value) (hw : ∀ d ∈ tables_1, d.before a0 Z = true) (ws : List Jvm.Cond) (p1 : Int32) (h0 : Heap) (n0 : Nat) (Z0 : n0 ≤ h0.size) :
    MetFree l (⟨"com/example/unicept/unicept/ConstantSystem", "isRight", "(I)Z"⟩ : MethodName) (head1 (Jvm.Cond.code (⟨"com/example/unicept/unicept/ConstantSystem", "isRight", "(I)Z"⟩ : MethodName) prog_4_method_4_code 1 (some .boolean) :: ws) ({ frames := 0, cells := 0, slots := 0, locals := 0 } : Room)) (fun a U => a = #[(.int p1)] ∧ Z.Warmed39 U.vm ∧ U.heap = h0) (fun _ _ _ _ _ => True) (fun _ U o U' => ∃ v L, o = .returned v ∧ Q_own_rm3 Z p1 h0 n0 v U'.heap L ∧ FrameEnd U o U' L ({ frames := 0, cells := 0, slots := 0, locals := 0 } : Room).cells ({ frames := 0, cells := 0, slots := 0, locals := 0 } : Room).slots) := by
  refine MetFree.of_bodySF (plainFor_of_name own_pn_own_rm3) hisR ?_
  intro p e s m args below meth c s₁ Bd hml0 hP hK
  obtain ⟨rfl, hZ, hh⟩ := hP
  have hx := Bd.exec
  have hby := Bd.bytes
  have hml : c.maxLocals = 1 := hml0
  have hown : s.vm.findClass "com/example/unicept/unicept/ConstantSystem" = some m.cls := findClass_of_methodNamed Bd.named
  have hnm := (name_of_methodNamed Bd.named Bd.method).1
  have X0 : Stand p l e ({ frames := 0, cells := 0, slots := 0, locals := 0 } : Room) s m #[(.int p1)] below meth c s₁ [] 0 0 := Stand.of_body Bd
  have e0 : s₁.heap = h0 := by rw [← hh, Bd.state]; rfl
  have N0 := Fr.nil n0
  have pre0 : Goes p e below s₁ (entryFrame m #[(.int p1)] 1) s₁ (mkF m 0 #[.val (.int p1)] []) := fun t k => castTop (own_ef_own_rm3 m p1) k
  have pre1 : Goes p e below s₁ (entryFrame m #[(.int p1)] 1) s₁ (mkF m 4 #[.val (.int p1)] [(.int (1 : Int32)), (.int (p1 % (2 : Int32)))]) := fun t kt => pre0 t (by
      show Steps p.tables e below (s₁.setTop (mkF m 0 #[.val (.int p1)] [])) _
      refine XS.iloadN X0.here hx rfl (hb hby own_d3_0) rfl ?_
      show Steps p.tables e below (s₁.setTop (mkF m 1 #[.val (.int p1)] [(.int p1)])) _
      refine XS.iconst X0.here hx rfl (hb hby own_d3_1) ?_
      show Steps p.tables e below (s₁.setTop (mkF m 2 #[.val (.int p1)] [(.int (2 : Int32)), (.int p1)])) _
      refine iremM X0 hx rfl (hb hby own_d3_2) rfl (by decide) ?_
      show Steps p.tables e below (s₁.setTop (mkF m 3 #[.val (.int p1)] [(.int (p1 % (2 : Int32)))])) _
      refine XS.iconst X0.here hx rfl (hb hby own_d3_3) ?_
      exact kt)
  by_cases hc4_2 : (p1 % (2 : Int32)) = (1 : Int32)
  · -- yes at pc 4: 
    have pre3 : Goes p e below s₁ (entryFrame m #[(.int p1)] 1) s₁ (mkF m 12 #[.val (.int p1)] [(.int (1 : Int32))]) := fun t kt => pre1 t (by
        show Steps p.tables e below (s₁.setTop (mkF m 4 #[.val (.int p1)] [(.int (1 : Int32)), (.int (p1 % (2 : Int32)))])) _
        refine XS.icmpNo X0.here hx rfl (hb hby own_d3_4) rfl (teq hc4_2).2 ?_
        show Steps p.tables e below (s₁.setTop (mkF m 7 #[.val (.int p1)] [])) _
        refine XS.iconst X0.here hx rfl (hb hby own_d3_7) ?_
        show Steps p.tables e below (s₁.setTop (mkF m 8 #[.val (.int p1)] [(.int (1 : Int32))])) _
        refine XS.goto X0.here hx rfl (pc0 := 8) (pc' := 12) rfl (hb hby own_d3_8) (by decide) (by decide) ?_
        exact kt)
    obtain ⟨fs, hr, hrun, hended, hW, hsame⟩ := X0.leave (v := some (.int (1 : Int32))) (fun h => by rw [Bd.returns] at h; cases h)
    refine ⟨_, _, pre3 _ ?_, hrun, hended, _, _, rfl, ?_, ⟨_, rfl⟩, hW, hsame.mono (by decide) (by decide)⟩
    · show Steps p.tables e below (s₁.setTop (mkF m 12 #[.val (.int p1)] [(.int (1 : Int32))])) _
      exact retN X0 hx (t := .boolean) Bd.returns (by simp) (hb hby own_d3_12) hr
    · show Q_own_rm3 Z p1 h0 n0 _ s₁.heap _
      rw [e0]
      exact ⟨by rw [if_pos (own_n1 p1 hc4_2)], N0, rfl⟩
  · -- no at pc 4: 
    have pre4 : Goes p e below s₁ (entryFrame m #[(.int p1)] 1) s₁ (mkF m 12 #[.val (.int p1)] [(.int (0 : Int32))]) := fun t kt => pre1 t (by
        show Steps p.tables e below (s₁.setTop (mkF m 4 #[.val (.int p1)] [(.int (1 : Int32)), (.int (p1 % (2 : Int32)))])) _
        refine XS.icmpYes X0.here hx rfl (pc0 := 4) (pc' := 11) rfl (hb hby own_d3_4) rfl (feq hc4_2).2 (by decide) (by decide) ?_
        show Steps p.tables e below (s₁.setTop (mkF m 11 #[.val (.int p1)] [])) _
        refine XS.iconst X0.here hx rfl (hb hby own_d3_11) ?_
        exact kt)
    obtain ⟨fs, hr, hrun, hended, hW, hsame⟩ := X0.leave (v := some (.int (0 : Int32))) (fun h => by rw [Bd.returns] at h; cases h)
    refine ⟨_, _, pre4 _ ?_, hrun, hended, _, _, rfl, ?_, ⟨_, rfl⟩, hW, hsame.mono (by decide) (by decide)⟩
    · show Steps p.tables e below (s₁.setTop (mkF m 12 #[.val (.int p1)] [(.int (0 : Int32))])) _
      exact retN X0 hx (t := .boolean) Bd.returns (by simp) (hb hby own_d3_12) hr
    · show Q_own_rm3 Z p1 h0 n0 _ s₁.heap _
      rw [e0]
      exact ⟨by rw [if_neg (own_n2 p1 hc4_2)], N0, rfl⟩
theorem own_pn_own_rm0 : plainName "com/example/unicept/unicept/ConstantSystemTagPinLaw" = true := by first | (simp [plainName, overriddenIn]; done) | decide +kernel
theorem own_ef_own_rm0 (m : MethodId) (x0 : Int32) (x1 : Int32) : entryFrame m #[(.int x0), (.int x1)] maxLocals = mkF m 0 #[.val (.int x0), .val (.int x1), .unset, .unset, .unset] [] := by first | (simp [entryFrame, mkF, argsToLocals, Value.category, maxLocals]; done) | rfl
def Q_own_rm0 (Z : State) (goal : Int32) (flag : Int32) (h0 : Heap) (n0 : Nat) (v : Option Value) (h : Heap) (L : List Loc) : Prop := v = some (.int (1 : Int32)) ∧ Fr n0 L
set_option maxRecDepth 65536 in
set_option maxHeartbeats 40000000 in
theorem own_rm0 (l : Launch) (Z : State) (a0 : Array Value) (hw : ∀ d ∈ tables_1, d.before a0 Z = true) (ws : List Jvm.Cond) (goal : Int32) (flag : Int32) (h0 : Heap) (n0 : Nat) (Z0 : n0 ≤ h0.size) :
    MetFree l x (head1 (Jvm.Cond.code x code maxLocals ret :: ws) room_1) (fun a U => a = #[(.int goal), (.int flag)] ∧ Z.Warmed39 U.vm ∧ U.heap = h0) (fun _ _ _ _ _ => True) (fun _ U o U' => ∃ v L, o = .returned v ∧ Q_own_rm0 Z goal flag h0 n0 v U'.heap L ∧ FrameEnd U o U' L room_1.cells room_1.slots) := by
  refine MetFree.of_bodySF (plainFor_of_name own_pn_own_rm0) hisR ?_
  intro p e s m args below meth c s₁ Bd hml0 hP hK
  obtain ⟨rfl, hZ, hh⟩ := hP
  have hx := Bd.exec
  have hby := Bd.bytes
  have hml : c.maxLocals = 5 := hml0
  have hown : s.vm.findClass "com/example/unicept/unicept/ConstantSystemTagPinLaw" = some m.cls := findClass_of_methodNamed Bd.named
  have hnm := (name_of_methodNamed Bd.named Bd.method).1
  have X0 : Stand p l e room_1 s m #[(.int goal), (.int flag)] below meth c s₁ [] 0 0 := Stand.of_body Bd
  have e0 : s₁.heap = h0 := by rw [← hh, Bd.state]; rfl
  have N0 := Fr.nil n0
  have pre0 : Goes p e below s₁ (entryFrame m #[(.int goal), (.int flag)] maxLocals) s₁ (mkF m 0 #[.val (.int goal), .val (.int flag), .unset, .unset, .unset] []) := fun t k => castTop (own_ef_own_rm0 m goal flag) k
  have pre1 : Goes p e below s₁ (entryFrame m #[(.int goal), (.int flag)] maxLocals) s₁ (mkF m 8 #[.val (.int goal), .val (.int flag), .val (.int (goal &&& (1073741823 : Int32))), .unset, .unset] [(.int (flag &&& (1 : Int32)))]) := fun t kt => pre0 t (by
      show Steps p.tables e below (s₁.setTop (mkF m 0 #[.val (.int goal), .val (.int flag), .unset, .unset, .unset] [])) _
      refine XS.iloadN X0.here hx rfl (hb hby at_0) rfl ?_
      show Steps p.tables e below (s₁.setTop (mkF m 1 #[.val (.int goal), .val (.int flag), .unset, .unset, .unset] [(.int goal)])) _
      refine X0.ldcInt hx hown (mvT hZ (hw _ (List.mem_of_getElem? (i := 0) rfl))) (g := (mkF m 1 #[.val (.int goal), .val (.int flag), .unset, .unset, .unset] [(.int goal)])) rfl (hb hby at_1) _ ?_
      show Steps p.tables e below (s₁.setTop (mkF m 3 #[.val (.int goal), .val (.int flag), .unset, .unset, .unset] [(.int (1073741823 : Int32)), (.int goal)])) _
      refine XS.iand X0.here hx rfl (hb hby at_3) rfl ?_
      show Steps p.tables e below (s₁.setTop (mkF m 4 #[.val (.int goal), .val (.int flag), .unset, .unset, .unset] [(.int (goal &&& (1073741823 : Int32)))])) _
      refine XS.istoreN X0.here hx rfl (hb hby at_4) rfl (l' := #[.val (.int goal), .val (.int flag), .val (.int (goal &&& (1073741823 : Int32))), .unset, .unset]) rfl ?_
      show Steps p.tables e below (s₁.setTop (mkF m 5 #[.val (.int goal), .val (.int flag), .val (.int (goal &&& (1073741823 : Int32))), .unset, .unset] [])) _
      refine XS.iloadN X0.here hx rfl (hb hby at_5) rfl ?_
      show Steps p.tables e below (s₁.setTop (mkF m 6 #[.val (.int goal), .val (.int flag), .val (.int (goal &&& (1073741823 : Int32))), .unset, .unset] [(.int flag)])) _
      refine XS.iconst X0.here hx rfl (hb hby at_6) ?_
      show Steps p.tables e below (s₁.setTop (mkF m 7 #[.val (.int goal), .val (.int flag), .val (.int (goal &&& (1073741823 : Int32))), .unset, .unset] [(.int (1 : Int32)), (.int flag)])) _
      refine XS.iand X0.here hx rfl (hb hby at_7) rfl ?_
      exact kt)
  by_cases hc8_2 : (flag &&& (1 : Int32)) = (0 : Int32)
  · -- yes at pc 8: 
    have pre3 : Goes p e below s₁ (entryFrame m #[(.int goal), (.int flag)] maxLocals) s₁ (mkF m 19 #[.val (.int goal), .val (.int flag), .val (.int (goal &&& (1073741823 : Int32))), .val (.int (0 : Int32)), .unset] [(.int (0 : Int32)), (.int (goal &&& (1073741823 : Int32)))]) := fun t kt => pre1 t (by
        show Steps p.tables e below (s₁.setTop (mkF m 8 #[.val (.int goal), .val (.int flag), .val (.int (goal &&& (1073741823 : Int32))), .unset, .unset] [(.int (flag &&& (1 : Int32)))])) _
        refine XS.ifYes X0.here hx rfl (pc0 := 8) (pc' := 15) rfl (hb hby at_8) rfl ((if0 _ _).trans (teq hc8_2).1) (by decide) (by decide) ?_
        show Steps p.tables e below (s₁.setTop (mkF m 15 #[.val (.int goal), .val (.int flag), .val (.int (goal &&& (1073741823 : Int32))), .unset, .unset] [])) _
        refine XS.iconst X0.here hx rfl (hb hby at_15) ?_
        show Steps p.tables e below (s₁.setTop (mkF m 16 #[.val (.int goal), .val (.int flag), .val (.int (goal &&& (1073741823 : Int32))), .unset, .unset] [(.int (0 : Int32))])) _
        refine XS.istoreN X0.here hx rfl (hb hby at_16) rfl (l' := #[.val (.int goal), .val (.int flag), .val (.int (goal &&& (1073741823 : Int32))), .val (.int (0 : Int32)), .unset]) rfl ?_
        show Steps p.tables e below (s₁.setTop (mkF m 17 #[.val (.int goal), .val (.int flag), .val (.int (goal &&& (1073741823 : Int32))), .val (.int (0 : Int32)), .unset] [])) _
        refine XS.iloadN X0.here hx rfl (hb hby at_17) rfl ?_
        show Steps p.tables e below (s₁.setTop (mkF m 18 #[.val (.int goal), .val (.int flag), .val (.int (goal &&& (1073741823 : Int32))), .val (.int (0 : Int32)), .unset] [(.int (goal &&& (1073741823 : Int32)))])) _
        refine XS.iloadN X0.here hx rfl (hb hby at_18) rfl ?_
        exact kt)
    obtain ⟨_, _, ⟨T4, L4, k4, n4⟩, -, X4, ⟨Lc4, hQ4, l4, y4, z4⟩, st4⟩ := Jvm.LawKit.callS X0 hx (y := (⟨"com/example/unicept/unicept/ConstantSystem", "tag", "(IZ)I"⟩ : MethodName)) hown (mvT hZ (hw _ (List.mem_of_getElem? (i := 1) rfl))) (mvT hZ (hw _ (List.mem_of_getElem? (i := 2) rfl))) (mvT hZ (hw _ (List.mem_of_getElem? (i := 3) rfl))) (mvT hZ (hw _ (List.mem_of_getElem? (i := 4) rfl))) (by decide) (backOf (W := 0) (own_rm1_0 l Z a0 hw [] (goal &&& (1073741823 : Int32)) h0 n0 Z0 ) hZ (hw _ (List.mem_of_getElem? (i := 4) rfl)) (hw _ (List.mem_of_getElem? (i := 3) rfl)) (by decide) (by decide)) (g := (mkF m 19 #[.val (.int goal), .val (.int flag), .val (.int (goal &&& (1073741823 : Int32))), .val (.int (0 : Int32)), .unset] [(.int (0 : Int32)), (.int (goal &&& (1073741823 : Int32)))])) rfl (by rw [hml]; rfl) (argsL := [(.int (goal &&& (1073741823 : Int32))), (.int (0 : Int32))]) (rest := []) (lenOf own_pd0 rfl) rfl (by show 2 * 0 + _ ≤ _; exact Nat.le_of_eq rfl) (hb hby at_19) (fun _ _ => ⟨rfl, e0, (by decide : 0 + 0 ≤ _), (by decide : 0 + 0 ≤ _)⟩)
    dsimp only [Pt.U, Pt.locs, Pt.cells, Pt.slots] at X4 l4 y4 z4 st4 hQ4
    subst l4 y4 z4
    obtain ⟨rfl, N4q, e4⟩ := hQ4
    have N4 := Fr.app N0 N4q
    have pre5 : Goes p e below s₁ (entryFrame m #[(.int goal), (.int flag)] maxLocals) T4 (mkF m 22 #[.val (.int goal), .val (.int flag), .val (.int (goal &&& (1073741823 : Int32))), .val (.int (0 : Int32)), .unset] [(.int (((goal &&& (1073741823 : Int32)) * (2 : Int32)) + (0 : Int32)))]) := fun t kt => pre3 t (st4 t kt)
    have pre6 : Goes p e below s₁ (entryFrame m #[(.int goal), (.int flag)] maxLocals) T4 (mkF m 33 #[.val (.int goal), .val (.int flag), .val (.int (goal &&& (1073741823 : Int32))), .val (.int (0 : Int32)), .val (.int (((goal &&& (1073741823 : Int32)) * (2 : Int32)) + (0 : Int32)))] [(.int (((goal &&& (1073741823 : Int32)) * (2 : Int32)) + (0 : Int32)))]) := fun t kt => pre5 t (by
        show Steps p.tables e below (T4.setTop (mkF m 22 #[.val (.int goal), .val (.int flag), .val (.int (goal &&& (1073741823 : Int32))), .val (.int (0 : Int32)), .unset] [(.int (((goal &&& (1073741823 : Int32)) * (2 : Int32)) + (0 : Int32)))])) _
        refine XS.istore X4.here hx rfl (hb hby at_22) rfl (l' := #[.val (.int goal), .val (.int flag), .val (.int (goal &&& (1073741823 : Int32))), .val (.int (0 : Int32)), .val (.int (((goal &&& (1073741823 : Int32)) * (2 : Int32)) + (0 : Int32)))]) rfl ?_
        show Steps p.tables e below (T4.setTop (mkF m 24 #[.val (.int goal), .val (.int flag), .val (.int (goal &&& (1073741823 : Int32))), .val (.int (0 : Int32)), .val (.int (((goal &&& (1073741823 : Int32)) * (2 : Int32)) + (0 : Int32)))] [])) _
        refine XS.iload X4.here hx rfl (hb hby at_24) rfl ?_
        show Steps p.tables e below (T4.setTop (mkF m 26 #[.val (.int goal), .val (.int flag), .val (.int (goal &&& (1073741823 : Int32))), .val (.int (0 : Int32)), .val (.int (((goal &&& (1073741823 : Int32)) * (2 : Int32)) + (0 : Int32)))] [(.int (((goal &&& (1073741823 : Int32)) * (2 : Int32)) + (0 : Int32)))])) _
        refine XS.ifYes X4.here hx rfl (pc0 := 26) (pc' := 31) rfl (hb hby at_26) rfl ((if0 _ _).trans (flt (own_n3 goal flag hc8_2)).2.1) (by decide) (by decide) ?_
        show Steps p.tables e below (T4.setTop (mkF m 31 #[.val (.int goal), .val (.int flag), .val (.int (goal &&& (1073741823 : Int32))), .val (.int (0 : Int32)), .val (.int (((goal &&& (1073741823 : Int32)) * (2 : Int32)) + (0 : Int32)))] [])) _
        refine XS.iload X4.here hx rfl (hb hby at_31) rfl ?_
        exact kt)
    obtain ⟨_, _, ⟨T7, L7, k7, n7⟩, -, X7, ⟨Lc7, hQ7, l7, y7, z7⟩, st7⟩ := Jvm.LawKit.callS X4 hx (y := (⟨"com/example/unicept/unicept/ConstantSystem", "goal", "(I)I"⟩ : MethodName)) hown (mvT hZ (hw _ (List.mem_of_getElem? (i := 5) rfl))) (mvT hZ (hw _ (List.mem_of_getElem? (i := 6) rfl))) (mvT hZ (hw _ (List.mem_of_getElem? (i := 3) rfl))) (mvT hZ (hw _ (List.mem_of_getElem? (i := 7) rfl))) (by decide) (backOf (W := 0) (own_rm2 l Z a0 hw [] (((goal &&& (1073741823 : Int32)) * (2 : Int32)) + (0 : Int32)) h0 n0 Z0 ) hZ (hw _ (List.mem_of_getElem? (i := 7) rfl)) (hw _ (List.mem_of_getElem? (i := 3) rfl)) (by decide) (by decide)) (g := (mkF m 33 #[.val (.int goal), .val (.int flag), .val (.int (goal &&& (1073741823 : Int32))), .val (.int (0 : Int32)), .val (.int (((goal &&& (1073741823 : Int32)) * (2 : Int32)) + (0 : Int32)))] [(.int (((goal &&& (1073741823 : Int32)) * (2 : Int32)) + (0 : Int32)))])) rfl (by rw [hml]; rfl) (argsL := [(.int (((goal &&& (1073741823 : Int32)) * (2 : Int32)) + (0 : Int32)))]) (rest := []) (lenOf own_pd1 rfl) rfl (by show 2 * 0 + _ ≤ _; exact Nat.le_of_eq rfl) (hb hby at_33) (fun _ _ => ⟨rfl, e4, (by decide : 0 + 0 ≤ _), (by decide : 0 + 0 ≤ _)⟩)
    dsimp only [Pt.U, Pt.locs, Pt.cells, Pt.slots] at X7 l7 y7 z7 st7 hQ7
    subst l7 y7 z7
    obtain ⟨rfl, N7q, e7⟩ := hQ7
    have N7 := Fr.app N4 N7q
    have pre8 : Goes p e below s₁ (entryFrame m #[(.int goal), (.int flag)] maxLocals) T7 (mkF m 36 #[.val (.int goal), .val (.int flag), .val (.int (goal &&& (1073741823 : Int32))), .val (.int (0 : Int32)), .val (.int (((goal &&& (1073741823 : Int32)) * (2 : Int32)) + (0 : Int32)))] [(.int ((((goal &&& (1073741823 : Int32)) * (2 : Int32)) + (0 : Int32)) / (2 : Int32)))]) := fun t kt => pre6 t (st7 t kt)
    have pre9 : Goes p e below s₁ (entryFrame m #[(.int goal), (.int flag)] maxLocals) T7 (mkF m 44 #[.val (.int goal), .val (.int flag), .val (.int (goal &&& (1073741823 : Int32))), .val (.int (0 : Int32)), .val (.int (((goal &&& (1073741823 : Int32)) * (2 : Int32)) + (0 : Int32)))] [(.int (((goal &&& (1073741823 : Int32)) * (2 : Int32)) + (0 : Int32)))]) := fun t kt => pre8 t (by
        show Steps p.tables e below (T7.setTop (mkF m 36 #[.val (.int goal), .val (.int flag), .val (.int (goal &&& (1073741823 : Int32))), .val (.int (0 : Int32)), .val (.int (((goal &&& (1073741823 : Int32)) * (2 : Int32)) + (0 : Int32)))] [(.int ((((goal &&& (1073741823 : Int32)) * (2 : Int32)) + (0 : Int32)) / (2 : Int32)))])) _
        refine XS.iloadN X7.here hx rfl (hb hby at_36) rfl ?_
        show Steps p.tables e below (T7.setTop (mkF m 37 #[.val (.int goal), .val (.int flag), .val (.int (goal &&& (1073741823 : Int32))), .val (.int (0 : Int32)), .val (.int (((goal &&& (1073741823 : Int32)) * (2 : Int32)) + (0 : Int32)))] [(.int (goal &&& (1073741823 : Int32))), (.int ((((goal &&& (1073741823 : Int32)) * (2 : Int32)) + (0 : Int32)) / (2 : Int32)))])) _
        refine XS.icmpYes X7.here hx rfl (pc0 := 37) (pc' := 42) rfl (hb hby at_37) rfl (teq (own_n4 goal flag hc8_2)).1 (by decide) (by decide) ?_
        show Steps p.tables e below (T7.setTop (mkF m 42 #[.val (.int goal), .val (.int flag), .val (.int (goal &&& (1073741823 : Int32))), .val (.int (0 : Int32)), .val (.int (((goal &&& (1073741823 : Int32)) * (2 : Int32)) + (0 : Int32)))] [])) _
        refine XS.iload X7.here hx rfl (hb hby at_42) rfl ?_
        exact kt)
    obtain ⟨_, _, ⟨T10, L10, k10, n10⟩, -, X10, ⟨Lc10, hQ10, l10, y10, z10⟩, st10⟩ := Jvm.LawKit.callS X7 hx (y := (⟨"com/example/unicept/unicept/ConstantSystem", "isRight", "(I)Z"⟩ : MethodName)) hown (mvT hZ (hw _ (List.mem_of_getElem? (i := 8) rfl))) (mvT hZ (hw _ (List.mem_of_getElem? (i := 9) rfl))) (mvT hZ (hw _ (List.mem_of_getElem? (i := 3) rfl))) (mvT hZ (hw _ (List.mem_of_getElem? (i := 10) rfl))) (by decide) (backOf (W := 0) (own_rm3 l Z a0 hw [] (((goal &&& (1073741823 : Int32)) * (2 : Int32)) + (0 : Int32)) h0 n0 Z0 ) hZ (hw _ (List.mem_of_getElem? (i := 10) rfl)) (hw _ (List.mem_of_getElem? (i := 3) rfl)) (by decide) (by decide)) (g := (mkF m 44 #[.val (.int goal), .val (.int flag), .val (.int (goal &&& (1073741823 : Int32))), .val (.int (0 : Int32)), .val (.int (((goal &&& (1073741823 : Int32)) * (2 : Int32)) + (0 : Int32)))] [(.int (((goal &&& (1073741823 : Int32)) * (2 : Int32)) + (0 : Int32)))])) rfl (by rw [hml]; rfl) (argsL := [(.int (((goal &&& (1073741823 : Int32)) * (2 : Int32)) + (0 : Int32)))]) (rest := []) (lenOf own_pd2 rfl) rfl (by show 2 * 0 + _ ≤ _; exact Nat.le_of_eq rfl) (hb hby at_44) (fun _ _ => ⟨rfl, e7, (by decide : 0 + 0 ≤ _), (by decide : 0 + 0 ≤ _)⟩)
    dsimp only [Pt.U, Pt.locs, Pt.cells, Pt.slots] at X10 l10 y10 z10 st10 hQ10
    subst l10 y10 z10
    obtain ⟨rfl, N10q, e10⟩ := hQ10
    have N10 := Fr.app N7 N10q
    have pre11 : Goes p e below s₁ (entryFrame m #[(.int goal), (.int flag)] maxLocals) T10 (mkF m 47 #[.val (.int goal), .val (.int flag), .val (.int (goal &&& (1073741823 : Int32))), .val (.int (0 : Int32)), .val (.int (((goal &&& (1073741823 : Int32)) * (2 : Int32)) + (0 : Int32)))] [(.int (if ((((goal &&& (1073741823 : Int32)) * (2 : Int32)) + (0 : Int32)) % (2 : Int32)).toInt = 1 then 1 else 0))]) := fun t kt => pre9 t (st10 t kt)
    have pre12 : Goes p e below s₁ (entryFrame m #[(.int goal), (.int flag)] maxLocals) T10 (mkF m 56 #[.val (.int goal), .val (.int flag), .val (.int (goal &&& (1073741823 : Int32))), .val (.int (0 : Int32)), .val (.int (((goal &&& (1073741823 : Int32)) * (2 : Int32)) + (0 : Int32)))] [(.int (1 : Int32))]) := fun t kt => pre11 t (by
        show Steps p.tables e below (T10.setTop (mkF m 47 #[.val (.int goal), .val (.int flag), .val (.int (goal &&& (1073741823 : Int32))), .val (.int (0 : Int32)), .val (.int (((goal &&& (1073741823 : Int32)) * (2 : Int32)) + (0 : Int32)))] [(.int (if ((((goal &&& (1073741823 : Int32)) * (2 : Int32)) + (0 : Int32)) % (2 : Int32)).toInt = 1 then 1 else 0))])) _
        refine XS.iloadN X10.here hx rfl (hb hby at_47) rfl ?_
        show Steps p.tables e below (T10.setTop (mkF m 48 #[.val (.int goal), .val (.int flag), .val (.int (goal &&& (1073741823 : Int32))), .val (.int (0 : Int32)), .val (.int (((goal &&& (1073741823 : Int32)) * (2 : Int32)) + (0 : Int32)))] [(.int (0 : Int32)), (.int (if ((((goal &&& (1073741823 : Int32)) * (2 : Int32)) + (0 : Int32)) % (2 : Int32)).toInt = 1 then 1 else 0))])) _
        refine XS.icmpNo X10.here hx rfl (hb hby at_48) rfl (teq (if_neg (own_n5 goal flag hc8_2) : (if ((((goal &&& (1073741823 : Int32)) * (2 : Int32)) + (0 : Int32)) % (2 : Int32)).toInt = 1 then 1 else 0) = (0 : Int32))).2 ?_
        show Steps p.tables e below (T10.setTop (mkF m 51 #[.val (.int goal), .val (.int flag), .val (.int (goal &&& (1073741823 : Int32))), .val (.int (0 : Int32)), .val (.int (((goal &&& (1073741823 : Int32)) * (2 : Int32)) + (0 : Int32)))] [])) _
        refine XS.iconst X10.here hx rfl (hb hby at_51) ?_
        show Steps p.tables e below (T10.setTop (mkF m 52 #[.val (.int goal), .val (.int flag), .val (.int (goal &&& (1073741823 : Int32))), .val (.int (0 : Int32)), .val (.int (((goal &&& (1073741823 : Int32)) * (2 : Int32)) + (0 : Int32)))] [(.int (1 : Int32))])) _
        refine XS.goto X10.here hx rfl (pc0 := 52) (pc' := 56) rfl (hb hby at_52) (by decide) (by decide) ?_
        exact kt)
    obtain ⟨fs, hr, hrun, hended, hW, hsame⟩ := X10.leave (v := some (.int (1 : Int32))) (fun h => by rw [Bd.returns] at h; cases h)
    refine ⟨_, _, pre12 _ ?_, hrun, hended, _, _, rfl, ?_, ⟨_, rfl⟩, hW, hsame.mono (by decide) (by decide)⟩
    · show Steps p.tables e below (T10.setTop (mkF m 56 #[.val (.int goal), .val (.int flag), .val (.int (goal &&& (1073741823 : Int32))), .val (.int (0 : Int32)), .val (.int (((goal &&& (1073741823 : Int32)) * (2 : Int32)) + (0 : Int32)))] [(.int (1 : Int32))])) _
      exact retN X10 hx (t := .boolean) Bd.returns (by simp) (hb hby at_56) hr
    · show Q_own_rm0 Z goal flag h0 n0 _ T10.heap _
      rw [e10]
      exact ⟨rfl, N10⟩
  · -- no at pc 8: 
    have pre13 : Goes p e below s₁ (entryFrame m #[(.int goal), (.int flag)] maxLocals) s₁ (mkF m 19 #[.val (.int goal), .val (.int flag), .val (.int (goal &&& (1073741823 : Int32))), .val (.int (1 : Int32)), .unset] [(.int (1 : Int32)), (.int (goal &&& (1073741823 : Int32)))]) := fun t kt => pre1 t (by
        show Steps p.tables e below (s₁.setTop (mkF m 8 #[.val (.int goal), .val (.int flag), .val (.int (goal &&& (1073741823 : Int32))), .unset, .unset] [(.int (flag &&& (1 : Int32)))])) _
        refine XS.ifNo X0.here hx rfl (hb hby at_8) rfl ((if0 _ _).trans (feq hc8_2).1) ?_
        show Steps p.tables e below (s₁.setTop (mkF m 11 #[.val (.int goal), .val (.int flag), .val (.int (goal &&& (1073741823 : Int32))), .unset, .unset] [])) _
        refine XS.iconst X0.here hx rfl (hb hby at_11) ?_
        show Steps p.tables e below (s₁.setTop (mkF m 12 #[.val (.int goal), .val (.int flag), .val (.int (goal &&& (1073741823 : Int32))), .unset, .unset] [(.int (1 : Int32))])) _
        refine XS.goto X0.here hx rfl (pc0 := 12) (pc' := 16) rfl (hb hby at_12) (by decide) (by decide) ?_
        show Steps p.tables e below (s₁.setTop (mkF m 16 #[.val (.int goal), .val (.int flag), .val (.int (goal &&& (1073741823 : Int32))), .unset, .unset] [(.int (1 : Int32))])) _
        refine XS.istoreN X0.here hx rfl (hb hby at_16) rfl (l' := #[.val (.int goal), .val (.int flag), .val (.int (goal &&& (1073741823 : Int32))), .val (.int (1 : Int32)), .unset]) rfl ?_
        show Steps p.tables e below (s₁.setTop (mkF m 17 #[.val (.int goal), .val (.int flag), .val (.int (goal &&& (1073741823 : Int32))), .val (.int (1 : Int32)), .unset] [])) _
        refine XS.iloadN X0.here hx rfl (hb hby at_17) rfl ?_
        show Steps p.tables e below (s₁.setTop (mkF m 18 #[.val (.int goal), .val (.int flag), .val (.int (goal &&& (1073741823 : Int32))), .val (.int (1 : Int32)), .unset] [(.int (goal &&& (1073741823 : Int32)))])) _
        refine XS.iloadN X0.here hx rfl (hb hby at_18) rfl ?_
        exact kt)
    obtain ⟨_, _, ⟨T14, L14, k14, n14⟩, -, X14, ⟨Lc14, hQ14, l14, y14, z14⟩, st14⟩ := Jvm.LawKit.callS X0 hx (y := (⟨"com/example/unicept/unicept/ConstantSystem", "tag", "(IZ)I"⟩ : MethodName)) hown (mvT hZ (hw _ (List.mem_of_getElem? (i := 1) rfl))) (mvT hZ (hw _ (List.mem_of_getElem? (i := 2) rfl))) (mvT hZ (hw _ (List.mem_of_getElem? (i := 3) rfl))) (mvT hZ (hw _ (List.mem_of_getElem? (i := 4) rfl))) (by decide) (backOf (W := 0) (own_rm1_1 l Z a0 hw [] (goal &&& (1073741823 : Int32)) h0 n0 Z0 ) hZ (hw _ (List.mem_of_getElem? (i := 4) rfl)) (hw _ (List.mem_of_getElem? (i := 3) rfl)) (by decide) (by decide)) (g := (mkF m 19 #[.val (.int goal), .val (.int flag), .val (.int (goal &&& (1073741823 : Int32))), .val (.int (1 : Int32)), .unset] [(.int (1 : Int32)), (.int (goal &&& (1073741823 : Int32)))])) rfl (by rw [hml]; rfl) (argsL := [(.int (goal &&& (1073741823 : Int32))), (.int (1 : Int32))]) (rest := []) (lenOf own_pd0 rfl) rfl (by show 2 * 0 + _ ≤ _; exact Nat.le_of_eq rfl) (hb hby at_19) (fun _ _ => ⟨rfl, e0, (by decide : 0 + 0 ≤ _), (by decide : 0 + 0 ≤ _)⟩)
    dsimp only [Pt.U, Pt.locs, Pt.cells, Pt.slots] at X14 l14 y14 z14 st14 hQ14
    subst l14 y14 z14
    obtain ⟨rfl, N14q, e14⟩ := hQ14
    have N14 := Fr.app N0 N14q
    have pre15 : Goes p e below s₁ (entryFrame m #[(.int goal), (.int flag)] maxLocals) T14 (mkF m 22 #[.val (.int goal), .val (.int flag), .val (.int (goal &&& (1073741823 : Int32))), .val (.int (1 : Int32)), .unset] [(.int (((goal &&& (1073741823 : Int32)) * (2 : Int32)) + (1 : Int32)))]) := fun t kt => pre13 t (st14 t kt)
    have pre16 : Goes p e below s₁ (entryFrame m #[(.int goal), (.int flag)] maxLocals) T14 (mkF m 33 #[.val (.int goal), .val (.int flag), .val (.int (goal &&& (1073741823 : Int32))), .val (.int (1 : Int32)), .val (.int (((goal &&& (1073741823 : Int32)) * (2 : Int32)) + (1 : Int32)))] [(.int (((goal &&& (1073741823 : Int32)) * (2 : Int32)) + (1 : Int32)))]) := fun t kt => pre15 t (by
        show Steps p.tables e below (T14.setTop (mkF m 22 #[.val (.int goal), .val (.int flag), .val (.int (goal &&& (1073741823 : Int32))), .val (.int (1 : Int32)), .unset] [(.int (((goal &&& (1073741823 : Int32)) * (2 : Int32)) + (1 : Int32)))])) _
        refine XS.istore X14.here hx rfl (hb hby at_22) rfl (l' := #[.val (.int goal), .val (.int flag), .val (.int (goal &&& (1073741823 : Int32))), .val (.int (1 : Int32)), .val (.int (((goal &&& (1073741823 : Int32)) * (2 : Int32)) + (1 : Int32)))]) rfl ?_
        show Steps p.tables e below (T14.setTop (mkF m 24 #[.val (.int goal), .val (.int flag), .val (.int (goal &&& (1073741823 : Int32))), .val (.int (1 : Int32)), .val (.int (((goal &&& (1073741823 : Int32)) * (2 : Int32)) + (1 : Int32)))] [])) _
        refine XS.iload X14.here hx rfl (hb hby at_24) rfl ?_
        show Steps p.tables e below (T14.setTop (mkF m 26 #[.val (.int goal), .val (.int flag), .val (.int (goal &&& (1073741823 : Int32))), .val (.int (1 : Int32)), .val (.int (((goal &&& (1073741823 : Int32)) * (2 : Int32)) + (1 : Int32)))] [(.int (((goal &&& (1073741823 : Int32)) * (2 : Int32)) + (1 : Int32)))])) _
        refine XS.ifYes X14.here hx rfl (pc0 := 26) (pc' := 31) rfl (hb hby at_26) rfl ((if0 _ _).trans (flt (own_n6 goal flag hc8_2)).2.1) (by decide) (by decide) ?_
        show Steps p.tables e below (T14.setTop (mkF m 31 #[.val (.int goal), .val (.int flag), .val (.int (goal &&& (1073741823 : Int32))), .val (.int (1 : Int32)), .val (.int (((goal &&& (1073741823 : Int32)) * (2 : Int32)) + (1 : Int32)))] [])) _
        refine XS.iload X14.here hx rfl (hb hby at_31) rfl ?_
        exact kt)
    obtain ⟨_, _, ⟨T17, L17, k17, n17⟩, -, X17, ⟨Lc17, hQ17, l17, y17, z17⟩, st17⟩ := Jvm.LawKit.callS X14 hx (y := (⟨"com/example/unicept/unicept/ConstantSystem", "goal", "(I)I"⟩ : MethodName)) hown (mvT hZ (hw _ (List.mem_of_getElem? (i := 5) rfl))) (mvT hZ (hw _ (List.mem_of_getElem? (i := 6) rfl))) (mvT hZ (hw _ (List.mem_of_getElem? (i := 3) rfl))) (mvT hZ (hw _ (List.mem_of_getElem? (i := 7) rfl))) (by decide) (backOf (W := 0) (own_rm2 l Z a0 hw [] (((goal &&& (1073741823 : Int32)) * (2 : Int32)) + (1 : Int32)) h0 n0 Z0 ) hZ (hw _ (List.mem_of_getElem? (i := 7) rfl)) (hw _ (List.mem_of_getElem? (i := 3) rfl)) (by decide) (by decide)) (g := (mkF m 33 #[.val (.int goal), .val (.int flag), .val (.int (goal &&& (1073741823 : Int32))), .val (.int (1 : Int32)), .val (.int (((goal &&& (1073741823 : Int32)) * (2 : Int32)) + (1 : Int32)))] [(.int (((goal &&& (1073741823 : Int32)) * (2 : Int32)) + (1 : Int32)))])) rfl (by rw [hml]; rfl) (argsL := [(.int (((goal &&& (1073741823 : Int32)) * (2 : Int32)) + (1 : Int32)))]) (rest := []) (lenOf own_pd1 rfl) rfl (by show 2 * 0 + _ ≤ _; exact Nat.le_of_eq rfl) (hb hby at_33) (fun _ _ => ⟨rfl, e14, (by decide : 0 + 0 ≤ _), (by decide : 0 + 0 ≤ _)⟩)
    dsimp only [Pt.U, Pt.locs, Pt.cells, Pt.slots] at X17 l17 y17 z17 st17 hQ17
    subst l17 y17 z17
    obtain ⟨rfl, N17q, e17⟩ := hQ17
    have N17 := Fr.app N14 N17q
    have pre18 : Goes p e below s₁ (entryFrame m #[(.int goal), (.int flag)] maxLocals) T17 (mkF m 36 #[.val (.int goal), .val (.int flag), .val (.int (goal &&& (1073741823 : Int32))), .val (.int (1 : Int32)), .val (.int (((goal &&& (1073741823 : Int32)) * (2 : Int32)) + (1 : Int32)))] [(.int ((((goal &&& (1073741823 : Int32)) * (2 : Int32)) + (1 : Int32)) / (2 : Int32)))]) := fun t kt => pre16 t (st17 t kt)
    have pre19 : Goes p e below s₁ (entryFrame m #[(.int goal), (.int flag)] maxLocals) T17 (mkF m 44 #[.val (.int goal), .val (.int flag), .val (.int (goal &&& (1073741823 : Int32))), .val (.int (1 : Int32)), .val (.int (((goal &&& (1073741823 : Int32)) * (2 : Int32)) + (1 : Int32)))] [(.int (((goal &&& (1073741823 : Int32)) * (2 : Int32)) + (1 : Int32)))]) := fun t kt => pre18 t (by
        show Steps p.tables e below (T17.setTop (mkF m 36 #[.val (.int goal), .val (.int flag), .val (.int (goal &&& (1073741823 : Int32))), .val (.int (1 : Int32)), .val (.int (((goal &&& (1073741823 : Int32)) * (2 : Int32)) + (1 : Int32)))] [(.int ((((goal &&& (1073741823 : Int32)) * (2 : Int32)) + (1 : Int32)) / (2 : Int32)))])) _
        refine XS.iloadN X17.here hx rfl (hb hby at_36) rfl ?_
        show Steps p.tables e below (T17.setTop (mkF m 37 #[.val (.int goal), .val (.int flag), .val (.int (goal &&& (1073741823 : Int32))), .val (.int (1 : Int32)), .val (.int (((goal &&& (1073741823 : Int32)) * (2 : Int32)) + (1 : Int32)))] [(.int (goal &&& (1073741823 : Int32))), (.int ((((goal &&& (1073741823 : Int32)) * (2 : Int32)) + (1 : Int32)) / (2 : Int32)))])) _
        refine XS.icmpYes X17.here hx rfl (pc0 := 37) (pc' := 42) rfl (hb hby at_37) rfl (teq (own_n7 goal flag hc8_2)).1 (by decide) (by decide) ?_
        show Steps p.tables e below (T17.setTop (mkF m 42 #[.val (.int goal), .val (.int flag), .val (.int (goal &&& (1073741823 : Int32))), .val (.int (1 : Int32)), .val (.int (((goal &&& (1073741823 : Int32)) * (2 : Int32)) + (1 : Int32)))] [])) _
        refine XS.iload X17.here hx rfl (hb hby at_42) rfl ?_
        exact kt)
    obtain ⟨_, _, ⟨T20, L20, k20, n20⟩, -, X20, ⟨Lc20, hQ20, l20, y20, z20⟩, st20⟩ := Jvm.LawKit.callS X17 hx (y := (⟨"com/example/unicept/unicept/ConstantSystem", "isRight", "(I)Z"⟩ : MethodName)) hown (mvT hZ (hw _ (List.mem_of_getElem? (i := 8) rfl))) (mvT hZ (hw _ (List.mem_of_getElem? (i := 9) rfl))) (mvT hZ (hw _ (List.mem_of_getElem? (i := 3) rfl))) (mvT hZ (hw _ (List.mem_of_getElem? (i := 10) rfl))) (by decide) (backOf (W := 0) (own_rm3 l Z a0 hw [] (((goal &&& (1073741823 : Int32)) * (2 : Int32)) + (1 : Int32)) h0 n0 Z0 ) hZ (hw _ (List.mem_of_getElem? (i := 10) rfl)) (hw _ (List.mem_of_getElem? (i := 3) rfl)) (by decide) (by decide)) (g := (mkF m 44 #[.val (.int goal), .val (.int flag), .val (.int (goal &&& (1073741823 : Int32))), .val (.int (1 : Int32)), .val (.int (((goal &&& (1073741823 : Int32)) * (2 : Int32)) + (1 : Int32)))] [(.int (((goal &&& (1073741823 : Int32)) * (2 : Int32)) + (1 : Int32)))])) rfl (by rw [hml]; rfl) (argsL := [(.int (((goal &&& (1073741823 : Int32)) * (2 : Int32)) + (1 : Int32)))]) (rest := []) (lenOf own_pd2 rfl) rfl (by show 2 * 0 + _ ≤ _; exact Nat.le_of_eq rfl) (hb hby at_44) (fun _ _ => ⟨rfl, e17, (by decide : 0 + 0 ≤ _), (by decide : 0 + 0 ≤ _)⟩)
    dsimp only [Pt.U, Pt.locs, Pt.cells, Pt.slots] at X20 l20 y20 z20 st20 hQ20
    subst l20 y20 z20
    obtain ⟨rfl, N20q, e20⟩ := hQ20
    have N20 := Fr.app N17 N20q
    have pre21 : Goes p e below s₁ (entryFrame m #[(.int goal), (.int flag)] maxLocals) T20 (mkF m 47 #[.val (.int goal), .val (.int flag), .val (.int (goal &&& (1073741823 : Int32))), .val (.int (1 : Int32)), .val (.int (((goal &&& (1073741823 : Int32)) * (2 : Int32)) + (1 : Int32)))] [(.int (if ((((goal &&& (1073741823 : Int32)) * (2 : Int32)) + (1 : Int32)) % (2 : Int32)).toInt = 1 then 1 else 0))]) := fun t kt => pre19 t (st20 t kt)
    have pre22 : Goes p e below s₁ (entryFrame m #[(.int goal), (.int flag)] maxLocals) T20 (mkF m 56 #[.val (.int goal), .val (.int flag), .val (.int (goal &&& (1073741823 : Int32))), .val (.int (1 : Int32)), .val (.int (((goal &&& (1073741823 : Int32)) * (2 : Int32)) + (1 : Int32)))] [(.int (1 : Int32))]) := fun t kt => pre21 t (by
        show Steps p.tables e below (T20.setTop (mkF m 47 #[.val (.int goal), .val (.int flag), .val (.int (goal &&& (1073741823 : Int32))), .val (.int (1 : Int32)), .val (.int (((goal &&& (1073741823 : Int32)) * (2 : Int32)) + (1 : Int32)))] [(.int (if ((((goal &&& (1073741823 : Int32)) * (2 : Int32)) + (1 : Int32)) % (2 : Int32)).toInt = 1 then 1 else 0))])) _
        refine XS.iloadN X20.here hx rfl (hb hby at_47) rfl ?_
        show Steps p.tables e below (T20.setTop (mkF m 48 #[.val (.int goal), .val (.int flag), .val (.int (goal &&& (1073741823 : Int32))), .val (.int (1 : Int32)), .val (.int (((goal &&& (1073741823 : Int32)) * (2 : Int32)) + (1 : Int32)))] [(.int (1 : Int32)), (.int (if ((((goal &&& (1073741823 : Int32)) * (2 : Int32)) + (1 : Int32)) % (2 : Int32)).toInt = 1 then 1 else 0))])) _
        refine XS.icmpNo X20.here hx rfl (hb hby at_48) rfl (teq (if_pos (own_n8 goal flag hc8_2) : (if ((((goal &&& (1073741823 : Int32)) * (2 : Int32)) + (1 : Int32)) % (2 : Int32)).toInt = 1 then 1 else 0) = (1 : Int32))).2 ?_
        show Steps p.tables e below (T20.setTop (mkF m 51 #[.val (.int goal), .val (.int flag), .val (.int (goal &&& (1073741823 : Int32))), .val (.int (1 : Int32)), .val (.int (((goal &&& (1073741823 : Int32)) * (2 : Int32)) + (1 : Int32)))] [])) _
        refine XS.iconst X20.here hx rfl (hb hby at_51) ?_
        show Steps p.tables e below (T20.setTop (mkF m 52 #[.val (.int goal), .val (.int flag), .val (.int (goal &&& (1073741823 : Int32))), .val (.int (1 : Int32)), .val (.int (((goal &&& (1073741823 : Int32)) * (2 : Int32)) + (1 : Int32)))] [(.int (1 : Int32))])) _
        refine XS.goto X20.here hx rfl (pc0 := 52) (pc' := 56) rfl (hb hby at_52) (by decide) (by decide) ?_
        exact kt)
    obtain ⟨fs, hr, hrun, hended, hW, hsame⟩ := X20.leave (v := some (.int (1 : Int32))) (fun h => by rw [Bd.returns] at h; cases h)
    refine ⟨_, _, pre22 _ ?_, hrun, hended, _, _, rfl, ?_, ⟨_, rfl⟩, hW, hsame.mono (by decide) (by decide)⟩
    · show Steps p.tables e below (T20.setTop (mkF m 56 #[.val (.int goal), .val (.int flag), .val (.int (goal &&& (1073741823 : Int32))), .val (.int (1 : Int32)), .val (.int (((goal &&& (1073741823 : Int32)) * (2 : Int32)) + (1 : Int32)))] [(.int (1 : Int32))])) _
      exact retN X20 hx (t := .boolean) Bd.returns (by simp) (hb hby at_56) hr
    · show Q_own_rm0 Z goal flag h0 n0 _ T20.heap _
      rw [e20]
      exact ⟨rfl, N20⟩
set_option maxRecDepth 65536 in
set_option maxHeartbeats 40000000 in
theorem comes_1 {Post : Tables → Env → Array Value → State → Outcome → State → Prop} (hpost : ∀ tb e args s v u, (limb_1_1.after args s (.returned v) u = true ∧ limb_1_2.after args s (.returned v) u = true ∧ True) → FrameEnd s (.returned v) u (Jvm.fieldLocs frame_1_writes args s ++ Jvm.arrayLocs frame_1_arrays args s ++ Jvm.staticLocs frame_1_statics s) 0 0 → Post tb e args s (.returned v) u) :
    ArmFor flags0 classFile x code maxLocals ret World_1 tables_1 room_1 Calls_1 rest_1 Pre_1 Post := by
  intro l hfl _ _ p e ha hc hk s m args below hf hA hF happ hP
  obtain ⟨hcalls, hrest, hpre⟩ := hP
  obtain ⟨-, -, -, hnamed, -, -, -, hat⟩ := (Spec.applies_iff hf).mp happ
  obtain ⟨hg, hn⟩ := and_e (Cond.before_iff.mp (show (Jvm.Cond.and given_1 narrow_1).before args s = true from hpre))
  obtain ⟨g5, g6⟩ := and_e hg
  obtain ⟨g7, g8⟩ := and_e g6
  obtain ⟨w0, w1, rfl⟩ : ∃ w0 w1 : Value, args = #[w0, w1] := by
    have hs : args.size = 2 := by simpa [Cond.value, given_1] using g5
    obtain ⟨L⟩ := args
    match L, hs with
    | [w0, w1], _ => exact ⟨w0, w1, rfl⟩
  have hw := fun d (hd : d ∈ tables_1) => atoms_spec (ws := Jvm.Cond.code x code maxLocals ret :: tables_1) hat d (List.mem_cons_of_mem _ hd)
  have hfit : Fit s := fun {y c} hc i hi => by
    obtain ⟨ha, rfl⟩ := Array.getElem?_eq_some_iff.mp hc
    have q := List.all_eq_true.mp ((Array.all_eq_true_iff_forall_mem.mp hF) _ (Array.getElem_mem ha)) i (List.mem_range.mpr hi)
    simpa [Array.getElem?_eq_getElem hi] using q
  obtain ⟨i0, ei0⟩ := is_v g7
  obtain rfl : w0 = (.int i0) := Option.some.inj ei0
  obtain ⟨i1, ei1⟩ := is_v g8
  obtain rfl : w1 = (.int i1) := Option.some.inj ei1
  obtain ⟨n, o, h1, h2, h3, _, L, rfl, ⟨rfl, N⟩, hq⟩ := own_rm0 l s _ hw tables_1 i0 i1  s.heap s.heap.size (Nat.le_refl _)  p e ha hc hk s m _ below hf ((Spec.applies_iff_loose hf).mp happ).1 ⟨rfl, State.Warmed39.refl s, rfl⟩ trivial
  refine ⟨n, _, h1, h2, h3, hpost _ _ _ _ _ _ ⟨Cond.after_iff.mpr rfl, Cond.after_iff.mpr (eq_i res_at (Term.int_eval (1)) rfl), trivial⟩ ⟨hq.1, hq.2.1, (hq.2.2.sift fun y hy => Or.inr (N y hy)).mono (by decide) (by decide)⟩⟩
theorem main_1_1 : Claimed_1_1 := comes_1 fun _ _ _ _ _ _ h hF => ⟨h.1, hF⟩
theorem main_1_2 : Claimed_1_2 := comes_1 fun _ _ _ _ _ _ h hF => ⟨h.2.1, hF⟩
end Jvm.Pilot.@@N@@
namespace Jvm.Pilot.@@N@@
open Jvm Jvm.ClassFile Sem Op Lib Jvm.Free Jvm.Stand Jvm.Pilot.@@N@@.Jvm.D
/-! MADE BY PROGRAM (witnessworld.py) out of the Statement's table words and the real class files: 9 classes; the members and pool entries that the words name. The judged class is class 1, her method 1. -/
namespace start1
open Jvm.ClassFile
def u (s : String) : CpInfo := .utf8 (stringToUtf16 s)
/-- a pool by its gaps: so many unusable entries, then the entry; so many at the end -/
def gap : Nat → List CpInfo → List CpInfo
  | 0, r => r
  | n + 1, r => .unusable :: gap n r
def poolList (es : List (Nat × CpInfo)) (last : Nat) : List CpInfo := es.foldr (fun e r => gap e.1 (e.2 :: r)) (gap last [])
def pool (es : List (Nat × CpInfo)) (last : Nat) : Array CpInfo := ⟨poolList es last⟩
def fileOf (pool : Array CpInfo) (this : Nat) (attrs : Array Attribute := #[]) (ms : Array MethodInfo := #[]) (fl : Nat := 33) (sup : Nat := 0) (ifs : Array Nat := #[]) (fds : Array FieldInfo := #[]) : ClassFile where
  minorVersion := 0
  majorVersion := 65
  constantPool := pool
  accessFlags := fl
  thisClass := this
  superClass := sup
  interfaces := ifs
  fields := fds
  methods := ms
  attributes := attrs
def plain (name : String) (sup : Option ClassId) : Class where
  name := name
  kind := .ordinary
  loader := none
  accessFlags := 33
  super := sup
  interfaces := #[]
  cf := none
  fields := #[]
  methods := #[]
  instanceTypes := #[]
  staticTypes := #[]
  resolved := #[]
  callSites := []
  init := .initialized
  statics := none
  mirror := none

def pool0 : Array CpInfo := pool [(5, u "<init>"), (0, u "()V"), (1, .class_ 10), (1, u "java/lang/Object")] 113

def k0m0 : Method := { name := "<init>", desc := "()V", sig := { parameters := [], returnType := none }, accessFlags := 1, code := none }
/-- java/lang/Object -/
def k0 : Class := { plain "java/lang/Object" none with
  accessFlags := 33
  interfaces := #[]
  cf := some (fileOf pool0 8 #[] #[{ accessFlags := 1, nameIndex := 5, descriptorIndex := 6, attributes := #[] }] 33 0 #[] #[])
  fields := #[]
  methods := #[k0m0]
  instanceTypes := #[]
  staticTypes := #[]
  resolved := Array.replicate 124 none
  statics := none }

def pool1 : Array CpInfo := pool [(2, .class_ 4), (1, u "java/lang/Object"), (0, u "<init>"), (0, u "()V"), (0, .integer 1073741823), (0, .methodref 9 10), (0, .class_ 11), (0, .nameAndType 12 13), (0, u "com/example/unicept/unicept/ConstantSystem"), (0, u "tag"), (0, u "(IZ)I"), (0, .methodref 9 15), (0, .nameAndType 16 17), (0, u "goal"), (0, u "(I)I"), (0, .methodref 9 19), (0, .nameAndType 20 21), (0, u "isRight"), (0, u "(I)Z"), (0, .class_ 23), (0, u "com/example/unicept/unicept/ConstantSystemTagPinLaw"), (2, u "law"), (0, u "(II)Z")] 3

def k1m0 : Method := { name := "<init>", desc := "()V", sig := { parameters := [], returnType := none }, accessFlags := 2, code := none }
def k1c1 : Code := { maxStack := 2, maxLocals := 5, code := code, exceptionTable := #[], attributes := #[] }
def k1m1 : Method := { name := "law", desc := "(II)Z", sig := { parameters := [.int, .int], returnType := some .boolean }, accessFlags := 9, code := some k1c1 }
/-- com/example/unicept/unicept/ConstantSystemTagPinLaw -/
def k1 : Class := { plain "com/example/unicept/unicept/ConstantSystemTagPinLaw" (some 0) with
  accessFlags := 49
  interfaces := #[]
  cf := some (fileOf pool1 22 #[] #[{ accessFlags := 2, nameIndex := 5, descriptorIndex := 6, attributes := #[] }, { accessFlags := 9, nameIndex := 26, descriptorIndex := 27, attributes := #[] }] 49 2 #[] #[])
  fields := #[]
  methods := #[k1m0, k1m1]
  instanceTypes := #[]
  staticTypes := #[]
  resolved := Array.replicate 31 none
  statics := none }

def pool2 : Array CpInfo := pool [(2, .class_ 4), (1, u "java/lang/Object"), (6, .class_ 13), (1, u "com/example/unicept/unicept/ConstantSystem"), (0, u "sides"), (0, u "Ljava/util/List;"), (2, u "constant"), (0, u "Lcom/example/unicept/unicept/Name;"), (4, u "variables"), (76, u "roles"), (14, u "trie"), (0, u "Lcom/example/unicept/unicept/WordTrie;"), (5, u "ownRoot"), (0, u "I"), (2, u "variableRoots"), (0, u "[I"), (19, .class_ 149), (0, u "com/example/unicept/unicept/ConstantSystem$Term"), (13, u "tag"), (7, u "bareLeftIn"), (0, u "[[I"), (3, u "(I)Z"), (6, u "isRight"), (2, u "goal"), (0, u "(I)I"), (6, u "reaching"), (23, u "bareLeft"), (3, u "bareRight"), (49, u "(IZ)I")] 47

def k2c0 : Code := { maxStack := 2, maxLocals := 2, code := prog_4_method_2_code, exceptionTable := #[], attributes := #[] }
def k2m0 : Method := { name := "tag", desc := "(IZ)I", sig := { parameters := [.int, .boolean], returnType := some .int }, accessFlags := 8, code := some k2c0 }
def k2c1 : Code := { maxStack := 2, maxLocals := 1, code := prog_4_method_3_code, exceptionTable := #[], attributes := #[] }
def k2m1 : Method := { name := "goal", desc := "(I)I", sig := { parameters := [.int], returnType := some .int }, accessFlags := 8, code := some k2c1 }
def k2c2 : Code := { maxStack := 2, maxLocals := 1, code := prog_4_method_4_code, exceptionTable := #[], attributes := #[] }
def k2m2 : Method := { name := "isRight", desc := "(I)Z", sig := { parameters := [.int], returnType := some .boolean }, accessFlags := 8, code := some k2c2 }
/-- com/example/unicept/unicept/ConstantSystem -/
def k2 : Class := { plain "com/example/unicept/unicept/ConstantSystem" (some 0) with
  accessFlags := 48
  interfaces := #[]
  cf := some (fileOf pool2 11 #[.nestMembers #[148]] #[{ accessFlags := 8, nameIndex := 163, descriptorIndex := 272, attributes := #[] }, { accessFlags := 8, nameIndex := 186, descriptorIndex := 187, attributes := #[] }, { accessFlags := 8, nameIndex := 183, descriptorIndex := 176, attributes := #[] }] 48 2 #[] #[{ accessFlags := 18, nameIndex := 18, descriptorIndex := 19, attributes := #[] }, { accessFlags := 18, nameIndex := 101, descriptorIndex := 15, attributes := #[] }, { accessFlags := 18, nameIndex := 24, descriptorIndex := 15, attributes := #[] }, { accessFlags := 18, nameIndex := 14, descriptorIndex := 15, attributes := #[] }, { accessFlags := 18, nameIndex := 116, descriptorIndex := 117, attributes := #[] }, { accessFlags := 18, nameIndex := 123, descriptorIndex := 124, attributes := #[] }, { accessFlags := 18, nameIndex := 127, descriptorIndex := 128, attributes := #[] }, { accessFlags := 18, nameIndex := 194, descriptorIndex := 128, attributes := #[] }, { accessFlags := 18, nameIndex := 218, descriptorIndex := 172, attributes := #[] }, { accessFlags := 18, nameIndex := 222, descriptorIndex := 172, attributes := #[] }, { accessFlags := 18, nameIndex := 171, descriptorIndex := 172, attributes := #[] }])
  fields := #[{ name := "constant", type := (.object "com/example/unicept/unicept/Name"), accessFlags := 18, slot := 0, constantValue := 0 }, { name := "roles", type := (.object "java/util/List"), accessFlags := 18, slot := 1, constantValue := 0 }, { name := "variables", type := (.object "java/util/List"), accessFlags := 18, slot := 2, constantValue := 0 }, { name := "sides", type := (.object "java/util/List"), accessFlags := 18, slot := 3, constantValue := 0 }, { name := "trie", type := (.object "com/example/unicept/unicept/WordTrie"), accessFlags := 18, slot := 4, constantValue := 0 }, { name := "ownRoot", type := .int, accessFlags := 18, slot := 5, constantValue := 0 }, { name := "variableRoots", type := (.array .int), accessFlags := 18, slot := 6, constantValue := 0 }, { name := "reaching", type := (.array .int), accessFlags := 18, slot := 7, constantValue := 0 }, { name := "bareLeft", type := (.array (.array .int)), accessFlags := 18, slot := 8, constantValue := 0 }, { name := "bareRight", type := (.array (.array .int)), accessFlags := 18, slot := 9, constantValue := 0 }, { name := "bareLeftIn", type := (.array (.array .int)), accessFlags := 18, slot := 10, constantValue := 0 }]
  methods := #[k2m0, k2m1, k2m2]
  instanceTypes := #[(.object "com/example/unicept/unicept/Name"), (.object "java/util/List"), (.object "java/util/List"), (.object "java/util/List"), (.object "com/example/unicept/unicept/WordTrie"), .int, (.array .int), (.array .int), (.array (.array .int)), (.array (.array .int)), (.array (.array .int))]
  staticTypes := #[]
  resolved := Array.replicate 320 none
  statics := none }

def pool3 : Array CpInfo := pool [(1, u "java/lang/Cloneable"), (0, .class_ 1), (0, u "java/lang/Object"), (0, .class_ 3)] 3

/-- java/lang/Cloneable -/
def k3 : Class := { plain "java/lang/Cloneable" (some 0) with
  accessFlags := 1537
  interfaces := #[]
  cf := some (fileOf pool3 2 #[] #[] 1537 4 #[] #[])
  fields := #[]
  methods := #[]
  instanceTypes := #[]
  staticTypes := #[]
  resolved := Array.replicate 8 none
  statics := none }

def pool4 : Array CpInfo := pool [(1, u "java/io/Serializable"), (0, .class_ 1), (0, u "java/lang/Object"), (0, .class_ 3)] 3

/-- java/io/Serializable -/
def k4 : Class := { plain "java/io/Serializable" (some 0) with
  accessFlags := 1537
  interfaces := #[]
  cf := some (fileOf pool4 2 #[] #[] 1537 4 #[] #[])
  fields := #[]
  methods := #[]
  instanceTypes := #[]
  staticTypes := #[]
  resolved := Array.replicate 8 none
  statics := none }

/-- the primitive byte -/
def k5 : Class := { plain "byte" none with kind := .primitive 'B', accessFlags := 0x411 }
/-- [B -/
def k6 : Class := { plain "[B" (some 0) with kind := .array 5 .byte, interfaces := #[3, 4], accessFlags := 1041 }

/-- the primitive int -/
def k7 : Class := { plain "int" none with kind := .primitive 'I', accessFlags := 0x411 }
/-- [I -/
def k8 : Class := { plain "[I" (some 0) with kind := .array 7 .int, interfaces := #[3, 4], accessFlags := 1041 }

def heap : Heap := #[]
def classes : Array Class := #[k0, k1, k2, k3, k4, k5, k6, k7, k8]
def interned : List (Array UInt16 × Addr) := []
def slotsUsed : Nat := 0
def theMethod : MethodId := ⟨1, 1⟩
def args0 : Array Value := #[.int 5, .int 3]
def aboutOver (below : List Frame) : State where
  vm := { classes := classes, interned := interned.toArray }
  heap := heap
  slotsUsed := slotsUsed
  threads := #[{ frames := .invoking theMethod args0 :: below }]
def below0 : List Frame := [.native { method := ⟨0, 0⟩, args := #[] }]
def about1 : State := aboutOver below0
def p0 : Program := .bare "" "" ""
def e0 : Env := launch0.env 0 0 0
theorem w_frames : about1.frames = Frame.invoking theMethod args0 :: below0 := rfl
set_option maxRecDepth 65536 in
theorem w_args : argsFit about1.vm theMethod args0 = true := by decide +kernel
set_option maxRecDepth 65536 in
theorem w_heap : heapFits about1 = true := by decide +kernel
set_option maxRecDepth 65536 in
theorem w_runnable : about1.curStatus? = some .runnable := by decide +kernel
set_option maxRecDepth 65536 in
theorem w_alone : about1.alone = true := by decide +kernel
set_option maxRecDepth 65536 in
theorem w_named : about1.methodNamed? x = some theMethod := by decide +kernel
set_option maxRecDepth 65536 in
theorem w_hears : about1.hears theMethod below0 = true := by decide +kernel
set_option maxRecDepth 65536 in
theorem w_ripe : about1.ripe theMethod args0 below0 = true := by decide +kernel
theorem w_running : about1.status = .running := rfl
set_option maxRecDepth 65536 in
theorem w_room : about1.hasRoom e0.platform room_1 = true :=
  launch0.hasRoom_least _ room_1 (by decide +kernel) (by decide +kernel) (by decide +kernel) (by decide +kernel) (by decide +kernel) (by decide +kernel)
theorem allAtoms_all (ts : List Jvm.Cond) (a : Array Jvm.Value) (st : Jvm.State) : (allAtoms ts).before a st = ts.all (fun c => c.before a st) := by
  induction ts with
  | nil => rfl
  | cons c t ih =>
    show (Jvm.Cond.and c (allAtoms t)).before a st = _
    rw [Jvm.Cond.before_and, ih, List.all_cons]
def words1 : List Jvm.Cond := Jvm.Cond.code x code maxLocals ret :: tables_1
/-- a 'code' word, met by the world's own term for the bytes: nothing is compared byte by byte -/
theorem code_word {y : MethodName} {bytes : ByteArray} {mx : Nat} {rt : Option FieldType} {a : Array Value} {s : State} {m : MethodId} {meth : Method} {c : Code} (h1 : s.methodNamed? y = some m) (h2 : s.vm.method? m = some meth) (h3 : meth.code = some c) (h4 : c.code = bytes)
    (h5 : (c.maxLocals == mx && c.exceptionTable.isEmpty && decide (c.maxStack ≤ mostOperands) && decide (meth.sig.returnType = rt) && !meth.locks && decide (parseMethodDescriptor y.desc = some meth.sig)) = true) : (Jvm.Cond.code y bytes mx rt).before a s = true := by
  simp only [Bool.and_eq_true, beq_iff_eq, Bool.not_eq_true', decide_eq_true_eq] at h5
  obtain ⟨⟨⟨⟨⟨g1, g2⟩, g3⟩, g4⟩, g5⟩, g6⟩ := h5
  simp [Cond.before, Cond.holds, Cond.value, h1, h2, h3, h4, g1, g2, g3, g4, g5, g6]
def isCode : Jvm.Cond → Bool
  | .code _ _ _ _ => true
  | _ => false
theorem all_split {L : List Jvm.Cond} {P : Jvm.Cond → Bool} (h1 : L.all (fun c => isCode c || P c) = true) (h2 : ∀ c ∈ L.filter isCode, P c = true) : L.all P = true := by
  refine List.all_eq_true.mpr fun c hc => ?_
  have h := List.all_eq_true.mp h1 c hc
  rcases Bool.eq_false_or_eq_true (isCode c) with hi | hi
  · exact h2 c (List.mem_filter.mpr ⟨hc, hi⟩)
  · simpa [hi] using h
set_option maxRecDepth 65536 in
theorem w_c0 : (Jvm.Cond.code x code maxLocals ret).before args0 about1 = true := code_word (m := ⟨1, 1⟩) (meth := k1m1) (c := k1c1) (by decide +kernel) rfl rfl rfl (by decide +kernel)
set_option maxRecDepth 65536 in
theorem w_c1 : (Jvm.Cond.code ({ cls := "com/example/unicept/unicept/ConstantSystem", name := "tag", desc := "(IZ)I" } : Jvm.MethodName) prog_4_method_2_code (2 : Nat) (Option.some Jvm.ClassFile.FieldType.int)).before args0 about1 = true := code_word (m := ⟨2, 0⟩) (meth := k2m0) (c := k2c0) (by decide +kernel) rfl rfl rfl (by decide +kernel)
set_option maxRecDepth 65536 in
theorem w_c2 : (Jvm.Cond.code ({ cls := "com/example/unicept/unicept/ConstantSystem", name := "goal", desc := "(I)I" } : Jvm.MethodName) prog_4_method_3_code (1 : Nat) (Option.some Jvm.ClassFile.FieldType.int)).before args0 about1 = true := code_word (m := ⟨2, 1⟩) (meth := k2m1) (c := k2c1) (by decide +kernel) rfl rfl rfl (by decide +kernel)
set_option maxRecDepth 65536 in
theorem w_c3 : (Jvm.Cond.code ({ cls := "com/example/unicept/unicept/ConstantSystem", name := "isRight", desc := "(I)Z" } : Jvm.MethodName) prog_4_method_4_code (1 : Nat) (Option.some Jvm.ClassFile.FieldType.boolean)).before args0 about1 = true := code_word (m := ⟨2, 2⟩) (meth := k2m2) (c := k2c2) (by decide +kernel) rfl rfl rfl (by decide +kernel)
def codes1 : List Jvm.Cond := [Jvm.Cond.code x code maxLocals ret, Jvm.Cond.code ({ cls := "com/example/unicept/unicept/ConstantSystem", name := "tag", desc := "(IZ)I" } : Jvm.MethodName) prog_4_method_2_code (2 : Nat) (Option.some Jvm.ClassFile.FieldType.int), Jvm.Cond.code ({ cls := "com/example/unicept/unicept/ConstantSystem", name := "goal", desc := "(I)I" } : Jvm.MethodName) prog_4_method_3_code (1 : Nat) (Option.some Jvm.ClassFile.FieldType.int), Jvm.Cond.code ({ cls := "com/example/unicept/unicept/ConstantSystem", name := "isRight", desc := "(I)Z" } : Jvm.MethodName) prog_4_method_4_code (1 : Nat) (Option.some Jvm.ClassFile.FieldType.boolean)]
set_option maxRecDepth 65536 in
theorem codes_eq : words1.filter isCode = codes1 := rfl
theorem w_codes : ∀ c ∈ words1.filter isCode, c.before args0 about1 = true := by
  rw [codes_eq]
  intro c hc
  simp only [codes1, List.mem_cons, List.not_mem_nil, or_false] at hc
  rcases hc with rfl | rfl | rfl | rfl
  · exact w_c0
  · exact w_c1
  · exact w_c2
  · exact w_c3
set_option maxRecDepth 65536 in
theorem w_t1 : words1.all (fun c => isCode c || c.before args0 about1) = true := by decide +kernel
theorem w_tables : (allAtoms (Jvm.Cond.code x code maxLocals ret :: tables_1)).before args0 about1 = true := by
  rw [allAtoms_all]
  show words1.all (fun c => c.before args0 about1) = true
  refine all_split ?_ w_codes
  rw [w_t1]
set_option maxRecDepth 65536 in
theorem w_case : (Jvm.Cond.and given_1 narrow_1).before args0 about1 = true := by decide +kernel
theorem w_applies : (headSpec (Jvm.Cond.code x code maxLocals ret :: tables_1) room_1).applies x e0.platform about1 = true :=
  (Spec.applies_iff w_frames).mpr ⟨w_running, w_runnable, w_alone, w_named, w_hears, w_ripe, w_room, w_tables⟩
theorem atStart : AtStart classFile x code maxLocals ret World_1 tables_1 room_1 Calls_1 rest_1 Pre_1 launch0 p0 e0 about1 theMethod args0 below0 :=
  ⟨lists_1, trivial, launch0.admits_env _ _ _, launch0.least_env, fairChoices_fair.cas, fairChoices_fair.clock, w_frames, w_args, w_heap, w_applies, trivial, trivial, w_case⟩
end start1
theorem witness_1 : WitnessClaimed_1 := ⟨start1.p0, start1.e0, start1.about1, start1.theMethod, start1.args0, start1.below0, start1.atStart⟩
end Jvm.Pilot.@@N@@
