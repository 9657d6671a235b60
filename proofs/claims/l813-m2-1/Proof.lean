import JvmDerived
import JvmDerived.Pilot.@@N@@Statement
import JvmDerived.Pilot.@@N@@Code
set_option linter.unusedVariables false
set_option linter.unusedSimpArgs false
namespace Jvm.RoadKit
open Sem ClassFile Op Lib Jvm.Stand Jvm.Free Jvm.LawKit
section New
variable {p : Program} {l : Launch} {e : Env} {R : Room} {s : State} {m : MethodId} {args : Array Value} {below : List Frame} {meth : Method} {c : Code} {T : State} {locs : List Loc} {cells slots : Nat}
theorem retI (X : Stand p l e R s m args below meth c T locs cells slots) (hx : p.tables.exec = Jvm.exec) {pc : Nat} {Ls : Array Slot} {z : Int32} {rest : List Value} (hret : meth.sig.returnType = some .int) (hd : decode c.code pc = .ok (.ireturn, 1)) {fs : List Frame}
    (hl : ∀ (f : JFrame) (acts : List Action), f.method = m → f.locked = none → f.entered = [] → (doReturn e (T.setTop f) acts (some (.int z))).1 = T.setFrames fs) : Steps p.tables e below (T.setTop (mkF m pc Ls (.int z :: rest))) (T.setFrames fs) := by
  have hm' : T.vm.method? m = some meth := X.method'
  have hn : narrow .int (.int z) = .int z := rfl
  show Steps p.tables e below (T.setTop { method := m, pc := pc, locals := Ls, stack := _ :: rest, locked := none }) _
  jvm_step X.here [X.here.top, hx, hd, hm', hret, hn]
  first | (intro acts; rw [hl _ acts rfl rfl rfl]) | rw [hl _ _ rfl rfl rfl]
  exact Steps.refl _
end New
end Jvm.RoadKit
namespace Jvm.Pilot.@@N@@
open Jvm Jvm.ClassFile Sem Op Lib Jvm.Free Jvm.Stand Jvm.LawKit Jvm.RoadKit Bundle Jvm.Pilot.@@N@@.Jvm.D
theorem own_pd0 : parseMethodDescriptor "(C)Z" = some ⟨[.char], some .boolean⟩ := by decide +kernel
theorem own_n1 (p1 : Int32) (a0 : p1 < (32 : Int32)) (a1 : p1 = (9 : Int32)) (a2 : p1 = (127 : Int32)) : ((p1.toInt < 32 ∧ ¬ p1.toInt = 9) ∨ p1.toInt = 127) := by
  have c0 := Int32.lt_iff_toInt_lt.mp a0
  have c1 : p1.toInt = (9 : Int32).toInt := congrArg Int32.toInt a1
  have c2 : p1.toInt = (127 : Int32).toInt := congrArg Int32.toInt a2
  have nf1 := rng32 p1
  have nf2 : (32 : Int32).toInt = 32 := by decide
  have nf3 : (9 : Int32).toInt = 9 := by decide
  have nf4 : (127 : Int32).toInt = 127 := by decide
  omega
theorem own_n2 (p1 : Int32) (a0 : p1 < (32 : Int32)) (a1 : p1 = (9 : Int32)) (a2 : ¬ (p1 = (127 : Int32))) : ¬ ((p1.toInt < 32 ∧ ¬ p1.toInt = 9) ∨ p1.toInt = 127) := by
  have c0 := Int32.lt_iff_toInt_lt.mp a0
  have c1 : p1.toInt = (9 : Int32).toInt := congrArg Int32.toInt a1
  have c2 : ¬ (p1.toInt = (127 : Int32).toInt) := fun q => a2 (Int32.toInt_inj.mp q)
  have nf1 := rng32 p1
  have nf2 : (32 : Int32).toInt = 32 := by decide
  have nf3 : (9 : Int32).toInt = 9 := by decide
  have nf4 : (127 : Int32).toInt = 127 := by decide
  omega
theorem own_n3 (p1 : Int32) (a0 : p1 < (32 : Int32)) (a1 : ¬ (p1 = (9 : Int32))) : ((p1.toInt < 32 ∧ ¬ p1.toInt = 9) ∨ p1.toInt = 127) := by
  have c0 := Int32.lt_iff_toInt_lt.mp a0
  have c1 : ¬ (p1.toInt = (9 : Int32).toInt) := fun q => a1 (Int32.toInt_inj.mp q)
  have nf1 := rng32 p1
  have nf2 : (32 : Int32).toInt = 32 := by decide
  have nf3 : (9 : Int32).toInt = 9 := by decide
  omega
theorem own_n4 (p1 : Int32) (a0 : ¬ (p1 < (32 : Int32))) (a1 : p1 = (127 : Int32)) : ((p1.toInt < 32 ∧ ¬ p1.toInt = 9) ∨ p1.toInt = 127) := by
  have c0 : ¬ (p1.toInt < (32 : Int32).toInt) := fun q => a0 (Int32.lt_iff_toInt_lt.mpr q)
  have c1 : p1.toInt = (127 : Int32).toInt := congrArg Int32.toInt a1
  have nf1 := rng32 p1
  have nf2 : (32 : Int32).toInt = 32 := by decide
  have nf3 : (127 : Int32).toInt = 127 := by decide
  omega
theorem own_n5 (p1 : Int32) (a0 : ¬ (p1 < (32 : Int32))) (a1 : ¬ (p1 = (127 : Int32))) : ¬ ((p1.toInt < 32 ∧ ¬ p1.toInt = 9) ∨ p1.toInt = 127) := by
  have c0 : ¬ (p1.toInt < (32 : Int32).toInt) := fun q => a0 (Int32.lt_iff_toInt_lt.mpr q)
  have c1 : ¬ (p1.toInt = (127 : Int32).toInt) := fun q => a1 (Int32.toInt_inj.mp q)
  have nf1 := rng32 p1
  have nf2 : (32 : Int32).toInt = 32 := by decide
  have nf3 : (127 : Int32).toInt = 127 := by decide
  omega
theorem own_n6 (qx : Int32) (a0 : (8 : Int32) < (qx &&& (65535 : Int32))) (a1 : (qx &&& (65535 : Int32)) = (9 : Int32)) : ¬ ((((qx &&& (65535 : Int32)).toUInt32.toUInt16.toUInt32.toInt32).toInt < 32 ∧ ¬ ((qx &&& (65535 : Int32)).toUInt32.toUInt16.toUInt32.toInt32).toInt = 9) ∨ ((qx &&& (65535 : Int32)).toUInt32.toUInt16.toUInt32.toInt32).toInt = 127) := by
  have c0 := Int32.lt_iff_toInt_lt.mp a0
  have c1 : (qx &&& (65535 : Int32)).toInt = (9 : Int32).toInt := congrArg Int32.toInt a1
  have nf1 := rng32 qx
  have nf2 : (65535 : Int32).toInt = 65535 := by decide
  have nf3 := c_mask qx (65535 : Int32) 16 (by decide) (by decide)
  have nr4 := rng32 ((qx &&& (65535 : Int32)).toUInt32.toUInt16.toUInt32.toInt32)
  have nf4 := c_i2c (qx &&& (65535 : Int32))
  have nf5 : (8 : Int32).toInt = 8 := by decide
  have nf6 : (9 : Int32).toInt = 9 := by decide
  omega
theorem own_n7 (qx : Int32) (a0 : (8 : Int32) < (qx &&& (65535 : Int32))) (a1 : ¬ ((qx &&& (65535 : Int32)) = (9 : Int32))) (a2 : (31 : Int32) < (qx &&& (65535 : Int32))) (a3 : (qx &&& (65535 : Int32)) = (127 : Int32)) : ((((qx &&& (65535 : Int32)).toUInt32.toUInt16.toUInt32.toInt32).toInt < 32 ∧ ¬ ((qx &&& (65535 : Int32)).toUInt32.toUInt16.toUInt32.toInt32).toInt = 9) ∨ ((qx &&& (65535 : Int32)).toUInt32.toUInt16.toUInt32.toInt32).toInt = 127) := by
  have c0 := Int32.lt_iff_toInt_lt.mp a0
  have c1 : ¬ ((qx &&& (65535 : Int32)).toInt = (9 : Int32).toInt) := fun q => a1 (Int32.toInt_inj.mp q)
  have c2 := Int32.lt_iff_toInt_lt.mp a2
  have c3 : (qx &&& (65535 : Int32)).toInt = (127 : Int32).toInt := congrArg Int32.toInt a3
  have nf1 := rng32 qx
  have nf2 : (65535 : Int32).toInt = 65535 := by decide
  have nf3 := c_mask qx (65535 : Int32) 16 (by decide) (by decide)
  have nr4 := rng32 ((qx &&& (65535 : Int32)).toUInt32.toUInt16.toUInt32.toInt32)
  have nf4 := c_i2c (qx &&& (65535 : Int32))
  have nf5 : (8 : Int32).toInt = 8 := by decide
  have nf6 : (9 : Int32).toInt = 9 := by decide
  have nf7 : (31 : Int32).toInt = 31 := by decide
  have nf8 : (127 : Int32).toInt = 127 := by decide
  omega
theorem own_n8 (qx : Int32) (a0 : (8 : Int32) < (qx &&& (65535 : Int32))) (a1 : ¬ ((qx &&& (65535 : Int32)) = (9 : Int32))) (a2 : (31 : Int32) < (qx &&& (65535 : Int32))) (a3 : ¬ ((qx &&& (65535 : Int32)) = (127 : Int32))) : ¬ ((((qx &&& (65535 : Int32)).toUInt32.toUInt16.toUInt32.toInt32).toInt < 32 ∧ ¬ ((qx &&& (65535 : Int32)).toUInt32.toUInt16.toUInt32.toInt32).toInt = 9) ∨ ((qx &&& (65535 : Int32)).toUInt32.toUInt16.toUInt32.toInt32).toInt = 127) := by
  have c0 := Int32.lt_iff_toInt_lt.mp a0
  have c1 : ¬ ((qx &&& (65535 : Int32)).toInt = (9 : Int32).toInt) := fun q => a1 (Int32.toInt_inj.mp q)
  have c2 := Int32.lt_iff_toInt_lt.mp a2
  have c3 : ¬ ((qx &&& (65535 : Int32)).toInt = (127 : Int32).toInt) := fun q => a3 (Int32.toInt_inj.mp q)
  have nf1 := rng32 qx
  have nf2 : (65535 : Int32).toInt = 65535 := by decide
  have nf3 := c_mask qx (65535 : Int32) 16 (by decide) (by decide)
  have nr4 := rng32 ((qx &&& (65535 : Int32)).toUInt32.toUInt16.toUInt32.toInt32)
  have nf4 := c_i2c (qx &&& (65535 : Int32))
  have nf5 : (8 : Int32).toInt = 8 := by decide
  have nf6 : (9 : Int32).toInt = 9 := by decide
  have nf7 : (31 : Int32).toInt = 31 := by decide
  have nf8 : (127 : Int32).toInt = 127 := by decide
  omega
theorem own_n9 (qx : Int32) (a0 : (8 : Int32) < (qx &&& (65535 : Int32))) (a1 : ¬ ((qx &&& (65535 : Int32)) = (9 : Int32))) (a2 : ¬ ((31 : Int32) < (qx &&& (65535 : Int32)))) : ((((qx &&& (65535 : Int32)).toUInt32.toUInt16.toUInt32.toInt32).toInt < 32 ∧ ¬ ((qx &&& (65535 : Int32)).toUInt32.toUInt16.toUInt32.toInt32).toInt = 9) ∨ ((qx &&& (65535 : Int32)).toUInt32.toUInt16.toUInt32.toInt32).toInt = 127) := by
  have c0 := Int32.lt_iff_toInt_lt.mp a0
  have c1 : ¬ ((qx &&& (65535 : Int32)).toInt = (9 : Int32).toInt) := fun q => a1 (Int32.toInt_inj.mp q)
  have c2 : ¬ ((31 : Int32).toInt < (qx &&& (65535 : Int32)).toInt) := fun q => a2 (Int32.lt_iff_toInt_lt.mpr q)
  have nf1 := rng32 qx
  have nf2 : (65535 : Int32).toInt = 65535 := by decide
  have nf3 := c_mask qx (65535 : Int32) 16 (by decide) (by decide)
  have nr4 := rng32 ((qx &&& (65535 : Int32)).toUInt32.toUInt16.toUInt32.toInt32)
  have nf4 := c_i2c (qx &&& (65535 : Int32))
  have nf5 : (8 : Int32).toInt = 8 := by decide
  have nf6 : (9 : Int32).toInt = 9 := by decide
  have nf7 : (31 : Int32).toInt = 31 := by decide
  omega
theorem own_n10 (qx : Int32) (a0 : ¬ ((8 : Int32) < (qx &&& (65535 : Int32)))) : ((((qx &&& (65535 : Int32)).toUInt32.toUInt16.toUInt32.toInt32).toInt < 32 ∧ ¬ ((qx &&& (65535 : Int32)).toUInt32.toUInt16.toUInt32.toInt32).toInt = 9) ∨ ((qx &&& (65535 : Int32)).toUInt32.toUInt16.toUInt32.toInt32).toInt = 127) := by
  have c0 : ¬ ((8 : Int32).toInt < (qx &&& (65535 : Int32)).toInt) := fun q => a0 (Int32.lt_iff_toInt_lt.mpr q)
  have nf1 := rng32 qx
  have nf2 : (65535 : Int32).toInt = 65535 := by decide
  have nf3 := c_mask qx (65535 : Int32) 16 (by decide) (by decide)
  have nr4 := rng32 ((qx &&& (65535 : Int32)).toUInt32.toUInt16.toUInt32.toInt32)
  have nf4 := c_i2c (qx &&& (65535 : Int32))
  have nf5 : (8 : Int32).toInt = 8 := by decide
  omega
theorem own_d1_0 : decode prog_42_method_3_code 0 = .ok (.iload_n 0, 1) := by decide +kernel
theorem own_d1_1 : decode prog_42_method_3_code 1 = .ok (.bipush 32, 2) := by decide +kernel
theorem own_d1_3 : decode prog_42_method_3_code 3 = .ok (.if_icmp .ge 9, 3) := by decide +kernel
theorem own_d1_6 : decode prog_42_method_3_code 6 = .ok (.iload_n 0, 1) := by decide +kernel
theorem own_d1_7 : decode prog_42_method_3_code 7 = .ok (.bipush 9, 2) := by decide +kernel
theorem own_d1_9 : decode prog_42_method_3_code 9 = .ok (.if_icmp .ne 9, 3) := by decide +kernel
theorem own_d1_12 : decode prog_42_method_3_code 12 = .ok (.iload_n 0, 1) := by decide +kernel
theorem own_d1_13 : decode prog_42_method_3_code 13 = .ok (.bipush 127, 2) := by decide +kernel
theorem own_d1_15 : decode prog_42_method_3_code 15 = .ok (.if_icmp .ne 7, 3) := by decide +kernel
theorem own_d1_18 : decode prog_42_method_3_code 18 = .ok (.iconst 1, 1) := by decide +kernel
theorem own_d1_19 : decode prog_42_method_3_code 19 = .ok (.goto 4, 3) := by decide +kernel
theorem own_d1_22 : decode prog_42_method_3_code 22 = .ok (.iconst 0, 1) := by decide +kernel
theorem own_d1_23 : decode prog_42_method_3_code 23 = .ok (.ireturn, 1) := by decide +kernel
theorem own_pn_own_rm1 : plainName "com/example/outcomist/outcomist/HttpSyntax" = true := by first | (simp [plainName, overriddenIn]; done) | decide +kernel
theorem own_ef_own_rm1 (m : MethodId) (x0 : Int32) : entryFrame m #[(.int x0)] 1 = mkF m 0 #[.val (.int x0)] [] := by first | (simp [entryFrame, mkF, argsToLocals, Value.category]; done) | rfl
def Q_own_rm1 (Z : State) (p1 : Int32) (h0 : Heap) (n0 : Nat) (v : Option Value) (h : Heap) (L : List Loc) : Prop := v = some (.int (if ((p1.toInt < 32 ∧ ¬ p1.toInt = 9) ∨ p1.toInt = 127) then 1 else 0)) ∧ Fr n0 L ∧ h = h0
set_option maxRecDepth 65536 in
set_option maxHeartbeats 40000000 in
theorem own_rm1 (l : Launch) (Z : State) (a0 : Array Value) (hw : ∀ d ∈ tables_1, d.before a0 Z = true) (ws : List Jvm.Cond) (p1 : Int32) (h0 : Heap) (n0 : Nat) (Z0 : n0 ≤ h0.size) :
    MetFree l (⟨"com/example/outcomist/outcomist/HttpSyntax", "isControlCharacter", "(C)Z"⟩ : MethodName) (head1 (Jvm.Cond.code (⟨"com/example/outcomist/outcomist/HttpSyntax", "isControlCharacter", "(C)Z"⟩ : MethodName) prog_42_method_3_code 1 (some .boolean) :: ws) ({ frames := 0, cells := 0, slots := 0, locals := 0 } : Room)) (fun a U => a = #[(.int p1)] ∧ Z.Warmed39 U.vm ∧ U.heap = h0) (fun _ _ _ _ _ => True) (fun _ U o U' => ∃ v L, o = .returned v ∧ Q_own_rm1 Z p1 h0 n0 v U'.heap L ∧ FrameEnd U o U' L ({ frames := 0, cells := 0, slots := 0, locals := 0 } : Room).cells ({ frames := 0, cells := 0, slots := 0, locals := 0 } : Room).slots) := by
  refine MetFree.of_bodySF (plainFor_of_name own_pn_own_rm1) hisR ?_
  intro p e s m args below meth c s₁ Bd hml0 hP hK
  obtain ⟨rfl, hZ, hh⟩ := hP
  have hx := Bd.exec
  have hby := Bd.bytes
  have hml : c.maxLocals = 1 := hml0
  have hown : s.vm.findClass "com/example/outcomist/outcomist/HttpSyntax" = some m.cls := findClass_of_methodNamed Bd.named
  have hnm := (name_of_methodNamed Bd.named Bd.method).1
  have X0 : Stand p l e ({ frames := 0, cells := 0, slots := 0, locals := 0 } : Room) s m #[(.int p1)] below meth c s₁ [] 0 0 := Stand.of_body Bd
  have e0 : s₁.heap = h0 := by rw [← hh, Bd.state]; rfl
  have N0 := Fr.nil n0
  have pre0 : Goes p e below s₁ (entryFrame m #[(.int p1)] 1) s₁ (mkF m 0 #[.val (.int p1)] []) := fun t k => castTop (own_ef_own_rm1 m p1) k
  have pre1 : Goes p e below s₁ (entryFrame m #[(.int p1)] 1) s₁ (mkF m 3 #[.val (.int p1)] [(.int (32 : Int32)), (.int p1)]) := fun t kt => pre0 t (by
      show Steps p.tables e below (s₁.setTop (mkF m 0 #[.val (.int p1)] [])) _
      refine XS.iloadN X0.here hx rfl (hb hby own_d1_0) rfl ?_
      show Steps p.tables e below (s₁.setTop (mkF m 1 #[.val (.int p1)] [(.int p1)])) _
      refine XS.bipush X0.here hx rfl (hb hby own_d1_1) ?_
      exact kt)
  by_cases hc3_2 : p1 < (32 : Int32)
  · -- yes at pc 3: 
    have pre3 : Goes p e below s₁ (entryFrame m #[(.int p1)] 1) s₁ (mkF m 9 #[.val (.int p1)] [(.int (9 : Int32)), (.int p1)]) := fun t kt => pre1 t (by
        show Steps p.tables e below (s₁.setTop (mkF m 3 #[.val (.int p1)] [(.int (32 : Int32)), (.int p1)])) _
        refine XS.icmpNo X0.here hx rfl (hb hby own_d1_3) rfl (tlt hc3_2).2.1 ?_
        show Steps p.tables e below (s₁.setTop (mkF m 6 #[.val (.int p1)] [])) _
        refine XS.iloadN X0.here hx rfl (hb hby own_d1_6) rfl ?_
        show Steps p.tables e below (s₁.setTop (mkF m 7 #[.val (.int p1)] [(.int p1)])) _
        refine XS.bipush X0.here hx rfl (hb hby own_d1_7) ?_
        exact kt)
    by_cases hc9_4 : p1 = (9 : Int32)
    · -- yes at pc 9: f
      have pre5 : Goes p e below s₁ (entryFrame m #[(.int p1)] 1) s₁ (mkF m 15 #[.val (.int p1)] [(.int (127 : Int32)), (.int p1)]) := fun t kt => pre3 t (by
          show Steps p.tables e below (s₁.setTop (mkF m 9 #[.val (.int p1)] [(.int (9 : Int32)), (.int p1)])) _
          refine XS.icmpNo X0.here hx rfl (hb hby own_d1_9) rfl (teq hc9_4).2 ?_
          show Steps p.tables e below (s₁.setTop (mkF m 12 #[.val (.int p1)] [])) _
          refine XS.iloadN X0.here hx rfl (hb hby own_d1_12) rfl ?_
          show Steps p.tables e below (s₁.setTop (mkF m 13 #[.val (.int p1)] [(.int p1)])) _
          refine XS.bipush X0.here hx rfl (hb hby own_d1_13) ?_
          exact kt)
      by_cases hc15_6 : p1 = (127 : Int32)
      · -- yes at pc 15: ff
        have pre7 : Goes p e below s₁ (entryFrame m #[(.int p1)] 1) s₁ (mkF m 23 #[.val (.int p1)] [(.int (1 : Int32))]) := fun t kt => pre5 t (by
            show Steps p.tables e below (s₁.setTop (mkF m 15 #[.val (.int p1)] [(.int (127 : Int32)), (.int p1)])) _
            refine XS.icmpNo X0.here hx rfl (hb hby own_d1_15) rfl (teq hc15_6).2 ?_
            show Steps p.tables e below (s₁.setTop (mkF m 18 #[.val (.int p1)] [])) _
            refine XS.iconst X0.here hx rfl (hb hby own_d1_18) ?_
            show Steps p.tables e below (s₁.setTop (mkF m 19 #[.val (.int p1)] [(.int (1 : Int32))])) _
            refine XS.goto X0.here hx rfl (pc0 := 19) (pc' := 23) rfl (hb hby own_d1_19) (by decide) (by decide) ?_
            exact kt)
        obtain ⟨fs, hr, hrun, hended, hW, hsame⟩ := X0.leave (v := some (.int (1 : Int32))) (fun h => by rw [Bd.returns] at h; cases h)
        refine ⟨_, _, pre7 _ ?_, hrun, hended, _, _, rfl, ?_, ⟨_, rfl⟩, hW, hsame.mono (by decide) (by decide)⟩
        · show Steps p.tables e below (s₁.setTop (mkF m 23 #[.val (.int p1)] [(.int (1 : Int32))])) _
          exact retN X0 hx (t := .boolean) Bd.returns (by simp) (hb hby own_d1_23) hr
        · show Q_own_rm1 Z p1 h0 n0 _ s₁.heap _
          rw [e0]
          exact ⟨by rw [if_pos (own_n1 p1 hc3_2 hc9_4 hc15_6)], N0, rfl⟩
      · -- no at pc 15: ff
        have pre8 : Goes p e below s₁ (entryFrame m #[(.int p1)] 1) s₁ (mkF m 23 #[.val (.int p1)] [(.int (0 : Int32))]) := fun t kt => pre5 t (by
            show Steps p.tables e below (s₁.setTop (mkF m 15 #[.val (.int p1)] [(.int (127 : Int32)), (.int p1)])) _
            refine XS.icmpYes X0.here hx rfl (pc0 := 15) (pc' := 22) rfl (hb hby own_d1_15) rfl (feq hc15_6).2 (by decide) (by decide) ?_
            show Steps p.tables e below (s₁.setTop (mkF m 22 #[.val (.int p1)] [])) _
            refine XS.iconst X0.here hx rfl (hb hby own_d1_22) ?_
            exact kt)
        obtain ⟨fs, hr, hrun, hended, hW, hsame⟩ := X0.leave (v := some (.int (0 : Int32))) (fun h => by rw [Bd.returns] at h; cases h)
        refine ⟨_, _, pre8 _ ?_, hrun, hended, _, _, rfl, ?_, ⟨_, rfl⟩, hW, hsame.mono (by decide) (by decide)⟩
        · show Steps p.tables e below (s₁.setTop (mkF m 23 #[.val (.int p1)] [(.int (0 : Int32))])) _
          exact retN X0 hx (t := .boolean) Bd.returns (by simp) (hb hby own_d1_23) hr
        · show Q_own_rm1 Z p1 h0 n0 _ s₁.heap _
          rw [e0]
          exact ⟨by rw [if_neg (own_n2 p1 hc3_2 hc9_4 hc15_6)], N0, rfl⟩
    · -- no at pc 9: f
      have pre9 : Goes p e below s₁ (entryFrame m #[(.int p1)] 1) s₁ (mkF m 23 #[.val (.int p1)] [(.int (1 : Int32))]) := fun t kt => pre3 t (by
          show Steps p.tables e below (s₁.setTop (mkF m 9 #[.val (.int p1)] [(.int (9 : Int32)), (.int p1)])) _
          refine XS.icmpYes X0.here hx rfl (pc0 := 9) (pc' := 18) rfl (hb hby own_d1_9) rfl (feq hc9_4).2 (by decide) (by decide) ?_
          show Steps p.tables e below (s₁.setTop (mkF m 18 #[.val (.int p1)] [])) _
          refine XS.iconst X0.here hx rfl (hb hby own_d1_18) ?_
          show Steps p.tables e below (s₁.setTop (mkF m 19 #[.val (.int p1)] [(.int (1 : Int32))])) _
          refine XS.goto X0.here hx rfl (pc0 := 19) (pc' := 23) rfl (hb hby own_d1_19) (by decide) (by decide) ?_
          exact kt)
      obtain ⟨fs, hr, hrun, hended, hW, hsame⟩ := X0.leave (v := some (.int (1 : Int32))) (fun h => by rw [Bd.returns] at h; cases h)
      refine ⟨_, _, pre9 _ ?_, hrun, hended, _, _, rfl, ?_, ⟨_, rfl⟩, hW, hsame.mono (by decide) (by decide)⟩
      · show Steps p.tables e below (s₁.setTop (mkF m 23 #[.val (.int p1)] [(.int (1 : Int32))])) _
        exact retN X0 hx (t := .boolean) Bd.returns (by simp) (hb hby own_d1_23) hr
      · show Q_own_rm1 Z p1 h0 n0 _ s₁.heap _
        rw [e0]
        exact ⟨by rw [if_pos (own_n3 p1 hc3_2 hc9_4)], N0, rfl⟩
  · -- no at pc 3: 
    have pre10 : Goes p e below s₁ (entryFrame m #[(.int p1)] 1) s₁ (mkF m 15 #[.val (.int p1)] [(.int (127 : Int32)), (.int p1)]) := fun t kt => pre1 t (by
        show Steps p.tables e below (s₁.setTop (mkF m 3 #[.val (.int p1)] [(.int (32 : Int32)), (.int p1)])) _
        refine XS.icmpYes X0.here hx rfl (pc0 := 3) (pc' := 12) rfl (hb hby own_d1_3) rfl (flt hc3_2).2.1 (by decide) (by decide) ?_
        show Steps p.tables e below (s₁.setTop (mkF m 12 #[.val (.int p1)] [])) _
        refine XS.iloadN X0.here hx rfl (hb hby own_d1_12) rfl ?_
        show Steps p.tables e below (s₁.setTop (mkF m 13 #[.val (.int p1)] [(.int p1)])) _
        refine XS.bipush X0.here hx rfl (hb hby own_d1_13) ?_
        exact kt)
    by_cases hc15_11 : p1 = (127 : Int32)
    · -- yes at pc 15: t
      have pre12 : Goes p e below s₁ (entryFrame m #[(.int p1)] 1) s₁ (mkF m 23 #[.val (.int p1)] [(.int (1 : Int32))]) := fun t kt => pre10 t (by
          show Steps p.tables e below (s₁.setTop (mkF m 15 #[.val (.int p1)] [(.int (127 : Int32)), (.int p1)])) _
          refine XS.icmpNo X0.here hx rfl (hb hby own_d1_15) rfl (teq hc15_11).2 ?_
          show Steps p.tables e below (s₁.setTop (mkF m 18 #[.val (.int p1)] [])) _
          refine XS.iconst X0.here hx rfl (hb hby own_d1_18) ?_
          show Steps p.tables e below (s₁.setTop (mkF m 19 #[.val (.int p1)] [(.int (1 : Int32))])) _
          refine XS.goto X0.here hx rfl (pc0 := 19) (pc' := 23) rfl (hb hby own_d1_19) (by decide) (by decide) ?_
          exact kt)
      obtain ⟨fs, hr, hrun, hended, hW, hsame⟩ := X0.leave (v := some (.int (1 : Int32))) (fun h => by rw [Bd.returns] at h; cases h)
      refine ⟨_, _, pre12 _ ?_, hrun, hended, _, _, rfl, ?_, ⟨_, rfl⟩, hW, hsame.mono (by decide) (by decide)⟩
      · show Steps p.tables e below (s₁.setTop (mkF m 23 #[.val (.int p1)] [(.int (1 : Int32))])) _
        exact retN X0 hx (t := .boolean) Bd.returns (by simp) (hb hby own_d1_23) hr
      · show Q_own_rm1 Z p1 h0 n0 _ s₁.heap _
        rw [e0]
        exact ⟨by rw [if_pos (own_n4 p1 hc3_2 hc15_11)], N0, rfl⟩
    · -- no at pc 15: t
      have pre13 : Goes p e below s₁ (entryFrame m #[(.int p1)] 1) s₁ (mkF m 23 #[.val (.int p1)] [(.int (0 : Int32))]) := fun t kt => pre10 t (by
          show Steps p.tables e below (s₁.setTop (mkF m 15 #[.val (.int p1)] [(.int (127 : Int32)), (.int p1)])) _
          refine XS.icmpYes X0.here hx rfl (pc0 := 15) (pc' := 22) rfl (hb hby own_d1_15) rfl (feq hc15_11).2 (by decide) (by decide) ?_
          show Steps p.tables e below (s₁.setTop (mkF m 22 #[.val (.int p1)] [])) _
          refine XS.iconst X0.here hx rfl (hb hby own_d1_22) ?_
          exact kt)
      obtain ⟨fs, hr, hrun, hended, hW, hsame⟩ := X0.leave (v := some (.int (0 : Int32))) (fun h => by rw [Bd.returns] at h; cases h)
      refine ⟨_, _, pre13 _ ?_, hrun, hended, _, _, rfl, ?_, ⟨_, rfl⟩, hW, hsame.mono (by decide) (by decide)⟩
      · show Steps p.tables e below (s₁.setTop (mkF m 23 #[.val (.int p1)] [(.int (0 : Int32))])) _
        exact retN X0 hx (t := .boolean) Bd.returns (by simp) (hb hby own_d1_23) hr
      · show Q_own_rm1 Z p1 h0 n0 _ s₁.heap _
        rw [e0]
        exact ⟨by rw [if_neg (own_n5 p1 hc3_2 hc15_11)], N0, rfl⟩
theorem own_pn_own_rm0 : plainName "com/example/outcomist/outcomist/HttpSyntaxIsControlCharacterPinLaw" = true := by first | (simp [plainName, overriddenIn]; done) | decide +kernel
theorem own_ef_own_rm0 (m : MethodId) (x0 : Int32) : entryFrame m #[(.int x0)] maxLocals = mkF m 0 #[.val (.int x0), .unset, .unset, .unset] [] := by first | (simp [entryFrame, mkF, argsToLocals, Value.category, maxLocals]; done) | rfl
def Q_own_rm0 (Z : State) (qx : Int32) (h0 : Heap) (n0 : Nat) (v : Option Value) (h : Heap) (L : List Loc) : Prop := v = some (.int (1 : Int32)) ∧ Fr n0 L
set_option maxRecDepth 65536 in
set_option maxHeartbeats 40000000 in
theorem own_rm0 (l : Launch) (Z : State) (a0 : Array Value) (hw : ∀ d ∈ tables_1, d.before a0 Z = true) (ws : List Jvm.Cond) (qx : Int32) (h0 : Heap) (n0 : Nat) (Z0 : n0 ≤ h0.size) :
    MetFree l x (head1 (Jvm.Cond.code x code maxLocals ret :: ws) room_1) (fun a U => a = #[(.int qx)] ∧ Z.Warmed39 U.vm ∧ U.heap = h0) (fun _ _ _ _ _ => True) (fun _ U o U' => ∃ v L, o = .returned v ∧ Q_own_rm0 Z qx h0 n0 v U'.heap L ∧ FrameEnd U o U' L room_1.cells room_1.slots) := by
  refine MetFree.of_bodySF (plainFor_of_name own_pn_own_rm0) hisR ?_
  intro p e s m args below meth c s₁ Bd hml0 hP hK
  obtain ⟨rfl, hZ, hh⟩ := hP
  have hx := Bd.exec
  have hby := Bd.bytes
  have hml : c.maxLocals = 4 := hml0
  have hown : s.vm.findClass "com/example/outcomist/outcomist/HttpSyntaxIsControlCharacterPinLaw" = some m.cls := findClass_of_methodNamed Bd.named
  have hnm := (name_of_methodNamed Bd.named Bd.method).1
  have X0 : Stand p l e room_1 s m #[(.int qx)] below meth c s₁ [] 0 0 := Stand.of_body Bd
  have e0 : s₁.heap = h0 := by rw [← hh, Bd.state]; rfl
  have N0 := Fr.nil n0
  have pre0 : Goes p e below s₁ (entryFrame m #[(.int qx)] maxLocals) s₁ (mkF m 0 #[.val (.int qx), .unset, .unset, .unset] []) := fun t k => castTop (own_ef_own_rm0 m qx) k
  have pre1 : Goes p e below s₁ (entryFrame m #[(.int qx)] maxLocals) s₁ (mkF m 14 #[.val (.int qx), .val (.int ((qx &&& (65535 : Int32)).toUInt32.toUInt16.toUInt32.toInt32)), .val (.int (qx &&& (65535 : Int32))), .unset] [(.int (8 : Int32)), (.int (qx &&& (65535 : Int32)))]) := fun t kt => pre0 t (by
      show Steps p.tables e below (s₁.setTop (mkF m 0 #[.val (.int qx), .unset, .unset, .unset] [])) _
      refine XS.iloadN X0.here hx rfl (hb hby at_0) rfl ?_
      show Steps p.tables e below (s₁.setTop (mkF m 1 #[.val (.int qx), .unset, .unset, .unset] [(.int qx)])) _
      refine X0.ldcInt hx hown (mvT hZ (hw _ (List.mem_of_getElem? (i := 0) rfl))) (g := (mkF m 1 #[.val (.int qx), .unset, .unset, .unset] [(.int qx)])) rfl (hb hby at_1) _ ?_
      show Steps p.tables e below (s₁.setTop (mkF m 3 #[.val (.int qx), .unset, .unset, .unset] [(.int (65535 : Int32)), (.int qx)])) _
      refine XS.iand X0.here hx rfl (hb hby at_3) rfl ?_
      show Steps p.tables e below (s₁.setTop (mkF m 4 #[.val (.int qx), .unset, .unset, .unset] [(.int (qx &&& (65535 : Int32)))])) _
      refine XS.i2c X0.here hx rfl (hb hby at_4) rfl ?_
      show Steps p.tables e below (s₁.setTop (mkF m 5 #[.val (.int qx), .unset, .unset, .unset] [(.int ((qx &&& (65535 : Int32)).toUInt32.toUInt16.toUInt32.toInt32))])) _
      refine XS.istoreN X0.here hx rfl (hb hby at_5) rfl (l' := #[.val (.int qx), .val (.int ((qx &&& (65535 : Int32)).toUInt32.toUInt16.toUInt32.toInt32)), .unset, .unset]) rfl ?_
      show Steps p.tables e below (s₁.setTop (mkF m 6 #[.val (.int qx), .val (.int ((qx &&& (65535 : Int32)).toUInt32.toUInt16.toUInt32.toInt32)), .unset, .unset] [])) _
      refine XS.iloadN X0.here hx rfl (hb hby at_6) rfl ?_
      show Steps p.tables e below (s₁.setTop (mkF m 7 #[.val (.int qx), .val (.int ((qx &&& (65535 : Int32)).toUInt32.toUInt16.toUInt32.toInt32)), .unset, .unset] [(.int qx)])) _
      refine X0.ldcInt hx hown (mvT hZ (hw _ (List.mem_of_getElem? (i := 0) rfl))) (g := (mkF m 7 #[.val (.int qx), .val (.int ((qx &&& (65535 : Int32)).toUInt32.toUInt16.toUInt32.toInt32)), .unset, .unset] [(.int qx)])) rfl (hb hby at_7) _ ?_
      show Steps p.tables e below (s₁.setTop (mkF m 9 #[.val (.int qx), .val (.int ((qx &&& (65535 : Int32)).toUInt32.toUInt16.toUInt32.toInt32)), .unset, .unset] [(.int (65535 : Int32)), (.int qx)])) _
      refine XS.iand X0.here hx rfl (hb hby at_9) rfl ?_
      show Steps p.tables e below (s₁.setTop (mkF m 10 #[.val (.int qx), .val (.int ((qx &&& (65535 : Int32)).toUInt32.toUInt16.toUInt32.toInt32)), .unset, .unset] [(.int (qx &&& (65535 : Int32)))])) _
      refine XS.istoreN X0.here hx rfl (hb hby at_10) rfl (l' := #[.val (.int qx), .val (.int ((qx &&& (65535 : Int32)).toUInt32.toUInt16.toUInt32.toInt32)), .val (.int (qx &&& (65535 : Int32))), .unset]) rfl ?_
      show Steps p.tables e below (s₁.setTop (mkF m 11 #[.val (.int qx), .val (.int ((qx &&& (65535 : Int32)).toUInt32.toUInt16.toUInt32.toInt32)), .val (.int (qx &&& (65535 : Int32))), .unset] [])) _
      refine XS.iloadN X0.here hx rfl (hb hby at_11) rfl ?_
      show Steps p.tables e below (s₁.setTop (mkF m 12 #[.val (.int qx), .val (.int ((qx &&& (65535 : Int32)).toUInt32.toUInt16.toUInt32.toInt32)), .val (.int (qx &&& (65535 : Int32))), .unset] [(.int (qx &&& (65535 : Int32)))])) _
      refine XS.bipush X0.here hx rfl (hb hby at_12) ?_
      exact kt)
  by_cases hc14_2 : (8 : Int32) < (qx &&& (65535 : Int32))
  · -- yes at pc 14: 
    have pre3 : Goes p e below s₁ (entryFrame m #[(.int qx)] maxLocals) s₁ (mkF m 25 #[.val (.int qx), .val (.int ((qx &&& (65535 : Int32)).toUInt32.toUInt16.toUInt32.toInt32)), .val (.int (qx &&& (65535 : Int32))), .unset] [(.int (9 : Int32)), (.int (qx &&& (65535 : Int32)))]) := fun t kt => pre1 t (by
        show Steps p.tables e below (s₁.setTop (mkF m 14 #[.val (.int qx), .val (.int ((qx &&& (65535 : Int32)).toUInt32.toUInt16.toUInt32.toInt32)), .val (.int (qx &&& (65535 : Int32))), .unset] [(.int (8 : Int32)), (.int (qx &&& (65535 : Int32)))])) _
        refine XS.icmpYes X0.here hx rfl (pc0 := 14) (pc' := 22) rfl (hb hby at_14) rfl (tlt hc14_2).2.2.1 (by decide) (by decide) ?_
        show Steps p.tables e below (s₁.setTop (mkF m 22 #[.val (.int qx), .val (.int ((qx &&& (65535 : Int32)).toUInt32.toUInt16.toUInt32.toInt32)), .val (.int (qx &&& (65535 : Int32))), .unset] [])) _
        refine XS.iloadN X0.here hx rfl (hb hby at_22) rfl ?_
        show Steps p.tables e below (s₁.setTop (mkF m 23 #[.val (.int qx), .val (.int ((qx &&& (65535 : Int32)).toUInt32.toUInt16.toUInt32.toInt32)), .val (.int (qx &&& (65535 : Int32))), .unset] [(.int (qx &&& (65535 : Int32)))])) _
        refine XS.bipush X0.here hx rfl (hb hby at_23) ?_
        exact kt)
    by_cases hc25_4 : (qx &&& (65535 : Int32)) = (9 : Int32)
    · -- yes at pc 25: t
      have pre5 : Goes p e below s₁ (entryFrame m #[(.int qx)] maxLocals) s₁ (mkF m 58 #[.val (.int qx), .val (.int ((qx &&& (65535 : Int32)).toUInt32.toUInt16.toUInt32.toInt32)), .val (.int (qx &&& (65535 : Int32))), .val (.int (0 : Int32))] [(.int ((qx &&& (65535 : Int32)).toUInt32.toUInt16.toUInt32.toInt32))]) := fun t kt => pre3 t (by
          show Steps p.tables e below (s₁.setTop (mkF m 25 #[.val (.int qx), .val (.int ((qx &&& (65535 : Int32)).toUInt32.toUInt16.toUInt32.toInt32)), .val (.int (qx &&& (65535 : Int32))), .unset] [(.int (9 : Int32)), (.int (qx &&& (65535 : Int32)))])) _
          refine XS.icmpNo X0.here hx rfl (hb hby at_25) rfl (teq hc25_4).2 ?_
          show Steps p.tables e below (s₁.setTop (mkF m 28 #[.val (.int qx), .val (.int ((qx &&& (65535 : Int32)).toUInt32.toUInt16.toUInt32.toInt32)), .val (.int (qx &&& (65535 : Int32))), .unset] [])) _
          refine XS.iconst X0.here hx rfl (hb hby at_28) ?_
          show Steps p.tables e below (s₁.setTop (mkF m 29 #[.val (.int qx), .val (.int ((qx &&& (65535 : Int32)).toUInt32.toUInt16.toUInt32.toInt32)), .val (.int (qx &&& (65535 : Int32))), .unset] [(.int (0 : Int32))])) _
          refine XS.istoreN X0.here hx rfl (hb hby at_29) rfl (l' := #[.val (.int qx), .val (.int ((qx &&& (65535 : Int32)).toUInt32.toUInt16.toUInt32.toInt32)), .val (.int (qx &&& (65535 : Int32))), .val (.int (0 : Int32))]) rfl ?_
          show Steps p.tables e below (s₁.setTop (mkF m 30 #[.val (.int qx), .val (.int ((qx &&& (65535 : Int32)).toUInt32.toUInt16.toUInt32.toInt32)), .val (.int (qx &&& (65535 : Int32))), .val (.int (0 : Int32))] [])) _
          refine XS.goto X0.here hx rfl (pc0 := 30) (pc' := 57) rfl (hb hby at_30) (by decide) (by decide) ?_
          show Steps p.tables e below (s₁.setTop (mkF m 57 #[.val (.int qx), .val (.int ((qx &&& (65535 : Int32)).toUInt32.toUInt16.toUInt32.toInt32)), .val (.int (qx &&& (65535 : Int32))), .val (.int (0 : Int32))] [])) _
          refine XS.iloadN X0.here hx rfl (hb hby at_57) rfl ?_
          exact kt)
      obtain ⟨_, _, ⟨T6, L6, k6, n6⟩, -, X6, ⟨Lc6, hQ6, l6, y6, z6⟩, st6⟩ := Jvm.LawKit.callS X0 hx (y := (⟨"com/example/outcomist/outcomist/HttpSyntax", "isControlCharacter", "(C)Z"⟩ : MethodName)) hown (mvT hZ (hw _ (List.mem_of_getElem? (i := 1) rfl))) (mvT hZ (hw _ (List.mem_of_getElem? (i := 2) rfl))) (mvT hZ (hw _ (List.mem_of_getElem? (i := 3) rfl))) (mvT hZ (hw _ (List.mem_of_getElem? (i := 4) rfl))) (by decide) (backOf (W := 0) (own_rm1 l Z a0 hw [] ((qx &&& (65535 : Int32)).toUInt32.toUInt16.toUInt32.toInt32) h0 n0 Z0 ) hZ (hw _ (List.mem_of_getElem? (i := 4) rfl)) (hw _ (List.mem_of_getElem? (i := 3) rfl)) (by decide) (by decide)) (g := (mkF m 58 #[.val (.int qx), .val (.int ((qx &&& (65535 : Int32)).toUInt32.toUInt16.toUInt32.toInt32)), .val (.int (qx &&& (65535 : Int32))), .val (.int (0 : Int32))] [(.int ((qx &&& (65535 : Int32)).toUInt32.toUInt16.toUInt32.toInt32))])) rfl (by rw [hml]; rfl) (argsL := [(.int ((qx &&& (65535 : Int32)).toUInt32.toUInt16.toUInt32.toInt32))]) (rest := []) (lenOf own_pd0 rfl) rfl (by show 2 * 0 + _ ≤ _; exact Nat.le_of_eq rfl) (hb hby at_58) (fun _ _ => ⟨rfl, e0, (by decide : 0 + 0 ≤ _), (by decide : 0 + 0 ≤ _)⟩)
      dsimp only [Pt.U, Pt.locs, Pt.cells, Pt.slots] at X6 l6 y6 z6 st6 hQ6
      subst l6 y6 z6
      obtain ⟨rfl, N6q, e6⟩ := hQ6
      have N6 := Fr.app N0 N6q
      have pre7 : Goes p e below s₁ (entryFrame m #[(.int qx)] maxLocals) T6 (mkF m 61 #[.val (.int qx), .val (.int ((qx &&& (65535 : Int32)).toUInt32.toUInt16.toUInt32.toInt32)), .val (.int (qx &&& (65535 : Int32))), .val (.int (0 : Int32))] [(.int (if ((((qx &&& (65535 : Int32)).toUInt32.toUInt16.toUInt32.toInt32).toInt < 32 ∧ ¬ ((qx &&& (65535 : Int32)).toUInt32.toUInt16.toUInt32.toInt32).toInt = 9) ∨ ((qx &&& (65535 : Int32)).toUInt32.toUInt16.toUInt32.toInt32).toInt = 127) then 1 else 0))]) := fun t kt => pre5 t (st6 t kt)
      have pre8 : Goes p e below s₁ (entryFrame m #[(.int qx)] maxLocals) T6 (mkF m 70 #[.val (.int qx), .val (.int ((qx &&& (65535 : Int32)).toUInt32.toUInt16.toUInt32.toInt32)), .val (.int (qx &&& (65535 : Int32))), .val (.int (0 : Int32))] [(.int (1 : Int32))]) := fun t kt => pre7 t (by
          show Steps p.tables e below (T6.setTop (mkF m 61 #[.val (.int qx), .val (.int ((qx &&& (65535 : Int32)).toUInt32.toUInt16.toUInt32.toInt32)), .val (.int (qx &&& (65535 : Int32))), .val (.int (0 : Int32))] [(.int (if ((((qx &&& (65535 : Int32)).toUInt32.toUInt16.toUInt32.toInt32).toInt < 32 ∧ ¬ ((qx &&& (65535 : Int32)).toUInt32.toUInt16.toUInt32.toInt32).toInt = 9) ∨ ((qx &&& (65535 : Int32)).toUInt32.toUInt16.toUInt32.toInt32).toInt = 127) then 1 else 0))])) _
          refine XS.iloadN X6.here hx rfl (hb hby at_61) rfl ?_
          show Steps p.tables e below (T6.setTop (mkF m 62 #[.val (.int qx), .val (.int ((qx &&& (65535 : Int32)).toUInt32.toUInt16.toUInt32.toInt32)), .val (.int (qx &&& (65535 : Int32))), .val (.int (0 : Int32))] [(.int (0 : Int32)), (.int (if ((((qx &&& (65535 : Int32)).toUInt32.toUInt16.toUInt32.toInt32).toInt < 32 ∧ ¬ ((qx &&& (65535 : Int32)).toUInt32.toUInt16.toUInt32.toInt32).toInt = 9) ∨ ((qx &&& (65535 : Int32)).toUInt32.toUInt16.toUInt32.toInt32).toInt = 127) then 1 else 0))])) _
          refine XS.icmpNo X6.here hx rfl (hb hby at_62) rfl (teq (if_neg (own_n6 qx hc14_2 hc25_4) : (if ((((qx &&& (65535 : Int32)).toUInt32.toUInt16.toUInt32.toInt32).toInt < 32 ∧ ¬ ((qx &&& (65535 : Int32)).toUInt32.toUInt16.toUInt32.toInt32).toInt = 9) ∨ ((qx &&& (65535 : Int32)).toUInt32.toUInt16.toUInt32.toInt32).toInt = 127) then 1 else 0) = (0 : Int32))).2 ?_
          show Steps p.tables e below (T6.setTop (mkF m 65 #[.val (.int qx), .val (.int ((qx &&& (65535 : Int32)).toUInt32.toUInt16.toUInt32.toInt32)), .val (.int (qx &&& (65535 : Int32))), .val (.int (0 : Int32))] [])) _
          refine XS.iconst X6.here hx rfl (hb hby at_65) ?_
          show Steps p.tables e below (T6.setTop (mkF m 66 #[.val (.int qx), .val (.int ((qx &&& (65535 : Int32)).toUInt32.toUInt16.toUInt32.toInt32)), .val (.int (qx &&& (65535 : Int32))), .val (.int (0 : Int32))] [(.int (1 : Int32))])) _
          refine XS.goto X6.here hx rfl (pc0 := 66) (pc' := 70) rfl (hb hby at_66) (by decide) (by decide) ?_
          exact kt)
      obtain ⟨fs, hr, hrun, hended, hW, hsame⟩ := X6.leave (v := some (.int (1 : Int32))) (fun h => by rw [Bd.returns] at h; cases h)
      refine ⟨_, _, pre8 _ ?_, hrun, hended, _, _, rfl, ?_, ⟨_, rfl⟩, hW, hsame.mono (by decide) (by decide)⟩
      · show Steps p.tables e below (T6.setTop (mkF m 70 #[.val (.int qx), .val (.int ((qx &&& (65535 : Int32)).toUInt32.toUInt16.toUInt32.toInt32)), .val (.int (qx &&& (65535 : Int32))), .val (.int (0 : Int32))] [(.int (1 : Int32))])) _
        exact retN X6 hx (t := .boolean) Bd.returns (by simp) (hb hby at_70) hr
      · show Q_own_rm0 Z qx h0 n0 _ T6.heap _
        rw [e6]
        exact ⟨rfl, N6⟩
    · -- no at pc 25: t
      have pre9 : Goes p e below s₁ (entryFrame m #[(.int qx)] maxLocals) s₁ (mkF m 36 #[.val (.int qx), .val (.int ((qx &&& (65535 : Int32)).toUInt32.toUInt16.toUInt32.toInt32)), .val (.int (qx &&& (65535 : Int32))), .unset] [(.int (31 : Int32)), (.int (qx &&& (65535 : Int32)))]) := fun t kt => pre3 t (by
          show Steps p.tables e below (s₁.setTop (mkF m 25 #[.val (.int qx), .val (.int ((qx &&& (65535 : Int32)).toUInt32.toUInt16.toUInt32.toInt32)), .val (.int (qx &&& (65535 : Int32))), .unset] [(.int (9 : Int32)), (.int (qx &&& (65535 : Int32)))])) _
          refine XS.icmpYes X0.here hx rfl (pc0 := 25) (pc' := 33) rfl (hb hby at_25) rfl (feq hc25_4).2 (by decide) (by decide) ?_
          show Steps p.tables e below (s₁.setTop (mkF m 33 #[.val (.int qx), .val (.int ((qx &&& (65535 : Int32)).toUInt32.toUInt16.toUInt32.toInt32)), .val (.int (qx &&& (65535 : Int32))), .unset] [])) _
          refine XS.iloadN X0.here hx rfl (hb hby at_33) rfl ?_
          show Steps p.tables e below (s₁.setTop (mkF m 34 #[.val (.int qx), .val (.int ((qx &&& (65535 : Int32)).toUInt32.toUInt16.toUInt32.toInt32)), .val (.int (qx &&& (65535 : Int32))), .unset] [(.int (qx &&& (65535 : Int32)))])) _
          refine XS.bipush X0.here hx rfl (hb hby at_34) ?_
          exact kt)
      by_cases hc36_10 : (31 : Int32) < (qx &&& (65535 : Int32))
      · -- yes at pc 36: tt
        have pre11 : Goes p e below s₁ (entryFrame m #[(.int qx)] maxLocals) s₁ (mkF m 47 #[.val (.int qx), .val (.int ((qx &&& (65535 : Int32)).toUInt32.toUInt16.toUInt32.toInt32)), .val (.int (qx &&& (65535 : Int32))), .unset] [(.int (127 : Int32)), (.int (qx &&& (65535 : Int32)))]) := fun t kt => pre9 t (by
            show Steps p.tables e below (s₁.setTop (mkF m 36 #[.val (.int qx), .val (.int ((qx &&& (65535 : Int32)).toUInt32.toUInt16.toUInt32.toInt32)), .val (.int (qx &&& (65535 : Int32))), .unset] [(.int (31 : Int32)), (.int (qx &&& (65535 : Int32)))])) _
            refine XS.icmpYes X0.here hx rfl (pc0 := 36) (pc' := 44) rfl (hb hby at_36) rfl (tlt hc36_10).2.2.1 (by decide) (by decide) ?_
            show Steps p.tables e below (s₁.setTop (mkF m 44 #[.val (.int qx), .val (.int ((qx &&& (65535 : Int32)).toUInt32.toUInt16.toUInt32.toInt32)), .val (.int (qx &&& (65535 : Int32))), .unset] [])) _
            refine XS.iloadN X0.here hx rfl (hb hby at_44) rfl ?_
            show Steps p.tables e below (s₁.setTop (mkF m 45 #[.val (.int qx), .val (.int ((qx &&& (65535 : Int32)).toUInt32.toUInt16.toUInt32.toInt32)), .val (.int (qx &&& (65535 : Int32))), .unset] [(.int (qx &&& (65535 : Int32)))])) _
            refine XS.bipush X0.here hx rfl (hb hby at_45) ?_
            exact kt)
        by_cases hc47_12 : (qx &&& (65535 : Int32)) = (127 : Int32)
        · -- yes at pc 47: ttt
          have pre13 : Goes p e below s₁ (entryFrame m #[(.int qx)] maxLocals) s₁ (mkF m 58 #[.val (.int qx), .val (.int ((qx &&& (65535 : Int32)).toUInt32.toUInt16.toUInt32.toInt32)), .val (.int (qx &&& (65535 : Int32))), .val (.int (1 : Int32))] [(.int ((qx &&& (65535 : Int32)).toUInt32.toUInt16.toUInt32.toInt32))]) := fun t kt => pre11 t (by
              show Steps p.tables e below (s₁.setTop (mkF m 47 #[.val (.int qx), .val (.int ((qx &&& (65535 : Int32)).toUInt32.toUInt16.toUInt32.toInt32)), .val (.int (qx &&& (65535 : Int32))), .unset] [(.int (127 : Int32)), (.int (qx &&& (65535 : Int32)))])) _
              refine XS.icmpNo X0.here hx rfl (hb hby at_47) rfl (teq hc47_12).2 ?_
              show Steps p.tables e below (s₁.setTop (mkF m 50 #[.val (.int qx), .val (.int ((qx &&& (65535 : Int32)).toUInt32.toUInt16.toUInt32.toInt32)), .val (.int (qx &&& (65535 : Int32))), .unset] [])) _
              refine XS.iconst X0.here hx rfl (hb hby at_50) ?_
              show Steps p.tables e below (s₁.setTop (mkF m 51 #[.val (.int qx), .val (.int ((qx &&& (65535 : Int32)).toUInt32.toUInt16.toUInt32.toInt32)), .val (.int (qx &&& (65535 : Int32))), .unset] [(.int (1 : Int32))])) _
              refine XS.istoreN X0.here hx rfl (hb hby at_51) rfl (l' := #[.val (.int qx), .val (.int ((qx &&& (65535 : Int32)).toUInt32.toUInt16.toUInt32.toInt32)), .val (.int (qx &&& (65535 : Int32))), .val (.int (1 : Int32))]) rfl ?_
              show Steps p.tables e below (s₁.setTop (mkF m 52 #[.val (.int qx), .val (.int ((qx &&& (65535 : Int32)).toUInt32.toUInt16.toUInt32.toInt32)), .val (.int (qx &&& (65535 : Int32))), .val (.int (1 : Int32))] [])) _
              refine XS.goto X0.here hx rfl (pc0 := 52) (pc' := 57) rfl (hb hby at_52) (by decide) (by decide) ?_
              show Steps p.tables e below (s₁.setTop (mkF m 57 #[.val (.int qx), .val (.int ((qx &&& (65535 : Int32)).toUInt32.toUInt16.toUInt32.toInt32)), .val (.int (qx &&& (65535 : Int32))), .val (.int (1 : Int32))] [])) _
              refine XS.iloadN X0.here hx rfl (hb hby at_57) rfl ?_
              exact kt)
          obtain ⟨_, _, ⟨T14, L14, k14, n14⟩, -, X14, ⟨Lc14, hQ14, l14, y14, z14⟩, st14⟩ := Jvm.LawKit.callS X0 hx (y := (⟨"com/example/outcomist/outcomist/HttpSyntax", "isControlCharacter", "(C)Z"⟩ : MethodName)) hown (mvT hZ (hw _ (List.mem_of_getElem? (i := 1) rfl))) (mvT hZ (hw _ (List.mem_of_getElem? (i := 2) rfl))) (mvT hZ (hw _ (List.mem_of_getElem? (i := 3) rfl))) (mvT hZ (hw _ (List.mem_of_getElem? (i := 4) rfl))) (by decide) (backOf (W := 0) (own_rm1 l Z a0 hw [] ((qx &&& (65535 : Int32)).toUInt32.toUInt16.toUInt32.toInt32) h0 n0 Z0 ) hZ (hw _ (List.mem_of_getElem? (i := 4) rfl)) (hw _ (List.mem_of_getElem? (i := 3) rfl)) (by decide) (by decide)) (g := (mkF m 58 #[.val (.int qx), .val (.int ((qx &&& (65535 : Int32)).toUInt32.toUInt16.toUInt32.toInt32)), .val (.int (qx &&& (65535 : Int32))), .val (.int (1 : Int32))] [(.int ((qx &&& (65535 : Int32)).toUInt32.toUInt16.toUInt32.toInt32))])) rfl (by rw [hml]; rfl) (argsL := [(.int ((qx &&& (65535 : Int32)).toUInt32.toUInt16.toUInt32.toInt32))]) (rest := []) (lenOf own_pd0 rfl) rfl (by show 2 * 0 + _ ≤ _; exact Nat.le_of_eq rfl) (hb hby at_58) (fun _ _ => ⟨rfl, e0, (by decide : 0 + 0 ≤ _), (by decide : 0 + 0 ≤ _)⟩)
          dsimp only [Pt.U, Pt.locs, Pt.cells, Pt.slots] at X14 l14 y14 z14 st14 hQ14
          subst l14 y14 z14
          obtain ⟨rfl, N14q, e14⟩ := hQ14
          have N14 := Fr.app N0 N14q
          have pre15 : Goes p e below s₁ (entryFrame m #[(.int qx)] maxLocals) T14 (mkF m 61 #[.val (.int qx), .val (.int ((qx &&& (65535 : Int32)).toUInt32.toUInt16.toUInt32.toInt32)), .val (.int (qx &&& (65535 : Int32))), .val (.int (1 : Int32))] [(.int (if ((((qx &&& (65535 : Int32)).toUInt32.toUInt16.toUInt32.toInt32).toInt < 32 ∧ ¬ ((qx &&& (65535 : Int32)).toUInt32.toUInt16.toUInt32.toInt32).toInt = 9) ∨ ((qx &&& (65535 : Int32)).toUInt32.toUInt16.toUInt32.toInt32).toInt = 127) then 1 else 0))]) := fun t kt => pre13 t (st14 t kt)
          have pre16 : Goes p e below s₁ (entryFrame m #[(.int qx)] maxLocals) T14 (mkF m 70 #[.val (.int qx), .val (.int ((qx &&& (65535 : Int32)).toUInt32.toUInt16.toUInt32.toInt32)), .val (.int (qx &&& (65535 : Int32))), .val (.int (1 : Int32))] [(.int (1 : Int32))]) := fun t kt => pre15 t (by
              show Steps p.tables e below (T14.setTop (mkF m 61 #[.val (.int qx), .val (.int ((qx &&& (65535 : Int32)).toUInt32.toUInt16.toUInt32.toInt32)), .val (.int (qx &&& (65535 : Int32))), .val (.int (1 : Int32))] [(.int (if ((((qx &&& (65535 : Int32)).toUInt32.toUInt16.toUInt32.toInt32).toInt < 32 ∧ ¬ ((qx &&& (65535 : Int32)).toUInt32.toUInt16.toUInt32.toInt32).toInt = 9) ∨ ((qx &&& (65535 : Int32)).toUInt32.toUInt16.toUInt32.toInt32).toInt = 127) then 1 else 0))])) _
              refine XS.iloadN X14.here hx rfl (hb hby at_61) rfl ?_
              show Steps p.tables e below (T14.setTop (mkF m 62 #[.val (.int qx), .val (.int ((qx &&& (65535 : Int32)).toUInt32.toUInt16.toUInt32.toInt32)), .val (.int (qx &&& (65535 : Int32))), .val (.int (1 : Int32))] [(.int (1 : Int32)), (.int (if ((((qx &&& (65535 : Int32)).toUInt32.toUInt16.toUInt32.toInt32).toInt < 32 ∧ ¬ ((qx &&& (65535 : Int32)).toUInt32.toUInt16.toUInt32.toInt32).toInt = 9) ∨ ((qx &&& (65535 : Int32)).toUInt32.toUInt16.toUInt32.toInt32).toInt = 127) then 1 else 0))])) _
              refine XS.icmpNo X14.here hx rfl (hb hby at_62) rfl (teq (if_pos (own_n7 qx hc14_2 hc25_4 hc36_10 hc47_12) : (if ((((qx &&& (65535 : Int32)).toUInt32.toUInt16.toUInt32.toInt32).toInt < 32 ∧ ¬ ((qx &&& (65535 : Int32)).toUInt32.toUInt16.toUInt32.toInt32).toInt = 9) ∨ ((qx &&& (65535 : Int32)).toUInt32.toUInt16.toUInt32.toInt32).toInt = 127) then 1 else 0) = (1 : Int32))).2 ?_
              show Steps p.tables e below (T14.setTop (mkF m 65 #[.val (.int qx), .val (.int ((qx &&& (65535 : Int32)).toUInt32.toUInt16.toUInt32.toInt32)), .val (.int (qx &&& (65535 : Int32))), .val (.int (1 : Int32))] [])) _
              refine XS.iconst X14.here hx rfl (hb hby at_65) ?_
              show Steps p.tables e below (T14.setTop (mkF m 66 #[.val (.int qx), .val (.int ((qx &&& (65535 : Int32)).toUInt32.toUInt16.toUInt32.toInt32)), .val (.int (qx &&& (65535 : Int32))), .val (.int (1 : Int32))] [(.int (1 : Int32))])) _
              refine XS.goto X14.here hx rfl (pc0 := 66) (pc' := 70) rfl (hb hby at_66) (by decide) (by decide) ?_
              exact kt)
          obtain ⟨fs, hr, hrun, hended, hW, hsame⟩ := X14.leave (v := some (.int (1 : Int32))) (fun h => by rw [Bd.returns] at h; cases h)
          refine ⟨_, _, pre16 _ ?_, hrun, hended, _, _, rfl, ?_, ⟨_, rfl⟩, hW, hsame.mono (by decide) (by decide)⟩
          · show Steps p.tables e below (T14.setTop (mkF m 70 #[.val (.int qx), .val (.int ((qx &&& (65535 : Int32)).toUInt32.toUInt16.toUInt32.toInt32)), .val (.int (qx &&& (65535 : Int32))), .val (.int (1 : Int32))] [(.int (1 : Int32))])) _
            exact retN X14 hx (t := .boolean) Bd.returns (by simp) (hb hby at_70) hr
          · show Q_own_rm0 Z qx h0 n0 _ T14.heap _
            rw [e14]
            exact ⟨rfl, N14⟩
        · -- no at pc 47: ttt
          have pre17 : Goes p e below s₁ (entryFrame m #[(.int qx)] maxLocals) s₁ (mkF m 58 #[.val (.int qx), .val (.int ((qx &&& (65535 : Int32)).toUInt32.toUInt16.toUInt32.toInt32)), .val (.int (qx &&& (65535 : Int32))), .val (.int (0 : Int32))] [(.int ((qx &&& (65535 : Int32)).toUInt32.toUInt16.toUInt32.toInt32))]) := fun t kt => pre11 t (by
              show Steps p.tables e below (s₁.setTop (mkF m 47 #[.val (.int qx), .val (.int ((qx &&& (65535 : Int32)).toUInt32.toUInt16.toUInt32.toInt32)), .val (.int (qx &&& (65535 : Int32))), .unset] [(.int (127 : Int32)), (.int (qx &&& (65535 : Int32)))])) _
              refine XS.icmpYes X0.here hx rfl (pc0 := 47) (pc' := 55) rfl (hb hby at_47) rfl (feq hc47_12).2 (by decide) (by decide) ?_
              show Steps p.tables e below (s₁.setTop (mkF m 55 #[.val (.int qx), .val (.int ((qx &&& (65535 : Int32)).toUInt32.toUInt16.toUInt32.toInt32)), .val (.int (qx &&& (65535 : Int32))), .unset] [])) _
              refine XS.iconst X0.here hx rfl (hb hby at_55) ?_
              show Steps p.tables e below (s₁.setTop (mkF m 56 #[.val (.int qx), .val (.int ((qx &&& (65535 : Int32)).toUInt32.toUInt16.toUInt32.toInt32)), .val (.int (qx &&& (65535 : Int32))), .unset] [(.int (0 : Int32))])) _
              refine XS.istoreN X0.here hx rfl (hb hby at_56) rfl (l' := #[.val (.int qx), .val (.int ((qx &&& (65535 : Int32)).toUInt32.toUInt16.toUInt32.toInt32)), .val (.int (qx &&& (65535 : Int32))), .val (.int (0 : Int32))]) rfl ?_
              show Steps p.tables e below (s₁.setTop (mkF m 57 #[.val (.int qx), .val (.int ((qx &&& (65535 : Int32)).toUInt32.toUInt16.toUInt32.toInt32)), .val (.int (qx &&& (65535 : Int32))), .val (.int (0 : Int32))] [])) _
              refine XS.iloadN X0.here hx rfl (hb hby at_57) rfl ?_
              exact kt)
          obtain ⟨_, _, ⟨T18, L18, k18, n18⟩, -, X18, ⟨Lc18, hQ18, l18, y18, z18⟩, st18⟩ := Jvm.LawKit.callS X0 hx (y := (⟨"com/example/outcomist/outcomist/HttpSyntax", "isControlCharacter", "(C)Z"⟩ : MethodName)) hown (mvT hZ (hw _ (List.mem_of_getElem? (i := 1) rfl))) (mvT hZ (hw _ (List.mem_of_getElem? (i := 2) rfl))) (mvT hZ (hw _ (List.mem_of_getElem? (i := 3) rfl))) (mvT hZ (hw _ (List.mem_of_getElem? (i := 4) rfl))) (by decide) (backOf (W := 0) (own_rm1 l Z a0 hw [] ((qx &&& (65535 : Int32)).toUInt32.toUInt16.toUInt32.toInt32) h0 n0 Z0 ) hZ (hw _ (List.mem_of_getElem? (i := 4) rfl)) (hw _ (List.mem_of_getElem? (i := 3) rfl)) (by decide) (by decide)) (g := (mkF m 58 #[.val (.int qx), .val (.int ((qx &&& (65535 : Int32)).toUInt32.toUInt16.toUInt32.toInt32)), .val (.int (qx &&& (65535 : Int32))), .val (.int (0 : Int32))] [(.int ((qx &&& (65535 : Int32)).toUInt32.toUInt16.toUInt32.toInt32))])) rfl (by rw [hml]; rfl) (argsL := [(.int ((qx &&& (65535 : Int32)).toUInt32.toUInt16.toUInt32.toInt32))]) (rest := []) (lenOf own_pd0 rfl) rfl (by show 2 * 0 + _ ≤ _; exact Nat.le_of_eq rfl) (hb hby at_58) (fun _ _ => ⟨rfl, e0, (by decide : 0 + 0 ≤ _), (by decide : 0 + 0 ≤ _)⟩)
          dsimp only [Pt.U, Pt.locs, Pt.cells, Pt.slots] at X18 l18 y18 z18 st18 hQ18
          subst l18 y18 z18
          obtain ⟨rfl, N18q, e18⟩ := hQ18
          have N18 := Fr.app N0 N18q
          have pre19 : Goes p e below s₁ (entryFrame m #[(.int qx)] maxLocals) T18 (mkF m 61 #[.val (.int qx), .val (.int ((qx &&& (65535 : Int32)).toUInt32.toUInt16.toUInt32.toInt32)), .val (.int (qx &&& (65535 : Int32))), .val (.int (0 : Int32))] [(.int (if ((((qx &&& (65535 : Int32)).toUInt32.toUInt16.toUInt32.toInt32).toInt < 32 ∧ ¬ ((qx &&& (65535 : Int32)).toUInt32.toUInt16.toUInt32.toInt32).toInt = 9) ∨ ((qx &&& (65535 : Int32)).toUInt32.toUInt16.toUInt32.toInt32).toInt = 127) then 1 else 0))]) := fun t kt => pre17 t (st18 t kt)
          have pre20 : Goes p e below s₁ (entryFrame m #[(.int qx)] maxLocals) T18 (mkF m 70 #[.val (.int qx), .val (.int ((qx &&& (65535 : Int32)).toUInt32.toUInt16.toUInt32.toInt32)), .val (.int (qx &&& (65535 : Int32))), .val (.int (0 : Int32))] [(.int (1 : Int32))]) := fun t kt => pre19 t (by
              show Steps p.tables e below (T18.setTop (mkF m 61 #[.val (.int qx), .val (.int ((qx &&& (65535 : Int32)).toUInt32.toUInt16.toUInt32.toInt32)), .val (.int (qx &&& (65535 : Int32))), .val (.int (0 : Int32))] [(.int (if ((((qx &&& (65535 : Int32)).toUInt32.toUInt16.toUInt32.toInt32).toInt < 32 ∧ ¬ ((qx &&& (65535 : Int32)).toUInt32.toUInt16.toUInt32.toInt32).toInt = 9) ∨ ((qx &&& (65535 : Int32)).toUInt32.toUInt16.toUInt32.toInt32).toInt = 127) then 1 else 0))])) _
              refine XS.iloadN X18.here hx rfl (hb hby at_61) rfl ?_
              show Steps p.tables e below (T18.setTop (mkF m 62 #[.val (.int qx), .val (.int ((qx &&& (65535 : Int32)).toUInt32.toUInt16.toUInt32.toInt32)), .val (.int (qx &&& (65535 : Int32))), .val (.int (0 : Int32))] [(.int (0 : Int32)), (.int (if ((((qx &&& (65535 : Int32)).toUInt32.toUInt16.toUInt32.toInt32).toInt < 32 ∧ ¬ ((qx &&& (65535 : Int32)).toUInt32.toUInt16.toUInt32.toInt32).toInt = 9) ∨ ((qx &&& (65535 : Int32)).toUInt32.toUInt16.toUInt32.toInt32).toInt = 127) then 1 else 0))])) _
              refine XS.icmpNo X18.here hx rfl (hb hby at_62) rfl (teq (if_neg (own_n8 qx hc14_2 hc25_4 hc36_10 hc47_12) : (if ((((qx &&& (65535 : Int32)).toUInt32.toUInt16.toUInt32.toInt32).toInt < 32 ∧ ¬ ((qx &&& (65535 : Int32)).toUInt32.toUInt16.toUInt32.toInt32).toInt = 9) ∨ ((qx &&& (65535 : Int32)).toUInt32.toUInt16.toUInt32.toInt32).toInt = 127) then 1 else 0) = (0 : Int32))).2 ?_
              show Steps p.tables e below (T18.setTop (mkF m 65 #[.val (.int qx), .val (.int ((qx &&& (65535 : Int32)).toUInt32.toUInt16.toUInt32.toInt32)), .val (.int (qx &&& (65535 : Int32))), .val (.int (0 : Int32))] [])) _
              refine XS.iconst X18.here hx rfl (hb hby at_65) ?_
              show Steps p.tables e below (T18.setTop (mkF m 66 #[.val (.int qx), .val (.int ((qx &&& (65535 : Int32)).toUInt32.toUInt16.toUInt32.toInt32)), .val (.int (qx &&& (65535 : Int32))), .val (.int (0 : Int32))] [(.int (1 : Int32))])) _
              refine XS.goto X18.here hx rfl (pc0 := 66) (pc' := 70) rfl (hb hby at_66) (by decide) (by decide) ?_
              exact kt)
          obtain ⟨fs, hr, hrun, hended, hW, hsame⟩ := X18.leave (v := some (.int (1 : Int32))) (fun h => by rw [Bd.returns] at h; cases h)
          refine ⟨_, _, pre20 _ ?_, hrun, hended, _, _, rfl, ?_, ⟨_, rfl⟩, hW, hsame.mono (by decide) (by decide)⟩
          · show Steps p.tables e below (T18.setTop (mkF m 70 #[.val (.int qx), .val (.int ((qx &&& (65535 : Int32)).toUInt32.toUInt16.toUInt32.toInt32)), .val (.int (qx &&& (65535 : Int32))), .val (.int (0 : Int32))] [(.int (1 : Int32))])) _
            exact retN X18 hx (t := .boolean) Bd.returns (by simp) (hb hby at_70) hr
          · show Q_own_rm0 Z qx h0 n0 _ T18.heap _
            rw [e18]
            exact ⟨rfl, N18⟩
      · -- no at pc 36: tt
        have pre21 : Goes p e below s₁ (entryFrame m #[(.int qx)] maxLocals) s₁ (mkF m 58 #[.val (.int qx), .val (.int ((qx &&& (65535 : Int32)).toUInt32.toUInt16.toUInt32.toInt32)), .val (.int (qx &&& (65535 : Int32))), .val (.int (1 : Int32))] [(.int ((qx &&& (65535 : Int32)).toUInt32.toUInt16.toUInt32.toInt32))]) := fun t kt => pre9 t (by
            show Steps p.tables e below (s₁.setTop (mkF m 36 #[.val (.int qx), .val (.int ((qx &&& (65535 : Int32)).toUInt32.toUInt16.toUInt32.toInt32)), .val (.int (qx &&& (65535 : Int32))), .unset] [(.int (31 : Int32)), (.int (qx &&& (65535 : Int32)))])) _
            refine XS.icmpNo X0.here hx rfl (hb hby at_36) rfl (flt hc36_10).2.2.1 ?_
            show Steps p.tables e below (s₁.setTop (mkF m 39 #[.val (.int qx), .val (.int ((qx &&& (65535 : Int32)).toUInt32.toUInt16.toUInt32.toInt32)), .val (.int (qx &&& (65535 : Int32))), .unset] [])) _
            refine XS.iconst X0.here hx rfl (hb hby at_39) ?_
            show Steps p.tables e below (s₁.setTop (mkF m 40 #[.val (.int qx), .val (.int ((qx &&& (65535 : Int32)).toUInt32.toUInt16.toUInt32.toInt32)), .val (.int (qx &&& (65535 : Int32))), .unset] [(.int (1 : Int32))])) _
            refine XS.istoreN X0.here hx rfl (hb hby at_40) rfl (l' := #[.val (.int qx), .val (.int ((qx &&& (65535 : Int32)).toUInt32.toUInt16.toUInt32.toInt32)), .val (.int (qx &&& (65535 : Int32))), .val (.int (1 : Int32))]) rfl ?_
            show Steps p.tables e below (s₁.setTop (mkF m 41 #[.val (.int qx), .val (.int ((qx &&& (65535 : Int32)).toUInt32.toUInt16.toUInt32.toInt32)), .val (.int (qx &&& (65535 : Int32))), .val (.int (1 : Int32))] [])) _
            refine XS.goto X0.here hx rfl (pc0 := 41) (pc' := 57) rfl (hb hby at_41) (by decide) (by decide) ?_
            show Steps p.tables e below (s₁.setTop (mkF m 57 #[.val (.int qx), .val (.int ((qx &&& (65535 : Int32)).toUInt32.toUInt16.toUInt32.toInt32)), .val (.int (qx &&& (65535 : Int32))), .val (.int (1 : Int32))] [])) _
            refine XS.iloadN X0.here hx rfl (hb hby at_57) rfl ?_
            exact kt)
        obtain ⟨_, _, ⟨T22, L22, k22, n22⟩, -, X22, ⟨Lc22, hQ22, l22, y22, z22⟩, st22⟩ := Jvm.LawKit.callS X0 hx (y := (⟨"com/example/outcomist/outcomist/HttpSyntax", "isControlCharacter", "(C)Z"⟩ : MethodName)) hown (mvT hZ (hw _ (List.mem_of_getElem? (i := 1) rfl))) (mvT hZ (hw _ (List.mem_of_getElem? (i := 2) rfl))) (mvT hZ (hw _ (List.mem_of_getElem? (i := 3) rfl))) (mvT hZ (hw _ (List.mem_of_getElem? (i := 4) rfl))) (by decide) (backOf (W := 0) (own_rm1 l Z a0 hw [] ((qx &&& (65535 : Int32)).toUInt32.toUInt16.toUInt32.toInt32) h0 n0 Z0 ) hZ (hw _ (List.mem_of_getElem? (i := 4) rfl)) (hw _ (List.mem_of_getElem? (i := 3) rfl)) (by decide) (by decide)) (g := (mkF m 58 #[.val (.int qx), .val (.int ((qx &&& (65535 : Int32)).toUInt32.toUInt16.toUInt32.toInt32)), .val (.int (qx &&& (65535 : Int32))), .val (.int (1 : Int32))] [(.int ((qx &&& (65535 : Int32)).toUInt32.toUInt16.toUInt32.toInt32))])) rfl (by rw [hml]; rfl) (argsL := [(.int ((qx &&& (65535 : Int32)).toUInt32.toUInt16.toUInt32.toInt32))]) (rest := []) (lenOf own_pd0 rfl) rfl (by show 2 * 0 + _ ≤ _; exact Nat.le_of_eq rfl) (hb hby at_58) (fun _ _ => ⟨rfl, e0, (by decide : 0 + 0 ≤ _), (by decide : 0 + 0 ≤ _)⟩)
        dsimp only [Pt.U, Pt.locs, Pt.cells, Pt.slots] at X22 l22 y22 z22 st22 hQ22
        subst l22 y22 z22
        obtain ⟨rfl, N22q, e22⟩ := hQ22
        have N22 := Fr.app N0 N22q
        have pre23 : Goes p e below s₁ (entryFrame m #[(.int qx)] maxLocals) T22 (mkF m 61 #[.val (.int qx), .val (.int ((qx &&& (65535 : Int32)).toUInt32.toUInt16.toUInt32.toInt32)), .val (.int (qx &&& (65535 : Int32))), .val (.int (1 : Int32))] [(.int (if ((((qx &&& (65535 : Int32)).toUInt32.toUInt16.toUInt32.toInt32).toInt < 32 ∧ ¬ ((qx &&& (65535 : Int32)).toUInt32.toUInt16.toUInt32.toInt32).toInt = 9) ∨ ((qx &&& (65535 : Int32)).toUInt32.toUInt16.toUInt32.toInt32).toInt = 127) then 1 else 0))]) := fun t kt => pre21 t (st22 t kt)
        have pre24 : Goes p e below s₁ (entryFrame m #[(.int qx)] maxLocals) T22 (mkF m 70 #[.val (.int qx), .val (.int ((qx &&& (65535 : Int32)).toUInt32.toUInt16.toUInt32.toInt32)), .val (.int (qx &&& (65535 : Int32))), .val (.int (1 : Int32))] [(.int (1 : Int32))]) := fun t kt => pre23 t (by
            show Steps p.tables e below (T22.setTop (mkF m 61 #[.val (.int qx), .val (.int ((qx &&& (65535 : Int32)).toUInt32.toUInt16.toUInt32.toInt32)), .val (.int (qx &&& (65535 : Int32))), .val (.int (1 : Int32))] [(.int (if ((((qx &&& (65535 : Int32)).toUInt32.toUInt16.toUInt32.toInt32).toInt < 32 ∧ ¬ ((qx &&& (65535 : Int32)).toUInt32.toUInt16.toUInt32.toInt32).toInt = 9) ∨ ((qx &&& (65535 : Int32)).toUInt32.toUInt16.toUInt32.toInt32).toInt = 127) then 1 else 0))])) _
            refine XS.iloadN X22.here hx rfl (hb hby at_61) rfl ?_
            show Steps p.tables e below (T22.setTop (mkF m 62 #[.val (.int qx), .val (.int ((qx &&& (65535 : Int32)).toUInt32.toUInt16.toUInt32.toInt32)), .val (.int (qx &&& (65535 : Int32))), .val (.int (1 : Int32))] [(.int (1 : Int32)), (.int (if ((((qx &&& (65535 : Int32)).toUInt32.toUInt16.toUInt32.toInt32).toInt < 32 ∧ ¬ ((qx &&& (65535 : Int32)).toUInt32.toUInt16.toUInt32.toInt32).toInt = 9) ∨ ((qx &&& (65535 : Int32)).toUInt32.toUInt16.toUInt32.toInt32).toInt = 127) then 1 else 0))])) _
            refine XS.icmpNo X22.here hx rfl (hb hby at_62) rfl (teq (if_pos (own_n9 qx hc14_2 hc25_4 hc36_10) : (if ((((qx &&& (65535 : Int32)).toUInt32.toUInt16.toUInt32.toInt32).toInt < 32 ∧ ¬ ((qx &&& (65535 : Int32)).toUInt32.toUInt16.toUInt32.toInt32).toInt = 9) ∨ ((qx &&& (65535 : Int32)).toUInt32.toUInt16.toUInt32.toInt32).toInt = 127) then 1 else 0) = (1 : Int32))).2 ?_
            show Steps p.tables e below (T22.setTop (mkF m 65 #[.val (.int qx), .val (.int ((qx &&& (65535 : Int32)).toUInt32.toUInt16.toUInt32.toInt32)), .val (.int (qx &&& (65535 : Int32))), .val (.int (1 : Int32))] [])) _
            refine XS.iconst X22.here hx rfl (hb hby at_65) ?_
            show Steps p.tables e below (T22.setTop (mkF m 66 #[.val (.int qx), .val (.int ((qx &&& (65535 : Int32)).toUInt32.toUInt16.toUInt32.toInt32)), .val (.int (qx &&& (65535 : Int32))), .val (.int (1 : Int32))] [(.int (1 : Int32))])) _
            refine XS.goto X22.here hx rfl (pc0 := 66) (pc' := 70) rfl (hb hby at_66) (by decide) (by decide) ?_
            exact kt)
        obtain ⟨fs, hr, hrun, hended, hW, hsame⟩ := X22.leave (v := some (.int (1 : Int32))) (fun h => by rw [Bd.returns] at h; cases h)
        refine ⟨_, _, pre24 _ ?_, hrun, hended, _, _, rfl, ?_, ⟨_, rfl⟩, hW, hsame.mono (by decide) (by decide)⟩
        · show Steps p.tables e below (T22.setTop (mkF m 70 #[.val (.int qx), .val (.int ((qx &&& (65535 : Int32)).toUInt32.toUInt16.toUInt32.toInt32)), .val (.int (qx &&& (65535 : Int32))), .val (.int (1 : Int32))] [(.int (1 : Int32))])) _
          exact retN X22 hx (t := .boolean) Bd.returns (by simp) (hb hby at_70) hr
        · show Q_own_rm0 Z qx h0 n0 _ T22.heap _
          rw [e22]
          exact ⟨rfl, N22⟩
  · -- no at pc 14: 
    have pre25 : Goes p e below s₁ (entryFrame m #[(.int qx)] maxLocals) s₁ (mkF m 58 #[.val (.int qx), .val (.int ((qx &&& (65535 : Int32)).toUInt32.toUInt16.toUInt32.toInt32)), .val (.int (qx &&& (65535 : Int32))), .val (.int (1 : Int32))] [(.int ((qx &&& (65535 : Int32)).toUInt32.toUInt16.toUInt32.toInt32))]) := fun t kt => pre1 t (by
        show Steps p.tables e below (s₁.setTop (mkF m 14 #[.val (.int qx), .val (.int ((qx &&& (65535 : Int32)).toUInt32.toUInt16.toUInt32.toInt32)), .val (.int (qx &&& (65535 : Int32))), .unset] [(.int (8 : Int32)), (.int (qx &&& (65535 : Int32)))])) _
        refine XS.icmpNo X0.here hx rfl (hb hby at_14) rfl (flt hc14_2).2.2.1 ?_
        show Steps p.tables e below (s₁.setTop (mkF m 17 #[.val (.int qx), .val (.int ((qx &&& (65535 : Int32)).toUInt32.toUInt16.toUInt32.toInt32)), .val (.int (qx &&& (65535 : Int32))), .unset] [])) _
        refine XS.iconst X0.here hx rfl (hb hby at_17) ?_
        show Steps p.tables e below (s₁.setTop (mkF m 18 #[.val (.int qx), .val (.int ((qx &&& (65535 : Int32)).toUInt32.toUInt16.toUInt32.toInt32)), .val (.int (qx &&& (65535 : Int32))), .unset] [(.int (1 : Int32))])) _
        refine XS.istoreN X0.here hx rfl (hb hby at_18) rfl (l' := #[.val (.int qx), .val (.int ((qx &&& (65535 : Int32)).toUInt32.toUInt16.toUInt32.toInt32)), .val (.int (qx &&& (65535 : Int32))), .val (.int (1 : Int32))]) rfl ?_
        show Steps p.tables e below (s₁.setTop (mkF m 19 #[.val (.int qx), .val (.int ((qx &&& (65535 : Int32)).toUInt32.toUInt16.toUInt32.toInt32)), .val (.int (qx &&& (65535 : Int32))), .val (.int (1 : Int32))] [])) _
        refine XS.goto X0.here hx rfl (pc0 := 19) (pc' := 57) rfl (hb hby at_19) (by decide) (by decide) ?_
        show Steps p.tables e below (s₁.setTop (mkF m 57 #[.val (.int qx), .val (.int ((qx &&& (65535 : Int32)).toUInt32.toUInt16.toUInt32.toInt32)), .val (.int (qx &&& (65535 : Int32))), .val (.int (1 : Int32))] [])) _
        refine XS.iloadN X0.here hx rfl (hb hby at_57) rfl ?_
        exact kt)
    obtain ⟨_, _, ⟨T26, L26, k26, n26⟩, -, X26, ⟨Lc26, hQ26, l26, y26, z26⟩, st26⟩ := Jvm.LawKit.callS X0 hx (y := (⟨"com/example/outcomist/outcomist/HttpSyntax", "isControlCharacter", "(C)Z"⟩ : MethodName)) hown (mvT hZ (hw _ (List.mem_of_getElem? (i := 1) rfl))) (mvT hZ (hw _ (List.mem_of_getElem? (i := 2) rfl))) (mvT hZ (hw _ (List.mem_of_getElem? (i := 3) rfl))) (mvT hZ (hw _ (List.mem_of_getElem? (i := 4) rfl))) (by decide) (backOf (W := 0) (own_rm1 l Z a0 hw [] ((qx &&& (65535 : Int32)).toUInt32.toUInt16.toUInt32.toInt32) h0 n0 Z0 ) hZ (hw _ (List.mem_of_getElem? (i := 4) rfl)) (hw _ (List.mem_of_getElem? (i := 3) rfl)) (by decide) (by decide)) (g := (mkF m 58 #[.val (.int qx), .val (.int ((qx &&& (65535 : Int32)).toUInt32.toUInt16.toUInt32.toInt32)), .val (.int (qx &&& (65535 : Int32))), .val (.int (1 : Int32))] [(.int ((qx &&& (65535 : Int32)).toUInt32.toUInt16.toUInt32.toInt32))])) rfl (by rw [hml]; rfl) (argsL := [(.int ((qx &&& (65535 : Int32)).toUInt32.toUInt16.toUInt32.toInt32))]) (rest := []) (lenOf own_pd0 rfl) rfl (by show 2 * 0 + _ ≤ _; exact Nat.le_of_eq rfl) (hb hby at_58) (fun _ _ => ⟨rfl, e0, (by decide : 0 + 0 ≤ _), (by decide : 0 + 0 ≤ _)⟩)
    dsimp only [Pt.U, Pt.locs, Pt.cells, Pt.slots] at X26 l26 y26 z26 st26 hQ26
    subst l26 y26 z26
    obtain ⟨rfl, N26q, e26⟩ := hQ26
    have N26 := Fr.app N0 N26q
    have pre27 : Goes p e below s₁ (entryFrame m #[(.int qx)] maxLocals) T26 (mkF m 61 #[.val (.int qx), .val (.int ((qx &&& (65535 : Int32)).toUInt32.toUInt16.toUInt32.toInt32)), .val (.int (qx &&& (65535 : Int32))), .val (.int (1 : Int32))] [(.int (if ((((qx &&& (65535 : Int32)).toUInt32.toUInt16.toUInt32.toInt32).toInt < 32 ∧ ¬ ((qx &&& (65535 : Int32)).toUInt32.toUInt16.toUInt32.toInt32).toInt = 9) ∨ ((qx &&& (65535 : Int32)).toUInt32.toUInt16.toUInt32.toInt32).toInt = 127) then 1 else 0))]) := fun t kt => pre25 t (st26 t kt)
    have pre28 : Goes p e below s₁ (entryFrame m #[(.int qx)] maxLocals) T26 (mkF m 70 #[.val (.int qx), .val (.int ((qx &&& (65535 : Int32)).toUInt32.toUInt16.toUInt32.toInt32)), .val (.int (qx &&& (65535 : Int32))), .val (.int (1 : Int32))] [(.int (1 : Int32))]) := fun t kt => pre27 t (by
        show Steps p.tables e below (T26.setTop (mkF m 61 #[.val (.int qx), .val (.int ((qx &&& (65535 : Int32)).toUInt32.toUInt16.toUInt32.toInt32)), .val (.int (qx &&& (65535 : Int32))), .val (.int (1 : Int32))] [(.int (if ((((qx &&& (65535 : Int32)).toUInt32.toUInt16.toUInt32.toInt32).toInt < 32 ∧ ¬ ((qx &&& (65535 : Int32)).toUInt32.toUInt16.toUInt32.toInt32).toInt = 9) ∨ ((qx &&& (65535 : Int32)).toUInt32.toUInt16.toUInt32.toInt32).toInt = 127) then 1 else 0))])) _
        refine XS.iloadN X26.here hx rfl (hb hby at_61) rfl ?_
        show Steps p.tables e below (T26.setTop (mkF m 62 #[.val (.int qx), .val (.int ((qx &&& (65535 : Int32)).toUInt32.toUInt16.toUInt32.toInt32)), .val (.int (qx &&& (65535 : Int32))), .val (.int (1 : Int32))] [(.int (1 : Int32)), (.int (if ((((qx &&& (65535 : Int32)).toUInt32.toUInt16.toUInt32.toInt32).toInt < 32 ∧ ¬ ((qx &&& (65535 : Int32)).toUInt32.toUInt16.toUInt32.toInt32).toInt = 9) ∨ ((qx &&& (65535 : Int32)).toUInt32.toUInt16.toUInt32.toInt32).toInt = 127) then 1 else 0))])) _
        refine XS.icmpNo X26.here hx rfl (hb hby at_62) rfl (teq (if_pos (own_n10 qx hc14_2) : (if ((((qx &&& (65535 : Int32)).toUInt32.toUInt16.toUInt32.toInt32).toInt < 32 ∧ ¬ ((qx &&& (65535 : Int32)).toUInt32.toUInt16.toUInt32.toInt32).toInt = 9) ∨ ((qx &&& (65535 : Int32)).toUInt32.toUInt16.toUInt32.toInt32).toInt = 127) then 1 else 0) = (1 : Int32))).2 ?_
        show Steps p.tables e below (T26.setTop (mkF m 65 #[.val (.int qx), .val (.int ((qx &&& (65535 : Int32)).toUInt32.toUInt16.toUInt32.toInt32)), .val (.int (qx &&& (65535 : Int32))), .val (.int (1 : Int32))] [])) _
        refine XS.iconst X26.here hx rfl (hb hby at_65) ?_
        show Steps p.tables e below (T26.setTop (mkF m 66 #[.val (.int qx), .val (.int ((qx &&& (65535 : Int32)).toUInt32.toUInt16.toUInt32.toInt32)), .val (.int (qx &&& (65535 : Int32))), .val (.int (1 : Int32))] [(.int (1 : Int32))])) _
        refine XS.goto X26.here hx rfl (pc0 := 66) (pc' := 70) rfl (hb hby at_66) (by decide) (by decide) ?_
        exact kt)
    obtain ⟨fs, hr, hrun, hended, hW, hsame⟩ := X26.leave (v := some (.int (1 : Int32))) (fun h => by rw [Bd.returns] at h; cases h)
    refine ⟨_, _, pre28 _ ?_, hrun, hended, _, _, rfl, ?_, ⟨_, rfl⟩, hW, hsame.mono (by decide) (by decide)⟩
    · show Steps p.tables e below (T26.setTop (mkF m 70 #[.val (.int qx), .val (.int ((qx &&& (65535 : Int32)).toUInt32.toUInt16.toUInt32.toInt32)), .val (.int (qx &&& (65535 : Int32))), .val (.int (1 : Int32))] [(.int (1 : Int32))])) _
      exact retN X26 hx (t := .boolean) Bd.returns (by simp) (hb hby at_70) hr
    · show Q_own_rm0 Z qx h0 n0 _ T26.heap _
      rw [e26]
      exact ⟨rfl, N26⟩
set_option maxRecDepth 65536 in
set_option maxHeartbeats 40000000 in
theorem comes_1 {Post : Tables → Env → Array Value → State → Outcome → State → Prop} (hpost : ∀ tb e args s v u, (limb_1_1.after args s (.returned v) u = true ∧ limb_1_2.after args s (.returned v) u = true ∧ True) → FrameEnd s (.returned v) u (Jvm.fieldLocs frame_1_writes args s ++ Jvm.arrayLocs frame_1_arrays args s ++ Jvm.staticLocs frame_1_statics s) 0 0 → Post tb e args s (.returned v) u) :
    ArmFor flags0 classFile x code maxLocals ret World_1 tables_1 room_1 Calls_1 rest_1 Pre_1 Post := by
  intro l hfl _ _ p e ha hc hk s m args below hf hA hF happ hP
  obtain ⟨hcalls, hrest, hpre⟩ := hP
  obtain ⟨-, -, -, hnamed, -, -, -, hat⟩ := (Spec.applies_iff hf).mp happ
  obtain ⟨hg, hn⟩ := and_e (Cond.before_iff.mp (show (Jvm.Cond.and given_1 narrow_1).before args s = true from hpre))
  obtain ⟨g5, g6⟩ := and_e hg
  obtain ⟨w0, rfl⟩ : ∃ w0 : Value, args = #[w0] := by
    have hs : args.size = 1 := by simpa [Cond.value, given_1] using g5
    obtain ⟨L⟩ := args
    match L, hs with
    | [w0], _ => exact ⟨w0, rfl⟩
  have hw := fun d (hd : d ∈ tables_1) => atoms_spec (ws := Jvm.Cond.code x code maxLocals ret :: tables_1) hat d (List.mem_cons_of_mem _ hd)
  have hfit : Fit s := fun {y c} hc i hi => by
    obtain ⟨ha, rfl⟩ := Array.getElem?_eq_some_iff.mp hc
    have q := List.all_eq_true.mp ((Array.all_eq_true_iff_forall_mem.mp hF) _ (Array.getElem_mem ha)) i (List.mem_range.mpr hi)
    simpa [Array.getElem?_eq_getElem hi] using q
  obtain ⟨i0, ei0⟩ := is_v g6
  obtain rfl : w0 = (.int i0) := Option.some.inj ei0
  obtain ⟨n, o, h1, h2, h3, _, L, rfl, ⟨rfl, N⟩, hq⟩ := own_rm0 l s _ hw tables_1 i0  s.heap s.heap.size (Nat.le_refl _)  p e ha hc hk s m _ below hf ((Spec.applies_iff_loose hf).mp happ).1 ⟨rfl, State.Warmed39.refl s, rfl⟩ trivial
  refine ⟨n, _, h1, h2, h3, hpost _ _ _ _ _ _ ⟨Cond.after_iff.mpr rfl, Cond.after_iff.mpr (eq_i res_at (Term.int_eval (1)) rfl), trivial⟩ ⟨hq.1, hq.2.1, (hq.2.2.sift fun y hy => Or.inr (N y hy)).mono (by decide) (by decide)⟩⟩
theorem main_1_1 : Claimed_1_1 := comes_1 fun _ _ _ _ _ _ h hF => ⟨h.1, hF⟩
theorem main_1_2 : Claimed_1_2 := comes_1 fun _ _ _ _ _ _ h hF => ⟨h.2.1, hF⟩
end Jvm.Pilot.@@N@@
namespace Jvm.Pilot.@@N@@
open Jvm Jvm.ClassFile Sem Op Lib Jvm.Free Jvm.Stand Jvm.Pilot.@@N@@.Jvm.D
/-! MADE BY PROGRAM (witnessworld.py) out of the Statement's table words and the real class files: 9 classes; the members and pool entries that the words name. The judged class is class 1, her method 1. -/
namespace start1
open Jvm.ClassFile
def u (s : String) : CpInfo := .utf8 (stringToUtf16 s)
/-- a pool by its gaps: so many unusable entries, then the entry; so many at the end -/
def gap : Nat → List CpInfo → List CpInfo
  | 0, r => r
  | n + 1, r => .unusable :: gap n r
def poolList (es : List (Nat × CpInfo)) (last : Nat) : List CpInfo := es.foldr (fun e r => gap e.1 (e.2 :: r)) (gap last [])
def pool (es : List (Nat × CpInfo)) (last : Nat) : Array CpInfo := ⟨poolList es last⟩
def fileOf (pool : Array CpInfo) (this : Nat) (attrs : Array Attribute := #[]) (ms : Array MethodInfo := #[]) (fl : Nat := 33) (sup : Nat := 0) (ifs : Array Nat := #[]) (fds : Array FieldInfo := #[]) : ClassFile where
  minorVersion := 0
  majorVersion := 65
  constantPool := pool
  accessFlags := fl
  thisClass := this
  superClass := sup
  interfaces := ifs
  fields := fds
  methods := ms
  attributes := attrs
def plain (name : String) (sup : Option ClassId) : Class where
  name := name
  kind := .ordinary
  loader := none
  accessFlags := 33
  super := sup
  interfaces := #[]
  cf := none
  fields := #[]
  methods := #[]
  instanceTypes := #[]
  staticTypes := #[]
  resolved := #[]
  callSites := []
  init := .initialized
  statics := none
  mirror := none

def pool0 : Array CpInfo := pool [(5, u "<init>"), (0, u "()V"), (1, .class_ 10), (1, u "java/lang/Object")] 113

def k0m0 : Method := { name := "<init>", desc := "()V", sig := { parameters := [], returnType := none }, accessFlags := 1, code := none }
/-- java/lang/Object -/
def k0 : Class := { plain "java/lang/Object" none with
  accessFlags := 33
  interfaces := #[]
  cf := some (fileOf pool0 8 #[] #[{ accessFlags := 1, nameIndex := 5, descriptorIndex := 6, attributes := #[] }] 33 0 #[] #[])
  fields := #[]
  methods := #[k0m0]
  instanceTypes := #[]
  staticTypes := #[]
  resolved := Array.replicate 124 none
  statics := none }

def pool1 : Array CpInfo := pool [(2, .class_ 4), (1, u "java/lang/Object"), (0, u "<init>"), (0, u "()V"), (0, .integer 65535), (0, .methodref 9 10), (0, .class_ 11), (0, .nameAndType 12 13), (0, u "com/example/outcomist/outcomist/HttpSyntax"), (0, u "isControlCharacter"), (0, u "(C)Z"), (0, .class_ 15), (0, u "com/example/outcomist/outcomist/HttpSyntaxIsControlCharacterPinLaw"), (2, u "law"), (0, u "(I)Z")] 3

def k1m0 : Method := { name := "<init>", desc := "()V", sig := { parameters := [], returnType := none }, accessFlags := 2, code := none }
def k1c1 : Code := { maxStack := 2, maxLocals := 4, code := code, exceptionTable := #[], attributes := #[] }
def k1m1 : Method := { name := "law", desc := "(I)Z", sig := { parameters := [.int], returnType := some .boolean }, accessFlags := 9, code := some k1c1 }
/-- com/example/outcomist/outcomist/HttpSyntaxIsControlCharacterPinLaw -/
def k1 : Class := { plain "com/example/outcomist/outcomist/HttpSyntaxIsControlCharacterPinLaw" (some 0) with
  accessFlags := 49
  interfaces := #[]
  cf := some (fileOf pool1 14 #[] #[{ accessFlags := 2, nameIndex := 5, descriptorIndex := 6, attributes := #[] }, { accessFlags := 9, nameIndex := 18, descriptorIndex := 19, attributes := #[] }] 49 2 #[] #[])
  fields := #[]
  methods := #[k1m0, k1m1]
  instanceTypes := #[]
  staticTypes := #[]
  resolved := Array.replicate 23 none
  statics := none }

def pool2 : Array CpInfo := pool [(2, .class_ 4), (1, u "java/lang/Object"), (0, u "<init>"), (0, u "()V"), (11, .class_ 20), (1, u "com/example/outcomist/outcomist/HttpSyntax"), (1, u "(C)Z"), (10, .class_ 34), (0, u "com/example/outcomist/outcomist/HttpSyntax$Field"), (24, u "TOKEN_PUNCTUATION"), (0, u "Ljava/lang/String;"), (4, u "isControlCharacter")] 9

def k2m0 : Method := { name := "<init>", desc := "()V", sig := { parameters := [], returnType := none }, accessFlags := 2, code := none }
def k2c1 : Code := { maxStack := 2, maxLocals := 1, code := prog_42_method_3_code, exceptionTable := #[], attributes := #[] }
def k2m1 : Method := { name := "isControlCharacter", desc := "(C)Z", sig := { parameters := [.char], returnType := some .boolean }, accessFlags := 8, code := some k2c1 }
/-- com/example/outcomist/outcomist/HttpSyntax -/
def k2 : Class := { plain "com/example/outcomist/outcomist/HttpSyntax" (some 0) with
  accessFlags := 48
  interfaces := #[]
  cf := some (fileOf pool2 18 #[.nestMembers #[33]] #[{ accessFlags := 2, nameIndex := 5, descriptorIndex := 6, attributes := #[] }, { accessFlags := 8, nameIndex := 65, descriptorIndex := 22, attributes := #[] }] 48 2 #[] #[{ accessFlags := 26, nameIndex := 59, descriptorIndex := 60, attributes := #[] }])
  fields := #[{ name := "TOKEN_PUNCTUATION", type := (.object "java/lang/String"), accessFlags := 26, slot := 0, constantValue := 0 }]
  methods := #[k2m0, k2m1]
  instanceTypes := #[]
  staticTypes := #[(.object "java/lang/String")]
  resolved := Array.replicate 75 none
  statics := none }

def pool3 : Array CpInfo := pool [(1, u "java/lang/Cloneable"), (0, .class_ 1), (0, u "java/lang/Object"), (0, .class_ 3)] 3

/-- java/lang/Cloneable -/
def k3 : Class := { plain "java/lang/Cloneable" (some 0) with
  accessFlags := 1537
  interfaces := #[]
  cf := some (fileOf pool3 2 #[] #[] 1537 4 #[] #[])
  fields := #[]
  methods := #[]
  instanceTypes := #[]
  staticTypes := #[]
  resolved := Array.replicate 8 none
  statics := none }

def pool4 : Array CpInfo := pool [(1, u "java/io/Serializable"), (0, .class_ 1), (0, u "java/lang/Object"), (0, .class_ 3)] 3

/-- java/io/Serializable -/
def k4 : Class := { plain "java/io/Serializable" (some 0) with
  accessFlags := 1537
  interfaces := #[]
  cf := some (fileOf pool4 2 #[] #[] 1537 4 #[] #[])
  fields := #[]
  methods := #[]
  instanceTypes := #[]
  staticTypes := #[]
  resolved := Array.replicate 8 none
  statics := none }

/-- the primitive byte -/
def k5 : Class := { plain "byte" none with kind := .primitive 'B', accessFlags := 0x411 }
/-- [B -/
def k6 : Class := { plain "[B" (some 0) with kind := .array 5 .byte, interfaces := #[3, 4], accessFlags := 1041 }

/-- the primitive int -/
def k7 : Class := { plain "int" none with kind := .primitive 'I', accessFlags := 0x411 }
/-- [I -/
def k8 : Class := { plain "[I" (some 0) with kind := .array 7 .int, interfaces := #[3, 4], accessFlags := 1041 }

def heap : Heap := #[]
def classes : Array Class := #[k0, k1, k2, k3, k4, k5, k6, k7, k8]
def interned : List (Array UInt16 × Addr) := []
def slotsUsed : Nat := 0
def theMethod : MethodId := ⟨1, 1⟩
def args0 : Array Value := #[.int 5]
def aboutOver (below : List Frame) : State where
  vm := { classes := classes, interned := interned.toArray }
  heap := heap
  slotsUsed := slotsUsed
  threads := #[{ frames := .invoking theMethod args0 :: below }]
def below0 : List Frame := [.native { method := ⟨0, 0⟩, args := #[] }]
def about1 : State := aboutOver below0
def p0 : Program := .bare "" "" ""
def e0 : Env := launch0.env 0 0 0
theorem w_frames : about1.frames = Frame.invoking theMethod args0 :: below0 := rfl
set_option maxRecDepth 65536 in
theorem w_args : argsFit about1.vm theMethod args0 = true := by decide +kernel
set_option maxRecDepth 65536 in
theorem w_heap : heapFits about1 = true := by decide +kernel
set_option maxRecDepth 65536 in
theorem w_runnable : about1.curStatus? = some .runnable := by decide +kernel
set_option maxRecDepth 65536 in
theorem w_alone : about1.alone = true := by decide +kernel
set_option maxRecDepth 65536 in
theorem w_named : about1.methodNamed? x = some theMethod := by decide +kernel
set_option maxRecDepth 65536 in
theorem w_hears : about1.hears theMethod below0 = true := by decide +kernel
set_option maxRecDepth 65536 in
theorem w_ripe : about1.ripe theMethod args0 below0 = true := by decide +kernel
theorem w_running : about1.status = .running := rfl
set_option maxRecDepth 65536 in
theorem w_room : about1.hasRoom e0.platform room_1 = true :=
  launch0.hasRoom_least _ room_1 (by decide +kernel) (by decide +kernel) (by decide +kernel) (by decide +kernel) (by decide +kernel) (by decide +kernel)
theorem allAtoms_all (ts : List Jvm.Cond) (a : Array Jvm.Value) (st : Jvm.State) : (allAtoms ts).before a st = ts.all (fun c => c.before a st) := by
  induction ts with
  | nil => rfl
  | cons c t ih =>
    show (Jvm.Cond.and c (allAtoms t)).before a st = _
    rw [Jvm.Cond.before_and, ih, List.all_cons]
def words1 : List Jvm.Cond := Jvm.Cond.code x code maxLocals ret :: tables_1
/-- a 'code' word, met by the world's own term for the bytes: nothing is compared byte by byte -/
theorem code_word {y : MethodName} {bytes : ByteArray} {mx : Nat} {rt : Option FieldType} {a : Array Value} {s : State} {m : MethodId} {meth : Method} {c : Code} (h1 : s.methodNamed? y = some m) (h2 : s.vm.method? m = some meth) (h3 : meth.code = some c) (h4 : c.code = bytes)
    (h5 : (c.maxLocals == mx && c.exceptionTable.isEmpty && decide (c.maxStack ≤ mostOperands) && decide (meth.sig.returnType = rt) && !meth.locks && decide (parseMethodDescriptor y.desc = some meth.sig)) = true) : (Jvm.Cond.code y bytes mx rt).before a s = true := by
  simp only [Bool.and_eq_true, beq_iff_eq, Bool.not_eq_true', decide_eq_true_eq] at h5
  obtain ⟨⟨⟨⟨⟨g1, g2⟩, g3⟩, g4⟩, g5⟩, g6⟩ := h5
  simp [Cond.before, Cond.holds, Cond.value, h1, h2, h3, h4, g1, g2, g3, g4, g5, g6]
def isCode : Jvm.Cond → Bool
  | .code _ _ _ _ => true
  | _ => false
theorem all_split {L : List Jvm.Cond} {P : Jvm.Cond → Bool} (h1 : L.all (fun c => isCode c || P c) = true) (h2 : ∀ c ∈ L.filter isCode, P c = true) : L.all P = true := by
  refine List.all_eq_true.mpr fun c hc => ?_
  have h := List.all_eq_true.mp h1 c hc
  rcases Bool.eq_false_or_eq_true (isCode c) with hi | hi
  · exact h2 c (List.mem_filter.mpr ⟨hc, hi⟩)
  · simpa [hi] using h
set_option maxRecDepth 65536 in
theorem w_c0 : (Jvm.Cond.code x code maxLocals ret).before args0 about1 = true := code_word (m := ⟨1, 1⟩) (meth := k1m1) (c := k1c1) (by decide +kernel) rfl rfl rfl (by decide +kernel)
set_option maxRecDepth 65536 in
theorem w_c1 : (Jvm.Cond.code ({ cls := "com/example/outcomist/outcomist/HttpSyntax", name := "isControlCharacter", desc := "(C)Z" } : Jvm.MethodName) prog_42_method_3_code (1 : Nat) (Option.some Jvm.ClassFile.FieldType.boolean)).before args0 about1 = true := code_word (m := ⟨2, 1⟩) (meth := k2m1) (c := k2c1) (by decide +kernel) rfl rfl rfl (by decide +kernel)
def codes1 : List Jvm.Cond := [Jvm.Cond.code x code maxLocals ret, Jvm.Cond.code ({ cls := "com/example/outcomist/outcomist/HttpSyntax", name := "isControlCharacter", desc := "(C)Z" } : Jvm.MethodName) prog_42_method_3_code (1 : Nat) (Option.some Jvm.ClassFile.FieldType.boolean)]
set_option maxRecDepth 65536 in
theorem codes_eq : words1.filter isCode = codes1 := rfl
theorem w_codes : ∀ c ∈ words1.filter isCode, c.before args0 about1 = true := by
  rw [codes_eq]
  intro c hc
  simp only [codes1, List.mem_cons, List.not_mem_nil, or_false] at hc
  rcases hc with rfl | rfl
  · exact w_c0
  · exact w_c1
set_option maxRecDepth 65536 in
theorem w_t1 : words1.all (fun c => isCode c || c.before args0 about1) = true := by decide +kernel
theorem w_tables : (allAtoms (Jvm.Cond.code x code maxLocals ret :: tables_1)).before args0 about1 = true := by
  rw [allAtoms_all]
  show words1.all (fun c => c.before args0 about1) = true
  refine all_split ?_ w_codes
  rw [w_t1]
set_option maxRecDepth 65536 in
theorem w_case : (Jvm.Cond.and given_1 narrow_1).before args0 about1 = true := by decide +kernel
theorem w_applies : (headSpec (Jvm.Cond.code x code maxLocals ret :: tables_1) room_1).applies x e0.platform about1 = true :=
  (Spec.applies_iff w_frames).mpr ⟨w_running, w_runnable, w_alone, w_named, w_hears, w_ripe, w_room, w_tables⟩
theorem atStart : AtStart classFile x code maxLocals ret World_1 tables_1 room_1 Calls_1 rest_1 Pre_1 launch0 p0 e0 about1 theMethod args0 below0 :=
  ⟨lists_1, trivial, launch0.admits_env _ _ _, launch0.least_env, fairChoices_fair.cas, fairChoices_fair.clock, w_frames, w_args, w_heap, w_applies, trivial, trivial, w_case⟩
end start1
theorem witness_1 : WitnessClaimed_1 := ⟨start1.p0, start1.e0, start1.about1, start1.theMethod, start1.args0, start1.below0, start1.atStart⟩
end Jvm.Pilot.@@N@@
