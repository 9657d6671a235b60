import JvmDerived
import JvmDerived.Pilot.@@N@@Statement
import JvmDerived.Pilot.@@N@@Code
set_option linter.unusedVariables false
set_option linter.unusedSimpArgs false
namespace Jvm.RoadKit
open Sem ClassFile Op Lib Jvm.Stand Jvm.Free Jvm.LawKit
section New
variable {p : Program} {l : Launch} {e : Env} {R : Room} {s : State} {m : MethodId} {args : Array Value} {below : List Frame} {meth : Method} {c : Code} {T : State} {locs : List Loc} {cells slots : Nat}
theorem retI (X : Stand p l e R s m args below meth c T locs cells slots) (hx : p.tables.exec = Jvm.exec) {pc : Nat} {Ls : Array Slot} {z : Int32} {rest : List Value} (hret : meth.sig.returnType = some .int) (hd : decode c.code pc = .ok (.ireturn, 1)) {fs : List Frame}
    (hl : ∀ (f : JFrame) (acts : List Action), f.method = m → f.locked = none → f.entered = [] → (doReturn e (T.setTop f) acts (some (.int z))).1 = T.setFrames fs) : Steps p.tables e below (T.setTop (mkF m pc Ls (.int z :: rest))) (T.setFrames fs) := by
  have hm' : T.vm.method? m = some meth := X.method'
  have hn : narrow .int (.int z) = .int z := rfl
  show Steps p.tables e below (T.setTop { method := m, pc := pc, locals := Ls, stack := _ :: rest, locked := none }) _
  jvm_step X.here [X.here.top, hx, hd, hm', hret, hn]
  first | (intro acts; rw [hl _ acts rfl rfl rfl]) | rw [hl _ _ rfl rfl rfl]
  exact Steps.refl _
end New
end Jvm.RoadKit
namespace Jvm.Pilot.@@N@@
open Jvm Jvm.ClassFile Sem Op Lib Jvm.Free Jvm.Stand Jvm.LawKit Jvm.RoadKit Bundle Jvm.Pilot.@@N@@.Jvm.D
theorem own_ord {s : State} {args : Array Value} {t : Term} {x : Addr} {C n d : String} {k : Int32} (ht : t.eval args s none [] s = some (.ref x)) (h : (Jvm.Cond.eq (Jvm.Term.field t C n d) (Jvm.Term.int k)).value args s none s [] = some true) : s.fieldOf? x C n d = some (.int k) := by
  obtain ⟨a, b, ha, hb, -, hk⟩ := cmp_v (Or.inl h)
  have eb : b = .int k := (Option.some.inj ((Term.int_eval k).symm.trans hb)).symm
  subst eb
  obtain ⟨z, rfl⟩ := hk
  simp only [Cond.value, ha, hb] at h
  have e : z = k := by simpa using h
  rw [← e, ← ha, fld_at ht]
def own_isI : Value → Bool | .int _ => true | _ => false
theorem own_some {c : Cell} {vs : List Value} {j : Int32} (H : Has c vs (.int 0)) (q : ¬ (j < 0 ∨ c.slots.size ≤ j.toNatClampNeg)) (hv : vs.all own_isI = true) : ∃ b : Int32, c.slots[j.toNatClampNeg]? = some (.int b) := by
  have h := H _ (Nat.lt_of_not_le fun y => q (Or.inr y))
  have h2 : own_isI (vs.getD j.toNatClampNeg (.int 0)) = true := by
    rw [List.getD_eq_getElem?_getD]
    cases h3 : vs[j.toNatClampNeg]? with
    | none => rfl
    | some v => exact List.all_eq_true.mp hv v (List.mem_of_getElem? h3)
  cases h4 : vs.getD j.toNatClampNeg (.int 0) with
  | int b => exact ⟨b, by rw [h, h4]⟩
  | _ => rw [h4] at h2; cases h2
theorem own_pd0 : parseMethodDescriptor "(I)Lcom/example/outcomist/outcomist/Reading$Fault;" = some ⟨[.int], some (.object "com/example/outcomist/outcomist/Reading$Fault")⟩ := by decide +kernel
theorem own_n1 (p1 : Int32) (a0 : p1 < (400 : Int32)) (a1 : p1 < (500 : Int32)) : ¬ (400 ≤ p1.toInt ∧ p1.toInt ≤ 499) := by
  have c0 := Int32.lt_iff_toInt_lt.mp a0
  have c1 := Int32.lt_iff_toInt_lt.mp a1
  have nf1 := rng32 p1
  have nf2 : (400 : Int32).toInt = 400 := by decide
  have nf3 : (500 : Int32).toInt = 500 := by decide
  omega
theorem own_n2 (p1 : Int32) (a0 : p1 < (400 : Int32)) (a1 : p1 < (500 : Int32)) : ¬ (500 ≤ p1.toInt ∧ p1.toInt ≤ 599) := by
  have c0 := Int32.lt_iff_toInt_lt.mp a0
  have c1 := Int32.lt_iff_toInt_lt.mp a1
  have nf1 := rng32 p1
  have nf2 : (400 : Int32).toInt = 400 := by decide
  have nf3 : (500 : Int32).toInt = 500 := by decide
  omega
theorem own_n3 (p1 : Int32) (a0 : p1 < (400 : Int32)) (a1 : ¬ (p1 < (500 : Int32))) (a2 : (599 : Int32) < p1) : ¬ (400 ≤ p1.toInt ∧ p1.toInt ≤ 499) := by
  have c0 := Int32.lt_iff_toInt_lt.mp a0
  have c1 : ¬ (p1.toInt < (500 : Int32).toInt) := fun q => a1 (Int32.lt_iff_toInt_lt.mpr q)
  have c2 := Int32.lt_iff_toInt_lt.mp a2
  have nf1 := rng32 p1
  have nf2 : (400 : Int32).toInt = 400 := by decide
  have nf3 : (500 : Int32).toInt = 500 := by decide
  have nf4 : (599 : Int32).toInt = 599 := by decide
  omega
theorem own_n4 (p1 : Int32) (a0 : p1 < (400 : Int32)) (a1 : ¬ (p1 < (500 : Int32))) (a2 : (599 : Int32) < p1) : ¬ (500 ≤ p1.toInt ∧ p1.toInt ≤ 599) := by
  have c0 := Int32.lt_iff_toInt_lt.mp a0
  have c1 : ¬ (p1.toInt < (500 : Int32).toInt) := fun q => a1 (Int32.lt_iff_toInt_lt.mpr q)
  have c2 := Int32.lt_iff_toInt_lt.mp a2
  have nf1 := rng32 p1
  have nf2 : (400 : Int32).toInt = 400 := by decide
  have nf3 : (500 : Int32).toInt = 500 := by decide
  have nf4 : (599 : Int32).toInt = 599 := by decide
  omega
theorem own_n5 (p1 : Int32) (a0 : p1 < (400 : Int32)) (a1 : ¬ (p1 < (500 : Int32))) (a2 : ¬ ((599 : Int32) < p1)) : ¬ (400 ≤ p1.toInt ∧ p1.toInt ≤ 499) := by
  have c0 := Int32.lt_iff_toInt_lt.mp a0
  have c1 : ¬ (p1.toInt < (500 : Int32).toInt) := fun q => a1 (Int32.lt_iff_toInt_lt.mpr q)
  have c2 : ¬ ((599 : Int32).toInt < p1.toInt) := fun q => a2 (Int32.lt_iff_toInt_lt.mpr q)
  have nf1 := rng32 p1
  have nf2 : (400 : Int32).toInt = 400 := by decide
  have nf3 : (500 : Int32).toInt = 500 := by decide
  have nf4 : (599 : Int32).toInt = 599 := by decide
  omega
theorem own_n6 (p1 : Int32) (a0 : p1 < (400 : Int32)) (a1 : ¬ (p1 < (500 : Int32))) (a2 : ¬ ((599 : Int32) < p1)) : 500 ≤ p1.toInt ∧ p1.toInt ≤ 599 := by
  have c0 := Int32.lt_iff_toInt_lt.mp a0
  have c1 : ¬ (p1.toInt < (500 : Int32).toInt) := fun q => a1 (Int32.lt_iff_toInt_lt.mpr q)
  have c2 : ¬ ((599 : Int32).toInt < p1.toInt) := fun q => a2 (Int32.lt_iff_toInt_lt.mpr q)
  have nf1 := rng32 p1
  have nf2 : (400 : Int32).toInt = 400 := by decide
  have nf3 : (500 : Int32).toInt = 500 := by decide
  have nf4 : (599 : Int32).toInt = 599 := by decide
  omega
theorem own_n7 (p1 : Int32) (a0 : ¬ (p1 < (400 : Int32))) (a1 : (499 : Int32) < p1) (a2 : p1 < (500 : Int32)) : ¬ (400 ≤ p1.toInt ∧ p1.toInt ≤ 499) := by
  have c0 : ¬ (p1.toInt < (400 : Int32).toInt) := fun q => a0 (Int32.lt_iff_toInt_lt.mpr q)
  have c1 := Int32.lt_iff_toInt_lt.mp a1
  have c2 := Int32.lt_iff_toInt_lt.mp a2
  have nf1 := rng32 p1
  have nf2 : (400 : Int32).toInt = 400 := by decide
  have nf3 : (499 : Int32).toInt = 499 := by decide
  have nf4 : (500 : Int32).toInt = 500 := by decide
  omega
theorem own_n8 (p1 : Int32) (a0 : ¬ (p1 < (400 : Int32))) (a1 : (499 : Int32) < p1) (a2 : p1 < (500 : Int32)) : ¬ (500 ≤ p1.toInt ∧ p1.toInt ≤ 599) := by
  have c0 : ¬ (p1.toInt < (400 : Int32).toInt) := fun q => a0 (Int32.lt_iff_toInt_lt.mpr q)
  have c1 := Int32.lt_iff_toInt_lt.mp a1
  have c2 := Int32.lt_iff_toInt_lt.mp a2
  have nf1 := rng32 p1
  have nf2 : (400 : Int32).toInt = 400 := by decide
  have nf3 : (499 : Int32).toInt = 499 := by decide
  have nf4 : (500 : Int32).toInt = 500 := by decide
  omega
theorem own_n9 (p1 : Int32) (a0 : ¬ (p1 < (400 : Int32))) (a1 : (499 : Int32) < p1) (a2 : ¬ (p1 < (500 : Int32))) (a3 : (599 : Int32) < p1) : ¬ (400 ≤ p1.toInt ∧ p1.toInt ≤ 499) := by
  have c0 : ¬ (p1.toInt < (400 : Int32).toInt) := fun q => a0 (Int32.lt_iff_toInt_lt.mpr q)
  have c1 := Int32.lt_iff_toInt_lt.mp a1
  have c2 : ¬ (p1.toInt < (500 : Int32).toInt) := fun q => a2 (Int32.lt_iff_toInt_lt.mpr q)
  have c3 := Int32.lt_iff_toInt_lt.mp a3
  have nf1 := rng32 p1
  have nf2 : (400 : Int32).toInt = 400 := by decide
  have nf3 : (499 : Int32).toInt = 499 := by decide
  have nf4 : (500 : Int32).toInt = 500 := by decide
  have nf5 : (599 : Int32).toInt = 599 := by decide
  omega
theorem own_n10 (p1 : Int32) (a0 : ¬ (p1 < (400 : Int32))) (a1 : (499 : Int32) < p1) (a2 : ¬ (p1 < (500 : Int32))) (a3 : (599 : Int32) < p1) : ¬ (500 ≤ p1.toInt ∧ p1.toInt ≤ 599) := by
  have c0 : ¬ (p1.toInt < (400 : Int32).toInt) := fun q => a0 (Int32.lt_iff_toInt_lt.mpr q)
  have c1 := Int32.lt_iff_toInt_lt.mp a1
  have c2 : ¬ (p1.toInt < (500 : Int32).toInt) := fun q => a2 (Int32.lt_iff_toInt_lt.mpr q)
  have c3 := Int32.lt_iff_toInt_lt.mp a3
  have nf1 := rng32 p1
  have nf2 : (400 : Int32).toInt = 400 := by decide
  have nf3 : (499 : Int32).toInt = 499 := by decide
  have nf4 : (500 : Int32).toInt = 500 := by decide
  have nf5 : (599 : Int32).toInt = 599 := by decide
  omega
theorem own_n11 (p1 : Int32) (a0 : ¬ (p1 < (400 : Int32))) (a1 : (499 : Int32) < p1) (a2 : ¬ (p1 < (500 : Int32))) (a3 : ¬ ((599 : Int32) < p1)) : ¬ (400 ≤ p1.toInt ∧ p1.toInt ≤ 499) := by
  have c0 : ¬ (p1.toInt < (400 : Int32).toInt) := fun q => a0 (Int32.lt_iff_toInt_lt.mpr q)
  have c1 := Int32.lt_iff_toInt_lt.mp a1
  have c2 : ¬ (p1.toInt < (500 : Int32).toInt) := fun q => a2 (Int32.lt_iff_toInt_lt.mpr q)
  have c3 : ¬ ((599 : Int32).toInt < p1.toInt) := fun q => a3 (Int32.lt_iff_toInt_lt.mpr q)
  have nf1 := rng32 p1
  have nf2 : (400 : Int32).toInt = 400 := by decide
  have nf3 : (499 : Int32).toInt = 499 := by decide
  have nf4 : (500 : Int32).toInt = 500 := by decide
  have nf5 : (599 : Int32).toInt = 599 := by decide
  omega
theorem own_n12 (p1 : Int32) (a0 : ¬ (p1 < (400 : Int32))) (a1 : (499 : Int32) < p1) (a2 : ¬ (p1 < (500 : Int32))) (a3 : ¬ ((599 : Int32) < p1)) : 500 ≤ p1.toInt ∧ p1.toInt ≤ 599 := by
  have c0 : ¬ (p1.toInt < (400 : Int32).toInt) := fun q => a0 (Int32.lt_iff_toInt_lt.mpr q)
  have c1 := Int32.lt_iff_toInt_lt.mp a1
  have c2 : ¬ (p1.toInt < (500 : Int32).toInt) := fun q => a2 (Int32.lt_iff_toInt_lt.mpr q)
  have c3 : ¬ ((599 : Int32).toInt < p1.toInt) := fun q => a3 (Int32.lt_iff_toInt_lt.mpr q)
  have nf1 := rng32 p1
  have nf2 : (400 : Int32).toInt = 400 := by decide
  have nf3 : (499 : Int32).toInt = 499 := by decide
  have nf4 : (500 : Int32).toInt = 500 := by decide
  have nf5 : (599 : Int32).toInt = 599 := by decide
  omega
theorem own_n13 (p1 : Int32) (a0 : ¬ (p1 < (400 : Int32))) (a1 : ¬ ((499 : Int32) < p1)) : 400 ≤ p1.toInt ∧ p1.toInt ≤ 499 := by
  have c0 : ¬ (p1.toInt < (400 : Int32).toInt) := fun q => a0 (Int32.lt_iff_toInt_lt.mpr q)
  have c1 : ¬ ((499 : Int32).toInt < p1.toInt) := fun q => a1 (Int32.lt_iff_toInt_lt.mpr q)
  have nf1 := rng32 p1
  have nf2 : (400 : Int32).toInt = 400 := by decide
  have nf3 : (499 : Int32).toInt = 499 := by decide
  omega
theorem own_n14 (p1 : Int32) (a0 : (p1 / (100 : Int32)) = (4 : Int32)) : 400 ≤ p1.toInt ∧ p1.toInt ≤ 499 := by
  have c0 : (p1 / (100 : Int32)).toInt = (4 : Int32).toInt := congrArg Int32.toInt a0
  have nf1 := rng32 p1
  have nf2 : (100 : Int32).toInt = 100 := by decide
  have nf3 := c_idiv p1 (100 : Int32) (100) (by decide) (by decide)
  have nf4 : (4 : Int32).toInt = 4 := by decide
  omega
theorem own_n15 (p1 : Int32) (a0 : ¬ ((p1 / (100 : Int32)) = (4 : Int32))) (a1 : (p1 / (100 : Int32)) = (5 : Int32)) : ¬ (400 ≤ p1.toInt ∧ p1.toInt ≤ 499) := by
  have c0 : ¬ ((p1 / (100 : Int32)).toInt = (4 : Int32).toInt) := fun q => a0 (Int32.toInt_inj.mp q)
  have c1 : (p1 / (100 : Int32)).toInt = (5 : Int32).toInt := congrArg Int32.toInt a1
  have nf1 := rng32 p1
  have nf2 : (100 : Int32).toInt = 100 := by decide
  have nf3 := c_idiv p1 (100 : Int32) (100) (by decide) (by decide)
  have nf4 : (4 : Int32).toInt = 4 := by decide
  have nf5 : (5 : Int32).toInt = 5 := by decide
  omega
theorem own_n16 (p1 : Int32) (a0 : ¬ ((p1 / (100 : Int32)) = (4 : Int32))) (a1 : (p1 / (100 : Int32)) = (5 : Int32)) : 500 ≤ p1.toInt ∧ p1.toInt ≤ 599 := by
  have c0 : ¬ ((p1 / (100 : Int32)).toInt = (4 : Int32).toInt) := fun q => a0 (Int32.toInt_inj.mp q)
  have c1 : (p1 / (100 : Int32)).toInt = (5 : Int32).toInt := congrArg Int32.toInt a1
  have nf1 := rng32 p1
  have nf2 : (100 : Int32).toInt = 100 := by decide
  have nf3 := c_idiv p1 (100 : Int32) (100) (by decide) (by decide)
  have nf4 : (4 : Int32).toInt = 4 := by decide
  have nf5 : (5 : Int32).toInt = 5 := by decide
  omega
theorem own_n17 (p1 : Int32) (a0 : ¬ ((p1 / (100 : Int32)) = (4 : Int32))) (a1 : ¬ ((p1 / (100 : Int32)) = (5 : Int32))) : ¬ (400 ≤ p1.toInt ∧ p1.toInt ≤ 499) := by
  have c0 : ¬ ((p1 / (100 : Int32)).toInt = (4 : Int32).toInt) := fun q => a0 (Int32.toInt_inj.mp q)
  have c1 : ¬ ((p1 / (100 : Int32)).toInt = (5 : Int32).toInt) := fun q => a1 (Int32.toInt_inj.mp q)
  have nf1 := rng32 p1
  have nf2 : (100 : Int32).toInt = 100 := by decide
  have nf3 := c_idiv p1 (100 : Int32) (100) (by decide) (by decide)
  have nf4 : (4 : Int32).toInt = 4 := by decide
  have nf5 : (5 : Int32).toInt = 5 := by decide
  omega
theorem own_n18 (p1 : Int32) (a0 : ¬ ((p1 / (100 : Int32)) = (4 : Int32))) (a1 : ¬ ((p1 / (100 : Int32)) = (5 : Int32))) : ¬ (500 ≤ p1.toInt ∧ p1.toInt ≤ 599) := by
  have c0 : ¬ ((p1 / (100 : Int32)).toInt = (4 : Int32).toInt) := fun q => a0 (Int32.toInt_inj.mp q)
  have c1 : ¬ ((p1 / (100 : Int32)).toInt = (5 : Int32).toInt) := fun q => a1 (Int32.toInt_inj.mp q)
  have nf1 := rng32 p1
  have nf2 : (100 : Int32).toInt = 100 := by decide
  have nf3 := c_idiv p1 (100 : Int32) (100) (by decide) (by decide)
  have nf4 : (4 : Int32).toInt = 4 := by decide
  have nf5 : (5 : Int32).toInt = 5 := by decide
  omega
theorem own_n19 (pick : Int32) : ¬ ((pick &&& (7 : Int32)) < 0) ∧ (pick &&& (7 : Int32)) < (8 : Int32) := by
  simp only [Int32.lt_iff_toInt_lt]
  have nf1 := rng32 pick
  have nf2 : (7 : Int32).toInt = 7 := by decide
  have nf3 := c_mask pick (7 : Int32) 3 (by decide) (by decide)
  have nf4 : (8 : Int32).toInt = 8 := by decide
  have nf5 : (0 : Int32).toInt = 0 := by decide
  omega
theorem own_d1_0 : decode prog_62_method_5_code 0 = .ok (.iload_n 0, 1) := by decide +kernel
theorem own_d1_1 : decode prog_62_method_5_code 1 = .ok (.sipush 400, 3) := by decide +kernel
theorem own_d1_4 : decode prog_62_method_5_code 4 = .ok (.if_icmp .lt 14, 3) := by decide +kernel
theorem own_d1_7 : decode prog_62_method_5_code 7 = .ok (.iload_n 0, 1) := by decide +kernel
theorem own_d1_8 : decode prog_62_method_5_code 8 = .ok (.sipush 499, 3) := by decide +kernel
theorem own_d1_11 : decode prog_62_method_5_code 11 = .ok (.if_icmp .gt 7, 3) := by decide +kernel
theorem own_d1_14 : decode prog_62_method_5_code 14 = .ok (.getstatic 3, 3) := by decide +kernel
theorem own_d1_17 : decode prog_62_method_5_code 17 = .ok (.areturn, 1) := by decide +kernel
theorem own_d1_18 : decode prog_62_method_5_code 18 = .ok (.iload_n 0, 1) := by decide +kernel
theorem own_d1_19 : decode prog_62_method_5_code 19 = .ok (.sipush 500, 3) := by decide +kernel
theorem own_d1_22 : decode prog_62_method_5_code 22 = .ok (.if_icmp .lt 16, 3) := by decide +kernel
theorem own_d1_25 : decode prog_62_method_5_code 25 = .ok (.iload_n 0, 1) := by decide +kernel
theorem own_d1_26 : decode prog_62_method_5_code 26 = .ok (.sipush 599, 3) := by decide +kernel
theorem own_d1_29 : decode prog_62_method_5_code 29 = .ok (.if_icmp .gt 9, 3) := by decide +kernel
theorem own_d1_32 : decode prog_62_method_5_code 32 = .ok (.getstatic 7, 3) := by decide +kernel
theorem own_d1_35 : decode prog_62_method_5_code 35 = .ok (.goto 6, 3) := by decide +kernel
theorem own_d1_38 : decode prog_62_method_5_code 38 = .ok (.getstatic 10, 3) := by decide +kernel
theorem own_d1_41 : decode prog_62_method_5_code 41 = .ok (.areturn, 1) := by decide +kernel
theorem own_pn_own_of : plainName "com/example/outcomist/outcomist/Reading$Fault" = true := by first | (simp [plainName, overriddenIn]; done) | decide +kernel
theorem own_ef_own_of (m : MethodId) (x0 : Int32) : entryFrame m #[(.int x0)] 1 = mkF m 0 #[.val (.int x0)] [] := by first | (simp [entryFrame, mkF, argsToLocals, Value.category]; done) | rfl
def Q_own_of (Z : State) (p1 : Int32) (aNONE : Addr) (aCLIENT : Addr) (aSERVER : Addr) (h0 : Heap) (n0 : Nat) (v : Option Value) (h : Heap) (L : List Loc) : Prop := v = some (.ref (if 400 ≤ p1.toInt ∧ p1.toInt ≤ 499 then aCLIENT else if 500 ≤ p1.toInt ∧ p1.toInt ≤ 599 then aSERVER else aNONE)) ∧ Fr n0 L ∧ h = h0
set_option maxRecDepth 65536 in
set_option maxHeartbeats 40000000 in
theorem own_of (l : Launch) (Z : State) (a0 : Array Value) (hw : ∀ d ∈ tables_1, d.before a0 Z = true) (ws : List Jvm.Cond) (p1 : Int32) (aNONE : Addr) (aCLIENT : Addr) (aSERVER : Addr) (h0 : Heap) (n0 : Nat) (Z0 : n0 ≤ h0.size) (S_NONE : Sta Z h0 "com/example/outcomist/outcomist/Reading$Fault" "NONE" "Lcom/example/outcomist/outcomist/Reading$Fault;" (.ref aNONE)) (S_CLIENT : Sta Z h0 "com/example/outcomist/outcomist/Reading$Fault" "CLIENT" "Lcom/example/outcomist/outcomist/Reading$Fault;" (.ref aCLIENT)) (S_SERVER : Sta Z h0 "com/example/outcomist/outcomist/Reading$Fault" "SERVER" "Lcom/example/outcomist/outcomist/Reading$Fault;" (.ref aSERVER)) :
    MetFree l (⟨"com/example/outcomist/outcomist/Reading$Fault", "of", "(I)Lcom/example/outcomist/outcomist/Reading$Fault;"⟩ : MethodName) (head1 (Jvm.Cond.code (⟨"com/example/outcomist/outcomist/Reading$Fault", "of", "(I)Lcom/example/outcomist/outcomist/Reading$Fault;"⟩ : MethodName) prog_62_method_5_code 1 (some (.object "com/example/outcomist/outcomist/Reading$Fault")) :: ws) ({ frames := 0, cells := 0, slots := 0, locals := 0 } : Room)) (fun a U => a = #[(.int p1)] ∧ Z.Warmed39 U.vm ∧ U.heap = h0) (fun _ _ _ _ _ => True) (fun _ U o U' => ∃ v L, o = .returned v ∧ Q_own_of Z p1 aNONE aCLIENT aSERVER h0 n0 v U'.heap L ∧ FrameEnd U o U' L ({ frames := 0, cells := 0, slots := 0, locals := 0 } : Room).cells ({ frames := 0, cells := 0, slots := 0, locals := 0 } : Room).slots) := by
  refine MetFree.of_bodySF (plainFor_of_name own_pn_own_of) hisR ?_
  intro p e s m args below meth c s₁ Bd hml0 hP hK
  obtain ⟨rfl, hZ, hh⟩ := hP
  have hx := Bd.exec
  have hby := Bd.bytes
  have hml : c.maxLocals = 1 := hml0
  have hown : s.vm.findClass "com/example/outcomist/outcomist/Reading$Fault" = some m.cls := findClass_of_methodNamed Bd.named
  have hnm := (name_of_methodNamed Bd.named Bd.method).1
  have X0 : Stand p l e ({ frames := 0, cells := 0, slots := 0, locals := 0 } : Room) s m #[(.int p1)] below meth c s₁ [] 0 0 := Stand.of_body Bd
  have e0 : s₁.heap = h0 := by rw [← hh, Bd.state]; rfl
  have N0 := Fr.nil n0
  have pre0 : Goes p e below s₁ (entryFrame m #[(.int p1)] 1) s₁ (mkF m 0 #[.val (.int p1)] []) := fun t k => castTop (own_ef_own_of m p1) k
  have pre1 : Goes p e below s₁ (entryFrame m #[(.int p1)] 1) s₁ (mkF m 4 #[.val (.int p1)] [(.int (400 : Int32)), (.int p1)]) := fun t kt => pre0 t (by
      show Steps p.tables e below (s₁.setTop (mkF m 0 #[.val (.int p1)] [])) _
      refine XS.iloadN X0.here hx rfl (hb hby own_d1_0) rfl ?_
      show Steps p.tables e below (s₁.setTop (mkF m 1 #[.val (.int p1)] [(.int p1)])) _
      refine XS.sipush X0.here hx rfl (hb hby own_d1_1) ?_
      exact kt)
  by_cases hc4_2 : p1 < (400 : Int32)
  · -- yes at pc 4: 
    have pre3 : Goes p e below s₁ (entryFrame m #[(.int p1)] 1) s₁ (mkF m 22 #[.val (.int p1)] [(.int (500 : Int32)), (.int p1)]) := fun t kt => pre1 t (by
        show Steps p.tables e below (s₁.setTop (mkF m 4 #[.val (.int p1)] [(.int (400 : Int32)), (.int p1)])) _
        refine XS.icmpYes X0.here hx rfl (pc0 := 4) (pc' := 18) rfl (hb hby own_d1_4) rfl (tlt hc4_2).1 (by decide) (by decide) ?_
        show Steps p.tables e below (s₁.setTop (mkF m 18 #[.val (.int p1)] [])) _
        refine XS.iloadN X0.here hx rfl (hb hby own_d1_18) rfl ?_
        show Steps p.tables e below (s₁.setTop (mkF m 19 #[.val (.int p1)] [(.int p1)])) _
        refine XS.sipush X0.here hx rfl (hb hby own_d1_19) ?_
        exact kt)
    by_cases hc22_4 : p1 < (500 : Int32)
    · -- yes at pc 22: t
      have pre5 : Goes p e below s₁ (entryFrame m #[(.int p1)] 1) s₁ (mkF m 38 #[.val (.int p1)] []) := fun t kt => pre3 t (by
          show Steps p.tables e below (s₁.setTop (mkF m 22 #[.val (.int p1)] [(.int (500 : Int32)), (.int p1)])) _
          refine XS.icmpYes X0.here hx rfl (pc0 := 22) (pc' := 38) rfl (hb hby own_d1_22) rfl (tlt hc22_4).1 (by decide) (by decide) ?_
          exact kt)
      obtain ⟨T6, X6, e6, st6⟩ := getS2 X0 hx hZ hown (host := "") (Or.inl (hw _ (List.mem_of_getElem? (i := 7) rfl))) Via.refl e0 S_NONE (g := (mkF m 38 #[.val (.int p1)] [])) rfl (hb hby own_d1_38)
      have pre7 : Goes p e below s₁ (entryFrame m #[(.int p1)] 1) T6 (mkF m 41 #[.val (.int p1)] [(.ref aNONE)]) := fun t kt => pre5 t (st6 t kt)
      obtain ⟨fs, hr, hrun, hended, hW, hsame⟩ := X6.leave (v := some (.ref aNONE)) (fun h => by rw [Bd.returns] at h; cases h)
      refine ⟨_, _, pre7 _ ?_, hrun, hended, _, _, rfl, ?_, ⟨_, rfl⟩, hW, hsame.mono (by decide) (by decide)⟩
      · show Steps p.tables e below (T6.setTop (mkF m 41 #[.val (.int p1)] [(.ref aNONE)])) _
        jvm_step X6.here [X6.here.top, hx, (hb hby own_d1_41), X6.method', Bd.returns, Value.isRef, FieldType.isReference]
        first | (intro acts; rw [hr _ acts rfl rfl rfl]) | rw [hr _ _ rfl rfl rfl]
        exact Steps.refl _
      · show Q_own_of Z p1 aNONE aCLIENT aSERVER h0 n0 _ T6.heap _
        rw [e6]
        exact ⟨by rw [if_neg (own_n1 p1 hc4_2 hc22_4), if_neg (own_n2 p1 hc4_2 hc22_4)], N0, rfl⟩
    · -- no at pc 22: t
      have pre8 : Goes p e below s₁ (entryFrame m #[(.int p1)] 1) s₁ (mkF m 29 #[.val (.int p1)] [(.int (599 : Int32)), (.int p1)]) := fun t kt => pre3 t (by
          show Steps p.tables e below (s₁.setTop (mkF m 22 #[.val (.int p1)] [(.int (500 : Int32)), (.int p1)])) _
          refine XS.icmpNo X0.here hx rfl (hb hby own_d1_22) rfl (flt hc22_4).1 ?_
          show Steps p.tables e below (s₁.setTop (mkF m 25 #[.val (.int p1)] [])) _
          refine XS.iloadN X0.here hx rfl (hb hby own_d1_25) rfl ?_
          show Steps p.tables e below (s₁.setTop (mkF m 26 #[.val (.int p1)] [(.int p1)])) _
          refine XS.sipush X0.here hx rfl (hb hby own_d1_26) ?_
          exact kt)
      by_cases hc29_9 : (599 : Int32) < p1
      · -- yes at pc 29: tf
        have pre10 : Goes p e below s₁ (entryFrame m #[(.int p1)] 1) s₁ (mkF m 38 #[.val (.int p1)] []) := fun t kt => pre8 t (by
            show Steps p.tables e below (s₁.setTop (mkF m 29 #[.val (.int p1)] [(.int (599 : Int32)), (.int p1)])) _
            refine XS.icmpYes X0.here hx rfl (pc0 := 29) (pc' := 38) rfl (hb hby own_d1_29) rfl (tlt hc29_9).2.2.1 (by decide) (by decide) ?_
            exact kt)
        obtain ⟨T11, X11, e11, st11⟩ := getS2 X0 hx hZ hown (host := "") (Or.inl (hw _ (List.mem_of_getElem? (i := 7) rfl))) Via.refl e0 S_NONE (g := (mkF m 38 #[.val (.int p1)] [])) rfl (hb hby own_d1_38)
        have pre12 : Goes p e below s₁ (entryFrame m #[(.int p1)] 1) T11 (mkF m 41 #[.val (.int p1)] [(.ref aNONE)]) := fun t kt => pre10 t (st11 t kt)
        obtain ⟨fs, hr, hrun, hended, hW, hsame⟩ := X11.leave (v := some (.ref aNONE)) (fun h => by rw [Bd.returns] at h; cases h)
        refine ⟨_, _, pre12 _ ?_, hrun, hended, _, _, rfl, ?_, ⟨_, rfl⟩, hW, hsame.mono (by decide) (by decide)⟩
        · show Steps p.tables e below (T11.setTop (mkF m 41 #[.val (.int p1)] [(.ref aNONE)])) _
          jvm_step X11.here [X11.here.top, hx, (hb hby own_d1_41), X11.method', Bd.returns, Value.isRef, FieldType.isReference]
          first | (intro acts; rw [hr _ acts rfl rfl rfl]) | rw [hr _ _ rfl rfl rfl]
          exact Steps.refl _
        · show Q_own_of Z p1 aNONE aCLIENT aSERVER h0 n0 _ T11.heap _
          rw [e11]
          exact ⟨by rw [if_neg (own_n3 p1 hc4_2 hc22_4 hc29_9), if_neg (own_n4 p1 hc4_2 hc22_4 hc29_9)], N0, rfl⟩
      · -- no at pc 29: tf
        have pre13 : Goes p e below s₁ (entryFrame m #[(.int p1)] 1) s₁ (mkF m 32 #[.val (.int p1)] []) := fun t kt => pre8 t (by
            show Steps p.tables e below (s₁.setTop (mkF m 29 #[.val (.int p1)] [(.int (599 : Int32)), (.int p1)])) _
            refine XS.icmpNo X0.here hx rfl (hb hby own_d1_29) rfl (flt hc29_9).2.2.1 ?_
            exact kt)
        obtain ⟨T14, X14, e14, st14⟩ := getS2 X0 hx hZ hown (host := "") (Or.inl (hw _ (List.mem_of_getElem? (i := 17) rfl))) Via.refl e0 S_SERVER (g := (mkF m 32 #[.val (.int p1)] [])) rfl (hb hby own_d1_32)
        have pre15 : Goes p e below s₁ (entryFrame m #[(.int p1)] 1) T14 (mkF m 35 #[.val (.int p1)] [(.ref aSERVER)]) := fun t kt => pre13 t (st14 t kt)
        have pre16 : Goes p e below s₁ (entryFrame m #[(.int p1)] 1) T14 (mkF m 41 #[.val (.int p1)] [(.ref aSERVER)]) := fun t kt => pre15 t (by
            show Steps p.tables e below (T14.setTop (mkF m 35 #[.val (.int p1)] [(.ref aSERVER)])) _
            refine XS.goto X14.here hx rfl (pc0 := 35) (pc' := 41) rfl (hb hby own_d1_35) (by decide) (by decide) ?_
            exact kt)
        obtain ⟨fs, hr, hrun, hended, hW, hsame⟩ := X14.leave (v := some (.ref aSERVER)) (fun h => by rw [Bd.returns] at h; cases h)
        refine ⟨_, _, pre16 _ ?_, hrun, hended, _, _, rfl, ?_, ⟨_, rfl⟩, hW, hsame.mono (by decide) (by decide)⟩
        · show Steps p.tables e below (T14.setTop (mkF m 41 #[.val (.int p1)] [(.ref aSERVER)])) _
          jvm_step X14.here [X14.here.top, hx, (hb hby own_d1_41), X14.method', Bd.returns, Value.isRef, FieldType.isReference]
          first | (intro acts; rw [hr _ acts rfl rfl rfl]) | rw [hr _ _ rfl rfl rfl]
          exact Steps.refl _
        · show Q_own_of Z p1 aNONE aCLIENT aSERVER h0 n0 _ T14.heap _
          rw [e14]
          exact ⟨by rw [if_neg (own_n5 p1 hc4_2 hc22_4 hc29_9), if_pos (own_n6 p1 hc4_2 hc22_4 hc29_9)], N0, rfl⟩
  · -- no at pc 4: 
    have pre17 : Goes p e below s₁ (entryFrame m #[(.int p1)] 1) s₁ (mkF m 11 #[.val (.int p1)] [(.int (499 : Int32)), (.int p1)]) := fun t kt => pre1 t (by
        show Steps p.tables e below (s₁.setTop (mkF m 4 #[.val (.int p1)] [(.int (400 : Int32)), (.int p1)])) _
        refine XS.icmpNo X0.here hx rfl (hb hby own_d1_4) rfl (flt hc4_2).1 ?_
        show Steps p.tables e below (s₁.setTop (mkF m 7 #[.val (.int p1)] [])) _
        refine XS.iloadN X0.here hx rfl (hb hby own_d1_7) rfl ?_
        show Steps p.tables e below (s₁.setTop (mkF m 8 #[.val (.int p1)] [(.int p1)])) _
        refine XS.sipush X0.here hx rfl (hb hby own_d1_8) ?_
        exact kt)
    by_cases hc11_18 : (499 : Int32) < p1
    · -- yes at pc 11: f
      have pre19 : Goes p e below s₁ (entryFrame m #[(.int p1)] 1) s₁ (mkF m 22 #[.val (.int p1)] [(.int (500 : Int32)), (.int p1)]) := fun t kt => pre17 t (by
          show Steps p.tables e below (s₁.setTop (mkF m 11 #[.val (.int p1)] [(.int (499 : Int32)), (.int p1)])) _
          refine XS.icmpYes X0.here hx rfl (pc0 := 11) (pc' := 18) rfl (hb hby own_d1_11) rfl (tlt hc11_18).2.2.1 (by decide) (by decide) ?_
          show Steps p.tables e below (s₁.setTop (mkF m 18 #[.val (.int p1)] [])) _
          refine XS.iloadN X0.here hx rfl (hb hby own_d1_18) rfl ?_
          show Steps p.tables e below (s₁.setTop (mkF m 19 #[.val (.int p1)] [(.int p1)])) _
          refine XS.sipush X0.here hx rfl (hb hby own_d1_19) ?_
          exact kt)
      by_cases hc22_20 : p1 < (500 : Int32)
      · -- yes at pc 22: ft
        have pre21 : Goes p e below s₁ (entryFrame m #[(.int p1)] 1) s₁ (mkF m 38 #[.val (.int p1)] []) := fun t kt => pre19 t (by
            show Steps p.tables e below (s₁.setTop (mkF m 22 #[.val (.int p1)] [(.int (500 : Int32)), (.int p1)])) _
            refine XS.icmpYes X0.here hx rfl (pc0 := 22) (pc' := 38) rfl (hb hby own_d1_22) rfl (tlt hc22_20).1 (by decide) (by decide) ?_
            exact kt)
        obtain ⟨T22, X22, e22, st22⟩ := getS2 X0 hx hZ hown (host := "") (Or.inl (hw _ (List.mem_of_getElem? (i := 7) rfl))) Via.refl e0 S_NONE (g := (mkF m 38 #[.val (.int p1)] [])) rfl (hb hby own_d1_38)
        have pre23 : Goes p e below s₁ (entryFrame m #[(.int p1)] 1) T22 (mkF m 41 #[.val (.int p1)] [(.ref aNONE)]) := fun t kt => pre21 t (st22 t kt)
        obtain ⟨fs, hr, hrun, hended, hW, hsame⟩ := X22.leave (v := some (.ref aNONE)) (fun h => by rw [Bd.returns] at h; cases h)
        refine ⟨_, _, pre23 _ ?_, hrun, hended, _, _, rfl, ?_, ⟨_, rfl⟩, hW, hsame.mono (by decide) (by decide)⟩
        · show Steps p.tables e below (T22.setTop (mkF m 41 #[.val (.int p1)] [(.ref aNONE)])) _
          jvm_step X22.here [X22.here.top, hx, (hb hby own_d1_41), X22.method', Bd.returns, Value.isRef, FieldType.isReference]
          first | (intro acts; rw [hr _ acts rfl rfl rfl]) | rw [hr _ _ rfl rfl rfl]
          exact Steps.refl _
        · show Q_own_of Z p1 aNONE aCLIENT aSERVER h0 n0 _ T22.heap _
          rw [e22]
          exact ⟨by rw [if_neg (own_n7 p1 hc4_2 hc11_18 hc22_20), if_neg (own_n8 p1 hc4_2 hc11_18 hc22_20)], N0, rfl⟩
      · -- no at pc 22: ft
        have pre24 : Goes p e below s₁ (entryFrame m #[(.int p1)] 1) s₁ (mkF m 29 #[.val (.int p1)] [(.int (599 : Int32)), (.int p1)]) := fun t kt => pre19 t (by
            show Steps p.tables e below (s₁.setTop (mkF m 22 #[.val (.int p1)] [(.int (500 : Int32)), (.int p1)])) _
            refine XS.icmpNo X0.here hx rfl (hb hby own_d1_22) rfl (flt hc22_20).1 ?_
            show Steps p.tables e below (s₁.setTop (mkF m 25 #[.val (.int p1)] [])) _
            refine XS.iloadN X0.here hx rfl (hb hby own_d1_25) rfl ?_
            show Steps p.tables e below (s₁.setTop (mkF m 26 #[.val (.int p1)] [(.int p1)])) _
            refine XS.sipush X0.here hx rfl (hb hby own_d1_26) ?_
            exact kt)
        by_cases hc29_25 : (599 : Int32) < p1
        · -- yes at pc 29: ftf
          have pre26 : Goes p e below s₁ (entryFrame m #[(.int p1)] 1) s₁ (mkF m 38 #[.val (.int p1)] []) := fun t kt => pre24 t (by
              show Steps p.tables e below (s₁.setTop (mkF m 29 #[.val (.int p1)] [(.int (599 : Int32)), (.int p1)])) _
              refine XS.icmpYes X0.here hx rfl (pc0 := 29) (pc' := 38) rfl (hb hby own_d1_29) rfl (tlt hc29_25).2.2.1 (by decide) (by decide) ?_
              exact kt)
          obtain ⟨T27, X27, e27, st27⟩ := getS2 X0 hx hZ hown (host := "") (Or.inl (hw _ (List.mem_of_getElem? (i := 7) rfl))) Via.refl e0 S_NONE (g := (mkF m 38 #[.val (.int p1)] [])) rfl (hb hby own_d1_38)
          have pre28 : Goes p e below s₁ (entryFrame m #[(.int p1)] 1) T27 (mkF m 41 #[.val (.int p1)] [(.ref aNONE)]) := fun t kt => pre26 t (st27 t kt)
          obtain ⟨fs, hr, hrun, hended, hW, hsame⟩ := X27.leave (v := some (.ref aNONE)) (fun h => by rw [Bd.returns] at h; cases h)
          refine ⟨_, _, pre28 _ ?_, hrun, hended, _, _, rfl, ?_, ⟨_, rfl⟩, hW, hsame.mono (by decide) (by decide)⟩
          · show Steps p.tables e below (T27.setTop (mkF m 41 #[.val (.int p1)] [(.ref aNONE)])) _
            jvm_step X27.here [X27.here.top, hx, (hb hby own_d1_41), X27.method', Bd.returns, Value.isRef, FieldType.isReference]
            first | (intro acts; rw [hr _ acts rfl rfl rfl]) | rw [hr _ _ rfl rfl rfl]
            exact Steps.refl _
          · show Q_own_of Z p1 aNONE aCLIENT aSERVER h0 n0 _ T27.heap _
            rw [e27]
            exact ⟨by rw [if_neg (own_n9 p1 hc4_2 hc11_18 hc22_20 hc29_25), if_neg (own_n10 p1 hc4_2 hc11_18 hc22_20 hc29_25)], N0, rfl⟩
        · -- no at pc 29: ftf
          have pre29 : Goes p e below s₁ (entryFrame m #[(.int p1)] 1) s₁ (mkF m 32 #[.val (.int p1)] []) := fun t kt => pre24 t (by
              show Steps p.tables e below (s₁.setTop (mkF m 29 #[.val (.int p1)] [(.int (599 : Int32)), (.int p1)])) _
              refine XS.icmpNo X0.here hx rfl (hb hby own_d1_29) rfl (flt hc29_25).2.2.1 ?_
              exact kt)
          obtain ⟨T30, X30, e30, st30⟩ := getS2 X0 hx hZ hown (host := "") (Or.inl (hw _ (List.mem_of_getElem? (i := 17) rfl))) Via.refl e0 S_SERVER (g := (mkF m 32 #[.val (.int p1)] [])) rfl (hb hby own_d1_32)
          have pre31 : Goes p e below s₁ (entryFrame m #[(.int p1)] 1) T30 (mkF m 35 #[.val (.int p1)] [(.ref aSERVER)]) := fun t kt => pre29 t (st30 t kt)
          have pre32 : Goes p e below s₁ (entryFrame m #[(.int p1)] 1) T30 (mkF m 41 #[.val (.int p1)] [(.ref aSERVER)]) := fun t kt => pre31 t (by
              show Steps p.tables e below (T30.setTop (mkF m 35 #[.val (.int p1)] [(.ref aSERVER)])) _
              refine XS.goto X30.here hx rfl (pc0 := 35) (pc' := 41) rfl (hb hby own_d1_35) (by decide) (by decide) ?_
              exact kt)
          obtain ⟨fs, hr, hrun, hended, hW, hsame⟩ := X30.leave (v := some (.ref aSERVER)) (fun h => by rw [Bd.returns] at h; cases h)
          refine ⟨_, _, pre32 _ ?_, hrun, hended, _, _, rfl, ?_, ⟨_, rfl⟩, hW, hsame.mono (by decide) (by decide)⟩
          · show Steps p.tables e below (T30.setTop (mkF m 41 #[.val (.int p1)] [(.ref aSERVER)])) _
            jvm_step X30.here [X30.here.top, hx, (hb hby own_d1_41), X30.method', Bd.returns, Value.isRef, FieldType.isReference]
            first | (intro acts; rw [hr _ acts rfl rfl rfl]) | rw [hr _ _ rfl rfl rfl]
            exact Steps.refl _
          · show Q_own_of Z p1 aNONE aCLIENT aSERVER h0 n0 _ T30.heap _
            rw [e30]
            exact ⟨by rw [if_neg (own_n11 p1 hc4_2 hc11_18 hc22_20 hc29_25), if_pos (own_n12 p1 hc4_2 hc11_18 hc22_20 hc29_25)], N0, rfl⟩
    · -- no at pc 11: f
      have pre33 : Goes p e below s₁ (entryFrame m #[(.int p1)] 1) s₁ (mkF m 14 #[.val (.int p1)] []) := fun t kt => pre17 t (by
          show Steps p.tables e below (s₁.setTop (mkF m 11 #[.val (.int p1)] [(.int (499 : Int32)), (.int p1)])) _
          refine XS.icmpNo X0.here hx rfl (hb hby own_d1_11) rfl (flt hc11_18).2.2.1 ?_
          exact kt)
      obtain ⟨T34, X34, e34, st34⟩ := getS2 X0 hx hZ hown (host := "") (Or.inl (hw _ (List.mem_of_getElem? (i := 9) rfl))) Via.refl e0 S_CLIENT (g := (mkF m 14 #[.val (.int p1)] [])) rfl (hb hby own_d1_14)
      have pre35 : Goes p e below s₁ (entryFrame m #[(.int p1)] 1) T34 (mkF m 17 #[.val (.int p1)] [(.ref aCLIENT)]) := fun t kt => pre33 t (st34 t kt)
      obtain ⟨fs, hr, hrun, hended, hW, hsame⟩ := X34.leave (v := some (.ref aCLIENT)) (fun h => by rw [Bd.returns] at h; cases h)
      refine ⟨_, _, pre35 _ ?_, hrun, hended, _, _, rfl, ?_, ⟨_, rfl⟩, hW, hsame.mono (by decide) (by decide)⟩
      · show Steps p.tables e below (T34.setTop (mkF m 17 #[.val (.int p1)] [(.ref aCLIENT)])) _
        jvm_step X34.here [X34.here.top, hx, (hb hby own_d1_17), X34.method', Bd.returns, Value.isRef, FieldType.isReference]
        first | (intro acts; rw [hr _ acts rfl rfl rfl]) | rw [hr _ _ rfl rfl rfl]
        exact Steps.refl _
      · show Q_own_of Z p1 aNONE aCLIENT aSERVER h0 n0 _ T34.heap _
        rw [e34]
        exact ⟨by rw [if_pos (own_n13 p1 hc4_2 hc11_18)], N0, rfl⟩
theorem own_d2_0 : decode method_2_code 0 = .ok (.iload_n 0, 1) := by decide +kernel
theorem own_d2_1 : decode method_2_code 1 = .ok (.bipush 100, 2) := by decide +kernel
theorem own_d2_3 : decode method_2_code 3 = .ok (.idiv, 1) := by decide +kernel
theorem own_d2_4 : decode method_2_code 4 = .ok (.istore_n 1, 1) := by decide +kernel
theorem own_d2_5 : decode method_2_code 5 = .ok (.iload_n 1, 1) := by decide +kernel
theorem own_d2_6 : decode method_2_code 6 = .ok (.iconst 4, 1) := by decide +kernel
theorem own_d2_7 : decode method_2_code 7 = .ok (.if_icmp .ne 7, 3) := by decide +kernel
theorem own_d2_10 : decode method_2_code 10 = .ok (.getstatic 7, 3) := by decide +kernel
theorem own_d2_13 : decode method_2_code 13 = .ok (.areturn, 1) := by decide +kernel
theorem own_d2_14 : decode method_2_code 14 = .ok (.iload_n 1, 1) := by decide +kernel
theorem own_d2_15 : decode method_2_code 15 = .ok (.iconst 5, 1) := by decide +kernel
theorem own_d2_16 : decode method_2_code 16 = .ok (.if_icmp .ne 7, 3) := by decide +kernel
theorem own_d2_19 : decode method_2_code 19 = .ok (.getstatic 13, 3) := by decide +kernel
theorem own_d2_22 : decode method_2_code 22 = .ok (.areturn, 1) := by decide +kernel
theorem own_d2_23 : decode method_2_code 23 = .ok (.getstatic 16, 3) := by decide +kernel
theorem own_d2_26 : decode method_2_code 26 = .ok (.areturn, 1) := by decide +kernel
theorem own_pn_own_ref : plainName "com/example/outcomist/outcomist/FaultOfPinLaw" = true := by first | (simp [plainName, overriddenIn]; done) | decide +kernel
theorem own_ef_own_ref (m : MethodId) (x0 : Int32) : entryFrame m #[(.int x0)] 2 = mkF m 0 #[.val (.int x0), .unset] [] := by first | (simp [entryFrame, mkF, argsToLocals, Value.category]; done) | rfl
def Q_own_ref (Z : State) (p1 : Int32) (aNONE : Addr) (aCLIENT : Addr) (aSERVER : Addr) (h0 : Heap) (n0 : Nat) (v : Option Value) (h : Heap) (L : List Loc) : Prop := v = some (.ref (if 400 ≤ p1.toInt ∧ p1.toInt ≤ 499 then aCLIENT else if 500 ≤ p1.toInt ∧ p1.toInt ≤ 599 then aSERVER else aNONE)) ∧ Fr n0 L ∧ h = h0
set_option maxRecDepth 65536 in
set_option maxHeartbeats 40000000 in
theorem own_ref (l : Launch) (Z : State) (a0 : Array Value) (hw : ∀ d ∈ tables_1, d.before a0 Z = true) (ws : List Jvm.Cond) (p1 : Int32) (aNONE : Addr) (aCLIENT : Addr) (aSERVER : Addr) (h0 : Heap) (n0 : Nat) (Z0 : n0 ≤ h0.size) (S_NONE : Sta Z h0 "com/example/outcomist/outcomist/Reading$Fault" "NONE" "Lcom/example/outcomist/outcomist/Reading$Fault;" (.ref aNONE)) (S_CLIENT : Sta Z h0 "com/example/outcomist/outcomist/Reading$Fault" "CLIENT" "Lcom/example/outcomist/outcomist/Reading$Fault;" (.ref aCLIENT)) (S_SERVER : Sta Z h0 "com/example/outcomist/outcomist/Reading$Fault" "SERVER" "Lcom/example/outcomist/outcomist/Reading$Fault;" (.ref aSERVER)) :
    MetFree l (⟨"com/example/outcomist/outcomist/FaultOfPinLaw", "ref", "(I)Lcom/example/outcomist/outcomist/Reading$Fault;"⟩ : MethodName) (head1 (Jvm.Cond.code (⟨"com/example/outcomist/outcomist/FaultOfPinLaw", "ref", "(I)Lcom/example/outcomist/outcomist/Reading$Fault;"⟩ : MethodName) method_2_code 2 (some (.object "com/example/outcomist/outcomist/Reading$Fault")) :: ws) ({ frames := 0, cells := 0, slots := 0, locals := 0 } : Room)) (fun a U => a = #[(.int p1)] ∧ Z.Warmed39 U.vm ∧ U.heap = h0) (fun _ _ _ _ _ => True) (fun _ U o U' => ∃ v L, o = .returned v ∧ Q_own_ref Z p1 aNONE aCLIENT aSERVER h0 n0 v U'.heap L ∧ FrameEnd U o U' L ({ frames := 0, cells := 0, slots := 0, locals := 0 } : Room).cells ({ frames := 0, cells := 0, slots := 0, locals := 0 } : Room).slots) := by
  refine MetFree.of_bodySF (plainFor_of_name own_pn_own_ref) hisR ?_
  intro p e s m args below meth c s₁ Bd hml0 hP hK
  obtain ⟨rfl, hZ, hh⟩ := hP
  have hx := Bd.exec
  have hby := Bd.bytes
  have hml : c.maxLocals = 2 := hml0
  have hown : s.vm.findClass "com/example/outcomist/outcomist/FaultOfPinLaw" = some m.cls := findClass_of_methodNamed Bd.named
  have hnm := (name_of_methodNamed Bd.named Bd.method).1
  have X0 : Stand p l e ({ frames := 0, cells := 0, slots := 0, locals := 0 } : Room) s m #[(.int p1)] below meth c s₁ [] 0 0 := Stand.of_body Bd
  have e0 : s₁.heap = h0 := by rw [← hh, Bd.state]; rfl
  have N0 := Fr.nil n0
  have pre0 : Goes p e below s₁ (entryFrame m #[(.int p1)] 2) s₁ (mkF m 0 #[.val (.int p1), .unset] []) := fun t k => castTop (own_ef_own_ref m p1) k
  have pre1 : Goes p e below s₁ (entryFrame m #[(.int p1)] 2) s₁ (mkF m 7 #[.val (.int p1), .val (.int (p1 / (100 : Int32)))] [(.int (4 : Int32)), (.int (p1 / (100 : Int32)))]) := fun t kt => pre0 t (by
      show Steps p.tables e below (s₁.setTop (mkF m 0 #[.val (.int p1), .unset] [])) _
      refine XS.iloadN X0.here hx rfl (hb hby own_d2_0) rfl ?_
      show Steps p.tables e below (s₁.setTop (mkF m 1 #[.val (.int p1), .unset] [(.int p1)])) _
      refine XS.bipush X0.here hx rfl (hb hby own_d2_1) ?_
      show Steps p.tables e below (s₁.setTop (mkF m 3 #[.val (.int p1), .unset] [(.int (100 : Int32)), (.int p1)])) _
      refine XS.idiv X0.here hx rfl (hb hby own_d2_3) rfl (by decide) ?_
      show Steps p.tables e below (s₁.setTop (mkF m 4 #[.val (.int p1), .unset] [(.int (p1 / (100 : Int32)))])) _
      refine XS.istoreN X0.here hx rfl (hb hby own_d2_4) rfl (l' := #[.val (.int p1), .val (.int (p1 / (100 : Int32)))]) rfl ?_
      show Steps p.tables e below (s₁.setTop (mkF m 5 #[.val (.int p1), .val (.int (p1 / (100 : Int32)))] [])) _
      refine XS.iloadN X0.here hx rfl (hb hby own_d2_5) rfl ?_
      show Steps p.tables e below (s₁.setTop (mkF m 6 #[.val (.int p1), .val (.int (p1 / (100 : Int32)))] [(.int (p1 / (100 : Int32)))])) _
      refine XS.iconst X0.here hx rfl (hb hby own_d2_6) ?_
      exact kt)
  by_cases hc7_2 : (p1 / (100 : Int32)) = (4 : Int32)
  · -- yes at pc 7: 
    have pre3 : Goes p e below s₁ (entryFrame m #[(.int p1)] 2) s₁ (mkF m 10 #[.val (.int p1), .val (.int (p1 / (100 : Int32)))] []) := fun t kt => pre1 t (by
        show Steps p.tables e below (s₁.setTop (mkF m 7 #[.val (.int p1), .val (.int (p1 / (100 : Int32)))] [(.int (4 : Int32)), (.int (p1 / (100 : Int32)))])) _
        refine XS.icmpNo X0.here hx rfl (hb hby own_d2_7) rfl (teq hc7_2).2 ?_
        exact kt)
    obtain ⟨T4, X4, e4, st4⟩ := getS2 X0 hx hZ hown (host := "") (Or.inl (hw _ (List.mem_of_getElem? (i := 16) rfl))) Via.refl e0 S_CLIENT (g := (mkF m 10 #[.val (.int p1), .val (.int (p1 / (100 : Int32)))] [])) rfl (hb hby own_d2_10)
    have pre5 : Goes p e below s₁ (entryFrame m #[(.int p1)] 2) T4 (mkF m 13 #[.val (.int p1), .val (.int (p1 / (100 : Int32)))] [(.ref aCLIENT)]) := fun t kt => pre3 t (st4 t kt)
    obtain ⟨fs, hr, hrun, hended, hW, hsame⟩ := X4.leave (v := some (.ref aCLIENT)) (fun h => by rw [Bd.returns] at h; cases h)
    refine ⟨_, _, pre5 _ ?_, hrun, hended, _, _, rfl, ?_, ⟨_, rfl⟩, hW, hsame.mono (by decide) (by decide)⟩
    · show Steps p.tables e below (T4.setTop (mkF m 13 #[.val (.int p1), .val (.int (p1 / (100 : Int32)))] [(.ref aCLIENT)])) _
      jvm_step X4.here [X4.here.top, hx, (hb hby own_d2_13), X4.method', Bd.returns, Value.isRef, FieldType.isReference]
      first | (intro acts; rw [hr _ acts rfl rfl rfl]) | rw [hr _ _ rfl rfl rfl]
      exact Steps.refl _
    · show Q_own_ref Z p1 aNONE aCLIENT aSERVER h0 n0 _ T4.heap _
      rw [e4]
      exact ⟨by rw [if_pos (own_n14 p1 hc7_2)], N0, rfl⟩
  · -- no at pc 7: 
    have pre6 : Goes p e below s₁ (entryFrame m #[(.int p1)] 2) s₁ (mkF m 16 #[.val (.int p1), .val (.int (p1 / (100 : Int32)))] [(.int (5 : Int32)), (.int (p1 / (100 : Int32)))]) := fun t kt => pre1 t (by
        show Steps p.tables e below (s₁.setTop (mkF m 7 #[.val (.int p1), .val (.int (p1 / (100 : Int32)))] [(.int (4 : Int32)), (.int (p1 / (100 : Int32)))])) _
        refine XS.icmpYes X0.here hx rfl (pc0 := 7) (pc' := 14) rfl (hb hby own_d2_7) rfl (feq hc7_2).2 (by decide) (by decide) ?_
        show Steps p.tables e below (s₁.setTop (mkF m 14 #[.val (.int p1), .val (.int (p1 / (100 : Int32)))] [])) _
        refine XS.iloadN X0.here hx rfl (hb hby own_d2_14) rfl ?_
        show Steps p.tables e below (s₁.setTop (mkF m 15 #[.val (.int p1), .val (.int (p1 / (100 : Int32)))] [(.int (p1 / (100 : Int32)))])) _
        refine XS.iconst X0.here hx rfl (hb hby own_d2_15) ?_
        exact kt)
    by_cases hc16_7 : (p1 / (100 : Int32)) = (5 : Int32)
    · -- yes at pc 16: t
      have pre8 : Goes p e below s₁ (entryFrame m #[(.int p1)] 2) s₁ (mkF m 19 #[.val (.int p1), .val (.int (p1 / (100 : Int32)))] []) := fun t kt => pre6 t (by
          show Steps p.tables e below (s₁.setTop (mkF m 16 #[.val (.int p1), .val (.int (p1 / (100 : Int32)))] [(.int (5 : Int32)), (.int (p1 / (100 : Int32)))])) _
          refine XS.icmpNo X0.here hx rfl (hb hby own_d2_16) rfl (teq hc16_7).2 ?_
          exact kt)
      obtain ⟨T9, X9, e9, st9⟩ := getS2 X0 hx hZ hown (host := "") (Or.inl (hw _ (List.mem_of_getElem? (i := 19) rfl))) Via.refl e0 S_SERVER (g := (mkF m 19 #[.val (.int p1), .val (.int (p1 / (100 : Int32)))] [])) rfl (hb hby own_d2_19)
      have pre10 : Goes p e below s₁ (entryFrame m #[(.int p1)] 2) T9 (mkF m 22 #[.val (.int p1), .val (.int (p1 / (100 : Int32)))] [(.ref aSERVER)]) := fun t kt => pre8 t (st9 t kt)
      obtain ⟨fs, hr, hrun, hended, hW, hsame⟩ := X9.leave (v := some (.ref aSERVER)) (fun h => by rw [Bd.returns] at h; cases h)
      refine ⟨_, _, pre10 _ ?_, hrun, hended, _, _, rfl, ?_, ⟨_, rfl⟩, hW, hsame.mono (by decide) (by decide)⟩
      · show Steps p.tables e below (T9.setTop (mkF m 22 #[.val (.int p1), .val (.int (p1 / (100 : Int32)))] [(.ref aSERVER)])) _
        jvm_step X9.here [X9.here.top, hx, (hb hby own_d2_22), X9.method', Bd.returns, Value.isRef, FieldType.isReference]
        first | (intro acts; rw [hr _ acts rfl rfl rfl]) | rw [hr _ _ rfl rfl rfl]
        exact Steps.refl _
      · show Q_own_ref Z p1 aNONE aCLIENT aSERVER h0 n0 _ T9.heap _
        rw [e9]
        exact ⟨by rw [if_neg (own_n15 p1 hc7_2 hc16_7), if_pos (own_n16 p1 hc7_2 hc16_7)], N0, rfl⟩
    · -- no at pc 16: t
      have pre11 : Goes p e below s₁ (entryFrame m #[(.int p1)] 2) s₁ (mkF m 23 #[.val (.int p1), .val (.int (p1 / (100 : Int32)))] []) := fun t kt => pre6 t (by
          show Steps p.tables e below (s₁.setTop (mkF m 16 #[.val (.int p1), .val (.int (p1 / (100 : Int32)))] [(.int (5 : Int32)), (.int (p1 / (100 : Int32)))])) _
          refine XS.icmpYes X0.here hx rfl (pc0 := 16) (pc' := 23) rfl (hb hby own_d2_16) rfl (feq hc16_7).2 (by decide) (by decide) ?_
          exact kt)
      obtain ⟨T12, X12, e12, st12⟩ := getS2 X0 hx hZ hown (host := "") (Or.inl (hw _ (List.mem_of_getElem? (i := 15) rfl))) Via.refl e0 S_NONE (g := (mkF m 23 #[.val (.int p1), .val (.int (p1 / (100 : Int32)))] [])) rfl (hb hby own_d2_23)
      have pre13 : Goes p e below s₁ (entryFrame m #[(.int p1)] 2) T12 (mkF m 26 #[.val (.int p1), .val (.int (p1 / (100 : Int32)))] [(.ref aNONE)]) := fun t kt => pre11 t (st12 t kt)
      obtain ⟨fs, hr, hrun, hended, hW, hsame⟩ := X12.leave (v := some (.ref aNONE)) (fun h => by rw [Bd.returns] at h; cases h)
      refine ⟨_, _, pre13 _ ?_, hrun, hended, _, _, rfl, ?_, ⟨_, rfl⟩, hW, hsame.mono (by decide) (by decide)⟩
      · show Steps p.tables e below (T12.setTop (mkF m 26 #[.val (.int p1), .val (.int (p1 / (100 : Int32)))] [(.ref aNONE)])) _
        jvm_step X12.here [X12.here.top, hx, (hb hby own_d2_26), X12.method', Bd.returns, Value.isRef, FieldType.isReference]
        first | (intro acts; rw [hr _ acts rfl rfl rfl]) | rw [hr _ _ rfl rfl rfl]
        exact Steps.refl _
      · show Q_own_ref Z p1 aNONE aCLIENT aSERVER h0 n0 _ T12.heap _
        rw [e12]
        exact ⟨by rw [if_neg (own_n17 p1 hc7_2 hc16_7), if_neg (own_n18 p1 hc7_2 hc16_7)], N0, rfl⟩
theorem own_pn_own_rm0 : plainName "com/example/outcomist/outcomist/FaultOfPinLaw" = true := by first | (simp [plainName, overriddenIn]; done) | decide +kernel
theorem own_ef_own_rm0 (m : MethodId) (x0 : Int32) (x1 : Int32) : entryFrame m #[(.int x0), (.int x1)] maxLocals = mkF m 0 #[.val (.int x0), .val (.int x1), .unset, .unset, .unset, .unset] [] := by first | (simp [entryFrame, mkF, argsToLocals, Value.category, maxLocals]; done) | rfl
def Q_own_rm0 (Z : State) (status : Int32) (pick : Int32) (aNONE : Addr) (aCLIENT : Addr) (aSERVER : Addr) (h0 : Heap) (n0 : Nat) (v : Option Value) (h : Heap) (L : List Loc) : Prop := v = some (.int (1 : Int32)) ∧ Fr n0 L
set_option maxRecDepth 65536 in
set_option maxHeartbeats 40000000 in
theorem own_rm0 (l : Launch) (Z : State) (a0 : Array Value) (hw : ∀ d ∈ tables_1, d.before a0 Z = true) (ws : List Jvm.Cond) (status : Int32) (pick : Int32) (aNONE : Addr) (aCLIENT : Addr) (aSERVER : Addr) (h0 : Heap) (n0 : Nat) (Z0 : n0 ≤ h0.size) (S_NONE : Sta Z h0 "com/example/outcomist/outcomist/Reading$Fault" "NONE" "Lcom/example/outcomist/outcomist/Reading$Fault;" (.ref aNONE)) (S_CLIENT : Sta Z h0 "com/example/outcomist/outcomist/Reading$Fault" "CLIENT" "Lcom/example/outcomist/outcomist/Reading$Fault;" (.ref aCLIENT)) (S_SERVER : Sta Z h0 "com/example/outcomist/outcomist/Reading$Fault" "SERVER" "Lcom/example/outcomist/outcomist/Reading$Fault;" (.ref aSERVER)) :
    MetFree l x (head1 (Jvm.Cond.code x code maxLocals ret :: ws) room_1) (fun a U => a = #[(.int status), (.int pick)] ∧ Z.Warmed39 U.vm ∧ U.heap = h0) (fun _ _ _ _ _ => True) (fun _ U o U' => ∃ v L, o = .returned v ∧ Q_own_rm0 Z status pick aNONE aCLIENT aSERVER h0 n0 v U'.heap L ∧ FrameEnd U o U' L room_1.cells room_1.slots) := by
  refine MetFree.of_bodySF (plainFor_of_name own_pn_own_rm0) hisR ?_
  intro p e s m args below meth c s₁ Bd hml0 hP hK
  obtain ⟨rfl, hZ, hh⟩ := hP
  have hx := Bd.exec
  have hby := Bd.bytes
  have hml : c.maxLocals = 6 := hml0
  have hown : s.vm.findClass "com/example/outcomist/outcomist/FaultOfPinLaw" = some m.cls := findClass_of_methodNamed Bd.named
  have hnm := (name_of_methodNamed Bd.named Bd.method).1
  have X0 : Stand p l e room_1 s m #[(.int status), (.int pick)] below meth c s₁ [] 0 0 := Stand.of_body Bd
  have e0 : s₁.heap = h0 := by rw [← hh, Bd.state]; rfl
  have N0 := Fr.nil n0
  have pre0 : Goes p e below s₁ (entryFrame m #[(.int status), (.int pick)] maxLocals) s₁ (mkF m 0 #[.val (.int status), .val (.int pick), .unset, .unset, .unset, .unset] []) := fun t k => castTop (own_ef_own_rm0 m status pick) k
  have pre1 : Goes p e below s₁ (entryFrame m #[(.int status), (.int pick)] maxLocals) s₁ (mkF m 2 #[.val (.int status), .val (.int pick), .unset, .unset, .unset, .unset] [(.int (8 : Int32))]) := fun t kt => pre0 t (by
      show Steps p.tables e below (s₁.setTop (mkF m 0 #[.val (.int status), .val (.int pick), .unset, .unset, .unset, .unset] [])) _
      refine XS.bipush X0.here hx rfl (hb hby at_0) ?_
      exact kt)
  obtain ⟨T2, h2, k2, X2, e2, E2, A2, st2⟩ := newP X0 hx hZ (hw _ (List.mem_of_getElem? (i := 0) rfl)) e0 (g := (mkF m 2 #[.val (.int status), .val (.int pick), .unset, .unset, .unset, .unset] [(.int (8 : Int32))])) rfl (hb hby at_2) rfl (by decide) (cap := 8) (by decide) (by decide) (by decide) (by decide)
  obtain ⟨b2, g2⟩ : ∃ z, z = h0.size := ⟨_, rfl⟩
  rw [← g2] at A2 st2
  have V_b2 : Arv Z h2 b2 k2 .int (8 : Int32) [(.int (0 : Int32)), (.int (0 : Int32)), (.int (0 : Int32)), (.int (0 : Int32)), (.int (0 : Int32)), (.int (0 : Int32)), (.int (0 : Int32)), (.int (0 : Int32))] (.int (0 : Int32)) := (Arv.new A2 (by decide)).pad (pad_rep [] (.int (0 : Int32)) 8)
  have g_b2 : n0 ≤ b2 := Nat.le_trans Z0 (Nat.le_of_eq g2.symm)
  have sz_b2 : h0.size ≤ b2 := (Nat.le_trans (Keep.refl h0 []).1 (Nat.le_of_eq g2.symm))
  have K2 : Keep h0 h2 [] := (Keep.refl h0 []).ext E2
  have pre3 : Goes p e below s₁ (entryFrame m #[(.int status), (.int pick)] maxLocals) T2 (mkF m 4 #[.val (.int status), .val (.int pick), .unset, .unset, .unset, .unset] [(.ref b2)]) := fun t kt => pre1 t (st2 t kt)
  have pre4 : Goes p e below s₁ (entryFrame m #[(.int status), (.int pick)] maxLocals) T2 (mkF m 9 #[.val (.int status), .val (.int pick), .unset, .unset, .unset, .unset] [(.int (399 : Int32)), (.int (0 : Int32)), (.ref b2), (.ref b2)]) := fun t kt => pre3 t (by
      show Steps p.tables e below (T2.setTop (mkF m 4 #[.val (.int status), .val (.int pick), .unset, .unset, .unset, .unset] [(.ref b2)])) _
      refine XS.dup X2.here hx rfl (hb hby at_4) rfl rfl ?_
      show Steps p.tables e below (T2.setTop (mkF m 5 #[.val (.int status), .val (.int pick), .unset, .unset, .unset, .unset] [(.ref b2), (.ref b2)])) _
      refine XS.iconst X2.here hx rfl (hb hby at_5) ?_
      show Steps p.tables e below (T2.setTop (mkF m 6 #[.val (.int status), .val (.int pick), .unset, .unset, .unset, .unset] [(.int (0 : Int32)), (.ref b2), (.ref b2)])) _
      refine XS.sipush X2.here hx rfl (hb hby at_6) ?_
      exact kt)
  obtain ⟨cl5, Ar5, q5, S5, N_5, H5, G5⟩ := V_b2
  have hin5 : ¬ ((0 : Int32) < 0 ∨ cl5.slots.size ≤ ((0 : Int32)).toNatClampNeg) := inb_of S5 ⟨by decide, by decide⟩
  obtain ⟨T6, h6, X6, e6, W6, st6⟩ := stI X2 hx hZ e2 Ar5 (j := (0 : Int32)) hin5 (g := (mkF m 9 #[.val (.int status), .val (.int pick), .unset, .unset, .unset, .unset] [(.int (399 : Int32)), (.int (0 : Int32)), (.ref b2), (.ref b2)])) rfl rfl (hb hby at_9)
  have V6 : Arv Z h6 b2 k2 .int (8 : Int32) [(.int (399 : Int32)), (.int (0 : Int32)), (.int (0 : Int32)), (.int (0 : Int32)), (.int (0 : Int32)), (.int (0 : Int32)), (.int (0 : Int32)), (.int (0 : Int32))] (.int (0 : Int32)) := Arv.set Ar5 q5 S5 N_5 H5 G5 rfl W6 0 rfl (Nat.le_of_ble_eq_true rfl)
  have K6 : Keep h0 h6 [] := K2.wr W6 (Or.inr sz_b2)
  have N6 := Fr.snoc X6 N0 g_b2
  have pre7 : Goes p e below s₁ (entryFrame m #[(.int status), (.int pick)] maxLocals) T6 (mkF m 10 #[.val (.int status), .val (.int pick), .unset, .unset, .unset, .unset] [(.ref b2)]) := fun t kt => pre4 t (st6 t kt)
  have pre8 : Goes p e below s₁ (entryFrame m #[(.int status), (.int pick)] maxLocals) T6 (mkF m 15 #[.val (.int status), .val (.int pick), .unset, .unset, .unset, .unset] [(.int (400 : Int32)), (.int (1 : Int32)), (.ref b2), (.ref b2)]) := fun t kt => pre7 t (by
      show Steps p.tables e below (T6.setTop (mkF m 10 #[.val (.int status), .val (.int pick), .unset, .unset, .unset, .unset] [(.ref b2)])) _
      refine XS.dup X6.here hx rfl (hb hby at_10) rfl rfl ?_
      show Steps p.tables e below (T6.setTop (mkF m 11 #[.val (.int status), .val (.int pick), .unset, .unset, .unset, .unset] [(.ref b2), (.ref b2)])) _
      refine XS.iconst X6.here hx rfl (hb hby at_11) ?_
      show Steps p.tables e below (T6.setTop (mkF m 12 #[.val (.int status), .val (.int pick), .unset, .unset, .unset, .unset] [(.int (1 : Int32)), (.ref b2), (.ref b2)])) _
      refine XS.sipush X6.here hx rfl (hb hby at_12) ?_
      exact kt)
  obtain ⟨cl9, Ar9, q9, S9, N_9, H9, G9⟩ := V6
  have hin9 : ¬ ((1 : Int32) < 0 ∨ cl9.slots.size ≤ ((1 : Int32)).toNatClampNeg) := inb_of S9 ⟨by decide, by decide⟩
  obtain ⟨T10, h10, X10, e10, W10, st10⟩ := stI X6 hx hZ e6 Ar9 (j := (1 : Int32)) hin9 (g := (mkF m 15 #[.val (.int status), .val (.int pick), .unset, .unset, .unset, .unset] [(.int (400 : Int32)), (.int (1 : Int32)), (.ref b2), (.ref b2)])) rfl rfl (hb hby at_15)
  have V10 : Arv Z h10 b2 k2 .int (8 : Int32) [(.int (399 : Int32)), (.int (400 : Int32)), (.int (0 : Int32)), (.int (0 : Int32)), (.int (0 : Int32)), (.int (0 : Int32)), (.int (0 : Int32)), (.int (0 : Int32))] (.int (0 : Int32)) := Arv.set Ar9 q9 S9 N_9 H9 G9 rfl W10 1 rfl (Nat.le_of_ble_eq_true rfl)
  have K10 : Keep h0 h10 [] := K6.wr W10 (Or.inr sz_b2)
  have N10 := Fr.snoc X10 N6 g_b2
  have pre11 : Goes p e below s₁ (entryFrame m #[(.int status), (.int pick)] maxLocals) T10 (mkF m 16 #[.val (.int status), .val (.int pick), .unset, .unset, .unset, .unset] [(.ref b2)]) := fun t kt => pre8 t (st10 t kt)
  have pre12 : Goes p e below s₁ (entryFrame m #[(.int status), (.int pick)] maxLocals) T10 (mkF m 21 #[.val (.int status), .val (.int pick), .unset, .unset, .unset, .unset] [(.int (499 : Int32)), (.int (2 : Int32)), (.ref b2), (.ref b2)]) := fun t kt => pre11 t (by
      show Steps p.tables e below (T10.setTop (mkF m 16 #[.val (.int status), .val (.int pick), .unset, .unset, .unset, .unset] [(.ref b2)])) _
      refine XS.dup X10.here hx rfl (hb hby at_16) rfl rfl ?_
      show Steps p.tables e below (T10.setTop (mkF m 17 #[.val (.int status), .val (.int pick), .unset, .unset, .unset, .unset] [(.ref b2), (.ref b2)])) _
      refine XS.iconst X10.here hx rfl (hb hby at_17) ?_
      show Steps p.tables e below (T10.setTop (mkF m 18 #[.val (.int status), .val (.int pick), .unset, .unset, .unset, .unset] [(.int (2 : Int32)), (.ref b2), (.ref b2)])) _
      refine XS.sipush X10.here hx rfl (hb hby at_18) ?_
      exact kt)
  obtain ⟨cl13, Ar13, q13, S13, N_13, H13, G13⟩ := V10
  have hin13 : ¬ ((2 : Int32) < 0 ∨ cl13.slots.size ≤ ((2 : Int32)).toNatClampNeg) := inb_of S13 ⟨by decide, by decide⟩
  obtain ⟨T14, h14, X14, e14, W14, st14⟩ := stI X10 hx hZ e10 Ar13 (j := (2 : Int32)) hin13 (g := (mkF m 21 #[.val (.int status), .val (.int pick), .unset, .unset, .unset, .unset] [(.int (499 : Int32)), (.int (2 : Int32)), (.ref b2), (.ref b2)])) rfl rfl (hb hby at_21)
  have V14 : Arv Z h14 b2 k2 .int (8 : Int32) [(.int (399 : Int32)), (.int (400 : Int32)), (.int (499 : Int32)), (.int (0 : Int32)), (.int (0 : Int32)), (.int (0 : Int32)), (.int (0 : Int32)), (.int (0 : Int32))] (.int (0 : Int32)) := Arv.set Ar13 q13 S13 N_13 H13 G13 rfl W14 2 rfl (Nat.le_of_ble_eq_true rfl)
  have K14 : Keep h0 h14 [] := K10.wr W14 (Or.inr sz_b2)
  have N14 := Fr.snoc X14 N10 g_b2
  have pre15 : Goes p e below s₁ (entryFrame m #[(.int status), (.int pick)] maxLocals) T14 (mkF m 22 #[.val (.int status), .val (.int pick), .unset, .unset, .unset, .unset] [(.ref b2)]) := fun t kt => pre12 t (st14 t kt)
  have pre16 : Goes p e below s₁ (entryFrame m #[(.int status), (.int pick)] maxLocals) T14 (mkF m 27 #[.val (.int status), .val (.int pick), .unset, .unset, .unset, .unset] [(.int (500 : Int32)), (.int (3 : Int32)), (.ref b2), (.ref b2)]) := fun t kt => pre15 t (by
      show Steps p.tables e below (T14.setTop (mkF m 22 #[.val (.int status), .val (.int pick), .unset, .unset, .unset, .unset] [(.ref b2)])) _
      refine XS.dup X14.here hx rfl (hb hby at_22) rfl rfl ?_
      show Steps p.tables e below (T14.setTop (mkF m 23 #[.val (.int status), .val (.int pick), .unset, .unset, .unset, .unset] [(.ref b2), (.ref b2)])) _
      refine XS.iconst X14.here hx rfl (hb hby at_23) ?_
      show Steps p.tables e below (T14.setTop (mkF m 24 #[.val (.int status), .val (.int pick), .unset, .unset, .unset, .unset] [(.int (3 : Int32)), (.ref b2), (.ref b2)])) _
      refine XS.sipush X14.here hx rfl (hb hby at_24) ?_
      exact kt)
  obtain ⟨cl17, Ar17, q17, S17, N_17, H17, G17⟩ := V14
  have hin17 : ¬ ((3 : Int32) < 0 ∨ cl17.slots.size ≤ ((3 : Int32)).toNatClampNeg) := inb_of S17 ⟨by decide, by decide⟩
  obtain ⟨T18, h18, X18, e18, W18, st18⟩ := stI X14 hx hZ e14 Ar17 (j := (3 : Int32)) hin17 (g := (mkF m 27 #[.val (.int status), .val (.int pick), .unset, .unset, .unset, .unset] [(.int (500 : Int32)), (.int (3 : Int32)), (.ref b2), (.ref b2)])) rfl rfl (hb hby at_27)
  have V18 : Arv Z h18 b2 k2 .int (8 : Int32) [(.int (399 : Int32)), (.int (400 : Int32)), (.int (499 : Int32)), (.int (500 : Int32)), (.int (0 : Int32)), (.int (0 : Int32)), (.int (0 : Int32)), (.int (0 : Int32))] (.int (0 : Int32)) := Arv.set Ar17 q17 S17 N_17 H17 G17 rfl W18 3 rfl (Nat.le_of_ble_eq_true rfl)
  have K18 : Keep h0 h18 [] := K14.wr W18 (Or.inr sz_b2)
  have N18 := Fr.snoc X18 N14 g_b2
  have pre19 : Goes p e below s₁ (entryFrame m #[(.int status), (.int pick)] maxLocals) T18 (mkF m 28 #[.val (.int status), .val (.int pick), .unset, .unset, .unset, .unset] [(.ref b2)]) := fun t kt => pre16 t (st18 t kt)
  have pre20 : Goes p e below s₁ (entryFrame m #[(.int status), (.int pick)] maxLocals) T18 (mkF m 33 #[.val (.int status), .val (.int pick), .unset, .unset, .unset, .unset] [(.int (599 : Int32)), (.int (4 : Int32)), (.ref b2), (.ref b2)]) := fun t kt => pre19 t (by
      show Steps p.tables e below (T18.setTop (mkF m 28 #[.val (.int status), .val (.int pick), .unset, .unset, .unset, .unset] [(.ref b2)])) _
      refine XS.dup X18.here hx rfl (hb hby at_28) rfl rfl ?_
      show Steps p.tables e below (T18.setTop (mkF m 29 #[.val (.int status), .val (.int pick), .unset, .unset, .unset, .unset] [(.ref b2), (.ref b2)])) _
      refine XS.iconst X18.here hx rfl (hb hby at_29) ?_
      show Steps p.tables e below (T18.setTop (mkF m 30 #[.val (.int status), .val (.int pick), .unset, .unset, .unset, .unset] [(.int (4 : Int32)), (.ref b2), (.ref b2)])) _
      refine XS.sipush X18.here hx rfl (hb hby at_30) ?_
      exact kt)
  obtain ⟨cl21, Ar21, q21, S21, N_21, H21, G21⟩ := V18
  have hin21 : ¬ ((4 : Int32) < 0 ∨ cl21.slots.size ≤ ((4 : Int32)).toNatClampNeg) := inb_of S21 ⟨by decide, by decide⟩
  obtain ⟨T22, h22, X22, e22, W22, st22⟩ := stI X18 hx hZ e18 Ar21 (j := (4 : Int32)) hin21 (g := (mkF m 33 #[.val (.int status), .val (.int pick), .unset, .unset, .unset, .unset] [(.int (599 : Int32)), (.int (4 : Int32)), (.ref b2), (.ref b2)])) rfl rfl (hb hby at_33)
  have V22 : Arv Z h22 b2 k2 .int (8 : Int32) [(.int (399 : Int32)), (.int (400 : Int32)), (.int (499 : Int32)), (.int (500 : Int32)), (.int (599 : Int32)), (.int (0 : Int32)), (.int (0 : Int32)), (.int (0 : Int32))] (.int (0 : Int32)) := Arv.set Ar21 q21 S21 N_21 H21 G21 rfl W22 4 rfl (Nat.le_of_ble_eq_true rfl)
  have K22 : Keep h0 h22 [] := K18.wr W22 (Or.inr sz_b2)
  have N22 := Fr.snoc X22 N18 g_b2
  have pre23 : Goes p e below s₁ (entryFrame m #[(.int status), (.int pick)] maxLocals) T22 (mkF m 34 #[.val (.int status), .val (.int pick), .unset, .unset, .unset, .unset] [(.ref b2)]) := fun t kt => pre20 t (st22 t kt)
  have pre24 : Goes p e below s₁ (entryFrame m #[(.int status), (.int pick)] maxLocals) T22 (mkF m 39 #[.val (.int status), .val (.int pick), .unset, .unset, .unset, .unset] [(.int (600 : Int32)), (.int (5 : Int32)), (.ref b2), (.ref b2)]) := fun t kt => pre23 t (by
      show Steps p.tables e below (T22.setTop (mkF m 34 #[.val (.int status), .val (.int pick), .unset, .unset, .unset, .unset] [(.ref b2)])) _
      refine XS.dup X22.here hx rfl (hb hby at_34) rfl rfl ?_
      show Steps p.tables e below (T22.setTop (mkF m 35 #[.val (.int status), .val (.int pick), .unset, .unset, .unset, .unset] [(.ref b2), (.ref b2)])) _
      refine XS.iconst X22.here hx rfl (hb hby at_35) ?_
      show Steps p.tables e below (T22.setTop (mkF m 36 #[.val (.int status), .val (.int pick), .unset, .unset, .unset, .unset] [(.int (5 : Int32)), (.ref b2), (.ref b2)])) _
      refine XS.sipush X22.here hx rfl (hb hby at_36) ?_
      exact kt)
  obtain ⟨cl25, Ar25, q25, S25, N_25, H25, G25⟩ := V22
  have hin25 : ¬ ((5 : Int32) < 0 ∨ cl25.slots.size ≤ ((5 : Int32)).toNatClampNeg) := inb_of S25 ⟨by decide, by decide⟩
  obtain ⟨T26, h26, X26, e26, W26, st26⟩ := stI X22 hx hZ e22 Ar25 (j := (5 : Int32)) hin25 (g := (mkF m 39 #[.val (.int status), .val (.int pick), .unset, .unset, .unset, .unset] [(.int (600 : Int32)), (.int (5 : Int32)), (.ref b2), (.ref b2)])) rfl rfl (hb hby at_39)
  have V26 : Arv Z h26 b2 k2 .int (8 : Int32) [(.int (399 : Int32)), (.int (400 : Int32)), (.int (499 : Int32)), (.int (500 : Int32)), (.int (599 : Int32)), (.int (600 : Int32)), (.int (0 : Int32)), (.int (0 : Int32))] (.int (0 : Int32)) := Arv.set Ar25 q25 S25 N_25 H25 G25 rfl W26 5 rfl (Nat.le_of_ble_eq_true rfl)
  have K26 : Keep h0 h26 [] := K22.wr W26 (Or.inr sz_b2)
  have N26 := Fr.snoc X26 N22 g_b2
  have pre27 : Goes p e below s₁ (entryFrame m #[(.int status), (.int pick)] maxLocals) T26 (mkF m 40 #[.val (.int status), .val (.int pick), .unset, .unset, .unset, .unset] [(.ref b2)]) := fun t kt => pre24 t (st26 t kt)
  have pre28 : Goes p e below s₁ (entryFrame m #[(.int status), (.int pick)] maxLocals) T26 (mkF m 45 #[.val (.int status), .val (.int pick), .unset, .unset, .unset, .unset] [(.int (-2147483648 : Int32)), (.int (6 : Int32)), (.ref b2), (.ref b2)]) := fun t kt => pre27 t (by
      show Steps p.tables e below (T26.setTop (mkF m 40 #[.val (.int status), .val (.int pick), .unset, .unset, .unset, .unset] [(.ref b2)])) _
      refine XS.dup X26.here hx rfl (hb hby at_40) rfl rfl ?_
      show Steps p.tables e below (T26.setTop (mkF m 41 #[.val (.int status), .val (.int pick), .unset, .unset, .unset, .unset] [(.ref b2), (.ref b2)])) _
      refine XS.bipush X26.here hx rfl (hb hby at_41) ?_
      show Steps p.tables e below (T26.setTop (mkF m 43 #[.val (.int status), .val (.int pick), .unset, .unset, .unset, .unset] [(.int (6 : Int32)), (.ref b2), (.ref b2)])) _
      refine X26.ldcInt hx hown (mvT hZ (hw _ (List.mem_of_getElem? (i := 1) rfl))) (g := (mkF m 43 #[.val (.int status), .val (.int pick), .unset, .unset, .unset, .unset] [(.int (6 : Int32)), (.ref b2), (.ref b2)])) rfl (hb hby at_43) _ ?_
      exact kt)
  obtain ⟨cl29, Ar29, q29, S29, N_29, H29, G29⟩ := V26
  have hin29 : ¬ ((6 : Int32) < 0 ∨ cl29.slots.size ≤ ((6 : Int32)).toNatClampNeg) := inb_of S29 ⟨by decide, by decide⟩
  obtain ⟨T30, h30, X30, e30, W30, st30⟩ := stI X26 hx hZ e26 Ar29 (j := (6 : Int32)) hin29 (g := (mkF m 45 #[.val (.int status), .val (.int pick), .unset, .unset, .unset, .unset] [(.int (-2147483648 : Int32)), (.int (6 : Int32)), (.ref b2), (.ref b2)])) rfl rfl (hb hby at_45)
  have V30 : Arv Z h30 b2 k2 .int (8 : Int32) [(.int (399 : Int32)), (.int (400 : Int32)), (.int (499 : Int32)), (.int (500 : Int32)), (.int (599 : Int32)), (.int (600 : Int32)), (.int (-2147483648 : Int32)), (.int (0 : Int32))] (.int (0 : Int32)) := Arv.set Ar29 q29 S29 N_29 H29 G29 rfl W30 6 rfl (Nat.le_of_ble_eq_true rfl)
  have K30 : Keep h0 h30 [] := K26.wr W30 (Or.inr sz_b2)
  have N30 := Fr.snoc X30 N26 g_b2
  have pre31 : Goes p e below s₁ (entryFrame m #[(.int status), (.int pick)] maxLocals) T30 (mkF m 46 #[.val (.int status), .val (.int pick), .unset, .unset, .unset, .unset] [(.ref b2)]) := fun t kt => pre28 t (st30 t kt)
  have pre32 : Goes p e below s₁ (entryFrame m #[(.int status), (.int pick)] maxLocals) T30 (mkF m 51 #[.val (.int status), .val (.int pick), .unset, .unset, .unset, .unset] [(.int (2147483647 : Int32)), (.int (7 : Int32)), (.ref b2), (.ref b2)]) := fun t kt => pre31 t (by
      show Steps p.tables e below (T30.setTop (mkF m 46 #[.val (.int status), .val (.int pick), .unset, .unset, .unset, .unset] [(.ref b2)])) _
      refine XS.dup X30.here hx rfl (hb hby at_46) rfl rfl ?_
      show Steps p.tables e below (T30.setTop (mkF m 47 #[.val (.int status), .val (.int pick), .unset, .unset, .unset, .unset] [(.ref b2), (.ref b2)])) _
      refine XS.bipush X30.here hx rfl (hb hby at_47) ?_
      show Steps p.tables e below (T30.setTop (mkF m 49 #[.val (.int status), .val (.int pick), .unset, .unset, .unset, .unset] [(.int (7 : Int32)), (.ref b2), (.ref b2)])) _
      refine X30.ldcInt hx hown (mvT hZ (hw _ (List.mem_of_getElem? (i := 2) rfl))) (g := (mkF m 49 #[.val (.int status), .val (.int pick), .unset, .unset, .unset, .unset] [(.int (7 : Int32)), (.ref b2), (.ref b2)])) rfl (hb hby at_49) _ ?_
      exact kt)
  obtain ⟨cl33, Ar33, q33, S33, N_33, H33, G33⟩ := V30
  have hin33 : ¬ ((7 : Int32) < 0 ∨ cl33.slots.size ≤ ((7 : Int32)).toNatClampNeg) := inb_of S33 ⟨by decide, by decide⟩
  obtain ⟨T34, h34, X34, e34, W34, st34⟩ := stI X30 hx hZ e30 Ar33 (j := (7 : Int32)) hin33 (g := (mkF m 51 #[.val (.int status), .val (.int pick), .unset, .unset, .unset, .unset] [(.int (2147483647 : Int32)), (.int (7 : Int32)), (.ref b2), (.ref b2)])) rfl rfl (hb hby at_51)
  have V34 : Arv Z h34 b2 k2 .int (8 : Int32) [(.int (399 : Int32)), (.int (400 : Int32)), (.int (499 : Int32)), (.int (500 : Int32)), (.int (599 : Int32)), (.int (600 : Int32)), (.int (-2147483648 : Int32)), (.int (2147483647 : Int32))] (.int (0 : Int32)) := Arv.set Ar33 q33 S33 N_33 H33 G33 rfl W34 7 rfl (Nat.le_of_ble_eq_true rfl)
  have K34 : Keep h0 h34 [] := K30.wr W34 (Or.inr sz_b2)
  have N34 := Fr.snoc X34 N30 g_b2
  have pre35 : Goes p e below s₁ (entryFrame m #[(.int status), (.int pick)] maxLocals) T34 (mkF m 52 #[.val (.int status), .val (.int pick), .unset, .unset, .unset, .unset] [(.ref b2)]) := fun t kt => pre32 t (st34 t kt)
  have pre36 : Goes p e below s₁ (entryFrame m #[(.int status), (.int pick)] maxLocals) T34 (mkF m 58 #[.val (.int status), .val (.int pick), .val (.ref b2), .unset, .unset, .unset] [(.int (pick &&& (7 : Int32))), (.ref b2)]) := fun t kt => pre35 t (by
      show Steps p.tables e below (T34.setTop (mkF m 52 #[.val (.int status), .val (.int pick), .unset, .unset, .unset, .unset] [(.ref b2)])) _
      refine XS.astoreN X34.here hx rfl (hb hby at_52) rfl rfl (l' := #[.val (.int status), .val (.int pick), .val (.ref b2), .unset, .unset, .unset]) rfl ?_
      show Steps p.tables e below (T34.setTop (mkF m 53 #[.val (.int status), .val (.int pick), .val (.ref b2), .unset, .unset, .unset] [])) _
      refine XS.aloadN X34.here hx rfl (hb hby at_53) rfl rfl ?_
      show Steps p.tables e below (T34.setTop (mkF m 54 #[.val (.int status), .val (.int pick), .val (.ref b2), .unset, .unset, .unset] [(.ref b2)])) _
      refine XS.iloadN X34.here hx rfl (hb hby at_54) rfl ?_
      show Steps p.tables e below (T34.setTop (mkF m 55 #[.val (.int status), .val (.int pick), .val (.ref b2), .unset, .unset, .unset] [(.int pick), (.ref b2)])) _
      refine XS.bipush X34.here hx rfl (hb hby at_55) ?_
      show Steps p.tables e below (T34.setTop (mkF m 57 #[.val (.int status), .val (.int pick), .val (.ref b2), .unset, .unset, .unset] [(.int (7 : Int32)), (.int pick), (.ref b2)])) _
      refine XS.iand X34.here hx rfl (hb hby at_57) rfl ?_
      exact kt)
  obtain ⟨clb, Arb, qb, Sb, N_b, Hb, Gb⟩ := V34
  have hinb : ¬ ((pick &&& (7 : Int32)) < 0 ∨ clb.slots.size ≤ ((pick &&& (7 : Int32))).toNatClampNeg) := inb_of Sb (own_n19 pick)
  obtain ⟨b0, hb0⟩ : ∃ b0 : Int32, clb.slots[((pick &&& (7 : Int32))).toNatClampNeg]? = some (.int b0) := own_some Hb hinb (by decide)
  have pre37 : Goes p e below s₁ (entryFrame m #[(.int status), (.int pick)] maxLocals) T34 (mkF m 69 #[.val (.int status), .val (.int pick), .val (.ref b2), .val (.int ((b0 + (((pick.toUInt32 >>> ((3 : Int32) &&& 31).toUInt32).toInt32) &&& (3 : Int32))) - (1 : Int32))), .unset, .unset] [(.int status)]) := fun t kt => pre36 t (by
      show Steps p.tables e below (T34.setTop (mkF m 58 #[.val (.int status), .val (.int pick), .val (.ref b2), .unset, .unset, .unset] [(.int (pick &&& (7 : Int32))), (.ref b2)])) _
      refine X34.iaload hx (j := (pick &&& (7 : Int32))) (v := (.int b0)) (by rw [e34]; exact Arb.1) (State.isArrayOf_alike hZ.alike Arb.2.1) Arb.2.2 hinb hb0 (g := (mkF m 58 #[.val (.int status), .val (.int pick), .val (.ref b2), .unset, .unset, .unset] [(.int (pick &&& (7 : Int32))), (.ref b2)])) rfl rfl (hb hby at_58) _ ?_
      show Steps p.tables e below (T34.setTop (mkF m 59 #[.val (.int status), .val (.int pick), .val (.ref b2), .unset, .unset, .unset] [(.int b0)])) _
      refine XS.iloadN X34.here hx rfl (hb hby at_59) rfl ?_
      show Steps p.tables e below (T34.setTop (mkF m 60 #[.val (.int status), .val (.int pick), .val (.ref b2), .unset, .unset, .unset] [(.int pick), (.int b0)])) _
      refine XS.iconst X34.here hx rfl (hb hby at_60) ?_
      show Steps p.tables e below (T34.setTop (mkF m 61 #[.val (.int status), .val (.int pick), .val (.ref b2), .unset, .unset, .unset] [(.int (3 : Int32)), (.int pick), (.int b0)])) _
      refine XS.iushr X34.here hx rfl (hb hby at_61) rfl ?_
      show Steps p.tables e below (T34.setTop (mkF m 62 #[.val (.int status), .val (.int pick), .val (.ref b2), .unset, .unset, .unset] [(.int ((pick.toUInt32 >>> ((3 : Int32) &&& 31).toUInt32).toInt32)), (.int b0)])) _
      refine XS.iconst X34.here hx rfl (hb hby at_62) ?_
      show Steps p.tables e below (T34.setTop (mkF m 63 #[.val (.int status), .val (.int pick), .val (.ref b2), .unset, .unset, .unset] [(.int (3 : Int32)), (.int ((pick.toUInt32 >>> ((3 : Int32) &&& 31).toUInt32).toInt32)), (.int b0)])) _
      refine XS.iand X34.here hx rfl (hb hby at_63) rfl ?_
      show Steps p.tables e below (T34.setTop (mkF m 64 #[.val (.int status), .val (.int pick), .val (.ref b2), .unset, .unset, .unset] [(.int (((pick.toUInt32 >>> ((3 : Int32) &&& 31).toUInt32).toInt32) &&& (3 : Int32))), (.int b0)])) _
      refine XS.iadd X34.here hx rfl (hb hby at_64) rfl ?_
      show Steps p.tables e below (T34.setTop (mkF m 65 #[.val (.int status), .val (.int pick), .val (.ref b2), .unset, .unset, .unset] [(.int (b0 + (((pick.toUInt32 >>> ((3 : Int32) &&& 31).toUInt32).toInt32) &&& (3 : Int32))))])) _
      refine XS.iconst X34.here hx rfl (hb hby at_65) ?_
      show Steps p.tables e below (T34.setTop (mkF m 66 #[.val (.int status), .val (.int pick), .val (.ref b2), .unset, .unset, .unset] [(.int (1 : Int32)), (.int (b0 + (((pick.toUInt32 >>> ((3 : Int32) &&& 31).toUInt32).toInt32) &&& (3 : Int32))))])) _
      refine XS.isub X34.here hx rfl (hb hby at_66) rfl ?_
      show Steps p.tables e below (T34.setTop (mkF m 67 #[.val (.int status), .val (.int pick), .val (.ref b2), .unset, .unset, .unset] [(.int ((b0 + (((pick.toUInt32 >>> ((3 : Int32) &&& 31).toUInt32).toInt32) &&& (3 : Int32))) - (1 : Int32)))])) _
      refine XS.istoreN X34.here hx rfl (hb hby at_67) rfl (l' := #[.val (.int status), .val (.int pick), .val (.ref b2), .val (.int ((b0 + (((pick.toUInt32 >>> ((3 : Int32) &&& 31).toUInt32).toInt32) &&& (3 : Int32))) - (1 : Int32))), .unset, .unset]) rfl ?_
      show Steps p.tables e below (T34.setTop (mkF m 68 #[.val (.int status), .val (.int pick), .val (.ref b2), .val (.int ((b0 + (((pick.toUInt32 >>> ((3 : Int32) &&& 31).toUInt32).toInt32) &&& (3 : Int32))) - (1 : Int32))), .unset, .unset] [])) _
      refine XS.iloadN X34.here hx rfl (hb hby at_68) rfl ?_
      exact kt)
  obtain ⟨_, _, ⟨T38, L38, k38, n38⟩, -, X38, ⟨Lc38, hQ38, l38, y38, z38⟩, st38⟩ := Jvm.LawKit.callS X34 hx (y := (⟨"com/example/outcomist/outcomist/Reading$Fault", "of", "(I)Lcom/example/outcomist/outcomist/Reading$Fault;"⟩ : MethodName)) hown (mvT hZ (hw _ (List.mem_of_getElem? (i := 3) rfl))) (mvT hZ (hw _ (List.mem_of_getElem? (i := 4) rfl))) (mvT hZ (hw _ (List.mem_of_getElem? (i := 5) rfl))) (mvT hZ (hw _ (List.mem_of_getElem? (i := 6) rfl))) (by decide) (backOf (W := 0) (own_of l Z a0 hw [] status aNONE aCLIENT aSERVER h34 n0 (Nat.le_trans (Nat.le_trans (Nat.le_trans (Nat.le_trans (Nat.le_trans (Nat.le_trans (Nat.le_trans (Nat.le_trans (Nat.le_trans Z0 E2.1) (Keep.of_wr W6).1) (Keep.of_wr W10).1) (Keep.of_wr W14).1) (Keep.of_wr W18).1) (Keep.of_wr W22).1) (Keep.of_wr W26).1) (Keep.of_wr W30).1) (Keep.of_wr W34).1) (((((((((S_NONE.ext E2).wr W6).wr W10).wr W14).wr W18).wr W22).wr W26).wr W30).wr W34) (((((((((S_CLIENT.ext E2).wr W6).wr W10).wr W14).wr W18).wr W22).wr W26).wr W30).wr W34) (((((((((S_SERVER.ext E2).wr W6).wr W10).wr W14).wr W18).wr W22).wr W26).wr W30).wr W34)) hZ (hw _ (List.mem_of_getElem? (i := 6) rfl)) (hw _ (List.mem_of_getElem? (i := 5) rfl)) (by decide) (by decide)) (g := (mkF m 69 #[.val (.int status), .val (.int pick), .val (.ref b2), .val (.int ((b0 + (((pick.toUInt32 >>> ((3 : Int32) &&& 31).toUInt32).toInt32) &&& (3 : Int32))) - (1 : Int32))), .unset, .unset] [(.int status)])) rfl (by rw [hml]; rfl) (argsL := [(.int status)]) (rest := []) (lenOf own_pd0 rfl) rfl (by show 2 * 0 + _ ≤ _; exact Nat.le_of_eq rfl) (hb hby at_69) (fun _ _ => ⟨rfl, e34, (by decide : 1 + 0 ≤ _), (by decide : 8 + 0 ≤ _)⟩)
  dsimp only [Pt.U, Pt.locs, Pt.cells, Pt.slots] at X38 l38 y38 z38 st38 hQ38
  subst l38 y38 z38
  obtain ⟨rfl, N38q, e38⟩ := hQ38
  have N38 := Fr.app N34 N38q
  have pre39 : Goes p e below s₁ (entryFrame m #[(.int status), (.int pick)] maxLocals) T38 (mkF m 72 #[.val (.int status), .val (.int pick), .val (.ref b2), .val (.int ((b0 + (((pick.toUInt32 >>> ((3 : Int32) &&& 31).toUInt32).toInt32) &&& (3 : Int32))) - (1 : Int32))), .unset, .unset] [(.ref (if 400 ≤ status.toInt ∧ status.toInt ≤ 499 then aCLIENT else if 500 ≤ status.toInt ∧ status.toInt ≤ 599 then aSERVER else aNONE))]) := fun t kt => pre37 t (st38 t kt)
  have pre40 : Goes p e below s₁ (entryFrame m #[(.int status), (.int pick)] maxLocals) T38 (mkF m 75 #[.val (.int status), .val (.int pick), .val (.ref b2), .val (.int ((b0 + (((pick.toUInt32 >>> ((3 : Int32) &&& 31).toUInt32).toInt32) &&& (3 : Int32))) - (1 : Int32))), .val (.ref (if 400 ≤ status.toInt ∧ status.toInt ≤ 499 then aCLIENT else if 500 ≤ status.toInt ∧ status.toInt ≤ 599 then aSERVER else aNONE)), .unset] [(.int ((b0 + (((pick.toUInt32 >>> ((3 : Int32) &&& 31).toUInt32).toInt32) &&& (3 : Int32))) - (1 : Int32)))]) := fun t kt => pre39 t (by
      show Steps p.tables e below (T38.setTop (mkF m 72 #[.val (.int status), .val (.int pick), .val (.ref b2), .val (.int ((b0 + (((pick.toUInt32 >>> ((3 : Int32) &&& 31).toUInt32).toInt32) &&& (3 : Int32))) - (1 : Int32))), .unset, .unset] [(.ref (if 400 ≤ status.toInt ∧ status.toInt ≤ 499 then aCLIENT else if 500 ≤ status.toInt ∧ status.toInt ≤ 599 then aSERVER else aNONE))])) _
      refine XS.astore X38.here hx rfl (hb hby at_72) rfl rfl (l' := #[.val (.int status), .val (.int pick), .val (.ref b2), .val (.int ((b0 + (((pick.toUInt32 >>> ((3 : Int32) &&& 31).toUInt32).toInt32) &&& (3 : Int32))) - (1 : Int32))), .val (.ref (if 400 ≤ status.toInt ∧ status.toInt ≤ 499 then aCLIENT else if 500 ≤ status.toInt ∧ status.toInt ≤ 599 then aSERVER else aNONE)), .unset]) rfl ?_
      show Steps p.tables e below (T38.setTop (mkF m 74 #[.val (.int status), .val (.int pick), .val (.ref b2), .val (.int ((b0 + (((pick.toUInt32 >>> ((3 : Int32) &&& 31).toUInt32).toInt32) &&& (3 : Int32))) - (1 : Int32))), .val (.ref (if 400 ≤ status.toInt ∧ status.toInt ≤ 499 then aCLIENT else if 500 ≤ status.toInt ∧ status.toInt ≤ 599 then aSERVER else aNONE)), .unset] [])) _
      refine XS.iloadN X38.here hx rfl (hb hby at_74) rfl ?_
      exact kt)
  obtain ⟨_, _, ⟨T41, L41, k41, n41⟩, -, X41, ⟨Lc41, hQ41, l41, y41, z41⟩, st41⟩ := Jvm.LawKit.callS X38 hx (y := (⟨"com/example/outcomist/outcomist/Reading$Fault", "of", "(I)Lcom/example/outcomist/outcomist/Reading$Fault;"⟩ : MethodName)) hown (mvT hZ (hw _ (List.mem_of_getElem? (i := 3) rfl))) (mvT hZ (hw _ (List.mem_of_getElem? (i := 4) rfl))) (mvT hZ (hw _ (List.mem_of_getElem? (i := 5) rfl))) (mvT hZ (hw _ (List.mem_of_getElem? (i := 6) rfl))) (by decide) (backOf (W := 0) (own_of l Z a0 hw [] ((b0 + (((pick.toUInt32 >>> ((3 : Int32) &&& 31).toUInt32).toInt32) &&& (3 : Int32))) - (1 : Int32)) aNONE aCLIENT aSERVER h34 n0 (Nat.le_trans (Nat.le_trans (Nat.le_trans (Nat.le_trans (Nat.le_trans (Nat.le_trans (Nat.le_trans (Nat.le_trans (Nat.le_trans Z0 E2.1) (Keep.of_wr W6).1) (Keep.of_wr W10).1) (Keep.of_wr W14).1) (Keep.of_wr W18).1) (Keep.of_wr W22).1) (Keep.of_wr W26).1) (Keep.of_wr W30).1) (Keep.of_wr W34).1) (((((((((S_NONE.ext E2).wr W6).wr W10).wr W14).wr W18).wr W22).wr W26).wr W30).wr W34) (((((((((S_CLIENT.ext E2).wr W6).wr W10).wr W14).wr W18).wr W22).wr W26).wr W30).wr W34) (((((((((S_SERVER.ext E2).wr W6).wr W10).wr W14).wr W18).wr W22).wr W26).wr W30).wr W34)) hZ (hw _ (List.mem_of_getElem? (i := 6) rfl)) (hw _ (List.mem_of_getElem? (i := 5) rfl)) (by decide) (by decide)) (g := (mkF m 75 #[.val (.int status), .val (.int pick), .val (.ref b2), .val (.int ((b0 + (((pick.toUInt32 >>> ((3 : Int32) &&& 31).toUInt32).toInt32) &&& (3 : Int32))) - (1 : Int32))), .val (.ref (if 400 ≤ status.toInt ∧ status.toInt ≤ 499 then aCLIENT else if 500 ≤ status.toInt ∧ status.toInt ≤ 599 then aSERVER else aNONE)), .unset] [(.int ((b0 + (((pick.toUInt32 >>> ((3 : Int32) &&& 31).toUInt32).toInt32) &&& (3 : Int32))) - (1 : Int32)))])) rfl (by rw [hml]; rfl) (argsL := [(.int ((b0 + (((pick.toUInt32 >>> ((3 : Int32) &&& 31).toUInt32).toInt32) &&& (3 : Int32))) - (1 : Int32)))]) (rest := []) (lenOf own_pd0 rfl) rfl (by show 2 * 0 + _ ≤ _; exact Nat.le_of_eq rfl) (hb hby at_75) (fun _ _ => ⟨rfl, e38, (by decide : 1 + 0 ≤ _), (by decide : 8 + 0 ≤ _)⟩)
  dsimp only [Pt.U, Pt.locs, Pt.cells, Pt.slots] at X41 l41 y41 z41 st41 hQ41
  subst l41 y41 z41
  obtain ⟨rfl, N41q, e41⟩ := hQ41
  have N41 := Fr.app N38 N41q
  have pre42 : Goes p e below s₁ (entryFrame m #[(.int status), (.int pick)] maxLocals) T41 (mkF m 78 #[.val (.int status), .val (.int pick), .val (.ref b2), .val (.int ((b0 + (((pick.toUInt32 >>> ((3 : Int32) &&& 31).toUInt32).toInt32) &&& (3 : Int32))) - (1 : Int32))), .val (.ref (if 400 ≤ status.toInt ∧ status.toInt ≤ 499 then aCLIENT else if 500 ≤ status.toInt ∧ status.toInt ≤ 599 then aSERVER else aNONE)), .unset] [(.ref (if 400 ≤ ((b0 + (((pick.toUInt32 >>> ((3 : Int32) &&& 31).toUInt32).toInt32) &&& (3 : Int32))) - (1 : Int32)).toInt ∧ ((b0 + (((pick.toUInt32 >>> ((3 : Int32) &&& 31).toUInt32).toInt32) &&& (3 : Int32))) - (1 : Int32)).toInt ≤ 499 then aCLIENT else if 500 ≤ ((b0 + (((pick.toUInt32 >>> ((3 : Int32) &&& 31).toUInt32).toInt32) &&& (3 : Int32))) - (1 : Int32)).toInt ∧ ((b0 + (((pick.toUInt32 >>> ((3 : Int32) &&& 31).toUInt32).toInt32) &&& (3 : Int32))) - (1 : Int32)).toInt ≤ 599 then aSERVER else aNONE))]) := fun t kt => pre40 t (st41 t kt)
  have pre43 : Goes p e below s₁ (entryFrame m #[(.int status), (.int pick)] maxLocals) T41 (mkF m 83 #[.val (.int status), .val (.int pick), .val (.ref b2), .val (.int ((b0 + (((pick.toUInt32 >>> ((3 : Int32) &&& 31).toUInt32).toInt32) &&& (3 : Int32))) - (1 : Int32))), .val (.ref (if 400 ≤ status.toInt ∧ status.toInt ≤ 499 then aCLIENT else if 500 ≤ status.toInt ∧ status.toInt ≤ 599 then aSERVER else aNONE)), .val (.ref (if 400 ≤ ((b0 + (((pick.toUInt32 >>> ((3 : Int32) &&& 31).toUInt32).toInt32) &&& (3 : Int32))) - (1 : Int32)).toInt ∧ ((b0 + (((pick.toUInt32 >>> ((3 : Int32) &&& 31).toUInt32).toInt32) &&& (3 : Int32))) - (1 : Int32)).toInt ≤ 499 then aCLIENT else if 500 ≤ ((b0 + (((pick.toUInt32 >>> ((3 : Int32) &&& 31).toUInt32).toInt32) &&& (3 : Int32))) - (1 : Int32)).toInt ∧ ((b0 + (((pick.toUInt32 >>> ((3 : Int32) &&& 31).toUInt32).toInt32) &&& (3 : Int32))) - (1 : Int32)).toInt ≤ 599 then aSERVER else aNONE))] [(.int status), (.ref (if 400 ≤ status.toInt ∧ status.toInt ≤ 499 then aCLIENT else if 500 ≤ status.toInt ∧ status.toInt ≤ 599 then aSERVER else aNONE))]) := fun t kt => pre42 t (by
      show Steps p.tables e below (T41.setTop (mkF m 78 #[.val (.int status), .val (.int pick), .val (.ref b2), .val (.int ((b0 + (((pick.toUInt32 >>> ((3 : Int32) &&& 31).toUInt32).toInt32) &&& (3 : Int32))) - (1 : Int32))), .val (.ref (if 400 ≤ status.toInt ∧ status.toInt ≤ 499 then aCLIENT else if 500 ≤ status.toInt ∧ status.toInt ≤ 599 then aSERVER else aNONE)), .unset] [(.ref (if 400 ≤ ((b0 + (((pick.toUInt32 >>> ((3 : Int32) &&& 31).toUInt32).toInt32) &&& (3 : Int32))) - (1 : Int32)).toInt ∧ ((b0 + (((pick.toUInt32 >>> ((3 : Int32) &&& 31).toUInt32).toInt32) &&& (3 : Int32))) - (1 : Int32)).toInt ≤ 499 then aCLIENT else if 500 ≤ ((b0 + (((pick.toUInt32 >>> ((3 : Int32) &&& 31).toUInt32).toInt32) &&& (3 : Int32))) - (1 : Int32)).toInt ∧ ((b0 + (((pick.toUInt32 >>> ((3 : Int32) &&& 31).toUInt32).toInt32) &&& (3 : Int32))) - (1 : Int32)).toInt ≤ 599 then aSERVER else aNONE))])) _
      refine XS.astore X41.here hx rfl (hb hby at_78) rfl rfl (l' := #[.val (.int status), .val (.int pick), .val (.ref b2), .val (.int ((b0 + (((pick.toUInt32 >>> ((3 : Int32) &&& 31).toUInt32).toInt32) &&& (3 : Int32))) - (1 : Int32))), .val (.ref (if 400 ≤ status.toInt ∧ status.toInt ≤ 499 then aCLIENT else if 500 ≤ status.toInt ∧ status.toInt ≤ 599 then aSERVER else aNONE)), .val (.ref (if 400 ≤ ((b0 + (((pick.toUInt32 >>> ((3 : Int32) &&& 31).toUInt32).toInt32) &&& (3 : Int32))) - (1 : Int32)).toInt ∧ ((b0 + (((pick.toUInt32 >>> ((3 : Int32) &&& 31).toUInt32).toInt32) &&& (3 : Int32))) - (1 : Int32)).toInt ≤ 499 then aCLIENT else if 500 ≤ ((b0 + (((pick.toUInt32 >>> ((3 : Int32) &&& 31).toUInt32).toInt32) &&& (3 : Int32))) - (1 : Int32)).toInt ∧ ((b0 + (((pick.toUInt32 >>> ((3 : Int32) &&& 31).toUInt32).toInt32) &&& (3 : Int32))) - (1 : Int32)).toInt ≤ 599 then aSERVER else aNONE))]) rfl ?_
      show Steps p.tables e below (T41.setTop (mkF m 80 #[.val (.int status), .val (.int pick), .val (.ref b2), .val (.int ((b0 + (((pick.toUInt32 >>> ((3 : Int32) &&& 31).toUInt32).toInt32) &&& (3 : Int32))) - (1 : Int32))), .val (.ref (if 400 ≤ status.toInt ∧ status.toInt ≤ 499 then aCLIENT else if 500 ≤ status.toInt ∧ status.toInt ≤ 599 then aSERVER else aNONE)), .val (.ref (if 400 ≤ ((b0 + (((pick.toUInt32 >>> ((3 : Int32) &&& 31).toUInt32).toInt32) &&& (3 : Int32))) - (1 : Int32)).toInt ∧ ((b0 + (((pick.toUInt32 >>> ((3 : Int32) &&& 31).toUInt32).toInt32) &&& (3 : Int32))) - (1 : Int32)).toInt ≤ 499 then aCLIENT else if 500 ≤ ((b0 + (((pick.toUInt32 >>> ((3 : Int32) &&& 31).toUInt32).toInt32) &&& (3 : Int32))) - (1 : Int32)).toInt ∧ ((b0 + (((pick.toUInt32 >>> ((3 : Int32) &&& 31).toUInt32).toInt32) &&& (3 : Int32))) - (1 : Int32)).toInt ≤ 599 then aSERVER else aNONE))] [])) _
      refine XS.aload X41.here hx rfl (hb hby at_80) rfl rfl ?_
      show Steps p.tables e below (T41.setTop (mkF m 82 #[.val (.int status), .val (.int pick), .val (.ref b2), .val (.int ((b0 + (((pick.toUInt32 >>> ((3 : Int32) &&& 31).toUInt32).toInt32) &&& (3 : Int32))) - (1 : Int32))), .val (.ref (if 400 ≤ status.toInt ∧ status.toInt ≤ 499 then aCLIENT else if 500 ≤ status.toInt ∧ status.toInt ≤ 599 then aSERVER else aNONE)), .val (.ref (if 400 ≤ ((b0 + (((pick.toUInt32 >>> ((3 : Int32) &&& 31).toUInt32).toInt32) &&& (3 : Int32))) - (1 : Int32)).toInt ∧ ((b0 + (((pick.toUInt32 >>> ((3 : Int32) &&& 31).toUInt32).toInt32) &&& (3 : Int32))) - (1 : Int32)).toInt ≤ 499 then aCLIENT else if 500 ≤ ((b0 + (((pick.toUInt32 >>> ((3 : Int32) &&& 31).toUInt32).toInt32) &&& (3 : Int32))) - (1 : Int32)).toInt ∧ ((b0 + (((pick.toUInt32 >>> ((3 : Int32) &&& 31).toUInt32).toInt32) &&& (3 : Int32))) - (1 : Int32)).toInt ≤ 599 then aSERVER else aNONE))] [(.ref (if 400 ≤ status.toInt ∧ status.toInt ≤ 499 then aCLIENT else if 500 ≤ status.toInt ∧ status.toInt ≤ 599 then aSERVER else aNONE))])) _
      refine XS.iloadN X41.here hx rfl (hb hby at_82) rfl ?_
      exact kt)
  obtain ⟨_, _, ⟨T44, L44, k44, n44⟩, -, X44, ⟨Lc44, hQ44, l44, y44, z44⟩, st44⟩ := Jvm.LawKit.callS X41 hx (y := (⟨"com/example/outcomist/outcomist/FaultOfPinLaw", "ref", "(I)Lcom/example/outcomist/outcomist/Reading$Fault;"⟩ : MethodName)) hown (mvT hZ (hw _ (List.mem_of_getElem? (i := 11) rfl))) (mvT hZ (hw _ (List.mem_of_getElem? (i := 12) rfl))) (mvT hZ (hw _ (List.mem_of_getElem? (i := 13) rfl))) (mvT hZ (hw _ (List.mem_of_getElem? (i := 14) rfl))) (by decide) (backOf (W := 1) (own_ref l Z a0 hw [] status aNONE aCLIENT aSERVER h34 n0 (Nat.le_trans (Nat.le_trans (Nat.le_trans (Nat.le_trans (Nat.le_trans (Nat.le_trans (Nat.le_trans (Nat.le_trans (Nat.le_trans Z0 E2.1) (Keep.of_wr W6).1) (Keep.of_wr W10).1) (Keep.of_wr W14).1) (Keep.of_wr W18).1) (Keep.of_wr W22).1) (Keep.of_wr W26).1) (Keep.of_wr W30).1) (Keep.of_wr W34).1) (((((((((S_NONE.ext E2).wr W6).wr W10).wr W14).wr W18).wr W22).wr W26).wr W30).wr W34) (((((((((S_CLIENT.ext E2).wr W6).wr W10).wr W14).wr W18).wr W22).wr W26).wr W30).wr W34) (((((((((S_SERVER.ext E2).wr W6).wr W10).wr W14).wr W18).wr W22).wr W26).wr W30).wr W34)) hZ (hw _ (List.mem_of_getElem? (i := 14) rfl)) (hw _ (List.mem_of_getElem? (i := 13) rfl)) (by decide) (by decide)) (g := (mkF m 83 #[.val (.int status), .val (.int pick), .val (.ref b2), .val (.int ((b0 + (((pick.toUInt32 >>> ((3 : Int32) &&& 31).toUInt32).toInt32) &&& (3 : Int32))) - (1 : Int32))), .val (.ref (if 400 ≤ status.toInt ∧ status.toInt ≤ 499 then aCLIENT else if 500 ≤ status.toInt ∧ status.toInt ≤ 599 then aSERVER else aNONE)), .val (.ref (if 400 ≤ ((b0 + (((pick.toUInt32 >>> ((3 : Int32) &&& 31).toUInt32).toInt32) &&& (3 : Int32))) - (1 : Int32)).toInt ∧ ((b0 + (((pick.toUInt32 >>> ((3 : Int32) &&& 31).toUInt32).toInt32) &&& (3 : Int32))) - (1 : Int32)).toInt ≤ 499 then aCLIENT else if 500 ≤ ((b0 + (((pick.toUInt32 >>> ((3 : Int32) &&& 31).toUInt32).toInt32) &&& (3 : Int32))) - (1 : Int32)).toInt ∧ ((b0 + (((pick.toUInt32 >>> ((3 : Int32) &&& 31).toUInt32).toInt32) &&& (3 : Int32))) - (1 : Int32)).toInt ≤ 599 then aSERVER else aNONE))] [(.int status), (.ref (if 400 ≤ status.toInt ∧ status.toInt ≤ 499 then aCLIENT else if 500 ≤ status.toInt ∧ status.toInt ≤ 599 then aSERVER else aNONE))])) rfl (by rw [hml]; rfl) (argsL := [(.int status)]) (rest := [(.ref (if 400 ≤ status.toInt ∧ status.toInt ≤ 499 then aCLIENT else if 500 ≤ status.toInt ∧ status.toInt ≤ 599 then aSERVER else aNONE))]) (lenOf own_pd0 rfl) rfl (by show 2 * 0 + _ ≤ _; exact Nat.le_of_eq rfl) (hb hby at_83) (fun _ _ => ⟨rfl, e41, (by decide : 1 + 0 ≤ _), (by decide : 8 + 0 ≤ _)⟩)
  dsimp only [Pt.U, Pt.locs, Pt.cells, Pt.slots] at X44 l44 y44 z44 st44 hQ44
  subst l44 y44 z44
  obtain ⟨rfl, N44q, e44⟩ := hQ44
  have N44 := Fr.app N41 N44q
  have pre45 : Goes p e below s₁ (entryFrame m #[(.int status), (.int pick)] maxLocals) T44 (mkF m 86 #[.val (.int status), .val (.int pick), .val (.ref b2), .val (.int ((b0 + (((pick.toUInt32 >>> ((3 : Int32) &&& 31).toUInt32).toInt32) &&& (3 : Int32))) - (1 : Int32))), .val (.ref (if 400 ≤ status.toInt ∧ status.toInt ≤ 499 then aCLIENT else if 500 ≤ status.toInt ∧ status.toInt ≤ 599 then aSERVER else aNONE)), .val (.ref (if 400 ≤ ((b0 + (((pick.toUInt32 >>> ((3 : Int32) &&& 31).toUInt32).toInt32) &&& (3 : Int32))) - (1 : Int32)).toInt ∧ ((b0 + (((pick.toUInt32 >>> ((3 : Int32) &&& 31).toUInt32).toInt32) &&& (3 : Int32))) - (1 : Int32)).toInt ≤ 499 then aCLIENT else if 500 ≤ ((b0 + (((pick.toUInt32 >>> ((3 : Int32) &&& 31).toUInt32).toInt32) &&& (3 : Int32))) - (1 : Int32)).toInt ∧ ((b0 + (((pick.toUInt32 >>> ((3 : Int32) &&& 31).toUInt32).toInt32) &&& (3 : Int32))) - (1 : Int32)).toInt ≤ 599 then aSERVER else aNONE))] [(.ref (if 400 ≤ status.toInt ∧ status.toInt ≤ 499 then aCLIENT else if 500 ≤ status.toInt ∧ status.toInt ≤ 599 then aSERVER else aNONE)), (.ref (if 400 ≤ status.toInt ∧ status.toInt ≤ 499 then aCLIENT else if 500 ≤ status.toInt ∧ status.toInt ≤ 599 then aSERVER else aNONE))]) := fun t kt => pre43 t (st44 t kt)
  have pre46 : Goes p e below s₁ (entryFrame m #[(.int status), (.int pick)] maxLocals) T44 (mkF m 92 #[.val (.int status), .val (.int pick), .val (.ref b2), .val (.int ((b0 + (((pick.toUInt32 >>> ((3 : Int32) &&& 31).toUInt32).toInt32) &&& (3 : Int32))) - (1 : Int32))), .val (.ref (if 400 ≤ status.toInt ∧ status.toInt ≤ 499 then aCLIENT else if 500 ≤ status.toInt ∧ status.toInt ≤ 599 then aSERVER else aNONE)), .val (.ref (if 400 ≤ ((b0 + (((pick.toUInt32 >>> ((3 : Int32) &&& 31).toUInt32).toInt32) &&& (3 : Int32))) - (1 : Int32)).toInt ∧ ((b0 + (((pick.toUInt32 >>> ((3 : Int32) &&& 31).toUInt32).toInt32) &&& (3 : Int32))) - (1 : Int32)).toInt ≤ 499 then aCLIENT else if 500 ≤ ((b0 + (((pick.toUInt32 >>> ((3 : Int32) &&& 31).toUInt32).toInt32) &&& (3 : Int32))) - (1 : Int32)).toInt ∧ ((b0 + (((pick.toUInt32 >>> ((3 : Int32) &&& 31).toUInt32).toInt32) &&& (3 : Int32))) - (1 : Int32)).toInt ≤ 599 then aSERVER else aNONE))] [(.int ((b0 + (((pick.toUInt32 >>> ((3 : Int32) &&& 31).toUInt32).toInt32) &&& (3 : Int32))) - (1 : Int32))), (.ref (if 400 ≤ ((b0 + (((pick.toUInt32 >>> ((3 : Int32) &&& 31).toUInt32).toInt32) &&& (3 : Int32))) - (1 : Int32)).toInt ∧ ((b0 + (((pick.toUInt32 >>> ((3 : Int32) &&& 31).toUInt32).toInt32) &&& (3 : Int32))) - (1 : Int32)).toInt ≤ 499 then aCLIENT else if 500 ≤ ((b0 + (((pick.toUInt32 >>> ((3 : Int32) &&& 31).toUInt32).toInt32) &&& (3 : Int32))) - (1 : Int32)).toInt ∧ ((b0 + (((pick.toUInt32 >>> ((3 : Int32) &&& 31).toUInt32).toInt32) &&& (3 : Int32))) - (1 : Int32)).toInt ≤ 599 then aSERVER else aNONE))]) := fun t kt => pre45 t (by
      show Steps p.tables e below (T44.setTop (mkF m 86 #[.val (.int status), .val (.int pick), .val (.ref b2), .val (.int ((b0 + (((pick.toUInt32 >>> ((3 : Int32) &&& 31).toUInt32).toInt32) &&& (3 : Int32))) - (1 : Int32))), .val (.ref (if 400 ≤ status.toInt ∧ status.toInt ≤ 499 then aCLIENT else if 500 ≤ status.toInt ∧ status.toInt ≤ 599 then aSERVER else aNONE)), .val (.ref (if 400 ≤ ((b0 + (((pick.toUInt32 >>> ((3 : Int32) &&& 31).toUInt32).toInt32) &&& (3 : Int32))) - (1 : Int32)).toInt ∧ ((b0 + (((pick.toUInt32 >>> ((3 : Int32) &&& 31).toUInt32).toInt32) &&& (3 : Int32))) - (1 : Int32)).toInt ≤ 499 then aCLIENT else if 500 ≤ ((b0 + (((pick.toUInt32 >>> ((3 : Int32) &&& 31).toUInt32).toInt32) &&& (3 : Int32))) - (1 : Int32)).toInt ∧ ((b0 + (((pick.toUInt32 >>> ((3 : Int32) &&& 31).toUInt32).toInt32) &&& (3 : Int32))) - (1 : Int32)).toInt ≤ 599 then aSERVER else aNONE))] [(.ref (if 400 ≤ status.toInt ∧ status.toInt ≤ 499 then aCLIENT else if 500 ≤ status.toInt ∧ status.toInt ≤ 599 then aSERVER else aNONE)), (.ref (if 400 ≤ status.toInt ∧ status.toInt ≤ 499 then aCLIENT else if 500 ≤ status.toInt ∧ status.toInt ≤ 599 then aSERVER else aNONE))])) _
      refine Jvm.RoadKit.acmp (g := (mkF m 86 #[.val (.int status), .val (.int pick), .val (.ref b2), .val (.int ((b0 + (((pick.toUInt32 >>> ((3 : Int32) &&& 31).toUInt32).toInt32) &&& (3 : Int32))) - (1 : Int32))), .val (.ref (if 400 ≤ status.toInt ∧ status.toInt ≤ 499 then aCLIENT else if 500 ≤ status.toInt ∧ status.toInt ≤ 599 then aSERVER else aNONE)), .val (.ref (if 400 ≤ ((b0 + (((pick.toUInt32 >>> ((3 : Int32) &&& 31).toUInt32).toInt32) &&& (3 : Int32))) - (1 : Int32)).toInt ∧ ((b0 + (((pick.toUInt32 >>> ((3 : Int32) &&& 31).toUInt32).toInt32) &&& (3 : Int32))) - (1 : Int32)).toInt ≤ 499 then aCLIENT else if 500 ≤ ((b0 + (((pick.toUInt32 >>> ((3 : Int32) &&& 31).toUInt32).toInt32) &&& (3 : Int32))) - (1 : Int32)).toInt ∧ ((b0 + (((pick.toUInt32 >>> ((3 : Int32) &&& 31).toUInt32).toInt32) &&& (3 : Int32))) - (1 : Int32)).toInt ≤ 599 then aSERVER else aNONE))] [(.ref (if 400 ≤ status.toInt ∧ status.toInt ≤ 499 then aCLIENT else if 500 ≤ status.toInt ∧ status.toInt ≤ 599 then aSERVER else aNONE)), (.ref (if 400 ≤ status.toInt ∧ status.toInt ≤ 499 then aCLIENT else if 500 ≤ status.toInt ∧ status.toInt ≤ 599 then aSERVER else aNONE))])) X44 hx rfl rfl rfl (pc0 := 86) (pc' := 89) (same := true) rfl (hb hby at_86) rfl (decide_eq_true rfl) (by decide) (by decide) ?_
      show Steps p.tables e below (T44.setTop (mkF m 89 #[.val (.int status), .val (.int pick), .val (.ref b2), .val (.int ((b0 + (((pick.toUInt32 >>> ((3 : Int32) &&& 31).toUInt32).toInt32) &&& (3 : Int32))) - (1 : Int32))), .val (.ref (if 400 ≤ status.toInt ∧ status.toInt ≤ 499 then aCLIENT else if 500 ≤ status.toInt ∧ status.toInt ≤ 599 then aSERVER else aNONE)), .val (.ref (if 400 ≤ ((b0 + (((pick.toUInt32 >>> ((3 : Int32) &&& 31).toUInt32).toInt32) &&& (3 : Int32))) - (1 : Int32)).toInt ∧ ((b0 + (((pick.toUInt32 >>> ((3 : Int32) &&& 31).toUInt32).toInt32) &&& (3 : Int32))) - (1 : Int32)).toInt ≤ 499 then aCLIENT else if 500 ≤ ((b0 + (((pick.toUInt32 >>> ((3 : Int32) &&& 31).toUInt32).toInt32) &&& (3 : Int32))) - (1 : Int32)).toInt ∧ ((b0 + (((pick.toUInt32 >>> ((3 : Int32) &&& 31).toUInt32).toInt32) &&& (3 : Int32))) - (1 : Int32)).toInt ≤ 599 then aSERVER else aNONE))] [])) _
      refine XS.aload X44.here hx rfl (hb hby at_89) rfl rfl ?_
      show Steps p.tables e below (T44.setTop (mkF m 91 #[.val (.int status), .val (.int pick), .val (.ref b2), .val (.int ((b0 + (((pick.toUInt32 >>> ((3 : Int32) &&& 31).toUInt32).toInt32) &&& (3 : Int32))) - (1 : Int32))), .val (.ref (if 400 ≤ status.toInt ∧ status.toInt ≤ 499 then aCLIENT else if 500 ≤ status.toInt ∧ status.toInt ≤ 599 then aSERVER else aNONE)), .val (.ref (if 400 ≤ ((b0 + (((pick.toUInt32 >>> ((3 : Int32) &&& 31).toUInt32).toInt32) &&& (3 : Int32))) - (1 : Int32)).toInt ∧ ((b0 + (((pick.toUInt32 >>> ((3 : Int32) &&& 31).toUInt32).toInt32) &&& (3 : Int32))) - (1 : Int32)).toInt ≤ 499 then aCLIENT else if 500 ≤ ((b0 + (((pick.toUInt32 >>> ((3 : Int32) &&& 31).toUInt32).toInt32) &&& (3 : Int32))) - (1 : Int32)).toInt ∧ ((b0 + (((pick.toUInt32 >>> ((3 : Int32) &&& 31).toUInt32).toInt32) &&& (3 : Int32))) - (1 : Int32)).toInt ≤ 599 then aSERVER else aNONE))] [(.ref (if 400 ≤ ((b0 + (((pick.toUInt32 >>> ((3 : Int32) &&& 31).toUInt32).toInt32) &&& (3 : Int32))) - (1 : Int32)).toInt ∧ ((b0 + (((pick.toUInt32 >>> ((3 : Int32) &&& 31).toUInt32).toInt32) &&& (3 : Int32))) - (1 : Int32)).toInt ≤ 499 then aCLIENT else if 500 ≤ ((b0 + (((pick.toUInt32 >>> ((3 : Int32) &&& 31).toUInt32).toInt32) &&& (3 : Int32))) - (1 : Int32)).toInt ∧ ((b0 + (((pick.toUInt32 >>> ((3 : Int32) &&& 31).toUInt32).toInt32) &&& (3 : Int32))) - (1 : Int32)).toInt ≤ 599 then aSERVER else aNONE))])) _
      refine XS.iloadN X44.here hx rfl (hb hby at_91) rfl ?_
      exact kt)
  obtain ⟨_, _, ⟨T47, L47, k47, n47⟩, -, X47, ⟨Lc47, hQ47, l47, y47, z47⟩, st47⟩ := Jvm.LawKit.callS X44 hx (y := (⟨"com/example/outcomist/outcomist/FaultOfPinLaw", "ref", "(I)Lcom/example/outcomist/outcomist/Reading$Fault;"⟩ : MethodName)) hown (mvT hZ (hw _ (List.mem_of_getElem? (i := 11) rfl))) (mvT hZ (hw _ (List.mem_of_getElem? (i := 12) rfl))) (mvT hZ (hw _ (List.mem_of_getElem? (i := 13) rfl))) (mvT hZ (hw _ (List.mem_of_getElem? (i := 14) rfl))) (by decide) (backOf (W := 1) (own_ref l Z a0 hw [] ((b0 + (((pick.toUInt32 >>> ((3 : Int32) &&& 31).toUInt32).toInt32) &&& (3 : Int32))) - (1 : Int32)) aNONE aCLIENT aSERVER h34 n0 (Nat.le_trans (Nat.le_trans (Nat.le_trans (Nat.le_trans (Nat.le_trans (Nat.le_trans (Nat.le_trans (Nat.le_trans (Nat.le_trans Z0 E2.1) (Keep.of_wr W6).1) (Keep.of_wr W10).1) (Keep.of_wr W14).1) (Keep.of_wr W18).1) (Keep.of_wr W22).1) (Keep.of_wr W26).1) (Keep.of_wr W30).1) (Keep.of_wr W34).1) (((((((((S_NONE.ext E2).wr W6).wr W10).wr W14).wr W18).wr W22).wr W26).wr W30).wr W34) (((((((((S_CLIENT.ext E2).wr W6).wr W10).wr W14).wr W18).wr W22).wr W26).wr W30).wr W34) (((((((((S_SERVER.ext E2).wr W6).wr W10).wr W14).wr W18).wr W22).wr W26).wr W30).wr W34)) hZ (hw _ (List.mem_of_getElem? (i := 14) rfl)) (hw _ (List.mem_of_getElem? (i := 13) rfl)) (by decide) (by decide)) (g := (mkF m 92 #[.val (.int status), .val (.int pick), .val (.ref b2), .val (.int ((b0 + (((pick.toUInt32 >>> ((3 : Int32) &&& 31).toUInt32).toInt32) &&& (3 : Int32))) - (1 : Int32))), .val (.ref (if 400 ≤ status.toInt ∧ status.toInt ≤ 499 then aCLIENT else if 500 ≤ status.toInt ∧ status.toInt ≤ 599 then aSERVER else aNONE)), .val (.ref (if 400 ≤ ((b0 + (((pick.toUInt32 >>> ((3 : Int32) &&& 31).toUInt32).toInt32) &&& (3 : Int32))) - (1 : Int32)).toInt ∧ ((b0 + (((pick.toUInt32 >>> ((3 : Int32) &&& 31).toUInt32).toInt32) &&& (3 : Int32))) - (1 : Int32)).toInt ≤ 499 then aCLIENT else if 500 ≤ ((b0 + (((pick.toUInt32 >>> ((3 : Int32) &&& 31).toUInt32).toInt32) &&& (3 : Int32))) - (1 : Int32)).toInt ∧ ((b0 + (((pick.toUInt32 >>> ((3 : Int32) &&& 31).toUInt32).toInt32) &&& (3 : Int32))) - (1 : Int32)).toInt ≤ 599 then aSERVER else aNONE))] [(.int ((b0 + (((pick.toUInt32 >>> ((3 : Int32) &&& 31).toUInt32).toInt32) &&& (3 : Int32))) - (1 : Int32))), (.ref (if 400 ≤ ((b0 + (((pick.toUInt32 >>> ((3 : Int32) &&& 31).toUInt32).toInt32) &&& (3 : Int32))) - (1 : Int32)).toInt ∧ ((b0 + (((pick.toUInt32 >>> ((3 : Int32) &&& 31).toUInt32).toInt32) &&& (3 : Int32))) - (1 : Int32)).toInt ≤ 499 then aCLIENT else if 500 ≤ ((b0 + (((pick.toUInt32 >>> ((3 : Int32) &&& 31).toUInt32).toInt32) &&& (3 : Int32))) - (1 : Int32)).toInt ∧ ((b0 + (((pick.toUInt32 >>> ((3 : Int32) &&& 31).toUInt32).toInt32) &&& (3 : Int32))) - (1 : Int32)).toInt ≤ 599 then aSERVER else aNONE))])) rfl (by rw [hml]; rfl) (argsL := [(.int ((b0 + (((pick.toUInt32 >>> ((3 : Int32) &&& 31).toUInt32).toInt32) &&& (3 : Int32))) - (1 : Int32)))]) (rest := [(.ref (if 400 ≤ ((b0 + (((pick.toUInt32 >>> ((3 : Int32) &&& 31).toUInt32).toInt32) &&& (3 : Int32))) - (1 : Int32)).toInt ∧ ((b0 + (((pick.toUInt32 >>> ((3 : Int32) &&& 31).toUInt32).toInt32) &&& (3 : Int32))) - (1 : Int32)).toInt ≤ 499 then aCLIENT else if 500 ≤ ((b0 + (((pick.toUInt32 >>> ((3 : Int32) &&& 31).toUInt32).toInt32) &&& (3 : Int32))) - (1 : Int32)).toInt ∧ ((b0 + (((pick.toUInt32 >>> ((3 : Int32) &&& 31).toUInt32).toInt32) &&& (3 : Int32))) - (1 : Int32)).toInt ≤ 599 then aSERVER else aNONE))]) (lenOf own_pd0 rfl) rfl (by show 2 * 0 + _ ≤ _; exact Nat.le_of_eq rfl) (hb hby at_92) (fun _ _ => ⟨rfl, e44, (by decide : 1 + 0 ≤ _), (by decide : 8 + 0 ≤ _)⟩)
  dsimp only [Pt.U, Pt.locs, Pt.cells, Pt.slots] at X47 l47 y47 z47 st47 hQ47
  subst l47 y47 z47
  obtain ⟨rfl, N47q, e47⟩ := hQ47
  have N47 := Fr.app N44 N47q
  have pre48 : Goes p e below s₁ (entryFrame m #[(.int status), (.int pick)] maxLocals) T47 (mkF m 95 #[.val (.int status), .val (.int pick), .val (.ref b2), .val (.int ((b0 + (((pick.toUInt32 >>> ((3 : Int32) &&& 31).toUInt32).toInt32) &&& (3 : Int32))) - (1 : Int32))), .val (.ref (if 400 ≤ status.toInt ∧ status.toInt ≤ 499 then aCLIENT else if 500 ≤ status.toInt ∧ status.toInt ≤ 599 then aSERVER else aNONE)), .val (.ref (if 400 ≤ ((b0 + (((pick.toUInt32 >>> ((3 : Int32) &&& 31).toUInt32).toInt32) &&& (3 : Int32))) - (1 : Int32)).toInt ∧ ((b0 + (((pick.toUInt32 >>> ((3 : Int32) &&& 31).toUInt32).toInt32) &&& (3 : Int32))) - (1 : Int32)).toInt ≤ 499 then aCLIENT else if 500 ≤ ((b0 + (((pick.toUInt32 >>> ((3 : Int32) &&& 31).toUInt32).toInt32) &&& (3 : Int32))) - (1 : Int32)).toInt ∧ ((b0 + (((pick.toUInt32 >>> ((3 : Int32) &&& 31).toUInt32).toInt32) &&& (3 : Int32))) - (1 : Int32)).toInt ≤ 599 then aSERVER else aNONE))] [(.ref (if 400 ≤ ((b0 + (((pick.toUInt32 >>> ((3 : Int32) &&& 31).toUInt32).toInt32) &&& (3 : Int32))) - (1 : Int32)).toInt ∧ ((b0 + (((pick.toUInt32 >>> ((3 : Int32) &&& 31).toUInt32).toInt32) &&& (3 : Int32))) - (1 : Int32)).toInt ≤ 499 then aCLIENT else if 500 ≤ ((b0 + (((pick.toUInt32 >>> ((3 : Int32) &&& 31).toUInt32).toInt32) &&& (3 : Int32))) - (1 : Int32)).toInt ∧ ((b0 + (((pick.toUInt32 >>> ((3 : Int32) &&& 31).toUInt32).toInt32) &&& (3 : Int32))) - (1 : Int32)).toInt ≤ 599 then aSERVER else aNONE)), (.ref (if 400 ≤ ((b0 + (((pick.toUInt32 >>> ((3 : Int32) &&& 31).toUInt32).toInt32) &&& (3 : Int32))) - (1 : Int32)).toInt ∧ ((b0 + (((pick.toUInt32 >>> ((3 : Int32) &&& 31).toUInt32).toInt32) &&& (3 : Int32))) - (1 : Int32)).toInt ≤ 499 then aCLIENT else if 500 ≤ ((b0 + (((pick.toUInt32 >>> ((3 : Int32) &&& 31).toUInt32).toInt32) &&& (3 : Int32))) - (1 : Int32)).toInt ∧ ((b0 + (((pick.toUInt32 >>> ((3 : Int32) &&& 31).toUInt32).toInt32) &&& (3 : Int32))) - (1 : Int32)).toInt ≤ 599 then aSERVER else aNONE))]) := fun t kt => pre46 t (st47 t kt)
  have pre49 : Goes p e below s₁ (entryFrame m #[(.int status), (.int pick)] maxLocals) T47 (mkF m 103 #[.val (.int status), .val (.int pick), .val (.ref b2), .val (.int ((b0 + (((pick.toUInt32 >>> ((3 : Int32) &&& 31).toUInt32).toInt32) &&& (3 : Int32))) - (1 : Int32))), .val (.ref (if 400 ≤ status.toInt ∧ status.toInt ≤ 499 then aCLIENT else if 500 ≤ status.toInt ∧ status.toInt ≤ 599 then aSERVER else aNONE)), .val (.ref (if 400 ≤ ((b0 + (((pick.toUInt32 >>> ((3 : Int32) &&& 31).toUInt32).toInt32) &&& (3 : Int32))) - (1 : Int32)).toInt ∧ ((b0 + (((pick.toUInt32 >>> ((3 : Int32) &&& 31).toUInt32).toInt32) &&& (3 : Int32))) - (1 : Int32)).toInt ≤ 499 then aCLIENT else if 500 ≤ ((b0 + (((pick.toUInt32 >>> ((3 : Int32) &&& 31).toUInt32).toInt32) &&& (3 : Int32))) - (1 : Int32)).toInt ∧ ((b0 + (((pick.toUInt32 >>> ((3 : Int32) &&& 31).toUInt32).toInt32) &&& (3 : Int32))) - (1 : Int32)).toInt ≤ 599 then aSERVER else aNONE))] [(.int (1 : Int32))]) := fun t kt => pre48 t (by
      show Steps p.tables e below (T47.setTop (mkF m 95 #[.val (.int status), .val (.int pick), .val (.ref b2), .val (.int ((b0 + (((pick.toUInt32 >>> ((3 : Int32) &&& 31).toUInt32).toInt32) &&& (3 : Int32))) - (1 : Int32))), .val (.ref (if 400 ≤ status.toInt ∧ status.toInt ≤ 499 then aCLIENT else if 500 ≤ status.toInt ∧ status.toInt ≤ 599 then aSERVER else aNONE)), .val (.ref (if 400 ≤ ((b0 + (((pick.toUInt32 >>> ((3 : Int32) &&& 31).toUInt32).toInt32) &&& (3 : Int32))) - (1 : Int32)).toInt ∧ ((b0 + (((pick.toUInt32 >>> ((3 : Int32) &&& 31).toUInt32).toInt32) &&& (3 : Int32))) - (1 : Int32)).toInt ≤ 499 then aCLIENT else if 500 ≤ ((b0 + (((pick.toUInt32 >>> ((3 : Int32) &&& 31).toUInt32).toInt32) &&& (3 : Int32))) - (1 : Int32)).toInt ∧ ((b0 + (((pick.toUInt32 >>> ((3 : Int32) &&& 31).toUInt32).toInt32) &&& (3 : Int32))) - (1 : Int32)).toInt ≤ 599 then aSERVER else aNONE))] [(.ref (if 400 ≤ ((b0 + (((pick.toUInt32 >>> ((3 : Int32) &&& 31).toUInt32).toInt32) &&& (3 : Int32))) - (1 : Int32)).toInt ∧ ((b0 + (((pick.toUInt32 >>> ((3 : Int32) &&& 31).toUInt32).toInt32) &&& (3 : Int32))) - (1 : Int32)).toInt ≤ 499 then aCLIENT else if 500 ≤ ((b0 + (((pick.toUInt32 >>> ((3 : Int32) &&& 31).toUInt32).toInt32) &&& (3 : Int32))) - (1 : Int32)).toInt ∧ ((b0 + (((pick.toUInt32 >>> ((3 : Int32) &&& 31).toUInt32).toInt32) &&& (3 : Int32))) - (1 : Int32)).toInt ≤ 599 then aSERVER else aNONE)), (.ref (if 400 ≤ ((b0 + (((pick.toUInt32 >>> ((3 : Int32) &&& 31).toUInt32).toInt32) &&& (3 : Int32))) - (1 : Int32)).toInt ∧ ((b0 + (((pick.toUInt32 >>> ((3 : Int32) &&& 31).toUInt32).toInt32) &&& (3 : Int32))) - (1 : Int32)).toInt ≤ 499 then aCLIENT else if 500 ≤ ((b0 + (((pick.toUInt32 >>> ((3 : Int32) &&& 31).toUInt32).toInt32) &&& (3 : Int32))) - (1 : Int32)).toInt ∧ ((b0 + (((pick.toUInt32 >>> ((3 : Int32) &&& 31).toUInt32).toInt32) &&& (3 : Int32))) - (1 : Int32)).toInt ≤ 599 then aSERVER else aNONE))])) _
      refine Jvm.RoadKit.acmp (g := (mkF m 95 #[.val (.int status), .val (.int pick), .val (.ref b2), .val (.int ((b0 + (((pick.toUInt32 >>> ((3 : Int32) &&& 31).toUInt32).toInt32) &&& (3 : Int32))) - (1 : Int32))), .val (.ref (if 400 ≤ status.toInt ∧ status.toInt ≤ 499 then aCLIENT else if 500 ≤ status.toInt ∧ status.toInt ≤ 599 then aSERVER else aNONE)), .val (.ref (if 400 ≤ ((b0 + (((pick.toUInt32 >>> ((3 : Int32) &&& 31).toUInt32).toInt32) &&& (3 : Int32))) - (1 : Int32)).toInt ∧ ((b0 + (((pick.toUInt32 >>> ((3 : Int32) &&& 31).toUInt32).toInt32) &&& (3 : Int32))) - (1 : Int32)).toInt ≤ 499 then aCLIENT else if 500 ≤ ((b0 + (((pick.toUInt32 >>> ((3 : Int32) &&& 31).toUInt32).toInt32) &&& (3 : Int32))) - (1 : Int32)).toInt ∧ ((b0 + (((pick.toUInt32 >>> ((3 : Int32) &&& 31).toUInt32).toInt32) &&& (3 : Int32))) - (1 : Int32)).toInt ≤ 599 then aSERVER else aNONE))] [(.ref (if 400 ≤ ((b0 + (((pick.toUInt32 >>> ((3 : Int32) &&& 31).toUInt32).toInt32) &&& (3 : Int32))) - (1 : Int32)).toInt ∧ ((b0 + (((pick.toUInt32 >>> ((3 : Int32) &&& 31).toUInt32).toInt32) &&& (3 : Int32))) - (1 : Int32)).toInt ≤ 499 then aCLIENT else if 500 ≤ ((b0 + (((pick.toUInt32 >>> ((3 : Int32) &&& 31).toUInt32).toInt32) &&& (3 : Int32))) - (1 : Int32)).toInt ∧ ((b0 + (((pick.toUInt32 >>> ((3 : Int32) &&& 31).toUInt32).toInt32) &&& (3 : Int32))) - (1 : Int32)).toInt ≤ 599 then aSERVER else aNONE)), (.ref (if 400 ≤ ((b0 + (((pick.toUInt32 >>> ((3 : Int32) &&& 31).toUInt32).toInt32) &&& (3 : Int32))) - (1 : Int32)).toInt ∧ ((b0 + (((pick.toUInt32 >>> ((3 : Int32) &&& 31).toUInt32).toInt32) &&& (3 : Int32))) - (1 : Int32)).toInt ≤ 499 then aCLIENT else if 500 ≤ ((b0 + (((pick.toUInt32 >>> ((3 : Int32) &&& 31).toUInt32).toInt32) &&& (3 : Int32))) - (1 : Int32)).toInt ∧ ((b0 + (((pick.toUInt32 >>> ((3 : Int32) &&& 31).toUInt32).toInt32) &&& (3 : Int32))) - (1 : Int32)).toInt ≤ 599 then aSERVER else aNONE))])) X47 hx rfl rfl rfl (pc0 := 95) (pc' := 98) (same := true) rfl (hb hby at_95) rfl (decide_eq_true rfl) (by decide) (by decide) ?_
      show Steps p.tables e below (T47.setTop (mkF m 98 #[.val (.int status), .val (.int pick), .val (.ref b2), .val (.int ((b0 + (((pick.toUInt32 >>> ((3 : Int32) &&& 31).toUInt32).toInt32) &&& (3 : Int32))) - (1 : Int32))), .val (.ref (if 400 ≤ status.toInt ∧ status.toInt ≤ 499 then aCLIENT else if 500 ≤ status.toInt ∧ status.toInt ≤ 599 then aSERVER else aNONE)), .val (.ref (if 400 ≤ ((b0 + (((pick.toUInt32 >>> ((3 : Int32) &&& 31).toUInt32).toInt32) &&& (3 : Int32))) - (1 : Int32)).toInt ∧ ((b0 + (((pick.toUInt32 >>> ((3 : Int32) &&& 31).toUInt32).toInt32) &&& (3 : Int32))) - (1 : Int32)).toInt ≤ 499 then aCLIENT else if 500 ≤ ((b0 + (((pick.toUInt32 >>> ((3 : Int32) &&& 31).toUInt32).toInt32) &&& (3 : Int32))) - (1 : Int32)).toInt ∧ ((b0 + (((pick.toUInt32 >>> ((3 : Int32) &&& 31).toUInt32).toInt32) &&& (3 : Int32))) - (1 : Int32)).toInt ≤ 599 then aSERVER else aNONE))] [])) _
      refine XS.iconst X47.here hx rfl (hb hby at_98) ?_
      show Steps p.tables e below (T47.setTop (mkF m 99 #[.val (.int status), .val (.int pick), .val (.ref b2), .val (.int ((b0 + (((pick.toUInt32 >>> ((3 : Int32) &&& 31).toUInt32).toInt32) &&& (3 : Int32))) - (1 : Int32))), .val (.ref (if 400 ≤ status.toInt ∧ status.toInt ≤ 499 then aCLIENT else if 500 ≤ status.toInt ∧ status.toInt ≤ 599 then aSERVER else aNONE)), .val (.ref (if 400 ≤ ((b0 + (((pick.toUInt32 >>> ((3 : Int32) &&& 31).toUInt32).toInt32) &&& (3 : Int32))) - (1 : Int32)).toInt ∧ ((b0 + (((pick.toUInt32 >>> ((3 : Int32) &&& 31).toUInt32).toInt32) &&& (3 : Int32))) - (1 : Int32)).toInt ≤ 499 then aCLIENT else if 500 ≤ ((b0 + (((pick.toUInt32 >>> ((3 : Int32) &&& 31).toUInt32).toInt32) &&& (3 : Int32))) - (1 : Int32)).toInt ∧ ((b0 + (((pick.toUInt32 >>> ((3 : Int32) &&& 31).toUInt32).toInt32) &&& (3 : Int32))) - (1 : Int32)).toInt ≤ 599 then aSERVER else aNONE))] [(.int (1 : Int32))])) _
      refine XS.goto X47.here hx rfl (pc0 := 99) (pc' := 103) rfl (hb hby at_99) (by decide) (by decide) ?_
      exact kt)
  obtain ⟨fs, hr, hrun, hended, hW, hsame⟩ := X47.leave (v := some (.int (1 : Int32))) (fun h => by rw [Bd.returns] at h; cases h)
  refine ⟨_, _, pre49 _ ?_, hrun, hended, _, _, rfl, ?_, ⟨_, rfl⟩, hW, hsame.mono (by decide) (by decide)⟩
  · show Steps p.tables e below (T47.setTop (mkF m 103 #[.val (.int status), .val (.int pick), .val (.ref b2), .val (.int ((b0 + (((pick.toUInt32 >>> ((3 : Int32) &&& 31).toUInt32).toInt32) &&& (3 : Int32))) - (1 : Int32))), .val (.ref (if 400 ≤ status.toInt ∧ status.toInt ≤ 499 then aCLIENT else if 500 ≤ status.toInt ∧ status.toInt ≤ 599 then aSERVER else aNONE)), .val (.ref (if 400 ≤ ((b0 + (((pick.toUInt32 >>> ((3 : Int32) &&& 31).toUInt32).toInt32) &&& (3 : Int32))) - (1 : Int32)).toInt ∧ ((b0 + (((pick.toUInt32 >>> ((3 : Int32) &&& 31).toUInt32).toInt32) &&& (3 : Int32))) - (1 : Int32)).toInt ≤ 499 then aCLIENT else if 500 ≤ ((b0 + (((pick.toUInt32 >>> ((3 : Int32) &&& 31).toUInt32).toInt32) &&& (3 : Int32))) - (1 : Int32)).toInt ∧ ((b0 + (((pick.toUInt32 >>> ((3 : Int32) &&& 31).toUInt32).toInt32) &&& (3 : Int32))) - (1 : Int32)).toInt ≤ 599 then aSERVER else aNONE))] [(.int (1 : Int32))])) _
    exact retN X47 hx (t := .boolean) Bd.returns (by simp) (hb hby at_103) hr
  · show Q_own_rm0 Z status pick aNONE aCLIENT aSERVER h0 n0 _ T47.heap _
    rw [e47]
    exact ⟨rfl, N47⟩
set_option maxRecDepth 65536 in
set_option maxHeartbeats 40000000 in
theorem comes_1 {Post : Tables → Env → Array Value → State → Outcome → State → Prop} (hpost : ∀ tb e args s v u, (limb_1_1.after args s (.returned v) u = true ∧ limb_1_2.after args s (.returned v) u = true ∧ True) → FrameEnd s (.returned v) u (Jvm.fieldLocs frame_1_writes args s ++ Jvm.arrayLocs frame_1_arrays args s ++ Jvm.staticLocs frame_1_statics s) 16 128 → Post tb e args s (.returned v) u) :
    ArmFor flags0 classFile x code maxLocals ret World_1 tables_1 room_1 Calls_1 rest_1 Pre_1 Post := by
  intro l hfl _ _ p e ha hc hk s m args below hf hA hF happ hP
  obtain ⟨hcalls, hrest, hpre⟩ := hP
  obtain ⟨-, -, -, hnamed, -, -, -, hat⟩ := (Spec.applies_iff hf).mp happ
  obtain ⟨hg, hn⟩ := and_e (Cond.before_iff.mp (show (Jvm.Cond.and given_1 narrow_1).before args s = true from hpre))
  obtain ⟨g5, g6⟩ := and_e hg
  obtain ⟨g7, g8⟩ := and_e g6
  obtain ⟨w0, w1, rfl⟩ : ∃ w0 w1 : Value, args = #[w0, w1] := by
    have hs : args.size = 2 := by simpa [Cond.value, given_1] using g5
    obtain ⟨L⟩ := args
    match L, hs with
    | [w0, w1], _ => exact ⟨w0, w1, rfl⟩
  have hw := fun d (hd : d ∈ tables_1) => atoms_spec (ws := Jvm.Cond.code x code maxLocals ret :: tables_1) hat d (List.mem_cons_of_mem _ hd)
  have hfit : Fit s := fun {y c} hc i hi => by
    obtain ⟨ha, rfl⟩ := Array.getElem?_eq_some_iff.mp hc
    have q := List.all_eq_true.mp ((Array.all_eq_true_iff_forall_mem.mp hF) _ (Array.getElem_mem ha)) i (List.mem_range.mpr hi)
    simpa [Array.getElem?_eq_getElem hi] using q
  obtain ⟨i0, ei0⟩ := is_v g7
  obtain rfl : w0 = (.int i0) := Option.some.inj ei0
  obtain ⟨i1, ei1⟩ := is_v g8
  obtain rfl : w1 = (.int i1) := Option.some.inj ei1
  obtain ⟨q0, r0⟩ := and_e hn
  obtain ⟨q1, r1⟩ := and_e r0
  obtain ⟨aNONE, evNONE⟩ := exa_v q0
  have E_NONE := Exa.start evNONE q0
  have S_NONE := Sta.start evNONE (Or.inr ⟨(hw _ (List.mem_of_getElem? (i := 5) rfl)), (hw _ (List.mem_of_getElem? (i := 8) rfl))⟩)
  obtain ⟨aCLIENT, evCLIENT⟩ := exa_v q1
  have E_CLIENT := Exa.start evCLIENT q1
  have S_CLIENT := Sta.start evCLIENT (Or.inr ⟨(hw _ (List.mem_of_getElem? (i := 5) rfl)), (hw _ (List.mem_of_getElem? (i := 10) rfl))⟩)
  obtain ⟨aSERVER, evSERVER⟩ := exa_v r1
  have E_SERVER := Exa.start evSERVER r1
  have S_SERVER := Sta.start evSERVER (Or.inr ⟨(hw _ (List.mem_of_getElem? (i := 5) rfl)), (hw _ (List.mem_of_getElem? (i := 18) rfl))⟩)
  obtain ⟨n, o, h1, h2, h3, _, L, rfl, ⟨rfl, N⟩, hq⟩ := own_rm0 l s _ hw tables_1 i0 i1 aNONE aCLIENT aSERVER s.heap s.heap.size (Nat.le_refl _) S_NONE S_CLIENT S_SERVER p e ha hc hk s m _ below hf ((Spec.applies_iff_loose hf).mp happ).1 ⟨rfl, State.Warmed39.refl s, rfl⟩ trivial
  refine ⟨n, _, h1, h2, h3, hpost _ _ _ _ _ _ ⟨Cond.after_iff.mpr rfl, Cond.after_iff.mpr (eq_i res_at (Term.int_eval (1)) rfl), trivial⟩ ⟨hq.1, hq.2.1, (hq.2.2.sift fun y hy => Or.inr (N y hy)).mono (by decide) (by decide)⟩⟩
theorem main_1_1 : Claimed_1_1 := comes_1 fun _ _ _ _ _ _ h hF => ⟨h.1, hF⟩
theorem main_1_2 : Claimed_1_2 := comes_1 fun _ _ _ _ _ _ h hF => ⟨h.2.1, hF⟩
end Jvm.Pilot.@@N@@
namespace Jvm.Pilot.@@N@@
open Jvm Jvm.ClassFile Sem Op Lib Jvm.Free Jvm.Stand Jvm.Pilot.@@N@@.Jvm.D
/-! MADE BY PROGRAM (witnessworld.py) out of the Statement's table words and the real class files: 12 classes; the members and pool entries that the words name. The judged class is class 1, her method 2. -/
namespace start1
open Jvm.ClassFile
def u (s : String) : CpInfo := .utf8 (stringToUtf16 s)
/-- a pool by its gaps: so many unusable entries, then the entry; so many at the end -/
def gap : Nat → List CpInfo → List CpInfo
  | 0, r => r
  | n + 1, r => .unusable :: gap n r
def poolList (es : List (Nat × CpInfo)) (last : Nat) : List CpInfo := es.foldr (fun e r => gap e.1 (e.2 :: r)) (gap last [])
def pool (es : List (Nat × CpInfo)) (last : Nat) : Array CpInfo := ⟨poolList es last⟩
def fileOf (pool : Array CpInfo) (this : Nat) (attrs : Array Attribute := #[]) (ms : Array MethodInfo := #[]) (fl : Nat := 33) (sup : Nat := 0) (ifs : Array Nat := #[]) (fds : Array FieldInfo := #[]) : ClassFile where
  minorVersion := 0
  majorVersion := 65
  constantPool := pool
  accessFlags := fl
  thisClass := this
  superClass := sup
  interfaces := ifs
  fields := fds
  methods := ms
  attributes := attrs
def plain (name : String) (sup : Option ClassId) : Class where
  name := name
  kind := .ordinary
  loader := none
  accessFlags := 33
  super := sup
  interfaces := #[]
  cf := none
  fields := #[]
  methods := #[]
  instanceTypes := #[]
  staticTypes := #[]
  resolved := #[]
  callSites := []
  init := .initialized
  statics := none
  mirror := none

def pool0 : Array CpInfo := pool [(5, u "<init>"), (0, u "()V"), (1, .class_ 10), (1, u "java/lang/Object")] 113

def k0m0 : Method := { name := "<init>", desc := "()V", sig := { parameters := [], returnType := none }, accessFlags := 1, code := none }
/-- java/lang/Object -/
def k0 : Class := { plain "java/lang/Object" none with
  accessFlags := 33
  interfaces := #[]
  cf := some (fileOf pool0 8 #[] #[{ accessFlags := 1, nameIndex := 5, descriptorIndex := 6, attributes := #[] }] 33 0 #[] #[])
  fields := #[]
  methods := #[k0m0]
  instanceTypes := #[]
  staticTypes := #[]
  resolved := Array.replicate 124 none
  statics := none }

def pool1 : Array CpInfo := pool [(2, .class_ 4), (1, u "java/lang/Object"), (0, u "<init>"), (0, u "()V"), (0, .fieldref 8 9), (0, .class_ 10), (0, .nameAndType 11 12), (0, u "com/example/outcomist/outcomist/Reading$Fault"), (0, u "CLIENT"), (0, u "Lcom/example/outcomist/outcomist/Reading$Fault;"), (0, .fieldref 8 14), (0, .nameAndType 15 12), (0, u "SERVER"), (0, .fieldref 8 17), (0, .nameAndType 18 12), (0, u "NONE"), (2, .integer 2147483648), (0, .integer 2147483647), (0, .methodref 8 24), (0, .nameAndType 25 26), (0, u "of"), (0, u "(I)Lcom/example/outcomist/outcomist/Reading$Fault;"), (0, .methodref 28 29), (0, .class_ 30), (0, .nameAndType 31 26), (0, u "com/example/outcomist/outcomist/FaultOfPinLaw"), (0, u "ref"), (3, u "law"), (0, u "(II)Z")] 8

def k1m0 : Method := { name := "<init>", desc := "()V", sig := { parameters := [], returnType := none }, accessFlags := 2, code := none }
def k1c1 : Code := { maxStack := 2, maxLocals := 2, code := method_2_code, exceptionTable := #[], attributes := #[] }
def k1m1 : Method := { name := "ref", desc := "(I)Lcom/example/outcomist/outcomist/Reading$Fault;", sig := { parameters := [.int], returnType := some (.object "com/example/outcomist/outcomist/Reading$Fault") }, accessFlags := 10, code := some k1c1 }
def k1c2 : Code := { maxStack := 4, maxLocals := 6, code := code, exceptionTable := #[], attributes := #[] }
def k1m2 : Method := { name := "law", desc := "(II)Z", sig := { parameters := [.int, .int], returnType := some .boolean }, accessFlags := 9, code := some k1c2 }
/-- com/example/outcomist/outcomist/FaultOfPinLaw -/
def k1 : Class := { plain "com/example/outcomist/outcomist/FaultOfPinLaw" (some 0) with
  accessFlags := 49
  interfaces := #[]
  cf := some (fileOf pool1 28 #[] #[{ accessFlags := 2, nameIndex := 5, descriptorIndex := 6, attributes := #[] }, { accessFlags := 10, nameIndex := 31, descriptorIndex := 26, attributes := #[] }, { accessFlags := 9, nameIndex := 35, descriptorIndex := 36, attributes := #[] }] 49 2 #[] #[])
  fields := #[]
  methods := #[k1m0, k1m1, k1m2]
  instanceTypes := #[]
  staticTypes := #[]
  resolved := Array.replicate 45 none
  statics := none }

def pool2 : Array CpInfo := pool [(1, .class_ 2), (0, u "java/lang/constant/Constable"), (0, .class_ 4), (0, u "java/lang/Object")] 6

/-- java/lang/constant/Constable -/
def k2 : Class := { plain "java/lang/constant/Constable" (some 0) with
  accessFlags := 1537
  interfaces := #[]
  cf := some (fileOf pool2 1 #[] #[] 1537 3 #[] #[])
  fields := #[]
  methods := #[]
  instanceTypes := #[]
  staticTypes := #[]
  resolved := Array.replicate 11 none
  statics := none }

def pool3 : Array CpInfo := pool [(1, .class_ 2), (0, u "java/lang/Comparable"), (0, .class_ 4), (0, u "java/lang/Object")] 7

/-- java/lang/Comparable -/
def k3 : Class := { plain "java/lang/Comparable" (some 0) with
  accessFlags := 1537
  interfaces := #[]
  cf := some (fileOf pool3 1 #[] #[] 1537 3 #[] #[])
  fields := #[]
  methods := #[]
  instanceTypes := #[]
  staticTypes := #[]
  resolved := Array.replicate 12 none
  statics := none }

def pool4 : Array CpInfo := pool [(1, .class_ 2), (0, u "java/io/Serializable"), (0, .class_ 4), (0, u "java/lang/Object")] 2

/-- java/io/Serializable -/
def k4 : Class := { plain "java/io/Serializable" (some 0) with
  accessFlags := 1537
  interfaces := #[]
  cf := some (fileOf pool4 1 #[] #[] 1537 3 #[] #[])
  fields := #[]
  methods := #[]
  instanceTypes := #[]
  staticTypes := #[]
  resolved := Array.replicate 7 none
  statics := none }

def pool5 : Array CpInfo := pool [(2, .class_ 4), (1, u "java/lang/Enum"), (0, u "name"), (0, u "Ljava/lang/String;"), (2, u "ordinal"), (0, u "I"), (1, .class_ 14), (1, u "java/lang/Object"), (4, u "hash"), (86, .class_ 108), (1, u "java/lang/Enum$EnumDesc"), (2, .class_ 112), (0, u "java/lang/constant/Constable"), (0, .class_ 114), (0, u "java/lang/Comparable"), (0, .class_ 116), (0, u "java/io/Serializable")] 87

/-- java/lang/Enum -/
def k5 : Class := { plain "java/lang/Enum" (some 0) with
  accessFlags := 1057
  interfaces := #[2, 3, 4]
  cf := some (fileOf pool5 2 #[.nestMembers #[106]] #[] 1057 12 #[111, 113, 115] #[{ accessFlags := 18, nameIndex := 5, descriptorIndex := 6, attributes := #[] }, { accessFlags := 18, nameIndex := 9, descriptorIndex := 10, attributes := #[] }, { accessFlags := 2, nameIndex := 19, descriptorIndex := 10, attributes := #[] }])
  fields := #[{ name := "name", type := (.object "java/lang/String"), accessFlags := 18, slot := 0, constantValue := 0 }, { name := "ordinal", type := .int, accessFlags := 18, slot := 1, constantValue := 0 }, { name := "hash", type := .int, accessFlags := 2, slot := 2, constantValue := 0 }]
  methods := #[]
  instanceTypes := #[(.object "java/lang/String"), .int, .int]
  staticTypes := #[]
  resolved := Array.replicate 204 none
  statics := none }

def pool6 : Array CpInfo := pool [(1, .class_ 2), (0, u "com/example/outcomist/outcomist/Reading$Fault"), (0, .fieldref 1 4), (0, .nameAndType 5 6), (0, u "CLIENT"), (0, u "Lcom/example/outcomist/outcomist/Reading$Fault;"), (0, .fieldref 1 8), (0, .nameAndType 9 6), (0, u "SERVER"), (0, .fieldref 1 11), (0, .nameAndType 12 6), (0, u "NONE"), (2, u "$VALUES"), (0, u "[Lcom/example/outcomist/outcomist/Reading$Fault;"), (6, .class_ 25), (1, u "java/lang/Enum"), (8, u "key"), (0, u "Ljava/lang/String;"), (24, u "of"), (0, u "(I)Lcom/example/outcomist/outcomist/Reading$Fault;"), (7, .class_ 70), (0, u "com/example/outcomist/outcomist/Reading")] 2

def k6c0 : Code := { maxStack := 2, maxLocals := 1, code := prog_62_method_5_code, exceptionTable := #[], attributes := #[] }
def k6m0 : Method := { name := "of", desc := "(I)Lcom/example/outcomist/outcomist/Reading$Fault;", sig := { parameters := [.int], returnType := some (.object "com/example/outcomist/outcomist/Reading$Fault") }, accessFlags := 8, code := some k6c0 }
/-- com/example/outcomist/outcomist/Reading$Fault -/
def k6 : Class := { plain "com/example/outcomist/outcomist/Reading$Fault" (some 5) with
  accessFlags := 16433
  interfaces := #[]
  cf := some (fileOf pool6 1 #[.nestHost 69] #[{ accessFlags := 8, nameIndex := 60, descriptorIndex := 61, attributes := #[] }] 16433 23 #[] #[{ accessFlags := 16409, nameIndex := 5, descriptorIndex := 6, attributes := #[] }, { accessFlags := 16409, nameIndex := 9, descriptorIndex := 6, attributes := #[] }, { accessFlags := 16409, nameIndex := 12, descriptorIndex := 6, attributes := #[] }, { accessFlags := 18, nameIndex := 34, descriptorIndex := 35, attributes := #[] }, { accessFlags := 4122, nameIndex := 15, descriptorIndex := 16, attributes := #[] }])
  fields := #[{ name := "CLIENT", type := (.object "com/example/outcomist/outcomist/Reading$Fault"), accessFlags := 16409, slot := 0, constantValue := 0 }, { name := "SERVER", type := (.object "com/example/outcomist/outcomist/Reading$Fault"), accessFlags := 16409, slot := 1, constantValue := 0 }, { name := "NONE", type := (.object "com/example/outcomist/outcomist/Reading$Fault"), accessFlags := 16409, slot := 2, constantValue := 0 }, { name := "key", type := (.object "java/lang/String"), accessFlags := 18, slot := 3, constantValue := 0 }, { name := "$VALUES", type := (.array (.object "com/example/outcomist/outcomist/Reading$Fault")), accessFlags := 4122, slot := 3, constantValue := 0 }]
  methods := #[k6m0]
  instanceTypes := #[(.object "java/lang/String"), .int, .int, (.object "java/lang/String")]
  staticTypes := #[(.object "com/example/outcomist/outcomist/Reading$Fault"), (.object "com/example/outcomist/outcomist/Reading$Fault"), (.object "com/example/outcomist/outcomist/Reading$Fault"), (.array (.object "com/example/outcomist/outcomist/Reading$Fault"))]
  resolved := Array.replicate 73 none
  statics := some 0 }

def pool7 : Array CpInfo := pool [(1, u "java/lang/Cloneable"), (0, .class_ 1), (0, u "java/lang/Object"), (0, .class_ 3)] 3

/-- java/lang/Cloneable -/
def k7 : Class := { plain "java/lang/Cloneable" (some 0) with
  accessFlags := 1537
  interfaces := #[]
  cf := some (fileOf pool7 2 #[] #[] 1537 4 #[] #[])
  fields := #[]
  methods := #[]
  instanceTypes := #[]
  staticTypes := #[]
  resolved := Array.replicate 8 none
  statics := none }

/-- the primitive byte -/
def k8 : Class := { plain "byte" none with kind := .primitive 'B', accessFlags := 0x411 }
/-- [B -/
def k9 : Class := { plain "[B" (some 0) with kind := .array 8 .byte, interfaces := #[7, 4], accessFlags := 1041 }

/-- the primitive int -/
def k10 : Class := { plain "int" none with kind := .primitive 'I', accessFlags := 0x411 }
/-- [I -/
def k11 : Class := { plain "[I" (some 0) with kind := .array 10 .int, interfaces := #[7, 4], accessFlags := 1041 }

def heap : Heap := #[{ cls := 6, slots := #[.ref 2, .ref 3, .ref 1, .null], vm := .statics 6 },
  { cls := 6, slots := #[.null, .int 0, .int 0, .null], vm := .none },
  { cls := 6, slots := #[.null, .int 1, .int 0, .null], vm := .none },
  { cls := 6, slots := #[.null, .int 2, .int 0, .null], vm := .none }]
def classes : Array Class := #[k0, k1, k2, k3, k4, k5, k6, k7, k8, k9, k10, k11]
def interned : List (Array UInt16 × Addr) := []
def slotsUsed : Nat := 16
def theMethod : MethodId := ⟨1, 2⟩
def args0 : Array Value := #[.int 5, .int 9]
def aboutOver (below : List Frame) : State where
  vm := { classes := classes, interned := interned.toArray }
  heap := heap
  slotsUsed := slotsUsed
  threads := #[{ frames := .invoking theMethod args0 :: below }]
def below0 : List Frame := [.native { method := ⟨0, 0⟩, args := #[] }]
def about1 : State := aboutOver below0
def p0 : Program := .bare "" "" ""
def e0 : Env := launch0.env 0 0 0
theorem w_frames : about1.frames = Frame.invoking theMethod args0 :: below0 := rfl
set_option maxRecDepth 65536 in
theorem w_args : argsFit about1.vm theMethod args0 = true := by decide +kernel
set_option maxRecDepth 65536 in
theorem w_heap : heapFits about1 = true := by decide +kernel
set_option maxRecDepth 65536 in
theorem w_runnable : about1.curStatus? = some .runnable := by decide +kernel
set_option maxRecDepth 65536 in
theorem w_alone : about1.alone = true := by decide +kernel
set_option maxRecDepth 65536 in
theorem w_named : about1.methodNamed? x = some theMethod := by decide +kernel
set_option maxRecDepth 65536 in
theorem w_hears : about1.hears theMethod below0 = true := by decide +kernel
set_option maxRecDepth 65536 in
theorem w_ripe : about1.ripe theMethod args0 below0 = true := by decide +kernel
theorem w_running : about1.status = .running := rfl
set_option maxRecDepth 65536 in
theorem w_room : about1.hasRoom e0.platform room_1 = true :=
  launch0.hasRoom_least _ room_1 (by decide +kernel) (by decide +kernel) (by decide +kernel) (by decide +kernel) (by decide +kernel) (by decide +kernel)
theorem allAtoms_all (ts : List Jvm.Cond) (a : Array Jvm.Value) (st : Jvm.State) : (allAtoms ts).before a st = ts.all (fun c => c.before a st) := by
  induction ts with
  | nil => rfl
  | cons c t ih =>
    show (Jvm.Cond.and c (allAtoms t)).before a st = _
    rw [Jvm.Cond.before_and, ih, List.all_cons]
def words1 : List Jvm.Cond := Jvm.Cond.code x code maxLocals ret :: tables_1
/-- a 'code' word, met by the world's own term for the bytes: nothing is compared byte by byte -/
theorem code_word {y : MethodName} {bytes : ByteArray} {mx : Nat} {rt : Option FieldType} {a : Array Value} {s : State} {m : MethodId} {meth : Method} {c : Code} (h1 : s.methodNamed? y = some m) (h2 : s.vm.method? m = some meth) (h3 : meth.code = some c) (h4 : c.code = bytes)
    (h5 : (c.maxLocals == mx && c.exceptionTable.isEmpty && decide (c.maxStack ≤ mostOperands) && decide (meth.sig.returnType = rt) && !meth.locks && decide (parseMethodDescriptor y.desc = some meth.sig)) = true) : (Jvm.Cond.code y bytes mx rt).before a s = true := by
  simp only [Bool.and_eq_true, beq_iff_eq, Bool.not_eq_true', decide_eq_true_eq] at h5
  obtain ⟨⟨⟨⟨⟨g1, g2⟩, g3⟩, g4⟩, g5⟩, g6⟩ := h5
  simp [Cond.before, Cond.holds, Cond.value, h1, h2, h3, h4, g1, g2, g3, g4, g5, g6]
def isCode : Jvm.Cond → Bool
  | .code _ _ _ _ => true
  | _ => false
theorem all_split {L : List Jvm.Cond} {P : Jvm.Cond → Bool} (h1 : L.all (fun c => isCode c || P c) = true) (h2 : ∀ c ∈ L.filter isCode, P c = true) : L.all P = true := by
  refine List.all_eq_true.mpr fun c hc => ?_
  have h := List.all_eq_true.mp h1 c hc
  rcases Bool.eq_false_or_eq_true (isCode c) with hi | hi
  · exact h2 c (List.mem_filter.mpr ⟨hc, hi⟩)
  · simpa [hi] using h
set_option maxRecDepth 65536 in
theorem w_c0 : (Jvm.Cond.code x code maxLocals ret).before args0 about1 = true := code_word (m := ⟨1, 2⟩) (meth := k1m2) (c := k1c2) (by decide +kernel) rfl rfl rfl (by decide +kernel)
set_option maxRecDepth 65536 in
theorem w_c1 : (Jvm.Cond.code ({ cls := "com/example/outcomist/outcomist/Reading$Fault", name := "of", desc := "(I)Lcom/example/outcomist/outcomist/Reading$Fault;" } : Jvm.MethodName) prog_62_method_5_code (1 : Nat) (Option.some (Jvm.ClassFile.FieldType.object "com/example/outcomist/outcomist/Reading$Fault"))).before args0 about1 = true := code_word (m := ⟨6, 0⟩) (meth := k6m0) (c := k6c0) (by decide +kernel) rfl rfl rfl (by decide +kernel)
set_option maxRecDepth 65536 in
theorem w_c2 : (Jvm.Cond.code ({ cls := "com/example/outcomist/outcomist/FaultOfPinLaw", name := "ref", desc := "(I)Lcom/example/outcomist/outcomist/Reading$Fault;" } : Jvm.MethodName) method_2_code (2 : Nat) (Option.some (Jvm.ClassFile.FieldType.object "com/example/outcomist/outcomist/Reading$Fault"))).before args0 about1 = true := code_word (m := ⟨1, 1⟩) (meth := k1m1) (c := k1c1) (by decide +kernel) rfl rfl rfl (by decide +kernel)
def codes1 : List Jvm.Cond := [Jvm.Cond.code x code maxLocals ret, Jvm.Cond.code ({ cls := "com/example/outcomist/outcomist/Reading$Fault", name := "of", desc := "(I)Lcom/example/outcomist/outcomist/Reading$Fault;" } : Jvm.MethodName) prog_62_method_5_code (1 : Nat) (Option.some (Jvm.ClassFile.FieldType.object "com/example/outcomist/outcomist/Reading$Fault")), Jvm.Cond.code ({ cls := "com/example/outcomist/outcomist/FaultOfPinLaw", name := "ref", desc := "(I)Lcom/example/outcomist/outcomist/Reading$Fault;" } : Jvm.MethodName) method_2_code (2 : Nat) (Option.some (Jvm.ClassFile.FieldType.object "com/example/outcomist/outcomist/Reading$Fault"))]
set_option maxRecDepth 65536 in
theorem codes_eq : words1.filter isCode = codes1 := rfl
theorem w_codes : ∀ c ∈ words1.filter isCode, c.before args0 about1 = true := by
  rw [codes_eq]
  intro c hc
  simp only [codes1, List.mem_cons, List.not_mem_nil, or_false] at hc
  rcases hc with rfl | rfl | rfl
  · exact w_c0
  · exact w_c1
  · exact w_c2
set_option maxRecDepth 65536 in
theorem w_t1 : words1.all (fun c => isCode c || c.before args0 about1) = true := by decide +kernel
theorem w_tables : (allAtoms (Jvm.Cond.code x code maxLocals ret :: tables_1)).before args0 about1 = true := by
  rw [allAtoms_all]
  show words1.all (fun c => c.before args0 about1) = true
  refine all_split ?_ w_codes
  rw [w_t1]
set_option maxRecDepth 65536 in
theorem w_case : (Jvm.Cond.and given_1 narrow_1).before args0 about1 = true := by decide +kernel
theorem w_applies : (headSpec (Jvm.Cond.code x code maxLocals ret :: tables_1) room_1).applies x e0.platform about1 = true :=
  (Spec.applies_iff w_frames).mpr ⟨w_running, w_runnable, w_alone, w_named, w_hears, w_ripe, w_room, w_tables⟩
theorem atStart : AtStart classFile x code maxLocals ret World_1 tables_1 room_1 Calls_1 rest_1 Pre_1 launch0 p0 e0 about1 theMethod args0 below0 :=
  ⟨lists_1, trivial, launch0.admits_env _ _ _, launch0.least_env, fairChoices_fair.cas, fairChoices_fair.clock, w_frames, w_args, w_heap, w_applies, trivial, trivial, w_case⟩
end start1
theorem witness_1 : WitnessClaimed_1 := ⟨start1.p0, start1.e0, start1.about1, start1.theMethod, start1.args0, start1.below0, start1.atStart⟩
end Jvm.Pilot.@@N@@
