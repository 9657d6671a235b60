import JvmDerived
import JvmDerived.Pilot.@@N@@Statement
import JvmDerived.Pilot.@@N@@Code
set_option linter.unusedVariables false
set_option linter.unusedSimpArgs false
namespace Jvm.RoadKit
open Sem ClassFile Op Lib Jvm.Stand Jvm.Free Jvm.LawKit
section New
variable {p : Program} {l : Launch} {e : Env} {R : Room} {s : State} {m : MethodId} {args : Array Value} {below : List Frame} {meth : Method} {c : Code} {T : State} {locs : List Loc} {cells slots : Nat}
theorem retI (X : Stand p l e R s m args below meth c T locs cells slots) (hx : p.tables.exec = Jvm.exec) {pc : Nat} {Ls : Array Slot} {z : Int32} {rest : List Value} (hret : meth.sig.returnType = some .int) (hd : decode c.code pc = .ok (.ireturn, 1)) {fs : List Frame}
    (hl : ∀ (f : JFrame) (acts : List Action), f.method = m → f.locked = none → f.entered = [] → (doReturn e (T.setTop f) acts (some (.int z))).1 = T.setFrames fs) : Steps p.tables e below (T.setTop (mkF m pc Ls (.int z :: rest))) (T.setFrames fs) := by
  have hm' : T.vm.method? m = some meth := X.method'
  have hn : narrow .int (.int z) = .int z := rfl
  show Steps p.tables e below (T.setTop { method := m, pc := pc, locals := Ls, stack := _ :: rest, locked := none }) _
  jvm_step X.here [X.here.top, hx, hd, hm', hret, hn]
  first | (intro acts; rw [hl _ acts rfl rfl rfl]) | rw [hl _ _ rfl rfl rfl]
  exact Steps.refl _
end New
end Jvm.RoadKit
namespace Jvm.Pilot.@@N@@
section
open Jvm.FP.Core
theorem own_settle {s : Bool} {m : Nat} {q : Int} (hm : m ≤ 2 ^ 53) (hq : b64.qmin ≤ q) (hq2 : q < b64.qmax) : ∃ c q', settle b64 s m q = .fin s c q' ∧ b64.qmin ≤ q' ∧ inUnits c q' b64.qmin = inUnits m q b64.qmin := by
  unfold settle bound
  have hp : b64.p = 53 := rfl
  split
  · rw [if_pos (by omega)]; exact ⟨m, q, rfl, hq, rfl⟩
  · rename_i h
    have hm' : m = 2 ^ 53 := by rw [hp] at h; omega
    rw [if_pos (by omega)]
    refine ⟨_, _, rfl, by omega, ?_⟩
    subst hm'
    have ht : b64.tails = 2 ^ 52 := rfl
    unfold inUnits
    rw [ht, show (q + 1 - b64.qmin).toNat = (q - b64.qmin).toNat + 1 by omega, ← Nat.pow_add, ← Nat.pow_add, show 52 + ((q - b64.qmin).toNat + 1) = 53 + (q - b64.qmin).toNat by omega]
theorem own_lin {x y w : Nat} (h1 : 2 * y ≤ 2 * x + w) (h2 : 2 * x ≤ 2 * y + w) (h3 : ¬ y < 2 ^ 52 * w) : x * 2 ^ 53 ≤ y * 2 ^ 53 + y ∧ y * 2 ^ 53 ≤ x * 2 ^ 53 + y := by omega
theorem own_rr {A B : Nat} (hA : 0 < A) (hB : 0 < B) (e : Int) (he : b64.qmin ≤ e) (hlo : b64.qmin < quantum b64 A B e) (hhi : quantum b64 A B e < b64.qmax) (s : Bool) :
    ∃ c q, roundRatio b64 s A B e = .fin s c q ∧ b64.qmin ≤ q ∧ inUnits c q b64.qmin * B * 2 ^ 53 ≤ A * 2 ^ (e - b64.qmin).toNat * 2 ^ 53 + A * 2 ^ (e - b64.qmin).toNat ∧ A * 2 ^ (e - b64.qmin).toNat * 2 ^ 53 ≤ inUnits c q b64.qmin * B * 2 ^ 53 + A * 2 ^ (e - b64.qmin).toNat := by
  have hnb := (quantum_not_below (f := b64) hA hB e).resolve_left (by omega)
  have hle := nearest_units_le (f := b64) hA hB e
  unfold roundRatio
  rw [if_neg (by omega)]
  unfold roundAt
  generalize hQ : quantum b64 A B e = Q at *
  obtain ⟨c, q, h1, h2, h3⟩ := own_settle (s := s) (show nearest (unitsNum A e Q) (unitsDen B e Q) ≤ 2 ^ 53 from hle) (by omega) hhi
  refine ⟨c, q, h1, h2, ?_⟩
  rw [h3]
  have hp : ((b64.p : Int) - 1) = ((52 : Nat) : Int) := by decide
  rw [hp, ← units_below] at hnb
  obtain ⟨n1, n2, -⟩ := nearest_spec (unitsNum A e Q) (unitsDen B e Q) (unitsDen_pos hB e Q)
  generalize nearest (unitsNum A e Q) (unitsDen B e Q) = n at *
  obtain ⟨a, ha⟩ : ∃ a : Nat, Q = b64.qmin + a := ⟨(Q - b64.qmin).toNat, by omega⟩
  obtain ⟨b, hb⟩ : ∃ b : Nat, e = b64.qmin + b := ⟨(e - b64.qmin).toNat, by omega⟩
  unfold unitsNum unitsDen at hnb n1 n2
  unfold inUnits
  rw [show (e - b64.qmin).toNat = b by omega, show (Q - b64.qmin).toNat = a by omega]
  rw [show (e - Q).toNat = b - a by omega, show (Q - e).toNat = a - b by omega] at hnb n1 n2
  rcases Nat.le_total a b with hab | hab
  · obtain ⟨d, rfl⟩ := Nat.exists_eq_add_of_le hab
    rw [show a + d - a = d by omega, show a - (a + d) = 0 by omega, Nat.pow_zero, Nat.mul_one] at hnb n1 n2
    rw [Nat.pow_add]
    have e1 : n * 2 ^ a * B = (n * B) * 2 ^ a := Nat.mul_right_comm _ _ _
    have e2 : A * (2 ^ a * 2 ^ d) = (A * 2 ^ d) * 2 ^ a := by rw [Nat.mul_comm (2 ^ a), Nat.mul_assoc]
    rw [e1, e2]
    have n2' : 2 * (n * B) ≤ 2 * (A * 2 ^ d) + B := by rw [← Nat.mul_assoc]; exact n2
    have n1' : 2 * (A * 2 ^ d) ≤ 2 * (n * B) + B := by rw [Nat.add_mul, Nat.one_mul, Nat.mul_assoc] at n1; exact n1
    clear n1 n2
    generalize n * B = x at n1' n2' ⊢
    generalize A * 2 ^ d = y at n1' n2' hnb ⊢
    obtain ⟨k1, k2⟩ := own_lin n1' n2' hnb
    constructor
    · calc x * 2 ^ a * 2 ^ 53 = (x * 2 ^ 53) * 2 ^ a := Nat.mul_right_comm _ _ _
        _ ≤ (y * 2 ^ 53 + y) * 2 ^ a := Nat.mul_le_mul_right _ k1
        _ = y * 2 ^ a * 2 ^ 53 + y * 2 ^ a := by rw [Nat.add_mul, Nat.mul_right_comm]
    · calc y * 2 ^ a * 2 ^ 53 = (y * 2 ^ 53) * 2 ^ a := Nat.mul_right_comm _ _ _
        _ ≤ (x * 2 ^ 53 + y) * 2 ^ a := Nat.mul_le_mul_right _ k2
        _ = x * 2 ^ a * 2 ^ 53 + y * 2 ^ a := by rw [Nat.add_mul, Nat.mul_right_comm]
  · obtain ⟨d, rfl⟩ := Nat.exists_eq_add_of_le hab
    rw [show b + d - b = d by omega, show b - (b + d) = 0 by omega, Nat.pow_zero, Nat.mul_one] at hnb n1 n2
    rw [Nat.pow_add]
    have e1 : n * (2 ^ b * 2 ^ d) * B = (n * (B * 2 ^ d)) * 2 ^ b := by
      rw [Nat.mul_comm (2 ^ b), ← Nat.mul_assoc n, Nat.mul_right_comm, Nat.mul_right_comm n, Nat.mul_assoc n]
    rw [e1]
    have n2' : 2 * (n * (B * 2 ^ d)) ≤ 2 * A + B * 2 ^ d := by rw [← Nat.mul_assoc]; exact n2
    have n1' : 2 * A ≤ 2 * (n * (B * 2 ^ d)) + B * 2 ^ d := by rw [Nat.add_mul, Nat.one_mul, Nat.mul_assoc] at n1; exact n1
    clear n1 n2
    generalize n * (B * 2 ^ d) = x at n1' n2' ⊢
    generalize B * 2 ^ d = w at n1' n2' hnb
    obtain ⟨k1, k2⟩ := own_lin n1' n2' hnb
    constructor
    · calc x * 2 ^ b * 2 ^ 53 = (x * 2 ^ 53) * 2 ^ b := Nat.mul_right_comm _ _ _
        _ ≤ (A * 2 ^ 53 + A) * 2 ^ b := Nat.mul_le_mul_right _ k1
        _ = A * 2 ^ b * 2 ^ 53 + A * 2 ^ b := by rw [Nat.add_mul, Nat.mul_right_comm]
    · calc A * 2 ^ b * 2 ^ 53 = (A * 2 ^ 53) * 2 ^ b := Nat.mul_right_comm _ _ _
        _ ≤ (x * 2 ^ 53 + A) * 2 ^ b := Nat.mul_le_mul_right _ k2
        _ = x * 2 ^ b * 2 ^ 53 + A * 2 ^ b := by rw [Nat.add_mul, Nat.mul_right_comm]
theorem own_qle {A B : Nat} {e : Int} {k : Nat} (hA : 0 < A) (hB : 0 < B) (he : b64.qmin ≤ e + k - 53) (h : Below A B k) : quantum b64 A B e ≤ e + k - 53 := by
  have l := lt_of_below (leading_spec hA hB).1 h
  have hp : ((b64.p : Int) - 1) = 52 := by decide
  unfold quantum
  rw [hp]; omega
theorem own_qge {A B : Nat} {e : Int} {k : Int} (hA : 0 < A) (hB : 0 < B) (h : ¬ Below A B k) : e + k - 52 ≤ quantum b64 A B e := by
  have l := lt_of_below h (leading_spec hA hB).2
  have hp : ((b64.p : Int) - 1) = 52 := by decide
  unfold quantum
  rw [hp]; omega
theorem own_ex {A : Nat} (hA : 0 < A) (h53 : A < 2 ^ 53) (e : Int) (he : b64.qmin ≤ e) (hhi : e < b64.qmax) (s : Bool) :
    ∃ c q, roundRatio b64 s A 1 e = .fin s c q ∧ b64.qmin ≤ q ∧ inUnits c q b64.qmin = A * 2 ^ (e - b64.qmin).toNat := by
  have hb : Below A 1 ((53 : Nat) : Int) := by
    unfold Below
    rw [show (-((53 : Nat) : Int)).toNat = 0 by decide, show (((53 : Nat) : Int)).toNat = 53 by decide, Nat.pow_zero, Nat.mul_one, Nat.one_mul]; exact h53
  have hq := own_qle (e := e) hA (by decide) (by omega) hb
  have hg := quantum_ge b64 A 1 e
  have hle := nearest_units_le (f := b64) hA (show 0 < 1 by decide) e
  unfold roundRatio
  rw [if_neg (by omega)]
  unfold roundAt
  generalize hQ : quantum b64 A 1 e = Q at *
  obtain ⟨c, q, h1, h2, h3⟩ := own_settle (s := s) (show nearest (unitsNum A e Q) (unitsDen 1 e Q) ≤ 2 ^ 53 from hle) hg (by omega)
  refine ⟨c, q, h1, h2, ?_⟩
  rw [h3]
  have hd : unitsDen 1 e Q = 1 := by unfold unitsDen; rw [show (Q - e).toNat = 0 by omega]
  have hn : nearest (unitsNum A e Q) (unitsDen 1 e Q) = unitsNum A e Q := by
    rw [hd]; have z := nearest_exact (B := 1) (unitsNum A e Q) (by decide); rw [Nat.mul_one] at z; exact z
  rw [hn]
  unfold inUnits unitsNum
  rw [Nat.mul_assoc, ← Nat.pow_add, show (e - Q).toNat + (Q - b64.qmin).toNat = (e - b64.qmin).toNat by omega]
theorem own_cong {c0 c m n a0 a U : Nat} (hU : 0 < U) (h0 : c0 * 2 ^ a0 = m * U) (h1 : c * 2 ^ a = n * U) : c0 * n * 2 ^ ((a0 : Int) - (a : Int) - 0).toNat = m * c * 2 ^ (0 - ((a0 : Int) - (a : Int))).toNat := by
  rcases Nat.le_total a a0 with h | h
  · obtain ⟨d, rfl⟩ := Nat.exists_eq_add_of_le h
    rw [show (((a + d : Nat) : Int) - (a : Int) - 0).toNat = d by omega, show (0 - (((a + d : Nat) : Int) - (a : Int))).toNat = 0 by omega, Nat.pow_zero, Nat.mul_one]
    rw [Nat.pow_add] at h0
    have hp : 0 < 2 ^ a * U := Nat.mul_pos (Nat.two_pow_pos _) hU
    refine Nat.eq_of_mul_eq_mul_right hp ?_
    calc c0 * n * 2 ^ d * (2 ^ a * U) = (c0 * (2 ^ a * 2 ^ d)) * (n * U) := by ac_rfl
      _ = (m * U) * (c * 2 ^ a) := by rw [h0, h1]
      _ = m * c * (2 ^ a * U) := by ac_rfl
  · obtain ⟨d, rfl⟩ := Nat.exists_eq_add_of_le h
    rw [show ((a0 : Int) - ((a0 + d : Nat) : Int) - 0).toNat = 0 by omega, show (0 - ((a0 : Int) - ((a0 + d : Nat) : Int))).toNat = d by omega, Nat.pow_zero, Nat.mul_one]
    rw [Nat.pow_add] at h1
    have hp : 0 < 2 ^ a0 * U := Nat.mul_pos (Nat.two_pow_pos _) hU
    refine Nat.eq_of_mul_eq_mul_right hp ?_
    calc c0 * n * (2 ^ a0 * U) = (c0 * 2 ^ a0) * (n * U) := by ac_rfl
      _ = (m * U) * (c * (2 ^ a0 * 2 ^ d)) := by rw [h0, h1]
      _ = m * c * 2 ^ d * (2 ^ a0 * U) := by ac_rfl
theorem own_l2d (i : Int64) (h : i.toInt.natAbs < 2 ^ 53) : ∃ c q, val64 (l2d i) = .fin (decide (i.toInt < 0)) c q ∧ b64.qmin ≤ q ∧ inUnits c q b64.qmin = i.toInt.natAbs * 2 ^ (0 - b64.qmin).toNat := by
  rw [val64_l2d]
  unfold round ofInt
  simp only
  by_cases h0 : i.toInt.natAbs = 0
  · unfold roundRatio
    rw [if_pos h0]
    exact ⟨0, _, rfl, Int.le_refl _, by rw [h0]; unfold inUnits; rw [Nat.zero_mul, Nat.zero_mul]⟩
  · exact own_ex (by omega) h 0 (by decide) (by decide) _
theorem own_quot {x y : UInt64} {c0 c m n U : Nat} {q0 q : Int} (hx : val64 x = .fin false c0 q0) (hy : val64 y = .fin false c q) (hq0 : b64.qmin ≤ q0) (hq : b64.qmin ≤ q) (hU : 0 < U) (hu0 : inUnits c0 q0 b64.qmin = m * U) (hu : inUnits c q b64.qmin = n * U) (hn : 0 < n) : val64 (ddiv x y) = roundRatio b64 false m n 0 := by
  rw [val64_ddiv, hx, hy]
  obtain ⟨a0, rfl⟩ : ∃ a : Nat, q0 = b64.qmin + a := ⟨(q0 - b64.qmin).toNat, by omega⟩
  obtain ⟨a, rfl⟩ : ∃ a : Nat, q = b64.qmin + a := ⟨(q - b64.qmin).toNat, by omega⟩
  unfold inUnits at hu0 hu
  rw [show (b64.qmin + (a0 : Int) - b64.qmin).toNat = a0 by omega] at hu0
  rw [show (b64.qmin + (a : Int) - b64.qmin).toNat = a by omega] at hu
  have hc : 0 < c := by
    rcases Nat.eq_zero_or_pos c with h | h
    · rw [h, Nat.zero_mul] at hu
      have := Nat.mul_pos hn hU
      omega
    · exact h
  unfold quotient
  simp only
  rw [if_neg (by omega)]
  refine roundRatio_congr hc hn ?_
  rw [show b64.qmin + (a0 : Int) - (b64.qmin + (a : Int)) = (a0 : Int) - (a : Int) by omega]
  exact own_cong hU hu0 hu
theorem own_prod {x y : UInt64} {c0 c m : Nat} {q0 q : Int} (hx : val64 x = .fin false c0 q0) (hy : val64 y = .fin false c q) (hq0 : b64.qmin ≤ q0) (hq : b64.qmin ≤ q) (hu0 : inUnits c0 q0 b64.qmin = m * 2 ^ (0 - b64.qmin).toNat) : val64 (dmul x y) = roundRatio b64 false (m * inUnits c q b64.qmin) 1 b64.qmin := by
  rw [val64_dmul, hx, hy]
  obtain ⟨a0, rfl⟩ : ∃ a : Nat, q0 = b64.qmin + a := ⟨(q0 - b64.qmin).toNat, by omega⟩
  obtain ⟨a, rfl⟩ : ∃ a : Nat, q = b64.qmin + a := ⟨(q - b64.qmin).toNat, by omega⟩
  unfold inUnits at hu0
  unfold inUnits
  rw [show (b64.qmin + (a0 : Int) - b64.qmin).toNat = a0 by omega] at hu0
  rw [show (b64.qmin + (a : Int) - b64.qmin).toNat = a by omega]
  unfold exactProduct round
  simp only
  refine roundRatio_congr (by decide) (by decide) ?_
  rw [Nat.mul_one, Nat.mul_one]
  obtain ⟨w, hw⟩ : ∃ w : Nat, (0 - b64.qmin) = (w : Int) := ⟨1074, by decide⟩
  rw [hw, show ((w : Int)).toNat = w by omega] at hu0
  rcases Nat.le_total w (a0 + a) with h | h
  · obtain ⟨d, hd⟩ := Nat.exists_eq_add_of_le h
    rw [show (b64.qmin + (a0 : Int) + (b64.qmin + (a : Int)) - b64.qmin).toNat = d by omega, show (b64.qmin - (b64.qmin + (a0 : Int) + (b64.qmin + (a : Int)))).toNat = 0 by omega, Nat.pow_zero, Nat.mul_one]
    refine Nat.eq_of_mul_eq_mul_right (Nat.two_pow_pos w) ?_
    calc c0 * c * 2 ^ d * 2 ^ w = c0 * c * (2 ^ w * 2 ^ d) := by ac_rfl
      _ = c0 * c * (2 ^ a0 * 2 ^ a) := by rw [← Nat.pow_add, ← hd, Nat.pow_add]
      _ = (c0 * 2 ^ a0) * (c * 2 ^ a) := by ac_rfl
      _ = (m * 2 ^ w) * (c * 2 ^ a) := by rw [hu0]
      _ = m * (c * 2 ^ a) * 2 ^ w := by ac_rfl
  · obtain ⟨d, hd⟩ := Nat.exists_eq_add_of_le h
    rw [show (b64.qmin + (a0 : Int) + (b64.qmin + (a : Int)) - b64.qmin).toNat = 0 by omega, show (b64.qmin - (b64.qmin + (a0 : Int) + (b64.qmin + (a : Int)))).toNat = d by omega, Nat.pow_zero, Nat.mul_one]
    refine Nat.eq_of_mul_eq_mul_right (Nat.two_pow_pos a0) ?_
    calc c0 * c * 2 ^ a0 = (c0 * 2 ^ a0) * c := by ac_rfl
      _ = (m * 2 ^ w) * c := by rw [hu0]
      _ = (m * (2 ^ a0 * 2 ^ a * 2 ^ d)) * c := by rw [← Nat.pow_add, ← Nat.pow_add, ← hd]
      _ = m * (c * 2 ^ a) * 2 ^ d * 2 ^ a0 := by ac_rfl
def own_c9 : UInt64 := 4741671816366391296
theorem own_v9 : val64 own_c9 = .fin false 8388608000000000 (-23) := by decide +kernel
theorem own_u9 : inUnits 8388608000000000 (-23) b64.qmin = 1000000000 * 2 ^ (0 - b64.qmin).toNat := by decide +kernel
theorem own_below {A B k : Nat} (h : A < B * 2 ^ k) : Below A B (k : Int) := by
  unfold Below
  rw [show (-(k : Int)).toNat = 0 by omega, show ((k : Int)).toNat = k by omega, Nat.pow_zero, Nat.mul_one]; exact h
theorem own_nbelow {A B k : Nat} (h : B * 2 ^ k ≤ A) : ¬ Below A B (k : Int) := by
  unfold Below
  rw [show (-(k : Int)).toNat = 0 by omega, show ((k : Int)).toNat = k by omega, Nat.pow_zero, Nat.mul_one]; omega
theorem own_dv (r : Int64) (h1 : 1 ≤ r.toInt) (h2 : r.toInt < 1048576) : ∃ c q, val64 (ddiv own_c9 (l2d r)) = .fin false c q ∧ b64.qmin ≤ q ∧ (inUnits c q b64.qmin * r.toInt.natAbs * 2 ^ 53 ≤ 1000000000 * 2 ^ (0 - b64.qmin).toNat * 2 ^ 53 + 1000000000 * 2 ^ (0 - b64.qmin).toNat ∧ 1000000000 * 2 ^ (0 - b64.qmin).toNat * 2 ^ 53 ≤ inUnits c q b64.qmin * r.toInt.natAbs * 2 ^ 53 + 1000000000 * 2 ^ (0 - b64.qmin).toNat) ∧ ∀ k : Nat, 1000000000 = k * r.toInt.natAbs → inUnits c q b64.qmin = k * 2 ^ (0 - b64.qmin).toNat := by
  obtain ⟨c, q, e1, e2, e3⟩ := own_l2d r (by omega)
  rw [show decide (r.toInt < 0) = false from decide_eq_false (by omega)] at e1
  have hn : 0 < r.toInt.natAbs := by omega
  have hn2 : r.toInt.natAbs < 1048576 := by omega
  have E := own_quot own_v9 e1 (by decide) e2 (Nat.two_pow_pos _) own_u9 e3 hn
  rw [E]
  generalize r.toInt.natAbs = n at *
  have q1 := own_qge (A := 1000000000) (B := n) (e := 0) (by decide) hn (own_nbelow (k := 9) (by omega))
  have q2 := own_qle (A := 1000000000) (B := n) (e := 0) (k := 30) (by decide) hn (by decide) (own_below (by omega))
  have m1 : b64.qmin = -1074 := by decide
  have m2 : b64.qmax = 971 := by decide
  obtain ⟨c', q', r1, r2, r3, r4⟩ := own_rr (A := 1000000000) (B := n) (by decide) hn 0 (by decide) (by omega) (by omega) false
  refine ⟨c', q', r1, r2, ⟨r3, r4⟩, fun k hk => ?_⟩
  have hk0 : 0 < k := by
    rcases Nat.eq_zero_or_pos k with h | h
    · rw [h, Nat.zero_mul] at hk; omega
    · exact h
  have hk1 : k ≤ 1000000000 := by rw [hk]; exact Nat.le_mul_of_pos_right _ hn
  have cg : roundRatio b64 false 1000000000 n 0 = roundRatio b64 false k 1 0 := roundRatio_congr hn (by decide) (by rw [hk, Nat.mul_one])
  obtain ⟨c2, q2', s1, s2, s3⟩ := own_ex (A := k) hk0 (by omega) 0 (by decide) (by decide) false
  rw [cg, s1] at r1
  injection r1 with _ g1 g2
  rw [← g1, ← g2]; exact s3
theorem own_mu {s : Int64} {y : UInt64} {c : Nat} {q : Int} (h1 : 1 ≤ s.toInt) (h2 : s.toInt < 1048576) (hy : val64 y = .fin false c q) (hq : b64.qmin ≤ q) (lo : 2 ^ 53 ≤ inUnits c q b64.qmin) (hi : inUnits c q b64.qmin < 2 ^ 1110) : ∃ c' q', val64 (dmul (l2d s) y) = .fin false c' q' ∧ b64.qmin ≤ q' ∧ (inUnits c' q' b64.qmin * 2 ^ 53 ≤ s.toInt.natAbs * inUnits c q b64.qmin * 2 ^ 53 + s.toInt.natAbs * inUnits c q b64.qmin ∧ s.toInt.natAbs * inUnits c q b64.qmin * 2 ^ 53 ≤ inUnits c' q' b64.qmin * 2 ^ 53 + s.toInt.natAbs * inUnits c q b64.qmin) := by
  obtain ⟨c0, q0, e1, e2, e3⟩ := own_l2d s (by omega)
  rw [show decide (s.toInt < 0) = false from decide_eq_false (by omega)] at e1
  have hn : 1 ≤ s.toInt.natAbs := by omega
  have hn2 : s.toInt.natAbs ≤ 2 ^ 20 := by omega
  have E := own_prod e1 hy e2 hq e3
  rw [E]
  generalize s.toInt.natAbs = n at *
  generalize inUnits c q b64.qmin = z at *
  have g1 : 1 * 2 ^ 53 ≤ n * z := Nat.mul_le_mul hn lo
  have g2 : n * z < 1 * 2 ^ 1130 := by
    calc n * z ≤ 2 ^ 20 * z := Nat.mul_le_mul_right _ hn2
      _ < 2 ^ 20 * 2 ^ 1110 := Nat.mul_lt_mul_of_pos_left hi (Nat.two_pow_pos _)
      _ = 1 * 2 ^ 1130 := by rw [← Nat.pow_add, Nat.one_mul]
  have hp : 0 < n * z := Nat.lt_of_lt_of_le (by decide) g1
  have q1 := own_qge (A := n * z) (B := 1) (e := b64.qmin) hp (by decide) (own_nbelow (k := 53) g1)
  have q2 := own_qle (A := n * z) (B := 1) (e := b64.qmin) (k := 1130) hp (by decide) (by decide) (own_below g2)
  have m1 : b64.qmin = -1074 := by decide
  have m2 : b64.qmax = 971 := by decide
  obtain ⟨c', q', r1, r2, r3, r4⟩ := own_rr (A := n * z) (B := 1) hp (by decide) b64.qmin (Int.le_refl _) (by omega) (by omega) false
  rw [show (b64.qmin - b64.qmin).toNat = 0 by omega, Nat.pow_zero, Nat.mul_one, Nat.mul_one] at r3 r4
  exact ⟨c', q', r1, r2, r3, r4⟩
theorem own_n1 {b U Xn : Nat} (hb : b ≤ 1048575000000000 * U) (h : Xn * 2 ^ 53 ≤ b * 2 ^ 53 + b) : 8 * Xn ≤ 8 * b + U := by omega
theorem own_n2 {b U Xn zn : Nat} (hb : b ≤ 1048575000000000 * U) (h1 : 8 * Xn ≤ 8 * b + U) (h : zn * 2 ^ 53 ≤ Xn * 2 ^ 53 + Xn) : zn ≤ b + U := by omega
theorem own_n3 {b U Xn : Nat} (hb : b ≤ 1048575000000000 * U) (h : b * 2 ^ 53 ≤ Xn * 2 ^ 53 + b) : 8 * b ≤ 8 * Xn + U := by omega
theorem own_n4 {b U Xn zn : Nat} (hb : b ≤ 1048575000000000 * U) (h0 : 8 * Xn ≤ 8 * b + U) (h1 : 8 * b ≤ 8 * Xn + U) (h : Xn * 2 ^ 53 ≤ zn * 2 ^ 53 + Xn) : 2 * b ≤ 2 * zn + U := by omega
theorem own_mulA {z n s K Y : Nat} (h : z * n * K ≤ Y * K + Y) : s * z * n * K ≤ s * Y * K + s * Y := by
  have g := Nat.mul_le_mul_left s h
  rw [Nat.mul_add] at g
  have e1 : s * (z * n * K) = s * z * n * K := by ac_rfl
  have e2 : s * (Y * K) = s * Y * K := by ac_rfl
  rw [e1, e2] at g; exact g
theorem own_mulB {z n s K Y : Nat} (h : Y * K ≤ z * n * K + Y) : s * Y * K ≤ s * z * n * K + s * Y := by
  have g := Nat.mul_le_mul_left s h
  rw [Nat.mul_add] at g
  have e1 : s * (z * n * K) = s * z * n * K := by ac_rfl
  have e2 : s * (Y * K) = s * Y * K := by ac_rfl
  rw [e1, e2] at g; exact g
theorem own_mulC {z x n K : Nat} (h : z * K ≤ x * K + x) : z * n * K ≤ x * n * K + x * n := by
  have g := Nat.mul_le_mul_right n h
  rw [Nat.add_mul, Nat.mul_right_comm z, Nat.mul_right_comm x] at g; exact g
theorem own_mulD {z x n K : Nat} (h : x * K ≤ z * K + x) : x * n * K ≤ z * n * K + x * n := by
  have g := Nat.mul_le_mul_right n h
  rw [Nat.add_mul, Nat.mul_right_comm z, Nat.mul_right_comm x] at g; exact g
theorem own_bU {s U : Nat} (hs : s < 1048576) : s * (1000000000 * U) ≤ 1048575000000000 * U := by
  calc s * (1000000000 * U) ≤ 1048575 * (1000000000 * U) := Nat.mul_le_mul_right _ (by omega)
    _ = 1048575000000000 * U := by rw [← Nat.mul_assoc]
theorem own_up {U n s z1 z2 D : Nat} (a1 : z1 * n * 2 ^ 53 ≤ 1000000000 * U * 2 ^ 53 + 1000000000 * U) (b1 : z2 * 2 ^ 53 ≤ s * z1 * 2 ^ 53 + s * z1) (hn : 1 ≤ n) (hs : s < 1048576) (hd : s * 1000000000 + n ≤ D * n) : z2 ≤ D * U := by
  have k := own_n2 (own_bU hs) (own_n1 (own_bU (U := U) hs) (own_mulA (s := s) a1)) (own_mulC (n := n) b1)
  have k2 : s * (1000000000 * U) + U ≤ D * n * U := by
    calc s * (1000000000 * U) + U ≤ s * 1000000000 * U + n * U := by rw [Nat.mul_assoc]; exact Nat.add_le_add_left (Nat.le_mul_of_pos_left _ hn) _
      _ = (s * 1000000000 + n) * U := by rw [Nat.add_mul]
      _ ≤ D * n * U := Nat.mul_le_mul_right _ hd
  have k3 : z2 * n ≤ D * U * n := by rw [Nat.mul_right_comm D]; exact Nat.le_trans k k2
  exact Nat.le_of_mul_le_mul_right k3 hn
theorem own_dn {U n s z1 z2 D : Nat} (hU : 0 < U) (a1 : z1 * n * 2 ^ 53 ≤ 1000000000 * U * 2 ^ 53 + 1000000000 * U) (a2 : 1000000000 * U * 2 ^ 53 ≤ z1 * n * 2 ^ 53 + 1000000000 * U) (b2 : s * z1 * 2 ^ 53 ≤ z2 * 2 ^ 53 + s * z1) (hn : 1 ≤ n) (hs : s < 1048576) (hd : D * n + n ≤ s * 1000000000) : D * U < z2 := by
  have k := own_n4 (own_bU hs) (own_n1 (own_bU (U := U) hs) (own_mulA (s := s) a1)) (own_n3 (own_bU (U := U) hs) (own_mulB (s := s) a2)) (own_mulD (n := n) b2)
  have k2 : D * n * U + U ≤ s * (1000000000 * U) := by
    calc D * n * U + U ≤ D * n * U + n * U := Nat.add_le_add_left (Nat.le_mul_of_pos_left _ hn) _
      _ = (D * n + n) * U := by rw [Nat.add_mul]
      _ ≤ s * 1000000000 * U := Nat.mul_le_mul_right _ hd
      _ = s * (1000000000 * U) := by rw [Nat.mul_assoc]
  have k3 : D * U * n < z2 * n := by rw [Nat.mul_right_comm D]; omega
  exact Nat.lt_of_mul_lt_mul_right k3
theorem own_zl (i : Int64) (h : i.toInt.natAbs < 2 ^ 53) : val64 (l2d i) ≠ .nan ∧ zval b64 (val64 (l2d i)) = i.toInt * ((2 ^ (0 - b64.qmin).toNat : Nat) : Int) := by
  obtain ⟨c, q, e1, e2, e3⟩ := own_l2d i h
  rw [e1]
  refine ⟨nofun, ?_⟩
  show signed (decide (i.toInt < 0)) (inUnits c q b64.qmin) = _
  rw [e3]
  generalize 2 ^ (0 - b64.qmin).toNat = U
  unfold signed
  by_cases hi : i.toInt < 0
  · rw [if_pos (by simpa using hi), Int.natCast_mul, ← Int.neg_mul, show -((i.toInt.natAbs : Nat) : Int) = i.toInt by omega]
  · rw [if_neg (by simpa using hi), Int.natCast_mul, show ((i.toInt.natAbs : Nat) : Int) = i.toInt by omega]
theorem own_U : 2 ^ (0 - b64.qmin).toNat = 2 ^ 1074 := by rw [show (0 - b64.qmin).toNat = 1074 by decide]
theorem own_U53 : 2 ^ 53 ≤ 2 ^ (0 - b64.qmin).toNat := by rw [own_U]; exact Nat.pow_le_pow_right (by decide) (by decide)
theorem own_lo {U n z1 : Nat} (hU : 0 < U) (hn : n < 1048576) (a2 : 1000000000 * U * 2 ^ 53 ≤ z1 * n * 2 ^ 53 + 1000000000 * U) : U ≤ z1 := by
  rcases Nat.lt_or_ge z1 U with h | h
  · have g : z1 * n ≤ U * 1048576 := Nat.mul_le_mul (by omega) (by omega)
    generalize z1 * n = a at *
    omega
  · exact h
theorem own_hi {U n z1 : Nat} (hn : 1 ≤ n) (a1 : z1 * n * 2 ^ 53 ≤ 1000000000 * U * 2 ^ 53 + 1000000000 * U) : z1 ≤ 2000000000 * U := by
  have g : z1 ≤ z1 * n := Nat.le_mul_of_pos_right _ hn
  generalize z1 * n = a at *
  omega
theorem own_hi2 {z1 : Nat} (h : z1 ≤ 2000000000 * 2 ^ (0 - b64.qmin).toNat) : z1 < 2 ^ 1110 := by
  rw [own_U] at h
  calc z1 ≤ 2000000000 * 2 ^ 1074 := h
    _ < 2 ^ 31 * 2 ^ 1074 := Nat.mul_lt_mul_of_pos_right (by decide) (Nat.two_pow_pos _)
    _ = 2 ^ 1105 := by rw [← Nat.pow_add]
    _ ≤ 2 ^ 1110 := Nat.pow_le_pow_right (by decide) (by decide)
/-- the product is zero -/
theorem own_pz {s : Int64} {y : UInt64} {c : Nat} {q : Int} (h1 : 0 ≤ s.toInt) (h2 : s.toInt < 1048576) (hy : val64 y = .fin false c q) (hq : b64.qmin ≤ q) (hz : s.toInt.natAbs * inUnits c q b64.qmin = 0) : val64 (dmul (l2d s) y) = .fin false 0 b64.qmin := by
  obtain ⟨c0, q0, e1, e2, e3⟩ := own_l2d s (by omega)
  rw [show decide (s.toInt < 0) = false from decide_eq_false (by omega)] at e1
  rw [own_prod e1 hy e2 hq e3, hz]
  unfold roundRatio
  rw [if_pos rfl]
theorem own_z0 : zval b64 (.fin false 0 b64.qmin) = 0 := by decide
theorem own_zf (c : Nat) (q : Int) : zval b64 (.fin false c q) = (inUnits c q b64.qmin : Int) := by
  show signed false (inUnits c q b64.qmin) = _
  unfold signed
  rw [if_neg (by decide)]
/-- due -/
def own_D (d s : Int64) (iv : UInt64) : Prop := zval b64 (val64 (dmul (l2d s) iv)) ≤ zval b64 (val64 (l2d d))
theorem own_U0 : (0 : Int) < ((2 ^ (0 - b64.qmin).toNat : Nat) : Int) := Int.natCast_pos.mpr (Nat.two_pow_pos _)
theorem own_Dz {d s : Int64} {iv : UInt64} (hd : d.toInt.natAbs < 2 ^ 53) (h : val64 (dmul (l2d s) iv) = .fin false 0 b64.qmin) : own_D d s iv ↔ 0 ≤ d.toInt := by
  unfold own_D
  rw [h, own_z0, (own_zl d hd).2]
  have hU := own_U0
  generalize ((2 ^ (0 - b64.qmin).toNat : Nat) : Int) = U at *
  constructor
  · intro g
    rcases Int.lt_or_le d.toInt 0 with k | k
    · have := Int.mul_neg_of_neg_of_pos k hU; omega
    · exact k
  · intro g; exact Int.mul_nonneg g (Int.le_of_lt hU)
theorem own_v0 : val64 0 = .fin false 0 b64.qmin := by decide +kernel
theorem own_P0 {d s : Int64} (h1 : 0 ≤ s.toInt) (h2 : s.toInt < 1048576) (hd : d.toInt.natAbs < 2 ^ 53) : own_D d s 0 ↔ 0 ≤ d.toInt :=
  own_Dz hd (own_pz h1 h2 own_v0 (Int.le_refl _) (by unfold inUnits; rw [Nat.zero_mul, Nat.mul_zero]))
theorem own_inj {s s' : Bool} {c c' : Nat} {q q' : Int} (h : Datum.fin s c q = .fin s' c' q') : c = c' ∧ q = q' := by
  injection h with _ h1 h2
  exact ⟨h1, h2⟩
/-- the product of what is not zero -/
theorem own_two {r s : Int64} (r1 : 1 ≤ r.toInt) (r2 : r.toInt < 1048576) (s1 : 0 ≤ s.toInt) (s2 : s.toInt < 1048576) : ∃ U z1 z2 : Nat, 0 < U ∧ (∀ d : Int64, d.toInt.natAbs < 2 ^ 53 → zval b64 (val64 (l2d d)) = d.toInt * (U : Int)) ∧ ((∃ c q, val64 (ddiv own_c9 (l2d r)) = .fin false c q) ∧ ∃ c q, val64 (dmul (l2d s) (ddiv own_c9 (l2d r))) = .fin false c q ∧ inUnits c q b64.qmin = z2) ∧ (z1 * r.toInt.natAbs * 2 ^ 53 ≤ 1000000000 * U * 2 ^ 53 + 1000000000 * U ∧ 1000000000 * U * 2 ^ 53 ≤ z1 * r.toInt.natAbs * 2 ^ 53 + 1000000000 * U) ∧ (z2 * 2 ^ 53 ≤ s.toInt.natAbs * z1 * 2 ^ 53 + s.toInt.natAbs * z1 ∧ s.toInt.natAbs * z1 * 2 ^ 53 ≤ z2 * 2 ^ 53 + s.toInt.natAbs * z1) ∧ ∀ k : Nat, 1000000000 = k * r.toInt.natAbs → z2 = s.toInt.natAbs * k * U := by
  have hn0 : r.toInt.natAbs < 1048576 := by omega
  have hn : 0 < r.toInt.natAbs := by omega
  have hs : s.toInt.natAbs ≤ 1048576 := by omega
  have hs53 : s.toInt.natAbs < 2 ^ 53 := by omega
  have hsd : ¬ s.toInt < 0 := by omega
  have hsz : s.toInt = 0 → s.toInt.natAbs = 0 := by omega
  have hsp : ¬ s.toInt = 0 → 1 ≤ s.toInt := by omega
  have hs0 : ¬ s.toInt = 0 → 0 < s.toInt.natAbs := by omega
  obtain ⟨c, q, e1, e2, ⟨e3, e4⟩, e5⟩ := own_dv r r1 r2
  have lo := own_lo (Nat.two_pow_pos _) hn0 e4
  have hi := own_hi2 (own_hi hn e3)
  have lo2 := Nat.le_trans own_U53 lo
  by_cases h0 : s.toInt = 0
  · have hz := own_pz (s := s) s1 s2 e1 e2 (by rw [hsz h0, Nat.zero_mul])
    have hin : inUnits 0 b64.qmin b64.qmin = 0 := by unfold inUnits; rw [Nat.zero_mul]
    refine ⟨2 ^ (0 - b64.qmin).toNat, _, 0, Nat.two_pow_pos _, fun d h => (own_zl d h).2, ⟨⟨c, q, e1⟩, 0, _, hz, hin⟩, ⟨e3, e4⟩, ?_, fun k _ => ?_⟩
    · rw [hsz h0, Nat.zero_mul, Nat.zero_mul]; exact ⟨Nat.le_refl _, Nat.le_refl _⟩
    · rw [hsz h0, Nat.zero_mul, Nat.zero_mul]
  · obtain ⟨c', q', f1, f2, f3, f4⟩ := own_mu (s := s) (hsp h0) s2 e1 e2 lo2 hi
    refine ⟨2 ^ (0 - b64.qmin).toNat, _, _, Nat.two_pow_pos _, fun d h => (own_zl d h).2, ⟨⟨c, q, e1⟩, c', q', f1, rfl⟩, ⟨e3, e4⟩, ⟨f3, f4⟩, fun k hk => ?_⟩
    have hz := e5 k hk
    obtain ⟨c0, q0, g1, g2, g3⟩ := own_l2d s hs53
    rw [show decide (s.toInt < 0) = false from decide_eq_false hsd] at g1
    have E := own_prod g1 e1 g2 e2 g3
    rw [f1, hz] at E
    have hs0 := hs0 h0
    clear e3 e4 e5 lo hi lo2 f3 f4 g3 hz
    generalize r.toInt.natAbs = n at *
    generalize s.toInt.natAbs = m at *
    have hk0 : 0 < k := by
      rcases Nat.eq_zero_or_pos k with h | h
      · rw [h, Nat.zero_mul] at hk; exact absurd hk (by decide)
      · exact h
    have hk1 : k ≤ 1000000000 := by rw [hk]; exact Nat.le_mul_of_pos_right _ hn
    have hmk : m * k ≤ 1048576 * 1000000000 := Nat.mul_le_mul hs hk1
    have hmk2 : m * k < 2 ^ 53 := Nat.lt_of_le_of_lt hmk (by decide)
    have cg : roundRatio b64 false (m * (k * 2 ^ (0 - b64.qmin).toNat)) 1 b64.qmin = roundRatio b64 false (m * k) 1 0 := roundRatio_congr (by decide) (by decide) (by
      rw [show (b64.qmin - 0).toNat = 0 by decide, Nat.pow_zero, Nat.mul_one, Nat.mul_one, Nat.mul_one, Nat.mul_assoc])
    obtain ⟨c2, q2', t1, t2, t3⟩ := own_ex (A := m * k) (Nat.mul_pos hs0 hk0) hmk2 0 (by decide) (by decide) false
    rw [cg, t1] at E
    obtain ⟨y1, y2⟩ := own_inj E
    rw [← y1, ← y2] at t3; exact t3
theorem own_c1 {K n : Nat} (h : (1000000000 : Int) = (K : Int) * (n : Int)) : 1000000000 = K * n := by omega
theorem own_c2 {m n D : Nat} (h : (m : Int) * 1000000000 + (n : Int) ≤ (D : Int) * (n : Int)) : m * 1000000000 + n ≤ D * n := by omega
theorem own_c3 {m n D : Nat} (h : (D : Int) * (n : Int) + (n : Int) ≤ (m : Int) * 1000000000) : D * n + n ≤ m * 1000000000 := by omega
theorem own_c4 {n : Nat} (h : 1 ≤ (n : Int)) : 1 ≤ n := by omega
theorem own_c5 {n : Nat} (h : (n : Int) < 1048576) : n < 1048576 := by omega
theorem own_nn {r s : Int64} (r1 : 1 ≤ r.toInt) (r2 : r.toInt < 1048576) (s1 : 0 ≤ s.toInt) (s2 : s.toInt < 1048576) : val64 (ddiv own_c9 (l2d r)) ≠ .nan ∧ val64 (dmul (l2d s) (ddiv own_c9 (l2d r))) ≠ .nan := by
  obtain ⟨U, z1, z2, -, -, ⟨⟨c, q, e1⟩, c', q', e2, -⟩, -⟩ := own_two r1 r2 s1 s2
  rw [e1, e2]; exact ⟨nofun, nofun⟩
theorem own_PE {r s d : Int64} (r1 : 1 ≤ r.toInt) (r2 : r.toInt < 1048576) (s1 : 0 ≤ s.toInt) (s2 : s.toInt < 1048576) (hd : d.toInt.natAbs < 2 ^ 53) {k : Int} (hk : 1000000000 = k * r.toInt) : own_D d s (ddiv own_c9 (l2d r)) ↔ s.toInt * k ≤ d.toInt := by
  obtain ⟨U, z1, z2, u1, u2, ⟨-, c, q, e1, e2⟩, -, -, e3⟩ := own_two r1 r2 s1 s2
  have hk0 : 0 ≤ k := by
    rcases Int.lt_or_le k 0 with h | h
    · have := Int.mul_neg_of_neg_of_pos h (show 0 < r.toInt by omega); omega
    · exact h
  obtain ⟨K, rfl⟩ := Int.eq_ofNat_of_zero_le hk0
  obtain ⟨m, hm⟩ := Int.eq_ofNat_of_zero_le s1
  obtain ⟨n, hn⟩ := Int.eq_ofNat_of_zero_le (show 0 ≤ r.toInt by omega)
  rw [hn] at hk
  have e4 := e3 K (by rw [hn, Int.natAbs_natCast]; exact own_c1 hk)
  have u3 : (0 : Int) < (U : Int) := Int.natCast_pos.mpr u1
  unfold own_D
  rw [e1, own_zf, e2, e4, u2 d hd, hm, Int.natAbs_natCast, Int.natCast_mul, Int.natCast_mul]
  exact ⟨fun g => Int.le_of_mul_le_mul_right g u3, fun g => Int.mul_le_mul_of_nonneg_right g (Int.le_of_lt u3)⟩
theorem own_PU {r s d : Int64} (r1 : 1 ≤ r.toInt) (r2 : r.toInt < 1048576) (s1 : 0 ≤ s.toInt) (s2 : s.toInt < 1048576) (hd : d.toInt.natAbs < 2 ^ 53) (h : s.toInt * 1000000000 + r.toInt ≤ d.toInt * r.toInt) : own_D d s (ddiv own_c9 (l2d r)) := by
  obtain ⟨U, z1, z2, u1, u2, ⟨-, c, q, e1, e2⟩, ⟨a1, a2⟩, ⟨b1, b2⟩, -⟩ := own_two r1 r2 s1 s2
  have hd0 : 0 ≤ d.toInt := by
    clear a1 a2 b1 b2
    rcases Int.lt_or_le d.toInt 0 with g | g
    · have := Int.mul_neg_of_neg_of_pos g (show 0 < r.toInt by omega); omega
    · exact g
  obtain ⟨m, hm⟩ := Int.eq_ofNat_of_zero_le s1
  obtain ⟨n, hn⟩ := Int.eq_ofNat_of_zero_le (show 0 ≤ r.toInt by omega)
  obtain ⟨D, hD⟩ := Int.eq_ofNat_of_zero_le hd0
  rw [hm, hn, hD] at h
  rw [hn, Int.natAbs_natCast] at a1
  rw [hm, Int.natAbs_natCast] at b1
  rw [hn] at r1; rw [hm] at s2
  have k := own_up (D := D) a1 b1 (own_c4 r1) (own_c5 s2) (own_c2 h)
  unfold own_D
  rw [e1, own_zf, e2, u2 d hd, hD]
  exact_mod_cast k
theorem own_PD {r s d : Int64} (r1 : 1 ≤ r.toInt) (r2 : r.toInt < 1048576) (s1 : 0 ≤ s.toInt) (s2 : s.toInt < 1048576) (hd : d.toInt.natAbs < 2 ^ 53) (h : d.toInt * r.toInt + r.toInt ≤ s.toInt * 1000000000) : ¬ own_D d s (ddiv own_c9 (l2d r)) := by
  obtain ⟨U, z1, z2, u1, u2, ⟨-, c, q, e1, e2⟩, ⟨a1, a2⟩, ⟨b1, b2⟩, -⟩ := own_two r1 r2 s1 s2
  have u3 : (0 : Int) < (U : Int) := Int.natCast_pos.mpr u1
  unfold own_D
  rw [e1, own_zf, e2, u2 d hd]
  rcases Int.lt_or_le d.toInt 0 with g | g
  · have := Int.mul_neg_of_neg_of_pos g u3
    clear a1 a2 b1 b2
    omega
  obtain ⟨m, hm⟩ := Int.eq_ofNat_of_zero_le s1
  obtain ⟨n, hn⟩ := Int.eq_ofNat_of_zero_le (show 0 ≤ r.toInt by omega)
  obtain ⟨D, hD⟩ := Int.eq_ofNat_of_zero_le g
  rw [hm, hn, hD] at h
  rw [hn, Int.natAbs_natCast] at a1 a2
  rw [hm, Int.natAbs_natCast] at b2
  rw [hn] at r1; rw [hm] at s2
  have k := own_dn (D := D) u1 a1 a2 b2 (own_c4 r1) (own_c5 s2) (own_c3 h)
  rw [hD]
  intro w
  have w' : z2 ≤ D * U := by exact_mod_cast w
  exact Nat.lt_irrefl _ (Nat.lt_of_lt_of_le k w')
theorem own_n0 {s : Int64} (h1 : 0 ≤ s.toInt) (h2 : s.toInt < 1048576) : val64 (dmul (l2d s) 0) ≠ .nan := by
  rw [own_pz h1 h2 own_v0 (Int.le_refl _) (by unfold inUnits; rw [Nat.zero_mul, Nat.mul_zero])]; exact nofun
end
end Jvm.Pilot.@@N@@
namespace Jvm.Pilot.@@N@@
open Jvm Jvm.ClassFile Sem Op Lib Jvm.Free Jvm.Stand Jvm.LawKit Jvm.RoadKit Bundle Jvm.Pilot.@@N@@.Jvm.D
theorem own_lt {x y : Int64} : lcmpW x y < (0 : Int32) ↔ x.toInt < y.toInt := by
  have h := c_lcmp x y
  rw [Int32.lt_iff_toInt_lt, show (0 : Int32).toInt = 0 by decide]
  constructor <;> intro g <;> omega
theorem own_gt {x y : Int64} : (0 : Int32) < lcmpW x y ↔ y.toInt < x.toInt := by
  have h := c_lcmp x y
  rw [Int32.lt_iff_toInt_lt, show (0 : Int32).toInt = 0 by decide]
  constructor <;> intro g <;> omega
theorem own_eqz {x y : Int64} : lcmpW x y = (0 : Int32) ↔ x.toInt = y.toInt := by
  have h := c_lcmp x y
  rw [← Int32.toInt_inj, show (0 : Int32).toInt = 0 by decide]
  constructor <;> intro g <;> omega
theorem own_l0 : (0 : Int64).toInt = 0 := by decide
theorem own_nz {r : Int64} (h : ¬ lcmpW r (0 : Int64) = (0 : Int32)) : r ≠ 0 := fun q => h (own_eqz.mpr (by rw [q]))
theorem own_r1 {r : Int64} (h0 : 0 ≤ r.toInt) (h : ¬ lcmpW r (0 : Int64) = (0 : Int32)) : 1 ≤ r.toInt := by
  rw [own_eqz, own_l0] at h; omega
theorem own_ge0 {r : Int64} (h0 : 0 ≤ r.toInt) : ¬ (lcmpW r (0 : Int64)) < (0 : Int32) := by
  rw [own_lt, own_l0]; omega
theorem own_msk (x : Int32) : 0 ≤ ((x &&& (1048575 : Int32)).toInt64).toInt ∧ ((x &&& (1048575 : Int32)).toInt64).toInt < 1048576 := by
  have h := c_mask x (1048575 : Int32) 20 (by decide) (by decide)
  have h2 := c_i2l (x &&& (1048575 : Int32))
  omega
theorem own_16 (x : Int32) : (x &&& (15 : Int32)) = (0 : Int32) ∨ (x &&& (15 : Int32)) = (1 : Int32) ∨ (x &&& (15 : Int32)) = (2 : Int32) ∨ (x &&& (15 : Int32)) = (3 : Int32) ∨ (x &&& (15 : Int32)) = (4 : Int32) ∨ (x &&& (15 : Int32)) = (5 : Int32) ∨ (x &&& (15 : Int32)) = (6 : Int32) ∨ (x &&& (15 : Int32)) = (7 : Int32) ∨ (x &&& (15 : Int32)) = (8 : Int32) ∨ (x &&& (15 : Int32)) = (9 : Int32) ∨ (x &&& (15 : Int32)) = (10 : Int32) ∨ (x &&& (15 : Int32)) = (11 : Int32) ∨ (x &&& (15 : Int32)) = (12 : Int32) ∨ (x &&& (15 : Int32)) = (13 : Int32) ∨ (x &&& (15 : Int32)) = (14 : Int32) ∨ (x &&& (15 : Int32)) = (15 : Int32) := by
  have h := c_mask x (15 : Int32) 4 (by decide) (by decide)
  generalize x &&& (15 : Int32) = y at *
  simp only [← Int32.toInt_inj, show (0 : Int32).toInt = 0 by decide, show (1 : Int32).toInt = 1 by decide, show (2 : Int32).toInt = 2 by decide, show (3 : Int32).toInt = 3 by decide, show (4 : Int32).toInt = 4 by decide, show (5 : Int32).toInt = 5 by decide, show (6 : Int32).toInt = 6 by decide, show (7 : Int32).toInt = 7 by decide, show (8 : Int32).toInt = 8 by decide, show (9 : Int32).toInt = 9 by decide, show (10 : Int32).toInt = 10 by decide, show (11 : Int32).toInt = 11 by decide, show (12 : Int32).toInt = 12 by decide, show (13 : Int32).toInt = 13 by decide, show (14 : Int32).toInt = 14 by decide, show (15 : Int32).toInt = 15 by decide]
  omega
theorem own_sn {s : Int64} (h : 0 ≤ s.toInt ∧ s.toInt < 1048576) : (s * (1000000000 : Int64)).toInt = s.toInt * 1000000000 := by
  have g := c_lmul s (1000000000 : Int64)
  rw [show (1000000000 : Int64).toInt = 1000000000 by decide] at g
  have g2 := rng64 (s * (1000000000 : Int64))
  omega
theorem own_sr {s r : Int64} (h : 0 ≤ s.toInt ∧ s.toInt < 1048576) (hr : 1 ≤ r.toInt ∧ r.toInt < 1048576) : (s * (1000000000 : Int64) + r - (1 : Int64)).toInt = s.toInt * 1000000000 + r.toInt - 1 := by
  have g := own_sn h
  have g2 := c_ladd (s * (1000000000 : Int64)) r
  have g3 := c_lsub (s * (1000000000 : Int64) + r) (1 : Int64)
  rw [show (1 : Int64).toInt = 1 by decide] at g3
  have g4 := rng64 (s * (1000000000 : Int64) + r)
  have g5 := rng64 (s * (1000000000 : Int64) + r - (1 : Int64))
  omega
theorem own_rm {r : Int64} (hr : 1 ≤ r.toInt) : r ≠ -1 := fun q => by rw [q, show (-1 : Int64).toInt = -1 by decide] at hr; omega
theorem own_flr {s r : Int64} (h : 0 ≤ s.toInt ∧ s.toInt < 1048576) (hr : 1 ≤ r.toInt ∧ r.toInt < 1048576) : 0 ≤ (s * (1000000000 : Int64) / r).toInt ∧ (s * (1000000000 : Int64) / r).toInt ≤ 1048575000000000 ∧ (s * (1000000000 : Int64) / r).toInt * r.toInt ≤ s.toInt * 1000000000 := by
  have g := (c_ldiv (s * (1000000000 : Int64)) r _ rfl (own_rm hr.1)).1 (by rw [own_sn h]; omega)
  rw [g, own_sn h]
  have e1 := Int.ediv_nonneg (show 0 ≤ s.toInt * 1000000000 by omega) (show 0 ≤ r.toInt by omega)
  have e2 := Int.ediv_le_self (b := r.toInt) (show 0 ≤ s.toInt * 1000000000 by omega)
  have e3 := Int.ediv_mul_le (s.toInt * 1000000000) (show r.toInt ≠ 0 by omega)
  exact ⟨e1, by omega, e3⟩
theorem own_cel {s r : Int64} (h : 0 ≤ s.toInt ∧ s.toInt < 1048576) (hr : 1 ≤ r.toInt ∧ r.toInt < 1048576) : (0 ≤ ((s * (1000000000 : Int64) + r - (1 : Int64)) / r).toInt ∧ ((s * (1000000000 : Int64) + r - (1 : Int64)) / r).toInt ≤ 1048576000000000) ∧ s.toInt * 1000000000 ≤ ((s * (1000000000 : Int64) + r - (1 : Int64)) / r).toInt * r.toInt ∧ ((s * (1000000000 : Int64) + r - (1 : Int64)) / r).toInt * r.toInt < s.toInt * 1000000000 + r.toInt := by
  have g := (c_ldiv (s * (1000000000 : Int64) + r - (1 : Int64)) r _ rfl (own_rm hr.1)).1 (by rw [own_sr h hr]; omega)
  rw [g, own_sr h hr]
  have e1 := Int.ediv_nonneg (show 0 ≤ s.toInt * 1000000000 + r.toInt - 1 by omega) (show 0 ≤ r.toInt by omega)
  have e2 := Int.ediv_le_self (b := r.toInt) (show 0 ≤ s.toInt * 1000000000 + r.toInt - 1 by omega)
  have e3 := Int.ediv_mul_le (s.toInt * 1000000000 + r.toInt - 1) (show r.toInt ≠ 0 by omega)
  have e4 := Int.lt_ediv_add_one_mul_self (s.toInt * 1000000000 + r.toInt - 1) (show 0 < r.toInt by omega)
  rw [Int.add_mul, Int.one_mul] at e4
  exact ⟨⟨e1, by omega⟩, by omega, by omega⟩
theorem own_d1 {C x : Int64} (h : 0 ≤ C.toInt ∧ C.toInt ≤ 1048576000000000) : (C - (4 : Int64) + (x &&& (7 : Int64))).toInt.natAbs < 2 ^ 53 := by
  have g1 := c_lsub C (4 : Int64)
  rw [show (4 : Int64).toInt = 4 by decide] at g1
  have g2 := c_maskL x (7 : Int64) 3 (by decide) (by decide)
  have g3 := c_ladd (C - (4 : Int64)) (x &&& (7 : Int64))
  have g4 := rng64 (C - (4 : Int64))
  have g5 := rng64 (C - (4 : Int64) + (x &&& (7 : Int64)))
  omega
theorem own_d0 (x : Int64) : ((-4 : Int64) + (x &&& (7 : Int64))).toInt.natAbs < 2 ^ 53 := by
  have g2 := c_maskL x (7 : Int64) 3 (by decide) (by decide)
  have g3 := c_ladd (-4 : Int64) (x &&& (7 : Int64))
  rw [show (-4 : Int64).toInt = -4 by decide] at g3
  have g5 := rng64 ((-4 : Int64) + (x &&& (7 : Int64)))
  omega
theorem own_d2 (x : Int64) : (x >>> ((11 : Int32) &&& 0x3f).toInt64).toInt.natAbs < 2 ^ 53 := by
  have g := c_lshr x (11 : Int32) 11 (by decide)
  have g2 := rng64 x
  omega
theorem own_bk (x y : Int64) : x + y - x = y := by rw [Int64.add_comm, Int64.add_sub_cancel]
theorem own_k0 {d s : Int64} (h : 0 ≤ s.toInt ∧ s.toInt < 1048576) (hd : d.toInt.natAbs < 2 ^ 53) (hD : own_D d s 0) (g : lcmpW d (0 : Int64) < (0 : Int32)) : False := by
  rw [own_lt, own_l0] at g
  have := (own_P0 h.1 h.2 hd).mp hD
  omega
theorem own_k0' {d s : Int64} (h : 0 ≤ s.toInt ∧ s.toInt < 1048576) (hd : d.toInt.natAbs < 2 ^ 53) (hD : ¬ own_D d s 0) (g : ¬ lcmpW d (0 : Int64) < (0 : Int32)) : False := by
  rw [own_lt, own_l0] at g
  exact hD ((own_P0 h.1 h.2 hd).mpr (by omega))
theorem own_kk {S K C R : Int} (hR : 1 ≤ R) (hk : 1000000000 = K * R) (h1 : S * 1000000000 ≤ C * R) (h2 : C * R < S * 1000000000 + R) : C = S * K := by
  have e : S * 1000000000 = S * K * R := by rw [hk, Int.mul_assoc]
  rw [e] at h1 h2
  have g1 := Int.le_of_mul_le_mul_right h1 (show 0 < R by omega)
  have g2 : C * R < (S * K + 1) * R := by rw [Int.add_mul, Int.one_mul]; exact h2
  have g3 := Int.lt_of_mul_lt_mul_right g2 (show 0 ≤ R by omega)
  omega
theorem own_kx {r : Int64} (hr : 1 ≤ r.toInt ∧ r.toInt < 1048576) (g : lcmpW ((1000000000 : Int64) - ((1000000000 : Int64) / r) * r) (0 : Int64) = (0 : Int32)) : 1000000000 = (1000000000 / r.toInt) * r.toInt := by
  rw [own_eqz, own_l0] at g
  have q := (c_lrem (1000000000 : Int64) r _ rfl).1 (by decide)
  rw [g, show (1000000000 : Int64).toInt = 1000000000 by decide] at q
  exact (Int.ediv_mul_cancel_of_emod_eq_zero q.symm).symm
theorem own_kE {r d s : Int64} (h : 0 ≤ s.toInt ∧ s.toInt < 1048576) (hr : 1 ≤ r.toInt ∧ r.toInt < 1048576) (hd : d.toInt.natAbs < 2 ^ 53) (x : lcmpW ((1000000000 : Int64) - ((1000000000 : Int64) / r) * r) (0 : Int64) = (0 : Int32)) (hD : own_D d s (FP.ddiv (4741671816366391296 : UInt64) (FP.l2d r))) (g : lcmpW d ((s * (1000000000 : Int64) + r - (1 : Int64)) / r) < (0 : Int32)) : False := by
  have k := own_kx hr x
  obtain ⟨-, c1, c2⟩ := own_cel h hr
  rw [own_lt] at g
  have q := (own_PE hr.1 hr.2 h.1 h.2 hd k).mp hD
  have e := own_kk hr.1 k c1 c2
  omega
theorem own_kE' {r d s : Int64} (h : 0 ≤ s.toInt ∧ s.toInt < 1048576) (hr : 1 ≤ r.toInt ∧ r.toInt < 1048576) (hd : d.toInt.natAbs < 2 ^ 53) (x : lcmpW ((1000000000 : Int64) - ((1000000000 : Int64) / r) * r) (0 : Int64) = (0 : Int32)) (hD : ¬ own_D d s (FP.ddiv (4741671816366391296 : UInt64) (FP.l2d r))) (g : ¬ lcmpW d ((s * (1000000000 : Int64) + r - (1 : Int64)) / r) < (0 : Int32)) : False := by
  have k := own_kx hr x
  obtain ⟨-, c1, c2⟩ := own_cel h hr
  rw [own_lt] at g
  have e := own_kk hr.1 k c1 c2
  exact hD ((own_PE hr.1 hr.2 h.1 h.2 hd k).mpr (by omega))
theorem own_kU {r d s : Int64} (h : 0 ≤ s.toInt ∧ s.toInt < 1048576) (hr : 1 ≤ r.toInt ∧ r.toInt < 1048576) (hd : d.toInt.natAbs < 2 ^ 53) (hD : ¬ own_D d s (FP.ddiv (4741671816366391296 : UInt64) (FP.l2d r))) (g : ¬ lcmpW d ((s * (1000000000 : Int64) + r - (1 : Int64)) / r + (1 : Int64)) < (0 : Int32)) : False := by
  obtain ⟨c0, c1, c2⟩ := own_cel h hr
  rw [own_lt] at g
  generalize (s * (1000000000 : Int64) + r - (1 : Int64)) / r = C at *
  have g2 := c_ladd C (1 : Int64)
  rw [show (1 : Int64).toInt = 1 by decide] at g2
  have g3 := rng64 (C + (1 : Int64))
  have g4 : C.toInt + 1 ≤ d.toInt := by omega
  have g5 := Int.mul_le_mul_of_nonneg_right g4 (show 0 ≤ r.toInt by omega)
  rw [Int.add_mul, Int.one_mul] at g5
  exact hD (own_PU hr.1 hr.2 h.1 h.2 hd (by omega))
theorem own_kD {r d s : Int64} (h : 0 ≤ s.toInt ∧ s.toInt < 1048576) (hr : 1 ≤ r.toInt ∧ r.toInt < 1048576) (hd : d.toInt.natAbs < 2 ^ 53) (hD : own_D d s (FP.ddiv (4741671816366391296 : UInt64) (FP.l2d r))) (g : ¬ (0 : Int32) < lcmpW d (s * (1000000000 : Int64) / r - (1 : Int64))) : False := by
  obtain ⟨c0, c1, c2⟩ := own_flr h hr
  rw [own_gt] at g
  generalize s * (1000000000 : Int64) / r = C at *
  have g2 := c_lsub C (1 : Int64)
  rw [show (1 : Int64).toInt = 1 by decide] at g2
  have g3 := rng64 (C - (1 : Int64))
  have g4 : d.toInt + 1 ≤ C.toInt := by omega
  have g5 := Int.mul_le_mul_of_nonneg_right g4 (show 0 ≤ r.toInt by omega)
  rw [Int.add_mul, Int.one_mul] at g5
  exact own_PD hr.1 hr.2 h.1 h.2 hd (by omega) hD
theorem own_cl {d s : Int64} {iv : UInt64} (hn : Jvm.Free.Fl.NoNaN64 (FP.dmul (FP.l2d s) iv)) : cmpValue (FP.dcmp (FP.l2d d) (FP.dmul (FP.l2d s) iv)) .l < (0 : Int32) ↔ ¬ own_D d s iv := by
  have n1 : FP.Core.val64 (FP.l2d d) ≠ .nan := (FP.Core.notNaN_iff _).mp (FP.Core.l2d_notNaN d)
  have n2 : FP.Core.val64 (FP.dmul (FP.l2d s) iv) ≠ .nan := (FP.Core.notNaN_iff _).mp (Jvm.Free.Fl.noNaN64_no.mp hn)
  have h := FP.Core.dcmp_ge (a := FP.l2d d) (b := FP.dmul (FP.l2d s) iv)
  have hD : own_D d s iv ↔ FP.Core.zval FP.Core.b64 (FP.Core.val64 (FP.dmul (FP.l2d s) iv)) ≤ FP.Core.zval FP.Core.b64 (FP.Core.val64 (FP.l2d d)) := Iff.rfl
  rw [hD]
  have hc : FP.Core.dcmp (FP.l2d d) (FP.dmul (FP.l2d s) iv) = FP.dcmp (FP.l2d d) (FP.dmul (FP.l2d s) iv) := rfl
  rw [hc] at h
  rw [cmpV_l]
  cases e : FP.dcmp (FP.l2d d) (FP.dmul (FP.l2d s) iv) with
  | none => exact absurd ((FP.Core.dcmp_none _ _).mp (hc.trans e)) (fun w => w.elim n1 n2)
  | some o =>
    rw [e] at h
    cases o with
    | lt => exact ⟨fun _ q => (by rcases h.mpr ⟨n1, n2, q⟩ with g | g <;> cases g), fun _ => by decide⟩
    | eq => exact ⟨fun q => absurd q (by decide), fun q => absurd (h.mp (Or.inr rfl)).2.2 q⟩
    | gt => exact ⟨fun q => absurd q (by decide), fun q => absurd (h.mp (Or.inl rfl)).2.2 q⟩
theorem own_clN {d s : Int64} {iv : UInt64} (hn : Jvm.Free.Fl.NoNaN64 (FP.dmul (FP.l2d s) iv)) (h : ¬ (cmpValue (FP.dcmp (FP.l2d d) (FP.dmul (FP.l2d s) iv)) .l < (0 : Int32))) : own_D d s iv := Classical.byContradiction fun q => h ((own_cl hn).mpr q)
theorem own_nnq {r : Int64} (hr : 1 ≤ r.toInt ∧ r.toInt < 1048576) : Jvm.Free.Fl.NoNaN64 (FP.ddiv (4741671816366391296 : UInt64) (FP.l2d r)) := Jvm.Free.Fl.noNaN64_no.mpr ((FP.Core.notNaN_iff _).mpr (own_nn (s := 0) hr.1 hr.2 (by decide) (by decide)).1)
theorem own_nnp {s r : Int64} (h : 0 ≤ s.toInt ∧ s.toInt < 1048576) (hr : 1 ≤ r.toInt ∧ r.toInt < 1048576) : Jvm.Free.Fl.NoNaN64 (FP.dmul (FP.l2d s) (FP.ddiv (4741671816366391296 : UInt64) (FP.l2d r))) := Jvm.Free.Fl.noNaN64_no.mpr ((FP.Core.notNaN_iff _).mpr (own_nn hr.1 hr.2 h.1 h.2).2)
theorem own_nn0 {s : Int64} (h : 0 ≤ s.toInt ∧ s.toInt < 1048576) : Jvm.Free.Fl.NoNaN64 (FP.dmul (FP.l2d s) (0 : UInt64)) := Jvm.Free.Fl.noNaN64_no.mpr ((FP.Core.notNaN_iff _).mpr (own_n0 h.1 h.2))
theorem own_pd0 : parseMethodDescriptor "(JJ)V" = some ⟨[.long, .long], none⟩ := by decide +kernel
theorem own_pd1 : parseMethodDescriptor "(JJ)Z" = some ⟨[.long, .long], some .boolean⟩ := by decide +kernel

theorem own_d_init0_0 : decode prog_6_method_1_code 0 = .ok (.aload_n 0, 1) := by decide +kernel
theorem own_d_init0_1 : decode prog_6_method_1_code 1 = .ok (.invokespecial 1, 3) := by decide +kernel
theorem own_d_init0_4 : decode prog_6_method_1_code 4 = .ok (.lload_n 1, 1) := by decide +kernel
theorem own_d_init0_5 : decode prog_6_method_1_code 5 = .ok (.lconst 0, 1) := by decide +kernel
theorem own_d_init0_6 : decode prog_6_method_1_code 6 = .ok (.lcmp, 1) := by decide +kernel
theorem own_d_init0_7 : decode prog_6_method_1_code 7 = .ok (.ifCond .ge 27, 3) := by decide +kernel
theorem own_d_init0_34 : decode prog_6_method_1_code 34 = .ok (.aload_n 0, 1) := by decide +kernel
theorem own_d_init0_35 : decode prog_6_method_1_code 35 = .ok (.lload_n 3, 1) := by decide +kernel
theorem own_d_init0_36 : decode prog_6_method_1_code 36 = .ok (.putfield 26, 3) := by decide +kernel
theorem own_d_init0_39 : decode prog_6_method_1_code 39 = .ok (.aload_n 0, 1) := by decide +kernel
theorem own_d_init0_40 : decode prog_6_method_1_code 40 = .ok (.lload_n 1, 1) := by decide +kernel
theorem own_d_init0_41 : decode prog_6_method_1_code 41 = .ok (.lconst 0, 1) := by decide +kernel
theorem own_d_init0_42 : decode prog_6_method_1_code 42 = .ok (.lcmp, 1) := by decide +kernel
theorem own_d_init0_43 : decode prog_6_method_1_code 43 = .ok (.ifCond .ne 7, 3) := by decide +kernel
theorem own_d_init0_50 : decode prog_6_method_1_code 50 = .ok (.ldc2_w 32, 3) := by decide +kernel
theorem own_d_init0_53 : decode prog_6_method_1_code 53 = .ok (.lload_n 1, 1) := by decide +kernel
theorem own_d_init0_54 : decode prog_6_method_1_code 54 = .ok (.l2d, 1) := by decide +kernel
theorem own_d_init0_55 : decode prog_6_method_1_code 55 = .ok (.ddiv, 1) := by decide +kernel
theorem own_d_init0_56 : decode prog_6_method_1_code 56 = .ok (.putfield 34, 3) := by decide +kernel
theorem own_d_init0_59 : decode prog_6_method_1_code 59 = .ok (.return_, 1) := by decide +kernel
theorem own_pn_own_init0 : plainName "com/example/ferry/ferry/Pacer" = true := by first | (simp [plainName, overriddenIn]; done) | decide +kernel
theorem own_ef_own_init0 (m : MethodId) (x0 : Addr) (x1 : Int64) (x2 : Int64) : entryFrame m #[(.ref x0), (.long x1), (.long x2)] 5 = mkF m 0 #[.val (.ref x0), .val (.long x1), .second, .val (.long x2), .second] [] := by first | (simp [entryFrame, mkF, argsToLocals, Value.category]; done) | rfl
def Q_own_init0 (Z : State) (b1 : Addr) (rr : Int64) (ss : Int64) (h0 : Heap) (n0 : Nat) (v : Option Value) (h : Heap) (L : List Loc) : Prop := v = none ∧ Fr n0 L ∧ Keep h0 h [b1] ∧ Exa Z h b1 "com/example/ferry/ferry/Pacer" ∧ Fld Z h b1 "com/example/ferry/ferry/Pacer" "startNs" "J" (.long ss) ∧ Fld Z h b1 "com/example/ferry/ferry/Pacer" "intervalNs" "D" (.double (FP.ddiv (4741671816366391296 : UInt64) (FP.l2d rr)))
set_option maxRecDepth 65536 in
set_option maxHeartbeats 40000000 in
theorem own_init0 (l : Launch) (Z : State) (a0 : Array Value) (hw : ∀ d ∈ tables_1, d.before a0 Z = true) (ws : List Jvm.Cond) (b1 : Addr) (rr : Int64) (ss : Int64) (h0 : Heap) (n0 : Nat) (Z0 : n0 ≤ h0.size) (E_b1 : Exa Z h0 b1 "com/example/ferry/ferry/Pacer") (Fs : Fld Z h0 b1 "com/example/ferry/ferry/Pacer" "startNs" "J" (.long (0 : Int64))) (Fi : Fld Z h0 b1 "com/example/ferry/ferry/Pacer" "intervalNs" "D" (.double (0 : UInt64))) (g_b1 : n0 ≤ b1) (hge : ¬ ((lcmpW rr (0 : Int64)) < (0 : Int32))) (hz : ¬ ((lcmpW rr (0 : Int64)) = (0 : Int32))) (hnn : Jvm.Free.Fl.NoNaN64 (FP.ddiv (4741671816366391296 : UInt64) (FP.l2d rr))) :
    MetFree l (⟨"com/example/ferry/ferry/Pacer", "<init>", "(JJ)V"⟩ : MethodName) (head1 (Jvm.Cond.code (⟨"com/example/ferry/ferry/Pacer", "<init>", "(JJ)V"⟩ : MethodName) prog_6_method_1_code 5 none :: ws) ({ frames := 1, cells := 0, slots := 0, locals := 12 } : Room)) (fun a U => a = #[(.ref b1), (.long rr), (.long ss)] ∧ Z.Warmed39 U.vm ∧ U.heap = h0) (fun _ _ _ _ _ => True) (fun _ U o U' => ∃ v L, o = .returned v ∧ Q_own_init0 Z b1 rr ss h0 n0 v U'.heap L ∧ FrameEnd U o U' L ({ frames := 1, cells := 0, slots := 0, locals := 12 } : Room).cells ({ frames := 1, cells := 0, slots := 0, locals := 12 } : Room).slots) := by
  refine MetFree.of_bodySF (plainFor_of_name own_pn_own_init0) hisR ?_
  intro p e s m args below meth c s₁ Bd hml0 hP hK
  obtain ⟨rfl, hZ, hh⟩ := hP
  have hx := Bd.exec
  have hby := Bd.bytes
  have hml : c.maxLocals = 5 := hml0
  have hown : s.vm.findClass "com/example/ferry/ferry/Pacer" = some m.cls := findClass_of_methodNamed Bd.named
  have hnm := (name_of_methodNamed Bd.named Bd.method).1
  have X0 : Stand p l e ({ frames := 1, cells := 0, slots := 0, locals := 12 } : Room) s m #[(.ref b1), (.long rr), (.long ss)] below meth c s₁ [] 0 0 := Stand.of_body Bd
  have e0 : s₁.heap = h0 := by rw [← hh, Bd.state]; rfl
  have N0 := Fr.nil n0
  have pre0 : Goes p e below s₁ (entryFrame m #[(.ref b1), (.long rr), (.long ss)] 5) s₁ (mkF m 0 #[.val (.ref b1), .val (.long rr), .second, .val (.long ss), .second] []) := fun t k => castTop (own_ef_own_init0 m b1 rr ss) k
  have pre1 : Goes p e below s₁ (entryFrame m #[(.ref b1), (.long rr), (.long ss)] 5) s₁ (mkF m 1 #[.val (.ref b1), .val (.long rr), .second, .val (.long ss), .second] [(.ref b1)]) := fun t kt => pre0 t (by
      show Steps p.tables e below (s₁.setTop (mkF m 0 #[.val (.ref b1), .val (.long rr), .second, .val (.long ss), .second] [])) _
      refine XS.aloadN X0.here hx rfl (hb hby own_d_init0_0) rfl rfl ?_
      exact kt)
  obtain ⟨T2, X2, e2, st2⟩ := initO X0 hx hZ hown (hw _ (List.mem_of_getElem? (i := 23) rfl)) (hw _ (List.mem_of_getElem? (i := 24) rfl)) (hw _ (List.mem_of_getElem? (i := 25) rfl)) e0 (g := (mkF m 1 #[.val (.ref b1), .val (.long rr), .second, .val (.long ss), .second] [(.ref b1)])) rfl (by rw [hml]; rfl) rfl (hb hby own_d_init0_1) (by decide) (W := 0) (by show 2 * 0 + _ ≤ _; exact Nat.le_of_eq rfl) (by decide)
  have pre3 : Goes p e below s₁ (entryFrame m #[(.ref b1), (.long rr), (.long ss)] 5) T2 (mkF m 4 #[.val (.ref b1), .val (.long rr), .second, .val (.long ss), .second] []) := fun t kt => pre1 t (st2 t kt)
  have pre4 : Goes p e below s₁ (entryFrame m #[(.ref b1), (.long rr), (.long ss)] 5) T2 (mkF m 36 #[.val (.ref b1), .val (.long rr), .second, .val (.long ss), .second] [(.long ss), (.ref b1)]) := fun t kt => pre3 t (by
      show Steps p.tables e below (T2.setTop (mkF m 4 #[.val (.ref b1), .val (.long rr), .second, .val (.long ss), .second] [])) _
      refine XS.lloadN X2.here hx rfl (hb hby own_d_init0_4) rfl ?_
      show Steps p.tables e below (T2.setTop (mkF m 5 #[.val (.ref b1), .val (.long rr), .second, .val (.long ss), .second] [(.long rr)])) _
      refine XS.lconst X2.here hx rfl (hb hby own_d_init0_5) ?_
      show Steps p.tables e below (T2.setTop (mkF m 6 #[.val (.ref b1), .val (.long rr), .second, .val (.long ss), .second] [(.long (0 : Int64)), (.long rr)])) _
      refine XS.lcmp X2.here hx rfl (hb hby own_d_init0_6) rfl ?_
      show Steps p.tables e below (T2.setTop (mkF m 7 #[.val (.ref b1), .val (.long rr), .second, .val (.long ss), .second] [(.int (lcmpW rr (0 : Int64)))])) _
      refine XS.ifYes X2.here hx rfl (pc0 := 7) (pc' := 34) rfl (hb hby own_d_init0_7) rfl ((if0 _ _).trans (flt hge).2.1) (by decide) (by decide) ?_
      show Steps p.tables e below (T2.setTop (mkF m 34 #[.val (.ref b1), .val (.long rr), .second, .val (.long ss), .second] [])) _
      refine XS.aloadN X2.here hx rfl (hb hby own_d_init0_34) rfl rfl ?_
      show Steps p.tables e below (T2.setTop (mkF m 35 #[.val (.ref b1), .val (.long rr), .second, .val (.long ss), .second] [(.ref b1)])) _
      refine XS.lloadN X2.here hx rfl (hb hby own_d_init0_35) rfl ?_
      exact kt)
  obtain ⟨T5, h5, X5, e5, W5, st5⟩ := putF X2 hx hZ hown (host := "") (Or.inl (hw _ (List.mem_of_getElem? (i := 26) rfl))) Via.refl e2 Fs E_b1 (Or.inr ⟨(hw _ (List.mem_of_getElem? (i := 27) rfl)), rfl, hnm⟩) (hw _ (List.mem_of_getElem? (i := 18) rfl)) (ty := .long) (by decide) rfl rfl (g := (mkF m 36 #[.val (.ref b1), .val (.long rr), .second, .val (.long ss), .second] [(.long ss), (.ref b1)])) rfl rfl (hb hby own_d_init0_36)
  have Fw5 := Fs.same W5
  have K5 : Keep h0 h5 [b1] := (Keep.refl h0 [b1]).wr W5 (Or.inl (List.mem_of_getElem? (i := 0) rfl))
  have N5 := Fr.snoc X5 N0 g_b1
  have pre6 : Goes p e below s₁ (entryFrame m #[(.ref b1), (.long rr), (.long ss)] 5) T5 (mkF m 39 #[.val (.ref b1), .val (.long rr), .second, .val (.long ss), .second] []) := fun t kt => pre4 t (st5 t kt)
  have pre7 : Goes p e below s₁ (entryFrame m #[(.ref b1), (.long rr), (.long ss)] 5) T5 (mkF m 56 #[.val (.ref b1), .val (.long rr), .second, .val (.long ss), .second] [(.double (FP.ddiv (4741671816366391296 : UInt64) (FP.l2d rr))), (.ref b1)]) := fun t kt => pre6 t (by
      show Steps p.tables e below (T5.setTop (mkF m 39 #[.val (.ref b1), .val (.long rr), .second, .val (.long ss), .second] [])) _
      refine XS.aloadN X5.here hx rfl (hb hby own_d_init0_39) rfl rfl ?_
      show Steps p.tables e below (T5.setTop (mkF m 40 #[.val (.ref b1), .val (.long rr), .second, .val (.long ss), .second] [(.ref b1)])) _
      refine XS.lloadN X5.here hx rfl (hb hby own_d_init0_40) rfl ?_
      show Steps p.tables e below (T5.setTop (mkF m 41 #[.val (.ref b1), .val (.long rr), .second, .val (.long ss), .second] [(.long rr), (.ref b1)])) _
      refine XS.lconst X5.here hx rfl (hb hby own_d_init0_41) ?_
      show Steps p.tables e below (T5.setTop (mkF m 42 #[.val (.ref b1), .val (.long rr), .second, .val (.long ss), .second] [(.long (0 : Int64)), (.long rr), (.ref b1)])) _
      refine XS.lcmp X5.here hx rfl (hb hby own_d_init0_42) rfl ?_
      show Steps p.tables e below (T5.setTop (mkF m 43 #[.val (.ref b1), .val (.long rr), .second, .val (.long ss), .second] [(.int (lcmpW rr (0 : Int64))), (.ref b1)])) _
      refine XS.ifYes X5.here hx rfl (pc0 := 43) (pc' := 50) rfl (hb hby own_d_init0_43) rfl ((if0 _ _).trans (feq hz).2) (by decide) (by decide) ?_
      show Steps p.tables e below (T5.setTop (mkF m 50 #[.val (.ref b1), .val (.long rr), .second, .val (.long ss), .second] [(.ref b1)])) _
      refine X5.ldc2DoubleC hx hown (mvT hZ (hw _ (List.mem_of_getElem? (i := 36) rfl))) (g := (mkF m 50 #[.val (.ref b1), .val (.long rr), .second, .val (.long ss), .second] [(.ref b1)])) rfl (hb hby own_d_init0_50) _ ?_
      show Steps p.tables e below (T5.setTop (mkF m 53 #[.val (.ref b1), .val (.long rr), .second, .val (.long ss), .second] [(.double (4741671816366391296 : UInt64)), (.ref b1)])) _
      refine XS.lloadN X5.here hx rfl (hb hby own_d_init0_53) rfl ?_
      show Steps p.tables e below (T5.setTop (mkF m 54 #[.val (.ref b1), .val (.long rr), .second, .val (.long ss), .second] [(.long rr), (.double (4741671816366391296 : UInt64)), (.ref b1)])) _
      refine XS.l2dS X5.here hx rfl (hb hby own_d_init0_54) rfl rfl ?_
      show Steps p.tables e below (T5.setTop (mkF m 55 #[.val (.ref b1), .val (.long rr), .second, .val (.long ss), .second] [(.double (FP.l2d rr)), (.double (4741671816366391296 : UInt64)), (.ref b1)])) _
      refine XS.ddivS X5.here hx rfl (hb hby own_d_init0_55) rfl hnn rfl ?_
      exact kt)
  obtain ⟨T8, h8, X8, e8, W8, st8⟩ := putF X5 hx hZ hown (host := "") (Or.inl (hw _ (List.mem_of_getElem? (i := 28) rfl))) Via.refl e5 (Fi.other W5 (Or.inr (slot_ne (Or.inr (hw _ (List.mem_of_getElem? (i := 29) rfl))) (Or.inr (hw _ (List.mem_of_getElem? (i := 27) rfl))) (by decide) (t := .double) (t' := .long) (by decide) (by decide)))) (E_b1.wr W5) (Or.inr ⟨(hw _ (List.mem_of_getElem? (i := 29) rfl)), rfl, hnm⟩) (hw _ (List.mem_of_getElem? (i := 18) rfl)) (ty := .double) (by decide) rfl rfl (g := (mkF m 56 #[.val (.ref b1), .val (.long rr), .second, .val (.long ss), .second] [(.double (FP.ddiv (4741671816366391296 : UInt64) (FP.l2d rr))), (.ref b1)])) rfl rfl (hb hby own_d_init0_56)
  have Fw8 := (Fi.other W5 (Or.inr (slot_ne (Or.inr (hw _ (List.mem_of_getElem? (i := 29) rfl))) (Or.inr (hw _ (List.mem_of_getElem? (i := 27) rfl))) (by decide) (t := .double) (t' := .long) (by decide) (by decide)))).same W8
  have K8 : Keep h0 h8 [b1] := K5.wr W8 (Or.inl (List.mem_of_getElem? (i := 0) rfl))
  have N8 := Fr.snoc X8 N5 g_b1
  have pre9 : Goes p e below s₁ (entryFrame m #[(.ref b1), (.long rr), (.long ss)] 5) T8 (mkF m 59 #[.val (.ref b1), .val (.long rr), .second, .val (.long ss), .second] []) := fun t kt => pre7 t (st8 t kt)
  obtain ⟨fs, hr, hrun, hended, hW, hsame⟩ := X8.leave (v := none) (fun _ => rfl) Bd.notSynchronized
  refine ⟨_, _, pre9 _ ?_, hrun, hended, _, _, rfl, ?_, ⟨_, rfl⟩, hW, hsame.mono (by decide) (by decide)⟩
  · show Steps p.tables e below (T8.setTop (mkF m 59 #[.val (.ref b1), .val (.long rr), .second, .val (.long ss), .second] [])) _
    exact X8.returnOut hx Bd.returns (hb hby own_d_init0_59) hr
  · show Q_own_init0 Z b1 rr ss h0 n0 _ T8.heap _
    rw [e8]
    exact ⟨rfl, N8, K8, ((E_b1.wr W5).wr W8), (Fw5.other W8 (Or.inr (slot_ne (Or.inr (hw _ (List.mem_of_getElem? (i := 27) rfl))) (Or.inr (hw _ (List.mem_of_getElem? (i := 29) rfl))) (by decide) (t := .long) (t' := .double) (by decide) (by decide)))), Fw8⟩
theorem own_d_init1_0 : decode prog_6_method_1_code 0 = .ok (.aload_n 0, 1) := by decide +kernel
theorem own_d_init1_1 : decode prog_6_method_1_code 1 = .ok (.invokespecial 1, 3) := by decide +kernel
theorem own_d_init1_4 : decode prog_6_method_1_code 4 = .ok (.lload_n 1, 1) := by decide +kernel
theorem own_d_init1_5 : decode prog_6_method_1_code 5 = .ok (.lconst 0, 1) := by decide +kernel
theorem own_d_init1_6 : decode prog_6_method_1_code 6 = .ok (.lcmp, 1) := by decide +kernel
theorem own_d_init1_7 : decode prog_6_method_1_code 7 = .ok (.ifCond .ge 27, 3) := by decide +kernel
theorem own_d_init1_34 : decode prog_6_method_1_code 34 = .ok (.aload_n 0, 1) := by decide +kernel
theorem own_d_init1_35 : decode prog_6_method_1_code 35 = .ok (.lload_n 3, 1) := by decide +kernel
theorem own_d_init1_36 : decode prog_6_method_1_code 36 = .ok (.putfield 26, 3) := by decide +kernel
theorem own_d_init1_39 : decode prog_6_method_1_code 39 = .ok (.aload_n 0, 1) := by decide +kernel
theorem own_d_init1_40 : decode prog_6_method_1_code 40 = .ok (.lload_n 1, 1) := by decide +kernel
theorem own_d_init1_41 : decode prog_6_method_1_code 41 = .ok (.lconst 0, 1) := by decide +kernel
theorem own_d_init1_42 : decode prog_6_method_1_code 42 = .ok (.lcmp, 1) := by decide +kernel
theorem own_d_init1_43 : decode prog_6_method_1_code 43 = .ok (.ifCond .ne 7, 3) := by decide +kernel
theorem own_d_init1_46 : decode prog_6_method_1_code 46 = .ok (.dconst 0, 1) := by decide +kernel
theorem own_d_init1_47 : decode prog_6_method_1_code 47 = .ok (.goto 9, 3) := by decide +kernel
theorem own_d_init1_56 : decode prog_6_method_1_code 56 = .ok (.putfield 34, 3) := by decide +kernel
theorem own_d_init1_59 : decode prog_6_method_1_code 59 = .ok (.return_, 1) := by decide +kernel
theorem own_pn_own_init1 : plainName "com/example/ferry/ferry/Pacer" = true := by first | (simp [plainName, overriddenIn]; done) | decide +kernel
theorem own_ef_own_init1 (m : MethodId) (x0 : Addr) (x1 : Int64) (x2 : Int64) : entryFrame m #[(.ref x0), (.long x1), (.long x2)] 5 = mkF m 0 #[.val (.ref x0), .val (.long x1), .second, .val (.long x2), .second] [] := by first | (simp [entryFrame, mkF, argsToLocals, Value.category]; done) | rfl
def Q_own_init1 (Z : State) (b1 : Addr) (rr : Int64) (ss : Int64) (h0 : Heap) (n0 : Nat) (v : Option Value) (h : Heap) (L : List Loc) : Prop := v = none ∧ Fr n0 L ∧ Keep h0 h [b1] ∧ Exa Z h b1 "com/example/ferry/ferry/Pacer" ∧ Fld Z h b1 "com/example/ferry/ferry/Pacer" "startNs" "J" (.long ss) ∧ Fld Z h b1 "com/example/ferry/ferry/Pacer" "intervalNs" "D" (.double (0 : UInt64))
set_option maxRecDepth 65536 in
set_option maxHeartbeats 40000000 in
theorem own_init1 (l : Launch) (Z : State) (a0 : Array Value) (hw : ∀ d ∈ tables_1, d.before a0 Z = true) (ws : List Jvm.Cond) (b1 : Addr) (rr : Int64) (ss : Int64) (h0 : Heap) (n0 : Nat) (Z0 : n0 ≤ h0.size) (E_b1 : Exa Z h0 b1 "com/example/ferry/ferry/Pacer") (Fs : Fld Z h0 b1 "com/example/ferry/ferry/Pacer" "startNs" "J" (.long (0 : Int64))) (Fi : Fld Z h0 b1 "com/example/ferry/ferry/Pacer" "intervalNs" "D" (.double (0 : UInt64))) (g_b1 : n0 ≤ b1) (hge : ¬ ((lcmpW rr (0 : Int64)) < (0 : Int32))) (hz : (lcmpW rr (0 : Int64)) = (0 : Int32)) :
    MetFree l (⟨"com/example/ferry/ferry/Pacer", "<init>", "(JJ)V"⟩ : MethodName) (head1 (Jvm.Cond.code (⟨"com/example/ferry/ferry/Pacer", "<init>", "(JJ)V"⟩ : MethodName) prog_6_method_1_code 5 none :: ws) ({ frames := 1, cells := 0, slots := 0, locals := 12 } : Room)) (fun a U => a = #[(.ref b1), (.long rr), (.long ss)] ∧ Z.Warmed39 U.vm ∧ U.heap = h0) (fun _ _ _ _ _ => True) (fun _ U o U' => ∃ v L, o = .returned v ∧ Q_own_init1 Z b1 rr ss h0 n0 v U'.heap L ∧ FrameEnd U o U' L ({ frames := 1, cells := 0, slots := 0, locals := 12 } : Room).cells ({ frames := 1, cells := 0, slots := 0, locals := 12 } : Room).slots) := by
  refine MetFree.of_bodySF (plainFor_of_name own_pn_own_init1) hisR ?_
  intro p e s m args below meth c s₁ Bd hml0 hP hK
  obtain ⟨rfl, hZ, hh⟩ := hP
  have hx := Bd.exec
  have hby := Bd.bytes
  have hml : c.maxLocals = 5 := hml0
  have hown : s.vm.findClass "com/example/ferry/ferry/Pacer" = some m.cls := findClass_of_methodNamed Bd.named
  have hnm := (name_of_methodNamed Bd.named Bd.method).1
  have X0 : Stand p l e ({ frames := 1, cells := 0, slots := 0, locals := 12 } : Room) s m #[(.ref b1), (.long rr), (.long ss)] below meth c s₁ [] 0 0 := Stand.of_body Bd
  have e0 : s₁.heap = h0 := by rw [← hh, Bd.state]; rfl
  have N0 := Fr.nil n0
  have pre0 : Goes p e below s₁ (entryFrame m #[(.ref b1), (.long rr), (.long ss)] 5) s₁ (mkF m 0 #[.val (.ref b1), .val (.long rr), .second, .val (.long ss), .second] []) := fun t k => castTop (own_ef_own_init1 m b1 rr ss) k
  have pre1 : Goes p e below s₁ (entryFrame m #[(.ref b1), (.long rr), (.long ss)] 5) s₁ (mkF m 1 #[.val (.ref b1), .val (.long rr), .second, .val (.long ss), .second] [(.ref b1)]) := fun t kt => pre0 t (by
      show Steps p.tables e below (s₁.setTop (mkF m 0 #[.val (.ref b1), .val (.long rr), .second, .val (.long ss), .second] [])) _
      refine XS.aloadN X0.here hx rfl (hb hby own_d_init1_0) rfl rfl ?_
      exact kt)
  obtain ⟨T2, X2, e2, st2⟩ := initO X0 hx hZ hown (hw _ (List.mem_of_getElem? (i := 23) rfl)) (hw _ (List.mem_of_getElem? (i := 24) rfl)) (hw _ (List.mem_of_getElem? (i := 25) rfl)) e0 (g := (mkF m 1 #[.val (.ref b1), .val (.long rr), .second, .val (.long ss), .second] [(.ref b1)])) rfl (by rw [hml]; rfl) rfl (hb hby own_d_init1_1) (by decide) (W := 0) (by show 2 * 0 + _ ≤ _; exact Nat.le_of_eq rfl) (by decide)
  have pre3 : Goes p e below s₁ (entryFrame m #[(.ref b1), (.long rr), (.long ss)] 5) T2 (mkF m 4 #[.val (.ref b1), .val (.long rr), .second, .val (.long ss), .second] []) := fun t kt => pre1 t (st2 t kt)
  have pre4 : Goes p e below s₁ (entryFrame m #[(.ref b1), (.long rr), (.long ss)] 5) T2 (mkF m 36 #[.val (.ref b1), .val (.long rr), .second, .val (.long ss), .second] [(.long ss), (.ref b1)]) := fun t kt => pre3 t (by
      show Steps p.tables e below (T2.setTop (mkF m 4 #[.val (.ref b1), .val (.long rr), .second, .val (.long ss), .second] [])) _
      refine XS.lloadN X2.here hx rfl (hb hby own_d_init1_4) rfl ?_
      show Steps p.tables e below (T2.setTop (mkF m 5 #[.val (.ref b1), .val (.long rr), .second, .val (.long ss), .second] [(.long rr)])) _
      refine XS.lconst X2.here hx rfl (hb hby own_d_init1_5) ?_
      show Steps p.tables e below (T2.setTop (mkF m 6 #[.val (.ref b1), .val (.long rr), .second, .val (.long ss), .second] [(.long (0 : Int64)), (.long rr)])) _
      refine XS.lcmp X2.here hx rfl (hb hby own_d_init1_6) rfl ?_
      show Steps p.tables e below (T2.setTop (mkF m 7 #[.val (.ref b1), .val (.long rr), .second, .val (.long ss), .second] [(.int (lcmpW rr (0 : Int64)))])) _
      refine XS.ifYes X2.here hx rfl (pc0 := 7) (pc' := 34) rfl (hb hby own_d_init1_7) rfl ((if0 _ _).trans (flt hge).2.1) (by decide) (by decide) ?_
      show Steps p.tables e below (T2.setTop (mkF m 34 #[.val (.ref b1), .val (.long rr), .second, .val (.long ss), .second] [])) _
      refine XS.aloadN X2.here hx rfl (hb hby own_d_init1_34) rfl rfl ?_
      show Steps p.tables e below (T2.setTop (mkF m 35 #[.val (.ref b1), .val (.long rr), .second, .val (.long ss), .second] [(.ref b1)])) _
      refine XS.lloadN X2.here hx rfl (hb hby own_d_init1_35) rfl ?_
      exact kt)
  obtain ⟨T5, h5, X5, e5, W5, st5⟩ := putF X2 hx hZ hown (host := "") (Or.inl (hw _ (List.mem_of_getElem? (i := 26) rfl))) Via.refl e2 Fs E_b1 (Or.inr ⟨(hw _ (List.mem_of_getElem? (i := 27) rfl)), rfl, hnm⟩) (hw _ (List.mem_of_getElem? (i := 18) rfl)) (ty := .long) (by decide) rfl rfl (g := (mkF m 36 #[.val (.ref b1), .val (.long rr), .second, .val (.long ss), .second] [(.long ss), (.ref b1)])) rfl rfl (hb hby own_d_init1_36)
  have Fw5 := Fs.same W5
  have K5 : Keep h0 h5 [b1] := (Keep.refl h0 [b1]).wr W5 (Or.inl (List.mem_of_getElem? (i := 0) rfl))
  have N5 := Fr.snoc X5 N0 g_b1
  have pre6 : Goes p e below s₁ (entryFrame m #[(.ref b1), (.long rr), (.long ss)] 5) T5 (mkF m 39 #[.val (.ref b1), .val (.long rr), .second, .val (.long ss), .second] []) := fun t kt => pre4 t (st5 t kt)
  have pre7 : Goes p e below s₁ (entryFrame m #[(.ref b1), (.long rr), (.long ss)] 5) T5 (mkF m 56 #[.val (.ref b1), .val (.long rr), .second, .val (.long ss), .second] [(.double (0 : UInt64)), (.ref b1)]) := fun t kt => pre6 t (by
      show Steps p.tables e below (T5.setTop (mkF m 39 #[.val (.ref b1), .val (.long rr), .second, .val (.long ss), .second] [])) _
      refine XS.aloadN X5.here hx rfl (hb hby own_d_init1_39) rfl rfl ?_
      show Steps p.tables e below (T5.setTop (mkF m 40 #[.val (.ref b1), .val (.long rr), .second, .val (.long ss), .second] [(.ref b1)])) _
      refine XS.lloadN X5.here hx rfl (hb hby own_d_init1_40) rfl ?_
      show Steps p.tables e below (T5.setTop (mkF m 41 #[.val (.ref b1), .val (.long rr), .second, .val (.long ss), .second] [(.long rr), (.ref b1)])) _
      refine XS.lconst X5.here hx rfl (hb hby own_d_init1_41) ?_
      show Steps p.tables e below (T5.setTop (mkF m 42 #[.val (.ref b1), .val (.long rr), .second, .val (.long ss), .second] [(.long (0 : Int64)), (.long rr), (.ref b1)])) _
      refine XS.lcmp X5.here hx rfl (hb hby own_d_init1_42) rfl ?_
      show Steps p.tables e below (T5.setTop (mkF m 43 #[.val (.ref b1), .val (.long rr), .second, .val (.long ss), .second] [(.int (lcmpW rr (0 : Int64))), (.ref b1)])) _
      refine XS.ifNo X5.here hx rfl (hb hby own_d_init1_43) rfl ((if0 _ _).trans (teq hz).2) ?_
      show Steps p.tables e below (T5.setTop (mkF m 46 #[.val (.ref b1), .val (.long rr), .second, .val (.long ss), .second] [(.ref b1)])) _
      refine XS.dconst0 X5.here hx rfl (hb hby own_d_init1_46) (v := (0 : UInt64)) (by decide +kernel) ?_
      show Steps p.tables e below (T5.setTop (mkF m 47 #[.val (.ref b1), .val (.long rr), .second, .val (.long ss), .second] [(.double (0 : UInt64)), (.ref b1)])) _
      refine XS.goto X5.here hx rfl (pc0 := 47) (pc' := 56) rfl (hb hby own_d_init1_47) (by decide) (by decide) ?_
      exact kt)
  obtain ⟨T8, h8, X8, e8, W8, st8⟩ := putF X5 hx hZ hown (host := "") (Or.inl (hw _ (List.mem_of_getElem? (i := 28) rfl))) Via.refl e5 (Fi.other W5 (Or.inr (slot_ne (Or.inr (hw _ (List.mem_of_getElem? (i := 29) rfl))) (Or.inr (hw _ (List.mem_of_getElem? (i := 27) rfl))) (by decide) (t := .double) (t' := .long) (by decide) (by decide)))) (E_b1.wr W5) (Or.inr ⟨(hw _ (List.mem_of_getElem? (i := 29) rfl)), rfl, hnm⟩) (hw _ (List.mem_of_getElem? (i := 18) rfl)) (ty := .double) (by decide) rfl rfl (g := (mkF m 56 #[.val (.ref b1), .val (.long rr), .second, .val (.long ss), .second] [(.double (0 : UInt64)), (.ref b1)])) rfl rfl (hb hby own_d_init1_56)
  have Fw8 := (Fi.other W5 (Or.inr (slot_ne (Or.inr (hw _ (List.mem_of_getElem? (i := 29) rfl))) (Or.inr (hw _ (List.mem_of_getElem? (i := 27) rfl))) (by decide) (t := .double) (t' := .long) (by decide) (by decide)))).same W8
  have K8 : Keep h0 h8 [b1] := K5.wr W8 (Or.inl (List.mem_of_getElem? (i := 0) rfl))
  have N8 := Fr.snoc X8 N5 g_b1
  have pre9 : Goes p e below s₁ (entryFrame m #[(.ref b1), (.long rr), (.long ss)] 5) T8 (mkF m 59 #[.val (.ref b1), .val (.long rr), .second, .val (.long ss), .second] []) := fun t kt => pre7 t (st8 t kt)
  obtain ⟨fs, hr, hrun, hended, hW, hsame⟩ := X8.leave (v := none) (fun _ => rfl) Bd.notSynchronized
  refine ⟨_, _, pre9 _ ?_, hrun, hended, _, _, rfl, ?_, ⟨_, rfl⟩, hW, hsame.mono (by decide) (by decide)⟩
  · show Steps p.tables e below (T8.setTop (mkF m 59 #[.val (.ref b1), .val (.long rr), .second, .val (.long ss), .second] [])) _
    exact X8.returnOut hx Bd.returns (hb hby own_d_init1_59) hr
  · show Q_own_init1 Z b1 rr ss h0 n0 _ T8.heap _
    rw [e8]
    exact ⟨rfl, N8, K8, ((E_b1.wr W5).wr W8), (Fw5.other W8 (Or.inr (slot_ne (Or.inr (hw _ (List.mem_of_getElem? (i := 27) rfl))) (Or.inr (hw _ (List.mem_of_getElem? (i := 29) rfl))) (by decide) (t := .long) (t' := .double) (by decide) (by decide)))), Fw8⟩
theorem own_d3_0 : decode prog_6_method_2_code 0 = .ok (.lload_n 3, 1) := by decide +kernel
theorem own_d3_1 : decode prog_6_method_2_code 1 = .ok (.aload_n 0, 1) := by decide +kernel
theorem own_d3_2 : decode prog_6_method_2_code 2 = .ok (.getfield 26, 3) := by decide +kernel
theorem own_d3_5 : decode prog_6_method_2_code 5 = .ok (.lsub, 1) := by decide +kernel
theorem own_d3_6 : decode prog_6_method_2_code 6 = .ok (.l2d, 1) := by decide +kernel
theorem own_d3_7 : decode prog_6_method_2_code 7 = .ok (.lload_n 1, 1) := by decide +kernel
theorem own_d3_8 : decode prog_6_method_2_code 8 = .ok (.l2d, 1) := by decide +kernel
theorem own_d3_9 : decode prog_6_method_2_code 9 = .ok (.aload_n 0, 1) := by decide +kernel
theorem own_d3_10 : decode prog_6_method_2_code 10 = .ok (.getfield 34, 3) := by decide +kernel
theorem own_d3_13 : decode prog_6_method_2_code 13 = .ok (.dmul, 1) := by decide +kernel
theorem own_d3_14 : decode prog_6_method_2_code 14 = .ok (.dcmp .l, 1) := by decide +kernel
theorem own_d3_15 : decode prog_6_method_2_code 15 = .ok (.ifCond .lt 7, 3) := by decide +kernel
theorem own_d3_18 : decode prog_6_method_2_code 18 = .ok (.iconst 1, 1) := by decide +kernel
theorem own_d3_19 : decode prog_6_method_2_code 19 = .ok (.goto 4, 3) := by decide +kernel
theorem own_d3_22 : decode prog_6_method_2_code 22 = .ok (.iconst 0, 1) := by decide +kernel
theorem own_d3_23 : decode prog_6_method_2_code 23 = .ok (.ireturn, 1) := by decide +kernel
theorem own_pn_own_isDue : plainName "com/example/ferry/ferry/Pacer" = true := by first | (simp [plainName, overriddenIn]; done) | decide +kernel
theorem own_ef_own_isDue (m : MethodId) (x0 : Addr) (x1 : Int64) (x2 : Int64) : entryFrame m #[(.ref x0), (.long x1), (.long x2)] 5 = mkF m 0 #[.val (.ref x0), .val (.long x1), .second, .val (.long x2), .second] [] := by first | (simp [entryFrame, mkF, argsToLocals, Value.category]; done) | rfl
def Q_own_isDue (Z : State) (b1 : Addr) (sv : Int64) (nw : Int64) (ss : Int64) (iv : UInt64) (di : Int64) (h0 : Heap) (n0 : Nat) (v : Option Value) (h : Heap) (L : List Loc) : Prop := ∃ z : Int32, v = some (.int z) ∧ ((z = (1 : Int32) ∧ own_D di sv iv) ∨ (z = (0 : Int32) ∧ ¬ own_D di sv iv)) ∧ Fr n0 L ∧ h = h0
set_option maxRecDepth 65536 in
set_option maxHeartbeats 40000000 in
theorem own_isDue (l : Launch) (Z : State) (a0 : Array Value) (hw : ∀ d ∈ tables_1, d.before a0 Z = true) (ws : List Jvm.Cond) (b1 : Addr) (sv : Int64) (nw : Int64) (ss : Int64) (iv : UInt64) (di : Int64) (h0 : Heap) (n0 : Nat) (Z0 : n0 ≤ h0.size) (Fs : Fld Z h0 b1 "com/example/ferry/ferry/Pacer" "startNs" "J" (.long ss)) (Fi : Fld Z h0 b1 "com/example/ferry/ferry/Pacer" "intervalNs" "D" (.double iv)) (hi : (nw - ss) = di) (hnn : Jvm.Free.Fl.NoNaN64 (FP.dmul (FP.l2d sv) iv)) :
    MetFree l (⟨"com/example/ferry/ferry/Pacer", "isDue", "(JJ)Z"⟩ : MethodName) (head1 (Jvm.Cond.code (⟨"com/example/ferry/ferry/Pacer", "isDue", "(JJ)Z"⟩ : MethodName) prog_6_method_2_code 5 (some .boolean) :: ws) ({ frames := 0, cells := 0, slots := 0, locals := 0 } : Room)) (fun a U => a = #[(.ref b1), (.long sv), (.long nw)] ∧ Z.Warmed39 U.vm ∧ U.heap = h0) (fun _ _ _ _ _ => True) (fun _ U o U' => ∃ v L, o = .returned v ∧ Q_own_isDue Z b1 sv nw ss iv di h0 n0 v U'.heap L ∧ FrameEnd U o U' L ({ frames := 0, cells := 0, slots := 0, locals := 0 } : Room).cells ({ frames := 0, cells := 0, slots := 0, locals := 0 } : Room).slots) := by
  refine MetFree.of_bodySF (plainFor_of_name own_pn_own_isDue) hisR ?_
  intro p e s m args below meth c s₁ Bd hml0 hP hK
  obtain ⟨rfl, hZ, hh⟩ := hP
  have hx := Bd.exec
  have hby := Bd.bytes
  have hml : c.maxLocals = 5 := hml0
  have hown : s.vm.findClass "com/example/ferry/ferry/Pacer" = some m.cls := findClass_of_methodNamed Bd.named
  have hnm := (name_of_methodNamed Bd.named Bd.method).1
  have X0 : Stand p l e ({ frames := 0, cells := 0, slots := 0, locals := 0 } : Room) s m #[(.ref b1), (.long sv), (.long nw)] below meth c s₁ [] 0 0 := Stand.of_body Bd
  have e0 : s₁.heap = h0 := by rw [← hh, Bd.state]; rfl
  have N0 := Fr.nil n0
  have pre0 : Goes p e below s₁ (entryFrame m #[(.ref b1), (.long sv), (.long nw)] 5) s₁ (mkF m 0 #[.val (.ref b1), .val (.long sv), .second, .val (.long nw), .second] []) := fun t k => castTop (own_ef_own_isDue m b1 sv nw) k
  have pre1 : Goes p e below s₁ (entryFrame m #[(.ref b1), (.long sv), (.long nw)] 5) s₁ (mkF m 2 #[.val (.ref b1), .val (.long sv), .second, .val (.long nw), .second] [(.ref b1), (.long nw)]) := fun t kt => pre0 t (by
      show Steps p.tables e below (s₁.setTop (mkF m 0 #[.val (.ref b1), .val (.long sv), .second, .val (.long nw), .second] [])) _
      refine XS.lloadN X0.here hx rfl (hb hby own_d3_0) rfl ?_
      show Steps p.tables e below (s₁.setTop (mkF m 1 #[.val (.ref b1), .val (.long sv), .second, .val (.long nw), .second] [(.long nw)])) _
      refine XS.aloadN X0.here hx rfl (hb hby own_d3_1) rfl rfl ?_
      exact kt)
  obtain ⟨T2, X2, e2, st2⟩ := getF X0 hx hZ hown (host := "") (Or.inl (hw _ (List.mem_of_getElem? (i := 26) rfl))) Via.refl e0 Fs (g := (mkF m 2 #[.val (.ref b1), .val (.long sv), .second, .val (.long nw), .second] [(.ref b1), (.long nw)])) rfl rfl (hb hby own_d3_2)
  have pre3 : Goes p e below s₁ (entryFrame m #[(.ref b1), (.long sv), (.long nw)] 5) T2 (mkF m 5 #[.val (.ref b1), .val (.long sv), .second, .val (.long nw), .second] [(.long ss), (.long nw)]) := fun t kt => pre1 t (st2 t kt)
  have pre4 : Goes p e below s₁ (entryFrame m #[(.ref b1), (.long sv), (.long nw)] 5) T2 (mkF m 6 #[.val (.ref b1), .val (.long sv), .second, .val (.long nw), .second] [(.long (nw - ss))]) := fun t kt => pre3 t (by
      show Steps p.tables e below (T2.setTop (mkF m 5 #[.val (.ref b1), .val (.long sv), .second, .val (.long nw), .second] [(.long ss), (.long nw)])) _
      refine XS.lsub X2.here hx rfl (hb hby own_d3_5) rfl ?_
      exact kt)
  rw [show (nw - ss) = di from hi] at pre4
  have pre5 : Goes p e below s₁ (entryFrame m #[(.ref b1), (.long sv), (.long nw)] 5) T2 (mkF m 10 #[.val (.ref b1), .val (.long sv), .second, .val (.long nw), .second] [(.ref b1), (.double (FP.l2d sv)), (.double (FP.l2d di))]) := fun t kt => pre4 t (by
      show Steps p.tables e below (T2.setTop (mkF m 6 #[.val (.ref b1), .val (.long sv), .second, .val (.long nw), .second] [(.long di)])) _
      refine XS.l2dS X2.here hx rfl (hb hby own_d3_6) rfl rfl ?_
      show Steps p.tables e below (T2.setTop (mkF m 7 #[.val (.ref b1), .val (.long sv), .second, .val (.long nw), .second] [(.double (FP.l2d di))])) _
      refine XS.lloadN X2.here hx rfl (hb hby own_d3_7) rfl ?_
      show Steps p.tables e below (T2.setTop (mkF m 8 #[.val (.ref b1), .val (.long sv), .second, .val (.long nw), .second] [(.long sv), (.double (FP.l2d di))])) _
      refine XS.l2dS X2.here hx rfl (hb hby own_d3_8) rfl rfl ?_
      show Steps p.tables e below (T2.setTop (mkF m 9 #[.val (.ref b1), .val (.long sv), .second, .val (.long nw), .second] [(.double (FP.l2d sv)), (.double (FP.l2d di))])) _
      refine XS.aloadN X2.here hx rfl (hb hby own_d3_9) rfl rfl ?_
      exact kt)
  obtain ⟨T6, X6, e6, st6⟩ := getF X2 hx hZ hown (host := "") (Or.inl (hw _ (List.mem_of_getElem? (i := 28) rfl))) Via.refl e2 Fi (g := (mkF m 10 #[.val (.ref b1), .val (.long sv), .second, .val (.long nw), .second] [(.ref b1), (.double (FP.l2d sv)), (.double (FP.l2d di))])) rfl rfl (hb hby own_d3_10)
  have pre7 : Goes p e below s₁ (entryFrame m #[(.ref b1), (.long sv), (.long nw)] 5) T6 (mkF m 13 #[.val (.ref b1), .val (.long sv), .second, .val (.long nw), .second] [(.double iv), (.double (FP.l2d sv)), (.double (FP.l2d di))]) := fun t kt => pre5 t (st6 t kt)
  have pre8 : Goes p e below s₁ (entryFrame m #[(.ref b1), (.long sv), (.long nw)] 5) T6 (mkF m 15 #[.val (.ref b1), .val (.long sv), .second, .val (.long nw), .second] [(.int (cmpValue (FP.dcmp (FP.l2d di) (FP.dmul (FP.l2d sv) iv)) .l))]) := fun t kt => pre7 t (by
      show Steps p.tables e below (T6.setTop (mkF m 13 #[.val (.ref b1), .val (.long sv), .second, .val (.long nw), .second] [(.double iv), (.double (FP.l2d sv)), (.double (FP.l2d di))])) _
      refine XS.dmulS X6.here hx rfl (hb hby own_d3_13) rfl hnn rfl ?_
      show Steps p.tables e below (T6.setTop (mkF m 14 #[.val (.ref b1), .val (.long sv), .second, .val (.long nw), .second] [(.double (FP.dmul (FP.l2d sv) iv)), (.double (FP.l2d di))])) _
      refine XS.dcmpS X6.here hx rfl (hb hby own_d3_14) rfl rfl ?_
      exact kt)
  by_cases hc15_9 : (cmpValue (FP.dcmp (FP.l2d di) (FP.dmul (FP.l2d sv) iv)) .l) < (0 : Int32)
  · -- yes at pc 15: 
    have pre10 : Goes p e below s₁ (entryFrame m #[(.ref b1), (.long sv), (.long nw)] 5) T6 (mkF m 23 #[.val (.ref b1), .val (.long sv), .second, .val (.long nw), .second] [(.int (0 : Int32))]) := fun t kt => pre8 t (by
        show Steps p.tables e below (T6.setTop (mkF m 15 #[.val (.ref b1), .val (.long sv), .second, .val (.long nw), .second] [(.int (cmpValue (FP.dcmp (FP.l2d di) (FP.dmul (FP.l2d sv) iv)) .l))])) _
        refine XS.ifYes X6.here hx rfl (pc0 := 15) (pc' := 22) rfl (hb hby own_d3_15) rfl ((if0 _ _).trans (tlt hc15_9).1) (by decide) (by decide) ?_
        show Steps p.tables e below (T6.setTop (mkF m 22 #[.val (.ref b1), .val (.long sv), .second, .val (.long nw), .second] [])) _
        refine XS.iconst X6.here hx rfl (hb hby own_d3_22) ?_
        exact kt)
    obtain ⟨fs, hr, hrun, hended, hW, hsame⟩ := X6.leave (v := some (.int (0 : Int32))) (fun h => by rw [Bd.returns] at h; cases h) Bd.notSynchronized
    refine ⟨_, _, pre10 _ ?_, hrun, hended, _, _, rfl, ?_, ⟨_, rfl⟩, hW, hsame.mono (by decide) (by decide)⟩
    · show Steps p.tables e below (T6.setTop (mkF m 23 #[.val (.ref b1), .val (.long sv), .second, .val (.long nw), .second] [(.int (0 : Int32))])) _
      exact retN X6 hx (t := .boolean) Bd.returns (by simp) (hb hby own_d3_23) hr
    · show Q_own_isDue Z b1 sv nw ss iv di h0 n0 _ T6.heap _
      rw [e6]
      exact ⟨_, rfl, Or.inr ⟨rfl, (own_cl hnn).mp hc15_9⟩, N0, rfl⟩
  · -- no at pc 15: 
    have pre11 : Goes p e below s₁ (entryFrame m #[(.ref b1), (.long sv), (.long nw)] 5) T6 (mkF m 23 #[.val (.ref b1), .val (.long sv), .second, .val (.long nw), .second] [(.int (1 : Int32))]) := fun t kt => pre8 t (by
        show Steps p.tables e below (T6.setTop (mkF m 15 #[.val (.ref b1), .val (.long sv), .second, .val (.long nw), .second] [(.int (cmpValue (FP.dcmp (FP.l2d di) (FP.dmul (FP.l2d sv) iv)) .l))])) _
        refine XS.ifNo X6.here hx rfl (hb hby own_d3_15) rfl ((if0 _ _).trans (flt hc15_9).1) ?_
        show Steps p.tables e below (T6.setTop (mkF m 18 #[.val (.ref b1), .val (.long sv), .second, .val (.long nw), .second] [])) _
        refine XS.iconst X6.here hx rfl (hb hby own_d3_18) ?_
        show Steps p.tables e below (T6.setTop (mkF m 19 #[.val (.ref b1), .val (.long sv), .second, .val (.long nw), .second] [(.int (1 : Int32))])) _
        refine XS.goto X6.here hx rfl (pc0 := 19) (pc' := 23) rfl (hb hby own_d3_19) (by decide) (by decide) ?_
        exact kt)
    obtain ⟨fs, hr, hrun, hended, hW, hsame⟩ := X6.leave (v := some (.int (1 : Int32))) (fun h => by rw [Bd.returns] at h; cases h) Bd.notSynchronized
    refine ⟨_, _, pre11 _ ?_, hrun, hended, _, _, rfl, ?_, ⟨_, rfl⟩, hW, hsame.mono (by decide) (by decide)⟩
    · show Steps p.tables e below (T6.setTop (mkF m 23 #[.val (.ref b1), .val (.long sv), .second, .val (.long nw), .second] [(.int (1 : Int32))])) _
      exact retN X6 hx (t := .boolean) Bd.returns (by simp) (hb hby own_d3_23) hr
    · show Q_own_isDue Z b1 sv nw ss iv di h0 n0 _ T6.heap _
      rw [e6]
      exact ⟨_, rfl, Or.inl ⟨rfl, own_clN hnn hc15_9⟩, N0, rfl⟩
theorem own_pn_own_rm0 : plainName "com/example/ferry/ferry/PacerIsDuePinLaw" = true := by first | (simp [plainName, overriddenIn]; done) | decide +kernel
theorem own_ef_own_rm0 (m : MethodId) (x0 : Int32) (x1 : Int32) (x2 : Int64) (x3 : Int64) (x4 : Int32) : entryFrame m #[(.int x0), (.int x1), (.long x2), (.long x3), (.int x4)] maxLocals = mkF m 0 #[.val (.int x0), .val (.int x1), .val (.long x2), .second, .val (.long x3), .second, .val (.int x4), .unset, .unset, .unset, .unset, .unset, .unset, .unset, .unset, .unset, .unset, .unset, .unset, .unset, .unset, .unset, .unset] [] := by first | (simp [entryFrame, mkF, argsToLocals, Value.category, maxLocals]; done) | rfl
def Q_own_rm0 (Z : State) (pr : Int32) (ps : Int32) (pt : Int64) (pd : Int64) (pm : Int32) (h0 : Heap) (n0 : Nat) (v : Option Value) (h : Heap) (L : List Loc) : Prop := v = some (.int (1 : Int32)) ∧ Fr n0 L
set_option maxRecDepth 65536 in
set_option maxHeartbeats 40000000 in
theorem own_rm0 (l : Launch) (Z : State) (a0 : Array Value) (hw : ∀ d ∈ tables_1, d.before a0 Z = true) (ws : List Jvm.Cond) (pr : Int32) (ps : Int32) (pt : Int64) (pd : Int64) (pm : Int32) (h0 : Heap) (n0 : Nat) (Z0 : n0 ≤ h0.size) :
    MetFree l x (head1 (Jvm.Cond.code x code maxLocals ret :: ws) room_1) (fun a U => a = #[(.int pr), (.int ps), (.long pt), (.long pd), (.int pm)] ∧ Z.Warmed39 U.vm ∧ U.heap = h0) (fun _ _ _ _ _ => True) (fun _ U o U' => ∃ v L, o = .returned v ∧ Q_own_rm0 Z pr ps pt pd pm h0 n0 v U'.heap L ∧ FrameEnd U o U' L room_1.cells room_1.slots) := by
  refine MetFree.of_bodySF (plainFor_of_name own_pn_own_rm0) hisR ?_
  intro p e s m args below meth c s₁ Bd hml0 hP hK
  obtain ⟨rfl, hZ, hh⟩ := hP
  have hx := Bd.exec
  have hby := Bd.bytes
  have hml : c.maxLocals = 23 := hml0
  have hown : s.vm.findClass "com/example/ferry/ferry/PacerIsDuePinLaw" = some m.cls := findClass_of_methodNamed Bd.named
  have hnm := (name_of_methodNamed Bd.named Bd.method).1
  have X0 : Stand p l e room_1 s m #[(.int pr), (.int ps), (.long pt), (.long pd), (.int pm)] below meth c s₁ [] 0 0 := Stand.of_body Bd
  have e0 : s₁.heap = h0 := by rw [← hh, Bd.state]; rfl
  have N0 := Fr.nil n0
  have pre0 : Goes p e below s₁ (entryFrame m #[(.int pr), (.int ps), (.long pt), (.long pd), (.int pm)] maxLocals) s₁ (mkF m 0 #[.val (.int pr), .val (.int ps), .val (.long pt), .second, .val (.long pd), .second, .val (.int pm), .unset, .unset, .unset, .unset, .unset, .unset, .unset, .unset, .unset, .unset, .unset, .unset, .unset, .unset, .unset, .unset] []) := fun t k => castTop (own_ef_own_rm0 m pr ps pt pd pm) k
  have pre1 : Goes p e below s₁ (entryFrame m #[(.int pr), (.int ps), (.long pt), (.long pd), (.int pm)] maxLocals) s₁ (mkF m 2 #[.val (.int pr), .val (.int ps), .val (.long pt), .second, .val (.long pd), .second, .val (.int pm), .unset, .unset, .unset, .unset, .unset, .unset, .unset, .unset, .unset, .unset, .unset, .unset, .unset, .unset, .unset, .unset] [(.int (16 : Int32))]) := fun t kt => pre0 t (by
      show Steps p.tables e below (s₁.setTop (mkF m 0 #[.val (.int pr), .val (.int ps), .val (.long pt), .second, .val (.long pd), .second, .val (.int pm), .unset, .unset, .unset, .unset, .unset, .unset, .unset, .unset, .unset, .unset, .unset, .unset, .unset, .unset, .unset, .unset] [])) _
      refine XS.bipush X0.here hx rfl (hb hby at_0) ?_
      exact kt)
  obtain ⟨T2, h2, k2, X2, e2, E2, A2, st2⟩ := newP X0 hx hZ (hw _ (List.mem_of_getElem? (i := 0) rfl)) e0 (g := (mkF m 2 #[.val (.int pr), .val (.int ps), .val (.long pt), .second, .val (.long pd), .second, .val (.int pm), .unset, .unset, .unset, .unset, .unset, .unset, .unset, .unset, .unset, .unset, .unset, .unset, .unset, .unset, .unset, .unset] [(.int (16 : Int32))])) rfl (hb hby at_2) rfl (by decide) (cap := 16) (by decide) (by decide) (by decide) (by decide)
  obtain ⟨b2, g2⟩ : ∃ z, z = h0.size := ⟨_, rfl⟩
  rw [← g2] at A2 st2
  have V_b2 : Arv Z h2 b2 k2 .long (16 : Int32) [(.long (0 : Int64)), (.long (0 : Int64)), (.long (0 : Int64)), (.long (0 : Int64)), (.long (0 : Int64)), (.long (0 : Int64)), (.long (0 : Int64)), (.long (0 : Int64)), (.long (0 : Int64)), (.long (0 : Int64)), (.long (0 : Int64)), (.long (0 : Int64)), (.long (0 : Int64)), (.long (0 : Int64)), (.long (0 : Int64)), (.long (0 : Int64))] (.long (0 : Int64)) := (Arv.new A2 (by decide)).pad (pad_rep [] (.long (0 : Int64)) 16)
  have g_b2 : n0 ≤ b2 := Nat.le_trans Z0 (Nat.le_of_eq g2.symm)
  have sz_b2 : h0.size ≤ b2 := (Nat.le_trans (Keep.refl h0 []).1 (Nat.le_of_eq g2.symm))
  have K2 : Keep h0 h2 [] := (Keep.refl h0 []).ext E2
  have pre3 : Goes p e below s₁ (entryFrame m #[(.int pr), (.int ps), (.long pt), (.long pd), (.int pm)] maxLocals) T2 (mkF m 4 #[.val (.int pr), .val (.int ps), .val (.long pt), .second, .val (.long pd), .second, .val (.int pm), .unset, .unset, .unset, .unset, .unset, .unset, .unset, .unset, .unset, .unset, .unset, .unset, .unset, .unset, .unset, .unset] [(.ref b2)]) := fun t kt => pre1 t (st2 t kt)
  have pre4 : Goes p e below s₁ (entryFrame m #[(.int pr), (.int ps), (.long pt), (.long pd), (.int pm)] maxLocals) T2 (mkF m 7 #[.val (.int pr), .val (.int ps), .val (.long pt), .second, .val (.long pd), .second, .val (.int pm), .unset, .unset, .unset, .unset, .unset, .unset, .unset, .unset, .unset, .unset, .unset, .unset, .unset, .unset, .unset, .unset] [(.long (0 : Int64)), (.int (0 : Int32)), (.ref b2), (.ref b2)]) := fun t kt => pre3 t (by
      show Steps p.tables e below (T2.setTop (mkF m 4 #[.val (.int pr), .val (.int ps), .val (.long pt), .second, .val (.long pd), .second, .val (.int pm), .unset, .unset, .unset, .unset, .unset, .unset, .unset, .unset, .unset, .unset, .unset, .unset, .unset, .unset, .unset, .unset] [(.ref b2)])) _
      refine XS.dup X2.here hx rfl (hb hby at_4) rfl rfl ?_
      show Steps p.tables e below (T2.setTop (mkF m 5 #[.val (.int pr), .val (.int ps), .val (.long pt), .second, .val (.long pd), .second, .val (.int pm), .unset, .unset, .unset, .unset, .unset, .unset, .unset, .unset, .unset, .unset, .unset, .unset, .unset, .unset, .unset, .unset] [(.ref b2), (.ref b2)])) _
      refine XS.iconst X2.here hx rfl (hb hby at_5) ?_
      show Steps p.tables e below (T2.setTop (mkF m 6 #[.val (.int pr), .val (.int ps), .val (.long pt), .second, .val (.long pd), .second, .val (.int pm), .unset, .unset, .unset, .unset, .unset, .unset, .unset, .unset, .unset, .unset, .unset, .unset, .unset, .unset, .unset, .unset] [(.int (0 : Int32)), (.ref b2), (.ref b2)])) _
      refine XS.lconst X2.here hx rfl (hb hby at_6) ?_
      exact kt)
  obtain ⟨cl5, Ar5, q5, S5, N_5, H5, G5⟩ := (id (V_b2))
  have hin5 : ¬ ((0 : Int32) < 0 ∨ cl5.slots.size ≤ ((0 : Int32)).toNatClampNeg) := inb_of S5 ⟨by decide, by decide⟩
  obtain ⟨T6, h6, X6, e6, W6, st6⟩ := stJ X2 hx hZ e2 Ar5 (j := (0 : Int32)) hin5 (g := (mkF m 7 #[.val (.int pr), .val (.int ps), .val (.long pt), .second, .val (.long pd), .second, .val (.int pm), .unset, .unset, .unset, .unset, .unset, .unset, .unset, .unset, .unset, .unset, .unset, .unset, .unset, .unset, .unset, .unset] [(.long (0 : Int64)), (.int (0 : Int32)), (.ref b2), (.ref b2)])) rfl rfl (hb hby at_7)
  have V6 : Arv Z h6 b2 k2 .long (16 : Int32) [(.long (0 : Int64)), (.long (0 : Int64)), (.long (0 : Int64)), (.long (0 : Int64)), (.long (0 : Int64)), (.long (0 : Int64)), (.long (0 : Int64)), (.long (0 : Int64)), (.long (0 : Int64)), (.long (0 : Int64)), (.long (0 : Int64)), (.long (0 : Int64)), (.long (0 : Int64)), (.long (0 : Int64)), (.long (0 : Int64)), (.long (0 : Int64))] (.long (0 : Int64)) := Arv.set Ar5 q5 S5 N_5 H5 G5 rfl W6 0 rfl (Nat.le_of_ble_eq_true rfl)
  have K6 : Keep h0 h6 [] := K2.wr W6 (Or.inr sz_b2)
  have N6 := Fr.snoc X6 N0 g_b2
  have pre7 : Goes p e below s₁ (entryFrame m #[(.int pr), (.int ps), (.long pt), (.long pd), (.int pm)] maxLocals) T6 (mkF m 8 #[.val (.int pr), .val (.int ps), .val (.long pt), .second, .val (.long pd), .second, .val (.int pm), .unset, .unset, .unset, .unset, .unset, .unset, .unset, .unset, .unset, .unset, .unset, .unset, .unset, .unset, .unset, .unset] [(.ref b2)]) := fun t kt => pre4 t (st6 t kt)
  have pre8 : Goes p e below s₁ (entryFrame m #[(.int pr), (.int ps), (.long pt), (.long pd), (.int pm)] maxLocals) T6 (mkF m 11 #[.val (.int pr), .val (.int ps), .val (.long pt), .second, .val (.long pd), .second, .val (.int pm), .unset, .unset, .unset, .unset, .unset, .unset, .unset, .unset, .unset, .unset, .unset, .unset, .unset, .unset, .unset, .unset] [(.long (1 : Int64)), (.int (1 : Int32)), (.ref b2), (.ref b2)]) := fun t kt => pre7 t (by
      show Steps p.tables e below (T6.setTop (mkF m 8 #[.val (.int pr), .val (.int ps), .val (.long pt), .second, .val (.long pd), .second, .val (.int pm), .unset, .unset, .unset, .unset, .unset, .unset, .unset, .unset, .unset, .unset, .unset, .unset, .unset, .unset, .unset, .unset] [(.ref b2)])) _
      refine XS.dup X6.here hx rfl (hb hby at_8) rfl rfl ?_
      show Steps p.tables e below (T6.setTop (mkF m 9 #[.val (.int pr), .val (.int ps), .val (.long pt), .second, .val (.long pd), .second, .val (.int pm), .unset, .unset, .unset, .unset, .unset, .unset, .unset, .unset, .unset, .unset, .unset, .unset, .unset, .unset, .unset, .unset] [(.ref b2), (.ref b2)])) _
      refine XS.iconst X6.here hx rfl (hb hby at_9) ?_
      show Steps p.tables e below (T6.setTop (mkF m 10 #[.val (.int pr), .val (.int ps), .val (.long pt), .second, .val (.long pd), .second, .val (.int pm), .unset, .unset, .unset, .unset, .unset, .unset, .unset, .unset, .unset, .unset, .unset, .unset, .unset, .unset, .unset, .unset] [(.int (1 : Int32)), (.ref b2), (.ref b2)])) _
      refine XS.lconst X6.here hx rfl (hb hby at_10) ?_
      exact kt)
  obtain ⟨cl9, Ar9, q9, S9, N_9, H9, G9⟩ := (id (V6))
  have hin9 : ¬ ((1 : Int32) < 0 ∨ cl9.slots.size ≤ ((1 : Int32)).toNatClampNeg) := inb_of S9 ⟨by decide, by decide⟩
  obtain ⟨T10, h10, X10, e10, W10, st10⟩ := stJ X6 hx hZ e6 Ar9 (j := (1 : Int32)) hin9 (g := (mkF m 11 #[.val (.int pr), .val (.int ps), .val (.long pt), .second, .val (.long pd), .second, .val (.int pm), .unset, .unset, .unset, .unset, .unset, .unset, .unset, .unset, .unset, .unset, .unset, .unset, .unset, .unset, .unset, .unset] [(.long (1 : Int64)), (.int (1 : Int32)), (.ref b2), (.ref b2)])) rfl rfl (hb hby at_11)
  have V10 : Arv Z h10 b2 k2 .long (16 : Int32) [(.long (0 : Int64)), (.long (1 : Int64)), (.long (0 : Int64)), (.long (0 : Int64)), (.long (0 : Int64)), (.long (0 : Int64)), (.long (0 : Int64)), (.long (0 : Int64)), (.long (0 : Int64)), (.long (0 : Int64)), (.long (0 : Int64)), (.long (0 : Int64)), (.long (0 : Int64)), (.long (0 : Int64)), (.long (0 : Int64)), (.long (0 : Int64))] (.long (0 : Int64)) := Arv.set Ar9 q9 S9 N_9 H9 G9 rfl W10 1 rfl (Nat.le_of_ble_eq_true rfl)
  have K10 : Keep h0 h10 [] := K6.wr W10 (Or.inr sz_b2)
  have N10 := Fr.snoc X10 N6 g_b2
  have pre11 : Goes p e below s₁ (entryFrame m #[(.int pr), (.int ps), (.long pt), (.long pd), (.int pm)] maxLocals) T10 (mkF m 12 #[.val (.int pr), .val (.int ps), .val (.long pt), .second, .val (.long pd), .second, .val (.int pm), .unset, .unset, .unset, .unset, .unset, .unset, .unset, .unset, .unset, .unset, .unset, .unset, .unset, .unset, .unset, .unset] [(.ref b2)]) := fun t kt => pre8 t (st10 t kt)
  have pre12 : Goes p e below s₁ (entryFrame m #[(.int pr), (.int ps), (.long pt), (.long pd), (.int pm)] maxLocals) T10 (mkF m 17 #[.val (.int pr), .val (.int ps), .val (.long pt), .second, .val (.long pd), .second, .val (.int pm), .unset, .unset, .unset, .unset, .unset, .unset, .unset, .unset, .unset, .unset, .unset, .unset, .unset, .unset, .unset, .unset] [(.long (2 : Int64)), (.int (2 : Int32)), (.ref b2), (.ref b2)]) := fun t kt => pre11 t (by
      show Steps p.tables e below (T10.setTop (mkF m 12 #[.val (.int pr), .val (.int ps), .val (.long pt), .second, .val (.long pd), .second, .val (.int pm), .unset, .unset, .unset, .unset, .unset, .unset, .unset, .unset, .unset, .unset, .unset, .unset, .unset, .unset, .unset, .unset] [(.ref b2)])) _
      refine XS.dup X10.here hx rfl (hb hby at_12) rfl rfl ?_
      show Steps p.tables e below (T10.setTop (mkF m 13 #[.val (.int pr), .val (.int ps), .val (.long pt), .second, .val (.long pd), .second, .val (.int pm), .unset, .unset, .unset, .unset, .unset, .unset, .unset, .unset, .unset, .unset, .unset, .unset, .unset, .unset, .unset, .unset] [(.ref b2), (.ref b2)])) _
      refine XS.iconst X10.here hx rfl (hb hby at_13) ?_
      show Steps p.tables e below (T10.setTop (mkF m 14 #[.val (.int pr), .val (.int ps), .val (.long pt), .second, .val (.long pd), .second, .val (.int pm), .unset, .unset, .unset, .unset, .unset, .unset, .unset, .unset, .unset, .unset, .unset, .unset, .unset, .unset, .unset, .unset] [(.int (2 : Int32)), (.ref b2), (.ref b2)])) _
      refine X10.ldc2Long hx hown (mvT hZ (hw _ (List.mem_of_getElem? (i := 1) rfl))) (g := (mkF m 14 #[.val (.int pr), .val (.int ps), .val (.long pt), .second, .val (.long pd), .second, .val (.int pm), .unset, .unset, .unset, .unset, .unset, .unset, .unset, .unset, .unset, .unset, .unset, .unset, .unset, .unset, .unset, .unset] [(.int (2 : Int32)), (.ref b2), (.ref b2)])) rfl (hb hby at_14) _ ?_
      exact kt)
  obtain ⟨cl13, Ar13, q13, S13, N_13, H13, G13⟩ := (id (V10))
  have hin13 : ¬ ((2 : Int32) < 0 ∨ cl13.slots.size ≤ ((2 : Int32)).toNatClampNeg) := inb_of S13 ⟨by decide, by decide⟩
  obtain ⟨T14, h14, X14, e14, W14, st14⟩ := stJ X10 hx hZ e10 Ar13 (j := (2 : Int32)) hin13 (g := (mkF m 17 #[.val (.int pr), .val (.int ps), .val (.long pt), .second, .val (.long pd), .second, .val (.int pm), .unset, .unset, .unset, .unset, .unset, .unset, .unset, .unset, .unset, .unset, .unset, .unset, .unset, .unset, .unset, .unset] [(.long (2 : Int64)), (.int (2 : Int32)), (.ref b2), (.ref b2)])) rfl rfl (hb hby at_17)
  have V14 : Arv Z h14 b2 k2 .long (16 : Int32) [(.long (0 : Int64)), (.long (1 : Int64)), (.long (2 : Int64)), (.long (0 : Int64)), (.long (0 : Int64)), (.long (0 : Int64)), (.long (0 : Int64)), (.long (0 : Int64)), (.long (0 : Int64)), (.long (0 : Int64)), (.long (0 : Int64)), (.long (0 : Int64)), (.long (0 : Int64)), (.long (0 : Int64)), (.long (0 : Int64)), (.long (0 : Int64))] (.long (0 : Int64)) := Arv.set Ar13 q13 S13 N_13 H13 G13 rfl W14 2 rfl (Nat.le_of_ble_eq_true rfl)
  have K14 : Keep h0 h14 [] := K10.wr W14 (Or.inr sz_b2)
  have N14 := Fr.snoc X14 N10 g_b2
  have pre15 : Goes p e below s₁ (entryFrame m #[(.int pr), (.int ps), (.long pt), (.long pd), (.int pm)] maxLocals) T14 (mkF m 18 #[.val (.int pr), .val (.int ps), .val (.long pt), .second, .val (.long pd), .second, .val (.int pm), .unset, .unset, .unset, .unset, .unset, .unset, .unset, .unset, .unset, .unset, .unset, .unset, .unset, .unset, .unset, .unset] [(.ref b2)]) := fun t kt => pre12 t (st14 t kt)
  have pre16 : Goes p e below s₁ (entryFrame m #[(.int pr), (.int ps), (.long pt), (.long pd), (.int pm)] maxLocals) T14 (mkF m 23 #[.val (.int pr), .val (.int ps), .val (.long pt), .second, .val (.long pd), .second, .val (.int pm), .unset, .unset, .unset, .unset, .unset, .unset, .unset, .unset, .unset, .unset, .unset, .unset, .unset, .unset, .unset, .unset] [(.long (4 : Int64)), (.int (3 : Int32)), (.ref b2), (.ref b2)]) := fun t kt => pre15 t (by
      show Steps p.tables e below (T14.setTop (mkF m 18 #[.val (.int pr), .val (.int ps), .val (.long pt), .second, .val (.long pd), .second, .val (.int pm), .unset, .unset, .unset, .unset, .unset, .unset, .unset, .unset, .unset, .unset, .unset, .unset, .unset, .unset, .unset, .unset] [(.ref b2)])) _
      refine XS.dup X14.here hx rfl (hb hby at_18) rfl rfl ?_
      show Steps p.tables e below (T14.setTop (mkF m 19 #[.val (.int pr), .val (.int ps), .val (.long pt), .second, .val (.long pd), .second, .val (.int pm), .unset, .unset, .unset, .unset, .unset, .unset, .unset, .unset, .unset, .unset, .unset, .unset, .unset, .unset, .unset, .unset] [(.ref b2), (.ref b2)])) _
      refine XS.iconst X14.here hx rfl (hb hby at_19) ?_
      show Steps p.tables e below (T14.setTop (mkF m 20 #[.val (.int pr), .val (.int ps), .val (.long pt), .second, .val (.long pd), .second, .val (.int pm), .unset, .unset, .unset, .unset, .unset, .unset, .unset, .unset, .unset, .unset, .unset, .unset, .unset, .unset, .unset, .unset] [(.int (3 : Int32)), (.ref b2), (.ref b2)])) _
      refine X14.ldc2Long hx hown (mvT hZ (hw _ (List.mem_of_getElem? (i := 2) rfl))) (g := (mkF m 20 #[.val (.int pr), .val (.int ps), .val (.long pt), .second, .val (.long pd), .second, .val (.int pm), .unset, .unset, .unset, .unset, .unset, .unset, .unset, .unset, .unset, .unset, .unset, .unset, .unset, .unset, .unset, .unset] [(.int (3 : Int32)), (.ref b2), (.ref b2)])) rfl (hb hby at_20) _ ?_
      exact kt)
  obtain ⟨cl17, Ar17, q17, S17, N_17, H17, G17⟩ := (id (V14))
  have hin17 : ¬ ((3 : Int32) < 0 ∨ cl17.slots.size ≤ ((3 : Int32)).toNatClampNeg) := inb_of S17 ⟨by decide, by decide⟩
  obtain ⟨T18, h18, X18, e18, W18, st18⟩ := stJ X14 hx hZ e14 Ar17 (j := (3 : Int32)) hin17 (g := (mkF m 23 #[.val (.int pr), .val (.int ps), .val (.long pt), .second, .val (.long pd), .second, .val (.int pm), .unset, .unset, .unset, .unset, .unset, .unset, .unset, .unset, .unset, .unset, .unset, .unset, .unset, .unset, .unset, .unset] [(.long (4 : Int64)), (.int (3 : Int32)), (.ref b2), (.ref b2)])) rfl rfl (hb hby at_23)
  have V18 : Arv Z h18 b2 k2 .long (16 : Int32) [(.long (0 : Int64)), (.long (1 : Int64)), (.long (2 : Int64)), (.long (4 : Int64)), (.long (0 : Int64)), (.long (0 : Int64)), (.long (0 : Int64)), (.long (0 : Int64)), (.long (0 : Int64)), (.long (0 : Int64)), (.long (0 : Int64)), (.long (0 : Int64)), (.long (0 : Int64)), (.long (0 : Int64)), (.long (0 : Int64)), (.long (0 : Int64))] (.long (0 : Int64)) := Arv.set Ar17 q17 S17 N_17 H17 G17 rfl W18 3 rfl (Nat.le_of_ble_eq_true rfl)
  have K18 : Keep h0 h18 [] := K14.wr W18 (Or.inr sz_b2)
  have N18 := Fr.snoc X18 N14 g_b2
  have pre19 : Goes p e below s₁ (entryFrame m #[(.int pr), (.int ps), (.long pt), (.long pd), (.int pm)] maxLocals) T18 (mkF m 24 #[.val (.int pr), .val (.int ps), .val (.long pt), .second, .val (.long pd), .second, .val (.int pm), .unset, .unset, .unset, .unset, .unset, .unset, .unset, .unset, .unset, .unset, .unset, .unset, .unset, .unset, .unset, .unset] [(.ref b2)]) := fun t kt => pre16 t (st18 t kt)
  have pre20 : Goes p e below s₁ (entryFrame m #[(.int pr), (.int ps), (.long pt), (.long pd), (.int pm)] maxLocals) T18 (mkF m 29 #[.val (.int pr), .val (.int ps), .val (.long pt), .second, .val (.long pd), .second, .val (.int pm), .unset, .unset, .unset, .unset, .unset, .unset, .unset, .unset, .unset, .unset, .unset, .unset, .unset, .unset, .unset, .unset] [(.long (5 : Int64)), (.int (4 : Int32)), (.ref b2), (.ref b2)]) := fun t kt => pre19 t (by
      show Steps p.tables e below (T18.setTop (mkF m 24 #[.val (.int pr), .val (.int ps), .val (.long pt), .second, .val (.long pd), .second, .val (.int pm), .unset, .unset, .unset, .unset, .unset, .unset, .unset, .unset, .unset, .unset, .unset, .unset, .unset, .unset, .unset, .unset] [(.ref b2)])) _
      refine XS.dup X18.here hx rfl (hb hby at_24) rfl rfl ?_
      show Steps p.tables e below (T18.setTop (mkF m 25 #[.val (.int pr), .val (.int ps), .val (.long pt), .second, .val (.long pd), .second, .val (.int pm), .unset, .unset, .unset, .unset, .unset, .unset, .unset, .unset, .unset, .unset, .unset, .unset, .unset, .unset, .unset, .unset] [(.ref b2), (.ref b2)])) _
      refine XS.iconst X18.here hx rfl (hb hby at_25) ?_
      show Steps p.tables e below (T18.setTop (mkF m 26 #[.val (.int pr), .val (.int ps), .val (.long pt), .second, .val (.long pd), .second, .val (.int pm), .unset, .unset, .unset, .unset, .unset, .unset, .unset, .unset, .unset, .unset, .unset, .unset, .unset, .unset, .unset, .unset] [(.int (4 : Int32)), (.ref b2), (.ref b2)])) _
      refine X18.ldc2Long hx hown (mvT hZ (hw _ (List.mem_of_getElem? (i := 3) rfl))) (g := (mkF m 26 #[.val (.int pr), .val (.int ps), .val (.long pt), .second, .val (.long pd), .second, .val (.int pm), .unset, .unset, .unset, .unset, .unset, .unset, .unset, .unset, .unset, .unset, .unset, .unset, .unset, .unset, .unset, .unset] [(.int (4 : Int32)), (.ref b2), (.ref b2)])) rfl (hb hby at_26) _ ?_
      exact kt)
  obtain ⟨cl21, Ar21, q21, S21, N_21, H21, G21⟩ := (id (V18))
  have hin21 : ¬ ((4 : Int32) < 0 ∨ cl21.slots.size ≤ ((4 : Int32)).toNatClampNeg) := inb_of S21 ⟨by decide, by decide⟩
  obtain ⟨T22, h22, X22, e22, W22, st22⟩ := stJ X18 hx hZ e18 Ar21 (j := (4 : Int32)) hin21 (g := (mkF m 29 #[.val (.int pr), .val (.int ps), .val (.long pt), .second, .val (.long pd), .second, .val (.int pm), .unset, .unset, .unset, .unset, .unset, .unset, .unset, .unset, .unset, .unset, .unset, .unset, .unset, .unset, .unset, .unset] [(.long (5 : Int64)), (.int (4 : Int32)), (.ref b2), (.ref b2)])) rfl rfl (hb hby at_29)
  have V22 : Arv Z h22 b2 k2 .long (16 : Int32) [(.long (0 : Int64)), (.long (1 : Int64)), (.long (2 : Int64)), (.long (4 : Int64)), (.long (5 : Int64)), (.long (0 : Int64)), (.long (0 : Int64)), (.long (0 : Int64)), (.long (0 : Int64)), (.long (0 : Int64)), (.long (0 : Int64)), (.long (0 : Int64)), (.long (0 : Int64)), (.long (0 : Int64)), (.long (0 : Int64)), (.long (0 : Int64))] (.long (0 : Int64)) := Arv.set Ar21 q21 S21 N_21 H21 G21 rfl W22 4 rfl (Nat.le_of_ble_eq_true rfl)
  have K22 : Keep h0 h22 [] := K18.wr W22 (Or.inr sz_b2)
  have N22 := Fr.snoc X22 N18 g_b2
  have pre23 : Goes p e below s₁ (entryFrame m #[(.int pr), (.int ps), (.long pt), (.long pd), (.int pm)] maxLocals) T22 (mkF m 30 #[.val (.int pr), .val (.int ps), .val (.long pt), .second, .val (.long pd), .second, .val (.int pm), .unset, .unset, .unset, .unset, .unset, .unset, .unset, .unset, .unset, .unset, .unset, .unset, .unset, .unset, .unset, .unset] [(.ref b2)]) := fun t kt => pre20 t (st22 t kt)
  have pre24 : Goes p e below s₁ (entryFrame m #[(.int pr), (.int ps), (.long pt), (.long pd), (.int pm)] maxLocals) T22 (mkF m 35 #[.val (.int pr), .val (.int ps), .val (.long pt), .second, .val (.long pd), .second, .val (.int pm), .unset, .unset, .unset, .unset, .unset, .unset, .unset, .unset, .unset, .unset, .unset, .unset, .unset, .unset, .unset, .unset] [(.long (8 : Int64)), (.int (5 : Int32)), (.ref b2), (.ref b2)]) := fun t kt => pre23 t (by
      show Steps p.tables e below (T22.setTop (mkF m 30 #[.val (.int pr), .val (.int ps), .val (.long pt), .second, .val (.long pd), .second, .val (.int pm), .unset, .unset, .unset, .unset, .unset, .unset, .unset, .unset, .unset, .unset, .unset, .unset, .unset, .unset, .unset, .unset] [(.ref b2)])) _
      refine XS.dup X22.here hx rfl (hb hby at_30) rfl rfl ?_
      show Steps p.tables e below (T22.setTop (mkF m 31 #[.val (.int pr), .val (.int ps), .val (.long pt), .second, .val (.long pd), .second, .val (.int pm), .unset, .unset, .unset, .unset, .unset, .unset, .unset, .unset, .unset, .unset, .unset, .unset, .unset, .unset, .unset, .unset] [(.ref b2), (.ref b2)])) _
      refine XS.iconst X22.here hx rfl (hb hby at_31) ?_
      show Steps p.tables e below (T22.setTop (mkF m 32 #[.val (.int pr), .val (.int ps), .val (.long pt), .second, .val (.long pd), .second, .val (.int pm), .unset, .unset, .unset, .unset, .unset, .unset, .unset, .unset, .unset, .unset, .unset, .unset, .unset, .unset, .unset, .unset] [(.int (5 : Int32)), (.ref b2), (.ref b2)])) _
      refine X22.ldc2Long hx hown (mvT hZ (hw _ (List.mem_of_getElem? (i := 4) rfl))) (g := (mkF m 32 #[.val (.int pr), .val (.int ps), .val (.long pt), .second, .val (.long pd), .second, .val (.int pm), .unset, .unset, .unset, .unset, .unset, .unset, .unset, .unset, .unset, .unset, .unset, .unset, .unset, .unset, .unset, .unset] [(.int (5 : Int32)), (.ref b2), (.ref b2)])) rfl (hb hby at_32) _ ?_
      exact kt)
  obtain ⟨cl25, Ar25, q25, S25, N_25, H25, G25⟩ := (id (V22))
  have hin25 : ¬ ((5 : Int32) < 0 ∨ cl25.slots.size ≤ ((5 : Int32)).toNatClampNeg) := inb_of S25 ⟨by decide, by decide⟩
  obtain ⟨T26, h26, X26, e26, W26, st26⟩ := stJ X22 hx hZ e22 Ar25 (j := (5 : Int32)) hin25 (g := (mkF m 35 #[.val (.int pr), .val (.int ps), .val (.long pt), .second, .val (.long pd), .second, .val (.int pm), .unset, .unset, .unset, .unset, .unset, .unset, .unset, .unset, .unset, .unset, .unset, .unset, .unset, .unset, .unset, .unset] [(.long (8 : Int64)), (.int (5 : Int32)), (.ref b2), (.ref b2)])) rfl rfl (hb hby at_35)
  have V26 : Arv Z h26 b2 k2 .long (16 : Int32) [(.long (0 : Int64)), (.long (1 : Int64)), (.long (2 : Int64)), (.long (4 : Int64)), (.long (5 : Int64)), (.long (8 : Int64)), (.long (0 : Int64)), (.long (0 : Int64)), (.long (0 : Int64)), (.long (0 : Int64)), (.long (0 : Int64)), (.long (0 : Int64)), (.long (0 : Int64)), (.long (0 : Int64)), (.long (0 : Int64)), (.long (0 : Int64))] (.long (0 : Int64)) := Arv.set Ar25 q25 S25 N_25 H25 G25 rfl W26 5 rfl (Nat.le_of_ble_eq_true rfl)
  have K26 : Keep h0 h26 [] := K22.wr W26 (Or.inr sz_b2)
  have N26 := Fr.snoc X26 N22 g_b2
  have pre27 : Goes p e below s₁ (entryFrame m #[(.int pr), (.int ps), (.long pt), (.long pd), (.int pm)] maxLocals) T26 (mkF m 36 #[.val (.int pr), .val (.int ps), .val (.long pt), .second, .val (.long pd), .second, .val (.int pm), .unset, .unset, .unset, .unset, .unset, .unset, .unset, .unset, .unset, .unset, .unset, .unset, .unset, .unset, .unset, .unset] [(.ref b2)]) := fun t kt => pre24 t (st26 t kt)
  have pre28 : Goes p e below s₁ (entryFrame m #[(.int pr), (.int ps), (.long pt), (.long pd), (.int pm)] maxLocals) T26 (mkF m 42 #[.val (.int pr), .val (.int ps), .val (.long pt), .second, .val (.long pd), .second, .val (.int pm), .unset, .unset, .unset, .unset, .unset, .unset, .unset, .unset, .unset, .unset, .unset, .unset, .unset, .unset, .unset, .unset] [(.long (10 : Int64)), (.int (6 : Int32)), (.ref b2), (.ref b2)]) := fun t kt => pre27 t (by
      show Steps p.tables e below (T26.setTop (mkF m 36 #[.val (.int pr), .val (.int ps), .val (.long pt), .second, .val (.long pd), .second, .val (.int pm), .unset, .unset, .unset, .unset, .unset, .unset, .unset, .unset, .unset, .unset, .unset, .unset, .unset, .unset, .unset, .unset] [(.ref b2)])) _
      refine XS.dup X26.here hx rfl (hb hby at_36) rfl rfl ?_
      show Steps p.tables e below (T26.setTop (mkF m 37 #[.val (.int pr), .val (.int ps), .val (.long pt), .second, .val (.long pd), .second, .val (.int pm), .unset, .unset, .unset, .unset, .unset, .unset, .unset, .unset, .unset, .unset, .unset, .unset, .unset, .unset, .unset, .unset] [(.ref b2), (.ref b2)])) _
      refine XS.bipush X26.here hx rfl (hb hby at_37) ?_
      show Steps p.tables e below (T26.setTop (mkF m 39 #[.val (.int pr), .val (.int ps), .val (.long pt), .second, .val (.long pd), .second, .val (.int pm), .unset, .unset, .unset, .unset, .unset, .unset, .unset, .unset, .unset, .unset, .unset, .unset, .unset, .unset, .unset, .unset] [(.int (6 : Int32)), (.ref b2), (.ref b2)])) _
      refine X26.ldc2Long hx hown (mvT hZ (hw _ (List.mem_of_getElem? (i := 5) rfl))) (g := (mkF m 39 #[.val (.int pr), .val (.int ps), .val (.long pt), .second, .val (.long pd), .second, .val (.int pm), .unset, .unset, .unset, .unset, .unset, .unset, .unset, .unset, .unset, .unset, .unset, .unset, .unset, .unset, .unset, .unset] [(.int (6 : Int32)), (.ref b2), (.ref b2)])) rfl (hb hby at_39) _ ?_
      exact kt)
  obtain ⟨cl29, Ar29, q29, S29, N_29, H29, G29⟩ := (id (V26))
  have hin29 : ¬ ((6 : Int32) < 0 ∨ cl29.slots.size ≤ ((6 : Int32)).toNatClampNeg) := inb_of S29 ⟨by decide, by decide⟩
  obtain ⟨T30, h30, X30, e30, W30, st30⟩ := stJ X26 hx hZ e26 Ar29 (j := (6 : Int32)) hin29 (g := (mkF m 42 #[.val (.int pr), .val (.int ps), .val (.long pt), .second, .val (.long pd), .second, .val (.int pm), .unset, .unset, .unset, .unset, .unset, .unset, .unset, .unset, .unset, .unset, .unset, .unset, .unset, .unset, .unset, .unset] [(.long (10 : Int64)), (.int (6 : Int32)), (.ref b2), (.ref b2)])) rfl rfl (hb hby at_42)
  have V30 : Arv Z h30 b2 k2 .long (16 : Int32) [(.long (0 : Int64)), (.long (1 : Int64)), (.long (2 : Int64)), (.long (4 : Int64)), (.long (5 : Int64)), (.long (8 : Int64)), (.long (10 : Int64)), (.long (0 : Int64)), (.long (0 : Int64)), (.long (0 : Int64)), (.long (0 : Int64)), (.long (0 : Int64)), (.long (0 : Int64)), (.long (0 : Int64)), (.long (0 : Int64)), (.long (0 : Int64))] (.long (0 : Int64)) := Arv.set Ar29 q29 S29 N_29 H29 G29 rfl W30 6 rfl (Nat.le_of_ble_eq_true rfl)
  have K30 : Keep h0 h30 [] := K26.wr W30 (Or.inr sz_b2)
  have N30 := Fr.snoc X30 N26 g_b2
  have pre31 : Goes p e below s₁ (entryFrame m #[(.int pr), (.int ps), (.long pt), (.long pd), (.int pm)] maxLocals) T30 (mkF m 43 #[.val (.int pr), .val (.int ps), .val (.long pt), .second, .val (.long pd), .second, .val (.int pm), .unset, .unset, .unset, .unset, .unset, .unset, .unset, .unset, .unset, .unset, .unset, .unset, .unset, .unset, .unset, .unset] [(.ref b2)]) := fun t kt => pre28 t (st30 t kt)
  have pre32 : Goes p e below s₁ (entryFrame m #[(.int pr), (.int ps), (.long pt), (.long pd), (.int pm)] maxLocals) T30 (mkF m 49 #[.val (.int pr), .val (.int ps), .val (.long pt), .second, .val (.long pd), .second, .val (.int pm), .unset, .unset, .unset, .unset, .unset, .unset, .unset, .unset, .unset, .unset, .unset, .unset, .unset, .unset, .unset, .unset] [(.long (16 : Int64)), (.int (7 : Int32)), (.ref b2), (.ref b2)]) := fun t kt => pre31 t (by
      show Steps p.tables e below (T30.setTop (mkF m 43 #[.val (.int pr), .val (.int ps), .val (.long pt), .second, .val (.long pd), .second, .val (.int pm), .unset, .unset, .unset, .unset, .unset, .unset, .unset, .unset, .unset, .unset, .unset, .unset, .unset, .unset, .unset, .unset] [(.ref b2)])) _
      refine XS.dup X30.here hx rfl (hb hby at_43) rfl rfl ?_
      show Steps p.tables e below (T30.setTop (mkF m 44 #[.val (.int pr), .val (.int ps), .val (.long pt), .second, .val (.long pd), .second, .val (.int pm), .unset, .unset, .unset, .unset, .unset, .unset, .unset, .unset, .unset, .unset, .unset, .unset, .unset, .unset, .unset, .unset] [(.ref b2), (.ref b2)])) _
      refine XS.bipush X30.here hx rfl (hb hby at_44) ?_
      show Steps p.tables e below (T30.setTop (mkF m 46 #[.val (.int pr), .val (.int ps), .val (.long pt), .second, .val (.long pd), .second, .val (.int pm), .unset, .unset, .unset, .unset, .unset, .unset, .unset, .unset, .unset, .unset, .unset, .unset, .unset, .unset, .unset, .unset] [(.int (7 : Int32)), (.ref b2), (.ref b2)])) _
      refine X30.ldc2Long hx hown (mvT hZ (hw _ (List.mem_of_getElem? (i := 6) rfl))) (g := (mkF m 46 #[.val (.int pr), .val (.int ps), .val (.long pt), .second, .val (.long pd), .second, .val (.int pm), .unset, .unset, .unset, .unset, .unset, .unset, .unset, .unset, .unset, .unset, .unset, .unset, .unset, .unset, .unset, .unset] [(.int (7 : Int32)), (.ref b2), (.ref b2)])) rfl (hb hby at_46) _ ?_
      exact kt)
  obtain ⟨cl33, Ar33, q33, S33, N_33, H33, G33⟩ := (id (V30))
  have hin33 : ¬ ((7 : Int32) < 0 ∨ cl33.slots.size ≤ ((7 : Int32)).toNatClampNeg) := inb_of S33 ⟨by decide, by decide⟩
  obtain ⟨T34, h34, X34, e34, W34, st34⟩ := stJ X30 hx hZ e30 Ar33 (j := (7 : Int32)) hin33 (g := (mkF m 49 #[.val (.int pr), .val (.int ps), .val (.long pt), .second, .val (.long pd), .second, .val (.int pm), .unset, .unset, .unset, .unset, .unset, .unset, .unset, .unset, .unset, .unset, .unset, .unset, .unset, .unset, .unset, .unset] [(.long (16 : Int64)), (.int (7 : Int32)), (.ref b2), (.ref b2)])) rfl rfl (hb hby at_49)
  have V34 : Arv Z h34 b2 k2 .long (16 : Int32) [(.long (0 : Int64)), (.long (1 : Int64)), (.long (2 : Int64)), (.long (4 : Int64)), (.long (5 : Int64)), (.long (8 : Int64)), (.long (10 : Int64)), (.long (16 : Int64)), (.long (0 : Int64)), (.long (0 : Int64)), (.long (0 : Int64)), (.long (0 : Int64)), (.long (0 : Int64)), (.long (0 : Int64)), (.long (0 : Int64)), (.long (0 : Int64))] (.long (0 : Int64)) := Arv.set Ar33 q33 S33 N_33 H33 G33 rfl W34 7 rfl (Nat.le_of_ble_eq_true rfl)
  have K34 : Keep h0 h34 [] := K30.wr W34 (Or.inr sz_b2)
  have N34 := Fr.snoc X34 N30 g_b2
  have pre35 : Goes p e below s₁ (entryFrame m #[(.int pr), (.int ps), (.long pt), (.long pd), (.int pm)] maxLocals) T34 (mkF m 50 #[.val (.int pr), .val (.int ps), .val (.long pt), .second, .val (.long pd), .second, .val (.int pm), .unset, .unset, .unset, .unset, .unset, .unset, .unset, .unset, .unset, .unset, .unset, .unset, .unset, .unset, .unset, .unset] [(.ref b2)]) := fun t kt => pre32 t (st34 t kt)
  have pre36 : Goes p e below s₁ (entryFrame m #[(.int pr), (.int ps), (.long pt), (.long pd), (.int pm)] maxLocals) T34 (mkF m 56 #[.val (.int pr), .val (.int ps), .val (.long pt), .second, .val (.long pd), .second, .val (.int pm), .unset, .unset, .unset, .unset, .unset, .unset, .unset, .unset, .unset, .unset, .unset, .unset, .unset, .unset, .unset, .unset] [(.long (25 : Int64)), (.int (8 : Int32)), (.ref b2), (.ref b2)]) := fun t kt => pre35 t (by
      show Steps p.tables e below (T34.setTop (mkF m 50 #[.val (.int pr), .val (.int ps), .val (.long pt), .second, .val (.long pd), .second, .val (.int pm), .unset, .unset, .unset, .unset, .unset, .unset, .unset, .unset, .unset, .unset, .unset, .unset, .unset, .unset, .unset, .unset] [(.ref b2)])) _
      refine XS.dup X34.here hx rfl (hb hby at_50) rfl rfl ?_
      show Steps p.tables e below (T34.setTop (mkF m 51 #[.val (.int pr), .val (.int ps), .val (.long pt), .second, .val (.long pd), .second, .val (.int pm), .unset, .unset, .unset, .unset, .unset, .unset, .unset, .unset, .unset, .unset, .unset, .unset, .unset, .unset, .unset, .unset] [(.ref b2), (.ref b2)])) _
      refine XS.bipush X34.here hx rfl (hb hby at_51) ?_
      show Steps p.tables e below (T34.setTop (mkF m 53 #[.val (.int pr), .val (.int ps), .val (.long pt), .second, .val (.long pd), .second, .val (.int pm), .unset, .unset, .unset, .unset, .unset, .unset, .unset, .unset, .unset, .unset, .unset, .unset, .unset, .unset, .unset, .unset] [(.int (8 : Int32)), (.ref b2), (.ref b2)])) _
      refine X34.ldc2Long hx hown (mvT hZ (hw _ (List.mem_of_getElem? (i := 7) rfl))) (g := (mkF m 53 #[.val (.int pr), .val (.int ps), .val (.long pt), .second, .val (.long pd), .second, .val (.int pm), .unset, .unset, .unset, .unset, .unset, .unset, .unset, .unset, .unset, .unset, .unset, .unset, .unset, .unset, .unset, .unset] [(.int (8 : Int32)), (.ref b2), (.ref b2)])) rfl (hb hby at_53) _ ?_
      exact kt)
  obtain ⟨cl37, Ar37, q37, S37, N_37, H37, G37⟩ := (id (V34))
  have hin37 : ¬ ((8 : Int32) < 0 ∨ cl37.slots.size ≤ ((8 : Int32)).toNatClampNeg) := inb_of S37 ⟨by decide, by decide⟩
  obtain ⟨T38, h38, X38, e38, W38, st38⟩ := stJ X34 hx hZ e34 Ar37 (j := (8 : Int32)) hin37 (g := (mkF m 56 #[.val (.int pr), .val (.int ps), .val (.long pt), .second, .val (.long pd), .second, .val (.int pm), .unset, .unset, .unset, .unset, .unset, .unset, .unset, .unset, .unset, .unset, .unset, .unset, .unset, .unset, .unset, .unset] [(.long (25 : Int64)), (.int (8 : Int32)), (.ref b2), (.ref b2)])) rfl rfl (hb hby at_56)
  have V38 : Arv Z h38 b2 k2 .long (16 : Int32) [(.long (0 : Int64)), (.long (1 : Int64)), (.long (2 : Int64)), (.long (4 : Int64)), (.long (5 : Int64)), (.long (8 : Int64)), (.long (10 : Int64)), (.long (16 : Int64)), (.long (25 : Int64)), (.long (0 : Int64)), (.long (0 : Int64)), (.long (0 : Int64)), (.long (0 : Int64)), (.long (0 : Int64)), (.long (0 : Int64)), (.long (0 : Int64))] (.long (0 : Int64)) := Arv.set Ar37 q37 S37 N_37 H37 G37 rfl W38 8 rfl (Nat.le_of_ble_eq_true rfl)
  have K38 : Keep h0 h38 [] := K34.wr W38 (Or.inr sz_b2)
  have N38 := Fr.snoc X38 N34 g_b2
  have pre39 : Goes p e below s₁ (entryFrame m #[(.int pr), (.int ps), (.long pt), (.long pd), (.int pm)] maxLocals) T38 (mkF m 57 #[.val (.int pr), .val (.int ps), .val (.long pt), .second, .val (.long pd), .second, .val (.int pm), .unset, .unset, .unset, .unset, .unset, .unset, .unset, .unset, .unset, .unset, .unset, .unset, .unset, .unset, .unset, .unset] [(.ref b2)]) := fun t kt => pre36 t (st38 t kt)
  have pre40 : Goes p e below s₁ (entryFrame m #[(.int pr), (.int ps), (.long pt), (.long pd), (.int pm)] maxLocals) T38 (mkF m 63 #[.val (.int pr), .val (.int ps), .val (.long pt), .second, .val (.long pd), .second, .val (.int pm), .unset, .unset, .unset, .unset, .unset, .unset, .unset, .unset, .unset, .unset, .unset, .unset, .unset, .unset, .unset, .unset] [(.long (50 : Int64)), (.int (9 : Int32)), (.ref b2), (.ref b2)]) := fun t kt => pre39 t (by
      show Steps p.tables e below (T38.setTop (mkF m 57 #[.val (.int pr), .val (.int ps), .val (.long pt), .second, .val (.long pd), .second, .val (.int pm), .unset, .unset, .unset, .unset, .unset, .unset, .unset, .unset, .unset, .unset, .unset, .unset, .unset, .unset, .unset, .unset] [(.ref b2)])) _
      refine XS.dup X38.here hx rfl (hb hby at_57) rfl rfl ?_
      show Steps p.tables e below (T38.setTop (mkF m 58 #[.val (.int pr), .val (.int ps), .val (.long pt), .second, .val (.long pd), .second, .val (.int pm), .unset, .unset, .unset, .unset, .unset, .unset, .unset, .unset, .unset, .unset, .unset, .unset, .unset, .unset, .unset, .unset] [(.ref b2), (.ref b2)])) _
      refine XS.bipush X38.here hx rfl (hb hby at_58) ?_
      show Steps p.tables e below (T38.setTop (mkF m 60 #[.val (.int pr), .val (.int ps), .val (.long pt), .second, .val (.long pd), .second, .val (.int pm), .unset, .unset, .unset, .unset, .unset, .unset, .unset, .unset, .unset, .unset, .unset, .unset, .unset, .unset, .unset, .unset] [(.int (9 : Int32)), (.ref b2), (.ref b2)])) _
      refine X38.ldc2Long hx hown (mvT hZ (hw _ (List.mem_of_getElem? (i := 8) rfl))) (g := (mkF m 60 #[.val (.int pr), .val (.int ps), .val (.long pt), .second, .val (.long pd), .second, .val (.int pm), .unset, .unset, .unset, .unset, .unset, .unset, .unset, .unset, .unset, .unset, .unset, .unset, .unset, .unset, .unset, .unset] [(.int (9 : Int32)), (.ref b2), (.ref b2)])) rfl (hb hby at_60) _ ?_
      exact kt)
  obtain ⟨cl41, Ar41, q41, S41, N_41, H41, G41⟩ := (id (V38))
  have hin41 : ¬ ((9 : Int32) < 0 ∨ cl41.slots.size ≤ ((9 : Int32)).toNatClampNeg) := inb_of S41 ⟨by decide, by decide⟩
  obtain ⟨T42, h42, X42, e42, W42, st42⟩ := stJ X38 hx hZ e38 Ar41 (j := (9 : Int32)) hin41 (g := (mkF m 63 #[.val (.int pr), .val (.int ps), .val (.long pt), .second, .val (.long pd), .second, .val (.int pm), .unset, .unset, .unset, .unset, .unset, .unset, .unset, .unset, .unset, .unset, .unset, .unset, .unset, .unset, .unset, .unset] [(.long (50 : Int64)), (.int (9 : Int32)), (.ref b2), (.ref b2)])) rfl rfl (hb hby at_63)
  have V42 : Arv Z h42 b2 k2 .long (16 : Int32) [(.long (0 : Int64)), (.long (1 : Int64)), (.long (2 : Int64)), (.long (4 : Int64)), (.long (5 : Int64)), (.long (8 : Int64)), (.long (10 : Int64)), (.long (16 : Int64)), (.long (25 : Int64)), (.long (50 : Int64)), (.long (0 : Int64)), (.long (0 : Int64)), (.long (0 : Int64)), (.long (0 : Int64)), (.long (0 : Int64)), (.long (0 : Int64))] (.long (0 : Int64)) := Arv.set Ar41 q41 S41 N_41 H41 G41 rfl W42 9 rfl (Nat.le_of_ble_eq_true rfl)
  have K42 : Keep h0 h42 [] := K38.wr W42 (Or.inr sz_b2)
  have N42 := Fr.snoc X42 N38 g_b2
  have pre43 : Goes p e below s₁ (entryFrame m #[(.int pr), (.int ps), (.long pt), (.long pd), (.int pm)] maxLocals) T42 (mkF m 64 #[.val (.int pr), .val (.int ps), .val (.long pt), .second, .val (.long pd), .second, .val (.int pm), .unset, .unset, .unset, .unset, .unset, .unset, .unset, .unset, .unset, .unset, .unset, .unset, .unset, .unset, .unset, .unset] [(.ref b2)]) := fun t kt => pre40 t (st42 t kt)
  have pre44 : Goes p e below s₁ (entryFrame m #[(.int pr), (.int ps), (.long pt), (.long pd), (.int pm)] maxLocals) T42 (mkF m 70 #[.val (.int pr), .val (.int ps), .val (.long pt), .second, .val (.long pd), .second, .val (.int pm), .unset, .unset, .unset, .unset, .unset, .unset, .unset, .unset, .unset, .unset, .unset, .unset, .unset, .unset, .unset, .unset] [(.long (64 : Int64)), (.int (10 : Int32)), (.ref b2), (.ref b2)]) := fun t kt => pre43 t (by
      show Steps p.tables e below (T42.setTop (mkF m 64 #[.val (.int pr), .val (.int ps), .val (.long pt), .second, .val (.long pd), .second, .val (.int pm), .unset, .unset, .unset, .unset, .unset, .unset, .unset, .unset, .unset, .unset, .unset, .unset, .unset, .unset, .unset, .unset] [(.ref b2)])) _
      refine XS.dup X42.here hx rfl (hb hby at_64) rfl rfl ?_
      show Steps p.tables e below (T42.setTop (mkF m 65 #[.val (.int pr), .val (.int ps), .val (.long pt), .second, .val (.long pd), .second, .val (.int pm), .unset, .unset, .unset, .unset, .unset, .unset, .unset, .unset, .unset, .unset, .unset, .unset, .unset, .unset, .unset, .unset] [(.ref b2), (.ref b2)])) _
      refine XS.bipush X42.here hx rfl (hb hby at_65) ?_
      show Steps p.tables e below (T42.setTop (mkF m 67 #[.val (.int pr), .val (.int ps), .val (.long pt), .second, .val (.long pd), .second, .val (.int pm), .unset, .unset, .unset, .unset, .unset, .unset, .unset, .unset, .unset, .unset, .unset, .unset, .unset, .unset, .unset, .unset] [(.int (10 : Int32)), (.ref b2), (.ref b2)])) _
      refine X42.ldc2Long hx hown (mvT hZ (hw _ (List.mem_of_getElem? (i := 9) rfl))) (g := (mkF m 67 #[.val (.int pr), .val (.int ps), .val (.long pt), .second, .val (.long pd), .second, .val (.int pm), .unset, .unset, .unset, .unset, .unset, .unset, .unset, .unset, .unset, .unset, .unset, .unset, .unset, .unset, .unset, .unset] [(.int (10 : Int32)), (.ref b2), (.ref b2)])) rfl (hb hby at_67) _ ?_
      exact kt)
  obtain ⟨cl45, Ar45, q45, S45, N_45, H45, G45⟩ := (id (V42))
  have hin45 : ¬ ((10 : Int32) < 0 ∨ cl45.slots.size ≤ ((10 : Int32)).toNatClampNeg) := inb_of S45 ⟨by decide, by decide⟩
  obtain ⟨T46, h46, X46, e46, W46, st46⟩ := stJ X42 hx hZ e42 Ar45 (j := (10 : Int32)) hin45 (g := (mkF m 70 #[.val (.int pr), .val (.int ps), .val (.long pt), .second, .val (.long pd), .second, .val (.int pm), .unset, .unset, .unset, .unset, .unset, .unset, .unset, .unset, .unset, .unset, .unset, .unset, .unset, .unset, .unset, .unset] [(.long (64 : Int64)), (.int (10 : Int32)), (.ref b2), (.ref b2)])) rfl rfl (hb hby at_70)
  have V46 : Arv Z h46 b2 k2 .long (16 : Int32) [(.long (0 : Int64)), (.long (1 : Int64)), (.long (2 : Int64)), (.long (4 : Int64)), (.long (5 : Int64)), (.long (8 : Int64)), (.long (10 : Int64)), (.long (16 : Int64)), (.long (25 : Int64)), (.long (50 : Int64)), (.long (64 : Int64)), (.long (0 : Int64)), (.long (0 : Int64)), (.long (0 : Int64)), (.long (0 : Int64)), (.long (0 : Int64))] (.long (0 : Int64)) := Arv.set Ar45 q45 S45 N_45 H45 G45 rfl W46 10 rfl (Nat.le_of_ble_eq_true rfl)
  have K46 : Keep h0 h46 [] := K42.wr W46 (Or.inr sz_b2)
  have N46 := Fr.snoc X46 N42 g_b2
  have pre47 : Goes p e below s₁ (entryFrame m #[(.int pr), (.int ps), (.long pt), (.long pd), (.int pm)] maxLocals) T46 (mkF m 71 #[.val (.int pr), .val (.int ps), .val (.long pt), .second, .val (.long pd), .second, .val (.int pm), .unset, .unset, .unset, .unset, .unset, .unset, .unset, .unset, .unset, .unset, .unset, .unset, .unset, .unset, .unset, .unset] [(.ref b2)]) := fun t kt => pre44 t (st46 t kt)
  have pre48 : Goes p e below s₁ (entryFrame m #[(.int pr), (.int ps), (.long pt), (.long pd), (.int pm)] maxLocals) T46 (mkF m 77 #[.val (.int pr), .val (.int ps), .val (.long pt), .second, .val (.long pd), .second, .val (.int pm), .unset, .unset, .unset, .unset, .unset, .unset, .unset, .unset, .unset, .unset, .unset, .unset, .unset, .unset, .unset, .unset] [(.long (125 : Int64)), (.int (11 : Int32)), (.ref b2), (.ref b2)]) := fun t kt => pre47 t (by
      show Steps p.tables e below (T46.setTop (mkF m 71 #[.val (.int pr), .val (.int ps), .val (.long pt), .second, .val (.long pd), .second, .val (.int pm), .unset, .unset, .unset, .unset, .unset, .unset, .unset, .unset, .unset, .unset, .unset, .unset, .unset, .unset, .unset, .unset] [(.ref b2)])) _
      refine XS.dup X46.here hx rfl (hb hby at_71) rfl rfl ?_
      show Steps p.tables e below (T46.setTop (mkF m 72 #[.val (.int pr), .val (.int ps), .val (.long pt), .second, .val (.long pd), .second, .val (.int pm), .unset, .unset, .unset, .unset, .unset, .unset, .unset, .unset, .unset, .unset, .unset, .unset, .unset, .unset, .unset, .unset] [(.ref b2), (.ref b2)])) _
      refine XS.bipush X46.here hx rfl (hb hby at_72) ?_
      show Steps p.tables e below (T46.setTop (mkF m 74 #[.val (.int pr), .val (.int ps), .val (.long pt), .second, .val (.long pd), .second, .val (.int pm), .unset, .unset, .unset, .unset, .unset, .unset, .unset, .unset, .unset, .unset, .unset, .unset, .unset, .unset, .unset, .unset] [(.int (11 : Int32)), (.ref b2), (.ref b2)])) _
      refine X46.ldc2Long hx hown (mvT hZ (hw _ (List.mem_of_getElem? (i := 10) rfl))) (g := (mkF m 74 #[.val (.int pr), .val (.int ps), .val (.long pt), .second, .val (.long pd), .second, .val (.int pm), .unset, .unset, .unset, .unset, .unset, .unset, .unset, .unset, .unset, .unset, .unset, .unset, .unset, .unset, .unset, .unset] [(.int (11 : Int32)), (.ref b2), (.ref b2)])) rfl (hb hby at_74) _ ?_
      exact kt)
  obtain ⟨cl49, Ar49, q49, S49, N_49, H49, G49⟩ := (id (V46))
  have hin49 : ¬ ((11 : Int32) < 0 ∨ cl49.slots.size ≤ ((11 : Int32)).toNatClampNeg) := inb_of S49 ⟨by decide, by decide⟩
  obtain ⟨T50, h50, X50, e50, W50, st50⟩ := stJ X46 hx hZ e46 Ar49 (j := (11 : Int32)) hin49 (g := (mkF m 77 #[.val (.int pr), .val (.int ps), .val (.long pt), .second, .val (.long pd), .second, .val (.int pm), .unset, .unset, .unset, .unset, .unset, .unset, .unset, .unset, .unset, .unset, .unset, .unset, .unset, .unset, .unset, .unset] [(.long (125 : Int64)), (.int (11 : Int32)), (.ref b2), (.ref b2)])) rfl rfl (hb hby at_77)
  have V50 : Arv Z h50 b2 k2 .long (16 : Int32) [(.long (0 : Int64)), (.long (1 : Int64)), (.long (2 : Int64)), (.long (4 : Int64)), (.long (5 : Int64)), (.long (8 : Int64)), (.long (10 : Int64)), (.long (16 : Int64)), (.long (25 : Int64)), (.long (50 : Int64)), (.long (64 : Int64)), (.long (125 : Int64)), (.long (0 : Int64)), (.long (0 : Int64)), (.long (0 : Int64)), (.long (0 : Int64))] (.long (0 : Int64)) := Arv.set Ar49 q49 S49 N_49 H49 G49 rfl W50 11 rfl (Nat.le_of_ble_eq_true rfl)
  have K50 : Keep h0 h50 [] := K46.wr W50 (Or.inr sz_b2)
  have N50 := Fr.snoc X50 N46 g_b2
  have pre51 : Goes p e below s₁ (entryFrame m #[(.int pr), (.int ps), (.long pt), (.long pd), (.int pm)] maxLocals) T50 (mkF m 78 #[.val (.int pr), .val (.int ps), .val (.long pt), .second, .val (.long pd), .second, .val (.int pm), .unset, .unset, .unset, .unset, .unset, .unset, .unset, .unset, .unset, .unset, .unset, .unset, .unset, .unset, .unset, .unset] [(.ref b2)]) := fun t kt => pre48 t (st50 t kt)
  have pre52 : Goes p e below s₁ (entryFrame m #[(.int pr), (.int ps), (.long pt), (.long pd), (.int pm)] maxLocals) T50 (mkF m 84 #[.val (.int pr), .val (.int ps), .val (.long pt), .second, .val (.long pd), .second, .val (.int pm), .unset, .unset, .unset, .unset, .unset, .unset, .unset, .unset, .unset, .unset, .unset, .unset, .unset, .unset, .unset, .unset] [(.long (1000 : Int64)), (.int (12 : Int32)), (.ref b2), (.ref b2)]) := fun t kt => pre51 t (by
      show Steps p.tables e below (T50.setTop (mkF m 78 #[.val (.int pr), .val (.int ps), .val (.long pt), .second, .val (.long pd), .second, .val (.int pm), .unset, .unset, .unset, .unset, .unset, .unset, .unset, .unset, .unset, .unset, .unset, .unset, .unset, .unset, .unset, .unset] [(.ref b2)])) _
      refine XS.dup X50.here hx rfl (hb hby at_78) rfl rfl ?_
      show Steps p.tables e below (T50.setTop (mkF m 79 #[.val (.int pr), .val (.int ps), .val (.long pt), .second, .val (.long pd), .second, .val (.int pm), .unset, .unset, .unset, .unset, .unset, .unset, .unset, .unset, .unset, .unset, .unset, .unset, .unset, .unset, .unset, .unset] [(.ref b2), (.ref b2)])) _
      refine XS.bipush X50.here hx rfl (hb hby at_79) ?_
      show Steps p.tables e below (T50.setTop (mkF m 81 #[.val (.int pr), .val (.int ps), .val (.long pt), .second, .val (.long pd), .second, .val (.int pm), .unset, .unset, .unset, .unset, .unset, .unset, .unset, .unset, .unset, .unset, .unset, .unset, .unset, .unset, .unset, .unset] [(.int (12 : Int32)), (.ref b2), (.ref b2)])) _
      refine X50.ldc2Long hx hown (mvT hZ (hw _ (List.mem_of_getElem? (i := 11) rfl))) (g := (mkF m 81 #[.val (.int pr), .val (.int ps), .val (.long pt), .second, .val (.long pd), .second, .val (.int pm), .unset, .unset, .unset, .unset, .unset, .unset, .unset, .unset, .unset, .unset, .unset, .unset, .unset, .unset, .unset, .unset] [(.int (12 : Int32)), (.ref b2), (.ref b2)])) rfl (hb hby at_81) _ ?_
      exact kt)
  obtain ⟨cl53, Ar53, q53, S53, N_53, H53, G53⟩ := (id (V50))
  have hin53 : ¬ ((12 : Int32) < 0 ∨ cl53.slots.size ≤ ((12 : Int32)).toNatClampNeg) := inb_of S53 ⟨by decide, by decide⟩
  obtain ⟨T54, h54, X54, e54, W54, st54⟩ := stJ X50 hx hZ e50 Ar53 (j := (12 : Int32)) hin53 (g := (mkF m 84 #[.val (.int pr), .val (.int ps), .val (.long pt), .second, .val (.long pd), .second, .val (.int pm), .unset, .unset, .unset, .unset, .unset, .unset, .unset, .unset, .unset, .unset, .unset, .unset, .unset, .unset, .unset, .unset] [(.long (1000 : Int64)), (.int (12 : Int32)), (.ref b2), (.ref b2)])) rfl rfl (hb hby at_84)
  have V54 : Arv Z h54 b2 k2 .long (16 : Int32) [(.long (0 : Int64)), (.long (1 : Int64)), (.long (2 : Int64)), (.long (4 : Int64)), (.long (5 : Int64)), (.long (8 : Int64)), (.long (10 : Int64)), (.long (16 : Int64)), (.long (25 : Int64)), (.long (50 : Int64)), (.long (64 : Int64)), (.long (125 : Int64)), (.long (1000 : Int64)), (.long (0 : Int64)), (.long (0 : Int64)), (.long (0 : Int64))] (.long (0 : Int64)) := Arv.set Ar53 q53 S53 N_53 H53 G53 rfl W54 12 rfl (Nat.le_of_ble_eq_true rfl)
  have K54 : Keep h0 h54 [] := K50.wr W54 (Or.inr sz_b2)
  have N54 := Fr.snoc X54 N50 g_b2
  have pre55 : Goes p e below s₁ (entryFrame m #[(.int pr), (.int ps), (.long pt), (.long pd), (.int pm)] maxLocals) T54 (mkF m 85 #[.val (.int pr), .val (.int ps), .val (.long pt), .second, .val (.long pd), .second, .val (.int pm), .unset, .unset, .unset, .unset, .unset, .unset, .unset, .unset, .unset, .unset, .unset, .unset, .unset, .unset, .unset, .unset] [(.ref b2)]) := fun t kt => pre52 t (st54 t kt)
  have pre56 : Goes p e below s₁ (entryFrame m #[(.int pr), (.int ps), (.long pt), (.long pd), (.int pm)] maxLocals) T54 (mkF m 91 #[.val (.int pr), .val (.int ps), .val (.long pt), .second, .val (.long pd), .second, .val (.int pm), .unset, .unset, .unset, .unset, .unset, .unset, .unset, .unset, .unset, .unset, .unset, .unset, .unset, .unset, .unset, .unset] [(.long (15625 : Int64)), (.int (13 : Int32)), (.ref b2), (.ref b2)]) := fun t kt => pre55 t (by
      show Steps p.tables e below (T54.setTop (mkF m 85 #[.val (.int pr), .val (.int ps), .val (.long pt), .second, .val (.long pd), .second, .val (.int pm), .unset, .unset, .unset, .unset, .unset, .unset, .unset, .unset, .unset, .unset, .unset, .unset, .unset, .unset, .unset, .unset] [(.ref b2)])) _
      refine XS.dup X54.here hx rfl (hb hby at_85) rfl rfl ?_
      show Steps p.tables e below (T54.setTop (mkF m 86 #[.val (.int pr), .val (.int ps), .val (.long pt), .second, .val (.long pd), .second, .val (.int pm), .unset, .unset, .unset, .unset, .unset, .unset, .unset, .unset, .unset, .unset, .unset, .unset, .unset, .unset, .unset, .unset] [(.ref b2), (.ref b2)])) _
      refine XS.bipush X54.here hx rfl (hb hby at_86) ?_
      show Steps p.tables e below (T54.setTop (mkF m 88 #[.val (.int pr), .val (.int ps), .val (.long pt), .second, .val (.long pd), .second, .val (.int pm), .unset, .unset, .unset, .unset, .unset, .unset, .unset, .unset, .unset, .unset, .unset, .unset, .unset, .unset, .unset, .unset] [(.int (13 : Int32)), (.ref b2), (.ref b2)])) _
      refine X54.ldc2Long hx hown (mvT hZ (hw _ (List.mem_of_getElem? (i := 12) rfl))) (g := (mkF m 88 #[.val (.int pr), .val (.int ps), .val (.long pt), .second, .val (.long pd), .second, .val (.int pm), .unset, .unset, .unset, .unset, .unset, .unset, .unset, .unset, .unset, .unset, .unset, .unset, .unset, .unset, .unset, .unset] [(.int (13 : Int32)), (.ref b2), (.ref b2)])) rfl (hb hby at_88) _ ?_
      exact kt)
  obtain ⟨cl57, Ar57, q57, S57, N_57, H57, G57⟩ := (id (V54))
  have hin57 : ¬ ((13 : Int32) < 0 ∨ cl57.slots.size ≤ ((13 : Int32)).toNatClampNeg) := inb_of S57 ⟨by decide, by decide⟩
  obtain ⟨T58, h58, X58, e58, W58, st58⟩ := stJ X54 hx hZ e54 Ar57 (j := (13 : Int32)) hin57 (g := (mkF m 91 #[.val (.int pr), .val (.int ps), .val (.long pt), .second, .val (.long pd), .second, .val (.int pm), .unset, .unset, .unset, .unset, .unset, .unset, .unset, .unset, .unset, .unset, .unset, .unset, .unset, .unset, .unset, .unset] [(.long (15625 : Int64)), (.int (13 : Int32)), (.ref b2), (.ref b2)])) rfl rfl (hb hby at_91)
  have V58 : Arv Z h58 b2 k2 .long (16 : Int32) [(.long (0 : Int64)), (.long (1 : Int64)), (.long (2 : Int64)), (.long (4 : Int64)), (.long (5 : Int64)), (.long (8 : Int64)), (.long (10 : Int64)), (.long (16 : Int64)), (.long (25 : Int64)), (.long (50 : Int64)), (.long (64 : Int64)), (.long (125 : Int64)), (.long (1000 : Int64)), (.long (15625 : Int64)), (.long (0 : Int64)), (.long (0 : Int64))] (.long (0 : Int64)) := Arv.set Ar57 q57 S57 N_57 H57 G57 rfl W58 13 rfl (Nat.le_of_ble_eq_true rfl)
  have K58 : Keep h0 h58 [] := K54.wr W58 (Or.inr sz_b2)
  have N58 := Fr.snoc X58 N54 g_b2
  have pre59 : Goes p e below s₁ (entryFrame m #[(.int pr), (.int ps), (.long pt), (.long pd), (.int pm)] maxLocals) T58 (mkF m 92 #[.val (.int pr), .val (.int ps), .val (.long pt), .second, .val (.long pd), .second, .val (.int pm), .unset, .unset, .unset, .unset, .unset, .unset, .unset, .unset, .unset, .unset, .unset, .unset, .unset, .unset, .unset, .unset] [(.ref b2)]) := fun t kt => pre56 t (st58 t kt)
  have pre60 : Goes p e below s₁ (entryFrame m #[(.int pr), (.int ps), (.long pt), (.long pd), (.int pm)] maxLocals) T58 (mkF m 98 #[.val (.int pr), .val (.int ps), .val (.long pt), .second, .val (.long pd), .second, .val (.int pm), .unset, .unset, .unset, .unset, .unset, .unset, .unset, .unset, .unset, .unset, .unset, .unset, .unset, .unset, .unset, .unset] [(.long (390625 : Int64)), (.int (14 : Int32)), (.ref b2), (.ref b2)]) := fun t kt => pre59 t (by
      show Steps p.tables e below (T58.setTop (mkF m 92 #[.val (.int pr), .val (.int ps), .val (.long pt), .second, .val (.long pd), .second, .val (.int pm), .unset, .unset, .unset, .unset, .unset, .unset, .unset, .unset, .unset, .unset, .unset, .unset, .unset, .unset, .unset, .unset] [(.ref b2)])) _
      refine XS.dup X58.here hx rfl (hb hby at_92) rfl rfl ?_
      show Steps p.tables e below (T58.setTop (mkF m 93 #[.val (.int pr), .val (.int ps), .val (.long pt), .second, .val (.long pd), .second, .val (.int pm), .unset, .unset, .unset, .unset, .unset, .unset, .unset, .unset, .unset, .unset, .unset, .unset, .unset, .unset, .unset, .unset] [(.ref b2), (.ref b2)])) _
      refine XS.bipush X58.here hx rfl (hb hby at_93) ?_
      show Steps p.tables e below (T58.setTop (mkF m 95 #[.val (.int pr), .val (.int ps), .val (.long pt), .second, .val (.long pd), .second, .val (.int pm), .unset, .unset, .unset, .unset, .unset, .unset, .unset, .unset, .unset, .unset, .unset, .unset, .unset, .unset, .unset, .unset] [(.int (14 : Int32)), (.ref b2), (.ref b2)])) _
      refine X58.ldc2Long hx hown (mvT hZ (hw _ (List.mem_of_getElem? (i := 13) rfl))) (g := (mkF m 95 #[.val (.int pr), .val (.int ps), .val (.long pt), .second, .val (.long pd), .second, .val (.int pm), .unset, .unset, .unset, .unset, .unset, .unset, .unset, .unset, .unset, .unset, .unset, .unset, .unset, .unset, .unset, .unset] [(.int (14 : Int32)), (.ref b2), (.ref b2)])) rfl (hb hby at_95) _ ?_
      exact kt)
  obtain ⟨cl61, Ar61, q61, S61, N_61, H61, G61⟩ := (id (V58))
  have hin61 : ¬ ((14 : Int32) < 0 ∨ cl61.slots.size ≤ ((14 : Int32)).toNatClampNeg) := inb_of S61 ⟨by decide, by decide⟩
  obtain ⟨T62, h62, X62, e62, W62, st62⟩ := stJ X58 hx hZ e58 Ar61 (j := (14 : Int32)) hin61 (g := (mkF m 98 #[.val (.int pr), .val (.int ps), .val (.long pt), .second, .val (.long pd), .second, .val (.int pm), .unset, .unset, .unset, .unset, .unset, .unset, .unset, .unset, .unset, .unset, .unset, .unset, .unset, .unset, .unset, .unset] [(.long (390625 : Int64)), (.int (14 : Int32)), (.ref b2), (.ref b2)])) rfl rfl (hb hby at_98)
  have V62 : Arv Z h62 b2 k2 .long (16 : Int32) [(.long (0 : Int64)), (.long (1 : Int64)), (.long (2 : Int64)), (.long (4 : Int64)), (.long (5 : Int64)), (.long (8 : Int64)), (.long (10 : Int64)), (.long (16 : Int64)), (.long (25 : Int64)), (.long (50 : Int64)), (.long (64 : Int64)), (.long (125 : Int64)), (.long (1000 : Int64)), (.long (15625 : Int64)), (.long (390625 : Int64)), (.long (0 : Int64))] (.long (0 : Int64)) := Arv.set Ar61 q61 S61 N_61 H61 G61 rfl W62 14 rfl (Nat.le_of_ble_eq_true rfl)
  have K62 : Keep h0 h62 [] := K58.wr W62 (Or.inr sz_b2)
  have N62 := Fr.snoc X62 N58 g_b2
  have pre63 : Goes p e below s₁ (entryFrame m #[(.int pr), (.int ps), (.long pt), (.long pd), (.int pm)] maxLocals) T62 (mkF m 99 #[.val (.int pr), .val (.int ps), .val (.long pt), .second, .val (.long pd), .second, .val (.int pm), .unset, .unset, .unset, .unset, .unset, .unset, .unset, .unset, .unset, .unset, .unset, .unset, .unset, .unset, .unset, .unset] [(.ref b2)]) := fun t kt => pre60 t (st62 t kt)
  have pre64 : Goes p e below s₁ (entryFrame m #[(.int pr), (.int ps), (.long pt), (.long pd), (.int pm)] maxLocals) T62 (mkF m 105 #[.val (.int pr), .val (.int ps), .val (.long pt), .second, .val (.long pd), .second, .val (.int pm), .unset, .unset, .unset, .unset, .unset, .unset, .unset, .unset, .unset, .unset, .unset, .unset, .unset, .unset, .unset, .unset] [(.long (1000000 : Int64)), (.int (15 : Int32)), (.ref b2), (.ref b2)]) := fun t kt => pre63 t (by
      show Steps p.tables e below (T62.setTop (mkF m 99 #[.val (.int pr), .val (.int ps), .val (.long pt), .second, .val (.long pd), .second, .val (.int pm), .unset, .unset, .unset, .unset, .unset, .unset, .unset, .unset, .unset, .unset, .unset, .unset, .unset, .unset, .unset, .unset] [(.ref b2)])) _
      refine XS.dup X62.here hx rfl (hb hby at_99) rfl rfl ?_
      show Steps p.tables e below (T62.setTop (mkF m 100 #[.val (.int pr), .val (.int ps), .val (.long pt), .second, .val (.long pd), .second, .val (.int pm), .unset, .unset, .unset, .unset, .unset, .unset, .unset, .unset, .unset, .unset, .unset, .unset, .unset, .unset, .unset, .unset] [(.ref b2), (.ref b2)])) _
      refine XS.bipush X62.here hx rfl (hb hby at_100) ?_
      show Steps p.tables e below (T62.setTop (mkF m 102 #[.val (.int pr), .val (.int ps), .val (.long pt), .second, .val (.long pd), .second, .val (.int pm), .unset, .unset, .unset, .unset, .unset, .unset, .unset, .unset, .unset, .unset, .unset, .unset, .unset, .unset, .unset, .unset] [(.int (15 : Int32)), (.ref b2), (.ref b2)])) _
      refine X62.ldc2Long hx hown (mvT hZ (hw _ (List.mem_of_getElem? (i := 14) rfl))) (g := (mkF m 102 #[.val (.int pr), .val (.int ps), .val (.long pt), .second, .val (.long pd), .second, .val (.int pm), .unset, .unset, .unset, .unset, .unset, .unset, .unset, .unset, .unset, .unset, .unset, .unset, .unset, .unset, .unset, .unset] [(.int (15 : Int32)), (.ref b2), (.ref b2)])) rfl (hb hby at_102) _ ?_
      exact kt)
  obtain ⟨cl65, Ar65, q65, S65, N_65, H65, G65⟩ := (id (V62))
  have hin65 : ¬ ((15 : Int32) < 0 ∨ cl65.slots.size ≤ ((15 : Int32)).toNatClampNeg) := inb_of S65 ⟨by decide, by decide⟩
  obtain ⟨T66, h66, X66, e66, W66, st66⟩ := stJ X62 hx hZ e62 Ar65 (j := (15 : Int32)) hin65 (g := (mkF m 105 #[.val (.int pr), .val (.int ps), .val (.long pt), .second, .val (.long pd), .second, .val (.int pm), .unset, .unset, .unset, .unset, .unset, .unset, .unset, .unset, .unset, .unset, .unset, .unset, .unset, .unset, .unset, .unset] [(.long (1000000 : Int64)), (.int (15 : Int32)), (.ref b2), (.ref b2)])) rfl rfl (hb hby at_105)
  have V66 : Arv Z h66 b2 k2 .long (16 : Int32) [(.long (0 : Int64)), (.long (1 : Int64)), (.long (2 : Int64)), (.long (4 : Int64)), (.long (5 : Int64)), (.long (8 : Int64)), (.long (10 : Int64)), (.long (16 : Int64)), (.long (25 : Int64)), (.long (50 : Int64)), (.long (64 : Int64)), (.long (125 : Int64)), (.long (1000 : Int64)), (.long (15625 : Int64)), (.long (390625 : Int64)), (.long (1000000 : Int64))] (.long (0 : Int64)) := Arv.set Ar65 q65 S65 N_65 H65 G65 rfl W66 15 rfl (Nat.le_of_ble_eq_true rfl)
  have K66 : Keep h0 h66 [] := K62.wr W66 (Or.inr sz_b2)
  have N66 := Fr.snoc X66 N62 g_b2
  have pre67 : Goes p e below s₁ (entryFrame m #[(.int pr), (.int ps), (.long pt), (.long pd), (.int pm)] maxLocals) T66 (mkF m 106 #[.val (.int pr), .val (.int ps), .val (.long pt), .second, .val (.long pd), .second, .val (.int pm), .unset, .unset, .unset, .unset, .unset, .unset, .unset, .unset, .unset, .unset, .unset, .unset, .unset, .unset, .unset, .unset] [(.ref b2)]) := fun t kt => pre64 t (st66 t kt)
  have pre68 : Goes p e below s₁ (entryFrame m #[(.int pr), (.int ps), (.long pt), (.long pd), (.int pm)] maxLocals) T66 (mkF m 112 #[.val (.int pr), .val (.int ps), .val (.long pt), .second, .val (.long pd), .second, .val (.int pm), .val (.ref b2), .unset, .unset, .unset, .unset, .unset, .unset, .unset, .unset, .unset, .unset, .unset, .unset, .unset, .unset, .unset] [(.int (pm &&& (1 : Int32)))]) := fun t kt => pre67 t (by
      show Steps p.tables e below (T66.setTop (mkF m 106 #[.val (.int pr), .val (.int ps), .val (.long pt), .second, .val (.long pd), .second, .val (.int pm), .unset, .unset, .unset, .unset, .unset, .unset, .unset, .unset, .unset, .unset, .unset, .unset, .unset, .unset, .unset, .unset] [(.ref b2)])) _
      refine XS.astore X66.here hx rfl (hb hby at_106) rfl rfl (l' := #[.val (.int pr), .val (.int ps), .val (.long pt), .second, .val (.long pd), .second, .val (.int pm), .val (.ref b2), .unset, .unset, .unset, .unset, .unset, .unset, .unset, .unset, .unset, .unset, .unset, .unset, .unset, .unset, .unset]) rfl ?_
      show Steps p.tables e below (T66.setTop (mkF m 108 #[.val (.int pr), .val (.int ps), .val (.long pt), .second, .val (.long pd), .second, .val (.int pm), .val (.ref b2), .unset, .unset, .unset, .unset, .unset, .unset, .unset, .unset, .unset, .unset, .unset, .unset, .unset, .unset, .unset] [])) _
      refine XS.iload X66.here hx rfl (hb hby at_108) rfl ?_
      show Steps p.tables e below (T66.setTop (mkF m 110 #[.val (.int pr), .val (.int ps), .val (.long pt), .second, .val (.long pd), .second, .val (.int pm), .val (.ref b2), .unset, .unset, .unset, .unset, .unset, .unset, .unset, .unset, .unset, .unset, .unset, .unset, .unset, .unset, .unset] [(.int pm)])) _
      refine XS.iconst X66.here hx rfl (hb hby at_110) ?_
      show Steps p.tables e below (T66.setTop (mkF m 111 #[.val (.int pr), .val (.int ps), .val (.long pt), .second, .val (.long pd), .second, .val (.int pm), .val (.ref b2), .unset, .unset, .unset, .unset, .unset, .unset, .unset, .unset, .unset, .unset, .unset, .unset, .unset, .unset, .unset] [(.int (1 : Int32)), (.int pm)])) _
      refine XS.iand X66.here hx rfl (hb hby at_111) rfl ?_
      exact kt)
  obtain ⟨rr, hR, pre70⟩ : ∃ (rr : Int64), (0 ≤ rr.toInt ∧ rr.toInt < 1048576) ∧ Goes p e below s₁ (entryFrame m #[(.int pr), (.int ps), (.long pt), (.long pd), (.int pm)] maxLocals) T66 (mkF m 132 #[.val (.int pr), .val (.int ps), .val (.long pt), .second, .val (.long pd), .second, .val (.int pm), .val (.ref b2), .unset, .unset, .unset, .unset, .unset, .unset, .unset, .unset, .unset, .unset, .unset, .unset, .unset, .unset, .unset] [(.long rr)]) := by
    by_cases hc112_71 : (pm &&& (1 : Int32)) = (0 : Int32)
    · -- yes at pc 112: 
      have pre72 : Goes p e below s₁ (entryFrame m #[(.int pr), (.int ps), (.long pt), (.long pd), (.int pm)] maxLocals) T66 (mkF m 123 #[.val (.int pr), .val (.int ps), .val (.long pt), .second, .val (.long pd), .second, .val (.int pm), .val (.ref b2), .unset, .unset, .unset, .unset, .unset, .unset, .unset, .unset, .unset, .unset, .unset, .unset, .unset, .unset, .unset] [(.int (((pr.toUInt32 >>> ((1 : Int32) &&& 31).toUInt32).toInt32) &&& (15 : Int32))), (.ref b2)]) := fun t kt => pre68 t (by
          show Steps p.tables e below (T66.setTop (mkF m 112 #[.val (.int pr), .val (.int ps), .val (.long pt), .second, .val (.long pd), .second, .val (.int pm), .val (.ref b2), .unset, .unset, .unset, .unset, .unset, .unset, .unset, .unset, .unset, .unset, .unset, .unset, .unset, .unset, .unset] [(.int (pm &&& (1 : Int32)))])) _
          refine XS.ifNo X66.here hx rfl (hb hby at_112) rfl ((if0 _ _).trans (teq hc112_71).2) ?_
          show Steps p.tables e below (T66.setTop (mkF m 115 #[.val (.int pr), .val (.int ps), .val (.long pt), .second, .val (.long pd), .second, .val (.int pm), .val (.ref b2), .unset, .unset, .unset, .unset, .unset, .unset, .unset, .unset, .unset, .unset, .unset, .unset, .unset, .unset, .unset] [])) _
          refine XS.aload X66.here hx rfl (hb hby at_115) rfl rfl ?_
          show Steps p.tables e below (T66.setTop (mkF m 117 #[.val (.int pr), .val (.int ps), .val (.long pt), .second, .val (.long pd), .second, .val (.int pm), .val (.ref b2), .unset, .unset, .unset, .unset, .unset, .unset, .unset, .unset, .unset, .unset, .unset, .unset, .unset, .unset, .unset] [(.ref b2)])) _
          refine XS.iloadN X66.here hx rfl (hb hby at_117) rfl ?_
          show Steps p.tables e below (T66.setTop (mkF m 118 #[.val (.int pr), .val (.int ps), .val (.long pt), .second, .val (.long pd), .second, .val (.int pm), .val (.ref b2), .unset, .unset, .unset, .unset, .unset, .unset, .unset, .unset, .unset, .unset, .unset, .unset, .unset, .unset, .unset] [(.int pr), (.ref b2)])) _
          refine XS.iconst X66.here hx rfl (hb hby at_118) ?_
          show Steps p.tables e below (T66.setTop (mkF m 119 #[.val (.int pr), .val (.int ps), .val (.long pt), .second, .val (.long pd), .second, .val (.int pm), .val (.ref b2), .unset, .unset, .unset, .unset, .unset, .unset, .unset, .unset, .unset, .unset, .unset, .unset, .unset, .unset, .unset] [(.int (1 : Int32)), (.int pr), (.ref b2)])) _
          refine XS.iushr X66.here hx rfl (hb hby at_119) rfl ?_
          show Steps p.tables e below (T66.setTop (mkF m 120 #[.val (.int pr), .val (.int ps), .val (.long pt), .second, .val (.long pd), .second, .val (.int pm), .val (.ref b2), .unset, .unset, .unset, .unset, .unset, .unset, .unset, .unset, .unset, .unset, .unset, .unset, .unset, .unset, .unset] [(.int ((pr.toUInt32 >>> ((1 : Int32) &&& 31).toUInt32).toInt32)), (.ref b2)])) _
          refine XS.bipush X66.here hx rfl (hb hby at_120) ?_
          show Steps p.tables e below (T66.setTop (mkF m 122 #[.val (.int pr), .val (.int ps), .val (.long pt), .second, .val (.long pd), .second, .val (.int pm), .val (.ref b2), .unset, .unset, .unset, .unset, .unset, .unset, .unset, .unset, .unset, .unset, .unset, .unset, .unset, .unset, .unset] [(.int (15 : Int32)), (.int ((pr.toUInt32 >>> ((1 : Int32) &&& 31).toUInt32).toInt32)), (.ref b2)])) _
          refine XS.iand X66.here hx rfl (hb hby at_122) rfl ?_
          exact kt)
      rcases own_16 ((pr.toUInt32 >>> ((1 : Int32) &&& 31).toUInt32).toInt32) with hj | hj | hj | hj | hj | hj | hj | hj | hj | hj | hj | hj | hj | hj | hj | hj
      · -- 0
        rw [show (((pr.toUInt32 >>> ((1 : Int32) &&& 31).toUInt32).toInt32) &&& (15 : Int32)) = (0 : Int32) from hj] at pre72
        obtain ⟨cl73, Ar73, q73, S73, N_73, H73, G73⟩ := (id (V66))
        have hin73 : ¬ ((0 : Int32) < 0 ∨ cl73.slots.size ≤ ((0 : Int32)).toNatClampNeg) := inb_of S73 ⟨by decide, by decide⟩
        have hat73 : cl73.slots[((0 : Int32)).toNatClampNeg]? = some (.long (0 : Int64)) := Has.at H73 hin73 rfl
        have pre74 : Goes p e below s₁ (entryFrame m #[(.int pr), (.int ps), (.long pt), (.long pd), (.int pm)] maxLocals) T66 (mkF m 132 #[.val (.int pr), .val (.int ps), .val (.long pt), .second, .val (.long pd), .second, .val (.int pm), .val (.ref b2), .unset, .unset, .unset, .unset, .unset, .unset, .unset, .unset, .unset, .unset, .unset, .unset, .unset, .unset, .unset] [(.long (0 : Int64))]) := fun t kt => pre72 t (by
            show Steps p.tables e below (T66.setTop (mkF m 123 #[.val (.int pr), .val (.int ps), .val (.long pt), .second, .val (.long pd), .second, .val (.int pm), .val (.ref b2), .unset, .unset, .unset, .unset, .unset, .unset, .unset, .unset, .unset, .unset, .unset, .unset, .unset, .unset, .unset] [(.int (0 : Int32)), (.ref b2)])) _
            refine X66.laload hx (j := (0 : Int32)) (v := (.long (0 : Int64))) (by (try rw [e66]); exact Ar73.1) (State.isArrayOf_alike hZ.alike Ar73.2.1) Ar73.2.2 hin73 hat73 (g := (mkF m 123 #[.val (.int pr), .val (.int ps), .val (.long pt), .second, .val (.long pd), .second, .val (.int pm), .val (.ref b2), .unset, .unset, .unset, .unset, .unset, .unset, .unset, .unset, .unset, .unset, .unset, .unset, .unset, .unset, .unset] [(.int (0 : Int32)), (.ref b2)])) rfl rfl (hb hby at_123) _ ?_
            show Steps p.tables e below (T66.setTop (mkF m 124 #[.val (.int pr), .val (.int ps), .val (.long pt), .second, .val (.long pd), .second, .val (.int pm), .val (.ref b2), .unset, .unset, .unset, .unset, .unset, .unset, .unset, .unset, .unset, .unset, .unset, .unset, .unset, .unset, .unset] [(.long (0 : Int64))])) _
            refine XS.goto X66.here hx rfl (pc0 := 124) (pc' := 132) rfl (hb hby at_124) (by decide) (by decide) ?_
            exact kt)
        exact ⟨(0 : Int64), ⟨by decide, by decide⟩, pre74⟩
      · -- 1
        rw [show (((pr.toUInt32 >>> ((1 : Int32) &&& 31).toUInt32).toInt32) &&& (15 : Int32)) = (1 : Int32) from hj] at pre72
        obtain ⟨cl75, Ar75, q75, S75, N_75, H75, G75⟩ := (id (V66))
        have hin75 : ¬ ((1 : Int32) < 0 ∨ cl75.slots.size ≤ ((1 : Int32)).toNatClampNeg) := inb_of S75 ⟨by decide, by decide⟩
        have hat75 : cl75.slots[((1 : Int32)).toNatClampNeg]? = some (.long (1 : Int64)) := Has.at H75 hin75 rfl
        have pre76 : Goes p e below s₁ (entryFrame m #[(.int pr), (.int ps), (.long pt), (.long pd), (.int pm)] maxLocals) T66 (mkF m 132 #[.val (.int pr), .val (.int ps), .val (.long pt), .second, .val (.long pd), .second, .val (.int pm), .val (.ref b2), .unset, .unset, .unset, .unset, .unset, .unset, .unset, .unset, .unset, .unset, .unset, .unset, .unset, .unset, .unset] [(.long (1 : Int64))]) := fun t kt => pre72 t (by
            show Steps p.tables e below (T66.setTop (mkF m 123 #[.val (.int pr), .val (.int ps), .val (.long pt), .second, .val (.long pd), .second, .val (.int pm), .val (.ref b2), .unset, .unset, .unset, .unset, .unset, .unset, .unset, .unset, .unset, .unset, .unset, .unset, .unset, .unset, .unset] [(.int (1 : Int32)), (.ref b2)])) _
            refine X66.laload hx (j := (1 : Int32)) (v := (.long (1 : Int64))) (by (try rw [e66]); exact Ar75.1) (State.isArrayOf_alike hZ.alike Ar75.2.1) Ar75.2.2 hin75 hat75 (g := (mkF m 123 #[.val (.int pr), .val (.int ps), .val (.long pt), .second, .val (.long pd), .second, .val (.int pm), .val (.ref b2), .unset, .unset, .unset, .unset, .unset, .unset, .unset, .unset, .unset, .unset, .unset, .unset, .unset, .unset, .unset] [(.int (1 : Int32)), (.ref b2)])) rfl rfl (hb hby at_123) _ ?_
            show Steps p.tables e below (T66.setTop (mkF m 124 #[.val (.int pr), .val (.int ps), .val (.long pt), .second, .val (.long pd), .second, .val (.int pm), .val (.ref b2), .unset, .unset, .unset, .unset, .unset, .unset, .unset, .unset, .unset, .unset, .unset, .unset, .unset, .unset, .unset] [(.long (1 : Int64))])) _
            refine XS.goto X66.here hx rfl (pc0 := 124) (pc' := 132) rfl (hb hby at_124) (by decide) (by decide) ?_
            exact kt)
        exact ⟨(1 : Int64), ⟨by decide, by decide⟩, pre76⟩
      · -- 2
        rw [show (((pr.toUInt32 >>> ((1 : Int32) &&& 31).toUInt32).toInt32) &&& (15 : Int32)) = (2 : Int32) from hj] at pre72
        obtain ⟨cl77, Ar77, q77, S77, N_77, H77, G77⟩ := (id (V66))
        have hin77 : ¬ ((2 : Int32) < 0 ∨ cl77.slots.size ≤ ((2 : Int32)).toNatClampNeg) := inb_of S77 ⟨by decide, by decide⟩
        have hat77 : cl77.slots[((2 : Int32)).toNatClampNeg]? = some (.long (2 : Int64)) := Has.at H77 hin77 rfl
        have pre78 : Goes p e below s₁ (entryFrame m #[(.int pr), (.int ps), (.long pt), (.long pd), (.int pm)] maxLocals) T66 (mkF m 132 #[.val (.int pr), .val (.int ps), .val (.long pt), .second, .val (.long pd), .second, .val (.int pm), .val (.ref b2), .unset, .unset, .unset, .unset, .unset, .unset, .unset, .unset, .unset, .unset, .unset, .unset, .unset, .unset, .unset] [(.long (2 : Int64))]) := fun t kt => pre72 t (by
            show Steps p.tables e below (T66.setTop (mkF m 123 #[.val (.int pr), .val (.int ps), .val (.long pt), .second, .val (.long pd), .second, .val (.int pm), .val (.ref b2), .unset, .unset, .unset, .unset, .unset, .unset, .unset, .unset, .unset, .unset, .unset, .unset, .unset, .unset, .unset] [(.int (2 : Int32)), (.ref b2)])) _
            refine X66.laload hx (j := (2 : Int32)) (v := (.long (2 : Int64))) (by (try rw [e66]); exact Ar77.1) (State.isArrayOf_alike hZ.alike Ar77.2.1) Ar77.2.2 hin77 hat77 (g := (mkF m 123 #[.val (.int pr), .val (.int ps), .val (.long pt), .second, .val (.long pd), .second, .val (.int pm), .val (.ref b2), .unset, .unset, .unset, .unset, .unset, .unset, .unset, .unset, .unset, .unset, .unset, .unset, .unset, .unset, .unset] [(.int (2 : Int32)), (.ref b2)])) rfl rfl (hb hby at_123) _ ?_
            show Steps p.tables e below (T66.setTop (mkF m 124 #[.val (.int pr), .val (.int ps), .val (.long pt), .second, .val (.long pd), .second, .val (.int pm), .val (.ref b2), .unset, .unset, .unset, .unset, .unset, .unset, .unset, .unset, .unset, .unset, .unset, .unset, .unset, .unset, .unset] [(.long (2 : Int64))])) _
            refine XS.goto X66.here hx rfl (pc0 := 124) (pc' := 132) rfl (hb hby at_124) (by decide) (by decide) ?_
            exact kt)
        exact ⟨(2 : Int64), ⟨by decide, by decide⟩, pre78⟩
      · -- 3
        rw [show (((pr.toUInt32 >>> ((1 : Int32) &&& 31).toUInt32).toInt32) &&& (15 : Int32)) = (3 : Int32) from hj] at pre72
        obtain ⟨cl79, Ar79, q79, S79, N_79, H79, G79⟩ := (id (V66))
        have hin79 : ¬ ((3 : Int32) < 0 ∨ cl79.slots.size ≤ ((3 : Int32)).toNatClampNeg) := inb_of S79 ⟨by decide, by decide⟩
        have hat79 : cl79.slots[((3 : Int32)).toNatClampNeg]? = some (.long (4 : Int64)) := Has.at H79 hin79 rfl
        have pre80 : Goes p e below s₁ (entryFrame m #[(.int pr), (.int ps), (.long pt), (.long pd), (.int pm)] maxLocals) T66 (mkF m 132 #[.val (.int pr), .val (.int ps), .val (.long pt), .second, .val (.long pd), .second, .val (.int pm), .val (.ref b2), .unset, .unset, .unset, .unset, .unset, .unset, .unset, .unset, .unset, .unset, .unset, .unset, .unset, .unset, .unset] [(.long (4 : Int64))]) := fun t kt => pre72 t (by
            show Steps p.tables e below (T66.setTop (mkF m 123 #[.val (.int pr), .val (.int ps), .val (.long pt), .second, .val (.long pd), .second, .val (.int pm), .val (.ref b2), .unset, .unset, .unset, .unset, .unset, .unset, .unset, .unset, .unset, .unset, .unset, .unset, .unset, .unset, .unset] [(.int (3 : Int32)), (.ref b2)])) _
            refine X66.laload hx (j := (3 : Int32)) (v := (.long (4 : Int64))) (by (try rw [e66]); exact Ar79.1) (State.isArrayOf_alike hZ.alike Ar79.2.1) Ar79.2.2 hin79 hat79 (g := (mkF m 123 #[.val (.int pr), .val (.int ps), .val (.long pt), .second, .val (.long pd), .second, .val (.int pm), .val (.ref b2), .unset, .unset, .unset, .unset, .unset, .unset, .unset, .unset, .unset, .unset, .unset, .unset, .unset, .unset, .unset] [(.int (3 : Int32)), (.ref b2)])) rfl rfl (hb hby at_123) _ ?_
            show Steps p.tables e below (T66.setTop (mkF m 124 #[.val (.int pr), .val (.int ps), .val (.long pt), .second, .val (.long pd), .second, .val (.int pm), .val (.ref b2), .unset, .unset, .unset, .unset, .unset, .unset, .unset, .unset, .unset, .unset, .unset, .unset, .unset, .unset, .unset] [(.long (4 : Int64))])) _
            refine XS.goto X66.here hx rfl (pc0 := 124) (pc' := 132) rfl (hb hby at_124) (by decide) (by decide) ?_
            exact kt)
        exact ⟨(4 : Int64), ⟨by decide, by decide⟩, pre80⟩
      · -- 4
        rw [show (((pr.toUInt32 >>> ((1 : Int32) &&& 31).toUInt32).toInt32) &&& (15 : Int32)) = (4 : Int32) from hj] at pre72
        obtain ⟨cl81, Ar81, q81, S81, N_81, H81, G81⟩ := (id (V66))
        have hin81 : ¬ ((4 : Int32) < 0 ∨ cl81.slots.size ≤ ((4 : Int32)).toNatClampNeg) := inb_of S81 ⟨by decide, by decide⟩
        have hat81 : cl81.slots[((4 : Int32)).toNatClampNeg]? = some (.long (5 : Int64)) := Has.at H81 hin81 rfl
        have pre82 : Goes p e below s₁ (entryFrame m #[(.int pr), (.int ps), (.long pt), (.long pd), (.int pm)] maxLocals) T66 (mkF m 132 #[.val (.int pr), .val (.int ps), .val (.long pt), .second, .val (.long pd), .second, .val (.int pm), .val (.ref b2), .unset, .unset, .unset, .unset, .unset, .unset, .unset, .unset, .unset, .unset, .unset, .unset, .unset, .unset, .unset] [(.long (5 : Int64))]) := fun t kt => pre72 t (by
            show Steps p.tables e below (T66.setTop (mkF m 123 #[.val (.int pr), .val (.int ps), .val (.long pt), .second, .val (.long pd), .second, .val (.int pm), .val (.ref b2), .unset, .unset, .unset, .unset, .unset, .unset, .unset, .unset, .unset, .unset, .unset, .unset, .unset, .unset, .unset] [(.int (4 : Int32)), (.ref b2)])) _
            refine X66.laload hx (j := (4 : Int32)) (v := (.long (5 : Int64))) (by (try rw [e66]); exact Ar81.1) (State.isArrayOf_alike hZ.alike Ar81.2.1) Ar81.2.2 hin81 hat81 (g := (mkF m 123 #[.val (.int pr), .val (.int ps), .val (.long pt), .second, .val (.long pd), .second, .val (.int pm), .val (.ref b2), .unset, .unset, .unset, .unset, .unset, .unset, .unset, .unset, .unset, .unset, .unset, .unset, .unset, .unset, .unset] [(.int (4 : Int32)), (.ref b2)])) rfl rfl (hb hby at_123) _ ?_
            show Steps p.tables e below (T66.setTop (mkF m 124 #[.val (.int pr), .val (.int ps), .val (.long pt), .second, .val (.long pd), .second, .val (.int pm), .val (.ref b2), .unset, .unset, .unset, .unset, .unset, .unset, .unset, .unset, .unset, .unset, .unset, .unset, .unset, .unset, .unset] [(.long (5 : Int64))])) _
            refine XS.goto X66.here hx rfl (pc0 := 124) (pc' := 132) rfl (hb hby at_124) (by decide) (by decide) ?_
            exact kt)
        exact ⟨(5 : Int64), ⟨by decide, by decide⟩, pre82⟩
      · -- 5
        rw [show (((pr.toUInt32 >>> ((1 : Int32) &&& 31).toUInt32).toInt32) &&& (15 : Int32)) = (5 : Int32) from hj] at pre72
        obtain ⟨cl83, Ar83, q83, S83, N_83, H83, G83⟩ := (id (V66))
        have hin83 : ¬ ((5 : Int32) < 0 ∨ cl83.slots.size ≤ ((5 : Int32)).toNatClampNeg) := inb_of S83 ⟨by decide, by decide⟩
        have hat83 : cl83.slots[((5 : Int32)).toNatClampNeg]? = some (.long (8 : Int64)) := Has.at H83 hin83 rfl
        have pre84 : Goes p e below s₁ (entryFrame m #[(.int pr), (.int ps), (.long pt), (.long pd), (.int pm)] maxLocals) T66 (mkF m 132 #[.val (.int pr), .val (.int ps), .val (.long pt), .second, .val (.long pd), .second, .val (.int pm), .val (.ref b2), .unset, .unset, .unset, .unset, .unset, .unset, .unset, .unset, .unset, .unset, .unset, .unset, .unset, .unset, .unset] [(.long (8 : Int64))]) := fun t kt => pre72 t (by
            show Steps p.tables e below (T66.setTop (mkF m 123 #[.val (.int pr), .val (.int ps), .val (.long pt), .second, .val (.long pd), .second, .val (.int pm), .val (.ref b2), .unset, .unset, .unset, .unset, .unset, .unset, .unset, .unset, .unset, .unset, .unset, .unset, .unset, .unset, .unset] [(.int (5 : Int32)), (.ref b2)])) _
            refine X66.laload hx (j := (5 : Int32)) (v := (.long (8 : Int64))) (by (try rw [e66]); exact Ar83.1) (State.isArrayOf_alike hZ.alike Ar83.2.1) Ar83.2.2 hin83 hat83 (g := (mkF m 123 #[.val (.int pr), .val (.int ps), .val (.long pt), .second, .val (.long pd), .second, .val (.int pm), .val (.ref b2), .unset, .unset, .unset, .unset, .unset, .unset, .unset, .unset, .unset, .unset, .unset, .unset, .unset, .unset, .unset] [(.int (5 : Int32)), (.ref b2)])) rfl rfl (hb hby at_123) _ ?_
            show Steps p.tables e below (T66.setTop (mkF m 124 #[.val (.int pr), .val (.int ps), .val (.long pt), .second, .val (.long pd), .second, .val (.int pm), .val (.ref b2), .unset, .unset, .unset, .unset, .unset, .unset, .unset, .unset, .unset, .unset, .unset, .unset, .unset, .unset, .unset] [(.long (8 : Int64))])) _
            refine XS.goto X66.here hx rfl (pc0 := 124) (pc' := 132) rfl (hb hby at_124) (by decide) (by decide) ?_
            exact kt)
        exact ⟨(8 : Int64), ⟨by decide, by decide⟩, pre84⟩
      · -- 6
        rw [show (((pr.toUInt32 >>> ((1 : Int32) &&& 31).toUInt32).toInt32) &&& (15 : Int32)) = (6 : Int32) from hj] at pre72
        obtain ⟨cl85, Ar85, q85, S85, N_85, H85, G85⟩ := (id (V66))
        have hin85 : ¬ ((6 : Int32) < 0 ∨ cl85.slots.size ≤ ((6 : Int32)).toNatClampNeg) := inb_of S85 ⟨by decide, by decide⟩
        have hat85 : cl85.slots[((6 : Int32)).toNatClampNeg]? = some (.long (10 : Int64)) := Has.at H85 hin85 rfl
        have pre86 : Goes p e below s₁ (entryFrame m #[(.int pr), (.int ps), (.long pt), (.long pd), (.int pm)] maxLocals) T66 (mkF m 132 #[.val (.int pr), .val (.int ps), .val (.long pt), .second, .val (.long pd), .second, .val (.int pm), .val (.ref b2), .unset, .unset, .unset, .unset, .unset, .unset, .unset, .unset, .unset, .unset, .unset, .unset, .unset, .unset, .unset] [(.long (10 : Int64))]) := fun t kt => pre72 t (by
            show Steps p.tables e below (T66.setTop (mkF m 123 #[.val (.int pr), .val (.int ps), .val (.long pt), .second, .val (.long pd), .second, .val (.int pm), .val (.ref b2), .unset, .unset, .unset, .unset, .unset, .unset, .unset, .unset, .unset, .unset, .unset, .unset, .unset, .unset, .unset] [(.int (6 : Int32)), (.ref b2)])) _
            refine X66.laload hx (j := (6 : Int32)) (v := (.long (10 : Int64))) (by (try rw [e66]); exact Ar85.1) (State.isArrayOf_alike hZ.alike Ar85.2.1) Ar85.2.2 hin85 hat85 (g := (mkF m 123 #[.val (.int pr), .val (.int ps), .val (.long pt), .second, .val (.long pd), .second, .val (.int pm), .val (.ref b2), .unset, .unset, .unset, .unset, .unset, .unset, .unset, .unset, .unset, .unset, .unset, .unset, .unset, .unset, .unset] [(.int (6 : Int32)), (.ref b2)])) rfl rfl (hb hby at_123) _ ?_
            show Steps p.tables e below (T66.setTop (mkF m 124 #[.val (.int pr), .val (.int ps), .val (.long pt), .second, .val (.long pd), .second, .val (.int pm), .val (.ref b2), .unset, .unset, .unset, .unset, .unset, .unset, .unset, .unset, .unset, .unset, .unset, .unset, .unset, .unset, .unset] [(.long (10 : Int64))])) _
            refine XS.goto X66.here hx rfl (pc0 := 124) (pc' := 132) rfl (hb hby at_124) (by decide) (by decide) ?_
            exact kt)
        exact ⟨(10 : Int64), ⟨by decide, by decide⟩, pre86⟩
      · -- 7
        rw [show (((pr.toUInt32 >>> ((1 : Int32) &&& 31).toUInt32).toInt32) &&& (15 : Int32)) = (7 : Int32) from hj] at pre72
        obtain ⟨cl87, Ar87, q87, S87, N_87, H87, G87⟩ := (id (V66))
        have hin87 : ¬ ((7 : Int32) < 0 ∨ cl87.slots.size ≤ ((7 : Int32)).toNatClampNeg) := inb_of S87 ⟨by decide, by decide⟩
        have hat87 : cl87.slots[((7 : Int32)).toNatClampNeg]? = some (.long (16 : Int64)) := Has.at H87 hin87 rfl
        have pre88 : Goes p e below s₁ (entryFrame m #[(.int pr), (.int ps), (.long pt), (.long pd), (.int pm)] maxLocals) T66 (mkF m 132 #[.val (.int pr), .val (.int ps), .val (.long pt), .second, .val (.long pd), .second, .val (.int pm), .val (.ref b2), .unset, .unset, .unset, .unset, .unset, .unset, .unset, .unset, .unset, .unset, .unset, .unset, .unset, .unset, .unset] [(.long (16 : Int64))]) := fun t kt => pre72 t (by
            show Steps p.tables e below (T66.setTop (mkF m 123 #[.val (.int pr), .val (.int ps), .val (.long pt), .second, .val (.long pd), .second, .val (.int pm), .val (.ref b2), .unset, .unset, .unset, .unset, .unset, .unset, .unset, .unset, .unset, .unset, .unset, .unset, .unset, .unset, .unset] [(.int (7 : Int32)), (.ref b2)])) _
            refine X66.laload hx (j := (7 : Int32)) (v := (.long (16 : Int64))) (by (try rw [e66]); exact Ar87.1) (State.isArrayOf_alike hZ.alike Ar87.2.1) Ar87.2.2 hin87 hat87 (g := (mkF m 123 #[.val (.int pr), .val (.int ps), .val (.long pt), .second, .val (.long pd), .second, .val (.int pm), .val (.ref b2), .unset, .unset, .unset, .unset, .unset, .unset, .unset, .unset, .unset, .unset, .unset, .unset, .unset, .unset, .unset] [(.int (7 : Int32)), (.ref b2)])) rfl rfl (hb hby at_123) _ ?_
            show Steps p.tables e below (T66.setTop (mkF m 124 #[.val (.int pr), .val (.int ps), .val (.long pt), .second, .val (.long pd), .second, .val (.int pm), .val (.ref b2), .unset, .unset, .unset, .unset, .unset, .unset, .unset, .unset, .unset, .unset, .unset, .unset, .unset, .unset, .unset] [(.long (16 : Int64))])) _
            refine XS.goto X66.here hx rfl (pc0 := 124) (pc' := 132) rfl (hb hby at_124) (by decide) (by decide) ?_
            exact kt)
        exact ⟨(16 : Int64), ⟨by decide, by decide⟩, pre88⟩
      · -- 8
        rw [show (((pr.toUInt32 >>> ((1 : Int32) &&& 31).toUInt32).toInt32) &&& (15 : Int32)) = (8 : Int32) from hj] at pre72
        obtain ⟨cl89, Ar89, q89, S89, N_89, H89, G89⟩ := (id (V66))
        have hin89 : ¬ ((8 : Int32) < 0 ∨ cl89.slots.size ≤ ((8 : Int32)).toNatClampNeg) := inb_of S89 ⟨by decide, by decide⟩
        have hat89 : cl89.slots[((8 : Int32)).toNatClampNeg]? = some (.long (25 : Int64)) := Has.at H89 hin89 rfl
        have pre90 : Goes p e below s₁ (entryFrame m #[(.int pr), (.int ps), (.long pt), (.long pd), (.int pm)] maxLocals) T66 (mkF m 132 #[.val (.int pr), .val (.int ps), .val (.long pt), .second, .val (.long pd), .second, .val (.int pm), .val (.ref b2), .unset, .unset, .unset, .unset, .unset, .unset, .unset, .unset, .unset, .unset, .unset, .unset, .unset, .unset, .unset] [(.long (25 : Int64))]) := fun t kt => pre72 t (by
            show Steps p.tables e below (T66.setTop (mkF m 123 #[.val (.int pr), .val (.int ps), .val (.long pt), .second, .val (.long pd), .second, .val (.int pm), .val (.ref b2), .unset, .unset, .unset, .unset, .unset, .unset, .unset, .unset, .unset, .unset, .unset, .unset, .unset, .unset, .unset] [(.int (8 : Int32)), (.ref b2)])) _
            refine X66.laload hx (j := (8 : Int32)) (v := (.long (25 : Int64))) (by (try rw [e66]); exact Ar89.1) (State.isArrayOf_alike hZ.alike Ar89.2.1) Ar89.2.2 hin89 hat89 (g := (mkF m 123 #[.val (.int pr), .val (.int ps), .val (.long pt), .second, .val (.long pd), .second, .val (.int pm), .val (.ref b2), .unset, .unset, .unset, .unset, .unset, .unset, .unset, .unset, .unset, .unset, .unset, .unset, .unset, .unset, .unset] [(.int (8 : Int32)), (.ref b2)])) rfl rfl (hb hby at_123) _ ?_
            show Steps p.tables e below (T66.setTop (mkF m 124 #[.val (.int pr), .val (.int ps), .val (.long pt), .second, .val (.long pd), .second, .val (.int pm), .val (.ref b2), .unset, .unset, .unset, .unset, .unset, .unset, .unset, .unset, .unset, .unset, .unset, .unset, .unset, .unset, .unset] [(.long (25 : Int64))])) _
            refine XS.goto X66.here hx rfl (pc0 := 124) (pc' := 132) rfl (hb hby at_124) (by decide) (by decide) ?_
            exact kt)
        exact ⟨(25 : Int64), ⟨by decide, by decide⟩, pre90⟩
      · -- 9
        rw [show (((pr.toUInt32 >>> ((1 : Int32) &&& 31).toUInt32).toInt32) &&& (15 : Int32)) = (9 : Int32) from hj] at pre72
        obtain ⟨cl91, Ar91, q91, S91, N_91, H91, G91⟩ := (id (V66))
        have hin91 : ¬ ((9 : Int32) < 0 ∨ cl91.slots.size ≤ ((9 : Int32)).toNatClampNeg) := inb_of S91 ⟨by decide, by decide⟩
        have hat91 : cl91.slots[((9 : Int32)).toNatClampNeg]? = some (.long (50 : Int64)) := Has.at H91 hin91 rfl
        have pre92 : Goes p e below s₁ (entryFrame m #[(.int pr), (.int ps), (.long pt), (.long pd), (.int pm)] maxLocals) T66 (mkF m 132 #[.val (.int pr), .val (.int ps), .val (.long pt), .second, .val (.long pd), .second, .val (.int pm), .val (.ref b2), .unset, .unset, .unset, .unset, .unset, .unset, .unset, .unset, .unset, .unset, .unset, .unset, .unset, .unset, .unset] [(.long (50 : Int64))]) := fun t kt => pre72 t (by
            show Steps p.tables e below (T66.setTop (mkF m 123 #[.val (.int pr), .val (.int ps), .val (.long pt), .second, .val (.long pd), .second, .val (.int pm), .val (.ref b2), .unset, .unset, .unset, .unset, .unset, .unset, .unset, .unset, .unset, .unset, .unset, .unset, .unset, .unset, .unset] [(.int (9 : Int32)), (.ref b2)])) _
            refine X66.laload hx (j := (9 : Int32)) (v := (.long (50 : Int64))) (by (try rw [e66]); exact Ar91.1) (State.isArrayOf_alike hZ.alike Ar91.2.1) Ar91.2.2 hin91 hat91 (g := (mkF m 123 #[.val (.int pr), .val (.int ps), .val (.long pt), .second, .val (.long pd), .second, .val (.int pm), .val (.ref b2), .unset, .unset, .unset, .unset, .unset, .unset, .unset, .unset, .unset, .unset, .unset, .unset, .unset, .unset, .unset] [(.int (9 : Int32)), (.ref b2)])) rfl rfl (hb hby at_123) _ ?_
            show Steps p.tables e below (T66.setTop (mkF m 124 #[.val (.int pr), .val (.int ps), .val (.long pt), .second, .val (.long pd), .second, .val (.int pm), .val (.ref b2), .unset, .unset, .unset, .unset, .unset, .unset, .unset, .unset, .unset, .unset, .unset, .unset, .unset, .unset, .unset] [(.long (50 : Int64))])) _
            refine XS.goto X66.here hx rfl (pc0 := 124) (pc' := 132) rfl (hb hby at_124) (by decide) (by decide) ?_
            exact kt)
        exact ⟨(50 : Int64), ⟨by decide, by decide⟩, pre92⟩
      · -- 10
        rw [show (((pr.toUInt32 >>> ((1 : Int32) &&& 31).toUInt32).toInt32) &&& (15 : Int32)) = (10 : Int32) from hj] at pre72
        obtain ⟨cl93, Ar93, q93, S93, N_93, H93, G93⟩ := (id (V66))
        have hin93 : ¬ ((10 : Int32) < 0 ∨ cl93.slots.size ≤ ((10 : Int32)).toNatClampNeg) := inb_of S93 ⟨by decide, by decide⟩
        have hat93 : cl93.slots[((10 : Int32)).toNatClampNeg]? = some (.long (64 : Int64)) := Has.at H93 hin93 rfl
        have pre94 : Goes p e below s₁ (entryFrame m #[(.int pr), (.int ps), (.long pt), (.long pd), (.int pm)] maxLocals) T66 (mkF m 132 #[.val (.int pr), .val (.int ps), .val (.long pt), .second, .val (.long pd), .second, .val (.int pm), .val (.ref b2), .unset, .unset, .unset, .unset, .unset, .unset, .unset, .unset, .unset, .unset, .unset, .unset, .unset, .unset, .unset] [(.long (64 : Int64))]) := fun t kt => pre72 t (by
            show Steps p.tables e below (T66.setTop (mkF m 123 #[.val (.int pr), .val (.int ps), .val (.long pt), .second, .val (.long pd), .second, .val (.int pm), .val (.ref b2), .unset, .unset, .unset, .unset, .unset, .unset, .unset, .unset, .unset, .unset, .unset, .unset, .unset, .unset, .unset] [(.int (10 : Int32)), (.ref b2)])) _
            refine X66.laload hx (j := (10 : Int32)) (v := (.long (64 : Int64))) (by (try rw [e66]); exact Ar93.1) (State.isArrayOf_alike hZ.alike Ar93.2.1) Ar93.2.2 hin93 hat93 (g := (mkF m 123 #[.val (.int pr), .val (.int ps), .val (.long pt), .second, .val (.long pd), .second, .val (.int pm), .val (.ref b2), .unset, .unset, .unset, .unset, .unset, .unset, .unset, .unset, .unset, .unset, .unset, .unset, .unset, .unset, .unset] [(.int (10 : Int32)), (.ref b2)])) rfl rfl (hb hby at_123) _ ?_
            show Steps p.tables e below (T66.setTop (mkF m 124 #[.val (.int pr), .val (.int ps), .val (.long pt), .second, .val (.long pd), .second, .val (.int pm), .val (.ref b2), .unset, .unset, .unset, .unset, .unset, .unset, .unset, .unset, .unset, .unset, .unset, .unset, .unset, .unset, .unset] [(.long (64 : Int64))])) _
            refine XS.goto X66.here hx rfl (pc0 := 124) (pc' := 132) rfl (hb hby at_124) (by decide) (by decide) ?_
            exact kt)
        exact ⟨(64 : Int64), ⟨by decide, by decide⟩, pre94⟩
      · -- 11
        rw [show (((pr.toUInt32 >>> ((1 : Int32) &&& 31).toUInt32).toInt32) &&& (15 : Int32)) = (11 : Int32) from hj] at pre72
        obtain ⟨cl95, Ar95, q95, S95, N_95, H95, G95⟩ := (id (V66))
        have hin95 : ¬ ((11 : Int32) < 0 ∨ cl95.slots.size ≤ ((11 : Int32)).toNatClampNeg) := inb_of S95 ⟨by decide, by decide⟩
        have hat95 : cl95.slots[((11 : Int32)).toNatClampNeg]? = some (.long (125 : Int64)) := Has.at H95 hin95 rfl
        have pre96 : Goes p e below s₁ (entryFrame m #[(.int pr), (.int ps), (.long pt), (.long pd), (.int pm)] maxLocals) T66 (mkF m 132 #[.val (.int pr), .val (.int ps), .val (.long pt), .second, .val (.long pd), .second, .val (.int pm), .val (.ref b2), .unset, .unset, .unset, .unset, .unset, .unset, .unset, .unset, .unset, .unset, .unset, .unset, .unset, .unset, .unset] [(.long (125 : Int64))]) := fun t kt => pre72 t (by
            show Steps p.tables e below (T66.setTop (mkF m 123 #[.val (.int pr), .val (.int ps), .val (.long pt), .second, .val (.long pd), .second, .val (.int pm), .val (.ref b2), .unset, .unset, .unset, .unset, .unset, .unset, .unset, .unset, .unset, .unset, .unset, .unset, .unset, .unset, .unset] [(.int (11 : Int32)), (.ref b2)])) _
            refine X66.laload hx (j := (11 : Int32)) (v := (.long (125 : Int64))) (by (try rw [e66]); exact Ar95.1) (State.isArrayOf_alike hZ.alike Ar95.2.1) Ar95.2.2 hin95 hat95 (g := (mkF m 123 #[.val (.int pr), .val (.int ps), .val (.long pt), .second, .val (.long pd), .second, .val (.int pm), .val (.ref b2), .unset, .unset, .unset, .unset, .unset, .unset, .unset, .unset, .unset, .unset, .unset, .unset, .unset, .unset, .unset] [(.int (11 : Int32)), (.ref b2)])) rfl rfl (hb hby at_123) _ ?_
            show Steps p.tables e below (T66.setTop (mkF m 124 #[.val (.int pr), .val (.int ps), .val (.long pt), .second, .val (.long pd), .second, .val (.int pm), .val (.ref b2), .unset, .unset, .unset, .unset, .unset, .unset, .unset, .unset, .unset, .unset, .unset, .unset, .unset, .unset, .unset] [(.long (125 : Int64))])) _
            refine XS.goto X66.here hx rfl (pc0 := 124) (pc' := 132) rfl (hb hby at_124) (by decide) (by decide) ?_
            exact kt)
        exact ⟨(125 : Int64), ⟨by decide, by decide⟩, pre96⟩
      · -- 12
        rw [show (((pr.toUInt32 >>> ((1 : Int32) &&& 31).toUInt32).toInt32) &&& (15 : Int32)) = (12 : Int32) from hj] at pre72
        obtain ⟨cl97, Ar97, q97, S97, N_97, H97, G97⟩ := (id (V66))
        have hin97 : ¬ ((12 : Int32) < 0 ∨ cl97.slots.size ≤ ((12 : Int32)).toNatClampNeg) := inb_of S97 ⟨by decide, by decide⟩
        have hat97 : cl97.slots[((12 : Int32)).toNatClampNeg]? = some (.long (1000 : Int64)) := Has.at H97 hin97 rfl
        have pre98 : Goes p e below s₁ (entryFrame m #[(.int pr), (.int ps), (.long pt), (.long pd), (.int pm)] maxLocals) T66 (mkF m 132 #[.val (.int pr), .val (.int ps), .val (.long pt), .second, .val (.long pd), .second, .val (.int pm), .val (.ref b2), .unset, .unset, .unset, .unset, .unset, .unset, .unset, .unset, .unset, .unset, .unset, .unset, .unset, .unset, .unset] [(.long (1000 : Int64))]) := fun t kt => pre72 t (by
            show Steps p.tables e below (T66.setTop (mkF m 123 #[.val (.int pr), .val (.int ps), .val (.long pt), .second, .val (.long pd), .second, .val (.int pm), .val (.ref b2), .unset, .unset, .unset, .unset, .unset, .unset, .unset, .unset, .unset, .unset, .unset, .unset, .unset, .unset, .unset] [(.int (12 : Int32)), (.ref b2)])) _
            refine X66.laload hx (j := (12 : Int32)) (v := (.long (1000 : Int64))) (by (try rw [e66]); exact Ar97.1) (State.isArrayOf_alike hZ.alike Ar97.2.1) Ar97.2.2 hin97 hat97 (g := (mkF m 123 #[.val (.int pr), .val (.int ps), .val (.long pt), .second, .val (.long pd), .second, .val (.int pm), .val (.ref b2), .unset, .unset, .unset, .unset, .unset, .unset, .unset, .unset, .unset, .unset, .unset, .unset, .unset, .unset, .unset] [(.int (12 : Int32)), (.ref b2)])) rfl rfl (hb hby at_123) _ ?_
            show Steps p.tables e below (T66.setTop (mkF m 124 #[.val (.int pr), .val (.int ps), .val (.long pt), .second, .val (.long pd), .second, .val (.int pm), .val (.ref b2), .unset, .unset, .unset, .unset, .unset, .unset, .unset, .unset, .unset, .unset, .unset, .unset, .unset, .unset, .unset] [(.long (1000 : Int64))])) _
            refine XS.goto X66.here hx rfl (pc0 := 124) (pc' := 132) rfl (hb hby at_124) (by decide) (by decide) ?_
            exact kt)
        exact ⟨(1000 : Int64), ⟨by decide, by decide⟩, pre98⟩
      · -- 13
        rw [show (((pr.toUInt32 >>> ((1 : Int32) &&& 31).toUInt32).toInt32) &&& (15 : Int32)) = (13 : Int32) from hj] at pre72
        obtain ⟨cl99, Ar99, q99, S99, N_99, H99, G99⟩ := (id (V66))
        have hin99 : ¬ ((13 : Int32) < 0 ∨ cl99.slots.size ≤ ((13 : Int32)).toNatClampNeg) := inb_of S99 ⟨by decide, by decide⟩
        have hat99 : cl99.slots[((13 : Int32)).toNatClampNeg]? = some (.long (15625 : Int64)) := Has.at H99 hin99 rfl
        have pre100 : Goes p e below s₁ (entryFrame m #[(.int pr), (.int ps), (.long pt), (.long pd), (.int pm)] maxLocals) T66 (mkF m 132 #[.val (.int pr), .val (.int ps), .val (.long pt), .second, .val (.long pd), .second, .val (.int pm), .val (.ref b2), .unset, .unset, .unset, .unset, .unset, .unset, .unset, .unset, .unset, .unset, .unset, .unset, .unset, .unset, .unset] [(.long (15625 : Int64))]) := fun t kt => pre72 t (by
            show Steps p.tables e below (T66.setTop (mkF m 123 #[.val (.int pr), .val (.int ps), .val (.long pt), .second, .val (.long pd), .second, .val (.int pm), .val (.ref b2), .unset, .unset, .unset, .unset, .unset, .unset, .unset, .unset, .unset, .unset, .unset, .unset, .unset, .unset, .unset] [(.int (13 : Int32)), (.ref b2)])) _
            refine X66.laload hx (j := (13 : Int32)) (v := (.long (15625 : Int64))) (by (try rw [e66]); exact Ar99.1) (State.isArrayOf_alike hZ.alike Ar99.2.1) Ar99.2.2 hin99 hat99 (g := (mkF m 123 #[.val (.int pr), .val (.int ps), .val (.long pt), .second, .val (.long pd), .second, .val (.int pm), .val (.ref b2), .unset, .unset, .unset, .unset, .unset, .unset, .unset, .unset, .unset, .unset, .unset, .unset, .unset, .unset, .unset] [(.int (13 : Int32)), (.ref b2)])) rfl rfl (hb hby at_123) _ ?_
            show Steps p.tables e below (T66.setTop (mkF m 124 #[.val (.int pr), .val (.int ps), .val (.long pt), .second, .val (.long pd), .second, .val (.int pm), .val (.ref b2), .unset, .unset, .unset, .unset, .unset, .unset, .unset, .unset, .unset, .unset, .unset, .unset, .unset, .unset, .unset] [(.long (15625 : Int64))])) _
            refine XS.goto X66.here hx rfl (pc0 := 124) (pc' := 132) rfl (hb hby at_124) (by decide) (by decide) ?_
            exact kt)
        exact ⟨(15625 : Int64), ⟨by decide, by decide⟩, pre100⟩
      · -- 14
        rw [show (((pr.toUInt32 >>> ((1 : Int32) &&& 31).toUInt32).toInt32) &&& (15 : Int32)) = (14 : Int32) from hj] at pre72
        obtain ⟨cl101, Ar101, q101, S101, N_101, H101, G101⟩ := (id (V66))
        have hin101 : ¬ ((14 : Int32) < 0 ∨ cl101.slots.size ≤ ((14 : Int32)).toNatClampNeg) := inb_of S101 ⟨by decide, by decide⟩
        have hat101 : cl101.slots[((14 : Int32)).toNatClampNeg]? = some (.long (390625 : Int64)) := Has.at H101 hin101 rfl
        have pre102 : Goes p e below s₁ (entryFrame m #[(.int pr), (.int ps), (.long pt), (.long pd), (.int pm)] maxLocals) T66 (mkF m 132 #[.val (.int pr), .val (.int ps), .val (.long pt), .second, .val (.long pd), .second, .val (.int pm), .val (.ref b2), .unset, .unset, .unset, .unset, .unset, .unset, .unset, .unset, .unset, .unset, .unset, .unset, .unset, .unset, .unset] [(.long (390625 : Int64))]) := fun t kt => pre72 t (by
            show Steps p.tables e below (T66.setTop (mkF m 123 #[.val (.int pr), .val (.int ps), .val (.long pt), .second, .val (.long pd), .second, .val (.int pm), .val (.ref b2), .unset, .unset, .unset, .unset, .unset, .unset, .unset, .unset, .unset, .unset, .unset, .unset, .unset, .unset, .unset] [(.int (14 : Int32)), (.ref b2)])) _
            refine X66.laload hx (j := (14 : Int32)) (v := (.long (390625 : Int64))) (by (try rw [e66]); exact Ar101.1) (State.isArrayOf_alike hZ.alike Ar101.2.1) Ar101.2.2 hin101 hat101 (g := (mkF m 123 #[.val (.int pr), .val (.int ps), .val (.long pt), .second, .val (.long pd), .second, .val (.int pm), .val (.ref b2), .unset, .unset, .unset, .unset, .unset, .unset, .unset, .unset, .unset, .unset, .unset, .unset, .unset, .unset, .unset] [(.int (14 : Int32)), (.ref b2)])) rfl rfl (hb hby at_123) _ ?_
            show Steps p.tables e below (T66.setTop (mkF m 124 #[.val (.int pr), .val (.int ps), .val (.long pt), .second, .val (.long pd), .second, .val (.int pm), .val (.ref b2), .unset, .unset, .unset, .unset, .unset, .unset, .unset, .unset, .unset, .unset, .unset, .unset, .unset, .unset, .unset] [(.long (390625 : Int64))])) _
            refine XS.goto X66.here hx rfl (pc0 := 124) (pc' := 132) rfl (hb hby at_124) (by decide) (by decide) ?_
            exact kt)
        exact ⟨(390625 : Int64), ⟨by decide, by decide⟩, pre102⟩
      · -- 15
        rw [show (((pr.toUInt32 >>> ((1 : Int32) &&& 31).toUInt32).toInt32) &&& (15 : Int32)) = (15 : Int32) from hj] at pre72
        obtain ⟨cl103, Ar103, q103, S103, N_103, H103, G103⟩ := (id (V66))
        have hin103 : ¬ ((15 : Int32) < 0 ∨ cl103.slots.size ≤ ((15 : Int32)).toNatClampNeg) := inb_of S103 ⟨by decide, by decide⟩
        have hat103 : cl103.slots[((15 : Int32)).toNatClampNeg]? = some (.long (1000000 : Int64)) := Has.at H103 hin103 rfl
        have pre104 : Goes p e below s₁ (entryFrame m #[(.int pr), (.int ps), (.long pt), (.long pd), (.int pm)] maxLocals) T66 (mkF m 132 #[.val (.int pr), .val (.int ps), .val (.long pt), .second, .val (.long pd), .second, .val (.int pm), .val (.ref b2), .unset, .unset, .unset, .unset, .unset, .unset, .unset, .unset, .unset, .unset, .unset, .unset, .unset, .unset, .unset] [(.long (1000000 : Int64))]) := fun t kt => pre72 t (by
            show Steps p.tables e below (T66.setTop (mkF m 123 #[.val (.int pr), .val (.int ps), .val (.long pt), .second, .val (.long pd), .second, .val (.int pm), .val (.ref b2), .unset, .unset, .unset, .unset, .unset, .unset, .unset, .unset, .unset, .unset, .unset, .unset, .unset, .unset, .unset] [(.int (15 : Int32)), (.ref b2)])) _
            refine X66.laload hx (j := (15 : Int32)) (v := (.long (1000000 : Int64))) (by (try rw [e66]); exact Ar103.1) (State.isArrayOf_alike hZ.alike Ar103.2.1) Ar103.2.2 hin103 hat103 (g := (mkF m 123 #[.val (.int pr), .val (.int ps), .val (.long pt), .second, .val (.long pd), .second, .val (.int pm), .val (.ref b2), .unset, .unset, .unset, .unset, .unset, .unset, .unset, .unset, .unset, .unset, .unset, .unset, .unset, .unset, .unset] [(.int (15 : Int32)), (.ref b2)])) rfl rfl (hb hby at_123) _ ?_
            show Steps p.tables e below (T66.setTop (mkF m 124 #[.val (.int pr), .val (.int ps), .val (.long pt), .second, .val (.long pd), .second, .val (.int pm), .val (.ref b2), .unset, .unset, .unset, .unset, .unset, .unset, .unset, .unset, .unset, .unset, .unset, .unset, .unset, .unset, .unset] [(.long (1000000 : Int64))])) _
            refine XS.goto X66.here hx rfl (pc0 := 124) (pc' := 132) rfl (hb hby at_124) (by decide) (by decide) ?_
            exact kt)
        exact ⟨(1000000 : Int64), ⟨by decide, by decide⟩, pre104⟩
    · -- no at pc 112: 
      have pre105 : Goes p e below s₁ (entryFrame m #[(.int pr), (.int ps), (.long pt), (.long pd), (.int pm)] maxLocals) T66 (mkF m 132 #[.val (.int pr), .val (.int ps), .val (.long pt), .second, .val (.long pd), .second, .val (.int pm), .val (.ref b2), .unset, .unset, .unset, .unset, .unset, .unset, .unset, .unset, .unset, .unset, .unset, .unset, .unset, .unset, .unset] [(.long ((pr &&& (1048575 : Int32)).toInt64))]) := fun t kt => pre68 t (by
          show Steps p.tables e below (T66.setTop (mkF m 112 #[.val (.int pr), .val (.int ps), .val (.long pt), .second, .val (.long pd), .second, .val (.int pm), .val (.ref b2), .unset, .unset, .unset, .unset, .unset, .unset, .unset, .unset, .unset, .unset, .unset, .unset, .unset, .unset, .unset] [(.int (pm &&& (1 : Int32)))])) _
          refine XS.ifYes X66.here hx rfl (pc0 := 112) (pc' := 127) rfl (hb hby at_112) rfl ((if0 _ _).trans (feq hc112_71).2) (by decide) (by decide) ?_
          show Steps p.tables e below (T66.setTop (mkF m 127 #[.val (.int pr), .val (.int ps), .val (.long pt), .second, .val (.long pd), .second, .val (.int pm), .val (.ref b2), .unset, .unset, .unset, .unset, .unset, .unset, .unset, .unset, .unset, .unset, .unset, .unset, .unset, .unset, .unset] [])) _
          refine XS.iloadN X66.here hx rfl (hb hby at_127) rfl ?_
          show Steps p.tables e below (T66.setTop (mkF m 128 #[.val (.int pr), .val (.int ps), .val (.long pt), .second, .val (.long pd), .second, .val (.int pm), .val (.ref b2), .unset, .unset, .unset, .unset, .unset, .unset, .unset, .unset, .unset, .unset, .unset, .unset, .unset, .unset, .unset] [(.int pr)])) _
          refine X66.ldcInt hx hown (mvT hZ (hw _ (List.mem_of_getElem? (i := 15) rfl))) (g := (mkF m 128 #[.val (.int pr), .val (.int ps), .val (.long pt), .second, .val (.long pd), .second, .val (.int pm), .val (.ref b2), .unset, .unset, .unset, .unset, .unset, .unset, .unset, .unset, .unset, .unset, .unset, .unset, .unset, .unset, .unset] [(.int pr)])) rfl (hb hby at_128) _ ?_
          show Steps p.tables e below (T66.setTop (mkF m 130 #[.val (.int pr), .val (.int ps), .val (.long pt), .second, .val (.long pd), .second, .val (.int pm), .val (.ref b2), .unset, .unset, .unset, .unset, .unset, .unset, .unset, .unset, .unset, .unset, .unset, .unset, .unset, .unset, .unset] [(.int (1048575 : Int32)), (.int pr)])) _
          refine XS.iand X66.here hx rfl (hb hby at_130) rfl ?_
          show Steps p.tables e below (T66.setTop (mkF m 131 #[.val (.int pr), .val (.int ps), .val (.long pt), .second, .val (.long pd), .second, .val (.int pm), .val (.ref b2), .unset, .unset, .unset, .unset, .unset, .unset, .unset, .unset, .unset, .unset, .unset, .unset, .unset, .unset, .unset] [(.int (pr &&& (1048575 : Int32)))])) _
          refine XS.i2l X66.here hx rfl (hb hby at_131) rfl ?_
          exact kt)
      exact ⟨((pr &&& (1048575 : Int32)).toInt64), own_msk pr, pre105⟩
  have pre106 : Goes p e below s₁ (entryFrame m #[(.int pr), (.int ps), (.long pt), (.long pd), (.int pm)] maxLocals) T66 (mkF m 153 #[.val (.int pr), .val (.int ps), .val (.long pt), .second, .val (.long pd), .second, .val (.int pm), .val (.ref b2), .val (.long rr), .second, .val (.long ((ps &&& (1048575 : Int32)).toInt64)), .second, .val (.long (((ps &&& (1048575 : Int32)).toInt64) * (1000000000 : Int64))), .second, .unset, .unset, .unset, .unset, .unset, .unset, .unset, .unset, .unset] [(.int (lcmpW rr (0 : Int64)))]) := fun t kt => pre70 t (by
      show Steps p.tables e below (T66.setTop (mkF m 132 #[.val (.int pr), .val (.int ps), .val (.long pt), .second, .val (.long pd), .second, .val (.int pm), .val (.ref b2), .unset, .unset, .unset, .unset, .unset, .unset, .unset, .unset, .unset, .unset, .unset, .unset, .unset, .unset, .unset] [(.long rr)])) _
      refine XS.lstore X66.here hx rfl (hb hby at_132) rfl (l' := #[.val (.int pr), .val (.int ps), .val (.long pt), .second, .val (.long pd), .second, .val (.int pm), .val (.ref b2), .val (.long rr), .second, .unset, .unset, .unset, .unset, .unset, .unset, .unset, .unset, .unset, .unset, .unset, .unset, .unset]) rfl ?_
      show Steps p.tables e below (T66.setTop (mkF m 134 #[.val (.int pr), .val (.int ps), .val (.long pt), .second, .val (.long pd), .second, .val (.int pm), .val (.ref b2), .val (.long rr), .second, .unset, .unset, .unset, .unset, .unset, .unset, .unset, .unset, .unset, .unset, .unset, .unset, .unset] [])) _
      refine XS.iloadN X66.here hx rfl (hb hby at_134) rfl ?_
      show Steps p.tables e below (T66.setTop (mkF m 135 #[.val (.int pr), .val (.int ps), .val (.long pt), .second, .val (.long pd), .second, .val (.int pm), .val (.ref b2), .val (.long rr), .second, .unset, .unset, .unset, .unset, .unset, .unset, .unset, .unset, .unset, .unset, .unset, .unset, .unset] [(.int ps)])) _
      refine X66.ldcInt hx hown (mvT hZ (hw _ (List.mem_of_getElem? (i := 15) rfl))) (g := (mkF m 135 #[.val (.int pr), .val (.int ps), .val (.long pt), .second, .val (.long pd), .second, .val (.int pm), .val (.ref b2), .val (.long rr), .second, .unset, .unset, .unset, .unset, .unset, .unset, .unset, .unset, .unset, .unset, .unset, .unset, .unset] [(.int ps)])) rfl (hb hby at_135) _ ?_
      show Steps p.tables e below (T66.setTop (mkF m 137 #[.val (.int pr), .val (.int ps), .val (.long pt), .second, .val (.long pd), .second, .val (.int pm), .val (.ref b2), .val (.long rr), .second, .unset, .unset, .unset, .unset, .unset, .unset, .unset, .unset, .unset, .unset, .unset, .unset, .unset] [(.int (1048575 : Int32)), (.int ps)])) _
      refine XS.iand X66.here hx rfl (hb hby at_137) rfl ?_
      show Steps p.tables e below (T66.setTop (mkF m 138 #[.val (.int pr), .val (.int ps), .val (.long pt), .second, .val (.long pd), .second, .val (.int pm), .val (.ref b2), .val (.long rr), .second, .unset, .unset, .unset, .unset, .unset, .unset, .unset, .unset, .unset, .unset, .unset, .unset, .unset] [(.int (ps &&& (1048575 : Int32)))])) _
      refine XS.i2l X66.here hx rfl (hb hby at_138) rfl ?_
      show Steps p.tables e below (T66.setTop (mkF m 139 #[.val (.int pr), .val (.int ps), .val (.long pt), .second, .val (.long pd), .second, .val (.int pm), .val (.ref b2), .val (.long rr), .second, .unset, .unset, .unset, .unset, .unset, .unset, .unset, .unset, .unset, .unset, .unset, .unset, .unset] [(.long ((ps &&& (1048575 : Int32)).toInt64))])) _
      refine XS.lstore X66.here hx rfl (hb hby at_139) rfl (l' := #[.val (.int pr), .val (.int ps), .val (.long pt), .second, .val (.long pd), .second, .val (.int pm), .val (.ref b2), .val (.long rr), .second, .val (.long ((ps &&& (1048575 : Int32)).toInt64)), .second, .unset, .unset, .unset, .unset, .unset, .unset, .unset, .unset, .unset, .unset, .unset]) rfl ?_
      show Steps p.tables e below (T66.setTop (mkF m 141 #[.val (.int pr), .val (.int ps), .val (.long pt), .second, .val (.long pd), .second, .val (.int pm), .val (.ref b2), .val (.long rr), .second, .val (.long ((ps &&& (1048575 : Int32)).toInt64)), .second, .unset, .unset, .unset, .unset, .unset, .unset, .unset, .unset, .unset, .unset, .unset] [])) _
      refine XS.lload X66.here hx rfl (hb hby at_141) rfl ?_
      show Steps p.tables e below (T66.setTop (mkF m 143 #[.val (.int pr), .val (.int ps), .val (.long pt), .second, .val (.long pd), .second, .val (.int pm), .val (.ref b2), .val (.long rr), .second, .val (.long ((ps &&& (1048575 : Int32)).toInt64)), .second, .unset, .unset, .unset, .unset, .unset, .unset, .unset, .unset, .unset, .unset, .unset] [(.long ((ps &&& (1048575 : Int32)).toInt64))])) _
      refine X66.ldc2Long hx hown (mvT hZ (hw _ (List.mem_of_getElem? (i := 16) rfl))) (g := (mkF m 143 #[.val (.int pr), .val (.int ps), .val (.long pt), .second, .val (.long pd), .second, .val (.int pm), .val (.ref b2), .val (.long rr), .second, .val (.long ((ps &&& (1048575 : Int32)).toInt64)), .second, .unset, .unset, .unset, .unset, .unset, .unset, .unset, .unset, .unset, .unset, .unset] [(.long ((ps &&& (1048575 : Int32)).toInt64))])) rfl (hb hby at_143) _ ?_
      show Steps p.tables e below (T66.setTop (mkF m 146 #[.val (.int pr), .val (.int ps), .val (.long pt), .second, .val (.long pd), .second, .val (.int pm), .val (.ref b2), .val (.long rr), .second, .val (.long ((ps &&& (1048575 : Int32)).toInt64)), .second, .unset, .unset, .unset, .unset, .unset, .unset, .unset, .unset, .unset, .unset, .unset] [(.long (1000000000 : Int64)), (.long ((ps &&& (1048575 : Int32)).toInt64))])) _
      refine XS.lmul X66.here hx rfl (hb hby at_146) rfl ?_
      show Steps p.tables e below (T66.setTop (mkF m 147 #[.val (.int pr), .val (.int ps), .val (.long pt), .second, .val (.long pd), .second, .val (.int pm), .val (.ref b2), .val (.long rr), .second, .val (.long ((ps &&& (1048575 : Int32)).toInt64)), .second, .unset, .unset, .unset, .unset, .unset, .unset, .unset, .unset, .unset, .unset, .unset] [(.long (((ps &&& (1048575 : Int32)).toInt64) * (1000000000 : Int64)))])) _
      refine XS.lstore X66.here hx rfl (hb hby at_147) rfl (l' := #[.val (.int pr), .val (.int ps), .val (.long pt), .second, .val (.long pd), .second, .val (.int pm), .val (.ref b2), .val (.long rr), .second, .val (.long ((ps &&& (1048575 : Int32)).toInt64)), .second, .val (.long (((ps &&& (1048575 : Int32)).toInt64) * (1000000000 : Int64))), .second, .unset, .unset, .unset, .unset, .unset, .unset, .unset, .unset, .unset]) rfl ?_
      show Steps p.tables e below (T66.setTop (mkF m 149 #[.val (.int pr), .val (.int ps), .val (.long pt), .second, .val (.long pd), .second, .val (.int pm), .val (.ref b2), .val (.long rr), .second, .val (.long ((ps &&& (1048575 : Int32)).toInt64)), .second, .val (.long (((ps &&& (1048575 : Int32)).toInt64) * (1000000000 : Int64))), .second, .unset, .unset, .unset, .unset, .unset, .unset, .unset, .unset, .unset] [])) _
      refine XS.lload X66.here hx rfl (hb hby at_149) rfl ?_
      show Steps p.tables e below (T66.setTop (mkF m 151 #[.val (.int pr), .val (.int ps), .val (.long pt), .second, .val (.long pd), .second, .val (.int pm), .val (.ref b2), .val (.long rr), .second, .val (.long ((ps &&& (1048575 : Int32)).toInt64)), .second, .val (.long (((ps &&& (1048575 : Int32)).toInt64) * (1000000000 : Int64))), .second, .unset, .unset, .unset, .unset, .unset, .unset, .unset, .unset, .unset] [(.long rr)])) _
      refine XS.lconst X66.here hx rfl (hb hby at_151) ?_
      show Steps p.tables e below (T66.setTop (mkF m 152 #[.val (.int pr), .val (.int ps), .val (.long pt), .second, .val (.long pd), .second, .val (.int pm), .val (.ref b2), .val (.long rr), .second, .val (.long ((ps &&& (1048575 : Int32)).toInt64)), .second, .val (.long (((ps &&& (1048575 : Int32)).toInt64) * (1000000000 : Int64))), .second, .unset, .unset, .unset, .unset, .unset, .unset, .unset, .unset, .unset] [(.long (0 : Int64)), (.long rr)])) _
      refine XS.lcmp X66.here hx rfl (hb hby at_152) rfl ?_
      exact kt)
  by_cases hc153_107 : (lcmpW rr (0 : Int64)) = (0 : Int32)
  · -- yes at pc 153: 
    have pre108 : Goes p e below s₁ (entryFrame m #[(.int pr), (.int ps), (.long pt), (.long pd), (.int pm)] maxLocals) T66 (mkF m 190 #[.val (.int pr), .val (.int ps), .val (.long pt), .second, .val (.long pd), .second, .val (.int pm), .val (.ref b2), .val (.long rr), .second, .val (.long ((ps &&& (1048575 : Int32)).toInt64)), .second, .val (.long (((ps &&& (1048575 : Int32)).toInt64) * (1000000000 : Int64))), .second, .val (.long (0 : Int64)), .second, .val (.long (0 : Int64)), .second, .unset, .unset, .unset, .unset, .unset] []) := fun t kt => pre106 t (by
        show Steps p.tables e below (T66.setTop (mkF m 153 #[.val (.int pr), .val (.int ps), .val (.long pt), .second, .val (.long pd), .second, .val (.int pm), .val (.ref b2), .val (.long rr), .second, .val (.long ((ps &&& (1048575 : Int32)).toInt64)), .second, .val (.long (((ps &&& (1048575 : Int32)).toInt64) * (1000000000 : Int64))), .second, .unset, .unset, .unset, .unset, .unset, .unset, .unset, .unset, .unset] [(.int (lcmpW rr (0 : Int64)))])) _
        refine XS.ifNo X66.here hx rfl (hb hby at_153) rfl ((if0 _ _).trans (teq hc153_107).2) ?_
        show Steps p.tables e below (T66.setTop (mkF m 156 #[.val (.int pr), .val (.int ps), .val (.long pt), .second, .val (.long pd), .second, .val (.int pm), .val (.ref b2), .val (.long rr), .second, .val (.long ((ps &&& (1048575 : Int32)).toInt64)), .second, .val (.long (((ps &&& (1048575 : Int32)).toInt64) * (1000000000 : Int64))), .second, .unset, .unset, .unset, .unset, .unset, .unset, .unset, .unset, .unset] [])) _
        refine XS.lconst X66.here hx rfl (hb hby at_156) ?_
        show Steps p.tables e below (T66.setTop (mkF m 157 #[.val (.int pr), .val (.int ps), .val (.long pt), .second, .val (.long pd), .second, .val (.int pm), .val (.ref b2), .val (.long rr), .second, .val (.long ((ps &&& (1048575 : Int32)).toInt64)), .second, .val (.long (((ps &&& (1048575 : Int32)).toInt64) * (1000000000 : Int64))), .second, .unset, .unset, .unset, .unset, .unset, .unset, .unset, .unset, .unset] [(.long (0 : Int64))])) _
        refine XS.goto X66.here hx rfl (pc0 := 157) (pc' := 165) rfl (hb hby at_157) (by decide) (by decide) ?_
        show Steps p.tables e below (T66.setTop (mkF m 165 #[.val (.int pr), .val (.int ps), .val (.long pt), .second, .val (.long pd), .second, .val (.int pm), .val (.ref b2), .val (.long rr), .second, .val (.long ((ps &&& (1048575 : Int32)).toInt64)), .second, .val (.long (((ps &&& (1048575 : Int32)).toInt64) * (1000000000 : Int64))), .second, .unset, .unset, .unset, .unset, .unset, .unset, .unset, .unset, .unset] [(.long (0 : Int64))])) _
        refine XS.lstore X66.here hx rfl (hb hby at_165) rfl (l' := #[.val (.int pr), .val (.int ps), .val (.long pt), .second, .val (.long pd), .second, .val (.int pm), .val (.ref b2), .val (.long rr), .second, .val (.long ((ps &&& (1048575 : Int32)).toInt64)), .second, .val (.long (((ps &&& (1048575 : Int32)).toInt64) * (1000000000 : Int64))), .second, .val (.long (0 : Int64)), .second, .unset, .unset, .unset, .unset, .unset, .unset, .unset]) rfl ?_
        show Steps p.tables e below (T66.setTop (mkF m 167 #[.val (.int pr), .val (.int ps), .val (.long pt), .second, .val (.long pd), .second, .val (.int pm), .val (.ref b2), .val (.long rr), .second, .val (.long ((ps &&& (1048575 : Int32)).toInt64)), .second, .val (.long (((ps &&& (1048575 : Int32)).toInt64) * (1000000000 : Int64))), .second, .val (.long (0 : Int64)), .second, .unset, .unset, .unset, .unset, .unset, .unset, .unset] [])) _
        refine XS.lload X66.here hx rfl (hb hby at_167) rfl ?_
        show Steps p.tables e below (T66.setTop (mkF m 169 #[.val (.int pr), .val (.int ps), .val (.long pt), .second, .val (.long pd), .second, .val (.int pm), .val (.ref b2), .val (.long rr), .second, .val (.long ((ps &&& (1048575 : Int32)).toInt64)), .second, .val (.long (((ps &&& (1048575 : Int32)).toInt64) * (1000000000 : Int64))), .second, .val (.long (0 : Int64)), .second, .unset, .unset, .unset, .unset, .unset, .unset, .unset] [(.long rr)])) _
        refine XS.lconst X66.here hx rfl (hb hby at_169) ?_
        show Steps p.tables e below (T66.setTop (mkF m 170 #[.val (.int pr), .val (.int ps), .val (.long pt), .second, .val (.long pd), .second, .val (.int pm), .val (.ref b2), .val (.long rr), .second, .val (.long ((ps &&& (1048575 : Int32)).toInt64)), .second, .val (.long (((ps &&& (1048575 : Int32)).toInt64) * (1000000000 : Int64))), .second, .val (.long (0 : Int64)), .second, .unset, .unset, .unset, .unset, .unset, .unset, .unset] [(.long (0 : Int64)), (.long rr)])) _
        refine XS.lcmp X66.here hx rfl (hb hby at_170) rfl ?_
        show Steps p.tables e below (T66.setTop (mkF m 171 #[.val (.int pr), .val (.int ps), .val (.long pt), .second, .val (.long pd), .second, .val (.int pm), .val (.ref b2), .val (.long rr), .second, .val (.long ((ps &&& (1048575 : Int32)).toInt64)), .second, .val (.long (((ps &&& (1048575 : Int32)).toInt64) * (1000000000 : Int64))), .second, .val (.long (0 : Int64)), .second, .unset, .unset, .unset, .unset, .unset, .unset, .unset] [(.int (lcmpW rr (0 : Int64)))])) _
        refine XS.ifNo X66.here hx rfl (hb hby at_171) rfl ((if0 _ _).trans (teq hc153_107).2) ?_
        show Steps p.tables e below (T66.setTop (mkF m 174 #[.val (.int pr), .val (.int ps), .val (.long pt), .second, .val (.long pd), .second, .val (.int pm), .val (.ref b2), .val (.long rr), .second, .val (.long ((ps &&& (1048575 : Int32)).toInt64)), .second, .val (.long (((ps &&& (1048575 : Int32)).toInt64) * (1000000000 : Int64))), .second, .val (.long (0 : Int64)), .second, .unset, .unset, .unset, .unset, .unset, .unset, .unset] [])) _
        refine XS.lconst X66.here hx rfl (hb hby at_174) ?_
        show Steps p.tables e below (T66.setTop (mkF m 175 #[.val (.int pr), .val (.int ps), .val (.long pt), .second, .val (.long pd), .second, .val (.int pm), .val (.ref b2), .val (.long rr), .second, .val (.long ((ps &&& (1048575 : Int32)).toInt64)), .second, .val (.long (((ps &&& (1048575 : Int32)).toInt64) * (1000000000 : Int64))), .second, .val (.long (0 : Int64)), .second, .unset, .unset, .unset, .unset, .unset, .unset, .unset] [(.long (0 : Int64))])) _
        refine XS.goto X66.here hx rfl (pc0 := 175) (pc' := 188) rfl (hb hby at_175) (by decide) (by decide) ?_
        show Steps p.tables e below (T66.setTop (mkF m 188 #[.val (.int pr), .val (.int ps), .val (.long pt), .second, .val (.long pd), .second, .val (.int pm), .val (.ref b2), .val (.long rr), .second, .val (.long ((ps &&& (1048575 : Int32)).toInt64)), .second, .val (.long (((ps &&& (1048575 : Int32)).toInt64) * (1000000000 : Int64))), .second, .val (.long (0 : Int64)), .second, .unset, .unset, .unset, .unset, .unset, .unset, .unset] [(.long (0 : Int64))])) _
        refine XS.lstore X66.here hx rfl (hb hby at_188) rfl (l' := #[.val (.int pr), .val (.int ps), .val (.long pt), .second, .val (.long pd), .second, .val (.int pm), .val (.ref b2), .val (.long rr), .second, .val (.long ((ps &&& (1048575 : Int32)).toInt64)), .second, .val (.long (((ps &&& (1048575 : Int32)).toInt64) * (1000000000 : Int64))), .second, .val (.long (0 : Int64)), .second, .val (.long (0 : Int64)), .second, .unset, .unset, .unset, .unset, .unset]) rfl ?_
        exact kt)
    obtain ⟨dd, hd, pre110⟩ : ∃ (dd : Int64), (dd.toInt.natAbs < 2 ^ 53) ∧ Goes p e below s₁ (entryFrame m #[(.int pr), (.int ps), (.long pt), (.long pd), (.int pm)] maxLocals) T66 (mkF m 218 #[.val (.int pr), .val (.int ps), .val (.long pt), .second, .val (.long pd), .second, .val (.int pm), .val (.ref b2), .val (.long rr), .second, .val (.long ((ps &&& (1048575 : Int32)).toInt64)), .second, .val (.long (((ps &&& (1048575 : Int32)).toInt64) * (1000000000 : Int64))), .second, .val (.long (0 : Int64)), .second, .val (.long (0 : Int64)), .second, .unset, .unset, .unset, .unset, .unset] [(.long dd)]) := by
      have pre111 : Goes p e below s₁ (entryFrame m #[(.int pr), (.int ps), (.long pt), (.long pd), (.int pm)] maxLocals) T66 (mkF m 194 #[.val (.int pr), .val (.int ps), .val (.long pt), .second, .val (.long pd), .second, .val (.int pm), .val (.ref b2), .val (.long rr), .second, .val (.long ((ps &&& (1048575 : Int32)).toInt64)), .second, .val (.long (((ps &&& (1048575 : Int32)).toInt64) * (1000000000 : Int64))), .second, .val (.long (0 : Int64)), .second, .val (.long (0 : Int64)), .second, .unset, .unset, .unset, .unset, .unset] [(.int (pm &&& (2 : Int32)))]) := fun t kt => pre108 t (by
          show Steps p.tables e below (T66.setTop (mkF m 190 #[.val (.int pr), .val (.int ps), .val (.long pt), .second, .val (.long pd), .second, .val (.int pm), .val (.ref b2), .val (.long rr), .second, .val (.long ((ps &&& (1048575 : Int32)).toInt64)), .second, .val (.long (((ps &&& (1048575 : Int32)).toInt64) * (1000000000 : Int64))), .second, .val (.long (0 : Int64)), .second, .val (.long (0 : Int64)), .second, .unset, .unset, .unset, .unset, .unset] [])) _
          refine XS.iload X66.here hx rfl (hb hby at_190) rfl ?_
          show Steps p.tables e below (T66.setTop (mkF m 192 #[.val (.int pr), .val (.int ps), .val (.long pt), .second, .val (.long pd), .second, .val (.int pm), .val (.ref b2), .val (.long rr), .second, .val (.long ((ps &&& (1048575 : Int32)).toInt64)), .second, .val (.long (((ps &&& (1048575 : Int32)).toInt64) * (1000000000 : Int64))), .second, .val (.long (0 : Int64)), .second, .val (.long (0 : Int64)), .second, .unset, .unset, .unset, .unset, .unset] [(.int pm)])) _
          refine XS.iconst X66.here hx rfl (hb hby at_192) ?_
          show Steps p.tables e below (T66.setTop (mkF m 193 #[.val (.int pr), .val (.int ps), .val (.long pt), .second, .val (.long pd), .second, .val (.int pm), .val (.ref b2), .val (.long rr), .second, .val (.long ((ps &&& (1048575 : Int32)).toInt64)), .second, .val (.long (((ps &&& (1048575 : Int32)).toInt64) * (1000000000 : Int64))), .second, .val (.long (0 : Int64)), .second, .val (.long (0 : Int64)), .second, .unset, .unset, .unset, .unset, .unset] [(.int (2 : Int32)), (.int pm)])) _
          refine XS.iand X66.here hx rfl (hb hby at_193) rfl ?_
          exact kt)
      by_cases hc194_112 : (pm &&& (2 : Int32)) = (0 : Int32)
      · -- yes at pc 194: ff
        have pre113 : Goes p e below s₁ (entryFrame m #[(.int pr), (.int ps), (.long pt), (.long pd), (.int pm)] maxLocals) T66 (mkF m 218 #[.val (.int pr), .val (.int ps), .val (.long pt), .second, .val (.long pd), .second, .val (.int pm), .val (.ref b2), .val (.long rr), .second, .val (.long ((ps &&& (1048575 : Int32)).toInt64)), .second, .val (.long (((ps &&& (1048575 : Int32)).toInt64) * (1000000000 : Int64))), .second, .val (.long (0 : Int64)), .second, .val (.long (0 : Int64)), .second, .unset, .unset, .unset, .unset, .unset] [(.long ((-4 : Int64) + (pd &&& (7 : Int64))))]) := fun t kt => pre111 t (by
            show Steps p.tables e below (T66.setTop (mkF m 194 #[.val (.int pr), .val (.int ps), .val (.long pt), .second, .val (.long pd), .second, .val (.int pm), .val (.ref b2), .val (.long rr), .second, .val (.long ((ps &&& (1048575 : Int32)).toInt64)), .second, .val (.long (((ps &&& (1048575 : Int32)).toInt64) * (1000000000 : Int64))), .second, .val (.long (0 : Int64)), .second, .val (.long (0 : Int64)), .second, .unset, .unset, .unset, .unset, .unset] [(.int (pm &&& (2 : Int32)))])) _
            refine XS.ifNo X66.here hx rfl (hb hby at_194) rfl ((if0 _ _).trans (teq hc194_112).2) ?_
            show Steps p.tables e below (T66.setTop (mkF m 197 #[.val (.int pr), .val (.int ps), .val (.long pt), .second, .val (.long pd), .second, .val (.int pm), .val (.ref b2), .val (.long rr), .second, .val (.long ((ps &&& (1048575 : Int32)).toInt64)), .second, .val (.long (((ps &&& (1048575 : Int32)).toInt64) * (1000000000 : Int64))), .second, .val (.long (0 : Int64)), .second, .val (.long (0 : Int64)), .second, .unset, .unset, .unset, .unset, .unset] [])) _
            refine XS.lload X66.here hx rfl (hb hby at_197) rfl ?_
            show Steps p.tables e below (T66.setTop (mkF m 199 #[.val (.int pr), .val (.int ps), .val (.long pt), .second, .val (.long pd), .second, .val (.int pm), .val (.ref b2), .val (.long rr), .second, .val (.long ((ps &&& (1048575 : Int32)).toInt64)), .second, .val (.long (((ps &&& (1048575 : Int32)).toInt64) * (1000000000 : Int64))), .second, .val (.long (0 : Int64)), .second, .val (.long (0 : Int64)), .second, .unset, .unset, .unset, .unset, .unset] [(.long (0 : Int64))])) _
            refine X66.ldc2Long hx hown (mvT hZ (hw _ (List.mem_of_getElem? (i := 2) rfl))) (g := (mkF m 199 #[.val (.int pr), .val (.int ps), .val (.long pt), .second, .val (.long pd), .second, .val (.int pm), .val (.ref b2), .val (.long rr), .second, .val (.long ((ps &&& (1048575 : Int32)).toInt64)), .second, .val (.long (((ps &&& (1048575 : Int32)).toInt64) * (1000000000 : Int64))), .second, .val (.long (0 : Int64)), .second, .val (.long (0 : Int64)), .second, .unset, .unset, .unset, .unset, .unset] [(.long (0 : Int64))])) rfl (hb hby at_199) _ ?_
            show Steps p.tables e below (T66.setTop (mkF m 202 #[.val (.int pr), .val (.int ps), .val (.long pt), .second, .val (.long pd), .second, .val (.int pm), .val (.ref b2), .val (.long rr), .second, .val (.long ((ps &&& (1048575 : Int32)).toInt64)), .second, .val (.long (((ps &&& (1048575 : Int32)).toInt64) * (1000000000 : Int64))), .second, .val (.long (0 : Int64)), .second, .val (.long (0 : Int64)), .second, .unset, .unset, .unset, .unset, .unset] [(.long (4 : Int64)), (.long (0 : Int64))])) _
            refine XS.lsub X66.here hx rfl (hb hby at_202) rfl ?_
            show Steps p.tables e below (T66.setTop (mkF m 203 #[.val (.int pr), .val (.int ps), .val (.long pt), .second, .val (.long pd), .second, .val (.int pm), .val (.ref b2), .val (.long rr), .second, .val (.long ((ps &&& (1048575 : Int32)).toInt64)), .second, .val (.long (((ps &&& (1048575 : Int32)).toInt64) * (1000000000 : Int64))), .second, .val (.long (0 : Int64)), .second, .val (.long (0 : Int64)), .second, .unset, .unset, .unset, .unset, .unset] [(.long (-4 : Int64))])) _
            refine XS.lload X66.here hx rfl (hb hby at_203) rfl ?_
            show Steps p.tables e below (T66.setTop (mkF m 205 #[.val (.int pr), .val (.int ps), .val (.long pt), .second, .val (.long pd), .second, .val (.int pm), .val (.ref b2), .val (.long rr), .second, .val (.long ((ps &&& (1048575 : Int32)).toInt64)), .second, .val (.long (((ps &&& (1048575 : Int32)).toInt64) * (1000000000 : Int64))), .second, .val (.long (0 : Int64)), .second, .val (.long (0 : Int64)), .second, .unset, .unset, .unset, .unset, .unset] [(.long pd), (.long (-4 : Int64))])) _
            refine X66.ldc2Long hx hown (mvT hZ (hw _ (List.mem_of_getElem? (i := 35) rfl))) (g := (mkF m 205 #[.val (.int pr), .val (.int ps), .val (.long pt), .second, .val (.long pd), .second, .val (.int pm), .val (.ref b2), .val (.long rr), .second, .val (.long ((ps &&& (1048575 : Int32)).toInt64)), .second, .val (.long (((ps &&& (1048575 : Int32)).toInt64) * (1000000000 : Int64))), .second, .val (.long (0 : Int64)), .second, .val (.long (0 : Int64)), .second, .unset, .unset, .unset, .unset, .unset] [(.long pd), (.long (-4 : Int64))])) rfl (hb hby at_205) _ ?_
            show Steps p.tables e below (T66.setTop (mkF m 208 #[.val (.int pr), .val (.int ps), .val (.long pt), .second, .val (.long pd), .second, .val (.int pm), .val (.ref b2), .val (.long rr), .second, .val (.long ((ps &&& (1048575 : Int32)).toInt64)), .second, .val (.long (((ps &&& (1048575 : Int32)).toInt64) * (1000000000 : Int64))), .second, .val (.long (0 : Int64)), .second, .val (.long (0 : Int64)), .second, .unset, .unset, .unset, .unset, .unset] [(.long (7 : Int64)), (.long pd), (.long (-4 : Int64))])) _
            refine XS.land X66.here hx rfl (hb hby at_208) rfl ?_
            show Steps p.tables e below (T66.setTop (mkF m 209 #[.val (.int pr), .val (.int ps), .val (.long pt), .second, .val (.long pd), .second, .val (.int pm), .val (.ref b2), .val (.long rr), .second, .val (.long ((ps &&& (1048575 : Int32)).toInt64)), .second, .val (.long (((ps &&& (1048575 : Int32)).toInt64) * (1000000000 : Int64))), .second, .val (.long (0 : Int64)), .second, .val (.long (0 : Int64)), .second, .unset, .unset, .unset, .unset, .unset] [(.long (pd &&& (7 : Int64))), (.long (-4 : Int64))])) _
            refine XS.ladd X66.here hx rfl (hb hby at_209) rfl ?_
            show Steps p.tables e below (T66.setTop (mkF m 210 #[.val (.int pr), .val (.int ps), .val (.long pt), .second, .val (.long pd), .second, .val (.int pm), .val (.ref b2), .val (.long rr), .second, .val (.long ((ps &&& (1048575 : Int32)).toInt64)), .second, .val (.long (((ps &&& (1048575 : Int32)).toInt64) * (1000000000 : Int64))), .second, .val (.long (0 : Int64)), .second, .val (.long (0 : Int64)), .second, .unset, .unset, .unset, .unset, .unset] [(.long ((-4 : Int64) + (pd &&& (7 : Int64))))])) _
            refine XS.goto X66.here hx rfl (pc0 := 210) (pc' := 218) rfl (hb hby at_210) (by decide) (by decide) ?_
            exact kt)
        exact ⟨((-4 : Int64) + (pd &&& (7 : Int64))), own_d0 pd, pre113⟩
      · -- no at pc 194: ff
        have pre114 : Goes p e below s₁ (entryFrame m #[(.int pr), (.int ps), (.long pt), (.long pd), (.int pm)] maxLocals) T66 (mkF m 218 #[.val (.int pr), .val (.int ps), .val (.long pt), .second, .val (.long pd), .second, .val (.int pm), .val (.ref b2), .val (.long rr), .second, .val (.long ((ps &&& (1048575 : Int32)).toInt64)), .second, .val (.long (((ps &&& (1048575 : Int32)).toInt64) * (1000000000 : Int64))), .second, .val (.long (0 : Int64)), .second, .val (.long (0 : Int64)), .second, .unset, .unset, .unset, .unset, .unset] [(.long (pd >>> ((11 : Int32) &&& 0x3f).toInt64))]) := fun t kt => pre111 t (by
            show Steps p.tables e below (T66.setTop (mkF m 194 #[.val (.int pr), .val (.int ps), .val (.long pt), .second, .val (.long pd), .second, .val (.int pm), .val (.ref b2), .val (.long rr), .second, .val (.long ((ps &&& (1048575 : Int32)).toInt64)), .second, .val (.long (((ps &&& (1048575 : Int32)).toInt64) * (1000000000 : Int64))), .second, .val (.long (0 : Int64)), .second, .val (.long (0 : Int64)), .second, .unset, .unset, .unset, .unset, .unset] [(.int (pm &&& (2 : Int32)))])) _
            refine XS.ifYes X66.here hx rfl (pc0 := 194) (pc' := 213) rfl (hb hby at_194) rfl ((if0 _ _).trans (feq hc194_112).2) (by decide) (by decide) ?_
            show Steps p.tables e below (T66.setTop (mkF m 213 #[.val (.int pr), .val (.int ps), .val (.long pt), .second, .val (.long pd), .second, .val (.int pm), .val (.ref b2), .val (.long rr), .second, .val (.long ((ps &&& (1048575 : Int32)).toInt64)), .second, .val (.long (((ps &&& (1048575 : Int32)).toInt64) * (1000000000 : Int64))), .second, .val (.long (0 : Int64)), .second, .val (.long (0 : Int64)), .second, .unset, .unset, .unset, .unset, .unset] [])) _
            refine XS.lload X66.here hx rfl (hb hby at_213) rfl ?_
            show Steps p.tables e below (T66.setTop (mkF m 215 #[.val (.int pr), .val (.int ps), .val (.long pt), .second, .val (.long pd), .second, .val (.int pm), .val (.ref b2), .val (.long rr), .second, .val (.long ((ps &&& (1048575 : Int32)).toInt64)), .second, .val (.long (((ps &&& (1048575 : Int32)).toInt64) * (1000000000 : Int64))), .second, .val (.long (0 : Int64)), .second, .val (.long (0 : Int64)), .second, .unset, .unset, .unset, .unset, .unset] [(.long pd)])) _
            refine XS.bipush X66.here hx rfl (hb hby at_215) ?_
            show Steps p.tables e below (T66.setTop (mkF m 217 #[.val (.int pr), .val (.int ps), .val (.long pt), .second, .val (.long pd), .second, .val (.int pm), .val (.ref b2), .val (.long rr), .second, .val (.long ((ps &&& (1048575 : Int32)).toInt64)), .second, .val (.long (((ps &&& (1048575 : Int32)).toInt64) * (1000000000 : Int64))), .second, .val (.long (0 : Int64)), .second, .val (.long (0 : Int64)), .second, .unset, .unset, .unset, .unset, .unset] [(.int (11 : Int32)), (.long pd)])) _
            refine XS.lshr X66.here hx rfl (hb hby at_217) rfl ?_
            exact kt)
        exact ⟨(pd >>> ((11 : Int32) &&& 0x3f).toInt64), own_d2 pd, pre114⟩
    have pre115 : Goes p e below s₁ (entryFrame m #[(.int pr), (.int ps), (.long pt), (.long pd), (.int pm)] maxLocals) T66 (mkF m 220 #[.val (.int pr), .val (.int ps), .val (.long pt), .second, .val (.long pd), .second, .val (.int pm), .val (.ref b2), .val (.long rr), .second, .val (.long ((ps &&& (1048575 : Int32)).toInt64)), .second, .val (.long (((ps &&& (1048575 : Int32)).toInt64) * (1000000000 : Int64))), .second, .val (.long (0 : Int64)), .second, .val (.long (0 : Int64)), .second, .val (.long dd), .second, .unset, .unset, .unset] []) := fun t kt => pre110 t (by
        show Steps p.tables e below (T66.setTop (mkF m 218 #[.val (.int pr), .val (.int ps), .val (.long pt), .second, .val (.long pd), .second, .val (.int pm), .val (.ref b2), .val (.long rr), .second, .val (.long ((ps &&& (1048575 : Int32)).toInt64)), .second, .val (.long (((ps &&& (1048575 : Int32)).toInt64) * (1000000000 : Int64))), .second, .val (.long (0 : Int64)), .second, .val (.long (0 : Int64)), .second, .unset, .unset, .unset, .unset, .unset] [(.long dd)])) _
        refine XS.lstore X66.here hx rfl (hb hby at_218) rfl (l' := #[.val (.int pr), .val (.int ps), .val (.long pt), .second, .val (.long pd), .second, .val (.int pm), .val (.ref b2), .val (.long rr), .second, .val (.long ((ps &&& (1048575 : Int32)).toInt64)), .second, .val (.long (((ps &&& (1048575 : Int32)).toInt64) * (1000000000 : Int64))), .second, .val (.long (0 : Int64)), .second, .val (.long (0 : Int64)), .second, .val (.long dd), .second, .unset, .unset, .unset]) rfl ?_
        exact kt)
    obtain ⟨T116, h116, X116, e116, E116, A116, DD116, -, st116⟩ := newO X66 hx hZ hown (hw _ (List.mem_of_getElem? (i := 17) rfl)) (hw _ (List.mem_of_getElem? (i := 18) rfl)) (hw _ (List.mem_of_getElem? (i := 19) rfl)) e66 (g := (mkF m 220 #[.val (.int pr), .val (.int ps), .val (.long pt), .second, .val (.long pd), .second, .val (.int pm), .val (.ref b2), .val (.long rr), .second, .val (.long ((ps &&& (1048575 : Int32)).toInt64)), .second, .val (.long (((ps &&& (1048575 : Int32)).toInt64) * (1000000000 : Int64))), .second, .val (.long (0 : Int64)), .second, .val (.long (0 : Int64)), .second, .val (.long dd), .second, .unset, .unset, .unset] [])) rfl (hb hby at_220) (by decide) (by decide)
    obtain ⟨b116, g116⟩ : ∃ z, z = h66.size := ⟨_, rfl⟩
    rw [← g116] at A116 DD116 st116
    have F_startNs_b116 : Fld Z h116 b116 "com/example/ferry/ferry/Pacer" "startNs" "J" (.long (0 : Int64)) := DD116 (Or.inr (hw _ (List.mem_of_getElem? (i := 27) rfl))) (ty := .long) (by decide)
    have F_intervalNs_b116 : Fld Z h116 b116 "com/example/ferry/ferry/Pacer" "intervalNs" "D" (.double (0 : UInt64)) := DD116 (Or.inr (hw _ (List.mem_of_getElem? (i := 29) rfl))) (ty := .double) (by decide)
    have g_b116 : n0 ≤ b116 := Nat.le_trans (Nat.le_trans (Nat.le_trans (Nat.le_trans (Nat.le_trans (Nat.le_trans (Nat.le_trans (Nat.le_trans (Nat.le_trans (Nat.le_trans (Nat.le_trans (Nat.le_trans (Nat.le_trans (Nat.le_trans (Nat.le_trans (Nat.le_trans (Nat.le_trans (Nat.le_trans Z0 E2.1) (Keep.of_wr W6).1) (Keep.of_wr W10).1) (Keep.of_wr W14).1) (Keep.of_wr W18).1) (Keep.of_wr W22).1) (Keep.of_wr W26).1) (Keep.of_wr W30).1) (Keep.of_wr W34).1) (Keep.of_wr W38).1) (Keep.of_wr W42).1) (Keep.of_wr W46).1) (Keep.of_wr W50).1) (Keep.of_wr W54).1) (Keep.of_wr W58).1) (Keep.of_wr W62).1) (Keep.of_wr W66).1) (Nat.le_of_eq g116.symm)
    have sz_b116 : h0.size ≤ b116 := (Nat.le_trans K66.1 (Nat.le_of_eq g116.symm))
    have K116 : Keep h0 h116 [] := K66.ext E116
    have pre117 : Goes p e below s₁ (entryFrame m #[(.int pr), (.int ps), (.long pt), (.long pd), (.int pm)] maxLocals) T116 (mkF m 223 #[.val (.int pr), .val (.int ps), .val (.long pt), .second, .val (.long pd), .second, .val (.int pm), .val (.ref b2), .val (.long rr), .second, .val (.long ((ps &&& (1048575 : Int32)).toInt64)), .second, .val (.long (((ps &&& (1048575 : Int32)).toInt64) * (1000000000 : Int64))), .second, .val (.long (0 : Int64)), .second, .val (.long (0 : Int64)), .second, .val (.long dd), .second, .unset, .unset, .unset] [(.ref b116)]) := fun t kt => pre115 t (st116 t kt)
    have pre118 : Goes p e below s₁ (entryFrame m #[(.int pr), (.int ps), (.long pt), (.long pd), (.int pm)] maxLocals) T116 (mkF m 227 #[.val (.int pr), .val (.int ps), .val (.long pt), .second, .val (.long pd), .second, .val (.int pm), .val (.ref b2), .val (.long rr), .second, .val (.long ((ps &&& (1048575 : Int32)).toInt64)), .second, .val (.long (((ps &&& (1048575 : Int32)).toInt64) * (1000000000 : Int64))), .second, .val (.long (0 : Int64)), .second, .val (.long (0 : Int64)), .second, .val (.long dd), .second, .unset, .unset, .unset] [(.long pt), (.long rr), (.ref b116), (.ref b116)]) := fun t kt => pre117 t (by
        show Steps p.tables e below (T116.setTop (mkF m 223 #[.val (.int pr), .val (.int ps), .val (.long pt), .second, .val (.long pd), .second, .val (.int pm), .val (.ref b2), .val (.long rr), .second, .val (.long ((ps &&& (1048575 : Int32)).toInt64)), .second, .val (.long (((ps &&& (1048575 : Int32)).toInt64) * (1000000000 : Int64))), .second, .val (.long (0 : Int64)), .second, .val (.long (0 : Int64)), .second, .val (.long dd), .second, .unset, .unset, .unset] [(.ref b116)])) _
        refine XS.dup X116.here hx rfl (hb hby at_223) rfl rfl ?_
        show Steps p.tables e below (T116.setTop (mkF m 224 #[.val (.int pr), .val (.int ps), .val (.long pt), .second, .val (.long pd), .second, .val (.int pm), .val (.ref b2), .val (.long rr), .second, .val (.long ((ps &&& (1048575 : Int32)).toInt64)), .second, .val (.long (((ps &&& (1048575 : Int32)).toInt64) * (1000000000 : Int64))), .second, .val (.long (0 : Int64)), .second, .val (.long (0 : Int64)), .second, .val (.long dd), .second, .unset, .unset, .unset] [(.ref b116), (.ref b116)])) _
        refine XS.lload X116.here hx rfl (hb hby at_224) rfl ?_
        show Steps p.tables e below (T116.setTop (mkF m 226 #[.val (.int pr), .val (.int ps), .val (.long pt), .second, .val (.long pd), .second, .val (.int pm), .val (.ref b2), .val (.long rr), .second, .val (.long ((ps &&& (1048575 : Int32)).toInt64)), .second, .val (.long (((ps &&& (1048575 : Int32)).toInt64) * (1000000000 : Int64))), .second, .val (.long (0 : Int64)), .second, .val (.long (0 : Int64)), .second, .val (.long dd), .second, .unset, .unset, .unset] [(.long rr), (.ref b116), (.ref b116)])) _
        refine XS.lloadN X116.here hx rfl (hb hby at_226) rfl ?_
        exact kt)
    obtain ⟨_, _, ⟨T119, L119, k119, n119⟩, -, X119, ⟨Lc119, hQ119, l119, y119, z119⟩, st119⟩ := X116.specialBack hx (y := (⟨"com/example/ferry/ferry/Pacer", "<init>", "(JJ)V"⟩ : MethodName)) rfl hown (mvT hZ (hw _ (List.mem_of_getElem? (i := 20) rfl))) (mvT hZ (hw _ (List.mem_of_getElem? (i := 21) rfl))) (mvT hZ (hw _ (List.mem_of_getElem? (i := 22) rfl))) (by decide) (backOf (W := 1) (own_init1 l Z a0 hw [] b116 rr pt h116 n0 (Nat.le_trans (Nat.le_trans (Nat.le_trans (Nat.le_trans (Nat.le_trans (Nat.le_trans (Nat.le_trans (Nat.le_trans (Nat.le_trans (Nat.le_trans (Nat.le_trans (Nat.le_trans (Nat.le_trans (Nat.le_trans (Nat.le_trans (Nat.le_trans (Nat.le_trans (Nat.le_trans Z0 E2.1) (Keep.of_wr W6).1) (Keep.of_wr W10).1) (Keep.of_wr W14).1) (Keep.of_wr W18).1) (Keep.of_wr W22).1) (Keep.of_wr W26).1) (Keep.of_wr W30).1) (Keep.of_wr W34).1) (Keep.of_wr W38).1) (Keep.of_wr W42).1) (Keep.of_wr W46).1) (Keep.of_wr W50).1) (Keep.of_wr W54).1) (Keep.of_wr W58).1) (Keep.of_wr W62).1) (Keep.of_wr W66).1) E116.1) A116 F_startNs_b116 F_intervalNs_b116 g_b116 (own_ge0 hR.1) hc153_107) hZ (hw _ (List.mem_of_getElem? (i := 22) rfl)) (hw _ (List.mem_of_getElem? (i := 19) rfl)) (by decide) (by decide)) (g := (mkF m 227 #[.val (.int pr), .val (.int ps), .val (.long pt), .second, .val (.long pd), .second, .val (.int pm), .val (.ref b2), .val (.long rr), .second, .val (.long ((ps &&& (1048575 : Int32)).toInt64)), .second, .val (.long (((ps &&& (1048575 : Int32)).toInt64) * (1000000000 : Int64))), .second, .val (.long (0 : Int64)), .second, .val (.long (0 : Int64)), .second, .val (.long dd), .second, .unset, .unset, .unset] [(.long pt), (.long rr), (.ref b116), (.ref b116)])) rfl (by rw [hml]; rfl) (Steps.refl _) (a := b116) (argsL := [(.long rr), (.long pt)]) (rest := [(.ref b116)]) (lenOf own_pd0 rfl) rfl (by show 2 * 0 + _ ≤ _; exact Nat.le_of_eq rfl) (hb hby at_227) (fun _ _ => ⟨rfl, e116, (by decide : 2 + 0 ≤ _), (by decide : 18 + 0 ≤ _)⟩)
    dsimp only [Pt.U, Pt.locs, Pt.cells, Pt.slots] at X119 l119 y119 z119 st119 hQ119
    subst l119 y119 z119
    obtain ⟨rfl, N119q, K119q, E119b, Fs119, Fi119⟩ := hQ119
    have N119 := Fr.app N66 N119q
    have KC119 : Keep h0 T119.heap [] := K116.trans K119q (allS (Or.inr sz_b116) all0)
    have pre120 : Goes p e below s₁ (entryFrame m #[(.int pr), (.int ps), (.long pt), (.long pd), (.int pm)] maxLocals) T119 (mkF m 230 #[.val (.int pr), .val (.int ps), .val (.long pt), .second, .val (.long pd), .second, .val (.int pm), .val (.ref b2), .val (.long rr), .second, .val (.long ((ps &&& (1048575 : Int32)).toInt64)), .second, .val (.long (((ps &&& (1048575 : Int32)).toInt64) * (1000000000 : Int64))), .second, .val (.long (0 : Int64)), .second, .val (.long (0 : Int64)), .second, .val (.long dd), .second, .unset, .unset, .unset] [(.ref b116)]) := fun t kt => pre118 t (st119.trans kt)
    have pre121 : Goes p e below s₁ (entryFrame m #[(.int pr), (.int ps), (.long pt), (.long pd), (.int pm)] maxLocals) T119 (mkF m 240 #[.val (.int pr), .val (.int ps), .val (.long pt), .second, .val (.long pd), .second, .val (.int pm), .val (.ref b2), .val (.long rr), .second, .val (.long ((ps &&& (1048575 : Int32)).toInt64)), .second, .val (.long (((ps &&& (1048575 : Int32)).toInt64) * (1000000000 : Int64))), .second, .val (.long (0 : Int64)), .second, .val (.long (0 : Int64)), .second, .val (.long dd), .second, .val (.ref b116), .unset, .unset] [(.long (pt + dd)), (.long ((ps &&& (1048575 : Int32)).toInt64)), (.ref b116)]) := fun t kt => pre120 t (by
        show Steps p.tables e below (T119.setTop (mkF m 230 #[.val (.int pr), .val (.int ps), .val (.long pt), .second, .val (.long pd), .second, .val (.int pm), .val (.ref b2), .val (.long rr), .second, .val (.long ((ps &&& (1048575 : Int32)).toInt64)), .second, .val (.long (((ps &&& (1048575 : Int32)).toInt64) * (1000000000 : Int64))), .second, .val (.long (0 : Int64)), .second, .val (.long (0 : Int64)), .second, .val (.long dd), .second, .unset, .unset, .unset] [(.ref b116)])) _
        refine XS.astore X119.here hx rfl (hb hby at_230) rfl rfl (l' := #[.val (.int pr), .val (.int ps), .val (.long pt), .second, .val (.long pd), .second, .val (.int pm), .val (.ref b2), .val (.long rr), .second, .val (.long ((ps &&& (1048575 : Int32)).toInt64)), .second, .val (.long (((ps &&& (1048575 : Int32)).toInt64) * (1000000000 : Int64))), .second, .val (.long (0 : Int64)), .second, .val (.long (0 : Int64)), .second, .val (.long dd), .second, .val (.ref b116), .unset, .unset]) rfl ?_
        show Steps p.tables e below (T119.setTop (mkF m 232 #[.val (.int pr), .val (.int ps), .val (.long pt), .second, .val (.long pd), .second, .val (.int pm), .val (.ref b2), .val (.long rr), .second, .val (.long ((ps &&& (1048575 : Int32)).toInt64)), .second, .val (.long (((ps &&& (1048575 : Int32)).toInt64) * (1000000000 : Int64))), .second, .val (.long (0 : Int64)), .second, .val (.long (0 : Int64)), .second, .val (.long dd), .second, .val (.ref b116), .unset, .unset] [])) _
        refine XS.aload X119.here hx rfl (hb hby at_232) rfl rfl ?_
        show Steps p.tables e below (T119.setTop (mkF m 234 #[.val (.int pr), .val (.int ps), .val (.long pt), .second, .val (.long pd), .second, .val (.int pm), .val (.ref b2), .val (.long rr), .second, .val (.long ((ps &&& (1048575 : Int32)).toInt64)), .second, .val (.long (((ps &&& (1048575 : Int32)).toInt64) * (1000000000 : Int64))), .second, .val (.long (0 : Int64)), .second, .val (.long (0 : Int64)), .second, .val (.long dd), .second, .val (.ref b116), .unset, .unset] [(.ref b116)])) _
        refine XS.lload X119.here hx rfl (hb hby at_234) rfl ?_
        show Steps p.tables e below (T119.setTop (mkF m 236 #[.val (.int pr), .val (.int ps), .val (.long pt), .second, .val (.long pd), .second, .val (.int pm), .val (.ref b2), .val (.long rr), .second, .val (.long ((ps &&& (1048575 : Int32)).toInt64)), .second, .val (.long (((ps &&& (1048575 : Int32)).toInt64) * (1000000000 : Int64))), .second, .val (.long (0 : Int64)), .second, .val (.long (0 : Int64)), .second, .val (.long dd), .second, .val (.ref b116), .unset, .unset] [(.long ((ps &&& (1048575 : Int32)).toInt64)), (.ref b116)])) _
        refine XS.lloadN X119.here hx rfl (hb hby at_236) rfl ?_
        show Steps p.tables e below (T119.setTop (mkF m 237 #[.val (.int pr), .val (.int ps), .val (.long pt), .second, .val (.long pd), .second, .val (.int pm), .val (.ref b2), .val (.long rr), .second, .val (.long ((ps &&& (1048575 : Int32)).toInt64)), .second, .val (.long (((ps &&& (1048575 : Int32)).toInt64) * (1000000000 : Int64))), .second, .val (.long (0 : Int64)), .second, .val (.long (0 : Int64)), .second, .val (.long dd), .second, .val (.ref b116), .unset, .unset] [(.long pt), (.long ((ps &&& (1048575 : Int32)).toInt64)), (.ref b116)])) _
        refine XS.lload X119.here hx rfl (hb hby at_237) rfl ?_
        show Steps p.tables e below (T119.setTop (mkF m 239 #[.val (.int pr), .val (.int ps), .val (.long pt), .second, .val (.long pd), .second, .val (.int pm), .val (.ref b2), .val (.long rr), .second, .val (.long ((ps &&& (1048575 : Int32)).toInt64)), .second, .val (.long (((ps &&& (1048575 : Int32)).toInt64) * (1000000000 : Int64))), .second, .val (.long (0 : Int64)), .second, .val (.long (0 : Int64)), .second, .val (.long dd), .second, .val (.ref b116), .unset, .unset] [(.long dd), (.long pt), (.long ((ps &&& (1048575 : Int32)).toInt64)), (.ref b116)])) _
        refine XS.ladd X119.here hx rfl (hb hby at_239) rfl ?_
        exact kt)
    obtain ⟨cq122, kq122, q122a, q122b, q122c⟩ := isOf hZ rfl E119b
    obtain ⟨_, _, ⟨T122, L122, k122, n122⟩, -, X122, ⟨Lc122, hQ122, l122, y122, z122⟩, st122⟩ := X119.virtualBack hx (y := (⟨"com/example/ferry/ferry/Pacer", "isDue", "(JJ)Z"⟩ : MethodName)) (z := (⟨"com/example/ferry/ferry/Pacer", "isDue", "(JJ)Z"⟩ : MethodName)) hown (mvT hZ (hw _ (List.mem_of_getElem? (i := 30) rfl))) (mvT hZ (hw _ (List.mem_of_getElem? (i := 31) rfl))) (notFace_of_selects (args := #[]) (mvT hZ (hw _ (List.mem_of_getElem? (i := 33) rfl)))) (mvT hZ (hw _ (List.mem_of_getElem? (i := 33) rfl))) (mvT hZ (hw _ (List.mem_of_getElem? (i := 32) rfl))) (by decide) (backOf (W := 0) (own_isDue l Z a0 hw [] b116 ((ps &&& (1048575 : Int32)).toInt64) (pt + dd) pt (0 : UInt64) dd T119.heap n0 (Nat.le_trans (Nat.le_trans (Nat.le_trans (Nat.le_trans (Nat.le_trans (Nat.le_trans (Nat.le_trans (Nat.le_trans (Nat.le_trans (Nat.le_trans (Nat.le_trans (Nat.le_trans (Nat.le_trans (Nat.le_trans (Nat.le_trans (Nat.le_trans (Nat.le_trans (Nat.le_trans (Nat.le_trans Z0 E2.1) (Keep.of_wr W6).1) (Keep.of_wr W10).1) (Keep.of_wr W14).1) (Keep.of_wr W18).1) (Keep.of_wr W22).1) (Keep.of_wr W26).1) (Keep.of_wr W30).1) (Keep.of_wr W34).1) (Keep.of_wr W38).1) (Keep.of_wr W42).1) (Keep.of_wr W46).1) (Keep.of_wr W50).1) (Keep.of_wr W54).1) (Keep.of_wr W58).1) (Keep.of_wr W62).1) (Keep.of_wr W66).1) E116.1) K119q.1) Fs119 Fi119 (own_bk pt dd) (own_nn0 (own_msk ps))) hZ (hw _ (List.mem_of_getElem? (i := 34) rfl)) (hw _ (List.mem_of_getElem? (i := 19) rfl)) (by decide) (by decide)) q122a q122c (g := (mkF m 240 #[.val (.int pr), .val (.int ps), .val (.long pt), .second, .val (.long pd), .second, .val (.int pm), .val (.ref b2), .val (.long rr), .second, .val (.long ((ps &&& (1048575 : Int32)).toInt64)), .second, .val (.long (((ps &&& (1048575 : Int32)).toInt64) * (1000000000 : Int64))), .second, .val (.long (0 : Int64)), .second, .val (.long (0 : Int64)), .second, .val (.long dd), .second, .val (.ref b116), .unset, .unset] [(.long (pt + dd)), (.long ((ps &&& (1048575 : Int32)).toInt64)), (.ref b116)])) rfl (by rw [hml]; rfl) (Steps.refl _) (argsL := [(.long ((ps &&& (1048575 : Int32)).toInt64)), (.long (pt + dd))]) (rest := []) (lenOf own_pd1 rfl) rfl (by show 2 * 0 + _ ≤ _; exact Nat.le_of_eq rfl) (hb hby at_240) (fun _ _ => ⟨rfl, rfl, (by decide : 2 + 0 ≤ _), (by decide : 18 + 0 ≤ _)⟩)
    dsimp only [Pt.U, Pt.locs, Pt.cells, Pt.slots] at X122 l122 y122 z122 st122 hQ122
    subst l122 y122 z122
    obtain ⟨z122, rfl, hz122, N122q, e122⟩ := hQ122
    have N122 := Fr.app N119 N122q
    have pre123 : Goes p e below s₁ (entryFrame m #[(.int pr), (.int ps), (.long pt), (.long pd), (.int pm)] maxLocals) T122 (mkF m 243 #[.val (.int pr), .val (.int ps), .val (.long pt), .second, .val (.long pd), .second, .val (.int pm), .val (.ref b2), .val (.long rr), .second, .val (.long ((ps &&& (1048575 : Int32)).toInt64)), .second, .val (.long (((ps &&& (1048575 : Int32)).toInt64) * (1000000000 : Int64))), .second, .val (.long (0 : Int64)), .second, .val (.long (0 : Int64)), .second, .val (.long dd), .second, .val (.ref b116), .unset, .unset] [(.int z122)]) := fun t kt => pre121 t (st122.trans kt)
    rcases hz122 with ⟨rfl, hD⟩ | ⟨rfl, hD⟩
    · -- due 1
      have pre124 : Goes p e below s₁ (entryFrame m #[(.int pr), (.int ps), (.long pt), (.long pd), (.int pm)] maxLocals) T122 (mkF m 282 #[.val (.int pr), .val (.int ps), .val (.long pt), .second, .val (.long pd), .second, .val (.int pm), .val (.ref b2), .val (.long rr), .second, .val (.long ((ps &&& (1048575 : Int32)).toInt64)), .second, .val (.long (((ps &&& (1048575 : Int32)).toInt64) * (1000000000 : Int64))), .second, .val (.long (0 : Int64)), .second, .val (.long (0 : Int64)), .second, .val (.long dd), .second, .val (.ref b116), .val (.int (1 : Int32)), .val (.int (1 : Int32))] [(.int (lcmpW dd (0 : Int64))), (.int (1 : Int32))]) := fun t kt => pre123 t (by
          show Steps p.tables e below (T122.setTop (mkF m 243 #[.val (.int pr), .val (.int ps), .val (.long pt), .second, .val (.long pd), .second, .val (.int pm), .val (.ref b2), .val (.long rr), .second, .val (.long ((ps &&& (1048575 : Int32)).toInt64)), .second, .val (.long (((ps &&& (1048575 : Int32)).toInt64) * (1000000000 : Int64))), .second, .val (.long (0 : Int64)), .second, .val (.long (0 : Int64)), .second, .val (.long dd), .second, .val (.ref b116), .unset, .unset] [(.int (1 : Int32))])) _
          refine XS.istore X122.here hx rfl (hb hby at_243) rfl (l' := #[.val (.int pr), .val (.int ps), .val (.long pt), .second, .val (.long pd), .second, .val (.int pm), .val (.ref b2), .val (.long rr), .second, .val (.long ((ps &&& (1048575 : Int32)).toInt64)), .second, .val (.long (((ps &&& (1048575 : Int32)).toInt64) * (1000000000 : Int64))), .second, .val (.long (0 : Int64)), .second, .val (.long (0 : Int64)), .second, .val (.long dd), .second, .val (.ref b116), .val (.int (1 : Int32)), .unset]) rfl ?_
          show Steps p.tables e below (T122.setTop (mkF m 245 #[.val (.int pr), .val (.int ps), .val (.long pt), .second, .val (.long pd), .second, .val (.int pm), .val (.ref b2), .val (.long rr), .second, .val (.long ((ps &&& (1048575 : Int32)).toInt64)), .second, .val (.long (((ps &&& (1048575 : Int32)).toInt64) * (1000000000 : Int64))), .second, .val (.long (0 : Int64)), .second, .val (.long (0 : Int64)), .second, .val (.long dd), .second, .val (.ref b116), .val (.int (1 : Int32)), .unset] [])) _
          refine XS.lload X122.here hx rfl (hb hby at_245) rfl ?_
          show Steps p.tables e below (T122.setTop (mkF m 247 #[.val (.int pr), .val (.int ps), .val (.long pt), .second, .val (.long pd), .second, .val (.int pm), .val (.ref b2), .val (.long rr), .second, .val (.long ((ps &&& (1048575 : Int32)).toInt64)), .second, .val (.long (((ps &&& (1048575 : Int32)).toInt64) * (1000000000 : Int64))), .second, .val (.long (0 : Int64)), .second, .val (.long (0 : Int64)), .second, .val (.long dd), .second, .val (.ref b116), .val (.int (1 : Int32)), .unset] [(.long rr)])) _
          refine XS.lconst X122.here hx rfl (hb hby at_247) ?_
          show Steps p.tables e below (T122.setTop (mkF m 248 #[.val (.int pr), .val (.int ps), .val (.long pt), .second, .val (.long pd), .second, .val (.int pm), .val (.ref b2), .val (.long rr), .second, .val (.long ((ps &&& (1048575 : Int32)).toInt64)), .second, .val (.long (((ps &&& (1048575 : Int32)).toInt64) * (1000000000 : Int64))), .second, .val (.long (0 : Int64)), .second, .val (.long (0 : Int64)), .second, .val (.long dd), .second, .val (.ref b116), .val (.int (1 : Int32)), .unset] [(.long (0 : Int64)), (.long rr)])) _
          refine XS.lcmp X122.here hx rfl (hb hby at_248) rfl ?_
          show Steps p.tables e below (T122.setTop (mkF m 249 #[.val (.int pr), .val (.int ps), .val (.long pt), .second, .val (.long pd), .second, .val (.int pm), .val (.ref b2), .val (.long rr), .second, .val (.long ((ps &&& (1048575 : Int32)).toInt64)), .second, .val (.long (((ps &&& (1048575 : Int32)).toInt64) * (1000000000 : Int64))), .second, .val (.long (0 : Int64)), .second, .val (.long (0 : Int64)), .second, .val (.long dd), .second, .val (.ref b116), .val (.int (1 : Int32)), .unset] [(.int (lcmpW rr (0 : Int64)))])) _
          refine XS.ifYes X122.here hx rfl (pc0 := 249) (pc' := 263) rfl (hb hby at_249) rfl ((if0 _ _).trans (teq hc153_107).1) (by decide) (by decide) ?_
          show Steps p.tables e below (T122.setTop (mkF m 263 #[.val (.int pr), .val (.int ps), .val (.long pt), .second, .val (.long pd), .second, .val (.int pm), .val (.ref b2), .val (.long rr), .second, .val (.long ((ps &&& (1048575 : Int32)).toInt64)), .second, .val (.long (((ps &&& (1048575 : Int32)).toInt64) * (1000000000 : Int64))), .second, .val (.long (0 : Int64)), .second, .val (.long (0 : Int64)), .second, .val (.long dd), .second, .val (.ref b116), .val (.int (1 : Int32)), .unset] [])) _
          refine XS.iconst X122.here hx rfl (hb hby at_263) ?_
          show Steps p.tables e below (T122.setTop (mkF m 264 #[.val (.int pr), .val (.int ps), .val (.long pt), .second, .val (.long pd), .second, .val (.int pm), .val (.ref b2), .val (.long rr), .second, .val (.long ((ps &&& (1048575 : Int32)).toInt64)), .second, .val (.long (((ps &&& (1048575 : Int32)).toInt64) * (1000000000 : Int64))), .second, .val (.long (0 : Int64)), .second, .val (.long (0 : Int64)), .second, .val (.long dd), .second, .val (.ref b116), .val (.int (1 : Int32)), .unset] [(.int (1 : Int32))])) _
          refine XS.goto X122.here hx rfl (pc0 := 264) (pc' := 268) rfl (hb hby at_264) (by decide) (by decide) ?_
          show Steps p.tables e below (T122.setTop (mkF m 268 #[.val (.int pr), .val (.int ps), .val (.long pt), .second, .val (.long pd), .second, .val (.int pm), .val (.ref b2), .val (.long rr), .second, .val (.long ((ps &&& (1048575 : Int32)).toInt64)), .second, .val (.long (((ps &&& (1048575 : Int32)).toInt64) * (1000000000 : Int64))), .second, .val (.long (0 : Int64)), .second, .val (.long (0 : Int64)), .second, .val (.long dd), .second, .val (.ref b116), .val (.int (1 : Int32)), .unset] [(.int (1 : Int32))])) _
          refine XS.istore X122.here hx rfl (hb hby at_268) rfl (l' := #[.val (.int pr), .val (.int ps), .val (.long pt), .second, .val (.long pd), .second, .val (.int pm), .val (.ref b2), .val (.long rr), .second, .val (.long ((ps &&& (1048575 : Int32)).toInt64)), .second, .val (.long (((ps &&& (1048575 : Int32)).toInt64) * (1000000000 : Int64))), .second, .val (.long (0 : Int64)), .second, .val (.long (0 : Int64)), .second, .val (.long dd), .second, .val (.ref b116), .val (.int (1 : Int32)), .val (.int (1 : Int32))]) rfl ?_
          show Steps p.tables e below (T122.setTop (mkF m 270 #[.val (.int pr), .val (.int ps), .val (.long pt), .second, .val (.long pd), .second, .val (.int pm), .val (.ref b2), .val (.long rr), .second, .val (.long ((ps &&& (1048575 : Int32)).toInt64)), .second, .val (.long (((ps &&& (1048575 : Int32)).toInt64) * (1000000000 : Int64))), .second, .val (.long (0 : Int64)), .second, .val (.long (0 : Int64)), .second, .val (.long dd), .second, .val (.ref b116), .val (.int (1 : Int32)), .val (.int (1 : Int32))] [])) _
          refine XS.iload X122.here hx rfl (hb hby at_270) rfl ?_
          show Steps p.tables e below (T122.setTop (mkF m 272 #[.val (.int pr), .val (.int ps), .val (.long pt), .second, .val (.long pd), .second, .val (.int pm), .val (.ref b2), .val (.long rr), .second, .val (.long ((ps &&& (1048575 : Int32)).toInt64)), .second, .val (.long (((ps &&& (1048575 : Int32)).toInt64) * (1000000000 : Int64))), .second, .val (.long (0 : Int64)), .second, .val (.long (0 : Int64)), .second, .val (.long dd), .second, .val (.ref b116), .val (.int (1 : Int32)), .val (.int (1 : Int32))] [(.int (1 : Int32))])) _
          refine XS.ifNo X122.here hx rfl (hb hby at_272) rfl ((if0 _ _).trans (feq (by decide : ¬ ((1 : Int32) = (0 : Int32)))).1) ?_
          show Steps p.tables e below (T122.setTop (mkF m 275 #[.val (.int pr), .val (.int ps), .val (.long pt), .second, .val (.long pd), .second, .val (.int pm), .val (.ref b2), .val (.long rr), .second, .val (.long ((ps &&& (1048575 : Int32)).toInt64)), .second, .val (.long (((ps &&& (1048575 : Int32)).toInt64) * (1000000000 : Int64))), .second, .val (.long (0 : Int64)), .second, .val (.long (0 : Int64)), .second, .val (.long dd), .second, .val (.ref b116), .val (.int (1 : Int32)), .val (.int (1 : Int32))] [])) _
          refine XS.iload X122.here hx rfl (hb hby at_275) rfl ?_
          show Steps p.tables e below (T122.setTop (mkF m 277 #[.val (.int pr), .val (.int ps), .val (.long pt), .second, .val (.long pd), .second, .val (.int pm), .val (.ref b2), .val (.long rr), .second, .val (.long ((ps &&& (1048575 : Int32)).toInt64)), .second, .val (.long (((ps &&& (1048575 : Int32)).toInt64) * (1000000000 : Int64))), .second, .val (.long (0 : Int64)), .second, .val (.long (0 : Int64)), .second, .val (.long dd), .second, .val (.ref b116), .val (.int (1 : Int32)), .val (.int (1 : Int32))] [(.int (1 : Int32))])) _
          refine XS.lload X122.here hx rfl (hb hby at_277) rfl ?_
          show Steps p.tables e below (T122.setTop (mkF m 279 #[.val (.int pr), .val (.int ps), .val (.long pt), .second, .val (.long pd), .second, .val (.int pm), .val (.ref b2), .val (.long rr), .second, .val (.long ((ps &&& (1048575 : Int32)).toInt64)), .second, .val (.long (((ps &&& (1048575 : Int32)).toInt64) * (1000000000 : Int64))), .second, .val (.long (0 : Int64)), .second, .val (.long (0 : Int64)), .second, .val (.long dd), .second, .val (.ref b116), .val (.int (1 : Int32)), .val (.int (1 : Int32))] [(.long dd), (.int (1 : Int32))])) _
          refine XS.lload X122.here hx rfl (hb hby at_279) rfl ?_
          show Steps p.tables e below (T122.setTop (mkF m 281 #[.val (.int pr), .val (.int ps), .val (.long pt), .second, .val (.long pd), .second, .val (.int pm), .val (.ref b2), .val (.long rr), .second, .val (.long ((ps &&& (1048575 : Int32)).toInt64)), .second, .val (.long (((ps &&& (1048575 : Int32)).toInt64) * (1000000000 : Int64))), .second, .val (.long (0 : Int64)), .second, .val (.long (0 : Int64)), .second, .val (.long dd), .second, .val (.ref b116), .val (.int (1 : Int32)), .val (.int (1 : Int32))] [(.long (0 : Int64)), (.long dd), (.int (1 : Int32))])) _
          refine XS.lcmp X122.here hx rfl (hb hby at_281) rfl ?_
          exact kt)
      by_cases hc282_125 : (lcmpW dd (0 : Int64)) < (0 : Int32)
      · -- yes at pc 282: fftf
        have pre126 : Goes p e below s₁ (entryFrame m #[(.int pr), (.int ps), (.long pt), (.long pd), (.int pm)] maxLocals) T122 (mkF m 298 #[.val (.int pr), .val (.int ps), .val (.long pt), .second, .val (.long pd), .second, .val (.int pm), .val (.ref b2), .val (.long rr), .second, .val (.long ((ps &&& (1048575 : Int32)).toInt64)), .second, .val (.long (((ps &&& (1048575 : Int32)).toInt64) * (1000000000 : Int64))), .second, .val (.long (0 : Int64)), .second, .val (.long (0 : Int64)), .second, .val (.long dd), .second, .val (.ref b116), .val (.int (1 : Int32)), .val (.int (1 : Int32))] [(.int (0 : Int32))]) := fun t kt => pre124 t (by
            show Steps p.tables e below (T122.setTop (mkF m 282 #[.val (.int pr), .val (.int ps), .val (.long pt), .second, .val (.long pd), .second, .val (.int pm), .val (.ref b2), .val (.long rr), .second, .val (.long ((ps &&& (1048575 : Int32)).toInt64)), .second, .val (.long (((ps &&& (1048575 : Int32)).toInt64) * (1000000000 : Int64))), .second, .val (.long (0 : Int64)), .second, .val (.long (0 : Int64)), .second, .val (.long dd), .second, .val (.ref b116), .val (.int (1 : Int32)), .val (.int (1 : Int32))] [(.int (lcmpW dd (0 : Int64))), (.int (1 : Int32))])) _
            refine XS.ifYes X122.here hx rfl (pc0 := 282) (pc' := 289) rfl (hb hby at_282) rfl ((if0 _ _).trans (tlt hc282_125).1) (by decide) (by decide) ?_
            show Steps p.tables e below (T122.setTop (mkF m 289 #[.val (.int pr), .val (.int ps), .val (.long pt), .second, .val (.long pd), .second, .val (.int pm), .val (.ref b2), .val (.long rr), .second, .val (.long ((ps &&& (1048575 : Int32)).toInt64)), .second, .val (.long (((ps &&& (1048575 : Int32)).toInt64) * (1000000000 : Int64))), .second, .val (.long (0 : Int64)), .second, .val (.long (0 : Int64)), .second, .val (.long dd), .second, .val (.ref b116), .val (.int (1 : Int32)), .val (.int (1 : Int32))] [(.int (1 : Int32))])) _
            refine XS.iconst X122.here hx rfl (hb hby at_289) ?_
            show Steps p.tables e below (T122.setTop (mkF m 290 #[.val (.int pr), .val (.int ps), .val (.long pt), .second, .val (.long pd), .second, .val (.int pm), .val (.ref b2), .val (.long rr), .second, .val (.long ((ps &&& (1048575 : Int32)).toInt64)), .second, .val (.long (((ps &&& (1048575 : Int32)).toInt64) * (1000000000 : Int64))), .second, .val (.long (0 : Int64)), .second, .val (.long (0 : Int64)), .second, .val (.long dd), .second, .val (.ref b116), .val (.int (1 : Int32)), .val (.int (1 : Int32))] [(.int (0 : Int32)), (.int (1 : Int32))])) _
            refine XS.icmpYes X122.here hx rfl (pc0 := 290) (pc' := 297) rfl (hb hby at_290) rfl (feq (by decide : ¬ ((1 : Int32) = (0 : Int32)))).2 (by decide) (by decide) ?_
            show Steps p.tables e below (T122.setTop (mkF m 297 #[.val (.int pr), .val (.int ps), .val (.long pt), .second, .val (.long pd), .second, .val (.int pm), .val (.ref b2), .val (.long rr), .second, .val (.long ((ps &&& (1048575 : Int32)).toInt64)), .second, .val (.long (((ps &&& (1048575 : Int32)).toInt64) * (1000000000 : Int64))), .second, .val (.long (0 : Int64)), .second, .val (.long (0 : Int64)), .second, .val (.long dd), .second, .val (.ref b116), .val (.int (1 : Int32)), .val (.int (1 : Int32))] [])) _
            refine XS.iconst X122.here hx rfl (hb hby at_297) ?_
            exact kt)
        obtain ⟨fs, hr, hrun, hended, hW, hsame⟩ := X122.leave (v := some (.int (0 : Int32))) (fun h => by rw [Bd.returns] at h; cases h) Bd.notSynchronized
        refine ⟨_, _, pre126 _ ?_, hrun, hended, _, _, rfl, ?_, ⟨_, rfl⟩, hW, hsame.mono (by decide) (by decide)⟩
        · show Steps p.tables e below (T122.setTop (mkF m 298 #[.val (.int pr), .val (.int ps), .val (.long pt), .second, .val (.long pd), .second, .val (.int pm), .val (.ref b2), .val (.long rr), .second, .val (.long ((ps &&& (1048575 : Int32)).toInt64)), .second, .val (.long (((ps &&& (1048575 : Int32)).toInt64) * (1000000000 : Int64))), .second, .val (.long (0 : Int64)), .second, .val (.long (0 : Int64)), .second, .val (.long dd), .second, .val (.ref b116), .val (.int (1 : Int32)), .val (.int (1 : Int32))] [(.int (0 : Int32))])) _
          exact retN X122 hx (t := .boolean) Bd.returns (by simp) (hb hby at_298) hr
        · show Q_own_rm0 Z pr ps pt pd pm h0 n0 _ T122.heap _
          rw [e122]
          exact (own_k0 (own_msk ps) hd hD hc282_125).elim
      · -- no at pc 282: fftf
        have pre127 : Goes p e below s₁ (entryFrame m #[(.int pr), (.int ps), (.long pt), (.long pd), (.int pm)] maxLocals) T122 (mkF m 298 #[.val (.int pr), .val (.int ps), .val (.long pt), .second, .val (.long pd), .second, .val (.int pm), .val (.ref b2), .val (.long rr), .second, .val (.long ((ps &&& (1048575 : Int32)).toInt64)), .second, .val (.long (((ps &&& (1048575 : Int32)).toInt64) * (1000000000 : Int64))), .second, .val (.long (0 : Int64)), .second, .val (.long (0 : Int64)), .second, .val (.long dd), .second, .val (.ref b116), .val (.int (1 : Int32)), .val (.int (1 : Int32))] [(.int (1 : Int32))]) := fun t kt => pre124 t (by
            show Steps p.tables e below (T122.setTop (mkF m 282 #[.val (.int pr), .val (.int ps), .val (.long pt), .second, .val (.long pd), .second, .val (.int pm), .val (.ref b2), .val (.long rr), .second, .val (.long ((ps &&& (1048575 : Int32)).toInt64)), .second, .val (.long (((ps &&& (1048575 : Int32)).toInt64) * (1000000000 : Int64))), .second, .val (.long (0 : Int64)), .second, .val (.long (0 : Int64)), .second, .val (.long dd), .second, .val (.ref b116), .val (.int (1 : Int32)), .val (.int (1 : Int32))] [(.int (lcmpW dd (0 : Int64))), (.int (1 : Int32))])) _
            refine XS.ifNo X122.here hx rfl (hb hby at_282) rfl ((if0 _ _).trans (flt hc282_125).1) ?_
            show Steps p.tables e below (T122.setTop (mkF m 285 #[.val (.int pr), .val (.int ps), .val (.long pt), .second, .val (.long pd), .second, .val (.int pm), .val (.ref b2), .val (.long rr), .second, .val (.long ((ps &&& (1048575 : Int32)).toInt64)), .second, .val (.long (((ps &&& (1048575 : Int32)).toInt64) * (1000000000 : Int64))), .second, .val (.long (0 : Int64)), .second, .val (.long (0 : Int64)), .second, .val (.long dd), .second, .val (.ref b116), .val (.int (1 : Int32)), .val (.int (1 : Int32))] [(.int (1 : Int32))])) _
            refine XS.iconst X122.here hx rfl (hb hby at_285) ?_
            show Steps p.tables e below (T122.setTop (mkF m 286 #[.val (.int pr), .val (.int ps), .val (.long pt), .second, .val (.long pd), .second, .val (.int pm), .val (.ref b2), .val (.long rr), .second, .val (.long ((ps &&& (1048575 : Int32)).toInt64)), .second, .val (.long (((ps &&& (1048575 : Int32)).toInt64) * (1000000000 : Int64))), .second, .val (.long (0 : Int64)), .second, .val (.long (0 : Int64)), .second, .val (.long dd), .second, .val (.ref b116), .val (.int (1 : Int32)), .val (.int (1 : Int32))] [(.int (1 : Int32)), (.int (1 : Int32))])) _
            refine XS.goto X122.here hx rfl (pc0 := 286) (pc' := 290) rfl (hb hby at_286) (by decide) (by decide) ?_
            show Steps p.tables e below (T122.setTop (mkF m 290 #[.val (.int pr), .val (.int ps), .val (.long pt), .second, .val (.long pd), .second, .val (.int pm), .val (.ref b2), .val (.long rr), .second, .val (.long ((ps &&& (1048575 : Int32)).toInt64)), .second, .val (.long (((ps &&& (1048575 : Int32)).toInt64) * (1000000000 : Int64))), .second, .val (.long (0 : Int64)), .second, .val (.long (0 : Int64)), .second, .val (.long dd), .second, .val (.ref b116), .val (.int (1 : Int32)), .val (.int (1 : Int32))] [(.int (1 : Int32)), (.int (1 : Int32))])) _
            refine XS.icmpNo X122.here hx rfl (hb hby at_290) rfl (teq (by decide : (1 : Int32) = (1 : Int32))).2 ?_
            show Steps p.tables e below (T122.setTop (mkF m 293 #[.val (.int pr), .val (.int ps), .val (.long pt), .second, .val (.long pd), .second, .val (.int pm), .val (.ref b2), .val (.long rr), .second, .val (.long ((ps &&& (1048575 : Int32)).toInt64)), .second, .val (.long (((ps &&& (1048575 : Int32)).toInt64) * (1000000000 : Int64))), .second, .val (.long (0 : Int64)), .second, .val (.long (0 : Int64)), .second, .val (.long dd), .second, .val (.ref b116), .val (.int (1 : Int32)), .val (.int (1 : Int32))] [])) _
            refine XS.iconst X122.here hx rfl (hb hby at_293) ?_
            show Steps p.tables e below (T122.setTop (mkF m 294 #[.val (.int pr), .val (.int ps), .val (.long pt), .second, .val (.long pd), .second, .val (.int pm), .val (.ref b2), .val (.long rr), .second, .val (.long ((ps &&& (1048575 : Int32)).toInt64)), .second, .val (.long (((ps &&& (1048575 : Int32)).toInt64) * (1000000000 : Int64))), .second, .val (.long (0 : Int64)), .second, .val (.long (0 : Int64)), .second, .val (.long dd), .second, .val (.ref b116), .val (.int (1 : Int32)), .val (.int (1 : Int32))] [(.int (1 : Int32))])) _
            refine XS.goto X122.here hx rfl (pc0 := 294) (pc' := 298) rfl (hb hby at_294) (by decide) (by decide) ?_
            exact kt)
        obtain ⟨fs, hr, hrun, hended, hW, hsame⟩ := X122.leave (v := some (.int (1 : Int32))) (fun h => by rw [Bd.returns] at h; cases h) Bd.notSynchronized
        refine ⟨_, _, pre127 _ ?_, hrun, hended, _, _, rfl, ?_, ⟨_, rfl⟩, hW, hsame.mono (by decide) (by decide)⟩
        · show Steps p.tables e below (T122.setTop (mkF m 298 #[.val (.int pr), .val (.int ps), .val (.long pt), .second, .val (.long pd), .second, .val (.int pm), .val (.ref b2), .val (.long rr), .second, .val (.long ((ps &&& (1048575 : Int32)).toInt64)), .second, .val (.long (((ps &&& (1048575 : Int32)).toInt64) * (1000000000 : Int64))), .second, .val (.long (0 : Int64)), .second, .val (.long (0 : Int64)), .second, .val (.long dd), .second, .val (.ref b116), .val (.int (1 : Int32)), .val (.int (1 : Int32))] [(.int (1 : Int32))])) _
          exact retN X122 hx (t := .boolean) Bd.returns (by simp) (hb hby at_298) hr
        · show Q_own_rm0 Z pr ps pt pd pm h0 n0 _ T122.heap _
          rw [e122]
          exact ⟨rfl, N122⟩
    · -- due 0
      have pre128 : Goes p e below s₁ (entryFrame m #[(.int pr), (.int ps), (.long pt), (.long pd), (.int pm)] maxLocals) T122 (mkF m 282 #[.val (.int pr), .val (.int ps), .val (.long pt), .second, .val (.long pd), .second, .val (.int pm), .val (.ref b2), .val (.long rr), .second, .val (.long ((ps &&& (1048575 : Int32)).toInt64)), .second, .val (.long (((ps &&& (1048575 : Int32)).toInt64) * (1000000000 : Int64))), .second, .val (.long (0 : Int64)), .second, .val (.long (0 : Int64)), .second, .val (.long dd), .second, .val (.ref b116), .val (.int (0 : Int32)), .val (.int (1 : Int32))] [(.int (lcmpW dd (0 : Int64))), (.int (0 : Int32))]) := fun t kt => pre123 t (by
          show Steps p.tables e below (T122.setTop (mkF m 243 #[.val (.int pr), .val (.int ps), .val (.long pt), .second, .val (.long pd), .second, .val (.int pm), .val (.ref b2), .val (.long rr), .second, .val (.long ((ps &&& (1048575 : Int32)).toInt64)), .second, .val (.long (((ps &&& (1048575 : Int32)).toInt64) * (1000000000 : Int64))), .second, .val (.long (0 : Int64)), .second, .val (.long (0 : Int64)), .second, .val (.long dd), .second, .val (.ref b116), .unset, .unset] [(.int (0 : Int32))])) _
          refine XS.istore X122.here hx rfl (hb hby at_243) rfl (l' := #[.val (.int pr), .val (.int ps), .val (.long pt), .second, .val (.long pd), .second, .val (.int pm), .val (.ref b2), .val (.long rr), .second, .val (.long ((ps &&& (1048575 : Int32)).toInt64)), .second, .val (.long (((ps &&& (1048575 : Int32)).toInt64) * (1000000000 : Int64))), .second, .val (.long (0 : Int64)), .second, .val (.long (0 : Int64)), .second, .val (.long dd), .second, .val (.ref b116), .val (.int (0 : Int32)), .unset]) rfl ?_
          show Steps p.tables e below (T122.setTop (mkF m 245 #[.val (.int pr), .val (.int ps), .val (.long pt), .second, .val (.long pd), .second, .val (.int pm), .val (.ref b2), .val (.long rr), .second, .val (.long ((ps &&& (1048575 : Int32)).toInt64)), .second, .val (.long (((ps &&& (1048575 : Int32)).toInt64) * (1000000000 : Int64))), .second, .val (.long (0 : Int64)), .second, .val (.long (0 : Int64)), .second, .val (.long dd), .second, .val (.ref b116), .val (.int (0 : Int32)), .unset] [])) _
          refine XS.lload X122.here hx rfl (hb hby at_245) rfl ?_
          show Steps p.tables e below (T122.setTop (mkF m 247 #[.val (.int pr), .val (.int ps), .val (.long pt), .second, .val (.long pd), .second, .val (.int pm), .val (.ref b2), .val (.long rr), .second, .val (.long ((ps &&& (1048575 : Int32)).toInt64)), .second, .val (.long (((ps &&& (1048575 : Int32)).toInt64) * (1000000000 : Int64))), .second, .val (.long (0 : Int64)), .second, .val (.long (0 : Int64)), .second, .val (.long dd), .second, .val (.ref b116), .val (.int (0 : Int32)), .unset] [(.long rr)])) _
          refine XS.lconst X122.here hx rfl (hb hby at_247) ?_
          show Steps p.tables e below (T122.setTop (mkF m 248 #[.val (.int pr), .val (.int ps), .val (.long pt), .second, .val (.long pd), .second, .val (.int pm), .val (.ref b2), .val (.long rr), .second, .val (.long ((ps &&& (1048575 : Int32)).toInt64)), .second, .val (.long (((ps &&& (1048575 : Int32)).toInt64) * (1000000000 : Int64))), .second, .val (.long (0 : Int64)), .second, .val (.long (0 : Int64)), .second, .val (.long dd), .second, .val (.ref b116), .val (.int (0 : Int32)), .unset] [(.long (0 : Int64)), (.long rr)])) _
          refine XS.lcmp X122.here hx rfl (hb hby at_248) rfl ?_
          show Steps p.tables e below (T122.setTop (mkF m 249 #[.val (.int pr), .val (.int ps), .val (.long pt), .second, .val (.long pd), .second, .val (.int pm), .val (.ref b2), .val (.long rr), .second, .val (.long ((ps &&& (1048575 : Int32)).toInt64)), .second, .val (.long (((ps &&& (1048575 : Int32)).toInt64) * (1000000000 : Int64))), .second, .val (.long (0 : Int64)), .second, .val (.long (0 : Int64)), .second, .val (.long dd), .second, .val (.ref b116), .val (.int (0 : Int32)), .unset] [(.int (lcmpW rr (0 : Int64)))])) _
          refine XS.ifYes X122.here hx rfl (pc0 := 249) (pc' := 263) rfl (hb hby at_249) rfl ((if0 _ _).trans (teq hc153_107).1) (by decide) (by decide) ?_
          show Steps p.tables e below (T122.setTop (mkF m 263 #[.val (.int pr), .val (.int ps), .val (.long pt), .second, .val (.long pd), .second, .val (.int pm), .val (.ref b2), .val (.long rr), .second, .val (.long ((ps &&& (1048575 : Int32)).toInt64)), .second, .val (.long (((ps &&& (1048575 : Int32)).toInt64) * (1000000000 : Int64))), .second, .val (.long (0 : Int64)), .second, .val (.long (0 : Int64)), .second, .val (.long dd), .second, .val (.ref b116), .val (.int (0 : Int32)), .unset] [])) _
          refine XS.iconst X122.here hx rfl (hb hby at_263) ?_
          show Steps p.tables e below (T122.setTop (mkF m 264 #[.val (.int pr), .val (.int ps), .val (.long pt), .second, .val (.long pd), .second, .val (.int pm), .val (.ref b2), .val (.long rr), .second, .val (.long ((ps &&& (1048575 : Int32)).toInt64)), .second, .val (.long (((ps &&& (1048575 : Int32)).toInt64) * (1000000000 : Int64))), .second, .val (.long (0 : Int64)), .second, .val (.long (0 : Int64)), .second, .val (.long dd), .second, .val (.ref b116), .val (.int (0 : Int32)), .unset] [(.int (1 : Int32))])) _
          refine XS.goto X122.here hx rfl (pc0 := 264) (pc' := 268) rfl (hb hby at_264) (by decide) (by decide) ?_
          show Steps p.tables e below (T122.setTop (mkF m 268 #[.val (.int pr), .val (.int ps), .val (.long pt), .second, .val (.long pd), .second, .val (.int pm), .val (.ref b2), .val (.long rr), .second, .val (.long ((ps &&& (1048575 : Int32)).toInt64)), .second, .val (.long (((ps &&& (1048575 : Int32)).toInt64) * (1000000000 : Int64))), .second, .val (.long (0 : Int64)), .second, .val (.long (0 : Int64)), .second, .val (.long dd), .second, .val (.ref b116), .val (.int (0 : Int32)), .unset] [(.int (1 : Int32))])) _
          refine XS.istore X122.here hx rfl (hb hby at_268) rfl (l' := #[.val (.int pr), .val (.int ps), .val (.long pt), .second, .val (.long pd), .second, .val (.int pm), .val (.ref b2), .val (.long rr), .second, .val (.long ((ps &&& (1048575 : Int32)).toInt64)), .second, .val (.long (((ps &&& (1048575 : Int32)).toInt64) * (1000000000 : Int64))), .second, .val (.long (0 : Int64)), .second, .val (.long (0 : Int64)), .second, .val (.long dd), .second, .val (.ref b116), .val (.int (0 : Int32)), .val (.int (1 : Int32))]) rfl ?_
          show Steps p.tables e below (T122.setTop (mkF m 270 #[.val (.int pr), .val (.int ps), .val (.long pt), .second, .val (.long pd), .second, .val (.int pm), .val (.ref b2), .val (.long rr), .second, .val (.long ((ps &&& (1048575 : Int32)).toInt64)), .second, .val (.long (((ps &&& (1048575 : Int32)).toInt64) * (1000000000 : Int64))), .second, .val (.long (0 : Int64)), .second, .val (.long (0 : Int64)), .second, .val (.long dd), .second, .val (.ref b116), .val (.int (0 : Int32)), .val (.int (1 : Int32))] [])) _
          refine XS.iload X122.here hx rfl (hb hby at_270) rfl ?_
          show Steps p.tables e below (T122.setTop (mkF m 272 #[.val (.int pr), .val (.int ps), .val (.long pt), .second, .val (.long pd), .second, .val (.int pm), .val (.ref b2), .val (.long rr), .second, .val (.long ((ps &&& (1048575 : Int32)).toInt64)), .second, .val (.long (((ps &&& (1048575 : Int32)).toInt64) * (1000000000 : Int64))), .second, .val (.long (0 : Int64)), .second, .val (.long (0 : Int64)), .second, .val (.long dd), .second, .val (.ref b116), .val (.int (0 : Int32)), .val (.int (1 : Int32))] [(.int (1 : Int32))])) _
          refine XS.ifNo X122.here hx rfl (hb hby at_272) rfl ((if0 _ _).trans (feq (by decide : ¬ ((1 : Int32) = (0 : Int32)))).1) ?_
          show Steps p.tables e below (T122.setTop (mkF m 275 #[.val (.int pr), .val (.int ps), .val (.long pt), .second, .val (.long pd), .second, .val (.int pm), .val (.ref b2), .val (.long rr), .second, .val (.long ((ps &&& (1048575 : Int32)).toInt64)), .second, .val (.long (((ps &&& (1048575 : Int32)).toInt64) * (1000000000 : Int64))), .second, .val (.long (0 : Int64)), .second, .val (.long (0 : Int64)), .second, .val (.long dd), .second, .val (.ref b116), .val (.int (0 : Int32)), .val (.int (1 : Int32))] [])) _
          refine XS.iload X122.here hx rfl (hb hby at_275) rfl ?_
          show Steps p.tables e below (T122.setTop (mkF m 277 #[.val (.int pr), .val (.int ps), .val (.long pt), .second, .val (.long pd), .second, .val (.int pm), .val (.ref b2), .val (.long rr), .second, .val (.long ((ps &&& (1048575 : Int32)).toInt64)), .second, .val (.long (((ps &&& (1048575 : Int32)).toInt64) * (1000000000 : Int64))), .second, .val (.long (0 : Int64)), .second, .val (.long (0 : Int64)), .second, .val (.long dd), .second, .val (.ref b116), .val (.int (0 : Int32)), .val (.int (1 : Int32))] [(.int (0 : Int32))])) _
          refine XS.lload X122.here hx rfl (hb hby at_277) rfl ?_
          show Steps p.tables e below (T122.setTop (mkF m 279 #[.val (.int pr), .val (.int ps), .val (.long pt), .second, .val (.long pd), .second, .val (.int pm), .val (.ref b2), .val (.long rr), .second, .val (.long ((ps &&& (1048575 : Int32)).toInt64)), .second, .val (.long (((ps &&& (1048575 : Int32)).toInt64) * (1000000000 : Int64))), .second, .val (.long (0 : Int64)), .second, .val (.long (0 : Int64)), .second, .val (.long dd), .second, .val (.ref b116), .val (.int (0 : Int32)), .val (.int (1 : Int32))] [(.long dd), (.int (0 : Int32))])) _
          refine XS.lload X122.here hx rfl (hb hby at_279) rfl ?_
          show Steps p.tables e below (T122.setTop (mkF m 281 #[.val (.int pr), .val (.int ps), .val (.long pt), .second, .val (.long pd), .second, .val (.int pm), .val (.ref b2), .val (.long rr), .second, .val (.long ((ps &&& (1048575 : Int32)).toInt64)), .second, .val (.long (((ps &&& (1048575 : Int32)).toInt64) * (1000000000 : Int64))), .second, .val (.long (0 : Int64)), .second, .val (.long (0 : Int64)), .second, .val (.long dd), .second, .val (.ref b116), .val (.int (0 : Int32)), .val (.int (1 : Int32))] [(.long (0 : Int64)), (.long dd), (.int (0 : Int32))])) _
          refine XS.lcmp X122.here hx rfl (hb hby at_281) rfl ?_
          exact kt)
      by_cases hc282_129 : (lcmpW dd (0 : Int64)) < (0 : Int32)
      · -- yes at pc 282: fftf
        have pre130 : Goes p e below s₁ (entryFrame m #[(.int pr), (.int ps), (.long pt), (.long pd), (.int pm)] maxLocals) T122 (mkF m 298 #[.val (.int pr), .val (.int ps), .val (.long pt), .second, .val (.long pd), .second, .val (.int pm), .val (.ref b2), .val (.long rr), .second, .val (.long ((ps &&& (1048575 : Int32)).toInt64)), .second, .val (.long (((ps &&& (1048575 : Int32)).toInt64) * (1000000000 : Int64))), .second, .val (.long (0 : Int64)), .second, .val (.long (0 : Int64)), .second, .val (.long dd), .second, .val (.ref b116), .val (.int (0 : Int32)), .val (.int (1 : Int32))] [(.int (1 : Int32))]) := fun t kt => pre128 t (by
            show Steps p.tables e below (T122.setTop (mkF m 282 #[.val (.int pr), .val (.int ps), .val (.long pt), .second, .val (.long pd), .second, .val (.int pm), .val (.ref b2), .val (.long rr), .second, .val (.long ((ps &&& (1048575 : Int32)).toInt64)), .second, .val (.long (((ps &&& (1048575 : Int32)).toInt64) * (1000000000 : Int64))), .second, .val (.long (0 : Int64)), .second, .val (.long (0 : Int64)), .second, .val (.long dd), .second, .val (.ref b116), .val (.int (0 : Int32)), .val (.int (1 : Int32))] [(.int (lcmpW dd (0 : Int64))), (.int (0 : Int32))])) _
            refine XS.ifYes X122.here hx rfl (pc0 := 282) (pc' := 289) rfl (hb hby at_282) rfl ((if0 _ _).trans (tlt hc282_129).1) (by decide) (by decide) ?_
            show Steps p.tables e below (T122.setTop (mkF m 289 #[.val (.int pr), .val (.int ps), .val (.long pt), .second, .val (.long pd), .second, .val (.int pm), .val (.ref b2), .val (.long rr), .second, .val (.long ((ps &&& (1048575 : Int32)).toInt64)), .second, .val (.long (((ps &&& (1048575 : Int32)).toInt64) * (1000000000 : Int64))), .second, .val (.long (0 : Int64)), .second, .val (.long (0 : Int64)), .second, .val (.long dd), .second, .val (.ref b116), .val (.int (0 : Int32)), .val (.int (1 : Int32))] [(.int (0 : Int32))])) _
            refine XS.iconst X122.here hx rfl (hb hby at_289) ?_
            show Steps p.tables e below (T122.setTop (mkF m 290 #[.val (.int pr), .val (.int ps), .val (.long pt), .second, .val (.long pd), .second, .val (.int pm), .val (.ref b2), .val (.long rr), .second, .val (.long ((ps &&& (1048575 : Int32)).toInt64)), .second, .val (.long (((ps &&& (1048575 : Int32)).toInt64) * (1000000000 : Int64))), .second, .val (.long (0 : Int64)), .second, .val (.long (0 : Int64)), .second, .val (.long dd), .second, .val (.ref b116), .val (.int (0 : Int32)), .val (.int (1 : Int32))] [(.int (0 : Int32)), (.int (0 : Int32))])) _
            refine XS.icmpNo X122.here hx rfl (hb hby at_290) rfl (teq (by decide : (0 : Int32) = (0 : Int32))).2 ?_
            show Steps p.tables e below (T122.setTop (mkF m 293 #[.val (.int pr), .val (.int ps), .val (.long pt), .second, .val (.long pd), .second, .val (.int pm), .val (.ref b2), .val (.long rr), .second, .val (.long ((ps &&& (1048575 : Int32)).toInt64)), .second, .val (.long (((ps &&& (1048575 : Int32)).toInt64) * (1000000000 : Int64))), .second, .val (.long (0 : Int64)), .second, .val (.long (0 : Int64)), .second, .val (.long dd), .second, .val (.ref b116), .val (.int (0 : Int32)), .val (.int (1 : Int32))] [])) _
            refine XS.iconst X122.here hx rfl (hb hby at_293) ?_
            show Steps p.tables e below (T122.setTop (mkF m 294 #[.val (.int pr), .val (.int ps), .val (.long pt), .second, .val (.long pd), .second, .val (.int pm), .val (.ref b2), .val (.long rr), .second, .val (.long ((ps &&& (1048575 : Int32)).toInt64)), .second, .val (.long (((ps &&& (1048575 : Int32)).toInt64) * (1000000000 : Int64))), .second, .val (.long (0 : Int64)), .second, .val (.long (0 : Int64)), .second, .val (.long dd), .second, .val (.ref b116), .val (.int (0 : Int32)), .val (.int (1 : Int32))] [(.int (1 : Int32))])) _
            refine XS.goto X122.here hx rfl (pc0 := 294) (pc' := 298) rfl (hb hby at_294) (by decide) (by decide) ?_
            exact kt)
        obtain ⟨fs, hr, hrun, hended, hW, hsame⟩ := X122.leave (v := some (.int (1 : Int32))) (fun h => by rw [Bd.returns] at h; cases h) Bd.notSynchronized
        refine ⟨_, _, pre130 _ ?_, hrun, hended, _, _, rfl, ?_, ⟨_, rfl⟩, hW, hsame.mono (by decide) (by decide)⟩
        · show Steps p.tables e below (T122.setTop (mkF m 298 #[.val (.int pr), .val (.int ps), .val (.long pt), .second, .val (.long pd), .second, .val (.int pm), .val (.ref b2), .val (.long rr), .second, .val (.long ((ps &&& (1048575 : Int32)).toInt64)), .second, .val (.long (((ps &&& (1048575 : Int32)).toInt64) * (1000000000 : Int64))), .second, .val (.long (0 : Int64)), .second, .val (.long (0 : Int64)), .second, .val (.long dd), .second, .val (.ref b116), .val (.int (0 : Int32)), .val (.int (1 : Int32))] [(.int (1 : Int32))])) _
          exact retN X122 hx (t := .boolean) Bd.returns (by simp) (hb hby at_298) hr
        · show Q_own_rm0 Z pr ps pt pd pm h0 n0 _ T122.heap _
          rw [e122]
          exact ⟨rfl, N122⟩
      · -- no at pc 282: fftf
        have pre131 : Goes p e below s₁ (entryFrame m #[(.int pr), (.int ps), (.long pt), (.long pd), (.int pm)] maxLocals) T122 (mkF m 298 #[.val (.int pr), .val (.int ps), .val (.long pt), .second, .val (.long pd), .second, .val (.int pm), .val (.ref b2), .val (.long rr), .second, .val (.long ((ps &&& (1048575 : Int32)).toInt64)), .second, .val (.long (((ps &&& (1048575 : Int32)).toInt64) * (1000000000 : Int64))), .second, .val (.long (0 : Int64)), .second, .val (.long (0 : Int64)), .second, .val (.long dd), .second, .val (.ref b116), .val (.int (0 : Int32)), .val (.int (1 : Int32))] [(.int (0 : Int32))]) := fun t kt => pre128 t (by
            show Steps p.tables e below (T122.setTop (mkF m 282 #[.val (.int pr), .val (.int ps), .val (.long pt), .second, .val (.long pd), .second, .val (.int pm), .val (.ref b2), .val (.long rr), .second, .val (.long ((ps &&& (1048575 : Int32)).toInt64)), .second, .val (.long (((ps &&& (1048575 : Int32)).toInt64) * (1000000000 : Int64))), .second, .val (.long (0 : Int64)), .second, .val (.long (0 : Int64)), .second, .val (.long dd), .second, .val (.ref b116), .val (.int (0 : Int32)), .val (.int (1 : Int32))] [(.int (lcmpW dd (0 : Int64))), (.int (0 : Int32))])) _
            refine XS.ifNo X122.here hx rfl (hb hby at_282) rfl ((if0 _ _).trans (flt hc282_129).1) ?_
            show Steps p.tables e below (T122.setTop (mkF m 285 #[.val (.int pr), .val (.int ps), .val (.long pt), .second, .val (.long pd), .second, .val (.int pm), .val (.ref b2), .val (.long rr), .second, .val (.long ((ps &&& (1048575 : Int32)).toInt64)), .second, .val (.long (((ps &&& (1048575 : Int32)).toInt64) * (1000000000 : Int64))), .second, .val (.long (0 : Int64)), .second, .val (.long (0 : Int64)), .second, .val (.long dd), .second, .val (.ref b116), .val (.int (0 : Int32)), .val (.int (1 : Int32))] [(.int (0 : Int32))])) _
            refine XS.iconst X122.here hx rfl (hb hby at_285) ?_
            show Steps p.tables e below (T122.setTop (mkF m 286 #[.val (.int pr), .val (.int ps), .val (.long pt), .second, .val (.long pd), .second, .val (.int pm), .val (.ref b2), .val (.long rr), .second, .val (.long ((ps &&& (1048575 : Int32)).toInt64)), .second, .val (.long (((ps &&& (1048575 : Int32)).toInt64) * (1000000000 : Int64))), .second, .val (.long (0 : Int64)), .second, .val (.long (0 : Int64)), .second, .val (.long dd), .second, .val (.ref b116), .val (.int (0 : Int32)), .val (.int (1 : Int32))] [(.int (1 : Int32)), (.int (0 : Int32))])) _
            refine XS.goto X122.here hx rfl (pc0 := 286) (pc' := 290) rfl (hb hby at_286) (by decide) (by decide) ?_
            show Steps p.tables e below (T122.setTop (mkF m 290 #[.val (.int pr), .val (.int ps), .val (.long pt), .second, .val (.long pd), .second, .val (.int pm), .val (.ref b2), .val (.long rr), .second, .val (.long ((ps &&& (1048575 : Int32)).toInt64)), .second, .val (.long (((ps &&& (1048575 : Int32)).toInt64) * (1000000000 : Int64))), .second, .val (.long (0 : Int64)), .second, .val (.long (0 : Int64)), .second, .val (.long dd), .second, .val (.ref b116), .val (.int (0 : Int32)), .val (.int (1 : Int32))] [(.int (1 : Int32)), (.int (0 : Int32))])) _
            refine XS.icmpYes X122.here hx rfl (pc0 := 290) (pc' := 297) rfl (hb hby at_290) rfl (feq (by decide : ¬ ((0 : Int32) = (1 : Int32)))).2 (by decide) (by decide) ?_
            show Steps p.tables e below (T122.setTop (mkF m 297 #[.val (.int pr), .val (.int ps), .val (.long pt), .second, .val (.long pd), .second, .val (.int pm), .val (.ref b2), .val (.long rr), .second, .val (.long ((ps &&& (1048575 : Int32)).toInt64)), .second, .val (.long (((ps &&& (1048575 : Int32)).toInt64) * (1000000000 : Int64))), .second, .val (.long (0 : Int64)), .second, .val (.long (0 : Int64)), .second, .val (.long dd), .second, .val (.ref b116), .val (.int (0 : Int32)), .val (.int (1 : Int32))] [])) _
            refine XS.iconst X122.here hx rfl (hb hby at_297) ?_
            exact kt)
        obtain ⟨fs, hr, hrun, hended, hW, hsame⟩ := X122.leave (v := some (.int (0 : Int32))) (fun h => by rw [Bd.returns] at h; cases h) Bd.notSynchronized
        refine ⟨_, _, pre131 _ ?_, hrun, hended, _, _, rfl, ?_, ⟨_, rfl⟩, hW, hsame.mono (by decide) (by decide)⟩
        · show Steps p.tables e below (T122.setTop (mkF m 298 #[.val (.int pr), .val (.int ps), .val (.long pt), .second, .val (.long pd), .second, .val (.int pm), .val (.ref b2), .val (.long rr), .second, .val (.long ((ps &&& (1048575 : Int32)).toInt64)), .second, .val (.long (((ps &&& (1048575 : Int32)).toInt64) * (1000000000 : Int64))), .second, .val (.long (0 : Int64)), .second, .val (.long (0 : Int64)), .second, .val (.long dd), .second, .val (.ref b116), .val (.int (0 : Int32)), .val (.int (1 : Int32))] [(.int (0 : Int32))])) _
          exact retN X122 hx (t := .boolean) Bd.returns (by simp) (hb hby at_298) hr
        · show Q_own_rm0 Z pr ps pt pd pm h0 n0 _ T122.heap _
          rw [e122]
          exact (own_k0' (own_msk ps) hd hD hc282_129).elim
  · -- no at pc 153: 
    have hR1 : 1 ≤ rr.toInt ∧ rr.toInt < 1048576 := ⟨own_r1 hR.1 hc153_107, hR.2⟩
    have pre132 : Goes p e below s₁ (entryFrame m #[(.int pr), (.int ps), (.long pt), (.long pd), (.int pm)] maxLocals) T66 (mkF m 190 #[.val (.int pr), .val (.int ps), .val (.long pt), .second, .val (.long pd), .second, .val (.int pm), .val (.ref b2), .val (.long rr), .second, .val (.long ((ps &&& (1048575 : Int32)).toInt64)), .second, .val (.long (((ps &&& (1048575 : Int32)).toInt64) * (1000000000 : Int64))), .second, .val (.long ((((ps &&& (1048575 : Int32)).toInt64) * (1000000000 : Int64)) / rr)), .second, .val (.long ((((((ps &&& (1048575 : Int32)).toInt64) * (1000000000 : Int64)) + rr) - (1 : Int64)) / rr)), .second, .unset, .unset, .unset, .unset, .unset] []) := fun t kt => pre106 t (by
        show Steps p.tables e below (T66.setTop (mkF m 153 #[.val (.int pr), .val (.int ps), .val (.long pt), .second, .val (.long pd), .second, .val (.int pm), .val (.ref b2), .val (.long rr), .second, .val (.long ((ps &&& (1048575 : Int32)).toInt64)), .second, .val (.long (((ps &&& (1048575 : Int32)).toInt64) * (1000000000 : Int64))), .second, .unset, .unset, .unset, .unset, .unset, .unset, .unset, .unset, .unset] [(.int (lcmpW rr (0 : Int64)))])) _
        refine XS.ifYes X66.here hx rfl (pc0 := 153) (pc' := 160) rfl (hb hby at_153) rfl ((if0 _ _).trans (feq hc153_107).2) (by decide) (by decide) ?_
        show Steps p.tables e below (T66.setTop (mkF m 160 #[.val (.int pr), .val (.int ps), .val (.long pt), .second, .val (.long pd), .second, .val (.int pm), .val (.ref b2), .val (.long rr), .second, .val (.long ((ps &&& (1048575 : Int32)).toInt64)), .second, .val (.long (((ps &&& (1048575 : Int32)).toInt64) * (1000000000 : Int64))), .second, .unset, .unset, .unset, .unset, .unset, .unset, .unset, .unset, .unset] [])) _
        refine XS.lload X66.here hx rfl (hb hby at_160) rfl ?_
        show Steps p.tables e below (T66.setTop (mkF m 162 #[.val (.int pr), .val (.int ps), .val (.long pt), .second, .val (.long pd), .second, .val (.int pm), .val (.ref b2), .val (.long rr), .second, .val (.long ((ps &&& (1048575 : Int32)).toInt64)), .second, .val (.long (((ps &&& (1048575 : Int32)).toInt64) * (1000000000 : Int64))), .second, .unset, .unset, .unset, .unset, .unset, .unset, .unset, .unset, .unset] [(.long (((ps &&& (1048575 : Int32)).toInt64) * (1000000000 : Int64)))])) _
        refine XS.lload X66.here hx rfl (hb hby at_162) rfl ?_
        show Steps p.tables e below (T66.setTop (mkF m 164 #[.val (.int pr), .val (.int ps), .val (.long pt), .second, .val (.long pd), .second, .val (.int pm), .val (.ref b2), .val (.long rr), .second, .val (.long ((ps &&& (1048575 : Int32)).toInt64)), .second, .val (.long (((ps &&& (1048575 : Int32)).toInt64) * (1000000000 : Int64))), .second, .unset, .unset, .unset, .unset, .unset, .unset, .unset, .unset, .unset] [(.long rr), (.long (((ps &&& (1048575 : Int32)).toInt64) * (1000000000 : Int64)))])) _
        refine XS.ldiv X66.here hx rfl (hb hby at_164) rfl (own_nz hc153_107) ?_
        show Steps p.tables e below (T66.setTop (mkF m 165 #[.val (.int pr), .val (.int ps), .val (.long pt), .second, .val (.long pd), .second, .val (.int pm), .val (.ref b2), .val (.long rr), .second, .val (.long ((ps &&& (1048575 : Int32)).toInt64)), .second, .val (.long (((ps &&& (1048575 : Int32)).toInt64) * (1000000000 : Int64))), .second, .unset, .unset, .unset, .unset, .unset, .unset, .unset, .unset, .unset] [(.long ((((ps &&& (1048575 : Int32)).toInt64) * (1000000000 : Int64)) / rr))])) _
        refine XS.lstore X66.here hx rfl (hb hby at_165) rfl (l' := #[.val (.int pr), .val (.int ps), .val (.long pt), .second, .val (.long pd), .second, .val (.int pm), .val (.ref b2), .val (.long rr), .second, .val (.long ((ps &&& (1048575 : Int32)).toInt64)), .second, .val (.long (((ps &&& (1048575 : Int32)).toInt64) * (1000000000 : Int64))), .second, .val (.long ((((ps &&& (1048575 : Int32)).toInt64) * (1000000000 : Int64)) / rr)), .second, .unset, .unset, .unset, .unset, .unset, .unset, .unset]) rfl ?_
        show Steps p.tables e below (T66.setTop (mkF m 167 #[.val (.int pr), .val (.int ps), .val (.long pt), .second, .val (.long pd), .second, .val (.int pm), .val (.ref b2), .val (.long rr), .second, .val (.long ((ps &&& (1048575 : Int32)).toInt64)), .second, .val (.long (((ps &&& (1048575 : Int32)).toInt64) * (1000000000 : Int64))), .second, .val (.long ((((ps &&& (1048575 : Int32)).toInt64) * (1000000000 : Int64)) / rr)), .second, .unset, .unset, .unset, .unset, .unset, .unset, .unset] [])) _
        refine XS.lload X66.here hx rfl (hb hby at_167) rfl ?_
        show Steps p.tables e below (T66.setTop (mkF m 169 #[.val (.int pr), .val (.int ps), .val (.long pt), .second, .val (.long pd), .second, .val (.int pm), .val (.ref b2), .val (.long rr), .second, .val (.long ((ps &&& (1048575 : Int32)).toInt64)), .second, .val (.long (((ps &&& (1048575 : Int32)).toInt64) * (1000000000 : Int64))), .second, .val (.long ((((ps &&& (1048575 : Int32)).toInt64) * (1000000000 : Int64)) / rr)), .second, .unset, .unset, .unset, .unset, .unset, .unset, .unset] [(.long rr)])) _
        refine XS.lconst X66.here hx rfl (hb hby at_169) ?_
        show Steps p.tables e below (T66.setTop (mkF m 170 #[.val (.int pr), .val (.int ps), .val (.long pt), .second, .val (.long pd), .second, .val (.int pm), .val (.ref b2), .val (.long rr), .second, .val (.long ((ps &&& (1048575 : Int32)).toInt64)), .second, .val (.long (((ps &&& (1048575 : Int32)).toInt64) * (1000000000 : Int64))), .second, .val (.long ((((ps &&& (1048575 : Int32)).toInt64) * (1000000000 : Int64)) / rr)), .second, .unset, .unset, .unset, .unset, .unset, .unset, .unset] [(.long (0 : Int64)), (.long rr)])) _
        refine XS.lcmp X66.here hx rfl (hb hby at_170) rfl ?_
        show Steps p.tables e below (T66.setTop (mkF m 171 #[.val (.int pr), .val (.int ps), .val (.long pt), .second, .val (.long pd), .second, .val (.int pm), .val (.ref b2), .val (.long rr), .second, .val (.long ((ps &&& (1048575 : Int32)).toInt64)), .second, .val (.long (((ps &&& (1048575 : Int32)).toInt64) * (1000000000 : Int64))), .second, .val (.long ((((ps &&& (1048575 : Int32)).toInt64) * (1000000000 : Int64)) / rr)), .second, .unset, .unset, .unset, .unset, .unset, .unset, .unset] [(.int (lcmpW rr (0 : Int64)))])) _
        refine XS.ifYes X66.here hx rfl (pc0 := 171) (pc' := 178) rfl (hb hby at_171) rfl ((if0 _ _).trans (feq hc153_107).2) (by decide) (by decide) ?_
        show Steps p.tables e below (T66.setTop (mkF m 178 #[.val (.int pr), .val (.int ps), .val (.long pt), .second, .val (.long pd), .second, .val (.int pm), .val (.ref b2), .val (.long rr), .second, .val (.long ((ps &&& (1048575 : Int32)).toInt64)), .second, .val (.long (((ps &&& (1048575 : Int32)).toInt64) * (1000000000 : Int64))), .second, .val (.long ((((ps &&& (1048575 : Int32)).toInt64) * (1000000000 : Int64)) / rr)), .second, .unset, .unset, .unset, .unset, .unset, .unset, .unset] [])) _
        refine XS.lload X66.here hx rfl (hb hby at_178) rfl ?_
        show Steps p.tables e below (T66.setTop (mkF m 180 #[.val (.int pr), .val (.int ps), .val (.long pt), .second, .val (.long pd), .second, .val (.int pm), .val (.ref b2), .val (.long rr), .second, .val (.long ((ps &&& (1048575 : Int32)).toInt64)), .second, .val (.long (((ps &&& (1048575 : Int32)).toInt64) * (1000000000 : Int64))), .second, .val (.long ((((ps &&& (1048575 : Int32)).toInt64) * (1000000000 : Int64)) / rr)), .second, .unset, .unset, .unset, .unset, .unset, .unset, .unset] [(.long (((ps &&& (1048575 : Int32)).toInt64) * (1000000000 : Int64)))])) _
        refine XS.lload X66.here hx rfl (hb hby at_180) rfl ?_
        show Steps p.tables e below (T66.setTop (mkF m 182 #[.val (.int pr), .val (.int ps), .val (.long pt), .second, .val (.long pd), .second, .val (.int pm), .val (.ref b2), .val (.long rr), .second, .val (.long ((ps &&& (1048575 : Int32)).toInt64)), .second, .val (.long (((ps &&& (1048575 : Int32)).toInt64) * (1000000000 : Int64))), .second, .val (.long ((((ps &&& (1048575 : Int32)).toInt64) * (1000000000 : Int64)) / rr)), .second, .unset, .unset, .unset, .unset, .unset, .unset, .unset] [(.long rr), (.long (((ps &&& (1048575 : Int32)).toInt64) * (1000000000 : Int64)))])) _
        refine XS.ladd X66.here hx rfl (hb hby at_182) rfl ?_
        show Steps p.tables e below (T66.setTop (mkF m 183 #[.val (.int pr), .val (.int ps), .val (.long pt), .second, .val (.long pd), .second, .val (.int pm), .val (.ref b2), .val (.long rr), .second, .val (.long ((ps &&& (1048575 : Int32)).toInt64)), .second, .val (.long (((ps &&& (1048575 : Int32)).toInt64) * (1000000000 : Int64))), .second, .val (.long ((((ps &&& (1048575 : Int32)).toInt64) * (1000000000 : Int64)) / rr)), .second, .unset, .unset, .unset, .unset, .unset, .unset, .unset] [(.long ((((ps &&& (1048575 : Int32)).toInt64) * (1000000000 : Int64)) + rr))])) _
        refine XS.lconst X66.here hx rfl (hb hby at_183) ?_
        show Steps p.tables e below (T66.setTop (mkF m 184 #[.val (.int pr), .val (.int ps), .val (.long pt), .second, .val (.long pd), .second, .val (.int pm), .val (.ref b2), .val (.long rr), .second, .val (.long ((ps &&& (1048575 : Int32)).toInt64)), .second, .val (.long (((ps &&& (1048575 : Int32)).toInt64) * (1000000000 : Int64))), .second, .val (.long ((((ps &&& (1048575 : Int32)).toInt64) * (1000000000 : Int64)) / rr)), .second, .unset, .unset, .unset, .unset, .unset, .unset, .unset] [(.long (1 : Int64)), (.long ((((ps &&& (1048575 : Int32)).toInt64) * (1000000000 : Int64)) + rr))])) _
        refine XS.lsub X66.here hx rfl (hb hby at_184) rfl ?_
        show Steps p.tables e below (T66.setTop (mkF m 185 #[.val (.int pr), .val (.int ps), .val (.long pt), .second, .val (.long pd), .second, .val (.int pm), .val (.ref b2), .val (.long rr), .second, .val (.long ((ps &&& (1048575 : Int32)).toInt64)), .second, .val (.long (((ps &&& (1048575 : Int32)).toInt64) * (1000000000 : Int64))), .second, .val (.long ((((ps &&& (1048575 : Int32)).toInt64) * (1000000000 : Int64)) / rr)), .second, .unset, .unset, .unset, .unset, .unset, .unset, .unset] [(.long (((((ps &&& (1048575 : Int32)).toInt64) * (1000000000 : Int64)) + rr) - (1 : Int64)))])) _
        refine XS.lload X66.here hx rfl (hb hby at_185) rfl ?_
        show Steps p.tables e below (T66.setTop (mkF m 187 #[.val (.int pr), .val (.int ps), .val (.long pt), .second, .val (.long pd), .second, .val (.int pm), .val (.ref b2), .val (.long rr), .second, .val (.long ((ps &&& (1048575 : Int32)).toInt64)), .second, .val (.long (((ps &&& (1048575 : Int32)).toInt64) * (1000000000 : Int64))), .second, .val (.long ((((ps &&& (1048575 : Int32)).toInt64) * (1000000000 : Int64)) / rr)), .second, .unset, .unset, .unset, .unset, .unset, .unset, .unset] [(.long rr), (.long (((((ps &&& (1048575 : Int32)).toInt64) * (1000000000 : Int64)) + rr) - (1 : Int64)))])) _
        refine XS.ldiv X66.here hx rfl (hb hby at_187) rfl (own_nz hc153_107) ?_
        show Steps p.tables e below (T66.setTop (mkF m 188 #[.val (.int pr), .val (.int ps), .val (.long pt), .second, .val (.long pd), .second, .val (.int pm), .val (.ref b2), .val (.long rr), .second, .val (.long ((ps &&& (1048575 : Int32)).toInt64)), .second, .val (.long (((ps &&& (1048575 : Int32)).toInt64) * (1000000000 : Int64))), .second, .val (.long ((((ps &&& (1048575 : Int32)).toInt64) * (1000000000 : Int64)) / rr)), .second, .unset, .unset, .unset, .unset, .unset, .unset, .unset] [(.long ((((((ps &&& (1048575 : Int32)).toInt64) * (1000000000 : Int64)) + rr) - (1 : Int64)) / rr))])) _
        refine XS.lstore X66.here hx rfl (hb hby at_188) rfl (l' := #[.val (.int pr), .val (.int ps), .val (.long pt), .second, .val (.long pd), .second, .val (.int pm), .val (.ref b2), .val (.long rr), .second, .val (.long ((ps &&& (1048575 : Int32)).toInt64)), .second, .val (.long (((ps &&& (1048575 : Int32)).toInt64) * (1000000000 : Int64))), .second, .val (.long ((((ps &&& (1048575 : Int32)).toInt64) * (1000000000 : Int64)) / rr)), .second, .val (.long ((((((ps &&& (1048575 : Int32)).toInt64) * (1000000000 : Int64)) + rr) - (1 : Int64)) / rr)), .second, .unset, .unset, .unset, .unset, .unset]) rfl ?_
        exact kt)
    obtain ⟨dd, hd, pre134⟩ : ∃ (dd : Int64), (dd.toInt.natAbs < 2 ^ 53) ∧ Goes p e below s₁ (entryFrame m #[(.int pr), (.int ps), (.long pt), (.long pd), (.int pm)] maxLocals) T66 (mkF m 218 #[.val (.int pr), .val (.int ps), .val (.long pt), .second, .val (.long pd), .second, .val (.int pm), .val (.ref b2), .val (.long rr), .second, .val (.long ((ps &&& (1048575 : Int32)).toInt64)), .second, .val (.long (((ps &&& (1048575 : Int32)).toInt64) * (1000000000 : Int64))), .second, .val (.long ((((ps &&& (1048575 : Int32)).toInt64) * (1000000000 : Int64)) / rr)), .second, .val (.long ((((((ps &&& (1048575 : Int32)).toInt64) * (1000000000 : Int64)) + rr) - (1 : Int64)) / rr)), .second, .unset, .unset, .unset, .unset, .unset] [(.long dd)]) := by
      have pre135 : Goes p e below s₁ (entryFrame m #[(.int pr), (.int ps), (.long pt), (.long pd), (.int pm)] maxLocals) T66 (mkF m 194 #[.val (.int pr), .val (.int ps), .val (.long pt), .second, .val (.long pd), .second, .val (.int pm), .val (.ref b2), .val (.long rr), .second, .val (.long ((ps &&& (1048575 : Int32)).toInt64)), .second, .val (.long (((ps &&& (1048575 : Int32)).toInt64) * (1000000000 : Int64))), .second, .val (.long ((((ps &&& (1048575 : Int32)).toInt64) * (1000000000 : Int64)) / rr)), .second, .val (.long ((((((ps &&& (1048575 : Int32)).toInt64) * (1000000000 : Int64)) + rr) - (1 : Int64)) / rr)), .second, .unset, .unset, .unset, .unset, .unset] [(.int (pm &&& (2 : Int32)))]) := fun t kt => pre132 t (by
          show Steps p.tables e below (T66.setTop (mkF m 190 #[.val (.int pr), .val (.int ps), .val (.long pt), .second, .val (.long pd), .second, .val (.int pm), .val (.ref b2), .val (.long rr), .second, .val (.long ((ps &&& (1048575 : Int32)).toInt64)), .second, .val (.long (((ps &&& (1048575 : Int32)).toInt64) * (1000000000 : Int64))), .second, .val (.long ((((ps &&& (1048575 : Int32)).toInt64) * (1000000000 : Int64)) / rr)), .second, .val (.long ((((((ps &&& (1048575 : Int32)).toInt64) * (1000000000 : Int64)) + rr) - (1 : Int64)) / rr)), .second, .unset, .unset, .unset, .unset, .unset] [])) _
          refine XS.iload X66.here hx rfl (hb hby at_190) rfl ?_
          show Steps p.tables e below (T66.setTop (mkF m 192 #[.val (.int pr), .val (.int ps), .val (.long pt), .second, .val (.long pd), .second, .val (.int pm), .val (.ref b2), .val (.long rr), .second, .val (.long ((ps &&& (1048575 : Int32)).toInt64)), .second, .val (.long (((ps &&& (1048575 : Int32)).toInt64) * (1000000000 : Int64))), .second, .val (.long ((((ps &&& (1048575 : Int32)).toInt64) * (1000000000 : Int64)) / rr)), .second, .val (.long ((((((ps &&& (1048575 : Int32)).toInt64) * (1000000000 : Int64)) + rr) - (1 : Int64)) / rr)), .second, .unset, .unset, .unset, .unset, .unset] [(.int pm)])) _
          refine XS.iconst X66.here hx rfl (hb hby at_192) ?_
          show Steps p.tables e below (T66.setTop (mkF m 193 #[.val (.int pr), .val (.int ps), .val (.long pt), .second, .val (.long pd), .second, .val (.int pm), .val (.ref b2), .val (.long rr), .second, .val (.long ((ps &&& (1048575 : Int32)).toInt64)), .second, .val (.long (((ps &&& (1048575 : Int32)).toInt64) * (1000000000 : Int64))), .second, .val (.long ((((ps &&& (1048575 : Int32)).toInt64) * (1000000000 : Int64)) / rr)), .second, .val (.long ((((((ps &&& (1048575 : Int32)).toInt64) * (1000000000 : Int64)) + rr) - (1 : Int64)) / rr)), .second, .unset, .unset, .unset, .unset, .unset] [(.int (2 : Int32)), (.int pm)])) _
          refine XS.iand X66.here hx rfl (hb hby at_193) rfl ?_
          exact kt)
      by_cases hc194_136 : (pm &&& (2 : Int32)) = (0 : Int32)
      · -- yes at pc 194: tt
        have pre137 : Goes p e below s₁ (entryFrame m #[(.int pr), (.int ps), (.long pt), (.long pd), (.int pm)] maxLocals) T66 (mkF m 218 #[.val (.int pr), .val (.int ps), .val (.long pt), .second, .val (.long pd), .second, .val (.int pm), .val (.ref b2), .val (.long rr), .second, .val (.long ((ps &&& (1048575 : Int32)).toInt64)), .second, .val (.long (((ps &&& (1048575 : Int32)).toInt64) * (1000000000 : Int64))), .second, .val (.long ((((ps &&& (1048575 : Int32)).toInt64) * (1000000000 : Int64)) / rr)), .second, .val (.long ((((((ps &&& (1048575 : Int32)).toInt64) * (1000000000 : Int64)) + rr) - (1 : Int64)) / rr)), .second, .unset, .unset, .unset, .unset, .unset] [(.long ((((((((ps &&& (1048575 : Int32)).toInt64) * (1000000000 : Int64)) + rr) - (1 : Int64)) / rr) - (4 : Int64)) + (pd &&& (7 : Int64))))]) := fun t kt => pre135 t (by
            show Steps p.tables e below (T66.setTop (mkF m 194 #[.val (.int pr), .val (.int ps), .val (.long pt), .second, .val (.long pd), .second, .val (.int pm), .val (.ref b2), .val (.long rr), .second, .val (.long ((ps &&& (1048575 : Int32)).toInt64)), .second, .val (.long (((ps &&& (1048575 : Int32)).toInt64) * (1000000000 : Int64))), .second, .val (.long ((((ps &&& (1048575 : Int32)).toInt64) * (1000000000 : Int64)) / rr)), .second, .val (.long ((((((ps &&& (1048575 : Int32)).toInt64) * (1000000000 : Int64)) + rr) - (1 : Int64)) / rr)), .second, .unset, .unset, .unset, .unset, .unset] [(.int (pm &&& (2 : Int32)))])) _
            refine XS.ifNo X66.here hx rfl (hb hby at_194) rfl ((if0 _ _).trans (teq hc194_136).2) ?_
            show Steps p.tables e below (T66.setTop (mkF m 197 #[.val (.int pr), .val (.int ps), .val (.long pt), .second, .val (.long pd), .second, .val (.int pm), .val (.ref b2), .val (.long rr), .second, .val (.long ((ps &&& (1048575 : Int32)).toInt64)), .second, .val (.long (((ps &&& (1048575 : Int32)).toInt64) * (1000000000 : Int64))), .second, .val (.long ((((ps &&& (1048575 : Int32)).toInt64) * (1000000000 : Int64)) / rr)), .second, .val (.long ((((((ps &&& (1048575 : Int32)).toInt64) * (1000000000 : Int64)) + rr) - (1 : Int64)) / rr)), .second, .unset, .unset, .unset, .unset, .unset] [])) _
            refine XS.lload X66.here hx rfl (hb hby at_197) rfl ?_
            show Steps p.tables e below (T66.setTop (mkF m 199 #[.val (.int pr), .val (.int ps), .val (.long pt), .second, .val (.long pd), .second, .val (.int pm), .val (.ref b2), .val (.long rr), .second, .val (.long ((ps &&& (1048575 : Int32)).toInt64)), .second, .val (.long (((ps &&& (1048575 : Int32)).toInt64) * (1000000000 : Int64))), .second, .val (.long ((((ps &&& (1048575 : Int32)).toInt64) * (1000000000 : Int64)) / rr)), .second, .val (.long ((((((ps &&& (1048575 : Int32)).toInt64) * (1000000000 : Int64)) + rr) - (1 : Int64)) / rr)), .second, .unset, .unset, .unset, .unset, .unset] [(.long ((((((ps &&& (1048575 : Int32)).toInt64) * (1000000000 : Int64)) + rr) - (1 : Int64)) / rr))])) _
            refine X66.ldc2Long hx hown (mvT hZ (hw _ (List.mem_of_getElem? (i := 2) rfl))) (g := (mkF m 199 #[.val (.int pr), .val (.int ps), .val (.long pt), .second, .val (.long pd), .second, .val (.int pm), .val (.ref b2), .val (.long rr), .second, .val (.long ((ps &&& (1048575 : Int32)).toInt64)), .second, .val (.long (((ps &&& (1048575 : Int32)).toInt64) * (1000000000 : Int64))), .second, .val (.long ((((ps &&& (1048575 : Int32)).toInt64) * (1000000000 : Int64)) / rr)), .second, .val (.long ((((((ps &&& (1048575 : Int32)).toInt64) * (1000000000 : Int64)) + rr) - (1 : Int64)) / rr)), .second, .unset, .unset, .unset, .unset, .unset] [(.long ((((((ps &&& (1048575 : Int32)).toInt64) * (1000000000 : Int64)) + rr) - (1 : Int64)) / rr))])) rfl (hb hby at_199) _ ?_
            show Steps p.tables e below (T66.setTop (mkF m 202 #[.val (.int pr), .val (.int ps), .val (.long pt), .second, .val (.long pd), .second, .val (.int pm), .val (.ref b2), .val (.long rr), .second, .val (.long ((ps &&& (1048575 : Int32)).toInt64)), .second, .val (.long (((ps &&& (1048575 : Int32)).toInt64) * (1000000000 : Int64))), .second, .val (.long ((((ps &&& (1048575 : Int32)).toInt64) * (1000000000 : Int64)) / rr)), .second, .val (.long ((((((ps &&& (1048575 : Int32)).toInt64) * (1000000000 : Int64)) + rr) - (1 : Int64)) / rr)), .second, .unset, .unset, .unset, .unset, .unset] [(.long (4 : Int64)), (.long ((((((ps &&& (1048575 : Int32)).toInt64) * (1000000000 : Int64)) + rr) - (1 : Int64)) / rr))])) _
            refine XS.lsub X66.here hx rfl (hb hby at_202) rfl ?_
            show Steps p.tables e below (T66.setTop (mkF m 203 #[.val (.int pr), .val (.int ps), .val (.long pt), .second, .val (.long pd), .second, .val (.int pm), .val (.ref b2), .val (.long rr), .second, .val (.long ((ps &&& (1048575 : Int32)).toInt64)), .second, .val (.long (((ps &&& (1048575 : Int32)).toInt64) * (1000000000 : Int64))), .second, .val (.long ((((ps &&& (1048575 : Int32)).toInt64) * (1000000000 : Int64)) / rr)), .second, .val (.long ((((((ps &&& (1048575 : Int32)).toInt64) * (1000000000 : Int64)) + rr) - (1 : Int64)) / rr)), .second, .unset, .unset, .unset, .unset, .unset] [(.long (((((((ps &&& (1048575 : Int32)).toInt64) * (1000000000 : Int64)) + rr) - (1 : Int64)) / rr) - (4 : Int64)))])) _
            refine XS.lload X66.here hx rfl (hb hby at_203) rfl ?_
            show Steps p.tables e below (T66.setTop (mkF m 205 #[.val (.int pr), .val (.int ps), .val (.long pt), .second, .val (.long pd), .second, .val (.int pm), .val (.ref b2), .val (.long rr), .second, .val (.long ((ps &&& (1048575 : Int32)).toInt64)), .second, .val (.long (((ps &&& (1048575 : Int32)).toInt64) * (1000000000 : Int64))), .second, .val (.long ((((ps &&& (1048575 : Int32)).toInt64) * (1000000000 : Int64)) / rr)), .second, .val (.long ((((((ps &&& (1048575 : Int32)).toInt64) * (1000000000 : Int64)) + rr) - (1 : Int64)) / rr)), .second, .unset, .unset, .unset, .unset, .unset] [(.long pd), (.long (((((((ps &&& (1048575 : Int32)).toInt64) * (1000000000 : Int64)) + rr) - (1 : Int64)) / rr) - (4 : Int64)))])) _
            refine X66.ldc2Long hx hown (mvT hZ (hw _ (List.mem_of_getElem? (i := 35) rfl))) (g := (mkF m 205 #[.val (.int pr), .val (.int ps), .val (.long pt), .second, .val (.long pd), .second, .val (.int pm), .val (.ref b2), .val (.long rr), .second, .val (.long ((ps &&& (1048575 : Int32)).toInt64)), .second, .val (.long (((ps &&& (1048575 : Int32)).toInt64) * (1000000000 : Int64))), .second, .val (.long ((((ps &&& (1048575 : Int32)).toInt64) * (1000000000 : Int64)) / rr)), .second, .val (.long ((((((ps &&& (1048575 : Int32)).toInt64) * (1000000000 : Int64)) + rr) - (1 : Int64)) / rr)), .second, .unset, .unset, .unset, .unset, .unset] [(.long pd), (.long (((((((ps &&& (1048575 : Int32)).toInt64) * (1000000000 : Int64)) + rr) - (1 : Int64)) / rr) - (4 : Int64)))])) rfl (hb hby at_205) _ ?_
            show Steps p.tables e below (T66.setTop (mkF m 208 #[.val (.int pr), .val (.int ps), .val (.long pt), .second, .val (.long pd), .second, .val (.int pm), .val (.ref b2), .val (.long rr), .second, .val (.long ((ps &&& (1048575 : Int32)).toInt64)), .second, .val (.long (((ps &&& (1048575 : Int32)).toInt64) * (1000000000 : Int64))), .second, .val (.long ((((ps &&& (1048575 : Int32)).toInt64) * (1000000000 : Int64)) / rr)), .second, .val (.long ((((((ps &&& (1048575 : Int32)).toInt64) * (1000000000 : Int64)) + rr) - (1 : Int64)) / rr)), .second, .unset, .unset, .unset, .unset, .unset] [(.long (7 : Int64)), (.long pd), (.long (((((((ps &&& (1048575 : Int32)).toInt64) * (1000000000 : Int64)) + rr) - (1 : Int64)) / rr) - (4 : Int64)))])) _
            refine XS.land X66.here hx rfl (hb hby at_208) rfl ?_
            show Steps p.tables e below (T66.setTop (mkF m 209 #[.val (.int pr), .val (.int ps), .val (.long pt), .second, .val (.long pd), .second, .val (.int pm), .val (.ref b2), .val (.long rr), .second, .val (.long ((ps &&& (1048575 : Int32)).toInt64)), .second, .val (.long (((ps &&& (1048575 : Int32)).toInt64) * (1000000000 : Int64))), .second, .val (.long ((((ps &&& (1048575 : Int32)).toInt64) * (1000000000 : Int64)) / rr)), .second, .val (.long ((((((ps &&& (1048575 : Int32)).toInt64) * (1000000000 : Int64)) + rr) - (1 : Int64)) / rr)), .second, .unset, .unset, .unset, .unset, .unset] [(.long (pd &&& (7 : Int64))), (.long (((((((ps &&& (1048575 : Int32)).toInt64) * (1000000000 : Int64)) + rr) - (1 : Int64)) / rr) - (4 : Int64)))])) _
            refine XS.ladd X66.here hx rfl (hb hby at_209) rfl ?_
            show Steps p.tables e below (T66.setTop (mkF m 210 #[.val (.int pr), .val (.int ps), .val (.long pt), .second, .val (.long pd), .second, .val (.int pm), .val (.ref b2), .val (.long rr), .second, .val (.long ((ps &&& (1048575 : Int32)).toInt64)), .second, .val (.long (((ps &&& (1048575 : Int32)).toInt64) * (1000000000 : Int64))), .second, .val (.long ((((ps &&& (1048575 : Int32)).toInt64) * (1000000000 : Int64)) / rr)), .second, .val (.long ((((((ps &&& (1048575 : Int32)).toInt64) * (1000000000 : Int64)) + rr) - (1 : Int64)) / rr)), .second, .unset, .unset, .unset, .unset, .unset] [(.long ((((((((ps &&& (1048575 : Int32)).toInt64) * (1000000000 : Int64)) + rr) - (1 : Int64)) / rr) - (4 : Int64)) + (pd &&& (7 : Int64))))])) _
            refine XS.goto X66.here hx rfl (pc0 := 210) (pc' := 218) rfl (hb hby at_210) (by decide) (by decide) ?_
            exact kt)
        exact ⟨((((((((ps &&& (1048575 : Int32)).toInt64) * (1000000000 : Int64)) + rr) - (1 : Int64)) / rr) - (4 : Int64)) + (pd &&& (7 : Int64))), own_d1 (own_cel (own_msk ps) hR1).1, pre137⟩
      · -- no at pc 194: tt
        have pre138 : Goes p e below s₁ (entryFrame m #[(.int pr), (.int ps), (.long pt), (.long pd), (.int pm)] maxLocals) T66 (mkF m 218 #[.val (.int pr), .val (.int ps), .val (.long pt), .second, .val (.long pd), .second, .val (.int pm), .val (.ref b2), .val (.long rr), .second, .val (.long ((ps &&& (1048575 : Int32)).toInt64)), .second, .val (.long (((ps &&& (1048575 : Int32)).toInt64) * (1000000000 : Int64))), .second, .val (.long ((((ps &&& (1048575 : Int32)).toInt64) * (1000000000 : Int64)) / rr)), .second, .val (.long ((((((ps &&& (1048575 : Int32)).toInt64) * (1000000000 : Int64)) + rr) - (1 : Int64)) / rr)), .second, .unset, .unset, .unset, .unset, .unset] [(.long (pd >>> ((11 : Int32) &&& 0x3f).toInt64))]) := fun t kt => pre135 t (by
            show Steps p.tables e below (T66.setTop (mkF m 194 #[.val (.int pr), .val (.int ps), .val (.long pt), .second, .val (.long pd), .second, .val (.int pm), .val (.ref b2), .val (.long rr), .second, .val (.long ((ps &&& (1048575 : Int32)).toInt64)), .second, .val (.long (((ps &&& (1048575 : Int32)).toInt64) * (1000000000 : Int64))), .second, .val (.long ((((ps &&& (1048575 : Int32)).toInt64) * (1000000000 : Int64)) / rr)), .second, .val (.long ((((((ps &&& (1048575 : Int32)).toInt64) * (1000000000 : Int64)) + rr) - (1 : Int64)) / rr)), .second, .unset, .unset, .unset, .unset, .unset] [(.int (pm &&& (2 : Int32)))])) _
            refine XS.ifYes X66.here hx rfl (pc0 := 194) (pc' := 213) rfl (hb hby at_194) rfl ((if0 _ _).trans (feq hc194_136).2) (by decide) (by decide) ?_
            show Steps p.tables e below (T66.setTop (mkF m 213 #[.val (.int pr), .val (.int ps), .val (.long pt), .second, .val (.long pd), .second, .val (.int pm), .val (.ref b2), .val (.long rr), .second, .val (.long ((ps &&& (1048575 : Int32)).toInt64)), .second, .val (.long (((ps &&& (1048575 : Int32)).toInt64) * (1000000000 : Int64))), .second, .val (.long ((((ps &&& (1048575 : Int32)).toInt64) * (1000000000 : Int64)) / rr)), .second, .val (.long ((((((ps &&& (1048575 : Int32)).toInt64) * (1000000000 : Int64)) + rr) - (1 : Int64)) / rr)), .second, .unset, .unset, .unset, .unset, .unset] [])) _
            refine XS.lload X66.here hx rfl (hb hby at_213) rfl ?_
            show Steps p.tables e below (T66.setTop (mkF m 215 #[.val (.int pr), .val (.int ps), .val (.long pt), .second, .val (.long pd), .second, .val (.int pm), .val (.ref b2), .val (.long rr), .second, .val (.long ((ps &&& (1048575 : Int32)).toInt64)), .second, .val (.long (((ps &&& (1048575 : Int32)).toInt64) * (1000000000 : Int64))), .second, .val (.long ((((ps &&& (1048575 : Int32)).toInt64) * (1000000000 : Int64)) / rr)), .second, .val (.long ((((((ps &&& (1048575 : Int32)).toInt64) * (1000000000 : Int64)) + rr) - (1 : Int64)) / rr)), .second, .unset, .unset, .unset, .unset, .unset] [(.long pd)])) _
            refine XS.bipush X66.here hx rfl (hb hby at_215) ?_
            show Steps p.tables e below (T66.setTop (mkF m 217 #[.val (.int pr), .val (.int ps), .val (.long pt), .second, .val (.long pd), .second, .val (.int pm), .val (.ref b2), .val (.long rr), .second, .val (.long ((ps &&& (1048575 : Int32)).toInt64)), .second, .val (.long (((ps &&& (1048575 : Int32)).toInt64) * (1000000000 : Int64))), .second, .val (.long ((((ps &&& (1048575 : Int32)).toInt64) * (1000000000 : Int64)) / rr)), .second, .val (.long ((((((ps &&& (1048575 : Int32)).toInt64) * (1000000000 : Int64)) + rr) - (1 : Int64)) / rr)), .second, .unset, .unset, .unset, .unset, .unset] [(.int (11 : Int32)), (.long pd)])) _
            refine XS.lshr X66.here hx rfl (hb hby at_217) rfl ?_
            exact kt)
        exact ⟨(pd >>> ((11 : Int32) &&& 0x3f).toInt64), own_d2 pd, pre138⟩
    have pre139 : Goes p e below s₁ (entryFrame m #[(.int pr), (.int ps), (.long pt), (.long pd), (.int pm)] maxLocals) T66 (mkF m 220 #[.val (.int pr), .val (.int ps), .val (.long pt), .second, .val (.long pd), .second, .val (.int pm), .val (.ref b2), .val (.long rr), .second, .val (.long ((ps &&& (1048575 : Int32)).toInt64)), .second, .val (.long (((ps &&& (1048575 : Int32)).toInt64) * (1000000000 : Int64))), .second, .val (.long ((((ps &&& (1048575 : Int32)).toInt64) * (1000000000 : Int64)) / rr)), .second, .val (.long ((((((ps &&& (1048575 : Int32)).toInt64) * (1000000000 : Int64)) + rr) - (1 : Int64)) / rr)), .second, .val (.long dd), .second, .unset, .unset, .unset] []) := fun t kt => pre134 t (by
        show Steps p.tables e below (T66.setTop (mkF m 218 #[.val (.int pr), .val (.int ps), .val (.long pt), .second, .val (.long pd), .second, .val (.int pm), .val (.ref b2), .val (.long rr), .second, .val (.long ((ps &&& (1048575 : Int32)).toInt64)), .second, .val (.long (((ps &&& (1048575 : Int32)).toInt64) * (1000000000 : Int64))), .second, .val (.long ((((ps &&& (1048575 : Int32)).toInt64) * (1000000000 : Int64)) / rr)), .second, .val (.long ((((((ps &&& (1048575 : Int32)).toInt64) * (1000000000 : Int64)) + rr) - (1 : Int64)) / rr)), .second, .unset, .unset, .unset, .unset, .unset] [(.long dd)])) _
        refine XS.lstore X66.here hx rfl (hb hby at_218) rfl (l' := #[.val (.int pr), .val (.int ps), .val (.long pt), .second, .val (.long pd), .second, .val (.int pm), .val (.ref b2), .val (.long rr), .second, .val (.long ((ps &&& (1048575 : Int32)).toInt64)), .second, .val (.long (((ps &&& (1048575 : Int32)).toInt64) * (1000000000 : Int64))), .second, .val (.long ((((ps &&& (1048575 : Int32)).toInt64) * (1000000000 : Int64)) / rr)), .second, .val (.long ((((((ps &&& (1048575 : Int32)).toInt64) * (1000000000 : Int64)) + rr) - (1 : Int64)) / rr)), .second, .val (.long dd), .second, .unset, .unset, .unset]) rfl ?_
        exact kt)
    obtain ⟨T140, h140, X140, e140, E140, A140, DD140, -, st140⟩ := newO X66 hx hZ hown (hw _ (List.mem_of_getElem? (i := 17) rfl)) (hw _ (List.mem_of_getElem? (i := 18) rfl)) (hw _ (List.mem_of_getElem? (i := 19) rfl)) e66 (g := (mkF m 220 #[.val (.int pr), .val (.int ps), .val (.long pt), .second, .val (.long pd), .second, .val (.int pm), .val (.ref b2), .val (.long rr), .second, .val (.long ((ps &&& (1048575 : Int32)).toInt64)), .second, .val (.long (((ps &&& (1048575 : Int32)).toInt64) * (1000000000 : Int64))), .second, .val (.long ((((ps &&& (1048575 : Int32)).toInt64) * (1000000000 : Int64)) / rr)), .second, .val (.long ((((((ps &&& (1048575 : Int32)).toInt64) * (1000000000 : Int64)) + rr) - (1 : Int64)) / rr)), .second, .val (.long dd), .second, .unset, .unset, .unset] [])) rfl (hb hby at_220) (by decide) (by decide)
    obtain ⟨b140, g140⟩ : ∃ z, z = h66.size := ⟨_, rfl⟩
    rw [← g140] at A140 DD140 st140
    have F_startNs_b140 : Fld Z h140 b140 "com/example/ferry/ferry/Pacer" "startNs" "J" (.long (0 : Int64)) := DD140 (Or.inr (hw _ (List.mem_of_getElem? (i := 27) rfl))) (ty := .long) (by decide)
    have F_intervalNs_b140 : Fld Z h140 b140 "com/example/ferry/ferry/Pacer" "intervalNs" "D" (.double (0 : UInt64)) := DD140 (Or.inr (hw _ (List.mem_of_getElem? (i := 29) rfl))) (ty := .double) (by decide)
    have g_b140 : n0 ≤ b140 := Nat.le_trans (Nat.le_trans (Nat.le_trans (Nat.le_trans (Nat.le_trans (Nat.le_trans (Nat.le_trans (Nat.le_trans (Nat.le_trans (Nat.le_trans (Nat.le_trans (Nat.le_trans (Nat.le_trans (Nat.le_trans (Nat.le_trans (Nat.le_trans (Nat.le_trans (Nat.le_trans Z0 E2.1) (Keep.of_wr W6).1) (Keep.of_wr W10).1) (Keep.of_wr W14).1) (Keep.of_wr W18).1) (Keep.of_wr W22).1) (Keep.of_wr W26).1) (Keep.of_wr W30).1) (Keep.of_wr W34).1) (Keep.of_wr W38).1) (Keep.of_wr W42).1) (Keep.of_wr W46).1) (Keep.of_wr W50).1) (Keep.of_wr W54).1) (Keep.of_wr W58).1) (Keep.of_wr W62).1) (Keep.of_wr W66).1) (Nat.le_of_eq g140.symm)
    have sz_b140 : h0.size ≤ b140 := (Nat.le_trans K66.1 (Nat.le_of_eq g140.symm))
    have K140 : Keep h0 h140 [] := K66.ext E140
    have pre141 : Goes p e below s₁ (entryFrame m #[(.int pr), (.int ps), (.long pt), (.long pd), (.int pm)] maxLocals) T140 (mkF m 223 #[.val (.int pr), .val (.int ps), .val (.long pt), .second, .val (.long pd), .second, .val (.int pm), .val (.ref b2), .val (.long rr), .second, .val (.long ((ps &&& (1048575 : Int32)).toInt64)), .second, .val (.long (((ps &&& (1048575 : Int32)).toInt64) * (1000000000 : Int64))), .second, .val (.long ((((ps &&& (1048575 : Int32)).toInt64) * (1000000000 : Int64)) / rr)), .second, .val (.long ((((((ps &&& (1048575 : Int32)).toInt64) * (1000000000 : Int64)) + rr) - (1 : Int64)) / rr)), .second, .val (.long dd), .second, .unset, .unset, .unset] [(.ref b140)]) := fun t kt => pre139 t (st140 t kt)
    have pre142 : Goes p e below s₁ (entryFrame m #[(.int pr), (.int ps), (.long pt), (.long pd), (.int pm)] maxLocals) T140 (mkF m 227 #[.val (.int pr), .val (.int ps), .val (.long pt), .second, .val (.long pd), .second, .val (.int pm), .val (.ref b2), .val (.long rr), .second, .val (.long ((ps &&& (1048575 : Int32)).toInt64)), .second, .val (.long (((ps &&& (1048575 : Int32)).toInt64) * (1000000000 : Int64))), .second, .val (.long ((((ps &&& (1048575 : Int32)).toInt64) * (1000000000 : Int64)) / rr)), .second, .val (.long ((((((ps &&& (1048575 : Int32)).toInt64) * (1000000000 : Int64)) + rr) - (1 : Int64)) / rr)), .second, .val (.long dd), .second, .unset, .unset, .unset] [(.long pt), (.long rr), (.ref b140), (.ref b140)]) := fun t kt => pre141 t (by
        show Steps p.tables e below (T140.setTop (mkF m 223 #[.val (.int pr), .val (.int ps), .val (.long pt), .second, .val (.long pd), .second, .val (.int pm), .val (.ref b2), .val (.long rr), .second, .val (.long ((ps &&& (1048575 : Int32)).toInt64)), .second, .val (.long (((ps &&& (1048575 : Int32)).toInt64) * (1000000000 : Int64))), .second, .val (.long ((((ps &&& (1048575 : Int32)).toInt64) * (1000000000 : Int64)) / rr)), .second, .val (.long ((((((ps &&& (1048575 : Int32)).toInt64) * (1000000000 : Int64)) + rr) - (1 : Int64)) / rr)), .second, .val (.long dd), .second, .unset, .unset, .unset] [(.ref b140)])) _
        refine XS.dup X140.here hx rfl (hb hby at_223) rfl rfl ?_
        show Steps p.tables e below (T140.setTop (mkF m 224 #[.val (.int pr), .val (.int ps), .val (.long pt), .second, .val (.long pd), .second, .val (.int pm), .val (.ref b2), .val (.long rr), .second, .val (.long ((ps &&& (1048575 : Int32)).toInt64)), .second, .val (.long (((ps &&& (1048575 : Int32)).toInt64) * (1000000000 : Int64))), .second, .val (.long ((((ps &&& (1048575 : Int32)).toInt64) * (1000000000 : Int64)) / rr)), .second, .val (.long ((((((ps &&& (1048575 : Int32)).toInt64) * (1000000000 : Int64)) + rr) - (1 : Int64)) / rr)), .second, .val (.long dd), .second, .unset, .unset, .unset] [(.ref b140), (.ref b140)])) _
        refine XS.lload X140.here hx rfl (hb hby at_224) rfl ?_
        show Steps p.tables e below (T140.setTop (mkF m 226 #[.val (.int pr), .val (.int ps), .val (.long pt), .second, .val (.long pd), .second, .val (.int pm), .val (.ref b2), .val (.long rr), .second, .val (.long ((ps &&& (1048575 : Int32)).toInt64)), .second, .val (.long (((ps &&& (1048575 : Int32)).toInt64) * (1000000000 : Int64))), .second, .val (.long ((((ps &&& (1048575 : Int32)).toInt64) * (1000000000 : Int64)) / rr)), .second, .val (.long ((((((ps &&& (1048575 : Int32)).toInt64) * (1000000000 : Int64)) + rr) - (1 : Int64)) / rr)), .second, .val (.long dd), .second, .unset, .unset, .unset] [(.long rr), (.ref b140), (.ref b140)])) _
        refine XS.lloadN X140.here hx rfl (hb hby at_226) rfl ?_
        exact kt)
    obtain ⟨_, _, ⟨T143, L143, k143, n143⟩, -, X143, ⟨Lc143, hQ143, l143, y143, z143⟩, st143⟩ := X140.specialBack hx (y := (⟨"com/example/ferry/ferry/Pacer", "<init>", "(JJ)V"⟩ : MethodName)) rfl hown (mvT hZ (hw _ (List.mem_of_getElem? (i := 20) rfl))) (mvT hZ (hw _ (List.mem_of_getElem? (i := 21) rfl))) (mvT hZ (hw _ (List.mem_of_getElem? (i := 22) rfl))) (by decide) (backOf (W := 1) (own_init0 l Z a0 hw [] b140 rr pt h140 n0 (Nat.le_trans (Nat.le_trans (Nat.le_trans (Nat.le_trans (Nat.le_trans (Nat.le_trans (Nat.le_trans (Nat.le_trans (Nat.le_trans (Nat.le_trans (Nat.le_trans (Nat.le_trans (Nat.le_trans (Nat.le_trans (Nat.le_trans (Nat.le_trans (Nat.le_trans (Nat.le_trans Z0 E2.1) (Keep.of_wr W6).1) (Keep.of_wr W10).1) (Keep.of_wr W14).1) (Keep.of_wr W18).1) (Keep.of_wr W22).1) (Keep.of_wr W26).1) (Keep.of_wr W30).1) (Keep.of_wr W34).1) (Keep.of_wr W38).1) (Keep.of_wr W42).1) (Keep.of_wr W46).1) (Keep.of_wr W50).1) (Keep.of_wr W54).1) (Keep.of_wr W58).1) (Keep.of_wr W62).1) (Keep.of_wr W66).1) E140.1) A140 F_startNs_b140 F_intervalNs_b140 g_b140 (own_ge0 hR.1) hc153_107 (own_nnq hR1)) hZ (hw _ (List.mem_of_getElem? (i := 22) rfl)) (hw _ (List.mem_of_getElem? (i := 19) rfl)) (by decide) (by decide)) (g := (mkF m 227 #[.val (.int pr), .val (.int ps), .val (.long pt), .second, .val (.long pd), .second, .val (.int pm), .val (.ref b2), .val (.long rr), .second, .val (.long ((ps &&& (1048575 : Int32)).toInt64)), .second, .val (.long (((ps &&& (1048575 : Int32)).toInt64) * (1000000000 : Int64))), .second, .val (.long ((((ps &&& (1048575 : Int32)).toInt64) * (1000000000 : Int64)) / rr)), .second, .val (.long ((((((ps &&& (1048575 : Int32)).toInt64) * (1000000000 : Int64)) + rr) - (1 : Int64)) / rr)), .second, .val (.long dd), .second, .unset, .unset, .unset] [(.long pt), (.long rr), (.ref b140), (.ref b140)])) rfl (by rw [hml]; rfl) (Steps.refl _) (a := b140) (argsL := [(.long rr), (.long pt)]) (rest := [(.ref b140)]) (lenOf own_pd0 rfl) rfl (by show 2 * 0 + _ ≤ _; exact Nat.le_of_eq rfl) (hb hby at_227) (fun _ _ => ⟨rfl, e140, (by decide : 2 + 0 ≤ _), (by decide : 18 + 0 ≤ _)⟩)
    dsimp only [Pt.U, Pt.locs, Pt.cells, Pt.slots] at X143 l143 y143 z143 st143 hQ143
    subst l143 y143 z143
    obtain ⟨rfl, N143q, K143q, E143b, Fs143, Fi143⟩ := hQ143
    have N143 := Fr.app N66 N143q
    have KC143 : Keep h0 T143.heap [] := K140.trans K143q (allS (Or.inr sz_b140) all0)
    have pre144 : Goes p e below s₁ (entryFrame m #[(.int pr), (.int ps), (.long pt), (.long pd), (.int pm)] maxLocals) T143 (mkF m 230 #[.val (.int pr), .val (.int ps), .val (.long pt), .second, .val (.long pd), .second, .val (.int pm), .val (.ref b2), .val (.long rr), .second, .val (.long ((ps &&& (1048575 : Int32)).toInt64)), .second, .val (.long (((ps &&& (1048575 : Int32)).toInt64) * (1000000000 : Int64))), .second, .val (.long ((((ps &&& (1048575 : Int32)).toInt64) * (1000000000 : Int64)) / rr)), .second, .val (.long ((((((ps &&& (1048575 : Int32)).toInt64) * (1000000000 : Int64)) + rr) - (1 : Int64)) / rr)), .second, .val (.long dd), .second, .unset, .unset, .unset] [(.ref b140)]) := fun t kt => pre142 t (st143.trans kt)
    have pre145 : Goes p e below s₁ (entryFrame m #[(.int pr), (.int ps), (.long pt), (.long pd), (.int pm)] maxLocals) T143 (mkF m 240 #[.val (.int pr), .val (.int ps), .val (.long pt), .second, .val (.long pd), .second, .val (.int pm), .val (.ref b2), .val (.long rr), .second, .val (.long ((ps &&& (1048575 : Int32)).toInt64)), .second, .val (.long (((ps &&& (1048575 : Int32)).toInt64) * (1000000000 : Int64))), .second, .val (.long ((((ps &&& (1048575 : Int32)).toInt64) * (1000000000 : Int64)) / rr)), .second, .val (.long ((((((ps &&& (1048575 : Int32)).toInt64) * (1000000000 : Int64)) + rr) - (1 : Int64)) / rr)), .second, .val (.long dd), .second, .val (.ref b140), .unset, .unset] [(.long (pt + dd)), (.long ((ps &&& (1048575 : Int32)).toInt64)), (.ref b140)]) := fun t kt => pre144 t (by
        show Steps p.tables e below (T143.setTop (mkF m 230 #[.val (.int pr), .val (.int ps), .val (.long pt), .second, .val (.long pd), .second, .val (.int pm), .val (.ref b2), .val (.long rr), .second, .val (.long ((ps &&& (1048575 : Int32)).toInt64)), .second, .val (.long (((ps &&& (1048575 : Int32)).toInt64) * (1000000000 : Int64))), .second, .val (.long ((((ps &&& (1048575 : Int32)).toInt64) * (1000000000 : Int64)) / rr)), .second, .val (.long ((((((ps &&& (1048575 : Int32)).toInt64) * (1000000000 : Int64)) + rr) - (1 : Int64)) / rr)), .second, .val (.long dd), .second, .unset, .unset, .unset] [(.ref b140)])) _
        refine XS.astore X143.here hx rfl (hb hby at_230) rfl rfl (l' := #[.val (.int pr), .val (.int ps), .val (.long pt), .second, .val (.long pd), .second, .val (.int pm), .val (.ref b2), .val (.long rr), .second, .val (.long ((ps &&& (1048575 : Int32)).toInt64)), .second, .val (.long (((ps &&& (1048575 : Int32)).toInt64) * (1000000000 : Int64))), .second, .val (.long ((((ps &&& (1048575 : Int32)).toInt64) * (1000000000 : Int64)) / rr)), .second, .val (.long ((((((ps &&& (1048575 : Int32)).toInt64) * (1000000000 : Int64)) + rr) - (1 : Int64)) / rr)), .second, .val (.long dd), .second, .val (.ref b140), .unset, .unset]) rfl ?_
        show Steps p.tables e below (T143.setTop (mkF m 232 #[.val (.int pr), .val (.int ps), .val (.long pt), .second, .val (.long pd), .second, .val (.int pm), .val (.ref b2), .val (.long rr), .second, .val (.long ((ps &&& (1048575 : Int32)).toInt64)), .second, .val (.long (((ps &&& (1048575 : Int32)).toInt64) * (1000000000 : Int64))), .second, .val (.long ((((ps &&& (1048575 : Int32)).toInt64) * (1000000000 : Int64)) / rr)), .second, .val (.long ((((((ps &&& (1048575 : Int32)).toInt64) * (1000000000 : Int64)) + rr) - (1 : Int64)) / rr)), .second, .val (.long dd), .second, .val (.ref b140), .unset, .unset] [])) _
        refine XS.aload X143.here hx rfl (hb hby at_232) rfl rfl ?_
        show Steps p.tables e below (T143.setTop (mkF m 234 #[.val (.int pr), .val (.int ps), .val (.long pt), .second, .val (.long pd), .second, .val (.int pm), .val (.ref b2), .val (.long rr), .second, .val (.long ((ps &&& (1048575 : Int32)).toInt64)), .second, .val (.long (((ps &&& (1048575 : Int32)).toInt64) * (1000000000 : Int64))), .second, .val (.long ((((ps &&& (1048575 : Int32)).toInt64) * (1000000000 : Int64)) / rr)), .second, .val (.long ((((((ps &&& (1048575 : Int32)).toInt64) * (1000000000 : Int64)) + rr) - (1 : Int64)) / rr)), .second, .val (.long dd), .second, .val (.ref b140), .unset, .unset] [(.ref b140)])) _
        refine XS.lload X143.here hx rfl (hb hby at_234) rfl ?_
        show Steps p.tables e below (T143.setTop (mkF m 236 #[.val (.int pr), .val (.int ps), .val (.long pt), .second, .val (.long pd), .second, .val (.int pm), .val (.ref b2), .val (.long rr), .second, .val (.long ((ps &&& (1048575 : Int32)).toInt64)), .second, .val (.long (((ps &&& (1048575 : Int32)).toInt64) * (1000000000 : Int64))), .second, .val (.long ((((ps &&& (1048575 : Int32)).toInt64) * (1000000000 : Int64)) / rr)), .second, .val (.long ((((((ps &&& (1048575 : Int32)).toInt64) * (1000000000 : Int64)) + rr) - (1 : Int64)) / rr)), .second, .val (.long dd), .second, .val (.ref b140), .unset, .unset] [(.long ((ps &&& (1048575 : Int32)).toInt64)), (.ref b140)])) _
        refine XS.lloadN X143.here hx rfl (hb hby at_236) rfl ?_
        show Steps p.tables e below (T143.setTop (mkF m 237 #[.val (.int pr), .val (.int ps), .val (.long pt), .second, .val (.long pd), .second, .val (.int pm), .val (.ref b2), .val (.long rr), .second, .val (.long ((ps &&& (1048575 : Int32)).toInt64)), .second, .val (.long (((ps &&& (1048575 : Int32)).toInt64) * (1000000000 : Int64))), .second, .val (.long ((((ps &&& (1048575 : Int32)).toInt64) * (1000000000 : Int64)) / rr)), .second, .val (.long ((((((ps &&& (1048575 : Int32)).toInt64) * (1000000000 : Int64)) + rr) - (1 : Int64)) / rr)), .second, .val (.long dd), .second, .val (.ref b140), .unset, .unset] [(.long pt), (.long ((ps &&& (1048575 : Int32)).toInt64)), (.ref b140)])) _
        refine XS.lload X143.here hx rfl (hb hby at_237) rfl ?_
        show Steps p.tables e below (T143.setTop (mkF m 239 #[.val (.int pr), .val (.int ps), .val (.long pt), .second, .val (.long pd), .second, .val (.int pm), .val (.ref b2), .val (.long rr), .second, .val (.long ((ps &&& (1048575 : Int32)).toInt64)), .second, .val (.long (((ps &&& (1048575 : Int32)).toInt64) * (1000000000 : Int64))), .second, .val (.long ((((ps &&& (1048575 : Int32)).toInt64) * (1000000000 : Int64)) / rr)), .second, .val (.long ((((((ps &&& (1048575 : Int32)).toInt64) * (1000000000 : Int64)) + rr) - (1 : Int64)) / rr)), .second, .val (.long dd), .second, .val (.ref b140), .unset, .unset] [(.long dd), (.long pt), (.long ((ps &&& (1048575 : Int32)).toInt64)), (.ref b140)])) _
        refine XS.ladd X143.here hx rfl (hb hby at_239) rfl ?_
        exact kt)
    obtain ⟨cq146, kq146, q146a, q146b, q146c⟩ := isOf hZ rfl E143b
    obtain ⟨_, _, ⟨T146, L146, k146, n146⟩, -, X146, ⟨Lc146, hQ146, l146, y146, z146⟩, st146⟩ := X143.virtualBack hx (y := (⟨"com/example/ferry/ferry/Pacer", "isDue", "(JJ)Z"⟩ : MethodName)) (z := (⟨"com/example/ferry/ferry/Pacer", "isDue", "(JJ)Z"⟩ : MethodName)) hown (mvT hZ (hw _ (List.mem_of_getElem? (i := 30) rfl))) (mvT hZ (hw _ (List.mem_of_getElem? (i := 31) rfl))) (notFace_of_selects (args := #[]) (mvT hZ (hw _ (List.mem_of_getElem? (i := 33) rfl)))) (mvT hZ (hw _ (List.mem_of_getElem? (i := 33) rfl))) (mvT hZ (hw _ (List.mem_of_getElem? (i := 32) rfl))) (by decide) (backOf (W := 0) (own_isDue l Z a0 hw [] b140 ((ps &&& (1048575 : Int32)).toInt64) (pt + dd) pt (FP.ddiv (4741671816366391296 : UInt64) (FP.l2d rr)) dd T143.heap n0 (Nat.le_trans (Nat.le_trans (Nat.le_trans (Nat.le_trans (Nat.le_trans (Nat.le_trans (Nat.le_trans (Nat.le_trans (Nat.le_trans (Nat.le_trans (Nat.le_trans (Nat.le_trans (Nat.le_trans (Nat.le_trans (Nat.le_trans (Nat.le_trans (Nat.le_trans (Nat.le_trans (Nat.le_trans Z0 E2.1) (Keep.of_wr W6).1) (Keep.of_wr W10).1) (Keep.of_wr W14).1) (Keep.of_wr W18).1) (Keep.of_wr W22).1) (Keep.of_wr W26).1) (Keep.of_wr W30).1) (Keep.of_wr W34).1) (Keep.of_wr W38).1) (Keep.of_wr W42).1) (Keep.of_wr W46).1) (Keep.of_wr W50).1) (Keep.of_wr W54).1) (Keep.of_wr W58).1) (Keep.of_wr W62).1) (Keep.of_wr W66).1) E140.1) K143q.1) Fs143 Fi143 (own_bk pt dd) (own_nnp (own_msk ps) hR1)) hZ (hw _ (List.mem_of_getElem? (i := 34) rfl)) (hw _ (List.mem_of_getElem? (i := 19) rfl)) (by decide) (by decide)) q146a q146c (g := (mkF m 240 #[.val (.int pr), .val (.int ps), .val (.long pt), .second, .val (.long pd), .second, .val (.int pm), .val (.ref b2), .val (.long rr), .second, .val (.long ((ps &&& (1048575 : Int32)).toInt64)), .second, .val (.long (((ps &&& (1048575 : Int32)).toInt64) * (1000000000 : Int64))), .second, .val (.long ((((ps &&& (1048575 : Int32)).toInt64) * (1000000000 : Int64)) / rr)), .second, .val (.long ((((((ps &&& (1048575 : Int32)).toInt64) * (1000000000 : Int64)) + rr) - (1 : Int64)) / rr)), .second, .val (.long dd), .second, .val (.ref b140), .unset, .unset] [(.long (pt + dd)), (.long ((ps &&& (1048575 : Int32)).toInt64)), (.ref b140)])) rfl (by rw [hml]; rfl) (Steps.refl _) (argsL := [(.long ((ps &&& (1048575 : Int32)).toInt64)), (.long (pt + dd))]) (rest := []) (lenOf own_pd1 rfl) rfl (by show 2 * 0 + _ ≤ _; exact Nat.le_of_eq rfl) (hb hby at_240) (fun _ _ => ⟨rfl, rfl, (by decide : 2 + 0 ≤ _), (by decide : 18 + 0 ≤ _)⟩)
    dsimp only [Pt.U, Pt.locs, Pt.cells, Pt.slots] at X146 l146 y146 z146 st146 hQ146
    subst l146 y146 z146
    obtain ⟨z146, rfl, hz146, N146q, e146⟩ := hQ146
    have N146 := Fr.app N143 N146q
    have pre147 : Goes p e below s₁ (entryFrame m #[(.int pr), (.int ps), (.long pt), (.long pd), (.int pm)] maxLocals) T146 (mkF m 243 #[.val (.int pr), .val (.int ps), .val (.long pt), .second, .val (.long pd), .second, .val (.int pm), .val (.ref b2), .val (.long rr), .second, .val (.long ((ps &&& (1048575 : Int32)).toInt64)), .second, .val (.long (((ps &&& (1048575 : Int32)).toInt64) * (1000000000 : Int64))), .second, .val (.long ((((ps &&& (1048575 : Int32)).toInt64) * (1000000000 : Int64)) / rr)), .second, .val (.long ((((((ps &&& (1048575 : Int32)).toInt64) * (1000000000 : Int64)) + rr) - (1 : Int64)) / rr)), .second, .val (.long dd), .second, .val (.ref b140), .unset, .unset] [(.int z146)]) := fun t kt => pre145 t (st146.trans kt)
    rcases hz146 with ⟨rfl, hD⟩ | ⟨rfl, hD⟩
    · -- due 1
      have pre148 : Goes p e below s₁ (entryFrame m #[(.int pr), (.int ps), (.long pt), (.long pd), (.int pm)] maxLocals) T146 (mkF m 260 #[.val (.int pr), .val (.int ps), .val (.long pt), .second, .val (.long pd), .second, .val (.int pm), .val (.ref b2), .val (.long rr), .second, .val (.long ((ps &&& (1048575 : Int32)).toInt64)), .second, .val (.long (((ps &&& (1048575 : Int32)).toInt64) * (1000000000 : Int64))), .second, .val (.long ((((ps &&& (1048575 : Int32)).toInt64) * (1000000000 : Int64)) / rr)), .second, .val (.long ((((((ps &&& (1048575 : Int32)).toInt64) * (1000000000 : Int64)) + rr) - (1 : Int64)) / rr)), .second, .val (.long dd), .second, .val (.ref b140), .val (.int (1 : Int32)), .unset] [(.int (lcmpW ((1000000000 : Int64) - ((1000000000 : Int64) / rr) * rr) (0 : Int64)))]) := fun t kt => pre147 t (by
          show Steps p.tables e below (T146.setTop (mkF m 243 #[.val (.int pr), .val (.int ps), .val (.long pt), .second, .val (.long pd), .second, .val (.int pm), .val (.ref b2), .val (.long rr), .second, .val (.long ((ps &&& (1048575 : Int32)).toInt64)), .second, .val (.long (((ps &&& (1048575 : Int32)).toInt64) * (1000000000 : Int64))), .second, .val (.long ((((ps &&& (1048575 : Int32)).toInt64) * (1000000000 : Int64)) / rr)), .second, .val (.long ((((((ps &&& (1048575 : Int32)).toInt64) * (1000000000 : Int64)) + rr) - (1 : Int64)) / rr)), .second, .val (.long dd), .second, .val (.ref b140), .unset, .unset] [(.int (1 : Int32))])) _
          refine XS.istore X146.here hx rfl (hb hby at_243) rfl (l' := #[.val (.int pr), .val (.int ps), .val (.long pt), .second, .val (.long pd), .second, .val (.int pm), .val (.ref b2), .val (.long rr), .second, .val (.long ((ps &&& (1048575 : Int32)).toInt64)), .second, .val (.long (((ps &&& (1048575 : Int32)).toInt64) * (1000000000 : Int64))), .second, .val (.long ((((ps &&& (1048575 : Int32)).toInt64) * (1000000000 : Int64)) / rr)), .second, .val (.long ((((((ps &&& (1048575 : Int32)).toInt64) * (1000000000 : Int64)) + rr) - (1 : Int64)) / rr)), .second, .val (.long dd), .second, .val (.ref b140), .val (.int (1 : Int32)), .unset]) rfl ?_
          show Steps p.tables e below (T146.setTop (mkF m 245 #[.val (.int pr), .val (.int ps), .val (.long pt), .second, .val (.long pd), .second, .val (.int pm), .val (.ref b2), .val (.long rr), .second, .val (.long ((ps &&& (1048575 : Int32)).toInt64)), .second, .val (.long (((ps &&& (1048575 : Int32)).toInt64) * (1000000000 : Int64))), .second, .val (.long ((((ps &&& (1048575 : Int32)).toInt64) * (1000000000 : Int64)) / rr)), .second, .val (.long ((((((ps &&& (1048575 : Int32)).toInt64) * (1000000000 : Int64)) + rr) - (1 : Int64)) / rr)), .second, .val (.long dd), .second, .val (.ref b140), .val (.int (1 : Int32)), .unset] [])) _
          refine XS.lload X146.here hx rfl (hb hby at_245) rfl ?_
          show Steps p.tables e below (T146.setTop (mkF m 247 #[.val (.int pr), .val (.int ps), .val (.long pt), .second, .val (.long pd), .second, .val (.int pm), .val (.ref b2), .val (.long rr), .second, .val (.long ((ps &&& (1048575 : Int32)).toInt64)), .second, .val (.long (((ps &&& (1048575 : Int32)).toInt64) * (1000000000 : Int64))), .second, .val (.long ((((ps &&& (1048575 : Int32)).toInt64) * (1000000000 : Int64)) / rr)), .second, .val (.long ((((((ps &&& (1048575 : Int32)).toInt64) * (1000000000 : Int64)) + rr) - (1 : Int64)) / rr)), .second, .val (.long dd), .second, .val (.ref b140), .val (.int (1 : Int32)), .unset] [(.long rr)])) _
          refine XS.lconst X146.here hx rfl (hb hby at_247) ?_
          show Steps p.tables e below (T146.setTop (mkF m 248 #[.val (.int pr), .val (.int ps), .val (.long pt), .second, .val (.long pd), .second, .val (.int pm), .val (.ref b2), .val (.long rr), .second, .val (.long ((ps &&& (1048575 : Int32)).toInt64)), .second, .val (.long (((ps &&& (1048575 : Int32)).toInt64) * (1000000000 : Int64))), .second, .val (.long ((((ps &&& (1048575 : Int32)).toInt64) * (1000000000 : Int64)) / rr)), .second, .val (.long ((((((ps &&& (1048575 : Int32)).toInt64) * (1000000000 : Int64)) + rr) - (1 : Int64)) / rr)), .second, .val (.long dd), .second, .val (.ref b140), .val (.int (1 : Int32)), .unset] [(.long (0 : Int64)), (.long rr)])) _
          refine XS.lcmp X146.here hx rfl (hb hby at_248) rfl ?_
          show Steps p.tables e below (T146.setTop (mkF m 249 #[.val (.int pr), .val (.int ps), .val (.long pt), .second, .val (.long pd), .second, .val (.int pm), .val (.ref b2), .val (.long rr), .second, .val (.long ((ps &&& (1048575 : Int32)).toInt64)), .second, .val (.long (((ps &&& (1048575 : Int32)).toInt64) * (1000000000 : Int64))), .second, .val (.long ((((ps &&& (1048575 : Int32)).toInt64) * (1000000000 : Int64)) / rr)), .second, .val (.long ((((((ps &&& (1048575 : Int32)).toInt64) * (1000000000 : Int64)) + rr) - (1 : Int64)) / rr)), .second, .val (.long dd), .second, .val (.ref b140), .val (.int (1 : Int32)), .unset] [(.int (lcmpW rr (0 : Int64)))])) _
          refine XS.ifNo X146.here hx rfl (hb hby at_249) rfl ((if0 _ _).trans (feq hc153_107).1) ?_
          show Steps p.tables e below (T146.setTop (mkF m 252 #[.val (.int pr), .val (.int ps), .val (.long pt), .second, .val (.long pd), .second, .val (.int pm), .val (.ref b2), .val (.long rr), .second, .val (.long ((ps &&& (1048575 : Int32)).toInt64)), .second, .val (.long (((ps &&& (1048575 : Int32)).toInt64) * (1000000000 : Int64))), .second, .val (.long ((((ps &&& (1048575 : Int32)).toInt64) * (1000000000 : Int64)) / rr)), .second, .val (.long ((((((ps &&& (1048575 : Int32)).toInt64) * (1000000000 : Int64)) + rr) - (1 : Int64)) / rr)), .second, .val (.long dd), .second, .val (.ref b140), .val (.int (1 : Int32)), .unset] [])) _
          refine X146.ldc2Long hx hown (mvT hZ (hw _ (List.mem_of_getElem? (i := 16) rfl))) (g := (mkF m 252 #[.val (.int pr), .val (.int ps), .val (.long pt), .second, .val (.long pd), .second, .val (.int pm), .val (.ref b2), .val (.long rr), .second, .val (.long ((ps &&& (1048575 : Int32)).toInt64)), .second, .val (.long (((ps &&& (1048575 : Int32)).toInt64) * (1000000000 : Int64))), .second, .val (.long ((((ps &&& (1048575 : Int32)).toInt64) * (1000000000 : Int64)) / rr)), .second, .val (.long ((((((ps &&& (1048575 : Int32)).toInt64) * (1000000000 : Int64)) + rr) - (1 : Int64)) / rr)), .second, .val (.long dd), .second, .val (.ref b140), .val (.int (1 : Int32)), .unset] [])) rfl (hb hby at_252) _ ?_
          show Steps p.tables e below (T146.setTop (mkF m 255 #[.val (.int pr), .val (.int ps), .val (.long pt), .second, .val (.long pd), .second, .val (.int pm), .val (.ref b2), .val (.long rr), .second, .val (.long ((ps &&& (1048575 : Int32)).toInt64)), .second, .val (.long (((ps &&& (1048575 : Int32)).toInt64) * (1000000000 : Int64))), .second, .val (.long ((((ps &&& (1048575 : Int32)).toInt64) * (1000000000 : Int64)) / rr)), .second, .val (.long ((((((ps &&& (1048575 : Int32)).toInt64) * (1000000000 : Int64)) + rr) - (1 : Int64)) / rr)), .second, .val (.long dd), .second, .val (.ref b140), .val (.int (1 : Int32)), .unset] [(.long (1000000000 : Int64))])) _
          refine XS.lload X146.here hx rfl (hb hby at_255) rfl ?_
          show Steps p.tables e below (T146.setTop (mkF m 257 #[.val (.int pr), .val (.int ps), .val (.long pt), .second, .val (.long pd), .second, .val (.int pm), .val (.ref b2), .val (.long rr), .second, .val (.long ((ps &&& (1048575 : Int32)).toInt64)), .second, .val (.long (((ps &&& (1048575 : Int32)).toInt64) * (1000000000 : Int64))), .second, .val (.long ((((ps &&& (1048575 : Int32)).toInt64) * (1000000000 : Int64)) / rr)), .second, .val (.long ((((((ps &&& (1048575 : Int32)).toInt64) * (1000000000 : Int64)) + rr) - (1 : Int64)) / rr)), .second, .val (.long dd), .second, .val (.ref b140), .val (.int (1 : Int32)), .unset] [(.long rr), (.long (1000000000 : Int64))])) _
          refine XS.lrem X146.here hx rfl (hb hby at_257) rfl (own_nz hc153_107) ?_
          show Steps p.tables e below (T146.setTop (mkF m 258 #[.val (.int pr), .val (.int ps), .val (.long pt), .second, .val (.long pd), .second, .val (.int pm), .val (.ref b2), .val (.long rr), .second, .val (.long ((ps &&& (1048575 : Int32)).toInt64)), .second, .val (.long (((ps &&& (1048575 : Int32)).toInt64) * (1000000000 : Int64))), .second, .val (.long ((((ps &&& (1048575 : Int32)).toInt64) * (1000000000 : Int64)) / rr)), .second, .val (.long ((((((ps &&& (1048575 : Int32)).toInt64) * (1000000000 : Int64)) + rr) - (1 : Int64)) / rr)), .second, .val (.long dd), .second, .val (.ref b140), .val (.int (1 : Int32)), .unset] [(.long ((1000000000 : Int64) - ((1000000000 : Int64) / rr) * rr))])) _
          refine XS.lconst X146.here hx rfl (hb hby at_258) ?_
          show Steps p.tables e below (T146.setTop (mkF m 259 #[.val (.int pr), .val (.int ps), .val (.long pt), .second, .val (.long pd), .second, .val (.int pm), .val (.ref b2), .val (.long rr), .second, .val (.long ((ps &&& (1048575 : Int32)).toInt64)), .second, .val (.long (((ps &&& (1048575 : Int32)).toInt64) * (1000000000 : Int64))), .second, .val (.long ((((ps &&& (1048575 : Int32)).toInt64) * (1000000000 : Int64)) / rr)), .second, .val (.long ((((((ps &&& (1048575 : Int32)).toInt64) * (1000000000 : Int64)) + rr) - (1 : Int64)) / rr)), .second, .val (.long dd), .second, .val (.ref b140), .val (.int (1 : Int32)), .unset] [(.long (0 : Int64)), (.long ((1000000000 : Int64) - ((1000000000 : Int64) / rr) * rr))])) _
          refine XS.lcmp X146.here hx rfl (hb hby at_259) rfl ?_
          exact kt)
      by_cases hc260_149 : (lcmpW ((1000000000 : Int64) - ((1000000000 : Int64) / rr) * rr) (0 : Int64)) = (0 : Int32)
      · -- yes at pc 260: ttf
        have pre150 : Goes p e below s₁ (entryFrame m #[(.int pr), (.int ps), (.long pt), (.long pd), (.int pm)] maxLocals) T146 (mkF m 282 #[.val (.int pr), .val (.int ps), .val (.long pt), .second, .val (.long pd), .second, .val (.int pm), .val (.ref b2), .val (.long rr), .second, .val (.long ((ps &&& (1048575 : Int32)).toInt64)), .second, .val (.long (((ps &&& (1048575 : Int32)).toInt64) * (1000000000 : Int64))), .second, .val (.long ((((ps &&& (1048575 : Int32)).toInt64) * (1000000000 : Int64)) / rr)), .second, .val (.long ((((((ps &&& (1048575 : Int32)).toInt64) * (1000000000 : Int64)) + rr) - (1 : Int64)) / rr)), .second, .val (.long dd), .second, .val (.ref b140), .val (.int (1 : Int32)), .val (.int (1 : Int32))] [(.int (lcmpW dd ((((((ps &&& (1048575 : Int32)).toInt64) * (1000000000 : Int64)) + rr) - (1 : Int64)) / rr))), (.int (1 : Int32))]) := fun t kt => pre148 t (by
            show Steps p.tables e below (T146.setTop (mkF m 260 #[.val (.int pr), .val (.int ps), .val (.long pt), .second, .val (.long pd), .second, .val (.int pm), .val (.ref b2), .val (.long rr), .second, .val (.long ((ps &&& (1048575 : Int32)).toInt64)), .second, .val (.long (((ps &&& (1048575 : Int32)).toInt64) * (1000000000 : Int64))), .second, .val (.long ((((ps &&& (1048575 : Int32)).toInt64) * (1000000000 : Int64)) / rr)), .second, .val (.long ((((((ps &&& (1048575 : Int32)).toInt64) * (1000000000 : Int64)) + rr) - (1 : Int64)) / rr)), .second, .val (.long dd), .second, .val (.ref b140), .val (.int (1 : Int32)), .unset] [(.int (lcmpW ((1000000000 : Int64) - ((1000000000 : Int64) / rr) * rr) (0 : Int64)))])) _
            refine XS.ifNo X146.here hx rfl (hb hby at_260) rfl ((if0 _ _).trans (teq hc260_149).2) ?_
            show Steps p.tables e below (T146.setTop (mkF m 263 #[.val (.int pr), .val (.int ps), .val (.long pt), .second, .val (.long pd), .second, .val (.int pm), .val (.ref b2), .val (.long rr), .second, .val (.long ((ps &&& (1048575 : Int32)).toInt64)), .second, .val (.long (((ps &&& (1048575 : Int32)).toInt64) * (1000000000 : Int64))), .second, .val (.long ((((ps &&& (1048575 : Int32)).toInt64) * (1000000000 : Int64)) / rr)), .second, .val (.long ((((((ps &&& (1048575 : Int32)).toInt64) * (1000000000 : Int64)) + rr) - (1 : Int64)) / rr)), .second, .val (.long dd), .second, .val (.ref b140), .val (.int (1 : Int32)), .unset] [])) _
            refine XS.iconst X146.here hx rfl (hb hby at_263) ?_
            show Steps p.tables e below (T146.setTop (mkF m 264 #[.val (.int pr), .val (.int ps), .val (.long pt), .second, .val (.long pd), .second, .val (.int pm), .val (.ref b2), .val (.long rr), .second, .val (.long ((ps &&& (1048575 : Int32)).toInt64)), .second, .val (.long (((ps &&& (1048575 : Int32)).toInt64) * (1000000000 : Int64))), .second, .val (.long ((((ps &&& (1048575 : Int32)).toInt64) * (1000000000 : Int64)) / rr)), .second, .val (.long ((((((ps &&& (1048575 : Int32)).toInt64) * (1000000000 : Int64)) + rr) - (1 : Int64)) / rr)), .second, .val (.long dd), .second, .val (.ref b140), .val (.int (1 : Int32)), .unset] [(.int (1 : Int32))])) _
            refine XS.goto X146.here hx rfl (pc0 := 264) (pc' := 268) rfl (hb hby at_264) (by decide) (by decide) ?_
            show Steps p.tables e below (T146.setTop (mkF m 268 #[.val (.int pr), .val (.int ps), .val (.long pt), .second, .val (.long pd), .second, .val (.int pm), .val (.ref b2), .val (.long rr), .second, .val (.long ((ps &&& (1048575 : Int32)).toInt64)), .second, .val (.long (((ps &&& (1048575 : Int32)).toInt64) * (1000000000 : Int64))), .second, .val (.long ((((ps &&& (1048575 : Int32)).toInt64) * (1000000000 : Int64)) / rr)), .second, .val (.long ((((((ps &&& (1048575 : Int32)).toInt64) * (1000000000 : Int64)) + rr) - (1 : Int64)) / rr)), .second, .val (.long dd), .second, .val (.ref b140), .val (.int (1 : Int32)), .unset] [(.int (1 : Int32))])) _
            refine XS.istore X146.here hx rfl (hb hby at_268) rfl (l' := #[.val (.int pr), .val (.int ps), .val (.long pt), .second, .val (.long pd), .second, .val (.int pm), .val (.ref b2), .val (.long rr), .second, .val (.long ((ps &&& (1048575 : Int32)).toInt64)), .second, .val (.long (((ps &&& (1048575 : Int32)).toInt64) * (1000000000 : Int64))), .second, .val (.long ((((ps &&& (1048575 : Int32)).toInt64) * (1000000000 : Int64)) / rr)), .second, .val (.long ((((((ps &&& (1048575 : Int32)).toInt64) * (1000000000 : Int64)) + rr) - (1 : Int64)) / rr)), .second, .val (.long dd), .second, .val (.ref b140), .val (.int (1 : Int32)), .val (.int (1 : Int32))]) rfl ?_
            show Steps p.tables e below (T146.setTop (mkF m 270 #[.val (.int pr), .val (.int ps), .val (.long pt), .second, .val (.long pd), .second, .val (.int pm), .val (.ref b2), .val (.long rr), .second, .val (.long ((ps &&& (1048575 : Int32)).toInt64)), .second, .val (.long (((ps &&& (1048575 : Int32)).toInt64) * (1000000000 : Int64))), .second, .val (.long ((((ps &&& (1048575 : Int32)).toInt64) * (1000000000 : Int64)) / rr)), .second, .val (.long ((((((ps &&& (1048575 : Int32)).toInt64) * (1000000000 : Int64)) + rr) - (1 : Int64)) / rr)), .second, .val (.long dd), .second, .val (.ref b140), .val (.int (1 : Int32)), .val (.int (1 : Int32))] [])) _
            refine XS.iload X146.here hx rfl (hb hby at_270) rfl ?_
            show Steps p.tables e below (T146.setTop (mkF m 272 #[.val (.int pr), .val (.int ps), .val (.long pt), .second, .val (.long pd), .second, .val (.int pm), .val (.ref b2), .val (.long rr), .second, .val (.long ((ps &&& (1048575 : Int32)).toInt64)), .second, .val (.long (((ps &&& (1048575 : Int32)).toInt64) * (1000000000 : Int64))), .second, .val (.long ((((ps &&& (1048575 : Int32)).toInt64) * (1000000000 : Int64)) / rr)), .second, .val (.long ((((((ps &&& (1048575 : Int32)).toInt64) * (1000000000 : Int64)) + rr) - (1 : Int64)) / rr)), .second, .val (.long dd), .second, .val (.ref b140), .val (.int (1 : Int32)), .val (.int (1 : Int32))] [(.int (1 : Int32))])) _
            refine XS.ifNo X146.here hx rfl (hb hby at_272) rfl ((if0 _ _).trans (feq (by decide : ¬ ((1 : Int32) = (0 : Int32)))).1) ?_
            show Steps p.tables e below (T146.setTop (mkF m 275 #[.val (.int pr), .val (.int ps), .val (.long pt), .second, .val (.long pd), .second, .val (.int pm), .val (.ref b2), .val (.long rr), .second, .val (.long ((ps &&& (1048575 : Int32)).toInt64)), .second, .val (.long (((ps &&& (1048575 : Int32)).toInt64) * (1000000000 : Int64))), .second, .val (.long ((((ps &&& (1048575 : Int32)).toInt64) * (1000000000 : Int64)) / rr)), .second, .val (.long ((((((ps &&& (1048575 : Int32)).toInt64) * (1000000000 : Int64)) + rr) - (1 : Int64)) / rr)), .second, .val (.long dd), .second, .val (.ref b140), .val (.int (1 : Int32)), .val (.int (1 : Int32))] [])) _
            refine XS.iload X146.here hx rfl (hb hby at_275) rfl ?_
            show Steps p.tables e below (T146.setTop (mkF m 277 #[.val (.int pr), .val (.int ps), .val (.long pt), .second, .val (.long pd), .second, .val (.int pm), .val (.ref b2), .val (.long rr), .second, .val (.long ((ps &&& (1048575 : Int32)).toInt64)), .second, .val (.long (((ps &&& (1048575 : Int32)).toInt64) * (1000000000 : Int64))), .second, .val (.long ((((ps &&& (1048575 : Int32)).toInt64) * (1000000000 : Int64)) / rr)), .second, .val (.long ((((((ps &&& (1048575 : Int32)).toInt64) * (1000000000 : Int64)) + rr) - (1 : Int64)) / rr)), .second, .val (.long dd), .second, .val (.ref b140), .val (.int (1 : Int32)), .val (.int (1 : Int32))] [(.int (1 : Int32))])) _
            refine XS.lload X146.here hx rfl (hb hby at_277) rfl ?_
            show Steps p.tables e below (T146.setTop (mkF m 279 #[.val (.int pr), .val (.int ps), .val (.long pt), .second, .val (.long pd), .second, .val (.int pm), .val (.ref b2), .val (.long rr), .second, .val (.long ((ps &&& (1048575 : Int32)).toInt64)), .second, .val (.long (((ps &&& (1048575 : Int32)).toInt64) * (1000000000 : Int64))), .second, .val (.long ((((ps &&& (1048575 : Int32)).toInt64) * (1000000000 : Int64)) / rr)), .second, .val (.long ((((((ps &&& (1048575 : Int32)).toInt64) * (1000000000 : Int64)) + rr) - (1 : Int64)) / rr)), .second, .val (.long dd), .second, .val (.ref b140), .val (.int (1 : Int32)), .val (.int (1 : Int32))] [(.long dd), (.int (1 : Int32))])) _
            refine XS.lload X146.here hx rfl (hb hby at_279) rfl ?_
            show Steps p.tables e below (T146.setTop (mkF m 281 #[.val (.int pr), .val (.int ps), .val (.long pt), .second, .val (.long pd), .second, .val (.int pm), .val (.ref b2), .val (.long rr), .second, .val (.long ((ps &&& (1048575 : Int32)).toInt64)), .second, .val (.long (((ps &&& (1048575 : Int32)).toInt64) * (1000000000 : Int64))), .second, .val (.long ((((ps &&& (1048575 : Int32)).toInt64) * (1000000000 : Int64)) / rr)), .second, .val (.long ((((((ps &&& (1048575 : Int32)).toInt64) * (1000000000 : Int64)) + rr) - (1 : Int64)) / rr)), .second, .val (.long dd), .second, .val (.ref b140), .val (.int (1 : Int32)), .val (.int (1 : Int32))] [(.long ((((((ps &&& (1048575 : Int32)).toInt64) * (1000000000 : Int64)) + rr) - (1 : Int64)) / rr)), (.long dd), (.int (1 : Int32))])) _
            refine XS.lcmp X146.here hx rfl (hb hby at_281) rfl ?_
            exact kt)
        by_cases hc282_151 : (lcmpW dd ((((((ps &&& (1048575 : Int32)).toInt64) * (1000000000 : Int64)) + rr) - (1 : Int64)) / rr)) < (0 : Int32)
        · -- yes at pc 282: ttfff
          have pre152 : Goes p e below s₁ (entryFrame m #[(.int pr), (.int ps), (.long pt), (.long pd), (.int pm)] maxLocals) T146 (mkF m 298 #[.val (.int pr), .val (.int ps), .val (.long pt), .second, .val (.long pd), .second, .val (.int pm), .val (.ref b2), .val (.long rr), .second, .val (.long ((ps &&& (1048575 : Int32)).toInt64)), .second, .val (.long (((ps &&& (1048575 : Int32)).toInt64) * (1000000000 : Int64))), .second, .val (.long ((((ps &&& (1048575 : Int32)).toInt64) * (1000000000 : Int64)) / rr)), .second, .val (.long ((((((ps &&& (1048575 : Int32)).toInt64) * (1000000000 : Int64)) + rr) - (1 : Int64)) / rr)), .second, .val (.long dd), .second, .val (.ref b140), .val (.int (1 : Int32)), .val (.int (1 : Int32))] [(.int (0 : Int32))]) := fun t kt => pre150 t (by
              show Steps p.tables e below (T146.setTop (mkF m 282 #[.val (.int pr), .val (.int ps), .val (.long pt), .second, .val (.long pd), .second, .val (.int pm), .val (.ref b2), .val (.long rr), .second, .val (.long ((ps &&& (1048575 : Int32)).toInt64)), .second, .val (.long (((ps &&& (1048575 : Int32)).toInt64) * (1000000000 : Int64))), .second, .val (.long ((((ps &&& (1048575 : Int32)).toInt64) * (1000000000 : Int64)) / rr)), .second, .val (.long ((((((ps &&& (1048575 : Int32)).toInt64) * (1000000000 : Int64)) + rr) - (1 : Int64)) / rr)), .second, .val (.long dd), .second, .val (.ref b140), .val (.int (1 : Int32)), .val (.int (1 : Int32))] [(.int (lcmpW dd ((((((ps &&& (1048575 : Int32)).toInt64) * (1000000000 : Int64)) + rr) - (1 : Int64)) / rr))), (.int (1 : Int32))])) _
              refine XS.ifYes X146.here hx rfl (pc0 := 282) (pc' := 289) rfl (hb hby at_282) rfl ((if0 _ _).trans (tlt hc282_151).1) (by decide) (by decide) ?_
              show Steps p.tables e below (T146.setTop (mkF m 289 #[.val (.int pr), .val (.int ps), .val (.long pt), .second, .val (.long pd), .second, .val (.int pm), .val (.ref b2), .val (.long rr), .second, .val (.long ((ps &&& (1048575 : Int32)).toInt64)), .second, .val (.long (((ps &&& (1048575 : Int32)).toInt64) * (1000000000 : Int64))), .second, .val (.long ((((ps &&& (1048575 : Int32)).toInt64) * (1000000000 : Int64)) / rr)), .second, .val (.long ((((((ps &&& (1048575 : Int32)).toInt64) * (1000000000 : Int64)) + rr) - (1 : Int64)) / rr)), .second, .val (.long dd), .second, .val (.ref b140), .val (.int (1 : Int32)), .val (.int (1 : Int32))] [(.int (1 : Int32))])) _
              refine XS.iconst X146.here hx rfl (hb hby at_289) ?_
              show Steps p.tables e below (T146.setTop (mkF m 290 #[.val (.int pr), .val (.int ps), .val (.long pt), .second, .val (.long pd), .second, .val (.int pm), .val (.ref b2), .val (.long rr), .second, .val (.long ((ps &&& (1048575 : Int32)).toInt64)), .second, .val (.long (((ps &&& (1048575 : Int32)).toInt64) * (1000000000 : Int64))), .second, .val (.long ((((ps &&& (1048575 : Int32)).toInt64) * (1000000000 : Int64)) / rr)), .second, .val (.long ((((((ps &&& (1048575 : Int32)).toInt64) * (1000000000 : Int64)) + rr) - (1 : Int64)) / rr)), .second, .val (.long dd), .second, .val (.ref b140), .val (.int (1 : Int32)), .val (.int (1 : Int32))] [(.int (0 : Int32)), (.int (1 : Int32))])) _
              refine XS.icmpYes X146.here hx rfl (pc0 := 290) (pc' := 297) rfl (hb hby at_290) rfl (feq (by decide : ¬ ((1 : Int32) = (0 : Int32)))).2 (by decide) (by decide) ?_
              show Steps p.tables e below (T146.setTop (mkF m 297 #[.val (.int pr), .val (.int ps), .val (.long pt), .second, .val (.long pd), .second, .val (.int pm), .val (.ref b2), .val (.long rr), .second, .val (.long ((ps &&& (1048575 : Int32)).toInt64)), .second, .val (.long (((ps &&& (1048575 : Int32)).toInt64) * (1000000000 : Int64))), .second, .val (.long ((((ps &&& (1048575 : Int32)).toInt64) * (1000000000 : Int64)) / rr)), .second, .val (.long ((((((ps &&& (1048575 : Int32)).toInt64) * (1000000000 : Int64)) + rr) - (1 : Int64)) / rr)), .second, .val (.long dd), .second, .val (.ref b140), .val (.int (1 : Int32)), .val (.int (1 : Int32))] [])) _
              refine XS.iconst X146.here hx rfl (hb hby at_297) ?_
              exact kt)
          obtain ⟨fs, hr, hrun, hended, hW, hsame⟩ := X146.leave (v := some (.int (0 : Int32))) (fun h => by rw [Bd.returns] at h; cases h) Bd.notSynchronized
          refine ⟨_, _, pre152 _ ?_, hrun, hended, _, _, rfl, ?_, ⟨_, rfl⟩, hW, hsame.mono (by decide) (by decide)⟩
          · show Steps p.tables e below (T146.setTop (mkF m 298 #[.val (.int pr), .val (.int ps), .val (.long pt), .second, .val (.long pd), .second, .val (.int pm), .val (.ref b2), .val (.long rr), .second, .val (.long ((ps &&& (1048575 : Int32)).toInt64)), .second, .val (.long (((ps &&& (1048575 : Int32)).toInt64) * (1000000000 : Int64))), .second, .val (.long ((((ps &&& (1048575 : Int32)).toInt64) * (1000000000 : Int64)) / rr)), .second, .val (.long ((((((ps &&& (1048575 : Int32)).toInt64) * (1000000000 : Int64)) + rr) - (1 : Int64)) / rr)), .second, .val (.long dd), .second, .val (.ref b140), .val (.int (1 : Int32)), .val (.int (1 : Int32))] [(.int (0 : Int32))])) _
            exact retN X146 hx (t := .boolean) Bd.returns (by simp) (hb hby at_298) hr
          · show Q_own_rm0 Z pr ps pt pd pm h0 n0 _ T146.heap _
            rw [e146]
            exact (own_kE (own_msk ps) hR1 hd hc260_149 hD hc282_151).elim
        · -- no at pc 282: ttfff
          have pre153 : Goes p e below s₁ (entryFrame m #[(.int pr), (.int ps), (.long pt), (.long pd), (.int pm)] maxLocals) T146 (mkF m 298 #[.val (.int pr), .val (.int ps), .val (.long pt), .second, .val (.long pd), .second, .val (.int pm), .val (.ref b2), .val (.long rr), .second, .val (.long ((ps &&& (1048575 : Int32)).toInt64)), .second, .val (.long (((ps &&& (1048575 : Int32)).toInt64) * (1000000000 : Int64))), .second, .val (.long ((((ps &&& (1048575 : Int32)).toInt64) * (1000000000 : Int64)) / rr)), .second, .val (.long ((((((ps &&& (1048575 : Int32)).toInt64) * (1000000000 : Int64)) + rr) - (1 : Int64)) / rr)), .second, .val (.long dd), .second, .val (.ref b140), .val (.int (1 : Int32)), .val (.int (1 : Int32))] [(.int (1 : Int32))]) := fun t kt => pre150 t (by
              show Steps p.tables e below (T146.setTop (mkF m 282 #[.val (.int pr), .val (.int ps), .val (.long pt), .second, .val (.long pd), .second, .val (.int pm), .val (.ref b2), .val (.long rr), .second, .val (.long ((ps &&& (1048575 : Int32)).toInt64)), .second, .val (.long (((ps &&& (1048575 : Int32)).toInt64) * (1000000000 : Int64))), .second, .val (.long ((((ps &&& (1048575 : Int32)).toInt64) * (1000000000 : Int64)) / rr)), .second, .val (.long ((((((ps &&& (1048575 : Int32)).toInt64) * (1000000000 : Int64)) + rr) - (1 : Int64)) / rr)), .second, .val (.long dd), .second, .val (.ref b140), .val (.int (1 : Int32)), .val (.int (1 : Int32))] [(.int (lcmpW dd ((((((ps &&& (1048575 : Int32)).toInt64) * (1000000000 : Int64)) + rr) - (1 : Int64)) / rr))), (.int (1 : Int32))])) _
              refine XS.ifNo X146.here hx rfl (hb hby at_282) rfl ((if0 _ _).trans (flt hc282_151).1) ?_
              show Steps p.tables e below (T146.setTop (mkF m 285 #[.val (.int pr), .val (.int ps), .val (.long pt), .second, .val (.long pd), .second, .val (.int pm), .val (.ref b2), .val (.long rr), .second, .val (.long ((ps &&& (1048575 : Int32)).toInt64)), .second, .val (.long (((ps &&& (1048575 : Int32)).toInt64) * (1000000000 : Int64))), .second, .val (.long ((((ps &&& (1048575 : Int32)).toInt64) * (1000000000 : Int64)) / rr)), .second, .val (.long ((((((ps &&& (1048575 : Int32)).toInt64) * (1000000000 : Int64)) + rr) - (1 : Int64)) / rr)), .second, .val (.long dd), .second, .val (.ref b140), .val (.int (1 : Int32)), .val (.int (1 : Int32))] [(.int (1 : Int32))])) _
              refine XS.iconst X146.here hx rfl (hb hby at_285) ?_
              show Steps p.tables e below (T146.setTop (mkF m 286 #[.val (.int pr), .val (.int ps), .val (.long pt), .second, .val (.long pd), .second, .val (.int pm), .val (.ref b2), .val (.long rr), .second, .val (.long ((ps &&& (1048575 : Int32)).toInt64)), .second, .val (.long (((ps &&& (1048575 : Int32)).toInt64) * (1000000000 : Int64))), .second, .val (.long ((((ps &&& (1048575 : Int32)).toInt64) * (1000000000 : Int64)) / rr)), .second, .val (.long ((((((ps &&& (1048575 : Int32)).toInt64) * (1000000000 : Int64)) + rr) - (1 : Int64)) / rr)), .second, .val (.long dd), .second, .val (.ref b140), .val (.int (1 : Int32)), .val (.int (1 : Int32))] [(.int (1 : Int32)), (.int (1 : Int32))])) _
              refine XS.goto X146.here hx rfl (pc0 := 286) (pc' := 290) rfl (hb hby at_286) (by decide) (by decide) ?_
              show Steps p.tables e below (T146.setTop (mkF m 290 #[.val (.int pr), .val (.int ps), .val (.long pt), .second, .val (.long pd), .second, .val (.int pm), .val (.ref b2), .val (.long rr), .second, .val (.long ((ps &&& (1048575 : Int32)).toInt64)), .second, .val (.long (((ps &&& (1048575 : Int32)).toInt64) * (1000000000 : Int64))), .second, .val (.long ((((ps &&& (1048575 : Int32)).toInt64) * (1000000000 : Int64)) / rr)), .second, .val (.long ((((((ps &&& (1048575 : Int32)).toInt64) * (1000000000 : Int64)) + rr) - (1 : Int64)) / rr)), .second, .val (.long dd), .second, .val (.ref b140), .val (.int (1 : Int32)), .val (.int (1 : Int32))] [(.int (1 : Int32)), (.int (1 : Int32))])) _
              refine XS.icmpNo X146.here hx rfl (hb hby at_290) rfl (teq (by decide : (1 : Int32) = (1 : Int32))).2 ?_
              show Steps p.tables e below (T146.setTop (mkF m 293 #[.val (.int pr), .val (.int ps), .val (.long pt), .second, .val (.long pd), .second, .val (.int pm), .val (.ref b2), .val (.long rr), .second, .val (.long ((ps &&& (1048575 : Int32)).toInt64)), .second, .val (.long (((ps &&& (1048575 : Int32)).toInt64) * (1000000000 : Int64))), .second, .val (.long ((((ps &&& (1048575 : Int32)).toInt64) * (1000000000 : Int64)) / rr)), .second, .val (.long ((((((ps &&& (1048575 : Int32)).toInt64) * (1000000000 : Int64)) + rr) - (1 : Int64)) / rr)), .second, .val (.long dd), .second, .val (.ref b140), .val (.int (1 : Int32)), .val (.int (1 : Int32))] [])) _
              refine XS.iconst X146.here hx rfl (hb hby at_293) ?_
              show Steps p.tables e below (T146.setTop (mkF m 294 #[.val (.int pr), .val (.int ps), .val (.long pt), .second, .val (.long pd), .second, .val (.int pm), .val (.ref b2), .val (.long rr), .second, .val (.long ((ps &&& (1048575 : Int32)).toInt64)), .second, .val (.long (((ps &&& (1048575 : Int32)).toInt64) * (1000000000 : Int64))), .second, .val (.long ((((ps &&& (1048575 : Int32)).toInt64) * (1000000000 : Int64)) / rr)), .second, .val (.long ((((((ps &&& (1048575 : Int32)).toInt64) * (1000000000 : Int64)) + rr) - (1 : Int64)) / rr)), .second, .val (.long dd), .second, .val (.ref b140), .val (.int (1 : Int32)), .val (.int (1 : Int32))] [(.int (1 : Int32))])) _
              refine XS.goto X146.here hx rfl (pc0 := 294) (pc' := 298) rfl (hb hby at_294) (by decide) (by decide) ?_
              exact kt)
          obtain ⟨fs, hr, hrun, hended, hW, hsame⟩ := X146.leave (v := some (.int (1 : Int32))) (fun h => by rw [Bd.returns] at h; cases h) Bd.notSynchronized
          refine ⟨_, _, pre153 _ ?_, hrun, hended, _, _, rfl, ?_, ⟨_, rfl⟩, hW, hsame.mono (by decide) (by decide)⟩
          · show Steps p.tables e below (T146.setTop (mkF m 298 #[.val (.int pr), .val (.int ps), .val (.long pt), .second, .val (.long pd), .second, .val (.int pm), .val (.ref b2), .val (.long rr), .second, .val (.long ((ps &&& (1048575 : Int32)).toInt64)), .second, .val (.long (((ps &&& (1048575 : Int32)).toInt64) * (1000000000 : Int64))), .second, .val (.long ((((ps &&& (1048575 : Int32)).toInt64) * (1000000000 : Int64)) / rr)), .second, .val (.long ((((((ps &&& (1048575 : Int32)).toInt64) * (1000000000 : Int64)) + rr) - (1 : Int64)) / rr)), .second, .val (.long dd), .second, .val (.ref b140), .val (.int (1 : Int32)), .val (.int (1 : Int32))] [(.int (1 : Int32))])) _
            exact retN X146 hx (t := .boolean) Bd.returns (by simp) (hb hby at_298) hr
          · show Q_own_rm0 Z pr ps pt pd pm h0 n0 _ T146.heap _
            rw [e146]
            exact ⟨rfl, N146⟩
      · -- no at pc 260: ttf
        have pre154 : Goes p e below s₁ (entryFrame m #[(.int pr), (.int ps), (.long pt), (.long pd), (.int pm)] maxLocals) T146 (mkF m 306 #[.val (.int pr), .val (.int ps), .val (.long pt), .second, .val (.long pd), .second, .val (.int pm), .val (.ref b2), .val (.long rr), .second, .val (.long ((ps &&& (1048575 : Int32)).toInt64)), .second, .val (.long (((ps &&& (1048575 : Int32)).toInt64) * (1000000000 : Int64))), .second, .val (.long ((((ps &&& (1048575 : Int32)).toInt64) * (1000000000 : Int64)) / rr)), .second, .val (.long ((((((ps &&& (1048575 : Int32)).toInt64) * (1000000000 : Int64)) + rr) - (1 : Int64)) / rr)), .second, .val (.long dd), .second, .val (.ref b140), .val (.int (1 : Int32)), .val (.int (0 : Int32))] [(.int (lcmpW dd (((((((ps &&& (1048575 : Int32)).toInt64) * (1000000000 : Int64)) + rr) - (1 : Int64)) / rr) + (1 : Int64))))]) := fun t kt => pre148 t (by
            show Steps p.tables e below (T146.setTop (mkF m 260 #[.val (.int pr), .val (.int ps), .val (.long pt), .second, .val (.long pd), .second, .val (.int pm), .val (.ref b2), .val (.long rr), .second, .val (.long ((ps &&& (1048575 : Int32)).toInt64)), .second, .val (.long (((ps &&& (1048575 : Int32)).toInt64) * (1000000000 : Int64))), .second, .val (.long ((((ps &&& (1048575 : Int32)).toInt64) * (1000000000 : Int64)) / rr)), .second, .val (.long ((((((ps &&& (1048575 : Int32)).toInt64) * (1000000000 : Int64)) + rr) - (1 : Int64)) / rr)), .second, .val (.long dd), .second, .val (.ref b140), .val (.int (1 : Int32)), .unset] [(.int (lcmpW ((1000000000 : Int64) - ((1000000000 : Int64) / rr) * rr) (0 : Int64)))])) _
            refine XS.ifYes X146.here hx rfl (pc0 := 260) (pc' := 267) rfl (hb hby at_260) rfl ((if0 _ _).trans (feq hc260_149).2) (by decide) (by decide) ?_
            show Steps p.tables e below (T146.setTop (mkF m 267 #[.val (.int pr), .val (.int ps), .val (.long pt), .second, .val (.long pd), .second, .val (.int pm), .val (.ref b2), .val (.long rr), .second, .val (.long ((ps &&& (1048575 : Int32)).toInt64)), .second, .val (.long (((ps &&& (1048575 : Int32)).toInt64) * (1000000000 : Int64))), .second, .val (.long ((((ps &&& (1048575 : Int32)).toInt64) * (1000000000 : Int64)) / rr)), .second, .val (.long ((((((ps &&& (1048575 : Int32)).toInt64) * (1000000000 : Int64)) + rr) - (1 : Int64)) / rr)), .second, .val (.long dd), .second, .val (.ref b140), .val (.int (1 : Int32)), .unset] [])) _
            refine XS.iconst X146.here hx rfl (hb hby at_267) ?_
            show Steps p.tables e below (T146.setTop (mkF m 268 #[.val (.int pr), .val (.int ps), .val (.long pt), .second, .val (.long pd), .second, .val (.int pm), .val (.ref b2), .val (.long rr), .second, .val (.long ((ps &&& (1048575 : Int32)).toInt64)), .second, .val (.long (((ps &&& (1048575 : Int32)).toInt64) * (1000000000 : Int64))), .second, .val (.long ((((ps &&& (1048575 : Int32)).toInt64) * (1000000000 : Int64)) / rr)), .second, .val (.long ((((((ps &&& (1048575 : Int32)).toInt64) * (1000000000 : Int64)) + rr) - (1 : Int64)) / rr)), .second, .val (.long dd), .second, .val (.ref b140), .val (.int (1 : Int32)), .unset] [(.int (0 : Int32))])) _
            refine XS.istore X146.here hx rfl (hb hby at_268) rfl (l' := #[.val (.int pr), .val (.int ps), .val (.long pt), .second, .val (.long pd), .second, .val (.int pm), .val (.ref b2), .val (.long rr), .second, .val (.long ((ps &&& (1048575 : Int32)).toInt64)), .second, .val (.long (((ps &&& (1048575 : Int32)).toInt64) * (1000000000 : Int64))), .second, .val (.long ((((ps &&& (1048575 : Int32)).toInt64) * (1000000000 : Int64)) / rr)), .second, .val (.long ((((((ps &&& (1048575 : Int32)).toInt64) * (1000000000 : Int64)) + rr) - (1 : Int64)) / rr)), .second, .val (.long dd), .second, .val (.ref b140), .val (.int (1 : Int32)), .val (.int (0 : Int32))]) rfl ?_
            show Steps p.tables e below (T146.setTop (mkF m 270 #[.val (.int pr), .val (.int ps), .val (.long pt), .second, .val (.long pd), .second, .val (.int pm), .val (.ref b2), .val (.long rr), .second, .val (.long ((ps &&& (1048575 : Int32)).toInt64)), .second, .val (.long (((ps &&& (1048575 : Int32)).toInt64) * (1000000000 : Int64))), .second, .val (.long ((((ps &&& (1048575 : Int32)).toInt64) * (1000000000 : Int64)) / rr)), .second, .val (.long ((((((ps &&& (1048575 : Int32)).toInt64) * (1000000000 : Int64)) + rr) - (1 : Int64)) / rr)), .second, .val (.long dd), .second, .val (.ref b140), .val (.int (1 : Int32)), .val (.int (0 : Int32))] [])) _
            refine XS.iload X146.here hx rfl (hb hby at_270) rfl ?_
            show Steps p.tables e below (T146.setTop (mkF m 272 #[.val (.int pr), .val (.int ps), .val (.long pt), .second, .val (.long pd), .second, .val (.int pm), .val (.ref b2), .val (.long rr), .second, .val (.long ((ps &&& (1048575 : Int32)).toInt64)), .second, .val (.long (((ps &&& (1048575 : Int32)).toInt64) * (1000000000 : Int64))), .second, .val (.long ((((ps &&& (1048575 : Int32)).toInt64) * (1000000000 : Int64)) / rr)), .second, .val (.long ((((((ps &&& (1048575 : Int32)).toInt64) * (1000000000 : Int64)) + rr) - (1 : Int64)) / rr)), .second, .val (.long dd), .second, .val (.ref b140), .val (.int (1 : Int32)), .val (.int (0 : Int32))] [(.int (0 : Int32))])) _
            refine XS.ifYes X146.here hx rfl (pc0 := 272) (pc' := 299) rfl (hb hby at_272) rfl ((if0 _ _).trans (teq (by decide : (0 : Int32) = (0 : Int32))).1) (by decide) (by decide) ?_
            show Steps p.tables e below (T146.setTop (mkF m 299 #[.val (.int pr), .val (.int ps), .val (.long pt), .second, .val (.long pd), .second, .val (.int pm), .val (.ref b2), .val (.long rr), .second, .val (.long ((ps &&& (1048575 : Int32)).toInt64)), .second, .val (.long (((ps &&& (1048575 : Int32)).toInt64) * (1000000000 : Int64))), .second, .val (.long ((((ps &&& (1048575 : Int32)).toInt64) * (1000000000 : Int64)) / rr)), .second, .val (.long ((((((ps &&& (1048575 : Int32)).toInt64) * (1000000000 : Int64)) + rr) - (1 : Int64)) / rr)), .second, .val (.long dd), .second, .val (.ref b140), .val (.int (1 : Int32)), .val (.int (0 : Int32))] [])) _
            refine XS.lload X146.here hx rfl (hb hby at_299) rfl ?_
            show Steps p.tables e below (T146.setTop (mkF m 301 #[.val (.int pr), .val (.int ps), .val (.long pt), .second, .val (.long pd), .second, .val (.int pm), .val (.ref b2), .val (.long rr), .second, .val (.long ((ps &&& (1048575 : Int32)).toInt64)), .second, .val (.long (((ps &&& (1048575 : Int32)).toInt64) * (1000000000 : Int64))), .second, .val (.long ((((ps &&& (1048575 : Int32)).toInt64) * (1000000000 : Int64)) / rr)), .second, .val (.long ((((((ps &&& (1048575 : Int32)).toInt64) * (1000000000 : Int64)) + rr) - (1 : Int64)) / rr)), .second, .val (.long dd), .second, .val (.ref b140), .val (.int (1 : Int32)), .val (.int (0 : Int32))] [(.long dd)])) _
            refine XS.lload X146.here hx rfl (hb hby at_301) rfl ?_
            show Steps p.tables e below (T146.setTop (mkF m 303 #[.val (.int pr), .val (.int ps), .val (.long pt), .second, .val (.long pd), .second, .val (.int pm), .val (.ref b2), .val (.long rr), .second, .val (.long ((ps &&& (1048575 : Int32)).toInt64)), .second, .val (.long (((ps &&& (1048575 : Int32)).toInt64) * (1000000000 : Int64))), .second, .val (.long ((((ps &&& (1048575 : Int32)).toInt64) * (1000000000 : Int64)) / rr)), .second, .val (.long ((((((ps &&& (1048575 : Int32)).toInt64) * (1000000000 : Int64)) + rr) - (1 : Int64)) / rr)), .second, .val (.long dd), .second, .val (.ref b140), .val (.int (1 : Int32)), .val (.int (0 : Int32))] [(.long ((((((ps &&& (1048575 : Int32)).toInt64) * (1000000000 : Int64)) + rr) - (1 : Int64)) / rr)), (.long dd)])) _
            refine XS.lconst X146.here hx rfl (hb hby at_303) ?_
            show Steps p.tables e below (T146.setTop (mkF m 304 #[.val (.int pr), .val (.int ps), .val (.long pt), .second, .val (.long pd), .second, .val (.int pm), .val (.ref b2), .val (.long rr), .second, .val (.long ((ps &&& (1048575 : Int32)).toInt64)), .second, .val (.long (((ps &&& (1048575 : Int32)).toInt64) * (1000000000 : Int64))), .second, .val (.long ((((ps &&& (1048575 : Int32)).toInt64) * (1000000000 : Int64)) / rr)), .second, .val (.long ((((((ps &&& (1048575 : Int32)).toInt64) * (1000000000 : Int64)) + rr) - (1 : Int64)) / rr)), .second, .val (.long dd), .second, .val (.ref b140), .val (.int (1 : Int32)), .val (.int (0 : Int32))] [(.long (1 : Int64)), (.long ((((((ps &&& (1048575 : Int32)).toInt64) * (1000000000 : Int64)) + rr) - (1 : Int64)) / rr)), (.long dd)])) _
            refine XS.ladd X146.here hx rfl (hb hby at_304) rfl ?_
            show Steps p.tables e below (T146.setTop (mkF m 305 #[.val (.int pr), .val (.int ps), .val (.long pt), .second, .val (.long pd), .second, .val (.int pm), .val (.ref b2), .val (.long rr), .second, .val (.long ((ps &&& (1048575 : Int32)).toInt64)), .second, .val (.long (((ps &&& (1048575 : Int32)).toInt64) * (1000000000 : Int64))), .second, .val (.long ((((ps &&& (1048575 : Int32)).toInt64) * (1000000000 : Int64)) / rr)), .second, .val (.long ((((((ps &&& (1048575 : Int32)).toInt64) * (1000000000 : Int64)) + rr) - (1 : Int64)) / rr)), .second, .val (.long dd), .second, .val (.ref b140), .val (.int (1 : Int32)), .val (.int (0 : Int32))] [(.long (((((((ps &&& (1048575 : Int32)).toInt64) * (1000000000 : Int64)) + rr) - (1 : Int64)) / rr) + (1 : Int64))), (.long dd)])) _
            refine XS.lcmp X146.here hx rfl (hb hby at_305) rfl ?_
            exact kt)
        by_cases hc306_155 : (lcmpW dd (((((((ps &&& (1048575 : Int32)).toInt64) * (1000000000 : Int64)) + rr) - (1 : Int64)) / rr) + (1 : Int64))) < (0 : Int32)
        · -- yes at pc 306: ttftt
          have pre156 : Goes p e below s₁ (entryFrame m #[(.int pr), (.int ps), (.long pt), (.long pd), (.int pm)] maxLocals) T146 (mkF m 319 #[.val (.int pr), .val (.int ps), .val (.long pt), .second, .val (.long pd), .second, .val (.int pm), .val (.ref b2), .val (.long rr), .second, .val (.long ((ps &&& (1048575 : Int32)).toInt64)), .second, .val (.long (((ps &&& (1048575 : Int32)).toInt64) * (1000000000 : Int64))), .second, .val (.long ((((ps &&& (1048575 : Int32)).toInt64) * (1000000000 : Int64)) / rr)), .second, .val (.long ((((((ps &&& (1048575 : Int32)).toInt64) * (1000000000 : Int64)) + rr) - (1 : Int64)) / rr)), .second, .val (.long dd), .second, .val (.ref b140), .val (.int (1 : Int32)), .val (.int (0 : Int32))] [(.int (lcmpW dd (((((ps &&& (1048575 : Int32)).toInt64) * (1000000000 : Int64)) / rr) - (1 : Int64))))]) := fun t kt => pre154 t (by
              show Steps p.tables e below (T146.setTop (mkF m 306 #[.val (.int pr), .val (.int ps), .val (.long pt), .second, .val (.long pd), .second, .val (.int pm), .val (.ref b2), .val (.long rr), .second, .val (.long ((ps &&& (1048575 : Int32)).toInt64)), .second, .val (.long (((ps &&& (1048575 : Int32)).toInt64) * (1000000000 : Int64))), .second, .val (.long ((((ps &&& (1048575 : Int32)).toInt64) * (1000000000 : Int64)) / rr)), .second, .val (.long ((((((ps &&& (1048575 : Int32)).toInt64) * (1000000000 : Int64)) + rr) - (1 : Int64)) / rr)), .second, .val (.long dd), .second, .val (.ref b140), .val (.int (1 : Int32)), .val (.int (0 : Int32))] [(.int (lcmpW dd (((((((ps &&& (1048575 : Int32)).toInt64) * (1000000000 : Int64)) + rr) - (1 : Int64)) / rr) + (1 : Int64))))])) _
              refine XS.ifYes X146.here hx rfl (pc0 := 306) (pc' := 312) rfl (hb hby at_306) rfl ((if0 _ _).trans (tlt hc306_155).1) (by decide) (by decide) ?_
              show Steps p.tables e below (T146.setTop (mkF m 312 #[.val (.int pr), .val (.int ps), .val (.long pt), .second, .val (.long pd), .second, .val (.int pm), .val (.ref b2), .val (.long rr), .second, .val (.long ((ps &&& (1048575 : Int32)).toInt64)), .second, .val (.long (((ps &&& (1048575 : Int32)).toInt64) * (1000000000 : Int64))), .second, .val (.long ((((ps &&& (1048575 : Int32)).toInt64) * (1000000000 : Int64)) / rr)), .second, .val (.long ((((((ps &&& (1048575 : Int32)).toInt64) * (1000000000 : Int64)) + rr) - (1 : Int64)) / rr)), .second, .val (.long dd), .second, .val (.ref b140), .val (.int (1 : Int32)), .val (.int (0 : Int32))] [])) _
              refine XS.lload X146.here hx rfl (hb hby at_312) rfl ?_
              show Steps p.tables e below (T146.setTop (mkF m 314 #[.val (.int pr), .val (.int ps), .val (.long pt), .second, .val (.long pd), .second, .val (.int pm), .val (.ref b2), .val (.long rr), .second, .val (.long ((ps &&& (1048575 : Int32)).toInt64)), .second, .val (.long (((ps &&& (1048575 : Int32)).toInt64) * (1000000000 : Int64))), .second, .val (.long ((((ps &&& (1048575 : Int32)).toInt64) * (1000000000 : Int64)) / rr)), .second, .val (.long ((((((ps &&& (1048575 : Int32)).toInt64) * (1000000000 : Int64)) + rr) - (1 : Int64)) / rr)), .second, .val (.long dd), .second, .val (.ref b140), .val (.int (1 : Int32)), .val (.int (0 : Int32))] [(.long dd)])) _
              refine XS.lload X146.here hx rfl (hb hby at_314) rfl ?_
              show Steps p.tables e below (T146.setTop (mkF m 316 #[.val (.int pr), .val (.int ps), .val (.long pt), .second, .val (.long pd), .second, .val (.int pm), .val (.ref b2), .val (.long rr), .second, .val (.long ((ps &&& (1048575 : Int32)).toInt64)), .second, .val (.long (((ps &&& (1048575 : Int32)).toInt64) * (1000000000 : Int64))), .second, .val (.long ((((ps &&& (1048575 : Int32)).toInt64) * (1000000000 : Int64)) / rr)), .second, .val (.long ((((((ps &&& (1048575 : Int32)).toInt64) * (1000000000 : Int64)) + rr) - (1 : Int64)) / rr)), .second, .val (.long dd), .second, .val (.ref b140), .val (.int (1 : Int32)), .val (.int (0 : Int32))] [(.long ((((ps &&& (1048575 : Int32)).toInt64) * (1000000000 : Int64)) / rr)), (.long dd)])) _
              refine XS.lconst X146.here hx rfl (hb hby at_316) ?_
              show Steps p.tables e below (T146.setTop (mkF m 317 #[.val (.int pr), .val (.int ps), .val (.long pt), .second, .val (.long pd), .second, .val (.int pm), .val (.ref b2), .val (.long rr), .second, .val (.long ((ps &&& (1048575 : Int32)).toInt64)), .second, .val (.long (((ps &&& (1048575 : Int32)).toInt64) * (1000000000 : Int64))), .second, .val (.long ((((ps &&& (1048575 : Int32)).toInt64) * (1000000000 : Int64)) / rr)), .second, .val (.long ((((((ps &&& (1048575 : Int32)).toInt64) * (1000000000 : Int64)) + rr) - (1 : Int64)) / rr)), .second, .val (.long dd), .second, .val (.ref b140), .val (.int (1 : Int32)), .val (.int (0 : Int32))] [(.long (1 : Int64)), (.long ((((ps &&& (1048575 : Int32)).toInt64) * (1000000000 : Int64)) / rr)), (.long dd)])) _
              refine XS.lsub X146.here hx rfl (hb hby at_317) rfl ?_
              show Steps p.tables e below (T146.setTop (mkF m 318 #[.val (.int pr), .val (.int ps), .val (.long pt), .second, .val (.long pd), .second, .val (.int pm), .val (.ref b2), .val (.long rr), .second, .val (.long ((ps &&& (1048575 : Int32)).toInt64)), .second, .val (.long (((ps &&& (1048575 : Int32)).toInt64) * (1000000000 : Int64))), .second, .val (.long ((((ps &&& (1048575 : Int32)).toInt64) * (1000000000 : Int64)) / rr)), .second, .val (.long ((((((ps &&& (1048575 : Int32)).toInt64) * (1000000000 : Int64)) + rr) - (1 : Int64)) / rr)), .second, .val (.long dd), .second, .val (.ref b140), .val (.int (1 : Int32)), .val (.int (0 : Int32))] [(.long (((((ps &&& (1048575 : Int32)).toInt64) * (1000000000 : Int64)) / rr) - (1 : Int64))), (.long dd)])) _
              refine XS.lcmp X146.here hx rfl (hb hby at_318) rfl ?_
              exact kt)
          by_cases hc319_157 : (0 : Int32) < (lcmpW dd (((((ps &&& (1048575 : Int32)).toInt64) * (1000000000 : Int64)) / rr) - (1 : Int64)))
          · -- yes at pc 319: ttfttt
            have pre158 : Goes p e below s₁ (entryFrame m #[(.int pr), (.int ps), (.long pt), (.long pd), (.int pm)] maxLocals) T146 (mkF m 334 #[.val (.int pr), .val (.int ps), .val (.long pt), .second, .val (.long pd), .second, .val (.int pm), .val (.ref b2), .val (.long rr), .second, .val (.long ((ps &&& (1048575 : Int32)).toInt64)), .second, .val (.long (((ps &&& (1048575 : Int32)).toInt64) * (1000000000 : Int64))), .second, .val (.long ((((ps &&& (1048575 : Int32)).toInt64) * (1000000000 : Int64)) / rr)), .second, .val (.long ((((((ps &&& (1048575 : Int32)).toInt64) * (1000000000 : Int64)) + rr) - (1 : Int64)) / rr)), .second, .val (.long dd), .second, .val (.ref b140), .val (.int (1 : Int32)), .val (.int (0 : Int32))] [(.int (1 : Int32))]) := fun t kt => pre156 t (by
                show Steps p.tables e below (T146.setTop (mkF m 319 #[.val (.int pr), .val (.int ps), .val (.long pt), .second, .val (.long pd), .second, .val (.int pm), .val (.ref b2), .val (.long rr), .second, .val (.long ((ps &&& (1048575 : Int32)).toInt64)), .second, .val (.long (((ps &&& (1048575 : Int32)).toInt64) * (1000000000 : Int64))), .second, .val (.long ((((ps &&& (1048575 : Int32)).toInt64) * (1000000000 : Int64)) / rr)), .second, .val (.long ((((((ps &&& (1048575 : Int32)).toInt64) * (1000000000 : Int64)) + rr) - (1 : Int64)) / rr)), .second, .val (.long dd), .second, .val (.ref b140), .val (.int (1 : Int32)), .val (.int (0 : Int32))] [(.int (lcmpW dd (((((ps &&& (1048575 : Int32)).toInt64) * (1000000000 : Int64)) / rr) - (1 : Int64))))])) _
                refine XS.ifYes X146.here hx rfl (pc0 := 319) (pc' := 333) rfl (hb hby at_319) rfl ((if0 _ _).trans (tlt hc319_157).2.2.1) (by decide) (by decide) ?_
                show Steps p.tables e below (T146.setTop (mkF m 333 #[.val (.int pr), .val (.int ps), .val (.long pt), .second, .val (.long pd), .second, .val (.int pm), .val (.ref b2), .val (.long rr), .second, .val (.long ((ps &&& (1048575 : Int32)).toInt64)), .second, .val (.long (((ps &&& (1048575 : Int32)).toInt64) * (1000000000 : Int64))), .second, .val (.long ((((ps &&& (1048575 : Int32)).toInt64) * (1000000000 : Int64)) / rr)), .second, .val (.long ((((((ps &&& (1048575 : Int32)).toInt64) * (1000000000 : Int64)) + rr) - (1 : Int64)) / rr)), .second, .val (.long dd), .second, .val (.ref b140), .val (.int (1 : Int32)), .val (.int (0 : Int32))] [])) _
                refine XS.iconst X146.here hx rfl (hb hby at_333) ?_
                exact kt)
            obtain ⟨fs, hr, hrun, hended, hW, hsame⟩ := X146.leave (v := some (.int (1 : Int32))) (fun h => by rw [Bd.returns] at h; cases h) Bd.notSynchronized
            refine ⟨_, _, pre158 _ ?_, hrun, hended, _, _, rfl, ?_, ⟨_, rfl⟩, hW, hsame.mono (by decide) (by decide)⟩
            · show Steps p.tables e below (T146.setTop (mkF m 334 #[.val (.int pr), .val (.int ps), .val (.long pt), .second, .val (.long pd), .second, .val (.int pm), .val (.ref b2), .val (.long rr), .second, .val (.long ((ps &&& (1048575 : Int32)).toInt64)), .second, .val (.long (((ps &&& (1048575 : Int32)).toInt64) * (1000000000 : Int64))), .second, .val (.long ((((ps &&& (1048575 : Int32)).toInt64) * (1000000000 : Int64)) / rr)), .second, .val (.long ((((((ps &&& (1048575 : Int32)).toInt64) * (1000000000 : Int64)) + rr) - (1 : Int64)) / rr)), .second, .val (.long dd), .second, .val (.ref b140), .val (.int (1 : Int32)), .val (.int (0 : Int32))] [(.int (1 : Int32))])) _
              exact retN X146 hx (t := .boolean) Bd.returns (by simp) (hb hby at_334) hr
            · show Q_own_rm0 Z pr ps pt pd pm h0 n0 _ T146.heap _
              rw [e146]
              exact ⟨rfl, N146⟩
          · -- no at pc 319: ttfttt
            have pre159 : Goes p e below s₁ (entryFrame m #[(.int pr), (.int ps), (.long pt), (.long pd), (.int pm)] maxLocals) T146 (mkF m 332 #[.val (.int pr), .val (.int ps), .val (.long pt), .second, .val (.long pd), .second, .val (.int pm), .val (.ref b2), .val (.long rr), .second, .val (.long ((ps &&& (1048575 : Int32)).toInt64)), .second, .val (.long (((ps &&& (1048575 : Int32)).toInt64) * (1000000000 : Int64))), .second, .val (.long ((((ps &&& (1048575 : Int32)).toInt64) * (1000000000 : Int64)) / rr)), .second, .val (.long ((((((ps &&& (1048575 : Int32)).toInt64) * (1000000000 : Int64)) + rr) - (1 : Int64)) / rr)), .second, .val (.long dd), .second, .val (.ref b140), .val (.int (1 : Int32)), .val (.int (0 : Int32))] [(.int (0 : Int32))]) := fun t kt => pre156 t (by
                show Steps p.tables e below (T146.setTop (mkF m 319 #[.val (.int pr), .val (.int ps), .val (.long pt), .second, .val (.long pd), .second, .val (.int pm), .val (.ref b2), .val (.long rr), .second, .val (.long ((ps &&& (1048575 : Int32)).toInt64)), .second, .val (.long (((ps &&& (1048575 : Int32)).toInt64) * (1000000000 : Int64))), .second, .val (.long ((((ps &&& (1048575 : Int32)).toInt64) * (1000000000 : Int64)) / rr)), .second, .val (.long ((((((ps &&& (1048575 : Int32)).toInt64) * (1000000000 : Int64)) + rr) - (1 : Int64)) / rr)), .second, .val (.long dd), .second, .val (.ref b140), .val (.int (1 : Int32)), .val (.int (0 : Int32))] [(.int (lcmpW dd (((((ps &&& (1048575 : Int32)).toInt64) * (1000000000 : Int64)) / rr) - (1 : Int64))))])) _
                refine XS.ifNo X146.here hx rfl (hb hby at_319) rfl ((if0 _ _).trans (flt hc319_157).2.2.1) ?_
                show Steps p.tables e below (T146.setTop (mkF m 322 #[.val (.int pr), .val (.int ps), .val (.long pt), .second, .val (.long pd), .second, .val (.int pm), .val (.ref b2), .val (.long rr), .second, .val (.long ((ps &&& (1048575 : Int32)).toInt64)), .second, .val (.long (((ps &&& (1048575 : Int32)).toInt64) * (1000000000 : Int64))), .second, .val (.long ((((ps &&& (1048575 : Int32)).toInt64) * (1000000000 : Int64)) / rr)), .second, .val (.long ((((((ps &&& (1048575 : Int32)).toInt64) * (1000000000 : Int64)) + rr) - (1 : Int64)) / rr)), .second, .val (.long dd), .second, .val (.ref b140), .val (.int (1 : Int32)), .val (.int (0 : Int32))] [])) _
                refine XS.iload X146.here hx rfl (hb hby at_322) rfl ?_
                show Steps p.tables e below (T146.setTop (mkF m 324 #[.val (.int pr), .val (.int ps), .val (.long pt), .second, .val (.long pd), .second, .val (.int pm), .val (.ref b2), .val (.long rr), .second, .val (.long ((ps &&& (1048575 : Int32)).toInt64)), .second, .val (.long (((ps &&& (1048575 : Int32)).toInt64) * (1000000000 : Int64))), .second, .val (.long ((((ps &&& (1048575 : Int32)).toInt64) * (1000000000 : Int64)) / rr)), .second, .val (.long ((((((ps &&& (1048575 : Int32)).toInt64) * (1000000000 : Int64)) + rr) - (1 : Int64)) / rr)), .second, .val (.long dd), .second, .val (.ref b140), .val (.int (1 : Int32)), .val (.int (0 : Int32))] [(.int (1 : Int32))])) _
                refine XS.ifYes X146.here hx rfl (pc0 := 324) (pc' := 331) rfl (hb hby at_324) rfl ((if0 _ _).trans (feq (by decide : ¬ ((1 : Int32) = (0 : Int32)))).2) (by decide) (by decide) ?_
                show Steps p.tables e below (T146.setTop (mkF m 331 #[.val (.int pr), .val (.int ps), .val (.long pt), .second, .val (.long pd), .second, .val (.int pm), .val (.ref b2), .val (.long rr), .second, .val (.long ((ps &&& (1048575 : Int32)).toInt64)), .second, .val (.long (((ps &&& (1048575 : Int32)).toInt64) * (1000000000 : Int64))), .second, .val (.long ((((ps &&& (1048575 : Int32)).toInt64) * (1000000000 : Int64)) / rr)), .second, .val (.long ((((((ps &&& (1048575 : Int32)).toInt64) * (1000000000 : Int64)) + rr) - (1 : Int64)) / rr)), .second, .val (.long dd), .second, .val (.ref b140), .val (.int (1 : Int32)), .val (.int (0 : Int32))] [])) _
                refine XS.iconst X146.here hx rfl (hb hby at_331) ?_
                exact kt)
            obtain ⟨fs, hr, hrun, hended, hW, hsame⟩ := X146.leave (v := some (.int (0 : Int32))) (fun h => by rw [Bd.returns] at h; cases h) Bd.notSynchronized
            refine ⟨_, _, pre159 _ ?_, hrun, hended, _, _, rfl, ?_, ⟨_, rfl⟩, hW, hsame.mono (by decide) (by decide)⟩
            · show Steps p.tables e below (T146.setTop (mkF m 332 #[.val (.int pr), .val (.int ps), .val (.long pt), .second, .val (.long pd), .second, .val (.int pm), .val (.ref b2), .val (.long rr), .second, .val (.long ((ps &&& (1048575 : Int32)).toInt64)), .second, .val (.long (((ps &&& (1048575 : Int32)).toInt64) * (1000000000 : Int64))), .second, .val (.long ((((ps &&& (1048575 : Int32)).toInt64) * (1000000000 : Int64)) / rr)), .second, .val (.long ((((((ps &&& (1048575 : Int32)).toInt64) * (1000000000 : Int64)) + rr) - (1 : Int64)) / rr)), .second, .val (.long dd), .second, .val (.ref b140), .val (.int (1 : Int32)), .val (.int (0 : Int32))] [(.int (0 : Int32))])) _
              exact retN X146 hx (t := .boolean) Bd.returns (by simp) (hb hby at_332) hr
            · show Q_own_rm0 Z pr ps pt pd pm h0 n0 _ T146.heap _
              rw [e146]
              exact (own_kD (own_msk ps) hR1 hd hD hc319_157).elim
        · -- no at pc 306: ttftt
          have pre160 : Goes p e below s₁ (entryFrame m #[(.int pr), (.int ps), (.long pt), (.long pd), (.int pm)] maxLocals) T146 (mkF m 311 #[.val (.int pr), .val (.int ps), .val (.long pt), .second, .val (.long pd), .second, .val (.int pm), .val (.ref b2), .val (.long rr), .second, .val (.long ((ps &&& (1048575 : Int32)).toInt64)), .second, .val (.long (((ps &&& (1048575 : Int32)).toInt64) * (1000000000 : Int64))), .second, .val (.long ((((ps &&& (1048575 : Int32)).toInt64) * (1000000000 : Int64)) / rr)), .second, .val (.long ((((((ps &&& (1048575 : Int32)).toInt64) * (1000000000 : Int64)) + rr) - (1 : Int64)) / rr)), .second, .val (.long dd), .second, .val (.ref b140), .val (.int (1 : Int32)), .val (.int (0 : Int32))] [(.int (1 : Int32))]) := fun t kt => pre154 t (by
              show Steps p.tables e below (T146.setTop (mkF m 306 #[.val (.int pr), .val (.int ps), .val (.long pt), .second, .val (.long pd), .second, .val (.int pm), .val (.ref b2), .val (.long rr), .second, .val (.long ((ps &&& (1048575 : Int32)).toInt64)), .second, .val (.long (((ps &&& (1048575 : Int32)).toInt64) * (1000000000 : Int64))), .second, .val (.long ((((ps &&& (1048575 : Int32)).toInt64) * (1000000000 : Int64)) / rr)), .second, .val (.long ((((((ps &&& (1048575 : Int32)).toInt64) * (1000000000 : Int64)) + rr) - (1 : Int64)) / rr)), .second, .val (.long dd), .second, .val (.ref b140), .val (.int (1 : Int32)), .val (.int (0 : Int32))] [(.int (lcmpW dd (((((((ps &&& (1048575 : Int32)).toInt64) * (1000000000 : Int64)) + rr) - (1 : Int64)) / rr) + (1 : Int64))))])) _
              refine XS.ifNo X146.here hx rfl (hb hby at_306) rfl ((if0 _ _).trans (flt hc306_155).1) ?_
              show Steps p.tables e below (T146.setTop (mkF m 309 #[.val (.int pr), .val (.int ps), .val (.long pt), .second, .val (.long pd), .second, .val (.int pm), .val (.ref b2), .val (.long rr), .second, .val (.long ((ps &&& (1048575 : Int32)).toInt64)), .second, .val (.long (((ps &&& (1048575 : Int32)).toInt64) * (1000000000 : Int64))), .second, .val (.long ((((ps &&& (1048575 : Int32)).toInt64) * (1000000000 : Int64)) / rr)), .second, .val (.long ((((((ps &&& (1048575 : Int32)).toInt64) * (1000000000 : Int64)) + rr) - (1 : Int64)) / rr)), .second, .val (.long dd), .second, .val (.ref b140), .val (.int (1 : Int32)), .val (.int (0 : Int32))] [])) _
              refine XS.iload X146.here hx rfl (hb hby at_309) rfl ?_
              exact kt)
          obtain ⟨fs, hr, hrun, hended, hW, hsame⟩ := X146.leave (v := some (.int (1 : Int32))) (fun h => by rw [Bd.returns] at h; cases h) Bd.notSynchronized
          refine ⟨_, _, pre160 _ ?_, hrun, hended, _, _, rfl, ?_, ⟨_, rfl⟩, hW, hsame.mono (by decide) (by decide)⟩
          · show Steps p.tables e below (T146.setTop (mkF m 311 #[.val (.int pr), .val (.int ps), .val (.long pt), .second, .val (.long pd), .second, .val (.int pm), .val (.ref b2), .val (.long rr), .second, .val (.long ((ps &&& (1048575 : Int32)).toInt64)), .second, .val (.long (((ps &&& (1048575 : Int32)).toInt64) * (1000000000 : Int64))), .second, .val (.long ((((ps &&& (1048575 : Int32)).toInt64) * (1000000000 : Int64)) / rr)), .second, .val (.long ((((((ps &&& (1048575 : Int32)).toInt64) * (1000000000 : Int64)) + rr) - (1 : Int64)) / rr)), .second, .val (.long dd), .second, .val (.ref b140), .val (.int (1 : Int32)), .val (.int (0 : Int32))] [(.int (1 : Int32))])) _
            exact retN X146 hx (t := .boolean) Bd.returns (by simp) (hb hby at_311) hr
          · show Q_own_rm0 Z pr ps pt pd pm h0 n0 _ T146.heap _
            rw [e146]
            exact ⟨rfl, N146⟩
    · -- due 0
      have pre161 : Goes p e below s₁ (entryFrame m #[(.int pr), (.int ps), (.long pt), (.long pd), (.int pm)] maxLocals) T146 (mkF m 260 #[.val (.int pr), .val (.int ps), .val (.long pt), .second, .val (.long pd), .second, .val (.int pm), .val (.ref b2), .val (.long rr), .second, .val (.long ((ps &&& (1048575 : Int32)).toInt64)), .second, .val (.long (((ps &&& (1048575 : Int32)).toInt64) * (1000000000 : Int64))), .second, .val (.long ((((ps &&& (1048575 : Int32)).toInt64) * (1000000000 : Int64)) / rr)), .second, .val (.long ((((((ps &&& (1048575 : Int32)).toInt64) * (1000000000 : Int64)) + rr) - (1 : Int64)) / rr)), .second, .val (.long dd), .second, .val (.ref b140), .val (.int (0 : Int32)), .unset] [(.int (lcmpW ((1000000000 : Int64) - ((1000000000 : Int64) / rr) * rr) (0 : Int64)))]) := fun t kt => pre147 t (by
          show Steps p.tables e below (T146.setTop (mkF m 243 #[.val (.int pr), .val (.int ps), .val (.long pt), .second, .val (.long pd), .second, .val (.int pm), .val (.ref b2), .val (.long rr), .second, .val (.long ((ps &&& (1048575 : Int32)).toInt64)), .second, .val (.long (((ps &&& (1048575 : Int32)).toInt64) * (1000000000 : Int64))), .second, .val (.long ((((ps &&& (1048575 : Int32)).toInt64) * (1000000000 : Int64)) / rr)), .second, .val (.long ((((((ps &&& (1048575 : Int32)).toInt64) * (1000000000 : Int64)) + rr) - (1 : Int64)) / rr)), .second, .val (.long dd), .second, .val (.ref b140), .unset, .unset] [(.int (0 : Int32))])) _
          refine XS.istore X146.here hx rfl (hb hby at_243) rfl (l' := #[.val (.int pr), .val (.int ps), .val (.long pt), .second, .val (.long pd), .second, .val (.int pm), .val (.ref b2), .val (.long rr), .second, .val (.long ((ps &&& (1048575 : Int32)).toInt64)), .second, .val (.long (((ps &&& (1048575 : Int32)).toInt64) * (1000000000 : Int64))), .second, .val (.long ((((ps &&& (1048575 : Int32)).toInt64) * (1000000000 : Int64)) / rr)), .second, .val (.long ((((((ps &&& (1048575 : Int32)).toInt64) * (1000000000 : Int64)) + rr) - (1 : Int64)) / rr)), .second, .val (.long dd), .second, .val (.ref b140), .val (.int (0 : Int32)), .unset]) rfl ?_
          show Steps p.tables e below (T146.setTop (mkF m 245 #[.val (.int pr), .val (.int ps), .val (.long pt), .second, .val (.long pd), .second, .val (.int pm), .val (.ref b2), .val (.long rr), .second, .val (.long ((ps &&& (1048575 : Int32)).toInt64)), .second, .val (.long (((ps &&& (1048575 : Int32)).toInt64) * (1000000000 : Int64))), .second, .val (.long ((((ps &&& (1048575 : Int32)).toInt64) * (1000000000 : Int64)) / rr)), .second, .val (.long ((((((ps &&& (1048575 : Int32)).toInt64) * (1000000000 : Int64)) + rr) - (1 : Int64)) / rr)), .second, .val (.long dd), .second, .val (.ref b140), .val (.int (0 : Int32)), .unset] [])) _
          refine XS.lload X146.here hx rfl (hb hby at_245) rfl ?_
          show Steps p.tables e below (T146.setTop (mkF m 247 #[.val (.int pr), .val (.int ps), .val (.long pt), .second, .val (.long pd), .second, .val (.int pm), .val (.ref b2), .val (.long rr), .second, .val (.long ((ps &&& (1048575 : Int32)).toInt64)), .second, .val (.long (((ps &&& (1048575 : Int32)).toInt64) * (1000000000 : Int64))), .second, .val (.long ((((ps &&& (1048575 : Int32)).toInt64) * (1000000000 : Int64)) / rr)), .second, .val (.long ((((((ps &&& (1048575 : Int32)).toInt64) * (1000000000 : Int64)) + rr) - (1 : Int64)) / rr)), .second, .val (.long dd), .second, .val (.ref b140), .val (.int (0 : Int32)), .unset] [(.long rr)])) _
          refine XS.lconst X146.here hx rfl (hb hby at_247) ?_
          show Steps p.tables e below (T146.setTop (mkF m 248 #[.val (.int pr), .val (.int ps), .val (.long pt), .second, .val (.long pd), .second, .val (.int pm), .val (.ref b2), .val (.long rr), .second, .val (.long ((ps &&& (1048575 : Int32)).toInt64)), .second, .val (.long (((ps &&& (1048575 : Int32)).toInt64) * (1000000000 : Int64))), .second, .val (.long ((((ps &&& (1048575 : Int32)).toInt64) * (1000000000 : Int64)) / rr)), .second, .val (.long ((((((ps &&& (1048575 : Int32)).toInt64) * (1000000000 : Int64)) + rr) - (1 : Int64)) / rr)), .second, .val (.long dd), .second, .val (.ref b140), .val (.int (0 : Int32)), .unset] [(.long (0 : Int64)), (.long rr)])) _
          refine XS.lcmp X146.here hx rfl (hb hby at_248) rfl ?_
          show Steps p.tables e below (T146.setTop (mkF m 249 #[.val (.int pr), .val (.int ps), .val (.long pt), .second, .val (.long pd), .second, .val (.int pm), .val (.ref b2), .val (.long rr), .second, .val (.long ((ps &&& (1048575 : Int32)).toInt64)), .second, .val (.long (((ps &&& (1048575 : Int32)).toInt64) * (1000000000 : Int64))), .second, .val (.long ((((ps &&& (1048575 : Int32)).toInt64) * (1000000000 : Int64)) / rr)), .second, .val (.long ((((((ps &&& (1048575 : Int32)).toInt64) * (1000000000 : Int64)) + rr) - (1 : Int64)) / rr)), .second, .val (.long dd), .second, .val (.ref b140), .val (.int (0 : Int32)), .unset] [(.int (lcmpW rr (0 : Int64)))])) _
          refine XS.ifNo X146.here hx rfl (hb hby at_249) rfl ((if0 _ _).trans (feq hc153_107).1) ?_
          show Steps p.tables e below (T146.setTop (mkF m 252 #[.val (.int pr), .val (.int ps), .val (.long pt), .second, .val (.long pd), .second, .val (.int pm), .val (.ref b2), .val (.long rr), .second, .val (.long ((ps &&& (1048575 : Int32)).toInt64)), .second, .val (.long (((ps &&& (1048575 : Int32)).toInt64) * (1000000000 : Int64))), .second, .val (.long ((((ps &&& (1048575 : Int32)).toInt64) * (1000000000 : Int64)) / rr)), .second, .val (.long ((((((ps &&& (1048575 : Int32)).toInt64) * (1000000000 : Int64)) + rr) - (1 : Int64)) / rr)), .second, .val (.long dd), .second, .val (.ref b140), .val (.int (0 : Int32)), .unset] [])) _
          refine X146.ldc2Long hx hown (mvT hZ (hw _ (List.mem_of_getElem? (i := 16) rfl))) (g := (mkF m 252 #[.val (.int pr), .val (.int ps), .val (.long pt), .second, .val (.long pd), .second, .val (.int pm), .val (.ref b2), .val (.long rr), .second, .val (.long ((ps &&& (1048575 : Int32)).toInt64)), .second, .val (.long (((ps &&& (1048575 : Int32)).toInt64) * (1000000000 : Int64))), .second, .val (.long ((((ps &&& (1048575 : Int32)).toInt64) * (1000000000 : Int64)) / rr)), .second, .val (.long ((((((ps &&& (1048575 : Int32)).toInt64) * (1000000000 : Int64)) + rr) - (1 : Int64)) / rr)), .second, .val (.long dd), .second, .val (.ref b140), .val (.int (0 : Int32)), .unset] [])) rfl (hb hby at_252) _ ?_
          show Steps p.tables e below (T146.setTop (mkF m 255 #[.val (.int pr), .val (.int ps), .val (.long pt), .second, .val (.long pd), .second, .val (.int pm), .val (.ref b2), .val (.long rr), .second, .val (.long ((ps &&& (1048575 : Int32)).toInt64)), .second, .val (.long (((ps &&& (1048575 : Int32)).toInt64) * (1000000000 : Int64))), .second, .val (.long ((((ps &&& (1048575 : Int32)).toInt64) * (1000000000 : Int64)) / rr)), .second, .val (.long ((((((ps &&& (1048575 : Int32)).toInt64) * (1000000000 : Int64)) + rr) - (1 : Int64)) / rr)), .second, .val (.long dd), .second, .val (.ref b140), .val (.int (0 : Int32)), .unset] [(.long (1000000000 : Int64))])) _
          refine XS.lload X146.here hx rfl (hb hby at_255) rfl ?_
          show Steps p.tables e below (T146.setTop (mkF m 257 #[.val (.int pr), .val (.int ps), .val (.long pt), .second, .val (.long pd), .second, .val (.int pm), .val (.ref b2), .val (.long rr), .second, .val (.long ((ps &&& (1048575 : Int32)).toInt64)), .second, .val (.long (((ps &&& (1048575 : Int32)).toInt64) * (1000000000 : Int64))), .second, .val (.long ((((ps &&& (1048575 : Int32)).toInt64) * (1000000000 : Int64)) / rr)), .second, .val (.long ((((((ps &&& (1048575 : Int32)).toInt64) * (1000000000 : Int64)) + rr) - (1 : Int64)) / rr)), .second, .val (.long dd), .second, .val (.ref b140), .val (.int (0 : Int32)), .unset] [(.long rr), (.long (1000000000 : Int64))])) _
          refine XS.lrem X146.here hx rfl (hb hby at_257) rfl (own_nz hc153_107) ?_
          show Steps p.tables e below (T146.setTop (mkF m 258 #[.val (.int pr), .val (.int ps), .val (.long pt), .second, .val (.long pd), .second, .val (.int pm), .val (.ref b2), .val (.long rr), .second, .val (.long ((ps &&& (1048575 : Int32)).toInt64)), .second, .val (.long (((ps &&& (1048575 : Int32)).toInt64) * (1000000000 : Int64))), .second, .val (.long ((((ps &&& (1048575 : Int32)).toInt64) * (1000000000 : Int64)) / rr)), .second, .val (.long ((((((ps &&& (1048575 : Int32)).toInt64) * (1000000000 : Int64)) + rr) - (1 : Int64)) / rr)), .second, .val (.long dd), .second, .val (.ref b140), .val (.int (0 : Int32)), .unset] [(.long ((1000000000 : Int64) - ((1000000000 : Int64) / rr) * rr))])) _
          refine XS.lconst X146.here hx rfl (hb hby at_258) ?_
          show Steps p.tables e below (T146.setTop (mkF m 259 #[.val (.int pr), .val (.int ps), .val (.long pt), .second, .val (.long pd), .second, .val (.int pm), .val (.ref b2), .val (.long rr), .second, .val (.long ((ps &&& (1048575 : Int32)).toInt64)), .second, .val (.long (((ps &&& (1048575 : Int32)).toInt64) * (1000000000 : Int64))), .second, .val (.long ((((ps &&& (1048575 : Int32)).toInt64) * (1000000000 : Int64)) / rr)), .second, .val (.long ((((((ps &&& (1048575 : Int32)).toInt64) * (1000000000 : Int64)) + rr) - (1 : Int64)) / rr)), .second, .val (.long dd), .second, .val (.ref b140), .val (.int (0 : Int32)), .unset] [(.long (0 : Int64)), (.long ((1000000000 : Int64) - ((1000000000 : Int64) / rr) * rr))])) _
          refine XS.lcmp X146.here hx rfl (hb hby at_259) rfl ?_
          exact kt)
      by_cases hc260_162 : (lcmpW ((1000000000 : Int64) - ((1000000000 : Int64) / rr) * rr) (0 : Int64)) = (0 : Int32)
      · -- yes at pc 260: ttf
        have pre163 : Goes p e below s₁ (entryFrame m #[(.int pr), (.int ps), (.long pt), (.long pd), (.int pm)] maxLocals) T146 (mkF m 282 #[.val (.int pr), .val (.int ps), .val (.long pt), .second, .val (.long pd), .second, .val (.int pm), .val (.ref b2), .val (.long rr), .second, .val (.long ((ps &&& (1048575 : Int32)).toInt64)), .second, .val (.long (((ps &&& (1048575 : Int32)).toInt64) * (1000000000 : Int64))), .second, .val (.long ((((ps &&& (1048575 : Int32)).toInt64) * (1000000000 : Int64)) / rr)), .second, .val (.long ((((((ps &&& (1048575 : Int32)).toInt64) * (1000000000 : Int64)) + rr) - (1 : Int64)) / rr)), .second, .val (.long dd), .second, .val (.ref b140), .val (.int (0 : Int32)), .val (.int (1 : Int32))] [(.int (lcmpW dd ((((((ps &&& (1048575 : Int32)).toInt64) * (1000000000 : Int64)) + rr) - (1 : Int64)) / rr))), (.int (0 : Int32))]) := fun t kt => pre161 t (by
            show Steps p.tables e below (T146.setTop (mkF m 260 #[.val (.int pr), .val (.int ps), .val (.long pt), .second, .val (.long pd), .second, .val (.int pm), .val (.ref b2), .val (.long rr), .second, .val (.long ((ps &&& (1048575 : Int32)).toInt64)), .second, .val (.long (((ps &&& (1048575 : Int32)).toInt64) * (1000000000 : Int64))), .second, .val (.long ((((ps &&& (1048575 : Int32)).toInt64) * (1000000000 : Int64)) / rr)), .second, .val (.long ((((((ps &&& (1048575 : Int32)).toInt64) * (1000000000 : Int64)) + rr) - (1 : Int64)) / rr)), .second, .val (.long dd), .second, .val (.ref b140), .val (.int (0 : Int32)), .unset] [(.int (lcmpW ((1000000000 : Int64) - ((1000000000 : Int64) / rr) * rr) (0 : Int64)))])) _
            refine XS.ifNo X146.here hx rfl (hb hby at_260) rfl ((if0 _ _).trans (teq hc260_162).2) ?_
            show Steps p.tables e below (T146.setTop (mkF m 263 #[.val (.int pr), .val (.int ps), .val (.long pt), .second, .val (.long pd), .second, .val (.int pm), .val (.ref b2), .val (.long rr), .second, .val (.long ((ps &&& (1048575 : Int32)).toInt64)), .second, .val (.long (((ps &&& (1048575 : Int32)).toInt64) * (1000000000 : Int64))), .second, .val (.long ((((ps &&& (1048575 : Int32)).toInt64) * (1000000000 : Int64)) / rr)), .second, .val (.long ((((((ps &&& (1048575 : Int32)).toInt64) * (1000000000 : Int64)) + rr) - (1 : Int64)) / rr)), .second, .val (.long dd), .second, .val (.ref b140), .val (.int (0 : Int32)), .unset] [])) _
            refine XS.iconst X146.here hx rfl (hb hby at_263) ?_
            show Steps p.tables e below (T146.setTop (mkF m 264 #[.val (.int pr), .val (.int ps), .val (.long pt), .second, .val (.long pd), .second, .val (.int pm), .val (.ref b2), .val (.long rr), .second, .val (.long ((ps &&& (1048575 : Int32)).toInt64)), .second, .val (.long (((ps &&& (1048575 : Int32)).toInt64) * (1000000000 : Int64))), .second, .val (.long ((((ps &&& (1048575 : Int32)).toInt64) * (1000000000 : Int64)) / rr)), .second, .val (.long ((((((ps &&& (1048575 : Int32)).toInt64) * (1000000000 : Int64)) + rr) - (1 : Int64)) / rr)), .second, .val (.long dd), .second, .val (.ref b140), .val (.int (0 : Int32)), .unset] [(.int (1 : Int32))])) _
            refine XS.goto X146.here hx rfl (pc0 := 264) (pc' := 268) rfl (hb hby at_264) (by decide) (by decide) ?_
            show Steps p.tables e below (T146.setTop (mkF m 268 #[.val (.int pr), .val (.int ps), .val (.long pt), .second, .val (.long pd), .second, .val (.int pm), .val (.ref b2), .val (.long rr), .second, .val (.long ((ps &&& (1048575 : Int32)).toInt64)), .second, .val (.long (((ps &&& (1048575 : Int32)).toInt64) * (1000000000 : Int64))), .second, .val (.long ((((ps &&& (1048575 : Int32)).toInt64) * (1000000000 : Int64)) / rr)), .second, .val (.long ((((((ps &&& (1048575 : Int32)).toInt64) * (1000000000 : Int64)) + rr) - (1 : Int64)) / rr)), .second, .val (.long dd), .second, .val (.ref b140), .val (.int (0 : Int32)), .unset] [(.int (1 : Int32))])) _
            refine XS.istore X146.here hx rfl (hb hby at_268) rfl (l' := #[.val (.int pr), .val (.int ps), .val (.long pt), .second, .val (.long pd), .second, .val (.int pm), .val (.ref b2), .val (.long rr), .second, .val (.long ((ps &&& (1048575 : Int32)).toInt64)), .second, .val (.long (((ps &&& (1048575 : Int32)).toInt64) * (1000000000 : Int64))), .second, .val (.long ((((ps &&& (1048575 : Int32)).toInt64) * (1000000000 : Int64)) / rr)), .second, .val (.long ((((((ps &&& (1048575 : Int32)).toInt64) * (1000000000 : Int64)) + rr) - (1 : Int64)) / rr)), .second, .val (.long dd), .second, .val (.ref b140), .val (.int (0 : Int32)), .val (.int (1 : Int32))]) rfl ?_
            show Steps p.tables e below (T146.setTop (mkF m 270 #[.val (.int pr), .val (.int ps), .val (.long pt), .second, .val (.long pd), .second, .val (.int pm), .val (.ref b2), .val (.long rr), .second, .val (.long ((ps &&& (1048575 : Int32)).toInt64)), .second, .val (.long (((ps &&& (1048575 : Int32)).toInt64) * (1000000000 : Int64))), .second, .val (.long ((((ps &&& (1048575 : Int32)).toInt64) * (1000000000 : Int64)) / rr)), .second, .val (.long ((((((ps &&& (1048575 : Int32)).toInt64) * (1000000000 : Int64)) + rr) - (1 : Int64)) / rr)), .second, .val (.long dd), .second, .val (.ref b140), .val (.int (0 : Int32)), .val (.int (1 : Int32))] [])) _
            refine XS.iload X146.here hx rfl (hb hby at_270) rfl ?_
            show Steps p.tables e below (T146.setTop (mkF m 272 #[.val (.int pr), .val (.int ps), .val (.long pt), .second, .val (.long pd), .second, .val (.int pm), .val (.ref b2), .val (.long rr), .second, .val (.long ((ps &&& (1048575 : Int32)).toInt64)), .second, .val (.long (((ps &&& (1048575 : Int32)).toInt64) * (1000000000 : Int64))), .second, .val (.long ((((ps &&& (1048575 : Int32)).toInt64) * (1000000000 : Int64)) / rr)), .second, .val (.long ((((((ps &&& (1048575 : Int32)).toInt64) * (1000000000 : Int64)) + rr) - (1 : Int64)) / rr)), .second, .val (.long dd), .second, .val (.ref b140), .val (.int (0 : Int32)), .val (.int (1 : Int32))] [(.int (1 : Int32))])) _
            refine XS.ifNo X146.here hx rfl (hb hby at_272) rfl ((if0 _ _).trans (feq (by decide : ¬ ((1 : Int32) = (0 : Int32)))).1) ?_
            show Steps p.tables e below (T146.setTop (mkF m 275 #[.val (.int pr), .val (.int ps), .val (.long pt), .second, .val (.long pd), .second, .val (.int pm), .val (.ref b2), .val (.long rr), .second, .val (.long ((ps &&& (1048575 : Int32)).toInt64)), .second, .val (.long (((ps &&& (1048575 : Int32)).toInt64) * (1000000000 : Int64))), .second, .val (.long ((((ps &&& (1048575 : Int32)).toInt64) * (1000000000 : Int64)) / rr)), .second, .val (.long ((((((ps &&& (1048575 : Int32)).toInt64) * (1000000000 : Int64)) + rr) - (1 : Int64)) / rr)), .second, .val (.long dd), .second, .val (.ref b140), .val (.int (0 : Int32)), .val (.int (1 : Int32))] [])) _
            refine XS.iload X146.here hx rfl (hb hby at_275) rfl ?_
            show Steps p.tables e below (T146.setTop (mkF m 277 #[.val (.int pr), .val (.int ps), .val (.long pt), .second, .val (.long pd), .second, .val (.int pm), .val (.ref b2), .val (.long rr), .second, .val (.long ((ps &&& (1048575 : Int32)).toInt64)), .second, .val (.long (((ps &&& (1048575 : Int32)).toInt64) * (1000000000 : Int64))), .second, .val (.long ((((ps &&& (1048575 : Int32)).toInt64) * (1000000000 : Int64)) / rr)), .second, .val (.long ((((((ps &&& (1048575 : Int32)).toInt64) * (1000000000 : Int64)) + rr) - (1 : Int64)) / rr)), .second, .val (.long dd), .second, .val (.ref b140), .val (.int (0 : Int32)), .val (.int (1 : Int32))] [(.int (0 : Int32))])) _
            refine XS.lload X146.here hx rfl (hb hby at_277) rfl ?_
            show Steps p.tables e below (T146.setTop (mkF m 279 #[.val (.int pr), .val (.int ps), .val (.long pt), .second, .val (.long pd), .second, .val (.int pm), .val (.ref b2), .val (.long rr), .second, .val (.long ((ps &&& (1048575 : Int32)).toInt64)), .second, .val (.long (((ps &&& (1048575 : Int32)).toInt64) * (1000000000 : Int64))), .second, .val (.long ((((ps &&& (1048575 : Int32)).toInt64) * (1000000000 : Int64)) / rr)), .second, .val (.long ((((((ps &&& (1048575 : Int32)).toInt64) * (1000000000 : Int64)) + rr) - (1 : Int64)) / rr)), .second, .val (.long dd), .second, .val (.ref b140), .val (.int (0 : Int32)), .val (.int (1 : Int32))] [(.long dd), (.int (0 : Int32))])) _
            refine XS.lload X146.here hx rfl (hb hby at_279) rfl ?_
            show Steps p.tables e below (T146.setTop (mkF m 281 #[.val (.int pr), .val (.int ps), .val (.long pt), .second, .val (.long pd), .second, .val (.int pm), .val (.ref b2), .val (.long rr), .second, .val (.long ((ps &&& (1048575 : Int32)).toInt64)), .second, .val (.long (((ps &&& (1048575 : Int32)).toInt64) * (1000000000 : Int64))), .second, .val (.long ((((ps &&& (1048575 : Int32)).toInt64) * (1000000000 : Int64)) / rr)), .second, .val (.long ((((((ps &&& (1048575 : Int32)).toInt64) * (1000000000 : Int64)) + rr) - (1 : Int64)) / rr)), .second, .val (.long dd), .second, .val (.ref b140), .val (.int (0 : Int32)), .val (.int (1 : Int32))] [(.long ((((((ps &&& (1048575 : Int32)).toInt64) * (1000000000 : Int64)) + rr) - (1 : Int64)) / rr)), (.long dd), (.int (0 : Int32))])) _
            refine XS.lcmp X146.here hx rfl (hb hby at_281) rfl ?_
            exact kt)
        by_cases hc282_164 : (lcmpW dd ((((((ps &&& (1048575 : Int32)).toInt64) * (1000000000 : Int64)) + rr) - (1 : Int64)) / rr)) < (0 : Int32)
        · -- yes at pc 282: ttfff
          have pre165 : Goes p e below s₁ (entryFrame m #[(.int pr), (.int ps), (.long pt), (.long pd), (.int pm)] maxLocals) T146 (mkF m 298 #[.val (.int pr), .val (.int ps), .val (.long pt), .second, .val (.long pd), .second, .val (.int pm), .val (.ref b2), .val (.long rr), .second, .val (.long ((ps &&& (1048575 : Int32)).toInt64)), .second, .val (.long (((ps &&& (1048575 : Int32)).toInt64) * (1000000000 : Int64))), .second, .val (.long ((((ps &&& (1048575 : Int32)).toInt64) * (1000000000 : Int64)) / rr)), .second, .val (.long ((((((ps &&& (1048575 : Int32)).toInt64) * (1000000000 : Int64)) + rr) - (1 : Int64)) / rr)), .second, .val (.long dd), .second, .val (.ref b140), .val (.int (0 : Int32)), .val (.int (1 : Int32))] [(.int (1 : Int32))]) := fun t kt => pre163 t (by
              show Steps p.tables e below (T146.setTop (mkF m 282 #[.val (.int pr), .val (.int ps), .val (.long pt), .second, .val (.long pd), .second, .val (.int pm), .val (.ref b2), .val (.long rr), .second, .val (.long ((ps &&& (1048575 : Int32)).toInt64)), .second, .val (.long (((ps &&& (1048575 : Int32)).toInt64) * (1000000000 : Int64))), .second, .val (.long ((((ps &&& (1048575 : Int32)).toInt64) * (1000000000 : Int64)) / rr)), .second, .val (.long ((((((ps &&& (1048575 : Int32)).toInt64) * (1000000000 : Int64)) + rr) - (1 : Int64)) / rr)), .second, .val (.long dd), .second, .val (.ref b140), .val (.int (0 : Int32)), .val (.int (1 : Int32))] [(.int (lcmpW dd ((((((ps &&& (1048575 : Int32)).toInt64) * (1000000000 : Int64)) + rr) - (1 : Int64)) / rr))), (.int (0 : Int32))])) _
              refine XS.ifYes X146.here hx rfl (pc0 := 282) (pc' := 289) rfl (hb hby at_282) rfl ((if0 _ _).trans (tlt hc282_164).1) (by decide) (by decide) ?_
              show Steps p.tables e below (T146.setTop (mkF m 289 #[.val (.int pr), .val (.int ps), .val (.long pt), .second, .val (.long pd), .second, .val (.int pm), .val (.ref b2), .val (.long rr), .second, .val (.long ((ps &&& (1048575 : Int32)).toInt64)), .second, .val (.long (((ps &&& (1048575 : Int32)).toInt64) * (1000000000 : Int64))), .second, .val (.long ((((ps &&& (1048575 : Int32)).toInt64) * (1000000000 : Int64)) / rr)), .second, .val (.long ((((((ps &&& (1048575 : Int32)).toInt64) * (1000000000 : Int64)) + rr) - (1 : Int64)) / rr)), .second, .val (.long dd), .second, .val (.ref b140), .val (.int (0 : Int32)), .val (.int (1 : Int32))] [(.int (0 : Int32))])) _
              refine XS.iconst X146.here hx rfl (hb hby at_289) ?_
              show Steps p.tables e below (T146.setTop (mkF m 290 #[.val (.int pr), .val (.int ps), .val (.long pt), .second, .val (.long pd), .second, .val (.int pm), .val (.ref b2), .val (.long rr), .second, .val (.long ((ps &&& (1048575 : Int32)).toInt64)), .second, .val (.long (((ps &&& (1048575 : Int32)).toInt64) * (1000000000 : Int64))), .second, .val (.long ((((ps &&& (1048575 : Int32)).toInt64) * (1000000000 : Int64)) / rr)), .second, .val (.long ((((((ps &&& (1048575 : Int32)).toInt64) * (1000000000 : Int64)) + rr) - (1 : Int64)) / rr)), .second, .val (.long dd), .second, .val (.ref b140), .val (.int (0 : Int32)), .val (.int (1 : Int32))] [(.int (0 : Int32)), (.int (0 : Int32))])) _
              refine XS.icmpNo X146.here hx rfl (hb hby at_290) rfl (teq (by decide : (0 : Int32) = (0 : Int32))).2 ?_
              show Steps p.tables e below (T146.setTop (mkF m 293 #[.val (.int pr), .val (.int ps), .val (.long pt), .second, .val (.long pd), .second, .val (.int pm), .val (.ref b2), .val (.long rr), .second, .val (.long ((ps &&& (1048575 : Int32)).toInt64)), .second, .val (.long (((ps &&& (1048575 : Int32)).toInt64) * (1000000000 : Int64))), .second, .val (.long ((((ps &&& (1048575 : Int32)).toInt64) * (1000000000 : Int64)) / rr)), .second, .val (.long ((((((ps &&& (1048575 : Int32)).toInt64) * (1000000000 : Int64)) + rr) - (1 : Int64)) / rr)), .second, .val (.long dd), .second, .val (.ref b140), .val (.int (0 : Int32)), .val (.int (1 : Int32))] [])) _
              refine XS.iconst X146.here hx rfl (hb hby at_293) ?_
              show Steps p.tables e below (T146.setTop (mkF m 294 #[.val (.int pr), .val (.int ps), .val (.long pt), .second, .val (.long pd), .second, .val (.int pm), .val (.ref b2), .val (.long rr), .second, .val (.long ((ps &&& (1048575 : Int32)).toInt64)), .second, .val (.long (((ps &&& (1048575 : Int32)).toInt64) * (1000000000 : Int64))), .second, .val (.long ((((ps &&& (1048575 : Int32)).toInt64) * (1000000000 : Int64)) / rr)), .second, .val (.long ((((((ps &&& (1048575 : Int32)).toInt64) * (1000000000 : Int64)) + rr) - (1 : Int64)) / rr)), .second, .val (.long dd), .second, .val (.ref b140), .val (.int (0 : Int32)), .val (.int (1 : Int32))] [(.int (1 : Int32))])) _
              refine XS.goto X146.here hx rfl (pc0 := 294) (pc' := 298) rfl (hb hby at_294) (by decide) (by decide) ?_
              exact kt)
          obtain ⟨fs, hr, hrun, hended, hW, hsame⟩ := X146.leave (v := some (.int (1 : Int32))) (fun h => by rw [Bd.returns] at h; cases h) Bd.notSynchronized
          refine ⟨_, _, pre165 _ ?_, hrun, hended, _, _, rfl, ?_, ⟨_, rfl⟩, hW, hsame.mono (by decide) (by decide)⟩
          · show Steps p.tables e below (T146.setTop (mkF m 298 #[.val (.int pr), .val (.int ps), .val (.long pt), .second, .val (.long pd), .second, .val (.int pm), .val (.ref b2), .val (.long rr), .second, .val (.long ((ps &&& (1048575 : Int32)).toInt64)), .second, .val (.long (((ps &&& (1048575 : Int32)).toInt64) * (1000000000 : Int64))), .second, .val (.long ((((ps &&& (1048575 : Int32)).toInt64) * (1000000000 : Int64)) / rr)), .second, .val (.long ((((((ps &&& (1048575 : Int32)).toInt64) * (1000000000 : Int64)) + rr) - (1 : Int64)) / rr)), .second, .val (.long dd), .second, .val (.ref b140), .val (.int (0 : Int32)), .val (.int (1 : Int32))] [(.int (1 : Int32))])) _
            exact retN X146 hx (t := .boolean) Bd.returns (by simp) (hb hby at_298) hr
          · show Q_own_rm0 Z pr ps pt pd pm h0 n0 _ T146.heap _
            rw [e146]
            exact ⟨rfl, N146⟩
        · -- no at pc 282: ttfff
          have pre166 : Goes p e below s₁ (entryFrame m #[(.int pr), (.int ps), (.long pt), (.long pd), (.int pm)] maxLocals) T146 (mkF m 298 #[.val (.int pr), .val (.int ps), .val (.long pt), .second, .val (.long pd), .second, .val (.int pm), .val (.ref b2), .val (.long rr), .second, .val (.long ((ps &&& (1048575 : Int32)).toInt64)), .second, .val (.long (((ps &&& (1048575 : Int32)).toInt64) * (1000000000 : Int64))), .second, .val (.long ((((ps &&& (1048575 : Int32)).toInt64) * (1000000000 : Int64)) / rr)), .second, .val (.long ((((((ps &&& (1048575 : Int32)).toInt64) * (1000000000 : Int64)) + rr) - (1 : Int64)) / rr)), .second, .val (.long dd), .second, .val (.ref b140), .val (.int (0 : Int32)), .val (.int (1 : Int32))] [(.int (0 : Int32))]) := fun t kt => pre163 t (by
              show Steps p.tables e below (T146.setTop (mkF m 282 #[.val (.int pr), .val (.int ps), .val (.long pt), .second, .val (.long pd), .second, .val (.int pm), .val (.ref b2), .val (.long rr), .second, .val (.long ((ps &&& (1048575 : Int32)).toInt64)), .second, .val (.long (((ps &&& (1048575 : Int32)).toInt64) * (1000000000 : Int64))), .second, .val (.long ((((ps &&& (1048575 : Int32)).toInt64) * (1000000000 : Int64)) / rr)), .second, .val (.long ((((((ps &&& (1048575 : Int32)).toInt64) * (1000000000 : Int64)) + rr) - (1 : Int64)) / rr)), .second, .val (.long dd), .second, .val (.ref b140), .val (.int (0 : Int32)), .val (.int (1 : Int32))] [(.int (lcmpW dd ((((((ps &&& (1048575 : Int32)).toInt64) * (1000000000 : Int64)) + rr) - (1 : Int64)) / rr))), (.int (0 : Int32))])) _
              refine XS.ifNo X146.here hx rfl (hb hby at_282) rfl ((if0 _ _).trans (flt hc282_164).1) ?_
              show Steps p.tables e below (T146.setTop (mkF m 285 #[.val (.int pr), .val (.int ps), .val (.long pt), .second, .val (.long pd), .second, .val (.int pm), .val (.ref b2), .val (.long rr), .second, .val (.long ((ps &&& (1048575 : Int32)).toInt64)), .second, .val (.long (((ps &&& (1048575 : Int32)).toInt64) * (1000000000 : Int64))), .second, .val (.long ((((ps &&& (1048575 : Int32)).toInt64) * (1000000000 : Int64)) / rr)), .second, .val (.long ((((((ps &&& (1048575 : Int32)).toInt64) * (1000000000 : Int64)) + rr) - (1 : Int64)) / rr)), .second, .val (.long dd), .second, .val (.ref b140), .val (.int (0 : Int32)), .val (.int (1 : Int32))] [(.int (0 : Int32))])) _
              refine XS.iconst X146.here hx rfl (hb hby at_285) ?_
              show Steps p.tables e below (T146.setTop (mkF m 286 #[.val (.int pr), .val (.int ps), .val (.long pt), .second, .val (.long pd), .second, .val (.int pm), .val (.ref b2), .val (.long rr), .second, .val (.long ((ps &&& (1048575 : Int32)).toInt64)), .second, .val (.long (((ps &&& (1048575 : Int32)).toInt64) * (1000000000 : Int64))), .second, .val (.long ((((ps &&& (1048575 : Int32)).toInt64) * (1000000000 : Int64)) / rr)), .second, .val (.long ((((((ps &&& (1048575 : Int32)).toInt64) * (1000000000 : Int64)) + rr) - (1 : Int64)) / rr)), .second, .val (.long dd), .second, .val (.ref b140), .val (.int (0 : Int32)), .val (.int (1 : Int32))] [(.int (1 : Int32)), (.int (0 : Int32))])) _
              refine XS.goto X146.here hx rfl (pc0 := 286) (pc' := 290) rfl (hb hby at_286) (by decide) (by decide) ?_
              show Steps p.tables e below (T146.setTop (mkF m 290 #[.val (.int pr), .val (.int ps), .val (.long pt), .second, .val (.long pd), .second, .val (.int pm), .val (.ref b2), .val (.long rr), .second, .val (.long ((ps &&& (1048575 : Int32)).toInt64)), .second, .val (.long (((ps &&& (1048575 : Int32)).toInt64) * (1000000000 : Int64))), .second, .val (.long ((((ps &&& (1048575 : Int32)).toInt64) * (1000000000 : Int64)) / rr)), .second, .val (.long ((((((ps &&& (1048575 : Int32)).toInt64) * (1000000000 : Int64)) + rr) - (1 : Int64)) / rr)), .second, .val (.long dd), .second, .val (.ref b140), .val (.int (0 : Int32)), .val (.int (1 : Int32))] [(.int (1 : Int32)), (.int (0 : Int32))])) _
              refine XS.icmpYes X146.here hx rfl (pc0 := 290) (pc' := 297) rfl (hb hby at_290) rfl (feq (by decide : ¬ ((0 : Int32) = (1 : Int32)))).2 (by decide) (by decide) ?_
              show Steps p.tables e below (T146.setTop (mkF m 297 #[.val (.int pr), .val (.int ps), .val (.long pt), .second, .val (.long pd), .second, .val (.int pm), .val (.ref b2), .val (.long rr), .second, .val (.long ((ps &&& (1048575 : Int32)).toInt64)), .second, .val (.long (((ps &&& (1048575 : Int32)).toInt64) * (1000000000 : Int64))), .second, .val (.long ((((ps &&& (1048575 : Int32)).toInt64) * (1000000000 : Int64)) / rr)), .second, .val (.long ((((((ps &&& (1048575 : Int32)).toInt64) * (1000000000 : Int64)) + rr) - (1 : Int64)) / rr)), .second, .val (.long dd), .second, .val (.ref b140), .val (.int (0 : Int32)), .val (.int (1 : Int32))] [])) _
              refine XS.iconst X146.here hx rfl (hb hby at_297) ?_
              exact kt)
          obtain ⟨fs, hr, hrun, hended, hW, hsame⟩ := X146.leave (v := some (.int (0 : Int32))) (fun h => by rw [Bd.returns] at h; cases h) Bd.notSynchronized
          refine ⟨_, _, pre166 _ ?_, hrun, hended, _, _, rfl, ?_, ⟨_, rfl⟩, hW, hsame.mono (by decide) (by decide)⟩
          · show Steps p.tables e below (T146.setTop (mkF m 298 #[.val (.int pr), .val (.int ps), .val (.long pt), .second, .val (.long pd), .second, .val (.int pm), .val (.ref b2), .val (.long rr), .second, .val (.long ((ps &&& (1048575 : Int32)).toInt64)), .second, .val (.long (((ps &&& (1048575 : Int32)).toInt64) * (1000000000 : Int64))), .second, .val (.long ((((ps &&& (1048575 : Int32)).toInt64) * (1000000000 : Int64)) / rr)), .second, .val (.long ((((((ps &&& (1048575 : Int32)).toInt64) * (1000000000 : Int64)) + rr) - (1 : Int64)) / rr)), .second, .val (.long dd), .second, .val (.ref b140), .val (.int (0 : Int32)), .val (.int (1 : Int32))] [(.int (0 : Int32))])) _
            exact retN X146 hx (t := .boolean) Bd.returns (by simp) (hb hby at_298) hr
          · show Q_own_rm0 Z pr ps pt pd pm h0 n0 _ T146.heap _
            rw [e146]
            exact (own_kE' (own_msk ps) hR1 hd hc260_162 hD hc282_164).elim
      · -- no at pc 260: ttf
        have pre167 : Goes p e below s₁ (entryFrame m #[(.int pr), (.int ps), (.long pt), (.long pd), (.int pm)] maxLocals) T146 (mkF m 306 #[.val (.int pr), .val (.int ps), .val (.long pt), .second, .val (.long pd), .second, .val (.int pm), .val (.ref b2), .val (.long rr), .second, .val (.long ((ps &&& (1048575 : Int32)).toInt64)), .second, .val (.long (((ps &&& (1048575 : Int32)).toInt64) * (1000000000 : Int64))), .second, .val (.long ((((ps &&& (1048575 : Int32)).toInt64) * (1000000000 : Int64)) / rr)), .second, .val (.long ((((((ps &&& (1048575 : Int32)).toInt64) * (1000000000 : Int64)) + rr) - (1 : Int64)) / rr)), .second, .val (.long dd), .second, .val (.ref b140), .val (.int (0 : Int32)), .val (.int (0 : Int32))] [(.int (lcmpW dd (((((((ps &&& (1048575 : Int32)).toInt64) * (1000000000 : Int64)) + rr) - (1 : Int64)) / rr) + (1 : Int64))))]) := fun t kt => pre161 t (by
            show Steps p.tables e below (T146.setTop (mkF m 260 #[.val (.int pr), .val (.int ps), .val (.long pt), .second, .val (.long pd), .second, .val (.int pm), .val (.ref b2), .val (.long rr), .second, .val (.long ((ps &&& (1048575 : Int32)).toInt64)), .second, .val (.long (((ps &&& (1048575 : Int32)).toInt64) * (1000000000 : Int64))), .second, .val (.long ((((ps &&& (1048575 : Int32)).toInt64) * (1000000000 : Int64)) / rr)), .second, .val (.long ((((((ps &&& (1048575 : Int32)).toInt64) * (1000000000 : Int64)) + rr) - (1 : Int64)) / rr)), .second, .val (.long dd), .second, .val (.ref b140), .val (.int (0 : Int32)), .unset] [(.int (lcmpW ((1000000000 : Int64) - ((1000000000 : Int64) / rr) * rr) (0 : Int64)))])) _
            refine XS.ifYes X146.here hx rfl (pc0 := 260) (pc' := 267) rfl (hb hby at_260) rfl ((if0 _ _).trans (feq hc260_162).2) (by decide) (by decide) ?_
            show Steps p.tables e below (T146.setTop (mkF m 267 #[.val (.int pr), .val (.int ps), .val (.long pt), .second, .val (.long pd), .second, .val (.int pm), .val (.ref b2), .val (.long rr), .second, .val (.long ((ps &&& (1048575 : Int32)).toInt64)), .second, .val (.long (((ps &&& (1048575 : Int32)).toInt64) * (1000000000 : Int64))), .second, .val (.long ((((ps &&& (1048575 : Int32)).toInt64) * (1000000000 : Int64)) / rr)), .second, .val (.long ((((((ps &&& (1048575 : Int32)).toInt64) * (1000000000 : Int64)) + rr) - (1 : Int64)) / rr)), .second, .val (.long dd), .second, .val (.ref b140), .val (.int (0 : Int32)), .unset] [])) _
            refine XS.iconst X146.here hx rfl (hb hby at_267) ?_
            show Steps p.tables e below (T146.setTop (mkF m 268 #[.val (.int pr), .val (.int ps), .val (.long pt), .second, .val (.long pd), .second, .val (.int pm), .val (.ref b2), .val (.long rr), .second, .val (.long ((ps &&& (1048575 : Int32)).toInt64)), .second, .val (.long (((ps &&& (1048575 : Int32)).toInt64) * (1000000000 : Int64))), .second, .val (.long ((((ps &&& (1048575 : Int32)).toInt64) * (1000000000 : Int64)) / rr)), .second, .val (.long ((((((ps &&& (1048575 : Int32)).toInt64) * (1000000000 : Int64)) + rr) - (1 : Int64)) / rr)), .second, .val (.long dd), .second, .val (.ref b140), .val (.int (0 : Int32)), .unset] [(.int (0 : Int32))])) _
            refine XS.istore X146.here hx rfl (hb hby at_268) rfl (l' := #[.val (.int pr), .val (.int ps), .val (.long pt), .second, .val (.long pd), .second, .val (.int pm), .val (.ref b2), .val (.long rr), .second, .val (.long ((ps &&& (1048575 : Int32)).toInt64)), .second, .val (.long (((ps &&& (1048575 : Int32)).toInt64) * (1000000000 : Int64))), .second, .val (.long ((((ps &&& (1048575 : Int32)).toInt64) * (1000000000 : Int64)) / rr)), .second, .val (.long ((((((ps &&& (1048575 : Int32)).toInt64) * (1000000000 : Int64)) + rr) - (1 : Int64)) / rr)), .second, .val (.long dd), .second, .val (.ref b140), .val (.int (0 : Int32)), .val (.int (0 : Int32))]) rfl ?_
            show Steps p.tables e below (T146.setTop (mkF m 270 #[.val (.int pr), .val (.int ps), .val (.long pt), .second, .val (.long pd), .second, .val (.int pm), .val (.ref b2), .val (.long rr), .second, .val (.long ((ps &&& (1048575 : Int32)).toInt64)), .second, .val (.long (((ps &&& (1048575 : Int32)).toInt64) * (1000000000 : Int64))), .second, .val (.long ((((ps &&& (1048575 : Int32)).toInt64) * (1000000000 : Int64)) / rr)), .second, .val (.long ((((((ps &&& (1048575 : Int32)).toInt64) * (1000000000 : Int64)) + rr) - (1 : Int64)) / rr)), .second, .val (.long dd), .second, .val (.ref b140), .val (.int (0 : Int32)), .val (.int (0 : Int32))] [])) _
            refine XS.iload X146.here hx rfl (hb hby at_270) rfl ?_
            show Steps p.tables e below (T146.setTop (mkF m 272 #[.val (.int pr), .val (.int ps), .val (.long pt), .second, .val (.long pd), .second, .val (.int pm), .val (.ref b2), .val (.long rr), .second, .val (.long ((ps &&& (1048575 : Int32)).toInt64)), .second, .val (.long (((ps &&& (1048575 : Int32)).toInt64) * (1000000000 : Int64))), .second, .val (.long ((((ps &&& (1048575 : Int32)).toInt64) * (1000000000 : Int64)) / rr)), .second, .val (.long ((((((ps &&& (1048575 : Int32)).toInt64) * (1000000000 : Int64)) + rr) - (1 : Int64)) / rr)), .second, .val (.long dd), .second, .val (.ref b140), .val (.int (0 : Int32)), .val (.int (0 : Int32))] [(.int (0 : Int32))])) _
            refine XS.ifYes X146.here hx rfl (pc0 := 272) (pc' := 299) rfl (hb hby at_272) rfl ((if0 _ _).trans (teq (by decide : (0 : Int32) = (0 : Int32))).1) (by decide) (by decide) ?_
            show Steps p.tables e below (T146.setTop (mkF m 299 #[.val (.int pr), .val (.int ps), .val (.long pt), .second, .val (.long pd), .second, .val (.int pm), .val (.ref b2), .val (.long rr), .second, .val (.long ((ps &&& (1048575 : Int32)).toInt64)), .second, .val (.long (((ps &&& (1048575 : Int32)).toInt64) * (1000000000 : Int64))), .second, .val (.long ((((ps &&& (1048575 : Int32)).toInt64) * (1000000000 : Int64)) / rr)), .second, .val (.long ((((((ps &&& (1048575 : Int32)).toInt64) * (1000000000 : Int64)) + rr) - (1 : Int64)) / rr)), .second, .val (.long dd), .second, .val (.ref b140), .val (.int (0 : Int32)), .val (.int (0 : Int32))] [])) _
            refine XS.lload X146.here hx rfl (hb hby at_299) rfl ?_
            show Steps p.tables e below (T146.setTop (mkF m 301 #[.val (.int pr), .val (.int ps), .val (.long pt), .second, .val (.long pd), .second, .val (.int pm), .val (.ref b2), .val (.long rr), .second, .val (.long ((ps &&& (1048575 : Int32)).toInt64)), .second, .val (.long (((ps &&& (1048575 : Int32)).toInt64) * (1000000000 : Int64))), .second, .val (.long ((((ps &&& (1048575 : Int32)).toInt64) * (1000000000 : Int64)) / rr)), .second, .val (.long ((((((ps &&& (1048575 : Int32)).toInt64) * (1000000000 : Int64)) + rr) - (1 : Int64)) / rr)), .second, .val (.long dd), .second, .val (.ref b140), .val (.int (0 : Int32)), .val (.int (0 : Int32))] [(.long dd)])) _
            refine XS.lload X146.here hx rfl (hb hby at_301) rfl ?_
            show Steps p.tables e below (T146.setTop (mkF m 303 #[.val (.int pr), .val (.int ps), .val (.long pt), .second, .val (.long pd), .second, .val (.int pm), .val (.ref b2), .val (.long rr), .second, .val (.long ((ps &&& (1048575 : Int32)).toInt64)), .second, .val (.long (((ps &&& (1048575 : Int32)).toInt64) * (1000000000 : Int64))), .second, .val (.long ((((ps &&& (1048575 : Int32)).toInt64) * (1000000000 : Int64)) / rr)), .second, .val (.long ((((((ps &&& (1048575 : Int32)).toInt64) * (1000000000 : Int64)) + rr) - (1 : Int64)) / rr)), .second, .val (.long dd), .second, .val (.ref b140), .val (.int (0 : Int32)), .val (.int (0 : Int32))] [(.long ((((((ps &&& (1048575 : Int32)).toInt64) * (1000000000 : Int64)) + rr) - (1 : Int64)) / rr)), (.long dd)])) _
            refine XS.lconst X146.here hx rfl (hb hby at_303) ?_
            show Steps p.tables e below (T146.setTop (mkF m 304 #[.val (.int pr), .val (.int ps), .val (.long pt), .second, .val (.long pd), .second, .val (.int pm), .val (.ref b2), .val (.long rr), .second, .val (.long ((ps &&& (1048575 : Int32)).toInt64)), .second, .val (.long (((ps &&& (1048575 : Int32)).toInt64) * (1000000000 : Int64))), .second, .val (.long ((((ps &&& (1048575 : Int32)).toInt64) * (1000000000 : Int64)) / rr)), .second, .val (.long ((((((ps &&& (1048575 : Int32)).toInt64) * (1000000000 : Int64)) + rr) - (1 : Int64)) / rr)), .second, .val (.long dd), .second, .val (.ref b140), .val (.int (0 : Int32)), .val (.int (0 : Int32))] [(.long (1 : Int64)), (.long ((((((ps &&& (1048575 : Int32)).toInt64) * (1000000000 : Int64)) + rr) - (1 : Int64)) / rr)), (.long dd)])) _
            refine XS.ladd X146.here hx rfl (hb hby at_304) rfl ?_
            show Steps p.tables e below (T146.setTop (mkF m 305 #[.val (.int pr), .val (.int ps), .val (.long pt), .second, .val (.long pd), .second, .val (.int pm), .val (.ref b2), .val (.long rr), .second, .val (.long ((ps &&& (1048575 : Int32)).toInt64)), .second, .val (.long (((ps &&& (1048575 : Int32)).toInt64) * (1000000000 : Int64))), .second, .val (.long ((((ps &&& (1048575 : Int32)).toInt64) * (1000000000 : Int64)) / rr)), .second, .val (.long ((((((ps &&& (1048575 : Int32)).toInt64) * (1000000000 : Int64)) + rr) - (1 : Int64)) / rr)), .second, .val (.long dd), .second, .val (.ref b140), .val (.int (0 : Int32)), .val (.int (0 : Int32))] [(.long (((((((ps &&& (1048575 : Int32)).toInt64) * (1000000000 : Int64)) + rr) - (1 : Int64)) / rr) + (1 : Int64))), (.long dd)])) _
            refine XS.lcmp X146.here hx rfl (hb hby at_305) rfl ?_
            exact kt)
        by_cases hc306_168 : (lcmpW dd (((((((ps &&& (1048575 : Int32)).toInt64) * (1000000000 : Int64)) + rr) - (1 : Int64)) / rr) + (1 : Int64))) < (0 : Int32)
        · -- yes at pc 306: ttftt
          have pre169 : Goes p e below s₁ (entryFrame m #[(.int pr), (.int ps), (.long pt), (.long pd), (.int pm)] maxLocals) T146 (mkF m 319 #[.val (.int pr), .val (.int ps), .val (.long pt), .second, .val (.long pd), .second, .val (.int pm), .val (.ref b2), .val (.long rr), .second, .val (.long ((ps &&& (1048575 : Int32)).toInt64)), .second, .val (.long (((ps &&& (1048575 : Int32)).toInt64) * (1000000000 : Int64))), .second, .val (.long ((((ps &&& (1048575 : Int32)).toInt64) * (1000000000 : Int64)) / rr)), .second, .val (.long ((((((ps &&& (1048575 : Int32)).toInt64) * (1000000000 : Int64)) + rr) - (1 : Int64)) / rr)), .second, .val (.long dd), .second, .val (.ref b140), .val (.int (0 : Int32)), .val (.int (0 : Int32))] [(.int (lcmpW dd (((((ps &&& (1048575 : Int32)).toInt64) * (1000000000 : Int64)) / rr) - (1 : Int64))))]) := fun t kt => pre167 t (by
              show Steps p.tables e below (T146.setTop (mkF m 306 #[.val (.int pr), .val (.int ps), .val (.long pt), .second, .val (.long pd), .second, .val (.int pm), .val (.ref b2), .val (.long rr), .second, .val (.long ((ps &&& (1048575 : Int32)).toInt64)), .second, .val (.long (((ps &&& (1048575 : Int32)).toInt64) * (1000000000 : Int64))), .second, .val (.long ((((ps &&& (1048575 : Int32)).toInt64) * (1000000000 : Int64)) / rr)), .second, .val (.long ((((((ps &&& (1048575 : Int32)).toInt64) * (1000000000 : Int64)) + rr) - (1 : Int64)) / rr)), .second, .val (.long dd), .second, .val (.ref b140), .val (.int (0 : Int32)), .val (.int (0 : Int32))] [(.int (lcmpW dd (((((((ps &&& (1048575 : Int32)).toInt64) * (1000000000 : Int64)) + rr) - (1 : Int64)) / rr) + (1 : Int64))))])) _
              refine XS.ifYes X146.here hx rfl (pc0 := 306) (pc' := 312) rfl (hb hby at_306) rfl ((if0 _ _).trans (tlt hc306_168).1) (by decide) (by decide) ?_
              show Steps p.tables e below (T146.setTop (mkF m 312 #[.val (.int pr), .val (.int ps), .val (.long pt), .second, .val (.long pd), .second, .val (.int pm), .val (.ref b2), .val (.long rr), .second, .val (.long ((ps &&& (1048575 : Int32)).toInt64)), .second, .val (.long (((ps &&& (1048575 : Int32)).toInt64) * (1000000000 : Int64))), .second, .val (.long ((((ps &&& (1048575 : Int32)).toInt64) * (1000000000 : Int64)) / rr)), .second, .val (.long ((((((ps &&& (1048575 : Int32)).toInt64) * (1000000000 : Int64)) + rr) - (1 : Int64)) / rr)), .second, .val (.long dd), .second, .val (.ref b140), .val (.int (0 : Int32)), .val (.int (0 : Int32))] [])) _
              refine XS.lload X146.here hx rfl (hb hby at_312) rfl ?_
              show Steps p.tables e below (T146.setTop (mkF m 314 #[.val (.int pr), .val (.int ps), .val (.long pt), .second, .val (.long pd), .second, .val (.int pm), .val (.ref b2), .val (.long rr), .second, .val (.long ((ps &&& (1048575 : Int32)).toInt64)), .second, .val (.long (((ps &&& (1048575 : Int32)).toInt64) * (1000000000 : Int64))), .second, .val (.long ((((ps &&& (1048575 : Int32)).toInt64) * (1000000000 : Int64)) / rr)), .second, .val (.long ((((((ps &&& (1048575 : Int32)).toInt64) * (1000000000 : Int64)) + rr) - (1 : Int64)) / rr)), .second, .val (.long dd), .second, .val (.ref b140), .val (.int (0 : Int32)), .val (.int (0 : Int32))] [(.long dd)])) _
              refine XS.lload X146.here hx rfl (hb hby at_314) rfl ?_
              show Steps p.tables e below (T146.setTop (mkF m 316 #[.val (.int pr), .val (.int ps), .val (.long pt), .second, .val (.long pd), .second, .val (.int pm), .val (.ref b2), .val (.long rr), .second, .val (.long ((ps &&& (1048575 : Int32)).toInt64)), .second, .val (.long (((ps &&& (1048575 : Int32)).toInt64) * (1000000000 : Int64))), .second, .val (.long ((((ps &&& (1048575 : Int32)).toInt64) * (1000000000 : Int64)) / rr)), .second, .val (.long ((((((ps &&& (1048575 : Int32)).toInt64) * (1000000000 : Int64)) + rr) - (1 : Int64)) / rr)), .second, .val (.long dd), .second, .val (.ref b140), .val (.int (0 : Int32)), .val (.int (0 : Int32))] [(.long ((((ps &&& (1048575 : Int32)).toInt64) * (1000000000 : Int64)) / rr)), (.long dd)])) _
              refine XS.lconst X146.here hx rfl (hb hby at_316) ?_
              show Steps p.tables e below (T146.setTop (mkF m 317 #[.val (.int pr), .val (.int ps), .val (.long pt), .second, .val (.long pd), .second, .val (.int pm), .val (.ref b2), .val (.long rr), .second, .val (.long ((ps &&& (1048575 : Int32)).toInt64)), .second, .val (.long (((ps &&& (1048575 : Int32)).toInt64) * (1000000000 : Int64))), .second, .val (.long ((((ps &&& (1048575 : Int32)).toInt64) * (1000000000 : Int64)) / rr)), .second, .val (.long ((((((ps &&& (1048575 : Int32)).toInt64) * (1000000000 : Int64)) + rr) - (1 : Int64)) / rr)), .second, .val (.long dd), .second, .val (.ref b140), .val (.int (0 : Int32)), .val (.int (0 : Int32))] [(.long (1 : Int64)), (.long ((((ps &&& (1048575 : Int32)).toInt64) * (1000000000 : Int64)) / rr)), (.long dd)])) _
              refine XS.lsub X146.here hx rfl (hb hby at_317) rfl ?_
              show Steps p.tables e below (T146.setTop (mkF m 318 #[.val (.int pr), .val (.int ps), .val (.long pt), .second, .val (.long pd), .second, .val (.int pm), .val (.ref b2), .val (.long rr), .second, .val (.long ((ps &&& (1048575 : Int32)).toInt64)), .second, .val (.long (((ps &&& (1048575 : Int32)).toInt64) * (1000000000 : Int64))), .second, .val (.long ((((ps &&& (1048575 : Int32)).toInt64) * (1000000000 : Int64)) / rr)), .second, .val (.long ((((((ps &&& (1048575 : Int32)).toInt64) * (1000000000 : Int64)) + rr) - (1 : Int64)) / rr)), .second, .val (.long dd), .second, .val (.ref b140), .val (.int (0 : Int32)), .val (.int (0 : Int32))] [(.long (((((ps &&& (1048575 : Int32)).toInt64) * (1000000000 : Int64)) / rr) - (1 : Int64))), (.long dd)])) _
              refine XS.lcmp X146.here hx rfl (hb hby at_318) rfl ?_
              exact kt)
          by_cases hc319_170 : (0 : Int32) < (lcmpW dd (((((ps &&& (1048575 : Int32)).toInt64) * (1000000000 : Int64)) / rr) - (1 : Int64)))
          · -- yes at pc 319: ttfttt
            have pre171 : Goes p e below s₁ (entryFrame m #[(.int pr), (.int ps), (.long pt), (.long pd), (.int pm)] maxLocals) T146 (mkF m 334 #[.val (.int pr), .val (.int ps), .val (.long pt), .second, .val (.long pd), .second, .val (.int pm), .val (.ref b2), .val (.long rr), .second, .val (.long ((ps &&& (1048575 : Int32)).toInt64)), .second, .val (.long (((ps &&& (1048575 : Int32)).toInt64) * (1000000000 : Int64))), .second, .val (.long ((((ps &&& (1048575 : Int32)).toInt64) * (1000000000 : Int64)) / rr)), .second, .val (.long ((((((ps &&& (1048575 : Int32)).toInt64) * (1000000000 : Int64)) + rr) - (1 : Int64)) / rr)), .second, .val (.long dd), .second, .val (.ref b140), .val (.int (0 : Int32)), .val (.int (0 : Int32))] [(.int (1 : Int32))]) := fun t kt => pre169 t (by
                show Steps p.tables e below (T146.setTop (mkF m 319 #[.val (.int pr), .val (.int ps), .val (.long pt), .second, .val (.long pd), .second, .val (.int pm), .val (.ref b2), .val (.long rr), .second, .val (.long ((ps &&& (1048575 : Int32)).toInt64)), .second, .val (.long (((ps &&& (1048575 : Int32)).toInt64) * (1000000000 : Int64))), .second, .val (.long ((((ps &&& (1048575 : Int32)).toInt64) * (1000000000 : Int64)) / rr)), .second, .val (.long ((((((ps &&& (1048575 : Int32)).toInt64) * (1000000000 : Int64)) + rr) - (1 : Int64)) / rr)), .second, .val (.long dd), .second, .val (.ref b140), .val (.int (0 : Int32)), .val (.int (0 : Int32))] [(.int (lcmpW dd (((((ps &&& (1048575 : Int32)).toInt64) * (1000000000 : Int64)) / rr) - (1 : Int64))))])) _
                refine XS.ifYes X146.here hx rfl (pc0 := 319) (pc' := 333) rfl (hb hby at_319) rfl ((if0 _ _).trans (tlt hc319_170).2.2.1) (by decide) (by decide) ?_
                show Steps p.tables e below (T146.setTop (mkF m 333 #[.val (.int pr), .val (.int ps), .val (.long pt), .second, .val (.long pd), .second, .val (.int pm), .val (.ref b2), .val (.long rr), .second, .val (.long ((ps &&& (1048575 : Int32)).toInt64)), .second, .val (.long (((ps &&& (1048575 : Int32)).toInt64) * (1000000000 : Int64))), .second, .val (.long ((((ps &&& (1048575 : Int32)).toInt64) * (1000000000 : Int64)) / rr)), .second, .val (.long ((((((ps &&& (1048575 : Int32)).toInt64) * (1000000000 : Int64)) + rr) - (1 : Int64)) / rr)), .second, .val (.long dd), .second, .val (.ref b140), .val (.int (0 : Int32)), .val (.int (0 : Int32))] [])) _
                refine XS.iconst X146.here hx rfl (hb hby at_333) ?_
                exact kt)
            obtain ⟨fs, hr, hrun, hended, hW, hsame⟩ := X146.leave (v := some (.int (1 : Int32))) (fun h => by rw [Bd.returns] at h; cases h) Bd.notSynchronized
            refine ⟨_, _, pre171 _ ?_, hrun, hended, _, _, rfl, ?_, ⟨_, rfl⟩, hW, hsame.mono (by decide) (by decide)⟩
            · show Steps p.tables e below (T146.setTop (mkF m 334 #[.val (.int pr), .val (.int ps), .val (.long pt), .second, .val (.long pd), .second, .val (.int pm), .val (.ref b2), .val (.long rr), .second, .val (.long ((ps &&& (1048575 : Int32)).toInt64)), .second, .val (.long (((ps &&& (1048575 : Int32)).toInt64) * (1000000000 : Int64))), .second, .val (.long ((((ps &&& (1048575 : Int32)).toInt64) * (1000000000 : Int64)) / rr)), .second, .val (.long ((((((ps &&& (1048575 : Int32)).toInt64) * (1000000000 : Int64)) + rr) - (1 : Int64)) / rr)), .second, .val (.long dd), .second, .val (.ref b140), .val (.int (0 : Int32)), .val (.int (0 : Int32))] [(.int (1 : Int32))])) _
              exact retN X146 hx (t := .boolean) Bd.returns (by simp) (hb hby at_334) hr
            · show Q_own_rm0 Z pr ps pt pd pm h0 n0 _ T146.heap _
              rw [e146]
              exact ⟨rfl, N146⟩
          · -- no at pc 319: ttfttt
            have pre172 : Goes p e below s₁ (entryFrame m #[(.int pr), (.int ps), (.long pt), (.long pd), (.int pm)] maxLocals) T146 (mkF m 332 #[.val (.int pr), .val (.int ps), .val (.long pt), .second, .val (.long pd), .second, .val (.int pm), .val (.ref b2), .val (.long rr), .second, .val (.long ((ps &&& (1048575 : Int32)).toInt64)), .second, .val (.long (((ps &&& (1048575 : Int32)).toInt64) * (1000000000 : Int64))), .second, .val (.long ((((ps &&& (1048575 : Int32)).toInt64) * (1000000000 : Int64)) / rr)), .second, .val (.long ((((((ps &&& (1048575 : Int32)).toInt64) * (1000000000 : Int64)) + rr) - (1 : Int64)) / rr)), .second, .val (.long dd), .second, .val (.ref b140), .val (.int (0 : Int32)), .val (.int (0 : Int32))] [(.int (1 : Int32))]) := fun t kt => pre169 t (by
                show Steps p.tables e below (T146.setTop (mkF m 319 #[.val (.int pr), .val (.int ps), .val (.long pt), .second, .val (.long pd), .second, .val (.int pm), .val (.ref b2), .val (.long rr), .second, .val (.long ((ps &&& (1048575 : Int32)).toInt64)), .second, .val (.long (((ps &&& (1048575 : Int32)).toInt64) * (1000000000 : Int64))), .second, .val (.long ((((ps &&& (1048575 : Int32)).toInt64) * (1000000000 : Int64)) / rr)), .second, .val (.long ((((((ps &&& (1048575 : Int32)).toInt64) * (1000000000 : Int64)) + rr) - (1 : Int64)) / rr)), .second, .val (.long dd), .second, .val (.ref b140), .val (.int (0 : Int32)), .val (.int (0 : Int32))] [(.int (lcmpW dd (((((ps &&& (1048575 : Int32)).toInt64) * (1000000000 : Int64)) / rr) - (1 : Int64))))])) _
                refine XS.ifNo X146.here hx rfl (hb hby at_319) rfl ((if0 _ _).trans (flt hc319_170).2.2.1) ?_
                show Steps p.tables e below (T146.setTop (mkF m 322 #[.val (.int pr), .val (.int ps), .val (.long pt), .second, .val (.long pd), .second, .val (.int pm), .val (.ref b2), .val (.long rr), .second, .val (.long ((ps &&& (1048575 : Int32)).toInt64)), .second, .val (.long (((ps &&& (1048575 : Int32)).toInt64) * (1000000000 : Int64))), .second, .val (.long ((((ps &&& (1048575 : Int32)).toInt64) * (1000000000 : Int64)) / rr)), .second, .val (.long ((((((ps &&& (1048575 : Int32)).toInt64) * (1000000000 : Int64)) + rr) - (1 : Int64)) / rr)), .second, .val (.long dd), .second, .val (.ref b140), .val (.int (0 : Int32)), .val (.int (0 : Int32))] [])) _
                refine XS.iload X146.here hx rfl (hb hby at_322) rfl ?_
                show Steps p.tables e below (T146.setTop (mkF m 324 #[.val (.int pr), .val (.int ps), .val (.long pt), .second, .val (.long pd), .second, .val (.int pm), .val (.ref b2), .val (.long rr), .second, .val (.long ((ps &&& (1048575 : Int32)).toInt64)), .second, .val (.long (((ps &&& (1048575 : Int32)).toInt64) * (1000000000 : Int64))), .second, .val (.long ((((ps &&& (1048575 : Int32)).toInt64) * (1000000000 : Int64)) / rr)), .second, .val (.long ((((((ps &&& (1048575 : Int32)).toInt64) * (1000000000 : Int64)) + rr) - (1 : Int64)) / rr)), .second, .val (.long dd), .second, .val (.ref b140), .val (.int (0 : Int32)), .val (.int (0 : Int32))] [(.int (0 : Int32))])) _
                refine XS.ifNo X146.here hx rfl (hb hby at_324) rfl ((if0 _ _).trans (teq (by decide : (0 : Int32) = (0 : Int32))).2) ?_
                show Steps p.tables e below (T146.setTop (mkF m 327 #[.val (.int pr), .val (.int ps), .val (.long pt), .second, .val (.long pd), .second, .val (.int pm), .val (.ref b2), .val (.long rr), .second, .val (.long ((ps &&& (1048575 : Int32)).toInt64)), .second, .val (.long (((ps &&& (1048575 : Int32)).toInt64) * (1000000000 : Int64))), .second, .val (.long ((((ps &&& (1048575 : Int32)).toInt64) * (1000000000 : Int64)) / rr)), .second, .val (.long ((((((ps &&& (1048575 : Int32)).toInt64) * (1000000000 : Int64)) + rr) - (1 : Int64)) / rr)), .second, .val (.long dd), .second, .val (.ref b140), .val (.int (0 : Int32)), .val (.int (0 : Int32))] [])) _
                refine XS.iconst X146.here hx rfl (hb hby at_327) ?_
                show Steps p.tables e below (T146.setTop (mkF m 328 #[.val (.int pr), .val (.int ps), .val (.long pt), .second, .val (.long pd), .second, .val (.int pm), .val (.ref b2), .val (.long rr), .second, .val (.long ((ps &&& (1048575 : Int32)).toInt64)), .second, .val (.long (((ps &&& (1048575 : Int32)).toInt64) * (1000000000 : Int64))), .second, .val (.long ((((ps &&& (1048575 : Int32)).toInt64) * (1000000000 : Int64)) / rr)), .second, .val (.long ((((((ps &&& (1048575 : Int32)).toInt64) * (1000000000 : Int64)) + rr) - (1 : Int64)) / rr)), .second, .val (.long dd), .second, .val (.ref b140), .val (.int (0 : Int32)), .val (.int (0 : Int32))] [(.int (1 : Int32))])) _
                refine XS.goto X146.here hx rfl (pc0 := 328) (pc' := 332) rfl (hb hby at_328) (by decide) (by decide) ?_
                exact kt)
            obtain ⟨fs, hr, hrun, hended, hW, hsame⟩ := X146.leave (v := some (.int (1 : Int32))) (fun h => by rw [Bd.returns] at h; cases h) Bd.notSynchronized
            refine ⟨_, _, pre172 _ ?_, hrun, hended, _, _, rfl, ?_, ⟨_, rfl⟩, hW, hsame.mono (by decide) (by decide)⟩
            · show Steps p.tables e below (T146.setTop (mkF m 332 #[.val (.int pr), .val (.int ps), .val (.long pt), .second, .val (.long pd), .second, .val (.int pm), .val (.ref b2), .val (.long rr), .second, .val (.long ((ps &&& (1048575 : Int32)).toInt64)), .second, .val (.long (((ps &&& (1048575 : Int32)).toInt64) * (1000000000 : Int64))), .second, .val (.long ((((ps &&& (1048575 : Int32)).toInt64) * (1000000000 : Int64)) / rr)), .second, .val (.long ((((((ps &&& (1048575 : Int32)).toInt64) * (1000000000 : Int64)) + rr) - (1 : Int64)) / rr)), .second, .val (.long dd), .second, .val (.ref b140), .val (.int (0 : Int32)), .val (.int (0 : Int32))] [(.int (1 : Int32))])) _
              exact retN X146 hx (t := .boolean) Bd.returns (by simp) (hb hby at_332) hr
            · show Q_own_rm0 Z pr ps pt pd pm h0 n0 _ T146.heap _
              rw [e146]
              exact ⟨rfl, N146⟩
        · -- no at pc 306: ttftt
          have pre173 : Goes p e below s₁ (entryFrame m #[(.int pr), (.int ps), (.long pt), (.long pd), (.int pm)] maxLocals) T146 (mkF m 311 #[.val (.int pr), .val (.int ps), .val (.long pt), .second, .val (.long pd), .second, .val (.int pm), .val (.ref b2), .val (.long rr), .second, .val (.long ((ps &&& (1048575 : Int32)).toInt64)), .second, .val (.long (((ps &&& (1048575 : Int32)).toInt64) * (1000000000 : Int64))), .second, .val (.long ((((ps &&& (1048575 : Int32)).toInt64) * (1000000000 : Int64)) / rr)), .second, .val (.long ((((((ps &&& (1048575 : Int32)).toInt64) * (1000000000 : Int64)) + rr) - (1 : Int64)) / rr)), .second, .val (.long dd), .second, .val (.ref b140), .val (.int (0 : Int32)), .val (.int (0 : Int32))] [(.int (0 : Int32))]) := fun t kt => pre167 t (by
              show Steps p.tables e below (T146.setTop (mkF m 306 #[.val (.int pr), .val (.int ps), .val (.long pt), .second, .val (.long pd), .second, .val (.int pm), .val (.ref b2), .val (.long rr), .second, .val (.long ((ps &&& (1048575 : Int32)).toInt64)), .second, .val (.long (((ps &&& (1048575 : Int32)).toInt64) * (1000000000 : Int64))), .second, .val (.long ((((ps &&& (1048575 : Int32)).toInt64) * (1000000000 : Int64)) / rr)), .second, .val (.long ((((((ps &&& (1048575 : Int32)).toInt64) * (1000000000 : Int64)) + rr) - (1 : Int64)) / rr)), .second, .val (.long dd), .second, .val (.ref b140), .val (.int (0 : Int32)), .val (.int (0 : Int32))] [(.int (lcmpW dd (((((((ps &&& (1048575 : Int32)).toInt64) * (1000000000 : Int64)) + rr) - (1 : Int64)) / rr) + (1 : Int64))))])) _
              refine XS.ifNo X146.here hx rfl (hb hby at_306) rfl ((if0 _ _).trans (flt hc306_168).1) ?_
              show Steps p.tables e below (T146.setTop (mkF m 309 #[.val (.int pr), .val (.int ps), .val (.long pt), .second, .val (.long pd), .second, .val (.int pm), .val (.ref b2), .val (.long rr), .second, .val (.long ((ps &&& (1048575 : Int32)).toInt64)), .second, .val (.long (((ps &&& (1048575 : Int32)).toInt64) * (1000000000 : Int64))), .second, .val (.long ((((ps &&& (1048575 : Int32)).toInt64) * (1000000000 : Int64)) / rr)), .second, .val (.long ((((((ps &&& (1048575 : Int32)).toInt64) * (1000000000 : Int64)) + rr) - (1 : Int64)) / rr)), .second, .val (.long dd), .second, .val (.ref b140), .val (.int (0 : Int32)), .val (.int (0 : Int32))] [])) _
              refine XS.iload X146.here hx rfl (hb hby at_309) rfl ?_
              exact kt)
          obtain ⟨fs, hr, hrun, hended, hW, hsame⟩ := X146.leave (v := some (.int (0 : Int32))) (fun h => by rw [Bd.returns] at h; cases h) Bd.notSynchronized
          refine ⟨_, _, pre173 _ ?_, hrun, hended, _, _, rfl, ?_, ⟨_, rfl⟩, hW, hsame.mono (by decide) (by decide)⟩
          · show Steps p.tables e below (T146.setTop (mkF m 311 #[.val (.int pr), .val (.int ps), .val (.long pt), .second, .val (.long pd), .second, .val (.int pm), .val (.ref b2), .val (.long rr), .second, .val (.long ((ps &&& (1048575 : Int32)).toInt64)), .second, .val (.long (((ps &&& (1048575 : Int32)).toInt64) * (1000000000 : Int64))), .second, .val (.long ((((ps &&& (1048575 : Int32)).toInt64) * (1000000000 : Int64)) / rr)), .second, .val (.long ((((((ps &&& (1048575 : Int32)).toInt64) * (1000000000 : Int64)) + rr) - (1 : Int64)) / rr)), .second, .val (.long dd), .second, .val (.ref b140), .val (.int (0 : Int32)), .val (.int (0 : Int32))] [(.int (0 : Int32))])) _
            exact retN X146 hx (t := .boolean) Bd.returns (by simp) (hb hby at_311) hr
          · show Q_own_rm0 Z pr ps pt pd pm h0 n0 _ T146.heap _
            rw [e146]
            exact (own_kU (own_msk ps) hR1 hd hD hc306_168).elim
set_option maxRecDepth 65536 in
set_option maxHeartbeats 40000000 in
theorem comes_1 {Post : Tables → Env → Array Value → State → Outcome → State → Prop} (hpost : ∀ tb e args s v u, (limb_1_1.after args s (.returned v) u = true ∧ limb_1_2.after args s (.returned v) u = true ∧ True) → FrameEnd s (.returned v) u (Jvm.fieldLocs frame_1_writes args s ++ Jvm.arrayLocs frame_1_arrays args s ++ Jvm.staticLocs frame_1_statics s) 16 128 → Post tb e args s (.returned v) u) :
    ArmFor flags0 classFile x code maxLocals ret World_1 tables_1 room_1 Calls_1 rest_1 Pre_1 Post := by
  intro l hfl _ _ p e ha hc hk s m args below hf hA hF happ hP
  obtain ⟨hcalls, hrest, hpre⟩ := hP
  obtain ⟨-, -, -, hnamed, -, -, -, hat⟩ := (Spec.applies_iff hf).mp happ
  obtain ⟨hg, hn⟩ := and_e (Cond.before_iff.mp (show (Jvm.Cond.and given_1 narrow_1).before args s = true from hpre))
  obtain ⟨g5, g6⟩ := and_e hg
  obtain ⟨g7, g8⟩ := and_e g6
  obtain ⟨g9, g10⟩ := and_e g8
  obtain ⟨g11, g12⟩ := and_e g10
  obtain ⟨g13, g14⟩ := and_e g12
  obtain ⟨w0, w1, w2, w3, w4, rfl⟩ : ∃ w0 w1 w2 w3 w4 : Value, args = #[w0, w1, w2, w3, w4] := by
    have hs : args.size = 5 := by simpa [Cond.value, given_1] using g5
    obtain ⟨L⟩ := args
    match L, hs with
    | [w0, w1, w2, w3, w4], _ => exact ⟨w0, w1, w2, w3, w4, rfl⟩
  have hw := fun d (hd : d ∈ tables_1) => atoms_spec (ws := Jvm.Cond.code x code maxLocals ret :: tables_1) hat d (List.mem_cons_of_mem _ hd)
  have hfit : Fit s := fun {y c} hc i hi => by
    obtain ⟨ha, rfl⟩ := Array.getElem?_eq_some_iff.mp hc
    have q := List.all_eq_true.mp ((Array.all_eq_true_iff_forall_mem.mp hF) _ (Array.getElem_mem ha)) i (List.mem_range.mpr hi)
    simpa [Array.getElem?_eq_getElem hi] using q
  obtain ⟨i0, ei0⟩ := is_v g7
  obtain rfl : w0 = (.int i0) := Option.some.inj ei0
  obtain ⟨i1, ei1⟩ := is_v g9
  obtain rfl : w1 = (.int i1) := Option.some.inj ei1
  obtain ⟨i2, ei2⟩ := isL_v g11
  obtain rfl : w2 = (.long i2) := Option.some.inj ei2
  obtain ⟨i3, ei3⟩ := isL_v g13
  obtain rfl : w3 = (.long i3) := Option.some.inj ei3
  obtain ⟨i4, ei4⟩ := is_v g14
  obtain rfl : w4 = (.int i4) := Option.some.inj ei4
  obtain ⟨n, o, h1, h2, h3, _, L, rfl, ⟨rfl, N⟩, hq⟩ := own_rm0 l s _ hw tables_1 i0 i1 i2 i3 i4  s.heap s.heap.size (Nat.le_refl _)  p e ha hc hk s m _ below hf ((Spec.applies_iff_loose hf).mp happ).1 ⟨rfl, State.Warmed39.refl s, rfl⟩ trivial
  refine ⟨n, _, h1, h2, h3, hpost _ _ _ _ _ _ ⟨Cond.after_iff.mpr rfl, Cond.after_iff.mpr (eq_i res_at (Term.int_eval (1)) rfl), trivial⟩ ⟨hq.1, hq.2.1, (hq.2.2.sift fun y hy => Or.inr (N y hy)).mono (by decide) (by decide)⟩⟩
theorem main_1_1 : Claimed_1_1 := comes_1 fun _ _ _ _ _ _ h hF => ⟨h.1, hF⟩
theorem main_1_2 : Claimed_1_2 := comes_1 fun _ _ _ _ _ _ h hF => ⟨h.2.1, hF⟩
end Jvm.Pilot.@@N@@
namespace Jvm.Pilot.@@N@@
open Jvm Jvm.ClassFile Sem Op Lib Jvm.Free Jvm.Stand Jvm.Pilot.@@N@@.Jvm.D
/-! MADE BY PROGRAM (witnessworld.py) out of the Statement's table words and the real class files: 9 classes; the members and pool entries that the words name. The judged class is class 1, her method 1. -/
namespace start1
open Jvm.ClassFile
def u (s : String) : CpInfo := .utf8 (stringToUtf16 s)
/-- a pool by its gaps: so many unusable entries, then the entry; so many at the end -/
def gap : Nat → List CpInfo → List CpInfo
  | 0, r => r
  | n + 1, r => .unusable :: gap n r
def poolList (es : List (Nat × CpInfo)) (last : Nat) : List CpInfo := es.foldr (fun e r => gap e.1 (e.2 :: r)) (gap last [])
def pool (es : List (Nat × CpInfo)) (last : Nat) : Array CpInfo := ⟨poolList es last⟩
def fileOf (pool : Array CpInfo) (this : Nat) (attrs : Array Attribute := #[]) (ms : Array MethodInfo := #[]) (fl : Nat := 33) (sup : Nat := 0) (ifs : Array Nat := #[]) (fds : Array FieldInfo := #[]) : ClassFile where
  minorVersion := 0
  majorVersion := 65
  constantPool := pool
  accessFlags := fl
  thisClass := this
  superClass := sup
  interfaces := ifs
  fields := fds
  methods := ms
  attributes := attrs
def plain (name : String) (sup : Option ClassId) : Class where
  name := name
  kind := .ordinary
  loader := none
  accessFlags := 33
  super := sup
  interfaces := #[]
  cf := none
  fields := #[]
  methods := #[]
  instanceTypes := #[]
  staticTypes := #[]
  resolved := #[]
  callSites := []
  init := .initialized
  statics := none
  mirror := none

def pool0 : Array CpInfo := pool [(5, u "<init>"), (0, u "()V"), (1, .class_ 10), (1, u "java/lang/Object")] 113

def k0c0 : Code := { maxStack := 0, maxLocals := 1, code := object_method_1_code, exceptionTable := #[], attributes := #[] }
def k0m0 : Method := { name := "<init>", desc := "()V", sig := { parameters := [], returnType := none }, accessFlags := 1, code := some k0c0 }
/-- java/lang/Object -/
def k0 : Class := { plain "java/lang/Object" none with
  accessFlags := 33
  interfaces := #[]
  cf := some (fileOf pool0 8 #[] #[{ accessFlags := 1, nameIndex := 5, descriptorIndex := 6, attributes := #[] }] 33 0 #[] #[])
  fields := #[]
  methods := #[k0m0]
  instanceTypes := #[]
  staticTypes := #[]
  resolved := Array.replicate 124 none
  statics := none }

def pool1 : Array CpInfo := pool [(2, .class_ 4), (1, u "java/lang/Object"), (0, u "<init>"), (0, u "()V"), (0, .long 2), (1, .long 4), (1, .long 5), (1, .long 8), (1, .long 10), (1, .long 16), (1, .long 25), (1, .long 50), (1, .long 64), (1, .long 125), (1, .long 1000), (1, .long 15625), (1, .long 390625), (1, .long 1000000), (1, .integer 1048575), (0, .long 1000000000), (1, .long 7), (1, .class_ 41), (0, u "com/example/ferry/ferry/Pacer"), (0, .methodref 40 43), (0, .nameAndType 5 44), (0, u "(JJ)V"), (0, .methodref 40 46), (0, .nameAndType 47 48), (0, u "isDue"), (0, u "(JJ)Z"), (0, .class_ 50), (0, u "com/example/ferry/ferry/PacerIsDuePinLaw"), (2, u "law"), (0, u "(IIJJI)Z")] 5

def k1m0 : Method := { name := "<init>", desc := "()V", sig := { parameters := [], returnType := none }, accessFlags := 1, code := none }
def k1c1 : Code := { maxStack := 7, maxLocals := 23, code := code, exceptionTable := #[], attributes := #[] }
def k1m1 : Method := { name := "law", desc := "(IIJJI)Z", sig := { parameters := [.int, .int, .long, .long, .int], returnType := some .boolean }, accessFlags := 9, code := some k1c1 }
/-- com/example/ferry/ferry/PacerIsDuePinLaw -/
def k1 : Class := { plain "com/example/ferry/ferry/PacerIsDuePinLaw" (some 0) with
  accessFlags := 49
  interfaces := #[]
  cf := some (fileOf pool1 49 #[] #[{ accessFlags := 1, nameIndex := 5, descriptorIndex := 6, attributes := #[] }, { accessFlags := 9, nameIndex := 53, descriptorIndex := 54, attributes := #[] }] 49 2 #[] #[])
  fields := #[]
  methods := #[k1m0, k1m1]
  instanceTypes := #[]
  staticTypes := #[]
  resolved := Array.replicate 60 none
  statics := none }

def pool2 : Array CpInfo := pool [(1, .methodref 2 3), (0, .class_ 4), (0, .nameAndType 5 6), (0, u "java/lang/Object"), (0, u "<init>"), (0, u "()V"), (19, .fieldref 27 28), (0, .class_ 29), (0, .nameAndType 30 31), (0, u "com/example/ferry/ferry/Pacer"), (0, u "startNs"), (0, u "J"), (0, .double 4741671816366391296), (1, .fieldref 27 35), (0, .nameAndType 36 37), (0, u "intervalNs"), (0, u "D"), (0, u "NANOS_PER_SECOND"), (1, u "(JJ)V"), (3, u "isDue"), (0, u "(JJ)Z")] 2

def k2c0 : Code := { maxStack := 8, maxLocals := 5, code := prog_6_method_1_code, exceptionTable := #[], attributes := #[] }
def k2m0 : Method := { name := "<init>", desc := "(JJ)V", sig := { parameters := [.long, .long], returnType := none }, accessFlags := 0, code := some k2c0 }
def k2c1 : Code := { maxStack := 6, maxLocals := 5, code := prog_6_method_2_code, exceptionTable := #[], attributes := #[] }
def k2m1 : Method := { name := "isDue", desc := "(JJ)Z", sig := { parameters := [.long, .long], returnType := some .boolean }, accessFlags := 0, code := some k2c1 }
/-- com/example/ferry/ferry/Pacer -/
def k2 : Class := { plain "com/example/ferry/ferry/Pacer" (some 0) with
  accessFlags := 32
  interfaces := #[]
  cf := some (fileOf pool2 27 #[] #[{ accessFlags := 0, nameIndex := 5, descriptorIndex := 40, attributes := #[] }, { accessFlags := 0, nameIndex := 44, descriptorIndex := 45, attributes := #[] }] 32 2 #[] #[{ accessFlags := 26, nameIndex := 38, descriptorIndex := 37, attributes := #[] }, { accessFlags := 18, nameIndex := 30, descriptorIndex := 31, attributes := #[] }, { accessFlags := 18, nameIndex := 36, descriptorIndex := 37, attributes := #[] }])
  fields := #[{ name := "NANOS_PER_SECOND", type := .double, accessFlags := 26, slot := 0, constantValue := 0 }, { name := "startNs", type := .long, accessFlags := 18, slot := 0, constantValue := 0 }, { name := "intervalNs", type := .double, accessFlags := 18, slot := 1, constantValue := 0 }]
  methods := #[k2m0, k2m1]
  instanceTypes := #[.long, .double]
  staticTypes := #[.double]
  resolved := Array.replicate 48 none
  statics := none }

def pool3 : Array CpInfo := pool [(1, u "java/lang/Cloneable"), (0, .class_ 1), (0, u "java/lang/Object"), (0, .class_ 3)] 3

/-- java/lang/Cloneable -/
def k3 : Class := { plain "java/lang/Cloneable" (some 0) with
  accessFlags := 1537
  interfaces := #[]
  cf := some (fileOf pool3 2 #[] #[] 1537 4 #[] #[])
  fields := #[]
  methods := #[]
  instanceTypes := #[]
  staticTypes := #[]
  resolved := Array.replicate 8 none
  statics := none }

def pool4 : Array CpInfo := pool [(1, u "java/io/Serializable"), (0, .class_ 1), (0, u "java/lang/Object"), (0, .class_ 3)] 3

/-- java/io/Serializable -/
def k4 : Class := { plain "java/io/Serializable" (some 0) with
  accessFlags := 1537
  interfaces := #[]
  cf := some (fileOf pool4 2 #[] #[] 1537 4 #[] #[])
  fields := #[]
  methods := #[]
  instanceTypes := #[]
  staticTypes := #[]
  resolved := Array.replicate 8 none
  statics := none }

/-- the primitive byte -/
def k5 : Class := { plain "byte" none with kind := .primitive 'B', accessFlags := 0x411 }
/-- [B -/
def k6 : Class := { plain "[B" (some 0) with kind := .array 5 .byte, interfaces := #[3, 4], accessFlags := 1041 }

/-- the primitive long -/
def k7 : Class := { plain "long" none with kind := .primitive 'J', accessFlags := 0x411 }
/-- [J -/
def k8 : Class := { plain "[J" (some 0) with kind := .array 7 .long, interfaces := #[3, 4], accessFlags := 1041 }

def heap : Heap := #[]
def classes : Array Class := #[k0, k1, k2, k3, k4, k5, k6, k7, k8]
def interned : List (Array UInt16 × Addr) := []
def slotsUsed : Nat := 0
def theMethod : MethodId := ⟨1, 1⟩
def args0 : Array Value := #[.int 5, .int 9, .long 3, .long 4, .int 0]
def aboutOver (below : List Frame) : State where
  vm := { classes := classes, interned := interned.toArray }
  heap := heap
  slotsUsed := slotsUsed
  threads := #[{ frames := .invoking theMethod args0 :: below }]
def below0 : List Frame := [.native { method := ⟨0, 0⟩, args := #[] }]
def about1 : State := aboutOver below0
def p0 : Program := .bare "" "" ""
def e0 : Env := launch0.env 0 0 0
theorem w_frames : about1.frames = Frame.invoking theMethod args0 :: below0 := rfl
set_option maxRecDepth 65536 in
theorem w_args : argsFit about1.vm theMethod args0 = true := by decide +kernel
set_option maxRecDepth 65536 in
theorem w_heap : heapFits about1 = true := by decide +kernel
set_option maxRecDepth 65536 in
theorem w_runnable : about1.curStatus? = some .runnable := by decide +kernel
set_option maxRecDepth 65536 in
theorem w_alone : about1.alone = true := by decide +kernel
set_option maxRecDepth 65536 in
theorem w_named : about1.methodNamed? x = some theMethod := by decide +kernel
set_option maxRecDepth 65536 in
theorem w_hears : about1.hears theMethod below0 = true := by decide +kernel
set_option maxRecDepth 65536 in
theorem w_ripe : about1.ripe theMethod args0 below0 = true := by decide +kernel
theorem w_running : about1.status = .running := rfl
set_option maxRecDepth 65536 in
theorem w_room : about1.hasRoom e0.platform room_1 = true :=
  launch0.hasRoom_least _ room_1 (by decide +kernel) (by decide +kernel) (by decide +kernel) (by decide +kernel) (by decide +kernel) (by decide +kernel)
theorem allAtoms_all (ts : List Jvm.Cond) (a : Array Jvm.Value) (st : Jvm.State) : (allAtoms ts).before a st = ts.all (fun c => c.before a st) := by
  induction ts with
  | nil => rfl
  | cons c t ih =>
    show (Jvm.Cond.and c (allAtoms t)).before a st = _
    rw [Jvm.Cond.before_and, ih, List.all_cons]
def words1 : List Jvm.Cond := Jvm.Cond.code x code maxLocals ret :: tables_1
/-- a 'code' word, met by the world's own term for the bytes: nothing is compared byte by byte -/
theorem code_word {y : MethodName} {bytes : ByteArray} {mx : Nat} {rt : Option FieldType} {a : Array Value} {s : State} {m : MethodId} {meth : Method} {c : Code} (h1 : s.methodNamed? y = some m) (h2 : s.vm.method? m = some meth) (h3 : meth.code = some c) (h4 : c.code = bytes)
    (h5 : (c.maxLocals == mx && c.exceptionTable.isEmpty && decide (c.maxStack ≤ mostOperands) && decide (meth.sig.returnType = rt) && !meth.locks && decide (parseMethodDescriptor y.desc = some meth.sig)) = true) : (Jvm.Cond.code y bytes mx rt).before a s = true := by
  simp only [Bool.and_eq_true, beq_iff_eq, Bool.not_eq_true', decide_eq_true_eq] at h5
  obtain ⟨⟨⟨⟨⟨g1, g2⟩, g3⟩, g4⟩, g5⟩, g6⟩ := h5
  simp [Cond.before, Cond.holds, Cond.value, h1, h2, h3, h4, g1, g2, g3, g4, g5, g6]
def isCode : Jvm.Cond → Bool
  | .code _ _ _ _ => true
  | _ => false
theorem all_split {L : List Jvm.Cond} {P : Jvm.Cond → Bool} (h1 : L.all (fun c => isCode c || P c) = true) (h2 : ∀ c ∈ L.filter isCode, P c = true) : L.all P = true := by
  refine List.all_eq_true.mpr fun c hc => ?_
  have h := List.all_eq_true.mp h1 c hc
  rcases Bool.eq_false_or_eq_true (isCode c) with hi | hi
  · exact h2 c (List.mem_filter.mpr ⟨hc, hi⟩)
  · simpa [hi] using h
set_option maxRecDepth 65536 in
theorem w_c0 : (Jvm.Cond.code x code maxLocals ret).before args0 about1 = true := code_word (m := ⟨1, 1⟩) (meth := k1m1) (c := k1c1) (by decide +kernel) rfl rfl rfl (by decide +kernel)
set_option maxRecDepth 65536 in
theorem w_c1 : (Jvm.Cond.code ({ cls := "com/example/ferry/ferry/Pacer", name := "<init>", desc := "(JJ)V" } : Jvm.MethodName) prog_6_method_1_code (5 : Nat) (Option.none : Option Jvm.ClassFile.FieldType)).before args0 about1 = true := code_word (m := ⟨2, 0⟩) (meth := k2m0) (c := k2c0) (by decide +kernel) rfl rfl rfl (by decide +kernel)
set_option maxRecDepth 65536 in
theorem w_c2 : (Jvm.Cond.code ({ cls := "java/lang/Object", name := "<init>", desc := "()V" } : Jvm.MethodName) object_method_1_code (1 : Nat) (Option.none : Option Jvm.ClassFile.FieldType)).before args0 about1 = true := code_word (m := ⟨0, 0⟩) (meth := k0m0) (c := k0c0) (by decide +kernel) rfl rfl rfl (by decide +kernel)
set_option maxRecDepth 65536 in
theorem w_c3 : (Jvm.Cond.code ({ cls := "com/example/ferry/ferry/Pacer", name := "isDue", desc := "(JJ)Z" } : Jvm.MethodName) prog_6_method_2_code (5 : Nat) (Option.some Jvm.ClassFile.FieldType.boolean)).before args0 about1 = true := code_word (m := ⟨2, 1⟩) (meth := k2m1) (c := k2c1) (by decide +kernel) rfl rfl rfl (by decide +kernel)
def codes1 : List Jvm.Cond := [Jvm.Cond.code x code maxLocals ret, Jvm.Cond.code ({ cls := "com/example/ferry/ferry/Pacer", name := "<init>", desc := "(JJ)V" } : Jvm.MethodName) prog_6_method_1_code (5 : Nat) (Option.none : Option Jvm.ClassFile.FieldType), Jvm.Cond.code ({ cls := "java/lang/Object", name := "<init>", desc := "()V" } : Jvm.MethodName) object_method_1_code (1 : Nat) (Option.none : Option Jvm.ClassFile.FieldType), Jvm.Cond.code ({ cls := "com/example/ferry/ferry/Pacer", name := "isDue", desc := "(JJ)Z" } : Jvm.MethodName) prog_6_method_2_code (5 : Nat) (Option.some Jvm.ClassFile.FieldType.boolean)]
set_option maxRecDepth 65536 in
theorem codes_eq : words1.filter isCode = codes1 := rfl
theorem w_codes : ∀ c ∈ words1.filter isCode, c.before args0 about1 = true := by
  rw [codes_eq]
  intro c hc
  simp only [codes1, List.mem_cons, List.not_mem_nil, or_false] at hc
  rcases hc with rfl | rfl | rfl | rfl
  · exact w_c0
  · exact w_c1
  · exact w_c2
  · exact w_c3
set_option maxRecDepth 65536 in
theorem w_t1 : (words1.take 24).all (fun c => isCode c || c.before args0 about1) = true := by decide +kernel
set_option maxRecDepth 65536 in
theorem w_t2 : (words1.drop 24).all (fun c => isCode c || c.before args0 about1) = true := by decide +kernel
theorem w_tables : (allAtoms (Jvm.Cond.code x code maxLocals ret :: tables_1)).before args0 about1 = true := by
  rw [allAtoms_all]
  show words1.all (fun c => c.before args0 about1) = true
  refine all_split ?_ w_codes
  rw [← List.take_append_drop 24 words1, List.all_append, w_t1, w_t2]
  rfl
set_option maxRecDepth 65536 in
theorem w_case : (Jvm.Cond.and given_1 narrow_1).before args0 about1 = true := by decide +kernel
theorem w_applies : (headSpec (Jvm.Cond.code x code maxLocals ret :: tables_1) room_1).applies x e0.platform about1 = true :=
  (Spec.applies_iff w_frames).mpr ⟨w_running, w_runnable, w_alone, w_named, w_hears, w_ripe, w_room, w_tables⟩
theorem atStart : AtStart classFile x code maxLocals ret World_1 tables_1 room_1 Calls_1 rest_1 Pre_1 launch0 p0 e0 about1 theMethod args0 below0 :=
  ⟨lists_1, trivial, launch0.admits_env _ _ _, launch0.least_env, fairChoices_fair.cas, fairChoices_fair.clock, w_frames, w_args, w_heap, w_applies, trivial, trivial, w_case⟩
end start1
theorem witness_1 : WitnessClaimed_1 := ⟨start1.p0, start1.e0, start1.about1, start1.theMethod, start1.args0, start1.below0, start1.atStart⟩
end Jvm.Pilot.@@N@@
