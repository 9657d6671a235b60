import JvmDerived
import JvmDerived.Pilot.@@N@@Statement
import JvmDerived.Pilot.@@N@@Code
set_option linter.unusedVariables false
set_option linter.unusedSimpArgs false
namespace Jvm.RoadKit
open Sem ClassFile Op Lib Jvm.Stand Jvm.Free Jvm.LawKit
section New
variable {p : Program} {l : Launch} {e : Env} {R : Room} {s : State} {m : MethodId} {args : Array Value} {below : List Frame} {meth : Method} {c : Code} {T : State} {locs : List Loc} {cells slots : Nat}
theorem retI (X : Stand p l e R s m args below meth c T locs cells slots) (hx : p.tables.exec = Jvm.exec) {pc : Nat} {Ls : Array Slot} {z : Int32} {rest : List Value} (hret : meth.sig.returnType = some .int) (hd : decode c.code pc = .ok (.ireturn, 1)) {fs : List Frame}
    (hl : ∀ (f : JFrame) (acts : List Action), f.method = m → f.locked = none → f.entered = [] → (doReturn e (T.setTop f) acts (some (.int z))).1 = T.setFrames fs) : Steps p.tables e below (T.setTop (mkF m pc Ls (.int z :: rest))) (T.setFrames fs) := by
  have hm' : T.vm.method? m = some meth := X.method'
  have hn : narrow .int (.int z) = .int z := rfl
  show Steps p.tables e below (T.setTop { method := m, pc := pc, locals := Ls, stack := _ :: rest, locked := none }) _
  jvm_step X.here [X.here.top, hx, hd, hm', hret, hn]
  first | (intro acts; rw [hl _ acts rfl rfl rfl]) | rw [hl _ _ rfl rfl rfl]
  exact Steps.refl _
end New
end Jvm.RoadKit
namespace Jvm.Pilot.@@N@@
open Jvm Jvm.ClassFile Sem Op Lib Jvm.Free Jvm.Stand Jvm.LawKit Jvm.RoadKit Bundle Jvm.Pilot.@@N@@.Jvm.D
theorem own_sel {s : State} {args : Array Value} {y : MethodName} {n : Nat} (wi : (Jvm.Cond.instantiable y.cls n).before args s = true) (wp : (Jvm.Cond.privateMethod y).before args s = true) (wm : (Jvm.Cond.instanceMethod y).before args s = true) (hy : y.cls ≠ "java/lang/invoke/MethodHandle" ∧ y.cls ≠ "java/lang/invoke/VarHandle") : (Jvm.Cond.selects y.cls y y).before args s = true := by
  obtain ⟨c, k, h1, h2, -, h4, -⟩ := Cond.instantiable_spec wi
  exact Jvm.Stand.selects_self_of_private h1 h2 (by simp only [Bool.or_eq_false_iff] at h4; exact h4.1) (Cond.privateMethod_at wp) wm hy
theorem own_mul (a b : Nat) : Int32.ofNat a * Int32.ofNat b = Int32.ofNat (a * b) := (Int32.ofNat_mul a b).symm
theorem own_add (a b : Nat) : Int32.ofNat a + Int32.ofNat b = Int32.ofNat (a + b) := (Int32.ofNat_add a b).symm
theorem own_i {n : Nat} (h : n ≤ 4096) : (Int32.ofNat n).toInt = n := Int32.toInt_ofNat_of_lt (by omega)
theorem own_nc {n : Nat} (h : n ≤ 4096) : (Int32.ofNat n).toNatClampNeg = n := by
  have h1 := own_i h
  have h2 : (Int32.ofNat n).toNatClampNeg = (Int32.ofNat n).toInt.toNat := rfl
  rw [h2, h1]; rfl
theorem own_nn {n : Nat} (h : n ≤ 4096) : ¬ Int32.ofNat n < 0 := by
  intro q
  have h1 := Int32.lt_iff_toInt_lt.mp q
  have h2 := own_i h
  have h3 : (0 : Int32).toInt = 0 := by decide
  omega
theorem own_ltI {a b : Nat} (h : a < b) (hb : b ≤ 4096) : Int32.ofNat a < Int32.ofNat b := by
  refine Int32.lt_iff_toInt_lt.mpr ?_
  rw [own_i (by omega), own_i hb]; omega
theorem own_nltI {a b : Nat} (h : b ≤ a) (ha : a ≤ 4096) : ¬ Int32.ofNat a < Int32.ofNat b := by
  intro q
  have q' := Int32.lt_iff_toInt_lt.mp q
  rw [own_i ha, own_i (show b ≤ 4096 by omega)] at q'; omega
theorem own_inj {a b : Nat} (ha : a ≤ 4096) (hb : b ≤ 4096) (h : Int32.ofNat a = Int32.ofNat b) : a = b := by
  have q := congrArg Int32.toInt h
  rw [own_i ha, own_i hb] at q; omega
theorem own_len {c : Cell} {n : Nat} (S : c.slots.size = n) : c.slots.size.toInt32 = Int32.ofNat n := by subst S; rfl
theorem own_in {c : Cell} {i n : Nat} (S : c.slots.size = n) (h : i < n) (hn : n ≤ 4096) : ¬ (Int32.ofNat i < 0 ∨ c.slots.size ≤ (Int32.ofNat i).toNatClampNeg) := by
  rw [own_nc (by omega), S]
  rintro (q | q)
  · exact own_nn (by omega) q
  · omega
theorem own_at {c : Cell} {i n : Nat} {f : Nat → Int32} (H : ∀ j, j < n → c.slots[j]? = some (.int (f j))) (h : i < n) (hn : n ≤ 4096) : c.slots[(Int32.ofNat i).toNatClampNeg]? = some (.int (f i)) := by
  rw [own_nc (by omega)]; exact H i h
def own_up (f : Nat → Int32) (k : Nat) (v : Int32) : Nat → Int32 := fun j => if j = k then v else f j
def own_fl (f : Nat → Int32) (a b : Nat) (v : Int32) : Nat → Int32 := fun j => if a ≤ j ∧ j < b then v else f j
def own_FA (Z : State) (h : Heap) (a : Addr) (n : Nat) (f : Nat → Int32) : Prop := ∃ c : Cell, Arr Z h a c .int ∧ c.slots.size = n ∧ ∀ j, j < n → c.slots[j]? = some (.int (f j))
theorem own_FA.lt {Z : State} {h : Heap} {a : Addr} {n : Nat} {f : Nat → Int32} (F : own_FA Z h a n f) : a < h.size := by obtain ⟨c, A, -⟩ := F; exact A.lt
theorem own_FA.ext {Z : State} {h h' : Heap} {a : Addr} {n : Nat} {f : Nat → Int32} (F : own_FA Z h a n f) (E : Ext h h') : own_FA Z h' a n f := by obtain ⟨c, A, r⟩ := F; exact ⟨c, A.ext E, r⟩
theorem own_FA.other {Z : State} {h h' : Heap} {a b : Addr} {n sl : Nat} {v : Value} {f : Nat → Int32} (F : own_FA Z h b n f) (W : Wr h h' a sl v) (q : b ≠ a) : own_FA Z h' b n f := by obtain ⟨c, A, r⟩ := F; exact ⟨c, A.other W q, r⟩
theorem own_FA.keep {Z : State} {h h' : Heap} {a : Addr} {n : Nat} {f : Nat → Int32} {ws : List Addr} (F : own_FA Z h a n f) (K : Keep h h' ws) (q : a ∉ ws) : own_FA Z h' a n f := by obtain ⟨c, A, r⟩ := F; exact ⟨c, ⟨K.2.1 a c A.1 q, A.2⟩, r⟩
theorem own_FA.set {Z : State} {h h' : Heap} {a : Addr} {c : Cell} {n i : Nat} {v : Int32} {f : Nat → Int32} (A : Arr Z h a c .int) (S : c.slots.size = n) (H : ∀ j, j < n → c.slots[j]? = some (.int (f j))) (W : Wr h h' a (Int32.ofNat i).toNatClampNeg (.int v)) (hi : i < n) (hn : n ≤ 4096) : own_FA Z h' a n (own_up f i v) := by
  rw [own_nc (by omega)] at W
  refine ⟨_, A.same W, by rw [sz_set]; exact S, fun j hj => ?_⟩
  show (c.slots.setIfInBounds i (.int v))[j]? = some (.int (if j = i then v else f j))
  rw [Array.getElem?_setIfInBounds]
  by_cases q : i = j
  · subst q; simp [S, hi]
  · rw [if_neg q, if_neg (fun z => q z.symm)]; exact H j hj
theorem own_FA.new {Z : State} {h : Heap} {a : Addr} {k : ClassId} {z : Int32} {n : Nat} (A : Arr Z h a (newA k .int z) .int) (hz : z.toNatClampNeg = n) : own_FA Z h a n (fun _ => 0) := by
  refine ⟨_, A, (sz_new _ _ _).trans hz, fun j hj => ?_⟩
  show (Array.replicate z.toNatClampNeg (defaultValue .int))[j]? = _
  rw [hz]; simp [hj, defaultValue]
/-- the trie at a: r roles, k nodes, its three arrays -/
def own_TR (Z : State) (h : Heap) (n0 : Nat) (a : Addr) (r k : Nat) (ch : Addr) (f : Nat → Int32) (rt : Addr) (g : Nat → Int32) (tg : Addr) (kt : ClassId) (vts : List Value) : Prop :=
  Exa Z h a "com/example/unicept/unicept/WordTrie" ∧ Fld Z h a "com/example/unicept/unicept/WordTrie" "roles" "I" (.int (Int32.ofNat r)) ∧ Fld Z h a "com/example/unicept/unicept/WordTrie" "children" "[I" (.ref ch) ∧ Fld Z h a "com/example/unicept/unicept/WordTrie" "roots" "[I" (.ref rt) ∧ Fld Z h a "com/example/unicept/unicept/WordTrie" "tags" "[[I" (.ref tg) ∧ Fld Z h a "com/example/unicept/unicept/WordTrie" "size" "I" (.int (Int32.ofNat k)) ∧
  own_FA Z h ch (16 * r) f ∧ own_FA Z h rt 16 g ∧ Arv Z h tg kt (.array .int) (16 : Int32) vts .null ∧ n0 ≤ a ∧ n0 ≤ ch ∧ n0 ≤ rt ∧ n0 ≤ tg ∧ a ≠ ch ∧ a ≠ rt ∧ a ≠ tg ∧ ch ≠ rt ∧ ch ≠ tg ∧ rt ≠ tg
theorem own_TR.ext {Z : State} {h h' : Heap} {n0 : Nat} {a : Addr} {r k : Nat} {ch : Addr} {f : Nat → Int32} {rt : Addr} {g : Nat → Int32} {tg : Addr} {kt : ClassId} {vts : List Value} (F : own_TR Z h n0 a r k ch f rt g tg kt vts) (E : Ext h h') : own_TR Z h' n0 a r k ch f rt g tg kt vts := by
  obtain ⟨f1, f2, f3, f4, f5, f6, f7, f8, f9, rest⟩ := F
  exact ⟨f1.ext E, f2.ext E, f3.ext E, f4.ext E, f5.ext E, f6.ext E, f7.ext E, f8.ext E, f9.ext E, rest⟩
theorem own_TR.keep {Z : State} {h h' : Heap} {n0 : Nat} {a : Addr} {r k : Nat} {ch : Addr} {f : Nat → Int32} {rt : Addr} {g : Nat → Int32} {tg : Addr} {kt : ClassId} {vts : List Value} {ws : List Addr} (F : own_TR Z h n0 a r k ch f rt g tg kt vts) (K : Keep h h' ws) (q1 : a ∉ ws) (q2 : ch ∉ ws) (q3 : rt ∉ ws) (q4 : tg ∉ ws) : own_TR Z h' n0 a r k ch f rt g tg kt vts := by
  obtain ⟨f1, f2, f3, f4, f5, f6, f7, f8, f9, rest⟩ := F
  exact ⟨f1.keep K, f2.keep K q1, f3.keep K q1, f4.keep K q1, f5.keep K q1, f6.keep K q1, f7.keep K q2, f8.keep K q3, f9.keep K q4, rest⟩
def own_ad (f : Nat → Int32) (r k nd q : Nat) : Nat → Int32 := own_up (own_fl f (k * r) (k * r + r) (-1)) (nd * r + q) (Int32.ofNat k)
theorem own_ix {r k nd q : Nat} (h1 : nd < k) (h2 : k ≤ 16) (h3 : q < r) : nd * r + q < 16 * r := by
  have h4 : (nd + 1) * r ≤ 16 * r := Nat.mul_le_mul_right r (by omega)
  rw [Nat.add_mul, Nat.one_mul] at h4; omega
theorem own_ad_new (f : Nat → Int32) {r k nd q t : Nat} (h1 : nd < k) (h2 : q < r) (h3 : t < r) : own_ad f r k nd q (k * r + t) = -1 := by
  have h4 : (nd + 1) * r ≤ k * r := Nat.mul_le_mul_right r (by omega)
  rw [Nat.add_mul, Nat.one_mul] at h4
  simp only [own_ad, own_up, own_fl]
  rw [if_neg (by omega), if_pos (by omega)]
theorem own_r (a : Int32) : ∃ r : Nat, 1 ≤ r ∧ r ≤ 8 ∧ ((1 : Int32) + (a &&& (7 : Int32))) = Int32.ofNat r := by
  have h1 := c_mask a (7 : Int32) 3 (by decide) (by decide)
  have h2 := c_iadd (1 : Int32) (a &&& (7 : Int32))
  have h3 := rng32 ((1 : Int32) + (a &&& (7 : Int32)))
  have h4 : (1 : Int32).toInt = 1 := by decide
  refine ⟨((1 : Int32) + (a &&& (7 : Int32))).toInt.toNat, by omega, by omega, ?_⟩
  refine Int32.toInt_inj.mp ?_
  rw [own_i (by omega)]; omega
theorem own_nz {r : Nat} (h1 : 1 ≤ r) (h8 : r ≤ 8) : Int32.ofNat r ≠ 0 := fun q => by
  have := own_inj (a := r) (b := 0) (by omega) (by omega) q
  omega
theorem own_rem {r : Nat} (h1 : 1 ≤ r) (h8 : r ≤ 8) {z : Int32} (hz : 0 ≤ z.toInt) : ∃ q : Nat, q < r ∧ (z % Int32.ofNat r) = Int32.ofNat q := by
  have h2 := (c_iremV z (Int32.ofNat r)).1 hz (by rw [own_i (by omega)]; omega)
  rw [own_i (by omega : r ≤ 4096)] at h2
  refine ⟨(z % Int32.ofNat r).toInt.toNat, by omega, ?_⟩
  refine Int32.toInt_inj.mp ?_
  rw [own_i (by omega)]; omega
theorem own_neg1 {z : Int32} (h : z = -1) : z < (0 : Int32) := by subst h; decide
theorem own_pd0 : parseMethodDescriptor "(III)V" = some ⟨[.int, .int, .int], none⟩ := by decide +kernel
theorem own_pd1 : parseMethodDescriptor "([IIII)V" = some ⟨[(.array .int), .int, .int, .int], none⟩ := by decide +kernel
theorem own_pd2 : parseMethodDescriptor "()I" = some ⟨[], some .int⟩ := by decide +kernel
theorem own_pd3 : parseMethodDescriptor "(II)I" = some ⟨[.int, .int], some .int⟩ := by decide +kernel
theorem own_pd4 : parseMethodDescriptor "(I)V" = some ⟨[.int], none⟩ := by decide +kernel
theorem own_pd5 : parseMethodDescriptor "(I[I)I" = some ⟨[.int, (.array .int)], some .int⟩ := by decide +kernel
theorem own_n1 (qb : Int32) : 0 ≤ (qb &&& (255 : Int32)).toInt := by
  have nf1 := rng32 qb
  have nf2 : (255 : Int32).toInt = 255 := by decide
  have nf3 := c_mask qb (255 : Int32) 8 (by decide) (by decide)
  omega
theorem own_n2 (qb : Int32) : 0 ≤ (((qb.toUInt32 >>> ((8 : Int32) &&& 31).toUInt32).toInt32) &&& (255 : Int32)).toInt := by
  have nf1 := rng32 qb
  have nf2 : (8 : Int32).toInt = 8 := by decide
  have nr3 := rng32 ((qb.toUInt32 >>> ((8 : Int32) &&& 31).toUInt32).toInt32)
  have nf3 := c_iushr qb (8 : Int32) 8 (by decide) (by decide)
  have nf4 : (255 : Int32).toInt = 255 := by decide
  have nf5 := c_mask ((qb.toUInt32 >>> ((8 : Int32) &&& 31).toUInt32).toInt32) (255 : Int32) 8 (by decide) (by decide)
  omega
theorem own_n3 (qb : Int32) : 0 ≤ (((qb.toUInt32 >>> ((16 : Int32) &&& 31).toUInt32).toInt32) &&& (255 : Int32)).toInt := by
  have nf1 := rng32 qb
  have nf2 : (16 : Int32).toInt = 16 := by decide
  have nr3 := rng32 ((qb.toUInt32 >>> ((16 : Int32) &&& 31).toUInt32).toInt32)
  have nf3 := c_iushr qb (16 : Int32) 16 (by decide) (by decide)
  have nf4 : (255 : Int32).toInt = 255 := by decide
  have nf5 := c_mask ((qb.toUInt32 >>> ((16 : Int32) &&& 31).toUInt32).toInt32) (255 : Int32) 8 (by decide) (by decide)
  omega
theorem own_n4 (qb : Int32) : 0 ≤ (((qb.toUInt32 >>> ((24 : Int32) &&& 31).toUInt32).toInt32) &&& (255 : Int32)).toInt := by
  have nf1 := rng32 qb
  have nf2 : (24 : Int32).toInt = 24 := by decide
  have nr3 := rng32 ((qb.toUInt32 >>> ((24 : Int32) &&& 31).toUInt32).toInt32)
  have nf3 := c_iushr qb (24 : Int32) 24 (by decide) (by decide)
  have nf4 : (255 : Int32).toInt = 255 := by decide
  have nf5 := c_mask ((qb.toUInt32 >>> ((24 : Int32) &&& 31).toUInt32).toInt32) (255 : Int32) 8 (by decide) (by decide)
  omega
theorem own_n5 (qx : Int32) : 0 ≤ (qx &&& (2147483647 : Int32)).toInt := by
  have nf1 := rng32 qx
  have nf2 : (2147483647 : Int32).toInt = 2147483647 := by decide
  have nf3 := c_mask qx (2147483647 : Int32) 31 (by decide) (by decide)
  omega
theorem own_n6 (qy : Int32) : 0 ≤ (qy &&& (2147483647 : Int32)).toInt := by
  have nf1 := rng32 qy
  have nf2 : (2147483647 : Int32).toInt = 2147483647 := by decide
  have nf3 := c_mask qy (2147483647 : Int32) 31 (by decide) (by decide)
  omega
theorem own_n7 (qx : Int32) : 0 ≤ (qx &&& (2147483647 : Int32)).toInt := by
  have nf1 := rng32 qx
  have nf2 : (2147483647 : Int32).toInt = 2147483647 := by decide
  have nf3 := c_mask qx (2147483647 : Int32) 31 (by decide) (by decide)
  omega
theorem own_n8 (qy : Int32) : 0 ≤ (qy &&& (2147483647 : Int32)).toInt := by
  have nf1 := rng32 qy
  have nf2 : (2147483647 : Int32).toInt = 2147483647 := by decide
  have nf3 := c_mask qy (2147483647 : Int32) 31 (by decide) (by decide)
  omega
theorem own_z21 (r : Nat) (p0 : Nat) (q0 : Nat) (s0 : Nat) (t0 : Nat) (hr1 : 1 ≤ r) (hr8 : r ≤ 8) (hlp0 : p0 < r) (hlq0 : q0 < r) (hls0 : s0 < r) (hlt0 : t0 < r)  : (own_fl (fun _ => 0) (0 * r) (0 * r + r) (-1)) (0 * r + p0) = -1 := by
  simp only [own_ad, own_up, own_fl]
  repeat (first | rw [if_pos (by omega)] | rw [if_neg (by omega)])
theorem own_z22 (r : Nat) (p0 : Nat) (q0 : Nat) (s0 : Nat) (t0 : Nat) (hr1 : 1 ≤ r) (hr8 : r ≤ 8) (hlp0 : p0 < r) (hlq0 : q0 < r) (hls0 : s0 < r) (hlt0 : t0 < r) (hsp : s0 = p0)  : ¬ ((own_ad (own_ad (own_fl (fun _ => 0) (0 * r) (0 * r + r) (-1)) r 1 0 p0) r 2 1 q0) (0 * r + s0) = (-1 : Int32)) := by
  simp only [own_ad, own_up, own_fl]
  repeat (first | rw [if_pos (by omega)] | rw [if_neg (by omega)])
  decide
theorem own_z23 (r : Nat) (p0 : Nat) (q0 : Nat) (s0 : Nat) (t0 : Nat) (hr1 : 1 ≤ r) (hr8 : r ≤ 8) (hlp0 : p0 < r) (hlq0 : q0 < r) (hls0 : s0 < r) (hlt0 : t0 < r) (hsp : s0 = p0)  : (own_fl (own_ad (own_ad (own_fl (fun _ => 0) (0 * r) (0 * r + r) (-1)) r 1 0 p0) r 2 1 q0) (3 * r) (3 * r + r) (-1)) (3 * r + t0) = -1 := by
  simp only [own_ad, own_up, own_fl]
  repeat (first | rw [if_pos (by omega)] | rw [if_neg (by omega)])
theorem own_z24 (r : Nat) (p0 : Nat) (q0 : Nat) (s0 : Nat) (t0 : Nat) (nd : Nat) (ro : Nat) (hr1 : 1 ≤ r) (hr8 : r ≤ 8) (hlp0 : p0 < r) (hlq0 : q0 < r) (hls0 : s0 < r) (hlt0 : t0 < r) (hsp : s0 = p0) (hlnd : nd < 5) (hlro : ro < r) (hm59 : nd = 0) (hm62 : ro = p0) (F : Nat → Int32) (hF : F = (own_ad (own_fl (own_ad (own_ad (own_fl (fun _ => 0) (0 * r) (0 * r + r) (-1)) r 1 0 p0) r 2 1 q0) (3 * r) (3 * r + r) (-1)) r 4 3 t0)) : F (nd * r + ro) = (1 : Int32) := by
  subst hF
  rcases (show nd = 0 by omega) with hv
  · subst hv
    simp only [own_ad, own_up, own_fl]
    repeat (first | rw [if_pos (by omega)] | rw [if_neg (by omega)])
    all_goals rfl
theorem own_z25 (r : Nat) (p0 : Nat) (q0 : Nat) (s0 : Nat) (t0 : Nat) (nd : Nat) (ro : Nat) (hr1 : 1 ≤ r) (hr8 : r ≤ 8) (hlp0 : p0 < r) (hlq0 : q0 < r) (hls0 : s0 < r) (hlt0 : t0 < r) (hsp : s0 = p0) (hlnd : nd < 5) (hlro : ro < r) (hm59 : nd = 0) (hm64 : ¬ ro = p0) (F : Nat → Int32) (hF : F = (own_ad (own_fl (own_ad (own_ad (own_fl (fun _ => 0) (0 * r) (0 * r + r) (-1)) r 1 0 p0) r 2 1 q0) (3 * r) (3 * r + r) (-1)) r 4 3 t0)) : F (nd * r + ro) = (-1 : Int32) := by
  subst hF
  rcases (show nd = 0 by omega) with hv
  · subst hv
    simp only [own_ad, own_up, own_fl]
    repeat (first | rw [if_pos (by omega)] | rw [if_neg (by omega)])
    all_goals rfl
theorem own_z26 (r : Nat) (p0 : Nat) (q0 : Nat) (s0 : Nat) (t0 : Nat) (nd : Nat) (ro : Nat) (hr1 : 1 ≤ r) (hr8 : r ≤ 8) (hlp0 : p0 < r) (hlq0 : q0 < r) (hls0 : s0 < r) (hlt0 : t0 < r) (hsp : s0 = p0) (hlnd : nd < 5) (hlro : ro < r) (hm66 : ¬ nd = 0) (hm69 : nd = 1) (hm72 : ro = q0) (F : Nat → Int32) (hF : F = (own_ad (own_fl (own_ad (own_ad (own_fl (fun _ => 0) (0 * r) (0 * r + r) (-1)) r 1 0 p0) r 2 1 q0) (3 * r) (3 * r + r) (-1)) r 4 3 t0)) : F (nd * r + ro) = (2 : Int32) := by
  subst hF
  rcases (show nd = 1 by omega) with hv
  · subst hv
    simp only [own_ad, own_up, own_fl]
    repeat (first | rw [if_pos (by omega)] | rw [if_neg (by omega)])
    all_goals rfl
theorem own_z27 (r : Nat) (p0 : Nat) (q0 : Nat) (s0 : Nat) (t0 : Nat) (nd : Nat) (ro : Nat) (hr1 : 1 ≤ r) (hr8 : r ≤ 8) (hlp0 : p0 < r) (hlq0 : q0 < r) (hls0 : s0 < r) (hlt0 : t0 < r) (hsp : s0 = p0) (hlnd : nd < 5) (hlro : ro < r) (hm66 : ¬ nd = 0) (hm69 : nd = 1) (hm74 : ¬ ro = q0) (F : Nat → Int32) (hF : F = (own_ad (own_fl (own_ad (own_ad (own_fl (fun _ => 0) (0 * r) (0 * r + r) (-1)) r 1 0 p0) r 2 1 q0) (3 * r) (3 * r + r) (-1)) r 4 3 t0)) : F (nd * r + ro) = (-1 : Int32) := by
  subst hF
  rcases (show nd = 1 by omega) with hv
  · subst hv
    simp only [own_ad, own_up, own_fl]
    repeat (first | rw [if_pos (by omega)] | rw [if_neg (by omega)])
    all_goals rfl
theorem own_z28 (r : Nat) (p0 : Nat) (q0 : Nat) (s0 : Nat) (t0 : Nat) (nd : Nat) (ro : Nat) (hr1 : 1 ≤ r) (hr8 : r ≤ 8) (hlp0 : p0 < r) (hlq0 : q0 < r) (hls0 : s0 < r) (hlt0 : t0 < r) (hsp : s0 = p0) (hlnd : nd < 5) (hlro : ro < r) (hm66 : ¬ nd = 0) (hm76 : ¬ nd = 1) (hm79 : nd = 3) (hm82 : ro = t0) (F : Nat → Int32) (hF : F = (own_ad (own_fl (own_ad (own_ad (own_fl (fun _ => 0) (0 * r) (0 * r + r) (-1)) r 1 0 p0) r 2 1 q0) (3 * r) (3 * r + r) (-1)) r 4 3 t0)) : F (nd * r + ro) = (4 : Int32) := by
  subst hF
  rcases (show nd = 3 by omega) with hv
  · subst hv
    simp only [own_ad, own_up, own_fl]
    repeat (first | rw [if_pos (by omega)] | rw [if_neg (by omega)])
    all_goals rfl
theorem own_z29 (r : Nat) (p0 : Nat) (q0 : Nat) (s0 : Nat) (t0 : Nat) (nd : Nat) (ro : Nat) (hr1 : 1 ≤ r) (hr8 : r ≤ 8) (hlp0 : p0 < r) (hlq0 : q0 < r) (hls0 : s0 < r) (hlt0 : t0 < r) (hsp : s0 = p0) (hlnd : nd < 5) (hlro : ro < r) (hm66 : ¬ nd = 0) (hm76 : ¬ nd = 1) (hm79 : nd = 3) (hm84 : ¬ ro = t0) (F : Nat → Int32) (hF : F = (own_ad (own_fl (own_ad (own_ad (own_fl (fun _ => 0) (0 * r) (0 * r + r) (-1)) r 1 0 p0) r 2 1 q0) (3 * r) (3 * r + r) (-1)) r 4 3 t0)) : F (nd * r + ro) = (-1 : Int32) := by
  subst hF
  rcases (show nd = 3 by omega) with hv
  · subst hv
    simp only [own_ad, own_up, own_fl]
    repeat (first | rw [if_pos (by omega)] | rw [if_neg (by omega)])
    all_goals rfl
theorem own_z30 (r : Nat) (p0 : Nat) (q0 : Nat) (s0 : Nat) (t0 : Nat) (nd : Nat) (ro : Nat) (hr1 : 1 ≤ r) (hr8 : r ≤ 8) (hlp0 : p0 < r) (hlq0 : q0 < r) (hls0 : s0 < r) (hlt0 : t0 < r) (hsp : s0 = p0) (hlnd : nd < 5) (hlro : ro < r) (hm66 : ¬ nd = 0) (hm76 : ¬ nd = 1) (hm86 : ¬ nd = 3) (F : Nat → Int32) (hF : F = (own_ad (own_fl (own_ad (own_ad (own_fl (fun _ => 0) (0 * r) (0 * r + r) (-1)) r 1 0 p0) r 2 1 q0) (3 * r) (3 * r + r) (-1)) r 4 3 t0)) : F (nd * r + ro) = (-1 : Int32) := by
  subst hF
  rcases (show nd = 2 ∨ nd = 4 by omega) with hv | hv
  · subst hv
    simp only [own_ad, own_up, own_fl]
    repeat (first | rw [if_pos (by omega)] | rw [if_neg (by omega)])
    all_goals rfl
  · subst hv
    simp only [own_ad, own_up, own_fl]
    repeat (first | rw [if_pos (by omega)] | rw [if_neg (by omega)])
    all_goals rfl
theorem own_z31 (r : Nat) (p0 : Nat) (q0 : Nat) (s0 : Nat) (t0 : Nat) (hr1 : 1 ≤ r) (hr8 : r ≤ 8) (hlp0 : p0 < r) (hlq0 : q0 < r) (hls0 : s0 < r) (hlt0 : t0 < r) (hsp : ¬ s0 = p0)  : (own_ad (own_ad (own_fl (fun _ => 0) (0 * r) (0 * r + r) (-1)) r 1 0 p0) r 2 1 q0) (0 * r + s0) = -1 := by
  simp only [own_ad, own_up, own_fl]
  repeat (first | rw [if_pos (by omega)] | rw [if_neg (by omega)])
theorem own_z32 (r : Nat) (p0 : Nat) (q0 : Nat) (s0 : Nat) (t0 : Nat) (hr1 : 1 ≤ r) (hr8 : r ≤ 8) (hlp0 : p0 < r) (hlq0 : q0 < r) (hls0 : s0 < r) (hlt0 : t0 < r) (hsp : ¬ s0 = p0)  : (own_fl (own_ad (own_ad (own_ad (own_fl (fun _ => 0) (0 * r) (0 * r + r) (-1)) r 1 0 p0) r 2 1 q0) r 3 0 s0) (4 * r) (4 * r + r) (-1)) (4 * r + t0) = -1 := by
  simp only [own_ad, own_up, own_fl]
  repeat (first | rw [if_pos (by omega)] | rw [if_neg (by omega)])
theorem own_z33 (r : Nat) (p0 : Nat) (q0 : Nat) (s0 : Nat) (t0 : Nat) (nd : Nat) (ro : Nat) (hr1 : 1 ≤ r) (hr8 : r ≤ 8) (hlp0 : p0 < r) (hlq0 : q0 < r) (hls0 : s0 < r) (hlt0 : t0 < r) (hsp : ¬ s0 = p0) (hlnd : nd < 6) (hlro : ro < r) (hm110 : nd = 0) (hm113 : ro = p0) (F : Nat → Int32) (hF : F = (own_ad (own_fl (own_ad (own_ad (own_ad (own_fl (fun _ => 0) (0 * r) (0 * r + r) (-1)) r 1 0 p0) r 2 1 q0) r 3 0 s0) (4 * r) (4 * r + r) (-1)) r 5 4 t0)) : F (nd * r + ro) = (1 : Int32) := by
  subst hF
  rcases (show nd = 0 by omega) with hv
  · subst hv
    simp only [own_ad, own_up, own_fl]
    repeat (first | rw [if_pos (by omega)] | rw [if_neg (by omega)])
    all_goals rfl
theorem own_z34 (r : Nat) (p0 : Nat) (q0 : Nat) (s0 : Nat) (t0 : Nat) (nd : Nat) (ro : Nat) (hr1 : 1 ≤ r) (hr8 : r ≤ 8) (hlp0 : p0 < r) (hlq0 : q0 < r) (hls0 : s0 < r) (hlt0 : t0 < r) (hsp : ¬ s0 = p0) (hlnd : nd < 6) (hlro : ro < r) (hm110 : nd = 0) (hm115 : ¬ ro = p0) (hm118 : ro = s0) (F : Nat → Int32) (hF : F = (own_ad (own_fl (own_ad (own_ad (own_ad (own_fl (fun _ => 0) (0 * r) (0 * r + r) (-1)) r 1 0 p0) r 2 1 q0) r 3 0 s0) (4 * r) (4 * r + r) (-1)) r 5 4 t0)) : F (nd * r + ro) = (3 : Int32) := by
  subst hF
  rcases (show nd = 0 by omega) with hv
  · subst hv
    simp only [own_ad, own_up, own_fl]
    repeat (first | rw [if_pos (by omega)] | rw [if_neg (by omega)])
    all_goals rfl
theorem own_z35 (r : Nat) (p0 : Nat) (q0 : Nat) (s0 : Nat) (t0 : Nat) (nd : Nat) (ro : Nat) (hr1 : 1 ≤ r) (hr8 : r ≤ 8) (hlp0 : p0 < r) (hlq0 : q0 < r) (hls0 : s0 < r) (hlt0 : t0 < r) (hsp : ¬ s0 = p0) (hlnd : nd < 6) (hlro : ro < r) (hm110 : nd = 0) (hm115 : ¬ ro = p0) (hm120 : ¬ ro = s0) (F : Nat → Int32) (hF : F = (own_ad (own_fl (own_ad (own_ad (own_ad (own_fl (fun _ => 0) (0 * r) (0 * r + r) (-1)) r 1 0 p0) r 2 1 q0) r 3 0 s0) (4 * r) (4 * r + r) (-1)) r 5 4 t0)) : F (nd * r + ro) = (-1 : Int32) := by
  subst hF
  rcases (show nd = 0 by omega) with hv
  · subst hv
    simp only [own_ad, own_up, own_fl]
    repeat (first | rw [if_pos (by omega)] | rw [if_neg (by omega)])
    all_goals rfl
theorem own_z36 (r : Nat) (p0 : Nat) (q0 : Nat) (s0 : Nat) (t0 : Nat) (nd : Nat) (ro : Nat) (hr1 : 1 ≤ r) (hr8 : r ≤ 8) (hlp0 : p0 < r) (hlq0 : q0 < r) (hls0 : s0 < r) (hlt0 : t0 < r) (hsp : ¬ s0 = p0) (hlnd : nd < 6) (hlro : ro < r) (hm122 : ¬ nd = 0) (hm125 : nd = 1) (hm128 : ro = q0) (F : Nat → Int32) (hF : F = (own_ad (own_fl (own_ad (own_ad (own_ad (own_fl (fun _ => 0) (0 * r) (0 * r + r) (-1)) r 1 0 p0) r 2 1 q0) r 3 0 s0) (4 * r) (4 * r + r) (-1)) r 5 4 t0)) : F (nd * r + ro) = (2 : Int32) := by
  subst hF
  rcases (show nd = 1 by omega) with hv
  · subst hv
    simp only [own_ad, own_up, own_fl]
    repeat (first | rw [if_pos (by omega)] | rw [if_neg (by omega)])
    all_goals rfl
theorem own_z37 (r : Nat) (p0 : Nat) (q0 : Nat) (s0 : Nat) (t0 : Nat) (nd : Nat) (ro : Nat) (hr1 : 1 ≤ r) (hr8 : r ≤ 8) (hlp0 : p0 < r) (hlq0 : q0 < r) (hls0 : s0 < r) (hlt0 : t0 < r) (hsp : ¬ s0 = p0) (hlnd : nd < 6) (hlro : ro < r) (hm122 : ¬ nd = 0) (hm125 : nd = 1) (hm130 : ¬ ro = q0) (F : Nat → Int32) (hF : F = (own_ad (own_fl (own_ad (own_ad (own_ad (own_fl (fun _ => 0) (0 * r) (0 * r + r) (-1)) r 1 0 p0) r 2 1 q0) r 3 0 s0) (4 * r) (4 * r + r) (-1)) r 5 4 t0)) : F (nd * r + ro) = (-1 : Int32) := by
  subst hF
  rcases (show nd = 1 by omega) with hv
  · subst hv
    simp only [own_ad, own_up, own_fl]
    repeat (first | rw [if_pos (by omega)] | rw [if_neg (by omega)])
    all_goals rfl
theorem own_z38 (r : Nat) (p0 : Nat) (q0 : Nat) (s0 : Nat) (t0 : Nat) (nd : Nat) (ro : Nat) (hr1 : 1 ≤ r) (hr8 : r ≤ 8) (hlp0 : p0 < r) (hlq0 : q0 < r) (hls0 : s0 < r) (hlt0 : t0 < r) (hsp : ¬ s0 = p0) (hlnd : nd < 6) (hlro : ro < r) (hm122 : ¬ nd = 0) (hm132 : ¬ nd = 1) (hm135 : nd = 4) (hm138 : ro = t0) (F : Nat → Int32) (hF : F = (own_ad (own_fl (own_ad (own_ad (own_ad (own_fl (fun _ => 0) (0 * r) (0 * r + r) (-1)) r 1 0 p0) r 2 1 q0) r 3 0 s0) (4 * r) (4 * r + r) (-1)) r 5 4 t0)) : F (nd * r + ro) = (5 : Int32) := by
  subst hF
  rcases (show nd = 4 by omega) with hv
  · subst hv
    simp only [own_ad, own_up, own_fl]
    repeat (first | rw [if_pos (by omega)] | rw [if_neg (by omega)])
    all_goals rfl
theorem own_z39 (r : Nat) (p0 : Nat) (q0 : Nat) (s0 : Nat) (t0 : Nat) (nd : Nat) (ro : Nat) (hr1 : 1 ≤ r) (hr8 : r ≤ 8) (hlp0 : p0 < r) (hlq0 : q0 < r) (hls0 : s0 < r) (hlt0 : t0 < r) (hsp : ¬ s0 = p0) (hlnd : nd < 6) (hlro : ro < r) (hm122 : ¬ nd = 0) (hm132 : ¬ nd = 1) (hm135 : nd = 4) (hm140 : ¬ ro = t0) (F : Nat → Int32) (hF : F = (own_ad (own_fl (own_ad (own_ad (own_ad (own_fl (fun _ => 0) (0 * r) (0 * r + r) (-1)) r 1 0 p0) r 2 1 q0) r 3 0 s0) (4 * r) (4 * r + r) (-1)) r 5 4 t0)) : F (nd * r + ro) = (-1 : Int32) := by
  subst hF
  rcases (show nd = 4 by omega) with hv
  · subst hv
    simp only [own_ad, own_up, own_fl]
    repeat (first | rw [if_pos (by omega)] | rw [if_neg (by omega)])
    all_goals rfl
theorem own_z40 (r : Nat) (p0 : Nat) (q0 : Nat) (s0 : Nat) (t0 : Nat) (nd : Nat) (ro : Nat) (hr1 : 1 ≤ r) (hr8 : r ≤ 8) (hlp0 : p0 < r) (hlq0 : q0 < r) (hls0 : s0 < r) (hlt0 : t0 < r) (hsp : ¬ s0 = p0) (hlnd : nd < 6) (hlro : ro < r) (hm122 : ¬ nd = 0) (hm132 : ¬ nd = 1) (hm142 : ¬ nd = 4) (F : Nat → Int32) (hF : F = (own_ad (own_fl (own_ad (own_ad (own_ad (own_fl (fun _ => 0) (0 * r) (0 * r + r) (-1)) r 1 0 p0) r 2 1 q0) r 3 0 s0) (4 * r) (4 * r + r) (-1)) r 5 4 t0)) : F (nd * r + ro) = (-1 : Int32) := by
  subst hF
  rcases (show nd = 2 ∨ nd = 3 ∨ nd = 5 by omega) with hv | hv | hv
  · subst hv
    simp only [own_ad, own_up, own_fl]
    repeat (first | rw [if_pos (by omega)] | rw [if_neg (by omega)])
    all_goals rfl
  · subst hv
    simp only [own_ad, own_up, own_fl]
    repeat (first | rw [if_pos (by omega)] | rw [if_neg (by omega)])
    all_goals rfl
  · subst hv
    simp only [own_ad, own_up, own_fl]
    repeat (first | rw [if_pos (by omega)] | rw [if_neg (by omega)])
    all_goals rfl
theorem own_d3_0 : decode jdk_29_method_65_code 0 = .ok (.iload_n 0, 1) := by decide +kernel
theorem own_d3_1 : decode jdk_29_method_65_code 1 = .ok (.iload_n 1, 1) := by decide +kernel
theorem own_d3_2 : decode jdk_29_method_65_code 2 = .ok (.if_icmp .lt 7, 3) := by decide +kernel
theorem own_d3_5 : decode jdk_29_method_65_code 5 = .ok (.iload_n 0, 1) := by decide +kernel
theorem own_d3_6 : decode jdk_29_method_65_code 6 = .ok (.goto 4, 3) := by decide +kernel
theorem own_d3_10 : decode jdk_29_method_65_code 10 = .ok (.ireturn, 1) := by decide +kernel
theorem own_ef_own_max (m : MethodId) (x0 : Int32) (x1 : Int32) : entryFrame m #[(.int x0), (.int x1)] 2 = mkF m 0 #[.val (.int x0), .val (.int x1)] [] := by first | (simp [entryFrame, mkF, argsToLocals, Value.category]; done) | rfl
def Q_own_max (Z : State) (p1 : Int32) (p2 : Int32) (h0 : Heap) (n0 : Nat) (v : Option Value) (h : Heap) (L : List Loc) : Prop := v = some (.int p1) ∧ Fr n0 L ∧ h = h0
set_option maxRecDepth 65536 in
set_option maxHeartbeats 40000000 in
theorem own_max (l : Launch) (Z : State) (a0 : Array Value) (hw : ∀ d ∈ tables_1, d.before a0 Z = true) (ws : List Jvm.Cond) (p1 : Int32) (p2 : Int32) (h0 : Heap) (n0 : Nat) (Z0 : n0 ≤ h0.size) (hm : ¬ (p1 < p2)) :
    MetFree l (⟨"java/lang/Math", "max", "(II)I"⟩ : MethodName) (head1 (Jvm.Cond.code (⟨"java/lang/Math", "max", "(II)I"⟩ : MethodName) jdk_29_method_65_code 2 (some .int) :: ws) ({ frames := 0, cells := 0, slots := 0, locals := 0 } : Room)) (fun a U => a = #[(.int p1), (.int p2)] ∧ Z.Warmed39 U.vm ∧ U.heap = h0) (fun _ _ _ _ _ => True) (fun _ U o U' => ∃ v L, o = .returned v ∧ Q_own_max Z p1 p2 h0 n0 v U'.heap L ∧ FrameEnd U o U' L ({ frames := 0, cells := 0, slots := 0, locals := 0 } : Room).cells ({ frames := 0, cells := 0, slots := 0, locals := 0 } : Room).slots) := by
  refine MetFree.of_bodySF (Jvm.Free.JP.mathPlain rfl (by decide +kernel)) hisR ?_
  intro p e s m args below meth c s₁ Bd hml0 hP hK
  obtain ⟨rfl, hZ, hh⟩ := hP
  have hx := Bd.exec
  have hby := Bd.bytes
  have hml : c.maxLocals = 2 := hml0
  have hown : s.vm.findClass "java/lang/Math" = some m.cls := findClass_of_methodNamed Bd.named
  have hnm := (name_of_methodNamed Bd.named Bd.method).1
  have X0 : Stand p l e ({ frames := 0, cells := 0, slots := 0, locals := 0 } : Room) s m #[(.int p1), (.int p2)] below meth c s₁ [] 0 0 := Stand.of_body Bd
  have e0 : s₁.heap = h0 := by rw [← hh, Bd.state]; rfl
  have N0 := Fr.nil n0
  have pre0 : Goes p e below s₁ (entryFrame m #[(.int p1), (.int p2)] 2) s₁ (mkF m 0 #[.val (.int p1), .val (.int p2)] []) := fun t k => castTop (own_ef_own_max m p1 p2) k
  have pre1 : Goes p e below s₁ (entryFrame m #[(.int p1), (.int p2)] 2) s₁ (mkF m 10 #[.val (.int p1), .val (.int p2)] [(.int p1)]) := fun t kt => pre0 t (by
      show Steps p.tables e below (s₁.setTop (mkF m 0 #[.val (.int p1), .val (.int p2)] [])) _
      refine XS.iloadN X0.here hx rfl (hb hby own_d3_0) rfl ?_
      show Steps p.tables e below (s₁.setTop (mkF m 1 #[.val (.int p1), .val (.int p2)] [(.int p1)])) _
      refine XS.iloadN X0.here hx rfl (hb hby own_d3_1) rfl ?_
      show Steps p.tables e below (s₁.setTop (mkF m 2 #[.val (.int p1), .val (.int p2)] [(.int p2), (.int p1)])) _
      refine XS.icmpNo X0.here hx rfl (hb hby own_d3_2) rfl (flt hm).1 ?_
      show Steps p.tables e below (s₁.setTop (mkF m 5 #[.val (.int p1), .val (.int p2)] [])) _
      refine XS.iloadN X0.here hx rfl (hb hby own_d3_5) rfl ?_
      show Steps p.tables e below (s₁.setTop (mkF m 6 #[.val (.int p1), .val (.int p2)] [(.int p1)])) _
      refine XS.goto X0.here hx rfl (pc0 := 6) (pc' := 10) rfl (hb hby own_d3_6) (by decide) (by decide) ?_
      exact kt)
  obtain ⟨fs, hr, hrun, hended, hW, hsame⟩ := X0.leave (v := some (.int p1)) (fun h => by rw [Bd.returns] at h; cases h)
  refine ⟨_, _, pre1 _ ?_, hrun, hended, _, _, rfl, ?_, ⟨_, rfl⟩, hW, hsame.mono (by decide) (by decide)⟩
  · show Steps p.tables e below (s₁.setTop (mkF m 10 #[.val (.int p1), .val (.int p2)] [(.int p1)])) _
    exact retI X0 hx Bd.returns (hb hby own_d3_10) hr
  · show Q_own_max Z p1 p2 h0 n0 _ s₁.heap _
    rw [e0]
    exact ⟨rfl, N0, rfl⟩

theorem own_d7_0 : decode jdk_65_method_30_code 0 = .ok (.iload_n 1, 1) := by decide +kernel
theorem own_d7_1 : decode jdk_65_method_30_code 1 = .ok (.iload_n 2, 1) := by decide +kernel
theorem own_d7_2 : decode jdk_65_method_30_code 2 = .ok (.if_icmp .le 44, 3) := by decide +kernel
theorem own_d7_46 : decode jdk_65_method_30_code 46 = .ok (.iload_n 1, 1) := by decide +kernel
theorem own_d7_47 : decode jdk_65_method_30_code 47 = .ok (.ifCond .ge 12, 3) := by decide +kernel
theorem own_d7_59 : decode jdk_65_method_30_code 59 = .ok (.iload_n 2, 1) := by decide +kernel
theorem own_d7_60 : decode jdk_65_method_30_code 60 = .ok (.iload_n 0, 1) := by decide +kernel
theorem own_d7_61 : decode jdk_65_method_30_code 61 = .ok (.if_icmp .le 12, 3) := by decide +kernel
theorem own_d7_73 : decode jdk_65_method_30_code 73 = .ok (.return_, 1) := by decide +kernel
theorem own_pn_own_range : plainName "java/util/Arrays" = true := by first | (simp [plainName, overriddenIn]; done) | decide +kernel
theorem own_ef_own_range (m : MethodId) (x0 : Int32) (x1 : Int32) (x2 : Int32) : entryFrame m #[(.int x0), (.int x1), (.int x2)] 3 = mkF m 0 #[.val (.int x0), .val (.int x1), .val (.int x2)] [] := by first | (simp [entryFrame, mkF, argsToLocals, Value.category]; done) | rfl
def Q_own_range (Z : State) (p1 : Int32) (p2 : Int32) (p3 : Int32) (h0 : Heap) (n0 : Nat) (v : Option Value) (h : Heap) (L : List Loc) : Prop := v = none ∧ Fr n0 L ∧ h = h0
set_option maxRecDepth 65536 in
set_option maxHeartbeats 40000000 in
theorem own_range (l : Launch) (Z : State) (a0 : Array Value) (hw : ∀ d ∈ tables_1, d.before a0 Z = true) (ws : List Jvm.Cond) (p1 : Int32) (p2 : Int32) (p3 : Int32) (h0 : Heap) (n0 : Nat) (Z0 : n0 ≤ h0.size) (h1 : ¬ (p3 < p2)) (h2 : ¬ (p2 < (0 : Int32))) (h3 : ¬ (p1 < p3)) :
    MetFree l (⟨"java/util/Arrays", "rangeCheck", "(III)V"⟩ : MethodName) (head1 (Jvm.Cond.code (⟨"java/util/Arrays", "rangeCheck", "(III)V"⟩ : MethodName) jdk_65_method_30_code 3 none :: ws) ({ frames := 0, cells := 0, slots := 0, locals := 0 } : Room)) (fun a U => a = #[(.int p1), (.int p2), (.int p3)] ∧ Z.Warmed39 U.vm ∧ U.heap = h0) (fun _ _ _ _ _ => True) (fun _ U o U' => ∃ v L, o = .returned v ∧ Q_own_range Z p1 p2 p3 h0 n0 v U'.heap L ∧ FrameEnd U o U' L ({ frames := 0, cells := 0, slots := 0, locals := 0 } : Room).cells ({ frames := 0, cells := 0, slots := 0, locals := 0 } : Room).slots) := by
  refine MetFree.of_bodySF (plainFor_of_name own_pn_own_range) hisR ?_
  intro p e s m args below meth c s₁ Bd hml0 hP hK
  obtain ⟨rfl, hZ, hh⟩ := hP
  have hx := Bd.exec
  have hby := Bd.bytes
  have hml : c.maxLocals = 3 := hml0
  have hown : s.vm.findClass "java/util/Arrays" = some m.cls := findClass_of_methodNamed Bd.named
  have hnm := (name_of_methodNamed Bd.named Bd.method).1
  have X0 : Stand p l e ({ frames := 0, cells := 0, slots := 0, locals := 0 } : Room) s m #[(.int p1), (.int p2), (.int p3)] below meth c s₁ [] 0 0 := Stand.of_body Bd
  have e0 : s₁.heap = h0 := by rw [← hh, Bd.state]; rfl
  have N0 := Fr.nil n0
  have pre0 : Goes p e below s₁ (entryFrame m #[(.int p1), (.int p2), (.int p3)] 3) s₁ (mkF m 0 #[.val (.int p1), .val (.int p2), .val (.int p3)] []) := fun t k => castTop (own_ef_own_range m p1 p2 p3) k
  have pre1 : Goes p e below s₁ (entryFrame m #[(.int p1), (.int p2), (.int p3)] 3) s₁ (mkF m 73 #[.val (.int p1), .val (.int p2), .val (.int p3)] []) := fun t kt => pre0 t (by
      show Steps p.tables e below (s₁.setTop (mkF m 0 #[.val (.int p1), .val (.int p2), .val (.int p3)] [])) _
      refine XS.iloadN X0.here hx rfl (hb hby own_d7_0) rfl ?_
      show Steps p.tables e below (s₁.setTop (mkF m 1 #[.val (.int p1), .val (.int p2), .val (.int p3)] [(.int p2)])) _
      refine XS.iloadN X0.here hx rfl (hb hby own_d7_1) rfl ?_
      show Steps p.tables e below (s₁.setTop (mkF m 2 #[.val (.int p1), .val (.int p2), .val (.int p3)] [(.int p3), (.int p2)])) _
      refine XS.icmpYes X0.here hx rfl (pc0 := 2) (pc' := 46) rfl (hb hby own_d7_2) rfl (flt h1).2.2.2 (by decide) (by decide) ?_
      show Steps p.tables e below (s₁.setTop (mkF m 46 #[.val (.int p1), .val (.int p2), .val (.int p3)] [])) _
      refine XS.iloadN X0.here hx rfl (hb hby own_d7_46) rfl ?_
      show Steps p.tables e below (s₁.setTop (mkF m 47 #[.val (.int p1), .val (.int p2), .val (.int p3)] [(.int p2)])) _
      refine XS.ifYes X0.here hx rfl (pc0 := 47) (pc' := 59) rfl (hb hby own_d7_47) rfl ((if0 _ _).trans (flt h2).2.1) (by decide) (by decide) ?_
      show Steps p.tables e below (s₁.setTop (mkF m 59 #[.val (.int p1), .val (.int p2), .val (.int p3)] [])) _
      refine XS.iloadN X0.here hx rfl (hb hby own_d7_59) rfl ?_
      show Steps p.tables e below (s₁.setTop (mkF m 60 #[.val (.int p1), .val (.int p2), .val (.int p3)] [(.int p3)])) _
      refine XS.iloadN X0.here hx rfl (hb hby own_d7_60) rfl ?_
      show Steps p.tables e below (s₁.setTop (mkF m 61 #[.val (.int p1), .val (.int p2), .val (.int p3)] [(.int p1), (.int p3)])) _
      refine XS.icmpYes X0.here hx rfl (pc0 := 61) (pc' := 73) rfl (hb hby own_d7_61) rfl (flt h3).2.2.2 (by decide) (by decide) ?_
      exact kt)
  obtain ⟨fs, hr, hrun, hended, hW, hsame⟩ := X0.leave (v := none) (fun _ => rfl)
  refine ⟨_, _, pre1 _ ?_, hrun, hended, _, _, rfl, ?_, ⟨_, rfl⟩, hW, hsame.mono (by decide) (by decide)⟩
  · show Steps p.tables e below (s₁.setTop (mkF m 73 #[.val (.int p1), .val (.int p2), .val (.int p3)] [])) _
    exact X0.returnOut hx Bd.returns (hb hby own_d7_73) hr
  · show Q_own_range Z p1 p2 p3 h0 n0 _ s₁.heap _
    rw [e0]
    exact ⟨rfl, N0, rfl⟩

theorem own_dfill_0 : decode jdk_65_method_104_code 0 = .ok (.aload_n 0, 1) := by decide +kernel
theorem own_dfill_1 : decode jdk_65_method_104_code 1 = .ok (.arraylength, 1) := by decide +kernel
theorem own_dfill_2 : decode jdk_65_method_104_code 2 = .ok (.iload_n 1, 1) := by decide +kernel
theorem own_dfill_3 : decode jdk_65_method_104_code 3 = .ok (.iload_n 2, 1) := by decide +kernel
theorem own_dfill_4 : decode jdk_65_method_104_code 4 = .ok (.invokestatic 13, 3) := by decide +kernel
theorem own_dfill_7 : decode jdk_65_method_104_code 7 = .ok (.iload_n 1, 1) := by decide +kernel
theorem own_dfill_8 : decode jdk_65_method_104_code 8 = .ok (.istore 4, 2) := by decide +kernel
theorem own_dfill_10 : decode jdk_65_method_104_code 10 = .ok (.iload 4, 2) := by decide +kernel
theorem own_dfill_12 : decode jdk_65_method_104_code 12 = .ok (.iload_n 2, 1) := by decide +kernel
theorem own_dfill_13 : decode jdk_65_method_104_code 13 = .ok (.if_icmp .ge 14, 3) := by decide +kernel
theorem own_dfill_16 : decode jdk_65_method_104_code 16 = .ok (.aload_n 0, 1) := by decide +kernel
theorem own_dfill_17 : decode jdk_65_method_104_code 17 = .ok (.iload 4, 2) := by decide +kernel
theorem own_dfill_19 : decode jdk_65_method_104_code 19 = .ok (.iload_n 3, 1) := by decide +kernel
theorem own_dfill_20 : decode jdk_65_method_104_code 20 = .ok (.iastore, 1) := by decide +kernel
theorem own_dfill_21 : decode jdk_65_method_104_code 21 = .ok (.iinc 4 1, 3) := by decide +kernel
theorem own_dfill_24 : decode jdk_65_method_104_code 24 = .ok (.goto (-14), 3) := by decide +kernel
theorem own_dfill_27 : decode jdk_65_method_104_code 27 = .ok (.return_, 1) := by decide +kernel

set_option maxRecDepth 65536 in
set_option maxHeartbeats 40000000 in
theorem own_fillTurn {p : Program} {l : Launch} {e : Env} {R : Room} {s : State} {m : MethodId} {args : Array Value} {below : List Frame} {meth : Method} {c : Code} {Z : State} {a0 : Array Value} {T0 : State} {h0 : Heap} {locs : List Loc} {cells slots : Nat} (x : Addr) (n : Nat) (f : Nat → Int32) (fa fb i : Nat) (p3 : Int32) (n0 : Nat) (hx : p.tables.exec = Jvm.exec) (hZ : Z.Warmed39 s.vm) (hw : ∀ d ∈ tables_1, d.before a0 Z = true) (hby : c.code = jdk_65_method_104_code) (hml : c.maxLocals = 5) (hown : s.vm.findClass "java/util/Arrays" = some m.cls) (X0 : Stand p l e R s m args below meth c T0 locs cells slots) (e0 : T0.heap = h0) (N0 : Fr n0 locs) (g_x : n0 ≤ x) (V_x : own_FA Z h0 x n f) (hn : n ≤ 4096) (hfb : fb ≤ n) (hi : i < fb) :
    ∃ (T' : State) (h' : Heap) (locs' : List Loc), Stand p l e R s m args below meth c T' locs' cells slots ∧ T'.heap = h' ∧ Fr n0 locs' ∧ Keep h0 h' [x] ∧ own_FA Z h' x n (own_up f i p3) ∧ Goes p e below T0 (mkF m 10 #[.val (.ref x), .val (.int (Int32.ofNat fa)), .val (.int (Int32.ofNat fb)), .val (.int p3), .val (.int (Int32.ofNat i))] []) T' (mkF m 10 #[.val (.ref x), .val (.int (Int32.ofNat fa)), .val (.int (Int32.ofNat fb)), .val (.int p3), .val (.int (Int32.ofNat (i + 1)))] []) := by
  have pre0 : Goes p e below T0 (mkF m 10 #[.val (.ref x), .val (.int (Int32.ofNat fa)), .val (.int (Int32.ofNat fb)), .val (.int p3), .val (.int (Int32.ofNat i))] []) T0 (mkF m 10 #[.val (.ref x), .val (.int (Int32.ofNat fa)), .val (.int (Int32.ofNat fb)), .val (.int p3), .val (.int (Int32.ofNat i))] []) := fun t k => k
  have pre1 : Goes p e below T0 (mkF m 10 #[.val (.ref x), .val (.int (Int32.ofNat fa)), .val (.int (Int32.ofNat fb)), .val (.int p3), .val (.int (Int32.ofNat i))] []) T0 (mkF m 20 #[.val (.ref x), .val (.int (Int32.ofNat fa)), .val (.int (Int32.ofNat fb)), .val (.int p3), .val (.int (Int32.ofNat i))] [(.int p3), (.int (Int32.ofNat i)), (.ref x)]) := fun t kt => pre0 t (by
      show Steps p.tables e below (T0.setTop (mkF m 10 #[.val (.ref x), .val (.int (Int32.ofNat fa)), .val (.int (Int32.ofNat fb)), .val (.int p3), .val (.int (Int32.ofNat i))] [])) _
      refine XS.iload X0.here hx rfl (hb hby own_dfill_10) rfl ?_
      show Steps p.tables e below (T0.setTop (mkF m 12 #[.val (.ref x), .val (.int (Int32.ofNat fa)), .val (.int (Int32.ofNat fb)), .val (.int p3), .val (.int (Int32.ofNat i))] [(.int (Int32.ofNat i))])) _
      refine XS.iloadN X0.here hx rfl (hb hby own_dfill_12) rfl ?_
      show Steps p.tables e below (T0.setTop (mkF m 13 #[.val (.ref x), .val (.int (Int32.ofNat fa)), .val (.int (Int32.ofNat fb)), .val (.int p3), .val (.int (Int32.ofNat i))] [(.int (Int32.ofNat fb)), (.int (Int32.ofNat i))])) _
      refine XS.icmpNo X0.here hx rfl (hb hby own_dfill_13) rfl (tlt (own_ltI hi (Nat.le_trans hfb hn))).2.1 ?_
      show Steps p.tables e below (T0.setTop (mkF m 16 #[.val (.ref x), .val (.int (Int32.ofNat fa)), .val (.int (Int32.ofNat fb)), .val (.int p3), .val (.int (Int32.ofNat i))] [])) _
      refine XS.aloadN X0.here hx rfl (hb hby own_dfill_16) rfl rfl ?_
      show Steps p.tables e below (T0.setTop (mkF m 17 #[.val (.ref x), .val (.int (Int32.ofNat fa)), .val (.int (Int32.ofNat fb)), .val (.int p3), .val (.int (Int32.ofNat i))] [(.ref x)])) _
      refine XS.iload X0.here hx rfl (hb hby own_dfill_17) rfl ?_
      show Steps p.tables e below (T0.setTop (mkF m 19 #[.val (.ref x), .val (.int (Int32.ofNat fa)), .val (.int (Int32.ofNat fb)), .val (.int p3), .val (.int (Int32.ofNat i))] [(.int (Int32.ofNat i)), (.ref x)])) _
      refine XS.iloadN X0.here hx rfl (hb hby own_dfill_19) rfl ?_
      exact kt)
  obtain ⟨cl2, Ar2, S2, H2⟩ := (id (V_x))
  have hlt2 : i < n := (Nat.lt_of_lt_of_le hi hfb)
  have hin2 : ¬ ((Int32.ofNat i) < 0 ∨ cl2.slots.size ≤ ((Int32.ofNat i)).toNatClampNeg) := own_in S2 hlt2 hn
  obtain ⟨T3, h3, X3, e3, W3, st3⟩ := stI X0 hx hZ e0 Ar2 (j := (Int32.ofNat i)) hin2 (g := (mkF m 20 #[.val (.ref x), .val (.int (Int32.ofNat fa)), .val (.int (Int32.ofNat fb)), .val (.int p3), .val (.int (Int32.ofNat i))] [(.int p3), (.int (Int32.ofNat i)), (.ref x)])) rfl rfl (hb hby own_dfill_20)
  have V3 : own_FA Z h3 x n (own_up f i p3) := own_FA.set Ar2 S2 H2 W3 hlt2 hn
  have K3 : Keep h0 h3 [x] := (Keep.refl h0 [x]).wr W3 (Or.inl (List.mem_of_getElem? (i := 0) rfl))
  have N3 := Fr.snoc X3 N0 g_x
  have pre4 : Goes p e below T0 (mkF m 10 #[.val (.ref x), .val (.int (Int32.ofNat fa)), .val (.int (Int32.ofNat fb)), .val (.int p3), .val (.int (Int32.ofNat i))] []) T3 (mkF m 21 #[.val (.ref x), .val (.int (Int32.ofNat fa)), .val (.int (Int32.ofNat fb)), .val (.int p3), .val (.int (Int32.ofNat i))] []) := fun t kt => pre1 t (st3 t kt)
  have pre5 : Goes p e below T0 (mkF m 10 #[.val (.ref x), .val (.int (Int32.ofNat fa)), .val (.int (Int32.ofNat fb)), .val (.int p3), .val (.int (Int32.ofNat i))] []) T3 (mkF m 24 #[.val (.ref x), .val (.int (Int32.ofNat fa)), .val (.int (Int32.ofNat fb)), .val (.int p3), .val (.int ((Int32.ofNat i) + (1 : Int32)))] []) := fun t kt => pre4 t (by
      show Steps p.tables e below (T3.setTop (mkF m 21 #[.val (.ref x), .val (.int (Int32.ofNat fa)), .val (.int (Int32.ofNat fb)), .val (.int p3), .val (.int (Int32.ofNat i))] [])) _
      refine XS.iinc X3.here hx rfl (hb hby own_dfill_21) rfl (l' := #[.val (.ref x), .val (.int (Int32.ofNat fa)), .val (.int (Int32.ofNat fb)), .val (.int p3), .val (.int ((Int32.ofNat i) + (1 : Int32)))]) rfl ?_
      exact kt)
  rw [show ((Int32.ofNat i) + (1 : Int32)) = (Int32.ofNat (i + 1)) from own_add i 1] at pre5
  have pre6 : Goes p e below T0 (mkF m 10 #[.val (.ref x), .val (.int (Int32.ofNat fa)), .val (.int (Int32.ofNat fb)), .val (.int p3), .val (.int (Int32.ofNat i))] []) T3 (mkF m 10 #[.val (.ref x), .val (.int (Int32.ofNat fa)), .val (.int (Int32.ofNat fb)), .val (.int p3), .val (.int (Int32.ofNat (i + 1)))] []) := fun t kt => pre5 t (by
      show Steps p.tables e below (T3.setTop (mkF m 24 #[.val (.ref x), .val (.int (Int32.ofNat fa)), .val (.int (Int32.ofNat fb)), .val (.int p3), .val (.int (Int32.ofNat (i + 1)))] [])) _
      refine XS.goto X3.here hx rfl (pc0 := 24) (pc' := 10) rfl (hb hby own_dfill_24) (by decide) (by decide) ?_
      exact kt)
  exact ⟨T3, _, _, X3, e3, N3, K3, V3, pre6⟩

set_option maxRecDepth 65536 in
set_option maxHeartbeats 40000000 in
theorem own_fillOut {p : Program} {l : Launch} {e : Env} {R : Room} {s : State} {m : MethodId} {args : Array Value} {below : List Frame} {meth : Method} {c : Code} {Z : State} {a0 : Array Value} {T0 : State} {locs : List Loc} {cells slots : Nat} (x : Addr) (fa fb : Nat) (p3 : Int32) (hx : p.tables.exec = Jvm.exec) (hZ : Z.Warmed39 s.vm) (hw : ∀ d ∈ tables_1, d.before a0 Z = true) (hby : c.code = jdk_65_method_104_code) (hml : c.maxLocals = 5) (hown : s.vm.findClass "java/util/Arrays" = some m.cls) (X0 : Stand p l e R s m args below meth c T0 locs cells slots) (hfb : fb ≤ 4096) :
    Goes p e below T0 (mkF m 10 #[.val (.ref x), .val (.int (Int32.ofNat fa)), .val (.int (Int32.ofNat fb)), .val (.int p3), .val (.int (Int32.ofNat fb))] []) T0 (mkF m 27 #[.val (.ref x), .val (.int (Int32.ofNat fa)), .val (.int (Int32.ofNat fb)), .val (.int p3), .val (.int (Int32.ofNat fb))] []) := by
  have pre0 : Goes p e below T0 (mkF m 10 #[.val (.ref x), .val (.int (Int32.ofNat fa)), .val (.int (Int32.ofNat fb)), .val (.int p3), .val (.int (Int32.ofNat fb))] []) T0 (mkF m 10 #[.val (.ref x), .val (.int (Int32.ofNat fa)), .val (.int (Int32.ofNat fb)), .val (.int p3), .val (.int (Int32.ofNat fb))] []) := fun t k => k
  have pre7 : Goes p e below T0 (mkF m 10 #[.val (.ref x), .val (.int (Int32.ofNat fa)), .val (.int (Int32.ofNat fb)), .val (.int p3), .val (.int (Int32.ofNat fb))] []) T0 (mkF m 27 #[.val (.ref x), .val (.int (Int32.ofNat fa)), .val (.int (Int32.ofNat fb)), .val (.int p3), .val (.int (Int32.ofNat fb))] []) := fun t kt => pre0 t (by
      show Steps p.tables e below (T0.setTop (mkF m 10 #[.val (.ref x), .val (.int (Int32.ofNat fa)), .val (.int (Int32.ofNat fb)), .val (.int p3), .val (.int (Int32.ofNat fb))] [])) _
      refine XS.iload X0.here hx rfl (hb hby own_dfill_10) rfl ?_
      show Steps p.tables e below (T0.setTop (mkF m 12 #[.val (.ref x), .val (.int (Int32.ofNat fa)), .val (.int (Int32.ofNat fb)), .val (.int p3), .val (.int (Int32.ofNat fb))] [(.int (Int32.ofNat fb))])) _
      refine XS.iloadN X0.here hx rfl (hb hby own_dfill_12) rfl ?_
      show Steps p.tables e below (T0.setTop (mkF m 13 #[.val (.ref x), .val (.int (Int32.ofNat fa)), .val (.int (Int32.ofNat fb)), .val (.int p3), .val (.int (Int32.ofNat fb))] [(.int (Int32.ofNat fb)), (.int (Int32.ofNat fb))])) _
      refine XS.icmpYes X0.here hx rfl (pc0 := 13) (pc' := 27) rfl (hb hby own_dfill_13) rfl (flt (own_nltI (Nat.le_refl _) hfb)).2.1 (by decide) (by decide) ?_
      exact kt)
  exact pre7

theorem own_fl_step (f : Nat → Int32) (i fb : Nat) (v : Int32) (hi : i < fb) : own_fl (own_up f i v) (i + 1) fb v = own_fl f i fb v := by
  funext j
  simp only [own_fl, own_up]
  by_cases h1 : i + 1 ≤ j ∧ j < fb
  · rw [if_pos h1, if_pos (by omega)]
  · rw [if_neg h1]
    by_cases h2 : j = i
    · rw [if_pos h2, if_pos (by omega)]
    · rw [if_neg h2, if_neg (by omega)]
theorem own_fl_none (f : Nat → Int32) (i : Nat) (v : Int32) : own_fl f i i v = f := by
  funext j
  simp only [own_fl]; rw [if_neg (by omega)]
theorem own_fillLoop {p : Program} {l : Launch} {e : Env} {R : Room} {s : State} {m : MethodId} {args : Array Value} {below : List Frame} {meth : Method} {c : Code} {Z : State} {a0 : Array Value} {cells slots : Nat} (x : Addr) (n : Nat) (fa fb : Nat) (p3 : Int32) (n0 : Nat) (hx : p.tables.exec = Jvm.exec) (hZ : Z.Warmed39 s.vm) (hw : ∀ d ∈ tables_1, d.before a0 Z = true) (hby : c.code = jdk_65_method_104_code) (hml : c.maxLocals = 5) (hown : s.vm.findClass "java/util/Arrays" = some m.cls) (g_x : n0 ≤ x) (hn : n ≤ 4096) (hfb : fb ≤ n) :
    ∀ (d i : Nat) (T0 : State) (h0 : Heap) (locs : List Loc) (f : Nat → Int32), i + d = fb → Stand p l e R s m args below meth c T0 locs cells slots → T0.heap = h0 → Fr n0 locs → own_FA Z h0 x n f →
      ∃ (T' : State) (h' : Heap) (locs' : List Loc), Stand p l e R s m args below meth c T' locs' cells slots ∧ T'.heap = h' ∧ Fr n0 locs' ∧ Keep h0 h' [x] ∧ own_FA Z h' x n (own_fl f i fb p3) ∧ Goes p e below T0 (mkF m 10 #[.val (.ref x), .val (.int (Int32.ofNat fa)), .val (.int (Int32.ofNat fb)), .val (.int p3), .val (.int (Int32.ofNat i))] []) T' (mkF m 27 #[.val (.ref x), .val (.int (Int32.ofNat fa)), .val (.int (Int32.ofNat fb)), .val (.int p3), .val (.int (Int32.ofNat fb))] []) := by
  intro d
  induction d with
  | zero =>
    intro i T0 h0 locs f hi X0 e0 N0 V0
    have hi' : i = fb := by omega
    subst hi'
    rw [own_fl_none]
    exact ⟨T0, h0, locs, X0, e0, N0, Keep.refl _ _, V0, own_fillOut x fa i p3 hx hZ hw hby hml hown X0 (Nat.le_trans hfb hn)⟩
  | succ d ih =>
    intro i T0 h0 locs f hi X0 e0 N0 V0
    obtain ⟨T1, h1, locs1, X1, e1, N1, K1, V1, st1⟩ := own_fillTurn x n f fa fb i p3 n0 hx hZ hw hby hml hown X0 e0 N0 g_x V0 hn hfb (by omega)
    obtain ⟨T2, h2, locs2, X2, e2, N2, K2, V2, st2⟩ := ih (i + 1) T1 h1 locs1 _ (by omega) X1 e1 N1 V1
    rw [own_fl_step f i fb p3 (by omega)] at V2
    exact ⟨T2, h2, locs2, X2, e2, N2, K1.trans K2 (fun y hy => Or.inl hy), V2, fun t k => st1 t (st2 t k)⟩

theorem own_pn_own_fill : plainName "java/util/Arrays" = true := by first | (simp [plainName, overriddenIn]; done) | decide +kernel
theorem own_ef_own_fill (m : MethodId) (x0 : Addr) (x1 : Int32) (x2 : Int32) (x3 : Int32) : entryFrame m #[(.ref x0), (.int x1), (.int x2), (.int x3)] 5 = mkF m 0 #[.val (.ref x0), .val (.int x1), .val (.int x2), .val (.int x3), .unset] [] := by first | (simp [entryFrame, mkF, argsToLocals, Value.category]; done) | rfl
def Q_own_fill (Z : State) (x : Addr) (n : Nat) (f : Nat → Int32) (fa : Nat) (fb : Nat) (p3 : Int32) (h0 : Heap) (n0 : Nat) (v : Option Value) (h : Heap) (L : List Loc) : Prop := v = none ∧ Fr n0 L ∧ Keep h0 h [x] ∧ own_FA Z h x n (own_fl f fa fb p3)
set_option maxRecDepth 65536 in
set_option maxHeartbeats 40000000 in
theorem own_fill (l : Launch) (Z : State) (a0 : Array Value) (hw : ∀ d ∈ tables_1, d.before a0 Z = true) (ws : List Jvm.Cond) (x : Addr) (n : Nat) (f : Nat → Int32) (fa : Nat) (fb : Nat) (p3 : Int32) (h0 : Heap) (n0 : Nat) (Z0 : n0 ≤ h0.size) (V_x : own_FA Z h0 x n f) (g_x : n0 ≤ x) (hn : n ≤ 4096) (hab : fa ≤ fb) (hfb : fb ≤ n) :
    MetFree l (⟨"java/util/Arrays", "fill", "([IIII)V"⟩ : MethodName) (head1 (Jvm.Cond.code (⟨"java/util/Arrays", "fill", "([IIII)V"⟩ : MethodName) jdk_65_method_104_code 5 none :: ws) ({ frames := 1, cells := 0, slots := 0, locals := 14 } : Room)) (fun a U => a = #[(.ref x), (.int (Int32.ofNat fa)), (.int (Int32.ofNat fb)), (.int p3)] ∧ Z.Warmed39 U.vm ∧ U.heap = h0) (fun _ _ _ _ _ => True) (fun _ U o U' => ∃ v L, o = .returned v ∧ Q_own_fill Z x n f fa fb p3 h0 n0 v U'.heap L ∧ FrameEnd U o U' L ({ frames := 1, cells := 0, slots := 0, locals := 14 } : Room).cells ({ frames := 1, cells := 0, slots := 0, locals := 14 } : Room).slots) := by
  refine MetFree.of_bodySF (plainFor_of_name own_pn_own_fill) hisR ?_
  intro p e s m args below meth c s₁ Bd hml0 hP hK
  obtain ⟨rfl, hZ, hh⟩ := hP
  have hx := Bd.exec
  have hby := Bd.bytes
  have hml : c.maxLocals = 5 := hml0
  have hown : s.vm.findClass "java/util/Arrays" = some m.cls := findClass_of_methodNamed Bd.named
  have hnm := (name_of_methodNamed Bd.named Bd.method).1
  have X0 : Stand p l e ({ frames := 1, cells := 0, slots := 0, locals := 14 } : Room) s m #[(.ref x), (.int (Int32.ofNat fa)), (.int (Int32.ofNat fb)), (.int p3)] below meth c s₁ [] 0 0 := Stand.of_body Bd
  have e0 : s₁.heap = h0 := by rw [← hh, Bd.state]; rfl
  have N0 := Fr.nil n0
  have pre0 : Goes p e below s₁ (entryFrame m #[(.ref x), (.int (Int32.ofNat fa)), (.int (Int32.ofNat fb)), (.int p3)] 5) s₁ (mkF m 0 #[.val (.ref x), .val (.int (Int32.ofNat fa)), .val (.int (Int32.ofNat fb)), .val (.int p3), .unset] []) := fun t k => castTop (own_ef_own_fill m x (Int32.ofNat fa) (Int32.ofNat fb) p3) k
  have pre1 : Goes p e below s₁ (entryFrame m #[(.ref x), (.int (Int32.ofNat fa)), (.int (Int32.ofNat fb)), (.int p3)] 5) s₁ (mkF m 1 #[.val (.ref x), .val (.int (Int32.ofNat fa)), .val (.int (Int32.ofNat fb)), .val (.int p3), .unset] [(.ref x)]) := fun t kt => pre0 t (by
      show Steps p.tables e below (s₁.setTop (mkF m 0 #[.val (.ref x), .val (.int (Int32.ofNat fa)), .val (.int (Int32.ofNat fb)), .val (.int p3), .unset] [])) _
      refine XS.aloadN X0.here hx rfl (hb hby own_dfill_0) rfl rfl ?_
      exact kt)
  obtain ⟨cl2, Ar2, S2, H2⟩ := (id (V_x))
  have pre3 : Goes p e below s₁ (entryFrame m #[(.ref x), (.int (Int32.ofNat fa)), (.int (Int32.ofNat fb)), (.int p3)] 5) s₁ (mkF m 4 #[.val (.ref x), .val (.int (Int32.ofNat fa)), .val (.int (Int32.ofNat fb)), .val (.int p3), .unset] [(.int (Int32.ofNat fb)), (.int (Int32.ofNat fa)), (.int (Int32.ofNat n))]) := fun t kt => pre1 t (by
      show Steps p.tables e below (s₁.setTop (mkF m 1 #[.val (.ref x), .val (.int (Int32.ofNat fa)), .val (.int (Int32.ofNat fb)), .val (.int p3), .unset] [(.ref x)])) _
      refine X0.arraylength hx (by (try rw [e0]); exact Ar2.1) (State.isArrayOf_alike hZ.alike Ar2.2.1) (g := (mkF m 1 #[.val (.ref x), .val (.int (Int32.ofNat fa)), .val (.int (Int32.ofNat fb)), .val (.int p3), .unset] [(.ref x)])) rfl rfl (hb hby own_dfill_1) _ ?_
      rw [own_len S2]
      show Steps p.tables e below (s₁.setTop (mkF m 2 #[.val (.ref x), .val (.int (Int32.ofNat fa)), .val (.int (Int32.ofNat fb)), .val (.int p3), .unset] [(.int (Int32.ofNat n))])) _
      refine XS.iloadN X0.here hx rfl (hb hby own_dfill_2) rfl ?_
      show Steps p.tables e below (s₁.setTop (mkF m 3 #[.val (.ref x), .val (.int (Int32.ofNat fa)), .val (.int (Int32.ofNat fb)), .val (.int p3), .unset] [(.int (Int32.ofNat fa)), (.int (Int32.ofNat n))])) _
      refine XS.iloadN X0.here hx rfl (hb hby own_dfill_3) rfl ?_
      exact kt)
  obtain ⟨_, _, ⟨T4, L4, k4, n4⟩, -, X4, ⟨Lc4, hQ4, l4, y4, z4⟩, st4⟩ := Jvm.LawKit.callS X0 hx (y := (⟨"java/util/Arrays", "rangeCheck", "(III)V"⟩ : MethodName)) hown (mvT hZ (hw _ (List.mem_of_getElem? (i := 39) rfl))) (mvT hZ (hw _ (List.mem_of_getElem? (i := 40) rfl))) (mvT hZ (hw _ (List.mem_of_getElem? (i := 37) rfl))) (mvT hZ (hw _ (List.mem_of_getElem? (i := 41) rfl))) (by decide) (backOf (W := 0) (own_range l Z a0 hw [] (Int32.ofNat n) (Int32.ofNat fa) (Int32.ofNat fb) h0 n0 Z0 (own_nltI hab (Nat.le_trans hfb hn)) (own_nn (Nat.le_trans hab (Nat.le_trans hfb hn))) (own_nltI hfb hn)) hZ (hw _ (List.mem_of_getElem? (i := 41) rfl)) (hw _ (List.mem_of_getElem? (i := 37) rfl)) (by decide) (by decide)) (g := (mkF m 4 #[.val (.ref x), .val (.int (Int32.ofNat fa)), .val (.int (Int32.ofNat fb)), .val (.int p3), .unset] [(.int (Int32.ofNat fb)), (.int (Int32.ofNat fa)), (.int (Int32.ofNat n))])) rfl (by rw [hml]; rfl) (argsL := [(.int (Int32.ofNat n)), (.int (Int32.ofNat fa)), (.int (Int32.ofNat fb))]) (rest := []) (lenOf own_pd0 rfl) rfl (by show 2 * 0 + _ ≤ _; exact Nat.le_of_eq rfl) (hb hby own_dfill_4) (fun _ _ => ⟨rfl, e0, (by decide : 0 + 0 ≤ _), (by decide : 0 + 0 ≤ _)⟩)
  dsimp only [Pt.U, Pt.locs, Pt.cells, Pt.slots] at X4 l4 y4 z4 st4 hQ4
  subst l4 y4 z4
  obtain ⟨rfl, N4q, e4⟩ := hQ4
  have N4 := Fr.app N0 N4q
  have pre5 : Goes p e below s₁ (entryFrame m #[(.ref x), (.int (Int32.ofNat fa)), (.int (Int32.ofNat fb)), (.int p3)] 5) T4 (mkF m 7 #[.val (.ref x), .val (.int (Int32.ofNat fa)), .val (.int (Int32.ofNat fb)), .val (.int p3), .unset] []) := fun t kt => pre3 t (st4 t kt)
  have pre6 : Goes p e below s₁ (entryFrame m #[(.ref x), (.int (Int32.ofNat fa)), (.int (Int32.ofNat fb)), (.int p3)] 5) T4 (mkF m 10 #[.val (.ref x), .val (.int (Int32.ofNat fa)), .val (.int (Int32.ofNat fb)), .val (.int p3), .val (.int (Int32.ofNat fa))] []) := fun t kt => pre5 t (by
      show Steps p.tables e below (T4.setTop (mkF m 7 #[.val (.ref x), .val (.int (Int32.ofNat fa)), .val (.int (Int32.ofNat fb)), .val (.int p3), .unset] [])) _
      refine XS.iloadN X4.here hx rfl (hb hby own_dfill_7) rfl ?_
      show Steps p.tables e below (T4.setTop (mkF m 8 #[.val (.ref x), .val (.int (Int32.ofNat fa)), .val (.int (Int32.ofNat fb)), .val (.int p3), .unset] [(.int (Int32.ofNat fa))])) _
      refine XS.istore X4.here hx rfl (hb hby own_dfill_8) rfl (l' := #[.val (.ref x), .val (.int (Int32.ofNat fa)), .val (.int (Int32.ofNat fb)), .val (.int p3), .val (.int (Int32.ofNat fa))]) rfl ?_
      exact kt)
  obtain ⟨T7, h7, Lc7, X7, e7, N7, K7q, V7, st7⟩ := own_fillLoop x n fa fb p3 n0 hx hZ hw hby hml hown g_x hn hfb (fb - fa) fa T4 h0 _ f (by omega) X4 e4 N4 V_x
  have pre8 : Goes p e below s₁ (entryFrame m #[(.ref x), (.int (Int32.ofNat fa)), (.int (Int32.ofNat fb)), (.int p3)] 5) T7 (mkF m 27 #[.val (.ref x), .val (.int (Int32.ofNat fa)), .val (.int (Int32.ofNat fb)), .val (.int p3), .val (.int (Int32.ofNat fb))] []) := fun t kt => pre6 t (st7 t kt)
  obtain ⟨fs, hr, hrun, hended, hW, hsame⟩ := X7.leave (v := none) (fun _ => rfl)
  refine ⟨_, _, pre8 _ ?_, hrun, hended, _, _, rfl, ?_, ⟨_, rfl⟩, hW, hsame.mono (by decide) (by decide)⟩
  · show Steps p.tables e below (T7.setTop (mkF m 27 #[.val (.ref x), .val (.int (Int32.ofNat fa)), .val (.int (Int32.ofNat fb)), .val (.int p3), .val (.int (Int32.ofNat fb))] [])) _
    exact X7.returnOut hx Bd.returns (hb hby own_dfill_27) hr
  · show Q_own_fill Z x n f fa fb p3 h0 n0 _ T7.heap _
    rw [e7]
    exact ⟨rfl, N7, K7q, V7⟩

theorem own_g1 {k r : Nat} (h : k * r + r ≤ 16 * r) (hr : r ≤ 8) : ¬ (Int32.ofNat (16 * r) < ((Int32.ofNat k) + (1 : Int32)) * (Int32.ofNat r)) := by
  rw [show (Int32.ofNat k) + (1 : Int32) = Int32.ofNat (k + 1) from own_add k 1, own_mul]
  refine own_nltI ?_ (by omega)
  rw [Nat.add_mul, Nat.one_mul]; exact h
theorem own_g2 {k : Nat} (h : k < 16) : ¬ ((Int32.ofNat k) = (16 : Int32)) := fun q => by
  have := own_inj (a := k) (b := 16) (by omega) (by omega) q
  omega

theorem own_d5_0 : decode prog_26_method_9_code 0 = .ok (.aload_n 0, 1) := by decide +kernel
theorem own_d5_1 : decode prog_26_method_9_code 1 = .ok (.getfield 47, 3) := by decide +kernel
theorem own_d5_4 : decode prog_26_method_9_code 4 = .ok (.iconst 1, 1) := by decide +kernel
theorem own_d5_5 : decode prog_26_method_9_code 5 = .ok (.iadd, 1) := by decide +kernel
theorem own_d5_6 : decode prog_26_method_9_code 6 = .ok (.aload_n 0, 1) := by decide +kernel
theorem own_d5_7 : decode prog_26_method_9_code 7 = .ok (.getfield 7, 3) := by decide +kernel
theorem own_d5_10 : decode prog_26_method_9_code 10 = .ok (.imul, 1) := by decide +kernel
theorem own_d5_11 : decode prog_26_method_9_code 11 = .ok (.aload_n 0, 1) := by decide +kernel
theorem own_d5_12 : decode prog_26_method_9_code 12 = .ok (.getfield 19, 3) := by decide +kernel
theorem own_d5_15 : decode prog_26_method_9_code 15 = .ok (.arraylength, 1) := by decide +kernel
theorem own_d5_16 : decode prog_26_method_9_code 16 = .ok (.if_icmp .le 35, 3) := by decide +kernel
theorem own_d5_51 : decode prog_26_method_9_code 51 = .ok (.aload_n 0, 1) := by decide +kernel
theorem own_d5_52 : decode prog_26_method_9_code 52 = .ok (.getfield 47, 3) := by decide +kernel
theorem own_d5_55 : decode prog_26_method_9_code 55 = .ok (.aload_n 0, 1) := by decide +kernel
theorem own_d5_56 : decode prog_26_method_9_code 56 = .ok (.getfield 27, 3) := by decide +kernel
theorem own_d5_59 : decode prog_26_method_9_code 59 = .ok (.arraylength, 1) := by decide +kernel
theorem own_d5_60 : decode prog_26_method_9_code 60 = .ok (.if_icmp .ne 40, 3) := by decide +kernel
theorem own_d5_100 : decode prog_26_method_9_code 100 = .ok (.aload_n 0, 1) := by decide +kernel
theorem own_d5_101 : decode prog_26_method_9_code 101 = .ok (.dup, 1) := by decide +kernel
theorem own_d5_102 : decode prog_26_method_9_code 102 = .ok (.getfield 47, 3) := by decide +kernel
theorem own_d5_105 : decode prog_26_method_9_code 105 = .ok (.dup_x1, 1) := by decide +kernel
theorem own_d5_106 : decode prog_26_method_9_code 106 = .ok (.iconst 1, 1) := by decide +kernel
theorem own_d5_107 : decode prog_26_method_9_code 107 = .ok (.iadd, 1) := by decide +kernel
theorem own_d5_108 : decode prog_26_method_9_code 108 = .ok (.putfield 47, 3) := by decide +kernel
theorem own_d5_111 : decode prog_26_method_9_code 111 = .ok (.istore_n 1, 1) := by decide +kernel
theorem own_d5_112 : decode prog_26_method_9_code 112 = .ok (.aload_n 0, 1) := by decide +kernel
theorem own_d5_113 : decode prog_26_method_9_code 113 = .ok (.getfield 19, 3) := by decide +kernel
theorem own_d5_116 : decode prog_26_method_9_code 116 = .ok (.iload_n 1, 1) := by decide +kernel
theorem own_d5_117 : decode prog_26_method_9_code 117 = .ok (.aload_n 0, 1) := by decide +kernel
theorem own_d5_118 : decode prog_26_method_9_code 118 = .ok (.getfield 7, 3) := by decide +kernel
theorem own_d5_121 : decode prog_26_method_9_code 121 = .ok (.imul, 1) := by decide +kernel
theorem own_d5_122 : decode prog_26_method_9_code 122 = .ok (.iload_n 1, 1) := by decide +kernel
theorem own_d5_123 : decode prog_26_method_9_code 123 = .ok (.aload_n 0, 1) := by decide +kernel
theorem own_d5_124 : decode prog_26_method_9_code 124 = .ok (.getfield 7, 3) := by decide +kernel
theorem own_d5_127 : decode prog_26_method_9_code 127 = .ok (.imul, 1) := by decide +kernel
theorem own_d5_128 : decode prog_26_method_9_code 128 = .ok (.aload_n 0, 1) := by decide +kernel
theorem own_d5_129 : decode prog_26_method_9_code 129 = .ok (.getfield 7, 3) := by decide +kernel
theorem own_d5_132 : decode prog_26_method_9_code 132 = .ok (.iadd, 1) := by decide +kernel
theorem own_d5_133 : decode prog_26_method_9_code 133 = .ok (.iconst (-1), 1) := by decide +kernel
theorem own_d5_134 : decode prog_26_method_9_code 134 = .ok (.invokestatic 54, 3) := by decide +kernel
theorem own_d5_137 : decode prog_26_method_9_code 137 = .ok (.iload_n 1, 1) := by decide +kernel
theorem own_d5_138 : decode prog_26_method_9_code 138 = .ok (.ireturn, 1) := by decide +kernel
theorem own_pn_own_newNode : plainName "com/example/unicept/unicept/WordTrie" = true := by first | (simp [plainName, overriddenIn]; done) | decide +kernel
theorem own_ef_own_newNode (m : MethodId) (x0 : Addr) : entryFrame m #[(.ref x0)] 2 = mkF m 0 #[.val (.ref x0), .unset] [] := by first | (simp [entryFrame, mkF, argsToLocals, Value.category]; done) | rfl
def Q_own_newNode (Z : State) (a1 : Addr) (r : Nat) (k : Nat) (ch : Addr) (f : Nat → Int32) (rt : Addr) (gg : Nat → Int32) (tg : Addr) (kt : ClassId) (vts : List Value) (h0 : Heap) (n0 : Nat) (v : Option Value) (h : Heap) (L : List Loc) : Prop := v = some (.int (Int32.ofNat k)) ∧ Fr n0 L ∧ Keep h0 h [a1, ch] ∧ own_TR Z h n0 a1 r (k + 1) ch (own_fl f (k * r) (k * r + r) (-1)) rt gg tg kt vts
set_option maxRecDepth 65536 in
set_option maxHeartbeats 40000000 in
theorem own_newNode (l : Launch) (Z : State) (a0 : Array Value) (hw : ∀ d ∈ tables_1, d.before a0 Z = true) (ws : List Jvm.Cond) (a1 : Addr) (r : Nat) (k : Nat) (ch : Addr) (f : Nat → Int32) (rt : Addr) (gg : Nat → Int32) (tg : Addr) (kt : ClassId) (vts : List Value) (h0 : Heap) (n0 : Nat) (Z0 : n0 ≤ h0.size) (hT : own_TR Z h0 n0 a1 r k ch f rt gg tg kt vts) (hr1 : 1 ≤ r) (hr8 : r ≤ 8) (hk : k < 16) :
    MetFree l (⟨"com/example/unicept/unicept/WordTrie", "newNode", "()I"⟩ : MethodName) (head1 (Jvm.Cond.code (⟨"com/example/unicept/unicept/WordTrie", "newNode", "()I"⟩ : MethodName) prog_26_method_9_code 2 (some .int) :: ws) ({ frames := 2, cells := 0, slots := 0, locals := 30 } : Room)) (fun a U => a = #[(.ref a1)] ∧ Z.Warmed39 U.vm ∧ U.heap = h0) (fun _ _ _ _ _ => True) (fun _ U o U' => ∃ v L, o = .returned v ∧ Q_own_newNode Z a1 r k ch f rt gg tg kt vts h0 n0 v U'.heap L ∧ FrameEnd U o U' L ({ frames := 2, cells := 0, slots := 0, locals := 30 } : Room).cells ({ frames := 2, cells := 0, slots := 0, locals := 30 } : Room).slots) := by
  refine MetFree.of_bodySF (plainFor_of_name own_pn_own_newNode) hisR ?_
  intro p e s m args below meth c s₁ Bd hml0 hP hK
  obtain ⟨rfl, hZ, hh⟩ := hP
  have hx := Bd.exec
  have hby := Bd.bytes
  have hml : c.maxLocals = 2 := hml0
  have hown : s.vm.findClass "com/example/unicept/unicept/WordTrie" = some m.cls := findClass_of_methodNamed Bd.named
  have hnm := (name_of_methodNamed Bd.named Bd.method).1
  have X0 : Stand p l e ({ frames := 2, cells := 0, slots := 0, locals := 30 } : Room) s m #[(.ref a1)] below meth c s₁ [] 0 0 := Stand.of_body Bd
  have e0 : s₁.heap = h0 := by rw [← hh, Bd.state]; rfl
  have N0 := Fr.nil n0
  have pre0 : Goes p e below s₁ (entryFrame m #[(.ref a1)] 2) s₁ (mkF m 0 #[.val (.ref a1), .unset] []) := fun t k => castTop (own_ef_own_newNode m a1) k
  obtain ⟨E_a1, F_roles, F_children, F_roots, F_tags, F_size, V_ch, V_rt, V_tg, g_a1, g_ch, g_rt, g_tg, nac, nar, nat, ncr, nct, nrt⟩ := hT
  have hkr : k * r + r ≤ 16 * r := by have := Nat.mul_le_mul_right r (show k + 1 ≤ 16 by omega); rw [Nat.add_mul, Nat.one_mul] at this; exact this
  have pre1 : Goes p e below s₁ (entryFrame m #[(.ref a1)] 2) s₁ (mkF m 1 #[.val (.ref a1), .unset] [(.ref a1)]) := fun t kt => pre0 t (by
      show Steps p.tables e below (s₁.setTop (mkF m 0 #[.val (.ref a1), .unset] [])) _
      refine XS.aloadN X0.here hx rfl (hb hby own_d5_0) rfl rfl ?_
      exact kt)
  obtain ⟨T2, X2, e2, st2⟩ := getF X0 hx hZ hown (host := "") (Or.inl (hw _ (List.mem_of_getElem? (i := 33) rfl))) Via.refl e0 F_size (g := (mkF m 1 #[.val (.ref a1), .unset] [(.ref a1)])) rfl rfl (hb hby own_d5_1)
  have pre3 : Goes p e below s₁ (entryFrame m #[(.ref a1)] 2) T2 (mkF m 4 #[.val (.ref a1), .unset] [(.int (Int32.ofNat k))]) := fun t kt => pre1 t (st2 t kt)
  have pre4 : Goes p e below s₁ (entryFrame m #[(.ref a1)] 2) T2 (mkF m 7 #[.val (.ref a1), .unset] [(.ref a1), (.int ((Int32.ofNat k) + (1 : Int32)))]) := fun t kt => pre3 t (by
      show Steps p.tables e below (T2.setTop (mkF m 4 #[.val (.ref a1), .unset] [(.int (Int32.ofNat k))])) _
      refine XS.iconst X2.here hx rfl (hb hby own_d5_4) ?_
      show Steps p.tables e below (T2.setTop (mkF m 5 #[.val (.ref a1), .unset] [(.int (1 : Int32)), (.int (Int32.ofNat k))])) _
      refine XS.iadd X2.here hx rfl (hb hby own_d5_5) rfl ?_
      show Steps p.tables e below (T2.setTop (mkF m 6 #[.val (.ref a1), .unset] [(.int ((Int32.ofNat k) + (1 : Int32)))])) _
      refine XS.aloadN X2.here hx rfl (hb hby own_d5_6) rfl rfl ?_
      exact kt)
  obtain ⟨T5, X5, e5, st5⟩ := getF X2 hx hZ hown (host := "") (Or.inl (hw _ (List.mem_of_getElem? (i := 10) rfl))) Via.refl e2 F_roles (g := (mkF m 7 #[.val (.ref a1), .unset] [(.ref a1), (.int ((Int32.ofNat k) + (1 : Int32)))])) rfl rfl (hb hby own_d5_7)
  have pre6 : Goes p e below s₁ (entryFrame m #[(.ref a1)] 2) T5 (mkF m 10 #[.val (.ref a1), .unset] [(.int (Int32.ofNat r)), (.int ((Int32.ofNat k) + (1 : Int32)))]) := fun t kt => pre4 t (st5 t kt)
  have pre7 : Goes p e below s₁ (entryFrame m #[(.ref a1)] 2) T5 (mkF m 12 #[.val (.ref a1), .unset] [(.ref a1), (.int (((Int32.ofNat k) + (1 : Int32)) * (Int32.ofNat r)))]) := fun t kt => pre6 t (by
      show Steps p.tables e below (T5.setTop (mkF m 10 #[.val (.ref a1), .unset] [(.int (Int32.ofNat r)), (.int ((Int32.ofNat k) + (1 : Int32)))])) _
      refine XS.imul X5.here hx rfl (hb hby own_d5_10) rfl ?_
      show Steps p.tables e below (T5.setTop (mkF m 11 #[.val (.ref a1), .unset] [(.int (((Int32.ofNat k) + (1 : Int32)) * (Int32.ofNat r)))])) _
      refine XS.aloadN X5.here hx rfl (hb hby own_d5_11) rfl rfl ?_
      exact kt)
  obtain ⟨T8, X8, e8, st8⟩ := getF X5 hx hZ hown (host := "") (Or.inl (hw _ (List.mem_of_getElem? (i := 16) rfl))) Via.refl e5 F_children (g := (mkF m 12 #[.val (.ref a1), .unset] [(.ref a1), (.int (((Int32.ofNat k) + (1 : Int32)) * (Int32.ofNat r)))])) rfl rfl (hb hby own_d5_12)
  have pre9 : Goes p e below s₁ (entryFrame m #[(.ref a1)] 2) T8 (mkF m 15 #[.val (.ref a1), .unset] [(.ref ch), (.int (((Int32.ofNat k) + (1 : Int32)) * (Int32.ofNat r)))]) := fun t kt => pre7 t (st8 t kt)
  obtain ⟨cl10, Ar10, S10, H10⟩ := (id (V_ch))
  have pre11 : Goes p e below s₁ (entryFrame m #[(.ref a1)] 2) T8 (mkF m 52 #[.val (.ref a1), .unset] [(.ref a1)]) := fun t kt => pre9 t (by
      show Steps p.tables e below (T8.setTop (mkF m 15 #[.val (.ref a1), .unset] [(.ref ch), (.int (((Int32.ofNat k) + (1 : Int32)) * (Int32.ofNat r)))])) _
      refine X8.arraylength hx (by (try rw [e8]); exact Ar10.1) (State.isArrayOf_alike hZ.alike Ar10.2.1) (g := (mkF m 15 #[.val (.ref a1), .unset] [(.ref ch), (.int (((Int32.ofNat k) + (1 : Int32)) * (Int32.ofNat r)))])) rfl rfl (hb hby own_d5_15) _ ?_
      rw [own_len S10]
      show Steps p.tables e below (T8.setTop (mkF m 16 #[.val (.ref a1), .unset] [(.int (Int32.ofNat (16 * r))), (.int (((Int32.ofNat k) + (1 : Int32)) * (Int32.ofNat r)))])) _
      refine XS.icmpYes X8.here hx rfl (pc0 := 16) (pc' := 51) rfl (hb hby own_d5_16) rfl (flt (own_g1 hkr hr8 : ¬ ((Int32.ofNat (16 * r)) < (((Int32.ofNat k) + (1 : Int32)) * (Int32.ofNat r))))).2.2.2 (by decide) (by decide) ?_
      show Steps p.tables e below (T8.setTop (mkF m 51 #[.val (.ref a1), .unset] [])) _
      refine XS.aloadN X8.here hx rfl (hb hby own_d5_51) rfl rfl ?_
      exact kt)
  obtain ⟨T12, X12, e12, st12⟩ := getF X8 hx hZ hown (host := "") (Or.inl (hw _ (List.mem_of_getElem? (i := 33) rfl))) Via.refl e8 F_size (g := (mkF m 52 #[.val (.ref a1), .unset] [(.ref a1)])) rfl rfl (hb hby own_d5_52)
  have pre13 : Goes p e below s₁ (entryFrame m #[(.ref a1)] 2) T12 (mkF m 55 #[.val (.ref a1), .unset] [(.int (Int32.ofNat k))]) := fun t kt => pre11 t (st12 t kt)
  have pre14 : Goes p e below s₁ (entryFrame m #[(.ref a1)] 2) T12 (mkF m 56 #[.val (.ref a1), .unset] [(.ref a1), (.int (Int32.ofNat k))]) := fun t kt => pre13 t (by
      show Steps p.tables e below (T12.setTop (mkF m 55 #[.val (.ref a1), .unset] [(.int (Int32.ofNat k))])) _
      refine XS.aloadN X12.here hx rfl (hb hby own_d5_55) rfl rfl ?_
      exact kt)
  obtain ⟨T15, X15, e15, st15⟩ := getF X12 hx hZ hown (host := "") (Or.inl (hw _ (List.mem_of_getElem? (i := 22) rfl))) Via.refl e12 F_tags (g := (mkF m 56 #[.val (.ref a1), .unset] [(.ref a1), (.int (Int32.ofNat k))])) rfl rfl (hb hby own_d5_56)
  have pre16 : Goes p e below s₁ (entryFrame m #[(.ref a1)] 2) T15 (mkF m 59 #[.val (.ref a1), .unset] [(.ref tg), (.int (Int32.ofNat k))]) := fun t kt => pre14 t (st15 t kt)
  obtain ⟨cl17, Ar17, q17, S17, N_17, H17, G17⟩ := (id (V_tg))
  have pre18 : Goes p e below s₁ (entryFrame m #[(.ref a1)] 2) T15 (mkF m 102 #[.val (.ref a1), .unset] [(.ref a1), (.ref a1)]) := fun t kt => pre16 t (by
      show Steps p.tables e below (T15.setTop (mkF m 59 #[.val (.ref a1), .unset] [(.ref tg), (.int (Int32.ofNat k))])) _
      refine X15.arraylength hx (by (try rw [e15]); exact Ar17.1) (State.isArrayOf_alike hZ.alike Ar17.2.1) (g := (mkF m 59 #[.val (.ref a1), .unset] [(.ref tg), (.int (Int32.ofNat k))])) rfl rfl (hb hby own_d5_59) _ ?_
      rw [len_of S17 N_17]
      show Steps p.tables e below (T15.setTop (mkF m 60 #[.val (.ref a1), .unset] [(.int (16 : Int32)), (.int (Int32.ofNat k))])) _
      refine XS.icmpYes X15.here hx rfl (pc0 := 60) (pc' := 100) rfl (hb hby own_d5_60) rfl (feq (own_g2 hk : ¬ ((Int32.ofNat k) = (16 : Int32)))).2 (by decide) (by decide) ?_
      show Steps p.tables e below (T15.setTop (mkF m 100 #[.val (.ref a1), .unset] [])) _
      refine XS.aloadN X15.here hx rfl (hb hby own_d5_100) rfl rfl ?_
      show Steps p.tables e below (T15.setTop (mkF m 101 #[.val (.ref a1), .unset] [(.ref a1)])) _
      refine XS.dup X15.here hx rfl (hb hby own_d5_101) rfl rfl ?_
      exact kt)
  obtain ⟨T19, X19, e19, st19⟩ := getF X15 hx hZ hown (host := "") (Or.inl (hw _ (List.mem_of_getElem? (i := 33) rfl))) Via.refl e15 F_size (g := (mkF m 102 #[.val (.ref a1), .unset] [(.ref a1), (.ref a1)])) rfl rfl (hb hby own_d5_102)
  have pre20 : Goes p e below s₁ (entryFrame m #[(.ref a1)] 2) T19 (mkF m 105 #[.val (.ref a1), .unset] [(.int (Int32.ofNat k)), (.ref a1)]) := fun t kt => pre18 t (st19 t kt)
  have pre21 : Goes p e below s₁ (entryFrame m #[(.ref a1)] 2) T19 (mkF m 108 #[.val (.ref a1), .unset] [(.int ((Int32.ofNat k) + (1 : Int32))), (.ref a1), (.int (Int32.ofNat k))]) := fun t kt => pre20 t (by
      show Steps p.tables e below (T19.setTop (mkF m 105 #[.val (.ref a1), .unset] [(.int (Int32.ofNat k)), (.ref a1)])) _
      refine XS.dupX1 X19.here hx rfl (hb hby own_d5_105) rfl rfl rfl ?_
      show Steps p.tables e below (T19.setTop (mkF m 106 #[.val (.ref a1), .unset] [(.int (Int32.ofNat k)), (.ref a1), (.int (Int32.ofNat k))])) _
      refine XS.iconst X19.here hx rfl (hb hby own_d5_106) ?_
      show Steps p.tables e below (T19.setTop (mkF m 107 #[.val (.ref a1), .unset] [(.int (1 : Int32)), (.int (Int32.ofNat k)), (.ref a1), (.int (Int32.ofNat k))])) _
      refine XS.iadd X19.here hx rfl (hb hby own_d5_107) rfl ?_
      exact kt)
  rw [show ((Int32.ofNat k) + (1 : Int32)) = (Int32.ofNat (k + 1)) from own_add k 1] at pre21
  obtain ⟨T22, h22, X22, e22, W22, st22⟩ := putF X19 hx hZ hown (host := "") (Or.inl (hw _ (List.mem_of_getElem? (i := 33) rfl))) Via.refl e19 F_size E_a1 (Or.inl (hw _ (List.mem_of_getElem? (i := 34) rfl))) (hw _ (List.mem_of_getElem? (i := 2) rfl)) (ty := .int) (by decide) rfl rfl (g := (mkF m 108 #[.val (.ref a1), .unset] [(.int (Int32.ofNat (k + 1))), (.ref a1), (.int (Int32.ofNat k))])) rfl rfl (hb hby own_d5_108)
  have Fw22 := F_size.same W22
  have K22 : Keep h0 h22 [a1, ch] := (Keep.refl h0 [a1, ch]).wr W22 (Or.inl (List.mem_of_getElem? (i := 0) rfl))
  have N22 := Fr.snoc X22 N0 g_a1
  have pre23 : Goes p e below s₁ (entryFrame m #[(.ref a1)] 2) T22 (mkF m 111 #[.val (.ref a1), .unset] [(.int (Int32.ofNat k))]) := fun t kt => pre21 t (st22 t kt)
  have pre24 : Goes p e below s₁ (entryFrame m #[(.ref a1)] 2) T22 (mkF m 113 #[.val (.ref a1), .val (.int (Int32.ofNat k))] [(.ref a1)]) := fun t kt => pre23 t (by
      show Steps p.tables e below (T22.setTop (mkF m 111 #[.val (.ref a1), .unset] [(.int (Int32.ofNat k))])) _
      refine XS.istoreN X22.here hx rfl (hb hby own_d5_111) rfl (l' := #[.val (.ref a1), .val (.int (Int32.ofNat k))]) rfl ?_
      show Steps p.tables e below (T22.setTop (mkF m 112 #[.val (.ref a1), .val (.int (Int32.ofNat k))] [])) _
      refine XS.aloadN X22.here hx rfl (hb hby own_d5_112) rfl rfl ?_
      exact kt)
  obtain ⟨T25, X25, e25, st25⟩ := getF X22 hx hZ hown (host := "") (Or.inl (hw _ (List.mem_of_getElem? (i := 16) rfl))) Via.refl e22 (F_children.other W22 (Or.inr (slot_ne (Or.inl (hw _ (List.mem_of_getElem? (i := 17) rfl))) (Or.inl (hw _ (List.mem_of_getElem? (i := 34) rfl))) (by decide) (t := (.array .int)) (t' := .int) (by decide) (by decide)))) (g := (mkF m 113 #[.val (.ref a1), .val (.int (Int32.ofNat k))] [(.ref a1)])) rfl rfl (hb hby own_d5_113)
  have pre26 : Goes p e below s₁ (entryFrame m #[(.ref a1)] 2) T25 (mkF m 116 #[.val (.ref a1), .val (.int (Int32.ofNat k))] [(.ref ch)]) := fun t kt => pre24 t (st25 t kt)
  have pre27 : Goes p e below s₁ (entryFrame m #[(.ref a1)] 2) T25 (mkF m 118 #[.val (.ref a1), .val (.int (Int32.ofNat k))] [(.ref a1), (.int (Int32.ofNat k)), (.ref ch)]) := fun t kt => pre26 t (by
      show Steps p.tables e below (T25.setTop (mkF m 116 #[.val (.ref a1), .val (.int (Int32.ofNat k))] [(.ref ch)])) _
      refine XS.iloadN X25.here hx rfl (hb hby own_d5_116) rfl ?_
      show Steps p.tables e below (T25.setTop (mkF m 117 #[.val (.ref a1), .val (.int (Int32.ofNat k))] [(.int (Int32.ofNat k)), (.ref ch)])) _
      refine XS.aloadN X25.here hx rfl (hb hby own_d5_117) rfl rfl ?_
      exact kt)
  obtain ⟨T28, X28, e28, st28⟩ := getF X25 hx hZ hown (host := "") (Or.inl (hw _ (List.mem_of_getElem? (i := 10) rfl))) Via.refl e25 (F_roles.other W22 (Or.inr (slot_ne (Or.inr (hw _ (List.mem_of_getElem? (i := 11) rfl))) (Or.inl (hw _ (List.mem_of_getElem? (i := 34) rfl))) (by decide) (t := .int) (t' := .int) (by decide) (by decide)))) (g := (mkF m 118 #[.val (.ref a1), .val (.int (Int32.ofNat k))] [(.ref a1), (.int (Int32.ofNat k)), (.ref ch)])) rfl rfl (hb hby own_d5_118)
  have pre29 : Goes p e below s₁ (entryFrame m #[(.ref a1)] 2) T28 (mkF m 121 #[.val (.ref a1), .val (.int (Int32.ofNat k))] [(.int (Int32.ofNat r)), (.int (Int32.ofNat k)), (.ref ch)]) := fun t kt => pre27 t (st28 t kt)
  have pre30 : Goes p e below s₁ (entryFrame m #[(.ref a1)] 2) T28 (mkF m 124 #[.val (.ref a1), .val (.int (Int32.ofNat k))] [(.ref a1), (.int (Int32.ofNat k)), (.int ((Int32.ofNat k) * (Int32.ofNat r))), (.ref ch)]) := fun t kt => pre29 t (by
      show Steps p.tables e below (T28.setTop (mkF m 121 #[.val (.ref a1), .val (.int (Int32.ofNat k))] [(.int (Int32.ofNat r)), (.int (Int32.ofNat k)), (.ref ch)])) _
      refine XS.imul X28.here hx rfl (hb hby own_d5_121) rfl ?_
      show Steps p.tables e below (T28.setTop (mkF m 122 #[.val (.ref a1), .val (.int (Int32.ofNat k))] [(.int ((Int32.ofNat k) * (Int32.ofNat r))), (.ref ch)])) _
      refine XS.iloadN X28.here hx rfl (hb hby own_d5_122) rfl ?_
      show Steps p.tables e below (T28.setTop (mkF m 123 #[.val (.ref a1), .val (.int (Int32.ofNat k))] [(.int (Int32.ofNat k)), (.int ((Int32.ofNat k) * (Int32.ofNat r))), (.ref ch)])) _
      refine XS.aloadN X28.here hx rfl (hb hby own_d5_123) rfl rfl ?_
      exact kt)
  obtain ⟨T31, X31, e31, st31⟩ := getF X28 hx hZ hown (host := "") (Or.inl (hw _ (List.mem_of_getElem? (i := 10) rfl))) Via.refl e28 (F_roles.other W22 (Or.inr (slot_ne (Or.inr (hw _ (List.mem_of_getElem? (i := 11) rfl))) (Or.inl (hw _ (List.mem_of_getElem? (i := 34) rfl))) (by decide) (t := .int) (t' := .int) (by decide) (by decide)))) (g := (mkF m 124 #[.val (.ref a1), .val (.int (Int32.ofNat k))] [(.ref a1), (.int (Int32.ofNat k)), (.int ((Int32.ofNat k) * (Int32.ofNat r))), (.ref ch)])) rfl rfl (hb hby own_d5_124)
  have pre32 : Goes p e below s₁ (entryFrame m #[(.ref a1)] 2) T31 (mkF m 127 #[.val (.ref a1), .val (.int (Int32.ofNat k))] [(.int (Int32.ofNat r)), (.int (Int32.ofNat k)), (.int ((Int32.ofNat k) * (Int32.ofNat r))), (.ref ch)]) := fun t kt => pre30 t (st31 t kt)
  have pre33 : Goes p e below s₁ (entryFrame m #[(.ref a1)] 2) T31 (mkF m 129 #[.val (.ref a1), .val (.int (Int32.ofNat k))] [(.ref a1), (.int ((Int32.ofNat k) * (Int32.ofNat r))), (.int ((Int32.ofNat k) * (Int32.ofNat r))), (.ref ch)]) := fun t kt => pre32 t (by
      show Steps p.tables e below (T31.setTop (mkF m 127 #[.val (.ref a1), .val (.int (Int32.ofNat k))] [(.int (Int32.ofNat r)), (.int (Int32.ofNat k)), (.int ((Int32.ofNat k) * (Int32.ofNat r))), (.ref ch)])) _
      refine XS.imul X31.here hx rfl (hb hby own_d5_127) rfl ?_
      show Steps p.tables e below (T31.setTop (mkF m 128 #[.val (.ref a1), .val (.int (Int32.ofNat k))] [(.int ((Int32.ofNat k) * (Int32.ofNat r))), (.int ((Int32.ofNat k) * (Int32.ofNat r))), (.ref ch)])) _
      refine XS.aloadN X31.here hx rfl (hb hby own_d5_128) rfl rfl ?_
      exact kt)
  obtain ⟨T34, X34, e34, st34⟩ := getF X31 hx hZ hown (host := "") (Or.inl (hw _ (List.mem_of_getElem? (i := 10) rfl))) Via.refl e31 (F_roles.other W22 (Or.inr (slot_ne (Or.inr (hw _ (List.mem_of_getElem? (i := 11) rfl))) (Or.inl (hw _ (List.mem_of_getElem? (i := 34) rfl))) (by decide) (t := .int) (t' := .int) (by decide) (by decide)))) (g := (mkF m 129 #[.val (.ref a1), .val (.int (Int32.ofNat k))] [(.ref a1), (.int ((Int32.ofNat k) * (Int32.ofNat r))), (.int ((Int32.ofNat k) * (Int32.ofNat r))), (.ref ch)])) rfl rfl (hb hby own_d5_129)
  have pre35 : Goes p e below s₁ (entryFrame m #[(.ref a1)] 2) T34 (mkF m 132 #[.val (.ref a1), .val (.int (Int32.ofNat k))] [(.int (Int32.ofNat r)), (.int ((Int32.ofNat k) * (Int32.ofNat r))), (.int ((Int32.ofNat k) * (Int32.ofNat r))), (.ref ch)]) := fun t kt => pre33 t (st34 t kt)
  have pre36 : Goes p e below s₁ (entryFrame m #[(.ref a1)] 2) T34 (mkF m 134 #[.val (.ref a1), .val (.int (Int32.ofNat k))] [(.int (-1 : Int32)), (.int (((Int32.ofNat k) * (Int32.ofNat r)) + (Int32.ofNat r))), (.int ((Int32.ofNat k) * (Int32.ofNat r))), (.ref ch)]) := fun t kt => pre35 t (by
      show Steps p.tables e below (T34.setTop (mkF m 132 #[.val (.ref a1), .val (.int (Int32.ofNat k))] [(.int (Int32.ofNat r)), (.int ((Int32.ofNat k) * (Int32.ofNat r))), (.int ((Int32.ofNat k) * (Int32.ofNat r))), (.ref ch)])) _
      refine XS.iadd X34.here hx rfl (hb hby own_d5_132) rfl ?_
      show Steps p.tables e below (T34.setTop (mkF m 133 #[.val (.ref a1), .val (.int (Int32.ofNat k))] [(.int (((Int32.ofNat k) * (Int32.ofNat r)) + (Int32.ofNat r))), (.int ((Int32.ofNat k) * (Int32.ofNat r))), (.ref ch)])) _
      refine XS.iconst X34.here hx rfl (hb hby own_d5_133) ?_
      exact kt)
  rw [show ((Int32.ofNat k) * (Int32.ofNat r)) = (Int32.ofNat (k * r)) from own_mul k r] at pre36
  rw [show ((Int32.ofNat (k * r)) + (Int32.ofNat r)) = (Int32.ofNat (k * r + r)) from own_add (k * r) r] at pre36
  obtain ⟨_, _, ⟨T37, L37, k37, n37⟩, -, X37, ⟨Lc37, hQ37, l37, y37, z37⟩, st37⟩ := Jvm.LawKit.callS X34 hx (y := (⟨"java/util/Arrays", "fill", "([IIII)V"⟩ : MethodName)) hown (mvT hZ (hw _ (List.mem_of_getElem? (i := 35) rfl))) (mvT hZ (hw _ (List.mem_of_getElem? (i := 36) rfl))) (mvT hZ (hw _ (List.mem_of_getElem? (i := 37) rfl))) (mvT hZ (hw _ (List.mem_of_getElem? (i := 38) rfl))) (by decide) (backOf (W := 0) (own_fill l Z a0 hw [] ch (16 * r) f (k * r) (k * r + r) (-1 : Int32) h22 n0 (Nat.le_trans Z0 (Keep.of_wr W22).1) (V_ch.other W22 (Ne.symm nac)) g_ch (by omega) (by omega) hkr) hZ (hw _ (List.mem_of_getElem? (i := 38) rfl)) (hw _ (List.mem_of_getElem? (i := 37) rfl)) (by decide) (by decide)) (g := (mkF m 134 #[.val (.ref a1), .val (.int (Int32.ofNat k))] [(.int (-1 : Int32)), (.int (Int32.ofNat (k * r + r))), (.int (Int32.ofNat (k * r))), (.ref ch)])) rfl (by rw [hml]; rfl) (argsL := [(.ref ch), (.int (Int32.ofNat (k * r))), (.int (Int32.ofNat (k * r + r))), (.int (-1 : Int32))]) (rest := []) (lenOf own_pd1 rfl) rfl (by show 2 * 0 + _ ≤ _; exact Nat.le_of_eq rfl) (hb hby own_d5_134) (fun _ _ => ⟨rfl, e34, (by decide : 0 + 0 ≤ _), (by decide : 0 + 0 ≤ _)⟩)
  dsimp only [Pt.U, Pt.locs, Pt.cells, Pt.slots] at X37 l37 y37 z37 st37 hQ37
  subst l37 y37 z37
  obtain ⟨rfl, N37q, K37q, Vq37⟩ := hQ37
  have N37 := Fr.app N22 N37q
  have KC37 : Keep h0 T37.heap [a1, ch] := K22.trans K37q (allS (Or.inl (List.mem_of_getElem? (i := 1) rfl)) all0)
  have pre38 : Goes p e below s₁ (entryFrame m #[(.ref a1)] 2) T37 (mkF m 137 #[.val (.ref a1), .val (.int (Int32.ofNat k))] []) := fun t kt => pre36 t (st37 t kt)
  have pre39 : Goes p e below s₁ (entryFrame m #[(.ref a1)] 2) T37 (mkF m 138 #[.val (.ref a1), .val (.int (Int32.ofNat k))] [(.int (Int32.ofNat k))]) := fun t kt => pre38 t (by
      show Steps p.tables e below (T37.setTop (mkF m 137 #[.val (.ref a1), .val (.int (Int32.ofNat k))] [])) _
      refine XS.iloadN X37.here hx rfl (hb hby own_d5_137) rfl ?_
      exact kt)
  obtain ⟨fs, hr, hrun, hended, hW, hsame⟩ := X37.leave (v := some (.int (Int32.ofNat k))) (fun h => by rw [Bd.returns] at h; cases h)
  refine ⟨_, _, pre39 _ ?_, hrun, hended, _, _, rfl, ?_, ⟨_, rfl⟩, hW, hsame.mono (by decide) (by decide)⟩
  · show Steps p.tables e below (T37.setTop (mkF m 138 #[.val (.ref a1), .val (.int (Int32.ofNat k))] [(.int (Int32.ofNat k))])) _
    exact retI X37 hx Bd.returns (hb hby own_d5_138) hr
  · show Q_own_newNode Z a1 r k ch f rt gg tg kt vts h0 n0 _ T37.heap _
    exact ⟨rfl, N37, KC37, ⟨((E_a1.wr W22).keep K37q), ((F_roles.other W22 (Or.inr (slot_ne (Or.inr (hw _ (List.mem_of_getElem? (i := 11) rfl))) (Or.inl (hw _ (List.mem_of_getElem? (i := 34) rfl))) (by decide) (t := .int) (t' := .int) (by decide) (by decide)))).keep K37q (ninS nac nin0)), ((F_children.other W22 (Or.inr (slot_ne (Or.inl (hw _ (List.mem_of_getElem? (i := 17) rfl))) (Or.inl (hw _ (List.mem_of_getElem? (i := 34) rfl))) (by decide) (t := (.array .int)) (t' := .int) (by decide) (by decide)))).keep K37q (ninS nac nin0)), ((F_roots.other W22 (Or.inr (slot_ne (Or.inl (hw _ (List.mem_of_getElem? (i := 19) rfl))) (Or.inl (hw _ (List.mem_of_getElem? (i := 34) rfl))) (by decide) (t := (.array .int)) (t' := .int) (by decide) (by decide)))).keep K37q (ninS nac nin0)), ((F_tags.other W22 (Or.inr (slot_ne (Or.inl (hw _ (List.mem_of_getElem? (i := 23) rfl))) (Or.inl (hw _ (List.mem_of_getElem? (i := 34) rfl))) (by decide) (t := (.array (.array .int))) (t' := .int) (by decide) (by decide)))).keep K37q (ninS nac nin0)), (Fw22.keep K37q (ninS nac nin0)), Vq37, ((V_rt.other W22 (Ne.symm nar)).keep K37q (ninS (Ne.symm ncr) nin0)), ((V_tg.other W22 (Ne.symm nat)).keep K37q (ninS (Ne.symm nct) nin0)), g_a1, g_ch, g_rt, g_tg, nac, nar, nat, ncr, nct, nrt⟩⟩

theorem own_d4_0 : decode prog_26_method_2_code 0 = .ok (.aload_n 0, 1) := by decide +kernel
theorem own_d4_1 : decode prog_26_method_2_code 1 = .ok (.invokevirtual 31, 3) := by decide +kernel
theorem own_d4_4 : decode prog_26_method_2_code 4 = .ok (.istore_n 1, 1) := by decide +kernel
theorem own_d4_5 : decode prog_26_method_2_code 5 = .ok (.aload_n 0, 1) := by decide +kernel
theorem own_d4_6 : decode prog_26_method_2_code 6 = .ok (.getfield 23, 3) := by decide +kernel
theorem own_d4_9 : decode prog_26_method_2_code 9 = .ok (.iload_n 1, 1) := by decide +kernel
theorem own_d4_10 : decode prog_26_method_2_code 10 = .ok (.iload_n 1, 1) := by decide +kernel
theorem own_d4_11 : decode prog_26_method_2_code 11 = .ok (.iastore, 1) := by decide +kernel
theorem own_d4_12 : decode prog_26_method_2_code 12 = .ok (.iload_n 1, 1) := by decide +kernel
theorem own_d4_13 : decode prog_26_method_2_code 13 = .ok (.ireturn, 1) := by decide +kernel
theorem own_pn_own_addRoot : plainName "com/example/unicept/unicept/WordTrie" = true := by first | (simp [plainName, overriddenIn]; done) | decide +kernel
theorem own_ef_own_addRoot (m : MethodId) (x0 : Addr) : entryFrame m #[(.ref x0)] 2 = mkF m 0 #[.val (.ref x0), .unset] [] := by first | (simp [entryFrame, mkF, argsToLocals, Value.category]; done) | rfl
def Q_own_addRoot (Z : State) (a1 : Addr) (r : Nat) (k : Nat) (ch : Addr) (f : Nat → Int32) (rt : Addr) (gg : Nat → Int32) (tg : Addr) (kt : ClassId) (vts : List Value) (h0 : Heap) (n0 : Nat) (v : Option Value) (h : Heap) (L : List Loc) : Prop := v = some (.int (Int32.ofNat k)) ∧ Fr n0 L ∧ Keep h0 h [a1, ch, rt] ∧ own_TR Z h n0 a1 r (k + 1) ch (own_fl f (k * r) (k * r + r) (-1)) rt (own_up gg k (Int32.ofNat k)) tg kt vts
set_option maxRecDepth 65536 in
set_option maxHeartbeats 40000000 in
theorem own_addRoot (l : Launch) (Z : State) (a0 : Array Value) (hw : ∀ d ∈ tables_1, d.before a0 Z = true) (ws : List Jvm.Cond) (a1 : Addr) (r : Nat) (k : Nat) (ch : Addr) (f : Nat → Int32) (rt : Addr) (gg : Nat → Int32) (tg : Addr) (kt : ClassId) (vts : List Value) (h0 : Heap) (n0 : Nat) (Z0 : n0 ≤ h0.size) (hT : own_TR Z h0 n0 a1 r k ch f rt gg tg kt vts) (hr1 : 1 ≤ r) (hr8 : r ≤ 8) (hk : k < 16) :
    MetFree l (⟨"com/example/unicept/unicept/WordTrie", "addRoot", "()I"⟩ : MethodName) (head1 (Jvm.Cond.code (⟨"com/example/unicept/unicept/WordTrie", "addRoot", "()I"⟩ : MethodName) prog_26_method_2_code 2 (some .int) :: ws) ({ frames := 3, cells := 0, slots := 0, locals := 43 } : Room)) (fun a U => a = #[(.ref a1)] ∧ Z.Warmed39 U.vm ∧ U.heap = h0) (fun _ _ _ _ _ => True) (fun _ U o U' => ∃ v L, o = .returned v ∧ Q_own_addRoot Z a1 r k ch f rt gg tg kt vts h0 n0 v U'.heap L ∧ FrameEnd U o U' L ({ frames := 3, cells := 0, slots := 0, locals := 43 } : Room).cells ({ frames := 3, cells := 0, slots := 0, locals := 43 } : Room).slots) := by
  refine MetFree.of_bodySF (plainFor_of_name own_pn_own_addRoot) hisR ?_
  intro p e s m args below meth c s₁ Bd hml0 hP hK
  obtain ⟨rfl, hZ, hh⟩ := hP
  have hx := Bd.exec
  have hby := Bd.bytes
  have hml : c.maxLocals = 2 := hml0
  have hown : s.vm.findClass "com/example/unicept/unicept/WordTrie" = some m.cls := findClass_of_methodNamed Bd.named
  have hnm := (name_of_methodNamed Bd.named Bd.method).1
  have X0 : Stand p l e ({ frames := 3, cells := 0, slots := 0, locals := 43 } : Room) s m #[(.ref a1)] below meth c s₁ [] 0 0 := Stand.of_body Bd
  have e0 : s₁.heap = h0 := by rw [← hh, Bd.state]; rfl
  have N0 := Fr.nil n0
  have pre0 : Goes p e below s₁ (entryFrame m #[(.ref a1)] 2) s₁ (mkF m 0 #[.val (.ref a1), .unset] []) := fun t k => castTop (own_ef_own_addRoot m a1) k
  have g_ch : n0 ≤ ch := hT.2.2.2.2.2.2.2.2.2.2.1
  have g_a1 : n0 ≤ a1 := hT.2.2.2.2.2.2.2.2.2.1
  have pre1 : Goes p e below s₁ (entryFrame m #[(.ref a1)] 2) s₁ (mkF m 1 #[.val (.ref a1), .unset] [(.ref a1)]) := fun t kt => pre0 t (by
      show Steps p.tables e below (s₁.setTop (mkF m 0 #[.val (.ref a1), .unset] [])) _
      refine XS.aloadN X0.here hx rfl (hb hby own_d4_0) rfl rfl ?_
      exact kt)
  obtain ⟨cq2, qc2, qd2⟩ := hT.1.cell
  obtain ⟨_, _, ⟨T2, L2, k2, n2⟩, -, X2, ⟨Lc2, hQ2, l2, y2, z2⟩, st2⟩ := X0.privateBack hx (y := (⟨"com/example/unicept/unicept/WordTrie", "newNode", "()I"⟩ : MethodName)) hown (mvT hZ (hw _ (List.mem_of_getElem? (i := 29) rfl))) (mvT hZ (hw _ (List.mem_of_getElem? (i := 30) rfl))) (own_sel (mvT hZ (hw _ (List.mem_of_getElem? (i := 2) rfl))) (mvP hZ (hw _ (List.mem_of_getElem? (i := 31) rfl))) (mvT hZ (hw _ (List.mem_of_getElem? (i := 30) rfl))) (by decide)) (Cond.privateMethod_at (mvP hZ (hw _ (List.mem_of_getElem? (i := 31) rfl)) (args := #[]))) (mvT hZ (hw _ (List.mem_of_getElem? (i := 32) rfl))) (by decide) (backOf (W := 0) (own_newNode l Z a0 hw [] a1 r k ch f rt gg tg kt vts h0 n0 Z0 hT hr1 hr8 hk) hZ (hw _ (List.mem_of_getElem? (i := 32) rfl)) (hw _ (List.mem_of_getElem? (i := 3) rfl)) (by decide) (by decide)) (g := (mkF m 1 #[.val (.ref a1), .unset] [(.ref a1)])) rfl (by rw [hml]; rfl) (Steps.refl _) (a := a1) (by rw [e0]; exact qc2) qd2 (argsL := []) (rest := []) (lenOf own_pd2 rfl) rfl (by show 2 * 0 + _ ≤ _; exact Nat.le_of_eq rfl) (hb hby own_d4_1) (fun _ _ => ⟨rfl, e0, (by decide : 0 + 0 ≤ _), (by decide : 0 + 0 ≤ _)⟩)
  dsimp only [Pt.U, Pt.locs, Pt.cells, Pt.slots] at X2 l2 y2 z2 st2 hQ2
  subst l2 y2 z2
  obtain ⟨rfl, N2q, K2q, hT2⟩ := hQ2
  have N2 := Fr.app N0 N2q
  have KC2 : Keep h0 T2.heap [a1, ch, rt] := (Keep.refl h0 [a1, ch, rt]).trans K2q (allS (Or.inl (List.mem_of_getElem? (i := 0) rfl)) (allS (Or.inl (List.mem_of_getElem? (i := 1) rfl)) all0))
  have pre3 : Goes p e below s₁ (entryFrame m #[(.ref a1)] 2) T2 (mkF m 4 #[.val (.ref a1), .unset] [(.int (Int32.ofNat k))]) := fun t kt => pre1 t (st2.trans kt)
  obtain ⟨E_a1, F_roles, F_children, F_roots, F_tags, F_size, V_ch, V_rt, V_tg, g_a1, g_ch, g_rt, g_tg, nac, nar, nat, ncr, nct, nrt⟩ := hT2
  have pre4 : Goes p e below s₁ (entryFrame m #[(.ref a1)] 2) T2 (mkF m 6 #[.val (.ref a1), .val (.int (Int32.ofNat k))] [(.ref a1)]) := fun t kt => pre3 t (by
      show Steps p.tables e below (T2.setTop (mkF m 4 #[.val (.ref a1), .unset] [(.int (Int32.ofNat k))])) _
      refine XS.istoreN X2.here hx rfl (hb hby own_d4_4) rfl (l' := #[.val (.ref a1), .val (.int (Int32.ofNat k))]) rfl ?_
      show Steps p.tables e below (T2.setTop (mkF m 5 #[.val (.ref a1), .val (.int (Int32.ofNat k))] [])) _
      refine XS.aloadN X2.here hx rfl (hb hby own_d4_5) rfl rfl ?_
      exact kt)
  obtain ⟨T5, X5, e5, st5⟩ := getF X2 hx hZ hown (host := "") (Or.inl (hw _ (List.mem_of_getElem? (i := 18) rfl))) Via.refl rfl F_roots (g := (mkF m 6 #[.val (.ref a1), .val (.int (Int32.ofNat k))] [(.ref a1)])) rfl rfl (hb hby own_d4_6)
  have pre6 : Goes p e below s₁ (entryFrame m #[(.ref a1)] 2) T5 (mkF m 9 #[.val (.ref a1), .val (.int (Int32.ofNat k))] [(.ref rt)]) := fun t kt => pre4 t (st5 t kt)
  have pre7 : Goes p e below s₁ (entryFrame m #[(.ref a1)] 2) T5 (mkF m 11 #[.val (.ref a1), .val (.int (Int32.ofNat k))] [(.int (Int32.ofNat k)), (.int (Int32.ofNat k)), (.ref rt)]) := fun t kt => pre6 t (by
      show Steps p.tables e below (T5.setTop (mkF m 9 #[.val (.ref a1), .val (.int (Int32.ofNat k))] [(.ref rt)])) _
      refine XS.iloadN X5.here hx rfl (hb hby own_d4_9) rfl ?_
      show Steps p.tables e below (T5.setTop (mkF m 10 #[.val (.ref a1), .val (.int (Int32.ofNat k))] [(.int (Int32.ofNat k)), (.ref rt)])) _
      refine XS.iloadN X5.here hx rfl (hb hby own_d4_10) rfl ?_
      exact kt)
  obtain ⟨cl8, Ar8, S8, H8⟩ := (id (V_rt))
  have hlt8 : k < 16 := hk
  have hin8 : ¬ ((Int32.ofNat k) < 0 ∨ cl8.slots.size ≤ ((Int32.ofNat k)).toNatClampNeg) := own_in S8 hlt8 (by decide)
  obtain ⟨T9, h9, X9, e9, W9, st9⟩ := stI X5 hx hZ e5 Ar8 (j := (Int32.ofNat k)) hin8 (g := (mkF m 11 #[.val (.ref a1), .val (.int (Int32.ofNat k))] [(.int (Int32.ofNat k)), (.int (Int32.ofNat k)), (.ref rt)])) rfl rfl (hb hby own_d4_11)
  have V9 : own_FA Z h9 rt 16 (own_up gg k (Int32.ofNat k)) := own_FA.set Ar8 S8 H8 W9 hlt8 (by decide)
  have K9 : Keep h0 h9 [a1, ch, rt] := KC2.wr W9 (Or.inl (List.mem_of_getElem? (i := 2) rfl))
  have N9 := Fr.snoc X9 N2 g_rt
  have pre10 : Goes p e below s₁ (entryFrame m #[(.ref a1)] 2) T9 (mkF m 12 #[.val (.ref a1), .val (.int (Int32.ofNat k))] []) := fun t kt => pre7 t (st9 t kt)
  have pre11 : Goes p e below s₁ (entryFrame m #[(.ref a1)] 2) T9 (mkF m 13 #[.val (.ref a1), .val (.int (Int32.ofNat k))] [(.int (Int32.ofNat k))]) := fun t kt => pre10 t (by
      show Steps p.tables e below (T9.setTop (mkF m 12 #[.val (.ref a1), .val (.int (Int32.ofNat k))] [])) _
      refine XS.iloadN X9.here hx rfl (hb hby own_d4_12) rfl ?_
      exact kt)
  obtain ⟨fs, hr, hrun, hended, hW, hsame⟩ := X9.leave (v := some (.int (Int32.ofNat k))) (fun h => by rw [Bd.returns] at h; cases h)
  refine ⟨_, _, pre11 _ ?_, hrun, hended, _, _, rfl, ?_, ⟨_, rfl⟩, hW, hsame.mono (by decide) (by decide)⟩
  · show Steps p.tables e below (T9.setTop (mkF m 13 #[.val (.ref a1), .val (.int (Int32.ofNat k))] [(.int (Int32.ofNat k))])) _
    exact retI X9 hx Bd.returns (hb hby own_d4_13) hr
  · show Q_own_addRoot Z a1 r k ch f rt gg tg kt vts h0 n0 _ T9.heap _
    rw [e9]
    exact ⟨rfl, N9, K9, ⟨(E_a1.wr W9), (F_roles.other W9 (Or.inl nar)), (F_children.other W9 (Or.inl nar)), (F_roots.other W9 (Or.inl nar)), (F_tags.other W9 (Or.inl nar)), (F_size.other W9 (Or.inl nar)), (V_ch.other W9 ncr), V9, (V_tg.other W9 (Ne.symm nrt)), g_a1, g_ch, g_rt, g_tg, nac, nar, nat, ncr, nct, nrt⟩⟩

theorem own_d1_0 : decode prog_26_method_1_code 0 = .ok (.aload_n 0, 1) := by decide +kernel
theorem own_d1_1 : decode prog_26_method_1_code 1 = .ok (.invokespecial 1, 3) := by decide +kernel
theorem own_d1_4 : decode prog_26_method_1_code 4 = .ok (.aload_n 0, 1) := by decide +kernel
theorem own_d1_5 : decode prog_26_method_1_code 5 = .ok (.iload_n 1, 1) := by decide +kernel
theorem own_d1_6 : decode prog_26_method_1_code 6 = .ok (.putfield 7, 3) := by decide +kernel
theorem own_d1_9 : decode prog_26_method_1_code 9 = .ok (.aload_n 0, 1) := by decide +kernel
theorem own_d1_10 : decode prog_26_method_1_code 10 = .ok (.iload_n 1, 1) := by decide +kernel
theorem own_d1_11 : decode prog_26_method_1_code 11 = .ok (.iconst 1, 1) := by decide +kernel
theorem own_d1_12 : decode prog_26_method_1_code 12 = .ok (.invokestatic 13, 3) := by decide +kernel
theorem own_d1_15 : decode prog_26_method_1_code 15 = .ok (.bipush 16, 2) := by decide +kernel
theorem own_d1_17 : decode prog_26_method_1_code 17 = .ok (.imul, 1) := by decide +kernel
theorem own_d1_18 : decode prog_26_method_1_code 18 = .ok (.newarray .int, 2) := by decide +kernel
theorem own_d1_20 : decode prog_26_method_1_code 20 = .ok (.putfield 19, 3) := by decide +kernel
theorem own_d1_23 : decode prog_26_method_1_code 23 = .ok (.aload_n 0, 1) := by decide +kernel
theorem own_d1_24 : decode prog_26_method_1_code 24 = .ok (.bipush 16, 2) := by decide +kernel
theorem own_d1_26 : decode prog_26_method_1_code 26 = .ok (.newarray .int, 2) := by decide +kernel
theorem own_d1_28 : decode prog_26_method_1_code 28 = .ok (.putfield 23, 3) := by decide +kernel
theorem own_d1_31 : decode prog_26_method_1_code 31 = .ok (.aload_n 0, 1) := by decide +kernel
theorem own_d1_32 : decode prog_26_method_1_code 32 = .ok (.bipush 16, 2) := by decide +kernel
theorem own_d1_34 : decode prog_26_method_1_code 34 = .ok (.anewarray 26, 3) := by decide +kernel
theorem own_d1_37 : decode prog_26_method_1_code 37 = .ok (.putfield 27, 3) := by decide +kernel
theorem own_d1_40 : decode prog_26_method_1_code 40 = .ok (.return_, 1) := by decide +kernel
theorem own_pn_own_init : plainName "com/example/unicept/unicept/WordTrie" = true := by first | (simp [plainName, overriddenIn]; done) | decide +kernel
theorem own_ef_own_init (m : MethodId) (x0 : Addr) (x1 : Int32) : entryFrame m #[(.ref x0), (.int x1)] 2 = mkF m 0 #[.val (.ref x0), .val (.int x1)] [] := by first | (simp [entryFrame, mkF, argsToLocals, Value.category]; done) | rfl
def Q_own_init (Z : State) (a1 : Addr) (r : Nat) (h0 : Heap) (n0 : Nat) (v : Option Value) (h : Heap) (L : List Loc) : Prop := v = none ∧ Fr n0 L ∧ Keep h0 h [a1] ∧ ∃ (ch rt tg : Addr) (kt : ClassId), h0.size ≤ ch ∧ h0.size ≤ rt ∧ h0.size ≤ tg ∧ OvrA Z kt .int "[I" ∧ own_TR Z h n0 a1 r 0 ch (fun _ => 0) rt (fun _ => 0) tg kt (List.replicate 16 .null)
set_option maxRecDepth 65536 in
set_option maxHeartbeats 40000000 in
theorem own_init (l : Launch) (Z : State) (a0 : Array Value) (hw : ∀ d ∈ tables_1, d.before a0 Z = true) (ws : List Jvm.Cond) (a1 : Addr) (r : Nat) (h0 : Heap) (n0 : Nat) (Z0 : n0 ≤ h0.size) (E_a1 : Exa Z h0 a1 "com/example/unicept/unicept/WordTrie") (F_roles : Fld Z h0 a1 "com/example/unicept/unicept/WordTrie" "roles" "I" (.int (0 : Int32))) (F_children : Fld Z h0 a1 "com/example/unicept/unicept/WordTrie" "children" "[I" .null) (F_roots : Fld Z h0 a1 "com/example/unicept/unicept/WordTrie" "roots" "[I" .null) (F_tags : Fld Z h0 a1 "com/example/unicept/unicept/WordTrie" "tags" "[[I" .null) (F_size : Fld Z h0 a1 "com/example/unicept/unicept/WordTrie" "size" "I" (.int (0 : Int32))) (g_a1 : n0 ≤ a1) (hr1 : 1 ≤ r) (hr8 : r ≤ 8) :
    MetFree l (⟨"com/example/unicept/unicept/WordTrie", "<init>", "(I)V"⟩ : MethodName) (head1 (Jvm.Cond.code (⟨"com/example/unicept/unicept/WordTrie", "<init>", "(I)V"⟩ : MethodName) prog_26_method_1_code 2 none :: ws) ({ frames := 1, cells := 3, slots := 160, locals := 14 } : Room)) (fun a U => a = #[(.ref a1), (.int (Int32.ofNat r))] ∧ Z.Warmed39 U.vm ∧ U.heap = h0) (fun _ _ _ _ _ => True) (fun _ U o U' => ∃ v L, o = .returned v ∧ Q_own_init Z a1 r h0 n0 v U'.heap L ∧ FrameEnd U o U' L ({ frames := 1, cells := 3, slots := 160, locals := 14 } : Room).cells ({ frames := 1, cells := 3, slots := 160, locals := 14 } : Room).slots) := by
  refine MetFree.of_bodySF (plainFor_of_name own_pn_own_init) hisR ?_
  intro p e s m args below meth c s₁ Bd hml0 hP hK
  obtain ⟨rfl, hZ, hh⟩ := hP
  have hx := Bd.exec
  have hby := Bd.bytes
  have hml : c.maxLocals = 2 := hml0
  have hown : s.vm.findClass "com/example/unicept/unicept/WordTrie" = some m.cls := findClass_of_methodNamed Bd.named
  have hnm := (name_of_methodNamed Bd.named Bd.method).1
  have X0 : Stand p l e ({ frames := 1, cells := 3, slots := 160, locals := 14 } : Room) s m #[(.ref a1), (.int (Int32.ofNat r))] below meth c s₁ [] 0 0 := Stand.of_body Bd
  have e0 : s₁.heap = h0 := by rw [← hh, Bd.state]; rfl
  have N0 := Fr.nil n0
  have pre0 : Goes p e below s₁ (entryFrame m #[(.ref a1), (.int (Int32.ofNat r))] 2) s₁ (mkF m 0 #[.val (.ref a1), .val (.int (Int32.ofNat r))] []) := fun t k => castTop (own_ef_own_init m a1 (Int32.ofNat r)) k
  have pre1 : Goes p e below s₁ (entryFrame m #[(.ref a1), (.int (Int32.ofNat r))] 2) s₁ (mkF m 1 #[.val (.ref a1), .val (.int (Int32.ofNat r))] [(.ref a1)]) := fun t kt => pre0 t (by
      show Steps p.tables e below (s₁.setTop (mkF m 0 #[.val (.ref a1), .val (.int (Int32.ofNat r))] [])) _
      refine XS.aloadN X0.here hx rfl (hb hby own_d1_0) rfl rfl ?_
      exact kt)
  obtain ⟨T2, X2, e2, st2⟩ := initO X0 hx hZ hown (hw _ (List.mem_of_getElem? (i := 7) rfl)) (hw _ (List.mem_of_getElem? (i := 8) rfl)) (hw _ (List.mem_of_getElem? (i := 9) rfl)) e0 (g := (mkF m 1 #[.val (.ref a1), .val (.int (Int32.ofNat r))] [(.ref a1)])) rfl (by rw [hml]; rfl) rfl (hb hby own_d1_1) (by decide) (W := 0) (by show 2 * 0 + _ ≤ _; exact Nat.le_of_eq rfl) (by decide)
  have pre3 : Goes p e below s₁ (entryFrame m #[(.ref a1), (.int (Int32.ofNat r))] 2) T2 (mkF m 4 #[.val (.ref a1), .val (.int (Int32.ofNat r))] []) := fun t kt => pre1 t (st2 t kt)
  have pre4 : Goes p e below s₁ (entryFrame m #[(.ref a1), (.int (Int32.ofNat r))] 2) T2 (mkF m 6 #[.val (.ref a1), .val (.int (Int32.ofNat r))] [(.int (Int32.ofNat r)), (.ref a1)]) := fun t kt => pre3 t (by
      show Steps p.tables e below (T2.setTop (mkF m 4 #[.val (.ref a1), .val (.int (Int32.ofNat r))] [])) _
      refine XS.aloadN X2.here hx rfl (hb hby own_d1_4) rfl rfl ?_
      show Steps p.tables e below (T2.setTop (mkF m 5 #[.val (.ref a1), .val (.int (Int32.ofNat r))] [(.ref a1)])) _
      refine XS.iloadN X2.here hx rfl (hb hby own_d1_5) rfl ?_
      exact kt)
  obtain ⟨T5, h5, X5, e5, W5, st5⟩ := putF X2 hx hZ hown (host := "") (Or.inl (hw _ (List.mem_of_getElem? (i := 10) rfl))) Via.refl e2 F_roles E_a1 (Or.inr ⟨(hw _ (List.mem_of_getElem? (i := 11) rfl)), rfl, hnm⟩) (hw _ (List.mem_of_getElem? (i := 2) rfl)) (ty := .int) (by decide) rfl rfl (g := (mkF m 6 #[.val (.ref a1), .val (.int (Int32.ofNat r))] [(.int (Int32.ofNat r)), (.ref a1)])) rfl rfl (hb hby own_d1_6)
  have Fw5 := F_roles.same W5
  have K5 : Keep h0 h5 [a1] := (Keep.refl h0 [a1]).wr W5 (Or.inl (List.mem_of_getElem? (i := 0) rfl))
  have N5 := Fr.snoc X5 N0 g_a1
  have pre6 : Goes p e below s₁ (entryFrame m #[(.ref a1), (.int (Int32.ofNat r))] 2) T5 (mkF m 9 #[.val (.ref a1), .val (.int (Int32.ofNat r))] []) := fun t kt => pre4 t (st5 t kt)
  have pre7 : Goes p e below s₁ (entryFrame m #[(.ref a1), (.int (Int32.ofNat r))] 2) T5 (mkF m 12 #[.val (.ref a1), .val (.int (Int32.ofNat r))] [(.int (1 : Int32)), (.int (Int32.ofNat r)), (.ref a1)]) := fun t kt => pre6 t (by
      show Steps p.tables e below (T5.setTop (mkF m 9 #[.val (.ref a1), .val (.int (Int32.ofNat r))] [])) _
      refine XS.aloadN X5.here hx rfl (hb hby own_d1_9) rfl rfl ?_
      show Steps p.tables e below (T5.setTop (mkF m 10 #[.val (.ref a1), .val (.int (Int32.ofNat r))] [(.ref a1)])) _
      refine XS.iloadN X5.here hx rfl (hb hby own_d1_10) rfl ?_
      show Steps p.tables e below (T5.setTop (mkF m 11 #[.val (.ref a1), .val (.int (Int32.ofNat r))] [(.int (Int32.ofNat r)), (.ref a1)])) _
      refine XS.iconst X5.here hx rfl (hb hby own_d1_11) ?_
      exact kt)
  obtain ⟨_, _, ⟨T8, L8, k8, n8⟩, -, X8, ⟨Lc8, hQ8, l8, y8, z8⟩, st8⟩ := Jvm.LawKit.callS X5 hx (y := (⟨"java/lang/Math", "max", "(II)I"⟩ : MethodName)) hown (mvT hZ (hw _ (List.mem_of_getElem? (i := 12) rfl))) (mvT hZ (hw _ (List.mem_of_getElem? (i := 13) rfl))) (mvT hZ (hw _ (List.mem_of_getElem? (i := 14) rfl))) (mvT hZ (hw _ (List.mem_of_getElem? (i := 15) rfl))) (by decide) (backOf (W := 1) (own_max l Z a0 hw [] (Int32.ofNat r) (1 : Int32) h5 n0 (Nat.le_trans Z0 (Keep.of_wr W5).1) (own_nltI (a := r) (b := 1) hr1 (by omega))) hZ (hw _ (List.mem_of_getElem? (i := 15) rfl)) (hw _ (List.mem_of_getElem? (i := 14) rfl)) (by decide) (by decide)) (g := (mkF m 12 #[.val (.ref a1), .val (.int (Int32.ofNat r))] [(.int (1 : Int32)), (.int (Int32.ofNat r)), (.ref a1)])) rfl (by rw [hml]; rfl) (argsL := [(.int (Int32.ofNat r)), (.int (1 : Int32))]) (rest := [(.ref a1)]) (lenOf own_pd3 rfl) rfl (by show 2 * 0 + _ ≤ _; exact Nat.le_of_eq rfl) (hb hby own_d1_12) (fun _ _ => ⟨rfl, e5, (by decide : 0 + 0 ≤ _), (by decide : 0 + 0 ≤ _)⟩)
  dsimp only [Pt.U, Pt.locs, Pt.cells, Pt.slots] at X8 l8 y8 z8 st8 hQ8
  subst l8 y8 z8
  obtain ⟨rfl, N8q, e8⟩ := hQ8
  have N8 := Fr.app N5 N8q
  have pre9 : Goes p e below s₁ (entryFrame m #[(.ref a1), (.int (Int32.ofNat r))] 2) T8 (mkF m 15 #[.val (.ref a1), .val (.int (Int32.ofNat r))] [(.int (Int32.ofNat r)), (.ref a1)]) := fun t kt => pre7 t (st8 t kt)
  have pre10 : Goes p e below s₁ (entryFrame m #[(.ref a1), (.int (Int32.ofNat r))] 2) T8 (mkF m 18 #[.val (.ref a1), .val (.int (Int32.ofNat r))] [(.int ((Int32.ofNat r) * (16 : Int32))), (.ref a1)]) := fun t kt => pre9 t (by
      show Steps p.tables e below (T8.setTop (mkF m 15 #[.val (.ref a1), .val (.int (Int32.ofNat r))] [(.int (Int32.ofNat r)), (.ref a1)])) _
      refine XS.bipush X8.here hx rfl (hb hby own_d1_15) ?_
      show Steps p.tables e below (T8.setTop (mkF m 17 #[.val (.ref a1), .val (.int (Int32.ofNat r))] [(.int (16 : Int32)), (.int (Int32.ofNat r)), (.ref a1)])) _
      refine XS.imul X8.here hx rfl (hb hby own_d1_17) rfl ?_
      exact kt)
  rw [show ((Int32.ofNat r) * (16 : Int32)) = (Int32.ofNat (16 * r)) from (own_mul r 16).trans (by rw [Nat.mul_comm])] at pre10
  obtain ⟨T11, h11, k11, X11, e11, E11, A11, st11⟩ := newP X8 hx hZ (hw _ (List.mem_of_getElem? (i := 0) rfl)) e8 (g := (mkF m 18 #[.val (.ref a1), .val (.int (Int32.ofNat r))] [(.int (Int32.ofNat (16 * r))), (.ref a1)])) rfl (hb hby own_d1_18) rfl (own_nn (by omega)) (cap := 128) (by rw [own_nc (by omega)]; omega) (by decide) (by decide) (by decide)
  obtain ⟨b11, g11⟩ : ∃ z, z = h5.size := ⟨_, rfl⟩
  rw [← g11] at A11 st11
  have V_b11 : own_FA Z h11 b11 (16 * r) (fun _ => 0) := own_FA.new A11 (own_nc (by omega))
  have g_b11 : n0 ≤ b11 := Nat.le_trans (Nat.le_trans Z0 (Keep.of_wr W5).1) (Nat.le_of_eq g11.symm)
  have sz_b11 : h0.size ≤ b11 := (Nat.le_trans K5.1 (Nat.le_of_eq g11.symm))
  have K11 : Keep h0 h11 [a1] := K5.ext E11
  have pre12 : Goes p e below s₁ (entryFrame m #[(.ref a1), (.int (Int32.ofNat r))] 2) T11 (mkF m 20 #[.val (.ref a1), .val (.int (Int32.ofNat r))] [(.ref b11), (.ref a1)]) := fun t kt => pre10 t (st11 t kt)
  obtain ⟨T13, h13, X13, e13, W13, st13⟩ := putF X11 hx hZ hown (host := "") (Or.inl (hw _ (List.mem_of_getElem? (i := 16) rfl))) Via.refl e11 ((F_children.other W5 (Or.inr (slot_ne (Or.inl (hw _ (List.mem_of_getElem? (i := 17) rfl))) (Or.inr (hw _ (List.mem_of_getElem? (i := 11) rfl))) (by decide) (t := (.array .int)) (t' := .int) (by decide) (by decide)))).ext E11) ((E_a1.wr W5).ext E11) (Or.inl (hw _ (List.mem_of_getElem? (i := 17) rfl))) (hw _ (List.mem_of_getElem? (i := 2) rfl)) (ty := (.array .int)) (by decide) rfl rfl (g := (mkF m 20 #[.val (.ref a1), .val (.int (Int32.ofNat r))] [(.ref b11), (.ref a1)])) rfl rfl (hb hby own_d1_20)
  have Fw13 := ((F_children.other W5 (Or.inr (slot_ne (Or.inl (hw _ (List.mem_of_getElem? (i := 17) rfl))) (Or.inr (hw _ (List.mem_of_getElem? (i := 11) rfl))) (by decide) (t := (.array .int)) (t' := .int) (by decide) (by decide)))).ext E11).same W13
  have K13 : Keep h0 h13 [a1] := K11.wr W13 (Or.inl (List.mem_of_getElem? (i := 0) rfl))
  have N13 := Fr.snoc X13 N8 g_a1
  have pre14 : Goes p e below s₁ (entryFrame m #[(.ref a1), (.int (Int32.ofNat r))] 2) T13 (mkF m 23 #[.val (.ref a1), .val (.int (Int32.ofNat r))] []) := fun t kt => pre12 t (st13 t kt)
  have pre15 : Goes p e below s₁ (entryFrame m #[(.ref a1), (.int (Int32.ofNat r))] 2) T13 (mkF m 26 #[.val (.ref a1), .val (.int (Int32.ofNat r))] [(.int (16 : Int32)), (.ref a1)]) := fun t kt => pre14 t (by
      show Steps p.tables e below (T13.setTop (mkF m 23 #[.val (.ref a1), .val (.int (Int32.ofNat r))] [])) _
      refine XS.aloadN X13.here hx rfl (hb hby own_d1_23) rfl rfl ?_
      show Steps p.tables e below (T13.setTop (mkF m 24 #[.val (.ref a1), .val (.int (Int32.ofNat r))] [(.ref a1)])) _
      refine XS.bipush X13.here hx rfl (hb hby own_d1_24) ?_
      exact kt)
  obtain ⟨T16, h16, k16, X16, e16, E16, A16, st16⟩ := newP X13 hx hZ (hw _ (List.mem_of_getElem? (i := 0) rfl)) e13 (g := (mkF m 26 #[.val (.ref a1), .val (.int (Int32.ofNat r))] [(.int (16 : Int32)), (.ref a1)])) rfl (hb hby own_d1_26) rfl (by decide) (cap := 16) (by decide) (by decide) (by decide) (by decide)
  obtain ⟨b16, g16⟩ : ∃ z, z = h13.size := ⟨_, rfl⟩
  rw [← g16] at A16 st16
  have V_b16 : own_FA Z h16 b16 16 (fun _ => 0) := own_FA.new A16 (by decide)
  have g_b16 : n0 ≤ b16 := Nat.le_trans (Nat.le_trans (Nat.le_trans (Nat.le_trans Z0 (Keep.of_wr W5).1) E11.1) (Keep.of_wr W13).1) (Nat.le_of_eq g16.symm)
  have sz_b16 : h0.size ≤ b16 := (Nat.le_trans K13.1 (Nat.le_of_eq g16.symm))
  have K16 : Keep h0 h16 [a1] := K13.ext E16
  have pre17 : Goes p e below s₁ (entryFrame m #[(.ref a1), (.int (Int32.ofNat r))] 2) T16 (mkF m 28 #[.val (.ref a1), .val (.int (Int32.ofNat r))] [(.ref b16), (.ref a1)]) := fun t kt => pre15 t (st16 t kt)
  obtain ⟨T18, h18, X18, e18, W18, st18⟩ := putF X16 hx hZ hown (host := "") (Or.inl (hw _ (List.mem_of_getElem? (i := 18) rfl))) Via.refl e16 ((((F_roots.other W5 (Or.inr (slot_ne (Or.inl (hw _ (List.mem_of_getElem? (i := 19) rfl))) (Or.inr (hw _ (List.mem_of_getElem? (i := 11) rfl))) (by decide) (t := (.array .int)) (t' := .int) (by decide) (by decide)))).ext E11).other W13 (Or.inr (slot_ne (Or.inl (hw _ (List.mem_of_getElem? (i := 19) rfl))) (Or.inl (hw _ (List.mem_of_getElem? (i := 17) rfl))) (by decide) (t := (.array .int)) (t' := (.array .int)) (by decide) (by decide)))).ext E16) ((((E_a1.wr W5).ext E11).wr W13).ext E16) (Or.inl (hw _ (List.mem_of_getElem? (i := 19) rfl))) (hw _ (List.mem_of_getElem? (i := 2) rfl)) (ty := (.array .int)) (by decide) rfl rfl (g := (mkF m 28 #[.val (.ref a1), .val (.int (Int32.ofNat r))] [(.ref b16), (.ref a1)])) rfl rfl (hb hby own_d1_28)
  have Fw18 := ((((F_roots.other W5 (Or.inr (slot_ne (Or.inl (hw _ (List.mem_of_getElem? (i := 19) rfl))) (Or.inr (hw _ (List.mem_of_getElem? (i := 11) rfl))) (by decide) (t := (.array .int)) (t' := .int) (by decide) (by decide)))).ext E11).other W13 (Or.inr (slot_ne (Or.inl (hw _ (List.mem_of_getElem? (i := 19) rfl))) (Or.inl (hw _ (List.mem_of_getElem? (i := 17) rfl))) (by decide) (t := (.array .int)) (t' := (.array .int)) (by decide) (by decide)))).ext E16).same W18
  have K18 : Keep h0 h18 [a1] := K16.wr W18 (Or.inl (List.mem_of_getElem? (i := 0) rfl))
  have N18 := Fr.snoc X18 N13 g_a1
  have pre19 : Goes p e below s₁ (entryFrame m #[(.ref a1), (.int (Int32.ofNat r))] 2) T18 (mkF m 31 #[.val (.ref a1), .val (.int (Int32.ofNat r))] []) := fun t kt => pre17 t (st18 t kt)
  have pre20 : Goes p e below s₁ (entryFrame m #[(.ref a1), (.int (Int32.ofNat r))] 2) T18 (mkF m 34 #[.val (.ref a1), .val (.int (Int32.ofNat r))] [(.int (16 : Int32)), (.ref a1)]) := fun t kt => pre19 t (by
      show Steps p.tables e below (T18.setTop (mkF m 31 #[.val (.ref a1), .val (.int (Int32.ofNat r))] [])) _
      refine XS.aloadN X18.here hx rfl (hb hby own_d1_31) rfl rfl ?_
      show Steps p.tables e below (T18.setTop (mkF m 32 #[.val (.ref a1), .val (.int (Int32.ofNat r))] [(.ref a1)])) _
      refine XS.bipush X18.here hx rfl (hb hby own_d1_32) ?_
      exact kt)
  obtain ⟨T21, h21, k21, X21, e21, E21, A21, Q21, O21, st21⟩ := newRA X18 hx hZ hown (ty := .int) (C := "[I") rfl (hw _ (List.mem_of_getElem? (i := 20) rfl)) (hw _ (List.mem_of_getElem? (i := 21) rfl)) e18 (g := (mkF m 34 #[.val (.ref a1), .val (.int (Int32.ofNat r))] [(.int (16 : Int32)), (.ref a1)])) rfl (hb hby own_d1_34) rfl (by decide) (cap := 16) (by decide) (by decide) (by decide) (by decide) (ad := "[[I") rfl
  obtain ⟨b21, g21⟩ : ∃ z, z = h18.size := ⟨_, rfl⟩
  rw [← g21] at A21 st21
  have V_b21 : Arv Z h21 b21 k21 (.array .int) (16 : Int32) (List.replicate 16 .null) .null := (Arv.new A21 (by decide)).pad (pad_rep [] .null 16)
  have g_b21 : n0 ≤ b21 := Nat.le_trans (Nat.le_trans (Nat.le_trans (Nat.le_trans (Nat.le_trans (Nat.le_trans Z0 (Keep.of_wr W5).1) E11.1) (Keep.of_wr W13).1) E16.1) (Keep.of_wr W18).1) (Nat.le_of_eq g21.symm)
  have sz_b21 : h0.size ≤ b21 := (Nat.le_trans K18.1 (Nat.le_of_eq g21.symm))
  have K21 : Keep h0 h21 [a1] := K18.ext E21
  have pre22 : Goes p e below s₁ (entryFrame m #[(.ref a1), (.int (Int32.ofNat r))] 2) T21 (mkF m 37 #[.val (.ref a1), .val (.int (Int32.ofNat r))] [(.ref b21), (.ref a1)]) := fun t kt => pre20 t (st21 t kt)
  obtain ⟨T23, h23, X23, e23, W23, st23⟩ := putF X21 hx hZ hown (host := "") (Or.inl (hw _ (List.mem_of_getElem? (i := 22) rfl))) Via.refl e21 ((((((F_tags.other W5 (Or.inr (slot_ne (Or.inl (hw _ (List.mem_of_getElem? (i := 23) rfl))) (Or.inr (hw _ (List.mem_of_getElem? (i := 11) rfl))) (by decide) (t := (.array (.array .int))) (t' := .int) (by decide) (by decide)))).ext E11).other W13 (Or.inr (slot_ne (Or.inl (hw _ (List.mem_of_getElem? (i := 23) rfl))) (Or.inl (hw _ (List.mem_of_getElem? (i := 17) rfl))) (by decide) (t := (.array (.array .int))) (t' := (.array .int)) (by decide) (by decide)))).ext E16).other W18 (Or.inr (slot_ne (Or.inl (hw _ (List.mem_of_getElem? (i := 23) rfl))) (Or.inl (hw _ (List.mem_of_getElem? (i := 19) rfl))) (by decide) (t := (.array (.array .int))) (t' := (.array .int)) (by decide) (by decide)))).ext E21) ((((((E_a1.wr W5).ext E11).wr W13).ext E16).wr W18).ext E21) (Or.inl (hw _ (List.mem_of_getElem? (i := 23) rfl))) (hw _ (List.mem_of_getElem? (i := 2) rfl)) (ty := (.array (.array .int))) (by decide) rfl rfl (g := (mkF m 37 #[.val (.ref a1), .val (.int (Int32.ofNat r))] [(.ref b21), (.ref a1)])) rfl rfl (hb hby own_d1_37)
  have Fw23 := ((((((F_tags.other W5 (Or.inr (slot_ne (Or.inl (hw _ (List.mem_of_getElem? (i := 23) rfl))) (Or.inr (hw _ (List.mem_of_getElem? (i := 11) rfl))) (by decide) (t := (.array (.array .int))) (t' := .int) (by decide) (by decide)))).ext E11).other W13 (Or.inr (slot_ne (Or.inl (hw _ (List.mem_of_getElem? (i := 23) rfl))) (Or.inl (hw _ (List.mem_of_getElem? (i := 17) rfl))) (by decide) (t := (.array (.array .int))) (t' := (.array .int)) (by decide) (by decide)))).ext E16).other W18 (Or.inr (slot_ne (Or.inl (hw _ (List.mem_of_getElem? (i := 23) rfl))) (Or.inl (hw _ (List.mem_of_getElem? (i := 19) rfl))) (by decide) (t := (.array (.array .int))) (t' := (.array .int)) (by decide) (by decide)))).ext E21).same W23
  have K23 : Keep h0 h23 [a1] := K21.wr W23 (Or.inl (List.mem_of_getElem? (i := 0) rfl))
  have N23 := Fr.snoc X23 N18 g_a1
  have pre24 : Goes p e below s₁ (entryFrame m #[(.ref a1), (.int (Int32.ofNat r))] 2) T23 (mkF m 40 #[.val (.ref a1), .val (.int (Int32.ofNat r))] []) := fun t kt => pre22 t (st23 t kt)
  obtain ⟨fs, hr, hrun, hended, hW, hsame⟩ := X23.leave (v := none) (fun _ => rfl)
  refine ⟨_, _, pre24 _ ?_, hrun, hended, _, _, rfl, ?_, ⟨_, rfl⟩, hW, hsame.mono (by decide) (by decide)⟩
  · show Steps p.tables e below (T23.setTop (mkF m 40 #[.val (.ref a1), .val (.int (Int32.ofNat r))] [])) _
    exact X23.returnOut hx Bd.returns (hb hby own_d1_40) hr
  · show Q_own_init Z a1 r h0 n0 _ T23.heap _
    rw [e23]
    exact ⟨rfl, N23, K23, b11, b16, b21, k21, sz_b11, sz_b16, sz_b21, O21, (((((((E_a1.wr W5).ext E11).wr W13).ext E16).wr W18).ext E21).wr W23), ((((((Fw5.ext E11).other W13 (Or.inr (slot_ne (Or.inr (hw _ (List.mem_of_getElem? (i := 11) rfl))) (Or.inl (hw _ (List.mem_of_getElem? (i := 17) rfl))) (by decide) (t := .int) (t' := (.array .int)) (by decide) (by decide)))).ext E16).other W18 (Or.inr (slot_ne (Or.inr (hw _ (List.mem_of_getElem? (i := 11) rfl))) (Or.inl (hw _ (List.mem_of_getElem? (i := 19) rfl))) (by decide) (t := .int) (t' := (.array .int)) (by decide) (by decide)))).ext E21).other W23 (Or.inr (slot_ne (Or.inr (hw _ (List.mem_of_getElem? (i := 11) rfl))) (Or.inl (hw _ (List.mem_of_getElem? (i := 23) rfl))) (by decide) (t := .int) (t' := (.array (.array .int))) (by decide) (by decide)))), ((((Fw13.ext E16).other W18 (Or.inr (slot_ne (Or.inl (hw _ (List.mem_of_getElem? (i := 17) rfl))) (Or.inl (hw _ (List.mem_of_getElem? (i := 19) rfl))) (by decide) (t := (.array .int)) (t' := (.array .int)) (by decide) (by decide)))).ext E21).other W23 (Or.inr (slot_ne (Or.inl (hw _ (List.mem_of_getElem? (i := 17) rfl))) (Or.inl (hw _ (List.mem_of_getElem? (i := 23) rfl))) (by decide) (t := (.array .int)) (t' := (.array (.array .int))) (by decide) (by decide)))), ((Fw18.ext E21).other W23 (Or.inr (slot_ne (Or.inl (hw _ (List.mem_of_getElem? (i := 19) rfl))) (Or.inl (hw _ (List.mem_of_getElem? (i := 23) rfl))) (by decide) (t := (.array .int)) (t' := (.array (.array .int))) (by decide) (by decide)))), Fw23, (((((((F_size.other W5 (Or.inr (slot_ne (Or.inl (hw _ (List.mem_of_getElem? (i := 34) rfl))) (Or.inr (hw _ (List.mem_of_getElem? (i := 11) rfl))) (by decide) (t := .int) (t' := .int) (by decide) (by decide)))).ext E11).other W13 (Or.inr (slot_ne (Or.inl (hw _ (List.mem_of_getElem? (i := 34) rfl))) (Or.inl (hw _ (List.mem_of_getElem? (i := 17) rfl))) (by decide) (t := .int) (t' := (.array .int)) (by decide) (by decide)))).ext E16).other W18 (Or.inr (slot_ne (Or.inl (hw _ (List.mem_of_getElem? (i := 34) rfl))) (Or.inl (hw _ (List.mem_of_getElem? (i := 19) rfl))) (by decide) (t := .int) (t' := (.array .int)) (by decide) (by decide)))).ext E21).other W23 (Or.inr (slot_ne (Or.inl (hw _ (List.mem_of_getElem? (i := 34) rfl))) (Or.inl (hw _ (List.mem_of_getElem? (i := 23) rfl))) (by decide) (t := .int) (t' := (.array (.array .int))) (by decide) (by decide)))), (((((V_b11.other W13 (Ne.symm (Nat.ne_of_lt (Nat.lt_of_lt_of_le (E_a1.wr W5).lt (Nat.le_of_eq g11.symm))))).ext E16).other W18 (Ne.symm (Nat.ne_of_lt (Nat.lt_of_lt_of_le (E_a1.wr W5).lt (Nat.le_of_eq g11.symm))))).ext E21).other W23 (Ne.symm (Nat.ne_of_lt (Nat.lt_of_lt_of_le (E_a1.wr W5).lt (Nat.le_of_eq g11.symm))))), (((V_b16.other W18 (Ne.symm (Nat.ne_of_lt (Nat.lt_of_lt_of_le (((E_a1.wr W5).ext E11).wr W13).lt (Nat.le_of_eq g16.symm))))).ext E21).other W23 (Ne.symm (Nat.ne_of_lt (Nat.lt_of_lt_of_le (((E_a1.wr W5).ext E11).wr W13).lt (Nat.le_of_eq g16.symm))))), (V_b21.other W23 (Ne.symm (Nat.ne_of_lt (Nat.lt_of_lt_of_le (((((E_a1.wr W5).ext E11).wr W13).ext E16).wr W18).lt (Nat.le_of_eq g21.symm))))), g_a1, g_b11, g_b16, g_b21, (Nat.ne_of_lt (Nat.lt_of_lt_of_le (E_a1.wr W5).lt (Nat.le_of_eq g11.symm))), (Nat.ne_of_lt (Nat.lt_of_lt_of_le (((E_a1.wr W5).ext E11).wr W13).lt (Nat.le_of_eq g16.symm))), (Nat.ne_of_lt (Nat.lt_of_lt_of_le (((((E_a1.wr W5).ext E11).wr W13).ext E16).wr W18).lt (Nat.le_of_eq g21.symm))), (Nat.ne_of_lt (Nat.lt_of_lt_of_le (V_b11.other W13 (Ne.symm (Nat.ne_of_lt (Nat.lt_of_lt_of_le (E_a1.wr W5).lt (Nat.le_of_eq g11.symm))))).lt (Nat.le_of_eq g16.symm))), (Nat.ne_of_lt (Nat.lt_of_lt_of_le (((V_b11.other W13 (Ne.symm (Nat.ne_of_lt (Nat.lt_of_lt_of_le (E_a1.wr W5).lt (Nat.le_of_eq g11.symm))))).ext E16).other W18 (Ne.symm (Nat.ne_of_lt (Nat.lt_of_lt_of_le (E_a1.wr W5).lt (Nat.le_of_eq g11.symm))))).lt (Nat.le_of_eq g21.symm))), (Nat.ne_of_lt (Nat.lt_of_lt_of_le (V_b16.other W18 (Ne.symm (Nat.ne_of_lt (Nat.lt_of_lt_of_le (((E_a1.wr W5).ext E11).wr W13).lt (Nat.le_of_eq g16.symm))))).lt (Nat.le_of_eq g21.symm)))⟩

theorem own_d9_0 : decode prog_26_method_4_code 0 = .ok (.aload_n 0, 1) := by decide +kernel
theorem own_d9_1 : decode prog_26_method_4_code 1 = .ok (.getfield 19, 3) := by decide +kernel
theorem own_d9_4 : decode prog_26_method_4_code 4 = .ok (.iload_n 1, 1) := by decide +kernel
theorem own_d9_5 : decode prog_26_method_4_code 5 = .ok (.aload_n 0, 1) := by decide +kernel
theorem own_d9_6 : decode prog_26_method_4_code 6 = .ok (.getfield 7, 3) := by decide +kernel
theorem own_d9_9 : decode prog_26_method_4_code 9 = .ok (.imul, 1) := by decide +kernel
theorem own_d9_10 : decode prog_26_method_4_code 10 = .ok (.iload_n 2, 1) := by decide +kernel
theorem own_d9_11 : decode prog_26_method_4_code 11 = .ok (.iadd, 1) := by decide +kernel
theorem own_d9_12 : decode prog_26_method_4_code 12 = .ok (.iaload, 1) := by decide +kernel
theorem own_d9_13 : decode prog_26_method_4_code 13 = .ok (.ireturn, 1) := by decide +kernel
theorem own_pn_own_child : plainName "com/example/unicept/unicept/WordTrie" = true := by first | (simp [plainName, overriddenIn]; done) | decide +kernel
theorem own_ef_own_child (m : MethodId) (x0 : Addr) (x1 : Int32) (x2 : Int32) : entryFrame m #[(.ref x0), (.int x1), (.int x2)] 3 = mkF m 0 #[.val (.ref x0), .val (.int x1), .val (.int x2)] [] := by first | (simp [entryFrame, mkF, argsToLocals, Value.category]; done) | rfl
def Q_own_child (Z : State) (a1 : Addr) (r : Nat) (k : Nat) (ch : Addr) (f : Nat → Int32) (rt : Addr) (gg : Nat → Int32) (tg : Addr) (kt : ClassId) (vts : List Value) (nd : Nat) (ro : Nat) (h0 : Heap) (n0 : Nat) (v : Option Value) (h : Heap) (L : List Loc) : Prop := v = some (.int (f (nd * r + ro))) ∧ Fr n0 L ∧ h = h0
set_option maxRecDepth 65536 in
set_option maxHeartbeats 40000000 in
theorem own_child (l : Launch) (Z : State) (a0 : Array Value) (hw : ∀ d ∈ tables_1, d.before a0 Z = true) (ws : List Jvm.Cond) (a1 : Addr) (r : Nat) (k : Nat) (ch : Addr) (f : Nat → Int32) (rt : Addr) (gg : Nat → Int32) (tg : Addr) (kt : ClassId) (vts : List Value) (nd : Nat) (ro : Nat) (h0 : Heap) (n0 : Nat) (Z0 : n0 ≤ h0.size) (hT : own_TR Z h0 n0 a1 r k ch f rt gg tg kt vts) (hr8 : r ≤ 8) (hnd : nd * r + ro < 16 * r) :
    MetFree l (⟨"com/example/unicept/unicept/WordTrie", "child", "(II)I"⟩ : MethodName) (head1 (Jvm.Cond.code (⟨"com/example/unicept/unicept/WordTrie", "child", "(II)I"⟩ : MethodName) prog_26_method_4_code 3 (some .int) :: ws) ({ frames := 0, cells := 0, slots := 0, locals := 0 } : Room)) (fun a U => a = #[(.ref a1), (.int (Int32.ofNat nd)), (.int (Int32.ofNat ro))] ∧ Z.Warmed39 U.vm ∧ U.heap = h0) (fun _ _ _ _ _ => True) (fun _ U o U' => ∃ v L, o = .returned v ∧ Q_own_child Z a1 r k ch f rt gg tg kt vts nd ro h0 n0 v U'.heap L ∧ FrameEnd U o U' L ({ frames := 0, cells := 0, slots := 0, locals := 0 } : Room).cells ({ frames := 0, cells := 0, slots := 0, locals := 0 } : Room).slots) := by
  refine MetFree.of_bodySF (plainFor_of_name own_pn_own_child) hisR ?_
  intro p e s m args below meth c s₁ Bd hml0 hP hK
  obtain ⟨rfl, hZ, hh⟩ := hP
  have hx := Bd.exec
  have hby := Bd.bytes
  have hml : c.maxLocals = 3 := hml0
  have hown : s.vm.findClass "com/example/unicept/unicept/WordTrie" = some m.cls := findClass_of_methodNamed Bd.named
  have hnm := (name_of_methodNamed Bd.named Bd.method).1
  have X0 : Stand p l e ({ frames := 0, cells := 0, slots := 0, locals := 0 } : Room) s m #[(.ref a1), (.int (Int32.ofNat nd)), (.int (Int32.ofNat ro))] below meth c s₁ [] 0 0 := Stand.of_body Bd
  have e0 : s₁.heap = h0 := by rw [← hh, Bd.state]; rfl
  have N0 := Fr.nil n0
  have pre0 : Goes p e below s₁ (entryFrame m #[(.ref a1), (.int (Int32.ofNat nd)), (.int (Int32.ofNat ro))] 3) s₁ (mkF m 0 #[.val (.ref a1), .val (.int (Int32.ofNat nd)), .val (.int (Int32.ofNat ro))] []) := fun t k => castTop (own_ef_own_child m a1 (Int32.ofNat nd) (Int32.ofNat ro)) k
  obtain ⟨E_a1, F_roles, F_children, F_roots, F_tags, F_size, V_ch, V_rt, V_tg, g_a1, g_ch, g_rt, g_tg, nac, nar, nat, ncr, nct, nrt⟩ := hT
  have pre1 : Goes p e below s₁ (entryFrame m #[(.ref a1), (.int (Int32.ofNat nd)), (.int (Int32.ofNat ro))] 3) s₁ (mkF m 1 #[.val (.ref a1), .val (.int (Int32.ofNat nd)), .val (.int (Int32.ofNat ro))] [(.ref a1)]) := fun t kt => pre0 t (by
      show Steps p.tables e below (s₁.setTop (mkF m 0 #[.val (.ref a1), .val (.int (Int32.ofNat nd)), .val (.int (Int32.ofNat ro))] [])) _
      refine XS.aloadN X0.here hx rfl (hb hby own_d9_0) rfl rfl ?_
      exact kt)
  obtain ⟨T2, X2, e2, st2⟩ := getF X0 hx hZ hown (host := "") (Or.inl (hw _ (List.mem_of_getElem? (i := 16) rfl))) Via.refl e0 F_children (g := (mkF m 1 #[.val (.ref a1), .val (.int (Int32.ofNat nd)), .val (.int (Int32.ofNat ro))] [(.ref a1)])) rfl rfl (hb hby own_d9_1)
  have pre3 : Goes p e below s₁ (entryFrame m #[(.ref a1), (.int (Int32.ofNat nd)), (.int (Int32.ofNat ro))] 3) T2 (mkF m 4 #[.val (.ref a1), .val (.int (Int32.ofNat nd)), .val (.int (Int32.ofNat ro))] [(.ref ch)]) := fun t kt => pre1 t (st2 t kt)
  have pre4 : Goes p e below s₁ (entryFrame m #[(.ref a1), (.int (Int32.ofNat nd)), (.int (Int32.ofNat ro))] 3) T2 (mkF m 6 #[.val (.ref a1), .val (.int (Int32.ofNat nd)), .val (.int (Int32.ofNat ro))] [(.ref a1), (.int (Int32.ofNat nd)), (.ref ch)]) := fun t kt => pre3 t (by
      show Steps p.tables e below (T2.setTop (mkF m 4 #[.val (.ref a1), .val (.int (Int32.ofNat nd)), .val (.int (Int32.ofNat ro))] [(.ref ch)])) _
      refine XS.iloadN X2.here hx rfl (hb hby own_d9_4) rfl ?_
      show Steps p.tables e below (T2.setTop (mkF m 5 #[.val (.ref a1), .val (.int (Int32.ofNat nd)), .val (.int (Int32.ofNat ro))] [(.int (Int32.ofNat nd)), (.ref ch)])) _
      refine XS.aloadN X2.here hx rfl (hb hby own_d9_5) rfl rfl ?_
      exact kt)
  obtain ⟨T5, X5, e5, st5⟩ := getF X2 hx hZ hown (host := "") (Or.inl (hw _ (List.mem_of_getElem? (i := 10) rfl))) Via.refl e2 F_roles (g := (mkF m 6 #[.val (.ref a1), .val (.int (Int32.ofNat nd)), .val (.int (Int32.ofNat ro))] [(.ref a1), (.int (Int32.ofNat nd)), (.ref ch)])) rfl rfl (hb hby own_d9_6)
  have pre6 : Goes p e below s₁ (entryFrame m #[(.ref a1), (.int (Int32.ofNat nd)), (.int (Int32.ofNat ro))] 3) T5 (mkF m 9 #[.val (.ref a1), .val (.int (Int32.ofNat nd)), .val (.int (Int32.ofNat ro))] [(.int (Int32.ofNat r)), (.int (Int32.ofNat nd)), (.ref ch)]) := fun t kt => pre4 t (st5 t kt)
  have pre7 : Goes p e below s₁ (entryFrame m #[(.ref a1), (.int (Int32.ofNat nd)), (.int (Int32.ofNat ro))] 3) T5 (mkF m 12 #[.val (.ref a1), .val (.int (Int32.ofNat nd)), .val (.int (Int32.ofNat ro))] [(.int (((Int32.ofNat nd) * (Int32.ofNat r)) + (Int32.ofNat ro))), (.ref ch)]) := fun t kt => pre6 t (by
      show Steps p.tables e below (T5.setTop (mkF m 9 #[.val (.ref a1), .val (.int (Int32.ofNat nd)), .val (.int (Int32.ofNat ro))] [(.int (Int32.ofNat r)), (.int (Int32.ofNat nd)), (.ref ch)])) _
      refine XS.imul X5.here hx rfl (hb hby own_d9_9) rfl ?_
      show Steps p.tables e below (T5.setTop (mkF m 10 #[.val (.ref a1), .val (.int (Int32.ofNat nd)), .val (.int (Int32.ofNat ro))] [(.int ((Int32.ofNat nd) * (Int32.ofNat r))), (.ref ch)])) _
      refine XS.iloadN X5.here hx rfl (hb hby own_d9_10) rfl ?_
      show Steps p.tables e below (T5.setTop (mkF m 11 #[.val (.ref a1), .val (.int (Int32.ofNat nd)), .val (.int (Int32.ofNat ro))] [(.int (Int32.ofNat ro)), (.int ((Int32.ofNat nd) * (Int32.ofNat r))), (.ref ch)])) _
      refine XS.iadd X5.here hx rfl (hb hby own_d9_11) rfl ?_
      exact kt)
  rw [show ((Int32.ofNat nd) * (Int32.ofNat r)) = (Int32.ofNat (nd * r)) from own_mul nd r] at pre7
  rw [show ((Int32.ofNat (nd * r)) + (Int32.ofNat ro)) = (Int32.ofNat (nd * r + ro)) from own_add (nd * r) ro] at pre7
  obtain ⟨cl8, Ar8, S8, H8⟩ := (id (V_ch))
  have hlt8 : (nd * r + ro) < (16 * r) := hnd
  have hin8 : ¬ ((Int32.ofNat (nd * r + ro)) < 0 ∨ cl8.slots.size ≤ ((Int32.ofNat (nd * r + ro))).toNatClampNeg) := own_in S8 hlt8 (by omega)
  have hat8 : cl8.slots[((Int32.ofNat (nd * r + ro))).toNatClampNeg]? = some (.int (f (nd * r + ro))) := own_at H8 hlt8 (by omega)
  have pre9 : Goes p e below s₁ (entryFrame m #[(.ref a1), (.int (Int32.ofNat nd)), (.int (Int32.ofNat ro))] 3) T5 (mkF m 13 #[.val (.ref a1), .val (.int (Int32.ofNat nd)), .val (.int (Int32.ofNat ro))] [(.int (f (nd * r + ro)))]) := fun t kt => pre7 t (by
      show Steps p.tables e below (T5.setTop (mkF m 12 #[.val (.ref a1), .val (.int (Int32.ofNat nd)), .val (.int (Int32.ofNat ro))] [(.int (Int32.ofNat (nd * r + ro))), (.ref ch)])) _
      refine X5.iaload hx (j := (Int32.ofNat (nd * r + ro))) (v := (.int (f (nd * r + ro)))) (by (try rw [e5]); exact Ar8.1) (State.isArrayOf_alike hZ.alike Ar8.2.1) Ar8.2.2 hin8 hat8 (g := (mkF m 12 #[.val (.ref a1), .val (.int (Int32.ofNat nd)), .val (.int (Int32.ofNat ro))] [(.int (Int32.ofNat (nd * r + ro))), (.ref ch)])) rfl rfl (hb hby own_d9_12) _ ?_
      exact kt)
  obtain ⟨fs, hr, hrun, hended, hW, hsame⟩ := X5.leave (v := some (.int (f (nd * r + ro)))) (fun h => by rw [Bd.returns] at h; cases h)
  refine ⟨_, _, pre9 _ ?_, hrun, hended, _, _, rfl, ?_, ⟨_, rfl⟩, hW, hsame.mono (by decide) (by decide)⟩
  · show Steps p.tables e below (T5.setTop (mkF m 13 #[.val (.ref a1), .val (.int (Int32.ofNat nd)), .val (.int (Int32.ofNat ro))] [(.int (f (nd * r + ro)))])) _
    exact retI X5 hx Bd.returns (hb hby own_d9_13) hr
  · show Q_own_child Z a1 r k ch f rt gg tg kt vts nd ro h0 n0 _ T5.heap _
    rw [e5]
    exact ⟨rfl, N0, rfl⟩

theorem own_daddown_add2_0 : decode prog_26_method_3_code 0 = .ok (.iload_n 1, 1) := by decide +kernel
theorem own_daddown_add2_1 : decode prog_26_method_3_code 1 = .ok (.istore_n 3, 1) := by decide +kernel
theorem own_daddown_add2_2 : decode prog_26_method_3_code 2 = .ok (.aload_n 2, 1) := by decide +kernel
theorem own_daddown_add2_3 : decode prog_26_method_3_code 3 = .ok (.astore 4, 2) := by decide +kernel
theorem own_daddown_add2_5 : decode prog_26_method_3_code 5 = .ok (.aload 4, 2) := by decide +kernel
theorem own_daddown_add2_7 : decode prog_26_method_3_code 7 = .ok (.arraylength, 1) := by decide +kernel
theorem own_daddown_add2_8 : decode prog_26_method_3_code 8 = .ok (.istore 5, 2) := by decide +kernel
theorem own_daddown_add2_10 : decode prog_26_method_3_code 10 = .ok (.iconst 0, 1) := by decide +kernel
theorem own_daddown_add2_11 : decode prog_26_method_3_code 11 = .ok (.istore 6, 2) := by decide +kernel
theorem own_daddown_add2_13 : decode prog_26_method_3_code 13 = .ok (.iload 6, 2) := by decide +kernel
theorem own_daddown_add2_15 : decode prog_26_method_3_code 15 = .ok (.iload 5, 2) := by decide +kernel
theorem own_daddown_add2_17 : decode prog_26_method_3_code 17 = .ok (.if_icmp .ge 69, 3) := by decide +kernel
theorem own_daddown_add2_20 : decode prog_26_method_3_code 20 = .ok (.aload 4, 2) := by decide +kernel
theorem own_daddown_add2_22 : decode prog_26_method_3_code 22 = .ok (.iload 6, 2) := by decide +kernel
theorem own_daddown_add2_24 : decode prog_26_method_3_code 24 = .ok (.iaload, 1) := by decide +kernel
theorem own_daddown_add2_25 : decode prog_26_method_3_code 25 = .ok (.istore 7, 2) := by decide +kernel
theorem own_daddown_add2_27 : decode prog_26_method_3_code 27 = .ok (.aload_n 0, 1) := by decide +kernel
theorem own_daddown_add2_28 : decode prog_26_method_3_code 28 = .ok (.iload_n 3, 1) := by decide +kernel
theorem own_daddown_add2_29 : decode prog_26_method_3_code 29 = .ok (.iload 7, 2) := by decide +kernel
theorem own_daddown_add2_31 : decode prog_26_method_3_code 31 = .ok (.invokevirtual 35, 3) := by decide +kernel
theorem own_daddown_add2_34 : decode prog_26_method_3_code 34 = .ok (.istore 8, 2) := by decide +kernel
theorem own_daddown_add2_36 : decode prog_26_method_3_code 36 = .ok (.iload 8, 2) := by decide +kernel
theorem own_daddown_add2_38 : decode prog_26_method_3_code 38 = .ok (.iconst (-1), 1) := by decide +kernel
theorem own_daddown_add2_39 : decode prog_26_method_3_code 39 = .ok (.if_icmp .ne 38, 3) := by decide +kernel
theorem own_daddown_add2_42 : decode prog_26_method_3_code 42 = .ok (.aload_n 0, 1) := by decide +kernel
theorem own_daddown_add2_43 : decode prog_26_method_3_code 43 = .ok (.invokevirtual 31, 3) := by decide +kernel
theorem own_daddown_add2_46 : decode prog_26_method_3_code 46 = .ok (.istore 8, 2) := by decide +kernel
theorem own_daddown_add2_48 : decode prog_26_method_3_code 48 = .ok (.aload_n 0, 1) := by decide +kernel
theorem own_daddown_add2_49 : decode prog_26_method_3_code 49 = .ok (.getfield 19, 3) := by decide +kernel
theorem own_daddown_add2_52 : decode prog_26_method_3_code 52 = .ok (.iload_n 3, 1) := by decide +kernel
theorem own_daddown_add2_53 : decode prog_26_method_3_code 53 = .ok (.aload_n 0, 1) := by decide +kernel
theorem own_daddown_add2_54 : decode prog_26_method_3_code 54 = .ok (.getfield 7, 3) := by decide +kernel
theorem own_daddown_add2_57 : decode prog_26_method_3_code 57 = .ok (.imul, 1) := by decide +kernel
theorem own_daddown_add2_58 : decode prog_26_method_3_code 58 = .ok (.iload 7, 2) := by decide +kernel
theorem own_daddown_add2_60 : decode prog_26_method_3_code 60 = .ok (.iadd, 1) := by decide +kernel
theorem own_daddown_add2_61 : decode prog_26_method_3_code 61 = .ok (.iload 8, 2) := by decide +kernel
theorem own_daddown_add2_63 : decode prog_26_method_3_code 63 = .ok (.iastore, 1) := by decide +kernel
theorem own_daddown_add2_64 : decode prog_26_method_3_code 64 = .ok (.aload_n 0, 1) := by decide +kernel
theorem own_daddown_add2_65 : decode prog_26_method_3_code 65 = .ok (.getfield 23, 3) := by decide +kernel
theorem own_daddown_add2_68 : decode prog_26_method_3_code 68 = .ok (.iload 8, 2) := by decide +kernel
theorem own_daddown_add2_70 : decode prog_26_method_3_code 70 = .ok (.aload_n 0, 1) := by decide +kernel
theorem own_daddown_add2_71 : decode prog_26_method_3_code 71 = .ok (.getfield 23, 3) := by decide +kernel
theorem own_daddown_add2_74 : decode prog_26_method_3_code 74 = .ok (.iload_n 3, 1) := by decide +kernel
theorem own_daddown_add2_75 : decode prog_26_method_3_code 75 = .ok (.iaload, 1) := by decide +kernel
theorem own_daddown_add2_76 : decode prog_26_method_3_code 76 = .ok (.iastore, 1) := by decide +kernel
theorem own_daddown_add2_77 : decode prog_26_method_3_code 77 = .ok (.iload 8, 2) := by decide +kernel
theorem own_daddown_add2_79 : decode prog_26_method_3_code 79 = .ok (.istore_n 3, 1) := by decide +kernel
theorem own_daddown_add2_80 : decode prog_26_method_3_code 80 = .ok (.iinc 6 1, 3) := by decide +kernel
theorem own_daddown_add2_83 : decode prog_26_method_3_code 83 = .ok (.goto (-70), 3) := by decide +kernel
theorem own_daddown_add2_86 : decode prog_26_method_3_code 86 = .ok (.iload_n 3, 1) := by decide +kernel
theorem own_daddown_add2_87 : decode prog_26_method_3_code 87 = .ok (.ireturn, 1) := by decide +kernel
theorem own_pn_own_add2 : plainName "com/example/unicept/unicept/WordTrie" = true := by first | (simp [plainName, overriddenIn]; done) | decide +kernel
theorem own_ef_own_add2 (m : MethodId) (x0 : Addr) (x1 : Int32) (x2 : Addr) : entryFrame m #[(.ref x0), (.int x1), (.ref x2)] 9 = mkF m 0 #[.val (.ref x0), .val (.int x1), .val (.ref x2), .unset, .unset, .unset, .unset, .unset, .unset] [] := by first | (simp [entryFrame, mkF, argsToLocals, Value.category]; done) | rfl
def Q_own_add2 (Z : State) (a1 : Addr) (r : Nat) (k : Nat) (ch : Addr) (f : Nat → Int32) (rt : Addr) (gg : Nat → Int32) (tg : Addr) (kt : ClassId) (vts : List Value) (nd : Nat) (qw1 : Nat) (qw2 : Nat) (wd : Addr) (kw : ClassId) (h0 : Heap) (n0 : Nat) (v : Option Value) (h : Heap) (L : List Loc) : Prop := v = some (.int (Int32.ofNat (k + 1))) ∧ Fr n0 L ∧ Keep h0 h [a1, ch, rt] ∧ own_TR Z h n0 a1 r (k + 1 + 1) ch (own_ad (own_ad f r k nd qw1) r (k + 1) k qw2) rt (own_up (own_up gg k (gg nd)) (k + 1) ((own_up gg k (gg nd)) k)) tg kt vts
set_option maxRecDepth 65536 in
set_option maxHeartbeats 40000000 in
theorem own_add2 (l : Launch) (Z : State) (a0 : Array Value) (hw : ∀ d ∈ tables_1, d.before a0 Z = true) (ws : List Jvm.Cond) (a1 : Addr) (r : Nat) (k : Nat) (ch : Addr) (f : Nat → Int32) (rt : Addr) (gg : Nat → Int32) (tg : Addr) (kt : ClassId) (vts : List Value) (nd : Nat) (qw1 : Nat) (qw2 : Nat) (wd : Addr) (kw : ClassId) (h0 : Heap) (n0 : Nat) (Z0 : n0 ≤ h0.size) (hT : own_TR Z h0 n0 a1 r k ch f rt gg tg kt vts) (hr1 : 1 ≤ r) (hr8 : r ≤ 8) (hk : k + 2 ≤ 16) (hnd : nd < k) (hq1 : qw1 < r) (hq2 : qw2 < r) (V_wd : Arv Z h0 wd kw .int (2 : Int32) [(.int (Int32.ofNat qw1)), (.int (Int32.ofNat qw2))] (.int (0 : Int32))) (nwa : wd ≠ a1) (nwc : wd ≠ ch) (nwr : wd ≠ rt) (hf : f (nd * r + qw1) = -1) :
    MetFree l (⟨"com/example/unicept/unicept/WordTrie", "add", "(I[I)I"⟩ : MethodName) (head1 (Jvm.Cond.code (⟨"com/example/unicept/unicept/WordTrie", "add", "(I[I)I"⟩ : MethodName) prog_26_method_3_code 9 (some .int) :: ws) ({ frames := 3, cells := 0, slots := 0, locals := 43 } : Room)) (fun a U => a = #[(.ref a1), (.int (Int32.ofNat nd)), (.ref wd)] ∧ Z.Warmed39 U.vm ∧ U.heap = h0) (fun _ _ _ _ _ => True) (fun _ U o U' => ∃ v L, o = .returned v ∧ Q_own_add2 Z a1 r k ch f rt gg tg kt vts nd qw1 qw2 wd kw h0 n0 v U'.heap L ∧ FrameEnd U o U' L ({ frames := 3, cells := 0, slots := 0, locals := 43 } : Room).cells ({ frames := 3, cells := 0, slots := 0, locals := 43 } : Room).slots) := by
  refine MetFree.of_bodySF (plainFor_of_name own_pn_own_add2) hisR ?_
  intro p e s m args below meth c s₁ Bd hml0 hP hK
  obtain ⟨rfl, hZ, hh⟩ := hP
  have hx := Bd.exec
  have hby := Bd.bytes
  have hml : c.maxLocals = 9 := hml0
  have hown : s.vm.findClass "com/example/unicept/unicept/WordTrie" = some m.cls := findClass_of_methodNamed Bd.named
  have hnm := (name_of_methodNamed Bd.named Bd.method).1
  have X0 : Stand p l e ({ frames := 3, cells := 0, slots := 0, locals := 43 } : Room) s m #[(.ref a1), (.int (Int32.ofNat nd)), (.ref wd)] below meth c s₁ [] 0 0 := Stand.of_body Bd
  have e0 : s₁.heap = h0 := by rw [← hh, Bd.state]; rfl
  have N0 := Fr.nil n0
  have pre0 : Goes p e below s₁ (entryFrame m #[(.ref a1), (.int (Int32.ofNat nd)), (.ref wd)] 9) s₁ (mkF m 0 #[.val (.ref a1), .val (.int (Int32.ofNat nd)), .val (.ref wd), .unset, .unset, .unset, .unset, .unset, .unset] []) := fun t k => castTop (own_ef_own_add2 m a1 (Int32.ofNat nd) wd) k
  have hT0 := hT
  obtain ⟨E_a1, F_roles, F_children, F_roots, F_tags, F_size, V_ch, V_rt, V_tg, g_a1, g_ch, g_rt, g_tg, nac, nar, nat, ncr, nct, nrt⟩ := hT
  have pre1 : Goes p e below s₁ (entryFrame m #[(.ref a1), (.int (Int32.ofNat nd)), (.ref wd)] 9) s₁ (mkF m 7 #[.val (.ref a1), .val (.int (Int32.ofNat nd)), .val (.ref wd), .val (.int (Int32.ofNat nd)), .val (.ref wd), .unset, .unset, .unset, .unset] [(.ref wd)]) := fun t kt => pre0 t (by
      show Steps p.tables e below (s₁.setTop (mkF m 0 #[.val (.ref a1), .val (.int (Int32.ofNat nd)), .val (.ref wd), .unset, .unset, .unset, .unset, .unset, .unset] [])) _
      refine XS.iloadN X0.here hx rfl (hb hby own_daddown_add2_0) rfl ?_
      show Steps p.tables e below (s₁.setTop (mkF m 1 #[.val (.ref a1), .val (.int (Int32.ofNat nd)), .val (.ref wd), .unset, .unset, .unset, .unset, .unset, .unset] [(.int (Int32.ofNat nd))])) _
      refine XS.istoreN X0.here hx rfl (hb hby own_daddown_add2_1) rfl (l' := #[.val (.ref a1), .val (.int (Int32.ofNat nd)), .val (.ref wd), .val (.int (Int32.ofNat nd)), .unset, .unset, .unset, .unset, .unset]) rfl ?_
      show Steps p.tables e below (s₁.setTop (mkF m 2 #[.val (.ref a1), .val (.int (Int32.ofNat nd)), .val (.ref wd), .val (.int (Int32.ofNat nd)), .unset, .unset, .unset, .unset, .unset] [])) _
      refine XS.aloadN X0.here hx rfl (hb hby own_daddown_add2_2) rfl rfl ?_
      show Steps p.tables e below (s₁.setTop (mkF m 3 #[.val (.ref a1), .val (.int (Int32.ofNat nd)), .val (.ref wd), .val (.int (Int32.ofNat nd)), .unset, .unset, .unset, .unset, .unset] [(.ref wd)])) _
      refine XS.astore X0.here hx rfl (hb hby own_daddown_add2_3) rfl rfl (l' := #[.val (.ref a1), .val (.int (Int32.ofNat nd)), .val (.ref wd), .val (.int (Int32.ofNat nd)), .val (.ref wd), .unset, .unset, .unset, .unset]) rfl ?_
      show Steps p.tables e below (s₁.setTop (mkF m 5 #[.val (.ref a1), .val (.int (Int32.ofNat nd)), .val (.ref wd), .val (.int (Int32.ofNat nd)), .val (.ref wd), .unset, .unset, .unset, .unset] [])) _
      refine XS.aload X0.here hx rfl (hb hby own_daddown_add2_5) rfl rfl ?_
      exact kt)
  obtain ⟨cl2, Ar2, q2, S2, N_2, H2, G2⟩ := (id (V_wd))
  have pre3 : Goes p e below s₁ (entryFrame m #[(.ref a1), (.int (Int32.ofNat nd)), (.ref wd)] 9) s₁ (mkF m 24 #[.val (.ref a1), .val (.int (Int32.ofNat nd)), .val (.ref wd), .val (.int (Int32.ofNat nd)), .val (.ref wd), .val (.int (2 : Int32)), .val (.int (0 : Int32)), .unset, .unset] [(.int (0 : Int32)), (.ref wd)]) := fun t kt => pre1 t (by
      show Steps p.tables e below (s₁.setTop (mkF m 7 #[.val (.ref a1), .val (.int (Int32.ofNat nd)), .val (.ref wd), .val (.int (Int32.ofNat nd)), .val (.ref wd), .unset, .unset, .unset, .unset] [(.ref wd)])) _
      refine X0.arraylength hx (by (try rw [e0]); exact Ar2.1) (State.isArrayOf_alike hZ.alike Ar2.2.1) (g := (mkF m 7 #[.val (.ref a1), .val (.int (Int32.ofNat nd)), .val (.ref wd), .val (.int (Int32.ofNat nd)), .val (.ref wd), .unset, .unset, .unset, .unset] [(.ref wd)])) rfl rfl (hb hby own_daddown_add2_7) _ ?_
      rw [len_of S2 N_2]
      show Steps p.tables e below (s₁.setTop (mkF m 8 #[.val (.ref a1), .val (.int (Int32.ofNat nd)), .val (.ref wd), .val (.int (Int32.ofNat nd)), .val (.ref wd), .unset, .unset, .unset, .unset] [(.int (2 : Int32))])) _
      refine XS.istore X0.here hx rfl (hb hby own_daddown_add2_8) rfl (l' := #[.val (.ref a1), .val (.int (Int32.ofNat nd)), .val (.ref wd), .val (.int (Int32.ofNat nd)), .val (.ref wd), .val (.int (2 : Int32)), .unset, .unset, .unset]) rfl ?_
      show Steps p.tables e below (s₁.setTop (mkF m 10 #[.val (.ref a1), .val (.int (Int32.ofNat nd)), .val (.ref wd), .val (.int (Int32.ofNat nd)), .val (.ref wd), .val (.int (2 : Int32)), .unset, .unset, .unset] [])) _
      refine XS.iconst X0.here hx rfl (hb hby own_daddown_add2_10) ?_
      show Steps p.tables e below (s₁.setTop (mkF m 11 #[.val (.ref a1), .val (.int (Int32.ofNat nd)), .val (.ref wd), .val (.int (Int32.ofNat nd)), .val (.ref wd), .val (.int (2 : Int32)), .unset, .unset, .unset] [(.int (0 : Int32))])) _
      refine XS.istore X0.here hx rfl (hb hby own_daddown_add2_11) rfl (l' := #[.val (.ref a1), .val (.int (Int32.ofNat nd)), .val (.ref wd), .val (.int (Int32.ofNat nd)), .val (.ref wd), .val (.int (2 : Int32)), .val (.int (0 : Int32)), .unset, .unset]) rfl ?_
      show Steps p.tables e below (s₁.setTop (mkF m 13 #[.val (.ref a1), .val (.int (Int32.ofNat nd)), .val (.ref wd), .val (.int (Int32.ofNat nd)), .val (.ref wd), .val (.int (2 : Int32)), .val (.int (0 : Int32)), .unset, .unset] [])) _
      refine XS.iload X0.here hx rfl (hb hby own_daddown_add2_13) rfl ?_
      show Steps p.tables e below (s₁.setTop (mkF m 15 #[.val (.ref a1), .val (.int (Int32.ofNat nd)), .val (.ref wd), .val (.int (Int32.ofNat nd)), .val (.ref wd), .val (.int (2 : Int32)), .val (.int (0 : Int32)), .unset, .unset] [(.int (0 : Int32))])) _
      refine XS.iload X0.here hx rfl (hb hby own_daddown_add2_15) rfl ?_
      show Steps p.tables e below (s₁.setTop (mkF m 17 #[.val (.ref a1), .val (.int (Int32.ofNat nd)), .val (.ref wd), .val (.int (Int32.ofNat nd)), .val (.ref wd), .val (.int (2 : Int32)), .val (.int (0 : Int32)), .unset, .unset] [(.int (2 : Int32)), (.int (0 : Int32))])) _
      refine XS.icmpNo X0.here hx rfl (hb hby own_daddown_add2_17) rfl (tlt (by decide : (0 : Int32) < (2 : Int32))).2.1 ?_
      show Steps p.tables e below (s₁.setTop (mkF m 20 #[.val (.ref a1), .val (.int (Int32.ofNat nd)), .val (.ref wd), .val (.int (Int32.ofNat nd)), .val (.ref wd), .val (.int (2 : Int32)), .val (.int (0 : Int32)), .unset, .unset] [])) _
      refine XS.aload X0.here hx rfl (hb hby own_daddown_add2_20) rfl rfl ?_
      show Steps p.tables e below (s₁.setTop (mkF m 22 #[.val (.ref a1), .val (.int (Int32.ofNat nd)), .val (.ref wd), .val (.int (Int32.ofNat nd)), .val (.ref wd), .val (.int (2 : Int32)), .val (.int (0 : Int32)), .unset, .unset] [(.ref wd)])) _
      refine XS.iload X0.here hx rfl (hb hby own_daddown_add2_22) rfl ?_
      exact kt)
  obtain ⟨cl4, Ar4, q4, S4, N_4, H4, G4⟩ := (id (V_wd))
  have hin4 : ¬ ((0 : Int32) < 0 ∨ cl4.slots.size ≤ ((0 : Int32)).toNatClampNeg) := inb_of S4 ⟨by decide, by decide⟩
  have hat4 : cl4.slots[((0 : Int32)).toNatClampNeg]? = some (.int (Int32.ofNat qw1)) := Has.at H4 hin4 rfl
  have pre5 : Goes p e below s₁ (entryFrame m #[(.ref a1), (.int (Int32.ofNat nd)), (.ref wd)] 9) s₁ (mkF m 31 #[.val (.ref a1), .val (.int (Int32.ofNat nd)), .val (.ref wd), .val (.int (Int32.ofNat nd)), .val (.ref wd), .val (.int (2 : Int32)), .val (.int (0 : Int32)), .val (.int (Int32.ofNat qw1)), .unset] [(.int (Int32.ofNat qw1)), (.int (Int32.ofNat nd)), (.ref a1)]) := fun t kt => pre3 t (by
      show Steps p.tables e below (s₁.setTop (mkF m 24 #[.val (.ref a1), .val (.int (Int32.ofNat nd)), .val (.ref wd), .val (.int (Int32.ofNat nd)), .val (.ref wd), .val (.int (2 : Int32)), .val (.int (0 : Int32)), .unset, .unset] [(.int (0 : Int32)), (.ref wd)])) _
      refine X0.iaload hx (j := (0 : Int32)) (v := (.int (Int32.ofNat qw1))) (by (try rw [e0]); exact Ar4.1) (State.isArrayOf_alike hZ.alike Ar4.2.1) Ar4.2.2 hin4 hat4 (g := (mkF m 24 #[.val (.ref a1), .val (.int (Int32.ofNat nd)), .val (.ref wd), .val (.int (Int32.ofNat nd)), .val (.ref wd), .val (.int (2 : Int32)), .val (.int (0 : Int32)), .unset, .unset] [(.int (0 : Int32)), (.ref wd)])) rfl rfl (hb hby own_daddown_add2_24) _ ?_
      show Steps p.tables e below (s₁.setTop (mkF m 25 #[.val (.ref a1), .val (.int (Int32.ofNat nd)), .val (.ref wd), .val (.int (Int32.ofNat nd)), .val (.ref wd), .val (.int (2 : Int32)), .val (.int (0 : Int32)), .unset, .unset] [(.int (Int32.ofNat qw1))])) _
      refine XS.istore X0.here hx rfl (hb hby own_daddown_add2_25) rfl (l' := #[.val (.ref a1), .val (.int (Int32.ofNat nd)), .val (.ref wd), .val (.int (Int32.ofNat nd)), .val (.ref wd), .val (.int (2 : Int32)), .val (.int (0 : Int32)), .val (.int (Int32.ofNat qw1)), .unset]) rfl ?_
      show Steps p.tables e below (s₁.setTop (mkF m 27 #[.val (.ref a1), .val (.int (Int32.ofNat nd)), .val (.ref wd), .val (.int (Int32.ofNat nd)), .val (.ref wd), .val (.int (2 : Int32)), .val (.int (0 : Int32)), .val (.int (Int32.ofNat qw1)), .unset] [])) _
      refine XS.aloadN X0.here hx rfl (hb hby own_daddown_add2_27) rfl rfl ?_
      show Steps p.tables e below (s₁.setTop (mkF m 28 #[.val (.ref a1), .val (.int (Int32.ofNat nd)), .val (.ref wd), .val (.int (Int32.ofNat nd)), .val (.ref wd), .val (.int (2 : Int32)), .val (.int (0 : Int32)), .val (.int (Int32.ofNat qw1)), .unset] [(.ref a1)])) _
      refine XS.iloadN X0.here hx rfl (hb hby own_daddown_add2_28) rfl ?_
      show Steps p.tables e below (s₁.setTop (mkF m 29 #[.val (.ref a1), .val (.int (Int32.ofNat nd)), .val (.ref wd), .val (.int (Int32.ofNat nd)), .val (.ref wd), .val (.int (2 : Int32)), .val (.int (0 : Int32)), .val (.int (Int32.ofNat qw1)), .unset] [(.int (Int32.ofNat nd)), (.ref a1)])) _
      refine XS.iload X0.here hx rfl (hb hby own_daddown_add2_29) rfl ?_
      exact kt)
  obtain ⟨cq6, kq6, q6a, q6b, q6c⟩ := isOf hZ e0 E_a1
  obtain ⟨_, _, ⟨T6, L6, k6, n6⟩, -, X6, ⟨Lc6, hQ6, l6, y6, z6⟩, st6⟩ := X0.virtualBack hx (y := (⟨"com/example/unicept/unicept/WordTrie", "child", "(II)I"⟩ : MethodName)) (z := (⟨"com/example/unicept/unicept/WordTrie", "child", "(II)I"⟩ : MethodName)) hown (mvT hZ (hw _ (List.mem_of_getElem? (i := 47) rfl))) (mvT hZ (hw _ (List.mem_of_getElem? (i := 48) rfl))) (notFace_of_selects (args := #[]) (mvT hZ (hw _ (List.mem_of_getElem? (i := 50) rfl)))) (mvT hZ (hw _ (List.mem_of_getElem? (i := 50) rfl))) (mvT hZ (hw _ (List.mem_of_getElem? (i := 49) rfl))) (by decide) (backOf (W := 0) (own_child l Z a0 hw [] a1 r k ch f rt gg tg kt vts nd qw1 h0 n0 Z0 hT0 hr8 (own_ix hnd (by omega) hq1)) hZ (hw _ (List.mem_of_getElem? (i := 51) rfl)) (hw _ (List.mem_of_getElem? (i := 3) rfl)) (by decide) (by decide)) q6a q6c (g := (mkF m 31 #[.val (.ref a1), .val (.int (Int32.ofNat nd)), .val (.ref wd), .val (.int (Int32.ofNat nd)), .val (.ref wd), .val (.int (2 : Int32)), .val (.int (0 : Int32)), .val (.int (Int32.ofNat qw1)), .unset] [(.int (Int32.ofNat qw1)), (.int (Int32.ofNat nd)), (.ref a1)])) rfl (by rw [hml]; rfl) (Steps.refl _) (argsL := [(.int (Int32.ofNat nd)), (.int (Int32.ofNat qw1))]) (rest := []) (lenOf own_pd3 rfl) rfl (by show 2 * 0 + _ ≤ _; exact Nat.le_of_eq rfl) (hb hby own_daddown_add2_31) (fun _ _ => ⟨rfl, e0, (by decide : 0 + 0 ≤ _), (by decide : 0 + 0 ≤ _)⟩)
  dsimp only [Pt.U, Pt.locs, Pt.cells, Pt.slots] at X6 l6 y6 z6 st6 hQ6
  subst l6 y6 z6
  obtain ⟨rfl, N6q, e6⟩ := hQ6
  have N6 := Fr.app N0 N6q
  have pre7 : Goes p e below s₁ (entryFrame m #[(.ref a1), (.int (Int32.ofNat nd)), (.ref wd)] 9) T6 (mkF m 34 #[.val (.ref a1), .val (.int (Int32.ofNat nd)), .val (.ref wd), .val (.int (Int32.ofNat nd)), .val (.ref wd), .val (.int (2 : Int32)), .val (.int (0 : Int32)), .val (.int (Int32.ofNat qw1)), .unset] [(.int (f (nd * r + qw1)))]) := fun t kt => pre5 t (st6.trans kt)
  have pre8 : Goes p e below s₁ (entryFrame m #[(.ref a1), (.int (Int32.ofNat nd)), (.ref wd)] 9) T6 (mkF m 43 #[.val (.ref a1), .val (.int (Int32.ofNat nd)), .val (.ref wd), .val (.int (Int32.ofNat nd)), .val (.ref wd), .val (.int (2 : Int32)), .val (.int (0 : Int32)), .val (.int (Int32.ofNat qw1)), .val (.int (f (nd * r + qw1)))] [(.ref a1)]) := fun t kt => pre7 t (by
      show Steps p.tables e below (T6.setTop (mkF m 34 #[.val (.ref a1), .val (.int (Int32.ofNat nd)), .val (.ref wd), .val (.int (Int32.ofNat nd)), .val (.ref wd), .val (.int (2 : Int32)), .val (.int (0 : Int32)), .val (.int (Int32.ofNat qw1)), .unset] [(.int (f (nd * r + qw1)))])) _
      refine XS.istore X6.here hx rfl (hb hby own_daddown_add2_34) rfl (l' := #[.val (.ref a1), .val (.int (Int32.ofNat nd)), .val (.ref wd), .val (.int (Int32.ofNat nd)), .val (.ref wd), .val (.int (2 : Int32)), .val (.int (0 : Int32)), .val (.int (Int32.ofNat qw1)), .val (.int (f (nd * r + qw1)))]) rfl ?_
      show Steps p.tables e below (T6.setTop (mkF m 36 #[.val (.ref a1), .val (.int (Int32.ofNat nd)), .val (.ref wd), .val (.int (Int32.ofNat nd)), .val (.ref wd), .val (.int (2 : Int32)), .val (.int (0 : Int32)), .val (.int (Int32.ofNat qw1)), .val (.int (f (nd * r + qw1)))] [])) _
      refine XS.iload X6.here hx rfl (hb hby own_daddown_add2_36) rfl ?_
      show Steps p.tables e below (T6.setTop (mkF m 38 #[.val (.ref a1), .val (.int (Int32.ofNat nd)), .val (.ref wd), .val (.int (Int32.ofNat nd)), .val (.ref wd), .val (.int (2 : Int32)), .val (.int (0 : Int32)), .val (.int (Int32.ofNat qw1)), .val (.int (f (nd * r + qw1)))] [(.int (f (nd * r + qw1)))])) _
      refine XS.iconst X6.here hx rfl (hb hby own_daddown_add2_38) ?_
      show Steps p.tables e below (T6.setTop (mkF m 39 #[.val (.ref a1), .val (.int (Int32.ofNat nd)), .val (.ref wd), .val (.int (Int32.ofNat nd)), .val (.ref wd), .val (.int (2 : Int32)), .val (.int (0 : Int32)), .val (.int (Int32.ofNat qw1)), .val (.int (f (nd * r + qw1)))] [(.int (-1 : Int32)), (.int (f (nd * r + qw1)))])) _
      refine XS.icmpNo X6.here hx rfl (hb hby own_daddown_add2_39) rfl (teq (hf : (f (nd * r + qw1)) = (-1 : Int32))).2 ?_
      show Steps p.tables e below (T6.setTop (mkF m 42 #[.val (.ref a1), .val (.int (Int32.ofNat nd)), .val (.ref wd), .val (.int (Int32.ofNat nd)), .val (.ref wd), .val (.int (2 : Int32)), .val (.int (0 : Int32)), .val (.int (Int32.ofNat qw1)), .val (.int (f (nd * r + qw1)))] [])) _
      refine XS.aloadN X6.here hx rfl (hb hby own_daddown_add2_42) rfl rfl ?_
      exact kt)
  obtain ⟨cq9, qc9, qd9⟩ := E_a1.cell
  obtain ⟨_, _, ⟨T9, L9, k9, n9⟩, -, X9, ⟨Lc9, hQ9, l9, y9, z9⟩, st9⟩ := X6.privateBack hx (y := (⟨"com/example/unicept/unicept/WordTrie", "newNode", "()I"⟩ : MethodName)) hown (mvT hZ (hw _ (List.mem_of_getElem? (i := 29) rfl))) (mvT hZ (hw _ (List.mem_of_getElem? (i := 30) rfl))) (own_sel (mvT hZ (hw _ (List.mem_of_getElem? (i := 2) rfl))) (mvP hZ (hw _ (List.mem_of_getElem? (i := 31) rfl))) (mvT hZ (hw _ (List.mem_of_getElem? (i := 30) rfl))) (by decide)) (Cond.privateMethod_at (mvP hZ (hw _ (List.mem_of_getElem? (i := 31) rfl)) (args := #[]))) (mvT hZ (hw _ (List.mem_of_getElem? (i := 32) rfl))) (by decide) (backOf (W := 0) (own_newNode l Z a0 hw [] a1 r k ch f rt gg tg kt vts h0 n0 Z0 hT0 hr1 hr8 (by omega)) hZ (hw _ (List.mem_of_getElem? (i := 32) rfl)) (hw _ (List.mem_of_getElem? (i := 3) rfl)) (by decide) (by decide)) (g := (mkF m 43 #[.val (.ref a1), .val (.int (Int32.ofNat nd)), .val (.ref wd), .val (.int (Int32.ofNat nd)), .val (.ref wd), .val (.int (2 : Int32)), .val (.int (0 : Int32)), .val (.int (Int32.ofNat qw1)), .val (.int (f (nd * r + qw1)))] [(.ref a1)])) rfl (by rw [hml]; rfl) (Steps.refl _) (a := a1) (by rw [e6]; exact qc9) qd9 (argsL := []) (rest := []) (lenOf own_pd2 rfl) rfl (by show 2 * 0 + _ ≤ _; exact Nat.le_of_eq rfl) (hb hby own_daddown_add2_43) (fun _ _ => ⟨rfl, e6, (by decide : 0 + 0 ≤ _), (by decide : 0 + 0 ≤ _)⟩)
  dsimp only [Pt.U, Pt.locs, Pt.cells, Pt.slots] at X9 l9 y9 z9 st9 hQ9
  subst l9 y9 z9
  obtain ⟨rfl, N9q, K9q, hT9⟩ := hQ9
  have N9 := Fr.app N6 N9q
  have KC9 : Keep h0 T9.heap [a1, ch, rt] := (Keep.refl h0 [a1, ch, rt]).trans K9q (allS (Or.inl (List.mem_of_getElem? (i := 0) rfl)) (allS (Or.inl (List.mem_of_getElem? (i := 1) rfl)) all0))
  have pre10 : Goes p e below s₁ (entryFrame m #[(.ref a1), (.int (Int32.ofNat nd)), (.ref wd)] 9) T9 (mkF m 46 #[.val (.ref a1), .val (.int (Int32.ofNat nd)), .val (.ref wd), .val (.int (Int32.ofNat nd)), .val (.ref wd), .val (.int (2 : Int32)), .val (.int (0 : Int32)), .val (.int (Int32.ofNat qw1)), .val (.int (f (nd * r + qw1)))] [(.int (Int32.ofNat k))]) := fun t kt => pre8 t (st9.trans kt)
  obtain ⟨E_a1, F_roles, F_children, F_roots, F_tags, F_size, V_ch, V_rt, V_tg, g_a1, g_ch, g_rt, g_tg, nac, nar, nat, ncr, nct, nrt⟩ := hT9
  have pre11 : Goes p e below s₁ (entryFrame m #[(.ref a1), (.int (Int32.ofNat nd)), (.ref wd)] 9) T9 (mkF m 49 #[.val (.ref a1), .val (.int (Int32.ofNat nd)), .val (.ref wd), .val (.int (Int32.ofNat nd)), .val (.ref wd), .val (.int (2 : Int32)), .val (.int (0 : Int32)), .val (.int (Int32.ofNat qw1)), .val (.int (Int32.ofNat k))] [(.ref a1)]) := fun t kt => pre10 t (by
      show Steps p.tables e below (T9.setTop (mkF m 46 #[.val (.ref a1), .val (.int (Int32.ofNat nd)), .val (.ref wd), .val (.int (Int32.ofNat nd)), .val (.ref wd), .val (.int (2 : Int32)), .val (.int (0 : Int32)), .val (.int (Int32.ofNat qw1)), .val (.int (f (nd * r + qw1)))] [(.int (Int32.ofNat k))])) _
      refine XS.istore X9.here hx rfl (hb hby own_daddown_add2_46) rfl (l' := #[.val (.ref a1), .val (.int (Int32.ofNat nd)), .val (.ref wd), .val (.int (Int32.ofNat nd)), .val (.ref wd), .val (.int (2 : Int32)), .val (.int (0 : Int32)), .val (.int (Int32.ofNat qw1)), .val (.int (Int32.ofNat k))]) rfl ?_
      show Steps p.tables e below (T9.setTop (mkF m 48 #[.val (.ref a1), .val (.int (Int32.ofNat nd)), .val (.ref wd), .val (.int (Int32.ofNat nd)), .val (.ref wd), .val (.int (2 : Int32)), .val (.int (0 : Int32)), .val (.int (Int32.ofNat qw1)), .val (.int (Int32.ofNat k))] [])) _
      refine XS.aloadN X9.here hx rfl (hb hby own_daddown_add2_48) rfl rfl ?_
      exact kt)
  obtain ⟨T12, X12, e12, st12⟩ := getF X9 hx hZ hown (host := "") (Or.inl (hw _ (List.mem_of_getElem? (i := 16) rfl))) Via.refl rfl F_children (g := (mkF m 49 #[.val (.ref a1), .val (.int (Int32.ofNat nd)), .val (.ref wd), .val (.int (Int32.ofNat nd)), .val (.ref wd), .val (.int (2 : Int32)), .val (.int (0 : Int32)), .val (.int (Int32.ofNat qw1)), .val (.int (Int32.ofNat k))] [(.ref a1)])) rfl rfl (hb hby own_daddown_add2_49)
  have pre13 : Goes p e below s₁ (entryFrame m #[(.ref a1), (.int (Int32.ofNat nd)), (.ref wd)] 9) T12 (mkF m 52 #[.val (.ref a1), .val (.int (Int32.ofNat nd)), .val (.ref wd), .val (.int (Int32.ofNat nd)), .val (.ref wd), .val (.int (2 : Int32)), .val (.int (0 : Int32)), .val (.int (Int32.ofNat qw1)), .val (.int (Int32.ofNat k))] [(.ref ch)]) := fun t kt => pre11 t (st12 t kt)
  have pre14 : Goes p e below s₁ (entryFrame m #[(.ref a1), (.int (Int32.ofNat nd)), (.ref wd)] 9) T12 (mkF m 54 #[.val (.ref a1), .val (.int (Int32.ofNat nd)), .val (.ref wd), .val (.int (Int32.ofNat nd)), .val (.ref wd), .val (.int (2 : Int32)), .val (.int (0 : Int32)), .val (.int (Int32.ofNat qw1)), .val (.int (Int32.ofNat k))] [(.ref a1), (.int (Int32.ofNat nd)), (.ref ch)]) := fun t kt => pre13 t (by
      show Steps p.tables e below (T12.setTop (mkF m 52 #[.val (.ref a1), .val (.int (Int32.ofNat nd)), .val (.ref wd), .val (.int (Int32.ofNat nd)), .val (.ref wd), .val (.int (2 : Int32)), .val (.int (0 : Int32)), .val (.int (Int32.ofNat qw1)), .val (.int (Int32.ofNat k))] [(.ref ch)])) _
      refine XS.iloadN X12.here hx rfl (hb hby own_daddown_add2_52) rfl ?_
      show Steps p.tables e below (T12.setTop (mkF m 53 #[.val (.ref a1), .val (.int (Int32.ofNat nd)), .val (.ref wd), .val (.int (Int32.ofNat nd)), .val (.ref wd), .val (.int (2 : Int32)), .val (.int (0 : Int32)), .val (.int (Int32.ofNat qw1)), .val (.int (Int32.ofNat k))] [(.int (Int32.ofNat nd)), (.ref ch)])) _
      refine XS.aloadN X12.here hx rfl (hb hby own_daddown_add2_53) rfl rfl ?_
      exact kt)
  obtain ⟨T15, X15, e15, st15⟩ := getF X12 hx hZ hown (host := "") (Or.inl (hw _ (List.mem_of_getElem? (i := 10) rfl))) Via.refl e12 F_roles (g := (mkF m 54 #[.val (.ref a1), .val (.int (Int32.ofNat nd)), .val (.ref wd), .val (.int (Int32.ofNat nd)), .val (.ref wd), .val (.int (2 : Int32)), .val (.int (0 : Int32)), .val (.int (Int32.ofNat qw1)), .val (.int (Int32.ofNat k))] [(.ref a1), (.int (Int32.ofNat nd)), (.ref ch)])) rfl rfl (hb hby own_daddown_add2_54)
  have pre16 : Goes p e below s₁ (entryFrame m #[(.ref a1), (.int (Int32.ofNat nd)), (.ref wd)] 9) T15 (mkF m 57 #[.val (.ref a1), .val (.int (Int32.ofNat nd)), .val (.ref wd), .val (.int (Int32.ofNat nd)), .val (.ref wd), .val (.int (2 : Int32)), .val (.int (0 : Int32)), .val (.int (Int32.ofNat qw1)), .val (.int (Int32.ofNat k))] [(.int (Int32.ofNat r)), (.int (Int32.ofNat nd)), (.ref ch)]) := fun t kt => pre14 t (st15 t kt)
  have pre17 : Goes p e below s₁ (entryFrame m #[(.ref a1), (.int (Int32.ofNat nd)), (.ref wd)] 9) T15 (mkF m 63 #[.val (.ref a1), .val (.int (Int32.ofNat nd)), .val (.ref wd), .val (.int (Int32.ofNat nd)), .val (.ref wd), .val (.int (2 : Int32)), .val (.int (0 : Int32)), .val (.int (Int32.ofNat qw1)), .val (.int (Int32.ofNat k))] [(.int (Int32.ofNat k)), (.int (((Int32.ofNat nd) * (Int32.ofNat r)) + (Int32.ofNat qw1))), (.ref ch)]) := fun t kt => pre16 t (by
      show Steps p.tables e below (T15.setTop (mkF m 57 #[.val (.ref a1), .val (.int (Int32.ofNat nd)), .val (.ref wd), .val (.int (Int32.ofNat nd)), .val (.ref wd), .val (.int (2 : Int32)), .val (.int (0 : Int32)), .val (.int (Int32.ofNat qw1)), .val (.int (Int32.ofNat k))] [(.int (Int32.ofNat r)), (.int (Int32.ofNat nd)), (.ref ch)])) _
      refine XS.imul X15.here hx rfl (hb hby own_daddown_add2_57) rfl ?_
      show Steps p.tables e below (T15.setTop (mkF m 58 #[.val (.ref a1), .val (.int (Int32.ofNat nd)), .val (.ref wd), .val (.int (Int32.ofNat nd)), .val (.ref wd), .val (.int (2 : Int32)), .val (.int (0 : Int32)), .val (.int (Int32.ofNat qw1)), .val (.int (Int32.ofNat k))] [(.int ((Int32.ofNat nd) * (Int32.ofNat r))), (.ref ch)])) _
      refine XS.iload X15.here hx rfl (hb hby own_daddown_add2_58) rfl ?_
      show Steps p.tables e below (T15.setTop (mkF m 60 #[.val (.ref a1), .val (.int (Int32.ofNat nd)), .val (.ref wd), .val (.int (Int32.ofNat nd)), .val (.ref wd), .val (.int (2 : Int32)), .val (.int (0 : Int32)), .val (.int (Int32.ofNat qw1)), .val (.int (Int32.ofNat k))] [(.int (Int32.ofNat qw1)), (.int ((Int32.ofNat nd) * (Int32.ofNat r))), (.ref ch)])) _
      refine XS.iadd X15.here hx rfl (hb hby own_daddown_add2_60) rfl ?_
      show Steps p.tables e below (T15.setTop (mkF m 61 #[.val (.ref a1), .val (.int (Int32.ofNat nd)), .val (.ref wd), .val (.int (Int32.ofNat nd)), .val (.ref wd), .val (.int (2 : Int32)), .val (.int (0 : Int32)), .val (.int (Int32.ofNat qw1)), .val (.int (Int32.ofNat k))] [(.int (((Int32.ofNat nd) * (Int32.ofNat r)) + (Int32.ofNat qw1))), (.ref ch)])) _
      refine XS.iload X15.here hx rfl (hb hby own_daddown_add2_61) rfl ?_
      exact kt)
  rw [show ((Int32.ofNat nd) * (Int32.ofNat r)) = (Int32.ofNat (nd * r)) from own_mul nd r] at pre17
  rw [show ((Int32.ofNat (nd * r)) + (Int32.ofNat qw1)) = (Int32.ofNat (nd * r + qw1)) from own_add (nd * r) qw1] at pre17
  obtain ⟨cl18, Ar18, S18, H18⟩ := (id (V_ch))
  have hlt18 : (nd * r + qw1) < (16 * r) := (own_ix hnd (by omega) hq1)
  have hin18 : ¬ ((Int32.ofNat (nd * r + qw1)) < 0 ∨ cl18.slots.size ≤ ((Int32.ofNat (nd * r + qw1))).toNatClampNeg) := own_in S18 hlt18 (by omega)
  obtain ⟨T19, h19, X19, e19, W19, st19⟩ := stI X15 hx hZ e15 Ar18 (j := (Int32.ofNat (nd * r + qw1))) hin18 (g := (mkF m 63 #[.val (.ref a1), .val (.int (Int32.ofNat nd)), .val (.ref wd), .val (.int (Int32.ofNat nd)), .val (.ref wd), .val (.int (2 : Int32)), .val (.int (0 : Int32)), .val (.int (Int32.ofNat qw1)), .val (.int (Int32.ofNat k))] [(.int (Int32.ofNat k)), (.int (Int32.ofNat (nd * r + qw1))), (.ref ch)])) rfl rfl (hb hby own_daddown_add2_63)
  have V19 : own_FA Z h19 ch (16 * r) (own_up (own_fl f (k * r) (k * r + r) (-1)) (nd * r + qw1) (Int32.ofNat k)) := own_FA.set Ar18 S18 H18 W19 hlt18 (by omega)
  have K19 : Keep h0 h19 [a1, ch, rt] := KC9.wr W19 (Or.inl (List.mem_of_getElem? (i := 1) rfl))
  have N19 := Fr.snoc X19 N9 g_ch
  have pre20 : Goes p e below s₁ (entryFrame m #[(.ref a1), (.int (Int32.ofNat nd)), (.ref wd)] 9) T19 (mkF m 64 #[.val (.ref a1), .val (.int (Int32.ofNat nd)), .val (.ref wd), .val (.int (Int32.ofNat nd)), .val (.ref wd), .val (.int (2 : Int32)), .val (.int (0 : Int32)), .val (.int (Int32.ofNat qw1)), .val (.int (Int32.ofNat k))] []) := fun t kt => pre17 t (st19 t kt)
  have pre21 : Goes p e below s₁ (entryFrame m #[(.ref a1), (.int (Int32.ofNat nd)), (.ref wd)] 9) T19 (mkF m 65 #[.val (.ref a1), .val (.int (Int32.ofNat nd)), .val (.ref wd), .val (.int (Int32.ofNat nd)), .val (.ref wd), .val (.int (2 : Int32)), .val (.int (0 : Int32)), .val (.int (Int32.ofNat qw1)), .val (.int (Int32.ofNat k))] [(.ref a1)]) := fun t kt => pre20 t (by
      show Steps p.tables e below (T19.setTop (mkF m 64 #[.val (.ref a1), .val (.int (Int32.ofNat nd)), .val (.ref wd), .val (.int (Int32.ofNat nd)), .val (.ref wd), .val (.int (2 : Int32)), .val (.int (0 : Int32)), .val (.int (Int32.ofNat qw1)), .val (.int (Int32.ofNat k))] [])) _
      refine XS.aloadN X19.here hx rfl (hb hby own_daddown_add2_64) rfl rfl ?_
      exact kt)
  obtain ⟨T22, X22, e22, st22⟩ := getF X19 hx hZ hown (host := "") (Or.inl (hw _ (List.mem_of_getElem? (i := 18) rfl))) Via.refl e19 (F_roots.other W19 (Or.inl nac)) (g := (mkF m 65 #[.val (.ref a1), .val (.int (Int32.ofNat nd)), .val (.ref wd), .val (.int (Int32.ofNat nd)), .val (.ref wd), .val (.int (2 : Int32)), .val (.int (0 : Int32)), .val (.int (Int32.ofNat qw1)), .val (.int (Int32.ofNat k))] [(.ref a1)])) rfl rfl (hb hby own_daddown_add2_65)
  have pre23 : Goes p e below s₁ (entryFrame m #[(.ref a1), (.int (Int32.ofNat nd)), (.ref wd)] 9) T22 (mkF m 68 #[.val (.ref a1), .val (.int (Int32.ofNat nd)), .val (.ref wd), .val (.int (Int32.ofNat nd)), .val (.ref wd), .val (.int (2 : Int32)), .val (.int (0 : Int32)), .val (.int (Int32.ofNat qw1)), .val (.int (Int32.ofNat k))] [(.ref rt)]) := fun t kt => pre21 t (st22 t kt)
  have pre24 : Goes p e below s₁ (entryFrame m #[(.ref a1), (.int (Int32.ofNat nd)), (.ref wd)] 9) T22 (mkF m 71 #[.val (.ref a1), .val (.int (Int32.ofNat nd)), .val (.ref wd), .val (.int (Int32.ofNat nd)), .val (.ref wd), .val (.int (2 : Int32)), .val (.int (0 : Int32)), .val (.int (Int32.ofNat qw1)), .val (.int (Int32.ofNat k))] [(.ref a1), (.int (Int32.ofNat k)), (.ref rt)]) := fun t kt => pre23 t (by
      show Steps p.tables e below (T22.setTop (mkF m 68 #[.val (.ref a1), .val (.int (Int32.ofNat nd)), .val (.ref wd), .val (.int (Int32.ofNat nd)), .val (.ref wd), .val (.int (2 : Int32)), .val (.int (0 : Int32)), .val (.int (Int32.ofNat qw1)), .val (.int (Int32.ofNat k))] [(.ref rt)])) _
      refine XS.iload X22.here hx rfl (hb hby own_daddown_add2_68) rfl ?_
      show Steps p.tables e below (T22.setTop (mkF m 70 #[.val (.ref a1), .val (.int (Int32.ofNat nd)), .val (.ref wd), .val (.int (Int32.ofNat nd)), .val (.ref wd), .val (.int (2 : Int32)), .val (.int (0 : Int32)), .val (.int (Int32.ofNat qw1)), .val (.int (Int32.ofNat k))] [(.int (Int32.ofNat k)), (.ref rt)])) _
      refine XS.aloadN X22.here hx rfl (hb hby own_daddown_add2_70) rfl rfl ?_
      exact kt)
  obtain ⟨T25, X25, e25, st25⟩ := getF X22 hx hZ hown (host := "") (Or.inl (hw _ (List.mem_of_getElem? (i := 18) rfl))) Via.refl e22 (F_roots.other W19 (Or.inl nac)) (g := (mkF m 71 #[.val (.ref a1), .val (.int (Int32.ofNat nd)), .val (.ref wd), .val (.int (Int32.ofNat nd)), .val (.ref wd), .val (.int (2 : Int32)), .val (.int (0 : Int32)), .val (.int (Int32.ofNat qw1)), .val (.int (Int32.ofNat k))] [(.ref a1), (.int (Int32.ofNat k)), (.ref rt)])) rfl rfl (hb hby own_daddown_add2_71)
  have pre26 : Goes p e below s₁ (entryFrame m #[(.ref a1), (.int (Int32.ofNat nd)), (.ref wd)] 9) T25 (mkF m 74 #[.val (.ref a1), .val (.int (Int32.ofNat nd)), .val (.ref wd), .val (.int (Int32.ofNat nd)), .val (.ref wd), .val (.int (2 : Int32)), .val (.int (0 : Int32)), .val (.int (Int32.ofNat qw1)), .val (.int (Int32.ofNat k))] [(.ref rt), (.int (Int32.ofNat k)), (.ref rt)]) := fun t kt => pre24 t (st25 t kt)
  have pre27 : Goes p e below s₁ (entryFrame m #[(.ref a1), (.int (Int32.ofNat nd)), (.ref wd)] 9) T25 (mkF m 75 #[.val (.ref a1), .val (.int (Int32.ofNat nd)), .val (.ref wd), .val (.int (Int32.ofNat nd)), .val (.ref wd), .val (.int (2 : Int32)), .val (.int (0 : Int32)), .val (.int (Int32.ofNat qw1)), .val (.int (Int32.ofNat k))] [(.int (Int32.ofNat nd)), (.ref rt), (.int (Int32.ofNat k)), (.ref rt)]) := fun t kt => pre26 t (by
      show Steps p.tables e below (T25.setTop (mkF m 74 #[.val (.ref a1), .val (.int (Int32.ofNat nd)), .val (.ref wd), .val (.int (Int32.ofNat nd)), .val (.ref wd), .val (.int (2 : Int32)), .val (.int (0 : Int32)), .val (.int (Int32.ofNat qw1)), .val (.int (Int32.ofNat k))] [(.ref rt), (.int (Int32.ofNat k)), (.ref rt)])) _
      refine XS.iloadN X25.here hx rfl (hb hby own_daddown_add2_74) rfl ?_
      exact kt)
  obtain ⟨cl28, Ar28, S28, H28⟩ := (id ((V_rt.other W19 (Ne.symm ncr))))
  have hlt28 : nd < 16 := (by omega)
  have hin28 : ¬ ((Int32.ofNat nd) < 0 ∨ cl28.slots.size ≤ ((Int32.ofNat nd)).toNatClampNeg) := own_in S28 hlt28 (by decide)
  have hat28 : cl28.slots[((Int32.ofNat nd)).toNatClampNeg]? = some (.int (gg nd)) := own_at H28 hlt28 (by decide)
  have pre29 : Goes p e below s₁ (entryFrame m #[(.ref a1), (.int (Int32.ofNat nd)), (.ref wd)] 9) T25 (mkF m 76 #[.val (.ref a1), .val (.int (Int32.ofNat nd)), .val (.ref wd), .val (.int (Int32.ofNat nd)), .val (.ref wd), .val (.int (2 : Int32)), .val (.int (0 : Int32)), .val (.int (Int32.ofNat qw1)), .val (.int (Int32.ofNat k))] [(.int (gg nd)), (.int (Int32.ofNat k)), (.ref rt)]) := fun t kt => pre27 t (by
      show Steps p.tables e below (T25.setTop (mkF m 75 #[.val (.ref a1), .val (.int (Int32.ofNat nd)), .val (.ref wd), .val (.int (Int32.ofNat nd)), .val (.ref wd), .val (.int (2 : Int32)), .val (.int (0 : Int32)), .val (.int (Int32.ofNat qw1)), .val (.int (Int32.ofNat k))] [(.int (Int32.ofNat nd)), (.ref rt), (.int (Int32.ofNat k)), (.ref rt)])) _
      refine X25.iaload hx (j := (Int32.ofNat nd)) (v := (.int (gg nd))) (by (try rw [e25]); exact Ar28.1) (State.isArrayOf_alike hZ.alike Ar28.2.1) Ar28.2.2 hin28 hat28 (g := (mkF m 75 #[.val (.ref a1), .val (.int (Int32.ofNat nd)), .val (.ref wd), .val (.int (Int32.ofNat nd)), .val (.ref wd), .val (.int (2 : Int32)), .val (.int (0 : Int32)), .val (.int (Int32.ofNat qw1)), .val (.int (Int32.ofNat k))] [(.int (Int32.ofNat nd)), (.ref rt), (.int (Int32.ofNat k)), (.ref rt)])) rfl rfl (hb hby own_daddown_add2_75) _ ?_
      exact kt)
  obtain ⟨cl30, Ar30, S30, H30⟩ := (id ((V_rt.other W19 (Ne.symm ncr))))
  have hlt30 : k < 16 := (by omega)
  have hin30 : ¬ ((Int32.ofNat k) < 0 ∨ cl30.slots.size ≤ ((Int32.ofNat k)).toNatClampNeg) := own_in S30 hlt30 (by decide)
  obtain ⟨T31, h31, X31, e31, W31, st31⟩ := stI X25 hx hZ e25 Ar30 (j := (Int32.ofNat k)) hin30 (g := (mkF m 76 #[.val (.ref a1), .val (.int (Int32.ofNat nd)), .val (.ref wd), .val (.int (Int32.ofNat nd)), .val (.ref wd), .val (.int (2 : Int32)), .val (.int (0 : Int32)), .val (.int (Int32.ofNat qw1)), .val (.int (Int32.ofNat k))] [(.int (gg nd)), (.int (Int32.ofNat k)), (.ref rt)])) rfl rfl (hb hby own_daddown_add2_76)
  have V31 : own_FA Z h31 rt 16 (own_up gg k (gg nd)) := own_FA.set Ar30 S30 H30 W31 hlt30 (by decide)
  have K31 : Keep h0 h31 [a1, ch, rt] := K19.wr W31 (Or.inl (List.mem_of_getElem? (i := 2) rfl))
  have N31 := Fr.snoc X31 N19 g_rt
  have pre32 : Goes p e below s₁ (entryFrame m #[(.ref a1), (.int (Int32.ofNat nd)), (.ref wd)] 9) T31 (mkF m 77 #[.val (.ref a1), .val (.int (Int32.ofNat nd)), .val (.ref wd), .val (.int (Int32.ofNat nd)), .val (.ref wd), .val (.int (2 : Int32)), .val (.int (0 : Int32)), .val (.int (Int32.ofNat qw1)), .val (.int (Int32.ofNat k))] []) := fun t kt => pre29 t (st31 t kt)
  have hT33 : own_TR Z h31 n0 a1 r (k + 1) ch (own_ad f r k nd qw1) rt (own_up gg k (gg nd)) tg kt vts := ⟨((E_a1.wr W19).wr W31), ((F_roles.other W19 (Or.inl nac)).other W31 (Or.inl nar)), ((F_children.other W19 (Or.inl nac)).other W31 (Or.inl nar)), ((F_roots.other W19 (Or.inl nac)).other W31 (Or.inl nar)), ((F_tags.other W19 (Or.inl nac)).other W31 (Or.inl nar)), ((F_size.other W19 (Or.inl nac)).other W31 (Or.inl nar)), (V19.other W31 ncr), V31, ((V_tg.other W19 (Ne.symm nct)).other W31 (Ne.symm nrt)), g_a1, g_ch, g_rt, g_tg, nac, nar, nat, ncr, nct, nrt⟩
  have pre34 : Goes p e below s₁ (entryFrame m #[(.ref a1), (.int (Int32.ofNat nd)), (.ref wd)] 9) T31 (mkF m 24 #[.val (.ref a1), .val (.int (Int32.ofNat nd)), .val (.ref wd), .val (.int (Int32.ofNat k)), .val (.ref wd), .val (.int (2 : Int32)), .val (.int (1 : Int32)), .val (.int (Int32.ofNat qw1)), .val (.int (Int32.ofNat k))] [(.int (1 : Int32)), (.ref wd)]) := fun t kt => pre32 t (by
      show Steps p.tables e below (T31.setTop (mkF m 77 #[.val (.ref a1), .val (.int (Int32.ofNat nd)), .val (.ref wd), .val (.int (Int32.ofNat nd)), .val (.ref wd), .val (.int (2 : Int32)), .val (.int (0 : Int32)), .val (.int (Int32.ofNat qw1)), .val (.int (Int32.ofNat k))] [])) _
      refine XS.iload X31.here hx rfl (hb hby own_daddown_add2_77) rfl ?_
      show Steps p.tables e below (T31.setTop (mkF m 79 #[.val (.ref a1), .val (.int (Int32.ofNat nd)), .val (.ref wd), .val (.int (Int32.ofNat nd)), .val (.ref wd), .val (.int (2 : Int32)), .val (.int (0 : Int32)), .val (.int (Int32.ofNat qw1)), .val (.int (Int32.ofNat k))] [(.int (Int32.ofNat k))])) _
      refine XS.istoreN X31.here hx rfl (hb hby own_daddown_add2_79) rfl (l' := #[.val (.ref a1), .val (.int (Int32.ofNat nd)), .val (.ref wd), .val (.int (Int32.ofNat k)), .val (.ref wd), .val (.int (2 : Int32)), .val (.int (0 : Int32)), .val (.int (Int32.ofNat qw1)), .val (.int (Int32.ofNat k))]) rfl ?_
      show Steps p.tables e below (T31.setTop (mkF m 80 #[.val (.ref a1), .val (.int (Int32.ofNat nd)), .val (.ref wd), .val (.int (Int32.ofNat k)), .val (.ref wd), .val (.int (2 : Int32)), .val (.int (0 : Int32)), .val (.int (Int32.ofNat qw1)), .val (.int (Int32.ofNat k))] [])) _
      refine XS.iinc X31.here hx rfl (hb hby own_daddown_add2_80) rfl (l' := #[.val (.ref a1), .val (.int (Int32.ofNat nd)), .val (.ref wd), .val (.int (Int32.ofNat k)), .val (.ref wd), .val (.int (2 : Int32)), .val (.int (1 : Int32)), .val (.int (Int32.ofNat qw1)), .val (.int (Int32.ofNat k))]) rfl ?_
      show Steps p.tables e below (T31.setTop (mkF m 83 #[.val (.ref a1), .val (.int (Int32.ofNat nd)), .val (.ref wd), .val (.int (Int32.ofNat k)), .val (.ref wd), .val (.int (2 : Int32)), .val (.int (1 : Int32)), .val (.int (Int32.ofNat qw1)), .val (.int (Int32.ofNat k))] [])) _
      refine XS.goto X31.here hx rfl (pc0 := 83) (pc' := 13) rfl (hb hby own_daddown_add2_83) (by decide) (by decide) ?_
      show Steps p.tables e below (T31.setTop (mkF m 13 #[.val (.ref a1), .val (.int (Int32.ofNat nd)), .val (.ref wd), .val (.int (Int32.ofNat k)), .val (.ref wd), .val (.int (2 : Int32)), .val (.int (1 : Int32)), .val (.int (Int32.ofNat qw1)), .val (.int (Int32.ofNat k))] [])) _
      refine XS.iload X31.here hx rfl (hb hby own_daddown_add2_13) rfl ?_
      show Steps p.tables e below (T31.setTop (mkF m 15 #[.val (.ref a1), .val (.int (Int32.ofNat nd)), .val (.ref wd), .val (.int (Int32.ofNat k)), .val (.ref wd), .val (.int (2 : Int32)), .val (.int (1 : Int32)), .val (.int (Int32.ofNat qw1)), .val (.int (Int32.ofNat k))] [(.int (1 : Int32))])) _
      refine XS.iload X31.here hx rfl (hb hby own_daddown_add2_15) rfl ?_
      show Steps p.tables e below (T31.setTop (mkF m 17 #[.val (.ref a1), .val (.int (Int32.ofNat nd)), .val (.ref wd), .val (.int (Int32.ofNat k)), .val (.ref wd), .val (.int (2 : Int32)), .val (.int (1 : Int32)), .val (.int (Int32.ofNat qw1)), .val (.int (Int32.ofNat k))] [(.int (2 : Int32)), (.int (1 : Int32))])) _
      refine XS.icmpNo X31.here hx rfl (hb hby own_daddown_add2_17) rfl (tlt (by decide : (1 : Int32) < (2 : Int32))).2.1 ?_
      show Steps p.tables e below (T31.setTop (mkF m 20 #[.val (.ref a1), .val (.int (Int32.ofNat nd)), .val (.ref wd), .val (.int (Int32.ofNat k)), .val (.ref wd), .val (.int (2 : Int32)), .val (.int (1 : Int32)), .val (.int (Int32.ofNat qw1)), .val (.int (Int32.ofNat k))] [])) _
      refine XS.aload X31.here hx rfl (hb hby own_daddown_add2_20) rfl rfl ?_
      show Steps p.tables e below (T31.setTop (mkF m 22 #[.val (.ref a1), .val (.int (Int32.ofNat nd)), .val (.ref wd), .val (.int (Int32.ofNat k)), .val (.ref wd), .val (.int (2 : Int32)), .val (.int (1 : Int32)), .val (.int (Int32.ofNat qw1)), .val (.int (Int32.ofNat k))] [(.ref wd)])) _
      refine XS.iload X31.here hx rfl (hb hby own_daddown_add2_22) rfl ?_
      exact kt)
  obtain ⟨cl35, Ar35, q35, S35, N_35, H35, G35⟩ := (id ((((V_wd.keep K9q (ninS nwa (ninS nwc nin0))).other W19 nwc).other W31 nwr)))
  have hin35 : ¬ ((1 : Int32) < 0 ∨ cl35.slots.size ≤ ((1 : Int32)).toNatClampNeg) := inb_of S35 ⟨by decide, by decide⟩
  have hat35 : cl35.slots[((1 : Int32)).toNatClampNeg]? = some (.int (Int32.ofNat qw2)) := Has.at H35 hin35 rfl
  have pre36 : Goes p e below s₁ (entryFrame m #[(.ref a1), (.int (Int32.ofNat nd)), (.ref wd)] 9) T31 (mkF m 31 #[.val (.ref a1), .val (.int (Int32.ofNat nd)), .val (.ref wd), .val (.int (Int32.ofNat k)), .val (.ref wd), .val (.int (2 : Int32)), .val (.int (1 : Int32)), .val (.int (Int32.ofNat qw2)), .val (.int (Int32.ofNat k))] [(.int (Int32.ofNat qw2)), (.int (Int32.ofNat k)), (.ref a1)]) := fun t kt => pre34 t (by
      show Steps p.tables e below (T31.setTop (mkF m 24 #[.val (.ref a1), .val (.int (Int32.ofNat nd)), .val (.ref wd), .val (.int (Int32.ofNat k)), .val (.ref wd), .val (.int (2 : Int32)), .val (.int (1 : Int32)), .val (.int (Int32.ofNat qw1)), .val (.int (Int32.ofNat k))] [(.int (1 : Int32)), (.ref wd)])) _
      refine X31.iaload hx (j := (1 : Int32)) (v := (.int (Int32.ofNat qw2))) (by (try rw [e31]); exact Ar35.1) (State.isArrayOf_alike hZ.alike Ar35.2.1) Ar35.2.2 hin35 hat35 (g := (mkF m 24 #[.val (.ref a1), .val (.int (Int32.ofNat nd)), .val (.ref wd), .val (.int (Int32.ofNat k)), .val (.ref wd), .val (.int (2 : Int32)), .val (.int (1 : Int32)), .val (.int (Int32.ofNat qw1)), .val (.int (Int32.ofNat k))] [(.int (1 : Int32)), (.ref wd)])) rfl rfl (hb hby own_daddown_add2_24) _ ?_
      show Steps p.tables e below (T31.setTop (mkF m 25 #[.val (.ref a1), .val (.int (Int32.ofNat nd)), .val (.ref wd), .val (.int (Int32.ofNat k)), .val (.ref wd), .val (.int (2 : Int32)), .val (.int (1 : Int32)), .val (.int (Int32.ofNat qw1)), .val (.int (Int32.ofNat k))] [(.int (Int32.ofNat qw2))])) _
      refine XS.istore X31.here hx rfl (hb hby own_daddown_add2_25) rfl (l' := #[.val (.ref a1), .val (.int (Int32.ofNat nd)), .val (.ref wd), .val (.int (Int32.ofNat k)), .val (.ref wd), .val (.int (2 : Int32)), .val (.int (1 : Int32)), .val (.int (Int32.ofNat qw2)), .val (.int (Int32.ofNat k))]) rfl ?_
      show Steps p.tables e below (T31.setTop (mkF m 27 #[.val (.ref a1), .val (.int (Int32.ofNat nd)), .val (.ref wd), .val (.int (Int32.ofNat k)), .val (.ref wd), .val (.int (2 : Int32)), .val (.int (1 : Int32)), .val (.int (Int32.ofNat qw2)), .val (.int (Int32.ofNat k))] [])) _
      refine XS.aloadN X31.here hx rfl (hb hby own_daddown_add2_27) rfl rfl ?_
      show Steps p.tables e below (T31.setTop (mkF m 28 #[.val (.ref a1), .val (.int (Int32.ofNat nd)), .val (.ref wd), .val (.int (Int32.ofNat k)), .val (.ref wd), .val (.int (2 : Int32)), .val (.int (1 : Int32)), .val (.int (Int32.ofNat qw2)), .val (.int (Int32.ofNat k))] [(.ref a1)])) _
      refine XS.iloadN X31.here hx rfl (hb hby own_daddown_add2_28) rfl ?_
      show Steps p.tables e below (T31.setTop (mkF m 29 #[.val (.ref a1), .val (.int (Int32.ofNat nd)), .val (.ref wd), .val (.int (Int32.ofNat k)), .val (.ref wd), .val (.int (2 : Int32)), .val (.int (1 : Int32)), .val (.int (Int32.ofNat qw2)), .val (.int (Int32.ofNat k))] [(.int (Int32.ofNat k)), (.ref a1)])) _
      refine XS.iload X31.here hx rfl (hb hby own_daddown_add2_29) rfl ?_
      exact kt)
  obtain ⟨cq37, kq37, q37a, q37b, q37c⟩ := isOf hZ e31 ((E_a1.wr W19).wr W31)
  obtain ⟨_, _, ⟨T37, L37, k37, n37⟩, -, X37, ⟨Lc37, hQ37, l37, y37, z37⟩, st37⟩ := X31.virtualBack hx (y := (⟨"com/example/unicept/unicept/WordTrie", "child", "(II)I"⟩ : MethodName)) (z := (⟨"com/example/unicept/unicept/WordTrie", "child", "(II)I"⟩ : MethodName)) hown (mvT hZ (hw _ (List.mem_of_getElem? (i := 47) rfl))) (mvT hZ (hw _ (List.mem_of_getElem? (i := 48) rfl))) (notFace_of_selects (args := #[]) (mvT hZ (hw _ (List.mem_of_getElem? (i := 50) rfl)))) (mvT hZ (hw _ (List.mem_of_getElem? (i := 50) rfl))) (mvT hZ (hw _ (List.mem_of_getElem? (i := 49) rfl))) (by decide) (backOf (W := 0) (own_child l Z a0 hw [] a1 r (k + 1) ch (own_ad f r k nd qw1) rt (own_up gg k (gg nd)) tg kt vts k qw2 h31 n0 (Nat.le_trans (Nat.le_trans (Nat.le_trans Z0 K9q.1) (Keep.of_wr W19).1) (Keep.of_wr W31).1) hT33 hr8 (own_ix (nd := k) (k := k + 1) (Nat.lt_succ_self k) (by omega) hq2)) hZ (hw _ (List.mem_of_getElem? (i := 51) rfl)) (hw _ (List.mem_of_getElem? (i := 3) rfl)) (by decide) (by decide)) q37a q37c (g := (mkF m 31 #[.val (.ref a1), .val (.int (Int32.ofNat nd)), .val (.ref wd), .val (.int (Int32.ofNat k)), .val (.ref wd), .val (.int (2 : Int32)), .val (.int (1 : Int32)), .val (.int (Int32.ofNat qw2)), .val (.int (Int32.ofNat k))] [(.int (Int32.ofNat qw2)), (.int (Int32.ofNat k)), (.ref a1)])) rfl (by rw [hml]; rfl) (Steps.refl _) (argsL := [(.int (Int32.ofNat k)), (.int (Int32.ofNat qw2))]) (rest := []) (lenOf own_pd3 rfl) rfl (by show 2 * 0 + _ ≤ _; exact Nat.le_of_eq rfl) (hb hby own_daddown_add2_31) (fun _ _ => ⟨rfl, e31, (by decide : 0 + 0 ≤ _), (by decide : 0 + 0 ≤ _)⟩)
  dsimp only [Pt.U, Pt.locs, Pt.cells, Pt.slots] at X37 l37 y37 z37 st37 hQ37
  subst l37 y37 z37
  obtain ⟨rfl, N37q, e37⟩ := hQ37
  have N37 := Fr.app N31 N37q
  have pre38 : Goes p e below s₁ (entryFrame m #[(.ref a1), (.int (Int32.ofNat nd)), (.ref wd)] 9) T37 (mkF m 34 #[.val (.ref a1), .val (.int (Int32.ofNat nd)), .val (.ref wd), .val (.int (Int32.ofNat k)), .val (.ref wd), .val (.int (2 : Int32)), .val (.int (1 : Int32)), .val (.int (Int32.ofNat qw2)), .val (.int (Int32.ofNat k))] [(.int ((own_ad f r k nd qw1) (k * r + qw2)))]) := fun t kt => pre36 t (st37.trans kt)
  have pre39 : Goes p e below s₁ (entryFrame m #[(.ref a1), (.int (Int32.ofNat nd)), (.ref wd)] 9) T37 (mkF m 43 #[.val (.ref a1), .val (.int (Int32.ofNat nd)), .val (.ref wd), .val (.int (Int32.ofNat k)), .val (.ref wd), .val (.int (2 : Int32)), .val (.int (1 : Int32)), .val (.int (Int32.ofNat qw2)), .val (.int ((own_ad f r k nd qw1) (k * r + qw2)))] [(.ref a1)]) := fun t kt => pre38 t (by
      show Steps p.tables e below (T37.setTop (mkF m 34 #[.val (.ref a1), .val (.int (Int32.ofNat nd)), .val (.ref wd), .val (.int (Int32.ofNat k)), .val (.ref wd), .val (.int (2 : Int32)), .val (.int (1 : Int32)), .val (.int (Int32.ofNat qw2)), .val (.int (Int32.ofNat k))] [(.int ((own_ad f r k nd qw1) (k * r + qw2)))])) _
      refine XS.istore X37.here hx rfl (hb hby own_daddown_add2_34) rfl (l' := #[.val (.ref a1), .val (.int (Int32.ofNat nd)), .val (.ref wd), .val (.int (Int32.ofNat k)), .val (.ref wd), .val (.int (2 : Int32)), .val (.int (1 : Int32)), .val (.int (Int32.ofNat qw2)), .val (.int ((own_ad f r k nd qw1) (k * r + qw2)))]) rfl ?_
      show Steps p.tables e below (T37.setTop (mkF m 36 #[.val (.ref a1), .val (.int (Int32.ofNat nd)), .val (.ref wd), .val (.int (Int32.ofNat k)), .val (.ref wd), .val (.int (2 : Int32)), .val (.int (1 : Int32)), .val (.int (Int32.ofNat qw2)), .val (.int ((own_ad f r k nd qw1) (k * r + qw2)))] [])) _
      refine XS.iload X37.here hx rfl (hb hby own_daddown_add2_36) rfl ?_
      show Steps p.tables e below (T37.setTop (mkF m 38 #[.val (.ref a1), .val (.int (Int32.ofNat nd)), .val (.ref wd), .val (.int (Int32.ofNat k)), .val (.ref wd), .val (.int (2 : Int32)), .val (.int (1 : Int32)), .val (.int (Int32.ofNat qw2)), .val (.int ((own_ad f r k nd qw1) (k * r + qw2)))] [(.int ((own_ad f r k nd qw1) (k * r + qw2)))])) _
      refine XS.iconst X37.here hx rfl (hb hby own_daddown_add2_38) ?_
      show Steps p.tables e below (T37.setTop (mkF m 39 #[.val (.ref a1), .val (.int (Int32.ofNat nd)), .val (.ref wd), .val (.int (Int32.ofNat k)), .val (.ref wd), .val (.int (2 : Int32)), .val (.int (1 : Int32)), .val (.int (Int32.ofNat qw2)), .val (.int ((own_ad f r k nd qw1) (k * r + qw2)))] [(.int (-1 : Int32)), (.int ((own_ad f r k nd qw1) (k * r + qw2)))])) _
      refine XS.icmpNo X37.here hx rfl (hb hby own_daddown_add2_39) rfl (teq (own_ad_new f hnd hq1 hq2 : ((own_ad f r k nd qw1) (k * r + qw2)) = (-1 : Int32))).2 ?_
      show Steps p.tables e below (T37.setTop (mkF m 42 #[.val (.ref a1), .val (.int (Int32.ofNat nd)), .val (.ref wd), .val (.int (Int32.ofNat k)), .val (.ref wd), .val (.int (2 : Int32)), .val (.int (1 : Int32)), .val (.int (Int32.ofNat qw2)), .val (.int ((own_ad f r k nd qw1) (k * r + qw2)))] [])) _
      refine XS.aloadN X37.here hx rfl (hb hby own_daddown_add2_42) rfl rfl ?_
      exact kt)
  obtain ⟨cq40, qc40, qd40⟩ := ((E_a1.wr W19).wr W31).cell
  obtain ⟨_, _, ⟨T40, L40, k40, n40⟩, -, X40, ⟨Lc40, hQ40, l40, y40, z40⟩, st40⟩ := X37.privateBack hx (y := (⟨"com/example/unicept/unicept/WordTrie", "newNode", "()I"⟩ : MethodName)) hown (mvT hZ (hw _ (List.mem_of_getElem? (i := 29) rfl))) (mvT hZ (hw _ (List.mem_of_getElem? (i := 30) rfl))) (own_sel (mvT hZ (hw _ (List.mem_of_getElem? (i := 2) rfl))) (mvP hZ (hw _ (List.mem_of_getElem? (i := 31) rfl))) (mvT hZ (hw _ (List.mem_of_getElem? (i := 30) rfl))) (by decide)) (Cond.privateMethod_at (mvP hZ (hw _ (List.mem_of_getElem? (i := 31) rfl)) (args := #[]))) (mvT hZ (hw _ (List.mem_of_getElem? (i := 32) rfl))) (by decide) (backOf (W := 0) (own_newNode l Z a0 hw [] a1 r (k + 1) ch (own_ad f r k nd qw1) rt (own_up gg k (gg nd)) tg kt vts h31 n0 (Nat.le_trans (Nat.le_trans (Nat.le_trans Z0 K9q.1) (Keep.of_wr W19).1) (Keep.of_wr W31).1) hT33 hr1 hr8 (by omega)) hZ (hw _ (List.mem_of_getElem? (i := 32) rfl)) (hw _ (List.mem_of_getElem? (i := 3) rfl)) (by decide) (by decide)) (g := (mkF m 43 #[.val (.ref a1), .val (.int (Int32.ofNat nd)), .val (.ref wd), .val (.int (Int32.ofNat k)), .val (.ref wd), .val (.int (2 : Int32)), .val (.int (1 : Int32)), .val (.int (Int32.ofNat qw2)), .val (.int ((own_ad f r k nd qw1) (k * r + qw2)))] [(.ref a1)])) rfl (by rw [hml]; rfl) (Steps.refl _) (a := a1) (by rw [e37]; exact qc40) qd40 (argsL := []) (rest := []) (lenOf own_pd2 rfl) rfl (by show 2 * 0 + _ ≤ _; exact Nat.le_of_eq rfl) (hb hby own_daddown_add2_43) (fun _ _ => ⟨rfl, e37, (by decide : 0 + 0 ≤ _), (by decide : 0 + 0 ≤ _)⟩)
  dsimp only [Pt.U, Pt.locs, Pt.cells, Pt.slots] at X40 l40 y40 z40 st40 hQ40
  subst l40 y40 z40
  obtain ⟨rfl, N40q, K40q, hT40⟩ := hQ40
  have N40 := Fr.app N37 N40q
  have KC40 : Keep h0 T40.heap [a1, ch, rt] := K31.trans K40q (allS (Or.inl (List.mem_of_getElem? (i := 0) rfl)) (allS (Or.inl (List.mem_of_getElem? (i := 1) rfl)) all0))
  have pre41 : Goes p e below s₁ (entryFrame m #[(.ref a1), (.int (Int32.ofNat nd)), (.ref wd)] 9) T40 (mkF m 46 #[.val (.ref a1), .val (.int (Int32.ofNat nd)), .val (.ref wd), .val (.int (Int32.ofNat k)), .val (.ref wd), .val (.int (2 : Int32)), .val (.int (1 : Int32)), .val (.int (Int32.ofNat qw2)), .val (.int ((own_ad f r k nd qw1) (k * r + qw2)))] [(.int (Int32.ofNat (k + 1)))]) := fun t kt => pre39 t (st40.trans kt)
  obtain ⟨E_a1, F_roles, F_children, F_roots, F_tags, F_size, V_ch, V_rt, V_tg, g_a1, g_ch, g_rt, g_tg, nac, nar, nat, ncr, nct, nrt⟩ := hT40
  have pre42 : Goes p e below s₁ (entryFrame m #[(.ref a1), (.int (Int32.ofNat nd)), (.ref wd)] 9) T40 (mkF m 49 #[.val (.ref a1), .val (.int (Int32.ofNat nd)), .val (.ref wd), .val (.int (Int32.ofNat k)), .val (.ref wd), .val (.int (2 : Int32)), .val (.int (1 : Int32)), .val (.int (Int32.ofNat qw2)), .val (.int (Int32.ofNat (k + 1)))] [(.ref a1)]) := fun t kt => pre41 t (by
      show Steps p.tables e below (T40.setTop (mkF m 46 #[.val (.ref a1), .val (.int (Int32.ofNat nd)), .val (.ref wd), .val (.int (Int32.ofNat k)), .val (.ref wd), .val (.int (2 : Int32)), .val (.int (1 : Int32)), .val (.int (Int32.ofNat qw2)), .val (.int ((own_ad f r k nd qw1) (k * r + qw2)))] [(.int (Int32.ofNat (k + 1)))])) _
      refine XS.istore X40.here hx rfl (hb hby own_daddown_add2_46) rfl (l' := #[.val (.ref a1), .val (.int (Int32.ofNat nd)), .val (.ref wd), .val (.int (Int32.ofNat k)), .val (.ref wd), .val (.int (2 : Int32)), .val (.int (1 : Int32)), .val (.int (Int32.ofNat qw2)), .val (.int (Int32.ofNat (k + 1)))]) rfl ?_
      show Steps p.tables e below (T40.setTop (mkF m 48 #[.val (.ref a1), .val (.int (Int32.ofNat nd)), .val (.ref wd), .val (.int (Int32.ofNat k)), .val (.ref wd), .val (.int (2 : Int32)), .val (.int (1 : Int32)), .val (.int (Int32.ofNat qw2)), .val (.int (Int32.ofNat (k + 1)))] [])) _
      refine XS.aloadN X40.here hx rfl (hb hby own_daddown_add2_48) rfl rfl ?_
      exact kt)
  obtain ⟨T43, X43, e43, st43⟩ := getF X40 hx hZ hown (host := "") (Or.inl (hw _ (List.mem_of_getElem? (i := 16) rfl))) Via.refl rfl F_children (g := (mkF m 49 #[.val (.ref a1), .val (.int (Int32.ofNat nd)), .val (.ref wd), .val (.int (Int32.ofNat k)), .val (.ref wd), .val (.int (2 : Int32)), .val (.int (1 : Int32)), .val (.int (Int32.ofNat qw2)), .val (.int (Int32.ofNat (k + 1)))] [(.ref a1)])) rfl rfl (hb hby own_daddown_add2_49)
  have pre44 : Goes p e below s₁ (entryFrame m #[(.ref a1), (.int (Int32.ofNat nd)), (.ref wd)] 9) T43 (mkF m 52 #[.val (.ref a1), .val (.int (Int32.ofNat nd)), .val (.ref wd), .val (.int (Int32.ofNat k)), .val (.ref wd), .val (.int (2 : Int32)), .val (.int (1 : Int32)), .val (.int (Int32.ofNat qw2)), .val (.int (Int32.ofNat (k + 1)))] [(.ref ch)]) := fun t kt => pre42 t (st43 t kt)
  have pre45 : Goes p e below s₁ (entryFrame m #[(.ref a1), (.int (Int32.ofNat nd)), (.ref wd)] 9) T43 (mkF m 54 #[.val (.ref a1), .val (.int (Int32.ofNat nd)), .val (.ref wd), .val (.int (Int32.ofNat k)), .val (.ref wd), .val (.int (2 : Int32)), .val (.int (1 : Int32)), .val (.int (Int32.ofNat qw2)), .val (.int (Int32.ofNat (k + 1)))] [(.ref a1), (.int (Int32.ofNat k)), (.ref ch)]) := fun t kt => pre44 t (by
      show Steps p.tables e below (T43.setTop (mkF m 52 #[.val (.ref a1), .val (.int (Int32.ofNat nd)), .val (.ref wd), .val (.int (Int32.ofNat k)), .val (.ref wd), .val (.int (2 : Int32)), .val (.int (1 : Int32)), .val (.int (Int32.ofNat qw2)), .val (.int (Int32.ofNat (k + 1)))] [(.ref ch)])) _
      refine XS.iloadN X43.here hx rfl (hb hby own_daddown_add2_52) rfl ?_
      show Steps p.tables e below (T43.setTop (mkF m 53 #[.val (.ref a1), .val (.int (Int32.ofNat nd)), .val (.ref wd), .val (.int (Int32.ofNat k)), .val (.ref wd), .val (.int (2 : Int32)), .val (.int (1 : Int32)), .val (.int (Int32.ofNat qw2)), .val (.int (Int32.ofNat (k + 1)))] [(.int (Int32.ofNat k)), (.ref ch)])) _
      refine XS.aloadN X43.here hx rfl (hb hby own_daddown_add2_53) rfl rfl ?_
      exact kt)
  obtain ⟨T46, X46, e46, st46⟩ := getF X43 hx hZ hown (host := "") (Or.inl (hw _ (List.mem_of_getElem? (i := 10) rfl))) Via.refl e43 F_roles (g := (mkF m 54 #[.val (.ref a1), .val (.int (Int32.ofNat nd)), .val (.ref wd), .val (.int (Int32.ofNat k)), .val (.ref wd), .val (.int (2 : Int32)), .val (.int (1 : Int32)), .val (.int (Int32.ofNat qw2)), .val (.int (Int32.ofNat (k + 1)))] [(.ref a1), (.int (Int32.ofNat k)), (.ref ch)])) rfl rfl (hb hby own_daddown_add2_54)
  have pre47 : Goes p e below s₁ (entryFrame m #[(.ref a1), (.int (Int32.ofNat nd)), (.ref wd)] 9) T46 (mkF m 57 #[.val (.ref a1), .val (.int (Int32.ofNat nd)), .val (.ref wd), .val (.int (Int32.ofNat k)), .val (.ref wd), .val (.int (2 : Int32)), .val (.int (1 : Int32)), .val (.int (Int32.ofNat qw2)), .val (.int (Int32.ofNat (k + 1)))] [(.int (Int32.ofNat r)), (.int (Int32.ofNat k)), (.ref ch)]) := fun t kt => pre45 t (st46 t kt)
  have pre48 : Goes p e below s₁ (entryFrame m #[(.ref a1), (.int (Int32.ofNat nd)), (.ref wd)] 9) T46 (mkF m 63 #[.val (.ref a1), .val (.int (Int32.ofNat nd)), .val (.ref wd), .val (.int (Int32.ofNat k)), .val (.ref wd), .val (.int (2 : Int32)), .val (.int (1 : Int32)), .val (.int (Int32.ofNat qw2)), .val (.int (Int32.ofNat (k + 1)))] [(.int (Int32.ofNat (k + 1))), (.int (((Int32.ofNat k) * (Int32.ofNat r)) + (Int32.ofNat qw2))), (.ref ch)]) := fun t kt => pre47 t (by
      show Steps p.tables e below (T46.setTop (mkF m 57 #[.val (.ref a1), .val (.int (Int32.ofNat nd)), .val (.ref wd), .val (.int (Int32.ofNat k)), .val (.ref wd), .val (.int (2 : Int32)), .val (.int (1 : Int32)), .val (.int (Int32.ofNat qw2)), .val (.int (Int32.ofNat (k + 1)))] [(.int (Int32.ofNat r)), (.int (Int32.ofNat k)), (.ref ch)])) _
      refine XS.imul X46.here hx rfl (hb hby own_daddown_add2_57) rfl ?_
      show Steps p.tables e below (T46.setTop (mkF m 58 #[.val (.ref a1), .val (.int (Int32.ofNat nd)), .val (.ref wd), .val (.int (Int32.ofNat k)), .val (.ref wd), .val (.int (2 : Int32)), .val (.int (1 : Int32)), .val (.int (Int32.ofNat qw2)), .val (.int (Int32.ofNat (k + 1)))] [(.int ((Int32.ofNat k) * (Int32.ofNat r))), (.ref ch)])) _
      refine XS.iload X46.here hx rfl (hb hby own_daddown_add2_58) rfl ?_
      show Steps p.tables e below (T46.setTop (mkF m 60 #[.val (.ref a1), .val (.int (Int32.ofNat nd)), .val (.ref wd), .val (.int (Int32.ofNat k)), .val (.ref wd), .val (.int (2 : Int32)), .val (.int (1 : Int32)), .val (.int (Int32.ofNat qw2)), .val (.int (Int32.ofNat (k + 1)))] [(.int (Int32.ofNat qw2)), (.int ((Int32.ofNat k) * (Int32.ofNat r))), (.ref ch)])) _
      refine XS.iadd X46.here hx rfl (hb hby own_daddown_add2_60) rfl ?_
      show Steps p.tables e below (T46.setTop (mkF m 61 #[.val (.ref a1), .val (.int (Int32.ofNat nd)), .val (.ref wd), .val (.int (Int32.ofNat k)), .val (.ref wd), .val (.int (2 : Int32)), .val (.int (1 : Int32)), .val (.int (Int32.ofNat qw2)), .val (.int (Int32.ofNat (k + 1)))] [(.int (((Int32.ofNat k) * (Int32.ofNat r)) + (Int32.ofNat qw2))), (.ref ch)])) _
      refine XS.iload X46.here hx rfl (hb hby own_daddown_add2_61) rfl ?_
      exact kt)
  rw [show ((Int32.ofNat k) * (Int32.ofNat r)) = (Int32.ofNat (k * r)) from own_mul k r] at pre48
  rw [show ((Int32.ofNat (k * r)) + (Int32.ofNat qw2)) = (Int32.ofNat (k * r + qw2)) from own_add (k * r) qw2] at pre48
  obtain ⟨cl49, Ar49, S49, H49⟩ := (id (V_ch))
  have hlt49 : (k * r + qw2) < (16 * r) := (own_ix (nd := k) (k := k + 1) (Nat.lt_succ_self k) (by omega) hq2)
  have hin49 : ¬ ((Int32.ofNat (k * r + qw2)) < 0 ∨ cl49.slots.size ≤ ((Int32.ofNat (k * r + qw2))).toNatClampNeg) := own_in S49 hlt49 (by omega)
  obtain ⟨T50, h50, X50, e50, W50, st50⟩ := stI X46 hx hZ e46 Ar49 (j := (Int32.ofNat (k * r + qw2))) hin49 (g := (mkF m 63 #[.val (.ref a1), .val (.int (Int32.ofNat nd)), .val (.ref wd), .val (.int (Int32.ofNat k)), .val (.ref wd), .val (.int (2 : Int32)), .val (.int (1 : Int32)), .val (.int (Int32.ofNat qw2)), .val (.int (Int32.ofNat (k + 1)))] [(.int (Int32.ofNat (k + 1))), (.int (Int32.ofNat (k * r + qw2))), (.ref ch)])) rfl rfl (hb hby own_daddown_add2_63)
  have V50 : own_FA Z h50 ch (16 * r) (own_up (own_fl (own_ad f r k nd qw1) ((k + 1) * r) ((k + 1) * r + r) (-1)) (k * r + qw2) (Int32.ofNat (k + 1))) := own_FA.set Ar49 S49 H49 W50 hlt49 (by omega)
  have K50 : Keep h0 h50 [a1, ch, rt] := KC40.wr W50 (Or.inl (List.mem_of_getElem? (i := 1) rfl))
  have N50 := Fr.snoc X50 N40 g_ch
  have pre51 : Goes p e below s₁ (entryFrame m #[(.ref a1), (.int (Int32.ofNat nd)), (.ref wd)] 9) T50 (mkF m 64 #[.val (.ref a1), .val (.int (Int32.ofNat nd)), .val (.ref wd), .val (.int (Int32.ofNat k)), .val (.ref wd), .val (.int (2 : Int32)), .val (.int (1 : Int32)), .val (.int (Int32.ofNat qw2)), .val (.int (Int32.ofNat (k + 1)))] []) := fun t kt => pre48 t (st50 t kt)
  have pre52 : Goes p e below s₁ (entryFrame m #[(.ref a1), (.int (Int32.ofNat nd)), (.ref wd)] 9) T50 (mkF m 65 #[.val (.ref a1), .val (.int (Int32.ofNat nd)), .val (.ref wd), .val (.int (Int32.ofNat k)), .val (.ref wd), .val (.int (2 : Int32)), .val (.int (1 : Int32)), .val (.int (Int32.ofNat qw2)), .val (.int (Int32.ofNat (k + 1)))] [(.ref a1)]) := fun t kt => pre51 t (by
      show Steps p.tables e below (T50.setTop (mkF m 64 #[.val (.ref a1), .val (.int (Int32.ofNat nd)), .val (.ref wd), .val (.int (Int32.ofNat k)), .val (.ref wd), .val (.int (2 : Int32)), .val (.int (1 : Int32)), .val (.int (Int32.ofNat qw2)), .val (.int (Int32.ofNat (k + 1)))] [])) _
      refine XS.aloadN X50.here hx rfl (hb hby own_daddown_add2_64) rfl rfl ?_
      exact kt)
  obtain ⟨T53, X53, e53, st53⟩ := getF X50 hx hZ hown (host := "") (Or.inl (hw _ (List.mem_of_getElem? (i := 18) rfl))) Via.refl e50 (F_roots.other W50 (Or.inl nac)) (g := (mkF m 65 #[.val (.ref a1), .val (.int (Int32.ofNat nd)), .val (.ref wd), .val (.int (Int32.ofNat k)), .val (.ref wd), .val (.int (2 : Int32)), .val (.int (1 : Int32)), .val (.int (Int32.ofNat qw2)), .val (.int (Int32.ofNat (k + 1)))] [(.ref a1)])) rfl rfl (hb hby own_daddown_add2_65)
  have pre54 : Goes p e below s₁ (entryFrame m #[(.ref a1), (.int (Int32.ofNat nd)), (.ref wd)] 9) T53 (mkF m 68 #[.val (.ref a1), .val (.int (Int32.ofNat nd)), .val (.ref wd), .val (.int (Int32.ofNat k)), .val (.ref wd), .val (.int (2 : Int32)), .val (.int (1 : Int32)), .val (.int (Int32.ofNat qw2)), .val (.int (Int32.ofNat (k + 1)))] [(.ref rt)]) := fun t kt => pre52 t (st53 t kt)
  have pre55 : Goes p e below s₁ (entryFrame m #[(.ref a1), (.int (Int32.ofNat nd)), (.ref wd)] 9) T53 (mkF m 71 #[.val (.ref a1), .val (.int (Int32.ofNat nd)), .val (.ref wd), .val (.int (Int32.ofNat k)), .val (.ref wd), .val (.int (2 : Int32)), .val (.int (1 : Int32)), .val (.int (Int32.ofNat qw2)), .val (.int (Int32.ofNat (k + 1)))] [(.ref a1), (.int (Int32.ofNat (k + 1))), (.ref rt)]) := fun t kt => pre54 t (by
      show Steps p.tables e below (T53.setTop (mkF m 68 #[.val (.ref a1), .val (.int (Int32.ofNat nd)), .val (.ref wd), .val (.int (Int32.ofNat k)), .val (.ref wd), .val (.int (2 : Int32)), .val (.int (1 : Int32)), .val (.int (Int32.ofNat qw2)), .val (.int (Int32.ofNat (k + 1)))] [(.ref rt)])) _
      refine XS.iload X53.here hx rfl (hb hby own_daddown_add2_68) rfl ?_
      show Steps p.tables e below (T53.setTop (mkF m 70 #[.val (.ref a1), .val (.int (Int32.ofNat nd)), .val (.ref wd), .val (.int (Int32.ofNat k)), .val (.ref wd), .val (.int (2 : Int32)), .val (.int (1 : Int32)), .val (.int (Int32.ofNat qw2)), .val (.int (Int32.ofNat (k + 1)))] [(.int (Int32.ofNat (k + 1))), (.ref rt)])) _
      refine XS.aloadN X53.here hx rfl (hb hby own_daddown_add2_70) rfl rfl ?_
      exact kt)
  obtain ⟨T56, X56, e56, st56⟩ := getF X53 hx hZ hown (host := "") (Or.inl (hw _ (List.mem_of_getElem? (i := 18) rfl))) Via.refl e53 (F_roots.other W50 (Or.inl nac)) (g := (mkF m 71 #[.val (.ref a1), .val (.int (Int32.ofNat nd)), .val (.ref wd), .val (.int (Int32.ofNat k)), .val (.ref wd), .val (.int (2 : Int32)), .val (.int (1 : Int32)), .val (.int (Int32.ofNat qw2)), .val (.int (Int32.ofNat (k + 1)))] [(.ref a1), (.int (Int32.ofNat (k + 1))), (.ref rt)])) rfl rfl (hb hby own_daddown_add2_71)
  have pre57 : Goes p e below s₁ (entryFrame m #[(.ref a1), (.int (Int32.ofNat nd)), (.ref wd)] 9) T56 (mkF m 74 #[.val (.ref a1), .val (.int (Int32.ofNat nd)), .val (.ref wd), .val (.int (Int32.ofNat k)), .val (.ref wd), .val (.int (2 : Int32)), .val (.int (1 : Int32)), .val (.int (Int32.ofNat qw2)), .val (.int (Int32.ofNat (k + 1)))] [(.ref rt), (.int (Int32.ofNat (k + 1))), (.ref rt)]) := fun t kt => pre55 t (st56 t kt)
  have pre58 : Goes p e below s₁ (entryFrame m #[(.ref a1), (.int (Int32.ofNat nd)), (.ref wd)] 9) T56 (mkF m 75 #[.val (.ref a1), .val (.int (Int32.ofNat nd)), .val (.ref wd), .val (.int (Int32.ofNat k)), .val (.ref wd), .val (.int (2 : Int32)), .val (.int (1 : Int32)), .val (.int (Int32.ofNat qw2)), .val (.int (Int32.ofNat (k + 1)))] [(.int (Int32.ofNat k)), (.ref rt), (.int (Int32.ofNat (k + 1))), (.ref rt)]) := fun t kt => pre57 t (by
      show Steps p.tables e below (T56.setTop (mkF m 74 #[.val (.ref a1), .val (.int (Int32.ofNat nd)), .val (.ref wd), .val (.int (Int32.ofNat k)), .val (.ref wd), .val (.int (2 : Int32)), .val (.int (1 : Int32)), .val (.int (Int32.ofNat qw2)), .val (.int (Int32.ofNat (k + 1)))] [(.ref rt), (.int (Int32.ofNat (k + 1))), (.ref rt)])) _
      refine XS.iloadN X56.here hx rfl (hb hby own_daddown_add2_74) rfl ?_
      exact kt)
  obtain ⟨cl59, Ar59, S59, H59⟩ := (id ((V_rt.other W50 (Ne.symm ncr))))
  have hlt59 : k < 16 := (by omega)
  have hin59 : ¬ ((Int32.ofNat k) < 0 ∨ cl59.slots.size ≤ ((Int32.ofNat k)).toNatClampNeg) := own_in S59 hlt59 (by decide)
  have hat59 : cl59.slots[((Int32.ofNat k)).toNatClampNeg]? = some (.int ((own_up gg k (gg nd)) k)) := own_at H59 hlt59 (by decide)
  have pre60 : Goes p e below s₁ (entryFrame m #[(.ref a1), (.int (Int32.ofNat nd)), (.ref wd)] 9) T56 (mkF m 76 #[.val (.ref a1), .val (.int (Int32.ofNat nd)), .val (.ref wd), .val (.int (Int32.ofNat k)), .val (.ref wd), .val (.int (2 : Int32)), .val (.int (1 : Int32)), .val (.int (Int32.ofNat qw2)), .val (.int (Int32.ofNat (k + 1)))] [(.int ((own_up gg k (gg nd)) k)), (.int (Int32.ofNat (k + 1))), (.ref rt)]) := fun t kt => pre58 t (by
      show Steps p.tables e below (T56.setTop (mkF m 75 #[.val (.ref a1), .val (.int (Int32.ofNat nd)), .val (.ref wd), .val (.int (Int32.ofNat k)), .val (.ref wd), .val (.int (2 : Int32)), .val (.int (1 : Int32)), .val (.int (Int32.ofNat qw2)), .val (.int (Int32.ofNat (k + 1)))] [(.int (Int32.ofNat k)), (.ref rt), (.int (Int32.ofNat (k + 1))), (.ref rt)])) _
      refine X56.iaload hx (j := (Int32.ofNat k)) (v := (.int ((own_up gg k (gg nd)) k))) (by (try rw [e56]); exact Ar59.1) (State.isArrayOf_alike hZ.alike Ar59.2.1) Ar59.2.2 hin59 hat59 (g := (mkF m 75 #[.val (.ref a1), .val (.int (Int32.ofNat nd)), .val (.ref wd), .val (.int (Int32.ofNat k)), .val (.ref wd), .val (.int (2 : Int32)), .val (.int (1 : Int32)), .val (.int (Int32.ofNat qw2)), .val (.int (Int32.ofNat (k + 1)))] [(.int (Int32.ofNat k)), (.ref rt), (.int (Int32.ofNat (k + 1))), (.ref rt)])) rfl rfl (hb hby own_daddown_add2_75) _ ?_
      exact kt)
  obtain ⟨cl61, Ar61, S61, H61⟩ := (id ((V_rt.other W50 (Ne.symm ncr))))
  have hlt61 : (k + 1) < 16 := (by omega)
  have hin61 : ¬ ((Int32.ofNat (k + 1)) < 0 ∨ cl61.slots.size ≤ ((Int32.ofNat (k + 1))).toNatClampNeg) := own_in S61 hlt61 (by decide)
  obtain ⟨T62, h62, X62, e62, W62, st62⟩ := stI X56 hx hZ e56 Ar61 (j := (Int32.ofNat (k + 1))) hin61 (g := (mkF m 76 #[.val (.ref a1), .val (.int (Int32.ofNat nd)), .val (.ref wd), .val (.int (Int32.ofNat k)), .val (.ref wd), .val (.int (2 : Int32)), .val (.int (1 : Int32)), .val (.int (Int32.ofNat qw2)), .val (.int (Int32.ofNat (k + 1)))] [(.int ((own_up gg k (gg nd)) k)), (.int (Int32.ofNat (k + 1))), (.ref rt)])) rfl rfl (hb hby own_daddown_add2_76)
  have V62 : own_FA Z h62 rt 16 (own_up (own_up gg k (gg nd)) (k + 1) ((own_up gg k (gg nd)) k)) := own_FA.set Ar61 S61 H61 W62 hlt61 (by decide)
  have K62 : Keep h0 h62 [a1, ch, rt] := K50.wr W62 (Or.inl (List.mem_of_getElem? (i := 2) rfl))
  have N62 := Fr.snoc X62 N50 g_rt
  have pre63 : Goes p e below s₁ (entryFrame m #[(.ref a1), (.int (Int32.ofNat nd)), (.ref wd)] 9) T62 (mkF m 77 #[.val (.ref a1), .val (.int (Int32.ofNat nd)), .val (.ref wd), .val (.int (Int32.ofNat k)), .val (.ref wd), .val (.int (2 : Int32)), .val (.int (1 : Int32)), .val (.int (Int32.ofNat qw2)), .val (.int (Int32.ofNat (k + 1)))] []) := fun t kt => pre60 t (st62 t kt)
  have hT64 : own_TR Z h62 n0 a1 r ((k + 1) + 1) ch (own_ad (own_ad f r k nd qw1) r (k + 1) k qw2) rt (own_up (own_up gg k (gg nd)) (k + 1) ((own_up gg k (gg nd)) k)) tg kt vts := ⟨((E_a1.wr W50).wr W62), ((F_roles.other W50 (Or.inl nac)).other W62 (Or.inl nar)), ((F_children.other W50 (Or.inl nac)).other W62 (Or.inl nar)), ((F_roots.other W50 (Or.inl nac)).other W62 (Or.inl nar)), ((F_tags.other W50 (Or.inl nac)).other W62 (Or.inl nar)), ((F_size.other W50 (Or.inl nac)).other W62 (Or.inl nar)), (V50.other W62 ncr), V62, ((V_tg.other W50 (Ne.symm nct)).other W62 (Ne.symm nrt)), g_a1, g_ch, g_rt, g_tg, nac, nar, nat, ncr, nct, nrt⟩
  have pre65 : Goes p e below s₁ (entryFrame m #[(.ref a1), (.int (Int32.ofNat nd)), (.ref wd)] 9) T62 (mkF m 87 #[.val (.ref a1), .val (.int (Int32.ofNat nd)), .val (.ref wd), .val (.int (Int32.ofNat (k + 1))), .val (.ref wd), .val (.int (2 : Int32)), .val (.int (2 : Int32)), .val (.int (Int32.ofNat qw2)), .val (.int (Int32.ofNat (k + 1)))] [(.int (Int32.ofNat (k + 1)))]) := fun t kt => pre63 t (by
      show Steps p.tables e below (T62.setTop (mkF m 77 #[.val (.ref a1), .val (.int (Int32.ofNat nd)), .val (.ref wd), .val (.int (Int32.ofNat k)), .val (.ref wd), .val (.int (2 : Int32)), .val (.int (1 : Int32)), .val (.int (Int32.ofNat qw2)), .val (.int (Int32.ofNat (k + 1)))] [])) _
      refine XS.iload X62.here hx rfl (hb hby own_daddown_add2_77) rfl ?_
      show Steps p.tables e below (T62.setTop (mkF m 79 #[.val (.ref a1), .val (.int (Int32.ofNat nd)), .val (.ref wd), .val (.int (Int32.ofNat k)), .val (.ref wd), .val (.int (2 : Int32)), .val (.int (1 : Int32)), .val (.int (Int32.ofNat qw2)), .val (.int (Int32.ofNat (k + 1)))] [(.int (Int32.ofNat (k + 1)))])) _
      refine XS.istoreN X62.here hx rfl (hb hby own_daddown_add2_79) rfl (l' := #[.val (.ref a1), .val (.int (Int32.ofNat nd)), .val (.ref wd), .val (.int (Int32.ofNat (k + 1))), .val (.ref wd), .val (.int (2 : Int32)), .val (.int (1 : Int32)), .val (.int (Int32.ofNat qw2)), .val (.int (Int32.ofNat (k + 1)))]) rfl ?_
      show Steps p.tables e below (T62.setTop (mkF m 80 #[.val (.ref a1), .val (.int (Int32.ofNat nd)), .val (.ref wd), .val (.int (Int32.ofNat (k + 1))), .val (.ref wd), .val (.int (2 : Int32)), .val (.int (1 : Int32)), .val (.int (Int32.ofNat qw2)), .val (.int (Int32.ofNat (k + 1)))] [])) _
      refine XS.iinc X62.here hx rfl (hb hby own_daddown_add2_80) rfl (l' := #[.val (.ref a1), .val (.int (Int32.ofNat nd)), .val (.ref wd), .val (.int (Int32.ofNat (k + 1))), .val (.ref wd), .val (.int (2 : Int32)), .val (.int (2 : Int32)), .val (.int (Int32.ofNat qw2)), .val (.int (Int32.ofNat (k + 1)))]) rfl ?_
      show Steps p.tables e below (T62.setTop (mkF m 83 #[.val (.ref a1), .val (.int (Int32.ofNat nd)), .val (.ref wd), .val (.int (Int32.ofNat (k + 1))), .val (.ref wd), .val (.int (2 : Int32)), .val (.int (2 : Int32)), .val (.int (Int32.ofNat qw2)), .val (.int (Int32.ofNat (k + 1)))] [])) _
      refine XS.goto X62.here hx rfl (pc0 := 83) (pc' := 13) rfl (hb hby own_daddown_add2_83) (by decide) (by decide) ?_
      show Steps p.tables e below (T62.setTop (mkF m 13 #[.val (.ref a1), .val (.int (Int32.ofNat nd)), .val (.ref wd), .val (.int (Int32.ofNat (k + 1))), .val (.ref wd), .val (.int (2 : Int32)), .val (.int (2 : Int32)), .val (.int (Int32.ofNat qw2)), .val (.int (Int32.ofNat (k + 1)))] [])) _
      refine XS.iload X62.here hx rfl (hb hby own_daddown_add2_13) rfl ?_
      show Steps p.tables e below (T62.setTop (mkF m 15 #[.val (.ref a1), .val (.int (Int32.ofNat nd)), .val (.ref wd), .val (.int (Int32.ofNat (k + 1))), .val (.ref wd), .val (.int (2 : Int32)), .val (.int (2 : Int32)), .val (.int (Int32.ofNat qw2)), .val (.int (Int32.ofNat (k + 1)))] [(.int (2 : Int32))])) _
      refine XS.iload X62.here hx rfl (hb hby own_daddown_add2_15) rfl ?_
      show Steps p.tables e below (T62.setTop (mkF m 17 #[.val (.ref a1), .val (.int (Int32.ofNat nd)), .val (.ref wd), .val (.int (Int32.ofNat (k + 1))), .val (.ref wd), .val (.int (2 : Int32)), .val (.int (2 : Int32)), .val (.int (Int32.ofNat qw2)), .val (.int (Int32.ofNat (k + 1)))] [(.int (2 : Int32)), (.int (2 : Int32))])) _
      refine XS.icmpYes X62.here hx rfl (pc0 := 17) (pc' := 86) rfl (hb hby own_daddown_add2_17) rfl (flt (by decide : ¬ ((2 : Int32) < (2 : Int32)))).2.1 (by decide) (by decide) ?_
      show Steps p.tables e below (T62.setTop (mkF m 86 #[.val (.ref a1), .val (.int (Int32.ofNat nd)), .val (.ref wd), .val (.int (Int32.ofNat (k + 1))), .val (.ref wd), .val (.int (2 : Int32)), .val (.int (2 : Int32)), .val (.int (Int32.ofNat qw2)), .val (.int (Int32.ofNat (k + 1)))] [])) _
      refine XS.iloadN X62.here hx rfl (hb hby own_daddown_add2_86) rfl ?_
      exact kt)
  obtain ⟨fs, hr, hrun, hended, hW, hsame⟩ := X62.leave (v := some (.int (Int32.ofNat (k + 1)))) (fun h => by rw [Bd.returns] at h; cases h)
  refine ⟨_, _, pre65 _ ?_, hrun, hended, _, _, rfl, ?_, ⟨_, rfl⟩, hW, hsame.mono (by decide) (by decide)⟩
  · show Steps p.tables e below (T62.setTop (mkF m 87 #[.val (.ref a1), .val (.int (Int32.ofNat nd)), .val (.ref wd), .val (.int (Int32.ofNat (k + 1))), .val (.ref wd), .val (.int (2 : Int32)), .val (.int (2 : Int32)), .val (.int (Int32.ofNat qw2)), .val (.int (Int32.ofNat (k + 1)))] [(.int (Int32.ofNat (k + 1)))])) _
    exact retI X62 hx Bd.returns (hb hby own_daddown_add2_87) hr
  · show Q_own_add2 Z a1 r k ch f rt gg tg kt vts nd qw1 qw2 wd kw h0 n0 _ T62.heap _
    rw [e62]
    exact ⟨rfl, N62, K62, hT64⟩

theorem own_daddown_add1_0 : decode prog_26_method_3_code 0 = .ok (.iload_n 1, 1) := by decide +kernel
theorem own_daddown_add1_1 : decode prog_26_method_3_code 1 = .ok (.istore_n 3, 1) := by decide +kernel
theorem own_daddown_add1_2 : decode prog_26_method_3_code 2 = .ok (.aload_n 2, 1) := by decide +kernel
theorem own_daddown_add1_3 : decode prog_26_method_3_code 3 = .ok (.astore 4, 2) := by decide +kernel
theorem own_daddown_add1_5 : decode prog_26_method_3_code 5 = .ok (.aload 4, 2) := by decide +kernel
theorem own_daddown_add1_7 : decode prog_26_method_3_code 7 = .ok (.arraylength, 1) := by decide +kernel
theorem own_daddown_add1_8 : decode prog_26_method_3_code 8 = .ok (.istore 5, 2) := by decide +kernel
theorem own_daddown_add1_10 : decode prog_26_method_3_code 10 = .ok (.iconst 0, 1) := by decide +kernel
theorem own_daddown_add1_11 : decode prog_26_method_3_code 11 = .ok (.istore 6, 2) := by decide +kernel
theorem own_daddown_add1_13 : decode prog_26_method_3_code 13 = .ok (.iload 6, 2) := by decide +kernel
theorem own_daddown_add1_15 : decode prog_26_method_3_code 15 = .ok (.iload 5, 2) := by decide +kernel
theorem own_daddown_add1_17 : decode prog_26_method_3_code 17 = .ok (.if_icmp .ge 69, 3) := by decide +kernel
theorem own_daddown_add1_20 : decode prog_26_method_3_code 20 = .ok (.aload 4, 2) := by decide +kernel
theorem own_daddown_add1_22 : decode prog_26_method_3_code 22 = .ok (.iload 6, 2) := by decide +kernel
theorem own_daddown_add1_24 : decode prog_26_method_3_code 24 = .ok (.iaload, 1) := by decide +kernel
theorem own_daddown_add1_25 : decode prog_26_method_3_code 25 = .ok (.istore 7, 2) := by decide +kernel
theorem own_daddown_add1_27 : decode prog_26_method_3_code 27 = .ok (.aload_n 0, 1) := by decide +kernel
theorem own_daddown_add1_28 : decode prog_26_method_3_code 28 = .ok (.iload_n 3, 1) := by decide +kernel
theorem own_daddown_add1_29 : decode prog_26_method_3_code 29 = .ok (.iload 7, 2) := by decide +kernel
theorem own_daddown_add1_31 : decode prog_26_method_3_code 31 = .ok (.invokevirtual 35, 3) := by decide +kernel
theorem own_daddown_add1_34 : decode prog_26_method_3_code 34 = .ok (.istore 8, 2) := by decide +kernel
theorem own_daddown_add1_36 : decode prog_26_method_3_code 36 = .ok (.iload 8, 2) := by decide +kernel
theorem own_daddown_add1_38 : decode prog_26_method_3_code 38 = .ok (.iconst (-1), 1) := by decide +kernel
theorem own_daddown_add1_39 : decode prog_26_method_3_code 39 = .ok (.if_icmp .ne 38, 3) := by decide +kernel
theorem own_daddown_add1_42 : decode prog_26_method_3_code 42 = .ok (.aload_n 0, 1) := by decide +kernel
theorem own_daddown_add1_43 : decode prog_26_method_3_code 43 = .ok (.invokevirtual 31, 3) := by decide +kernel
theorem own_daddown_add1_46 : decode prog_26_method_3_code 46 = .ok (.istore 8, 2) := by decide +kernel
theorem own_daddown_add1_48 : decode prog_26_method_3_code 48 = .ok (.aload_n 0, 1) := by decide +kernel
theorem own_daddown_add1_49 : decode prog_26_method_3_code 49 = .ok (.getfield 19, 3) := by decide +kernel
theorem own_daddown_add1_52 : decode prog_26_method_3_code 52 = .ok (.iload_n 3, 1) := by decide +kernel
theorem own_daddown_add1_53 : decode prog_26_method_3_code 53 = .ok (.aload_n 0, 1) := by decide +kernel
theorem own_daddown_add1_54 : decode prog_26_method_3_code 54 = .ok (.getfield 7, 3) := by decide +kernel
theorem own_daddown_add1_57 : decode prog_26_method_3_code 57 = .ok (.imul, 1) := by decide +kernel
theorem own_daddown_add1_58 : decode prog_26_method_3_code 58 = .ok (.iload 7, 2) := by decide +kernel
theorem own_daddown_add1_60 : decode prog_26_method_3_code 60 = .ok (.iadd, 1) := by decide +kernel
theorem own_daddown_add1_61 : decode prog_26_method_3_code 61 = .ok (.iload 8, 2) := by decide +kernel
theorem own_daddown_add1_63 : decode prog_26_method_3_code 63 = .ok (.iastore, 1) := by decide +kernel
theorem own_daddown_add1_64 : decode prog_26_method_3_code 64 = .ok (.aload_n 0, 1) := by decide +kernel
theorem own_daddown_add1_65 : decode prog_26_method_3_code 65 = .ok (.getfield 23, 3) := by decide +kernel
theorem own_daddown_add1_68 : decode prog_26_method_3_code 68 = .ok (.iload 8, 2) := by decide +kernel
theorem own_daddown_add1_70 : decode prog_26_method_3_code 70 = .ok (.aload_n 0, 1) := by decide +kernel
theorem own_daddown_add1_71 : decode prog_26_method_3_code 71 = .ok (.getfield 23, 3) := by decide +kernel
theorem own_daddown_add1_74 : decode prog_26_method_3_code 74 = .ok (.iload_n 3, 1) := by decide +kernel
theorem own_daddown_add1_75 : decode prog_26_method_3_code 75 = .ok (.iaload, 1) := by decide +kernel
theorem own_daddown_add1_76 : decode prog_26_method_3_code 76 = .ok (.iastore, 1) := by decide +kernel
theorem own_daddown_add1_77 : decode prog_26_method_3_code 77 = .ok (.iload 8, 2) := by decide +kernel
theorem own_daddown_add1_79 : decode prog_26_method_3_code 79 = .ok (.istore_n 3, 1) := by decide +kernel
theorem own_daddown_add1_80 : decode prog_26_method_3_code 80 = .ok (.iinc 6 1, 3) := by decide +kernel
theorem own_daddown_add1_83 : decode prog_26_method_3_code 83 = .ok (.goto (-70), 3) := by decide +kernel
theorem own_daddown_add1_86 : decode prog_26_method_3_code 86 = .ok (.iload_n 3, 1) := by decide +kernel
theorem own_daddown_add1_87 : decode prog_26_method_3_code 87 = .ok (.ireturn, 1) := by decide +kernel
theorem own_pn_own_add1 : plainName "com/example/unicept/unicept/WordTrie" = true := by first | (simp [plainName, overriddenIn]; done) | decide +kernel
theorem own_ef_own_add1 (m : MethodId) (x0 : Addr) (x1 : Int32) (x2 : Addr) : entryFrame m #[(.ref x0), (.int x1), (.ref x2)] 9 = mkF m 0 #[.val (.ref x0), .val (.int x1), .val (.ref x2), .unset, .unset, .unset, .unset, .unset, .unset] [] := by first | (simp [entryFrame, mkF, argsToLocals, Value.category]; done) | rfl
def Q_own_add1 (Z : State) (a1 : Addr) (r : Nat) (k : Nat) (ch : Addr) (f : Nat → Int32) (rt : Addr) (gg : Nat → Int32) (tg : Addr) (kt : ClassId) (vts : List Value) (nd : Nat) (qw1 : Nat) (wd : Addr) (kw : ClassId) (h0 : Heap) (n0 : Nat) (v : Option Value) (h : Heap) (L : List Loc) : Prop := v = some (.int (Int32.ofNat k)) ∧ Fr n0 L ∧ Keep h0 h [a1, ch, rt] ∧ own_TR Z h n0 a1 r (k + 1) ch (own_ad f r k nd qw1) rt (own_up gg k (gg nd)) tg kt vts
set_option maxRecDepth 65536 in
set_option maxHeartbeats 40000000 in
theorem own_add1 (l : Launch) (Z : State) (a0 : Array Value) (hw : ∀ d ∈ tables_1, d.before a0 Z = true) (ws : List Jvm.Cond) (a1 : Addr) (r : Nat) (k : Nat) (ch : Addr) (f : Nat → Int32) (rt : Addr) (gg : Nat → Int32) (tg : Addr) (kt : ClassId) (vts : List Value) (nd : Nat) (qw1 : Nat) (wd : Addr) (kw : ClassId) (h0 : Heap) (n0 : Nat) (Z0 : n0 ≤ h0.size) (hT : own_TR Z h0 n0 a1 r k ch f rt gg tg kt vts) (hr1 : 1 ≤ r) (hr8 : r ≤ 8) (hk : k + 1 ≤ 16) (hnd : nd < k) (hq1 : qw1 < r) (V_wd : Arv Z h0 wd kw .int (1 : Int32) [(.int (Int32.ofNat qw1))] (.int (0 : Int32))) (nwa : wd ≠ a1) (nwc : wd ≠ ch) (nwr : wd ≠ rt) (hf : f (nd * r + qw1) = -1) :
    MetFree l (⟨"com/example/unicept/unicept/WordTrie", "add", "(I[I)I"⟩ : MethodName) (head1 (Jvm.Cond.code (⟨"com/example/unicept/unicept/WordTrie", "add", "(I[I)I"⟩ : MethodName) prog_26_method_3_code 9 (some .int) :: ws) ({ frames := 3, cells := 0, slots := 0, locals := 43 } : Room)) (fun a U => a = #[(.ref a1), (.int (Int32.ofNat nd)), (.ref wd)] ∧ Z.Warmed39 U.vm ∧ U.heap = h0) (fun _ _ _ _ _ => True) (fun _ U o U' => ∃ v L, o = .returned v ∧ Q_own_add1 Z a1 r k ch f rt gg tg kt vts nd qw1 wd kw h0 n0 v U'.heap L ∧ FrameEnd U o U' L ({ frames := 3, cells := 0, slots := 0, locals := 43 } : Room).cells ({ frames := 3, cells := 0, slots := 0, locals := 43 } : Room).slots) := by
  refine MetFree.of_bodySF (plainFor_of_name own_pn_own_add1) hisR ?_
  intro p e s m args below meth c s₁ Bd hml0 hP hK
  obtain ⟨rfl, hZ, hh⟩ := hP
  have hx := Bd.exec
  have hby := Bd.bytes
  have hml : c.maxLocals = 9 := hml0
  have hown : s.vm.findClass "com/example/unicept/unicept/WordTrie" = some m.cls := findClass_of_methodNamed Bd.named
  have hnm := (name_of_methodNamed Bd.named Bd.method).1
  have X0 : Stand p l e ({ frames := 3, cells := 0, slots := 0, locals := 43 } : Room) s m #[(.ref a1), (.int (Int32.ofNat nd)), (.ref wd)] below meth c s₁ [] 0 0 := Stand.of_body Bd
  have e0 : s₁.heap = h0 := by rw [← hh, Bd.state]; rfl
  have N0 := Fr.nil n0
  have pre0 : Goes p e below s₁ (entryFrame m #[(.ref a1), (.int (Int32.ofNat nd)), (.ref wd)] 9) s₁ (mkF m 0 #[.val (.ref a1), .val (.int (Int32.ofNat nd)), .val (.ref wd), .unset, .unset, .unset, .unset, .unset, .unset] []) := fun t k => castTop (own_ef_own_add1 m a1 (Int32.ofNat nd) wd) k
  have hT0 := hT
  obtain ⟨E_a1, F_roles, F_children, F_roots, F_tags, F_size, V_ch, V_rt, V_tg, g_a1, g_ch, g_rt, g_tg, nac, nar, nat, ncr, nct, nrt⟩ := hT
  have pre1 : Goes p e below s₁ (entryFrame m #[(.ref a1), (.int (Int32.ofNat nd)), (.ref wd)] 9) s₁ (mkF m 7 #[.val (.ref a1), .val (.int (Int32.ofNat nd)), .val (.ref wd), .val (.int (Int32.ofNat nd)), .val (.ref wd), .unset, .unset, .unset, .unset] [(.ref wd)]) := fun t kt => pre0 t (by
      show Steps p.tables e below (s₁.setTop (mkF m 0 #[.val (.ref a1), .val (.int (Int32.ofNat nd)), .val (.ref wd), .unset, .unset, .unset, .unset, .unset, .unset] [])) _
      refine XS.iloadN X0.here hx rfl (hb hby own_daddown_add1_0) rfl ?_
      show Steps p.tables e below (s₁.setTop (mkF m 1 #[.val (.ref a1), .val (.int (Int32.ofNat nd)), .val (.ref wd), .unset, .unset, .unset, .unset, .unset, .unset] [(.int (Int32.ofNat nd))])) _
      refine XS.istoreN X0.here hx rfl (hb hby own_daddown_add1_1) rfl (l' := #[.val (.ref a1), .val (.int (Int32.ofNat nd)), .val (.ref wd), .val (.int (Int32.ofNat nd)), .unset, .unset, .unset, .unset, .unset]) rfl ?_
      show Steps p.tables e below (s₁.setTop (mkF m 2 #[.val (.ref a1), .val (.int (Int32.ofNat nd)), .val (.ref wd), .val (.int (Int32.ofNat nd)), .unset, .unset, .unset, .unset, .unset] [])) _
      refine XS.aloadN X0.here hx rfl (hb hby own_daddown_add1_2) rfl rfl ?_
      show Steps p.tables e below (s₁.setTop (mkF m 3 #[.val (.ref a1), .val (.int (Int32.ofNat nd)), .val (.ref wd), .val (.int (Int32.ofNat nd)), .unset, .unset, .unset, .unset, .unset] [(.ref wd)])) _
      refine XS.astore X0.here hx rfl (hb hby own_daddown_add1_3) rfl rfl (l' := #[.val (.ref a1), .val (.int (Int32.ofNat nd)), .val (.ref wd), .val (.int (Int32.ofNat nd)), .val (.ref wd), .unset, .unset, .unset, .unset]) rfl ?_
      show Steps p.tables e below (s₁.setTop (mkF m 5 #[.val (.ref a1), .val (.int (Int32.ofNat nd)), .val (.ref wd), .val (.int (Int32.ofNat nd)), .val (.ref wd), .unset, .unset, .unset, .unset] [])) _
      refine XS.aload X0.here hx rfl (hb hby own_daddown_add1_5) rfl rfl ?_
      exact kt)
  obtain ⟨cl2, Ar2, q2, S2, N_2, H2, G2⟩ := (id (V_wd))
  have pre3 : Goes p e below s₁ (entryFrame m #[(.ref a1), (.int (Int32.ofNat nd)), (.ref wd)] 9) s₁ (mkF m 24 #[.val (.ref a1), .val (.int (Int32.ofNat nd)), .val (.ref wd), .val (.int (Int32.ofNat nd)), .val (.ref wd), .val (.int (1 : Int32)), .val (.int (0 : Int32)), .unset, .unset] [(.int (0 : Int32)), (.ref wd)]) := fun t kt => pre1 t (by
      show Steps p.tables e below (s₁.setTop (mkF m 7 #[.val (.ref a1), .val (.int (Int32.ofNat nd)), .val (.ref wd), .val (.int (Int32.ofNat nd)), .val (.ref wd), .unset, .unset, .unset, .unset] [(.ref wd)])) _
      refine X0.arraylength hx (by (try rw [e0]); exact Ar2.1) (State.isArrayOf_alike hZ.alike Ar2.2.1) (g := (mkF m 7 #[.val (.ref a1), .val (.int (Int32.ofNat nd)), .val (.ref wd), .val (.int (Int32.ofNat nd)), .val (.ref wd), .unset, .unset, .unset, .unset] [(.ref wd)])) rfl rfl (hb hby own_daddown_add1_7) _ ?_
      rw [len_of S2 N_2]
      show Steps p.tables e below (s₁.setTop (mkF m 8 #[.val (.ref a1), .val (.int (Int32.ofNat nd)), .val (.ref wd), .val (.int (Int32.ofNat nd)), .val (.ref wd), .unset, .unset, .unset, .unset] [(.int (1 : Int32))])) _
      refine XS.istore X0.here hx rfl (hb hby own_daddown_add1_8) rfl (l' := #[.val (.ref a1), .val (.int (Int32.ofNat nd)), .val (.ref wd), .val (.int (Int32.ofNat nd)), .val (.ref wd), .val (.int (1 : Int32)), .unset, .unset, .unset]) rfl ?_
      show Steps p.tables e below (s₁.setTop (mkF m 10 #[.val (.ref a1), .val (.int (Int32.ofNat nd)), .val (.ref wd), .val (.int (Int32.ofNat nd)), .val (.ref wd), .val (.int (1 : Int32)), .unset, .unset, .unset] [])) _
      refine XS.iconst X0.here hx rfl (hb hby own_daddown_add1_10) ?_
      show Steps p.tables e below (s₁.setTop (mkF m 11 #[.val (.ref a1), .val (.int (Int32.ofNat nd)), .val (.ref wd), .val (.int (Int32.ofNat nd)), .val (.ref wd), .val (.int (1 : Int32)), .unset, .unset, .unset] [(.int (0 : Int32))])) _
      refine XS.istore X0.here hx rfl (hb hby own_daddown_add1_11) rfl (l' := #[.val (.ref a1), .val (.int (Int32.ofNat nd)), .val (.ref wd), .val (.int (Int32.ofNat nd)), .val (.ref wd), .val (.int (1 : Int32)), .val (.int (0 : Int32)), .unset, .unset]) rfl ?_
      show Steps p.tables e below (s₁.setTop (mkF m 13 #[.val (.ref a1), .val (.int (Int32.ofNat nd)), .val (.ref wd), .val (.int (Int32.ofNat nd)), .val (.ref wd), .val (.int (1 : Int32)), .val (.int (0 : Int32)), .unset, .unset] [])) _
      refine XS.iload X0.here hx rfl (hb hby own_daddown_add1_13) rfl ?_
      show Steps p.tables e below (s₁.setTop (mkF m 15 #[.val (.ref a1), .val (.int (Int32.ofNat nd)), .val (.ref wd), .val (.int (Int32.ofNat nd)), .val (.ref wd), .val (.int (1 : Int32)), .val (.int (0 : Int32)), .unset, .unset] [(.int (0 : Int32))])) _
      refine XS.iload X0.here hx rfl (hb hby own_daddown_add1_15) rfl ?_
      show Steps p.tables e below (s₁.setTop (mkF m 17 #[.val (.ref a1), .val (.int (Int32.ofNat nd)), .val (.ref wd), .val (.int (Int32.ofNat nd)), .val (.ref wd), .val (.int (1 : Int32)), .val (.int (0 : Int32)), .unset, .unset] [(.int (1 : Int32)), (.int (0 : Int32))])) _
      refine XS.icmpNo X0.here hx rfl (hb hby own_daddown_add1_17) rfl (tlt (by decide : (0 : Int32) < (1 : Int32))).2.1 ?_
      show Steps p.tables e below (s₁.setTop (mkF m 20 #[.val (.ref a1), .val (.int (Int32.ofNat nd)), .val (.ref wd), .val (.int (Int32.ofNat nd)), .val (.ref wd), .val (.int (1 : Int32)), .val (.int (0 : Int32)), .unset, .unset] [])) _
      refine XS.aload X0.here hx rfl (hb hby own_daddown_add1_20) rfl rfl ?_
      show Steps p.tables e below (s₁.setTop (mkF m 22 #[.val (.ref a1), .val (.int (Int32.ofNat nd)), .val (.ref wd), .val (.int (Int32.ofNat nd)), .val (.ref wd), .val (.int (1 : Int32)), .val (.int (0 : Int32)), .unset, .unset] [(.ref wd)])) _
      refine XS.iload X0.here hx rfl (hb hby own_daddown_add1_22) rfl ?_
      exact kt)
  obtain ⟨cl4, Ar4, q4, S4, N_4, H4, G4⟩ := (id (V_wd))
  have hin4 : ¬ ((0 : Int32) < 0 ∨ cl4.slots.size ≤ ((0 : Int32)).toNatClampNeg) := inb_of S4 ⟨by decide, by decide⟩
  have hat4 : cl4.slots[((0 : Int32)).toNatClampNeg]? = some (.int (Int32.ofNat qw1)) := Has.at H4 hin4 rfl
  have pre5 : Goes p e below s₁ (entryFrame m #[(.ref a1), (.int (Int32.ofNat nd)), (.ref wd)] 9) s₁ (mkF m 31 #[.val (.ref a1), .val (.int (Int32.ofNat nd)), .val (.ref wd), .val (.int (Int32.ofNat nd)), .val (.ref wd), .val (.int (1 : Int32)), .val (.int (0 : Int32)), .val (.int (Int32.ofNat qw1)), .unset] [(.int (Int32.ofNat qw1)), (.int (Int32.ofNat nd)), (.ref a1)]) := fun t kt => pre3 t (by
      show Steps p.tables e below (s₁.setTop (mkF m 24 #[.val (.ref a1), .val (.int (Int32.ofNat nd)), .val (.ref wd), .val (.int (Int32.ofNat nd)), .val (.ref wd), .val (.int (1 : Int32)), .val (.int (0 : Int32)), .unset, .unset] [(.int (0 : Int32)), (.ref wd)])) _
      refine X0.iaload hx (j := (0 : Int32)) (v := (.int (Int32.ofNat qw1))) (by (try rw [e0]); exact Ar4.1) (State.isArrayOf_alike hZ.alike Ar4.2.1) Ar4.2.2 hin4 hat4 (g := (mkF m 24 #[.val (.ref a1), .val (.int (Int32.ofNat nd)), .val (.ref wd), .val (.int (Int32.ofNat nd)), .val (.ref wd), .val (.int (1 : Int32)), .val (.int (0 : Int32)), .unset, .unset] [(.int (0 : Int32)), (.ref wd)])) rfl rfl (hb hby own_daddown_add1_24) _ ?_
      show Steps p.tables e below (s₁.setTop (mkF m 25 #[.val (.ref a1), .val (.int (Int32.ofNat nd)), .val (.ref wd), .val (.int (Int32.ofNat nd)), .val (.ref wd), .val (.int (1 : Int32)), .val (.int (0 : Int32)), .unset, .unset] [(.int (Int32.ofNat qw1))])) _
      refine XS.istore X0.here hx rfl (hb hby own_daddown_add1_25) rfl (l' := #[.val (.ref a1), .val (.int (Int32.ofNat nd)), .val (.ref wd), .val (.int (Int32.ofNat nd)), .val (.ref wd), .val (.int (1 : Int32)), .val (.int (0 : Int32)), .val (.int (Int32.ofNat qw1)), .unset]) rfl ?_
      show Steps p.tables e below (s₁.setTop (mkF m 27 #[.val (.ref a1), .val (.int (Int32.ofNat nd)), .val (.ref wd), .val (.int (Int32.ofNat nd)), .val (.ref wd), .val (.int (1 : Int32)), .val (.int (0 : Int32)), .val (.int (Int32.ofNat qw1)), .unset] [])) _
      refine XS.aloadN X0.here hx rfl (hb hby own_daddown_add1_27) rfl rfl ?_
      show Steps p.tables e below (s₁.setTop (mkF m 28 #[.val (.ref a1), .val (.int (Int32.ofNat nd)), .val (.ref wd), .val (.int (Int32.ofNat nd)), .val (.ref wd), .val (.int (1 : Int32)), .val (.int (0 : Int32)), .val (.int (Int32.ofNat qw1)), .unset] [(.ref a1)])) _
      refine XS.iloadN X0.here hx rfl (hb hby own_daddown_add1_28) rfl ?_
      show Steps p.tables e below (s₁.setTop (mkF m 29 #[.val (.ref a1), .val (.int (Int32.ofNat nd)), .val (.ref wd), .val (.int (Int32.ofNat nd)), .val (.ref wd), .val (.int (1 : Int32)), .val (.int (0 : Int32)), .val (.int (Int32.ofNat qw1)), .unset] [(.int (Int32.ofNat nd)), (.ref a1)])) _
      refine XS.iload X0.here hx rfl (hb hby own_daddown_add1_29) rfl ?_
      exact kt)
  obtain ⟨cq6, kq6, q6a, q6b, q6c⟩ := isOf hZ e0 E_a1
  obtain ⟨_, _, ⟨T6, L6, k6, n6⟩, -, X6, ⟨Lc6, hQ6, l6, y6, z6⟩, st6⟩ := X0.virtualBack hx (y := (⟨"com/example/unicept/unicept/WordTrie", "child", "(II)I"⟩ : MethodName)) (z := (⟨"com/example/unicept/unicept/WordTrie", "child", "(II)I"⟩ : MethodName)) hown (mvT hZ (hw _ (List.mem_of_getElem? (i := 47) rfl))) (mvT hZ (hw _ (List.mem_of_getElem? (i := 48) rfl))) (notFace_of_selects (args := #[]) (mvT hZ (hw _ (List.mem_of_getElem? (i := 50) rfl)))) (mvT hZ (hw _ (List.mem_of_getElem? (i := 50) rfl))) (mvT hZ (hw _ (List.mem_of_getElem? (i := 49) rfl))) (by decide) (backOf (W := 0) (own_child l Z a0 hw [] a1 r k ch f rt gg tg kt vts nd qw1 h0 n0 Z0 hT0 hr8 (own_ix hnd (by omega) hq1)) hZ (hw _ (List.mem_of_getElem? (i := 51) rfl)) (hw _ (List.mem_of_getElem? (i := 3) rfl)) (by decide) (by decide)) q6a q6c (g := (mkF m 31 #[.val (.ref a1), .val (.int (Int32.ofNat nd)), .val (.ref wd), .val (.int (Int32.ofNat nd)), .val (.ref wd), .val (.int (1 : Int32)), .val (.int (0 : Int32)), .val (.int (Int32.ofNat qw1)), .unset] [(.int (Int32.ofNat qw1)), (.int (Int32.ofNat nd)), (.ref a1)])) rfl (by rw [hml]; rfl) (Steps.refl _) (argsL := [(.int (Int32.ofNat nd)), (.int (Int32.ofNat qw1))]) (rest := []) (lenOf own_pd3 rfl) rfl (by show 2 * 0 + _ ≤ _; exact Nat.le_of_eq rfl) (hb hby own_daddown_add1_31) (fun _ _ => ⟨rfl, e0, (by decide : 0 + 0 ≤ _), (by decide : 0 + 0 ≤ _)⟩)
  dsimp only [Pt.U, Pt.locs, Pt.cells, Pt.slots] at X6 l6 y6 z6 st6 hQ6
  subst l6 y6 z6
  obtain ⟨rfl, N6q, e6⟩ := hQ6
  have N6 := Fr.app N0 N6q
  have pre7 : Goes p e below s₁ (entryFrame m #[(.ref a1), (.int (Int32.ofNat nd)), (.ref wd)] 9) T6 (mkF m 34 #[.val (.ref a1), .val (.int (Int32.ofNat nd)), .val (.ref wd), .val (.int (Int32.ofNat nd)), .val (.ref wd), .val (.int (1 : Int32)), .val (.int (0 : Int32)), .val (.int (Int32.ofNat qw1)), .unset] [(.int (f (nd * r + qw1)))]) := fun t kt => pre5 t (st6.trans kt)
  have pre8 : Goes p e below s₁ (entryFrame m #[(.ref a1), (.int (Int32.ofNat nd)), (.ref wd)] 9) T6 (mkF m 43 #[.val (.ref a1), .val (.int (Int32.ofNat nd)), .val (.ref wd), .val (.int (Int32.ofNat nd)), .val (.ref wd), .val (.int (1 : Int32)), .val (.int (0 : Int32)), .val (.int (Int32.ofNat qw1)), .val (.int (f (nd * r + qw1)))] [(.ref a1)]) := fun t kt => pre7 t (by
      show Steps p.tables e below (T6.setTop (mkF m 34 #[.val (.ref a1), .val (.int (Int32.ofNat nd)), .val (.ref wd), .val (.int (Int32.ofNat nd)), .val (.ref wd), .val (.int (1 : Int32)), .val (.int (0 : Int32)), .val (.int (Int32.ofNat qw1)), .unset] [(.int (f (nd * r + qw1)))])) _
      refine XS.istore X6.here hx rfl (hb hby own_daddown_add1_34) rfl (l' := #[.val (.ref a1), .val (.int (Int32.ofNat nd)), .val (.ref wd), .val (.int (Int32.ofNat nd)), .val (.ref wd), .val (.int (1 : Int32)), .val (.int (0 : Int32)), .val (.int (Int32.ofNat qw1)), .val (.int (f (nd * r + qw1)))]) rfl ?_
      show Steps p.tables e below (T6.setTop (mkF m 36 #[.val (.ref a1), .val (.int (Int32.ofNat nd)), .val (.ref wd), .val (.int (Int32.ofNat nd)), .val (.ref wd), .val (.int (1 : Int32)), .val (.int (0 : Int32)), .val (.int (Int32.ofNat qw1)), .val (.int (f (nd * r + qw1)))] [])) _
      refine XS.iload X6.here hx rfl (hb hby own_daddown_add1_36) rfl ?_
      show Steps p.tables e below (T6.setTop (mkF m 38 #[.val (.ref a1), .val (.int (Int32.ofNat nd)), .val (.ref wd), .val (.int (Int32.ofNat nd)), .val (.ref wd), .val (.int (1 : Int32)), .val (.int (0 : Int32)), .val (.int (Int32.ofNat qw1)), .val (.int (f (nd * r + qw1)))] [(.int (f (nd * r + qw1)))])) _
      refine XS.iconst X6.here hx rfl (hb hby own_daddown_add1_38) ?_
      show Steps p.tables e below (T6.setTop (mkF m 39 #[.val (.ref a1), .val (.int (Int32.ofNat nd)), .val (.ref wd), .val (.int (Int32.ofNat nd)), .val (.ref wd), .val (.int (1 : Int32)), .val (.int (0 : Int32)), .val (.int (Int32.ofNat qw1)), .val (.int (f (nd * r + qw1)))] [(.int (-1 : Int32)), (.int (f (nd * r + qw1)))])) _
      refine XS.icmpNo X6.here hx rfl (hb hby own_daddown_add1_39) rfl (teq (hf : (f (nd * r + qw1)) = (-1 : Int32))).2 ?_
      show Steps p.tables e below (T6.setTop (mkF m 42 #[.val (.ref a1), .val (.int (Int32.ofNat nd)), .val (.ref wd), .val (.int (Int32.ofNat nd)), .val (.ref wd), .val (.int (1 : Int32)), .val (.int (0 : Int32)), .val (.int (Int32.ofNat qw1)), .val (.int (f (nd * r + qw1)))] [])) _
      refine XS.aloadN X6.here hx rfl (hb hby own_daddown_add1_42) rfl rfl ?_
      exact kt)
  obtain ⟨cq9, qc9, qd9⟩ := E_a1.cell
  obtain ⟨_, _, ⟨T9, L9, k9, n9⟩, -, X9, ⟨Lc9, hQ9, l9, y9, z9⟩, st9⟩ := X6.privateBack hx (y := (⟨"com/example/unicept/unicept/WordTrie", "newNode", "()I"⟩ : MethodName)) hown (mvT hZ (hw _ (List.mem_of_getElem? (i := 29) rfl))) (mvT hZ (hw _ (List.mem_of_getElem? (i := 30) rfl))) (own_sel (mvT hZ (hw _ (List.mem_of_getElem? (i := 2) rfl))) (mvP hZ (hw _ (List.mem_of_getElem? (i := 31) rfl))) (mvT hZ (hw _ (List.mem_of_getElem? (i := 30) rfl))) (by decide)) (Cond.privateMethod_at (mvP hZ (hw _ (List.mem_of_getElem? (i := 31) rfl)) (args := #[]))) (mvT hZ (hw _ (List.mem_of_getElem? (i := 32) rfl))) (by decide) (backOf (W := 0) (own_newNode l Z a0 hw [] a1 r k ch f rt gg tg kt vts h0 n0 Z0 hT0 hr1 hr8 (by omega)) hZ (hw _ (List.mem_of_getElem? (i := 32) rfl)) (hw _ (List.mem_of_getElem? (i := 3) rfl)) (by decide) (by decide)) (g := (mkF m 43 #[.val (.ref a1), .val (.int (Int32.ofNat nd)), .val (.ref wd), .val (.int (Int32.ofNat nd)), .val (.ref wd), .val (.int (1 : Int32)), .val (.int (0 : Int32)), .val (.int (Int32.ofNat qw1)), .val (.int (f (nd * r + qw1)))] [(.ref a1)])) rfl (by rw [hml]; rfl) (Steps.refl _) (a := a1) (by rw [e6]; exact qc9) qd9 (argsL := []) (rest := []) (lenOf own_pd2 rfl) rfl (by show 2 * 0 + _ ≤ _; exact Nat.le_of_eq rfl) (hb hby own_daddown_add1_43) (fun _ _ => ⟨rfl, e6, (by decide : 0 + 0 ≤ _), (by decide : 0 + 0 ≤ _)⟩)
  dsimp only [Pt.U, Pt.locs, Pt.cells, Pt.slots] at X9 l9 y9 z9 st9 hQ9
  subst l9 y9 z9
  obtain ⟨rfl, N9q, K9q, hT9⟩ := hQ9
  have N9 := Fr.app N6 N9q
  have KC9 : Keep h0 T9.heap [a1, ch, rt] := (Keep.refl h0 [a1, ch, rt]).trans K9q (allS (Or.inl (List.mem_of_getElem? (i := 0) rfl)) (allS (Or.inl (List.mem_of_getElem? (i := 1) rfl)) all0))
  have pre10 : Goes p e below s₁ (entryFrame m #[(.ref a1), (.int (Int32.ofNat nd)), (.ref wd)] 9) T9 (mkF m 46 #[.val (.ref a1), .val (.int (Int32.ofNat nd)), .val (.ref wd), .val (.int (Int32.ofNat nd)), .val (.ref wd), .val (.int (1 : Int32)), .val (.int (0 : Int32)), .val (.int (Int32.ofNat qw1)), .val (.int (f (nd * r + qw1)))] [(.int (Int32.ofNat k))]) := fun t kt => pre8 t (st9.trans kt)
  obtain ⟨E_a1, F_roles, F_children, F_roots, F_tags, F_size, V_ch, V_rt, V_tg, g_a1, g_ch, g_rt, g_tg, nac, nar, nat, ncr, nct, nrt⟩ := hT9
  have pre11 : Goes p e below s₁ (entryFrame m #[(.ref a1), (.int (Int32.ofNat nd)), (.ref wd)] 9) T9 (mkF m 49 #[.val (.ref a1), .val (.int (Int32.ofNat nd)), .val (.ref wd), .val (.int (Int32.ofNat nd)), .val (.ref wd), .val (.int (1 : Int32)), .val (.int (0 : Int32)), .val (.int (Int32.ofNat qw1)), .val (.int (Int32.ofNat k))] [(.ref a1)]) := fun t kt => pre10 t (by
      show Steps p.tables e below (T9.setTop (mkF m 46 #[.val (.ref a1), .val (.int (Int32.ofNat nd)), .val (.ref wd), .val (.int (Int32.ofNat nd)), .val (.ref wd), .val (.int (1 : Int32)), .val (.int (0 : Int32)), .val (.int (Int32.ofNat qw1)), .val (.int (f (nd * r + qw1)))] [(.int (Int32.ofNat k))])) _
      refine XS.istore X9.here hx rfl (hb hby own_daddown_add1_46) rfl (l' := #[.val (.ref a1), .val (.int (Int32.ofNat nd)), .val (.ref wd), .val (.int (Int32.ofNat nd)), .val (.ref wd), .val (.int (1 : Int32)), .val (.int (0 : Int32)), .val (.int (Int32.ofNat qw1)), .val (.int (Int32.ofNat k))]) rfl ?_
      show Steps p.tables e below (T9.setTop (mkF m 48 #[.val (.ref a1), .val (.int (Int32.ofNat nd)), .val (.ref wd), .val (.int (Int32.ofNat nd)), .val (.ref wd), .val (.int (1 : Int32)), .val (.int (0 : Int32)), .val (.int (Int32.ofNat qw1)), .val (.int (Int32.ofNat k))] [])) _
      refine XS.aloadN X9.here hx rfl (hb hby own_daddown_add1_48) rfl rfl ?_
      exact kt)
  obtain ⟨T12, X12, e12, st12⟩ := getF X9 hx hZ hown (host := "") (Or.inl (hw _ (List.mem_of_getElem? (i := 16) rfl))) Via.refl rfl F_children (g := (mkF m 49 #[.val (.ref a1), .val (.int (Int32.ofNat nd)), .val (.ref wd), .val (.int (Int32.ofNat nd)), .val (.ref wd), .val (.int (1 : Int32)), .val (.int (0 : Int32)), .val (.int (Int32.ofNat qw1)), .val (.int (Int32.ofNat k))] [(.ref a1)])) rfl rfl (hb hby own_daddown_add1_49)
  have pre13 : Goes p e below s₁ (entryFrame m #[(.ref a1), (.int (Int32.ofNat nd)), (.ref wd)] 9) T12 (mkF m 52 #[.val (.ref a1), .val (.int (Int32.ofNat nd)), .val (.ref wd), .val (.int (Int32.ofNat nd)), .val (.ref wd), .val (.int (1 : Int32)), .val (.int (0 : Int32)), .val (.int (Int32.ofNat qw1)), .val (.int (Int32.ofNat k))] [(.ref ch)]) := fun t kt => pre11 t (st12 t kt)
  have pre14 : Goes p e below s₁ (entryFrame m #[(.ref a1), (.int (Int32.ofNat nd)), (.ref wd)] 9) T12 (mkF m 54 #[.val (.ref a1), .val (.int (Int32.ofNat nd)), .val (.ref wd), .val (.int (Int32.ofNat nd)), .val (.ref wd), .val (.int (1 : Int32)), .val (.int (0 : Int32)), .val (.int (Int32.ofNat qw1)), .val (.int (Int32.ofNat k))] [(.ref a1), (.int (Int32.ofNat nd)), (.ref ch)]) := fun t kt => pre13 t (by
      show Steps p.tables e below (T12.setTop (mkF m 52 #[.val (.ref a1), .val (.int (Int32.ofNat nd)), .val (.ref wd), .val (.int (Int32.ofNat nd)), .val (.ref wd), .val (.int (1 : Int32)), .val (.int (0 : Int32)), .val (.int (Int32.ofNat qw1)), .val (.int (Int32.ofNat k))] [(.ref ch)])) _
      refine XS.iloadN X12.here hx rfl (hb hby own_daddown_add1_52) rfl ?_
      show Steps p.tables e below (T12.setTop (mkF m 53 #[.val (.ref a1), .val (.int (Int32.ofNat nd)), .val (.ref wd), .val (.int (Int32.ofNat nd)), .val (.ref wd), .val (.int (1 : Int32)), .val (.int (0 : Int32)), .val (.int (Int32.ofNat qw1)), .val (.int (Int32.ofNat k))] [(.int (Int32.ofNat nd)), (.ref ch)])) _
      refine XS.aloadN X12.here hx rfl (hb hby own_daddown_add1_53) rfl rfl ?_
      exact kt)
  obtain ⟨T15, X15, e15, st15⟩ := getF X12 hx hZ hown (host := "") (Or.inl (hw _ (List.mem_of_getElem? (i := 10) rfl))) Via.refl e12 F_roles (g := (mkF m 54 #[.val (.ref a1), .val (.int (Int32.ofNat nd)), .val (.ref wd), .val (.int (Int32.ofNat nd)), .val (.ref wd), .val (.int (1 : Int32)), .val (.int (0 : Int32)), .val (.int (Int32.ofNat qw1)), .val (.int (Int32.ofNat k))] [(.ref a1), (.int (Int32.ofNat nd)), (.ref ch)])) rfl rfl (hb hby own_daddown_add1_54)
  have pre16 : Goes p e below s₁ (entryFrame m #[(.ref a1), (.int (Int32.ofNat nd)), (.ref wd)] 9) T15 (mkF m 57 #[.val (.ref a1), .val (.int (Int32.ofNat nd)), .val (.ref wd), .val (.int (Int32.ofNat nd)), .val (.ref wd), .val (.int (1 : Int32)), .val (.int (0 : Int32)), .val (.int (Int32.ofNat qw1)), .val (.int (Int32.ofNat k))] [(.int (Int32.ofNat r)), (.int (Int32.ofNat nd)), (.ref ch)]) := fun t kt => pre14 t (st15 t kt)
  have pre17 : Goes p e below s₁ (entryFrame m #[(.ref a1), (.int (Int32.ofNat nd)), (.ref wd)] 9) T15 (mkF m 63 #[.val (.ref a1), .val (.int (Int32.ofNat nd)), .val (.ref wd), .val (.int (Int32.ofNat nd)), .val (.ref wd), .val (.int (1 : Int32)), .val (.int (0 : Int32)), .val (.int (Int32.ofNat qw1)), .val (.int (Int32.ofNat k))] [(.int (Int32.ofNat k)), (.int (((Int32.ofNat nd) * (Int32.ofNat r)) + (Int32.ofNat qw1))), (.ref ch)]) := fun t kt => pre16 t (by
      show Steps p.tables e below (T15.setTop (mkF m 57 #[.val (.ref a1), .val (.int (Int32.ofNat nd)), .val (.ref wd), .val (.int (Int32.ofNat nd)), .val (.ref wd), .val (.int (1 : Int32)), .val (.int (0 : Int32)), .val (.int (Int32.ofNat qw1)), .val (.int (Int32.ofNat k))] [(.int (Int32.ofNat r)), (.int (Int32.ofNat nd)), (.ref ch)])) _
      refine XS.imul X15.here hx rfl (hb hby own_daddown_add1_57) rfl ?_
      show Steps p.tables e below (T15.setTop (mkF m 58 #[.val (.ref a1), .val (.int (Int32.ofNat nd)), .val (.ref wd), .val (.int (Int32.ofNat nd)), .val (.ref wd), .val (.int (1 : Int32)), .val (.int (0 : Int32)), .val (.int (Int32.ofNat qw1)), .val (.int (Int32.ofNat k))] [(.int ((Int32.ofNat nd) * (Int32.ofNat r))), (.ref ch)])) _
      refine XS.iload X15.here hx rfl (hb hby own_daddown_add1_58) rfl ?_
      show Steps p.tables e below (T15.setTop (mkF m 60 #[.val (.ref a1), .val (.int (Int32.ofNat nd)), .val (.ref wd), .val (.int (Int32.ofNat nd)), .val (.ref wd), .val (.int (1 : Int32)), .val (.int (0 : Int32)), .val (.int (Int32.ofNat qw1)), .val (.int (Int32.ofNat k))] [(.int (Int32.ofNat qw1)), (.int ((Int32.ofNat nd) * (Int32.ofNat r))), (.ref ch)])) _
      refine XS.iadd X15.here hx rfl (hb hby own_daddown_add1_60) rfl ?_
      show Steps p.tables e below (T15.setTop (mkF m 61 #[.val (.ref a1), .val (.int (Int32.ofNat nd)), .val (.ref wd), .val (.int (Int32.ofNat nd)), .val (.ref wd), .val (.int (1 : Int32)), .val (.int (0 : Int32)), .val (.int (Int32.ofNat qw1)), .val (.int (Int32.ofNat k))] [(.int (((Int32.ofNat nd) * (Int32.ofNat r)) + (Int32.ofNat qw1))), (.ref ch)])) _
      refine XS.iload X15.here hx rfl (hb hby own_daddown_add1_61) rfl ?_
      exact kt)
  rw [show ((Int32.ofNat nd) * (Int32.ofNat r)) = (Int32.ofNat (nd * r)) from own_mul nd r] at pre17
  rw [show ((Int32.ofNat (nd * r)) + (Int32.ofNat qw1)) = (Int32.ofNat (nd * r + qw1)) from own_add (nd * r) qw1] at pre17
  obtain ⟨cl18, Ar18, S18, H18⟩ := (id (V_ch))
  have hlt18 : (nd * r + qw1) < (16 * r) := (own_ix hnd (by omega) hq1)
  have hin18 : ¬ ((Int32.ofNat (nd * r + qw1)) < 0 ∨ cl18.slots.size ≤ ((Int32.ofNat (nd * r + qw1))).toNatClampNeg) := own_in S18 hlt18 (by omega)
  obtain ⟨T19, h19, X19, e19, W19, st19⟩ := stI X15 hx hZ e15 Ar18 (j := (Int32.ofNat (nd * r + qw1))) hin18 (g := (mkF m 63 #[.val (.ref a1), .val (.int (Int32.ofNat nd)), .val (.ref wd), .val (.int (Int32.ofNat nd)), .val (.ref wd), .val (.int (1 : Int32)), .val (.int (0 : Int32)), .val (.int (Int32.ofNat qw1)), .val (.int (Int32.ofNat k))] [(.int (Int32.ofNat k)), (.int (Int32.ofNat (nd * r + qw1))), (.ref ch)])) rfl rfl (hb hby own_daddown_add1_63)
  have V19 : own_FA Z h19 ch (16 * r) (own_up (own_fl f (k * r) (k * r + r) (-1)) (nd * r + qw1) (Int32.ofNat k)) := own_FA.set Ar18 S18 H18 W19 hlt18 (by omega)
  have K19 : Keep h0 h19 [a1, ch, rt] := KC9.wr W19 (Or.inl (List.mem_of_getElem? (i := 1) rfl))
  have N19 := Fr.snoc X19 N9 g_ch
  have pre20 : Goes p e below s₁ (entryFrame m #[(.ref a1), (.int (Int32.ofNat nd)), (.ref wd)] 9) T19 (mkF m 64 #[.val (.ref a1), .val (.int (Int32.ofNat nd)), .val (.ref wd), .val (.int (Int32.ofNat nd)), .val (.ref wd), .val (.int (1 : Int32)), .val (.int (0 : Int32)), .val (.int (Int32.ofNat qw1)), .val (.int (Int32.ofNat k))] []) := fun t kt => pre17 t (st19 t kt)
  have pre21 : Goes p e below s₁ (entryFrame m #[(.ref a1), (.int (Int32.ofNat nd)), (.ref wd)] 9) T19 (mkF m 65 #[.val (.ref a1), .val (.int (Int32.ofNat nd)), .val (.ref wd), .val (.int (Int32.ofNat nd)), .val (.ref wd), .val (.int (1 : Int32)), .val (.int (0 : Int32)), .val (.int (Int32.ofNat qw1)), .val (.int (Int32.ofNat k))] [(.ref a1)]) := fun t kt => pre20 t (by
      show Steps p.tables e below (T19.setTop (mkF m 64 #[.val (.ref a1), .val (.int (Int32.ofNat nd)), .val (.ref wd), .val (.int (Int32.ofNat nd)), .val (.ref wd), .val (.int (1 : Int32)), .val (.int (0 : Int32)), .val (.int (Int32.ofNat qw1)), .val (.int (Int32.ofNat k))] [])) _
      refine XS.aloadN X19.here hx rfl (hb hby own_daddown_add1_64) rfl rfl ?_
      exact kt)
  obtain ⟨T22, X22, e22, st22⟩ := getF X19 hx hZ hown (host := "") (Or.inl (hw _ (List.mem_of_getElem? (i := 18) rfl))) Via.refl e19 (F_roots.other W19 (Or.inl nac)) (g := (mkF m 65 #[.val (.ref a1), .val (.int (Int32.ofNat nd)), .val (.ref wd), .val (.int (Int32.ofNat nd)), .val (.ref wd), .val (.int (1 : Int32)), .val (.int (0 : Int32)), .val (.int (Int32.ofNat qw1)), .val (.int (Int32.ofNat k))] [(.ref a1)])) rfl rfl (hb hby own_daddown_add1_65)
  have pre23 : Goes p e below s₁ (entryFrame m #[(.ref a1), (.int (Int32.ofNat nd)), (.ref wd)] 9) T22 (mkF m 68 #[.val (.ref a1), .val (.int (Int32.ofNat nd)), .val (.ref wd), .val (.int (Int32.ofNat nd)), .val (.ref wd), .val (.int (1 : Int32)), .val (.int (0 : Int32)), .val (.int (Int32.ofNat qw1)), .val (.int (Int32.ofNat k))] [(.ref rt)]) := fun t kt => pre21 t (st22 t kt)
  have pre24 : Goes p e below s₁ (entryFrame m #[(.ref a1), (.int (Int32.ofNat nd)), (.ref wd)] 9) T22 (mkF m 71 #[.val (.ref a1), .val (.int (Int32.ofNat nd)), .val (.ref wd), .val (.int (Int32.ofNat nd)), .val (.ref wd), .val (.int (1 : Int32)), .val (.int (0 : Int32)), .val (.int (Int32.ofNat qw1)), .val (.int (Int32.ofNat k))] [(.ref a1), (.int (Int32.ofNat k)), (.ref rt)]) := fun t kt => pre23 t (by
      show Steps p.tables e below (T22.setTop (mkF m 68 #[.val (.ref a1), .val (.int (Int32.ofNat nd)), .val (.ref wd), .val (.int (Int32.ofNat nd)), .val (.ref wd), .val (.int (1 : Int32)), .val (.int (0 : Int32)), .val (.int (Int32.ofNat qw1)), .val (.int (Int32.ofNat k))] [(.ref rt)])) _
      refine XS.iload X22.here hx rfl (hb hby own_daddown_add1_68) rfl ?_
      show Steps p.tables e below (T22.setTop (mkF m 70 #[.val (.ref a1), .val (.int (Int32.ofNat nd)), .val (.ref wd), .val (.int (Int32.ofNat nd)), .val (.ref wd), .val (.int (1 : Int32)), .val (.int (0 : Int32)), .val (.int (Int32.ofNat qw1)), .val (.int (Int32.ofNat k))] [(.int (Int32.ofNat k)), (.ref rt)])) _
      refine XS.aloadN X22.here hx rfl (hb hby own_daddown_add1_70) rfl rfl ?_
      exact kt)
  obtain ⟨T25, X25, e25, st25⟩ := getF X22 hx hZ hown (host := "") (Or.inl (hw _ (List.mem_of_getElem? (i := 18) rfl))) Via.refl e22 (F_roots.other W19 (Or.inl nac)) (g := (mkF m 71 #[.val (.ref a1), .val (.int (Int32.ofNat nd)), .val (.ref wd), .val (.int (Int32.ofNat nd)), .val (.ref wd), .val (.int (1 : Int32)), .val (.int (0 : Int32)), .val (.int (Int32.ofNat qw1)), .val (.int (Int32.ofNat k))] [(.ref a1), (.int (Int32.ofNat k)), (.ref rt)])) rfl rfl (hb hby own_daddown_add1_71)
  have pre26 : Goes p e below s₁ (entryFrame m #[(.ref a1), (.int (Int32.ofNat nd)), (.ref wd)] 9) T25 (mkF m 74 #[.val (.ref a1), .val (.int (Int32.ofNat nd)), .val (.ref wd), .val (.int (Int32.ofNat nd)), .val (.ref wd), .val (.int (1 : Int32)), .val (.int (0 : Int32)), .val (.int (Int32.ofNat qw1)), .val (.int (Int32.ofNat k))] [(.ref rt), (.int (Int32.ofNat k)), (.ref rt)]) := fun t kt => pre24 t (st25 t kt)
  have pre27 : Goes p e below s₁ (entryFrame m #[(.ref a1), (.int (Int32.ofNat nd)), (.ref wd)] 9) T25 (mkF m 75 #[.val (.ref a1), .val (.int (Int32.ofNat nd)), .val (.ref wd), .val (.int (Int32.ofNat nd)), .val (.ref wd), .val (.int (1 : Int32)), .val (.int (0 : Int32)), .val (.int (Int32.ofNat qw1)), .val (.int (Int32.ofNat k))] [(.int (Int32.ofNat nd)), (.ref rt), (.int (Int32.ofNat k)), (.ref rt)]) := fun t kt => pre26 t (by
      show Steps p.tables e below (T25.setTop (mkF m 74 #[.val (.ref a1), .val (.int (Int32.ofNat nd)), .val (.ref wd), .val (.int (Int32.ofNat nd)), .val (.ref wd), .val (.int (1 : Int32)), .val (.int (0 : Int32)), .val (.int (Int32.ofNat qw1)), .val (.int (Int32.ofNat k))] [(.ref rt), (.int (Int32.ofNat k)), (.ref rt)])) _
      refine XS.iloadN X25.here hx rfl (hb hby own_daddown_add1_74) rfl ?_
      exact kt)
  obtain ⟨cl28, Ar28, S28, H28⟩ := (id ((V_rt.other W19 (Ne.symm ncr))))
  have hlt28 : nd < 16 := (by omega)
  have hin28 : ¬ ((Int32.ofNat nd) < 0 ∨ cl28.slots.size ≤ ((Int32.ofNat nd)).toNatClampNeg) := own_in S28 hlt28 (by decide)
  have hat28 : cl28.slots[((Int32.ofNat nd)).toNatClampNeg]? = some (.int (gg nd)) := own_at H28 hlt28 (by decide)
  have pre29 : Goes p e below s₁ (entryFrame m #[(.ref a1), (.int (Int32.ofNat nd)), (.ref wd)] 9) T25 (mkF m 76 #[.val (.ref a1), .val (.int (Int32.ofNat nd)), .val (.ref wd), .val (.int (Int32.ofNat nd)), .val (.ref wd), .val (.int (1 : Int32)), .val (.int (0 : Int32)), .val (.int (Int32.ofNat qw1)), .val (.int (Int32.ofNat k))] [(.int (gg nd)), (.int (Int32.ofNat k)), (.ref rt)]) := fun t kt => pre27 t (by
      show Steps p.tables e below (T25.setTop (mkF m 75 #[.val (.ref a1), .val (.int (Int32.ofNat nd)), .val (.ref wd), .val (.int (Int32.ofNat nd)), .val (.ref wd), .val (.int (1 : Int32)), .val (.int (0 : Int32)), .val (.int (Int32.ofNat qw1)), .val (.int (Int32.ofNat k))] [(.int (Int32.ofNat nd)), (.ref rt), (.int (Int32.ofNat k)), (.ref rt)])) _
      refine X25.iaload hx (j := (Int32.ofNat nd)) (v := (.int (gg nd))) (by (try rw [e25]); exact Ar28.1) (State.isArrayOf_alike hZ.alike Ar28.2.1) Ar28.2.2 hin28 hat28 (g := (mkF m 75 #[.val (.ref a1), .val (.int (Int32.ofNat nd)), .val (.ref wd), .val (.int (Int32.ofNat nd)), .val (.ref wd), .val (.int (1 : Int32)), .val (.int (0 : Int32)), .val (.int (Int32.ofNat qw1)), .val (.int (Int32.ofNat k))] [(.int (Int32.ofNat nd)), (.ref rt), (.int (Int32.ofNat k)), (.ref rt)])) rfl rfl (hb hby own_daddown_add1_75) _ ?_
      exact kt)
  obtain ⟨cl30, Ar30, S30, H30⟩ := (id ((V_rt.other W19 (Ne.symm ncr))))
  have hlt30 : k < 16 := (by omega)
  have hin30 : ¬ ((Int32.ofNat k) < 0 ∨ cl30.slots.size ≤ ((Int32.ofNat k)).toNatClampNeg) := own_in S30 hlt30 (by decide)
  obtain ⟨T31, h31, X31, e31, W31, st31⟩ := stI X25 hx hZ e25 Ar30 (j := (Int32.ofNat k)) hin30 (g := (mkF m 76 #[.val (.ref a1), .val (.int (Int32.ofNat nd)), .val (.ref wd), .val (.int (Int32.ofNat nd)), .val (.ref wd), .val (.int (1 : Int32)), .val (.int (0 : Int32)), .val (.int (Int32.ofNat qw1)), .val (.int (Int32.ofNat k))] [(.int (gg nd)), (.int (Int32.ofNat k)), (.ref rt)])) rfl rfl (hb hby own_daddown_add1_76)
  have V31 : own_FA Z h31 rt 16 (own_up gg k (gg nd)) := own_FA.set Ar30 S30 H30 W31 hlt30 (by decide)
  have K31 : Keep h0 h31 [a1, ch, rt] := K19.wr W31 (Or.inl (List.mem_of_getElem? (i := 2) rfl))
  have N31 := Fr.snoc X31 N19 g_rt
  have pre32 : Goes p e below s₁ (entryFrame m #[(.ref a1), (.int (Int32.ofNat nd)), (.ref wd)] 9) T31 (mkF m 77 #[.val (.ref a1), .val (.int (Int32.ofNat nd)), .val (.ref wd), .val (.int (Int32.ofNat nd)), .val (.ref wd), .val (.int (1 : Int32)), .val (.int (0 : Int32)), .val (.int (Int32.ofNat qw1)), .val (.int (Int32.ofNat k))] []) := fun t kt => pre29 t (st31 t kt)
  have hT33 : own_TR Z h31 n0 a1 r (k + 1) ch (own_ad f r k nd qw1) rt (own_up gg k (gg nd)) tg kt vts := ⟨((E_a1.wr W19).wr W31), ((F_roles.other W19 (Or.inl nac)).other W31 (Or.inl nar)), ((F_children.other W19 (Or.inl nac)).other W31 (Or.inl nar)), ((F_roots.other W19 (Or.inl nac)).other W31 (Or.inl nar)), ((F_tags.other W19 (Or.inl nac)).other W31 (Or.inl nar)), ((F_size.other W19 (Or.inl nac)).other W31 (Or.inl nar)), (V19.other W31 ncr), V31, ((V_tg.other W19 (Ne.symm nct)).other W31 (Ne.symm nrt)), g_a1, g_ch, g_rt, g_tg, nac, nar, nat, ncr, nct, nrt⟩
  have pre34 : Goes p e below s₁ (entryFrame m #[(.ref a1), (.int (Int32.ofNat nd)), (.ref wd)] 9) T31 (mkF m 87 #[.val (.ref a1), .val (.int (Int32.ofNat nd)), .val (.ref wd), .val (.int (Int32.ofNat k)), .val (.ref wd), .val (.int (1 : Int32)), .val (.int (1 : Int32)), .val (.int (Int32.ofNat qw1)), .val (.int (Int32.ofNat k))] [(.int (Int32.ofNat k))]) := fun t kt => pre32 t (by
      show Steps p.tables e below (T31.setTop (mkF m 77 #[.val (.ref a1), .val (.int (Int32.ofNat nd)), .val (.ref wd), .val (.int (Int32.ofNat nd)), .val (.ref wd), .val (.int (1 : Int32)), .val (.int (0 : Int32)), .val (.int (Int32.ofNat qw1)), .val (.int (Int32.ofNat k))] [])) _
      refine XS.iload X31.here hx rfl (hb hby own_daddown_add1_77) rfl ?_
      show Steps p.tables e below (T31.setTop (mkF m 79 #[.val (.ref a1), .val (.int (Int32.ofNat nd)), .val (.ref wd), .val (.int (Int32.ofNat nd)), .val (.ref wd), .val (.int (1 : Int32)), .val (.int (0 : Int32)), .val (.int (Int32.ofNat qw1)), .val (.int (Int32.ofNat k))] [(.int (Int32.ofNat k))])) _
      refine XS.istoreN X31.here hx rfl (hb hby own_daddown_add1_79) rfl (l' := #[.val (.ref a1), .val (.int (Int32.ofNat nd)), .val (.ref wd), .val (.int (Int32.ofNat k)), .val (.ref wd), .val (.int (1 : Int32)), .val (.int (0 : Int32)), .val (.int (Int32.ofNat qw1)), .val (.int (Int32.ofNat k))]) rfl ?_
      show Steps p.tables e below (T31.setTop (mkF m 80 #[.val (.ref a1), .val (.int (Int32.ofNat nd)), .val (.ref wd), .val (.int (Int32.ofNat k)), .val (.ref wd), .val (.int (1 : Int32)), .val (.int (0 : Int32)), .val (.int (Int32.ofNat qw1)), .val (.int (Int32.ofNat k))] [])) _
      refine XS.iinc X31.here hx rfl (hb hby own_daddown_add1_80) rfl (l' := #[.val (.ref a1), .val (.int (Int32.ofNat nd)), .val (.ref wd), .val (.int (Int32.ofNat k)), .val (.ref wd), .val (.int (1 : Int32)), .val (.int (1 : Int32)), .val (.int (Int32.ofNat qw1)), .val (.int (Int32.ofNat k))]) rfl ?_
      show Steps p.tables e below (T31.setTop (mkF m 83 #[.val (.ref a1), .val (.int (Int32.ofNat nd)), .val (.ref wd), .val (.int (Int32.ofNat k)), .val (.ref wd), .val (.int (1 : Int32)), .val (.int (1 : Int32)), .val (.int (Int32.ofNat qw1)), .val (.int (Int32.ofNat k))] [])) _
      refine XS.goto X31.here hx rfl (pc0 := 83) (pc' := 13) rfl (hb hby own_daddown_add1_83) (by decide) (by decide) ?_
      show Steps p.tables e below (T31.setTop (mkF m 13 #[.val (.ref a1), .val (.int (Int32.ofNat nd)), .val (.ref wd), .val (.int (Int32.ofNat k)), .val (.ref wd), .val (.int (1 : Int32)), .val (.int (1 : Int32)), .val (.int (Int32.ofNat qw1)), .val (.int (Int32.ofNat k))] [])) _
      refine XS.iload X31.here hx rfl (hb hby own_daddown_add1_13) rfl ?_
      show Steps p.tables e below (T31.setTop (mkF m 15 #[.val (.ref a1), .val (.int (Int32.ofNat nd)), .val (.ref wd), .val (.int (Int32.ofNat k)), .val (.ref wd), .val (.int (1 : Int32)), .val (.int (1 : Int32)), .val (.int (Int32.ofNat qw1)), .val (.int (Int32.ofNat k))] [(.int (1 : Int32))])) _
      refine XS.iload X31.here hx rfl (hb hby own_daddown_add1_15) rfl ?_
      show Steps p.tables e below (T31.setTop (mkF m 17 #[.val (.ref a1), .val (.int (Int32.ofNat nd)), .val (.ref wd), .val (.int (Int32.ofNat k)), .val (.ref wd), .val (.int (1 : Int32)), .val (.int (1 : Int32)), .val (.int (Int32.ofNat qw1)), .val (.int (Int32.ofNat k))] [(.int (1 : Int32)), (.int (1 : Int32))])) _
      refine XS.icmpYes X31.here hx rfl (pc0 := 17) (pc' := 86) rfl (hb hby own_daddown_add1_17) rfl (flt (by decide : ¬ ((1 : Int32) < (1 : Int32)))).2.1 (by decide) (by decide) ?_
      show Steps p.tables e below (T31.setTop (mkF m 86 #[.val (.ref a1), .val (.int (Int32.ofNat nd)), .val (.ref wd), .val (.int (Int32.ofNat k)), .val (.ref wd), .val (.int (1 : Int32)), .val (.int (1 : Int32)), .val (.int (Int32.ofNat qw1)), .val (.int (Int32.ofNat k))] [])) _
      refine XS.iloadN X31.here hx rfl (hb hby own_daddown_add1_86) rfl ?_
      exact kt)
  obtain ⟨fs, hr, hrun, hended, hW, hsame⟩ := X31.leave (v := some (.int (Int32.ofNat k))) (fun h => by rw [Bd.returns] at h; cases h)
  refine ⟨_, _, pre34 _ ?_, hrun, hended, _, _, rfl, ?_, ⟨_, rfl⟩, hW, hsame.mono (by decide) (by decide)⟩
  · show Steps p.tables e below (T31.setTop (mkF m 87 #[.val (.ref a1), .val (.int (Int32.ofNat nd)), .val (.ref wd), .val (.int (Int32.ofNat k)), .val (.ref wd), .val (.int (1 : Int32)), .val (.int (1 : Int32)), .val (.int (Int32.ofNat qw1)), .val (.int (Int32.ofNat k))] [(.int (Int32.ofNat k))])) _
    exact retI X31 hx Bd.returns (hb hby own_daddown_add1_87) hr
  · show Q_own_add1 Z a1 r k ch f rt gg tg kt vts nd qw1 wd kw h0 n0 _ T31.heap _
    rw [e31]
    exact ⟨rfl, N31, K31, hT33⟩

theorem own_daddown_addOld_0 : decode prog_26_method_3_code 0 = .ok (.iload_n 1, 1) := by decide +kernel
theorem own_daddown_addOld_1 : decode prog_26_method_3_code 1 = .ok (.istore_n 3, 1) := by decide +kernel
theorem own_daddown_addOld_2 : decode prog_26_method_3_code 2 = .ok (.aload_n 2, 1) := by decide +kernel
theorem own_daddown_addOld_3 : decode prog_26_method_3_code 3 = .ok (.astore 4, 2) := by decide +kernel
theorem own_daddown_addOld_5 : decode prog_26_method_3_code 5 = .ok (.aload 4, 2) := by decide +kernel
theorem own_daddown_addOld_7 : decode prog_26_method_3_code 7 = .ok (.arraylength, 1) := by decide +kernel
theorem own_daddown_addOld_8 : decode prog_26_method_3_code 8 = .ok (.istore 5, 2) := by decide +kernel
theorem own_daddown_addOld_10 : decode prog_26_method_3_code 10 = .ok (.iconst 0, 1) := by decide +kernel
theorem own_daddown_addOld_11 : decode prog_26_method_3_code 11 = .ok (.istore 6, 2) := by decide +kernel
theorem own_daddown_addOld_13 : decode prog_26_method_3_code 13 = .ok (.iload 6, 2) := by decide +kernel
theorem own_daddown_addOld_15 : decode prog_26_method_3_code 15 = .ok (.iload 5, 2) := by decide +kernel
theorem own_daddown_addOld_17 : decode prog_26_method_3_code 17 = .ok (.if_icmp .ge 69, 3) := by decide +kernel
theorem own_daddown_addOld_20 : decode prog_26_method_3_code 20 = .ok (.aload 4, 2) := by decide +kernel
theorem own_daddown_addOld_22 : decode prog_26_method_3_code 22 = .ok (.iload 6, 2) := by decide +kernel
theorem own_daddown_addOld_24 : decode prog_26_method_3_code 24 = .ok (.iaload, 1) := by decide +kernel
theorem own_daddown_addOld_25 : decode prog_26_method_3_code 25 = .ok (.istore 7, 2) := by decide +kernel
theorem own_daddown_addOld_27 : decode prog_26_method_3_code 27 = .ok (.aload_n 0, 1) := by decide +kernel
theorem own_daddown_addOld_28 : decode prog_26_method_3_code 28 = .ok (.iload_n 3, 1) := by decide +kernel
theorem own_daddown_addOld_29 : decode prog_26_method_3_code 29 = .ok (.iload 7, 2) := by decide +kernel
theorem own_daddown_addOld_31 : decode prog_26_method_3_code 31 = .ok (.invokevirtual 35, 3) := by decide +kernel
theorem own_daddown_addOld_34 : decode prog_26_method_3_code 34 = .ok (.istore 8, 2) := by decide +kernel
theorem own_daddown_addOld_36 : decode prog_26_method_3_code 36 = .ok (.iload 8, 2) := by decide +kernel
theorem own_daddown_addOld_38 : decode prog_26_method_3_code 38 = .ok (.iconst (-1), 1) := by decide +kernel
theorem own_daddown_addOld_39 : decode prog_26_method_3_code 39 = .ok (.if_icmp .ne 38, 3) := by decide +kernel
theorem own_daddown_addOld_77 : decode prog_26_method_3_code 77 = .ok (.iload 8, 2) := by decide +kernel
theorem own_daddown_addOld_79 : decode prog_26_method_3_code 79 = .ok (.istore_n 3, 1) := by decide +kernel
theorem own_daddown_addOld_80 : decode prog_26_method_3_code 80 = .ok (.iinc 6 1, 3) := by decide +kernel
theorem own_daddown_addOld_83 : decode prog_26_method_3_code 83 = .ok (.goto (-70), 3) := by decide +kernel
theorem own_daddown_addOld_86 : decode prog_26_method_3_code 86 = .ok (.iload_n 3, 1) := by decide +kernel
theorem own_daddown_addOld_87 : decode prog_26_method_3_code 87 = .ok (.ireturn, 1) := by decide +kernel
theorem own_pn_own_addOld : plainName "com/example/unicept/unicept/WordTrie" = true := by first | (simp [plainName, overriddenIn]; done) | decide +kernel
theorem own_ef_own_addOld (m : MethodId) (x0 : Addr) (x1 : Int32) (x2 : Addr) : entryFrame m #[(.ref x0), (.int x1), (.ref x2)] 9 = mkF m 0 #[.val (.ref x0), .val (.int x1), .val (.ref x2), .unset, .unset, .unset, .unset, .unset, .unset] [] := by first | (simp [entryFrame, mkF, argsToLocals, Value.category]; done) | rfl
def Q_own_addOld (Z : State) (a1 : Addr) (r : Nat) (k : Nat) (ch : Addr) (f : Nat → Int32) (rt : Addr) (gg : Nat → Int32) (tg : Addr) (kt : ClassId) (vts : List Value) (nd : Nat) (qw1 : Nat) (wd : Addr) (kw : ClassId) (h0 : Heap) (n0 : Nat) (v : Option Value) (h : Heap) (L : List Loc) : Prop := v = some (.int (f (nd * r + qw1))) ∧ Fr n0 L ∧ h = h0
set_option maxRecDepth 65536 in
set_option maxHeartbeats 40000000 in
theorem own_addOld (l : Launch) (Z : State) (a0 : Array Value) (hw : ∀ d ∈ tables_1, d.before a0 Z = true) (ws : List Jvm.Cond) (a1 : Addr) (r : Nat) (k : Nat) (ch : Addr) (f : Nat → Int32) (rt : Addr) (gg : Nat → Int32) (tg : Addr) (kt : ClassId) (vts : List Value) (nd : Nat) (qw1 : Nat) (wd : Addr) (kw : ClassId) (h0 : Heap) (n0 : Nat) (Z0 : n0 ≤ h0.size) (hT : own_TR Z h0 n0 a1 r k ch f rt gg tg kt vts) (hr1 : 1 ≤ r) (hr8 : r ≤ 8) (hk : k + 1 ≤ 16) (hnd : nd < k) (hq1 : qw1 < r) (V_wd : Arv Z h0 wd kw .int (1 : Int32) [(.int (Int32.ofNat qw1))] (.int (0 : Int32))) (nwa : wd ≠ a1) (nwc : wd ≠ ch) (nwr : wd ≠ rt) (hf : ¬ (f (nd * r + qw1) = (-1 : Int32))) :
    MetFree l (⟨"com/example/unicept/unicept/WordTrie", "add", "(I[I)I"⟩ : MethodName) (head1 (Jvm.Cond.code (⟨"com/example/unicept/unicept/WordTrie", "add", "(I[I)I"⟩ : MethodName) prog_26_method_3_code 9 (some .int) :: ws) ({ frames := 1, cells := 0, slots := 0, locals := 14 } : Room)) (fun a U => a = #[(.ref a1), (.int (Int32.ofNat nd)), (.ref wd)] ∧ Z.Warmed39 U.vm ∧ U.heap = h0) (fun _ _ _ _ _ => True) (fun _ U o U' => ∃ v L, o = .returned v ∧ Q_own_addOld Z a1 r k ch f rt gg tg kt vts nd qw1 wd kw h0 n0 v U'.heap L ∧ FrameEnd U o U' L ({ frames := 1, cells := 0, slots := 0, locals := 14 } : Room).cells ({ frames := 1, cells := 0, slots := 0, locals := 14 } : Room).slots) := by
  refine MetFree.of_bodySF (plainFor_of_name own_pn_own_addOld) hisR ?_
  intro p e s m args below meth c s₁ Bd hml0 hP hK
  obtain ⟨rfl, hZ, hh⟩ := hP
  have hx := Bd.exec
  have hby := Bd.bytes
  have hml : c.maxLocals = 9 := hml0
  have hown : s.vm.findClass "com/example/unicept/unicept/WordTrie" = some m.cls := findClass_of_methodNamed Bd.named
  have hnm := (name_of_methodNamed Bd.named Bd.method).1
  have X0 : Stand p l e ({ frames := 1, cells := 0, slots := 0, locals := 14 } : Room) s m #[(.ref a1), (.int (Int32.ofNat nd)), (.ref wd)] below meth c s₁ [] 0 0 := Stand.of_body Bd
  have e0 : s₁.heap = h0 := by rw [← hh, Bd.state]; rfl
  have N0 := Fr.nil n0
  have pre0 : Goes p e below s₁ (entryFrame m #[(.ref a1), (.int (Int32.ofNat nd)), (.ref wd)] 9) s₁ (mkF m 0 #[.val (.ref a1), .val (.int (Int32.ofNat nd)), .val (.ref wd), .unset, .unset, .unset, .unset, .unset, .unset] []) := fun t k => castTop (own_ef_own_addOld m a1 (Int32.ofNat nd) wd) k
  have hT0 := hT
  obtain ⟨E_a1, F_roles, F_children, F_roots, F_tags, F_size, V_ch, V_rt, V_tg, g_a1, g_ch, g_rt, g_tg, nac, nar, nat, ncr, nct, nrt⟩ := hT
  have pre1 : Goes p e below s₁ (entryFrame m #[(.ref a1), (.int (Int32.ofNat nd)), (.ref wd)] 9) s₁ (mkF m 7 #[.val (.ref a1), .val (.int (Int32.ofNat nd)), .val (.ref wd), .val (.int (Int32.ofNat nd)), .val (.ref wd), .unset, .unset, .unset, .unset] [(.ref wd)]) := fun t kt => pre0 t (by
      show Steps p.tables e below (s₁.setTop (mkF m 0 #[.val (.ref a1), .val (.int (Int32.ofNat nd)), .val (.ref wd), .unset, .unset, .unset, .unset, .unset, .unset] [])) _
      refine XS.iloadN X0.here hx rfl (hb hby own_daddown_addOld_0) rfl ?_
      show Steps p.tables e below (s₁.setTop (mkF m 1 #[.val (.ref a1), .val (.int (Int32.ofNat nd)), .val (.ref wd), .unset, .unset, .unset, .unset, .unset, .unset] [(.int (Int32.ofNat nd))])) _
      refine XS.istoreN X0.here hx rfl (hb hby own_daddown_addOld_1) rfl (l' := #[.val (.ref a1), .val (.int (Int32.ofNat nd)), .val (.ref wd), .val (.int (Int32.ofNat nd)), .unset, .unset, .unset, .unset, .unset]) rfl ?_
      show Steps p.tables e below (s₁.setTop (mkF m 2 #[.val (.ref a1), .val (.int (Int32.ofNat nd)), .val (.ref wd), .val (.int (Int32.ofNat nd)), .unset, .unset, .unset, .unset, .unset] [])) _
      refine XS.aloadN X0.here hx rfl (hb hby own_daddown_addOld_2) rfl rfl ?_
      show Steps p.tables e below (s₁.setTop (mkF m 3 #[.val (.ref a1), .val (.int (Int32.ofNat nd)), .val (.ref wd), .val (.int (Int32.ofNat nd)), .unset, .unset, .unset, .unset, .unset] [(.ref wd)])) _
      refine XS.astore X0.here hx rfl (hb hby own_daddown_addOld_3) rfl rfl (l' := #[.val (.ref a1), .val (.int (Int32.ofNat nd)), .val (.ref wd), .val (.int (Int32.ofNat nd)), .val (.ref wd), .unset, .unset, .unset, .unset]) rfl ?_
      show Steps p.tables e below (s₁.setTop (mkF m 5 #[.val (.ref a1), .val (.int (Int32.ofNat nd)), .val (.ref wd), .val (.int (Int32.ofNat nd)), .val (.ref wd), .unset, .unset, .unset, .unset] [])) _
      refine XS.aload X0.here hx rfl (hb hby own_daddown_addOld_5) rfl rfl ?_
      exact kt)
  obtain ⟨cl2, Ar2, q2, S2, N_2, H2, G2⟩ := (id (V_wd))
  have pre3 : Goes p e below s₁ (entryFrame m #[(.ref a1), (.int (Int32.ofNat nd)), (.ref wd)] 9) s₁ (mkF m 24 #[.val (.ref a1), .val (.int (Int32.ofNat nd)), .val (.ref wd), .val (.int (Int32.ofNat nd)), .val (.ref wd), .val (.int (1 : Int32)), .val (.int (0 : Int32)), .unset, .unset] [(.int (0 : Int32)), (.ref wd)]) := fun t kt => pre1 t (by
      show Steps p.tables e below (s₁.setTop (mkF m 7 #[.val (.ref a1), .val (.int (Int32.ofNat nd)), .val (.ref wd), .val (.int (Int32.ofNat nd)), .val (.ref wd), .unset, .unset, .unset, .unset] [(.ref wd)])) _
      refine X0.arraylength hx (by (try rw [e0]); exact Ar2.1) (State.isArrayOf_alike hZ.alike Ar2.2.1) (g := (mkF m 7 #[.val (.ref a1), .val (.int (Int32.ofNat nd)), .val (.ref wd), .val (.int (Int32.ofNat nd)), .val (.ref wd), .unset, .unset, .unset, .unset] [(.ref wd)])) rfl rfl (hb hby own_daddown_addOld_7) _ ?_
      rw [len_of S2 N_2]
      show Steps p.tables e below (s₁.setTop (mkF m 8 #[.val (.ref a1), .val (.int (Int32.ofNat nd)), .val (.ref wd), .val (.int (Int32.ofNat nd)), .val (.ref wd), .unset, .unset, .unset, .unset] [(.int (1 : Int32))])) _
      refine XS.istore X0.here hx rfl (hb hby own_daddown_addOld_8) rfl (l' := #[.val (.ref a1), .val (.int (Int32.ofNat nd)), .val (.ref wd), .val (.int (Int32.ofNat nd)), .val (.ref wd), .val (.int (1 : Int32)), .unset, .unset, .unset]) rfl ?_
      show Steps p.tables e below (s₁.setTop (mkF m 10 #[.val (.ref a1), .val (.int (Int32.ofNat nd)), .val (.ref wd), .val (.int (Int32.ofNat nd)), .val (.ref wd), .val (.int (1 : Int32)), .unset, .unset, .unset] [])) _
      refine XS.iconst X0.here hx rfl (hb hby own_daddown_addOld_10) ?_
      show Steps p.tables e below (s₁.setTop (mkF m 11 #[.val (.ref a1), .val (.int (Int32.ofNat nd)), .val (.ref wd), .val (.int (Int32.ofNat nd)), .val (.ref wd), .val (.int (1 : Int32)), .unset, .unset, .unset] [(.int (0 : Int32))])) _
      refine XS.istore X0.here hx rfl (hb hby own_daddown_addOld_11) rfl (l' := #[.val (.ref a1), .val (.int (Int32.ofNat nd)), .val (.ref wd), .val (.int (Int32.ofNat nd)), .val (.ref wd), .val (.int (1 : Int32)), .val (.int (0 : Int32)), .unset, .unset]) rfl ?_
      show Steps p.tables e below (s₁.setTop (mkF m 13 #[.val (.ref a1), .val (.int (Int32.ofNat nd)), .val (.ref wd), .val (.int (Int32.ofNat nd)), .val (.ref wd), .val (.int (1 : Int32)), .val (.int (0 : Int32)), .unset, .unset] [])) _
      refine XS.iload X0.here hx rfl (hb hby own_daddown_addOld_13) rfl ?_
      show Steps p.tables e below (s₁.setTop (mkF m 15 #[.val (.ref a1), .val (.int (Int32.ofNat nd)), .val (.ref wd), .val (.int (Int32.ofNat nd)), .val (.ref wd), .val (.int (1 : Int32)), .val (.int (0 : Int32)), .unset, .unset] [(.int (0 : Int32))])) _
      refine XS.iload X0.here hx rfl (hb hby own_daddown_addOld_15) rfl ?_
      show Steps p.tables e below (s₁.setTop (mkF m 17 #[.val (.ref a1), .val (.int (Int32.ofNat nd)), .val (.ref wd), .val (.int (Int32.ofNat nd)), .val (.ref wd), .val (.int (1 : Int32)), .val (.int (0 : Int32)), .unset, .unset] [(.int (1 : Int32)), (.int (0 : Int32))])) _
      refine XS.icmpNo X0.here hx rfl (hb hby own_daddown_addOld_17) rfl (tlt (by decide : (0 : Int32) < (1 : Int32))).2.1 ?_
      show Steps p.tables e below (s₁.setTop (mkF m 20 #[.val (.ref a1), .val (.int (Int32.ofNat nd)), .val (.ref wd), .val (.int (Int32.ofNat nd)), .val (.ref wd), .val (.int (1 : Int32)), .val (.int (0 : Int32)), .unset, .unset] [])) _
      refine XS.aload X0.here hx rfl (hb hby own_daddown_addOld_20) rfl rfl ?_
      show Steps p.tables e below (s₁.setTop (mkF m 22 #[.val (.ref a1), .val (.int (Int32.ofNat nd)), .val (.ref wd), .val (.int (Int32.ofNat nd)), .val (.ref wd), .val (.int (1 : Int32)), .val (.int (0 : Int32)), .unset, .unset] [(.ref wd)])) _
      refine XS.iload X0.here hx rfl (hb hby own_daddown_addOld_22) rfl ?_
      exact kt)
  obtain ⟨cl4, Ar4, q4, S4, N_4, H4, G4⟩ := (id (V_wd))
  have hin4 : ¬ ((0 : Int32) < 0 ∨ cl4.slots.size ≤ ((0 : Int32)).toNatClampNeg) := inb_of S4 ⟨by decide, by decide⟩
  have hat4 : cl4.slots[((0 : Int32)).toNatClampNeg]? = some (.int (Int32.ofNat qw1)) := Has.at H4 hin4 rfl
  have pre5 : Goes p e below s₁ (entryFrame m #[(.ref a1), (.int (Int32.ofNat nd)), (.ref wd)] 9) s₁ (mkF m 31 #[.val (.ref a1), .val (.int (Int32.ofNat nd)), .val (.ref wd), .val (.int (Int32.ofNat nd)), .val (.ref wd), .val (.int (1 : Int32)), .val (.int (0 : Int32)), .val (.int (Int32.ofNat qw1)), .unset] [(.int (Int32.ofNat qw1)), (.int (Int32.ofNat nd)), (.ref a1)]) := fun t kt => pre3 t (by
      show Steps p.tables e below (s₁.setTop (mkF m 24 #[.val (.ref a1), .val (.int (Int32.ofNat nd)), .val (.ref wd), .val (.int (Int32.ofNat nd)), .val (.ref wd), .val (.int (1 : Int32)), .val (.int (0 : Int32)), .unset, .unset] [(.int (0 : Int32)), (.ref wd)])) _
      refine X0.iaload hx (j := (0 : Int32)) (v := (.int (Int32.ofNat qw1))) (by (try rw [e0]); exact Ar4.1) (State.isArrayOf_alike hZ.alike Ar4.2.1) Ar4.2.2 hin4 hat4 (g := (mkF m 24 #[.val (.ref a1), .val (.int (Int32.ofNat nd)), .val (.ref wd), .val (.int (Int32.ofNat nd)), .val (.ref wd), .val (.int (1 : Int32)), .val (.int (0 : Int32)), .unset, .unset] [(.int (0 : Int32)), (.ref wd)])) rfl rfl (hb hby own_daddown_addOld_24) _ ?_
      show Steps p.tables e below (s₁.setTop (mkF m 25 #[.val (.ref a1), .val (.int (Int32.ofNat nd)), .val (.ref wd), .val (.int (Int32.ofNat nd)), .val (.ref wd), .val (.int (1 : Int32)), .val (.int (0 : Int32)), .unset, .unset] [(.int (Int32.ofNat qw1))])) _
      refine XS.istore X0.here hx rfl (hb hby own_daddown_addOld_25) rfl (l' := #[.val (.ref a1), .val (.int (Int32.ofNat nd)), .val (.ref wd), .val (.int (Int32.ofNat nd)), .val (.ref wd), .val (.int (1 : Int32)), .val (.int (0 : Int32)), .val (.int (Int32.ofNat qw1)), .unset]) rfl ?_
      show Steps p.tables e below (s₁.setTop (mkF m 27 #[.val (.ref a1), .val (.int (Int32.ofNat nd)), .val (.ref wd), .val (.int (Int32.ofNat nd)), .val (.ref wd), .val (.int (1 : Int32)), .val (.int (0 : Int32)), .val (.int (Int32.ofNat qw1)), .unset] [])) _
      refine XS.aloadN X0.here hx rfl (hb hby own_daddown_addOld_27) rfl rfl ?_
      show Steps p.tables e below (s₁.setTop (mkF m 28 #[.val (.ref a1), .val (.int (Int32.ofNat nd)), .val (.ref wd), .val (.int (Int32.ofNat nd)), .val (.ref wd), .val (.int (1 : Int32)), .val (.int (0 : Int32)), .val (.int (Int32.ofNat qw1)), .unset] [(.ref a1)])) _
      refine XS.iloadN X0.here hx rfl (hb hby own_daddown_addOld_28) rfl ?_
      show Steps p.tables e below (s₁.setTop (mkF m 29 #[.val (.ref a1), .val (.int (Int32.ofNat nd)), .val (.ref wd), .val (.int (Int32.ofNat nd)), .val (.ref wd), .val (.int (1 : Int32)), .val (.int (0 : Int32)), .val (.int (Int32.ofNat qw1)), .unset] [(.int (Int32.ofNat nd)), (.ref a1)])) _
      refine XS.iload X0.here hx rfl (hb hby own_daddown_addOld_29) rfl ?_
      exact kt)
  obtain ⟨cq6, kq6, q6a, q6b, q6c⟩ := isOf hZ e0 E_a1
  obtain ⟨_, _, ⟨T6, L6, k6, n6⟩, -, X6, ⟨Lc6, hQ6, l6, y6, z6⟩, st6⟩ := X0.virtualBack hx (y := (⟨"com/example/unicept/unicept/WordTrie", "child", "(II)I"⟩ : MethodName)) (z := (⟨"com/example/unicept/unicept/WordTrie", "child", "(II)I"⟩ : MethodName)) hown (mvT hZ (hw _ (List.mem_of_getElem? (i := 47) rfl))) (mvT hZ (hw _ (List.mem_of_getElem? (i := 48) rfl))) (notFace_of_selects (args := #[]) (mvT hZ (hw _ (List.mem_of_getElem? (i := 50) rfl)))) (mvT hZ (hw _ (List.mem_of_getElem? (i := 50) rfl))) (mvT hZ (hw _ (List.mem_of_getElem? (i := 49) rfl))) (by decide) (backOf (W := 0) (own_child l Z a0 hw [] a1 r k ch f rt gg tg kt vts nd qw1 h0 n0 Z0 hT0 hr8 (own_ix hnd (by omega) hq1)) hZ (hw _ (List.mem_of_getElem? (i := 51) rfl)) (hw _ (List.mem_of_getElem? (i := 3) rfl)) (by decide) (by decide)) q6a q6c (g := (mkF m 31 #[.val (.ref a1), .val (.int (Int32.ofNat nd)), .val (.ref wd), .val (.int (Int32.ofNat nd)), .val (.ref wd), .val (.int (1 : Int32)), .val (.int (0 : Int32)), .val (.int (Int32.ofNat qw1)), .unset] [(.int (Int32.ofNat qw1)), (.int (Int32.ofNat nd)), (.ref a1)])) rfl (by rw [hml]; rfl) (Steps.refl _) (argsL := [(.int (Int32.ofNat nd)), (.int (Int32.ofNat qw1))]) (rest := []) (lenOf own_pd3 rfl) rfl (by show 2 * 0 + _ ≤ _; exact Nat.le_of_eq rfl) (hb hby own_daddown_addOld_31) (fun _ _ => ⟨rfl, e0, (by decide : 0 + 0 ≤ _), (by decide : 0 + 0 ≤ _)⟩)
  dsimp only [Pt.U, Pt.locs, Pt.cells, Pt.slots] at X6 l6 y6 z6 st6 hQ6
  subst l6 y6 z6
  obtain ⟨rfl, N6q, e6⟩ := hQ6
  have N6 := Fr.app N0 N6q
  have pre7 : Goes p e below s₁ (entryFrame m #[(.ref a1), (.int (Int32.ofNat nd)), (.ref wd)] 9) T6 (mkF m 34 #[.val (.ref a1), .val (.int (Int32.ofNat nd)), .val (.ref wd), .val (.int (Int32.ofNat nd)), .val (.ref wd), .val (.int (1 : Int32)), .val (.int (0 : Int32)), .val (.int (Int32.ofNat qw1)), .unset] [(.int (f (nd * r + qw1)))]) := fun t kt => pre5 t (st6.trans kt)
  have pre8 : Goes p e below s₁ (entryFrame m #[(.ref a1), (.int (Int32.ofNat nd)), (.ref wd)] 9) T6 (mkF m 87 #[.val (.ref a1), .val (.int (Int32.ofNat nd)), .val (.ref wd), .val (.int (f (nd * r + qw1))), .val (.ref wd), .val (.int (1 : Int32)), .val (.int (1 : Int32)), .val (.int (Int32.ofNat qw1)), .val (.int (f (nd * r + qw1)))] [(.int (f (nd * r + qw1)))]) := fun t kt => pre7 t (by
      show Steps p.tables e below (T6.setTop (mkF m 34 #[.val (.ref a1), .val (.int (Int32.ofNat nd)), .val (.ref wd), .val (.int (Int32.ofNat nd)), .val (.ref wd), .val (.int (1 : Int32)), .val (.int (0 : Int32)), .val (.int (Int32.ofNat qw1)), .unset] [(.int (f (nd * r + qw1)))])) _
      refine XS.istore X6.here hx rfl (hb hby own_daddown_addOld_34) rfl (l' := #[.val (.ref a1), .val (.int (Int32.ofNat nd)), .val (.ref wd), .val (.int (Int32.ofNat nd)), .val (.ref wd), .val (.int (1 : Int32)), .val (.int (0 : Int32)), .val (.int (Int32.ofNat qw1)), .val (.int (f (nd * r + qw1)))]) rfl ?_
      show Steps p.tables e below (T6.setTop (mkF m 36 #[.val (.ref a1), .val (.int (Int32.ofNat nd)), .val (.ref wd), .val (.int (Int32.ofNat nd)), .val (.ref wd), .val (.int (1 : Int32)), .val (.int (0 : Int32)), .val (.int (Int32.ofNat qw1)), .val (.int (f (nd * r + qw1)))] [])) _
      refine XS.iload X6.here hx rfl (hb hby own_daddown_addOld_36) rfl ?_
      show Steps p.tables e below (T6.setTop (mkF m 38 #[.val (.ref a1), .val (.int (Int32.ofNat nd)), .val (.ref wd), .val (.int (Int32.ofNat nd)), .val (.ref wd), .val (.int (1 : Int32)), .val (.int (0 : Int32)), .val (.int (Int32.ofNat qw1)), .val (.int (f (nd * r + qw1)))] [(.int (f (nd * r + qw1)))])) _
      refine XS.iconst X6.here hx rfl (hb hby own_daddown_addOld_38) ?_
      show Steps p.tables e below (T6.setTop (mkF m 39 #[.val (.ref a1), .val (.int (Int32.ofNat nd)), .val (.ref wd), .val (.int (Int32.ofNat nd)), .val (.ref wd), .val (.int (1 : Int32)), .val (.int (0 : Int32)), .val (.int (Int32.ofNat qw1)), .val (.int (f (nd * r + qw1)))] [(.int (-1 : Int32)), (.int (f (nd * r + qw1)))])) _
      refine XS.icmpYes X6.here hx rfl (pc0 := 39) (pc' := 77) rfl (hb hby own_daddown_addOld_39) rfl (feq (hf : ¬ ((f (nd * r + qw1)) = (-1 : Int32)))).2 (by decide) (by decide) ?_
      show Steps p.tables e below (T6.setTop (mkF m 77 #[.val (.ref a1), .val (.int (Int32.ofNat nd)), .val (.ref wd), .val (.int (Int32.ofNat nd)), .val (.ref wd), .val (.int (1 : Int32)), .val (.int (0 : Int32)), .val (.int (Int32.ofNat qw1)), .val (.int (f (nd * r + qw1)))] [])) _
      refine XS.iload X6.here hx rfl (hb hby own_daddown_addOld_77) rfl ?_
      show Steps p.tables e below (T6.setTop (mkF m 79 #[.val (.ref a1), .val (.int (Int32.ofNat nd)), .val (.ref wd), .val (.int (Int32.ofNat nd)), .val (.ref wd), .val (.int (1 : Int32)), .val (.int (0 : Int32)), .val (.int (Int32.ofNat qw1)), .val (.int (f (nd * r + qw1)))] [(.int (f (nd * r + qw1)))])) _
      refine XS.istoreN X6.here hx rfl (hb hby own_daddown_addOld_79) rfl (l' := #[.val (.ref a1), .val (.int (Int32.ofNat nd)), .val (.ref wd), .val (.int (f (nd * r + qw1))), .val (.ref wd), .val (.int (1 : Int32)), .val (.int (0 : Int32)), .val (.int (Int32.ofNat qw1)), .val (.int (f (nd * r + qw1)))]) rfl ?_
      show Steps p.tables e below (T6.setTop (mkF m 80 #[.val (.ref a1), .val (.int (Int32.ofNat nd)), .val (.ref wd), .val (.int (f (nd * r + qw1))), .val (.ref wd), .val (.int (1 : Int32)), .val (.int (0 : Int32)), .val (.int (Int32.ofNat qw1)), .val (.int (f (nd * r + qw1)))] [])) _
      refine XS.iinc X6.here hx rfl (hb hby own_daddown_addOld_80) rfl (l' := #[.val (.ref a1), .val (.int (Int32.ofNat nd)), .val (.ref wd), .val (.int (f (nd * r + qw1))), .val (.ref wd), .val (.int (1 : Int32)), .val (.int (1 : Int32)), .val (.int (Int32.ofNat qw1)), .val (.int (f (nd * r + qw1)))]) rfl ?_
      show Steps p.tables e below (T6.setTop (mkF m 83 #[.val (.ref a1), .val (.int (Int32.ofNat nd)), .val (.ref wd), .val (.int (f (nd * r + qw1))), .val (.ref wd), .val (.int (1 : Int32)), .val (.int (1 : Int32)), .val (.int (Int32.ofNat qw1)), .val (.int (f (nd * r + qw1)))] [])) _
      refine XS.goto X6.here hx rfl (pc0 := 83) (pc' := 13) rfl (hb hby own_daddown_addOld_83) (by decide) (by decide) ?_
      show Steps p.tables e below (T6.setTop (mkF m 13 #[.val (.ref a1), .val (.int (Int32.ofNat nd)), .val (.ref wd), .val (.int (f (nd * r + qw1))), .val (.ref wd), .val (.int (1 : Int32)), .val (.int (1 : Int32)), .val (.int (Int32.ofNat qw1)), .val (.int (f (nd * r + qw1)))] [])) _
      refine XS.iload X6.here hx rfl (hb hby own_daddown_addOld_13) rfl ?_
      show Steps p.tables e below (T6.setTop (mkF m 15 #[.val (.ref a1), .val (.int (Int32.ofNat nd)), .val (.ref wd), .val (.int (f (nd * r + qw1))), .val (.ref wd), .val (.int (1 : Int32)), .val (.int (1 : Int32)), .val (.int (Int32.ofNat qw1)), .val (.int (f (nd * r + qw1)))] [(.int (1 : Int32))])) _
      refine XS.iload X6.here hx rfl (hb hby own_daddown_addOld_15) rfl ?_
      show Steps p.tables e below (T6.setTop (mkF m 17 #[.val (.ref a1), .val (.int (Int32.ofNat nd)), .val (.ref wd), .val (.int (f (nd * r + qw1))), .val (.ref wd), .val (.int (1 : Int32)), .val (.int (1 : Int32)), .val (.int (Int32.ofNat qw1)), .val (.int (f (nd * r + qw1)))] [(.int (1 : Int32)), (.int (1 : Int32))])) _
      refine XS.icmpYes X6.here hx rfl (pc0 := 17) (pc' := 86) rfl (hb hby own_daddown_addOld_17) rfl (flt (by decide : ¬ ((1 : Int32) < (1 : Int32)))).2.1 (by decide) (by decide) ?_
      show Steps p.tables e below (T6.setTop (mkF m 86 #[.val (.ref a1), .val (.int (Int32.ofNat nd)), .val (.ref wd), .val (.int (f (nd * r + qw1))), .val (.ref wd), .val (.int (1 : Int32)), .val (.int (1 : Int32)), .val (.int (Int32.ofNat qw1)), .val (.int (f (nd * r + qw1)))] [])) _
      refine XS.iloadN X6.here hx rfl (hb hby own_daddown_addOld_86) rfl ?_
      exact kt)
  obtain ⟨fs, hr, hrun, hended, hW, hsame⟩ := X6.leave (v := some (.int (f (nd * r + qw1)))) (fun h => by rw [Bd.returns] at h; cases h)
  refine ⟨_, _, pre8 _ ?_, hrun, hended, _, _, rfl, ?_, ⟨_, rfl⟩, hW, hsame.mono (by decide) (by decide)⟩
  · show Steps p.tables e below (T6.setTop (mkF m 87 #[.val (.ref a1), .val (.int (Int32.ofNat nd)), .val (.ref wd), .val (.int (f (nd * r + qw1))), .val (.ref wd), .val (.int (1 : Int32)), .val (.int (1 : Int32)), .val (.int (Int32.ofNat qw1)), .val (.int (f (nd * r + qw1)))] [(.int (f (nd * r + qw1)))])) _
    exact retI X6 hx Bd.returns (hb hby own_daddown_addOld_87) hr
  · show Q_own_addOld Z a1 r k ch f rt gg tg kt vts nd qw1 wd kw h0 n0 _ T6.heap _
    rw [e6]
    exact ⟨rfl, N6, rfl⟩
theorem own_pn_own_rm0 : plainName "com/example/unicept/unicept/WordTrieChildPinLaw" = true := by first | (simp [plainName, overriddenIn]; done) | decide +kernel
theorem own_ef_own_rm0 (m : MethodId) (x0 : Int32) (x1 : Int32) (x2 : Int32) (x3 : Int32) : entryFrame m #[(.int x0), (.int x1), (.int x2), (.int x3)] maxLocals = mkF m 0 #[.val (.int x0), .val (.int x1), .val (.int x2), .val (.int x3), .unset, .unset, .unset, .unset, .unset, .unset, .unset, .unset, .unset, .unset, .unset, .unset, .unset, .unset, .unset, .unset, .unset, .unset] [] := by first | (simp [entryFrame, mkF, argsToLocals, Value.category, maxLocals]; done) | rfl
def Q_own_rm0 (Z : State) (qa : Int32) (qb : Int32) (qx : Int32) (qy : Int32) (h0 : Heap) (n0 : Nat) (v : Option Value) (h : Heap) (L : List Loc) : Prop := v = some (.int (1 : Int32)) ∧ Fr n0 L
set_option maxRecDepth 65536 in
set_option maxHeartbeats 40000000 in
theorem own_rm0 (l : Launch) (Z : State) (a0 : Array Value) (hw : ∀ d ∈ tables_1, d.before a0 Z = true) (ws : List Jvm.Cond) (qa : Int32) (qb : Int32) (qx : Int32) (qy : Int32) (h0 : Heap) (n0 : Nat) (Z0 : n0 ≤ h0.size) :
    MetFree l x (head1 (Jvm.Cond.code x code maxLocals ret :: ws) room_1) (fun a U => a = #[(.int qa), (.int qb), (.int qx), (.int qy)] ∧ Z.Warmed39 U.vm ∧ U.heap = h0) (fun _ _ _ _ _ => True) (fun _ U o U' => ∃ v L, o = .returned v ∧ Q_own_rm0 Z qa qb qx qy h0 n0 v U'.heap L ∧ FrameEnd U o U' L room_1.cells room_1.slots) := by
  refine MetFree.of_bodySF (plainFor_of_name own_pn_own_rm0) hisR ?_
  intro p e s m args below meth c s₁ Bd hml0 hP hK
  obtain ⟨rfl, hZ, hh⟩ := hP
  have hx := Bd.exec
  have hby := Bd.bytes
  have hml : c.maxLocals = 22 := hml0
  have hown : s.vm.findClass "com/example/unicept/unicept/WordTrieChildPinLaw" = some m.cls := findClass_of_methodNamed Bd.named
  have hnm := (name_of_methodNamed Bd.named Bd.method).1
  have X0 : Stand p l e room_1 s m #[(.int qa), (.int qb), (.int qx), (.int qy)] below meth c s₁ [] 0 0 := Stand.of_body Bd
  have e0 : s₁.heap = h0 := by rw [← hh, Bd.state]; rfl
  have N0 := Fr.nil n0
  have pre0 : Goes p e below s₁ (entryFrame m #[(.int qa), (.int qb), (.int qx), (.int qy)] maxLocals) s₁ (mkF m 0 #[.val (.int qa), .val (.int qb), .val (.int qx), .val (.int qy), .unset, .unset, .unset, .unset, .unset, .unset, .unset, .unset, .unset, .unset, .unset, .unset, .unset, .unset, .unset, .unset, .unset, .unset] []) := fun t k => castTop (own_ef_own_rm0 m qa qb qx qy) k
  have pre1 : Goes p e below s₁ (entryFrame m #[(.int qa), (.int qb), (.int qx), (.int qy)] maxLocals) s₁ (mkF m 6 #[.val (.int qa), .val (.int qb), .val (.int qx), .val (.int qy), .unset, .unset, .unset, .unset, .unset, .unset, .unset, .unset, .unset, .unset, .unset, .unset, .unset, .unset, .unset, .unset, .unset, .unset] [(.int ((1 : Int32) + (qa &&& (7 : Int32))))]) := fun t kt => pre0 t (by
      show Steps p.tables e below (s₁.setTop (mkF m 0 #[.val (.int qa), .val (.int qb), .val (.int qx), .val (.int qy), .unset, .unset, .unset, .unset, .unset, .unset, .unset, .unset, .unset, .unset, .unset, .unset, .unset, .unset, .unset, .unset, .unset, .unset] [])) _
      refine XS.iconst X0.here hx rfl (hb hby at_0) ?_
      show Steps p.tables e below (s₁.setTop (mkF m 1 #[.val (.int qa), .val (.int qb), .val (.int qx), .val (.int qy), .unset, .unset, .unset, .unset, .unset, .unset, .unset, .unset, .unset, .unset, .unset, .unset, .unset, .unset, .unset, .unset, .unset, .unset] [(.int (1 : Int32))])) _
      refine XS.iloadN X0.here hx rfl (hb hby at_1) rfl ?_
      show Steps p.tables e below (s₁.setTop (mkF m 2 #[.val (.int qa), .val (.int qb), .val (.int qx), .val (.int qy), .unset, .unset, .unset, .unset, .unset, .unset, .unset, .unset, .unset, .unset, .unset, .unset, .unset, .unset, .unset, .unset, .unset, .unset] [(.int qa), (.int (1 : Int32))])) _
      refine XS.bipush X0.here hx rfl (hb hby at_2) ?_
      show Steps p.tables e below (s₁.setTop (mkF m 4 #[.val (.int qa), .val (.int qb), .val (.int qx), .val (.int qy), .unset, .unset, .unset, .unset, .unset, .unset, .unset, .unset, .unset, .unset, .unset, .unset, .unset, .unset, .unset, .unset, .unset, .unset] [(.int (7 : Int32)), (.int qa), (.int (1 : Int32))])) _
      refine XS.iand X0.here hx rfl (hb hby at_4) rfl ?_
      show Steps p.tables e below (s₁.setTop (mkF m 5 #[.val (.int qa), .val (.int qb), .val (.int qx), .val (.int qy), .unset, .unset, .unset, .unset, .unset, .unset, .unset, .unset, .unset, .unset, .unset, .unset, .unset, .unset, .unset, .unset, .unset, .unset] [(.int (qa &&& (7 : Int32))), (.int (1 : Int32))])) _
      refine XS.iadd X0.here hx rfl (hb hby at_5) rfl ?_
      exact kt)
  obtain ⟨r, hr1, hr8, hre⟩ := own_r qa
  rw [show ((1 : Int32) + (qa &&& (7 : Int32))) = (Int32.ofNat r) from hre] at pre1
  have pre2 : Goes p e below s₁ (entryFrame m #[(.int qa), (.int qb), (.int qx), (.int qy)] maxLocals) s₁ (mkF m 16 #[.val (.int qa), .val (.int qb), .val (.int qx), .val (.int qy), .val (.int (Int32.ofNat r)), .unset, .unset, .unset, .unset, .unset, .unset, .unset, .unset, .unset, .unset, .unset, .unset, .unset, .unset, .unset, .unset, .unset] [(.int ((qb &&& (255 : Int32)) % (Int32.ofNat r)))]) := fun t kt => pre1 t (by
      show Steps p.tables e below (s₁.setTop (mkF m 6 #[.val (.int qa), .val (.int qb), .val (.int qx), .val (.int qy), .unset, .unset, .unset, .unset, .unset, .unset, .unset, .unset, .unset, .unset, .unset, .unset, .unset, .unset, .unset, .unset, .unset, .unset] [(.int (Int32.ofNat r))])) _
      refine XS.istore X0.here hx rfl (hb hby at_6) rfl (l' := #[.val (.int qa), .val (.int qb), .val (.int qx), .val (.int qy), .val (.int (Int32.ofNat r)), .unset, .unset, .unset, .unset, .unset, .unset, .unset, .unset, .unset, .unset, .unset, .unset, .unset, .unset, .unset, .unset, .unset]) rfl ?_
      show Steps p.tables e below (s₁.setTop (mkF m 8 #[.val (.int qa), .val (.int qb), .val (.int qx), .val (.int qy), .val (.int (Int32.ofNat r)), .unset, .unset, .unset, .unset, .unset, .unset, .unset, .unset, .unset, .unset, .unset, .unset, .unset, .unset, .unset, .unset, .unset] [])) _
      refine XS.iloadN X0.here hx rfl (hb hby at_8) rfl ?_
      show Steps p.tables e below (s₁.setTop (mkF m 9 #[.val (.int qa), .val (.int qb), .val (.int qx), .val (.int qy), .val (.int (Int32.ofNat r)), .unset, .unset, .unset, .unset, .unset, .unset, .unset, .unset, .unset, .unset, .unset, .unset, .unset, .unset, .unset, .unset, .unset] [(.int qb)])) _
      refine XS.sipush X0.here hx rfl (hb hby at_9) ?_
      show Steps p.tables e below (s₁.setTop (mkF m 12 #[.val (.int qa), .val (.int qb), .val (.int qx), .val (.int qy), .val (.int (Int32.ofNat r)), .unset, .unset, .unset, .unset, .unset, .unset, .unset, .unset, .unset, .unset, .unset, .unset, .unset, .unset, .unset, .unset, .unset] [(.int (255 : Int32)), (.int qb)])) _
      refine XS.iand X0.here hx rfl (hb hby at_12) rfl ?_
      show Steps p.tables e below (s₁.setTop (mkF m 13 #[.val (.int qa), .val (.int qb), .val (.int qx), .val (.int qy), .val (.int (Int32.ofNat r)), .unset, .unset, .unset, .unset, .unset, .unset, .unset, .unset, .unset, .unset, .unset, .unset, .unset, .unset, .unset, .unset, .unset] [(.int (qb &&& (255 : Int32)))])) _
      refine XS.iload X0.here hx rfl (hb hby at_13) rfl ?_
      show Steps p.tables e below (s₁.setTop (mkF m 15 #[.val (.int qa), .val (.int qb), .val (.int qx), .val (.int qy), .val (.int (Int32.ofNat r)), .unset, .unset, .unset, .unset, .unset, .unset, .unset, .unset, .unset, .unset, .unset, .unset, .unset, .unset, .unset, .unset, .unset] [(.int (Int32.ofNat r)), (.int (qb &&& (255 : Int32)))])) _
      refine iremM X0 hx rfl (hb hby at_15) rfl (own_nz hr1 hr8) ?_
      exact kt)
  obtain ⟨p0, hlp0, hep0⟩ := own_rem hr1 hr8 (own_n1 qb)
  rw [show ((qb &&& (255 : Int32)) % (Int32.ofNat r)) = (Int32.ofNat p0) from hep0] at pre2
  have pre3 : Goes p e below s₁ (entryFrame m #[(.int qa), (.int qb), (.int qx), (.int qy)] maxLocals) s₁ (mkF m 29 #[.val (.int qa), .val (.int qb), .val (.int qx), .val (.int qy), .val (.int (Int32.ofNat r)), .val (.int (Int32.ofNat p0)), .unset, .unset, .unset, .unset, .unset, .unset, .unset, .unset, .unset, .unset, .unset, .unset, .unset, .unset, .unset, .unset] [(.int ((((qb.toUInt32 >>> ((8 : Int32) &&& 31).toUInt32).toInt32) &&& (255 : Int32)) % (Int32.ofNat r)))]) := fun t kt => pre2 t (by
      show Steps p.tables e below (s₁.setTop (mkF m 16 #[.val (.int qa), .val (.int qb), .val (.int qx), .val (.int qy), .val (.int (Int32.ofNat r)), .unset, .unset, .unset, .unset, .unset, .unset, .unset, .unset, .unset, .unset, .unset, .unset, .unset, .unset, .unset, .unset, .unset] [(.int (Int32.ofNat p0))])) _
      refine XS.istore X0.here hx rfl (hb hby at_16) rfl (l' := #[.val (.int qa), .val (.int qb), .val (.int qx), .val (.int qy), .val (.int (Int32.ofNat r)), .val (.int (Int32.ofNat p0)), .unset, .unset, .unset, .unset, .unset, .unset, .unset, .unset, .unset, .unset, .unset, .unset, .unset, .unset, .unset, .unset]) rfl ?_
      show Steps p.tables e below (s₁.setTop (mkF m 18 #[.val (.int qa), .val (.int qb), .val (.int qx), .val (.int qy), .val (.int (Int32.ofNat r)), .val (.int (Int32.ofNat p0)), .unset, .unset, .unset, .unset, .unset, .unset, .unset, .unset, .unset, .unset, .unset, .unset, .unset, .unset, .unset, .unset] [])) _
      refine XS.iloadN X0.here hx rfl (hb hby at_18) rfl ?_
      show Steps p.tables e below (s₁.setTop (mkF m 19 #[.val (.int qa), .val (.int qb), .val (.int qx), .val (.int qy), .val (.int (Int32.ofNat r)), .val (.int (Int32.ofNat p0)), .unset, .unset, .unset, .unset, .unset, .unset, .unset, .unset, .unset, .unset, .unset, .unset, .unset, .unset, .unset, .unset] [(.int qb)])) _
      refine XS.bipush X0.here hx rfl (hb hby at_19) ?_
      show Steps p.tables e below (s₁.setTop (mkF m 21 #[.val (.int qa), .val (.int qb), .val (.int qx), .val (.int qy), .val (.int (Int32.ofNat r)), .val (.int (Int32.ofNat p0)), .unset, .unset, .unset, .unset, .unset, .unset, .unset, .unset, .unset, .unset, .unset, .unset, .unset, .unset, .unset, .unset] [(.int (8 : Int32)), (.int qb)])) _
      refine XS.iushr X0.here hx rfl (hb hby at_21) rfl ?_
      show Steps p.tables e below (s₁.setTop (mkF m 22 #[.val (.int qa), .val (.int qb), .val (.int qx), .val (.int qy), .val (.int (Int32.ofNat r)), .val (.int (Int32.ofNat p0)), .unset, .unset, .unset, .unset, .unset, .unset, .unset, .unset, .unset, .unset, .unset, .unset, .unset, .unset, .unset, .unset] [(.int ((qb.toUInt32 >>> ((8 : Int32) &&& 31).toUInt32).toInt32))])) _
      refine XS.sipush X0.here hx rfl (hb hby at_22) ?_
      show Steps p.tables e below (s₁.setTop (mkF m 25 #[.val (.int qa), .val (.int qb), .val (.int qx), .val (.int qy), .val (.int (Int32.ofNat r)), .val (.int (Int32.ofNat p0)), .unset, .unset, .unset, .unset, .unset, .unset, .unset, .unset, .unset, .unset, .unset, .unset, .unset, .unset, .unset, .unset] [(.int (255 : Int32)), (.int ((qb.toUInt32 >>> ((8 : Int32) &&& 31).toUInt32).toInt32))])) _
      refine XS.iand X0.here hx rfl (hb hby at_25) rfl ?_
      show Steps p.tables e below (s₁.setTop (mkF m 26 #[.val (.int qa), .val (.int qb), .val (.int qx), .val (.int qy), .val (.int (Int32.ofNat r)), .val (.int (Int32.ofNat p0)), .unset, .unset, .unset, .unset, .unset, .unset, .unset, .unset, .unset, .unset, .unset, .unset, .unset, .unset, .unset, .unset] [(.int (((qb.toUInt32 >>> ((8 : Int32) &&& 31).toUInt32).toInt32) &&& (255 : Int32)))])) _
      refine XS.iload X0.here hx rfl (hb hby at_26) rfl ?_
      show Steps p.tables e below (s₁.setTop (mkF m 28 #[.val (.int qa), .val (.int qb), .val (.int qx), .val (.int qy), .val (.int (Int32.ofNat r)), .val (.int (Int32.ofNat p0)), .unset, .unset, .unset, .unset, .unset, .unset, .unset, .unset, .unset, .unset, .unset, .unset, .unset, .unset, .unset, .unset] [(.int (Int32.ofNat r)), (.int (((qb.toUInt32 >>> ((8 : Int32) &&& 31).toUInt32).toInt32) &&& (255 : Int32)))])) _
      refine iremM X0 hx rfl (hb hby at_28) rfl (own_nz hr1 hr8) ?_
      exact kt)
  obtain ⟨q0, hlq0, heq0⟩ := own_rem hr1 hr8 (own_n2 qb)
  rw [show ((((qb.toUInt32 >>> ((8 : Int32) &&& 31).toUInt32).toInt32) &&& (255 : Int32)) % (Int32.ofNat r)) = (Int32.ofNat q0) from heq0] at pre3
  have pre4 : Goes p e below s₁ (entryFrame m #[(.int qa), (.int qb), (.int qx), (.int qy)] maxLocals) s₁ (mkF m 42 #[.val (.int qa), .val (.int qb), .val (.int qx), .val (.int qy), .val (.int (Int32.ofNat r)), .val (.int (Int32.ofNat p0)), .val (.int (Int32.ofNat q0)), .unset, .unset, .unset, .unset, .unset, .unset, .unset, .unset, .unset, .unset, .unset, .unset, .unset, .unset, .unset] [(.int ((((qb.toUInt32 >>> ((16 : Int32) &&& 31).toUInt32).toInt32) &&& (255 : Int32)) % (Int32.ofNat r)))]) := fun t kt => pre3 t (by
      show Steps p.tables e below (s₁.setTop (mkF m 29 #[.val (.int qa), .val (.int qb), .val (.int qx), .val (.int qy), .val (.int (Int32.ofNat r)), .val (.int (Int32.ofNat p0)), .unset, .unset, .unset, .unset, .unset, .unset, .unset, .unset, .unset, .unset, .unset, .unset, .unset, .unset, .unset, .unset] [(.int (Int32.ofNat q0))])) _
      refine XS.istore X0.here hx rfl (hb hby at_29) rfl (l' := #[.val (.int qa), .val (.int qb), .val (.int qx), .val (.int qy), .val (.int (Int32.ofNat r)), .val (.int (Int32.ofNat p0)), .val (.int (Int32.ofNat q0)), .unset, .unset, .unset, .unset, .unset, .unset, .unset, .unset, .unset, .unset, .unset, .unset, .unset, .unset, .unset]) rfl ?_
      show Steps p.tables e below (s₁.setTop (mkF m 31 #[.val (.int qa), .val (.int qb), .val (.int qx), .val (.int qy), .val (.int (Int32.ofNat r)), .val (.int (Int32.ofNat p0)), .val (.int (Int32.ofNat q0)), .unset, .unset, .unset, .unset, .unset, .unset, .unset, .unset, .unset, .unset, .unset, .unset, .unset, .unset, .unset] [])) _
      refine XS.iloadN X0.here hx rfl (hb hby at_31) rfl ?_
      show Steps p.tables e below (s₁.setTop (mkF m 32 #[.val (.int qa), .val (.int qb), .val (.int qx), .val (.int qy), .val (.int (Int32.ofNat r)), .val (.int (Int32.ofNat p0)), .val (.int (Int32.ofNat q0)), .unset, .unset, .unset, .unset, .unset, .unset, .unset, .unset, .unset, .unset, .unset, .unset, .unset, .unset, .unset] [(.int qb)])) _
      refine XS.bipush X0.here hx rfl (hb hby at_32) ?_
      show Steps p.tables e below (s₁.setTop (mkF m 34 #[.val (.int qa), .val (.int qb), .val (.int qx), .val (.int qy), .val (.int (Int32.ofNat r)), .val (.int (Int32.ofNat p0)), .val (.int (Int32.ofNat q0)), .unset, .unset, .unset, .unset, .unset, .unset, .unset, .unset, .unset, .unset, .unset, .unset, .unset, .unset, .unset] [(.int (16 : Int32)), (.int qb)])) _
      refine XS.iushr X0.here hx rfl (hb hby at_34) rfl ?_
      show Steps p.tables e below (s₁.setTop (mkF m 35 #[.val (.int qa), .val (.int qb), .val (.int qx), .val (.int qy), .val (.int (Int32.ofNat r)), .val (.int (Int32.ofNat p0)), .val (.int (Int32.ofNat q0)), .unset, .unset, .unset, .unset, .unset, .unset, .unset, .unset, .unset, .unset, .unset, .unset, .unset, .unset, .unset] [(.int ((qb.toUInt32 >>> ((16 : Int32) &&& 31).toUInt32).toInt32))])) _
      refine XS.sipush X0.here hx rfl (hb hby at_35) ?_
      show Steps p.tables e below (s₁.setTop (mkF m 38 #[.val (.int qa), .val (.int qb), .val (.int qx), .val (.int qy), .val (.int (Int32.ofNat r)), .val (.int (Int32.ofNat p0)), .val (.int (Int32.ofNat q0)), .unset, .unset, .unset, .unset, .unset, .unset, .unset, .unset, .unset, .unset, .unset, .unset, .unset, .unset, .unset] [(.int (255 : Int32)), (.int ((qb.toUInt32 >>> ((16 : Int32) &&& 31).toUInt32).toInt32))])) _
      refine XS.iand X0.here hx rfl (hb hby at_38) rfl ?_
      show Steps p.tables e below (s₁.setTop (mkF m 39 #[.val (.int qa), .val (.int qb), .val (.int qx), .val (.int qy), .val (.int (Int32.ofNat r)), .val (.int (Int32.ofNat p0)), .val (.int (Int32.ofNat q0)), .unset, .unset, .unset, .unset, .unset, .unset, .unset, .unset, .unset, .unset, .unset, .unset, .unset, .unset, .unset] [(.int (((qb.toUInt32 >>> ((16 : Int32) &&& 31).toUInt32).toInt32) &&& (255 : Int32)))])) _
      refine XS.iload X0.here hx rfl (hb hby at_39) rfl ?_
      show Steps p.tables e below (s₁.setTop (mkF m 41 #[.val (.int qa), .val (.int qb), .val (.int qx), .val (.int qy), .val (.int (Int32.ofNat r)), .val (.int (Int32.ofNat p0)), .val (.int (Int32.ofNat q0)), .unset, .unset, .unset, .unset, .unset, .unset, .unset, .unset, .unset, .unset, .unset, .unset, .unset, .unset, .unset] [(.int (Int32.ofNat r)), (.int (((qb.toUInt32 >>> ((16 : Int32) &&& 31).toUInt32).toInt32) &&& (255 : Int32)))])) _
      refine iremM X0 hx rfl (hb hby at_41) rfl (own_nz hr1 hr8) ?_
      exact kt)
  obtain ⟨s0, hls0, hes0⟩ := own_rem hr1 hr8 (own_n3 qb)
  rw [show ((((qb.toUInt32 >>> ((16 : Int32) &&& 31).toUInt32).toInt32) &&& (255 : Int32)) % (Int32.ofNat r)) = (Int32.ofNat s0) from hes0] at pre4
  have pre5 : Goes p e below s₁ (entryFrame m #[(.int qa), (.int qb), (.int qx), (.int qy)] maxLocals) s₁ (mkF m 55 #[.val (.int qa), .val (.int qb), .val (.int qx), .val (.int qy), .val (.int (Int32.ofNat r)), .val (.int (Int32.ofNat p0)), .val (.int (Int32.ofNat q0)), .val (.int (Int32.ofNat s0)), .unset, .unset, .unset, .unset, .unset, .unset, .unset, .unset, .unset, .unset, .unset, .unset, .unset, .unset] [(.int ((((qb.toUInt32 >>> ((24 : Int32) &&& 31).toUInt32).toInt32) &&& (255 : Int32)) % (Int32.ofNat r)))]) := fun t kt => pre4 t (by
      show Steps p.tables e below (s₁.setTop (mkF m 42 #[.val (.int qa), .val (.int qb), .val (.int qx), .val (.int qy), .val (.int (Int32.ofNat r)), .val (.int (Int32.ofNat p0)), .val (.int (Int32.ofNat q0)), .unset, .unset, .unset, .unset, .unset, .unset, .unset, .unset, .unset, .unset, .unset, .unset, .unset, .unset, .unset] [(.int (Int32.ofNat s0))])) _
      refine XS.istore X0.here hx rfl (hb hby at_42) rfl (l' := #[.val (.int qa), .val (.int qb), .val (.int qx), .val (.int qy), .val (.int (Int32.ofNat r)), .val (.int (Int32.ofNat p0)), .val (.int (Int32.ofNat q0)), .val (.int (Int32.ofNat s0)), .unset, .unset, .unset, .unset, .unset, .unset, .unset, .unset, .unset, .unset, .unset, .unset, .unset, .unset]) rfl ?_
      show Steps p.tables e below (s₁.setTop (mkF m 44 #[.val (.int qa), .val (.int qb), .val (.int qx), .val (.int qy), .val (.int (Int32.ofNat r)), .val (.int (Int32.ofNat p0)), .val (.int (Int32.ofNat q0)), .val (.int (Int32.ofNat s0)), .unset, .unset, .unset, .unset, .unset, .unset, .unset, .unset, .unset, .unset, .unset, .unset, .unset, .unset] [])) _
      refine XS.iloadN X0.here hx rfl (hb hby at_44) rfl ?_
      show Steps p.tables e below (s₁.setTop (mkF m 45 #[.val (.int qa), .val (.int qb), .val (.int qx), .val (.int qy), .val (.int (Int32.ofNat r)), .val (.int (Int32.ofNat p0)), .val (.int (Int32.ofNat q0)), .val (.int (Int32.ofNat s0)), .unset, .unset, .unset, .unset, .unset, .unset, .unset, .unset, .unset, .unset, .unset, .unset, .unset, .unset] [(.int qb)])) _
      refine XS.bipush X0.here hx rfl (hb hby at_45) ?_
      show Steps p.tables e below (s₁.setTop (mkF m 47 #[.val (.int qa), .val (.int qb), .val (.int qx), .val (.int qy), .val (.int (Int32.ofNat r)), .val (.int (Int32.ofNat p0)), .val (.int (Int32.ofNat q0)), .val (.int (Int32.ofNat s0)), .unset, .unset, .unset, .unset, .unset, .unset, .unset, .unset, .unset, .unset, .unset, .unset, .unset, .unset] [(.int (24 : Int32)), (.int qb)])) _
      refine XS.iushr X0.here hx rfl (hb hby at_47) rfl ?_
      show Steps p.tables e below (s₁.setTop (mkF m 48 #[.val (.int qa), .val (.int qb), .val (.int qx), .val (.int qy), .val (.int (Int32.ofNat r)), .val (.int (Int32.ofNat p0)), .val (.int (Int32.ofNat q0)), .val (.int (Int32.ofNat s0)), .unset, .unset, .unset, .unset, .unset, .unset, .unset, .unset, .unset, .unset, .unset, .unset, .unset, .unset] [(.int ((qb.toUInt32 >>> ((24 : Int32) &&& 31).toUInt32).toInt32))])) _
      refine XS.sipush X0.here hx rfl (hb hby at_48) ?_
      show Steps p.tables e below (s₁.setTop (mkF m 51 #[.val (.int qa), .val (.int qb), .val (.int qx), .val (.int qy), .val (.int (Int32.ofNat r)), .val (.int (Int32.ofNat p0)), .val (.int (Int32.ofNat q0)), .val (.int (Int32.ofNat s0)), .unset, .unset, .unset, .unset, .unset, .unset, .unset, .unset, .unset, .unset, .unset, .unset, .unset, .unset] [(.int (255 : Int32)), (.int ((qb.toUInt32 >>> ((24 : Int32) &&& 31).toUInt32).toInt32))])) _
      refine XS.iand X0.here hx rfl (hb hby at_51) rfl ?_
      show Steps p.tables e below (s₁.setTop (mkF m 52 #[.val (.int qa), .val (.int qb), .val (.int qx), .val (.int qy), .val (.int (Int32.ofNat r)), .val (.int (Int32.ofNat p0)), .val (.int (Int32.ofNat q0)), .val (.int (Int32.ofNat s0)), .unset, .unset, .unset, .unset, .unset, .unset, .unset, .unset, .unset, .unset, .unset, .unset, .unset, .unset] [(.int (((qb.toUInt32 >>> ((24 : Int32) &&& 31).toUInt32).toInt32) &&& (255 : Int32)))])) _
      refine XS.iload X0.here hx rfl (hb hby at_52) rfl ?_
      show Steps p.tables e below (s₁.setTop (mkF m 54 #[.val (.int qa), .val (.int qb), .val (.int qx), .val (.int qy), .val (.int (Int32.ofNat r)), .val (.int (Int32.ofNat p0)), .val (.int (Int32.ofNat q0)), .val (.int (Int32.ofNat s0)), .unset, .unset, .unset, .unset, .unset, .unset, .unset, .unset, .unset, .unset, .unset, .unset, .unset, .unset] [(.int (Int32.ofNat r)), (.int (((qb.toUInt32 >>> ((24 : Int32) &&& 31).toUInt32).toInt32) &&& (255 : Int32)))])) _
      refine iremM X0 hx rfl (hb hby at_54) rfl (own_nz hr1 hr8) ?_
      exact kt)
  obtain ⟨t0, hlt0, het0⟩ := own_rem hr1 hr8 (own_n4 qb)
  rw [show ((((qb.toUInt32 >>> ((24 : Int32) &&& 31).toUInt32).toInt32) &&& (255 : Int32)) % (Int32.ofNat r)) = (Int32.ofNat t0) from het0] at pre5
  have pre6 : Goes p e below s₁ (entryFrame m #[(.int qa), (.int qb), (.int qx), (.int qy)] maxLocals) s₁ (mkF m 58 #[.val (.int qa), .val (.int qb), .val (.int qx), .val (.int qy), .val (.int (Int32.ofNat r)), .val (.int (Int32.ofNat p0)), .val (.int (Int32.ofNat q0)), .val (.int (Int32.ofNat s0)), .val (.int (Int32.ofNat t0)), .unset, .unset, .unset, .unset, .unset, .unset, .unset, .unset, .unset, .unset, .unset, .unset, .unset] [(.int (2 : Int32))]) := fun t kt => pre5 t (by
      show Steps p.tables e below (s₁.setTop (mkF m 55 #[.val (.int qa), .val (.int qb), .val (.int qx), .val (.int qy), .val (.int (Int32.ofNat r)), .val (.int (Int32.ofNat p0)), .val (.int (Int32.ofNat q0)), .val (.int (Int32.ofNat s0)), .unset, .unset, .unset, .unset, .unset, .unset, .unset, .unset, .unset, .unset, .unset, .unset, .unset, .unset] [(.int (Int32.ofNat t0))])) _
      refine XS.istore X0.here hx rfl (hb hby at_55) rfl (l' := #[.val (.int qa), .val (.int qb), .val (.int qx), .val (.int qy), .val (.int (Int32.ofNat r)), .val (.int (Int32.ofNat p0)), .val (.int (Int32.ofNat q0)), .val (.int (Int32.ofNat s0)), .val (.int (Int32.ofNat t0)), .unset, .unset, .unset, .unset, .unset, .unset, .unset, .unset, .unset, .unset, .unset, .unset, .unset]) rfl ?_
      show Steps p.tables e below (s₁.setTop (mkF m 57 #[.val (.int qa), .val (.int qb), .val (.int qx), .val (.int qy), .val (.int (Int32.ofNat r)), .val (.int (Int32.ofNat p0)), .val (.int (Int32.ofNat q0)), .val (.int (Int32.ofNat s0)), .val (.int (Int32.ofNat t0)), .unset, .unset, .unset, .unset, .unset, .unset, .unset, .unset, .unset, .unset, .unset, .unset, .unset] [])) _
      refine XS.iconst X0.here hx rfl (hb hby at_57) ?_
      exact kt)
  obtain ⟨T7, h7, k7, X7, e7, E7, A7, st7⟩ := newP X0 hx hZ (hw _ (List.mem_of_getElem? (i := 0) rfl)) e0 (g := (mkF m 58 #[.val (.int qa), .val (.int qb), .val (.int qx), .val (.int qy), .val (.int (Int32.ofNat r)), .val (.int (Int32.ofNat p0)), .val (.int (Int32.ofNat q0)), .val (.int (Int32.ofNat s0)), .val (.int (Int32.ofNat t0)), .unset, .unset, .unset, .unset, .unset, .unset, .unset, .unset, .unset, .unset, .unset, .unset, .unset] [(.int (2 : Int32))])) rfl (hb hby at_58) rfl (by decide) (cap := 2) (by decide) (by decide) (by decide) (by decide)
  obtain ⟨b7, g7⟩ : ∃ z, z = h0.size := ⟨_, rfl⟩
  rw [← g7] at A7 st7
  have V_b7 : Arv Z h7 b7 k7 .int (2 : Int32) [(.int (0 : Int32)), (.int (0 : Int32))] (.int (0 : Int32)) := (Arv.new A7 (by decide)).pad (pad_rep [] (.int (0 : Int32)) 2)
  have g_b7 : n0 ≤ b7 := Nat.le_trans Z0 (Nat.le_of_eq g7.symm)
  have sz_b7 : h0.size ≤ b7 := (Nat.le_trans (Keep.refl h0 []).1 (Nat.le_of_eq g7.symm))
  have K7 : Keep h0 h7 [] := (Keep.refl h0 []).ext E7
  have pre8 : Goes p e below s₁ (entryFrame m #[(.int qa), (.int qb), (.int qx), (.int qy)] maxLocals) T7 (mkF m 60 #[.val (.int qa), .val (.int qb), .val (.int qx), .val (.int qy), .val (.int (Int32.ofNat r)), .val (.int (Int32.ofNat p0)), .val (.int (Int32.ofNat q0)), .val (.int (Int32.ofNat s0)), .val (.int (Int32.ofNat t0)), .unset, .unset, .unset, .unset, .unset, .unset, .unset, .unset, .unset, .unset, .unset, .unset, .unset] [(.ref b7)]) := fun t kt => pre6 t (st7 t kt)
  have pre9 : Goes p e below s₁ (entryFrame m #[(.int qa), (.int qb), (.int qx), (.int qy)] maxLocals) T7 (mkF m 64 #[.val (.int qa), .val (.int qb), .val (.int qx), .val (.int qy), .val (.int (Int32.ofNat r)), .val (.int (Int32.ofNat p0)), .val (.int (Int32.ofNat q0)), .val (.int (Int32.ofNat s0)), .val (.int (Int32.ofNat t0)), .unset, .unset, .unset, .unset, .unset, .unset, .unset, .unset, .unset, .unset, .unset, .unset, .unset] [(.int (Int32.ofNat p0)), (.int (0 : Int32)), (.ref b7), (.ref b7)]) := fun t kt => pre8 t (by
      show Steps p.tables e below (T7.setTop (mkF m 60 #[.val (.int qa), .val (.int qb), .val (.int qx), .val (.int qy), .val (.int (Int32.ofNat r)), .val (.int (Int32.ofNat p0)), .val (.int (Int32.ofNat q0)), .val (.int (Int32.ofNat s0)), .val (.int (Int32.ofNat t0)), .unset, .unset, .unset, .unset, .unset, .unset, .unset, .unset, .unset, .unset, .unset, .unset, .unset] [(.ref b7)])) _
      refine XS.dup X7.here hx rfl (hb hby at_60) rfl rfl ?_
      show Steps p.tables e below (T7.setTop (mkF m 61 #[.val (.int qa), .val (.int qb), .val (.int qx), .val (.int qy), .val (.int (Int32.ofNat r)), .val (.int (Int32.ofNat p0)), .val (.int (Int32.ofNat q0)), .val (.int (Int32.ofNat s0)), .val (.int (Int32.ofNat t0)), .unset, .unset, .unset, .unset, .unset, .unset, .unset, .unset, .unset, .unset, .unset, .unset, .unset] [(.ref b7), (.ref b7)])) _
      refine XS.iconst X7.here hx rfl (hb hby at_61) ?_
      show Steps p.tables e below (T7.setTop (mkF m 62 #[.val (.int qa), .val (.int qb), .val (.int qx), .val (.int qy), .val (.int (Int32.ofNat r)), .val (.int (Int32.ofNat p0)), .val (.int (Int32.ofNat q0)), .val (.int (Int32.ofNat s0)), .val (.int (Int32.ofNat t0)), .unset, .unset, .unset, .unset, .unset, .unset, .unset, .unset, .unset, .unset, .unset, .unset, .unset] [(.int (0 : Int32)), (.ref b7), (.ref b7)])) _
      refine XS.iload X7.here hx rfl (hb hby at_62) rfl ?_
      exact kt)
  obtain ⟨cl10, Ar10, q10, S10, N_10, H10, G10⟩ := (id (V_b7))
  have hin10 : ¬ ((0 : Int32) < 0 ∨ cl10.slots.size ≤ ((0 : Int32)).toNatClampNeg) := inb_of S10 ⟨by decide, by decide⟩
  obtain ⟨T11, h11, X11, e11, W11, st11⟩ := stI X7 hx hZ e7 Ar10 (j := (0 : Int32)) hin10 (g := (mkF m 64 #[.val (.int qa), .val (.int qb), .val (.int qx), .val (.int qy), .val (.int (Int32.ofNat r)), .val (.int (Int32.ofNat p0)), .val (.int (Int32.ofNat q0)), .val (.int (Int32.ofNat s0)), .val (.int (Int32.ofNat t0)), .unset, .unset, .unset, .unset, .unset, .unset, .unset, .unset, .unset, .unset, .unset, .unset, .unset] [(.int (Int32.ofNat p0)), (.int (0 : Int32)), (.ref b7), (.ref b7)])) rfl rfl (hb hby at_64)
  have V11 : Arv Z h11 b7 k7 .int (2 : Int32) [(.int (Int32.ofNat p0)), (.int (0 : Int32))] (.int (0 : Int32)) := Arv.set Ar10 q10 S10 N_10 H10 G10 rfl W11 0 rfl (Nat.le_of_ble_eq_true rfl)
  have K11 : Keep h0 h11 [] := K7.wr W11 (Or.inr sz_b7)
  have N11 := Fr.snoc X11 N0 g_b7
  have pre12 : Goes p e below s₁ (entryFrame m #[(.int qa), (.int qb), (.int qx), (.int qy)] maxLocals) T11 (mkF m 65 #[.val (.int qa), .val (.int qb), .val (.int qx), .val (.int qy), .val (.int (Int32.ofNat r)), .val (.int (Int32.ofNat p0)), .val (.int (Int32.ofNat q0)), .val (.int (Int32.ofNat s0)), .val (.int (Int32.ofNat t0)), .unset, .unset, .unset, .unset, .unset, .unset, .unset, .unset, .unset, .unset, .unset, .unset, .unset] [(.ref b7)]) := fun t kt => pre9 t (st11 t kt)
  have pre13 : Goes p e below s₁ (entryFrame m #[(.int qa), (.int qb), (.int qx), (.int qy)] maxLocals) T11 (mkF m 69 #[.val (.int qa), .val (.int qb), .val (.int qx), .val (.int qy), .val (.int (Int32.ofNat r)), .val (.int (Int32.ofNat p0)), .val (.int (Int32.ofNat q0)), .val (.int (Int32.ofNat s0)), .val (.int (Int32.ofNat t0)), .unset, .unset, .unset, .unset, .unset, .unset, .unset, .unset, .unset, .unset, .unset, .unset, .unset] [(.int (Int32.ofNat q0)), (.int (1 : Int32)), (.ref b7), (.ref b7)]) := fun t kt => pre12 t (by
      show Steps p.tables e below (T11.setTop (mkF m 65 #[.val (.int qa), .val (.int qb), .val (.int qx), .val (.int qy), .val (.int (Int32.ofNat r)), .val (.int (Int32.ofNat p0)), .val (.int (Int32.ofNat q0)), .val (.int (Int32.ofNat s0)), .val (.int (Int32.ofNat t0)), .unset, .unset, .unset, .unset, .unset, .unset, .unset, .unset, .unset, .unset, .unset, .unset, .unset] [(.ref b7)])) _
      refine XS.dup X11.here hx rfl (hb hby at_65) rfl rfl ?_
      show Steps p.tables e below (T11.setTop (mkF m 66 #[.val (.int qa), .val (.int qb), .val (.int qx), .val (.int qy), .val (.int (Int32.ofNat r)), .val (.int (Int32.ofNat p0)), .val (.int (Int32.ofNat q0)), .val (.int (Int32.ofNat s0)), .val (.int (Int32.ofNat t0)), .unset, .unset, .unset, .unset, .unset, .unset, .unset, .unset, .unset, .unset, .unset, .unset, .unset] [(.ref b7), (.ref b7)])) _
      refine XS.iconst X11.here hx rfl (hb hby at_66) ?_
      show Steps p.tables e below (T11.setTop (mkF m 67 #[.val (.int qa), .val (.int qb), .val (.int qx), .val (.int qy), .val (.int (Int32.ofNat r)), .val (.int (Int32.ofNat p0)), .val (.int (Int32.ofNat q0)), .val (.int (Int32.ofNat s0)), .val (.int (Int32.ofNat t0)), .unset, .unset, .unset, .unset, .unset, .unset, .unset, .unset, .unset, .unset, .unset, .unset, .unset] [(.int (1 : Int32)), (.ref b7), (.ref b7)])) _
      refine XS.iload X11.here hx rfl (hb hby at_67) rfl ?_
      exact kt)
  obtain ⟨cl14, Ar14, q14, S14, N_14, H14, G14⟩ := (id (V11))
  have hin14 : ¬ ((1 : Int32) < 0 ∨ cl14.slots.size ≤ ((1 : Int32)).toNatClampNeg) := inb_of S14 ⟨by decide, by decide⟩
  obtain ⟨T15, h15, X15, e15, W15, st15⟩ := stI X11 hx hZ e11 Ar14 (j := (1 : Int32)) hin14 (g := (mkF m 69 #[.val (.int qa), .val (.int qb), .val (.int qx), .val (.int qy), .val (.int (Int32.ofNat r)), .val (.int (Int32.ofNat p0)), .val (.int (Int32.ofNat q0)), .val (.int (Int32.ofNat s0)), .val (.int (Int32.ofNat t0)), .unset, .unset, .unset, .unset, .unset, .unset, .unset, .unset, .unset, .unset, .unset, .unset, .unset] [(.int (Int32.ofNat q0)), (.int (1 : Int32)), (.ref b7), (.ref b7)])) rfl rfl (hb hby at_69)
  have V15 : Arv Z h15 b7 k7 .int (2 : Int32) [(.int (Int32.ofNat p0)), (.int (Int32.ofNat q0))] (.int (0 : Int32)) := Arv.set Ar14 q14 S14 N_14 H14 G14 rfl W15 1 rfl (Nat.le_of_ble_eq_true rfl)
  have K15 : Keep h0 h15 [] := K11.wr W15 (Or.inr sz_b7)
  have N15 := Fr.snoc X15 N11 g_b7
  have pre16 : Goes p e below s₁ (entryFrame m #[(.int qa), (.int qb), (.int qx), (.int qy)] maxLocals) T15 (mkF m 70 #[.val (.int qa), .val (.int qb), .val (.int qx), .val (.int qy), .val (.int (Int32.ofNat r)), .val (.int (Int32.ofNat p0)), .val (.int (Int32.ofNat q0)), .val (.int (Int32.ofNat s0)), .val (.int (Int32.ofNat t0)), .unset, .unset, .unset, .unset, .unset, .unset, .unset, .unset, .unset, .unset, .unset, .unset, .unset] [(.ref b7)]) := fun t kt => pre13 t (st15 t kt)
  have pre17 : Goes p e below s₁ (entryFrame m #[(.int qa), (.int qb), (.int qx), (.int qy)] maxLocals) T15 (mkF m 73 #[.val (.int qa), .val (.int qb), .val (.int qx), .val (.int qy), .val (.int (Int32.ofNat r)), .val (.int (Int32.ofNat p0)), .val (.int (Int32.ofNat q0)), .val (.int (Int32.ofNat s0)), .val (.int (Int32.ofNat t0)), .val (.ref b7), .unset, .unset, .unset, .unset, .unset, .unset, .unset, .unset, .unset, .unset, .unset, .unset] [(.int (1 : Int32))]) := fun t kt => pre16 t (by
      show Steps p.tables e below (T15.setTop (mkF m 70 #[.val (.int qa), .val (.int qb), .val (.int qx), .val (.int qy), .val (.int (Int32.ofNat r)), .val (.int (Int32.ofNat p0)), .val (.int (Int32.ofNat q0)), .val (.int (Int32.ofNat s0)), .val (.int (Int32.ofNat t0)), .unset, .unset, .unset, .unset, .unset, .unset, .unset, .unset, .unset, .unset, .unset, .unset, .unset] [(.ref b7)])) _
      refine XS.astore X15.here hx rfl (hb hby at_70) rfl rfl (l' := #[.val (.int qa), .val (.int qb), .val (.int qx), .val (.int qy), .val (.int (Int32.ofNat r)), .val (.int (Int32.ofNat p0)), .val (.int (Int32.ofNat q0)), .val (.int (Int32.ofNat s0)), .val (.int (Int32.ofNat t0)), .val (.ref b7), .unset, .unset, .unset, .unset, .unset, .unset, .unset, .unset, .unset, .unset, .unset, .unset]) rfl ?_
      show Steps p.tables e below (T15.setTop (mkF m 72 #[.val (.int qa), .val (.int qb), .val (.int qx), .val (.int qy), .val (.int (Int32.ofNat r)), .val (.int (Int32.ofNat p0)), .val (.int (Int32.ofNat q0)), .val (.int (Int32.ofNat s0)), .val (.int (Int32.ofNat t0)), .val (.ref b7), .unset, .unset, .unset, .unset, .unset, .unset, .unset, .unset, .unset, .unset, .unset, .unset] [])) _
      refine XS.iconst X15.here hx rfl (hb hby at_72) ?_
      exact kt)
  obtain ⟨T18, h18, k18, X18, e18, E18, A18, st18⟩ := newP X15 hx hZ (hw _ (List.mem_of_getElem? (i := 0) rfl)) e15 (g := (mkF m 73 #[.val (.int qa), .val (.int qb), .val (.int qx), .val (.int qy), .val (.int (Int32.ofNat r)), .val (.int (Int32.ofNat p0)), .val (.int (Int32.ofNat q0)), .val (.int (Int32.ofNat s0)), .val (.int (Int32.ofNat t0)), .val (.ref b7), .unset, .unset, .unset, .unset, .unset, .unset, .unset, .unset, .unset, .unset, .unset, .unset] [(.int (1 : Int32))])) rfl (hb hby at_73) rfl (by decide) (cap := 1) (by decide) (by decide) (by decide) (by decide)
  obtain ⟨b18, g18⟩ : ∃ z, z = h15.size := ⟨_, rfl⟩
  rw [← g18] at A18 st18
  have V_b18 : Arv Z h18 b18 k18 .int (1 : Int32) [(.int (0 : Int32))] (.int (0 : Int32)) := (Arv.new A18 (by decide)).pad (pad_rep [] (.int (0 : Int32)) 1)
  have g_b18 : n0 ≤ b18 := Nat.le_trans (Nat.le_trans (Nat.le_trans (Nat.le_trans Z0 E7.1) (Keep.of_wr W11).1) (Keep.of_wr W15).1) (Nat.le_of_eq g18.symm)
  have sz_b18 : h0.size ≤ b18 := (Nat.le_trans K15.1 (Nat.le_of_eq g18.symm))
  have K18 : Keep h0 h18 [] := K15.ext E18
  have pre19 : Goes p e below s₁ (entryFrame m #[(.int qa), (.int qb), (.int qx), (.int qy)] maxLocals) T18 (mkF m 75 #[.val (.int qa), .val (.int qb), .val (.int qx), .val (.int qy), .val (.int (Int32.ofNat r)), .val (.int (Int32.ofNat p0)), .val (.int (Int32.ofNat q0)), .val (.int (Int32.ofNat s0)), .val (.int (Int32.ofNat t0)), .val (.ref b7), .unset, .unset, .unset, .unset, .unset, .unset, .unset, .unset, .unset, .unset, .unset, .unset] [(.ref b18)]) := fun t kt => pre17 t (st18 t kt)
  have pre20 : Goes p e below s₁ (entryFrame m #[(.int qa), (.int qb), (.int qx), (.int qy)] maxLocals) T18 (mkF m 79 #[.val (.int qa), .val (.int qb), .val (.int qx), .val (.int qy), .val (.int (Int32.ofNat r)), .val (.int (Int32.ofNat p0)), .val (.int (Int32.ofNat q0)), .val (.int (Int32.ofNat s0)), .val (.int (Int32.ofNat t0)), .val (.ref b7), .unset, .unset, .unset, .unset, .unset, .unset, .unset, .unset, .unset, .unset, .unset, .unset] [(.int (Int32.ofNat s0)), (.int (0 : Int32)), (.ref b18), (.ref b18)]) := fun t kt => pre19 t (by
      show Steps p.tables e below (T18.setTop (mkF m 75 #[.val (.int qa), .val (.int qb), .val (.int qx), .val (.int qy), .val (.int (Int32.ofNat r)), .val (.int (Int32.ofNat p0)), .val (.int (Int32.ofNat q0)), .val (.int (Int32.ofNat s0)), .val (.int (Int32.ofNat t0)), .val (.ref b7), .unset, .unset, .unset, .unset, .unset, .unset, .unset, .unset, .unset, .unset, .unset, .unset] [(.ref b18)])) _
      refine XS.dup X18.here hx rfl (hb hby at_75) rfl rfl ?_
      show Steps p.tables e below (T18.setTop (mkF m 76 #[.val (.int qa), .val (.int qb), .val (.int qx), .val (.int qy), .val (.int (Int32.ofNat r)), .val (.int (Int32.ofNat p0)), .val (.int (Int32.ofNat q0)), .val (.int (Int32.ofNat s0)), .val (.int (Int32.ofNat t0)), .val (.ref b7), .unset, .unset, .unset, .unset, .unset, .unset, .unset, .unset, .unset, .unset, .unset, .unset] [(.ref b18), (.ref b18)])) _
      refine XS.iconst X18.here hx rfl (hb hby at_76) ?_
      show Steps p.tables e below (T18.setTop (mkF m 77 #[.val (.int qa), .val (.int qb), .val (.int qx), .val (.int qy), .val (.int (Int32.ofNat r)), .val (.int (Int32.ofNat p0)), .val (.int (Int32.ofNat q0)), .val (.int (Int32.ofNat s0)), .val (.int (Int32.ofNat t0)), .val (.ref b7), .unset, .unset, .unset, .unset, .unset, .unset, .unset, .unset, .unset, .unset, .unset, .unset] [(.int (0 : Int32)), (.ref b18), (.ref b18)])) _
      refine XS.iload X18.here hx rfl (hb hby at_77) rfl ?_
      exact kt)
  obtain ⟨cl21, Ar21, q21, S21, N_21, H21, G21⟩ := (id (V_b18))
  have hin21 : ¬ ((0 : Int32) < 0 ∨ cl21.slots.size ≤ ((0 : Int32)).toNatClampNeg) := inb_of S21 ⟨by decide, by decide⟩
  obtain ⟨T22, h22, X22, e22, W22, st22⟩ := stI X18 hx hZ e18 Ar21 (j := (0 : Int32)) hin21 (g := (mkF m 79 #[.val (.int qa), .val (.int qb), .val (.int qx), .val (.int qy), .val (.int (Int32.ofNat r)), .val (.int (Int32.ofNat p0)), .val (.int (Int32.ofNat q0)), .val (.int (Int32.ofNat s0)), .val (.int (Int32.ofNat t0)), .val (.ref b7), .unset, .unset, .unset, .unset, .unset, .unset, .unset, .unset, .unset, .unset, .unset, .unset] [(.int (Int32.ofNat s0)), (.int (0 : Int32)), (.ref b18), (.ref b18)])) rfl rfl (hb hby at_79)
  have V22 : Arv Z h22 b18 k18 .int (1 : Int32) [(.int (Int32.ofNat s0))] (.int (0 : Int32)) := Arv.set Ar21 q21 S21 N_21 H21 G21 rfl W22 0 rfl (Nat.le_of_ble_eq_true rfl)
  have K22 : Keep h0 h22 [] := K18.wr W22 (Or.inr sz_b18)
  have N22 := Fr.snoc X22 N15 g_b18
  have pre23 : Goes p e below s₁ (entryFrame m #[(.int qa), (.int qb), (.int qx), (.int qy)] maxLocals) T22 (mkF m 80 #[.val (.int qa), .val (.int qb), .val (.int qx), .val (.int qy), .val (.int (Int32.ofNat r)), .val (.int (Int32.ofNat p0)), .val (.int (Int32.ofNat q0)), .val (.int (Int32.ofNat s0)), .val (.int (Int32.ofNat t0)), .val (.ref b7), .unset, .unset, .unset, .unset, .unset, .unset, .unset, .unset, .unset, .unset, .unset, .unset] [(.ref b18)]) := fun t kt => pre20 t (st22 t kt)
  have pre24 : Goes p e below s₁ (entryFrame m #[(.int qa), (.int qb), (.int qx), (.int qy)] maxLocals) T22 (mkF m 83 #[.val (.int qa), .val (.int qb), .val (.int qx), .val (.int qy), .val (.int (Int32.ofNat r)), .val (.int (Int32.ofNat p0)), .val (.int (Int32.ofNat q0)), .val (.int (Int32.ofNat s0)), .val (.int (Int32.ofNat t0)), .val (.ref b7), .val (.ref b18), .unset, .unset, .unset, .unset, .unset, .unset, .unset, .unset, .unset, .unset, .unset] [(.int (1 : Int32))]) := fun t kt => pre23 t (by
      show Steps p.tables e below (T22.setTop (mkF m 80 #[.val (.int qa), .val (.int qb), .val (.int qx), .val (.int qy), .val (.int (Int32.ofNat r)), .val (.int (Int32.ofNat p0)), .val (.int (Int32.ofNat q0)), .val (.int (Int32.ofNat s0)), .val (.int (Int32.ofNat t0)), .val (.ref b7), .unset, .unset, .unset, .unset, .unset, .unset, .unset, .unset, .unset, .unset, .unset, .unset] [(.ref b18)])) _
      refine XS.astore X22.here hx rfl (hb hby at_80) rfl rfl (l' := #[.val (.int qa), .val (.int qb), .val (.int qx), .val (.int qy), .val (.int (Int32.ofNat r)), .val (.int (Int32.ofNat p0)), .val (.int (Int32.ofNat q0)), .val (.int (Int32.ofNat s0)), .val (.int (Int32.ofNat t0)), .val (.ref b7), .val (.ref b18), .unset, .unset, .unset, .unset, .unset, .unset, .unset, .unset, .unset, .unset, .unset]) rfl ?_
      show Steps p.tables e below (T22.setTop (mkF m 82 #[.val (.int qa), .val (.int qb), .val (.int qx), .val (.int qy), .val (.int (Int32.ofNat r)), .val (.int (Int32.ofNat p0)), .val (.int (Int32.ofNat q0)), .val (.int (Int32.ofNat s0)), .val (.int (Int32.ofNat t0)), .val (.ref b7), .val (.ref b18), .unset, .unset, .unset, .unset, .unset, .unset, .unset, .unset, .unset, .unset, .unset] [])) _
      refine XS.iconst X22.here hx rfl (hb hby at_82) ?_
      exact kt)
  obtain ⟨T25, h25, k25, X25, e25, E25, A25, st25⟩ := newP X22 hx hZ (hw _ (List.mem_of_getElem? (i := 0) rfl)) e22 (g := (mkF m 83 #[.val (.int qa), .val (.int qb), .val (.int qx), .val (.int qy), .val (.int (Int32.ofNat r)), .val (.int (Int32.ofNat p0)), .val (.int (Int32.ofNat q0)), .val (.int (Int32.ofNat s0)), .val (.int (Int32.ofNat t0)), .val (.ref b7), .val (.ref b18), .unset, .unset, .unset, .unset, .unset, .unset, .unset, .unset, .unset, .unset, .unset] [(.int (1 : Int32))])) rfl (hb hby at_83) rfl (by decide) (cap := 1) (by decide) (by decide) (by decide) (by decide)
  obtain ⟨b25, g25⟩ : ∃ z, z = h22.size := ⟨_, rfl⟩
  rw [← g25] at A25 st25
  have V_b25 : Arv Z h25 b25 k25 .int (1 : Int32) [(.int (0 : Int32))] (.int (0 : Int32)) := (Arv.new A25 (by decide)).pad (pad_rep [] (.int (0 : Int32)) 1)
  have g_b25 : n0 ≤ b25 := Nat.le_trans (Nat.le_trans (Nat.le_trans (Nat.le_trans (Nat.le_trans (Nat.le_trans Z0 E7.1) (Keep.of_wr W11).1) (Keep.of_wr W15).1) E18.1) (Keep.of_wr W22).1) (Nat.le_of_eq g25.symm)
  have sz_b25 : h0.size ≤ b25 := (Nat.le_trans K22.1 (Nat.le_of_eq g25.symm))
  have K25 : Keep h0 h25 [] := K22.ext E25
  have pre26 : Goes p e below s₁ (entryFrame m #[(.int qa), (.int qb), (.int qx), (.int qy)] maxLocals) T25 (mkF m 85 #[.val (.int qa), .val (.int qb), .val (.int qx), .val (.int qy), .val (.int (Int32.ofNat r)), .val (.int (Int32.ofNat p0)), .val (.int (Int32.ofNat q0)), .val (.int (Int32.ofNat s0)), .val (.int (Int32.ofNat t0)), .val (.ref b7), .val (.ref b18), .unset, .unset, .unset, .unset, .unset, .unset, .unset, .unset, .unset, .unset, .unset] [(.ref b25)]) := fun t kt => pre24 t (st25 t kt)
  have pre27 : Goes p e below s₁ (entryFrame m #[(.int qa), (.int qb), (.int qx), (.int qy)] maxLocals) T25 (mkF m 89 #[.val (.int qa), .val (.int qb), .val (.int qx), .val (.int qy), .val (.int (Int32.ofNat r)), .val (.int (Int32.ofNat p0)), .val (.int (Int32.ofNat q0)), .val (.int (Int32.ofNat s0)), .val (.int (Int32.ofNat t0)), .val (.ref b7), .val (.ref b18), .unset, .unset, .unset, .unset, .unset, .unset, .unset, .unset, .unset, .unset, .unset] [(.int (Int32.ofNat t0)), (.int (0 : Int32)), (.ref b25), (.ref b25)]) := fun t kt => pre26 t (by
      show Steps p.tables e below (T25.setTop (mkF m 85 #[.val (.int qa), .val (.int qb), .val (.int qx), .val (.int qy), .val (.int (Int32.ofNat r)), .val (.int (Int32.ofNat p0)), .val (.int (Int32.ofNat q0)), .val (.int (Int32.ofNat s0)), .val (.int (Int32.ofNat t0)), .val (.ref b7), .val (.ref b18), .unset, .unset, .unset, .unset, .unset, .unset, .unset, .unset, .unset, .unset, .unset] [(.ref b25)])) _
      refine XS.dup X25.here hx rfl (hb hby at_85) rfl rfl ?_
      show Steps p.tables e below (T25.setTop (mkF m 86 #[.val (.int qa), .val (.int qb), .val (.int qx), .val (.int qy), .val (.int (Int32.ofNat r)), .val (.int (Int32.ofNat p0)), .val (.int (Int32.ofNat q0)), .val (.int (Int32.ofNat s0)), .val (.int (Int32.ofNat t0)), .val (.ref b7), .val (.ref b18), .unset, .unset, .unset, .unset, .unset, .unset, .unset, .unset, .unset, .unset, .unset] [(.ref b25), (.ref b25)])) _
      refine XS.iconst X25.here hx rfl (hb hby at_86) ?_
      show Steps p.tables e below (T25.setTop (mkF m 87 #[.val (.int qa), .val (.int qb), .val (.int qx), .val (.int qy), .val (.int (Int32.ofNat r)), .val (.int (Int32.ofNat p0)), .val (.int (Int32.ofNat q0)), .val (.int (Int32.ofNat s0)), .val (.int (Int32.ofNat t0)), .val (.ref b7), .val (.ref b18), .unset, .unset, .unset, .unset, .unset, .unset, .unset, .unset, .unset, .unset, .unset] [(.int (0 : Int32)), (.ref b25), (.ref b25)])) _
      refine XS.iload X25.here hx rfl (hb hby at_87) rfl ?_
      exact kt)
  obtain ⟨cl28, Ar28, q28, S28, N_28, H28, G28⟩ := (id (V_b25))
  have hin28 : ¬ ((0 : Int32) < 0 ∨ cl28.slots.size ≤ ((0 : Int32)).toNatClampNeg) := inb_of S28 ⟨by decide, by decide⟩
  obtain ⟨T29, h29, X29, e29, W29, st29⟩ := stI X25 hx hZ e25 Ar28 (j := (0 : Int32)) hin28 (g := (mkF m 89 #[.val (.int qa), .val (.int qb), .val (.int qx), .val (.int qy), .val (.int (Int32.ofNat r)), .val (.int (Int32.ofNat p0)), .val (.int (Int32.ofNat q0)), .val (.int (Int32.ofNat s0)), .val (.int (Int32.ofNat t0)), .val (.ref b7), .val (.ref b18), .unset, .unset, .unset, .unset, .unset, .unset, .unset, .unset, .unset, .unset, .unset] [(.int (Int32.ofNat t0)), (.int (0 : Int32)), (.ref b25), (.ref b25)])) rfl rfl (hb hby at_89)
  have V29 : Arv Z h29 b25 k25 .int (1 : Int32) [(.int (Int32.ofNat t0))] (.int (0 : Int32)) := Arv.set Ar28 q28 S28 N_28 H28 G28 rfl W29 0 rfl (Nat.le_of_ble_eq_true rfl)
  have K29 : Keep h0 h29 [] := K25.wr W29 (Or.inr sz_b25)
  have N29 := Fr.snoc X29 N22 g_b25
  have pre30 : Goes p e below s₁ (entryFrame m #[(.int qa), (.int qb), (.int qx), (.int qy)] maxLocals) T29 (mkF m 90 #[.val (.int qa), .val (.int qb), .val (.int qx), .val (.int qy), .val (.int (Int32.ofNat r)), .val (.int (Int32.ofNat p0)), .val (.int (Int32.ofNat q0)), .val (.int (Int32.ofNat s0)), .val (.int (Int32.ofNat t0)), .val (.ref b7), .val (.ref b18), .unset, .unset, .unset, .unset, .unset, .unset, .unset, .unset, .unset, .unset, .unset] [(.ref b25)]) := fun t kt => pre27 t (st29 t kt)
  have pre31 : Goes p e below s₁ (entryFrame m #[(.int qa), (.int qb), (.int qx), (.int qy)] maxLocals) T29 (mkF m 92 #[.val (.int qa), .val (.int qb), .val (.int qx), .val (.int qy), .val (.int (Int32.ofNat r)), .val (.int (Int32.ofNat p0)), .val (.int (Int32.ofNat q0)), .val (.int (Int32.ofNat s0)), .val (.int (Int32.ofNat t0)), .val (.ref b7), .val (.ref b18), .val (.ref b25), .unset, .unset, .unset, .unset, .unset, .unset, .unset, .unset, .unset, .unset] []) := fun t kt => pre30 t (by
      show Steps p.tables e below (T29.setTop (mkF m 90 #[.val (.int qa), .val (.int qb), .val (.int qx), .val (.int qy), .val (.int (Int32.ofNat r)), .val (.int (Int32.ofNat p0)), .val (.int (Int32.ofNat q0)), .val (.int (Int32.ofNat s0)), .val (.int (Int32.ofNat t0)), .val (.ref b7), .val (.ref b18), .unset, .unset, .unset, .unset, .unset, .unset, .unset, .unset, .unset, .unset, .unset] [(.ref b25)])) _
      refine XS.astore X29.here hx rfl (hb hby at_90) rfl rfl (l' := #[.val (.int qa), .val (.int qb), .val (.int qx), .val (.int qy), .val (.int (Int32.ofNat r)), .val (.int (Int32.ofNat p0)), .val (.int (Int32.ofNat q0)), .val (.int (Int32.ofNat s0)), .val (.int (Int32.ofNat t0)), .val (.ref b7), .val (.ref b18), .val (.ref b25), .unset, .unset, .unset, .unset, .unset, .unset, .unset, .unset, .unset, .unset]) rfl ?_
      exact kt)
  obtain ⟨T32, h32, X32, e32, E32, A32, DD32, -, st32⟩ := newO X29 hx hZ hown (hw _ (List.mem_of_getElem? (i := 1) rfl)) (hw _ (List.mem_of_getElem? (i := 2) rfl)) (hw _ (List.mem_of_getElem? (i := 3) rfl)) e29 (g := (mkF m 92 #[.val (.int qa), .val (.int qb), .val (.int qx), .val (.int qy), .val (.int (Int32.ofNat r)), .val (.int (Int32.ofNat p0)), .val (.int (Int32.ofNat q0)), .val (.int (Int32.ofNat s0)), .val (.int (Int32.ofNat t0)), .val (.ref b7), .val (.ref b18), .val (.ref b25), .unset, .unset, .unset, .unset, .unset, .unset, .unset, .unset, .unset, .unset] [])) rfl (hb hby at_92) (by decide) (by decide)
  obtain ⟨b32, g32⟩ : ∃ z, z = h29.size := ⟨_, rfl⟩
  rw [← g32] at A32 DD32 st32
  have F_roles_b32 : Fld Z h32 b32 "com/example/unicept/unicept/WordTrie" "roles" "I" (.int (0 : Int32)) := DD32 (Or.inr (hw _ (List.mem_of_getElem? (i := 11) rfl))) (ty := .int) (by decide)
  have F_children_b32 : Fld Z h32 b32 "com/example/unicept/unicept/WordTrie" "children" "[I" .null := DD32 (Or.inl (hw _ (List.mem_of_getElem? (i := 17) rfl))) (ty := (.array .int)) (by decide)
  have F_roots_b32 : Fld Z h32 b32 "com/example/unicept/unicept/WordTrie" "roots" "[I" .null := DD32 (Or.inl (hw _ (List.mem_of_getElem? (i := 19) rfl))) (ty := (.array .int)) (by decide)
  have F_tags_b32 : Fld Z h32 b32 "com/example/unicept/unicept/WordTrie" "tags" "[[I" .null := DD32 (Or.inl (hw _ (List.mem_of_getElem? (i := 23) rfl))) (ty := (.array (.array .int))) (by decide)
  have F_size_b32 : Fld Z h32 b32 "com/example/unicept/unicept/WordTrie" "size" "I" (.int (0 : Int32)) := DD32 (Or.inl (hw _ (List.mem_of_getElem? (i := 34) rfl))) (ty := .int) (by decide)
  have g_b32 : n0 ≤ b32 := Nat.le_trans (Nat.le_trans (Nat.le_trans (Nat.le_trans (Nat.le_trans (Nat.le_trans (Nat.le_trans (Nat.le_trans Z0 E7.1) (Keep.of_wr W11).1) (Keep.of_wr W15).1) E18.1) (Keep.of_wr W22).1) E25.1) (Keep.of_wr W29).1) (Nat.le_of_eq g32.symm)
  have sz_b32 : h0.size ≤ b32 := (Nat.le_trans K29.1 (Nat.le_of_eq g32.symm))
  have K32 : Keep h0 h32 [] := K29.ext E32
  have pre33 : Goes p e below s₁ (entryFrame m #[(.int qa), (.int qb), (.int qx), (.int qy)] maxLocals) T32 (mkF m 95 #[.val (.int qa), .val (.int qb), .val (.int qx), .val (.int qy), .val (.int (Int32.ofNat r)), .val (.int (Int32.ofNat p0)), .val (.int (Int32.ofNat q0)), .val (.int (Int32.ofNat s0)), .val (.int (Int32.ofNat t0)), .val (.ref b7), .val (.ref b18), .val (.ref b25), .unset, .unset, .unset, .unset, .unset, .unset, .unset, .unset, .unset, .unset] [(.ref b32)]) := fun t kt => pre31 t (st32 t kt)
  have pre34 : Goes p e below s₁ (entryFrame m #[(.int qa), (.int qb), (.int qx), (.int qy)] maxLocals) T32 (mkF m 98 #[.val (.int qa), .val (.int qb), .val (.int qx), .val (.int qy), .val (.int (Int32.ofNat r)), .val (.int (Int32.ofNat p0)), .val (.int (Int32.ofNat q0)), .val (.int (Int32.ofNat s0)), .val (.int (Int32.ofNat t0)), .val (.ref b7), .val (.ref b18), .val (.ref b25), .unset, .unset, .unset, .unset, .unset, .unset, .unset, .unset, .unset, .unset] [(.int (Int32.ofNat r)), (.ref b32), (.ref b32)]) := fun t kt => pre33 t (by
      show Steps p.tables e below (T32.setTop (mkF m 95 #[.val (.int qa), .val (.int qb), .val (.int qx), .val (.int qy), .val (.int (Int32.ofNat r)), .val (.int (Int32.ofNat p0)), .val (.int (Int32.ofNat q0)), .val (.int (Int32.ofNat s0)), .val (.int (Int32.ofNat t0)), .val (.ref b7), .val (.ref b18), .val (.ref b25), .unset, .unset, .unset, .unset, .unset, .unset, .unset, .unset, .unset, .unset] [(.ref b32)])) _
      refine XS.dup X32.here hx rfl (hb hby at_95) rfl rfl ?_
      show Steps p.tables e below (T32.setTop (mkF m 96 #[.val (.int qa), .val (.int qb), .val (.int qx), .val (.int qy), .val (.int (Int32.ofNat r)), .val (.int (Int32.ofNat p0)), .val (.int (Int32.ofNat q0)), .val (.int (Int32.ofNat s0)), .val (.int (Int32.ofNat t0)), .val (.ref b7), .val (.ref b18), .val (.ref b25), .unset, .unset, .unset, .unset, .unset, .unset, .unset, .unset, .unset, .unset] [(.ref b32), (.ref b32)])) _
      refine XS.iload X32.here hx rfl (hb hby at_96) rfl ?_
      exact kt)
  obtain ⟨_, _, ⟨T35, L35, k35, n35⟩, -, X35, ⟨Lc35, hQ35, l35, y35, z35⟩, st35⟩ := X32.specialBack hx (y := (⟨"com/example/unicept/unicept/WordTrie", "<init>", "(I)V"⟩ : MethodName)) rfl hown (mvT hZ (hw _ (List.mem_of_getElem? (i := 4) rfl))) (mvT hZ (hw _ (List.mem_of_getElem? (i := 5) rfl))) (mvT hZ (hw _ (List.mem_of_getElem? (i := 6) rfl))) (by decide) (backOf (W := 1) (own_init l Z a0 hw [] b32 r h32 n0 (Nat.le_trans (Nat.le_trans (Nat.le_trans (Nat.le_trans (Nat.le_trans (Nat.le_trans (Nat.le_trans (Nat.le_trans Z0 E7.1) (Keep.of_wr W11).1) (Keep.of_wr W15).1) E18.1) (Keep.of_wr W22).1) E25.1) (Keep.of_wr W29).1) E32.1) A32 F_roles_b32 F_children_b32 F_roots_b32 F_tags_b32 F_size_b32 g_b32 hr1 hr8) hZ (hw _ (List.mem_of_getElem? (i := 6) rfl)) (hw _ (List.mem_of_getElem? (i := 3) rfl)) (by decide) (by decide)) (g := (mkF m 98 #[.val (.int qa), .val (.int qb), .val (.int qx), .val (.int qy), .val (.int (Int32.ofNat r)), .val (.int (Int32.ofNat p0)), .val (.int (Int32.ofNat q0)), .val (.int (Int32.ofNat s0)), .val (.int (Int32.ofNat t0)), .val (.ref b7), .val (.ref b18), .val (.ref b25), .unset, .unset, .unset, .unset, .unset, .unset, .unset, .unset, .unset, .unset] [(.int (Int32.ofNat r)), (.ref b32), (.ref b32)])) rfl (by rw [hml]; rfl) (Steps.refl _) (a := b32) (argsL := [(.int (Int32.ofNat r))]) (rest := [(.ref b32)]) (lenOf own_pd4 rfl) rfl (by show 2 * 0 + _ ≤ _; exact Nat.le_of_eq rfl) (hb hby at_98) (fun _ _ => ⟨rfl, e32, (by decide : 4 + 3 ≤ _), (by decide : 9 + 160 ≤ _)⟩)
  dsimp only [Pt.U, Pt.locs, Pt.cells, Pt.slots] at X35 l35 y35 z35 st35 hQ35
  subst l35 y35 z35
  obtain ⟨rfl, N35q, K35q, ch, rt, tg, kt, z1, z2, z3, Ov, hT0⟩ := hQ35
  have N35 := Fr.app N29 N35q
  have KC35 : Keep h0 T35.heap [] := K32.trans K35q (allS (Or.inr sz_b32) all0)
  have pre36 : Goes p e below s₁ (entryFrame m #[(.int qa), (.int qb), (.int qx), (.int qy)] maxLocals) T35 (mkF m 101 #[.val (.int qa), .val (.int qb), .val (.int qx), .val (.int qy), .val (.int (Int32.ofNat r)), .val (.int (Int32.ofNat p0)), .val (.int (Int32.ofNat q0)), .val (.int (Int32.ofNat s0)), .val (.int (Int32.ofNat t0)), .val (.ref b7), .val (.ref b18), .val (.ref b25), .unset, .unset, .unset, .unset, .unset, .unset, .unset, .unset, .unset, .unset] [(.ref b32)]) := fun t kt => pre34 t (st35.trans kt)
  have sz_ch : h0.size ≤ ch := Nat.le_trans K32.1 z1
  have sz_rt : h0.size ≤ rt := Nat.le_trans K32.1 z2
  have sz_tg : h0.size ≤ tg := Nat.le_trans K32.1 z3
  have pre37 : Goes p e below s₁ (entryFrame m #[(.int qa), (.int qb), (.int qx), (.int qy)] maxLocals) T35 (mkF m 105 #[.val (.int qa), .val (.int qb), .val (.int qx), .val (.int qy), .val (.int (Int32.ofNat r)), .val (.int (Int32.ofNat p0)), .val (.int (Int32.ofNat q0)), .val (.int (Int32.ofNat s0)), .val (.int (Int32.ofNat t0)), .val (.ref b7), .val (.ref b18), .val (.ref b25), .val (.ref b32), .unset, .unset, .unset, .unset, .unset, .unset, .unset, .unset, .unset] [(.ref b32)]) := fun t kt => pre36 t (by
      show Steps p.tables e below (T35.setTop (mkF m 101 #[.val (.int qa), .val (.int qb), .val (.int qx), .val (.int qy), .val (.int (Int32.ofNat r)), .val (.int (Int32.ofNat p0)), .val (.int (Int32.ofNat q0)), .val (.int (Int32.ofNat s0)), .val (.int (Int32.ofNat t0)), .val (.ref b7), .val (.ref b18), .val (.ref b25), .unset, .unset, .unset, .unset, .unset, .unset, .unset, .unset, .unset, .unset] [(.ref b32)])) _
      refine XS.astore X35.here hx rfl (hb hby at_101) rfl rfl (l' := #[.val (.int qa), .val (.int qb), .val (.int qx), .val (.int qy), .val (.int (Int32.ofNat r)), .val (.int (Int32.ofNat p0)), .val (.int (Int32.ofNat q0)), .val (.int (Int32.ofNat s0)), .val (.int (Int32.ofNat t0)), .val (.ref b7), .val (.ref b18), .val (.ref b25), .val (.ref b32), .unset, .unset, .unset, .unset, .unset, .unset, .unset, .unset, .unset]) rfl ?_
      show Steps p.tables e below (T35.setTop (mkF m 103 #[.val (.int qa), .val (.int qb), .val (.int qx), .val (.int qy), .val (.int (Int32.ofNat r)), .val (.int (Int32.ofNat p0)), .val (.int (Int32.ofNat q0)), .val (.int (Int32.ofNat s0)), .val (.int (Int32.ofNat t0)), .val (.ref b7), .val (.ref b18), .val (.ref b25), .val (.ref b32), .unset, .unset, .unset, .unset, .unset, .unset, .unset, .unset, .unset] [])) _
      refine XS.aload X35.here hx rfl (hb hby at_103) rfl rfl ?_
      exact kt)
  obtain ⟨cq38, kq38, q38a, q38b, q38c⟩ := isOf hZ rfl (A32.keep K35q)
  obtain ⟨_, _, ⟨T38, L38, k38, n38⟩, -, X38, ⟨Lc38, hQ38, l38, y38, z38⟩, st38⟩ := X35.virtualBack hx (y := (⟨"com/example/unicept/unicept/WordTrie", "addRoot", "()I"⟩ : MethodName)) (z := (⟨"com/example/unicept/unicept/WordTrie", "addRoot", "()I"⟩ : MethodName)) hown (mvT hZ (hw _ (List.mem_of_getElem? (i := 24) rfl))) (mvT hZ (hw _ (List.mem_of_getElem? (i := 25) rfl))) (notFace_of_selects (args := #[]) (mvT hZ (hw _ (List.mem_of_getElem? (i := 27) rfl)))) (mvT hZ (hw _ (List.mem_of_getElem? (i := 27) rfl))) (mvT hZ (hw _ (List.mem_of_getElem? (i := 26) rfl))) (by decide) (backOf (W := 0) (own_addRoot l Z a0 hw [] b32 r 0 ch (fun _ => 0) rt (fun _ => 0) tg kt (List.replicate 16 .null) T35.heap n0 (Nat.le_trans (Nat.le_trans (Nat.le_trans (Nat.le_trans (Nat.le_trans (Nat.le_trans (Nat.le_trans (Nat.le_trans (Nat.le_trans Z0 E7.1) (Keep.of_wr W11).1) (Keep.of_wr W15).1) E18.1) (Keep.of_wr W22).1) E25.1) (Keep.of_wr W29).1) E32.1) K35q.1) hT0 hr1 hr8 (by decide)) hZ (hw _ (List.mem_of_getElem? (i := 28) rfl)) (hw _ (List.mem_of_getElem? (i := 3) rfl)) (by decide) (by decide)) q38a q38c (g := (mkF m 105 #[.val (.int qa), .val (.int qb), .val (.int qx), .val (.int qy), .val (.int (Int32.ofNat r)), .val (.int (Int32.ofNat p0)), .val (.int (Int32.ofNat q0)), .val (.int (Int32.ofNat s0)), .val (.int (Int32.ofNat t0)), .val (.ref b7), .val (.ref b18), .val (.ref b25), .val (.ref b32), .unset, .unset, .unset, .unset, .unset, .unset, .unset, .unset, .unset] [(.ref b32)])) rfl (by rw [hml]; rfl) (Steps.refl _) (argsL := []) (rest := []) (lenOf own_pd2 rfl) rfl (by show 2 * 0 + _ ≤ _; exact Nat.le_of_eq rfl) (hb hby at_105) (fun _ _ => ⟨rfl, rfl, (by decide : 7 + 0 ≤ _), (by decide : 169 + 0 ≤ _)⟩)
  dsimp only [Pt.U, Pt.locs, Pt.cells, Pt.slots] at X38 l38 y38 z38 st38 hQ38
  subst l38 y38 z38
  obtain ⟨rfl, N38q, K38q, hT38⟩ := hQ38
  have N38 := Fr.app N35 N38q
  have KC38 : Keep h0 T38.heap [] := KC35.trans K38q (allS (Or.inr sz_b32) (allS (Or.inr sz_ch) (allS (Or.inr sz_rt) all0)))
  have pre39 : Goes p e below s₁ (entryFrame m #[(.int qa), (.int qb), (.int qx), (.int qy)] maxLocals) T38 (mkF m 108 #[.val (.int qa), .val (.int qb), .val (.int qx), .val (.int qy), .val (.int (Int32.ofNat r)), .val (.int (Int32.ofNat p0)), .val (.int (Int32.ofNat q0)), .val (.int (Int32.ofNat s0)), .val (.int (Int32.ofNat t0)), .val (.ref b7), .val (.ref b18), .val (.ref b25), .val (.ref b32), .unset, .unset, .unset, .unset, .unset, .unset, .unset, .unset, .unset] [(.int (Int32.ofNat 0))]) := fun t kt => pre37 t (st38.trans kt)
  have pre40 : Goes p e below s₁ (entryFrame m #[(.int qa), (.int qb), (.int qx), (.int qy)] maxLocals) T38 (mkF m 116 #[.val (.int qa), .val (.int qb), .val (.int qx), .val (.int qy), .val (.int (Int32.ofNat r)), .val (.int (Int32.ofNat p0)), .val (.int (Int32.ofNat q0)), .val (.int (Int32.ofNat s0)), .val (.int (Int32.ofNat t0)), .val (.ref b7), .val (.ref b18), .val (.ref b25), .val (.ref b32), .val (.int (Int32.ofNat 0)), .unset, .unset, .unset, .unset, .unset, .unset, .unset, .unset] [(.ref b7), (.int (Int32.ofNat 0)), (.ref b32)]) := fun t kt => pre39 t (by
      show Steps p.tables e below (T38.setTop (mkF m 108 #[.val (.int qa), .val (.int qb), .val (.int qx), .val (.int qy), .val (.int (Int32.ofNat r)), .val (.int (Int32.ofNat p0)), .val (.int (Int32.ofNat q0)), .val (.int (Int32.ofNat s0)), .val (.int (Int32.ofNat t0)), .val (.ref b7), .val (.ref b18), .val (.ref b25), .val (.ref b32), .unset, .unset, .unset, .unset, .unset, .unset, .unset, .unset, .unset] [(.int (Int32.ofNat 0))])) _
      refine XS.istore X38.here hx rfl (hb hby at_108) rfl (l' := #[.val (.int qa), .val (.int qb), .val (.int qx), .val (.int qy), .val (.int (Int32.ofNat r)), .val (.int (Int32.ofNat p0)), .val (.int (Int32.ofNat q0)), .val (.int (Int32.ofNat s0)), .val (.int (Int32.ofNat t0)), .val (.ref b7), .val (.ref b18), .val (.ref b25), .val (.ref b32), .val (.int (Int32.ofNat 0)), .unset, .unset, .unset, .unset, .unset, .unset, .unset, .unset]) rfl ?_
      show Steps p.tables e below (T38.setTop (mkF m 110 #[.val (.int qa), .val (.int qb), .val (.int qx), .val (.int qy), .val (.int (Int32.ofNat r)), .val (.int (Int32.ofNat p0)), .val (.int (Int32.ofNat q0)), .val (.int (Int32.ofNat s0)), .val (.int (Int32.ofNat t0)), .val (.ref b7), .val (.ref b18), .val (.ref b25), .val (.ref b32), .val (.int (Int32.ofNat 0)), .unset, .unset, .unset, .unset, .unset, .unset, .unset, .unset] [])) _
      refine XS.aload X38.here hx rfl (hb hby at_110) rfl rfl ?_
      show Steps p.tables e below (T38.setTop (mkF m 112 #[.val (.int qa), .val (.int qb), .val (.int qx), .val (.int qy), .val (.int (Int32.ofNat r)), .val (.int (Int32.ofNat p0)), .val (.int (Int32.ofNat q0)), .val (.int (Int32.ofNat s0)), .val (.int (Int32.ofNat t0)), .val (.ref b7), .val (.ref b18), .val (.ref b25), .val (.ref b32), .val (.int (Int32.ofNat 0)), .unset, .unset, .unset, .unset, .unset, .unset, .unset, .unset] [(.ref b32)])) _
      refine XS.iload X38.here hx rfl (hb hby at_112) rfl ?_
      show Steps p.tables e below (T38.setTop (mkF m 114 #[.val (.int qa), .val (.int qb), .val (.int qx), .val (.int qy), .val (.int (Int32.ofNat r)), .val (.int (Int32.ofNat p0)), .val (.int (Int32.ofNat q0)), .val (.int (Int32.ofNat s0)), .val (.int (Int32.ofNat t0)), .val (.ref b7), .val (.ref b18), .val (.ref b25), .val (.ref b32), .val (.int (Int32.ofNat 0)), .unset, .unset, .unset, .unset, .unset, .unset, .unset, .unset] [(.int (Int32.ofNat 0)), (.ref b32)])) _
      refine XS.aload X38.here hx rfl (hb hby at_114) rfl rfl ?_
      exact kt)
  obtain ⟨cq41, kq41, q41a, q41b, q41c⟩ := isOf hZ rfl ((A32.keep K35q).keep K38q)
  obtain ⟨_, _, ⟨T41, L41, k41, n41⟩, -, X41, ⟨Lc41, hQ41, l41, y41, z41⟩, st41⟩ := X38.virtualBack hx (y := (⟨"com/example/unicept/unicept/WordTrie", "add", "(I[I)I"⟩ : MethodName)) (z := (⟨"com/example/unicept/unicept/WordTrie", "add", "(I[I)I"⟩ : MethodName)) hown (mvT hZ (hw _ (List.mem_of_getElem? (i := 42) rfl))) (mvT hZ (hw _ (List.mem_of_getElem? (i := 43) rfl))) (notFace_of_selects (args := #[]) (mvT hZ (hw _ (List.mem_of_getElem? (i := 45) rfl)))) (mvT hZ (hw _ (List.mem_of_getElem? (i := 45) rfl))) (mvT hZ (hw _ (List.mem_of_getElem? (i := 44) rfl))) (by decide) (backOf (W := 0) (own_add2 l Z a0 hw [] b32 r 1 ch (own_fl (fun _ => 0) (0 * r) (0 * r + r) (-1)) rt (own_up (fun _ => 0) 0 (Int32.ofNat 0)) tg kt (List.replicate 16 .null) 0 p0 q0 b7 k7 T38.heap n0 (Nat.le_trans (Nat.le_trans (Nat.le_trans (Nat.le_trans (Nat.le_trans (Nat.le_trans (Nat.le_trans (Nat.le_trans (Nat.le_trans (Nat.le_trans Z0 E7.1) (Keep.of_wr W11).1) (Keep.of_wr W15).1) E18.1) (Keep.of_wr W22).1) E25.1) (Keep.of_wr W29).1) E32.1) K35q.1) K38q.1) hT38 hr1 hr8 (by decide) (by decide) hlp0 hlq0 (((((((V15.ext E18).other W22 (Nat.ne_of_lt (Nat.lt_of_lt_of_le V15.lt (Nat.le_of_eq g18.symm)))).ext E25).other W29 (Nat.ne_of_lt (Nat.lt_of_lt_of_le ((V15.ext E18).other W22 (Nat.ne_of_lt (Nat.lt_of_lt_of_le V15.lt (Nat.le_of_eq g18.symm)))).lt (Nat.le_of_eq g25.symm)))).ext E32).keep K35q (ninS (Nat.ne_of_lt (Nat.lt_of_lt_of_le ((((V15.ext E18).other W22 (Nat.ne_of_lt (Nat.lt_of_lt_of_le V15.lt (Nat.le_of_eq g18.symm)))).ext E25).other W29 (Nat.ne_of_lt (Nat.lt_of_lt_of_le ((V15.ext E18).other W22 (Nat.ne_of_lt (Nat.lt_of_lt_of_le V15.lt (Nat.le_of_eq g18.symm)))).lt (Nat.le_of_eq g25.symm)))).lt (Nat.le_of_eq g32.symm))) nin0)).keep K38q (ninS (Nat.ne_of_lt (Nat.lt_of_lt_of_le ((((V15.ext E18).other W22 (Nat.ne_of_lt (Nat.lt_of_lt_of_le V15.lt (Nat.le_of_eq g18.symm)))).ext E25).other W29 (Nat.ne_of_lt (Nat.lt_of_lt_of_le ((V15.ext E18).other W22 (Nat.ne_of_lt (Nat.lt_of_lt_of_le V15.lt (Nat.le_of_eq g18.symm)))).lt (Nat.le_of_eq g25.symm)))).lt (Nat.le_of_eq g32.symm))) (ninS (Nat.ne_of_lt (Nat.lt_of_lt_of_le (((((V15.ext E18).other W22 (Nat.ne_of_lt (Nat.lt_of_lt_of_le V15.lt (Nat.le_of_eq g18.symm)))).ext E25).other W29 (Nat.ne_of_lt (Nat.lt_of_lt_of_le ((V15.ext E18).other W22 (Nat.ne_of_lt (Nat.lt_of_lt_of_le V15.lt (Nat.le_of_eq g18.symm)))).lt (Nat.le_of_eq g25.symm)))).ext E32).lt z1)) (ninS (Nat.ne_of_lt (Nat.lt_of_lt_of_le (((((V15.ext E18).other W22 (Nat.ne_of_lt (Nat.lt_of_lt_of_le V15.lt (Nat.le_of_eq g18.symm)))).ext E25).other W29 (Nat.ne_of_lt (Nat.lt_of_lt_of_le ((V15.ext E18).other W22 (Nat.ne_of_lt (Nat.lt_of_lt_of_le V15.lt (Nat.le_of_eq g18.symm)))).lt (Nat.le_of_eq g25.symm)))).ext E32).lt z2)) nin0)))) (Nat.ne_of_lt (Nat.lt_of_lt_of_le ((((V15.ext E18).other W22 (Nat.ne_of_lt (Nat.lt_of_lt_of_le V15.lt (Nat.le_of_eq g18.symm)))).ext E25).other W29 (Nat.ne_of_lt (Nat.lt_of_lt_of_le ((V15.ext E18).other W22 (Nat.ne_of_lt (Nat.lt_of_lt_of_le V15.lt (Nat.le_of_eq g18.symm)))).lt (Nat.le_of_eq g25.symm)))).lt (Nat.le_of_eq g32.symm))) (Nat.ne_of_lt (Nat.lt_of_lt_of_le (((((V15.ext E18).other W22 (Nat.ne_of_lt (Nat.lt_of_lt_of_le V15.lt (Nat.le_of_eq g18.symm)))).ext E25).other W29 (Nat.ne_of_lt (Nat.lt_of_lt_of_le ((V15.ext E18).other W22 (Nat.ne_of_lt (Nat.lt_of_lt_of_le V15.lt (Nat.le_of_eq g18.symm)))).lt (Nat.le_of_eq g25.symm)))).ext E32).lt z1)) (Nat.ne_of_lt (Nat.lt_of_lt_of_le (((((V15.ext E18).other W22 (Nat.ne_of_lt (Nat.lt_of_lt_of_le V15.lt (Nat.le_of_eq g18.symm)))).ext E25).other W29 (Nat.ne_of_lt (Nat.lt_of_lt_of_le ((V15.ext E18).other W22 (Nat.ne_of_lt (Nat.lt_of_lt_of_le V15.lt (Nat.le_of_eq g18.symm)))).lt (Nat.le_of_eq g25.symm)))).ext E32).lt z2)) (own_z21 r p0 q0 s0 t0 hr1 hr8 hlp0 hlq0 hls0 hlt0 )) hZ (hw _ (List.mem_of_getElem? (i := 46) rfl)) (hw _ (List.mem_of_getElem? (i := 3) rfl)) (by decide) (by decide)) q41a q41c (g := (mkF m 116 #[.val (.int qa), .val (.int qb), .val (.int qx), .val (.int qy), .val (.int (Int32.ofNat r)), .val (.int (Int32.ofNat p0)), .val (.int (Int32.ofNat q0)), .val (.int (Int32.ofNat s0)), .val (.int (Int32.ofNat t0)), .val (.ref b7), .val (.ref b18), .val (.ref b25), .val (.ref b32), .val (.int (Int32.ofNat 0)), .unset, .unset, .unset, .unset, .unset, .unset, .unset, .unset] [(.ref b7), (.int (Int32.ofNat 0)), (.ref b32)])) rfl (by rw [hml]; rfl) (Steps.refl _) (argsL := [(.int (Int32.ofNat 0)), (.ref b7)]) (rest := []) (lenOf own_pd5 rfl) rfl (by show 2 * 0 + _ ≤ _; exact Nat.le_of_eq rfl) (hb hby at_116) (fun _ _ => ⟨rfl, rfl, (by decide : 7 + 0 ≤ _), (by decide : 169 + 0 ≤ _)⟩)
  dsimp only [Pt.U, Pt.locs, Pt.cells, Pt.slots] at X41 l41 y41 z41 st41 hQ41
  subst l41 y41 z41
  obtain ⟨rfl, N41q, K41q, hT41⟩ := hQ41
  have N41 := Fr.app N38 N41q
  have KC41 : Keep h0 T41.heap [] := KC38.trans K41q (allS (Or.inr sz_b32) (allS (Or.inr sz_ch) (allS (Or.inr sz_rt) all0)))
  have pre42 : Goes p e below s₁ (entryFrame m #[(.int qa), (.int qb), (.int qx), (.int qy)] maxLocals) T41 (mkF m 119 #[.val (.int qa), .val (.int qb), .val (.int qx), .val (.int qy), .val (.int (Int32.ofNat r)), .val (.int (Int32.ofNat p0)), .val (.int (Int32.ofNat q0)), .val (.int (Int32.ofNat s0)), .val (.int (Int32.ofNat t0)), .val (.ref b7), .val (.ref b18), .val (.ref b25), .val (.ref b32), .val (.int (Int32.ofNat 0)), .unset, .unset, .unset, .unset, .unset, .unset, .unset, .unset] [(.int (Int32.ofNat 2))]) := fun t kt => pre40 t (st41.trans kt)
  have pre43 : Goes p e below s₁ (entryFrame m #[(.int qa), (.int qb), (.int qx), (.int qy)] maxLocals) T41 (mkF m 126 #[.val (.int qa), .val (.int qb), .val (.int qx), .val (.int qy), .val (.int (Int32.ofNat r)), .val (.int (Int32.ofNat p0)), .val (.int (Int32.ofNat q0)), .val (.int (Int32.ofNat s0)), .val (.int (Int32.ofNat t0)), .val (.ref b7), .val (.ref b18), .val (.ref b25), .val (.ref b32), .val (.int (Int32.ofNat 0)), .unset, .unset, .unset, .unset, .unset, .unset, .unset, .unset] [(.ref b18), (.int (Int32.ofNat 0)), (.ref b32)]) := fun t kt => pre42 t (by
      show Steps p.tables e below (T41.setTop (mkF m 119 #[.val (.int qa), .val (.int qb), .val (.int qx), .val (.int qy), .val (.int (Int32.ofNat r)), .val (.int (Int32.ofNat p0)), .val (.int (Int32.ofNat q0)), .val (.int (Int32.ofNat s0)), .val (.int (Int32.ofNat t0)), .val (.ref b7), .val (.ref b18), .val (.ref b25), .val (.ref b32), .val (.int (Int32.ofNat 0)), .unset, .unset, .unset, .unset, .unset, .unset, .unset, .unset] [(.int (Int32.ofNat 2))])) _
      refine XS.pop X41.here hx rfl (hb hby at_119) rfl rfl ?_
      show Steps p.tables e below (T41.setTop (mkF m 120 #[.val (.int qa), .val (.int qb), .val (.int qx), .val (.int qy), .val (.int (Int32.ofNat r)), .val (.int (Int32.ofNat p0)), .val (.int (Int32.ofNat q0)), .val (.int (Int32.ofNat s0)), .val (.int (Int32.ofNat t0)), .val (.ref b7), .val (.ref b18), .val (.ref b25), .val (.ref b32), .val (.int (Int32.ofNat 0)), .unset, .unset, .unset, .unset, .unset, .unset, .unset, .unset] [])) _
      refine XS.aload X41.here hx rfl (hb hby at_120) rfl rfl ?_
      show Steps p.tables e below (T41.setTop (mkF m 122 #[.val (.int qa), .val (.int qb), .val (.int qx), .val (.int qy), .val (.int (Int32.ofNat r)), .val (.int (Int32.ofNat p0)), .val (.int (Int32.ofNat q0)), .val (.int (Int32.ofNat s0)), .val (.int (Int32.ofNat t0)), .val (.ref b7), .val (.ref b18), .val (.ref b25), .val (.ref b32), .val (.int (Int32.ofNat 0)), .unset, .unset, .unset, .unset, .unset, .unset, .unset, .unset] [(.ref b32)])) _
      refine XS.iload X41.here hx rfl (hb hby at_122) rfl ?_
      show Steps p.tables e below (T41.setTop (mkF m 124 #[.val (.int qa), .val (.int qb), .val (.int qx), .val (.int qy), .val (.int (Int32.ofNat r)), .val (.int (Int32.ofNat p0)), .val (.int (Int32.ofNat q0)), .val (.int (Int32.ofNat s0)), .val (.int (Int32.ofNat t0)), .val (.ref b7), .val (.ref b18), .val (.ref b25), .val (.ref b32), .val (.int (Int32.ofNat 0)), .unset, .unset, .unset, .unset, .unset, .unset, .unset, .unset] [(.int (Int32.ofNat 0)), (.ref b32)])) _
      refine XS.aload X41.here hx rfl (hb hby at_124) rfl rfl ?_
      exact kt)
  by_cases hsp : s0 = p0
  · -- s0 = p0
    obtain ⟨cq44, kq44, q44a, q44b, q44c⟩ := isOf hZ rfl (((A32.keep K35q).keep K38q).keep K41q)
    obtain ⟨_, _, ⟨T44, L44, k44, n44⟩, -, X44, ⟨Lc44, hQ44, l44, y44, z44⟩, st44⟩ := X41.virtualBack hx (y := (⟨"com/example/unicept/unicept/WordTrie", "add", "(I[I)I"⟩ : MethodName)) (z := (⟨"com/example/unicept/unicept/WordTrie", "add", "(I[I)I"⟩ : MethodName)) hown (mvT hZ (hw _ (List.mem_of_getElem? (i := 42) rfl))) (mvT hZ (hw _ (List.mem_of_getElem? (i := 43) rfl))) (notFace_of_selects (args := #[]) (mvT hZ (hw _ (List.mem_of_getElem? (i := 45) rfl)))) (mvT hZ (hw _ (List.mem_of_getElem? (i := 45) rfl))) (mvT hZ (hw _ (List.mem_of_getElem? (i := 44) rfl))) (by decide) (backOf (W := 0) (own_addOld l Z a0 hw [] b32 r 3 ch (own_ad (own_ad (own_fl (fun _ => 0) (0 * r) (0 * r + r) (-1)) r 1 0 p0) r 2 1 q0) rt (own_up (own_up (own_up (fun _ => 0) 0 (Int32.ofNat 0)) 1 ((own_up (fun _ => 0) 0 (Int32.ofNat 0)) 0)) 2 ((own_up (own_up (fun _ => 0) 0 (Int32.ofNat 0)) 1 ((own_up (fun _ => 0) 0 (Int32.ofNat 0)) 0)) 1)) tg kt (List.replicate 16 .null) 0 s0 b18 k18 T41.heap n0 (Nat.le_trans (Nat.le_trans (Nat.le_trans (Nat.le_trans (Nat.le_trans (Nat.le_trans (Nat.le_trans (Nat.le_trans (Nat.le_trans (Nat.le_trans (Nat.le_trans Z0 E7.1) (Keep.of_wr W11).1) (Keep.of_wr W15).1) E18.1) (Keep.of_wr W22).1) E25.1) (Keep.of_wr W29).1) E32.1) K35q.1) K38q.1) K41q.1) hT41 hr1 hr8 (by decide) (by decide) hls0 ((((((V22.ext E25).other W29 (Nat.ne_of_lt (Nat.lt_of_lt_of_le V22.lt (Nat.le_of_eq g25.symm)))).ext E32).keep K35q (ninS (Nat.ne_of_lt (Nat.lt_of_lt_of_le ((V22.ext E25).other W29 (Nat.ne_of_lt (Nat.lt_of_lt_of_le V22.lt (Nat.le_of_eq g25.symm)))).lt (Nat.le_of_eq g32.symm))) nin0)).keep K38q (ninS (Nat.ne_of_lt (Nat.lt_of_lt_of_le ((V22.ext E25).other W29 (Nat.ne_of_lt (Nat.lt_of_lt_of_le V22.lt (Nat.le_of_eq g25.symm)))).lt (Nat.le_of_eq g32.symm))) (ninS (Nat.ne_of_lt (Nat.lt_of_lt_of_le (((V22.ext E25).other W29 (Nat.ne_of_lt (Nat.lt_of_lt_of_le V22.lt (Nat.le_of_eq g25.symm)))).ext E32).lt z1)) (ninS (Nat.ne_of_lt (Nat.lt_of_lt_of_le (((V22.ext E25).other W29 (Nat.ne_of_lt (Nat.lt_of_lt_of_le V22.lt (Nat.le_of_eq g25.symm)))).ext E32).lt z2)) nin0)))).keep K41q (ninS (Nat.ne_of_lt (Nat.lt_of_lt_of_le ((V22.ext E25).other W29 (Nat.ne_of_lt (Nat.lt_of_lt_of_le V22.lt (Nat.le_of_eq g25.symm)))).lt (Nat.le_of_eq g32.symm))) (ninS (Nat.ne_of_lt (Nat.lt_of_lt_of_le (((V22.ext E25).other W29 (Nat.ne_of_lt (Nat.lt_of_lt_of_le V22.lt (Nat.le_of_eq g25.symm)))).ext E32).lt z1)) (ninS (Nat.ne_of_lt (Nat.lt_of_lt_of_le (((V22.ext E25).other W29 (Nat.ne_of_lt (Nat.lt_of_lt_of_le V22.lt (Nat.le_of_eq g25.symm)))).ext E32).lt z2)) nin0)))) (Nat.ne_of_lt (Nat.lt_of_lt_of_le ((V22.ext E25).other W29 (Nat.ne_of_lt (Nat.lt_of_lt_of_le V22.lt (Nat.le_of_eq g25.symm)))).lt (Nat.le_of_eq g32.symm))) (Nat.ne_of_lt (Nat.lt_of_lt_of_le (((V22.ext E25).other W29 (Nat.ne_of_lt (Nat.lt_of_lt_of_le V22.lt (Nat.le_of_eq g25.symm)))).ext E32).lt z1)) (Nat.ne_of_lt (Nat.lt_of_lt_of_le (((V22.ext E25).other W29 (Nat.ne_of_lt (Nat.lt_of_lt_of_le V22.lt (Nat.le_of_eq g25.symm)))).ext E32).lt z2)) (own_z22 r p0 q0 s0 t0 hr1 hr8 hlp0 hlq0 hls0 hlt0 hsp )) hZ (hw _ (List.mem_of_getElem? (i := 46) rfl)) (hw _ (List.mem_of_getElem? (i := 3) rfl)) (by decide) (by decide)) q44a q44c (g := (mkF m 126 #[.val (.int qa), .val (.int qb), .val (.int qx), .val (.int qy), .val (.int (Int32.ofNat r)), .val (.int (Int32.ofNat p0)), .val (.int (Int32.ofNat q0)), .val (.int (Int32.ofNat s0)), .val (.int (Int32.ofNat t0)), .val (.ref b7), .val (.ref b18), .val (.ref b25), .val (.ref b32), .val (.int (Int32.ofNat 0)), .unset, .unset, .unset, .unset, .unset, .unset, .unset, .unset] [(.ref b18), (.int (Int32.ofNat 0)), (.ref b32)])) rfl (by rw [hml]; rfl) (Steps.refl _) (argsL := [(.int (Int32.ofNat 0)), (.ref b18)]) (rest := []) (lenOf own_pd5 rfl) rfl (by show 2 * 0 + _ ≤ _; exact Nat.le_of_eq rfl) (hb hby at_126) (fun _ _ => ⟨rfl, rfl, (by decide : 7 + 0 ≤ _), (by decide : 169 + 0 ≤ _)⟩)
    dsimp only [Pt.U, Pt.locs, Pt.cells, Pt.slots] at X44 l44 y44 z44 st44 hQ44
    subst l44 y44 z44
    obtain ⟨rfl, N44q, e44⟩ := hQ44
    have N44 := Fr.app N41 N44q
    have pre45 : Goes p e below s₁ (entryFrame m #[(.int qa), (.int qb), (.int qx), (.int qy)] maxLocals) T44 (mkF m 129 #[.val (.int qa), .val (.int qb), .val (.int qx), .val (.int qy), .val (.int (Int32.ofNat r)), .val (.int (Int32.ofNat p0)), .val (.int (Int32.ofNat q0)), .val (.int (Int32.ofNat s0)), .val (.int (Int32.ofNat t0)), .val (.ref b7), .val (.ref b18), .val (.ref b25), .val (.ref b32), .val (.int (Int32.ofNat 0)), .unset, .unset, .unset, .unset, .unset, .unset, .unset, .unset] [(.int ((own_ad (own_ad (own_fl (fun _ => 0) (0 * r) (0 * r + r) (-1)) r 1 0 p0) r 2 1 q0) (0 * r + s0)))]) := fun t kt => pre43 t (st44.trans kt)
    have pre46 : Goes p e below s₁ (entryFrame m #[(.int qa), (.int qb), (.int qx), (.int qy)] maxLocals) T44 (mkF m 132 #[.val (.int qa), .val (.int qb), .val (.int qx), .val (.int qy), .val (.int (Int32.ofNat r)), .val (.int (Int32.ofNat p0)), .val (.int (Int32.ofNat q0)), .val (.int (Int32.ofNat s0)), .val (.int (Int32.ofNat t0)), .val (.ref b7), .val (.ref b18), .val (.ref b25), .val (.ref b32), .val (.int (Int32.ofNat 0)), .unset, .unset, .unset, .unset, .unset, .unset, .unset, .unset] [(.ref b32)]) := fun t kt => pre45 t (by
        show Steps p.tables e below (T44.setTop (mkF m 129 #[.val (.int qa), .val (.int qb), .val (.int qx), .val (.int qy), .val (.int (Int32.ofNat r)), .val (.int (Int32.ofNat p0)), .val (.int (Int32.ofNat q0)), .val (.int (Int32.ofNat s0)), .val (.int (Int32.ofNat t0)), .val (.ref b7), .val (.ref b18), .val (.ref b25), .val (.ref b32), .val (.int (Int32.ofNat 0)), .unset, .unset, .unset, .unset, .unset, .unset, .unset, .unset] [(.int ((own_ad (own_ad (own_fl (fun _ => 0) (0 * r) (0 * r + r) (-1)) r 1 0 p0) r 2 1 q0) (0 * r + s0)))])) _
        refine XS.pop X44.here hx rfl (hb hby at_129) rfl rfl ?_
        show Steps p.tables e below (T44.setTop (mkF m 130 #[.val (.int qa), .val (.int qb), .val (.int qx), .val (.int qy), .val (.int (Int32.ofNat r)), .val (.int (Int32.ofNat p0)), .val (.int (Int32.ofNat q0)), .val (.int (Int32.ofNat s0)), .val (.int (Int32.ofNat t0)), .val (.ref b7), .val (.ref b18), .val (.ref b25), .val (.ref b32), .val (.int (Int32.ofNat 0)), .unset, .unset, .unset, .unset, .unset, .unset, .unset, .unset] [])) _
        refine XS.aload X44.here hx rfl (hb hby at_130) rfl rfl ?_
        exact kt)
    obtain ⟨cq47, kq47, q47a, q47b, q47c⟩ := isOf hZ e44 (((A32.keep K35q).keep K38q).keep K41q)
    obtain ⟨_, _, ⟨T47, L47, k47, n47⟩, -, X47, ⟨Lc47, hQ47, l47, y47, z47⟩, st47⟩ := X44.virtualBack hx (y := (⟨"com/example/unicept/unicept/WordTrie", "addRoot", "()I"⟩ : MethodName)) (z := (⟨"com/example/unicept/unicept/WordTrie", "addRoot", "()I"⟩ : MethodName)) hown (mvT hZ (hw _ (List.mem_of_getElem? (i := 24) rfl))) (mvT hZ (hw _ (List.mem_of_getElem? (i := 25) rfl))) (notFace_of_selects (args := #[]) (mvT hZ (hw _ (List.mem_of_getElem? (i := 27) rfl)))) (mvT hZ (hw _ (List.mem_of_getElem? (i := 27) rfl))) (mvT hZ (hw _ (List.mem_of_getElem? (i := 26) rfl))) (by decide) (backOf (W := 0) (own_addRoot l Z a0 hw [] b32 r 3 ch (own_ad (own_ad (own_fl (fun _ => 0) (0 * r) (0 * r + r) (-1)) r 1 0 p0) r 2 1 q0) rt (own_up (own_up (own_up (fun _ => 0) 0 (Int32.ofNat 0)) 1 ((own_up (fun _ => 0) 0 (Int32.ofNat 0)) 0)) 2 ((own_up (own_up (fun _ => 0) 0 (Int32.ofNat 0)) 1 ((own_up (fun _ => 0) 0 (Int32.ofNat 0)) 0)) 1)) tg kt (List.replicate 16 .null) T41.heap n0 (Nat.le_trans (Nat.le_trans (Nat.le_trans (Nat.le_trans (Nat.le_trans (Nat.le_trans (Nat.le_trans (Nat.le_trans (Nat.le_trans (Nat.le_trans (Nat.le_trans Z0 E7.1) (Keep.of_wr W11).1) (Keep.of_wr W15).1) E18.1) (Keep.of_wr W22).1) E25.1) (Keep.of_wr W29).1) E32.1) K35q.1) K38q.1) K41q.1) hT41 hr1 hr8 (by decide)) hZ (hw _ (List.mem_of_getElem? (i := 28) rfl)) (hw _ (List.mem_of_getElem? (i := 3) rfl)) (by decide) (by decide)) q47a q47c (g := (mkF m 132 #[.val (.int qa), .val (.int qb), .val (.int qx), .val (.int qy), .val (.int (Int32.ofNat r)), .val (.int (Int32.ofNat p0)), .val (.int (Int32.ofNat q0)), .val (.int (Int32.ofNat s0)), .val (.int (Int32.ofNat t0)), .val (.ref b7), .val (.ref b18), .val (.ref b25), .val (.ref b32), .val (.int (Int32.ofNat 0)), .unset, .unset, .unset, .unset, .unset, .unset, .unset, .unset] [(.ref b32)])) rfl (by rw [hml]; rfl) (Steps.refl _) (argsL := []) (rest := []) (lenOf own_pd2 rfl) rfl (by show 2 * 0 + _ ≤ _; exact Nat.le_of_eq rfl) (hb hby at_132) (fun _ _ => ⟨rfl, e44, (by decide : 7 + 0 ≤ _), (by decide : 169 + 0 ≤ _)⟩)
    dsimp only [Pt.U, Pt.locs, Pt.cells, Pt.slots] at X47 l47 y47 z47 st47 hQ47
    subst l47 y47 z47
    obtain ⟨rfl, N47q, K47q, hT47⟩ := hQ47
    have N47 := Fr.app N44 N47q
    have KC47 : Keep h0 T47.heap [] := KC41.trans K47q (allS (Or.inr sz_b32) (allS (Or.inr sz_ch) (allS (Or.inr sz_rt) all0)))
    have pre48 : Goes p e below s₁ (entryFrame m #[(.int qa), (.int qb), (.int qx), (.int qy)] maxLocals) T47 (mkF m 135 #[.val (.int qa), .val (.int qb), .val (.int qx), .val (.int qy), .val (.int (Int32.ofNat r)), .val (.int (Int32.ofNat p0)), .val (.int (Int32.ofNat q0)), .val (.int (Int32.ofNat s0)), .val (.int (Int32.ofNat t0)), .val (.ref b7), .val (.ref b18), .val (.ref b25), .val (.ref b32), .val (.int (Int32.ofNat 0)), .unset, .unset, .unset, .unset, .unset, .unset, .unset, .unset] [(.int (Int32.ofNat 3))]) := fun t kt => pre46 t (st47.trans kt)
    have pre49 : Goes p e below s₁ (entryFrame m #[(.int qa), (.int qb), (.int qx), (.int qy)] maxLocals) T47 (mkF m 143 #[.val (.int qa), .val (.int qb), .val (.int qx), .val (.int qy), .val (.int (Int32.ofNat r)), .val (.int (Int32.ofNat p0)), .val (.int (Int32.ofNat q0)), .val (.int (Int32.ofNat s0)), .val (.int (Int32.ofNat t0)), .val (.ref b7), .val (.ref b18), .val (.ref b25), .val (.ref b32), .val (.int (Int32.ofNat 0)), .val (.int (Int32.ofNat 3)), .unset, .unset, .unset, .unset, .unset, .unset, .unset] [(.ref b25), (.int (Int32.ofNat 3)), (.ref b32)]) := fun t kt => pre48 t (by
        show Steps p.tables e below (T47.setTop (mkF m 135 #[.val (.int qa), .val (.int qb), .val (.int qx), .val (.int qy), .val (.int (Int32.ofNat r)), .val (.int (Int32.ofNat p0)), .val (.int (Int32.ofNat q0)), .val (.int (Int32.ofNat s0)), .val (.int (Int32.ofNat t0)), .val (.ref b7), .val (.ref b18), .val (.ref b25), .val (.ref b32), .val (.int (Int32.ofNat 0)), .unset, .unset, .unset, .unset, .unset, .unset, .unset, .unset] [(.int (Int32.ofNat 3))])) _
        refine XS.istore X47.here hx rfl (hb hby at_135) rfl (l' := #[.val (.int qa), .val (.int qb), .val (.int qx), .val (.int qy), .val (.int (Int32.ofNat r)), .val (.int (Int32.ofNat p0)), .val (.int (Int32.ofNat q0)), .val (.int (Int32.ofNat s0)), .val (.int (Int32.ofNat t0)), .val (.ref b7), .val (.ref b18), .val (.ref b25), .val (.ref b32), .val (.int (Int32.ofNat 0)), .val (.int (Int32.ofNat 3)), .unset, .unset, .unset, .unset, .unset, .unset, .unset]) rfl ?_
        show Steps p.tables e below (T47.setTop (mkF m 137 #[.val (.int qa), .val (.int qb), .val (.int qx), .val (.int qy), .val (.int (Int32.ofNat r)), .val (.int (Int32.ofNat p0)), .val (.int (Int32.ofNat q0)), .val (.int (Int32.ofNat s0)), .val (.int (Int32.ofNat t0)), .val (.ref b7), .val (.ref b18), .val (.ref b25), .val (.ref b32), .val (.int (Int32.ofNat 0)), .val (.int (Int32.ofNat 3)), .unset, .unset, .unset, .unset, .unset, .unset, .unset] [])) _
        refine XS.aload X47.here hx rfl (hb hby at_137) rfl rfl ?_
        show Steps p.tables e below (T47.setTop (mkF m 139 #[.val (.int qa), .val (.int qb), .val (.int qx), .val (.int qy), .val (.int (Int32.ofNat r)), .val (.int (Int32.ofNat p0)), .val (.int (Int32.ofNat q0)), .val (.int (Int32.ofNat s0)), .val (.int (Int32.ofNat t0)), .val (.ref b7), .val (.ref b18), .val (.ref b25), .val (.ref b32), .val (.int (Int32.ofNat 0)), .val (.int (Int32.ofNat 3)), .unset, .unset, .unset, .unset, .unset, .unset, .unset] [(.ref b32)])) _
        refine XS.iload X47.here hx rfl (hb hby at_139) rfl ?_
        show Steps p.tables e below (T47.setTop (mkF m 141 #[.val (.int qa), .val (.int qb), .val (.int qx), .val (.int qy), .val (.int (Int32.ofNat r)), .val (.int (Int32.ofNat p0)), .val (.int (Int32.ofNat q0)), .val (.int (Int32.ofNat s0)), .val (.int (Int32.ofNat t0)), .val (.ref b7), .val (.ref b18), .val (.ref b25), .val (.ref b32), .val (.int (Int32.ofNat 0)), .val (.int (Int32.ofNat 3)), .unset, .unset, .unset, .unset, .unset, .unset, .unset] [(.int (Int32.ofNat 3)), (.ref b32)])) _
        refine XS.aload X47.here hx rfl (hb hby at_141) rfl rfl ?_
        exact kt)
    obtain ⟨cq50, kq50, q50a, q50b, q50c⟩ := isOf hZ rfl ((((A32.keep K35q).keep K38q).keep K41q).keep K47q)
    obtain ⟨_, _, ⟨T50, L50, k50, n50⟩, -, X50, ⟨Lc50, hQ50, l50, y50, z50⟩, st50⟩ := X47.virtualBack hx (y := (⟨"com/example/unicept/unicept/WordTrie", "add", "(I[I)I"⟩ : MethodName)) (z := (⟨"com/example/unicept/unicept/WordTrie", "add", "(I[I)I"⟩ : MethodName)) hown (mvT hZ (hw _ (List.mem_of_getElem? (i := 42) rfl))) (mvT hZ (hw _ (List.mem_of_getElem? (i := 43) rfl))) (notFace_of_selects (args := #[]) (mvT hZ (hw _ (List.mem_of_getElem? (i := 45) rfl)))) (mvT hZ (hw _ (List.mem_of_getElem? (i := 45) rfl))) (mvT hZ (hw _ (List.mem_of_getElem? (i := 44) rfl))) (by decide) (backOf (W := 0) (own_add1 l Z a0 hw [] b32 r 4 ch (own_fl (own_ad (own_ad (own_fl (fun _ => 0) (0 * r) (0 * r + r) (-1)) r 1 0 p0) r 2 1 q0) (3 * r) (3 * r + r) (-1)) rt (own_up (own_up (own_up (own_up (fun _ => 0) 0 (Int32.ofNat 0)) 1 ((own_up (fun _ => 0) 0 (Int32.ofNat 0)) 0)) 2 ((own_up (own_up (fun _ => 0) 0 (Int32.ofNat 0)) 1 ((own_up (fun _ => 0) 0 (Int32.ofNat 0)) 0)) 1)) 3 (Int32.ofNat 3)) tg kt (List.replicate 16 .null) 3 t0 b25 k25 T47.heap n0 (Nat.le_trans (Nat.le_trans (Nat.le_trans (Nat.le_trans (Nat.le_trans (Nat.le_trans (Nat.le_trans (Nat.le_trans (Nat.le_trans (Nat.le_trans (Nat.le_trans (Nat.le_trans Z0 E7.1) (Keep.of_wr W11).1) (Keep.of_wr W15).1) E18.1) (Keep.of_wr W22).1) E25.1) (Keep.of_wr W29).1) E32.1) K35q.1) K38q.1) K41q.1) K47q.1) hT47 hr1 hr8 (by decide) (by decide) hlt0 (((((V29.ext E32).keep K35q (ninS (Nat.ne_of_lt (Nat.lt_of_lt_of_le V29.lt (Nat.le_of_eq g32.symm))) nin0)).keep K38q (ninS (Nat.ne_of_lt (Nat.lt_of_lt_of_le V29.lt (Nat.le_of_eq g32.symm))) (ninS (Nat.ne_of_lt (Nat.lt_of_lt_of_le (V29.ext E32).lt z1)) (ninS (Nat.ne_of_lt (Nat.lt_of_lt_of_le (V29.ext E32).lt z2)) nin0)))).keep K41q (ninS (Nat.ne_of_lt (Nat.lt_of_lt_of_le V29.lt (Nat.le_of_eq g32.symm))) (ninS (Nat.ne_of_lt (Nat.lt_of_lt_of_le (V29.ext E32).lt z1)) (ninS (Nat.ne_of_lt (Nat.lt_of_lt_of_le (V29.ext E32).lt z2)) nin0)))).keep K47q (ninS (Nat.ne_of_lt (Nat.lt_of_lt_of_le V29.lt (Nat.le_of_eq g32.symm))) (ninS (Nat.ne_of_lt (Nat.lt_of_lt_of_le (V29.ext E32).lt z1)) (ninS (Nat.ne_of_lt (Nat.lt_of_lt_of_le (V29.ext E32).lt z2)) nin0)))) (Nat.ne_of_lt (Nat.lt_of_lt_of_le V29.lt (Nat.le_of_eq g32.symm))) (Nat.ne_of_lt (Nat.lt_of_lt_of_le (V29.ext E32).lt z1)) (Nat.ne_of_lt (Nat.lt_of_lt_of_le (V29.ext E32).lt z2)) (own_z23 r p0 q0 s0 t0 hr1 hr8 hlp0 hlq0 hls0 hlt0 hsp )) hZ (hw _ (List.mem_of_getElem? (i := 46) rfl)) (hw _ (List.mem_of_getElem? (i := 3) rfl)) (by decide) (by decide)) q50a q50c (g := (mkF m 143 #[.val (.int qa), .val (.int qb), .val (.int qx), .val (.int qy), .val (.int (Int32.ofNat r)), .val (.int (Int32.ofNat p0)), .val (.int (Int32.ofNat q0)), .val (.int (Int32.ofNat s0)), .val (.int (Int32.ofNat t0)), .val (.ref b7), .val (.ref b18), .val (.ref b25), .val (.ref b32), .val (.int (Int32.ofNat 0)), .val (.int (Int32.ofNat 3)), .unset, .unset, .unset, .unset, .unset, .unset, .unset] [(.ref b25), (.int (Int32.ofNat 3)), (.ref b32)])) rfl (by rw [hml]; rfl) (Steps.refl _) (argsL := [(.int (Int32.ofNat 3)), (.ref b25)]) (rest := []) (lenOf own_pd5 rfl) rfl (by show 2 * 0 + _ ≤ _; exact Nat.le_of_eq rfl) (hb hby at_143) (fun _ _ => ⟨rfl, rfl, (by decide : 7 + 0 ≤ _), (by decide : 169 + 0 ≤ _)⟩)
    dsimp only [Pt.U, Pt.locs, Pt.cells, Pt.slots] at X50 l50 y50 z50 st50 hQ50
    subst l50 y50 z50
    obtain ⟨rfl, N50q, K50q, hT50⟩ := hQ50
    have N50 := Fr.app N47 N50q
    have KC50 : Keep h0 T50.heap [] := KC47.trans K50q (allS (Or.inr sz_b32) (allS (Or.inr sz_ch) (allS (Or.inr sz_rt) all0)))
    have pre51 : Goes p e below s₁ (entryFrame m #[(.int qa), (.int qb), (.int qx), (.int qy)] maxLocals) T50 (mkF m 146 #[.val (.int qa), .val (.int qb), .val (.int qx), .val (.int qy), .val (.int (Int32.ofNat r)), .val (.int (Int32.ofNat p0)), .val (.int (Int32.ofNat q0)), .val (.int (Int32.ofNat s0)), .val (.int (Int32.ofNat t0)), .val (.ref b7), .val (.ref b18), .val (.ref b25), .val (.ref b32), .val (.int (Int32.ofNat 0)), .val (.int (Int32.ofNat 3)), .unset, .unset, .unset, .unset, .unset, .unset, .unset] [(.int (Int32.ofNat 4))]) := fun t kt => pre49 t (st50.trans kt)
    have pre52 : Goes p e below s₁ (entryFrame m #[(.int qa), (.int qb), (.int qx), (.int qy)] maxLocals) T50 (mkF m 186 #[.val (.int qa), .val (.int qb), .val (.int qx), .val (.int qy), .val (.int (Int32.ofNat r)), .val (.int (Int32.ofNat p0)), .val (.int (Int32.ofNat q0)), .val (.int (Int32.ofNat s0)), .val (.int (Int32.ofNat t0)), .val (.ref b7), .val (.ref b18), .val (.ref b25), .val (.ref b32), .val (.int (Int32.ofNat 0)), .val (.int (Int32.ofNat 3)), .val (.int (0 : Int32)), .val (.int (3 : Int32)), .val (.int (5 : Int32)), .unset, .unset, .unset, .unset] [(.int ((qx &&& (2147483647 : Int32)) % (5 : Int32)))]) := fun t kt => pre51 t (by
        show Steps p.tables e below (T50.setTop (mkF m 146 #[.val (.int qa), .val (.int qb), .val (.int qx), .val (.int qy), .val (.int (Int32.ofNat r)), .val (.int (Int32.ofNat p0)), .val (.int (Int32.ofNat q0)), .val (.int (Int32.ofNat s0)), .val (.int (Int32.ofNat t0)), .val (.ref b7), .val (.ref b18), .val (.ref b25), .val (.ref b32), .val (.int (Int32.ofNat 0)), .val (.int (Int32.ofNat 3)), .unset, .unset, .unset, .unset, .unset, .unset, .unset] [(.int (Int32.ofNat 4))])) _
        refine XS.pop X50.here hx rfl (hb hby at_146) rfl rfl ?_
        show Steps p.tables e below (T50.setTop (mkF m 147 #[.val (.int qa), .val (.int qb), .val (.int qx), .val (.int qy), .val (.int (Int32.ofNat r)), .val (.int (Int32.ofNat p0)), .val (.int (Int32.ofNat q0)), .val (.int (Int32.ofNat s0)), .val (.int (Int32.ofNat t0)), .val (.ref b7), .val (.ref b18), .val (.ref b25), .val (.ref b32), .val (.int (Int32.ofNat 0)), .val (.int (Int32.ofNat 3)), .unset, .unset, .unset, .unset, .unset, .unset, .unset] [])) _
        refine XS.iload X50.here hx rfl (hb hby at_147) rfl ?_
        show Steps p.tables e below (T50.setTop (mkF m 149 #[.val (.int qa), .val (.int qb), .val (.int qx), .val (.int qy), .val (.int (Int32.ofNat r)), .val (.int (Int32.ofNat p0)), .val (.int (Int32.ofNat q0)), .val (.int (Int32.ofNat s0)), .val (.int (Int32.ofNat t0)), .val (.ref b7), .val (.ref b18), .val (.ref b25), .val (.ref b32), .val (.int (Int32.ofNat 0)), .val (.int (Int32.ofNat 3)), .unset, .unset, .unset, .unset, .unset, .unset, .unset] [(.int (Int32.ofNat s0))])) _
        refine XS.iload X50.here hx rfl (hb hby at_149) rfl ?_
        show Steps p.tables e below (T50.setTop (mkF m 151 #[.val (.int qa), .val (.int qb), .val (.int qx), .val (.int qy), .val (.int (Int32.ofNat r)), .val (.int (Int32.ofNat p0)), .val (.int (Int32.ofNat q0)), .val (.int (Int32.ofNat s0)), .val (.int (Int32.ofNat t0)), .val (.ref b7), .val (.ref b18), .val (.ref b25), .val (.ref b32), .val (.int (Int32.ofNat 0)), .val (.int (Int32.ofNat 3)), .unset, .unset, .unset, .unset, .unset, .unset, .unset] [(.int (Int32.ofNat p0)), (.int (Int32.ofNat s0))])) _
        refine XS.icmpYes X50.here hx rfl (pc0 := 151) (pc' := 158) rfl (hb hby at_151) rfl (teq (congrArg Int32.ofNat hsp)).1 (by decide) (by decide) ?_
        show Steps p.tables e below (T50.setTop (mkF m 158 #[.val (.int qa), .val (.int qb), .val (.int qx), .val (.int qy), .val (.int (Int32.ofNat r)), .val (.int (Int32.ofNat p0)), .val (.int (Int32.ofNat q0)), .val (.int (Int32.ofNat s0)), .val (.int (Int32.ofNat t0)), .val (.ref b7), .val (.ref b18), .val (.ref b25), .val (.ref b32), .val (.int (Int32.ofNat 0)), .val (.int (Int32.ofNat 3)), .unset, .unset, .unset, .unset, .unset, .unset, .unset] [])) _
        refine XS.iconst X50.here hx rfl (hb hby at_158) ?_
        show Steps p.tables e below (T50.setTop (mkF m 159 #[.val (.int qa), .val (.int qb), .val (.int qx), .val (.int qy), .val (.int (Int32.ofNat r)), .val (.int (Int32.ofNat p0)), .val (.int (Int32.ofNat q0)), .val (.int (Int32.ofNat s0)), .val (.int (Int32.ofNat t0)), .val (.ref b7), .val (.ref b18), .val (.ref b25), .val (.ref b32), .val (.int (Int32.ofNat 0)), .val (.int (Int32.ofNat 3)), .unset, .unset, .unset, .unset, .unset, .unset, .unset] [(.int (0 : Int32))])) _
        refine XS.istore X50.here hx rfl (hb hby at_159) rfl (l' := #[.val (.int qa), .val (.int qb), .val (.int qx), .val (.int qy), .val (.int (Int32.ofNat r)), .val (.int (Int32.ofNat p0)), .val (.int (Int32.ofNat q0)), .val (.int (Int32.ofNat s0)), .val (.int (Int32.ofNat t0)), .val (.ref b7), .val (.ref b18), .val (.ref b25), .val (.ref b32), .val (.int (Int32.ofNat 0)), .val (.int (Int32.ofNat 3)), .val (.int (0 : Int32)), .unset, .unset, .unset, .unset, .unset, .unset]) rfl ?_
        show Steps p.tables e below (T50.setTop (mkF m 161 #[.val (.int qa), .val (.int qb), .val (.int qx), .val (.int qy), .val (.int (Int32.ofNat r)), .val (.int (Int32.ofNat p0)), .val (.int (Int32.ofNat q0)), .val (.int (Int32.ofNat s0)), .val (.int (Int32.ofNat t0)), .val (.ref b7), .val (.ref b18), .val (.ref b25), .val (.ref b32), .val (.int (Int32.ofNat 0)), .val (.int (Int32.ofNat 3)), .val (.int (0 : Int32)), .unset, .unset, .unset, .unset, .unset, .unset] [])) _
        refine XS.iload X50.here hx rfl (hb hby at_161) rfl ?_
        show Steps p.tables e below (T50.setTop (mkF m 163 #[.val (.int qa), .val (.int qb), .val (.int qx), .val (.int qy), .val (.int (Int32.ofNat r)), .val (.int (Int32.ofNat p0)), .val (.int (Int32.ofNat q0)), .val (.int (Int32.ofNat s0)), .val (.int (Int32.ofNat t0)), .val (.ref b7), .val (.ref b18), .val (.ref b25), .val (.ref b32), .val (.int (Int32.ofNat 0)), .val (.int (Int32.ofNat 3)), .val (.int (0 : Int32)), .unset, .unset, .unset, .unset, .unset, .unset] [(.int (0 : Int32))])) _
        refine XS.ifYes X50.here hx rfl (pc0 := 163) (pc' := 170) rfl (hb hby at_163) rfl ((if0 _ _).trans (teq (by decide : (0 : Int32) = (0 : Int32))).1) (by decide) (by decide) ?_
        show Steps p.tables e below (T50.setTop (mkF m 170 #[.val (.int qa), .val (.int qb), .val (.int qx), .val (.int qy), .val (.int (Int32.ofNat r)), .val (.int (Int32.ofNat p0)), .val (.int (Int32.ofNat q0)), .val (.int (Int32.ofNat s0)), .val (.int (Int32.ofNat t0)), .val (.ref b7), .val (.ref b18), .val (.ref b25), .val (.ref b32), .val (.int (Int32.ofNat 0)), .val (.int (Int32.ofNat 3)), .val (.int (0 : Int32)), .unset, .unset, .unset, .unset, .unset, .unset] [])) _
        refine XS.iconst X50.here hx rfl (hb hby at_170) ?_
        show Steps p.tables e below (T50.setTop (mkF m 171 #[.val (.int qa), .val (.int qb), .val (.int qx), .val (.int qy), .val (.int (Int32.ofNat r)), .val (.int (Int32.ofNat p0)), .val (.int (Int32.ofNat q0)), .val (.int (Int32.ofNat s0)), .val (.int (Int32.ofNat t0)), .val (.ref b7), .val (.ref b18), .val (.ref b25), .val (.ref b32), .val (.int (Int32.ofNat 0)), .val (.int (Int32.ofNat 3)), .val (.int (0 : Int32)), .unset, .unset, .unset, .unset, .unset, .unset] [(.int (3 : Int32))])) _
        refine XS.istore X50.here hx rfl (hb hby at_171) rfl (l' := #[.val (.int qa), .val (.int qb), .val (.int qx), .val (.int qy), .val (.int (Int32.ofNat r)), .val (.int (Int32.ofNat p0)), .val (.int (Int32.ofNat q0)), .val (.int (Int32.ofNat s0)), .val (.int (Int32.ofNat t0)), .val (.ref b7), .val (.ref b18), .val (.ref b25), .val (.ref b32), .val (.int (Int32.ofNat 0)), .val (.int (Int32.ofNat 3)), .val (.int (0 : Int32)), .val (.int (3 : Int32)), .unset, .unset, .unset, .unset, .unset]) rfl ?_
        show Steps p.tables e below (T50.setTop (mkF m 173 #[.val (.int qa), .val (.int qb), .val (.int qx), .val (.int qy), .val (.int (Int32.ofNat r)), .val (.int (Int32.ofNat p0)), .val (.int (Int32.ofNat q0)), .val (.int (Int32.ofNat s0)), .val (.int (Int32.ofNat t0)), .val (.ref b7), .val (.ref b18), .val (.ref b25), .val (.ref b32), .val (.int (Int32.ofNat 0)), .val (.int (Int32.ofNat 3)), .val (.int (0 : Int32)), .val (.int (3 : Int32)), .unset, .unset, .unset, .unset, .unset] [])) _
        refine XS.iload X50.here hx rfl (hb hby at_173) rfl ?_
        show Steps p.tables e below (T50.setTop (mkF m 175 #[.val (.int qa), .val (.int qb), .val (.int qx), .val (.int qy), .val (.int (Int32.ofNat r)), .val (.int (Int32.ofNat p0)), .val (.int (Int32.ofNat q0)), .val (.int (Int32.ofNat s0)), .val (.int (Int32.ofNat t0)), .val (.ref b7), .val (.ref b18), .val (.ref b25), .val (.ref b32), .val (.int (Int32.ofNat 0)), .val (.int (Int32.ofNat 3)), .val (.int (0 : Int32)), .val (.int (3 : Int32)), .unset, .unset, .unset, .unset, .unset] [(.int (3 : Int32))])) _
        refine XS.iconst X50.here hx rfl (hb hby at_175) ?_
        show Steps p.tables e below (T50.setTop (mkF m 176 #[.val (.int qa), .val (.int qb), .val (.int qx), .val (.int qy), .val (.int (Int32.ofNat r)), .val (.int (Int32.ofNat p0)), .val (.int (Int32.ofNat q0)), .val (.int (Int32.ofNat s0)), .val (.int (Int32.ofNat t0)), .val (.ref b7), .val (.ref b18), .val (.ref b25), .val (.ref b32), .val (.int (Int32.ofNat 0)), .val (.int (Int32.ofNat 3)), .val (.int (0 : Int32)), .val (.int (3 : Int32)), .unset, .unset, .unset, .unset, .unset] [(.int (2 : Int32)), (.int (3 : Int32))])) _
        refine XS.iadd X50.here hx rfl (hb hby at_176) rfl ?_
        show Steps p.tables e below (T50.setTop (mkF m 177 #[.val (.int qa), .val (.int qb), .val (.int qx), .val (.int qy), .val (.int (Int32.ofNat r)), .val (.int (Int32.ofNat p0)), .val (.int (Int32.ofNat q0)), .val (.int (Int32.ofNat s0)), .val (.int (Int32.ofNat t0)), .val (.ref b7), .val (.ref b18), .val (.ref b25), .val (.ref b32), .val (.int (Int32.ofNat 0)), .val (.int (Int32.ofNat 3)), .val (.int (0 : Int32)), .val (.int (3 : Int32)), .unset, .unset, .unset, .unset, .unset] [(.int (5 : Int32))])) _
        refine XS.istore X50.here hx rfl (hb hby at_177) rfl (l' := #[.val (.int qa), .val (.int qb), .val (.int qx), .val (.int qy), .val (.int (Int32.ofNat r)), .val (.int (Int32.ofNat p0)), .val (.int (Int32.ofNat q0)), .val (.int (Int32.ofNat s0)), .val (.int (Int32.ofNat t0)), .val (.ref b7), .val (.ref b18), .val (.ref b25), .val (.ref b32), .val (.int (Int32.ofNat 0)), .val (.int (Int32.ofNat 3)), .val (.int (0 : Int32)), .val (.int (3 : Int32)), .val (.int (5 : Int32)), .unset, .unset, .unset, .unset]) rfl ?_
        show Steps p.tables e below (T50.setTop (mkF m 179 #[.val (.int qa), .val (.int qb), .val (.int qx), .val (.int qy), .val (.int (Int32.ofNat r)), .val (.int (Int32.ofNat p0)), .val (.int (Int32.ofNat q0)), .val (.int (Int32.ofNat s0)), .val (.int (Int32.ofNat t0)), .val (.ref b7), .val (.ref b18), .val (.ref b25), .val (.ref b32), .val (.int (Int32.ofNat 0)), .val (.int (Int32.ofNat 3)), .val (.int (0 : Int32)), .val (.int (3 : Int32)), .val (.int (5 : Int32)), .unset, .unset, .unset, .unset] [])) _
        refine XS.iloadN X50.here hx rfl (hb hby at_179) rfl ?_
        show Steps p.tables e below (T50.setTop (mkF m 180 #[.val (.int qa), .val (.int qb), .val (.int qx), .val (.int qy), .val (.int (Int32.ofNat r)), .val (.int (Int32.ofNat p0)), .val (.int (Int32.ofNat q0)), .val (.int (Int32.ofNat s0)), .val (.int (Int32.ofNat t0)), .val (.ref b7), .val (.ref b18), .val (.ref b25), .val (.ref b32), .val (.int (Int32.ofNat 0)), .val (.int (Int32.ofNat 3)), .val (.int (0 : Int32)), .val (.int (3 : Int32)), .val (.int (5 : Int32)), .unset, .unset, .unset, .unset] [(.int qx)])) _
        refine X50.ldcInt hx hown (mvT hZ (hw _ (List.mem_of_getElem? (i := 52) rfl))) (g := (mkF m 180 #[.val (.int qa), .val (.int qb), .val (.int qx), .val (.int qy), .val (.int (Int32.ofNat r)), .val (.int (Int32.ofNat p0)), .val (.int (Int32.ofNat q0)), .val (.int (Int32.ofNat s0)), .val (.int (Int32.ofNat t0)), .val (.ref b7), .val (.ref b18), .val (.ref b25), .val (.ref b32), .val (.int (Int32.ofNat 0)), .val (.int (Int32.ofNat 3)), .val (.int (0 : Int32)), .val (.int (3 : Int32)), .val (.int (5 : Int32)), .unset, .unset, .unset, .unset] [(.int qx)])) rfl (hb hby at_180) _ ?_
        show Steps p.tables e below (T50.setTop (mkF m 182 #[.val (.int qa), .val (.int qb), .val (.int qx), .val (.int qy), .val (.int (Int32.ofNat r)), .val (.int (Int32.ofNat p0)), .val (.int (Int32.ofNat q0)), .val (.int (Int32.ofNat s0)), .val (.int (Int32.ofNat t0)), .val (.ref b7), .val (.ref b18), .val (.ref b25), .val (.ref b32), .val (.int (Int32.ofNat 0)), .val (.int (Int32.ofNat 3)), .val (.int (0 : Int32)), .val (.int (3 : Int32)), .val (.int (5 : Int32)), .unset, .unset, .unset, .unset] [(.int (2147483647 : Int32)), (.int qx)])) _
        refine XS.iand X50.here hx rfl (hb hby at_182) rfl ?_
        show Steps p.tables e below (T50.setTop (mkF m 183 #[.val (.int qa), .val (.int qb), .val (.int qx), .val (.int qy), .val (.int (Int32.ofNat r)), .val (.int (Int32.ofNat p0)), .val (.int (Int32.ofNat q0)), .val (.int (Int32.ofNat s0)), .val (.int (Int32.ofNat t0)), .val (.ref b7), .val (.ref b18), .val (.ref b25), .val (.ref b32), .val (.int (Int32.ofNat 0)), .val (.int (Int32.ofNat 3)), .val (.int (0 : Int32)), .val (.int (3 : Int32)), .val (.int (5 : Int32)), .unset, .unset, .unset, .unset] [(.int (qx &&& (2147483647 : Int32)))])) _
        refine XS.iload X50.here hx rfl (hb hby at_183) rfl ?_
        show Steps p.tables e below (T50.setTop (mkF m 185 #[.val (.int qa), .val (.int qb), .val (.int qx), .val (.int qy), .val (.int (Int32.ofNat r)), .val (.int (Int32.ofNat p0)), .val (.int (Int32.ofNat q0)), .val (.int (Int32.ofNat s0)), .val (.int (Int32.ofNat t0)), .val (.ref b7), .val (.ref b18), .val (.ref b25), .val (.ref b32), .val (.int (Int32.ofNat 0)), .val (.int (Int32.ofNat 3)), .val (.int (0 : Int32)), .val (.int (3 : Int32)), .val (.int (5 : Int32)), .unset, .unset, .unset, .unset] [(.int (5 : Int32)), (.int (qx &&& (2147483647 : Int32)))])) _
        refine iremM X50 hx rfl (hb hby at_185) rfl (by decide) ?_
        exact kt)
    obtain ⟨nd, hlnd, hend⟩ := own_rem (r := 5) (by decide) (by decide) (own_n5 qx)
    rw [show ((qx &&& (2147483647 : Int32)) % (5 : Int32)) = (Int32.ofNat nd) from hend] at pre52
    obtain ⟨F, hF⟩ : ∃ F : Nat → Int32, F = (own_ad (own_fl (own_ad (own_ad (own_fl (fun _ => 0) (0 * r) (0 * r + r) (-1)) r 1 0 p0) r 2 1 q0) (3 * r) (3 * r + r) (-1)) r 4 3 t0) := ⟨_, rfl⟩
    rw [← hF] at hT50
    have pre53 : Goes p e below s₁ (entryFrame m #[(.int qa), (.int qb), (.int qx), (.int qy)] maxLocals) T50 (mkF m 195 #[.val (.int qa), .val (.int qb), .val (.int qx), .val (.int qy), .val (.int (Int32.ofNat r)), .val (.int (Int32.ofNat p0)), .val (.int (Int32.ofNat q0)), .val (.int (Int32.ofNat s0)), .val (.int (Int32.ofNat t0)), .val (.ref b7), .val (.ref b18), .val (.ref b25), .val (.ref b32), .val (.int (Int32.ofNat 0)), .val (.int (Int32.ofNat 3)), .val (.int (0 : Int32)), .val (.int (3 : Int32)), .val (.int (5 : Int32)), .val (.int (Int32.ofNat nd)), .unset, .unset, .unset] [(.int ((qy &&& (2147483647 : Int32)) % (Int32.ofNat r)))]) := fun t kt => pre52 t (by
        show Steps p.tables e below (T50.setTop (mkF m 186 #[.val (.int qa), .val (.int qb), .val (.int qx), .val (.int qy), .val (.int (Int32.ofNat r)), .val (.int (Int32.ofNat p0)), .val (.int (Int32.ofNat q0)), .val (.int (Int32.ofNat s0)), .val (.int (Int32.ofNat t0)), .val (.ref b7), .val (.ref b18), .val (.ref b25), .val (.ref b32), .val (.int (Int32.ofNat 0)), .val (.int (Int32.ofNat 3)), .val (.int (0 : Int32)), .val (.int (3 : Int32)), .val (.int (5 : Int32)), .unset, .unset, .unset, .unset] [(.int (Int32.ofNat nd))])) _
        refine XS.istore X50.here hx rfl (hb hby at_186) rfl (l' := #[.val (.int qa), .val (.int qb), .val (.int qx), .val (.int qy), .val (.int (Int32.ofNat r)), .val (.int (Int32.ofNat p0)), .val (.int (Int32.ofNat q0)), .val (.int (Int32.ofNat s0)), .val (.int (Int32.ofNat t0)), .val (.ref b7), .val (.ref b18), .val (.ref b25), .val (.ref b32), .val (.int (Int32.ofNat 0)), .val (.int (Int32.ofNat 3)), .val (.int (0 : Int32)), .val (.int (3 : Int32)), .val (.int (5 : Int32)), .val (.int (Int32.ofNat nd)), .unset, .unset, .unset]) rfl ?_
        show Steps p.tables e below (T50.setTop (mkF m 188 #[.val (.int qa), .val (.int qb), .val (.int qx), .val (.int qy), .val (.int (Int32.ofNat r)), .val (.int (Int32.ofNat p0)), .val (.int (Int32.ofNat q0)), .val (.int (Int32.ofNat s0)), .val (.int (Int32.ofNat t0)), .val (.ref b7), .val (.ref b18), .val (.ref b25), .val (.ref b32), .val (.int (Int32.ofNat 0)), .val (.int (Int32.ofNat 3)), .val (.int (0 : Int32)), .val (.int (3 : Int32)), .val (.int (5 : Int32)), .val (.int (Int32.ofNat nd)), .unset, .unset, .unset] [])) _
        refine XS.iloadN X50.here hx rfl (hb hby at_188) rfl ?_
        show Steps p.tables e below (T50.setTop (mkF m 189 #[.val (.int qa), .val (.int qb), .val (.int qx), .val (.int qy), .val (.int (Int32.ofNat r)), .val (.int (Int32.ofNat p0)), .val (.int (Int32.ofNat q0)), .val (.int (Int32.ofNat s0)), .val (.int (Int32.ofNat t0)), .val (.ref b7), .val (.ref b18), .val (.ref b25), .val (.ref b32), .val (.int (Int32.ofNat 0)), .val (.int (Int32.ofNat 3)), .val (.int (0 : Int32)), .val (.int (3 : Int32)), .val (.int (5 : Int32)), .val (.int (Int32.ofNat nd)), .unset, .unset, .unset] [(.int qy)])) _
        refine X50.ldcInt hx hown (mvT hZ (hw _ (List.mem_of_getElem? (i := 52) rfl))) (g := (mkF m 189 #[.val (.int qa), .val (.int qb), .val (.int qx), .val (.int qy), .val (.int (Int32.ofNat r)), .val (.int (Int32.ofNat p0)), .val (.int (Int32.ofNat q0)), .val (.int (Int32.ofNat s0)), .val (.int (Int32.ofNat t0)), .val (.ref b7), .val (.ref b18), .val (.ref b25), .val (.ref b32), .val (.int (Int32.ofNat 0)), .val (.int (Int32.ofNat 3)), .val (.int (0 : Int32)), .val (.int (3 : Int32)), .val (.int (5 : Int32)), .val (.int (Int32.ofNat nd)), .unset, .unset, .unset] [(.int qy)])) rfl (hb hby at_189) _ ?_
        show Steps p.tables e below (T50.setTop (mkF m 191 #[.val (.int qa), .val (.int qb), .val (.int qx), .val (.int qy), .val (.int (Int32.ofNat r)), .val (.int (Int32.ofNat p0)), .val (.int (Int32.ofNat q0)), .val (.int (Int32.ofNat s0)), .val (.int (Int32.ofNat t0)), .val (.ref b7), .val (.ref b18), .val (.ref b25), .val (.ref b32), .val (.int (Int32.ofNat 0)), .val (.int (Int32.ofNat 3)), .val (.int (0 : Int32)), .val (.int (3 : Int32)), .val (.int (5 : Int32)), .val (.int (Int32.ofNat nd)), .unset, .unset, .unset] [(.int (2147483647 : Int32)), (.int qy)])) _
        refine XS.iand X50.here hx rfl (hb hby at_191) rfl ?_
        show Steps p.tables e below (T50.setTop (mkF m 192 #[.val (.int qa), .val (.int qb), .val (.int qx), .val (.int qy), .val (.int (Int32.ofNat r)), .val (.int (Int32.ofNat p0)), .val (.int (Int32.ofNat q0)), .val (.int (Int32.ofNat s0)), .val (.int (Int32.ofNat t0)), .val (.ref b7), .val (.ref b18), .val (.ref b25), .val (.ref b32), .val (.int (Int32.ofNat 0)), .val (.int (Int32.ofNat 3)), .val (.int (0 : Int32)), .val (.int (3 : Int32)), .val (.int (5 : Int32)), .val (.int (Int32.ofNat nd)), .unset, .unset, .unset] [(.int (qy &&& (2147483647 : Int32)))])) _
        refine XS.iload X50.here hx rfl (hb hby at_192) rfl ?_
        show Steps p.tables e below (T50.setTop (mkF m 194 #[.val (.int qa), .val (.int qb), .val (.int qx), .val (.int qy), .val (.int (Int32.ofNat r)), .val (.int (Int32.ofNat p0)), .val (.int (Int32.ofNat q0)), .val (.int (Int32.ofNat s0)), .val (.int (Int32.ofNat t0)), .val (.ref b7), .val (.ref b18), .val (.ref b25), .val (.ref b32), .val (.int (Int32.ofNat 0)), .val (.int (Int32.ofNat 3)), .val (.int (0 : Int32)), .val (.int (3 : Int32)), .val (.int (5 : Int32)), .val (.int (Int32.ofNat nd)), .unset, .unset, .unset] [(.int (Int32.ofNat r)), (.int (qy &&& (2147483647 : Int32)))])) _
        refine iremM X50 hx rfl (hb hby at_194) rfl (own_nz hr1 hr8) ?_
        exact kt)
    obtain ⟨ro, hlro, hero⟩ := own_rem hr1 hr8 (own_n6 qy)
    rw [show ((qy &&& (2147483647 : Int32)) % (Int32.ofNat r)) = (Int32.ofNat ro) from hero] at pre53
    have pre54 : Goes p e below s₁ (entryFrame m #[(.int qa), (.int qb), (.int qx), (.int qy)] maxLocals) T50 (mkF m 197 #[.val (.int qa), .val (.int qb), .val (.int qx), .val (.int qy), .val (.int (Int32.ofNat r)), .val (.int (Int32.ofNat p0)), .val (.int (Int32.ofNat q0)), .val (.int (Int32.ofNat s0)), .val (.int (Int32.ofNat t0)), .val (.ref b7), .val (.ref b18), .val (.ref b25), .val (.ref b32), .val (.int (Int32.ofNat 0)), .val (.int (Int32.ofNat 3)), .val (.int (0 : Int32)), .val (.int (3 : Int32)), .val (.int (5 : Int32)), .val (.int (Int32.ofNat nd)), .val (.int (Int32.ofNat ro)), .unset, .unset] []) := fun t kt => pre53 t (by
        show Steps p.tables e below (T50.setTop (mkF m 195 #[.val (.int qa), .val (.int qb), .val (.int qx), .val (.int qy), .val (.int (Int32.ofNat r)), .val (.int (Int32.ofNat p0)), .val (.int (Int32.ofNat q0)), .val (.int (Int32.ofNat s0)), .val (.int (Int32.ofNat t0)), .val (.ref b7), .val (.ref b18), .val (.ref b25), .val (.ref b32), .val (.int (Int32.ofNat 0)), .val (.int (Int32.ofNat 3)), .val (.int (0 : Int32)), .val (.int (3 : Int32)), .val (.int (5 : Int32)), .val (.int (Int32.ofNat nd)), .unset, .unset, .unset] [(.int (Int32.ofNat ro))])) _
        refine XS.istore X50.here hx rfl (hb hby at_195) rfl (l' := #[.val (.int qa), .val (.int qb), .val (.int qx), .val (.int qy), .val (.int (Int32.ofNat r)), .val (.int (Int32.ofNat p0)), .val (.int (Int32.ofNat q0)), .val (.int (Int32.ofNat s0)), .val (.int (Int32.ofNat t0)), .val (.ref b7), .val (.ref b18), .val (.ref b25), .val (.ref b32), .val (.int (Int32.ofNat 0)), .val (.int (Int32.ofNat 3)), .val (.int (0 : Int32)), .val (.int (3 : Int32)), .val (.int (5 : Int32)), .val (.int (Int32.ofNat nd)), .val (.int (Int32.ofNat ro)), .unset, .unset]) rfl ?_
        exact kt)
    obtain ⟨ex, hex, pre56⟩ : ∃ (ex : Int32), ((ex = (-1 : Int32) ∧ F (nd * r + ro) = (-1 : Int32)) ∨ (¬ (ex < (0 : Int32)) ∧ F (nd * r + ro) = ex)) ∧ Goes p e below s₁ (entryFrame m #[(.int qa), (.int qb), (.int qx), (.int qy)] maxLocals) T50 (mkF m 275 #[.val (.int qa), .val (.int qb), .val (.int qx), .val (.int qy), .val (.int (Int32.ofNat r)), .val (.int (Int32.ofNat p0)), .val (.int (Int32.ofNat q0)), .val (.int (Int32.ofNat s0)), .val (.int (Int32.ofNat t0)), .val (.ref b7), .val (.ref b18), .val (.ref b25), .val (.ref b32), .val (.int (Int32.ofNat 0)), .val (.int (Int32.ofNat 3)), .val (.int (0 : Int32)), .val (.int (3 : Int32)), .val (.int (5 : Int32)), .val (.int (Int32.ofNat nd)), .val (.int (Int32.ofNat ro)), .val (.int ex), .unset] []) := by
      have pre57 : Goes p e below s₁ (entryFrame m #[(.int qa), (.int qb), (.int qx), (.int qy)] maxLocals) T50 (mkF m 202 #[.val (.int qa), .val (.int qb), .val (.int qx), .val (.int qy), .val (.int (Int32.ofNat r)), .val (.int (Int32.ofNat p0)), .val (.int (Int32.ofNat q0)), .val (.int (Int32.ofNat s0)), .val (.int (Int32.ofNat t0)), .val (.ref b7), .val (.ref b18), .val (.ref b25), .val (.ref b32), .val (.int (Int32.ofNat 0)), .val (.int (Int32.ofNat 3)), .val (.int (0 : Int32)), .val (.int (3 : Int32)), .val (.int (5 : Int32)), .val (.int (Int32.ofNat nd)), .val (.int (Int32.ofNat ro)), .val (.int (-1 : Int32)), .unset] [(.int (Int32.ofNat nd))]) := fun t kt => pre54 t (by
          show Steps p.tables e below (T50.setTop (mkF m 197 #[.val (.int qa), .val (.int qb), .val (.int qx), .val (.int qy), .val (.int (Int32.ofNat r)), .val (.int (Int32.ofNat p0)), .val (.int (Int32.ofNat q0)), .val (.int (Int32.ofNat s0)), .val (.int (Int32.ofNat t0)), .val (.ref b7), .val (.ref b18), .val (.ref b25), .val (.ref b32), .val (.int (Int32.ofNat 0)), .val (.int (Int32.ofNat 3)), .val (.int (0 : Int32)), .val (.int (3 : Int32)), .val (.int (5 : Int32)), .val (.int (Int32.ofNat nd)), .val (.int (Int32.ofNat ro)), .unset, .unset] [])) _
          refine XS.iconst X50.here hx rfl (hb hby at_197) ?_
          show Steps p.tables e below (T50.setTop (mkF m 198 #[.val (.int qa), .val (.int qb), .val (.int qx), .val (.int qy), .val (.int (Int32.ofNat r)), .val (.int (Int32.ofNat p0)), .val (.int (Int32.ofNat q0)), .val (.int (Int32.ofNat s0)), .val (.int (Int32.ofNat t0)), .val (.ref b7), .val (.ref b18), .val (.ref b25), .val (.ref b32), .val (.int (Int32.ofNat 0)), .val (.int (Int32.ofNat 3)), .val (.int (0 : Int32)), .val (.int (3 : Int32)), .val (.int (5 : Int32)), .val (.int (Int32.ofNat nd)), .val (.int (Int32.ofNat ro)), .unset, .unset] [(.int (-1 : Int32))])) _
          refine XS.istore X50.here hx rfl (hb hby at_198) rfl (l' := #[.val (.int qa), .val (.int qb), .val (.int qx), .val (.int qy), .val (.int (Int32.ofNat r)), .val (.int (Int32.ofNat p0)), .val (.int (Int32.ofNat q0)), .val (.int (Int32.ofNat s0)), .val (.int (Int32.ofNat t0)), .val (.ref b7), .val (.ref b18), .val (.ref b25), .val (.ref b32), .val (.int (Int32.ofNat 0)), .val (.int (Int32.ofNat 3)), .val (.int (0 : Int32)), .val (.int (3 : Int32)), .val (.int (5 : Int32)), .val (.int (Int32.ofNat nd)), .val (.int (Int32.ofNat ro)), .val (.int (-1 : Int32)), .unset]) rfl ?_
          show Steps p.tables e below (T50.setTop (mkF m 200 #[.val (.int qa), .val (.int qb), .val (.int qx), .val (.int qy), .val (.int (Int32.ofNat r)), .val (.int (Int32.ofNat p0)), .val (.int (Int32.ofNat q0)), .val (.int (Int32.ofNat s0)), .val (.int (Int32.ofNat t0)), .val (.ref b7), .val (.ref b18), .val (.ref b25), .val (.ref b32), .val (.int (Int32.ofNat 0)), .val (.int (Int32.ofNat 3)), .val (.int (0 : Int32)), .val (.int (3 : Int32)), .val (.int (5 : Int32)), .val (.int (Int32.ofNat nd)), .val (.int (Int32.ofNat ro)), .val (.int (-1 : Int32)), .unset] [])) _
          refine XS.iload X50.here hx rfl (hb hby at_200) rfl ?_
          exact kt)
      by_cases hc202_58 : (Int32.ofNat nd) = (0 : Int32)
      · -- yes at pc 202: tt
        have hm59 : nd = 0 := own_inj (by omega) (by omega) hc202_58
        have pre60 : Goes p e below s₁ (entryFrame m #[(.int qa), (.int qb), (.int qx), (.int qy)] maxLocals) T50 (mkF m 209 #[.val (.int qa), .val (.int qb), .val (.int qx), .val (.int qy), .val (.int (Int32.ofNat r)), .val (.int (Int32.ofNat p0)), .val (.int (Int32.ofNat q0)), .val (.int (Int32.ofNat s0)), .val (.int (Int32.ofNat t0)), .val (.ref b7), .val (.ref b18), .val (.ref b25), .val (.ref b32), .val (.int (Int32.ofNat 0)), .val (.int (Int32.ofNat 3)), .val (.int (0 : Int32)), .val (.int (3 : Int32)), .val (.int (5 : Int32)), .val (.int (Int32.ofNat nd)), .val (.int (Int32.ofNat ro)), .val (.int (-1 : Int32)), .unset] [(.int (Int32.ofNat p0)), (.int (Int32.ofNat ro))]) := fun t kt => pre57 t (by
            show Steps p.tables e below (T50.setTop (mkF m 202 #[.val (.int qa), .val (.int qb), .val (.int qx), .val (.int qy), .val (.int (Int32.ofNat r)), .val (.int (Int32.ofNat p0)), .val (.int (Int32.ofNat q0)), .val (.int (Int32.ofNat s0)), .val (.int (Int32.ofNat t0)), .val (.ref b7), .val (.ref b18), .val (.ref b25), .val (.ref b32), .val (.int (Int32.ofNat 0)), .val (.int (Int32.ofNat 3)), .val (.int (0 : Int32)), .val (.int (3 : Int32)), .val (.int (5 : Int32)), .val (.int (Int32.ofNat nd)), .val (.int (Int32.ofNat ro)), .val (.int (-1 : Int32)), .unset] [(.int (Int32.ofNat nd))])) _
            refine XS.ifNo X50.here hx rfl (hb hby at_202) rfl ((if0 _ _).trans (teq hc202_58).2) ?_
            show Steps p.tables e below (T50.setTop (mkF m 205 #[.val (.int qa), .val (.int qb), .val (.int qx), .val (.int qy), .val (.int (Int32.ofNat r)), .val (.int (Int32.ofNat p0)), .val (.int (Int32.ofNat q0)), .val (.int (Int32.ofNat s0)), .val (.int (Int32.ofNat t0)), .val (.ref b7), .val (.ref b18), .val (.ref b25), .val (.ref b32), .val (.int (Int32.ofNat 0)), .val (.int (Int32.ofNat 3)), .val (.int (0 : Int32)), .val (.int (3 : Int32)), .val (.int (5 : Int32)), .val (.int (Int32.ofNat nd)), .val (.int (Int32.ofNat ro)), .val (.int (-1 : Int32)), .unset] [])) _
            refine XS.iload X50.here hx rfl (hb hby at_205) rfl ?_
            show Steps p.tables e below (T50.setTop (mkF m 207 #[.val (.int qa), .val (.int qb), .val (.int qx), .val (.int qy), .val (.int (Int32.ofNat r)), .val (.int (Int32.ofNat p0)), .val (.int (Int32.ofNat q0)), .val (.int (Int32.ofNat s0)), .val (.int (Int32.ofNat t0)), .val (.ref b7), .val (.ref b18), .val (.ref b25), .val (.ref b32), .val (.int (Int32.ofNat 0)), .val (.int (Int32.ofNat 3)), .val (.int (0 : Int32)), .val (.int (3 : Int32)), .val (.int (5 : Int32)), .val (.int (Int32.ofNat nd)), .val (.int (Int32.ofNat ro)), .val (.int (-1 : Int32)), .unset] [(.int (Int32.ofNat ro))])) _
            refine XS.iload X50.here hx rfl (hb hby at_207) rfl ?_
            exact kt)
        by_cases hc209_61 : (Int32.ofNat ro) = (Int32.ofNat p0)
        · -- yes at pc 209: ttf
          have hm62 : ro = p0 := own_inj (by omega) (by omega) hc209_61
          have pre63 : Goes p e below s₁ (entryFrame m #[(.int qa), (.int qb), (.int qx), (.int qy)] maxLocals) T50 (mkF m 275 #[.val (.int qa), .val (.int qb), .val (.int qx), .val (.int qy), .val (.int (Int32.ofNat r)), .val (.int (Int32.ofNat p0)), .val (.int (Int32.ofNat q0)), .val (.int (Int32.ofNat s0)), .val (.int (Int32.ofNat t0)), .val (.ref b7), .val (.ref b18), .val (.ref b25), .val (.ref b32), .val (.int (Int32.ofNat 0)), .val (.int (Int32.ofNat 3)), .val (.int (0 : Int32)), .val (.int (3 : Int32)), .val (.int (5 : Int32)), .val (.int (Int32.ofNat nd)), .val (.int (Int32.ofNat ro)), .val (.int (1 : Int32)), .unset] []) := fun t kt => pre60 t (by
              show Steps p.tables e below (T50.setTop (mkF m 209 #[.val (.int qa), .val (.int qb), .val (.int qx), .val (.int qy), .val (.int (Int32.ofNat r)), .val (.int (Int32.ofNat p0)), .val (.int (Int32.ofNat q0)), .val (.int (Int32.ofNat s0)), .val (.int (Int32.ofNat t0)), .val (.ref b7), .val (.ref b18), .val (.ref b25), .val (.ref b32), .val (.int (Int32.ofNat 0)), .val (.int (Int32.ofNat 3)), .val (.int (0 : Int32)), .val (.int (3 : Int32)), .val (.int (5 : Int32)), .val (.int (Int32.ofNat nd)), .val (.int (Int32.ofNat ro)), .val (.int (-1 : Int32)), .unset] [(.int (Int32.ofNat p0)), (.int (Int32.ofNat ro))])) _
              refine XS.icmpNo X50.here hx rfl (hb hby at_209) rfl (teq hc209_61).2 ?_
              show Steps p.tables e below (T50.setTop (mkF m 212 #[.val (.int qa), .val (.int qb), .val (.int qx), .val (.int qy), .val (.int (Int32.ofNat r)), .val (.int (Int32.ofNat p0)), .val (.int (Int32.ofNat q0)), .val (.int (Int32.ofNat s0)), .val (.int (Int32.ofNat t0)), .val (.ref b7), .val (.ref b18), .val (.ref b25), .val (.ref b32), .val (.int (Int32.ofNat 0)), .val (.int (Int32.ofNat 3)), .val (.int (0 : Int32)), .val (.int (3 : Int32)), .val (.int (5 : Int32)), .val (.int (Int32.ofNat nd)), .val (.int (Int32.ofNat ro)), .val (.int (-1 : Int32)), .unset] [])) _
              refine XS.iconst X50.here hx rfl (hb hby at_212) ?_
              show Steps p.tables e below (T50.setTop (mkF m 213 #[.val (.int qa), .val (.int qb), .val (.int qx), .val (.int qy), .val (.int (Int32.ofNat r)), .val (.int (Int32.ofNat p0)), .val (.int (Int32.ofNat q0)), .val (.int (Int32.ofNat s0)), .val (.int (Int32.ofNat t0)), .val (.ref b7), .val (.ref b18), .val (.ref b25), .val (.ref b32), .val (.int (Int32.ofNat 0)), .val (.int (Int32.ofNat 3)), .val (.int (0 : Int32)), .val (.int (3 : Int32)), .val (.int (5 : Int32)), .val (.int (Int32.ofNat nd)), .val (.int (Int32.ofNat ro)), .val (.int (-1 : Int32)), .unset] [(.int (1 : Int32))])) _
              refine XS.istore X50.here hx rfl (hb hby at_213) rfl (l' := #[.val (.int qa), .val (.int qb), .val (.int qx), .val (.int qy), .val (.int (Int32.ofNat r)), .val (.int (Int32.ofNat p0)), .val (.int (Int32.ofNat q0)), .val (.int (Int32.ofNat s0)), .val (.int (Int32.ofNat t0)), .val (.ref b7), .val (.ref b18), .val (.ref b25), .val (.ref b32), .val (.int (Int32.ofNat 0)), .val (.int (Int32.ofNat 3)), .val (.int (0 : Int32)), .val (.int (3 : Int32)), .val (.int (5 : Int32)), .val (.int (Int32.ofNat nd)), .val (.int (Int32.ofNat ro)), .val (.int (1 : Int32)), .unset]) rfl ?_
              show Steps p.tables e below (T50.setTop (mkF m 215 #[.val (.int qa), .val (.int qb), .val (.int qx), .val (.int qy), .val (.int (Int32.ofNat r)), .val (.int (Int32.ofNat p0)), .val (.int (Int32.ofNat q0)), .val (.int (Int32.ofNat s0)), .val (.int (Int32.ofNat t0)), .val (.ref b7), .val (.ref b18), .val (.ref b25), .val (.ref b32), .val (.int (Int32.ofNat 0)), .val (.int (Int32.ofNat 3)), .val (.int (0 : Int32)), .val (.int (3 : Int32)), .val (.int (5 : Int32)), .val (.int (Int32.ofNat nd)), .val (.int (Int32.ofNat ro)), .val (.int (1 : Int32)), .unset] [])) _
              refine XS.goto X50.here hx rfl (pc0 := 215) (pc' := 275) rfl (hb hby at_215) (by decide) (by decide) ?_
              exact kt)
          exact ⟨(1 : Int32), (Or.inr ⟨by decide, (own_z24 r p0 q0 s0 t0 nd ro hr1 hr8 hlp0 hlq0 hls0 hlt0 hsp hlnd hlro hm59 hm62 F hF)⟩), pre63⟩
        · -- no at pc 209: ttf
          have hm64 : ¬ ro = p0 := fun q => hc209_61 (by first | exact congrArg Int32.ofNat q | (rw [q]; rfl))
          have pre65 : Goes p e below s₁ (entryFrame m #[(.int qa), (.int qb), (.int qx), (.int qy)] maxLocals) T50 (mkF m 275 #[.val (.int qa), .val (.int qb), .val (.int qx), .val (.int qy), .val (.int (Int32.ofNat r)), .val (.int (Int32.ofNat p0)), .val (.int (Int32.ofNat q0)), .val (.int (Int32.ofNat s0)), .val (.int (Int32.ofNat t0)), .val (.ref b7), .val (.ref b18), .val (.ref b25), .val (.ref b32), .val (.int (Int32.ofNat 0)), .val (.int (Int32.ofNat 3)), .val (.int (0 : Int32)), .val (.int (3 : Int32)), .val (.int (5 : Int32)), .val (.int (Int32.ofNat nd)), .val (.int (Int32.ofNat ro)), .val (.int (-1 : Int32)), .unset] []) := fun t kt => pre60 t (by
              show Steps p.tables e below (T50.setTop (mkF m 209 #[.val (.int qa), .val (.int qb), .val (.int qx), .val (.int qy), .val (.int (Int32.ofNat r)), .val (.int (Int32.ofNat p0)), .val (.int (Int32.ofNat q0)), .val (.int (Int32.ofNat s0)), .val (.int (Int32.ofNat t0)), .val (.ref b7), .val (.ref b18), .val (.ref b25), .val (.ref b32), .val (.int (Int32.ofNat 0)), .val (.int (Int32.ofNat 3)), .val (.int (0 : Int32)), .val (.int (3 : Int32)), .val (.int (5 : Int32)), .val (.int (Int32.ofNat nd)), .val (.int (Int32.ofNat ro)), .val (.int (-1 : Int32)), .unset] [(.int (Int32.ofNat p0)), (.int (Int32.ofNat ro))])) _
              refine XS.icmpYes X50.here hx rfl (pc0 := 209) (pc' := 218) rfl (hb hby at_209) rfl (feq hc209_61).2 (by decide) (by decide) ?_
              show Steps p.tables e below (T50.setTop (mkF m 218 #[.val (.int qa), .val (.int qb), .val (.int qx), .val (.int qy), .val (.int (Int32.ofNat r)), .val (.int (Int32.ofNat p0)), .val (.int (Int32.ofNat q0)), .val (.int (Int32.ofNat s0)), .val (.int (Int32.ofNat t0)), .val (.ref b7), .val (.ref b18), .val (.ref b25), .val (.ref b32), .val (.int (Int32.ofNat 0)), .val (.int (Int32.ofNat 3)), .val (.int (0 : Int32)), .val (.int (3 : Int32)), .val (.int (5 : Int32)), .val (.int (Int32.ofNat nd)), .val (.int (Int32.ofNat ro)), .val (.int (-1 : Int32)), .unset] [])) _
              refine XS.iload X50.here hx rfl (hb hby at_218) rfl ?_
              show Steps p.tables e below (T50.setTop (mkF m 220 #[.val (.int qa), .val (.int qb), .val (.int qx), .val (.int qy), .val (.int (Int32.ofNat r)), .val (.int (Int32.ofNat p0)), .val (.int (Int32.ofNat q0)), .val (.int (Int32.ofNat s0)), .val (.int (Int32.ofNat t0)), .val (.ref b7), .val (.ref b18), .val (.ref b25), .val (.ref b32), .val (.int (Int32.ofNat 0)), .val (.int (Int32.ofNat 3)), .val (.int (0 : Int32)), .val (.int (3 : Int32)), .val (.int (5 : Int32)), .val (.int (Int32.ofNat nd)), .val (.int (Int32.ofNat ro)), .val (.int (-1 : Int32)), .unset] [(.int (0 : Int32))])) _
              refine XS.ifYes X50.here hx rfl (pc0 := 220) (pc' := 275) rfl (hb hby at_220) rfl ((if0 _ _).trans (teq (by decide : (0 : Int32) = (0 : Int32))).1) (by decide) (by decide) ?_
              exact kt)
          exact ⟨(-1 : Int32), (Or.inl ⟨rfl, (own_z25 r p0 q0 s0 t0 nd ro hr1 hr8 hlp0 hlq0 hls0 hlt0 hsp hlnd hlro hm59 hm64 F hF)⟩), pre65⟩
      · -- no at pc 202: tt
        have hm66 : ¬ nd = 0 := fun q => hc202_58 (by first | exact congrArg Int32.ofNat q | (rw [q]; rfl))
        have pre67 : Goes p e below s₁ (entryFrame m #[(.int qa), (.int qb), (.int qx), (.int qy)] maxLocals) T50 (mkF m 239 #[.val (.int qa), .val (.int qb), .val (.int qx), .val (.int qy), .val (.int (Int32.ofNat r)), .val (.int (Int32.ofNat p0)), .val (.int (Int32.ofNat q0)), .val (.int (Int32.ofNat s0)), .val (.int (Int32.ofNat t0)), .val (.ref b7), .val (.ref b18), .val (.ref b25), .val (.ref b32), .val (.int (Int32.ofNat 0)), .val (.int (Int32.ofNat 3)), .val (.int (0 : Int32)), .val (.int (3 : Int32)), .val (.int (5 : Int32)), .val (.int (Int32.ofNat nd)), .val (.int (Int32.ofNat ro)), .val (.int (-1 : Int32)), .unset] [(.int (1 : Int32)), (.int (Int32.ofNat nd))]) := fun t kt => pre57 t (by
            show Steps p.tables e below (T50.setTop (mkF m 202 #[.val (.int qa), .val (.int qb), .val (.int qx), .val (.int qy), .val (.int (Int32.ofNat r)), .val (.int (Int32.ofNat p0)), .val (.int (Int32.ofNat q0)), .val (.int (Int32.ofNat s0)), .val (.int (Int32.ofNat t0)), .val (.ref b7), .val (.ref b18), .val (.ref b25), .val (.ref b32), .val (.int (Int32.ofNat 0)), .val (.int (Int32.ofNat 3)), .val (.int (0 : Int32)), .val (.int (3 : Int32)), .val (.int (5 : Int32)), .val (.int (Int32.ofNat nd)), .val (.int (Int32.ofNat ro)), .val (.int (-1 : Int32)), .unset] [(.int (Int32.ofNat nd))])) _
            refine XS.ifYes X50.here hx rfl (pc0 := 202) (pc' := 236) rfl (hb hby at_202) rfl ((if0 _ _).trans (feq hc202_58).2) (by decide) (by decide) ?_
            show Steps p.tables e below (T50.setTop (mkF m 236 #[.val (.int qa), .val (.int qb), .val (.int qx), .val (.int qy), .val (.int (Int32.ofNat r)), .val (.int (Int32.ofNat p0)), .val (.int (Int32.ofNat q0)), .val (.int (Int32.ofNat s0)), .val (.int (Int32.ofNat t0)), .val (.ref b7), .val (.ref b18), .val (.ref b25), .val (.ref b32), .val (.int (Int32.ofNat 0)), .val (.int (Int32.ofNat 3)), .val (.int (0 : Int32)), .val (.int (3 : Int32)), .val (.int (5 : Int32)), .val (.int (Int32.ofNat nd)), .val (.int (Int32.ofNat ro)), .val (.int (-1 : Int32)), .unset] [])) _
            refine XS.iload X50.here hx rfl (hb hby at_236) rfl ?_
            show Steps p.tables e below (T50.setTop (mkF m 238 #[.val (.int qa), .val (.int qb), .val (.int qx), .val (.int qy), .val (.int (Int32.ofNat r)), .val (.int (Int32.ofNat p0)), .val (.int (Int32.ofNat q0)), .val (.int (Int32.ofNat s0)), .val (.int (Int32.ofNat t0)), .val (.ref b7), .val (.ref b18), .val (.ref b25), .val (.ref b32), .val (.int (Int32.ofNat 0)), .val (.int (Int32.ofNat 3)), .val (.int (0 : Int32)), .val (.int (3 : Int32)), .val (.int (5 : Int32)), .val (.int (Int32.ofNat nd)), .val (.int (Int32.ofNat ro)), .val (.int (-1 : Int32)), .unset] [(.int (Int32.ofNat nd))])) _
            refine XS.iconst X50.here hx rfl (hb hby at_238) ?_
            exact kt)
        by_cases hc239_68 : (Int32.ofNat nd) = (1 : Int32)
        · -- yes at pc 239: ttt
          have hm69 : nd = 1 := own_inj (by omega) (by omega) hc239_68
          have pre70 : Goes p e below s₁ (entryFrame m #[(.int qa), (.int qb), (.int qx), (.int qy)] maxLocals) T50 (mkF m 246 #[.val (.int qa), .val (.int qb), .val (.int qx), .val (.int qy), .val (.int (Int32.ofNat r)), .val (.int (Int32.ofNat p0)), .val (.int (Int32.ofNat q0)), .val (.int (Int32.ofNat s0)), .val (.int (Int32.ofNat t0)), .val (.ref b7), .val (.ref b18), .val (.ref b25), .val (.ref b32), .val (.int (Int32.ofNat 0)), .val (.int (Int32.ofNat 3)), .val (.int (0 : Int32)), .val (.int (3 : Int32)), .val (.int (5 : Int32)), .val (.int (Int32.ofNat nd)), .val (.int (Int32.ofNat ro)), .val (.int (-1 : Int32)), .unset] [(.int (Int32.ofNat q0)), (.int (Int32.ofNat ro))]) := fun t kt => pre67 t (by
              show Steps p.tables e below (T50.setTop (mkF m 239 #[.val (.int qa), .val (.int qb), .val (.int qx), .val (.int qy), .val (.int (Int32.ofNat r)), .val (.int (Int32.ofNat p0)), .val (.int (Int32.ofNat q0)), .val (.int (Int32.ofNat s0)), .val (.int (Int32.ofNat t0)), .val (.ref b7), .val (.ref b18), .val (.ref b25), .val (.ref b32), .val (.int (Int32.ofNat 0)), .val (.int (Int32.ofNat 3)), .val (.int (0 : Int32)), .val (.int (3 : Int32)), .val (.int (5 : Int32)), .val (.int (Int32.ofNat nd)), .val (.int (Int32.ofNat ro)), .val (.int (-1 : Int32)), .unset] [(.int (1 : Int32)), (.int (Int32.ofNat nd))])) _
              refine XS.icmpNo X50.here hx rfl (hb hby at_239) rfl (teq hc239_68).2 ?_
              show Steps p.tables e below (T50.setTop (mkF m 242 #[.val (.int qa), .val (.int qb), .val (.int qx), .val (.int qy), .val (.int (Int32.ofNat r)), .val (.int (Int32.ofNat p0)), .val (.int (Int32.ofNat q0)), .val (.int (Int32.ofNat s0)), .val (.int (Int32.ofNat t0)), .val (.ref b7), .val (.ref b18), .val (.ref b25), .val (.ref b32), .val (.int (Int32.ofNat 0)), .val (.int (Int32.ofNat 3)), .val (.int (0 : Int32)), .val (.int (3 : Int32)), .val (.int (5 : Int32)), .val (.int (Int32.ofNat nd)), .val (.int (Int32.ofNat ro)), .val (.int (-1 : Int32)), .unset] [])) _
              refine XS.iload X50.here hx rfl (hb hby at_242) rfl ?_
              show Steps p.tables e below (T50.setTop (mkF m 244 #[.val (.int qa), .val (.int qb), .val (.int qx), .val (.int qy), .val (.int (Int32.ofNat r)), .val (.int (Int32.ofNat p0)), .val (.int (Int32.ofNat q0)), .val (.int (Int32.ofNat s0)), .val (.int (Int32.ofNat t0)), .val (.ref b7), .val (.ref b18), .val (.ref b25), .val (.ref b32), .val (.int (Int32.ofNat 0)), .val (.int (Int32.ofNat 3)), .val (.int (0 : Int32)), .val (.int (3 : Int32)), .val (.int (5 : Int32)), .val (.int (Int32.ofNat nd)), .val (.int (Int32.ofNat ro)), .val (.int (-1 : Int32)), .unset] [(.int (Int32.ofNat ro))])) _
              refine XS.iload X50.here hx rfl (hb hby at_244) rfl ?_
              exact kt)
          by_cases hc246_71 : (Int32.ofNat ro) = (Int32.ofNat q0)
          · -- yes at pc 246: tttf
            have hm72 : ro = q0 := own_inj (by omega) (by omega) hc246_71
            have pre73 : Goes p e below s₁ (entryFrame m #[(.int qa), (.int qb), (.int qx), (.int qy)] maxLocals) T50 (mkF m 275 #[.val (.int qa), .val (.int qb), .val (.int qx), .val (.int qy), .val (.int (Int32.ofNat r)), .val (.int (Int32.ofNat p0)), .val (.int (Int32.ofNat q0)), .val (.int (Int32.ofNat s0)), .val (.int (Int32.ofNat t0)), .val (.ref b7), .val (.ref b18), .val (.ref b25), .val (.ref b32), .val (.int (Int32.ofNat 0)), .val (.int (Int32.ofNat 3)), .val (.int (0 : Int32)), .val (.int (3 : Int32)), .val (.int (5 : Int32)), .val (.int (Int32.ofNat nd)), .val (.int (Int32.ofNat ro)), .val (.int (2 : Int32)), .unset] []) := fun t kt => pre70 t (by
                show Steps p.tables e below (T50.setTop (mkF m 246 #[.val (.int qa), .val (.int qb), .val (.int qx), .val (.int qy), .val (.int (Int32.ofNat r)), .val (.int (Int32.ofNat p0)), .val (.int (Int32.ofNat q0)), .val (.int (Int32.ofNat s0)), .val (.int (Int32.ofNat t0)), .val (.ref b7), .val (.ref b18), .val (.ref b25), .val (.ref b32), .val (.int (Int32.ofNat 0)), .val (.int (Int32.ofNat 3)), .val (.int (0 : Int32)), .val (.int (3 : Int32)), .val (.int (5 : Int32)), .val (.int (Int32.ofNat nd)), .val (.int (Int32.ofNat ro)), .val (.int (-1 : Int32)), .unset] [(.int (Int32.ofNat q0)), (.int (Int32.ofNat ro))])) _
                refine XS.icmpNo X50.here hx rfl (hb hby at_246) rfl (teq hc246_71).2 ?_
                show Steps p.tables e below (T50.setTop (mkF m 249 #[.val (.int qa), .val (.int qb), .val (.int qx), .val (.int qy), .val (.int (Int32.ofNat r)), .val (.int (Int32.ofNat p0)), .val (.int (Int32.ofNat q0)), .val (.int (Int32.ofNat s0)), .val (.int (Int32.ofNat t0)), .val (.ref b7), .val (.ref b18), .val (.ref b25), .val (.ref b32), .val (.int (Int32.ofNat 0)), .val (.int (Int32.ofNat 3)), .val (.int (0 : Int32)), .val (.int (3 : Int32)), .val (.int (5 : Int32)), .val (.int (Int32.ofNat nd)), .val (.int (Int32.ofNat ro)), .val (.int (-1 : Int32)), .unset] [])) _
                refine XS.iconst X50.here hx rfl (hb hby at_249) ?_
                show Steps p.tables e below (T50.setTop (mkF m 250 #[.val (.int qa), .val (.int qb), .val (.int qx), .val (.int qy), .val (.int (Int32.ofNat r)), .val (.int (Int32.ofNat p0)), .val (.int (Int32.ofNat q0)), .val (.int (Int32.ofNat s0)), .val (.int (Int32.ofNat t0)), .val (.ref b7), .val (.ref b18), .val (.ref b25), .val (.ref b32), .val (.int (Int32.ofNat 0)), .val (.int (Int32.ofNat 3)), .val (.int (0 : Int32)), .val (.int (3 : Int32)), .val (.int (5 : Int32)), .val (.int (Int32.ofNat nd)), .val (.int (Int32.ofNat ro)), .val (.int (-1 : Int32)), .unset] [(.int (2 : Int32))])) _
                refine XS.istore X50.here hx rfl (hb hby at_250) rfl (l' := #[.val (.int qa), .val (.int qb), .val (.int qx), .val (.int qy), .val (.int (Int32.ofNat r)), .val (.int (Int32.ofNat p0)), .val (.int (Int32.ofNat q0)), .val (.int (Int32.ofNat s0)), .val (.int (Int32.ofNat t0)), .val (.ref b7), .val (.ref b18), .val (.ref b25), .val (.ref b32), .val (.int (Int32.ofNat 0)), .val (.int (Int32.ofNat 3)), .val (.int (0 : Int32)), .val (.int (3 : Int32)), .val (.int (5 : Int32)), .val (.int (Int32.ofNat nd)), .val (.int (Int32.ofNat ro)), .val (.int (2 : Int32)), .unset]) rfl ?_
                show Steps p.tables e below (T50.setTop (mkF m 252 #[.val (.int qa), .val (.int qb), .val (.int qx), .val (.int qy), .val (.int (Int32.ofNat r)), .val (.int (Int32.ofNat p0)), .val (.int (Int32.ofNat q0)), .val (.int (Int32.ofNat s0)), .val (.int (Int32.ofNat t0)), .val (.ref b7), .val (.ref b18), .val (.ref b25), .val (.ref b32), .val (.int (Int32.ofNat 0)), .val (.int (Int32.ofNat 3)), .val (.int (0 : Int32)), .val (.int (3 : Int32)), .val (.int (5 : Int32)), .val (.int (Int32.ofNat nd)), .val (.int (Int32.ofNat ro)), .val (.int (2 : Int32)), .unset] [])) _
                refine XS.goto X50.here hx rfl (pc0 := 252) (pc' := 275) rfl (hb hby at_252) (by decide) (by decide) ?_
                exact kt)
            exact ⟨(2 : Int32), (Or.inr ⟨by decide, (own_z26 r p0 q0 s0 t0 nd ro hr1 hr8 hlp0 hlq0 hls0 hlt0 hsp hlnd hlro hm66 hm69 hm72 F hF)⟩), pre73⟩
          · -- no at pc 246: tttf
            have hm74 : ¬ ro = q0 := fun q => hc246_71 (by first | exact congrArg Int32.ofNat q | (rw [q]; rfl))
            have pre75 : Goes p e below s₁ (entryFrame m #[(.int qa), (.int qb), (.int qx), (.int qy)] maxLocals) T50 (mkF m 275 #[.val (.int qa), .val (.int qb), .val (.int qx), .val (.int qy), .val (.int (Int32.ofNat r)), .val (.int (Int32.ofNat p0)), .val (.int (Int32.ofNat q0)), .val (.int (Int32.ofNat s0)), .val (.int (Int32.ofNat t0)), .val (.ref b7), .val (.ref b18), .val (.ref b25), .val (.ref b32), .val (.int (Int32.ofNat 0)), .val (.int (Int32.ofNat 3)), .val (.int (0 : Int32)), .val (.int (3 : Int32)), .val (.int (5 : Int32)), .val (.int (Int32.ofNat nd)), .val (.int (Int32.ofNat ro)), .val (.int (-1 : Int32)), .unset] []) := fun t kt => pre70 t (by
                show Steps p.tables e below (T50.setTop (mkF m 246 #[.val (.int qa), .val (.int qb), .val (.int qx), .val (.int qy), .val (.int (Int32.ofNat r)), .val (.int (Int32.ofNat p0)), .val (.int (Int32.ofNat q0)), .val (.int (Int32.ofNat s0)), .val (.int (Int32.ofNat t0)), .val (.ref b7), .val (.ref b18), .val (.ref b25), .val (.ref b32), .val (.int (Int32.ofNat 0)), .val (.int (Int32.ofNat 3)), .val (.int (0 : Int32)), .val (.int (3 : Int32)), .val (.int (5 : Int32)), .val (.int (Int32.ofNat nd)), .val (.int (Int32.ofNat ro)), .val (.int (-1 : Int32)), .unset] [(.int (Int32.ofNat q0)), (.int (Int32.ofNat ro))])) _
                refine XS.icmpYes X50.here hx rfl (pc0 := 246) (pc' := 275) rfl (hb hby at_246) rfl (feq hc246_71).2 (by decide) (by decide) ?_
                exact kt)
            exact ⟨(-1 : Int32), (Or.inl ⟨rfl, (own_z27 r p0 q0 s0 t0 nd ro hr1 hr8 hlp0 hlq0 hls0 hlt0 hsp hlnd hlro hm66 hm69 hm74 F hF)⟩), pre75⟩
        · -- no at pc 239: ttt
          have hm76 : ¬ nd = 1 := fun q => hc239_68 (by first | exact congrArg Int32.ofNat q | (rw [q]; rfl))
          have pre77 : Goes p e below s₁ (entryFrame m #[(.int qa), (.int qb), (.int qx), (.int qy)] maxLocals) T50 (mkF m 259 #[.val (.int qa), .val (.int qb), .val (.int qx), .val (.int qy), .val (.int (Int32.ofNat r)), .val (.int (Int32.ofNat p0)), .val (.int (Int32.ofNat q0)), .val (.int (Int32.ofNat s0)), .val (.int (Int32.ofNat t0)), .val (.ref b7), .val (.ref b18), .val (.ref b25), .val (.ref b32), .val (.int (Int32.ofNat 0)), .val (.int (Int32.ofNat 3)), .val (.int (0 : Int32)), .val (.int (3 : Int32)), .val (.int (5 : Int32)), .val (.int (Int32.ofNat nd)), .val (.int (Int32.ofNat ro)), .val (.int (-1 : Int32)), .unset] [(.int (3 : Int32)), (.int (Int32.ofNat nd))]) := fun t kt => pre67 t (by
              show Steps p.tables e below (T50.setTop (mkF m 239 #[.val (.int qa), .val (.int qb), .val (.int qx), .val (.int qy), .val (.int (Int32.ofNat r)), .val (.int (Int32.ofNat p0)), .val (.int (Int32.ofNat q0)), .val (.int (Int32.ofNat s0)), .val (.int (Int32.ofNat t0)), .val (.ref b7), .val (.ref b18), .val (.ref b25), .val (.ref b32), .val (.int (Int32.ofNat 0)), .val (.int (Int32.ofNat 3)), .val (.int (0 : Int32)), .val (.int (3 : Int32)), .val (.int (5 : Int32)), .val (.int (Int32.ofNat nd)), .val (.int (Int32.ofNat ro)), .val (.int (-1 : Int32)), .unset] [(.int (1 : Int32)), (.int (Int32.ofNat nd))])) _
              refine XS.icmpYes X50.here hx rfl (pc0 := 239) (pc' := 255) rfl (hb hby at_239) rfl (feq hc239_68).2 (by decide) (by decide) ?_
              show Steps p.tables e below (T50.setTop (mkF m 255 #[.val (.int qa), .val (.int qb), .val (.int qx), .val (.int qy), .val (.int (Int32.ofNat r)), .val (.int (Int32.ofNat p0)), .val (.int (Int32.ofNat q0)), .val (.int (Int32.ofNat s0)), .val (.int (Int32.ofNat t0)), .val (.ref b7), .val (.ref b18), .val (.ref b25), .val (.ref b32), .val (.int (Int32.ofNat 0)), .val (.int (Int32.ofNat 3)), .val (.int (0 : Int32)), .val (.int (3 : Int32)), .val (.int (5 : Int32)), .val (.int (Int32.ofNat nd)), .val (.int (Int32.ofNat ro)), .val (.int (-1 : Int32)), .unset] [])) _
              refine XS.iload X50.here hx rfl (hb hby at_255) rfl ?_
              show Steps p.tables e below (T50.setTop (mkF m 257 #[.val (.int qa), .val (.int qb), .val (.int qx), .val (.int qy), .val (.int (Int32.ofNat r)), .val (.int (Int32.ofNat p0)), .val (.int (Int32.ofNat q0)), .val (.int (Int32.ofNat s0)), .val (.int (Int32.ofNat t0)), .val (.ref b7), .val (.ref b18), .val (.ref b25), .val (.ref b32), .val (.int (Int32.ofNat 0)), .val (.int (Int32.ofNat 3)), .val (.int (0 : Int32)), .val (.int (3 : Int32)), .val (.int (5 : Int32)), .val (.int (Int32.ofNat nd)), .val (.int (Int32.ofNat ro)), .val (.int (-1 : Int32)), .unset] [(.int (Int32.ofNat nd))])) _
              refine XS.iload X50.here hx rfl (hb hby at_257) rfl ?_
              exact kt)
          by_cases hc259_78 : (Int32.ofNat nd) = (3 : Int32)
          · -- yes at pc 259: tttt
            have hm79 : nd = 3 := own_inj (by omega) (by omega) hc259_78
            have pre80 : Goes p e below s₁ (entryFrame m #[(.int qa), (.int qb), (.int qx), (.int qy)] maxLocals) T50 (mkF m 266 #[.val (.int qa), .val (.int qb), .val (.int qx), .val (.int qy), .val (.int (Int32.ofNat r)), .val (.int (Int32.ofNat p0)), .val (.int (Int32.ofNat q0)), .val (.int (Int32.ofNat s0)), .val (.int (Int32.ofNat t0)), .val (.ref b7), .val (.ref b18), .val (.ref b25), .val (.ref b32), .val (.int (Int32.ofNat 0)), .val (.int (Int32.ofNat 3)), .val (.int (0 : Int32)), .val (.int (3 : Int32)), .val (.int (5 : Int32)), .val (.int (Int32.ofNat nd)), .val (.int (Int32.ofNat ro)), .val (.int (-1 : Int32)), .unset] [(.int (Int32.ofNat t0)), (.int (Int32.ofNat ro))]) := fun t kt => pre77 t (by
                show Steps p.tables e below (T50.setTop (mkF m 259 #[.val (.int qa), .val (.int qb), .val (.int qx), .val (.int qy), .val (.int (Int32.ofNat r)), .val (.int (Int32.ofNat p0)), .val (.int (Int32.ofNat q0)), .val (.int (Int32.ofNat s0)), .val (.int (Int32.ofNat t0)), .val (.ref b7), .val (.ref b18), .val (.ref b25), .val (.ref b32), .val (.int (Int32.ofNat 0)), .val (.int (Int32.ofNat 3)), .val (.int (0 : Int32)), .val (.int (3 : Int32)), .val (.int (5 : Int32)), .val (.int (Int32.ofNat nd)), .val (.int (Int32.ofNat ro)), .val (.int (-1 : Int32)), .unset] [(.int (3 : Int32)), (.int (Int32.ofNat nd))])) _
                refine XS.icmpNo X50.here hx rfl (hb hby at_259) rfl (teq hc259_78).2 ?_
                show Steps p.tables e below (T50.setTop (mkF m 262 #[.val (.int qa), .val (.int qb), .val (.int qx), .val (.int qy), .val (.int (Int32.ofNat r)), .val (.int (Int32.ofNat p0)), .val (.int (Int32.ofNat q0)), .val (.int (Int32.ofNat s0)), .val (.int (Int32.ofNat t0)), .val (.ref b7), .val (.ref b18), .val (.ref b25), .val (.ref b32), .val (.int (Int32.ofNat 0)), .val (.int (Int32.ofNat 3)), .val (.int (0 : Int32)), .val (.int (3 : Int32)), .val (.int (5 : Int32)), .val (.int (Int32.ofNat nd)), .val (.int (Int32.ofNat ro)), .val (.int (-1 : Int32)), .unset] [])) _
                refine XS.iload X50.here hx rfl (hb hby at_262) rfl ?_
                show Steps p.tables e below (T50.setTop (mkF m 264 #[.val (.int qa), .val (.int qb), .val (.int qx), .val (.int qy), .val (.int (Int32.ofNat r)), .val (.int (Int32.ofNat p0)), .val (.int (Int32.ofNat q0)), .val (.int (Int32.ofNat s0)), .val (.int (Int32.ofNat t0)), .val (.ref b7), .val (.ref b18), .val (.ref b25), .val (.ref b32), .val (.int (Int32.ofNat 0)), .val (.int (Int32.ofNat 3)), .val (.int (0 : Int32)), .val (.int (3 : Int32)), .val (.int (5 : Int32)), .val (.int (Int32.ofNat nd)), .val (.int (Int32.ofNat ro)), .val (.int (-1 : Int32)), .unset] [(.int (Int32.ofNat ro))])) _
                refine XS.iload X50.here hx rfl (hb hby at_264) rfl ?_
                exact kt)
            by_cases hc266_81 : (Int32.ofNat ro) = (Int32.ofNat t0)
            · -- yes at pc 266: ttttf
              have hm82 : ro = t0 := own_inj (by omega) (by omega) hc266_81
              have pre83 : Goes p e below s₁ (entryFrame m #[(.int qa), (.int qb), (.int qx), (.int qy)] maxLocals) T50 (mkF m 275 #[.val (.int qa), .val (.int qb), .val (.int qx), .val (.int qy), .val (.int (Int32.ofNat r)), .val (.int (Int32.ofNat p0)), .val (.int (Int32.ofNat q0)), .val (.int (Int32.ofNat s0)), .val (.int (Int32.ofNat t0)), .val (.ref b7), .val (.ref b18), .val (.ref b25), .val (.ref b32), .val (.int (Int32.ofNat 0)), .val (.int (Int32.ofNat 3)), .val (.int (0 : Int32)), .val (.int (3 : Int32)), .val (.int (5 : Int32)), .val (.int (Int32.ofNat nd)), .val (.int (Int32.ofNat ro)), .val (.int (4 : Int32)), .unset] []) := fun t kt => pre80 t (by
                  show Steps p.tables e below (T50.setTop (mkF m 266 #[.val (.int qa), .val (.int qb), .val (.int qx), .val (.int qy), .val (.int (Int32.ofNat r)), .val (.int (Int32.ofNat p0)), .val (.int (Int32.ofNat q0)), .val (.int (Int32.ofNat s0)), .val (.int (Int32.ofNat t0)), .val (.ref b7), .val (.ref b18), .val (.ref b25), .val (.ref b32), .val (.int (Int32.ofNat 0)), .val (.int (Int32.ofNat 3)), .val (.int (0 : Int32)), .val (.int (3 : Int32)), .val (.int (5 : Int32)), .val (.int (Int32.ofNat nd)), .val (.int (Int32.ofNat ro)), .val (.int (-1 : Int32)), .unset] [(.int (Int32.ofNat t0)), (.int (Int32.ofNat ro))])) _
                  refine XS.icmpNo X50.here hx rfl (hb hby at_266) rfl (teq hc266_81).2 ?_
                  show Steps p.tables e below (T50.setTop (mkF m 269 #[.val (.int qa), .val (.int qb), .val (.int qx), .val (.int qy), .val (.int (Int32.ofNat r)), .val (.int (Int32.ofNat p0)), .val (.int (Int32.ofNat q0)), .val (.int (Int32.ofNat s0)), .val (.int (Int32.ofNat t0)), .val (.ref b7), .val (.ref b18), .val (.ref b25), .val (.ref b32), .val (.int (Int32.ofNat 0)), .val (.int (Int32.ofNat 3)), .val (.int (0 : Int32)), .val (.int (3 : Int32)), .val (.int (5 : Int32)), .val (.int (Int32.ofNat nd)), .val (.int (Int32.ofNat ro)), .val (.int (-1 : Int32)), .unset] [])) _
                  refine XS.iload X50.here hx rfl (hb hby at_269) rfl ?_
                  show Steps p.tables e below (T50.setTop (mkF m 271 #[.val (.int qa), .val (.int qb), .val (.int qx), .val (.int qy), .val (.int (Int32.ofNat r)), .val (.int (Int32.ofNat p0)), .val (.int (Int32.ofNat q0)), .val (.int (Int32.ofNat s0)), .val (.int (Int32.ofNat t0)), .val (.ref b7), .val (.ref b18), .val (.ref b25), .val (.ref b32), .val (.int (Int32.ofNat 0)), .val (.int (Int32.ofNat 3)), .val (.int (0 : Int32)), .val (.int (3 : Int32)), .val (.int (5 : Int32)), .val (.int (Int32.ofNat nd)), .val (.int (Int32.ofNat ro)), .val (.int (-1 : Int32)), .unset] [(.int (3 : Int32))])) _
                  refine XS.iconst X50.here hx rfl (hb hby at_271) ?_
                  show Steps p.tables e below (T50.setTop (mkF m 272 #[.val (.int qa), .val (.int qb), .val (.int qx), .val (.int qy), .val (.int (Int32.ofNat r)), .val (.int (Int32.ofNat p0)), .val (.int (Int32.ofNat q0)), .val (.int (Int32.ofNat s0)), .val (.int (Int32.ofNat t0)), .val (.ref b7), .val (.ref b18), .val (.ref b25), .val (.ref b32), .val (.int (Int32.ofNat 0)), .val (.int (Int32.ofNat 3)), .val (.int (0 : Int32)), .val (.int (3 : Int32)), .val (.int (5 : Int32)), .val (.int (Int32.ofNat nd)), .val (.int (Int32.ofNat ro)), .val (.int (-1 : Int32)), .unset] [(.int (1 : Int32)), (.int (3 : Int32))])) _
                  refine XS.iadd X50.here hx rfl (hb hby at_272) rfl ?_
                  show Steps p.tables e below (T50.setTop (mkF m 273 #[.val (.int qa), .val (.int qb), .val (.int qx), .val (.int qy), .val (.int (Int32.ofNat r)), .val (.int (Int32.ofNat p0)), .val (.int (Int32.ofNat q0)), .val (.int (Int32.ofNat s0)), .val (.int (Int32.ofNat t0)), .val (.ref b7), .val (.ref b18), .val (.ref b25), .val (.ref b32), .val (.int (Int32.ofNat 0)), .val (.int (Int32.ofNat 3)), .val (.int (0 : Int32)), .val (.int (3 : Int32)), .val (.int (5 : Int32)), .val (.int (Int32.ofNat nd)), .val (.int (Int32.ofNat ro)), .val (.int (-1 : Int32)), .unset] [(.int (4 : Int32))])) _
                  refine XS.istore X50.here hx rfl (hb hby at_273) rfl (l' := #[.val (.int qa), .val (.int qb), .val (.int qx), .val (.int qy), .val (.int (Int32.ofNat r)), .val (.int (Int32.ofNat p0)), .val (.int (Int32.ofNat q0)), .val (.int (Int32.ofNat s0)), .val (.int (Int32.ofNat t0)), .val (.ref b7), .val (.ref b18), .val (.ref b25), .val (.ref b32), .val (.int (Int32.ofNat 0)), .val (.int (Int32.ofNat 3)), .val (.int (0 : Int32)), .val (.int (3 : Int32)), .val (.int (5 : Int32)), .val (.int (Int32.ofNat nd)), .val (.int (Int32.ofNat ro)), .val (.int (4 : Int32)), .unset]) rfl ?_
                  exact kt)
              exact ⟨(4 : Int32), (Or.inr ⟨by decide, (own_z28 r p0 q0 s0 t0 nd ro hr1 hr8 hlp0 hlq0 hls0 hlt0 hsp hlnd hlro hm66 hm76 hm79 hm82 F hF)⟩), pre83⟩
            · -- no at pc 266: ttttf
              have hm84 : ¬ ro = t0 := fun q => hc266_81 (by first | exact congrArg Int32.ofNat q | (rw [q]; rfl))
              have pre85 : Goes p e below s₁ (entryFrame m #[(.int qa), (.int qb), (.int qx), (.int qy)] maxLocals) T50 (mkF m 275 #[.val (.int qa), .val (.int qb), .val (.int qx), .val (.int qy), .val (.int (Int32.ofNat r)), .val (.int (Int32.ofNat p0)), .val (.int (Int32.ofNat q0)), .val (.int (Int32.ofNat s0)), .val (.int (Int32.ofNat t0)), .val (.ref b7), .val (.ref b18), .val (.ref b25), .val (.ref b32), .val (.int (Int32.ofNat 0)), .val (.int (Int32.ofNat 3)), .val (.int (0 : Int32)), .val (.int (3 : Int32)), .val (.int (5 : Int32)), .val (.int (Int32.ofNat nd)), .val (.int (Int32.ofNat ro)), .val (.int (-1 : Int32)), .unset] []) := fun t kt => pre80 t (by
                  show Steps p.tables e below (T50.setTop (mkF m 266 #[.val (.int qa), .val (.int qb), .val (.int qx), .val (.int qy), .val (.int (Int32.ofNat r)), .val (.int (Int32.ofNat p0)), .val (.int (Int32.ofNat q0)), .val (.int (Int32.ofNat s0)), .val (.int (Int32.ofNat t0)), .val (.ref b7), .val (.ref b18), .val (.ref b25), .val (.ref b32), .val (.int (Int32.ofNat 0)), .val (.int (Int32.ofNat 3)), .val (.int (0 : Int32)), .val (.int (3 : Int32)), .val (.int (5 : Int32)), .val (.int (Int32.ofNat nd)), .val (.int (Int32.ofNat ro)), .val (.int (-1 : Int32)), .unset] [(.int (Int32.ofNat t0)), (.int (Int32.ofNat ro))])) _
                  refine XS.icmpYes X50.here hx rfl (pc0 := 266) (pc' := 275) rfl (hb hby at_266) rfl (feq hc266_81).2 (by decide) (by decide) ?_
                  exact kt)
              exact ⟨(-1 : Int32), (Or.inl ⟨rfl, (own_z29 r p0 q0 s0 t0 nd ro hr1 hr8 hlp0 hlq0 hls0 hlt0 hsp hlnd hlro hm66 hm76 hm79 hm84 F hF)⟩), pre85⟩
          · -- no at pc 259: tttt
            have hm86 : ¬ nd = 3 := fun q => hc259_78 (by first | exact congrArg Int32.ofNat q | (rw [q]; rfl))
            have pre87 : Goes p e below s₁ (entryFrame m #[(.int qa), (.int qb), (.int qx), (.int qy)] maxLocals) T50 (mkF m 275 #[.val (.int qa), .val (.int qb), .val (.int qx), .val (.int qy), .val (.int (Int32.ofNat r)), .val (.int (Int32.ofNat p0)), .val (.int (Int32.ofNat q0)), .val (.int (Int32.ofNat s0)), .val (.int (Int32.ofNat t0)), .val (.ref b7), .val (.ref b18), .val (.ref b25), .val (.ref b32), .val (.int (Int32.ofNat 0)), .val (.int (Int32.ofNat 3)), .val (.int (0 : Int32)), .val (.int (3 : Int32)), .val (.int (5 : Int32)), .val (.int (Int32.ofNat nd)), .val (.int (Int32.ofNat ro)), .val (.int (-1 : Int32)), .unset] []) := fun t kt => pre77 t (by
                show Steps p.tables e below (T50.setTop (mkF m 259 #[.val (.int qa), .val (.int qb), .val (.int qx), .val (.int qy), .val (.int (Int32.ofNat r)), .val (.int (Int32.ofNat p0)), .val (.int (Int32.ofNat q0)), .val (.int (Int32.ofNat s0)), .val (.int (Int32.ofNat t0)), .val (.ref b7), .val (.ref b18), .val (.ref b25), .val (.ref b32), .val (.int (Int32.ofNat 0)), .val (.int (Int32.ofNat 3)), .val (.int (0 : Int32)), .val (.int (3 : Int32)), .val (.int (5 : Int32)), .val (.int (Int32.ofNat nd)), .val (.int (Int32.ofNat ro)), .val (.int (-1 : Int32)), .unset] [(.int (3 : Int32)), (.int (Int32.ofNat nd))])) _
                refine XS.icmpYes X50.here hx rfl (pc0 := 259) (pc' := 275) rfl (hb hby at_259) rfl (feq hc259_78).2 (by decide) (by decide) ?_
                exact kt)
            exact ⟨(-1 : Int32), (Or.inl ⟨rfl, (own_z30 r p0 q0 s0 t0 nd ro hr1 hr8 hlp0 hlq0 hls0 hlt0 hsp hlnd hlro hm66 hm76 hm86 F hF)⟩), pre87⟩
    have pre88 : Goes p e below s₁ (entryFrame m #[(.int qa), (.int qb), (.int qx), (.int qy)] maxLocals) T50 (mkF m 281 #[.val (.int qa), .val (.int qb), .val (.int qx), .val (.int qy), .val (.int (Int32.ofNat r)), .val (.int (Int32.ofNat p0)), .val (.int (Int32.ofNat q0)), .val (.int (Int32.ofNat s0)), .val (.int (Int32.ofNat t0)), .val (.ref b7), .val (.ref b18), .val (.ref b25), .val (.ref b32), .val (.int (Int32.ofNat 0)), .val (.int (Int32.ofNat 3)), .val (.int (0 : Int32)), .val (.int (3 : Int32)), .val (.int (5 : Int32)), .val (.int (Int32.ofNat nd)), .val (.int (Int32.ofNat ro)), .val (.int ex), .unset] [(.int (Int32.ofNat ro)), (.int (Int32.ofNat nd)), (.ref b32)]) := fun t kt => pre56 t (by
        show Steps p.tables e below (T50.setTop (mkF m 275 #[.val (.int qa), .val (.int qb), .val (.int qx), .val (.int qy), .val (.int (Int32.ofNat r)), .val (.int (Int32.ofNat p0)), .val (.int (Int32.ofNat q0)), .val (.int (Int32.ofNat s0)), .val (.int (Int32.ofNat t0)), .val (.ref b7), .val (.ref b18), .val (.ref b25), .val (.ref b32), .val (.int (Int32.ofNat 0)), .val (.int (Int32.ofNat 3)), .val (.int (0 : Int32)), .val (.int (3 : Int32)), .val (.int (5 : Int32)), .val (.int (Int32.ofNat nd)), .val (.int (Int32.ofNat ro)), .val (.int ex), .unset] [])) _
        refine XS.aload X50.here hx rfl (hb hby at_275) rfl rfl ?_
        show Steps p.tables e below (T50.setTop (mkF m 277 #[.val (.int qa), .val (.int qb), .val (.int qx), .val (.int qy), .val (.int (Int32.ofNat r)), .val (.int (Int32.ofNat p0)), .val (.int (Int32.ofNat q0)), .val (.int (Int32.ofNat s0)), .val (.int (Int32.ofNat t0)), .val (.ref b7), .val (.ref b18), .val (.ref b25), .val (.ref b32), .val (.int (Int32.ofNat 0)), .val (.int (Int32.ofNat 3)), .val (.int (0 : Int32)), .val (.int (3 : Int32)), .val (.int (5 : Int32)), .val (.int (Int32.ofNat nd)), .val (.int (Int32.ofNat ro)), .val (.int ex), .unset] [(.ref b32)])) _
        refine XS.iload X50.here hx rfl (hb hby at_277) rfl ?_
        show Steps p.tables e below (T50.setTop (mkF m 279 #[.val (.int qa), .val (.int qb), .val (.int qx), .val (.int qy), .val (.int (Int32.ofNat r)), .val (.int (Int32.ofNat p0)), .val (.int (Int32.ofNat q0)), .val (.int (Int32.ofNat s0)), .val (.int (Int32.ofNat t0)), .val (.ref b7), .val (.ref b18), .val (.ref b25), .val (.ref b32), .val (.int (Int32.ofNat 0)), .val (.int (Int32.ofNat 3)), .val (.int (0 : Int32)), .val (.int (3 : Int32)), .val (.int (5 : Int32)), .val (.int (Int32.ofNat nd)), .val (.int (Int32.ofNat ro)), .val (.int ex), .unset] [(.int (Int32.ofNat nd)), (.ref b32)])) _
        refine XS.iload X50.here hx rfl (hb hby at_279) rfl ?_
        exact kt)
    obtain ⟨cq89, kq89, q89a, q89b, q89c⟩ := isOf hZ rfl (((((A32.keep K35q).keep K38q).keep K41q).keep K47q).keep K50q)
    obtain ⟨_, _, ⟨T89, L89, k89, n89⟩, -, X89, ⟨Lc89, hQ89, l89, y89, z89⟩, st89⟩ := X50.virtualBack hx (y := (⟨"com/example/unicept/unicept/WordTrie", "child", "(II)I"⟩ : MethodName)) (z := (⟨"com/example/unicept/unicept/WordTrie", "child", "(II)I"⟩ : MethodName)) hown (mvT hZ (hw _ (List.mem_of_getElem? (i := 53) rfl))) (mvT hZ (hw _ (List.mem_of_getElem? (i := 48) rfl))) (notFace_of_selects (args := #[]) (mvT hZ (hw _ (List.mem_of_getElem? (i := 50) rfl)))) (mvT hZ (hw _ (List.mem_of_getElem? (i := 50) rfl))) (mvT hZ (hw _ (List.mem_of_getElem? (i := 49) rfl))) (by decide) (backOf (W := 0) (own_child l Z a0 hw [] b32 r 5 ch F rt (own_up (own_up (own_up (own_up (own_up (fun _ => 0) 0 (Int32.ofNat 0)) 1 ((own_up (fun _ => 0) 0 (Int32.ofNat 0)) 0)) 2 ((own_up (own_up (fun _ => 0) 0 (Int32.ofNat 0)) 1 ((own_up (fun _ => 0) 0 (Int32.ofNat 0)) 0)) 1)) 3 (Int32.ofNat 3)) 4 ((own_up (own_up (own_up (own_up (fun _ => 0) 0 (Int32.ofNat 0)) 1 ((own_up (fun _ => 0) 0 (Int32.ofNat 0)) 0)) 2 ((own_up (own_up (fun _ => 0) 0 (Int32.ofNat 0)) 1 ((own_up (fun _ => 0) 0 (Int32.ofNat 0)) 0)) 1)) 3 (Int32.ofNat 3)) 3)) tg kt (List.replicate 16 .null) nd ro T50.heap n0 (Nat.le_trans (Nat.le_trans (Nat.le_trans (Nat.le_trans (Nat.le_trans (Nat.le_trans (Nat.le_trans (Nat.le_trans (Nat.le_trans (Nat.le_trans (Nat.le_trans (Nat.le_trans (Nat.le_trans Z0 E7.1) (Keep.of_wr W11).1) (Keep.of_wr W15).1) E18.1) (Keep.of_wr W22).1) E25.1) (Keep.of_wr W29).1) E32.1) K35q.1) K38q.1) K41q.1) K47q.1) K50q.1) hT50 hr8 (own_ix (k := 5) hlnd (by decide) hlro)) hZ (hw _ (List.mem_of_getElem? (i := 51) rfl)) (hw _ (List.mem_of_getElem? (i := 3) rfl)) (by decide) (by decide)) q89a q89c (g := (mkF m 281 #[.val (.int qa), .val (.int qb), .val (.int qx), .val (.int qy), .val (.int (Int32.ofNat r)), .val (.int (Int32.ofNat p0)), .val (.int (Int32.ofNat q0)), .val (.int (Int32.ofNat s0)), .val (.int (Int32.ofNat t0)), .val (.ref b7), .val (.ref b18), .val (.ref b25), .val (.ref b32), .val (.int (Int32.ofNat 0)), .val (.int (Int32.ofNat 3)), .val (.int (0 : Int32)), .val (.int (3 : Int32)), .val (.int (5 : Int32)), .val (.int (Int32.ofNat nd)), .val (.int (Int32.ofNat ro)), .val (.int ex), .unset] [(.int (Int32.ofNat ro)), (.int (Int32.ofNat nd)), (.ref b32)])) rfl (by rw [hml]; rfl) (Steps.refl _) (argsL := [(.int (Int32.ofNat nd)), (.int (Int32.ofNat ro))]) (rest := []) (lenOf own_pd3 rfl) rfl (by show 2 * 0 + _ ≤ _; exact Nat.le_of_eq rfl) (hb hby at_281) (fun _ _ => ⟨rfl, rfl, (by decide : 7 + 0 ≤ _), (by decide : 169 + 0 ≤ _)⟩)
    dsimp only [Pt.U, Pt.locs, Pt.cells, Pt.slots] at X89 l89 y89 z89 st89 hQ89
    subst l89 y89 z89
    obtain ⟨rfl, N89q, e89⟩ := hQ89
    have N89 := Fr.app N50 N89q
    have pre90 : Goes p e below s₁ (entryFrame m #[(.int qa), (.int qb), (.int qx), (.int qy)] maxLocals) T89 (mkF m 284 #[.val (.int qa), .val (.int qb), .val (.int qx), .val (.int qy), .val (.int (Int32.ofNat r)), .val (.int (Int32.ofNat p0)), .val (.int (Int32.ofNat q0)), .val (.int (Int32.ofNat s0)), .val (.int (Int32.ofNat t0)), .val (.ref b7), .val (.ref b18), .val (.ref b25), .val (.ref b32), .val (.int (Int32.ofNat 0)), .val (.int (Int32.ofNat 3)), .val (.int (0 : Int32)), .val (.int (3 : Int32)), .val (.int (5 : Int32)), .val (.int (Int32.ofNat nd)), .val (.int (Int32.ofNat ro)), .val (.int ex), .unset] [(.int (F (nd * r + ro)))]) := fun t kt => pre88 t (st89.trans kt)
    have pre91 : Goes p e below s₁ (entryFrame m #[(.int qa), (.int qb), (.int qx), (.int qy)] maxLocals) T89 (mkF m 288 #[.val (.int qa), .val (.int qb), .val (.int qx), .val (.int qy), .val (.int (Int32.ofNat r)), .val (.int (Int32.ofNat p0)), .val (.int (Int32.ofNat q0)), .val (.int (Int32.ofNat s0)), .val (.int (Int32.ofNat t0)), .val (.ref b7), .val (.ref b18), .val (.ref b25), .val (.ref b32), .val (.int (Int32.ofNat 0)), .val (.int (Int32.ofNat 3)), .val (.int (0 : Int32)), .val (.int (3 : Int32)), .val (.int (5 : Int32)), .val (.int (Int32.ofNat nd)), .val (.int (Int32.ofNat ro)), .val (.int ex), .val (.int (F (nd * r + ro)))] [(.int ex)]) := fun t kt => pre90 t (by
        show Steps p.tables e below (T89.setTop (mkF m 284 #[.val (.int qa), .val (.int qb), .val (.int qx), .val (.int qy), .val (.int (Int32.ofNat r)), .val (.int (Int32.ofNat p0)), .val (.int (Int32.ofNat q0)), .val (.int (Int32.ofNat s0)), .val (.int (Int32.ofNat t0)), .val (.ref b7), .val (.ref b18), .val (.ref b25), .val (.ref b32), .val (.int (Int32.ofNat 0)), .val (.int (Int32.ofNat 3)), .val (.int (0 : Int32)), .val (.int (3 : Int32)), .val (.int (5 : Int32)), .val (.int (Int32.ofNat nd)), .val (.int (Int32.ofNat ro)), .val (.int ex), .unset] [(.int (F (nd * r + ro)))])) _
        refine XS.istore X89.here hx rfl (hb hby at_284) rfl (l' := #[.val (.int qa), .val (.int qb), .val (.int qx), .val (.int qy), .val (.int (Int32.ofNat r)), .val (.int (Int32.ofNat p0)), .val (.int (Int32.ofNat q0)), .val (.int (Int32.ofNat s0)), .val (.int (Int32.ofNat t0)), .val (.ref b7), .val (.ref b18), .val (.ref b25), .val (.ref b32), .val (.int (Int32.ofNat 0)), .val (.int (Int32.ofNat 3)), .val (.int (0 : Int32)), .val (.int (3 : Int32)), .val (.int (5 : Int32)), .val (.int (Int32.ofNat nd)), .val (.int (Int32.ofNat ro)), .val (.int ex), .val (.int (F (nd * r + ro)))]) rfl ?_
        show Steps p.tables e below (T89.setTop (mkF m 286 #[.val (.int qa), .val (.int qb), .val (.int qx), .val (.int qy), .val (.int (Int32.ofNat r)), .val (.int (Int32.ofNat p0)), .val (.int (Int32.ofNat q0)), .val (.int (Int32.ofNat s0)), .val (.int (Int32.ofNat t0)), .val (.ref b7), .val (.ref b18), .val (.ref b25), .val (.ref b32), .val (.int (Int32.ofNat 0)), .val (.int (Int32.ofNat 3)), .val (.int (0 : Int32)), .val (.int (3 : Int32)), .val (.int (5 : Int32)), .val (.int (Int32.ofNat nd)), .val (.int (Int32.ofNat ro)), .val (.int ex), .val (.int (F (nd * r + ro)))] [])) _
        refine XS.iload X89.here hx rfl (hb hby at_286) rfl ?_
        exact kt)
    by_cases hc288_92 : ex < (0 : Int32)
    · -- yes at pc 288: tt
      have pre93 : Goes p e below s₁ (entryFrame m #[(.int qa), (.int qb), (.int qx), (.int qy)] maxLocals) T89 (mkF m 316 #[.val (.int qa), .val (.int qb), .val (.int qx), .val (.int qy), .val (.int (Int32.ofNat r)), .val (.int (Int32.ofNat p0)), .val (.int (Int32.ofNat q0)), .val (.int (Int32.ofNat s0)), .val (.int (Int32.ofNat t0)), .val (.ref b7), .val (.ref b18), .val (.ref b25), .val (.ref b32), .val (.int (Int32.ofNat 0)), .val (.int (Int32.ofNat 3)), .val (.int (0 : Int32)), .val (.int (3 : Int32)), .val (.int (5 : Int32)), .val (.int (Int32.ofNat nd)), .val (.int (Int32.ofNat ro)), .val (.int ex), .val (.int (F (nd * r + ro)))] [(.int (1 : Int32))]) := fun t kt => pre91 t (by
          show Steps p.tables e below (T89.setTop (mkF m 288 #[.val (.int qa), .val (.int qb), .val (.int qx), .val (.int qy), .val (.int (Int32.ofNat r)), .val (.int (Int32.ofNat p0)), .val (.int (Int32.ofNat q0)), .val (.int (Int32.ofNat s0)), .val (.int (Int32.ofNat t0)), .val (.ref b7), .val (.ref b18), .val (.ref b25), .val (.ref b32), .val (.int (Int32.ofNat 0)), .val (.int (Int32.ofNat 3)), .val (.int (0 : Int32)), .val (.int (3 : Int32)), .val (.int (5 : Int32)), .val (.int (Int32.ofNat nd)), .val (.int (Int32.ofNat ro)), .val (.int ex), .val (.int (F (nd * r + ro)))] [(.int ex)])) _
          refine XS.ifNo X89.here hx rfl (hb hby at_288) rfl ((if0 _ _).trans (tlt hc288_92).2.1) ?_
          show Steps p.tables e below (T89.setTop (mkF m 291 #[.val (.int qa), .val (.int qb), .val (.int qx), .val (.int qy), .val (.int (Int32.ofNat r)), .val (.int (Int32.ofNat p0)), .val (.int (Int32.ofNat q0)), .val (.int (Int32.ofNat s0)), .val (.int (Int32.ofNat t0)), .val (.ref b7), .val (.ref b18), .val (.ref b25), .val (.ref b32), .val (.int (Int32.ofNat 0)), .val (.int (Int32.ofNat 3)), .val (.int (0 : Int32)), .val (.int (3 : Int32)), .val (.int (5 : Int32)), .val (.int (Int32.ofNat nd)), .val (.int (Int32.ofNat ro)), .val (.int ex), .val (.int (F (nd * r + ro)))] [])) _
          refine XS.iload X89.here hx rfl (hb hby at_291) rfl ?_
          show Steps p.tables e below (T89.setTop (mkF m 293 #[.val (.int qa), .val (.int qb), .val (.int qx), .val (.int qy), .val (.int (Int32.ofNat r)), .val (.int (Int32.ofNat p0)), .val (.int (Int32.ofNat q0)), .val (.int (Int32.ofNat s0)), .val (.int (Int32.ofNat t0)), .val (.ref b7), .val (.ref b18), .val (.ref b25), .val (.ref b32), .val (.int (Int32.ofNat 0)), .val (.int (Int32.ofNat 3)), .val (.int (0 : Int32)), .val (.int (3 : Int32)), .val (.int (5 : Int32)), .val (.int (Int32.ofNat nd)), .val (.int (Int32.ofNat ro)), .val (.int ex), .val (.int (F (nd * r + ro)))] [(.int (F (nd * r + ro)))])) _
          refine XS.ifNo X89.here hx rfl (hb hby at_293) rfl ((if0 _ _).trans (tlt (own_neg1 (hex.elim (fun q => q.2) (fun q => absurd hc288_92 q.1)) : (F (nd * r + ro)) < (0 : Int32))).2.1) ?_
          show Steps p.tables e below (T89.setTop (mkF m 296 #[.val (.int qa), .val (.int qb), .val (.int qx), .val (.int qy), .val (.int (Int32.ofNat r)), .val (.int (Int32.ofNat p0)), .val (.int (Int32.ofNat q0)), .val (.int (Int32.ofNat s0)), .val (.int (Int32.ofNat t0)), .val (.ref b7), .val (.ref b18), .val (.ref b25), .val (.ref b32), .val (.int (Int32.ofNat 0)), .val (.int (Int32.ofNat 3)), .val (.int (0 : Int32)), .val (.int (3 : Int32)), .val (.int (5 : Int32)), .val (.int (Int32.ofNat nd)), .val (.int (Int32.ofNat ro)), .val (.int ex), .val (.int (F (nd * r + ro)))] [])) _
          refine XS.iconst X89.here hx rfl (hb hby at_296) ?_
          show Steps p.tables e below (T89.setTop (mkF m 297 #[.val (.int qa), .val (.int qb), .val (.int qx), .val (.int qy), .val (.int (Int32.ofNat r)), .val (.int (Int32.ofNat p0)), .val (.int (Int32.ofNat q0)), .val (.int (Int32.ofNat s0)), .val (.int (Int32.ofNat t0)), .val (.ref b7), .val (.ref b18), .val (.ref b25), .val (.ref b32), .val (.int (Int32.ofNat 0)), .val (.int (Int32.ofNat 3)), .val (.int (0 : Int32)), .val (.int (3 : Int32)), .val (.int (5 : Int32)), .val (.int (Int32.ofNat nd)), .val (.int (Int32.ofNat ro)), .val (.int ex), .val (.int (F (nd * r + ro)))] [(.int (1 : Int32))])) _
          refine XS.goto X89.here hx rfl (pc0 := 297) (pc' := 316) rfl (hb hby at_297) (by decide) (by decide) ?_
          exact kt)
      obtain ⟨fs, hr, hrun, hended, hW, hsame⟩ := X89.leave (v := some (.int (1 : Int32))) (fun h => by rw [Bd.returns] at h; cases h)
      refine ⟨_, _, pre93 _ ?_, hrun, hended, _, _, rfl, ?_, ⟨_, rfl⟩, hW, hsame.mono (by decide) (by decide)⟩
      · show Steps p.tables e below (T89.setTop (mkF m 316 #[.val (.int qa), .val (.int qb), .val (.int qx), .val (.int qy), .val (.int (Int32.ofNat r)), .val (.int (Int32.ofNat p0)), .val (.int (Int32.ofNat q0)), .val (.int (Int32.ofNat s0)), .val (.int (Int32.ofNat t0)), .val (.ref b7), .val (.ref b18), .val (.ref b25), .val (.ref b32), .val (.int (Int32.ofNat 0)), .val (.int (Int32.ofNat 3)), .val (.int (0 : Int32)), .val (.int (3 : Int32)), .val (.int (5 : Int32)), .val (.int (Int32.ofNat nd)), .val (.int (Int32.ofNat ro)), .val (.int ex), .val (.int (F (nd * r + ro)))] [(.int (1 : Int32))])) _
        exact retN X89 hx (t := .boolean) Bd.returns (by simp) (hb hby at_316) hr
      · show Q_own_rm0 Z qa qb qx qy h0 n0 _ T89.heap _
        rw [e89]
        exact ⟨rfl, N89⟩
    · -- no at pc 288: tt
      have pre94 : Goes p e below s₁ (entryFrame m #[(.int qa), (.int qb), (.int qx), (.int qy)] maxLocals) T89 (mkF m 316 #[.val (.int qa), .val (.int qb), .val (.int qx), .val (.int qy), .val (.int (Int32.ofNat r)), .val (.int (Int32.ofNat p0)), .val (.int (Int32.ofNat q0)), .val (.int (Int32.ofNat s0)), .val (.int (Int32.ofNat t0)), .val (.ref b7), .val (.ref b18), .val (.ref b25), .val (.ref b32), .val (.int (Int32.ofNat 0)), .val (.int (Int32.ofNat 3)), .val (.int (0 : Int32)), .val (.int (3 : Int32)), .val (.int (5 : Int32)), .val (.int (Int32.ofNat nd)), .val (.int (Int32.ofNat ro)), .val (.int ex), .val (.int (F (nd * r + ro)))] [(.int (1 : Int32))]) := fun t kt => pre91 t (by
          show Steps p.tables e below (T89.setTop (mkF m 288 #[.val (.int qa), .val (.int qb), .val (.int qx), .val (.int qy), .val (.int (Int32.ofNat r)), .val (.int (Int32.ofNat p0)), .val (.int (Int32.ofNat q0)), .val (.int (Int32.ofNat s0)), .val (.int (Int32.ofNat t0)), .val (.ref b7), .val (.ref b18), .val (.ref b25), .val (.ref b32), .val (.int (Int32.ofNat 0)), .val (.int (Int32.ofNat 3)), .val (.int (0 : Int32)), .val (.int (3 : Int32)), .val (.int (5 : Int32)), .val (.int (Int32.ofNat nd)), .val (.int (Int32.ofNat ro)), .val (.int ex), .val (.int (F (nd * r + ro)))] [(.int ex)])) _
          refine XS.ifYes X89.here hx rfl (pc0 := 288) (pc' := 304) rfl (hb hby at_288) rfl ((if0 _ _).trans (flt hc288_92).2.1) (by decide) (by decide) ?_
          show Steps p.tables e below (T89.setTop (mkF m 304 #[.val (.int qa), .val (.int qb), .val (.int qx), .val (.int qy), .val (.int (Int32.ofNat r)), .val (.int (Int32.ofNat p0)), .val (.int (Int32.ofNat q0)), .val (.int (Int32.ofNat s0)), .val (.int (Int32.ofNat t0)), .val (.ref b7), .val (.ref b18), .val (.ref b25), .val (.ref b32), .val (.int (Int32.ofNat 0)), .val (.int (Int32.ofNat 3)), .val (.int (0 : Int32)), .val (.int (3 : Int32)), .val (.int (5 : Int32)), .val (.int (Int32.ofNat nd)), .val (.int (Int32.ofNat ro)), .val (.int ex), .val (.int (F (nd * r + ro)))] [])) _
          refine XS.iload X89.here hx rfl (hb hby at_304) rfl ?_
          show Steps p.tables e below (T89.setTop (mkF m 306 #[.val (.int qa), .val (.int qb), .val (.int qx), .val (.int qy), .val (.int (Int32.ofNat r)), .val (.int (Int32.ofNat p0)), .val (.int (Int32.ofNat q0)), .val (.int (Int32.ofNat s0)), .val (.int (Int32.ofNat t0)), .val (.ref b7), .val (.ref b18), .val (.ref b25), .val (.ref b32), .val (.int (Int32.ofNat 0)), .val (.int (Int32.ofNat 3)), .val (.int (0 : Int32)), .val (.int (3 : Int32)), .val (.int (5 : Int32)), .val (.int (Int32.ofNat nd)), .val (.int (Int32.ofNat ro)), .val (.int ex), .val (.int (F (nd * r + ro)))] [(.int (F (nd * r + ro)))])) _
          refine XS.iload X89.here hx rfl (hb hby at_306) rfl ?_
          show Steps p.tables e below (T89.setTop (mkF m 308 #[.val (.int qa), .val (.int qb), .val (.int qx), .val (.int qy), .val (.int (Int32.ofNat r)), .val (.int (Int32.ofNat p0)), .val (.int (Int32.ofNat q0)), .val (.int (Int32.ofNat s0)), .val (.int (Int32.ofNat t0)), .val (.ref b7), .val (.ref b18), .val (.ref b25), .val (.ref b32), .val (.int (Int32.ofNat 0)), .val (.int (Int32.ofNat 3)), .val (.int (0 : Int32)), .val (.int (3 : Int32)), .val (.int (5 : Int32)), .val (.int (Int32.ofNat nd)), .val (.int (Int32.ofNat ro)), .val (.int ex), .val (.int (F (nd * r + ro)))] [(.int ex), (.int (F (nd * r + ro)))])) _
          refine XS.icmpNo X89.here hx rfl (hb hby at_308) rfl (teq (hex.elim (fun q => absurd (own_neg1 q.1) hc288_92) (fun q => q.2) : (F (nd * r + ro)) = ex)).2 ?_
          show Steps p.tables e below (T89.setTop (mkF m 311 #[.val (.int qa), .val (.int qb), .val (.int qx), .val (.int qy), .val (.int (Int32.ofNat r)), .val (.int (Int32.ofNat p0)), .val (.int (Int32.ofNat q0)), .val (.int (Int32.ofNat s0)), .val (.int (Int32.ofNat t0)), .val (.ref b7), .val (.ref b18), .val (.ref b25), .val (.ref b32), .val (.int (Int32.ofNat 0)), .val (.int (Int32.ofNat 3)), .val (.int (0 : Int32)), .val (.int (3 : Int32)), .val (.int (5 : Int32)), .val (.int (Int32.ofNat nd)), .val (.int (Int32.ofNat ro)), .val (.int ex), .val (.int (F (nd * r + ro)))] [])) _
          refine XS.iconst X89.here hx rfl (hb hby at_311) ?_
          show Steps p.tables e below (T89.setTop (mkF m 312 #[.val (.int qa), .val (.int qb), .val (.int qx), .val (.int qy), .val (.int (Int32.ofNat r)), .val (.int (Int32.ofNat p0)), .val (.int (Int32.ofNat q0)), .val (.int (Int32.ofNat s0)), .val (.int (Int32.ofNat t0)), .val (.ref b7), .val (.ref b18), .val (.ref b25), .val (.ref b32), .val (.int (Int32.ofNat 0)), .val (.int (Int32.ofNat 3)), .val (.int (0 : Int32)), .val (.int (3 : Int32)), .val (.int (5 : Int32)), .val (.int (Int32.ofNat nd)), .val (.int (Int32.ofNat ro)), .val (.int ex), .val (.int (F (nd * r + ro)))] [(.int (1 : Int32))])) _
          refine XS.goto X89.here hx rfl (pc0 := 312) (pc' := 316) rfl (hb hby at_312) (by decide) (by decide) ?_
          exact kt)
      obtain ⟨fs, hr, hrun, hended, hW, hsame⟩ := X89.leave (v := some (.int (1 : Int32))) (fun h => by rw [Bd.returns] at h; cases h)
      refine ⟨_, _, pre94 _ ?_, hrun, hended, _, _, rfl, ?_, ⟨_, rfl⟩, hW, hsame.mono (by decide) (by decide)⟩
      · show Steps p.tables e below (T89.setTop (mkF m 316 #[.val (.int qa), .val (.int qb), .val (.int qx), .val (.int qy), .val (.int (Int32.ofNat r)), .val (.int (Int32.ofNat p0)), .val (.int (Int32.ofNat q0)), .val (.int (Int32.ofNat s0)), .val (.int (Int32.ofNat t0)), .val (.ref b7), .val (.ref b18), .val (.ref b25), .val (.ref b32), .val (.int (Int32.ofNat 0)), .val (.int (Int32.ofNat 3)), .val (.int (0 : Int32)), .val (.int (3 : Int32)), .val (.int (5 : Int32)), .val (.int (Int32.ofNat nd)), .val (.int (Int32.ofNat ro)), .val (.int ex), .val (.int (F (nd * r + ro)))] [(.int (1 : Int32))])) _
        exact retN X89 hx (t := .boolean) Bd.returns (by simp) (hb hby at_316) hr
      · show Q_own_rm0 Z qa qb qx qy h0 n0 _ T89.heap _
        rw [e89]
        exact ⟨rfl, N89⟩
  · -- s0 ≠ p0
    obtain ⟨cq95, kq95, q95a, q95b, q95c⟩ := isOf hZ rfl (((A32.keep K35q).keep K38q).keep K41q)
    obtain ⟨_, _, ⟨T95, L95, k95, n95⟩, -, X95, ⟨Lc95, hQ95, l95, y95, z95⟩, st95⟩ := X41.virtualBack hx (y := (⟨"com/example/unicept/unicept/WordTrie", "add", "(I[I)I"⟩ : MethodName)) (z := (⟨"com/example/unicept/unicept/WordTrie", "add", "(I[I)I"⟩ : MethodName)) hown (mvT hZ (hw _ (List.mem_of_getElem? (i := 42) rfl))) (mvT hZ (hw _ (List.mem_of_getElem? (i := 43) rfl))) (notFace_of_selects (args := #[]) (mvT hZ (hw _ (List.mem_of_getElem? (i := 45) rfl)))) (mvT hZ (hw _ (List.mem_of_getElem? (i := 45) rfl))) (mvT hZ (hw _ (List.mem_of_getElem? (i := 44) rfl))) (by decide) (backOf (W := 0) (own_add1 l Z a0 hw [] b32 r 3 ch (own_ad (own_ad (own_fl (fun _ => 0) (0 * r) (0 * r + r) (-1)) r 1 0 p0) r 2 1 q0) rt (own_up (own_up (own_up (fun _ => 0) 0 (Int32.ofNat 0)) 1 ((own_up (fun _ => 0) 0 (Int32.ofNat 0)) 0)) 2 ((own_up (own_up (fun _ => 0) 0 (Int32.ofNat 0)) 1 ((own_up (fun _ => 0) 0 (Int32.ofNat 0)) 0)) 1)) tg kt (List.replicate 16 .null) 0 s0 b18 k18 T41.heap n0 (Nat.le_trans (Nat.le_trans (Nat.le_trans (Nat.le_trans (Nat.le_trans (Nat.le_trans (Nat.le_trans (Nat.le_trans (Nat.le_trans (Nat.le_trans (Nat.le_trans Z0 E7.1) (Keep.of_wr W11).1) (Keep.of_wr W15).1) E18.1) (Keep.of_wr W22).1) E25.1) (Keep.of_wr W29).1) E32.1) K35q.1) K38q.1) K41q.1) hT41 hr1 hr8 (by decide) (by decide) hls0 ((((((V22.ext E25).other W29 (Nat.ne_of_lt (Nat.lt_of_lt_of_le V22.lt (Nat.le_of_eq g25.symm)))).ext E32).keep K35q (ninS (Nat.ne_of_lt (Nat.lt_of_lt_of_le ((V22.ext E25).other W29 (Nat.ne_of_lt (Nat.lt_of_lt_of_le V22.lt (Nat.le_of_eq g25.symm)))).lt (Nat.le_of_eq g32.symm))) nin0)).keep K38q (ninS (Nat.ne_of_lt (Nat.lt_of_lt_of_le ((V22.ext E25).other W29 (Nat.ne_of_lt (Nat.lt_of_lt_of_le V22.lt (Nat.le_of_eq g25.symm)))).lt (Nat.le_of_eq g32.symm))) (ninS (Nat.ne_of_lt (Nat.lt_of_lt_of_le (((V22.ext E25).other W29 (Nat.ne_of_lt (Nat.lt_of_lt_of_le V22.lt (Nat.le_of_eq g25.symm)))).ext E32).lt z1)) (ninS (Nat.ne_of_lt (Nat.lt_of_lt_of_le (((V22.ext E25).other W29 (Nat.ne_of_lt (Nat.lt_of_lt_of_le V22.lt (Nat.le_of_eq g25.symm)))).ext E32).lt z2)) nin0)))).keep K41q (ninS (Nat.ne_of_lt (Nat.lt_of_lt_of_le ((V22.ext E25).other W29 (Nat.ne_of_lt (Nat.lt_of_lt_of_le V22.lt (Nat.le_of_eq g25.symm)))).lt (Nat.le_of_eq g32.symm))) (ninS (Nat.ne_of_lt (Nat.lt_of_lt_of_le (((V22.ext E25).other W29 (Nat.ne_of_lt (Nat.lt_of_lt_of_le V22.lt (Nat.le_of_eq g25.symm)))).ext E32).lt z1)) (ninS (Nat.ne_of_lt (Nat.lt_of_lt_of_le (((V22.ext E25).other W29 (Nat.ne_of_lt (Nat.lt_of_lt_of_le V22.lt (Nat.le_of_eq g25.symm)))).ext E32).lt z2)) nin0)))) (Nat.ne_of_lt (Nat.lt_of_lt_of_le ((V22.ext E25).other W29 (Nat.ne_of_lt (Nat.lt_of_lt_of_le V22.lt (Nat.le_of_eq g25.symm)))).lt (Nat.le_of_eq g32.symm))) (Nat.ne_of_lt (Nat.lt_of_lt_of_le (((V22.ext E25).other W29 (Nat.ne_of_lt (Nat.lt_of_lt_of_le V22.lt (Nat.le_of_eq g25.symm)))).ext E32).lt z1)) (Nat.ne_of_lt (Nat.lt_of_lt_of_le (((V22.ext E25).other W29 (Nat.ne_of_lt (Nat.lt_of_lt_of_le V22.lt (Nat.le_of_eq g25.symm)))).ext E32).lt z2)) (own_z31 r p0 q0 s0 t0 hr1 hr8 hlp0 hlq0 hls0 hlt0 hsp )) hZ (hw _ (List.mem_of_getElem? (i := 46) rfl)) (hw _ (List.mem_of_getElem? (i := 3) rfl)) (by decide) (by decide)) q95a q95c (g := (mkF m 126 #[.val (.int qa), .val (.int qb), .val (.int qx), .val (.int qy), .val (.int (Int32.ofNat r)), .val (.int (Int32.ofNat p0)), .val (.int (Int32.ofNat q0)), .val (.int (Int32.ofNat s0)), .val (.int (Int32.ofNat t0)), .val (.ref b7), .val (.ref b18), .val (.ref b25), .val (.ref b32), .val (.int (Int32.ofNat 0)), .unset, .unset, .unset, .unset, .unset, .unset, .unset, .unset] [(.ref b18), (.int (Int32.ofNat 0)), (.ref b32)])) rfl (by rw [hml]; rfl) (Steps.refl _) (argsL := [(.int (Int32.ofNat 0)), (.ref b18)]) (rest := []) (lenOf own_pd5 rfl) rfl (by show 2 * 0 + _ ≤ _; exact Nat.le_of_eq rfl) (hb hby at_126) (fun _ _ => ⟨rfl, rfl, (by decide : 7 + 0 ≤ _), (by decide : 169 + 0 ≤ _)⟩)
    dsimp only [Pt.U, Pt.locs, Pt.cells, Pt.slots] at X95 l95 y95 z95 st95 hQ95
    subst l95 y95 z95
    obtain ⟨rfl, N95q, K95q, hT95⟩ := hQ95
    have N95 := Fr.app N41 N95q
    have KC95 : Keep h0 T95.heap [] := KC41.trans K95q (allS (Or.inr sz_b32) (allS (Or.inr sz_ch) (allS (Or.inr sz_rt) all0)))
    have pre96 : Goes p e below s₁ (entryFrame m #[(.int qa), (.int qb), (.int qx), (.int qy)] maxLocals) T95 (mkF m 129 #[.val (.int qa), .val (.int qb), .val (.int qx), .val (.int qy), .val (.int (Int32.ofNat r)), .val (.int (Int32.ofNat p0)), .val (.int (Int32.ofNat q0)), .val (.int (Int32.ofNat s0)), .val (.int (Int32.ofNat t0)), .val (.ref b7), .val (.ref b18), .val (.ref b25), .val (.ref b32), .val (.int (Int32.ofNat 0)), .unset, .unset, .unset, .unset, .unset, .unset, .unset, .unset] [(.int (Int32.ofNat 3))]) := fun t kt => pre43 t (st95.trans kt)
    have pre97 : Goes p e below s₁ (entryFrame m #[(.int qa), (.int qb), (.int qx), (.int qy)] maxLocals) T95 (mkF m 132 #[.val (.int qa), .val (.int qb), .val (.int qx), .val (.int qy), .val (.int (Int32.ofNat r)), .val (.int (Int32.ofNat p0)), .val (.int (Int32.ofNat q0)), .val (.int (Int32.ofNat s0)), .val (.int (Int32.ofNat t0)), .val (.ref b7), .val (.ref b18), .val (.ref b25), .val (.ref b32), .val (.int (Int32.ofNat 0)), .unset, .unset, .unset, .unset, .unset, .unset, .unset, .unset] [(.ref b32)]) := fun t kt => pre96 t (by
        show Steps p.tables e below (T95.setTop (mkF m 129 #[.val (.int qa), .val (.int qb), .val (.int qx), .val (.int qy), .val (.int (Int32.ofNat r)), .val (.int (Int32.ofNat p0)), .val (.int (Int32.ofNat q0)), .val (.int (Int32.ofNat s0)), .val (.int (Int32.ofNat t0)), .val (.ref b7), .val (.ref b18), .val (.ref b25), .val (.ref b32), .val (.int (Int32.ofNat 0)), .unset, .unset, .unset, .unset, .unset, .unset, .unset, .unset] [(.int (Int32.ofNat 3))])) _
        refine XS.pop X95.here hx rfl (hb hby at_129) rfl rfl ?_
        show Steps p.tables e below (T95.setTop (mkF m 130 #[.val (.int qa), .val (.int qb), .val (.int qx), .val (.int qy), .val (.int (Int32.ofNat r)), .val (.int (Int32.ofNat p0)), .val (.int (Int32.ofNat q0)), .val (.int (Int32.ofNat s0)), .val (.int (Int32.ofNat t0)), .val (.ref b7), .val (.ref b18), .val (.ref b25), .val (.ref b32), .val (.int (Int32.ofNat 0)), .unset, .unset, .unset, .unset, .unset, .unset, .unset, .unset] [])) _
        refine XS.aload X95.here hx rfl (hb hby at_130) rfl rfl ?_
        exact kt)
    obtain ⟨cq98, kq98, q98a, q98b, q98c⟩ := isOf hZ rfl ((((A32.keep K35q).keep K38q).keep K41q).keep K95q)
    obtain ⟨_, _, ⟨T98, L98, k98, n98⟩, -, X98, ⟨Lc98, hQ98, l98, y98, z98⟩, st98⟩ := X95.virtualBack hx (y := (⟨"com/example/unicept/unicept/WordTrie", "addRoot", "()I"⟩ : MethodName)) (z := (⟨"com/example/unicept/unicept/WordTrie", "addRoot", "()I"⟩ : MethodName)) hown (mvT hZ (hw _ (List.mem_of_getElem? (i := 24) rfl))) (mvT hZ (hw _ (List.mem_of_getElem? (i := 25) rfl))) (notFace_of_selects (args := #[]) (mvT hZ (hw _ (List.mem_of_getElem? (i := 27) rfl)))) (mvT hZ (hw _ (List.mem_of_getElem? (i := 27) rfl))) (mvT hZ (hw _ (List.mem_of_getElem? (i := 26) rfl))) (by decide) (backOf (W := 0) (own_addRoot l Z a0 hw [] b32 r 4 ch (own_ad (own_ad (own_ad (own_fl (fun _ => 0) (0 * r) (0 * r + r) (-1)) r 1 0 p0) r 2 1 q0) r 3 0 s0) rt (own_up (own_up (own_up (own_up (fun _ => 0) 0 (Int32.ofNat 0)) 1 ((own_up (fun _ => 0) 0 (Int32.ofNat 0)) 0)) 2 ((own_up (own_up (fun _ => 0) 0 (Int32.ofNat 0)) 1 ((own_up (fun _ => 0) 0 (Int32.ofNat 0)) 0)) 1)) 3 ((own_up (own_up (own_up (fun _ => 0) 0 (Int32.ofNat 0)) 1 ((own_up (fun _ => 0) 0 (Int32.ofNat 0)) 0)) 2 ((own_up (own_up (fun _ => 0) 0 (Int32.ofNat 0)) 1 ((own_up (fun _ => 0) 0 (Int32.ofNat 0)) 0)) 1)) 0)) tg kt (List.replicate 16 .null) T95.heap n0 (Nat.le_trans (Nat.le_trans (Nat.le_trans (Nat.le_trans (Nat.le_trans (Nat.le_trans (Nat.le_trans (Nat.le_trans (Nat.le_trans (Nat.le_trans (Nat.le_trans (Nat.le_trans Z0 E7.1) (Keep.of_wr W11).1) (Keep.of_wr W15).1) E18.1) (Keep.of_wr W22).1) E25.1) (Keep.of_wr W29).1) E32.1) K35q.1) K38q.1) K41q.1) K95q.1) hT95 hr1 hr8 (by decide)) hZ (hw _ (List.mem_of_getElem? (i := 28) rfl)) (hw _ (List.mem_of_getElem? (i := 3) rfl)) (by decide) (by decide)) q98a q98c (g := (mkF m 132 #[.val (.int qa), .val (.int qb), .val (.int qx), .val (.int qy), .val (.int (Int32.ofNat r)), .val (.int (Int32.ofNat p0)), .val (.int (Int32.ofNat q0)), .val (.int (Int32.ofNat s0)), .val (.int (Int32.ofNat t0)), .val (.ref b7), .val (.ref b18), .val (.ref b25), .val (.ref b32), .val (.int (Int32.ofNat 0)), .unset, .unset, .unset, .unset, .unset, .unset, .unset, .unset] [(.ref b32)])) rfl (by rw [hml]; rfl) (Steps.refl _) (argsL := []) (rest := []) (lenOf own_pd2 rfl) rfl (by show 2 * 0 + _ ≤ _; exact Nat.le_of_eq rfl) (hb hby at_132) (fun _ _ => ⟨rfl, rfl, (by decide : 7 + 0 ≤ _), (by decide : 169 + 0 ≤ _)⟩)
    dsimp only [Pt.U, Pt.locs, Pt.cells, Pt.slots] at X98 l98 y98 z98 st98 hQ98
    subst l98 y98 z98
    obtain ⟨rfl, N98q, K98q, hT98⟩ := hQ98
    have N98 := Fr.app N95 N98q
    have KC98 : Keep h0 T98.heap [] := KC95.trans K98q (allS (Or.inr sz_b32) (allS (Or.inr sz_ch) (allS (Or.inr sz_rt) all0)))
    have pre99 : Goes p e below s₁ (entryFrame m #[(.int qa), (.int qb), (.int qx), (.int qy)] maxLocals) T98 (mkF m 135 #[.val (.int qa), .val (.int qb), .val (.int qx), .val (.int qy), .val (.int (Int32.ofNat r)), .val (.int (Int32.ofNat p0)), .val (.int (Int32.ofNat q0)), .val (.int (Int32.ofNat s0)), .val (.int (Int32.ofNat t0)), .val (.ref b7), .val (.ref b18), .val (.ref b25), .val (.ref b32), .val (.int (Int32.ofNat 0)), .unset, .unset, .unset, .unset, .unset, .unset, .unset, .unset] [(.int (Int32.ofNat 4))]) := fun t kt => pre97 t (st98.trans kt)
    have pre100 : Goes p e below s₁ (entryFrame m #[(.int qa), (.int qb), (.int qx), (.int qy)] maxLocals) T98 (mkF m 143 #[.val (.int qa), .val (.int qb), .val (.int qx), .val (.int qy), .val (.int (Int32.ofNat r)), .val (.int (Int32.ofNat p0)), .val (.int (Int32.ofNat q0)), .val (.int (Int32.ofNat s0)), .val (.int (Int32.ofNat t0)), .val (.ref b7), .val (.ref b18), .val (.ref b25), .val (.ref b32), .val (.int (Int32.ofNat 0)), .val (.int (Int32.ofNat 4)), .unset, .unset, .unset, .unset, .unset, .unset, .unset] [(.ref b25), (.int (Int32.ofNat 4)), (.ref b32)]) := fun t kt => pre99 t (by
        show Steps p.tables e below (T98.setTop (mkF m 135 #[.val (.int qa), .val (.int qb), .val (.int qx), .val (.int qy), .val (.int (Int32.ofNat r)), .val (.int (Int32.ofNat p0)), .val (.int (Int32.ofNat q0)), .val (.int (Int32.ofNat s0)), .val (.int (Int32.ofNat t0)), .val (.ref b7), .val (.ref b18), .val (.ref b25), .val (.ref b32), .val (.int (Int32.ofNat 0)), .unset, .unset, .unset, .unset, .unset, .unset, .unset, .unset] [(.int (Int32.ofNat 4))])) _
        refine XS.istore X98.here hx rfl (hb hby at_135) rfl (l' := #[.val (.int qa), .val (.int qb), .val (.int qx), .val (.int qy), .val (.int (Int32.ofNat r)), .val (.int (Int32.ofNat p0)), .val (.int (Int32.ofNat q0)), .val (.int (Int32.ofNat s0)), .val (.int (Int32.ofNat t0)), .val (.ref b7), .val (.ref b18), .val (.ref b25), .val (.ref b32), .val (.int (Int32.ofNat 0)), .val (.int (Int32.ofNat 4)), .unset, .unset, .unset, .unset, .unset, .unset, .unset]) rfl ?_
        show Steps p.tables e below (T98.setTop (mkF m 137 #[.val (.int qa), .val (.int qb), .val (.int qx), .val (.int qy), .val (.int (Int32.ofNat r)), .val (.int (Int32.ofNat p0)), .val (.int (Int32.ofNat q0)), .val (.int (Int32.ofNat s0)), .val (.int (Int32.ofNat t0)), .val (.ref b7), .val (.ref b18), .val (.ref b25), .val (.ref b32), .val (.int (Int32.ofNat 0)), .val (.int (Int32.ofNat 4)), .unset, .unset, .unset, .unset, .unset, .unset, .unset] [])) _
        refine XS.aload X98.here hx rfl (hb hby at_137) rfl rfl ?_
        show Steps p.tables e below (T98.setTop (mkF m 139 #[.val (.int qa), .val (.int qb), .val (.int qx), .val (.int qy), .val (.int (Int32.ofNat r)), .val (.int (Int32.ofNat p0)), .val (.int (Int32.ofNat q0)), .val (.int (Int32.ofNat s0)), .val (.int (Int32.ofNat t0)), .val (.ref b7), .val (.ref b18), .val (.ref b25), .val (.ref b32), .val (.int (Int32.ofNat 0)), .val (.int (Int32.ofNat 4)), .unset, .unset, .unset, .unset, .unset, .unset, .unset] [(.ref b32)])) _
        refine XS.iload X98.here hx rfl (hb hby at_139) rfl ?_
        show Steps p.tables e below (T98.setTop (mkF m 141 #[.val (.int qa), .val (.int qb), .val (.int qx), .val (.int qy), .val (.int (Int32.ofNat r)), .val (.int (Int32.ofNat p0)), .val (.int (Int32.ofNat q0)), .val (.int (Int32.ofNat s0)), .val (.int (Int32.ofNat t0)), .val (.ref b7), .val (.ref b18), .val (.ref b25), .val (.ref b32), .val (.int (Int32.ofNat 0)), .val (.int (Int32.ofNat 4)), .unset, .unset, .unset, .unset, .unset, .unset, .unset] [(.int (Int32.ofNat 4)), (.ref b32)])) _
        refine XS.aload X98.here hx rfl (hb hby at_141) rfl rfl ?_
        exact kt)
    obtain ⟨cq101, kq101, q101a, q101b, q101c⟩ := isOf hZ rfl (((((A32.keep K35q).keep K38q).keep K41q).keep K95q).keep K98q)
    obtain ⟨_, _, ⟨T101, L101, k101, n101⟩, -, X101, ⟨Lc101, hQ101, l101, y101, z101⟩, st101⟩ := X98.virtualBack hx (y := (⟨"com/example/unicept/unicept/WordTrie", "add", "(I[I)I"⟩ : MethodName)) (z := (⟨"com/example/unicept/unicept/WordTrie", "add", "(I[I)I"⟩ : MethodName)) hown (mvT hZ (hw _ (List.mem_of_getElem? (i := 42) rfl))) (mvT hZ (hw _ (List.mem_of_getElem? (i := 43) rfl))) (notFace_of_selects (args := #[]) (mvT hZ (hw _ (List.mem_of_getElem? (i := 45) rfl)))) (mvT hZ (hw _ (List.mem_of_getElem? (i := 45) rfl))) (mvT hZ (hw _ (List.mem_of_getElem? (i := 44) rfl))) (by decide) (backOf (W := 0) (own_add1 l Z a0 hw [] b32 r 5 ch (own_fl (own_ad (own_ad (own_ad (own_fl (fun _ => 0) (0 * r) (0 * r + r) (-1)) r 1 0 p0) r 2 1 q0) r 3 0 s0) (4 * r) (4 * r + r) (-1)) rt (own_up (own_up (own_up (own_up (own_up (fun _ => 0) 0 (Int32.ofNat 0)) 1 ((own_up (fun _ => 0) 0 (Int32.ofNat 0)) 0)) 2 ((own_up (own_up (fun _ => 0) 0 (Int32.ofNat 0)) 1 ((own_up (fun _ => 0) 0 (Int32.ofNat 0)) 0)) 1)) 3 ((own_up (own_up (own_up (fun _ => 0) 0 (Int32.ofNat 0)) 1 ((own_up (fun _ => 0) 0 (Int32.ofNat 0)) 0)) 2 ((own_up (own_up (fun _ => 0) 0 (Int32.ofNat 0)) 1 ((own_up (fun _ => 0) 0 (Int32.ofNat 0)) 0)) 1)) 0)) 4 (Int32.ofNat 4)) tg kt (List.replicate 16 .null) 4 t0 b25 k25 T98.heap n0 (Nat.le_trans (Nat.le_trans (Nat.le_trans (Nat.le_trans (Nat.le_trans (Nat.le_trans (Nat.le_trans (Nat.le_trans (Nat.le_trans (Nat.le_trans (Nat.le_trans (Nat.le_trans (Nat.le_trans Z0 E7.1) (Keep.of_wr W11).1) (Keep.of_wr W15).1) E18.1) (Keep.of_wr W22).1) E25.1) (Keep.of_wr W29).1) E32.1) K35q.1) K38q.1) K41q.1) K95q.1) K98q.1) hT98 hr1 hr8 (by decide) (by decide) hlt0 ((((((V29.ext E32).keep K35q (ninS (Nat.ne_of_lt (Nat.lt_of_lt_of_le V29.lt (Nat.le_of_eq g32.symm))) nin0)).keep K38q (ninS (Nat.ne_of_lt (Nat.lt_of_lt_of_le V29.lt (Nat.le_of_eq g32.symm))) (ninS (Nat.ne_of_lt (Nat.lt_of_lt_of_le (V29.ext E32).lt z1)) (ninS (Nat.ne_of_lt (Nat.lt_of_lt_of_le (V29.ext E32).lt z2)) nin0)))).keep K41q (ninS (Nat.ne_of_lt (Nat.lt_of_lt_of_le V29.lt (Nat.le_of_eq g32.symm))) (ninS (Nat.ne_of_lt (Nat.lt_of_lt_of_le (V29.ext E32).lt z1)) (ninS (Nat.ne_of_lt (Nat.lt_of_lt_of_le (V29.ext E32).lt z2)) nin0)))).keep K95q (ninS (Nat.ne_of_lt (Nat.lt_of_lt_of_le V29.lt (Nat.le_of_eq g32.symm))) (ninS (Nat.ne_of_lt (Nat.lt_of_lt_of_le (V29.ext E32).lt z1)) (ninS (Nat.ne_of_lt (Nat.lt_of_lt_of_le (V29.ext E32).lt z2)) nin0)))).keep K98q (ninS (Nat.ne_of_lt (Nat.lt_of_lt_of_le V29.lt (Nat.le_of_eq g32.symm))) (ninS (Nat.ne_of_lt (Nat.lt_of_lt_of_le (V29.ext E32).lt z1)) (ninS (Nat.ne_of_lt (Nat.lt_of_lt_of_le (V29.ext E32).lt z2)) nin0)))) (Nat.ne_of_lt (Nat.lt_of_lt_of_le V29.lt (Nat.le_of_eq g32.symm))) (Nat.ne_of_lt (Nat.lt_of_lt_of_le (V29.ext E32).lt z1)) (Nat.ne_of_lt (Nat.lt_of_lt_of_le (V29.ext E32).lt z2)) (own_z32 r p0 q0 s0 t0 hr1 hr8 hlp0 hlq0 hls0 hlt0 hsp )) hZ (hw _ (List.mem_of_getElem? (i := 46) rfl)) (hw _ (List.mem_of_getElem? (i := 3) rfl)) (by decide) (by decide)) q101a q101c (g := (mkF m 143 #[.val (.int qa), .val (.int qb), .val (.int qx), .val (.int qy), .val (.int (Int32.ofNat r)), .val (.int (Int32.ofNat p0)), .val (.int (Int32.ofNat q0)), .val (.int (Int32.ofNat s0)), .val (.int (Int32.ofNat t0)), .val (.ref b7), .val (.ref b18), .val (.ref b25), .val (.ref b32), .val (.int (Int32.ofNat 0)), .val (.int (Int32.ofNat 4)), .unset, .unset, .unset, .unset, .unset, .unset, .unset] [(.ref b25), (.int (Int32.ofNat 4)), (.ref b32)])) rfl (by rw [hml]; rfl) (Steps.refl _) (argsL := [(.int (Int32.ofNat 4)), (.ref b25)]) (rest := []) (lenOf own_pd5 rfl) rfl (by show 2 * 0 + _ ≤ _; exact Nat.le_of_eq rfl) (hb hby at_143) (fun _ _ => ⟨rfl, rfl, (by decide : 7 + 0 ≤ _), (by decide : 169 + 0 ≤ _)⟩)
    dsimp only [Pt.U, Pt.locs, Pt.cells, Pt.slots] at X101 l101 y101 z101 st101 hQ101
    subst l101 y101 z101
    obtain ⟨rfl, N101q, K101q, hT101⟩ := hQ101
    have N101 := Fr.app N98 N101q
    have KC101 : Keep h0 T101.heap [] := KC98.trans K101q (allS (Or.inr sz_b32) (allS (Or.inr sz_ch) (allS (Or.inr sz_rt) all0)))
    have pre102 : Goes p e below s₁ (entryFrame m #[(.int qa), (.int qb), (.int qx), (.int qy)] maxLocals) T101 (mkF m 146 #[.val (.int qa), .val (.int qb), .val (.int qx), .val (.int qy), .val (.int (Int32.ofNat r)), .val (.int (Int32.ofNat p0)), .val (.int (Int32.ofNat q0)), .val (.int (Int32.ofNat s0)), .val (.int (Int32.ofNat t0)), .val (.ref b7), .val (.ref b18), .val (.ref b25), .val (.ref b32), .val (.int (Int32.ofNat 0)), .val (.int (Int32.ofNat 4)), .unset, .unset, .unset, .unset, .unset, .unset, .unset] [(.int (Int32.ofNat 5))]) := fun t kt => pre100 t (st101.trans kt)
    have pre103 : Goes p e below s₁ (entryFrame m #[(.int qa), (.int qb), (.int qx), (.int qy)] maxLocals) T101 (mkF m 186 #[.val (.int qa), .val (.int qb), .val (.int qx), .val (.int qy), .val (.int (Int32.ofNat r)), .val (.int (Int32.ofNat p0)), .val (.int (Int32.ofNat q0)), .val (.int (Int32.ofNat s0)), .val (.int (Int32.ofNat t0)), .val (.ref b7), .val (.ref b18), .val (.ref b25), .val (.ref b32), .val (.int (Int32.ofNat 0)), .val (.int (Int32.ofNat 4)), .val (.int (1 : Int32)), .val (.int (4 : Int32)), .val (.int (6 : Int32)), .unset, .unset, .unset, .unset] [(.int ((qx &&& (2147483647 : Int32)) % (6 : Int32)))]) := fun t kt => pre102 t (by
        show Steps p.tables e below (T101.setTop (mkF m 146 #[.val (.int qa), .val (.int qb), .val (.int qx), .val (.int qy), .val (.int (Int32.ofNat r)), .val (.int (Int32.ofNat p0)), .val (.int (Int32.ofNat q0)), .val (.int (Int32.ofNat s0)), .val (.int (Int32.ofNat t0)), .val (.ref b7), .val (.ref b18), .val (.ref b25), .val (.ref b32), .val (.int (Int32.ofNat 0)), .val (.int (Int32.ofNat 4)), .unset, .unset, .unset, .unset, .unset, .unset, .unset] [(.int (Int32.ofNat 5))])) _
        refine XS.pop X101.here hx rfl (hb hby at_146) rfl rfl ?_
        show Steps p.tables e below (T101.setTop (mkF m 147 #[.val (.int qa), .val (.int qb), .val (.int qx), .val (.int qy), .val (.int (Int32.ofNat r)), .val (.int (Int32.ofNat p0)), .val (.int (Int32.ofNat q0)), .val (.int (Int32.ofNat s0)), .val (.int (Int32.ofNat t0)), .val (.ref b7), .val (.ref b18), .val (.ref b25), .val (.ref b32), .val (.int (Int32.ofNat 0)), .val (.int (Int32.ofNat 4)), .unset, .unset, .unset, .unset, .unset, .unset, .unset] [])) _
        refine XS.iload X101.here hx rfl (hb hby at_147) rfl ?_
        show Steps p.tables e below (T101.setTop (mkF m 149 #[.val (.int qa), .val (.int qb), .val (.int qx), .val (.int qy), .val (.int (Int32.ofNat r)), .val (.int (Int32.ofNat p0)), .val (.int (Int32.ofNat q0)), .val (.int (Int32.ofNat s0)), .val (.int (Int32.ofNat t0)), .val (.ref b7), .val (.ref b18), .val (.ref b25), .val (.ref b32), .val (.int (Int32.ofNat 0)), .val (.int (Int32.ofNat 4)), .unset, .unset, .unset, .unset, .unset, .unset, .unset] [(.int (Int32.ofNat s0))])) _
        refine XS.iload X101.here hx rfl (hb hby at_149) rfl ?_
        show Steps p.tables e below (T101.setTop (mkF m 151 #[.val (.int qa), .val (.int qb), .val (.int qx), .val (.int qy), .val (.int (Int32.ofNat r)), .val (.int (Int32.ofNat p0)), .val (.int (Int32.ofNat q0)), .val (.int (Int32.ofNat s0)), .val (.int (Int32.ofNat t0)), .val (.ref b7), .val (.ref b18), .val (.ref b25), .val (.ref b32), .val (.int (Int32.ofNat 0)), .val (.int (Int32.ofNat 4)), .unset, .unset, .unset, .unset, .unset, .unset, .unset] [(.int (Int32.ofNat p0)), (.int (Int32.ofNat s0))])) _
        refine XS.icmpNo X101.here hx rfl (hb hby at_151) rfl (feq (fun q => hsp (own_inj (by omega) (by omega) q))).1 ?_
        show Steps p.tables e below (T101.setTop (mkF m 154 #[.val (.int qa), .val (.int qb), .val (.int qx), .val (.int qy), .val (.int (Int32.ofNat r)), .val (.int (Int32.ofNat p0)), .val (.int (Int32.ofNat q0)), .val (.int (Int32.ofNat s0)), .val (.int (Int32.ofNat t0)), .val (.ref b7), .val (.ref b18), .val (.ref b25), .val (.ref b32), .val (.int (Int32.ofNat 0)), .val (.int (Int32.ofNat 4)), .unset, .unset, .unset, .unset, .unset, .unset, .unset] [])) _
        refine XS.iconst X101.here hx rfl (hb hby at_154) ?_
        show Steps p.tables e below (T101.setTop (mkF m 155 #[.val (.int qa), .val (.int qb), .val (.int qx), .val (.int qy), .val (.int (Int32.ofNat r)), .val (.int (Int32.ofNat p0)), .val (.int (Int32.ofNat q0)), .val (.int (Int32.ofNat s0)), .val (.int (Int32.ofNat t0)), .val (.ref b7), .val (.ref b18), .val (.ref b25), .val (.ref b32), .val (.int (Int32.ofNat 0)), .val (.int (Int32.ofNat 4)), .unset, .unset, .unset, .unset, .unset, .unset, .unset] [(.int (1 : Int32))])) _
        refine XS.goto X101.here hx rfl (pc0 := 155) (pc' := 159) rfl (hb hby at_155) (by decide) (by decide) ?_
        show Steps p.tables e below (T101.setTop (mkF m 159 #[.val (.int qa), .val (.int qb), .val (.int qx), .val (.int qy), .val (.int (Int32.ofNat r)), .val (.int (Int32.ofNat p0)), .val (.int (Int32.ofNat q0)), .val (.int (Int32.ofNat s0)), .val (.int (Int32.ofNat t0)), .val (.ref b7), .val (.ref b18), .val (.ref b25), .val (.ref b32), .val (.int (Int32.ofNat 0)), .val (.int (Int32.ofNat 4)), .unset, .unset, .unset, .unset, .unset, .unset, .unset] [(.int (1 : Int32))])) _
        refine XS.istore X101.here hx rfl (hb hby at_159) rfl (l' := #[.val (.int qa), .val (.int qb), .val (.int qx), .val (.int qy), .val (.int (Int32.ofNat r)), .val (.int (Int32.ofNat p0)), .val (.int (Int32.ofNat q0)), .val (.int (Int32.ofNat s0)), .val (.int (Int32.ofNat t0)), .val (.ref b7), .val (.ref b18), .val (.ref b25), .val (.ref b32), .val (.int (Int32.ofNat 0)), .val (.int (Int32.ofNat 4)), .val (.int (1 : Int32)), .unset, .unset, .unset, .unset, .unset, .unset]) rfl ?_
        show Steps p.tables e below (T101.setTop (mkF m 161 #[.val (.int qa), .val (.int qb), .val (.int qx), .val (.int qy), .val (.int (Int32.ofNat r)), .val (.int (Int32.ofNat p0)), .val (.int (Int32.ofNat q0)), .val (.int (Int32.ofNat s0)), .val (.int (Int32.ofNat t0)), .val (.ref b7), .val (.ref b18), .val (.ref b25), .val (.ref b32), .val (.int (Int32.ofNat 0)), .val (.int (Int32.ofNat 4)), .val (.int (1 : Int32)), .unset, .unset, .unset, .unset, .unset, .unset] [])) _
        refine XS.iload X101.here hx rfl (hb hby at_161) rfl ?_
        show Steps p.tables e below (T101.setTop (mkF m 163 #[.val (.int qa), .val (.int qb), .val (.int qx), .val (.int qy), .val (.int (Int32.ofNat r)), .val (.int (Int32.ofNat p0)), .val (.int (Int32.ofNat q0)), .val (.int (Int32.ofNat s0)), .val (.int (Int32.ofNat t0)), .val (.ref b7), .val (.ref b18), .val (.ref b25), .val (.ref b32), .val (.int (Int32.ofNat 0)), .val (.int (Int32.ofNat 4)), .val (.int (1 : Int32)), .unset, .unset, .unset, .unset, .unset, .unset] [(.int (1 : Int32))])) _
        refine XS.ifNo X101.here hx rfl (hb hby at_163) rfl ((if0 _ _).trans (feq (by decide : ¬ ((1 : Int32) = (0 : Int32)))).1) ?_
        show Steps p.tables e below (T101.setTop (mkF m 166 #[.val (.int qa), .val (.int qb), .val (.int qx), .val (.int qy), .val (.int (Int32.ofNat r)), .val (.int (Int32.ofNat p0)), .val (.int (Int32.ofNat q0)), .val (.int (Int32.ofNat s0)), .val (.int (Int32.ofNat t0)), .val (.ref b7), .val (.ref b18), .val (.ref b25), .val (.ref b32), .val (.int (Int32.ofNat 0)), .val (.int (Int32.ofNat 4)), .val (.int (1 : Int32)), .unset, .unset, .unset, .unset, .unset, .unset] [])) _
        refine XS.iconst X101.here hx rfl (hb hby at_166) ?_
        show Steps p.tables e below (T101.setTop (mkF m 167 #[.val (.int qa), .val (.int qb), .val (.int qx), .val (.int qy), .val (.int (Int32.ofNat r)), .val (.int (Int32.ofNat p0)), .val (.int (Int32.ofNat q0)), .val (.int (Int32.ofNat s0)), .val (.int (Int32.ofNat t0)), .val (.ref b7), .val (.ref b18), .val (.ref b25), .val (.ref b32), .val (.int (Int32.ofNat 0)), .val (.int (Int32.ofNat 4)), .val (.int (1 : Int32)), .unset, .unset, .unset, .unset, .unset, .unset] [(.int (4 : Int32))])) _
        refine XS.goto X101.here hx rfl (pc0 := 167) (pc' := 171) rfl (hb hby at_167) (by decide) (by decide) ?_
        show Steps p.tables e below (T101.setTop (mkF m 171 #[.val (.int qa), .val (.int qb), .val (.int qx), .val (.int qy), .val (.int (Int32.ofNat r)), .val (.int (Int32.ofNat p0)), .val (.int (Int32.ofNat q0)), .val (.int (Int32.ofNat s0)), .val (.int (Int32.ofNat t0)), .val (.ref b7), .val (.ref b18), .val (.ref b25), .val (.ref b32), .val (.int (Int32.ofNat 0)), .val (.int (Int32.ofNat 4)), .val (.int (1 : Int32)), .unset, .unset, .unset, .unset, .unset, .unset] [(.int (4 : Int32))])) _
        refine XS.istore X101.here hx rfl (hb hby at_171) rfl (l' := #[.val (.int qa), .val (.int qb), .val (.int qx), .val (.int qy), .val (.int (Int32.ofNat r)), .val (.int (Int32.ofNat p0)), .val (.int (Int32.ofNat q0)), .val (.int (Int32.ofNat s0)), .val (.int (Int32.ofNat t0)), .val (.ref b7), .val (.ref b18), .val (.ref b25), .val (.ref b32), .val (.int (Int32.ofNat 0)), .val (.int (Int32.ofNat 4)), .val (.int (1 : Int32)), .val (.int (4 : Int32)), .unset, .unset, .unset, .unset, .unset]) rfl ?_
        show Steps p.tables e below (T101.setTop (mkF m 173 #[.val (.int qa), .val (.int qb), .val (.int qx), .val (.int qy), .val (.int (Int32.ofNat r)), .val (.int (Int32.ofNat p0)), .val (.int (Int32.ofNat q0)), .val (.int (Int32.ofNat s0)), .val (.int (Int32.ofNat t0)), .val (.ref b7), .val (.ref b18), .val (.ref b25), .val (.ref b32), .val (.int (Int32.ofNat 0)), .val (.int (Int32.ofNat 4)), .val (.int (1 : Int32)), .val (.int (4 : Int32)), .unset, .unset, .unset, .unset, .unset] [])) _
        refine XS.iload X101.here hx rfl (hb hby at_173) rfl ?_
        show Steps p.tables e below (T101.setTop (mkF m 175 #[.val (.int qa), .val (.int qb), .val (.int qx), .val (.int qy), .val (.int (Int32.ofNat r)), .val (.int (Int32.ofNat p0)), .val (.int (Int32.ofNat q0)), .val (.int (Int32.ofNat s0)), .val (.int (Int32.ofNat t0)), .val (.ref b7), .val (.ref b18), .val (.ref b25), .val (.ref b32), .val (.int (Int32.ofNat 0)), .val (.int (Int32.ofNat 4)), .val (.int (1 : Int32)), .val (.int (4 : Int32)), .unset, .unset, .unset, .unset, .unset] [(.int (4 : Int32))])) _
        refine XS.iconst X101.here hx rfl (hb hby at_175) ?_
        show Steps p.tables e below (T101.setTop (mkF m 176 #[.val (.int qa), .val (.int qb), .val (.int qx), .val (.int qy), .val (.int (Int32.ofNat r)), .val (.int (Int32.ofNat p0)), .val (.int (Int32.ofNat q0)), .val (.int (Int32.ofNat s0)), .val (.int (Int32.ofNat t0)), .val (.ref b7), .val (.ref b18), .val (.ref b25), .val (.ref b32), .val (.int (Int32.ofNat 0)), .val (.int (Int32.ofNat 4)), .val (.int (1 : Int32)), .val (.int (4 : Int32)), .unset, .unset, .unset, .unset, .unset] [(.int (2 : Int32)), (.int (4 : Int32))])) _
        refine XS.iadd X101.here hx rfl (hb hby at_176) rfl ?_
        show Steps p.tables e below (T101.setTop (mkF m 177 #[.val (.int qa), .val (.int qb), .val (.int qx), .val (.int qy), .val (.int (Int32.ofNat r)), .val (.int (Int32.ofNat p0)), .val (.int (Int32.ofNat q0)), .val (.int (Int32.ofNat s0)), .val (.int (Int32.ofNat t0)), .val (.ref b7), .val (.ref b18), .val (.ref b25), .val (.ref b32), .val (.int (Int32.ofNat 0)), .val (.int (Int32.ofNat 4)), .val (.int (1 : Int32)), .val (.int (4 : Int32)), .unset, .unset, .unset, .unset, .unset] [(.int (6 : Int32))])) _
        refine XS.istore X101.here hx rfl (hb hby at_177) rfl (l' := #[.val (.int qa), .val (.int qb), .val (.int qx), .val (.int qy), .val (.int (Int32.ofNat r)), .val (.int (Int32.ofNat p0)), .val (.int (Int32.ofNat q0)), .val (.int (Int32.ofNat s0)), .val (.int (Int32.ofNat t0)), .val (.ref b7), .val (.ref b18), .val (.ref b25), .val (.ref b32), .val (.int (Int32.ofNat 0)), .val (.int (Int32.ofNat 4)), .val (.int (1 : Int32)), .val (.int (4 : Int32)), .val (.int (6 : Int32)), .unset, .unset, .unset, .unset]) rfl ?_
        show Steps p.tables e below (T101.setTop (mkF m 179 #[.val (.int qa), .val (.int qb), .val (.int qx), .val (.int qy), .val (.int (Int32.ofNat r)), .val (.int (Int32.ofNat p0)), .val (.int (Int32.ofNat q0)), .val (.int (Int32.ofNat s0)), .val (.int (Int32.ofNat t0)), .val (.ref b7), .val (.ref b18), .val (.ref b25), .val (.ref b32), .val (.int (Int32.ofNat 0)), .val (.int (Int32.ofNat 4)), .val (.int (1 : Int32)), .val (.int (4 : Int32)), .val (.int (6 : Int32)), .unset, .unset, .unset, .unset] [])) _
        refine XS.iloadN X101.here hx rfl (hb hby at_179) rfl ?_
        show Steps p.tables e below (T101.setTop (mkF m 180 #[.val (.int qa), .val (.int qb), .val (.int qx), .val (.int qy), .val (.int (Int32.ofNat r)), .val (.int (Int32.ofNat p0)), .val (.int (Int32.ofNat q0)), .val (.int (Int32.ofNat s0)), .val (.int (Int32.ofNat t0)), .val (.ref b7), .val (.ref b18), .val (.ref b25), .val (.ref b32), .val (.int (Int32.ofNat 0)), .val (.int (Int32.ofNat 4)), .val (.int (1 : Int32)), .val (.int (4 : Int32)), .val (.int (6 : Int32)), .unset, .unset, .unset, .unset] [(.int qx)])) _
        refine X101.ldcInt hx hown (mvT hZ (hw _ (List.mem_of_getElem? (i := 52) rfl))) (g := (mkF m 180 #[.val (.int qa), .val (.int qb), .val (.int qx), .val (.int qy), .val (.int (Int32.ofNat r)), .val (.int (Int32.ofNat p0)), .val (.int (Int32.ofNat q0)), .val (.int (Int32.ofNat s0)), .val (.int (Int32.ofNat t0)), .val (.ref b7), .val (.ref b18), .val (.ref b25), .val (.ref b32), .val (.int (Int32.ofNat 0)), .val (.int (Int32.ofNat 4)), .val (.int (1 : Int32)), .val (.int (4 : Int32)), .val (.int (6 : Int32)), .unset, .unset, .unset, .unset] [(.int qx)])) rfl (hb hby at_180) _ ?_
        show Steps p.tables e below (T101.setTop (mkF m 182 #[.val (.int qa), .val (.int qb), .val (.int qx), .val (.int qy), .val (.int (Int32.ofNat r)), .val (.int (Int32.ofNat p0)), .val (.int (Int32.ofNat q0)), .val (.int (Int32.ofNat s0)), .val (.int (Int32.ofNat t0)), .val (.ref b7), .val (.ref b18), .val (.ref b25), .val (.ref b32), .val (.int (Int32.ofNat 0)), .val (.int (Int32.ofNat 4)), .val (.int (1 : Int32)), .val (.int (4 : Int32)), .val (.int (6 : Int32)), .unset, .unset, .unset, .unset] [(.int (2147483647 : Int32)), (.int qx)])) _
        refine XS.iand X101.here hx rfl (hb hby at_182) rfl ?_
        show Steps p.tables e below (T101.setTop (mkF m 183 #[.val (.int qa), .val (.int qb), .val (.int qx), .val (.int qy), .val (.int (Int32.ofNat r)), .val (.int (Int32.ofNat p0)), .val (.int (Int32.ofNat q0)), .val (.int (Int32.ofNat s0)), .val (.int (Int32.ofNat t0)), .val (.ref b7), .val (.ref b18), .val (.ref b25), .val (.ref b32), .val (.int (Int32.ofNat 0)), .val (.int (Int32.ofNat 4)), .val (.int (1 : Int32)), .val (.int (4 : Int32)), .val (.int (6 : Int32)), .unset, .unset, .unset, .unset] [(.int (qx &&& (2147483647 : Int32)))])) _
        refine XS.iload X101.here hx rfl (hb hby at_183) rfl ?_
        show Steps p.tables e below (T101.setTop (mkF m 185 #[.val (.int qa), .val (.int qb), .val (.int qx), .val (.int qy), .val (.int (Int32.ofNat r)), .val (.int (Int32.ofNat p0)), .val (.int (Int32.ofNat q0)), .val (.int (Int32.ofNat s0)), .val (.int (Int32.ofNat t0)), .val (.ref b7), .val (.ref b18), .val (.ref b25), .val (.ref b32), .val (.int (Int32.ofNat 0)), .val (.int (Int32.ofNat 4)), .val (.int (1 : Int32)), .val (.int (4 : Int32)), .val (.int (6 : Int32)), .unset, .unset, .unset, .unset] [(.int (6 : Int32)), (.int (qx &&& (2147483647 : Int32)))])) _
        refine iremM X101 hx rfl (hb hby at_185) rfl (by decide) ?_
        exact kt)
    obtain ⟨nd, hlnd, hend⟩ := own_rem (r := 6) (by decide) (by decide) (own_n7 qx)
    rw [show ((qx &&& (2147483647 : Int32)) % (6 : Int32)) = (Int32.ofNat nd) from hend] at pre103
    obtain ⟨F, hF⟩ : ∃ F : Nat → Int32, F = (own_ad (own_fl (own_ad (own_ad (own_ad (own_fl (fun _ => 0) (0 * r) (0 * r + r) (-1)) r 1 0 p0) r 2 1 q0) r 3 0 s0) (4 * r) (4 * r + r) (-1)) r 5 4 t0) := ⟨_, rfl⟩
    rw [← hF] at hT101
    have pre104 : Goes p e below s₁ (entryFrame m #[(.int qa), (.int qb), (.int qx), (.int qy)] maxLocals) T101 (mkF m 195 #[.val (.int qa), .val (.int qb), .val (.int qx), .val (.int qy), .val (.int (Int32.ofNat r)), .val (.int (Int32.ofNat p0)), .val (.int (Int32.ofNat q0)), .val (.int (Int32.ofNat s0)), .val (.int (Int32.ofNat t0)), .val (.ref b7), .val (.ref b18), .val (.ref b25), .val (.ref b32), .val (.int (Int32.ofNat 0)), .val (.int (Int32.ofNat 4)), .val (.int (1 : Int32)), .val (.int (4 : Int32)), .val (.int (6 : Int32)), .val (.int (Int32.ofNat nd)), .unset, .unset, .unset] [(.int ((qy &&& (2147483647 : Int32)) % (Int32.ofNat r)))]) := fun t kt => pre103 t (by
        show Steps p.tables e below (T101.setTop (mkF m 186 #[.val (.int qa), .val (.int qb), .val (.int qx), .val (.int qy), .val (.int (Int32.ofNat r)), .val (.int (Int32.ofNat p0)), .val (.int (Int32.ofNat q0)), .val (.int (Int32.ofNat s0)), .val (.int (Int32.ofNat t0)), .val (.ref b7), .val (.ref b18), .val (.ref b25), .val (.ref b32), .val (.int (Int32.ofNat 0)), .val (.int (Int32.ofNat 4)), .val (.int (1 : Int32)), .val (.int (4 : Int32)), .val (.int (6 : Int32)), .unset, .unset, .unset, .unset] [(.int (Int32.ofNat nd))])) _
        refine XS.istore X101.here hx rfl (hb hby at_186) rfl (l' := #[.val (.int qa), .val (.int qb), .val (.int qx), .val (.int qy), .val (.int (Int32.ofNat r)), .val (.int (Int32.ofNat p0)), .val (.int (Int32.ofNat q0)), .val (.int (Int32.ofNat s0)), .val (.int (Int32.ofNat t0)), .val (.ref b7), .val (.ref b18), .val (.ref b25), .val (.ref b32), .val (.int (Int32.ofNat 0)), .val (.int (Int32.ofNat 4)), .val (.int (1 : Int32)), .val (.int (4 : Int32)), .val (.int (6 : Int32)), .val (.int (Int32.ofNat nd)), .unset, .unset, .unset]) rfl ?_
        show Steps p.tables e below (T101.setTop (mkF m 188 #[.val (.int qa), .val (.int qb), .val (.int qx), .val (.int qy), .val (.int (Int32.ofNat r)), .val (.int (Int32.ofNat p0)), .val (.int (Int32.ofNat q0)), .val (.int (Int32.ofNat s0)), .val (.int (Int32.ofNat t0)), .val (.ref b7), .val (.ref b18), .val (.ref b25), .val (.ref b32), .val (.int (Int32.ofNat 0)), .val (.int (Int32.ofNat 4)), .val (.int (1 : Int32)), .val (.int (4 : Int32)), .val (.int (6 : Int32)), .val (.int (Int32.ofNat nd)), .unset, .unset, .unset] [])) _
        refine XS.iloadN X101.here hx rfl (hb hby at_188) rfl ?_
        show Steps p.tables e below (T101.setTop (mkF m 189 #[.val (.int qa), .val (.int qb), .val (.int qx), .val (.int qy), .val (.int (Int32.ofNat r)), .val (.int (Int32.ofNat p0)), .val (.int (Int32.ofNat q0)), .val (.int (Int32.ofNat s0)), .val (.int (Int32.ofNat t0)), .val (.ref b7), .val (.ref b18), .val (.ref b25), .val (.ref b32), .val (.int (Int32.ofNat 0)), .val (.int (Int32.ofNat 4)), .val (.int (1 : Int32)), .val (.int (4 : Int32)), .val (.int (6 : Int32)), .val (.int (Int32.ofNat nd)), .unset, .unset, .unset] [(.int qy)])) _
        refine X101.ldcInt hx hown (mvT hZ (hw _ (List.mem_of_getElem? (i := 52) rfl))) (g := (mkF m 189 #[.val (.int qa), .val (.int qb), .val (.int qx), .val (.int qy), .val (.int (Int32.ofNat r)), .val (.int (Int32.ofNat p0)), .val (.int (Int32.ofNat q0)), .val (.int (Int32.ofNat s0)), .val (.int (Int32.ofNat t0)), .val (.ref b7), .val (.ref b18), .val (.ref b25), .val (.ref b32), .val (.int (Int32.ofNat 0)), .val (.int (Int32.ofNat 4)), .val (.int (1 : Int32)), .val (.int (4 : Int32)), .val (.int (6 : Int32)), .val (.int (Int32.ofNat nd)), .unset, .unset, .unset] [(.int qy)])) rfl (hb hby at_189) _ ?_
        show Steps p.tables e below (T101.setTop (mkF m 191 #[.val (.int qa), .val (.int qb), .val (.int qx), .val (.int qy), .val (.int (Int32.ofNat r)), .val (.int (Int32.ofNat p0)), .val (.int (Int32.ofNat q0)), .val (.int (Int32.ofNat s0)), .val (.int (Int32.ofNat t0)), .val (.ref b7), .val (.ref b18), .val (.ref b25), .val (.ref b32), .val (.int (Int32.ofNat 0)), .val (.int (Int32.ofNat 4)), .val (.int (1 : Int32)), .val (.int (4 : Int32)), .val (.int (6 : Int32)), .val (.int (Int32.ofNat nd)), .unset, .unset, .unset] [(.int (2147483647 : Int32)), (.int qy)])) _
        refine XS.iand X101.here hx rfl (hb hby at_191) rfl ?_
        show Steps p.tables e below (T101.setTop (mkF m 192 #[.val (.int qa), .val (.int qb), .val (.int qx), .val (.int qy), .val (.int (Int32.ofNat r)), .val (.int (Int32.ofNat p0)), .val (.int (Int32.ofNat q0)), .val (.int (Int32.ofNat s0)), .val (.int (Int32.ofNat t0)), .val (.ref b7), .val (.ref b18), .val (.ref b25), .val (.ref b32), .val (.int (Int32.ofNat 0)), .val (.int (Int32.ofNat 4)), .val (.int (1 : Int32)), .val (.int (4 : Int32)), .val (.int (6 : Int32)), .val (.int (Int32.ofNat nd)), .unset, .unset, .unset] [(.int (qy &&& (2147483647 : Int32)))])) _
        refine XS.iload X101.here hx rfl (hb hby at_192) rfl ?_
        show Steps p.tables e below (T101.setTop (mkF m 194 #[.val (.int qa), .val (.int qb), .val (.int qx), .val (.int qy), .val (.int (Int32.ofNat r)), .val (.int (Int32.ofNat p0)), .val (.int (Int32.ofNat q0)), .val (.int (Int32.ofNat s0)), .val (.int (Int32.ofNat t0)), .val (.ref b7), .val (.ref b18), .val (.ref b25), .val (.ref b32), .val (.int (Int32.ofNat 0)), .val (.int (Int32.ofNat 4)), .val (.int (1 : Int32)), .val (.int (4 : Int32)), .val (.int (6 : Int32)), .val (.int (Int32.ofNat nd)), .unset, .unset, .unset] [(.int (Int32.ofNat r)), (.int (qy &&& (2147483647 : Int32)))])) _
        refine iremM X101 hx rfl (hb hby at_194) rfl (own_nz hr1 hr8) ?_
        exact kt)
    obtain ⟨ro, hlro, hero⟩ := own_rem hr1 hr8 (own_n8 qy)
    rw [show ((qy &&& (2147483647 : Int32)) % (Int32.ofNat r)) = (Int32.ofNat ro) from hero] at pre104
    have pre105 : Goes p e below s₁ (entryFrame m #[(.int qa), (.int qb), (.int qx), (.int qy)] maxLocals) T101 (mkF m 197 #[.val (.int qa), .val (.int qb), .val (.int qx), .val (.int qy), .val (.int (Int32.ofNat r)), .val (.int (Int32.ofNat p0)), .val (.int (Int32.ofNat q0)), .val (.int (Int32.ofNat s0)), .val (.int (Int32.ofNat t0)), .val (.ref b7), .val (.ref b18), .val (.ref b25), .val (.ref b32), .val (.int (Int32.ofNat 0)), .val (.int (Int32.ofNat 4)), .val (.int (1 : Int32)), .val (.int (4 : Int32)), .val (.int (6 : Int32)), .val (.int (Int32.ofNat nd)), .val (.int (Int32.ofNat ro)), .unset, .unset] []) := fun t kt => pre104 t (by
        show Steps p.tables e below (T101.setTop (mkF m 195 #[.val (.int qa), .val (.int qb), .val (.int qx), .val (.int qy), .val (.int (Int32.ofNat r)), .val (.int (Int32.ofNat p0)), .val (.int (Int32.ofNat q0)), .val (.int (Int32.ofNat s0)), .val (.int (Int32.ofNat t0)), .val (.ref b7), .val (.ref b18), .val (.ref b25), .val (.ref b32), .val (.int (Int32.ofNat 0)), .val (.int (Int32.ofNat 4)), .val (.int (1 : Int32)), .val (.int (4 : Int32)), .val (.int (6 : Int32)), .val (.int (Int32.ofNat nd)), .unset, .unset, .unset] [(.int (Int32.ofNat ro))])) _
        refine XS.istore X101.here hx rfl (hb hby at_195) rfl (l' := #[.val (.int qa), .val (.int qb), .val (.int qx), .val (.int qy), .val (.int (Int32.ofNat r)), .val (.int (Int32.ofNat p0)), .val (.int (Int32.ofNat q0)), .val (.int (Int32.ofNat s0)), .val (.int (Int32.ofNat t0)), .val (.ref b7), .val (.ref b18), .val (.ref b25), .val (.ref b32), .val (.int (Int32.ofNat 0)), .val (.int (Int32.ofNat 4)), .val (.int (1 : Int32)), .val (.int (4 : Int32)), .val (.int (6 : Int32)), .val (.int (Int32.ofNat nd)), .val (.int (Int32.ofNat ro)), .unset, .unset]) rfl ?_
        exact kt)
    obtain ⟨ex, hex, pre107⟩ : ∃ (ex : Int32), ((ex = (-1 : Int32) ∧ F (nd * r + ro) = (-1 : Int32)) ∨ (¬ (ex < (0 : Int32)) ∧ F (nd * r + ro) = ex)) ∧ Goes p e below s₁ (entryFrame m #[(.int qa), (.int qb), (.int qx), (.int qy)] maxLocals) T101 (mkF m 275 #[.val (.int qa), .val (.int qb), .val (.int qx), .val (.int qy), .val (.int (Int32.ofNat r)), .val (.int (Int32.ofNat p0)), .val (.int (Int32.ofNat q0)), .val (.int (Int32.ofNat s0)), .val (.int (Int32.ofNat t0)), .val (.ref b7), .val (.ref b18), .val (.ref b25), .val (.ref b32), .val (.int (Int32.ofNat 0)), .val (.int (Int32.ofNat 4)), .val (.int (1 : Int32)), .val (.int (4 : Int32)), .val (.int (6 : Int32)), .val (.int (Int32.ofNat nd)), .val (.int (Int32.ofNat ro)), .val (.int ex), .unset] []) := by
      have pre108 : Goes p e below s₁ (entryFrame m #[(.int qa), (.int qb), (.int qx), (.int qy)] maxLocals) T101 (mkF m 202 #[.val (.int qa), .val (.int qb), .val (.int qx), .val (.int qy), .val (.int (Int32.ofNat r)), .val (.int (Int32.ofNat p0)), .val (.int (Int32.ofNat q0)), .val (.int (Int32.ofNat s0)), .val (.int (Int32.ofNat t0)), .val (.ref b7), .val (.ref b18), .val (.ref b25), .val (.ref b32), .val (.int (Int32.ofNat 0)), .val (.int (Int32.ofNat 4)), .val (.int (1 : Int32)), .val (.int (4 : Int32)), .val (.int (6 : Int32)), .val (.int (Int32.ofNat nd)), .val (.int (Int32.ofNat ro)), .val (.int (-1 : Int32)), .unset] [(.int (Int32.ofNat nd))]) := fun t kt => pre105 t (by
          show Steps p.tables e below (T101.setTop (mkF m 197 #[.val (.int qa), .val (.int qb), .val (.int qx), .val (.int qy), .val (.int (Int32.ofNat r)), .val (.int (Int32.ofNat p0)), .val (.int (Int32.ofNat q0)), .val (.int (Int32.ofNat s0)), .val (.int (Int32.ofNat t0)), .val (.ref b7), .val (.ref b18), .val (.ref b25), .val (.ref b32), .val (.int (Int32.ofNat 0)), .val (.int (Int32.ofNat 4)), .val (.int (1 : Int32)), .val (.int (4 : Int32)), .val (.int (6 : Int32)), .val (.int (Int32.ofNat nd)), .val (.int (Int32.ofNat ro)), .unset, .unset] [])) _
          refine XS.iconst X101.here hx rfl (hb hby at_197) ?_
          show Steps p.tables e below (T101.setTop (mkF m 198 #[.val (.int qa), .val (.int qb), .val (.int qx), .val (.int qy), .val (.int (Int32.ofNat r)), .val (.int (Int32.ofNat p0)), .val (.int (Int32.ofNat q0)), .val (.int (Int32.ofNat s0)), .val (.int (Int32.ofNat t0)), .val (.ref b7), .val (.ref b18), .val (.ref b25), .val (.ref b32), .val (.int (Int32.ofNat 0)), .val (.int (Int32.ofNat 4)), .val (.int (1 : Int32)), .val (.int (4 : Int32)), .val (.int (6 : Int32)), .val (.int (Int32.ofNat nd)), .val (.int (Int32.ofNat ro)), .unset, .unset] [(.int (-1 : Int32))])) _
          refine XS.istore X101.here hx rfl (hb hby at_198) rfl (l' := #[.val (.int qa), .val (.int qb), .val (.int qx), .val (.int qy), .val (.int (Int32.ofNat r)), .val (.int (Int32.ofNat p0)), .val (.int (Int32.ofNat q0)), .val (.int (Int32.ofNat s0)), .val (.int (Int32.ofNat t0)), .val (.ref b7), .val (.ref b18), .val (.ref b25), .val (.ref b32), .val (.int (Int32.ofNat 0)), .val (.int (Int32.ofNat 4)), .val (.int (1 : Int32)), .val (.int (4 : Int32)), .val (.int (6 : Int32)), .val (.int (Int32.ofNat nd)), .val (.int (Int32.ofNat ro)), .val (.int (-1 : Int32)), .unset]) rfl ?_
          show Steps p.tables e below (T101.setTop (mkF m 200 #[.val (.int qa), .val (.int qb), .val (.int qx), .val (.int qy), .val (.int (Int32.ofNat r)), .val (.int (Int32.ofNat p0)), .val (.int (Int32.ofNat q0)), .val (.int (Int32.ofNat s0)), .val (.int (Int32.ofNat t0)), .val (.ref b7), .val (.ref b18), .val (.ref b25), .val (.ref b32), .val (.int (Int32.ofNat 0)), .val (.int (Int32.ofNat 4)), .val (.int (1 : Int32)), .val (.int (4 : Int32)), .val (.int (6 : Int32)), .val (.int (Int32.ofNat nd)), .val (.int (Int32.ofNat ro)), .val (.int (-1 : Int32)), .unset] [])) _
          refine XS.iload X101.here hx rfl (hb hby at_200) rfl ?_
          exact kt)
      by_cases hc202_109 : (Int32.ofNat nd) = (0 : Int32)
      · -- yes at pc 202: ff
        have hm110 : nd = 0 := own_inj (by omega) (by omega) hc202_109
        have pre111 : Goes p e below s₁ (entryFrame m #[(.int qa), (.int qb), (.int qx), (.int qy)] maxLocals) T101 (mkF m 209 #[.val (.int qa), .val (.int qb), .val (.int qx), .val (.int qy), .val (.int (Int32.ofNat r)), .val (.int (Int32.ofNat p0)), .val (.int (Int32.ofNat q0)), .val (.int (Int32.ofNat s0)), .val (.int (Int32.ofNat t0)), .val (.ref b7), .val (.ref b18), .val (.ref b25), .val (.ref b32), .val (.int (Int32.ofNat 0)), .val (.int (Int32.ofNat 4)), .val (.int (1 : Int32)), .val (.int (4 : Int32)), .val (.int (6 : Int32)), .val (.int (Int32.ofNat nd)), .val (.int (Int32.ofNat ro)), .val (.int (-1 : Int32)), .unset] [(.int (Int32.ofNat p0)), (.int (Int32.ofNat ro))]) := fun t kt => pre108 t (by
            show Steps p.tables e below (T101.setTop (mkF m 202 #[.val (.int qa), .val (.int qb), .val (.int qx), .val (.int qy), .val (.int (Int32.ofNat r)), .val (.int (Int32.ofNat p0)), .val (.int (Int32.ofNat q0)), .val (.int (Int32.ofNat s0)), .val (.int (Int32.ofNat t0)), .val (.ref b7), .val (.ref b18), .val (.ref b25), .val (.ref b32), .val (.int (Int32.ofNat 0)), .val (.int (Int32.ofNat 4)), .val (.int (1 : Int32)), .val (.int (4 : Int32)), .val (.int (6 : Int32)), .val (.int (Int32.ofNat nd)), .val (.int (Int32.ofNat ro)), .val (.int (-1 : Int32)), .unset] [(.int (Int32.ofNat nd))])) _
            refine XS.ifNo X101.here hx rfl (hb hby at_202) rfl ((if0 _ _).trans (teq hc202_109).2) ?_
            show Steps p.tables e below (T101.setTop (mkF m 205 #[.val (.int qa), .val (.int qb), .val (.int qx), .val (.int qy), .val (.int (Int32.ofNat r)), .val (.int (Int32.ofNat p0)), .val (.int (Int32.ofNat q0)), .val (.int (Int32.ofNat s0)), .val (.int (Int32.ofNat t0)), .val (.ref b7), .val (.ref b18), .val (.ref b25), .val (.ref b32), .val (.int (Int32.ofNat 0)), .val (.int (Int32.ofNat 4)), .val (.int (1 : Int32)), .val (.int (4 : Int32)), .val (.int (6 : Int32)), .val (.int (Int32.ofNat nd)), .val (.int (Int32.ofNat ro)), .val (.int (-1 : Int32)), .unset] [])) _
            refine XS.iload X101.here hx rfl (hb hby at_205) rfl ?_
            show Steps p.tables e below (T101.setTop (mkF m 207 #[.val (.int qa), .val (.int qb), .val (.int qx), .val (.int qy), .val (.int (Int32.ofNat r)), .val (.int (Int32.ofNat p0)), .val (.int (Int32.ofNat q0)), .val (.int (Int32.ofNat s0)), .val (.int (Int32.ofNat t0)), .val (.ref b7), .val (.ref b18), .val (.ref b25), .val (.ref b32), .val (.int (Int32.ofNat 0)), .val (.int (Int32.ofNat 4)), .val (.int (1 : Int32)), .val (.int (4 : Int32)), .val (.int (6 : Int32)), .val (.int (Int32.ofNat nd)), .val (.int (Int32.ofNat ro)), .val (.int (-1 : Int32)), .unset] [(.int (Int32.ofNat ro))])) _
            refine XS.iload X101.here hx rfl (hb hby at_207) rfl ?_
            exact kt)
        by_cases hc209_112 : (Int32.ofNat ro) = (Int32.ofNat p0)
        · -- yes at pc 209: fff
          have hm113 : ro = p0 := own_inj (by omega) (by omega) hc209_112
          have pre114 : Goes p e below s₁ (entryFrame m #[(.int qa), (.int qb), (.int qx), (.int qy)] maxLocals) T101 (mkF m 275 #[.val (.int qa), .val (.int qb), .val (.int qx), .val (.int qy), .val (.int (Int32.ofNat r)), .val (.int (Int32.ofNat p0)), .val (.int (Int32.ofNat q0)), .val (.int (Int32.ofNat s0)), .val (.int (Int32.ofNat t0)), .val (.ref b7), .val (.ref b18), .val (.ref b25), .val (.ref b32), .val (.int (Int32.ofNat 0)), .val (.int (Int32.ofNat 4)), .val (.int (1 : Int32)), .val (.int (4 : Int32)), .val (.int (6 : Int32)), .val (.int (Int32.ofNat nd)), .val (.int (Int32.ofNat ro)), .val (.int (1 : Int32)), .unset] []) := fun t kt => pre111 t (by
              show Steps p.tables e below (T101.setTop (mkF m 209 #[.val (.int qa), .val (.int qb), .val (.int qx), .val (.int qy), .val (.int (Int32.ofNat r)), .val (.int (Int32.ofNat p0)), .val (.int (Int32.ofNat q0)), .val (.int (Int32.ofNat s0)), .val (.int (Int32.ofNat t0)), .val (.ref b7), .val (.ref b18), .val (.ref b25), .val (.ref b32), .val (.int (Int32.ofNat 0)), .val (.int (Int32.ofNat 4)), .val (.int (1 : Int32)), .val (.int (4 : Int32)), .val (.int (6 : Int32)), .val (.int (Int32.ofNat nd)), .val (.int (Int32.ofNat ro)), .val (.int (-1 : Int32)), .unset] [(.int (Int32.ofNat p0)), (.int (Int32.ofNat ro))])) _
              refine XS.icmpNo X101.here hx rfl (hb hby at_209) rfl (teq hc209_112).2 ?_
              show Steps p.tables e below (T101.setTop (mkF m 212 #[.val (.int qa), .val (.int qb), .val (.int qx), .val (.int qy), .val (.int (Int32.ofNat r)), .val (.int (Int32.ofNat p0)), .val (.int (Int32.ofNat q0)), .val (.int (Int32.ofNat s0)), .val (.int (Int32.ofNat t0)), .val (.ref b7), .val (.ref b18), .val (.ref b25), .val (.ref b32), .val (.int (Int32.ofNat 0)), .val (.int (Int32.ofNat 4)), .val (.int (1 : Int32)), .val (.int (4 : Int32)), .val (.int (6 : Int32)), .val (.int (Int32.ofNat nd)), .val (.int (Int32.ofNat ro)), .val (.int (-1 : Int32)), .unset] [])) _
              refine XS.iconst X101.here hx rfl (hb hby at_212) ?_
              show Steps p.tables e below (T101.setTop (mkF m 213 #[.val (.int qa), .val (.int qb), .val (.int qx), .val (.int qy), .val (.int (Int32.ofNat r)), .val (.int (Int32.ofNat p0)), .val (.int (Int32.ofNat q0)), .val (.int (Int32.ofNat s0)), .val (.int (Int32.ofNat t0)), .val (.ref b7), .val (.ref b18), .val (.ref b25), .val (.ref b32), .val (.int (Int32.ofNat 0)), .val (.int (Int32.ofNat 4)), .val (.int (1 : Int32)), .val (.int (4 : Int32)), .val (.int (6 : Int32)), .val (.int (Int32.ofNat nd)), .val (.int (Int32.ofNat ro)), .val (.int (-1 : Int32)), .unset] [(.int (1 : Int32))])) _
              refine XS.istore X101.here hx rfl (hb hby at_213) rfl (l' := #[.val (.int qa), .val (.int qb), .val (.int qx), .val (.int qy), .val (.int (Int32.ofNat r)), .val (.int (Int32.ofNat p0)), .val (.int (Int32.ofNat q0)), .val (.int (Int32.ofNat s0)), .val (.int (Int32.ofNat t0)), .val (.ref b7), .val (.ref b18), .val (.ref b25), .val (.ref b32), .val (.int (Int32.ofNat 0)), .val (.int (Int32.ofNat 4)), .val (.int (1 : Int32)), .val (.int (4 : Int32)), .val (.int (6 : Int32)), .val (.int (Int32.ofNat nd)), .val (.int (Int32.ofNat ro)), .val (.int (1 : Int32)), .unset]) rfl ?_
              show Steps p.tables e below (T101.setTop (mkF m 215 #[.val (.int qa), .val (.int qb), .val (.int qx), .val (.int qy), .val (.int (Int32.ofNat r)), .val (.int (Int32.ofNat p0)), .val (.int (Int32.ofNat q0)), .val (.int (Int32.ofNat s0)), .val (.int (Int32.ofNat t0)), .val (.ref b7), .val (.ref b18), .val (.ref b25), .val (.ref b32), .val (.int (Int32.ofNat 0)), .val (.int (Int32.ofNat 4)), .val (.int (1 : Int32)), .val (.int (4 : Int32)), .val (.int (6 : Int32)), .val (.int (Int32.ofNat nd)), .val (.int (Int32.ofNat ro)), .val (.int (1 : Int32)), .unset] [])) _
              refine XS.goto X101.here hx rfl (pc0 := 215) (pc' := 275) rfl (hb hby at_215) (by decide) (by decide) ?_
              exact kt)
          exact ⟨(1 : Int32), (Or.inr ⟨by decide, (own_z33 r p0 q0 s0 t0 nd ro hr1 hr8 hlp0 hlq0 hls0 hlt0 hsp hlnd hlro hm110 hm113 F hF)⟩), pre114⟩
        · -- no at pc 209: fff
          have hm115 : ¬ ro = p0 := fun q => hc209_112 (by first | exact congrArg Int32.ofNat q | (rw [q]; rfl))
          have pre116 : Goes p e below s₁ (entryFrame m #[(.int qa), (.int qb), (.int qx), (.int qy)] maxLocals) T101 (mkF m 227 #[.val (.int qa), .val (.int qb), .val (.int qx), .val (.int qy), .val (.int (Int32.ofNat r)), .val (.int (Int32.ofNat p0)), .val (.int (Int32.ofNat q0)), .val (.int (Int32.ofNat s0)), .val (.int (Int32.ofNat t0)), .val (.ref b7), .val (.ref b18), .val (.ref b25), .val (.ref b32), .val (.int (Int32.ofNat 0)), .val (.int (Int32.ofNat 4)), .val (.int (1 : Int32)), .val (.int (4 : Int32)), .val (.int (6 : Int32)), .val (.int (Int32.ofNat nd)), .val (.int (Int32.ofNat ro)), .val (.int (-1 : Int32)), .unset] [(.int (Int32.ofNat s0)), (.int (Int32.ofNat ro))]) := fun t kt => pre111 t (by
              show Steps p.tables e below (T101.setTop (mkF m 209 #[.val (.int qa), .val (.int qb), .val (.int qx), .val (.int qy), .val (.int (Int32.ofNat r)), .val (.int (Int32.ofNat p0)), .val (.int (Int32.ofNat q0)), .val (.int (Int32.ofNat s0)), .val (.int (Int32.ofNat t0)), .val (.ref b7), .val (.ref b18), .val (.ref b25), .val (.ref b32), .val (.int (Int32.ofNat 0)), .val (.int (Int32.ofNat 4)), .val (.int (1 : Int32)), .val (.int (4 : Int32)), .val (.int (6 : Int32)), .val (.int (Int32.ofNat nd)), .val (.int (Int32.ofNat ro)), .val (.int (-1 : Int32)), .unset] [(.int (Int32.ofNat p0)), (.int (Int32.ofNat ro))])) _
              refine XS.icmpYes X101.here hx rfl (pc0 := 209) (pc' := 218) rfl (hb hby at_209) rfl (feq hc209_112).2 (by decide) (by decide) ?_
              show Steps p.tables e below (T101.setTop (mkF m 218 #[.val (.int qa), .val (.int qb), .val (.int qx), .val (.int qy), .val (.int (Int32.ofNat r)), .val (.int (Int32.ofNat p0)), .val (.int (Int32.ofNat q0)), .val (.int (Int32.ofNat s0)), .val (.int (Int32.ofNat t0)), .val (.ref b7), .val (.ref b18), .val (.ref b25), .val (.ref b32), .val (.int (Int32.ofNat 0)), .val (.int (Int32.ofNat 4)), .val (.int (1 : Int32)), .val (.int (4 : Int32)), .val (.int (6 : Int32)), .val (.int (Int32.ofNat nd)), .val (.int (Int32.ofNat ro)), .val (.int (-1 : Int32)), .unset] [])) _
              refine XS.iload X101.here hx rfl (hb hby at_218) rfl ?_
              show Steps p.tables e below (T101.setTop (mkF m 220 #[.val (.int qa), .val (.int qb), .val (.int qx), .val (.int qy), .val (.int (Int32.ofNat r)), .val (.int (Int32.ofNat p0)), .val (.int (Int32.ofNat q0)), .val (.int (Int32.ofNat s0)), .val (.int (Int32.ofNat t0)), .val (.ref b7), .val (.ref b18), .val (.ref b25), .val (.ref b32), .val (.int (Int32.ofNat 0)), .val (.int (Int32.ofNat 4)), .val (.int (1 : Int32)), .val (.int (4 : Int32)), .val (.int (6 : Int32)), .val (.int (Int32.ofNat nd)), .val (.int (Int32.ofNat ro)), .val (.int (-1 : Int32)), .unset] [(.int (1 : Int32))])) _
              refine XS.ifNo X101.here hx rfl (hb hby at_220) rfl ((if0 _ _).trans (feq (by decide : ¬ ((1 : Int32) = (0 : Int32)))).1) ?_
              show Steps p.tables e below (T101.setTop (mkF m 223 #[.val (.int qa), .val (.int qb), .val (.int qx), .val (.int qy), .val (.int (Int32.ofNat r)), .val (.int (Int32.ofNat p0)), .val (.int (Int32.ofNat q0)), .val (.int (Int32.ofNat s0)), .val (.int (Int32.ofNat t0)), .val (.ref b7), .val (.ref b18), .val (.ref b25), .val (.ref b32), .val (.int (Int32.ofNat 0)), .val (.int (Int32.ofNat 4)), .val (.int (1 : Int32)), .val (.int (4 : Int32)), .val (.int (6 : Int32)), .val (.int (Int32.ofNat nd)), .val (.int (Int32.ofNat ro)), .val (.int (-1 : Int32)), .unset] [])) _
              refine XS.iload X101.here hx rfl (hb hby at_223) rfl ?_
              show Steps p.tables e below (T101.setTop (mkF m 225 #[.val (.int qa), .val (.int qb), .val (.int qx), .val (.int qy), .val (.int (Int32.ofNat r)), .val (.int (Int32.ofNat p0)), .val (.int (Int32.ofNat q0)), .val (.int (Int32.ofNat s0)), .val (.int (Int32.ofNat t0)), .val (.ref b7), .val (.ref b18), .val (.ref b25), .val (.ref b32), .val (.int (Int32.ofNat 0)), .val (.int (Int32.ofNat 4)), .val (.int (1 : Int32)), .val (.int (4 : Int32)), .val (.int (6 : Int32)), .val (.int (Int32.ofNat nd)), .val (.int (Int32.ofNat ro)), .val (.int (-1 : Int32)), .unset] [(.int (Int32.ofNat ro))])) _
              refine XS.iload X101.here hx rfl (hb hby at_225) rfl ?_
              exact kt)
          by_cases hc227_117 : (Int32.ofNat ro) = (Int32.ofNat s0)
          · -- yes at pc 227: ffftf
            have hm118 : ro = s0 := own_inj (by omega) (by omega) hc227_117
            have pre119 : Goes p e below s₁ (entryFrame m #[(.int qa), (.int qb), (.int qx), (.int qy)] maxLocals) T101 (mkF m 275 #[.val (.int qa), .val (.int qb), .val (.int qx), .val (.int qy), .val (.int (Int32.ofNat r)), .val (.int (Int32.ofNat p0)), .val (.int (Int32.ofNat q0)), .val (.int (Int32.ofNat s0)), .val (.int (Int32.ofNat t0)), .val (.ref b7), .val (.ref b18), .val (.ref b25), .val (.ref b32), .val (.int (Int32.ofNat 0)), .val (.int (Int32.ofNat 4)), .val (.int (1 : Int32)), .val (.int (4 : Int32)), .val (.int (6 : Int32)), .val (.int (Int32.ofNat nd)), .val (.int (Int32.ofNat ro)), .val (.int (3 : Int32)), .unset] []) := fun t kt => pre116 t (by
                show Steps p.tables e below (T101.setTop (mkF m 227 #[.val (.int qa), .val (.int qb), .val (.int qx), .val (.int qy), .val (.int (Int32.ofNat r)), .val (.int (Int32.ofNat p0)), .val (.int (Int32.ofNat q0)), .val (.int (Int32.ofNat s0)), .val (.int (Int32.ofNat t0)), .val (.ref b7), .val (.ref b18), .val (.ref b25), .val (.ref b32), .val (.int (Int32.ofNat 0)), .val (.int (Int32.ofNat 4)), .val (.int (1 : Int32)), .val (.int (4 : Int32)), .val (.int (6 : Int32)), .val (.int (Int32.ofNat nd)), .val (.int (Int32.ofNat ro)), .val (.int (-1 : Int32)), .unset] [(.int (Int32.ofNat s0)), (.int (Int32.ofNat ro))])) _
                refine XS.icmpNo X101.here hx rfl (hb hby at_227) rfl (teq hc227_117).2 ?_
                show Steps p.tables e below (T101.setTop (mkF m 230 #[.val (.int qa), .val (.int qb), .val (.int qx), .val (.int qy), .val (.int (Int32.ofNat r)), .val (.int (Int32.ofNat p0)), .val (.int (Int32.ofNat q0)), .val (.int (Int32.ofNat s0)), .val (.int (Int32.ofNat t0)), .val (.ref b7), .val (.ref b18), .val (.ref b25), .val (.ref b32), .val (.int (Int32.ofNat 0)), .val (.int (Int32.ofNat 4)), .val (.int (1 : Int32)), .val (.int (4 : Int32)), .val (.int (6 : Int32)), .val (.int (Int32.ofNat nd)), .val (.int (Int32.ofNat ro)), .val (.int (-1 : Int32)), .unset] [])) _
                refine XS.iconst X101.here hx rfl (hb hby at_230) ?_
                show Steps p.tables e below (T101.setTop (mkF m 231 #[.val (.int qa), .val (.int qb), .val (.int qx), .val (.int qy), .val (.int (Int32.ofNat r)), .val (.int (Int32.ofNat p0)), .val (.int (Int32.ofNat q0)), .val (.int (Int32.ofNat s0)), .val (.int (Int32.ofNat t0)), .val (.ref b7), .val (.ref b18), .val (.ref b25), .val (.ref b32), .val (.int (Int32.ofNat 0)), .val (.int (Int32.ofNat 4)), .val (.int (1 : Int32)), .val (.int (4 : Int32)), .val (.int (6 : Int32)), .val (.int (Int32.ofNat nd)), .val (.int (Int32.ofNat ro)), .val (.int (-1 : Int32)), .unset] [(.int (3 : Int32))])) _
                refine XS.istore X101.here hx rfl (hb hby at_231) rfl (l' := #[.val (.int qa), .val (.int qb), .val (.int qx), .val (.int qy), .val (.int (Int32.ofNat r)), .val (.int (Int32.ofNat p0)), .val (.int (Int32.ofNat q0)), .val (.int (Int32.ofNat s0)), .val (.int (Int32.ofNat t0)), .val (.ref b7), .val (.ref b18), .val (.ref b25), .val (.ref b32), .val (.int (Int32.ofNat 0)), .val (.int (Int32.ofNat 4)), .val (.int (1 : Int32)), .val (.int (4 : Int32)), .val (.int (6 : Int32)), .val (.int (Int32.ofNat nd)), .val (.int (Int32.ofNat ro)), .val (.int (3 : Int32)), .unset]) rfl ?_
                show Steps p.tables e below (T101.setTop (mkF m 233 #[.val (.int qa), .val (.int qb), .val (.int qx), .val (.int qy), .val (.int (Int32.ofNat r)), .val (.int (Int32.ofNat p0)), .val (.int (Int32.ofNat q0)), .val (.int (Int32.ofNat s0)), .val (.int (Int32.ofNat t0)), .val (.ref b7), .val (.ref b18), .val (.ref b25), .val (.ref b32), .val (.int (Int32.ofNat 0)), .val (.int (Int32.ofNat 4)), .val (.int (1 : Int32)), .val (.int (4 : Int32)), .val (.int (6 : Int32)), .val (.int (Int32.ofNat nd)), .val (.int (Int32.ofNat ro)), .val (.int (3 : Int32)), .unset] [])) _
                refine XS.goto X101.here hx rfl (pc0 := 233) (pc' := 275) rfl (hb hby at_233) (by decide) (by decide) ?_
                exact kt)
            exact ⟨(3 : Int32), (Or.inr ⟨by decide, (own_z34 r p0 q0 s0 t0 nd ro hr1 hr8 hlp0 hlq0 hls0 hlt0 hsp hlnd hlro hm110 hm115 hm118 F hF)⟩), pre119⟩
          · -- no at pc 227: ffftf
            have hm120 : ¬ ro = s0 := fun q => hc227_117 (by first | exact congrArg Int32.ofNat q | (rw [q]; rfl))
            have pre121 : Goes p e below s₁ (entryFrame m #[(.int qa), (.int qb), (.int qx), (.int qy)] maxLocals) T101 (mkF m 275 #[.val (.int qa), .val (.int qb), .val (.int qx), .val (.int qy), .val (.int (Int32.ofNat r)), .val (.int (Int32.ofNat p0)), .val (.int (Int32.ofNat q0)), .val (.int (Int32.ofNat s0)), .val (.int (Int32.ofNat t0)), .val (.ref b7), .val (.ref b18), .val (.ref b25), .val (.ref b32), .val (.int (Int32.ofNat 0)), .val (.int (Int32.ofNat 4)), .val (.int (1 : Int32)), .val (.int (4 : Int32)), .val (.int (6 : Int32)), .val (.int (Int32.ofNat nd)), .val (.int (Int32.ofNat ro)), .val (.int (-1 : Int32)), .unset] []) := fun t kt => pre116 t (by
                show Steps p.tables e below (T101.setTop (mkF m 227 #[.val (.int qa), .val (.int qb), .val (.int qx), .val (.int qy), .val (.int (Int32.ofNat r)), .val (.int (Int32.ofNat p0)), .val (.int (Int32.ofNat q0)), .val (.int (Int32.ofNat s0)), .val (.int (Int32.ofNat t0)), .val (.ref b7), .val (.ref b18), .val (.ref b25), .val (.ref b32), .val (.int (Int32.ofNat 0)), .val (.int (Int32.ofNat 4)), .val (.int (1 : Int32)), .val (.int (4 : Int32)), .val (.int (6 : Int32)), .val (.int (Int32.ofNat nd)), .val (.int (Int32.ofNat ro)), .val (.int (-1 : Int32)), .unset] [(.int (Int32.ofNat s0)), (.int (Int32.ofNat ro))])) _
                refine XS.icmpYes X101.here hx rfl (pc0 := 227) (pc' := 275) rfl (hb hby at_227) rfl (feq hc227_117).2 (by decide) (by decide) ?_
                exact kt)
            exact ⟨(-1 : Int32), (Or.inl ⟨rfl, (own_z35 r p0 q0 s0 t0 nd ro hr1 hr8 hlp0 hlq0 hls0 hlt0 hsp hlnd hlro hm110 hm115 hm120 F hF)⟩), pre121⟩
      · -- no at pc 202: ff
        have hm122 : ¬ nd = 0 := fun q => hc202_109 (by first | exact congrArg Int32.ofNat q | (rw [q]; rfl))
        have pre123 : Goes p e below s₁ (entryFrame m #[(.int qa), (.int qb), (.int qx), (.int qy)] maxLocals) T101 (mkF m 239 #[.val (.int qa), .val (.int qb), .val (.int qx), .val (.int qy), .val (.int (Int32.ofNat r)), .val (.int (Int32.ofNat p0)), .val (.int (Int32.ofNat q0)), .val (.int (Int32.ofNat s0)), .val (.int (Int32.ofNat t0)), .val (.ref b7), .val (.ref b18), .val (.ref b25), .val (.ref b32), .val (.int (Int32.ofNat 0)), .val (.int (Int32.ofNat 4)), .val (.int (1 : Int32)), .val (.int (4 : Int32)), .val (.int (6 : Int32)), .val (.int (Int32.ofNat nd)), .val (.int (Int32.ofNat ro)), .val (.int (-1 : Int32)), .unset] [(.int (1 : Int32)), (.int (Int32.ofNat nd))]) := fun t kt => pre108 t (by
            show Steps p.tables e below (T101.setTop (mkF m 202 #[.val (.int qa), .val (.int qb), .val (.int qx), .val (.int qy), .val (.int (Int32.ofNat r)), .val (.int (Int32.ofNat p0)), .val (.int (Int32.ofNat q0)), .val (.int (Int32.ofNat s0)), .val (.int (Int32.ofNat t0)), .val (.ref b7), .val (.ref b18), .val (.ref b25), .val (.ref b32), .val (.int (Int32.ofNat 0)), .val (.int (Int32.ofNat 4)), .val (.int (1 : Int32)), .val (.int (4 : Int32)), .val (.int (6 : Int32)), .val (.int (Int32.ofNat nd)), .val (.int (Int32.ofNat ro)), .val (.int (-1 : Int32)), .unset] [(.int (Int32.ofNat nd))])) _
            refine XS.ifYes X101.here hx rfl (pc0 := 202) (pc' := 236) rfl (hb hby at_202) rfl ((if0 _ _).trans (feq hc202_109).2) (by decide) (by decide) ?_
            show Steps p.tables e below (T101.setTop (mkF m 236 #[.val (.int qa), .val (.int qb), .val (.int qx), .val (.int qy), .val (.int (Int32.ofNat r)), .val (.int (Int32.ofNat p0)), .val (.int (Int32.ofNat q0)), .val (.int (Int32.ofNat s0)), .val (.int (Int32.ofNat t0)), .val (.ref b7), .val (.ref b18), .val (.ref b25), .val (.ref b32), .val (.int (Int32.ofNat 0)), .val (.int (Int32.ofNat 4)), .val (.int (1 : Int32)), .val (.int (4 : Int32)), .val (.int (6 : Int32)), .val (.int (Int32.ofNat nd)), .val (.int (Int32.ofNat ro)), .val (.int (-1 : Int32)), .unset] [])) _
            refine XS.iload X101.here hx rfl (hb hby at_236) rfl ?_
            show Steps p.tables e below (T101.setTop (mkF m 238 #[.val (.int qa), .val (.int qb), .val (.int qx), .val (.int qy), .val (.int (Int32.ofNat r)), .val (.int (Int32.ofNat p0)), .val (.int (Int32.ofNat q0)), .val (.int (Int32.ofNat s0)), .val (.int (Int32.ofNat t0)), .val (.ref b7), .val (.ref b18), .val (.ref b25), .val (.ref b32), .val (.int (Int32.ofNat 0)), .val (.int (Int32.ofNat 4)), .val (.int (1 : Int32)), .val (.int (4 : Int32)), .val (.int (6 : Int32)), .val (.int (Int32.ofNat nd)), .val (.int (Int32.ofNat ro)), .val (.int (-1 : Int32)), .unset] [(.int (Int32.ofNat nd))])) _
            refine XS.iconst X101.here hx rfl (hb hby at_238) ?_
            exact kt)
        by_cases hc239_124 : (Int32.ofNat nd) = (1 : Int32)
        · -- yes at pc 239: fft
          have hm125 : nd = 1 := own_inj (by omega) (by omega) hc239_124
          have pre126 : Goes p e below s₁ (entryFrame m #[(.int qa), (.int qb), (.int qx), (.int qy)] maxLocals) T101 (mkF m 246 #[.val (.int qa), .val (.int qb), .val (.int qx), .val (.int qy), .val (.int (Int32.ofNat r)), .val (.int (Int32.ofNat p0)), .val (.int (Int32.ofNat q0)), .val (.int (Int32.ofNat s0)), .val (.int (Int32.ofNat t0)), .val (.ref b7), .val (.ref b18), .val (.ref b25), .val (.ref b32), .val (.int (Int32.ofNat 0)), .val (.int (Int32.ofNat 4)), .val (.int (1 : Int32)), .val (.int (4 : Int32)), .val (.int (6 : Int32)), .val (.int (Int32.ofNat nd)), .val (.int (Int32.ofNat ro)), .val (.int (-1 : Int32)), .unset] [(.int (Int32.ofNat q0)), (.int (Int32.ofNat ro))]) := fun t kt => pre123 t (by
              show Steps p.tables e below (T101.setTop (mkF m 239 #[.val (.int qa), .val (.int qb), .val (.int qx), .val (.int qy), .val (.int (Int32.ofNat r)), .val (.int (Int32.ofNat p0)), .val (.int (Int32.ofNat q0)), .val (.int (Int32.ofNat s0)), .val (.int (Int32.ofNat t0)), .val (.ref b7), .val (.ref b18), .val (.ref b25), .val (.ref b32), .val (.int (Int32.ofNat 0)), .val (.int (Int32.ofNat 4)), .val (.int (1 : Int32)), .val (.int (4 : Int32)), .val (.int (6 : Int32)), .val (.int (Int32.ofNat nd)), .val (.int (Int32.ofNat ro)), .val (.int (-1 : Int32)), .unset] [(.int (1 : Int32)), (.int (Int32.ofNat nd))])) _
              refine XS.icmpNo X101.here hx rfl (hb hby at_239) rfl (teq hc239_124).2 ?_
              show Steps p.tables e below (T101.setTop (mkF m 242 #[.val (.int qa), .val (.int qb), .val (.int qx), .val (.int qy), .val (.int (Int32.ofNat r)), .val (.int (Int32.ofNat p0)), .val (.int (Int32.ofNat q0)), .val (.int (Int32.ofNat s0)), .val (.int (Int32.ofNat t0)), .val (.ref b7), .val (.ref b18), .val (.ref b25), .val (.ref b32), .val (.int (Int32.ofNat 0)), .val (.int (Int32.ofNat 4)), .val (.int (1 : Int32)), .val (.int (4 : Int32)), .val (.int (6 : Int32)), .val (.int (Int32.ofNat nd)), .val (.int (Int32.ofNat ro)), .val (.int (-1 : Int32)), .unset] [])) _
              refine XS.iload X101.here hx rfl (hb hby at_242) rfl ?_
              show Steps p.tables e below (T101.setTop (mkF m 244 #[.val (.int qa), .val (.int qb), .val (.int qx), .val (.int qy), .val (.int (Int32.ofNat r)), .val (.int (Int32.ofNat p0)), .val (.int (Int32.ofNat q0)), .val (.int (Int32.ofNat s0)), .val (.int (Int32.ofNat t0)), .val (.ref b7), .val (.ref b18), .val (.ref b25), .val (.ref b32), .val (.int (Int32.ofNat 0)), .val (.int (Int32.ofNat 4)), .val (.int (1 : Int32)), .val (.int (4 : Int32)), .val (.int (6 : Int32)), .val (.int (Int32.ofNat nd)), .val (.int (Int32.ofNat ro)), .val (.int (-1 : Int32)), .unset] [(.int (Int32.ofNat ro))])) _
              refine XS.iload X101.here hx rfl (hb hby at_244) rfl ?_
              exact kt)
          by_cases hc246_127 : (Int32.ofNat ro) = (Int32.ofNat q0)
          · -- yes at pc 246: fftf
            have hm128 : ro = q0 := own_inj (by omega) (by omega) hc246_127
            have pre129 : Goes p e below s₁ (entryFrame m #[(.int qa), (.int qb), (.int qx), (.int qy)] maxLocals) T101 (mkF m 275 #[.val (.int qa), .val (.int qb), .val (.int qx), .val (.int qy), .val (.int (Int32.ofNat r)), .val (.int (Int32.ofNat p0)), .val (.int (Int32.ofNat q0)), .val (.int (Int32.ofNat s0)), .val (.int (Int32.ofNat t0)), .val (.ref b7), .val (.ref b18), .val (.ref b25), .val (.ref b32), .val (.int (Int32.ofNat 0)), .val (.int (Int32.ofNat 4)), .val (.int (1 : Int32)), .val (.int (4 : Int32)), .val (.int (6 : Int32)), .val (.int (Int32.ofNat nd)), .val (.int (Int32.ofNat ro)), .val (.int (2 : Int32)), .unset] []) := fun t kt => pre126 t (by
                show Steps p.tables e below (T101.setTop (mkF m 246 #[.val (.int qa), .val (.int qb), .val (.int qx), .val (.int qy), .val (.int (Int32.ofNat r)), .val (.int (Int32.ofNat p0)), .val (.int (Int32.ofNat q0)), .val (.int (Int32.ofNat s0)), .val (.int (Int32.ofNat t0)), .val (.ref b7), .val (.ref b18), .val (.ref b25), .val (.ref b32), .val (.int (Int32.ofNat 0)), .val (.int (Int32.ofNat 4)), .val (.int (1 : Int32)), .val (.int (4 : Int32)), .val (.int (6 : Int32)), .val (.int (Int32.ofNat nd)), .val (.int (Int32.ofNat ro)), .val (.int (-1 : Int32)), .unset] [(.int (Int32.ofNat q0)), (.int (Int32.ofNat ro))])) _
                refine XS.icmpNo X101.here hx rfl (hb hby at_246) rfl (teq hc246_127).2 ?_
                show Steps p.tables e below (T101.setTop (mkF m 249 #[.val (.int qa), .val (.int qb), .val (.int qx), .val (.int qy), .val (.int (Int32.ofNat r)), .val (.int (Int32.ofNat p0)), .val (.int (Int32.ofNat q0)), .val (.int (Int32.ofNat s0)), .val (.int (Int32.ofNat t0)), .val (.ref b7), .val (.ref b18), .val (.ref b25), .val (.ref b32), .val (.int (Int32.ofNat 0)), .val (.int (Int32.ofNat 4)), .val (.int (1 : Int32)), .val (.int (4 : Int32)), .val (.int (6 : Int32)), .val (.int (Int32.ofNat nd)), .val (.int (Int32.ofNat ro)), .val (.int (-1 : Int32)), .unset] [])) _
                refine XS.iconst X101.here hx rfl (hb hby at_249) ?_
                show Steps p.tables e below (T101.setTop (mkF m 250 #[.val (.int qa), .val (.int qb), .val (.int qx), .val (.int qy), .val (.int (Int32.ofNat r)), .val (.int (Int32.ofNat p0)), .val (.int (Int32.ofNat q0)), .val (.int (Int32.ofNat s0)), .val (.int (Int32.ofNat t0)), .val (.ref b7), .val (.ref b18), .val (.ref b25), .val (.ref b32), .val (.int (Int32.ofNat 0)), .val (.int (Int32.ofNat 4)), .val (.int (1 : Int32)), .val (.int (4 : Int32)), .val (.int (6 : Int32)), .val (.int (Int32.ofNat nd)), .val (.int (Int32.ofNat ro)), .val (.int (-1 : Int32)), .unset] [(.int (2 : Int32))])) _
                refine XS.istore X101.here hx rfl (hb hby at_250) rfl (l' := #[.val (.int qa), .val (.int qb), .val (.int qx), .val (.int qy), .val (.int (Int32.ofNat r)), .val (.int (Int32.ofNat p0)), .val (.int (Int32.ofNat q0)), .val (.int (Int32.ofNat s0)), .val (.int (Int32.ofNat t0)), .val (.ref b7), .val (.ref b18), .val (.ref b25), .val (.ref b32), .val (.int (Int32.ofNat 0)), .val (.int (Int32.ofNat 4)), .val (.int (1 : Int32)), .val (.int (4 : Int32)), .val (.int (6 : Int32)), .val (.int (Int32.ofNat nd)), .val (.int (Int32.ofNat ro)), .val (.int (2 : Int32)), .unset]) rfl ?_
                show Steps p.tables e below (T101.setTop (mkF m 252 #[.val (.int qa), .val (.int qb), .val (.int qx), .val (.int qy), .val (.int (Int32.ofNat r)), .val (.int (Int32.ofNat p0)), .val (.int (Int32.ofNat q0)), .val (.int (Int32.ofNat s0)), .val (.int (Int32.ofNat t0)), .val (.ref b7), .val (.ref b18), .val (.ref b25), .val (.ref b32), .val (.int (Int32.ofNat 0)), .val (.int (Int32.ofNat 4)), .val (.int (1 : Int32)), .val (.int (4 : Int32)), .val (.int (6 : Int32)), .val (.int (Int32.ofNat nd)), .val (.int (Int32.ofNat ro)), .val (.int (2 : Int32)), .unset] [])) _
                refine XS.goto X101.here hx rfl (pc0 := 252) (pc' := 275) rfl (hb hby at_252) (by decide) (by decide) ?_
                exact kt)
            exact ⟨(2 : Int32), (Or.inr ⟨by decide, (own_z36 r p0 q0 s0 t0 nd ro hr1 hr8 hlp0 hlq0 hls0 hlt0 hsp hlnd hlro hm122 hm125 hm128 F hF)⟩), pre129⟩
          · -- no at pc 246: fftf
            have hm130 : ¬ ro = q0 := fun q => hc246_127 (by first | exact congrArg Int32.ofNat q | (rw [q]; rfl))
            have pre131 : Goes p e below s₁ (entryFrame m #[(.int qa), (.int qb), (.int qx), (.int qy)] maxLocals) T101 (mkF m 275 #[.val (.int qa), .val (.int qb), .val (.int qx), .val (.int qy), .val (.int (Int32.ofNat r)), .val (.int (Int32.ofNat p0)), .val (.int (Int32.ofNat q0)), .val (.int (Int32.ofNat s0)), .val (.int (Int32.ofNat t0)), .val (.ref b7), .val (.ref b18), .val (.ref b25), .val (.ref b32), .val (.int (Int32.ofNat 0)), .val (.int (Int32.ofNat 4)), .val (.int (1 : Int32)), .val (.int (4 : Int32)), .val (.int (6 : Int32)), .val (.int (Int32.ofNat nd)), .val (.int (Int32.ofNat ro)), .val (.int (-1 : Int32)), .unset] []) := fun t kt => pre126 t (by
                show Steps p.tables e below (T101.setTop (mkF m 246 #[.val (.int qa), .val (.int qb), .val (.int qx), .val (.int qy), .val (.int (Int32.ofNat r)), .val (.int (Int32.ofNat p0)), .val (.int (Int32.ofNat q0)), .val (.int (Int32.ofNat s0)), .val (.int (Int32.ofNat t0)), .val (.ref b7), .val (.ref b18), .val (.ref b25), .val (.ref b32), .val (.int (Int32.ofNat 0)), .val (.int (Int32.ofNat 4)), .val (.int (1 : Int32)), .val (.int (4 : Int32)), .val (.int (6 : Int32)), .val (.int (Int32.ofNat nd)), .val (.int (Int32.ofNat ro)), .val (.int (-1 : Int32)), .unset] [(.int (Int32.ofNat q0)), (.int (Int32.ofNat ro))])) _
                refine XS.icmpYes X101.here hx rfl (pc0 := 246) (pc' := 275) rfl (hb hby at_246) rfl (feq hc246_127).2 (by decide) (by decide) ?_
                exact kt)
            exact ⟨(-1 : Int32), (Or.inl ⟨rfl, (own_z37 r p0 q0 s0 t0 nd ro hr1 hr8 hlp0 hlq0 hls0 hlt0 hsp hlnd hlro hm122 hm125 hm130 F hF)⟩), pre131⟩
        · -- no at pc 239: fft
          have hm132 : ¬ nd = 1 := fun q => hc239_124 (by first | exact congrArg Int32.ofNat q | (rw [q]; rfl))
          have pre133 : Goes p e below s₁ (entryFrame m #[(.int qa), (.int qb), (.int qx), (.int qy)] maxLocals) T101 (mkF m 259 #[.val (.int qa), .val (.int qb), .val (.int qx), .val (.int qy), .val (.int (Int32.ofNat r)), .val (.int (Int32.ofNat p0)), .val (.int (Int32.ofNat q0)), .val (.int (Int32.ofNat s0)), .val (.int (Int32.ofNat t0)), .val (.ref b7), .val (.ref b18), .val (.ref b25), .val (.ref b32), .val (.int (Int32.ofNat 0)), .val (.int (Int32.ofNat 4)), .val (.int (1 : Int32)), .val (.int (4 : Int32)), .val (.int (6 : Int32)), .val (.int (Int32.ofNat nd)), .val (.int (Int32.ofNat ro)), .val (.int (-1 : Int32)), .unset] [(.int (4 : Int32)), (.int (Int32.ofNat nd))]) := fun t kt => pre123 t (by
              show Steps p.tables e below (T101.setTop (mkF m 239 #[.val (.int qa), .val (.int qb), .val (.int qx), .val (.int qy), .val (.int (Int32.ofNat r)), .val (.int (Int32.ofNat p0)), .val (.int (Int32.ofNat q0)), .val (.int (Int32.ofNat s0)), .val (.int (Int32.ofNat t0)), .val (.ref b7), .val (.ref b18), .val (.ref b25), .val (.ref b32), .val (.int (Int32.ofNat 0)), .val (.int (Int32.ofNat 4)), .val (.int (1 : Int32)), .val (.int (4 : Int32)), .val (.int (6 : Int32)), .val (.int (Int32.ofNat nd)), .val (.int (Int32.ofNat ro)), .val (.int (-1 : Int32)), .unset] [(.int (1 : Int32)), (.int (Int32.ofNat nd))])) _
              refine XS.icmpYes X101.here hx rfl (pc0 := 239) (pc' := 255) rfl (hb hby at_239) rfl (feq hc239_124).2 (by decide) (by decide) ?_
              show Steps p.tables e below (T101.setTop (mkF m 255 #[.val (.int qa), .val (.int qb), .val (.int qx), .val (.int qy), .val (.int (Int32.ofNat r)), .val (.int (Int32.ofNat p0)), .val (.int (Int32.ofNat q0)), .val (.int (Int32.ofNat s0)), .val (.int (Int32.ofNat t0)), .val (.ref b7), .val (.ref b18), .val (.ref b25), .val (.ref b32), .val (.int (Int32.ofNat 0)), .val (.int (Int32.ofNat 4)), .val (.int (1 : Int32)), .val (.int (4 : Int32)), .val (.int (6 : Int32)), .val (.int (Int32.ofNat nd)), .val (.int (Int32.ofNat ro)), .val (.int (-1 : Int32)), .unset] [])) _
              refine XS.iload X101.here hx rfl (hb hby at_255) rfl ?_
              show Steps p.tables e below (T101.setTop (mkF m 257 #[.val (.int qa), .val (.int qb), .val (.int qx), .val (.int qy), .val (.int (Int32.ofNat r)), .val (.int (Int32.ofNat p0)), .val (.int (Int32.ofNat q0)), .val (.int (Int32.ofNat s0)), .val (.int (Int32.ofNat t0)), .val (.ref b7), .val (.ref b18), .val (.ref b25), .val (.ref b32), .val (.int (Int32.ofNat 0)), .val (.int (Int32.ofNat 4)), .val (.int (1 : Int32)), .val (.int (4 : Int32)), .val (.int (6 : Int32)), .val (.int (Int32.ofNat nd)), .val (.int (Int32.ofNat ro)), .val (.int (-1 : Int32)), .unset] [(.int (Int32.ofNat nd))])) _
              refine XS.iload X101.here hx rfl (hb hby at_257) rfl ?_
              exact kt)
          by_cases hc259_134 : (Int32.ofNat nd) = (4 : Int32)
          · -- yes at pc 259: fftt
            have hm135 : nd = 4 := own_inj (by omega) (by omega) hc259_134
            have pre136 : Goes p e below s₁ (entryFrame m #[(.int qa), (.int qb), (.int qx), (.int qy)] maxLocals) T101 (mkF m 266 #[.val (.int qa), .val (.int qb), .val (.int qx), .val (.int qy), .val (.int (Int32.ofNat r)), .val (.int (Int32.ofNat p0)), .val (.int (Int32.ofNat q0)), .val (.int (Int32.ofNat s0)), .val (.int (Int32.ofNat t0)), .val (.ref b7), .val (.ref b18), .val (.ref b25), .val (.ref b32), .val (.int (Int32.ofNat 0)), .val (.int (Int32.ofNat 4)), .val (.int (1 : Int32)), .val (.int (4 : Int32)), .val (.int (6 : Int32)), .val (.int (Int32.ofNat nd)), .val (.int (Int32.ofNat ro)), .val (.int (-1 : Int32)), .unset] [(.int (Int32.ofNat t0)), (.int (Int32.ofNat ro))]) := fun t kt => pre133 t (by
                show Steps p.tables e below (T101.setTop (mkF m 259 #[.val (.int qa), .val (.int qb), .val (.int qx), .val (.int qy), .val (.int (Int32.ofNat r)), .val (.int (Int32.ofNat p0)), .val (.int (Int32.ofNat q0)), .val (.int (Int32.ofNat s0)), .val (.int (Int32.ofNat t0)), .val (.ref b7), .val (.ref b18), .val (.ref b25), .val (.ref b32), .val (.int (Int32.ofNat 0)), .val (.int (Int32.ofNat 4)), .val (.int (1 : Int32)), .val (.int (4 : Int32)), .val (.int (6 : Int32)), .val (.int (Int32.ofNat nd)), .val (.int (Int32.ofNat ro)), .val (.int (-1 : Int32)), .unset] [(.int (4 : Int32)), (.int (Int32.ofNat nd))])) _
                refine XS.icmpNo X101.here hx rfl (hb hby at_259) rfl (teq hc259_134).2 ?_
                show Steps p.tables e below (T101.setTop (mkF m 262 #[.val (.int qa), .val (.int qb), .val (.int qx), .val (.int qy), .val (.int (Int32.ofNat r)), .val (.int (Int32.ofNat p0)), .val (.int (Int32.ofNat q0)), .val (.int (Int32.ofNat s0)), .val (.int (Int32.ofNat t0)), .val (.ref b7), .val (.ref b18), .val (.ref b25), .val (.ref b32), .val (.int (Int32.ofNat 0)), .val (.int (Int32.ofNat 4)), .val (.int (1 : Int32)), .val (.int (4 : Int32)), .val (.int (6 : Int32)), .val (.int (Int32.ofNat nd)), .val (.int (Int32.ofNat ro)), .val (.int (-1 : Int32)), .unset] [])) _
                refine XS.iload X101.here hx rfl (hb hby at_262) rfl ?_
                show Steps p.tables e below (T101.setTop (mkF m 264 #[.val (.int qa), .val (.int qb), .val (.int qx), .val (.int qy), .val (.int (Int32.ofNat r)), .val (.int (Int32.ofNat p0)), .val (.int (Int32.ofNat q0)), .val (.int (Int32.ofNat s0)), .val (.int (Int32.ofNat t0)), .val (.ref b7), .val (.ref b18), .val (.ref b25), .val (.ref b32), .val (.int (Int32.ofNat 0)), .val (.int (Int32.ofNat 4)), .val (.int (1 : Int32)), .val (.int (4 : Int32)), .val (.int (6 : Int32)), .val (.int (Int32.ofNat nd)), .val (.int (Int32.ofNat ro)), .val (.int (-1 : Int32)), .unset] [(.int (Int32.ofNat ro))])) _
                refine XS.iload X101.here hx rfl (hb hby at_264) rfl ?_
                exact kt)
            by_cases hc266_137 : (Int32.ofNat ro) = (Int32.ofNat t0)
            · -- yes at pc 266: ffttf
              have hm138 : ro = t0 := own_inj (by omega) (by omega) hc266_137
              have pre139 : Goes p e below s₁ (entryFrame m #[(.int qa), (.int qb), (.int qx), (.int qy)] maxLocals) T101 (mkF m 275 #[.val (.int qa), .val (.int qb), .val (.int qx), .val (.int qy), .val (.int (Int32.ofNat r)), .val (.int (Int32.ofNat p0)), .val (.int (Int32.ofNat q0)), .val (.int (Int32.ofNat s0)), .val (.int (Int32.ofNat t0)), .val (.ref b7), .val (.ref b18), .val (.ref b25), .val (.ref b32), .val (.int (Int32.ofNat 0)), .val (.int (Int32.ofNat 4)), .val (.int (1 : Int32)), .val (.int (4 : Int32)), .val (.int (6 : Int32)), .val (.int (Int32.ofNat nd)), .val (.int (Int32.ofNat ro)), .val (.int (5 : Int32)), .unset] []) := fun t kt => pre136 t (by
                  show Steps p.tables e below (T101.setTop (mkF m 266 #[.val (.int qa), .val (.int qb), .val (.int qx), .val (.int qy), .val (.int (Int32.ofNat r)), .val (.int (Int32.ofNat p0)), .val (.int (Int32.ofNat q0)), .val (.int (Int32.ofNat s0)), .val (.int (Int32.ofNat t0)), .val (.ref b7), .val (.ref b18), .val (.ref b25), .val (.ref b32), .val (.int (Int32.ofNat 0)), .val (.int (Int32.ofNat 4)), .val (.int (1 : Int32)), .val (.int (4 : Int32)), .val (.int (6 : Int32)), .val (.int (Int32.ofNat nd)), .val (.int (Int32.ofNat ro)), .val (.int (-1 : Int32)), .unset] [(.int (Int32.ofNat t0)), (.int (Int32.ofNat ro))])) _
                  refine XS.icmpNo X101.here hx rfl (hb hby at_266) rfl (teq hc266_137).2 ?_
                  show Steps p.tables e below (T101.setTop (mkF m 269 #[.val (.int qa), .val (.int qb), .val (.int qx), .val (.int qy), .val (.int (Int32.ofNat r)), .val (.int (Int32.ofNat p0)), .val (.int (Int32.ofNat q0)), .val (.int (Int32.ofNat s0)), .val (.int (Int32.ofNat t0)), .val (.ref b7), .val (.ref b18), .val (.ref b25), .val (.ref b32), .val (.int (Int32.ofNat 0)), .val (.int (Int32.ofNat 4)), .val (.int (1 : Int32)), .val (.int (4 : Int32)), .val (.int (6 : Int32)), .val (.int (Int32.ofNat nd)), .val (.int (Int32.ofNat ro)), .val (.int (-1 : Int32)), .unset] [])) _
                  refine XS.iload X101.here hx rfl (hb hby at_269) rfl ?_
                  show Steps p.tables e below (T101.setTop (mkF m 271 #[.val (.int qa), .val (.int qb), .val (.int qx), .val (.int qy), .val (.int (Int32.ofNat r)), .val (.int (Int32.ofNat p0)), .val (.int (Int32.ofNat q0)), .val (.int (Int32.ofNat s0)), .val (.int (Int32.ofNat t0)), .val (.ref b7), .val (.ref b18), .val (.ref b25), .val (.ref b32), .val (.int (Int32.ofNat 0)), .val (.int (Int32.ofNat 4)), .val (.int (1 : Int32)), .val (.int (4 : Int32)), .val (.int (6 : Int32)), .val (.int (Int32.ofNat nd)), .val (.int (Int32.ofNat ro)), .val (.int (-1 : Int32)), .unset] [(.int (4 : Int32))])) _
                  refine XS.iconst X101.here hx rfl (hb hby at_271) ?_
                  show Steps p.tables e below (T101.setTop (mkF m 272 #[.val (.int qa), .val (.int qb), .val (.int qx), .val (.int qy), .val (.int (Int32.ofNat r)), .val (.int (Int32.ofNat p0)), .val (.int (Int32.ofNat q0)), .val (.int (Int32.ofNat s0)), .val (.int (Int32.ofNat t0)), .val (.ref b7), .val (.ref b18), .val (.ref b25), .val (.ref b32), .val (.int (Int32.ofNat 0)), .val (.int (Int32.ofNat 4)), .val (.int (1 : Int32)), .val (.int (4 : Int32)), .val (.int (6 : Int32)), .val (.int (Int32.ofNat nd)), .val (.int (Int32.ofNat ro)), .val (.int (-1 : Int32)), .unset] [(.int (1 : Int32)), (.int (4 : Int32))])) _
                  refine XS.iadd X101.here hx rfl (hb hby at_272) rfl ?_
                  show Steps p.tables e below (T101.setTop (mkF m 273 #[.val (.int qa), .val (.int qb), .val (.int qx), .val (.int qy), .val (.int (Int32.ofNat r)), .val (.int (Int32.ofNat p0)), .val (.int (Int32.ofNat q0)), .val (.int (Int32.ofNat s0)), .val (.int (Int32.ofNat t0)), .val (.ref b7), .val (.ref b18), .val (.ref b25), .val (.ref b32), .val (.int (Int32.ofNat 0)), .val (.int (Int32.ofNat 4)), .val (.int (1 : Int32)), .val (.int (4 : Int32)), .val (.int (6 : Int32)), .val (.int (Int32.ofNat nd)), .val (.int (Int32.ofNat ro)), .val (.int (-1 : Int32)), .unset] [(.int (5 : Int32))])) _
                  refine XS.istore X101.here hx rfl (hb hby at_273) rfl (l' := #[.val (.int qa), .val (.int qb), .val (.int qx), .val (.int qy), .val (.int (Int32.ofNat r)), .val (.int (Int32.ofNat p0)), .val (.int (Int32.ofNat q0)), .val (.int (Int32.ofNat s0)), .val (.int (Int32.ofNat t0)), .val (.ref b7), .val (.ref b18), .val (.ref b25), .val (.ref b32), .val (.int (Int32.ofNat 0)), .val (.int (Int32.ofNat 4)), .val (.int (1 : Int32)), .val (.int (4 : Int32)), .val (.int (6 : Int32)), .val (.int (Int32.ofNat nd)), .val (.int (Int32.ofNat ro)), .val (.int (5 : Int32)), .unset]) rfl ?_
                  exact kt)
              exact ⟨(5 : Int32), (Or.inr ⟨by decide, (own_z38 r p0 q0 s0 t0 nd ro hr1 hr8 hlp0 hlq0 hls0 hlt0 hsp hlnd hlro hm122 hm132 hm135 hm138 F hF)⟩), pre139⟩
            · -- no at pc 266: ffttf
              have hm140 : ¬ ro = t0 := fun q => hc266_137 (by first | exact congrArg Int32.ofNat q | (rw [q]; rfl))
              have pre141 : Goes p e below s₁ (entryFrame m #[(.int qa), (.int qb), (.int qx), (.int qy)] maxLocals) T101 (mkF m 275 #[.val (.int qa), .val (.int qb), .val (.int qx), .val (.int qy), .val (.int (Int32.ofNat r)), .val (.int (Int32.ofNat p0)), .val (.int (Int32.ofNat q0)), .val (.int (Int32.ofNat s0)), .val (.int (Int32.ofNat t0)), .val (.ref b7), .val (.ref b18), .val (.ref b25), .val (.ref b32), .val (.int (Int32.ofNat 0)), .val (.int (Int32.ofNat 4)), .val (.int (1 : Int32)), .val (.int (4 : Int32)), .val (.int (6 : Int32)), .val (.int (Int32.ofNat nd)), .val (.int (Int32.ofNat ro)), .val (.int (-1 : Int32)), .unset] []) := fun t kt => pre136 t (by
                  show Steps p.tables e below (T101.setTop (mkF m 266 #[.val (.int qa), .val (.int qb), .val (.int qx), .val (.int qy), .val (.int (Int32.ofNat r)), .val (.int (Int32.ofNat p0)), .val (.int (Int32.ofNat q0)), .val (.int (Int32.ofNat s0)), .val (.int (Int32.ofNat t0)), .val (.ref b7), .val (.ref b18), .val (.ref b25), .val (.ref b32), .val (.int (Int32.ofNat 0)), .val (.int (Int32.ofNat 4)), .val (.int (1 : Int32)), .val (.int (4 : Int32)), .val (.int (6 : Int32)), .val (.int (Int32.ofNat nd)), .val (.int (Int32.ofNat ro)), .val (.int (-1 : Int32)), .unset] [(.int (Int32.ofNat t0)), (.int (Int32.ofNat ro))])) _
                  refine XS.icmpYes X101.here hx rfl (pc0 := 266) (pc' := 275) rfl (hb hby at_266) rfl (feq hc266_137).2 (by decide) (by decide) ?_
                  exact kt)
              exact ⟨(-1 : Int32), (Or.inl ⟨rfl, (own_z39 r p0 q0 s0 t0 nd ro hr1 hr8 hlp0 hlq0 hls0 hlt0 hsp hlnd hlro hm122 hm132 hm135 hm140 F hF)⟩), pre141⟩
          · -- no at pc 259: fftt
            have hm142 : ¬ nd = 4 := fun q => hc259_134 (by first | exact congrArg Int32.ofNat q | (rw [q]; rfl))
            have pre143 : Goes p e below s₁ (entryFrame m #[(.int qa), (.int qb), (.int qx), (.int qy)] maxLocals) T101 (mkF m 275 #[.val (.int qa), .val (.int qb), .val (.int qx), .val (.int qy), .val (.int (Int32.ofNat r)), .val (.int (Int32.ofNat p0)), .val (.int (Int32.ofNat q0)), .val (.int (Int32.ofNat s0)), .val (.int (Int32.ofNat t0)), .val (.ref b7), .val (.ref b18), .val (.ref b25), .val (.ref b32), .val (.int (Int32.ofNat 0)), .val (.int (Int32.ofNat 4)), .val (.int (1 : Int32)), .val (.int (4 : Int32)), .val (.int (6 : Int32)), .val (.int (Int32.ofNat nd)), .val (.int (Int32.ofNat ro)), .val (.int (-1 : Int32)), .unset] []) := fun t kt => pre133 t (by
                show Steps p.tables e below (T101.setTop (mkF m 259 #[.val (.int qa), .val (.int qb), .val (.int qx), .val (.int qy), .val (.int (Int32.ofNat r)), .val (.int (Int32.ofNat p0)), .val (.int (Int32.ofNat q0)), .val (.int (Int32.ofNat s0)), .val (.int (Int32.ofNat t0)), .val (.ref b7), .val (.ref b18), .val (.ref b25), .val (.ref b32), .val (.int (Int32.ofNat 0)), .val (.int (Int32.ofNat 4)), .val (.int (1 : Int32)), .val (.int (4 : Int32)), .val (.int (6 : Int32)), .val (.int (Int32.ofNat nd)), .val (.int (Int32.ofNat ro)), .val (.int (-1 : Int32)), .unset] [(.int (4 : Int32)), (.int (Int32.ofNat nd))])) _
                refine XS.icmpYes X101.here hx rfl (pc0 := 259) (pc' := 275) rfl (hb hby at_259) rfl (feq hc259_134).2 (by decide) (by decide) ?_
                exact kt)
            exact ⟨(-1 : Int32), (Or.inl ⟨rfl, (own_z40 r p0 q0 s0 t0 nd ro hr1 hr8 hlp0 hlq0 hls0 hlt0 hsp hlnd hlro hm122 hm132 hm142 F hF)⟩), pre143⟩
    have pre144 : Goes p e below s₁ (entryFrame m #[(.int qa), (.int qb), (.int qx), (.int qy)] maxLocals) T101 (mkF m 281 #[.val (.int qa), .val (.int qb), .val (.int qx), .val (.int qy), .val (.int (Int32.ofNat r)), .val (.int (Int32.ofNat p0)), .val (.int (Int32.ofNat q0)), .val (.int (Int32.ofNat s0)), .val (.int (Int32.ofNat t0)), .val (.ref b7), .val (.ref b18), .val (.ref b25), .val (.ref b32), .val (.int (Int32.ofNat 0)), .val (.int (Int32.ofNat 4)), .val (.int (1 : Int32)), .val (.int (4 : Int32)), .val (.int (6 : Int32)), .val (.int (Int32.ofNat nd)), .val (.int (Int32.ofNat ro)), .val (.int ex), .unset] [(.int (Int32.ofNat ro)), (.int (Int32.ofNat nd)), (.ref b32)]) := fun t kt => pre107 t (by
        show Steps p.tables e below (T101.setTop (mkF m 275 #[.val (.int qa), .val (.int qb), .val (.int qx), .val (.int qy), .val (.int (Int32.ofNat r)), .val (.int (Int32.ofNat p0)), .val (.int (Int32.ofNat q0)), .val (.int (Int32.ofNat s0)), .val (.int (Int32.ofNat t0)), .val (.ref b7), .val (.ref b18), .val (.ref b25), .val (.ref b32), .val (.int (Int32.ofNat 0)), .val (.int (Int32.ofNat 4)), .val (.int (1 : Int32)), .val (.int (4 : Int32)), .val (.int (6 : Int32)), .val (.int (Int32.ofNat nd)), .val (.int (Int32.ofNat ro)), .val (.int ex), .unset] [])) _
        refine XS.aload X101.here hx rfl (hb hby at_275) rfl rfl ?_
        show Steps p.tables e below (T101.setTop (mkF m 277 #[.val (.int qa), .val (.int qb), .val (.int qx), .val (.int qy), .val (.int (Int32.ofNat r)), .val (.int (Int32.ofNat p0)), .val (.int (Int32.ofNat q0)), .val (.int (Int32.ofNat s0)), .val (.int (Int32.ofNat t0)), .val (.ref b7), .val (.ref b18), .val (.ref b25), .val (.ref b32), .val (.int (Int32.ofNat 0)), .val (.int (Int32.ofNat 4)), .val (.int (1 : Int32)), .val (.int (4 : Int32)), .val (.int (6 : Int32)), .val (.int (Int32.ofNat nd)), .val (.int (Int32.ofNat ro)), .val (.int ex), .unset] [(.ref b32)])) _
        refine XS.iload X101.here hx rfl (hb hby at_277) rfl ?_
        show Steps p.tables e below (T101.setTop (mkF m 279 #[.val (.int qa), .val (.int qb), .val (.int qx), .val (.int qy), .val (.int (Int32.ofNat r)), .val (.int (Int32.ofNat p0)), .val (.int (Int32.ofNat q0)), .val (.int (Int32.ofNat s0)), .val (.int (Int32.ofNat t0)), .val (.ref b7), .val (.ref b18), .val (.ref b25), .val (.ref b32), .val (.int (Int32.ofNat 0)), .val (.int (Int32.ofNat 4)), .val (.int (1 : Int32)), .val (.int (4 : Int32)), .val (.int (6 : Int32)), .val (.int (Int32.ofNat nd)), .val (.int (Int32.ofNat ro)), .val (.int ex), .unset] [(.int (Int32.ofNat nd)), (.ref b32)])) _
        refine XS.iload X101.here hx rfl (hb hby at_279) rfl ?_
        exact kt)
    obtain ⟨cq145, kq145, q145a, q145b, q145c⟩ := isOf hZ rfl ((((((A32.keep K35q).keep K38q).keep K41q).keep K95q).keep K98q).keep K101q)
    obtain ⟨_, _, ⟨T145, L145, k145, n145⟩, -, X145, ⟨Lc145, hQ145, l145, y145, z145⟩, st145⟩ := X101.virtualBack hx (y := (⟨"com/example/unicept/unicept/WordTrie", "child", "(II)I"⟩ : MethodName)) (z := (⟨"com/example/unicept/unicept/WordTrie", "child", "(II)I"⟩ : MethodName)) hown (mvT hZ (hw _ (List.mem_of_getElem? (i := 53) rfl))) (mvT hZ (hw _ (List.mem_of_getElem? (i := 48) rfl))) (notFace_of_selects (args := #[]) (mvT hZ (hw _ (List.mem_of_getElem? (i := 50) rfl)))) (mvT hZ (hw _ (List.mem_of_getElem? (i := 50) rfl))) (mvT hZ (hw _ (List.mem_of_getElem? (i := 49) rfl))) (by decide) (backOf (W := 0) (own_child l Z a0 hw [] b32 r 6 ch F rt (own_up (own_up (own_up (own_up (own_up (own_up (fun _ => 0) 0 (Int32.ofNat 0)) 1 ((own_up (fun _ => 0) 0 (Int32.ofNat 0)) 0)) 2 ((own_up (own_up (fun _ => 0) 0 (Int32.ofNat 0)) 1 ((own_up (fun _ => 0) 0 (Int32.ofNat 0)) 0)) 1)) 3 ((own_up (own_up (own_up (fun _ => 0) 0 (Int32.ofNat 0)) 1 ((own_up (fun _ => 0) 0 (Int32.ofNat 0)) 0)) 2 ((own_up (own_up (fun _ => 0) 0 (Int32.ofNat 0)) 1 ((own_up (fun _ => 0) 0 (Int32.ofNat 0)) 0)) 1)) 0)) 4 (Int32.ofNat 4)) 5 ((own_up (own_up (own_up (own_up (own_up (fun _ => 0) 0 (Int32.ofNat 0)) 1 ((own_up (fun _ => 0) 0 (Int32.ofNat 0)) 0)) 2 ((own_up (own_up (fun _ => 0) 0 (Int32.ofNat 0)) 1 ((own_up (fun _ => 0) 0 (Int32.ofNat 0)) 0)) 1)) 3 ((own_up (own_up (own_up (fun _ => 0) 0 (Int32.ofNat 0)) 1 ((own_up (fun _ => 0) 0 (Int32.ofNat 0)) 0)) 2 ((own_up (own_up (fun _ => 0) 0 (Int32.ofNat 0)) 1 ((own_up (fun _ => 0) 0 (Int32.ofNat 0)) 0)) 1)) 0)) 4 (Int32.ofNat 4)) 4)) tg kt (List.replicate 16 .null) nd ro T101.heap n0 (Nat.le_trans (Nat.le_trans (Nat.le_trans (Nat.le_trans (Nat.le_trans (Nat.le_trans (Nat.le_trans (Nat.le_trans (Nat.le_trans (Nat.le_trans (Nat.le_trans (Nat.le_trans (Nat.le_trans (Nat.le_trans Z0 E7.1) (Keep.of_wr W11).1) (Keep.of_wr W15).1) E18.1) (Keep.of_wr W22).1) E25.1) (Keep.of_wr W29).1) E32.1) K35q.1) K38q.1) K41q.1) K95q.1) K98q.1) K101q.1) hT101 hr8 (own_ix (k := 6) hlnd (by decide) hlro)) hZ (hw _ (List.mem_of_getElem? (i := 51) rfl)) (hw _ (List.mem_of_getElem? (i := 3) rfl)) (by decide) (by decide)) q145a q145c (g := (mkF m 281 #[.val (.int qa), .val (.int qb), .val (.int qx), .val (.int qy), .val (.int (Int32.ofNat r)), .val (.int (Int32.ofNat p0)), .val (.int (Int32.ofNat q0)), .val (.int (Int32.ofNat s0)), .val (.int (Int32.ofNat t0)), .val (.ref b7), .val (.ref b18), .val (.ref b25), .val (.ref b32), .val (.int (Int32.ofNat 0)), .val (.int (Int32.ofNat 4)), .val (.int (1 : Int32)), .val (.int (4 : Int32)), .val (.int (6 : Int32)), .val (.int (Int32.ofNat nd)), .val (.int (Int32.ofNat ro)), .val (.int ex), .unset] [(.int (Int32.ofNat ro)), (.int (Int32.ofNat nd)), (.ref b32)])) rfl (by rw [hml]; rfl) (Steps.refl _) (argsL := [(.int (Int32.ofNat nd)), (.int (Int32.ofNat ro))]) (rest := []) (lenOf own_pd3 rfl) rfl (by show 2 * 0 + _ ≤ _; exact Nat.le_of_eq rfl) (hb hby at_281) (fun _ _ => ⟨rfl, rfl, (by decide : 7 + 0 ≤ _), (by decide : 169 + 0 ≤ _)⟩)
    dsimp only [Pt.U, Pt.locs, Pt.cells, Pt.slots] at X145 l145 y145 z145 st145 hQ145
    subst l145 y145 z145
    obtain ⟨rfl, N145q, e145⟩ := hQ145
    have N145 := Fr.app N101 N145q
    have pre146 : Goes p e below s₁ (entryFrame m #[(.int qa), (.int qb), (.int qx), (.int qy)] maxLocals) T145 (mkF m 284 #[.val (.int qa), .val (.int qb), .val (.int qx), .val (.int qy), .val (.int (Int32.ofNat r)), .val (.int (Int32.ofNat p0)), .val (.int (Int32.ofNat q0)), .val (.int (Int32.ofNat s0)), .val (.int (Int32.ofNat t0)), .val (.ref b7), .val (.ref b18), .val (.ref b25), .val (.ref b32), .val (.int (Int32.ofNat 0)), .val (.int (Int32.ofNat 4)), .val (.int (1 : Int32)), .val (.int (4 : Int32)), .val (.int (6 : Int32)), .val (.int (Int32.ofNat nd)), .val (.int (Int32.ofNat ro)), .val (.int ex), .unset] [(.int (F (nd * r + ro)))]) := fun t kt => pre144 t (st145.trans kt)
    have pre147 : Goes p e below s₁ (entryFrame m #[(.int qa), (.int qb), (.int qx), (.int qy)] maxLocals) T145 (mkF m 288 #[.val (.int qa), .val (.int qb), .val (.int qx), .val (.int qy), .val (.int (Int32.ofNat r)), .val (.int (Int32.ofNat p0)), .val (.int (Int32.ofNat q0)), .val (.int (Int32.ofNat s0)), .val (.int (Int32.ofNat t0)), .val (.ref b7), .val (.ref b18), .val (.ref b25), .val (.ref b32), .val (.int (Int32.ofNat 0)), .val (.int (Int32.ofNat 4)), .val (.int (1 : Int32)), .val (.int (4 : Int32)), .val (.int (6 : Int32)), .val (.int (Int32.ofNat nd)), .val (.int (Int32.ofNat ro)), .val (.int ex), .val (.int (F (nd * r + ro)))] [(.int ex)]) := fun t kt => pre146 t (by
        show Steps p.tables e below (T145.setTop (mkF m 284 #[.val (.int qa), .val (.int qb), .val (.int qx), .val (.int qy), .val (.int (Int32.ofNat r)), .val (.int (Int32.ofNat p0)), .val (.int (Int32.ofNat q0)), .val (.int (Int32.ofNat s0)), .val (.int (Int32.ofNat t0)), .val (.ref b7), .val (.ref b18), .val (.ref b25), .val (.ref b32), .val (.int (Int32.ofNat 0)), .val (.int (Int32.ofNat 4)), .val (.int (1 : Int32)), .val (.int (4 : Int32)), .val (.int (6 : Int32)), .val (.int (Int32.ofNat nd)), .val (.int (Int32.ofNat ro)), .val (.int ex), .unset] [(.int (F (nd * r + ro)))])) _
        refine XS.istore X145.here hx rfl (hb hby at_284) rfl (l' := #[.val (.int qa), .val (.int qb), .val (.int qx), .val (.int qy), .val (.int (Int32.ofNat r)), .val (.int (Int32.ofNat p0)), .val (.int (Int32.ofNat q0)), .val (.int (Int32.ofNat s0)), .val (.int (Int32.ofNat t0)), .val (.ref b7), .val (.ref b18), .val (.ref b25), .val (.ref b32), .val (.int (Int32.ofNat 0)), .val (.int (Int32.ofNat 4)), .val (.int (1 : Int32)), .val (.int (4 : Int32)), .val (.int (6 : Int32)), .val (.int (Int32.ofNat nd)), .val (.int (Int32.ofNat ro)), .val (.int ex), .val (.int (F (nd * r + ro)))]) rfl ?_
        show Steps p.tables e below (T145.setTop (mkF m 286 #[.val (.int qa), .val (.int qb), .val (.int qx), .val (.int qy), .val (.int (Int32.ofNat r)), .val (.int (Int32.ofNat p0)), .val (.int (Int32.ofNat q0)), .val (.int (Int32.ofNat s0)), .val (.int (Int32.ofNat t0)), .val (.ref b7), .val (.ref b18), .val (.ref b25), .val (.ref b32), .val (.int (Int32.ofNat 0)), .val (.int (Int32.ofNat 4)), .val (.int (1 : Int32)), .val (.int (4 : Int32)), .val (.int (6 : Int32)), .val (.int (Int32.ofNat nd)), .val (.int (Int32.ofNat ro)), .val (.int ex), .val (.int (F (nd * r + ro)))] [])) _
        refine XS.iload X145.here hx rfl (hb hby at_286) rfl ?_
        exact kt)
    by_cases hc288_148 : ex < (0 : Int32)
    · -- yes at pc 288: ff
      have pre149 : Goes p e below s₁ (entryFrame m #[(.int qa), (.int qb), (.int qx), (.int qy)] maxLocals) T145 (mkF m 316 #[.val (.int qa), .val (.int qb), .val (.int qx), .val (.int qy), .val (.int (Int32.ofNat r)), .val (.int (Int32.ofNat p0)), .val (.int (Int32.ofNat q0)), .val (.int (Int32.ofNat s0)), .val (.int (Int32.ofNat t0)), .val (.ref b7), .val (.ref b18), .val (.ref b25), .val (.ref b32), .val (.int (Int32.ofNat 0)), .val (.int (Int32.ofNat 4)), .val (.int (1 : Int32)), .val (.int (4 : Int32)), .val (.int (6 : Int32)), .val (.int (Int32.ofNat nd)), .val (.int (Int32.ofNat ro)), .val (.int ex), .val (.int (F (nd * r + ro)))] [(.int (1 : Int32))]) := fun t kt => pre147 t (by
          show Steps p.tables e below (T145.setTop (mkF m 288 #[.val (.int qa), .val (.int qb), .val (.int qx), .val (.int qy), .val (.int (Int32.ofNat r)), .val (.int (Int32.ofNat p0)), .val (.int (Int32.ofNat q0)), .val (.int (Int32.ofNat s0)), .val (.int (Int32.ofNat t0)), .val (.ref b7), .val (.ref b18), .val (.ref b25), .val (.ref b32), .val (.int (Int32.ofNat 0)), .val (.int (Int32.ofNat 4)), .val (.int (1 : Int32)), .val (.int (4 : Int32)), .val (.int (6 : Int32)), .val (.int (Int32.ofNat nd)), .val (.int (Int32.ofNat ro)), .val (.int ex), .val (.int (F (nd * r + ro)))] [(.int ex)])) _
          refine XS.ifNo X145.here hx rfl (hb hby at_288) rfl ((if0 _ _).trans (tlt hc288_148).2.1) ?_
          show Steps p.tables e below (T145.setTop (mkF m 291 #[.val (.int qa), .val (.int qb), .val (.int qx), .val (.int qy), .val (.int (Int32.ofNat r)), .val (.int (Int32.ofNat p0)), .val (.int (Int32.ofNat q0)), .val (.int (Int32.ofNat s0)), .val (.int (Int32.ofNat t0)), .val (.ref b7), .val (.ref b18), .val (.ref b25), .val (.ref b32), .val (.int (Int32.ofNat 0)), .val (.int (Int32.ofNat 4)), .val (.int (1 : Int32)), .val (.int (4 : Int32)), .val (.int (6 : Int32)), .val (.int (Int32.ofNat nd)), .val (.int (Int32.ofNat ro)), .val (.int ex), .val (.int (F (nd * r + ro)))] [])) _
          refine XS.iload X145.here hx rfl (hb hby at_291) rfl ?_
          show Steps p.tables e below (T145.setTop (mkF m 293 #[.val (.int qa), .val (.int qb), .val (.int qx), .val (.int qy), .val (.int (Int32.ofNat r)), .val (.int (Int32.ofNat p0)), .val (.int (Int32.ofNat q0)), .val (.int (Int32.ofNat s0)), .val (.int (Int32.ofNat t0)), .val (.ref b7), .val (.ref b18), .val (.ref b25), .val (.ref b32), .val (.int (Int32.ofNat 0)), .val (.int (Int32.ofNat 4)), .val (.int (1 : Int32)), .val (.int (4 : Int32)), .val (.int (6 : Int32)), .val (.int (Int32.ofNat nd)), .val (.int (Int32.ofNat ro)), .val (.int ex), .val (.int (F (nd * r + ro)))] [(.int (F (nd * r + ro)))])) _
          refine XS.ifNo X145.here hx rfl (hb hby at_293) rfl ((if0 _ _).trans (tlt (own_neg1 (hex.elim (fun q => q.2) (fun q => absurd hc288_148 q.1)) : (F (nd * r + ro)) < (0 : Int32))).2.1) ?_
          show Steps p.tables e below (T145.setTop (mkF m 296 #[.val (.int qa), .val (.int qb), .val (.int qx), .val (.int qy), .val (.int (Int32.ofNat r)), .val (.int (Int32.ofNat p0)), .val (.int (Int32.ofNat q0)), .val (.int (Int32.ofNat s0)), .val (.int (Int32.ofNat t0)), .val (.ref b7), .val (.ref b18), .val (.ref b25), .val (.ref b32), .val (.int (Int32.ofNat 0)), .val (.int (Int32.ofNat 4)), .val (.int (1 : Int32)), .val (.int (4 : Int32)), .val (.int (6 : Int32)), .val (.int (Int32.ofNat nd)), .val (.int (Int32.ofNat ro)), .val (.int ex), .val (.int (F (nd * r + ro)))] [])) _
          refine XS.iconst X145.here hx rfl (hb hby at_296) ?_
          show Steps p.tables e below (T145.setTop (mkF m 297 #[.val (.int qa), .val (.int qb), .val (.int qx), .val (.int qy), .val (.int (Int32.ofNat r)), .val (.int (Int32.ofNat p0)), .val (.int (Int32.ofNat q0)), .val (.int (Int32.ofNat s0)), .val (.int (Int32.ofNat t0)), .val (.ref b7), .val (.ref b18), .val (.ref b25), .val (.ref b32), .val (.int (Int32.ofNat 0)), .val (.int (Int32.ofNat 4)), .val (.int (1 : Int32)), .val (.int (4 : Int32)), .val (.int (6 : Int32)), .val (.int (Int32.ofNat nd)), .val (.int (Int32.ofNat ro)), .val (.int ex), .val (.int (F (nd * r + ro)))] [(.int (1 : Int32))])) _
          refine XS.goto X145.here hx rfl (pc0 := 297) (pc' := 316) rfl (hb hby at_297) (by decide) (by decide) ?_
          exact kt)
      obtain ⟨fs, hr, hrun, hended, hW, hsame⟩ := X145.leave (v := some (.int (1 : Int32))) (fun h => by rw [Bd.returns] at h; cases h)
      refine ⟨_, _, pre149 _ ?_, hrun, hended, _, _, rfl, ?_, ⟨_, rfl⟩, hW, hsame.mono (by decide) (by decide)⟩
      · show Steps p.tables e below (T145.setTop (mkF m 316 #[.val (.int qa), .val (.int qb), .val (.int qx), .val (.int qy), .val (.int (Int32.ofNat r)), .val (.int (Int32.ofNat p0)), .val (.int (Int32.ofNat q0)), .val (.int (Int32.ofNat s0)), .val (.int (Int32.ofNat t0)), .val (.ref b7), .val (.ref b18), .val (.ref b25), .val (.ref b32), .val (.int (Int32.ofNat 0)), .val (.int (Int32.ofNat 4)), .val (.int (1 : Int32)), .val (.int (4 : Int32)), .val (.int (6 : Int32)), .val (.int (Int32.ofNat nd)), .val (.int (Int32.ofNat ro)), .val (.int ex), .val (.int (F (nd * r + ro)))] [(.int (1 : Int32))])) _
        exact retN X145 hx (t := .boolean) Bd.returns (by simp) (hb hby at_316) hr
      · show Q_own_rm0 Z qa qb qx qy h0 n0 _ T145.heap _
        rw [e145]
        exact ⟨rfl, N145⟩
    · -- no at pc 288: ff
      have pre150 : Goes p e below s₁ (entryFrame m #[(.int qa), (.int qb), (.int qx), (.int qy)] maxLocals) T145 (mkF m 316 #[.val (.int qa), .val (.int qb), .val (.int qx), .val (.int qy), .val (.int (Int32.ofNat r)), .val (.int (Int32.ofNat p0)), .val (.int (Int32.ofNat q0)), .val (.int (Int32.ofNat s0)), .val (.int (Int32.ofNat t0)), .val (.ref b7), .val (.ref b18), .val (.ref b25), .val (.ref b32), .val (.int (Int32.ofNat 0)), .val (.int (Int32.ofNat 4)), .val (.int (1 : Int32)), .val (.int (4 : Int32)), .val (.int (6 : Int32)), .val (.int (Int32.ofNat nd)), .val (.int (Int32.ofNat ro)), .val (.int ex), .val (.int (F (nd * r + ro)))] [(.int (1 : Int32))]) := fun t kt => pre147 t (by
          show Steps p.tables e below (T145.setTop (mkF m 288 #[.val (.int qa), .val (.int qb), .val (.int qx), .val (.int qy), .val (.int (Int32.ofNat r)), .val (.int (Int32.ofNat p0)), .val (.int (Int32.ofNat q0)), .val (.int (Int32.ofNat s0)), .val (.int (Int32.ofNat t0)), .val (.ref b7), .val (.ref b18), .val (.ref b25), .val (.ref b32), .val (.int (Int32.ofNat 0)), .val (.int (Int32.ofNat 4)), .val (.int (1 : Int32)), .val (.int (4 : Int32)), .val (.int (6 : Int32)), .val (.int (Int32.ofNat nd)), .val (.int (Int32.ofNat ro)), .val (.int ex), .val (.int (F (nd * r + ro)))] [(.int ex)])) _
          refine XS.ifYes X145.here hx rfl (pc0 := 288) (pc' := 304) rfl (hb hby at_288) rfl ((if0 _ _).trans (flt hc288_148).2.1) (by decide) (by decide) ?_
          show Steps p.tables e below (T145.setTop (mkF m 304 #[.val (.int qa), .val (.int qb), .val (.int qx), .val (.int qy), .val (.int (Int32.ofNat r)), .val (.int (Int32.ofNat p0)), .val (.int (Int32.ofNat q0)), .val (.int (Int32.ofNat s0)), .val (.int (Int32.ofNat t0)), .val (.ref b7), .val (.ref b18), .val (.ref b25), .val (.ref b32), .val (.int (Int32.ofNat 0)), .val (.int (Int32.ofNat 4)), .val (.int (1 : Int32)), .val (.int (4 : Int32)), .val (.int (6 : Int32)), .val (.int (Int32.ofNat nd)), .val (.int (Int32.ofNat ro)), .val (.int ex), .val (.int (F (nd * r + ro)))] [])) _
          refine XS.iload X145.here hx rfl (hb hby at_304) rfl ?_
          show Steps p.tables e below (T145.setTop (mkF m 306 #[.val (.int qa), .val (.int qb), .val (.int qx), .val (.int qy), .val (.int (Int32.ofNat r)), .val (.int (Int32.ofNat p0)), .val (.int (Int32.ofNat q0)), .val (.int (Int32.ofNat s0)), .val (.int (Int32.ofNat t0)), .val (.ref b7), .val (.ref b18), .val (.ref b25), .val (.ref b32), .val (.int (Int32.ofNat 0)), .val (.int (Int32.ofNat 4)), .val (.int (1 : Int32)), .val (.int (4 : Int32)), .val (.int (6 : Int32)), .val (.int (Int32.ofNat nd)), .val (.int (Int32.ofNat ro)), .val (.int ex), .val (.int (F (nd * r + ro)))] [(.int (F (nd * r + ro)))])) _
          refine XS.iload X145.here hx rfl (hb hby at_306) rfl ?_
          show Steps p.tables e below (T145.setTop (mkF m 308 #[.val (.int qa), .val (.int qb), .val (.int qx), .val (.int qy), .val (.int (Int32.ofNat r)), .val (.int (Int32.ofNat p0)), .val (.int (Int32.ofNat q0)), .val (.int (Int32.ofNat s0)), .val (.int (Int32.ofNat t0)), .val (.ref b7), .val (.ref b18), .val (.ref b25), .val (.ref b32), .val (.int (Int32.ofNat 0)), .val (.int (Int32.ofNat 4)), .val (.int (1 : Int32)), .val (.int (4 : Int32)), .val (.int (6 : Int32)), .val (.int (Int32.ofNat nd)), .val (.int (Int32.ofNat ro)), .val (.int ex), .val (.int (F (nd * r + ro)))] [(.int ex), (.int (F (nd * r + ro)))])) _
          refine XS.icmpNo X145.here hx rfl (hb hby at_308) rfl (teq (hex.elim (fun q => absurd (own_neg1 q.1) hc288_148) (fun q => q.2) : (F (nd * r + ro)) = ex)).2 ?_
          show Steps p.tables e below (T145.setTop (mkF m 311 #[.val (.int qa), .val (.int qb), .val (.int qx), .val (.int qy), .val (.int (Int32.ofNat r)), .val (.int (Int32.ofNat p0)), .val (.int (Int32.ofNat q0)), .val (.int (Int32.ofNat s0)), .val (.int (Int32.ofNat t0)), .val (.ref b7), .val (.ref b18), .val (.ref b25), .val (.ref b32), .val (.int (Int32.ofNat 0)), .val (.int (Int32.ofNat 4)), .val (.int (1 : Int32)), .val (.int (4 : Int32)), .val (.int (6 : Int32)), .val (.int (Int32.ofNat nd)), .val (.int (Int32.ofNat ro)), .val (.int ex), .val (.int (F (nd * r + ro)))] [])) _
          refine XS.iconst X145.here hx rfl (hb hby at_311) ?_
          show Steps p.tables e below (T145.setTop (mkF m 312 #[.val (.int qa), .val (.int qb), .val (.int qx), .val (.int qy), .val (.int (Int32.ofNat r)), .val (.int (Int32.ofNat p0)), .val (.int (Int32.ofNat q0)), .val (.int (Int32.ofNat s0)), .val (.int (Int32.ofNat t0)), .val (.ref b7), .val (.ref b18), .val (.ref b25), .val (.ref b32), .val (.int (Int32.ofNat 0)), .val (.int (Int32.ofNat 4)), .val (.int (1 : Int32)), .val (.int (4 : Int32)), .val (.int (6 : Int32)), .val (.int (Int32.ofNat nd)), .val (.int (Int32.ofNat ro)), .val (.int ex), .val (.int (F (nd * r + ro)))] [(.int (1 : Int32))])) _
          refine XS.goto X145.here hx rfl (pc0 := 312) (pc' := 316) rfl (hb hby at_312) (by decide) (by decide) ?_
          exact kt)
      obtain ⟨fs, hr, hrun, hended, hW, hsame⟩ := X145.leave (v := some (.int (1 : Int32))) (fun h => by rw [Bd.returns] at h; cases h)
      refine ⟨_, _, pre150 _ ?_, hrun, hended, _, _, rfl, ?_, ⟨_, rfl⟩, hW, hsame.mono (by decide) (by decide)⟩
      · show Steps p.tables e below (T145.setTop (mkF m 316 #[.val (.int qa), .val (.int qb), .val (.int qx), .val (.int qy), .val (.int (Int32.ofNat r)), .val (.int (Int32.ofNat p0)), .val (.int (Int32.ofNat q0)), .val (.int (Int32.ofNat s0)), .val (.int (Int32.ofNat t0)), .val (.ref b7), .val (.ref b18), .val (.ref b25), .val (.ref b32), .val (.int (Int32.ofNat 0)), .val (.int (Int32.ofNat 4)), .val (.int (1 : Int32)), .val (.int (4 : Int32)), .val (.int (6 : Int32)), .val (.int (Int32.ofNat nd)), .val (.int (Int32.ofNat ro)), .val (.int ex), .val (.int (F (nd * r + ro)))] [(.int (1 : Int32))])) _
        exact retN X145 hx (t := .boolean) Bd.returns (by simp) (hb hby at_316) hr
      · show Q_own_rm0 Z qa qb qx qy h0 n0 _ T145.heap _
        rw [e145]
        exact ⟨rfl, N145⟩
set_option maxRecDepth 65536 in
set_option maxHeartbeats 40000000 in
theorem comes_1 {Post : Tables → Env → Array Value → State → Outcome → State → Prop} (hpost : ∀ tb e args s v u, (limb_1_1.after args s (.returned v) u = true ∧ limb_1_2.after args s (.returned v) u = true ∧ True) → FrameEnd s (.returned v) u (Jvm.fieldLocs frame_1_writes args s ++ Jvm.arrayLocs frame_1_arrays args s ++ Jvm.staticLocs frame_1_statics s) 24 448 → Post tb e args s (.returned v) u) :
    ArmFor flags0 classFile x code maxLocals ret World_1 tables_1 room_1 Calls_1 rest_1 Pre_1 Post := by
  intro l hfl _ _ p e ha hc hk s m args below hf hA hF happ hP
  obtain ⟨hcalls, hrest, hpre⟩ := hP
  obtain ⟨-, -, -, hnamed, -, -, -, hat⟩ := (Spec.applies_iff hf).mp happ
  obtain ⟨hg, hn⟩ := and_e (Cond.before_iff.mp (show (Jvm.Cond.and given_1 narrow_1).before args s = true from hpre))
  obtain ⟨g5, g6⟩ := and_e hg
  obtain ⟨g7, g8⟩ := and_e g6
  obtain ⟨g9, g10⟩ := and_e g8
  obtain ⟨g11, g12⟩ := and_e g10
  obtain ⟨w0, w1, w2, w3, rfl⟩ : ∃ w0 w1 w2 w3 : Value, args = #[w0, w1, w2, w3] := by
    have hs : args.size = 4 := by simpa [Cond.value, given_1] using g5
    obtain ⟨L⟩ := args
    match L, hs with
    | [w0, w1, w2, w3], _ => exact ⟨w0, w1, w2, w3, rfl⟩
  have hw := fun d (hd : d ∈ tables_1) => atoms_spec (ws := Jvm.Cond.code x code maxLocals ret :: tables_1) hat d (List.mem_cons_of_mem _ hd)
  have hfit : Fit s := fun {y c} hc i hi => by
    obtain ⟨ha, rfl⟩ := Array.getElem?_eq_some_iff.mp hc
    have q := List.all_eq_true.mp ((Array.all_eq_true_iff_forall_mem.mp hF) _ (Array.getElem_mem ha)) i (List.mem_range.mpr hi)
    simpa [Array.getElem?_eq_getElem hi] using q
  obtain ⟨i0, ei0⟩ := is_v g7
  obtain rfl : w0 = (.int i0) := Option.some.inj ei0
  obtain ⟨i1, ei1⟩ := is_v g9
  obtain rfl : w1 = (.int i1) := Option.some.inj ei1
  obtain ⟨i2, ei2⟩ := is_v g11
  obtain rfl : w2 = (.int i2) := Option.some.inj ei2
  obtain ⟨i3, ei3⟩ := is_v g12
  obtain rfl : w3 = (.int i3) := Option.some.inj ei3
  obtain ⟨n, o, h1, h2, h3, _, L, rfl, ⟨rfl, N⟩, hq⟩ := own_rm0 l s _ hw tables_1 i0 i1 i2 i3  s.heap s.heap.size (Nat.le_refl _)  p e ha hc hk s m _ below hf ((Spec.applies_iff_loose hf).mp happ).1 ⟨rfl, State.Warmed39.refl s, rfl⟩ trivial
  refine ⟨n, _, h1, h2, h3, hpost _ _ _ _ _ _ ⟨Cond.after_iff.mpr rfl, Cond.after_iff.mpr (eq_i res_at (Term.int_eval (1)) rfl), trivial⟩ ⟨hq.1, hq.2.1, (hq.2.2.sift fun y hy => Or.inr (N y hy)).mono (by decide) (by decide)⟩⟩
theorem main_1_1 : Claimed_1_1 := comes_1 fun _ _ _ _ _ _ h hF => ⟨h.1, hF⟩
theorem main_1_2 : Claimed_1_2 := comes_1 fun _ _ _ _ _ _ h hF => ⟨h.2.1, hF⟩
end Jvm.Pilot.@@N@@
namespace Jvm.Pilot.@@N@@
open Jvm Jvm.ClassFile Sem Op Lib Jvm.Free Jvm.Stand Jvm.Pilot.@@N@@.Jvm.D
/-! MADE BY PROGRAM (witnessworld.py) out of the Statement's table words and the real class files: 11 classes; the members and pool entries that the words name. The judged class is class 1, her method 1. -/
namespace start1
open Jvm.ClassFile
def u (s : String) : CpInfo := .utf8 (stringToUtf16 s)
/-- a pool by its gaps: so many unusable entries, then the entry; so many at the end -/
def gap : Nat → List CpInfo → List CpInfo
  | 0, r => r
  | n + 1, r => .unusable :: gap n r
def poolList (es : List (Nat × CpInfo)) (last : Nat) : List CpInfo := es.foldr (fun e r => gap e.1 (e.2 :: r)) (gap last [])
def pool (es : List (Nat × CpInfo)) (last : Nat) : Array CpInfo := ⟨poolList es last⟩
def fileOf (pool : Array CpInfo) (this : Nat) (attrs : Array Attribute := #[]) (ms : Array MethodInfo := #[]) (fl : Nat := 33) (sup : Nat := 0) (ifs : Array Nat := #[]) (fds : Array FieldInfo := #[]) : ClassFile where
  minorVersion := 0
  majorVersion := 65
  constantPool := pool
  accessFlags := fl
  thisClass := this
  superClass := sup
  interfaces := ifs
  fields := fds
  methods := ms
  attributes := attrs
def plain (name : String) (sup : Option ClassId) : Class where
  name := name
  kind := .ordinary
  loader := none
  accessFlags := 33
  super := sup
  interfaces := #[]
  cf := none
  fields := #[]
  methods := #[]
  instanceTypes := #[]
  staticTypes := #[]
  resolved := #[]
  callSites := []
  init := .initialized
  statics := none
  mirror := none

def pool0 : Array CpInfo := pool [(5, u "<init>"), (0, u "()V"), (1, .class_ 10), (1, u "java/lang/Object")] 113

def k0c0 : Code := { maxStack := 0, maxLocals := 1, code := object_method_1_code, exceptionTable := #[], attributes := #[] }
def k0m0 : Method := { name := "<init>", desc := "()V", sig := { parameters := [], returnType := none }, accessFlags := 1, code := some k0c0 }
/-- java/lang/Object -/
def k0 : Class := { plain "java/lang/Object" none with
  accessFlags := 33
  interfaces := #[]
  cf := some (fileOf pool0 8 #[] #[{ accessFlags := 1, nameIndex := 5, descriptorIndex := 6, attributes := #[] }] 33 0 #[] #[])
  fields := #[]
  methods := #[k0m0]
  instanceTypes := #[]
  staticTypes := #[]
  resolved := Array.replicate 124 none
  statics := none }

def pool1 : Array CpInfo := pool [(2, .class_ 4), (1, u "java/lang/Object"), (0, u "<init>"), (0, u "()V"), (0, .class_ 8), (0, u "com/example/unicept/unicept/WordTrie"), (0, .methodref 7 10), (0, .nameAndType 5 11), (0, u "(I)V"), (0, .methodref 7 13), (0, .nameAndType 14 15), (0, u "addRoot"), (0, u "()I"), (0, .methodref 7 17), (0, .nameAndType 18 19), (0, u "add"), (0, u "(I[I)I"), (0, .integer 2147483647), (0, .methodref 7 22), (0, .nameAndType 23 24), (0, u "child"), (0, u "(II)I"), (0, .class_ 26), (0, u "com/example/unicept/unicept/WordTrieChildPinLaw"), (2, u "law"), (0, u "(IIII)Z")] 5

def k1m0 : Method := { name := "<init>", desc := "()V", sig := { parameters := [], returnType := none }, accessFlags := 1, code := none }
def k1c1 : Code := { maxStack := 4, maxLocals := 22, code := code, exceptionTable := #[], attributes := #[] }
def k1m1 : Method := { name := "law", desc := "(IIII)Z", sig := { parameters := [.int, .int, .int, .int], returnType := some .boolean }, accessFlags := 9, code := some k1c1 }
/-- com/example/unicept/unicept/WordTrieChildPinLaw -/
def k1 : Class := { plain "com/example/unicept/unicept/WordTrieChildPinLaw" (some 0) with
  accessFlags := 49
  interfaces := #[]
  cf := some (fileOf pool1 25 #[] #[{ accessFlags := 1, nameIndex := 5, descriptorIndex := 6, attributes := #[] }, { accessFlags := 9, nameIndex := 29, descriptorIndex := 30, attributes := #[] }] 49 2 #[] #[])
  fields := #[]
  methods := #[k1m0, k1m1]
  instanceTypes := #[]
  staticTypes := #[]
  resolved := Array.replicate 36 none
  statics := none }

def pool2 : Array CpInfo := pool [(1, .methodref 2 3), (0, .class_ 4), (0, .nameAndType 5 6), (0, u "java/lang/Object"), (0, u "<init>"), (0, u "()V"), (0, .fieldref 8 9), (0, .class_ 10), (0, .nameAndType 11 12), (0, u "com/example/unicept/unicept/WordTrie"), (0, u "roles"), (0, u "I"), (0, .methodref 14 15), (0, .class_ 16), (0, .nameAndType 17 18), (0, u "java/lang/Math"), (0, u "max"), (0, u "(II)I"), (0, .fieldref 8 20), (0, .nameAndType 21 22), (0, u "children"), (0, u "[I"), (0, .fieldref 8 24), (0, .nameAndType 25 22), (0, u "roots"), (0, .class_ 22), (0, .fieldref 8 28), (0, .nameAndType 29 30), (0, u "tags"), (0, u "[[I"), (0, .methodref 8 32), (0, .nameAndType 33 34), (0, u "newNode"), (0, u "()I"), (0, .methodref 8 36), (0, .nameAndType 37 18), (0, u "child"), (2, u "NO_TAGS"), (1, .class_ 44), (1, u "java/util/Arrays"), (2, .fieldref 8 48), (0, .nameAndType 49 12), (0, u "size"), (4, .methodref 42 55), (0, .nameAndType 56 57), (0, u "fill"), (0, u "([IIII)V"), (0, u "NONE"), (2, u "(I)V"), (2, u "addRoot"), (0, u "add"), (0, u "(I[I)I")] 11

def k2c0 : Code := { maxStack := 3, maxLocals := 2, code := prog_26_method_1_code, exceptionTable := #[], attributes := #[] }
def k2m0 : Method := { name := "<init>", desc := "(I)V", sig := { parameters := [.int], returnType := none }, accessFlags := 0, code := some k2c0 }
def k2c1 : Code := { maxStack := 3, maxLocals := 2, code := prog_26_method_2_code, exceptionTable := #[], attributes := #[] }
def k2m1 : Method := { name := "addRoot", desc := "()I", sig := { parameters := [], returnType := some .int }, accessFlags := 0, code := some k2c1 }
def k2c2 : Code := { maxStack := 4, maxLocals := 9, code := prog_26_method_3_code, exceptionTable := #[], attributes := #[] }
def k2m2 : Method := { name := "add", desc := "(I[I)I", sig := { parameters := [.int, (.array .int)], returnType := some .int }, accessFlags := 0, code := some k2c2 }
def k2c3 : Code := { maxStack := 3, maxLocals := 3, code := prog_26_method_4_code, exceptionTable := #[], attributes := #[] }
def k2m3 : Method := { name := "child", desc := "(II)I", sig := { parameters := [.int, .int], returnType := some .int }, accessFlags := 0, code := some k2c3 }
def k2c4 : Code := { maxStack := 5, maxLocals := 2, code := prog_26_method_9_code, exceptionTable := #[], attributes := #[] }
def k2m4 : Method := { name := "newNode", desc := "()I", sig := { parameters := [], returnType := some .int }, accessFlags := 2, code := some k2c4 }
/-- com/example/unicept/unicept/WordTrie -/
def k2 : Class := { plain "com/example/unicept/unicept/WordTrie" (some 0) with
  accessFlags := 48
  interfaces := #[]
  cf := some (fileOf pool2 8 #[] #[{ accessFlags := 0, nameIndex := 5, descriptorIndex := 61, attributes := #[] }, { accessFlags := 0, nameIndex := 64, descriptorIndex := 34, attributes := #[] }, { accessFlags := 0, nameIndex := 65, descriptorIndex := 66, attributes := #[] }, { accessFlags := 0, nameIndex := 37, descriptorIndex := 18, attributes := #[] }, { accessFlags := 2, nameIndex := 33, descriptorIndex := 34, attributes := #[] }] 48 2 #[] #[{ accessFlags := 26, nameIndex := 58, descriptorIndex := 12, attributes := #[] }, { accessFlags := 26, nameIndex := 40, descriptorIndex := 22, attributes := #[] }, { accessFlags := 18, nameIndex := 11, descriptorIndex := 12, attributes := #[] }, { accessFlags := 2, nameIndex := 21, descriptorIndex := 22, attributes := #[] }, { accessFlags := 2, nameIndex := 25, descriptorIndex := 22, attributes := #[] }, { accessFlags := 2, nameIndex := 29, descriptorIndex := 30, attributes := #[] }, { accessFlags := 2, nameIndex := 49, descriptorIndex := 12, attributes := #[] }])
  fields := #[{ name := "NONE", type := .int, accessFlags := 26, slot := 0, constantValue := 0 }, { name := "NO_TAGS", type := (.array .int), accessFlags := 26, slot := 1, constantValue := 0 }, { name := "roles", type := .int, accessFlags := 18, slot := 0, constantValue := 0 }, { name := "children", type := (.array .int), accessFlags := 2, slot := 1, constantValue := 0 }, { name := "roots", type := (.array .int), accessFlags := 2, slot := 2, constantValue := 0 }, { name := "tags", type := (.array (.array .int)), accessFlags := 2, slot := 3, constantValue := 0 }, { name := "size", type := .int, accessFlags := 2, slot := 4, constantValue := 0 }]
  methods := #[k2m0, k2m1, k2m2, k2m3, k2m4]
  instanceTypes := #[.int, (.array .int), (.array .int), (.array (.array .int)), .int]
  staticTypes := #[.int, (.array .int)]
  resolved := Array.replicate 78 none
  statics := none }

def pool3 : Array CpInfo := pool [(1, .class_ 2), (0, u "java/lang/Math"), (1, .class_ 6), (1, u "java/lang/Object"), (0, u "<init>"), (0, u "()V"), (89, .class_ 100), (1, u "java/lang/Math$RandomNumberGeneratorHolder"), (71, u "negativeZeroFloatBits"), (0, u "J"), (2, u "negativeZeroDoubleBits"), (21, u "max"), (46, u "$assertionsDisabled"), (0, u "Z"), (88, u "(II)I"), (2, u "twoToTheDoubleScaleDown"), (0, u "D"), (4, u "twoToTheDoubleScaleUp"), (9, u "E"), (3, u "PI"), (2, u "TAU"), (2, u "DEGREES_TO_RADIANS"), (0, u "RADIANS_TO_DEGREES")] 94

def k3m0 : Method := { name := "<init>", desc := "()V", sig := { parameters := [], returnType := none }, accessFlags := 2, code := none }
def k3c1 : Code := { maxStack := 2, maxLocals := 2, code := jdk_29_method_65_code, exceptionTable := #[], attributes := #[] }
def k3m1 : Method := { name := "max", desc := "(II)I", sig := { parameters := [.int, .int], returnType := some .int }, accessFlags := 9, code := some k3c1 }
/-- java/lang/Math -/
def k3 : Class := { plain "java/lang/Math" (some 0) with
  accessFlags := 49
  interfaces := #[]
  cf := some (fileOf pool3 1 #[.nestMembers #[98]] #[{ accessFlags := 2, nameIndex := 7, descriptorIndex := 8, attributes := #[] }, { accessFlags := 9, nameIndex := 198, descriptorIndex := 335, attributes := #[] }] 49 4 #[] #[{ accessFlags := 25, nameIndex := 354, descriptorIndex := 339, attributes := #[] }, { accessFlags := 25, nameIndex := 358, descriptorIndex := 339, attributes := #[] }, { accessFlags := 25, nameIndex := 361, descriptorIndex := 339, attributes := #[] }, { accessFlags := 26, nameIndex := 364, descriptorIndex := 339, attributes := #[] }, { accessFlags := 26, nameIndex := 365, descriptorIndex := 339, attributes := #[] }, { accessFlags := 26, nameIndex := 172, descriptorIndex := 173, attributes := #[] }, { accessFlags := 26, nameIndex := 176, descriptorIndex := 173, attributes := #[] }, { accessFlags := 8, nameIndex := 344, descriptorIndex := 339, attributes := #[] }, { accessFlags := 8, nameIndex := 338, descriptorIndex := 339, attributes := #[] }, { accessFlags := 4120, nameIndex := 245, descriptorIndex := 246, attributes := #[] }])
  fields := #[{ name := "E", type := .double, accessFlags := 25, slot := 0, constantValue := 0 }, { name := "PI", type := .double, accessFlags := 25, slot := 1, constantValue := 0 }, { name := "TAU", type := .double, accessFlags := 25, slot := 2, constantValue := 0 }, { name := "DEGREES_TO_RADIANS", type := .double, accessFlags := 26, slot := 3, constantValue := 0 }, { name := "RADIANS_TO_DEGREES", type := .double, accessFlags := 26, slot := 4, constantValue := 0 }, { name := "negativeZeroFloatBits", type := .long, accessFlags := 26, slot := 5, constantValue := 0 }, { name := "negativeZeroDoubleBits", type := .long, accessFlags := 26, slot := 6, constantValue := 0 }, { name := "twoToTheDoubleScaleUp", type := .double, accessFlags := 8, slot := 7, constantValue := 0 }, { name := "twoToTheDoubleScaleDown", type := .double, accessFlags := 8, slot := 8, constantValue := 0 }, { name := "$assertionsDisabled", type := .boolean, accessFlags := 4120, slot := 9, constantValue := 0 }]
  methods := #[k3m0, k3m1]
  instanceTypes := #[]
  staticTypes := #[.double, .double, .double, .double, .double, .long, .long, .double, .double, .boolean]
  resolved := Array.replicate 460 none
  statics := none }

def pool4 : Array CpInfo := pool [(2, .class_ 4), (1, u "java/lang/Object"), (0, u "<init>"), (0, u "()V"), (5, u "([IIII)V"), (0, .methodref 14 15), (0, .class_ 16), (0, .nameAndType 17 18), (0, u "java/util/Arrays"), (0, u "rangeCheck"), (0, u "(III)V"), (55, .class_ 76), (1, u "java/util/Arrays$NaturalOrder"), (36, .class_ 115), (1, u "java/util/Arrays$LegacyMergeSort"), (1, u "Z"), (257, .class_ 376), (0, u "java/util/Arrays$ArrayList"), (68, u "$assertionsDisabled"), (269, u "MIN_ARRAY_SORT_GRAN"), (0, u "I"), (2, u "INSERTIONSORT_THRESHOLD"), (120, u "fill"), (134, .class_ 976), (0, u "java/util/Arrays$ArrayItr")] 52

def k4m0 : Method := { name := "<init>", desc := "()V", sig := { parameters := [], returnType := none }, accessFlags := 2, code := none }
def k4c1 : Code := { maxStack := 4, maxLocals := 3, code := jdk_65_method_30_code, exceptionTable := #[], attributes := #[] }
def k4m1 : Method := { name := "rangeCheck", desc := "(III)V", sig := { parameters := [.int, .int, .int], returnType := none }, accessFlags := 8, code := some k4c1 }
def k4c2 : Code := { maxStack := 3, maxLocals := 5, code := jdk_65_method_104_code, exceptionTable := #[], attributes := #[] }
def k4m2 : Method := { name := "fill", desc := "([IIII)V", sig := { parameters := [(.array .int), .int, .int, .int], returnType := none }, accessFlags := 9, code := some k4c2 }
/-- java/util/Arrays -/
def k4 : Class := { plain "java/util/Arrays" (some 0) with
  accessFlags := 49
  interfaces := #[]
  cf := some (fileOf pool4 14 #[.nestMembers #[975, 375, 113, 74]] #[{ accessFlags := 2, nameIndex := 5, descriptorIndex := 6, attributes := #[] }, { accessFlags := 8, nameIndex := 17, descriptorIndex := 18, attributes := #[] }, { accessFlags := 9, nameIndex := 840, descriptorIndex := 12, attributes := #[] }] 49 2 #[] #[{ accessFlags := 26, nameIndex := 715, descriptorIndex := 716, attributes := #[] }, { accessFlags := 26, nameIndex := 719, descriptorIndex := 716, attributes := #[] }, { accessFlags := 4120, nameIndex := 445, descriptorIndex := 117, attributes := #[] }])
  fields := #[{ name := "MIN_ARRAY_SORT_GRAN", type := .int, accessFlags := 26, slot := 0, constantValue := 0 }, { name := "INSERTIONSORT_THRESHOLD", type := .int, accessFlags := 26, slot := 1, constantValue := 0 }, { name := "$assertionsDisabled", type := .boolean, accessFlags := 4120, slot := 2, constantValue := 0 }]
  methods := #[k4m0, k4m1, k4m2]
  instanceTypes := #[]
  staticTypes := #[.int, .int, .boolean]
  resolved := Array.replicate 1029 none
  statics := none }

def pool5 : Array CpInfo := pool [(1, u "java/lang/Cloneable"), (0, .class_ 1), (0, u "java/lang/Object"), (0, .class_ 3)] 3

/-- java/lang/Cloneable -/
def k5 : Class := { plain "java/lang/Cloneable" (some 0) with
  accessFlags := 1537
  interfaces := #[]
  cf := some (fileOf pool5 2 #[] #[] 1537 4 #[] #[])
  fields := #[]
  methods := #[]
  instanceTypes := #[]
  staticTypes := #[]
  resolved := Array.replicate 8 none
  statics := none }

def pool6 : Array CpInfo := pool [(1, u "java/io/Serializable"), (0, .class_ 1), (0, u "java/lang/Object"), (0, .class_ 3)] 3

/-- java/io/Serializable -/
def k6 : Class := { plain "java/io/Serializable" (some 0) with
  accessFlags := 1537
  interfaces := #[]
  cf := some (fileOf pool6 2 #[] #[] 1537 4 #[] #[])
  fields := #[]
  methods := #[]
  instanceTypes := #[]
  staticTypes := #[]
  resolved := Array.replicate 8 none
  statics := none }

/-- the primitive byte -/
def k7 : Class := { plain "byte" none with kind := .primitive 'B', accessFlags := 0x411 }
/-- [B -/
def k8 : Class := { plain "[B" (some 0) with kind := .array 7 .byte, interfaces := #[5, 6], accessFlags := 1041 }

/-- the primitive int -/
def k9 : Class := { plain "int" none with kind := .primitive 'I', accessFlags := 0x411 }
/-- [I -/
def k10 : Class := { plain "[I" (some 0) with kind := .array 9 .int, interfaces := #[5, 6], accessFlags := 1041 }
/-- [[I -/
def k11 : Class := { plain "[[I" (some 0) with kind := .array 10 (.array .int), interfaces := #[5, 6], accessFlags := 1041 }

def heap : Heap := #[]
def classes : Array Class := #[k0, k1, k2, k3, k4, k5, k6, k7, k8, k9, k10, k11]
def interned : List (Array UInt16 × Addr) := []
def slotsUsed : Nat := 0
def theMethod : MethodId := ⟨1, 1⟩
def args0 : Array Value := #[.int 3, .int 5, .int 7, .int 9]
def aboutOver (below : List Frame) : State where
  vm := { classes := classes, interned := interned.toArray }
  heap := heap
  slotsUsed := slotsUsed
  threads := #[{ frames := .invoking theMethod args0 :: below }]
def below0 : List Frame := [.native { method := ⟨0, 0⟩, args := #[] }]
def about1 : State := aboutOver below0
def p0 : Program := .bare "" "" ""
def e0 : Env := launch0.env 0 0 0
theorem w_frames : about1.frames = Frame.invoking theMethod args0 :: below0 := rfl
set_option maxRecDepth 65536 in
theorem w_args : argsFit about1.vm theMethod args0 = true := by decide +kernel
set_option maxRecDepth 65536 in
theorem w_heap : heapFits about1 = true := by decide +kernel
set_option maxRecDepth 65536 in
theorem w_runnable : about1.curStatus? = some .runnable := by decide +kernel
set_option maxRecDepth 65536 in
theorem w_alone : about1.alone = true := by decide +kernel
set_option maxRecDepth 65536 in
theorem w_named : about1.methodNamed? x = some theMethod := by decide +kernel
set_option maxRecDepth 65536 in
theorem w_hears : about1.hears theMethod below0 = true := by decide +kernel
set_option maxRecDepth 65536 in
theorem w_ripe : about1.ripe theMethod args0 below0 = true := by decide +kernel
theorem w_running : about1.status = .running := rfl
set_option maxRecDepth 65536 in
theorem w_room : about1.hasRoom e0.platform room_1 = true :=
  launch0.hasRoom_least _ room_1 (by decide +kernel) (by decide +kernel) (by decide +kernel) (by decide +kernel) (by decide +kernel) (by decide +kernel)
theorem allAtoms_all (ts : List Jvm.Cond) (a : Array Jvm.Value) (st : Jvm.State) : (allAtoms ts).before a st = ts.all (fun c => c.before a st) := by
  induction ts with
  | nil => rfl
  | cons c t ih =>
    show (Jvm.Cond.and c (allAtoms t)).before a st = _
    rw [Jvm.Cond.before_and, ih, List.all_cons]
def words1 : List Jvm.Cond := Jvm.Cond.code x code maxLocals ret :: tables_1
/-- a 'code' word, met by the world's own term for the bytes: nothing is compared byte by byte -/
theorem code_word {y : MethodName} {bytes : ByteArray} {mx : Nat} {rt : Option FieldType} {a : Array Value} {s : State} {m : MethodId} {meth : Method} {c : Code} (h1 : s.methodNamed? y = some m) (h2 : s.vm.method? m = some meth) (h3 : meth.code = some c) (h4 : c.code = bytes)
    (h5 : (c.maxLocals == mx && c.exceptionTable.isEmpty && decide (c.maxStack ≤ mostOperands) && decide (meth.sig.returnType = rt) && !meth.locks && decide (parseMethodDescriptor y.desc = some meth.sig)) = true) : (Jvm.Cond.code y bytes mx rt).before a s = true := by
  simp only [Bool.and_eq_true, beq_iff_eq, Bool.not_eq_true', decide_eq_true_eq] at h5
  obtain ⟨⟨⟨⟨⟨g1, g2⟩, g3⟩, g4⟩, g5⟩, g6⟩ := h5
  simp [Cond.before, Cond.holds, Cond.value, h1, h2, h3, h4, g1, g2, g3, g4, g5, g6]
def isCode : Jvm.Cond → Bool
  | .code _ _ _ _ => true
  | _ => false
theorem all_split {L : List Jvm.Cond} {P : Jvm.Cond → Bool} (h1 : L.all (fun c => isCode c || P c) = true) (h2 : ∀ c ∈ L.filter isCode, P c = true) : L.all P = true := by
  refine List.all_eq_true.mpr fun c hc => ?_
  have h := List.all_eq_true.mp h1 c hc
  rcases Bool.eq_false_or_eq_true (isCode c) with hi | hi
  · exact h2 c (List.mem_filter.mpr ⟨hc, hi⟩)
  · simpa [hi] using h
set_option maxRecDepth 65536 in
theorem w_c0 : (Jvm.Cond.code x code maxLocals ret).before args0 about1 = true := code_word (m := ⟨1, 1⟩) (meth := k1m1) (c := k1c1) (by decide +kernel) rfl rfl rfl (by decide +kernel)
set_option maxRecDepth 65536 in
theorem w_c1 : (Jvm.Cond.code ({ cls := "com/example/unicept/unicept/WordTrie", name := "<init>", desc := "(I)V" } : Jvm.MethodName) prog_26_method_1_code (2 : Nat) (Option.none : Option Jvm.ClassFile.FieldType)).before args0 about1 = true := code_word (m := ⟨2, 0⟩) (meth := k2m0) (c := k2c0) (by decide +kernel) rfl rfl rfl (by decide +kernel)
set_option maxRecDepth 65536 in
theorem w_c2 : (Jvm.Cond.code ({ cls := "java/lang/Object", name := "<init>", desc := "()V" } : Jvm.MethodName) object_method_1_code (1 : Nat) (Option.none : Option Jvm.ClassFile.FieldType)).before args0 about1 = true := code_word (m := ⟨0, 0⟩) (meth := k0m0) (c := k0c0) (by decide +kernel) rfl rfl rfl (by decide +kernel)
set_option maxRecDepth 65536 in
theorem w_c3 : (Jvm.Cond.code ({ cls := "java/lang/Math", name := "max", desc := "(II)I" } : Jvm.MethodName) jdk_29_method_65_code (2 : Nat) (Option.some Jvm.ClassFile.FieldType.int)).before args0 about1 = true := code_word (m := ⟨3, 1⟩) (meth := k3m1) (c := k3c1) (by decide +kernel) rfl rfl rfl (by decide +kernel)
set_option maxRecDepth 65536 in
theorem w_c4 : (Jvm.Cond.code ({ cls := "com/example/unicept/unicept/WordTrie", name := "addRoot", desc := "()I" } : Jvm.MethodName) prog_26_method_2_code (2 : Nat) (Option.some Jvm.ClassFile.FieldType.int)).before args0 about1 = true := code_word (m := ⟨2, 1⟩) (meth := k2m1) (c := k2c1) (by decide +kernel) rfl rfl rfl (by decide +kernel)
set_option maxRecDepth 65536 in
theorem w_c5 : (Jvm.Cond.code ({ cls := "com/example/unicept/unicept/WordTrie", name := "newNode", desc := "()I" } : Jvm.MethodName) prog_26_method_9_code (2 : Nat) (Option.some Jvm.ClassFile.FieldType.int)).before args0 about1 = true := code_word (m := ⟨2, 4⟩) (meth := k2m4) (c := k2c4) (by decide +kernel) rfl rfl rfl (by decide +kernel)
set_option maxRecDepth 65536 in
theorem w_c6 : (Jvm.Cond.code ({ cls := "java/util/Arrays", name := "fill", desc := "([IIII)V" } : Jvm.MethodName) jdk_65_method_104_code (5 : Nat) (Option.none : Option Jvm.ClassFile.FieldType)).before args0 about1 = true := code_word (m := ⟨4, 2⟩) (meth := k4m2) (c := k4c2) (by decide +kernel) rfl rfl rfl (by decide +kernel)
set_option maxRecDepth 65536 in
theorem w_c7 : (Jvm.Cond.code ({ cls := "java/util/Arrays", name := "rangeCheck", desc := "(III)V" } : Jvm.MethodName) jdk_65_method_30_code (3 : Nat) (Option.none : Option Jvm.ClassFile.FieldType)).before args0 about1 = true := code_word (m := ⟨4, 1⟩) (meth := k4m1) (c := k4c1) (by decide +kernel) rfl rfl rfl (by decide +kernel)
set_option maxRecDepth 65536 in
theorem w_c8 : (Jvm.Cond.code ({ cls := "com/example/unicept/unicept/WordTrie", name := "add", desc := "(I[I)I" } : Jvm.MethodName) prog_26_method_3_code (9 : Nat) (Option.some Jvm.ClassFile.FieldType.int)).before args0 about1 = true := code_word (m := ⟨2, 2⟩) (meth := k2m2) (c := k2c2) (by decide +kernel) rfl rfl rfl (by decide +kernel)
set_option maxRecDepth 65536 in
theorem w_c9 : (Jvm.Cond.code ({ cls := "com/example/unicept/unicept/WordTrie", name := "child", desc := "(II)I" } : Jvm.MethodName) prog_26_method_4_code (3 : Nat) (Option.some Jvm.ClassFile.FieldType.int)).before args0 about1 = true := code_word (m := ⟨2, 3⟩) (meth := k2m3) (c := k2c3) (by decide +kernel) rfl rfl rfl (by decide +kernel)
def codes1 : List Jvm.Cond := [Jvm.Cond.code x code maxLocals ret, Jvm.Cond.code ({ cls := "com/example/unicept/unicept/WordTrie", name := "<init>", desc := "(I)V" } : Jvm.MethodName) prog_26_method_1_code (2 : Nat) (Option.none : Option Jvm.ClassFile.FieldType), Jvm.Cond.code ({ cls := "java/lang/Object", name := "<init>", desc := "()V" } : Jvm.MethodName) object_method_1_code (1 : Nat) (Option.none : Option Jvm.ClassFile.FieldType), Jvm.Cond.code ({ cls := "java/lang/Math", name := "max", desc := "(II)I" } : Jvm.MethodName) jdk_29_method_65_code (2 : Nat) (Option.some Jvm.ClassFile.FieldType.int), Jvm.Cond.code ({ cls := "com/example/unicept/unicept/WordTrie", name := "addRoot", desc := "()I" } : Jvm.MethodName) prog_26_method_2_code (2 : Nat) (Option.some Jvm.ClassFile.FieldType.int), Jvm.Cond.code ({ cls := "com/example/unicept/unicept/WordTrie", name := "newNode", desc := "()I" } : Jvm.MethodName) prog_26_method_9_code (2 : Nat) (Option.some Jvm.ClassFile.FieldType.int), Jvm.Cond.code ({ cls := "java/util/Arrays", name := "fill", desc := "([IIII)V" } : Jvm.MethodName) jdk_65_method_104_code (5 : Nat) (Option.none : Option Jvm.ClassFile.FieldType), Jvm.Cond.code ({ cls := "java/util/Arrays", name := "rangeCheck", desc := "(III)V" } : Jvm.MethodName) jdk_65_method_30_code (3 : Nat) (Option.none : Option Jvm.ClassFile.FieldType), Jvm.Cond.code ({ cls := "com/example/unicept/unicept/WordTrie", name := "add", desc := "(I[I)I" } : Jvm.MethodName) prog_26_method_3_code (9 : Nat) (Option.some Jvm.ClassFile.FieldType.int), Jvm.Cond.code ({ cls := "com/example/unicept/unicept/WordTrie", name := "child", desc := "(II)I" } : Jvm.MethodName) prog_26_method_4_code (3 : Nat) (Option.some Jvm.ClassFile.FieldType.int)]
set_option maxRecDepth 65536 in
theorem codes_eq : words1.filter isCode = codes1 := rfl
theorem w_codes : ∀ c ∈ words1.filter isCode, c.before args0 about1 = true := by
  rw [codes_eq]
  intro c hc
  simp only [codes1, List.mem_cons, List.not_mem_nil, or_false] at hc
  rcases hc with rfl | rfl | rfl | rfl | rfl | rfl | rfl | rfl | rfl | rfl
  · exact w_c0
  · exact w_c1
  · exact w_c2
  · exact w_c3
  · exact w_c4
  · exact w_c5
  · exact w_c6
  · exact w_c7
  · exact w_c8
  · exact w_c9
set_option maxRecDepth 65536 in
theorem w_t1 : (words1.take 24).all (fun c => isCode c || c.before args0 about1) = true := by decide +kernel
set_option maxRecDepth 65536 in
theorem w_t2 : ((words1.drop 24).take 24).all (fun c => isCode c || c.before args0 about1) = true := by decide +kernel
set_option maxRecDepth 65536 in
theorem w_t3 : ((words1.drop 24).drop 24).all (fun c => isCode c || c.before args0 about1) = true := by decide +kernel
theorem w_tables : (allAtoms (Jvm.Cond.code x code maxLocals ret :: tables_1)).before args0 about1 = true := by
  rw [allAtoms_all]
  show words1.all (fun c => c.before args0 about1) = true
  refine all_split ?_ w_codes
  rw [← List.take_append_drop 24 words1, List.all_append, w_t1, ← List.take_append_drop 24 (words1.drop 24), List.all_append, w_t2, w_t3]
  rfl
set_option maxRecDepth 65536 in
theorem w_case : (Jvm.Cond.and given_1 narrow_1).before args0 about1 = true := by decide +kernel
theorem w_applies : (headSpec (Jvm.Cond.code x code maxLocals ret :: tables_1) room_1).applies x e0.platform about1 = true :=
  (Spec.applies_iff w_frames).mpr ⟨w_running, w_runnable, w_alone, w_named, w_hears, w_ripe, w_room, w_tables⟩
theorem atStart : AtStart classFile x code maxLocals ret World_1 tables_1 room_1 Calls_1 rest_1 Pre_1 launch0 p0 e0 about1 theMethod args0 below0 :=
  ⟨lists_1, trivial, launch0.admits_env _ _ _, launch0.least_env, fairChoices_fair.cas, fairChoices_fair.clock, w_frames, w_args, w_heap, w_applies, trivial, trivial, w_case⟩
end start1
theorem witness_1 : WitnessClaimed_1 := ⟨start1.p0, start1.e0, start1.about1, start1.theMethod, start1.args0, start1.below0, start1.atStart⟩
end Jvm.Pilot.@@N@@
