import JvmDerived
import JvmDerived.Pilot.@@N@@Statement
import JvmDerived.Pilot.@@N@@Code
set_option linter.unusedVariables false
set_option linter.unusedSimpArgs false
namespace Jvm.RoadKit
open Sem ClassFile Op Lib Jvm.Stand Jvm.Free Jvm.LawKit
section New
variable {p : Program} {l : Launch} {e : Env} {R : Room} {s : State} {m : MethodId} {args : Array Value} {below : List Frame} {meth : Method} {c : Code} {T : State} {locs : List Loc} {cells slots : Nat}
theorem retI (X : Stand p l e R s m args below meth c T locs cells slots) (hx : p.tables.exec = Jvm.exec) {pc : Nat} {Ls : Array Slot} {z : Int32} {rest : List Value} (hret : meth.sig.returnType = some .int) (hd : decode c.code pc = .ok (.ireturn, 1)) {fs : List Frame}
    (hl : ∀ (f : JFrame) (acts : List Action), f.method = m → f.locked = none → f.entered = [] → (doReturn e (T.setTop f) acts (some (.int z))).1 = T.setFrames fs) : Steps p.tables e below (T.setTop (mkF m pc Ls (.int z :: rest))) (T.setFrames fs) := by
  have hm' : T.vm.method? m = some meth := X.method'
  have hn : narrow .int (.int z) = .int z := rfl
  show Steps p.tables e below (T.setTop { method := m, pc := pc, locals := Ls, stack := _ :: rest, locked := none }) _
  jvm_step X.here [X.here.top, hx, hd, hm', hret, hn]
  first | (intro acts; rw [hl _ acts rfl rfl rfl]) | rw [hl _ _ rfl rfl rfl]
  exact Steps.refl _
end New
end Jvm.RoadKit
namespace Jvm.Pilot.@@N@@
open Jvm Jvm.ClassFile Sem Op Lib Jvm.Free Jvm.Stand Jvm.LawKit Jvm.RoadKit Bundle Jvm.Pilot.@@N@@.Jvm.D
theorem own_sel {s : State} {args : Array Value} {y : MethodName} {n : Nat} (wi : (Jvm.Cond.instantiable y.cls n).before args s = true) (wp : (Jvm.Cond.privateMethod y).before args s = true) (wm : (Jvm.Cond.instanceMethod y).before args s = true) (hy : y.cls ≠ "java/lang/invoke/MethodHandle" ∧ y.cls ≠ "java/lang/invoke/VarHandle") : (Jvm.Cond.selects y.cls y y).before args s = true := by
  obtain ⟨c, k, h1, h2, -, h4, -⟩ := Cond.instantiable_spec wi
  exact Jvm.Stand.selects_self_of_private h1 h2 (by simp only [Bool.or_eq_false_iff] at h4; exact h4.1) (Cond.privateMethod_at wp) wm hy
theorem own_mul (a b : Nat) : Int32.ofNat a * Int32.ofNat b = Int32.ofNat (a * b) := (Int32.ofNat_mul a b).symm
theorem own_add (a b : Nat) : Int32.ofNat a + Int32.ofNat b = Int32.ofNat (a + b) := (Int32.ofNat_add a b).symm
theorem own_i {n : Nat} (h : n ≤ 4096) : (Int32.ofNat n).toInt = n := Int32.toInt_ofNat_of_lt (by omega)
theorem own_nc {n : Nat} (h : n ≤ 4096) : (Int32.ofNat n).toNatClampNeg = n := by
  have h1 := own_i h
  have h2 : (Int32.ofNat n).toNatClampNeg = (Int32.ofNat n).toInt.toNat := rfl
  rw [h2, h1]; rfl
theorem own_nn {n : Nat} (h : n ≤ 4096) : ¬ Int32.ofNat n < 0 := by
  intro q
  have h1 := Int32.lt_iff_toInt_lt.mp q
  have h2 := own_i h
  have h3 : (0 : Int32).toInt = 0 := by decide
  omega
theorem own_ltI {a b : Nat} (h : a < b) (hb : b ≤ 4096) : Int32.ofNat a < Int32.ofNat b := by
  refine Int32.lt_iff_toInt_lt.mpr ?_
  rw [own_i (by omega), own_i hb]; omega
theorem own_nltI {a b : Nat} (h : b ≤ a) (ha : a ≤ 4096) : ¬ Int32.ofNat a < Int32.ofNat b := by
  intro q
  have q' := Int32.lt_iff_toInt_lt.mp q
  rw [own_i ha, own_i (show b ≤ 4096 by omega)] at q'; omega
theorem own_inj {a b : Nat} (ha : a ≤ 4096) (hb : b ≤ 4096) (h : Int32.ofNat a = Int32.ofNat b) : a = b := by
  have q := congrArg Int32.toInt h
  rw [own_i ha, own_i hb] at q; omega
theorem own_len {c : Cell} {n : Nat} (S : c.slots.size = n) : c.slots.size.toInt32 = Int32.ofNat n := by subst S; rfl
theorem own_in {c : Cell} {i n : Nat} (S : c.slots.size = n) (h : i < n) (hn : n ≤ 4096) : ¬ (Int32.ofNat i < 0 ∨ c.slots.size ≤ (Int32.ofNat i).toNatClampNeg) := by
  rw [own_nc (by omega), S]
  rintro (q | q)
  · exact own_nn (by omega) q
  · omega
theorem own_at {c : Cell} {i n : Nat} {f : Nat → Int32} (H : ∀ j, j < n → c.slots[j]? = some (.int (f j))) (h : i < n) (hn : n ≤ 4096) : c.slots[(Int32.ofNat i).toNatClampNeg]? = some (.int (f i)) := by
  rw [own_nc (by omega)]; exact H i h
def own_up (f : Nat → Int32) (k : Nat) (v : Int32) : Nat → Int32 := fun j => if j = k then v else f j
def own_fl (f : Nat → Int32) (a b : Nat) (v : Int32) : Nat → Int32 := fun j => if a ≤ j ∧ j < b then v else f j
def own_FA (Z : State) (h : Heap) (a : Addr) (n : Nat) (f : Nat → Int32) : Prop := ∃ c : Cell, Arr Z h a c .int ∧ c.slots.size = n ∧ ∀ j, j < n → c.slots[j]? = some (.int (f j))
theorem own_FA.lt {Z : State} {h : Heap} {a : Addr} {n : Nat} {f : Nat → Int32} (F : own_FA Z h a n f) : a < h.size := by obtain ⟨c, A, -⟩ := F; exact A.lt
theorem own_FA.ext {Z : State} {h h' : Heap} {a : Addr} {n : Nat} {f : Nat → Int32} (F : own_FA Z h a n f) (E : Ext h h') : own_FA Z h' a n f := by obtain ⟨c, A, r⟩ := F; exact ⟨c, A.ext E, r⟩
theorem own_FA.other {Z : State} {h h' : Heap} {a b : Addr} {n sl : Nat} {v : Value} {f : Nat → Int32} (F : own_FA Z h b n f) (W : Wr h h' a sl v) (q : b ≠ a) : own_FA Z h' b n f := by obtain ⟨c, A, r⟩ := F; exact ⟨c, A.other W q, r⟩
theorem own_FA.keep {Z : State} {h h' : Heap} {a : Addr} {n : Nat} {f : Nat → Int32} {ws : List Addr} (F : own_FA Z h a n f) (K : Keep h h' ws) (q : a ∉ ws) : own_FA Z h' a n f := by obtain ⟨c, A, r⟩ := F; exact ⟨c, ⟨K.2.1 a c A.1 q, A.2⟩, r⟩
theorem own_FA.set {Z : State} {h h' : Heap} {a : Addr} {c : Cell} {n i : Nat} {v : Int32} {f : Nat → Int32} (A : Arr Z h a c .int) (S : c.slots.size = n) (H : ∀ j, j < n → c.slots[j]? = some (.int (f j))) (W : Wr h h' a (Int32.ofNat i).toNatClampNeg (.int v)) (hi : i < n) (hn : n ≤ 4096) : own_FA Z h' a n (own_up f i v) := by
  rw [own_nc (by omega)] at W
  refine ⟨_, A.same W, by rw [sz_set]; exact S, fun j hj => ?_⟩
  show (c.slots.setIfInBounds i (.int v))[j]? = some (.int (if j = i then v else f j))
  rw [Array.getElem?_setIfInBounds]
  by_cases q : i = j
  · subst q; simp [S, hi]
  · rw [if_neg q, if_neg (fun z => q z.symm)]; exact H j hj
theorem own_FA.new {Z : State} {h : Heap} {a : Addr} {k : ClassId} {z : Int32} {n : Nat} (A : Arr Z h a (newA k .int z) .int) (hz : z.toNatClampNeg = n) : own_FA Z h a n (fun _ => 0) := by
  refine ⟨_, A, (sz_new _ _ _).trans hz, fun j hj => ?_⟩
  show (Array.replicate z.toNatClampNeg (defaultValue .int))[j]? = _
  rw [hz]; simp [hj, defaultValue]
/-- the trie at a: r roles, k nodes, its three arrays -/
def own_TR (Z : State) (h : Heap) (n0 : Nat) (a : Addr) (r k : Nat) (ch : Addr) (f : Nat → Int32) (rt : Addr) (g : Nat → Int32) (tg : Addr) (kt : ClassId) (vts : List Value) : Prop :=
  Exa Z h a "com/example/unicept/unicept/WordTrie" ∧ Fld Z h a "com/example/unicept/unicept/WordTrie" "roles" "I" (.int (Int32.ofNat r)) ∧ Fld Z h a "com/example/unicept/unicept/WordTrie" "children" "[I" (.ref ch) ∧ Fld Z h a "com/example/unicept/unicept/WordTrie" "roots" "[I" (.ref rt) ∧ Fld Z h a "com/example/unicept/unicept/WordTrie" "tags" "[[I" (.ref tg) ∧ Fld Z h a "com/example/unicept/unicept/WordTrie" "size" "I" (.int (Int32.ofNat k)) ∧
  own_FA Z h ch (16 * r) f ∧ own_FA Z h rt 16 g ∧ Arv Z h tg kt (.array .int) (16 : Int32) vts .null ∧ n0 ≤ a ∧ n0 ≤ ch ∧ n0 ≤ rt ∧ n0 ≤ tg ∧ a ≠ ch ∧ a ≠ rt ∧ a ≠ tg ∧ ch ≠ rt ∧ ch ≠ tg ∧ rt ≠ tg
theorem own_TR.ext {Z : State} {h h' : Heap} {n0 : Nat} {a : Addr} {r k : Nat} {ch : Addr} {f : Nat → Int32} {rt : Addr} {g : Nat → Int32} {tg : Addr} {kt : ClassId} {vts : List Value} (F : own_TR Z h n0 a r k ch f rt g tg kt vts) (E : Ext h h') : own_TR Z h' n0 a r k ch f rt g tg kt vts := by
  obtain ⟨f1, f2, f3, f4, f5, f6, f7, f8, f9, rest⟩ := F
  exact ⟨f1.ext E, f2.ext E, f3.ext E, f4.ext E, f5.ext E, f6.ext E, f7.ext E, f8.ext E, f9.ext E, rest⟩
theorem own_TR.keep {Z : State} {h h' : Heap} {n0 : Nat} {a : Addr} {r k : Nat} {ch : Addr} {f : Nat → Int32} {rt : Addr} {g : Nat → Int32} {tg : Addr} {kt : ClassId} {vts : List Value} {ws : List Addr} (F : own_TR Z h n0 a r k ch f rt g tg kt vts) (K : Keep h h' ws) (q1 : a ∉ ws) (q2 : ch ∉ ws) (q3 : rt ∉ ws) (q4 : tg ∉ ws) : own_TR Z h' n0 a r k ch f rt g tg kt vts := by
  obtain ⟨f1, f2, f3, f4, f5, f6, f7, f8, f9, rest⟩ := F
  exact ⟨f1.keep K, f2.keep K q1, f3.keep K q1, f4.keep K q1, f5.keep K q1, f6.keep K q1, f7.keep K q2, f8.keep K q3, f9.keep K q4, rest⟩
theorem own_nt {s : State} {args : Array Value} {t : Term} {x : Addr} (hf : Fit s) (ht : t.eval args s none [] s = some (.ref x)) (h1 : (Jvm.Cond.arrayOf t .int).value args s none s [] = some true) (h2 : (Jvm.Cond.eq (Jvm.Term.length t) (Jvm.Term.int (0 : Int32))).value args s none s [] = some true) : ∃ k : ClassId, Arv s s.heap x k .int (0 : Int32) [] (.int (0 : Int32)) := by
  obtain ⟨c, A⟩ := Arr.start ht h1
  obtain ⟨a, b, ha, hb, -, hk⟩ := cmp_v (Or.inl h2)
  have eb : b = .int (0 : Int32) := (Option.some.inj ((Term.int_eval (0 : Int32)).symm.trans hb)).symm
  subst eb
  obtain ⟨z, rfl⟩ := hk
  obtain ⟨y, cy, e1, e2, e3⟩ := Term.length_spec ha
  obtain rfl : x = y := by rw [ht] at e1; exact Value.ref.inj (Option.some.inj e1)
  have e4 := (State.arrayAt?_spec e2).1
  obtain rfl : c = cy := Option.some.inj (A.1.symm.trans e4)
  have q : c.slots.size < 2 ^ 31 := by
    simp only [Term.eval, ht, e2, Option.bind_eq_bind, Option.bind_some] at ha
    by_cases hn : c.slots.size < 2 ^ 31
    · exact hn
    · simp [hn] at ha
  simp only [Cond.value, ha, hb] at h2
  have e : z = (0 : Int32) := by simpa using h2
  have e5 : c.slots.size.toInt32 = (0 : Int32) := by rw [← e]; exact (Value.int.inj e3).symm
  exact ⟨_, Arv.start hf A q e5 (by decide) (by decide) trivial⟩
theorem own_pd0 : parseMethodDescriptor "(III)V" = some ⟨[.int, .int, .int], none⟩ := by decide +kernel
theorem own_pd1 : parseMethodDescriptor "([IIII)V" = some ⟨[(.array .int), .int, .int, .int], none⟩ := by decide +kernel
theorem own_pd2 : parseMethodDescriptor "()I" = some ⟨[], some .int⟩ := by decide +kernel
theorem own_pd3 : parseMethodDescriptor "(II)I" = some ⟨[.int, .int], some .int⟩ := by decide +kernel
theorem own_pd4 : parseMethodDescriptor "([II)[I" = some ⟨[(.array .int), .int], some (.array .int)⟩ := by decide +kernel
theorem own_pd5 : parseMethodDescriptor "(I)V" = some ⟨[.int], none⟩ := by decide +kernel
theorem own_pd6 : parseMethodDescriptor "(I)[I" = some ⟨[.int], some (.array .int)⟩ := by decide +kernel
theorem own_pd7 : parseMethodDescriptor "([IIII)Z" = some ⟨[(.array .int), .int, .int, .int], some .boolean⟩ := by decide +kernel
theorem own_pd8 : parseMethodDescriptor "(II)V" = some ⟨[.int, .int], none⟩ := by decide +kernel

theorem own_d3_0 : decode jdk_29_method_65_code 0 = .ok (.iload_n 0, 1) := by decide +kernel
theorem own_d3_1 : decode jdk_29_method_65_code 1 = .ok (.iload_n 1, 1) := by decide +kernel
theorem own_d3_2 : decode jdk_29_method_65_code 2 = .ok (.if_icmp .lt 7, 3) := by decide +kernel
theorem own_d3_5 : decode jdk_29_method_65_code 5 = .ok (.iload_n 0, 1) := by decide +kernel
theorem own_d3_6 : decode jdk_29_method_65_code 6 = .ok (.goto 4, 3) := by decide +kernel
theorem own_d3_10 : decode jdk_29_method_65_code 10 = .ok (.ireturn, 1) := by decide +kernel
theorem own_ef_own_max (m : MethodId) (x0 : Int32) (x1 : Int32) : entryFrame m #[(.int x0), (.int x1)] 2 = mkF m 0 #[.val (.int x0), .val (.int x1)] [] := by first | (simp [entryFrame, mkF, argsToLocals, Value.category]; done) | rfl
def Q_own_max (Z : State) (p1 : Int32) (p2 : Int32) (h0 : Heap) (n0 : Nat) (v : Option Value) (h : Heap) (L : List Loc) : Prop := v = some (.int p1) ∧ Fr n0 L ∧ h = h0
set_option maxRecDepth 65536 in
set_option maxHeartbeats 40000000 in
theorem own_max (l : Launch) (Z : State) (a0 : Array Value) (hw : ∀ d ∈ tables_1, d.before a0 Z = true) (ws : List Jvm.Cond) (p1 : Int32) (p2 : Int32) (h0 : Heap) (n0 : Nat) (Z0 : n0 ≤ h0.size) (hm : ¬ (p1 < p2)) :
    MetFree l (⟨"java/lang/Math", "max", "(II)I"⟩ : MethodName) (head1 (Jvm.Cond.code (⟨"java/lang/Math", "max", "(II)I"⟩ : MethodName) jdk_29_method_65_code 2 (some .int) :: ws) ({ frames := 0, cells := 0, slots := 0, locals := 0 } : Room)) (fun a U => a = #[(.int p1), (.int p2)] ∧ Z.Warmed39 U.vm ∧ U.heap = h0) (fun _ _ _ _ _ => True) (fun _ U o U' => ∃ v L, o = .returned v ∧ Q_own_max Z p1 p2 h0 n0 v U'.heap L ∧ FrameEnd U o U' L ({ frames := 0, cells := 0, slots := 0, locals := 0 } : Room).cells ({ frames := 0, cells := 0, slots := 0, locals := 0 } : Room).slots) := by
  refine MetFree.of_bodySF (Jvm.Free.JP.mathPlain rfl (by decide +kernel)) hisR ?_
  intro p e s m args below meth c s₁ Bd hml0 hP hK
  obtain ⟨rfl, hZ, hh⟩ := hP
  have hx := Bd.exec
  have hby := Bd.bytes
  have hml : c.maxLocals = 2 := hml0
  have hown : s.vm.findClass "java/lang/Math" = some m.cls := findClass_of_methodNamed Bd.named
  have hnm := (name_of_methodNamed Bd.named Bd.method).1
  have X0 : Stand p l e ({ frames := 0, cells := 0, slots := 0, locals := 0 } : Room) s m #[(.int p1), (.int p2)] below meth c s₁ [] 0 0 := Stand.of_body Bd
  have e0 : s₁.heap = h0 := by rw [← hh, Bd.state]; rfl
  have N0 := Fr.nil n0
  have pre0 : Goes p e below s₁ (entryFrame m #[(.int p1), (.int p2)] 2) s₁ (mkF m 0 #[.val (.int p1), .val (.int p2)] []) := fun t k => castTop (own_ef_own_max m p1 p2) k
  have pre1 : Goes p e below s₁ (entryFrame m #[(.int p1), (.int p2)] 2) s₁ (mkF m 10 #[.val (.int p1), .val (.int p2)] [(.int p1)]) := fun t kt => pre0 t (by
      show Steps p.tables e below (s₁.setTop (mkF m 0 #[.val (.int p1), .val (.int p2)] [])) _
      refine XS.iloadN X0.here hx rfl (hb hby own_d3_0) rfl ?_
      show Steps p.tables e below (s₁.setTop (mkF m 1 #[.val (.int p1), .val (.int p2)] [(.int p1)])) _
      refine XS.iloadN X0.here hx rfl (hb hby own_d3_1) rfl ?_
      show Steps p.tables e below (s₁.setTop (mkF m 2 #[.val (.int p1), .val (.int p2)] [(.int p2), (.int p1)])) _
      refine XS.icmpNo X0.here hx rfl (hb hby own_d3_2) rfl (flt hm).1 ?_
      show Steps p.tables e below (s₁.setTop (mkF m 5 #[.val (.int p1), .val (.int p2)] [])) _
      refine XS.iloadN X0.here hx rfl (hb hby own_d3_5) rfl ?_
      show Steps p.tables e below (s₁.setTop (mkF m 6 #[.val (.int p1), .val (.int p2)] [(.int p1)])) _
      refine XS.goto X0.here hx rfl (pc0 := 6) (pc' := 10) rfl (hb hby own_d3_6) (by decide) (by decide) ?_
      exact kt)
  obtain ⟨fs, hr, hrun, hended, hW, hsame⟩ := X0.leave (v := some (.int p1)) (fun h => by rw [Bd.returns] at h; cases h)
  refine ⟨_, _, pre1 _ ?_, hrun, hended, _, _, rfl, ?_, ⟨_, rfl⟩, hW, hsame.mono (by decide) (by decide)⟩
  · show Steps p.tables e below (s₁.setTop (mkF m 10 #[.val (.int p1), .val (.int p2)] [(.int p1)])) _
    exact retI X0 hx Bd.returns (hb hby own_d3_10) hr
  · show Q_own_max Z p1 p2 h0 n0 _ s₁.heap _
    rw [e0]
    exact ⟨rfl, N0, rfl⟩

theorem own_d7_0 : decode jdk_65_method_30_code 0 = .ok (.iload_n 1, 1) := by decide +kernel
theorem own_d7_1 : decode jdk_65_method_30_code 1 = .ok (.iload_n 2, 1) := by decide +kernel
theorem own_d7_2 : decode jdk_65_method_30_code 2 = .ok (.if_icmp .le 44, 3) := by decide +kernel
theorem own_d7_46 : decode jdk_65_method_30_code 46 = .ok (.iload_n 1, 1) := by decide +kernel
theorem own_d7_47 : decode jdk_65_method_30_code 47 = .ok (.ifCond .ge 12, 3) := by decide +kernel
theorem own_d7_59 : decode jdk_65_method_30_code 59 = .ok (.iload_n 2, 1) := by decide +kernel
theorem own_d7_60 : decode jdk_65_method_30_code 60 = .ok (.iload_n 0, 1) := by decide +kernel
theorem own_d7_61 : decode jdk_65_method_30_code 61 = .ok (.if_icmp .le 12, 3) := by decide +kernel
theorem own_d7_73 : decode jdk_65_method_30_code 73 = .ok (.return_, 1) := by decide +kernel
theorem own_pn_own_range : plainName "java/util/Arrays" = true := by first | (simp [plainName, overriddenIn]; done) | decide +kernel
theorem own_ef_own_range (m : MethodId) (x0 : Int32) (x1 : Int32) (x2 : Int32) : entryFrame m #[(.int x0), (.int x1), (.int x2)] 3 = mkF m 0 #[.val (.int x0), .val (.int x1), .val (.int x2)] [] := by first | (simp [entryFrame, mkF, argsToLocals, Value.category]; done) | rfl
def Q_own_range (Z : State) (p1 : Int32) (p2 : Int32) (p3 : Int32) (h0 : Heap) (n0 : Nat) (v : Option Value) (h : Heap) (L : List Loc) : Prop := v = none ∧ Fr n0 L ∧ h = h0
set_option maxRecDepth 65536 in
set_option maxHeartbeats 40000000 in
theorem own_range (l : Launch) (Z : State) (a0 : Array Value) (hw : ∀ d ∈ tables_1, d.before a0 Z = true) (ws : List Jvm.Cond) (p1 : Int32) (p2 : Int32) (p3 : Int32) (h0 : Heap) (n0 : Nat) (Z0 : n0 ≤ h0.size) (h1 : ¬ (p3 < p2)) (h2 : ¬ (p2 < (0 : Int32))) (h3 : ¬ (p1 < p3)) :
    MetFree l (⟨"java/util/Arrays", "rangeCheck", "(III)V"⟩ : MethodName) (head1 (Jvm.Cond.code (⟨"java/util/Arrays", "rangeCheck", "(III)V"⟩ : MethodName) jdk_65_method_30_code 3 none :: ws) ({ frames := 0, cells := 0, slots := 0, locals := 0 } : Room)) (fun a U => a = #[(.int p1), (.int p2), (.int p3)] ∧ Z.Warmed39 U.vm ∧ U.heap = h0) (fun _ _ _ _ _ => True) (fun _ U o U' => ∃ v L, o = .returned v ∧ Q_own_range Z p1 p2 p3 h0 n0 v U'.heap L ∧ FrameEnd U o U' L ({ frames := 0, cells := 0, slots := 0, locals := 0 } : Room).cells ({ frames := 0, cells := 0, slots := 0, locals := 0 } : Room).slots) := by
  refine MetFree.of_bodySF (plainFor_of_name own_pn_own_range) hisR ?_
  intro p e s m args below meth c s₁ Bd hml0 hP hK
  obtain ⟨rfl, hZ, hh⟩ := hP
  have hx := Bd.exec
  have hby := Bd.bytes
  have hml : c.maxLocals = 3 := hml0
  have hown : s.vm.findClass "java/util/Arrays" = some m.cls := findClass_of_methodNamed Bd.named
  have hnm := (name_of_methodNamed Bd.named Bd.method).1
  have X0 : Stand p l e ({ frames := 0, cells := 0, slots := 0, locals := 0 } : Room) s m #[(.int p1), (.int p2), (.int p3)] below meth c s₁ [] 0 0 := Stand.of_body Bd
  have e0 : s₁.heap = h0 := by rw [← hh, Bd.state]; rfl
  have N0 := Fr.nil n0
  have pre0 : Goes p e below s₁ (entryFrame m #[(.int p1), (.int p2), (.int p3)] 3) s₁ (mkF m 0 #[.val (.int p1), .val (.int p2), .val (.int p3)] []) := fun t k => castTop (own_ef_own_range m p1 p2 p3) k
  have pre1 : Goes p e below s₁ (entryFrame m #[(.int p1), (.int p2), (.int p3)] 3) s₁ (mkF m 73 #[.val (.int p1), .val (.int p2), .val (.int p3)] []) := fun t kt => pre0 t (by
      show Steps p.tables e below (s₁.setTop (mkF m 0 #[.val (.int p1), .val (.int p2), .val (.int p3)] [])) _
      refine XS.iloadN X0.here hx rfl (hb hby own_d7_0) rfl ?_
      show Steps p.tables e below (s₁.setTop (mkF m 1 #[.val (.int p1), .val (.int p2), .val (.int p3)] [(.int p2)])) _
      refine XS.iloadN X0.here hx rfl (hb hby own_d7_1) rfl ?_
      show Steps p.tables e below (s₁.setTop (mkF m 2 #[.val (.int p1), .val (.int p2), .val (.int p3)] [(.int p3), (.int p2)])) _
      refine XS.icmpYes X0.here hx rfl (pc0 := 2) (pc' := 46) rfl (hb hby own_d7_2) rfl (flt h1).2.2.2 (by decide) (by decide) ?_
      show Steps p.tables e below (s₁.setTop (mkF m 46 #[.val (.int p1), .val (.int p2), .val (.int p3)] [])) _
      refine XS.iloadN X0.here hx rfl (hb hby own_d7_46) rfl ?_
      show Steps p.tables e below (s₁.setTop (mkF m 47 #[.val (.int p1), .val (.int p2), .val (.int p3)] [(.int p2)])) _
      refine XS.ifYes X0.here hx rfl (pc0 := 47) (pc' := 59) rfl (hb hby own_d7_47) rfl ((if0 _ _).trans (flt h2).2.1) (by decide) (by decide) ?_
      show Steps p.tables e below (s₁.setTop (mkF m 59 #[.val (.int p1), .val (.int p2), .val (.int p3)] [])) _
      refine XS.iloadN X0.here hx rfl (hb hby own_d7_59) rfl ?_
      show Steps p.tables e below (s₁.setTop (mkF m 60 #[.val (.int p1), .val (.int p2), .val (.int p3)] [(.int p3)])) _
      refine XS.iloadN X0.here hx rfl (hb hby own_d7_60) rfl ?_
      show Steps p.tables e below (s₁.setTop (mkF m 61 #[.val (.int p1), .val (.int p2), .val (.int p3)] [(.int p1), (.int p3)])) _
      refine XS.icmpYes X0.here hx rfl (pc0 := 61) (pc' := 73) rfl (hb hby own_d7_61) rfl (flt h3).2.2.2 (by decide) (by decide) ?_
      exact kt)
  obtain ⟨fs, hr, hrun, hended, hW, hsame⟩ := X0.leave (v := none) (fun _ => rfl)
  refine ⟨_, _, pre1 _ ?_, hrun, hended, _, _, rfl, ?_, ⟨_, rfl⟩, hW, hsame.mono (by decide) (by decide)⟩
  · show Steps p.tables e below (s₁.setTop (mkF m 73 #[.val (.int p1), .val (.int p2), .val (.int p3)] [])) _
    exact X0.returnOut hx Bd.returns (hb hby own_d7_73) hr
  · show Q_own_range Z p1 p2 p3 h0 n0 _ s₁.heap _
    rw [e0]
    exact ⟨rfl, N0, rfl⟩

theorem own_dfill_0 : decode jdk_65_method_104_code 0 = .ok (.aload_n 0, 1) := by decide +kernel
theorem own_dfill_1 : decode jdk_65_method_104_code 1 = .ok (.arraylength, 1) := by decide +kernel
theorem own_dfill_2 : decode jdk_65_method_104_code 2 = .ok (.iload_n 1, 1) := by decide +kernel
theorem own_dfill_3 : decode jdk_65_method_104_code 3 = .ok (.iload_n 2, 1) := by decide +kernel
theorem own_dfill_4 : decode jdk_65_method_104_code 4 = .ok (.invokestatic 13, 3) := by decide +kernel
theorem own_dfill_7 : decode jdk_65_method_104_code 7 = .ok (.iload_n 1, 1) := by decide +kernel
theorem own_dfill_8 : decode jdk_65_method_104_code 8 = .ok (.istore 4, 2) := by decide +kernel
theorem own_dfill_10 : decode jdk_65_method_104_code 10 = .ok (.iload 4, 2) := by decide +kernel
theorem own_dfill_12 : decode jdk_65_method_104_code 12 = .ok (.iload_n 2, 1) := by decide +kernel
theorem own_dfill_13 : decode jdk_65_method_104_code 13 = .ok (.if_icmp .ge 14, 3) := by decide +kernel
theorem own_dfill_16 : decode jdk_65_method_104_code 16 = .ok (.aload_n 0, 1) := by decide +kernel
theorem own_dfill_17 : decode jdk_65_method_104_code 17 = .ok (.iload 4, 2) := by decide +kernel
theorem own_dfill_19 : decode jdk_65_method_104_code 19 = .ok (.iload_n 3, 1) := by decide +kernel
theorem own_dfill_20 : decode jdk_65_method_104_code 20 = .ok (.iastore, 1) := by decide +kernel
theorem own_dfill_21 : decode jdk_65_method_104_code 21 = .ok (.iinc 4 1, 3) := by decide +kernel
theorem own_dfill_24 : decode jdk_65_method_104_code 24 = .ok (.goto (-14), 3) := by decide +kernel
theorem own_dfill_27 : decode jdk_65_method_104_code 27 = .ok (.return_, 1) := by decide +kernel

set_option maxRecDepth 65536 in
set_option maxHeartbeats 40000000 in
theorem own_fillTurn {p : Program} {l : Launch} {e : Env} {R : Room} {s : State} {m : MethodId} {args : Array Value} {below : List Frame} {meth : Method} {c : Code} {Z : State} {a0 : Array Value} {T0 : State} {h0 : Heap} {locs : List Loc} {cells slots : Nat} (x : Addr) (n : Nat) (f : Nat → Int32) (fa fb i : Nat) (p3 : Int32) (n0 : Nat) (hx : p.tables.exec = Jvm.exec) (hZ : Z.Warmed39 s.vm) (hw : ∀ d ∈ tables_1, d.before a0 Z = true) (hby : c.code = jdk_65_method_104_code) (hml : c.maxLocals = 5) (hown : s.vm.findClass "java/util/Arrays" = some m.cls) (X0 : Stand p l e R s m args below meth c T0 locs cells slots) (e0 : T0.heap = h0) (N0 : Fr n0 locs) (g_x : n0 ≤ x) (V_x : own_FA Z h0 x n f) (hn : n ≤ 4096) (hfb : fb ≤ n) (hi : i < fb) :
    ∃ (T' : State) (h' : Heap) (locs' : List Loc), Stand p l e R s m args below meth c T' locs' cells slots ∧ T'.heap = h' ∧ Fr n0 locs' ∧ Keep h0 h' [x] ∧ own_FA Z h' x n (own_up f i p3) ∧ Goes p e below T0 (mkF m 10 #[.val (.ref x), .val (.int (Int32.ofNat fa)), .val (.int (Int32.ofNat fb)), .val (.int p3), .val (.int (Int32.ofNat i))] []) T' (mkF m 10 #[.val (.ref x), .val (.int (Int32.ofNat fa)), .val (.int (Int32.ofNat fb)), .val (.int p3), .val (.int (Int32.ofNat (i + 1)))] []) := by
  have pre0 : Goes p e below T0 (mkF m 10 #[.val (.ref x), .val (.int (Int32.ofNat fa)), .val (.int (Int32.ofNat fb)), .val (.int p3), .val (.int (Int32.ofNat i))] []) T0 (mkF m 10 #[.val (.ref x), .val (.int (Int32.ofNat fa)), .val (.int (Int32.ofNat fb)), .val (.int p3), .val (.int (Int32.ofNat i))] []) := fun t k => k
  have pre1 : Goes p e below T0 (mkF m 10 #[.val (.ref x), .val (.int (Int32.ofNat fa)), .val (.int (Int32.ofNat fb)), .val (.int p3), .val (.int (Int32.ofNat i))] []) T0 (mkF m 20 #[.val (.ref x), .val (.int (Int32.ofNat fa)), .val (.int (Int32.ofNat fb)), .val (.int p3), .val (.int (Int32.ofNat i))] [(.int p3), (.int (Int32.ofNat i)), (.ref x)]) := fun t kt => pre0 t (by
      show Steps p.tables e below (T0.setTop (mkF m 10 #[.val (.ref x), .val (.int (Int32.ofNat fa)), .val (.int (Int32.ofNat fb)), .val (.int p3), .val (.int (Int32.ofNat i))] [])) _
      refine XS.iload X0.here hx rfl (hb hby own_dfill_10) rfl ?_
      show Steps p.tables e below (T0.setTop (mkF m 12 #[.val (.ref x), .val (.int (Int32.ofNat fa)), .val (.int (Int32.ofNat fb)), .val (.int p3), .val (.int (Int32.ofNat i))] [(.int (Int32.ofNat i))])) _
      refine XS.iloadN X0.here hx rfl (hb hby own_dfill_12) rfl ?_
      show Steps p.tables e below (T0.setTop (mkF m 13 #[.val (.ref x), .val (.int (Int32.ofNat fa)), .val (.int (Int32.ofNat fb)), .val (.int p3), .val (.int (Int32.ofNat i))] [(.int (Int32.ofNat fb)), (.int (Int32.ofNat i))])) _
      refine XS.icmpNo X0.here hx rfl (hb hby own_dfill_13) rfl (tlt (own_ltI hi (Nat.le_trans hfb hn))).2.1 ?_
      show Steps p.tables e below (T0.setTop (mkF m 16 #[.val (.ref x), .val (.int (Int32.ofNat fa)), .val (.int (Int32.ofNat fb)), .val (.int p3), .val (.int (Int32.ofNat i))] [])) _
      refine XS.aloadN X0.here hx rfl (hb hby own_dfill_16) rfl rfl ?_
      show Steps p.tables e below (T0.setTop (mkF m 17 #[.val (.ref x), .val (.int (Int32.ofNat fa)), .val (.int (Int32.ofNat fb)), .val (.int p3), .val (.int (Int32.ofNat i))] [(.ref x)])) _
      refine XS.iload X0.here hx rfl (hb hby own_dfill_17) rfl ?_
      show Steps p.tables e below (T0.setTop (mkF m 19 #[.val (.ref x), .val (.int (Int32.ofNat fa)), .val (.int (Int32.ofNat fb)), .val (.int p3), .val (.int (Int32.ofNat i))] [(.int (Int32.ofNat i)), (.ref x)])) _
      refine XS.iloadN X0.here hx rfl (hb hby own_dfill_19) rfl ?_
      exact kt)
  obtain ⟨cl2, Ar2, S2, H2⟩ := (id (V_x))
  have hlt2 : i < n := (Nat.lt_of_lt_of_le hi hfb)
  have hin2 : ¬ ((Int32.ofNat i) < 0 ∨ cl2.slots.size ≤ ((Int32.ofNat i)).toNatClampNeg) := own_in S2 hlt2 hn
  obtain ⟨T3, h3, X3, e3, W3, st3⟩ := stI X0 hx hZ e0 Ar2 (j := (Int32.ofNat i)) hin2 (g := (mkF m 20 #[.val (.ref x), .val (.int (Int32.ofNat fa)), .val (.int (Int32.ofNat fb)), .val (.int p3), .val (.int (Int32.ofNat i))] [(.int p3), (.int (Int32.ofNat i)), (.ref x)])) rfl rfl (hb hby own_dfill_20)
  have V3 : own_FA Z h3 x n (own_up f i p3) := own_FA.set Ar2 S2 H2 W3 hlt2 hn
  have K3 : Keep h0 h3 [x] := (Keep.refl h0 [x]).wr W3 (Or.inl (List.mem_of_getElem? (i := 0) rfl))
  have N3 := Fr.snoc X3 N0 g_x
  have pre4 : Goes p e below T0 (mkF m 10 #[.val (.ref x), .val (.int (Int32.ofNat fa)), .val (.int (Int32.ofNat fb)), .val (.int p3), .val (.int (Int32.ofNat i))] []) T3 (mkF m 21 #[.val (.ref x), .val (.int (Int32.ofNat fa)), .val (.int (Int32.ofNat fb)), .val (.int p3), .val (.int (Int32.ofNat i))] []) := fun t kt => pre1 t (st3 t kt)
  have pre5 : Goes p e below T0 (mkF m 10 #[.val (.ref x), .val (.int (Int32.ofNat fa)), .val (.int (Int32.ofNat fb)), .val (.int p3), .val (.int (Int32.ofNat i))] []) T3 (mkF m 24 #[.val (.ref x), .val (.int (Int32.ofNat fa)), .val (.int (Int32.ofNat fb)), .val (.int p3), .val (.int ((Int32.ofNat i) + (1 : Int32)))] []) := fun t kt => pre4 t (by
      show Steps p.tables e below (T3.setTop (mkF m 21 #[.val (.ref x), .val (.int (Int32.ofNat fa)), .val (.int (Int32.ofNat fb)), .val (.int p3), .val (.int (Int32.ofNat i))] [])) _
      refine XS.iinc X3.here hx rfl (hb hby own_dfill_21) rfl (l' := #[.val (.ref x), .val (.int (Int32.ofNat fa)), .val (.int (Int32.ofNat fb)), .val (.int p3), .val (.int ((Int32.ofNat i) + (1 : Int32)))]) rfl ?_
      exact kt)
  rw [show ((Int32.ofNat i) + (1 : Int32)) = (Int32.ofNat (i + 1)) from own_add i 1] at pre5
  have pre6 : Goes p e below T0 (mkF m 10 #[.val (.ref x), .val (.int (Int32.ofNat fa)), .val (.int (Int32.ofNat fb)), .val (.int p3), .val (.int (Int32.ofNat i))] []) T3 (mkF m 10 #[.val (.ref x), .val (.int (Int32.ofNat fa)), .val (.int (Int32.ofNat fb)), .val (.int p3), .val (.int (Int32.ofNat (i + 1)))] []) := fun t kt => pre5 t (by
      show Steps p.tables e below (T3.setTop (mkF m 24 #[.val (.ref x), .val (.int (Int32.ofNat fa)), .val (.int (Int32.ofNat fb)), .val (.int p3), .val (.int (Int32.ofNat (i + 1)))] [])) _
      refine XS.goto X3.here hx rfl (pc0 := 24) (pc' := 10) rfl (hb hby own_dfill_24) (by decide) (by decide) ?_
      exact kt)
  exact ⟨T3, _, _, X3, e3, N3, K3, V3, pre6⟩

set_option maxRecDepth 65536 in
set_option maxHeartbeats 40000000 in
theorem own_fillOut {p : Program} {l : Launch} {e : Env} {R : Room} {s : State} {m : MethodId} {args : Array Value} {below : List Frame} {meth : Method} {c : Code} {Z : State} {a0 : Array Value} {T0 : State} {locs : List Loc} {cells slots : Nat} (x : Addr) (fa fb : Nat) (p3 : Int32) (hx : p.tables.exec = Jvm.exec) (hZ : Z.Warmed39 s.vm) (hw : ∀ d ∈ tables_1, d.before a0 Z = true) (hby : c.code = jdk_65_method_104_code) (hml : c.maxLocals = 5) (hown : s.vm.findClass "java/util/Arrays" = some m.cls) (X0 : Stand p l e R s m args below meth c T0 locs cells slots) (hfb : fb ≤ 4096) :
    Goes p e below T0 (mkF m 10 #[.val (.ref x), .val (.int (Int32.ofNat fa)), .val (.int (Int32.ofNat fb)), .val (.int p3), .val (.int (Int32.ofNat fb))] []) T0 (mkF m 27 #[.val (.ref x), .val (.int (Int32.ofNat fa)), .val (.int (Int32.ofNat fb)), .val (.int p3), .val (.int (Int32.ofNat fb))] []) := by
  have pre0 : Goes p e below T0 (mkF m 10 #[.val (.ref x), .val (.int (Int32.ofNat fa)), .val (.int (Int32.ofNat fb)), .val (.int p3), .val (.int (Int32.ofNat fb))] []) T0 (mkF m 10 #[.val (.ref x), .val (.int (Int32.ofNat fa)), .val (.int (Int32.ofNat fb)), .val (.int p3), .val (.int (Int32.ofNat fb))] []) := fun t k => k
  have pre7 : Goes p e below T0 (mkF m 10 #[.val (.ref x), .val (.int (Int32.ofNat fa)), .val (.int (Int32.ofNat fb)), .val (.int p3), .val (.int (Int32.ofNat fb))] []) T0 (mkF m 27 #[.val (.ref x), .val (.int (Int32.ofNat fa)), .val (.int (Int32.ofNat fb)), .val (.int p3), .val (.int (Int32.ofNat fb))] []) := fun t kt => pre0 t (by
      show Steps p.tables e below (T0.setTop (mkF m 10 #[.val (.ref x), .val (.int (Int32.ofNat fa)), .val (.int (Int32.ofNat fb)), .val (.int p3), .val (.int (Int32.ofNat fb))] [])) _
      refine XS.iload X0.here hx rfl (hb hby own_dfill_10) rfl ?_
      show Steps p.tables e below (T0.setTop (mkF m 12 #[.val (.ref x), .val (.int (Int32.ofNat fa)), .val (.int (Int32.ofNat fb)), .val (.int p3), .val (.int (Int32.ofNat fb))] [(.int (Int32.ofNat fb))])) _
      refine XS.iloadN X0.here hx rfl (hb hby own_dfill_12) rfl ?_
      show Steps p.tables e below (T0.setTop (mkF m 13 #[.val (.ref x), .val (.int (Int32.ofNat fa)), .val (.int (Int32.ofNat fb)), .val (.int p3), .val (.int (Int32.ofNat fb))] [(.int (Int32.ofNat fb)), (.int (Int32.ofNat fb))])) _
      refine XS.icmpYes X0.here hx rfl (pc0 := 13) (pc' := 27) rfl (hb hby own_dfill_13) rfl (flt (own_nltI (Nat.le_refl _) hfb)).2.1 (by decide) (by decide) ?_
      exact kt)
  exact pre7

theorem own_fl_step (f : Nat → Int32) (i fb : Nat) (v : Int32) (hi : i < fb) : own_fl (own_up f i v) (i + 1) fb v = own_fl f i fb v := by
  funext j
  simp only [own_fl, own_up]
  by_cases h1 : i + 1 ≤ j ∧ j < fb
  · rw [if_pos h1, if_pos (by omega)]
  · rw [if_neg h1]
    by_cases h2 : j = i
    · rw [if_pos h2, if_pos (by omega)]
    · rw [if_neg h2, if_neg (by omega)]
theorem own_fl_none (f : Nat → Int32) (i : Nat) (v : Int32) : own_fl f i i v = f := by
  funext j
  simp only [own_fl]; rw [if_neg (by omega)]
theorem own_fillLoop {p : Program} {l : Launch} {e : Env} {R : Room} {s : State} {m : MethodId} {args : Array Value} {below : List Frame} {meth : Method} {c : Code} {Z : State} {a0 : Array Value} {cells slots : Nat} (x : Addr) (n : Nat) (fa fb : Nat) (p3 : Int32) (n0 : Nat) (hx : p.tables.exec = Jvm.exec) (hZ : Z.Warmed39 s.vm) (hw : ∀ d ∈ tables_1, d.before a0 Z = true) (hby : c.code = jdk_65_method_104_code) (hml : c.maxLocals = 5) (hown : s.vm.findClass "java/util/Arrays" = some m.cls) (g_x : n0 ≤ x) (hn : n ≤ 4096) (hfb : fb ≤ n) :
    ∀ (d i : Nat) (T0 : State) (h0 : Heap) (locs : List Loc) (f : Nat → Int32), i + d = fb → Stand p l e R s m args below meth c T0 locs cells slots → T0.heap = h0 → Fr n0 locs → own_FA Z h0 x n f →
      ∃ (T' : State) (h' : Heap) (locs' : List Loc), Stand p l e R s m args below meth c T' locs' cells slots ∧ T'.heap = h' ∧ Fr n0 locs' ∧ Keep h0 h' [x] ∧ own_FA Z h' x n (own_fl f i fb p3) ∧ Goes p e below T0 (mkF m 10 #[.val (.ref x), .val (.int (Int32.ofNat fa)), .val (.int (Int32.ofNat fb)), .val (.int p3), .val (.int (Int32.ofNat i))] []) T' (mkF m 27 #[.val (.ref x), .val (.int (Int32.ofNat fa)), .val (.int (Int32.ofNat fb)), .val (.int p3), .val (.int (Int32.ofNat fb))] []) := by
  intro d
  induction d with
  | zero =>
    intro i T0 h0 locs f hi X0 e0 N0 V0
    have hi' : i = fb := by omega
    subst hi'
    rw [own_fl_none]
    exact ⟨T0, h0, locs, X0, e0, N0, Keep.refl _ _, V0, own_fillOut x fa i p3 hx hZ hw hby hml hown X0 (Nat.le_trans hfb hn)⟩
  | succ d ih =>
    intro i T0 h0 locs f hi X0 e0 N0 V0
    obtain ⟨T1, h1, locs1, X1, e1, N1, K1, V1, st1⟩ := own_fillTurn x n f fa fb i p3 n0 hx hZ hw hby hml hown X0 e0 N0 g_x V0 hn hfb (by omega)
    obtain ⟨T2, h2, locs2, X2, e2, N2, K2, V2, st2⟩ := ih (i + 1) T1 h1 locs1 _ (by omega) X1 e1 N1 V1
    rw [own_fl_step f i fb p3 (by omega)] at V2
    exact ⟨T2, h2, locs2, X2, e2, N2, K1.trans K2 (fun y hy => Or.inl hy), V2, fun t k => st1 t (st2 t k)⟩

theorem own_pn_own_fill : plainName "java/util/Arrays" = true := by first | (simp [plainName, overriddenIn]; done) | decide +kernel
theorem own_ef_own_fill (m : MethodId) (x0 : Addr) (x1 : Int32) (x2 : Int32) (x3 : Int32) : entryFrame m #[(.ref x0), (.int x1), (.int x2), (.int x3)] 5 = mkF m 0 #[.val (.ref x0), .val (.int x1), .val (.int x2), .val (.int x3), .unset] [] := by first | (simp [entryFrame, mkF, argsToLocals, Value.category]; done) | rfl
def Q_own_fill (Z : State) (x : Addr) (n : Nat) (f : Nat → Int32) (fa : Nat) (fb : Nat) (p3 : Int32) (h0 : Heap) (n0 : Nat) (v : Option Value) (h : Heap) (L : List Loc) : Prop := v = none ∧ Fr n0 L ∧ Keep h0 h [x] ∧ own_FA Z h x n (own_fl f fa fb p3)
set_option maxRecDepth 65536 in
set_option maxHeartbeats 40000000 in
theorem own_fill (l : Launch) (Z : State) (a0 : Array Value) (hw : ∀ d ∈ tables_1, d.before a0 Z = true) (ws : List Jvm.Cond) (x : Addr) (n : Nat) (f : Nat → Int32) (fa : Nat) (fb : Nat) (p3 : Int32) (h0 : Heap) (n0 : Nat) (Z0 : n0 ≤ h0.size) (V_x : own_FA Z h0 x n f) (g_x : n0 ≤ x) (hn : n ≤ 4096) (hab : fa ≤ fb) (hfb : fb ≤ n) :
    MetFree l (⟨"java/util/Arrays", "fill", "([IIII)V"⟩ : MethodName) (head1 (Jvm.Cond.code (⟨"java/util/Arrays", "fill", "([IIII)V"⟩ : MethodName) jdk_65_method_104_code 5 none :: ws) ({ frames := 1, cells := 0, slots := 0, locals := 14 } : Room)) (fun a U => a = #[(.ref x), (.int (Int32.ofNat fa)), (.int (Int32.ofNat fb)), (.int p3)] ∧ Z.Warmed39 U.vm ∧ U.heap = h0) (fun _ _ _ _ _ => True) (fun _ U o U' => ∃ v L, o = .returned v ∧ Q_own_fill Z x n f fa fb p3 h0 n0 v U'.heap L ∧ FrameEnd U o U' L ({ frames := 1, cells := 0, slots := 0, locals := 14 } : Room).cells ({ frames := 1, cells := 0, slots := 0, locals := 14 } : Room).slots) := by
  refine MetFree.of_bodySF (plainFor_of_name own_pn_own_fill) hisR ?_
  intro p e s m args below meth c s₁ Bd hml0 hP hK
  obtain ⟨rfl, hZ, hh⟩ := hP
  have hx := Bd.exec
  have hby := Bd.bytes
  have hml : c.maxLocals = 5 := hml0
  have hown : s.vm.findClass "java/util/Arrays" = some m.cls := findClass_of_methodNamed Bd.named
  have hnm := (name_of_methodNamed Bd.named Bd.method).1
  have X0 : Stand p l e ({ frames := 1, cells := 0, slots := 0, locals := 14 } : Room) s m #[(.ref x), (.int (Int32.ofNat fa)), (.int (Int32.ofNat fb)), (.int p3)] below meth c s₁ [] 0 0 := Stand.of_body Bd
  have e0 : s₁.heap = h0 := by rw [← hh, Bd.state]; rfl
  have N0 := Fr.nil n0
  have pre0 : Goes p e below s₁ (entryFrame m #[(.ref x), (.int (Int32.ofNat fa)), (.int (Int32.ofNat fb)), (.int p3)] 5) s₁ (mkF m 0 #[.val (.ref x), .val (.int (Int32.ofNat fa)), .val (.int (Int32.ofNat fb)), .val (.int p3), .unset] []) := fun t k => castTop (own_ef_own_fill m x (Int32.ofNat fa) (Int32.ofNat fb) p3) k
  have pre1 : Goes p e below s₁ (entryFrame m #[(.ref x), (.int (Int32.ofNat fa)), (.int (Int32.ofNat fb)), (.int p3)] 5) s₁ (mkF m 1 #[.val (.ref x), .val (.int (Int32.ofNat fa)), .val (.int (Int32.ofNat fb)), .val (.int p3), .unset] [(.ref x)]) := fun t kt => pre0 t (by
      show Steps p.tables e below (s₁.setTop (mkF m 0 #[.val (.ref x), .val (.int (Int32.ofNat fa)), .val (.int (Int32.ofNat fb)), .val (.int p3), .unset] [])) _
      refine XS.aloadN X0.here hx rfl (hb hby own_dfill_0) rfl rfl ?_
      exact kt)
  obtain ⟨cl2, Ar2, S2, H2⟩ := (id (V_x))
  have pre3 : Goes p e below s₁ (entryFrame m #[(.ref x), (.int (Int32.ofNat fa)), (.int (Int32.ofNat fb)), (.int p3)] 5) s₁ (mkF m 4 #[.val (.ref x), .val (.int (Int32.ofNat fa)), .val (.int (Int32.ofNat fb)), .val (.int p3), .unset] [(.int (Int32.ofNat fb)), (.int (Int32.ofNat fa)), (.int (Int32.ofNat n))]) := fun t kt => pre1 t (by
      show Steps p.tables e below (s₁.setTop (mkF m 1 #[.val (.ref x), .val (.int (Int32.ofNat fa)), .val (.int (Int32.ofNat fb)), .val (.int p3), .unset] [(.ref x)])) _
      refine X0.arraylength hx (by (try rw [e0]); exact Ar2.1) (State.isArrayOf_alike hZ.alike Ar2.2.1) (g := (mkF m 1 #[.val (.ref x), .val (.int (Int32.ofNat fa)), .val (.int (Int32.ofNat fb)), .val (.int p3), .unset] [(.ref x)])) rfl rfl (hb hby own_dfill_1) _ ?_
      rw [own_len S2]
      show Steps p.tables e below (s₁.setTop (mkF m 2 #[.val (.ref x), .val (.int (Int32.ofNat fa)), .val (.int (Int32.ofNat fb)), .val (.int p3), .unset] [(.int (Int32.ofNat n))])) _
      refine XS.iloadN X0.here hx rfl (hb hby own_dfill_2) rfl ?_
      show Steps p.tables e below (s₁.setTop (mkF m 3 #[.val (.ref x), .val (.int (Int32.ofNat fa)), .val (.int (Int32.ofNat fb)), .val (.int p3), .unset] [(.int (Int32.ofNat fa)), (.int (Int32.ofNat n))])) _
      refine XS.iloadN X0.here hx rfl (hb hby own_dfill_3) rfl ?_
      exact kt)
  obtain ⟨_, _, ⟨T4, L4, k4, n4⟩, -, X4, ⟨Lc4, hQ4, l4, y4, z4⟩, st4⟩ := Jvm.LawKit.callS X0 hx (y := (⟨"java/util/Arrays", "rangeCheck", "(III)V"⟩ : MethodName)) hown (mvT hZ (hw _ (List.mem_of_getElem? (i := 39) rfl))) (mvT hZ (hw _ (List.mem_of_getElem? (i := 40) rfl))) (mvT hZ (hw _ (List.mem_of_getElem? (i := 37) rfl))) (mvT hZ (hw _ (List.mem_of_getElem? (i := 41) rfl))) (by decide) (backOf (W := 0) (own_range l Z a0 hw [] (Int32.ofNat n) (Int32.ofNat fa) (Int32.ofNat fb) h0 n0 Z0 (own_nltI hab (Nat.le_trans hfb hn)) (own_nn (Nat.le_trans hab (Nat.le_trans hfb hn))) (own_nltI hfb hn)) hZ (hw _ (List.mem_of_getElem? (i := 41) rfl)) (hw _ (List.mem_of_getElem? (i := 37) rfl)) (by decide) (by decide)) (g := (mkF m 4 #[.val (.ref x), .val (.int (Int32.ofNat fa)), .val (.int (Int32.ofNat fb)), .val (.int p3), .unset] [(.int (Int32.ofNat fb)), (.int (Int32.ofNat fa)), (.int (Int32.ofNat n))])) rfl (by rw [hml]; rfl) (argsL := [(.int (Int32.ofNat n)), (.int (Int32.ofNat fa)), (.int (Int32.ofNat fb))]) (rest := []) (lenOf own_pd0 rfl) rfl (by show 2 * 0 + _ ≤ _; exact Nat.le_of_eq rfl) (hb hby own_dfill_4) (fun _ _ => ⟨rfl, e0, (by decide : 0 + 0 ≤ _), (by decide : 0 + 0 ≤ _)⟩)
  dsimp only [Pt.U, Pt.locs, Pt.cells, Pt.slots] at X4 l4 y4 z4 st4 hQ4
  subst l4 y4 z4
  obtain ⟨rfl, N4q, e4⟩ := hQ4
  have N4 := Fr.app N0 N4q
  have pre5 : Goes p e below s₁ (entryFrame m #[(.ref x), (.int (Int32.ofNat fa)), (.int (Int32.ofNat fb)), (.int p3)] 5) T4 (mkF m 7 #[.val (.ref x), .val (.int (Int32.ofNat fa)), .val (.int (Int32.ofNat fb)), .val (.int p3), .unset] []) := fun t kt => pre3 t (st4 t kt)
  have pre6 : Goes p e below s₁ (entryFrame m #[(.ref x), (.int (Int32.ofNat fa)), (.int (Int32.ofNat fb)), (.int p3)] 5) T4 (mkF m 10 #[.val (.ref x), .val (.int (Int32.ofNat fa)), .val (.int (Int32.ofNat fb)), .val (.int p3), .val (.int (Int32.ofNat fa))] []) := fun t kt => pre5 t (by
      show Steps p.tables e below (T4.setTop (mkF m 7 #[.val (.ref x), .val (.int (Int32.ofNat fa)), .val (.int (Int32.ofNat fb)), .val (.int p3), .unset] [])) _
      refine XS.iloadN X4.here hx rfl (hb hby own_dfill_7) rfl ?_
      show Steps p.tables e below (T4.setTop (mkF m 8 #[.val (.ref x), .val (.int (Int32.ofNat fa)), .val (.int (Int32.ofNat fb)), .val (.int p3), .unset] [(.int (Int32.ofNat fa))])) _
      refine XS.istore X4.here hx rfl (hb hby own_dfill_8) rfl (l' := #[.val (.ref x), .val (.int (Int32.ofNat fa)), .val (.int (Int32.ofNat fb)), .val (.int p3), .val (.int (Int32.ofNat fa))]) rfl ?_
      exact kt)
  obtain ⟨T7, h7, Lc7, X7, e7, N7, K7q, V7, st7⟩ := own_fillLoop x n fa fb p3 n0 hx hZ hw hby hml hown g_x hn hfb (fb - fa) fa T4 h0 _ f (by omega) X4 e4 N4 V_x
  have pre8 : Goes p e below s₁ (entryFrame m #[(.ref x), (.int (Int32.ofNat fa)), (.int (Int32.ofNat fb)), (.int p3)] 5) T7 (mkF m 27 #[.val (.ref x), .val (.int (Int32.ofNat fa)), .val (.int (Int32.ofNat fb)), .val (.int p3), .val (.int (Int32.ofNat fb))] []) := fun t kt => pre6 t (st7 t kt)
  obtain ⟨fs, hr, hrun, hended, hW, hsame⟩ := X7.leave (v := none) (fun _ => rfl)
  refine ⟨_, _, pre8 _ ?_, hrun, hended, _, _, rfl, ?_, ⟨_, rfl⟩, hW, hsame.mono (by decide) (by decide)⟩
  · show Steps p.tables e below (T7.setTop (mkF m 27 #[.val (.ref x), .val (.int (Int32.ofNat fa)), .val (.int (Int32.ofNat fb)), .val (.int p3), .val (.int (Int32.ofNat fb))] [])) _
    exact X7.returnOut hx Bd.returns (hb hby own_dfill_27) hr
  · show Q_own_fill Z x n f fa fb p3 h0 n0 _ T7.heap _
    rw [e7]
    exact ⟨rfl, N7, K7q, V7⟩

theorem own_g1 {k r : Nat} (h : k * r + r ≤ 16 * r) (hr : r ≤ 8) : ¬ (Int32.ofNat (16 * r) < ((Int32.ofNat k) + (1 : Int32)) * (Int32.ofNat r)) := by
  rw [show (Int32.ofNat k) + (1 : Int32) = Int32.ofNat (k + 1) from own_add k 1, own_mul]
  refine own_nltI ?_ (by omega)
  rw [Nat.add_mul, Nat.one_mul]; exact h
theorem own_g2 {k : Nat} (h : k < 16) : ¬ ((Int32.ofNat k) = (16 : Int32)) := fun q => by
  have := own_inj (a := k) (b := 16) (by omega) (by omega) q
  omega

theorem own_d5_0 : decode prog_26_method_9_code 0 = .ok (.aload_n 0, 1) := by decide +kernel
theorem own_d5_1 : decode prog_26_method_9_code 1 = .ok (.getfield 47, 3) := by decide +kernel
theorem own_d5_4 : decode prog_26_method_9_code 4 = .ok (.iconst 1, 1) := by decide +kernel
theorem own_d5_5 : decode prog_26_method_9_code 5 = .ok (.iadd, 1) := by decide +kernel
theorem own_d5_6 : decode prog_26_method_9_code 6 = .ok (.aload_n 0, 1) := by decide +kernel
theorem own_d5_7 : decode prog_26_method_9_code 7 = .ok (.getfield 7, 3) := by decide +kernel
theorem own_d5_10 : decode prog_26_method_9_code 10 = .ok (.imul, 1) := by decide +kernel
theorem own_d5_11 : decode prog_26_method_9_code 11 = .ok (.aload_n 0, 1) := by decide +kernel
theorem own_d5_12 : decode prog_26_method_9_code 12 = .ok (.getfield 19, 3) := by decide +kernel
theorem own_d5_15 : decode prog_26_method_9_code 15 = .ok (.arraylength, 1) := by decide +kernel
theorem own_d5_16 : decode prog_26_method_9_code 16 = .ok (.if_icmp .le 35, 3) := by decide +kernel
theorem own_d5_51 : decode prog_26_method_9_code 51 = .ok (.aload_n 0, 1) := by decide +kernel
theorem own_d5_52 : decode prog_26_method_9_code 52 = .ok (.getfield 47, 3) := by decide +kernel
theorem own_d5_55 : decode prog_26_method_9_code 55 = .ok (.aload_n 0, 1) := by decide +kernel
theorem own_d5_56 : decode prog_26_method_9_code 56 = .ok (.getfield 27, 3) := by decide +kernel
theorem own_d5_59 : decode prog_26_method_9_code 59 = .ok (.arraylength, 1) := by decide +kernel
theorem own_d5_60 : decode prog_26_method_9_code 60 = .ok (.if_icmp .ne 40, 3) := by decide +kernel
theorem own_d5_100 : decode prog_26_method_9_code 100 = .ok (.aload_n 0, 1) := by decide +kernel
theorem own_d5_101 : decode prog_26_method_9_code 101 = .ok (.dup, 1) := by decide +kernel
theorem own_d5_102 : decode prog_26_method_9_code 102 = .ok (.getfield 47, 3) := by decide +kernel
theorem own_d5_105 : decode prog_26_method_9_code 105 = .ok (.dup_x1, 1) := by decide +kernel
theorem own_d5_106 : decode prog_26_method_9_code 106 = .ok (.iconst 1, 1) := by decide +kernel
theorem own_d5_107 : decode prog_26_method_9_code 107 = .ok (.iadd, 1) := by decide +kernel
theorem own_d5_108 : decode prog_26_method_9_code 108 = .ok (.putfield 47, 3) := by decide +kernel
theorem own_d5_111 : decode prog_26_method_9_code 111 = .ok (.istore_n 1, 1) := by decide +kernel
theorem own_d5_112 : decode prog_26_method_9_code 112 = .ok (.aload_n 0, 1) := by decide +kernel
theorem own_d5_113 : decode prog_26_method_9_code 113 = .ok (.getfield 19, 3) := by decide +kernel
theorem own_d5_116 : decode prog_26_method_9_code 116 = .ok (.iload_n 1, 1) := by decide +kernel
theorem own_d5_117 : decode prog_26_method_9_code 117 = .ok (.aload_n 0, 1) := by decide +kernel
theorem own_d5_118 : decode prog_26_method_9_code 118 = .ok (.getfield 7, 3) := by decide +kernel
theorem own_d5_121 : decode prog_26_method_9_code 121 = .ok (.imul, 1) := by decide +kernel
theorem own_d5_122 : decode prog_26_method_9_code 122 = .ok (.iload_n 1, 1) := by decide +kernel
theorem own_d5_123 : decode prog_26_method_9_code 123 = .ok (.aload_n 0, 1) := by decide +kernel
theorem own_d5_124 : decode prog_26_method_9_code 124 = .ok (.getfield 7, 3) := by decide +kernel
theorem own_d5_127 : decode prog_26_method_9_code 127 = .ok (.imul, 1) := by decide +kernel
theorem own_d5_128 : decode prog_26_method_9_code 128 = .ok (.aload_n 0, 1) := by decide +kernel
theorem own_d5_129 : decode prog_26_method_9_code 129 = .ok (.getfield 7, 3) := by decide +kernel
theorem own_d5_132 : decode prog_26_method_9_code 132 = .ok (.iadd, 1) := by decide +kernel
theorem own_d5_133 : decode prog_26_method_9_code 133 = .ok (.iconst (-1), 1) := by decide +kernel
theorem own_d5_134 : decode prog_26_method_9_code 134 = .ok (.invokestatic 54, 3) := by decide +kernel
theorem own_d5_137 : decode prog_26_method_9_code 137 = .ok (.iload_n 1, 1) := by decide +kernel
theorem own_d5_138 : decode prog_26_method_9_code 138 = .ok (.ireturn, 1) := by decide +kernel
theorem own_pn_own_newNode : plainName "com/example/unicept/unicept/WordTrie" = true := by first | (simp [plainName, overriddenIn]; done) | decide +kernel
theorem own_ef_own_newNode (m : MethodId) (x0 : Addr) : entryFrame m #[(.ref x0)] 2 = mkF m 0 #[.val (.ref x0), .unset] [] := by first | (simp [entryFrame, mkF, argsToLocals, Value.category]; done) | rfl
def Q_own_newNode (Z : State) (a1 : Addr) (r : Nat) (k : Nat) (ch : Addr) (f : Nat → Int32) (rt : Addr) (gg : Nat → Int32) (tg : Addr) (kt : ClassId) (vts : List Value) (h0 : Heap) (n0 : Nat) (v : Option Value) (h : Heap) (L : List Loc) : Prop := v = some (.int (Int32.ofNat k)) ∧ Fr n0 L ∧ Keep h0 h [a1, ch] ∧ own_TR Z h n0 a1 r (k + 1) ch (own_fl f (k * r) (k * r + r) (-1)) rt gg tg kt vts
set_option maxRecDepth 65536 in
set_option maxHeartbeats 40000000 in
theorem own_newNode (l : Launch) (Z : State) (a0 : Array Value) (hw : ∀ d ∈ tables_1, d.before a0 Z = true) (ws : List Jvm.Cond) (a1 : Addr) (r : Nat) (k : Nat) (ch : Addr) (f : Nat → Int32) (rt : Addr) (gg : Nat → Int32) (tg : Addr) (kt : ClassId) (vts : List Value) (h0 : Heap) (n0 : Nat) (Z0 : n0 ≤ h0.size) (hT : own_TR Z h0 n0 a1 r k ch f rt gg tg kt vts) (hr1 : 1 ≤ r) (hr8 : r ≤ 8) (hk : k < 16) :
    MetFree l (⟨"com/example/unicept/unicept/WordTrie", "newNode", "()I"⟩ : MethodName) (head1 (Jvm.Cond.code (⟨"com/example/unicept/unicept/WordTrie", "newNode", "()I"⟩ : MethodName) prog_26_method_9_code 2 (some .int) :: ws) ({ frames := 2, cells := 0, slots := 0, locals := 30 } : Room)) (fun a U => a = #[(.ref a1)] ∧ Z.Warmed39 U.vm ∧ U.heap = h0) (fun _ _ _ _ _ => True) (fun _ U o U' => ∃ v L, o = .returned v ∧ Q_own_newNode Z a1 r k ch f rt gg tg kt vts h0 n0 v U'.heap L ∧ FrameEnd U o U' L ({ frames := 2, cells := 0, slots := 0, locals := 30 } : Room).cells ({ frames := 2, cells := 0, slots := 0, locals := 30 } : Room).slots) := by
  refine MetFree.of_bodySF (plainFor_of_name own_pn_own_newNode) hisR ?_
  intro p e s m args below meth c s₁ Bd hml0 hP hK
  obtain ⟨rfl, hZ, hh⟩ := hP
  have hx := Bd.exec
  have hby := Bd.bytes
  have hml : c.maxLocals = 2 := hml0
  have hown : s.vm.findClass "com/example/unicept/unicept/WordTrie" = some m.cls := findClass_of_methodNamed Bd.named
  have hnm := (name_of_methodNamed Bd.named Bd.method).1
  have X0 : Stand p l e ({ frames := 2, cells := 0, slots := 0, locals := 30 } : Room) s m #[(.ref a1)] below meth c s₁ [] 0 0 := Stand.of_body Bd
  have e0 : s₁.heap = h0 := by rw [← hh, Bd.state]; rfl
  have N0 := Fr.nil n0
  have pre0 : Goes p e below s₁ (entryFrame m #[(.ref a1)] 2) s₁ (mkF m 0 #[.val (.ref a1), .unset] []) := fun t k => castTop (own_ef_own_newNode m a1) k
  obtain ⟨E_a1, F_roles, F_children, F_roots, F_tags, F_size, V_ch, V_rt, V_tg, g_a1, g_ch, g_rt, g_tg, nac, nar, nat, ncr, nct, nrt⟩ := hT
  have hkr : k * r + r ≤ 16 * r := by have := Nat.mul_le_mul_right r (show k + 1 ≤ 16 by omega); rw [Nat.add_mul, Nat.one_mul] at this; exact this
  have pre1 : Goes p e below s₁ (entryFrame m #[(.ref a1)] 2) s₁ (mkF m 1 #[.val (.ref a1), .unset] [(.ref a1)]) := fun t kt => pre0 t (by
      show Steps p.tables e below (s₁.setTop (mkF m 0 #[.val (.ref a1), .unset] [])) _
      refine XS.aloadN X0.here hx rfl (hb hby own_d5_0) rfl rfl ?_
      exact kt)
  obtain ⟨T2, X2, e2, st2⟩ := getF X0 hx hZ hown (host := "") (Or.inl (hw _ (List.mem_of_getElem? (i := 33) rfl))) Via.refl e0 F_size (g := (mkF m 1 #[.val (.ref a1), .unset] [(.ref a1)])) rfl rfl (hb hby own_d5_1)
  have pre3 : Goes p e below s₁ (entryFrame m #[(.ref a1)] 2) T2 (mkF m 4 #[.val (.ref a1), .unset] [(.int (Int32.ofNat k))]) := fun t kt => pre1 t (st2 t kt)
  have pre4 : Goes p e below s₁ (entryFrame m #[(.ref a1)] 2) T2 (mkF m 7 #[.val (.ref a1), .unset] [(.ref a1), (.int ((Int32.ofNat k) + (1 : Int32)))]) := fun t kt => pre3 t (by
      show Steps p.tables e below (T2.setTop (mkF m 4 #[.val (.ref a1), .unset] [(.int (Int32.ofNat k))])) _
      refine XS.iconst X2.here hx rfl (hb hby own_d5_4) ?_
      show Steps p.tables e below (T2.setTop (mkF m 5 #[.val (.ref a1), .unset] [(.int (1 : Int32)), (.int (Int32.ofNat k))])) _
      refine XS.iadd X2.here hx rfl (hb hby own_d5_5) rfl ?_
      show Steps p.tables e below (T2.setTop (mkF m 6 #[.val (.ref a1), .unset] [(.int ((Int32.ofNat k) + (1 : Int32)))])) _
      refine XS.aloadN X2.here hx rfl (hb hby own_d5_6) rfl rfl ?_
      exact kt)
  obtain ⟨T5, X5, e5, st5⟩ := getF X2 hx hZ hown (host := "") (Or.inl (hw _ (List.mem_of_getElem? (i := 9) rfl))) Via.refl e2 F_roles (g := (mkF m 7 #[.val (.ref a1), .unset] [(.ref a1), (.int ((Int32.ofNat k) + (1 : Int32)))])) rfl rfl (hb hby own_d5_7)
  have pre6 : Goes p e below s₁ (entryFrame m #[(.ref a1)] 2) T5 (mkF m 10 #[.val (.ref a1), .unset] [(.int (Int32.ofNat r)), (.int ((Int32.ofNat k) + (1 : Int32)))]) := fun t kt => pre4 t (st5 t kt)
  have pre7 : Goes p e below s₁ (entryFrame m #[(.ref a1)] 2) T5 (mkF m 12 #[.val (.ref a1), .unset] [(.ref a1), (.int (((Int32.ofNat k) + (1 : Int32)) * (Int32.ofNat r)))]) := fun t kt => pre6 t (by
      show Steps p.tables e below (T5.setTop (mkF m 10 #[.val (.ref a1), .unset] [(.int (Int32.ofNat r)), (.int ((Int32.ofNat k) + (1 : Int32)))])) _
      refine XS.imul X5.here hx rfl (hb hby own_d5_10) rfl ?_
      show Steps p.tables e below (T5.setTop (mkF m 11 #[.val (.ref a1), .unset] [(.int (((Int32.ofNat k) + (1 : Int32)) * (Int32.ofNat r)))])) _
      refine XS.aloadN X5.here hx rfl (hb hby own_d5_11) rfl rfl ?_
      exact kt)
  obtain ⟨T8, X8, e8, st8⟩ := getF X5 hx hZ hown (host := "") (Or.inl (hw _ (List.mem_of_getElem? (i := 16) rfl))) Via.refl e5 F_children (g := (mkF m 12 #[.val (.ref a1), .unset] [(.ref a1), (.int (((Int32.ofNat k) + (1 : Int32)) * (Int32.ofNat r)))])) rfl rfl (hb hby own_d5_12)
  have pre9 : Goes p e below s₁ (entryFrame m #[(.ref a1)] 2) T8 (mkF m 15 #[.val (.ref a1), .unset] [(.ref ch), (.int (((Int32.ofNat k) + (1 : Int32)) * (Int32.ofNat r)))]) := fun t kt => pre7 t (st8 t kt)
  obtain ⟨cl10, Ar10, S10, H10⟩ := (id (V_ch))
  have pre11 : Goes p e below s₁ (entryFrame m #[(.ref a1)] 2) T8 (mkF m 52 #[.val (.ref a1), .unset] [(.ref a1)]) := fun t kt => pre9 t (by
      show Steps p.tables e below (T8.setTop (mkF m 15 #[.val (.ref a1), .unset] [(.ref ch), (.int (((Int32.ofNat k) + (1 : Int32)) * (Int32.ofNat r)))])) _
      refine X8.arraylength hx (by (try rw [e8]); exact Ar10.1) (State.isArrayOf_alike hZ.alike Ar10.2.1) (g := (mkF m 15 #[.val (.ref a1), .unset] [(.ref ch), (.int (((Int32.ofNat k) + (1 : Int32)) * (Int32.ofNat r)))])) rfl rfl (hb hby own_d5_15) _ ?_
      rw [own_len S10]
      show Steps p.tables e below (T8.setTop (mkF m 16 #[.val (.ref a1), .unset] [(.int (Int32.ofNat (16 * r))), (.int (((Int32.ofNat k) + (1 : Int32)) * (Int32.ofNat r)))])) _
      refine XS.icmpYes X8.here hx rfl (pc0 := 16) (pc' := 51) rfl (hb hby own_d5_16) rfl (flt (own_g1 hkr hr8 : ¬ ((Int32.ofNat (16 * r)) < (((Int32.ofNat k) + (1 : Int32)) * (Int32.ofNat r))))).2.2.2 (by decide) (by decide) ?_
      show Steps p.tables e below (T8.setTop (mkF m 51 #[.val (.ref a1), .unset] [])) _
      refine XS.aloadN X8.here hx rfl (hb hby own_d5_51) rfl rfl ?_
      exact kt)
  obtain ⟨T12, X12, e12, st12⟩ := getF X8 hx hZ hown (host := "") (Or.inl (hw _ (List.mem_of_getElem? (i := 33) rfl))) Via.refl e8 F_size (g := (mkF m 52 #[.val (.ref a1), .unset] [(.ref a1)])) rfl rfl (hb hby own_d5_52)
  have pre13 : Goes p e below s₁ (entryFrame m #[(.ref a1)] 2) T12 (mkF m 55 #[.val (.ref a1), .unset] [(.int (Int32.ofNat k))]) := fun t kt => pre11 t (st12 t kt)
  have pre14 : Goes p e below s₁ (entryFrame m #[(.ref a1)] 2) T12 (mkF m 56 #[.val (.ref a1), .unset] [(.ref a1), (.int (Int32.ofNat k))]) := fun t kt => pre13 t (by
      show Steps p.tables e below (T12.setTop (mkF m 55 #[.val (.ref a1), .unset] [(.int (Int32.ofNat k))])) _
      refine XS.aloadN X12.here hx rfl (hb hby own_d5_55) rfl rfl ?_
      exact kt)
  obtain ⟨T15, X15, e15, st15⟩ := getF X12 hx hZ hown (host := "") (Or.inl (hw _ (List.mem_of_getElem? (i := 22) rfl))) Via.refl e12 F_tags (g := (mkF m 56 #[.val (.ref a1), .unset] [(.ref a1), (.int (Int32.ofNat k))])) rfl rfl (hb hby own_d5_56)
  have pre16 : Goes p e below s₁ (entryFrame m #[(.ref a1)] 2) T15 (mkF m 59 #[.val (.ref a1), .unset] [(.ref tg), (.int (Int32.ofNat k))]) := fun t kt => pre14 t (st15 t kt)
  obtain ⟨cl17, Ar17, q17, S17, N_17, H17, G17⟩ := (id (V_tg))
  have pre18 : Goes p e below s₁ (entryFrame m #[(.ref a1)] 2) T15 (mkF m 102 #[.val (.ref a1), .unset] [(.ref a1), (.ref a1)]) := fun t kt => pre16 t (by
      show Steps p.tables e below (T15.setTop (mkF m 59 #[.val (.ref a1), .unset] [(.ref tg), (.int (Int32.ofNat k))])) _
      refine X15.arraylength hx (by (try rw [e15]); exact Ar17.1) (State.isArrayOf_alike hZ.alike Ar17.2.1) (g := (mkF m 59 #[.val (.ref a1), .unset] [(.ref tg), (.int (Int32.ofNat k))])) rfl rfl (hb hby own_d5_59) _ ?_
      rw [len_of S17 N_17]
      show Steps p.tables e below (T15.setTop (mkF m 60 #[.val (.ref a1), .unset] [(.int (16 : Int32)), (.int (Int32.ofNat k))])) _
      refine XS.icmpYes X15.here hx rfl (pc0 := 60) (pc' := 100) rfl (hb hby own_d5_60) rfl (feq (own_g2 hk : ¬ ((Int32.ofNat k) = (16 : Int32)))).2 (by decide) (by decide) ?_
      show Steps p.tables e below (T15.setTop (mkF m 100 #[.val (.ref a1), .unset] [])) _
      refine XS.aloadN X15.here hx rfl (hb hby own_d5_100) rfl rfl ?_
      show Steps p.tables e below (T15.setTop (mkF m 101 #[.val (.ref a1), .unset] [(.ref a1)])) _
      refine XS.dup X15.here hx rfl (hb hby own_d5_101) rfl rfl ?_
      exact kt)
  obtain ⟨T19, X19, e19, st19⟩ := getF X15 hx hZ hown (host := "") (Or.inl (hw _ (List.mem_of_getElem? (i := 33) rfl))) Via.refl e15 F_size (g := (mkF m 102 #[.val (.ref a1), .unset] [(.ref a1), (.ref a1)])) rfl rfl (hb hby own_d5_102)
  have pre20 : Goes p e below s₁ (entryFrame m #[(.ref a1)] 2) T19 (mkF m 105 #[.val (.ref a1), .unset] [(.int (Int32.ofNat k)), (.ref a1)]) := fun t kt => pre18 t (st19 t kt)
  have pre21 : Goes p e below s₁ (entryFrame m #[(.ref a1)] 2) T19 (mkF m 108 #[.val (.ref a1), .unset] [(.int ((Int32.ofNat k) + (1 : Int32))), (.ref a1), (.int (Int32.ofNat k))]) := fun t kt => pre20 t (by
      show Steps p.tables e below (T19.setTop (mkF m 105 #[.val (.ref a1), .unset] [(.int (Int32.ofNat k)), (.ref a1)])) _
      refine XS.dupX1 X19.here hx rfl (hb hby own_d5_105) rfl rfl rfl ?_
      show Steps p.tables e below (T19.setTop (mkF m 106 #[.val (.ref a1), .unset] [(.int (Int32.ofNat k)), (.ref a1), (.int (Int32.ofNat k))])) _
      refine XS.iconst X19.here hx rfl (hb hby own_d5_106) ?_
      show Steps p.tables e below (T19.setTop (mkF m 107 #[.val (.ref a1), .unset] [(.int (1 : Int32)), (.int (Int32.ofNat k)), (.ref a1), (.int (Int32.ofNat k))])) _
      refine XS.iadd X19.here hx rfl (hb hby own_d5_107) rfl ?_
      exact kt)
  rw [show ((Int32.ofNat k) + (1 : Int32)) = (Int32.ofNat (k + 1)) from own_add k 1] at pre21
  obtain ⟨T22, h22, X22, e22, W22, st22⟩ := putF X19 hx hZ hown (host := "") (Or.inl (hw _ (List.mem_of_getElem? (i := 33) rfl))) Via.refl e19 F_size E_a1 (Or.inl (hw _ (List.mem_of_getElem? (i := 34) rfl))) (hw _ (List.mem_of_getElem? (i := 1) rfl)) (ty := .int) (by decide) rfl rfl (g := (mkF m 108 #[.val (.ref a1), .unset] [(.int (Int32.ofNat (k + 1))), (.ref a1), (.int (Int32.ofNat k))])) rfl rfl (hb hby own_d5_108)
  have Fw22 := F_size.same W22
  have K22 : Keep h0 h22 [a1, ch] := (Keep.refl h0 [a1, ch]).wr W22 (Or.inl (List.mem_of_getElem? (i := 0) rfl))
  have N22 := Fr.snoc X22 N0 g_a1
  have pre23 : Goes p e below s₁ (entryFrame m #[(.ref a1)] 2) T22 (mkF m 111 #[.val (.ref a1), .unset] [(.int (Int32.ofNat k))]) := fun t kt => pre21 t (st22 t kt)
  have pre24 : Goes p e below s₁ (entryFrame m #[(.ref a1)] 2) T22 (mkF m 113 #[.val (.ref a1), .val (.int (Int32.ofNat k))] [(.ref a1)]) := fun t kt => pre23 t (by
      show Steps p.tables e below (T22.setTop (mkF m 111 #[.val (.ref a1), .unset] [(.int (Int32.ofNat k))])) _
      refine XS.istoreN X22.here hx rfl (hb hby own_d5_111) rfl (l' := #[.val (.ref a1), .val (.int (Int32.ofNat k))]) rfl ?_
      show Steps p.tables e below (T22.setTop (mkF m 112 #[.val (.ref a1), .val (.int (Int32.ofNat k))] [])) _
      refine XS.aloadN X22.here hx rfl (hb hby own_d5_112) rfl rfl ?_
      exact kt)
  obtain ⟨T25, X25, e25, st25⟩ := getF X22 hx hZ hown (host := "") (Or.inl (hw _ (List.mem_of_getElem? (i := 16) rfl))) Via.refl e22 (F_children.other W22 (Or.inr (slot_ne (Or.inl (hw _ (List.mem_of_getElem? (i := 17) rfl))) (Or.inl (hw _ (List.mem_of_getElem? (i := 34) rfl))) (by decide) (t := (.array .int)) (t' := .int) (by decide) (by decide)))) (g := (mkF m 113 #[.val (.ref a1), .val (.int (Int32.ofNat k))] [(.ref a1)])) rfl rfl (hb hby own_d5_113)
  have pre26 : Goes p e below s₁ (entryFrame m #[(.ref a1)] 2) T25 (mkF m 116 #[.val (.ref a1), .val (.int (Int32.ofNat k))] [(.ref ch)]) := fun t kt => pre24 t (st25 t kt)
  have pre27 : Goes p e below s₁ (entryFrame m #[(.ref a1)] 2) T25 (mkF m 118 #[.val (.ref a1), .val (.int (Int32.ofNat k))] [(.ref a1), (.int (Int32.ofNat k)), (.ref ch)]) := fun t kt => pre26 t (by
      show Steps p.tables e below (T25.setTop (mkF m 116 #[.val (.ref a1), .val (.int (Int32.ofNat k))] [(.ref ch)])) _
      refine XS.iloadN X25.here hx rfl (hb hby own_d5_116) rfl ?_
      show Steps p.tables e below (T25.setTop (mkF m 117 #[.val (.ref a1), .val (.int (Int32.ofNat k))] [(.int (Int32.ofNat k)), (.ref ch)])) _
      refine XS.aloadN X25.here hx rfl (hb hby own_d5_117) rfl rfl ?_
      exact kt)
  obtain ⟨T28, X28, e28, st28⟩ := getF X25 hx hZ hown (host := "") (Or.inl (hw _ (List.mem_of_getElem? (i := 9) rfl))) Via.refl e25 (F_roles.other W22 (Or.inr (slot_ne (Or.inr (hw _ (List.mem_of_getElem? (i := 10) rfl))) (Or.inl (hw _ (List.mem_of_getElem? (i := 34) rfl))) (by decide) (t := .int) (t' := .int) (by decide) (by decide)))) (g := (mkF m 118 #[.val (.ref a1), .val (.int (Int32.ofNat k))] [(.ref a1), (.int (Int32.ofNat k)), (.ref ch)])) rfl rfl (hb hby own_d5_118)
  have pre29 : Goes p e below s₁ (entryFrame m #[(.ref a1)] 2) T28 (mkF m 121 #[.val (.ref a1), .val (.int (Int32.ofNat k))] [(.int (Int32.ofNat r)), (.int (Int32.ofNat k)), (.ref ch)]) := fun t kt => pre27 t (st28 t kt)
  have pre30 : Goes p e below s₁ (entryFrame m #[(.ref a1)] 2) T28 (mkF m 124 #[.val (.ref a1), .val (.int (Int32.ofNat k))] [(.ref a1), (.int (Int32.ofNat k)), (.int ((Int32.ofNat k) * (Int32.ofNat r))), (.ref ch)]) := fun t kt => pre29 t (by
      show Steps p.tables e below (T28.setTop (mkF m 121 #[.val (.ref a1), .val (.int (Int32.ofNat k))] [(.int (Int32.ofNat r)), (.int (Int32.ofNat k)), (.ref ch)])) _
      refine XS.imul X28.here hx rfl (hb hby own_d5_121) rfl ?_
      show Steps p.tables e below (T28.setTop (mkF m 122 #[.val (.ref a1), .val (.int (Int32.ofNat k))] [(.int ((Int32.ofNat k) * (Int32.ofNat r))), (.ref ch)])) _
      refine XS.iloadN X28.here hx rfl (hb hby own_d5_122) rfl ?_
      show Steps p.tables e below (T28.setTop (mkF m 123 #[.val (.ref a1), .val (.int (Int32.ofNat k))] [(.int (Int32.ofNat k)), (.int ((Int32.ofNat k) * (Int32.ofNat r))), (.ref ch)])) _
      refine XS.aloadN X28.here hx rfl (hb hby own_d5_123) rfl rfl ?_
      exact kt)
  obtain ⟨T31, X31, e31, st31⟩ := getF X28 hx hZ hown (host := "") (Or.inl (hw _ (List.mem_of_getElem? (i := 9) rfl))) Via.refl e28 (F_roles.other W22 (Or.inr (slot_ne (Or.inr (hw _ (List.mem_of_getElem? (i := 10) rfl))) (Or.inl (hw _ (List.mem_of_getElem? (i := 34) rfl))) (by decide) (t := .int) (t' := .int) (by decide) (by decide)))) (g := (mkF m 124 #[.val (.ref a1), .val (.int (Int32.ofNat k))] [(.ref a1), (.int (Int32.ofNat k)), (.int ((Int32.ofNat k) * (Int32.ofNat r))), (.ref ch)])) rfl rfl (hb hby own_d5_124)
  have pre32 : Goes p e below s₁ (entryFrame m #[(.ref a1)] 2) T31 (mkF m 127 #[.val (.ref a1), .val (.int (Int32.ofNat k))] [(.int (Int32.ofNat r)), (.int (Int32.ofNat k)), (.int ((Int32.ofNat k) * (Int32.ofNat r))), (.ref ch)]) := fun t kt => pre30 t (st31 t kt)
  have pre33 : Goes p e below s₁ (entryFrame m #[(.ref a1)] 2) T31 (mkF m 129 #[.val (.ref a1), .val (.int (Int32.ofNat k))] [(.ref a1), (.int ((Int32.ofNat k) * (Int32.ofNat r))), (.int ((Int32.ofNat k) * (Int32.ofNat r))), (.ref ch)]) := fun t kt => pre32 t (by
      show Steps p.tables e below (T31.setTop (mkF m 127 #[.val (.ref a1), .val (.int (Int32.ofNat k))] [(.int (Int32.ofNat r)), (.int (Int32.ofNat k)), (.int ((Int32.ofNat k) * (Int32.ofNat r))), (.ref ch)])) _
      refine XS.imul X31.here hx rfl (hb hby own_d5_127) rfl ?_
      show Steps p.tables e below (T31.setTop (mkF m 128 #[.val (.ref a1), .val (.int (Int32.ofNat k))] [(.int ((Int32.ofNat k) * (Int32.ofNat r))), (.int ((Int32.ofNat k) * (Int32.ofNat r))), (.ref ch)])) _
      refine XS.aloadN X31.here hx rfl (hb hby own_d5_128) rfl rfl ?_
      exact kt)
  obtain ⟨T34, X34, e34, st34⟩ := getF X31 hx hZ hown (host := "") (Or.inl (hw _ (List.mem_of_getElem? (i := 9) rfl))) Via.refl e31 (F_roles.other W22 (Or.inr (slot_ne (Or.inr (hw _ (List.mem_of_getElem? (i := 10) rfl))) (Or.inl (hw _ (List.mem_of_getElem? (i := 34) rfl))) (by decide) (t := .int) (t' := .int) (by decide) (by decide)))) (g := (mkF m 129 #[.val (.ref a1), .val (.int (Int32.ofNat k))] [(.ref a1), (.int ((Int32.ofNat k) * (Int32.ofNat r))), (.int ((Int32.ofNat k) * (Int32.ofNat r))), (.ref ch)])) rfl rfl (hb hby own_d5_129)
  have pre35 : Goes p e below s₁ (entryFrame m #[(.ref a1)] 2) T34 (mkF m 132 #[.val (.ref a1), .val (.int (Int32.ofNat k))] [(.int (Int32.ofNat r)), (.int ((Int32.ofNat k) * (Int32.ofNat r))), (.int ((Int32.ofNat k) * (Int32.ofNat r))), (.ref ch)]) := fun t kt => pre33 t (st34 t kt)
  have pre36 : Goes p e below s₁ (entryFrame m #[(.ref a1)] 2) T34 (mkF m 134 #[.val (.ref a1), .val (.int (Int32.ofNat k))] [(.int (-1 : Int32)), (.int (((Int32.ofNat k) * (Int32.ofNat r)) + (Int32.ofNat r))), (.int ((Int32.ofNat k) * (Int32.ofNat r))), (.ref ch)]) := fun t kt => pre35 t (by
      show Steps p.tables e below (T34.setTop (mkF m 132 #[.val (.ref a1), .val (.int (Int32.ofNat k))] [(.int (Int32.ofNat r)), (.int ((Int32.ofNat k) * (Int32.ofNat r))), (.int ((Int32.ofNat k) * (Int32.ofNat r))), (.ref ch)])) _
      refine XS.iadd X34.here hx rfl (hb hby own_d5_132) rfl ?_
      show Steps p.tables e below (T34.setTop (mkF m 133 #[.val (.ref a1), .val (.int (Int32.ofNat k))] [(.int (((Int32.ofNat k) * (Int32.ofNat r)) + (Int32.ofNat r))), (.int ((Int32.ofNat k) * (Int32.ofNat r))), (.ref ch)])) _
      refine XS.iconst X34.here hx rfl (hb hby own_d5_133) ?_
      exact kt)
  rw [show ((Int32.ofNat k) * (Int32.ofNat r)) = (Int32.ofNat (k * r)) from own_mul k r] at pre36
  rw [show ((Int32.ofNat (k * r)) + (Int32.ofNat r)) = (Int32.ofNat (k * r + r)) from own_add (k * r) r] at pre36
  obtain ⟨_, _, ⟨T37, L37, k37, n37⟩, -, X37, ⟨Lc37, hQ37, l37, y37, z37⟩, st37⟩ := Jvm.LawKit.callS X34 hx (y := (⟨"java/util/Arrays", "fill", "([IIII)V"⟩ : MethodName)) hown (mvT hZ (hw _ (List.mem_of_getElem? (i := 35) rfl))) (mvT hZ (hw _ (List.mem_of_getElem? (i := 36) rfl))) (mvT hZ (hw _ (List.mem_of_getElem? (i := 37) rfl))) (mvT hZ (hw _ (List.mem_of_getElem? (i := 38) rfl))) (by decide) (backOf (W := 0) (own_fill l Z a0 hw [] ch (16 * r) f (k * r) (k * r + r) (-1 : Int32) h22 n0 (Nat.le_trans Z0 (Keep.of_wr W22).1) (V_ch.other W22 (Ne.symm nac)) g_ch (by omega) (by omega) hkr) hZ (hw _ (List.mem_of_getElem? (i := 38) rfl)) (hw _ (List.mem_of_getElem? (i := 37) rfl)) (by decide) (by decide)) (g := (mkF m 134 #[.val (.ref a1), .val (.int (Int32.ofNat k))] [(.int (-1 : Int32)), (.int (Int32.ofNat (k * r + r))), (.int (Int32.ofNat (k * r))), (.ref ch)])) rfl (by rw [hml]; rfl) (argsL := [(.ref ch), (.int (Int32.ofNat (k * r))), (.int (Int32.ofNat (k * r + r))), (.int (-1 : Int32))]) (rest := []) (lenOf own_pd1 rfl) rfl (by show 2 * 0 + _ ≤ _; exact Nat.le_of_eq rfl) (hb hby own_d5_134) (fun _ _ => ⟨rfl, e34, (by decide : 0 + 0 ≤ _), (by decide : 0 + 0 ≤ _)⟩)
  dsimp only [Pt.U, Pt.locs, Pt.cells, Pt.slots] at X37 l37 y37 z37 st37 hQ37
  subst l37 y37 z37
  obtain ⟨rfl, N37q, K37q, Vq37⟩ := hQ37
  have N37 := Fr.app N22 N37q
  have KC37 : Keep h0 T37.heap [a1, ch] := K22.trans K37q (allS (Or.inl (List.mem_of_getElem? (i := 1) rfl)) all0)
  have pre38 : Goes p e below s₁ (entryFrame m #[(.ref a1)] 2) T37 (mkF m 137 #[.val (.ref a1), .val (.int (Int32.ofNat k))] []) := fun t kt => pre36 t (st37 t kt)
  have pre39 : Goes p e below s₁ (entryFrame m #[(.ref a1)] 2) T37 (mkF m 138 #[.val (.ref a1), .val (.int (Int32.ofNat k))] [(.int (Int32.ofNat k))]) := fun t kt => pre38 t (by
      show Steps p.tables e below (T37.setTop (mkF m 137 #[.val (.ref a1), .val (.int (Int32.ofNat k))] [])) _
      refine XS.iloadN X37.here hx rfl (hb hby own_d5_137) rfl ?_
      exact kt)
  obtain ⟨fs, hr, hrun, hended, hW, hsame⟩ := X37.leave (v := some (.int (Int32.ofNat k))) (fun h => by rw [Bd.returns] at h; cases h)
  refine ⟨_, _, pre39 _ ?_, hrun, hended, _, _, rfl, ?_, ⟨_, rfl⟩, hW, hsame.mono (by decide) (by decide)⟩
  · show Steps p.tables e below (T37.setTop (mkF m 138 #[.val (.ref a1), .val (.int (Int32.ofNat k))] [(.int (Int32.ofNat k))])) _
    exact retI X37 hx Bd.returns (hb hby own_d5_138) hr
  · show Q_own_newNode Z a1 r k ch f rt gg tg kt vts h0 n0 _ T37.heap _
    exact ⟨rfl, N37, KC37, ⟨((E_a1.wr W22).keep K37q), ((F_roles.other W22 (Or.inr (slot_ne (Or.inr (hw _ (List.mem_of_getElem? (i := 10) rfl))) (Or.inl (hw _ (List.mem_of_getElem? (i := 34) rfl))) (by decide) (t := .int) (t' := .int) (by decide) (by decide)))).keep K37q (ninS nac nin0)), ((F_children.other W22 (Or.inr (slot_ne (Or.inl (hw _ (List.mem_of_getElem? (i := 17) rfl))) (Or.inl (hw _ (List.mem_of_getElem? (i := 34) rfl))) (by decide) (t := (.array .int)) (t' := .int) (by decide) (by decide)))).keep K37q (ninS nac nin0)), ((F_roots.other W22 (Or.inr (slot_ne (Or.inl (hw _ (List.mem_of_getElem? (i := 19) rfl))) (Or.inl (hw _ (List.mem_of_getElem? (i := 34) rfl))) (by decide) (t := (.array .int)) (t' := .int) (by decide) (by decide)))).keep K37q (ninS nac nin0)), ((F_tags.other W22 (Or.inr (slot_ne (Or.inl (hw _ (List.mem_of_getElem? (i := 23) rfl))) (Or.inl (hw _ (List.mem_of_getElem? (i := 34) rfl))) (by decide) (t := (.array (.array .int))) (t' := .int) (by decide) (by decide)))).keep K37q (ninS nac nin0)), (Fw22.keep K37q (ninS nac nin0)), Vq37, ((V_rt.other W22 (Ne.symm nar)).keep K37q (ninS (Ne.symm ncr) nin0)), ((V_tg.other W22 (Ne.symm nat)).keep K37q (ninS (Ne.symm nct) nin0)), g_a1, g_ch, g_rt, g_tg, nac, nar, nat, ncr, nct, nrt⟩⟩

theorem own_d4_0 : decode prog_26_method_2_code 0 = .ok (.aload_n 0, 1) := by decide +kernel
theorem own_d4_1 : decode prog_26_method_2_code 1 = .ok (.invokevirtual 31, 3) := by decide +kernel
theorem own_d4_4 : decode prog_26_method_2_code 4 = .ok (.istore_n 1, 1) := by decide +kernel
theorem own_d4_5 : decode prog_26_method_2_code 5 = .ok (.aload_n 0, 1) := by decide +kernel
theorem own_d4_6 : decode prog_26_method_2_code 6 = .ok (.getfield 23, 3) := by decide +kernel
theorem own_d4_9 : decode prog_26_method_2_code 9 = .ok (.iload_n 1, 1) := by decide +kernel
theorem own_d4_10 : decode prog_26_method_2_code 10 = .ok (.iload_n 1, 1) := by decide +kernel
theorem own_d4_11 : decode prog_26_method_2_code 11 = .ok (.iastore, 1) := by decide +kernel
theorem own_d4_12 : decode prog_26_method_2_code 12 = .ok (.iload_n 1, 1) := by decide +kernel
theorem own_d4_13 : decode prog_26_method_2_code 13 = .ok (.ireturn, 1) := by decide +kernel
theorem own_pn_own_addRoot : plainName "com/example/unicept/unicept/WordTrie" = true := by first | (simp [plainName, overriddenIn]; done) | decide +kernel
theorem own_ef_own_addRoot (m : MethodId) (x0 : Addr) : entryFrame m #[(.ref x0)] 2 = mkF m 0 #[.val (.ref x0), .unset] [] := by first | (simp [entryFrame, mkF, argsToLocals, Value.category]; done) | rfl
def Q_own_addRoot (Z : State) (a1 : Addr) (r : Nat) (k : Nat) (ch : Addr) (f : Nat → Int32) (rt : Addr) (gg : Nat → Int32) (tg : Addr) (kt : ClassId) (vts : List Value) (h0 : Heap) (n0 : Nat) (v : Option Value) (h : Heap) (L : List Loc) : Prop := v = some (.int (Int32.ofNat k)) ∧ Fr n0 L ∧ Keep h0 h [a1, ch, rt] ∧ own_TR Z h n0 a1 r (k + 1) ch (own_fl f (k * r) (k * r + r) (-1)) rt (own_up gg k (Int32.ofNat k)) tg kt vts
set_option maxRecDepth 65536 in
set_option maxHeartbeats 40000000 in
theorem own_addRoot (l : Launch) (Z : State) (a0 : Array Value) (hw : ∀ d ∈ tables_1, d.before a0 Z = true) (ws : List Jvm.Cond) (a1 : Addr) (r : Nat) (k : Nat) (ch : Addr) (f : Nat → Int32) (rt : Addr) (gg : Nat → Int32) (tg : Addr) (kt : ClassId) (vts : List Value) (h0 : Heap) (n0 : Nat) (Z0 : n0 ≤ h0.size) (hT : own_TR Z h0 n0 a1 r k ch f rt gg tg kt vts) (hr1 : 1 ≤ r) (hr8 : r ≤ 8) (hk : k < 16) :
    MetFree l (⟨"com/example/unicept/unicept/WordTrie", "addRoot", "()I"⟩ : MethodName) (head1 (Jvm.Cond.code (⟨"com/example/unicept/unicept/WordTrie", "addRoot", "()I"⟩ : MethodName) prog_26_method_2_code 2 (some .int) :: ws) ({ frames := 3, cells := 0, slots := 0, locals := 43 } : Room)) (fun a U => a = #[(.ref a1)] ∧ Z.Warmed39 U.vm ∧ U.heap = h0) (fun _ _ _ _ _ => True) (fun _ U o U' => ∃ v L, o = .returned v ∧ Q_own_addRoot Z a1 r k ch f rt gg tg kt vts h0 n0 v U'.heap L ∧ FrameEnd U o U' L ({ frames := 3, cells := 0, slots := 0, locals := 43 } : Room).cells ({ frames := 3, cells := 0, slots := 0, locals := 43 } : Room).slots) := by
  refine MetFree.of_bodySF (plainFor_of_name own_pn_own_addRoot) hisR ?_
  intro p e s m args below meth c s₁ Bd hml0 hP hK
  obtain ⟨rfl, hZ, hh⟩ := hP
  have hx := Bd.exec
  have hby := Bd.bytes
  have hml : c.maxLocals = 2 := hml0
  have hown : s.vm.findClass "com/example/unicept/unicept/WordTrie" = some m.cls := findClass_of_methodNamed Bd.named
  have hnm := (name_of_methodNamed Bd.named Bd.method).1
  have X0 : Stand p l e ({ frames := 3, cells := 0, slots := 0, locals := 43 } : Room) s m #[(.ref a1)] below meth c s₁ [] 0 0 := Stand.of_body Bd
  have e0 : s₁.heap = h0 := by rw [← hh, Bd.state]; rfl
  have N0 := Fr.nil n0
  have pre0 : Goes p e below s₁ (entryFrame m #[(.ref a1)] 2) s₁ (mkF m 0 #[.val (.ref a1), .unset] []) := fun t k => castTop (own_ef_own_addRoot m a1) k
  have g_ch : n0 ≤ ch := hT.2.2.2.2.2.2.2.2.2.2.1
  have g_a1 : n0 ≤ a1 := hT.2.2.2.2.2.2.2.2.2.1
  have pre1 : Goes p e below s₁ (entryFrame m #[(.ref a1)] 2) s₁ (mkF m 1 #[.val (.ref a1), .unset] [(.ref a1)]) := fun t kt => pre0 t (by
      show Steps p.tables e below (s₁.setTop (mkF m 0 #[.val (.ref a1), .unset] [])) _
      refine XS.aloadN X0.here hx rfl (hb hby own_d4_0) rfl rfl ?_
      exact kt)
  obtain ⟨cq2, qc2, qd2⟩ := hT.1.cell
  obtain ⟨_, _, ⟨T2, L2, k2, n2⟩, -, X2, ⟨Lc2, hQ2, l2, y2, z2⟩, st2⟩ := X0.privateBack hx (y := (⟨"com/example/unicept/unicept/WordTrie", "newNode", "()I"⟩ : MethodName)) hown (mvT hZ (hw _ (List.mem_of_getElem? (i := 29) rfl))) (mvT hZ (hw _ (List.mem_of_getElem? (i := 30) rfl))) (own_sel (mvT hZ (hw _ (List.mem_of_getElem? (i := 1) rfl))) (mvP hZ (hw _ (List.mem_of_getElem? (i := 31) rfl))) (mvT hZ (hw _ (List.mem_of_getElem? (i := 30) rfl))) (by decide)) (Cond.privateMethod_at (mvP hZ (hw _ (List.mem_of_getElem? (i := 31) rfl)) (args := #[]))) (mvT hZ (hw _ (List.mem_of_getElem? (i := 32) rfl))) (by decide) (backOf (W := 0) (own_newNode l Z a0 hw [] a1 r k ch f rt gg tg kt vts h0 n0 Z0 hT hr1 hr8 hk) hZ (hw _ (List.mem_of_getElem? (i := 32) rfl)) (hw _ (List.mem_of_getElem? (i := 2) rfl)) (by decide) (by decide)) (g := (mkF m 1 #[.val (.ref a1), .unset] [(.ref a1)])) rfl (by rw [hml]; rfl) (Steps.refl _) (a := a1) (by rw [e0]; exact qc2) qd2 (argsL := []) (rest := []) (lenOf own_pd2 rfl) rfl (by show 2 * 0 + _ ≤ _; exact Nat.le_of_eq rfl) (hb hby own_d4_1) (fun _ _ => ⟨rfl, e0, (by decide : 0 + 0 ≤ _), (by decide : 0 + 0 ≤ _)⟩)
  dsimp only [Pt.U, Pt.locs, Pt.cells, Pt.slots] at X2 l2 y2 z2 st2 hQ2
  subst l2 y2 z2
  obtain ⟨rfl, N2q, K2q, hT2⟩ := hQ2
  have N2 := Fr.app N0 N2q
  have KC2 : Keep h0 T2.heap [a1, ch, rt] := (Keep.refl h0 [a1, ch, rt]).trans K2q (allS (Or.inl (List.mem_of_getElem? (i := 0) rfl)) (allS (Or.inl (List.mem_of_getElem? (i := 1) rfl)) all0))
  have pre3 : Goes p e below s₁ (entryFrame m #[(.ref a1)] 2) T2 (mkF m 4 #[.val (.ref a1), .unset] [(.int (Int32.ofNat k))]) := fun t kt => pre1 t (st2.trans kt)
  obtain ⟨E_a1, F_roles, F_children, F_roots, F_tags, F_size, V_ch, V_rt, V_tg, g_a1, g_ch, g_rt, g_tg, nac, nar, nat, ncr, nct, nrt⟩ := hT2
  have pre4 : Goes p e below s₁ (entryFrame m #[(.ref a1)] 2) T2 (mkF m 6 #[.val (.ref a1), .val (.int (Int32.ofNat k))] [(.ref a1)]) := fun t kt => pre3 t (by
      show Steps p.tables e below (T2.setTop (mkF m 4 #[.val (.ref a1), .unset] [(.int (Int32.ofNat k))])) _
      refine XS.istoreN X2.here hx rfl (hb hby own_d4_4) rfl (l' := #[.val (.ref a1), .val (.int (Int32.ofNat k))]) rfl ?_
      show Steps p.tables e below (T2.setTop (mkF m 5 #[.val (.ref a1), .val (.int (Int32.ofNat k))] [])) _
      refine XS.aloadN X2.here hx rfl (hb hby own_d4_5) rfl rfl ?_
      exact kt)
  obtain ⟨T5, X5, e5, st5⟩ := getF X2 hx hZ hown (host := "") (Or.inl (hw _ (List.mem_of_getElem? (i := 18) rfl))) Via.refl rfl F_roots (g := (mkF m 6 #[.val (.ref a1), .val (.int (Int32.ofNat k))] [(.ref a1)])) rfl rfl (hb hby own_d4_6)
  have pre6 : Goes p e below s₁ (entryFrame m #[(.ref a1)] 2) T5 (mkF m 9 #[.val (.ref a1), .val (.int (Int32.ofNat k))] [(.ref rt)]) := fun t kt => pre4 t (st5 t kt)
  have pre7 : Goes p e below s₁ (entryFrame m #[(.ref a1)] 2) T5 (mkF m 11 #[.val (.ref a1), .val (.int (Int32.ofNat k))] [(.int (Int32.ofNat k)), (.int (Int32.ofNat k)), (.ref rt)]) := fun t kt => pre6 t (by
      show Steps p.tables e below (T5.setTop (mkF m 9 #[.val (.ref a1), .val (.int (Int32.ofNat k))] [(.ref rt)])) _
      refine XS.iloadN X5.here hx rfl (hb hby own_d4_9) rfl ?_
      show Steps p.tables e below (T5.setTop (mkF m 10 #[.val (.ref a1), .val (.int (Int32.ofNat k))] [(.int (Int32.ofNat k)), (.ref rt)])) _
      refine XS.iloadN X5.here hx rfl (hb hby own_d4_10) rfl ?_
      exact kt)
  obtain ⟨cl8, Ar8, S8, H8⟩ := (id (V_rt))
  have hlt8 : k < 16 := hk
  have hin8 : ¬ ((Int32.ofNat k) < 0 ∨ cl8.slots.size ≤ ((Int32.ofNat k)).toNatClampNeg) := own_in S8 hlt8 (by decide)
  obtain ⟨T9, h9, X9, e9, W9, st9⟩ := stI X5 hx hZ e5 Ar8 (j := (Int32.ofNat k)) hin8 (g := (mkF m 11 #[.val (.ref a1), .val (.int (Int32.ofNat k))] [(.int (Int32.ofNat k)), (.int (Int32.ofNat k)), (.ref rt)])) rfl rfl (hb hby own_d4_11)
  have V9 : own_FA Z h9 rt 16 (own_up gg k (Int32.ofNat k)) := own_FA.set Ar8 S8 H8 W9 hlt8 (by decide)
  have K9 : Keep h0 h9 [a1, ch, rt] := KC2.wr W9 (Or.inl (List.mem_of_getElem? (i := 2) rfl))
  have N9 := Fr.snoc X9 N2 g_rt
  have pre10 : Goes p e below s₁ (entryFrame m #[(.ref a1)] 2) T9 (mkF m 12 #[.val (.ref a1), .val (.int (Int32.ofNat k))] []) := fun t kt => pre7 t (st9 t kt)
  have pre11 : Goes p e below s₁ (entryFrame m #[(.ref a1)] 2) T9 (mkF m 13 #[.val (.ref a1), .val (.int (Int32.ofNat k))] [(.int (Int32.ofNat k))]) := fun t kt => pre10 t (by
      show Steps p.tables e below (T9.setTop (mkF m 12 #[.val (.ref a1), .val (.int (Int32.ofNat k))] [])) _
      refine XS.iloadN X9.here hx rfl (hb hby own_d4_12) rfl ?_
      exact kt)
  obtain ⟨fs, hr, hrun, hended, hW, hsame⟩ := X9.leave (v := some (.int (Int32.ofNat k))) (fun h => by rw [Bd.returns] at h; cases h)
  refine ⟨_, _, pre11 _ ?_, hrun, hended, _, _, rfl, ?_, ⟨_, rfl⟩, hW, hsame.mono (by decide) (by decide)⟩
  · show Steps p.tables e below (T9.setTop (mkF m 13 #[.val (.ref a1), .val (.int (Int32.ofNat k))] [(.int (Int32.ofNat k))])) _
    exact retI X9 hx Bd.returns (hb hby own_d4_13) hr
  · show Q_own_addRoot Z a1 r k ch f rt gg tg kt vts h0 n0 _ T9.heap _
    rw [e9]
    exact ⟨rfl, N9, K9, ⟨(E_a1.wr W9), (F_roles.other W9 (Or.inl nar)), (F_children.other W9 (Or.inl nar)), (F_roots.other W9 (Or.inl nar)), (F_tags.other W9 (Or.inl nar)), (F_size.other W9 (Or.inl nar)), (V_ch.other W9 ncr), V9, (V_tg.other W9 (Ne.symm nrt)), g_a1, g_ch, g_rt, g_tg, nac, nar, nat, ncr, nct, nrt⟩⟩

theorem own_d1_0 : decode prog_26_method_1_code 0 = .ok (.aload_n 0, 1) := by decide +kernel
theorem own_d1_1 : decode prog_26_method_1_code 1 = .ok (.invokespecial 1, 3) := by decide +kernel
theorem own_d1_4 : decode prog_26_method_1_code 4 = .ok (.aload_n 0, 1) := by decide +kernel
theorem own_d1_5 : decode prog_26_method_1_code 5 = .ok (.iload_n 1, 1) := by decide +kernel
theorem own_d1_6 : decode prog_26_method_1_code 6 = .ok (.putfield 7, 3) := by decide +kernel
theorem own_d1_9 : decode prog_26_method_1_code 9 = .ok (.aload_n 0, 1) := by decide +kernel
theorem own_d1_10 : decode prog_26_method_1_code 10 = .ok (.iload_n 1, 1) := by decide +kernel
theorem own_d1_11 : decode prog_26_method_1_code 11 = .ok (.iconst 1, 1) := by decide +kernel
theorem own_d1_12 : decode prog_26_method_1_code 12 = .ok (.invokestatic 13, 3) := by decide +kernel
theorem own_d1_15 : decode prog_26_method_1_code 15 = .ok (.bipush 16, 2) := by decide +kernel
theorem own_d1_17 : decode prog_26_method_1_code 17 = .ok (.imul, 1) := by decide +kernel
theorem own_d1_18 : decode prog_26_method_1_code 18 = .ok (.newarray .int, 2) := by decide +kernel
theorem own_d1_20 : decode prog_26_method_1_code 20 = .ok (.putfield 19, 3) := by decide +kernel
theorem own_d1_23 : decode prog_26_method_1_code 23 = .ok (.aload_n 0, 1) := by decide +kernel
theorem own_d1_24 : decode prog_26_method_1_code 24 = .ok (.bipush 16, 2) := by decide +kernel
theorem own_d1_26 : decode prog_26_method_1_code 26 = .ok (.newarray .int, 2) := by decide +kernel
theorem own_d1_28 : decode prog_26_method_1_code 28 = .ok (.putfield 23, 3) := by decide +kernel
theorem own_d1_31 : decode prog_26_method_1_code 31 = .ok (.aload_n 0, 1) := by decide +kernel
theorem own_d1_32 : decode prog_26_method_1_code 32 = .ok (.bipush 16, 2) := by decide +kernel
theorem own_d1_34 : decode prog_26_method_1_code 34 = .ok (.anewarray 26, 3) := by decide +kernel
theorem own_d1_37 : decode prog_26_method_1_code 37 = .ok (.putfield 27, 3) := by decide +kernel
theorem own_d1_40 : decode prog_26_method_1_code 40 = .ok (.return_, 1) := by decide +kernel
theorem own_pn_own_init : plainName "com/example/unicept/unicept/WordTrie" = true := by first | (simp [plainName, overriddenIn]; done) | decide +kernel
theorem own_ef_own_init (m : MethodId) (x0 : Addr) (x1 : Int32) : entryFrame m #[(.ref x0), (.int x1)] 2 = mkF m 0 #[.val (.ref x0), .val (.int x1)] [] := by first | (simp [entryFrame, mkF, argsToLocals, Value.category]; done) | rfl
def Q_own_init (Z : State) (a1 : Addr) (r : Nat) (h0 : Heap) (n0 : Nat) (v : Option Value) (h : Heap) (L : List Loc) : Prop := v = none ∧ Fr n0 L ∧ Keep h0 h [a1] ∧ ∃ (ch rt tg : Addr) (kt : ClassId), h0.size ≤ ch ∧ h0.size ≤ rt ∧ h0.size ≤ tg ∧ OvrA Z kt .int "[I" ∧ own_TR Z h n0 a1 r 0 ch (fun _ => 0) rt (fun _ => 0) tg kt (List.replicate 16 .null)
set_option maxRecDepth 65536 in
set_option maxHeartbeats 40000000 in
theorem own_init (l : Launch) (Z : State) (a0 : Array Value) (hw : ∀ d ∈ tables_1, d.before a0 Z = true) (ws : List Jvm.Cond) (a1 : Addr) (r : Nat) (h0 : Heap) (n0 : Nat) (Z0 : n0 ≤ h0.size) (E_a1 : Exa Z h0 a1 "com/example/unicept/unicept/WordTrie") (F_roles : Fld Z h0 a1 "com/example/unicept/unicept/WordTrie" "roles" "I" (.int (0 : Int32))) (F_children : Fld Z h0 a1 "com/example/unicept/unicept/WordTrie" "children" "[I" .null) (F_roots : Fld Z h0 a1 "com/example/unicept/unicept/WordTrie" "roots" "[I" .null) (F_tags : Fld Z h0 a1 "com/example/unicept/unicept/WordTrie" "tags" "[[I" .null) (F_size : Fld Z h0 a1 "com/example/unicept/unicept/WordTrie" "size" "I" (.int (0 : Int32))) (g_a1 : n0 ≤ a1) (hr1 : 1 ≤ r) (hr8 : r ≤ 8) :
    MetFree l (⟨"com/example/unicept/unicept/WordTrie", "<init>", "(I)V"⟩ : MethodName) (head1 (Jvm.Cond.code (⟨"com/example/unicept/unicept/WordTrie", "<init>", "(I)V"⟩ : MethodName) prog_26_method_1_code 2 none :: ws) ({ frames := 1, cells := 3, slots := 160, locals := 14 } : Room)) (fun a U => a = #[(.ref a1), (.int (Int32.ofNat r))] ∧ Z.Warmed39 U.vm ∧ U.heap = h0) (fun _ _ _ _ _ => True) (fun _ U o U' => ∃ v L, o = .returned v ∧ Q_own_init Z a1 r h0 n0 v U'.heap L ∧ FrameEnd U o U' L ({ frames := 1, cells := 3, slots := 160, locals := 14 } : Room).cells ({ frames := 1, cells := 3, slots := 160, locals := 14 } : Room).slots) := by
  refine MetFree.of_bodySF (plainFor_of_name own_pn_own_init) hisR ?_
  intro p e s m args below meth c s₁ Bd hml0 hP hK
  obtain ⟨rfl, hZ, hh⟩ := hP
  have hx := Bd.exec
  have hby := Bd.bytes
  have hml : c.maxLocals = 2 := hml0
  have hown : s.vm.findClass "com/example/unicept/unicept/WordTrie" = some m.cls := findClass_of_methodNamed Bd.named
  have hnm := (name_of_methodNamed Bd.named Bd.method).1
  have X0 : Stand p l e ({ frames := 1, cells := 3, slots := 160, locals := 14 } : Room) s m #[(.ref a1), (.int (Int32.ofNat r))] below meth c s₁ [] 0 0 := Stand.of_body Bd
  have e0 : s₁.heap = h0 := by rw [← hh, Bd.state]; rfl
  have N0 := Fr.nil n0
  have pre0 : Goes p e below s₁ (entryFrame m #[(.ref a1), (.int (Int32.ofNat r))] 2) s₁ (mkF m 0 #[.val (.ref a1), .val (.int (Int32.ofNat r))] []) := fun t k => castTop (own_ef_own_init m a1 (Int32.ofNat r)) k
  have pre1 : Goes p e below s₁ (entryFrame m #[(.ref a1), (.int (Int32.ofNat r))] 2) s₁ (mkF m 1 #[.val (.ref a1), .val (.int (Int32.ofNat r))] [(.ref a1)]) := fun t kt => pre0 t (by
      show Steps p.tables e below (s₁.setTop (mkF m 0 #[.val (.ref a1), .val (.int (Int32.ofNat r))] [])) _
      refine XS.aloadN X0.here hx rfl (hb hby own_d1_0) rfl rfl ?_
      exact kt)
  obtain ⟨T2, X2, e2, st2⟩ := initO X0 hx hZ hown (hw _ (List.mem_of_getElem? (i := 6) rfl)) (hw _ (List.mem_of_getElem? (i := 7) rfl)) (hw _ (List.mem_of_getElem? (i := 8) rfl)) e0 (g := (mkF m 1 #[.val (.ref a1), .val (.int (Int32.ofNat r))] [(.ref a1)])) rfl (by rw [hml]; rfl) rfl (hb hby own_d1_1) (by decide) (W := 0) (by show 2 * 0 + _ ≤ _; exact Nat.le_of_eq rfl) (by decide)
  have pre3 : Goes p e below s₁ (entryFrame m #[(.ref a1), (.int (Int32.ofNat r))] 2) T2 (mkF m 4 #[.val (.ref a1), .val (.int (Int32.ofNat r))] []) := fun t kt => pre1 t (st2 t kt)
  have pre4 : Goes p e below s₁ (entryFrame m #[(.ref a1), (.int (Int32.ofNat r))] 2) T2 (mkF m 6 #[.val (.ref a1), .val (.int (Int32.ofNat r))] [(.int (Int32.ofNat r)), (.ref a1)]) := fun t kt => pre3 t (by
      show Steps p.tables e below (T2.setTop (mkF m 4 #[.val (.ref a1), .val (.int (Int32.ofNat r))] [])) _
      refine XS.aloadN X2.here hx rfl (hb hby own_d1_4) rfl rfl ?_
      show Steps p.tables e below (T2.setTop (mkF m 5 #[.val (.ref a1), .val (.int (Int32.ofNat r))] [(.ref a1)])) _
      refine XS.iloadN X2.here hx rfl (hb hby own_d1_5) rfl ?_
      exact kt)
  obtain ⟨T5, h5, X5, e5, W5, st5⟩ := putF X2 hx hZ hown (host := "") (Or.inl (hw _ (List.mem_of_getElem? (i := 9) rfl))) Via.refl e2 F_roles E_a1 (Or.inr ⟨(hw _ (List.mem_of_getElem? (i := 10) rfl)), rfl, hnm⟩) (hw _ (List.mem_of_getElem? (i := 1) rfl)) (ty := .int) (by decide) rfl rfl (g := (mkF m 6 #[.val (.ref a1), .val (.int (Int32.ofNat r))] [(.int (Int32.ofNat r)), (.ref a1)])) rfl rfl (hb hby own_d1_6)
  have Fw5 := F_roles.same W5
  have K5 : Keep h0 h5 [a1] := (Keep.refl h0 [a1]).wr W5 (Or.inl (List.mem_of_getElem? (i := 0) rfl))
  have N5 := Fr.snoc X5 N0 g_a1
  have pre6 : Goes p e below s₁ (entryFrame m #[(.ref a1), (.int (Int32.ofNat r))] 2) T5 (mkF m 9 #[.val (.ref a1), .val (.int (Int32.ofNat r))] []) := fun t kt => pre4 t (st5 t kt)
  have pre7 : Goes p e below s₁ (entryFrame m #[(.ref a1), (.int (Int32.ofNat r))] 2) T5 (mkF m 12 #[.val (.ref a1), .val (.int (Int32.ofNat r))] [(.int (1 : Int32)), (.int (Int32.ofNat r)), (.ref a1)]) := fun t kt => pre6 t (by
      show Steps p.tables e below (T5.setTop (mkF m 9 #[.val (.ref a1), .val (.int (Int32.ofNat r))] [])) _
      refine XS.aloadN X5.here hx rfl (hb hby own_d1_9) rfl rfl ?_
      show Steps p.tables e below (T5.setTop (mkF m 10 #[.val (.ref a1), .val (.int (Int32.ofNat r))] [(.ref a1)])) _
      refine XS.iloadN X5.here hx rfl (hb hby own_d1_10) rfl ?_
      show Steps p.tables e below (T5.setTop (mkF m 11 #[.val (.ref a1), .val (.int (Int32.ofNat r))] [(.int (Int32.ofNat r)), (.ref a1)])) _
      refine XS.iconst X5.here hx rfl (hb hby own_d1_11) ?_
      exact kt)
  obtain ⟨_, _, ⟨T8, L8, k8, n8⟩, -, X8, ⟨Lc8, hQ8, l8, y8, z8⟩, st8⟩ := Jvm.LawKit.callS X5 hx (y := (⟨"java/lang/Math", "max", "(II)I"⟩ : MethodName)) hown (mvT hZ (hw _ (List.mem_of_getElem? (i := 11) rfl))) (mvT hZ (hw _ (List.mem_of_getElem? (i := 12) rfl))) (mvT hZ (hw _ (List.mem_of_getElem? (i := 13) rfl))) (mvT hZ (hw _ (List.mem_of_getElem? (i := 14) rfl))) (by decide) (backOf (W := 1) (own_max l Z a0 hw [] (Int32.ofNat r) (1 : Int32) h5 n0 (Nat.le_trans Z0 (Keep.of_wr W5).1) (own_nltI (a := r) (b := 1) hr1 (by omega))) hZ (hw _ (List.mem_of_getElem? (i := 14) rfl)) (hw _ (List.mem_of_getElem? (i := 13) rfl)) (by decide) (by decide)) (g := (mkF m 12 #[.val (.ref a1), .val (.int (Int32.ofNat r))] [(.int (1 : Int32)), (.int (Int32.ofNat r)), (.ref a1)])) rfl (by rw [hml]; rfl) (argsL := [(.int (Int32.ofNat r)), (.int (1 : Int32))]) (rest := [(.ref a1)]) (lenOf own_pd3 rfl) rfl (by show 2 * 0 + _ ≤ _; exact Nat.le_of_eq rfl) (hb hby own_d1_12) (fun _ _ => ⟨rfl, e5, (by decide : 0 + 0 ≤ _), (by decide : 0 + 0 ≤ _)⟩)
  dsimp only [Pt.U, Pt.locs, Pt.cells, Pt.slots] at X8 l8 y8 z8 st8 hQ8
  subst l8 y8 z8
  obtain ⟨rfl, N8q, e8⟩ := hQ8
  have N8 := Fr.app N5 N8q
  have pre9 : Goes p e below s₁ (entryFrame m #[(.ref a1), (.int (Int32.ofNat r))] 2) T8 (mkF m 15 #[.val (.ref a1), .val (.int (Int32.ofNat r))] [(.int (Int32.ofNat r)), (.ref a1)]) := fun t kt => pre7 t (st8 t kt)
  have pre10 : Goes p e below s₁ (entryFrame m #[(.ref a1), (.int (Int32.ofNat r))] 2) T8 (mkF m 18 #[.val (.ref a1), .val (.int (Int32.ofNat r))] [(.int ((Int32.ofNat r) * (16 : Int32))), (.ref a1)]) := fun t kt => pre9 t (by
      show Steps p.tables e below (T8.setTop (mkF m 15 #[.val (.ref a1), .val (.int (Int32.ofNat r))] [(.int (Int32.ofNat r)), (.ref a1)])) _
      refine XS.bipush X8.here hx rfl (hb hby own_d1_15) ?_
      show Steps p.tables e below (T8.setTop (mkF m 17 #[.val (.ref a1), .val (.int (Int32.ofNat r))] [(.int (16 : Int32)), (.int (Int32.ofNat r)), (.ref a1)])) _
      refine XS.imul X8.here hx rfl (hb hby own_d1_17) rfl ?_
      exact kt)
  rw [show ((Int32.ofNat r) * (16 : Int32)) = (Int32.ofNat (16 * r)) from (own_mul r 16).trans (by rw [Nat.mul_comm])] at pre10
  obtain ⟨T11, h11, k11, X11, e11, E11, A11, st11⟩ := newP X8 hx hZ (hw _ (List.mem_of_getElem? (i := 15) rfl)) e8 (g := (mkF m 18 #[.val (.ref a1), .val (.int (Int32.ofNat r))] [(.int (Int32.ofNat (16 * r))), (.ref a1)])) rfl (hb hby own_d1_18) rfl (own_nn (by omega)) (cap := 128) (by rw [own_nc (by omega)]; omega) (by decide) (by decide) (by decide)
  obtain ⟨b11, g11⟩ : ∃ z, z = h5.size := ⟨_, rfl⟩
  rw [← g11] at A11 st11
  have V_b11 : own_FA Z h11 b11 (16 * r) (fun _ => 0) := own_FA.new A11 (own_nc (by omega))
  have g_b11 : n0 ≤ b11 := Nat.le_trans (Nat.le_trans Z0 (Keep.of_wr W5).1) (Nat.le_of_eq g11.symm)
  have sz_b11 : h0.size ≤ b11 := (Nat.le_trans K5.1 (Nat.le_of_eq g11.symm))
  have K11 : Keep h0 h11 [a1] := K5.ext E11
  have pre12 : Goes p e below s₁ (entryFrame m #[(.ref a1), (.int (Int32.ofNat r))] 2) T11 (mkF m 20 #[.val (.ref a1), .val (.int (Int32.ofNat r))] [(.ref b11), (.ref a1)]) := fun t kt => pre10 t (st11 t kt)
  obtain ⟨T13, h13, X13, e13, W13, st13⟩ := putF X11 hx hZ hown (host := "") (Or.inl (hw _ (List.mem_of_getElem? (i := 16) rfl))) Via.refl e11 ((F_children.other W5 (Or.inr (slot_ne (Or.inl (hw _ (List.mem_of_getElem? (i := 17) rfl))) (Or.inr (hw _ (List.mem_of_getElem? (i := 10) rfl))) (by decide) (t := (.array .int)) (t' := .int) (by decide) (by decide)))).ext E11) ((E_a1.wr W5).ext E11) (Or.inl (hw _ (List.mem_of_getElem? (i := 17) rfl))) (hw _ (List.mem_of_getElem? (i := 1) rfl)) (ty := (.array .int)) (by decide) rfl rfl (g := (mkF m 20 #[.val (.ref a1), .val (.int (Int32.ofNat r))] [(.ref b11), (.ref a1)])) rfl rfl (hb hby own_d1_20)
  have Fw13 := ((F_children.other W5 (Or.inr (slot_ne (Or.inl (hw _ (List.mem_of_getElem? (i := 17) rfl))) (Or.inr (hw _ (List.mem_of_getElem? (i := 10) rfl))) (by decide) (t := (.array .int)) (t' := .int) (by decide) (by decide)))).ext E11).same W13
  have K13 : Keep h0 h13 [a1] := K11.wr W13 (Or.inl (List.mem_of_getElem? (i := 0) rfl))
  have N13 := Fr.snoc X13 N8 g_a1
  have pre14 : Goes p e below s₁ (entryFrame m #[(.ref a1), (.int (Int32.ofNat r))] 2) T13 (mkF m 23 #[.val (.ref a1), .val (.int (Int32.ofNat r))] []) := fun t kt => pre12 t (st13 t kt)
  have pre15 : Goes p e below s₁ (entryFrame m #[(.ref a1), (.int (Int32.ofNat r))] 2) T13 (mkF m 26 #[.val (.ref a1), .val (.int (Int32.ofNat r))] [(.int (16 : Int32)), (.ref a1)]) := fun t kt => pre14 t (by
      show Steps p.tables e below (T13.setTop (mkF m 23 #[.val (.ref a1), .val (.int (Int32.ofNat r))] [])) _
      refine XS.aloadN X13.here hx rfl (hb hby own_d1_23) rfl rfl ?_
      show Steps p.tables e below (T13.setTop (mkF m 24 #[.val (.ref a1), .val (.int (Int32.ofNat r))] [(.ref a1)])) _
      refine XS.bipush X13.here hx rfl (hb hby own_d1_24) ?_
      exact kt)
  obtain ⟨T16, h16, k16, X16, e16, E16, A16, st16⟩ := newP X13 hx hZ (hw _ (List.mem_of_getElem? (i := 15) rfl)) e13 (g := (mkF m 26 #[.val (.ref a1), .val (.int (Int32.ofNat r))] [(.int (16 : Int32)), (.ref a1)])) rfl (hb hby own_d1_26) rfl (by decide) (cap := 16) (by decide) (by decide) (by decide) (by decide)
  obtain ⟨b16, g16⟩ : ∃ z, z = h13.size := ⟨_, rfl⟩
  rw [← g16] at A16 st16
  have V_b16 : own_FA Z h16 b16 16 (fun _ => 0) := own_FA.new A16 (by decide)
  have g_b16 : n0 ≤ b16 := Nat.le_trans (Nat.le_trans (Nat.le_trans (Nat.le_trans Z0 (Keep.of_wr W5).1) E11.1) (Keep.of_wr W13).1) (Nat.le_of_eq g16.symm)
  have sz_b16 : h0.size ≤ b16 := (Nat.le_trans K13.1 (Nat.le_of_eq g16.symm))
  have K16 : Keep h0 h16 [a1] := K13.ext E16
  have pre17 : Goes p e below s₁ (entryFrame m #[(.ref a1), (.int (Int32.ofNat r))] 2) T16 (mkF m 28 #[.val (.ref a1), .val (.int (Int32.ofNat r))] [(.ref b16), (.ref a1)]) := fun t kt => pre15 t (st16 t kt)
  obtain ⟨T18, h18, X18, e18, W18, st18⟩ := putF X16 hx hZ hown (host := "") (Or.inl (hw _ (List.mem_of_getElem? (i := 18) rfl))) Via.refl e16 ((((F_roots.other W5 (Or.inr (slot_ne (Or.inl (hw _ (List.mem_of_getElem? (i := 19) rfl))) (Or.inr (hw _ (List.mem_of_getElem? (i := 10) rfl))) (by decide) (t := (.array .int)) (t' := .int) (by decide) (by decide)))).ext E11).other W13 (Or.inr (slot_ne (Or.inl (hw _ (List.mem_of_getElem? (i := 19) rfl))) (Or.inl (hw _ (List.mem_of_getElem? (i := 17) rfl))) (by decide) (t := (.array .int)) (t' := (.array .int)) (by decide) (by decide)))).ext E16) ((((E_a1.wr W5).ext E11).wr W13).ext E16) (Or.inl (hw _ (List.mem_of_getElem? (i := 19) rfl))) (hw _ (List.mem_of_getElem? (i := 1) rfl)) (ty := (.array .int)) (by decide) rfl rfl (g := (mkF m 28 #[.val (.ref a1), .val (.int (Int32.ofNat r))] [(.ref b16), (.ref a1)])) rfl rfl (hb hby own_d1_28)
  have Fw18 := ((((F_roots.other W5 (Or.inr (slot_ne (Or.inl (hw _ (List.mem_of_getElem? (i := 19) rfl))) (Or.inr (hw _ (List.mem_of_getElem? (i := 10) rfl))) (by decide) (t := (.array .int)) (t' := .int) (by decide) (by decide)))).ext E11).other W13 (Or.inr (slot_ne (Or.inl (hw _ (List.mem_of_getElem? (i := 19) rfl))) (Or.inl (hw _ (List.mem_of_getElem? (i := 17) rfl))) (by decide) (t := (.array .int)) (t' := (.array .int)) (by decide) (by decide)))).ext E16).same W18
  have K18 : Keep h0 h18 [a1] := K16.wr W18 (Or.inl (List.mem_of_getElem? (i := 0) rfl))
  have N18 := Fr.snoc X18 N13 g_a1
  have pre19 : Goes p e below s₁ (entryFrame m #[(.ref a1), (.int (Int32.ofNat r))] 2) T18 (mkF m 31 #[.val (.ref a1), .val (.int (Int32.ofNat r))] []) := fun t kt => pre17 t (st18 t kt)
  have pre20 : Goes p e below s₁ (entryFrame m #[(.ref a1), (.int (Int32.ofNat r))] 2) T18 (mkF m 34 #[.val (.ref a1), .val (.int (Int32.ofNat r))] [(.int (16 : Int32)), (.ref a1)]) := fun t kt => pre19 t (by
      show Steps p.tables e below (T18.setTop (mkF m 31 #[.val (.ref a1), .val (.int (Int32.ofNat r))] [])) _
      refine XS.aloadN X18.here hx rfl (hb hby own_d1_31) rfl rfl ?_
      show Steps p.tables e below (T18.setTop (mkF m 32 #[.val (.ref a1), .val (.int (Int32.ofNat r))] [(.ref a1)])) _
      refine XS.bipush X18.here hx rfl (hb hby own_d1_32) ?_
      exact kt)
  obtain ⟨T21, h21, k21, X21, e21, E21, A21, Q21, O21, st21⟩ := newRA X18 hx hZ hown (ty := .int) (C := "[I") rfl (hw _ (List.mem_of_getElem? (i := 20) rfl)) (hw _ (List.mem_of_getElem? (i := 21) rfl)) e18 (g := (mkF m 34 #[.val (.ref a1), .val (.int (Int32.ofNat r))] [(.int (16 : Int32)), (.ref a1)])) rfl (hb hby own_d1_34) rfl (by decide) (cap := 16) (by decide) (by decide) (by decide) (by decide) (ad := "[[I") rfl
  obtain ⟨b21, g21⟩ : ∃ z, z = h18.size := ⟨_, rfl⟩
  rw [← g21] at A21 st21
  have V_b21 : Arv Z h21 b21 k21 (.array .int) (16 : Int32) (List.replicate 16 .null) .null := (Arv.new A21 (by decide)).pad (pad_rep [] .null 16)
  have g_b21 : n0 ≤ b21 := Nat.le_trans (Nat.le_trans (Nat.le_trans (Nat.le_trans (Nat.le_trans (Nat.le_trans Z0 (Keep.of_wr W5).1) E11.1) (Keep.of_wr W13).1) E16.1) (Keep.of_wr W18).1) (Nat.le_of_eq g21.symm)
  have sz_b21 : h0.size ≤ b21 := (Nat.le_trans K18.1 (Nat.le_of_eq g21.symm))
  have K21 : Keep h0 h21 [a1] := K18.ext E21
  have pre22 : Goes p e below s₁ (entryFrame m #[(.ref a1), (.int (Int32.ofNat r))] 2) T21 (mkF m 37 #[.val (.ref a1), .val (.int (Int32.ofNat r))] [(.ref b21), (.ref a1)]) := fun t kt => pre20 t (st21 t kt)
  obtain ⟨T23, h23, X23, e23, W23, st23⟩ := putF X21 hx hZ hown (host := "") (Or.inl (hw _ (List.mem_of_getElem? (i := 22) rfl))) Via.refl e21 ((((((F_tags.other W5 (Or.inr (slot_ne (Or.inl (hw _ (List.mem_of_getElem? (i := 23) rfl))) (Or.inr (hw _ (List.mem_of_getElem? (i := 10) rfl))) (by decide) (t := (.array (.array .int))) (t' := .int) (by decide) (by decide)))).ext E11).other W13 (Or.inr (slot_ne (Or.inl (hw _ (List.mem_of_getElem? (i := 23) rfl))) (Or.inl (hw _ (List.mem_of_getElem? (i := 17) rfl))) (by decide) (t := (.array (.array .int))) (t' := (.array .int)) (by decide) (by decide)))).ext E16).other W18 (Or.inr (slot_ne (Or.inl (hw _ (List.mem_of_getElem? (i := 23) rfl))) (Or.inl (hw _ (List.mem_of_getElem? (i := 19) rfl))) (by decide) (t := (.array (.array .int))) (t' := (.array .int)) (by decide) (by decide)))).ext E21) ((((((E_a1.wr W5).ext E11).wr W13).ext E16).wr W18).ext E21) (Or.inl (hw _ (List.mem_of_getElem? (i := 23) rfl))) (hw _ (List.mem_of_getElem? (i := 1) rfl)) (ty := (.array (.array .int))) (by decide) rfl rfl (g := (mkF m 37 #[.val (.ref a1), .val (.int (Int32.ofNat r))] [(.ref b21), (.ref a1)])) rfl rfl (hb hby own_d1_37)
  have Fw23 := ((((((F_tags.other W5 (Or.inr (slot_ne (Or.inl (hw _ (List.mem_of_getElem? (i := 23) rfl))) (Or.inr (hw _ (List.mem_of_getElem? (i := 10) rfl))) (by decide) (t := (.array (.array .int))) (t' := .int) (by decide) (by decide)))).ext E11).other W13 (Or.inr (slot_ne (Or.inl (hw _ (List.mem_of_getElem? (i := 23) rfl))) (Or.inl (hw _ (List.mem_of_getElem? (i := 17) rfl))) (by decide) (t := (.array (.array .int))) (t' := (.array .int)) (by decide) (by decide)))).ext E16).other W18 (Or.inr (slot_ne (Or.inl (hw _ (List.mem_of_getElem? (i := 23) rfl))) (Or.inl (hw _ (List.mem_of_getElem? (i := 19) rfl))) (by decide) (t := (.array (.array .int))) (t' := (.array .int)) (by decide) (by decide)))).ext E21).same W23
  have K23 : Keep h0 h23 [a1] := K21.wr W23 (Or.inl (List.mem_of_getElem? (i := 0) rfl))
  have N23 := Fr.snoc X23 N18 g_a1
  have pre24 : Goes p e below s₁ (entryFrame m #[(.ref a1), (.int (Int32.ofNat r))] 2) T23 (mkF m 40 #[.val (.ref a1), .val (.int (Int32.ofNat r))] []) := fun t kt => pre22 t (st23 t kt)
  obtain ⟨fs, hr, hrun, hended, hW, hsame⟩ := X23.leave (v := none) (fun _ => rfl)
  refine ⟨_, _, pre24 _ ?_, hrun, hended, _, _, rfl, ?_, ⟨_, rfl⟩, hW, hsame.mono (by decide) (by decide)⟩
  · show Steps p.tables e below (T23.setTop (mkF m 40 #[.val (.ref a1), .val (.int (Int32.ofNat r))] [])) _
    exact X23.returnOut hx Bd.returns (hb hby own_d1_40) hr
  · show Q_own_init Z a1 r h0 n0 _ T23.heap _
    rw [e23]
    exact ⟨rfl, N23, K23, b11, b16, b21, k21, sz_b11, sz_b16, sz_b21, O21, (((((((E_a1.wr W5).ext E11).wr W13).ext E16).wr W18).ext E21).wr W23), ((((((Fw5.ext E11).other W13 (Or.inr (slot_ne (Or.inr (hw _ (List.mem_of_getElem? (i := 10) rfl))) (Or.inl (hw _ (List.mem_of_getElem? (i := 17) rfl))) (by decide) (t := .int) (t' := (.array .int)) (by decide) (by decide)))).ext E16).other W18 (Or.inr (slot_ne (Or.inr (hw _ (List.mem_of_getElem? (i := 10) rfl))) (Or.inl (hw _ (List.mem_of_getElem? (i := 19) rfl))) (by decide) (t := .int) (t' := (.array .int)) (by decide) (by decide)))).ext E21).other W23 (Or.inr (slot_ne (Or.inr (hw _ (List.mem_of_getElem? (i := 10) rfl))) (Or.inl (hw _ (List.mem_of_getElem? (i := 23) rfl))) (by decide) (t := .int) (t' := (.array (.array .int))) (by decide) (by decide)))), ((((Fw13.ext E16).other W18 (Or.inr (slot_ne (Or.inl (hw _ (List.mem_of_getElem? (i := 17) rfl))) (Or.inl (hw _ (List.mem_of_getElem? (i := 19) rfl))) (by decide) (t := (.array .int)) (t' := (.array .int)) (by decide) (by decide)))).ext E21).other W23 (Or.inr (slot_ne (Or.inl (hw _ (List.mem_of_getElem? (i := 17) rfl))) (Or.inl (hw _ (List.mem_of_getElem? (i := 23) rfl))) (by decide) (t := (.array .int)) (t' := (.array (.array .int))) (by decide) (by decide)))), ((Fw18.ext E21).other W23 (Or.inr (slot_ne (Or.inl (hw _ (List.mem_of_getElem? (i := 19) rfl))) (Or.inl (hw _ (List.mem_of_getElem? (i := 23) rfl))) (by decide) (t := (.array .int)) (t' := (.array (.array .int))) (by decide) (by decide)))), Fw23, (((((((F_size.other W5 (Or.inr (slot_ne (Or.inl (hw _ (List.mem_of_getElem? (i := 34) rfl))) (Or.inr (hw _ (List.mem_of_getElem? (i := 10) rfl))) (by decide) (t := .int) (t' := .int) (by decide) (by decide)))).ext E11).other W13 (Or.inr (slot_ne (Or.inl (hw _ (List.mem_of_getElem? (i := 34) rfl))) (Or.inl (hw _ (List.mem_of_getElem? (i := 17) rfl))) (by decide) (t := .int) (t' := (.array .int)) (by decide) (by decide)))).ext E16).other W18 (Or.inr (slot_ne (Or.inl (hw _ (List.mem_of_getElem? (i := 34) rfl))) (Or.inl (hw _ (List.mem_of_getElem? (i := 19) rfl))) (by decide) (t := .int) (t' := (.array .int)) (by decide) (by decide)))).ext E21).other W23 (Or.inr (slot_ne (Or.inl (hw _ (List.mem_of_getElem? (i := 34) rfl))) (Or.inl (hw _ (List.mem_of_getElem? (i := 23) rfl))) (by decide) (t := .int) (t' := (.array (.array .int))) (by decide) (by decide)))), (((((V_b11.other W13 (Ne.symm (Nat.ne_of_lt (Nat.lt_of_lt_of_le (E_a1.wr W5).lt (Nat.le_of_eq g11.symm))))).ext E16).other W18 (Ne.symm (Nat.ne_of_lt (Nat.lt_of_lt_of_le (E_a1.wr W5).lt (Nat.le_of_eq g11.symm))))).ext E21).other W23 (Ne.symm (Nat.ne_of_lt (Nat.lt_of_lt_of_le (E_a1.wr W5).lt (Nat.le_of_eq g11.symm))))), (((V_b16.other W18 (Ne.symm (Nat.ne_of_lt (Nat.lt_of_lt_of_le (((E_a1.wr W5).ext E11).wr W13).lt (Nat.le_of_eq g16.symm))))).ext E21).other W23 (Ne.symm (Nat.ne_of_lt (Nat.lt_of_lt_of_le (((E_a1.wr W5).ext E11).wr W13).lt (Nat.le_of_eq g16.symm))))), (V_b21.other W23 (Ne.symm (Nat.ne_of_lt (Nat.lt_of_lt_of_le (((((E_a1.wr W5).ext E11).wr W13).ext E16).wr W18).lt (Nat.le_of_eq g21.symm))))), g_a1, g_b11, g_b16, g_b21, (Nat.ne_of_lt (Nat.lt_of_lt_of_le (E_a1.wr W5).lt (Nat.le_of_eq g11.symm))), (Nat.ne_of_lt (Nat.lt_of_lt_of_le (((E_a1.wr W5).ext E11).wr W13).lt (Nat.le_of_eq g16.symm))), (Nat.ne_of_lt (Nat.lt_of_lt_of_le (((((E_a1.wr W5).ext E11).wr W13).ext E16).wr W18).lt (Nat.le_of_eq g21.symm))), (Nat.ne_of_lt (Nat.lt_of_lt_of_le (V_b11.other W13 (Ne.symm (Nat.ne_of_lt (Nat.lt_of_lt_of_le (E_a1.wr W5).lt (Nat.le_of_eq g11.symm))))).lt (Nat.le_of_eq g16.symm))), (Nat.ne_of_lt (Nat.lt_of_lt_of_le (((V_b11.other W13 (Ne.symm (Nat.ne_of_lt (Nat.lt_of_lt_of_le (E_a1.wr W5).lt (Nat.le_of_eq g11.symm))))).ext E16).other W18 (Ne.symm (Nat.ne_of_lt (Nat.lt_of_lt_of_le (E_a1.wr W5).lt (Nat.le_of_eq g11.symm))))).lt (Nat.le_of_eq g21.symm))), (Nat.ne_of_lt (Nat.lt_of_lt_of_le (V_b16.other W18 (Ne.symm (Nat.ne_of_lt (Nat.lt_of_lt_of_le (((E_a1.wr W5).ext E11).wr W13).lt (Nat.le_of_eq g16.symm))))).lt (Nat.le_of_eq g21.symm)))⟩

theorem own_dmin0_0 : decode jdk_29_method_69_code 0 = .ok (.iload_n 0, 1) := by decide +kernel
theorem own_dmin0_1 : decode jdk_29_method_69_code 1 = .ok (.iload_n 1, 1) := by decide +kernel
theorem own_dmin0_2 : decode jdk_29_method_69_code 2 = .ok (.if_icmp .gt 7, 3) := by decide +kernel
theorem own_dmin0_5 : decode jdk_29_method_69_code 5 = .ok (.iload_n 0, 1) := by decide +kernel
theorem own_dmin0_6 : decode jdk_29_method_69_code 6 = .ok (.goto 4, 3) := by decide +kernel
theorem own_dmin0_10 : decode jdk_29_method_69_code 10 = .ok (.ireturn, 1) := by decide +kernel
theorem own_ef_own_min0 (m : MethodId) (x0 : Int32) (x1 : Int32) : entryFrame m #[(.int x0), (.int x1)] 2 = mkF m 0 #[.val (.int x0), .val (.int x1)] [] := by first | (simp [entryFrame, mkF, argsToLocals, Value.category]; done) | rfl
def Q_own_min0 (Z : State)  (h0 : Heap) (n0 : Nat) (v : Option Value) (h : Heap) (L : List Loc) : Prop := v = some (.int (0 : Int32)) ∧ Fr n0 L ∧ h = h0
set_option maxRecDepth 65536 in
set_option maxHeartbeats 40000000 in
theorem own_min0 (l : Launch) (Z : State) (a0 : Array Value) (hw : ∀ d ∈ tables_1, d.before a0 Z = true) (ws : List Jvm.Cond)  (h0 : Heap) (n0 : Nat) (Z0 : n0 ≤ h0.size) :
    MetFree l (⟨"java/lang/Math", "min", "(II)I"⟩ : MethodName) (head1 (Jvm.Cond.code (⟨"java/lang/Math", "min", "(II)I"⟩ : MethodName) jdk_29_method_69_code 2 (some .int) :: ws) ({ frames := 0, cells := 0, slots := 0, locals := 0 } : Room)) (fun a U => a = #[(.int (0 : Int32)), (.int (1 : Int32))] ∧ Z.Warmed39 U.vm ∧ U.heap = h0) (fun _ _ _ _ _ => True) (fun _ U o U' => ∃ v L, o = .returned v ∧ Q_own_min0 Z  h0 n0 v U'.heap L ∧ FrameEnd U o U' L ({ frames := 0, cells := 0, slots := 0, locals := 0 } : Room).cells ({ frames := 0, cells := 0, slots := 0, locals := 0 } : Room).slots) := by
  refine MetFree.of_bodySF (Jvm.Free.JP.mathPlain rfl (by decide +kernel)) hisR ?_
  intro p e s m args below meth c s₁ Bd hml0 hP hK
  obtain ⟨rfl, hZ, hh⟩ := hP
  have hx := Bd.exec
  have hby := Bd.bytes
  have hml : c.maxLocals = 2 := hml0
  have hown : s.vm.findClass "java/lang/Math" = some m.cls := findClass_of_methodNamed Bd.named
  have hnm := (name_of_methodNamed Bd.named Bd.method).1
  have X0 : Stand p l e ({ frames := 0, cells := 0, slots := 0, locals := 0 } : Room) s m #[(.int (0 : Int32)), (.int (1 : Int32))] below meth c s₁ [] 0 0 := Stand.of_body Bd
  have e0 : s₁.heap = h0 := by rw [← hh, Bd.state]; rfl
  have N0 := Fr.nil n0
  have pre0 : Goes p e below s₁ (entryFrame m #[(.int (0 : Int32)), (.int (1 : Int32))] 2) s₁ (mkF m 0 #[.val (.int (0 : Int32)), .val (.int (1 : Int32))] []) := fun t k => castTop (own_ef_own_min0 m (0 : Int32) (1 : Int32)) k
  have pre1 : Goes p e below s₁ (entryFrame m #[(.int (0 : Int32)), (.int (1 : Int32))] 2) s₁ (mkF m 10 #[.val (.int (0 : Int32)), .val (.int (1 : Int32))] [(.int (0 : Int32))]) := fun t kt => pre0 t (by
      show Steps p.tables e below (s₁.setTop (mkF m 0 #[.val (.int (0 : Int32)), .val (.int (1 : Int32))] [])) _
      refine XS.iloadN X0.here hx rfl (hb hby own_dmin0_0) rfl ?_
      show Steps p.tables e below (s₁.setTop (mkF m 1 #[.val (.int (0 : Int32)), .val (.int (1 : Int32))] [(.int (0 : Int32))])) _
      refine XS.iloadN X0.here hx rfl (hb hby own_dmin0_1) rfl ?_
      show Steps p.tables e below (s₁.setTop (mkF m 2 #[.val (.int (0 : Int32)), .val (.int (1 : Int32))] [(.int (1 : Int32)), (.int (0 : Int32))])) _
      refine XS.icmpNo X0.here hx rfl (hb hby own_dmin0_2) rfl (flt (by decide : ¬ ((1 : Int32) < (0 : Int32)))).2.2.1 ?_
      show Steps p.tables e below (s₁.setTop (mkF m 5 #[.val (.int (0 : Int32)), .val (.int (1 : Int32))] [])) _
      refine XS.iloadN X0.here hx rfl (hb hby own_dmin0_5) rfl ?_
      show Steps p.tables e below (s₁.setTop (mkF m 6 #[.val (.int (0 : Int32)), .val (.int (1 : Int32))] [(.int (0 : Int32))])) _
      refine XS.goto X0.here hx rfl (pc0 := 6) (pc' := 10) rfl (hb hby own_dmin0_6) (by decide) (by decide) ?_
      exact kt)
  obtain ⟨fs, hr, hrun, hended, hW, hsame⟩ := X0.leave (v := some (.int (0 : Int32))) (fun h => by rw [Bd.returns] at h; cases h)
  refine ⟨_, _, pre1 _ ?_, hrun, hended, _, _, rfl, ?_, ⟨_, rfl⟩, hW, hsame.mono (by decide) (by decide)⟩
  · show Steps p.tables e below (s₁.setTop (mkF m 10 #[.val (.int (0 : Int32)), .val (.int (1 : Int32))] [(.int (0 : Int32))])) _
    exact retI X0 hx Bd.returns (hb hby own_dmin0_10) hr
  · show Q_own_min0 Z  h0 n0 _ s₁.heap _
    rw [e0]
    exact ⟨rfl, N0, rfl⟩

theorem own_dmin1_0 : decode jdk_29_method_69_code 0 = .ok (.iload_n 0, 1) := by decide +kernel
theorem own_dmin1_1 : decode jdk_29_method_69_code 1 = .ok (.iload_n 1, 1) := by decide +kernel
theorem own_dmin1_2 : decode jdk_29_method_69_code 2 = .ok (.if_icmp .gt 7, 3) := by decide +kernel
theorem own_dmin1_5 : decode jdk_29_method_69_code 5 = .ok (.iload_n 0, 1) := by decide +kernel
theorem own_dmin1_6 : decode jdk_29_method_69_code 6 = .ok (.goto 4, 3) := by decide +kernel
theorem own_dmin1_10 : decode jdk_29_method_69_code 10 = .ok (.ireturn, 1) := by decide +kernel
theorem own_ef_own_min1 (m : MethodId) (x0 : Int32) (x1 : Int32) : entryFrame m #[(.int x0), (.int x1)] 2 = mkF m 0 #[.val (.int x0), .val (.int x1)] [] := by first | (simp [entryFrame, mkF, argsToLocals, Value.category]; done) | rfl
def Q_own_min1 (Z : State)  (h0 : Heap) (n0 : Nat) (v : Option Value) (h : Heap) (L : List Loc) : Prop := v = some (.int (1 : Int32)) ∧ Fr n0 L ∧ h = h0
set_option maxRecDepth 65536 in
set_option maxHeartbeats 40000000 in
theorem own_min1 (l : Launch) (Z : State) (a0 : Array Value) (hw : ∀ d ∈ tables_1, d.before a0 Z = true) (ws : List Jvm.Cond)  (h0 : Heap) (n0 : Nat) (Z0 : n0 ≤ h0.size) :
    MetFree l (⟨"java/lang/Math", "min", "(II)I"⟩ : MethodName) (head1 (Jvm.Cond.code (⟨"java/lang/Math", "min", "(II)I"⟩ : MethodName) jdk_29_method_69_code 2 (some .int) :: ws) ({ frames := 0, cells := 0, slots := 0, locals := 0 } : Room)) (fun a U => a = #[(.int (1 : Int32)), (.int (2 : Int32))] ∧ Z.Warmed39 U.vm ∧ U.heap = h0) (fun _ _ _ _ _ => True) (fun _ U o U' => ∃ v L, o = .returned v ∧ Q_own_min1 Z  h0 n0 v U'.heap L ∧ FrameEnd U o U' L ({ frames := 0, cells := 0, slots := 0, locals := 0 } : Room).cells ({ frames := 0, cells := 0, slots := 0, locals := 0 } : Room).slots) := by
  refine MetFree.of_bodySF (Jvm.Free.JP.mathPlain rfl (by decide +kernel)) hisR ?_
  intro p e s m args below meth c s₁ Bd hml0 hP hK
  obtain ⟨rfl, hZ, hh⟩ := hP
  have hx := Bd.exec
  have hby := Bd.bytes
  have hml : c.maxLocals = 2 := hml0
  have hown : s.vm.findClass "java/lang/Math" = some m.cls := findClass_of_methodNamed Bd.named
  have hnm := (name_of_methodNamed Bd.named Bd.method).1
  have X0 : Stand p l e ({ frames := 0, cells := 0, slots := 0, locals := 0 } : Room) s m #[(.int (1 : Int32)), (.int (2 : Int32))] below meth c s₁ [] 0 0 := Stand.of_body Bd
  have e0 : s₁.heap = h0 := by rw [← hh, Bd.state]; rfl
  have N0 := Fr.nil n0
  have pre0 : Goes p e below s₁ (entryFrame m #[(.int (1 : Int32)), (.int (2 : Int32))] 2) s₁ (mkF m 0 #[.val (.int (1 : Int32)), .val (.int (2 : Int32))] []) := fun t k => castTop (own_ef_own_min1 m (1 : Int32) (2 : Int32)) k
  have pre1 : Goes p e below s₁ (entryFrame m #[(.int (1 : Int32)), (.int (2 : Int32))] 2) s₁ (mkF m 10 #[.val (.int (1 : Int32)), .val (.int (2 : Int32))] [(.int (1 : Int32))]) := fun t kt => pre0 t (by
      show Steps p.tables e below (s₁.setTop (mkF m 0 #[.val (.int (1 : Int32)), .val (.int (2 : Int32))] [])) _
      refine XS.iloadN X0.here hx rfl (hb hby own_dmin1_0) rfl ?_
      show Steps p.tables e below (s₁.setTop (mkF m 1 #[.val (.int (1 : Int32)), .val (.int (2 : Int32))] [(.int (1 : Int32))])) _
      refine XS.iloadN X0.here hx rfl (hb hby own_dmin1_1) rfl ?_
      show Steps p.tables e below (s₁.setTop (mkF m 2 #[.val (.int (1 : Int32)), .val (.int (2 : Int32))] [(.int (2 : Int32)), (.int (1 : Int32))])) _
      refine XS.icmpNo X0.here hx rfl (hb hby own_dmin1_2) rfl (flt (by decide : ¬ ((2 : Int32) < (1 : Int32)))).2.2.1 ?_
      show Steps p.tables e below (s₁.setTop (mkF m 5 #[.val (.int (1 : Int32)), .val (.int (2 : Int32))] [])) _
      refine XS.iloadN X0.here hx rfl (hb hby own_dmin1_5) rfl ?_
      show Steps p.tables e below (s₁.setTop (mkF m 6 #[.val (.int (1 : Int32)), .val (.int (2 : Int32))] [(.int (1 : Int32))])) _
      refine XS.goto X0.here hx rfl (pc0 := 6) (pc' := 10) rfl (hb hby own_dmin1_6) (by decide) (by decide) ?_
      exact kt)
  obtain ⟨fs, hr, hrun, hended, hW, hsame⟩ := X0.leave (v := some (.int (1 : Int32))) (fun h => by rw [Bd.returns] at h; cases h)
  refine ⟨_, _, pre1 _ ?_, hrun, hended, _, _, rfl, ?_, ⟨_, rfl⟩, hW, hsame.mono (by decide) (by decide)⟩
  · show Steps p.tables e below (s₁.setTop (mkF m 10 #[.val (.int (1 : Int32)), .val (.int (2 : Int32))] [(.int (1 : Int32))])) _
    exact retI X0 hx Bd.returns (hb hby own_dmin1_10) hr
  · show Q_own_min1 Z  h0 n0 _ s₁.heap _
    rw [e0]
    exact ⟨rfl, N0, rfl⟩

theorem own_dcp0_0 : decode jdk_65_method_123_code 0 = .ok (.iload_n 1, 1) := by decide +kernel
theorem own_dcp0_1 : decode jdk_65_method_123_code 1 = .ok (.aload_n 0, 1) := by decide +kernel
theorem own_dcp0_2 : decode jdk_65_method_123_code 2 = .ok (.arraylength, 1) := by decide +kernel
theorem own_dcp0_3 : decode jdk_65_method_123_code 3 = .ok (.if_icmp .ne 11, 3) := by decide +kernel
theorem own_dcp0_14 : decode jdk_65_method_123_code 14 = .ok (.iload_n 1, 1) := by decide +kernel
theorem own_dcp0_15 : decode jdk_65_method_123_code 15 = .ok (.newarray .int, 2) := by decide +kernel
theorem own_dcp0_17 : decode jdk_65_method_123_code 17 = .ok (.astore_n 2, 1) := by decide +kernel
theorem own_dcp0_18 : decode jdk_65_method_123_code 18 = .ok (.aload_n 0, 1) := by decide +kernel
theorem own_dcp0_19 : decode jdk_65_method_123_code 19 = .ok (.iconst 0, 1) := by decide +kernel
theorem own_dcp0_20 : decode jdk_65_method_123_code 20 = .ok (.aload_n 2, 1) := by decide +kernel
theorem own_dcp0_21 : decode jdk_65_method_123_code 21 = .ok (.iconst 0, 1) := by decide +kernel
theorem own_dcp0_22 : decode jdk_65_method_123_code 22 = .ok (.aload_n 0, 1) := by decide +kernel
theorem own_dcp0_23 : decode jdk_65_method_123_code 23 = .ok (.arraylength, 1) := by decide +kernel
theorem own_dcp0_24 : decode jdk_65_method_123_code 24 = .ok (.iload_n 1, 1) := by decide +kernel
theorem own_dcp0_25 : decode jdk_65_method_123_code 25 = .ok (.invokestatic 304, 3) := by decide +kernel
theorem own_dcp0_28 : decode jdk_65_method_123_code 28 = .ok (.invokestatic 150, 3) := by decide +kernel
theorem own_dcp0_31 : decode jdk_65_method_123_code 31 = .ok (.aload_n 2, 1) := by decide +kernel
theorem own_dcp0_32 : decode jdk_65_method_123_code 32 = .ok (.areturn, 1) := by decide +kernel
theorem own_pn_own_copy0 : plainName "java/util/Arrays" = true := by first | (simp [plainName, overriddenIn]; done) | decide +kernel
theorem own_ef_own_copy0 (m : MethodId) (x0 : Addr) (x1 : Int32) : entryFrame m #[(.ref x0), (.int x1)] 3 = mkF m 0 #[.val (.ref x0), .val (.int x1), .unset] [] := by first | (simp [entryFrame, mkF, argsToLocals, Value.category]; done) | rfl
def Q_own_copy0 (Z : State) (a1 : Addr) (k1 : ClassId) (h0 : Heap) (n0 : Nat) (v : Option Value) (h : Heap) (L : List Loc) : Prop := ∃ (y : Addr) (ky : ClassId), v = some (.ref y) ∧ Fr n0 L ∧ Keep h0 h [] ∧ h0.size ≤ y ∧ n0 ≤ y ∧ Arv Z h y ky .int (1 : Int32) [(.int (0 : Int32))] (.int (0 : Int32)) ∧ Exa Z h y "[I"
set_option maxRecDepth 65536 in
set_option maxHeartbeats 40000000 in
theorem own_copy0 (l : Launch) (Z : State) (a0 : Array Value) (hw : ∀ d ∈ tables_1, d.before a0 Z = true) (ws : List Jvm.Cond) (a1 : Addr) (k1 : ClassId) (h0 : Heap) (n0 : Nat) (Z0 : n0 ≤ h0.size) (V_a1 : Arv Z h0 a1 k1 .int (0 : Int32) [] (.int (0 : Int32))) :
    MetFree l (⟨"java/util/Arrays", "copyOf", "([II)[I"⟩ : MethodName) (head1 (Jvm.Cond.code (⟨"java/util/Arrays", "copyOf", "([II)[I"⟩ : MethodName) jdk_65_method_123_code 3 (some (.array .int)) :: ws) ({ frames := 1, cells := 1, slots := 1, locals := 40 } : Room)) (fun a U => a = #[(.ref a1), (.int (1 : Int32))] ∧ Z.Warmed39 U.vm ∧ U.heap = h0) (fun _ _ _ _ _ => True) (fun _ U o U' => ∃ v L, o = .returned v ∧ Q_own_copy0 Z a1 k1 h0 n0 v U'.heap L ∧ FrameEnd U o U' L ({ frames := 1, cells := 1, slots := 1, locals := 40 } : Room).cells ({ frames := 1, cells := 1, slots := 1, locals := 40 } : Room).slots) := by
  refine MetFree.of_bodySF (plainFor_of_name own_pn_own_copy0) hisR ?_
  intro p e s m args below meth c s₁ Bd hml0 hP hK
  obtain ⟨rfl, hZ, hh⟩ := hP
  have hx := Bd.exec
  have hby := Bd.bytes
  have hml : c.maxLocals = 3 := hml0
  have hown : s.vm.findClass "java/util/Arrays" = some m.cls := findClass_of_methodNamed Bd.named
  have hnm := (name_of_methodNamed Bd.named Bd.method).1
  have X0 : Stand p l e ({ frames := 1, cells := 1, slots := 1, locals := 40 } : Room) s m #[(.ref a1), (.int (1 : Int32))] below meth c s₁ [] 0 0 := Stand.of_body Bd
  have e0 : s₁.heap = h0 := by rw [← hh, Bd.state]; rfl
  have N0 := Fr.nil n0
  have pre0 : Goes p e below s₁ (entryFrame m #[(.ref a1), (.int (1 : Int32))] 3) s₁ (mkF m 0 #[.val (.ref a1), .val (.int (1 : Int32)), .unset] []) := fun t k => castTop (own_ef_own_copy0 m a1 (1 : Int32)) k
  have pre1 : Goes p e below s₁ (entryFrame m #[(.ref a1), (.int (1 : Int32))] 3) s₁ (mkF m 2 #[.val (.ref a1), .val (.int (1 : Int32)), .unset] [(.ref a1), (.int (1 : Int32))]) := fun t kt => pre0 t (by
      show Steps p.tables e below (s₁.setTop (mkF m 0 #[.val (.ref a1), .val (.int (1 : Int32)), .unset] [])) _
      refine XS.iloadN X0.here hx rfl (hb hby own_dcp0_0) rfl ?_
      show Steps p.tables e below (s₁.setTop (mkF m 1 #[.val (.ref a1), .val (.int (1 : Int32)), .unset] [(.int (1 : Int32))])) _
      refine XS.aloadN X0.here hx rfl (hb hby own_dcp0_1) rfl rfl ?_
      exact kt)
  obtain ⟨cl2, Ar2, q2, S2, N_2, H2, G2⟩ := (id (V_a1))
  have pre3 : Goes p e below s₁ (entryFrame m #[(.ref a1), (.int (1 : Int32))] 3) s₁ (mkF m 15 #[.val (.ref a1), .val (.int (1 : Int32)), .unset] [(.int (1 : Int32))]) := fun t kt => pre1 t (by
      show Steps p.tables e below (s₁.setTop (mkF m 2 #[.val (.ref a1), .val (.int (1 : Int32)), .unset] [(.ref a1), (.int (1 : Int32))])) _
      refine X0.arraylength hx (by (try rw [e0]); exact Ar2.1) (State.isArrayOf_alike hZ.alike Ar2.2.1) (g := (mkF m 2 #[.val (.ref a1), .val (.int (1 : Int32)), .unset] [(.ref a1), (.int (1 : Int32))])) rfl rfl (hb hby own_dcp0_2) _ ?_
      rw [len_of S2 N_2]
      show Steps p.tables e below (s₁.setTop (mkF m 3 #[.val (.ref a1), .val (.int (1 : Int32)), .unset] [(.int (0 : Int32)), (.int (1 : Int32))])) _
      refine XS.icmpYes X0.here hx rfl (pc0 := 3) (pc' := 14) rfl (hb hby own_dcp0_3) rfl (feq (by decide : ¬ ((1 : Int32) = (0 : Int32)))).2 (by decide) (by decide) ?_
      show Steps p.tables e below (s₁.setTop (mkF m 14 #[.val (.ref a1), .val (.int (1 : Int32)), .unset] [])) _
      refine XS.iloadN X0.here hx rfl (hb hby own_dcp0_14) rfl ?_
      exact kt)
  obtain ⟨T4, h4, k4, X4, e4, E4, A4, XA4, st4⟩ := newPE X0 hx hZ (hw _ (List.mem_of_getElem? (i := 15) rfl)) e0 (g := (mkF m 15 #[.val (.ref a1), .val (.int (1 : Int32)), .unset] [(.int (1 : Int32))])) rfl (hb hby own_dcp0_15) rfl (by decide) (cap := 1) (by decide) (by decide) (by decide) (by decide) (ad := "[I") rfl
  obtain ⟨b4, g4⟩ : ∃ z, z = h0.size := ⟨_, rfl⟩
  rw [← g4] at A4 XA4 st4
  have V_b4 : Arv Z h4 b4 k4 .int (1 : Int32) [(.int (0 : Int32))] (.int (0 : Int32)) := (Arv.new A4 (by decide)).pad (pad_rep [] (.int (0 : Int32)) 1)
  have g_b4 : n0 ≤ b4 := Nat.le_trans Z0 (Nat.le_of_eq g4.symm)
  have sz_b4 : h0.size ≤ b4 := (Nat.le_trans (Keep.refl h0 []).1 (Nat.le_of_eq g4.symm))
  have K4 : Keep h0 h4 [] := (Keep.refl h0 []).ext E4
  have pre5 : Goes p e below s₁ (entryFrame m #[(.ref a1), (.int (1 : Int32))] 3) T4 (mkF m 17 #[.val (.ref a1), .val (.int (1 : Int32)), .unset] [(.ref b4)]) := fun t kt => pre3 t (st4 t kt)
  have pre6 : Goes p e below s₁ (entryFrame m #[(.ref a1), (.int (1 : Int32))] 3) T4 (mkF m 23 #[.val (.ref a1), .val (.int (1 : Int32)), .val (.ref b4)] [(.ref a1), (.int (0 : Int32)), (.ref b4), (.int (0 : Int32)), (.ref a1)]) := fun t kt => pre5 t (by
      show Steps p.tables e below (T4.setTop (mkF m 17 #[.val (.ref a1), .val (.int (1 : Int32)), .unset] [(.ref b4)])) _
      refine XS.astoreN X4.here hx rfl (hb hby own_dcp0_17) rfl rfl (l' := #[.val (.ref a1), .val (.int (1 : Int32)), .val (.ref b4)]) rfl ?_
      show Steps p.tables e below (T4.setTop (mkF m 18 #[.val (.ref a1), .val (.int (1 : Int32)), .val (.ref b4)] [])) _
      refine XS.aloadN X4.here hx rfl (hb hby own_dcp0_18) rfl rfl ?_
      show Steps p.tables e below (T4.setTop (mkF m 19 #[.val (.ref a1), .val (.int (1 : Int32)), .val (.ref b4)] [(.ref a1)])) _
      refine XS.iconst X4.here hx rfl (hb hby own_dcp0_19) ?_
      show Steps p.tables e below (T4.setTop (mkF m 20 #[.val (.ref a1), .val (.int (1 : Int32)), .val (.ref b4)] [(.int (0 : Int32)), (.ref a1)])) _
      refine XS.aloadN X4.here hx rfl (hb hby own_dcp0_20) rfl rfl ?_
      show Steps p.tables e below (T4.setTop (mkF m 21 #[.val (.ref a1), .val (.int (1 : Int32)), .val (.ref b4)] [(.ref b4), (.int (0 : Int32)), (.ref a1)])) _
      refine XS.iconst X4.here hx rfl (hb hby own_dcp0_21) ?_
      show Steps p.tables e below (T4.setTop (mkF m 22 #[.val (.ref a1), .val (.int (1 : Int32)), .val (.ref b4)] [(.int (0 : Int32)), (.ref b4), (.int (0 : Int32)), (.ref a1)])) _
      refine XS.aloadN X4.here hx rfl (hb hby own_dcp0_22) rfl rfl ?_
      exact kt)
  obtain ⟨cl7, Ar7, q7, S7, N_7, H7, G7⟩ := (id ((V_a1.ext E4)))
  have pre8 : Goes p e below s₁ (entryFrame m #[(.ref a1), (.int (1 : Int32))] 3) T4 (mkF m 25 #[.val (.ref a1), .val (.int (1 : Int32)), .val (.ref b4)] [(.int (1 : Int32)), (.int (0 : Int32)), (.int (0 : Int32)), (.ref b4), (.int (0 : Int32)), (.ref a1)]) := fun t kt => pre6 t (by
      show Steps p.tables e below (T4.setTop (mkF m 23 #[.val (.ref a1), .val (.int (1 : Int32)), .val (.ref b4)] [(.ref a1), (.int (0 : Int32)), (.ref b4), (.int (0 : Int32)), (.ref a1)])) _
      refine X4.arraylength hx (by (try rw [e4]); exact Ar7.1) (State.isArrayOf_alike hZ.alike Ar7.2.1) (g := (mkF m 23 #[.val (.ref a1), .val (.int (1 : Int32)), .val (.ref b4)] [(.ref a1), (.int (0 : Int32)), (.ref b4), (.int (0 : Int32)), (.ref a1)])) rfl rfl (hb hby own_dcp0_23) _ ?_
      rw [len_of S7 N_7]
      show Steps p.tables e below (T4.setTop (mkF m 24 #[.val (.ref a1), .val (.int (1 : Int32)), .val (.ref b4)] [(.int (0 : Int32)), (.int (0 : Int32)), (.ref b4), (.int (0 : Int32)), (.ref a1)])) _
      refine XS.iloadN X4.here hx rfl (hb hby own_dcp0_24) rfl ?_
      exact kt)
  obtain ⟨_, _, ⟨T9, L9, k9, n9⟩, -, X9, ⟨Lc9, hQ9, l9, y9, z9⟩, st9⟩ := Jvm.LawKit.callS X4 hx (y := (⟨"java/lang/Math", "min", "(II)I"⟩ : MethodName)) hown (mvT hZ (hw _ (List.mem_of_getElem? (i := 61) rfl))) (mvT hZ (hw _ (List.mem_of_getElem? (i := 62) rfl))) (mvT hZ (hw _ (List.mem_of_getElem? (i := 13) rfl))) (mvT hZ (hw _ (List.mem_of_getElem? (i := 63) rfl))) (by decide) (backOf (W := 4) (own_min0 l Z a0 hw []  h4 n0 (Nat.le_trans Z0 E4.1) ) hZ (hw _ (List.mem_of_getElem? (i := 63) rfl)) (hw _ (List.mem_of_getElem? (i := 13) rfl)) (by decide) (by decide)) (g := (mkF m 25 #[.val (.ref a1), .val (.int (1 : Int32)), .val (.ref b4)] [(.int (1 : Int32)), (.int (0 : Int32)), (.int (0 : Int32)), (.ref b4), (.int (0 : Int32)), (.ref a1)])) rfl (by rw [hml]; rfl) (argsL := [(.int (0 : Int32)), (.int (1 : Int32))]) (rest := [(.int (0 : Int32)), (.ref b4), (.int (0 : Int32)), (.ref a1)]) (lenOf own_pd3 rfl) rfl (by show 2 * 0 + _ ≤ _; exact Nat.le_of_eq rfl) (hb hby own_dcp0_25) (fun _ _ => ⟨rfl, e4, (by decide : 1 + 0 ≤ _), (by decide : 1 + 0 ≤ _)⟩)
  dsimp only [Pt.U, Pt.locs, Pt.cells, Pt.slots] at X9 l9 y9 z9 st9 hQ9
  subst l9 y9 z9
  obtain ⟨rfl, N9q, e9⟩ := hQ9
  have N9 := Fr.app N0 N9q
  have pre10 : Goes p e below s₁ (entryFrame m #[(.ref a1), (.int (1 : Int32))] 3) T9 (mkF m 28 #[.val (.ref a1), .val (.int (1 : Int32)), .val (.ref b4)] [(.int (0 : Int32)), (.int (0 : Int32)), (.ref b4), (.int (0 : Int32)), (.ref a1)]) := fun t kt => pre8 t (st9 t kt)
  obtain ⟨T11, h11, Lc11, X11, e11, N11, K11q, V110, st11⟩ := cpA X9 hx hZ hown (hw _ (List.mem_of_getElem? (i := 64) rfl)) (hw _ (List.mem_of_getElem? (i := 67) rfl)) (hw _ (List.mem_of_getElem? (i := 65) rfl)) (hw _ (List.mem_of_getElem? (i := 66) rfl)) e9 (V_a1.ext E4) V_b4 (us := []) (Or.inl ⟨rfl, rfl⟩) (by decide) (by decide) (by decide) (by decide) (by decide) rfl (by decide) N9 g_b4 (g := (mkF m 28 #[.val (.ref a1), .val (.int (1 : Int32)), .val (.ref b4)] [(.int (0 : Int32)), (.int (0 : Int32)), (.ref b4), (.int (0 : Int32)), (.ref a1)])) rfl (by rw [hml]; rfl) rfl (hb hby own_dcp0_28) (by decide) (W := 0) (by show 2 * 0 + _ ≤ _; exact Nat.le_of_eq rfl) (by decide)
  have V11 : Arv Z h11 b4 k4 .int (1 : Int32) [(.int (0 : Int32))] (.int (0 : Int32)) := V110
  have KC11 : Keep h0 h11 [] := K4.trans K11q (allS (Or.inr sz_b4) all0)
  have pre12 : Goes p e below s₁ (entryFrame m #[(.ref a1), (.int (1 : Int32))] 3) T11 (mkF m 31 #[.val (.ref a1), .val (.int (1 : Int32)), .val (.ref b4)] []) := fun t kt => pre10 t (st11 t kt)
  have pre13 : Goes p e below s₁ (entryFrame m #[(.ref a1), (.int (1 : Int32))] 3) T11 (mkF m 32 #[.val (.ref a1), .val (.int (1 : Int32)), .val (.ref b4)] [(.ref b4)]) := fun t kt => pre12 t (by
      show Steps p.tables e below (T11.setTop (mkF m 31 #[.val (.ref a1), .val (.int (1 : Int32)), .val (.ref b4)] [])) _
      refine XS.aloadN X11.here hx rfl (hb hby own_dcp0_31) rfl rfl ?_
      exact kt)
  obtain ⟨fs, hr, hrun, hended, hW, hsame⟩ := X11.leave (v := some (.ref b4)) (fun h => by rw [Bd.returns] at h; cases h)
  refine ⟨_, _, pre13 _ ?_, hrun, hended, _, _, rfl, ?_, ⟨_, rfl⟩, hW, hsame.mono (by decide) (by decide)⟩
  · show Steps p.tables e below (T11.setTop (mkF m 32 #[.val (.ref a1), .val (.int (1 : Int32)), .val (.ref b4)] [(.ref b4)])) _
    jvm_step X11.here [X11.here.top, hx, (hb hby own_dcp0_32), X11.method', Bd.returns, Value.isRef, FieldType.isReference]
    first | (intro acts; rw [hr _ acts rfl rfl rfl]) | rw [hr _ _ rfl rfl rfl]
    exact Steps.refl _
  · show Q_own_copy0 Z a1 k1 h0 n0 _ T11.heap _
    rw [e11]
    exact ⟨b4, k4, rfl, N11, KC11, sz_b4, g_b4, V11, (XA4.keep K11q)⟩

theorem own_dcp1_0 : decode jdk_65_method_123_code 0 = .ok (.iload_n 1, 1) := by decide +kernel
theorem own_dcp1_1 : decode jdk_65_method_123_code 1 = .ok (.aload_n 0, 1) := by decide +kernel
theorem own_dcp1_2 : decode jdk_65_method_123_code 2 = .ok (.arraylength, 1) := by decide +kernel
theorem own_dcp1_3 : decode jdk_65_method_123_code 3 = .ok (.if_icmp .ne 11, 3) := by decide +kernel
theorem own_dcp1_14 : decode jdk_65_method_123_code 14 = .ok (.iload_n 1, 1) := by decide +kernel
theorem own_dcp1_15 : decode jdk_65_method_123_code 15 = .ok (.newarray .int, 2) := by decide +kernel
theorem own_dcp1_17 : decode jdk_65_method_123_code 17 = .ok (.astore_n 2, 1) := by decide +kernel
theorem own_dcp1_18 : decode jdk_65_method_123_code 18 = .ok (.aload_n 0, 1) := by decide +kernel
theorem own_dcp1_19 : decode jdk_65_method_123_code 19 = .ok (.iconst 0, 1) := by decide +kernel
theorem own_dcp1_20 : decode jdk_65_method_123_code 20 = .ok (.aload_n 2, 1) := by decide +kernel
theorem own_dcp1_21 : decode jdk_65_method_123_code 21 = .ok (.iconst 0, 1) := by decide +kernel
theorem own_dcp1_22 : decode jdk_65_method_123_code 22 = .ok (.aload_n 0, 1) := by decide +kernel
theorem own_dcp1_23 : decode jdk_65_method_123_code 23 = .ok (.arraylength, 1) := by decide +kernel
theorem own_dcp1_24 : decode jdk_65_method_123_code 24 = .ok (.iload_n 1, 1) := by decide +kernel
theorem own_dcp1_25 : decode jdk_65_method_123_code 25 = .ok (.invokestatic 304, 3) := by decide +kernel
theorem own_dcp1_28 : decode jdk_65_method_123_code 28 = .ok (.invokestatic 150, 3) := by decide +kernel
theorem own_dcp1_31 : decode jdk_65_method_123_code 31 = .ok (.aload_n 2, 1) := by decide +kernel
theorem own_dcp1_32 : decode jdk_65_method_123_code 32 = .ok (.areturn, 1) := by decide +kernel
theorem own_pn_own_copy1 : plainName "java/util/Arrays" = true := by first | (simp [plainName, overriddenIn]; done) | decide +kernel
theorem own_ef_own_copy1 (m : MethodId) (x0 : Addr) (x1 : Int32) : entryFrame m #[(.ref x0), (.int x1)] 3 = mkF m 0 #[.val (.ref x0), .val (.int x1), .unset] [] := by first | (simp [entryFrame, mkF, argsToLocals, Value.category]; done) | rfl
def Q_own_copy1 (Z : State) (a1 : Addr) (k1 : ClassId) (iv0 : Int32) (h0 : Heap) (n0 : Nat) (v : Option Value) (h : Heap) (L : List Loc) : Prop := ∃ (y : Addr) (ky : ClassId), v = some (.ref y) ∧ Fr n0 L ∧ Keep h0 h [] ∧ h0.size ≤ y ∧ n0 ≤ y ∧ Arv Z h y ky .int (2 : Int32) [(.int iv0), (.int (0 : Int32))] (.int (0 : Int32)) ∧ Exa Z h y "[I"
set_option maxRecDepth 65536 in
set_option maxHeartbeats 40000000 in
theorem own_copy1 (l : Launch) (Z : State) (a0 : Array Value) (hw : ∀ d ∈ tables_1, d.before a0 Z = true) (ws : List Jvm.Cond) (a1 : Addr) (k1 : ClassId) (iv0 : Int32) (h0 : Heap) (n0 : Nat) (Z0 : n0 ≤ h0.size) (V_a1 : Arv Z h0 a1 k1 .int (1 : Int32) [(.int iv0)] (.int (0 : Int32))) :
    MetFree l (⟨"java/util/Arrays", "copyOf", "([II)[I"⟩ : MethodName) (head1 (Jvm.Cond.code (⟨"java/util/Arrays", "copyOf", "([II)[I"⟩ : MethodName) jdk_65_method_123_code 3 (some (.array .int)) :: ws) ({ frames := 1, cells := 1, slots := 2, locals := 40 } : Room)) (fun a U => a = #[(.ref a1), (.int (2 : Int32))] ∧ Z.Warmed39 U.vm ∧ U.heap = h0) (fun _ _ _ _ _ => True) (fun _ U o U' => ∃ v L, o = .returned v ∧ Q_own_copy1 Z a1 k1 iv0 h0 n0 v U'.heap L ∧ FrameEnd U o U' L ({ frames := 1, cells := 1, slots := 2, locals := 40 } : Room).cells ({ frames := 1, cells := 1, slots := 2, locals := 40 } : Room).slots) := by
  refine MetFree.of_bodySF (plainFor_of_name own_pn_own_copy1) hisR ?_
  intro p e s m args below meth c s₁ Bd hml0 hP hK
  obtain ⟨rfl, hZ, hh⟩ := hP
  have hx := Bd.exec
  have hby := Bd.bytes
  have hml : c.maxLocals = 3 := hml0
  have hown : s.vm.findClass "java/util/Arrays" = some m.cls := findClass_of_methodNamed Bd.named
  have hnm := (name_of_methodNamed Bd.named Bd.method).1
  have X0 : Stand p l e ({ frames := 1, cells := 1, slots := 2, locals := 40 } : Room) s m #[(.ref a1), (.int (2 : Int32))] below meth c s₁ [] 0 0 := Stand.of_body Bd
  have e0 : s₁.heap = h0 := by rw [← hh, Bd.state]; rfl
  have N0 := Fr.nil n0
  have pre0 : Goes p e below s₁ (entryFrame m #[(.ref a1), (.int (2 : Int32))] 3) s₁ (mkF m 0 #[.val (.ref a1), .val (.int (2 : Int32)), .unset] []) := fun t k => castTop (own_ef_own_copy1 m a1 (2 : Int32)) k
  have pre1 : Goes p e below s₁ (entryFrame m #[(.ref a1), (.int (2 : Int32))] 3) s₁ (mkF m 2 #[.val (.ref a1), .val (.int (2 : Int32)), .unset] [(.ref a1), (.int (2 : Int32))]) := fun t kt => pre0 t (by
      show Steps p.tables e below (s₁.setTop (mkF m 0 #[.val (.ref a1), .val (.int (2 : Int32)), .unset] [])) _
      refine XS.iloadN X0.here hx rfl (hb hby own_dcp1_0) rfl ?_
      show Steps p.tables e below (s₁.setTop (mkF m 1 #[.val (.ref a1), .val (.int (2 : Int32)), .unset] [(.int (2 : Int32))])) _
      refine XS.aloadN X0.here hx rfl (hb hby own_dcp1_1) rfl rfl ?_
      exact kt)
  obtain ⟨cl2, Ar2, q2, S2, N_2, H2, G2⟩ := (id (V_a1))
  have pre3 : Goes p e below s₁ (entryFrame m #[(.ref a1), (.int (2 : Int32))] 3) s₁ (mkF m 15 #[.val (.ref a1), .val (.int (2 : Int32)), .unset] [(.int (2 : Int32))]) := fun t kt => pre1 t (by
      show Steps p.tables e below (s₁.setTop (mkF m 2 #[.val (.ref a1), .val (.int (2 : Int32)), .unset] [(.ref a1), (.int (2 : Int32))])) _
      refine X0.arraylength hx (by (try rw [e0]); exact Ar2.1) (State.isArrayOf_alike hZ.alike Ar2.2.1) (g := (mkF m 2 #[.val (.ref a1), .val (.int (2 : Int32)), .unset] [(.ref a1), (.int (2 : Int32))])) rfl rfl (hb hby own_dcp1_2) _ ?_
      rw [len_of S2 N_2]
      show Steps p.tables e below (s₁.setTop (mkF m 3 #[.val (.ref a1), .val (.int (2 : Int32)), .unset] [(.int (1 : Int32)), (.int (2 : Int32))])) _
      refine XS.icmpYes X0.here hx rfl (pc0 := 3) (pc' := 14) rfl (hb hby own_dcp1_3) rfl (feq (by decide : ¬ ((2 : Int32) = (1 : Int32)))).2 (by decide) (by decide) ?_
      show Steps p.tables e below (s₁.setTop (mkF m 14 #[.val (.ref a1), .val (.int (2 : Int32)), .unset] [])) _
      refine XS.iloadN X0.here hx rfl (hb hby own_dcp1_14) rfl ?_
      exact kt)
  obtain ⟨T4, h4, k4, X4, e4, E4, A4, XA4, st4⟩ := newPE X0 hx hZ (hw _ (List.mem_of_getElem? (i := 15) rfl)) e0 (g := (mkF m 15 #[.val (.ref a1), .val (.int (2 : Int32)), .unset] [(.int (2 : Int32))])) rfl (hb hby own_dcp1_15) rfl (by decide) (cap := 2) (by decide) (by decide) (by decide) (by decide) (ad := "[I") rfl
  obtain ⟨b4, g4⟩ : ∃ z, z = h0.size := ⟨_, rfl⟩
  rw [← g4] at A4 XA4 st4
  have V_b4 : Arv Z h4 b4 k4 .int (2 : Int32) [(.int (0 : Int32)), (.int (0 : Int32))] (.int (0 : Int32)) := (Arv.new A4 (by decide)).pad (pad_rep [] (.int (0 : Int32)) 2)
  have g_b4 : n0 ≤ b4 := Nat.le_trans Z0 (Nat.le_of_eq g4.symm)
  have sz_b4 : h0.size ≤ b4 := (Nat.le_trans (Keep.refl h0 []).1 (Nat.le_of_eq g4.symm))
  have K4 : Keep h0 h4 [] := (Keep.refl h0 []).ext E4
  have pre5 : Goes p e below s₁ (entryFrame m #[(.ref a1), (.int (2 : Int32))] 3) T4 (mkF m 17 #[.val (.ref a1), .val (.int (2 : Int32)), .unset] [(.ref b4)]) := fun t kt => pre3 t (st4 t kt)
  have pre6 : Goes p e below s₁ (entryFrame m #[(.ref a1), (.int (2 : Int32))] 3) T4 (mkF m 23 #[.val (.ref a1), .val (.int (2 : Int32)), .val (.ref b4)] [(.ref a1), (.int (0 : Int32)), (.ref b4), (.int (0 : Int32)), (.ref a1)]) := fun t kt => pre5 t (by
      show Steps p.tables e below (T4.setTop (mkF m 17 #[.val (.ref a1), .val (.int (2 : Int32)), .unset] [(.ref b4)])) _
      refine XS.astoreN X4.here hx rfl (hb hby own_dcp1_17) rfl rfl (l' := #[.val (.ref a1), .val (.int (2 : Int32)), .val (.ref b4)]) rfl ?_
      show Steps p.tables e below (T4.setTop (mkF m 18 #[.val (.ref a1), .val (.int (2 : Int32)), .val (.ref b4)] [])) _
      refine XS.aloadN X4.here hx rfl (hb hby own_dcp1_18) rfl rfl ?_
      show Steps p.tables e below (T4.setTop (mkF m 19 #[.val (.ref a1), .val (.int (2 : Int32)), .val (.ref b4)] [(.ref a1)])) _
      refine XS.iconst X4.here hx rfl (hb hby own_dcp1_19) ?_
      show Steps p.tables e below (T4.setTop (mkF m 20 #[.val (.ref a1), .val (.int (2 : Int32)), .val (.ref b4)] [(.int (0 : Int32)), (.ref a1)])) _
      refine XS.aloadN X4.here hx rfl (hb hby own_dcp1_20) rfl rfl ?_
      show Steps p.tables e below (T4.setTop (mkF m 21 #[.val (.ref a1), .val (.int (2 : Int32)), .val (.ref b4)] [(.ref b4), (.int (0 : Int32)), (.ref a1)])) _
      refine XS.iconst X4.here hx rfl (hb hby own_dcp1_21) ?_
      show Steps p.tables e below (T4.setTop (mkF m 22 #[.val (.ref a1), .val (.int (2 : Int32)), .val (.ref b4)] [(.int (0 : Int32)), (.ref b4), (.int (0 : Int32)), (.ref a1)])) _
      refine XS.aloadN X4.here hx rfl (hb hby own_dcp1_22) rfl rfl ?_
      exact kt)
  obtain ⟨cl7, Ar7, q7, S7, N_7, H7, G7⟩ := (id ((V_a1.ext E4)))
  have pre8 : Goes p e below s₁ (entryFrame m #[(.ref a1), (.int (2 : Int32))] 3) T4 (mkF m 25 #[.val (.ref a1), .val (.int (2 : Int32)), .val (.ref b4)] [(.int (2 : Int32)), (.int (1 : Int32)), (.int (0 : Int32)), (.ref b4), (.int (0 : Int32)), (.ref a1)]) := fun t kt => pre6 t (by
      show Steps p.tables e below (T4.setTop (mkF m 23 #[.val (.ref a1), .val (.int (2 : Int32)), .val (.ref b4)] [(.ref a1), (.int (0 : Int32)), (.ref b4), (.int (0 : Int32)), (.ref a1)])) _
      refine X4.arraylength hx (by (try rw [e4]); exact Ar7.1) (State.isArrayOf_alike hZ.alike Ar7.2.1) (g := (mkF m 23 #[.val (.ref a1), .val (.int (2 : Int32)), .val (.ref b4)] [(.ref a1), (.int (0 : Int32)), (.ref b4), (.int (0 : Int32)), (.ref a1)])) rfl rfl (hb hby own_dcp1_23) _ ?_
      rw [len_of S7 N_7]
      show Steps p.tables e below (T4.setTop (mkF m 24 #[.val (.ref a1), .val (.int (2 : Int32)), .val (.ref b4)] [(.int (1 : Int32)), (.int (0 : Int32)), (.ref b4), (.int (0 : Int32)), (.ref a1)])) _
      refine XS.iloadN X4.here hx rfl (hb hby own_dcp1_24) rfl ?_
      exact kt)
  obtain ⟨_, _, ⟨T9, L9, k9, n9⟩, -, X9, ⟨Lc9, hQ9, l9, y9, z9⟩, st9⟩ := Jvm.LawKit.callS X4 hx (y := (⟨"java/lang/Math", "min", "(II)I"⟩ : MethodName)) hown (mvT hZ (hw _ (List.mem_of_getElem? (i := 61) rfl))) (mvT hZ (hw _ (List.mem_of_getElem? (i := 62) rfl))) (mvT hZ (hw _ (List.mem_of_getElem? (i := 13) rfl))) (mvT hZ (hw _ (List.mem_of_getElem? (i := 63) rfl))) (by decide) (backOf (W := 4) (own_min1 l Z a0 hw []  h4 n0 (Nat.le_trans Z0 E4.1) ) hZ (hw _ (List.mem_of_getElem? (i := 63) rfl)) (hw _ (List.mem_of_getElem? (i := 13) rfl)) (by decide) (by decide)) (g := (mkF m 25 #[.val (.ref a1), .val (.int (2 : Int32)), .val (.ref b4)] [(.int (2 : Int32)), (.int (1 : Int32)), (.int (0 : Int32)), (.ref b4), (.int (0 : Int32)), (.ref a1)])) rfl (by rw [hml]; rfl) (argsL := [(.int (1 : Int32)), (.int (2 : Int32))]) (rest := [(.int (0 : Int32)), (.ref b4), (.int (0 : Int32)), (.ref a1)]) (lenOf own_pd3 rfl) rfl (by show 2 * 0 + _ ≤ _; exact Nat.le_of_eq rfl) (hb hby own_dcp1_25) (fun _ _ => ⟨rfl, e4, (by decide : 1 + 0 ≤ _), (by decide : 2 + 0 ≤ _)⟩)
  dsimp only [Pt.U, Pt.locs, Pt.cells, Pt.slots] at X9 l9 y9 z9 st9 hQ9
  subst l9 y9 z9
  obtain ⟨rfl, N9q, e9⟩ := hQ9
  have N9 := Fr.app N0 N9q
  have pre10 : Goes p e below s₁ (entryFrame m #[(.ref a1), (.int (2 : Int32))] 3) T9 (mkF m 28 #[.val (.ref a1), .val (.int (2 : Int32)), .val (.ref b4)] [(.int (1 : Int32)), (.int (0 : Int32)), (.ref b4), (.int (0 : Int32)), (.ref a1)]) := fun t kt => pre8 t (st9 t kt)
  obtain ⟨T11, h11, Lc11, X11, e11, N11, K11q, V110, st11⟩ := cpA X9 hx hZ hown (hw _ (List.mem_of_getElem? (i := 64) rfl)) (hw _ (List.mem_of_getElem? (i := 67) rfl)) (hw _ (List.mem_of_getElem? (i := 65) rfl)) (hw _ (List.mem_of_getElem? (i := 66) rfl)) e9 (V_a1.ext E4) V_b4 (us := [(.int iv0)]) (Or.inl ⟨rfl, rfl⟩) (by decide) (by decide) (by decide) (by decide) (by decide) rfl (by decide) N9 g_b4 (g := (mkF m 28 #[.val (.ref a1), .val (.int (2 : Int32)), .val (.ref b4)] [(.int (1 : Int32)), (.int (0 : Int32)), (.ref b4), (.int (0 : Int32)), (.ref a1)])) rfl (by rw [hml]; rfl) rfl (hb hby own_dcp1_28) (by decide) (W := 0) (by show 2 * 0 + _ ≤ _; exact Nat.le_of_eq rfl) (by decide)
  have V11 : Arv Z h11 b4 k4 .int (2 : Int32) [(.int iv0), (.int (0 : Int32))] (.int (0 : Int32)) := V110
  have KC11 : Keep h0 h11 [] := K4.trans K11q (allS (Or.inr sz_b4) all0)
  have pre12 : Goes p e below s₁ (entryFrame m #[(.ref a1), (.int (2 : Int32))] 3) T11 (mkF m 31 #[.val (.ref a1), .val (.int (2 : Int32)), .val (.ref b4)] []) := fun t kt => pre10 t (st11 t kt)
  have pre13 : Goes p e below s₁ (entryFrame m #[(.ref a1), (.int (2 : Int32))] 3) T11 (mkF m 32 #[.val (.ref a1), .val (.int (2 : Int32)), .val (.ref b4)] [(.ref b4)]) := fun t kt => pre12 t (by
      show Steps p.tables e below (T11.setTop (mkF m 31 #[.val (.ref a1), .val (.int (2 : Int32)), .val (.ref b4)] [])) _
      refine XS.aloadN X11.here hx rfl (hb hby own_dcp1_31) rfl rfl ?_
      exact kt)
  obtain ⟨fs, hr, hrun, hended, hW, hsame⟩ := X11.leave (v := some (.ref b4)) (fun h => by rw [Bd.returns] at h; cases h)
  refine ⟨_, _, pre13 _ ?_, hrun, hended, _, _, rfl, ?_, ⟨_, rfl⟩, hW, hsame.mono (by decide) (by decide)⟩
  · show Steps p.tables e below (T11.setTop (mkF m 32 #[.val (.ref a1), .val (.int (2 : Int32)), .val (.ref b4)] [(.ref b4)])) _
    jvm_step X11.here [X11.here.top, hx, (hb hby own_dcp1_32), X11.method', Bd.returns, Value.isRef, FieldType.isReference]
    first | (intro acts; rw [hr _ acts rfl rfl rfl]) | rw [hr _ _ rfl rfl rfl]
    exact Steps.refl _
  · show Q_own_copy1 Z a1 k1 iv0 h0 n0 _ T11.heap _
    rw [e11]
    exact ⟨b4, k4, rfl, N11, KC11, sz_b4, g_b4, V11, (XA4.keep K11q)⟩

theorem own_dtag0_0 : decode prog_26_method_7_code 0 = .ok (.aload_n 0, 1) := by decide +kernel
theorem own_dtag0_1 : decode prog_26_method_7_code 1 = .ok (.getfield 27, 3) := by decide +kernel
theorem own_dtag0_4 : decode prog_26_method_7_code 4 = .ok (.iload_n 1, 1) := by decide +kernel
theorem own_dtag0_5 : decode prog_26_method_7_code 5 = .ok (.aaload, 1) := by decide +kernel
theorem own_dtag0_6 : decode prog_26_method_7_code 6 = .ok (.ifnonnull 9, 3) := by decide +kernel
theorem own_dtag0_9 : decode prog_26_method_7_code 9 = .ok (.getstatic 38, 3) := by decide +kernel
theorem own_dtag0_12 : decode prog_26_method_7_code 12 = .ok (.goto 9, 3) := by decide +kernel
theorem own_dtag0_21 : decode prog_26_method_7_code 21 = .ok (.astore_n 3, 1) := by decide +kernel
theorem own_dtag0_22 : decode prog_26_method_7_code 22 = .ok (.aload_n 3, 1) := by decide +kernel
theorem own_dtag0_23 : decode prog_26_method_7_code 23 = .ok (.aload_n 3, 1) := by decide +kernel
theorem own_dtag0_24 : decode prog_26_method_7_code 24 = .ok (.arraylength, 1) := by decide +kernel
theorem own_dtag0_25 : decode prog_26_method_7_code 25 = .ok (.iconst 1, 1) := by decide +kernel
theorem own_dtag0_26 : decode prog_26_method_7_code 26 = .ok (.iadd, 1) := by decide +kernel
theorem own_dtag0_27 : decode prog_26_method_7_code 27 = .ok (.invokestatic 41, 3) := by decide +kernel
theorem own_dtag0_30 : decode prog_26_method_7_code 30 = .ok (.astore 4, 2) := by decide +kernel
theorem own_dtag0_32 : decode prog_26_method_7_code 32 = .ok (.aload 4, 2) := by decide +kernel
theorem own_dtag0_34 : decode prog_26_method_7_code 34 = .ok (.aload_n 3, 1) := by decide +kernel
theorem own_dtag0_35 : decode prog_26_method_7_code 35 = .ok (.arraylength, 1) := by decide +kernel
theorem own_dtag0_36 : decode prog_26_method_7_code 36 = .ok (.iload_n 2, 1) := by decide +kernel
theorem own_dtag0_37 : decode prog_26_method_7_code 37 = .ok (.iastore, 1) := by decide +kernel
theorem own_dtag0_38 : decode prog_26_method_7_code 38 = .ok (.aload_n 0, 1) := by decide +kernel
theorem own_dtag0_39 : decode prog_26_method_7_code 39 = .ok (.getfield 27, 3) := by decide +kernel
theorem own_dtag0_42 : decode prog_26_method_7_code 42 = .ok (.iload_n 1, 1) := by decide +kernel
theorem own_dtag0_43 : decode prog_26_method_7_code 43 = .ok (.aload 4, 2) := by decide +kernel
theorem own_dtag0_45 : decode prog_26_method_7_code 45 = .ok (.aastore, 1) := by decide +kernel
theorem own_dtag0_46 : decode prog_26_method_7_code 46 = .ok (.return_, 1) := by decide +kernel
theorem own_pn_own_tag0 : plainName "com/example/unicept/unicept/WordTrie" = true := by first | (simp [plainName, overriddenIn]; done) | decide +kernel
theorem own_ef_own_tag0 (m : MethodId) (x0 : Addr) (x1 : Int32) (x2 : Int32) : entryFrame m #[(.ref x0), (.int x1), (.int x2)] 5 = mkF m 0 #[.val (.ref x0), .val (.int x1), .val (.int x2), .unset, .unset] [] := by first | (simp [entryFrame, mkF, argsToLocals, Value.category]; done) | rfl
def Q_own_tag0 (Z : State) (a1 : Addr) (r : Nat) (k : Nat) (ch : Addr) (f : Nat → Int32) (rt : Addr) (gg : Nat → Int32) (tg : Addr) (kt : ClassId) (vts : List Value) (nd : Int32) (p2 : Int32) (nt : Addr) (ko : ClassId) (h0 : Heap) (n0 : Nat) (v : Option Value) (h : Heap) (L : List Loc) : Prop := v = none ∧ Fr n0 L ∧ Keep h0 h [tg] ∧ ∃ (y : Addr) (ky : ClassId), h0.size ≤ y ∧ n0 ≤ y ∧ y ≠ tg ∧ Arv Z h y ky .int (1 : Int32) [(.int p2)] (.int (0 : Int32)) ∧ own_TR Z h n0 a1 r k ch f rt gg tg kt (vts.set nd.toNatClampNeg (.ref y))
set_option maxRecDepth 65536 in
set_option maxHeartbeats 40000000 in
theorem own_tag0 (l : Launch) (Z : State) (a0 : Array Value) (hw : ∀ d ∈ tables_1, d.before a0 Z = true) (ws : List Jvm.Cond) (a1 : Addr) (r : Nat) (k : Nat) (ch : Addr) (f : Nat → Int32) (rt : Addr) (gg : Nat → Int32) (tg : Addr) (kt : ClassId) (vts : List Value) (nd : Int32) (p2 : Int32) (nt : Addr) (ko : ClassId) (h0 : Heap) (n0 : Nat) (Z0 : n0 ≤ h0.size) (hT : own_TR Z h0 n0 a1 r k ch f rt gg tg kt vts) (Ov : OvrA Z kt .int "[I") (hnd : ¬ nd < 0 ∧ nd < (16 : Int32)) (hl : nd.toNatClampNeg < vts.length) (hv : vts.getD nd.toNatClampNeg .null = .null) (V_o : Arv Z h0 nt ko .int (0 : Int32) [] (.int (0 : Int32))) (S_NT : Sta Z h0 "com/example/unicept/unicept/WordTrie" "NO_TAGS" "[I" (.ref nt)) :
    MetFree l (⟨"com/example/unicept/unicept/WordTrie", "tag", "(II)V"⟩ : MethodName) (head1 (Jvm.Cond.code (⟨"com/example/unicept/unicept/WordTrie", "tag", "(II)V"⟩ : MethodName) prog_26_method_7_code 5 none :: ws) ({ frames := 2, cells := 1, slots := 1, locals := 54 } : Room)) (fun a U => a = #[(.ref a1), (.int nd), (.int p2)] ∧ Z.Warmed39 U.vm ∧ U.heap = h0) (fun _ _ _ _ _ => True) (fun _ U o U' => ∃ v L, o = .returned v ∧ Q_own_tag0 Z a1 r k ch f rt gg tg kt vts nd p2 nt ko h0 n0 v U'.heap L ∧ FrameEnd U o U' L ({ frames := 2, cells := 1, slots := 1, locals := 54 } : Room).cells ({ frames := 2, cells := 1, slots := 1, locals := 54 } : Room).slots) := by
  refine MetFree.of_bodySF (plainFor_of_name own_pn_own_tag0) hisR ?_
  intro p e s m args below meth c s₁ Bd hml0 hP hK
  obtain ⟨rfl, hZ, hh⟩ := hP
  have hx := Bd.exec
  have hby := Bd.bytes
  have hml : c.maxLocals = 5 := hml0
  have hown : s.vm.findClass "com/example/unicept/unicept/WordTrie" = some m.cls := findClass_of_methodNamed Bd.named
  have hnm := (name_of_methodNamed Bd.named Bd.method).1
  have X0 : Stand p l e ({ frames := 2, cells := 1, slots := 1, locals := 54 } : Room) s m #[(.ref a1), (.int nd), (.int p2)] below meth c s₁ [] 0 0 := Stand.of_body Bd
  have e0 : s₁.heap = h0 := by rw [← hh, Bd.state]; rfl
  have N0 := Fr.nil n0
  have pre0 : Goes p e below s₁ (entryFrame m #[(.ref a1), (.int nd), (.int p2)] 5) s₁ (mkF m 0 #[.val (.ref a1), .val (.int nd), .val (.int p2), .unset, .unset] []) := fun t k => castTop (own_ef_own_tag0 m a1 nd p2) k
  obtain ⟨E_a1, F_roles, F_children, F_roots, F_tags, F_size, V_ch, V_rt, V_tg, g_a1, g_ch, g_rt, g_tg, nac, nar, nat, ncr, nct, nrt⟩ := hT
  have pre1 : Goes p e below s₁ (entryFrame m #[(.ref a1), (.int nd), (.int p2)] 5) s₁ (mkF m 1 #[.val (.ref a1), .val (.int nd), .val (.int p2), .unset, .unset] [(.ref a1)]) := fun t kt => pre0 t (by
      show Steps p.tables e below (s₁.setTop (mkF m 0 #[.val (.ref a1), .val (.int nd), .val (.int p2), .unset, .unset] [])) _
      refine XS.aloadN X0.here hx rfl (hb hby own_dtag0_0) rfl rfl ?_
      exact kt)
  obtain ⟨T2, X2, e2, st2⟩ := getF X0 hx hZ hown (host := "") (Or.inl (hw _ (List.mem_of_getElem? (i := 22) rfl))) Via.refl e0 F_tags (g := (mkF m 1 #[.val (.ref a1), .val (.int nd), .val (.int p2), .unset, .unset] [(.ref a1)])) rfl rfl (hb hby own_dtag0_1)
  have pre3 : Goes p e below s₁ (entryFrame m #[(.ref a1), (.int nd), (.int p2)] 5) T2 (mkF m 4 #[.val (.ref a1), .val (.int nd), .val (.int p2), .unset, .unset] [(.ref tg)]) := fun t kt => pre1 t (st2 t kt)
  have pre4 : Goes p e below s₁ (entryFrame m #[(.ref a1), (.int nd), (.int p2)] 5) T2 (mkF m 5 #[.val (.ref a1), .val (.int nd), .val (.int p2), .unset, .unset] [(.int nd), (.ref tg)]) := fun t kt => pre3 t (by
      show Steps p.tables e below (T2.setTop (mkF m 4 #[.val (.ref a1), .val (.int nd), .val (.int p2), .unset, .unset] [(.ref tg)])) _
      refine XS.iloadN X2.here hx rfl (hb hby own_dtag0_4) rfl ?_
      exact kt)
  obtain ⟨cl5, Ar5, q5, S5, N_5, H5, G5⟩ := (id (V_tg))
  have hin5 : ¬ (nd < 0 ∨ cl5.slots.size ≤ nd.toNatClampNeg) := inb_of S5 hnd
  have hat5 : cl5.slots[nd.toNatClampNeg]? = some .null := Has.at H5 hin5 hv
  have pre6 : Goes p e below s₁ (entryFrame m #[(.ref a1), (.int nd), (.int p2)] 5) T2 (mkF m 9 #[.val (.ref a1), .val (.int nd), .val (.int p2), .unset, .unset] []) := fun t kt => pre4 t (by
      show Steps p.tables e below (T2.setTop (mkF m 5 #[.val (.ref a1), .val (.int nd), .val (.int p2), .unset, .unset] [(.int nd), (.ref tg)])) _
      refine X2.aaload hx (j := nd) (v := .null) (by (try rw [e2]); exact Ar5.1) (State.isArrayOf_alike hZ.alike Ar5.2.1) rfl Ar5.2.2 hin5 hat5 (g := (mkF m 5 #[.val (.ref a1), .val (.int nd), .val (.int p2), .unset, .unset] [(.int nd), (.ref tg)])) rfl rfl (hb hby own_dtag0_5) _ ?_
      show Steps p.tables e below (T2.setTop (mkF m 6 #[.val (.ref a1), .val (.int nd), .val (.int p2), .unset, .unset] [.null])) _
      refine XS.ifnonnullNo X2.here hx rfl (hb hby own_dtag0_6) rfl ?_
      exact kt)
  obtain ⟨T7, X7, e7, st7⟩ := getS2 X2 hx hZ hown (host := "") (Or.inl (hw _ (List.mem_of_getElem? (i := 47) rfl))) Via.refl e2 S_NT (g := (mkF m 9 #[.val (.ref a1), .val (.int nd), .val (.int p2), .unset, .unset] [])) rfl (hb hby own_dtag0_9)
  have pre8 : Goes p e below s₁ (entryFrame m #[(.ref a1), (.int nd), (.int p2)] 5) T7 (mkF m 12 #[.val (.ref a1), .val (.int nd), .val (.int p2), .unset, .unset] [(.ref nt)]) := fun t kt => pre6 t (st7 t kt)
  have pre9 : Goes p e below s₁ (entryFrame m #[(.ref a1), (.int nd), (.int p2)] 5) T7 (mkF m 24 #[.val (.ref a1), .val (.int nd), .val (.int p2), .val (.ref nt), .unset] [(.ref nt), (.ref nt)]) := fun t kt => pre8 t (by
      show Steps p.tables e below (T7.setTop (mkF m 12 #[.val (.ref a1), .val (.int nd), .val (.int p2), .unset, .unset] [(.ref nt)])) _
      refine XS.goto X7.here hx rfl (pc0 := 12) (pc' := 21) rfl (hb hby own_dtag0_12) (by decide) (by decide) ?_
      show Steps p.tables e below (T7.setTop (mkF m 21 #[.val (.ref a1), .val (.int nd), .val (.int p2), .unset, .unset] [(.ref nt)])) _
      refine XS.astoreN X7.here hx rfl (hb hby own_dtag0_21) rfl rfl (l' := #[.val (.ref a1), .val (.int nd), .val (.int p2), .val (.ref nt), .unset]) rfl ?_
      show Steps p.tables e below (T7.setTop (mkF m 22 #[.val (.ref a1), .val (.int nd), .val (.int p2), .val (.ref nt), .unset] [])) _
      refine XS.aloadN X7.here hx rfl (hb hby own_dtag0_22) rfl rfl ?_
      show Steps p.tables e below (T7.setTop (mkF m 23 #[.val (.ref a1), .val (.int nd), .val (.int p2), .val (.ref nt), .unset] [(.ref nt)])) _
      refine XS.aloadN X7.here hx rfl (hb hby own_dtag0_23) rfl rfl ?_
      exact kt)
  obtain ⟨cl10, Ar10, q10, S10, N_10, H10, G10⟩ := (id (V_o))
  have pre11 : Goes p e below s₁ (entryFrame m #[(.ref a1), (.int nd), (.int p2)] 5) T7 (mkF m 27 #[.val (.ref a1), .val (.int nd), .val (.int p2), .val (.ref nt), .unset] [(.int (1 : Int32)), (.ref nt)]) := fun t kt => pre9 t (by
      show Steps p.tables e below (T7.setTop (mkF m 24 #[.val (.ref a1), .val (.int nd), .val (.int p2), .val (.ref nt), .unset] [(.ref nt), (.ref nt)])) _
      refine X7.arraylength hx (by (try rw [e7]); exact Ar10.1) (State.isArrayOf_alike hZ.alike Ar10.2.1) (g := (mkF m 24 #[.val (.ref a1), .val (.int nd), .val (.int p2), .val (.ref nt), .unset] [(.ref nt), (.ref nt)])) rfl rfl (hb hby own_dtag0_24) _ ?_
      rw [len_of S10 N_10]
      show Steps p.tables e below (T7.setTop (mkF m 25 #[.val (.ref a1), .val (.int nd), .val (.int p2), .val (.ref nt), .unset] [(.int (0 : Int32)), (.ref nt)])) _
      refine XS.iconst X7.here hx rfl (hb hby own_dtag0_25) ?_
      show Steps p.tables e below (T7.setTop (mkF m 26 #[.val (.ref a1), .val (.int nd), .val (.int p2), .val (.ref nt), .unset] [(.int (1 : Int32)), (.int (0 : Int32)), (.ref nt)])) _
      refine XS.iadd X7.here hx rfl (hb hby own_dtag0_26) rfl ?_
      exact kt)
  obtain ⟨_, _, ⟨T12, L12, k12, n12⟩, -, X12, ⟨Lc12, hQ12, l12, y12, z12⟩, st12⟩ := Jvm.LawKit.callS X7 hx (y := (⟨"java/util/Arrays", "copyOf", "([II)[I"⟩ : MethodName)) hown (mvT hZ (hw _ (List.mem_of_getElem? (i := 58) rfl))) (mvT hZ (hw _ (List.mem_of_getElem? (i := 59) rfl))) (mvT hZ (hw _ (List.mem_of_getElem? (i := 37) rfl))) (mvT hZ (hw _ (List.mem_of_getElem? (i := 60) rfl))) (by decide) (backOf (W := 0) (own_copy0 l Z a0 hw [] nt ko  h0 n0 Z0 V_o) hZ (hw _ (List.mem_of_getElem? (i := 60) rfl)) (hw _ (List.mem_of_getElem? (i := 37) rfl)) (by decide) (by decide)) (g := (mkF m 27 #[.val (.ref a1), .val (.int nd), .val (.int p2), .val (.ref nt), .unset] [(.int (1 : Int32)), (.ref nt)])) rfl (by rw [hml]; rfl) (argsL := [(.ref nt), (.int (1 : Int32))]) (rest := []) (lenOf own_pd4 rfl) rfl (by show 2 * 0 + _ ≤ _; exact Nat.le_of_eq rfl) (hb hby own_dtag0_27) (fun _ _ => ⟨rfl, e7, (by decide : 0 + 1 ≤ _), (by decide : 0 + 1 ≤ _)⟩)
  dsimp only [Pt.U, Pt.locs, Pt.cells, Pt.slots] at X12 l12 y12 z12 st12 hQ12
  subst l12 y12 z12
  obtain ⟨yy12, ky12, rfl, N12q, K12q, zy12, gy12, Vy12, Ey12⟩ := hQ12
  have N12 := Fr.app N0 N12q
  have KC12 : Keep h0 T12.heap [tg] := (Keep.refl h0 [tg]).trans K12q all0
  have pre13 : Goes p e below s₁ (entryFrame m #[(.ref a1), (.int nd), (.int p2)] 5) T12 (mkF m 30 #[.val (.ref a1), .val (.int nd), .val (.int p2), .val (.ref nt), .unset] [(.ref yy12)]) := fun t kt => pre11 t (st12 t kt)
  have g_yy12 := gy12
  have sz_yy12 := zy12
  have ny12 : yy12 ≠ tg := Ne.symm (Nat.ne_of_lt (Nat.lt_of_lt_of_le V_tg.lt zy12))
  have pre14 : Goes p e below s₁ (entryFrame m #[(.ref a1), (.int nd), (.int p2)] 5) T12 (mkF m 35 #[.val (.ref a1), .val (.int nd), .val (.int p2), .val (.ref nt), .val (.ref yy12)] [(.ref nt), (.ref yy12)]) := fun t kt => pre13 t (by
      show Steps p.tables e below (T12.setTop (mkF m 30 #[.val (.ref a1), .val (.int nd), .val (.int p2), .val (.ref nt), .unset] [(.ref yy12)])) _
      refine XS.astore X12.here hx rfl (hb hby own_dtag0_30) rfl rfl (l' := #[.val (.ref a1), .val (.int nd), .val (.int p2), .val (.ref nt), .val (.ref yy12)]) rfl ?_
      show Steps p.tables e below (T12.setTop (mkF m 32 #[.val (.ref a1), .val (.int nd), .val (.int p2), .val (.ref nt), .val (.ref yy12)] [])) _
      refine XS.aload X12.here hx rfl (hb hby own_dtag0_32) rfl rfl ?_
      show Steps p.tables e below (T12.setTop (mkF m 34 #[.val (.ref a1), .val (.int nd), .val (.int p2), .val (.ref nt), .val (.ref yy12)] [(.ref yy12)])) _
      refine XS.aloadN X12.here hx rfl (hb hby own_dtag0_34) rfl rfl ?_
      exact kt)
  obtain ⟨cl15, Ar15, q15, S15, N_15, H15, G15⟩ := (id ((V_o.keep K12q nin0)))
  have pre16 : Goes p e below s₁ (entryFrame m #[(.ref a1), (.int nd), (.int p2)] 5) T12 (mkF m 37 #[.val (.ref a1), .val (.int nd), .val (.int p2), .val (.ref nt), .val (.ref yy12)] [(.int p2), (.int (0 : Int32)), (.ref yy12)]) := fun t kt => pre14 t (by
      show Steps p.tables e below (T12.setTop (mkF m 35 #[.val (.ref a1), .val (.int nd), .val (.int p2), .val (.ref nt), .val (.ref yy12)] [(.ref nt), (.ref yy12)])) _
      refine X12.arraylength hx (by (try rw [rfl]); exact Ar15.1) (State.isArrayOf_alike hZ.alike Ar15.2.1) (g := (mkF m 35 #[.val (.ref a1), .val (.int nd), .val (.int p2), .val (.ref nt), .val (.ref yy12)] [(.ref nt), (.ref yy12)])) rfl rfl (hb hby own_dtag0_35) _ ?_
      rw [len_of S15 N_15]
      show Steps p.tables e below (T12.setTop (mkF m 36 #[.val (.ref a1), .val (.int nd), .val (.int p2), .val (.ref nt), .val (.ref yy12)] [(.int (0 : Int32)), (.ref yy12)])) _
      refine XS.iloadN X12.here hx rfl (hb hby own_dtag0_36) rfl ?_
      exact kt)
  obtain ⟨cl17, Ar17, q17, S17, N_17, H17, G17⟩ := (id (Vy12))
  have hin17 : ¬ ((0 : Int32) < 0 ∨ cl17.slots.size ≤ ((0 : Int32)).toNatClampNeg) := inb_of S17 ⟨by decide, by decide⟩
  obtain ⟨T18, h18, X18, e18, W18, st18⟩ := stI X12 hx hZ rfl Ar17 (j := (0 : Int32)) hin17 (g := (mkF m 37 #[.val (.ref a1), .val (.int nd), .val (.int p2), .val (.ref nt), .val (.ref yy12)] [(.int p2), (.int (0 : Int32)), (.ref yy12)])) rfl rfl (hb hby own_dtag0_37)
  have V18 : Arv Z h18 yy12 ky12 .int (1 : Int32) [(.int p2)] (.int (0 : Int32)) := Arv.set Ar17 q17 S17 N_17 H17 G17 rfl W18 0 rfl (Nat.le_of_ble_eq_true rfl)
  have K18 : Keep h0 h18 [tg] := KC12.wr W18 (Or.inr sz_yy12)
  have N18 := Fr.snoc X18 N12 g_yy12
  have pre19 : Goes p e below s₁ (entryFrame m #[(.ref a1), (.int nd), (.int p2)] 5) T18 (mkF m 38 #[.val (.ref a1), .val (.int nd), .val (.int p2), .val (.ref nt), .val (.ref yy12)] []) := fun t kt => pre16 t (st18 t kt)
  have pre20 : Goes p e below s₁ (entryFrame m #[(.ref a1), (.int nd), (.int p2)] 5) T18 (mkF m 39 #[.val (.ref a1), .val (.int nd), .val (.int p2), .val (.ref nt), .val (.ref yy12)] [(.ref a1)]) := fun t kt => pre19 t (by
      show Steps p.tables e below (T18.setTop (mkF m 38 #[.val (.ref a1), .val (.int nd), .val (.int p2), .val (.ref nt), .val (.ref yy12)] [])) _
      refine XS.aloadN X18.here hx rfl (hb hby own_dtag0_38) rfl rfl ?_
      exact kt)
  obtain ⟨T21, X21, e21, st21⟩ := getF X18 hx hZ hown (host := "") (Or.inl (hw _ (List.mem_of_getElem? (i := 22) rfl))) Via.refl e18 ((F_tags.keep K12q nin0).other W18 (Or.inl (Ne.symm (Ne.symm (Nat.ne_of_lt (Nat.lt_of_lt_of_le E_a1.lt zy12)))))) (g := (mkF m 39 #[.val (.ref a1), .val (.int nd), .val (.int p2), .val (.ref nt), .val (.ref yy12)] [(.ref a1)])) rfl rfl (hb hby own_dtag0_39)
  have pre22 : Goes p e below s₁ (entryFrame m #[(.ref a1), (.int nd), (.int p2)] 5) T21 (mkF m 42 #[.val (.ref a1), .val (.int nd), .val (.int p2), .val (.ref nt), .val (.ref yy12)] [(.ref tg)]) := fun t kt => pre20 t (st21 t kt)
  have pre23 : Goes p e below s₁ (entryFrame m #[(.ref a1), (.int nd), (.int p2)] 5) T21 (mkF m 45 #[.val (.ref a1), .val (.int nd), .val (.int p2), .val (.ref nt), .val (.ref yy12)] [(.ref yy12), (.int nd), (.ref tg)]) := fun t kt => pre22 t (by
      show Steps p.tables e below (T21.setTop (mkF m 42 #[.val (.ref a1), .val (.int nd), .val (.int p2), .val (.ref nt), .val (.ref yy12)] [(.ref tg)])) _
      refine XS.iloadN X21.here hx rfl (hb hby own_dtag0_42) rfl ?_
      show Steps p.tables e below (T21.setTop (mkF m 43 #[.val (.ref a1), .val (.int nd), .val (.int p2), .val (.ref nt), .val (.ref yy12)] [(.int nd), (.ref tg)])) _
      refine XS.aload X21.here hx rfl (hb hby own_dtag0_43) rfl rfl ?_
      exact kt)
  obtain ⟨cl24, Ar24, q24, S24, N_24, H24, G24⟩ := (id (((V_tg.keep K12q nin0).other W18 (Ne.symm ny12))))
  have hin24 : ¬ (nd < 0 ∨ cl24.slots.size ≤ nd.toNatClampNeg) := inb_of S24 hnd
  obtain ⟨T25, h25, X25, e25, W25, st25⟩ := stR X21 hx hZ e21 Ar24 (j := nd) hin24 rfl (Sto.ofVA Ar24 q24 Ov (Ins.self (Ey12.wr W18))) (g := (mkF m 45 #[.val (.ref a1), .val (.int nd), .val (.int p2), .val (.ref nt), .val (.ref yy12)] [(.ref yy12), (.int nd), (.ref tg)])) rfl rfl (hb hby own_dtag0_45)
  have V25 : Arv Z h25 tg kt (.array .int) (16 : Int32) (vts.set nd.toNatClampNeg (.ref yy12)) .null := Arv.set Ar24 q24 S24 N_24 H24 G24 rfl W25 nd.toNatClampNeg rfl hl
  have K25 : Keep h0 h25 [tg] := K18.wr W25 (Or.inl (List.mem_of_getElem? (i := 0) rfl))
  have N25 := Fr.snoc X25 N18 g_tg
  have pre26 : Goes p e below s₁ (entryFrame m #[(.ref a1), (.int nd), (.int p2)] 5) T25 (mkF m 46 #[.val (.ref a1), .val (.int nd), .val (.int p2), .val (.ref nt), .val (.ref yy12)] []) := fun t kt => pre23 t (st25 t kt)
  obtain ⟨fs, hr, hrun, hended, hW, hsame⟩ := X25.leave (v := none) (fun _ => rfl)
  refine ⟨_, _, pre26 _ ?_, hrun, hended, _, _, rfl, ?_, ⟨_, rfl⟩, hW, hsame.mono (by decide) (by decide)⟩
  · show Steps p.tables e below (T25.setTop (mkF m 46 #[.val (.ref a1), .val (.int nd), .val (.int p2), .val (.ref nt), .val (.ref yy12)] [])) _
    exact X25.returnOut hx Bd.returns (hb hby own_dtag0_46) hr
  · show Q_own_tag0 Z a1 r k ch f rt gg tg kt vts nd p2 nt ko h0 n0 _ T25.heap _
    rw [e25]
    exact ⟨rfl, N25, K25, yy12, ky12, zy12, gy12, ny12, (V18.other W25 ny12), ⟨(((E_a1.keep K12q).wr W18).wr W25), (((F_roles.keep K12q nin0).other W18 (Or.inl (Ne.symm (Ne.symm (Nat.ne_of_lt (Nat.lt_of_lt_of_le E_a1.lt zy12)))))).other W25 (Or.inl nat)), (((F_children.keep K12q nin0).other W18 (Or.inl (Ne.symm (Ne.symm (Nat.ne_of_lt (Nat.lt_of_lt_of_le E_a1.lt zy12)))))).other W25 (Or.inl nat)), (((F_roots.keep K12q nin0).other W18 (Or.inl (Ne.symm (Ne.symm (Nat.ne_of_lt (Nat.lt_of_lt_of_le E_a1.lt zy12)))))).other W25 (Or.inl nat)), (((F_tags.keep K12q nin0).other W18 (Or.inl (Ne.symm (Ne.symm (Nat.ne_of_lt (Nat.lt_of_lt_of_le E_a1.lt zy12)))))).other W25 (Or.inl nat)), (((F_size.keep K12q nin0).other W18 (Or.inl (Ne.symm (Ne.symm (Nat.ne_of_lt (Nat.lt_of_lt_of_le E_a1.lt zy12)))))).other W25 (Or.inl nat)), (((V_ch.keep K12q nin0).other W18 (Ne.symm (Ne.symm (Nat.ne_of_lt (Nat.lt_of_lt_of_le V_ch.lt zy12))))).other W25 nct), (((V_rt.keep K12q nin0).other W18 (Ne.symm (Ne.symm (Nat.ne_of_lt (Nat.lt_of_lt_of_le V_rt.lt zy12))))).other W25 nrt), V25, g_a1, g_ch, g_rt, g_tg, nac, nar, nat, ncr, nct, nrt⟩⟩

theorem own_dtag1_0 : decode prog_26_method_7_code 0 = .ok (.aload_n 0, 1) := by decide +kernel
theorem own_dtag1_1 : decode prog_26_method_7_code 1 = .ok (.getfield 27, 3) := by decide +kernel
theorem own_dtag1_4 : decode prog_26_method_7_code 4 = .ok (.iload_n 1, 1) := by decide +kernel
theorem own_dtag1_5 : decode prog_26_method_7_code 5 = .ok (.aaload, 1) := by decide +kernel
theorem own_dtag1_6 : decode prog_26_method_7_code 6 = .ok (.ifnonnull 9, 3) := by decide +kernel
theorem own_dtag1_15 : decode prog_26_method_7_code 15 = .ok (.aload_n 0, 1) := by decide +kernel
theorem own_dtag1_16 : decode prog_26_method_7_code 16 = .ok (.getfield 27, 3) := by decide +kernel
theorem own_dtag1_19 : decode prog_26_method_7_code 19 = .ok (.iload_n 1, 1) := by decide +kernel
theorem own_dtag1_20 : decode prog_26_method_7_code 20 = .ok (.aaload, 1) := by decide +kernel
theorem own_dtag1_21 : decode prog_26_method_7_code 21 = .ok (.astore_n 3, 1) := by decide +kernel
theorem own_dtag1_22 : decode prog_26_method_7_code 22 = .ok (.aload_n 3, 1) := by decide +kernel
theorem own_dtag1_23 : decode prog_26_method_7_code 23 = .ok (.aload_n 3, 1) := by decide +kernel
theorem own_dtag1_24 : decode prog_26_method_7_code 24 = .ok (.arraylength, 1) := by decide +kernel
theorem own_dtag1_25 : decode prog_26_method_7_code 25 = .ok (.iconst 1, 1) := by decide +kernel
theorem own_dtag1_26 : decode prog_26_method_7_code 26 = .ok (.iadd, 1) := by decide +kernel
theorem own_dtag1_27 : decode prog_26_method_7_code 27 = .ok (.invokestatic 41, 3) := by decide +kernel
theorem own_dtag1_30 : decode prog_26_method_7_code 30 = .ok (.astore 4, 2) := by decide +kernel
theorem own_dtag1_32 : decode prog_26_method_7_code 32 = .ok (.aload 4, 2) := by decide +kernel
theorem own_dtag1_34 : decode prog_26_method_7_code 34 = .ok (.aload_n 3, 1) := by decide +kernel
theorem own_dtag1_35 : decode prog_26_method_7_code 35 = .ok (.arraylength, 1) := by decide +kernel
theorem own_dtag1_36 : decode prog_26_method_7_code 36 = .ok (.iload_n 2, 1) := by decide +kernel
theorem own_dtag1_37 : decode prog_26_method_7_code 37 = .ok (.iastore, 1) := by decide +kernel
theorem own_dtag1_38 : decode prog_26_method_7_code 38 = .ok (.aload_n 0, 1) := by decide +kernel
theorem own_dtag1_39 : decode prog_26_method_7_code 39 = .ok (.getfield 27, 3) := by decide +kernel
theorem own_dtag1_42 : decode prog_26_method_7_code 42 = .ok (.iload_n 1, 1) := by decide +kernel
theorem own_dtag1_43 : decode prog_26_method_7_code 43 = .ok (.aload 4, 2) := by decide +kernel
theorem own_dtag1_45 : decode prog_26_method_7_code 45 = .ok (.aastore, 1) := by decide +kernel
theorem own_dtag1_46 : decode prog_26_method_7_code 46 = .ok (.return_, 1) := by decide +kernel
theorem own_pn_own_tag1 : plainName "com/example/unicept/unicept/WordTrie" = true := by first | (simp [plainName, overriddenIn]; done) | decide +kernel
theorem own_ef_own_tag1 (m : MethodId) (x0 : Addr) (x1 : Int32) (x2 : Int32) : entryFrame m #[(.ref x0), (.int x1), (.int x2)] 5 = mkF m 0 #[.val (.ref x0), .val (.int x1), .val (.int x2), .unset, .unset] [] := by first | (simp [entryFrame, mkF, argsToLocals, Value.category]; done) | rfl
def Q_own_tag1 (Z : State) (a1 : Addr) (r : Nat) (k : Nat) (ch : Addr) (f : Nat → Int32) (rt : Addr) (gg : Nat → Int32) (tg : Addr) (kt : ClassId) (vts : List Value) (nd : Int32) (p2 : Int32) (y0 : Addr) (ko : ClassId) (iv0 : Int32) (h0 : Heap) (n0 : Nat) (v : Option Value) (h : Heap) (L : List Loc) : Prop := v = none ∧ Fr n0 L ∧ Keep h0 h [tg] ∧ ∃ (y : Addr) (ky : ClassId), h0.size ≤ y ∧ n0 ≤ y ∧ y ≠ tg ∧ Arv Z h y ky .int (2 : Int32) [(.int iv0), (.int p2)] (.int (0 : Int32)) ∧ own_TR Z h n0 a1 r k ch f rt gg tg kt (vts.set nd.toNatClampNeg (.ref y))
set_option maxRecDepth 65536 in
set_option maxHeartbeats 40000000 in
theorem own_tag1 (l : Launch) (Z : State) (a0 : Array Value) (hw : ∀ d ∈ tables_1, d.before a0 Z = true) (ws : List Jvm.Cond) (a1 : Addr) (r : Nat) (k : Nat) (ch : Addr) (f : Nat → Int32) (rt : Addr) (gg : Nat → Int32) (tg : Addr) (kt : ClassId) (vts : List Value) (nd : Int32) (p2 : Int32) (y0 : Addr) (ko : ClassId) (iv0 : Int32) (h0 : Heap) (n0 : Nat) (Z0 : n0 ≤ h0.size) (hT : own_TR Z h0 n0 a1 r k ch f rt gg tg kt vts) (Ov : OvrA Z kt .int "[I") (hnd : ¬ nd < 0 ∧ nd < (16 : Int32)) (hl : nd.toNatClampNeg < vts.length) (hv : vts.getD nd.toNatClampNeg .null = (.ref y0)) (V_o : Arv Z h0 y0 ko .int (1 : Int32) [(.int iv0)] (.int (0 : Int32))) :
    MetFree l (⟨"com/example/unicept/unicept/WordTrie", "tag", "(II)V"⟩ : MethodName) (head1 (Jvm.Cond.code (⟨"com/example/unicept/unicept/WordTrie", "tag", "(II)V"⟩ : MethodName) prog_26_method_7_code 5 none :: ws) ({ frames := 2, cells := 1, slots := 2, locals := 54 } : Room)) (fun a U => a = #[(.ref a1), (.int nd), (.int p2)] ∧ Z.Warmed39 U.vm ∧ U.heap = h0) (fun _ _ _ _ _ => True) (fun _ U o U' => ∃ v L, o = .returned v ∧ Q_own_tag1 Z a1 r k ch f rt gg tg kt vts nd p2 y0 ko iv0 h0 n0 v U'.heap L ∧ FrameEnd U o U' L ({ frames := 2, cells := 1, slots := 2, locals := 54 } : Room).cells ({ frames := 2, cells := 1, slots := 2, locals := 54 } : Room).slots) := by
  refine MetFree.of_bodySF (plainFor_of_name own_pn_own_tag1) hisR ?_
  intro p e s m args below meth c s₁ Bd hml0 hP hK
  obtain ⟨rfl, hZ, hh⟩ := hP
  have hx := Bd.exec
  have hby := Bd.bytes
  have hml : c.maxLocals = 5 := hml0
  have hown : s.vm.findClass "com/example/unicept/unicept/WordTrie" = some m.cls := findClass_of_methodNamed Bd.named
  have hnm := (name_of_methodNamed Bd.named Bd.method).1
  have X0 : Stand p l e ({ frames := 2, cells := 1, slots := 2, locals := 54 } : Room) s m #[(.ref a1), (.int nd), (.int p2)] below meth c s₁ [] 0 0 := Stand.of_body Bd
  have e0 : s₁.heap = h0 := by rw [← hh, Bd.state]; rfl
  have N0 := Fr.nil n0
  have pre0 : Goes p e below s₁ (entryFrame m #[(.ref a1), (.int nd), (.int p2)] 5) s₁ (mkF m 0 #[.val (.ref a1), .val (.int nd), .val (.int p2), .unset, .unset] []) := fun t k => castTop (own_ef_own_tag1 m a1 nd p2) k
  obtain ⟨E_a1, F_roles, F_children, F_roots, F_tags, F_size, V_ch, V_rt, V_tg, g_a1, g_ch, g_rt, g_tg, nac, nar, nat, ncr, nct, nrt⟩ := hT
  have pre1 : Goes p e below s₁ (entryFrame m #[(.ref a1), (.int nd), (.int p2)] 5) s₁ (mkF m 1 #[.val (.ref a1), .val (.int nd), .val (.int p2), .unset, .unset] [(.ref a1)]) := fun t kt => pre0 t (by
      show Steps p.tables e below (s₁.setTop (mkF m 0 #[.val (.ref a1), .val (.int nd), .val (.int p2), .unset, .unset] [])) _
      refine XS.aloadN X0.here hx rfl (hb hby own_dtag1_0) rfl rfl ?_
      exact kt)
  obtain ⟨T2, X2, e2, st2⟩ := getF X0 hx hZ hown (host := "") (Or.inl (hw _ (List.mem_of_getElem? (i := 22) rfl))) Via.refl e0 F_tags (g := (mkF m 1 #[.val (.ref a1), .val (.int nd), .val (.int p2), .unset, .unset] [(.ref a1)])) rfl rfl (hb hby own_dtag1_1)
  have pre3 : Goes p e below s₁ (entryFrame m #[(.ref a1), (.int nd), (.int p2)] 5) T2 (mkF m 4 #[.val (.ref a1), .val (.int nd), .val (.int p2), .unset, .unset] [(.ref tg)]) := fun t kt => pre1 t (st2 t kt)
  have pre4 : Goes p e below s₁ (entryFrame m #[(.ref a1), (.int nd), (.int p2)] 5) T2 (mkF m 5 #[.val (.ref a1), .val (.int nd), .val (.int p2), .unset, .unset] [(.int nd), (.ref tg)]) := fun t kt => pre3 t (by
      show Steps p.tables e below (T2.setTop (mkF m 4 #[.val (.ref a1), .val (.int nd), .val (.int p2), .unset, .unset] [(.ref tg)])) _
      refine XS.iloadN X2.here hx rfl (hb hby own_dtag1_4) rfl ?_
      exact kt)
  obtain ⟨cl5, Ar5, q5, S5, N_5, H5, G5⟩ := (id (V_tg))
  have hin5 : ¬ (nd < 0 ∨ cl5.slots.size ≤ nd.toNatClampNeg) := inb_of S5 hnd
  have hat5 : cl5.slots[nd.toNatClampNeg]? = some (.ref y0) := Has.at H5 hin5 hv
  have pre6 : Goes p e below s₁ (entryFrame m #[(.ref a1), (.int nd), (.int p2)] 5) T2 (mkF m 16 #[.val (.ref a1), .val (.int nd), .val (.int p2), .unset, .unset] [(.ref a1)]) := fun t kt => pre4 t (by
      show Steps p.tables e below (T2.setTop (mkF m 5 #[.val (.ref a1), .val (.int nd), .val (.int p2), .unset, .unset] [(.int nd), (.ref tg)])) _
      refine X2.aaload hx (j := nd) (v := (.ref y0)) (by (try rw [e2]); exact Ar5.1) (State.isArrayOf_alike hZ.alike Ar5.2.1) rfl Ar5.2.2 hin5 hat5 (g := (mkF m 5 #[.val (.ref a1), .val (.int nd), .val (.int p2), .unset, .unset] [(.int nd), (.ref tg)])) rfl rfl (hb hby own_dtag1_5) _ ?_
      show Steps p.tables e below (T2.setTop (mkF m 6 #[.val (.ref a1), .val (.int nd), .val (.int p2), .unset, .unset] [(.ref y0)])) _
      refine XS.ifnonnullYes X2.here hx rfl (pc0 := 6) (pc' := 15) rfl (hb hby own_dtag1_6) rfl (by decide) (by decide) ?_
      show Steps p.tables e below (T2.setTop (mkF m 15 #[.val (.ref a1), .val (.int nd), .val (.int p2), .unset, .unset] [])) _
      refine XS.aloadN X2.here hx rfl (hb hby own_dtag1_15) rfl rfl ?_
      exact kt)
  obtain ⟨T7, X7, e7, st7⟩ := getF X2 hx hZ hown (host := "") (Or.inl (hw _ (List.mem_of_getElem? (i := 22) rfl))) Via.refl e2 F_tags (g := (mkF m 16 #[.val (.ref a1), .val (.int nd), .val (.int p2), .unset, .unset] [(.ref a1)])) rfl rfl (hb hby own_dtag1_16)
  have pre8 : Goes p e below s₁ (entryFrame m #[(.ref a1), (.int nd), (.int p2)] 5) T7 (mkF m 19 #[.val (.ref a1), .val (.int nd), .val (.int p2), .unset, .unset] [(.ref tg)]) := fun t kt => pre6 t (st7 t kt)
  have pre9 : Goes p e below s₁ (entryFrame m #[(.ref a1), (.int nd), (.int p2)] 5) T7 (mkF m 20 #[.val (.ref a1), .val (.int nd), .val (.int p2), .unset, .unset] [(.int nd), (.ref tg)]) := fun t kt => pre8 t (by
      show Steps p.tables e below (T7.setTop (mkF m 19 #[.val (.ref a1), .val (.int nd), .val (.int p2), .unset, .unset] [(.ref tg)])) _
      refine XS.iloadN X7.here hx rfl (hb hby own_dtag1_19) rfl ?_
      exact kt)
  obtain ⟨cl10, Ar10, q10, S10, N_10, H10, G10⟩ := (id (V_tg))
  have hin10 : ¬ (nd < 0 ∨ cl10.slots.size ≤ nd.toNatClampNeg) := inb_of S10 hnd
  have hat10 : cl10.slots[nd.toNatClampNeg]? = some (.ref y0) := Has.at H10 hin10 hv
  have pre11 : Goes p e below s₁ (entryFrame m #[(.ref a1), (.int nd), (.int p2)] 5) T7 (mkF m 24 #[.val (.ref a1), .val (.int nd), .val (.int p2), .val (.ref y0), .unset] [(.ref y0), (.ref y0)]) := fun t kt => pre9 t (by
      show Steps p.tables e below (T7.setTop (mkF m 20 #[.val (.ref a1), .val (.int nd), .val (.int p2), .unset, .unset] [(.int nd), (.ref tg)])) _
      refine X7.aaload hx (j := nd) (v := (.ref y0)) (by (try rw [e7]); exact Ar10.1) (State.isArrayOf_alike hZ.alike Ar10.2.1) rfl Ar10.2.2 hin10 hat10 (g := (mkF m 20 #[.val (.ref a1), .val (.int nd), .val (.int p2), .unset, .unset] [(.int nd), (.ref tg)])) rfl rfl (hb hby own_dtag1_20) _ ?_
      show Steps p.tables e below (T7.setTop (mkF m 21 #[.val (.ref a1), .val (.int nd), .val (.int p2), .unset, .unset] [(.ref y0)])) _
      refine XS.astoreN X7.here hx rfl (hb hby own_dtag1_21) rfl rfl (l' := #[.val (.ref a1), .val (.int nd), .val (.int p2), .val (.ref y0), .unset]) rfl ?_
      show Steps p.tables e below (T7.setTop (mkF m 22 #[.val (.ref a1), .val (.int nd), .val (.int p2), .val (.ref y0), .unset] [])) _
      refine XS.aloadN X7.here hx rfl (hb hby own_dtag1_22) rfl rfl ?_
      show Steps p.tables e below (T7.setTop (mkF m 23 #[.val (.ref a1), .val (.int nd), .val (.int p2), .val (.ref y0), .unset] [(.ref y0)])) _
      refine XS.aloadN X7.here hx rfl (hb hby own_dtag1_23) rfl rfl ?_
      exact kt)
  obtain ⟨cl12, Ar12, q12, S12, N_12, H12, G12⟩ := (id (V_o))
  have pre13 : Goes p e below s₁ (entryFrame m #[(.ref a1), (.int nd), (.int p2)] 5) T7 (mkF m 27 #[.val (.ref a1), .val (.int nd), .val (.int p2), .val (.ref y0), .unset] [(.int (2 : Int32)), (.ref y0)]) := fun t kt => pre11 t (by
      show Steps p.tables e below (T7.setTop (mkF m 24 #[.val (.ref a1), .val (.int nd), .val (.int p2), .val (.ref y0), .unset] [(.ref y0), (.ref y0)])) _
      refine X7.arraylength hx (by (try rw [e7]); exact Ar12.1) (State.isArrayOf_alike hZ.alike Ar12.2.1) (g := (mkF m 24 #[.val (.ref a1), .val (.int nd), .val (.int p2), .val (.ref y0), .unset] [(.ref y0), (.ref y0)])) rfl rfl (hb hby own_dtag1_24) _ ?_
      rw [len_of S12 N_12]
      show Steps p.tables e below (T7.setTop (mkF m 25 #[.val (.ref a1), .val (.int nd), .val (.int p2), .val (.ref y0), .unset] [(.int (1 : Int32)), (.ref y0)])) _
      refine XS.iconst X7.here hx rfl (hb hby own_dtag1_25) ?_
      show Steps p.tables e below (T7.setTop (mkF m 26 #[.val (.ref a1), .val (.int nd), .val (.int p2), .val (.ref y0), .unset] [(.int (1 : Int32)), (.int (1 : Int32)), (.ref y0)])) _
      refine XS.iadd X7.here hx rfl (hb hby own_dtag1_26) rfl ?_
      exact kt)
  obtain ⟨_, _, ⟨T14, L14, k14, n14⟩, -, X14, ⟨Lc14, hQ14, l14, y14, z14⟩, st14⟩ := Jvm.LawKit.callS X7 hx (y := (⟨"java/util/Arrays", "copyOf", "([II)[I"⟩ : MethodName)) hown (mvT hZ (hw _ (List.mem_of_getElem? (i := 58) rfl))) (mvT hZ (hw _ (List.mem_of_getElem? (i := 59) rfl))) (mvT hZ (hw _ (List.mem_of_getElem? (i := 37) rfl))) (mvT hZ (hw _ (List.mem_of_getElem? (i := 60) rfl))) (by decide) (backOf (W := 0) (own_copy1 l Z a0 hw [] y0 ko iv0 h0 n0 Z0 V_o) hZ (hw _ (List.mem_of_getElem? (i := 60) rfl)) (hw _ (List.mem_of_getElem? (i := 37) rfl)) (by decide) (by decide)) (g := (mkF m 27 #[.val (.ref a1), .val (.int nd), .val (.int p2), .val (.ref y0), .unset] [(.int (2 : Int32)), (.ref y0)])) rfl (by rw [hml]; rfl) (argsL := [(.ref y0), (.int (2 : Int32))]) (rest := []) (lenOf own_pd4 rfl) rfl (by show 2 * 0 + _ ≤ _; exact Nat.le_of_eq rfl) (hb hby own_dtag1_27) (fun _ _ => ⟨rfl, e7, (by decide : 0 + 1 ≤ _), (by decide : 0 + 2 ≤ _)⟩)
  dsimp only [Pt.U, Pt.locs, Pt.cells, Pt.slots] at X14 l14 y14 z14 st14 hQ14
  subst l14 y14 z14
  obtain ⟨yy14, ky14, rfl, N14q, K14q, zy14, gy14, Vy14, Ey14⟩ := hQ14
  have N14 := Fr.app N0 N14q
  have KC14 : Keep h0 T14.heap [tg] := (Keep.refl h0 [tg]).trans K14q all0
  have pre15 : Goes p e below s₁ (entryFrame m #[(.ref a1), (.int nd), (.int p2)] 5) T14 (mkF m 30 #[.val (.ref a1), .val (.int nd), .val (.int p2), .val (.ref y0), .unset] [(.ref yy14)]) := fun t kt => pre13 t (st14 t kt)
  have g_yy14 := gy14
  have sz_yy14 := zy14
  have ny14 : yy14 ≠ tg := Ne.symm (Nat.ne_of_lt (Nat.lt_of_lt_of_le V_tg.lt zy14))
  have pre16 : Goes p e below s₁ (entryFrame m #[(.ref a1), (.int nd), (.int p2)] 5) T14 (mkF m 35 #[.val (.ref a1), .val (.int nd), .val (.int p2), .val (.ref y0), .val (.ref yy14)] [(.ref y0), (.ref yy14)]) := fun t kt => pre15 t (by
      show Steps p.tables e below (T14.setTop (mkF m 30 #[.val (.ref a1), .val (.int nd), .val (.int p2), .val (.ref y0), .unset] [(.ref yy14)])) _
      refine XS.astore X14.here hx rfl (hb hby own_dtag1_30) rfl rfl (l' := #[.val (.ref a1), .val (.int nd), .val (.int p2), .val (.ref y0), .val (.ref yy14)]) rfl ?_
      show Steps p.tables e below (T14.setTop (mkF m 32 #[.val (.ref a1), .val (.int nd), .val (.int p2), .val (.ref y0), .val (.ref yy14)] [])) _
      refine XS.aload X14.here hx rfl (hb hby own_dtag1_32) rfl rfl ?_
      show Steps p.tables e below (T14.setTop (mkF m 34 #[.val (.ref a1), .val (.int nd), .val (.int p2), .val (.ref y0), .val (.ref yy14)] [(.ref yy14)])) _
      refine XS.aloadN X14.here hx rfl (hb hby own_dtag1_34) rfl rfl ?_
      exact kt)
  obtain ⟨cl17, Ar17, q17, S17, N_17, H17, G17⟩ := (id ((V_o.keep K14q nin0)))
  have pre18 : Goes p e below s₁ (entryFrame m #[(.ref a1), (.int nd), (.int p2)] 5) T14 (mkF m 37 #[.val (.ref a1), .val (.int nd), .val (.int p2), .val (.ref y0), .val (.ref yy14)] [(.int p2), (.int (1 : Int32)), (.ref yy14)]) := fun t kt => pre16 t (by
      show Steps p.tables e below (T14.setTop (mkF m 35 #[.val (.ref a1), .val (.int nd), .val (.int p2), .val (.ref y0), .val (.ref yy14)] [(.ref y0), (.ref yy14)])) _
      refine X14.arraylength hx (by (try rw [rfl]); exact Ar17.1) (State.isArrayOf_alike hZ.alike Ar17.2.1) (g := (mkF m 35 #[.val (.ref a1), .val (.int nd), .val (.int p2), .val (.ref y0), .val (.ref yy14)] [(.ref y0), (.ref yy14)])) rfl rfl (hb hby own_dtag1_35) _ ?_
      rw [len_of S17 N_17]
      show Steps p.tables e below (T14.setTop (mkF m 36 #[.val (.ref a1), .val (.int nd), .val (.int p2), .val (.ref y0), .val (.ref yy14)] [(.int (1 : Int32)), (.ref yy14)])) _
      refine XS.iloadN X14.here hx rfl (hb hby own_dtag1_36) rfl ?_
      exact kt)
  obtain ⟨cl19, Ar19, q19, S19, N_19, H19, G19⟩ := (id (Vy14))
  have hin19 : ¬ ((1 : Int32) < 0 ∨ cl19.slots.size ≤ ((1 : Int32)).toNatClampNeg) := inb_of S19 ⟨by decide, by decide⟩
  obtain ⟨T20, h20, X20, e20, W20, st20⟩ := stI X14 hx hZ rfl Ar19 (j := (1 : Int32)) hin19 (g := (mkF m 37 #[.val (.ref a1), .val (.int nd), .val (.int p2), .val (.ref y0), .val (.ref yy14)] [(.int p2), (.int (1 : Int32)), (.ref yy14)])) rfl rfl (hb hby own_dtag1_37)
  have V20 : Arv Z h20 yy14 ky14 .int (2 : Int32) [(.int iv0), (.int p2)] (.int (0 : Int32)) := Arv.set Ar19 q19 S19 N_19 H19 G19 rfl W20 1 rfl (Nat.le_of_ble_eq_true rfl)
  have K20 : Keep h0 h20 [tg] := KC14.wr W20 (Or.inr sz_yy14)
  have N20 := Fr.snoc X20 N14 g_yy14
  have pre21 : Goes p e below s₁ (entryFrame m #[(.ref a1), (.int nd), (.int p2)] 5) T20 (mkF m 38 #[.val (.ref a1), .val (.int nd), .val (.int p2), .val (.ref y0), .val (.ref yy14)] []) := fun t kt => pre18 t (st20 t kt)
  have pre22 : Goes p e below s₁ (entryFrame m #[(.ref a1), (.int nd), (.int p2)] 5) T20 (mkF m 39 #[.val (.ref a1), .val (.int nd), .val (.int p2), .val (.ref y0), .val (.ref yy14)] [(.ref a1)]) := fun t kt => pre21 t (by
      show Steps p.tables e below (T20.setTop (mkF m 38 #[.val (.ref a1), .val (.int nd), .val (.int p2), .val (.ref y0), .val (.ref yy14)] [])) _
      refine XS.aloadN X20.here hx rfl (hb hby own_dtag1_38) rfl rfl ?_
      exact kt)
  obtain ⟨T23, X23, e23, st23⟩ := getF X20 hx hZ hown (host := "") (Or.inl (hw _ (List.mem_of_getElem? (i := 22) rfl))) Via.refl e20 ((F_tags.keep K14q nin0).other W20 (Or.inl (Ne.symm (Ne.symm (Nat.ne_of_lt (Nat.lt_of_lt_of_le E_a1.lt zy14)))))) (g := (mkF m 39 #[.val (.ref a1), .val (.int nd), .val (.int p2), .val (.ref y0), .val (.ref yy14)] [(.ref a1)])) rfl rfl (hb hby own_dtag1_39)
  have pre24 : Goes p e below s₁ (entryFrame m #[(.ref a1), (.int nd), (.int p2)] 5) T23 (mkF m 42 #[.val (.ref a1), .val (.int nd), .val (.int p2), .val (.ref y0), .val (.ref yy14)] [(.ref tg)]) := fun t kt => pre22 t (st23 t kt)
  have pre25 : Goes p e below s₁ (entryFrame m #[(.ref a1), (.int nd), (.int p2)] 5) T23 (mkF m 45 #[.val (.ref a1), .val (.int nd), .val (.int p2), .val (.ref y0), .val (.ref yy14)] [(.ref yy14), (.int nd), (.ref tg)]) := fun t kt => pre24 t (by
      show Steps p.tables e below (T23.setTop (mkF m 42 #[.val (.ref a1), .val (.int nd), .val (.int p2), .val (.ref y0), .val (.ref yy14)] [(.ref tg)])) _
      refine XS.iloadN X23.here hx rfl (hb hby own_dtag1_42) rfl ?_
      show Steps p.tables e below (T23.setTop (mkF m 43 #[.val (.ref a1), .val (.int nd), .val (.int p2), .val (.ref y0), .val (.ref yy14)] [(.int nd), (.ref tg)])) _
      refine XS.aload X23.here hx rfl (hb hby own_dtag1_43) rfl rfl ?_
      exact kt)
  obtain ⟨cl26, Ar26, q26, S26, N_26, H26, G26⟩ := (id (((V_tg.keep K14q nin0).other W20 (Ne.symm ny14))))
  have hin26 : ¬ (nd < 0 ∨ cl26.slots.size ≤ nd.toNatClampNeg) := inb_of S26 hnd
  obtain ⟨T27, h27, X27, e27, W27, st27⟩ := stR X23 hx hZ e23 Ar26 (j := nd) hin26 rfl (Sto.ofVA Ar26 q26 Ov (Ins.self (Ey14.wr W20))) (g := (mkF m 45 #[.val (.ref a1), .val (.int nd), .val (.int p2), .val (.ref y0), .val (.ref yy14)] [(.ref yy14), (.int nd), (.ref tg)])) rfl rfl (hb hby own_dtag1_45)
  have V27 : Arv Z h27 tg kt (.array .int) (16 : Int32) (vts.set nd.toNatClampNeg (.ref yy14)) .null := Arv.set Ar26 q26 S26 N_26 H26 G26 rfl W27 nd.toNatClampNeg rfl hl
  have K27 : Keep h0 h27 [tg] := K20.wr W27 (Or.inl (List.mem_of_getElem? (i := 0) rfl))
  have N27 := Fr.snoc X27 N20 g_tg
  have pre28 : Goes p e below s₁ (entryFrame m #[(.ref a1), (.int nd), (.int p2)] 5) T27 (mkF m 46 #[.val (.ref a1), .val (.int nd), .val (.int p2), .val (.ref y0), .val (.ref yy14)] []) := fun t kt => pre25 t (st27 t kt)
  obtain ⟨fs, hr, hrun, hended, hW, hsame⟩ := X27.leave (v := none) (fun _ => rfl)
  refine ⟨_, _, pre28 _ ?_, hrun, hended, _, _, rfl, ?_, ⟨_, rfl⟩, hW, hsame.mono (by decide) (by decide)⟩
  · show Steps p.tables e below (T27.setTop (mkF m 46 #[.val (.ref a1), .val (.int nd), .val (.int p2), .val (.ref y0), .val (.ref yy14)] [])) _
    exact X27.returnOut hx Bd.returns (hb hby own_dtag1_46) hr
  · show Q_own_tag1 Z a1 r k ch f rt gg tg kt vts nd p2 y0 ko iv0 h0 n0 _ T27.heap _
    rw [e27]
    exact ⟨rfl, N27, K27, yy14, ky14, zy14, gy14, ny14, (V20.other W27 ny14), ⟨(((E_a1.keep K14q).wr W20).wr W27), (((F_roles.keep K14q nin0).other W20 (Or.inl (Ne.symm (Ne.symm (Nat.ne_of_lt (Nat.lt_of_lt_of_le E_a1.lt zy14)))))).other W27 (Or.inl nat)), (((F_children.keep K14q nin0).other W20 (Or.inl (Ne.symm (Ne.symm (Nat.ne_of_lt (Nat.lt_of_lt_of_le E_a1.lt zy14)))))).other W27 (Or.inl nat)), (((F_roots.keep K14q nin0).other W20 (Or.inl (Ne.symm (Ne.symm (Nat.ne_of_lt (Nat.lt_of_lt_of_le E_a1.lt zy14)))))).other W27 (Or.inl nat)), (((F_tags.keep K14q nin0).other W20 (Or.inl (Ne.symm (Ne.symm (Nat.ne_of_lt (Nat.lt_of_lt_of_le E_a1.lt zy14)))))).other W27 (Or.inl nat)), (((F_size.keep K14q nin0).other W20 (Or.inl (Ne.symm (Ne.symm (Nat.ne_of_lt (Nat.lt_of_lt_of_le E_a1.lt zy14)))))).other W27 (Or.inl nat)), (((V_ch.keep K14q nin0).other W20 (Ne.symm (Ne.symm (Nat.ne_of_lt (Nat.lt_of_lt_of_le V_ch.lt zy14))))).other W27 nct), (((V_rt.keep K14q nin0).other W20 (Ne.symm (Ne.symm (Nat.ne_of_lt (Nat.lt_of_lt_of_le V_rt.lt zy14))))).other W27 nrt), V27, g_a1, g_ch, g_rt, g_tg, nac, nar, nat, ncr, nct, nrt⟩⟩

theorem own_dtags0_0 : decode prog_26_method_8_code 0 = .ok (.aload_n 0, 1) := by decide +kernel
theorem own_dtags0_1 : decode prog_26_method_8_code 1 = .ok (.getfield 27, 3) := by decide +kernel
theorem own_dtags0_4 : decode prog_26_method_8_code 4 = .ok (.iload_n 1, 1) := by decide +kernel
theorem own_dtags0_5 : decode prog_26_method_8_code 5 = .ok (.aaload, 1) := by decide +kernel
theorem own_dtags0_6 : decode prog_26_method_8_code 6 = .ok (.ifnonnull 9, 3) := by decide +kernel
theorem own_dtags0_9 : decode prog_26_method_8_code 9 = .ok (.getstatic 38, 3) := by decide +kernel
theorem own_dtags0_12 : decode prog_26_method_8_code 12 = .ok (.goto 9, 3) := by decide +kernel
theorem own_dtags0_21 : decode prog_26_method_8_code 21 = .ok (.areturn, 1) := by decide +kernel
theorem own_pn_own_tags0 : plainName "com/example/unicept/unicept/WordTrie" = true := by first | (simp [plainName, overriddenIn]; done) | decide +kernel
theorem own_ef_own_tags0 (m : MethodId) (x0 : Addr) (x1 : Int32) : entryFrame m #[(.ref x0), (.int x1)] 2 = mkF m 0 #[.val (.ref x0), .val (.int x1)] [] := by first | (simp [entryFrame, mkF, argsToLocals, Value.category]; done) | rfl
def Q_own_tags0 (Z : State) (a1 : Addr) (r : Nat) (k : Nat) (ch : Addr) (f : Nat → Int32) (rt : Addr) (gg : Nat → Int32) (tg : Addr) (kt : ClassId) (vts : List Value) (nd : Int32) (nt : Addr) (h0 : Heap) (n0 : Nat) (v : Option Value) (h : Heap) (L : List Loc) : Prop := v = some (.ref nt) ∧ Fr n0 L ∧ h = h0
set_option maxRecDepth 65536 in
set_option maxHeartbeats 40000000 in
theorem own_tags0 (l : Launch) (Z : State) (a0 : Array Value) (hw : ∀ d ∈ tables_1, d.before a0 Z = true) (ws : List Jvm.Cond) (a1 : Addr) (r : Nat) (k : Nat) (ch : Addr) (f : Nat → Int32) (rt : Addr) (gg : Nat → Int32) (tg : Addr) (kt : ClassId) (vts : List Value) (nd : Int32) (nt : Addr) (h0 : Heap) (n0 : Nat) (Z0 : n0 ≤ h0.size) (hT : own_TR Z h0 n0 a1 r k ch f rt gg tg kt vts) (hnd : ¬ nd < 0 ∧ nd < (16 : Int32)) (hv : vts.getD nd.toNatClampNeg .null = .null) (S_NT : Sta Z h0 "com/example/unicept/unicept/WordTrie" "NO_TAGS" "[I" (.ref nt)) :
    MetFree l (⟨"com/example/unicept/unicept/WordTrie", "tags", "(I)[I"⟩ : MethodName) (head1 (Jvm.Cond.code (⟨"com/example/unicept/unicept/WordTrie", "tags", "(I)[I"⟩ : MethodName) prog_26_method_8_code 2 (some (.array .int)) :: ws) ({ frames := 0, cells := 0, slots := 0, locals := 0 } : Room)) (fun a U => a = #[(.ref a1), (.int nd)] ∧ Z.Warmed39 U.vm ∧ U.heap = h0) (fun _ _ _ _ _ => True) (fun _ U o U' => ∃ v L, o = .returned v ∧ Q_own_tags0 Z a1 r k ch f rt gg tg kt vts nd nt h0 n0 v U'.heap L ∧ FrameEnd U o U' L ({ frames := 0, cells := 0, slots := 0, locals := 0 } : Room).cells ({ frames := 0, cells := 0, slots := 0, locals := 0 } : Room).slots) := by
  refine MetFree.of_bodySF (plainFor_of_name own_pn_own_tags0) hisR ?_
  intro p e s m args below meth c s₁ Bd hml0 hP hK
  obtain ⟨rfl, hZ, hh⟩ := hP
  have hx := Bd.exec
  have hby := Bd.bytes
  have hml : c.maxLocals = 2 := hml0
  have hown : s.vm.findClass "com/example/unicept/unicept/WordTrie" = some m.cls := findClass_of_methodNamed Bd.named
  have hnm := (name_of_methodNamed Bd.named Bd.method).1
  have X0 : Stand p l e ({ frames := 0, cells := 0, slots := 0, locals := 0 } : Room) s m #[(.ref a1), (.int nd)] below meth c s₁ [] 0 0 := Stand.of_body Bd
  have e0 : s₁.heap = h0 := by rw [← hh, Bd.state]; rfl
  have N0 := Fr.nil n0
  have pre0 : Goes p e below s₁ (entryFrame m #[(.ref a1), (.int nd)] 2) s₁ (mkF m 0 #[.val (.ref a1), .val (.int nd)] []) := fun t k => castTop (own_ef_own_tags0 m a1 nd) k
  obtain ⟨E_a1, F_roles, F_children, F_roots, F_tags, F_size, V_ch, V_rt, V_tg, g_a1, g_ch, g_rt, g_tg, nac, nar, nat, ncr, nct, nrt⟩ := hT
  have pre1 : Goes p e below s₁ (entryFrame m #[(.ref a1), (.int nd)] 2) s₁ (mkF m 1 #[.val (.ref a1), .val (.int nd)] [(.ref a1)]) := fun t kt => pre0 t (by
      show Steps p.tables e below (s₁.setTop (mkF m 0 #[.val (.ref a1), .val (.int nd)] [])) _
      refine XS.aloadN X0.here hx rfl (hb hby own_dtags0_0) rfl rfl ?_
      exact kt)
  obtain ⟨T2, X2, e2, st2⟩ := getF X0 hx hZ hown (host := "") (Or.inl (hw _ (List.mem_of_getElem? (i := 22) rfl))) Via.refl e0 F_tags (g := (mkF m 1 #[.val (.ref a1), .val (.int nd)] [(.ref a1)])) rfl rfl (hb hby own_dtags0_1)
  have pre3 : Goes p e below s₁ (entryFrame m #[(.ref a1), (.int nd)] 2) T2 (mkF m 4 #[.val (.ref a1), .val (.int nd)] [(.ref tg)]) := fun t kt => pre1 t (st2 t kt)
  have pre4 : Goes p e below s₁ (entryFrame m #[(.ref a1), (.int nd)] 2) T2 (mkF m 5 #[.val (.ref a1), .val (.int nd)] [(.int nd), (.ref tg)]) := fun t kt => pre3 t (by
      show Steps p.tables e below (T2.setTop (mkF m 4 #[.val (.ref a1), .val (.int nd)] [(.ref tg)])) _
      refine XS.iloadN X2.here hx rfl (hb hby own_dtags0_4) rfl ?_
      exact kt)
  obtain ⟨cl5, Ar5, q5, S5, N_5, H5, G5⟩ := (id (V_tg))
  have hin5 : ¬ (nd < 0 ∨ cl5.slots.size ≤ nd.toNatClampNeg) := inb_of S5 hnd
  have hat5 : cl5.slots[nd.toNatClampNeg]? = some .null := Has.at H5 hin5 hv
  have pre6 : Goes p e below s₁ (entryFrame m #[(.ref a1), (.int nd)] 2) T2 (mkF m 9 #[.val (.ref a1), .val (.int nd)] []) := fun t kt => pre4 t (by
      show Steps p.tables e below (T2.setTop (mkF m 5 #[.val (.ref a1), .val (.int nd)] [(.int nd), (.ref tg)])) _
      refine X2.aaload hx (j := nd) (v := .null) (by (try rw [e2]); exact Ar5.1) (State.isArrayOf_alike hZ.alike Ar5.2.1) rfl Ar5.2.2 hin5 hat5 (g := (mkF m 5 #[.val (.ref a1), .val (.int nd)] [(.int nd), (.ref tg)])) rfl rfl (hb hby own_dtags0_5) _ ?_
      show Steps p.tables e below (T2.setTop (mkF m 6 #[.val (.ref a1), .val (.int nd)] [.null])) _
      refine XS.ifnonnullNo X2.here hx rfl (hb hby own_dtags0_6) rfl ?_
      exact kt)
  obtain ⟨T7, X7, e7, st7⟩ := getS2 X2 hx hZ hown (host := "") (Or.inl (hw _ (List.mem_of_getElem? (i := 47) rfl))) Via.refl e2 S_NT (g := (mkF m 9 #[.val (.ref a1), .val (.int nd)] [])) rfl (hb hby own_dtags0_9)
  have pre8 : Goes p e below s₁ (entryFrame m #[(.ref a1), (.int nd)] 2) T7 (mkF m 12 #[.val (.ref a1), .val (.int nd)] [(.ref nt)]) := fun t kt => pre6 t (st7 t kt)
  have pre9 : Goes p e below s₁ (entryFrame m #[(.ref a1), (.int nd)] 2) T7 (mkF m 21 #[.val (.ref a1), .val (.int nd)] [(.ref nt)]) := fun t kt => pre8 t (by
      show Steps p.tables e below (T7.setTop (mkF m 12 #[.val (.ref a1), .val (.int nd)] [(.ref nt)])) _
      refine XS.goto X7.here hx rfl (pc0 := 12) (pc' := 21) rfl (hb hby own_dtags0_12) (by decide) (by decide) ?_
      exact kt)
  obtain ⟨fs, hr, hrun, hended, hW, hsame⟩ := X7.leave (v := some (.ref nt)) (fun h => by rw [Bd.returns] at h; cases h)
  refine ⟨_, _, pre9 _ ?_, hrun, hended, _, _, rfl, ?_, ⟨_, rfl⟩, hW, hsame.mono (by decide) (by decide)⟩
  · show Steps p.tables e below (T7.setTop (mkF m 21 #[.val (.ref a1), .val (.int nd)] [(.ref nt)])) _
    jvm_step X7.here [X7.here.top, hx, (hb hby own_dtags0_21), X7.method', Bd.returns, Value.isRef, FieldType.isReference]
    first | (intro acts; rw [hr _ acts rfl rfl rfl]) | rw [hr _ _ rfl rfl rfl]
    exact Steps.refl _
  · show Q_own_tags0 Z a1 r k ch f rt gg tg kt vts nd nt h0 n0 _ T7.heap _
    rw [e7]
    exact ⟨rfl, N0, rfl⟩

theorem own_dtags1_0 : decode prog_26_method_8_code 0 = .ok (.aload_n 0, 1) := by decide +kernel
theorem own_dtags1_1 : decode prog_26_method_8_code 1 = .ok (.getfield 27, 3) := by decide +kernel
theorem own_dtags1_4 : decode prog_26_method_8_code 4 = .ok (.iload_n 1, 1) := by decide +kernel
theorem own_dtags1_5 : decode prog_26_method_8_code 5 = .ok (.aaload, 1) := by decide +kernel
theorem own_dtags1_6 : decode prog_26_method_8_code 6 = .ok (.ifnonnull 9, 3) := by decide +kernel
theorem own_dtags1_15 : decode prog_26_method_8_code 15 = .ok (.aload_n 0, 1) := by decide +kernel
theorem own_dtags1_16 : decode prog_26_method_8_code 16 = .ok (.getfield 27, 3) := by decide +kernel
theorem own_dtags1_19 : decode prog_26_method_8_code 19 = .ok (.iload_n 1, 1) := by decide +kernel
theorem own_dtags1_20 : decode prog_26_method_8_code 20 = .ok (.aaload, 1) := by decide +kernel
theorem own_dtags1_21 : decode prog_26_method_8_code 21 = .ok (.areturn, 1) := by decide +kernel
theorem own_pn_own_tags1 : plainName "com/example/unicept/unicept/WordTrie" = true := by first | (simp [plainName, overriddenIn]; done) | decide +kernel
theorem own_ef_own_tags1 (m : MethodId) (x0 : Addr) (x1 : Int32) : entryFrame m #[(.ref x0), (.int x1)] 2 = mkF m 0 #[.val (.ref x0), .val (.int x1)] [] := by first | (simp [entryFrame, mkF, argsToLocals, Value.category]; done) | rfl
def Q_own_tags1 (Z : State) (a1 : Addr) (r : Nat) (k : Nat) (ch : Addr) (f : Nat → Int32) (rt : Addr) (gg : Nat → Int32) (tg : Addr) (kt : ClassId) (vts : List Value) (nd : Int32) (y0 : Addr) (h0 : Heap) (n0 : Nat) (v : Option Value) (h : Heap) (L : List Loc) : Prop := v = some (.ref y0) ∧ Fr n0 L ∧ h = h0
set_option maxRecDepth 65536 in
set_option maxHeartbeats 40000000 in
theorem own_tags1 (l : Launch) (Z : State) (a0 : Array Value) (hw : ∀ d ∈ tables_1, d.before a0 Z = true) (ws : List Jvm.Cond) (a1 : Addr) (r : Nat) (k : Nat) (ch : Addr) (f : Nat → Int32) (rt : Addr) (gg : Nat → Int32) (tg : Addr) (kt : ClassId) (vts : List Value) (nd : Int32) (y0 : Addr) (h0 : Heap) (n0 : Nat) (Z0 : n0 ≤ h0.size) (hT : own_TR Z h0 n0 a1 r k ch f rt gg tg kt vts) (hnd : ¬ nd < 0 ∧ nd < (16 : Int32)) (hv : vts.getD nd.toNatClampNeg .null = (.ref y0)) :
    MetFree l (⟨"com/example/unicept/unicept/WordTrie", "tags", "(I)[I"⟩ : MethodName) (head1 (Jvm.Cond.code (⟨"com/example/unicept/unicept/WordTrie", "tags", "(I)[I"⟩ : MethodName) prog_26_method_8_code 2 (some (.array .int)) :: ws) ({ frames := 0, cells := 0, slots := 0, locals := 0 } : Room)) (fun a U => a = #[(.ref a1), (.int nd)] ∧ Z.Warmed39 U.vm ∧ U.heap = h0) (fun _ _ _ _ _ => True) (fun _ U o U' => ∃ v L, o = .returned v ∧ Q_own_tags1 Z a1 r k ch f rt gg tg kt vts nd y0 h0 n0 v U'.heap L ∧ FrameEnd U o U' L ({ frames := 0, cells := 0, slots := 0, locals := 0 } : Room).cells ({ frames := 0, cells := 0, slots := 0, locals := 0 } : Room).slots) := by
  refine MetFree.of_bodySF (plainFor_of_name own_pn_own_tags1) hisR ?_
  intro p e s m args below meth c s₁ Bd hml0 hP hK
  obtain ⟨rfl, hZ, hh⟩ := hP
  have hx := Bd.exec
  have hby := Bd.bytes
  have hml : c.maxLocals = 2 := hml0
  have hown : s.vm.findClass "com/example/unicept/unicept/WordTrie" = some m.cls := findClass_of_methodNamed Bd.named
  have hnm := (name_of_methodNamed Bd.named Bd.method).1
  have X0 : Stand p l e ({ frames := 0, cells := 0, slots := 0, locals := 0 } : Room) s m #[(.ref a1), (.int nd)] below meth c s₁ [] 0 0 := Stand.of_body Bd
  have e0 : s₁.heap = h0 := by rw [← hh, Bd.state]; rfl
  have N0 := Fr.nil n0
  have pre0 : Goes p e below s₁ (entryFrame m #[(.ref a1), (.int nd)] 2) s₁ (mkF m 0 #[.val (.ref a1), .val (.int nd)] []) := fun t k => castTop (own_ef_own_tags1 m a1 nd) k
  obtain ⟨E_a1, F_roles, F_children, F_roots, F_tags, F_size, V_ch, V_rt, V_tg, g_a1, g_ch, g_rt, g_tg, nac, nar, nat, ncr, nct, nrt⟩ := hT
  have pre1 : Goes p e below s₁ (entryFrame m #[(.ref a1), (.int nd)] 2) s₁ (mkF m 1 #[.val (.ref a1), .val (.int nd)] [(.ref a1)]) := fun t kt => pre0 t (by
      show Steps p.tables e below (s₁.setTop (mkF m 0 #[.val (.ref a1), .val (.int nd)] [])) _
      refine XS.aloadN X0.here hx rfl (hb hby own_dtags1_0) rfl rfl ?_
      exact kt)
  obtain ⟨T2, X2, e2, st2⟩ := getF X0 hx hZ hown (host := "") (Or.inl (hw _ (List.mem_of_getElem? (i := 22) rfl))) Via.refl e0 F_tags (g := (mkF m 1 #[.val (.ref a1), .val (.int nd)] [(.ref a1)])) rfl rfl (hb hby own_dtags1_1)
  have pre3 : Goes p e below s₁ (entryFrame m #[(.ref a1), (.int nd)] 2) T2 (mkF m 4 #[.val (.ref a1), .val (.int nd)] [(.ref tg)]) := fun t kt => pre1 t (st2 t kt)
  have pre4 : Goes p e below s₁ (entryFrame m #[(.ref a1), (.int nd)] 2) T2 (mkF m 5 #[.val (.ref a1), .val (.int nd)] [(.int nd), (.ref tg)]) := fun t kt => pre3 t (by
      show Steps p.tables e below (T2.setTop (mkF m 4 #[.val (.ref a1), .val (.int nd)] [(.ref tg)])) _
      refine XS.iloadN X2.here hx rfl (hb hby own_dtags1_4) rfl ?_
      exact kt)
  obtain ⟨cl5, Ar5, q5, S5, N_5, H5, G5⟩ := (id (V_tg))
  have hin5 : ¬ (nd < 0 ∨ cl5.slots.size ≤ nd.toNatClampNeg) := inb_of S5 hnd
  have hat5 : cl5.slots[nd.toNatClampNeg]? = some (.ref y0) := Has.at H5 hin5 hv
  have pre6 : Goes p e below s₁ (entryFrame m #[(.ref a1), (.int nd)] 2) T2 (mkF m 16 #[.val (.ref a1), .val (.int nd)] [(.ref a1)]) := fun t kt => pre4 t (by
      show Steps p.tables e below (T2.setTop (mkF m 5 #[.val (.ref a1), .val (.int nd)] [(.int nd), (.ref tg)])) _
      refine X2.aaload hx (j := nd) (v := (.ref y0)) (by (try rw [e2]); exact Ar5.1) (State.isArrayOf_alike hZ.alike Ar5.2.1) rfl Ar5.2.2 hin5 hat5 (g := (mkF m 5 #[.val (.ref a1), .val (.int nd)] [(.int nd), (.ref tg)])) rfl rfl (hb hby own_dtags1_5) _ ?_
      show Steps p.tables e below (T2.setTop (mkF m 6 #[.val (.ref a1), .val (.int nd)] [(.ref y0)])) _
      refine XS.ifnonnullYes X2.here hx rfl (pc0 := 6) (pc' := 15) rfl (hb hby own_dtags1_6) rfl (by decide) (by decide) ?_
      show Steps p.tables e below (T2.setTop (mkF m 15 #[.val (.ref a1), .val (.int nd)] [])) _
      refine XS.aloadN X2.here hx rfl (hb hby own_dtags1_15) rfl rfl ?_
      exact kt)
  obtain ⟨T7, X7, e7, st7⟩ := getF X2 hx hZ hown (host := "") (Or.inl (hw _ (List.mem_of_getElem? (i := 22) rfl))) Via.refl e2 F_tags (g := (mkF m 16 #[.val (.ref a1), .val (.int nd)] [(.ref a1)])) rfl rfl (hb hby own_dtags1_16)
  have pre8 : Goes p e below s₁ (entryFrame m #[(.ref a1), (.int nd)] 2) T7 (mkF m 19 #[.val (.ref a1), .val (.int nd)] [(.ref tg)]) := fun t kt => pre6 t (st7 t kt)
  have pre9 : Goes p e below s₁ (entryFrame m #[(.ref a1), (.int nd)] 2) T7 (mkF m 20 #[.val (.ref a1), .val (.int nd)] [(.int nd), (.ref tg)]) := fun t kt => pre8 t (by
      show Steps p.tables e below (T7.setTop (mkF m 19 #[.val (.ref a1), .val (.int nd)] [(.ref tg)])) _
      refine XS.iloadN X7.here hx rfl (hb hby own_dtags1_19) rfl ?_
      exact kt)
  obtain ⟨cl10, Ar10, q10, S10, N_10, H10, G10⟩ := (id (V_tg))
  have hin10 : ¬ (nd < 0 ∨ cl10.slots.size ≤ nd.toNatClampNeg) := inb_of S10 hnd
  have hat10 : cl10.slots[nd.toNatClampNeg]? = some (.ref y0) := Has.at H10 hin10 hv
  have pre11 : Goes p e below s₁ (entryFrame m #[(.ref a1), (.int nd)] 2) T7 (mkF m 21 #[.val (.ref a1), .val (.int nd)] [(.ref y0)]) := fun t kt => pre9 t (by
      show Steps p.tables e below (T7.setTop (mkF m 20 #[.val (.ref a1), .val (.int nd)] [(.int nd), (.ref tg)])) _
      refine X7.aaload hx (j := nd) (v := (.ref y0)) (by (try rw [e7]); exact Ar10.1) (State.isArrayOf_alike hZ.alike Ar10.2.1) rfl Ar10.2.2 hin10 hat10 (g := (mkF m 20 #[.val (.ref a1), .val (.int nd)] [(.int nd), (.ref tg)])) rfl rfl (hb hby own_dtags1_20) _ ?_
      exact kt)
  obtain ⟨fs, hr, hrun, hended, hW, hsame⟩ := X7.leave (v := some (.ref y0)) (fun h => by rw [Bd.returns] at h; cases h)
  refine ⟨_, _, pre11 _ ?_, hrun, hended, _, _, rfl, ?_, ⟨_, rfl⟩, hW, hsame.mono (by decide) (by decide)⟩
  · show Steps p.tables e below (T7.setTop (mkF m 21 #[.val (.ref a1), .val (.int nd)] [(.ref y0)])) _
    jvm_step X7.here [X7.here.top, hx, (hb hby own_dtags1_21), X7.method', Bd.returns, Value.isRef, FieldType.isReference]
    first | (intro acts; rw [hr _ acts rfl rfl rfl]) | rw [hr _ _ rfl rfl rfl]
    exact Steps.refl _
  · show Q_own_tags1 Z a1 r k ch f rt gg tg kt vts nd y0 h0 n0 _ T7.heap _
    rw [e7]
    exact ⟨rfl, N0, rfl⟩

theorem own_dsm0_0 : decode method_2_code 0 = .ok (.aload_n 0, 1) := by decide +kernel
theorem own_dsm0_1 : decode method_2_code 1 = .ok (.ifnonnull 5, 3) := by decide +kernel
theorem own_dsm0_6 : decode method_2_code 6 = .ok (.aload_n 0, 1) := by decide +kernel
theorem own_dsm0_7 : decode method_2_code 7 = .ok (.arraylength, 1) := by decide +kernel
theorem own_dsm0_8 : decode method_2_code 8 = .ok (.iload_n 1, 1) := by decide +kernel
theorem own_dsm0_9 : decode method_2_code 9 = .ok (.if_icmp .eq 5, 3) := by decide +kernel
theorem own_dsm0_14 : decode method_2_code 14 = .ok (.iload_n 1, 1) := by decide +kernel
theorem own_dsm0_15 : decode method_2_code 15 = .ok (.iconst 1, 1) := by decide +kernel
theorem own_dsm0_16 : decode method_2_code 16 = .ok (.if_icmp .lt 12, 3) := by decide +kernel
theorem own_dsm0_28 : decode method_2_code 28 = .ok (.iload_n 1, 1) := by decide +kernel
theorem own_dsm0_29 : decode method_2_code 29 = .ok (.iconst 2, 1) := by decide +kernel
theorem own_dsm0_30 : decode method_2_code 30 = .ok (.if_icmp .lt 12, 3) := by decide +kernel
theorem own_dsm0_42 : decode method_2_code 42 = .ok (.iconst 1, 1) := by decide +kernel
theorem own_dsm0_43 : decode method_2_code 43 = .ok (.ireturn, 1) := by decide +kernel
theorem own_pn_own_same0 : plainName "com/example/unicept/unicept/WordTrieTagsPinLaw" = true := by first | (simp [plainName, overriddenIn]; done) | decide +kernel
theorem own_ef_own_same0 (m : MethodId) (x0 : Addr) (x1 : Int32) (x2 : Int32) (x3 : Int32) : entryFrame m #[(.ref x0), (.int x1), (.int x2), (.int x3)] 4 = mkF m 0 #[.val (.ref x0), .val (.int x1), .val (.int x2), .val (.int x3)] [] := by first | (simp [entryFrame, mkF, argsToLocals, Value.category]; done) | rfl
def Q_own_same0 (Z : State) (a1 : Addr) (k1 : ClassId) (px : Int32) (py : Int32) (h0 : Heap) (n0 : Nat) (v : Option Value) (h : Heap) (L : List Loc) : Prop := v = some (.int (1 : Int32)) ∧ Fr n0 L ∧ h = h0
set_option maxRecDepth 65536 in
set_option maxHeartbeats 40000000 in
theorem own_same0 (l : Launch) (Z : State) (a0 : Array Value) (hw : ∀ d ∈ tables_1, d.before a0 Z = true) (ws : List Jvm.Cond) (a1 : Addr) (k1 : ClassId) (px : Int32) (py : Int32) (h0 : Heap) (n0 : Nat) (Z0 : n0 ≤ h0.size) (V_a1 : Arv Z h0 a1 k1 .int (0 : Int32) [] (.int (0 : Int32))) :
    MetFree l (⟨"com/example/unicept/unicept/WordTrieTagsPinLaw", "same", "([IIII)Z"⟩ : MethodName) (head1 (Jvm.Cond.code (⟨"com/example/unicept/unicept/WordTrieTagsPinLaw", "same", "([IIII)Z"⟩ : MethodName) method_2_code 4 (some .boolean) :: ws) ({ frames := 0, cells := 0, slots := 0, locals := 0 } : Room)) (fun a U => a = #[(.ref a1), (.int (0 : Int32)), (.int px), (.int py)] ∧ Z.Warmed39 U.vm ∧ U.heap = h0) (fun _ _ _ _ _ => True) (fun _ U o U' => ∃ v L, o = .returned v ∧ Q_own_same0 Z a1 k1 px py h0 n0 v U'.heap L ∧ FrameEnd U o U' L ({ frames := 0, cells := 0, slots := 0, locals := 0 } : Room).cells ({ frames := 0, cells := 0, slots := 0, locals := 0 } : Room).slots) := by
  refine MetFree.of_bodySF (plainFor_of_name own_pn_own_same0) hisR ?_
  intro p e s m args below meth c s₁ Bd hml0 hP hK
  obtain ⟨rfl, hZ, hh⟩ := hP
  have hx := Bd.exec
  have hby := Bd.bytes
  have hml : c.maxLocals = 4 := hml0
  have hown : s.vm.findClass "com/example/unicept/unicept/WordTrieTagsPinLaw" = some m.cls := findClass_of_methodNamed Bd.named
  have hnm := (name_of_methodNamed Bd.named Bd.method).1
  have X0 : Stand p l e ({ frames := 0, cells := 0, slots := 0, locals := 0 } : Room) s m #[(.ref a1), (.int (0 : Int32)), (.int px), (.int py)] below meth c s₁ [] 0 0 := Stand.of_body Bd
  have e0 : s₁.heap = h0 := by rw [← hh, Bd.state]; rfl
  have N0 := Fr.nil n0
  have pre0 : Goes p e below s₁ (entryFrame m #[(.ref a1), (.int (0 : Int32)), (.int px), (.int py)] 4) s₁ (mkF m 0 #[.val (.ref a1), .val (.int (0 : Int32)), .val (.int px), .val (.int py)] []) := fun t k => castTop (own_ef_own_same0 m a1 (0 : Int32) px py) k
  have pre1 : Goes p e below s₁ (entryFrame m #[(.ref a1), (.int (0 : Int32)), (.int px), (.int py)] 4) s₁ (mkF m 7 #[.val (.ref a1), .val (.int (0 : Int32)), .val (.int px), .val (.int py)] [(.ref a1)]) := fun t kt => pre0 t (by
      show Steps p.tables e below (s₁.setTop (mkF m 0 #[.val (.ref a1), .val (.int (0 : Int32)), .val (.int px), .val (.int py)] [])) _
      refine XS.aloadN X0.here hx rfl (hb hby own_dsm0_0) rfl rfl ?_
      show Steps p.tables e below (s₁.setTop (mkF m 1 #[.val (.ref a1), .val (.int (0 : Int32)), .val (.int px), .val (.int py)] [(.ref a1)])) _
      refine XS.ifnonnullYes X0.here hx rfl (pc0 := 1) (pc' := 6) rfl (hb hby own_dsm0_1) rfl (by decide) (by decide) ?_
      show Steps p.tables e below (s₁.setTop (mkF m 6 #[.val (.ref a1), .val (.int (0 : Int32)), .val (.int px), .val (.int py)] [])) _
      refine XS.aloadN X0.here hx rfl (hb hby own_dsm0_6) rfl rfl ?_
      exact kt)
  obtain ⟨cl2, Ar2, q2, S2, N_2, H2, G2⟩ := (id (V_a1))
  have pre3 : Goes p e below s₁ (entryFrame m #[(.ref a1), (.int (0 : Int32)), (.int px), (.int py)] 4) s₁ (mkF m 43 #[.val (.ref a1), .val (.int (0 : Int32)), .val (.int px), .val (.int py)] [(.int (1 : Int32))]) := fun t kt => pre1 t (by
      show Steps p.tables e below (s₁.setTop (mkF m 7 #[.val (.ref a1), .val (.int (0 : Int32)), .val (.int px), .val (.int py)] [(.ref a1)])) _
      refine X0.arraylength hx (by (try rw [e0]); exact Ar2.1) (State.isArrayOf_alike hZ.alike Ar2.2.1) (g := (mkF m 7 #[.val (.ref a1), .val (.int (0 : Int32)), .val (.int px), .val (.int py)] [(.ref a1)])) rfl rfl (hb hby own_dsm0_7) _ ?_
      rw [len_of S2 N_2]
      show Steps p.tables e below (s₁.setTop (mkF m 8 #[.val (.ref a1), .val (.int (0 : Int32)), .val (.int px), .val (.int py)] [(.int (0 : Int32))])) _
      refine XS.iloadN X0.here hx rfl (hb hby own_dsm0_8) rfl ?_
      show Steps p.tables e below (s₁.setTop (mkF m 9 #[.val (.ref a1), .val (.int (0 : Int32)), .val (.int px), .val (.int py)] [(.int (0 : Int32)), (.int (0 : Int32))])) _
      refine XS.icmpYes X0.here hx rfl (pc0 := 9) (pc' := 14) rfl (hb hby own_dsm0_9) rfl (teq (by decide : (0 : Int32) = (0 : Int32))).1 (by decide) (by decide) ?_
      show Steps p.tables e below (s₁.setTop (mkF m 14 #[.val (.ref a1), .val (.int (0 : Int32)), .val (.int px), .val (.int py)] [])) _
      refine XS.iloadN X0.here hx rfl (hb hby own_dsm0_14) rfl ?_
      show Steps p.tables e below (s₁.setTop (mkF m 15 #[.val (.ref a1), .val (.int (0 : Int32)), .val (.int px), .val (.int py)] [(.int (0 : Int32))])) _
      refine XS.iconst X0.here hx rfl (hb hby own_dsm0_15) ?_
      show Steps p.tables e below (s₁.setTop (mkF m 16 #[.val (.ref a1), .val (.int (0 : Int32)), .val (.int px), .val (.int py)] [(.int (1 : Int32)), (.int (0 : Int32))])) _
      refine XS.icmpYes X0.here hx rfl (pc0 := 16) (pc' := 28) rfl (hb hby own_dsm0_16) rfl (tlt (by decide : (0 : Int32) < (1 : Int32))).1 (by decide) (by decide) ?_
      show Steps p.tables e below (s₁.setTop (mkF m 28 #[.val (.ref a1), .val (.int (0 : Int32)), .val (.int px), .val (.int py)] [])) _
      refine XS.iloadN X0.here hx rfl (hb hby own_dsm0_28) rfl ?_
      show Steps p.tables e below (s₁.setTop (mkF m 29 #[.val (.ref a1), .val (.int (0 : Int32)), .val (.int px), .val (.int py)] [(.int (0 : Int32))])) _
      refine XS.iconst X0.here hx rfl (hb hby own_dsm0_29) ?_
      show Steps p.tables e below (s₁.setTop (mkF m 30 #[.val (.ref a1), .val (.int (0 : Int32)), .val (.int px), .val (.int py)] [(.int (2 : Int32)), (.int (0 : Int32))])) _
      refine XS.icmpYes X0.here hx rfl (pc0 := 30) (pc' := 42) rfl (hb hby own_dsm0_30) rfl (tlt (by decide : (0 : Int32) < (2 : Int32))).1 (by decide) (by decide) ?_
      show Steps p.tables e below (s₁.setTop (mkF m 42 #[.val (.ref a1), .val (.int (0 : Int32)), .val (.int px), .val (.int py)] [])) _
      refine XS.iconst X0.here hx rfl (hb hby own_dsm0_42) ?_
      exact kt)
  obtain ⟨fs, hr, hrun, hended, hW, hsame⟩ := X0.leave (v := some (.int (1 : Int32))) (fun h => by rw [Bd.returns] at h; cases h)
  refine ⟨_, _, pre3 _ ?_, hrun, hended, _, _, rfl, ?_, ⟨_, rfl⟩, hW, hsame.mono (by decide) (by decide)⟩
  · show Steps p.tables e below (s₁.setTop (mkF m 43 #[.val (.ref a1), .val (.int (0 : Int32)), .val (.int px), .val (.int py)] [(.int (1 : Int32))])) _
    exact retN X0 hx (t := .boolean) Bd.returns (by simp) (hb hby own_dsm0_43) hr
  · show Q_own_same0 Z a1 k1 px py h0 n0 _ s₁.heap _
    rw [e0]
    exact ⟨rfl, N0, rfl⟩

theorem own_dsm1_0 : decode method_2_code 0 = .ok (.aload_n 0, 1) := by decide +kernel
theorem own_dsm1_1 : decode method_2_code 1 = .ok (.ifnonnull 5, 3) := by decide +kernel
theorem own_dsm1_6 : decode method_2_code 6 = .ok (.aload_n 0, 1) := by decide +kernel
theorem own_dsm1_7 : decode method_2_code 7 = .ok (.arraylength, 1) := by decide +kernel
theorem own_dsm1_8 : decode method_2_code 8 = .ok (.iload_n 1, 1) := by decide +kernel
theorem own_dsm1_9 : decode method_2_code 9 = .ok (.if_icmp .eq 5, 3) := by decide +kernel
theorem own_dsm1_14 : decode method_2_code 14 = .ok (.iload_n 1, 1) := by decide +kernel
theorem own_dsm1_15 : decode method_2_code 15 = .ok (.iconst 1, 1) := by decide +kernel
theorem own_dsm1_16 : decode method_2_code 16 = .ok (.if_icmp .lt 12, 3) := by decide +kernel
theorem own_dsm1_19 : decode method_2_code 19 = .ok (.aload_n 0, 1) := by decide +kernel
theorem own_dsm1_20 : decode method_2_code 20 = .ok (.iconst 0, 1) := by decide +kernel
theorem own_dsm1_21 : decode method_2_code 21 = .ok (.iaload, 1) := by decide +kernel
theorem own_dsm1_22 : decode method_2_code 22 = .ok (.iload_n 2, 1) := by decide +kernel
theorem own_dsm1_23 : decode method_2_code 23 = .ok (.if_icmp .eq 5, 3) := by decide +kernel
theorem own_dsm1_28 : decode method_2_code 28 = .ok (.iload_n 1, 1) := by decide +kernel
theorem own_dsm1_29 : decode method_2_code 29 = .ok (.iconst 2, 1) := by decide +kernel
theorem own_dsm1_30 : decode method_2_code 30 = .ok (.if_icmp .lt 12, 3) := by decide +kernel
theorem own_dsm1_42 : decode method_2_code 42 = .ok (.iconst 1, 1) := by decide +kernel
theorem own_dsm1_43 : decode method_2_code 43 = .ok (.ireturn, 1) := by decide +kernel
theorem own_pn_own_same1 : plainName "com/example/unicept/unicept/WordTrieTagsPinLaw" = true := by first | (simp [plainName, overriddenIn]; done) | decide +kernel
theorem own_ef_own_same1 (m : MethodId) (x0 : Addr) (x1 : Int32) (x2 : Int32) (x3 : Int32) : entryFrame m #[(.ref x0), (.int x1), (.int x2), (.int x3)] 4 = mkF m 0 #[.val (.ref x0), .val (.int x1), .val (.int x2), .val (.int x3)] [] := by first | (simp [entryFrame, mkF, argsToLocals, Value.category]; done) | rfl
def Q_own_same1 (Z : State) (a1 : Addr) (k1 : ClassId) (px : Int32) (py : Int32) (h0 : Heap) (n0 : Nat) (v : Option Value) (h : Heap) (L : List Loc) : Prop := v = some (.int (1 : Int32)) ∧ Fr n0 L ∧ h = h0
set_option maxRecDepth 65536 in
set_option maxHeartbeats 40000000 in
theorem own_same1 (l : Launch) (Z : State) (a0 : Array Value) (hw : ∀ d ∈ tables_1, d.before a0 Z = true) (ws : List Jvm.Cond) (a1 : Addr) (k1 : ClassId) (px : Int32) (py : Int32) (h0 : Heap) (n0 : Nat) (Z0 : n0 ≤ h0.size) (V_a1 : Arv Z h0 a1 k1 .int (1 : Int32) [(.int px)] (.int (0 : Int32))) :
    MetFree l (⟨"com/example/unicept/unicept/WordTrieTagsPinLaw", "same", "([IIII)Z"⟩ : MethodName) (head1 (Jvm.Cond.code (⟨"com/example/unicept/unicept/WordTrieTagsPinLaw", "same", "([IIII)Z"⟩ : MethodName) method_2_code 4 (some .boolean) :: ws) ({ frames := 0, cells := 0, slots := 0, locals := 0 } : Room)) (fun a U => a = #[(.ref a1), (.int (1 : Int32)), (.int px), (.int py)] ∧ Z.Warmed39 U.vm ∧ U.heap = h0) (fun _ _ _ _ _ => True) (fun _ U o U' => ∃ v L, o = .returned v ∧ Q_own_same1 Z a1 k1 px py h0 n0 v U'.heap L ∧ FrameEnd U o U' L ({ frames := 0, cells := 0, slots := 0, locals := 0 } : Room).cells ({ frames := 0, cells := 0, slots := 0, locals := 0 } : Room).slots) := by
  refine MetFree.of_bodySF (plainFor_of_name own_pn_own_same1) hisR ?_
  intro p e s m args below meth c s₁ Bd hml0 hP hK
  obtain ⟨rfl, hZ, hh⟩ := hP
  have hx := Bd.exec
  have hby := Bd.bytes
  have hml : c.maxLocals = 4 := hml0
  have hown : s.vm.findClass "com/example/unicept/unicept/WordTrieTagsPinLaw" = some m.cls := findClass_of_methodNamed Bd.named
  have hnm := (name_of_methodNamed Bd.named Bd.method).1
  have X0 : Stand p l e ({ frames := 0, cells := 0, slots := 0, locals := 0 } : Room) s m #[(.ref a1), (.int (1 : Int32)), (.int px), (.int py)] below meth c s₁ [] 0 0 := Stand.of_body Bd
  have e0 : s₁.heap = h0 := by rw [← hh, Bd.state]; rfl
  have N0 := Fr.nil n0
  have pre0 : Goes p e below s₁ (entryFrame m #[(.ref a1), (.int (1 : Int32)), (.int px), (.int py)] 4) s₁ (mkF m 0 #[.val (.ref a1), .val (.int (1 : Int32)), .val (.int px), .val (.int py)] []) := fun t k => castTop (own_ef_own_same1 m a1 (1 : Int32) px py) k
  have pre1 : Goes p e below s₁ (entryFrame m #[(.ref a1), (.int (1 : Int32)), (.int px), (.int py)] 4) s₁ (mkF m 7 #[.val (.ref a1), .val (.int (1 : Int32)), .val (.int px), .val (.int py)] [(.ref a1)]) := fun t kt => pre0 t (by
      show Steps p.tables e below (s₁.setTop (mkF m 0 #[.val (.ref a1), .val (.int (1 : Int32)), .val (.int px), .val (.int py)] [])) _
      refine XS.aloadN X0.here hx rfl (hb hby own_dsm1_0) rfl rfl ?_
      show Steps p.tables e below (s₁.setTop (mkF m 1 #[.val (.ref a1), .val (.int (1 : Int32)), .val (.int px), .val (.int py)] [(.ref a1)])) _
      refine XS.ifnonnullYes X0.here hx rfl (pc0 := 1) (pc' := 6) rfl (hb hby own_dsm1_1) rfl (by decide) (by decide) ?_
      show Steps p.tables e below (s₁.setTop (mkF m 6 #[.val (.ref a1), .val (.int (1 : Int32)), .val (.int px), .val (.int py)] [])) _
      refine XS.aloadN X0.here hx rfl (hb hby own_dsm1_6) rfl rfl ?_
      exact kt)
  obtain ⟨cl2, Ar2, q2, S2, N_2, H2, G2⟩ := (id (V_a1))
  have pre3 : Goes p e below s₁ (entryFrame m #[(.ref a1), (.int (1 : Int32)), (.int px), (.int py)] 4) s₁ (mkF m 21 #[.val (.ref a1), .val (.int (1 : Int32)), .val (.int px), .val (.int py)] [(.int (0 : Int32)), (.ref a1)]) := fun t kt => pre1 t (by
      show Steps p.tables e below (s₁.setTop (mkF m 7 #[.val (.ref a1), .val (.int (1 : Int32)), .val (.int px), .val (.int py)] [(.ref a1)])) _
      refine X0.arraylength hx (by (try rw [e0]); exact Ar2.1) (State.isArrayOf_alike hZ.alike Ar2.2.1) (g := (mkF m 7 #[.val (.ref a1), .val (.int (1 : Int32)), .val (.int px), .val (.int py)] [(.ref a1)])) rfl rfl (hb hby own_dsm1_7) _ ?_
      rw [len_of S2 N_2]
      show Steps p.tables e below (s₁.setTop (mkF m 8 #[.val (.ref a1), .val (.int (1 : Int32)), .val (.int px), .val (.int py)] [(.int (1 : Int32))])) _
      refine XS.iloadN X0.here hx rfl (hb hby own_dsm1_8) rfl ?_
      show Steps p.tables e below (s₁.setTop (mkF m 9 #[.val (.ref a1), .val (.int (1 : Int32)), .val (.int px), .val (.int py)] [(.int (1 : Int32)), (.int (1 : Int32))])) _
      refine XS.icmpYes X0.here hx rfl (pc0 := 9) (pc' := 14) rfl (hb hby own_dsm1_9) rfl (teq (by decide : (1 : Int32) = (1 : Int32))).1 (by decide) (by decide) ?_
      show Steps p.tables e below (s₁.setTop (mkF m 14 #[.val (.ref a1), .val (.int (1 : Int32)), .val (.int px), .val (.int py)] [])) _
      refine XS.iloadN X0.here hx rfl (hb hby own_dsm1_14) rfl ?_
      show Steps p.tables e below (s₁.setTop (mkF m 15 #[.val (.ref a1), .val (.int (1 : Int32)), .val (.int px), .val (.int py)] [(.int (1 : Int32))])) _
      refine XS.iconst X0.here hx rfl (hb hby own_dsm1_15) ?_
      show Steps p.tables e below (s₁.setTop (mkF m 16 #[.val (.ref a1), .val (.int (1 : Int32)), .val (.int px), .val (.int py)] [(.int (1 : Int32)), (.int (1 : Int32))])) _
      refine XS.icmpNo X0.here hx rfl (hb hby own_dsm1_16) rfl (flt (by decide : ¬ ((1 : Int32) < (1 : Int32)))).1 ?_
      show Steps p.tables e below (s₁.setTop (mkF m 19 #[.val (.ref a1), .val (.int (1 : Int32)), .val (.int px), .val (.int py)] [])) _
      refine XS.aloadN X0.here hx rfl (hb hby own_dsm1_19) rfl rfl ?_
      show Steps p.tables e below (s₁.setTop (mkF m 20 #[.val (.ref a1), .val (.int (1 : Int32)), .val (.int px), .val (.int py)] [(.ref a1)])) _
      refine XS.iconst X0.here hx rfl (hb hby own_dsm1_20) ?_
      exact kt)
  obtain ⟨cl4, Ar4, q4, S4, N_4, H4, G4⟩ := (id (V_a1))
  have hin4 : ¬ ((0 : Int32) < 0 ∨ cl4.slots.size ≤ ((0 : Int32)).toNatClampNeg) := inb_of S4 ⟨by decide, by decide⟩
  have hat4 : cl4.slots[((0 : Int32)).toNatClampNeg]? = some (.int px) := Has.at H4 hin4 rfl
  have pre5 : Goes p e below s₁ (entryFrame m #[(.ref a1), (.int (1 : Int32)), (.int px), (.int py)] 4) s₁ (mkF m 43 #[.val (.ref a1), .val (.int (1 : Int32)), .val (.int px), .val (.int py)] [(.int (1 : Int32))]) := fun t kt => pre3 t (by
      show Steps p.tables e below (s₁.setTop (mkF m 21 #[.val (.ref a1), .val (.int (1 : Int32)), .val (.int px), .val (.int py)] [(.int (0 : Int32)), (.ref a1)])) _
      refine X0.iaload hx (j := (0 : Int32)) (v := (.int px)) (by (try rw [e0]); exact Ar4.1) (State.isArrayOf_alike hZ.alike Ar4.2.1) Ar4.2.2 hin4 hat4 (g := (mkF m 21 #[.val (.ref a1), .val (.int (1 : Int32)), .val (.int px), .val (.int py)] [(.int (0 : Int32)), (.ref a1)])) rfl rfl (hb hby own_dsm1_21) _ ?_
      show Steps p.tables e below (s₁.setTop (mkF m 22 #[.val (.ref a1), .val (.int (1 : Int32)), .val (.int px), .val (.int py)] [(.int px)])) _
      refine XS.iloadN X0.here hx rfl (hb hby own_dsm1_22) rfl ?_
      show Steps p.tables e below (s₁.setTop (mkF m 23 #[.val (.ref a1), .val (.int (1 : Int32)), .val (.int px), .val (.int py)] [(.int px), (.int px)])) _
      refine XS.icmpYes X0.here hx rfl (pc0 := 23) (pc' := 28) rfl (hb hby own_dsm1_23) rfl (teq (rfl : px = px)).1 (by decide) (by decide) ?_
      show Steps p.tables e below (s₁.setTop (mkF m 28 #[.val (.ref a1), .val (.int (1 : Int32)), .val (.int px), .val (.int py)] [])) _
      refine XS.iloadN X0.here hx rfl (hb hby own_dsm1_28) rfl ?_
      show Steps p.tables e below (s₁.setTop (mkF m 29 #[.val (.ref a1), .val (.int (1 : Int32)), .val (.int px), .val (.int py)] [(.int (1 : Int32))])) _
      refine XS.iconst X0.here hx rfl (hb hby own_dsm1_29) ?_
      show Steps p.tables e below (s₁.setTop (mkF m 30 #[.val (.ref a1), .val (.int (1 : Int32)), .val (.int px), .val (.int py)] [(.int (2 : Int32)), (.int (1 : Int32))])) _
      refine XS.icmpYes X0.here hx rfl (pc0 := 30) (pc' := 42) rfl (hb hby own_dsm1_30) rfl (tlt (by decide : (1 : Int32) < (2 : Int32))).1 (by decide) (by decide) ?_
      show Steps p.tables e below (s₁.setTop (mkF m 42 #[.val (.ref a1), .val (.int (1 : Int32)), .val (.int px), .val (.int py)] [])) _
      refine XS.iconst X0.here hx rfl (hb hby own_dsm1_42) ?_
      exact kt)
  obtain ⟨fs, hr, hrun, hended, hW, hsame⟩ := X0.leave (v := some (.int (1 : Int32))) (fun h => by rw [Bd.returns] at h; cases h)
  refine ⟨_, _, pre5 _ ?_, hrun, hended, _, _, rfl, ?_, ⟨_, rfl⟩, hW, hsame.mono (by decide) (by decide)⟩
  · show Steps p.tables e below (s₁.setTop (mkF m 43 #[.val (.ref a1), .val (.int (1 : Int32)), .val (.int px), .val (.int py)] [(.int (1 : Int32))])) _
    exact retN X0 hx (t := .boolean) Bd.returns (by simp) (hb hby own_dsm1_43) hr
  · show Q_own_same1 Z a1 k1 px py h0 n0 _ s₁.heap _
    rw [e0]
    exact ⟨rfl, N0, rfl⟩

theorem own_dsm2_0 : decode method_2_code 0 = .ok (.aload_n 0, 1) := by decide +kernel
theorem own_dsm2_1 : decode method_2_code 1 = .ok (.ifnonnull 5, 3) := by decide +kernel
theorem own_dsm2_6 : decode method_2_code 6 = .ok (.aload_n 0, 1) := by decide +kernel
theorem own_dsm2_7 : decode method_2_code 7 = .ok (.arraylength, 1) := by decide +kernel
theorem own_dsm2_8 : decode method_2_code 8 = .ok (.iload_n 1, 1) := by decide +kernel
theorem own_dsm2_9 : decode method_2_code 9 = .ok (.if_icmp .eq 5, 3) := by decide +kernel
theorem own_dsm2_14 : decode method_2_code 14 = .ok (.iload_n 1, 1) := by decide +kernel
theorem own_dsm2_15 : decode method_2_code 15 = .ok (.iconst 1, 1) := by decide +kernel
theorem own_dsm2_16 : decode method_2_code 16 = .ok (.if_icmp .lt 12, 3) := by decide +kernel
theorem own_dsm2_19 : decode method_2_code 19 = .ok (.aload_n 0, 1) := by decide +kernel
theorem own_dsm2_20 : decode method_2_code 20 = .ok (.iconst 0, 1) := by decide +kernel
theorem own_dsm2_21 : decode method_2_code 21 = .ok (.iaload, 1) := by decide +kernel
theorem own_dsm2_22 : decode method_2_code 22 = .ok (.iload_n 2, 1) := by decide +kernel
theorem own_dsm2_23 : decode method_2_code 23 = .ok (.if_icmp .eq 5, 3) := by decide +kernel
theorem own_dsm2_28 : decode method_2_code 28 = .ok (.iload_n 1, 1) := by decide +kernel
theorem own_dsm2_29 : decode method_2_code 29 = .ok (.iconst 2, 1) := by decide +kernel
theorem own_dsm2_30 : decode method_2_code 30 = .ok (.if_icmp .lt 12, 3) := by decide +kernel
theorem own_dsm2_33 : decode method_2_code 33 = .ok (.aload_n 0, 1) := by decide +kernel
theorem own_dsm2_34 : decode method_2_code 34 = .ok (.iconst 1, 1) := by decide +kernel
theorem own_dsm2_35 : decode method_2_code 35 = .ok (.iaload, 1) := by decide +kernel
theorem own_dsm2_36 : decode method_2_code 36 = .ok (.iload_n 3, 1) := by decide +kernel
theorem own_dsm2_37 : decode method_2_code 37 = .ok (.if_icmp .eq 5, 3) := by decide +kernel
theorem own_dsm2_42 : decode method_2_code 42 = .ok (.iconst 1, 1) := by decide +kernel
theorem own_dsm2_43 : decode method_2_code 43 = .ok (.ireturn, 1) := by decide +kernel
theorem own_pn_own_same2 : plainName "com/example/unicept/unicept/WordTrieTagsPinLaw" = true := by first | (simp [plainName, overriddenIn]; done) | decide +kernel
theorem own_ef_own_same2 (m : MethodId) (x0 : Addr) (x1 : Int32) (x2 : Int32) (x3 : Int32) : entryFrame m #[(.ref x0), (.int x1), (.int x2), (.int x3)] 4 = mkF m 0 #[.val (.ref x0), .val (.int x1), .val (.int x2), .val (.int x3)] [] := by first | (simp [entryFrame, mkF, argsToLocals, Value.category]; done) | rfl
def Q_own_same2 (Z : State) (a1 : Addr) (k1 : ClassId) (px : Int32) (py : Int32) (h0 : Heap) (n0 : Nat) (v : Option Value) (h : Heap) (L : List Loc) : Prop := v = some (.int (1 : Int32)) ∧ Fr n0 L ∧ h = h0
set_option maxRecDepth 65536 in
set_option maxHeartbeats 40000000 in
theorem own_same2 (l : Launch) (Z : State) (a0 : Array Value) (hw : ∀ d ∈ tables_1, d.before a0 Z = true) (ws : List Jvm.Cond) (a1 : Addr) (k1 : ClassId) (px : Int32) (py : Int32) (h0 : Heap) (n0 : Nat) (Z0 : n0 ≤ h0.size) (V_a1 : Arv Z h0 a1 k1 .int (2 : Int32) [(.int px), (.int py)] (.int (0 : Int32))) :
    MetFree l (⟨"com/example/unicept/unicept/WordTrieTagsPinLaw", "same", "([IIII)Z"⟩ : MethodName) (head1 (Jvm.Cond.code (⟨"com/example/unicept/unicept/WordTrieTagsPinLaw", "same", "([IIII)Z"⟩ : MethodName) method_2_code 4 (some .boolean) :: ws) ({ frames := 0, cells := 0, slots := 0, locals := 0 } : Room)) (fun a U => a = #[(.ref a1), (.int (2 : Int32)), (.int px), (.int py)] ∧ Z.Warmed39 U.vm ∧ U.heap = h0) (fun _ _ _ _ _ => True) (fun _ U o U' => ∃ v L, o = .returned v ∧ Q_own_same2 Z a1 k1 px py h0 n0 v U'.heap L ∧ FrameEnd U o U' L ({ frames := 0, cells := 0, slots := 0, locals := 0 } : Room).cells ({ frames := 0, cells := 0, slots := 0, locals := 0 } : Room).slots) := by
  refine MetFree.of_bodySF (plainFor_of_name own_pn_own_same2) hisR ?_
  intro p e s m args below meth c s₁ Bd hml0 hP hK
  obtain ⟨rfl, hZ, hh⟩ := hP
  have hx := Bd.exec
  have hby := Bd.bytes
  have hml : c.maxLocals = 4 := hml0
  have hown : s.vm.findClass "com/example/unicept/unicept/WordTrieTagsPinLaw" = some m.cls := findClass_of_methodNamed Bd.named
  have hnm := (name_of_methodNamed Bd.named Bd.method).1
  have X0 : Stand p l e ({ frames := 0, cells := 0, slots := 0, locals := 0 } : Room) s m #[(.ref a1), (.int (2 : Int32)), (.int px), (.int py)] below meth c s₁ [] 0 0 := Stand.of_body Bd
  have e0 : s₁.heap = h0 := by rw [← hh, Bd.state]; rfl
  have N0 := Fr.nil n0
  have pre0 : Goes p e below s₁ (entryFrame m #[(.ref a1), (.int (2 : Int32)), (.int px), (.int py)] 4) s₁ (mkF m 0 #[.val (.ref a1), .val (.int (2 : Int32)), .val (.int px), .val (.int py)] []) := fun t k => castTop (own_ef_own_same2 m a1 (2 : Int32) px py) k
  have pre1 : Goes p e below s₁ (entryFrame m #[(.ref a1), (.int (2 : Int32)), (.int px), (.int py)] 4) s₁ (mkF m 7 #[.val (.ref a1), .val (.int (2 : Int32)), .val (.int px), .val (.int py)] [(.ref a1)]) := fun t kt => pre0 t (by
      show Steps p.tables e below (s₁.setTop (mkF m 0 #[.val (.ref a1), .val (.int (2 : Int32)), .val (.int px), .val (.int py)] [])) _
      refine XS.aloadN X0.here hx rfl (hb hby own_dsm2_0) rfl rfl ?_
      show Steps p.tables e below (s₁.setTop (mkF m 1 #[.val (.ref a1), .val (.int (2 : Int32)), .val (.int px), .val (.int py)] [(.ref a1)])) _
      refine XS.ifnonnullYes X0.here hx rfl (pc0 := 1) (pc' := 6) rfl (hb hby own_dsm2_1) rfl (by decide) (by decide) ?_
      show Steps p.tables e below (s₁.setTop (mkF m 6 #[.val (.ref a1), .val (.int (2 : Int32)), .val (.int px), .val (.int py)] [])) _
      refine XS.aloadN X0.here hx rfl (hb hby own_dsm2_6) rfl rfl ?_
      exact kt)
  obtain ⟨cl2, Ar2, q2, S2, N_2, H2, G2⟩ := (id (V_a1))
  have pre3 : Goes p e below s₁ (entryFrame m #[(.ref a1), (.int (2 : Int32)), (.int px), (.int py)] 4) s₁ (mkF m 21 #[.val (.ref a1), .val (.int (2 : Int32)), .val (.int px), .val (.int py)] [(.int (0 : Int32)), (.ref a1)]) := fun t kt => pre1 t (by
      show Steps p.tables e below (s₁.setTop (mkF m 7 #[.val (.ref a1), .val (.int (2 : Int32)), .val (.int px), .val (.int py)] [(.ref a1)])) _
      refine X0.arraylength hx (by (try rw [e0]); exact Ar2.1) (State.isArrayOf_alike hZ.alike Ar2.2.1) (g := (mkF m 7 #[.val (.ref a1), .val (.int (2 : Int32)), .val (.int px), .val (.int py)] [(.ref a1)])) rfl rfl (hb hby own_dsm2_7) _ ?_
      rw [len_of S2 N_2]
      show Steps p.tables e below (s₁.setTop (mkF m 8 #[.val (.ref a1), .val (.int (2 : Int32)), .val (.int px), .val (.int py)] [(.int (2 : Int32))])) _
      refine XS.iloadN X0.here hx rfl (hb hby own_dsm2_8) rfl ?_
      show Steps p.tables e below (s₁.setTop (mkF m 9 #[.val (.ref a1), .val (.int (2 : Int32)), .val (.int px), .val (.int py)] [(.int (2 : Int32)), (.int (2 : Int32))])) _
      refine XS.icmpYes X0.here hx rfl (pc0 := 9) (pc' := 14) rfl (hb hby own_dsm2_9) rfl (teq (by decide : (2 : Int32) = (2 : Int32))).1 (by decide) (by decide) ?_
      show Steps p.tables e below (s₁.setTop (mkF m 14 #[.val (.ref a1), .val (.int (2 : Int32)), .val (.int px), .val (.int py)] [])) _
      refine XS.iloadN X0.here hx rfl (hb hby own_dsm2_14) rfl ?_
      show Steps p.tables e below (s₁.setTop (mkF m 15 #[.val (.ref a1), .val (.int (2 : Int32)), .val (.int px), .val (.int py)] [(.int (2 : Int32))])) _
      refine XS.iconst X0.here hx rfl (hb hby own_dsm2_15) ?_
      show Steps p.tables e below (s₁.setTop (mkF m 16 #[.val (.ref a1), .val (.int (2 : Int32)), .val (.int px), .val (.int py)] [(.int (1 : Int32)), (.int (2 : Int32))])) _
      refine XS.icmpNo X0.here hx rfl (hb hby own_dsm2_16) rfl (flt (by decide : ¬ ((2 : Int32) < (1 : Int32)))).1 ?_
      show Steps p.tables e below (s₁.setTop (mkF m 19 #[.val (.ref a1), .val (.int (2 : Int32)), .val (.int px), .val (.int py)] [])) _
      refine XS.aloadN X0.here hx rfl (hb hby own_dsm2_19) rfl rfl ?_
      show Steps p.tables e below (s₁.setTop (mkF m 20 #[.val (.ref a1), .val (.int (2 : Int32)), .val (.int px), .val (.int py)] [(.ref a1)])) _
      refine XS.iconst X0.here hx rfl (hb hby own_dsm2_20) ?_
      exact kt)
  obtain ⟨cl4, Ar4, q4, S4, N_4, H4, G4⟩ := (id (V_a1))
  have hin4 : ¬ ((0 : Int32) < 0 ∨ cl4.slots.size ≤ ((0 : Int32)).toNatClampNeg) := inb_of S4 ⟨by decide, by decide⟩
  have hat4 : cl4.slots[((0 : Int32)).toNatClampNeg]? = some (.int px) := Has.at H4 hin4 rfl
  have pre5 : Goes p e below s₁ (entryFrame m #[(.ref a1), (.int (2 : Int32)), (.int px), (.int py)] 4) s₁ (mkF m 35 #[.val (.ref a1), .val (.int (2 : Int32)), .val (.int px), .val (.int py)] [(.int (1 : Int32)), (.ref a1)]) := fun t kt => pre3 t (by
      show Steps p.tables e below (s₁.setTop (mkF m 21 #[.val (.ref a1), .val (.int (2 : Int32)), .val (.int px), .val (.int py)] [(.int (0 : Int32)), (.ref a1)])) _
      refine X0.iaload hx (j := (0 : Int32)) (v := (.int px)) (by (try rw [e0]); exact Ar4.1) (State.isArrayOf_alike hZ.alike Ar4.2.1) Ar4.2.2 hin4 hat4 (g := (mkF m 21 #[.val (.ref a1), .val (.int (2 : Int32)), .val (.int px), .val (.int py)] [(.int (0 : Int32)), (.ref a1)])) rfl rfl (hb hby own_dsm2_21) _ ?_
      show Steps p.tables e below (s₁.setTop (mkF m 22 #[.val (.ref a1), .val (.int (2 : Int32)), .val (.int px), .val (.int py)] [(.int px)])) _
      refine XS.iloadN X0.here hx rfl (hb hby own_dsm2_22) rfl ?_
      show Steps p.tables e below (s₁.setTop (mkF m 23 #[.val (.ref a1), .val (.int (2 : Int32)), .val (.int px), .val (.int py)] [(.int px), (.int px)])) _
      refine XS.icmpYes X0.here hx rfl (pc0 := 23) (pc' := 28) rfl (hb hby own_dsm2_23) rfl (teq (rfl : px = px)).1 (by decide) (by decide) ?_
      show Steps p.tables e below (s₁.setTop (mkF m 28 #[.val (.ref a1), .val (.int (2 : Int32)), .val (.int px), .val (.int py)] [])) _
      refine XS.iloadN X0.here hx rfl (hb hby own_dsm2_28) rfl ?_
      show Steps p.tables e below (s₁.setTop (mkF m 29 #[.val (.ref a1), .val (.int (2 : Int32)), .val (.int px), .val (.int py)] [(.int (2 : Int32))])) _
      refine XS.iconst X0.here hx rfl (hb hby own_dsm2_29) ?_
      show Steps p.tables e below (s₁.setTop (mkF m 30 #[.val (.ref a1), .val (.int (2 : Int32)), .val (.int px), .val (.int py)] [(.int (2 : Int32)), (.int (2 : Int32))])) _
      refine XS.icmpNo X0.here hx rfl (hb hby own_dsm2_30) rfl (flt (by decide : ¬ ((2 : Int32) < (2 : Int32)))).1 ?_
      show Steps p.tables e below (s₁.setTop (mkF m 33 #[.val (.ref a1), .val (.int (2 : Int32)), .val (.int px), .val (.int py)] [])) _
      refine XS.aloadN X0.here hx rfl (hb hby own_dsm2_33) rfl rfl ?_
      show Steps p.tables e below (s₁.setTop (mkF m 34 #[.val (.ref a1), .val (.int (2 : Int32)), .val (.int px), .val (.int py)] [(.ref a1)])) _
      refine XS.iconst X0.here hx rfl (hb hby own_dsm2_34) ?_
      exact kt)
  obtain ⟨cl6, Ar6, q6, S6, N_6, H6, G6⟩ := (id (V_a1))
  have hin6 : ¬ ((1 : Int32) < 0 ∨ cl6.slots.size ≤ ((1 : Int32)).toNatClampNeg) := inb_of S6 ⟨by decide, by decide⟩
  have hat6 : cl6.slots[((1 : Int32)).toNatClampNeg]? = some (.int py) := Has.at H6 hin6 rfl
  have pre7 : Goes p e below s₁ (entryFrame m #[(.ref a1), (.int (2 : Int32)), (.int px), (.int py)] 4) s₁ (mkF m 43 #[.val (.ref a1), .val (.int (2 : Int32)), .val (.int px), .val (.int py)] [(.int (1 : Int32))]) := fun t kt => pre5 t (by
      show Steps p.tables e below (s₁.setTop (mkF m 35 #[.val (.ref a1), .val (.int (2 : Int32)), .val (.int px), .val (.int py)] [(.int (1 : Int32)), (.ref a1)])) _
      refine X0.iaload hx (j := (1 : Int32)) (v := (.int py)) (by (try rw [e0]); exact Ar6.1) (State.isArrayOf_alike hZ.alike Ar6.2.1) Ar6.2.2 hin6 hat6 (g := (mkF m 35 #[.val (.ref a1), .val (.int (2 : Int32)), .val (.int px), .val (.int py)] [(.int (1 : Int32)), (.ref a1)])) rfl rfl (hb hby own_dsm2_35) _ ?_
      show Steps p.tables e below (s₁.setTop (mkF m 36 #[.val (.ref a1), .val (.int (2 : Int32)), .val (.int px), .val (.int py)] [(.int py)])) _
      refine XS.iloadN X0.here hx rfl (hb hby own_dsm2_36) rfl ?_
      show Steps p.tables e below (s₁.setTop (mkF m 37 #[.val (.ref a1), .val (.int (2 : Int32)), .val (.int px), .val (.int py)] [(.int py), (.int py)])) _
      refine XS.icmpYes X0.here hx rfl (pc0 := 37) (pc' := 42) rfl (hb hby own_dsm2_37) rfl (teq (rfl : py = py)).1 (by decide) (by decide) ?_
      show Steps p.tables e below (s₁.setTop (mkF m 42 #[.val (.ref a1), .val (.int (2 : Int32)), .val (.int px), .val (.int py)] [])) _
      refine XS.iconst X0.here hx rfl (hb hby own_dsm2_42) ?_
      exact kt)
  obtain ⟨fs, hr, hrun, hended, hW, hsame⟩ := X0.leave (v := some (.int (1 : Int32))) (fun h => by rw [Bd.returns] at h; cases h)
  refine ⟨_, _, pre7 _ ?_, hrun, hended, _, _, rfl, ?_, ⟨_, rfl⟩, hW, hsame.mono (by decide) (by decide)⟩
  · show Steps p.tables e below (s₁.setTop (mkF m 43 #[.val (.ref a1), .val (.int (2 : Int32)), .val (.int px), .val (.int py)] [(.int (1 : Int32))])) _
    exact retN X0 hx (t := .boolean) Bd.returns (by simp) (hb hby own_dsm2_43) hr
  · show Q_own_same2 Z a1 k1 px py h0 n0 _ s₁.heap _
    rw [e0]
    exact ⟨rfl, N0, rfl⟩
theorem own_pn_own_rm0 : plainName "com/example/unicept/unicept/WordTrieTagsPinLaw" = true := by first | (simp [plainName, overriddenIn]; done) | decide +kernel
theorem own_ef_own_rm0 (m : MethodId) (x0 : Int32) (x1 : Int32) (x2 : Int32) (x3 : Int32) : entryFrame m #[(.int x0), (.int x1), (.int x2), (.int x3)] maxLocals = mkF m 0 #[.val (.int x0), .val (.int x1), .val (.int x2), .val (.int x3), .unset, .unset, .unset, .unset, .unset, .unset, .unset, .unset, .unset, .unset] [] := by first | (simp [entryFrame, mkF, argsToLocals, Value.category, maxLocals]; done) | rfl
def Q_own_rm0 (Z : State) (mask : Int32) (t1 : Int32) (t2 : Int32) (t3 : Int32) (nt : Addr) (kn : ClassId) (h0 : Heap) (n0 : Nat) (v : Option Value) (h : Heap) (L : List Loc) : Prop := v = some (.int (1 : Int32)) ∧ Fr n0 L
set_option maxRecDepth 65536 in
set_option maxHeartbeats 40000000 in
theorem own_rm0 (l : Launch) (Z : State) (a0 : Array Value) (hw : ∀ d ∈ tables_1, d.before a0 Z = true) (ws : List Jvm.Cond) (mask : Int32) (t1 : Int32) (t2 : Int32) (t3 : Int32) (nt : Addr) (kn : ClassId) (h0 : Heap) (n0 : Nat) (Z0 : n0 ≤ h0.size) (S_NT : Sta Z Z.heap "com/example/unicept/unicept/WordTrie" "NO_TAGS" "[I" (.ref nt)) (O0 : Old Z n0 h0) (V_nt : Arv Z h0 nt kn .int (0 : Int32) [] (.int (0 : Int32))) :
    MetFree l x (head1 (Jvm.Cond.code x code maxLocals ret :: ws) room_1) (fun a U => a = #[(.int mask), (.int t1), (.int t2), (.int t3)] ∧ Z.Warmed39 U.vm ∧ U.heap = h0) (fun _ _ _ _ _ => True) (fun _ U o U' => ∃ v L, o = .returned v ∧ Q_own_rm0 Z mask t1 t2 t3 nt kn h0 n0 v U'.heap L ∧ FrameEnd U o U' L room_1.cells room_1.slots) := by
  refine MetFree.of_bodySF (plainFor_of_name own_pn_own_rm0) hisR ?_
  intro p e s m args below meth c s₁ Bd hml0 hP hK
  obtain ⟨rfl, hZ, hh⟩ := hP
  have hx := Bd.exec
  have hby := Bd.bytes
  have hml : c.maxLocals = 14 := hml0
  have hown : s.vm.findClass "com/example/unicept/unicept/WordTrieTagsPinLaw" = some m.cls := findClass_of_methodNamed Bd.named
  have hnm := (name_of_methodNamed Bd.named Bd.method).1
  have X0 : Stand p l e room_1 s m #[(.int mask), (.int t1), (.int t2), (.int t3)] below meth c s₁ [] 0 0 := Stand.of_body Bd
  have e0 : s₁.heap = h0 := by rw [← hh, Bd.state]; rfl
  have N0 := Fr.nil n0
  have pre0 : Goes p e below s₁ (entryFrame m #[(.int mask), (.int t1), (.int t2), (.int t3)] maxLocals) s₁ (mkF m 0 #[.val (.int mask), .val (.int t1), .val (.int t2), .val (.int t3), .unset, .unset, .unset, .unset, .unset, .unset, .unset, .unset, .unset, .unset] []) := fun t k => castTop (own_ef_own_rm0 m mask t1 t2 t3) k
  obtain ⟨f1, hf1, pre2⟩ : ∃ (f1 : Int32), (f1 = (0 : Int32) ∨ f1 = (1 : Int32)) ∧ Goes p e below s₁ (entryFrame m #[(.int mask), (.int t1), (.int t2), (.int t3)] maxLocals) s₁ (mkF m 11 #[.val (.int mask), .val (.int t1), .val (.int t2), .val (.int t3), .unset, .unset, .unset, .unset, .unset, .unset, .unset, .unset, .unset, .unset] [(.int f1)]) := by
    have pre3 : Goes p e below s₁ (entryFrame m #[(.int mask), (.int t1), (.int t2), (.int t3)] maxLocals) s₁ (mkF m 3 #[.val (.int mask), .val (.int t1), .val (.int t2), .val (.int t3), .unset, .unset, .unset, .unset, .unset, .unset, .unset, .unset, .unset, .unset] [(.int (mask &&& (1 : Int32)))]) := fun t kt => pre0 t (by
        show Steps p.tables e below (s₁.setTop (mkF m 0 #[.val (.int mask), .val (.int t1), .val (.int t2), .val (.int t3), .unset, .unset, .unset, .unset, .unset, .unset, .unset, .unset, .unset, .unset] [])) _
        refine XS.iloadN X0.here hx rfl (hb hby at_0) rfl ?_
        show Steps p.tables e below (s₁.setTop (mkF m 1 #[.val (.int mask), .val (.int t1), .val (.int t2), .val (.int t3), .unset, .unset, .unset, .unset, .unset, .unset, .unset, .unset, .unset, .unset] [(.int mask)])) _
        refine XS.iconst X0.here hx rfl (hb hby at_1) ?_
        show Steps p.tables e below (s₁.setTop (mkF m 2 #[.val (.int mask), .val (.int t1), .val (.int t2), .val (.int t3), .unset, .unset, .unset, .unset, .unset, .unset, .unset, .unset, .unset, .unset] [(.int (1 : Int32)), (.int mask)])) _
        refine XS.iand X0.here hx rfl (hb hby at_2) rfl ?_
        exact kt)
    by_cases hc3_4 : (mask &&& (1 : Int32)) = (0 : Int32)
    · -- yes at pc 3: 
      have pre5 : Goes p e below s₁ (entryFrame m #[(.int mask), (.int t1), (.int t2), (.int t3)] maxLocals) s₁ (mkF m 11 #[.val (.int mask), .val (.int t1), .val (.int t2), .val (.int t3), .unset, .unset, .unset, .unset, .unset, .unset, .unset, .unset, .unset, .unset] [(.int (0 : Int32))]) := fun t kt => pre3 t (by
          show Steps p.tables e below (s₁.setTop (mkF m 3 #[.val (.int mask), .val (.int t1), .val (.int t2), .val (.int t3), .unset, .unset, .unset, .unset, .unset, .unset, .unset, .unset, .unset, .unset] [(.int (mask &&& (1 : Int32)))])) _
          refine XS.ifYes X0.here hx rfl (pc0 := 3) (pc' := 10) rfl (hb hby at_3) rfl ((if0 _ _).trans (teq hc3_4).1) (by decide) (by decide) ?_
          show Steps p.tables e below (s₁.setTop (mkF m 10 #[.val (.int mask), .val (.int t1), .val (.int t2), .val (.int t3), .unset, .unset, .unset, .unset, .unset, .unset, .unset, .unset, .unset, .unset] [])) _
          refine XS.iconst X0.here hx rfl (hb hby at_10) ?_
          exact kt)
      exact ⟨(0 : Int32), (Or.inl rfl), pre5⟩
    · -- no at pc 3: 
      have pre6 : Goes p e below s₁ (entryFrame m #[(.int mask), (.int t1), (.int t2), (.int t3)] maxLocals) s₁ (mkF m 11 #[.val (.int mask), .val (.int t1), .val (.int t2), .val (.int t3), .unset, .unset, .unset, .unset, .unset, .unset, .unset, .unset, .unset, .unset] [(.int (1 : Int32))]) := fun t kt => pre3 t (by
          show Steps p.tables e below (s₁.setTop (mkF m 3 #[.val (.int mask), .val (.int t1), .val (.int t2), .val (.int t3), .unset, .unset, .unset, .unset, .unset, .unset, .unset, .unset, .unset, .unset] [(.int (mask &&& (1 : Int32)))])) _
          refine XS.ifNo X0.here hx rfl (hb hby at_3) rfl ((if0 _ _).trans (feq hc3_4).1) ?_
          show Steps p.tables e below (s₁.setTop (mkF m 6 #[.val (.int mask), .val (.int t1), .val (.int t2), .val (.int t3), .unset, .unset, .unset, .unset, .unset, .unset, .unset, .unset, .unset, .unset] [])) _
          refine XS.iconst X0.here hx rfl (hb hby at_6) ?_
          show Steps p.tables e below (s₁.setTop (mkF m 7 #[.val (.int mask), .val (.int t1), .val (.int t2), .val (.int t3), .unset, .unset, .unset, .unset, .unset, .unset, .unset, .unset, .unset, .unset] [(.int (1 : Int32))])) _
          refine XS.goto X0.here hx rfl (pc0 := 7) (pc' := 11) rfl (hb hby at_7) (by decide) (by decide) ?_
          exact kt)
      exact ⟨(1 : Int32), (Or.inr rfl), pre6⟩
  have pre7 : Goes p e below s₁ (entryFrame m #[(.int mask), (.int t1), (.int t2), (.int t3)] maxLocals) s₁ (mkF m 13 #[.val (.int mask), .val (.int t1), .val (.int t2), .val (.int t3), .val (.int f1), .unset, .unset, .unset, .unset, .unset, .unset, .unset, .unset, .unset] []) := fun t kt => pre2 t (by
      show Steps p.tables e below (s₁.setTop (mkF m 11 #[.val (.int mask), .val (.int t1), .val (.int t2), .val (.int t3), .unset, .unset, .unset, .unset, .unset, .unset, .unset, .unset, .unset, .unset] [(.int f1)])) _
      refine XS.istore X0.here hx rfl (hb hby at_11) rfl (l' := #[.val (.int mask), .val (.int t1), .val (.int t2), .val (.int t3), .val (.int f1), .unset, .unset, .unset, .unset, .unset, .unset, .unset, .unset, .unset]) rfl ?_
      exact kt)
  obtain ⟨f2, hf2, pre9⟩ : ∃ (f2 : Int32), (f2 = (0 : Int32) ∨ f2 = (1 : Int32)) ∧ Goes p e below s₁ (entryFrame m #[(.int mask), (.int t1), (.int t2), (.int t3)] maxLocals) s₁ (mkF m 24 #[.val (.int mask), .val (.int t1), .val (.int t2), .val (.int t3), .val (.int f1), .unset, .unset, .unset, .unset, .unset, .unset, .unset, .unset, .unset] [(.int f2)]) := by
    have pre10 : Goes p e below s₁ (entryFrame m #[(.int mask), (.int t1), (.int t2), (.int t3)] maxLocals) s₁ (mkF m 16 #[.val (.int mask), .val (.int t1), .val (.int t2), .val (.int t3), .val (.int f1), .unset, .unset, .unset, .unset, .unset, .unset, .unset, .unset, .unset] [(.int (mask &&& (2 : Int32)))]) := fun t kt => pre7 t (by
        show Steps p.tables e below (s₁.setTop (mkF m 13 #[.val (.int mask), .val (.int t1), .val (.int t2), .val (.int t3), .val (.int f1), .unset, .unset, .unset, .unset, .unset, .unset, .unset, .unset, .unset] [])) _
        refine XS.iloadN X0.here hx rfl (hb hby at_13) rfl ?_
        show Steps p.tables e below (s₁.setTop (mkF m 14 #[.val (.int mask), .val (.int t1), .val (.int t2), .val (.int t3), .val (.int f1), .unset, .unset, .unset, .unset, .unset, .unset, .unset, .unset, .unset] [(.int mask)])) _
        refine XS.iconst X0.here hx rfl (hb hby at_14) ?_
        show Steps p.tables e below (s₁.setTop (mkF m 15 #[.val (.int mask), .val (.int t1), .val (.int t2), .val (.int t3), .val (.int f1), .unset, .unset, .unset, .unset, .unset, .unset, .unset, .unset, .unset] [(.int (2 : Int32)), (.int mask)])) _
        refine XS.iand X0.here hx rfl (hb hby at_15) rfl ?_
        exact kt)
    by_cases hc16_11 : (mask &&& (2 : Int32)) = (0 : Int32)
    · -- yes at pc 16: 
      have pre12 : Goes p e below s₁ (entryFrame m #[(.int mask), (.int t1), (.int t2), (.int t3)] maxLocals) s₁ (mkF m 24 #[.val (.int mask), .val (.int t1), .val (.int t2), .val (.int t3), .val (.int f1), .unset, .unset, .unset, .unset, .unset, .unset, .unset, .unset, .unset] [(.int (0 : Int32))]) := fun t kt => pre10 t (by
          show Steps p.tables e below (s₁.setTop (mkF m 16 #[.val (.int mask), .val (.int t1), .val (.int t2), .val (.int t3), .val (.int f1), .unset, .unset, .unset, .unset, .unset, .unset, .unset, .unset, .unset] [(.int (mask &&& (2 : Int32)))])) _
          refine XS.ifYes X0.here hx rfl (pc0 := 16) (pc' := 23) rfl (hb hby at_16) rfl ((if0 _ _).trans (teq hc16_11).1) (by decide) (by decide) ?_
          show Steps p.tables e below (s₁.setTop (mkF m 23 #[.val (.int mask), .val (.int t1), .val (.int t2), .val (.int t3), .val (.int f1), .unset, .unset, .unset, .unset, .unset, .unset, .unset, .unset, .unset] [])) _
          refine XS.iconst X0.here hx rfl (hb hby at_23) ?_
          exact kt)
      exact ⟨(0 : Int32), (Or.inl rfl), pre12⟩
    · -- no at pc 16: 
      have pre13 : Goes p e below s₁ (entryFrame m #[(.int mask), (.int t1), (.int t2), (.int t3)] maxLocals) s₁ (mkF m 24 #[.val (.int mask), .val (.int t1), .val (.int t2), .val (.int t3), .val (.int f1), .unset, .unset, .unset, .unset, .unset, .unset, .unset, .unset, .unset] [(.int (1 : Int32))]) := fun t kt => pre10 t (by
          show Steps p.tables e below (s₁.setTop (mkF m 16 #[.val (.int mask), .val (.int t1), .val (.int t2), .val (.int t3), .val (.int f1), .unset, .unset, .unset, .unset, .unset, .unset, .unset, .unset, .unset] [(.int (mask &&& (2 : Int32)))])) _
          refine XS.ifNo X0.here hx rfl (hb hby at_16) rfl ((if0 _ _).trans (feq hc16_11).1) ?_
          show Steps p.tables e below (s₁.setTop (mkF m 19 #[.val (.int mask), .val (.int t1), .val (.int t2), .val (.int t3), .val (.int f1), .unset, .unset, .unset, .unset, .unset, .unset, .unset, .unset, .unset] [])) _
          refine XS.iconst X0.here hx rfl (hb hby at_19) ?_
          show Steps p.tables e below (s₁.setTop (mkF m 20 #[.val (.int mask), .val (.int t1), .val (.int t2), .val (.int t3), .val (.int f1), .unset, .unset, .unset, .unset, .unset, .unset, .unset, .unset, .unset] [(.int (1 : Int32))])) _
          refine XS.goto X0.here hx rfl (pc0 := 20) (pc' := 24) rfl (hb hby at_20) (by decide) (by decide) ?_
          exact kt)
      exact ⟨(1 : Int32), (Or.inr rfl), pre13⟩
  have pre14 : Goes p e below s₁ (entryFrame m #[(.int mask), (.int t1), (.int t2), (.int t3)] maxLocals) s₁ (mkF m 26 #[.val (.int mask), .val (.int t1), .val (.int t2), .val (.int t3), .val (.int f1), .val (.int f2), .unset, .unset, .unset, .unset, .unset, .unset, .unset, .unset] []) := fun t kt => pre9 t (by
      show Steps p.tables e below (s₁.setTop (mkF m 24 #[.val (.int mask), .val (.int t1), .val (.int t2), .val (.int t3), .val (.int f1), .unset, .unset, .unset, .unset, .unset, .unset, .unset, .unset, .unset] [(.int f2)])) _
      refine XS.istore X0.here hx rfl (hb hby at_24) rfl (l' := #[.val (.int mask), .val (.int t1), .val (.int t2), .val (.int t3), .val (.int f1), .val (.int f2), .unset, .unset, .unset, .unset, .unset, .unset, .unset, .unset]) rfl ?_
      exact kt)
  obtain ⟨f3, hf3, pre16⟩ : ∃ (f3 : Int32), (f3 = (0 : Int32) ∨ f3 = (1 : Int32)) ∧ Goes p e below s₁ (entryFrame m #[(.int mask), (.int t1), (.int t2), (.int t3)] maxLocals) s₁ (mkF m 37 #[.val (.int mask), .val (.int t1), .val (.int t2), .val (.int t3), .val (.int f1), .val (.int f2), .unset, .unset, .unset, .unset, .unset, .unset, .unset, .unset] [(.int f3)]) := by
    have pre17 : Goes p e below s₁ (entryFrame m #[(.int mask), (.int t1), (.int t2), (.int t3)] maxLocals) s₁ (mkF m 29 #[.val (.int mask), .val (.int t1), .val (.int t2), .val (.int t3), .val (.int f1), .val (.int f2), .unset, .unset, .unset, .unset, .unset, .unset, .unset, .unset] [(.int (mask &&& (4 : Int32)))]) := fun t kt => pre14 t (by
        show Steps p.tables e below (s₁.setTop (mkF m 26 #[.val (.int mask), .val (.int t1), .val (.int t2), .val (.int t3), .val (.int f1), .val (.int f2), .unset, .unset, .unset, .unset, .unset, .unset, .unset, .unset] [])) _
        refine XS.iloadN X0.here hx rfl (hb hby at_26) rfl ?_
        show Steps p.tables e below (s₁.setTop (mkF m 27 #[.val (.int mask), .val (.int t1), .val (.int t2), .val (.int t3), .val (.int f1), .val (.int f2), .unset, .unset, .unset, .unset, .unset, .unset, .unset, .unset] [(.int mask)])) _
        refine XS.iconst X0.here hx rfl (hb hby at_27) ?_
        show Steps p.tables e below (s₁.setTop (mkF m 28 #[.val (.int mask), .val (.int t1), .val (.int t2), .val (.int t3), .val (.int f1), .val (.int f2), .unset, .unset, .unset, .unset, .unset, .unset, .unset, .unset] [(.int (4 : Int32)), (.int mask)])) _
        refine XS.iand X0.here hx rfl (hb hby at_28) rfl ?_
        exact kt)
    by_cases hc29_18 : (mask &&& (4 : Int32)) = (0 : Int32)
    · -- yes at pc 29: 
      have pre19 : Goes p e below s₁ (entryFrame m #[(.int mask), (.int t1), (.int t2), (.int t3)] maxLocals) s₁ (mkF m 37 #[.val (.int mask), .val (.int t1), .val (.int t2), .val (.int t3), .val (.int f1), .val (.int f2), .unset, .unset, .unset, .unset, .unset, .unset, .unset, .unset] [(.int (0 : Int32))]) := fun t kt => pre17 t (by
          show Steps p.tables e below (s₁.setTop (mkF m 29 #[.val (.int mask), .val (.int t1), .val (.int t2), .val (.int t3), .val (.int f1), .val (.int f2), .unset, .unset, .unset, .unset, .unset, .unset, .unset, .unset] [(.int (mask &&& (4 : Int32)))])) _
          refine XS.ifYes X0.here hx rfl (pc0 := 29) (pc' := 36) rfl (hb hby at_29) rfl ((if0 _ _).trans (teq hc29_18).1) (by decide) (by decide) ?_
          show Steps p.tables e below (s₁.setTop (mkF m 36 #[.val (.int mask), .val (.int t1), .val (.int t2), .val (.int t3), .val (.int f1), .val (.int f2), .unset, .unset, .unset, .unset, .unset, .unset, .unset, .unset] [])) _
          refine XS.iconst X0.here hx rfl (hb hby at_36) ?_
          exact kt)
      exact ⟨(0 : Int32), (Or.inl rfl), pre19⟩
    · -- no at pc 29: 
      have pre20 : Goes p e below s₁ (entryFrame m #[(.int mask), (.int t1), (.int t2), (.int t3)] maxLocals) s₁ (mkF m 37 #[.val (.int mask), .val (.int t1), .val (.int t2), .val (.int t3), .val (.int f1), .val (.int f2), .unset, .unset, .unset, .unset, .unset, .unset, .unset, .unset] [(.int (1 : Int32))]) := fun t kt => pre17 t (by
          show Steps p.tables e below (s₁.setTop (mkF m 29 #[.val (.int mask), .val (.int t1), .val (.int t2), .val (.int t3), .val (.int f1), .val (.int f2), .unset, .unset, .unset, .unset, .unset, .unset, .unset, .unset] [(.int (mask &&& (4 : Int32)))])) _
          refine XS.ifNo X0.here hx rfl (hb hby at_29) rfl ((if0 _ _).trans (feq hc29_18).1) ?_
          show Steps p.tables e below (s₁.setTop (mkF m 32 #[.val (.int mask), .val (.int t1), .val (.int t2), .val (.int t3), .val (.int f1), .val (.int f2), .unset, .unset, .unset, .unset, .unset, .unset, .unset, .unset] [])) _
          refine XS.iconst X0.here hx rfl (hb hby at_32) ?_
          show Steps p.tables e below (s₁.setTop (mkF m 33 #[.val (.int mask), .val (.int t1), .val (.int t2), .val (.int t3), .val (.int f1), .val (.int f2), .unset, .unset, .unset, .unset, .unset, .unset, .unset, .unset] [(.int (1 : Int32))])) _
          refine XS.goto X0.here hx rfl (pc0 := 33) (pc' := 37) rfl (hb hby at_33) (by decide) (by decide) ?_
          exact kt)
      exact ⟨(1 : Int32), (Or.inr rfl), pre20⟩
  have pre21 : Goes p e below s₁ (entryFrame m #[(.int mask), (.int t1), (.int t2), (.int t3)] maxLocals) s₁ (mkF m 39 #[.val (.int mask), .val (.int t1), .val (.int t2), .val (.int t3), .val (.int f1), .val (.int f2), .val (.int f3), .unset, .unset, .unset, .unset, .unset, .unset, .unset] []) := fun t kt => pre16 t (by
      show Steps p.tables e below (s₁.setTop (mkF m 37 #[.val (.int mask), .val (.int t1), .val (.int t2), .val (.int t3), .val (.int f1), .val (.int f2), .unset, .unset, .unset, .unset, .unset, .unset, .unset, .unset] [(.int f3)])) _
      refine XS.istore X0.here hx rfl (hb hby at_37) rfl (l' := #[.val (.int mask), .val (.int t1), .val (.int t2), .val (.int t3), .val (.int f1), .val (.int f2), .val (.int f3), .unset, .unset, .unset, .unset, .unset, .unset, .unset]) rfl ?_
      exact kt)
  obtain ⟨T22, h22, X22, e22, E22, A22, DD22, -, st22⟩ := newO X0 hx hZ hown (hw _ (List.mem_of_getElem? (i := 0) rfl)) (hw _ (List.mem_of_getElem? (i := 1) rfl)) (hw _ (List.mem_of_getElem? (i := 2) rfl)) e0 (g := (mkF m 39 #[.val (.int mask), .val (.int t1), .val (.int t2), .val (.int t3), .val (.int f1), .val (.int f2), .val (.int f3), .unset, .unset, .unset, .unset, .unset, .unset, .unset] [])) rfl (hb hby at_39) (by decide) (by decide)
  obtain ⟨b22, g22⟩ : ∃ z, z = h0.size := ⟨_, rfl⟩
  rw [← g22] at A22 DD22 st22
  have F_roles_b22 : Fld Z h22 b22 "com/example/unicept/unicept/WordTrie" "roles" "I" (.int (0 : Int32)) := DD22 (Or.inr (hw _ (List.mem_of_getElem? (i := 10) rfl))) (ty := .int) (by decide)
  have F_children_b22 : Fld Z h22 b22 "com/example/unicept/unicept/WordTrie" "children" "[I" .null := DD22 (Or.inl (hw _ (List.mem_of_getElem? (i := 17) rfl))) (ty := (.array .int)) (by decide)
  have F_roots_b22 : Fld Z h22 b22 "com/example/unicept/unicept/WordTrie" "roots" "[I" .null := DD22 (Or.inl (hw _ (List.mem_of_getElem? (i := 19) rfl))) (ty := (.array .int)) (by decide)
  have F_tags_b22 : Fld Z h22 b22 "com/example/unicept/unicept/WordTrie" "tags" "[[I" .null := DD22 (Or.inl (hw _ (List.mem_of_getElem? (i := 23) rfl))) (ty := (.array (.array .int))) (by decide)
  have F_size_b22 : Fld Z h22 b22 "com/example/unicept/unicept/WordTrie" "size" "I" (.int (0 : Int32)) := DD22 (Or.inl (hw _ (List.mem_of_getElem? (i := 34) rfl))) (ty := .int) (by decide)
  have g_b22 : n0 ≤ b22 := Nat.le_trans Z0 (Nat.le_of_eq g22.symm)
  have sz_b22 : h0.size ≤ b22 := (Nat.le_trans (Keep.refl h0 []).1 (Nat.le_of_eq g22.symm))
  have K22 : Keep h0 h22 [] := (Keep.refl h0 []).ext E22
  have pre23 : Goes p e below s₁ (entryFrame m #[(.int mask), (.int t1), (.int t2), (.int t3)] maxLocals) T22 (mkF m 42 #[.val (.int mask), .val (.int t1), .val (.int t2), .val (.int t3), .val (.int f1), .val (.int f2), .val (.int f3), .unset, .unset, .unset, .unset, .unset, .unset, .unset] [(.ref b22)]) := fun t kt => pre21 t (st22 t kt)
  have pre24 : Goes p e below s₁ (entryFrame m #[(.int mask), (.int t1), (.int t2), (.int t3)] maxLocals) T22 (mkF m 44 #[.val (.int mask), .val (.int t1), .val (.int t2), .val (.int t3), .val (.int f1), .val (.int f2), .val (.int f3), .unset, .unset, .unset, .unset, .unset, .unset, .unset] [(.int (1 : Int32)), (.ref b22), (.ref b22)]) := fun t kt => pre23 t (by
      show Steps p.tables e below (T22.setTop (mkF m 42 #[.val (.int mask), .val (.int t1), .val (.int t2), .val (.int t3), .val (.int f1), .val (.int f2), .val (.int f3), .unset, .unset, .unset, .unset, .unset, .unset, .unset] [(.ref b22)])) _
      refine XS.dup X22.here hx rfl (hb hby at_42) rfl rfl ?_
      show Steps p.tables e below (T22.setTop (mkF m 43 #[.val (.int mask), .val (.int t1), .val (.int t2), .val (.int t3), .val (.int f1), .val (.int f2), .val (.int f3), .unset, .unset, .unset, .unset, .unset, .unset, .unset] [(.ref b22), (.ref b22)])) _
      refine XS.iconst X22.here hx rfl (hb hby at_43) ?_
      exact kt)
  obtain ⟨_, _, ⟨T25, L25, k25, n25⟩, -, X25, ⟨Lc25, hQ25, l25, y25, z25⟩, st25⟩ := X22.specialBack hx (y := (⟨"com/example/unicept/unicept/WordTrie", "<init>", "(I)V"⟩ : MethodName)) rfl hown (mvT hZ (hw _ (List.mem_of_getElem? (i := 3) rfl))) (mvT hZ (hw _ (List.mem_of_getElem? (i := 4) rfl))) (mvT hZ (hw _ (List.mem_of_getElem? (i := 5) rfl))) (by decide) (backOf (W := 1) (own_init l Z a0 hw [] b22 1 h22 n0 (Nat.le_trans Z0 E22.1) A22 F_roles_b22 F_children_b22 F_roots_b22 F_tags_b22 F_size_b22 g_b22 (by decide) (by decide)) hZ (hw _ (List.mem_of_getElem? (i := 5) rfl)) (hw _ (List.mem_of_getElem? (i := 2) rfl)) (by decide) (by decide)) (g := (mkF m 44 #[.val (.int mask), .val (.int t1), .val (.int t2), .val (.int t3), .val (.int f1), .val (.int f2), .val (.int f3), .unset, .unset, .unset, .unset, .unset, .unset, .unset] [(.int (1 : Int32)), (.ref b22), (.ref b22)])) rfl (by rw [hml]; rfl) (Steps.refl _) (a := b22) (argsL := [(.int (1 : Int32))]) (rest := [(.ref b22)]) (lenOf own_pd5 rfl) rfl (by show 2 * 0 + _ ≤ _; exact Nat.le_of_eq rfl) (hb hby at_44) (fun _ _ => ⟨rfl, e22, (by decide : 1 + 3 ≤ _), (by decide : 5 + 160 ≤ _)⟩)
  dsimp only [Pt.U, Pt.locs, Pt.cells, Pt.slots] at X25 l25 y25 z25 st25 hQ25
  subst l25 y25 z25
  obtain ⟨rfl, N25q, K25q, ch, rt, tg, kt, z1, z2, z3, Ov, hT0⟩ := hQ25
  have N25 := Fr.app N0 N25q
  have KC25 : Keep h0 T25.heap [] := K22.trans K25q (allS (Or.inr sz_b22) all0)
  have pre26 : Goes p e below s₁ (entryFrame m #[(.int mask), (.int t1), (.int t2), (.int t3)] maxLocals) T25 (mkF m 47 #[.val (.int mask), .val (.int t1), .val (.int t2), .val (.int t3), .val (.int f1), .val (.int f2), .val (.int f3), .unset, .unset, .unset, .unset, .unset, .unset, .unset] [(.ref b22)]) := fun t kt => pre24 t (st25.trans kt)
  have sz_ch : h0.size ≤ ch := Nat.le_trans K22.1 z1
  have sz_rt : h0.size ≤ rt := Nat.le_trans K22.1 z2
  have sz_tg : h0.size ≤ tg := Nat.le_trans K22.1 z3
  have g_ch : n0 ≤ ch := hT0.2.2.2.2.2.2.2.2.2.2.1
  have g_rt : n0 ≤ rt := hT0.2.2.2.2.2.2.2.2.2.2.2.1
  have g_tg : n0 ≤ tg := hT0.2.2.2.2.2.2.2.2.2.2.2.2.1
  have pre27 : Goes p e below s₁ (entryFrame m #[(.int mask), (.int t1), (.int t2), (.int t3)] maxLocals) T25 (mkF m 51 #[.val (.int mask), .val (.int t1), .val (.int t2), .val (.int t3), .val (.int f1), .val (.int f2), .val (.int f3), .val (.ref b22), .unset, .unset, .unset, .unset, .unset, .unset] [(.ref b22)]) := fun t kt => pre26 t (by
      show Steps p.tables e below (T25.setTop (mkF m 47 #[.val (.int mask), .val (.int t1), .val (.int t2), .val (.int t3), .val (.int f1), .val (.int f2), .val (.int f3), .unset, .unset, .unset, .unset, .unset, .unset, .unset] [(.ref b22)])) _
      refine XS.astore X25.here hx rfl (hb hby at_47) rfl rfl (l' := #[.val (.int mask), .val (.int t1), .val (.int t2), .val (.int t3), .val (.int f1), .val (.int f2), .val (.int f3), .val (.ref b22), .unset, .unset, .unset, .unset, .unset, .unset]) rfl ?_
      show Steps p.tables e below (T25.setTop (mkF m 49 #[.val (.int mask), .val (.int t1), .val (.int t2), .val (.int t3), .val (.int f1), .val (.int f2), .val (.int f3), .val (.ref b22), .unset, .unset, .unset, .unset, .unset, .unset] [])) _
      refine XS.aload X25.here hx rfl (hb hby at_49) rfl rfl ?_
      exact kt)
  obtain ⟨cq28, kq28, q28a, q28b, q28c⟩ := isOf hZ rfl (A22.keep K25q)
  obtain ⟨_, _, ⟨T28, L28, k28, n28⟩, -, X28, ⟨Lc28, hQ28, l28, y28, z28⟩, st28⟩ := X25.virtualBack hx (y := (⟨"com/example/unicept/unicept/WordTrie", "addRoot", "()I"⟩ : MethodName)) (z := (⟨"com/example/unicept/unicept/WordTrie", "addRoot", "()I"⟩ : MethodName)) hown (mvT hZ (hw _ (List.mem_of_getElem? (i := 24) rfl))) (mvT hZ (hw _ (List.mem_of_getElem? (i := 25) rfl))) (notFace_of_selects (args := #[]) (mvT hZ (hw _ (List.mem_of_getElem? (i := 27) rfl)))) (mvT hZ (hw _ (List.mem_of_getElem? (i := 27) rfl))) (mvT hZ (hw _ (List.mem_of_getElem? (i := 26) rfl))) (by decide) (backOf (W := 0) (own_addRoot l Z a0 hw [] b22 1 0 ch (fun _ => 0) rt (fun _ => 0) tg kt (List.replicate 16 .null) T25.heap n0 (Nat.le_trans (Nat.le_trans Z0 E22.1) K25q.1) hT0 (by decide) (by decide) (by decide)) hZ (hw _ (List.mem_of_getElem? (i := 28) rfl)) (hw _ (List.mem_of_getElem? (i := 2) rfl)) (by decide) (by decide)) q28a q28c (g := (mkF m 51 #[.val (.int mask), .val (.int t1), .val (.int t2), .val (.int t3), .val (.int f1), .val (.int f2), .val (.int f3), .val (.ref b22), .unset, .unset, .unset, .unset, .unset, .unset] [(.ref b22)])) rfl (by rw [hml]; rfl) (Steps.refl _) (argsL := []) (rest := []) (lenOf own_pd2 rfl) rfl (by show 2 * 0 + _ ≤ _; exact Nat.le_of_eq rfl) (hb hby at_51) (fun _ _ => ⟨rfl, rfl, (by decide : 4 + 0 ≤ _), (by decide : 165 + 0 ≤ _)⟩)
  dsimp only [Pt.U, Pt.locs, Pt.cells, Pt.slots] at X28 l28 y28 z28 st28 hQ28
  subst l28 y28 z28
  obtain ⟨rfl, N28q, K28q, hT28⟩ := hQ28
  have N28 := Fr.app N25 N28q
  have KC28 : Keep h0 T28.heap [] := KC25.trans K28q (allS (Or.inr sz_b22) (allS (Or.inr sz_ch) (allS (Or.inr sz_rt) all0)))
  have pre29 : Goes p e below s₁ (entryFrame m #[(.int mask), (.int t1), (.int t2), (.int t3)] maxLocals) T28 (mkF m 54 #[.val (.int mask), .val (.int t1), .val (.int t2), .val (.int t3), .val (.int f1), .val (.int f2), .val (.int f3), .val (.ref b22), .unset, .unset, .unset, .unset, .unset, .unset] [(.int (0 : Int32))]) := fun t kt => pre27 t (st28.trans kt)
  have pre30 : Goes p e below s₁ (entryFrame m #[(.int mask), (.int t1), (.int t2), (.int t3)] maxLocals) T28 (mkF m 58 #[.val (.int mask), .val (.int t1), .val (.int t2), .val (.int t3), .val (.int f1), .val (.int f2), .val (.int f3), .val (.ref b22), .val (.int (0 : Int32)), .unset, .unset, .unset, .unset, .unset] [(.ref b22)]) := fun t kt => pre29 t (by
      show Steps p.tables e below (T28.setTop (mkF m 54 #[.val (.int mask), .val (.int t1), .val (.int t2), .val (.int t3), .val (.int f1), .val (.int f2), .val (.int f3), .val (.ref b22), .unset, .unset, .unset, .unset, .unset, .unset] [(.int (0 : Int32))])) _
      refine XS.istore X28.here hx rfl (hb hby at_54) rfl (l' := #[.val (.int mask), .val (.int t1), .val (.int t2), .val (.int t3), .val (.int f1), .val (.int f2), .val (.int f3), .val (.ref b22), .val (.int (0 : Int32)), .unset, .unset, .unset, .unset, .unset]) rfl ?_
      show Steps p.tables e below (T28.setTop (mkF m 56 #[.val (.int mask), .val (.int t1), .val (.int t2), .val (.int t3), .val (.int f1), .val (.int f2), .val (.int f3), .val (.ref b22), .val (.int (0 : Int32)), .unset, .unset, .unset, .unset, .unset] [])) _
      refine XS.aload X28.here hx rfl (hb hby at_56) rfl rfl ?_
      exact kt)
  obtain ⟨cq31, kq31, q31a, q31b, q31c⟩ := isOf hZ rfl hT28.1
  obtain ⟨_, _, ⟨T31, L31, k31, n31⟩, -, X31, ⟨Lc31, hQ31, l31, y31, z31⟩, st31⟩ := X28.virtualBack hx (y := (⟨"com/example/unicept/unicept/WordTrie", "addRoot", "()I"⟩ : MethodName)) (z := (⟨"com/example/unicept/unicept/WordTrie", "addRoot", "()I"⟩ : MethodName)) hown (mvT hZ (hw _ (List.mem_of_getElem? (i := 24) rfl))) (mvT hZ (hw _ (List.mem_of_getElem? (i := 25) rfl))) (notFace_of_selects (args := #[]) (mvT hZ (hw _ (List.mem_of_getElem? (i := 27) rfl)))) (mvT hZ (hw _ (List.mem_of_getElem? (i := 27) rfl))) (mvT hZ (hw _ (List.mem_of_getElem? (i := 26) rfl))) (by decide) (backOf (W := 0) (own_addRoot l Z a0 hw [] b22 1 1 ch (own_fl (fun _ => 0) (0 * 1) (0 * 1 + 1) (-1)) rt (own_up (fun _ => 0) 0 (Int32.ofNat 0)) tg kt (List.replicate 16 .null) T28.heap n0 (Nat.le_trans (Nat.le_trans (Nat.le_trans Z0 E22.1) K25q.1) K28q.1) hT28 (by decide) (by decide) (by decide)) hZ (hw _ (List.mem_of_getElem? (i := 28) rfl)) (hw _ (List.mem_of_getElem? (i := 2) rfl)) (by decide) (by decide)) q31a q31c (g := (mkF m 58 #[.val (.int mask), .val (.int t1), .val (.int t2), .val (.int t3), .val (.int f1), .val (.int f2), .val (.int f3), .val (.ref b22), .val (.int (0 : Int32)), .unset, .unset, .unset, .unset, .unset] [(.ref b22)])) rfl (by rw [hml]; rfl) (Steps.refl _) (argsL := []) (rest := []) (lenOf own_pd2 rfl) rfl (by show 2 * 0 + _ ≤ _; exact Nat.le_of_eq rfl) (hb hby at_58) (fun _ _ => ⟨rfl, rfl, (by decide : 4 + 0 ≤ _), (by decide : 165 + 0 ≤ _)⟩)
  dsimp only [Pt.U, Pt.locs, Pt.cells, Pt.slots] at X31 l31 y31 z31 st31 hQ31
  subst l31 y31 z31
  obtain ⟨rfl, N31q, K31q, hT31⟩ := hQ31
  have N31 := Fr.app N28 N31q
  have KC31 : Keep h0 T31.heap [] := KC28.trans K31q (allS (Or.inr sz_b22) (allS (Or.inr sz_ch) (allS (Or.inr sz_rt) all0)))
  have pre32 : Goes p e below s₁ (entryFrame m #[(.int mask), (.int t1), (.int t2), (.int t3)] maxLocals) T31 (mkF m 61 #[.val (.int mask), .val (.int t1), .val (.int t2), .val (.int t3), .val (.int f1), .val (.int f2), .val (.int f3), .val (.ref b22), .val (.int (0 : Int32)), .unset, .unset, .unset, .unset, .unset] [(.int (1 : Int32))]) := fun t kt => pre30 t (st31.trans kt)
  have pre33 : Goes p e below s₁ (entryFrame m #[(.int mask), (.int t1), (.int t2), (.int t3)] maxLocals) T31 (mkF m 65 #[.val (.int mask), .val (.int t1), .val (.int t2), .val (.int t3), .val (.int f1), .val (.int f2), .val (.int f3), .val (.ref b22), .val (.int (0 : Int32)), .val (.int (1 : Int32)), .unset, .unset, .unset, .unset] [(.int f1)]) := fun t kt => pre32 t (by
      show Steps p.tables e below (T31.setTop (mkF m 61 #[.val (.int mask), .val (.int t1), .val (.int t2), .val (.int t3), .val (.int f1), .val (.int f2), .val (.int f3), .val (.ref b22), .val (.int (0 : Int32)), .unset, .unset, .unset, .unset, .unset] [(.int (1 : Int32))])) _
      refine XS.istore X31.here hx rfl (hb hby at_61) rfl (l' := #[.val (.int mask), .val (.int t1), .val (.int t2), .val (.int t3), .val (.int f1), .val (.int f2), .val (.int f3), .val (.ref b22), .val (.int (0 : Int32)), .val (.int (1 : Int32)), .unset, .unset, .unset, .unset]) rfl ?_
      show Steps p.tables e below (T31.setTop (mkF m 63 #[.val (.int mask), .val (.int t1), .val (.int t2), .val (.int t3), .val (.int f1), .val (.int f2), .val (.int f3), .val (.ref b22), .val (.int (0 : Int32)), .val (.int (1 : Int32)), .unset, .unset, .unset, .unset] [])) _
      refine XS.iload X31.here hx rfl (hb hby at_63) rfl ?_
      exact kt)
  by_cases hc65_34 : f1 = (0 : Int32)
  · -- yes at pc 65: 
    have pre35 : Goes p e below s₁ (entryFrame m #[(.int mask), (.int t1), (.int t2), (.int t3)] maxLocals) T31 (mkF m 78 #[.val (.int mask), .val (.int t1), .val (.int t2), .val (.int t3), .val (.int f1), .val (.int f2), .val (.int f3), .val (.ref b22), .val (.int (0 : Int32)), .val (.int (1 : Int32)), .unset, .unset, .unset, .unset] [(.int f2)]) := fun t kt => pre33 t (by
        show Steps p.tables e below (T31.setTop (mkF m 65 #[.val (.int mask), .val (.int t1), .val (.int t2), .val (.int t3), .val (.int f1), .val (.int f2), .val (.int f3), .val (.ref b22), .val (.int (0 : Int32)), .val (.int (1 : Int32)), .unset, .unset, .unset, .unset] [(.int f1)])) _
        refine XS.ifYes X31.here hx rfl (pc0 := 65) (pc' := 76) rfl (hb hby at_65) rfl ((if0 _ _).trans (teq hc65_34).1) (by decide) (by decide) ?_
        show Steps p.tables e below (T31.setTop (mkF m 76 #[.val (.int mask), .val (.int t1), .val (.int t2), .val (.int t3), .val (.int f1), .val (.int f2), .val (.int f3), .val (.ref b22), .val (.int (0 : Int32)), .val (.int (1 : Int32)), .unset, .unset, .unset, .unset] [])) _
        refine XS.iload X31.here hx rfl (hb hby at_76) rfl ?_
        exact kt)
    by_cases hc78_36 : f2 = (0 : Int32)
    · -- yes at pc 78: t
      have pre37 : Goes p e below s₁ (entryFrame m #[(.int mask), (.int t1), (.int t2), (.int t3)] maxLocals) T31 (mkF m 91 #[.val (.int mask), .val (.int t1), .val (.int t2), .val (.int t3), .val (.int f1), .val (.int f2), .val (.int f3), .val (.ref b22), .val (.int (0 : Int32)), .val (.int (1 : Int32)), .unset, .unset, .unset, .unset] [(.int f3)]) := fun t kt => pre35 t (by
          show Steps p.tables e below (T31.setTop (mkF m 78 #[.val (.int mask), .val (.int t1), .val (.int t2), .val (.int t3), .val (.int f1), .val (.int f2), .val (.int f3), .val (.ref b22), .val (.int (0 : Int32)), .val (.int (1 : Int32)), .unset, .unset, .unset, .unset] [(.int f2)])) _
          refine XS.ifYes X31.here hx rfl (pc0 := 78) (pc' := 89) rfl (hb hby at_78) rfl ((if0 _ _).trans (teq hc78_36).1) (by decide) (by decide) ?_
          show Steps p.tables e below (T31.setTop (mkF m 89 #[.val (.int mask), .val (.int t1), .val (.int t2), .val (.int t3), .val (.int f1), .val (.int f2), .val (.int f3), .val (.ref b22), .val (.int (0 : Int32)), .val (.int (1 : Int32)), .unset, .unset, .unset, .unset] [])) _
          refine XS.iload X31.here hx rfl (hb hby at_89) rfl ?_
          exact kt)
      by_cases hc91_38 : f3 = (0 : Int32)
      · -- yes at pc 91: tt
        have pre39 : Goes p e below s₁ (entryFrame m #[(.int mask), (.int t1), (.int t2), (.int t3)] maxLocals) T31 (mkF m 106 #[.val (.int mask), .val (.int t1), .val (.int t2), .val (.int t3), .val (.int f1), .val (.int f2), .val (.int f3), .val (.ref b22), .val (.int (0 : Int32)), .val (.int (1 : Int32)), .unset, .unset, .unset, .unset] [(.int (0 : Int32)), (.ref b22)]) := fun t kt => pre37 t (by
            show Steps p.tables e below (T31.setTop (mkF m 91 #[.val (.int mask), .val (.int t1), .val (.int t2), .val (.int t3), .val (.int f1), .val (.int f2), .val (.int f3), .val (.ref b22), .val (.int (0 : Int32)), .val (.int (1 : Int32)), .unset, .unset, .unset, .unset] [(.int f3)])) _
            refine XS.ifYes X31.here hx rfl (pc0 := 91) (pc' := 102) rfl (hb hby at_91) rfl ((if0 _ _).trans (teq hc91_38).1) (by decide) (by decide) ?_
            show Steps p.tables e below (T31.setTop (mkF m 102 #[.val (.int mask), .val (.int t1), .val (.int t2), .val (.int t3), .val (.int f1), .val (.int f2), .val (.int f3), .val (.ref b22), .val (.int (0 : Int32)), .val (.int (1 : Int32)), .unset, .unset, .unset, .unset] [])) _
            refine XS.aload X31.here hx rfl (hb hby at_102) rfl rfl ?_
            show Steps p.tables e below (T31.setTop (mkF m 104 #[.val (.int mask), .val (.int t1), .val (.int t2), .val (.int t3), .val (.int f1), .val (.int f2), .val (.int f3), .val (.ref b22), .val (.int (0 : Int32)), .val (.int (1 : Int32)), .unset, .unset, .unset, .unset] [(.ref b22)])) _
            refine XS.iload X31.here hx rfl (hb hby at_104) rfl ?_
            exact kt)
        obtain ⟨cq40, kq40, q40a, q40b, q40c⟩ := isOf hZ rfl hT31.1
        obtain ⟨_, _, ⟨T40, L40, k40, n40⟩, -, X40, ⟨Lc40, hQ40, l40, y40, z40⟩, st40⟩ := X31.virtualBack hx (y := (⟨"com/example/unicept/unicept/WordTrie", "tags", "(I)[I"⟩ : MethodName)) (z := (⟨"com/example/unicept/unicept/WordTrie", "tags", "(I)[I"⟩ : MethodName)) hown (mvT hZ (hw _ (List.mem_of_getElem? (i := 42) rfl))) (mvT hZ (hw _ (List.mem_of_getElem? (i := 43) rfl))) (notFace_of_selects (args := #[]) (mvT hZ (hw _ (List.mem_of_getElem? (i := 45) rfl)))) (mvT hZ (hw _ (List.mem_of_getElem? (i := 45) rfl))) (mvT hZ (hw _ (List.mem_of_getElem? (i := 44) rfl))) (by decide) (backOf (W := 0) (own_tags0 l Z a0 hw [] b22 1 2 ch (own_fl (own_fl (fun _ => 0) (0 * 1) (0 * 1 + 1) (-1)) (1 * 1) (1 * 1 + 1) (-1)) rt (own_up (own_up (fun _ => 0) 0 (Int32.ofNat 0)) 1 (Int32.ofNat 1)) tg kt (List.replicate 16 .null) (0 : Int32) nt T31.heap n0 (Nat.le_trans (Nat.le_trans (Nat.le_trans (Nat.le_trans Z0 E22.1) K25q.1) K28q.1) K31q.1) hT31 (by decide) rfl (S_NT.ext ((((O0.ext E22).keep K25q (allS g_b22 all0)).keep K28q (allS g_b22 (allS g_ch (allS g_rt all0)))).keep K31q (allS g_b22 (allS g_ch (allS g_rt all0)))).2)) hZ (hw _ (List.mem_of_getElem? (i := 46) rfl)) (hw _ (List.mem_of_getElem? (i := 2) rfl)) (by decide) (by decide)) q40a q40c (g := (mkF m 106 #[.val (.int mask), .val (.int t1), .val (.int t2), .val (.int t3), .val (.int f1), .val (.int f2), .val (.int f3), .val (.ref b22), .val (.int (0 : Int32)), .val (.int (1 : Int32)), .unset, .unset, .unset, .unset] [(.int (0 : Int32)), (.ref b22)])) rfl (by rw [hml]; rfl) (Steps.refl _) (argsL := [(.int (0 : Int32))]) (rest := []) (lenOf own_pd6 rfl) rfl (by show 2 * 0 + _ ≤ _; exact Nat.le_of_eq rfl) (hb hby at_106) (fun _ _ => ⟨rfl, rfl, (by decide : 4 + 0 ≤ _), (by decide : 165 + 0 ≤ _)⟩)
        dsimp only [Pt.U, Pt.locs, Pt.cells, Pt.slots] at X40 l40 y40 z40 st40 hQ40
        subst l40 y40 z40
        obtain ⟨rfl, N40q, e40⟩ := hQ40
        have N40 := Fr.app N31 N40q
        have pre41 : Goes p e below s₁ (entryFrame m #[(.int mask), (.int t1), (.int t2), (.int t3)] maxLocals) T40 (mkF m 109 #[.val (.int mask), .val (.int t1), .val (.int t2), .val (.int t3), .val (.int f1), .val (.int f2), .val (.int f3), .val (.ref b22), .val (.int (0 : Int32)), .val (.int (1 : Int32)), .unset, .unset, .unset, .unset] [(.ref nt)]) := fun t kt => pre39 t (st40.trans kt)
        have pre42 : Goes p e below s₁ (entryFrame m #[(.int mask), (.int t1), (.int t2), (.int t3)] maxLocals) T40 (mkF m 115 #[.val (.int mask), .val (.int t1), .val (.int t2), .val (.int t3), .val (.int f1), .val (.int f2), .val (.int f3), .val (.ref b22), .val (.int (0 : Int32)), .val (.int (1 : Int32)), .val (.ref nt), .unset, .unset, .unset] [(.int (1 : Int32)), (.ref b22)]) := fun t kt => pre41 t (by
            show Steps p.tables e below (T40.setTop (mkF m 109 #[.val (.int mask), .val (.int t1), .val (.int t2), .val (.int t3), .val (.int f1), .val (.int f2), .val (.int f3), .val (.ref b22), .val (.int (0 : Int32)), .val (.int (1 : Int32)), .unset, .unset, .unset, .unset] [(.ref nt)])) _
            refine XS.astore X40.here hx rfl (hb hby at_109) rfl rfl (l' := #[.val (.int mask), .val (.int t1), .val (.int t2), .val (.int t3), .val (.int f1), .val (.int f2), .val (.int f3), .val (.ref b22), .val (.int (0 : Int32)), .val (.int (1 : Int32)), .val (.ref nt), .unset, .unset, .unset]) rfl ?_
            show Steps p.tables e below (T40.setTop (mkF m 111 #[.val (.int mask), .val (.int t1), .val (.int t2), .val (.int t3), .val (.int f1), .val (.int f2), .val (.int f3), .val (.ref b22), .val (.int (0 : Int32)), .val (.int (1 : Int32)), .val (.ref nt), .unset, .unset, .unset] [])) _
            refine XS.aload X40.here hx rfl (hb hby at_111) rfl rfl ?_
            show Steps p.tables e below (T40.setTop (mkF m 113 #[.val (.int mask), .val (.int t1), .val (.int t2), .val (.int t3), .val (.int f1), .val (.int f2), .val (.int f3), .val (.ref b22), .val (.int (0 : Int32)), .val (.int (1 : Int32)), .val (.ref nt), .unset, .unset, .unset] [(.ref b22)])) _
            refine XS.iload X40.here hx rfl (hb hby at_113) rfl ?_
            exact kt)
        obtain ⟨cq43, kq43, q43a, q43b, q43c⟩ := isOf hZ e40 hT31.1
        obtain ⟨_, _, ⟨T43, L43, k43, n43⟩, -, X43, ⟨Lc43, hQ43, l43, y43, z43⟩, st43⟩ := X40.virtualBack hx (y := (⟨"com/example/unicept/unicept/WordTrie", "tags", "(I)[I"⟩ : MethodName)) (z := (⟨"com/example/unicept/unicept/WordTrie", "tags", "(I)[I"⟩ : MethodName)) hown (mvT hZ (hw _ (List.mem_of_getElem? (i := 42) rfl))) (mvT hZ (hw _ (List.mem_of_getElem? (i := 43) rfl))) (notFace_of_selects (args := #[]) (mvT hZ (hw _ (List.mem_of_getElem? (i := 45) rfl)))) (mvT hZ (hw _ (List.mem_of_getElem? (i := 45) rfl))) (mvT hZ (hw _ (List.mem_of_getElem? (i := 44) rfl))) (by decide) (backOf (W := 0) (own_tags0 l Z a0 hw [] b22 1 2 ch (own_fl (own_fl (fun _ => 0) (0 * 1) (0 * 1 + 1) (-1)) (1 * 1) (1 * 1 + 1) (-1)) rt (own_up (own_up (fun _ => 0) 0 (Int32.ofNat 0)) 1 (Int32.ofNat 1)) tg kt (List.replicate 16 .null) (1 : Int32) nt T31.heap n0 (Nat.le_trans (Nat.le_trans (Nat.le_trans (Nat.le_trans Z0 E22.1) K25q.1) K28q.1) K31q.1) hT31 (by decide) rfl (S_NT.ext ((((O0.ext E22).keep K25q (allS g_b22 all0)).keep K28q (allS g_b22 (allS g_ch (allS g_rt all0)))).keep K31q (allS g_b22 (allS g_ch (allS g_rt all0)))).2)) hZ (hw _ (List.mem_of_getElem? (i := 46) rfl)) (hw _ (List.mem_of_getElem? (i := 2) rfl)) (by decide) (by decide)) q43a q43c (g := (mkF m 115 #[.val (.int mask), .val (.int t1), .val (.int t2), .val (.int t3), .val (.int f1), .val (.int f2), .val (.int f3), .val (.ref b22), .val (.int (0 : Int32)), .val (.int (1 : Int32)), .val (.ref nt), .unset, .unset, .unset] [(.int (1 : Int32)), (.ref b22)])) rfl (by rw [hml]; rfl) (Steps.refl _) (argsL := [(.int (1 : Int32))]) (rest := []) (lenOf own_pd6 rfl) rfl (by show 2 * 0 + _ ≤ _; exact Nat.le_of_eq rfl) (hb hby at_115) (fun _ _ => ⟨rfl, e40, (by decide : 4 + 0 ≤ _), (by decide : 165 + 0 ≤ _)⟩)
        dsimp only [Pt.U, Pt.locs, Pt.cells, Pt.slots] at X43 l43 y43 z43 st43 hQ43
        subst l43 y43 z43
        obtain ⟨rfl, N43q, e43⟩ := hQ43
        have N43 := Fr.app N40 N43q
        have pre44 : Goes p e below s₁ (entryFrame m #[(.int mask), (.int t1), (.int t2), (.int t3)] maxLocals) T43 (mkF m 118 #[.val (.int mask), .val (.int t1), .val (.int t2), .val (.int t3), .val (.int f1), .val (.int f2), .val (.int f3), .val (.ref b22), .val (.int (0 : Int32)), .val (.int (1 : Int32)), .val (.ref nt), .unset, .unset, .unset] [(.ref nt)]) := fun t kt => pre42 t (st43.trans kt)
        have pre45 : Goes p e below s₁ (entryFrame m #[(.int mask), (.int t1), (.int t2), (.int t3)] maxLocals) T43 (mkF m 184 #[.val (.int mask), .val (.int t1), .val (.int t2), .val (.int t3), .val (.int f1), .val (.int f2), .val (.int f3), .val (.ref b22), .val (.int (0 : Int32)), .val (.int (1 : Int32)), .val (.ref nt), .val (.ref nt), .unset, .unset] [(.int (0 : Int32)), (.int (0 : Int32)), (.int (0 : Int32)), (.ref nt)]) := fun t kt => pre44 t (by
            show Steps p.tables e below (T43.setTop (mkF m 118 #[.val (.int mask), .val (.int t1), .val (.int t2), .val (.int t3), .val (.int f1), .val (.int f2), .val (.int f3), .val (.ref b22), .val (.int (0 : Int32)), .val (.int (1 : Int32)), .val (.ref nt), .unset, .unset, .unset] [(.ref nt)])) _
            refine XS.astore X43.here hx rfl (hb hby at_118) rfl rfl (l' := #[.val (.int mask), .val (.int t1), .val (.int t2), .val (.int t3), .val (.int f1), .val (.int f2), .val (.int f3), .val (.ref b22), .val (.int (0 : Int32)), .val (.int (1 : Int32)), .val (.ref nt), .val (.ref nt), .unset, .unset]) rfl ?_
            show Steps p.tables e below (T43.setTop (mkF m 120 #[.val (.int mask), .val (.int t1), .val (.int t2), .val (.int t3), .val (.int f1), .val (.int f2), .val (.int f3), .val (.ref b22), .val (.int (0 : Int32)), .val (.int (1 : Int32)), .val (.ref nt), .val (.ref nt), .unset, .unset] [])) _
            refine XS.iload X43.here hx rfl (hb hby at_120) rfl ?_
            show Steps p.tables e below (T43.setTop (mkF m 122 #[.val (.int mask), .val (.int t1), .val (.int t2), .val (.int t3), .val (.int f1), .val (.int f2), .val (.int f3), .val (.ref b22), .val (.int (0 : Int32)), .val (.int (1 : Int32)), .val (.ref nt), .val (.ref nt), .unset, .unset] [(.int f1)])) _
            refine XS.ifYes X43.here hx rfl (pc0 := 122) (pc' := 143) rfl (hb hby at_122) rfl ((if0 _ _).trans (teq hc65_34).1) (by decide) (by decide) ?_
            show Steps p.tables e below (T43.setTop (mkF m 143 #[.val (.int mask), .val (.int t1), .val (.int t2), .val (.int t3), .val (.int f1), .val (.int f2), .val (.int f3), .val (.ref b22), .val (.int (0 : Int32)), .val (.int (1 : Int32)), .val (.ref nt), .val (.ref nt), .unset, .unset] [])) _
            refine XS.iload X43.here hx rfl (hb hby at_143) rfl ?_
            show Steps p.tables e below (T43.setTop (mkF m 145 #[.val (.int mask), .val (.int t1), .val (.int t2), .val (.int t3), .val (.int f1), .val (.int f2), .val (.int f3), .val (.ref b22), .val (.int (0 : Int32)), .val (.int (1 : Int32)), .val (.ref nt), .val (.ref nt), .unset, .unset] [(.int f1)])) _
            refine XS.ifYes X43.here hx rfl (pc0 := 145) (pc' := 161) rfl (hb hby at_145) rfl ((if0 _ _).trans (teq hc65_34).1) (by decide) (by decide) ?_
            show Steps p.tables e below (T43.setTop (mkF m 161 #[.val (.int mask), .val (.int t1), .val (.int t2), .val (.int t3), .val (.int f1), .val (.int f2), .val (.int f3), .val (.ref b22), .val (.int (0 : Int32)), .val (.int (1 : Int32)), .val (.ref nt), .val (.ref nt), .unset, .unset] [])) _
            refine XS.iload X43.here hx rfl (hb hby at_161) rfl ?_
            show Steps p.tables e below (T43.setTop (mkF m 163 #[.val (.int mask), .val (.int t1), .val (.int t2), .val (.int t3), .val (.int f1), .val (.int f2), .val (.int f3), .val (.ref b22), .val (.int (0 : Int32)), .val (.int (1 : Int32)), .val (.ref nt), .val (.ref nt), .unset, .unset] [(.int f3)])) _
            refine XS.ifYes X43.here hx rfl (pc0 := 163) (pc' := 179) rfl (hb hby at_163) rfl ((if0 _ _).trans (teq hc91_38).1) (by decide) (by decide) ?_
            show Steps p.tables e below (T43.setTop (mkF m 179 #[.val (.int mask), .val (.int t1), .val (.int t2), .val (.int t3), .val (.int f1), .val (.int f2), .val (.int f3), .val (.ref b22), .val (.int (0 : Int32)), .val (.int (1 : Int32)), .val (.ref nt), .val (.ref nt), .unset, .unset] [])) _
            refine XS.aload X43.here hx rfl (hb hby at_179) rfl rfl ?_
            show Steps p.tables e below (T43.setTop (mkF m 181 #[.val (.int mask), .val (.int t1), .val (.int t2), .val (.int t3), .val (.int f1), .val (.int f2), .val (.int f3), .val (.ref b22), .val (.int (0 : Int32)), .val (.int (1 : Int32)), .val (.ref nt), .val (.ref nt), .unset, .unset] [(.ref nt)])) _
            refine XS.iconst X43.here hx rfl (hb hby at_181) ?_
            show Steps p.tables e below (T43.setTop (mkF m 182 #[.val (.int mask), .val (.int t1), .val (.int t2), .val (.int t3), .val (.int f1), .val (.int f2), .val (.int f3), .val (.ref b22), .val (.int (0 : Int32)), .val (.int (1 : Int32)), .val (.ref nt), .val (.ref nt), .unset, .unset] [(.int (0 : Int32)), (.ref nt)])) _
            refine XS.iconst X43.here hx rfl (hb hby at_182) ?_
            show Steps p.tables e below (T43.setTop (mkF m 183 #[.val (.int mask), .val (.int t1), .val (.int t2), .val (.int t3), .val (.int f1), .val (.int f2), .val (.int f3), .val (.ref b22), .val (.int (0 : Int32)), .val (.int (1 : Int32)), .val (.ref nt), .val (.ref nt), .unset, .unset] [(.int (0 : Int32)), (.int (0 : Int32)), (.ref nt)])) _
            refine XS.iconst X43.here hx rfl (hb hby at_183) ?_
            exact kt)
        obtain ⟨_, _, ⟨T46, L46, k46, n46⟩, -, X46, ⟨Lc46, hQ46, l46, y46, z46⟩, st46⟩ := Jvm.LawKit.callS X43 hx (y := (⟨"com/example/unicept/unicept/WordTrieTagsPinLaw", "same", "([IIII)Z"⟩ : MethodName)) hown (mvT hZ (hw _ (List.mem_of_getElem? (i := 49) rfl))) (mvT hZ (hw _ (List.mem_of_getElem? (i := 50) rfl))) (mvT hZ (hw _ (List.mem_of_getElem? (i := 51) rfl))) (mvT hZ (hw _ (List.mem_of_getElem? (i := 52) rfl))) (by decide) (backOf (W := 0) (own_same0 l Z a0 hw [] nt kn (0 : Int32) (0 : Int32) T31.heap n0 (Nat.le_trans (Nat.le_trans (Nat.le_trans (Nat.le_trans Z0 E22.1) K25q.1) K28q.1) K31q.1) ((((V_nt.ext E22).keep K25q (ninS (Nat.ne_of_lt (Nat.lt_of_lt_of_le V_nt.lt (Nat.le_of_eq g22.symm))) nin0)).keep K28q (ninS (Nat.ne_of_lt (Nat.lt_of_lt_of_le V_nt.lt (Nat.le_of_eq g22.symm))) (ninS (Nat.ne_of_lt (Nat.lt_of_lt_of_le (V_nt.ext E22).lt z1)) (ninS (Nat.ne_of_lt (Nat.lt_of_lt_of_le (V_nt.ext E22).lt z2)) nin0)))).keep K31q (ninS (Nat.ne_of_lt (Nat.lt_of_lt_of_le V_nt.lt (Nat.le_of_eq g22.symm))) (ninS (Nat.ne_of_lt (Nat.lt_of_lt_of_le (V_nt.ext E22).lt z1)) (ninS (Nat.ne_of_lt (Nat.lt_of_lt_of_le (V_nt.ext E22).lt z2)) nin0))))) hZ (hw _ (List.mem_of_getElem? (i := 52) rfl)) (hw _ (List.mem_of_getElem? (i := 51) rfl)) (by decide) (by decide)) (g := (mkF m 184 #[.val (.int mask), .val (.int t1), .val (.int t2), .val (.int t3), .val (.int f1), .val (.int f2), .val (.int f3), .val (.ref b22), .val (.int (0 : Int32)), .val (.int (1 : Int32)), .val (.ref nt), .val (.ref nt), .unset, .unset] [(.int (0 : Int32)), (.int (0 : Int32)), (.int (0 : Int32)), (.ref nt)])) rfl (by rw [hml]; rfl) (argsL := [(.ref nt), (.int (0 : Int32)), (.int (0 : Int32)), (.int (0 : Int32))]) (rest := []) (lenOf own_pd7 rfl) rfl (by show 2 * 0 + _ ≤ _; exact Nat.le_of_eq rfl) (hb hby at_184) (fun _ _ => ⟨rfl, e43, (by decide : 4 + 0 ≤ _), (by decide : 165 + 0 ≤ _)⟩)
        dsimp only [Pt.U, Pt.locs, Pt.cells, Pt.slots] at X46 l46 y46 z46 st46 hQ46
        subst l46 y46 z46
        obtain ⟨rfl, N46q, e46⟩ := hQ46
        have N46 := Fr.app N43 N46q
        have pre47 : Goes p e below s₁ (entryFrame m #[(.int mask), (.int t1), (.int t2), (.int t3)] maxLocals) T46 (mkF m 187 #[.val (.int mask), .val (.int t1), .val (.int t2), .val (.int t3), .val (.int f1), .val (.int f2), .val (.int f3), .val (.ref b22), .val (.int (0 : Int32)), .val (.int (1 : Int32)), .val (.ref nt), .val (.ref nt), .unset, .unset] [(.int (1 : Int32))]) := fun t kt => pre45 t (st46 t kt)
        have pre48 : Goes p e below s₁ (entryFrame m #[(.int mask), (.int t1), (.int t2), (.int t3)] maxLocals) T46 (mkF m 212 #[.val (.int mask), .val (.int t1), .val (.int t2), .val (.int t3), .val (.int f1), .val (.int f2), .val (.int f3), .val (.ref b22), .val (.int (0 : Int32)), .val (.int (1 : Int32)), .val (.ref nt), .val (.ref nt), .val (.int (1 : Int32)), .unset] [(.int (0 : Int32)), (.int (0 : Int32)), (.int (0 : Int32)), (.ref nt)]) := fun t kt => pre47 t (by
            show Steps p.tables e below (T46.setTop (mkF m 187 #[.val (.int mask), .val (.int t1), .val (.int t2), .val (.int t3), .val (.int f1), .val (.int f2), .val (.int f3), .val (.ref b22), .val (.int (0 : Int32)), .val (.int (1 : Int32)), .val (.ref nt), .val (.ref nt), .unset, .unset] [(.int (1 : Int32))])) _
            refine XS.istore X46.here hx rfl (hb hby at_187) rfl (l' := #[.val (.int mask), .val (.int t1), .val (.int t2), .val (.int t3), .val (.int f1), .val (.int f2), .val (.int f3), .val (.ref b22), .val (.int (0 : Int32)), .val (.int (1 : Int32)), .val (.ref nt), .val (.ref nt), .val (.int (1 : Int32)), .unset]) rfl ?_
            show Steps p.tables e below (T46.setTop (mkF m 189 #[.val (.int mask), .val (.int t1), .val (.int t2), .val (.int t3), .val (.int f1), .val (.int f2), .val (.int f3), .val (.ref b22), .val (.int (0 : Int32)), .val (.int (1 : Int32)), .val (.ref nt), .val (.ref nt), .val (.int (1 : Int32)), .unset] [])) _
            refine XS.iload X46.here hx rfl (hb hby at_189) rfl ?_
            show Steps p.tables e below (T46.setTop (mkF m 191 #[.val (.int mask), .val (.int t1), .val (.int t2), .val (.int t3), .val (.int f1), .val (.int f2), .val (.int f3), .val (.ref b22), .val (.int (0 : Int32)), .val (.int (1 : Int32)), .val (.ref nt), .val (.ref nt), .val (.int (1 : Int32)), .unset] [(.int f2)])) _
            refine XS.ifYes X46.here hx rfl (pc0 := 191) (pc' := 207) rfl (hb hby at_191) rfl ((if0 _ _).trans (teq hc78_36).1) (by decide) (by decide) ?_
            show Steps p.tables e below (T46.setTop (mkF m 207 #[.val (.int mask), .val (.int t1), .val (.int t2), .val (.int t3), .val (.int f1), .val (.int f2), .val (.int f3), .val (.ref b22), .val (.int (0 : Int32)), .val (.int (1 : Int32)), .val (.ref nt), .val (.ref nt), .val (.int (1 : Int32)), .unset] [])) _
            refine XS.aload X46.here hx rfl (hb hby at_207) rfl rfl ?_
            show Steps p.tables e below (T46.setTop (mkF m 209 #[.val (.int mask), .val (.int t1), .val (.int t2), .val (.int t3), .val (.int f1), .val (.int f2), .val (.int f3), .val (.ref b22), .val (.int (0 : Int32)), .val (.int (1 : Int32)), .val (.ref nt), .val (.ref nt), .val (.int (1 : Int32)), .unset] [(.ref nt)])) _
            refine XS.iconst X46.here hx rfl (hb hby at_209) ?_
            show Steps p.tables e below (T46.setTop (mkF m 210 #[.val (.int mask), .val (.int t1), .val (.int t2), .val (.int t3), .val (.int f1), .val (.int f2), .val (.int f3), .val (.ref b22), .val (.int (0 : Int32)), .val (.int (1 : Int32)), .val (.ref nt), .val (.ref nt), .val (.int (1 : Int32)), .unset] [(.int (0 : Int32)), (.ref nt)])) _
            refine XS.iconst X46.here hx rfl (hb hby at_210) ?_
            show Steps p.tables e below (T46.setTop (mkF m 211 #[.val (.int mask), .val (.int t1), .val (.int t2), .val (.int t3), .val (.int f1), .val (.int f2), .val (.int f3), .val (.ref b22), .val (.int (0 : Int32)), .val (.int (1 : Int32)), .val (.ref nt), .val (.ref nt), .val (.int (1 : Int32)), .unset] [(.int (0 : Int32)), (.int (0 : Int32)), (.ref nt)])) _
            refine XS.iconst X46.here hx rfl (hb hby at_211) ?_
            exact kt)
        obtain ⟨_, _, ⟨T49, L49, k49, n49⟩, -, X49, ⟨Lc49, hQ49, l49, y49, z49⟩, st49⟩ := Jvm.LawKit.callS X46 hx (y := (⟨"com/example/unicept/unicept/WordTrieTagsPinLaw", "same", "([IIII)Z"⟩ : MethodName)) hown (mvT hZ (hw _ (List.mem_of_getElem? (i := 49) rfl))) (mvT hZ (hw _ (List.mem_of_getElem? (i := 50) rfl))) (mvT hZ (hw _ (List.mem_of_getElem? (i := 51) rfl))) (mvT hZ (hw _ (List.mem_of_getElem? (i := 52) rfl))) (by decide) (backOf (W := 0) (own_same0 l Z a0 hw [] nt kn (0 : Int32) (0 : Int32) T31.heap n0 (Nat.le_trans (Nat.le_trans (Nat.le_trans (Nat.le_trans Z0 E22.1) K25q.1) K28q.1) K31q.1) ((((V_nt.ext E22).keep K25q (ninS (Nat.ne_of_lt (Nat.lt_of_lt_of_le V_nt.lt (Nat.le_of_eq g22.symm))) nin0)).keep K28q (ninS (Nat.ne_of_lt (Nat.lt_of_lt_of_le V_nt.lt (Nat.le_of_eq g22.symm))) (ninS (Nat.ne_of_lt (Nat.lt_of_lt_of_le (V_nt.ext E22).lt z1)) (ninS (Nat.ne_of_lt (Nat.lt_of_lt_of_le (V_nt.ext E22).lt z2)) nin0)))).keep K31q (ninS (Nat.ne_of_lt (Nat.lt_of_lt_of_le V_nt.lt (Nat.le_of_eq g22.symm))) (ninS (Nat.ne_of_lt (Nat.lt_of_lt_of_le (V_nt.ext E22).lt z1)) (ninS (Nat.ne_of_lt (Nat.lt_of_lt_of_le (V_nt.ext E22).lt z2)) nin0))))) hZ (hw _ (List.mem_of_getElem? (i := 52) rfl)) (hw _ (List.mem_of_getElem? (i := 51) rfl)) (by decide) (by decide)) (g := (mkF m 212 #[.val (.int mask), .val (.int t1), .val (.int t2), .val (.int t3), .val (.int f1), .val (.int f2), .val (.int f3), .val (.ref b22), .val (.int (0 : Int32)), .val (.int (1 : Int32)), .val (.ref nt), .val (.ref nt), .val (.int (1 : Int32)), .unset] [(.int (0 : Int32)), (.int (0 : Int32)), (.int (0 : Int32)), (.ref nt)])) rfl (by rw [hml]; rfl) (argsL := [(.ref nt), (.int (0 : Int32)), (.int (0 : Int32)), (.int (0 : Int32))]) (rest := []) (lenOf own_pd7 rfl) rfl (by show 2 * 0 + _ ≤ _; exact Nat.le_of_eq rfl) (hb hby at_212) (fun _ _ => ⟨rfl, e46, (by decide : 4 + 0 ≤ _), (by decide : 165 + 0 ≤ _)⟩)
        dsimp only [Pt.U, Pt.locs, Pt.cells, Pt.slots] at X49 l49 y49 z49 st49 hQ49
        subst l49 y49 z49
        obtain ⟨rfl, N49q, e49⟩ := hQ49
        have N49 := Fr.app N46 N49q
        have pre50 : Goes p e below s₁ (entryFrame m #[(.int mask), (.int t1), (.int t2), (.int t3)] maxLocals) T49 (mkF m 215 #[.val (.int mask), .val (.int t1), .val (.int t2), .val (.int t3), .val (.int f1), .val (.int f2), .val (.int f3), .val (.ref b22), .val (.int (0 : Int32)), .val (.int (1 : Int32)), .val (.ref nt), .val (.ref nt), .val (.int (1 : Int32)), .unset] [(.int (1 : Int32))]) := fun t kt => pre48 t (st49 t kt)
        have pre51 : Goes p e below s₁ (entryFrame m #[(.int mask), (.int t1), (.int t2), (.int t3)] maxLocals) T49 (mkF m 232 #[.val (.int mask), .val (.int t1), .val (.int t2), .val (.int t3), .val (.int f1), .val (.int f2), .val (.int f3), .val (.ref b22), .val (.int (0 : Int32)), .val (.int (1 : Int32)), .val (.ref nt), .val (.ref nt), .val (.int (1 : Int32)), .val (.int (1 : Int32))] [(.int (1 : Int32))]) := fun t kt => pre50 t (by
            show Steps p.tables e below (T49.setTop (mkF m 215 #[.val (.int mask), .val (.int t1), .val (.int t2), .val (.int t3), .val (.int f1), .val (.int f2), .val (.int f3), .val (.ref b22), .val (.int (0 : Int32)), .val (.int (1 : Int32)), .val (.ref nt), .val (.ref nt), .val (.int (1 : Int32)), .unset] [(.int (1 : Int32))])) _
            refine XS.istore X49.here hx rfl (hb hby at_215) rfl (l' := #[.val (.int mask), .val (.int t1), .val (.int t2), .val (.int t3), .val (.int f1), .val (.int f2), .val (.int f3), .val (.ref b22), .val (.int (0 : Int32)), .val (.int (1 : Int32)), .val (.ref nt), .val (.ref nt), .val (.int (1 : Int32)), .val (.int (1 : Int32))]) rfl ?_
            show Steps p.tables e below (T49.setTop (mkF m 217 #[.val (.int mask), .val (.int t1), .val (.int t2), .val (.int t3), .val (.int f1), .val (.int f2), .val (.int f3), .val (.ref b22), .val (.int (0 : Int32)), .val (.int (1 : Int32)), .val (.ref nt), .val (.ref nt), .val (.int (1 : Int32)), .val (.int (1 : Int32))] [])) _
            refine XS.iload X49.here hx rfl (hb hby at_217) rfl ?_
            show Steps p.tables e below (T49.setTop (mkF m 219 #[.val (.int mask), .val (.int t1), .val (.int t2), .val (.int t3), .val (.int f1), .val (.int f2), .val (.int f3), .val (.ref b22), .val (.int (0 : Int32)), .val (.int (1 : Int32)), .val (.ref nt), .val (.ref nt), .val (.int (1 : Int32)), .val (.int (1 : Int32))] [(.int (1 : Int32))])) _
            refine XS.ifNo X49.here hx rfl (hb hby at_219) rfl ((if0 _ _).trans (feq (by decide : ¬ ((1 : Int32) = (0 : Int32)))).1) ?_
            show Steps p.tables e below (T49.setTop (mkF m 222 #[.val (.int mask), .val (.int t1), .val (.int t2), .val (.int t3), .val (.int f1), .val (.int f2), .val (.int f3), .val (.ref b22), .val (.int (0 : Int32)), .val (.int (1 : Int32)), .val (.ref nt), .val (.ref nt), .val (.int (1 : Int32)), .val (.int (1 : Int32))] [])) _
            refine XS.iload X49.here hx rfl (hb hby at_222) rfl ?_
            show Steps p.tables e below (T49.setTop (mkF m 224 #[.val (.int mask), .val (.int t1), .val (.int t2), .val (.int t3), .val (.int f1), .val (.int f2), .val (.int f3), .val (.ref b22), .val (.int (0 : Int32)), .val (.int (1 : Int32)), .val (.ref nt), .val (.ref nt), .val (.int (1 : Int32)), .val (.int (1 : Int32))] [(.int (1 : Int32))])) _
            refine XS.ifNo X49.here hx rfl (hb hby at_224) rfl ((if0 _ _).trans (feq (by decide : ¬ ((1 : Int32) = (0 : Int32)))).1) ?_
            show Steps p.tables e below (T49.setTop (mkF m 227 #[.val (.int mask), .val (.int t1), .val (.int t2), .val (.int t3), .val (.int f1), .val (.int f2), .val (.int f3), .val (.ref b22), .val (.int (0 : Int32)), .val (.int (1 : Int32)), .val (.ref nt), .val (.ref nt), .val (.int (1 : Int32)), .val (.int (1 : Int32))] [])) _
            refine XS.iconst X49.here hx rfl (hb hby at_227) ?_
            show Steps p.tables e below (T49.setTop (mkF m 228 #[.val (.int mask), .val (.int t1), .val (.int t2), .val (.int t3), .val (.int f1), .val (.int f2), .val (.int f3), .val (.ref b22), .val (.int (0 : Int32)), .val (.int (1 : Int32)), .val (.ref nt), .val (.ref nt), .val (.int (1 : Int32)), .val (.int (1 : Int32))] [(.int (1 : Int32))])) _
            refine XS.goto X49.here hx rfl (pc0 := 228) (pc' := 232) rfl (hb hby at_228) (by decide) (by decide) ?_
            exact kt)
        obtain ⟨fs, hr, hrun, hended, hW, hsame⟩ := X49.leave (v := some (.int (1 : Int32))) (fun h => by rw [Bd.returns] at h; cases h)
        refine ⟨_, _, pre51 _ ?_, hrun, hended, _, _, rfl, ?_, ⟨_, rfl⟩, hW, hsame.mono (by decide) (by decide)⟩
        · show Steps p.tables e below (T49.setTop (mkF m 232 #[.val (.int mask), .val (.int t1), .val (.int t2), .val (.int t3), .val (.int f1), .val (.int f2), .val (.int f3), .val (.ref b22), .val (.int (0 : Int32)), .val (.int (1 : Int32)), .val (.ref nt), .val (.ref nt), .val (.int (1 : Int32)), .val (.int (1 : Int32))] [(.int (1 : Int32))])) _
          exact retN X49 hx (t := .boolean) Bd.returns (by simp) (hb hby at_232) hr
        · show Q_own_rm0 Z mask t1 t2 t3 nt kn h0 n0 _ T49.heap _
          rw [e49]
          exact ⟨rfl, N49⟩
      · -- no at pc 91: tt
        have pre52 : Goes p e below s₁ (entryFrame m #[(.int mask), (.int t1), (.int t2), (.int t3)] maxLocals) T31 (mkF m 99 #[.val (.int mask), .val (.int t1), .val (.int t2), .val (.int t3), .val (.int f1), .val (.int f2), .val (.int f3), .val (.ref b22), .val (.int (0 : Int32)), .val (.int (1 : Int32)), .unset, .unset, .unset, .unset] [(.int t3), (.int (0 : Int32)), (.ref b22)]) := fun t kt => pre37 t (by
            show Steps p.tables e below (T31.setTop (mkF m 91 #[.val (.int mask), .val (.int t1), .val (.int t2), .val (.int t3), .val (.int f1), .val (.int f2), .val (.int f3), .val (.ref b22), .val (.int (0 : Int32)), .val (.int (1 : Int32)), .unset, .unset, .unset, .unset] [(.int f3)])) _
            refine XS.ifNo X31.here hx rfl (hb hby at_91) rfl ((if0 _ _).trans (feq hc91_38).1) ?_
            show Steps p.tables e below (T31.setTop (mkF m 94 #[.val (.int mask), .val (.int t1), .val (.int t2), .val (.int t3), .val (.int f1), .val (.int f2), .val (.int f3), .val (.ref b22), .val (.int (0 : Int32)), .val (.int (1 : Int32)), .unset, .unset, .unset, .unset] [])) _
            refine XS.aload X31.here hx rfl (hb hby at_94) rfl rfl ?_
            show Steps p.tables e below (T31.setTop (mkF m 96 #[.val (.int mask), .val (.int t1), .val (.int t2), .val (.int t3), .val (.int f1), .val (.int f2), .val (.int f3), .val (.ref b22), .val (.int (0 : Int32)), .val (.int (1 : Int32)), .unset, .unset, .unset, .unset] [(.ref b22)])) _
            refine XS.iload X31.here hx rfl (hb hby at_96) rfl ?_
            show Steps p.tables e below (T31.setTop (mkF m 98 #[.val (.int mask), .val (.int t1), .val (.int t2), .val (.int t3), .val (.int f1), .val (.int f2), .val (.int f3), .val (.ref b22), .val (.int (0 : Int32)), .val (.int (1 : Int32)), .unset, .unset, .unset, .unset] [(.int (0 : Int32)), (.ref b22)])) _
            refine XS.iloadN X31.here hx rfl (hb hby at_98) rfl ?_
            exact kt)
        obtain ⟨cq53, kq53, q53a, q53b, q53c⟩ := isOf hZ rfl hT31.1
        obtain ⟨_, _, ⟨T53, L53, k53, n53⟩, -, X53, ⟨Lc53, hQ53, l53, y53, z53⟩, st53⟩ := X31.virtualBack hx (y := (⟨"com/example/unicept/unicept/WordTrie", "tag", "(II)V"⟩ : MethodName)) (z := (⟨"com/example/unicept/unicept/WordTrie", "tag", "(II)V"⟩ : MethodName)) hown (mvT hZ (hw _ (List.mem_of_getElem? (i := 53) rfl))) (mvT hZ (hw _ (List.mem_of_getElem? (i := 54) rfl))) (notFace_of_selects (args := #[]) (mvT hZ (hw _ (List.mem_of_getElem? (i := 56) rfl)))) (mvT hZ (hw _ (List.mem_of_getElem? (i := 56) rfl))) (mvT hZ (hw _ (List.mem_of_getElem? (i := 55) rfl))) (by decide) (backOf (W := 0) (own_tag0 l Z a0 hw [] b22 1 2 ch (own_fl (own_fl (fun _ => 0) (0 * 1) (0 * 1 + 1) (-1)) (1 * 1) (1 * 1 + 1) (-1)) rt (own_up (own_up (fun _ => 0) 0 (Int32.ofNat 0)) 1 (Int32.ofNat 1)) tg kt (List.replicate 16 .null) (0 : Int32) t3 nt kn T31.heap n0 (Nat.le_trans (Nat.le_trans (Nat.le_trans (Nat.le_trans Z0 E22.1) K25q.1) K28q.1) K31q.1) hT31 Ov (by decide) (by simp) rfl ((((V_nt.ext E22).keep K25q (ninS (Nat.ne_of_lt (Nat.lt_of_lt_of_le V_nt.lt (Nat.le_of_eq g22.symm))) nin0)).keep K28q (ninS (Nat.ne_of_lt (Nat.lt_of_lt_of_le V_nt.lt (Nat.le_of_eq g22.symm))) (ninS (Nat.ne_of_lt (Nat.lt_of_lt_of_le (V_nt.ext E22).lt z1)) (ninS (Nat.ne_of_lt (Nat.lt_of_lt_of_le (V_nt.ext E22).lt z2)) nin0)))).keep K31q (ninS (Nat.ne_of_lt (Nat.lt_of_lt_of_le V_nt.lt (Nat.le_of_eq g22.symm))) (ninS (Nat.ne_of_lt (Nat.lt_of_lt_of_le (V_nt.ext E22).lt z1)) (ninS (Nat.ne_of_lt (Nat.lt_of_lt_of_le (V_nt.ext E22).lt z2)) nin0)))) (S_NT.ext ((((O0.ext E22).keep K25q (allS g_b22 all0)).keep K28q (allS g_b22 (allS g_ch (allS g_rt all0)))).keep K31q (allS g_b22 (allS g_ch (allS g_rt all0)))).2)) hZ (hw _ (List.mem_of_getElem? (i := 57) rfl)) (hw _ (List.mem_of_getElem? (i := 2) rfl)) (by decide) (by decide)) q53a q53c (g := (mkF m 99 #[.val (.int mask), .val (.int t1), .val (.int t2), .val (.int t3), .val (.int f1), .val (.int f2), .val (.int f3), .val (.ref b22), .val (.int (0 : Int32)), .val (.int (1 : Int32)), .unset, .unset, .unset, .unset] [(.int t3), (.int (0 : Int32)), (.ref b22)])) rfl (by rw [hml]; rfl) (Steps.refl _) (argsL := [(.int (0 : Int32)), (.int t3)]) (rest := []) (lenOf own_pd8 rfl) rfl (by show 2 * 0 + _ ≤ _; exact Nat.le_of_eq rfl) (hb hby at_99) (fun _ _ => ⟨rfl, rfl, (by decide : 4 + 1 ≤ _), (by decide : 165 + 1 ≤ _)⟩)
        dsimp only [Pt.U, Pt.locs, Pt.cells, Pt.slots] at X53 l53 y53 z53 st53 hQ53
        subst l53 y53 z53
        obtain ⟨rfl, N53q, K53q, y53, ky53, zy53, gy53, ny53, Vy53, hT53⟩ := hQ53
        have N53 := Fr.app N31 N53q
        have KC53 : Keep h0 T53.heap [] := KC31.trans K53q (allS (Or.inr sz_tg) all0)
        have pre54 : Goes p e below s₁ (entryFrame m #[(.int mask), (.int t1), (.int t2), (.int t3)] maxLocals) T53 (mkF m 102 #[.val (.int mask), .val (.int t1), .val (.int t2), .val (.int t3), .val (.int f1), .val (.int f2), .val (.int f3), .val (.ref b22), .val (.int (0 : Int32)), .val (.int (1 : Int32)), .unset, .unset, .unset, .unset] []) := fun t kt => pre52 t (st53.trans kt)
        have pre55 : Goes p e below s₁ (entryFrame m #[(.int mask), (.int t1), (.int t2), (.int t3)] maxLocals) T53 (mkF m 106 #[.val (.int mask), .val (.int t1), .val (.int t2), .val (.int t3), .val (.int f1), .val (.int f2), .val (.int f3), .val (.ref b22), .val (.int (0 : Int32)), .val (.int (1 : Int32)), .unset, .unset, .unset, .unset] [(.int (0 : Int32)), (.ref b22)]) := fun t kt => pre54 t (by
            show Steps p.tables e below (T53.setTop (mkF m 102 #[.val (.int mask), .val (.int t1), .val (.int t2), .val (.int t3), .val (.int f1), .val (.int f2), .val (.int f3), .val (.ref b22), .val (.int (0 : Int32)), .val (.int (1 : Int32)), .unset, .unset, .unset, .unset] [])) _
            refine XS.aload X53.here hx rfl (hb hby at_102) rfl rfl ?_
            show Steps p.tables e below (T53.setTop (mkF m 104 #[.val (.int mask), .val (.int t1), .val (.int t2), .val (.int t3), .val (.int f1), .val (.int f2), .val (.int f3), .val (.ref b22), .val (.int (0 : Int32)), .val (.int (1 : Int32)), .unset, .unset, .unset, .unset] [(.ref b22)])) _
            refine XS.iload X53.here hx rfl (hb hby at_104) rfl ?_
            exact kt)
        obtain ⟨cq56, kq56, q56a, q56b, q56c⟩ := isOf hZ rfl hT53.1
        obtain ⟨_, _, ⟨T56, L56, k56, n56⟩, -, X56, ⟨Lc56, hQ56, l56, y56, z56⟩, st56⟩ := X53.virtualBack hx (y := (⟨"com/example/unicept/unicept/WordTrie", "tags", "(I)[I"⟩ : MethodName)) (z := (⟨"com/example/unicept/unicept/WordTrie", "tags", "(I)[I"⟩ : MethodName)) hown (mvT hZ (hw _ (List.mem_of_getElem? (i := 42) rfl))) (mvT hZ (hw _ (List.mem_of_getElem? (i := 43) rfl))) (notFace_of_selects (args := #[]) (mvT hZ (hw _ (List.mem_of_getElem? (i := 45) rfl)))) (mvT hZ (hw _ (List.mem_of_getElem? (i := 45) rfl))) (mvT hZ (hw _ (List.mem_of_getElem? (i := 44) rfl))) (by decide) (backOf (W := 0) (own_tags1 l Z a0 hw [] b22 1 2 ch (own_fl (own_fl (fun _ => 0) (0 * 1) (0 * 1 + 1) (-1)) (1 * 1) (1 * 1 + 1) (-1)) rt (own_up (own_up (fun _ => 0) 0 (Int32.ofNat 0)) 1 (Int32.ofNat 1)) tg kt ((List.replicate 16 .null).set 0 (.ref y53)) (0 : Int32) y53 T53.heap n0 (Nat.le_trans (Nat.le_trans (Nat.le_trans (Nat.le_trans (Nat.le_trans Z0 E22.1) K25q.1) K28q.1) K31q.1) K53q.1) hT53 (by decide) rfl) hZ (hw _ (List.mem_of_getElem? (i := 46) rfl)) (hw _ (List.mem_of_getElem? (i := 2) rfl)) (by decide) (by decide)) q56a q56c (g := (mkF m 106 #[.val (.int mask), .val (.int t1), .val (.int t2), .val (.int t3), .val (.int f1), .val (.int f2), .val (.int f3), .val (.ref b22), .val (.int (0 : Int32)), .val (.int (1 : Int32)), .unset, .unset, .unset, .unset] [(.int (0 : Int32)), (.ref b22)])) rfl (by rw [hml]; rfl) (Steps.refl _) (argsL := [(.int (0 : Int32))]) (rest := []) (lenOf own_pd6 rfl) rfl (by show 2 * 0 + _ ≤ _; exact Nat.le_of_eq rfl) (hb hby at_106) (fun _ _ => ⟨rfl, rfl, (by decide : 5 + 0 ≤ _), (by decide : 166 + 0 ≤ _)⟩)
        dsimp only [Pt.U, Pt.locs, Pt.cells, Pt.slots] at X56 l56 y56 z56 st56 hQ56
        subst l56 y56 z56
        obtain ⟨rfl, N56q, e56⟩ := hQ56
        have N56 := Fr.app N53 N56q
        have pre57 : Goes p e below s₁ (entryFrame m #[(.int mask), (.int t1), (.int t2), (.int t3)] maxLocals) T56 (mkF m 109 #[.val (.int mask), .val (.int t1), .val (.int t2), .val (.int t3), .val (.int f1), .val (.int f2), .val (.int f3), .val (.ref b22), .val (.int (0 : Int32)), .val (.int (1 : Int32)), .unset, .unset, .unset, .unset] [(.ref y53)]) := fun t kt => pre55 t (st56.trans kt)
        have pre58 : Goes p e below s₁ (entryFrame m #[(.int mask), (.int t1), (.int t2), (.int t3)] maxLocals) T56 (mkF m 115 #[.val (.int mask), .val (.int t1), .val (.int t2), .val (.int t3), .val (.int f1), .val (.int f2), .val (.int f3), .val (.ref b22), .val (.int (0 : Int32)), .val (.int (1 : Int32)), .val (.ref y53), .unset, .unset, .unset] [(.int (1 : Int32)), (.ref b22)]) := fun t kt => pre57 t (by
            show Steps p.tables e below (T56.setTop (mkF m 109 #[.val (.int mask), .val (.int t1), .val (.int t2), .val (.int t3), .val (.int f1), .val (.int f2), .val (.int f3), .val (.ref b22), .val (.int (0 : Int32)), .val (.int (1 : Int32)), .unset, .unset, .unset, .unset] [(.ref y53)])) _
            refine XS.astore X56.here hx rfl (hb hby at_109) rfl rfl (l' := #[.val (.int mask), .val (.int t1), .val (.int t2), .val (.int t3), .val (.int f1), .val (.int f2), .val (.int f3), .val (.ref b22), .val (.int (0 : Int32)), .val (.int (1 : Int32)), .val (.ref y53), .unset, .unset, .unset]) rfl ?_
            show Steps p.tables e below (T56.setTop (mkF m 111 #[.val (.int mask), .val (.int t1), .val (.int t2), .val (.int t3), .val (.int f1), .val (.int f2), .val (.int f3), .val (.ref b22), .val (.int (0 : Int32)), .val (.int (1 : Int32)), .val (.ref y53), .unset, .unset, .unset] [])) _
            refine XS.aload X56.here hx rfl (hb hby at_111) rfl rfl ?_
            show Steps p.tables e below (T56.setTop (mkF m 113 #[.val (.int mask), .val (.int t1), .val (.int t2), .val (.int t3), .val (.int f1), .val (.int f2), .val (.int f3), .val (.ref b22), .val (.int (0 : Int32)), .val (.int (1 : Int32)), .val (.ref y53), .unset, .unset, .unset] [(.ref b22)])) _
            refine XS.iload X56.here hx rfl (hb hby at_113) rfl ?_
            exact kt)
        obtain ⟨cq59, kq59, q59a, q59b, q59c⟩ := isOf hZ e56 hT53.1
        obtain ⟨_, _, ⟨T59, L59, k59, n59⟩, -, X59, ⟨Lc59, hQ59, l59, y59, z59⟩, st59⟩ := X56.virtualBack hx (y := (⟨"com/example/unicept/unicept/WordTrie", "tags", "(I)[I"⟩ : MethodName)) (z := (⟨"com/example/unicept/unicept/WordTrie", "tags", "(I)[I"⟩ : MethodName)) hown (mvT hZ (hw _ (List.mem_of_getElem? (i := 42) rfl))) (mvT hZ (hw _ (List.mem_of_getElem? (i := 43) rfl))) (notFace_of_selects (args := #[]) (mvT hZ (hw _ (List.mem_of_getElem? (i := 45) rfl)))) (mvT hZ (hw _ (List.mem_of_getElem? (i := 45) rfl))) (mvT hZ (hw _ (List.mem_of_getElem? (i := 44) rfl))) (by decide) (backOf (W := 0) (own_tags0 l Z a0 hw [] b22 1 2 ch (own_fl (own_fl (fun _ => 0) (0 * 1) (0 * 1 + 1) (-1)) (1 * 1) (1 * 1 + 1) (-1)) rt (own_up (own_up (fun _ => 0) 0 (Int32.ofNat 0)) 1 (Int32.ofNat 1)) tg kt ((List.replicate 16 .null).set 0 (.ref y53)) (1 : Int32) nt T53.heap n0 (Nat.le_trans (Nat.le_trans (Nat.le_trans (Nat.le_trans (Nat.le_trans Z0 E22.1) K25q.1) K28q.1) K31q.1) K53q.1) hT53 (by decide) rfl (S_NT.ext (((((O0.ext E22).keep K25q (allS g_b22 all0)).keep K28q (allS g_b22 (allS g_ch (allS g_rt all0)))).keep K31q (allS g_b22 (allS g_ch (allS g_rt all0)))).keep K53q (allS g_tg all0)).2)) hZ (hw _ (List.mem_of_getElem? (i := 46) rfl)) (hw _ (List.mem_of_getElem? (i := 2) rfl)) (by decide) (by decide)) q59a q59c (g := (mkF m 115 #[.val (.int mask), .val (.int t1), .val (.int t2), .val (.int t3), .val (.int f1), .val (.int f2), .val (.int f3), .val (.ref b22), .val (.int (0 : Int32)), .val (.int (1 : Int32)), .val (.ref y53), .unset, .unset, .unset] [(.int (1 : Int32)), (.ref b22)])) rfl (by rw [hml]; rfl) (Steps.refl _) (argsL := [(.int (1 : Int32))]) (rest := []) (lenOf own_pd6 rfl) rfl (by show 2 * 0 + _ ≤ _; exact Nat.le_of_eq rfl) (hb hby at_115) (fun _ _ => ⟨rfl, e56, (by decide : 5 + 0 ≤ _), (by decide : 166 + 0 ≤ _)⟩)
        dsimp only [Pt.U, Pt.locs, Pt.cells, Pt.slots] at X59 l59 y59 z59 st59 hQ59
        subst l59 y59 z59
        obtain ⟨rfl, N59q, e59⟩ := hQ59
        have N59 := Fr.app N56 N59q
        have pre60 : Goes p e below s₁ (entryFrame m #[(.int mask), (.int t1), (.int t2), (.int t3)] maxLocals) T59 (mkF m 118 #[.val (.int mask), .val (.int t1), .val (.int t2), .val (.int t3), .val (.int f1), .val (.int f2), .val (.int f3), .val (.ref b22), .val (.int (0 : Int32)), .val (.int (1 : Int32)), .val (.ref y53), .unset, .unset, .unset] [(.ref nt)]) := fun t kt => pre58 t (st59.trans kt)
        have pre61 : Goes p e below s₁ (entryFrame m #[(.int mask), (.int t1), (.int t2), (.int t3)] maxLocals) T59 (mkF m 171 #[.val (.int mask), .val (.int t1), .val (.int t2), .val (.int t3), .val (.int f1), .val (.int f2), .val (.int f3), .val (.ref b22), .val (.int (0 : Int32)), .val (.int (1 : Int32)), .val (.ref y53), .val (.ref nt), .unset, .unset] [(.int (0 : Int32)), (.int t3), (.int (1 : Int32)), (.ref y53)]) := fun t kt => pre60 t (by
            show Steps p.tables e below (T59.setTop (mkF m 118 #[.val (.int mask), .val (.int t1), .val (.int t2), .val (.int t3), .val (.int f1), .val (.int f2), .val (.int f3), .val (.ref b22), .val (.int (0 : Int32)), .val (.int (1 : Int32)), .val (.ref y53), .unset, .unset, .unset] [(.ref nt)])) _
            refine XS.astore X59.here hx rfl (hb hby at_118) rfl rfl (l' := #[.val (.int mask), .val (.int t1), .val (.int t2), .val (.int t3), .val (.int f1), .val (.int f2), .val (.int f3), .val (.ref b22), .val (.int (0 : Int32)), .val (.int (1 : Int32)), .val (.ref y53), .val (.ref nt), .unset, .unset]) rfl ?_
            show Steps p.tables e below (T59.setTop (mkF m 120 #[.val (.int mask), .val (.int t1), .val (.int t2), .val (.int t3), .val (.int f1), .val (.int f2), .val (.int f3), .val (.ref b22), .val (.int (0 : Int32)), .val (.int (1 : Int32)), .val (.ref y53), .val (.ref nt), .unset, .unset] [])) _
            refine XS.iload X59.here hx rfl (hb hby at_120) rfl ?_
            show Steps p.tables e below (T59.setTop (mkF m 122 #[.val (.int mask), .val (.int t1), .val (.int t2), .val (.int t3), .val (.int f1), .val (.int f2), .val (.int f3), .val (.ref b22), .val (.int (0 : Int32)), .val (.int (1 : Int32)), .val (.ref y53), .val (.ref nt), .unset, .unset] [(.int f1)])) _
            refine XS.ifYes X59.here hx rfl (pc0 := 122) (pc' := 143) rfl (hb hby at_122) rfl ((if0 _ _).trans (teq hc65_34).1) (by decide) (by decide) ?_
            show Steps p.tables e below (T59.setTop (mkF m 143 #[.val (.int mask), .val (.int t1), .val (.int t2), .val (.int t3), .val (.int f1), .val (.int f2), .val (.int f3), .val (.ref b22), .val (.int (0 : Int32)), .val (.int (1 : Int32)), .val (.ref y53), .val (.ref nt), .unset, .unset] [])) _
            refine XS.iload X59.here hx rfl (hb hby at_143) rfl ?_
            show Steps p.tables e below (T59.setTop (mkF m 145 #[.val (.int mask), .val (.int t1), .val (.int t2), .val (.int t3), .val (.int f1), .val (.int f2), .val (.int f3), .val (.ref b22), .val (.int (0 : Int32)), .val (.int (1 : Int32)), .val (.ref y53), .val (.ref nt), .unset, .unset] [(.int f1)])) _
            refine XS.ifYes X59.here hx rfl (pc0 := 145) (pc' := 161) rfl (hb hby at_145) rfl ((if0 _ _).trans (teq hc65_34).1) (by decide) (by decide) ?_
            show Steps p.tables e below (T59.setTop (mkF m 161 #[.val (.int mask), .val (.int t1), .val (.int t2), .val (.int t3), .val (.int f1), .val (.int f2), .val (.int f3), .val (.ref b22), .val (.int (0 : Int32)), .val (.int (1 : Int32)), .val (.ref y53), .val (.ref nt), .unset, .unset] [])) _
            refine XS.iload X59.here hx rfl (hb hby at_161) rfl ?_
            show Steps p.tables e below (T59.setTop (mkF m 163 #[.val (.int mask), .val (.int t1), .val (.int t2), .val (.int t3), .val (.int f1), .val (.int f2), .val (.int f3), .val (.ref b22), .val (.int (0 : Int32)), .val (.int (1 : Int32)), .val (.ref y53), .val (.ref nt), .unset, .unset] [(.int f3)])) _
            refine XS.ifNo X59.here hx rfl (hb hby at_163) rfl ((if0 _ _).trans (feq hc91_38).1) ?_
            show Steps p.tables e below (T59.setTop (mkF m 166 #[.val (.int mask), .val (.int t1), .val (.int t2), .val (.int t3), .val (.int f1), .val (.int f2), .val (.int f3), .val (.ref b22), .val (.int (0 : Int32)), .val (.int (1 : Int32)), .val (.ref y53), .val (.ref nt), .unset, .unset] [])) _
            refine XS.aload X59.here hx rfl (hb hby at_166) rfl rfl ?_
            show Steps p.tables e below (T59.setTop (mkF m 168 #[.val (.int mask), .val (.int t1), .val (.int t2), .val (.int t3), .val (.int f1), .val (.int f2), .val (.int f3), .val (.ref b22), .val (.int (0 : Int32)), .val (.int (1 : Int32)), .val (.ref y53), .val (.ref nt), .unset, .unset] [(.ref y53)])) _
            refine XS.iconst X59.here hx rfl (hb hby at_168) ?_
            show Steps p.tables e below (T59.setTop (mkF m 169 #[.val (.int mask), .val (.int t1), .val (.int t2), .val (.int t3), .val (.int f1), .val (.int f2), .val (.int f3), .val (.ref b22), .val (.int (0 : Int32)), .val (.int (1 : Int32)), .val (.ref y53), .val (.ref nt), .unset, .unset] [(.int (1 : Int32)), (.ref y53)])) _
            refine XS.iloadN X59.here hx rfl (hb hby at_169) rfl ?_
            show Steps p.tables e below (T59.setTop (mkF m 170 #[.val (.int mask), .val (.int t1), .val (.int t2), .val (.int t3), .val (.int f1), .val (.int f2), .val (.int f3), .val (.ref b22), .val (.int (0 : Int32)), .val (.int (1 : Int32)), .val (.ref y53), .val (.ref nt), .unset, .unset] [(.int t3), (.int (1 : Int32)), (.ref y53)])) _
            refine XS.iconst X59.here hx rfl (hb hby at_170) ?_
            exact kt)
        obtain ⟨_, _, ⟨T62, L62, k62, n62⟩, -, X62, ⟨Lc62, hQ62, l62, y62, z62⟩, st62⟩ := Jvm.LawKit.callS X59 hx (y := (⟨"com/example/unicept/unicept/WordTrieTagsPinLaw", "same", "([IIII)Z"⟩ : MethodName)) hown (mvT hZ (hw _ (List.mem_of_getElem? (i := 49) rfl))) (mvT hZ (hw _ (List.mem_of_getElem? (i := 50) rfl))) (mvT hZ (hw _ (List.mem_of_getElem? (i := 51) rfl))) (mvT hZ (hw _ (List.mem_of_getElem? (i := 52) rfl))) (by decide) (backOf (W := 0) (own_same1 l Z a0 hw [] y53 ky53 t3 (0 : Int32) T53.heap n0 (Nat.le_trans (Nat.le_trans (Nat.le_trans (Nat.le_trans (Nat.le_trans Z0 E22.1) K25q.1) K28q.1) K31q.1) K53q.1) Vy53) hZ (hw _ (List.mem_of_getElem? (i := 52) rfl)) (hw _ (List.mem_of_getElem? (i := 51) rfl)) (by decide) (by decide)) (g := (mkF m 171 #[.val (.int mask), .val (.int t1), .val (.int t2), .val (.int t3), .val (.int f1), .val (.int f2), .val (.int f3), .val (.ref b22), .val (.int (0 : Int32)), .val (.int (1 : Int32)), .val (.ref y53), .val (.ref nt), .unset, .unset] [(.int (0 : Int32)), (.int t3), (.int (1 : Int32)), (.ref y53)])) rfl (by rw [hml]; rfl) (argsL := [(.ref y53), (.int (1 : Int32)), (.int t3), (.int (0 : Int32))]) (rest := []) (lenOf own_pd7 rfl) rfl (by show 2 * 0 + _ ≤ _; exact Nat.le_of_eq rfl) (hb hby at_171) (fun _ _ => ⟨rfl, e59, (by decide : 5 + 0 ≤ _), (by decide : 166 + 0 ≤ _)⟩)
        dsimp only [Pt.U, Pt.locs, Pt.cells, Pt.slots] at X62 l62 y62 z62 st62 hQ62
        subst l62 y62 z62
        obtain ⟨rfl, N62q, e62⟩ := hQ62
        have N62 := Fr.app N59 N62q
        have pre63 : Goes p e below s₁ (entryFrame m #[(.int mask), (.int t1), (.int t2), (.int t3)] maxLocals) T62 (mkF m 174 #[.val (.int mask), .val (.int t1), .val (.int t2), .val (.int t3), .val (.int f1), .val (.int f2), .val (.int f3), .val (.ref b22), .val (.int (0 : Int32)), .val (.int (1 : Int32)), .val (.ref y53), .val (.ref nt), .unset, .unset] [(.int (1 : Int32))]) := fun t kt => pre61 t (st62 t kt)
        have pre64 : Goes p e below s₁ (entryFrame m #[(.int mask), (.int t1), (.int t2), (.int t3)] maxLocals) T62 (mkF m 212 #[.val (.int mask), .val (.int t1), .val (.int t2), .val (.int t3), .val (.int f1), .val (.int f2), .val (.int f3), .val (.ref b22), .val (.int (0 : Int32)), .val (.int (1 : Int32)), .val (.ref y53), .val (.ref nt), .val (.int (1 : Int32)), .unset] [(.int (0 : Int32)), (.int (0 : Int32)), (.int (0 : Int32)), (.ref nt)]) := fun t kt => pre63 t (by
            show Steps p.tables e below (T62.setTop (mkF m 174 #[.val (.int mask), .val (.int t1), .val (.int t2), .val (.int t3), .val (.int f1), .val (.int f2), .val (.int f3), .val (.ref b22), .val (.int (0 : Int32)), .val (.int (1 : Int32)), .val (.ref y53), .val (.ref nt), .unset, .unset] [(.int (1 : Int32))])) _
            refine XS.istore X62.here hx rfl (hb hby at_174) rfl (l' := #[.val (.int mask), .val (.int t1), .val (.int t2), .val (.int t3), .val (.int f1), .val (.int f2), .val (.int f3), .val (.ref b22), .val (.int (0 : Int32)), .val (.int (1 : Int32)), .val (.ref y53), .val (.ref nt), .val (.int (1 : Int32)), .unset]) rfl ?_
            show Steps p.tables e below (T62.setTop (mkF m 176 #[.val (.int mask), .val (.int t1), .val (.int t2), .val (.int t3), .val (.int f1), .val (.int f2), .val (.int f3), .val (.ref b22), .val (.int (0 : Int32)), .val (.int (1 : Int32)), .val (.ref y53), .val (.ref nt), .val (.int (1 : Int32)), .unset] [])) _
            refine XS.goto X62.here hx rfl (pc0 := 176) (pc' := 189) rfl (hb hby at_176) (by decide) (by decide) ?_
            show Steps p.tables e below (T62.setTop (mkF m 189 #[.val (.int mask), .val (.int t1), .val (.int t2), .val (.int t3), .val (.int f1), .val (.int f2), .val (.int f3), .val (.ref b22), .val (.int (0 : Int32)), .val (.int (1 : Int32)), .val (.ref y53), .val (.ref nt), .val (.int (1 : Int32)), .unset] [])) _
            refine XS.iload X62.here hx rfl (hb hby at_189) rfl ?_
            show Steps p.tables e below (T62.setTop (mkF m 191 #[.val (.int mask), .val (.int t1), .val (.int t2), .val (.int t3), .val (.int f1), .val (.int f2), .val (.int f3), .val (.ref b22), .val (.int (0 : Int32)), .val (.int (1 : Int32)), .val (.ref y53), .val (.ref nt), .val (.int (1 : Int32)), .unset] [(.int f2)])) _
            refine XS.ifYes X62.here hx rfl (pc0 := 191) (pc' := 207) rfl (hb hby at_191) rfl ((if0 _ _).trans (teq hc78_36).1) (by decide) (by decide) ?_
            show Steps p.tables e below (T62.setTop (mkF m 207 #[.val (.int mask), .val (.int t1), .val (.int t2), .val (.int t3), .val (.int f1), .val (.int f2), .val (.int f3), .val (.ref b22), .val (.int (0 : Int32)), .val (.int (1 : Int32)), .val (.ref y53), .val (.ref nt), .val (.int (1 : Int32)), .unset] [])) _
            refine XS.aload X62.here hx rfl (hb hby at_207) rfl rfl ?_
            show Steps p.tables e below (T62.setTop (mkF m 209 #[.val (.int mask), .val (.int t1), .val (.int t2), .val (.int t3), .val (.int f1), .val (.int f2), .val (.int f3), .val (.ref b22), .val (.int (0 : Int32)), .val (.int (1 : Int32)), .val (.ref y53), .val (.ref nt), .val (.int (1 : Int32)), .unset] [(.ref nt)])) _
            refine XS.iconst X62.here hx rfl (hb hby at_209) ?_
            show Steps p.tables e below (T62.setTop (mkF m 210 #[.val (.int mask), .val (.int t1), .val (.int t2), .val (.int t3), .val (.int f1), .val (.int f2), .val (.int f3), .val (.ref b22), .val (.int (0 : Int32)), .val (.int (1 : Int32)), .val (.ref y53), .val (.ref nt), .val (.int (1 : Int32)), .unset] [(.int (0 : Int32)), (.ref nt)])) _
            refine XS.iconst X62.here hx rfl (hb hby at_210) ?_
            show Steps p.tables e below (T62.setTop (mkF m 211 #[.val (.int mask), .val (.int t1), .val (.int t2), .val (.int t3), .val (.int f1), .val (.int f2), .val (.int f3), .val (.ref b22), .val (.int (0 : Int32)), .val (.int (1 : Int32)), .val (.ref y53), .val (.ref nt), .val (.int (1 : Int32)), .unset] [(.int (0 : Int32)), (.int (0 : Int32)), (.ref nt)])) _
            refine XS.iconst X62.here hx rfl (hb hby at_211) ?_
            exact kt)
        obtain ⟨_, _, ⟨T65, L65, k65, n65⟩, -, X65, ⟨Lc65, hQ65, l65, y65, z65⟩, st65⟩ := Jvm.LawKit.callS X62 hx (y := (⟨"com/example/unicept/unicept/WordTrieTagsPinLaw", "same", "([IIII)Z"⟩ : MethodName)) hown (mvT hZ (hw _ (List.mem_of_getElem? (i := 49) rfl))) (mvT hZ (hw _ (List.mem_of_getElem? (i := 50) rfl))) (mvT hZ (hw _ (List.mem_of_getElem? (i := 51) rfl))) (mvT hZ (hw _ (List.mem_of_getElem? (i := 52) rfl))) (by decide) (backOf (W := 0) (own_same0 l Z a0 hw [] nt kn (0 : Int32) (0 : Int32) T53.heap n0 (Nat.le_trans (Nat.le_trans (Nat.le_trans (Nat.le_trans (Nat.le_trans Z0 E22.1) K25q.1) K28q.1) K31q.1) K53q.1) (((((V_nt.ext E22).keep K25q (ninS (Nat.ne_of_lt (Nat.lt_of_lt_of_le V_nt.lt (Nat.le_of_eq g22.symm))) nin0)).keep K28q (ninS (Nat.ne_of_lt (Nat.lt_of_lt_of_le V_nt.lt (Nat.le_of_eq g22.symm))) (ninS (Nat.ne_of_lt (Nat.lt_of_lt_of_le (V_nt.ext E22).lt z1)) (ninS (Nat.ne_of_lt (Nat.lt_of_lt_of_le (V_nt.ext E22).lt z2)) nin0)))).keep K31q (ninS (Nat.ne_of_lt (Nat.lt_of_lt_of_le V_nt.lt (Nat.le_of_eq g22.symm))) (ninS (Nat.ne_of_lt (Nat.lt_of_lt_of_le (V_nt.ext E22).lt z1)) (ninS (Nat.ne_of_lt (Nat.lt_of_lt_of_le (V_nt.ext E22).lt z2)) nin0)))).keep K53q (ninS (Nat.ne_of_lt (Nat.lt_of_lt_of_le (V_nt.ext E22).lt z3)) nin0))) hZ (hw _ (List.mem_of_getElem? (i := 52) rfl)) (hw _ (List.mem_of_getElem? (i := 51) rfl)) (by decide) (by decide)) (g := (mkF m 212 #[.val (.int mask), .val (.int t1), .val (.int t2), .val (.int t3), .val (.int f1), .val (.int f2), .val (.int f3), .val (.ref b22), .val (.int (0 : Int32)), .val (.int (1 : Int32)), .val (.ref y53), .val (.ref nt), .val (.int (1 : Int32)), .unset] [(.int (0 : Int32)), (.int (0 : Int32)), (.int (0 : Int32)), (.ref nt)])) rfl (by rw [hml]; rfl) (argsL := [(.ref nt), (.int (0 : Int32)), (.int (0 : Int32)), (.int (0 : Int32))]) (rest := []) (lenOf own_pd7 rfl) rfl (by show 2 * 0 + _ ≤ _; exact Nat.le_of_eq rfl) (hb hby at_212) (fun _ _ => ⟨rfl, e62, (by decide : 5 + 0 ≤ _), (by decide : 166 + 0 ≤ _)⟩)
        dsimp only [Pt.U, Pt.locs, Pt.cells, Pt.slots] at X65 l65 y65 z65 st65 hQ65
        subst l65 y65 z65
        obtain ⟨rfl, N65q, e65⟩ := hQ65
        have N65 := Fr.app N62 N65q
        have pre66 : Goes p e below s₁ (entryFrame m #[(.int mask), (.int t1), (.int t2), (.int t3)] maxLocals) T65 (mkF m 215 #[.val (.int mask), .val (.int t1), .val (.int t2), .val (.int t3), .val (.int f1), .val (.int f2), .val (.int f3), .val (.ref b22), .val (.int (0 : Int32)), .val (.int (1 : Int32)), .val (.ref y53), .val (.ref nt), .val (.int (1 : Int32)), .unset] [(.int (1 : Int32))]) := fun t kt => pre64 t (st65 t kt)
        have pre67 : Goes p e below s₁ (entryFrame m #[(.int mask), (.int t1), (.int t2), (.int t3)] maxLocals) T65 (mkF m 232 #[.val (.int mask), .val (.int t1), .val (.int t2), .val (.int t3), .val (.int f1), .val (.int f2), .val (.int f3), .val (.ref b22), .val (.int (0 : Int32)), .val (.int (1 : Int32)), .val (.ref y53), .val (.ref nt), .val (.int (1 : Int32)), .val (.int (1 : Int32))] [(.int (1 : Int32))]) := fun t kt => pre66 t (by
            show Steps p.tables e below (T65.setTop (mkF m 215 #[.val (.int mask), .val (.int t1), .val (.int t2), .val (.int t3), .val (.int f1), .val (.int f2), .val (.int f3), .val (.ref b22), .val (.int (0 : Int32)), .val (.int (1 : Int32)), .val (.ref y53), .val (.ref nt), .val (.int (1 : Int32)), .unset] [(.int (1 : Int32))])) _
            refine XS.istore X65.here hx rfl (hb hby at_215) rfl (l' := #[.val (.int mask), .val (.int t1), .val (.int t2), .val (.int t3), .val (.int f1), .val (.int f2), .val (.int f3), .val (.ref b22), .val (.int (0 : Int32)), .val (.int (1 : Int32)), .val (.ref y53), .val (.ref nt), .val (.int (1 : Int32)), .val (.int (1 : Int32))]) rfl ?_
            show Steps p.tables e below (T65.setTop (mkF m 217 #[.val (.int mask), .val (.int t1), .val (.int t2), .val (.int t3), .val (.int f1), .val (.int f2), .val (.int f3), .val (.ref b22), .val (.int (0 : Int32)), .val (.int (1 : Int32)), .val (.ref y53), .val (.ref nt), .val (.int (1 : Int32)), .val (.int (1 : Int32))] [])) _
            refine XS.iload X65.here hx rfl (hb hby at_217) rfl ?_
            show Steps p.tables e below (T65.setTop (mkF m 219 #[.val (.int mask), .val (.int t1), .val (.int t2), .val (.int t3), .val (.int f1), .val (.int f2), .val (.int f3), .val (.ref b22), .val (.int (0 : Int32)), .val (.int (1 : Int32)), .val (.ref y53), .val (.ref nt), .val (.int (1 : Int32)), .val (.int (1 : Int32))] [(.int (1 : Int32))])) _
            refine XS.ifNo X65.here hx rfl (hb hby at_219) rfl ((if0 _ _).trans (feq (by decide : ¬ ((1 : Int32) = (0 : Int32)))).1) ?_
            show Steps p.tables e below (T65.setTop (mkF m 222 #[.val (.int mask), .val (.int t1), .val (.int t2), .val (.int t3), .val (.int f1), .val (.int f2), .val (.int f3), .val (.ref b22), .val (.int (0 : Int32)), .val (.int (1 : Int32)), .val (.ref y53), .val (.ref nt), .val (.int (1 : Int32)), .val (.int (1 : Int32))] [])) _
            refine XS.iload X65.here hx rfl (hb hby at_222) rfl ?_
            show Steps p.tables e below (T65.setTop (mkF m 224 #[.val (.int mask), .val (.int t1), .val (.int t2), .val (.int t3), .val (.int f1), .val (.int f2), .val (.int f3), .val (.ref b22), .val (.int (0 : Int32)), .val (.int (1 : Int32)), .val (.ref y53), .val (.ref nt), .val (.int (1 : Int32)), .val (.int (1 : Int32))] [(.int (1 : Int32))])) _
            refine XS.ifNo X65.here hx rfl (hb hby at_224) rfl ((if0 _ _).trans (feq (by decide : ¬ ((1 : Int32) = (0 : Int32)))).1) ?_
            show Steps p.tables e below (T65.setTop (mkF m 227 #[.val (.int mask), .val (.int t1), .val (.int t2), .val (.int t3), .val (.int f1), .val (.int f2), .val (.int f3), .val (.ref b22), .val (.int (0 : Int32)), .val (.int (1 : Int32)), .val (.ref y53), .val (.ref nt), .val (.int (1 : Int32)), .val (.int (1 : Int32))] [])) _
            refine XS.iconst X65.here hx rfl (hb hby at_227) ?_
            show Steps p.tables e below (T65.setTop (mkF m 228 #[.val (.int mask), .val (.int t1), .val (.int t2), .val (.int t3), .val (.int f1), .val (.int f2), .val (.int f3), .val (.ref b22), .val (.int (0 : Int32)), .val (.int (1 : Int32)), .val (.ref y53), .val (.ref nt), .val (.int (1 : Int32)), .val (.int (1 : Int32))] [(.int (1 : Int32))])) _
            refine XS.goto X65.here hx rfl (pc0 := 228) (pc' := 232) rfl (hb hby at_228) (by decide) (by decide) ?_
            exact kt)
        obtain ⟨fs, hr, hrun, hended, hW, hsame⟩ := X65.leave (v := some (.int (1 : Int32))) (fun h => by rw [Bd.returns] at h; cases h)
        refine ⟨_, _, pre67 _ ?_, hrun, hended, _, _, rfl, ?_, ⟨_, rfl⟩, hW, hsame.mono (by decide) (by decide)⟩
        · show Steps p.tables e below (T65.setTop (mkF m 232 #[.val (.int mask), .val (.int t1), .val (.int t2), .val (.int t3), .val (.int f1), .val (.int f2), .val (.int f3), .val (.ref b22), .val (.int (0 : Int32)), .val (.int (1 : Int32)), .val (.ref y53), .val (.ref nt), .val (.int (1 : Int32)), .val (.int (1 : Int32))] [(.int (1 : Int32))])) _
          exact retN X65 hx (t := .boolean) Bd.returns (by simp) (hb hby at_232) hr
        · show Q_own_rm0 Z mask t1 t2 t3 nt kn h0 n0 _ T65.heap _
          rw [e65]
          exact ⟨rfl, N65⟩
    · -- no at pc 78: t
      have pre68 : Goes p e below s₁ (entryFrame m #[(.int mask), (.int t1), (.int t2), (.int t3)] maxLocals) T31 (mkF m 86 #[.val (.int mask), .val (.int t1), .val (.int t2), .val (.int t3), .val (.int f1), .val (.int f2), .val (.int f3), .val (.ref b22), .val (.int (0 : Int32)), .val (.int (1 : Int32)), .unset, .unset, .unset, .unset] [(.int t2), (.int (1 : Int32)), (.ref b22)]) := fun t kt => pre35 t (by
          show Steps p.tables e below (T31.setTop (mkF m 78 #[.val (.int mask), .val (.int t1), .val (.int t2), .val (.int t3), .val (.int f1), .val (.int f2), .val (.int f3), .val (.ref b22), .val (.int (0 : Int32)), .val (.int (1 : Int32)), .unset, .unset, .unset, .unset] [(.int f2)])) _
          refine XS.ifNo X31.here hx rfl (hb hby at_78) rfl ((if0 _ _).trans (feq hc78_36).1) ?_
          show Steps p.tables e below (T31.setTop (mkF m 81 #[.val (.int mask), .val (.int t1), .val (.int t2), .val (.int t3), .val (.int f1), .val (.int f2), .val (.int f3), .val (.ref b22), .val (.int (0 : Int32)), .val (.int (1 : Int32)), .unset, .unset, .unset, .unset] [])) _
          refine XS.aload X31.here hx rfl (hb hby at_81) rfl rfl ?_
          show Steps p.tables e below (T31.setTop (mkF m 83 #[.val (.int mask), .val (.int t1), .val (.int t2), .val (.int t3), .val (.int f1), .val (.int f2), .val (.int f3), .val (.ref b22), .val (.int (0 : Int32)), .val (.int (1 : Int32)), .unset, .unset, .unset, .unset] [(.ref b22)])) _
          refine XS.iload X31.here hx rfl (hb hby at_83) rfl ?_
          show Steps p.tables e below (T31.setTop (mkF m 85 #[.val (.int mask), .val (.int t1), .val (.int t2), .val (.int t3), .val (.int f1), .val (.int f2), .val (.int f3), .val (.ref b22), .val (.int (0 : Int32)), .val (.int (1 : Int32)), .unset, .unset, .unset, .unset] [(.int (1 : Int32)), (.ref b22)])) _
          refine XS.iloadN X31.here hx rfl (hb hby at_85) rfl ?_
          exact kt)
      obtain ⟨cq69, kq69, q69a, q69b, q69c⟩ := isOf hZ rfl hT31.1
      obtain ⟨_, _, ⟨T69, L69, k69, n69⟩, -, X69, ⟨Lc69, hQ69, l69, y69, z69⟩, st69⟩ := X31.virtualBack hx (y := (⟨"com/example/unicept/unicept/WordTrie", "tag", "(II)V"⟩ : MethodName)) (z := (⟨"com/example/unicept/unicept/WordTrie", "tag", "(II)V"⟩ : MethodName)) hown (mvT hZ (hw _ (List.mem_of_getElem? (i := 53) rfl))) (mvT hZ (hw _ (List.mem_of_getElem? (i := 54) rfl))) (notFace_of_selects (args := #[]) (mvT hZ (hw _ (List.mem_of_getElem? (i := 56) rfl)))) (mvT hZ (hw _ (List.mem_of_getElem? (i := 56) rfl))) (mvT hZ (hw _ (List.mem_of_getElem? (i := 55) rfl))) (by decide) (backOf (W := 0) (own_tag0 l Z a0 hw [] b22 1 2 ch (own_fl (own_fl (fun _ => 0) (0 * 1) (0 * 1 + 1) (-1)) (1 * 1) (1 * 1 + 1) (-1)) rt (own_up (own_up (fun _ => 0) 0 (Int32.ofNat 0)) 1 (Int32.ofNat 1)) tg kt (List.replicate 16 .null) (1 : Int32) t2 nt kn T31.heap n0 (Nat.le_trans (Nat.le_trans (Nat.le_trans (Nat.le_trans Z0 E22.1) K25q.1) K28q.1) K31q.1) hT31 Ov (by decide) (by simp) rfl ((((V_nt.ext E22).keep K25q (ninS (Nat.ne_of_lt (Nat.lt_of_lt_of_le V_nt.lt (Nat.le_of_eq g22.symm))) nin0)).keep K28q (ninS (Nat.ne_of_lt (Nat.lt_of_lt_of_le V_nt.lt (Nat.le_of_eq g22.symm))) (ninS (Nat.ne_of_lt (Nat.lt_of_lt_of_le (V_nt.ext E22).lt z1)) (ninS (Nat.ne_of_lt (Nat.lt_of_lt_of_le (V_nt.ext E22).lt z2)) nin0)))).keep K31q (ninS (Nat.ne_of_lt (Nat.lt_of_lt_of_le V_nt.lt (Nat.le_of_eq g22.symm))) (ninS (Nat.ne_of_lt (Nat.lt_of_lt_of_le (V_nt.ext E22).lt z1)) (ninS (Nat.ne_of_lt (Nat.lt_of_lt_of_le (V_nt.ext E22).lt z2)) nin0)))) (S_NT.ext ((((O0.ext E22).keep K25q (allS g_b22 all0)).keep K28q (allS g_b22 (allS g_ch (allS g_rt all0)))).keep K31q (allS g_b22 (allS g_ch (allS g_rt all0)))).2)) hZ (hw _ (List.mem_of_getElem? (i := 57) rfl)) (hw _ (List.mem_of_getElem? (i := 2) rfl)) (by decide) (by decide)) q69a q69c (g := (mkF m 86 #[.val (.int mask), .val (.int t1), .val (.int t2), .val (.int t3), .val (.int f1), .val (.int f2), .val (.int f3), .val (.ref b22), .val (.int (0 : Int32)), .val (.int (1 : Int32)), .unset, .unset, .unset, .unset] [(.int t2), (.int (1 : Int32)), (.ref b22)])) rfl (by rw [hml]; rfl) (Steps.refl _) (argsL := [(.int (1 : Int32)), (.int t2)]) (rest := []) (lenOf own_pd8 rfl) rfl (by show 2 * 0 + _ ≤ _; exact Nat.le_of_eq rfl) (hb hby at_86) (fun _ _ => ⟨rfl, rfl, (by decide : 4 + 1 ≤ _), (by decide : 165 + 1 ≤ _)⟩)
      dsimp only [Pt.U, Pt.locs, Pt.cells, Pt.slots] at X69 l69 y69 z69 st69 hQ69
      subst l69 y69 z69
      obtain ⟨rfl, N69q, K69q, y69, ky69, zy69, gy69, ny69, Vy69, hT69⟩ := hQ69
      have N69 := Fr.app N31 N69q
      have KC69 : Keep h0 T69.heap [] := KC31.trans K69q (allS (Or.inr sz_tg) all0)
      have pre70 : Goes p e below s₁ (entryFrame m #[(.int mask), (.int t1), (.int t2), (.int t3)] maxLocals) T69 (mkF m 89 #[.val (.int mask), .val (.int t1), .val (.int t2), .val (.int t3), .val (.int f1), .val (.int f2), .val (.int f3), .val (.ref b22), .val (.int (0 : Int32)), .val (.int (1 : Int32)), .unset, .unset, .unset, .unset] []) := fun t kt => pre68 t (st69.trans kt)
      have pre71 : Goes p e below s₁ (entryFrame m #[(.int mask), (.int t1), (.int t2), (.int t3)] maxLocals) T69 (mkF m 91 #[.val (.int mask), .val (.int t1), .val (.int t2), .val (.int t3), .val (.int f1), .val (.int f2), .val (.int f3), .val (.ref b22), .val (.int (0 : Int32)), .val (.int (1 : Int32)), .unset, .unset, .unset, .unset] [(.int f3)]) := fun t kt => pre70 t (by
          show Steps p.tables e below (T69.setTop (mkF m 89 #[.val (.int mask), .val (.int t1), .val (.int t2), .val (.int t3), .val (.int f1), .val (.int f2), .val (.int f3), .val (.ref b22), .val (.int (0 : Int32)), .val (.int (1 : Int32)), .unset, .unset, .unset, .unset] [])) _
          refine XS.iload X69.here hx rfl (hb hby at_89) rfl ?_
          exact kt)
      by_cases hc91_72 : f3 = (0 : Int32)
      · -- yes at pc 91: tf
        have pre73 : Goes p e below s₁ (entryFrame m #[(.int mask), (.int t1), (.int t2), (.int t3)] maxLocals) T69 (mkF m 106 #[.val (.int mask), .val (.int t1), .val (.int t2), .val (.int t3), .val (.int f1), .val (.int f2), .val (.int f3), .val (.ref b22), .val (.int (0 : Int32)), .val (.int (1 : Int32)), .unset, .unset, .unset, .unset] [(.int (0 : Int32)), (.ref b22)]) := fun t kt => pre71 t (by
            show Steps p.tables e below (T69.setTop (mkF m 91 #[.val (.int mask), .val (.int t1), .val (.int t2), .val (.int t3), .val (.int f1), .val (.int f2), .val (.int f3), .val (.ref b22), .val (.int (0 : Int32)), .val (.int (1 : Int32)), .unset, .unset, .unset, .unset] [(.int f3)])) _
            refine XS.ifYes X69.here hx rfl (pc0 := 91) (pc' := 102) rfl (hb hby at_91) rfl ((if0 _ _).trans (teq hc91_72).1) (by decide) (by decide) ?_
            show Steps p.tables e below (T69.setTop (mkF m 102 #[.val (.int mask), .val (.int t1), .val (.int t2), .val (.int t3), .val (.int f1), .val (.int f2), .val (.int f3), .val (.ref b22), .val (.int (0 : Int32)), .val (.int (1 : Int32)), .unset, .unset, .unset, .unset] [])) _
            refine XS.aload X69.here hx rfl (hb hby at_102) rfl rfl ?_
            show Steps p.tables e below (T69.setTop (mkF m 104 #[.val (.int mask), .val (.int t1), .val (.int t2), .val (.int t3), .val (.int f1), .val (.int f2), .val (.int f3), .val (.ref b22), .val (.int (0 : Int32)), .val (.int (1 : Int32)), .unset, .unset, .unset, .unset] [(.ref b22)])) _
            refine XS.iload X69.here hx rfl (hb hby at_104) rfl ?_
            exact kt)
        obtain ⟨cq74, kq74, q74a, q74b, q74c⟩ := isOf hZ rfl hT69.1
        obtain ⟨_, _, ⟨T74, L74, k74, n74⟩, -, X74, ⟨Lc74, hQ74, l74, y74, z74⟩, st74⟩ := X69.virtualBack hx (y := (⟨"com/example/unicept/unicept/WordTrie", "tags", "(I)[I"⟩ : MethodName)) (z := (⟨"com/example/unicept/unicept/WordTrie", "tags", "(I)[I"⟩ : MethodName)) hown (mvT hZ (hw _ (List.mem_of_getElem? (i := 42) rfl))) (mvT hZ (hw _ (List.mem_of_getElem? (i := 43) rfl))) (notFace_of_selects (args := #[]) (mvT hZ (hw _ (List.mem_of_getElem? (i := 45) rfl)))) (mvT hZ (hw _ (List.mem_of_getElem? (i := 45) rfl))) (mvT hZ (hw _ (List.mem_of_getElem? (i := 44) rfl))) (by decide) (backOf (W := 0) (own_tags0 l Z a0 hw [] b22 1 2 ch (own_fl (own_fl (fun _ => 0) (0 * 1) (0 * 1 + 1) (-1)) (1 * 1) (1 * 1 + 1) (-1)) rt (own_up (own_up (fun _ => 0) 0 (Int32.ofNat 0)) 1 (Int32.ofNat 1)) tg kt ((List.replicate 16 .null).set 1 (.ref y69)) (0 : Int32) nt T69.heap n0 (Nat.le_trans (Nat.le_trans (Nat.le_trans (Nat.le_trans (Nat.le_trans Z0 E22.1) K25q.1) K28q.1) K31q.1) K69q.1) hT69 (by decide) rfl (S_NT.ext (((((O0.ext E22).keep K25q (allS g_b22 all0)).keep K28q (allS g_b22 (allS g_ch (allS g_rt all0)))).keep K31q (allS g_b22 (allS g_ch (allS g_rt all0)))).keep K69q (allS g_tg all0)).2)) hZ (hw _ (List.mem_of_getElem? (i := 46) rfl)) (hw _ (List.mem_of_getElem? (i := 2) rfl)) (by decide) (by decide)) q74a q74c (g := (mkF m 106 #[.val (.int mask), .val (.int t1), .val (.int t2), .val (.int t3), .val (.int f1), .val (.int f2), .val (.int f3), .val (.ref b22), .val (.int (0 : Int32)), .val (.int (1 : Int32)), .unset, .unset, .unset, .unset] [(.int (0 : Int32)), (.ref b22)])) rfl (by rw [hml]; rfl) (Steps.refl _) (argsL := [(.int (0 : Int32))]) (rest := []) (lenOf own_pd6 rfl) rfl (by show 2 * 0 + _ ≤ _; exact Nat.le_of_eq rfl) (hb hby at_106) (fun _ _ => ⟨rfl, rfl, (by decide : 5 + 0 ≤ _), (by decide : 166 + 0 ≤ _)⟩)
        dsimp only [Pt.U, Pt.locs, Pt.cells, Pt.slots] at X74 l74 y74 z74 st74 hQ74
        subst l74 y74 z74
        obtain ⟨rfl, N74q, e74⟩ := hQ74
        have N74 := Fr.app N69 N74q
        have pre75 : Goes p e below s₁ (entryFrame m #[(.int mask), (.int t1), (.int t2), (.int t3)] maxLocals) T74 (mkF m 109 #[.val (.int mask), .val (.int t1), .val (.int t2), .val (.int t3), .val (.int f1), .val (.int f2), .val (.int f3), .val (.ref b22), .val (.int (0 : Int32)), .val (.int (1 : Int32)), .unset, .unset, .unset, .unset] [(.ref nt)]) := fun t kt => pre73 t (st74.trans kt)
        have pre76 : Goes p e below s₁ (entryFrame m #[(.int mask), (.int t1), (.int t2), (.int t3)] maxLocals) T74 (mkF m 115 #[.val (.int mask), .val (.int t1), .val (.int t2), .val (.int t3), .val (.int f1), .val (.int f2), .val (.int f3), .val (.ref b22), .val (.int (0 : Int32)), .val (.int (1 : Int32)), .val (.ref nt), .unset, .unset, .unset] [(.int (1 : Int32)), (.ref b22)]) := fun t kt => pre75 t (by
            show Steps p.tables e below (T74.setTop (mkF m 109 #[.val (.int mask), .val (.int t1), .val (.int t2), .val (.int t3), .val (.int f1), .val (.int f2), .val (.int f3), .val (.ref b22), .val (.int (0 : Int32)), .val (.int (1 : Int32)), .unset, .unset, .unset, .unset] [(.ref nt)])) _
            refine XS.astore X74.here hx rfl (hb hby at_109) rfl rfl (l' := #[.val (.int mask), .val (.int t1), .val (.int t2), .val (.int t3), .val (.int f1), .val (.int f2), .val (.int f3), .val (.ref b22), .val (.int (0 : Int32)), .val (.int (1 : Int32)), .val (.ref nt), .unset, .unset, .unset]) rfl ?_
            show Steps p.tables e below (T74.setTop (mkF m 111 #[.val (.int mask), .val (.int t1), .val (.int t2), .val (.int t3), .val (.int f1), .val (.int f2), .val (.int f3), .val (.ref b22), .val (.int (0 : Int32)), .val (.int (1 : Int32)), .val (.ref nt), .unset, .unset, .unset] [])) _
            refine XS.aload X74.here hx rfl (hb hby at_111) rfl rfl ?_
            show Steps p.tables e below (T74.setTop (mkF m 113 #[.val (.int mask), .val (.int t1), .val (.int t2), .val (.int t3), .val (.int f1), .val (.int f2), .val (.int f3), .val (.ref b22), .val (.int (0 : Int32)), .val (.int (1 : Int32)), .val (.ref nt), .unset, .unset, .unset] [(.ref b22)])) _
            refine XS.iload X74.here hx rfl (hb hby at_113) rfl ?_
            exact kt)
        obtain ⟨cq77, kq77, q77a, q77b, q77c⟩ := isOf hZ e74 hT69.1
        obtain ⟨_, _, ⟨T77, L77, k77, n77⟩, -, X77, ⟨Lc77, hQ77, l77, y77, z77⟩, st77⟩ := X74.virtualBack hx (y := (⟨"com/example/unicept/unicept/WordTrie", "tags", "(I)[I"⟩ : MethodName)) (z := (⟨"com/example/unicept/unicept/WordTrie", "tags", "(I)[I"⟩ : MethodName)) hown (mvT hZ (hw _ (List.mem_of_getElem? (i := 42) rfl))) (mvT hZ (hw _ (List.mem_of_getElem? (i := 43) rfl))) (notFace_of_selects (args := #[]) (mvT hZ (hw _ (List.mem_of_getElem? (i := 45) rfl)))) (mvT hZ (hw _ (List.mem_of_getElem? (i := 45) rfl))) (mvT hZ (hw _ (List.mem_of_getElem? (i := 44) rfl))) (by decide) (backOf (W := 0) (own_tags1 l Z a0 hw [] b22 1 2 ch (own_fl (own_fl (fun _ => 0) (0 * 1) (0 * 1 + 1) (-1)) (1 * 1) (1 * 1 + 1) (-1)) rt (own_up (own_up (fun _ => 0) 0 (Int32.ofNat 0)) 1 (Int32.ofNat 1)) tg kt ((List.replicate 16 .null).set 1 (.ref y69)) (1 : Int32) y69 T69.heap n0 (Nat.le_trans (Nat.le_trans (Nat.le_trans (Nat.le_trans (Nat.le_trans Z0 E22.1) K25q.1) K28q.1) K31q.1) K69q.1) hT69 (by decide) rfl) hZ (hw _ (List.mem_of_getElem? (i := 46) rfl)) (hw _ (List.mem_of_getElem? (i := 2) rfl)) (by decide) (by decide)) q77a q77c (g := (mkF m 115 #[.val (.int mask), .val (.int t1), .val (.int t2), .val (.int t3), .val (.int f1), .val (.int f2), .val (.int f3), .val (.ref b22), .val (.int (0 : Int32)), .val (.int (1 : Int32)), .val (.ref nt), .unset, .unset, .unset] [(.int (1 : Int32)), (.ref b22)])) rfl (by rw [hml]; rfl) (Steps.refl _) (argsL := [(.int (1 : Int32))]) (rest := []) (lenOf own_pd6 rfl) rfl (by show 2 * 0 + _ ≤ _; exact Nat.le_of_eq rfl) (hb hby at_115) (fun _ _ => ⟨rfl, e74, (by decide : 5 + 0 ≤ _), (by decide : 166 + 0 ≤ _)⟩)
        dsimp only [Pt.U, Pt.locs, Pt.cells, Pt.slots] at X77 l77 y77 z77 st77 hQ77
        subst l77 y77 z77
        obtain ⟨rfl, N77q, e77⟩ := hQ77
        have N77 := Fr.app N74 N77q
        have pre78 : Goes p e below s₁ (entryFrame m #[(.int mask), (.int t1), (.int t2), (.int t3)] maxLocals) T77 (mkF m 118 #[.val (.int mask), .val (.int t1), .val (.int t2), .val (.int t3), .val (.int f1), .val (.int f2), .val (.int f3), .val (.ref b22), .val (.int (0 : Int32)), .val (.int (1 : Int32)), .val (.ref nt), .unset, .unset, .unset] [(.ref y69)]) := fun t kt => pre76 t (st77.trans kt)
        have pre79 : Goes p e below s₁ (entryFrame m #[(.int mask), (.int t1), (.int t2), (.int t3)] maxLocals) T77 (mkF m 184 #[.val (.int mask), .val (.int t1), .val (.int t2), .val (.int t3), .val (.int f1), .val (.int f2), .val (.int f3), .val (.ref b22), .val (.int (0 : Int32)), .val (.int (1 : Int32)), .val (.ref nt), .val (.ref y69), .unset, .unset] [(.int (0 : Int32)), (.int (0 : Int32)), (.int (0 : Int32)), (.ref nt)]) := fun t kt => pre78 t (by
            show Steps p.tables e below (T77.setTop (mkF m 118 #[.val (.int mask), .val (.int t1), .val (.int t2), .val (.int t3), .val (.int f1), .val (.int f2), .val (.int f3), .val (.ref b22), .val (.int (0 : Int32)), .val (.int (1 : Int32)), .val (.ref nt), .unset, .unset, .unset] [(.ref y69)])) _
            refine XS.astore X77.here hx rfl (hb hby at_118) rfl rfl (l' := #[.val (.int mask), .val (.int t1), .val (.int t2), .val (.int t3), .val (.int f1), .val (.int f2), .val (.int f3), .val (.ref b22), .val (.int (0 : Int32)), .val (.int (1 : Int32)), .val (.ref nt), .val (.ref y69), .unset, .unset]) rfl ?_
            show Steps p.tables e below (T77.setTop (mkF m 120 #[.val (.int mask), .val (.int t1), .val (.int t2), .val (.int t3), .val (.int f1), .val (.int f2), .val (.int f3), .val (.ref b22), .val (.int (0 : Int32)), .val (.int (1 : Int32)), .val (.ref nt), .val (.ref y69), .unset, .unset] [])) _
            refine XS.iload X77.here hx rfl (hb hby at_120) rfl ?_
            show Steps p.tables e below (T77.setTop (mkF m 122 #[.val (.int mask), .val (.int t1), .val (.int t2), .val (.int t3), .val (.int f1), .val (.int f2), .val (.int f3), .val (.ref b22), .val (.int (0 : Int32)), .val (.int (1 : Int32)), .val (.ref nt), .val (.ref y69), .unset, .unset] [(.int f1)])) _
            refine XS.ifYes X77.here hx rfl (pc0 := 122) (pc' := 143) rfl (hb hby at_122) rfl ((if0 _ _).trans (teq hc65_34).1) (by decide) (by decide) ?_
            show Steps p.tables e below (T77.setTop (mkF m 143 #[.val (.int mask), .val (.int t1), .val (.int t2), .val (.int t3), .val (.int f1), .val (.int f2), .val (.int f3), .val (.ref b22), .val (.int (0 : Int32)), .val (.int (1 : Int32)), .val (.ref nt), .val (.ref y69), .unset, .unset] [])) _
            refine XS.iload X77.here hx rfl (hb hby at_143) rfl ?_
            show Steps p.tables e below (T77.setTop (mkF m 145 #[.val (.int mask), .val (.int t1), .val (.int t2), .val (.int t3), .val (.int f1), .val (.int f2), .val (.int f3), .val (.ref b22), .val (.int (0 : Int32)), .val (.int (1 : Int32)), .val (.ref nt), .val (.ref y69), .unset, .unset] [(.int f1)])) _
            refine XS.ifYes X77.here hx rfl (pc0 := 145) (pc' := 161) rfl (hb hby at_145) rfl ((if0 _ _).trans (teq hc65_34).1) (by decide) (by decide) ?_
            show Steps p.tables e below (T77.setTop (mkF m 161 #[.val (.int mask), .val (.int t1), .val (.int t2), .val (.int t3), .val (.int f1), .val (.int f2), .val (.int f3), .val (.ref b22), .val (.int (0 : Int32)), .val (.int (1 : Int32)), .val (.ref nt), .val (.ref y69), .unset, .unset] [])) _
            refine XS.iload X77.here hx rfl (hb hby at_161) rfl ?_
            show Steps p.tables e below (T77.setTop (mkF m 163 #[.val (.int mask), .val (.int t1), .val (.int t2), .val (.int t3), .val (.int f1), .val (.int f2), .val (.int f3), .val (.ref b22), .val (.int (0 : Int32)), .val (.int (1 : Int32)), .val (.ref nt), .val (.ref y69), .unset, .unset] [(.int f3)])) _
            refine XS.ifYes X77.here hx rfl (pc0 := 163) (pc' := 179) rfl (hb hby at_163) rfl ((if0 _ _).trans (teq hc91_72).1) (by decide) (by decide) ?_
            show Steps p.tables e below (T77.setTop (mkF m 179 #[.val (.int mask), .val (.int t1), .val (.int t2), .val (.int t3), .val (.int f1), .val (.int f2), .val (.int f3), .val (.ref b22), .val (.int (0 : Int32)), .val (.int (1 : Int32)), .val (.ref nt), .val (.ref y69), .unset, .unset] [])) _
            refine XS.aload X77.here hx rfl (hb hby at_179) rfl rfl ?_
            show Steps p.tables e below (T77.setTop (mkF m 181 #[.val (.int mask), .val (.int t1), .val (.int t2), .val (.int t3), .val (.int f1), .val (.int f2), .val (.int f3), .val (.ref b22), .val (.int (0 : Int32)), .val (.int (1 : Int32)), .val (.ref nt), .val (.ref y69), .unset, .unset] [(.ref nt)])) _
            refine XS.iconst X77.here hx rfl (hb hby at_181) ?_
            show Steps p.tables e below (T77.setTop (mkF m 182 #[.val (.int mask), .val (.int t1), .val (.int t2), .val (.int t3), .val (.int f1), .val (.int f2), .val (.int f3), .val (.ref b22), .val (.int (0 : Int32)), .val (.int (1 : Int32)), .val (.ref nt), .val (.ref y69), .unset, .unset] [(.int (0 : Int32)), (.ref nt)])) _
            refine XS.iconst X77.here hx rfl (hb hby at_182) ?_
            show Steps p.tables e below (T77.setTop (mkF m 183 #[.val (.int mask), .val (.int t1), .val (.int t2), .val (.int t3), .val (.int f1), .val (.int f2), .val (.int f3), .val (.ref b22), .val (.int (0 : Int32)), .val (.int (1 : Int32)), .val (.ref nt), .val (.ref y69), .unset, .unset] [(.int (0 : Int32)), (.int (0 : Int32)), (.ref nt)])) _
            refine XS.iconst X77.here hx rfl (hb hby at_183) ?_
            exact kt)
        obtain ⟨_, _, ⟨T80, L80, k80, n80⟩, -, X80, ⟨Lc80, hQ80, l80, y80, z80⟩, st80⟩ := Jvm.LawKit.callS X77 hx (y := (⟨"com/example/unicept/unicept/WordTrieTagsPinLaw", "same", "([IIII)Z"⟩ : MethodName)) hown (mvT hZ (hw _ (List.mem_of_getElem? (i := 49) rfl))) (mvT hZ (hw _ (List.mem_of_getElem? (i := 50) rfl))) (mvT hZ (hw _ (List.mem_of_getElem? (i := 51) rfl))) (mvT hZ (hw _ (List.mem_of_getElem? (i := 52) rfl))) (by decide) (backOf (W := 0) (own_same0 l Z a0 hw [] nt kn (0 : Int32) (0 : Int32) T69.heap n0 (Nat.le_trans (Nat.le_trans (Nat.le_trans (Nat.le_trans (Nat.le_trans Z0 E22.1) K25q.1) K28q.1) K31q.1) K69q.1) (((((V_nt.ext E22).keep K25q (ninS (Nat.ne_of_lt (Nat.lt_of_lt_of_le V_nt.lt (Nat.le_of_eq g22.symm))) nin0)).keep K28q (ninS (Nat.ne_of_lt (Nat.lt_of_lt_of_le V_nt.lt (Nat.le_of_eq g22.symm))) (ninS (Nat.ne_of_lt (Nat.lt_of_lt_of_le (V_nt.ext E22).lt z1)) (ninS (Nat.ne_of_lt (Nat.lt_of_lt_of_le (V_nt.ext E22).lt z2)) nin0)))).keep K31q (ninS (Nat.ne_of_lt (Nat.lt_of_lt_of_le V_nt.lt (Nat.le_of_eq g22.symm))) (ninS (Nat.ne_of_lt (Nat.lt_of_lt_of_le (V_nt.ext E22).lt z1)) (ninS (Nat.ne_of_lt (Nat.lt_of_lt_of_le (V_nt.ext E22).lt z2)) nin0)))).keep K69q (ninS (Nat.ne_of_lt (Nat.lt_of_lt_of_le (V_nt.ext E22).lt z3)) nin0))) hZ (hw _ (List.mem_of_getElem? (i := 52) rfl)) (hw _ (List.mem_of_getElem? (i := 51) rfl)) (by decide) (by decide)) (g := (mkF m 184 #[.val (.int mask), .val (.int t1), .val (.int t2), .val (.int t3), .val (.int f1), .val (.int f2), .val (.int f3), .val (.ref b22), .val (.int (0 : Int32)), .val (.int (1 : Int32)), .val (.ref nt), .val (.ref y69), .unset, .unset] [(.int (0 : Int32)), (.int (0 : Int32)), (.int (0 : Int32)), (.ref nt)])) rfl (by rw [hml]; rfl) (argsL := [(.ref nt), (.int (0 : Int32)), (.int (0 : Int32)), (.int (0 : Int32))]) (rest := []) (lenOf own_pd7 rfl) rfl (by show 2 * 0 + _ ≤ _; exact Nat.le_of_eq rfl) (hb hby at_184) (fun _ _ => ⟨rfl, e77, (by decide : 5 + 0 ≤ _), (by decide : 166 + 0 ≤ _)⟩)
        dsimp only [Pt.U, Pt.locs, Pt.cells, Pt.slots] at X80 l80 y80 z80 st80 hQ80
        subst l80 y80 z80
        obtain ⟨rfl, N80q, e80⟩ := hQ80
        have N80 := Fr.app N77 N80q
        have pre81 : Goes p e below s₁ (entryFrame m #[(.int mask), (.int t1), (.int t2), (.int t3)] maxLocals) T80 (mkF m 187 #[.val (.int mask), .val (.int t1), .val (.int t2), .val (.int t3), .val (.int f1), .val (.int f2), .val (.int f3), .val (.ref b22), .val (.int (0 : Int32)), .val (.int (1 : Int32)), .val (.ref nt), .val (.ref y69), .unset, .unset] [(.int (1 : Int32))]) := fun t kt => pre79 t (st80 t kt)
        have pre82 : Goes p e below s₁ (entryFrame m #[(.int mask), (.int t1), (.int t2), (.int t3)] maxLocals) T80 (mkF m 199 #[.val (.int mask), .val (.int t1), .val (.int t2), .val (.int t3), .val (.int f1), .val (.int f2), .val (.int f3), .val (.ref b22), .val (.int (0 : Int32)), .val (.int (1 : Int32)), .val (.ref nt), .val (.ref y69), .val (.int (1 : Int32)), .unset] [(.int (0 : Int32)), (.int t2), (.int (1 : Int32)), (.ref y69)]) := fun t kt => pre81 t (by
            show Steps p.tables e below (T80.setTop (mkF m 187 #[.val (.int mask), .val (.int t1), .val (.int t2), .val (.int t3), .val (.int f1), .val (.int f2), .val (.int f3), .val (.ref b22), .val (.int (0 : Int32)), .val (.int (1 : Int32)), .val (.ref nt), .val (.ref y69), .unset, .unset] [(.int (1 : Int32))])) _
            refine XS.istore X80.here hx rfl (hb hby at_187) rfl (l' := #[.val (.int mask), .val (.int t1), .val (.int t2), .val (.int t3), .val (.int f1), .val (.int f2), .val (.int f3), .val (.ref b22), .val (.int (0 : Int32)), .val (.int (1 : Int32)), .val (.ref nt), .val (.ref y69), .val (.int (1 : Int32)), .unset]) rfl ?_
            show Steps p.tables e below (T80.setTop (mkF m 189 #[.val (.int mask), .val (.int t1), .val (.int t2), .val (.int t3), .val (.int f1), .val (.int f2), .val (.int f3), .val (.ref b22), .val (.int (0 : Int32)), .val (.int (1 : Int32)), .val (.ref nt), .val (.ref y69), .val (.int (1 : Int32)), .unset] [])) _
            refine XS.iload X80.here hx rfl (hb hby at_189) rfl ?_
            show Steps p.tables e below (T80.setTop (mkF m 191 #[.val (.int mask), .val (.int t1), .val (.int t2), .val (.int t3), .val (.int f1), .val (.int f2), .val (.int f3), .val (.ref b22), .val (.int (0 : Int32)), .val (.int (1 : Int32)), .val (.ref nt), .val (.ref y69), .val (.int (1 : Int32)), .unset] [(.int f2)])) _
            refine XS.ifNo X80.here hx rfl (hb hby at_191) rfl ((if0 _ _).trans (feq hc78_36).1) ?_
            show Steps p.tables e below (T80.setTop (mkF m 194 #[.val (.int mask), .val (.int t1), .val (.int t2), .val (.int t3), .val (.int f1), .val (.int f2), .val (.int f3), .val (.ref b22), .val (.int (0 : Int32)), .val (.int (1 : Int32)), .val (.ref nt), .val (.ref y69), .val (.int (1 : Int32)), .unset] [])) _
            refine XS.aload X80.here hx rfl (hb hby at_194) rfl rfl ?_
            show Steps p.tables e below (T80.setTop (mkF m 196 #[.val (.int mask), .val (.int t1), .val (.int t2), .val (.int t3), .val (.int f1), .val (.int f2), .val (.int f3), .val (.ref b22), .val (.int (0 : Int32)), .val (.int (1 : Int32)), .val (.ref nt), .val (.ref y69), .val (.int (1 : Int32)), .unset] [(.ref y69)])) _
            refine XS.iconst X80.here hx rfl (hb hby at_196) ?_
            show Steps p.tables e below (T80.setTop (mkF m 197 #[.val (.int mask), .val (.int t1), .val (.int t2), .val (.int t3), .val (.int f1), .val (.int f2), .val (.int f3), .val (.ref b22), .val (.int (0 : Int32)), .val (.int (1 : Int32)), .val (.ref nt), .val (.ref y69), .val (.int (1 : Int32)), .unset] [(.int (1 : Int32)), (.ref y69)])) _
            refine XS.iloadN X80.here hx rfl (hb hby at_197) rfl ?_
            show Steps p.tables e below (T80.setTop (mkF m 198 #[.val (.int mask), .val (.int t1), .val (.int t2), .val (.int t3), .val (.int f1), .val (.int f2), .val (.int f3), .val (.ref b22), .val (.int (0 : Int32)), .val (.int (1 : Int32)), .val (.ref nt), .val (.ref y69), .val (.int (1 : Int32)), .unset] [(.int t2), (.int (1 : Int32)), (.ref y69)])) _
            refine XS.iconst X80.here hx rfl (hb hby at_198) ?_
            exact kt)
        obtain ⟨_, _, ⟨T83, L83, k83, n83⟩, -, X83, ⟨Lc83, hQ83, l83, y83, z83⟩, st83⟩ := Jvm.LawKit.callS X80 hx (y := (⟨"com/example/unicept/unicept/WordTrieTagsPinLaw", "same", "([IIII)Z"⟩ : MethodName)) hown (mvT hZ (hw _ (List.mem_of_getElem? (i := 49) rfl))) (mvT hZ (hw _ (List.mem_of_getElem? (i := 50) rfl))) (mvT hZ (hw _ (List.mem_of_getElem? (i := 51) rfl))) (mvT hZ (hw _ (List.mem_of_getElem? (i := 52) rfl))) (by decide) (backOf (W := 0) (own_same1 l Z a0 hw [] y69 ky69 t2 (0 : Int32) T69.heap n0 (Nat.le_trans (Nat.le_trans (Nat.le_trans (Nat.le_trans (Nat.le_trans Z0 E22.1) K25q.1) K28q.1) K31q.1) K69q.1) Vy69) hZ (hw _ (List.mem_of_getElem? (i := 52) rfl)) (hw _ (List.mem_of_getElem? (i := 51) rfl)) (by decide) (by decide)) (g := (mkF m 199 #[.val (.int mask), .val (.int t1), .val (.int t2), .val (.int t3), .val (.int f1), .val (.int f2), .val (.int f3), .val (.ref b22), .val (.int (0 : Int32)), .val (.int (1 : Int32)), .val (.ref nt), .val (.ref y69), .val (.int (1 : Int32)), .unset] [(.int (0 : Int32)), (.int t2), (.int (1 : Int32)), (.ref y69)])) rfl (by rw [hml]; rfl) (argsL := [(.ref y69), (.int (1 : Int32)), (.int t2), (.int (0 : Int32))]) (rest := []) (lenOf own_pd7 rfl) rfl (by show 2 * 0 + _ ≤ _; exact Nat.le_of_eq rfl) (hb hby at_199) (fun _ _ => ⟨rfl, e80, (by decide : 5 + 0 ≤ _), (by decide : 166 + 0 ≤ _)⟩)
        dsimp only [Pt.U, Pt.locs, Pt.cells, Pt.slots] at X83 l83 y83 z83 st83 hQ83
        subst l83 y83 z83
        obtain ⟨rfl, N83q, e83⟩ := hQ83
        have N83 := Fr.app N80 N83q
        have pre84 : Goes p e below s₁ (entryFrame m #[(.int mask), (.int t1), (.int t2), (.int t3)] maxLocals) T83 (mkF m 202 #[.val (.int mask), .val (.int t1), .val (.int t2), .val (.int t3), .val (.int f1), .val (.int f2), .val (.int f3), .val (.ref b22), .val (.int (0 : Int32)), .val (.int (1 : Int32)), .val (.ref nt), .val (.ref y69), .val (.int (1 : Int32)), .unset] [(.int (1 : Int32))]) := fun t kt => pre82 t (st83 t kt)
        have pre85 : Goes p e below s₁ (entryFrame m #[(.int mask), (.int t1), (.int t2), (.int t3)] maxLocals) T83 (mkF m 232 #[.val (.int mask), .val (.int t1), .val (.int t2), .val (.int t3), .val (.int f1), .val (.int f2), .val (.int f3), .val (.ref b22), .val (.int (0 : Int32)), .val (.int (1 : Int32)), .val (.ref nt), .val (.ref y69), .val (.int (1 : Int32)), .val (.int (1 : Int32))] [(.int (1 : Int32))]) := fun t kt => pre84 t (by
            show Steps p.tables e below (T83.setTop (mkF m 202 #[.val (.int mask), .val (.int t1), .val (.int t2), .val (.int t3), .val (.int f1), .val (.int f2), .val (.int f3), .val (.ref b22), .val (.int (0 : Int32)), .val (.int (1 : Int32)), .val (.ref nt), .val (.ref y69), .val (.int (1 : Int32)), .unset] [(.int (1 : Int32))])) _
            refine XS.istore X83.here hx rfl (hb hby at_202) rfl (l' := #[.val (.int mask), .val (.int t1), .val (.int t2), .val (.int t3), .val (.int f1), .val (.int f2), .val (.int f3), .val (.ref b22), .val (.int (0 : Int32)), .val (.int (1 : Int32)), .val (.ref nt), .val (.ref y69), .val (.int (1 : Int32)), .val (.int (1 : Int32))]) rfl ?_
            show Steps p.tables e below (T83.setTop (mkF m 204 #[.val (.int mask), .val (.int t1), .val (.int t2), .val (.int t3), .val (.int f1), .val (.int f2), .val (.int f3), .val (.ref b22), .val (.int (0 : Int32)), .val (.int (1 : Int32)), .val (.ref nt), .val (.ref y69), .val (.int (1 : Int32)), .val (.int (1 : Int32))] [])) _
            refine XS.goto X83.here hx rfl (pc0 := 204) (pc' := 217) rfl (hb hby at_204) (by decide) (by decide) ?_
            show Steps p.tables e below (T83.setTop (mkF m 217 #[.val (.int mask), .val (.int t1), .val (.int t2), .val (.int t3), .val (.int f1), .val (.int f2), .val (.int f3), .val (.ref b22), .val (.int (0 : Int32)), .val (.int (1 : Int32)), .val (.ref nt), .val (.ref y69), .val (.int (1 : Int32)), .val (.int (1 : Int32))] [])) _
            refine XS.iload X83.here hx rfl (hb hby at_217) rfl ?_
            show Steps p.tables e below (T83.setTop (mkF m 219 #[.val (.int mask), .val (.int t1), .val (.int t2), .val (.int t3), .val (.int f1), .val (.int f2), .val (.int f3), .val (.ref b22), .val (.int (0 : Int32)), .val (.int (1 : Int32)), .val (.ref nt), .val (.ref y69), .val (.int (1 : Int32)), .val (.int (1 : Int32))] [(.int (1 : Int32))])) _
            refine XS.ifNo X83.here hx rfl (hb hby at_219) rfl ((if0 _ _).trans (feq (by decide : ¬ ((1 : Int32) = (0 : Int32)))).1) ?_
            show Steps p.tables e below (T83.setTop (mkF m 222 #[.val (.int mask), .val (.int t1), .val (.int t2), .val (.int t3), .val (.int f1), .val (.int f2), .val (.int f3), .val (.ref b22), .val (.int (0 : Int32)), .val (.int (1 : Int32)), .val (.ref nt), .val (.ref y69), .val (.int (1 : Int32)), .val (.int (1 : Int32))] [])) _
            refine XS.iload X83.here hx rfl (hb hby at_222) rfl ?_
            show Steps p.tables e below (T83.setTop (mkF m 224 #[.val (.int mask), .val (.int t1), .val (.int t2), .val (.int t3), .val (.int f1), .val (.int f2), .val (.int f3), .val (.ref b22), .val (.int (0 : Int32)), .val (.int (1 : Int32)), .val (.ref nt), .val (.ref y69), .val (.int (1 : Int32)), .val (.int (1 : Int32))] [(.int (1 : Int32))])) _
            refine XS.ifNo X83.here hx rfl (hb hby at_224) rfl ((if0 _ _).trans (feq (by decide : ¬ ((1 : Int32) = (0 : Int32)))).1) ?_
            show Steps p.tables e below (T83.setTop (mkF m 227 #[.val (.int mask), .val (.int t1), .val (.int t2), .val (.int t3), .val (.int f1), .val (.int f2), .val (.int f3), .val (.ref b22), .val (.int (0 : Int32)), .val (.int (1 : Int32)), .val (.ref nt), .val (.ref y69), .val (.int (1 : Int32)), .val (.int (1 : Int32))] [])) _
            refine XS.iconst X83.here hx rfl (hb hby at_227) ?_
            show Steps p.tables e below (T83.setTop (mkF m 228 #[.val (.int mask), .val (.int t1), .val (.int t2), .val (.int t3), .val (.int f1), .val (.int f2), .val (.int f3), .val (.ref b22), .val (.int (0 : Int32)), .val (.int (1 : Int32)), .val (.ref nt), .val (.ref y69), .val (.int (1 : Int32)), .val (.int (1 : Int32))] [(.int (1 : Int32))])) _
            refine XS.goto X83.here hx rfl (pc0 := 228) (pc' := 232) rfl (hb hby at_228) (by decide) (by decide) ?_
            exact kt)
        obtain ⟨fs, hr, hrun, hended, hW, hsame⟩ := X83.leave (v := some (.int (1 : Int32))) (fun h => by rw [Bd.returns] at h; cases h)
        refine ⟨_, _, pre85 _ ?_, hrun, hended, _, _, rfl, ?_, ⟨_, rfl⟩, hW, hsame.mono (by decide) (by decide)⟩
        · show Steps p.tables e below (T83.setTop (mkF m 232 #[.val (.int mask), .val (.int t1), .val (.int t2), .val (.int t3), .val (.int f1), .val (.int f2), .val (.int f3), .val (.ref b22), .val (.int (0 : Int32)), .val (.int (1 : Int32)), .val (.ref nt), .val (.ref y69), .val (.int (1 : Int32)), .val (.int (1 : Int32))] [(.int (1 : Int32))])) _
          exact retN X83 hx (t := .boolean) Bd.returns (by simp) (hb hby at_232) hr
        · show Q_own_rm0 Z mask t1 t2 t3 nt kn h0 n0 _ T83.heap _
          rw [e83]
          exact ⟨rfl, N83⟩
      · -- no at pc 91: tf
        have pre86 : Goes p e below s₁ (entryFrame m #[(.int mask), (.int t1), (.int t2), (.int t3)] maxLocals) T69 (mkF m 99 #[.val (.int mask), .val (.int t1), .val (.int t2), .val (.int t3), .val (.int f1), .val (.int f2), .val (.int f3), .val (.ref b22), .val (.int (0 : Int32)), .val (.int (1 : Int32)), .unset, .unset, .unset, .unset] [(.int t3), (.int (0 : Int32)), (.ref b22)]) := fun t kt => pre71 t (by
            show Steps p.tables e below (T69.setTop (mkF m 91 #[.val (.int mask), .val (.int t1), .val (.int t2), .val (.int t3), .val (.int f1), .val (.int f2), .val (.int f3), .val (.ref b22), .val (.int (0 : Int32)), .val (.int (1 : Int32)), .unset, .unset, .unset, .unset] [(.int f3)])) _
            refine XS.ifNo X69.here hx rfl (hb hby at_91) rfl ((if0 _ _).trans (feq hc91_72).1) ?_
            show Steps p.tables e below (T69.setTop (mkF m 94 #[.val (.int mask), .val (.int t1), .val (.int t2), .val (.int t3), .val (.int f1), .val (.int f2), .val (.int f3), .val (.ref b22), .val (.int (0 : Int32)), .val (.int (1 : Int32)), .unset, .unset, .unset, .unset] [])) _
            refine XS.aload X69.here hx rfl (hb hby at_94) rfl rfl ?_
            show Steps p.tables e below (T69.setTop (mkF m 96 #[.val (.int mask), .val (.int t1), .val (.int t2), .val (.int t3), .val (.int f1), .val (.int f2), .val (.int f3), .val (.ref b22), .val (.int (0 : Int32)), .val (.int (1 : Int32)), .unset, .unset, .unset, .unset] [(.ref b22)])) _
            refine XS.iload X69.here hx rfl (hb hby at_96) rfl ?_
            show Steps p.tables e below (T69.setTop (mkF m 98 #[.val (.int mask), .val (.int t1), .val (.int t2), .val (.int t3), .val (.int f1), .val (.int f2), .val (.int f3), .val (.ref b22), .val (.int (0 : Int32)), .val (.int (1 : Int32)), .unset, .unset, .unset, .unset] [(.int (0 : Int32)), (.ref b22)])) _
            refine XS.iloadN X69.here hx rfl (hb hby at_98) rfl ?_
            exact kt)
        obtain ⟨cq87, kq87, q87a, q87b, q87c⟩ := isOf hZ rfl hT69.1
        obtain ⟨_, _, ⟨T87, L87, k87, n87⟩, -, X87, ⟨Lc87, hQ87, l87, y87, z87⟩, st87⟩ := X69.virtualBack hx (y := (⟨"com/example/unicept/unicept/WordTrie", "tag", "(II)V"⟩ : MethodName)) (z := (⟨"com/example/unicept/unicept/WordTrie", "tag", "(II)V"⟩ : MethodName)) hown (mvT hZ (hw _ (List.mem_of_getElem? (i := 53) rfl))) (mvT hZ (hw _ (List.mem_of_getElem? (i := 54) rfl))) (notFace_of_selects (args := #[]) (mvT hZ (hw _ (List.mem_of_getElem? (i := 56) rfl)))) (mvT hZ (hw _ (List.mem_of_getElem? (i := 56) rfl))) (mvT hZ (hw _ (List.mem_of_getElem? (i := 55) rfl))) (by decide) (backOf (W := 0) (own_tag0 l Z a0 hw [] b22 1 2 ch (own_fl (own_fl (fun _ => 0) (0 * 1) (0 * 1 + 1) (-1)) (1 * 1) (1 * 1 + 1) (-1)) rt (own_up (own_up (fun _ => 0) 0 (Int32.ofNat 0)) 1 (Int32.ofNat 1)) tg kt ((List.replicate 16 .null).set 1 (.ref y69)) (0 : Int32) t3 nt kn T69.heap n0 (Nat.le_trans (Nat.le_trans (Nat.le_trans (Nat.le_trans (Nat.le_trans Z0 E22.1) K25q.1) K28q.1) K31q.1) K69q.1) hT69 Ov (by decide) (by simp) rfl (((((V_nt.ext E22).keep K25q (ninS (Nat.ne_of_lt (Nat.lt_of_lt_of_le V_nt.lt (Nat.le_of_eq g22.symm))) nin0)).keep K28q (ninS (Nat.ne_of_lt (Nat.lt_of_lt_of_le V_nt.lt (Nat.le_of_eq g22.symm))) (ninS (Nat.ne_of_lt (Nat.lt_of_lt_of_le (V_nt.ext E22).lt z1)) (ninS (Nat.ne_of_lt (Nat.lt_of_lt_of_le (V_nt.ext E22).lt z2)) nin0)))).keep K31q (ninS (Nat.ne_of_lt (Nat.lt_of_lt_of_le V_nt.lt (Nat.le_of_eq g22.symm))) (ninS (Nat.ne_of_lt (Nat.lt_of_lt_of_le (V_nt.ext E22).lt z1)) (ninS (Nat.ne_of_lt (Nat.lt_of_lt_of_le (V_nt.ext E22).lt z2)) nin0)))).keep K69q (ninS (Nat.ne_of_lt (Nat.lt_of_lt_of_le (V_nt.ext E22).lt z3)) nin0)) (S_NT.ext (((((O0.ext E22).keep K25q (allS g_b22 all0)).keep K28q (allS g_b22 (allS g_ch (allS g_rt all0)))).keep K31q (allS g_b22 (allS g_ch (allS g_rt all0)))).keep K69q (allS g_tg all0)).2)) hZ (hw _ (List.mem_of_getElem? (i := 57) rfl)) (hw _ (List.mem_of_getElem? (i := 2) rfl)) (by decide) (by decide)) q87a q87c (g := (mkF m 99 #[.val (.int mask), .val (.int t1), .val (.int t2), .val (.int t3), .val (.int f1), .val (.int f2), .val (.int f3), .val (.ref b22), .val (.int (0 : Int32)), .val (.int (1 : Int32)), .unset, .unset, .unset, .unset] [(.int t3), (.int (0 : Int32)), (.ref b22)])) rfl (by rw [hml]; rfl) (Steps.refl _) (argsL := [(.int (0 : Int32)), (.int t3)]) (rest := []) (lenOf own_pd8 rfl) rfl (by show 2 * 0 + _ ≤ _; exact Nat.le_of_eq rfl) (hb hby at_99) (fun _ _ => ⟨rfl, rfl, (by decide : 5 + 1 ≤ _), (by decide : 166 + 1 ≤ _)⟩)
        dsimp only [Pt.U, Pt.locs, Pt.cells, Pt.slots] at X87 l87 y87 z87 st87 hQ87
        subst l87 y87 z87
        obtain ⟨rfl, N87q, K87q, y87, ky87, zy87, gy87, ny87, Vy87, hT87⟩ := hQ87
        have N87 := Fr.app N69 N87q
        have KC87 : Keep h0 T87.heap [] := KC69.trans K87q (allS (Or.inr sz_tg) all0)
        have pre88 : Goes p e below s₁ (entryFrame m #[(.int mask), (.int t1), (.int t2), (.int t3)] maxLocals) T87 (mkF m 102 #[.val (.int mask), .val (.int t1), .val (.int t2), .val (.int t3), .val (.int f1), .val (.int f2), .val (.int f3), .val (.ref b22), .val (.int (0 : Int32)), .val (.int (1 : Int32)), .unset, .unset, .unset, .unset] []) := fun t kt => pre86 t (st87.trans kt)
        have pre89 : Goes p e below s₁ (entryFrame m #[(.int mask), (.int t1), (.int t2), (.int t3)] maxLocals) T87 (mkF m 106 #[.val (.int mask), .val (.int t1), .val (.int t2), .val (.int t3), .val (.int f1), .val (.int f2), .val (.int f3), .val (.ref b22), .val (.int (0 : Int32)), .val (.int (1 : Int32)), .unset, .unset, .unset, .unset] [(.int (0 : Int32)), (.ref b22)]) := fun t kt => pre88 t (by
            show Steps p.tables e below (T87.setTop (mkF m 102 #[.val (.int mask), .val (.int t1), .val (.int t2), .val (.int t3), .val (.int f1), .val (.int f2), .val (.int f3), .val (.ref b22), .val (.int (0 : Int32)), .val (.int (1 : Int32)), .unset, .unset, .unset, .unset] [])) _
            refine XS.aload X87.here hx rfl (hb hby at_102) rfl rfl ?_
            show Steps p.tables e below (T87.setTop (mkF m 104 #[.val (.int mask), .val (.int t1), .val (.int t2), .val (.int t3), .val (.int f1), .val (.int f2), .val (.int f3), .val (.ref b22), .val (.int (0 : Int32)), .val (.int (1 : Int32)), .unset, .unset, .unset, .unset] [(.ref b22)])) _
            refine XS.iload X87.here hx rfl (hb hby at_104) rfl ?_
            exact kt)
        obtain ⟨cq90, kq90, q90a, q90b, q90c⟩ := isOf hZ rfl hT87.1
        obtain ⟨_, _, ⟨T90, L90, k90, n90⟩, -, X90, ⟨Lc90, hQ90, l90, y90, z90⟩, st90⟩ := X87.virtualBack hx (y := (⟨"com/example/unicept/unicept/WordTrie", "tags", "(I)[I"⟩ : MethodName)) (z := (⟨"com/example/unicept/unicept/WordTrie", "tags", "(I)[I"⟩ : MethodName)) hown (mvT hZ (hw _ (List.mem_of_getElem? (i := 42) rfl))) (mvT hZ (hw _ (List.mem_of_getElem? (i := 43) rfl))) (notFace_of_selects (args := #[]) (mvT hZ (hw _ (List.mem_of_getElem? (i := 45) rfl)))) (mvT hZ (hw _ (List.mem_of_getElem? (i := 45) rfl))) (mvT hZ (hw _ (List.mem_of_getElem? (i := 44) rfl))) (by decide) (backOf (W := 0) (own_tags1 l Z a0 hw [] b22 1 2 ch (own_fl (own_fl (fun _ => 0) (0 * 1) (0 * 1 + 1) (-1)) (1 * 1) (1 * 1 + 1) (-1)) rt (own_up (own_up (fun _ => 0) 0 (Int32.ofNat 0)) 1 (Int32.ofNat 1)) tg kt (((List.replicate 16 .null).set 1 (.ref y69)).set 0 (.ref y87)) (0 : Int32) y87 T87.heap n0 (Nat.le_trans (Nat.le_trans (Nat.le_trans (Nat.le_trans (Nat.le_trans (Nat.le_trans Z0 E22.1) K25q.1) K28q.1) K31q.1) K69q.1) K87q.1) hT87 (by decide) rfl) hZ (hw _ (List.mem_of_getElem? (i := 46) rfl)) (hw _ (List.mem_of_getElem? (i := 2) rfl)) (by decide) (by decide)) q90a q90c (g := (mkF m 106 #[.val (.int mask), .val (.int t1), .val (.int t2), .val (.int t3), .val (.int f1), .val (.int f2), .val (.int f3), .val (.ref b22), .val (.int (0 : Int32)), .val (.int (1 : Int32)), .unset, .unset, .unset, .unset] [(.int (0 : Int32)), (.ref b22)])) rfl (by rw [hml]; rfl) (Steps.refl _) (argsL := [(.int (0 : Int32))]) (rest := []) (lenOf own_pd6 rfl) rfl (by show 2 * 0 + _ ≤ _; exact Nat.le_of_eq rfl) (hb hby at_106) (fun _ _ => ⟨rfl, rfl, (by decide : 6 + 0 ≤ _), (by decide : 167 + 0 ≤ _)⟩)
        dsimp only [Pt.U, Pt.locs, Pt.cells, Pt.slots] at X90 l90 y90 z90 st90 hQ90
        subst l90 y90 z90
        obtain ⟨rfl, N90q, e90⟩ := hQ90
        have N90 := Fr.app N87 N90q
        have pre91 : Goes p e below s₁ (entryFrame m #[(.int mask), (.int t1), (.int t2), (.int t3)] maxLocals) T90 (mkF m 109 #[.val (.int mask), .val (.int t1), .val (.int t2), .val (.int t3), .val (.int f1), .val (.int f2), .val (.int f3), .val (.ref b22), .val (.int (0 : Int32)), .val (.int (1 : Int32)), .unset, .unset, .unset, .unset] [(.ref y87)]) := fun t kt => pre89 t (st90.trans kt)
        have pre92 : Goes p e below s₁ (entryFrame m #[(.int mask), (.int t1), (.int t2), (.int t3)] maxLocals) T90 (mkF m 115 #[.val (.int mask), .val (.int t1), .val (.int t2), .val (.int t3), .val (.int f1), .val (.int f2), .val (.int f3), .val (.ref b22), .val (.int (0 : Int32)), .val (.int (1 : Int32)), .val (.ref y87), .unset, .unset, .unset] [(.int (1 : Int32)), (.ref b22)]) := fun t kt => pre91 t (by
            show Steps p.tables e below (T90.setTop (mkF m 109 #[.val (.int mask), .val (.int t1), .val (.int t2), .val (.int t3), .val (.int f1), .val (.int f2), .val (.int f3), .val (.ref b22), .val (.int (0 : Int32)), .val (.int (1 : Int32)), .unset, .unset, .unset, .unset] [(.ref y87)])) _
            refine XS.astore X90.here hx rfl (hb hby at_109) rfl rfl (l' := #[.val (.int mask), .val (.int t1), .val (.int t2), .val (.int t3), .val (.int f1), .val (.int f2), .val (.int f3), .val (.ref b22), .val (.int (0 : Int32)), .val (.int (1 : Int32)), .val (.ref y87), .unset, .unset, .unset]) rfl ?_
            show Steps p.tables e below (T90.setTop (mkF m 111 #[.val (.int mask), .val (.int t1), .val (.int t2), .val (.int t3), .val (.int f1), .val (.int f2), .val (.int f3), .val (.ref b22), .val (.int (0 : Int32)), .val (.int (1 : Int32)), .val (.ref y87), .unset, .unset, .unset] [])) _
            refine XS.aload X90.here hx rfl (hb hby at_111) rfl rfl ?_
            show Steps p.tables e below (T90.setTop (mkF m 113 #[.val (.int mask), .val (.int t1), .val (.int t2), .val (.int t3), .val (.int f1), .val (.int f2), .val (.int f3), .val (.ref b22), .val (.int (0 : Int32)), .val (.int (1 : Int32)), .val (.ref y87), .unset, .unset, .unset] [(.ref b22)])) _
            refine XS.iload X90.here hx rfl (hb hby at_113) rfl ?_
            exact kt)
        obtain ⟨cq93, kq93, q93a, q93b, q93c⟩ := isOf hZ e90 hT87.1
        obtain ⟨_, _, ⟨T93, L93, k93, n93⟩, -, X93, ⟨Lc93, hQ93, l93, y93, z93⟩, st93⟩ := X90.virtualBack hx (y := (⟨"com/example/unicept/unicept/WordTrie", "tags", "(I)[I"⟩ : MethodName)) (z := (⟨"com/example/unicept/unicept/WordTrie", "tags", "(I)[I"⟩ : MethodName)) hown (mvT hZ (hw _ (List.mem_of_getElem? (i := 42) rfl))) (mvT hZ (hw _ (List.mem_of_getElem? (i := 43) rfl))) (notFace_of_selects (args := #[]) (mvT hZ (hw _ (List.mem_of_getElem? (i := 45) rfl)))) (mvT hZ (hw _ (List.mem_of_getElem? (i := 45) rfl))) (mvT hZ (hw _ (List.mem_of_getElem? (i := 44) rfl))) (by decide) (backOf (W := 0) (own_tags1 l Z a0 hw [] b22 1 2 ch (own_fl (own_fl (fun _ => 0) (0 * 1) (0 * 1 + 1) (-1)) (1 * 1) (1 * 1 + 1) (-1)) rt (own_up (own_up (fun _ => 0) 0 (Int32.ofNat 0)) 1 (Int32.ofNat 1)) tg kt (((List.replicate 16 .null).set 1 (.ref y69)).set 0 (.ref y87)) (1 : Int32) y69 T87.heap n0 (Nat.le_trans (Nat.le_trans (Nat.le_trans (Nat.le_trans (Nat.le_trans (Nat.le_trans Z0 E22.1) K25q.1) K28q.1) K31q.1) K69q.1) K87q.1) hT87 (by decide) rfl) hZ (hw _ (List.mem_of_getElem? (i := 46) rfl)) (hw _ (List.mem_of_getElem? (i := 2) rfl)) (by decide) (by decide)) q93a q93c (g := (mkF m 115 #[.val (.int mask), .val (.int t1), .val (.int t2), .val (.int t3), .val (.int f1), .val (.int f2), .val (.int f3), .val (.ref b22), .val (.int (0 : Int32)), .val (.int (1 : Int32)), .val (.ref y87), .unset, .unset, .unset] [(.int (1 : Int32)), (.ref b22)])) rfl (by rw [hml]; rfl) (Steps.refl _) (argsL := [(.int (1 : Int32))]) (rest := []) (lenOf own_pd6 rfl) rfl (by show 2 * 0 + _ ≤ _; exact Nat.le_of_eq rfl) (hb hby at_115) (fun _ _ => ⟨rfl, e90, (by decide : 6 + 0 ≤ _), (by decide : 167 + 0 ≤ _)⟩)
        dsimp only [Pt.U, Pt.locs, Pt.cells, Pt.slots] at X93 l93 y93 z93 st93 hQ93
        subst l93 y93 z93
        obtain ⟨rfl, N93q, e93⟩ := hQ93
        have N93 := Fr.app N90 N93q
        have pre94 : Goes p e below s₁ (entryFrame m #[(.int mask), (.int t1), (.int t2), (.int t3)] maxLocals) T93 (mkF m 118 #[.val (.int mask), .val (.int t1), .val (.int t2), .val (.int t3), .val (.int f1), .val (.int f2), .val (.int f3), .val (.ref b22), .val (.int (0 : Int32)), .val (.int (1 : Int32)), .val (.ref y87), .unset, .unset, .unset] [(.ref y69)]) := fun t kt => pre92 t (st93.trans kt)
        have pre95 : Goes p e below s₁ (entryFrame m #[(.int mask), (.int t1), (.int t2), (.int t3)] maxLocals) T93 (mkF m 171 #[.val (.int mask), .val (.int t1), .val (.int t2), .val (.int t3), .val (.int f1), .val (.int f2), .val (.int f3), .val (.ref b22), .val (.int (0 : Int32)), .val (.int (1 : Int32)), .val (.ref y87), .val (.ref y69), .unset, .unset] [(.int (0 : Int32)), (.int t3), (.int (1 : Int32)), (.ref y87)]) := fun t kt => pre94 t (by
            show Steps p.tables e below (T93.setTop (mkF m 118 #[.val (.int mask), .val (.int t1), .val (.int t2), .val (.int t3), .val (.int f1), .val (.int f2), .val (.int f3), .val (.ref b22), .val (.int (0 : Int32)), .val (.int (1 : Int32)), .val (.ref y87), .unset, .unset, .unset] [(.ref y69)])) _
            refine XS.astore X93.here hx rfl (hb hby at_118) rfl rfl (l' := #[.val (.int mask), .val (.int t1), .val (.int t2), .val (.int t3), .val (.int f1), .val (.int f2), .val (.int f3), .val (.ref b22), .val (.int (0 : Int32)), .val (.int (1 : Int32)), .val (.ref y87), .val (.ref y69), .unset, .unset]) rfl ?_
            show Steps p.tables e below (T93.setTop (mkF m 120 #[.val (.int mask), .val (.int t1), .val (.int t2), .val (.int t3), .val (.int f1), .val (.int f2), .val (.int f3), .val (.ref b22), .val (.int (0 : Int32)), .val (.int (1 : Int32)), .val (.ref y87), .val (.ref y69), .unset, .unset] [])) _
            refine XS.iload X93.here hx rfl (hb hby at_120) rfl ?_
            show Steps p.tables e below (T93.setTop (mkF m 122 #[.val (.int mask), .val (.int t1), .val (.int t2), .val (.int t3), .val (.int f1), .val (.int f2), .val (.int f3), .val (.ref b22), .val (.int (0 : Int32)), .val (.int (1 : Int32)), .val (.ref y87), .val (.ref y69), .unset, .unset] [(.int f1)])) _
            refine XS.ifYes X93.here hx rfl (pc0 := 122) (pc' := 143) rfl (hb hby at_122) rfl ((if0 _ _).trans (teq hc65_34).1) (by decide) (by decide) ?_
            show Steps p.tables e below (T93.setTop (mkF m 143 #[.val (.int mask), .val (.int t1), .val (.int t2), .val (.int t3), .val (.int f1), .val (.int f2), .val (.int f3), .val (.ref b22), .val (.int (0 : Int32)), .val (.int (1 : Int32)), .val (.ref y87), .val (.ref y69), .unset, .unset] [])) _
            refine XS.iload X93.here hx rfl (hb hby at_143) rfl ?_
            show Steps p.tables e below (T93.setTop (mkF m 145 #[.val (.int mask), .val (.int t1), .val (.int t2), .val (.int t3), .val (.int f1), .val (.int f2), .val (.int f3), .val (.ref b22), .val (.int (0 : Int32)), .val (.int (1 : Int32)), .val (.ref y87), .val (.ref y69), .unset, .unset] [(.int f1)])) _
            refine XS.ifYes X93.here hx rfl (pc0 := 145) (pc' := 161) rfl (hb hby at_145) rfl ((if0 _ _).trans (teq hc65_34).1) (by decide) (by decide) ?_
            show Steps p.tables e below (T93.setTop (mkF m 161 #[.val (.int mask), .val (.int t1), .val (.int t2), .val (.int t3), .val (.int f1), .val (.int f2), .val (.int f3), .val (.ref b22), .val (.int (0 : Int32)), .val (.int (1 : Int32)), .val (.ref y87), .val (.ref y69), .unset, .unset] [])) _
            refine XS.iload X93.here hx rfl (hb hby at_161) rfl ?_
            show Steps p.tables e below (T93.setTop (mkF m 163 #[.val (.int mask), .val (.int t1), .val (.int t2), .val (.int t3), .val (.int f1), .val (.int f2), .val (.int f3), .val (.ref b22), .val (.int (0 : Int32)), .val (.int (1 : Int32)), .val (.ref y87), .val (.ref y69), .unset, .unset] [(.int f3)])) _
            refine XS.ifNo X93.here hx rfl (hb hby at_163) rfl ((if0 _ _).trans (feq hc91_72).1) ?_
            show Steps p.tables e below (T93.setTop (mkF m 166 #[.val (.int mask), .val (.int t1), .val (.int t2), .val (.int t3), .val (.int f1), .val (.int f2), .val (.int f3), .val (.ref b22), .val (.int (0 : Int32)), .val (.int (1 : Int32)), .val (.ref y87), .val (.ref y69), .unset, .unset] [])) _
            refine XS.aload X93.here hx rfl (hb hby at_166) rfl rfl ?_
            show Steps p.tables e below (T93.setTop (mkF m 168 #[.val (.int mask), .val (.int t1), .val (.int t2), .val (.int t3), .val (.int f1), .val (.int f2), .val (.int f3), .val (.ref b22), .val (.int (0 : Int32)), .val (.int (1 : Int32)), .val (.ref y87), .val (.ref y69), .unset, .unset] [(.ref y87)])) _
            refine XS.iconst X93.here hx rfl (hb hby at_168) ?_
            show Steps p.tables e below (T93.setTop (mkF m 169 #[.val (.int mask), .val (.int t1), .val (.int t2), .val (.int t3), .val (.int f1), .val (.int f2), .val (.int f3), .val (.ref b22), .val (.int (0 : Int32)), .val (.int (1 : Int32)), .val (.ref y87), .val (.ref y69), .unset, .unset] [(.int (1 : Int32)), (.ref y87)])) _
            refine XS.iloadN X93.here hx rfl (hb hby at_169) rfl ?_
            show Steps p.tables e below (T93.setTop (mkF m 170 #[.val (.int mask), .val (.int t1), .val (.int t2), .val (.int t3), .val (.int f1), .val (.int f2), .val (.int f3), .val (.ref b22), .val (.int (0 : Int32)), .val (.int (1 : Int32)), .val (.ref y87), .val (.ref y69), .unset, .unset] [(.int t3), (.int (1 : Int32)), (.ref y87)])) _
            refine XS.iconst X93.here hx rfl (hb hby at_170) ?_
            exact kt)
        obtain ⟨_, _, ⟨T96, L96, k96, n96⟩, -, X96, ⟨Lc96, hQ96, l96, y96, z96⟩, st96⟩ := Jvm.LawKit.callS X93 hx (y := (⟨"com/example/unicept/unicept/WordTrieTagsPinLaw", "same", "([IIII)Z"⟩ : MethodName)) hown (mvT hZ (hw _ (List.mem_of_getElem? (i := 49) rfl))) (mvT hZ (hw _ (List.mem_of_getElem? (i := 50) rfl))) (mvT hZ (hw _ (List.mem_of_getElem? (i := 51) rfl))) (mvT hZ (hw _ (List.mem_of_getElem? (i := 52) rfl))) (by decide) (backOf (W := 0) (own_same1 l Z a0 hw [] y87 ky87 t3 (0 : Int32) T87.heap n0 (Nat.le_trans (Nat.le_trans (Nat.le_trans (Nat.le_trans (Nat.le_trans (Nat.le_trans Z0 E22.1) K25q.1) K28q.1) K31q.1) K69q.1) K87q.1) Vy87) hZ (hw _ (List.mem_of_getElem? (i := 52) rfl)) (hw _ (List.mem_of_getElem? (i := 51) rfl)) (by decide) (by decide)) (g := (mkF m 171 #[.val (.int mask), .val (.int t1), .val (.int t2), .val (.int t3), .val (.int f1), .val (.int f2), .val (.int f3), .val (.ref b22), .val (.int (0 : Int32)), .val (.int (1 : Int32)), .val (.ref y87), .val (.ref y69), .unset, .unset] [(.int (0 : Int32)), (.int t3), (.int (1 : Int32)), (.ref y87)])) rfl (by rw [hml]; rfl) (argsL := [(.ref y87), (.int (1 : Int32)), (.int t3), (.int (0 : Int32))]) (rest := []) (lenOf own_pd7 rfl) rfl (by show 2 * 0 + _ ≤ _; exact Nat.le_of_eq rfl) (hb hby at_171) (fun _ _ => ⟨rfl, e93, (by decide : 6 + 0 ≤ _), (by decide : 167 + 0 ≤ _)⟩)
        dsimp only [Pt.U, Pt.locs, Pt.cells, Pt.slots] at X96 l96 y96 z96 st96 hQ96
        subst l96 y96 z96
        obtain ⟨rfl, N96q, e96⟩ := hQ96
        have N96 := Fr.app N93 N96q
        have pre97 : Goes p e below s₁ (entryFrame m #[(.int mask), (.int t1), (.int t2), (.int t3)] maxLocals) T96 (mkF m 174 #[.val (.int mask), .val (.int t1), .val (.int t2), .val (.int t3), .val (.int f1), .val (.int f2), .val (.int f3), .val (.ref b22), .val (.int (0 : Int32)), .val (.int (1 : Int32)), .val (.ref y87), .val (.ref y69), .unset, .unset] [(.int (1 : Int32))]) := fun t kt => pre95 t (st96 t kt)
        have pre98 : Goes p e below s₁ (entryFrame m #[(.int mask), (.int t1), (.int t2), (.int t3)] maxLocals) T96 (mkF m 199 #[.val (.int mask), .val (.int t1), .val (.int t2), .val (.int t3), .val (.int f1), .val (.int f2), .val (.int f3), .val (.ref b22), .val (.int (0 : Int32)), .val (.int (1 : Int32)), .val (.ref y87), .val (.ref y69), .val (.int (1 : Int32)), .unset] [(.int (0 : Int32)), (.int t2), (.int (1 : Int32)), (.ref y69)]) := fun t kt => pre97 t (by
            show Steps p.tables e below (T96.setTop (mkF m 174 #[.val (.int mask), .val (.int t1), .val (.int t2), .val (.int t3), .val (.int f1), .val (.int f2), .val (.int f3), .val (.ref b22), .val (.int (0 : Int32)), .val (.int (1 : Int32)), .val (.ref y87), .val (.ref y69), .unset, .unset] [(.int (1 : Int32))])) _
            refine XS.istore X96.here hx rfl (hb hby at_174) rfl (l' := #[.val (.int mask), .val (.int t1), .val (.int t2), .val (.int t3), .val (.int f1), .val (.int f2), .val (.int f3), .val (.ref b22), .val (.int (0 : Int32)), .val (.int (1 : Int32)), .val (.ref y87), .val (.ref y69), .val (.int (1 : Int32)), .unset]) rfl ?_
            show Steps p.tables e below (T96.setTop (mkF m 176 #[.val (.int mask), .val (.int t1), .val (.int t2), .val (.int t3), .val (.int f1), .val (.int f2), .val (.int f3), .val (.ref b22), .val (.int (0 : Int32)), .val (.int (1 : Int32)), .val (.ref y87), .val (.ref y69), .val (.int (1 : Int32)), .unset] [])) _
            refine XS.goto X96.here hx rfl (pc0 := 176) (pc' := 189) rfl (hb hby at_176) (by decide) (by decide) ?_
            show Steps p.tables e below (T96.setTop (mkF m 189 #[.val (.int mask), .val (.int t1), .val (.int t2), .val (.int t3), .val (.int f1), .val (.int f2), .val (.int f3), .val (.ref b22), .val (.int (0 : Int32)), .val (.int (1 : Int32)), .val (.ref y87), .val (.ref y69), .val (.int (1 : Int32)), .unset] [])) _
            refine XS.iload X96.here hx rfl (hb hby at_189) rfl ?_
            show Steps p.tables e below (T96.setTop (mkF m 191 #[.val (.int mask), .val (.int t1), .val (.int t2), .val (.int t3), .val (.int f1), .val (.int f2), .val (.int f3), .val (.ref b22), .val (.int (0 : Int32)), .val (.int (1 : Int32)), .val (.ref y87), .val (.ref y69), .val (.int (1 : Int32)), .unset] [(.int f2)])) _
            refine XS.ifNo X96.here hx rfl (hb hby at_191) rfl ((if0 _ _).trans (feq hc78_36).1) ?_
            show Steps p.tables e below (T96.setTop (mkF m 194 #[.val (.int mask), .val (.int t1), .val (.int t2), .val (.int t3), .val (.int f1), .val (.int f2), .val (.int f3), .val (.ref b22), .val (.int (0 : Int32)), .val (.int (1 : Int32)), .val (.ref y87), .val (.ref y69), .val (.int (1 : Int32)), .unset] [])) _
            refine XS.aload X96.here hx rfl (hb hby at_194) rfl rfl ?_
            show Steps p.tables e below (T96.setTop (mkF m 196 #[.val (.int mask), .val (.int t1), .val (.int t2), .val (.int t3), .val (.int f1), .val (.int f2), .val (.int f3), .val (.ref b22), .val (.int (0 : Int32)), .val (.int (1 : Int32)), .val (.ref y87), .val (.ref y69), .val (.int (1 : Int32)), .unset] [(.ref y69)])) _
            refine XS.iconst X96.here hx rfl (hb hby at_196) ?_
            show Steps p.tables e below (T96.setTop (mkF m 197 #[.val (.int mask), .val (.int t1), .val (.int t2), .val (.int t3), .val (.int f1), .val (.int f2), .val (.int f3), .val (.ref b22), .val (.int (0 : Int32)), .val (.int (1 : Int32)), .val (.ref y87), .val (.ref y69), .val (.int (1 : Int32)), .unset] [(.int (1 : Int32)), (.ref y69)])) _
            refine XS.iloadN X96.here hx rfl (hb hby at_197) rfl ?_
            show Steps p.tables e below (T96.setTop (mkF m 198 #[.val (.int mask), .val (.int t1), .val (.int t2), .val (.int t3), .val (.int f1), .val (.int f2), .val (.int f3), .val (.ref b22), .val (.int (0 : Int32)), .val (.int (1 : Int32)), .val (.ref y87), .val (.ref y69), .val (.int (1 : Int32)), .unset] [(.int t2), (.int (1 : Int32)), (.ref y69)])) _
            refine XS.iconst X96.here hx rfl (hb hby at_198) ?_
            exact kt)
        obtain ⟨_, _, ⟨T99, L99, k99, n99⟩, -, X99, ⟨Lc99, hQ99, l99, y99, z99⟩, st99⟩ := Jvm.LawKit.callS X96 hx (y := (⟨"com/example/unicept/unicept/WordTrieTagsPinLaw", "same", "([IIII)Z"⟩ : MethodName)) hown (mvT hZ (hw _ (List.mem_of_getElem? (i := 49) rfl))) (mvT hZ (hw _ (List.mem_of_getElem? (i := 50) rfl))) (mvT hZ (hw _ (List.mem_of_getElem? (i := 51) rfl))) (mvT hZ (hw _ (List.mem_of_getElem? (i := 52) rfl))) (by decide) (backOf (W := 0) (own_same1 l Z a0 hw [] y69 ky69 t2 (0 : Int32) T87.heap n0 (Nat.le_trans (Nat.le_trans (Nat.le_trans (Nat.le_trans (Nat.le_trans (Nat.le_trans Z0 E22.1) K25q.1) K28q.1) K31q.1) K69q.1) K87q.1) (Vy69.keep K87q (ninS ny69 nin0))) hZ (hw _ (List.mem_of_getElem? (i := 52) rfl)) (hw _ (List.mem_of_getElem? (i := 51) rfl)) (by decide) (by decide)) (g := (mkF m 199 #[.val (.int mask), .val (.int t1), .val (.int t2), .val (.int t3), .val (.int f1), .val (.int f2), .val (.int f3), .val (.ref b22), .val (.int (0 : Int32)), .val (.int (1 : Int32)), .val (.ref y87), .val (.ref y69), .val (.int (1 : Int32)), .unset] [(.int (0 : Int32)), (.int t2), (.int (1 : Int32)), (.ref y69)])) rfl (by rw [hml]; rfl) (argsL := [(.ref y69), (.int (1 : Int32)), (.int t2), (.int (0 : Int32))]) (rest := []) (lenOf own_pd7 rfl) rfl (by show 2 * 0 + _ ≤ _; exact Nat.le_of_eq rfl) (hb hby at_199) (fun _ _ => ⟨rfl, e96, (by decide : 6 + 0 ≤ _), (by decide : 167 + 0 ≤ _)⟩)
        dsimp only [Pt.U, Pt.locs, Pt.cells, Pt.slots] at X99 l99 y99 z99 st99 hQ99
        subst l99 y99 z99
        obtain ⟨rfl, N99q, e99⟩ := hQ99
        have N99 := Fr.app N96 N99q
        have pre100 : Goes p e below s₁ (entryFrame m #[(.int mask), (.int t1), (.int t2), (.int t3)] maxLocals) T99 (mkF m 202 #[.val (.int mask), .val (.int t1), .val (.int t2), .val (.int t3), .val (.int f1), .val (.int f2), .val (.int f3), .val (.ref b22), .val (.int (0 : Int32)), .val (.int (1 : Int32)), .val (.ref y87), .val (.ref y69), .val (.int (1 : Int32)), .unset] [(.int (1 : Int32))]) := fun t kt => pre98 t (st99 t kt)
        have pre101 : Goes p e below s₁ (entryFrame m #[(.int mask), (.int t1), (.int t2), (.int t3)] maxLocals) T99 (mkF m 232 #[.val (.int mask), .val (.int t1), .val (.int t2), .val (.int t3), .val (.int f1), .val (.int f2), .val (.int f3), .val (.ref b22), .val (.int (0 : Int32)), .val (.int (1 : Int32)), .val (.ref y87), .val (.ref y69), .val (.int (1 : Int32)), .val (.int (1 : Int32))] [(.int (1 : Int32))]) := fun t kt => pre100 t (by
            show Steps p.tables e below (T99.setTop (mkF m 202 #[.val (.int mask), .val (.int t1), .val (.int t2), .val (.int t3), .val (.int f1), .val (.int f2), .val (.int f3), .val (.ref b22), .val (.int (0 : Int32)), .val (.int (1 : Int32)), .val (.ref y87), .val (.ref y69), .val (.int (1 : Int32)), .unset] [(.int (1 : Int32))])) _
            refine XS.istore X99.here hx rfl (hb hby at_202) rfl (l' := #[.val (.int mask), .val (.int t1), .val (.int t2), .val (.int t3), .val (.int f1), .val (.int f2), .val (.int f3), .val (.ref b22), .val (.int (0 : Int32)), .val (.int (1 : Int32)), .val (.ref y87), .val (.ref y69), .val (.int (1 : Int32)), .val (.int (1 : Int32))]) rfl ?_
            show Steps p.tables e below (T99.setTop (mkF m 204 #[.val (.int mask), .val (.int t1), .val (.int t2), .val (.int t3), .val (.int f1), .val (.int f2), .val (.int f3), .val (.ref b22), .val (.int (0 : Int32)), .val (.int (1 : Int32)), .val (.ref y87), .val (.ref y69), .val (.int (1 : Int32)), .val (.int (1 : Int32))] [])) _
            refine XS.goto X99.here hx rfl (pc0 := 204) (pc' := 217) rfl (hb hby at_204) (by decide) (by decide) ?_
            show Steps p.tables e below (T99.setTop (mkF m 217 #[.val (.int mask), .val (.int t1), .val (.int t2), .val (.int t3), .val (.int f1), .val (.int f2), .val (.int f3), .val (.ref b22), .val (.int (0 : Int32)), .val (.int (1 : Int32)), .val (.ref y87), .val (.ref y69), .val (.int (1 : Int32)), .val (.int (1 : Int32))] [])) _
            refine XS.iload X99.here hx rfl (hb hby at_217) rfl ?_
            show Steps p.tables e below (T99.setTop (mkF m 219 #[.val (.int mask), .val (.int t1), .val (.int t2), .val (.int t3), .val (.int f1), .val (.int f2), .val (.int f3), .val (.ref b22), .val (.int (0 : Int32)), .val (.int (1 : Int32)), .val (.ref y87), .val (.ref y69), .val (.int (1 : Int32)), .val (.int (1 : Int32))] [(.int (1 : Int32))])) _
            refine XS.ifNo X99.here hx rfl (hb hby at_219) rfl ((if0 _ _).trans (feq (by decide : ¬ ((1 : Int32) = (0 : Int32)))).1) ?_
            show Steps p.tables e below (T99.setTop (mkF m 222 #[.val (.int mask), .val (.int t1), .val (.int t2), .val (.int t3), .val (.int f1), .val (.int f2), .val (.int f3), .val (.ref b22), .val (.int (0 : Int32)), .val (.int (1 : Int32)), .val (.ref y87), .val (.ref y69), .val (.int (1 : Int32)), .val (.int (1 : Int32))] [])) _
            refine XS.iload X99.here hx rfl (hb hby at_222) rfl ?_
            show Steps p.tables e below (T99.setTop (mkF m 224 #[.val (.int mask), .val (.int t1), .val (.int t2), .val (.int t3), .val (.int f1), .val (.int f2), .val (.int f3), .val (.ref b22), .val (.int (0 : Int32)), .val (.int (1 : Int32)), .val (.ref y87), .val (.ref y69), .val (.int (1 : Int32)), .val (.int (1 : Int32))] [(.int (1 : Int32))])) _
            refine XS.ifNo X99.here hx rfl (hb hby at_224) rfl ((if0 _ _).trans (feq (by decide : ¬ ((1 : Int32) = (0 : Int32)))).1) ?_
            show Steps p.tables e below (T99.setTop (mkF m 227 #[.val (.int mask), .val (.int t1), .val (.int t2), .val (.int t3), .val (.int f1), .val (.int f2), .val (.int f3), .val (.ref b22), .val (.int (0 : Int32)), .val (.int (1 : Int32)), .val (.ref y87), .val (.ref y69), .val (.int (1 : Int32)), .val (.int (1 : Int32))] [])) _
            refine XS.iconst X99.here hx rfl (hb hby at_227) ?_
            show Steps p.tables e below (T99.setTop (mkF m 228 #[.val (.int mask), .val (.int t1), .val (.int t2), .val (.int t3), .val (.int f1), .val (.int f2), .val (.int f3), .val (.ref b22), .val (.int (0 : Int32)), .val (.int (1 : Int32)), .val (.ref y87), .val (.ref y69), .val (.int (1 : Int32)), .val (.int (1 : Int32))] [(.int (1 : Int32))])) _
            refine XS.goto X99.here hx rfl (pc0 := 228) (pc' := 232) rfl (hb hby at_228) (by decide) (by decide) ?_
            exact kt)
        obtain ⟨fs, hr, hrun, hended, hW, hsame⟩ := X99.leave (v := some (.int (1 : Int32))) (fun h => by rw [Bd.returns] at h; cases h)
        refine ⟨_, _, pre101 _ ?_, hrun, hended, _, _, rfl, ?_, ⟨_, rfl⟩, hW, hsame.mono (by decide) (by decide)⟩
        · show Steps p.tables e below (T99.setTop (mkF m 232 #[.val (.int mask), .val (.int t1), .val (.int t2), .val (.int t3), .val (.int f1), .val (.int f2), .val (.int f3), .val (.ref b22), .val (.int (0 : Int32)), .val (.int (1 : Int32)), .val (.ref y87), .val (.ref y69), .val (.int (1 : Int32)), .val (.int (1 : Int32))] [(.int (1 : Int32))])) _
          exact retN X99 hx (t := .boolean) Bd.returns (by simp) (hb hby at_232) hr
        · show Q_own_rm0 Z mask t1 t2 t3 nt kn h0 n0 _ T99.heap _
          rw [e99]
          exact ⟨rfl, N99⟩
  · -- no at pc 65: 
    have pre102 : Goes p e below s₁ (entryFrame m #[(.int mask), (.int t1), (.int t2), (.int t3)] maxLocals) T31 (mkF m 73 #[.val (.int mask), .val (.int t1), .val (.int t2), .val (.int t3), .val (.int f1), .val (.int f2), .val (.int f3), .val (.ref b22), .val (.int (0 : Int32)), .val (.int (1 : Int32)), .unset, .unset, .unset, .unset] [(.int t1), (.int (0 : Int32)), (.ref b22)]) := fun t kt => pre33 t (by
        show Steps p.tables e below (T31.setTop (mkF m 65 #[.val (.int mask), .val (.int t1), .val (.int t2), .val (.int t3), .val (.int f1), .val (.int f2), .val (.int f3), .val (.ref b22), .val (.int (0 : Int32)), .val (.int (1 : Int32)), .unset, .unset, .unset, .unset] [(.int f1)])) _
        refine XS.ifNo X31.here hx rfl (hb hby at_65) rfl ((if0 _ _).trans (feq hc65_34).1) ?_
        show Steps p.tables e below (T31.setTop (mkF m 68 #[.val (.int mask), .val (.int t1), .val (.int t2), .val (.int t3), .val (.int f1), .val (.int f2), .val (.int f3), .val (.ref b22), .val (.int (0 : Int32)), .val (.int (1 : Int32)), .unset, .unset, .unset, .unset] [])) _
        refine XS.aload X31.here hx rfl (hb hby at_68) rfl rfl ?_
        show Steps p.tables e below (T31.setTop (mkF m 70 #[.val (.int mask), .val (.int t1), .val (.int t2), .val (.int t3), .val (.int f1), .val (.int f2), .val (.int f3), .val (.ref b22), .val (.int (0 : Int32)), .val (.int (1 : Int32)), .unset, .unset, .unset, .unset] [(.ref b22)])) _
        refine XS.iload X31.here hx rfl (hb hby at_70) rfl ?_
        show Steps p.tables e below (T31.setTop (mkF m 72 #[.val (.int mask), .val (.int t1), .val (.int t2), .val (.int t3), .val (.int f1), .val (.int f2), .val (.int f3), .val (.ref b22), .val (.int (0 : Int32)), .val (.int (1 : Int32)), .unset, .unset, .unset, .unset] [(.int (0 : Int32)), (.ref b22)])) _
        refine XS.iloadN X31.here hx rfl (hb hby at_72) rfl ?_
        exact kt)
    obtain ⟨cq103, kq103, q103a, q103b, q103c⟩ := isOf hZ rfl hT31.1
    obtain ⟨_, _, ⟨T103, L103, k103, n103⟩, -, X103, ⟨Lc103, hQ103, l103, y103, z103⟩, st103⟩ := X31.virtualBack hx (y := (⟨"com/example/unicept/unicept/WordTrie", "tag", "(II)V"⟩ : MethodName)) (z := (⟨"com/example/unicept/unicept/WordTrie", "tag", "(II)V"⟩ : MethodName)) hown (mvT hZ (hw _ (List.mem_of_getElem? (i := 53) rfl))) (mvT hZ (hw _ (List.mem_of_getElem? (i := 54) rfl))) (notFace_of_selects (args := #[]) (mvT hZ (hw _ (List.mem_of_getElem? (i := 56) rfl)))) (mvT hZ (hw _ (List.mem_of_getElem? (i := 56) rfl))) (mvT hZ (hw _ (List.mem_of_getElem? (i := 55) rfl))) (by decide) (backOf (W := 0) (own_tag0 l Z a0 hw [] b22 1 2 ch (own_fl (own_fl (fun _ => 0) (0 * 1) (0 * 1 + 1) (-1)) (1 * 1) (1 * 1 + 1) (-1)) rt (own_up (own_up (fun _ => 0) 0 (Int32.ofNat 0)) 1 (Int32.ofNat 1)) tg kt (List.replicate 16 .null) (0 : Int32) t1 nt kn T31.heap n0 (Nat.le_trans (Nat.le_trans (Nat.le_trans (Nat.le_trans Z0 E22.1) K25q.1) K28q.1) K31q.1) hT31 Ov (by decide) (by simp) rfl ((((V_nt.ext E22).keep K25q (ninS (Nat.ne_of_lt (Nat.lt_of_lt_of_le V_nt.lt (Nat.le_of_eq g22.symm))) nin0)).keep K28q (ninS (Nat.ne_of_lt (Nat.lt_of_lt_of_le V_nt.lt (Nat.le_of_eq g22.symm))) (ninS (Nat.ne_of_lt (Nat.lt_of_lt_of_le (V_nt.ext E22).lt z1)) (ninS (Nat.ne_of_lt (Nat.lt_of_lt_of_le (V_nt.ext E22).lt z2)) nin0)))).keep K31q (ninS (Nat.ne_of_lt (Nat.lt_of_lt_of_le V_nt.lt (Nat.le_of_eq g22.symm))) (ninS (Nat.ne_of_lt (Nat.lt_of_lt_of_le (V_nt.ext E22).lt z1)) (ninS (Nat.ne_of_lt (Nat.lt_of_lt_of_le (V_nt.ext E22).lt z2)) nin0)))) (S_NT.ext ((((O0.ext E22).keep K25q (allS g_b22 all0)).keep K28q (allS g_b22 (allS g_ch (allS g_rt all0)))).keep K31q (allS g_b22 (allS g_ch (allS g_rt all0)))).2)) hZ (hw _ (List.mem_of_getElem? (i := 57) rfl)) (hw _ (List.mem_of_getElem? (i := 2) rfl)) (by decide) (by decide)) q103a q103c (g := (mkF m 73 #[.val (.int mask), .val (.int t1), .val (.int t2), .val (.int t3), .val (.int f1), .val (.int f2), .val (.int f3), .val (.ref b22), .val (.int (0 : Int32)), .val (.int (1 : Int32)), .unset, .unset, .unset, .unset] [(.int t1), (.int (0 : Int32)), (.ref b22)])) rfl (by rw [hml]; rfl) (Steps.refl _) (argsL := [(.int (0 : Int32)), (.int t1)]) (rest := []) (lenOf own_pd8 rfl) rfl (by show 2 * 0 + _ ≤ _; exact Nat.le_of_eq rfl) (hb hby at_73) (fun _ _ => ⟨rfl, rfl, (by decide : 4 + 1 ≤ _), (by decide : 165 + 1 ≤ _)⟩)
    dsimp only [Pt.U, Pt.locs, Pt.cells, Pt.slots] at X103 l103 y103 z103 st103 hQ103
    subst l103 y103 z103
    obtain ⟨rfl, N103q, K103q, y103, ky103, zy103, gy103, ny103, Vy103, hT103⟩ := hQ103
    have N103 := Fr.app N31 N103q
    have KC103 : Keep h0 T103.heap [] := KC31.trans K103q (allS (Or.inr sz_tg) all0)
    have pre104 : Goes p e below s₁ (entryFrame m #[(.int mask), (.int t1), (.int t2), (.int t3)] maxLocals) T103 (mkF m 76 #[.val (.int mask), .val (.int t1), .val (.int t2), .val (.int t3), .val (.int f1), .val (.int f2), .val (.int f3), .val (.ref b22), .val (.int (0 : Int32)), .val (.int (1 : Int32)), .unset, .unset, .unset, .unset] []) := fun t kt => pre102 t (st103.trans kt)
    have pre105 : Goes p e below s₁ (entryFrame m #[(.int mask), (.int t1), (.int t2), (.int t3)] maxLocals) T103 (mkF m 78 #[.val (.int mask), .val (.int t1), .val (.int t2), .val (.int t3), .val (.int f1), .val (.int f2), .val (.int f3), .val (.ref b22), .val (.int (0 : Int32)), .val (.int (1 : Int32)), .unset, .unset, .unset, .unset] [(.int f2)]) := fun t kt => pre104 t (by
        show Steps p.tables e below (T103.setTop (mkF m 76 #[.val (.int mask), .val (.int t1), .val (.int t2), .val (.int t3), .val (.int f1), .val (.int f2), .val (.int f3), .val (.ref b22), .val (.int (0 : Int32)), .val (.int (1 : Int32)), .unset, .unset, .unset, .unset] [])) _
        refine XS.iload X103.here hx rfl (hb hby at_76) rfl ?_
        exact kt)
    by_cases hc78_106 : f2 = (0 : Int32)
    · -- yes at pc 78: f
      have pre107 : Goes p e below s₁ (entryFrame m #[(.int mask), (.int t1), (.int t2), (.int t3)] maxLocals) T103 (mkF m 91 #[.val (.int mask), .val (.int t1), .val (.int t2), .val (.int t3), .val (.int f1), .val (.int f2), .val (.int f3), .val (.ref b22), .val (.int (0 : Int32)), .val (.int (1 : Int32)), .unset, .unset, .unset, .unset] [(.int f3)]) := fun t kt => pre105 t (by
          show Steps p.tables e below (T103.setTop (mkF m 78 #[.val (.int mask), .val (.int t1), .val (.int t2), .val (.int t3), .val (.int f1), .val (.int f2), .val (.int f3), .val (.ref b22), .val (.int (0 : Int32)), .val (.int (1 : Int32)), .unset, .unset, .unset, .unset] [(.int f2)])) _
          refine XS.ifYes X103.here hx rfl (pc0 := 78) (pc' := 89) rfl (hb hby at_78) rfl ((if0 _ _).trans (teq hc78_106).1) (by decide) (by decide) ?_
          show Steps p.tables e below (T103.setTop (mkF m 89 #[.val (.int mask), .val (.int t1), .val (.int t2), .val (.int t3), .val (.int f1), .val (.int f2), .val (.int f3), .val (.ref b22), .val (.int (0 : Int32)), .val (.int (1 : Int32)), .unset, .unset, .unset, .unset] [])) _
          refine XS.iload X103.here hx rfl (hb hby at_89) rfl ?_
          exact kt)
      by_cases hc91_108 : f3 = (0 : Int32)
      · -- yes at pc 91: ft
        have pre109 : Goes p e below s₁ (entryFrame m #[(.int mask), (.int t1), (.int t2), (.int t3)] maxLocals) T103 (mkF m 106 #[.val (.int mask), .val (.int t1), .val (.int t2), .val (.int t3), .val (.int f1), .val (.int f2), .val (.int f3), .val (.ref b22), .val (.int (0 : Int32)), .val (.int (1 : Int32)), .unset, .unset, .unset, .unset] [(.int (0 : Int32)), (.ref b22)]) := fun t kt => pre107 t (by
            show Steps p.tables e below (T103.setTop (mkF m 91 #[.val (.int mask), .val (.int t1), .val (.int t2), .val (.int t3), .val (.int f1), .val (.int f2), .val (.int f3), .val (.ref b22), .val (.int (0 : Int32)), .val (.int (1 : Int32)), .unset, .unset, .unset, .unset] [(.int f3)])) _
            refine XS.ifYes X103.here hx rfl (pc0 := 91) (pc' := 102) rfl (hb hby at_91) rfl ((if0 _ _).trans (teq hc91_108).1) (by decide) (by decide) ?_
            show Steps p.tables e below (T103.setTop (mkF m 102 #[.val (.int mask), .val (.int t1), .val (.int t2), .val (.int t3), .val (.int f1), .val (.int f2), .val (.int f3), .val (.ref b22), .val (.int (0 : Int32)), .val (.int (1 : Int32)), .unset, .unset, .unset, .unset] [])) _
            refine XS.aload X103.here hx rfl (hb hby at_102) rfl rfl ?_
            show Steps p.tables e below (T103.setTop (mkF m 104 #[.val (.int mask), .val (.int t1), .val (.int t2), .val (.int t3), .val (.int f1), .val (.int f2), .val (.int f3), .val (.ref b22), .val (.int (0 : Int32)), .val (.int (1 : Int32)), .unset, .unset, .unset, .unset] [(.ref b22)])) _
            refine XS.iload X103.here hx rfl (hb hby at_104) rfl ?_
            exact kt)
        obtain ⟨cq110, kq110, q110a, q110b, q110c⟩ := isOf hZ rfl hT103.1
        obtain ⟨_, _, ⟨T110, L110, k110, n110⟩, -, X110, ⟨Lc110, hQ110, l110, y110, z110⟩, st110⟩ := X103.virtualBack hx (y := (⟨"com/example/unicept/unicept/WordTrie", "tags", "(I)[I"⟩ : MethodName)) (z := (⟨"com/example/unicept/unicept/WordTrie", "tags", "(I)[I"⟩ : MethodName)) hown (mvT hZ (hw _ (List.mem_of_getElem? (i := 42) rfl))) (mvT hZ (hw _ (List.mem_of_getElem? (i := 43) rfl))) (notFace_of_selects (args := #[]) (mvT hZ (hw _ (List.mem_of_getElem? (i := 45) rfl)))) (mvT hZ (hw _ (List.mem_of_getElem? (i := 45) rfl))) (mvT hZ (hw _ (List.mem_of_getElem? (i := 44) rfl))) (by decide) (backOf (W := 0) (own_tags1 l Z a0 hw [] b22 1 2 ch (own_fl (own_fl (fun _ => 0) (0 * 1) (0 * 1 + 1) (-1)) (1 * 1) (1 * 1 + 1) (-1)) rt (own_up (own_up (fun _ => 0) 0 (Int32.ofNat 0)) 1 (Int32.ofNat 1)) tg kt ((List.replicate 16 .null).set 0 (.ref y103)) (0 : Int32) y103 T103.heap n0 (Nat.le_trans (Nat.le_trans (Nat.le_trans (Nat.le_trans (Nat.le_trans Z0 E22.1) K25q.1) K28q.1) K31q.1) K103q.1) hT103 (by decide) rfl) hZ (hw _ (List.mem_of_getElem? (i := 46) rfl)) (hw _ (List.mem_of_getElem? (i := 2) rfl)) (by decide) (by decide)) q110a q110c (g := (mkF m 106 #[.val (.int mask), .val (.int t1), .val (.int t2), .val (.int t3), .val (.int f1), .val (.int f2), .val (.int f3), .val (.ref b22), .val (.int (0 : Int32)), .val (.int (1 : Int32)), .unset, .unset, .unset, .unset] [(.int (0 : Int32)), (.ref b22)])) rfl (by rw [hml]; rfl) (Steps.refl _) (argsL := [(.int (0 : Int32))]) (rest := []) (lenOf own_pd6 rfl) rfl (by show 2 * 0 + _ ≤ _; exact Nat.le_of_eq rfl) (hb hby at_106) (fun _ _ => ⟨rfl, rfl, (by decide : 5 + 0 ≤ _), (by decide : 166 + 0 ≤ _)⟩)
        dsimp only [Pt.U, Pt.locs, Pt.cells, Pt.slots] at X110 l110 y110 z110 st110 hQ110
        subst l110 y110 z110
        obtain ⟨rfl, N110q, e110⟩ := hQ110
        have N110 := Fr.app N103 N110q
        have pre111 : Goes p e below s₁ (entryFrame m #[(.int mask), (.int t1), (.int t2), (.int t3)] maxLocals) T110 (mkF m 109 #[.val (.int mask), .val (.int t1), .val (.int t2), .val (.int t3), .val (.int f1), .val (.int f2), .val (.int f3), .val (.ref b22), .val (.int (0 : Int32)), .val (.int (1 : Int32)), .unset, .unset, .unset, .unset] [(.ref y103)]) := fun t kt => pre109 t (st110.trans kt)
        have pre112 : Goes p e below s₁ (entryFrame m #[(.int mask), (.int t1), (.int t2), (.int t3)] maxLocals) T110 (mkF m 115 #[.val (.int mask), .val (.int t1), .val (.int t2), .val (.int t3), .val (.int f1), .val (.int f2), .val (.int f3), .val (.ref b22), .val (.int (0 : Int32)), .val (.int (1 : Int32)), .val (.ref y103), .unset, .unset, .unset] [(.int (1 : Int32)), (.ref b22)]) := fun t kt => pre111 t (by
            show Steps p.tables e below (T110.setTop (mkF m 109 #[.val (.int mask), .val (.int t1), .val (.int t2), .val (.int t3), .val (.int f1), .val (.int f2), .val (.int f3), .val (.ref b22), .val (.int (0 : Int32)), .val (.int (1 : Int32)), .unset, .unset, .unset, .unset] [(.ref y103)])) _
            refine XS.astore X110.here hx rfl (hb hby at_109) rfl rfl (l' := #[.val (.int mask), .val (.int t1), .val (.int t2), .val (.int t3), .val (.int f1), .val (.int f2), .val (.int f3), .val (.ref b22), .val (.int (0 : Int32)), .val (.int (1 : Int32)), .val (.ref y103), .unset, .unset, .unset]) rfl ?_
            show Steps p.tables e below (T110.setTop (mkF m 111 #[.val (.int mask), .val (.int t1), .val (.int t2), .val (.int t3), .val (.int f1), .val (.int f2), .val (.int f3), .val (.ref b22), .val (.int (0 : Int32)), .val (.int (1 : Int32)), .val (.ref y103), .unset, .unset, .unset] [])) _
            refine XS.aload X110.here hx rfl (hb hby at_111) rfl rfl ?_
            show Steps p.tables e below (T110.setTop (mkF m 113 #[.val (.int mask), .val (.int t1), .val (.int t2), .val (.int t3), .val (.int f1), .val (.int f2), .val (.int f3), .val (.ref b22), .val (.int (0 : Int32)), .val (.int (1 : Int32)), .val (.ref y103), .unset, .unset, .unset] [(.ref b22)])) _
            refine XS.iload X110.here hx rfl (hb hby at_113) rfl ?_
            exact kt)
        obtain ⟨cq113, kq113, q113a, q113b, q113c⟩ := isOf hZ e110 hT103.1
        obtain ⟨_, _, ⟨T113, L113, k113, n113⟩, -, X113, ⟨Lc113, hQ113, l113, y113, z113⟩, st113⟩ := X110.virtualBack hx (y := (⟨"com/example/unicept/unicept/WordTrie", "tags", "(I)[I"⟩ : MethodName)) (z := (⟨"com/example/unicept/unicept/WordTrie", "tags", "(I)[I"⟩ : MethodName)) hown (mvT hZ (hw _ (List.mem_of_getElem? (i := 42) rfl))) (mvT hZ (hw _ (List.mem_of_getElem? (i := 43) rfl))) (notFace_of_selects (args := #[]) (mvT hZ (hw _ (List.mem_of_getElem? (i := 45) rfl)))) (mvT hZ (hw _ (List.mem_of_getElem? (i := 45) rfl))) (mvT hZ (hw _ (List.mem_of_getElem? (i := 44) rfl))) (by decide) (backOf (W := 0) (own_tags0 l Z a0 hw [] b22 1 2 ch (own_fl (own_fl (fun _ => 0) (0 * 1) (0 * 1 + 1) (-1)) (1 * 1) (1 * 1 + 1) (-1)) rt (own_up (own_up (fun _ => 0) 0 (Int32.ofNat 0)) 1 (Int32.ofNat 1)) tg kt ((List.replicate 16 .null).set 0 (.ref y103)) (1 : Int32) nt T103.heap n0 (Nat.le_trans (Nat.le_trans (Nat.le_trans (Nat.le_trans (Nat.le_trans Z0 E22.1) K25q.1) K28q.1) K31q.1) K103q.1) hT103 (by decide) rfl (S_NT.ext (((((O0.ext E22).keep K25q (allS g_b22 all0)).keep K28q (allS g_b22 (allS g_ch (allS g_rt all0)))).keep K31q (allS g_b22 (allS g_ch (allS g_rt all0)))).keep K103q (allS g_tg all0)).2)) hZ (hw _ (List.mem_of_getElem? (i := 46) rfl)) (hw _ (List.mem_of_getElem? (i := 2) rfl)) (by decide) (by decide)) q113a q113c (g := (mkF m 115 #[.val (.int mask), .val (.int t1), .val (.int t2), .val (.int t3), .val (.int f1), .val (.int f2), .val (.int f3), .val (.ref b22), .val (.int (0 : Int32)), .val (.int (1 : Int32)), .val (.ref y103), .unset, .unset, .unset] [(.int (1 : Int32)), (.ref b22)])) rfl (by rw [hml]; rfl) (Steps.refl _) (argsL := [(.int (1 : Int32))]) (rest := []) (lenOf own_pd6 rfl) rfl (by show 2 * 0 + _ ≤ _; exact Nat.le_of_eq rfl) (hb hby at_115) (fun _ _ => ⟨rfl, e110, (by decide : 5 + 0 ≤ _), (by decide : 166 + 0 ≤ _)⟩)
        dsimp only [Pt.U, Pt.locs, Pt.cells, Pt.slots] at X113 l113 y113 z113 st113 hQ113
        subst l113 y113 z113
        obtain ⟨rfl, N113q, e113⟩ := hQ113
        have N113 := Fr.app N110 N113q
        have pre114 : Goes p e below s₁ (entryFrame m #[(.int mask), (.int t1), (.int t2), (.int t3)] maxLocals) T113 (mkF m 118 #[.val (.int mask), .val (.int t1), .val (.int t2), .val (.int t3), .val (.int f1), .val (.int f2), .val (.int f3), .val (.ref b22), .val (.int (0 : Int32)), .val (.int (1 : Int32)), .val (.ref y103), .unset, .unset, .unset] [(.ref nt)]) := fun t kt => pre112 t (st113.trans kt)
        have pre115 : Goes p e below s₁ (entryFrame m #[(.int mask), (.int t1), (.int t2), (.int t3)] maxLocals) T113 (mkF m 153 #[.val (.int mask), .val (.int t1), .val (.int t2), .val (.int t3), .val (.int f1), .val (.int f2), .val (.int f3), .val (.ref b22), .val (.int (0 : Int32)), .val (.int (1 : Int32)), .val (.ref y103), .val (.ref nt), .unset, .unset] [(.int (0 : Int32)), (.int t1), (.int (1 : Int32)), (.ref y103)]) := fun t kt => pre114 t (by
            show Steps p.tables e below (T113.setTop (mkF m 118 #[.val (.int mask), .val (.int t1), .val (.int t2), .val (.int t3), .val (.int f1), .val (.int f2), .val (.int f3), .val (.ref b22), .val (.int (0 : Int32)), .val (.int (1 : Int32)), .val (.ref y103), .unset, .unset, .unset] [(.ref nt)])) _
            refine XS.astore X113.here hx rfl (hb hby at_118) rfl rfl (l' := #[.val (.int mask), .val (.int t1), .val (.int t2), .val (.int t3), .val (.int f1), .val (.int f2), .val (.int f3), .val (.ref b22), .val (.int (0 : Int32)), .val (.int (1 : Int32)), .val (.ref y103), .val (.ref nt), .unset, .unset]) rfl ?_
            show Steps p.tables e below (T113.setTop (mkF m 120 #[.val (.int mask), .val (.int t1), .val (.int t2), .val (.int t3), .val (.int f1), .val (.int f2), .val (.int f3), .val (.ref b22), .val (.int (0 : Int32)), .val (.int (1 : Int32)), .val (.ref y103), .val (.ref nt), .unset, .unset] [])) _
            refine XS.iload X113.here hx rfl (hb hby at_120) rfl ?_
            show Steps p.tables e below (T113.setTop (mkF m 122 #[.val (.int mask), .val (.int t1), .val (.int t2), .val (.int t3), .val (.int f1), .val (.int f2), .val (.int f3), .val (.ref b22), .val (.int (0 : Int32)), .val (.int (1 : Int32)), .val (.ref y103), .val (.ref nt), .unset, .unset] [(.int f1)])) _
            refine XS.ifNo X113.here hx rfl (hb hby at_122) rfl ((if0 _ _).trans (feq hc65_34).1) ?_
            show Steps p.tables e below (T113.setTop (mkF m 125 #[.val (.int mask), .val (.int t1), .val (.int t2), .val (.int t3), .val (.int f1), .val (.int f2), .val (.int f3), .val (.ref b22), .val (.int (0 : Int32)), .val (.int (1 : Int32)), .val (.ref y103), .val (.ref nt), .unset, .unset] [])) _
            refine XS.iload X113.here hx rfl (hb hby at_125) rfl ?_
            show Steps p.tables e below (T113.setTop (mkF m 127 #[.val (.int mask), .val (.int t1), .val (.int t2), .val (.int t3), .val (.int f1), .val (.int f2), .val (.int f3), .val (.ref b22), .val (.int (0 : Int32)), .val (.int (1 : Int32)), .val (.ref y103), .val (.ref nt), .unset, .unset] [(.int f3)])) _
            refine XS.ifYes X113.here hx rfl (pc0 := 127) (pc' := 143) rfl (hb hby at_127) rfl ((if0 _ _).trans (teq hc91_108).1) (by decide) (by decide) ?_
            show Steps p.tables e below (T113.setTop (mkF m 143 #[.val (.int mask), .val (.int t1), .val (.int t2), .val (.int t3), .val (.int f1), .val (.int f2), .val (.int f3), .val (.ref b22), .val (.int (0 : Int32)), .val (.int (1 : Int32)), .val (.ref y103), .val (.ref nt), .unset, .unset] [])) _
            refine XS.iload X113.here hx rfl (hb hby at_143) rfl ?_
            show Steps p.tables e below (T113.setTop (mkF m 145 #[.val (.int mask), .val (.int t1), .val (.int t2), .val (.int t3), .val (.int f1), .val (.int f2), .val (.int f3), .val (.ref b22), .val (.int (0 : Int32)), .val (.int (1 : Int32)), .val (.ref y103), .val (.ref nt), .unset, .unset] [(.int f1)])) _
            refine XS.ifNo X113.here hx rfl (hb hby at_145) rfl ((if0 _ _).trans (feq hc65_34).1) ?_
            show Steps p.tables e below (T113.setTop (mkF m 148 #[.val (.int mask), .val (.int t1), .val (.int t2), .val (.int t3), .val (.int f1), .val (.int f2), .val (.int f3), .val (.ref b22), .val (.int (0 : Int32)), .val (.int (1 : Int32)), .val (.ref y103), .val (.ref nt), .unset, .unset] [])) _
            refine XS.aload X113.here hx rfl (hb hby at_148) rfl rfl ?_
            show Steps p.tables e below (T113.setTop (mkF m 150 #[.val (.int mask), .val (.int t1), .val (.int t2), .val (.int t3), .val (.int f1), .val (.int f2), .val (.int f3), .val (.ref b22), .val (.int (0 : Int32)), .val (.int (1 : Int32)), .val (.ref y103), .val (.ref nt), .unset, .unset] [(.ref y103)])) _
            refine XS.iconst X113.here hx rfl (hb hby at_150) ?_
            show Steps p.tables e below (T113.setTop (mkF m 151 #[.val (.int mask), .val (.int t1), .val (.int t2), .val (.int t3), .val (.int f1), .val (.int f2), .val (.int f3), .val (.ref b22), .val (.int (0 : Int32)), .val (.int (1 : Int32)), .val (.ref y103), .val (.ref nt), .unset, .unset] [(.int (1 : Int32)), (.ref y103)])) _
            refine XS.iloadN X113.here hx rfl (hb hby at_151) rfl ?_
            show Steps p.tables e below (T113.setTop (mkF m 152 #[.val (.int mask), .val (.int t1), .val (.int t2), .val (.int t3), .val (.int f1), .val (.int f2), .val (.int f3), .val (.ref b22), .val (.int (0 : Int32)), .val (.int (1 : Int32)), .val (.ref y103), .val (.ref nt), .unset, .unset] [(.int t1), (.int (1 : Int32)), (.ref y103)])) _
            refine XS.iconst X113.here hx rfl (hb hby at_152) ?_
            exact kt)
        obtain ⟨_, _, ⟨T116, L116, k116, n116⟩, -, X116, ⟨Lc116, hQ116, l116, y116, z116⟩, st116⟩ := Jvm.LawKit.callS X113 hx (y := (⟨"com/example/unicept/unicept/WordTrieTagsPinLaw", "same", "([IIII)Z"⟩ : MethodName)) hown (mvT hZ (hw _ (List.mem_of_getElem? (i := 49) rfl))) (mvT hZ (hw _ (List.mem_of_getElem? (i := 50) rfl))) (mvT hZ (hw _ (List.mem_of_getElem? (i := 51) rfl))) (mvT hZ (hw _ (List.mem_of_getElem? (i := 52) rfl))) (by decide) (backOf (W := 0) (own_same1 l Z a0 hw [] y103 ky103 t1 (0 : Int32) T103.heap n0 (Nat.le_trans (Nat.le_trans (Nat.le_trans (Nat.le_trans (Nat.le_trans Z0 E22.1) K25q.1) K28q.1) K31q.1) K103q.1) Vy103) hZ (hw _ (List.mem_of_getElem? (i := 52) rfl)) (hw _ (List.mem_of_getElem? (i := 51) rfl)) (by decide) (by decide)) (g := (mkF m 153 #[.val (.int mask), .val (.int t1), .val (.int t2), .val (.int t3), .val (.int f1), .val (.int f2), .val (.int f3), .val (.ref b22), .val (.int (0 : Int32)), .val (.int (1 : Int32)), .val (.ref y103), .val (.ref nt), .unset, .unset] [(.int (0 : Int32)), (.int t1), (.int (1 : Int32)), (.ref y103)])) rfl (by rw [hml]; rfl) (argsL := [(.ref y103), (.int (1 : Int32)), (.int t1), (.int (0 : Int32))]) (rest := []) (lenOf own_pd7 rfl) rfl (by show 2 * 0 + _ ≤ _; exact Nat.le_of_eq rfl) (hb hby at_153) (fun _ _ => ⟨rfl, e113, (by decide : 5 + 0 ≤ _), (by decide : 166 + 0 ≤ _)⟩)
        dsimp only [Pt.U, Pt.locs, Pt.cells, Pt.slots] at X116 l116 y116 z116 st116 hQ116
        subst l116 y116 z116
        obtain ⟨rfl, N116q, e116⟩ := hQ116
        have N116 := Fr.app N113 N116q
        have pre117 : Goes p e below s₁ (entryFrame m #[(.int mask), (.int t1), (.int t2), (.int t3)] maxLocals) T116 (mkF m 156 #[.val (.int mask), .val (.int t1), .val (.int t2), .val (.int t3), .val (.int f1), .val (.int f2), .val (.int f3), .val (.ref b22), .val (.int (0 : Int32)), .val (.int (1 : Int32)), .val (.ref y103), .val (.ref nt), .unset, .unset] [(.int (1 : Int32))]) := fun t kt => pre115 t (st116 t kt)
        have pre118 : Goes p e below s₁ (entryFrame m #[(.int mask), (.int t1), (.int t2), (.int t3)] maxLocals) T116 (mkF m 212 #[.val (.int mask), .val (.int t1), .val (.int t2), .val (.int t3), .val (.int f1), .val (.int f2), .val (.int f3), .val (.ref b22), .val (.int (0 : Int32)), .val (.int (1 : Int32)), .val (.ref y103), .val (.ref nt), .val (.int (1 : Int32)), .unset] [(.int (0 : Int32)), (.int (0 : Int32)), (.int (0 : Int32)), (.ref nt)]) := fun t kt => pre117 t (by
            show Steps p.tables e below (T116.setTop (mkF m 156 #[.val (.int mask), .val (.int t1), .val (.int t2), .val (.int t3), .val (.int f1), .val (.int f2), .val (.int f3), .val (.ref b22), .val (.int (0 : Int32)), .val (.int (1 : Int32)), .val (.ref y103), .val (.ref nt), .unset, .unset] [(.int (1 : Int32))])) _
            refine XS.istore X116.here hx rfl (hb hby at_156) rfl (l' := #[.val (.int mask), .val (.int t1), .val (.int t2), .val (.int t3), .val (.int f1), .val (.int f2), .val (.int f3), .val (.ref b22), .val (.int (0 : Int32)), .val (.int (1 : Int32)), .val (.ref y103), .val (.ref nt), .val (.int (1 : Int32)), .unset]) rfl ?_
            show Steps p.tables e below (T116.setTop (mkF m 158 #[.val (.int mask), .val (.int t1), .val (.int t2), .val (.int t3), .val (.int f1), .val (.int f2), .val (.int f3), .val (.ref b22), .val (.int (0 : Int32)), .val (.int (1 : Int32)), .val (.ref y103), .val (.ref nt), .val (.int (1 : Int32)), .unset] [])) _
            refine XS.goto X116.here hx rfl (pc0 := 158) (pc' := 189) rfl (hb hby at_158) (by decide) (by decide) ?_
            show Steps p.tables e below (T116.setTop (mkF m 189 #[.val (.int mask), .val (.int t1), .val (.int t2), .val (.int t3), .val (.int f1), .val (.int f2), .val (.int f3), .val (.ref b22), .val (.int (0 : Int32)), .val (.int (1 : Int32)), .val (.ref y103), .val (.ref nt), .val (.int (1 : Int32)), .unset] [])) _
            refine XS.iload X116.here hx rfl (hb hby at_189) rfl ?_
            show Steps p.tables e below (T116.setTop (mkF m 191 #[.val (.int mask), .val (.int t1), .val (.int t2), .val (.int t3), .val (.int f1), .val (.int f2), .val (.int f3), .val (.ref b22), .val (.int (0 : Int32)), .val (.int (1 : Int32)), .val (.ref y103), .val (.ref nt), .val (.int (1 : Int32)), .unset] [(.int f2)])) _
            refine XS.ifYes X116.here hx rfl (pc0 := 191) (pc' := 207) rfl (hb hby at_191) rfl ((if0 _ _).trans (teq hc78_106).1) (by decide) (by decide) ?_
            show Steps p.tables e below (T116.setTop (mkF m 207 #[.val (.int mask), .val (.int t1), .val (.int t2), .val (.int t3), .val (.int f1), .val (.int f2), .val (.int f3), .val (.ref b22), .val (.int (0 : Int32)), .val (.int (1 : Int32)), .val (.ref y103), .val (.ref nt), .val (.int (1 : Int32)), .unset] [])) _
            refine XS.aload X116.here hx rfl (hb hby at_207) rfl rfl ?_
            show Steps p.tables e below (T116.setTop (mkF m 209 #[.val (.int mask), .val (.int t1), .val (.int t2), .val (.int t3), .val (.int f1), .val (.int f2), .val (.int f3), .val (.ref b22), .val (.int (0 : Int32)), .val (.int (1 : Int32)), .val (.ref y103), .val (.ref nt), .val (.int (1 : Int32)), .unset] [(.ref nt)])) _
            refine XS.iconst X116.here hx rfl (hb hby at_209) ?_
            show Steps p.tables e below (T116.setTop (mkF m 210 #[.val (.int mask), .val (.int t1), .val (.int t2), .val (.int t3), .val (.int f1), .val (.int f2), .val (.int f3), .val (.ref b22), .val (.int (0 : Int32)), .val (.int (1 : Int32)), .val (.ref y103), .val (.ref nt), .val (.int (1 : Int32)), .unset] [(.int (0 : Int32)), (.ref nt)])) _
            refine XS.iconst X116.here hx rfl (hb hby at_210) ?_
            show Steps p.tables e below (T116.setTop (mkF m 211 #[.val (.int mask), .val (.int t1), .val (.int t2), .val (.int t3), .val (.int f1), .val (.int f2), .val (.int f3), .val (.ref b22), .val (.int (0 : Int32)), .val (.int (1 : Int32)), .val (.ref y103), .val (.ref nt), .val (.int (1 : Int32)), .unset] [(.int (0 : Int32)), (.int (0 : Int32)), (.ref nt)])) _
            refine XS.iconst X116.here hx rfl (hb hby at_211) ?_
            exact kt)
        obtain ⟨_, _, ⟨T119, L119, k119, n119⟩, -, X119, ⟨Lc119, hQ119, l119, y119, z119⟩, st119⟩ := Jvm.LawKit.callS X116 hx (y := (⟨"com/example/unicept/unicept/WordTrieTagsPinLaw", "same", "([IIII)Z"⟩ : MethodName)) hown (mvT hZ (hw _ (List.mem_of_getElem? (i := 49) rfl))) (mvT hZ (hw _ (List.mem_of_getElem? (i := 50) rfl))) (mvT hZ (hw _ (List.mem_of_getElem? (i := 51) rfl))) (mvT hZ (hw _ (List.mem_of_getElem? (i := 52) rfl))) (by decide) (backOf (W := 0) (own_same0 l Z a0 hw [] nt kn (0 : Int32) (0 : Int32) T103.heap n0 (Nat.le_trans (Nat.le_trans (Nat.le_trans (Nat.le_trans (Nat.le_trans Z0 E22.1) K25q.1) K28q.1) K31q.1) K103q.1) (((((V_nt.ext E22).keep K25q (ninS (Nat.ne_of_lt (Nat.lt_of_lt_of_le V_nt.lt (Nat.le_of_eq g22.symm))) nin0)).keep K28q (ninS (Nat.ne_of_lt (Nat.lt_of_lt_of_le V_nt.lt (Nat.le_of_eq g22.symm))) (ninS (Nat.ne_of_lt (Nat.lt_of_lt_of_le (V_nt.ext E22).lt z1)) (ninS (Nat.ne_of_lt (Nat.lt_of_lt_of_le (V_nt.ext E22).lt z2)) nin0)))).keep K31q (ninS (Nat.ne_of_lt (Nat.lt_of_lt_of_le V_nt.lt (Nat.le_of_eq g22.symm))) (ninS (Nat.ne_of_lt (Nat.lt_of_lt_of_le (V_nt.ext E22).lt z1)) (ninS (Nat.ne_of_lt (Nat.lt_of_lt_of_le (V_nt.ext E22).lt z2)) nin0)))).keep K103q (ninS (Nat.ne_of_lt (Nat.lt_of_lt_of_le (V_nt.ext E22).lt z3)) nin0))) hZ (hw _ (List.mem_of_getElem? (i := 52) rfl)) (hw _ (List.mem_of_getElem? (i := 51) rfl)) (by decide) (by decide)) (g := (mkF m 212 #[.val (.int mask), .val (.int t1), .val (.int t2), .val (.int t3), .val (.int f1), .val (.int f2), .val (.int f3), .val (.ref b22), .val (.int (0 : Int32)), .val (.int (1 : Int32)), .val (.ref y103), .val (.ref nt), .val (.int (1 : Int32)), .unset] [(.int (0 : Int32)), (.int (0 : Int32)), (.int (0 : Int32)), (.ref nt)])) rfl (by rw [hml]; rfl) (argsL := [(.ref nt), (.int (0 : Int32)), (.int (0 : Int32)), (.int (0 : Int32))]) (rest := []) (lenOf own_pd7 rfl) rfl (by show 2 * 0 + _ ≤ _; exact Nat.le_of_eq rfl) (hb hby at_212) (fun _ _ => ⟨rfl, e116, (by decide : 5 + 0 ≤ _), (by decide : 166 + 0 ≤ _)⟩)
        dsimp only [Pt.U, Pt.locs, Pt.cells, Pt.slots] at X119 l119 y119 z119 st119 hQ119
        subst l119 y119 z119
        obtain ⟨rfl, N119q, e119⟩ := hQ119
        have N119 := Fr.app N116 N119q
        have pre120 : Goes p e below s₁ (entryFrame m #[(.int mask), (.int t1), (.int t2), (.int t3)] maxLocals) T119 (mkF m 215 #[.val (.int mask), .val (.int t1), .val (.int t2), .val (.int t3), .val (.int f1), .val (.int f2), .val (.int f3), .val (.ref b22), .val (.int (0 : Int32)), .val (.int (1 : Int32)), .val (.ref y103), .val (.ref nt), .val (.int (1 : Int32)), .unset] [(.int (1 : Int32))]) := fun t kt => pre118 t (st119 t kt)
        have pre121 : Goes p e below s₁ (entryFrame m #[(.int mask), (.int t1), (.int t2), (.int t3)] maxLocals) T119 (mkF m 232 #[.val (.int mask), .val (.int t1), .val (.int t2), .val (.int t3), .val (.int f1), .val (.int f2), .val (.int f3), .val (.ref b22), .val (.int (0 : Int32)), .val (.int (1 : Int32)), .val (.ref y103), .val (.ref nt), .val (.int (1 : Int32)), .val (.int (1 : Int32))] [(.int (1 : Int32))]) := fun t kt => pre120 t (by
            show Steps p.tables e below (T119.setTop (mkF m 215 #[.val (.int mask), .val (.int t1), .val (.int t2), .val (.int t3), .val (.int f1), .val (.int f2), .val (.int f3), .val (.ref b22), .val (.int (0 : Int32)), .val (.int (1 : Int32)), .val (.ref y103), .val (.ref nt), .val (.int (1 : Int32)), .unset] [(.int (1 : Int32))])) _
            refine XS.istore X119.here hx rfl (hb hby at_215) rfl (l' := #[.val (.int mask), .val (.int t1), .val (.int t2), .val (.int t3), .val (.int f1), .val (.int f2), .val (.int f3), .val (.ref b22), .val (.int (0 : Int32)), .val (.int (1 : Int32)), .val (.ref y103), .val (.ref nt), .val (.int (1 : Int32)), .val (.int (1 : Int32))]) rfl ?_
            show Steps p.tables e below (T119.setTop (mkF m 217 #[.val (.int mask), .val (.int t1), .val (.int t2), .val (.int t3), .val (.int f1), .val (.int f2), .val (.int f3), .val (.ref b22), .val (.int (0 : Int32)), .val (.int (1 : Int32)), .val (.ref y103), .val (.ref nt), .val (.int (1 : Int32)), .val (.int (1 : Int32))] [])) _
            refine XS.iload X119.here hx rfl (hb hby at_217) rfl ?_
            show Steps p.tables e below (T119.setTop (mkF m 219 #[.val (.int mask), .val (.int t1), .val (.int t2), .val (.int t3), .val (.int f1), .val (.int f2), .val (.int f3), .val (.ref b22), .val (.int (0 : Int32)), .val (.int (1 : Int32)), .val (.ref y103), .val (.ref nt), .val (.int (1 : Int32)), .val (.int (1 : Int32))] [(.int (1 : Int32))])) _
            refine XS.ifNo X119.here hx rfl (hb hby at_219) rfl ((if0 _ _).trans (feq (by decide : ¬ ((1 : Int32) = (0 : Int32)))).1) ?_
            show Steps p.tables e below (T119.setTop (mkF m 222 #[.val (.int mask), .val (.int t1), .val (.int t2), .val (.int t3), .val (.int f1), .val (.int f2), .val (.int f3), .val (.ref b22), .val (.int (0 : Int32)), .val (.int (1 : Int32)), .val (.ref y103), .val (.ref nt), .val (.int (1 : Int32)), .val (.int (1 : Int32))] [])) _
            refine XS.iload X119.here hx rfl (hb hby at_222) rfl ?_
            show Steps p.tables e below (T119.setTop (mkF m 224 #[.val (.int mask), .val (.int t1), .val (.int t2), .val (.int t3), .val (.int f1), .val (.int f2), .val (.int f3), .val (.ref b22), .val (.int (0 : Int32)), .val (.int (1 : Int32)), .val (.ref y103), .val (.ref nt), .val (.int (1 : Int32)), .val (.int (1 : Int32))] [(.int (1 : Int32))])) _
            refine XS.ifNo X119.here hx rfl (hb hby at_224) rfl ((if0 _ _).trans (feq (by decide : ¬ ((1 : Int32) = (0 : Int32)))).1) ?_
            show Steps p.tables e below (T119.setTop (mkF m 227 #[.val (.int mask), .val (.int t1), .val (.int t2), .val (.int t3), .val (.int f1), .val (.int f2), .val (.int f3), .val (.ref b22), .val (.int (0 : Int32)), .val (.int (1 : Int32)), .val (.ref y103), .val (.ref nt), .val (.int (1 : Int32)), .val (.int (1 : Int32))] [])) _
            refine XS.iconst X119.here hx rfl (hb hby at_227) ?_
            show Steps p.tables e below (T119.setTop (mkF m 228 #[.val (.int mask), .val (.int t1), .val (.int t2), .val (.int t3), .val (.int f1), .val (.int f2), .val (.int f3), .val (.ref b22), .val (.int (0 : Int32)), .val (.int (1 : Int32)), .val (.ref y103), .val (.ref nt), .val (.int (1 : Int32)), .val (.int (1 : Int32))] [(.int (1 : Int32))])) _
            refine XS.goto X119.here hx rfl (pc0 := 228) (pc' := 232) rfl (hb hby at_228) (by decide) (by decide) ?_
            exact kt)
        obtain ⟨fs, hr, hrun, hended, hW, hsame⟩ := X119.leave (v := some (.int (1 : Int32))) (fun h => by rw [Bd.returns] at h; cases h)
        refine ⟨_, _, pre121 _ ?_, hrun, hended, _, _, rfl, ?_, ⟨_, rfl⟩, hW, hsame.mono (by decide) (by decide)⟩
        · show Steps p.tables e below (T119.setTop (mkF m 232 #[.val (.int mask), .val (.int t1), .val (.int t2), .val (.int t3), .val (.int f1), .val (.int f2), .val (.int f3), .val (.ref b22), .val (.int (0 : Int32)), .val (.int (1 : Int32)), .val (.ref y103), .val (.ref nt), .val (.int (1 : Int32)), .val (.int (1 : Int32))] [(.int (1 : Int32))])) _
          exact retN X119 hx (t := .boolean) Bd.returns (by simp) (hb hby at_232) hr
        · show Q_own_rm0 Z mask t1 t2 t3 nt kn h0 n0 _ T119.heap _
          rw [e119]
          exact ⟨rfl, N119⟩
      · -- no at pc 91: ft
        have pre122 : Goes p e below s₁ (entryFrame m #[(.int mask), (.int t1), (.int t2), (.int t3)] maxLocals) T103 (mkF m 99 #[.val (.int mask), .val (.int t1), .val (.int t2), .val (.int t3), .val (.int f1), .val (.int f2), .val (.int f3), .val (.ref b22), .val (.int (0 : Int32)), .val (.int (1 : Int32)), .unset, .unset, .unset, .unset] [(.int t3), (.int (0 : Int32)), (.ref b22)]) := fun t kt => pre107 t (by
            show Steps p.tables e below (T103.setTop (mkF m 91 #[.val (.int mask), .val (.int t1), .val (.int t2), .val (.int t3), .val (.int f1), .val (.int f2), .val (.int f3), .val (.ref b22), .val (.int (0 : Int32)), .val (.int (1 : Int32)), .unset, .unset, .unset, .unset] [(.int f3)])) _
            refine XS.ifNo X103.here hx rfl (hb hby at_91) rfl ((if0 _ _).trans (feq hc91_108).1) ?_
            show Steps p.tables e below (T103.setTop (mkF m 94 #[.val (.int mask), .val (.int t1), .val (.int t2), .val (.int t3), .val (.int f1), .val (.int f2), .val (.int f3), .val (.ref b22), .val (.int (0 : Int32)), .val (.int (1 : Int32)), .unset, .unset, .unset, .unset] [])) _
            refine XS.aload X103.here hx rfl (hb hby at_94) rfl rfl ?_
            show Steps p.tables e below (T103.setTop (mkF m 96 #[.val (.int mask), .val (.int t1), .val (.int t2), .val (.int t3), .val (.int f1), .val (.int f2), .val (.int f3), .val (.ref b22), .val (.int (0 : Int32)), .val (.int (1 : Int32)), .unset, .unset, .unset, .unset] [(.ref b22)])) _
            refine XS.iload X103.here hx rfl (hb hby at_96) rfl ?_
            show Steps p.tables e below (T103.setTop (mkF m 98 #[.val (.int mask), .val (.int t1), .val (.int t2), .val (.int t3), .val (.int f1), .val (.int f2), .val (.int f3), .val (.ref b22), .val (.int (0 : Int32)), .val (.int (1 : Int32)), .unset, .unset, .unset, .unset] [(.int (0 : Int32)), (.ref b22)])) _
            refine XS.iloadN X103.here hx rfl (hb hby at_98) rfl ?_
            exact kt)
        obtain ⟨cq123, kq123, q123a, q123b, q123c⟩ := isOf hZ rfl hT103.1
        obtain ⟨_, _, ⟨T123, L123, k123, n123⟩, -, X123, ⟨Lc123, hQ123, l123, y123, z123⟩, st123⟩ := X103.virtualBack hx (y := (⟨"com/example/unicept/unicept/WordTrie", "tag", "(II)V"⟩ : MethodName)) (z := (⟨"com/example/unicept/unicept/WordTrie", "tag", "(II)V"⟩ : MethodName)) hown (mvT hZ (hw _ (List.mem_of_getElem? (i := 53) rfl))) (mvT hZ (hw _ (List.mem_of_getElem? (i := 54) rfl))) (notFace_of_selects (args := #[]) (mvT hZ (hw _ (List.mem_of_getElem? (i := 56) rfl)))) (mvT hZ (hw _ (List.mem_of_getElem? (i := 56) rfl))) (mvT hZ (hw _ (List.mem_of_getElem? (i := 55) rfl))) (by decide) (backOf (W := 0) (own_tag1 l Z a0 hw [] b22 1 2 ch (own_fl (own_fl (fun _ => 0) (0 * 1) (0 * 1 + 1) (-1)) (1 * 1) (1 * 1 + 1) (-1)) rt (own_up (own_up (fun _ => 0) 0 (Int32.ofNat 0)) 1 (Int32.ofNat 1)) tg kt ((List.replicate 16 .null).set 0 (.ref y103)) (0 : Int32) t3 y103 ky103 t1 T103.heap n0 (Nat.le_trans (Nat.le_trans (Nat.le_trans (Nat.le_trans (Nat.le_trans Z0 E22.1) K25q.1) K28q.1) K31q.1) K103q.1) hT103 Ov (by decide) (by simp) rfl Vy103) hZ (hw _ (List.mem_of_getElem? (i := 57) rfl)) (hw _ (List.mem_of_getElem? (i := 2) rfl)) (by decide) (by decide)) q123a q123c (g := (mkF m 99 #[.val (.int mask), .val (.int t1), .val (.int t2), .val (.int t3), .val (.int f1), .val (.int f2), .val (.int f3), .val (.ref b22), .val (.int (0 : Int32)), .val (.int (1 : Int32)), .unset, .unset, .unset, .unset] [(.int t3), (.int (0 : Int32)), (.ref b22)])) rfl (by rw [hml]; rfl) (Steps.refl _) (argsL := [(.int (0 : Int32)), (.int t3)]) (rest := []) (lenOf own_pd8 rfl) rfl (by show 2 * 0 + _ ≤ _; exact Nat.le_of_eq rfl) (hb hby at_99) (fun _ _ => ⟨rfl, rfl, (by decide : 5 + 1 ≤ _), (by decide : 166 + 2 ≤ _)⟩)
        dsimp only [Pt.U, Pt.locs, Pt.cells, Pt.slots] at X123 l123 y123 z123 st123 hQ123
        subst l123 y123 z123
        obtain ⟨rfl, N123q, K123q, y123, ky123, zy123, gy123, ny123, Vy123, hT123⟩ := hQ123
        have N123 := Fr.app N103 N123q
        have KC123 : Keep h0 T123.heap [] := KC103.trans K123q (allS (Or.inr sz_tg) all0)
        have pre124 : Goes p e below s₁ (entryFrame m #[(.int mask), (.int t1), (.int t2), (.int t3)] maxLocals) T123 (mkF m 102 #[.val (.int mask), .val (.int t1), .val (.int t2), .val (.int t3), .val (.int f1), .val (.int f2), .val (.int f3), .val (.ref b22), .val (.int (0 : Int32)), .val (.int (1 : Int32)), .unset, .unset, .unset, .unset] []) := fun t kt => pre122 t (st123.trans kt)
        have pre125 : Goes p e below s₁ (entryFrame m #[(.int mask), (.int t1), (.int t2), (.int t3)] maxLocals) T123 (mkF m 106 #[.val (.int mask), .val (.int t1), .val (.int t2), .val (.int t3), .val (.int f1), .val (.int f2), .val (.int f3), .val (.ref b22), .val (.int (0 : Int32)), .val (.int (1 : Int32)), .unset, .unset, .unset, .unset] [(.int (0 : Int32)), (.ref b22)]) := fun t kt => pre124 t (by
            show Steps p.tables e below (T123.setTop (mkF m 102 #[.val (.int mask), .val (.int t1), .val (.int t2), .val (.int t3), .val (.int f1), .val (.int f2), .val (.int f3), .val (.ref b22), .val (.int (0 : Int32)), .val (.int (1 : Int32)), .unset, .unset, .unset, .unset] [])) _
            refine XS.aload X123.here hx rfl (hb hby at_102) rfl rfl ?_
            show Steps p.tables e below (T123.setTop (mkF m 104 #[.val (.int mask), .val (.int t1), .val (.int t2), .val (.int t3), .val (.int f1), .val (.int f2), .val (.int f3), .val (.ref b22), .val (.int (0 : Int32)), .val (.int (1 : Int32)), .unset, .unset, .unset, .unset] [(.ref b22)])) _
            refine XS.iload X123.here hx rfl (hb hby at_104) rfl ?_
            exact kt)
        obtain ⟨cq126, kq126, q126a, q126b, q126c⟩ := isOf hZ rfl hT123.1
        obtain ⟨_, _, ⟨T126, L126, k126, n126⟩, -, X126, ⟨Lc126, hQ126, l126, y126, z126⟩, st126⟩ := X123.virtualBack hx (y := (⟨"com/example/unicept/unicept/WordTrie", "tags", "(I)[I"⟩ : MethodName)) (z := (⟨"com/example/unicept/unicept/WordTrie", "tags", "(I)[I"⟩ : MethodName)) hown (mvT hZ (hw _ (List.mem_of_getElem? (i := 42) rfl))) (mvT hZ (hw _ (List.mem_of_getElem? (i := 43) rfl))) (notFace_of_selects (args := #[]) (mvT hZ (hw _ (List.mem_of_getElem? (i := 45) rfl)))) (mvT hZ (hw _ (List.mem_of_getElem? (i := 45) rfl))) (mvT hZ (hw _ (List.mem_of_getElem? (i := 44) rfl))) (by decide) (backOf (W := 0) (own_tags1 l Z a0 hw [] b22 1 2 ch (own_fl (own_fl (fun _ => 0) (0 * 1) (0 * 1 + 1) (-1)) (1 * 1) (1 * 1 + 1) (-1)) rt (own_up (own_up (fun _ => 0) 0 (Int32.ofNat 0)) 1 (Int32.ofNat 1)) tg kt (((List.replicate 16 .null).set 0 (.ref y103)).set 0 (.ref y123)) (0 : Int32) y123 T123.heap n0 (Nat.le_trans (Nat.le_trans (Nat.le_trans (Nat.le_trans (Nat.le_trans (Nat.le_trans Z0 E22.1) K25q.1) K28q.1) K31q.1) K103q.1) K123q.1) hT123 (by decide) rfl) hZ (hw _ (List.mem_of_getElem? (i := 46) rfl)) (hw _ (List.mem_of_getElem? (i := 2) rfl)) (by decide) (by decide)) q126a q126c (g := (mkF m 106 #[.val (.int mask), .val (.int t1), .val (.int t2), .val (.int t3), .val (.int f1), .val (.int f2), .val (.int f3), .val (.ref b22), .val (.int (0 : Int32)), .val (.int (1 : Int32)), .unset, .unset, .unset, .unset] [(.int (0 : Int32)), (.ref b22)])) rfl (by rw [hml]; rfl) (Steps.refl _) (argsL := [(.int (0 : Int32))]) (rest := []) (lenOf own_pd6 rfl) rfl (by show 2 * 0 + _ ≤ _; exact Nat.le_of_eq rfl) (hb hby at_106) (fun _ _ => ⟨rfl, rfl, (by decide : 6 + 0 ≤ _), (by decide : 168 + 0 ≤ _)⟩)
        dsimp only [Pt.U, Pt.locs, Pt.cells, Pt.slots] at X126 l126 y126 z126 st126 hQ126
        subst l126 y126 z126
        obtain ⟨rfl, N126q, e126⟩ := hQ126
        have N126 := Fr.app N123 N126q
        have pre127 : Goes p e below s₁ (entryFrame m #[(.int mask), (.int t1), (.int t2), (.int t3)] maxLocals) T126 (mkF m 109 #[.val (.int mask), .val (.int t1), .val (.int t2), .val (.int t3), .val (.int f1), .val (.int f2), .val (.int f3), .val (.ref b22), .val (.int (0 : Int32)), .val (.int (1 : Int32)), .unset, .unset, .unset, .unset] [(.ref y123)]) := fun t kt => pre125 t (st126.trans kt)
        have pre128 : Goes p e below s₁ (entryFrame m #[(.int mask), (.int t1), (.int t2), (.int t3)] maxLocals) T126 (mkF m 115 #[.val (.int mask), .val (.int t1), .val (.int t2), .val (.int t3), .val (.int f1), .val (.int f2), .val (.int f3), .val (.ref b22), .val (.int (0 : Int32)), .val (.int (1 : Int32)), .val (.ref y123), .unset, .unset, .unset] [(.int (1 : Int32)), (.ref b22)]) := fun t kt => pre127 t (by
            show Steps p.tables e below (T126.setTop (mkF m 109 #[.val (.int mask), .val (.int t1), .val (.int t2), .val (.int t3), .val (.int f1), .val (.int f2), .val (.int f3), .val (.ref b22), .val (.int (0 : Int32)), .val (.int (1 : Int32)), .unset, .unset, .unset, .unset] [(.ref y123)])) _
            refine XS.astore X126.here hx rfl (hb hby at_109) rfl rfl (l' := #[.val (.int mask), .val (.int t1), .val (.int t2), .val (.int t3), .val (.int f1), .val (.int f2), .val (.int f3), .val (.ref b22), .val (.int (0 : Int32)), .val (.int (1 : Int32)), .val (.ref y123), .unset, .unset, .unset]) rfl ?_
            show Steps p.tables e below (T126.setTop (mkF m 111 #[.val (.int mask), .val (.int t1), .val (.int t2), .val (.int t3), .val (.int f1), .val (.int f2), .val (.int f3), .val (.ref b22), .val (.int (0 : Int32)), .val (.int (1 : Int32)), .val (.ref y123), .unset, .unset, .unset] [])) _
            refine XS.aload X126.here hx rfl (hb hby at_111) rfl rfl ?_
            show Steps p.tables e below (T126.setTop (mkF m 113 #[.val (.int mask), .val (.int t1), .val (.int t2), .val (.int t3), .val (.int f1), .val (.int f2), .val (.int f3), .val (.ref b22), .val (.int (0 : Int32)), .val (.int (1 : Int32)), .val (.ref y123), .unset, .unset, .unset] [(.ref b22)])) _
            refine XS.iload X126.here hx rfl (hb hby at_113) rfl ?_
            exact kt)
        obtain ⟨cq129, kq129, q129a, q129b, q129c⟩ := isOf hZ e126 hT123.1
        obtain ⟨_, _, ⟨T129, L129, k129, n129⟩, -, X129, ⟨Lc129, hQ129, l129, y129, z129⟩, st129⟩ := X126.virtualBack hx (y := (⟨"com/example/unicept/unicept/WordTrie", "tags", "(I)[I"⟩ : MethodName)) (z := (⟨"com/example/unicept/unicept/WordTrie", "tags", "(I)[I"⟩ : MethodName)) hown (mvT hZ (hw _ (List.mem_of_getElem? (i := 42) rfl))) (mvT hZ (hw _ (List.mem_of_getElem? (i := 43) rfl))) (notFace_of_selects (args := #[]) (mvT hZ (hw _ (List.mem_of_getElem? (i := 45) rfl)))) (mvT hZ (hw _ (List.mem_of_getElem? (i := 45) rfl))) (mvT hZ (hw _ (List.mem_of_getElem? (i := 44) rfl))) (by decide) (backOf (W := 0) (own_tags0 l Z a0 hw [] b22 1 2 ch (own_fl (own_fl (fun _ => 0) (0 * 1) (0 * 1 + 1) (-1)) (1 * 1) (1 * 1 + 1) (-1)) rt (own_up (own_up (fun _ => 0) 0 (Int32.ofNat 0)) 1 (Int32.ofNat 1)) tg kt (((List.replicate 16 .null).set 0 (.ref y103)).set 0 (.ref y123)) (1 : Int32) nt T123.heap n0 (Nat.le_trans (Nat.le_trans (Nat.le_trans (Nat.le_trans (Nat.le_trans (Nat.le_trans Z0 E22.1) K25q.1) K28q.1) K31q.1) K103q.1) K123q.1) hT123 (by decide) rfl (S_NT.ext ((((((O0.ext E22).keep K25q (allS g_b22 all0)).keep K28q (allS g_b22 (allS g_ch (allS g_rt all0)))).keep K31q (allS g_b22 (allS g_ch (allS g_rt all0)))).keep K103q (allS g_tg all0)).keep K123q (allS g_tg all0)).2)) hZ (hw _ (List.mem_of_getElem? (i := 46) rfl)) (hw _ (List.mem_of_getElem? (i := 2) rfl)) (by decide) (by decide)) q129a q129c (g := (mkF m 115 #[.val (.int mask), .val (.int t1), .val (.int t2), .val (.int t3), .val (.int f1), .val (.int f2), .val (.int f3), .val (.ref b22), .val (.int (0 : Int32)), .val (.int (1 : Int32)), .val (.ref y123), .unset, .unset, .unset] [(.int (1 : Int32)), (.ref b22)])) rfl (by rw [hml]; rfl) (Steps.refl _) (argsL := [(.int (1 : Int32))]) (rest := []) (lenOf own_pd6 rfl) rfl (by show 2 * 0 + _ ≤ _; exact Nat.le_of_eq rfl) (hb hby at_115) (fun _ _ => ⟨rfl, e126, (by decide : 6 + 0 ≤ _), (by decide : 168 + 0 ≤ _)⟩)
        dsimp only [Pt.U, Pt.locs, Pt.cells, Pt.slots] at X129 l129 y129 z129 st129 hQ129
        subst l129 y129 z129
        obtain ⟨rfl, N129q, e129⟩ := hQ129
        have N129 := Fr.app N126 N129q
        have pre130 : Goes p e below s₁ (entryFrame m #[(.int mask), (.int t1), (.int t2), (.int t3)] maxLocals) T129 (mkF m 118 #[.val (.int mask), .val (.int t1), .val (.int t2), .val (.int t3), .val (.int f1), .val (.int f2), .val (.int f3), .val (.ref b22), .val (.int (0 : Int32)), .val (.int (1 : Int32)), .val (.ref y123), .unset, .unset, .unset] [(.ref nt)]) := fun t kt => pre128 t (st129.trans kt)
        have pre131 : Goes p e below s₁ (entryFrame m #[(.int mask), (.int t1), (.int t2), (.int t3)] maxLocals) T129 (mkF m 135 #[.val (.int mask), .val (.int t1), .val (.int t2), .val (.int t3), .val (.int f1), .val (.int f2), .val (.int f3), .val (.ref b22), .val (.int (0 : Int32)), .val (.int (1 : Int32)), .val (.ref y123), .val (.ref nt), .unset, .unset] [(.int t3), (.int t1), (.int (2 : Int32)), (.ref y123)]) := fun t kt => pre130 t (by
            show Steps p.tables e below (T129.setTop (mkF m 118 #[.val (.int mask), .val (.int t1), .val (.int t2), .val (.int t3), .val (.int f1), .val (.int f2), .val (.int f3), .val (.ref b22), .val (.int (0 : Int32)), .val (.int (1 : Int32)), .val (.ref y123), .unset, .unset, .unset] [(.ref nt)])) _
            refine XS.astore X129.here hx rfl (hb hby at_118) rfl rfl (l' := #[.val (.int mask), .val (.int t1), .val (.int t2), .val (.int t3), .val (.int f1), .val (.int f2), .val (.int f3), .val (.ref b22), .val (.int (0 : Int32)), .val (.int (1 : Int32)), .val (.ref y123), .val (.ref nt), .unset, .unset]) rfl ?_
            show Steps p.tables e below (T129.setTop (mkF m 120 #[.val (.int mask), .val (.int t1), .val (.int t2), .val (.int t3), .val (.int f1), .val (.int f2), .val (.int f3), .val (.ref b22), .val (.int (0 : Int32)), .val (.int (1 : Int32)), .val (.ref y123), .val (.ref nt), .unset, .unset] [])) _
            refine XS.iload X129.here hx rfl (hb hby at_120) rfl ?_
            show Steps p.tables e below (T129.setTop (mkF m 122 #[.val (.int mask), .val (.int t1), .val (.int t2), .val (.int t3), .val (.int f1), .val (.int f2), .val (.int f3), .val (.ref b22), .val (.int (0 : Int32)), .val (.int (1 : Int32)), .val (.ref y123), .val (.ref nt), .unset, .unset] [(.int f1)])) _
            refine XS.ifNo X129.here hx rfl (hb hby at_122) rfl ((if0 _ _).trans (feq hc65_34).1) ?_
            show Steps p.tables e below (T129.setTop (mkF m 125 #[.val (.int mask), .val (.int t1), .val (.int t2), .val (.int t3), .val (.int f1), .val (.int f2), .val (.int f3), .val (.ref b22), .val (.int (0 : Int32)), .val (.int (1 : Int32)), .val (.ref y123), .val (.ref nt), .unset, .unset] [])) _
            refine XS.iload X129.here hx rfl (hb hby at_125) rfl ?_
            show Steps p.tables e below (T129.setTop (mkF m 127 #[.val (.int mask), .val (.int t1), .val (.int t2), .val (.int t3), .val (.int f1), .val (.int f2), .val (.int f3), .val (.ref b22), .val (.int (0 : Int32)), .val (.int (1 : Int32)), .val (.ref y123), .val (.ref nt), .unset, .unset] [(.int f3)])) _
            refine XS.ifNo X129.here hx rfl (hb hby at_127) rfl ((if0 _ _).trans (feq hc91_108).1) ?_
            show Steps p.tables e below (T129.setTop (mkF m 130 #[.val (.int mask), .val (.int t1), .val (.int t2), .val (.int t3), .val (.int f1), .val (.int f2), .val (.int f3), .val (.ref b22), .val (.int (0 : Int32)), .val (.int (1 : Int32)), .val (.ref y123), .val (.ref nt), .unset, .unset] [])) _
            refine XS.aload X129.here hx rfl (hb hby at_130) rfl rfl ?_
            show Steps p.tables e below (T129.setTop (mkF m 132 #[.val (.int mask), .val (.int t1), .val (.int t2), .val (.int t3), .val (.int f1), .val (.int f2), .val (.int f3), .val (.ref b22), .val (.int (0 : Int32)), .val (.int (1 : Int32)), .val (.ref y123), .val (.ref nt), .unset, .unset] [(.ref y123)])) _
            refine XS.iconst X129.here hx rfl (hb hby at_132) ?_
            show Steps p.tables e below (T129.setTop (mkF m 133 #[.val (.int mask), .val (.int t1), .val (.int t2), .val (.int t3), .val (.int f1), .val (.int f2), .val (.int f3), .val (.ref b22), .val (.int (0 : Int32)), .val (.int (1 : Int32)), .val (.ref y123), .val (.ref nt), .unset, .unset] [(.int (2 : Int32)), (.ref y123)])) _
            refine XS.iloadN X129.here hx rfl (hb hby at_133) rfl ?_
            show Steps p.tables e below (T129.setTop (mkF m 134 #[.val (.int mask), .val (.int t1), .val (.int t2), .val (.int t3), .val (.int f1), .val (.int f2), .val (.int f3), .val (.ref b22), .val (.int (0 : Int32)), .val (.int (1 : Int32)), .val (.ref y123), .val (.ref nt), .unset, .unset] [(.int t1), (.int (2 : Int32)), (.ref y123)])) _
            refine XS.iloadN X129.here hx rfl (hb hby at_134) rfl ?_
            exact kt)
        obtain ⟨_, _, ⟨T132, L132, k132, n132⟩, -, X132, ⟨Lc132, hQ132, l132, y132, z132⟩, st132⟩ := Jvm.LawKit.callS X129 hx (y := (⟨"com/example/unicept/unicept/WordTrieTagsPinLaw", "same", "([IIII)Z"⟩ : MethodName)) hown (mvT hZ (hw _ (List.mem_of_getElem? (i := 49) rfl))) (mvT hZ (hw _ (List.mem_of_getElem? (i := 50) rfl))) (mvT hZ (hw _ (List.mem_of_getElem? (i := 51) rfl))) (mvT hZ (hw _ (List.mem_of_getElem? (i := 52) rfl))) (by decide) (backOf (W := 0) (own_same2 l Z a0 hw [] y123 ky123 t1 t3 T123.heap n0 (Nat.le_trans (Nat.le_trans (Nat.le_trans (Nat.le_trans (Nat.le_trans (Nat.le_trans Z0 E22.1) K25q.1) K28q.1) K31q.1) K103q.1) K123q.1) Vy123) hZ (hw _ (List.mem_of_getElem? (i := 52) rfl)) (hw _ (List.mem_of_getElem? (i := 51) rfl)) (by decide) (by decide)) (g := (mkF m 135 #[.val (.int mask), .val (.int t1), .val (.int t2), .val (.int t3), .val (.int f1), .val (.int f2), .val (.int f3), .val (.ref b22), .val (.int (0 : Int32)), .val (.int (1 : Int32)), .val (.ref y123), .val (.ref nt), .unset, .unset] [(.int t3), (.int t1), (.int (2 : Int32)), (.ref y123)])) rfl (by rw [hml]; rfl) (argsL := [(.ref y123), (.int (2 : Int32)), (.int t1), (.int t3)]) (rest := []) (lenOf own_pd7 rfl) rfl (by show 2 * 0 + _ ≤ _; exact Nat.le_of_eq rfl) (hb hby at_135) (fun _ _ => ⟨rfl, e129, (by decide : 6 + 0 ≤ _), (by decide : 168 + 0 ≤ _)⟩)
        dsimp only [Pt.U, Pt.locs, Pt.cells, Pt.slots] at X132 l132 y132 z132 st132 hQ132
        subst l132 y132 z132
        obtain ⟨rfl, N132q, e132⟩ := hQ132
        have N132 := Fr.app N129 N132q
        have pre133 : Goes p e below s₁ (entryFrame m #[(.int mask), (.int t1), (.int t2), (.int t3)] maxLocals) T132 (mkF m 138 #[.val (.int mask), .val (.int t1), .val (.int t2), .val (.int t3), .val (.int f1), .val (.int f2), .val (.int f3), .val (.ref b22), .val (.int (0 : Int32)), .val (.int (1 : Int32)), .val (.ref y123), .val (.ref nt), .unset, .unset] [(.int (1 : Int32))]) := fun t kt => pre131 t (st132 t kt)
        have pre134 : Goes p e below s₁ (entryFrame m #[(.int mask), (.int t1), (.int t2), (.int t3)] maxLocals) T132 (mkF m 212 #[.val (.int mask), .val (.int t1), .val (.int t2), .val (.int t3), .val (.int f1), .val (.int f2), .val (.int f3), .val (.ref b22), .val (.int (0 : Int32)), .val (.int (1 : Int32)), .val (.ref y123), .val (.ref nt), .val (.int (1 : Int32)), .unset] [(.int (0 : Int32)), (.int (0 : Int32)), (.int (0 : Int32)), (.ref nt)]) := fun t kt => pre133 t (by
            show Steps p.tables e below (T132.setTop (mkF m 138 #[.val (.int mask), .val (.int t1), .val (.int t2), .val (.int t3), .val (.int f1), .val (.int f2), .val (.int f3), .val (.ref b22), .val (.int (0 : Int32)), .val (.int (1 : Int32)), .val (.ref y123), .val (.ref nt), .unset, .unset] [(.int (1 : Int32))])) _
            refine XS.istore X132.here hx rfl (hb hby at_138) rfl (l' := #[.val (.int mask), .val (.int t1), .val (.int t2), .val (.int t3), .val (.int f1), .val (.int f2), .val (.int f3), .val (.ref b22), .val (.int (0 : Int32)), .val (.int (1 : Int32)), .val (.ref y123), .val (.ref nt), .val (.int (1 : Int32)), .unset]) rfl ?_
            show Steps p.tables e below (T132.setTop (mkF m 140 #[.val (.int mask), .val (.int t1), .val (.int t2), .val (.int t3), .val (.int f1), .val (.int f2), .val (.int f3), .val (.ref b22), .val (.int (0 : Int32)), .val (.int (1 : Int32)), .val (.ref y123), .val (.ref nt), .val (.int (1 : Int32)), .unset] [])) _
            refine XS.goto X132.here hx rfl (pc0 := 140) (pc' := 189) rfl (hb hby at_140) (by decide) (by decide) ?_
            show Steps p.tables e below (T132.setTop (mkF m 189 #[.val (.int mask), .val (.int t1), .val (.int t2), .val (.int t3), .val (.int f1), .val (.int f2), .val (.int f3), .val (.ref b22), .val (.int (0 : Int32)), .val (.int (1 : Int32)), .val (.ref y123), .val (.ref nt), .val (.int (1 : Int32)), .unset] [])) _
            refine XS.iload X132.here hx rfl (hb hby at_189) rfl ?_
            show Steps p.tables e below (T132.setTop (mkF m 191 #[.val (.int mask), .val (.int t1), .val (.int t2), .val (.int t3), .val (.int f1), .val (.int f2), .val (.int f3), .val (.ref b22), .val (.int (0 : Int32)), .val (.int (1 : Int32)), .val (.ref y123), .val (.ref nt), .val (.int (1 : Int32)), .unset] [(.int f2)])) _
            refine XS.ifYes X132.here hx rfl (pc0 := 191) (pc' := 207) rfl (hb hby at_191) rfl ((if0 _ _).trans (teq hc78_106).1) (by decide) (by decide) ?_
            show Steps p.tables e below (T132.setTop (mkF m 207 #[.val (.int mask), .val (.int t1), .val (.int t2), .val (.int t3), .val (.int f1), .val (.int f2), .val (.int f3), .val (.ref b22), .val (.int (0 : Int32)), .val (.int (1 : Int32)), .val (.ref y123), .val (.ref nt), .val (.int (1 : Int32)), .unset] [])) _
            refine XS.aload X132.here hx rfl (hb hby at_207) rfl rfl ?_
            show Steps p.tables e below (T132.setTop (mkF m 209 #[.val (.int mask), .val (.int t1), .val (.int t2), .val (.int t3), .val (.int f1), .val (.int f2), .val (.int f3), .val (.ref b22), .val (.int (0 : Int32)), .val (.int (1 : Int32)), .val (.ref y123), .val (.ref nt), .val (.int (1 : Int32)), .unset] [(.ref nt)])) _
            refine XS.iconst X132.here hx rfl (hb hby at_209) ?_
            show Steps p.tables e below (T132.setTop (mkF m 210 #[.val (.int mask), .val (.int t1), .val (.int t2), .val (.int t3), .val (.int f1), .val (.int f2), .val (.int f3), .val (.ref b22), .val (.int (0 : Int32)), .val (.int (1 : Int32)), .val (.ref y123), .val (.ref nt), .val (.int (1 : Int32)), .unset] [(.int (0 : Int32)), (.ref nt)])) _
            refine XS.iconst X132.here hx rfl (hb hby at_210) ?_
            show Steps p.tables e below (T132.setTop (mkF m 211 #[.val (.int mask), .val (.int t1), .val (.int t2), .val (.int t3), .val (.int f1), .val (.int f2), .val (.int f3), .val (.ref b22), .val (.int (0 : Int32)), .val (.int (1 : Int32)), .val (.ref y123), .val (.ref nt), .val (.int (1 : Int32)), .unset] [(.int (0 : Int32)), (.int (0 : Int32)), (.ref nt)])) _
            refine XS.iconst X132.here hx rfl (hb hby at_211) ?_
            exact kt)
        obtain ⟨_, _, ⟨T135, L135, k135, n135⟩, -, X135, ⟨Lc135, hQ135, l135, y135, z135⟩, st135⟩ := Jvm.LawKit.callS X132 hx (y := (⟨"com/example/unicept/unicept/WordTrieTagsPinLaw", "same", "([IIII)Z"⟩ : MethodName)) hown (mvT hZ (hw _ (List.mem_of_getElem? (i := 49) rfl))) (mvT hZ (hw _ (List.mem_of_getElem? (i := 50) rfl))) (mvT hZ (hw _ (List.mem_of_getElem? (i := 51) rfl))) (mvT hZ (hw _ (List.mem_of_getElem? (i := 52) rfl))) (by decide) (backOf (W := 0) (own_same0 l Z a0 hw [] nt kn (0 : Int32) (0 : Int32) T123.heap n0 (Nat.le_trans (Nat.le_trans (Nat.le_trans (Nat.le_trans (Nat.le_trans (Nat.le_trans Z0 E22.1) K25q.1) K28q.1) K31q.1) K103q.1) K123q.1) ((((((V_nt.ext E22).keep K25q (ninS (Nat.ne_of_lt (Nat.lt_of_lt_of_le V_nt.lt (Nat.le_of_eq g22.symm))) nin0)).keep K28q (ninS (Nat.ne_of_lt (Nat.lt_of_lt_of_le V_nt.lt (Nat.le_of_eq g22.symm))) (ninS (Nat.ne_of_lt (Nat.lt_of_lt_of_le (V_nt.ext E22).lt z1)) (ninS (Nat.ne_of_lt (Nat.lt_of_lt_of_le (V_nt.ext E22).lt z2)) nin0)))).keep K31q (ninS (Nat.ne_of_lt (Nat.lt_of_lt_of_le V_nt.lt (Nat.le_of_eq g22.symm))) (ninS (Nat.ne_of_lt (Nat.lt_of_lt_of_le (V_nt.ext E22).lt z1)) (ninS (Nat.ne_of_lt (Nat.lt_of_lt_of_le (V_nt.ext E22).lt z2)) nin0)))).keep K103q (ninS (Nat.ne_of_lt (Nat.lt_of_lt_of_le (V_nt.ext E22).lt z3)) nin0)).keep K123q (ninS (Nat.ne_of_lt (Nat.lt_of_lt_of_le (V_nt.ext E22).lt z3)) nin0))) hZ (hw _ (List.mem_of_getElem? (i := 52) rfl)) (hw _ (List.mem_of_getElem? (i := 51) rfl)) (by decide) (by decide)) (g := (mkF m 212 #[.val (.int mask), .val (.int t1), .val (.int t2), .val (.int t3), .val (.int f1), .val (.int f2), .val (.int f3), .val (.ref b22), .val (.int (0 : Int32)), .val (.int (1 : Int32)), .val (.ref y123), .val (.ref nt), .val (.int (1 : Int32)), .unset] [(.int (0 : Int32)), (.int (0 : Int32)), (.int (0 : Int32)), (.ref nt)])) rfl (by rw [hml]; rfl) (argsL := [(.ref nt), (.int (0 : Int32)), (.int (0 : Int32)), (.int (0 : Int32))]) (rest := []) (lenOf own_pd7 rfl) rfl (by show 2 * 0 + _ ≤ _; exact Nat.le_of_eq rfl) (hb hby at_212) (fun _ _ => ⟨rfl, e132, (by decide : 6 + 0 ≤ _), (by decide : 168 + 0 ≤ _)⟩)
        dsimp only [Pt.U, Pt.locs, Pt.cells, Pt.slots] at X135 l135 y135 z135 st135 hQ135
        subst l135 y135 z135
        obtain ⟨rfl, N135q, e135⟩ := hQ135
        have N135 := Fr.app N132 N135q
        have pre136 : Goes p e below s₁ (entryFrame m #[(.int mask), (.int t1), (.int t2), (.int t3)] maxLocals) T135 (mkF m 215 #[.val (.int mask), .val (.int t1), .val (.int t2), .val (.int t3), .val (.int f1), .val (.int f2), .val (.int f3), .val (.ref b22), .val (.int (0 : Int32)), .val (.int (1 : Int32)), .val (.ref y123), .val (.ref nt), .val (.int (1 : Int32)), .unset] [(.int (1 : Int32))]) := fun t kt => pre134 t (st135 t kt)
        have pre137 : Goes p e below s₁ (entryFrame m #[(.int mask), (.int t1), (.int t2), (.int t3)] maxLocals) T135 (mkF m 232 #[.val (.int mask), .val (.int t1), .val (.int t2), .val (.int t3), .val (.int f1), .val (.int f2), .val (.int f3), .val (.ref b22), .val (.int (0 : Int32)), .val (.int (1 : Int32)), .val (.ref y123), .val (.ref nt), .val (.int (1 : Int32)), .val (.int (1 : Int32))] [(.int (1 : Int32))]) := fun t kt => pre136 t (by
            show Steps p.tables e below (T135.setTop (mkF m 215 #[.val (.int mask), .val (.int t1), .val (.int t2), .val (.int t3), .val (.int f1), .val (.int f2), .val (.int f3), .val (.ref b22), .val (.int (0 : Int32)), .val (.int (1 : Int32)), .val (.ref y123), .val (.ref nt), .val (.int (1 : Int32)), .unset] [(.int (1 : Int32))])) _
            refine XS.istore X135.here hx rfl (hb hby at_215) rfl (l' := #[.val (.int mask), .val (.int t1), .val (.int t2), .val (.int t3), .val (.int f1), .val (.int f2), .val (.int f3), .val (.ref b22), .val (.int (0 : Int32)), .val (.int (1 : Int32)), .val (.ref y123), .val (.ref nt), .val (.int (1 : Int32)), .val (.int (1 : Int32))]) rfl ?_
            show Steps p.tables e below (T135.setTop (mkF m 217 #[.val (.int mask), .val (.int t1), .val (.int t2), .val (.int t3), .val (.int f1), .val (.int f2), .val (.int f3), .val (.ref b22), .val (.int (0 : Int32)), .val (.int (1 : Int32)), .val (.ref y123), .val (.ref nt), .val (.int (1 : Int32)), .val (.int (1 : Int32))] [])) _
            refine XS.iload X135.here hx rfl (hb hby at_217) rfl ?_
            show Steps p.tables e below (T135.setTop (mkF m 219 #[.val (.int mask), .val (.int t1), .val (.int t2), .val (.int t3), .val (.int f1), .val (.int f2), .val (.int f3), .val (.ref b22), .val (.int (0 : Int32)), .val (.int (1 : Int32)), .val (.ref y123), .val (.ref nt), .val (.int (1 : Int32)), .val (.int (1 : Int32))] [(.int (1 : Int32))])) _
            refine XS.ifNo X135.here hx rfl (hb hby at_219) rfl ((if0 _ _).trans (feq (by decide : ¬ ((1 : Int32) = (0 : Int32)))).1) ?_
            show Steps p.tables e below (T135.setTop (mkF m 222 #[.val (.int mask), .val (.int t1), .val (.int t2), .val (.int t3), .val (.int f1), .val (.int f2), .val (.int f3), .val (.ref b22), .val (.int (0 : Int32)), .val (.int (1 : Int32)), .val (.ref y123), .val (.ref nt), .val (.int (1 : Int32)), .val (.int (1 : Int32))] [])) _
            refine XS.iload X135.here hx rfl (hb hby at_222) rfl ?_
            show Steps p.tables e below (T135.setTop (mkF m 224 #[.val (.int mask), .val (.int t1), .val (.int t2), .val (.int t3), .val (.int f1), .val (.int f2), .val (.int f3), .val (.ref b22), .val (.int (0 : Int32)), .val (.int (1 : Int32)), .val (.ref y123), .val (.ref nt), .val (.int (1 : Int32)), .val (.int (1 : Int32))] [(.int (1 : Int32))])) _
            refine XS.ifNo X135.here hx rfl (hb hby at_224) rfl ((if0 _ _).trans (feq (by decide : ¬ ((1 : Int32) = (0 : Int32)))).1) ?_
            show Steps p.tables e below (T135.setTop (mkF m 227 #[.val (.int mask), .val (.int t1), .val (.int t2), .val (.int t3), .val (.int f1), .val (.int f2), .val (.int f3), .val (.ref b22), .val (.int (0 : Int32)), .val (.int (1 : Int32)), .val (.ref y123), .val (.ref nt), .val (.int (1 : Int32)), .val (.int (1 : Int32))] [])) _
            refine XS.iconst X135.here hx rfl (hb hby at_227) ?_
            show Steps p.tables e below (T135.setTop (mkF m 228 #[.val (.int mask), .val (.int t1), .val (.int t2), .val (.int t3), .val (.int f1), .val (.int f2), .val (.int f3), .val (.ref b22), .val (.int (0 : Int32)), .val (.int (1 : Int32)), .val (.ref y123), .val (.ref nt), .val (.int (1 : Int32)), .val (.int (1 : Int32))] [(.int (1 : Int32))])) _
            refine XS.goto X135.here hx rfl (pc0 := 228) (pc' := 232) rfl (hb hby at_228) (by decide) (by decide) ?_
            exact kt)
        obtain ⟨fs, hr, hrun, hended, hW, hsame⟩ := X135.leave (v := some (.int (1 : Int32))) (fun h => by rw [Bd.returns] at h; cases h)
        refine ⟨_, _, pre137 _ ?_, hrun, hended, _, _, rfl, ?_, ⟨_, rfl⟩, hW, hsame.mono (by decide) (by decide)⟩
        · show Steps p.tables e below (T135.setTop (mkF m 232 #[.val (.int mask), .val (.int t1), .val (.int t2), .val (.int t3), .val (.int f1), .val (.int f2), .val (.int f3), .val (.ref b22), .val (.int (0 : Int32)), .val (.int (1 : Int32)), .val (.ref y123), .val (.ref nt), .val (.int (1 : Int32)), .val (.int (1 : Int32))] [(.int (1 : Int32))])) _
          exact retN X135 hx (t := .boolean) Bd.returns (by simp) (hb hby at_232) hr
        · show Q_own_rm0 Z mask t1 t2 t3 nt kn h0 n0 _ T135.heap _
          rw [e135]
          exact ⟨rfl, N135⟩
    · -- no at pc 78: f
      have pre138 : Goes p e below s₁ (entryFrame m #[(.int mask), (.int t1), (.int t2), (.int t3)] maxLocals) T103 (mkF m 86 #[.val (.int mask), .val (.int t1), .val (.int t2), .val (.int t3), .val (.int f1), .val (.int f2), .val (.int f3), .val (.ref b22), .val (.int (0 : Int32)), .val (.int (1 : Int32)), .unset, .unset, .unset, .unset] [(.int t2), (.int (1 : Int32)), (.ref b22)]) := fun t kt => pre105 t (by
          show Steps p.tables e below (T103.setTop (mkF m 78 #[.val (.int mask), .val (.int t1), .val (.int t2), .val (.int t3), .val (.int f1), .val (.int f2), .val (.int f3), .val (.ref b22), .val (.int (0 : Int32)), .val (.int (1 : Int32)), .unset, .unset, .unset, .unset] [(.int f2)])) _
          refine XS.ifNo X103.here hx rfl (hb hby at_78) rfl ((if0 _ _).trans (feq hc78_106).1) ?_
          show Steps p.tables e below (T103.setTop (mkF m 81 #[.val (.int mask), .val (.int t1), .val (.int t2), .val (.int t3), .val (.int f1), .val (.int f2), .val (.int f3), .val (.ref b22), .val (.int (0 : Int32)), .val (.int (1 : Int32)), .unset, .unset, .unset, .unset] [])) _
          refine XS.aload X103.here hx rfl (hb hby at_81) rfl rfl ?_
          show Steps p.tables e below (T103.setTop (mkF m 83 #[.val (.int mask), .val (.int t1), .val (.int t2), .val (.int t3), .val (.int f1), .val (.int f2), .val (.int f3), .val (.ref b22), .val (.int (0 : Int32)), .val (.int (1 : Int32)), .unset, .unset, .unset, .unset] [(.ref b22)])) _
          refine XS.iload X103.here hx rfl (hb hby at_83) rfl ?_
          show Steps p.tables e below (T103.setTop (mkF m 85 #[.val (.int mask), .val (.int t1), .val (.int t2), .val (.int t3), .val (.int f1), .val (.int f2), .val (.int f3), .val (.ref b22), .val (.int (0 : Int32)), .val (.int (1 : Int32)), .unset, .unset, .unset, .unset] [(.int (1 : Int32)), (.ref b22)])) _
          refine XS.iloadN X103.here hx rfl (hb hby at_85) rfl ?_
          exact kt)
      obtain ⟨cq139, kq139, q139a, q139b, q139c⟩ := isOf hZ rfl hT103.1
      obtain ⟨_, _, ⟨T139, L139, k139, n139⟩, -, X139, ⟨Lc139, hQ139, l139, y139, z139⟩, st139⟩ := X103.virtualBack hx (y := (⟨"com/example/unicept/unicept/WordTrie", "tag", "(II)V"⟩ : MethodName)) (z := (⟨"com/example/unicept/unicept/WordTrie", "tag", "(II)V"⟩ : MethodName)) hown (mvT hZ (hw _ (List.mem_of_getElem? (i := 53) rfl))) (mvT hZ (hw _ (List.mem_of_getElem? (i := 54) rfl))) (notFace_of_selects (args := #[]) (mvT hZ (hw _ (List.mem_of_getElem? (i := 56) rfl)))) (mvT hZ (hw _ (List.mem_of_getElem? (i := 56) rfl))) (mvT hZ (hw _ (List.mem_of_getElem? (i := 55) rfl))) (by decide) (backOf (W := 0) (own_tag0 l Z a0 hw [] b22 1 2 ch (own_fl (own_fl (fun _ => 0) (0 * 1) (0 * 1 + 1) (-1)) (1 * 1) (1 * 1 + 1) (-1)) rt (own_up (own_up (fun _ => 0) 0 (Int32.ofNat 0)) 1 (Int32.ofNat 1)) tg kt ((List.replicate 16 .null).set 0 (.ref y103)) (1 : Int32) t2 nt kn T103.heap n0 (Nat.le_trans (Nat.le_trans (Nat.le_trans (Nat.le_trans (Nat.le_trans Z0 E22.1) K25q.1) K28q.1) K31q.1) K103q.1) hT103 Ov (by decide) (by simp) rfl (((((V_nt.ext E22).keep K25q (ninS (Nat.ne_of_lt (Nat.lt_of_lt_of_le V_nt.lt (Nat.le_of_eq g22.symm))) nin0)).keep K28q (ninS (Nat.ne_of_lt (Nat.lt_of_lt_of_le V_nt.lt (Nat.le_of_eq g22.symm))) (ninS (Nat.ne_of_lt (Nat.lt_of_lt_of_le (V_nt.ext E22).lt z1)) (ninS (Nat.ne_of_lt (Nat.lt_of_lt_of_le (V_nt.ext E22).lt z2)) nin0)))).keep K31q (ninS (Nat.ne_of_lt (Nat.lt_of_lt_of_le V_nt.lt (Nat.le_of_eq g22.symm))) (ninS (Nat.ne_of_lt (Nat.lt_of_lt_of_le (V_nt.ext E22).lt z1)) (ninS (Nat.ne_of_lt (Nat.lt_of_lt_of_le (V_nt.ext E22).lt z2)) nin0)))).keep K103q (ninS (Nat.ne_of_lt (Nat.lt_of_lt_of_le (V_nt.ext E22).lt z3)) nin0)) (S_NT.ext (((((O0.ext E22).keep K25q (allS g_b22 all0)).keep K28q (allS g_b22 (allS g_ch (allS g_rt all0)))).keep K31q (allS g_b22 (allS g_ch (allS g_rt all0)))).keep K103q (allS g_tg all0)).2)) hZ (hw _ (List.mem_of_getElem? (i := 57) rfl)) (hw _ (List.mem_of_getElem? (i := 2) rfl)) (by decide) (by decide)) q139a q139c (g := (mkF m 86 #[.val (.int mask), .val (.int t1), .val (.int t2), .val (.int t3), .val (.int f1), .val (.int f2), .val (.int f3), .val (.ref b22), .val (.int (0 : Int32)), .val (.int (1 : Int32)), .unset, .unset, .unset, .unset] [(.int t2), (.int (1 : Int32)), (.ref b22)])) rfl (by rw [hml]; rfl) (Steps.refl _) (argsL := [(.int (1 : Int32)), (.int t2)]) (rest := []) (lenOf own_pd8 rfl) rfl (by show 2 * 0 + _ ≤ _; exact Nat.le_of_eq rfl) (hb hby at_86) (fun _ _ => ⟨rfl, rfl, (by decide : 5 + 1 ≤ _), (by decide : 166 + 1 ≤ _)⟩)
      dsimp only [Pt.U, Pt.locs, Pt.cells, Pt.slots] at X139 l139 y139 z139 st139 hQ139
      subst l139 y139 z139
      obtain ⟨rfl, N139q, K139q, y139, ky139, zy139, gy139, ny139, Vy139, hT139⟩ := hQ139
      have N139 := Fr.app N103 N139q
      have KC139 : Keep h0 T139.heap [] := KC103.trans K139q (allS (Or.inr sz_tg) all0)
      have pre140 : Goes p e below s₁ (entryFrame m #[(.int mask), (.int t1), (.int t2), (.int t3)] maxLocals) T139 (mkF m 89 #[.val (.int mask), .val (.int t1), .val (.int t2), .val (.int t3), .val (.int f1), .val (.int f2), .val (.int f3), .val (.ref b22), .val (.int (0 : Int32)), .val (.int (1 : Int32)), .unset, .unset, .unset, .unset] []) := fun t kt => pre138 t (st139.trans kt)
      have pre141 : Goes p e below s₁ (entryFrame m #[(.int mask), (.int t1), (.int t2), (.int t3)] maxLocals) T139 (mkF m 91 #[.val (.int mask), .val (.int t1), .val (.int t2), .val (.int t3), .val (.int f1), .val (.int f2), .val (.int f3), .val (.ref b22), .val (.int (0 : Int32)), .val (.int (1 : Int32)), .unset, .unset, .unset, .unset] [(.int f3)]) := fun t kt => pre140 t (by
          show Steps p.tables e below (T139.setTop (mkF m 89 #[.val (.int mask), .val (.int t1), .val (.int t2), .val (.int t3), .val (.int f1), .val (.int f2), .val (.int f3), .val (.ref b22), .val (.int (0 : Int32)), .val (.int (1 : Int32)), .unset, .unset, .unset, .unset] [])) _
          refine XS.iload X139.here hx rfl (hb hby at_89) rfl ?_
          exact kt)
      by_cases hc91_142 : f3 = (0 : Int32)
      · -- yes at pc 91: ff
        have pre143 : Goes p e below s₁ (entryFrame m #[(.int mask), (.int t1), (.int t2), (.int t3)] maxLocals) T139 (mkF m 106 #[.val (.int mask), .val (.int t1), .val (.int t2), .val (.int t3), .val (.int f1), .val (.int f2), .val (.int f3), .val (.ref b22), .val (.int (0 : Int32)), .val (.int (1 : Int32)), .unset, .unset, .unset, .unset] [(.int (0 : Int32)), (.ref b22)]) := fun t kt => pre141 t (by
            show Steps p.tables e below (T139.setTop (mkF m 91 #[.val (.int mask), .val (.int t1), .val (.int t2), .val (.int t3), .val (.int f1), .val (.int f2), .val (.int f3), .val (.ref b22), .val (.int (0 : Int32)), .val (.int (1 : Int32)), .unset, .unset, .unset, .unset] [(.int f3)])) _
            refine XS.ifYes X139.here hx rfl (pc0 := 91) (pc' := 102) rfl (hb hby at_91) rfl ((if0 _ _).trans (teq hc91_142).1) (by decide) (by decide) ?_
            show Steps p.tables e below (T139.setTop (mkF m 102 #[.val (.int mask), .val (.int t1), .val (.int t2), .val (.int t3), .val (.int f1), .val (.int f2), .val (.int f3), .val (.ref b22), .val (.int (0 : Int32)), .val (.int (1 : Int32)), .unset, .unset, .unset, .unset] [])) _
            refine XS.aload X139.here hx rfl (hb hby at_102) rfl rfl ?_
            show Steps p.tables e below (T139.setTop (mkF m 104 #[.val (.int mask), .val (.int t1), .val (.int t2), .val (.int t3), .val (.int f1), .val (.int f2), .val (.int f3), .val (.ref b22), .val (.int (0 : Int32)), .val (.int (1 : Int32)), .unset, .unset, .unset, .unset] [(.ref b22)])) _
            refine XS.iload X139.here hx rfl (hb hby at_104) rfl ?_
            exact kt)
        obtain ⟨cq144, kq144, q144a, q144b, q144c⟩ := isOf hZ rfl hT139.1
        obtain ⟨_, _, ⟨T144, L144, k144, n144⟩, -, X144, ⟨Lc144, hQ144, l144, y144, z144⟩, st144⟩ := X139.virtualBack hx (y := (⟨"com/example/unicept/unicept/WordTrie", "tags", "(I)[I"⟩ : MethodName)) (z := (⟨"com/example/unicept/unicept/WordTrie", "tags", "(I)[I"⟩ : MethodName)) hown (mvT hZ (hw _ (List.mem_of_getElem? (i := 42) rfl))) (mvT hZ (hw _ (List.mem_of_getElem? (i := 43) rfl))) (notFace_of_selects (args := #[]) (mvT hZ (hw _ (List.mem_of_getElem? (i := 45) rfl)))) (mvT hZ (hw _ (List.mem_of_getElem? (i := 45) rfl))) (mvT hZ (hw _ (List.mem_of_getElem? (i := 44) rfl))) (by decide) (backOf (W := 0) (own_tags1 l Z a0 hw [] b22 1 2 ch (own_fl (own_fl (fun _ => 0) (0 * 1) (0 * 1 + 1) (-1)) (1 * 1) (1 * 1 + 1) (-1)) rt (own_up (own_up (fun _ => 0) 0 (Int32.ofNat 0)) 1 (Int32.ofNat 1)) tg kt (((List.replicate 16 .null).set 0 (.ref y103)).set 1 (.ref y139)) (0 : Int32) y103 T139.heap n0 (Nat.le_trans (Nat.le_trans (Nat.le_trans (Nat.le_trans (Nat.le_trans (Nat.le_trans Z0 E22.1) K25q.1) K28q.1) K31q.1) K103q.1) K139q.1) hT139 (by decide) rfl) hZ (hw _ (List.mem_of_getElem? (i := 46) rfl)) (hw _ (List.mem_of_getElem? (i := 2) rfl)) (by decide) (by decide)) q144a q144c (g := (mkF m 106 #[.val (.int mask), .val (.int t1), .val (.int t2), .val (.int t3), .val (.int f1), .val (.int f2), .val (.int f3), .val (.ref b22), .val (.int (0 : Int32)), .val (.int (1 : Int32)), .unset, .unset, .unset, .unset] [(.int (0 : Int32)), (.ref b22)])) rfl (by rw [hml]; rfl) (Steps.refl _) (argsL := [(.int (0 : Int32))]) (rest := []) (lenOf own_pd6 rfl) rfl (by show 2 * 0 + _ ≤ _; exact Nat.le_of_eq rfl) (hb hby at_106) (fun _ _ => ⟨rfl, rfl, (by decide : 6 + 0 ≤ _), (by decide : 167 + 0 ≤ _)⟩)
        dsimp only [Pt.U, Pt.locs, Pt.cells, Pt.slots] at X144 l144 y144 z144 st144 hQ144
        subst l144 y144 z144
        obtain ⟨rfl, N144q, e144⟩ := hQ144
        have N144 := Fr.app N139 N144q
        have pre145 : Goes p e below s₁ (entryFrame m #[(.int mask), (.int t1), (.int t2), (.int t3)] maxLocals) T144 (mkF m 109 #[.val (.int mask), .val (.int t1), .val (.int t2), .val (.int t3), .val (.int f1), .val (.int f2), .val (.int f3), .val (.ref b22), .val (.int (0 : Int32)), .val (.int (1 : Int32)), .unset, .unset, .unset, .unset] [(.ref y103)]) := fun t kt => pre143 t (st144.trans kt)
        have pre146 : Goes p e below s₁ (entryFrame m #[(.int mask), (.int t1), (.int t2), (.int t3)] maxLocals) T144 (mkF m 115 #[.val (.int mask), .val (.int t1), .val (.int t2), .val (.int t3), .val (.int f1), .val (.int f2), .val (.int f3), .val (.ref b22), .val (.int (0 : Int32)), .val (.int (1 : Int32)), .val (.ref y103), .unset, .unset, .unset] [(.int (1 : Int32)), (.ref b22)]) := fun t kt => pre145 t (by
            show Steps p.tables e below (T144.setTop (mkF m 109 #[.val (.int mask), .val (.int t1), .val (.int t2), .val (.int t3), .val (.int f1), .val (.int f2), .val (.int f3), .val (.ref b22), .val (.int (0 : Int32)), .val (.int (1 : Int32)), .unset, .unset, .unset, .unset] [(.ref y103)])) _
            refine XS.astore X144.here hx rfl (hb hby at_109) rfl rfl (l' := #[.val (.int mask), .val (.int t1), .val (.int t2), .val (.int t3), .val (.int f1), .val (.int f2), .val (.int f3), .val (.ref b22), .val (.int (0 : Int32)), .val (.int (1 : Int32)), .val (.ref y103), .unset, .unset, .unset]) rfl ?_
            show Steps p.tables e below (T144.setTop (mkF m 111 #[.val (.int mask), .val (.int t1), .val (.int t2), .val (.int t3), .val (.int f1), .val (.int f2), .val (.int f3), .val (.ref b22), .val (.int (0 : Int32)), .val (.int (1 : Int32)), .val (.ref y103), .unset, .unset, .unset] [])) _
            refine XS.aload X144.here hx rfl (hb hby at_111) rfl rfl ?_
            show Steps p.tables e below (T144.setTop (mkF m 113 #[.val (.int mask), .val (.int t1), .val (.int t2), .val (.int t3), .val (.int f1), .val (.int f2), .val (.int f3), .val (.ref b22), .val (.int (0 : Int32)), .val (.int (1 : Int32)), .val (.ref y103), .unset, .unset, .unset] [(.ref b22)])) _
            refine XS.iload X144.here hx rfl (hb hby at_113) rfl ?_
            exact kt)
        obtain ⟨cq147, kq147, q147a, q147b, q147c⟩ := isOf hZ e144 hT139.1
        obtain ⟨_, _, ⟨T147, L147, k147, n147⟩, -, X147, ⟨Lc147, hQ147, l147, y147, z147⟩, st147⟩ := X144.virtualBack hx (y := (⟨"com/example/unicept/unicept/WordTrie", "tags", "(I)[I"⟩ : MethodName)) (z := (⟨"com/example/unicept/unicept/WordTrie", "tags", "(I)[I"⟩ : MethodName)) hown (mvT hZ (hw _ (List.mem_of_getElem? (i := 42) rfl))) (mvT hZ (hw _ (List.mem_of_getElem? (i := 43) rfl))) (notFace_of_selects (args := #[]) (mvT hZ (hw _ (List.mem_of_getElem? (i := 45) rfl)))) (mvT hZ (hw _ (List.mem_of_getElem? (i := 45) rfl))) (mvT hZ (hw _ (List.mem_of_getElem? (i := 44) rfl))) (by decide) (backOf (W := 0) (own_tags1 l Z a0 hw [] b22 1 2 ch (own_fl (own_fl (fun _ => 0) (0 * 1) (0 * 1 + 1) (-1)) (1 * 1) (1 * 1 + 1) (-1)) rt (own_up (own_up (fun _ => 0) 0 (Int32.ofNat 0)) 1 (Int32.ofNat 1)) tg kt (((List.replicate 16 .null).set 0 (.ref y103)).set 1 (.ref y139)) (1 : Int32) y139 T139.heap n0 (Nat.le_trans (Nat.le_trans (Nat.le_trans (Nat.le_trans (Nat.le_trans (Nat.le_trans Z0 E22.1) K25q.1) K28q.1) K31q.1) K103q.1) K139q.1) hT139 (by decide) rfl) hZ (hw _ (List.mem_of_getElem? (i := 46) rfl)) (hw _ (List.mem_of_getElem? (i := 2) rfl)) (by decide) (by decide)) q147a q147c (g := (mkF m 115 #[.val (.int mask), .val (.int t1), .val (.int t2), .val (.int t3), .val (.int f1), .val (.int f2), .val (.int f3), .val (.ref b22), .val (.int (0 : Int32)), .val (.int (1 : Int32)), .val (.ref y103), .unset, .unset, .unset] [(.int (1 : Int32)), (.ref b22)])) rfl (by rw [hml]; rfl) (Steps.refl _) (argsL := [(.int (1 : Int32))]) (rest := []) (lenOf own_pd6 rfl) rfl (by show 2 * 0 + _ ≤ _; exact Nat.le_of_eq rfl) (hb hby at_115) (fun _ _ => ⟨rfl, e144, (by decide : 6 + 0 ≤ _), (by decide : 167 + 0 ≤ _)⟩)
        dsimp only [Pt.U, Pt.locs, Pt.cells, Pt.slots] at X147 l147 y147 z147 st147 hQ147
        subst l147 y147 z147
        obtain ⟨rfl, N147q, e147⟩ := hQ147
        have N147 := Fr.app N144 N147q
        have pre148 : Goes p e below s₁ (entryFrame m #[(.int mask), (.int t1), (.int t2), (.int t3)] maxLocals) T147 (mkF m 118 #[.val (.int mask), .val (.int t1), .val (.int t2), .val (.int t3), .val (.int f1), .val (.int f2), .val (.int f3), .val (.ref b22), .val (.int (0 : Int32)), .val (.int (1 : Int32)), .val (.ref y103), .unset, .unset, .unset] [(.ref y139)]) := fun t kt => pre146 t (st147.trans kt)
        have pre149 : Goes p e below s₁ (entryFrame m #[(.int mask), (.int t1), (.int t2), (.int t3)] maxLocals) T147 (mkF m 153 #[.val (.int mask), .val (.int t1), .val (.int t2), .val (.int t3), .val (.int f1), .val (.int f2), .val (.int f3), .val (.ref b22), .val (.int (0 : Int32)), .val (.int (1 : Int32)), .val (.ref y103), .val (.ref y139), .unset, .unset] [(.int (0 : Int32)), (.int t1), (.int (1 : Int32)), (.ref y103)]) := fun t kt => pre148 t (by
            show Steps p.tables e below (T147.setTop (mkF m 118 #[.val (.int mask), .val (.int t1), .val (.int t2), .val (.int t3), .val (.int f1), .val (.int f2), .val (.int f3), .val (.ref b22), .val (.int (0 : Int32)), .val (.int (1 : Int32)), .val (.ref y103), .unset, .unset, .unset] [(.ref y139)])) _
            refine XS.astore X147.here hx rfl (hb hby at_118) rfl rfl (l' := #[.val (.int mask), .val (.int t1), .val (.int t2), .val (.int t3), .val (.int f1), .val (.int f2), .val (.int f3), .val (.ref b22), .val (.int (0 : Int32)), .val (.int (1 : Int32)), .val (.ref y103), .val (.ref y139), .unset, .unset]) rfl ?_
            show Steps p.tables e below (T147.setTop (mkF m 120 #[.val (.int mask), .val (.int t1), .val (.int t2), .val (.int t3), .val (.int f1), .val (.int f2), .val (.int f3), .val (.ref b22), .val (.int (0 : Int32)), .val (.int (1 : Int32)), .val (.ref y103), .val (.ref y139), .unset, .unset] [])) _
            refine XS.iload X147.here hx rfl (hb hby at_120) rfl ?_
            show Steps p.tables e below (T147.setTop (mkF m 122 #[.val (.int mask), .val (.int t1), .val (.int t2), .val (.int t3), .val (.int f1), .val (.int f2), .val (.int f3), .val (.ref b22), .val (.int (0 : Int32)), .val (.int (1 : Int32)), .val (.ref y103), .val (.ref y139), .unset, .unset] [(.int f1)])) _
            refine XS.ifNo X147.here hx rfl (hb hby at_122) rfl ((if0 _ _).trans (feq hc65_34).1) ?_
            show Steps p.tables e below (T147.setTop (mkF m 125 #[.val (.int mask), .val (.int t1), .val (.int t2), .val (.int t3), .val (.int f1), .val (.int f2), .val (.int f3), .val (.ref b22), .val (.int (0 : Int32)), .val (.int (1 : Int32)), .val (.ref y103), .val (.ref y139), .unset, .unset] [])) _
            refine XS.iload X147.here hx rfl (hb hby at_125) rfl ?_
            show Steps p.tables e below (T147.setTop (mkF m 127 #[.val (.int mask), .val (.int t1), .val (.int t2), .val (.int t3), .val (.int f1), .val (.int f2), .val (.int f3), .val (.ref b22), .val (.int (0 : Int32)), .val (.int (1 : Int32)), .val (.ref y103), .val (.ref y139), .unset, .unset] [(.int f3)])) _
            refine XS.ifYes X147.here hx rfl (pc0 := 127) (pc' := 143) rfl (hb hby at_127) rfl ((if0 _ _).trans (teq hc91_142).1) (by decide) (by decide) ?_
            show Steps p.tables e below (T147.setTop (mkF m 143 #[.val (.int mask), .val (.int t1), .val (.int t2), .val (.int t3), .val (.int f1), .val (.int f2), .val (.int f3), .val (.ref b22), .val (.int (0 : Int32)), .val (.int (1 : Int32)), .val (.ref y103), .val (.ref y139), .unset, .unset] [])) _
            refine XS.iload X147.here hx rfl (hb hby at_143) rfl ?_
            show Steps p.tables e below (T147.setTop (mkF m 145 #[.val (.int mask), .val (.int t1), .val (.int t2), .val (.int t3), .val (.int f1), .val (.int f2), .val (.int f3), .val (.ref b22), .val (.int (0 : Int32)), .val (.int (1 : Int32)), .val (.ref y103), .val (.ref y139), .unset, .unset] [(.int f1)])) _
            refine XS.ifNo X147.here hx rfl (hb hby at_145) rfl ((if0 _ _).trans (feq hc65_34).1) ?_
            show Steps p.tables e below (T147.setTop (mkF m 148 #[.val (.int mask), .val (.int t1), .val (.int t2), .val (.int t3), .val (.int f1), .val (.int f2), .val (.int f3), .val (.ref b22), .val (.int (0 : Int32)), .val (.int (1 : Int32)), .val (.ref y103), .val (.ref y139), .unset, .unset] [])) _
            refine XS.aload X147.here hx rfl (hb hby at_148) rfl rfl ?_
            show Steps p.tables e below (T147.setTop (mkF m 150 #[.val (.int mask), .val (.int t1), .val (.int t2), .val (.int t3), .val (.int f1), .val (.int f2), .val (.int f3), .val (.ref b22), .val (.int (0 : Int32)), .val (.int (1 : Int32)), .val (.ref y103), .val (.ref y139), .unset, .unset] [(.ref y103)])) _
            refine XS.iconst X147.here hx rfl (hb hby at_150) ?_
            show Steps p.tables e below (T147.setTop (mkF m 151 #[.val (.int mask), .val (.int t1), .val (.int t2), .val (.int t3), .val (.int f1), .val (.int f2), .val (.int f3), .val (.ref b22), .val (.int (0 : Int32)), .val (.int (1 : Int32)), .val (.ref y103), .val (.ref y139), .unset, .unset] [(.int (1 : Int32)), (.ref y103)])) _
            refine XS.iloadN X147.here hx rfl (hb hby at_151) rfl ?_
            show Steps p.tables e below (T147.setTop (mkF m 152 #[.val (.int mask), .val (.int t1), .val (.int t2), .val (.int t3), .val (.int f1), .val (.int f2), .val (.int f3), .val (.ref b22), .val (.int (0 : Int32)), .val (.int (1 : Int32)), .val (.ref y103), .val (.ref y139), .unset, .unset] [(.int t1), (.int (1 : Int32)), (.ref y103)])) _
            refine XS.iconst X147.here hx rfl (hb hby at_152) ?_
            exact kt)
        obtain ⟨_, _, ⟨T150, L150, k150, n150⟩, -, X150, ⟨Lc150, hQ150, l150, y150, z150⟩, st150⟩ := Jvm.LawKit.callS X147 hx (y := (⟨"com/example/unicept/unicept/WordTrieTagsPinLaw", "same", "([IIII)Z"⟩ : MethodName)) hown (mvT hZ (hw _ (List.mem_of_getElem? (i := 49) rfl))) (mvT hZ (hw _ (List.mem_of_getElem? (i := 50) rfl))) (mvT hZ (hw _ (List.mem_of_getElem? (i := 51) rfl))) (mvT hZ (hw _ (List.mem_of_getElem? (i := 52) rfl))) (by decide) (backOf (W := 0) (own_same1 l Z a0 hw [] y103 ky103 t1 (0 : Int32) T139.heap n0 (Nat.le_trans (Nat.le_trans (Nat.le_trans (Nat.le_trans (Nat.le_trans (Nat.le_trans Z0 E22.1) K25q.1) K28q.1) K31q.1) K103q.1) K139q.1) (Vy103.keep K139q (ninS ny103 nin0))) hZ (hw _ (List.mem_of_getElem? (i := 52) rfl)) (hw _ (List.mem_of_getElem? (i := 51) rfl)) (by decide) (by decide)) (g := (mkF m 153 #[.val (.int mask), .val (.int t1), .val (.int t2), .val (.int t3), .val (.int f1), .val (.int f2), .val (.int f3), .val (.ref b22), .val (.int (0 : Int32)), .val (.int (1 : Int32)), .val (.ref y103), .val (.ref y139), .unset, .unset] [(.int (0 : Int32)), (.int t1), (.int (1 : Int32)), (.ref y103)])) rfl (by rw [hml]; rfl) (argsL := [(.ref y103), (.int (1 : Int32)), (.int t1), (.int (0 : Int32))]) (rest := []) (lenOf own_pd7 rfl) rfl (by show 2 * 0 + _ ≤ _; exact Nat.le_of_eq rfl) (hb hby at_153) (fun _ _ => ⟨rfl, e147, (by decide : 6 + 0 ≤ _), (by decide : 167 + 0 ≤ _)⟩)
        dsimp only [Pt.U, Pt.locs, Pt.cells, Pt.slots] at X150 l150 y150 z150 st150 hQ150
        subst l150 y150 z150
        obtain ⟨rfl, N150q, e150⟩ := hQ150
        have N150 := Fr.app N147 N150q
        have pre151 : Goes p e below s₁ (entryFrame m #[(.int mask), (.int t1), (.int t2), (.int t3)] maxLocals) T150 (mkF m 156 #[.val (.int mask), .val (.int t1), .val (.int t2), .val (.int t3), .val (.int f1), .val (.int f2), .val (.int f3), .val (.ref b22), .val (.int (0 : Int32)), .val (.int (1 : Int32)), .val (.ref y103), .val (.ref y139), .unset, .unset] [(.int (1 : Int32))]) := fun t kt => pre149 t (st150 t kt)
        have pre152 : Goes p e below s₁ (entryFrame m #[(.int mask), (.int t1), (.int t2), (.int t3)] maxLocals) T150 (mkF m 199 #[.val (.int mask), .val (.int t1), .val (.int t2), .val (.int t3), .val (.int f1), .val (.int f2), .val (.int f3), .val (.ref b22), .val (.int (0 : Int32)), .val (.int (1 : Int32)), .val (.ref y103), .val (.ref y139), .val (.int (1 : Int32)), .unset] [(.int (0 : Int32)), (.int t2), (.int (1 : Int32)), (.ref y139)]) := fun t kt => pre151 t (by
            show Steps p.tables e below (T150.setTop (mkF m 156 #[.val (.int mask), .val (.int t1), .val (.int t2), .val (.int t3), .val (.int f1), .val (.int f2), .val (.int f3), .val (.ref b22), .val (.int (0 : Int32)), .val (.int (1 : Int32)), .val (.ref y103), .val (.ref y139), .unset, .unset] [(.int (1 : Int32))])) _
            refine XS.istore X150.here hx rfl (hb hby at_156) rfl (l' := #[.val (.int mask), .val (.int t1), .val (.int t2), .val (.int t3), .val (.int f1), .val (.int f2), .val (.int f3), .val (.ref b22), .val (.int (0 : Int32)), .val (.int (1 : Int32)), .val (.ref y103), .val (.ref y139), .val (.int (1 : Int32)), .unset]) rfl ?_
            show Steps p.tables e below (T150.setTop (mkF m 158 #[.val (.int mask), .val (.int t1), .val (.int t2), .val (.int t3), .val (.int f1), .val (.int f2), .val (.int f3), .val (.ref b22), .val (.int (0 : Int32)), .val (.int (1 : Int32)), .val (.ref y103), .val (.ref y139), .val (.int (1 : Int32)), .unset] [])) _
            refine XS.goto X150.here hx rfl (pc0 := 158) (pc' := 189) rfl (hb hby at_158) (by decide) (by decide) ?_
            show Steps p.tables e below (T150.setTop (mkF m 189 #[.val (.int mask), .val (.int t1), .val (.int t2), .val (.int t3), .val (.int f1), .val (.int f2), .val (.int f3), .val (.ref b22), .val (.int (0 : Int32)), .val (.int (1 : Int32)), .val (.ref y103), .val (.ref y139), .val (.int (1 : Int32)), .unset] [])) _
            refine XS.iload X150.here hx rfl (hb hby at_189) rfl ?_
            show Steps p.tables e below (T150.setTop (mkF m 191 #[.val (.int mask), .val (.int t1), .val (.int t2), .val (.int t3), .val (.int f1), .val (.int f2), .val (.int f3), .val (.ref b22), .val (.int (0 : Int32)), .val (.int (1 : Int32)), .val (.ref y103), .val (.ref y139), .val (.int (1 : Int32)), .unset] [(.int f2)])) _
            refine XS.ifNo X150.here hx rfl (hb hby at_191) rfl ((if0 _ _).trans (feq hc78_106).1) ?_
            show Steps p.tables e below (T150.setTop (mkF m 194 #[.val (.int mask), .val (.int t1), .val (.int t2), .val (.int t3), .val (.int f1), .val (.int f2), .val (.int f3), .val (.ref b22), .val (.int (0 : Int32)), .val (.int (1 : Int32)), .val (.ref y103), .val (.ref y139), .val (.int (1 : Int32)), .unset] [])) _
            refine XS.aload X150.here hx rfl (hb hby at_194) rfl rfl ?_
            show Steps p.tables e below (T150.setTop (mkF m 196 #[.val (.int mask), .val (.int t1), .val (.int t2), .val (.int t3), .val (.int f1), .val (.int f2), .val (.int f3), .val (.ref b22), .val (.int (0 : Int32)), .val (.int (1 : Int32)), .val (.ref y103), .val (.ref y139), .val (.int (1 : Int32)), .unset] [(.ref y139)])) _
            refine XS.iconst X150.here hx rfl (hb hby at_196) ?_
            show Steps p.tables e below (T150.setTop (mkF m 197 #[.val (.int mask), .val (.int t1), .val (.int t2), .val (.int t3), .val (.int f1), .val (.int f2), .val (.int f3), .val (.ref b22), .val (.int (0 : Int32)), .val (.int (1 : Int32)), .val (.ref y103), .val (.ref y139), .val (.int (1 : Int32)), .unset] [(.int (1 : Int32)), (.ref y139)])) _
            refine XS.iloadN X150.here hx rfl (hb hby at_197) rfl ?_
            show Steps p.tables e below (T150.setTop (mkF m 198 #[.val (.int mask), .val (.int t1), .val (.int t2), .val (.int t3), .val (.int f1), .val (.int f2), .val (.int f3), .val (.ref b22), .val (.int (0 : Int32)), .val (.int (1 : Int32)), .val (.ref y103), .val (.ref y139), .val (.int (1 : Int32)), .unset] [(.int t2), (.int (1 : Int32)), (.ref y139)])) _
            refine XS.iconst X150.here hx rfl (hb hby at_198) ?_
            exact kt)
        obtain ⟨_, _, ⟨T153, L153, k153, n153⟩, -, X153, ⟨Lc153, hQ153, l153, y153, z153⟩, st153⟩ := Jvm.LawKit.callS X150 hx (y := (⟨"com/example/unicept/unicept/WordTrieTagsPinLaw", "same", "([IIII)Z"⟩ : MethodName)) hown (mvT hZ (hw _ (List.mem_of_getElem? (i := 49) rfl))) (mvT hZ (hw _ (List.mem_of_getElem? (i := 50) rfl))) (mvT hZ (hw _ (List.mem_of_getElem? (i := 51) rfl))) (mvT hZ (hw _ (List.mem_of_getElem? (i := 52) rfl))) (by decide) (backOf (W := 0) (own_same1 l Z a0 hw [] y139 ky139 t2 (0 : Int32) T139.heap n0 (Nat.le_trans (Nat.le_trans (Nat.le_trans (Nat.le_trans (Nat.le_trans (Nat.le_trans Z0 E22.1) K25q.1) K28q.1) K31q.1) K103q.1) K139q.1) Vy139) hZ (hw _ (List.mem_of_getElem? (i := 52) rfl)) (hw _ (List.mem_of_getElem? (i := 51) rfl)) (by decide) (by decide)) (g := (mkF m 199 #[.val (.int mask), .val (.int t1), .val (.int t2), .val (.int t3), .val (.int f1), .val (.int f2), .val (.int f3), .val (.ref b22), .val (.int (0 : Int32)), .val (.int (1 : Int32)), .val (.ref y103), .val (.ref y139), .val (.int (1 : Int32)), .unset] [(.int (0 : Int32)), (.int t2), (.int (1 : Int32)), (.ref y139)])) rfl (by rw [hml]; rfl) (argsL := [(.ref y139), (.int (1 : Int32)), (.int t2), (.int (0 : Int32))]) (rest := []) (lenOf own_pd7 rfl) rfl (by show 2 * 0 + _ ≤ _; exact Nat.le_of_eq rfl) (hb hby at_199) (fun _ _ => ⟨rfl, e150, (by decide : 6 + 0 ≤ _), (by decide : 167 + 0 ≤ _)⟩)
        dsimp only [Pt.U, Pt.locs, Pt.cells, Pt.slots] at X153 l153 y153 z153 st153 hQ153
        subst l153 y153 z153
        obtain ⟨rfl, N153q, e153⟩ := hQ153
        have N153 := Fr.app N150 N153q
        have pre154 : Goes p e below s₁ (entryFrame m #[(.int mask), (.int t1), (.int t2), (.int t3)] maxLocals) T153 (mkF m 202 #[.val (.int mask), .val (.int t1), .val (.int t2), .val (.int t3), .val (.int f1), .val (.int f2), .val (.int f3), .val (.ref b22), .val (.int (0 : Int32)), .val (.int (1 : Int32)), .val (.ref y103), .val (.ref y139), .val (.int (1 : Int32)), .unset] [(.int (1 : Int32))]) := fun t kt => pre152 t (st153 t kt)
        have pre155 : Goes p e below s₁ (entryFrame m #[(.int mask), (.int t1), (.int t2), (.int t3)] maxLocals) T153 (mkF m 232 #[.val (.int mask), .val (.int t1), .val (.int t2), .val (.int t3), .val (.int f1), .val (.int f2), .val (.int f3), .val (.ref b22), .val (.int (0 : Int32)), .val (.int (1 : Int32)), .val (.ref y103), .val (.ref y139), .val (.int (1 : Int32)), .val (.int (1 : Int32))] [(.int (1 : Int32))]) := fun t kt => pre154 t (by
            show Steps p.tables e below (T153.setTop (mkF m 202 #[.val (.int mask), .val (.int t1), .val (.int t2), .val (.int t3), .val (.int f1), .val (.int f2), .val (.int f3), .val (.ref b22), .val (.int (0 : Int32)), .val (.int (1 : Int32)), .val (.ref y103), .val (.ref y139), .val (.int (1 : Int32)), .unset] [(.int (1 : Int32))])) _
            refine XS.istore X153.here hx rfl (hb hby at_202) rfl (l' := #[.val (.int mask), .val (.int t1), .val (.int t2), .val (.int t3), .val (.int f1), .val (.int f2), .val (.int f3), .val (.ref b22), .val (.int (0 : Int32)), .val (.int (1 : Int32)), .val (.ref y103), .val (.ref y139), .val (.int (1 : Int32)), .val (.int (1 : Int32))]) rfl ?_
            show Steps p.tables e below (T153.setTop (mkF m 204 #[.val (.int mask), .val (.int t1), .val (.int t2), .val (.int t3), .val (.int f1), .val (.int f2), .val (.int f3), .val (.ref b22), .val (.int (0 : Int32)), .val (.int (1 : Int32)), .val (.ref y103), .val (.ref y139), .val (.int (1 : Int32)), .val (.int (1 : Int32))] [])) _
            refine XS.goto X153.here hx rfl (pc0 := 204) (pc' := 217) rfl (hb hby at_204) (by decide) (by decide) ?_
            show Steps p.tables e below (T153.setTop (mkF m 217 #[.val (.int mask), .val (.int t1), .val (.int t2), .val (.int t3), .val (.int f1), .val (.int f2), .val (.int f3), .val (.ref b22), .val (.int (0 : Int32)), .val (.int (1 : Int32)), .val (.ref y103), .val (.ref y139), .val (.int (1 : Int32)), .val (.int (1 : Int32))] [])) _
            refine XS.iload X153.here hx rfl (hb hby at_217) rfl ?_
            show Steps p.tables e below (T153.setTop (mkF m 219 #[.val (.int mask), .val (.int t1), .val (.int t2), .val (.int t3), .val (.int f1), .val (.int f2), .val (.int f3), .val (.ref b22), .val (.int (0 : Int32)), .val (.int (1 : Int32)), .val (.ref y103), .val (.ref y139), .val (.int (1 : Int32)), .val (.int (1 : Int32))] [(.int (1 : Int32))])) _
            refine XS.ifNo X153.here hx rfl (hb hby at_219) rfl ((if0 _ _).trans (feq (by decide : ¬ ((1 : Int32) = (0 : Int32)))).1) ?_
            show Steps p.tables e below (T153.setTop (mkF m 222 #[.val (.int mask), .val (.int t1), .val (.int t2), .val (.int t3), .val (.int f1), .val (.int f2), .val (.int f3), .val (.ref b22), .val (.int (0 : Int32)), .val (.int (1 : Int32)), .val (.ref y103), .val (.ref y139), .val (.int (1 : Int32)), .val (.int (1 : Int32))] [])) _
            refine XS.iload X153.here hx rfl (hb hby at_222) rfl ?_
            show Steps p.tables e below (T153.setTop (mkF m 224 #[.val (.int mask), .val (.int t1), .val (.int t2), .val (.int t3), .val (.int f1), .val (.int f2), .val (.int f3), .val (.ref b22), .val (.int (0 : Int32)), .val (.int (1 : Int32)), .val (.ref y103), .val (.ref y139), .val (.int (1 : Int32)), .val (.int (1 : Int32))] [(.int (1 : Int32))])) _
            refine XS.ifNo X153.here hx rfl (hb hby at_224) rfl ((if0 _ _).trans (feq (by decide : ¬ ((1 : Int32) = (0 : Int32)))).1) ?_
            show Steps p.tables e below (T153.setTop (mkF m 227 #[.val (.int mask), .val (.int t1), .val (.int t2), .val (.int t3), .val (.int f1), .val (.int f2), .val (.int f3), .val (.ref b22), .val (.int (0 : Int32)), .val (.int (1 : Int32)), .val (.ref y103), .val (.ref y139), .val (.int (1 : Int32)), .val (.int (1 : Int32))] [])) _
            refine XS.iconst X153.here hx rfl (hb hby at_227) ?_
            show Steps p.tables e below (T153.setTop (mkF m 228 #[.val (.int mask), .val (.int t1), .val (.int t2), .val (.int t3), .val (.int f1), .val (.int f2), .val (.int f3), .val (.ref b22), .val (.int (0 : Int32)), .val (.int (1 : Int32)), .val (.ref y103), .val (.ref y139), .val (.int (1 : Int32)), .val (.int (1 : Int32))] [(.int (1 : Int32))])) _
            refine XS.goto X153.here hx rfl (pc0 := 228) (pc' := 232) rfl (hb hby at_228) (by decide) (by decide) ?_
            exact kt)
        obtain ⟨fs, hr, hrun, hended, hW, hsame⟩ := X153.leave (v := some (.int (1 : Int32))) (fun h => by rw [Bd.returns] at h; cases h)
        refine ⟨_, _, pre155 _ ?_, hrun, hended, _, _, rfl, ?_, ⟨_, rfl⟩, hW, hsame.mono (by decide) (by decide)⟩
        · show Steps p.tables e below (T153.setTop (mkF m 232 #[.val (.int mask), .val (.int t1), .val (.int t2), .val (.int t3), .val (.int f1), .val (.int f2), .val (.int f3), .val (.ref b22), .val (.int (0 : Int32)), .val (.int (1 : Int32)), .val (.ref y103), .val (.ref y139), .val (.int (1 : Int32)), .val (.int (1 : Int32))] [(.int (1 : Int32))])) _
          exact retN X153 hx (t := .boolean) Bd.returns (by simp) (hb hby at_232) hr
        · show Q_own_rm0 Z mask t1 t2 t3 nt kn h0 n0 _ T153.heap _
          rw [e153]
          exact ⟨rfl, N153⟩
      · -- no at pc 91: ff
        have pre156 : Goes p e below s₁ (entryFrame m #[(.int mask), (.int t1), (.int t2), (.int t3)] maxLocals) T139 (mkF m 99 #[.val (.int mask), .val (.int t1), .val (.int t2), .val (.int t3), .val (.int f1), .val (.int f2), .val (.int f3), .val (.ref b22), .val (.int (0 : Int32)), .val (.int (1 : Int32)), .unset, .unset, .unset, .unset] [(.int t3), (.int (0 : Int32)), (.ref b22)]) := fun t kt => pre141 t (by
            show Steps p.tables e below (T139.setTop (mkF m 91 #[.val (.int mask), .val (.int t1), .val (.int t2), .val (.int t3), .val (.int f1), .val (.int f2), .val (.int f3), .val (.ref b22), .val (.int (0 : Int32)), .val (.int (1 : Int32)), .unset, .unset, .unset, .unset] [(.int f3)])) _
            refine XS.ifNo X139.here hx rfl (hb hby at_91) rfl ((if0 _ _).trans (feq hc91_142).1) ?_
            show Steps p.tables e below (T139.setTop (mkF m 94 #[.val (.int mask), .val (.int t1), .val (.int t2), .val (.int t3), .val (.int f1), .val (.int f2), .val (.int f3), .val (.ref b22), .val (.int (0 : Int32)), .val (.int (1 : Int32)), .unset, .unset, .unset, .unset] [])) _
            refine XS.aload X139.here hx rfl (hb hby at_94) rfl rfl ?_
            show Steps p.tables e below (T139.setTop (mkF m 96 #[.val (.int mask), .val (.int t1), .val (.int t2), .val (.int t3), .val (.int f1), .val (.int f2), .val (.int f3), .val (.ref b22), .val (.int (0 : Int32)), .val (.int (1 : Int32)), .unset, .unset, .unset, .unset] [(.ref b22)])) _
            refine XS.iload X139.here hx rfl (hb hby at_96) rfl ?_
            show Steps p.tables e below (T139.setTop (mkF m 98 #[.val (.int mask), .val (.int t1), .val (.int t2), .val (.int t3), .val (.int f1), .val (.int f2), .val (.int f3), .val (.ref b22), .val (.int (0 : Int32)), .val (.int (1 : Int32)), .unset, .unset, .unset, .unset] [(.int (0 : Int32)), (.ref b22)])) _
            refine XS.iloadN X139.here hx rfl (hb hby at_98) rfl ?_
            exact kt)
        obtain ⟨cq157, kq157, q157a, q157b, q157c⟩ := isOf hZ rfl hT139.1
        obtain ⟨_, _, ⟨T157, L157, k157, n157⟩, -, X157, ⟨Lc157, hQ157, l157, y157, z157⟩, st157⟩ := X139.virtualBack hx (y := (⟨"com/example/unicept/unicept/WordTrie", "tag", "(II)V"⟩ : MethodName)) (z := (⟨"com/example/unicept/unicept/WordTrie", "tag", "(II)V"⟩ : MethodName)) hown (mvT hZ (hw _ (List.mem_of_getElem? (i := 53) rfl))) (mvT hZ (hw _ (List.mem_of_getElem? (i := 54) rfl))) (notFace_of_selects (args := #[]) (mvT hZ (hw _ (List.mem_of_getElem? (i := 56) rfl)))) (mvT hZ (hw _ (List.mem_of_getElem? (i := 56) rfl))) (mvT hZ (hw _ (List.mem_of_getElem? (i := 55) rfl))) (by decide) (backOf (W := 0) (own_tag1 l Z a0 hw [] b22 1 2 ch (own_fl (own_fl (fun _ => 0) (0 * 1) (0 * 1 + 1) (-1)) (1 * 1) (1 * 1 + 1) (-1)) rt (own_up (own_up (fun _ => 0) 0 (Int32.ofNat 0)) 1 (Int32.ofNat 1)) tg kt (((List.replicate 16 .null).set 0 (.ref y103)).set 1 (.ref y139)) (0 : Int32) t3 y103 ky103 t1 T139.heap n0 (Nat.le_trans (Nat.le_trans (Nat.le_trans (Nat.le_trans (Nat.le_trans (Nat.le_trans Z0 E22.1) K25q.1) K28q.1) K31q.1) K103q.1) K139q.1) hT139 Ov (by decide) (by simp) rfl (Vy103.keep K139q (ninS ny103 nin0))) hZ (hw _ (List.mem_of_getElem? (i := 57) rfl)) (hw _ (List.mem_of_getElem? (i := 2) rfl)) (by decide) (by decide)) q157a q157c (g := (mkF m 99 #[.val (.int mask), .val (.int t1), .val (.int t2), .val (.int t3), .val (.int f1), .val (.int f2), .val (.int f3), .val (.ref b22), .val (.int (0 : Int32)), .val (.int (1 : Int32)), .unset, .unset, .unset, .unset] [(.int t3), (.int (0 : Int32)), (.ref b22)])) rfl (by rw [hml]; rfl) (Steps.refl _) (argsL := [(.int (0 : Int32)), (.int t3)]) (rest := []) (lenOf own_pd8 rfl) rfl (by show 2 * 0 + _ ≤ _; exact Nat.le_of_eq rfl) (hb hby at_99) (fun _ _ => ⟨rfl, rfl, (by decide : 6 + 1 ≤ _), (by decide : 167 + 2 ≤ _)⟩)
        dsimp only [Pt.U, Pt.locs, Pt.cells, Pt.slots] at X157 l157 y157 z157 st157 hQ157
        subst l157 y157 z157
        obtain ⟨rfl, N157q, K157q, y157, ky157, zy157, gy157, ny157, Vy157, hT157⟩ := hQ157
        have N157 := Fr.app N139 N157q
        have KC157 : Keep h0 T157.heap [] := KC139.trans K157q (allS (Or.inr sz_tg) all0)
        have pre158 : Goes p e below s₁ (entryFrame m #[(.int mask), (.int t1), (.int t2), (.int t3)] maxLocals) T157 (mkF m 102 #[.val (.int mask), .val (.int t1), .val (.int t2), .val (.int t3), .val (.int f1), .val (.int f2), .val (.int f3), .val (.ref b22), .val (.int (0 : Int32)), .val (.int (1 : Int32)), .unset, .unset, .unset, .unset] []) := fun t kt => pre156 t (st157.trans kt)
        have pre159 : Goes p e below s₁ (entryFrame m #[(.int mask), (.int t1), (.int t2), (.int t3)] maxLocals) T157 (mkF m 106 #[.val (.int mask), .val (.int t1), .val (.int t2), .val (.int t3), .val (.int f1), .val (.int f2), .val (.int f3), .val (.ref b22), .val (.int (0 : Int32)), .val (.int (1 : Int32)), .unset, .unset, .unset, .unset] [(.int (0 : Int32)), (.ref b22)]) := fun t kt => pre158 t (by
            show Steps p.tables e below (T157.setTop (mkF m 102 #[.val (.int mask), .val (.int t1), .val (.int t2), .val (.int t3), .val (.int f1), .val (.int f2), .val (.int f3), .val (.ref b22), .val (.int (0 : Int32)), .val (.int (1 : Int32)), .unset, .unset, .unset, .unset] [])) _
            refine XS.aload X157.here hx rfl (hb hby at_102) rfl rfl ?_
            show Steps p.tables e below (T157.setTop (mkF m 104 #[.val (.int mask), .val (.int t1), .val (.int t2), .val (.int t3), .val (.int f1), .val (.int f2), .val (.int f3), .val (.ref b22), .val (.int (0 : Int32)), .val (.int (1 : Int32)), .unset, .unset, .unset, .unset] [(.ref b22)])) _
            refine XS.iload X157.here hx rfl (hb hby at_104) rfl ?_
            exact kt)
        obtain ⟨cq160, kq160, q160a, q160b, q160c⟩ := isOf hZ rfl hT157.1
        obtain ⟨_, _, ⟨T160, L160, k160, n160⟩, -, X160, ⟨Lc160, hQ160, l160, y160, z160⟩, st160⟩ := X157.virtualBack hx (y := (⟨"com/example/unicept/unicept/WordTrie", "tags", "(I)[I"⟩ : MethodName)) (z := (⟨"com/example/unicept/unicept/WordTrie", "tags", "(I)[I"⟩ : MethodName)) hown (mvT hZ (hw _ (List.mem_of_getElem? (i := 42) rfl))) (mvT hZ (hw _ (List.mem_of_getElem? (i := 43) rfl))) (notFace_of_selects (args := #[]) (mvT hZ (hw _ (List.mem_of_getElem? (i := 45) rfl)))) (mvT hZ (hw _ (List.mem_of_getElem? (i := 45) rfl))) (mvT hZ (hw _ (List.mem_of_getElem? (i := 44) rfl))) (by decide) (backOf (W := 0) (own_tags1 l Z a0 hw [] b22 1 2 ch (own_fl (own_fl (fun _ => 0) (0 * 1) (0 * 1 + 1) (-1)) (1 * 1) (1 * 1 + 1) (-1)) rt (own_up (own_up (fun _ => 0) 0 (Int32.ofNat 0)) 1 (Int32.ofNat 1)) tg kt ((((List.replicate 16 .null).set 0 (.ref y103)).set 1 (.ref y139)).set 0 (.ref y157)) (0 : Int32) y157 T157.heap n0 (Nat.le_trans (Nat.le_trans (Nat.le_trans (Nat.le_trans (Nat.le_trans (Nat.le_trans (Nat.le_trans Z0 E22.1) K25q.1) K28q.1) K31q.1) K103q.1) K139q.1) K157q.1) hT157 (by decide) rfl) hZ (hw _ (List.mem_of_getElem? (i := 46) rfl)) (hw _ (List.mem_of_getElem? (i := 2) rfl)) (by decide) (by decide)) q160a q160c (g := (mkF m 106 #[.val (.int mask), .val (.int t1), .val (.int t2), .val (.int t3), .val (.int f1), .val (.int f2), .val (.int f3), .val (.ref b22), .val (.int (0 : Int32)), .val (.int (1 : Int32)), .unset, .unset, .unset, .unset] [(.int (0 : Int32)), (.ref b22)])) rfl (by rw [hml]; rfl) (Steps.refl _) (argsL := [(.int (0 : Int32))]) (rest := []) (lenOf own_pd6 rfl) rfl (by show 2 * 0 + _ ≤ _; exact Nat.le_of_eq rfl) (hb hby at_106) (fun _ _ => ⟨rfl, rfl, (by decide : 7 + 0 ≤ _), (by decide : 169 + 0 ≤ _)⟩)
        dsimp only [Pt.U, Pt.locs, Pt.cells, Pt.slots] at X160 l160 y160 z160 st160 hQ160
        subst l160 y160 z160
        obtain ⟨rfl, N160q, e160⟩ := hQ160
        have N160 := Fr.app N157 N160q
        have pre161 : Goes p e below s₁ (entryFrame m #[(.int mask), (.int t1), (.int t2), (.int t3)] maxLocals) T160 (mkF m 109 #[.val (.int mask), .val (.int t1), .val (.int t2), .val (.int t3), .val (.int f1), .val (.int f2), .val (.int f3), .val (.ref b22), .val (.int (0 : Int32)), .val (.int (1 : Int32)), .unset, .unset, .unset, .unset] [(.ref y157)]) := fun t kt => pre159 t (st160.trans kt)
        have pre162 : Goes p e below s₁ (entryFrame m #[(.int mask), (.int t1), (.int t2), (.int t3)] maxLocals) T160 (mkF m 115 #[.val (.int mask), .val (.int t1), .val (.int t2), .val (.int t3), .val (.int f1), .val (.int f2), .val (.int f3), .val (.ref b22), .val (.int (0 : Int32)), .val (.int (1 : Int32)), .val (.ref y157), .unset, .unset, .unset] [(.int (1 : Int32)), (.ref b22)]) := fun t kt => pre161 t (by
            show Steps p.tables e below (T160.setTop (mkF m 109 #[.val (.int mask), .val (.int t1), .val (.int t2), .val (.int t3), .val (.int f1), .val (.int f2), .val (.int f3), .val (.ref b22), .val (.int (0 : Int32)), .val (.int (1 : Int32)), .unset, .unset, .unset, .unset] [(.ref y157)])) _
            refine XS.astore X160.here hx rfl (hb hby at_109) rfl rfl (l' := #[.val (.int mask), .val (.int t1), .val (.int t2), .val (.int t3), .val (.int f1), .val (.int f2), .val (.int f3), .val (.ref b22), .val (.int (0 : Int32)), .val (.int (1 : Int32)), .val (.ref y157), .unset, .unset, .unset]) rfl ?_
            show Steps p.tables e below (T160.setTop (mkF m 111 #[.val (.int mask), .val (.int t1), .val (.int t2), .val (.int t3), .val (.int f1), .val (.int f2), .val (.int f3), .val (.ref b22), .val (.int (0 : Int32)), .val (.int (1 : Int32)), .val (.ref y157), .unset, .unset, .unset] [])) _
            refine XS.aload X160.here hx rfl (hb hby at_111) rfl rfl ?_
            show Steps p.tables e below (T160.setTop (mkF m 113 #[.val (.int mask), .val (.int t1), .val (.int t2), .val (.int t3), .val (.int f1), .val (.int f2), .val (.int f3), .val (.ref b22), .val (.int (0 : Int32)), .val (.int (1 : Int32)), .val (.ref y157), .unset, .unset, .unset] [(.ref b22)])) _
            refine XS.iload X160.here hx rfl (hb hby at_113) rfl ?_
            exact kt)
        obtain ⟨cq163, kq163, q163a, q163b, q163c⟩ := isOf hZ e160 hT157.1
        obtain ⟨_, _, ⟨T163, L163, k163, n163⟩, -, X163, ⟨Lc163, hQ163, l163, y163, z163⟩, st163⟩ := X160.virtualBack hx (y := (⟨"com/example/unicept/unicept/WordTrie", "tags", "(I)[I"⟩ : MethodName)) (z := (⟨"com/example/unicept/unicept/WordTrie", "tags", "(I)[I"⟩ : MethodName)) hown (mvT hZ (hw _ (List.mem_of_getElem? (i := 42) rfl))) (mvT hZ (hw _ (List.mem_of_getElem? (i := 43) rfl))) (notFace_of_selects (args := #[]) (mvT hZ (hw _ (List.mem_of_getElem? (i := 45) rfl)))) (mvT hZ (hw _ (List.mem_of_getElem? (i := 45) rfl))) (mvT hZ (hw _ (List.mem_of_getElem? (i := 44) rfl))) (by decide) (backOf (W := 0) (own_tags1 l Z a0 hw [] b22 1 2 ch (own_fl (own_fl (fun _ => 0) (0 * 1) (0 * 1 + 1) (-1)) (1 * 1) (1 * 1 + 1) (-1)) rt (own_up (own_up (fun _ => 0) 0 (Int32.ofNat 0)) 1 (Int32.ofNat 1)) tg kt ((((List.replicate 16 .null).set 0 (.ref y103)).set 1 (.ref y139)).set 0 (.ref y157)) (1 : Int32) y139 T157.heap n0 (Nat.le_trans (Nat.le_trans (Nat.le_trans (Nat.le_trans (Nat.le_trans (Nat.le_trans (Nat.le_trans Z0 E22.1) K25q.1) K28q.1) K31q.1) K103q.1) K139q.1) K157q.1) hT157 (by decide) rfl) hZ (hw _ (List.mem_of_getElem? (i := 46) rfl)) (hw _ (List.mem_of_getElem? (i := 2) rfl)) (by decide) (by decide)) q163a q163c (g := (mkF m 115 #[.val (.int mask), .val (.int t1), .val (.int t2), .val (.int t3), .val (.int f1), .val (.int f2), .val (.int f3), .val (.ref b22), .val (.int (0 : Int32)), .val (.int (1 : Int32)), .val (.ref y157), .unset, .unset, .unset] [(.int (1 : Int32)), (.ref b22)])) rfl (by rw [hml]; rfl) (Steps.refl _) (argsL := [(.int (1 : Int32))]) (rest := []) (lenOf own_pd6 rfl) rfl (by show 2 * 0 + _ ≤ _; exact Nat.le_of_eq rfl) (hb hby at_115) (fun _ _ => ⟨rfl, e160, (by decide : 7 + 0 ≤ _), (by decide : 169 + 0 ≤ _)⟩)
        dsimp only [Pt.U, Pt.locs, Pt.cells, Pt.slots] at X163 l163 y163 z163 st163 hQ163
        subst l163 y163 z163
        obtain ⟨rfl, N163q, e163⟩ := hQ163
        have N163 := Fr.app N160 N163q
        have pre164 : Goes p e below s₁ (entryFrame m #[(.int mask), (.int t1), (.int t2), (.int t3)] maxLocals) T163 (mkF m 118 #[.val (.int mask), .val (.int t1), .val (.int t2), .val (.int t3), .val (.int f1), .val (.int f2), .val (.int f3), .val (.ref b22), .val (.int (0 : Int32)), .val (.int (1 : Int32)), .val (.ref y157), .unset, .unset, .unset] [(.ref y139)]) := fun t kt => pre162 t (st163.trans kt)
        have pre165 : Goes p e below s₁ (entryFrame m #[(.int mask), (.int t1), (.int t2), (.int t3)] maxLocals) T163 (mkF m 135 #[.val (.int mask), .val (.int t1), .val (.int t2), .val (.int t3), .val (.int f1), .val (.int f2), .val (.int f3), .val (.ref b22), .val (.int (0 : Int32)), .val (.int (1 : Int32)), .val (.ref y157), .val (.ref y139), .unset, .unset] [(.int t3), (.int t1), (.int (2 : Int32)), (.ref y157)]) := fun t kt => pre164 t (by
            show Steps p.tables e below (T163.setTop (mkF m 118 #[.val (.int mask), .val (.int t1), .val (.int t2), .val (.int t3), .val (.int f1), .val (.int f2), .val (.int f3), .val (.ref b22), .val (.int (0 : Int32)), .val (.int (1 : Int32)), .val (.ref y157), .unset, .unset, .unset] [(.ref y139)])) _
            refine XS.astore X163.here hx rfl (hb hby at_118) rfl rfl (l' := #[.val (.int mask), .val (.int t1), .val (.int t2), .val (.int t3), .val (.int f1), .val (.int f2), .val (.int f3), .val (.ref b22), .val (.int (0 : Int32)), .val (.int (1 : Int32)), .val (.ref y157), .val (.ref y139), .unset, .unset]) rfl ?_
            show Steps p.tables e below (T163.setTop (mkF m 120 #[.val (.int mask), .val (.int t1), .val (.int t2), .val (.int t3), .val (.int f1), .val (.int f2), .val (.int f3), .val (.ref b22), .val (.int (0 : Int32)), .val (.int (1 : Int32)), .val (.ref y157), .val (.ref y139), .unset, .unset] [])) _
            refine XS.iload X163.here hx rfl (hb hby at_120) rfl ?_
            show Steps p.tables e below (T163.setTop (mkF m 122 #[.val (.int mask), .val (.int t1), .val (.int t2), .val (.int t3), .val (.int f1), .val (.int f2), .val (.int f3), .val (.ref b22), .val (.int (0 : Int32)), .val (.int (1 : Int32)), .val (.ref y157), .val (.ref y139), .unset, .unset] [(.int f1)])) _
            refine XS.ifNo X163.here hx rfl (hb hby at_122) rfl ((if0 _ _).trans (feq hc65_34).1) ?_
            show Steps p.tables e below (T163.setTop (mkF m 125 #[.val (.int mask), .val (.int t1), .val (.int t2), .val (.int t3), .val (.int f1), .val (.int f2), .val (.int f3), .val (.ref b22), .val (.int (0 : Int32)), .val (.int (1 : Int32)), .val (.ref y157), .val (.ref y139), .unset, .unset] [])) _
            refine XS.iload X163.here hx rfl (hb hby at_125) rfl ?_
            show Steps p.tables e below (T163.setTop (mkF m 127 #[.val (.int mask), .val (.int t1), .val (.int t2), .val (.int t3), .val (.int f1), .val (.int f2), .val (.int f3), .val (.ref b22), .val (.int (0 : Int32)), .val (.int (1 : Int32)), .val (.ref y157), .val (.ref y139), .unset, .unset] [(.int f3)])) _
            refine XS.ifNo X163.here hx rfl (hb hby at_127) rfl ((if0 _ _).trans (feq hc91_142).1) ?_
            show Steps p.tables e below (T163.setTop (mkF m 130 #[.val (.int mask), .val (.int t1), .val (.int t2), .val (.int t3), .val (.int f1), .val (.int f2), .val (.int f3), .val (.ref b22), .val (.int (0 : Int32)), .val (.int (1 : Int32)), .val (.ref y157), .val (.ref y139), .unset, .unset] [])) _
            refine XS.aload X163.here hx rfl (hb hby at_130) rfl rfl ?_
            show Steps p.tables e below (T163.setTop (mkF m 132 #[.val (.int mask), .val (.int t1), .val (.int t2), .val (.int t3), .val (.int f1), .val (.int f2), .val (.int f3), .val (.ref b22), .val (.int (0 : Int32)), .val (.int (1 : Int32)), .val (.ref y157), .val (.ref y139), .unset, .unset] [(.ref y157)])) _
            refine XS.iconst X163.here hx rfl (hb hby at_132) ?_
            show Steps p.tables e below (T163.setTop (mkF m 133 #[.val (.int mask), .val (.int t1), .val (.int t2), .val (.int t3), .val (.int f1), .val (.int f2), .val (.int f3), .val (.ref b22), .val (.int (0 : Int32)), .val (.int (1 : Int32)), .val (.ref y157), .val (.ref y139), .unset, .unset] [(.int (2 : Int32)), (.ref y157)])) _
            refine XS.iloadN X163.here hx rfl (hb hby at_133) rfl ?_
            show Steps p.tables e below (T163.setTop (mkF m 134 #[.val (.int mask), .val (.int t1), .val (.int t2), .val (.int t3), .val (.int f1), .val (.int f2), .val (.int f3), .val (.ref b22), .val (.int (0 : Int32)), .val (.int (1 : Int32)), .val (.ref y157), .val (.ref y139), .unset, .unset] [(.int t1), (.int (2 : Int32)), (.ref y157)])) _
            refine XS.iloadN X163.here hx rfl (hb hby at_134) rfl ?_
            exact kt)
        obtain ⟨_, _, ⟨T166, L166, k166, n166⟩, -, X166, ⟨Lc166, hQ166, l166, y166, z166⟩, st166⟩ := Jvm.LawKit.callS X163 hx (y := (⟨"com/example/unicept/unicept/WordTrieTagsPinLaw", "same", "([IIII)Z"⟩ : MethodName)) hown (mvT hZ (hw _ (List.mem_of_getElem? (i := 49) rfl))) (mvT hZ (hw _ (List.mem_of_getElem? (i := 50) rfl))) (mvT hZ (hw _ (List.mem_of_getElem? (i := 51) rfl))) (mvT hZ (hw _ (List.mem_of_getElem? (i := 52) rfl))) (by decide) (backOf (W := 0) (own_same2 l Z a0 hw [] y157 ky157 t1 t3 T157.heap n0 (Nat.le_trans (Nat.le_trans (Nat.le_trans (Nat.le_trans (Nat.le_trans (Nat.le_trans (Nat.le_trans Z0 E22.1) K25q.1) K28q.1) K31q.1) K103q.1) K139q.1) K157q.1) Vy157) hZ (hw _ (List.mem_of_getElem? (i := 52) rfl)) (hw _ (List.mem_of_getElem? (i := 51) rfl)) (by decide) (by decide)) (g := (mkF m 135 #[.val (.int mask), .val (.int t1), .val (.int t2), .val (.int t3), .val (.int f1), .val (.int f2), .val (.int f3), .val (.ref b22), .val (.int (0 : Int32)), .val (.int (1 : Int32)), .val (.ref y157), .val (.ref y139), .unset, .unset] [(.int t3), (.int t1), (.int (2 : Int32)), (.ref y157)])) rfl (by rw [hml]; rfl) (argsL := [(.ref y157), (.int (2 : Int32)), (.int t1), (.int t3)]) (rest := []) (lenOf own_pd7 rfl) rfl (by show 2 * 0 + _ ≤ _; exact Nat.le_of_eq rfl) (hb hby at_135) (fun _ _ => ⟨rfl, e163, (by decide : 7 + 0 ≤ _), (by decide : 169 + 0 ≤ _)⟩)
        dsimp only [Pt.U, Pt.locs, Pt.cells, Pt.slots] at X166 l166 y166 z166 st166 hQ166
        subst l166 y166 z166
        obtain ⟨rfl, N166q, e166⟩ := hQ166
        have N166 := Fr.app N163 N166q
        have pre167 : Goes p e below s₁ (entryFrame m #[(.int mask), (.int t1), (.int t2), (.int t3)] maxLocals) T166 (mkF m 138 #[.val (.int mask), .val (.int t1), .val (.int t2), .val (.int t3), .val (.int f1), .val (.int f2), .val (.int f3), .val (.ref b22), .val (.int (0 : Int32)), .val (.int (1 : Int32)), .val (.ref y157), .val (.ref y139), .unset, .unset] [(.int (1 : Int32))]) := fun t kt => pre165 t (st166 t kt)
        have pre168 : Goes p e below s₁ (entryFrame m #[(.int mask), (.int t1), (.int t2), (.int t3)] maxLocals) T166 (mkF m 199 #[.val (.int mask), .val (.int t1), .val (.int t2), .val (.int t3), .val (.int f1), .val (.int f2), .val (.int f3), .val (.ref b22), .val (.int (0 : Int32)), .val (.int (1 : Int32)), .val (.ref y157), .val (.ref y139), .val (.int (1 : Int32)), .unset] [(.int (0 : Int32)), (.int t2), (.int (1 : Int32)), (.ref y139)]) := fun t kt => pre167 t (by
            show Steps p.tables e below (T166.setTop (mkF m 138 #[.val (.int mask), .val (.int t1), .val (.int t2), .val (.int t3), .val (.int f1), .val (.int f2), .val (.int f3), .val (.ref b22), .val (.int (0 : Int32)), .val (.int (1 : Int32)), .val (.ref y157), .val (.ref y139), .unset, .unset] [(.int (1 : Int32))])) _
            refine XS.istore X166.here hx rfl (hb hby at_138) rfl (l' := #[.val (.int mask), .val (.int t1), .val (.int t2), .val (.int t3), .val (.int f1), .val (.int f2), .val (.int f3), .val (.ref b22), .val (.int (0 : Int32)), .val (.int (1 : Int32)), .val (.ref y157), .val (.ref y139), .val (.int (1 : Int32)), .unset]) rfl ?_
            show Steps p.tables e below (T166.setTop (mkF m 140 #[.val (.int mask), .val (.int t1), .val (.int t2), .val (.int t3), .val (.int f1), .val (.int f2), .val (.int f3), .val (.ref b22), .val (.int (0 : Int32)), .val (.int (1 : Int32)), .val (.ref y157), .val (.ref y139), .val (.int (1 : Int32)), .unset] [])) _
            refine XS.goto X166.here hx rfl (pc0 := 140) (pc' := 189) rfl (hb hby at_140) (by decide) (by decide) ?_
            show Steps p.tables e below (T166.setTop (mkF m 189 #[.val (.int mask), .val (.int t1), .val (.int t2), .val (.int t3), .val (.int f1), .val (.int f2), .val (.int f3), .val (.ref b22), .val (.int (0 : Int32)), .val (.int (1 : Int32)), .val (.ref y157), .val (.ref y139), .val (.int (1 : Int32)), .unset] [])) _
            refine XS.iload X166.here hx rfl (hb hby at_189) rfl ?_
            show Steps p.tables e below (T166.setTop (mkF m 191 #[.val (.int mask), .val (.int t1), .val (.int t2), .val (.int t3), .val (.int f1), .val (.int f2), .val (.int f3), .val (.ref b22), .val (.int (0 : Int32)), .val (.int (1 : Int32)), .val (.ref y157), .val (.ref y139), .val (.int (1 : Int32)), .unset] [(.int f2)])) _
            refine XS.ifNo X166.here hx rfl (hb hby at_191) rfl ((if0 _ _).trans (feq hc78_106).1) ?_
            show Steps p.tables e below (T166.setTop (mkF m 194 #[.val (.int mask), .val (.int t1), .val (.int t2), .val (.int t3), .val (.int f1), .val (.int f2), .val (.int f3), .val (.ref b22), .val (.int (0 : Int32)), .val (.int (1 : Int32)), .val (.ref y157), .val (.ref y139), .val (.int (1 : Int32)), .unset] [])) _
            refine XS.aload X166.here hx rfl (hb hby at_194) rfl rfl ?_
            show Steps p.tables e below (T166.setTop (mkF m 196 #[.val (.int mask), .val (.int t1), .val (.int t2), .val (.int t3), .val (.int f1), .val (.int f2), .val (.int f3), .val (.ref b22), .val (.int (0 : Int32)), .val (.int (1 : Int32)), .val (.ref y157), .val (.ref y139), .val (.int (1 : Int32)), .unset] [(.ref y139)])) _
            refine XS.iconst X166.here hx rfl (hb hby at_196) ?_
            show Steps p.tables e below (T166.setTop (mkF m 197 #[.val (.int mask), .val (.int t1), .val (.int t2), .val (.int t3), .val (.int f1), .val (.int f2), .val (.int f3), .val (.ref b22), .val (.int (0 : Int32)), .val (.int (1 : Int32)), .val (.ref y157), .val (.ref y139), .val (.int (1 : Int32)), .unset] [(.int (1 : Int32)), (.ref y139)])) _
            refine XS.iloadN X166.here hx rfl (hb hby at_197) rfl ?_
            show Steps p.tables e below (T166.setTop (mkF m 198 #[.val (.int mask), .val (.int t1), .val (.int t2), .val (.int t3), .val (.int f1), .val (.int f2), .val (.int f3), .val (.ref b22), .val (.int (0 : Int32)), .val (.int (1 : Int32)), .val (.ref y157), .val (.ref y139), .val (.int (1 : Int32)), .unset] [(.int t2), (.int (1 : Int32)), (.ref y139)])) _
            refine XS.iconst X166.here hx rfl (hb hby at_198) ?_
            exact kt)
        obtain ⟨_, _, ⟨T169, L169, k169, n169⟩, -, X169, ⟨Lc169, hQ169, l169, y169, z169⟩, st169⟩ := Jvm.LawKit.callS X166 hx (y := (⟨"com/example/unicept/unicept/WordTrieTagsPinLaw", "same", "([IIII)Z"⟩ : MethodName)) hown (mvT hZ (hw _ (List.mem_of_getElem? (i := 49) rfl))) (mvT hZ (hw _ (List.mem_of_getElem? (i := 50) rfl))) (mvT hZ (hw _ (List.mem_of_getElem? (i := 51) rfl))) (mvT hZ (hw _ (List.mem_of_getElem? (i := 52) rfl))) (by decide) (backOf (W := 0) (own_same1 l Z a0 hw [] y139 ky139 t2 (0 : Int32) T157.heap n0 (Nat.le_trans (Nat.le_trans (Nat.le_trans (Nat.le_trans (Nat.le_trans (Nat.le_trans (Nat.le_trans Z0 E22.1) K25q.1) K28q.1) K31q.1) K103q.1) K139q.1) K157q.1) (Vy139.keep K157q (ninS ny139 nin0))) hZ (hw _ (List.mem_of_getElem? (i := 52) rfl)) (hw _ (List.mem_of_getElem? (i := 51) rfl)) (by decide) (by decide)) (g := (mkF m 199 #[.val (.int mask), .val (.int t1), .val (.int t2), .val (.int t3), .val (.int f1), .val (.int f2), .val (.int f3), .val (.ref b22), .val (.int (0 : Int32)), .val (.int (1 : Int32)), .val (.ref y157), .val (.ref y139), .val (.int (1 : Int32)), .unset] [(.int (0 : Int32)), (.int t2), (.int (1 : Int32)), (.ref y139)])) rfl (by rw [hml]; rfl) (argsL := [(.ref y139), (.int (1 : Int32)), (.int t2), (.int (0 : Int32))]) (rest := []) (lenOf own_pd7 rfl) rfl (by show 2 * 0 + _ ≤ _; exact Nat.le_of_eq rfl) (hb hby at_199) (fun _ _ => ⟨rfl, e166, (by decide : 7 + 0 ≤ _), (by decide : 169 + 0 ≤ _)⟩)
        dsimp only [Pt.U, Pt.locs, Pt.cells, Pt.slots] at X169 l169 y169 z169 st169 hQ169
        subst l169 y169 z169
        obtain ⟨rfl, N169q, e169⟩ := hQ169
        have N169 := Fr.app N166 N169q
        have pre170 : Goes p e below s₁ (entryFrame m #[(.int mask), (.int t1), (.int t2), (.int t3)] maxLocals) T169 (mkF m 202 #[.val (.int mask), .val (.int t1), .val (.int t2), .val (.int t3), .val (.int f1), .val (.int f2), .val (.int f3), .val (.ref b22), .val (.int (0 : Int32)), .val (.int (1 : Int32)), .val (.ref y157), .val (.ref y139), .val (.int (1 : Int32)), .unset] [(.int (1 : Int32))]) := fun t kt => pre168 t (st169 t kt)
        have pre171 : Goes p e below s₁ (entryFrame m #[(.int mask), (.int t1), (.int t2), (.int t3)] maxLocals) T169 (mkF m 232 #[.val (.int mask), .val (.int t1), .val (.int t2), .val (.int t3), .val (.int f1), .val (.int f2), .val (.int f3), .val (.ref b22), .val (.int (0 : Int32)), .val (.int (1 : Int32)), .val (.ref y157), .val (.ref y139), .val (.int (1 : Int32)), .val (.int (1 : Int32))] [(.int (1 : Int32))]) := fun t kt => pre170 t (by
            show Steps p.tables e below (T169.setTop (mkF m 202 #[.val (.int mask), .val (.int t1), .val (.int t2), .val (.int t3), .val (.int f1), .val (.int f2), .val (.int f3), .val (.ref b22), .val (.int (0 : Int32)), .val (.int (1 : Int32)), .val (.ref y157), .val (.ref y139), .val (.int (1 : Int32)), .unset] [(.int (1 : Int32))])) _
            refine XS.istore X169.here hx rfl (hb hby at_202) rfl (l' := #[.val (.int mask), .val (.int t1), .val (.int t2), .val (.int t3), .val (.int f1), .val (.int f2), .val (.int f3), .val (.ref b22), .val (.int (0 : Int32)), .val (.int (1 : Int32)), .val (.ref y157), .val (.ref y139), .val (.int (1 : Int32)), .val (.int (1 : Int32))]) rfl ?_
            show Steps p.tables e below (T169.setTop (mkF m 204 #[.val (.int mask), .val (.int t1), .val (.int t2), .val (.int t3), .val (.int f1), .val (.int f2), .val (.int f3), .val (.ref b22), .val (.int (0 : Int32)), .val (.int (1 : Int32)), .val (.ref y157), .val (.ref y139), .val (.int (1 : Int32)), .val (.int (1 : Int32))] [])) _
            refine XS.goto X169.here hx rfl (pc0 := 204) (pc' := 217) rfl (hb hby at_204) (by decide) (by decide) ?_
            show Steps p.tables e below (T169.setTop (mkF m 217 #[.val (.int mask), .val (.int t1), .val (.int t2), .val (.int t3), .val (.int f1), .val (.int f2), .val (.int f3), .val (.ref b22), .val (.int (0 : Int32)), .val (.int (1 : Int32)), .val (.ref y157), .val (.ref y139), .val (.int (1 : Int32)), .val (.int (1 : Int32))] [])) _
            refine XS.iload X169.here hx rfl (hb hby at_217) rfl ?_
            show Steps p.tables e below (T169.setTop (mkF m 219 #[.val (.int mask), .val (.int t1), .val (.int t2), .val (.int t3), .val (.int f1), .val (.int f2), .val (.int f3), .val (.ref b22), .val (.int (0 : Int32)), .val (.int (1 : Int32)), .val (.ref y157), .val (.ref y139), .val (.int (1 : Int32)), .val (.int (1 : Int32))] [(.int (1 : Int32))])) _
            refine XS.ifNo X169.here hx rfl (hb hby at_219) rfl ((if0 _ _).trans (feq (by decide : ¬ ((1 : Int32) = (0 : Int32)))).1) ?_
            show Steps p.tables e below (T169.setTop (mkF m 222 #[.val (.int mask), .val (.int t1), .val (.int t2), .val (.int t3), .val (.int f1), .val (.int f2), .val (.int f3), .val (.ref b22), .val (.int (0 : Int32)), .val (.int (1 : Int32)), .val (.ref y157), .val (.ref y139), .val (.int (1 : Int32)), .val (.int (1 : Int32))] [])) _
            refine XS.iload X169.here hx rfl (hb hby at_222) rfl ?_
            show Steps p.tables e below (T169.setTop (mkF m 224 #[.val (.int mask), .val (.int t1), .val (.int t2), .val (.int t3), .val (.int f1), .val (.int f2), .val (.int f3), .val (.ref b22), .val (.int (0 : Int32)), .val (.int (1 : Int32)), .val (.ref y157), .val (.ref y139), .val (.int (1 : Int32)), .val (.int (1 : Int32))] [(.int (1 : Int32))])) _
            refine XS.ifNo X169.here hx rfl (hb hby at_224) rfl ((if0 _ _).trans (feq (by decide : ¬ ((1 : Int32) = (0 : Int32)))).1) ?_
            show Steps p.tables e below (T169.setTop (mkF m 227 #[.val (.int mask), .val (.int t1), .val (.int t2), .val (.int t3), .val (.int f1), .val (.int f2), .val (.int f3), .val (.ref b22), .val (.int (0 : Int32)), .val (.int (1 : Int32)), .val (.ref y157), .val (.ref y139), .val (.int (1 : Int32)), .val (.int (1 : Int32))] [])) _
            refine XS.iconst X169.here hx rfl (hb hby at_227) ?_
            show Steps p.tables e below (T169.setTop (mkF m 228 #[.val (.int mask), .val (.int t1), .val (.int t2), .val (.int t3), .val (.int f1), .val (.int f2), .val (.int f3), .val (.ref b22), .val (.int (0 : Int32)), .val (.int (1 : Int32)), .val (.ref y157), .val (.ref y139), .val (.int (1 : Int32)), .val (.int (1 : Int32))] [(.int (1 : Int32))])) _
            refine XS.goto X169.here hx rfl (pc0 := 228) (pc' := 232) rfl (hb hby at_228) (by decide) (by decide) ?_
            exact kt)
        obtain ⟨fs, hr, hrun, hended, hW, hsame⟩ := X169.leave (v := some (.int (1 : Int32))) (fun h => by rw [Bd.returns] at h; cases h)
        refine ⟨_, _, pre171 _ ?_, hrun, hended, _, _, rfl, ?_, ⟨_, rfl⟩, hW, hsame.mono (by decide) (by decide)⟩
        · show Steps p.tables e below (T169.setTop (mkF m 232 #[.val (.int mask), .val (.int t1), .val (.int t2), .val (.int t3), .val (.int f1), .val (.int f2), .val (.int f3), .val (.ref b22), .val (.int (0 : Int32)), .val (.int (1 : Int32)), .val (.ref y157), .val (.ref y139), .val (.int (1 : Int32)), .val (.int (1 : Int32))] [(.int (1 : Int32))])) _
          exact retN X169 hx (t := .boolean) Bd.returns (by simp) (hb hby at_232) hr
        · show Q_own_rm0 Z mask t1 t2 t3 nt kn h0 n0 _ T169.heap _
          rw [e169]
          exact ⟨rfl, N169⟩
set_option maxRecDepth 65536 in
set_option maxHeartbeats 40000000 in
theorem comes_1 {Post : Tables → Env → Array Value → State → Outcome → State → Prop} (hpost : ∀ tb e args s v u, (limb_1_1.after args s (.returned v) u = true ∧ limb_1_2.after args s (.returned v) u = true ∧ True) → FrameEnd s (.returned v) u (Jvm.fieldLocs frame_1_writes args s ++ Jvm.arrayLocs frame_1_arrays args s ++ Jvm.staticLocs frame_1_statics s) 24 192 → Post tb e args s (.returned v) u) :
    ArmFor flags0 classFile x code maxLocals ret World_1 tables_1 room_1 Calls_1 rest_1 Pre_1 Post := by
  intro l hfl _ _ p e ha hc hk s m args below hf hA hF happ hP
  obtain ⟨hcalls, hrest, hpre⟩ := hP
  obtain ⟨-, -, -, hnamed, -, -, -, hat⟩ := (Spec.applies_iff hf).mp happ
  obtain ⟨hg, hn⟩ := and_e (Cond.before_iff.mp (show (Jvm.Cond.and given_1 narrow_1).before args s = true from hpre))
  obtain ⟨g5, g6⟩ := and_e hg
  obtain ⟨g7, g8⟩ := and_e g6
  obtain ⟨g9, g10⟩ := and_e g8
  obtain ⟨g11, g12⟩ := and_e g10
  obtain ⟨w0, w1, w2, w3, rfl⟩ : ∃ w0 w1 w2 w3 : Value, args = #[w0, w1, w2, w3] := by
    have hs : args.size = 4 := by simpa [Cond.value, given_1] using g5
    obtain ⟨L⟩ := args
    match L, hs with
    | [w0, w1, w2, w3], _ => exact ⟨w0, w1, w2, w3, rfl⟩
  have hw := fun d (hd : d ∈ tables_1) => atoms_spec (ws := Jvm.Cond.code x code maxLocals ret :: tables_1) hat d (List.mem_cons_of_mem _ hd)
  have hfit : Fit s := fun {y c} hc i hi => by
    obtain ⟨ha, rfl⟩ := Array.getElem?_eq_some_iff.mp hc
    have q := List.all_eq_true.mp ((Array.all_eq_true_iff_forall_mem.mp hF) _ (Array.getElem_mem ha)) i (List.mem_range.mpr hi)
    simpa [Array.getElem?_eq_getElem hi] using q
  obtain ⟨i0, ei0⟩ := is_v g7
  obtain rfl : w0 = (.int i0) := Option.some.inj ei0
  obtain ⟨i1, ei1⟩ := is_v g9
  obtain rfl : w1 = (.int i1) := Option.some.inj ei1
  obtain ⟨i2, ei2⟩ := is_v g11
  obtain rfl : w2 = (.int i2) := Option.some.inj ei2
  obtain ⟨i3, ei3⟩ := is_v g12
  obtain rfl : w3 = (.int i3) := Option.some.inj ei3
  obtain ⟨q0, r0⟩ := and_e hn
  obtain ⟨q1, q2⟩ := and_e r0
  obtain ⟨nt, evNT⟩ := arr_v q0
  have S_NT := Sta.start evNT (Or.inr ⟨(hw _ (List.mem_of_getElem? (i := 2) rfl)), (hw _ (List.mem_of_getElem? (i := 48) rfl))⟩)
  obtain ⟨kn, V_nt⟩ := own_nt hfit evNT q0 q2
  obtain ⟨n, o, h1, h2, h3, _, L, rfl, ⟨rfl, N⟩, hq⟩ := own_rm0 l s _ hw tables_1 i0 i1 i2 i3 nt kn s.heap s.heap.size (Nat.le_refl _) S_NT (Old.start s) V_nt p e ha hc hk s m _ below hf ((Spec.applies_iff_loose hf).mp happ).1 ⟨rfl, State.Warmed39.refl s, rfl⟩ trivial
  refine ⟨n, _, h1, h2, h3, hpost _ _ _ _ _ _ ⟨Cond.after_iff.mpr rfl, Cond.after_iff.mpr (eq_i res_at (Term.int_eval (1)) rfl), trivial⟩ ⟨hq.1, hq.2.1, (hq.2.2.sift fun y hy => Or.inr (N y hy)).mono (by decide) (by decide)⟩⟩
theorem main_1_1 : Claimed_1_1 := comes_1 fun _ _ _ _ _ _ h hF => ⟨h.1, hF⟩
theorem main_1_2 : Claimed_1_2 := comes_1 fun _ _ _ _ _ _ h hF => ⟨h.2.1, hF⟩
end Jvm.Pilot.@@N@@
namespace Jvm.Pilot.@@N@@
open Jvm Jvm.ClassFile Sem Op Lib Jvm.Free Jvm.Stand Jvm.Pilot.@@N@@.Jvm.D
/-! MADE BY PROGRAM (witnessworld.py) out of the Statement's table words and the real class files: 12 classes; the members and pool entries that the words name. The judged class is class 1, her method 2. -/
namespace start1
open Jvm.ClassFile
def u (s : String) : CpInfo := .utf8 (stringToUtf16 s)
/-- a pool by its gaps: so many unusable entries, then the entry; so many at the end -/
def gap : Nat → List CpInfo → List CpInfo
  | 0, r => r
  | n + 1, r => .unusable :: gap n r
def poolList (es : List (Nat × CpInfo)) (last : Nat) : List CpInfo := es.foldr (fun e r => gap e.1 (e.2 :: r)) (gap last [])
def pool (es : List (Nat × CpInfo)) (last : Nat) : Array CpInfo := ⟨poolList es last⟩
def fileOf (pool : Array CpInfo) (this : Nat) (attrs : Array Attribute := #[]) (ms : Array MethodInfo := #[]) (fl : Nat := 33) (sup : Nat := 0) (ifs : Array Nat := #[]) (fds : Array FieldInfo := #[]) : ClassFile where
  minorVersion := 0
  majorVersion := 65
  constantPool := pool
  accessFlags := fl
  thisClass := this
  superClass := sup
  interfaces := ifs
  fields := fds
  methods := ms
  attributes := attrs
def plain (name : String) (sup : Option ClassId) : Class where
  name := name
  kind := .ordinary
  loader := none
  accessFlags := 33
  super := sup
  interfaces := #[]
  cf := none
  fields := #[]
  methods := #[]
  instanceTypes := #[]
  staticTypes := #[]
  resolved := #[]
  callSites := []
  init := .initialized
  statics := none
  mirror := none

def pool0 : Array CpInfo := pool [(5, u "<init>"), (0, u "()V"), (1, .class_ 10), (1, u "java/lang/Object")] 113

def k0c0 : Code := { maxStack := 0, maxLocals := 1, code := object_method_1_code, exceptionTable := #[], attributes := #[] }
def k0m0 : Method := { name := "<init>", desc := "()V", sig := { parameters := [], returnType := none }, accessFlags := 1, code := some k0c0 }
/-- java/lang/Object -/
def k0 : Class := { plain "java/lang/Object" none with
  accessFlags := 33
  interfaces := #[]
  cf := some (fileOf pool0 8 #[] #[{ accessFlags := 1, nameIndex := 5, descriptorIndex := 6, attributes := #[] }] 33 0 #[] #[])
  fields := #[]
  methods := #[k0m0]
  instanceTypes := #[]
  staticTypes := #[]
  resolved := Array.replicate 124 none
  statics := none }

def pool1 : Array CpInfo := pool [(2, .class_ 4), (1, u "java/lang/Object"), (0, u "<init>"), (0, u "()V"), (0, .class_ 8), (0, u "com/example/unicept/unicept/WordTrie"), (0, .methodref 7 10), (0, .nameAndType 5 11), (0, u "(I)V"), (0, .methodref 7 13), (0, .nameAndType 14 15), (0, u "addRoot"), (0, u "()I"), (0, .methodref 7 17), (0, .nameAndType 18 19), (0, u "tag"), (0, u "(II)V"), (0, .methodref 7 21), (0, .nameAndType 22 23), (0, u "tags"), (0, u "(I)[I"), (0, .methodref 25 26), (0, .class_ 27), (0, .nameAndType 28 29), (0, u "com/example/unicept/unicept/WordTrieTagsPinLaw"), (0, u "same"), (0, u "([IIII)Z"), (3, u "law"), (0, u "(IIII)Z")] 4

def k1m0 : Method := { name := "<init>", desc := "()V", sig := { parameters := [], returnType := none }, accessFlags := 2, code := none }
def k1c1 : Code := { maxStack := 2, maxLocals := 4, code := method_2_code, exceptionTable := #[], attributes := #[] }
def k1m1 : Method := { name := "same", desc := "([IIII)Z", sig := { parameters := [(.array .int), .int, .int, .int], returnType := some .boolean }, accessFlags := 10, code := some k1c1 }
def k1c2 : Code := { maxStack := 4, maxLocals := 14, code := code, exceptionTable := #[], attributes := #[] }
def k1m2 : Method := { name := "law", desc := "(IIII)Z", sig := { parameters := [.int, .int, .int, .int], returnType := some .boolean }, accessFlags := 9, code := some k1c2 }
/-- com/example/unicept/unicept/WordTrieTagsPinLaw -/
def k1 : Class := { plain "com/example/unicept/unicept/WordTrieTagsPinLaw" (some 0) with
  accessFlags := 49
  interfaces := #[]
  cf := some (fileOf pool1 25 #[] #[{ accessFlags := 2, nameIndex := 5, descriptorIndex := 6, attributes := #[] }, { accessFlags := 10, nameIndex := 28, descriptorIndex := 29, attributes := #[] }, { accessFlags := 9, nameIndex := 33, descriptorIndex := 34, attributes := #[] }] 49 2 #[] #[])
  fields := #[]
  methods := #[k1m0, k1m1, k1m2]
  instanceTypes := #[]
  staticTypes := #[]
  resolved := Array.replicate 39 none
  statics := none }

def pool2 : Array CpInfo := pool [(1, .methodref 2 3), (0, .class_ 4), (0, .nameAndType 5 6), (0, u "java/lang/Object"), (0, u "<init>"), (0, u "()V"), (0, .fieldref 8 9), (0, .class_ 10), (0, .nameAndType 11 12), (0, u "com/example/unicept/unicept/WordTrie"), (0, u "roles"), (0, u "I"), (0, .methodref 14 15), (0, .class_ 16), (0, .nameAndType 17 18), (0, u "java/lang/Math"), (0, u "max"), (0, u "(II)I"), (0, .fieldref 8 20), (0, .nameAndType 21 22), (0, u "children"), (0, u "[I"), (0, .fieldref 8 24), (0, .nameAndType 25 22), (0, u "roots"), (0, .class_ 22), (0, .fieldref 8 28), (0, .nameAndType 29 30), (0, u "tags"), (0, u "[[I"), (0, .methodref 8 32), (0, .nameAndType 33 34), (0, u "newNode"), (0, u "()I"), (3, .fieldref 8 39), (0, .nameAndType 40 22), (0, u "NO_TAGS"), (0, .methodref 42 43), (0, .class_ 44), (0, .nameAndType 45 46), (0, u "java/util/Arrays"), (0, u "copyOf"), (0, u "([II)[I"), (0, .fieldref 8 48), (0, .nameAndType 49 12), (0, u "size"), (4, .methodref 42 55), (0, .nameAndType 56 57), (0, u "fill"), (0, u "([IIII)V"), (0, u "NONE"), (2, u "(I)V"), (2, u "addRoot"), (7, u "tag"), (0, u "(II)V"), (0, u "(I)[I")] 3

def k2c0 : Code := { maxStack := 3, maxLocals := 2, code := prog_26_method_1_code, exceptionTable := #[], attributes := #[] }
def k2m0 : Method := { name := "<init>", desc := "(I)V", sig := { parameters := [.int], returnType := none }, accessFlags := 0, code := some k2c0 }
def k2c1 : Code := { maxStack := 3, maxLocals := 2, code := prog_26_method_2_code, exceptionTable := #[], attributes := #[] }
def k2m1 : Method := { name := "addRoot", desc := "()I", sig := { parameters := [], returnType := some .int }, accessFlags := 0, code := some k2c1 }
def k2c2 : Code := { maxStack := 3, maxLocals := 5, code := prog_26_method_7_code, exceptionTable := #[], attributes := #[] }
def k2m2 : Method := { name := "tag", desc := "(II)V", sig := { parameters := [.int, .int], returnType := none }, accessFlags := 0, code := some k2c2 }
def k2c3 : Code := { maxStack := 2, maxLocals := 2, code := prog_26_method_8_code, exceptionTable := #[], attributes := #[] }
def k2m3 : Method := { name := "tags", desc := "(I)[I", sig := { parameters := [.int], returnType := some (.array .int) }, accessFlags := 0, code := some k2c3 }
def k2c4 : Code := { maxStack := 5, maxLocals := 2, code := prog_26_method_9_code, exceptionTable := #[], attributes := #[] }
def k2m4 : Method := { name := "newNode", desc := "()I", sig := { parameters := [], returnType := some .int }, accessFlags := 2, code := some k2c4 }
/-- com/example/unicept/unicept/WordTrie -/
def k2 : Class := { plain "com/example/unicept/unicept/WordTrie" (some 0) with
  accessFlags := 48
  interfaces := #[]
  cf := some (fileOf pool2 8 #[] #[{ accessFlags := 0, nameIndex := 5, descriptorIndex := 61, attributes := #[] }, { accessFlags := 0, nameIndex := 64, descriptorIndex := 34, attributes := #[] }, { accessFlags := 0, nameIndex := 72, descriptorIndex := 73, attributes := #[] }, { accessFlags := 0, nameIndex := 29, descriptorIndex := 74, attributes := #[] }, { accessFlags := 2, nameIndex := 33, descriptorIndex := 34, attributes := #[] }] 48 2 #[] #[{ accessFlags := 26, nameIndex := 58, descriptorIndex := 12, attributes := #[] }, { accessFlags := 26, nameIndex := 40, descriptorIndex := 22, attributes := #[] }, { accessFlags := 18, nameIndex := 11, descriptorIndex := 12, attributes := #[] }, { accessFlags := 2, nameIndex := 21, descriptorIndex := 22, attributes := #[] }, { accessFlags := 2, nameIndex := 25, descriptorIndex := 22, attributes := #[] }, { accessFlags := 2, nameIndex := 29, descriptorIndex := 30, attributes := #[] }, { accessFlags := 2, nameIndex := 49, descriptorIndex := 12, attributes := #[] }])
  fields := #[{ name := "NONE", type := .int, accessFlags := 26, slot := 0, constantValue := 0 }, { name := "NO_TAGS", type := (.array .int), accessFlags := 26, slot := 1, constantValue := 0 }, { name := "roles", type := .int, accessFlags := 18, slot := 0, constantValue := 0 }, { name := "children", type := (.array .int), accessFlags := 2, slot := 1, constantValue := 0 }, { name := "roots", type := (.array .int), accessFlags := 2, slot := 2, constantValue := 0 }, { name := "tags", type := (.array (.array .int)), accessFlags := 2, slot := 3, constantValue := 0 }, { name := "size", type := .int, accessFlags := 2, slot := 4, constantValue := 0 }]
  methods := #[k2m0, k2m1, k2m2, k2m3, k2m4]
  instanceTypes := #[.int, (.array .int), (.array .int), (.array (.array .int)), .int]
  staticTypes := #[.int, (.array .int)]
  resolved := Array.replicate 78 none
  statics := some 0 }

def pool3 : Array CpInfo := pool [(1, .class_ 2), (0, u "java/lang/Math"), (1, .class_ 6), (1, u "java/lang/Object"), (0, u "<init>"), (0, u "()V"), (89, .class_ 100), (1, u "java/lang/Math$RandomNumberGeneratorHolder"), (71, u "negativeZeroFloatBits"), (0, u "J"), (2, u "negativeZeroDoubleBits"), (21, u "max"), (2, u "min"), (43, u "$assertionsDisabled"), (0, u "Z"), (88, u "(II)I"), (2, u "twoToTheDoubleScaleDown"), (0, u "D"), (4, u "twoToTheDoubleScaleUp"), (9, u "E"), (3, u "PI"), (2, u "TAU"), (2, u "DEGREES_TO_RADIANS"), (0, u "RADIANS_TO_DEGREES")] 94

def k3m0 : Method := { name := "<init>", desc := "()V", sig := { parameters := [], returnType := none }, accessFlags := 2, code := none }
def k3c1 : Code := { maxStack := 2, maxLocals := 2, code := jdk_29_method_65_code, exceptionTable := #[], attributes := #[] }
def k3m1 : Method := { name := "max", desc := "(II)I", sig := { parameters := [.int, .int], returnType := some .int }, accessFlags := 9, code := some k3c1 }
def k3c2 : Code := { maxStack := 2, maxLocals := 2, code := jdk_29_method_69_code, exceptionTable := #[], attributes := #[] }
def k3m2 : Method := { name := "min", desc := "(II)I", sig := { parameters := [.int, .int], returnType := some .int }, accessFlags := 9, code := some k3c2 }
/-- java/lang/Math -/
def k3 : Class := { plain "java/lang/Math" (some 0) with
  accessFlags := 49
  interfaces := #[]
  cf := some (fileOf pool3 1 #[.nestMembers #[98]] #[{ accessFlags := 2, nameIndex := 7, descriptorIndex := 8, attributes := #[] }, { accessFlags := 9, nameIndex := 198, descriptorIndex := 335, attributes := #[] }, { accessFlags := 9, nameIndex := 201, descriptorIndex := 335, attributes := #[] }] 49 4 #[] #[{ accessFlags := 25, nameIndex := 354, descriptorIndex := 339, attributes := #[] }, { accessFlags := 25, nameIndex := 358, descriptorIndex := 339, attributes := #[] }, { accessFlags := 25, nameIndex := 361, descriptorIndex := 339, attributes := #[] }, { accessFlags := 26, nameIndex := 364, descriptorIndex := 339, attributes := #[] }, { accessFlags := 26, nameIndex := 365, descriptorIndex := 339, attributes := #[] }, { accessFlags := 26, nameIndex := 172, descriptorIndex := 173, attributes := #[] }, { accessFlags := 26, nameIndex := 176, descriptorIndex := 173, attributes := #[] }, { accessFlags := 8, nameIndex := 344, descriptorIndex := 339, attributes := #[] }, { accessFlags := 8, nameIndex := 338, descriptorIndex := 339, attributes := #[] }, { accessFlags := 4120, nameIndex := 245, descriptorIndex := 246, attributes := #[] }])
  fields := #[{ name := "E", type := .double, accessFlags := 25, slot := 0, constantValue := 0 }, { name := "PI", type := .double, accessFlags := 25, slot := 1, constantValue := 0 }, { name := "TAU", type := .double, accessFlags := 25, slot := 2, constantValue := 0 }, { name := "DEGREES_TO_RADIANS", type := .double, accessFlags := 26, slot := 3, constantValue := 0 }, { name := "RADIANS_TO_DEGREES", type := .double, accessFlags := 26, slot := 4, constantValue := 0 }, { name := "negativeZeroFloatBits", type := .long, accessFlags := 26, slot := 5, constantValue := 0 }, { name := "negativeZeroDoubleBits", type := .long, accessFlags := 26, slot := 6, constantValue := 0 }, { name := "twoToTheDoubleScaleUp", type := .double, accessFlags := 8, slot := 7, constantValue := 0 }, { name := "twoToTheDoubleScaleDown", type := .double, accessFlags := 8, slot := 8, constantValue := 0 }, { name := "$assertionsDisabled", type := .boolean, accessFlags := 4120, slot := 9, constantValue := 0 }]
  methods := #[k3m0, k3m1, k3m2]
  instanceTypes := #[]
  staticTypes := #[.double, .double, .double, .double, .double, .long, .long, .double, .double, .boolean]
  resolved := Array.replicate 460 none
  statics := none }

def pool4 : Array CpInfo := pool [(2, .class_ 4), (1, u "java/lang/Object"), (0, u "<init>"), (0, u "()V"), (5, u "([IIII)V"), (0, .methodref 14 15), (0, .class_ 16), (0, .nameAndType 17 18), (0, u "java/util/Arrays"), (0, u "rangeCheck"), (0, u "(III)V"), (55, .class_ 76), (1, u "java/util/Arrays$NaturalOrder"), (36, .class_ 115), (1, u "java/util/Arrays$LegacyMergeSort"), (1, u "Z"), (32, .methodref 151 152), (0, .class_ 153), (0, .nameAndType 154 155), (0, u "java/lang/System"), (0, u "arraycopy"), (0, u "(Ljava/lang/Object;ILjava/lang/Object;II)V"), (146, u "copyOf"), (1, .methodref 305 306), (0, .class_ 307), (0, .nameAndType 308 309), (0, u "java/lang/Math"), (0, u "min"), (0, u "(II)I"), (65, .class_ 376), (0, u "java/util/Arrays$ArrayList"), (68, u "$assertionsDisabled"), (269, u "MIN_ARRAY_SORT_GRAN"), (0, u "I"), (2, u "INSERTIONSORT_THRESHOLD"), (120, u "fill"), (30, u "([II)[I"), (103, .class_ 976), (0, u "java/util/Arrays$ArrayItr")] 52

def k4m0 : Method := { name := "<init>", desc := "()V", sig := { parameters := [], returnType := none }, accessFlags := 2, code := none }
def k4c1 : Code := { maxStack := 4, maxLocals := 3, code := jdk_65_method_30_code, exceptionTable := #[], attributes := #[] }
def k4m1 : Method := { name := "rangeCheck", desc := "(III)V", sig := { parameters := [.int, .int, .int], returnType := none }, accessFlags := 8, code := some k4c1 }
def k4c2 : Code := { maxStack := 3, maxLocals := 5, code := jdk_65_method_104_code, exceptionTable := #[], attributes := #[] }
def k4m2 : Method := { name := "fill", desc := "([IIII)V", sig := { parameters := [(.array .int), .int, .int, .int], returnType := none }, accessFlags := 9, code := some k4c2 }
def k4c3 : Code := { maxStack := 6, maxLocals := 3, code := jdk_65_method_123_code, exceptionTable := #[], attributes := #[] }
def k4m3 : Method := { name := "copyOf", desc := "([II)[I", sig := { parameters := [(.array .int), .int], returnType := some (.array .int) }, accessFlags := 9, code := some k4c3 }
/-- java/util/Arrays -/
def k4 : Class := { plain "java/util/Arrays" (some 0) with
  accessFlags := 49
  interfaces := #[]
  cf := some (fileOf pool4 14 #[.nestMembers #[975, 375, 113, 74]] #[{ accessFlags := 2, nameIndex := 5, descriptorIndex := 6, attributes := #[] }, { accessFlags := 8, nameIndex := 17, descriptorIndex := 18, attributes := #[] }, { accessFlags := 9, nameIndex := 840, descriptorIndex := 12, attributes := #[] }, { accessFlags := 9, nameIndex := 302, descriptorIndex := 871, attributes := #[] }] 49 2 #[] #[{ accessFlags := 26, nameIndex := 715, descriptorIndex := 716, attributes := #[] }, { accessFlags := 26, nameIndex := 719, descriptorIndex := 716, attributes := #[] }, { accessFlags := 4120, nameIndex := 445, descriptorIndex := 117, attributes := #[] }])
  fields := #[{ name := "MIN_ARRAY_SORT_GRAN", type := .int, accessFlags := 26, slot := 0, constantValue := 0 }, { name := "INSERTIONSORT_THRESHOLD", type := .int, accessFlags := 26, slot := 1, constantValue := 0 }, { name := "$assertionsDisabled", type := .boolean, accessFlags := 4120, slot := 2, constantValue := 0 }]
  methods := #[k4m0, k4m1, k4m2, k4m3]
  instanceTypes := #[]
  staticTypes := #[.int, .int, .boolean]
  resolved := Array.replicate 1029 none
  statics := none }

def pool5 : Array CpInfo := pool [(2, .class_ 4), (1, u "java/lang/Object"), (0, u "<init>"), (0, u "()V"), (1, .class_ 10), (1, u "java/lang/System"), (0, u "allowSecurityManager"), (0, u "I"), (16, u "cons"), (0, u "Ljava/io/Console;"), (77, .class_ 110), (1, u "java/lang/System$CallersHolder"), (43, u "initialErrStream"), (0, u "Ljava/io/PrintStream;"), (19, u "security"), (0, u "Ljava/lang/SecurityManager;"), (31, .class_ 209), (0, u "java/lang/System$1"), (7, u "props"), (0, u "Ljava/util/Properties;"), (2, u "lineSeparator"), (0, u "Ljava/lang/String;"), (96, .class_ 321), (1, u "java/lang/System$LoggerFinder"), (5, .class_ 328), (0, u "java/lang/System$Logger"), (67, u "err"), (2, u "out"), (91, u "notSupportedJnuEncoding"), (15, u "in"), (17, u "initialIn"), (0, u "Ljava/io/InputStream;"), (35, u "bootLayer"), (0, u "Ljava/lang/ModuleLayer;"), (99, .class_ 664), (0, u "java/lang/System$2"), (9, u "NEVER"), (2, u "MAYBE"), (49, u "arraycopy"), (0, u "(Ljava/lang/Object;ILjava/lang/Object;II)V"), (72, .class_ 802), (0, u "java/lang/System$Logger$Level")] 31

def k5m0 : Method := { name := "<init>", desc := "()V", sig := { parameters := [], returnType := none }, accessFlags := 2, code := none }
def k5m1 : Method := { name := "arraycopy", desc := "(Ljava/lang/Object;ILjava/lang/Object;II)V", sig := { parameters := [(.object "java/lang/Object"), .int, (.object "java/lang/Object"), .int, .int], returnType := none }, accessFlags := 265, code := none }
/-- java/lang/System -/
def k5 : Class := { plain "java/lang/System" (some 0) with
  accessFlags := 49
  interfaces := #[]
  cf := some (fileOf pool5 8 #[.nestMembers #[319, 327, 801, 108, 663, 208]] #[{ accessFlags := 2, nameIndex := 5, descriptorIndex := 6, attributes := #[] }, { accessFlags := 265, nameIndex := 727, descriptorIndex := 728, attributes := #[] }] 49 2 #[] #[{ accessFlags := 25, nameIndex := 507, descriptorIndex := 526, attributes := #[] }, { accessFlags := 25, nameIndex := 399, descriptorIndex := 155, attributes := #[] }, { accessFlags := 25, nameIndex := 396, descriptorIndex := 155, attributes := #[] }, { accessFlags := 10, nameIndex := 525, descriptorIndex := 526, attributes := #[] }, { accessFlags := 26, nameIndex := 674, descriptorIndex := 12, attributes := #[] }, { accessFlags := 26, nameIndex := 677, descriptorIndex := 12, attributes := #[] }, { accessFlags := 10, nameIndex := 11, descriptorIndex := 12, attributes := #[] }, { accessFlags := 74, nameIndex := 175, descriptorIndex := 176, attributes := #[] }, { accessFlags := 10, nameIndex := 491, descriptorIndex := 222, attributes := #[] }, { accessFlags := 74, nameIndex := 29, descriptorIndex := 30, attributes := #[] }, { accessFlags := 74, nameIndex := 154, descriptorIndex := 155, attributes := #[] }, { accessFlags := 10, nameIndex := 217, descriptorIndex := 218, attributes := #[] }, { accessFlags := 10, nameIndex := 221, descriptorIndex := 222, attributes := #[] }, { accessFlags := 8, nameIndex := 562, descriptorIndex := 563, attributes := #[] }])
  fields := #[{ name := "in", type := (.object "java/io/InputStream"), accessFlags := 25, slot := 0, constantValue := 0 }, { name := "out", type := (.object "java/io/PrintStream"), accessFlags := 25, slot := 1, constantValue := 0 }, { name := "err", type := (.object "java/io/PrintStream"), accessFlags := 25, slot := 2, constantValue := 0 }, { name := "initialIn", type := (.object "java/io/InputStream"), accessFlags := 10, slot := 3, constantValue := 0 }, { name := "NEVER", type := .int, accessFlags := 26, slot := 4, constantValue := 0 }, { name := "MAYBE", type := .int, accessFlags := 26, slot := 5, constantValue := 0 }, { name := "allowSecurityManager", type := .int, accessFlags := 10, slot := 6, constantValue := 0 }, { name := "security", type := (.object "java/lang/SecurityManager"), accessFlags := 74, slot := 7, constantValue := 0 }, { name := "notSupportedJnuEncoding", type := (.object "java/lang/String"), accessFlags := 10, slot := 8, constantValue := 0 }, { name := "cons", type := (.object "java/io/Console"), accessFlags := 74, slot := 9, constantValue := 0 }, { name := "initialErrStream", type := (.object "java/io/PrintStream"), accessFlags := 74, slot := 10, constantValue := 0 }, { name := "props", type := (.object "java/util/Properties"), accessFlags := 10, slot := 11, constantValue := 0 }, { name := "lineSeparator", type := (.object "java/lang/String"), accessFlags := 10, slot := 12, constantValue := 0 }, { name := "bootLayer", type := (.object "java/lang/ModuleLayer"), accessFlags := 8, slot := 13, constantValue := 0 }]
  methods := #[k5m0, k5m1]
  instanceTypes := #[]
  staticTypes := #[(.object "java/io/InputStream"), (.object "java/io/PrintStream"), (.object "java/io/PrintStream"), (.object "java/io/InputStream"), .int, .int, .int, (.object "java/lang/SecurityManager"), (.object "java/lang/String"), (.object "java/io/Console"), (.object "java/io/PrintStream"), (.object "java/util/Properties"), (.object "java/lang/String"), (.object "java/lang/ModuleLayer")]
  resolved := Array.replicate 834 none
  statics := none }

def pool6 : Array CpInfo := pool [(1, u "java/lang/Cloneable"), (0, .class_ 1), (0, u "java/lang/Object"), (0, .class_ 3)] 3

/-- java/lang/Cloneable -/
def k6 : Class := { plain "java/lang/Cloneable" (some 0) with
  accessFlags := 1537
  interfaces := #[]
  cf := some (fileOf pool6 2 #[] #[] 1537 4 #[] #[])
  fields := #[]
  methods := #[]
  instanceTypes := #[]
  staticTypes := #[]
  resolved := Array.replicate 8 none
  statics := none }

def pool7 : Array CpInfo := pool [(1, u "java/io/Serializable"), (0, .class_ 1), (0, u "java/lang/Object"), (0, .class_ 3)] 3

/-- java/io/Serializable -/
def k7 : Class := { plain "java/io/Serializable" (some 0) with
  accessFlags := 1537
  interfaces := #[]
  cf := some (fileOf pool7 2 #[] #[] 1537 4 #[] #[])
  fields := #[]
  methods := #[]
  instanceTypes := #[]
  staticTypes := #[]
  resolved := Array.replicate 8 none
  statics := none }

/-- the primitive byte -/
def k8 : Class := { plain "byte" none with kind := .primitive 'B', accessFlags := 0x411 }
/-- [B -/
def k9 : Class := { plain "[B" (some 0) with kind := .array 8 .byte, interfaces := #[6, 7], accessFlags := 1041 }

/-- the primitive int -/
def k10 : Class := { plain "int" none with kind := .primitive 'I', accessFlags := 0x411 }
/-- [I -/
def k11 : Class := { plain "[I" (some 0) with kind := .array 10 .int, interfaces := #[6, 7], accessFlags := 1041 }
/-- [[I -/
def k12 : Class := { plain "[[I" (some 0) with kind := .array 11 (.array .int), interfaces := #[6, 7], accessFlags := 1041 }

def heap : Heap := #[{ cls := 2, slots := #[.int 0, .ref 1], vm := .statics 2 },
  { cls := 11, slots := #[], vm := .none }]
def classes : Array Class := #[k0, k1, k2, k3, k4, k5, k6, k7, k8, k9, k10, k11, k12]
def interned : List (Array UInt16 × Addr) := []
def slotsUsed : Nat := 2
def theMethod : MethodId := ⟨1, 2⟩
def args0 : Array Value := #[.int 3, .int 5, .int 7, .int 9]
def aboutOver (below : List Frame) : State where
  vm := { classes := classes, interned := interned.toArray }
  heap := heap
  slotsUsed := slotsUsed
  threads := #[{ frames := .invoking theMethod args0 :: below }]
def below0 : List Frame := [.native { method := ⟨0, 0⟩, args := #[] }]
def about1 : State := aboutOver below0
def p0 : Program := .bare "" "" ""
def e0 : Env := launch0.env 0 0 0
theorem w_frames : about1.frames = Frame.invoking theMethod args0 :: below0 := rfl
set_option maxRecDepth 65536 in
theorem w_args : argsFit about1.vm theMethod args0 = true := by decide +kernel
set_option maxRecDepth 65536 in
theorem w_heap : heapFits about1 = true := by decide +kernel
set_option maxRecDepth 65536 in
theorem w_runnable : about1.curStatus? = some .runnable := by decide +kernel
set_option maxRecDepth 65536 in
theorem w_alone : about1.alone = true := by decide +kernel
set_option maxRecDepth 65536 in
theorem w_named : about1.methodNamed? x = some theMethod := by decide +kernel
set_option maxRecDepth 65536 in
theorem w_hears : about1.hears theMethod below0 = true := by decide +kernel
set_option maxRecDepth 65536 in
theorem w_ripe : about1.ripe theMethod args0 below0 = true := by decide +kernel
theorem w_running : about1.status = .running := rfl
set_option maxRecDepth 65536 in
theorem w_room : about1.hasRoom e0.platform room_1 = true :=
  launch0.hasRoom_least _ room_1 (by decide +kernel) (by decide +kernel) (by decide +kernel) (by decide +kernel) (by decide +kernel) (by decide +kernel)
theorem allAtoms_all (ts : List Jvm.Cond) (a : Array Jvm.Value) (st : Jvm.State) : (allAtoms ts).before a st = ts.all (fun c => c.before a st) := by
  induction ts with
  | nil => rfl
  | cons c t ih =>
    show (Jvm.Cond.and c (allAtoms t)).before a st = _
    rw [Jvm.Cond.before_and, ih, List.all_cons]
def words1 : List Jvm.Cond := Jvm.Cond.code x code maxLocals ret :: tables_1
/-- a 'code' word, met by the world's own term for the bytes: nothing is compared byte by byte -/
theorem code_word {y : MethodName} {bytes : ByteArray} {mx : Nat} {rt : Option FieldType} {a : Array Value} {s : State} {m : MethodId} {meth : Method} {c : Code} (h1 : s.methodNamed? y = some m) (h2 : s.vm.method? m = some meth) (h3 : meth.code = some c) (h4 : c.code = bytes)
    (h5 : (c.maxLocals == mx && c.exceptionTable.isEmpty && decide (c.maxStack ≤ mostOperands) && decide (meth.sig.returnType = rt) && !meth.locks && decide (parseMethodDescriptor y.desc = some meth.sig)) = true) : (Jvm.Cond.code y bytes mx rt).before a s = true := by
  simp only [Bool.and_eq_true, beq_iff_eq, Bool.not_eq_true', decide_eq_true_eq] at h5
  obtain ⟨⟨⟨⟨⟨g1, g2⟩, g3⟩, g4⟩, g5⟩, g6⟩ := h5
  simp [Cond.before, Cond.holds, Cond.value, h1, h2, h3, h4, g1, g2, g3, g4, g5, g6]
def isCode : Jvm.Cond → Bool
  | .code _ _ _ _ => true
  | _ => false
theorem all_split {L : List Jvm.Cond} {P : Jvm.Cond → Bool} (h1 : L.all (fun c => isCode c || P c) = true) (h2 : ∀ c ∈ L.filter isCode, P c = true) : L.all P = true := by
  refine List.all_eq_true.mpr fun c hc => ?_
  have h := List.all_eq_true.mp h1 c hc
  rcases Bool.eq_false_or_eq_true (isCode c) with hi | hi
  · exact h2 c (List.mem_filter.mpr ⟨hc, hi⟩)
  · simpa [hi] using h
set_option maxRecDepth 65536 in
theorem w_c0 : (Jvm.Cond.code x code maxLocals ret).before args0 about1 = true := code_word (m := ⟨1, 2⟩) (meth := k1m2) (c := k1c2) (by decide +kernel) rfl rfl rfl (by decide +kernel)
set_option maxRecDepth 65536 in
theorem w_c1 : (Jvm.Cond.code ({ cls := "com/example/unicept/unicept/WordTrie", name := "<init>", desc := "(I)V" } : Jvm.MethodName) prog_26_method_1_code (2 : Nat) (Option.none : Option Jvm.ClassFile.FieldType)).before args0 about1 = true := code_word (m := ⟨2, 0⟩) (meth := k2m0) (c := k2c0) (by decide +kernel) rfl rfl rfl (by decide +kernel)
set_option maxRecDepth 65536 in
theorem w_c2 : (Jvm.Cond.code ({ cls := "java/lang/Object", name := "<init>", desc := "()V" } : Jvm.MethodName) object_method_1_code (1 : Nat) (Option.none : Option Jvm.ClassFile.FieldType)).before args0 about1 = true := code_word (m := ⟨0, 0⟩) (meth := k0m0) (c := k0c0) (by decide +kernel) rfl rfl rfl (by decide +kernel)
set_option maxRecDepth 65536 in
theorem w_c3 : (Jvm.Cond.code ({ cls := "java/lang/Math", name := "max", desc := "(II)I" } : Jvm.MethodName) jdk_29_method_65_code (2 : Nat) (Option.some Jvm.ClassFile.FieldType.int)).before args0 about1 = true := code_word (m := ⟨3, 1⟩) (meth := k3m1) (c := k3c1) (by decide +kernel) rfl rfl rfl (by decide +kernel)
set_option maxRecDepth 65536 in
theorem w_c4 : (Jvm.Cond.code ({ cls := "com/example/unicept/unicept/WordTrie", name := "addRoot", desc := "()I" } : Jvm.MethodName) prog_26_method_2_code (2 : Nat) (Option.some Jvm.ClassFile.FieldType.int)).before args0 about1 = true := code_word (m := ⟨2, 1⟩) (meth := k2m1) (c := k2c1) (by decide +kernel) rfl rfl rfl (by decide +kernel)
set_option maxRecDepth 65536 in
theorem w_c5 : (Jvm.Cond.code ({ cls := "com/example/unicept/unicept/WordTrie", name := "newNode", desc := "()I" } : Jvm.MethodName) prog_26_method_9_code (2 : Nat) (Option.some Jvm.ClassFile.FieldType.int)).before args0 about1 = true := code_word (m := ⟨2, 4⟩) (meth := k2m4) (c := k2c4) (by decide +kernel) rfl rfl rfl (by decide +kernel)
set_option maxRecDepth 65536 in
theorem w_c6 : (Jvm.Cond.code ({ cls := "java/util/Arrays", name := "fill", desc := "([IIII)V" } : Jvm.MethodName) jdk_65_method_104_code (5 : Nat) (Option.none : Option Jvm.ClassFile.FieldType)).before args0 about1 = true := code_word (m := ⟨4, 2⟩) (meth := k4m2) (c := k4c2) (by decide +kernel) rfl rfl rfl (by decide +kernel)
set_option maxRecDepth 65536 in
theorem w_c7 : (Jvm.Cond.code ({ cls := "java/util/Arrays", name := "rangeCheck", desc := "(III)V" } : Jvm.MethodName) jdk_65_method_30_code (3 : Nat) (Option.none : Option Jvm.ClassFile.FieldType)).before args0 about1 = true := code_word (m := ⟨4, 1⟩) (meth := k4m1) (c := k4c1) (by decide +kernel) rfl rfl rfl (by decide +kernel)
set_option maxRecDepth 65536 in
theorem w_c8 : (Jvm.Cond.code ({ cls := "com/example/unicept/unicept/WordTrie", name := "tags", desc := "(I)[I" } : Jvm.MethodName) prog_26_method_8_code (2 : Nat) (Option.some (Jvm.ClassFile.FieldType.array Jvm.ClassFile.FieldType.int))).before args0 about1 = true := code_word (m := ⟨2, 3⟩) (meth := k2m3) (c := k2c3) (by decide +kernel) rfl rfl rfl (by decide +kernel)
set_option maxRecDepth 65536 in
theorem w_c9 : (Jvm.Cond.code ({ cls := "com/example/unicept/unicept/WordTrieTagsPinLaw", name := "same", desc := "([IIII)Z" } : Jvm.MethodName) method_2_code (4 : Nat) (Option.some Jvm.ClassFile.FieldType.boolean)).before args0 about1 = true := code_word (m := ⟨1, 1⟩) (meth := k1m1) (c := k1c1) (by decide +kernel) rfl rfl rfl (by decide +kernel)
set_option maxRecDepth 65536 in
theorem w_c10 : (Jvm.Cond.code ({ cls := "com/example/unicept/unicept/WordTrie", name := "tag", desc := "(II)V" } : Jvm.MethodName) prog_26_method_7_code (5 : Nat) (Option.none : Option Jvm.ClassFile.FieldType)).before args0 about1 = true := code_word (m := ⟨2, 2⟩) (meth := k2m2) (c := k2c2) (by decide +kernel) rfl rfl rfl (by decide +kernel)
set_option maxRecDepth 65536 in
theorem w_c11 : (Jvm.Cond.code ({ cls := "java/util/Arrays", name := "copyOf", desc := "([II)[I" } : Jvm.MethodName) jdk_65_method_123_code (3 : Nat) (Option.some (Jvm.ClassFile.FieldType.array Jvm.ClassFile.FieldType.int))).before args0 about1 = true := code_word (m := ⟨4, 3⟩) (meth := k4m3) (c := k4c3) (by decide +kernel) rfl rfl rfl (by decide +kernel)
set_option maxRecDepth 65536 in
theorem w_c12 : (Jvm.Cond.code ({ cls := "java/lang/Math", name := "min", desc := "(II)I" } : Jvm.MethodName) jdk_29_method_69_code (2 : Nat) (Option.some Jvm.ClassFile.FieldType.int)).before args0 about1 = true := code_word (m := ⟨3, 2⟩) (meth := k3m2) (c := k3c2) (by decide +kernel) rfl rfl rfl (by decide +kernel)
def codes1 : List Jvm.Cond := [Jvm.Cond.code x code maxLocals ret, Jvm.Cond.code ({ cls := "com/example/unicept/unicept/WordTrie", name := "<init>", desc := "(I)V" } : Jvm.MethodName) prog_26_method_1_code (2 : Nat) (Option.none : Option Jvm.ClassFile.FieldType), Jvm.Cond.code ({ cls := "java/lang/Object", name := "<init>", desc := "()V" } : Jvm.MethodName) object_method_1_code (1 : Nat) (Option.none : Option Jvm.ClassFile.FieldType), Jvm.Cond.code ({ cls := "java/lang/Math", name := "max", desc := "(II)I" } : Jvm.MethodName) jdk_29_method_65_code (2 : Nat) (Option.some Jvm.ClassFile.FieldType.int), Jvm.Cond.code ({ cls := "com/example/unicept/unicept/WordTrie", name := "addRoot", desc := "()I" } : Jvm.MethodName) prog_26_method_2_code (2 : Nat) (Option.some Jvm.ClassFile.FieldType.int), Jvm.Cond.code ({ cls := "com/example/unicept/unicept/WordTrie", name := "newNode", desc := "()I" } : Jvm.MethodName) prog_26_method_9_code (2 : Nat) (Option.some Jvm.ClassFile.FieldType.int), Jvm.Cond.code ({ cls := "java/util/Arrays", name := "fill", desc := "([IIII)V" } : Jvm.MethodName) jdk_65_method_104_code (5 : Nat) (Option.none : Option Jvm.ClassFile.FieldType), Jvm.Cond.code ({ cls := "java/util/Arrays", name := "rangeCheck", desc := "(III)V" } : Jvm.MethodName) jdk_65_method_30_code (3 : Nat) (Option.none : Option Jvm.ClassFile.FieldType), Jvm.Cond.code ({ cls := "com/example/unicept/unicept/WordTrie", name := "tags", desc := "(I)[I" } : Jvm.MethodName) prog_26_method_8_code (2 : Nat) (Option.some (Jvm.ClassFile.FieldType.array Jvm.ClassFile.FieldType.int)), Jvm.Cond.code ({ cls := "com/example/unicept/unicept/WordTrieTagsPinLaw", name := "same", desc := "([IIII)Z" } : Jvm.MethodName) method_2_code (4 : Nat) (Option.some Jvm.ClassFile.FieldType.boolean), Jvm.Cond.code ({ cls := "com/example/unicept/unicept/WordTrie", name := "tag", desc := "(II)V" } : Jvm.MethodName) prog_26_method_7_code (5 : Nat) (Option.none : Option Jvm.ClassFile.FieldType), Jvm.Cond.code ({ cls := "java/util/Arrays", name := "copyOf", desc := "([II)[I" } : Jvm.MethodName) jdk_65_method_123_code (3 : Nat) (Option.some (Jvm.ClassFile.FieldType.array Jvm.ClassFile.FieldType.int)), Jvm.Cond.code ({ cls := "java/lang/Math", name := "min", desc := "(II)I" } : Jvm.MethodName) jdk_29_method_69_code (2 : Nat) (Option.some Jvm.ClassFile.FieldType.int)]
set_option maxRecDepth 65536 in
theorem codes_eq : words1.filter isCode = codes1 := rfl
theorem w_codes : ∀ c ∈ words1.filter isCode, c.before args0 about1 = true := by
  rw [codes_eq]
  intro c hc
  simp only [codes1, List.mem_cons, List.not_mem_nil, or_false] at hc
  rcases hc with rfl | rfl | rfl | rfl | rfl | rfl | rfl | rfl | rfl | rfl | rfl | rfl | rfl
  · exact w_c0
  · exact w_c1
  · exact w_c2
  · exact w_c3
  · exact w_c4
  · exact w_c5
  · exact w_c6
  · exact w_c7
  · exact w_c8
  · exact w_c9
  · exact w_c10
  · exact w_c11
  · exact w_c12
set_option maxRecDepth 65536 in
theorem w_t1 : (words1.take 24).all (fun c => isCode c || c.before args0 about1) = true := by decide +kernel
set_option maxRecDepth 65536 in
theorem w_t2 : ((words1.drop 24).take 24).all (fun c => isCode c || c.before args0 about1) = true := by decide +kernel
set_option maxRecDepth 65536 in
theorem w_t3 : ((words1.drop 24).drop 24).all (fun c => isCode c || c.before args0 about1) = true := by decide +kernel
theorem w_tables : (allAtoms (Jvm.Cond.code x code maxLocals ret :: tables_1)).before args0 about1 = true := by
  rw [allAtoms_all]
  show words1.all (fun c => c.before args0 about1) = true
  refine all_split ?_ w_codes
  rw [← List.take_append_drop 24 words1, List.all_append, w_t1, ← List.take_append_drop 24 (words1.drop 24), List.all_append, w_t2, w_t3]
  rfl
set_option maxRecDepth 65536 in
theorem w_case : (Jvm.Cond.and given_1 narrow_1).before args0 about1 = true := by decide +kernel
theorem w_applies : (headSpec (Jvm.Cond.code x code maxLocals ret :: tables_1) room_1).applies x e0.platform about1 = true :=
  (Spec.applies_iff w_frames).mpr ⟨w_running, w_runnable, w_alone, w_named, w_hears, w_ripe, w_room, w_tables⟩
theorem atStart : AtStart classFile x code maxLocals ret World_1 tables_1 room_1 Calls_1 rest_1 Pre_1 launch0 p0 e0 about1 theMethod args0 below0 :=
  ⟨lists_1, trivial, launch0.admits_env _ _ _, launch0.least_env, fairChoices_fair.cas, fairChoices_fair.clock, w_frames, w_args, w_heap, w_applies, trivial, trivial, w_case⟩
end start1
theorem witness_1 : WitnessClaimed_1 := ⟨start1.p0, start1.e0, start1.about1, start1.theMethod, start1.args0, start1.below0, start1.atStart⟩
end Jvm.Pilot.@@N@@
