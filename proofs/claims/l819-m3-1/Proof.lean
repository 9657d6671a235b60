import JvmDerived
import JvmDerived.Pilot.@@N@@Statement
import JvmDerived.Pilot.@@N@@Code
set_option linter.unusedVariables false
set_option linter.unusedSimpArgs false
namespace Jvm.RoadKit
open Sem ClassFile Op Lib Jvm.Stand Jvm.Free Jvm.LawKit
section New
variable {p : Program} {l : Launch} {e : Env} {R : Room} {s : State} {m : MethodId} {args : Array Value} {below : List Frame} {meth : Method} {c : Code} {T : State} {locs : List Loc} {cells slots : Nat}
theorem retI (X : Stand p l e R s m args below meth c T locs cells slots) (hx : p.tables.exec = Jvm.exec) {pc : Nat} {Ls : Array Slot} {z : Int32} {rest : List Value} (hret : meth.sig.returnType = some .int) (hd : decode c.code pc = .ok (.ireturn, 1)) {fs : List Frame}
    (hl : ∀ (f : JFrame) (acts : List Action), f.method = m → f.locked = none → f.entered = [] → (doReturn e (T.setTop f) acts (some (.int z))).1 = T.setFrames fs) : Steps p.tables e below (T.setTop (mkF m pc Ls (.int z :: rest))) (T.setFrames fs) := by
  have hm' : T.vm.method? m = some meth := X.method'
  have hn : narrow .int (.int z) = .int z := rfl
  show Steps p.tables e below (T.setTop { method := m, pc := pc, locals := Ls, stack := _ :: rest, locked := none }) _
  jvm_step X.here [X.here.top, hx, hd, hm', hret, hn]
  first | (intro acts; rw [hl _ acts rfl rfl rfl]) | rw [hl _ _ rfl rfl rfl]
  exact Steps.refl _
end New
end Jvm.RoadKit
namespace Jvm.Pilot.@@N@@
open Jvm Jvm.ClassFile Sem Op Lib Jvm.Free Jvm.Stand Jvm.LawKit Jvm.RoadKit Bundle Jvm.Pilot.@@N@@.Jvm.D
theorem own_mG {α : Type} {l : List α} {i : Nat} {a : α} (h : l[i]? = some a) : a ∈ l := List.mem_of_getElem? h
theorem own_safeV {Z : State} {EL : List (String × Nat)} {vm : Vm} {h : Heap} {x : Addr} {k : ClassId} {ty : FieldType} {z : Int32} {vs : List Value} {d : Value} (hal : Z.vm.Alike vm) (A : Arv Z h x k ty z vs d) (ht : ty ≠ .byte) : Safe Z EL vm h x := by
  obtain ⟨c, A, -⟩ := A; exact Safe.arr hal A ht
theorem own_safe {Z : State} {EL : List (String × Nat)} {vm : Vm} {h : Heap} {a : Addr} (hal : Z.vm.Alike vm) (E : Exa Z h a "java/lang/String") (F : Fld Z h a "java/lang/String" "value" "[B" .null) : Safe Z EL vm h a := fun B => by
  obtain ⟨p, -, u, a', -, q, -, G, rfl | rfl⟩ := B
  · obtain ⟨cS, ⟨SL, -, -⟩, -⟩ := G
    obtain ⟨cell, cf, k, i, f, h1, h2, -, -, -, -, h7⟩ := F
    have ha : h[q.sa]? = some q.sC := SL.ha
    cases h1.symm.trans ha
    obtain ⟨cV, kV, iV, g1, -⟩ := SL.ffV
    obtain ⟨k', g2, -⟩ := State.fieldFound?_setVm (s := ({ Z with heap := h } : State)) hal (show ({ Z with heap := h } : State).fieldFound? _ _ _ = _ from h2)
    have g3 := (show (Wst Z vm h).fieldFound? _ _ _ = _ from g2).symm.trans g1
    simp only [Option.some.injEq, Prod.mk.injEq] at g3
    have g4 := SL.slV
    rw [← g3.2.2.2, h7] at g4
    cases g4
  · obtain ⟨cell, k, e1, e2, e3, -, -⟩ := E
    have hd : h[q.sd]? = some q.SA := G.hd
    cases hd.symm.trans e1
    obtain ⟨cS, -, -, f, -⟩ := G
    have f' : vm.findClass "[B" = some q.SA.cls := f
    rw [hal.findClass] at f'
    obtain ⟨k1, q1, q2⟩ := Vm.findClass_spec f'
    obtain ⟨k2, q3, q4⟩ := Vm.findClass_spec e2
    cases q1.symm.trans q3
    exact absurd (q2.symm.trans q4) (by decide)
def own_Rf (v : Value) : Prop := v = .null ∨ ∃ a, v = .ref a
theorem own_Rf.is {v : Value} (h : own_Rf v) : v.isRef = true := by rcases h with rfl | ⟨a, rfl⟩ <;> rfl
theorem own_Rf.cat {v : Value} (h : own_Rf v) : v.category = 1 := by rcases h with rfl | ⟨a, rfl⟩ <;> rfl
theorem own_Rf.of {v : Value} (h : v.isRef = true) : own_Rf v := by
  cases v <;> simp [Value.isRef] at h
  · exact Or.inl rfl
  · exact Or.inr ⟨_, rfl⟩
def own_ST (Z : State) (cs : Int32) (fm : Value) : Prop := Sta Z Z.heap "java/lang/String" "COMPACT_STRINGS" "Z" (.int cs) ∧ ¬ (cs = (0 : Int32)) ∧ Sta Z Z.heap "java/lang/StringUTF16" "$assertionsDisabled" "Z" (.int 1) ∧ Sta Z Z.heap "java/lang/StringUTF16" "HI_BYTE_SHIFT" "I" (.int 0) ∧ Sta Z Z.heap "java/lang/StringUTF16" "LO_BYTE_SHIFT" "I" (.int 8) ∧ Sta Z Z.heap "jdk/internal/util/Preconditions" "SIOOBE_FORMATTER" "Ljava/util/function/BiFunction;" fm ∧ own_Rf fm
theorem own_ncr (z : Int32) : 0 ≤ (nar .char z).toInt ∧ (nar .char z).toInt < 65536 := by
  have q : ((nar .char z).toInt - z.toInt) % 65536 = 0 ∧ 0 ≤ (nar .char z).toInt ∧ (nar .char z).toInt < 65536 := c_i2c z
  omega
theorem own_nc (z : Int32) (h : 0 ≤ z.toInt ∧ z.toInt < 65536) : nar .char z = z := by
  have q : ((nar .char z).toInt - z.toInt) % 65536 = 0 ∧ 0 ≤ (nar .char z).toInt ∧ (nar .char z).toInt < 65536 := c_i2c z
  refine Int32.toInt_inj.mp ?_
  omega
theorem own_lc' (z : Int32) (h : 0 ≤ z.toInt ∧ z.toInt < 65536) (hp : ¬ ((255 : Int32) < z)) : nar .char ((((nar .byte (z.toInt8.toInt32)) &&& (255 : Int32)).toUInt32.toUInt16.toUInt32.toInt32)) = z := by
  have hp' : ¬ (((255 : Int32)).toInt < z.toInt) := fun q => hp (Int32.lt_iff_toInt_lt.mpr q)
  have e0 : ((255 : Int32)).toInt = 255 := by decide
  have q1 : ((nar .byte (z.toInt8.toInt32)).toInt - (z.toInt8.toInt32).toInt) % 256 = 0 ∧ -128 ≤ (nar .byte (z.toInt8.toInt32)).toInt ∧ (nar .byte (z.toInt8.toInt32)).toInt < 128 := c_i2b _
  have q2 := c_i2b z
  have q3 := c_mask (nar .byte (z.toInt8.toInt32)) (255 : Int32) 8 (by decide) (by decide)
  have q4 := c_i2c ((nar .byte (z.toInt8.toInt32)) &&& (255 : Int32))
  have q5 : ((nar .char (((nar .byte (z.toInt8.toInt32)) &&& (255 : Int32)).toUInt32.toUInt16.toUInt32.toInt32)).toInt - ((((nar .byte (z.toInt8.toInt32)) &&& (255 : Int32)).toUInt32.toUInt16.toUInt32.toInt32)).toInt) % 65536 = 0 ∧ 0 ≤ (nar .char (((nar .byte (z.toInt8.toInt32)) &&& (255 : Int32)).toUInt32.toUInt16.toUInt32.toInt32)).toInt ∧ (nar .char (((nar .byte (z.toInt8.toInt32)) &&& (255 : Int32)).toUInt32.toUInt16.toUInt32.toInt32)).toInt < 65536 := c_i2c _
  refine Int32.toInt_inj.mp ?_
  omega
theorem own_gc' (z : Int32) (h : 0 ≤ z.toInt ∧ z.toInt < 65536) : nar .char ((((((nar .byte ((z >>> ((0 : Int32) &&& 31)).toInt8.toInt32)) &&& (255 : Int32)) <<< ((0 : Int32) &&& 31)) ||| (((nar .byte ((z >>> ((8 : Int32) &&& 31)).toInt8.toInt32)) &&& (255 : Int32)) <<< ((8 : Int32) &&& 31))).toUInt32.toUInt16.toUInt32.toInt32)) = z := by
  have s0 := c_ishr z (0 : Int32) 0 (by decide)
  have s1 := c_ishr z (8 : Int32) 8 (by decide)
  have b0 := c_i2b (z >>> ((0 : Int32) &&& 31))
  have b1 := c_i2b (z >>> ((8 : Int32) &&& 31))
  have n0 : ((nar .byte ((z >>> ((0 : Int32) &&& 31)).toInt8.toInt32)).toInt - ((z >>> ((0 : Int32) &&& 31)).toInt8.toInt32).toInt) % 256 = 0 ∧ -128 ≤ (nar .byte ((z >>> ((0 : Int32) &&& 31)).toInt8.toInt32)).toInt ∧ (nar .byte ((z >>> ((0 : Int32) &&& 31)).toInt8.toInt32)).toInt < 128 := c_i2b _
  have n1 : ((nar .byte ((z >>> ((8 : Int32) &&& 31)).toInt8.toInt32)).toInt - ((z >>> ((8 : Int32) &&& 31)).toInt8.toInt32).toInt) % 256 = 0 ∧ -128 ≤ (nar .byte ((z >>> ((8 : Int32) &&& 31)).toInt8.toInt32)).toInt ∧ (nar .byte ((z >>> ((8 : Int32) &&& 31)).toInt8.toInt32)).toInt < 128 := c_i2b _
  have m0 := c_mask (nar .byte ((z >>> ((0 : Int32) &&& 31)).toInt8.toInt32)) (255 : Int32) 8 (by decide) (by decide)
  have m1 := c_mask (nar .byte ((z >>> ((8 : Int32) &&& 31)).toInt8.toInt32)) (255 : Int32) 8 (by decide) (by decide)
  have l0 := c_ishl ((nar .byte ((z >>> ((0 : Int32) &&& 31)).toInt8.toInt32)) &&& (255 : Int32)) (0 : Int32) 0 (by decide)
  have l1 := c_ishl ((nar .byte ((z >>> ((8 : Int32) &&& 31)).toInt8.toInt32)) &&& (255 : Int32)) (8 : Int32) 8 (by decide)
  have r0 := rng32 (((nar .byte ((z >>> ((0 : Int32) &&& 31)).toInt8.toInt32)) &&& (255 : Int32)) <<< ((0 : Int32) &&& 31))
  have r1 := rng32 (((nar .byte ((z >>> ((8 : Int32) &&& 31)).toInt8.toInt32)) &&& (255 : Int32)) <<< ((8 : Int32) &&& 31))
  have o := c_or' (((nar .byte ((z >>> ((0 : Int32) &&& 31)).toInt8.toInt32)) &&& (255 : Int32)) <<< ((0 : Int32) &&& 31)) (((nar .byte ((z >>> ((8 : Int32) &&& 31)).toInt8.toInt32)) &&& (255 : Int32)) <<< ((8 : Int32) &&& 31)) 8 (by decide) 256 (by decide) (by omega) (by omega) (by omega)
  have c1 := c_i2c ((((nar .byte ((z >>> ((0 : Int32) &&& 31)).toInt8.toInt32)) &&& (255 : Int32)) <<< ((0 : Int32) &&& 31)) ||| (((nar .byte ((z >>> ((8 : Int32) &&& 31)).toInt8.toInt32)) &&& (255 : Int32)) <<< ((8 : Int32) &&& 31)))
  have c2 : ((nar .char (((((nar .byte ((z >>> ((0 : Int32) &&& 31)).toInt8.toInt32)) &&& (255 : Int32)) <<< ((0 : Int32) &&& 31)) ||| (((nar .byte ((z >>> ((8 : Int32) &&& 31)).toInt8.toInt32)) &&& (255 : Int32)) <<< ((8 : Int32) &&& 31))).toUInt32.toUInt16.toUInt32.toInt32)).toInt - ((((((nar .byte ((z >>> ((0 : Int32) &&& 31)).toInt8.toInt32)) &&& (255 : Int32)) <<< ((0 : Int32) &&& 31)) ||| (((nar .byte ((z >>> ((8 : Int32) &&& 31)).toInt8.toInt32)) &&& (255 : Int32)) <<< ((8 : Int32) &&& 31))).toUInt32.toUInt16.toUInt32.toInt32)).toInt) % 65536 = 0 ∧ 0 ≤ (nar .char (((((nar .byte ((z >>> ((0 : Int32) &&& 31)).toInt8.toInt32)) &&& (255 : Int32)) <<< ((0 : Int32) &&& 31)) ||| (((nar .byte ((z >>> ((8 : Int32) &&& 31)).toInt8.toInt32)) &&& (255 : Int32)) <<< ((8 : Int32) &&& 31))).toUInt32.toUInt16.toUInt32.toInt32)).toInt ∧ (nar .char (((((nar .byte ((z >>> ((0 : Int32) &&& 31)).toInt8.toInt32)) &&& (255 : Int32)) <<< ((0 : Int32) &&& 31)) ||| (((nar .byte ((z >>> ((8 : Int32) &&& 31)).toInt8.toInt32)) &&& (255 : Int32)) <<< ((8 : Int32) &&& 31))).toUInt32.toUInt16.toUInt32.toInt32)).toInt < 65536 := c_i2c _
  refine Int32.toInt_inj.mp ?_
  omega
def own_B0 (z : Int32) : Int32 := (nar .byte ((z >>> ((0 : Int32) &&& 31)).toInt8.toInt32))
def own_B1 (z : Int32) : Int32 := (nar .byte ((z >>> ((8 : Int32) &&& 31)).toInt8.toInt32))
def own_by (z : Int32) : Int32 := (nar .byte (z.toInt8.toInt32))
def own_GC (u w : Int32) : Int32 := ((((u &&& (255 : Int32)) <<< ((0 : Int32) &&& 31)) ||| ((w &&& (255 : Int32)) <<< ((8 : Int32) &&& 31))).toUInt32.toUInt16.toUInt32.toInt32)
def own_LC (u : Int32) : Int32 := ((u &&& (255 : Int32)).toUInt32.toUInt16.toUInt32.toInt32)
theorem own_lc (z : Int32) (h : 0 ≤ z.toInt ∧ z.toInt < 65536) (hp : ¬ ((255 : Int32) < z)) : nar .char (own_LC (own_by z)) = z := own_lc' z h hp
theorem own_gc (z : Int32) (h : 0 ≤ z.toInt ∧ z.toInt < 65536) : nar .char (own_GC (own_B0 z) (own_B1 z)) = z := own_gc' z h
def own_At (Z : State) (h : Heap) (y : Addr) (j : Int32) (z : Int32) : Prop := ∃ cl, Arr Z h y cl .byte ∧ ¬ (j < 0 ∨ cl.slots.size ≤ j.toNatClampNeg) ∧ cl.slots[j.toNatClampNeg]? = some (.int z)
def own_Ln (Z : State) (h : Heap) (y : Addr) (n : Int32) : Prop := ∃ cl, Arr Z h y cl .byte ∧ cl.slots.size = n.toNatClampNeg ∧ ¬ n < 0
theorem own_At.of {Z : State} {h : Heap} {y : Addr} {ky : ClassId} {n : Int32} {vs : List Value} {d : Value} {j z : Int32} (V : Arv Z h y ky .byte n vs d) (hj : ¬ j < 0 ∧ j < n) (hv : vs.getD j.toNatClampNeg d = .int z) : own_At Z h y j z := by
  obtain ⟨cl, Ar, q, S, N, H, G⟩ := V
  have hin : ¬ (j < 0 ∨ cl.slots.size ≤ j.toNatClampNeg) := inb_of S hj
  exact ⟨cl, Ar, hin, Has.at H hin hv⟩
theorem own_Ln.of {Z : State} {h : Heap} {y : Addr} {ky : ClassId} {n : Int32} {vs : List Value} {d : Value} (V : Arv Z h y ky .byte n vs d) : own_Ln Z h y n := by
  obtain ⟨cl, Ar, q, S, N, H, G⟩ := V
  exact ⟨cl, Ar, S, N⟩
def own_J0 (j : Int32) : Int32 := (j <<< ((1 : Int32) &&& 31))
def own_J1 (j : Int32) : Int32 := ((j <<< ((1 : Int32) &&& 31)) + (1 : Int32))
def own_LD (Z : State) (h : Heap) (y : Addr) (cd zl : Int32) : Prop := (cd = (0 : Int32) ∧ own_Ln Z h y zl) ∨ (cd = (1 : Int32) ∧ ∃ zn, own_Ln Z h y zn ∧ (zn >>> ((1 : Int32) &&& 31)) = zl)
def own_RD (Z : State) (h : Heap) (y : Addr) (cd ip vz : Int32) : Prop := (cd = (0 : Int32) ∧ ∃ zn pu, own_Ln Z h y zn ∧ own_At Z h y ip pu ∧ ip < zn ∧ nar .char (own_LC pu) = vz) ∨ (cd = (1 : Int32) ∧ ∃ zn pu pw, own_Ln Z h y zn ∧ own_At Z h y (own_J0 ip) pu ∧ own_At Z h y (own_J1 ip) pw ∧ ip < (zn >>> ((1 : Int32) &&& 31)) ∧ nar .char (own_GC pu pw) = vz)
def own_SD (Z : State) (h : Heap) (y : Addr) (ky : ClassId) (cd n1 n2 : Int32) (vs us : List Value) (P : Prop) : Prop := (cd = (0 : Int32) ∧ P ∧ Arv Z h y ky .byte n1 vs (.int 0)) ∨ (cd = (1 : Int32) ∧ Arv Z h y ky .byte n2 us (.int 0))
section
variable {Z : State} {h h' : Heap} {y : Addr} {ky : ClassId} {cd n1 n2 : Int32} {vs us : List Value} {P : Prop}
theorem own_SD.ext (E : Ext h h') (S : own_SD Z h y ky cd n1 n2 vs us P) : own_SD Z h' y ky cd n1 n2 vs us P := by
  rcases S with ⟨q, hp, V⟩ | ⟨q, V⟩
  · exact Or.inl ⟨q, hp, V.ext E⟩
  · exact Or.inr ⟨q, V.ext E⟩
theorem own_SD.other {b : Addr} {sl : Nat} {w : Value} (S : own_SD Z h y ky cd n1 n2 vs us P) (W : Wr h h' b sl w) (hn : y ≠ b) : own_SD Z h' y ky cd n1 n2 vs us P := by
  rcases S with ⟨q, hp, V⟩ | ⟨q, V⟩
  · exact Or.inl ⟨q, hp, V.other W hn⟩
  · exact Or.inr ⟨q, V.other W hn⟩
theorem own_SD.lt (S : own_SD Z h y ky cd n1 n2 vs us P) : y < h.size := by
  rcases S with ⟨q, hp, V⟩ | ⟨q, V⟩
  · exact V.lt
  · exact V.lt
end
theorem own_sh0 (z : Int32) : z >>> ((0 : Int32) &&& 31) = z := by
  have q := c_ishr z (0 : Int32) 0 (by decide)
  refine Int32.toInt_inj.mp ?_
  omega
def own_dg (z : Int32) : Prop := ¬ (z < (48 : Int32)) ∧ ¬ ((57 : Int32) < z)
theorem own_sti {s : State} {args : Array Value} {C n d : String} {k : Int32} (h : (Jvm.Cond.eq (Jvm.Term.static C n d) (Jvm.Term.int k)).value args s none s [] = some true) (hi : (Jvm.Cond.initializedFor C n d).before args s = true ∨ ((Jvm.Cond.initialized C).before args s = true ∧ (Jvm.Cond.laysStatic C n d).before args s = true)) : Sta s s.heap C n d (.int k) := by
  obtain ⟨a, b, ha, hb, -, hk⟩ := cmp_v (Or.inl h)
  have eb : b = .int k := (Option.some.inj ((Term.int_eval k).symm.trans hb)).symm
  subst eb
  obtain ⟨z, rfl⟩ := hk
  simp only [Cond.value, ha, hb] at h
  have e : z = k := by simpa using h
  subst e
  exact Sta.start ha hi
theorem own_pd0 : parseMethodDescriptor "([CIILjava/lang/Void;)V" = some ⟨[(.array .char), .int, .int, (.object "java/lang/Void")], none⟩ := by decide +kernel
theorem own_pd1 : parseMethodDescriptor "()B" = some ⟨[], some .byte⟩ := by decide +kernel
theorem own_pd2 : parseMethodDescriptor "(IILjava/util/function/BiFunction;)I" = some ⟨[.int, .int, (.object "java/util/function/BiFunction")], some .int⟩ := by decide +kernel
theorem own_pd3 : parseMethodDescriptor "(II)V" = some ⟨[.int, .int], none⟩ := by decide +kernel
theorem own_pd4 : parseMethodDescriptor "([B)I" = some ⟨[(.array .byte)], some .int⟩ := by decide +kernel
theorem own_pd5 : parseMethodDescriptor "(I[B)V" = some ⟨[.int, (.array .byte)], none⟩ := by decide +kernel
theorem own_pd6 : parseMethodDescriptor "([BI)C" = some ⟨[(.array .byte), .int], some .char⟩ := by decide +kernel
theorem own_pd7 : parseMethodDescriptor "()Z" = some ⟨[], some .boolean⟩ := by decide +kernel
theorem own_pd8 : parseMethodDescriptor "(I)I" = some ⟨[.int], some .int⟩ := by decide +kernel
theorem own_pd9 : parseMethodDescriptor "(I)[B" = some ⟨[.int], some (.array .byte)⟩ := by decide +kernel
theorem own_pd10 : parseMethodDescriptor "([BII)V" = some ⟨[(.array .byte), .int, .int], none⟩ := by decide +kernel
theorem own_pd11 : parseMethodDescriptor "([CI[BII)I" = some ⟨[(.array .char), .int, (.array .byte), .int, .int], some .int⟩ := by decide +kernel
theorem own_pd12 : parseMethodDescriptor "([CII)[B" = some ⟨[(.array .char), .int, .int], some (.array .byte)⟩ := by decide +kernel
theorem own_pd13 : parseMethodDescriptor "([BI)B" = some ⟨[(.array .byte), .int], some .byte⟩ := by decide +kernel
theorem own_pd14 : parseMethodDescriptor "()I" = some ⟨[], some .int⟩ := by decide +kernel
theorem own_pd15 : parseMethodDescriptor "(I)C" = some ⟨[.int], some .char⟩ := by decide +kernel
theorem own_pd16 : parseMethodDescriptor "([C)V" = some ⟨[(.array .char)], none⟩ := by decide +kernel
theorem own_pd17 : parseMethodDescriptor "(Ljava/lang/String;)Z" = some ⟨[(.object "java/lang/String")], some .boolean⟩ := by decide +kernel
theorem own_pd18 : parseMethodDescriptor "(C)Z" = some ⟨[.char], some .boolean⟩ := by decide +kernel
theorem own_n1 (qn : Int32) : (((qn &&& (2147483647 : Int32)) % (5 : Int32)) = (0 : Int32) ∨ ((qn &&& (2147483647 : Int32)) % (5 : Int32)) = (1 : Int32) ∨ ((qn &&& (2147483647 : Int32)) % (5 : Int32)) = (2 : Int32) ∨ ((qn &&& (2147483647 : Int32)) % (5 : Int32)) = (3 : Int32) ∨ ((qn &&& (2147483647 : Int32)) % (5 : Int32)) = (4 : Int32)) := by
  have nf1 := rng32 qn
  have nf2 : (2147483647 : Int32).toInt = 2147483647 := by decide
  have nf3 := c_mask qn (2147483647 : Int32) 31 (by decide) (by decide)
  have nf4 : (5 : Int32).toInt = 5 := by decide
  have nf5 := c_irem (qn &&& (2147483647 : Int32)) (5 : Int32) (5) (by decide)
  have nf6 : (0 : Int32).toInt = 0 := by decide
  have nf7 : (1 : Int32).toInt = 1 := by decide
  have nf8 : (2 : Int32).toInt = 2 := by decide
  have nf9 : (3 : Int32).toInt = 3 := by decide
  have nf10 : (4 : Int32).toInt = 4 := by decide
  simp only [← Int32.toInt_inj]; omega
theorem own_dsI0_0 : decode jdk_42_method_149_code 0 = .ok (.aload_n 0, 1) := by decide +kernel
theorem own_dsI0_1 : decode jdk_42_method_149_code 1 = .ok (.invokespecial 1, 3) := by decide +kernel
theorem own_dsI0_4 : decode jdk_42_method_149_code 4 = .ok (.iload_n 3, 1) := by decide +kernel
theorem own_dsI0_5 : decode jdk_42_method_149_code 5 = .ok (.ifCond .ne 22, 3) := by decide +kernel
theorem own_dsI0_8 : decode jdk_42_method_149_code 8 = .ok (.aload_n 0, 1) := by decide +kernel
theorem own_dsI0_9 : decode jdk_42_method_149_code 9 = .ok (.ldc 7, 2) := by decide +kernel
theorem own_dsI0_11 : decode jdk_42_method_149_code 11 = .ok (.getfield 9, 3) := by decide +kernel
theorem own_dsI0_14 : decode jdk_42_method_149_code 14 = .ok (.putfield 9, 3) := by decide +kernel
theorem own_dsI0_17 : decode jdk_42_method_149_code 17 = .ok (.aload_n 0, 1) := by decide +kernel
theorem own_dsI0_18 : decode jdk_42_method_149_code 18 = .ok (.ldc 7, 2) := by decide +kernel
theorem own_dsI0_20 : decode jdk_42_method_149_code 20 = .ok (.getfield 15, 3) := by decide +kernel
theorem own_dsI0_23 : decode jdk_42_method_149_code 23 = .ok (.putfield 15, 3) := by decide +kernel
theorem own_dsI0_26 : decode jdk_42_method_149_code 26 = .ok (.return_, 1) := by decide +kernel
theorem own_pn_own_sI0 : plainName "java/lang/String" = true := by first | (simp [plainName, overriddenIn]; done) | decide +kernel
theorem own_ef_own_sI0 (m : MethodId) (x0 : Addr) (x1 : Addr) (x2 : Int32) (x3 : Int32) : entryFrame m #[(.ref x0), (.ref x1), (.int x2), (.int x3), .null] 6 = mkF m 0 #[.val (.ref x0), .val (.ref x1), .val (.int x2), .val (.int x3), .val .null, .unset] [] := by first | (simp [entryFrame, mkF, argsToLocals, Value.category]; done) | rfl
def Q_own_sI0 (Z : State) (a1 : Addr) (ac : Addr) (uc : Value) (h0 : Heap) (n0 : Nat) (v : Option Value) (h : Heap) (L : List Loc) : Prop := v = none ∧ Fr n0 L ∧ Keep h0 h [a1] ∧ Exa Z h a1 "java/lang/String" ∧ Fld Z h a1 "java/lang/String" "coder" "B" (.int 0) ∧ ∃ (y : Addr) (ky : ClassId), Fld Z h a1 "java/lang/String" "value" "[B" (.ref y) ∧ y ≠ a1 ∧ Arv Z h y ky .byte (0 : Int32) [] (.int 0)
set_option maxRecDepth 65536 in
set_option maxHeartbeats 40000000 in
theorem own_sI0 (l : Launch) (Z : State) (a0 : Array Value) (hw : ∀ d ∈ tables_1, d.before a0 Z = true) (ws : List Jvm.Cond) (a1 : Addr) (ac : Addr) (uc : Value) (h0 : Heap) (n0 : Nat) (Z0 : n0 ≤ h0.size) (E_a1 : Exa Z h0 a1 "java/lang/String") (Fv : Fld Z h0 a1 "java/lang/String" "value" "[B" .null) (Fc : Fld Z h0 a1 "java/lang/String" "coder" "B" uc) (g_a1 : n0 ≤ a1) :
    MetFree l (⟨"java/lang/String", "<init>", "([CIILjava/lang/Void;)V"⟩ : MethodName) (head1 (Jvm.Cond.code (⟨"java/lang/String", "<init>", "([CIILjava/lang/Void;)V"⟩ : MethodName) jdk_42_method_149_code 6 none :: ws) ({ frames := 1, cells := 2, slots := 4, locals := 12 } : Room)) (fun a U => a = #[(.ref a1), (.ref ac), (.int 0), (.int 0), .null] ∧ Z.Warmed39 U.vm ∧ U.heap = h0 ∧ CHv Z [("java/lang/String", 7)] U.vm h0) (fun _ _ _ _ _ => True) (fun _ U o U' => ∃ v L, o = .returned v ∧ Q_own_sI0 Z a1 ac uc h0 n0 v U'.heap L ∧ CHr Z [("java/lang/String", 7)] U.vm U.heap U'.vm U'.heap ∧ ReturnedEndW U o U' L ({ frames := 1, cells := 2, slots := 4, locals := 12 } : Room).cells ({ frames := 1, cells := 2, slots := 4, locals := 12 } : Room).slots) := by
  refine MetFree.of_bodySF (plainFor_of_name own_pn_own_sI0) hisR ?_
  intro p e s m args below meth c s₁ Bd hml0 hP hK
  obtain ⟨rfl, hZ, hh, hCH⟩ := hP
  have hx := Bd.exec
  have hby := Bd.bytes
  have hml : c.maxLocals = 6 := hml0
  have hown : s.vm.findClass "java/lang/String" = some m.cls := findClass_of_methodNamed Bd.named
  have hnm := (name_of_methodNamed Bd.named Bd.method).1
  have X0 : Stand p l e ({ frames := 1, cells := 2, slots := 4, locals := 12 } : Room) s m #[(.ref a1), (.ref ac), (.int 0), (.int 0), .null] below meth c s₁ [] 0 0 := Stand.of_body Bd
  have e0 : s₁.heap = h0 := by rw [← hh, Bd.state]; rfl
  have N0 := Fr.nil n0
  have pre0 : Goes p e below s₁ (entryFrame m #[(.ref a1), (.ref ac), (.int 0), (.int 0), .null] 6) s₁ (mkF m 0 #[.val (.ref a1), .val (.ref ac), .val (.int 0), .val (.int 0), .val .null, .unset] []) := fun t k => castTop (own_ef_own_sI0 m a1 ac (0 : Int32) (0 : Int32)) k
  have hEL : EW Z a0 [("java/lang/String", 7)] := (EW.cons (hw _ (own_mG (i := 19) rfl)) (by simp) EW.nil)
  have CH0 : CHr Z [("java/lang/String", 7)] s.vm h0 s.vm h0 := CHr.refl hCH
  have pre1 : Goes p e below s₁ (entryFrame m #[(.ref a1), (.ref ac), (.int 0), (.int 0), .null] 6) s₁ (mkF m 1 #[.val (.ref a1), .val (.ref ac), .val (.int 0), .val (.int 0), .val .null, .unset] [(.ref a1)]) := fun t kt => pre0 t (by
      show Steps p.tables e below (s₁.setTop (mkF m 0 #[.val (.ref a1), .val (.ref ac), .val (.int 0), .val (.int 0), .val .null, .unset] [])) _
      refine XS.aloadN X0.here hx rfl (hb hby own_dsI0_0) rfl rfl ?_
      exact kt)
  obtain ⟨T2, X2, e2, st2⟩ := initO X0 hx hZ hown (hw _ (own_mG (i := 16) rfl)) (hw _ (own_mG (i := 17) rfl)) (hw _ (own_mG (i := 18) rfl)) e0 (g := (mkF m 1 #[.val (.ref a1), .val (.ref ac), .val (.int 0), .val (.int 0), .val .null, .unset] [(.ref a1)])) rfl (by rw [hml]; rfl) rfl (hb hby own_dsI0_1) (by decide) (W := 0) (by show 2 * 0 + _ ≤ _; exact Nat.le_of_eq rfl) (by decide)
  have pre3 : Goes p e below s₁ (entryFrame m #[(.ref a1), (.ref ac), (.int 0), (.int 0), .null] 6) T2 (mkF m 4 #[.val (.ref a1), .val (.ref ac), .val (.int 0), .val (.int 0), .val .null, .unset] []) := fun t kt => pre1 t (st2 t kt)
  have SF0_a1 : Safe Z [("java/lang/String", 7)] s.vm h0 a1 := (own_safe hZ.alike E_a1 Fv)
  have pre4 : Goes p e below s₁ (entryFrame m #[(.ref a1), (.ref ac), (.int 0), (.int 0), .null] 6) T2 (mkF m 9 #[.val (.ref a1), .val (.ref ac), .val (.int 0), .val (.int 0), .val .null, .unset] [(.ref a1)]) := fun t kt => pre3 t (by
      show Steps p.tables e below (T2.setTop (mkF m 4 #[.val (.ref a1), .val (.ref ac), .val (.int 0), .val (.int 0), .val .null, .unset] [])) _
      refine XS.iloadN X2.here hx rfl (hb hby own_dsI0_4) rfl ?_
      refine XS.ifNo X2.here hx rfl (hb hby own_dsI0_5) rfl ((if0 _ _).trans (teq (by decide : (0 : Int32) = (0 : Int32))).2) ?_
      show Steps p.tables e below (T2.setTop (mkF m 8 #[.val (.ref a1), .val (.ref ac), .val (.int 0), .val (.int 0), .val .null, .unset] [])) _
      refine XS.aloadN X2.here hx rfl (hb hby own_dsI0_8) rfl rfl ?_
      exact kt)
  have wS5 : ∀ a ∈ Bundle.stringAtoms, a.before a0 Z = true := fun d hd => by
    simp only [Bundle.stringAtoms, List.mem_cons, List.not_mem_nil, or_false] at hd
    rcases hd with rfl | rfl | rfl | rfl | rfl | rfl | rfl
    · exact (hw _ (own_mG (i := 7) rfl))
    · exact (hw _ (own_mG (i := 6) rfl))
    · exact (hw _ (own_mG (i := 20) rfl))
    · exact (hw _ (own_mG (i := 21) rfl))
    · exact (hw _ (own_mG (i := 22) rfl))
    · exact (hw _ (own_mG (i := 23) rfl))
    · exact (hw _ (own_mG (i := 24) rfl))
  obtain ⟨sa5, T5, h5, kk5, sd5, ky5, X5, e5, E5, hS5, hk5, hZ, hown, Es5, Fc5, Fv5, Vd5, ls5, ld5, hC5, Lt5, nS5, st5⟩ := ldcCH (s := s) (vm0 := s.vm) X2 hx hZ hown (hw _ (own_mG (i := 19) rfl)) wS5 e2 (State.WarmedH.since (State.WarmedH.refl s) 0) (Nat.zero_le _) hEL (own_mG (i := 0) rfl) CH0.1 (vs := []) (z := (0 : Int32)) ⟨by simp, by simp⟩ (by decide) (by decide) (g := (mkF m 9 #[.val (.ref a1), .val (.ref ac), .val (.int 0), .val (.int 0), .val .null, .unset] [(.ref a1)])) rfl (hb hby own_dsI0_9) (n := 0) (by decide) (by decide) (by decide) (by decide)
  have K5 : Keep h0 h5 [a1] := (Keep.refl h0 [a1]).ext E5
  have CH5 : CHr Z [("java/lang/String", 7)] s.vm h0 T5.vm h5 := CH0.trans hC5
  have SF5_a1 : Safe Z [("java/lang/String", 7)] T5.vm h5 a1 := CHr.safe hC5 E_a1.lt SF0_a1
  have pre6 : Goes p e below s₁ (entryFrame m #[(.ref a1), (.ref ac), (.int 0), (.int 0), .null] 6) T5 (mkF m 11 #[.val (.ref a1), .val (.ref ac), .val (.int 0), .val (.int 0), .val .null, .unset] [(.ref sa5), (.ref a1)]) := fun t kt => pre4 t (st5 t kt)
  obtain ⟨T7, X7, e7, st7⟩ := getF X5 hx hZ hown (host := "") (Or.inl (hw _ (own_mG (i := 25) rfl))) Via.refl e5 Fv5 (g := (mkF m 11 #[.val (.ref a1), .val (.ref ac), .val (.int 0), .val (.int 0), .val .null, .unset] [(.ref sa5), (.ref a1)])) rfl rfl (hb hby own_dsI0_11)
  have pre8 : Goes p e below s₁ (entryFrame m #[(.ref a1), (.ref ac), (.int 0), (.int 0), .null] 6) T7 (mkF m 14 #[.val (.ref a1), .val (.ref ac), .val (.int 0), .val (.int 0), .val .null, .unset] [(.ref sd5), (.ref a1)]) := fun t kt => pre6 t (st7 t kt)
  obtain ⟨T9, h9, X9, e9, W9, st9⟩ := putF X7 hx hZ hown (host := "") (Or.inl (hw _ (own_mG (i := 25) rfl))) Via.refl e7 (Fv.ext E5) (E_a1.ext E5) (Or.inr ⟨(hw _ (own_mG (i := 21) rfl)), rfl, hnm⟩) (hw _ (own_mG (i := 6) rfl)) (ty := (.array .byte)) (by decide) rfl rfl (g := (mkF m 14 #[.val (.ref a1), .val (.ref ac), .val (.int 0), .val (.int 0), .val .null, .unset] [(.ref sd5), (.ref a1)])) rfl rfl (hb hby own_dsI0_14)
  have Fw9 := (Fv.ext E5).same W9
  have K9 : Keep h0 h9 [a1] := K5.wr W9 (Or.inl (own_mG (i := 0) rfl))
  have CH9 : CHr Z [("java/lang/String", 7)] s.vm h0 T5.vm h9 := CH5.trans (CHr.wr W9 SF5_a1 CH5.1)
  have SF9_a1 : Safe Z [("java/lang/String", 7)] T5.vm h9 a1 := Safe.wr W9 SF5_a1 CH5.1 SF5_a1
  have N9 := Fr.snoc X9 N0 g_a1
  have pre10 : Goes p e below s₁ (entryFrame m #[(.ref a1), (.ref ac), (.int 0), (.int 0), .null] 6) T9 (mkF m 17 #[.val (.ref a1), .val (.ref ac), .val (.int 0), .val (.int 0), .val .null, .unset] []) := fun t kt => pre8 t (st9 t kt)
  have pre11 : Goes p e below s₁ (entryFrame m #[(.ref a1), (.ref ac), (.int 0), (.int 0), .null] 6) T9 (mkF m 18 #[.val (.ref a1), .val (.ref ac), .val (.int 0), .val (.int 0), .val .null, .unset] [(.ref a1)]) := fun t kt => pre10 t (by
      show Steps p.tables e below (T9.setTop (mkF m 17 #[.val (.ref a1), .val (.ref ac), .val (.int 0), .val (.int 0), .val .null, .unset] [])) _
      refine XS.aloadN X9.here hx rfl (hb hby own_dsI0_17) rfl rfl ?_
      exact kt)
  have pre13 : Goes p e below s₁ (entryFrame m #[(.ref a1), (.ref ac), (.int 0), (.int 0), .null] 6) T9 (mkF m 20 #[.val (.ref a1), .val (.ref ac), .val (.int 0), .val (.int 0), .val .null, .unset] [(.ref sa5), (.ref a1)]) := fun t kt => pre11 t (by
      show Steps p.tables e below (T9.setTop (mkF m 18 #[.val (.ref a1), .val (.ref ac), .val (.int 0), .val (.int 0), .val .null, .unset] [(.ref a1)])) _
      refine ldcAgain (s := s) (vm0 := T5.vm) X9 hx hZ hown (hw _ (own_mG (i := 19) rfl)) Lt5 (g := (mkF m 18 #[.val (.ref a1), .val (.ref ac), .val (.int 0), .val (.int 0), .val .null, .unset] [(.ref a1)])) rfl (hb hby own_dsI0_18) _ ?_
      exact kt)
  obtain ⟨T14, X14, e14, st14⟩ := getF X9 hx hZ hown (host := "") (Or.inl (hw _ (own_mG (i := 26) rfl))) Via.refl e9 (Fc5.other W9 (Or.inl (Ne.symm (nS5 a1 SF5_a1).1))) (g := (mkF m 20 #[.val (.ref a1), .val (.ref ac), .val (.int 0), .val (.int 0), .val .null, .unset] [(.ref sa5), (.ref a1)])) rfl rfl (hb hby own_dsI0_20)
  have pre15 : Goes p e below s₁ (entryFrame m #[(.ref a1), (.ref ac), (.int 0), (.int 0), .null] 6) T14 (mkF m 23 #[.val (.ref a1), .val (.ref ac), .val (.int 0), .val (.int 0), .val .null, .unset] [(.int 0), (.ref a1)]) := fun t kt => pre13 t (st14 t kt)
  obtain ⟨T16, h16, X16, e16, W16, st16⟩ := putFN X14 hx hZ hown (hw _ (own_mG (i := 26) rfl)) Via.refl e14 ((Fc.ext E5).other W9 (Or.inr (slot_ne (Or.inr (hw _ (own_mG (i := 22) rfl))) (Or.inr (hw _ (own_mG (i := 21) rfl))) (by decide) (t := .byte) (t' := (.array .byte)) (by decide) (by decide)))) ((E_a1.ext E5).wr W9) (Or.inr ⟨(hw _ (own_mG (i := 22) rfl)), rfl, hnm⟩) (hw _ (own_mG (i := 6) rfl)) (ty := .byte) (v' := (.int 0)) (by decide) rfl rfl (g := (mkF m 23 #[.val (.ref a1), .val (.ref ac), .val (.int 0), .val (.int 0), .val .null, .unset] [(.int 0), (.ref a1)])) rfl rfl (hb hby own_dsI0_23)
  have Fw16 := ((Fc.ext E5).other W9 (Or.inr (slot_ne (Or.inr (hw _ (own_mG (i := 22) rfl))) (Or.inr (hw _ (own_mG (i := 21) rfl))) (by decide) (t := .byte) (t' := (.array .byte)) (by decide) (by decide)))).same W16
  have K16 : Keep h0 h16 [a1] := K9.wr W16 (Or.inl (own_mG (i := 0) rfl))
  have CH16 : CHr Z [("java/lang/String", 7)] s.vm h0 T5.vm h16 := CH9.trans (CHr.wr W16 SF9_a1 CH9.1)
  have SF16_a1 : Safe Z [("java/lang/String", 7)] T5.vm h16 a1 := Safe.wr W16 SF9_a1 CH9.1 SF9_a1
  have N16 := Fr.snoc X16 N9 g_a1
  have pre17 : Goes p e below s₁ (entryFrame m #[(.ref a1), (.ref ac), (.int 0), (.int 0), .null] 6) T16 (mkF m 26 #[.val (.ref a1), .val (.ref ac), .val (.int 0), .val (.int 0), .val .null, .unset] []) := fun t kt => pre15 t (st16 t kt)
  obtain ⟨fs, hr, hrun, hended, hEnd⟩ := X16.leaveW hS5 (by rw [e16]; exact (Nat.le_trans (Nat.le_trans hk5 (Keep.of_wr W9).1) (Keep.of_wr W16).1)) (v := none) (fun _ => rfl)
  refine ⟨_, _, pre17 _ ?_, hrun, hended, _, _, rfl, ?_, ?_, hEnd.1, hEnd.2.1, hEnd.2.2.1, hEnd.2.2.2.mono (by decide) (by decide)⟩
  · show Steps p.tables e below (T16.setTop (mkF m 26 #[.val (.ref a1), .val (.ref ac), .val (.int 0), .val (.int 0), .val .null, .unset] [])) _
    exact X16.returnOut hx Bd.returns (hb hby own_dsI0_26) hr
  · show Q_own_sI0 Z a1 ac uc h0 n0 _ T16.heap _
    rw [e16]
    exact ⟨rfl, N16, K16, (((E_a1.ext E5).wr W9).wr W16), Fw16, sd5, _, (Fw9.other W16 (Or.inr (slot_ne (Or.inr (hw _ (own_mG (i := 21) rfl))) (Or.inr (hw _ (own_mG (i := 22) rfl))) (by decide) (t := (.array .byte)) (t' := .byte) (by decide) (by decide)))), (Ne.symm (nS5 a1 SF5_a1).2), ((Vd5.other W9 (Ne.symm (nS5 a1 SF5_a1).2)).other W16 (Ne.symm (nS5 a1 SF5_a1).2))⟩
  · show CHr Z [("java/lang/String", 7)] s.vm s.heap T16.vm T16.heap
    rw [hh, e16]
    exact CH16.trans (CHv.at (s := s) (vm0 := T5.vm) X16 hZ hEL CH16.1)
theorem own_dsJ0_0 : decode jdk_42_method_3_code 0 = .ok (.aload_n 0, 1) := by decide +kernel
theorem own_dsJ0_1 : decode jdk_42_method_3_code 1 = .ok (.aload_n 1, 1) := by decide +kernel
theorem own_dsJ0_2 : decode jdk_42_method_3_code 2 = .ok (.iconst 0, 1) := by decide +kernel
theorem own_dsJ0_3 : decode jdk_42_method_3_code 3 = .ok (.aload_n 1, 1) := by decide +kernel
theorem own_dsJ0_4 : decode jdk_42_method_3_code 4 = .ok (.arraylength, 1) := by decide +kernel
theorem own_dsJ0_5 : decode jdk_42_method_3_code 5 = .ok (.aconst_null, 1) := by decide +kernel
theorem own_dsJ0_6 : decode jdk_42_method_3_code 6 = .ok (.invokespecial 27, 3) := by decide +kernel
theorem own_dsJ0_9 : decode jdk_42_method_3_code 9 = .ok (.return_, 1) := by decide +kernel
theorem own_pn_own_sJ0 : plainName "java/lang/String" = true := by first | (simp [plainName, overriddenIn]; done) | decide +kernel
theorem own_ef_own_sJ0 (m : MethodId) (x0 : Addr) (x1 : Addr) : entryFrame m #[(.ref x0), (.ref x1)] 2 = mkF m 0 #[.val (.ref x0), .val (.ref x1)] [] := by first | (simp [entryFrame, mkF, argsToLocals, Value.category]; done) | rfl
def Q_own_sJ0 (Z : State) (a1 : Addr) (ac : Addr) (kc : ClassId) (uc : Value) (h0 : Heap) (n0 : Nat) (v : Option Value) (h : Heap) (L : List Loc) : Prop := v = none ∧ Fr n0 L ∧ Keep h0 h [a1] ∧ Exa Z h a1 "java/lang/String" ∧ Fld Z h a1 "java/lang/String" "coder" "B" (.int 0) ∧ ∃ (y : Addr) (ky : ClassId), Fld Z h a1 "java/lang/String" "value" "[B" (.ref y) ∧ y ≠ a1 ∧ Arv Z h y ky .byte (0 : Int32) [] (.int 0)
set_option maxRecDepth 65536 in
set_option maxHeartbeats 40000000 in
theorem own_sJ0 (l : Launch) (Z : State) (a0 : Array Value) (hw : ∀ d ∈ tables_1, d.before a0 Z = true) (ws : List Jvm.Cond) (a1 : Addr) (ac : Addr) (kc : ClassId) (uc : Value) (h0 : Heap) (n0 : Nat) (Z0 : n0 ≤ h0.size) (E_a1 : Exa Z h0 a1 "java/lang/String") (Fv : Fld Z h0 a1 "java/lang/String" "value" "[B" .null) (Fc : Fld Z h0 a1 "java/lang/String" "coder" "B" uc) (g_a1 : n0 ≤ a1) (V_ac : Arv Z h0 ac kc .char (0 : Int32) [] (.int 0)) :
    MetFree l (⟨"java/lang/String", "<init>", "([C)V"⟩ : MethodName) (head1 (Jvm.Cond.code (⟨"java/lang/String", "<init>", "([C)V"⟩ : MethodName) jdk_42_method_3_code 2 none :: ws) ({ frames := 2, cells := 2, slots := 4, locals := 29 } : Room)) (fun a U => a = #[(.ref a1), (.ref ac)] ∧ Z.Warmed39 U.vm ∧ U.heap = h0 ∧ CHv Z [("java/lang/String", 7)] U.vm h0) (fun _ _ _ _ _ => True) (fun _ U o U' => ∃ v L, o = .returned v ∧ Q_own_sJ0 Z a1 ac kc uc h0 n0 v U'.heap L ∧ CHr Z [("java/lang/String", 7)] U.vm U.heap U'.vm U'.heap ∧ ReturnedEndW U o U' L ({ frames := 2, cells := 2, slots := 4, locals := 29 } : Room).cells ({ frames := 2, cells := 2, slots := 4, locals := 29 } : Room).slots) := by
  refine MetFree.of_bodySF (plainFor_of_name own_pn_own_sJ0) hisR ?_
  intro p e s m args below meth c s₁ Bd hml0 hP hK
  obtain ⟨rfl, hZ, hh, hCH⟩ := hP
  have hx := Bd.exec
  have hby := Bd.bytes
  have hml : c.maxLocals = 2 := hml0
  have hown : s.vm.findClass "java/lang/String" = some m.cls := findClass_of_methodNamed Bd.named
  have hnm := (name_of_methodNamed Bd.named Bd.method).1
  have X0 : Stand p l e ({ frames := 2, cells := 2, slots := 4, locals := 29 } : Room) s m #[(.ref a1), (.ref ac)] below meth c s₁ [] 0 0 := Stand.of_body Bd
  have e0 : s₁.heap = h0 := by rw [← hh, Bd.state]; rfl
  have N0 := Fr.nil n0
  have pre0 : Goes p e below s₁ (entryFrame m #[(.ref a1), (.ref ac)] 2) s₁ (mkF m 0 #[.val (.ref a1), .val (.ref ac)] []) := fun t k => castTop (own_ef_own_sJ0 m a1 ac) k
  have hEL : EW Z a0 [("java/lang/String", 7)] := (EW.cons (hw _ (own_mG (i := 19) rfl)) (by simp) EW.nil)
  have CH0 : CHr Z [("java/lang/String", 7)] s.vm h0 s.vm h0 := CHr.refl hCH
  have pre1 : Goes p e below s₁ (entryFrame m #[(.ref a1), (.ref ac)] 2) s₁ (mkF m 4 #[.val (.ref a1), .val (.ref ac)] [(.ref ac), (.int 0), (.ref ac), (.ref a1)]) := fun t kt => pre0 t (by
      show Steps p.tables e below (s₁.setTop (mkF m 0 #[.val (.ref a1), .val (.ref ac)] [])) _
      refine XS.aloadN X0.here hx rfl (hb hby own_dsJ0_0) rfl rfl ?_
      refine XS.aloadN X0.here hx rfl (hb hby own_dsJ0_1) rfl rfl ?_
      show Steps p.tables e below (s₁.setTop (mkF m 2 #[.val (.ref a1), .val (.ref ac)] [(.ref ac), (.ref a1)])) _
      refine XS.iconst X0.here hx rfl (hb hby own_dsJ0_2) ?_
      refine XS.aloadN X0.here hx rfl (hb hby own_dsJ0_3) rfl rfl ?_
      exact kt)
  obtain ⟨cl2, Ar2, q2, S2, N_2, H2, G2⟩ := (id (V_ac))
  have pre3 : Goes p e below s₁ (entryFrame m #[(.ref a1), (.ref ac)] 2) s₁ (mkF m 6 #[.val (.ref a1), .val (.ref ac)] [.null, (.int 0), (.int 0), (.ref ac), (.ref a1)]) := fun t kt => pre1 t (by
      show Steps p.tables e below (s₁.setTop (mkF m 4 #[.val (.ref a1), .val (.ref ac)] [(.ref ac), (.int 0), (.ref ac), (.ref a1)])) _
      refine X0.arraylength hx (by (try rw [e0]); exact Ar2.1) (State.isArrayOf_alike hZ.alike Ar2.2.1) (g := (mkF m 4 #[.val (.ref a1), .val (.ref ac)] [(.ref ac), (.int 0), (.ref ac), (.ref a1)])) rfl rfl (hb hby own_dsJ0_4) _ ?_
      rw [len_of S2 N_2]
      refine XS.aconstNull X0.here hx rfl (hb hby own_dsJ0_5) ?_
      exact kt)
  obtain ⟨_, _, ⟨T4, L4, k4, n4⟩, -, XX4, hSS4, hGG4, ⟨Lc4, hQ4, l4, y4, z4, hCr4⟩, st4⟩ := X0.specialBackS hx (y := (⟨"java/lang/String", "<init>", "([CIILjava/lang/Void;)V"⟩ : MethodName)) rfl hown (mvT hZ (hw _ (own_mG (i := 12) rfl))) (mvT hZ (hw _ (own_mG (i := 13) rfl))) (mvT hZ (hw _ (own_mG (i := 15) rfl))) (by decide) (backOfSH (s := s) (vm0 := s.vm) (W := 0) (own_sI0 l Z a0 hw [] a1 ac uc h0 n0 Z0 E_a1 Fv Fc g_a1) hZ (hw _ (own_mG (i := 15) rfl)) (hw _ (own_mG (i := 7) rfl)) (by decide) (by decide) hEL CH0.1) (g := (mkF m 6 #[.val (.ref a1), .val (.ref ac)] [.null, (.int 0), (.int 0), (.ref ac), (.ref a1)])) rfl (by rw [hml]; rfl) (Steps.refl _) (a := a1) (argsL := [(.ref ac), (.int 0), (.int 0), .null]) (rest := []) (lenOf own_pd0 rfl) rfl (by show 2 * 0 + _ ≤ _; exact Nat.le_of_eq rfl) (hb hby own_dsJ0_6) (fun _ _ => ⟨rfl, e0, (by decide : 0 + 2 ≤ _), (by decide : 0 + 4 ≤ _)⟩)
  dsimp only [Pt.U, Pt.locs, Pt.cells, Pt.slots] at hCr4 hSS4 hGG4 XX4 l4 y4 z4 st4 hQ4
  subst l4 y4 z4
  obtain ⟨rfl, N4q, K4q, Rest4⟩ := hQ4
  have N4 := Fr.app N0 N4q
  obtain ⟨X4, hS4, hZ, hown⟩ := rebS (s := s) (vm0 := s.vm) (State.WarmedH.since (State.WarmedH.refl s) 0) (by rw [e0]; exact (Nat.zero_le _)) XX4 hSS4 hGG4 hZ hown
  have KC4 : Keep h0 T4.heap [a1] := (Keep.refl h0 [a1]).trans K4q (allS (Or.inl (own_mG (i := 0) rfl)) all0)
  have CH4 : CHr Z [("java/lang/String", 7)] s.vm h0 T4.vm T4.heap := CH0.trans hCr4
  have pre5 : Goes p e below s₁ (entryFrame m #[(.ref a1), (.ref ac)] 2) T4 (mkF m 9 #[.val (.ref a1), .val (.ref ac)] []) := fun t kt => pre3 t (st4.trans kt)
  obtain ⟨fs, hr, hrun, hended, hEnd⟩ := X4.leaveW hS4 (Nat.le_refl _) (v := none) (fun _ => rfl)
  refine ⟨_, _, pre5 _ ?_, hrun, hended, _, _, rfl, ?_, ?_, hEnd.1, hEnd.2.1, hEnd.2.2.1, hEnd.2.2.2.mono (by decide) (by decide)⟩
  · show Steps p.tables e below (T4.setTop (mkF m 9 #[.val (.ref a1), .val (.ref ac)] [])) _
    exact X4.returnOut hx Bd.returns (hb hby own_dsJ0_9) hr
  · show Q_own_sJ0 Z a1 ac kc uc h0 n0 _ T4.heap _
    exact ⟨rfl, N4, KC4, Rest4⟩
  · show CHr Z [("java/lang/String", 7)] s.vm s.heap T4.vm T4.heap
    rw [hh]
    exact CH4.trans (CHv.at (s := s) (vm0 := T4.vm) X4 hZ hEL CH4.1)
theorem own_d_sco0_0 : decode jdk_42_method_152_code 0 = .ok (.getstatic 38, 3) := by decide +kernel
theorem own_d_sco0_3 : decode jdk_42_method_152_code 3 = .ok (.ifCond .eq 10, 3) := by decide +kernel
theorem own_d_sco0_6 : decode jdk_42_method_152_code 6 = .ok (.aload_n 0, 1) := by decide +kernel
theorem own_d_sco0_7 : decode jdk_42_method_152_code 7 = .ok (.getfield 15, 3) := by decide +kernel
theorem own_d_sco0_10 : decode jdk_42_method_152_code 10 = .ok (.goto 4, 3) := by decide +kernel
theorem own_d_sco0_14 : decode jdk_42_method_152_code 14 = .ok (.ireturn, 1) := by decide +kernel
theorem own_pn_own_sco0 : plainName "java/lang/String" = true := by first | (simp [plainName, overriddenIn]; done) | decide +kernel
theorem own_ef_own_sco0 (m : MethodId) (x0 : Addr) : entryFrame m #[(.ref x0)] 1 = mkF m 0 #[.val (.ref x0)] [] := by first | (simp [entryFrame, mkF, argsToLocals, Value.category]; done) | rfl
def Q_own_sco0 (Z : State) (a1 : Addr) (cs : Int32) (fm : Value) (h0 : Heap) (n0 : Nat) (v : Option Value) (h : Heap) (L : List Loc) : Prop := v = some (.int 0) ∧ Fr n0 L ∧ h = h0
set_option maxRecDepth 65536 in
set_option maxHeartbeats 40000000 in
theorem own_sco0 (l : Launch) (Z : State) (a0 : Array Value) (hw : ∀ d ∈ tables_1, d.before a0 Z = true) (ws : List Jvm.Cond) (a1 : Addr) (cs : Int32) (fm : Value) (h0 : Heap) (n0 : Nat) (Z0 : n0 ≤ h0.size) (Fc : Fld Z h0 a1 "java/lang/String" "coder" "B" (.int 0)) (hst : own_ST Z cs fm) (O0 : Old Z n0 h0) :
    MetFree l (⟨"java/lang/String", "coder", "()B"⟩ : MethodName) (head1 (Jvm.Cond.code (⟨"java/lang/String", "coder", "()B"⟩ : MethodName) jdk_42_method_152_code 1 (some .byte) :: ws) ({ frames := 0, cells := 0, slots := 0, locals := 0 } : Room)) (fun a U => a = #[(.ref a1)] ∧ Z.Warmed39 U.vm ∧ U.heap = h0) (fun _ _ _ _ _ => True) (fun _ U o U' => ∃ v L, o = .returned v ∧ Q_own_sco0 Z a1 cs fm h0 n0 v U'.heap L ∧ FrameEnd U o U' L ({ frames := 0, cells := 0, slots := 0, locals := 0 } : Room).cells ({ frames := 0, cells := 0, slots := 0, locals := 0 } : Room).slots) := by
  refine MetFree.of_bodySF (plainFor_of_name own_pn_own_sco0) hisR ?_
  intro p e s m args below meth c s₁ Bd hml0 hP hK
  obtain ⟨rfl, hZ, hh⟩ := hP
  have hx := Bd.exec
  have hby := Bd.bytes
  have hml : c.maxLocals = 1 := hml0
  have hown : s.vm.findClass "java/lang/String" = some m.cls := findClass_of_methodNamed Bd.named
  have hnm := (name_of_methodNamed Bd.named Bd.method).1
  have X0 : Stand p l e ({ frames := 0, cells := 0, slots := 0, locals := 0 } : Room) s m #[(.ref a1)] below meth c s₁ [] 0 0 := Stand.of_body Bd
  have e0 : s₁.heap = h0 := by rw [← hh, Bd.state]; rfl
  have N0 := Fr.nil n0
  have pre0 : Goes p e below s₁ (entryFrame m #[(.ref a1)] 1) s₁ (mkF m 0 #[.val (.ref a1)] []) := fun t k => castTop (own_ef_own_sco0 m a1) k
  obtain ⟨T1, X1, e1, st1⟩ := getS2 X0 hx hZ hown (host := "") (Or.inl (hw _ (own_mG (i := 41) rfl))) Via.refl e0 (hst.1.ext O0.2) (g := (mkF m 0 #[.val (.ref a1)] [])) rfl (hb hby own_d_sco0_0)
  have pre2 : Goes p e below s₁ (entryFrame m #[(.ref a1)] 1) T1 (mkF m 3 #[.val (.ref a1)] [(.int cs)]) := fun t kt => pre0 t (st1 t kt)
  have pre3 : Goes p e below s₁ (entryFrame m #[(.ref a1)] 1) T1 (mkF m 7 #[.val (.ref a1)] [(.ref a1)]) := fun t kt => pre2 t (by
      show Steps p.tables e below (T1.setTop (mkF m 3 #[.val (.ref a1)] [(.int cs)])) _
      refine XS.ifNo X1.here hx rfl (hb hby own_d_sco0_3) rfl ((if0 _ _).trans (feq hst.2.1).1) ?_
      refine XS.aloadN X1.here hx rfl (hb hby own_d_sco0_6) rfl rfl ?_
      exact kt)
  obtain ⟨T4, X4, e4, st4⟩ := getF X1 hx hZ hown (host := "") (Or.inl (hw _ (own_mG (i := 26) rfl))) Via.refl e1 Fc (g := (mkF m 7 #[.val (.ref a1)] [(.ref a1)])) rfl rfl (hb hby own_d_sco0_7)
  have pre5 : Goes p e below s₁ (entryFrame m #[(.ref a1)] 1) T4 (mkF m 10 #[.val (.ref a1)] [(.int 0)]) := fun t kt => pre3 t (st4 t kt)
  have pre6 : Goes p e below s₁ (entryFrame m #[(.ref a1)] 1) T4 (mkF m 14 #[.val (.ref a1)] [(.int 0)]) := fun t kt => pre5 t (by
      show Steps p.tables e below (T4.setTop (mkF m 10 #[.val (.ref a1)] [(.int 0)])) _
      refine XS.goto X4.here hx rfl (pc0 := 10) (pc' := 14) rfl (hb hby own_d_sco0_10) (by decide) (by decide) ?_
      exact kt)
  obtain ⟨fs, hr, hrun, hended, hW, hsame⟩ := X4.leave (v := some (.int 0)) (fun h => by rw [Bd.returns] at h; cases h)
  refine ⟨_, _, pre6 _ ?_, hrun, hended, _, _, rfl, ?_, ⟨_, rfl⟩, hW, hsame.mono (by decide) (by decide)⟩
  · show Steps p.tables e below (T4.setTop (mkF m 14 #[.val (.ref a1)] [(.int 0)])) _
    exact retN X4 hx (t := .byte) Bd.returns (by simp) (hb hby own_d_sco0_14) hr
  · show Q_own_sco0 Z a1 cs fm h0 n0 _ T4.heap _
    rw [e4]
    exact ⟨rfl, N0, rfl⟩
theorem own_d_sco1_0 : decode jdk_42_method_152_code 0 = .ok (.getstatic 38, 3) := by decide +kernel
theorem own_d_sco1_3 : decode jdk_42_method_152_code 3 = .ok (.ifCond .eq 10, 3) := by decide +kernel
theorem own_d_sco1_6 : decode jdk_42_method_152_code 6 = .ok (.aload_n 0, 1) := by decide +kernel
theorem own_d_sco1_7 : decode jdk_42_method_152_code 7 = .ok (.getfield 15, 3) := by decide +kernel
theorem own_d_sco1_10 : decode jdk_42_method_152_code 10 = .ok (.goto 4, 3) := by decide +kernel
theorem own_d_sco1_14 : decode jdk_42_method_152_code 14 = .ok (.ireturn, 1) := by decide +kernel
theorem own_pn_own_sco1 : plainName "java/lang/String" = true := by first | (simp [plainName, overriddenIn]; done) | decide +kernel
theorem own_ef_own_sco1 (m : MethodId) (x0 : Addr) : entryFrame m #[(.ref x0)] 1 = mkF m 0 #[.val (.ref x0)] [] := by first | (simp [entryFrame, mkF, argsToLocals, Value.category]; done) | rfl
def Q_own_sco1 (Z : State) (a1 : Addr) (cs : Int32) (fm : Value) (h0 : Heap) (n0 : Nat) (v : Option Value) (h : Heap) (L : List Loc) : Prop := v = some (.int 1) ∧ Fr n0 L ∧ h = h0
set_option maxRecDepth 65536 in
set_option maxHeartbeats 40000000 in
theorem own_sco1 (l : Launch) (Z : State) (a0 : Array Value) (hw : ∀ d ∈ tables_1, d.before a0 Z = true) (ws : List Jvm.Cond) (a1 : Addr) (cs : Int32) (fm : Value) (h0 : Heap) (n0 : Nat) (Z0 : n0 ≤ h0.size) (Fc : Fld Z h0 a1 "java/lang/String" "coder" "B" (.int 1)) (hst : own_ST Z cs fm) (O0 : Old Z n0 h0) :
    MetFree l (⟨"java/lang/String", "coder", "()B"⟩ : MethodName) (head1 (Jvm.Cond.code (⟨"java/lang/String", "coder", "()B"⟩ : MethodName) jdk_42_method_152_code 1 (some .byte) :: ws) ({ frames := 0, cells := 0, slots := 0, locals := 0 } : Room)) (fun a U => a = #[(.ref a1)] ∧ Z.Warmed39 U.vm ∧ U.heap = h0) (fun _ _ _ _ _ => True) (fun _ U o U' => ∃ v L, o = .returned v ∧ Q_own_sco1 Z a1 cs fm h0 n0 v U'.heap L ∧ FrameEnd U o U' L ({ frames := 0, cells := 0, slots := 0, locals := 0 } : Room).cells ({ frames := 0, cells := 0, slots := 0, locals := 0 } : Room).slots) := by
  refine MetFree.of_bodySF (plainFor_of_name own_pn_own_sco1) hisR ?_
  intro p e s m args below meth c s₁ Bd hml0 hP hK
  obtain ⟨rfl, hZ, hh⟩ := hP
  have hx := Bd.exec
  have hby := Bd.bytes
  have hml : c.maxLocals = 1 := hml0
  have hown : s.vm.findClass "java/lang/String" = some m.cls := findClass_of_methodNamed Bd.named
  have hnm := (name_of_methodNamed Bd.named Bd.method).1
  have X0 : Stand p l e ({ frames := 0, cells := 0, slots := 0, locals := 0 } : Room) s m #[(.ref a1)] below meth c s₁ [] 0 0 := Stand.of_body Bd
  have e0 : s₁.heap = h0 := by rw [← hh, Bd.state]; rfl
  have N0 := Fr.nil n0
  have pre0 : Goes p e below s₁ (entryFrame m #[(.ref a1)] 1) s₁ (mkF m 0 #[.val (.ref a1)] []) := fun t k => castTop (own_ef_own_sco1 m a1) k
  obtain ⟨T1, X1, e1, st1⟩ := getS2 X0 hx hZ hown (host := "") (Or.inl (hw _ (own_mG (i := 41) rfl))) Via.refl e0 (hst.1.ext O0.2) (g := (mkF m 0 #[.val (.ref a1)] [])) rfl (hb hby own_d_sco1_0)
  have pre2 : Goes p e below s₁ (entryFrame m #[(.ref a1)] 1) T1 (mkF m 3 #[.val (.ref a1)] [(.int cs)]) := fun t kt => pre0 t (st1 t kt)
  have pre3 : Goes p e below s₁ (entryFrame m #[(.ref a1)] 1) T1 (mkF m 7 #[.val (.ref a1)] [(.ref a1)]) := fun t kt => pre2 t (by
      show Steps p.tables e below (T1.setTop (mkF m 3 #[.val (.ref a1)] [(.int cs)])) _
      refine XS.ifNo X1.here hx rfl (hb hby own_d_sco1_3) rfl ((if0 _ _).trans (feq hst.2.1).1) ?_
      refine XS.aloadN X1.here hx rfl (hb hby own_d_sco1_6) rfl rfl ?_
      exact kt)
  obtain ⟨T4, X4, e4, st4⟩ := getF X1 hx hZ hown (host := "") (Or.inl (hw _ (own_mG (i := 26) rfl))) Via.refl e1 Fc (g := (mkF m 7 #[.val (.ref a1)] [(.ref a1)])) rfl rfl (hb hby own_d_sco1_7)
  have pre5 : Goes p e below s₁ (entryFrame m #[(.ref a1)] 1) T4 (mkF m 10 #[.val (.ref a1)] [(.int 1)]) := fun t kt => pre3 t (st4 t kt)
  have pre6 : Goes p e below s₁ (entryFrame m #[(.ref a1)] 1) T4 (mkF m 14 #[.val (.ref a1)] [(.int 1)]) := fun t kt => pre5 t (by
      show Steps p.tables e below (T4.setTop (mkF m 10 #[.val (.ref a1)] [(.int 1)])) _
      refine XS.goto X4.here hx rfl (pc0 := 10) (pc' := 14) rfl (hb hby own_d_sco1_10) (by decide) (by decide) ?_
      exact kt)
  obtain ⟨fs, hr, hrun, hended, hW, hsame⟩ := X4.leave (v := some (.int 1)) (fun h => by rw [Bd.returns] at h; cases h)
  refine ⟨_, _, pre6 _ ?_, hrun, hended, _, _, rfl, ?_, ⟨_, rfl⟩, hW, hsame.mono (by decide) (by decide)⟩
  · show Steps p.tables e below (T4.setTop (mkF m 14 #[.val (.ref a1)] [(.int 1)])) _
    exact retN X4 hx (t := .byte) Bd.returns (by simp) (hb hby own_d_sco1_14) hr
  · show Q_own_sco1 Z a1 cs fm h0 n0 _ T4.heap _
    rw [e4]
    exact ⟨rfl, N0, rfl⟩
theorem own_d_sle_0 : decode jdk_42_method_54_code 0 = .ok (.aload_n 0, 1) := by decide +kernel
theorem own_d_sle_1 : decode jdk_42_method_54_code 1 = .ok (.getfield 9, 3) := by decide +kernel
theorem own_d_sle_4 : decode jdk_42_method_54_code 4 = .ok (.arraylength, 1) := by decide +kernel
theorem own_d_sle_5 : decode jdk_42_method_54_code 5 = .ok (.aload_n 0, 1) := by decide +kernel
theorem own_d_sle_6 : decode jdk_42_method_54_code 6 = .ok (.invokevirtual 335, 3) := by decide +kernel
theorem own_d_sle_9 : decode jdk_42_method_54_code 9 = .ok (.ishr, 1) := by decide +kernel
theorem own_d_sle_10 : decode jdk_42_method_54_code 10 = .ok (.ireturn, 1) := by decide +kernel
theorem own_pn_own_sle : plainName "java/lang/String" = true := by first | (simp [plainName, overriddenIn]; done) | decide +kernel
theorem own_ef_own_sle (m : MethodId) (x0 : Addr) : entryFrame m #[(.ref x0)] 1 = mkF m 0 #[.val (.ref x0)] [] := by first | (simp [entryFrame, mkF, argsToLocals, Value.category]; done) | rfl
def Q_own_sle (Z : State) (a1 : Addr) (cd : Int32) (y : Addr) (zl : Int32) (cs : Int32) (fm : Value) (h0 : Heap) (n0 : Nat) (v : Option Value) (h : Heap) (L : List Loc) : Prop := v = some (.int zl) ∧ Fr n0 L ∧ h = h0
set_option maxRecDepth 65536 in
set_option maxHeartbeats 40000000 in
theorem own_sle (l : Launch) (Z : State) (a0 : Array Value) (hw : ∀ d ∈ tables_1, d.before a0 Z = true) (ws : List Jvm.Cond) (a1 : Addr) (cd : Int32) (y : Addr) (zl : Int32) (cs : Int32) (fm : Value) (h0 : Heap) (n0 : Nat) (Z0 : n0 ≤ h0.size) (E_a1 : Exa Z h0 a1 "java/lang/String") (Fc : Fld Z h0 a1 "java/lang/String" "coder" "B" (.int cd)) (Fv : Fld Z h0 a1 "java/lang/String" "value" "[B" (.ref y)) (LDy : own_LD Z h0 y cd zl) (hst : own_ST Z cs fm) (O0 : Old Z n0 h0) :
    MetFree l (⟨"java/lang/String", "length", "()I"⟩ : MethodName) (head1 (Jvm.Cond.code (⟨"java/lang/String", "length", "()I"⟩ : MethodName) jdk_42_method_54_code 1 (some .int) :: ws) ({ frames := 1, cells := 0, slots := 0, locals := 13 } : Room)) (fun a U => a = #[(.ref a1)] ∧ Z.Warmed39 U.vm ∧ U.heap = h0) (fun _ _ _ _ _ => True) (fun _ U o U' => ∃ v L, o = .returned v ∧ Q_own_sle Z a1 cd y zl cs fm h0 n0 v U'.heap L ∧ FrameEnd U o U' L ({ frames := 1, cells := 0, slots := 0, locals := 13 } : Room).cells ({ frames := 1, cells := 0, slots := 0, locals := 13 } : Room).slots) := by
  refine MetFree.of_bodySF (plainFor_of_name own_pn_own_sle) hisR ?_
  intro p e s m args below meth c s₁ Bd hml0 hP hK
  obtain ⟨rfl, hZ, hh⟩ := hP
  have hx := Bd.exec
  have hby := Bd.bytes
  have hml : c.maxLocals = 1 := hml0
  have hown : s.vm.findClass "java/lang/String" = some m.cls := findClass_of_methodNamed Bd.named
  have hnm := (name_of_methodNamed Bd.named Bd.method).1
  have X0 : Stand p l e ({ frames := 1, cells := 0, slots := 0, locals := 13 } : Room) s m #[(.ref a1)] below meth c s₁ [] 0 0 := Stand.of_body Bd
  have e0 : s₁.heap = h0 := by rw [← hh, Bd.state]; rfl
  have N0 := Fr.nil n0
  have pre0 : Goes p e below s₁ (entryFrame m #[(.ref a1)] 1) s₁ (mkF m 0 #[.val (.ref a1)] []) := fun t k => castTop (own_ef_own_sle m a1) k
  have Fc0 := Fc
  rcases (id LDy) with ⟨hcd, Ln⟩ | ⟨hcd, zn, Ln, hz⟩
  · -- coder 0
    rw [hcd] at Fc0
    have pre1 : Goes p e below s₁ (entryFrame m #[(.ref a1)] 1) s₁ (mkF m 1 #[.val (.ref a1)] [(.ref a1)]) := fun t kt => pre0 t (by
        show Steps p.tables e below (s₁.setTop (mkF m 0 #[.val (.ref a1)] [])) _
        refine XS.aloadN X0.here hx rfl (hb hby own_d_sle_0) rfl rfl ?_
        exact kt)
    obtain ⟨T2, X2, e2, st2⟩ := getF X0 hx hZ hown (host := "") (Or.inl (hw _ (own_mG (i := 25) rfl))) Via.refl e0 Fv (g := (mkF m 1 #[.val (.ref a1)] [(.ref a1)])) rfl rfl (hb hby own_d_sle_1)
    have pre3 : Goes p e below s₁ (entryFrame m #[(.ref a1)] 1) T2 (mkF m 4 #[.val (.ref a1)] [(.ref y)]) := fun t kt => pre1 t (st2 t kt)
    obtain ⟨cl4, Ar4, S4, N_4⟩ := (id (Ln))
    have pre5 : Goes p e below s₁ (entryFrame m #[(.ref a1)] 1) T2 (mkF m 6 #[.val (.ref a1)] [(.ref a1), (.int zl)]) := fun t kt => pre3 t (by
        show Steps p.tables e below (T2.setTop (mkF m 4 #[.val (.ref a1)] [(.ref y)])) _
        refine X2.arraylength hx (by (try rw [e2]); exact Ar4.1) (State.isArrayOf_alike hZ.alike Ar4.2.1) (g := (mkF m 4 #[.val (.ref a1)] [(.ref y)])) rfl rfl (hb hby own_d_sle_4) _ ?_
        rw [len_of S4 N_4]
        refine XS.aloadN X2.here hx rfl (hb hby own_d_sle_5) rfl rfl ?_
        exact kt)
    obtain ⟨cq6, kq6, q6a, q6b, q6c⟩ := isOf hZ e2 E_a1
    obtain ⟨_, _, ⟨T6, L6, k6, n6⟩, -, X6, ⟨Lc6, hQ6, l6, y6, z6⟩, st6⟩ := X2.virtualBack hx (y := (⟨"java/lang/String", "coder", "()B"⟩ : MethodName)) (z := (⟨"java/lang/String", "coder", "()B"⟩ : MethodName)) hown (mvT hZ (hw _ (own_mG (i := 36) rfl))) (mvT hZ (hw _ (own_mG (i := 37) rfl))) (notFace_of_selects (args := #[]) (mvT hZ (hw _ (own_mG (i := 39) rfl)))) (mvT hZ (hw _ (own_mG (i := 39) rfl))) (mvT hZ (hw _ (own_mG (i := 38) rfl))) (by decide) (backOf (W := 1) (own_sco0 l Z a0 hw [] a1 cs fm h0 n0 Z0 Fc0 hst O0) hZ (hw _ (own_mG (i := 40) rfl)) (hw _ (own_mG (i := 7) rfl)) (by decide) (by decide)) q6a q6c (g := (mkF m 6 #[.val (.ref a1)] [(.ref a1), (.int zl)])) rfl (by rw [hml]; rfl) (Steps.refl _) (argsL := []) (rest := [(.int zl)]) (lenOf own_pd1 rfl) rfl (by show 2 * 0 + _ ≤ _; exact Nat.le_of_eq rfl) (hb hby own_d_sle_6) (fun _ _ => ⟨rfl, e2, (by decide : 0 + 0 ≤ _), (by decide : 0 + 0 ≤ _)⟩)
    dsimp only [Pt.U, Pt.locs, Pt.cells, Pt.slots] at X6 l6 y6 z6 st6 hQ6
    subst l6 y6 z6
    obtain ⟨rfl, N6q, e6⟩ := hQ6
    have N6 := Fr.app N0 N6q
    have pre7 : Goes p e below s₁ (entryFrame m #[(.ref a1)] 1) T6 (mkF m 9 #[.val (.ref a1)] [(.int 0), (.int zl)]) := fun t kt => pre5 t (st6.trans kt)
    have pre8 : Goes p e below s₁ (entryFrame m #[(.ref a1)] 1) T6 (mkF m 10 #[.val (.ref a1)] [(.int (zl >>> ((0 : Int32) &&& 31)))]) := fun t kt => pre7 t (by
        show Steps p.tables e below (T6.setTop (mkF m 9 #[.val (.ref a1)] [(.int 0), (.int zl)])) _
        refine XS.ishr X6.here hx rfl (hb hby own_d_sle_9) rfl ?_
        exact kt)
    obtain ⟨fs, hr, hrun, hended, hW, hsame⟩ := X6.leave (v := some (.int (zl >>> ((0 : Int32) &&& 31)))) (fun h => by rw [Bd.returns] at h; cases h)
    refine ⟨_, _, pre8 _ ?_, hrun, hended, _, _, rfl, ?_, ⟨_, rfl⟩, hW, hsame.mono (by decide) (by decide)⟩
    · show Steps p.tables e below (T6.setTop (mkF m 10 #[.val (.ref a1)] [(.int (zl >>> ((0 : Int32) &&& 31)))])) _
      exact retI X6 hx Bd.returns (hb hby own_d_sle_10) hr
    · show Q_own_sle Z a1 cd y zl cs fm h0 n0 _ T6.heap _
      rw [e6]
      exact ⟨by rw [own_sh0], N6, rfl⟩
  · -- coder 1
    rw [hcd] at Fc0
    have pre9 : Goes p e below s₁ (entryFrame m #[(.ref a1)] 1) s₁ (mkF m 1 #[.val (.ref a1)] [(.ref a1)]) := fun t kt => pre0 t (by
        show Steps p.tables e below (s₁.setTop (mkF m 0 #[.val (.ref a1)] [])) _
        refine XS.aloadN X0.here hx rfl (hb hby own_d_sle_0) rfl rfl ?_
        exact kt)
    obtain ⟨T10, X10, e10, st10⟩ := getF X0 hx hZ hown (host := "") (Or.inl (hw _ (own_mG (i := 25) rfl))) Via.refl e0 Fv (g := (mkF m 1 #[.val (.ref a1)] [(.ref a1)])) rfl rfl (hb hby own_d_sle_1)
    have pre11 : Goes p e below s₁ (entryFrame m #[(.ref a1)] 1) T10 (mkF m 4 #[.val (.ref a1)] [(.ref y)]) := fun t kt => pre9 t (st10 t kt)
    obtain ⟨cl12, Ar12, S12, N_12⟩ := (id (Ln))
    have pre13 : Goes p e below s₁ (entryFrame m #[(.ref a1)] 1) T10 (mkF m 6 #[.val (.ref a1)] [(.ref a1), (.int zn)]) := fun t kt => pre11 t (by
        show Steps p.tables e below (T10.setTop (mkF m 4 #[.val (.ref a1)] [(.ref y)])) _
        refine X10.arraylength hx (by (try rw [e10]); exact Ar12.1) (State.isArrayOf_alike hZ.alike Ar12.2.1) (g := (mkF m 4 #[.val (.ref a1)] [(.ref y)])) rfl rfl (hb hby own_d_sle_4) _ ?_
        rw [len_of S12 N_12]
        refine XS.aloadN X10.here hx rfl (hb hby own_d_sle_5) rfl rfl ?_
        exact kt)
    obtain ⟨cq14, kq14, q14a, q14b, q14c⟩ := isOf hZ e10 E_a1
    obtain ⟨_, _, ⟨T14, L14, k14, n14⟩, -, X14, ⟨Lc14, hQ14, l14, y14, z14⟩, st14⟩ := X10.virtualBack hx (y := (⟨"java/lang/String", "coder", "()B"⟩ : MethodName)) (z := (⟨"java/lang/String", "coder", "()B"⟩ : MethodName)) hown (mvT hZ (hw _ (own_mG (i := 36) rfl))) (mvT hZ (hw _ (own_mG (i := 37) rfl))) (notFace_of_selects (args := #[]) (mvT hZ (hw _ (own_mG (i := 39) rfl)))) (mvT hZ (hw _ (own_mG (i := 39) rfl))) (mvT hZ (hw _ (own_mG (i := 38) rfl))) (by decide) (backOf (W := 1) (own_sco1 l Z a0 hw [] a1 cs fm h0 n0 Z0 Fc0 hst O0) hZ (hw _ (own_mG (i := 40) rfl)) (hw _ (own_mG (i := 7) rfl)) (by decide) (by decide)) q14a q14c (g := (mkF m 6 #[.val (.ref a1)] [(.ref a1), (.int zn)])) rfl (by rw [hml]; rfl) (Steps.refl _) (argsL := []) (rest := [(.int zn)]) (lenOf own_pd1 rfl) rfl (by show 2 * 0 + _ ≤ _; exact Nat.le_of_eq rfl) (hb hby own_d_sle_6) (fun _ _ => ⟨rfl, e10, (by decide : 0 + 0 ≤ _), (by decide : 0 + 0 ≤ _)⟩)
    dsimp only [Pt.U, Pt.locs, Pt.cells, Pt.slots] at X14 l14 y14 z14 st14 hQ14
    subst l14 y14 z14
    obtain ⟨rfl, N14q, e14⟩ := hQ14
    have N14 := Fr.app N0 N14q
    have pre15 : Goes p e below s₁ (entryFrame m #[(.ref a1)] 1) T14 (mkF m 9 #[.val (.ref a1)] [(.int 1), (.int zn)]) := fun t kt => pre13 t (st14.trans kt)
    have pre16 : Goes p e below s₁ (entryFrame m #[(.ref a1)] 1) T14 (mkF m 10 #[.val (.ref a1)] [(.int (zn >>> ((1 : Int32) &&& 31)))]) := fun t kt => pre15 t (by
        show Steps p.tables e below (T14.setTop (mkF m 9 #[.val (.ref a1)] [(.int 1), (.int zn)])) _
        refine XS.ishr X14.here hx rfl (hb hby own_d_sle_9) rfl ?_
        exact kt)
    obtain ⟨fs, hr, hrun, hended, hW, hsame⟩ := X14.leave (v := some (.int (zn >>> ((1 : Int32) &&& 31)))) (fun h => by rw [Bd.returns] at h; cases h)
    refine ⟨_, _, pre16 _ ?_, hrun, hended, _, _, rfl, ?_, ⟨_, rfl⟩, hW, hsame.mono (by decide) (by decide)⟩
    · show Steps p.tables e below (T14.setTop (mkF m 10 #[.val (.ref a1)] [(.int (zn >>> ((1 : Int32) &&& 31)))])) _
      exact retI X14 hx Bd.returns (hb hby own_d_sle_10) hr
    · show Q_own_sle Z a1 cd y zl cs fm h0 n0 _ T14.heap _
      rw [e14]
      exact ⟨by rw [hz], N14, rfl⟩
theorem own_d_sil0_0 : decode jdk_42_method_154_code 0 = .ok (.getstatic 38, 3) := by decide +kernel
theorem own_d_sil0_3 : decode jdk_42_method_154_code 3 = .ok (.ifCond .eq 14, 3) := by decide +kernel
theorem own_d_sil0_6 : decode jdk_42_method_154_code 6 = .ok (.aload_n 0, 1) := by decide +kernel
theorem own_d_sil0_7 : decode jdk_42_method_154_code 7 = .ok (.getfield 15, 3) := by decide +kernel
theorem own_d_sil0_10 : decode jdk_42_method_154_code 10 = .ok (.ifCond .ne 7, 3) := by decide +kernel
theorem own_d_sil0_13 : decode jdk_42_method_154_code 13 = .ok (.iconst 1, 1) := by decide +kernel
theorem own_d_sil0_14 : decode jdk_42_method_154_code 14 = .ok (.goto 4, 3) := by decide +kernel
theorem own_d_sil0_18 : decode jdk_42_method_154_code 18 = .ok (.ireturn, 1) := by decide +kernel
theorem own_pn_own_sil0 : plainName "java/lang/String" = true := by first | (simp [plainName, overriddenIn]; done) | decide +kernel
theorem own_ef_own_sil0 (m : MethodId) (x0 : Addr) : entryFrame m #[(.ref x0)] 1 = mkF m 0 #[.val (.ref x0)] [] := by first | (simp [entryFrame, mkF, argsToLocals, Value.category]; done) | rfl
def Q_own_sil0 (Z : State) (a1 : Addr) (cs : Int32) (fm : Value) (h0 : Heap) (n0 : Nat) (v : Option Value) (h : Heap) (L : List Loc) : Prop := v = some (.int 1) ∧ Fr n0 L ∧ h = h0
set_option maxRecDepth 65536 in
set_option maxHeartbeats 40000000 in
theorem own_sil0 (l : Launch) (Z : State) (a0 : Array Value) (hw : ∀ d ∈ tables_1, d.before a0 Z = true) (ws : List Jvm.Cond) (a1 : Addr) (cs : Int32) (fm : Value) (h0 : Heap) (n0 : Nat) (Z0 : n0 ≤ h0.size) (Fc : Fld Z h0 a1 "java/lang/String" "coder" "B" (.int 0)) (hst : own_ST Z cs fm) (O0 : Old Z n0 h0) :
    MetFree l (⟨"java/lang/String", "isLatin1", "()Z"⟩ : MethodName) (head1 (Jvm.Cond.code (⟨"java/lang/String", "isLatin1", "()Z"⟩ : MethodName) jdk_42_method_154_code 1 (some .boolean) :: ws) ({ frames := 0, cells := 0, slots := 0, locals := 0 } : Room)) (fun a U => a = #[(.ref a1)] ∧ Z.Warmed39 U.vm ∧ U.heap = h0) (fun _ _ _ _ _ => True) (fun _ U o U' => ∃ v L, o = .returned v ∧ Q_own_sil0 Z a1 cs fm h0 n0 v U'.heap L ∧ FrameEnd U o U' L ({ frames := 0, cells := 0, slots := 0, locals := 0 } : Room).cells ({ frames := 0, cells := 0, slots := 0, locals := 0 } : Room).slots) := by
  refine MetFree.of_bodySF (plainFor_of_name own_pn_own_sil0) hisR ?_
  intro p e s m args below meth c s₁ Bd hml0 hP hK
  obtain ⟨rfl, hZ, hh⟩ := hP
  have hx := Bd.exec
  have hby := Bd.bytes
  have hml : c.maxLocals = 1 := hml0
  have hown : s.vm.findClass "java/lang/String" = some m.cls := findClass_of_methodNamed Bd.named
  have hnm := (name_of_methodNamed Bd.named Bd.method).1
  have X0 : Stand p l e ({ frames := 0, cells := 0, slots := 0, locals := 0 } : Room) s m #[(.ref a1)] below meth c s₁ [] 0 0 := Stand.of_body Bd
  have e0 : s₁.heap = h0 := by rw [← hh, Bd.state]; rfl
  have N0 := Fr.nil n0
  have pre0 : Goes p e below s₁ (entryFrame m #[(.ref a1)] 1) s₁ (mkF m 0 #[.val (.ref a1)] []) := fun t k => castTop (own_ef_own_sil0 m a1) k
  obtain ⟨T1, X1, e1, st1⟩ := getS2 X0 hx hZ hown (host := "") (Or.inl (hw _ (own_mG (i := 41) rfl))) Via.refl e0 (hst.1.ext O0.2) (g := (mkF m 0 #[.val (.ref a1)] [])) rfl (hb hby own_d_sil0_0)
  have pre2 : Goes p e below s₁ (entryFrame m #[(.ref a1)] 1) T1 (mkF m 3 #[.val (.ref a1)] [(.int cs)]) := fun t kt => pre0 t (st1 t kt)
  have pre3 : Goes p e below s₁ (entryFrame m #[(.ref a1)] 1) T1 (mkF m 7 #[.val (.ref a1)] [(.ref a1)]) := fun t kt => pre2 t (by
      show Steps p.tables e below (T1.setTop (mkF m 3 #[.val (.ref a1)] [(.int cs)])) _
      refine XS.ifNo X1.here hx rfl (hb hby own_d_sil0_3) rfl ((if0 _ _).trans (feq hst.2.1).1) ?_
      refine XS.aloadN X1.here hx rfl (hb hby own_d_sil0_6) rfl rfl ?_
      exact kt)
  obtain ⟨T4, X4, e4, st4⟩ := getF X1 hx hZ hown (host := "") (Or.inl (hw _ (own_mG (i := 26) rfl))) Via.refl e1 Fc (g := (mkF m 7 #[.val (.ref a1)] [(.ref a1)])) rfl rfl (hb hby own_d_sil0_7)
  have pre5 : Goes p e below s₁ (entryFrame m #[(.ref a1)] 1) T4 (mkF m 10 #[.val (.ref a1)] [(.int 0)]) := fun t kt => pre3 t (st4 t kt)
  have pre6 : Goes p e below s₁ (entryFrame m #[(.ref a1)] 1) T4 (mkF m 18 #[.val (.ref a1)] [(.int 1)]) := fun t kt => pre5 t (by
      show Steps p.tables e below (T4.setTop (mkF m 10 #[.val (.ref a1)] [(.int 0)])) _
      refine XS.ifNo X4.here hx rfl (hb hby own_d_sil0_10) rfl ((if0 _ _).trans (teq (by decide : (0 : Int32) = (0 : Int32))).2) ?_
      refine XS.iconst X4.here hx rfl (hb hby own_d_sil0_13) ?_
      show Steps p.tables e below (T4.setTop (mkF m 14 #[.val (.ref a1)] [(.int 1)])) _
      refine XS.goto X4.here hx rfl (pc0 := 14) (pc' := 18) rfl (hb hby own_d_sil0_14) (by decide) (by decide) ?_
      exact kt)
  obtain ⟨fs, hr, hrun, hended, hW, hsame⟩ := X4.leave (v := some (.int 1)) (fun h => by rw [Bd.returns] at h; cases h)
  refine ⟨_, _, pre6 _ ?_, hrun, hended, _, _, rfl, ?_, ⟨_, rfl⟩, hW, hsame.mono (by decide) (by decide)⟩
  · show Steps p.tables e below (T4.setTop (mkF m 18 #[.val (.ref a1)] [(.int 1)])) _
    exact retN X4 hx (t := .boolean) Bd.returns (by simp) (hb hby own_d_sil0_18) hr
  · show Q_own_sil0 Z a1 cs fm h0 n0 _ T4.heap _
    rw [e4]
    exact ⟨rfl, N0, rfl⟩
theorem own_d_sil1_0 : decode jdk_42_method_154_code 0 = .ok (.getstatic 38, 3) := by decide +kernel
theorem own_d_sil1_3 : decode jdk_42_method_154_code 3 = .ok (.ifCond .eq 14, 3) := by decide +kernel
theorem own_d_sil1_6 : decode jdk_42_method_154_code 6 = .ok (.aload_n 0, 1) := by decide +kernel
theorem own_d_sil1_7 : decode jdk_42_method_154_code 7 = .ok (.getfield 15, 3) := by decide +kernel
theorem own_d_sil1_10 : decode jdk_42_method_154_code 10 = .ok (.ifCond .ne 7, 3) := by decide +kernel
theorem own_d_sil1_17 : decode jdk_42_method_154_code 17 = .ok (.iconst 0, 1) := by decide +kernel
theorem own_d_sil1_18 : decode jdk_42_method_154_code 18 = .ok (.ireturn, 1) := by decide +kernel
theorem own_pn_own_sil1 : plainName "java/lang/String" = true := by first | (simp [plainName, overriddenIn]; done) | decide +kernel
theorem own_ef_own_sil1 (m : MethodId) (x0 : Addr) : entryFrame m #[(.ref x0)] 1 = mkF m 0 #[.val (.ref x0)] [] := by first | (simp [entryFrame, mkF, argsToLocals, Value.category]; done) | rfl
def Q_own_sil1 (Z : State) (a1 : Addr) (cs : Int32) (fm : Value) (h0 : Heap) (n0 : Nat) (v : Option Value) (h : Heap) (L : List Loc) : Prop := v = some (.int 0) ∧ Fr n0 L ∧ h = h0
set_option maxRecDepth 65536 in
set_option maxHeartbeats 40000000 in
theorem own_sil1 (l : Launch) (Z : State) (a0 : Array Value) (hw : ∀ d ∈ tables_1, d.before a0 Z = true) (ws : List Jvm.Cond) (a1 : Addr) (cs : Int32) (fm : Value) (h0 : Heap) (n0 : Nat) (Z0 : n0 ≤ h0.size) (Fc : Fld Z h0 a1 "java/lang/String" "coder" "B" (.int 1)) (hst : own_ST Z cs fm) (O0 : Old Z n0 h0) :
    MetFree l (⟨"java/lang/String", "isLatin1", "()Z"⟩ : MethodName) (head1 (Jvm.Cond.code (⟨"java/lang/String", "isLatin1", "()Z"⟩ : MethodName) jdk_42_method_154_code 1 (some .boolean) :: ws) ({ frames := 0, cells := 0, slots := 0, locals := 0 } : Room)) (fun a U => a = #[(.ref a1)] ∧ Z.Warmed39 U.vm ∧ U.heap = h0) (fun _ _ _ _ _ => True) (fun _ U o U' => ∃ v L, o = .returned v ∧ Q_own_sil1 Z a1 cs fm h0 n0 v U'.heap L ∧ FrameEnd U o U' L ({ frames := 0, cells := 0, slots := 0, locals := 0 } : Room).cells ({ frames := 0, cells := 0, slots := 0, locals := 0 } : Room).slots) := by
  refine MetFree.of_bodySF (plainFor_of_name own_pn_own_sil1) hisR ?_
  intro p e s m args below meth c s₁ Bd hml0 hP hK
  obtain ⟨rfl, hZ, hh⟩ := hP
  have hx := Bd.exec
  have hby := Bd.bytes
  have hml : c.maxLocals = 1 := hml0
  have hown : s.vm.findClass "java/lang/String" = some m.cls := findClass_of_methodNamed Bd.named
  have hnm := (name_of_methodNamed Bd.named Bd.method).1
  have X0 : Stand p l e ({ frames := 0, cells := 0, slots := 0, locals := 0 } : Room) s m #[(.ref a1)] below meth c s₁ [] 0 0 := Stand.of_body Bd
  have e0 : s₁.heap = h0 := by rw [← hh, Bd.state]; rfl
  have N0 := Fr.nil n0
  have pre0 : Goes p e below s₁ (entryFrame m #[(.ref a1)] 1) s₁ (mkF m 0 #[.val (.ref a1)] []) := fun t k => castTop (own_ef_own_sil1 m a1) k
  obtain ⟨T1, X1, e1, st1⟩ := getS2 X0 hx hZ hown (host := "") (Or.inl (hw _ (own_mG (i := 41) rfl))) Via.refl e0 (hst.1.ext O0.2) (g := (mkF m 0 #[.val (.ref a1)] [])) rfl (hb hby own_d_sil1_0)
  have pre2 : Goes p e below s₁ (entryFrame m #[(.ref a1)] 1) T1 (mkF m 3 #[.val (.ref a1)] [(.int cs)]) := fun t kt => pre0 t (st1 t kt)
  have pre3 : Goes p e below s₁ (entryFrame m #[(.ref a1)] 1) T1 (mkF m 7 #[.val (.ref a1)] [(.ref a1)]) := fun t kt => pre2 t (by
      show Steps p.tables e below (T1.setTop (mkF m 3 #[.val (.ref a1)] [(.int cs)])) _
      refine XS.ifNo X1.here hx rfl (hb hby own_d_sil1_3) rfl ((if0 _ _).trans (feq hst.2.1).1) ?_
      refine XS.aloadN X1.here hx rfl (hb hby own_d_sil1_6) rfl rfl ?_
      exact kt)
  obtain ⟨T4, X4, e4, st4⟩ := getF X1 hx hZ hown (host := "") (Or.inl (hw _ (own_mG (i := 26) rfl))) Via.refl e1 Fc (g := (mkF m 7 #[.val (.ref a1)] [(.ref a1)])) rfl rfl (hb hby own_d_sil1_7)
  have pre5 : Goes p e below s₁ (entryFrame m #[(.ref a1)] 1) T4 (mkF m 10 #[.val (.ref a1)] [(.int 1)]) := fun t kt => pre3 t (st4 t kt)
  have pre6 : Goes p e below s₁ (entryFrame m #[(.ref a1)] 1) T4 (mkF m 18 #[.val (.ref a1)] [(.int 0)]) := fun t kt => pre5 t (by
      show Steps p.tables e below (T4.setTop (mkF m 10 #[.val (.ref a1)] [(.int 1)])) _
      refine XS.ifYes X4.here hx rfl (pc0 := 10) (pc' := 17) rfl (hb hby own_d_sil1_10) rfl ((if0 _ _).trans (feq (by decide : ¬ ((1 : Int32) = (0 : Int32)))).2) (by decide) (by decide) ?_
      refine XS.iconst X4.here hx rfl (hb hby own_d_sil1_17) ?_
      exact kt)
  obtain ⟨fs, hr, hrun, hended, hW, hsame⟩ := X4.leave (v := some (.int 0)) (fun h => by rw [Bd.returns] at h; cases h)
  refine ⟨_, _, pre6 _ ?_, hrun, hended, _, _, rfl, ?_, ⟨_, rfl⟩, hW, hsame.mono (by decide) (by decide)⟩
  · show Steps p.tables e below (T4.setTop (mkF m 18 #[.val (.ref a1)] [(.int 0)])) _
    exact retN X4 hx (t := .boolean) Bd.returns (by simp) (hb hby own_d_sil1_18) hr
  · show Q_own_sil1 Z a1 cs fm h0 n0 _ T4.heap _
    rw [e4]
    exact ⟨rfl, N0, rfl⟩
theorem own_d_pi_0 : decode jdk_41_method_11_code 0 = .ok (.iload_n 0, 1) := by decide +kernel
theorem own_d_pi_1 : decode jdk_41_method_11_code 1 = .ok (.ifCond .lt 8, 3) := by decide +kernel
theorem own_d_pi_4 : decode jdk_41_method_11_code 4 = .ok (.iload_n 0, 1) := by decide +kernel
theorem own_d_pi_5 : decode jdk_41_method_11_code 5 = .ok (.iload_n 1, 1) := by decide +kernel
theorem own_d_pi_6 : decode jdk_41_method_11_code 6 = .ok (.if_icmp .lt 10, 3) := by decide +kernel
theorem own_d_pi_16 : decode jdk_41_method_11_code 16 = .ok (.iload_n 0, 1) := by decide +kernel
theorem own_d_pi_17 : decode jdk_41_method_11_code 17 = .ok (.ireturn, 1) := by decide +kernel
theorem own_pn_own_pi : plainName "jdk/internal/util/Preconditions" = true := by first | (simp [plainName, overriddenIn]; done) | decide +kernel
theorem own_ef_own_pi (m : MethodId) (x0 : Int32) (x1 : Int32) (x2 : Value) (h2 : own_Rf x2) : entryFrame m #[(.int x0), (.int x1), x2] 3 = mkF m 0 #[.val (.int x0), .val (.int x1), .val x2] [] := by rcases h2 with rfl | ⟨w2, rfl⟩ <;> first | (simp [entryFrame, mkF, argsToLocals, Value.category]; done) | rfl
def Q_own_pi (Z : State) (ip : Int32) (jp : Int32) (fm : Value) (h0 : Heap) (n0 : Nat) (v : Option Value) (h : Heap) (L : List Loc) : Prop := v = some (.int ip) ∧ Fr n0 L ∧ h = h0
set_option maxRecDepth 65536 in
set_option maxHeartbeats 40000000 in
theorem own_pi (l : Launch) (Z : State) (a0 : Array Value) (hw : ∀ d ∈ tables_1, d.before a0 Z = true) (ws : List Jvm.Cond) (ip : Int32) (jp : Int32) (fm : Value) (h0 : Heap) (n0 : Nat) (Z0 : n0 ≤ h0.size) (hfm : own_Rf fm) (hi : ¬ (ip < (0 : Int32))) (hj : ip < jp) :
    MetFree l (⟨"jdk/internal/util/Preconditions", "checkIndex", "(IILjava/util/function/BiFunction;)I"⟩ : MethodName) (head1 (Jvm.Cond.code (⟨"jdk/internal/util/Preconditions", "checkIndex", "(IILjava/util/function/BiFunction;)I"⟩ : MethodName) jdk_41_method_11_code 3 (some .int) :: ws) ({ frames := 0, cells := 0, slots := 0, locals := 0 } : Room)) (fun a U => a = #[(.int ip), (.int jp), fm] ∧ Z.Warmed39 U.vm ∧ U.heap = h0) (fun _ _ _ _ _ => True) (fun _ U o U' => ∃ v L, o = .returned v ∧ Q_own_pi Z ip jp fm h0 n0 v U'.heap L ∧ FrameEnd U o U' L ({ frames := 0, cells := 0, slots := 0, locals := 0 } : Room).cells ({ frames := 0, cells := 0, slots := 0, locals := 0 } : Room).slots) := by
  refine MetFree.of_bodySF (plainFor_of_name own_pn_own_pi) hisR ?_
  intro p e s m args below meth c s₁ Bd hml0 hP hK
  obtain ⟨rfl, hZ, hh⟩ := hP
  have hx := Bd.exec
  have hby := Bd.bytes
  have hml : c.maxLocals = 3 := hml0
  have hown : s.vm.findClass "jdk/internal/util/Preconditions" = some m.cls := findClass_of_methodNamed Bd.named
  have hnm := (name_of_methodNamed Bd.named Bd.method).1
  have X0 : Stand p l e ({ frames := 0, cells := 0, slots := 0, locals := 0 } : Room) s m #[(.int ip), (.int jp), fm] below meth c s₁ [] 0 0 := Stand.of_body Bd
  have e0 : s₁.heap = h0 := by rw [← hh, Bd.state]; rfl
  have N0 := Fr.nil n0
  have pre0 : Goes p e below s₁ (entryFrame m #[(.int ip), (.int jp), fm] 3) s₁ (mkF m 0 #[.val (.int ip), .val (.int jp), .val fm] []) := fun t k => castTop (own_ef_own_pi m ip jp fm hfm) k
  have pre1 : Goes p e below s₁ (entryFrame m #[(.int ip), (.int jp), fm] 3) s₁ (mkF m 17 #[.val (.int ip), .val (.int jp), .val fm] [(.int ip)]) := fun t kt => pre0 t (by
      show Steps p.tables e below (s₁.setTop (mkF m 0 #[.val (.int ip), .val (.int jp), .val fm] [])) _
      refine XS.iloadN X0.here hx rfl (hb hby own_d_pi_0) rfl ?_
      refine XS.ifNo X0.here hx rfl (hb hby own_d_pi_1) rfl ((if0 _ _).trans (flt hi).1) ?_
      show Steps p.tables e below (s₁.setTop (mkF m 4 #[.val (.int ip), .val (.int jp), .val fm] [])) _
      refine XS.iloadN X0.here hx rfl (hb hby own_d_pi_4) rfl ?_
      refine XS.iloadN X0.here hx rfl (hb hby own_d_pi_5) rfl ?_
      show Steps p.tables e below (s₁.setTop (mkF m 6 #[.val (.int ip), .val (.int jp), .val fm] [(.int jp), (.int ip)])) _
      refine XS.icmpYes X0.here hx rfl (pc0 := 6) (pc' := 16) rfl (hb hby own_d_pi_6) rfl (tlt hj).1 (by decide) (by decide) ?_
      refine XS.iloadN X0.here hx rfl (hb hby own_d_pi_16) rfl ?_
      exact kt)
  obtain ⟨fs, hr, hrun, hended, hW, hsame⟩ := X0.leave (v := some (.int ip)) (fun h => by rw [Bd.returns] at h; cases h)
  refine ⟨_, _, pre1 _ ?_, hrun, hended, _, _, rfl, ?_, ⟨_, rfl⟩, hW, hsame.mono (by decide) (by decide)⟩
  · show Steps p.tables e below (s₁.setTop (mkF m 17 #[.val (.int ip), .val (.int jp), .val fm] [(.int ip)])) _
    exact retI X0 hx Bd.returns (hb hby own_d_pi_17) hr
  · show Q_own_pi Z ip jp fm h0 n0 _ s₁.heap _
    rw [e0]
    exact ⟨rfl, N0, rfl⟩
theorem own_d_si_0 : decode jdk_42_method_155_code 0 = .ok (.iload_n 0, 1) := by decide +kernel
theorem own_d_si_1 : decode jdk_42_method_155_code 1 = .ok (.iload_n 1, 1) := by decide +kernel
theorem own_d_si_2 : decode jdk_42_method_155_code 2 = .ok (.getstatic 1053, 3) := by decide +kernel
theorem own_d_si_5 : decode jdk_42_method_155_code 5 = .ok (.invokestatic 1059, 3) := by decide +kernel
theorem own_d_si_8 : decode jdk_42_method_155_code 8 = .ok (.pop, 1) := by decide +kernel
theorem own_d_si_9 : decode jdk_42_method_155_code 9 = .ok (.return_, 1) := by decide +kernel
theorem own_pn_own_si : plainName "java/lang/String" = true := by first | (simp [plainName, overriddenIn]; done) | decide +kernel
theorem own_ef_own_si (m : MethodId) (x0 : Int32) (x1 : Int32) : entryFrame m #[(.int x0), (.int x1)] 2 = mkF m 0 #[.val (.int x0), .val (.int x1)] [] := by first | (simp [entryFrame, mkF, argsToLocals, Value.category]; done) | rfl
def Q_own_si (Z : State) (ip : Int32) (jp : Int32) (cs : Int32) (fm : Value) (h0 : Heap) (n0 : Nat) (v : Option Value) (h : Heap) (L : List Loc) : Prop := v = none ∧ Fr n0 L ∧ h = h0
set_option maxRecDepth 65536 in
set_option maxHeartbeats 40000000 in
theorem own_si (l : Launch) (Z : State) (a0 : Array Value) (hw : ∀ d ∈ tables_1, d.before a0 Z = true) (ws : List Jvm.Cond) (ip : Int32) (jp : Int32) (cs : Int32) (fm : Value) (h0 : Heap) (n0 : Nat) (Z0 : n0 ≤ h0.size) (hi : ¬ (ip < (0 : Int32))) (hj : ip < jp) (hst : own_ST Z cs fm) (O0 : Old Z n0 h0) :
    MetFree l (⟨"java/lang/String", "checkIndex", "(II)V"⟩ : MethodName) (head1 (Jvm.Cond.code (⟨"java/lang/String", "checkIndex", "(II)V"⟩ : MethodName) jdk_42_method_155_code 2 none :: ws) ({ frames := 1, cells := 0, slots := 0, locals := 14 } : Room)) (fun a U => a = #[(.int ip), (.int jp)] ∧ Z.Warmed39 U.vm ∧ U.heap = h0) (fun _ _ _ _ _ => True) (fun _ U o U' => ∃ v L, o = .returned v ∧ Q_own_si Z ip jp cs fm h0 n0 v U'.heap L ∧ FrameEnd U o U' L ({ frames := 1, cells := 0, slots := 0, locals := 14 } : Room).cells ({ frames := 1, cells := 0, slots := 0, locals := 14 } : Room).slots) := by
  refine MetFree.of_bodySF (plainFor_of_name own_pn_own_si) hisR ?_
  intro p e s m args below meth c s₁ Bd hml0 hP hK
  obtain ⟨rfl, hZ, hh⟩ := hP
  have hx := Bd.exec
  have hby := Bd.bytes
  have hml : c.maxLocals = 2 := hml0
  have hown : s.vm.findClass "java/lang/String" = some m.cls := findClass_of_methodNamed Bd.named
  have hnm := (name_of_methodNamed Bd.named Bd.method).1
  have X0 : Stand p l e ({ frames := 1, cells := 0, slots := 0, locals := 14 } : Room) s m #[(.int ip), (.int jp)] below meth c s₁ [] 0 0 := Stand.of_body Bd
  have e0 : s₁.heap = h0 := by rw [← hh, Bd.state]; rfl
  have N0 := Fr.nil n0
  have pre0 : Goes p e below s₁ (entryFrame m #[(.int ip), (.int jp)] 2) s₁ (mkF m 0 #[.val (.int ip), .val (.int jp)] []) := fun t k => castTop (own_ef_own_si m ip jp) k
  have pre1 : Goes p e below s₁ (entryFrame m #[(.int ip), (.int jp)] 2) s₁ (mkF m 2 #[.val (.int ip), .val (.int jp)] [(.int jp), (.int ip)]) := fun t kt => pre0 t (by
      show Steps p.tables e below (s₁.setTop (mkF m 0 #[.val (.int ip), .val (.int jp)] [])) _
      refine XS.iloadN X0.here hx rfl (hb hby own_d_si_0) rfl ?_
      refine XS.iloadN X0.here hx rfl (hb hby own_d_si_1) rfl ?_
      exact kt)
  obtain ⟨T2, X2, e2, st2⟩ := getS2 X0 hx hZ hown (host := "") (Or.inl (hw _ (own_mG (i := 72) rfl))) Via.refl e0 (hst.2.2.2.2.2.1.ext O0.2) (g := (mkF m 2 #[.val (.int ip), .val (.int jp)] [(.int jp), (.int ip)])) rfl (hb hby own_d_si_2)
  have pre3 : Goes p e below s₁ (entryFrame m #[(.int ip), (.int jp)] 2) T2 (mkF m 5 #[.val (.int ip), .val (.int jp)] [fm, (.int jp), (.int ip)]) := fun t kt => pre1 t (st2 t kt)
  obtain ⟨_, _, ⟨T4, L4, k4, n4⟩, -, X4, ⟨Lc4, hQ4, l4, y4, z4⟩, st4⟩ := Jvm.LawKit.callS X2 hx (y := (⟨"jdk/internal/util/Preconditions", "checkIndex", "(IILjava/util/function/BiFunction;)I"⟩ : MethodName)) hown (mvT hZ (hw _ (own_mG (i := 74) rfl))) (mvT hZ (hw _ (own_mG (i := 75) rfl))) (mvT hZ (hw _ (own_mG (i := 73) rfl))) (mvT hZ (hw _ (own_mG (i := 76) rfl))) (by decide) (backOf (W := 0) (own_pi l Z a0 hw [] ip jp fm h0 n0 Z0 hst.2.2.2.2.2.2 hi hj) hZ (hw _ (own_mG (i := 76) rfl)) (hw _ (own_mG (i := 73) rfl)) (by decide) (by decide)) (g := (mkF m 5 #[.val (.int ip), .val (.int jp)] [fm, (.int jp), (.int ip)])) rfl (by rw [hml]; rfl) (argsL := [(.int ip), (.int jp), fm]) (rest := []) (lenOf own_pd2 rfl) rfl (by show 2 * 0 + _ ≤ _; exact Nat.le_of_eq rfl) (hb hby own_d_si_5) (fun _ _ => ⟨rfl, e2, (by decide : 0 + 0 ≤ _), (by decide : 0 + 0 ≤ _)⟩)
  dsimp only [Pt.U, Pt.locs, Pt.cells, Pt.slots] at X4 l4 y4 z4 st4 hQ4
  subst l4 y4 z4
  obtain ⟨rfl, N4q, e4⟩ := hQ4
  have N4 := Fr.app N0 N4q
  have pre5 : Goes p e below s₁ (entryFrame m #[(.int ip), (.int jp)] 2) T4 (mkF m 8 #[.val (.int ip), .val (.int jp)] [(.int ip)]) := fun t kt => pre3 t (st4 t kt)
  have pre6 : Goes p e below s₁ (entryFrame m #[(.int ip), (.int jp)] 2) T4 (mkF m 9 #[.val (.int ip), .val (.int jp)] []) := fun t kt => pre5 t (by
      show Steps p.tables e below (T4.setTop (mkF m 8 #[.val (.int ip), .val (.int jp)] [(.int ip)])) _
      refine XS.pop X4.here hx rfl (hb hby own_d_si_8) rfl rfl ?_
      exact kt)
  obtain ⟨fs, hr, hrun, hended, hW, hsame⟩ := X4.leave (v := none) (fun _ => rfl)
  refine ⟨_, _, pre6 _ ?_, hrun, hended, _, _, rfl, ?_, ⟨_, rfl⟩, hW, hsame.mono (by decide) (by decide)⟩
  · show Steps p.tables e below (T4.setTop (mkF m 9 #[.val (.int ip), .val (.int jp)] [])) _
    exact X4.returnOut hx Bd.returns (hb hby own_d_si_9) hr
  · show Q_own_si Z ip jp cs fm h0 n0 _ T4.heap _
    rw [e4]
    exact ⟨rfl, N4, rfl⟩
theorem own_d_lca_0 : decode jdk_43_method_2_code 0 = .ok (.iload_n 1, 1) := by decide +kernel
theorem own_d_lca_1 : decode jdk_43_method_2_code 1 = .ok (.aload_n 0, 1) := by decide +kernel
theorem own_d_lca_2 : decode jdk_43_method_2_code 2 = .ok (.arraylength, 1) := by decide +kernel
theorem own_d_lca_3 : decode jdk_43_method_2_code 3 = .ok (.invokestatic 9, 3) := by decide +kernel
theorem own_d_lca_6 : decode jdk_43_method_2_code 6 = .ok (.aload_n 0, 1) := by decide +kernel
theorem own_d_lca_7 : decode jdk_43_method_2_code 7 = .ok (.iload_n 1, 1) := by decide +kernel
theorem own_d_lca_8 : decode jdk_43_method_2_code 8 = .ok (.baload, 1) := by decide +kernel
theorem own_d_lca_9 : decode jdk_43_method_2_code 9 = .ok (.sipush 255, 3) := by decide +kernel
theorem own_d_lca_12 : decode jdk_43_method_2_code 12 = .ok (.iand, 1) := by decide +kernel
theorem own_d_lca_13 : decode jdk_43_method_2_code 13 = .ok (.i2c, 1) := by decide +kernel
theorem own_d_lca_14 : decode jdk_43_method_2_code 14 = .ok (.ireturn, 1) := by decide +kernel
theorem own_pn_own_lca : plainName "java/lang/StringLatin1" = true := by first | (simp [plainName, overriddenIn]; done) | decide +kernel
theorem own_ef_own_lca (m : MethodId) (x0 : Addr) (x1 : Int32) : entryFrame m #[(.ref x0), (.int x1)] 2 = mkF m 0 #[.val (.ref x0), .val (.int x1)] [] := by first | (simp [entryFrame, mkF, argsToLocals, Value.category]; done) | rfl
def Q_own_lca (Z : State) (ab : Addr) (ip : Int32) (zn : Int32) (pu : Int32) (cs : Int32) (fm : Value) (h0 : Heap) (n0 : Nat) (v : Option Value) (h : Heap) (L : List Loc) : Prop := v = some (.int (nar .char (own_LC pu))) ∧ Fr n0 L ∧ h = h0
set_option maxRecDepth 65536 in
set_option maxHeartbeats 40000000 in
theorem own_lca (l : Launch) (Z : State) (a0 : Array Value) (hw : ∀ d ∈ tables_1, d.before a0 Z = true) (ws : List Jvm.Cond) (ab : Addr) (ip : Int32) (zn : Int32) (pu : Int32) (cs : Int32) (fm : Value) (h0 : Heap) (n0 : Nat) (Z0 : n0 ≤ h0.size) (Ln : own_Ln Z h0 ab zn) (At : own_At Z h0 ab ip pu) (hi : ¬ (ip < (0 : Int32))) (hj : ip < zn) (hst : own_ST Z cs fm) (O0 : Old Z n0 h0) :
    MetFree l (⟨"java/lang/StringLatin1", "charAt", "([BI)C"⟩ : MethodName) (head1 (Jvm.Cond.code (⟨"java/lang/StringLatin1", "charAt", "([BI)C"⟩ : MethodName) jdk_43_method_2_code 2 (some .char) :: ws) ({ frames := 2, cells := 0, slots := 0, locals := 27 } : Room)) (fun a U => a = #[(.ref ab), (.int ip)] ∧ Z.Warmed39 U.vm ∧ U.heap = h0) (fun _ _ _ _ _ => True) (fun _ U o U' => ∃ v L, o = .returned v ∧ Q_own_lca Z ab ip zn pu cs fm h0 n0 v U'.heap L ∧ FrameEnd U o U' L ({ frames := 2, cells := 0, slots := 0, locals := 27 } : Room).cells ({ frames := 2, cells := 0, slots := 0, locals := 27 } : Room).slots) := by
  refine MetFree.of_bodySF (plainFor_of_name own_pn_own_lca) hisR ?_
  intro p e s m args below meth c s₁ Bd hml0 hP hK
  obtain ⟨rfl, hZ, hh⟩ := hP
  have hx := Bd.exec
  have hby := Bd.bytes
  have hml : c.maxLocals = 2 := hml0
  have hown : s.vm.findClass "java/lang/StringLatin1" = some m.cls := findClass_of_methodNamed Bd.named
  have hnm := (name_of_methodNamed Bd.named Bd.method).1
  have X0 : Stand p l e ({ frames := 2, cells := 0, slots := 0, locals := 27 } : Room) s m #[(.ref ab), (.int ip)] below meth c s₁ [] 0 0 := Stand.of_body Bd
  have e0 : s₁.heap = h0 := by rw [← hh, Bd.state]; rfl
  have N0 := Fr.nil n0
  have pre0 : Goes p e below s₁ (entryFrame m #[(.ref ab), (.int ip)] 2) s₁ (mkF m 0 #[.val (.ref ab), .val (.int ip)] []) := fun t k => castTop (own_ef_own_lca m ab ip) k
  have pre1 : Goes p e below s₁ (entryFrame m #[(.ref ab), (.int ip)] 2) s₁ (mkF m 2 #[.val (.ref ab), .val (.int ip)] [(.ref ab), (.int ip)]) := fun t kt => pre0 t (by
      show Steps p.tables e below (s₁.setTop (mkF m 0 #[.val (.ref ab), .val (.int ip)] [])) _
      refine XS.iloadN X0.here hx rfl (hb hby own_d_lca_0) rfl ?_
      refine XS.aloadN X0.here hx rfl (hb hby own_d_lca_1) rfl rfl ?_
      exact kt)
  obtain ⟨cl2, Ar2, S2, N_2⟩ := (id (Ln))
  have pre3 : Goes p e below s₁ (entryFrame m #[(.ref ab), (.int ip)] 2) s₁ (mkF m 3 #[.val (.ref ab), .val (.int ip)] [(.int zn), (.int ip)]) := fun t kt => pre1 t (by
      show Steps p.tables e below (s₁.setTop (mkF m 2 #[.val (.ref ab), .val (.int ip)] [(.ref ab), (.int ip)])) _
      refine X0.arraylength hx (by (try rw [e0]); exact Ar2.1) (State.isArrayOf_alike hZ.alike Ar2.2.1) (g := (mkF m 2 #[.val (.ref ab), .val (.int ip)] [(.ref ab), (.int ip)])) rfl rfl (hb hby own_d_lca_2) _ ?_
      rw [len_of S2 N_2]
      exact kt)
  obtain ⟨_, _, ⟨T4, L4, k4, n4⟩, -, X4, ⟨Lc4, hQ4, l4, y4, z4⟩, st4⟩ := Jvm.LawKit.callS X0 hx (y := (⟨"java/lang/String", "checkIndex", "(II)V"⟩ : MethodName)) hown (mvT hZ (hw _ (own_mG (i := 69) rfl))) (mvT hZ (hw _ (own_mG (i := 70) rfl))) (mvT hZ (hw _ (own_mG (i := 7) rfl))) (mvT hZ (hw _ (own_mG (i := 71) rfl))) (by decide) (backOf (W := 0) (own_si l Z a0 hw [] ip zn cs fm h0 n0 Z0 hi hj hst O0) hZ (hw _ (own_mG (i := 71) rfl)) (hw _ (own_mG (i := 7) rfl)) (by decide) (by decide)) (g := (mkF m 3 #[.val (.ref ab), .val (.int ip)] [(.int zn), (.int ip)])) rfl (by rw [hml]; rfl) (argsL := [(.int ip), (.int zn)]) (rest := []) (lenOf own_pd3 rfl) rfl (by show 2 * 0 + _ ≤ _; exact Nat.le_of_eq rfl) (hb hby own_d_lca_3) (fun _ _ => ⟨rfl, e0, (by decide : 0 + 0 ≤ _), (by decide : 0 + 0 ≤ _)⟩)
  dsimp only [Pt.U, Pt.locs, Pt.cells, Pt.slots] at X4 l4 y4 z4 st4 hQ4
  subst l4 y4 z4
  obtain ⟨rfl, N4q, e4⟩ := hQ4
  have N4 := Fr.app N0 N4q
  have pre5 : Goes p e below s₁ (entryFrame m #[(.ref ab), (.int ip)] 2) T4 (mkF m 6 #[.val (.ref ab), .val (.int ip)] []) := fun t kt => pre3 t (st4 t kt)
  have pre6 : Goes p e below s₁ (entryFrame m #[(.ref ab), (.int ip)] 2) T4 (mkF m 8 #[.val (.ref ab), .val (.int ip)] [(.int ip), (.ref ab)]) := fun t kt => pre5 t (by
      show Steps p.tables e below (T4.setTop (mkF m 6 #[.val (.ref ab), .val (.int ip)] [])) _
      refine XS.aloadN X4.here hx rfl (hb hby own_d_lca_6) rfl rfl ?_
      refine XS.iloadN X4.here hx rfl (hb hby own_d_lca_7) rfl ?_
      exact kt)
  obtain ⟨cl7, Ar7, hin7, hat7⟩ := (id (At))
  have pre8 : Goes p e below s₁ (entryFrame m #[(.ref ab), (.int ip)] 2) T4 (mkF m 14 #[.val (.ref ab), .val (.int ip)] [(.int ((pu &&& (255 : Int32)).toUInt32.toUInt16.toUInt32.toInt32))]) := fun t kt => pre6 t (by
      show Steps p.tables e below (T4.setTop (mkF m 8 #[.val (.ref ab), .val (.int ip)] [(.int ip), (.ref ab)])) _
      refine X4.baloadBytes hx (j := ip) (v := (.int pu)) (by (try rw [e4]); exact Ar7.1) (State.isArrayOf_alike hZ.alike Ar7.2.1) Ar7.2.2 hin7 hat7 (g := (mkF m 8 #[.val (.ref ab), .val (.int ip)] [(.int ip), (.ref ab)])) rfl rfl (hb hby own_d_lca_8) _ ?_
      refine XS.sipush X4.here hx rfl (hb hby own_d_lca_9) ?_
      show Steps p.tables e below (T4.setTop (mkF m 12 #[.val (.ref ab), .val (.int ip)] [(.int 255), (.int pu)])) _
      refine XS.iand X4.here hx rfl (hb hby own_d_lca_12) rfl ?_
      refine XS.i2c X4.here hx rfl (hb hby own_d_lca_13) rfl ?_
      exact kt)
  obtain ⟨fs, hr, hrun, hended, hW, hsame⟩ := X4.leave (v := some (.int (nar .char ((pu &&& (255 : Int32)).toUInt32.toUInt16.toUInt32.toInt32)))) (fun h => by rw [Bd.returns] at h; cases h)
  refine ⟨_, _, pre8 _ ?_, hrun, hended, _, _, rfl, ?_, ⟨_, rfl⟩, hW, hsame.mono (by decide) (by decide)⟩
  · show Steps p.tables e below (T4.setTop (mkF m 14 #[.val (.ref ab), .val (.int ip)] [(.int ((pu &&& (255 : Int32)).toUInt32.toUInt16.toUInt32.toInt32))])) _
    exact retN X4 hx (t := .char) Bd.returns (by simp) (hb hby own_d_lca_14) hr
  · show Q_own_lca Z ab ip zn pu cs fm h0 n0 _ T4.heap _
    rw [e4]
    exact ⟨rfl, N4, rfl⟩
theorem own_d_ul_0 : decode jdk_52_method_6_code 0 = .ok (.aload_n 0, 1) := by decide +kernel
theorem own_d_ul_1 : decode jdk_52_method_6_code 1 = .ok (.arraylength, 1) := by decide +kernel
theorem own_d_ul_2 : decode jdk_52_method_6_code 2 = .ok (.iconst 1, 1) := by decide +kernel
theorem own_d_ul_3 : decode jdk_52_method_6_code 3 = .ok (.ishr, 1) := by decide +kernel
theorem own_d_ul_4 : decode jdk_52_method_6_code 4 = .ok (.ireturn, 1) := by decide +kernel
theorem own_pn_own_ul : plainName "java/lang/StringUTF16" = true := by first | (simp [plainName, overriddenIn]; done) | decide +kernel
theorem own_ef_own_ul (m : MethodId) (x0 : Addr) : entryFrame m #[(.ref x0)] 1 = mkF m 0 #[.val (.ref x0)] [] := by first | (simp [entryFrame, mkF, argsToLocals, Value.category]; done) | rfl
def Q_own_ul (Z : State) (ab : Addr) (zn : Int32) (h0 : Heap) (n0 : Nat) (v : Option Value) (h : Heap) (L : List Loc) : Prop := v = some (.int (zn >>> ((1 : Int32) &&& 31))) ∧ Fr n0 L ∧ h = h0
set_option maxRecDepth 65536 in
set_option maxHeartbeats 40000000 in
theorem own_ul (l : Launch) (Z : State) (a0 : Array Value) (hw : ∀ d ∈ tables_1, d.before a0 Z = true) (ws : List Jvm.Cond) (ab : Addr) (zn : Int32) (h0 : Heap) (n0 : Nat) (Z0 : n0 ≤ h0.size) (Ln : own_Ln Z h0 ab zn) :
    MetFree l (⟨"java/lang/StringUTF16", "length", "([B)I"⟩ : MethodName) (head1 (Jvm.Cond.code (⟨"java/lang/StringUTF16", "length", "([B)I"⟩ : MethodName) jdk_52_method_6_code 1 (some .int) :: ws) ({ frames := 0, cells := 0, slots := 0, locals := 0 } : Room)) (fun a U => a = #[(.ref ab)] ∧ Z.Warmed39 U.vm ∧ U.heap = h0) (fun _ _ _ _ _ => True) (fun _ U o U' => ∃ v L, o = .returned v ∧ Q_own_ul Z ab zn h0 n0 v U'.heap L ∧ FrameEnd U o U' L ({ frames := 0, cells := 0, slots := 0, locals := 0 } : Room).cells ({ frames := 0, cells := 0, slots := 0, locals := 0 } : Room).slots) := by
  refine MetFree.of_bodySF (plainFor_of_name own_pn_own_ul) hisR ?_
  intro p e s m args below meth c s₁ Bd hml0 hP hK
  obtain ⟨rfl, hZ, hh⟩ := hP
  have hx := Bd.exec
  have hby := Bd.bytes
  have hml : c.maxLocals = 1 := hml0
  have hown : s.vm.findClass "java/lang/StringUTF16" = some m.cls := findClass_of_methodNamed Bd.named
  have hnm := (name_of_methodNamed Bd.named Bd.method).1
  have X0 : Stand p l e ({ frames := 0, cells := 0, slots := 0, locals := 0 } : Room) s m #[(.ref ab)] below meth c s₁ [] 0 0 := Stand.of_body Bd
  have e0 : s₁.heap = h0 := by rw [← hh, Bd.state]; rfl
  have N0 := Fr.nil n0
  have pre0 : Goes p e below s₁ (entryFrame m #[(.ref ab)] 1) s₁ (mkF m 0 #[.val (.ref ab)] []) := fun t k => castTop (own_ef_own_ul m ab) k
  have pre1 : Goes p e below s₁ (entryFrame m #[(.ref ab)] 1) s₁ (mkF m 1 #[.val (.ref ab)] [(.ref ab)]) := fun t kt => pre0 t (by
      show Steps p.tables e below (s₁.setTop (mkF m 0 #[.val (.ref ab)] [])) _
      refine XS.aloadN X0.here hx rfl (hb hby own_d_ul_0) rfl rfl ?_
      exact kt)
  obtain ⟨cl2, Ar2, S2, N_2⟩ := (id (Ln))
  have pre3 : Goes p e below s₁ (entryFrame m #[(.ref ab)] 1) s₁ (mkF m 4 #[.val (.ref ab)] [(.int (zn >>> ((1 : Int32) &&& 31)))]) := fun t kt => pre1 t (by
      show Steps p.tables e below (s₁.setTop (mkF m 1 #[.val (.ref ab)] [(.ref ab)])) _
      refine X0.arraylength hx (by (try rw [e0]); exact Ar2.1) (State.isArrayOf_alike hZ.alike Ar2.2.1) (g := (mkF m 1 #[.val (.ref ab)] [(.ref ab)])) rfl rfl (hb hby own_d_ul_1) _ ?_
      rw [len_of S2 N_2]
      refine XS.iconst X0.here hx rfl (hb hby own_d_ul_2) ?_
      show Steps p.tables e below (s₁.setTop (mkF m 3 #[.val (.ref ab)] [(.int 1), (.int zn)])) _
      refine XS.ishr X0.here hx rfl (hb hby own_d_ul_3) rfl ?_
      exact kt)
  obtain ⟨fs, hr, hrun, hended, hW, hsame⟩ := X0.leave (v := some (.int (zn >>> ((1 : Int32) &&& 31)))) (fun h => by rw [Bd.returns] at h; cases h)
  refine ⟨_, _, pre3 _ ?_, hrun, hended, _, _, rfl, ?_, ⟨_, rfl⟩, hW, hsame.mono (by decide) (by decide)⟩
  · show Steps p.tables e below (s₁.setTop (mkF m 4 #[.val (.ref ab)] [(.int (zn >>> ((1 : Int32) &&& 31)))])) _
    exact retI X0 hx Bd.returns (hb hby own_d_ul_4) hr
  · show Q_own_ul Z ab zn h0 n0 _ s₁.heap _
    rw [e0]
    exact ⟨rfl, N0, rfl⟩
theorem own_d_uci_0 : decode jdk_52_method_91_code 0 = .ok (.iload_n 0, 1) := by decide +kernel
theorem own_d_uci_1 : decode jdk_52_method_91_code 1 = .ok (.aload_n 1, 1) := by decide +kernel
theorem own_d_uci_2 : decode jdk_52_method_91_code 2 = .ok (.invokestatic 48, 3) := by decide +kernel
theorem own_d_uci_5 : decode jdk_52_method_91_code 5 = .ok (.invokestatic 414, 3) := by decide +kernel
theorem own_d_uci_8 : decode jdk_52_method_91_code 8 = .ok (.return_, 1) := by decide +kernel
theorem own_pn_own_uci : plainName "java/lang/StringUTF16" = true := by first | (simp [plainName, overriddenIn]; done) | decide +kernel
theorem own_ef_own_uci (m : MethodId) (x0 : Int32) (x1 : Addr) : entryFrame m #[(.int x0), (.ref x1)] 2 = mkF m 0 #[.val (.int x0), .val (.ref x1)] [] := by first | (simp [entryFrame, mkF, argsToLocals, Value.category]; done) | rfl
def Q_own_uci (Z : State) (ip : Int32) (ab : Addr) (zn : Int32) (cs : Int32) (fm : Value) (h0 : Heap) (n0 : Nat) (v : Option Value) (h : Heap) (L : List Loc) : Prop := v = none ∧ Fr n0 L ∧ h = h0
set_option maxRecDepth 65536 in
set_option maxHeartbeats 40000000 in
theorem own_uci (l : Launch) (Z : State) (a0 : Array Value) (hw : ∀ d ∈ tables_1, d.before a0 Z = true) (ws : List Jvm.Cond) (ip : Int32) (ab : Addr) (zn : Int32) (cs : Int32) (fm : Value) (h0 : Heap) (n0 : Nat) (Z0 : n0 ≤ h0.size) (Ln : own_Ln Z h0 ab zn) (hi : ¬ (ip < (0 : Int32))) (hj : ip < (zn >>> ((1 : Int32) &&& 31))) (hst : own_ST Z cs fm) (O0 : Old Z n0 h0) :
    MetFree l (⟨"java/lang/StringUTF16", "checkIndex", "(I[B)V"⟩ : MethodName) (head1 (Jvm.Cond.code (⟨"java/lang/StringUTF16", "checkIndex", "(I[B)V"⟩ : MethodName) jdk_52_method_91_code 2 none :: ws) ({ frames := 2, cells := 0, slots := 0, locals := 27 } : Room)) (fun a U => a = #[(.int ip), (.ref ab)] ∧ Z.Warmed39 U.vm ∧ U.heap = h0) (fun _ _ _ _ _ => True) (fun _ U o U' => ∃ v L, o = .returned v ∧ Q_own_uci Z ip ab zn cs fm h0 n0 v U'.heap L ∧ FrameEnd U o U' L ({ frames := 2, cells := 0, slots := 0, locals := 27 } : Room).cells ({ frames := 2, cells := 0, slots := 0, locals := 27 } : Room).slots) := by
  refine MetFree.of_bodySF (plainFor_of_name own_pn_own_uci) hisR ?_
  intro p e s m args below meth c s₁ Bd hml0 hP hK
  obtain ⟨rfl, hZ, hh⟩ := hP
  have hx := Bd.exec
  have hby := Bd.bytes
  have hml : c.maxLocals = 2 := hml0
  have hown : s.vm.findClass "java/lang/StringUTF16" = some m.cls := findClass_of_methodNamed Bd.named
  have hnm := (name_of_methodNamed Bd.named Bd.method).1
  have X0 : Stand p l e ({ frames := 2, cells := 0, slots := 0, locals := 27 } : Room) s m #[(.int ip), (.ref ab)] below meth c s₁ [] 0 0 := Stand.of_body Bd
  have e0 : s₁.heap = h0 := by rw [← hh, Bd.state]; rfl
  have N0 := Fr.nil n0
  have pre0 : Goes p e below s₁ (entryFrame m #[(.int ip), (.ref ab)] 2) s₁ (mkF m 0 #[.val (.int ip), .val (.ref ab)] []) := fun t k => castTop (own_ef_own_uci m ip ab) k
  have pre1 : Goes p e below s₁ (entryFrame m #[(.int ip), (.ref ab)] 2) s₁ (mkF m 2 #[.val (.int ip), .val (.ref ab)] [(.ref ab), (.int ip)]) := fun t kt => pre0 t (by
      show Steps p.tables e below (s₁.setTop (mkF m 0 #[.val (.int ip), .val (.ref ab)] [])) _
      refine XS.iloadN X0.here hx rfl (hb hby own_d_uci_0) rfl ?_
      refine XS.aloadN X0.here hx rfl (hb hby own_d_uci_1) rfl rfl ?_
      exact kt)
  obtain ⟨_, _, ⟨T2, L2, k2, n2⟩, -, X2, ⟨Lc2, hQ2, l2, y2, z2⟩, st2⟩ := Jvm.LawKit.callS X0 hx (y := (⟨"java/lang/StringUTF16", "length", "([B)I"⟩ : MethodName)) hown (mvT hZ (hw _ (own_mG (i := 102) rfl))) (mvT hZ (hw _ (own_mG (i := 103) rfl))) (mvT hZ (hw _ (own_mG (i := 44) rfl))) (mvT hZ (hw _ (own_mG (i := 104) rfl))) (by decide) (backOf (W := 1) (own_ul l Z a0 hw [] ab zn h0 n0 Z0 Ln) hZ (hw _ (own_mG (i := 104) rfl)) (hw _ (own_mG (i := 44) rfl)) (by decide) (by decide)) (g := (mkF m 2 #[.val (.int ip), .val (.ref ab)] [(.ref ab), (.int ip)])) rfl (by rw [hml]; rfl) (argsL := [(.ref ab)]) (rest := [(.int ip)]) (lenOf own_pd4 rfl) rfl (by show 2 * 0 + _ ≤ _; exact Nat.le_of_eq rfl) (hb hby own_d_uci_2) (fun _ _ => ⟨rfl, e0, (by decide : 0 + 0 ≤ _), (by decide : 0 + 0 ≤ _)⟩)
  dsimp only [Pt.U, Pt.locs, Pt.cells, Pt.slots] at X2 l2 y2 z2 st2 hQ2
  subst l2 y2 z2
  obtain ⟨rfl, N2q, e2⟩ := hQ2
  have N2 := Fr.app N0 N2q
  have pre3 : Goes p e below s₁ (entryFrame m #[(.int ip), (.ref ab)] 2) T2 (mkF m 5 #[.val (.int ip), .val (.ref ab)] [(.int (zn >>> ((1 : Int32) &&& 31))), (.int ip)]) := fun t kt => pre1 t (st2 t kt)
  obtain ⟨_, _, ⟨T4, L4, k4, n4⟩, -, X4, ⟨Lc4, hQ4, l4, y4, z4⟩, st4⟩ := Jvm.LawKit.callS X2 hx (y := (⟨"java/lang/String", "checkIndex", "(II)V"⟩ : MethodName)) hown (mvT hZ (hw _ (own_mG (i := 105) rfl))) (mvT hZ (hw _ (own_mG (i := 70) rfl))) (mvT hZ (hw _ (own_mG (i := 7) rfl))) (mvT hZ (hw _ (own_mG (i := 71) rfl))) (by decide) (backOf (W := 0) (own_si l Z a0 hw [] ip (zn >>> ((1 : Int32) &&& 31)) cs fm h0 n0 Z0 hi hj hst O0) hZ (hw _ (own_mG (i := 71) rfl)) (hw _ (own_mG (i := 7) rfl)) (by decide) (by decide)) (g := (mkF m 5 #[.val (.int ip), .val (.ref ab)] [(.int (zn >>> ((1 : Int32) &&& 31))), (.int ip)])) rfl (by rw [hml]; rfl) (argsL := [(.int ip), (.int (zn >>> ((1 : Int32) &&& 31)))]) (rest := []) (lenOf own_pd3 rfl) rfl (by show 2 * 0 + _ ≤ _; exact Nat.le_of_eq rfl) (hb hby own_d_uci_5) (fun _ _ => ⟨rfl, e2, (by decide : 0 + 0 ≤ _), (by decide : 0 + 0 ≤ _)⟩)
  dsimp only [Pt.U, Pt.locs, Pt.cells, Pt.slots] at X4 l4 y4 z4 st4 hQ4
  subst l4 y4 z4
  obtain ⟨rfl, N4q, e4⟩ := hQ4
  have N4 := Fr.app N2 N4q
  have pre5 : Goes p e below s₁ (entryFrame m #[(.int ip), (.ref ab)] 2) T4 (mkF m 8 #[.val (.int ip), .val (.ref ab)] []) := fun t kt => pre3 t (st4 t kt)
  obtain ⟨fs, hr, hrun, hended, hW, hsame⟩ := X4.leave (v := none) (fun _ => rfl)
  refine ⟨_, _, pre5 _ ?_, hrun, hended, _, _, rfl, ?_, ⟨_, rfl⟩, hW, hsame.mono (by decide) (by decide)⟩
  · show Steps p.tables e below (T4.setTop (mkF m 8 #[.val (.int ip), .val (.ref ab)] [])) _
    exact X4.returnOut hx Bd.returns (hb hby own_d_uci_8) hr
  · show Q_own_uci Z ip ab zn cs fm h0 n0 _ T4.heap _
    rw [e4]
    exact ⟨rfl, N4, rfl⟩
theorem own_d_gch_0 : decode jdk_52_method_5_code 0 = .ok (.getstatic 44, 3) := by decide +kernel
theorem own_d_gch_3 : decode jdk_52_method_5_code 3 = .ok (.ifCond .ne 25, 3) := by decide +kernel
theorem own_d_gch_28 : decode jdk_52_method_5_code 28 = .ok (.iload_n 1, 1) := by decide +kernel
theorem own_d_gch_29 : decode jdk_52_method_5_code 29 = .ok (.iconst 1, 1) := by decide +kernel
theorem own_d_gch_30 : decode jdk_52_method_5_code 30 = .ok (.ishl, 1) := by decide +kernel
theorem own_d_gch_31 : decode jdk_52_method_5_code 31 = .ok (.istore_n 1, 1) := by decide +kernel
theorem own_d_gch_32 : decode jdk_52_method_5_code 32 = .ok (.aload_n 0, 1) := by decide +kernel
theorem own_d_gch_33 : decode jdk_52_method_5_code 33 = .ok (.iload_n 1, 1) := by decide +kernel
theorem own_d_gch_34 : decode jdk_52_method_5_code 34 = .ok (.iinc 1 1, 3) := by decide +kernel
theorem own_d_gch_37 : decode jdk_52_method_5_code 37 = .ok (.baload, 1) := by decide +kernel
theorem own_d_gch_38 : decode jdk_52_method_5_code 38 = .ok (.sipush 255, 3) := by decide +kernel
theorem own_d_gch_41 : decode jdk_52_method_5_code 41 = .ok (.iand, 1) := by decide +kernel
theorem own_d_gch_42 : decode jdk_52_method_5_code 42 = .ok (.getstatic 59, 3) := by decide +kernel
theorem own_d_gch_45 : decode jdk_52_method_5_code 45 = .ok (.ishl, 1) := by decide +kernel
theorem own_d_gch_46 : decode jdk_52_method_5_code 46 = .ok (.aload_n 0, 1) := by decide +kernel
theorem own_d_gch_47 : decode jdk_52_method_5_code 47 = .ok (.iload_n 1, 1) := by decide +kernel
theorem own_d_gch_48 : decode jdk_52_method_5_code 48 = .ok (.baload, 1) := by decide +kernel
theorem own_d_gch_49 : decode jdk_52_method_5_code 49 = .ok (.sipush 255, 3) := by decide +kernel
theorem own_d_gch_52 : decode jdk_52_method_5_code 52 = .ok (.iand, 1) := by decide +kernel
theorem own_d_gch_53 : decode jdk_52_method_5_code 53 = .ok (.getstatic 63, 3) := by decide +kernel
theorem own_d_gch_56 : decode jdk_52_method_5_code 56 = .ok (.ishl, 1) := by decide +kernel
theorem own_d_gch_57 : decode jdk_52_method_5_code 57 = .ok (.ior, 1) := by decide +kernel
theorem own_d_gch_58 : decode jdk_52_method_5_code 58 = .ok (.i2c, 1) := by decide +kernel
theorem own_d_gch_59 : decode jdk_52_method_5_code 59 = .ok (.ireturn, 1) := by decide +kernel
theorem own_pn_own_gch : plainName "java/lang/StringUTF16" = true := by first | (simp [plainName, overriddenIn]; done) | decide +kernel
theorem own_ef_own_gch (m : MethodId) (x0 : Addr) (x1 : Int32) : entryFrame m #[(.ref x0), (.int x1)] 2 = mkF m 0 #[.val (.ref x0), .val (.int x1)] [] := by first | (simp [entryFrame, mkF, argsToLocals, Value.category]; done) | rfl
def Q_own_gch (Z : State) (ab : Addr) (ip : Int32) (pu : Int32) (pw : Int32) (cs : Int32) (fm : Value) (h0 : Heap) (n0 : Nat) (v : Option Value) (h : Heap) (L : List Loc) : Prop := v = some (.int (nar .char (own_GC pu pw))) ∧ Fr n0 L ∧ h = h0
set_option maxRecDepth 65536 in
set_option maxHeartbeats 40000000 in
theorem own_gch (l : Launch) (Z : State) (a0 : Array Value) (hw : ∀ d ∈ tables_1, d.before a0 Z = true) (ws : List Jvm.Cond) (ab : Addr) (ip : Int32) (pu : Int32) (pw : Int32) (cs : Int32) (fm : Value) (h0 : Heap) (n0 : Nat) (Z0 : n0 ≤ h0.size) (A0 : own_At Z h0 ab (ip <<< ((1 : Int32) &&& 31)) pu) (A1 : own_At Z h0 ab ((ip <<< ((1 : Int32) &&& 31)) + (1 : Int32)) pw) (hst : own_ST Z cs fm) (O0 : Old Z n0 h0) :
    MetFree l (⟨"java/lang/StringUTF16", "getChar", "([BI)C"⟩ : MethodName) (head1 (Jvm.Cond.code (⟨"java/lang/StringUTF16", "getChar", "([BI)C"⟩ : MethodName) jdk_52_method_5_code 2 (some .char) :: ws) ({ frames := 0, cells := 0, slots := 0, locals := 0 } : Room)) (fun a U => a = #[(.ref ab), (.int ip)] ∧ Z.Warmed39 U.vm ∧ U.heap = h0) (fun _ _ _ _ _ => True) (fun _ U o U' => ∃ v L, o = .returned v ∧ Q_own_gch Z ab ip pu pw cs fm h0 n0 v U'.heap L ∧ FrameEnd U o U' L ({ frames := 0, cells := 0, slots := 0, locals := 0 } : Room).cells ({ frames := 0, cells := 0, slots := 0, locals := 0 } : Room).slots) := by
  refine MetFree.of_bodySF (plainFor_of_name own_pn_own_gch) hisR ?_
  intro p e s m args below meth c s₁ Bd hml0 hP hK
  obtain ⟨rfl, hZ, hh⟩ := hP
  have hx := Bd.exec
  have hby := Bd.bytes
  have hml : c.maxLocals = 2 := hml0
  have hown : s.vm.findClass "java/lang/StringUTF16" = some m.cls := findClass_of_methodNamed Bd.named
  have hnm := (name_of_methodNamed Bd.named Bd.method).1
  have X0 : Stand p l e ({ frames := 0, cells := 0, slots := 0, locals := 0 } : Room) s m #[(.ref ab), (.int ip)] below meth c s₁ [] 0 0 := Stand.of_body Bd
  have e0 : s₁.heap = h0 := by rw [← hh, Bd.state]; rfl
  have N0 := Fr.nil n0
  have pre0 : Goes p e below s₁ (entryFrame m #[(.ref ab), (.int ip)] 2) s₁ (mkF m 0 #[.val (.ref ab), .val (.int ip)] []) := fun t k => castTop (own_ef_own_gch m ab ip) k
  obtain ⟨T1, X1, e1, st1⟩ := getS2 X0 hx hZ hown (host := "") (Or.inl (hw _ (own_mG (i := 90) rfl))) Via.refl e0 (hst.2.2.1.ext O0.2) (g := (mkF m 0 #[.val (.ref ab), .val (.int ip)] [])) rfl (hb hby own_d_gch_0)
  have pre2 : Goes p e below s₁ (entryFrame m #[(.ref ab), (.int ip)] 2) T1 (mkF m 3 #[.val (.ref ab), .val (.int ip)] [(.int 1)]) := fun t kt => pre0 t (st1 t kt)
  have pre3 : Goes p e below s₁ (entryFrame m #[(.ref ab), (.int ip)] 2) T1 (mkF m 37 #[.val (.ref ab), .val (.int ((ip <<< ((1 : Int32) &&& 31)) + (1 : Int32)))] [(.int (ip <<< ((1 : Int32) &&& 31))), (.ref ab)]) := fun t kt => pre2 t (by
      show Steps p.tables e below (T1.setTop (mkF m 3 #[.val (.ref ab), .val (.int ip)] [(.int 1)])) _
      refine XS.ifYes X1.here hx rfl (pc0 := 3) (pc' := 28) rfl (hb hby own_d_gch_3) rfl ((if0 _ _).trans (feq (by decide : ¬ ((1 : Int32) = (0 : Int32)))).2) (by decide) (by decide) ?_
      refine XS.iloadN X1.here hx rfl (hb hby own_d_gch_28) rfl ?_
      show Steps p.tables e below (T1.setTop (mkF m 29 #[.val (.ref ab), .val (.int ip)] [(.int ip)])) _
      refine XS.iconst X1.here hx rfl (hb hby own_d_gch_29) ?_
      refine XS.ishl X1.here hx rfl (hb hby own_d_gch_30) rfl ?_
      show Steps p.tables e below (T1.setTop (mkF m 31 #[.val (.ref ab), .val (.int ip)] [(.int (ip <<< ((1 : Int32) &&& 31)))])) _
      refine XS.istoreN X1.here hx rfl (hb hby own_d_gch_31) rfl (l' := #[.val (.ref ab), .val (.int (ip <<< ((1 : Int32) &&& 31)))]) rfl ?_
      refine XS.aloadN X1.here hx rfl (hb hby own_d_gch_32) rfl rfl ?_
      show Steps p.tables e below (T1.setTop (mkF m 33 #[.val (.ref ab), .val (.int (ip <<< ((1 : Int32) &&& 31)))] [(.ref ab)])) _
      refine XS.iloadN X1.here hx rfl (hb hby own_d_gch_33) rfl ?_
      refine XS.iinc X1.here hx rfl (hb hby own_d_gch_34) rfl (l' := #[.val (.ref ab), .val (.int ((ip <<< ((1 : Int32) &&& 31)) + (1 : Int32)))]) rfl ?_
      exact kt)
  obtain ⟨cl4, Ar4, hin4, hat4⟩ := (id (A0))
  have pre5 : Goes p e below s₁ (entryFrame m #[(.ref ab), (.int ip)] 2) T1 (mkF m 42 #[.val (.ref ab), .val (.int ((ip <<< ((1 : Int32) &&& 31)) + (1 : Int32)))] [(.int (pu &&& (255 : Int32)))]) := fun t kt => pre3 t (by
      show Steps p.tables e below (T1.setTop (mkF m 37 #[.val (.ref ab), .val (.int ((ip <<< ((1 : Int32) &&& 31)) + (1 : Int32)))] [(.int (ip <<< ((1 : Int32) &&& 31))), (.ref ab)])) _
      refine X1.baloadBytes hx (j := (ip <<< ((1 : Int32) &&& 31))) (v := (.int pu)) (by (try rw [e1]); exact Ar4.1) (State.isArrayOf_alike hZ.alike Ar4.2.1) Ar4.2.2 hin4 hat4 (g := (mkF m 37 #[.val (.ref ab), .val (.int ((ip <<< ((1 : Int32) &&& 31)) + (1 : Int32)))] [(.int (ip <<< ((1 : Int32) &&& 31))), (.ref ab)])) rfl rfl (hb hby own_d_gch_37) _ ?_
      refine XS.sipush X1.here hx rfl (hb hby own_d_gch_38) ?_
      show Steps p.tables e below (T1.setTop (mkF m 41 #[.val (.ref ab), .val (.int ((ip <<< ((1 : Int32) &&& 31)) + (1 : Int32)))] [(.int 255), (.int pu)])) _
      refine XS.iand X1.here hx rfl (hb hby own_d_gch_41) rfl ?_
      exact kt)
  obtain ⟨T6, X6, e6, st6⟩ := getS2 X1 hx hZ hown (host := "") (Or.inl (hw _ (own_mG (i := 91) rfl))) Via.refl e1 (hst.2.2.2.1.ext O0.2) (g := (mkF m 42 #[.val (.ref ab), .val (.int ((ip <<< ((1 : Int32) &&& 31)) + (1 : Int32)))] [(.int (pu &&& (255 : Int32)))])) rfl (hb hby own_d_gch_42)
  have pre7 : Goes p e below s₁ (entryFrame m #[(.ref ab), (.int ip)] 2) T6 (mkF m 45 #[.val (.ref ab), .val (.int ((ip <<< ((1 : Int32) &&& 31)) + (1 : Int32)))] [(.int 0), (.int (pu &&& (255 : Int32)))]) := fun t kt => pre5 t (st6 t kt)
  have pre8 : Goes p e below s₁ (entryFrame m #[(.ref ab), (.int ip)] 2) T6 (mkF m 48 #[.val (.ref ab), .val (.int ((ip <<< ((1 : Int32) &&& 31)) + (1 : Int32)))] [(.int ((ip <<< ((1 : Int32) &&& 31)) + (1 : Int32))), (.ref ab), (.int ((pu &&& (255 : Int32)) <<< ((0 : Int32) &&& 31)))]) := fun t kt => pre7 t (by
      show Steps p.tables e below (T6.setTop (mkF m 45 #[.val (.ref ab), .val (.int ((ip <<< ((1 : Int32) &&& 31)) + (1 : Int32)))] [(.int 0), (.int (pu &&& (255 : Int32)))])) _
      refine XS.ishl X6.here hx rfl (hb hby own_d_gch_45) rfl ?_
      refine XS.aloadN X6.here hx rfl (hb hby own_d_gch_46) rfl rfl ?_
      show Steps p.tables e below (T6.setTop (mkF m 47 #[.val (.ref ab), .val (.int ((ip <<< ((1 : Int32) &&& 31)) + (1 : Int32)))] [(.ref ab), (.int ((pu &&& (255 : Int32)) <<< ((0 : Int32) &&& 31)))])) _
      refine XS.iloadN X6.here hx rfl (hb hby own_d_gch_47) rfl ?_
      exact kt)
  obtain ⟨cl9, Ar9, hin9, hat9⟩ := (id (A1))
  have pre10 : Goes p e below s₁ (entryFrame m #[(.ref ab), (.int ip)] 2) T6 (mkF m 53 #[.val (.ref ab), .val (.int ((ip <<< ((1 : Int32) &&& 31)) + (1 : Int32)))] [(.int (pw &&& (255 : Int32))), (.int ((pu &&& (255 : Int32)) <<< ((0 : Int32) &&& 31)))]) := fun t kt => pre8 t (by
      show Steps p.tables e below (T6.setTop (mkF m 48 #[.val (.ref ab), .val (.int ((ip <<< ((1 : Int32) &&& 31)) + (1 : Int32)))] [(.int ((ip <<< ((1 : Int32) &&& 31)) + (1 : Int32))), (.ref ab), (.int ((pu &&& (255 : Int32)) <<< ((0 : Int32) &&& 31)))])) _
      refine X6.baloadBytes hx (j := ((ip <<< ((1 : Int32) &&& 31)) + (1 : Int32))) (v := (.int pw)) (by (try rw [e6]); exact Ar9.1) (State.isArrayOf_alike hZ.alike Ar9.2.1) Ar9.2.2 hin9 hat9 (g := (mkF m 48 #[.val (.ref ab), .val (.int ((ip <<< ((1 : Int32) &&& 31)) + (1 : Int32)))] [(.int ((ip <<< ((1 : Int32) &&& 31)) + (1 : Int32))), (.ref ab), (.int ((pu &&& (255 : Int32)) <<< ((0 : Int32) &&& 31)))])) rfl rfl (hb hby own_d_gch_48) _ ?_
      refine XS.sipush X6.here hx rfl (hb hby own_d_gch_49) ?_
      show Steps p.tables e below (T6.setTop (mkF m 52 #[.val (.ref ab), .val (.int ((ip <<< ((1 : Int32) &&& 31)) + (1 : Int32)))] [(.int 255), (.int pw), (.int ((pu &&& (255 : Int32)) <<< ((0 : Int32) &&& 31)))])) _
      refine XS.iand X6.here hx rfl (hb hby own_d_gch_52) rfl ?_
      exact kt)
  obtain ⟨T11, X11, e11, st11⟩ := getS2 X6 hx hZ hown (host := "") (Or.inl (hw _ (own_mG (i := 92) rfl))) Via.refl e6 (hst.2.2.2.2.1.ext O0.2) (g := (mkF m 53 #[.val (.ref ab), .val (.int ((ip <<< ((1 : Int32) &&& 31)) + (1 : Int32)))] [(.int (pw &&& (255 : Int32))), (.int ((pu &&& (255 : Int32)) <<< ((0 : Int32) &&& 31)))])) rfl (hb hby own_d_gch_53)
  have pre12 : Goes p e below s₁ (entryFrame m #[(.ref ab), (.int ip)] 2) T11 (mkF m 56 #[.val (.ref ab), .val (.int ((ip <<< ((1 : Int32) &&& 31)) + (1 : Int32)))] [(.int 8), (.int (pw &&& (255 : Int32))), (.int ((pu &&& (255 : Int32)) <<< ((0 : Int32) &&& 31)))]) := fun t kt => pre10 t (st11 t kt)
  have pre13 : Goes p e below s₁ (entryFrame m #[(.ref ab), (.int ip)] 2) T11 (mkF m 59 #[.val (.ref ab), .val (.int ((ip <<< ((1 : Int32) &&& 31)) + (1 : Int32)))] [(.int ((((pu &&& (255 : Int32)) <<< ((0 : Int32) &&& 31)) ||| ((pw &&& (255 : Int32)) <<< ((8 : Int32) &&& 31))).toUInt32.toUInt16.toUInt32.toInt32))]) := fun t kt => pre12 t (by
      show Steps p.tables e below (T11.setTop (mkF m 56 #[.val (.ref ab), .val (.int ((ip <<< ((1 : Int32) &&& 31)) + (1 : Int32)))] [(.int 8), (.int (pw &&& (255 : Int32))), (.int ((pu &&& (255 : Int32)) <<< ((0 : Int32) &&& 31)))])) _
      refine XS.ishl X11.here hx rfl (hb hby own_d_gch_56) rfl ?_
      refine XS.ior X11.here hx rfl (hb hby own_d_gch_57) rfl ?_
      show Steps p.tables e below (T11.setTop (mkF m 58 #[.val (.ref ab), .val (.int ((ip <<< ((1 : Int32) &&& 31)) + (1 : Int32)))] [(.int (((pu &&& (255 : Int32)) <<< ((0 : Int32) &&& 31)) ||| ((pw &&& (255 : Int32)) <<< ((8 : Int32) &&& 31))))])) _
      refine XS.i2c X11.here hx rfl (hb hby own_d_gch_58) rfl ?_
      exact kt)
  obtain ⟨fs, hr, hrun, hended, hW, hsame⟩ := X11.leave (v := some (.int (nar .char ((((pu &&& (255 : Int32)) <<< ((0 : Int32) &&& 31)) ||| ((pw &&& (255 : Int32)) <<< ((8 : Int32) &&& 31))).toUInt32.toUInt16.toUInt32.toInt32)))) (fun h => by rw [Bd.returns] at h; cases h)
  refine ⟨_, _, pre13 _ ?_, hrun, hended, _, _, rfl, ?_, ⟨_, rfl⟩, hW, hsame.mono (by decide) (by decide)⟩
  · show Steps p.tables e below (T11.setTop (mkF m 59 #[.val (.ref ab), .val (.int ((ip <<< ((1 : Int32) &&& 31)) + (1 : Int32)))] [(.int ((((pu &&& (255 : Int32)) <<< ((0 : Int32) &&& 31)) ||| ((pw &&& (255 : Int32)) <<< ((8 : Int32) &&& 31))).toUInt32.toUInt16.toUInt32.toInt32))])) _
    exact retN X11 hx (t := .char) Bd.returns (by simp) (hb hby own_d_gch_59) hr
  · show Q_own_gch Z ab ip pu pw cs fm h0 n0 _ T11.heap _
    rw [e11]
    exact ⟨rfl, N0, rfl⟩
theorem own_d_uca_0 : decode jdk_52_method_83_code 0 = .ok (.iload_n 1, 1) := by decide +kernel
theorem own_d_uca_1 : decode jdk_52_method_83_code 1 = .ok (.aload_n 0, 1) := by decide +kernel
theorem own_d_uca_2 : decode jdk_52_method_83_code 2 = .ok (.invokestatic 67, 3) := by decide +kernel
theorem own_d_uca_5 : decode jdk_52_method_83_code 5 = .ok (.aload_n 0, 1) := by decide +kernel
theorem own_d_uca_6 : decode jdk_52_method_83_code 6 = .ok (.iload_n 1, 1) := by decide +kernel
theorem own_d_uca_7 : decode jdk_52_method_83_code 7 = .ok (.invokestatic 71, 3) := by decide +kernel
theorem own_d_uca_10 : decode jdk_52_method_83_code 10 = .ok (.ireturn, 1) := by decide +kernel
theorem own_pn_own_uca : plainName "java/lang/StringUTF16" = true := by first | (simp [plainName, overriddenIn]; done) | decide +kernel
theorem own_ef_own_uca (m : MethodId) (x0 : Addr) (x1 : Int32) : entryFrame m #[(.ref x0), (.int x1)] 2 = mkF m 0 #[.val (.ref x0), .val (.int x1)] [] := by first | (simp [entryFrame, mkF, argsToLocals, Value.category]; done) | rfl
def Q_own_uca (Z : State) (ab : Addr) (ip : Int32) (zn : Int32) (pu : Int32) (pw : Int32) (vz : Int32) (cs : Int32) (fm : Value) (h0 : Heap) (n0 : Nat) (v : Option Value) (h : Heap) (L : List Loc) : Prop := v = some (.int vz) ∧ Fr n0 L ∧ h = h0
set_option maxRecDepth 65536 in
set_option maxHeartbeats 40000000 in
theorem own_uca (l : Launch) (Z : State) (a0 : Array Value) (hw : ∀ d ∈ tables_1, d.before a0 Z = true) (ws : List Jvm.Cond) (ab : Addr) (ip : Int32) (zn : Int32) (pu : Int32) (pw : Int32) (vz : Int32) (cs : Int32) (fm : Value) (h0 : Heap) (n0 : Nat) (Z0 : n0 ≤ h0.size) (Ln : own_Ln Z h0 ab zn) (A0 : own_At Z h0 ab (ip <<< ((1 : Int32) &&& 31)) pu) (A1 : own_At Z h0 ab ((ip <<< ((1 : Int32) &&& 31)) + (1 : Int32)) pw) (hi : ¬ (ip < (0 : Int32))) (hj : ip < (zn >>> ((1 : Int32) &&& 31))) (hg : nar .char (own_GC pu pw) = vz) (hst : own_ST Z cs fm) (O0 : Old Z n0 h0) :
    MetFree l (⟨"java/lang/StringUTF16", "charAt", "([BI)C"⟩ : MethodName) (head1 (Jvm.Cond.code (⟨"java/lang/StringUTF16", "charAt", "([BI)C"⟩ : MethodName) jdk_52_method_83_code 2 (some .char) :: ws) ({ frames := 3, cells := 0, slots := 0, locals := 40 } : Room)) (fun a U => a = #[(.ref ab), (.int ip)] ∧ Z.Warmed39 U.vm ∧ U.heap = h0) (fun _ _ _ _ _ => True) (fun _ U o U' => ∃ v L, o = .returned v ∧ Q_own_uca Z ab ip zn pu pw vz cs fm h0 n0 v U'.heap L ∧ FrameEnd U o U' L ({ frames := 3, cells := 0, slots := 0, locals := 40 } : Room).cells ({ frames := 3, cells := 0, slots := 0, locals := 40 } : Room).slots) := by
  refine MetFree.of_bodySF (plainFor_of_name own_pn_own_uca) hisR ?_
  intro p e s m args below meth c s₁ Bd hml0 hP hK
  obtain ⟨rfl, hZ, hh⟩ := hP
  have hx := Bd.exec
  have hby := Bd.bytes
  have hml : c.maxLocals = 2 := hml0
  have hown : s.vm.findClass "java/lang/StringUTF16" = some m.cls := findClass_of_methodNamed Bd.named
  have hnm := (name_of_methodNamed Bd.named Bd.method).1
  have X0 : Stand p l e ({ frames := 3, cells := 0, slots := 0, locals := 40 } : Room) s m #[(.ref ab), (.int ip)] below meth c s₁ [] 0 0 := Stand.of_body Bd
  have e0 : s₁.heap = h0 := by rw [← hh, Bd.state]; rfl
  have N0 := Fr.nil n0
  have pre0 : Goes p e below s₁ (entryFrame m #[(.ref ab), (.int ip)] 2) s₁ (mkF m 0 #[.val (.ref ab), .val (.int ip)] []) := fun t k => castTop (own_ef_own_uca m ab ip) k
  have pre1 : Goes p e below s₁ (entryFrame m #[(.ref ab), (.int ip)] 2) s₁ (mkF m 2 #[.val (.ref ab), .val (.int ip)] [(.ref ab), (.int ip)]) := fun t kt => pre0 t (by
      show Steps p.tables e below (s₁.setTop (mkF m 0 #[.val (.ref ab), .val (.int ip)] [])) _
      refine XS.iloadN X0.here hx rfl (hb hby own_d_uca_0) rfl ?_
      refine XS.aloadN X0.here hx rfl (hb hby own_d_uca_1) rfl rfl ?_
      exact kt)
  obtain ⟨_, _, ⟨T2, L2, k2, n2⟩, -, X2, ⟨Lc2, hQ2, l2, y2, z2⟩, st2⟩ := Jvm.LawKit.callS X0 hx (y := (⟨"java/lang/StringUTF16", "checkIndex", "(I[B)V"⟩ : MethodName)) hown (mvT hZ (hw _ (own_mG (i := 99) rfl))) (mvT hZ (hw _ (own_mG (i := 100) rfl))) (mvT hZ (hw _ (own_mG (i := 44) rfl))) (mvT hZ (hw _ (own_mG (i := 101) rfl))) (by decide) (backOf (W := 0) (own_uci l Z a0 hw [] ip ab zn cs fm h0 n0 Z0 Ln hi hj hst O0) hZ (hw _ (own_mG (i := 101) rfl)) (hw _ (own_mG (i := 44) rfl)) (by decide) (by decide)) (g := (mkF m 2 #[.val (.ref ab), .val (.int ip)] [(.ref ab), (.int ip)])) rfl (by rw [hml]; rfl) (argsL := [(.int ip), (.ref ab)]) (rest := []) (lenOf own_pd5 rfl) rfl (by show 2 * 0 + _ ≤ _; exact Nat.le_of_eq rfl) (hb hby own_d_uca_2) (fun _ _ => ⟨rfl, e0, (by decide : 0 + 0 ≤ _), (by decide : 0 + 0 ≤ _)⟩)
  dsimp only [Pt.U, Pt.locs, Pt.cells, Pt.slots] at X2 l2 y2 z2 st2 hQ2
  subst l2 y2 z2
  obtain ⟨rfl, N2q, e2⟩ := hQ2
  have N2 := Fr.app N0 N2q
  have pre3 : Goes p e below s₁ (entryFrame m #[(.ref ab), (.int ip)] 2) T2 (mkF m 5 #[.val (.ref ab), .val (.int ip)] []) := fun t kt => pre1 t (st2 t kt)
  have pre4 : Goes p e below s₁ (entryFrame m #[(.ref ab), (.int ip)] 2) T2 (mkF m 7 #[.val (.ref ab), .val (.int ip)] [(.int ip), (.ref ab)]) := fun t kt => pre3 t (by
      show Steps p.tables e below (T2.setTop (mkF m 5 #[.val (.ref ab), .val (.int ip)] [])) _
      refine XS.aloadN X2.here hx rfl (hb hby own_d_uca_5) rfl rfl ?_
      refine XS.iloadN X2.here hx rfl (hb hby own_d_uca_6) rfl ?_
      exact kt)
  obtain ⟨_, _, ⟨T5, L5, k5, n5⟩, -, X5, ⟨Lc5, hQ5, l5, y5, z5⟩, st5⟩ := Jvm.LawKit.callS X2 hx (y := (⟨"java/lang/StringUTF16", "getChar", "([BI)C"⟩ : MethodName)) hown (mvT hZ (hw _ (own_mG (i := 93) rfl))) (mvT hZ (hw _ (own_mG (i := 94) rfl))) (mvT hZ (hw _ (own_mG (i := 44) rfl))) (mvT hZ (hw _ (own_mG (i := 95) rfl))) (by decide) (backOf (W := 0) (own_gch l Z a0 hw [] ab ip pu pw cs fm h0 n0 Z0 A0 A1 hst O0) hZ (hw _ (own_mG (i := 95) rfl)) (hw _ (own_mG (i := 44) rfl)) (by decide) (by decide)) (g := (mkF m 7 #[.val (.ref ab), .val (.int ip)] [(.int ip), (.ref ab)])) rfl (by rw [hml]; rfl) (argsL := [(.ref ab), (.int ip)]) (rest := []) (lenOf own_pd6 rfl) rfl (by show 2 * 0 + _ ≤ _; exact Nat.le_of_eq rfl) (hb hby own_d_uca_7) (fun _ _ => ⟨rfl, e2, (by decide : 0 + 0 ≤ _), (by decide : 0 + 0 ≤ _)⟩)
  dsimp only [Pt.U, Pt.locs, Pt.cells, Pt.slots] at X5 l5 y5 z5 st5 hQ5
  subst l5 y5 z5
  obtain ⟨rfl, N5q, e5⟩ := hQ5
  have N5 := Fr.app N2 N5q
  have pre6 : Goes p e below s₁ (entryFrame m #[(.ref ab), (.int ip)] 2) T5 (mkF m 10 #[.val (.ref ab), .val (.int ip)] [(.int (nar .char (own_GC pu pw)))]) := fun t kt => pre4 t (st5 t kt)
  obtain ⟨fs, hr, hrun, hended, hW, hsame⟩ := X5.leave (v := some (.int (nar .char (nar .char (own_GC pu pw))))) (fun h => by rw [Bd.returns] at h; cases h)
  refine ⟨_, _, pre6 _ ?_, hrun, hended, _, _, rfl, ?_, ⟨_, rfl⟩, hW, hsame.mono (by decide) (by decide)⟩
  · show Steps p.tables e below (T5.setTop (mkF m 10 #[.val (.ref ab), .val (.int ip)] [(.int (nar .char (own_GC pu pw)))])) _
    exact retN X5 hx (t := .char) Bd.returns (by simp) (hb hby own_d_uca_10) hr
  · show Q_own_uca Z ab ip zn pu pw vz cs fm h0 n0 _ T5.heap _
    rw [e5]
    exact ⟨by rw [own_nc _ (own_ncr _), hg], N5, rfl⟩
theorem own_d_sch_0 : decode jdk_42_method_56_code 0 = .ok (.aload_n 0, 1) := by decide +kernel
theorem own_d_sch_1 : decode jdk_42_method_56_code 1 = .ok (.invokevirtual 492, 3) := by decide +kernel
theorem own_d_sch_4 : decode jdk_42_method_56_code 4 = .ok (.ifCond .eq 12, 3) := by decide +kernel
theorem own_d_sch_7 : decode jdk_42_method_56_code 7 = .ok (.aload_n 0, 1) := by decide +kernel
theorem own_d_sch_8 : decode jdk_42_method_56_code 8 = .ok (.getfield 9, 3) := by decide +kernel
theorem own_d_sch_11 : decode jdk_42_method_56_code 11 = .ok (.iload_n 1, 1) := by decide +kernel
theorem own_d_sch_12 : decode jdk_42_method_56_code 12 = .ok (.invokestatic 495, 3) := by decide +kernel
theorem own_d_sch_15 : decode jdk_42_method_56_code 15 = .ok (.ireturn, 1) := by decide +kernel
theorem own_d_sch_16 : decode jdk_42_method_56_code 16 = .ok (.aload_n 0, 1) := by decide +kernel
theorem own_d_sch_17 : decode jdk_42_method_56_code 17 = .ok (.getfield 9, 3) := by decide +kernel
theorem own_d_sch_20 : decode jdk_42_method_56_code 20 = .ok (.iload_n 1, 1) := by decide +kernel
theorem own_d_sch_21 : decode jdk_42_method_56_code 21 = .ok (.invokestatic 498, 3) := by decide +kernel
theorem own_d_sch_24 : decode jdk_42_method_56_code 24 = .ok (.ireturn, 1) := by decide +kernel
theorem own_pn_own_sch : plainName "java/lang/String" = true := by first | (simp [plainName, overriddenIn]; done) | decide +kernel
theorem own_ef_own_sch (m : MethodId) (x0 : Addr) (x1 : Int32) : entryFrame m #[(.ref x0), (.int x1)] 2 = mkF m 0 #[.val (.ref x0), .val (.int x1)] [] := by first | (simp [entryFrame, mkF, argsToLocals, Value.category]; done) | rfl
def Q_own_sch (Z : State) (a1 : Addr) (cd : Int32) (y : Addr) (ip : Int32) (vz : Int32) (cs : Int32) (fm : Value) (h0 : Heap) (n0 : Nat) (v : Option Value) (h : Heap) (L : List Loc) : Prop := v = some (.int vz) ∧ Fr n0 L ∧ h = h0
set_option maxRecDepth 65536 in
set_option maxHeartbeats 40000000 in
theorem own_sch (l : Launch) (Z : State) (a0 : Array Value) (hw : ∀ d ∈ tables_1, d.before a0 Z = true) (ws : List Jvm.Cond) (a1 : Addr) (cd : Int32) (y : Addr) (ip : Int32) (vz : Int32) (cs : Int32) (fm : Value) (h0 : Heap) (n0 : Nat) (Z0 : n0 ≤ h0.size) (E_a1 : Exa Z h0 a1 "java/lang/String") (Fc : Fld Z h0 a1 "java/lang/String" "coder" "B" (.int cd)) (Fv : Fld Z h0 a1 "java/lang/String" "value" "[B" (.ref y)) (RDy : own_RD Z h0 y cd ip vz) (hi : ¬ (ip < (0 : Int32))) (hst : own_ST Z cs fm) (O0 : Old Z n0 h0) :
    MetFree l (⟨"java/lang/String", "charAt", "(I)C"⟩ : MethodName) (head1 (Jvm.Cond.code (⟨"java/lang/String", "charAt", "(I)C"⟩ : MethodName) jdk_42_method_56_code 2 (some .char) :: ws) ({ frames := 4, cells := 0, slots := 0, locals := 53 } : Room)) (fun a U => a = #[(.ref a1), (.int ip)] ∧ Z.Warmed39 U.vm ∧ U.heap = h0) (fun _ _ _ _ _ => True) (fun _ U o U' => ∃ v L, o = .returned v ∧ Q_own_sch Z a1 cd y ip vz cs fm h0 n0 v U'.heap L ∧ FrameEnd U o U' L ({ frames := 4, cells := 0, slots := 0, locals := 53 } : Room).cells ({ frames := 4, cells := 0, slots := 0, locals := 53 } : Room).slots) := by
  refine MetFree.of_bodySF (plainFor_of_name own_pn_own_sch) hisR ?_
  intro p e s m args below meth c s₁ Bd hml0 hP hK
  obtain ⟨rfl, hZ, hh⟩ := hP
  have hx := Bd.exec
  have hby := Bd.bytes
  have hml : c.maxLocals = 2 := hml0
  have hown : s.vm.findClass "java/lang/String" = some m.cls := findClass_of_methodNamed Bd.named
  have hnm := (name_of_methodNamed Bd.named Bd.method).1
  have X0 : Stand p l e ({ frames := 4, cells := 0, slots := 0, locals := 53 } : Room) s m #[(.ref a1), (.int ip)] below meth c s₁ [] 0 0 := Stand.of_body Bd
  have e0 : s₁.heap = h0 := by rw [← hh, Bd.state]; rfl
  have N0 := Fr.nil n0
  have pre0 : Goes p e below s₁ (entryFrame m #[(.ref a1), (.int ip)] 2) s₁ (mkF m 0 #[.val (.ref a1), .val (.int ip)] []) := fun t k => castTop (own_ef_own_sch m a1 ip) k
  have Fc0 := Fc
  rcases (id RDy) with ⟨hcd, zn, pu, Ln, At, hj, hg⟩ | ⟨hcd, zn, pu, pw, Ln, A0, A1, hj, hg⟩
  · -- coder 0
    rw [hcd] at Fc0
    have pre1 : Goes p e below s₁ (entryFrame m #[(.ref a1), (.int ip)] 2) s₁ (mkF m 1 #[.val (.ref a1), .val (.int ip)] [(.ref a1)]) := fun t kt => pre0 t (by
        show Steps p.tables e below (s₁.setTop (mkF m 0 #[.val (.ref a1), .val (.int ip)] [])) _
        refine XS.aloadN X0.here hx rfl (hb hby own_d_sch_0) rfl rfl ?_
        exact kt)
    obtain ⟨cq2, kq2, q2a, q2b, q2c⟩ := isOf hZ e0 E_a1
    obtain ⟨_, _, ⟨T2, L2, k2, n2⟩, -, X2, ⟨Lc2, hQ2, l2, y2, z2⟩, st2⟩ := X0.virtualBack hx (y := (⟨"java/lang/String", "isLatin1", "()Z"⟩ : MethodName)) (z := (⟨"java/lang/String", "isLatin1", "()Z"⟩ : MethodName)) hown (mvT hZ (hw _ (own_mG (i := 60) rfl))) (mvT hZ (hw _ (own_mG (i := 61) rfl))) (notFace_of_selects (args := #[]) (mvT hZ (hw _ (own_mG (i := 63) rfl)))) (mvT hZ (hw _ (own_mG (i := 63) rfl))) (mvT hZ (hw _ (own_mG (i := 62) rfl))) (by decide) (backOf (W := 0) (own_sil0 l Z a0 hw [] a1 cs fm h0 n0 Z0 Fc0 hst O0) hZ (hw _ (own_mG (i := 64) rfl)) (hw _ (own_mG (i := 7) rfl)) (by decide) (by decide)) q2a q2c (g := (mkF m 1 #[.val (.ref a1), .val (.int ip)] [(.ref a1)])) rfl (by rw [hml]; rfl) (Steps.refl _) (argsL := []) (rest := []) (lenOf own_pd7 rfl) rfl (by show 2 * 0 + _ ≤ _; exact Nat.le_of_eq rfl) (hb hby own_d_sch_1) (fun _ _ => ⟨rfl, e0, (by decide : 0 + 0 ≤ _), (by decide : 0 + 0 ≤ _)⟩)
    dsimp only [Pt.U, Pt.locs, Pt.cells, Pt.slots] at X2 l2 y2 z2 st2 hQ2
    subst l2 y2 z2
    obtain ⟨rfl, N2q, e2⟩ := hQ2
    have N2 := Fr.app N0 N2q
    have pre3 : Goes p e below s₁ (entryFrame m #[(.ref a1), (.int ip)] 2) T2 (mkF m 4 #[.val (.ref a1), .val (.int ip)] [(.int 1)]) := fun t kt => pre1 t (st2.trans kt)
    have pre4 : Goes p e below s₁ (entryFrame m #[(.ref a1), (.int ip)] 2) T2 (mkF m 8 #[.val (.ref a1), .val (.int ip)] [(.ref a1)]) := fun t kt => pre3 t (by
        show Steps p.tables e below (T2.setTop (mkF m 4 #[.val (.ref a1), .val (.int ip)] [(.int 1)])) _
        refine XS.ifNo X2.here hx rfl (hb hby own_d_sch_4) rfl ((if0 _ _).trans (feq (by decide : ¬ ((1 : Int32) = (0 : Int32)))).1) ?_
        refine XS.aloadN X2.here hx rfl (hb hby own_d_sch_7) rfl rfl ?_
        exact kt)
    obtain ⟨T5, X5, e5, st5⟩ := getF X2 hx hZ hown (host := "") (Or.inl (hw _ (own_mG (i := 25) rfl))) Via.refl e2 Fv (g := (mkF m 8 #[.val (.ref a1), .val (.int ip)] [(.ref a1)])) rfl rfl (hb hby own_d_sch_8)
    have pre6 : Goes p e below s₁ (entryFrame m #[(.ref a1), (.int ip)] 2) T5 (mkF m 11 #[.val (.ref a1), .val (.int ip)] [(.ref y)]) := fun t kt => pre4 t (st5 t kt)
    have pre7 : Goes p e below s₁ (entryFrame m #[(.ref a1), (.int ip)] 2) T5 (mkF m 12 #[.val (.ref a1), .val (.int ip)] [(.int ip), (.ref y)]) := fun t kt => pre6 t (by
        show Steps p.tables e below (T5.setTop (mkF m 11 #[.val (.ref a1), .val (.int ip)] [(.ref y)])) _
        refine XS.iloadN X5.here hx rfl (hb hby own_d_sch_11) rfl ?_
        exact kt)
    obtain ⟨_, _, ⟨T8, L8, k8, n8⟩, -, X8, ⟨Lc8, hQ8, l8, y8, z8⟩, st8⟩ := Jvm.LawKit.callS X5 hx (y := (⟨"java/lang/StringLatin1", "charAt", "([BI)C"⟩ : MethodName)) hown (mvT hZ (hw _ (own_mG (i := 65) rfl))) (mvT hZ (hw _ (own_mG (i := 66) rfl))) (mvT hZ (hw _ (own_mG (i := 67) rfl))) (mvT hZ (hw _ (own_mG (i := 68) rfl))) (by decide) (backOf (W := 0) (own_lca l Z a0 hw [] y ip zn pu cs fm h0 n0 Z0 Ln At hi hj hst O0) hZ (hw _ (own_mG (i := 68) rfl)) (hw _ (own_mG (i := 67) rfl)) (by decide) (by decide)) (g := (mkF m 12 #[.val (.ref a1), .val (.int ip)] [(.int ip), (.ref y)])) rfl (by rw [hml]; rfl) (argsL := [(.ref y), (.int ip)]) (rest := []) (lenOf own_pd6 rfl) rfl (by show 2 * 0 + _ ≤ _; exact Nat.le_of_eq rfl) (hb hby own_d_sch_12) (fun _ _ => ⟨rfl, e5, (by decide : 0 + 0 ≤ _), (by decide : 0 + 0 ≤ _)⟩)
    dsimp only [Pt.U, Pt.locs, Pt.cells, Pt.slots] at X8 l8 y8 z8 st8 hQ8
    subst l8 y8 z8
    obtain ⟨rfl, N8q, e8⟩ := hQ8
    have N8 := Fr.app N2 N8q
    have pre9 : Goes p e below s₁ (entryFrame m #[(.ref a1), (.int ip)] 2) T8 (mkF m 15 #[.val (.ref a1), .val (.int ip)] [(.int (nar .char (own_LC pu)))]) := fun t kt => pre7 t (st8 t kt)
    obtain ⟨fs, hr, hrun, hended, hW, hsame⟩ := X8.leave (v := some (.int (nar .char (nar .char (own_LC pu))))) (fun h => by rw [Bd.returns] at h; cases h)
    refine ⟨_, _, pre9 _ ?_, hrun, hended, _, _, rfl, ?_, ⟨_, rfl⟩, hW, hsame.mono (by decide) (by decide)⟩
    · show Steps p.tables e below (T8.setTop (mkF m 15 #[.val (.ref a1), .val (.int ip)] [(.int (nar .char (own_LC pu)))])) _
      exact retN X8 hx (t := .char) Bd.returns (by simp) (hb hby own_d_sch_15) hr
    · show Q_own_sch Z a1 cd y ip vz cs fm h0 n0 _ T8.heap _
      rw [e8]
      exact ⟨by rw [own_nc _ (own_ncr _), hg], N8, rfl⟩
  · -- coder 1
    rw [hcd] at Fc0
    have pre10 : Goes p e below s₁ (entryFrame m #[(.ref a1), (.int ip)] 2) s₁ (mkF m 1 #[.val (.ref a1), .val (.int ip)] [(.ref a1)]) := fun t kt => pre0 t (by
        show Steps p.tables e below (s₁.setTop (mkF m 0 #[.val (.ref a1), .val (.int ip)] [])) _
        refine XS.aloadN X0.here hx rfl (hb hby own_d_sch_0) rfl rfl ?_
        exact kt)
    obtain ⟨cq11, kq11, q11a, q11b, q11c⟩ := isOf hZ e0 E_a1
    obtain ⟨_, _, ⟨T11, L11, k11, n11⟩, -, X11, ⟨Lc11, hQ11, l11, y11, z11⟩, st11⟩ := X0.virtualBack hx (y := (⟨"java/lang/String", "isLatin1", "()Z"⟩ : MethodName)) (z := (⟨"java/lang/String", "isLatin1", "()Z"⟩ : MethodName)) hown (mvT hZ (hw _ (own_mG (i := 60) rfl))) (mvT hZ (hw _ (own_mG (i := 61) rfl))) (notFace_of_selects (args := #[]) (mvT hZ (hw _ (own_mG (i := 63) rfl)))) (mvT hZ (hw _ (own_mG (i := 63) rfl))) (mvT hZ (hw _ (own_mG (i := 62) rfl))) (by decide) (backOf (W := 0) (own_sil1 l Z a0 hw [] a1 cs fm h0 n0 Z0 Fc0 hst O0) hZ (hw _ (own_mG (i := 64) rfl)) (hw _ (own_mG (i := 7) rfl)) (by decide) (by decide)) q11a q11c (g := (mkF m 1 #[.val (.ref a1), .val (.int ip)] [(.ref a1)])) rfl (by rw [hml]; rfl) (Steps.refl _) (argsL := []) (rest := []) (lenOf own_pd7 rfl) rfl (by show 2 * 0 + _ ≤ _; exact Nat.le_of_eq rfl) (hb hby own_d_sch_1) (fun _ _ => ⟨rfl, e0, (by decide : 0 + 0 ≤ _), (by decide : 0 + 0 ≤ _)⟩)
    dsimp only [Pt.U, Pt.locs, Pt.cells, Pt.slots] at X11 l11 y11 z11 st11 hQ11
    subst l11 y11 z11
    obtain ⟨rfl, N11q, e11⟩ := hQ11
    have N11 := Fr.app N0 N11q
    have pre12 : Goes p e below s₁ (entryFrame m #[(.ref a1), (.int ip)] 2) T11 (mkF m 4 #[.val (.ref a1), .val (.int ip)] [(.int 0)]) := fun t kt => pre10 t (st11.trans kt)
    have pre13 : Goes p e below s₁ (entryFrame m #[(.ref a1), (.int ip)] 2) T11 (mkF m 17 #[.val (.ref a1), .val (.int ip)] [(.ref a1)]) := fun t kt => pre12 t (by
        show Steps p.tables e below (T11.setTop (mkF m 4 #[.val (.ref a1), .val (.int ip)] [(.int 0)])) _
        refine XS.ifYes X11.here hx rfl (pc0 := 4) (pc' := 16) rfl (hb hby own_d_sch_4) rfl ((if0 _ _).trans (teq (by decide : (0 : Int32) = (0 : Int32))).1) (by decide) (by decide) ?_
        refine XS.aloadN X11.here hx rfl (hb hby own_d_sch_16) rfl rfl ?_
        exact kt)
    obtain ⟨T14, X14, e14, st14⟩ := getF X11 hx hZ hown (host := "") (Or.inl (hw _ (own_mG (i := 25) rfl))) Via.refl e11 Fv (g := (mkF m 17 #[.val (.ref a1), .val (.int ip)] [(.ref a1)])) rfl rfl (hb hby own_d_sch_17)
    have pre15 : Goes p e below s₁ (entryFrame m #[(.ref a1), (.int ip)] 2) T14 (mkF m 20 #[.val (.ref a1), .val (.int ip)] [(.ref y)]) := fun t kt => pre13 t (st14 t kt)
    have pre16 : Goes p e below s₁ (entryFrame m #[(.ref a1), (.int ip)] 2) T14 (mkF m 21 #[.val (.ref a1), .val (.int ip)] [(.int ip), (.ref y)]) := fun t kt => pre15 t (by
        show Steps p.tables e below (T14.setTop (mkF m 20 #[.val (.ref a1), .val (.int ip)] [(.ref y)])) _
        refine XS.iloadN X14.here hx rfl (hb hby own_d_sch_20) rfl ?_
        exact kt)
    obtain ⟨_, _, ⟨T17, L17, k17, n17⟩, -, X17, ⟨Lc17, hQ17, l17, y17, z17⟩, st17⟩ := Jvm.LawKit.callS X14 hx (y := (⟨"java/lang/StringUTF16", "charAt", "([BI)C"⟩ : MethodName)) hown (mvT hZ (hw _ (own_mG (i := 96) rfl))) (mvT hZ (hw _ (own_mG (i := 97) rfl))) (mvT hZ (hw _ (own_mG (i := 44) rfl))) (mvT hZ (hw _ (own_mG (i := 98) rfl))) (by decide) (backOf (W := 0) (own_uca l Z a0 hw [] y ip zn pu pw vz cs fm h0 n0 Z0 Ln A0 A1 hi hj hg hst O0) hZ (hw _ (own_mG (i := 98) rfl)) (hw _ (own_mG (i := 44) rfl)) (by decide) (by decide)) (g := (mkF m 21 #[.val (.ref a1), .val (.int ip)] [(.int ip), (.ref y)])) rfl (by rw [hml]; rfl) (argsL := [(.ref y), (.int ip)]) (rest := []) (lenOf own_pd6 rfl) rfl (by show 2 * 0 + _ ≤ _; exact Nat.le_of_eq rfl) (hb hby own_d_sch_21) (fun _ _ => ⟨rfl, e14, (by decide : 0 + 0 ≤ _), (by decide : 0 + 0 ≤ _)⟩)
    dsimp only [Pt.U, Pt.locs, Pt.cells, Pt.slots] at X17 l17 y17 z17 st17 hQ17
    subst l17 y17 z17
    obtain ⟨rfl, N17q, e17⟩ := hQ17
    have N17 := Fr.app N11 N17q
    have pre18 : Goes p e below s₁ (entryFrame m #[(.ref a1), (.int ip)] 2) T17 (mkF m 24 #[.val (.ref a1), .val (.int ip)] [(.int vz)]) := fun t kt => pre16 t (st17 t kt)
    obtain ⟨fs, hr, hrun, hended, hW, hsame⟩ := X17.leave (v := some (.int (nar .char vz))) (fun h => by rw [Bd.returns] at h; cases h)
    refine ⟨_, _, pre18 _ ?_, hrun, hended, _, _, rfl, ?_, ⟨_, rfl⟩, hW, hsame.mono (by decide) (by decide)⟩
    · show Steps p.tables e below (T17.setTop (mkF m 24 #[.val (.ref a1), .val (.int ip)] [(.int vz)])) _
      exact retN X17 hx (t := .char) Bd.returns (by simp) (hb hby own_d_sch_24) hr
    · show Q_own_sch Z a1 cd y ip vz cs fm h0 n0 _ T17.heap _
      rw [e17]
      exact ⟨by rw [← hg, own_nc _ (own_ncr _)], N17, rfl⟩
theorem own_d_cin1_0 : decode jdk_52_method_21_code 0 = .ok (.iconst 0, 1) := by decide +kernel
theorem own_d_cin1_1 : decode jdk_52_method_21_code 1 = .ok (.istore 5, 2) := by decide +kernel
theorem own_d_cin1_3 : decode jdk_52_method_21_code 3 = .ok (.iload 5, 2) := by decide +kernel
theorem own_d_cin1_5 : decode jdk_52_method_21_code 5 = .ok (.iload 4, 2) := by decide +kernel
theorem own_d_cin1_7 : decode jdk_52_method_21_code 7 = .ok (.if_icmp .ge 37, 3) := by decide +kernel
theorem own_d_cin1_10 : decode jdk_52_method_21_code 10 = .ok (.aload_n 0, 1) := by decide +kernel
theorem own_d_cin1_11 : decode jdk_52_method_21_code 11 = .ok (.iload_n 1, 1) := by decide +kernel
theorem own_d_cin1_12 : decode jdk_52_method_21_code 12 = .ok (.caload, 1) := by decide +kernel
theorem own_d_cin1_13 : decode jdk_52_method_21_code 13 = .ok (.istore 6, 2) := by decide +kernel
theorem own_d_cin1_15 : decode jdk_52_method_21_code 15 = .ok (.iload 6, 2) := by decide +kernel
theorem own_d_cin1_17 : decode jdk_52_method_21_code 17 = .ok (.sipush 255, 3) := by decide +kernel
theorem own_d_cin1_20 : decode jdk_52_method_21_code 20 = .ok (.if_icmp .le 6, 3) := by decide +kernel
theorem own_d_cin1_23 : decode jdk_52_method_21_code 23 = .ok (.iload 5, 2) := by decide +kernel
theorem own_d_cin1_25 : decode jdk_52_method_21_code 25 = .ok (.ireturn, 1) := by decide +kernel
theorem own_d_cin1_26 : decode jdk_52_method_21_code 26 = .ok (.aload_n 2, 1) := by decide +kernel
theorem own_d_cin1_27 : decode jdk_52_method_21_code 27 = .ok (.iload_n 3, 1) := by decide +kernel
theorem own_d_cin1_28 : decode jdk_52_method_21_code 28 = .ok (.iload 6, 2) := by decide +kernel
theorem own_d_cin1_30 : decode jdk_52_method_21_code 30 = .ok (.i2b, 1) := by decide +kernel
theorem own_d_cin1_31 : decode jdk_52_method_21_code 31 = .ok (.bastore, 1) := by decide +kernel
theorem own_d_cin1_32 : decode jdk_52_method_21_code 32 = .ok (.iinc 1 1, 3) := by decide +kernel
theorem own_d_cin1_35 : decode jdk_52_method_21_code 35 = .ok (.iinc 3 1, 3) := by decide +kernel
theorem own_d_cin1_38 : decode jdk_52_method_21_code 38 = .ok (.iinc 5 1, 3) := by decide +kernel
theorem own_d_cin1_41 : decode jdk_52_method_21_code 41 = .ok (.goto (-38), 3) := by decide +kernel
theorem own_d_cin1_44 : decode jdk_52_method_21_code 44 = .ok (.iload 4, 2) := by decide +kernel
theorem own_d_cin1_46 : decode jdk_52_method_21_code 46 = .ok (.ireturn, 1) := by decide +kernel
theorem own_pn_own_cin1 : plainName "java/lang/StringUTF16" = true := by first | (simp [plainName, overriddenIn]; done) | decide +kernel
theorem own_ef_own_cin1 (m : MethodId) (x0 : Addr) (x1 : Int32) (x2 : Addr) (x3 : Int32) (x4 : Int32) : entryFrame m #[(.ref x0), (.int x1), (.ref x2), (.int x3), (.int x4)] 7 = mkF m 0 #[.val (.ref x0), .val (.int x1), .val (.ref x2), .val (.int x3), .val (.int x4), .unset, .unset] [] := by first | (simp [entryFrame, mkF, argsToLocals, Value.category]; done) | rfl
def Q_own_cin1 (Z : State) (ac : Addr) (ab : Addr) (kc : ClassId) (kb : ClassId) (v0 : Int32) (h0 : Heap) (n0 : Nat) (v : Option Value) (h : Heap) (L : List Loc) : Prop := ∃ z : Int32, v = some (.int z) ∧ Fr n0 L ∧ Keep h0 h [ab] ∧ ((z = (1 : Int32) ∧ (¬ ((255 : Int32) < v0)) ∧ Arv Z h ab kb .byte (1 : Int32) [(.int (own_by v0))] (.int 0)) ∨ (z = (0 : Int32) ∧ (255 : Int32) < v0))
set_option maxRecDepth 65536 in
set_option maxHeartbeats 40000000 in
theorem own_cin1 (l : Launch) (Z : State) (a0 : Array Value) (hw : ∀ d ∈ tables_1, d.before a0 Z = true) (ws : List Jvm.Cond) (ac : Addr) (ab : Addr) (kc : ClassId) (kb : ClassId) (v0 : Int32) (h0 : Heap) (n0 : Nat) (Z0 : n0 ≤ h0.size) (V_ac : Arv Z h0 ac kc .char (1 : Int32) [(.int v0)] (.int 0)) (V_ab : Arv Z h0 ab kb .byte (1 : Int32) [(.int 0)] (.int 0)) (g_ab : n0 ≤ ab) (nab : ac ≠ ab) :
    MetFree l (⟨"java/lang/StringUTF16", "compress", "([CI[BII)I"⟩ : MethodName) (head1 (Jvm.Cond.code (⟨"java/lang/StringUTF16", "compress", "([CI[BII)I"⟩ : MethodName) jdk_52_method_21_code 7 (some .int) :: ws) ({ frames := 0, cells := 0, slots := 0, locals := 0 } : Room)) (fun a U => a = #[(.ref ac), (.int 0), (.ref ab), (.int 0), (.int 1)] ∧ Z.Warmed39 U.vm ∧ U.heap = h0) (fun _ _ _ _ _ => True) (fun _ U o U' => ∃ v L, o = .returned v ∧ Q_own_cin1 Z ac ab kc kb v0 h0 n0 v U'.heap L ∧ FrameEnd U o U' L ({ frames := 0, cells := 0, slots := 0, locals := 0 } : Room).cells ({ frames := 0, cells := 0, slots := 0, locals := 0 } : Room).slots) := by
  refine MetFree.of_bodySF (plainFor_of_name own_pn_own_cin1) hisR ?_
  intro p e s m args below meth c s₁ Bd hml0 hP hK
  obtain ⟨rfl, hZ, hh⟩ := hP
  have hx := Bd.exec
  have hby := Bd.bytes
  have hml : c.maxLocals = 7 := hml0
  have hown : s.vm.findClass "java/lang/StringUTF16" = some m.cls := findClass_of_methodNamed Bd.named
  have hnm := (name_of_methodNamed Bd.named Bd.method).1
  have X0 : Stand p l e ({ frames := 0, cells := 0, slots := 0, locals := 0 } : Room) s m #[(.ref ac), (.int 0), (.ref ab), (.int 0), (.int 1)] below meth c s₁ [] 0 0 := Stand.of_body Bd
  have e0 : s₁.heap = h0 := by rw [← hh, Bd.state]; rfl
  have N0 := Fr.nil n0
  have pre0 : Goes p e below s₁ (entryFrame m #[(.ref ac), (.int 0), (.ref ab), (.int 0), (.int 1)] 7) s₁ (mkF m 0 #[.val (.ref ac), .val (.int 0), .val (.ref ab), .val (.int 0), .val (.int 1), .unset, .unset] []) := fun t k => castTop (own_ef_own_cin1 m ac (0 : Int32) ab (0 : Int32) (1 : Int32)) k
  have pre1 : Goes p e below s₁ (entryFrame m #[(.ref ac), (.int 0), (.ref ab), (.int 0), (.int 1)] 7) s₁ (mkF m 12 #[.val (.ref ac), .val (.int 0), .val (.ref ab), .val (.int 0), .val (.int 1), .val (.int 0), .unset] [(.int 0), (.ref ac)]) := fun t kt => pre0 t (by
      show Steps p.tables e below (s₁.setTop (mkF m 0 #[.val (.ref ac), .val (.int 0), .val (.ref ab), .val (.int 0), .val (.int 1), .unset, .unset] [])) _
      refine XS.iconst X0.here hx rfl (hb hby own_d_cin1_0) ?_
      refine XS.istore X0.here hx rfl (hb hby own_d_cin1_1) rfl (l' := #[.val (.ref ac), .val (.int 0), .val (.ref ab), .val (.int 0), .val (.int 1), .val (.int 0), .unset]) rfl ?_
      show Steps p.tables e below (s₁.setTop (mkF m 3 #[.val (.ref ac), .val (.int 0), .val (.ref ab), .val (.int 0), .val (.int 1), .val (.int 0), .unset] [])) _
      refine XS.iload X0.here hx rfl (hb hby own_d_cin1_3) rfl ?_
      refine XS.iload X0.here hx rfl (hb hby own_d_cin1_5) rfl ?_
      show Steps p.tables e below (s₁.setTop (mkF m 7 #[.val (.ref ac), .val (.int 0), .val (.ref ab), .val (.int 0), .val (.int 1), .val (.int 0), .unset] [(.int 1), (.int 0)])) _
      refine XS.icmpNo X0.here hx rfl (hb hby own_d_cin1_7) rfl (tlt (by decide : (0 : Int32) < (1 : Int32))).2.1 ?_
      refine XS.aloadN X0.here hx rfl (hb hby own_d_cin1_10) rfl rfl ?_
      show Steps p.tables e below (s₁.setTop (mkF m 11 #[.val (.ref ac), .val (.int 0), .val (.ref ab), .val (.int 0), .val (.int 1), .val (.int 0), .unset] [(.ref ac)])) _
      refine XS.iloadN X0.here hx rfl (hb hby own_d_cin1_11) rfl ?_
      exact kt)
  obtain ⟨cl2, Ar2, q2, S2, N_2, H2, G2⟩ := (id (V_ac))
  have hin2 : ¬ ((0 : Int32) < 0 ∨ cl2.slots.size ≤ ((0 : Int32)).toNatClampNeg) := inb_of S2 ⟨by decide, by decide⟩
  have hat2 : cl2.slots[((0 : Int32)).toNatClampNeg]? = some (.int v0) := Has.at H2 hin2 rfl
  have pre3 : Goes p e below s₁ (entryFrame m #[(.ref ac), (.int 0), (.ref ab), (.int 0), (.int 1)] 7) s₁ (mkF m 20 #[.val (.ref ac), .val (.int 0), .val (.ref ab), .val (.int 0), .val (.int 1), .val (.int 0), .val (.int v0)] [(.int 255), (.int v0)]) := fun t kt => pre1 t (by
      show Steps p.tables e below (s₁.setTop (mkF m 12 #[.val (.ref ac), .val (.int 0), .val (.ref ab), .val (.int 0), .val (.int 1), .val (.int 0), .unset] [(.int 0), (.ref ac)])) _
      refine X0.caload hx (j := (0 : Int32)) (v := (.int v0)) (by (try rw [e0]); exact Ar2.1) (State.isArrayOf_alike hZ.alike Ar2.2.1) Ar2.2.2 hin2 hat2 (g := (mkF m 12 #[.val (.ref ac), .val (.int 0), .val (.ref ab), .val (.int 0), .val (.int 1), .val (.int 0), .unset] [(.int 0), (.ref ac)])) rfl rfl (hb hby own_d_cin1_12) _ ?_
      refine XS.istore X0.here hx rfl (hb hby own_d_cin1_13) rfl (l' := #[.val (.ref ac), .val (.int 0), .val (.ref ab), .val (.int 0), .val (.int 1), .val (.int 0), .val (.int v0)]) rfl ?_
      show Steps p.tables e below (s₁.setTop (mkF m 15 #[.val (.ref ac), .val (.int 0), .val (.ref ab), .val (.int 0), .val (.int 1), .val (.int 0), .val (.int v0)] [])) _
      refine XS.iload X0.here hx rfl (hb hby own_d_cin1_15) rfl ?_
      refine XS.sipush X0.here hx rfl (hb hby own_d_cin1_17) ?_
      exact kt)
  by_cases hc20_4 : (255 : Int32) < v0
  · -- yes at pc 20: f
    have pre5 : Goes p e below s₁ (entryFrame m #[(.ref ac), (.int 0), (.ref ab), (.int 0), (.int 1)] 7) s₁ (mkF m 25 #[.val (.ref ac), .val (.int 0), .val (.ref ab), .val (.int 0), .val (.int 1), .val (.int 0), .val (.int v0)] [(.int 0)]) := fun t kt => pre3 t (by
        show Steps p.tables e below (s₁.setTop (mkF m 20 #[.val (.ref ac), .val (.int 0), .val (.ref ab), .val (.int 0), .val (.int 1), .val (.int 0), .val (.int v0)] [(.int 255), (.int v0)])) _
        refine XS.icmpNo X0.here hx rfl (hb hby own_d_cin1_20) rfl (tlt hc20_4).2.2.2 ?_
        refine XS.iload X0.here hx rfl (hb hby own_d_cin1_23) rfl ?_
        exact kt)
    obtain ⟨fs, hr, hrun, hended, hW, hsame⟩ := X0.leave (v := some (.int 0)) (fun h => by rw [Bd.returns] at h; cases h)
    refine ⟨_, _, pre5 _ ?_, hrun, hended, _, _, rfl, ?_, ⟨_, rfl⟩, hW, hsame.mono (by decide) (by decide)⟩
    · show Steps p.tables e below (s₁.setTop (mkF m 25 #[.val (.ref ac), .val (.int 0), .val (.ref ab), .val (.int 0), .val (.int 1), .val (.int 0), .val (.int v0)] [(.int 0)])) _
      exact retI X0 hx Bd.returns (hb hby own_d_cin1_25) hr
    · show Q_own_cin1 Z ac ab kc kb v0 h0 n0 _ s₁.heap _
      rw [e0]
      exact ⟨_, rfl, N0, (Keep.refl h0 [ab]), (Or.inr (⟨rfl, hc20_4⟩))⟩
  · -- no at pc 20: f
    have pre6 : Goes p e below s₁ (entryFrame m #[(.ref ac), (.int 0), (.ref ab), (.int 0), (.int 1)] 7) s₁ (mkF m 31 #[.val (.ref ac), .val (.int 0), .val (.ref ab), .val (.int 0), .val (.int 1), .val (.int 0), .val (.int v0)] [(.int (v0.toInt8.toInt32)), (.int 0), (.ref ab)]) := fun t kt => pre3 t (by
        show Steps p.tables e below (s₁.setTop (mkF m 20 #[.val (.ref ac), .val (.int 0), .val (.ref ab), .val (.int 0), .val (.int 1), .val (.int 0), .val (.int v0)] [(.int 255), (.int v0)])) _
        refine XS.icmpYes X0.here hx rfl (pc0 := 20) (pc' := 26) rfl (hb hby own_d_cin1_20) rfl (flt hc20_4).2.2.2 (by decide) (by decide) ?_
        refine XS.aloadN X0.here hx rfl (hb hby own_d_cin1_26) rfl rfl ?_
        show Steps p.tables e below (s₁.setTop (mkF m 27 #[.val (.ref ac), .val (.int 0), .val (.ref ab), .val (.int 0), .val (.int 1), .val (.int 0), .val (.int v0)] [(.ref ab)])) _
        refine XS.iloadN X0.here hx rfl (hb hby own_d_cin1_27) rfl ?_
        refine XS.iload X0.here hx rfl (hb hby own_d_cin1_28) rfl ?_
        show Steps p.tables e below (s₁.setTop (mkF m 30 #[.val (.ref ac), .val (.int 0), .val (.ref ab), .val (.int 0), .val (.int 1), .val (.int 0), .val (.int v0)] [(.int v0), (.int 0), (.ref ab)])) _
        refine XS.i2b X0.here hx rfl (hb hby own_d_cin1_30) rfl ?_
        exact kt)
    obtain ⟨cl7, Ar7, q7, S7, N_7, H7, G7⟩ := (id (V_ab))
    have hin7 : ¬ ((0 : Int32) < 0 ∨ cl7.slots.size ≤ ((0 : Int32)).toNatClampNeg) := inb_of S7 ⟨by decide, by decide⟩
    obtain ⟨T8, h8, X8, e8, W8, st8⟩ := stB X0 hx hZ e0 Ar7 (j := (0 : Int32)) hin7 (g := (mkF m 31 #[.val (.ref ac), .val (.int 0), .val (.ref ab), .val (.int 0), .val (.int 1), .val (.int 0), .val (.int v0)] [(.int (v0.toInt8.toInt32)), (.int 0), (.ref ab)])) rfl rfl (hb hby own_d_cin1_31)
    have V8 : Arv Z h8 ab kb .byte (1 : Int32) [(.int (nar .byte (v0.toInt8.toInt32)))] (.int 0) := Arv.set Ar7 q7 S7 N_7 H7 G7 (fits_nar_byte _) W8 0 rfl (Nat.le_of_ble_eq_true rfl)
    have K8 : Keep h0 h8 [ab] := (Keep.refl h0 [ab]).wr W8 (Or.inl (own_mG (i := 0) rfl))
    have N8 := Fr.snoc X8 N0 g_ab
    have pre9 : Goes p e below s₁ (entryFrame m #[(.ref ac), (.int 0), (.ref ab), (.int 0), (.int 1)] 7) T8 (mkF m 32 #[.val (.ref ac), .val (.int 0), .val (.ref ab), .val (.int 0), .val (.int 1), .val (.int 0), .val (.int v0)] []) := fun t kt => pre6 t (st8 t kt)
    have pre10 : Goes p e below s₁ (entryFrame m #[(.ref ac), (.int 0), (.ref ab), (.int 0), (.int 1)] 7) T8 (mkF m 46 #[.val (.ref ac), .val (.int 1), .val (.ref ab), .val (.int 1), .val (.int 1), .val (.int 1), .val (.int v0)] [(.int 1)]) := fun t kt => pre9 t (by
        show Steps p.tables e below (T8.setTop (mkF m 32 #[.val (.ref ac), .val (.int 0), .val (.ref ab), .val (.int 0), .val (.int 1), .val (.int 0), .val (.int v0)] [])) _
        refine XS.iinc X8.here hx rfl (hb hby own_d_cin1_32) rfl (l' := #[.val (.ref ac), .val (.int 1), .val (.ref ab), .val (.int 0), .val (.int 1), .val (.int 0), .val (.int v0)]) rfl ?_
        refine XS.iinc X8.here hx rfl (hb hby own_d_cin1_35) rfl (l' := #[.val (.ref ac), .val (.int 1), .val (.ref ab), .val (.int 1), .val (.int 1), .val (.int 0), .val (.int v0)]) rfl ?_
        show Steps p.tables e below (T8.setTop (mkF m 38 #[.val (.ref ac), .val (.int 1), .val (.ref ab), .val (.int 1), .val (.int 1), .val (.int 0), .val (.int v0)] [])) _
        refine XS.iinc X8.here hx rfl (hb hby own_d_cin1_38) rfl (l' := #[.val (.ref ac), .val (.int 1), .val (.ref ab), .val (.int 1), .val (.int 1), .val (.int 1), .val (.int v0)]) rfl ?_
        refine XS.goto X8.here hx rfl (pc0 := 41) (pc' := 3) rfl (hb hby own_d_cin1_41) (by decide) (by decide) ?_
        show Steps p.tables e below (T8.setTop (mkF m 3 #[.val (.ref ac), .val (.int 1), .val (.ref ab), .val (.int 1), .val (.int 1), .val (.int 1), .val (.int v0)] [])) _
        refine XS.iload X8.here hx rfl (hb hby own_d_cin1_3) rfl ?_
        refine XS.iload X8.here hx rfl (hb hby own_d_cin1_5) rfl ?_
        show Steps p.tables e below (T8.setTop (mkF m 7 #[.val (.ref ac), .val (.int 1), .val (.ref ab), .val (.int 1), .val (.int 1), .val (.int 1), .val (.int v0)] [(.int 1), (.int 1)])) _
        refine XS.icmpYes X8.here hx rfl (pc0 := 7) (pc' := 44) rfl (hb hby own_d_cin1_7) rfl (flt (by decide : ¬ ((1 : Int32) < (1 : Int32)))).2.1 (by decide) (by decide) ?_
        refine XS.iload X8.here hx rfl (hb hby own_d_cin1_44) rfl ?_
        exact kt)
    obtain ⟨fs, hr, hrun, hended, hW, hsame⟩ := X8.leave (v := some (.int 1)) (fun h => by rw [Bd.returns] at h; cases h)
    refine ⟨_, _, pre10 _ ?_, hrun, hended, _, _, rfl, ?_, ⟨_, rfl⟩, hW, hsame.mono (by decide) (by decide)⟩
    · show Steps p.tables e below (T8.setTop (mkF m 46 #[.val (.ref ac), .val (.int 1), .val (.ref ab), .val (.int 1), .val (.int 1), .val (.int 1), .val (.int v0)] [(.int 1)])) _
      exact retI X8 hx Bd.returns (hb hby own_d_cin1_46) hr
    · show Q_own_cin1 Z ac ab kc kb v0 h0 n0 _ T8.heap _
      rw [e8]
      exact ⟨_, rfl, N8, K8, (Or.inl ⟨rfl, hc20_4, V8⟩)⟩
theorem own_d_nbl1_0 : decode jdk_52_method_3_code 0 = .ok (.iload_n 0, 1) := by decide +kernel
theorem own_d_nbl1_1 : decode jdk_52_method_3_code 1 = .ok (.ifCond .ge 11, 3) := by decide +kernel
theorem own_d_nbl1_12 : decode jdk_52_method_3_code 12 = .ok (.iload_n 0, 1) := by decide +kernel
theorem own_d_nbl1_13 : decode jdk_52_method_3_code 13 = .ok (.ldc 20, 2) := by decide +kernel
theorem own_d_nbl1_15 : decode jdk_52_method_3_code 15 = .ok (.if_icmp .lt 40, 3) := by decide +kernel
theorem own_d_nbl1_55 : decode jdk_52_method_3_code 55 = .ok (.iload_n 0, 1) := by decide +kernel
theorem own_d_nbl1_56 : decode jdk_52_method_3_code 56 = .ok (.iconst 1, 1) := by decide +kernel
theorem own_d_nbl1_57 : decode jdk_52_method_3_code 57 = .ok (.ishl, 1) := by decide +kernel
theorem own_d_nbl1_58 : decode jdk_52_method_3_code 58 = .ok (.ireturn, 1) := by decide +kernel
theorem own_pn_own_nbl1 : plainName "java/lang/StringUTF16" = true := by first | (simp [plainName, overriddenIn]; done) | decide +kernel
theorem own_ef_own_nbl1 (m : MethodId) (x0 : Int32) : entryFrame m #[(.int x0)] 1 = mkF m 0 #[.val (.int x0)] [] := by first | (simp [entryFrame, mkF, argsToLocals, Value.category]; done) | rfl
def Q_own_nbl1 (Z : State)  (h0 : Heap) (n0 : Nat) (v : Option Value) (h : Heap) (L : List Loc) : Prop := v = some (.int 2) ∧ Fr n0 L ∧ h = h0
set_option maxRecDepth 65536 in
set_option maxHeartbeats 40000000 in
theorem own_nbl1 (l : Launch) (Z : State) (a0 : Array Value) (hw : ∀ d ∈ tables_1, d.before a0 Z = true) (ws : List Jvm.Cond)  (h0 : Heap) (n0 : Nat) (Z0 : n0 ≤ h0.size) :
    MetFree l (⟨"java/lang/StringUTF16", "newBytesLength", "(I)I"⟩ : MethodName) (head1 (Jvm.Cond.code (⟨"java/lang/StringUTF16", "newBytesLength", "(I)I"⟩ : MethodName) jdk_52_method_3_code 1 (some .int) :: ws) ({ frames := 0, cells := 0, slots := 0, locals := 0 } : Room)) (fun a U => a = #[(.int 1)] ∧ Z.Warmed39 U.vm ∧ U.heap = h0) (fun _ _ _ _ _ => True) (fun _ U o U' => ∃ v L, o = .returned v ∧ Q_own_nbl1 Z  h0 n0 v U'.heap L ∧ FrameEnd U o U' L ({ frames := 0, cells := 0, slots := 0, locals := 0 } : Room).cells ({ frames := 0, cells := 0, slots := 0, locals := 0 } : Room).slots) := by
  refine MetFree.of_bodySF (plainFor_of_name own_pn_own_nbl1) hisR ?_
  intro p e s m args below meth c s₁ Bd hml0 hP hK
  obtain ⟨rfl, hZ, hh⟩ := hP
  have hx := Bd.exec
  have hby := Bd.bytes
  have hml : c.maxLocals = 1 := hml0
  have hown : s.vm.findClass "java/lang/StringUTF16" = some m.cls := findClass_of_methodNamed Bd.named
  have hnm := (name_of_methodNamed Bd.named Bd.method).1
  have X0 : Stand p l e ({ frames := 0, cells := 0, slots := 0, locals := 0 } : Room) s m #[(.int 1)] below meth c s₁ [] 0 0 := Stand.of_body Bd
  have e0 : s₁.heap = h0 := by rw [← hh, Bd.state]; rfl
  have N0 := Fr.nil n0
  have pre0 : Goes p e below s₁ (entryFrame m #[(.int 1)] 1) s₁ (mkF m 0 #[.val (.int 1)] []) := fun t k => castTop (own_ef_own_nbl1 m (1 : Int32)) k
  have pre1 : Goes p e below s₁ (entryFrame m #[(.int 1)] 1) s₁ (mkF m 58 #[.val (.int 1)] [(.int ((1 : Int32) <<< ((1 : Int32) &&& 31)))]) := fun t kt => pre0 t (by
      show Steps p.tables e below (s₁.setTop (mkF m 0 #[.val (.int 1)] [])) _
      refine XS.iloadN X0.here hx rfl (hb hby own_d_nbl1_0) rfl ?_
      refine XS.ifYes X0.here hx rfl (pc0 := 1) (pc' := 12) rfl (hb hby own_d_nbl1_1) rfl ((if0 _ _).trans (flt (by decide : ¬ ((1 : Int32) < (0 : Int32)))).2.1) (by decide) (by decide) ?_
      show Steps p.tables e below (s₁.setTop (mkF m 12 #[.val (.int 1)] [])) _
      refine XS.iloadN X0.here hx rfl (hb hby own_d_nbl1_12) rfl ?_
      refine X0.ldcInt hx hown (mvT hZ (hw _ (own_mG (i := 86) rfl))) (g := (mkF m 13 #[.val (.int 1)] [(.int 1)])) rfl (hb hby own_d_nbl1_13) _ ?_
      show Steps p.tables e below (s₁.setTop (mkF m 15 #[.val (.int 1)] [(.int 1073741823), (.int 1)])) _
      refine XS.icmpYes X0.here hx rfl (pc0 := 15) (pc' := 55) rfl (hb hby own_d_nbl1_15) rfl (tlt (by decide : (1 : Int32) < (1073741823 : Int32))).1 (by decide) (by decide) ?_
      refine XS.iloadN X0.here hx rfl (hb hby own_d_nbl1_55) rfl ?_
      show Steps p.tables e below (s₁.setTop (mkF m 56 #[.val (.int 1)] [(.int 1)])) _
      refine XS.iconst X0.here hx rfl (hb hby own_d_nbl1_56) ?_
      refine XS.ishl X0.here hx rfl (hb hby own_d_nbl1_57) rfl ?_
      exact kt)
  rw [show ((1 : Int32) <<< ((1 : Int32) &&& 31)) = (2 : Int32) from (by decide)] at pre1
  obtain ⟨fs, hr, hrun, hended, hW, hsame⟩ := X0.leave (v := some (.int 2)) (fun h => by rw [Bd.returns] at h; cases h)
  refine ⟨_, _, pre1 _ ?_, hrun, hended, _, _, rfl, ?_, ⟨_, rfl⟩, hW, hsame.mono (by decide) (by decide)⟩
  · show Steps p.tables e below (s₁.setTop (mkF m 58 #[.val (.int 1)] [(.int 2)])) _
    exact retI X0 hx Bd.returns (hb hby own_d_nbl1_58) hr
  · show Q_own_nbl1 Z  h0 n0 _ s₁.heap _
    rw [e0]
    exact ⟨rfl, N0, rfl⟩
theorem own_d_nbf1_0 : decode jdk_52_method_2_code 0 = .ok (.iload_n 0, 1) := by decide +kernel
theorem own_d_nbf1_1 : decode jdk_52_method_2_code 1 = .ok (.invokestatic 11, 3) := by decide +kernel
theorem own_d_nbf1_4 : decode jdk_52_method_2_code 4 = .ok (.newarray .byte, 2) := by decide +kernel
theorem own_d_nbf1_6 : decode jdk_52_method_2_code 6 = .ok (.areturn, 1) := by decide +kernel
theorem own_pn_own_nbf1 : plainName "java/lang/StringUTF16" = true := by first | (simp [plainName, overriddenIn]; done) | decide +kernel
theorem own_ef_own_nbf1 (m : MethodId) (x0 : Int32) : entryFrame m #[(.int x0)] 1 = mkF m 0 #[.val (.int x0)] [] := by first | (simp [entryFrame, mkF, argsToLocals, Value.category]; done) | rfl
def Q_own_nbf1 (Z : State)  (h0 : Heap) (n0 : Nat) (v : Option Value) (h : Heap) (L : List Loc) : Prop := ∃ (y : Addr) (ky : ClassId), v = some (.ref y) ∧ Fr n0 L ∧ Keep h0 h [] ∧ h0.size ≤ y ∧ n0 ≤ y ∧ Arv Z h y ky .byte (2 : Int32) [(.int 0), (.int 0)] (.int 0)
set_option maxRecDepth 65536 in
set_option maxHeartbeats 40000000 in
theorem own_nbf1 (l : Launch) (Z : State) (a0 : Array Value) (hw : ∀ d ∈ tables_1, d.before a0 Z = true) (ws : List Jvm.Cond)  (h0 : Heap) (n0 : Nat) (Z0 : n0 ≤ h0.size) :
    MetFree l (⟨"java/lang/StringUTF16", "newBytesFor", "(I)[B"⟩ : MethodName) (head1 (Jvm.Cond.code (⟨"java/lang/StringUTF16", "newBytesFor", "(I)[B"⟩ : MethodName) jdk_52_method_2_code 1 (some (.array .byte)) :: ws) ({ frames := 1, cells := 1, slots := 2, locals := 12 } : Room)) (fun a U => a = #[(.int 1)] ∧ Z.Warmed39 U.vm ∧ U.heap = h0) (fun _ _ _ _ _ => True) (fun _ U o U' => ∃ v L, o = .returned v ∧ Q_own_nbf1 Z  h0 n0 v U'.heap L ∧ FrameEnd U o U' L ({ frames := 1, cells := 1, slots := 2, locals := 12 } : Room).cells ({ frames := 1, cells := 1, slots := 2, locals := 12 } : Room).slots) := by
  refine MetFree.of_bodySF (plainFor_of_name own_pn_own_nbf1) hisR ?_
  intro p e s m args below meth c s₁ Bd hml0 hP hK
  obtain ⟨rfl, hZ, hh⟩ := hP
  have hx := Bd.exec
  have hby := Bd.bytes
  have hml : c.maxLocals = 1 := hml0
  have hown : s.vm.findClass "java/lang/StringUTF16" = some m.cls := findClass_of_methodNamed Bd.named
  have hnm := (name_of_methodNamed Bd.named Bd.method).1
  have X0 : Stand p l e ({ frames := 1, cells := 1, slots := 2, locals := 12 } : Room) s m #[(.int 1)] below meth c s₁ [] 0 0 := Stand.of_body Bd
  have e0 : s₁.heap = h0 := by rw [← hh, Bd.state]; rfl
  have N0 := Fr.nil n0
  have pre0 : Goes p e below s₁ (entryFrame m #[(.int 1)] 1) s₁ (mkF m 0 #[.val (.int 1)] []) := fun t k => castTop (own_ef_own_nbf1 m (1 : Int32)) k
  have pre1 : Goes p e below s₁ (entryFrame m #[(.int 1)] 1) s₁ (mkF m 1 #[.val (.int 1)] [(.int 1)]) := fun t kt => pre0 t (by
      show Steps p.tables e below (s₁.setTop (mkF m 0 #[.val (.int 1)] [])) _
      refine XS.iloadN X0.here hx rfl (hb hby own_d_nbf1_0) rfl ?_
      exact kt)
  obtain ⟨_, _, ⟨T2, L2, k2, n2⟩, -, X2, ⟨Lc2, hQ2, l2, y2, z2⟩, st2⟩ := Jvm.LawKit.callS X0 hx (y := (⟨"java/lang/StringUTF16", "newBytesLength", "(I)I"⟩ : MethodName)) hown (mvT hZ (hw _ (own_mG (i := 83) rfl))) (mvT hZ (hw _ (own_mG (i := 84) rfl))) (mvT hZ (hw _ (own_mG (i := 44) rfl))) (mvT hZ (hw _ (own_mG (i := 85) rfl))) (by decide) (backOf (W := 0) (own_nbl1 l Z a0 hw []  h0 n0 Z0 ) hZ (hw _ (own_mG (i := 85) rfl)) (hw _ (own_mG (i := 44) rfl)) (by decide) (by decide)) (g := (mkF m 1 #[.val (.int 1)] [(.int 1)])) rfl (by rw [hml]; rfl) (argsL := [(.int 1)]) (rest := []) (lenOf own_pd8 rfl) rfl (by show 2 * 0 + _ ≤ _; exact Nat.le_of_eq rfl) (hb hby own_d_nbf1_1) (fun _ _ => ⟨rfl, e0, (by decide : 0 + 0 ≤ _), (by decide : 0 + 0 ≤ _)⟩)
  dsimp only [Pt.U, Pt.locs, Pt.cells, Pt.slots] at X2 l2 y2 z2 st2 hQ2
  subst l2 y2 z2
  obtain ⟨rfl, N2q, e2⟩ := hQ2
  have N2 := Fr.app N0 N2q
  have pre3 : Goes p e below s₁ (entryFrame m #[(.int 1)] 1) T2 (mkF m 4 #[.val (.int 1)] [(.int 2)]) := fun t kt => pre1 t (st2 t kt)
  obtain ⟨T4, h4, k4, X4, e4, E4, A4, st4⟩ := newP X2 hx hZ (hw _ (own_mG (i := 20) rfl)) e2 (g := (mkF m 4 #[.val (.int 1)] [(.int 2)])) rfl (hb hby own_d_nbf1_4) rfl (by decide) (cap := 2) (by decide) (by decide) (by decide) (by decide)
  obtain ⟨b4, g4⟩ : ∃ z, z = h0.size := ⟨_, rfl⟩
  rw [← g4] at A4 st4
  have V_b4 : Arv Z h4 b4 k4 .byte (2 : Int32) [(.int 0), (.int 0)] (.int 0) := (Arv.new A4 (by decide)).pad (pad_rep [] (.int 0) 2)
  have g_b4 : n0 ≤ b4 := Nat.le_trans Z0 (Nat.le_of_eq g4.symm)
  have sz_b4 : h0.size ≤ b4 := (Nat.le_trans (Keep.refl h0 []).1 (Nat.le_of_eq g4.symm))
  have K4 : Keep h0 h4 [] := (Keep.refl h0 []).ext E4
  have pre5 : Goes p e below s₁ (entryFrame m #[(.int 1)] 1) T4 (mkF m 6 #[.val (.int 1)] [(.ref b4)]) := fun t kt => pre3 t (st4 t kt)
  obtain ⟨fs, hr, hrun, hended, hW, hsame⟩ := X4.leave (v := some (.ref b4)) (fun h => by rw [Bd.returns] at h; cases h)
  refine ⟨_, _, pre5 _ ?_, hrun, hended, _, _, rfl, ?_, ⟨_, rfl⟩, hW, hsame.mono (by decide) (by decide)⟩
  · show Steps p.tables e below (T4.setTop (mkF m 6 #[.val (.int 1)] [(.ref b4)])) _
    jvm_step X4.here [X4.here.top, hx, (hb hby own_d_nbf1_6), X4.method', Bd.returns, Value.isRef, FieldType.isReference]
    first | (intro acts; rw [hr _ acts rfl rfl rfl]) | rw [hr _ _ rfl rfl rfl]
    exact Steps.refl _
  · show Q_own_nbf1 Z  h0 n0 _ T4.heap _
    rw [e4]
    exact ⟨b4, k4, rfl, N2, K4, sz_b4, g_b4, V_b4⟩
theorem own_d_pch_0 : decode jdk_52_method_4_code 0 = .ok (.getstatic 44, 3) := by decide +kernel
theorem own_d_pch_3 : decode jdk_52_method_4_code 3 = .ok (.ifCond .ne 25, 3) := by decide +kernel
theorem own_d_pch_28 : decode jdk_52_method_4_code 28 = .ok (.iload_n 1, 1) := by decide +kernel
theorem own_d_pch_29 : decode jdk_52_method_4_code 29 = .ok (.iconst 1, 1) := by decide +kernel
theorem own_d_pch_30 : decode jdk_52_method_4_code 30 = .ok (.ishl, 1) := by decide +kernel
theorem own_d_pch_31 : decode jdk_52_method_4_code 31 = .ok (.istore_n 1, 1) := by decide +kernel
theorem own_d_pch_32 : decode jdk_52_method_4_code 32 = .ok (.aload_n 0, 1) := by decide +kernel
theorem own_d_pch_33 : decode jdk_52_method_4_code 33 = .ok (.iload_n 1, 1) := by decide +kernel
theorem own_d_pch_34 : decode jdk_52_method_4_code 34 = .ok (.iinc 1 1, 3) := by decide +kernel
theorem own_d_pch_37 : decode jdk_52_method_4_code 37 = .ok (.iload_n 2, 1) := by decide +kernel
theorem own_d_pch_38 : decode jdk_52_method_4_code 38 = .ok (.getstatic 59, 3) := by decide +kernel
theorem own_d_pch_41 : decode jdk_52_method_4_code 41 = .ok (.ishr, 1) := by decide +kernel
theorem own_d_pch_42 : decode jdk_52_method_4_code 42 = .ok (.i2b, 1) := by decide +kernel
theorem own_d_pch_43 : decode jdk_52_method_4_code 43 = .ok (.bastore, 1) := by decide +kernel
theorem own_d_pch_44 : decode jdk_52_method_4_code 44 = .ok (.aload_n 0, 1) := by decide +kernel
theorem own_d_pch_45 : decode jdk_52_method_4_code 45 = .ok (.iload_n 1, 1) := by decide +kernel
theorem own_d_pch_46 : decode jdk_52_method_4_code 46 = .ok (.iload_n 2, 1) := by decide +kernel
theorem own_d_pch_47 : decode jdk_52_method_4_code 47 = .ok (.getstatic 63, 3) := by decide +kernel
theorem own_d_pch_50 : decode jdk_52_method_4_code 50 = .ok (.ishr, 1) := by decide +kernel
theorem own_d_pch_51 : decode jdk_52_method_4_code 51 = .ok (.i2b, 1) := by decide +kernel
theorem own_d_pch_52 : decode jdk_52_method_4_code 52 = .ok (.bastore, 1) := by decide +kernel
theorem own_d_pch_53 : decode jdk_52_method_4_code 53 = .ok (.return_, 1) := by decide +kernel
theorem own_pn_own_pch : plainName "java/lang/StringUTF16" = true := by first | (simp [plainName, overriddenIn]; done) | decide +kernel
theorem own_ef_own_pch (m : MethodId) (x0 : Addr) (x1 : Int32) (x2 : Int32) : entryFrame m #[(.ref x0), (.int x1), (.int x2)] 3 = mkF m 0 #[.val (.ref x0), .val (.int x1), .val (.int x2)] [] := by first | (simp [entryFrame, mkF, argsToLocals, Value.category]; done) | rfl
def Q_own_pch (Z : State) (ab : Addr) (kb : ClassId) (zn : Int32) (us : List Value) (ip : Int32) (pv : Int32) (cs : Int32) (fm : Value) (h0 : Heap) (n0 : Nat) (v : Option Value) (h : Heap) (L : List Loc) : Prop := v = none ∧ Fr n0 L ∧ Keep h0 h [ab] ∧ Arv Z h ab kb .byte zn ((us.set (ip <<< ((1 : Int32) &&& 31)).toNatClampNeg (.int (own_B0 pv))).set ((ip <<< ((1 : Int32) &&& 31)) + (1 : Int32)).toNatClampNeg (.int (own_B1 pv))) (.int 0)
set_option maxRecDepth 65536 in
set_option maxHeartbeats 40000000 in
theorem own_pch (l : Launch) (Z : State) (a0 : Array Value) (hw : ∀ d ∈ tables_1, d.before a0 Z = true) (ws : List Jvm.Cond) (ab : Addr) (kb : ClassId) (zn : Int32) (us : List Value) (ip : Int32) (pv : Int32) (cs : Int32) (fm : Value) (h0 : Heap) (n0 : Nat) (Z0 : n0 ≤ h0.size) (V_ab : Arv Z h0 ab kb .byte zn us (.int 0)) (hj0 : ¬ (ip <<< ((1 : Int32) &&& 31)) < 0 ∧ (ip <<< ((1 : Int32) &&& 31)) < zn) (hl0 : (ip <<< ((1 : Int32) &&& 31)).toNatClampNeg < us.length) (hj1 : ¬ ((ip <<< ((1 : Int32) &&& 31)) + (1 : Int32)) < 0 ∧ ((ip <<< ((1 : Int32) &&& 31)) + (1 : Int32)) < zn) (hl1 : ((ip <<< ((1 : Int32) &&& 31)) + (1 : Int32)).toNatClampNeg < us.length) (g_ab : n0 ≤ ab) (hst : own_ST Z cs fm) (O0 : Old Z n0 h0) :
    MetFree l (⟨"java/lang/StringUTF16", "putChar", "([BII)V"⟩ : MethodName) (head1 (Jvm.Cond.code (⟨"java/lang/StringUTF16", "putChar", "([BII)V"⟩ : MethodName) jdk_52_method_4_code 3 none :: ws) ({ frames := 0, cells := 0, slots := 0, locals := 0 } : Room)) (fun a U => a = #[(.ref ab), (.int ip), (.int pv)] ∧ Z.Warmed39 U.vm ∧ U.heap = h0) (fun _ _ _ _ _ => True) (fun _ U o U' => ∃ v L, o = .returned v ∧ Q_own_pch Z ab kb zn us ip pv cs fm h0 n0 v U'.heap L ∧ FrameEnd U o U' L ({ frames := 0, cells := 0, slots := 0, locals := 0 } : Room).cells ({ frames := 0, cells := 0, slots := 0, locals := 0 } : Room).slots) := by
  refine MetFree.of_bodySF (plainFor_of_name own_pn_own_pch) hisR ?_
  intro p e s m args below meth c s₁ Bd hml0 hP hK
  obtain ⟨rfl, hZ, hh⟩ := hP
  have hx := Bd.exec
  have hby := Bd.bytes
  have hml : c.maxLocals = 3 := hml0
  have hown : s.vm.findClass "java/lang/StringUTF16" = some m.cls := findClass_of_methodNamed Bd.named
  have hnm := (name_of_methodNamed Bd.named Bd.method).1
  have X0 : Stand p l e ({ frames := 0, cells := 0, slots := 0, locals := 0 } : Room) s m #[(.ref ab), (.int ip), (.int pv)] below meth c s₁ [] 0 0 := Stand.of_body Bd
  have e0 : s₁.heap = h0 := by rw [← hh, Bd.state]; rfl
  have N0 := Fr.nil n0
  have pre0 : Goes p e below s₁ (entryFrame m #[(.ref ab), (.int ip), (.int pv)] 3) s₁ (mkF m 0 #[.val (.ref ab), .val (.int ip), .val (.int pv)] []) := fun t k => castTop (own_ef_own_pch m ab ip pv) k
  obtain ⟨T1, X1, e1, st1⟩ := getS2 X0 hx hZ hown (host := "") (Or.inl (hw _ (own_mG (i := 90) rfl))) Via.refl e0 (hst.2.2.1.ext O0.2) (g := (mkF m 0 #[.val (.ref ab), .val (.int ip), .val (.int pv)] [])) rfl (hb hby own_d_pch_0)
  have pre2 : Goes p e below s₁ (entryFrame m #[(.ref ab), (.int ip), (.int pv)] 3) T1 (mkF m 3 #[.val (.ref ab), .val (.int ip), .val (.int pv)] [(.int 1)]) := fun t kt => pre0 t (st1 t kt)
  have pre3 : Goes p e below s₁ (entryFrame m #[(.ref ab), (.int ip), (.int pv)] 3) T1 (mkF m 38 #[.val (.ref ab), .val (.int ((ip <<< ((1 : Int32) &&& 31)) + (1 : Int32))), .val (.int pv)] [(.int pv), (.int (ip <<< ((1 : Int32) &&& 31))), (.ref ab)]) := fun t kt => pre2 t (by
      show Steps p.tables e below (T1.setTop (mkF m 3 #[.val (.ref ab), .val (.int ip), .val (.int pv)] [(.int 1)])) _
      refine XS.ifYes X1.here hx rfl (pc0 := 3) (pc' := 28) rfl (hb hby own_d_pch_3) rfl ((if0 _ _).trans (feq (by decide : ¬ ((1 : Int32) = (0 : Int32)))).2) (by decide) (by decide) ?_
      refine XS.iloadN X1.here hx rfl (hb hby own_d_pch_28) rfl ?_
      show Steps p.tables e below (T1.setTop (mkF m 29 #[.val (.ref ab), .val (.int ip), .val (.int pv)] [(.int ip)])) _
      refine XS.iconst X1.here hx rfl (hb hby own_d_pch_29) ?_
      refine XS.ishl X1.here hx rfl (hb hby own_d_pch_30) rfl ?_
      show Steps p.tables e below (T1.setTop (mkF m 31 #[.val (.ref ab), .val (.int ip), .val (.int pv)] [(.int (ip <<< ((1 : Int32) &&& 31)))])) _
      refine XS.istoreN X1.here hx rfl (hb hby own_d_pch_31) rfl (l' := #[.val (.ref ab), .val (.int (ip <<< ((1 : Int32) &&& 31))), .val (.int pv)]) rfl ?_
      refine XS.aloadN X1.here hx rfl (hb hby own_d_pch_32) rfl rfl ?_
      show Steps p.tables e below (T1.setTop (mkF m 33 #[.val (.ref ab), .val (.int (ip <<< ((1 : Int32) &&& 31))), .val (.int pv)] [(.ref ab)])) _
      refine XS.iloadN X1.here hx rfl (hb hby own_d_pch_33) rfl ?_
      refine XS.iinc X1.here hx rfl (hb hby own_d_pch_34) rfl (l' := #[.val (.ref ab), .val (.int ((ip <<< ((1 : Int32) &&& 31)) + (1 : Int32))), .val (.int pv)]) rfl ?_
      show Steps p.tables e below (T1.setTop (mkF m 37 #[.val (.ref ab), .val (.int ((ip <<< ((1 : Int32) &&& 31)) + (1 : Int32))), .val (.int pv)] [(.int (ip <<< ((1 : Int32) &&& 31))), (.ref ab)])) _
      refine XS.iloadN X1.here hx rfl (hb hby own_d_pch_37) rfl ?_
      exact kt)
  obtain ⟨T4, X4, e4, st4⟩ := getS2 X1 hx hZ hown (host := "") (Or.inl (hw _ (own_mG (i := 91) rfl))) Via.refl e1 (hst.2.2.2.1.ext O0.2) (g := (mkF m 38 #[.val (.ref ab), .val (.int ((ip <<< ((1 : Int32) &&& 31)) + (1 : Int32))), .val (.int pv)] [(.int pv), (.int (ip <<< ((1 : Int32) &&& 31))), (.ref ab)])) rfl (hb hby own_d_pch_38)
  have pre5 : Goes p e below s₁ (entryFrame m #[(.ref ab), (.int ip), (.int pv)] 3) T4 (mkF m 41 #[.val (.ref ab), .val (.int ((ip <<< ((1 : Int32) &&& 31)) + (1 : Int32))), .val (.int pv)] [(.int 0), (.int pv), (.int (ip <<< ((1 : Int32) &&& 31))), (.ref ab)]) := fun t kt => pre3 t (st4 t kt)
  have pre6 : Goes p e below s₁ (entryFrame m #[(.ref ab), (.int ip), (.int pv)] 3) T4 (mkF m 43 #[.val (.ref ab), .val (.int ((ip <<< ((1 : Int32) &&& 31)) + (1 : Int32))), .val (.int pv)] [(.int ((pv >>> ((0 : Int32) &&& 31)).toInt8.toInt32)), (.int (ip <<< ((1 : Int32) &&& 31))), (.ref ab)]) := fun t kt => pre5 t (by
      show Steps p.tables e below (T4.setTop (mkF m 41 #[.val (.ref ab), .val (.int ((ip <<< ((1 : Int32) &&& 31)) + (1 : Int32))), .val (.int pv)] [(.int 0), (.int pv), (.int (ip <<< ((1 : Int32) &&& 31))), (.ref ab)])) _
      refine XS.ishr X4.here hx rfl (hb hby own_d_pch_41) rfl ?_
      refine XS.i2b X4.here hx rfl (hb hby own_d_pch_42) rfl ?_
      exact kt)
  obtain ⟨cl7, Ar7, q7, S7, N_7, H7, G7⟩ := (id (V_ab))
  have hin7 : ¬ ((ip <<< ((1 : Int32) &&& 31)) < 0 ∨ cl7.slots.size ≤ ((ip <<< ((1 : Int32) &&& 31))).toNatClampNeg) := inb_of S7 hj0
  obtain ⟨T8, h8, X8, e8, W8, st8⟩ := stB X4 hx hZ e4 Ar7 (j := (ip <<< ((1 : Int32) &&& 31))) hin7 (g := (mkF m 43 #[.val (.ref ab), .val (.int ((ip <<< ((1 : Int32) &&& 31)) + (1 : Int32))), .val (.int pv)] [(.int ((pv >>> ((0 : Int32) &&& 31)).toInt8.toInt32)), (.int (ip <<< ((1 : Int32) &&& 31))), (.ref ab)])) rfl rfl (hb hby own_d_pch_43)
  have V8 : Arv Z h8 ab kb .byte zn (us.set (ip <<< ((1 : Int32) &&& 31)).toNatClampNeg (.int (own_B0 pv))) (.int 0) := Arv.set Ar7 q7 S7 N_7 H7 G7 (fits_nar_byte _) W8 (ip <<< ((1 : Int32) &&& 31)).toNatClampNeg rfl hl0
  have K8 : Keep h0 h8 [ab] := (Keep.refl h0 [ab]).wr W8 (Or.inl (own_mG (i := 0) rfl))
  have N8 := Fr.snoc X8 N0 g_ab
  have pre9 : Goes p e below s₁ (entryFrame m #[(.ref ab), (.int ip), (.int pv)] 3) T8 (mkF m 44 #[.val (.ref ab), .val (.int ((ip <<< ((1 : Int32) &&& 31)) + (1 : Int32))), .val (.int pv)] []) := fun t kt => pre6 t (st8 t kt)
  have pre10 : Goes p e below s₁ (entryFrame m #[(.ref ab), (.int ip), (.int pv)] 3) T8 (mkF m 47 #[.val (.ref ab), .val (.int ((ip <<< ((1 : Int32) &&& 31)) + (1 : Int32))), .val (.int pv)] [(.int pv), (.int ((ip <<< ((1 : Int32) &&& 31)) + (1 : Int32))), (.ref ab)]) := fun t kt => pre9 t (by
      show Steps p.tables e below (T8.setTop (mkF m 44 #[.val (.ref ab), .val (.int ((ip <<< ((1 : Int32) &&& 31)) + (1 : Int32))), .val (.int pv)] [])) _
      refine XS.aloadN X8.here hx rfl (hb hby own_d_pch_44) rfl rfl ?_
      refine XS.iloadN X8.here hx rfl (hb hby own_d_pch_45) rfl ?_
      show Steps p.tables e below (T8.setTop (mkF m 46 #[.val (.ref ab), .val (.int ((ip <<< ((1 : Int32) &&& 31)) + (1 : Int32))), .val (.int pv)] [(.int ((ip <<< ((1 : Int32) &&& 31)) + (1 : Int32))), (.ref ab)])) _
      refine XS.iloadN X8.here hx rfl (hb hby own_d_pch_46) rfl ?_
      exact kt)
  obtain ⟨T11, X11, e11, st11⟩ := getS2 X8 hx hZ hown (host := "") (Or.inl (hw _ (own_mG (i := 92) rfl))) Via.refl e8 (hst.2.2.2.2.1.ext (O0.wr W8 g_ab).2) (g := (mkF m 47 #[.val (.ref ab), .val (.int ((ip <<< ((1 : Int32) &&& 31)) + (1 : Int32))), .val (.int pv)] [(.int pv), (.int ((ip <<< ((1 : Int32) &&& 31)) + (1 : Int32))), (.ref ab)])) rfl (hb hby own_d_pch_47)
  have pre12 : Goes p e below s₁ (entryFrame m #[(.ref ab), (.int ip), (.int pv)] 3) T11 (mkF m 50 #[.val (.ref ab), .val (.int ((ip <<< ((1 : Int32) &&& 31)) + (1 : Int32))), .val (.int pv)] [(.int 8), (.int pv), (.int ((ip <<< ((1 : Int32) &&& 31)) + (1 : Int32))), (.ref ab)]) := fun t kt => pre10 t (st11 t kt)
  have pre13 : Goes p e below s₁ (entryFrame m #[(.ref ab), (.int ip), (.int pv)] 3) T11 (mkF m 52 #[.val (.ref ab), .val (.int ((ip <<< ((1 : Int32) &&& 31)) + (1 : Int32))), .val (.int pv)] [(.int ((pv >>> ((8 : Int32) &&& 31)).toInt8.toInt32)), (.int ((ip <<< ((1 : Int32) &&& 31)) + (1 : Int32))), (.ref ab)]) := fun t kt => pre12 t (by
      show Steps p.tables e below (T11.setTop (mkF m 50 #[.val (.ref ab), .val (.int ((ip <<< ((1 : Int32) &&& 31)) + (1 : Int32))), .val (.int pv)] [(.int 8), (.int pv), (.int ((ip <<< ((1 : Int32) &&& 31)) + (1 : Int32))), (.ref ab)])) _
      refine XS.ishr X11.here hx rfl (hb hby own_d_pch_50) rfl ?_
      refine XS.i2b X11.here hx rfl (hb hby own_d_pch_51) rfl ?_
      exact kt)
  obtain ⟨cl14, Ar14, q14, S14, N_14, H14, G14⟩ := (id (V8))
  have hin14 : ¬ (((ip <<< ((1 : Int32) &&& 31)) + (1 : Int32)) < 0 ∨ cl14.slots.size ≤ (((ip <<< ((1 : Int32) &&& 31)) + (1 : Int32))).toNatClampNeg) := inb_of S14 hj1
  obtain ⟨T15, h15, X15, e15, W15, st15⟩ := stB X11 hx hZ e11 Ar14 (j := ((ip <<< ((1 : Int32) &&& 31)) + (1 : Int32))) hin14 (g := (mkF m 52 #[.val (.ref ab), .val (.int ((ip <<< ((1 : Int32) &&& 31)) + (1 : Int32))), .val (.int pv)] [(.int ((pv >>> ((8 : Int32) &&& 31)).toInt8.toInt32)), (.int ((ip <<< ((1 : Int32) &&& 31)) + (1 : Int32))), (.ref ab)])) rfl rfl (hb hby own_d_pch_52)
  have V15 : Arv Z h15 ab kb .byte zn ((us.set (ip <<< ((1 : Int32) &&& 31)).toNatClampNeg (.int (own_B0 pv))).set ((ip <<< ((1 : Int32) &&& 31)) + (1 : Int32)).toNatClampNeg (.int (own_B1 pv))) (.int 0) := Arv.set Ar14 q14 S14 N_14 H14 G14 (fits_nar_byte _) W15 ((ip <<< ((1 : Int32) &&& 31)) + (1 : Int32)).toNatClampNeg rfl (by rw [List.length_set]; exact hl1)
  have K15 : Keep h0 h15 [ab] := K8.wr W15 (Or.inl (own_mG (i := 0) rfl))
  have N15 := Fr.snoc X15 N8 g_ab
  have pre16 : Goes p e below s₁ (entryFrame m #[(.ref ab), (.int ip), (.int pv)] 3) T15 (mkF m 53 #[.val (.ref ab), .val (.int ((ip <<< ((1 : Int32) &&& 31)) + (1 : Int32))), .val (.int pv)] []) := fun t kt => pre13 t (st15 t kt)
  obtain ⟨fs, hr, hrun, hended, hW, hsame⟩ := X15.leave (v := none) (fun _ => rfl)
  refine ⟨_, _, pre16 _ ?_, hrun, hended, _, _, rfl, ?_, ⟨_, rfl⟩, hW, hsame.mono (by decide) (by decide)⟩
  · show Steps p.tables e below (T15.setTop (mkF m 53 #[.val (.ref ab), .val (.int ((ip <<< ((1 : Int32) &&& 31)) + (1 : Int32))), .val (.int pv)] [])) _
    exact X15.returnOut hx Bd.returns (hb hby own_d_pch_53) hr
  · show Q_own_pch Z ab kb zn us ip pv cs fm h0 n0 _ T15.heap _
    rw [e15]
    exact ⟨rfl, N15, K15, V15⟩
theorem own_d_tob1_0 : decode jdk_52_method_14_code 0 = .ok (.iload_n 2, 1) := by decide +kernel
theorem own_d_tob1_1 : decode jdk_52_method_14_code 1 = .ok (.invokestatic 107, 3) := by decide +kernel
theorem own_d_tob1_4 : decode jdk_52_method_14_code 4 = .ok (.astore_n 3, 1) := by decide +kernel
theorem own_d_tob1_5 : decode jdk_52_method_14_code 5 = .ok (.iconst 0, 1) := by decide +kernel
theorem own_d_tob1_6 : decode jdk_52_method_14_code 6 = .ok (.istore 4, 2) := by decide +kernel
theorem own_d_tob1_8 : decode jdk_52_method_14_code 8 = .ok (.iload 4, 2) := by decide +kernel
theorem own_d_tob1_10 : decode jdk_52_method_14_code 10 = .ok (.iload_n 2, 1) := by decide +kernel
theorem own_d_tob1_11 : decode jdk_52_method_14_code 11 = .ok (.if_icmp .ge 21, 3) := by decide +kernel
theorem own_d_tob1_14 : decode jdk_52_method_14_code 14 = .ok (.aload_n 3, 1) := by decide +kernel
theorem own_d_tob1_15 : decode jdk_52_method_14_code 15 = .ok (.iload 4, 2) := by decide +kernel
theorem own_d_tob1_17 : decode jdk_52_method_14_code 17 = .ok (.aload_n 0, 1) := by decide +kernel
theorem own_d_tob1_18 : decode jdk_52_method_14_code 18 = .ok (.iload_n 1, 1) := by decide +kernel
theorem own_d_tob1_19 : decode jdk_52_method_14_code 19 = .ok (.caload, 1) := by decide +kernel
theorem own_d_tob1_20 : decode jdk_52_method_14_code 20 = .ok (.invokestatic 111, 3) := by decide +kernel
theorem own_d_tob1_23 : decode jdk_52_method_14_code 23 = .ok (.iinc 1 1, 3) := by decide +kernel
theorem own_d_tob1_26 : decode jdk_52_method_14_code 26 = .ok (.iinc 4 1, 3) := by decide +kernel
theorem own_d_tob1_29 : decode jdk_52_method_14_code 29 = .ok (.goto (-21), 3) := by decide +kernel
theorem own_d_tob1_32 : decode jdk_52_method_14_code 32 = .ok (.aload_n 3, 1) := by decide +kernel
theorem own_d_tob1_33 : decode jdk_52_method_14_code 33 = .ok (.areturn, 1) := by decide +kernel
theorem own_pn_own_tob1 : plainName "java/lang/StringUTF16" = true := by first | (simp [plainName, overriddenIn]; done) | decide +kernel
theorem own_ef_own_tob1 (m : MethodId) (x0 : Addr) (x1 : Int32) (x2 : Int32) : entryFrame m #[(.ref x0), (.int x1), (.int x2)] 5 = mkF m 0 #[.val (.ref x0), .val (.int x1), .val (.int x2), .unset, .unset] [] := by first | (simp [entryFrame, mkF, argsToLocals, Value.category]; done) | rfl
def Q_own_tob1 (Z : State) (ac : Addr) (kc : ClassId) (v0 : Int32) (cs : Int32) (fm : Value) (h0 : Heap) (n0 : Nat) (v : Option Value) (h : Heap) (L : List Loc) : Prop := ∃ (y : Addr) (ky : ClassId), v = some (.ref y) ∧ Fr n0 L ∧ Keep h0 h [] ∧ h0.size ≤ y ∧ n0 ≤ y ∧ Arv Z h y ky .byte (2 : Int32) [(.int (own_B0 v0)), (.int (own_B1 v0))] (.int 0)
set_option maxRecDepth 65536 in
set_option maxHeartbeats 40000000 in
theorem own_tob1 (l : Launch) (Z : State) (a0 : Array Value) (hw : ∀ d ∈ tables_1, d.before a0 Z = true) (ws : List Jvm.Cond) (ac : Addr) (kc : ClassId) (v0 : Int32) (cs : Int32) (fm : Value) (h0 : Heap) (n0 : Nat) (Z0 : n0 ≤ h0.size) (V_ac : Arv Z h0 ac kc .char (1 : Int32) [(.int v0)] (.int 0)) (hst : own_ST Z cs fm) (O0 : Old Z n0 h0) :
    MetFree l (⟨"java/lang/StringUTF16", "toBytes", "([CII)[B"⟩ : MethodName) (head1 (Jvm.Cond.code (⟨"java/lang/StringUTF16", "toBytes", "([CII)[B"⟩ : MethodName) jdk_52_method_14_code 5 (some (.array .byte)) :: ws) ({ frames := 2, cells := 1, slots := 2, locals := 24 } : Room)) (fun a U => a = #[(.ref ac), (.int 0), (.int 1)] ∧ Z.Warmed39 U.vm ∧ U.heap = h0) (fun _ _ _ _ _ => True) (fun _ U o U' => ∃ v L, o = .returned v ∧ Q_own_tob1 Z ac kc v0 cs fm h0 n0 v U'.heap L ∧ FrameEnd U o U' L ({ frames := 2, cells := 1, slots := 2, locals := 24 } : Room).cells ({ frames := 2, cells := 1, slots := 2, locals := 24 } : Room).slots) := by
  refine MetFree.of_bodySF (plainFor_of_name own_pn_own_tob1) hisR ?_
  intro p e s m args below meth c s₁ Bd hml0 hP hK
  obtain ⟨rfl, hZ, hh⟩ := hP
  have hx := Bd.exec
  have hby := Bd.bytes
  have hml : c.maxLocals = 5 := hml0
  have hown : s.vm.findClass "java/lang/StringUTF16" = some m.cls := findClass_of_methodNamed Bd.named
  have hnm := (name_of_methodNamed Bd.named Bd.method).1
  have X0 : Stand p l e ({ frames := 2, cells := 1, slots := 2, locals := 24 } : Room) s m #[(.ref ac), (.int 0), (.int 1)] below meth c s₁ [] 0 0 := Stand.of_body Bd
  have e0 : s₁.heap = h0 := by rw [← hh, Bd.state]; rfl
  have N0 := Fr.nil n0
  have pre0 : Goes p e below s₁ (entryFrame m #[(.ref ac), (.int 0), (.int 1)] 5) s₁ (mkF m 0 #[.val (.ref ac), .val (.int 0), .val (.int 1), .unset, .unset] []) := fun t k => castTop (own_ef_own_tob1 m ac (0 : Int32) (1 : Int32)) k
  have pre1 : Goes p e below s₁ (entryFrame m #[(.ref ac), (.int 0), (.int 1)] 5) s₁ (mkF m 1 #[.val (.ref ac), .val (.int 0), .val (.int 1), .unset, .unset] [(.int 1)]) := fun t kt => pre0 t (by
      show Steps p.tables e below (s₁.setTop (mkF m 0 #[.val (.ref ac), .val (.int 0), .val (.int 1), .unset, .unset] [])) _
      refine XS.iloadN X0.here hx rfl (hb hby own_d_tob1_0) rfl ?_
      exact kt)
  obtain ⟨_, _, ⟨T2, L2, k2, n2⟩, -, X2, ⟨Lc2, hQ2, l2, y2, z2⟩, st2⟩ := Jvm.LawKit.callS X0 hx (y := (⟨"java/lang/StringUTF16", "newBytesFor", "(I)[B"⟩ : MethodName)) hown (mvT hZ (hw _ (own_mG (i := 80) rfl))) (mvT hZ (hw _ (own_mG (i := 81) rfl))) (mvT hZ (hw _ (own_mG (i := 44) rfl))) (mvT hZ (hw _ (own_mG (i := 82) rfl))) (by decide) (backOf (W := 0) (own_nbf1 l Z a0 hw []  h0 n0 Z0 ) hZ (hw _ (own_mG (i := 82) rfl)) (hw _ (own_mG (i := 44) rfl)) (by decide) (by decide)) (g := (mkF m 1 #[.val (.ref ac), .val (.int 0), .val (.int 1), .unset, .unset] [(.int 1)])) rfl (by rw [hml]; rfl) (argsL := [(.int 1)]) (rest := []) (lenOf own_pd9 rfl) rfl (by show 2 * 0 + _ ≤ _; exact Nat.le_of_eq rfl) (hb hby own_d_tob1_1) (fun _ _ => ⟨rfl, e0, (by decide : 0 + 1 ≤ _), (by decide : 0 + 2 ≤ _)⟩)
  dsimp only [Pt.U, Pt.locs, Pt.cells, Pt.slots] at X2 l2 y2 z2 st2 hQ2
  subst l2 y2 z2
  obtain ⟨yy2, ky2, rfl, N2q, K2q, zy2, gy2, Vy2⟩ := hQ2
  have N2 := Fr.app N0 N2q
  have KC2 : Keep h0 T2.heap [] := (Keep.refl h0 []).trans K2q all0
  have pre3 : Goes p e below s₁ (entryFrame m #[(.ref ac), (.int 0), (.int 1)] 5) T2 (mkF m 4 #[.val (.ref ac), .val (.int 0), .val (.int 1), .unset, .unset] [(.ref yy2)]) := fun t kt => pre1 t (st2 t kt)
  have sz_yy2 := zy2
  have g_yy2 := gy2
  have pre4 : Goes p e below s₁ (entryFrame m #[(.ref ac), (.int 0), (.int 1)] 5) T2 (mkF m 19 #[.val (.ref ac), .val (.int 0), .val (.int 1), .val (.ref yy2), .val (.int 0)] [(.int 0), (.ref ac), (.int 0), (.ref yy2)]) := fun t kt => pre3 t (by
      show Steps p.tables e below (T2.setTop (mkF m 4 #[.val (.ref ac), .val (.int 0), .val (.int 1), .unset, .unset] [(.ref yy2)])) _
      refine XS.astoreN X2.here hx rfl (hb hby own_d_tob1_4) rfl rfl (l' := #[.val (.ref ac), .val (.int 0), .val (.int 1), .val (.ref yy2), .unset]) rfl ?_
      refine XS.iconst X2.here hx rfl (hb hby own_d_tob1_5) ?_
      show Steps p.tables e below (T2.setTop (mkF m 6 #[.val (.ref ac), .val (.int 0), .val (.int 1), .val (.ref yy2), .unset] [(.int 0)])) _
      refine XS.istore X2.here hx rfl (hb hby own_d_tob1_6) rfl (l' := #[.val (.ref ac), .val (.int 0), .val (.int 1), .val (.ref yy2), .val (.int 0)]) rfl ?_
      refine XS.iload X2.here hx rfl (hb hby own_d_tob1_8) rfl ?_
      show Steps p.tables e below (T2.setTop (mkF m 10 #[.val (.ref ac), .val (.int 0), .val (.int 1), .val (.ref yy2), .val (.int 0)] [(.int 0)])) _
      refine XS.iloadN X2.here hx rfl (hb hby own_d_tob1_10) rfl ?_
      refine XS.icmpNo X2.here hx rfl (hb hby own_d_tob1_11) rfl (tlt (by decide : (0 : Int32) < (1 : Int32))).2.1 ?_
      show Steps p.tables e below (T2.setTop (mkF m 14 #[.val (.ref ac), .val (.int 0), .val (.int 1), .val (.ref yy2), .val (.int 0)] [])) _
      refine XS.aloadN X2.here hx rfl (hb hby own_d_tob1_14) rfl rfl ?_
      refine XS.iload X2.here hx rfl (hb hby own_d_tob1_15) rfl ?_
      show Steps p.tables e below (T2.setTop (mkF m 17 #[.val (.ref ac), .val (.int 0), .val (.int 1), .val (.ref yy2), .val (.int 0)] [(.int 0), (.ref yy2)])) _
      refine XS.aloadN X2.here hx rfl (hb hby own_d_tob1_17) rfl rfl ?_
      refine XS.iloadN X2.here hx rfl (hb hby own_d_tob1_18) rfl ?_
      exact kt)
  obtain ⟨cl5, Ar5, q5, S5, N_5, H5, G5⟩ := (id ((V_ac.keep K2q nin0)))
  have hin5 : ¬ ((0 : Int32) < 0 ∨ cl5.slots.size ≤ ((0 : Int32)).toNatClampNeg) := inb_of S5 ⟨by decide, by decide⟩
  have hat5 : cl5.slots[((0 : Int32)).toNatClampNeg]? = some (.int v0) := Has.at H5 hin5 rfl
  have pre6 : Goes p e below s₁ (entryFrame m #[(.ref ac), (.int 0), (.int 1)] 5) T2 (mkF m 20 #[.val (.ref ac), .val (.int 0), .val (.int 1), .val (.ref yy2), .val (.int 0)] [(.int v0), (.int 0), (.ref yy2)]) := fun t kt => pre4 t (by
      show Steps p.tables e below (T2.setTop (mkF m 19 #[.val (.ref ac), .val (.int 0), .val (.int 1), .val (.ref yy2), .val (.int 0)] [(.int 0), (.ref ac), (.int 0), (.ref yy2)])) _
      refine X2.caload hx (j := (0 : Int32)) (v := (.int v0)) (by (try rw [rfl]); exact Ar5.1) (State.isArrayOf_alike hZ.alike Ar5.2.1) Ar5.2.2 hin5 hat5 (g := (mkF m 19 #[.val (.ref ac), .val (.int 0), .val (.int 1), .val (.ref yy2), .val (.int 0)] [(.int 0), (.ref ac), (.int 0), (.ref yy2)])) rfl rfl (hb hby own_d_tob1_19) _ ?_
      exact kt)
  obtain ⟨_, _, ⟨T7, L7, k7, n7⟩, -, X7, ⟨Lc7, hQ7, l7, y7, z7⟩, st7⟩ := Jvm.LawKit.callS X2 hx (y := (⟨"java/lang/StringUTF16", "putChar", "([BII)V"⟩ : MethodName)) hown (mvT hZ (hw _ (own_mG (i := 87) rfl))) (mvT hZ (hw _ (own_mG (i := 88) rfl))) (mvT hZ (hw _ (own_mG (i := 44) rfl))) (mvT hZ (hw _ (own_mG (i := 89) rfl))) (by decide) (backOf (W := 0) (own_pch l Z a0 hw [] yy2 ky2 (2 : Int32) [(.int 0), (.int 0)] (0 : Int32) v0 cs fm T2.heap n0 (Nat.le_trans Z0 K2q.1) Vy2 (by decide) (by show _ < 2; decide) (by decide) (by show _ < 2; decide) g_yy2 hst (O0.keep K2q all0)) hZ (hw _ (own_mG (i := 89) rfl)) (hw _ (own_mG (i := 44) rfl)) (by decide) (by decide)) (g := (mkF m 20 #[.val (.ref ac), .val (.int 0), .val (.int 1), .val (.ref yy2), .val (.int 0)] [(.int v0), (.int 0), (.ref yy2)])) rfl (by rw [hml]; rfl) (argsL := [(.ref yy2), (.int 0), (.int v0)]) (rest := []) (lenOf own_pd10 rfl) rfl (by show 2 * 0 + _ ≤ _; exact Nat.le_of_eq rfl) (hb hby own_d_tob1_20) (fun _ _ => ⟨rfl, rfl, (by decide : 1 + 0 ≤ _), (by decide : 2 + 0 ≤ _)⟩)
  dsimp only [Pt.U, Pt.locs, Pt.cells, Pt.slots] at X7 l7 y7 z7 st7 hQ7
  subst l7 y7 z7
  obtain ⟨rfl, N7q, K7q, Vz7⟩ := hQ7
  have N7 := Fr.app N2 N7q
  have KC7 : Keep h0 T7.heap [] := KC2.trans K7q (allS (Or.inr sz_yy2) all0)
  have pre8 : Goes p e below s₁ (entryFrame m #[(.ref ac), (.int 0), (.int 1)] 5) T7 (mkF m 23 #[.val (.ref ac), .val (.int 0), .val (.int 1), .val (.ref yy2), .val (.int 0)] []) := fun t kt => pre6 t (st7 t kt)
  have Vw7 : Arv Z T7.heap yy2 ky2 .byte (2 : Int32) [(.int (own_B0 v0)), (.int (own_B1 v0))] (.int 0) := Vz7
  have pre9 : Goes p e below s₁ (entryFrame m #[(.ref ac), (.int 0), (.int 1)] 5) T7 (mkF m 33 #[.val (.ref ac), .val (.int 1), .val (.int 1), .val (.ref yy2), .val (.int 1)] [(.ref yy2)]) := fun t kt => pre8 t (by
      show Steps p.tables e below (T7.setTop (mkF m 23 #[.val (.ref ac), .val (.int 0), .val (.int 1), .val (.ref yy2), .val (.int 0)] [])) _
      refine XS.iinc X7.here hx rfl (hb hby own_d_tob1_23) rfl (l' := #[.val (.ref ac), .val (.int 1), .val (.int 1), .val (.ref yy2), .val (.int 0)]) rfl ?_
      refine XS.iinc X7.here hx rfl (hb hby own_d_tob1_26) rfl (l' := #[.val (.ref ac), .val (.int 1), .val (.int 1), .val (.ref yy2), .val (.int 1)]) rfl ?_
      show Steps p.tables e below (T7.setTop (mkF m 29 #[.val (.ref ac), .val (.int 1), .val (.int 1), .val (.ref yy2), .val (.int 1)] [])) _
      refine XS.goto X7.here hx rfl (pc0 := 29) (pc' := 8) rfl (hb hby own_d_tob1_29) (by decide) (by decide) ?_
      refine XS.iload X7.here hx rfl (hb hby own_d_tob1_8) rfl ?_
      show Steps p.tables e below (T7.setTop (mkF m 10 #[.val (.ref ac), .val (.int 1), .val (.int 1), .val (.ref yy2), .val (.int 1)] [(.int 1)])) _
      refine XS.iloadN X7.here hx rfl (hb hby own_d_tob1_10) rfl ?_
      refine XS.icmpYes X7.here hx rfl (pc0 := 11) (pc' := 32) rfl (hb hby own_d_tob1_11) rfl (flt (by decide : ¬ ((1 : Int32) < (1 : Int32)))).2.1 (by decide) (by decide) ?_
      show Steps p.tables e below (T7.setTop (mkF m 32 #[.val (.ref ac), .val (.int 1), .val (.int 1), .val (.ref yy2), .val (.int 1)] [])) _
      refine XS.aloadN X7.here hx rfl (hb hby own_d_tob1_32) rfl rfl ?_
      exact kt)
  obtain ⟨fs, hr, hrun, hended, hW, hsame⟩ := X7.leave (v := some (.ref yy2)) (fun h => by rw [Bd.returns] at h; cases h)
  refine ⟨_, _, pre9 _ ?_, hrun, hended, _, _, rfl, ?_, ⟨_, rfl⟩, hW, hsame.mono (by decide) (by decide)⟩
  · show Steps p.tables e below (T7.setTop (mkF m 33 #[.val (.ref ac), .val (.int 1), .val (.int 1), .val (.ref yy2), .val (.int 1)] [(.ref yy2)])) _
    jvm_step X7.here [X7.here.top, hx, (hb hby own_d_tob1_33), X7.method', Bd.returns, Value.isRef, FieldType.isReference]
    first | (intro acts; rw [hr _ acts rfl rfl rfl]) | rw [hr _ _ rfl rfl rfl]
    exact Steps.refl _
  · show Q_own_tob1 Z ac kc v0 cs fm h0 n0 _ T7.heap _
    exact ⟨yy2, ky2, rfl, N7, KC7, sz_yy2, g_yy2, Vw7⟩
theorem own_d_cou1_0 : decode jdk_52_method_16_code 0 = .ok (.iload_n 2, 1) := by decide +kernel
theorem own_d_cou1_1 : decode jdk_52_method_16_code 1 = .ok (.newarray .byte, 2) := by decide +kernel
theorem own_d_cou1_3 : decode jdk_52_method_16_code 3 = .ok (.astore_n 3, 1) := by decide +kernel
theorem own_d_cou1_4 : decode jdk_52_method_16_code 4 = .ok (.aload_n 0, 1) := by decide +kernel
theorem own_d_cou1_5 : decode jdk_52_method_16_code 5 = .ok (.iload_n 1, 1) := by decide +kernel
theorem own_d_cou1_6 : decode jdk_52_method_16_code 6 = .ok (.aload_n 3, 1) := by decide +kernel
theorem own_d_cou1_7 : decode jdk_52_method_16_code 7 = .ok (.iconst 0, 1) := by decide +kernel
theorem own_d_cou1_8 : decode jdk_52_method_16_code 8 = .ok (.iload_n 2, 1) := by decide +kernel
theorem own_d_cou1_9 : decode jdk_52_method_16_code 9 = .ok (.invokestatic 115, 3) := by decide +kernel
theorem own_d_cou1_12 : decode jdk_52_method_16_code 12 = .ok (.istore 4, 2) := by decide +kernel
theorem own_d_cou1_14 : decode jdk_52_method_16_code 14 = .ok (.iload 4, 2) := by decide +kernel
theorem own_d_cou1_16 : decode jdk_52_method_16_code 16 = .ok (.iload_n 2, 1) := by decide +kernel
theorem own_d_cou1_17 : decode jdk_52_method_16_code 17 = .ok (.if_icmp .eq 40, 3) := by decide +kernel
theorem own_d_cou1_20 : decode jdk_52_method_16_code 20 = .ok (.aload_n 0, 1) := by decide +kernel
theorem own_d_cou1_21 : decode jdk_52_method_16_code 21 = .ok (.iload_n 1, 1) := by decide +kernel
theorem own_d_cou1_22 : decode jdk_52_method_16_code 22 = .ok (.iload_n 2, 1) := by decide +kernel
theorem own_d_cou1_23 : decode jdk_52_method_16_code 23 = .ok (.invokestatic 119, 3) := by decide +kernel
theorem own_d_cou1_26 : decode jdk_52_method_16_code 26 = .ok (.astore 5, 2) := by decide +kernel
theorem own_d_cou1_28 : decode jdk_52_method_16_code 28 = .ok (.aload 5, 2) := by decide +kernel
theorem own_d_cou1_30 : decode jdk_52_method_16_code 30 = .ok (.iload 4, 2) := by decide +kernel
theorem own_d_cou1_32 : decode jdk_52_method_16_code 32 = .ok (.invokestatic 71, 3) := by decide +kernel
theorem own_d_cou1_35 : decode jdk_52_method_16_code 35 = .ok (.sipush 255, 3) := by decide +kernel
theorem own_d_cou1_38 : decode jdk_52_method_16_code 38 = .ok (.if_icmp .gt 16, 3) := by decide +kernel
theorem own_d_cou1_54 : decode jdk_52_method_16_code 54 = .ok (.aload 5, 2) := by decide +kernel
theorem own_d_cou1_56 : decode jdk_52_method_16_code 56 = .ok (.areturn, 1) := by decide +kernel
theorem own_d_cou1_57 : decode jdk_52_method_16_code 57 = .ok (.aload_n 3, 1) := by decide +kernel
theorem own_d_cou1_58 : decode jdk_52_method_16_code 58 = .ok (.areturn, 1) := by decide +kernel
theorem own_pn_own_cou1 : plainName "java/lang/StringUTF16" = true := by first | (simp [plainName, overriddenIn]; done) | decide +kernel
theorem own_ef_own_cou1 (m : MethodId) (x0 : Addr) (x1 : Int32) (x2 : Int32) : entryFrame m #[(.ref x0), (.int x1), (.int x2)] 6 = mkF m 0 #[.val (.ref x0), .val (.int x1), .val (.int x2), .unset, .unset, .unset] [] := by first | (simp [entryFrame, mkF, argsToLocals, Value.category]; done) | rfl
def Q_own_cou1 (Z : State) (ac : Addr) (kc : ClassId) (v0 : Int32) (cs : Int32) (fm : Value) (h0 : Heap) (n0 : Nat) (v : Option Value) (h : Heap) (L : List Loc) : Prop := ∃ (y : Addr) (ky : ClassId) (cd : Int32), v = some (.ref y) ∧ Fr n0 L ∧ Keep h0 h [] ∧ h0.size ≤ y ∧ n0 ≤ y ∧ own_SD Z h y ky cd (1 : Int32) (2 : Int32) [(.int (own_by v0))] [(.int (own_B0 v0)), (.int (own_B1 v0))] (¬ ((255 : Int32) < v0))
set_option maxRecDepth 65536 in
set_option maxHeartbeats 40000000 in
theorem own_cou1 (l : Launch) (Z : State) (a0 : Array Value) (hw : ∀ d ∈ tables_1, d.before a0 Z = true) (ws : List Jvm.Cond) (ac : Addr) (kc : ClassId) (v0 : Int32) (cs : Int32) (fm : Value) (h0 : Heap) (n0 : Nat) (Z0 : n0 ≤ h0.size) (V_ac : Arv Z h0 ac kc .char (1 : Int32) [(.int v0)] (.int 0)) (hl0 : (0 ≤ v0.toInt ∧ v0.toInt < 65536)) (hst : own_ST Z cs fm) (O0 : Old Z n0 h0) :
    MetFree l (⟨"java/lang/StringUTF16", "compress", "([CII)[B"⟩ : MethodName) (head1 (Jvm.Cond.code (⟨"java/lang/StringUTF16", "compress", "([CII)[B"⟩ : MethodName) jdk_52_method_16_code 6 (some (.array .byte)) :: ws) ({ frames := 3, cells := 2, slots := 3, locals := 40 } : Room)) (fun a U => a = #[(.ref ac), (.int 0), (.int 1)] ∧ Z.Warmed39 U.vm ∧ U.heap = h0) (fun _ _ _ _ _ => True) (fun _ U o U' => ∃ v L, o = .returned v ∧ Q_own_cou1 Z ac kc v0 cs fm h0 n0 v U'.heap L ∧ FrameEnd U o U' L ({ frames := 3, cells := 2, slots := 3, locals := 40 } : Room).cells ({ frames := 3, cells := 2, slots := 3, locals := 40 } : Room).slots) := by
  refine MetFree.of_bodySF (plainFor_of_name own_pn_own_cou1) hisR ?_
  intro p e s m args below meth c s₁ Bd hml0 hP hK
  obtain ⟨rfl, hZ, hh⟩ := hP
  have hx := Bd.exec
  have hby := Bd.bytes
  have hml : c.maxLocals = 6 := hml0
  have hown : s.vm.findClass "java/lang/StringUTF16" = some m.cls := findClass_of_methodNamed Bd.named
  have hnm := (name_of_methodNamed Bd.named Bd.method).1
  have X0 : Stand p l e ({ frames := 3, cells := 2, slots := 3, locals := 40 } : Room) s m #[(.ref ac), (.int 0), (.int 1)] below meth c s₁ [] 0 0 := Stand.of_body Bd
  have e0 : s₁.heap = h0 := by rw [← hh, Bd.state]; rfl
  have N0 := Fr.nil n0
  have pre0 : Goes p e below s₁ (entryFrame m #[(.ref ac), (.int 0), (.int 1)] 6) s₁ (mkF m 0 #[.val (.ref ac), .val (.int 0), .val (.int 1), .unset, .unset, .unset] []) := fun t k => castTop (own_ef_own_cou1 m ac (0 : Int32) (1 : Int32)) k
  have pre1 : Goes p e below s₁ (entryFrame m #[(.ref ac), (.int 0), (.int 1)] 6) s₁ (mkF m 1 #[.val (.ref ac), .val (.int 0), .val (.int 1), .unset, .unset, .unset] [(.int 1)]) := fun t kt => pre0 t (by
      show Steps p.tables e below (s₁.setTop (mkF m 0 #[.val (.ref ac), .val (.int 0), .val (.int 1), .unset, .unset, .unset] [])) _
      refine XS.iloadN X0.here hx rfl (hb hby own_d_cou1_0) rfl ?_
      exact kt)
  obtain ⟨T2, h2, k2, X2, e2, E2, A2, st2⟩ := newP X0 hx hZ (hw _ (own_mG (i := 20) rfl)) e0 (g := (mkF m 1 #[.val (.ref ac), .val (.int 0), .val (.int 1), .unset, .unset, .unset] [(.int 1)])) rfl (hb hby own_d_cou1_1) rfl (by decide) (cap := 1) (by decide) (by decide) (by decide) (by decide)
  obtain ⟨b2, g2⟩ : ∃ z, z = h0.size := ⟨_, rfl⟩
  rw [← g2] at A2 st2
  have V_b2 : Arv Z h2 b2 k2 .byte (1 : Int32) [(.int 0)] (.int 0) := (Arv.new A2 (by decide)).pad (pad_rep [] (.int 0) 1)
  have g_b2 : n0 ≤ b2 := Nat.le_trans Z0 (Nat.le_of_eq g2.symm)
  have sz_b2 : h0.size ≤ b2 := (Nat.le_trans (Keep.refl h0 []).1 (Nat.le_of_eq g2.symm))
  have K2 : Keep h0 h2 [] := (Keep.refl h0 []).ext E2
  have pre3 : Goes p e below s₁ (entryFrame m #[(.ref ac), (.int 0), (.int 1)] 6) T2 (mkF m 3 #[.val (.ref ac), .val (.int 0), .val (.int 1), .unset, .unset, .unset] [(.ref b2)]) := fun t kt => pre1 t (st2 t kt)
  have pre4 : Goes p e below s₁ (entryFrame m #[(.ref ac), (.int 0), (.int 1)] 6) T2 (mkF m 9 #[.val (.ref ac), .val (.int 0), .val (.int 1), .val (.ref b2), .unset, .unset] [(.int 1), (.int 0), (.ref b2), (.int 0), (.ref ac)]) := fun t kt => pre3 t (by
      show Steps p.tables e below (T2.setTop (mkF m 3 #[.val (.ref ac), .val (.int 0), .val (.int 1), .unset, .unset, .unset] [(.ref b2)])) _
      refine XS.astoreN X2.here hx rfl (hb hby own_d_cou1_3) rfl rfl (l' := #[.val (.ref ac), .val (.int 0), .val (.int 1), .val (.ref b2), .unset, .unset]) rfl ?_
      refine XS.aloadN X2.here hx rfl (hb hby own_d_cou1_4) rfl rfl ?_
      show Steps p.tables e below (T2.setTop (mkF m 5 #[.val (.ref ac), .val (.int 0), .val (.int 1), .val (.ref b2), .unset, .unset] [(.ref ac)])) _
      refine XS.iloadN X2.here hx rfl (hb hby own_d_cou1_5) rfl ?_
      refine XS.aloadN X2.here hx rfl (hb hby own_d_cou1_6) rfl rfl ?_
      show Steps p.tables e below (T2.setTop (mkF m 7 #[.val (.ref ac), .val (.int 0), .val (.int 1), .val (.ref b2), .unset, .unset] [(.ref b2), (.int 0), (.ref ac)])) _
      refine XS.iconst X2.here hx rfl (hb hby own_d_cou1_7) ?_
      refine XS.iloadN X2.here hx rfl (hb hby own_d_cou1_8) rfl ?_
      exact kt)
  obtain ⟨_, _, ⟨T5, L5, k5, n5⟩, -, X5, ⟨Lc5, hQ5, l5, y5, z5⟩, st5⟩ := Jvm.LawKit.callS X2 hx (y := (⟨"java/lang/StringUTF16", "compress", "([CI[BII)I"⟩ : MethodName)) hown (mvT hZ (hw _ (own_mG (i := 46) rfl))) (mvT hZ (hw _ (own_mG (i := 47) rfl))) (mvT hZ (hw _ (own_mG (i := 44) rfl))) (mvT hZ (hw _ (own_mG (i := 48) rfl))) (by decide) (backOf (W := 0) (own_cin1 l Z a0 hw [] ac b2 kc k2 v0 h2 n0 (Nat.le_trans Z0 E2.1) (V_ac.ext E2) V_b2 g_b2 (Nat.ne_of_lt (Nat.lt_of_lt_of_le V_ac.lt (Nat.le_of_eq g2.symm)))) hZ (hw _ (own_mG (i := 48) rfl)) (hw _ (own_mG (i := 44) rfl)) (by decide) (by decide)) (g := (mkF m 9 #[.val (.ref ac), .val (.int 0), .val (.int 1), .val (.ref b2), .unset, .unset] [(.int 1), (.int 0), (.ref b2), (.int 0), (.ref ac)])) rfl (by rw [hml]; rfl) (argsL := [(.ref ac), (.int 0), (.ref b2), (.int 0), (.int 1)]) (rest := []) (lenOf own_pd11 rfl) rfl (by show 2 * 0 + _ ≤ _; exact Nat.le_of_eq rfl) (hb hby own_d_cou1_9) (fun _ _ => ⟨rfl, e2, (by decide : 1 + 0 ≤ _), (by decide : 1 + 0 ≤ _)⟩)
  dsimp only [Pt.U, Pt.locs, Pt.cells, Pt.slots] at X5 l5 y5 z5 st5 hQ5
  subst l5 y5 z5
  obtain ⟨zr5, rfl, N5q, K5q, Dz5⟩ := hQ5
  have N5 := Fr.app N0 N5q
  have KC5 : Keep h0 T5.heap [] := K2.trans K5q (allS (Or.inr sz_b2) all0)
  have pre6 : Goes p e below s₁ (entryFrame m #[(.ref ac), (.int 0), (.int 1)] 6) T5 (mkF m 12 #[.val (.ref ac), .val (.int 0), .val (.int 1), .val (.ref b2), .unset, .unset] [(.int zr5)]) := fun t kt => pre4 t (st5 t kt)
  rcases Dz5 with ⟨rfl, hp, Vb5⟩ | Dz
  · -- full
    have pre7 : Goes p e below s₁ (entryFrame m #[(.ref ac), (.int 0), (.int 1)] 6) T5 (mkF m 58 #[.val (.ref ac), .val (.int 0), .val (.int 1), .val (.ref b2), .val (.int 1), .unset] [(.ref b2)]) := fun t kt => pre6 t (by
        show Steps p.tables e below (T5.setTop (mkF m 12 #[.val (.ref ac), .val (.int 0), .val (.int 1), .val (.ref b2), .unset, .unset] [(.int 1)])) _
        refine XS.istore X5.here hx rfl (hb hby own_d_cou1_12) rfl (l' := #[.val (.ref ac), .val (.int 0), .val (.int 1), .val (.ref b2), .val (.int 1), .unset]) rfl ?_
        refine XS.iload X5.here hx rfl (hb hby own_d_cou1_14) rfl ?_
        show Steps p.tables e below (T5.setTop (mkF m 16 #[.val (.ref ac), .val (.int 0), .val (.int 1), .val (.ref b2), .val (.int 1), .unset] [(.int 1)])) _
        refine XS.iloadN X5.here hx rfl (hb hby own_d_cou1_16) rfl ?_
        refine XS.icmpYes X5.here hx rfl (pc0 := 17) (pc' := 57) rfl (hb hby own_d_cou1_17) rfl (teq (by decide : (1 : Int32) = (1 : Int32))).1 (by decide) (by decide) ?_
        show Steps p.tables e below (T5.setTop (mkF m 57 #[.val (.ref ac), .val (.int 0), .val (.int 1), .val (.ref b2), .val (.int 1), .unset] [])) _
        refine XS.aloadN X5.here hx rfl (hb hby own_d_cou1_57) rfl rfl ?_
        exact kt)
    obtain ⟨fs, hr, hrun, hended, hW, hsame⟩ := X5.leave (v := some (.ref b2)) (fun h => by rw [Bd.returns] at h; cases h)
    refine ⟨_, _, pre7 _ ?_, hrun, hended, _, _, rfl, ?_, ⟨_, rfl⟩, hW, hsame.mono (by decide) (by decide)⟩
    · show Steps p.tables e below (T5.setTop (mkF m 58 #[.val (.ref ac), .val (.int 0), .val (.int 1), .val (.ref b2), .val (.int 1), .unset] [(.ref b2)])) _
      jvm_step X5.here [X5.here.top, hx, (hb hby own_d_cou1_58), X5.method', Bd.returns, Value.isRef, FieldType.isReference]
      first | (intro acts; rw [hr _ acts rfl rfl rfl]) | rw [hr _ _ rfl rfl rfl]
      exact Steps.refl _
    · show Q_own_cou1 Z ac kc v0 cs fm h0 n0 _ T5.heap _
      exact ⟨b2, k2, (0 : Int32), rfl, N5, KC5, sz_b2, g_b2, Or.inl ⟨rfl, hp, Vb5⟩⟩
  · -- not
    have hne : ¬ (zr5 = (1 : Int32)) := by rcases Dz with ⟨rfl, hq⟩ <;> decide
    have pre8 : Goes p e below s₁ (entryFrame m #[(.ref ac), (.int 0), (.int 1)] 6) T5 (mkF m 23 #[.val (.ref ac), .val (.int 0), .val (.int 1), .val (.ref b2), .val (.int zr5), .unset] [(.int 1), (.int 0), (.ref ac)]) := fun t kt => pre6 t (by
        show Steps p.tables e below (T5.setTop (mkF m 12 #[.val (.ref ac), .val (.int 0), .val (.int 1), .val (.ref b2), .unset, .unset] [(.int zr5)])) _
        refine XS.istore X5.here hx rfl (hb hby own_d_cou1_12) rfl (l' := #[.val (.ref ac), .val (.int 0), .val (.int 1), .val (.ref b2), .val (.int zr5), .unset]) rfl ?_
        refine XS.iload X5.here hx rfl (hb hby own_d_cou1_14) rfl ?_
        show Steps p.tables e below (T5.setTop (mkF m 16 #[.val (.ref ac), .val (.int 0), .val (.int 1), .val (.ref b2), .val (.int zr5), .unset] [(.int zr5)])) _
        refine XS.iloadN X5.here hx rfl (hb hby own_d_cou1_16) rfl ?_
        refine XS.icmpNo X5.here hx rfl (hb hby own_d_cou1_17) rfl (feq hne).1 ?_
        show Steps p.tables e below (T5.setTop (mkF m 20 #[.val (.ref ac), .val (.int 0), .val (.int 1), .val (.ref b2), .val (.int zr5), .unset] [])) _
        refine XS.aloadN X5.here hx rfl (hb hby own_d_cou1_20) rfl rfl ?_
        refine XS.iloadN X5.here hx rfl (hb hby own_d_cou1_21) rfl ?_
        show Steps p.tables e below (T5.setTop (mkF m 22 #[.val (.ref ac), .val (.int 0), .val (.int 1), .val (.ref b2), .val (.int zr5), .unset] [(.int 0), (.ref ac)])) _
        refine XS.iloadN X5.here hx rfl (hb hby own_d_cou1_22) rfl ?_
        exact kt)
    obtain ⟨_, _, ⟨T9, L9, k9, n9⟩, -, X9, ⟨Lc9, hQ9, l9, y9, z9⟩, st9⟩ := Jvm.LawKit.callS X5 hx (y := (⟨"java/lang/StringUTF16", "toBytes", "([CII)[B"⟩ : MethodName)) hown (mvT hZ (hw _ (own_mG (i := 77) rfl))) (mvT hZ (hw _ (own_mG (i := 78) rfl))) (mvT hZ (hw _ (own_mG (i := 44) rfl))) (mvT hZ (hw _ (own_mG (i := 79) rfl))) (by decide) (backOf (W := 0) (own_tob1 l Z a0 hw [] ac kc v0 cs fm T5.heap n0 (Nat.le_trans (Nat.le_trans Z0 E2.1) K5q.1) ((V_ac.ext E2).keep K5q (ninS (Nat.ne_of_lt (Nat.lt_of_lt_of_le V_ac.lt (Nat.le_of_eq g2.symm))) nin0)) hst ((O0.ext E2).keep K5q (allS g_b2 all0))) hZ (hw _ (own_mG (i := 79) rfl)) (hw _ (own_mG (i := 44) rfl)) (by decide) (by decide)) (g := (mkF m 23 #[.val (.ref ac), .val (.int 0), .val (.int 1), .val (.ref b2), .val (.int zr5), .unset] [(.int 1), (.int 0), (.ref ac)])) rfl (by rw [hml]; rfl) (argsL := [(.ref ac), (.int 0), (.int 1)]) (rest := []) (lenOf own_pd12 rfl) rfl (by show 2 * 0 + _ ≤ _; exact Nat.le_of_eq rfl) (hb hby own_d_cou1_23) (fun _ _ => ⟨rfl, rfl, (by decide : 1 + 1 ≤ _), (by decide : 1 + 2 ≤ _)⟩)
    dsimp only [Pt.U, Pt.locs, Pt.cells, Pt.slots] at X9 l9 y9 z9 st9 hQ9
    subst l9 y9 z9
    obtain ⟨yy9, ky9, rfl, N9q, K9q, zy9, gy9, Vy9⟩ := hQ9
    have N9 := Fr.app N5 N9q
    have KC9 : Keep h0 T9.heap [] := KC5.trans K9q all0
    have pre10 : Goes p e below s₁ (entryFrame m #[(.ref ac), (.int 0), (.int 1)] 6) T9 (mkF m 26 #[.val (.ref ac), .val (.int 0), .val (.int 1), .val (.ref b2), .val (.int zr5), .unset] [(.ref yy9)]) := fun t kt => pre8 t (st9 t kt)
    have sz_yy9 : h0.size ≤ yy9 := Nat.le_trans KC5.1 zy9
    have g_yy9 := gy9
    have pre11 : Goes p e below s₁ (entryFrame m #[(.ref ac), (.int 0), (.int 1)] 6) T9 (mkF m 32 #[.val (.ref ac), .val (.int 0), .val (.int 1), .val (.ref b2), .val (.int zr5), .val (.ref yy9)] [(.int zr5), (.ref yy9)]) := fun t kt => pre10 t (by
        show Steps p.tables e below (T9.setTop (mkF m 26 #[.val (.ref ac), .val (.int 0), .val (.int 1), .val (.ref b2), .val (.int zr5), .unset] [(.ref yy9)])) _
        refine XS.astore X9.here hx rfl (hb hby own_d_cou1_26) rfl rfl (l' := #[.val (.ref ac), .val (.int 0), .val (.int 1), .val (.ref b2), .val (.int zr5), .val (.ref yy9)]) rfl ?_
        refine XS.aload X9.here hx rfl (hb hby own_d_cou1_28) rfl rfl ?_
        show Steps p.tables e below (T9.setTop (mkF m 30 #[.val (.ref ac), .val (.int 0), .val (.int 1), .val (.ref b2), .val (.int zr5), .val (.ref yy9)] [(.ref yy9)])) _
        refine XS.iload X9.here hx rfl (hb hby own_d_cou1_30) rfl ?_
        exact kt)
    obtain ⟨pu, pw, hA0, hA1, hG⟩ : ∃ pu pw : Int32, own_At Z T9.heap yy9 (zr5 <<< ((1 : Int32) &&& 31)) pu ∧ own_At Z T9.heap yy9 ((zr5 <<< ((1 : Int32) &&& 31)) + (1 : Int32)) pw ∧ (255 : Int32) < (nar .char (own_GC pu pw)) := by
      rcases Dz with ⟨rfl, hq⟩
      · exact ⟨(own_B0 v0), (own_B1 v0), own_At.of Vy9 (by decide) rfl, own_At.of Vy9 (by decide) rfl, by rw [own_gc v0 hl0]; exact hq⟩
    obtain ⟨_, _, ⟨T12, L12, k12, n12⟩, -, X12, ⟨Lc12, hQ12, l12, y12, z12⟩, st12⟩ := Jvm.LawKit.callS X9 hx (y := (⟨"java/lang/StringUTF16", "getChar", "([BI)C"⟩ : MethodName)) hown (mvT hZ (hw _ (own_mG (i := 93) rfl))) (mvT hZ (hw _ (own_mG (i := 94) rfl))) (mvT hZ (hw _ (own_mG (i := 44) rfl))) (mvT hZ (hw _ (own_mG (i := 95) rfl))) (by decide) (backOf (W := 0) (own_gch l Z a0 hw [] yy9 zr5 pu pw cs fm T9.heap n0 (Nat.le_trans (Nat.le_trans (Nat.le_trans Z0 E2.1) K5q.1) K9q.1) hA0 hA1 hst (((O0.ext E2).keep K5q (allS g_b2 all0)).keep K9q all0)) hZ (hw _ (own_mG (i := 95) rfl)) (hw _ (own_mG (i := 44) rfl)) (by decide) (by decide)) (g := (mkF m 32 #[.val (.ref ac), .val (.int 0), .val (.int 1), .val (.ref b2), .val (.int zr5), .val (.ref yy9)] [(.int zr5), (.ref yy9)])) rfl (by rw [hml]; rfl) (argsL := [(.ref yy9), (.int zr5)]) (rest := []) (lenOf own_pd6 rfl) rfl (by show 2 * 0 + _ ≤ _; exact Nat.le_of_eq rfl) (hb hby own_d_cou1_32) (fun _ _ => ⟨rfl, rfl, (by decide : 2 + 0 ≤ _), (by decide : 3 + 0 ≤ _)⟩)
    dsimp only [Pt.U, Pt.locs, Pt.cells, Pt.slots] at X12 l12 y12 z12 st12 hQ12
    subst l12 y12 z12
    obtain ⟨rfl, N12q, e12⟩ := hQ12
    have N12 := Fr.app N9 N12q
    have pre13 : Goes p e below s₁ (entryFrame m #[(.ref ac), (.int 0), (.int 1)] 6) T12 (mkF m 35 #[.val (.ref ac), .val (.int 0), .val (.int 1), .val (.ref b2), .val (.int zr5), .val (.ref yy9)] [(.int (nar .char (own_GC pu pw)))]) := fun t kt => pre11 t (st12 t kt)
    have pre14 : Goes p e below s₁ (entryFrame m #[(.ref ac), (.int 0), (.int 1)] 6) T12 (mkF m 56 #[.val (.ref ac), .val (.int 0), .val (.int 1), .val (.ref b2), .val (.int zr5), .val (.ref yy9)] [(.ref yy9)]) := fun t kt => pre13 t (by
        show Steps p.tables e below (T12.setTop (mkF m 35 #[.val (.ref ac), .val (.int 0), .val (.int 1), .val (.ref b2), .val (.int zr5), .val (.ref yy9)] [(.int (nar .char (own_GC pu pw)))])) _
        refine XS.sipush X12.here hx rfl (hb hby own_d_cou1_35) ?_
        refine XS.icmpYes X12.here hx rfl (pc0 := 38) (pc' := 54) rfl (hb hby own_d_cou1_38) rfl (tlt hG).2.2.1 (by decide) (by decide) ?_
        show Steps p.tables e below (T12.setTop (mkF m 54 #[.val (.ref ac), .val (.int 0), .val (.int 1), .val (.ref b2), .val (.int zr5), .val (.ref yy9)] [])) _
        refine XS.aload X12.here hx rfl (hb hby own_d_cou1_54) rfl rfl ?_
        exact kt)
    obtain ⟨fs, hr, hrun, hended, hW, hsame⟩ := X12.leave (v := some (.ref yy9)) (fun h => by rw [Bd.returns] at h; cases h)
    refine ⟨_, _, pre14 _ ?_, hrun, hended, _, _, rfl, ?_, ⟨_, rfl⟩, hW, hsame.mono (by decide) (by decide)⟩
    · show Steps p.tables e below (T12.setTop (mkF m 56 #[.val (.ref ac), .val (.int 0), .val (.int 1), .val (.ref b2), .val (.int zr5), .val (.ref yy9)] [(.ref yy9)])) _
      jvm_step X12.here [X12.here.top, hx, (hb hby own_d_cou1_56), X12.method', Bd.returns, Value.isRef, FieldType.isReference]
      first | (intro acts; rw [hr _ acts rfl rfl rfl]) | rw [hr _ _ rfl rfl rfl]
      exact Steps.refl _
    · show Q_own_cou1 Z ac kc v0 cs fm h0 n0 _ T12.heap _
      rw [e12]
      exact ⟨yy9, ky9, (1 : Int32), rfl, N12, KC9, sz_yy9, g_yy9, Or.inr ⟨rfl, Vy9⟩⟩
theorem own_d_cda1_0 : decode jdk_52_method_15_code 0 = .ok (.iload_n 1, 1) := by decide +kernel
theorem own_d_cda1_1 : decode jdk_52_method_15_code 1 = .ok (.aload_n 0, 1) := by decide +kernel
theorem own_d_cda1_2 : decode jdk_52_method_15_code 2 = .ok (.arraylength, 1) := by decide +kernel
theorem own_d_cda1_3 : decode jdk_52_method_15_code 3 = .ok (.isub, 1) := by decide +kernel
theorem own_d_cda1_4 : decode jdk_52_method_15_code 4 = .ok (.bipush 31, 2) := by decide +kernel
theorem own_d_cda1_6 : decode jdk_52_method_15_code 6 = .ok (.iushr, 1) := by decide +kernel
theorem own_d_cda1_7 : decode jdk_52_method_15_code 7 = .ok (.i2b, 1) := by decide +kernel
theorem own_d_cda1_8 : decode jdk_52_method_15_code 8 = .ok (.ireturn, 1) := by decide +kernel
theorem own_pn_own_cda1 : plainName "java/lang/StringUTF16" = true := by first | (simp [plainName, overriddenIn]; done) | decide +kernel
theorem own_ef_own_cda1 (m : MethodId) (x0 : Addr) (x1 : Int32) : entryFrame m #[(.ref x0), (.int x1)] 2 = mkF m 0 #[.val (.ref x0), .val (.int x1)] [] := by first | (simp [entryFrame, mkF, argsToLocals, Value.category]; done) | rfl
def Q_own_cda1 (Z : State) (y : Addr) (ky : ClassId) (cd : Int32) (v0 : Int32) (h0 : Heap) (n0 : Nat) (v : Option Value) (h : Heap) (L : List Loc) : Prop := v = some (.int cd) ∧ Fr n0 L ∧ h = h0
set_option maxRecDepth 65536 in
set_option maxHeartbeats 40000000 in
theorem own_cda1 (l : Launch) (Z : State) (a0 : Array Value) (hw : ∀ d ∈ tables_1, d.before a0 Z = true) (ws : List Jvm.Cond) (y : Addr) (ky : ClassId) (cd : Int32) (v0 : Int32) (h0 : Heap) (n0 : Nat) (Z0 : n0 ≤ h0.size) (SDy : own_SD Z h0 y ky cd (1 : Int32) (2 : Int32) [(.int (own_by v0))] [(.int (own_B0 v0)), (.int (own_B1 v0))] (¬ ((255 : Int32) < v0))) :
    MetFree l (⟨"java/lang/StringUTF16", "coderFromArrayLen", "([BI)B"⟩ : MethodName) (head1 (Jvm.Cond.code (⟨"java/lang/StringUTF16", "coderFromArrayLen", "([BI)B"⟩ : MethodName) jdk_52_method_15_code 2 (some .byte) :: ws) ({ frames := 0, cells := 0, slots := 0, locals := 0 } : Room)) (fun a U => a = #[(.ref y), (.int 1)] ∧ Z.Warmed39 U.vm ∧ U.heap = h0) (fun _ _ _ _ _ => True) (fun _ U o U' => ∃ v L, o = .returned v ∧ Q_own_cda1 Z y ky cd v0 h0 n0 v U'.heap L ∧ FrameEnd U o U' L ({ frames := 0, cells := 0, slots := 0, locals := 0 } : Room).cells ({ frames := 0, cells := 0, slots := 0, locals := 0 } : Room).slots) := by
  refine MetFree.of_bodySF (plainFor_of_name own_pn_own_cda1) hisR ?_
  intro p e s m args below meth c s₁ Bd hml0 hP hK
  obtain ⟨rfl, hZ, hh⟩ := hP
  have hx := Bd.exec
  have hby := Bd.bytes
  have hml : c.maxLocals = 2 := hml0
  have hown : s.vm.findClass "java/lang/StringUTF16" = some m.cls := findClass_of_methodNamed Bd.named
  have hnm := (name_of_methodNamed Bd.named Bd.method).1
  have X0 : Stand p l e ({ frames := 0, cells := 0, slots := 0, locals := 0 } : Room) s m #[(.ref y), (.int 1)] below meth c s₁ [] 0 0 := Stand.of_body Bd
  have e0 : s₁.heap = h0 := by rw [← hh, Bd.state]; rfl
  have N0 := Fr.nil n0
  have pre0 : Goes p e below s₁ (entryFrame m #[(.ref y), (.int 1)] 2) s₁ (mkF m 0 #[.val (.ref y), .val (.int 1)] []) := fun t k => castTop (own_ef_own_cda1 m y (1 : Int32)) k
  rcases (id SDy) with ⟨hcd, hp, Vy⟩ | ⟨hcd, Vy⟩
  · -- coder 0
    have pre1 : Goes p e below s₁ (entryFrame m #[(.ref y), (.int 1)] 2) s₁ (mkF m 2 #[.val (.ref y), .val (.int 1)] [(.ref y), (.int 1)]) := fun t kt => pre0 t (by
        show Steps p.tables e below (s₁.setTop (mkF m 0 #[.val (.ref y), .val (.int 1)] [])) _
        refine XS.iloadN X0.here hx rfl (hb hby own_d_cda1_0) rfl ?_
        refine XS.aloadN X0.here hx rfl (hb hby own_d_cda1_1) rfl rfl ?_
        exact kt)
    obtain ⟨cl2, Ar2, q2, S2, N_2, H2, G2⟩ := (id (Vy))
    have pre3 : Goes p e below s₁ (entryFrame m #[(.ref y), (.int 1)] 2) s₁ (mkF m 7 #[.val (.ref y), .val (.int 1)] [(.int (((0 : Int32).toUInt32 >>> ((31 : Int32) &&& 31).toUInt32).toInt32))]) := fun t kt => pre1 t (by
        show Steps p.tables e below (s₁.setTop (mkF m 2 #[.val (.ref y), .val (.int 1)] [(.ref y), (.int 1)])) _
        refine X0.arraylength hx (by (try rw [e0]); exact Ar2.1) (State.isArrayOf_alike hZ.alike Ar2.2.1) (g := (mkF m 2 #[.val (.ref y), .val (.int 1)] [(.ref y), (.int 1)])) rfl rfl (hb hby own_d_cda1_2) _ ?_
        rw [len_of S2 N_2]
        refine XS.isub X0.here hx rfl (hb hby own_d_cda1_3) rfl ?_
        show Steps p.tables e below (s₁.setTop (mkF m 4 #[.val (.ref y), .val (.int 1)] [(.int 0)])) _
        refine XS.bipush X0.here hx rfl (hb hby own_d_cda1_4) ?_
        refine XS.iushr X0.here hx rfl (hb hby own_d_cda1_6) rfl ?_
        exact kt)
    rw [show (((0 : Int32).toUInt32 >>> ((31 : Int32) &&& 31).toUInt32).toInt32) = (0 : Int32) from (by decide)] at pre3
    have pre4 : Goes p e below s₁ (entryFrame m #[(.ref y), (.int 1)] 2) s₁ (mkF m 8 #[.val (.ref y), .val (.int 1)] [(.int ((0 : Int32).toInt8.toInt32))]) := fun t kt => pre3 t (by
        show Steps p.tables e below (s₁.setTop (mkF m 7 #[.val (.ref y), .val (.int 1)] [(.int 0)])) _
        refine XS.i2b X0.here hx rfl (hb hby own_d_cda1_7) rfl ?_
        exact kt)
    obtain ⟨fs, hr, hrun, hended, hW, hsame⟩ := X0.leave (v := some (.int (nar .byte ((0 : Int32).toInt8.toInt32)))) (fun h => by rw [Bd.returns] at h; cases h)
    refine ⟨_, _, pre4 _ ?_, hrun, hended, _, _, rfl, ?_, ⟨_, rfl⟩, hW, hsame.mono (by decide) (by decide)⟩
    · show Steps p.tables e below (s₁.setTop (mkF m 8 #[.val (.ref y), .val (.int 1)] [(.int ((0 : Int32).toInt8.toInt32))])) _
      exact retN X0 hx (t := .byte) Bd.returns (by simp) (hb hby own_d_cda1_8) hr
    · show Q_own_cda1 Z y ky cd v0 h0 n0 _ s₁.heap _
      rw [e0]
      exact ⟨by rw [hcd]; rfl, N0, rfl⟩
  · -- coder 1
    have pre5 : Goes p e below s₁ (entryFrame m #[(.ref y), (.int 1)] 2) s₁ (mkF m 2 #[.val (.ref y), .val (.int 1)] [(.ref y), (.int 1)]) := fun t kt => pre0 t (by
        show Steps p.tables e below (s₁.setTop (mkF m 0 #[.val (.ref y), .val (.int 1)] [])) _
        refine XS.iloadN X0.here hx rfl (hb hby own_d_cda1_0) rfl ?_
        refine XS.aloadN X0.here hx rfl (hb hby own_d_cda1_1) rfl rfl ?_
        exact kt)
    obtain ⟨cl6, Ar6, q6, S6, N_6, H6, G6⟩ := (id (Vy))
    have pre7 : Goes p e below s₁ (entryFrame m #[(.ref y), (.int 1)] 2) s₁ (mkF m 7 #[.val (.ref y), .val (.int 1)] [(.int (((-1 : Int32).toUInt32 >>> ((31 : Int32) &&& 31).toUInt32).toInt32))]) := fun t kt => pre5 t (by
        show Steps p.tables e below (s₁.setTop (mkF m 2 #[.val (.ref y), .val (.int 1)] [(.ref y), (.int 1)])) _
        refine X0.arraylength hx (by (try rw [e0]); exact Ar6.1) (State.isArrayOf_alike hZ.alike Ar6.2.1) (g := (mkF m 2 #[.val (.ref y), .val (.int 1)] [(.ref y), (.int 1)])) rfl rfl (hb hby own_d_cda1_2) _ ?_
        rw [len_of S6 N_6]
        refine XS.isub X0.here hx rfl (hb hby own_d_cda1_3) rfl ?_
        show Steps p.tables e below (s₁.setTop (mkF m 4 #[.val (.ref y), .val (.int 1)] [(.int (-1 : Int32))])) _
        refine XS.bipush X0.here hx rfl (hb hby own_d_cda1_4) ?_
        refine XS.iushr X0.here hx rfl (hb hby own_d_cda1_6) rfl ?_
        exact kt)
    rw [show (((-1 : Int32).toUInt32 >>> ((31 : Int32) &&& 31).toUInt32).toInt32) = (1 : Int32) from (by decide)] at pre7
    have pre8 : Goes p e below s₁ (entryFrame m #[(.ref y), (.int 1)] 2) s₁ (mkF m 8 #[.val (.ref y), .val (.int 1)] [(.int ((1 : Int32).toInt8.toInt32))]) := fun t kt => pre7 t (by
        show Steps p.tables e below (s₁.setTop (mkF m 7 #[.val (.ref y), .val (.int 1)] [(.int 1)])) _
        refine XS.i2b X0.here hx rfl (hb hby own_d_cda1_7) rfl ?_
        exact kt)
    obtain ⟨fs, hr, hrun, hended, hW, hsame⟩ := X0.leave (v := some (.int (nar .byte ((1 : Int32).toInt8.toInt32)))) (fun h => by rw [Bd.returns] at h; cases h)
    refine ⟨_, _, pre8 _ ?_, hrun, hended, _, _, rfl, ?_, ⟨_, rfl⟩, hW, hsame.mono (by decide) (by decide)⟩
    · show Steps p.tables e below (s₁.setTop (mkF m 8 #[.val (.ref y), .val (.int 1)] [(.int ((1 : Int32).toInt8.toInt32))])) _
      exact retN X0 hx (t := .byte) Bd.returns (by simp) (hb hby own_d_cda1_8) hr
    · show Q_own_cda1 Z y ky cd v0 h0 n0 _ s₁.heap _
      rw [e0]
      exact ⟨by rw [hcd]; rfl, N0, rfl⟩
theorem own_d_sI1_0 : decode jdk_42_method_149_code 0 = .ok (.aload_n 0, 1) := by decide +kernel
theorem own_d_sI1_1 : decode jdk_42_method_149_code 1 = .ok (.invokespecial 1, 3) := by decide +kernel
theorem own_d_sI1_4 : decode jdk_42_method_149_code 4 = .ok (.iload_n 3, 1) := by decide +kernel
theorem own_d_sI1_5 : decode jdk_42_method_149_code 5 = .ok (.ifCond .ne 22, 3) := by decide +kernel
theorem own_d_sI1_27 : decode jdk_42_method_149_code 27 = .ok (.getstatic 38, 3) := by decide +kernel
theorem own_d_sI1_30 : decode jdk_42_method_149_code 30 = .ok (.ifCond .eq 28, 3) := by decide +kernel
theorem own_d_sI1_33 : decode jdk_42_method_149_code 33 = .ok (.aload_n 1, 1) := by decide +kernel
theorem own_d_sI1_34 : decode jdk_42_method_149_code 34 = .ok (.iload_n 2, 1) := by decide +kernel
theorem own_d_sI1_35 : decode jdk_42_method_149_code 35 = .ok (.iload_n 3, 1) := by decide +kernel
theorem own_d_sI1_36 : decode jdk_42_method_149_code 36 = .ok (.invokestatic 177, 3) := by decide +kernel
theorem own_d_sI1_39 : decode jdk_42_method_149_code 39 = .ok (.astore 5, 2) := by decide +kernel
theorem own_d_sI1_41 : decode jdk_42_method_149_code 41 = .ok (.aload_n 0, 1) := by decide +kernel
theorem own_d_sI1_42 : decode jdk_42_method_149_code 42 = .ok (.aload 5, 2) := by decide +kernel
theorem own_d_sI1_44 : decode jdk_42_method_149_code 44 = .ok (.iload_n 3, 1) := by decide +kernel
theorem own_d_sI1_45 : decode jdk_42_method_149_code 45 = .ok (.invokestatic 47, 3) := by decide +kernel
theorem own_d_sI1_48 : decode jdk_42_method_149_code 48 = .ok (.putfield 15, 3) := by decide +kernel
theorem own_d_sI1_51 : decode jdk_42_method_149_code 51 = .ok (.aload_n 0, 1) := by decide +kernel
theorem own_d_sI1_52 : decode jdk_42_method_149_code 52 = .ok (.aload 5, 2) := by decide +kernel
theorem own_d_sI1_54 : decode jdk_42_method_149_code 54 = .ok (.putfield 9, 3) := by decide +kernel
theorem own_d_sI1_57 : decode jdk_42_method_149_code 57 = .ok (.return_, 1) := by decide +kernel
theorem own_pn_own_sI1 : plainName "java/lang/String" = true := by first | (simp [plainName, overriddenIn]; done) | decide +kernel
theorem own_ef_own_sI1 (m : MethodId) (x0 : Addr) (x1 : Addr) (x2 : Int32) (x3 : Int32) : entryFrame m #[(.ref x0), (.ref x1), (.int x2), (.int x3), .null] 6 = mkF m 0 #[.val (.ref x0), .val (.ref x1), .val (.int x2), .val (.int x3), .val .null, .unset] [] := by first | (simp [entryFrame, mkF, argsToLocals, Value.category]; done) | rfl
def Q_own_sI1 (Z : State) (a1 : Addr) (ac : Addr) (kc : ClassId) (uv : Value) (uc : Value) (v0 : Int32) (cs : Int32) (fm : Value) (h0 : Heap) (n0 : Nat) (v : Option Value) (h : Heap) (L : List Loc) : Prop := v = none ∧ Fr n0 L ∧ Keep h0 h [a1] ∧ Exa Z h a1 "java/lang/String" ∧ ∃ (cd : Int32) (y : Addr) (ky : ClassId), Fld Z h a1 "java/lang/String" "coder" "B" (.int cd) ∧ Fld Z h a1 "java/lang/String" "value" "[B" (.ref y) ∧ own_SD Z h y ky cd (1 : Int32) (2 : Int32) [(.int (own_by v0))] [(.int (own_B0 v0)), (.int (own_B1 v0))] (¬ ((255 : Int32) < v0))
set_option maxRecDepth 65536 in
set_option maxHeartbeats 40000000 in
theorem own_sI1 (l : Launch) (Z : State) (a0 : Array Value) (hw : ∀ d ∈ tables_1, d.before a0 Z = true) (ws : List Jvm.Cond) (a1 : Addr) (ac : Addr) (kc : ClassId) (uv : Value) (uc : Value) (v0 : Int32) (cs : Int32) (fm : Value) (h0 : Heap) (n0 : Nat) (Z0 : n0 ≤ h0.size) (E_a1 : Exa Z h0 a1 "java/lang/String") (Fv : Fld Z h0 a1 "java/lang/String" "value" "[B" uv) (Fc : Fld Z h0 a1 "java/lang/String" "coder" "B" uc) (g_a1 : n0 ≤ a1) (V_ac : Arv Z h0 ac kc .char (1 : Int32) [(.int v0)] (.int 0)) (hl0 : (0 ≤ v0.toInt ∧ v0.toInt < 65536)) (hst : own_ST Z cs fm) (O0 : Old Z n0 h0) :
    MetFree l (⟨"java/lang/String", "<init>", "([CIILjava/lang/Void;)V"⟩ : MethodName) (head1 (Jvm.Cond.code (⟨"java/lang/String", "<init>", "([CIILjava/lang/Void;)V"⟩ : MethodName) jdk_42_method_149_code 6 none :: ws) ({ frames := 4, cells := 2, slots := 3, locals := 57 } : Room)) (fun a U => a = #[(.ref a1), (.ref ac), (.int 0), (.int 1), .null] ∧ Z.Warmed39 U.vm ∧ U.heap = h0) (fun _ _ _ _ _ => True) (fun _ U o U' => ∃ v L, o = .returned v ∧ Q_own_sI1 Z a1 ac kc uv uc v0 cs fm h0 n0 v U'.heap L ∧ FrameEnd U o U' L ({ frames := 4, cells := 2, slots := 3, locals := 57 } : Room).cells ({ frames := 4, cells := 2, slots := 3, locals := 57 } : Room).slots) := by
  refine MetFree.of_bodySF (plainFor_of_name own_pn_own_sI1) hisR ?_
  intro p e s m args below meth c s₁ Bd hml0 hP hK
  obtain ⟨rfl, hZ, hh⟩ := hP
  have hx := Bd.exec
  have hby := Bd.bytes
  have hml : c.maxLocals = 6 := hml0
  have hown : s.vm.findClass "java/lang/String" = some m.cls := findClass_of_methodNamed Bd.named
  have hnm := (name_of_methodNamed Bd.named Bd.method).1
  have X0 : Stand p l e ({ frames := 4, cells := 2, slots := 3, locals := 57 } : Room) s m #[(.ref a1), (.ref ac), (.int 0), (.int 1), .null] below meth c s₁ [] 0 0 := Stand.of_body Bd
  have e0 : s₁.heap = h0 := by rw [← hh, Bd.state]; rfl
  have N0 := Fr.nil n0
  have pre0 : Goes p e below s₁ (entryFrame m #[(.ref a1), (.ref ac), (.int 0), (.int 1), .null] 6) s₁ (mkF m 0 #[.val (.ref a1), .val (.ref ac), .val (.int 0), .val (.int 1), .val .null, .unset] []) := fun t k => castTop (own_ef_own_sI1 m a1 ac (0 : Int32) (1 : Int32)) k
  have pre1 : Goes p e below s₁ (entryFrame m #[(.ref a1), (.ref ac), (.int 0), (.int 1), .null] 6) s₁ (mkF m 1 #[.val (.ref a1), .val (.ref ac), .val (.int 0), .val (.int 1), .val .null, .unset] [(.ref a1)]) := fun t kt => pre0 t (by
      show Steps p.tables e below (s₁.setTop (mkF m 0 #[.val (.ref a1), .val (.ref ac), .val (.int 0), .val (.int 1), .val .null, .unset] [])) _
      refine XS.aloadN X0.here hx rfl (hb hby own_d_sI1_0) rfl rfl ?_
      exact kt)
  obtain ⟨T2, X2, e2, st2⟩ := initO X0 hx hZ hown (hw _ (own_mG (i := 16) rfl)) (hw _ (own_mG (i := 17) rfl)) (hw _ (own_mG (i := 18) rfl)) e0 (g := (mkF m 1 #[.val (.ref a1), .val (.ref ac), .val (.int 0), .val (.int 1), .val .null, .unset] [(.ref a1)])) rfl (by rw [hml]; rfl) rfl (hb hby own_d_sI1_1) (by decide) (W := 0) (by show 2 * 0 + _ ≤ _; exact Nat.le_of_eq rfl) (by decide)
  have pre3 : Goes p e below s₁ (entryFrame m #[(.ref a1), (.ref ac), (.int 0), (.int 1), .null] 6) T2 (mkF m 4 #[.val (.ref a1), .val (.ref ac), .val (.int 0), .val (.int 1), .val .null, .unset] []) := fun t kt => pre1 t (st2 t kt)
  have pre4 : Goes p e below s₁ (entryFrame m #[(.ref a1), (.ref ac), (.int 0), (.int 1), .null] 6) T2 (mkF m 27 #[.val (.ref a1), .val (.ref ac), .val (.int 0), .val (.int 1), .val .null, .unset] []) := fun t kt => pre3 t (by
      show Steps p.tables e below (T2.setTop (mkF m 4 #[.val (.ref a1), .val (.ref ac), .val (.int 0), .val (.int 1), .val .null, .unset] [])) _
      refine XS.iloadN X2.here hx rfl (hb hby own_d_sI1_4) rfl ?_
      refine XS.ifYes X2.here hx rfl (pc0 := 5) (pc' := 27) rfl (hb hby own_d_sI1_5) rfl ((if0 _ _).trans (feq (by decide : ¬ ((1 : Int32) = (0 : Int32)))).2) (by decide) (by decide) ?_
      exact kt)
  obtain ⟨T5, X5, e5, st5⟩ := getS2 X2 hx hZ hown (host := "") (Or.inl (hw _ (own_mG (i := 41) rfl))) Via.refl e2 (hst.1.ext O0.2) (g := (mkF m 27 #[.val (.ref a1), .val (.ref ac), .val (.int 0), .val (.int 1), .val .null, .unset] [])) rfl (hb hby own_d_sI1_27)
  have pre6 : Goes p e below s₁ (entryFrame m #[(.ref a1), (.ref ac), (.int 0), (.int 1), .null] 6) T5 (mkF m 30 #[.val (.ref a1), .val (.ref ac), .val (.int 0), .val (.int 1), .val .null, .unset] [(.int cs)]) := fun t kt => pre4 t (st5 t kt)
  have pre7 : Goes p e below s₁ (entryFrame m #[(.ref a1), (.ref ac), (.int 0), (.int 1), .null] 6) T5 (mkF m 36 #[.val (.ref a1), .val (.ref ac), .val (.int 0), .val (.int 1), .val .null, .unset] [(.int 1), (.int 0), (.ref ac)]) := fun t kt => pre6 t (by
      show Steps p.tables e below (T5.setTop (mkF m 30 #[.val (.ref a1), .val (.ref ac), .val (.int 0), .val (.int 1), .val .null, .unset] [(.int cs)])) _
      refine XS.ifNo X5.here hx rfl (hb hby own_d_sI1_30) rfl ((if0 _ _).trans (feq hst.2.1).1) ?_
      refine XS.aloadN X5.here hx rfl (hb hby own_d_sI1_33) rfl rfl ?_
      show Steps p.tables e below (T5.setTop (mkF m 34 #[.val (.ref a1), .val (.ref ac), .val (.int 0), .val (.int 1), .val .null, .unset] [(.ref ac)])) _
      refine XS.iloadN X5.here hx rfl (hb hby own_d_sI1_34) rfl ?_
      refine XS.iloadN X5.here hx rfl (hb hby own_d_sI1_35) rfl ?_
      exact kt)
  obtain ⟨_, _, ⟨T8, L8, k8, n8⟩, -, X8, ⟨Lc8, hQ8, l8, y8, z8⟩, st8⟩ := Jvm.LawKit.callS X5 hx (y := (⟨"java/lang/StringUTF16", "compress", "([CII)[B"⟩ : MethodName)) hown (mvT hZ (hw _ (own_mG (i := 42) rfl))) (mvT hZ (hw _ (own_mG (i := 43) rfl))) (mvT hZ (hw _ (own_mG (i := 44) rfl))) (mvT hZ (hw _ (own_mG (i := 45) rfl))) (by decide) (backOf (W := 0) (own_cou1 l Z a0 hw [] ac kc v0 cs fm h0 n0 Z0 V_ac hl0 hst O0) hZ (hw _ (own_mG (i := 45) rfl)) (hw _ (own_mG (i := 44) rfl)) (by decide) (by decide)) (g := (mkF m 36 #[.val (.ref a1), .val (.ref ac), .val (.int 0), .val (.int 1), .val .null, .unset] [(.int 1), (.int 0), (.ref ac)])) rfl (by rw [hml]; rfl) (argsL := [(.ref ac), (.int 0), (.int 1)]) (rest := []) (lenOf own_pd12 rfl) rfl (by show 2 * 0 + _ ≤ _; exact Nat.le_of_eq rfl) (hb hby own_d_sI1_36) (fun _ _ => ⟨rfl, e5, (by decide : 0 + 2 ≤ _), (by decide : 0 + 3 ≤ _)⟩)
  dsimp only [Pt.U, Pt.locs, Pt.cells, Pt.slots] at X8 l8 y8 z8 st8 hQ8
  subst l8 y8 z8
  obtain ⟨yy8, ky8, cd8, rfl, N8q, K8q, zy8, gy8, Dy8⟩ := hQ8
  have N8 := Fr.app N0 N8q
  have KC8 : Keep h0 T8.heap [a1] := (Keep.refl h0 [a1]).trans K8q all0
  have pre9 : Goes p e below s₁ (entryFrame m #[(.ref a1), (.ref ac), (.int 0), (.int 1), .null] 6) T8 (mkF m 39 #[.val (.ref a1), .val (.ref ac), .val (.int 0), .val (.int 1), .val .null, .unset] [(.ref yy8)]) := fun t kt => pre7 t (st8 t kt)
  have sz_yy8 := zy8
  have g_yy8 := gy8
  have pre10 : Goes p e below s₁ (entryFrame m #[(.ref a1), (.ref ac), (.int 0), (.int 1), .null] 6) T8 (mkF m 45 #[.val (.ref a1), .val (.ref ac), .val (.int 0), .val (.int 1), .val .null, .val (.ref yy8)] [(.int 1), (.ref yy8), (.ref a1)]) := fun t kt => pre9 t (by
      show Steps p.tables e below (T8.setTop (mkF m 39 #[.val (.ref a1), .val (.ref ac), .val (.int 0), .val (.int 1), .val .null, .unset] [(.ref yy8)])) _
      refine XS.astore X8.here hx rfl (hb hby own_d_sI1_39) rfl rfl (l' := #[.val (.ref a1), .val (.ref ac), .val (.int 0), .val (.int 1), .val .null, .val (.ref yy8)]) rfl ?_
      refine XS.aloadN X8.here hx rfl (hb hby own_d_sI1_41) rfl rfl ?_
      show Steps p.tables e below (T8.setTop (mkF m 42 #[.val (.ref a1), .val (.ref ac), .val (.int 0), .val (.int 1), .val .null, .val (.ref yy8)] [(.ref a1)])) _
      refine XS.aload X8.here hx rfl (hb hby own_d_sI1_42) rfl rfl ?_
      refine XS.iloadN X8.here hx rfl (hb hby own_d_sI1_44) rfl ?_
      exact kt)
  obtain ⟨_, _, ⟨T11, L11, k11, n11⟩, -, X11, ⟨Lc11, hQ11, l11, y11, z11⟩, st11⟩ := Jvm.LawKit.callS X8 hx (y := (⟨"java/lang/StringUTF16", "coderFromArrayLen", "([BI)B"⟩ : MethodName)) hown (mvT hZ (hw _ (own_mG (i := 49) rfl))) (mvT hZ (hw _ (own_mG (i := 50) rfl))) (mvT hZ (hw _ (own_mG (i := 44) rfl))) (mvT hZ (hw _ (own_mG (i := 51) rfl))) (by decide) (backOf (W := 1) (own_cda1 l Z a0 hw [] yy8 ky8 cd8 v0 T8.heap n0 (Nat.le_trans Z0 K8q.1) Dy8) hZ (hw _ (own_mG (i := 51) rfl)) (hw _ (own_mG (i := 44) rfl)) (by decide) (by decide)) (g := (mkF m 45 #[.val (.ref a1), .val (.ref ac), .val (.int 0), .val (.int 1), .val .null, .val (.ref yy8)] [(.int 1), (.ref yy8), (.ref a1)])) rfl (by rw [hml]; rfl) (argsL := [(.ref yy8), (.int 1)]) (rest := [(.ref a1)]) (lenOf own_pd13 rfl) rfl (by show 2 * 0 + _ ≤ _; exact Nat.le_of_eq rfl) (hb hby own_d_sI1_45) (fun _ _ => ⟨rfl, rfl, (by decide : 2 + 0 ≤ _), (by decide : 3 + 0 ≤ _)⟩)
  dsimp only [Pt.U, Pt.locs, Pt.cells, Pt.slots] at X11 l11 y11 z11 st11 hQ11
  subst l11 y11 z11
  obtain ⟨rfl, N11q, e11⟩ := hQ11
  have N11 := Fr.app N8 N11q
  have pre12 : Goes p e below s₁ (entryFrame m #[(.ref a1), (.ref ac), (.int 0), (.int 1), .null] 6) T11 (mkF m 48 #[.val (.ref a1), .val (.ref ac), .val (.int 0), .val (.int 1), .val .null, .val (.ref yy8)] [(.int cd8), (.ref a1)]) := fun t kt => pre10 t (st11 t kt)
  have hB : narrow .byte (.int cd8) = .int cd8 ∧ fits .byte (.int cd8) = true := by rcases Dy8 with ⟨rfl, -, -⟩ | ⟨rfl, -⟩ <;> exact ⟨rfl, rfl⟩
  obtain ⟨T13, h13, X13, e13, W13, st13⟩ := putFN X11 hx hZ hown (hw _ (own_mG (i := 26) rfl)) Via.refl e11 (Fc.keep K8q nin0) (E_a1.keep K8q) (Or.inr ⟨(hw _ (own_mG (i := 22) rfl)), rfl, hnm⟩) (hw _ (own_mG (i := 6) rfl)) (ty := .byte) (v' := (.int cd8)) (by decide) hB.1 hB.2 (g := (mkF m 48 #[.val (.ref a1), .val (.ref ac), .val (.int 0), .val (.int 1), .val .null, .val (.ref yy8)] [(.int cd8), (.ref a1)])) rfl rfl (hb hby own_d_sI1_48)
  have Fw13 := (Fc.keep K8q nin0).same W13
  have K13 : Keep h0 h13 [a1] := KC8.wr W13 (Or.inl (own_mG (i := 0) rfl))
  have N13 := Fr.snoc X13 N11 g_a1
  have pre14 : Goes p e below s₁ (entryFrame m #[(.ref a1), (.ref ac), (.int 0), (.int 1), .null] 6) T13 (mkF m 51 #[.val (.ref a1), .val (.ref ac), .val (.int 0), .val (.int 1), .val .null, .val (.ref yy8)] []) := fun t kt => pre12 t (st13 t kt)
  have pre15 : Goes p e below s₁ (entryFrame m #[(.ref a1), (.ref ac), (.int 0), (.int 1), .null] 6) T13 (mkF m 54 #[.val (.ref a1), .val (.ref ac), .val (.int 0), .val (.int 1), .val .null, .val (.ref yy8)] [(.ref yy8), (.ref a1)]) := fun t kt => pre14 t (by
      show Steps p.tables e below (T13.setTop (mkF m 51 #[.val (.ref a1), .val (.ref ac), .val (.int 0), .val (.int 1), .val .null, .val (.ref yy8)] [])) _
      refine XS.aloadN X13.here hx rfl (hb hby own_d_sI1_51) rfl rfl ?_
      refine XS.aload X13.here hx rfl (hb hby own_d_sI1_52) rfl rfl ?_
      exact kt)
  obtain ⟨T16, h16, X16, e16, W16, st16⟩ := putF X13 hx hZ hown (host := "") (Or.inl (hw _ (own_mG (i := 25) rfl))) Via.refl e13 ((Fv.keep K8q nin0).other W13 (Or.inr (slot_ne (Or.inr (hw _ (own_mG (i := 21) rfl))) (Or.inr (hw _ (own_mG (i := 22) rfl))) (by decide) (t := (.array .byte)) (t' := .byte) (by decide) (by decide)))) ((E_a1.keep K8q).wr W13) (Or.inr ⟨(hw _ (own_mG (i := 21) rfl)), rfl, hnm⟩) (hw _ (own_mG (i := 6) rfl)) (ty := (.array .byte)) (by decide) rfl rfl (g := (mkF m 54 #[.val (.ref a1), .val (.ref ac), .val (.int 0), .val (.int 1), .val .null, .val (.ref yy8)] [(.ref yy8), (.ref a1)])) rfl rfl (hb hby own_d_sI1_54)
  have Fw16 := ((Fv.keep K8q nin0).other W13 (Or.inr (slot_ne (Or.inr (hw _ (own_mG (i := 21) rfl))) (Or.inr (hw _ (own_mG (i := 22) rfl))) (by decide) (t := (.array .byte)) (t' := .byte) (by decide) (by decide)))).same W16
  have K16 : Keep h0 h16 [a1] := K13.wr W16 (Or.inl (own_mG (i := 0) rfl))
  have N16 := Fr.snoc X16 N13 g_a1
  have pre17 : Goes p e below s₁ (entryFrame m #[(.ref a1), (.ref ac), (.int 0), (.int 1), .null] 6) T16 (mkF m 57 #[.val (.ref a1), .val (.ref ac), .val (.int 0), .val (.int 1), .val .null, .val (.ref yy8)] []) := fun t kt => pre15 t (st16 t kt)
  obtain ⟨fs, hr, hrun, hended, hW, hsame⟩ := X16.leave (v := none) (fun _ => rfl)
  refine ⟨_, _, pre17 _ ?_, hrun, hended, _, _, rfl, ?_, ⟨_, rfl⟩, hW, hsame.mono (by decide) (by decide)⟩
  · show Steps p.tables e below (T16.setTop (mkF m 57 #[.val (.ref a1), .val (.ref ac), .val (.int 0), .val (.int 1), .val .null, .val (.ref yy8)] [])) _
    exact X16.returnOut hx Bd.returns (hb hby own_d_sI1_57) hr
  · show Q_own_sI1 Z a1 ac kc uv uc v0 cs fm h0 n0 _ T16.heap _
    rw [e16]
    exact ⟨rfl, N16, K16, (((E_a1.keep K8q).wr W13).wr W16), cd8, yy8, ky8, (Fw13.other W16 (Or.inr (slot_ne (Or.inr (hw _ (own_mG (i := 22) rfl))) (Or.inr (hw _ (own_mG (i := 21) rfl))) (by decide) (t := .byte) (t' := (.array .byte)) (by decide) (by decide)))), Fw16, ((Dy8.other W13 (Ne.symm (Nat.ne_of_lt (Nat.lt_of_lt_of_le E_a1.lt zy8)))).other W16 (Ne.symm (Nat.ne_of_lt (Nat.lt_of_lt_of_le E_a1.lt zy8))))⟩
theorem own_d_sJ1_0 : decode jdk_42_method_3_code 0 = .ok (.aload_n 0, 1) := by decide +kernel
theorem own_d_sJ1_1 : decode jdk_42_method_3_code 1 = .ok (.aload_n 1, 1) := by decide +kernel
theorem own_d_sJ1_2 : decode jdk_42_method_3_code 2 = .ok (.iconst 0, 1) := by decide +kernel
theorem own_d_sJ1_3 : decode jdk_42_method_3_code 3 = .ok (.aload_n 1, 1) := by decide +kernel
theorem own_d_sJ1_4 : decode jdk_42_method_3_code 4 = .ok (.arraylength, 1) := by decide +kernel
theorem own_d_sJ1_5 : decode jdk_42_method_3_code 5 = .ok (.aconst_null, 1) := by decide +kernel
theorem own_d_sJ1_6 : decode jdk_42_method_3_code 6 = .ok (.invokespecial 27, 3) := by decide +kernel
theorem own_d_sJ1_9 : decode jdk_42_method_3_code 9 = .ok (.return_, 1) := by decide +kernel
theorem own_pn_own_sJ1 : plainName "java/lang/String" = true := by first | (simp [plainName, overriddenIn]; done) | decide +kernel
theorem own_ef_own_sJ1 (m : MethodId) (x0 : Addr) (x1 : Addr) : entryFrame m #[(.ref x0), (.ref x1)] 2 = mkF m 0 #[.val (.ref x0), .val (.ref x1)] [] := by first | (simp [entryFrame, mkF, argsToLocals, Value.category]; done) | rfl
def Q_own_sJ1 (Z : State) (a1 : Addr) (ac : Addr) (kc : ClassId) (uv : Value) (uc : Value) (v0 : Int32) (cs : Int32) (fm : Value) (h0 : Heap) (n0 : Nat) (v : Option Value) (h : Heap) (L : List Loc) : Prop := v = none ∧ Fr n0 L ∧ Keep h0 h [a1] ∧ Exa Z h a1 "java/lang/String" ∧ ∃ (cd : Int32) (y : Addr) (ky : ClassId), Fld Z h a1 "java/lang/String" "coder" "B" (.int cd) ∧ Fld Z h a1 "java/lang/String" "value" "[B" (.ref y) ∧ own_SD Z h y ky cd (1 : Int32) (2 : Int32) [(.int (own_by v0))] [(.int (own_B0 v0)), (.int (own_B1 v0))] (¬ ((255 : Int32) < v0))
set_option maxRecDepth 65536 in
set_option maxHeartbeats 40000000 in
theorem own_sJ1 (l : Launch) (Z : State) (a0 : Array Value) (hw : ∀ d ∈ tables_1, d.before a0 Z = true) (ws : List Jvm.Cond) (a1 : Addr) (ac : Addr) (kc : ClassId) (uv : Value) (uc : Value) (v0 : Int32) (cs : Int32) (fm : Value) (h0 : Heap) (n0 : Nat) (Z0 : n0 ≤ h0.size) (E_a1 : Exa Z h0 a1 "java/lang/String") (Fv : Fld Z h0 a1 "java/lang/String" "value" "[B" uv) (Fc : Fld Z h0 a1 "java/lang/String" "coder" "B" uc) (g_a1 : n0 ≤ a1) (V_ac : Arv Z h0 ac kc .char (1 : Int32) [(.int v0)] (.int 0)) (hl0 : (0 ≤ v0.toInt ∧ v0.toInt < 65536)) (hst : own_ST Z cs fm) (O0 : Old Z n0 h0) :
    MetFree l (⟨"java/lang/String", "<init>", "([C)V"⟩ : MethodName) (head1 (Jvm.Cond.code (⟨"java/lang/String", "<init>", "([C)V"⟩ : MethodName) jdk_42_method_3_code 2 none :: ws) ({ frames := 5, cells := 2, slots := 3, locals := 74 } : Room)) (fun a U => a = #[(.ref a1), (.ref ac)] ∧ Z.Warmed39 U.vm ∧ U.heap = h0) (fun _ _ _ _ _ => True) (fun _ U o U' => ∃ v L, o = .returned v ∧ Q_own_sJ1 Z a1 ac kc uv uc v0 cs fm h0 n0 v U'.heap L ∧ FrameEnd U o U' L ({ frames := 5, cells := 2, slots := 3, locals := 74 } : Room).cells ({ frames := 5, cells := 2, slots := 3, locals := 74 } : Room).slots) := by
  refine MetFree.of_bodySF (plainFor_of_name own_pn_own_sJ1) hisR ?_
  intro p e s m args below meth c s₁ Bd hml0 hP hK
  obtain ⟨rfl, hZ, hh⟩ := hP
  have hx := Bd.exec
  have hby := Bd.bytes
  have hml : c.maxLocals = 2 := hml0
  have hown : s.vm.findClass "java/lang/String" = some m.cls := findClass_of_methodNamed Bd.named
  have hnm := (name_of_methodNamed Bd.named Bd.method).1
  have X0 : Stand p l e ({ frames := 5, cells := 2, slots := 3, locals := 74 } : Room) s m #[(.ref a1), (.ref ac)] below meth c s₁ [] 0 0 := Stand.of_body Bd
  have e0 : s₁.heap = h0 := by rw [← hh, Bd.state]; rfl
  have N0 := Fr.nil n0
  have pre0 : Goes p e below s₁ (entryFrame m #[(.ref a1), (.ref ac)] 2) s₁ (mkF m 0 #[.val (.ref a1), .val (.ref ac)] []) := fun t k => castTop (own_ef_own_sJ1 m a1 ac) k
  have pre1 : Goes p e below s₁ (entryFrame m #[(.ref a1), (.ref ac)] 2) s₁ (mkF m 4 #[.val (.ref a1), .val (.ref ac)] [(.ref ac), (.int 0), (.ref ac), (.ref a1)]) := fun t kt => pre0 t (by
      show Steps p.tables e below (s₁.setTop (mkF m 0 #[.val (.ref a1), .val (.ref ac)] [])) _
      refine XS.aloadN X0.here hx rfl (hb hby own_d_sJ1_0) rfl rfl ?_
      refine XS.aloadN X0.here hx rfl (hb hby own_d_sJ1_1) rfl rfl ?_
      show Steps p.tables e below (s₁.setTop (mkF m 2 #[.val (.ref a1), .val (.ref ac)] [(.ref ac), (.ref a1)])) _
      refine XS.iconst X0.here hx rfl (hb hby own_d_sJ1_2) ?_
      refine XS.aloadN X0.here hx rfl (hb hby own_d_sJ1_3) rfl rfl ?_
      exact kt)
  obtain ⟨cl2, Ar2, q2, S2, N_2, H2, G2⟩ := (id (V_ac))
  have pre3 : Goes p e below s₁ (entryFrame m #[(.ref a1), (.ref ac)] 2) s₁ (mkF m 6 #[.val (.ref a1), .val (.ref ac)] [.null, (.int 1), (.int 0), (.ref ac), (.ref a1)]) := fun t kt => pre1 t (by
      show Steps p.tables e below (s₁.setTop (mkF m 4 #[.val (.ref a1), .val (.ref ac)] [(.ref ac), (.int 0), (.ref ac), (.ref a1)])) _
      refine X0.arraylength hx (by (try rw [e0]); exact Ar2.1) (State.isArrayOf_alike hZ.alike Ar2.2.1) (g := (mkF m 4 #[.val (.ref a1), .val (.ref ac)] [(.ref ac), (.int 0), (.ref ac), (.ref a1)])) rfl rfl (hb hby own_d_sJ1_4) _ ?_
      rw [len_of S2 N_2]
      refine XS.aconstNull X0.here hx rfl (hb hby own_d_sJ1_5) ?_
      exact kt)
  obtain ⟨_, _, ⟨T4, L4, k4, n4⟩, -, X4, ⟨Lc4, hQ4, l4, y4, z4⟩, st4⟩ := X0.specialBack hx (y := (⟨"java/lang/String", "<init>", "([CIILjava/lang/Void;)V"⟩ : MethodName)) rfl hown (mvT hZ (hw _ (own_mG (i := 12) rfl))) (mvT hZ (hw _ (own_mG (i := 13) rfl))) (mvT hZ (hw _ (own_mG (i := 15) rfl))) (by decide) (backOf (W := 0) (own_sI1 l Z a0 hw [] a1 ac kc uv uc v0 cs fm h0 n0 Z0 E_a1 Fv Fc g_a1 V_ac hl0 hst O0) hZ (hw _ (own_mG (i := 15) rfl)) (hw _ (own_mG (i := 7) rfl)) (by decide) (by decide)) (g := (mkF m 6 #[.val (.ref a1), .val (.ref ac)] [.null, (.int 1), (.int 0), (.ref ac), (.ref a1)])) rfl (by rw [hml]; rfl) (Steps.refl _) (a := a1) (argsL := [(.ref ac), (.int 0), (.int 1), .null]) (rest := []) (lenOf own_pd0 rfl) rfl (by show 2 * 0 + _ ≤ _; exact Nat.le_of_eq rfl) (hb hby own_d_sJ1_6) (fun _ _ => ⟨rfl, e0, (by decide : 0 + 2 ≤ _), (by decide : 0 + 3 ≤ _)⟩)
  dsimp only [Pt.U, Pt.locs, Pt.cells, Pt.slots] at X4 l4 y4 z4 st4 hQ4
  subst l4 y4 z4
  obtain ⟨rfl, N4q, K4q, Rest4⟩ := hQ4
  have N4 := Fr.app N0 N4q
  have KC4 : Keep h0 T4.heap [a1] := (Keep.refl h0 [a1]).trans K4q (allS (Or.inl (own_mG (i := 0) rfl)) all0)
  have pre5 : Goes p e below s₁ (entryFrame m #[(.ref a1), (.ref ac)] 2) T4 (mkF m 9 #[.val (.ref a1), .val (.ref ac)] []) := fun t kt => pre3 t (st4.trans kt)
  obtain ⟨fs, hr, hrun, hended, hW, hsame⟩ := X4.leave (v := none) (fun _ => rfl)
  refine ⟨_, _, pre5 _ ?_, hrun, hended, _, _, rfl, ?_, ⟨_, rfl⟩, hW, hsame.mono (by decide) (by decide)⟩
  · show Steps p.tables e below (T4.setTop (mkF m 9 #[.val (.ref a1), .val (.ref ac)] [])) _
    exact X4.returnOut hx Bd.returns (hb hby own_d_sJ1_9) hr
  · show Q_own_sJ1 Z a1 ac kc uv uc v0 cs fm h0 n0 _ T4.heap _
    exact ⟨rfl, N4, KC4, Rest4⟩
theorem own_d_cin2_0 : decode jdk_52_method_21_code 0 = .ok (.iconst 0, 1) := by decide +kernel
theorem own_d_cin2_1 : decode jdk_52_method_21_code 1 = .ok (.istore 5, 2) := by decide +kernel
theorem own_d_cin2_3 : decode jdk_52_method_21_code 3 = .ok (.iload 5, 2) := by decide +kernel
theorem own_d_cin2_5 : decode jdk_52_method_21_code 5 = .ok (.iload 4, 2) := by decide +kernel
theorem own_d_cin2_7 : decode jdk_52_method_21_code 7 = .ok (.if_icmp .ge 37, 3) := by decide +kernel
theorem own_d_cin2_10 : decode jdk_52_method_21_code 10 = .ok (.aload_n 0, 1) := by decide +kernel
theorem own_d_cin2_11 : decode jdk_52_method_21_code 11 = .ok (.iload_n 1, 1) := by decide +kernel
theorem own_d_cin2_12 : decode jdk_52_method_21_code 12 = .ok (.caload, 1) := by decide +kernel
theorem own_d_cin2_13 : decode jdk_52_method_21_code 13 = .ok (.istore 6, 2) := by decide +kernel
theorem own_d_cin2_15 : decode jdk_52_method_21_code 15 = .ok (.iload 6, 2) := by decide +kernel
theorem own_d_cin2_17 : decode jdk_52_method_21_code 17 = .ok (.sipush 255, 3) := by decide +kernel
theorem own_d_cin2_20 : decode jdk_52_method_21_code 20 = .ok (.if_icmp .le 6, 3) := by decide +kernel
theorem own_d_cin2_23 : decode jdk_52_method_21_code 23 = .ok (.iload 5, 2) := by decide +kernel
theorem own_d_cin2_25 : decode jdk_52_method_21_code 25 = .ok (.ireturn, 1) := by decide +kernel
theorem own_d_cin2_26 : decode jdk_52_method_21_code 26 = .ok (.aload_n 2, 1) := by decide +kernel
theorem own_d_cin2_27 : decode jdk_52_method_21_code 27 = .ok (.iload_n 3, 1) := by decide +kernel
theorem own_d_cin2_28 : decode jdk_52_method_21_code 28 = .ok (.iload 6, 2) := by decide +kernel
theorem own_d_cin2_30 : decode jdk_52_method_21_code 30 = .ok (.i2b, 1) := by decide +kernel
theorem own_d_cin2_31 : decode jdk_52_method_21_code 31 = .ok (.bastore, 1) := by decide +kernel
theorem own_d_cin2_32 : decode jdk_52_method_21_code 32 = .ok (.iinc 1 1, 3) := by decide +kernel
theorem own_d_cin2_35 : decode jdk_52_method_21_code 35 = .ok (.iinc 3 1, 3) := by decide +kernel
theorem own_d_cin2_38 : decode jdk_52_method_21_code 38 = .ok (.iinc 5 1, 3) := by decide +kernel
theorem own_d_cin2_41 : decode jdk_52_method_21_code 41 = .ok (.goto (-38), 3) := by decide +kernel
theorem own_d_cin2_44 : decode jdk_52_method_21_code 44 = .ok (.iload 4, 2) := by decide +kernel
theorem own_d_cin2_46 : decode jdk_52_method_21_code 46 = .ok (.ireturn, 1) := by decide +kernel
theorem own_pn_own_cin2 : plainName "java/lang/StringUTF16" = true := by first | (simp [plainName, overriddenIn]; done) | decide +kernel
theorem own_ef_own_cin2 (m : MethodId) (x0 : Addr) (x1 : Int32) (x2 : Addr) (x3 : Int32) (x4 : Int32) : entryFrame m #[(.ref x0), (.int x1), (.ref x2), (.int x3), (.int x4)] 7 = mkF m 0 #[.val (.ref x0), .val (.int x1), .val (.ref x2), .val (.int x3), .val (.int x4), .unset, .unset] [] := by first | (simp [entryFrame, mkF, argsToLocals, Value.category]; done) | rfl
def Q_own_cin2 (Z : State) (ac : Addr) (ab : Addr) (kc : ClassId) (kb : ClassId) (v0 : Int32) (v1 : Int32) (h0 : Heap) (n0 : Nat) (v : Option Value) (h : Heap) (L : List Loc) : Prop := ∃ z : Int32, v = some (.int z) ∧ Fr n0 L ∧ Keep h0 h [ab] ∧ ((z = (2 : Int32) ∧ (¬ ((255 : Int32) < v0) ∧ ¬ ((255 : Int32) < v1)) ∧ Arv Z h ab kb .byte (2 : Int32) [(.int (own_by v0)), (.int (own_by v1))] (.int 0)) ∨ (z = (0 : Int32) ∧ (255 : Int32) < v0) ∨ (z = (1 : Int32) ∧ (255 : Int32) < v1))
set_option maxRecDepth 65536 in
set_option maxHeartbeats 40000000 in
theorem own_cin2 (l : Launch) (Z : State) (a0 : Array Value) (hw : ∀ d ∈ tables_1, d.before a0 Z = true) (ws : List Jvm.Cond) (ac : Addr) (ab : Addr) (kc : ClassId) (kb : ClassId) (v0 : Int32) (v1 : Int32) (h0 : Heap) (n0 : Nat) (Z0 : n0 ≤ h0.size) (V_ac : Arv Z h0 ac kc .char (2 : Int32) [(.int v0), (.int v1)] (.int 0)) (V_ab : Arv Z h0 ab kb .byte (2 : Int32) [(.int 0), (.int 0)] (.int 0)) (g_ab : n0 ≤ ab) (nab : ac ≠ ab) :
    MetFree l (⟨"java/lang/StringUTF16", "compress", "([CI[BII)I"⟩ : MethodName) (head1 (Jvm.Cond.code (⟨"java/lang/StringUTF16", "compress", "([CI[BII)I"⟩ : MethodName) jdk_52_method_21_code 7 (some .int) :: ws) ({ frames := 0, cells := 0, slots := 0, locals := 0 } : Room)) (fun a U => a = #[(.ref ac), (.int 0), (.ref ab), (.int 0), (.int 2)] ∧ Z.Warmed39 U.vm ∧ U.heap = h0) (fun _ _ _ _ _ => True) (fun _ U o U' => ∃ v L, o = .returned v ∧ Q_own_cin2 Z ac ab kc kb v0 v1 h0 n0 v U'.heap L ∧ FrameEnd U o U' L ({ frames := 0, cells := 0, slots := 0, locals := 0 } : Room).cells ({ frames := 0, cells := 0, slots := 0, locals := 0 } : Room).slots) := by
  refine MetFree.of_bodySF (plainFor_of_name own_pn_own_cin2) hisR ?_
  intro p e s m args below meth c s₁ Bd hml0 hP hK
  obtain ⟨rfl, hZ, hh⟩ := hP
  have hx := Bd.exec
  have hby := Bd.bytes
  have hml : c.maxLocals = 7 := hml0
  have hown : s.vm.findClass "java/lang/StringUTF16" = some m.cls := findClass_of_methodNamed Bd.named
  have hnm := (name_of_methodNamed Bd.named Bd.method).1
  have X0 : Stand p l e ({ frames := 0, cells := 0, slots := 0, locals := 0 } : Room) s m #[(.ref ac), (.int 0), (.ref ab), (.int 0), (.int 2)] below meth c s₁ [] 0 0 := Stand.of_body Bd
  have e0 : s₁.heap = h0 := by rw [← hh, Bd.state]; rfl
  have N0 := Fr.nil n0
  have pre0 : Goes p e below s₁ (entryFrame m #[(.ref ac), (.int 0), (.ref ab), (.int 0), (.int 2)] 7) s₁ (mkF m 0 #[.val (.ref ac), .val (.int 0), .val (.ref ab), .val (.int 0), .val (.int 2), .unset, .unset] []) := fun t k => castTop (own_ef_own_cin2 m ac (0 : Int32) ab (0 : Int32) (2 : Int32)) k
  have pre1 : Goes p e below s₁ (entryFrame m #[(.ref ac), (.int 0), (.ref ab), (.int 0), (.int 2)] 7) s₁ (mkF m 12 #[.val (.ref ac), .val (.int 0), .val (.ref ab), .val (.int 0), .val (.int 2), .val (.int 0), .unset] [(.int 0), (.ref ac)]) := fun t kt => pre0 t (by
      show Steps p.tables e below (s₁.setTop (mkF m 0 #[.val (.ref ac), .val (.int 0), .val (.ref ab), .val (.int 0), .val (.int 2), .unset, .unset] [])) _
      refine XS.iconst X0.here hx rfl (hb hby own_d_cin2_0) ?_
      refine XS.istore X0.here hx rfl (hb hby own_d_cin2_1) rfl (l' := #[.val (.ref ac), .val (.int 0), .val (.ref ab), .val (.int 0), .val (.int 2), .val (.int 0), .unset]) rfl ?_
      show Steps p.tables e below (s₁.setTop (mkF m 3 #[.val (.ref ac), .val (.int 0), .val (.ref ab), .val (.int 0), .val (.int 2), .val (.int 0), .unset] [])) _
      refine XS.iload X0.here hx rfl (hb hby own_d_cin2_3) rfl ?_
      refine XS.iload X0.here hx rfl (hb hby own_d_cin2_5) rfl ?_
      show Steps p.tables e below (s₁.setTop (mkF m 7 #[.val (.ref ac), .val (.int 0), .val (.ref ab), .val (.int 0), .val (.int 2), .val (.int 0), .unset] [(.int 2), (.int 0)])) _
      refine XS.icmpNo X0.here hx rfl (hb hby own_d_cin2_7) rfl (tlt (by decide : (0 : Int32) < (2 : Int32))).2.1 ?_
      refine XS.aloadN X0.here hx rfl (hb hby own_d_cin2_10) rfl rfl ?_
      show Steps p.tables e below (s₁.setTop (mkF m 11 #[.val (.ref ac), .val (.int 0), .val (.ref ab), .val (.int 0), .val (.int 2), .val (.int 0), .unset] [(.ref ac)])) _
      refine XS.iloadN X0.here hx rfl (hb hby own_d_cin2_11) rfl ?_
      exact kt)
  obtain ⟨cl2, Ar2, q2, S2, N_2, H2, G2⟩ := (id (V_ac))
  have hin2 : ¬ ((0 : Int32) < 0 ∨ cl2.slots.size ≤ ((0 : Int32)).toNatClampNeg) := inb_of S2 ⟨by decide, by decide⟩
  have hat2 : cl2.slots[((0 : Int32)).toNatClampNeg]? = some (.int v0) := Has.at H2 hin2 rfl
  have pre3 : Goes p e below s₁ (entryFrame m #[(.ref ac), (.int 0), (.ref ab), (.int 0), (.int 2)] 7) s₁ (mkF m 20 #[.val (.ref ac), .val (.int 0), .val (.ref ab), .val (.int 0), .val (.int 2), .val (.int 0), .val (.int v0)] [(.int 255), (.int v0)]) := fun t kt => pre1 t (by
      show Steps p.tables e below (s₁.setTop (mkF m 12 #[.val (.ref ac), .val (.int 0), .val (.ref ab), .val (.int 0), .val (.int 2), .val (.int 0), .unset] [(.int 0), (.ref ac)])) _
      refine X0.caload hx (j := (0 : Int32)) (v := (.int v0)) (by (try rw [e0]); exact Ar2.1) (State.isArrayOf_alike hZ.alike Ar2.2.1) Ar2.2.2 hin2 hat2 (g := (mkF m 12 #[.val (.ref ac), .val (.int 0), .val (.ref ab), .val (.int 0), .val (.int 2), .val (.int 0), .unset] [(.int 0), (.ref ac)])) rfl rfl (hb hby own_d_cin2_12) _ ?_
      refine XS.istore X0.here hx rfl (hb hby own_d_cin2_13) rfl (l' := #[.val (.ref ac), .val (.int 0), .val (.ref ab), .val (.int 0), .val (.int 2), .val (.int 0), .val (.int v0)]) rfl ?_
      show Steps p.tables e below (s₁.setTop (mkF m 15 #[.val (.ref ac), .val (.int 0), .val (.ref ab), .val (.int 0), .val (.int 2), .val (.int 0), .val (.int v0)] [])) _
      refine XS.iload X0.here hx rfl (hb hby own_d_cin2_15) rfl ?_
      refine XS.sipush X0.here hx rfl (hb hby own_d_cin2_17) ?_
      exact kt)
  by_cases hc20_4 : (255 : Int32) < v0
  · -- yes at pc 20: f
    have pre5 : Goes p e below s₁ (entryFrame m #[(.ref ac), (.int 0), (.ref ab), (.int 0), (.int 2)] 7) s₁ (mkF m 25 #[.val (.ref ac), .val (.int 0), .val (.ref ab), .val (.int 0), .val (.int 2), .val (.int 0), .val (.int v0)] [(.int 0)]) := fun t kt => pre3 t (by
        show Steps p.tables e below (s₁.setTop (mkF m 20 #[.val (.ref ac), .val (.int 0), .val (.ref ab), .val (.int 0), .val (.int 2), .val (.int 0), .val (.int v0)] [(.int 255), (.int v0)])) _
        refine XS.icmpNo X0.here hx rfl (hb hby own_d_cin2_20) rfl (tlt hc20_4).2.2.2 ?_
        refine XS.iload X0.here hx rfl (hb hby own_d_cin2_23) rfl ?_
        exact kt)
    obtain ⟨fs, hr, hrun, hended, hW, hsame⟩ := X0.leave (v := some (.int 0)) (fun h => by rw [Bd.returns] at h; cases h)
    refine ⟨_, _, pre5 _ ?_, hrun, hended, _, _, rfl, ?_, ⟨_, rfl⟩, hW, hsame.mono (by decide) (by decide)⟩
    · show Steps p.tables e below (s₁.setTop (mkF m 25 #[.val (.ref ac), .val (.int 0), .val (.ref ab), .val (.int 0), .val (.int 2), .val (.int 0), .val (.int v0)] [(.int 0)])) _
      exact retI X0 hx Bd.returns (hb hby own_d_cin2_25) hr
    · show Q_own_cin2 Z ac ab kc kb v0 v1 h0 n0 _ s₁.heap _
      rw [e0]
      exact ⟨_, rfl, N0, (Keep.refl h0 [ab]), (Or.inr (Or.inl ⟨rfl, hc20_4⟩))⟩
  · -- no at pc 20: f
    have pre6 : Goes p e below s₁ (entryFrame m #[(.ref ac), (.int 0), (.ref ab), (.int 0), (.int 2)] 7) s₁ (mkF m 31 #[.val (.ref ac), .val (.int 0), .val (.ref ab), .val (.int 0), .val (.int 2), .val (.int 0), .val (.int v0)] [(.int (v0.toInt8.toInt32)), (.int 0), (.ref ab)]) := fun t kt => pre3 t (by
        show Steps p.tables e below (s₁.setTop (mkF m 20 #[.val (.ref ac), .val (.int 0), .val (.ref ab), .val (.int 0), .val (.int 2), .val (.int 0), .val (.int v0)] [(.int 255), (.int v0)])) _
        refine XS.icmpYes X0.here hx rfl (pc0 := 20) (pc' := 26) rfl (hb hby own_d_cin2_20) rfl (flt hc20_4).2.2.2 (by decide) (by decide) ?_
        refine XS.aloadN X0.here hx rfl (hb hby own_d_cin2_26) rfl rfl ?_
        show Steps p.tables e below (s₁.setTop (mkF m 27 #[.val (.ref ac), .val (.int 0), .val (.ref ab), .val (.int 0), .val (.int 2), .val (.int 0), .val (.int v0)] [(.ref ab)])) _
        refine XS.iloadN X0.here hx rfl (hb hby own_d_cin2_27) rfl ?_
        refine XS.iload X0.here hx rfl (hb hby own_d_cin2_28) rfl ?_
        show Steps p.tables e below (s₁.setTop (mkF m 30 #[.val (.ref ac), .val (.int 0), .val (.ref ab), .val (.int 0), .val (.int 2), .val (.int 0), .val (.int v0)] [(.int v0), (.int 0), (.ref ab)])) _
        refine XS.i2b X0.here hx rfl (hb hby own_d_cin2_30) rfl ?_
        exact kt)
    obtain ⟨cl7, Ar7, q7, S7, N_7, H7, G7⟩ := (id (V_ab))
    have hin7 : ¬ ((0 : Int32) < 0 ∨ cl7.slots.size ≤ ((0 : Int32)).toNatClampNeg) := inb_of S7 ⟨by decide, by decide⟩
    obtain ⟨T8, h8, X8, e8, W8, st8⟩ := stB X0 hx hZ e0 Ar7 (j := (0 : Int32)) hin7 (g := (mkF m 31 #[.val (.ref ac), .val (.int 0), .val (.ref ab), .val (.int 0), .val (.int 2), .val (.int 0), .val (.int v0)] [(.int (v0.toInt8.toInt32)), (.int 0), (.ref ab)])) rfl rfl (hb hby own_d_cin2_31)
    have V8 : Arv Z h8 ab kb .byte (2 : Int32) [(.int (nar .byte (v0.toInt8.toInt32))), (.int 0)] (.int 0) := Arv.set Ar7 q7 S7 N_7 H7 G7 (fits_nar_byte _) W8 0 rfl (Nat.le_of_ble_eq_true rfl)
    have K8 : Keep h0 h8 [ab] := (Keep.refl h0 [ab]).wr W8 (Or.inl (own_mG (i := 0) rfl))
    have N8 := Fr.snoc X8 N0 g_ab
    have pre9 : Goes p e below s₁ (entryFrame m #[(.ref ac), (.int 0), (.ref ab), (.int 0), (.int 2)] 7) T8 (mkF m 32 #[.val (.ref ac), .val (.int 0), .val (.ref ab), .val (.int 0), .val (.int 2), .val (.int 0), .val (.int v0)] []) := fun t kt => pre6 t (st8 t kt)
    have pre10 : Goes p e below s₁ (entryFrame m #[(.ref ac), (.int 0), (.ref ab), (.int 0), (.int 2)] 7) T8 (mkF m 12 #[.val (.ref ac), .val (.int 1), .val (.ref ab), .val (.int 1), .val (.int 2), .val (.int 1), .val (.int v0)] [(.int 1), (.ref ac)]) := fun t kt => pre9 t (by
        show Steps p.tables e below (T8.setTop (mkF m 32 #[.val (.ref ac), .val (.int 0), .val (.ref ab), .val (.int 0), .val (.int 2), .val (.int 0), .val (.int v0)] [])) _
        refine XS.iinc X8.here hx rfl (hb hby own_d_cin2_32) rfl (l' := #[.val (.ref ac), .val (.int 1), .val (.ref ab), .val (.int 0), .val (.int 2), .val (.int 0), .val (.int v0)]) rfl ?_
        refine XS.iinc X8.here hx rfl (hb hby own_d_cin2_35) rfl (l' := #[.val (.ref ac), .val (.int 1), .val (.ref ab), .val (.int 1), .val (.int 2), .val (.int 0), .val (.int v0)]) rfl ?_
        show Steps p.tables e below (T8.setTop (mkF m 38 #[.val (.ref ac), .val (.int 1), .val (.ref ab), .val (.int 1), .val (.int 2), .val (.int 0), .val (.int v0)] [])) _
        refine XS.iinc X8.here hx rfl (hb hby own_d_cin2_38) rfl (l' := #[.val (.ref ac), .val (.int 1), .val (.ref ab), .val (.int 1), .val (.int 2), .val (.int 1), .val (.int v0)]) rfl ?_
        refine XS.goto X8.here hx rfl (pc0 := 41) (pc' := 3) rfl (hb hby own_d_cin2_41) (by decide) (by decide) ?_
        show Steps p.tables e below (T8.setTop (mkF m 3 #[.val (.ref ac), .val (.int 1), .val (.ref ab), .val (.int 1), .val (.int 2), .val (.int 1), .val (.int v0)] [])) _
        refine XS.iload X8.here hx rfl (hb hby own_d_cin2_3) rfl ?_
        refine XS.iload X8.here hx rfl (hb hby own_d_cin2_5) rfl ?_
        show Steps p.tables e below (T8.setTop (mkF m 7 #[.val (.ref ac), .val (.int 1), .val (.ref ab), .val (.int 1), .val (.int 2), .val (.int 1), .val (.int v0)] [(.int 2), (.int 1)])) _
        refine XS.icmpNo X8.here hx rfl (hb hby own_d_cin2_7) rfl (tlt (by decide : (1 : Int32) < (2 : Int32))).2.1 ?_
        refine XS.aloadN X8.here hx rfl (hb hby own_d_cin2_10) rfl rfl ?_
        show Steps p.tables e below (T8.setTop (mkF m 11 #[.val (.ref ac), .val (.int 1), .val (.ref ab), .val (.int 1), .val (.int 2), .val (.int 1), .val (.int v0)] [(.ref ac)])) _
        refine XS.iloadN X8.here hx rfl (hb hby own_d_cin2_11) rfl ?_
        exact kt)
    obtain ⟨cl11, Ar11, q11, S11, N_11, H11, G11⟩ := (id ((V_ac.other W8 nab)))
    have hin11 : ¬ ((1 : Int32) < 0 ∨ cl11.slots.size ≤ ((1 : Int32)).toNatClampNeg) := inb_of S11 ⟨by decide, by decide⟩
    have hat11 : cl11.slots[((1 : Int32)).toNatClampNeg]? = some (.int v1) := Has.at H11 hin11 rfl
    have pre12 : Goes p e below s₁ (entryFrame m #[(.ref ac), (.int 0), (.ref ab), (.int 0), (.int 2)] 7) T8 (mkF m 20 #[.val (.ref ac), .val (.int 1), .val (.ref ab), .val (.int 1), .val (.int 2), .val (.int 1), .val (.int v1)] [(.int 255), (.int v1)]) := fun t kt => pre10 t (by
        show Steps p.tables e below (T8.setTop (mkF m 12 #[.val (.ref ac), .val (.int 1), .val (.ref ab), .val (.int 1), .val (.int 2), .val (.int 1), .val (.int v0)] [(.int 1), (.ref ac)])) _
        refine X8.caload hx (j := (1 : Int32)) (v := (.int v1)) (by (try rw [e8]); exact Ar11.1) (State.isArrayOf_alike hZ.alike Ar11.2.1) Ar11.2.2 hin11 hat11 (g := (mkF m 12 #[.val (.ref ac), .val (.int 1), .val (.ref ab), .val (.int 1), .val (.int 2), .val (.int 1), .val (.int v0)] [(.int 1), (.ref ac)])) rfl rfl (hb hby own_d_cin2_12) _ ?_
        refine XS.istore X8.here hx rfl (hb hby own_d_cin2_13) rfl (l' := #[.val (.ref ac), .val (.int 1), .val (.ref ab), .val (.int 1), .val (.int 2), .val (.int 1), .val (.int v1)]) rfl ?_
        show Steps p.tables e below (T8.setTop (mkF m 15 #[.val (.ref ac), .val (.int 1), .val (.ref ab), .val (.int 1), .val (.int 2), .val (.int 1), .val (.int v1)] [])) _
        refine XS.iload X8.here hx rfl (hb hby own_d_cin2_15) rfl ?_
        refine XS.sipush X8.here hx rfl (hb hby own_d_cin2_17) ?_
        exact kt)
    by_cases hc20_13 : (255 : Int32) < v1
    · -- yes at pc 20: ftf
      have pre14 : Goes p e below s₁ (entryFrame m #[(.ref ac), (.int 0), (.ref ab), (.int 0), (.int 2)] 7) T8 (mkF m 25 #[.val (.ref ac), .val (.int 1), .val (.ref ab), .val (.int 1), .val (.int 2), .val (.int 1), .val (.int v1)] [(.int 1)]) := fun t kt => pre12 t (by
          show Steps p.tables e below (T8.setTop (mkF m 20 #[.val (.ref ac), .val (.int 1), .val (.ref ab), .val (.int 1), .val (.int 2), .val (.int 1), .val (.int v1)] [(.int 255), (.int v1)])) _
          refine XS.icmpNo X8.here hx rfl (hb hby own_d_cin2_20) rfl (tlt hc20_13).2.2.2 ?_
          refine XS.iload X8.here hx rfl (hb hby own_d_cin2_23) rfl ?_
          exact kt)
      obtain ⟨fs, hr, hrun, hended, hW, hsame⟩ := X8.leave (v := some (.int 1)) (fun h => by rw [Bd.returns] at h; cases h)
      refine ⟨_, _, pre14 _ ?_, hrun, hended, _, _, rfl, ?_, ⟨_, rfl⟩, hW, hsame.mono (by decide) (by decide)⟩
      · show Steps p.tables e below (T8.setTop (mkF m 25 #[.val (.ref ac), .val (.int 1), .val (.ref ab), .val (.int 1), .val (.int 2), .val (.int 1), .val (.int v1)] [(.int 1)])) _
        exact retI X8 hx Bd.returns (hb hby own_d_cin2_25) hr
      · show Q_own_cin2 Z ac ab kc kb v0 v1 h0 n0 _ T8.heap _
        rw [e8]
        exact ⟨_, rfl, N8, K8, (Or.inr (Or.inr (⟨rfl, hc20_13⟩)))⟩
    · -- no at pc 20: ftf
      have pre15 : Goes p e below s₁ (entryFrame m #[(.ref ac), (.int 0), (.ref ab), (.int 0), (.int 2)] 7) T8 (mkF m 31 #[.val (.ref ac), .val (.int 1), .val (.ref ab), .val (.int 1), .val (.int 2), .val (.int 1), .val (.int v1)] [(.int (v1.toInt8.toInt32)), (.int 1), (.ref ab)]) := fun t kt => pre12 t (by
          show Steps p.tables e below (T8.setTop (mkF m 20 #[.val (.ref ac), .val (.int 1), .val (.ref ab), .val (.int 1), .val (.int 2), .val (.int 1), .val (.int v1)] [(.int 255), (.int v1)])) _
          refine XS.icmpYes X8.here hx rfl (pc0 := 20) (pc' := 26) rfl (hb hby own_d_cin2_20) rfl (flt hc20_13).2.2.2 (by decide) (by decide) ?_
          refine XS.aloadN X8.here hx rfl (hb hby own_d_cin2_26) rfl rfl ?_
          show Steps p.tables e below (T8.setTop (mkF m 27 #[.val (.ref ac), .val (.int 1), .val (.ref ab), .val (.int 1), .val (.int 2), .val (.int 1), .val (.int v1)] [(.ref ab)])) _
          refine XS.iloadN X8.here hx rfl (hb hby own_d_cin2_27) rfl ?_
          refine XS.iload X8.here hx rfl (hb hby own_d_cin2_28) rfl ?_
          show Steps p.tables e below (T8.setTop (mkF m 30 #[.val (.ref ac), .val (.int 1), .val (.ref ab), .val (.int 1), .val (.int 2), .val (.int 1), .val (.int v1)] [(.int v1), (.int 1), (.ref ab)])) _
          refine XS.i2b X8.here hx rfl (hb hby own_d_cin2_30) rfl ?_
          exact kt)
      obtain ⟨cl16, Ar16, q16, S16, N_16, H16, G16⟩ := (id (V8))
      have hin16 : ¬ ((1 : Int32) < 0 ∨ cl16.slots.size ≤ ((1 : Int32)).toNatClampNeg) := inb_of S16 ⟨by decide, by decide⟩
      obtain ⟨T17, h17, X17, e17, W17, st17⟩ := stB X8 hx hZ e8 Ar16 (j := (1 : Int32)) hin16 (g := (mkF m 31 #[.val (.ref ac), .val (.int 1), .val (.ref ab), .val (.int 1), .val (.int 2), .val (.int 1), .val (.int v1)] [(.int (v1.toInt8.toInt32)), (.int 1), (.ref ab)])) rfl rfl (hb hby own_d_cin2_31)
      have V17 : Arv Z h17 ab kb .byte (2 : Int32) [(.int (nar .byte (v0.toInt8.toInt32))), (.int (nar .byte (v1.toInt8.toInt32)))] (.int 0) := Arv.set Ar16 q16 S16 N_16 H16 G16 (fits_nar_byte _) W17 1 rfl (Nat.le_of_ble_eq_true rfl)
      have K17 : Keep h0 h17 [ab] := K8.wr W17 (Or.inl (own_mG (i := 0) rfl))
      have N17 := Fr.snoc X17 N8 g_ab
      have pre18 : Goes p e below s₁ (entryFrame m #[(.ref ac), (.int 0), (.ref ab), (.int 0), (.int 2)] 7) T17 (mkF m 32 #[.val (.ref ac), .val (.int 1), .val (.ref ab), .val (.int 1), .val (.int 2), .val (.int 1), .val (.int v1)] []) := fun t kt => pre15 t (st17 t kt)
      have pre19 : Goes p e below s₁ (entryFrame m #[(.ref ac), (.int 0), (.ref ab), (.int 0), (.int 2)] 7) T17 (mkF m 46 #[.val (.ref ac), .val (.int 2), .val (.ref ab), .val (.int 2), .val (.int 2), .val (.int 2), .val (.int v1)] [(.int 2)]) := fun t kt => pre18 t (by
          show Steps p.tables e below (T17.setTop (mkF m 32 #[.val (.ref ac), .val (.int 1), .val (.ref ab), .val (.int 1), .val (.int 2), .val (.int 1), .val (.int v1)] [])) _
          refine XS.iinc X17.here hx rfl (hb hby own_d_cin2_32) rfl (l' := #[.val (.ref ac), .val (.int 2), .val (.ref ab), .val (.int 1), .val (.int 2), .val (.int 1), .val (.int v1)]) rfl ?_
          refine XS.iinc X17.here hx rfl (hb hby own_d_cin2_35) rfl (l' := #[.val (.ref ac), .val (.int 2), .val (.ref ab), .val (.int 2), .val (.int 2), .val (.int 1), .val (.int v1)]) rfl ?_
          show Steps p.tables e below (T17.setTop (mkF m 38 #[.val (.ref ac), .val (.int 2), .val (.ref ab), .val (.int 2), .val (.int 2), .val (.int 1), .val (.int v1)] [])) _
          refine XS.iinc X17.here hx rfl (hb hby own_d_cin2_38) rfl (l' := #[.val (.ref ac), .val (.int 2), .val (.ref ab), .val (.int 2), .val (.int 2), .val (.int 2), .val (.int v1)]) rfl ?_
          refine XS.goto X17.here hx rfl (pc0 := 41) (pc' := 3) rfl (hb hby own_d_cin2_41) (by decide) (by decide) ?_
          show Steps p.tables e below (T17.setTop (mkF m 3 #[.val (.ref ac), .val (.int 2), .val (.ref ab), .val (.int 2), .val (.int 2), .val (.int 2), .val (.int v1)] [])) _
          refine XS.iload X17.here hx rfl (hb hby own_d_cin2_3) rfl ?_
          refine XS.iload X17.here hx rfl (hb hby own_d_cin2_5) rfl ?_
          show Steps p.tables e below (T17.setTop (mkF m 7 #[.val (.ref ac), .val (.int 2), .val (.ref ab), .val (.int 2), .val (.int 2), .val (.int 2), .val (.int v1)] [(.int 2), (.int 2)])) _
          refine XS.icmpYes X17.here hx rfl (pc0 := 7) (pc' := 44) rfl (hb hby own_d_cin2_7) rfl (flt (by decide : ¬ ((2 : Int32) < (2 : Int32)))).2.1 (by decide) (by decide) ?_
          refine XS.iload X17.here hx rfl (hb hby own_d_cin2_44) rfl ?_
          exact kt)
      obtain ⟨fs, hr, hrun, hended, hW, hsame⟩ := X17.leave (v := some (.int 2)) (fun h => by rw [Bd.returns] at h; cases h)
      refine ⟨_, _, pre19 _ ?_, hrun, hended, _, _, rfl, ?_, ⟨_, rfl⟩, hW, hsame.mono (by decide) (by decide)⟩
      · show Steps p.tables e below (T17.setTop (mkF m 46 #[.val (.ref ac), .val (.int 2), .val (.ref ab), .val (.int 2), .val (.int 2), .val (.int 2), .val (.int v1)] [(.int 2)])) _
        exact retI X17 hx Bd.returns (hb hby own_d_cin2_46) hr
      · show Q_own_cin2 Z ac ab kc kb v0 v1 h0 n0 _ T17.heap _
        rw [e17]
        exact ⟨_, rfl, N17, K17, (Or.inl ⟨rfl, ⟨hc20_4, hc20_13⟩, V17⟩)⟩
theorem own_d_nbl2_0 : decode jdk_52_method_3_code 0 = .ok (.iload_n 0, 1) := by decide +kernel
theorem own_d_nbl2_1 : decode jdk_52_method_3_code 1 = .ok (.ifCond .ge 11, 3) := by decide +kernel
theorem own_d_nbl2_12 : decode jdk_52_method_3_code 12 = .ok (.iload_n 0, 1) := by decide +kernel
theorem own_d_nbl2_13 : decode jdk_52_method_3_code 13 = .ok (.ldc 20, 2) := by decide +kernel
theorem own_d_nbl2_15 : decode jdk_52_method_3_code 15 = .ok (.if_icmp .lt 40, 3) := by decide +kernel
theorem own_d_nbl2_55 : decode jdk_52_method_3_code 55 = .ok (.iload_n 0, 1) := by decide +kernel
theorem own_d_nbl2_56 : decode jdk_52_method_3_code 56 = .ok (.iconst 1, 1) := by decide +kernel
theorem own_d_nbl2_57 : decode jdk_52_method_3_code 57 = .ok (.ishl, 1) := by decide +kernel
theorem own_d_nbl2_58 : decode jdk_52_method_3_code 58 = .ok (.ireturn, 1) := by decide +kernel
theorem own_pn_own_nbl2 : plainName "java/lang/StringUTF16" = true := by first | (simp [plainName, overriddenIn]; done) | decide +kernel
theorem own_ef_own_nbl2 (m : MethodId) (x0 : Int32) : entryFrame m #[(.int x0)] 1 = mkF m 0 #[.val (.int x0)] [] := by first | (simp [entryFrame, mkF, argsToLocals, Value.category]; done) | rfl
def Q_own_nbl2 (Z : State)  (h0 : Heap) (n0 : Nat) (v : Option Value) (h : Heap) (L : List Loc) : Prop := v = some (.int 4) ∧ Fr n0 L ∧ h = h0
set_option maxRecDepth 65536 in
set_option maxHeartbeats 40000000 in
theorem own_nbl2 (l : Launch) (Z : State) (a0 : Array Value) (hw : ∀ d ∈ tables_1, d.before a0 Z = true) (ws : List Jvm.Cond)  (h0 : Heap) (n0 : Nat) (Z0 : n0 ≤ h0.size) :
    MetFree l (⟨"java/lang/StringUTF16", "newBytesLength", "(I)I"⟩ : MethodName) (head1 (Jvm.Cond.code (⟨"java/lang/StringUTF16", "newBytesLength", "(I)I"⟩ : MethodName) jdk_52_method_3_code 1 (some .int) :: ws) ({ frames := 0, cells := 0, slots := 0, locals := 0 } : Room)) (fun a U => a = #[(.int 2)] ∧ Z.Warmed39 U.vm ∧ U.heap = h0) (fun _ _ _ _ _ => True) (fun _ U o U' => ∃ v L, o = .returned v ∧ Q_own_nbl2 Z  h0 n0 v U'.heap L ∧ FrameEnd U o U' L ({ frames := 0, cells := 0, slots := 0, locals := 0 } : Room).cells ({ frames := 0, cells := 0, slots := 0, locals := 0 } : Room).slots) := by
  refine MetFree.of_bodySF (plainFor_of_name own_pn_own_nbl2) hisR ?_
  intro p e s m args below meth c s₁ Bd hml0 hP hK
  obtain ⟨rfl, hZ, hh⟩ := hP
  have hx := Bd.exec
  have hby := Bd.bytes
  have hml : c.maxLocals = 1 := hml0
  have hown : s.vm.findClass "java/lang/StringUTF16" = some m.cls := findClass_of_methodNamed Bd.named
  have hnm := (name_of_methodNamed Bd.named Bd.method).1
  have X0 : Stand p l e ({ frames := 0, cells := 0, slots := 0, locals := 0 } : Room) s m #[(.int 2)] below meth c s₁ [] 0 0 := Stand.of_body Bd
  have e0 : s₁.heap = h0 := by rw [← hh, Bd.state]; rfl
  have N0 := Fr.nil n0
  have pre0 : Goes p e below s₁ (entryFrame m #[(.int 2)] 1) s₁ (mkF m 0 #[.val (.int 2)] []) := fun t k => castTop (own_ef_own_nbl2 m (2 : Int32)) k
  have pre1 : Goes p e below s₁ (entryFrame m #[(.int 2)] 1) s₁ (mkF m 58 #[.val (.int 2)] [(.int ((2 : Int32) <<< ((1 : Int32) &&& 31)))]) := fun t kt => pre0 t (by
      show Steps p.tables e below (s₁.setTop (mkF m 0 #[.val (.int 2)] [])) _
      refine XS.iloadN X0.here hx rfl (hb hby own_d_nbl2_0) rfl ?_
      refine XS.ifYes X0.here hx rfl (pc0 := 1) (pc' := 12) rfl (hb hby own_d_nbl2_1) rfl ((if0 _ _).trans (flt (by decide : ¬ ((2 : Int32) < (0 : Int32)))).2.1) (by decide) (by decide) ?_
      show Steps p.tables e below (s₁.setTop (mkF m 12 #[.val (.int 2)] [])) _
      refine XS.iloadN X0.here hx rfl (hb hby own_d_nbl2_12) rfl ?_
      refine X0.ldcInt hx hown (mvT hZ (hw _ (own_mG (i := 86) rfl))) (g := (mkF m 13 #[.val (.int 2)] [(.int 2)])) rfl (hb hby own_d_nbl2_13) _ ?_
      show Steps p.tables e below (s₁.setTop (mkF m 15 #[.val (.int 2)] [(.int 1073741823), (.int 2)])) _
      refine XS.icmpYes X0.here hx rfl (pc0 := 15) (pc' := 55) rfl (hb hby own_d_nbl2_15) rfl (tlt (by decide : (2 : Int32) < (1073741823 : Int32))).1 (by decide) (by decide) ?_
      refine XS.iloadN X0.here hx rfl (hb hby own_d_nbl2_55) rfl ?_
      show Steps p.tables e below (s₁.setTop (mkF m 56 #[.val (.int 2)] [(.int 2)])) _
      refine XS.iconst X0.here hx rfl (hb hby own_d_nbl2_56) ?_
      refine XS.ishl X0.here hx rfl (hb hby own_d_nbl2_57) rfl ?_
      exact kt)
  rw [show ((2 : Int32) <<< ((1 : Int32) &&& 31)) = (4 : Int32) from (by decide)] at pre1
  obtain ⟨fs, hr, hrun, hended, hW, hsame⟩ := X0.leave (v := some (.int 4)) (fun h => by rw [Bd.returns] at h; cases h)
  refine ⟨_, _, pre1 _ ?_, hrun, hended, _, _, rfl, ?_, ⟨_, rfl⟩, hW, hsame.mono (by decide) (by decide)⟩
  · show Steps p.tables e below (s₁.setTop (mkF m 58 #[.val (.int 2)] [(.int 4)])) _
    exact retI X0 hx Bd.returns (hb hby own_d_nbl2_58) hr
  · show Q_own_nbl2 Z  h0 n0 _ s₁.heap _
    rw [e0]
    exact ⟨rfl, N0, rfl⟩
theorem own_d_nbf2_0 : decode jdk_52_method_2_code 0 = .ok (.iload_n 0, 1) := by decide +kernel
theorem own_d_nbf2_1 : decode jdk_52_method_2_code 1 = .ok (.invokestatic 11, 3) := by decide +kernel
theorem own_d_nbf2_4 : decode jdk_52_method_2_code 4 = .ok (.newarray .byte, 2) := by decide +kernel
theorem own_d_nbf2_6 : decode jdk_52_method_2_code 6 = .ok (.areturn, 1) := by decide +kernel
theorem own_pn_own_nbf2 : plainName "java/lang/StringUTF16" = true := by first | (simp [plainName, overriddenIn]; done) | decide +kernel
theorem own_ef_own_nbf2 (m : MethodId) (x0 : Int32) : entryFrame m #[(.int x0)] 1 = mkF m 0 #[.val (.int x0)] [] := by first | (simp [entryFrame, mkF, argsToLocals, Value.category]; done) | rfl
def Q_own_nbf2 (Z : State)  (h0 : Heap) (n0 : Nat) (v : Option Value) (h : Heap) (L : List Loc) : Prop := ∃ (y : Addr) (ky : ClassId), v = some (.ref y) ∧ Fr n0 L ∧ Keep h0 h [] ∧ h0.size ≤ y ∧ n0 ≤ y ∧ Arv Z h y ky .byte (4 : Int32) [(.int 0), (.int 0), (.int 0), (.int 0)] (.int 0)
set_option maxRecDepth 65536 in
set_option maxHeartbeats 40000000 in
theorem own_nbf2 (l : Launch) (Z : State) (a0 : Array Value) (hw : ∀ d ∈ tables_1, d.before a0 Z = true) (ws : List Jvm.Cond)  (h0 : Heap) (n0 : Nat) (Z0 : n0 ≤ h0.size) :
    MetFree l (⟨"java/lang/StringUTF16", "newBytesFor", "(I)[B"⟩ : MethodName) (head1 (Jvm.Cond.code (⟨"java/lang/StringUTF16", "newBytesFor", "(I)[B"⟩ : MethodName) jdk_52_method_2_code 1 (some (.array .byte)) :: ws) ({ frames := 1, cells := 1, slots := 4, locals := 12 } : Room)) (fun a U => a = #[(.int 2)] ∧ Z.Warmed39 U.vm ∧ U.heap = h0) (fun _ _ _ _ _ => True) (fun _ U o U' => ∃ v L, o = .returned v ∧ Q_own_nbf2 Z  h0 n0 v U'.heap L ∧ FrameEnd U o U' L ({ frames := 1, cells := 1, slots := 4, locals := 12 } : Room).cells ({ frames := 1, cells := 1, slots := 4, locals := 12 } : Room).slots) := by
  refine MetFree.of_bodySF (plainFor_of_name own_pn_own_nbf2) hisR ?_
  intro p e s m args below meth c s₁ Bd hml0 hP hK
  obtain ⟨rfl, hZ, hh⟩ := hP
  have hx := Bd.exec
  have hby := Bd.bytes
  have hml : c.maxLocals = 1 := hml0
  have hown : s.vm.findClass "java/lang/StringUTF16" = some m.cls := findClass_of_methodNamed Bd.named
  have hnm := (name_of_methodNamed Bd.named Bd.method).1
  have X0 : Stand p l e ({ frames := 1, cells := 1, slots := 4, locals := 12 } : Room) s m #[(.int 2)] below meth c s₁ [] 0 0 := Stand.of_body Bd
  have e0 : s₁.heap = h0 := by rw [← hh, Bd.state]; rfl
  have N0 := Fr.nil n0
  have pre0 : Goes p e below s₁ (entryFrame m #[(.int 2)] 1) s₁ (mkF m 0 #[.val (.int 2)] []) := fun t k => castTop (own_ef_own_nbf2 m (2 : Int32)) k
  have pre1 : Goes p e below s₁ (entryFrame m #[(.int 2)] 1) s₁ (mkF m 1 #[.val (.int 2)] [(.int 2)]) := fun t kt => pre0 t (by
      show Steps p.tables e below (s₁.setTop (mkF m 0 #[.val (.int 2)] [])) _
      refine XS.iloadN X0.here hx rfl (hb hby own_d_nbf2_0) rfl ?_
      exact kt)
  obtain ⟨_, _, ⟨T2, L2, k2, n2⟩, -, X2, ⟨Lc2, hQ2, l2, y2, z2⟩, st2⟩ := Jvm.LawKit.callS X0 hx (y := (⟨"java/lang/StringUTF16", "newBytesLength", "(I)I"⟩ : MethodName)) hown (mvT hZ (hw _ (own_mG (i := 83) rfl))) (mvT hZ (hw _ (own_mG (i := 84) rfl))) (mvT hZ (hw _ (own_mG (i := 44) rfl))) (mvT hZ (hw _ (own_mG (i := 85) rfl))) (by decide) (backOf (W := 0) (own_nbl2 l Z a0 hw []  h0 n0 Z0 ) hZ (hw _ (own_mG (i := 85) rfl)) (hw _ (own_mG (i := 44) rfl)) (by decide) (by decide)) (g := (mkF m 1 #[.val (.int 2)] [(.int 2)])) rfl (by rw [hml]; rfl) (argsL := [(.int 2)]) (rest := []) (lenOf own_pd8 rfl) rfl (by show 2 * 0 + _ ≤ _; exact Nat.le_of_eq rfl) (hb hby own_d_nbf2_1) (fun _ _ => ⟨rfl, e0, (by decide : 0 + 0 ≤ _), (by decide : 0 + 0 ≤ _)⟩)
  dsimp only [Pt.U, Pt.locs, Pt.cells, Pt.slots] at X2 l2 y2 z2 st2 hQ2
  subst l2 y2 z2
  obtain ⟨rfl, N2q, e2⟩ := hQ2
  have N2 := Fr.app N0 N2q
  have pre3 : Goes p e below s₁ (entryFrame m #[(.int 2)] 1) T2 (mkF m 4 #[.val (.int 2)] [(.int 4)]) := fun t kt => pre1 t (st2 t kt)
  obtain ⟨T4, h4, k4, X4, e4, E4, A4, st4⟩ := newP X2 hx hZ (hw _ (own_mG (i := 20) rfl)) e2 (g := (mkF m 4 #[.val (.int 2)] [(.int 4)])) rfl (hb hby own_d_nbf2_4) rfl (by decide) (cap := 4) (by decide) (by decide) (by decide) (by decide)
  obtain ⟨b4, g4⟩ : ∃ z, z = h0.size := ⟨_, rfl⟩
  rw [← g4] at A4 st4
  have V_b4 : Arv Z h4 b4 k4 .byte (4 : Int32) [(.int 0), (.int 0), (.int 0), (.int 0)] (.int 0) := (Arv.new A4 (by decide)).pad (pad_rep [] (.int 0) 4)
  have g_b4 : n0 ≤ b4 := Nat.le_trans Z0 (Nat.le_of_eq g4.symm)
  have sz_b4 : h0.size ≤ b4 := (Nat.le_trans (Keep.refl h0 []).1 (Nat.le_of_eq g4.symm))
  have K4 : Keep h0 h4 [] := (Keep.refl h0 []).ext E4
  have pre5 : Goes p e below s₁ (entryFrame m #[(.int 2)] 1) T4 (mkF m 6 #[.val (.int 2)] [(.ref b4)]) := fun t kt => pre3 t (st4 t kt)
  obtain ⟨fs, hr, hrun, hended, hW, hsame⟩ := X4.leave (v := some (.ref b4)) (fun h => by rw [Bd.returns] at h; cases h)
  refine ⟨_, _, pre5 _ ?_, hrun, hended, _, _, rfl, ?_, ⟨_, rfl⟩, hW, hsame.mono (by decide) (by decide)⟩
  · show Steps p.tables e below (T4.setTop (mkF m 6 #[.val (.int 2)] [(.ref b4)])) _
    jvm_step X4.here [X4.here.top, hx, (hb hby own_d_nbf2_6), X4.method', Bd.returns, Value.isRef, FieldType.isReference]
    first | (intro acts; rw [hr _ acts rfl rfl rfl]) | rw [hr _ _ rfl rfl rfl]
    exact Steps.refl _
  · show Q_own_nbf2 Z  h0 n0 _ T4.heap _
    rw [e4]
    exact ⟨b4, k4, rfl, N2, K4, sz_b4, g_b4, V_b4⟩
theorem own_d_tob2_0 : decode jdk_52_method_14_code 0 = .ok (.iload_n 2, 1) := by decide +kernel
theorem own_d_tob2_1 : decode jdk_52_method_14_code 1 = .ok (.invokestatic 107, 3) := by decide +kernel
theorem own_d_tob2_4 : decode jdk_52_method_14_code 4 = .ok (.astore_n 3, 1) := by decide +kernel
theorem own_d_tob2_5 : decode jdk_52_method_14_code 5 = .ok (.iconst 0, 1) := by decide +kernel
theorem own_d_tob2_6 : decode jdk_52_method_14_code 6 = .ok (.istore 4, 2) := by decide +kernel
theorem own_d_tob2_8 : decode jdk_52_method_14_code 8 = .ok (.iload 4, 2) := by decide +kernel
theorem own_d_tob2_10 : decode jdk_52_method_14_code 10 = .ok (.iload_n 2, 1) := by decide +kernel
theorem own_d_tob2_11 : decode jdk_52_method_14_code 11 = .ok (.if_icmp .ge 21, 3) := by decide +kernel
theorem own_d_tob2_14 : decode jdk_52_method_14_code 14 = .ok (.aload_n 3, 1) := by decide +kernel
theorem own_d_tob2_15 : decode jdk_52_method_14_code 15 = .ok (.iload 4, 2) := by decide +kernel
theorem own_d_tob2_17 : decode jdk_52_method_14_code 17 = .ok (.aload_n 0, 1) := by decide +kernel
theorem own_d_tob2_18 : decode jdk_52_method_14_code 18 = .ok (.iload_n 1, 1) := by decide +kernel
theorem own_d_tob2_19 : decode jdk_52_method_14_code 19 = .ok (.caload, 1) := by decide +kernel
theorem own_d_tob2_20 : decode jdk_52_method_14_code 20 = .ok (.invokestatic 111, 3) := by decide +kernel
theorem own_d_tob2_23 : decode jdk_52_method_14_code 23 = .ok (.iinc 1 1, 3) := by decide +kernel
theorem own_d_tob2_26 : decode jdk_52_method_14_code 26 = .ok (.iinc 4 1, 3) := by decide +kernel
theorem own_d_tob2_29 : decode jdk_52_method_14_code 29 = .ok (.goto (-21), 3) := by decide +kernel
theorem own_d_tob2_32 : decode jdk_52_method_14_code 32 = .ok (.aload_n 3, 1) := by decide +kernel
theorem own_d_tob2_33 : decode jdk_52_method_14_code 33 = .ok (.areturn, 1) := by decide +kernel
theorem own_pn_own_tob2 : plainName "java/lang/StringUTF16" = true := by first | (simp [plainName, overriddenIn]; done) | decide +kernel
theorem own_ef_own_tob2 (m : MethodId) (x0 : Addr) (x1 : Int32) (x2 : Int32) : entryFrame m #[(.ref x0), (.int x1), (.int x2)] 5 = mkF m 0 #[.val (.ref x0), .val (.int x1), .val (.int x2), .unset, .unset] [] := by first | (simp [entryFrame, mkF, argsToLocals, Value.category]; done) | rfl
def Q_own_tob2 (Z : State) (ac : Addr) (kc : ClassId) (v0 : Int32) (v1 : Int32) (cs : Int32) (fm : Value) (h0 : Heap) (n0 : Nat) (v : Option Value) (h : Heap) (L : List Loc) : Prop := ∃ (y : Addr) (ky : ClassId), v = some (.ref y) ∧ Fr n0 L ∧ Keep h0 h [] ∧ h0.size ≤ y ∧ n0 ≤ y ∧ Arv Z h y ky .byte (4 : Int32) [(.int (own_B0 v0)), (.int (own_B1 v0)), (.int (own_B0 v1)), (.int (own_B1 v1))] (.int 0)
set_option maxRecDepth 65536 in
set_option maxHeartbeats 40000000 in
theorem own_tob2 (l : Launch) (Z : State) (a0 : Array Value) (hw : ∀ d ∈ tables_1, d.before a0 Z = true) (ws : List Jvm.Cond) (ac : Addr) (kc : ClassId) (v0 : Int32) (v1 : Int32) (cs : Int32) (fm : Value) (h0 : Heap) (n0 : Nat) (Z0 : n0 ≤ h0.size) (V_ac : Arv Z h0 ac kc .char (2 : Int32) [(.int v0), (.int v1)] (.int 0)) (hst : own_ST Z cs fm) (O0 : Old Z n0 h0) :
    MetFree l (⟨"java/lang/StringUTF16", "toBytes", "([CII)[B"⟩ : MethodName) (head1 (Jvm.Cond.code (⟨"java/lang/StringUTF16", "toBytes", "([CII)[B"⟩ : MethodName) jdk_52_method_14_code 5 (some (.array .byte)) :: ws) ({ frames := 2, cells := 1, slots := 4, locals := 24 } : Room)) (fun a U => a = #[(.ref ac), (.int 0), (.int 2)] ∧ Z.Warmed39 U.vm ∧ U.heap = h0) (fun _ _ _ _ _ => True) (fun _ U o U' => ∃ v L, o = .returned v ∧ Q_own_tob2 Z ac kc v0 v1 cs fm h0 n0 v U'.heap L ∧ FrameEnd U o U' L ({ frames := 2, cells := 1, slots := 4, locals := 24 } : Room).cells ({ frames := 2, cells := 1, slots := 4, locals := 24 } : Room).slots) := by
  refine MetFree.of_bodySF (plainFor_of_name own_pn_own_tob2) hisR ?_
  intro p e s m args below meth c s₁ Bd hml0 hP hK
  obtain ⟨rfl, hZ, hh⟩ := hP
  have hx := Bd.exec
  have hby := Bd.bytes
  have hml : c.maxLocals = 5 := hml0
  have hown : s.vm.findClass "java/lang/StringUTF16" = some m.cls := findClass_of_methodNamed Bd.named
  have hnm := (name_of_methodNamed Bd.named Bd.method).1
  have X0 : Stand p l e ({ frames := 2, cells := 1, slots := 4, locals := 24 } : Room) s m #[(.ref ac), (.int 0), (.int 2)] below meth c s₁ [] 0 0 := Stand.of_body Bd
  have e0 : s₁.heap = h0 := by rw [← hh, Bd.state]; rfl
  have N0 := Fr.nil n0
  have pre0 : Goes p e below s₁ (entryFrame m #[(.ref ac), (.int 0), (.int 2)] 5) s₁ (mkF m 0 #[.val (.ref ac), .val (.int 0), .val (.int 2), .unset, .unset] []) := fun t k => castTop (own_ef_own_tob2 m ac (0 : Int32) (2 : Int32)) k
  have pre1 : Goes p e below s₁ (entryFrame m #[(.ref ac), (.int 0), (.int 2)] 5) s₁ (mkF m 1 #[.val (.ref ac), .val (.int 0), .val (.int 2), .unset, .unset] [(.int 2)]) := fun t kt => pre0 t (by
      show Steps p.tables e below (s₁.setTop (mkF m 0 #[.val (.ref ac), .val (.int 0), .val (.int 2), .unset, .unset] [])) _
      refine XS.iloadN X0.here hx rfl (hb hby own_d_tob2_0) rfl ?_
      exact kt)
  obtain ⟨_, _, ⟨T2, L2, k2, n2⟩, -, X2, ⟨Lc2, hQ2, l2, y2, z2⟩, st2⟩ := Jvm.LawKit.callS X0 hx (y := (⟨"java/lang/StringUTF16", "newBytesFor", "(I)[B"⟩ : MethodName)) hown (mvT hZ (hw _ (own_mG (i := 80) rfl))) (mvT hZ (hw _ (own_mG (i := 81) rfl))) (mvT hZ (hw _ (own_mG (i := 44) rfl))) (mvT hZ (hw _ (own_mG (i := 82) rfl))) (by decide) (backOf (W := 0) (own_nbf2 l Z a0 hw []  h0 n0 Z0 ) hZ (hw _ (own_mG (i := 82) rfl)) (hw _ (own_mG (i := 44) rfl)) (by decide) (by decide)) (g := (mkF m 1 #[.val (.ref ac), .val (.int 0), .val (.int 2), .unset, .unset] [(.int 2)])) rfl (by rw [hml]; rfl) (argsL := [(.int 2)]) (rest := []) (lenOf own_pd9 rfl) rfl (by show 2 * 0 + _ ≤ _; exact Nat.le_of_eq rfl) (hb hby own_d_tob2_1) (fun _ _ => ⟨rfl, e0, (by decide : 0 + 1 ≤ _), (by decide : 0 + 4 ≤ _)⟩)
  dsimp only [Pt.U, Pt.locs, Pt.cells, Pt.slots] at X2 l2 y2 z2 st2 hQ2
  subst l2 y2 z2
  obtain ⟨yy2, ky2, rfl, N2q, K2q, zy2, gy2, Vy2⟩ := hQ2
  have N2 := Fr.app N0 N2q
  have KC2 : Keep h0 T2.heap [] := (Keep.refl h0 []).trans K2q all0
  have pre3 : Goes p e below s₁ (entryFrame m #[(.ref ac), (.int 0), (.int 2)] 5) T2 (mkF m 4 #[.val (.ref ac), .val (.int 0), .val (.int 2), .unset, .unset] [(.ref yy2)]) := fun t kt => pre1 t (st2 t kt)
  have sz_yy2 := zy2
  have g_yy2 := gy2
  have pre4 : Goes p e below s₁ (entryFrame m #[(.ref ac), (.int 0), (.int 2)] 5) T2 (mkF m 19 #[.val (.ref ac), .val (.int 0), .val (.int 2), .val (.ref yy2), .val (.int 0)] [(.int 0), (.ref ac), (.int 0), (.ref yy2)]) := fun t kt => pre3 t (by
      show Steps p.tables e below (T2.setTop (mkF m 4 #[.val (.ref ac), .val (.int 0), .val (.int 2), .unset, .unset] [(.ref yy2)])) _
      refine XS.astoreN X2.here hx rfl (hb hby own_d_tob2_4) rfl rfl (l' := #[.val (.ref ac), .val (.int 0), .val (.int 2), .val (.ref yy2), .unset]) rfl ?_
      refine XS.iconst X2.here hx rfl (hb hby own_d_tob2_5) ?_
      show Steps p.tables e below (T2.setTop (mkF m 6 #[.val (.ref ac), .val (.int 0), .val (.int 2), .val (.ref yy2), .unset] [(.int 0)])) _
      refine XS.istore X2.here hx rfl (hb hby own_d_tob2_6) rfl (l' := #[.val (.ref ac), .val (.int 0), .val (.int 2), .val (.ref yy2), .val (.int 0)]) rfl ?_
      refine XS.iload X2.here hx rfl (hb hby own_d_tob2_8) rfl ?_
      show Steps p.tables e below (T2.setTop (mkF m 10 #[.val (.ref ac), .val (.int 0), .val (.int 2), .val (.ref yy2), .val (.int 0)] [(.int 0)])) _
      refine XS.iloadN X2.here hx rfl (hb hby own_d_tob2_10) rfl ?_
      refine XS.icmpNo X2.here hx rfl (hb hby own_d_tob2_11) rfl (tlt (by decide : (0 : Int32) < (2 : Int32))).2.1 ?_
      show Steps p.tables e below (T2.setTop (mkF m 14 #[.val (.ref ac), .val (.int 0), .val (.int 2), .val (.ref yy2), .val (.int 0)] [])) _
      refine XS.aloadN X2.here hx rfl (hb hby own_d_tob2_14) rfl rfl ?_
      refine XS.iload X2.here hx rfl (hb hby own_d_tob2_15) rfl ?_
      show Steps p.tables e below (T2.setTop (mkF m 17 #[.val (.ref ac), .val (.int 0), .val (.int 2), .val (.ref yy2), .val (.int 0)] [(.int 0), (.ref yy2)])) _
      refine XS.aloadN X2.here hx rfl (hb hby own_d_tob2_17) rfl rfl ?_
      refine XS.iloadN X2.here hx rfl (hb hby own_d_tob2_18) rfl ?_
      exact kt)
  obtain ⟨cl5, Ar5, q5, S5, N_5, H5, G5⟩ := (id ((V_ac.keep K2q nin0)))
  have hin5 : ¬ ((0 : Int32) < 0 ∨ cl5.slots.size ≤ ((0 : Int32)).toNatClampNeg) := inb_of S5 ⟨by decide, by decide⟩
  have hat5 : cl5.slots[((0 : Int32)).toNatClampNeg]? = some (.int v0) := Has.at H5 hin5 rfl
  have pre6 : Goes p e below s₁ (entryFrame m #[(.ref ac), (.int 0), (.int 2)] 5) T2 (mkF m 20 #[.val (.ref ac), .val (.int 0), .val (.int 2), .val (.ref yy2), .val (.int 0)] [(.int v0), (.int 0), (.ref yy2)]) := fun t kt => pre4 t (by
      show Steps p.tables e below (T2.setTop (mkF m 19 #[.val (.ref ac), .val (.int 0), .val (.int 2), .val (.ref yy2), .val (.int 0)] [(.int 0), (.ref ac), (.int 0), (.ref yy2)])) _
      refine X2.caload hx (j := (0 : Int32)) (v := (.int v0)) (by (try rw [rfl]); exact Ar5.1) (State.isArrayOf_alike hZ.alike Ar5.2.1) Ar5.2.2 hin5 hat5 (g := (mkF m 19 #[.val (.ref ac), .val (.int 0), .val (.int 2), .val (.ref yy2), .val (.int 0)] [(.int 0), (.ref ac), (.int 0), (.ref yy2)])) rfl rfl (hb hby own_d_tob2_19) _ ?_
      exact kt)
  obtain ⟨_, _, ⟨T7, L7, k7, n7⟩, -, X7, ⟨Lc7, hQ7, l7, y7, z7⟩, st7⟩ := Jvm.LawKit.callS X2 hx (y := (⟨"java/lang/StringUTF16", "putChar", "([BII)V"⟩ : MethodName)) hown (mvT hZ (hw _ (own_mG (i := 87) rfl))) (mvT hZ (hw _ (own_mG (i := 88) rfl))) (mvT hZ (hw _ (own_mG (i := 44) rfl))) (mvT hZ (hw _ (own_mG (i := 89) rfl))) (by decide) (backOf (W := 0) (own_pch l Z a0 hw [] yy2 ky2 (4 : Int32) [(.int 0), (.int 0), (.int 0), (.int 0)] (0 : Int32) v0 cs fm T2.heap n0 (Nat.le_trans Z0 K2q.1) Vy2 (by decide) (by show _ < 4; decide) (by decide) (by show _ < 4; decide) g_yy2 hst (O0.keep K2q all0)) hZ (hw _ (own_mG (i := 89) rfl)) (hw _ (own_mG (i := 44) rfl)) (by decide) (by decide)) (g := (mkF m 20 #[.val (.ref ac), .val (.int 0), .val (.int 2), .val (.ref yy2), .val (.int 0)] [(.int v0), (.int 0), (.ref yy2)])) rfl (by rw [hml]; rfl) (argsL := [(.ref yy2), (.int 0), (.int v0)]) (rest := []) (lenOf own_pd10 rfl) rfl (by show 2 * 0 + _ ≤ _; exact Nat.le_of_eq rfl) (hb hby own_d_tob2_20) (fun _ _ => ⟨rfl, rfl, (by decide : 1 + 0 ≤ _), (by decide : 4 + 0 ≤ _)⟩)
  dsimp only [Pt.U, Pt.locs, Pt.cells, Pt.slots] at X7 l7 y7 z7 st7 hQ7
  subst l7 y7 z7
  obtain ⟨rfl, N7q, K7q, Vz7⟩ := hQ7
  have N7 := Fr.app N2 N7q
  have KC7 : Keep h0 T7.heap [] := KC2.trans K7q (allS (Or.inr sz_yy2) all0)
  have pre8 : Goes p e below s₁ (entryFrame m #[(.ref ac), (.int 0), (.int 2)] 5) T7 (mkF m 23 #[.val (.ref ac), .val (.int 0), .val (.int 2), .val (.ref yy2), .val (.int 0)] []) := fun t kt => pre6 t (st7 t kt)
  have Vw7 : Arv Z T7.heap yy2 ky2 .byte (4 : Int32) [(.int (own_B0 v0)), (.int (own_B1 v0)), (.int 0), (.int 0)] (.int 0) := Vz7
  have pre9 : Goes p e below s₁ (entryFrame m #[(.ref ac), (.int 0), (.int 2)] 5) T7 (mkF m 19 #[.val (.ref ac), .val (.int 1), .val (.int 2), .val (.ref yy2), .val (.int 1)] [(.int 1), (.ref ac), (.int 1), (.ref yy2)]) := fun t kt => pre8 t (by
      show Steps p.tables e below (T7.setTop (mkF m 23 #[.val (.ref ac), .val (.int 0), .val (.int 2), .val (.ref yy2), .val (.int 0)] [])) _
      refine XS.iinc X7.here hx rfl (hb hby own_d_tob2_23) rfl (l' := #[.val (.ref ac), .val (.int 1), .val (.int 2), .val (.ref yy2), .val (.int 0)]) rfl ?_
      refine XS.iinc X7.here hx rfl (hb hby own_d_tob2_26) rfl (l' := #[.val (.ref ac), .val (.int 1), .val (.int 2), .val (.ref yy2), .val (.int 1)]) rfl ?_
      show Steps p.tables e below (T7.setTop (mkF m 29 #[.val (.ref ac), .val (.int 1), .val (.int 2), .val (.ref yy2), .val (.int 1)] [])) _
      refine XS.goto X7.here hx rfl (pc0 := 29) (pc' := 8) rfl (hb hby own_d_tob2_29) (by decide) (by decide) ?_
      refine XS.iload X7.here hx rfl (hb hby own_d_tob2_8) rfl ?_
      show Steps p.tables e below (T7.setTop (mkF m 10 #[.val (.ref ac), .val (.int 1), .val (.int 2), .val (.ref yy2), .val (.int 1)] [(.int 1)])) _
      refine XS.iloadN X7.here hx rfl (hb hby own_d_tob2_10) rfl ?_
      refine XS.icmpNo X7.here hx rfl (hb hby own_d_tob2_11) rfl (tlt (by decide : (1 : Int32) < (2 : Int32))).2.1 ?_
      show Steps p.tables e below (T7.setTop (mkF m 14 #[.val (.ref ac), .val (.int 1), .val (.int 2), .val (.ref yy2), .val (.int 1)] [])) _
      refine XS.aloadN X7.here hx rfl (hb hby own_d_tob2_14) rfl rfl ?_
      refine XS.iload X7.here hx rfl (hb hby own_d_tob2_15) rfl ?_
      show Steps p.tables e below (T7.setTop (mkF m 17 #[.val (.ref ac), .val (.int 1), .val (.int 2), .val (.ref yy2), .val (.int 1)] [(.int 1), (.ref yy2)])) _
      refine XS.aloadN X7.here hx rfl (hb hby own_d_tob2_17) rfl rfl ?_
      refine XS.iloadN X7.here hx rfl (hb hby own_d_tob2_18) rfl ?_
      exact kt)
  obtain ⟨cl10, Ar10, q10, S10, N_10, H10, G10⟩ := (id (((V_ac.keep K2q nin0).keep K7q (ninS (Nat.ne_of_lt (Nat.lt_of_lt_of_le V_ac.lt zy2)) nin0))))
  have hin10 : ¬ ((1 : Int32) < 0 ∨ cl10.slots.size ≤ ((1 : Int32)).toNatClampNeg) := inb_of S10 ⟨by decide, by decide⟩
  have hat10 : cl10.slots[((1 : Int32)).toNatClampNeg]? = some (.int v1) := Has.at H10 hin10 rfl
  have pre11 : Goes p e below s₁ (entryFrame m #[(.ref ac), (.int 0), (.int 2)] 5) T7 (mkF m 20 #[.val (.ref ac), .val (.int 1), .val (.int 2), .val (.ref yy2), .val (.int 1)] [(.int v1), (.int 1), (.ref yy2)]) := fun t kt => pre9 t (by
      show Steps p.tables e below (T7.setTop (mkF m 19 #[.val (.ref ac), .val (.int 1), .val (.int 2), .val (.ref yy2), .val (.int 1)] [(.int 1), (.ref ac), (.int 1), (.ref yy2)])) _
      refine X7.caload hx (j := (1 : Int32)) (v := (.int v1)) (by (try rw [rfl]); exact Ar10.1) (State.isArrayOf_alike hZ.alike Ar10.2.1) Ar10.2.2 hin10 hat10 (g := (mkF m 19 #[.val (.ref ac), .val (.int 1), .val (.int 2), .val (.ref yy2), .val (.int 1)] [(.int 1), (.ref ac), (.int 1), (.ref yy2)])) rfl rfl (hb hby own_d_tob2_19) _ ?_
      exact kt)
  obtain ⟨_, _, ⟨T12, L12, k12, n12⟩, -, X12, ⟨Lc12, hQ12, l12, y12, z12⟩, st12⟩ := Jvm.LawKit.callS X7 hx (y := (⟨"java/lang/StringUTF16", "putChar", "([BII)V"⟩ : MethodName)) hown (mvT hZ (hw _ (own_mG (i := 87) rfl))) (mvT hZ (hw _ (own_mG (i := 88) rfl))) (mvT hZ (hw _ (own_mG (i := 44) rfl))) (mvT hZ (hw _ (own_mG (i := 89) rfl))) (by decide) (backOf (W := 0) (own_pch l Z a0 hw [] yy2 ky2 (4 : Int32) [(.int (own_B0 v0)), (.int (own_B1 v0)), (.int 0), (.int 0)] (1 : Int32) v1 cs fm T7.heap n0 (Nat.le_trans (Nat.le_trans Z0 K2q.1) K7q.1) Vw7 (by decide) (by show _ < 4; decide) (by decide) (by show _ < 4; decide) g_yy2 hst ((O0.keep K2q all0).keep K7q (allS g_yy2 all0))) hZ (hw _ (own_mG (i := 89) rfl)) (hw _ (own_mG (i := 44) rfl)) (by decide) (by decide)) (g := (mkF m 20 #[.val (.ref ac), .val (.int 1), .val (.int 2), .val (.ref yy2), .val (.int 1)] [(.int v1), (.int 1), (.ref yy2)])) rfl (by rw [hml]; rfl) (argsL := [(.ref yy2), (.int 1), (.int v1)]) (rest := []) (lenOf own_pd10 rfl) rfl (by show 2 * 0 + _ ≤ _; exact Nat.le_of_eq rfl) (hb hby own_d_tob2_20) (fun _ _ => ⟨rfl, rfl, (by decide : 1 + 0 ≤ _), (by decide : 4 + 0 ≤ _)⟩)
  dsimp only [Pt.U, Pt.locs, Pt.cells, Pt.slots] at X12 l12 y12 z12 st12 hQ12
  subst l12 y12 z12
  obtain ⟨rfl, N12q, K12q, Vz12⟩ := hQ12
  have N12 := Fr.app N7 N12q
  have KC12 : Keep h0 T12.heap [] := KC7.trans K12q (allS (Or.inr sz_yy2) all0)
  have pre13 : Goes p e below s₁ (entryFrame m #[(.ref ac), (.int 0), (.int 2)] 5) T12 (mkF m 23 #[.val (.ref ac), .val (.int 1), .val (.int 2), .val (.ref yy2), .val (.int 1)] []) := fun t kt => pre11 t (st12 t kt)
  have Vw12 : Arv Z T12.heap yy2 ky2 .byte (4 : Int32) [(.int (own_B0 v0)), (.int (own_B1 v0)), (.int (own_B0 v1)), (.int (own_B1 v1))] (.int 0) := Vz12
  have pre14 : Goes p e below s₁ (entryFrame m #[(.ref ac), (.int 0), (.int 2)] 5) T12 (mkF m 33 #[.val (.ref ac), .val (.int 2), .val (.int 2), .val (.ref yy2), .val (.int 2)] [(.ref yy2)]) := fun t kt => pre13 t (by
      show Steps p.tables e below (T12.setTop (mkF m 23 #[.val (.ref ac), .val (.int 1), .val (.int 2), .val (.ref yy2), .val (.int 1)] [])) _
      refine XS.iinc X12.here hx rfl (hb hby own_d_tob2_23) rfl (l' := #[.val (.ref ac), .val (.int 2), .val (.int 2), .val (.ref yy2), .val (.int 1)]) rfl ?_
      refine XS.iinc X12.here hx rfl (hb hby own_d_tob2_26) rfl (l' := #[.val (.ref ac), .val (.int 2), .val (.int 2), .val (.ref yy2), .val (.int 2)]) rfl ?_
      show Steps p.tables e below (T12.setTop (mkF m 29 #[.val (.ref ac), .val (.int 2), .val (.int 2), .val (.ref yy2), .val (.int 2)] [])) _
      refine XS.goto X12.here hx rfl (pc0 := 29) (pc' := 8) rfl (hb hby own_d_tob2_29) (by decide) (by decide) ?_
      refine XS.iload X12.here hx rfl (hb hby own_d_tob2_8) rfl ?_
      show Steps p.tables e below (T12.setTop (mkF m 10 #[.val (.ref ac), .val (.int 2), .val (.int 2), .val (.ref yy2), .val (.int 2)] [(.int 2)])) _
      refine XS.iloadN X12.here hx rfl (hb hby own_d_tob2_10) rfl ?_
      refine XS.icmpYes X12.here hx rfl (pc0 := 11) (pc' := 32) rfl (hb hby own_d_tob2_11) rfl (flt (by decide : ¬ ((2 : Int32) < (2 : Int32)))).2.1 (by decide) (by decide) ?_
      show Steps p.tables e below (T12.setTop (mkF m 32 #[.val (.ref ac), .val (.int 2), .val (.int 2), .val (.ref yy2), .val (.int 2)] [])) _
      refine XS.aloadN X12.here hx rfl (hb hby own_d_tob2_32) rfl rfl ?_
      exact kt)
  obtain ⟨fs, hr, hrun, hended, hW, hsame⟩ := X12.leave (v := some (.ref yy2)) (fun h => by rw [Bd.returns] at h; cases h)
  refine ⟨_, _, pre14 _ ?_, hrun, hended, _, _, rfl, ?_, ⟨_, rfl⟩, hW, hsame.mono (by decide) (by decide)⟩
  · show Steps p.tables e below (T12.setTop (mkF m 33 #[.val (.ref ac), .val (.int 2), .val (.int 2), .val (.ref yy2), .val (.int 2)] [(.ref yy2)])) _
    jvm_step X12.here [X12.here.top, hx, (hb hby own_d_tob2_33), X12.method', Bd.returns, Value.isRef, FieldType.isReference]
    first | (intro acts; rw [hr _ acts rfl rfl rfl]) | rw [hr _ _ rfl rfl rfl]
    exact Steps.refl _
  · show Q_own_tob2 Z ac kc v0 v1 cs fm h0 n0 _ T12.heap _
    exact ⟨yy2, ky2, rfl, N12, KC12, sz_yy2, g_yy2, Vw12⟩
theorem own_d_cou2_0 : decode jdk_52_method_16_code 0 = .ok (.iload_n 2, 1) := by decide +kernel
theorem own_d_cou2_1 : decode jdk_52_method_16_code 1 = .ok (.newarray .byte, 2) := by decide +kernel
theorem own_d_cou2_3 : decode jdk_52_method_16_code 3 = .ok (.astore_n 3, 1) := by decide +kernel
theorem own_d_cou2_4 : decode jdk_52_method_16_code 4 = .ok (.aload_n 0, 1) := by decide +kernel
theorem own_d_cou2_5 : decode jdk_52_method_16_code 5 = .ok (.iload_n 1, 1) := by decide +kernel
theorem own_d_cou2_6 : decode jdk_52_method_16_code 6 = .ok (.aload_n 3, 1) := by decide +kernel
theorem own_d_cou2_7 : decode jdk_52_method_16_code 7 = .ok (.iconst 0, 1) := by decide +kernel
theorem own_d_cou2_8 : decode jdk_52_method_16_code 8 = .ok (.iload_n 2, 1) := by decide +kernel
theorem own_d_cou2_9 : decode jdk_52_method_16_code 9 = .ok (.invokestatic 115, 3) := by decide +kernel
theorem own_d_cou2_12 : decode jdk_52_method_16_code 12 = .ok (.istore 4, 2) := by decide +kernel
theorem own_d_cou2_14 : decode jdk_52_method_16_code 14 = .ok (.iload 4, 2) := by decide +kernel
theorem own_d_cou2_16 : decode jdk_52_method_16_code 16 = .ok (.iload_n 2, 1) := by decide +kernel
theorem own_d_cou2_17 : decode jdk_52_method_16_code 17 = .ok (.if_icmp .eq 40, 3) := by decide +kernel
theorem own_d_cou2_20 : decode jdk_52_method_16_code 20 = .ok (.aload_n 0, 1) := by decide +kernel
theorem own_d_cou2_21 : decode jdk_52_method_16_code 21 = .ok (.iload_n 1, 1) := by decide +kernel
theorem own_d_cou2_22 : decode jdk_52_method_16_code 22 = .ok (.iload_n 2, 1) := by decide +kernel
theorem own_d_cou2_23 : decode jdk_52_method_16_code 23 = .ok (.invokestatic 119, 3) := by decide +kernel
theorem own_d_cou2_26 : decode jdk_52_method_16_code 26 = .ok (.astore 5, 2) := by decide +kernel
theorem own_d_cou2_28 : decode jdk_52_method_16_code 28 = .ok (.aload 5, 2) := by decide +kernel
theorem own_d_cou2_30 : decode jdk_52_method_16_code 30 = .ok (.iload 4, 2) := by decide +kernel
theorem own_d_cou2_32 : decode jdk_52_method_16_code 32 = .ok (.invokestatic 71, 3) := by decide +kernel
theorem own_d_cou2_35 : decode jdk_52_method_16_code 35 = .ok (.sipush 255, 3) := by decide +kernel
theorem own_d_cou2_38 : decode jdk_52_method_16_code 38 = .ok (.if_icmp .gt 16, 3) := by decide +kernel
theorem own_d_cou2_54 : decode jdk_52_method_16_code 54 = .ok (.aload 5, 2) := by decide +kernel
theorem own_d_cou2_56 : decode jdk_52_method_16_code 56 = .ok (.areturn, 1) := by decide +kernel
theorem own_d_cou2_57 : decode jdk_52_method_16_code 57 = .ok (.aload_n 3, 1) := by decide +kernel
theorem own_d_cou2_58 : decode jdk_52_method_16_code 58 = .ok (.areturn, 1) := by decide +kernel
theorem own_pn_own_cou2 : plainName "java/lang/StringUTF16" = true := by first | (simp [plainName, overriddenIn]; done) | decide +kernel
theorem own_ef_own_cou2 (m : MethodId) (x0 : Addr) (x1 : Int32) (x2 : Int32) : entryFrame m #[(.ref x0), (.int x1), (.int x2)] 6 = mkF m 0 #[.val (.ref x0), .val (.int x1), .val (.int x2), .unset, .unset, .unset] [] := by first | (simp [entryFrame, mkF, argsToLocals, Value.category]; done) | rfl
def Q_own_cou2 (Z : State) (ac : Addr) (kc : ClassId) (v0 : Int32) (v1 : Int32) (cs : Int32) (fm : Value) (h0 : Heap) (n0 : Nat) (v : Option Value) (h : Heap) (L : List Loc) : Prop := ∃ (y : Addr) (ky : ClassId) (cd : Int32), v = some (.ref y) ∧ Fr n0 L ∧ Keep h0 h [] ∧ h0.size ≤ y ∧ n0 ≤ y ∧ own_SD Z h y ky cd (2 : Int32) (4 : Int32) [(.int (own_by v0)), (.int (own_by v1))] [(.int (own_B0 v0)), (.int (own_B1 v0)), (.int (own_B0 v1)), (.int (own_B1 v1))] (¬ ((255 : Int32) < v0) ∧ ¬ ((255 : Int32) < v1))
set_option maxRecDepth 65536 in
set_option maxHeartbeats 40000000 in
theorem own_cou2 (l : Launch) (Z : State) (a0 : Array Value) (hw : ∀ d ∈ tables_1, d.before a0 Z = true) (ws : List Jvm.Cond) (ac : Addr) (kc : ClassId) (v0 : Int32) (v1 : Int32) (cs : Int32) (fm : Value) (h0 : Heap) (n0 : Nat) (Z0 : n0 ≤ h0.size) (V_ac : Arv Z h0 ac kc .char (2 : Int32) [(.int v0), (.int v1)] (.int 0)) (hl0 : (0 ≤ v0.toInt ∧ v0.toInt < 65536)) (hl1 : (0 ≤ v1.toInt ∧ v1.toInt < 65536)) (hst : own_ST Z cs fm) (O0 : Old Z n0 h0) :
    MetFree l (⟨"java/lang/StringUTF16", "compress", "([CII)[B"⟩ : MethodName) (head1 (Jvm.Cond.code (⟨"java/lang/StringUTF16", "compress", "([CII)[B"⟩ : MethodName) jdk_52_method_16_code 6 (some (.array .byte)) :: ws) ({ frames := 3, cells := 2, slots := 6, locals := 40 } : Room)) (fun a U => a = #[(.ref ac), (.int 0), (.int 2)] ∧ Z.Warmed39 U.vm ∧ U.heap = h0) (fun _ _ _ _ _ => True) (fun _ U o U' => ∃ v L, o = .returned v ∧ Q_own_cou2 Z ac kc v0 v1 cs fm h0 n0 v U'.heap L ∧ FrameEnd U o U' L ({ frames := 3, cells := 2, slots := 6, locals := 40 } : Room).cells ({ frames := 3, cells := 2, slots := 6, locals := 40 } : Room).slots) := by
  refine MetFree.of_bodySF (plainFor_of_name own_pn_own_cou2) hisR ?_
  intro p e s m args below meth c s₁ Bd hml0 hP hK
  obtain ⟨rfl, hZ, hh⟩ := hP
  have hx := Bd.exec
  have hby := Bd.bytes
  have hml : c.maxLocals = 6 := hml0
  have hown : s.vm.findClass "java/lang/StringUTF16" = some m.cls := findClass_of_methodNamed Bd.named
  have hnm := (name_of_methodNamed Bd.named Bd.method).1
  have X0 : Stand p l e ({ frames := 3, cells := 2, slots := 6, locals := 40 } : Room) s m #[(.ref ac), (.int 0), (.int 2)] below meth c s₁ [] 0 0 := Stand.of_body Bd
  have e0 : s₁.heap = h0 := by rw [← hh, Bd.state]; rfl
  have N0 := Fr.nil n0
  have pre0 : Goes p e below s₁ (entryFrame m #[(.ref ac), (.int 0), (.int 2)] 6) s₁ (mkF m 0 #[.val (.ref ac), .val (.int 0), .val (.int 2), .unset, .unset, .unset] []) := fun t k => castTop (own_ef_own_cou2 m ac (0 : Int32) (2 : Int32)) k
  have pre1 : Goes p e below s₁ (entryFrame m #[(.ref ac), (.int 0), (.int 2)] 6) s₁ (mkF m 1 #[.val (.ref ac), .val (.int 0), .val (.int 2), .unset, .unset, .unset] [(.int 2)]) := fun t kt => pre0 t (by
      show Steps p.tables e below (s₁.setTop (mkF m 0 #[.val (.ref ac), .val (.int 0), .val (.int 2), .unset, .unset, .unset] [])) _
      refine XS.iloadN X0.here hx rfl (hb hby own_d_cou2_0) rfl ?_
      exact kt)
  obtain ⟨T2, h2, k2, X2, e2, E2, A2, st2⟩ := newP X0 hx hZ (hw _ (own_mG (i := 20) rfl)) e0 (g := (mkF m 1 #[.val (.ref ac), .val (.int 0), .val (.int 2), .unset, .unset, .unset] [(.int 2)])) rfl (hb hby own_d_cou2_1) rfl (by decide) (cap := 2) (by decide) (by decide) (by decide) (by decide)
  obtain ⟨b2, g2⟩ : ∃ z, z = h0.size := ⟨_, rfl⟩
  rw [← g2] at A2 st2
  have V_b2 : Arv Z h2 b2 k2 .byte (2 : Int32) [(.int 0), (.int 0)] (.int 0) := (Arv.new A2 (by decide)).pad (pad_rep [] (.int 0) 2)
  have g_b2 : n0 ≤ b2 := Nat.le_trans Z0 (Nat.le_of_eq g2.symm)
  have sz_b2 : h0.size ≤ b2 := (Nat.le_trans (Keep.refl h0 []).1 (Nat.le_of_eq g2.symm))
  have K2 : Keep h0 h2 [] := (Keep.refl h0 []).ext E2
  have pre3 : Goes p e below s₁ (entryFrame m #[(.ref ac), (.int 0), (.int 2)] 6) T2 (mkF m 3 #[.val (.ref ac), .val (.int 0), .val (.int 2), .unset, .unset, .unset] [(.ref b2)]) := fun t kt => pre1 t (st2 t kt)
  have pre4 : Goes p e below s₁ (entryFrame m #[(.ref ac), (.int 0), (.int 2)] 6) T2 (mkF m 9 #[.val (.ref ac), .val (.int 0), .val (.int 2), .val (.ref b2), .unset, .unset] [(.int 2), (.int 0), (.ref b2), (.int 0), (.ref ac)]) := fun t kt => pre3 t (by
      show Steps p.tables e below (T2.setTop (mkF m 3 #[.val (.ref ac), .val (.int 0), .val (.int 2), .unset, .unset, .unset] [(.ref b2)])) _
      refine XS.astoreN X2.here hx rfl (hb hby own_d_cou2_3) rfl rfl (l' := #[.val (.ref ac), .val (.int 0), .val (.int 2), .val (.ref b2), .unset, .unset]) rfl ?_
      refine XS.aloadN X2.here hx rfl (hb hby own_d_cou2_4) rfl rfl ?_
      show Steps p.tables e below (T2.setTop (mkF m 5 #[.val (.ref ac), .val (.int 0), .val (.int 2), .val (.ref b2), .unset, .unset] [(.ref ac)])) _
      refine XS.iloadN X2.here hx rfl (hb hby own_d_cou2_5) rfl ?_
      refine XS.aloadN X2.here hx rfl (hb hby own_d_cou2_6) rfl rfl ?_
      show Steps p.tables e below (T2.setTop (mkF m 7 #[.val (.ref ac), .val (.int 0), .val (.int 2), .val (.ref b2), .unset, .unset] [(.ref b2), (.int 0), (.ref ac)])) _
      refine XS.iconst X2.here hx rfl (hb hby own_d_cou2_7) ?_
      refine XS.iloadN X2.here hx rfl (hb hby own_d_cou2_8) rfl ?_
      exact kt)
  obtain ⟨_, _, ⟨T5, L5, k5, n5⟩, -, X5, ⟨Lc5, hQ5, l5, y5, z5⟩, st5⟩ := Jvm.LawKit.callS X2 hx (y := (⟨"java/lang/StringUTF16", "compress", "([CI[BII)I"⟩ : MethodName)) hown (mvT hZ (hw _ (own_mG (i := 46) rfl))) (mvT hZ (hw _ (own_mG (i := 47) rfl))) (mvT hZ (hw _ (own_mG (i := 44) rfl))) (mvT hZ (hw _ (own_mG (i := 48) rfl))) (by decide) (backOf (W := 0) (own_cin2 l Z a0 hw [] ac b2 kc k2 v0 v1 h2 n0 (Nat.le_trans Z0 E2.1) (V_ac.ext E2) V_b2 g_b2 (Nat.ne_of_lt (Nat.lt_of_lt_of_le V_ac.lt (Nat.le_of_eq g2.symm)))) hZ (hw _ (own_mG (i := 48) rfl)) (hw _ (own_mG (i := 44) rfl)) (by decide) (by decide)) (g := (mkF m 9 #[.val (.ref ac), .val (.int 0), .val (.int 2), .val (.ref b2), .unset, .unset] [(.int 2), (.int 0), (.ref b2), (.int 0), (.ref ac)])) rfl (by rw [hml]; rfl) (argsL := [(.ref ac), (.int 0), (.ref b2), (.int 0), (.int 2)]) (rest := []) (lenOf own_pd11 rfl) rfl (by show 2 * 0 + _ ≤ _; exact Nat.le_of_eq rfl) (hb hby own_d_cou2_9) (fun _ _ => ⟨rfl, e2, (by decide : 1 + 0 ≤ _), (by decide : 2 + 0 ≤ _)⟩)
  dsimp only [Pt.U, Pt.locs, Pt.cells, Pt.slots] at X5 l5 y5 z5 st5 hQ5
  subst l5 y5 z5
  obtain ⟨zr5, rfl, N5q, K5q, Dz5⟩ := hQ5
  have N5 := Fr.app N0 N5q
  have KC5 : Keep h0 T5.heap [] := K2.trans K5q (allS (Or.inr sz_b2) all0)
  have pre6 : Goes p e below s₁ (entryFrame m #[(.ref ac), (.int 0), (.int 2)] 6) T5 (mkF m 12 #[.val (.ref ac), .val (.int 0), .val (.int 2), .val (.ref b2), .unset, .unset] [(.int zr5)]) := fun t kt => pre4 t (st5 t kt)
  rcases Dz5 with ⟨rfl, hp, Vb5⟩ | Dz
  · -- full
    have pre7 : Goes p e below s₁ (entryFrame m #[(.ref ac), (.int 0), (.int 2)] 6) T5 (mkF m 58 #[.val (.ref ac), .val (.int 0), .val (.int 2), .val (.ref b2), .val (.int 2), .unset] [(.ref b2)]) := fun t kt => pre6 t (by
        show Steps p.tables e below (T5.setTop (mkF m 12 #[.val (.ref ac), .val (.int 0), .val (.int 2), .val (.ref b2), .unset, .unset] [(.int 2)])) _
        refine XS.istore X5.here hx rfl (hb hby own_d_cou2_12) rfl (l' := #[.val (.ref ac), .val (.int 0), .val (.int 2), .val (.ref b2), .val (.int 2), .unset]) rfl ?_
        refine XS.iload X5.here hx rfl (hb hby own_d_cou2_14) rfl ?_
        show Steps p.tables e below (T5.setTop (mkF m 16 #[.val (.ref ac), .val (.int 0), .val (.int 2), .val (.ref b2), .val (.int 2), .unset] [(.int 2)])) _
        refine XS.iloadN X5.here hx rfl (hb hby own_d_cou2_16) rfl ?_
        refine XS.icmpYes X5.here hx rfl (pc0 := 17) (pc' := 57) rfl (hb hby own_d_cou2_17) rfl (teq (by decide : (2 : Int32) = (2 : Int32))).1 (by decide) (by decide) ?_
        show Steps p.tables e below (T5.setTop (mkF m 57 #[.val (.ref ac), .val (.int 0), .val (.int 2), .val (.ref b2), .val (.int 2), .unset] [])) _
        refine XS.aloadN X5.here hx rfl (hb hby own_d_cou2_57) rfl rfl ?_
        exact kt)
    obtain ⟨fs, hr, hrun, hended, hW, hsame⟩ := X5.leave (v := some (.ref b2)) (fun h => by rw [Bd.returns] at h; cases h)
    refine ⟨_, _, pre7 _ ?_, hrun, hended, _, _, rfl, ?_, ⟨_, rfl⟩, hW, hsame.mono (by decide) (by decide)⟩
    · show Steps p.tables e below (T5.setTop (mkF m 58 #[.val (.ref ac), .val (.int 0), .val (.int 2), .val (.ref b2), .val (.int 2), .unset] [(.ref b2)])) _
      jvm_step X5.here [X5.here.top, hx, (hb hby own_d_cou2_58), X5.method', Bd.returns, Value.isRef, FieldType.isReference]
      first | (intro acts; rw [hr _ acts rfl rfl rfl]) | rw [hr _ _ rfl rfl rfl]
      exact Steps.refl _
    · show Q_own_cou2 Z ac kc v0 v1 cs fm h0 n0 _ T5.heap _
      exact ⟨b2, k2, (0 : Int32), rfl, N5, KC5, sz_b2, g_b2, Or.inl ⟨rfl, hp, Vb5⟩⟩
  · -- not
    have hne : ¬ (zr5 = (2 : Int32)) := by rcases Dz with ⟨rfl, hq⟩ | ⟨rfl, hq⟩ <;> decide
    have pre8 : Goes p e below s₁ (entryFrame m #[(.ref ac), (.int 0), (.int 2)] 6) T5 (mkF m 23 #[.val (.ref ac), .val (.int 0), .val (.int 2), .val (.ref b2), .val (.int zr5), .unset] [(.int 2), (.int 0), (.ref ac)]) := fun t kt => pre6 t (by
        show Steps p.tables e below (T5.setTop (mkF m 12 #[.val (.ref ac), .val (.int 0), .val (.int 2), .val (.ref b2), .unset, .unset] [(.int zr5)])) _
        refine XS.istore X5.here hx rfl (hb hby own_d_cou2_12) rfl (l' := #[.val (.ref ac), .val (.int 0), .val (.int 2), .val (.ref b2), .val (.int zr5), .unset]) rfl ?_
        refine XS.iload X5.here hx rfl (hb hby own_d_cou2_14) rfl ?_
        show Steps p.tables e below (T5.setTop (mkF m 16 #[.val (.ref ac), .val (.int 0), .val (.int 2), .val (.ref b2), .val (.int zr5), .unset] [(.int zr5)])) _
        refine XS.iloadN X5.here hx rfl (hb hby own_d_cou2_16) rfl ?_
        refine XS.icmpNo X5.here hx rfl (hb hby own_d_cou2_17) rfl (feq hne).1 ?_
        show Steps p.tables e below (T5.setTop (mkF m 20 #[.val (.ref ac), .val (.int 0), .val (.int 2), .val (.ref b2), .val (.int zr5), .unset] [])) _
        refine XS.aloadN X5.here hx rfl (hb hby own_d_cou2_20) rfl rfl ?_
        refine XS.iloadN X5.here hx rfl (hb hby own_d_cou2_21) rfl ?_
        show Steps p.tables e below (T5.setTop (mkF m 22 #[.val (.ref ac), .val (.int 0), .val (.int 2), .val (.ref b2), .val (.int zr5), .unset] [(.int 0), (.ref ac)])) _
        refine XS.iloadN X5.here hx rfl (hb hby own_d_cou2_22) rfl ?_
        exact kt)
    obtain ⟨_, _, ⟨T9, L9, k9, n9⟩, -, X9, ⟨Lc9, hQ9, l9, y9, z9⟩, st9⟩ := Jvm.LawKit.callS X5 hx (y := (⟨"java/lang/StringUTF16", "toBytes", "([CII)[B"⟩ : MethodName)) hown (mvT hZ (hw _ (own_mG (i := 77) rfl))) (mvT hZ (hw _ (own_mG (i := 78) rfl))) (mvT hZ (hw _ (own_mG (i := 44) rfl))) (mvT hZ (hw _ (own_mG (i := 79) rfl))) (by decide) (backOf (W := 0) (own_tob2 l Z a0 hw [] ac kc v0 v1 cs fm T5.heap n0 (Nat.le_trans (Nat.le_trans Z0 E2.1) K5q.1) ((V_ac.ext E2).keep K5q (ninS (Nat.ne_of_lt (Nat.lt_of_lt_of_le V_ac.lt (Nat.le_of_eq g2.symm))) nin0)) hst ((O0.ext E2).keep K5q (allS g_b2 all0))) hZ (hw _ (own_mG (i := 79) rfl)) (hw _ (own_mG (i := 44) rfl)) (by decide) (by decide)) (g := (mkF m 23 #[.val (.ref ac), .val (.int 0), .val (.int 2), .val (.ref b2), .val (.int zr5), .unset] [(.int 2), (.int 0), (.ref ac)])) rfl (by rw [hml]; rfl) (argsL := [(.ref ac), (.int 0), (.int 2)]) (rest := []) (lenOf own_pd12 rfl) rfl (by show 2 * 0 + _ ≤ _; exact Nat.le_of_eq rfl) (hb hby own_d_cou2_23) (fun _ _ => ⟨rfl, rfl, (by decide : 1 + 1 ≤ _), (by decide : 2 + 4 ≤ _)⟩)
    dsimp only [Pt.U, Pt.locs, Pt.cells, Pt.slots] at X9 l9 y9 z9 st9 hQ9
    subst l9 y9 z9
    obtain ⟨yy9, ky9, rfl, N9q, K9q, zy9, gy9, Vy9⟩ := hQ9
    have N9 := Fr.app N5 N9q
    have KC9 : Keep h0 T9.heap [] := KC5.trans K9q all0
    have pre10 : Goes p e below s₁ (entryFrame m #[(.ref ac), (.int 0), (.int 2)] 6) T9 (mkF m 26 #[.val (.ref ac), .val (.int 0), .val (.int 2), .val (.ref b2), .val (.int zr5), .unset] [(.ref yy9)]) := fun t kt => pre8 t (st9 t kt)
    have sz_yy9 : h0.size ≤ yy9 := Nat.le_trans KC5.1 zy9
    have g_yy9 := gy9
    have pre11 : Goes p e below s₁ (entryFrame m #[(.ref ac), (.int 0), (.int 2)] 6) T9 (mkF m 32 #[.val (.ref ac), .val (.int 0), .val (.int 2), .val (.ref b2), .val (.int zr5), .val (.ref yy9)] [(.int zr5), (.ref yy9)]) := fun t kt => pre10 t (by
        show Steps p.tables e below (T9.setTop (mkF m 26 #[.val (.ref ac), .val (.int 0), .val (.int 2), .val (.ref b2), .val (.int zr5), .unset] [(.ref yy9)])) _
        refine XS.astore X9.here hx rfl (hb hby own_d_cou2_26) rfl rfl (l' := #[.val (.ref ac), .val (.int 0), .val (.int 2), .val (.ref b2), .val (.int zr5), .val (.ref yy9)]) rfl ?_
        refine XS.aload X9.here hx rfl (hb hby own_d_cou2_28) rfl rfl ?_
        show Steps p.tables e below (T9.setTop (mkF m 30 #[.val (.ref ac), .val (.int 0), .val (.int 2), .val (.ref b2), .val (.int zr5), .val (.ref yy9)] [(.ref yy9)])) _
        refine XS.iload X9.here hx rfl (hb hby own_d_cou2_30) rfl ?_
        exact kt)
    obtain ⟨pu, pw, hA0, hA1, hG⟩ : ∃ pu pw : Int32, own_At Z T9.heap yy9 (zr5 <<< ((1 : Int32) &&& 31)) pu ∧ own_At Z T9.heap yy9 ((zr5 <<< ((1 : Int32) &&& 31)) + (1 : Int32)) pw ∧ (255 : Int32) < (nar .char (own_GC pu pw)) := by
      rcases Dz with ⟨rfl, hq⟩ | ⟨rfl, hq⟩
      · exact ⟨(own_B0 v0), (own_B1 v0), own_At.of Vy9 (by decide) rfl, own_At.of Vy9 (by decide) rfl, by rw [own_gc v0 hl0]; exact hq⟩
      · exact ⟨(own_B0 v1), (own_B1 v1), own_At.of Vy9 (by decide) rfl, own_At.of Vy9 (by decide) rfl, by rw [own_gc v1 hl1]; exact hq⟩
    obtain ⟨_, _, ⟨T12, L12, k12, n12⟩, -, X12, ⟨Lc12, hQ12, l12, y12, z12⟩, st12⟩ := Jvm.LawKit.callS X9 hx (y := (⟨"java/lang/StringUTF16", "getChar", "([BI)C"⟩ : MethodName)) hown (mvT hZ (hw _ (own_mG (i := 93) rfl))) (mvT hZ (hw _ (own_mG (i := 94) rfl))) (mvT hZ (hw _ (own_mG (i := 44) rfl))) (mvT hZ (hw _ (own_mG (i := 95) rfl))) (by decide) (backOf (W := 0) (own_gch l Z a0 hw [] yy9 zr5 pu pw cs fm T9.heap n0 (Nat.le_trans (Nat.le_trans (Nat.le_trans Z0 E2.1) K5q.1) K9q.1) hA0 hA1 hst (((O0.ext E2).keep K5q (allS g_b2 all0)).keep K9q all0)) hZ (hw _ (own_mG (i := 95) rfl)) (hw _ (own_mG (i := 44) rfl)) (by decide) (by decide)) (g := (mkF m 32 #[.val (.ref ac), .val (.int 0), .val (.int 2), .val (.ref b2), .val (.int zr5), .val (.ref yy9)] [(.int zr5), (.ref yy9)])) rfl (by rw [hml]; rfl) (argsL := [(.ref yy9), (.int zr5)]) (rest := []) (lenOf own_pd6 rfl) rfl (by show 2 * 0 + _ ≤ _; exact Nat.le_of_eq rfl) (hb hby own_d_cou2_32) (fun _ _ => ⟨rfl, rfl, (by decide : 2 + 0 ≤ _), (by decide : 6 + 0 ≤ _)⟩)
    dsimp only [Pt.U, Pt.locs, Pt.cells, Pt.slots] at X12 l12 y12 z12 st12 hQ12
    subst l12 y12 z12
    obtain ⟨rfl, N12q, e12⟩ := hQ12
    have N12 := Fr.app N9 N12q
    have pre13 : Goes p e below s₁ (entryFrame m #[(.ref ac), (.int 0), (.int 2)] 6) T12 (mkF m 35 #[.val (.ref ac), .val (.int 0), .val (.int 2), .val (.ref b2), .val (.int zr5), .val (.ref yy9)] [(.int (nar .char (own_GC pu pw)))]) := fun t kt => pre11 t (st12 t kt)
    have pre14 : Goes p e below s₁ (entryFrame m #[(.ref ac), (.int 0), (.int 2)] 6) T12 (mkF m 56 #[.val (.ref ac), .val (.int 0), .val (.int 2), .val (.ref b2), .val (.int zr5), .val (.ref yy9)] [(.ref yy9)]) := fun t kt => pre13 t (by
        show Steps p.tables e below (T12.setTop (mkF m 35 #[.val (.ref ac), .val (.int 0), .val (.int 2), .val (.ref b2), .val (.int zr5), .val (.ref yy9)] [(.int (nar .char (own_GC pu pw)))])) _
        refine XS.sipush X12.here hx rfl (hb hby own_d_cou2_35) ?_
        refine XS.icmpYes X12.here hx rfl (pc0 := 38) (pc' := 54) rfl (hb hby own_d_cou2_38) rfl (tlt hG).2.2.1 (by decide) (by decide) ?_
        show Steps p.tables e below (T12.setTop (mkF m 54 #[.val (.ref ac), .val (.int 0), .val (.int 2), .val (.ref b2), .val (.int zr5), .val (.ref yy9)] [])) _
        refine XS.aload X12.here hx rfl (hb hby own_d_cou2_54) rfl rfl ?_
        exact kt)
    obtain ⟨fs, hr, hrun, hended, hW, hsame⟩ := X12.leave (v := some (.ref yy9)) (fun h => by rw [Bd.returns] at h; cases h)
    refine ⟨_, _, pre14 _ ?_, hrun, hended, _, _, rfl, ?_, ⟨_, rfl⟩, hW, hsame.mono (by decide) (by decide)⟩
    · show Steps p.tables e below (T12.setTop (mkF m 56 #[.val (.ref ac), .val (.int 0), .val (.int 2), .val (.ref b2), .val (.int zr5), .val (.ref yy9)] [(.ref yy9)])) _
      jvm_step X12.here [X12.here.top, hx, (hb hby own_d_cou2_56), X12.method', Bd.returns, Value.isRef, FieldType.isReference]
      first | (intro acts; rw [hr _ acts rfl rfl rfl]) | rw [hr _ _ rfl rfl rfl]
      exact Steps.refl _
    · show Q_own_cou2 Z ac kc v0 v1 cs fm h0 n0 _ T12.heap _
      rw [e12]
      exact ⟨yy9, ky9, (1 : Int32), rfl, N12, KC9, sz_yy9, g_yy9, Or.inr ⟨rfl, Vy9⟩⟩
theorem own_d_cda2_0 : decode jdk_52_method_15_code 0 = .ok (.iload_n 1, 1) := by decide +kernel
theorem own_d_cda2_1 : decode jdk_52_method_15_code 1 = .ok (.aload_n 0, 1) := by decide +kernel
theorem own_d_cda2_2 : decode jdk_52_method_15_code 2 = .ok (.arraylength, 1) := by decide +kernel
theorem own_d_cda2_3 : decode jdk_52_method_15_code 3 = .ok (.isub, 1) := by decide +kernel
theorem own_d_cda2_4 : decode jdk_52_method_15_code 4 = .ok (.bipush 31, 2) := by decide +kernel
theorem own_d_cda2_6 : decode jdk_52_method_15_code 6 = .ok (.iushr, 1) := by decide +kernel
theorem own_d_cda2_7 : decode jdk_52_method_15_code 7 = .ok (.i2b, 1) := by decide +kernel
theorem own_d_cda2_8 : decode jdk_52_method_15_code 8 = .ok (.ireturn, 1) := by decide +kernel
theorem own_pn_own_cda2 : plainName "java/lang/StringUTF16" = true := by first | (simp [plainName, overriddenIn]; done) | decide +kernel
theorem own_ef_own_cda2 (m : MethodId) (x0 : Addr) (x1 : Int32) : entryFrame m #[(.ref x0), (.int x1)] 2 = mkF m 0 #[.val (.ref x0), .val (.int x1)] [] := by first | (simp [entryFrame, mkF, argsToLocals, Value.category]; done) | rfl
def Q_own_cda2 (Z : State) (y : Addr) (ky : ClassId) (cd : Int32) (v0 : Int32) (v1 : Int32) (h0 : Heap) (n0 : Nat) (v : Option Value) (h : Heap) (L : List Loc) : Prop := v = some (.int cd) ∧ Fr n0 L ∧ h = h0
set_option maxRecDepth 65536 in
set_option maxHeartbeats 40000000 in
theorem own_cda2 (l : Launch) (Z : State) (a0 : Array Value) (hw : ∀ d ∈ tables_1, d.before a0 Z = true) (ws : List Jvm.Cond) (y : Addr) (ky : ClassId) (cd : Int32) (v0 : Int32) (v1 : Int32) (h0 : Heap) (n0 : Nat) (Z0 : n0 ≤ h0.size) (SDy : own_SD Z h0 y ky cd (2 : Int32) (4 : Int32) [(.int (own_by v0)), (.int (own_by v1))] [(.int (own_B0 v0)), (.int (own_B1 v0)), (.int (own_B0 v1)), (.int (own_B1 v1))] (¬ ((255 : Int32) < v0) ∧ ¬ ((255 : Int32) < v1))) :
    MetFree l (⟨"java/lang/StringUTF16", "coderFromArrayLen", "([BI)B"⟩ : MethodName) (head1 (Jvm.Cond.code (⟨"java/lang/StringUTF16", "coderFromArrayLen", "([BI)B"⟩ : MethodName) jdk_52_method_15_code 2 (some .byte) :: ws) ({ frames := 0, cells := 0, slots := 0, locals := 0 } : Room)) (fun a U => a = #[(.ref y), (.int 2)] ∧ Z.Warmed39 U.vm ∧ U.heap = h0) (fun _ _ _ _ _ => True) (fun _ U o U' => ∃ v L, o = .returned v ∧ Q_own_cda2 Z y ky cd v0 v1 h0 n0 v U'.heap L ∧ FrameEnd U o U' L ({ frames := 0, cells := 0, slots := 0, locals := 0 } : Room).cells ({ frames := 0, cells := 0, slots := 0, locals := 0 } : Room).slots) := by
  refine MetFree.of_bodySF (plainFor_of_name own_pn_own_cda2) hisR ?_
  intro p e s m args below meth c s₁ Bd hml0 hP hK
  obtain ⟨rfl, hZ, hh⟩ := hP
  have hx := Bd.exec
  have hby := Bd.bytes
  have hml : c.maxLocals = 2 := hml0
  have hown : s.vm.findClass "java/lang/StringUTF16" = some m.cls := findClass_of_methodNamed Bd.named
  have hnm := (name_of_methodNamed Bd.named Bd.method).1
  have X0 : Stand p l e ({ frames := 0, cells := 0, slots := 0, locals := 0 } : Room) s m #[(.ref y), (.int 2)] below meth c s₁ [] 0 0 := Stand.of_body Bd
  have e0 : s₁.heap = h0 := by rw [← hh, Bd.state]; rfl
  have N0 := Fr.nil n0
  have pre0 : Goes p e below s₁ (entryFrame m #[(.ref y), (.int 2)] 2) s₁ (mkF m 0 #[.val (.ref y), .val (.int 2)] []) := fun t k => castTop (own_ef_own_cda2 m y (2 : Int32)) k
  rcases (id SDy) with ⟨hcd, hp, Vy⟩ | ⟨hcd, Vy⟩
  · -- coder 0
    have pre1 : Goes p e below s₁ (entryFrame m #[(.ref y), (.int 2)] 2) s₁ (mkF m 2 #[.val (.ref y), .val (.int 2)] [(.ref y), (.int 2)]) := fun t kt => pre0 t (by
        show Steps p.tables e below (s₁.setTop (mkF m 0 #[.val (.ref y), .val (.int 2)] [])) _
        refine XS.iloadN X0.here hx rfl (hb hby own_d_cda2_0) rfl ?_
        refine XS.aloadN X0.here hx rfl (hb hby own_d_cda2_1) rfl rfl ?_
        exact kt)
    obtain ⟨cl2, Ar2, q2, S2, N_2, H2, G2⟩ := (id (Vy))
    have pre3 : Goes p e below s₁ (entryFrame m #[(.ref y), (.int 2)] 2) s₁ (mkF m 7 #[.val (.ref y), .val (.int 2)] [(.int (((0 : Int32).toUInt32 >>> ((31 : Int32) &&& 31).toUInt32).toInt32))]) := fun t kt => pre1 t (by
        show Steps p.tables e below (s₁.setTop (mkF m 2 #[.val (.ref y), .val (.int 2)] [(.ref y), (.int 2)])) _
        refine X0.arraylength hx (by (try rw [e0]); exact Ar2.1) (State.isArrayOf_alike hZ.alike Ar2.2.1) (g := (mkF m 2 #[.val (.ref y), .val (.int 2)] [(.ref y), (.int 2)])) rfl rfl (hb hby own_d_cda2_2) _ ?_
        rw [len_of S2 N_2]
        refine XS.isub X0.here hx rfl (hb hby own_d_cda2_3) rfl ?_
        show Steps p.tables e below (s₁.setTop (mkF m 4 #[.val (.ref y), .val (.int 2)] [(.int 0)])) _
        refine XS.bipush X0.here hx rfl (hb hby own_d_cda2_4) ?_
        refine XS.iushr X0.here hx rfl (hb hby own_d_cda2_6) rfl ?_
        exact kt)
    rw [show (((0 : Int32).toUInt32 >>> ((31 : Int32) &&& 31).toUInt32).toInt32) = (0 : Int32) from (by decide)] at pre3
    have pre4 : Goes p e below s₁ (entryFrame m #[(.ref y), (.int 2)] 2) s₁ (mkF m 8 #[.val (.ref y), .val (.int 2)] [(.int ((0 : Int32).toInt8.toInt32))]) := fun t kt => pre3 t (by
        show Steps p.tables e below (s₁.setTop (mkF m 7 #[.val (.ref y), .val (.int 2)] [(.int 0)])) _
        refine XS.i2b X0.here hx rfl (hb hby own_d_cda2_7) rfl ?_
        exact kt)
    obtain ⟨fs, hr, hrun, hended, hW, hsame⟩ := X0.leave (v := some (.int (nar .byte ((0 : Int32).toInt8.toInt32)))) (fun h => by rw [Bd.returns] at h; cases h)
    refine ⟨_, _, pre4 _ ?_, hrun, hended, _, _, rfl, ?_, ⟨_, rfl⟩, hW, hsame.mono (by decide) (by decide)⟩
    · show Steps p.tables e below (s₁.setTop (mkF m 8 #[.val (.ref y), .val (.int 2)] [(.int ((0 : Int32).toInt8.toInt32))])) _
      exact retN X0 hx (t := .byte) Bd.returns (by simp) (hb hby own_d_cda2_8) hr
    · show Q_own_cda2 Z y ky cd v0 v1 h0 n0 _ s₁.heap _
      rw [e0]
      exact ⟨by rw [hcd]; rfl, N0, rfl⟩
  · -- coder 1
    have pre5 : Goes p e below s₁ (entryFrame m #[(.ref y), (.int 2)] 2) s₁ (mkF m 2 #[.val (.ref y), .val (.int 2)] [(.ref y), (.int 2)]) := fun t kt => pre0 t (by
        show Steps p.tables e below (s₁.setTop (mkF m 0 #[.val (.ref y), .val (.int 2)] [])) _
        refine XS.iloadN X0.here hx rfl (hb hby own_d_cda2_0) rfl ?_
        refine XS.aloadN X0.here hx rfl (hb hby own_d_cda2_1) rfl rfl ?_
        exact kt)
    obtain ⟨cl6, Ar6, q6, S6, N_6, H6, G6⟩ := (id (Vy))
    have pre7 : Goes p e below s₁ (entryFrame m #[(.ref y), (.int 2)] 2) s₁ (mkF m 7 #[.val (.ref y), .val (.int 2)] [(.int (((-2 : Int32).toUInt32 >>> ((31 : Int32) &&& 31).toUInt32).toInt32))]) := fun t kt => pre5 t (by
        show Steps p.tables e below (s₁.setTop (mkF m 2 #[.val (.ref y), .val (.int 2)] [(.ref y), (.int 2)])) _
        refine X0.arraylength hx (by (try rw [e0]); exact Ar6.1) (State.isArrayOf_alike hZ.alike Ar6.2.1) (g := (mkF m 2 #[.val (.ref y), .val (.int 2)] [(.ref y), (.int 2)])) rfl rfl (hb hby own_d_cda2_2) _ ?_
        rw [len_of S6 N_6]
        refine XS.isub X0.here hx rfl (hb hby own_d_cda2_3) rfl ?_
        show Steps p.tables e below (s₁.setTop (mkF m 4 #[.val (.ref y), .val (.int 2)] [(.int (-2 : Int32))])) _
        refine XS.bipush X0.here hx rfl (hb hby own_d_cda2_4) ?_
        refine XS.iushr X0.here hx rfl (hb hby own_d_cda2_6) rfl ?_
        exact kt)
    rw [show (((-2 : Int32).toUInt32 >>> ((31 : Int32) &&& 31).toUInt32).toInt32) = (1 : Int32) from (by decide)] at pre7
    have pre8 : Goes p e below s₁ (entryFrame m #[(.ref y), (.int 2)] 2) s₁ (mkF m 8 #[.val (.ref y), .val (.int 2)] [(.int ((1 : Int32).toInt8.toInt32))]) := fun t kt => pre7 t (by
        show Steps p.tables e below (s₁.setTop (mkF m 7 #[.val (.ref y), .val (.int 2)] [(.int 1)])) _
        refine XS.i2b X0.here hx rfl (hb hby own_d_cda2_7) rfl ?_
        exact kt)
    obtain ⟨fs, hr, hrun, hended, hW, hsame⟩ := X0.leave (v := some (.int (nar .byte ((1 : Int32).toInt8.toInt32)))) (fun h => by rw [Bd.returns] at h; cases h)
    refine ⟨_, _, pre8 _ ?_, hrun, hended, _, _, rfl, ?_, ⟨_, rfl⟩, hW, hsame.mono (by decide) (by decide)⟩
    · show Steps p.tables e below (s₁.setTop (mkF m 8 #[.val (.ref y), .val (.int 2)] [(.int ((1 : Int32).toInt8.toInt32))])) _
      exact retN X0 hx (t := .byte) Bd.returns (by simp) (hb hby own_d_cda2_8) hr
    · show Q_own_cda2 Z y ky cd v0 v1 h0 n0 _ s₁.heap _
      rw [e0]
      exact ⟨by rw [hcd]; rfl, N0, rfl⟩
theorem own_d_sI2_0 : decode jdk_42_method_149_code 0 = .ok (.aload_n 0, 1) := by decide +kernel
theorem own_d_sI2_1 : decode jdk_42_method_149_code 1 = .ok (.invokespecial 1, 3) := by decide +kernel
theorem own_d_sI2_4 : decode jdk_42_method_149_code 4 = .ok (.iload_n 3, 1) := by decide +kernel
theorem own_d_sI2_5 : decode jdk_42_method_149_code 5 = .ok (.ifCond .ne 22, 3) := by decide +kernel
theorem own_d_sI2_27 : decode jdk_42_method_149_code 27 = .ok (.getstatic 38, 3) := by decide +kernel
theorem own_d_sI2_30 : decode jdk_42_method_149_code 30 = .ok (.ifCond .eq 28, 3) := by decide +kernel
theorem own_d_sI2_33 : decode jdk_42_method_149_code 33 = .ok (.aload_n 1, 1) := by decide +kernel
theorem own_d_sI2_34 : decode jdk_42_method_149_code 34 = .ok (.iload_n 2, 1) := by decide +kernel
theorem own_d_sI2_35 : decode jdk_42_method_149_code 35 = .ok (.iload_n 3, 1) := by decide +kernel
theorem own_d_sI2_36 : decode jdk_42_method_149_code 36 = .ok (.invokestatic 177, 3) := by decide +kernel
theorem own_d_sI2_39 : decode jdk_42_method_149_code 39 = .ok (.astore 5, 2) := by decide +kernel
theorem own_d_sI2_41 : decode jdk_42_method_149_code 41 = .ok (.aload_n 0, 1) := by decide +kernel
theorem own_d_sI2_42 : decode jdk_42_method_149_code 42 = .ok (.aload 5, 2) := by decide +kernel
theorem own_d_sI2_44 : decode jdk_42_method_149_code 44 = .ok (.iload_n 3, 1) := by decide +kernel
theorem own_d_sI2_45 : decode jdk_42_method_149_code 45 = .ok (.invokestatic 47, 3) := by decide +kernel
theorem own_d_sI2_48 : decode jdk_42_method_149_code 48 = .ok (.putfield 15, 3) := by decide +kernel
theorem own_d_sI2_51 : decode jdk_42_method_149_code 51 = .ok (.aload_n 0, 1) := by decide +kernel
theorem own_d_sI2_52 : decode jdk_42_method_149_code 52 = .ok (.aload 5, 2) := by decide +kernel
theorem own_d_sI2_54 : decode jdk_42_method_149_code 54 = .ok (.putfield 9, 3) := by decide +kernel
theorem own_d_sI2_57 : decode jdk_42_method_149_code 57 = .ok (.return_, 1) := by decide +kernel
theorem own_pn_own_sI2 : plainName "java/lang/String" = true := by first | (simp [plainName, overriddenIn]; done) | decide +kernel
theorem own_ef_own_sI2 (m : MethodId) (x0 : Addr) (x1 : Addr) (x2 : Int32) (x3 : Int32) : entryFrame m #[(.ref x0), (.ref x1), (.int x2), (.int x3), .null] 6 = mkF m 0 #[.val (.ref x0), .val (.ref x1), .val (.int x2), .val (.int x3), .val .null, .unset] [] := by first | (simp [entryFrame, mkF, argsToLocals, Value.category]; done) | rfl
def Q_own_sI2 (Z : State) (a1 : Addr) (ac : Addr) (kc : ClassId) (uv : Value) (uc : Value) (v0 : Int32) (v1 : Int32) (cs : Int32) (fm : Value) (h0 : Heap) (n0 : Nat) (v : Option Value) (h : Heap) (L : List Loc) : Prop := v = none ∧ Fr n0 L ∧ Keep h0 h [a1] ∧ Exa Z h a1 "java/lang/String" ∧ ∃ (cd : Int32) (y : Addr) (ky : ClassId), Fld Z h a1 "java/lang/String" "coder" "B" (.int cd) ∧ Fld Z h a1 "java/lang/String" "value" "[B" (.ref y) ∧ own_SD Z h y ky cd (2 : Int32) (4 : Int32) [(.int (own_by v0)), (.int (own_by v1))] [(.int (own_B0 v0)), (.int (own_B1 v0)), (.int (own_B0 v1)), (.int (own_B1 v1))] (¬ ((255 : Int32) < v0) ∧ ¬ ((255 : Int32) < v1))
set_option maxRecDepth 65536 in
set_option maxHeartbeats 40000000 in
theorem own_sI2 (l : Launch) (Z : State) (a0 : Array Value) (hw : ∀ d ∈ tables_1, d.before a0 Z = true) (ws : List Jvm.Cond) (a1 : Addr) (ac : Addr) (kc : ClassId) (uv : Value) (uc : Value) (v0 : Int32) (v1 : Int32) (cs : Int32) (fm : Value) (h0 : Heap) (n0 : Nat) (Z0 : n0 ≤ h0.size) (E_a1 : Exa Z h0 a1 "java/lang/String") (Fv : Fld Z h0 a1 "java/lang/String" "value" "[B" uv) (Fc : Fld Z h0 a1 "java/lang/String" "coder" "B" uc) (g_a1 : n0 ≤ a1) (V_ac : Arv Z h0 ac kc .char (2 : Int32) [(.int v0), (.int v1)] (.int 0)) (hl0 : (0 ≤ v0.toInt ∧ v0.toInt < 65536)) (hl1 : (0 ≤ v1.toInt ∧ v1.toInt < 65536)) (hst : own_ST Z cs fm) (O0 : Old Z n0 h0) :
    MetFree l (⟨"java/lang/String", "<init>", "([CIILjava/lang/Void;)V"⟩ : MethodName) (head1 (Jvm.Cond.code (⟨"java/lang/String", "<init>", "([CIILjava/lang/Void;)V"⟩ : MethodName) jdk_42_method_149_code 6 none :: ws) ({ frames := 4, cells := 2, slots := 6, locals := 57 } : Room)) (fun a U => a = #[(.ref a1), (.ref ac), (.int 0), (.int 2), .null] ∧ Z.Warmed39 U.vm ∧ U.heap = h0) (fun _ _ _ _ _ => True) (fun _ U o U' => ∃ v L, o = .returned v ∧ Q_own_sI2 Z a1 ac kc uv uc v0 v1 cs fm h0 n0 v U'.heap L ∧ FrameEnd U o U' L ({ frames := 4, cells := 2, slots := 6, locals := 57 } : Room).cells ({ frames := 4, cells := 2, slots := 6, locals := 57 } : Room).slots) := by
  refine MetFree.of_bodySF (plainFor_of_name own_pn_own_sI2) hisR ?_
  intro p e s m args below meth c s₁ Bd hml0 hP hK
  obtain ⟨rfl, hZ, hh⟩ := hP
  have hx := Bd.exec
  have hby := Bd.bytes
  have hml : c.maxLocals = 6 := hml0
  have hown : s.vm.findClass "java/lang/String" = some m.cls := findClass_of_methodNamed Bd.named
  have hnm := (name_of_methodNamed Bd.named Bd.method).1
  have X0 : Stand p l e ({ frames := 4, cells := 2, slots := 6, locals := 57 } : Room) s m #[(.ref a1), (.ref ac), (.int 0), (.int 2), .null] below meth c s₁ [] 0 0 := Stand.of_body Bd
  have e0 : s₁.heap = h0 := by rw [← hh, Bd.state]; rfl
  have N0 := Fr.nil n0
  have pre0 : Goes p e below s₁ (entryFrame m #[(.ref a1), (.ref ac), (.int 0), (.int 2), .null] 6) s₁ (mkF m 0 #[.val (.ref a1), .val (.ref ac), .val (.int 0), .val (.int 2), .val .null, .unset] []) := fun t k => castTop (own_ef_own_sI2 m a1 ac (0 : Int32) (2 : Int32)) k
  have pre1 : Goes p e below s₁ (entryFrame m #[(.ref a1), (.ref ac), (.int 0), (.int 2), .null] 6) s₁ (mkF m 1 #[.val (.ref a1), .val (.ref ac), .val (.int 0), .val (.int 2), .val .null, .unset] [(.ref a1)]) := fun t kt => pre0 t (by
      show Steps p.tables e below (s₁.setTop (mkF m 0 #[.val (.ref a1), .val (.ref ac), .val (.int 0), .val (.int 2), .val .null, .unset] [])) _
      refine XS.aloadN X0.here hx rfl (hb hby own_d_sI2_0) rfl rfl ?_
      exact kt)
  obtain ⟨T2, X2, e2, st2⟩ := initO X0 hx hZ hown (hw _ (own_mG (i := 16) rfl)) (hw _ (own_mG (i := 17) rfl)) (hw _ (own_mG (i := 18) rfl)) e0 (g := (mkF m 1 #[.val (.ref a1), .val (.ref ac), .val (.int 0), .val (.int 2), .val .null, .unset] [(.ref a1)])) rfl (by rw [hml]; rfl) rfl (hb hby own_d_sI2_1) (by decide) (W := 0) (by show 2 * 0 + _ ≤ _; exact Nat.le_of_eq rfl) (by decide)
  have pre3 : Goes p e below s₁ (entryFrame m #[(.ref a1), (.ref ac), (.int 0), (.int 2), .null] 6) T2 (mkF m 4 #[.val (.ref a1), .val (.ref ac), .val (.int 0), .val (.int 2), .val .null, .unset] []) := fun t kt => pre1 t (st2 t kt)
  have pre4 : Goes p e below s₁ (entryFrame m #[(.ref a1), (.ref ac), (.int 0), (.int 2), .null] 6) T2 (mkF m 27 #[.val (.ref a1), .val (.ref ac), .val (.int 0), .val (.int 2), .val .null, .unset] []) := fun t kt => pre3 t (by
      show Steps p.tables e below (T2.setTop (mkF m 4 #[.val (.ref a1), .val (.ref ac), .val (.int 0), .val (.int 2), .val .null, .unset] [])) _
      refine XS.iloadN X2.here hx rfl (hb hby own_d_sI2_4) rfl ?_
      refine XS.ifYes X2.here hx rfl (pc0 := 5) (pc' := 27) rfl (hb hby own_d_sI2_5) rfl ((if0 _ _).trans (feq (by decide : ¬ ((2 : Int32) = (0 : Int32)))).2) (by decide) (by decide) ?_
      exact kt)
  obtain ⟨T5, X5, e5, st5⟩ := getS2 X2 hx hZ hown (host := "") (Or.inl (hw _ (own_mG (i := 41) rfl))) Via.refl e2 (hst.1.ext O0.2) (g := (mkF m 27 #[.val (.ref a1), .val (.ref ac), .val (.int 0), .val (.int 2), .val .null, .unset] [])) rfl (hb hby own_d_sI2_27)
  have pre6 : Goes p e below s₁ (entryFrame m #[(.ref a1), (.ref ac), (.int 0), (.int 2), .null] 6) T5 (mkF m 30 #[.val (.ref a1), .val (.ref ac), .val (.int 0), .val (.int 2), .val .null, .unset] [(.int cs)]) := fun t kt => pre4 t (st5 t kt)
  have pre7 : Goes p e below s₁ (entryFrame m #[(.ref a1), (.ref ac), (.int 0), (.int 2), .null] 6) T5 (mkF m 36 #[.val (.ref a1), .val (.ref ac), .val (.int 0), .val (.int 2), .val .null, .unset] [(.int 2), (.int 0), (.ref ac)]) := fun t kt => pre6 t (by
      show Steps p.tables e below (T5.setTop (mkF m 30 #[.val (.ref a1), .val (.ref ac), .val (.int 0), .val (.int 2), .val .null, .unset] [(.int cs)])) _
      refine XS.ifNo X5.here hx rfl (hb hby own_d_sI2_30) rfl ((if0 _ _).trans (feq hst.2.1).1) ?_
      refine XS.aloadN X5.here hx rfl (hb hby own_d_sI2_33) rfl rfl ?_
      show Steps p.tables e below (T5.setTop (mkF m 34 #[.val (.ref a1), .val (.ref ac), .val (.int 0), .val (.int 2), .val .null, .unset] [(.ref ac)])) _
      refine XS.iloadN X5.here hx rfl (hb hby own_d_sI2_34) rfl ?_
      refine XS.iloadN X5.here hx rfl (hb hby own_d_sI2_35) rfl ?_
      exact kt)
  obtain ⟨_, _, ⟨T8, L8, k8, n8⟩, -, X8, ⟨Lc8, hQ8, l8, y8, z8⟩, st8⟩ := Jvm.LawKit.callS X5 hx (y := (⟨"java/lang/StringUTF16", "compress", "([CII)[B"⟩ : MethodName)) hown (mvT hZ (hw _ (own_mG (i := 42) rfl))) (mvT hZ (hw _ (own_mG (i := 43) rfl))) (mvT hZ (hw _ (own_mG (i := 44) rfl))) (mvT hZ (hw _ (own_mG (i := 45) rfl))) (by decide) (backOf (W := 0) (own_cou2 l Z a0 hw [] ac kc v0 v1 cs fm h0 n0 Z0 V_ac hl0 hl1 hst O0) hZ (hw _ (own_mG (i := 45) rfl)) (hw _ (own_mG (i := 44) rfl)) (by decide) (by decide)) (g := (mkF m 36 #[.val (.ref a1), .val (.ref ac), .val (.int 0), .val (.int 2), .val .null, .unset] [(.int 2), (.int 0), (.ref ac)])) rfl (by rw [hml]; rfl) (argsL := [(.ref ac), (.int 0), (.int 2)]) (rest := []) (lenOf own_pd12 rfl) rfl (by show 2 * 0 + _ ≤ _; exact Nat.le_of_eq rfl) (hb hby own_d_sI2_36) (fun _ _ => ⟨rfl, e5, (by decide : 0 + 2 ≤ _), (by decide : 0 + 6 ≤ _)⟩)
  dsimp only [Pt.U, Pt.locs, Pt.cells, Pt.slots] at X8 l8 y8 z8 st8 hQ8
  subst l8 y8 z8
  obtain ⟨yy8, ky8, cd8, rfl, N8q, K8q, zy8, gy8, Dy8⟩ := hQ8
  have N8 := Fr.app N0 N8q
  have KC8 : Keep h0 T8.heap [a1] := (Keep.refl h0 [a1]).trans K8q all0
  have pre9 : Goes p e below s₁ (entryFrame m #[(.ref a1), (.ref ac), (.int 0), (.int 2), .null] 6) T8 (mkF m 39 #[.val (.ref a1), .val (.ref ac), .val (.int 0), .val (.int 2), .val .null, .unset] [(.ref yy8)]) := fun t kt => pre7 t (st8 t kt)
  have sz_yy8 := zy8
  have g_yy8 := gy8
  have pre10 : Goes p e below s₁ (entryFrame m #[(.ref a1), (.ref ac), (.int 0), (.int 2), .null] 6) T8 (mkF m 45 #[.val (.ref a1), .val (.ref ac), .val (.int 0), .val (.int 2), .val .null, .val (.ref yy8)] [(.int 2), (.ref yy8), (.ref a1)]) := fun t kt => pre9 t (by
      show Steps p.tables e below (T8.setTop (mkF m 39 #[.val (.ref a1), .val (.ref ac), .val (.int 0), .val (.int 2), .val .null, .unset] [(.ref yy8)])) _
      refine XS.astore X8.here hx rfl (hb hby own_d_sI2_39) rfl rfl (l' := #[.val (.ref a1), .val (.ref ac), .val (.int 0), .val (.int 2), .val .null, .val (.ref yy8)]) rfl ?_
      refine XS.aloadN X8.here hx rfl (hb hby own_d_sI2_41) rfl rfl ?_
      show Steps p.tables e below (T8.setTop (mkF m 42 #[.val (.ref a1), .val (.ref ac), .val (.int 0), .val (.int 2), .val .null, .val (.ref yy8)] [(.ref a1)])) _
      refine XS.aload X8.here hx rfl (hb hby own_d_sI2_42) rfl rfl ?_
      refine XS.iloadN X8.here hx rfl (hb hby own_d_sI2_44) rfl ?_
      exact kt)
  obtain ⟨_, _, ⟨T11, L11, k11, n11⟩, -, X11, ⟨Lc11, hQ11, l11, y11, z11⟩, st11⟩ := Jvm.LawKit.callS X8 hx (y := (⟨"java/lang/StringUTF16", "coderFromArrayLen", "([BI)B"⟩ : MethodName)) hown (mvT hZ (hw _ (own_mG (i := 49) rfl))) (mvT hZ (hw _ (own_mG (i := 50) rfl))) (mvT hZ (hw _ (own_mG (i := 44) rfl))) (mvT hZ (hw _ (own_mG (i := 51) rfl))) (by decide) (backOf (W := 1) (own_cda2 l Z a0 hw [] yy8 ky8 cd8 v0 v1 T8.heap n0 (Nat.le_trans Z0 K8q.1) Dy8) hZ (hw _ (own_mG (i := 51) rfl)) (hw _ (own_mG (i := 44) rfl)) (by decide) (by decide)) (g := (mkF m 45 #[.val (.ref a1), .val (.ref ac), .val (.int 0), .val (.int 2), .val .null, .val (.ref yy8)] [(.int 2), (.ref yy8), (.ref a1)])) rfl (by rw [hml]; rfl) (argsL := [(.ref yy8), (.int 2)]) (rest := [(.ref a1)]) (lenOf own_pd13 rfl) rfl (by show 2 * 0 + _ ≤ _; exact Nat.le_of_eq rfl) (hb hby own_d_sI2_45) (fun _ _ => ⟨rfl, rfl, (by decide : 2 + 0 ≤ _), (by decide : 6 + 0 ≤ _)⟩)
  dsimp only [Pt.U, Pt.locs, Pt.cells, Pt.slots] at X11 l11 y11 z11 st11 hQ11
  subst l11 y11 z11
  obtain ⟨rfl, N11q, e11⟩ := hQ11
  have N11 := Fr.app N8 N11q
  have pre12 : Goes p e below s₁ (entryFrame m #[(.ref a1), (.ref ac), (.int 0), (.int 2), .null] 6) T11 (mkF m 48 #[.val (.ref a1), .val (.ref ac), .val (.int 0), .val (.int 2), .val .null, .val (.ref yy8)] [(.int cd8), (.ref a1)]) := fun t kt => pre10 t (st11 t kt)
  have hB : narrow .byte (.int cd8) = .int cd8 ∧ fits .byte (.int cd8) = true := by rcases Dy8 with ⟨rfl, -, -⟩ | ⟨rfl, -⟩ <;> exact ⟨rfl, rfl⟩
  obtain ⟨T13, h13, X13, e13, W13, st13⟩ := putFN X11 hx hZ hown (hw _ (own_mG (i := 26) rfl)) Via.refl e11 (Fc.keep K8q nin0) (E_a1.keep K8q) (Or.inr ⟨(hw _ (own_mG (i := 22) rfl)), rfl, hnm⟩) (hw _ (own_mG (i := 6) rfl)) (ty := .byte) (v' := (.int cd8)) (by decide) hB.1 hB.2 (g := (mkF m 48 #[.val (.ref a1), .val (.ref ac), .val (.int 0), .val (.int 2), .val .null, .val (.ref yy8)] [(.int cd8), (.ref a1)])) rfl rfl (hb hby own_d_sI2_48)
  have Fw13 := (Fc.keep K8q nin0).same W13
  have K13 : Keep h0 h13 [a1] := KC8.wr W13 (Or.inl (own_mG (i := 0) rfl))
  have N13 := Fr.snoc X13 N11 g_a1
  have pre14 : Goes p e below s₁ (entryFrame m #[(.ref a1), (.ref ac), (.int 0), (.int 2), .null] 6) T13 (mkF m 51 #[.val (.ref a1), .val (.ref ac), .val (.int 0), .val (.int 2), .val .null, .val (.ref yy8)] []) := fun t kt => pre12 t (st13 t kt)
  have pre15 : Goes p e below s₁ (entryFrame m #[(.ref a1), (.ref ac), (.int 0), (.int 2), .null] 6) T13 (mkF m 54 #[.val (.ref a1), .val (.ref ac), .val (.int 0), .val (.int 2), .val .null, .val (.ref yy8)] [(.ref yy8), (.ref a1)]) := fun t kt => pre14 t (by
      show Steps p.tables e below (T13.setTop (mkF m 51 #[.val (.ref a1), .val (.ref ac), .val (.int 0), .val (.int 2), .val .null, .val (.ref yy8)] [])) _
      refine XS.aloadN X13.here hx rfl (hb hby own_d_sI2_51) rfl rfl ?_
      refine XS.aload X13.here hx rfl (hb hby own_d_sI2_52) rfl rfl ?_
      exact kt)
  obtain ⟨T16, h16, X16, e16, W16, st16⟩ := putF X13 hx hZ hown (host := "") (Or.inl (hw _ (own_mG (i := 25) rfl))) Via.refl e13 ((Fv.keep K8q nin0).other W13 (Or.inr (slot_ne (Or.inr (hw _ (own_mG (i := 21) rfl))) (Or.inr (hw _ (own_mG (i := 22) rfl))) (by decide) (t := (.array .byte)) (t' := .byte) (by decide) (by decide)))) ((E_a1.keep K8q).wr W13) (Or.inr ⟨(hw _ (own_mG (i := 21) rfl)), rfl, hnm⟩) (hw _ (own_mG (i := 6) rfl)) (ty := (.array .byte)) (by decide) rfl rfl (g := (mkF m 54 #[.val (.ref a1), .val (.ref ac), .val (.int 0), .val (.int 2), .val .null, .val (.ref yy8)] [(.ref yy8), (.ref a1)])) rfl rfl (hb hby own_d_sI2_54)
  have Fw16 := ((Fv.keep K8q nin0).other W13 (Or.inr (slot_ne (Or.inr (hw _ (own_mG (i := 21) rfl))) (Or.inr (hw _ (own_mG (i := 22) rfl))) (by decide) (t := (.array .byte)) (t' := .byte) (by decide) (by decide)))).same W16
  have K16 : Keep h0 h16 [a1] := K13.wr W16 (Or.inl (own_mG (i := 0) rfl))
  have N16 := Fr.snoc X16 N13 g_a1
  have pre17 : Goes p e below s₁ (entryFrame m #[(.ref a1), (.ref ac), (.int 0), (.int 2), .null] 6) T16 (mkF m 57 #[.val (.ref a1), .val (.ref ac), .val (.int 0), .val (.int 2), .val .null, .val (.ref yy8)] []) := fun t kt => pre15 t (st16 t kt)
  obtain ⟨fs, hr, hrun, hended, hW, hsame⟩ := X16.leave (v := none) (fun _ => rfl)
  refine ⟨_, _, pre17 _ ?_, hrun, hended, _, _, rfl, ?_, ⟨_, rfl⟩, hW, hsame.mono (by decide) (by decide)⟩
  · show Steps p.tables e below (T16.setTop (mkF m 57 #[.val (.ref a1), .val (.ref ac), .val (.int 0), .val (.int 2), .val .null, .val (.ref yy8)] [])) _
    exact X16.returnOut hx Bd.returns (hb hby own_d_sI2_57) hr
  · show Q_own_sI2 Z a1 ac kc uv uc v0 v1 cs fm h0 n0 _ T16.heap _
    rw [e16]
    exact ⟨rfl, N16, K16, (((E_a1.keep K8q).wr W13).wr W16), cd8, yy8, ky8, (Fw13.other W16 (Or.inr (slot_ne (Or.inr (hw _ (own_mG (i := 22) rfl))) (Or.inr (hw _ (own_mG (i := 21) rfl))) (by decide) (t := .byte) (t' := (.array .byte)) (by decide) (by decide)))), Fw16, ((Dy8.other W13 (Ne.symm (Nat.ne_of_lt (Nat.lt_of_lt_of_le E_a1.lt zy8)))).other W16 (Ne.symm (Nat.ne_of_lt (Nat.lt_of_lt_of_le E_a1.lt zy8))))⟩
theorem own_d_sJ2_0 : decode jdk_42_method_3_code 0 = .ok (.aload_n 0, 1) := by decide +kernel
theorem own_d_sJ2_1 : decode jdk_42_method_3_code 1 = .ok (.aload_n 1, 1) := by decide +kernel
theorem own_d_sJ2_2 : decode jdk_42_method_3_code 2 = .ok (.iconst 0, 1) := by decide +kernel
theorem own_d_sJ2_3 : decode jdk_42_method_3_code 3 = .ok (.aload_n 1, 1) := by decide +kernel
theorem own_d_sJ2_4 : decode jdk_42_method_3_code 4 = .ok (.arraylength, 1) := by decide +kernel
theorem own_d_sJ2_5 : decode jdk_42_method_3_code 5 = .ok (.aconst_null, 1) := by decide +kernel
theorem own_d_sJ2_6 : decode jdk_42_method_3_code 6 = .ok (.invokespecial 27, 3) := by decide +kernel
theorem own_d_sJ2_9 : decode jdk_42_method_3_code 9 = .ok (.return_, 1) := by decide +kernel
theorem own_pn_own_sJ2 : plainName "java/lang/String" = true := by first | (simp [plainName, overriddenIn]; done) | decide +kernel
theorem own_ef_own_sJ2 (m : MethodId) (x0 : Addr) (x1 : Addr) : entryFrame m #[(.ref x0), (.ref x1)] 2 = mkF m 0 #[.val (.ref x0), .val (.ref x1)] [] := by first | (simp [entryFrame, mkF, argsToLocals, Value.category]; done) | rfl
def Q_own_sJ2 (Z : State) (a1 : Addr) (ac : Addr) (kc : ClassId) (uv : Value) (uc : Value) (v0 : Int32) (v1 : Int32) (cs : Int32) (fm : Value) (h0 : Heap) (n0 : Nat) (v : Option Value) (h : Heap) (L : List Loc) : Prop := v = none ∧ Fr n0 L ∧ Keep h0 h [a1] ∧ Exa Z h a1 "java/lang/String" ∧ ∃ (cd : Int32) (y : Addr) (ky : ClassId), Fld Z h a1 "java/lang/String" "coder" "B" (.int cd) ∧ Fld Z h a1 "java/lang/String" "value" "[B" (.ref y) ∧ own_SD Z h y ky cd (2 : Int32) (4 : Int32) [(.int (own_by v0)), (.int (own_by v1))] [(.int (own_B0 v0)), (.int (own_B1 v0)), (.int (own_B0 v1)), (.int (own_B1 v1))] (¬ ((255 : Int32) < v0) ∧ ¬ ((255 : Int32) < v1))
set_option maxRecDepth 65536 in
set_option maxHeartbeats 40000000 in
theorem own_sJ2 (l : Launch) (Z : State) (a0 : Array Value) (hw : ∀ d ∈ tables_1, d.before a0 Z = true) (ws : List Jvm.Cond) (a1 : Addr) (ac : Addr) (kc : ClassId) (uv : Value) (uc : Value) (v0 : Int32) (v1 : Int32) (cs : Int32) (fm : Value) (h0 : Heap) (n0 : Nat) (Z0 : n0 ≤ h0.size) (E_a1 : Exa Z h0 a1 "java/lang/String") (Fv : Fld Z h0 a1 "java/lang/String" "value" "[B" uv) (Fc : Fld Z h0 a1 "java/lang/String" "coder" "B" uc) (g_a1 : n0 ≤ a1) (V_ac : Arv Z h0 ac kc .char (2 : Int32) [(.int v0), (.int v1)] (.int 0)) (hl0 : (0 ≤ v0.toInt ∧ v0.toInt < 65536)) (hl1 : (0 ≤ v1.toInt ∧ v1.toInt < 65536)) (hst : own_ST Z cs fm) (O0 : Old Z n0 h0) :
    MetFree l (⟨"java/lang/String", "<init>", "([C)V"⟩ : MethodName) (head1 (Jvm.Cond.code (⟨"java/lang/String", "<init>", "([C)V"⟩ : MethodName) jdk_42_method_3_code 2 none :: ws) ({ frames := 5, cells := 2, slots := 6, locals := 74 } : Room)) (fun a U => a = #[(.ref a1), (.ref ac)] ∧ Z.Warmed39 U.vm ∧ U.heap = h0) (fun _ _ _ _ _ => True) (fun _ U o U' => ∃ v L, o = .returned v ∧ Q_own_sJ2 Z a1 ac kc uv uc v0 v1 cs fm h0 n0 v U'.heap L ∧ FrameEnd U o U' L ({ frames := 5, cells := 2, slots := 6, locals := 74 } : Room).cells ({ frames := 5, cells := 2, slots := 6, locals := 74 } : Room).slots) := by
  refine MetFree.of_bodySF (plainFor_of_name own_pn_own_sJ2) hisR ?_
  intro p e s m args below meth c s₁ Bd hml0 hP hK
  obtain ⟨rfl, hZ, hh⟩ := hP
  have hx := Bd.exec
  have hby := Bd.bytes
  have hml : c.maxLocals = 2 := hml0
  have hown : s.vm.findClass "java/lang/String" = some m.cls := findClass_of_methodNamed Bd.named
  have hnm := (name_of_methodNamed Bd.named Bd.method).1
  have X0 : Stand p l e ({ frames := 5, cells := 2, slots := 6, locals := 74 } : Room) s m #[(.ref a1), (.ref ac)] below meth c s₁ [] 0 0 := Stand.of_body Bd
  have e0 : s₁.heap = h0 := by rw [← hh, Bd.state]; rfl
  have N0 := Fr.nil n0
  have pre0 : Goes p e below s₁ (entryFrame m #[(.ref a1), (.ref ac)] 2) s₁ (mkF m 0 #[.val (.ref a1), .val (.ref ac)] []) := fun t k => castTop (own_ef_own_sJ2 m a1 ac) k
  have pre1 : Goes p e below s₁ (entryFrame m #[(.ref a1), (.ref ac)] 2) s₁ (mkF m 4 #[.val (.ref a1), .val (.ref ac)] [(.ref ac), (.int 0), (.ref ac), (.ref a1)]) := fun t kt => pre0 t (by
      show Steps p.tables e below (s₁.setTop (mkF m 0 #[.val (.ref a1), .val (.ref ac)] [])) _
      refine XS.aloadN X0.here hx rfl (hb hby own_d_sJ2_0) rfl rfl ?_
      refine XS.aloadN X0.here hx rfl (hb hby own_d_sJ2_1) rfl rfl ?_
      show Steps p.tables e below (s₁.setTop (mkF m 2 #[.val (.ref a1), .val (.ref ac)] [(.ref ac), (.ref a1)])) _
      refine XS.iconst X0.here hx rfl (hb hby own_d_sJ2_2) ?_
      refine XS.aloadN X0.here hx rfl (hb hby own_d_sJ2_3) rfl rfl ?_
      exact kt)
  obtain ⟨cl2, Ar2, q2, S2, N_2, H2, G2⟩ := (id (V_ac))
  have pre3 : Goes p e below s₁ (entryFrame m #[(.ref a1), (.ref ac)] 2) s₁ (mkF m 6 #[.val (.ref a1), .val (.ref ac)] [.null, (.int 2), (.int 0), (.ref ac), (.ref a1)]) := fun t kt => pre1 t (by
      show Steps p.tables e below (s₁.setTop (mkF m 4 #[.val (.ref a1), .val (.ref ac)] [(.ref ac), (.int 0), (.ref ac), (.ref a1)])) _
      refine X0.arraylength hx (by (try rw [e0]); exact Ar2.1) (State.isArrayOf_alike hZ.alike Ar2.2.1) (g := (mkF m 4 #[.val (.ref a1), .val (.ref ac)] [(.ref ac), (.int 0), (.ref ac), (.ref a1)])) rfl rfl (hb hby own_d_sJ2_4) _ ?_
      rw [len_of S2 N_2]
      refine XS.aconstNull X0.here hx rfl (hb hby own_d_sJ2_5) ?_
      exact kt)
  obtain ⟨_, _, ⟨T4, L4, k4, n4⟩, -, X4, ⟨Lc4, hQ4, l4, y4, z4⟩, st4⟩ := X0.specialBack hx (y := (⟨"java/lang/String", "<init>", "([CIILjava/lang/Void;)V"⟩ : MethodName)) rfl hown (mvT hZ (hw _ (own_mG (i := 12) rfl))) (mvT hZ (hw _ (own_mG (i := 13) rfl))) (mvT hZ (hw _ (own_mG (i := 15) rfl))) (by decide) (backOf (W := 0) (own_sI2 l Z a0 hw [] a1 ac kc uv uc v0 v1 cs fm h0 n0 Z0 E_a1 Fv Fc g_a1 V_ac hl0 hl1 hst O0) hZ (hw _ (own_mG (i := 15) rfl)) (hw _ (own_mG (i := 7) rfl)) (by decide) (by decide)) (g := (mkF m 6 #[.val (.ref a1), .val (.ref ac)] [.null, (.int 2), (.int 0), (.ref ac), (.ref a1)])) rfl (by rw [hml]; rfl) (Steps.refl _) (a := a1) (argsL := [(.ref ac), (.int 0), (.int 2), .null]) (rest := []) (lenOf own_pd0 rfl) rfl (by show 2 * 0 + _ ≤ _; exact Nat.le_of_eq rfl) (hb hby own_d_sJ2_6) (fun _ _ => ⟨rfl, e0, (by decide : 0 + 2 ≤ _), (by decide : 0 + 6 ≤ _)⟩)
  dsimp only [Pt.U, Pt.locs, Pt.cells, Pt.slots] at X4 l4 y4 z4 st4 hQ4
  subst l4 y4 z4
  obtain ⟨rfl, N4q, K4q, Rest4⟩ := hQ4
  have N4 := Fr.app N0 N4q
  have KC4 : Keep h0 T4.heap [a1] := (Keep.refl h0 [a1]).trans K4q (allS (Or.inl (own_mG (i := 0) rfl)) all0)
  have pre5 : Goes p e below s₁ (entryFrame m #[(.ref a1), (.ref ac)] 2) T4 (mkF m 9 #[.val (.ref a1), .val (.ref ac)] []) := fun t kt => pre3 t (st4.trans kt)
  obtain ⟨fs, hr, hrun, hended, hW, hsame⟩ := X4.leave (v := none) (fun _ => rfl)
  refine ⟨_, _, pre5 _ ?_, hrun, hended, _, _, rfl, ?_, ⟨_, rfl⟩, hW, hsame.mono (by decide) (by decide)⟩
  · show Steps p.tables e below (T4.setTop (mkF m 9 #[.val (.ref a1), .val (.ref ac)] [])) _
    exact X4.returnOut hx Bd.returns (hb hby own_d_sJ2_9) hr
  · show Q_own_sJ2 Z a1 ac kc uv uc v0 v1 cs fm h0 n0 _ T4.heap _
    exact ⟨rfl, N4, KC4, Rest4⟩
theorem own_d_cin3_0 : decode jdk_52_method_21_code 0 = .ok (.iconst 0, 1) := by decide +kernel
theorem own_d_cin3_1 : decode jdk_52_method_21_code 1 = .ok (.istore 5, 2) := by decide +kernel
theorem own_d_cin3_3 : decode jdk_52_method_21_code 3 = .ok (.iload 5, 2) := by decide +kernel
theorem own_d_cin3_5 : decode jdk_52_method_21_code 5 = .ok (.iload 4, 2) := by decide +kernel
theorem own_d_cin3_7 : decode jdk_52_method_21_code 7 = .ok (.if_icmp .ge 37, 3) := by decide +kernel
theorem own_d_cin3_10 : decode jdk_52_method_21_code 10 = .ok (.aload_n 0, 1) := by decide +kernel
theorem own_d_cin3_11 : decode jdk_52_method_21_code 11 = .ok (.iload_n 1, 1) := by decide +kernel
theorem own_d_cin3_12 : decode jdk_52_method_21_code 12 = .ok (.caload, 1) := by decide +kernel
theorem own_d_cin3_13 : decode jdk_52_method_21_code 13 = .ok (.istore 6, 2) := by decide +kernel
theorem own_d_cin3_15 : decode jdk_52_method_21_code 15 = .ok (.iload 6, 2) := by decide +kernel
theorem own_d_cin3_17 : decode jdk_52_method_21_code 17 = .ok (.sipush 255, 3) := by decide +kernel
theorem own_d_cin3_20 : decode jdk_52_method_21_code 20 = .ok (.if_icmp .le 6, 3) := by decide +kernel
theorem own_d_cin3_23 : decode jdk_52_method_21_code 23 = .ok (.iload 5, 2) := by decide +kernel
theorem own_d_cin3_25 : decode jdk_52_method_21_code 25 = .ok (.ireturn, 1) := by decide +kernel
theorem own_d_cin3_26 : decode jdk_52_method_21_code 26 = .ok (.aload_n 2, 1) := by decide +kernel
theorem own_d_cin3_27 : decode jdk_52_method_21_code 27 = .ok (.iload_n 3, 1) := by decide +kernel
theorem own_d_cin3_28 : decode jdk_52_method_21_code 28 = .ok (.iload 6, 2) := by decide +kernel
theorem own_d_cin3_30 : decode jdk_52_method_21_code 30 = .ok (.i2b, 1) := by decide +kernel
theorem own_d_cin3_31 : decode jdk_52_method_21_code 31 = .ok (.bastore, 1) := by decide +kernel
theorem own_d_cin3_32 : decode jdk_52_method_21_code 32 = .ok (.iinc 1 1, 3) := by decide +kernel
theorem own_d_cin3_35 : decode jdk_52_method_21_code 35 = .ok (.iinc 3 1, 3) := by decide +kernel
theorem own_d_cin3_38 : decode jdk_52_method_21_code 38 = .ok (.iinc 5 1, 3) := by decide +kernel
theorem own_d_cin3_41 : decode jdk_52_method_21_code 41 = .ok (.goto (-38), 3) := by decide +kernel
theorem own_d_cin3_44 : decode jdk_52_method_21_code 44 = .ok (.iload 4, 2) := by decide +kernel
theorem own_d_cin3_46 : decode jdk_52_method_21_code 46 = .ok (.ireturn, 1) := by decide +kernel
theorem own_pn_own_cin3 : plainName "java/lang/StringUTF16" = true := by first | (simp [plainName, overriddenIn]; done) | decide +kernel
theorem own_ef_own_cin3 (m : MethodId) (x0 : Addr) (x1 : Int32) (x2 : Addr) (x3 : Int32) (x4 : Int32) : entryFrame m #[(.ref x0), (.int x1), (.ref x2), (.int x3), (.int x4)] 7 = mkF m 0 #[.val (.ref x0), .val (.int x1), .val (.ref x2), .val (.int x3), .val (.int x4), .unset, .unset] [] := by first | (simp [entryFrame, mkF, argsToLocals, Value.category]; done) | rfl
def Q_own_cin3 (Z : State) (ac : Addr) (ab : Addr) (kc : ClassId) (kb : ClassId) (v0 : Int32) (v1 : Int32) (v2 : Int32) (h0 : Heap) (n0 : Nat) (v : Option Value) (h : Heap) (L : List Loc) : Prop := ∃ z : Int32, v = some (.int z) ∧ Fr n0 L ∧ Keep h0 h [ab] ∧ ((z = (3 : Int32) ∧ (¬ ((255 : Int32) < v0) ∧ ¬ ((255 : Int32) < v1) ∧ ¬ ((255 : Int32) < v2)) ∧ Arv Z h ab kb .byte (3 : Int32) [(.int (own_by v0)), (.int (own_by v1)), (.int (own_by v2))] (.int 0)) ∨ (z = (0 : Int32) ∧ (255 : Int32) < v0) ∨ (z = (1 : Int32) ∧ (255 : Int32) < v1) ∨ (z = (2 : Int32) ∧ (255 : Int32) < v2))
set_option maxRecDepth 65536 in
set_option maxHeartbeats 40000000 in
theorem own_cin3 (l : Launch) (Z : State) (a0 : Array Value) (hw : ∀ d ∈ tables_1, d.before a0 Z = true) (ws : List Jvm.Cond) (ac : Addr) (ab : Addr) (kc : ClassId) (kb : ClassId) (v0 : Int32) (v1 : Int32) (v2 : Int32) (h0 : Heap) (n0 : Nat) (Z0 : n0 ≤ h0.size) (V_ac : Arv Z h0 ac kc .char (3 : Int32) [(.int v0), (.int v1), (.int v2)] (.int 0)) (V_ab : Arv Z h0 ab kb .byte (3 : Int32) [(.int 0), (.int 0), (.int 0)] (.int 0)) (g_ab : n0 ≤ ab) (nab : ac ≠ ab) :
    MetFree l (⟨"java/lang/StringUTF16", "compress", "([CI[BII)I"⟩ : MethodName) (head1 (Jvm.Cond.code (⟨"java/lang/StringUTF16", "compress", "([CI[BII)I"⟩ : MethodName) jdk_52_method_21_code 7 (some .int) :: ws) ({ frames := 0, cells := 0, slots := 0, locals := 0 } : Room)) (fun a U => a = #[(.ref ac), (.int 0), (.ref ab), (.int 0), (.int 3)] ∧ Z.Warmed39 U.vm ∧ U.heap = h0) (fun _ _ _ _ _ => True) (fun _ U o U' => ∃ v L, o = .returned v ∧ Q_own_cin3 Z ac ab kc kb v0 v1 v2 h0 n0 v U'.heap L ∧ FrameEnd U o U' L ({ frames := 0, cells := 0, slots := 0, locals := 0 } : Room).cells ({ frames := 0, cells := 0, slots := 0, locals := 0 } : Room).slots) := by
  refine MetFree.of_bodySF (plainFor_of_name own_pn_own_cin3) hisR ?_
  intro p e s m args below meth c s₁ Bd hml0 hP hK
  obtain ⟨rfl, hZ, hh⟩ := hP
  have hx := Bd.exec
  have hby := Bd.bytes
  have hml : c.maxLocals = 7 := hml0
  have hown : s.vm.findClass "java/lang/StringUTF16" = some m.cls := findClass_of_methodNamed Bd.named
  have hnm := (name_of_methodNamed Bd.named Bd.method).1
  have X0 : Stand p l e ({ frames := 0, cells := 0, slots := 0, locals := 0 } : Room) s m #[(.ref ac), (.int 0), (.ref ab), (.int 0), (.int 3)] below meth c s₁ [] 0 0 := Stand.of_body Bd
  have e0 : s₁.heap = h0 := by rw [← hh, Bd.state]; rfl
  have N0 := Fr.nil n0
  have pre0 : Goes p e below s₁ (entryFrame m #[(.ref ac), (.int 0), (.ref ab), (.int 0), (.int 3)] 7) s₁ (mkF m 0 #[.val (.ref ac), .val (.int 0), .val (.ref ab), .val (.int 0), .val (.int 3), .unset, .unset] []) := fun t k => castTop (own_ef_own_cin3 m ac (0 : Int32) ab (0 : Int32) (3 : Int32)) k
  have pre1 : Goes p e below s₁ (entryFrame m #[(.ref ac), (.int 0), (.ref ab), (.int 0), (.int 3)] 7) s₁ (mkF m 12 #[.val (.ref ac), .val (.int 0), .val (.ref ab), .val (.int 0), .val (.int 3), .val (.int 0), .unset] [(.int 0), (.ref ac)]) := fun t kt => pre0 t (by
      show Steps p.tables e below (s₁.setTop (mkF m 0 #[.val (.ref ac), .val (.int 0), .val (.ref ab), .val (.int 0), .val (.int 3), .unset, .unset] [])) _
      refine XS.iconst X0.here hx rfl (hb hby own_d_cin3_0) ?_
      refine XS.istore X0.here hx rfl (hb hby own_d_cin3_1) rfl (l' := #[.val (.ref ac), .val (.int 0), .val (.ref ab), .val (.int 0), .val (.int 3), .val (.int 0), .unset]) rfl ?_
      show Steps p.tables e below (s₁.setTop (mkF m 3 #[.val (.ref ac), .val (.int 0), .val (.ref ab), .val (.int 0), .val (.int 3), .val (.int 0), .unset] [])) _
      refine XS.iload X0.here hx rfl (hb hby own_d_cin3_3) rfl ?_
      refine XS.iload X0.here hx rfl (hb hby own_d_cin3_5) rfl ?_
      show Steps p.tables e below (s₁.setTop (mkF m 7 #[.val (.ref ac), .val (.int 0), .val (.ref ab), .val (.int 0), .val (.int 3), .val (.int 0), .unset] [(.int 3), (.int 0)])) _
      refine XS.icmpNo X0.here hx rfl (hb hby own_d_cin3_7) rfl (tlt (by decide : (0 : Int32) < (3 : Int32))).2.1 ?_
      refine XS.aloadN X0.here hx rfl (hb hby own_d_cin3_10) rfl rfl ?_
      show Steps p.tables e below (s₁.setTop (mkF m 11 #[.val (.ref ac), .val (.int 0), .val (.ref ab), .val (.int 0), .val (.int 3), .val (.int 0), .unset] [(.ref ac)])) _
      refine XS.iloadN X0.here hx rfl (hb hby own_d_cin3_11) rfl ?_
      exact kt)
  obtain ⟨cl2, Ar2, q2, S2, N_2, H2, G2⟩ := (id (V_ac))
  have hin2 : ¬ ((0 : Int32) < 0 ∨ cl2.slots.size ≤ ((0 : Int32)).toNatClampNeg) := inb_of S2 ⟨by decide, by decide⟩
  have hat2 : cl2.slots[((0 : Int32)).toNatClampNeg]? = some (.int v0) := Has.at H2 hin2 rfl
  have pre3 : Goes p e below s₁ (entryFrame m #[(.ref ac), (.int 0), (.ref ab), (.int 0), (.int 3)] 7) s₁ (mkF m 20 #[.val (.ref ac), .val (.int 0), .val (.ref ab), .val (.int 0), .val (.int 3), .val (.int 0), .val (.int v0)] [(.int 255), (.int v0)]) := fun t kt => pre1 t (by
      show Steps p.tables e below (s₁.setTop (mkF m 12 #[.val (.ref ac), .val (.int 0), .val (.ref ab), .val (.int 0), .val (.int 3), .val (.int 0), .unset] [(.int 0), (.ref ac)])) _
      refine X0.caload hx (j := (0 : Int32)) (v := (.int v0)) (by (try rw [e0]); exact Ar2.1) (State.isArrayOf_alike hZ.alike Ar2.2.1) Ar2.2.2 hin2 hat2 (g := (mkF m 12 #[.val (.ref ac), .val (.int 0), .val (.ref ab), .val (.int 0), .val (.int 3), .val (.int 0), .unset] [(.int 0), (.ref ac)])) rfl rfl (hb hby own_d_cin3_12) _ ?_
      refine XS.istore X0.here hx rfl (hb hby own_d_cin3_13) rfl (l' := #[.val (.ref ac), .val (.int 0), .val (.ref ab), .val (.int 0), .val (.int 3), .val (.int 0), .val (.int v0)]) rfl ?_
      show Steps p.tables e below (s₁.setTop (mkF m 15 #[.val (.ref ac), .val (.int 0), .val (.ref ab), .val (.int 0), .val (.int 3), .val (.int 0), .val (.int v0)] [])) _
      refine XS.iload X0.here hx rfl (hb hby own_d_cin3_15) rfl ?_
      refine XS.sipush X0.here hx rfl (hb hby own_d_cin3_17) ?_
      exact kt)
  by_cases hc20_4 : (255 : Int32) < v0
  · -- yes at pc 20: f
    have pre5 : Goes p e below s₁ (entryFrame m #[(.ref ac), (.int 0), (.ref ab), (.int 0), (.int 3)] 7) s₁ (mkF m 25 #[.val (.ref ac), .val (.int 0), .val (.ref ab), .val (.int 0), .val (.int 3), .val (.int 0), .val (.int v0)] [(.int 0)]) := fun t kt => pre3 t (by
        show Steps p.tables e below (s₁.setTop (mkF m 20 #[.val (.ref ac), .val (.int 0), .val (.ref ab), .val (.int 0), .val (.int 3), .val (.int 0), .val (.int v0)] [(.int 255), (.int v0)])) _
        refine XS.icmpNo X0.here hx rfl (hb hby own_d_cin3_20) rfl (tlt hc20_4).2.2.2 ?_
        refine XS.iload X0.here hx rfl (hb hby own_d_cin3_23) rfl ?_
        exact kt)
    obtain ⟨fs, hr, hrun, hended, hW, hsame⟩ := X0.leave (v := some (.int 0)) (fun h => by rw [Bd.returns] at h; cases h)
    refine ⟨_, _, pre5 _ ?_, hrun, hended, _, _, rfl, ?_, ⟨_, rfl⟩, hW, hsame.mono (by decide) (by decide)⟩
    · show Steps p.tables e below (s₁.setTop (mkF m 25 #[.val (.ref ac), .val (.int 0), .val (.ref ab), .val (.int 0), .val (.int 3), .val (.int 0), .val (.int v0)] [(.int 0)])) _
      exact retI X0 hx Bd.returns (hb hby own_d_cin3_25) hr
    · show Q_own_cin3 Z ac ab kc kb v0 v1 v2 h0 n0 _ s₁.heap _
      rw [e0]
      exact ⟨_, rfl, N0, (Keep.refl h0 [ab]), (Or.inr (Or.inl ⟨rfl, hc20_4⟩))⟩
  · -- no at pc 20: f
    have pre6 : Goes p e below s₁ (entryFrame m #[(.ref ac), (.int 0), (.ref ab), (.int 0), (.int 3)] 7) s₁ (mkF m 31 #[.val (.ref ac), .val (.int 0), .val (.ref ab), .val (.int 0), .val (.int 3), .val (.int 0), .val (.int v0)] [(.int (v0.toInt8.toInt32)), (.int 0), (.ref ab)]) := fun t kt => pre3 t (by
        show Steps p.tables e below (s₁.setTop (mkF m 20 #[.val (.ref ac), .val (.int 0), .val (.ref ab), .val (.int 0), .val (.int 3), .val (.int 0), .val (.int v0)] [(.int 255), (.int v0)])) _
        refine XS.icmpYes X0.here hx rfl (pc0 := 20) (pc' := 26) rfl (hb hby own_d_cin3_20) rfl (flt hc20_4).2.2.2 (by decide) (by decide) ?_
        refine XS.aloadN X0.here hx rfl (hb hby own_d_cin3_26) rfl rfl ?_
        show Steps p.tables e below (s₁.setTop (mkF m 27 #[.val (.ref ac), .val (.int 0), .val (.ref ab), .val (.int 0), .val (.int 3), .val (.int 0), .val (.int v0)] [(.ref ab)])) _
        refine XS.iloadN X0.here hx rfl (hb hby own_d_cin3_27) rfl ?_
        refine XS.iload X0.here hx rfl (hb hby own_d_cin3_28) rfl ?_
        show Steps p.tables e below (s₁.setTop (mkF m 30 #[.val (.ref ac), .val (.int 0), .val (.ref ab), .val (.int 0), .val (.int 3), .val (.int 0), .val (.int v0)] [(.int v0), (.int 0), (.ref ab)])) _
        refine XS.i2b X0.here hx rfl (hb hby own_d_cin3_30) rfl ?_
        exact kt)
    obtain ⟨cl7, Ar7, q7, S7, N_7, H7, G7⟩ := (id (V_ab))
    have hin7 : ¬ ((0 : Int32) < 0 ∨ cl7.slots.size ≤ ((0 : Int32)).toNatClampNeg) := inb_of S7 ⟨by decide, by decide⟩
    obtain ⟨T8, h8, X8, e8, W8, st8⟩ := stB X0 hx hZ e0 Ar7 (j := (0 : Int32)) hin7 (g := (mkF m 31 #[.val (.ref ac), .val (.int 0), .val (.ref ab), .val (.int 0), .val (.int 3), .val (.int 0), .val (.int v0)] [(.int (v0.toInt8.toInt32)), (.int 0), (.ref ab)])) rfl rfl (hb hby own_d_cin3_31)
    have V8 : Arv Z h8 ab kb .byte (3 : Int32) [(.int (nar .byte (v0.toInt8.toInt32))), (.int 0), (.int 0)] (.int 0) := Arv.set Ar7 q7 S7 N_7 H7 G7 (fits_nar_byte _) W8 0 rfl (Nat.le_of_ble_eq_true rfl)
    have K8 : Keep h0 h8 [ab] := (Keep.refl h0 [ab]).wr W8 (Or.inl (own_mG (i := 0) rfl))
    have N8 := Fr.snoc X8 N0 g_ab
    have pre9 : Goes p e below s₁ (entryFrame m #[(.ref ac), (.int 0), (.ref ab), (.int 0), (.int 3)] 7) T8 (mkF m 32 #[.val (.ref ac), .val (.int 0), .val (.ref ab), .val (.int 0), .val (.int 3), .val (.int 0), .val (.int v0)] []) := fun t kt => pre6 t (st8 t kt)
    have pre10 : Goes p e below s₁ (entryFrame m #[(.ref ac), (.int 0), (.ref ab), (.int 0), (.int 3)] 7) T8 (mkF m 12 #[.val (.ref ac), .val (.int 1), .val (.ref ab), .val (.int 1), .val (.int 3), .val (.int 1), .val (.int v0)] [(.int 1), (.ref ac)]) := fun t kt => pre9 t (by
        show Steps p.tables e below (T8.setTop (mkF m 32 #[.val (.ref ac), .val (.int 0), .val (.ref ab), .val (.int 0), .val (.int 3), .val (.int 0), .val (.int v0)] [])) _
        refine XS.iinc X8.here hx rfl (hb hby own_d_cin3_32) rfl (l' := #[.val (.ref ac), .val (.int 1), .val (.ref ab), .val (.int 0), .val (.int 3), .val (.int 0), .val (.int v0)]) rfl ?_
        refine XS.iinc X8.here hx rfl (hb hby own_d_cin3_35) rfl (l' := #[.val (.ref ac), .val (.int 1), .val (.ref ab), .val (.int 1), .val (.int 3), .val (.int 0), .val (.int v0)]) rfl ?_
        show Steps p.tables e below (T8.setTop (mkF m 38 #[.val (.ref ac), .val (.int 1), .val (.ref ab), .val (.int 1), .val (.int 3), .val (.int 0), .val (.int v0)] [])) _
        refine XS.iinc X8.here hx rfl (hb hby own_d_cin3_38) rfl (l' := #[.val (.ref ac), .val (.int 1), .val (.ref ab), .val (.int 1), .val (.int 3), .val (.int 1), .val (.int v0)]) rfl ?_
        refine XS.goto X8.here hx rfl (pc0 := 41) (pc' := 3) rfl (hb hby own_d_cin3_41) (by decide) (by decide) ?_
        show Steps p.tables e below (T8.setTop (mkF m 3 #[.val (.ref ac), .val (.int 1), .val (.ref ab), .val (.int 1), .val (.int 3), .val (.int 1), .val (.int v0)] [])) _
        refine XS.iload X8.here hx rfl (hb hby own_d_cin3_3) rfl ?_
        refine XS.iload X8.here hx rfl (hb hby own_d_cin3_5) rfl ?_
        show Steps p.tables e below (T8.setTop (mkF m 7 #[.val (.ref ac), .val (.int 1), .val (.ref ab), .val (.int 1), .val (.int 3), .val (.int 1), .val (.int v0)] [(.int 3), (.int 1)])) _
        refine XS.icmpNo X8.here hx rfl (hb hby own_d_cin3_7) rfl (tlt (by decide : (1 : Int32) < (3 : Int32))).2.1 ?_
        refine XS.aloadN X8.here hx rfl (hb hby own_d_cin3_10) rfl rfl ?_
        show Steps p.tables e below (T8.setTop (mkF m 11 #[.val (.ref ac), .val (.int 1), .val (.ref ab), .val (.int 1), .val (.int 3), .val (.int 1), .val (.int v0)] [(.ref ac)])) _
        refine XS.iloadN X8.here hx rfl (hb hby own_d_cin3_11) rfl ?_
        exact kt)
    obtain ⟨cl11, Ar11, q11, S11, N_11, H11, G11⟩ := (id ((V_ac.other W8 nab)))
    have hin11 : ¬ ((1 : Int32) < 0 ∨ cl11.slots.size ≤ ((1 : Int32)).toNatClampNeg) := inb_of S11 ⟨by decide, by decide⟩
    have hat11 : cl11.slots[((1 : Int32)).toNatClampNeg]? = some (.int v1) := Has.at H11 hin11 rfl
    have pre12 : Goes p e below s₁ (entryFrame m #[(.ref ac), (.int 0), (.ref ab), (.int 0), (.int 3)] 7) T8 (mkF m 20 #[.val (.ref ac), .val (.int 1), .val (.ref ab), .val (.int 1), .val (.int 3), .val (.int 1), .val (.int v1)] [(.int 255), (.int v1)]) := fun t kt => pre10 t (by
        show Steps p.tables e below (T8.setTop (mkF m 12 #[.val (.ref ac), .val (.int 1), .val (.ref ab), .val (.int 1), .val (.int 3), .val (.int 1), .val (.int v0)] [(.int 1), (.ref ac)])) _
        refine X8.caload hx (j := (1 : Int32)) (v := (.int v1)) (by (try rw [e8]); exact Ar11.1) (State.isArrayOf_alike hZ.alike Ar11.2.1) Ar11.2.2 hin11 hat11 (g := (mkF m 12 #[.val (.ref ac), .val (.int 1), .val (.ref ab), .val (.int 1), .val (.int 3), .val (.int 1), .val (.int v0)] [(.int 1), (.ref ac)])) rfl rfl (hb hby own_d_cin3_12) _ ?_
        refine XS.istore X8.here hx rfl (hb hby own_d_cin3_13) rfl (l' := #[.val (.ref ac), .val (.int 1), .val (.ref ab), .val (.int 1), .val (.int 3), .val (.int 1), .val (.int v1)]) rfl ?_
        show Steps p.tables e below (T8.setTop (mkF m 15 #[.val (.ref ac), .val (.int 1), .val (.ref ab), .val (.int 1), .val (.int 3), .val (.int 1), .val (.int v1)] [])) _
        refine XS.iload X8.here hx rfl (hb hby own_d_cin3_15) rfl ?_
        refine XS.sipush X8.here hx rfl (hb hby own_d_cin3_17) ?_
        exact kt)
    by_cases hc20_13 : (255 : Int32) < v1
    · -- yes at pc 20: ftf
      have pre14 : Goes p e below s₁ (entryFrame m #[(.ref ac), (.int 0), (.ref ab), (.int 0), (.int 3)] 7) T8 (mkF m 25 #[.val (.ref ac), .val (.int 1), .val (.ref ab), .val (.int 1), .val (.int 3), .val (.int 1), .val (.int v1)] [(.int 1)]) := fun t kt => pre12 t (by
          show Steps p.tables e below (T8.setTop (mkF m 20 #[.val (.ref ac), .val (.int 1), .val (.ref ab), .val (.int 1), .val (.int 3), .val (.int 1), .val (.int v1)] [(.int 255), (.int v1)])) _
          refine XS.icmpNo X8.here hx rfl (hb hby own_d_cin3_20) rfl (tlt hc20_13).2.2.2 ?_
          refine XS.iload X8.here hx rfl (hb hby own_d_cin3_23) rfl ?_
          exact kt)
      obtain ⟨fs, hr, hrun, hended, hW, hsame⟩ := X8.leave (v := some (.int 1)) (fun h => by rw [Bd.returns] at h; cases h)
      refine ⟨_, _, pre14 _ ?_, hrun, hended, _, _, rfl, ?_, ⟨_, rfl⟩, hW, hsame.mono (by decide) (by decide)⟩
      · show Steps p.tables e below (T8.setTop (mkF m 25 #[.val (.ref ac), .val (.int 1), .val (.ref ab), .val (.int 1), .val (.int 3), .val (.int 1), .val (.int v1)] [(.int 1)])) _
        exact retI X8 hx Bd.returns (hb hby own_d_cin3_25) hr
      · show Q_own_cin3 Z ac ab kc kb v0 v1 v2 h0 n0 _ T8.heap _
        rw [e8]
        exact ⟨_, rfl, N8, K8, (Or.inr (Or.inr (Or.inl ⟨rfl, hc20_13⟩)))⟩
    · -- no at pc 20: ftf
      have pre15 : Goes p e below s₁ (entryFrame m #[(.ref ac), (.int 0), (.ref ab), (.int 0), (.int 3)] 7) T8 (mkF m 31 #[.val (.ref ac), .val (.int 1), .val (.ref ab), .val (.int 1), .val (.int 3), .val (.int 1), .val (.int v1)] [(.int (v1.toInt8.toInt32)), (.int 1), (.ref ab)]) := fun t kt => pre12 t (by
          show Steps p.tables e below (T8.setTop (mkF m 20 #[.val (.ref ac), .val (.int 1), .val (.ref ab), .val (.int 1), .val (.int 3), .val (.int 1), .val (.int v1)] [(.int 255), (.int v1)])) _
          refine XS.icmpYes X8.here hx rfl (pc0 := 20) (pc' := 26) rfl (hb hby own_d_cin3_20) rfl (flt hc20_13).2.2.2 (by decide) (by decide) ?_
          refine XS.aloadN X8.here hx rfl (hb hby own_d_cin3_26) rfl rfl ?_
          show Steps p.tables e below (T8.setTop (mkF m 27 #[.val (.ref ac), .val (.int 1), .val (.ref ab), .val (.int 1), .val (.int 3), .val (.int 1), .val (.int v1)] [(.ref ab)])) _
          refine XS.iloadN X8.here hx rfl (hb hby own_d_cin3_27) rfl ?_
          refine XS.iload X8.here hx rfl (hb hby own_d_cin3_28) rfl ?_
          show Steps p.tables e below (T8.setTop (mkF m 30 #[.val (.ref ac), .val (.int 1), .val (.ref ab), .val (.int 1), .val (.int 3), .val (.int 1), .val (.int v1)] [(.int v1), (.int 1), (.ref ab)])) _
          refine XS.i2b X8.here hx rfl (hb hby own_d_cin3_30) rfl ?_
          exact kt)
      obtain ⟨cl16, Ar16, q16, S16, N_16, H16, G16⟩ := (id (V8))
      have hin16 : ¬ ((1 : Int32) < 0 ∨ cl16.slots.size ≤ ((1 : Int32)).toNatClampNeg) := inb_of S16 ⟨by decide, by decide⟩
      obtain ⟨T17, h17, X17, e17, W17, st17⟩ := stB X8 hx hZ e8 Ar16 (j := (1 : Int32)) hin16 (g := (mkF m 31 #[.val (.ref ac), .val (.int 1), .val (.ref ab), .val (.int 1), .val (.int 3), .val (.int 1), .val (.int v1)] [(.int (v1.toInt8.toInt32)), (.int 1), (.ref ab)])) rfl rfl (hb hby own_d_cin3_31)
      have V17 : Arv Z h17 ab kb .byte (3 : Int32) [(.int (nar .byte (v0.toInt8.toInt32))), (.int (nar .byte (v1.toInt8.toInt32))), (.int 0)] (.int 0) := Arv.set Ar16 q16 S16 N_16 H16 G16 (fits_nar_byte _) W17 1 rfl (Nat.le_of_ble_eq_true rfl)
      have K17 : Keep h0 h17 [ab] := K8.wr W17 (Or.inl (own_mG (i := 0) rfl))
      have N17 := Fr.snoc X17 N8 g_ab
      have pre18 : Goes p e below s₁ (entryFrame m #[(.ref ac), (.int 0), (.ref ab), (.int 0), (.int 3)] 7) T17 (mkF m 32 #[.val (.ref ac), .val (.int 1), .val (.ref ab), .val (.int 1), .val (.int 3), .val (.int 1), .val (.int v1)] []) := fun t kt => pre15 t (st17 t kt)
      have pre19 : Goes p e below s₁ (entryFrame m #[(.ref ac), (.int 0), (.ref ab), (.int 0), (.int 3)] 7) T17 (mkF m 12 #[.val (.ref ac), .val (.int 2), .val (.ref ab), .val (.int 2), .val (.int 3), .val (.int 2), .val (.int v1)] [(.int 2), (.ref ac)]) := fun t kt => pre18 t (by
          show Steps p.tables e below (T17.setTop (mkF m 32 #[.val (.ref ac), .val (.int 1), .val (.ref ab), .val (.int 1), .val (.int 3), .val (.int 1), .val (.int v1)] [])) _
          refine XS.iinc X17.here hx rfl (hb hby own_d_cin3_32) rfl (l' := #[.val (.ref ac), .val (.int 2), .val (.ref ab), .val (.int 1), .val (.int 3), .val (.int 1), .val (.int v1)]) rfl ?_
          refine XS.iinc X17.here hx rfl (hb hby own_d_cin3_35) rfl (l' := #[.val (.ref ac), .val (.int 2), .val (.ref ab), .val (.int 2), .val (.int 3), .val (.int 1), .val (.int v1)]) rfl ?_
          show Steps p.tables e below (T17.setTop (mkF m 38 #[.val (.ref ac), .val (.int 2), .val (.ref ab), .val (.int 2), .val (.int 3), .val (.int 1), .val (.int v1)] [])) _
          refine XS.iinc X17.here hx rfl (hb hby own_d_cin3_38) rfl (l' := #[.val (.ref ac), .val (.int 2), .val (.ref ab), .val (.int 2), .val (.int 3), .val (.int 2), .val (.int v1)]) rfl ?_
          refine XS.goto X17.here hx rfl (pc0 := 41) (pc' := 3) rfl (hb hby own_d_cin3_41) (by decide) (by decide) ?_
          show Steps p.tables e below (T17.setTop (mkF m 3 #[.val (.ref ac), .val (.int 2), .val (.ref ab), .val (.int 2), .val (.int 3), .val (.int 2), .val (.int v1)] [])) _
          refine XS.iload X17.here hx rfl (hb hby own_d_cin3_3) rfl ?_
          refine XS.iload X17.here hx rfl (hb hby own_d_cin3_5) rfl ?_
          show Steps p.tables e below (T17.setTop (mkF m 7 #[.val (.ref ac), .val (.int 2), .val (.ref ab), .val (.int 2), .val (.int 3), .val (.int 2), .val (.int v1)] [(.int 3), (.int 2)])) _
          refine XS.icmpNo X17.here hx rfl (hb hby own_d_cin3_7) rfl (tlt (by decide : (2 : Int32) < (3 : Int32))).2.1 ?_
          refine XS.aloadN X17.here hx rfl (hb hby own_d_cin3_10) rfl rfl ?_
          show Steps p.tables e below (T17.setTop (mkF m 11 #[.val (.ref ac), .val (.int 2), .val (.ref ab), .val (.int 2), .val (.int 3), .val (.int 2), .val (.int v1)] [(.ref ac)])) _
          refine XS.iloadN X17.here hx rfl (hb hby own_d_cin3_11) rfl ?_
          exact kt)
      obtain ⟨cl20, Ar20, q20, S20, N_20, H20, G20⟩ := (id (((V_ac.other W8 nab).other W17 nab)))
      have hin20 : ¬ ((2 : Int32) < 0 ∨ cl20.slots.size ≤ ((2 : Int32)).toNatClampNeg) := inb_of S20 ⟨by decide, by decide⟩
      have hat20 : cl20.slots[((2 : Int32)).toNatClampNeg]? = some (.int v2) := Has.at H20 hin20 rfl
      have pre21 : Goes p e below s₁ (entryFrame m #[(.ref ac), (.int 0), (.ref ab), (.int 0), (.int 3)] 7) T17 (mkF m 20 #[.val (.ref ac), .val (.int 2), .val (.ref ab), .val (.int 2), .val (.int 3), .val (.int 2), .val (.int v2)] [(.int 255), (.int v2)]) := fun t kt => pre19 t (by
          show Steps p.tables e below (T17.setTop (mkF m 12 #[.val (.ref ac), .val (.int 2), .val (.ref ab), .val (.int 2), .val (.int 3), .val (.int 2), .val (.int v1)] [(.int 2), (.ref ac)])) _
          refine X17.caload hx (j := (2 : Int32)) (v := (.int v2)) (by (try rw [e17]); exact Ar20.1) (State.isArrayOf_alike hZ.alike Ar20.2.1) Ar20.2.2 hin20 hat20 (g := (mkF m 12 #[.val (.ref ac), .val (.int 2), .val (.ref ab), .val (.int 2), .val (.int 3), .val (.int 2), .val (.int v1)] [(.int 2), (.ref ac)])) rfl rfl (hb hby own_d_cin3_12) _ ?_
          refine XS.istore X17.here hx rfl (hb hby own_d_cin3_13) rfl (l' := #[.val (.ref ac), .val (.int 2), .val (.ref ab), .val (.int 2), .val (.int 3), .val (.int 2), .val (.int v2)]) rfl ?_
          show Steps p.tables e below (T17.setTop (mkF m 15 #[.val (.ref ac), .val (.int 2), .val (.ref ab), .val (.int 2), .val (.int 3), .val (.int 2), .val (.int v2)] [])) _
          refine XS.iload X17.here hx rfl (hb hby own_d_cin3_15) rfl ?_
          refine XS.sipush X17.here hx rfl (hb hby own_d_cin3_17) ?_
          exact kt)
      by_cases hc20_22 : (255 : Int32) < v2
      · -- yes at pc 20: ftftf
        have pre23 : Goes p e below s₁ (entryFrame m #[(.ref ac), (.int 0), (.ref ab), (.int 0), (.int 3)] 7) T17 (mkF m 25 #[.val (.ref ac), .val (.int 2), .val (.ref ab), .val (.int 2), .val (.int 3), .val (.int 2), .val (.int v2)] [(.int 2)]) := fun t kt => pre21 t (by
            show Steps p.tables e below (T17.setTop (mkF m 20 #[.val (.ref ac), .val (.int 2), .val (.ref ab), .val (.int 2), .val (.int 3), .val (.int 2), .val (.int v2)] [(.int 255), (.int v2)])) _
            refine XS.icmpNo X17.here hx rfl (hb hby own_d_cin3_20) rfl (tlt hc20_22).2.2.2 ?_
            refine XS.iload X17.here hx rfl (hb hby own_d_cin3_23) rfl ?_
            exact kt)
        obtain ⟨fs, hr, hrun, hended, hW, hsame⟩ := X17.leave (v := some (.int 2)) (fun h => by rw [Bd.returns] at h; cases h)
        refine ⟨_, _, pre23 _ ?_, hrun, hended, _, _, rfl, ?_, ⟨_, rfl⟩, hW, hsame.mono (by decide) (by decide)⟩
        · show Steps p.tables e below (T17.setTop (mkF m 25 #[.val (.ref ac), .val (.int 2), .val (.ref ab), .val (.int 2), .val (.int 3), .val (.int 2), .val (.int v2)] [(.int 2)])) _
          exact retI X17 hx Bd.returns (hb hby own_d_cin3_25) hr
        · show Q_own_cin3 Z ac ab kc kb v0 v1 v2 h0 n0 _ T17.heap _
          rw [e17]
          exact ⟨_, rfl, N17, K17, (Or.inr (Or.inr (Or.inr (⟨rfl, hc20_22⟩))))⟩
      · -- no at pc 20: ftftf
        have pre24 : Goes p e below s₁ (entryFrame m #[(.ref ac), (.int 0), (.ref ab), (.int 0), (.int 3)] 7) T17 (mkF m 31 #[.val (.ref ac), .val (.int 2), .val (.ref ab), .val (.int 2), .val (.int 3), .val (.int 2), .val (.int v2)] [(.int (v2.toInt8.toInt32)), (.int 2), (.ref ab)]) := fun t kt => pre21 t (by
            show Steps p.tables e below (T17.setTop (mkF m 20 #[.val (.ref ac), .val (.int 2), .val (.ref ab), .val (.int 2), .val (.int 3), .val (.int 2), .val (.int v2)] [(.int 255), (.int v2)])) _
            refine XS.icmpYes X17.here hx rfl (pc0 := 20) (pc' := 26) rfl (hb hby own_d_cin3_20) rfl (flt hc20_22).2.2.2 (by decide) (by decide) ?_
            refine XS.aloadN X17.here hx rfl (hb hby own_d_cin3_26) rfl rfl ?_
            show Steps p.tables e below (T17.setTop (mkF m 27 #[.val (.ref ac), .val (.int 2), .val (.ref ab), .val (.int 2), .val (.int 3), .val (.int 2), .val (.int v2)] [(.ref ab)])) _
            refine XS.iloadN X17.here hx rfl (hb hby own_d_cin3_27) rfl ?_
            refine XS.iload X17.here hx rfl (hb hby own_d_cin3_28) rfl ?_
            show Steps p.tables e below (T17.setTop (mkF m 30 #[.val (.ref ac), .val (.int 2), .val (.ref ab), .val (.int 2), .val (.int 3), .val (.int 2), .val (.int v2)] [(.int v2), (.int 2), (.ref ab)])) _
            refine XS.i2b X17.here hx rfl (hb hby own_d_cin3_30) rfl ?_
            exact kt)
        obtain ⟨cl25, Ar25, q25, S25, N_25, H25, G25⟩ := (id (V17))
        have hin25 : ¬ ((2 : Int32) < 0 ∨ cl25.slots.size ≤ ((2 : Int32)).toNatClampNeg) := inb_of S25 ⟨by decide, by decide⟩
        obtain ⟨T26, h26, X26, e26, W26, st26⟩ := stB X17 hx hZ e17 Ar25 (j := (2 : Int32)) hin25 (g := (mkF m 31 #[.val (.ref ac), .val (.int 2), .val (.ref ab), .val (.int 2), .val (.int 3), .val (.int 2), .val (.int v2)] [(.int (v2.toInt8.toInt32)), (.int 2), (.ref ab)])) rfl rfl (hb hby own_d_cin3_31)
        have V26 : Arv Z h26 ab kb .byte (3 : Int32) [(.int (nar .byte (v0.toInt8.toInt32))), (.int (nar .byte (v1.toInt8.toInt32))), (.int (nar .byte (v2.toInt8.toInt32)))] (.int 0) := Arv.set Ar25 q25 S25 N_25 H25 G25 (fits_nar_byte _) W26 2 rfl (Nat.le_of_ble_eq_true rfl)
        have K26 : Keep h0 h26 [ab] := K17.wr W26 (Or.inl (own_mG (i := 0) rfl))
        have N26 := Fr.snoc X26 N17 g_ab
        have pre27 : Goes p e below s₁ (entryFrame m #[(.ref ac), (.int 0), (.ref ab), (.int 0), (.int 3)] 7) T26 (mkF m 32 #[.val (.ref ac), .val (.int 2), .val (.ref ab), .val (.int 2), .val (.int 3), .val (.int 2), .val (.int v2)] []) := fun t kt => pre24 t (st26 t kt)
        have pre28 : Goes p e below s₁ (entryFrame m #[(.ref ac), (.int 0), (.ref ab), (.int 0), (.int 3)] 7) T26 (mkF m 46 #[.val (.ref ac), .val (.int 3), .val (.ref ab), .val (.int 3), .val (.int 3), .val (.int 3), .val (.int v2)] [(.int 3)]) := fun t kt => pre27 t (by
            show Steps p.tables e below (T26.setTop (mkF m 32 #[.val (.ref ac), .val (.int 2), .val (.ref ab), .val (.int 2), .val (.int 3), .val (.int 2), .val (.int v2)] [])) _
            refine XS.iinc X26.here hx rfl (hb hby own_d_cin3_32) rfl (l' := #[.val (.ref ac), .val (.int 3), .val (.ref ab), .val (.int 2), .val (.int 3), .val (.int 2), .val (.int v2)]) rfl ?_
            refine XS.iinc X26.here hx rfl (hb hby own_d_cin3_35) rfl (l' := #[.val (.ref ac), .val (.int 3), .val (.ref ab), .val (.int 3), .val (.int 3), .val (.int 2), .val (.int v2)]) rfl ?_
            show Steps p.tables e below (T26.setTop (mkF m 38 #[.val (.ref ac), .val (.int 3), .val (.ref ab), .val (.int 3), .val (.int 3), .val (.int 2), .val (.int v2)] [])) _
            refine XS.iinc X26.here hx rfl (hb hby own_d_cin3_38) rfl (l' := #[.val (.ref ac), .val (.int 3), .val (.ref ab), .val (.int 3), .val (.int 3), .val (.int 3), .val (.int v2)]) rfl ?_
            refine XS.goto X26.here hx rfl (pc0 := 41) (pc' := 3) rfl (hb hby own_d_cin3_41) (by decide) (by decide) ?_
            show Steps p.tables e below (T26.setTop (mkF m 3 #[.val (.ref ac), .val (.int 3), .val (.ref ab), .val (.int 3), .val (.int 3), .val (.int 3), .val (.int v2)] [])) _
            refine XS.iload X26.here hx rfl (hb hby own_d_cin3_3) rfl ?_
            refine XS.iload X26.here hx rfl (hb hby own_d_cin3_5) rfl ?_
            show Steps p.tables e below (T26.setTop (mkF m 7 #[.val (.ref ac), .val (.int 3), .val (.ref ab), .val (.int 3), .val (.int 3), .val (.int 3), .val (.int v2)] [(.int 3), (.int 3)])) _
            refine XS.icmpYes X26.here hx rfl (pc0 := 7) (pc' := 44) rfl (hb hby own_d_cin3_7) rfl (flt (by decide : ¬ ((3 : Int32) < (3 : Int32)))).2.1 (by decide) (by decide) ?_
            refine XS.iload X26.here hx rfl (hb hby own_d_cin3_44) rfl ?_
            exact kt)
        obtain ⟨fs, hr, hrun, hended, hW, hsame⟩ := X26.leave (v := some (.int 3)) (fun h => by rw [Bd.returns] at h; cases h)
        refine ⟨_, _, pre28 _ ?_, hrun, hended, _, _, rfl, ?_, ⟨_, rfl⟩, hW, hsame.mono (by decide) (by decide)⟩
        · show Steps p.tables e below (T26.setTop (mkF m 46 #[.val (.ref ac), .val (.int 3), .val (.ref ab), .val (.int 3), .val (.int 3), .val (.int 3), .val (.int v2)] [(.int 3)])) _
          exact retI X26 hx Bd.returns (hb hby own_d_cin3_46) hr
        · show Q_own_cin3 Z ac ab kc kb v0 v1 v2 h0 n0 _ T26.heap _
          rw [e26]
          exact ⟨_, rfl, N26, K26, (Or.inl ⟨rfl, ⟨hc20_4, hc20_13, hc20_22⟩, V26⟩)⟩
theorem own_d_nbl3_0 : decode jdk_52_method_3_code 0 = .ok (.iload_n 0, 1) := by decide +kernel
theorem own_d_nbl3_1 : decode jdk_52_method_3_code 1 = .ok (.ifCond .ge 11, 3) := by decide +kernel
theorem own_d_nbl3_12 : decode jdk_52_method_3_code 12 = .ok (.iload_n 0, 1) := by decide +kernel
theorem own_d_nbl3_13 : decode jdk_52_method_3_code 13 = .ok (.ldc 20, 2) := by decide +kernel
theorem own_d_nbl3_15 : decode jdk_52_method_3_code 15 = .ok (.if_icmp .lt 40, 3) := by decide +kernel
theorem own_d_nbl3_55 : decode jdk_52_method_3_code 55 = .ok (.iload_n 0, 1) := by decide +kernel
theorem own_d_nbl3_56 : decode jdk_52_method_3_code 56 = .ok (.iconst 1, 1) := by decide +kernel
theorem own_d_nbl3_57 : decode jdk_52_method_3_code 57 = .ok (.ishl, 1) := by decide +kernel
theorem own_d_nbl3_58 : decode jdk_52_method_3_code 58 = .ok (.ireturn, 1) := by decide +kernel
theorem own_pn_own_nbl3 : plainName "java/lang/StringUTF16" = true := by first | (simp [plainName, overriddenIn]; done) | decide +kernel
theorem own_ef_own_nbl3 (m : MethodId) (x0 : Int32) : entryFrame m #[(.int x0)] 1 = mkF m 0 #[.val (.int x0)] [] := by first | (simp [entryFrame, mkF, argsToLocals, Value.category]; done) | rfl
def Q_own_nbl3 (Z : State)  (h0 : Heap) (n0 : Nat) (v : Option Value) (h : Heap) (L : List Loc) : Prop := v = some (.int 6) ∧ Fr n0 L ∧ h = h0
set_option maxRecDepth 65536 in
set_option maxHeartbeats 40000000 in
theorem own_nbl3 (l : Launch) (Z : State) (a0 : Array Value) (hw : ∀ d ∈ tables_1, d.before a0 Z = true) (ws : List Jvm.Cond)  (h0 : Heap) (n0 : Nat) (Z0 : n0 ≤ h0.size) :
    MetFree l (⟨"java/lang/StringUTF16", "newBytesLength", "(I)I"⟩ : MethodName) (head1 (Jvm.Cond.code (⟨"java/lang/StringUTF16", "newBytesLength", "(I)I"⟩ : MethodName) jdk_52_method_3_code 1 (some .int) :: ws) ({ frames := 0, cells := 0, slots := 0, locals := 0 } : Room)) (fun a U => a = #[(.int 3)] ∧ Z.Warmed39 U.vm ∧ U.heap = h0) (fun _ _ _ _ _ => True) (fun _ U o U' => ∃ v L, o = .returned v ∧ Q_own_nbl3 Z  h0 n0 v U'.heap L ∧ FrameEnd U o U' L ({ frames := 0, cells := 0, slots := 0, locals := 0 } : Room).cells ({ frames := 0, cells := 0, slots := 0, locals := 0 } : Room).slots) := by
  refine MetFree.of_bodySF (plainFor_of_name own_pn_own_nbl3) hisR ?_
  intro p e s m args below meth c s₁ Bd hml0 hP hK
  obtain ⟨rfl, hZ, hh⟩ := hP
  have hx := Bd.exec
  have hby := Bd.bytes
  have hml : c.maxLocals = 1 := hml0
  have hown : s.vm.findClass "java/lang/StringUTF16" = some m.cls := findClass_of_methodNamed Bd.named
  have hnm := (name_of_methodNamed Bd.named Bd.method).1
  have X0 : Stand p l e ({ frames := 0, cells := 0, slots := 0, locals := 0 } : Room) s m #[(.int 3)] below meth c s₁ [] 0 0 := Stand.of_body Bd
  have e0 : s₁.heap = h0 := by rw [← hh, Bd.state]; rfl
  have N0 := Fr.nil n0
  have pre0 : Goes p e below s₁ (entryFrame m #[(.int 3)] 1) s₁ (mkF m 0 #[.val (.int 3)] []) := fun t k => castTop (own_ef_own_nbl3 m (3 : Int32)) k
  have pre1 : Goes p e below s₁ (entryFrame m #[(.int 3)] 1) s₁ (mkF m 58 #[.val (.int 3)] [(.int ((3 : Int32) <<< ((1 : Int32) &&& 31)))]) := fun t kt => pre0 t (by
      show Steps p.tables e below (s₁.setTop (mkF m 0 #[.val (.int 3)] [])) _
      refine XS.iloadN X0.here hx rfl (hb hby own_d_nbl3_0) rfl ?_
      refine XS.ifYes X0.here hx rfl (pc0 := 1) (pc' := 12) rfl (hb hby own_d_nbl3_1) rfl ((if0 _ _).trans (flt (by decide : ¬ ((3 : Int32) < (0 : Int32)))).2.1) (by decide) (by decide) ?_
      show Steps p.tables e below (s₁.setTop (mkF m 12 #[.val (.int 3)] [])) _
      refine XS.iloadN X0.here hx rfl (hb hby own_d_nbl3_12) rfl ?_
      refine X0.ldcInt hx hown (mvT hZ (hw _ (own_mG (i := 86) rfl))) (g := (mkF m 13 #[.val (.int 3)] [(.int 3)])) rfl (hb hby own_d_nbl3_13) _ ?_
      show Steps p.tables e below (s₁.setTop (mkF m 15 #[.val (.int 3)] [(.int 1073741823), (.int 3)])) _
      refine XS.icmpYes X0.here hx rfl (pc0 := 15) (pc' := 55) rfl (hb hby own_d_nbl3_15) rfl (tlt (by decide : (3 : Int32) < (1073741823 : Int32))).1 (by decide) (by decide) ?_
      refine XS.iloadN X0.here hx rfl (hb hby own_d_nbl3_55) rfl ?_
      show Steps p.tables e below (s₁.setTop (mkF m 56 #[.val (.int 3)] [(.int 3)])) _
      refine XS.iconst X0.here hx rfl (hb hby own_d_nbl3_56) ?_
      refine XS.ishl X0.here hx rfl (hb hby own_d_nbl3_57) rfl ?_
      exact kt)
  rw [show ((3 : Int32) <<< ((1 : Int32) &&& 31)) = (6 : Int32) from (by decide)] at pre1
  obtain ⟨fs, hr, hrun, hended, hW, hsame⟩ := X0.leave (v := some (.int 6)) (fun h => by rw [Bd.returns] at h; cases h)
  refine ⟨_, _, pre1 _ ?_, hrun, hended, _, _, rfl, ?_, ⟨_, rfl⟩, hW, hsame.mono (by decide) (by decide)⟩
  · show Steps p.tables e below (s₁.setTop (mkF m 58 #[.val (.int 3)] [(.int 6)])) _
    exact retI X0 hx Bd.returns (hb hby own_d_nbl3_58) hr
  · show Q_own_nbl3 Z  h0 n0 _ s₁.heap _
    rw [e0]
    exact ⟨rfl, N0, rfl⟩
theorem own_d_nbf3_0 : decode jdk_52_method_2_code 0 = .ok (.iload_n 0, 1) := by decide +kernel
theorem own_d_nbf3_1 : decode jdk_52_method_2_code 1 = .ok (.invokestatic 11, 3) := by decide +kernel
theorem own_d_nbf3_4 : decode jdk_52_method_2_code 4 = .ok (.newarray .byte, 2) := by decide +kernel
theorem own_d_nbf3_6 : decode jdk_52_method_2_code 6 = .ok (.areturn, 1) := by decide +kernel
theorem own_pn_own_nbf3 : plainName "java/lang/StringUTF16" = true := by first | (simp [plainName, overriddenIn]; done) | decide +kernel
theorem own_ef_own_nbf3 (m : MethodId) (x0 : Int32) : entryFrame m #[(.int x0)] 1 = mkF m 0 #[.val (.int x0)] [] := by first | (simp [entryFrame, mkF, argsToLocals, Value.category]; done) | rfl
def Q_own_nbf3 (Z : State)  (h0 : Heap) (n0 : Nat) (v : Option Value) (h : Heap) (L : List Loc) : Prop := ∃ (y : Addr) (ky : ClassId), v = some (.ref y) ∧ Fr n0 L ∧ Keep h0 h [] ∧ h0.size ≤ y ∧ n0 ≤ y ∧ Arv Z h y ky .byte (6 : Int32) [(.int 0), (.int 0), (.int 0), (.int 0), (.int 0), (.int 0)] (.int 0)
set_option maxRecDepth 65536 in
set_option maxHeartbeats 40000000 in
theorem own_nbf3 (l : Launch) (Z : State) (a0 : Array Value) (hw : ∀ d ∈ tables_1, d.before a0 Z = true) (ws : List Jvm.Cond)  (h0 : Heap) (n0 : Nat) (Z0 : n0 ≤ h0.size) :
    MetFree l (⟨"java/lang/StringUTF16", "newBytesFor", "(I)[B"⟩ : MethodName) (head1 (Jvm.Cond.code (⟨"java/lang/StringUTF16", "newBytesFor", "(I)[B"⟩ : MethodName) jdk_52_method_2_code 1 (some (.array .byte)) :: ws) ({ frames := 1, cells := 1, slots := 6, locals := 12 } : Room)) (fun a U => a = #[(.int 3)] ∧ Z.Warmed39 U.vm ∧ U.heap = h0) (fun _ _ _ _ _ => True) (fun _ U o U' => ∃ v L, o = .returned v ∧ Q_own_nbf3 Z  h0 n0 v U'.heap L ∧ FrameEnd U o U' L ({ frames := 1, cells := 1, slots := 6, locals := 12 } : Room).cells ({ frames := 1, cells := 1, slots := 6, locals := 12 } : Room).slots) := by
  refine MetFree.of_bodySF (plainFor_of_name own_pn_own_nbf3) hisR ?_
  intro p e s m args below meth c s₁ Bd hml0 hP hK
  obtain ⟨rfl, hZ, hh⟩ := hP
  have hx := Bd.exec
  have hby := Bd.bytes
  have hml : c.maxLocals = 1 := hml0
  have hown : s.vm.findClass "java/lang/StringUTF16" = some m.cls := findClass_of_methodNamed Bd.named
  have hnm := (name_of_methodNamed Bd.named Bd.method).1
  have X0 : Stand p l e ({ frames := 1, cells := 1, slots := 6, locals := 12 } : Room) s m #[(.int 3)] below meth c s₁ [] 0 0 := Stand.of_body Bd
  have e0 : s₁.heap = h0 := by rw [← hh, Bd.state]; rfl
  have N0 := Fr.nil n0
  have pre0 : Goes p e below s₁ (entryFrame m #[(.int 3)] 1) s₁ (mkF m 0 #[.val (.int 3)] []) := fun t k => castTop (own_ef_own_nbf3 m (3 : Int32)) k
  have pre1 : Goes p e below s₁ (entryFrame m #[(.int 3)] 1) s₁ (mkF m 1 #[.val (.int 3)] [(.int 3)]) := fun t kt => pre0 t (by
      show Steps p.tables e below (s₁.setTop (mkF m 0 #[.val (.int 3)] [])) _
      refine XS.iloadN X0.here hx rfl (hb hby own_d_nbf3_0) rfl ?_
      exact kt)
  obtain ⟨_, _, ⟨T2, L2, k2, n2⟩, -, X2, ⟨Lc2, hQ2, l2, y2, z2⟩, st2⟩ := Jvm.LawKit.callS X0 hx (y := (⟨"java/lang/StringUTF16", "newBytesLength", "(I)I"⟩ : MethodName)) hown (mvT hZ (hw _ (own_mG (i := 83) rfl))) (mvT hZ (hw _ (own_mG (i := 84) rfl))) (mvT hZ (hw _ (own_mG (i := 44) rfl))) (mvT hZ (hw _ (own_mG (i := 85) rfl))) (by decide) (backOf (W := 0) (own_nbl3 l Z a0 hw []  h0 n0 Z0 ) hZ (hw _ (own_mG (i := 85) rfl)) (hw _ (own_mG (i := 44) rfl)) (by decide) (by decide)) (g := (mkF m 1 #[.val (.int 3)] [(.int 3)])) rfl (by rw [hml]; rfl) (argsL := [(.int 3)]) (rest := []) (lenOf own_pd8 rfl) rfl (by show 2 * 0 + _ ≤ _; exact Nat.le_of_eq rfl) (hb hby own_d_nbf3_1) (fun _ _ => ⟨rfl, e0, (by decide : 0 + 0 ≤ _), (by decide : 0 + 0 ≤ _)⟩)
  dsimp only [Pt.U, Pt.locs, Pt.cells, Pt.slots] at X2 l2 y2 z2 st2 hQ2
  subst l2 y2 z2
  obtain ⟨rfl, N2q, e2⟩ := hQ2
  have N2 := Fr.app N0 N2q
  have pre3 : Goes p e below s₁ (entryFrame m #[(.int 3)] 1) T2 (mkF m 4 #[.val (.int 3)] [(.int 6)]) := fun t kt => pre1 t (st2 t kt)
  obtain ⟨T4, h4, k4, X4, e4, E4, A4, st4⟩ := newP X2 hx hZ (hw _ (own_mG (i := 20) rfl)) e2 (g := (mkF m 4 #[.val (.int 3)] [(.int 6)])) rfl (hb hby own_d_nbf3_4) rfl (by decide) (cap := 6) (by decide) (by decide) (by decide) (by decide)
  obtain ⟨b4, g4⟩ : ∃ z, z = h0.size := ⟨_, rfl⟩
  rw [← g4] at A4 st4
  have V_b4 : Arv Z h4 b4 k4 .byte (6 : Int32) [(.int 0), (.int 0), (.int 0), (.int 0), (.int 0), (.int 0)] (.int 0) := (Arv.new A4 (by decide)).pad (pad_rep [] (.int 0) 6)
  have g_b4 : n0 ≤ b4 := Nat.le_trans Z0 (Nat.le_of_eq g4.symm)
  have sz_b4 : h0.size ≤ b4 := (Nat.le_trans (Keep.refl h0 []).1 (Nat.le_of_eq g4.symm))
  have K4 : Keep h0 h4 [] := (Keep.refl h0 []).ext E4
  have pre5 : Goes p e below s₁ (entryFrame m #[(.int 3)] 1) T4 (mkF m 6 #[.val (.int 3)] [(.ref b4)]) := fun t kt => pre3 t (st4 t kt)
  obtain ⟨fs, hr, hrun, hended, hW, hsame⟩ := X4.leave (v := some (.ref b4)) (fun h => by rw [Bd.returns] at h; cases h)
  refine ⟨_, _, pre5 _ ?_, hrun, hended, _, _, rfl, ?_, ⟨_, rfl⟩, hW, hsame.mono (by decide) (by decide)⟩
  · show Steps p.tables e below (T4.setTop (mkF m 6 #[.val (.int 3)] [(.ref b4)])) _
    jvm_step X4.here [X4.here.top, hx, (hb hby own_d_nbf3_6), X4.method', Bd.returns, Value.isRef, FieldType.isReference]
    first | (intro acts; rw [hr _ acts rfl rfl rfl]) | rw [hr _ _ rfl rfl rfl]
    exact Steps.refl _
  · show Q_own_nbf3 Z  h0 n0 _ T4.heap _
    rw [e4]
    exact ⟨b4, k4, rfl, N2, K4, sz_b4, g_b4, V_b4⟩
theorem own_d_tob3_0 : decode jdk_52_method_14_code 0 = .ok (.iload_n 2, 1) := by decide +kernel
theorem own_d_tob3_1 : decode jdk_52_method_14_code 1 = .ok (.invokestatic 107, 3) := by decide +kernel
theorem own_d_tob3_4 : decode jdk_52_method_14_code 4 = .ok (.astore_n 3, 1) := by decide +kernel
theorem own_d_tob3_5 : decode jdk_52_method_14_code 5 = .ok (.iconst 0, 1) := by decide +kernel
theorem own_d_tob3_6 : decode jdk_52_method_14_code 6 = .ok (.istore 4, 2) := by decide +kernel
theorem own_d_tob3_8 : decode jdk_52_method_14_code 8 = .ok (.iload 4, 2) := by decide +kernel
theorem own_d_tob3_10 : decode jdk_52_method_14_code 10 = .ok (.iload_n 2, 1) := by decide +kernel
theorem own_d_tob3_11 : decode jdk_52_method_14_code 11 = .ok (.if_icmp .ge 21, 3) := by decide +kernel
theorem own_d_tob3_14 : decode jdk_52_method_14_code 14 = .ok (.aload_n 3, 1) := by decide +kernel
theorem own_d_tob3_15 : decode jdk_52_method_14_code 15 = .ok (.iload 4, 2) := by decide +kernel
theorem own_d_tob3_17 : decode jdk_52_method_14_code 17 = .ok (.aload_n 0, 1) := by decide +kernel
theorem own_d_tob3_18 : decode jdk_52_method_14_code 18 = .ok (.iload_n 1, 1) := by decide +kernel
theorem own_d_tob3_19 : decode jdk_52_method_14_code 19 = .ok (.caload, 1) := by decide +kernel
theorem own_d_tob3_20 : decode jdk_52_method_14_code 20 = .ok (.invokestatic 111, 3) := by decide +kernel
theorem own_d_tob3_23 : decode jdk_52_method_14_code 23 = .ok (.iinc 1 1, 3) := by decide +kernel
theorem own_d_tob3_26 : decode jdk_52_method_14_code 26 = .ok (.iinc 4 1, 3) := by decide +kernel
theorem own_d_tob3_29 : decode jdk_52_method_14_code 29 = .ok (.goto (-21), 3) := by decide +kernel
theorem own_d_tob3_32 : decode jdk_52_method_14_code 32 = .ok (.aload_n 3, 1) := by decide +kernel
theorem own_d_tob3_33 : decode jdk_52_method_14_code 33 = .ok (.areturn, 1) := by decide +kernel
theorem own_pn_own_tob3 : plainName "java/lang/StringUTF16" = true := by first | (simp [plainName, overriddenIn]; done) | decide +kernel
theorem own_ef_own_tob3 (m : MethodId) (x0 : Addr) (x1 : Int32) (x2 : Int32) : entryFrame m #[(.ref x0), (.int x1), (.int x2)] 5 = mkF m 0 #[.val (.ref x0), .val (.int x1), .val (.int x2), .unset, .unset] [] := by first | (simp [entryFrame, mkF, argsToLocals, Value.category]; done) | rfl
def Q_own_tob3 (Z : State) (ac : Addr) (kc : ClassId) (v0 : Int32) (v1 : Int32) (v2 : Int32) (cs : Int32) (fm : Value) (h0 : Heap) (n0 : Nat) (v : Option Value) (h : Heap) (L : List Loc) : Prop := ∃ (y : Addr) (ky : ClassId), v = some (.ref y) ∧ Fr n0 L ∧ Keep h0 h [] ∧ h0.size ≤ y ∧ n0 ≤ y ∧ Arv Z h y ky .byte (6 : Int32) [(.int (own_B0 v0)), (.int (own_B1 v0)), (.int (own_B0 v1)), (.int (own_B1 v1)), (.int (own_B0 v2)), (.int (own_B1 v2))] (.int 0)
set_option maxRecDepth 65536 in
set_option maxHeartbeats 40000000 in
theorem own_tob3 (l : Launch) (Z : State) (a0 : Array Value) (hw : ∀ d ∈ tables_1, d.before a0 Z = true) (ws : List Jvm.Cond) (ac : Addr) (kc : ClassId) (v0 : Int32) (v1 : Int32) (v2 : Int32) (cs : Int32) (fm : Value) (h0 : Heap) (n0 : Nat) (Z0 : n0 ≤ h0.size) (V_ac : Arv Z h0 ac kc .char (3 : Int32) [(.int v0), (.int v1), (.int v2)] (.int 0)) (hst : own_ST Z cs fm) (O0 : Old Z n0 h0) :
    MetFree l (⟨"java/lang/StringUTF16", "toBytes", "([CII)[B"⟩ : MethodName) (head1 (Jvm.Cond.code (⟨"java/lang/StringUTF16", "toBytes", "([CII)[B"⟩ : MethodName) jdk_52_method_14_code 5 (some (.array .byte)) :: ws) ({ frames := 2, cells := 1, slots := 6, locals := 24 } : Room)) (fun a U => a = #[(.ref ac), (.int 0), (.int 3)] ∧ Z.Warmed39 U.vm ∧ U.heap = h0) (fun _ _ _ _ _ => True) (fun _ U o U' => ∃ v L, o = .returned v ∧ Q_own_tob3 Z ac kc v0 v1 v2 cs fm h0 n0 v U'.heap L ∧ FrameEnd U o U' L ({ frames := 2, cells := 1, slots := 6, locals := 24 } : Room).cells ({ frames := 2, cells := 1, slots := 6, locals := 24 } : Room).slots) := by
  refine MetFree.of_bodySF (plainFor_of_name own_pn_own_tob3) hisR ?_
  intro p e s m args below meth c s₁ Bd hml0 hP hK
  obtain ⟨rfl, hZ, hh⟩ := hP
  have hx := Bd.exec
  have hby := Bd.bytes
  have hml : c.maxLocals = 5 := hml0
  have hown : s.vm.findClass "java/lang/StringUTF16" = some m.cls := findClass_of_methodNamed Bd.named
  have hnm := (name_of_methodNamed Bd.named Bd.method).1
  have X0 : Stand p l e ({ frames := 2, cells := 1, slots := 6, locals := 24 } : Room) s m #[(.ref ac), (.int 0), (.int 3)] below meth c s₁ [] 0 0 := Stand.of_body Bd
  have e0 : s₁.heap = h0 := by rw [← hh, Bd.state]; rfl
  have N0 := Fr.nil n0
  have pre0 : Goes p e below s₁ (entryFrame m #[(.ref ac), (.int 0), (.int 3)] 5) s₁ (mkF m 0 #[.val (.ref ac), .val (.int 0), .val (.int 3), .unset, .unset] []) := fun t k => castTop (own_ef_own_tob3 m ac (0 : Int32) (3 : Int32)) k
  have pre1 : Goes p e below s₁ (entryFrame m #[(.ref ac), (.int 0), (.int 3)] 5) s₁ (mkF m 1 #[.val (.ref ac), .val (.int 0), .val (.int 3), .unset, .unset] [(.int 3)]) := fun t kt => pre0 t (by
      show Steps p.tables e below (s₁.setTop (mkF m 0 #[.val (.ref ac), .val (.int 0), .val (.int 3), .unset, .unset] [])) _
      refine XS.iloadN X0.here hx rfl (hb hby own_d_tob3_0) rfl ?_
      exact kt)
  obtain ⟨_, _, ⟨T2, L2, k2, n2⟩, -, X2, ⟨Lc2, hQ2, l2, y2, z2⟩, st2⟩ := Jvm.LawKit.callS X0 hx (y := (⟨"java/lang/StringUTF16", "newBytesFor", "(I)[B"⟩ : MethodName)) hown (mvT hZ (hw _ (own_mG (i := 80) rfl))) (mvT hZ (hw _ (own_mG (i := 81) rfl))) (mvT hZ (hw _ (own_mG (i := 44) rfl))) (mvT hZ (hw _ (own_mG (i := 82) rfl))) (by decide) (backOf (W := 0) (own_nbf3 l Z a0 hw []  h0 n0 Z0 ) hZ (hw _ (own_mG (i := 82) rfl)) (hw _ (own_mG (i := 44) rfl)) (by decide) (by decide)) (g := (mkF m 1 #[.val (.ref ac), .val (.int 0), .val (.int 3), .unset, .unset] [(.int 3)])) rfl (by rw [hml]; rfl) (argsL := [(.int 3)]) (rest := []) (lenOf own_pd9 rfl) rfl (by show 2 * 0 + _ ≤ _; exact Nat.le_of_eq rfl) (hb hby own_d_tob3_1) (fun _ _ => ⟨rfl, e0, (by decide : 0 + 1 ≤ _), (by decide : 0 + 6 ≤ _)⟩)
  dsimp only [Pt.U, Pt.locs, Pt.cells, Pt.slots] at X2 l2 y2 z2 st2 hQ2
  subst l2 y2 z2
  obtain ⟨yy2, ky2, rfl, N2q, K2q, zy2, gy2, Vy2⟩ := hQ2
  have N2 := Fr.app N0 N2q
  have KC2 : Keep h0 T2.heap [] := (Keep.refl h0 []).trans K2q all0
  have pre3 : Goes p e below s₁ (entryFrame m #[(.ref ac), (.int 0), (.int 3)] 5) T2 (mkF m 4 #[.val (.ref ac), .val (.int 0), .val (.int 3), .unset, .unset] [(.ref yy2)]) := fun t kt => pre1 t (st2 t kt)
  have sz_yy2 := zy2
  have g_yy2 := gy2
  have pre4 : Goes p e below s₁ (entryFrame m #[(.ref ac), (.int 0), (.int 3)] 5) T2 (mkF m 19 #[.val (.ref ac), .val (.int 0), .val (.int 3), .val (.ref yy2), .val (.int 0)] [(.int 0), (.ref ac), (.int 0), (.ref yy2)]) := fun t kt => pre3 t (by
      show Steps p.tables e below (T2.setTop (mkF m 4 #[.val (.ref ac), .val (.int 0), .val (.int 3), .unset, .unset] [(.ref yy2)])) _
      refine XS.astoreN X2.here hx rfl (hb hby own_d_tob3_4) rfl rfl (l' := #[.val (.ref ac), .val (.int 0), .val (.int 3), .val (.ref yy2), .unset]) rfl ?_
      refine XS.iconst X2.here hx rfl (hb hby own_d_tob3_5) ?_
      show Steps p.tables e below (T2.setTop (mkF m 6 #[.val (.ref ac), .val (.int 0), .val (.int 3), .val (.ref yy2), .unset] [(.int 0)])) _
      refine XS.istore X2.here hx rfl (hb hby own_d_tob3_6) rfl (l' := #[.val (.ref ac), .val (.int 0), .val (.int 3), .val (.ref yy2), .val (.int 0)]) rfl ?_
      refine XS.iload X2.here hx rfl (hb hby own_d_tob3_8) rfl ?_
      show Steps p.tables e below (T2.setTop (mkF m 10 #[.val (.ref ac), .val (.int 0), .val (.int 3), .val (.ref yy2), .val (.int 0)] [(.int 0)])) _
      refine XS.iloadN X2.here hx rfl (hb hby own_d_tob3_10) rfl ?_
      refine XS.icmpNo X2.here hx rfl (hb hby own_d_tob3_11) rfl (tlt (by decide : (0 : Int32) < (3 : Int32))).2.1 ?_
      show Steps p.tables e below (T2.setTop (mkF m 14 #[.val (.ref ac), .val (.int 0), .val (.int 3), .val (.ref yy2), .val (.int 0)] [])) _
      refine XS.aloadN X2.here hx rfl (hb hby own_d_tob3_14) rfl rfl ?_
      refine XS.iload X2.here hx rfl (hb hby own_d_tob3_15) rfl ?_
      show Steps p.tables e below (T2.setTop (mkF m 17 #[.val (.ref ac), .val (.int 0), .val (.int 3), .val (.ref yy2), .val (.int 0)] [(.int 0), (.ref yy2)])) _
      refine XS.aloadN X2.here hx rfl (hb hby own_d_tob3_17) rfl rfl ?_
      refine XS.iloadN X2.here hx rfl (hb hby own_d_tob3_18) rfl ?_
      exact kt)
  obtain ⟨cl5, Ar5, q5, S5, N_5, H5, G5⟩ := (id ((V_ac.keep K2q nin0)))
  have hin5 : ¬ ((0 : Int32) < 0 ∨ cl5.slots.size ≤ ((0 : Int32)).toNatClampNeg) := inb_of S5 ⟨by decide, by decide⟩
  have hat5 : cl5.slots[((0 : Int32)).toNatClampNeg]? = some (.int v0) := Has.at H5 hin5 rfl
  have pre6 : Goes p e below s₁ (entryFrame m #[(.ref ac), (.int 0), (.int 3)] 5) T2 (mkF m 20 #[.val (.ref ac), .val (.int 0), .val (.int 3), .val (.ref yy2), .val (.int 0)] [(.int v0), (.int 0), (.ref yy2)]) := fun t kt => pre4 t (by
      show Steps p.tables e below (T2.setTop (mkF m 19 #[.val (.ref ac), .val (.int 0), .val (.int 3), .val (.ref yy2), .val (.int 0)] [(.int 0), (.ref ac), (.int 0), (.ref yy2)])) _
      refine X2.caload hx (j := (0 : Int32)) (v := (.int v0)) (by (try rw [rfl]); exact Ar5.1) (State.isArrayOf_alike hZ.alike Ar5.2.1) Ar5.2.2 hin5 hat5 (g := (mkF m 19 #[.val (.ref ac), .val (.int 0), .val (.int 3), .val (.ref yy2), .val (.int 0)] [(.int 0), (.ref ac), (.int 0), (.ref yy2)])) rfl rfl (hb hby own_d_tob3_19) _ ?_
      exact kt)
  obtain ⟨_, _, ⟨T7, L7, k7, n7⟩, -, X7, ⟨Lc7, hQ7, l7, y7, z7⟩, st7⟩ := Jvm.LawKit.callS X2 hx (y := (⟨"java/lang/StringUTF16", "putChar", "([BII)V"⟩ : MethodName)) hown (mvT hZ (hw _ (own_mG (i := 87) rfl))) (mvT hZ (hw _ (own_mG (i := 88) rfl))) (mvT hZ (hw _ (own_mG (i := 44) rfl))) (mvT hZ (hw _ (own_mG (i := 89) rfl))) (by decide) (backOf (W := 0) (own_pch l Z a0 hw [] yy2 ky2 (6 : Int32) [(.int 0), (.int 0), (.int 0), (.int 0), (.int 0), (.int 0)] (0 : Int32) v0 cs fm T2.heap n0 (Nat.le_trans Z0 K2q.1) Vy2 (by decide) (by show _ < 6; decide) (by decide) (by show _ < 6; decide) g_yy2 hst (O0.keep K2q all0)) hZ (hw _ (own_mG (i := 89) rfl)) (hw _ (own_mG (i := 44) rfl)) (by decide) (by decide)) (g := (mkF m 20 #[.val (.ref ac), .val (.int 0), .val (.int 3), .val (.ref yy2), .val (.int 0)] [(.int v0), (.int 0), (.ref yy2)])) rfl (by rw [hml]; rfl) (argsL := [(.ref yy2), (.int 0), (.int v0)]) (rest := []) (lenOf own_pd10 rfl) rfl (by show 2 * 0 + _ ≤ _; exact Nat.le_of_eq rfl) (hb hby own_d_tob3_20) (fun _ _ => ⟨rfl, rfl, (by decide : 1 + 0 ≤ _), (by decide : 6 + 0 ≤ _)⟩)
  dsimp only [Pt.U, Pt.locs, Pt.cells, Pt.slots] at X7 l7 y7 z7 st7 hQ7
  subst l7 y7 z7
  obtain ⟨rfl, N7q, K7q, Vz7⟩ := hQ7
  have N7 := Fr.app N2 N7q
  have KC7 : Keep h0 T7.heap [] := KC2.trans K7q (allS (Or.inr sz_yy2) all0)
  have pre8 : Goes p e below s₁ (entryFrame m #[(.ref ac), (.int 0), (.int 3)] 5) T7 (mkF m 23 #[.val (.ref ac), .val (.int 0), .val (.int 3), .val (.ref yy2), .val (.int 0)] []) := fun t kt => pre6 t (st7 t kt)
  have Vw7 : Arv Z T7.heap yy2 ky2 .byte (6 : Int32) [(.int (own_B0 v0)), (.int (own_B1 v0)), (.int 0), (.int 0), (.int 0), (.int 0)] (.int 0) := Vz7
  have pre9 : Goes p e below s₁ (entryFrame m #[(.ref ac), (.int 0), (.int 3)] 5) T7 (mkF m 19 #[.val (.ref ac), .val (.int 1), .val (.int 3), .val (.ref yy2), .val (.int 1)] [(.int 1), (.ref ac), (.int 1), (.ref yy2)]) := fun t kt => pre8 t (by
      show Steps p.tables e below (T7.setTop (mkF m 23 #[.val (.ref ac), .val (.int 0), .val (.int 3), .val (.ref yy2), .val (.int 0)] [])) _
      refine XS.iinc X7.here hx rfl (hb hby own_d_tob3_23) rfl (l' := #[.val (.ref ac), .val (.int 1), .val (.int 3), .val (.ref yy2), .val (.int 0)]) rfl ?_
      refine XS.iinc X7.here hx rfl (hb hby own_d_tob3_26) rfl (l' := #[.val (.ref ac), .val (.int 1), .val (.int 3), .val (.ref yy2), .val (.int 1)]) rfl ?_
      show Steps p.tables e below (T7.setTop (mkF m 29 #[.val (.ref ac), .val (.int 1), .val (.int 3), .val (.ref yy2), .val (.int 1)] [])) _
      refine XS.goto X7.here hx rfl (pc0 := 29) (pc' := 8) rfl (hb hby own_d_tob3_29) (by decide) (by decide) ?_
      refine XS.iload X7.here hx rfl (hb hby own_d_tob3_8) rfl ?_
      show Steps p.tables e below (T7.setTop (mkF m 10 #[.val (.ref ac), .val (.int 1), .val (.int 3), .val (.ref yy2), .val (.int 1)] [(.int 1)])) _
      refine XS.iloadN X7.here hx rfl (hb hby own_d_tob3_10) rfl ?_
      refine XS.icmpNo X7.here hx rfl (hb hby own_d_tob3_11) rfl (tlt (by decide : (1 : Int32) < (3 : Int32))).2.1 ?_
      show Steps p.tables e below (T7.setTop (mkF m 14 #[.val (.ref ac), .val (.int 1), .val (.int 3), .val (.ref yy2), .val (.int 1)] [])) _
      refine XS.aloadN X7.here hx rfl (hb hby own_d_tob3_14) rfl rfl ?_
      refine XS.iload X7.here hx rfl (hb hby own_d_tob3_15) rfl ?_
      show Steps p.tables e below (T7.setTop (mkF m 17 #[.val (.ref ac), .val (.int 1), .val (.int 3), .val (.ref yy2), .val (.int 1)] [(.int 1), (.ref yy2)])) _
      refine XS.aloadN X7.here hx rfl (hb hby own_d_tob3_17) rfl rfl ?_
      refine XS.iloadN X7.here hx rfl (hb hby own_d_tob3_18) rfl ?_
      exact kt)
  obtain ⟨cl10, Ar10, q10, S10, N_10, H10, G10⟩ := (id (((V_ac.keep K2q nin0).keep K7q (ninS (Nat.ne_of_lt (Nat.lt_of_lt_of_le V_ac.lt zy2)) nin0))))
  have hin10 : ¬ ((1 : Int32) < 0 ∨ cl10.slots.size ≤ ((1 : Int32)).toNatClampNeg) := inb_of S10 ⟨by decide, by decide⟩
  have hat10 : cl10.slots[((1 : Int32)).toNatClampNeg]? = some (.int v1) := Has.at H10 hin10 rfl
  have pre11 : Goes p e below s₁ (entryFrame m #[(.ref ac), (.int 0), (.int 3)] 5) T7 (mkF m 20 #[.val (.ref ac), .val (.int 1), .val (.int 3), .val (.ref yy2), .val (.int 1)] [(.int v1), (.int 1), (.ref yy2)]) := fun t kt => pre9 t (by
      show Steps p.tables e below (T7.setTop (mkF m 19 #[.val (.ref ac), .val (.int 1), .val (.int 3), .val (.ref yy2), .val (.int 1)] [(.int 1), (.ref ac), (.int 1), (.ref yy2)])) _
      refine X7.caload hx (j := (1 : Int32)) (v := (.int v1)) (by (try rw [rfl]); exact Ar10.1) (State.isArrayOf_alike hZ.alike Ar10.2.1) Ar10.2.2 hin10 hat10 (g := (mkF m 19 #[.val (.ref ac), .val (.int 1), .val (.int 3), .val (.ref yy2), .val (.int 1)] [(.int 1), (.ref ac), (.int 1), (.ref yy2)])) rfl rfl (hb hby own_d_tob3_19) _ ?_
      exact kt)
  obtain ⟨_, _, ⟨T12, L12, k12, n12⟩, -, X12, ⟨Lc12, hQ12, l12, y12, z12⟩, st12⟩ := Jvm.LawKit.callS X7 hx (y := (⟨"java/lang/StringUTF16", "putChar", "([BII)V"⟩ : MethodName)) hown (mvT hZ (hw _ (own_mG (i := 87) rfl))) (mvT hZ (hw _ (own_mG (i := 88) rfl))) (mvT hZ (hw _ (own_mG (i := 44) rfl))) (mvT hZ (hw _ (own_mG (i := 89) rfl))) (by decide) (backOf (W := 0) (own_pch l Z a0 hw [] yy2 ky2 (6 : Int32) [(.int (own_B0 v0)), (.int (own_B1 v0)), (.int 0), (.int 0), (.int 0), (.int 0)] (1 : Int32) v1 cs fm T7.heap n0 (Nat.le_trans (Nat.le_trans Z0 K2q.1) K7q.1) Vw7 (by decide) (by show _ < 6; decide) (by decide) (by show _ < 6; decide) g_yy2 hst ((O0.keep K2q all0).keep K7q (allS g_yy2 all0))) hZ (hw _ (own_mG (i := 89) rfl)) (hw _ (own_mG (i := 44) rfl)) (by decide) (by decide)) (g := (mkF m 20 #[.val (.ref ac), .val (.int 1), .val (.int 3), .val (.ref yy2), .val (.int 1)] [(.int v1), (.int 1), (.ref yy2)])) rfl (by rw [hml]; rfl) (argsL := [(.ref yy2), (.int 1), (.int v1)]) (rest := []) (lenOf own_pd10 rfl) rfl (by show 2 * 0 + _ ≤ _; exact Nat.le_of_eq rfl) (hb hby own_d_tob3_20) (fun _ _ => ⟨rfl, rfl, (by decide : 1 + 0 ≤ _), (by decide : 6 + 0 ≤ _)⟩)
  dsimp only [Pt.U, Pt.locs, Pt.cells, Pt.slots] at X12 l12 y12 z12 st12 hQ12
  subst l12 y12 z12
  obtain ⟨rfl, N12q, K12q, Vz12⟩ := hQ12
  have N12 := Fr.app N7 N12q
  have KC12 : Keep h0 T12.heap [] := KC7.trans K12q (allS (Or.inr sz_yy2) all0)
  have pre13 : Goes p e below s₁ (entryFrame m #[(.ref ac), (.int 0), (.int 3)] 5) T12 (mkF m 23 #[.val (.ref ac), .val (.int 1), .val (.int 3), .val (.ref yy2), .val (.int 1)] []) := fun t kt => pre11 t (st12 t kt)
  have Vw12 : Arv Z T12.heap yy2 ky2 .byte (6 : Int32) [(.int (own_B0 v0)), (.int (own_B1 v0)), (.int (own_B0 v1)), (.int (own_B1 v1)), (.int 0), (.int 0)] (.int 0) := Vz12
  have pre14 : Goes p e below s₁ (entryFrame m #[(.ref ac), (.int 0), (.int 3)] 5) T12 (mkF m 19 #[.val (.ref ac), .val (.int 2), .val (.int 3), .val (.ref yy2), .val (.int 2)] [(.int 2), (.ref ac), (.int 2), (.ref yy2)]) := fun t kt => pre13 t (by
      show Steps p.tables e below (T12.setTop (mkF m 23 #[.val (.ref ac), .val (.int 1), .val (.int 3), .val (.ref yy2), .val (.int 1)] [])) _
      refine XS.iinc X12.here hx rfl (hb hby own_d_tob3_23) rfl (l' := #[.val (.ref ac), .val (.int 2), .val (.int 3), .val (.ref yy2), .val (.int 1)]) rfl ?_
      refine XS.iinc X12.here hx rfl (hb hby own_d_tob3_26) rfl (l' := #[.val (.ref ac), .val (.int 2), .val (.int 3), .val (.ref yy2), .val (.int 2)]) rfl ?_
      show Steps p.tables e below (T12.setTop (mkF m 29 #[.val (.ref ac), .val (.int 2), .val (.int 3), .val (.ref yy2), .val (.int 2)] [])) _
      refine XS.goto X12.here hx rfl (pc0 := 29) (pc' := 8) rfl (hb hby own_d_tob3_29) (by decide) (by decide) ?_
      refine XS.iload X12.here hx rfl (hb hby own_d_tob3_8) rfl ?_
      show Steps p.tables e below (T12.setTop (mkF m 10 #[.val (.ref ac), .val (.int 2), .val (.int 3), .val (.ref yy2), .val (.int 2)] [(.int 2)])) _
      refine XS.iloadN X12.here hx rfl (hb hby own_d_tob3_10) rfl ?_
      refine XS.icmpNo X12.here hx rfl (hb hby own_d_tob3_11) rfl (tlt (by decide : (2 : Int32) < (3 : Int32))).2.1 ?_
      show Steps p.tables e below (T12.setTop (mkF m 14 #[.val (.ref ac), .val (.int 2), .val (.int 3), .val (.ref yy2), .val (.int 2)] [])) _
      refine XS.aloadN X12.here hx rfl (hb hby own_d_tob3_14) rfl rfl ?_
      refine XS.iload X12.here hx rfl (hb hby own_d_tob3_15) rfl ?_
      show Steps p.tables e below (T12.setTop (mkF m 17 #[.val (.ref ac), .val (.int 2), .val (.int 3), .val (.ref yy2), .val (.int 2)] [(.int 2), (.ref yy2)])) _
      refine XS.aloadN X12.here hx rfl (hb hby own_d_tob3_17) rfl rfl ?_
      refine XS.iloadN X12.here hx rfl (hb hby own_d_tob3_18) rfl ?_
      exact kt)
  obtain ⟨cl15, Ar15, q15, S15, N_15, H15, G15⟩ := (id ((((V_ac.keep K2q nin0).keep K7q (ninS (Nat.ne_of_lt (Nat.lt_of_lt_of_le V_ac.lt zy2)) nin0)).keep K12q (ninS (Nat.ne_of_lt (Nat.lt_of_lt_of_le V_ac.lt zy2)) nin0))))
  have hin15 : ¬ ((2 : Int32) < 0 ∨ cl15.slots.size ≤ ((2 : Int32)).toNatClampNeg) := inb_of S15 ⟨by decide, by decide⟩
  have hat15 : cl15.slots[((2 : Int32)).toNatClampNeg]? = some (.int v2) := Has.at H15 hin15 rfl
  have pre16 : Goes p e below s₁ (entryFrame m #[(.ref ac), (.int 0), (.int 3)] 5) T12 (mkF m 20 #[.val (.ref ac), .val (.int 2), .val (.int 3), .val (.ref yy2), .val (.int 2)] [(.int v2), (.int 2), (.ref yy2)]) := fun t kt => pre14 t (by
      show Steps p.tables e below (T12.setTop (mkF m 19 #[.val (.ref ac), .val (.int 2), .val (.int 3), .val (.ref yy2), .val (.int 2)] [(.int 2), (.ref ac), (.int 2), (.ref yy2)])) _
      refine X12.caload hx (j := (2 : Int32)) (v := (.int v2)) (by (try rw [rfl]); exact Ar15.1) (State.isArrayOf_alike hZ.alike Ar15.2.1) Ar15.2.2 hin15 hat15 (g := (mkF m 19 #[.val (.ref ac), .val (.int 2), .val (.int 3), .val (.ref yy2), .val (.int 2)] [(.int 2), (.ref ac), (.int 2), (.ref yy2)])) rfl rfl (hb hby own_d_tob3_19) _ ?_
      exact kt)
  obtain ⟨_, _, ⟨T17, L17, k17, n17⟩, -, X17, ⟨Lc17, hQ17, l17, y17, z17⟩, st17⟩ := Jvm.LawKit.callS X12 hx (y := (⟨"java/lang/StringUTF16", "putChar", "([BII)V"⟩ : MethodName)) hown (mvT hZ (hw _ (own_mG (i := 87) rfl))) (mvT hZ (hw _ (own_mG (i := 88) rfl))) (mvT hZ (hw _ (own_mG (i := 44) rfl))) (mvT hZ (hw _ (own_mG (i := 89) rfl))) (by decide) (backOf (W := 0) (own_pch l Z a0 hw [] yy2 ky2 (6 : Int32) [(.int (own_B0 v0)), (.int (own_B1 v0)), (.int (own_B0 v1)), (.int (own_B1 v1)), (.int 0), (.int 0)] (2 : Int32) v2 cs fm T12.heap n0 (Nat.le_trans (Nat.le_trans (Nat.le_trans Z0 K2q.1) K7q.1) K12q.1) Vw12 (by decide) (by show _ < 6; decide) (by decide) (by show _ < 6; decide) g_yy2 hst (((O0.keep K2q all0).keep K7q (allS g_yy2 all0)).keep K12q (allS g_yy2 all0))) hZ (hw _ (own_mG (i := 89) rfl)) (hw _ (own_mG (i := 44) rfl)) (by decide) (by decide)) (g := (mkF m 20 #[.val (.ref ac), .val (.int 2), .val (.int 3), .val (.ref yy2), .val (.int 2)] [(.int v2), (.int 2), (.ref yy2)])) rfl (by rw [hml]; rfl) (argsL := [(.ref yy2), (.int 2), (.int v2)]) (rest := []) (lenOf own_pd10 rfl) rfl (by show 2 * 0 + _ ≤ _; exact Nat.le_of_eq rfl) (hb hby own_d_tob3_20) (fun _ _ => ⟨rfl, rfl, (by decide : 1 + 0 ≤ _), (by decide : 6 + 0 ≤ _)⟩)
  dsimp only [Pt.U, Pt.locs, Pt.cells, Pt.slots] at X17 l17 y17 z17 st17 hQ17
  subst l17 y17 z17
  obtain ⟨rfl, N17q, K17q, Vz17⟩ := hQ17
  have N17 := Fr.app N12 N17q
  have KC17 : Keep h0 T17.heap [] := KC12.trans K17q (allS (Or.inr sz_yy2) all0)
  have pre18 : Goes p e below s₁ (entryFrame m #[(.ref ac), (.int 0), (.int 3)] 5) T17 (mkF m 23 #[.val (.ref ac), .val (.int 2), .val (.int 3), .val (.ref yy2), .val (.int 2)] []) := fun t kt => pre16 t (st17 t kt)
  have Vw17 : Arv Z T17.heap yy2 ky2 .byte (6 : Int32) [(.int (own_B0 v0)), (.int (own_B1 v0)), (.int (own_B0 v1)), (.int (own_B1 v1)), (.int (own_B0 v2)), (.int (own_B1 v2))] (.int 0) := Vz17
  have pre19 : Goes p e below s₁ (entryFrame m #[(.ref ac), (.int 0), (.int 3)] 5) T17 (mkF m 33 #[.val (.ref ac), .val (.int 3), .val (.int 3), .val (.ref yy2), .val (.int 3)] [(.ref yy2)]) := fun t kt => pre18 t (by
      show Steps p.tables e below (T17.setTop (mkF m 23 #[.val (.ref ac), .val (.int 2), .val (.int 3), .val (.ref yy2), .val (.int 2)] [])) _
      refine XS.iinc X17.here hx rfl (hb hby own_d_tob3_23) rfl (l' := #[.val (.ref ac), .val (.int 3), .val (.int 3), .val (.ref yy2), .val (.int 2)]) rfl ?_
      refine XS.iinc X17.here hx rfl (hb hby own_d_tob3_26) rfl (l' := #[.val (.ref ac), .val (.int 3), .val (.int 3), .val (.ref yy2), .val (.int 3)]) rfl ?_
      show Steps p.tables e below (T17.setTop (mkF m 29 #[.val (.ref ac), .val (.int 3), .val (.int 3), .val (.ref yy2), .val (.int 3)] [])) _
      refine XS.goto X17.here hx rfl (pc0 := 29) (pc' := 8) rfl (hb hby own_d_tob3_29) (by decide) (by decide) ?_
      refine XS.iload X17.here hx rfl (hb hby own_d_tob3_8) rfl ?_
      show Steps p.tables e below (T17.setTop (mkF m 10 #[.val (.ref ac), .val (.int 3), .val (.int 3), .val (.ref yy2), .val (.int 3)] [(.int 3)])) _
      refine XS.iloadN X17.here hx rfl (hb hby own_d_tob3_10) rfl ?_
      refine XS.icmpYes X17.here hx rfl (pc0 := 11) (pc' := 32) rfl (hb hby own_d_tob3_11) rfl (flt (by decide : ¬ ((3 : Int32) < (3 : Int32)))).2.1 (by decide) (by decide) ?_
      show Steps p.tables e below (T17.setTop (mkF m 32 #[.val (.ref ac), .val (.int 3), .val (.int 3), .val (.ref yy2), .val (.int 3)] [])) _
      refine XS.aloadN X17.here hx rfl (hb hby own_d_tob3_32) rfl rfl ?_
      exact kt)
  obtain ⟨fs, hr, hrun, hended, hW, hsame⟩ := X17.leave (v := some (.ref yy2)) (fun h => by rw [Bd.returns] at h; cases h)
  refine ⟨_, _, pre19 _ ?_, hrun, hended, _, _, rfl, ?_, ⟨_, rfl⟩, hW, hsame.mono (by decide) (by decide)⟩
  · show Steps p.tables e below (T17.setTop (mkF m 33 #[.val (.ref ac), .val (.int 3), .val (.int 3), .val (.ref yy2), .val (.int 3)] [(.ref yy2)])) _
    jvm_step X17.here [X17.here.top, hx, (hb hby own_d_tob3_33), X17.method', Bd.returns, Value.isRef, FieldType.isReference]
    first | (intro acts; rw [hr _ acts rfl rfl rfl]) | rw [hr _ _ rfl rfl rfl]
    exact Steps.refl _
  · show Q_own_tob3 Z ac kc v0 v1 v2 cs fm h0 n0 _ T17.heap _
    exact ⟨yy2, ky2, rfl, N17, KC17, sz_yy2, g_yy2, Vw17⟩
theorem own_d_cou3_0 : decode jdk_52_method_16_code 0 = .ok (.iload_n 2, 1) := by decide +kernel
theorem own_d_cou3_1 : decode jdk_52_method_16_code 1 = .ok (.newarray .byte, 2) := by decide +kernel
theorem own_d_cou3_3 : decode jdk_52_method_16_code 3 = .ok (.astore_n 3, 1) := by decide +kernel
theorem own_d_cou3_4 : decode jdk_52_method_16_code 4 = .ok (.aload_n 0, 1) := by decide +kernel
theorem own_d_cou3_5 : decode jdk_52_method_16_code 5 = .ok (.iload_n 1, 1) := by decide +kernel
theorem own_d_cou3_6 : decode jdk_52_method_16_code 6 = .ok (.aload_n 3, 1) := by decide +kernel
theorem own_d_cou3_7 : decode jdk_52_method_16_code 7 = .ok (.iconst 0, 1) := by decide +kernel
theorem own_d_cou3_8 : decode jdk_52_method_16_code 8 = .ok (.iload_n 2, 1) := by decide +kernel
theorem own_d_cou3_9 : decode jdk_52_method_16_code 9 = .ok (.invokestatic 115, 3) := by decide +kernel
theorem own_d_cou3_12 : decode jdk_52_method_16_code 12 = .ok (.istore 4, 2) := by decide +kernel
theorem own_d_cou3_14 : decode jdk_52_method_16_code 14 = .ok (.iload 4, 2) := by decide +kernel
theorem own_d_cou3_16 : decode jdk_52_method_16_code 16 = .ok (.iload_n 2, 1) := by decide +kernel
theorem own_d_cou3_17 : decode jdk_52_method_16_code 17 = .ok (.if_icmp .eq 40, 3) := by decide +kernel
theorem own_d_cou3_20 : decode jdk_52_method_16_code 20 = .ok (.aload_n 0, 1) := by decide +kernel
theorem own_d_cou3_21 : decode jdk_52_method_16_code 21 = .ok (.iload_n 1, 1) := by decide +kernel
theorem own_d_cou3_22 : decode jdk_52_method_16_code 22 = .ok (.iload_n 2, 1) := by decide +kernel
theorem own_d_cou3_23 : decode jdk_52_method_16_code 23 = .ok (.invokestatic 119, 3) := by decide +kernel
theorem own_d_cou3_26 : decode jdk_52_method_16_code 26 = .ok (.astore 5, 2) := by decide +kernel
theorem own_d_cou3_28 : decode jdk_52_method_16_code 28 = .ok (.aload 5, 2) := by decide +kernel
theorem own_d_cou3_30 : decode jdk_52_method_16_code 30 = .ok (.iload 4, 2) := by decide +kernel
theorem own_d_cou3_32 : decode jdk_52_method_16_code 32 = .ok (.invokestatic 71, 3) := by decide +kernel
theorem own_d_cou3_35 : decode jdk_52_method_16_code 35 = .ok (.sipush 255, 3) := by decide +kernel
theorem own_d_cou3_38 : decode jdk_52_method_16_code 38 = .ok (.if_icmp .gt 16, 3) := by decide +kernel
theorem own_d_cou3_54 : decode jdk_52_method_16_code 54 = .ok (.aload 5, 2) := by decide +kernel
theorem own_d_cou3_56 : decode jdk_52_method_16_code 56 = .ok (.areturn, 1) := by decide +kernel
theorem own_d_cou3_57 : decode jdk_52_method_16_code 57 = .ok (.aload_n 3, 1) := by decide +kernel
theorem own_d_cou3_58 : decode jdk_52_method_16_code 58 = .ok (.areturn, 1) := by decide +kernel
theorem own_pn_own_cou3 : plainName "java/lang/StringUTF16" = true := by first | (simp [plainName, overriddenIn]; done) | decide +kernel
theorem own_ef_own_cou3 (m : MethodId) (x0 : Addr) (x1 : Int32) (x2 : Int32) : entryFrame m #[(.ref x0), (.int x1), (.int x2)] 6 = mkF m 0 #[.val (.ref x0), .val (.int x1), .val (.int x2), .unset, .unset, .unset] [] := by first | (simp [entryFrame, mkF, argsToLocals, Value.category]; done) | rfl
def Q_own_cou3 (Z : State) (ac : Addr) (kc : ClassId) (v0 : Int32) (v1 : Int32) (v2 : Int32) (cs : Int32) (fm : Value) (h0 : Heap) (n0 : Nat) (v : Option Value) (h : Heap) (L : List Loc) : Prop := ∃ (y : Addr) (ky : ClassId) (cd : Int32), v = some (.ref y) ∧ Fr n0 L ∧ Keep h0 h [] ∧ h0.size ≤ y ∧ n0 ≤ y ∧ own_SD Z h y ky cd (3 : Int32) (6 : Int32) [(.int (own_by v0)), (.int (own_by v1)), (.int (own_by v2))] [(.int (own_B0 v0)), (.int (own_B1 v0)), (.int (own_B0 v1)), (.int (own_B1 v1)), (.int (own_B0 v2)), (.int (own_B1 v2))] (¬ ((255 : Int32) < v0) ∧ ¬ ((255 : Int32) < v1) ∧ ¬ ((255 : Int32) < v2))
set_option maxRecDepth 65536 in
set_option maxHeartbeats 40000000 in
theorem own_cou3 (l : Launch) (Z : State) (a0 : Array Value) (hw : ∀ d ∈ tables_1, d.before a0 Z = true) (ws : List Jvm.Cond) (ac : Addr) (kc : ClassId) (v0 : Int32) (v1 : Int32) (v2 : Int32) (cs : Int32) (fm : Value) (h0 : Heap) (n0 : Nat) (Z0 : n0 ≤ h0.size) (V_ac : Arv Z h0 ac kc .char (3 : Int32) [(.int v0), (.int v1), (.int v2)] (.int 0)) (hl0 : (0 ≤ v0.toInt ∧ v0.toInt < 65536)) (hl1 : (0 ≤ v1.toInt ∧ v1.toInt < 65536)) (hl2 : (0 ≤ v2.toInt ∧ v2.toInt < 65536)) (hst : own_ST Z cs fm) (O0 : Old Z n0 h0) :
    MetFree l (⟨"java/lang/StringUTF16", "compress", "([CII)[B"⟩ : MethodName) (head1 (Jvm.Cond.code (⟨"java/lang/StringUTF16", "compress", "([CII)[B"⟩ : MethodName) jdk_52_method_16_code 6 (some (.array .byte)) :: ws) ({ frames := 3, cells := 2, slots := 9, locals := 40 } : Room)) (fun a U => a = #[(.ref ac), (.int 0), (.int 3)] ∧ Z.Warmed39 U.vm ∧ U.heap = h0) (fun _ _ _ _ _ => True) (fun _ U o U' => ∃ v L, o = .returned v ∧ Q_own_cou3 Z ac kc v0 v1 v2 cs fm h0 n0 v U'.heap L ∧ FrameEnd U o U' L ({ frames := 3, cells := 2, slots := 9, locals := 40 } : Room).cells ({ frames := 3, cells := 2, slots := 9, locals := 40 } : Room).slots) := by
  refine MetFree.of_bodySF (plainFor_of_name own_pn_own_cou3) hisR ?_
  intro p e s m args below meth c s₁ Bd hml0 hP hK
  obtain ⟨rfl, hZ, hh⟩ := hP
  have hx := Bd.exec
  have hby := Bd.bytes
  have hml : c.maxLocals = 6 := hml0
  have hown : s.vm.findClass "java/lang/StringUTF16" = some m.cls := findClass_of_methodNamed Bd.named
  have hnm := (name_of_methodNamed Bd.named Bd.method).1
  have X0 : Stand p l e ({ frames := 3, cells := 2, slots := 9, locals := 40 } : Room) s m #[(.ref ac), (.int 0), (.int 3)] below meth c s₁ [] 0 0 := Stand.of_body Bd
  have e0 : s₁.heap = h0 := by rw [← hh, Bd.state]; rfl
  have N0 := Fr.nil n0
  have pre0 : Goes p e below s₁ (entryFrame m #[(.ref ac), (.int 0), (.int 3)] 6) s₁ (mkF m 0 #[.val (.ref ac), .val (.int 0), .val (.int 3), .unset, .unset, .unset] []) := fun t k => castTop (own_ef_own_cou3 m ac (0 : Int32) (3 : Int32)) k
  have pre1 : Goes p e below s₁ (entryFrame m #[(.ref ac), (.int 0), (.int 3)] 6) s₁ (mkF m 1 #[.val (.ref ac), .val (.int 0), .val (.int 3), .unset, .unset, .unset] [(.int 3)]) := fun t kt => pre0 t (by
      show Steps p.tables e below (s₁.setTop (mkF m 0 #[.val (.ref ac), .val (.int 0), .val (.int 3), .unset, .unset, .unset] [])) _
      refine XS.iloadN X0.here hx rfl (hb hby own_d_cou3_0) rfl ?_
      exact kt)
  obtain ⟨T2, h2, k2, X2, e2, E2, A2, st2⟩ := newP X0 hx hZ (hw _ (own_mG (i := 20) rfl)) e0 (g := (mkF m 1 #[.val (.ref ac), .val (.int 0), .val (.int 3), .unset, .unset, .unset] [(.int 3)])) rfl (hb hby own_d_cou3_1) rfl (by decide) (cap := 3) (by decide) (by decide) (by decide) (by decide)
  obtain ⟨b2, g2⟩ : ∃ z, z = h0.size := ⟨_, rfl⟩
  rw [← g2] at A2 st2
  have V_b2 : Arv Z h2 b2 k2 .byte (3 : Int32) [(.int 0), (.int 0), (.int 0)] (.int 0) := (Arv.new A2 (by decide)).pad (pad_rep [] (.int 0) 3)
  have g_b2 : n0 ≤ b2 := Nat.le_trans Z0 (Nat.le_of_eq g2.symm)
  have sz_b2 : h0.size ≤ b2 := (Nat.le_trans (Keep.refl h0 []).1 (Nat.le_of_eq g2.symm))
  have K2 : Keep h0 h2 [] := (Keep.refl h0 []).ext E2
  have pre3 : Goes p e below s₁ (entryFrame m #[(.ref ac), (.int 0), (.int 3)] 6) T2 (mkF m 3 #[.val (.ref ac), .val (.int 0), .val (.int 3), .unset, .unset, .unset] [(.ref b2)]) := fun t kt => pre1 t (st2 t kt)
  have pre4 : Goes p e below s₁ (entryFrame m #[(.ref ac), (.int 0), (.int 3)] 6) T2 (mkF m 9 #[.val (.ref ac), .val (.int 0), .val (.int 3), .val (.ref b2), .unset, .unset] [(.int 3), (.int 0), (.ref b2), (.int 0), (.ref ac)]) := fun t kt => pre3 t (by
      show Steps p.tables e below (T2.setTop (mkF m 3 #[.val (.ref ac), .val (.int 0), .val (.int 3), .unset, .unset, .unset] [(.ref b2)])) _
      refine XS.astoreN X2.here hx rfl (hb hby own_d_cou3_3) rfl rfl (l' := #[.val (.ref ac), .val (.int 0), .val (.int 3), .val (.ref b2), .unset, .unset]) rfl ?_
      refine XS.aloadN X2.here hx rfl (hb hby own_d_cou3_4) rfl rfl ?_
      show Steps p.tables e below (T2.setTop (mkF m 5 #[.val (.ref ac), .val (.int 0), .val (.int 3), .val (.ref b2), .unset, .unset] [(.ref ac)])) _
      refine XS.iloadN X2.here hx rfl (hb hby own_d_cou3_5) rfl ?_
      refine XS.aloadN X2.here hx rfl (hb hby own_d_cou3_6) rfl rfl ?_
      show Steps p.tables e below (T2.setTop (mkF m 7 #[.val (.ref ac), .val (.int 0), .val (.int 3), .val (.ref b2), .unset, .unset] [(.ref b2), (.int 0), (.ref ac)])) _
      refine XS.iconst X2.here hx rfl (hb hby own_d_cou3_7) ?_
      refine XS.iloadN X2.here hx rfl (hb hby own_d_cou3_8) rfl ?_
      exact kt)
  obtain ⟨_, _, ⟨T5, L5, k5, n5⟩, -, X5, ⟨Lc5, hQ5, l5, y5, z5⟩, st5⟩ := Jvm.LawKit.callS X2 hx (y := (⟨"java/lang/StringUTF16", "compress", "([CI[BII)I"⟩ : MethodName)) hown (mvT hZ (hw _ (own_mG (i := 46) rfl))) (mvT hZ (hw _ (own_mG (i := 47) rfl))) (mvT hZ (hw _ (own_mG (i := 44) rfl))) (mvT hZ (hw _ (own_mG (i := 48) rfl))) (by decide) (backOf (W := 0) (own_cin3 l Z a0 hw [] ac b2 kc k2 v0 v1 v2 h2 n0 (Nat.le_trans Z0 E2.1) (V_ac.ext E2) V_b2 g_b2 (Nat.ne_of_lt (Nat.lt_of_lt_of_le V_ac.lt (Nat.le_of_eq g2.symm)))) hZ (hw _ (own_mG (i := 48) rfl)) (hw _ (own_mG (i := 44) rfl)) (by decide) (by decide)) (g := (mkF m 9 #[.val (.ref ac), .val (.int 0), .val (.int 3), .val (.ref b2), .unset, .unset] [(.int 3), (.int 0), (.ref b2), (.int 0), (.ref ac)])) rfl (by rw [hml]; rfl) (argsL := [(.ref ac), (.int 0), (.ref b2), (.int 0), (.int 3)]) (rest := []) (lenOf own_pd11 rfl) rfl (by show 2 * 0 + _ ≤ _; exact Nat.le_of_eq rfl) (hb hby own_d_cou3_9) (fun _ _ => ⟨rfl, e2, (by decide : 1 + 0 ≤ _), (by decide : 3 + 0 ≤ _)⟩)
  dsimp only [Pt.U, Pt.locs, Pt.cells, Pt.slots] at X5 l5 y5 z5 st5 hQ5
  subst l5 y5 z5
  obtain ⟨zr5, rfl, N5q, K5q, Dz5⟩ := hQ5
  have N5 := Fr.app N0 N5q
  have KC5 : Keep h0 T5.heap [] := K2.trans K5q (allS (Or.inr sz_b2) all0)
  have pre6 : Goes p e below s₁ (entryFrame m #[(.ref ac), (.int 0), (.int 3)] 6) T5 (mkF m 12 #[.val (.ref ac), .val (.int 0), .val (.int 3), .val (.ref b2), .unset, .unset] [(.int zr5)]) := fun t kt => pre4 t (st5 t kt)
  rcases Dz5 with ⟨rfl, hp, Vb5⟩ | Dz
  · -- full
    have pre7 : Goes p e below s₁ (entryFrame m #[(.ref ac), (.int 0), (.int 3)] 6) T5 (mkF m 58 #[.val (.ref ac), .val (.int 0), .val (.int 3), .val (.ref b2), .val (.int 3), .unset] [(.ref b2)]) := fun t kt => pre6 t (by
        show Steps p.tables e below (T5.setTop (mkF m 12 #[.val (.ref ac), .val (.int 0), .val (.int 3), .val (.ref b2), .unset, .unset] [(.int 3)])) _
        refine XS.istore X5.here hx rfl (hb hby own_d_cou3_12) rfl (l' := #[.val (.ref ac), .val (.int 0), .val (.int 3), .val (.ref b2), .val (.int 3), .unset]) rfl ?_
        refine XS.iload X5.here hx rfl (hb hby own_d_cou3_14) rfl ?_
        show Steps p.tables e below (T5.setTop (mkF m 16 #[.val (.ref ac), .val (.int 0), .val (.int 3), .val (.ref b2), .val (.int 3), .unset] [(.int 3)])) _
        refine XS.iloadN X5.here hx rfl (hb hby own_d_cou3_16) rfl ?_
        refine XS.icmpYes X5.here hx rfl (pc0 := 17) (pc' := 57) rfl (hb hby own_d_cou3_17) rfl (teq (by decide : (3 : Int32) = (3 : Int32))).1 (by decide) (by decide) ?_
        show Steps p.tables e below (T5.setTop (mkF m 57 #[.val (.ref ac), .val (.int 0), .val (.int 3), .val (.ref b2), .val (.int 3), .unset] [])) _
        refine XS.aloadN X5.here hx rfl (hb hby own_d_cou3_57) rfl rfl ?_
        exact kt)
    obtain ⟨fs, hr, hrun, hended, hW, hsame⟩ := X5.leave (v := some (.ref b2)) (fun h => by rw [Bd.returns] at h; cases h)
    refine ⟨_, _, pre7 _ ?_, hrun, hended, _, _, rfl, ?_, ⟨_, rfl⟩, hW, hsame.mono (by decide) (by decide)⟩
    · show Steps p.tables e below (T5.setTop (mkF m 58 #[.val (.ref ac), .val (.int 0), .val (.int 3), .val (.ref b2), .val (.int 3), .unset] [(.ref b2)])) _
      jvm_step X5.here [X5.here.top, hx, (hb hby own_d_cou3_58), X5.method', Bd.returns, Value.isRef, FieldType.isReference]
      first | (intro acts; rw [hr _ acts rfl rfl rfl]) | rw [hr _ _ rfl rfl rfl]
      exact Steps.refl _
    · show Q_own_cou3 Z ac kc v0 v1 v2 cs fm h0 n0 _ T5.heap _
      exact ⟨b2, k2, (0 : Int32), rfl, N5, KC5, sz_b2, g_b2, Or.inl ⟨rfl, hp, Vb5⟩⟩
  · -- not
    have hne : ¬ (zr5 = (3 : Int32)) := by rcases Dz with ⟨rfl, hq⟩ | ⟨rfl, hq⟩ | ⟨rfl, hq⟩ <;> decide
    have pre8 : Goes p e below s₁ (entryFrame m #[(.ref ac), (.int 0), (.int 3)] 6) T5 (mkF m 23 #[.val (.ref ac), .val (.int 0), .val (.int 3), .val (.ref b2), .val (.int zr5), .unset] [(.int 3), (.int 0), (.ref ac)]) := fun t kt => pre6 t (by
        show Steps p.tables e below (T5.setTop (mkF m 12 #[.val (.ref ac), .val (.int 0), .val (.int 3), .val (.ref b2), .unset, .unset] [(.int zr5)])) _
        refine XS.istore X5.here hx rfl (hb hby own_d_cou3_12) rfl (l' := #[.val (.ref ac), .val (.int 0), .val (.int 3), .val (.ref b2), .val (.int zr5), .unset]) rfl ?_
        refine XS.iload X5.here hx rfl (hb hby own_d_cou3_14) rfl ?_
        show Steps p.tables e below (T5.setTop (mkF m 16 #[.val (.ref ac), .val (.int 0), .val (.int 3), .val (.ref b2), .val (.int zr5), .unset] [(.int zr5)])) _
        refine XS.iloadN X5.here hx rfl (hb hby own_d_cou3_16) rfl ?_
        refine XS.icmpNo X5.here hx rfl (hb hby own_d_cou3_17) rfl (feq hne).1 ?_
        show Steps p.tables e below (T5.setTop (mkF m 20 #[.val (.ref ac), .val (.int 0), .val (.int 3), .val (.ref b2), .val (.int zr5), .unset] [])) _
        refine XS.aloadN X5.here hx rfl (hb hby own_d_cou3_20) rfl rfl ?_
        refine XS.iloadN X5.here hx rfl (hb hby own_d_cou3_21) rfl ?_
        show Steps p.tables e below (T5.setTop (mkF m 22 #[.val (.ref ac), .val (.int 0), .val (.int 3), .val (.ref b2), .val (.int zr5), .unset] [(.int 0), (.ref ac)])) _
        refine XS.iloadN X5.here hx rfl (hb hby own_d_cou3_22) rfl ?_
        exact kt)
    obtain ⟨_, _, ⟨T9, L9, k9, n9⟩, -, X9, ⟨Lc9, hQ9, l9, y9, z9⟩, st9⟩ := Jvm.LawKit.callS X5 hx (y := (⟨"java/lang/StringUTF16", "toBytes", "([CII)[B"⟩ : MethodName)) hown (mvT hZ (hw _ (own_mG (i := 77) rfl))) (mvT hZ (hw _ (own_mG (i := 78) rfl))) (mvT hZ (hw _ (own_mG (i := 44) rfl))) (mvT hZ (hw _ (own_mG (i := 79) rfl))) (by decide) (backOf (W := 0) (own_tob3 l Z a0 hw [] ac kc v0 v1 v2 cs fm T5.heap n0 (Nat.le_trans (Nat.le_trans Z0 E2.1) K5q.1) ((V_ac.ext E2).keep K5q (ninS (Nat.ne_of_lt (Nat.lt_of_lt_of_le V_ac.lt (Nat.le_of_eq g2.symm))) nin0)) hst ((O0.ext E2).keep K5q (allS g_b2 all0))) hZ (hw _ (own_mG (i := 79) rfl)) (hw _ (own_mG (i := 44) rfl)) (by decide) (by decide)) (g := (mkF m 23 #[.val (.ref ac), .val (.int 0), .val (.int 3), .val (.ref b2), .val (.int zr5), .unset] [(.int 3), (.int 0), (.ref ac)])) rfl (by rw [hml]; rfl) (argsL := [(.ref ac), (.int 0), (.int 3)]) (rest := []) (lenOf own_pd12 rfl) rfl (by show 2 * 0 + _ ≤ _; exact Nat.le_of_eq rfl) (hb hby own_d_cou3_23) (fun _ _ => ⟨rfl, rfl, (by decide : 1 + 1 ≤ _), (by decide : 3 + 6 ≤ _)⟩)
    dsimp only [Pt.U, Pt.locs, Pt.cells, Pt.slots] at X9 l9 y9 z9 st9 hQ9
    subst l9 y9 z9
    obtain ⟨yy9, ky9, rfl, N9q, K9q, zy9, gy9, Vy9⟩ := hQ9
    have N9 := Fr.app N5 N9q
    have KC9 : Keep h0 T9.heap [] := KC5.trans K9q all0
    have pre10 : Goes p e below s₁ (entryFrame m #[(.ref ac), (.int 0), (.int 3)] 6) T9 (mkF m 26 #[.val (.ref ac), .val (.int 0), .val (.int 3), .val (.ref b2), .val (.int zr5), .unset] [(.ref yy9)]) := fun t kt => pre8 t (st9 t kt)
    have sz_yy9 : h0.size ≤ yy9 := Nat.le_trans KC5.1 zy9
    have g_yy9 := gy9
    have pre11 : Goes p e below s₁ (entryFrame m #[(.ref ac), (.int 0), (.int 3)] 6) T9 (mkF m 32 #[.val (.ref ac), .val (.int 0), .val (.int 3), .val (.ref b2), .val (.int zr5), .val (.ref yy9)] [(.int zr5), (.ref yy9)]) := fun t kt => pre10 t (by
        show Steps p.tables e below (T9.setTop (mkF m 26 #[.val (.ref ac), .val (.int 0), .val (.int 3), .val (.ref b2), .val (.int zr5), .unset] [(.ref yy9)])) _
        refine XS.astore X9.here hx rfl (hb hby own_d_cou3_26) rfl rfl (l' := #[.val (.ref ac), .val (.int 0), .val (.int 3), .val (.ref b2), .val (.int zr5), .val (.ref yy9)]) rfl ?_
        refine XS.aload X9.here hx rfl (hb hby own_d_cou3_28) rfl rfl ?_
        show Steps p.tables e below (T9.setTop (mkF m 30 #[.val (.ref ac), .val (.int 0), .val (.int 3), .val (.ref b2), .val (.int zr5), .val (.ref yy9)] [(.ref yy9)])) _
        refine XS.iload X9.here hx rfl (hb hby own_d_cou3_30) rfl ?_
        exact kt)
    obtain ⟨pu, pw, hA0, hA1, hG⟩ : ∃ pu pw : Int32, own_At Z T9.heap yy9 (zr5 <<< ((1 : Int32) &&& 31)) pu ∧ own_At Z T9.heap yy9 ((zr5 <<< ((1 : Int32) &&& 31)) + (1 : Int32)) pw ∧ (255 : Int32) < (nar .char (own_GC pu pw)) := by
      rcases Dz with ⟨rfl, hq⟩ | ⟨rfl, hq⟩ | ⟨rfl, hq⟩
      · exact ⟨(own_B0 v0), (own_B1 v0), own_At.of Vy9 (by decide) rfl, own_At.of Vy9 (by decide) rfl, by rw [own_gc v0 hl0]; exact hq⟩
      · exact ⟨(own_B0 v1), (own_B1 v1), own_At.of Vy9 (by decide) rfl, own_At.of Vy9 (by decide) rfl, by rw [own_gc v1 hl1]; exact hq⟩
      · exact ⟨(own_B0 v2), (own_B1 v2), own_At.of Vy9 (by decide) rfl, own_At.of Vy9 (by decide) rfl, by rw [own_gc v2 hl2]; exact hq⟩
    obtain ⟨_, _, ⟨T12, L12, k12, n12⟩, -, X12, ⟨Lc12, hQ12, l12, y12, z12⟩, st12⟩ := Jvm.LawKit.callS X9 hx (y := (⟨"java/lang/StringUTF16", "getChar", "([BI)C"⟩ : MethodName)) hown (mvT hZ (hw _ (own_mG (i := 93) rfl))) (mvT hZ (hw _ (own_mG (i := 94) rfl))) (mvT hZ (hw _ (own_mG (i := 44) rfl))) (mvT hZ (hw _ (own_mG (i := 95) rfl))) (by decide) (backOf (W := 0) (own_gch l Z a0 hw [] yy9 zr5 pu pw cs fm T9.heap n0 (Nat.le_trans (Nat.le_trans (Nat.le_trans Z0 E2.1) K5q.1) K9q.1) hA0 hA1 hst (((O0.ext E2).keep K5q (allS g_b2 all0)).keep K9q all0)) hZ (hw _ (own_mG (i := 95) rfl)) (hw _ (own_mG (i := 44) rfl)) (by decide) (by decide)) (g := (mkF m 32 #[.val (.ref ac), .val (.int 0), .val (.int 3), .val (.ref b2), .val (.int zr5), .val (.ref yy9)] [(.int zr5), (.ref yy9)])) rfl (by rw [hml]; rfl) (argsL := [(.ref yy9), (.int zr5)]) (rest := []) (lenOf own_pd6 rfl) rfl (by show 2 * 0 + _ ≤ _; exact Nat.le_of_eq rfl) (hb hby own_d_cou3_32) (fun _ _ => ⟨rfl, rfl, (by decide : 2 + 0 ≤ _), (by decide : 9 + 0 ≤ _)⟩)
    dsimp only [Pt.U, Pt.locs, Pt.cells, Pt.slots] at X12 l12 y12 z12 st12 hQ12
    subst l12 y12 z12
    obtain ⟨rfl, N12q, e12⟩ := hQ12
    have N12 := Fr.app N9 N12q
    have pre13 : Goes p e below s₁ (entryFrame m #[(.ref ac), (.int 0), (.int 3)] 6) T12 (mkF m 35 #[.val (.ref ac), .val (.int 0), .val (.int 3), .val (.ref b2), .val (.int zr5), .val (.ref yy9)] [(.int (nar .char (own_GC pu pw)))]) := fun t kt => pre11 t (st12 t kt)
    have pre14 : Goes p e below s₁ (entryFrame m #[(.ref ac), (.int 0), (.int 3)] 6) T12 (mkF m 56 #[.val (.ref ac), .val (.int 0), .val (.int 3), .val (.ref b2), .val (.int zr5), .val (.ref yy9)] [(.ref yy9)]) := fun t kt => pre13 t (by
        show Steps p.tables e below (T12.setTop (mkF m 35 #[.val (.ref ac), .val (.int 0), .val (.int 3), .val (.ref b2), .val (.int zr5), .val (.ref yy9)] [(.int (nar .char (own_GC pu pw)))])) _
        refine XS.sipush X12.here hx rfl (hb hby own_d_cou3_35) ?_
        refine XS.icmpYes X12.here hx rfl (pc0 := 38) (pc' := 54) rfl (hb hby own_d_cou3_38) rfl (tlt hG).2.2.1 (by decide) (by decide) ?_
        show Steps p.tables e below (T12.setTop (mkF m 54 #[.val (.ref ac), .val (.int 0), .val (.int 3), .val (.ref b2), .val (.int zr5), .val (.ref yy9)] [])) _
        refine XS.aload X12.here hx rfl (hb hby own_d_cou3_54) rfl rfl ?_
        exact kt)
    obtain ⟨fs, hr, hrun, hended, hW, hsame⟩ := X12.leave (v := some (.ref yy9)) (fun h => by rw [Bd.returns] at h; cases h)
    refine ⟨_, _, pre14 _ ?_, hrun, hended, _, _, rfl, ?_, ⟨_, rfl⟩, hW, hsame.mono (by decide) (by decide)⟩
    · show Steps p.tables e below (T12.setTop (mkF m 56 #[.val (.ref ac), .val (.int 0), .val (.int 3), .val (.ref b2), .val (.int zr5), .val (.ref yy9)] [(.ref yy9)])) _
      jvm_step X12.here [X12.here.top, hx, (hb hby own_d_cou3_56), X12.method', Bd.returns, Value.isRef, FieldType.isReference]
      first | (intro acts; rw [hr _ acts rfl rfl rfl]) | rw [hr _ _ rfl rfl rfl]
      exact Steps.refl _
    · show Q_own_cou3 Z ac kc v0 v1 v2 cs fm h0 n0 _ T12.heap _
      rw [e12]
      exact ⟨yy9, ky9, (1 : Int32), rfl, N12, KC9, sz_yy9, g_yy9, Or.inr ⟨rfl, Vy9⟩⟩
theorem own_d_cda3_0 : decode jdk_52_method_15_code 0 = .ok (.iload_n 1, 1) := by decide +kernel
theorem own_d_cda3_1 : decode jdk_52_method_15_code 1 = .ok (.aload_n 0, 1) := by decide +kernel
theorem own_d_cda3_2 : decode jdk_52_method_15_code 2 = .ok (.arraylength, 1) := by decide +kernel
theorem own_d_cda3_3 : decode jdk_52_method_15_code 3 = .ok (.isub, 1) := by decide +kernel
theorem own_d_cda3_4 : decode jdk_52_method_15_code 4 = .ok (.bipush 31, 2) := by decide +kernel
theorem own_d_cda3_6 : decode jdk_52_method_15_code 6 = .ok (.iushr, 1) := by decide +kernel
theorem own_d_cda3_7 : decode jdk_52_method_15_code 7 = .ok (.i2b, 1) := by decide +kernel
theorem own_d_cda3_8 : decode jdk_52_method_15_code 8 = .ok (.ireturn, 1) := by decide +kernel
theorem own_pn_own_cda3 : plainName "java/lang/StringUTF16" = true := by first | (simp [plainName, overriddenIn]; done) | decide +kernel
theorem own_ef_own_cda3 (m : MethodId) (x0 : Addr) (x1 : Int32) : entryFrame m #[(.ref x0), (.int x1)] 2 = mkF m 0 #[.val (.ref x0), .val (.int x1)] [] := by first | (simp [entryFrame, mkF, argsToLocals, Value.category]; done) | rfl
def Q_own_cda3 (Z : State) (y : Addr) (ky : ClassId) (cd : Int32) (v0 : Int32) (v1 : Int32) (v2 : Int32) (h0 : Heap) (n0 : Nat) (v : Option Value) (h : Heap) (L : List Loc) : Prop := v = some (.int cd) ∧ Fr n0 L ∧ h = h0
set_option maxRecDepth 65536 in
set_option maxHeartbeats 40000000 in
theorem own_cda3 (l : Launch) (Z : State) (a0 : Array Value) (hw : ∀ d ∈ tables_1, d.before a0 Z = true) (ws : List Jvm.Cond) (y : Addr) (ky : ClassId) (cd : Int32) (v0 : Int32) (v1 : Int32) (v2 : Int32) (h0 : Heap) (n0 : Nat) (Z0 : n0 ≤ h0.size) (SDy : own_SD Z h0 y ky cd (3 : Int32) (6 : Int32) [(.int (own_by v0)), (.int (own_by v1)), (.int (own_by v2))] [(.int (own_B0 v0)), (.int (own_B1 v0)), (.int (own_B0 v1)), (.int (own_B1 v1)), (.int (own_B0 v2)), (.int (own_B1 v2))] (¬ ((255 : Int32) < v0) ∧ ¬ ((255 : Int32) < v1) ∧ ¬ ((255 : Int32) < v2))) :
    MetFree l (⟨"java/lang/StringUTF16", "coderFromArrayLen", "([BI)B"⟩ : MethodName) (head1 (Jvm.Cond.code (⟨"java/lang/StringUTF16", "coderFromArrayLen", "([BI)B"⟩ : MethodName) jdk_52_method_15_code 2 (some .byte) :: ws) ({ frames := 0, cells := 0, slots := 0, locals := 0 } : Room)) (fun a U => a = #[(.ref y), (.int 3)] ∧ Z.Warmed39 U.vm ∧ U.heap = h0) (fun _ _ _ _ _ => True) (fun _ U o U' => ∃ v L, o = .returned v ∧ Q_own_cda3 Z y ky cd v0 v1 v2 h0 n0 v U'.heap L ∧ FrameEnd U o U' L ({ frames := 0, cells := 0, slots := 0, locals := 0 } : Room).cells ({ frames := 0, cells := 0, slots := 0, locals := 0 } : Room).slots) := by
  refine MetFree.of_bodySF (plainFor_of_name own_pn_own_cda3) hisR ?_
  intro p e s m args below meth c s₁ Bd hml0 hP hK
  obtain ⟨rfl, hZ, hh⟩ := hP
  have hx := Bd.exec
  have hby := Bd.bytes
  have hml : c.maxLocals = 2 := hml0
  have hown : s.vm.findClass "java/lang/StringUTF16" = some m.cls := findClass_of_methodNamed Bd.named
  have hnm := (name_of_methodNamed Bd.named Bd.method).1
  have X0 : Stand p l e ({ frames := 0, cells := 0, slots := 0, locals := 0 } : Room) s m #[(.ref y), (.int 3)] below meth c s₁ [] 0 0 := Stand.of_body Bd
  have e0 : s₁.heap = h0 := by rw [← hh, Bd.state]; rfl
  have N0 := Fr.nil n0
  have pre0 : Goes p e below s₁ (entryFrame m #[(.ref y), (.int 3)] 2) s₁ (mkF m 0 #[.val (.ref y), .val (.int 3)] []) := fun t k => castTop (own_ef_own_cda3 m y (3 : Int32)) k
  rcases (id SDy) with ⟨hcd, hp, Vy⟩ | ⟨hcd, Vy⟩
  · -- coder 0
    have pre1 : Goes p e below s₁ (entryFrame m #[(.ref y), (.int 3)] 2) s₁ (mkF m 2 #[.val (.ref y), .val (.int 3)] [(.ref y), (.int 3)]) := fun t kt => pre0 t (by
        show Steps p.tables e below (s₁.setTop (mkF m 0 #[.val (.ref y), .val (.int 3)] [])) _
        refine XS.iloadN X0.here hx rfl (hb hby own_d_cda3_0) rfl ?_
        refine XS.aloadN X0.here hx rfl (hb hby own_d_cda3_1) rfl rfl ?_
        exact kt)
    obtain ⟨cl2, Ar2, q2, S2, N_2, H2, G2⟩ := (id (Vy))
    have pre3 : Goes p e below s₁ (entryFrame m #[(.ref y), (.int 3)] 2) s₁ (mkF m 7 #[.val (.ref y), .val (.int 3)] [(.int (((0 : Int32).toUInt32 >>> ((31 : Int32) &&& 31).toUInt32).toInt32))]) := fun t kt => pre1 t (by
        show Steps p.tables e below (s₁.setTop (mkF m 2 #[.val (.ref y), .val (.int 3)] [(.ref y), (.int 3)])) _
        refine X0.arraylength hx (by (try rw [e0]); exact Ar2.1) (State.isArrayOf_alike hZ.alike Ar2.2.1) (g := (mkF m 2 #[.val (.ref y), .val (.int 3)] [(.ref y), (.int 3)])) rfl rfl (hb hby own_d_cda3_2) _ ?_
        rw [len_of S2 N_2]
        refine XS.isub X0.here hx rfl (hb hby own_d_cda3_3) rfl ?_
        show Steps p.tables e below (s₁.setTop (mkF m 4 #[.val (.ref y), .val (.int 3)] [(.int 0)])) _
        refine XS.bipush X0.here hx rfl (hb hby own_d_cda3_4) ?_
        refine XS.iushr X0.here hx rfl (hb hby own_d_cda3_6) rfl ?_
        exact kt)
    rw [show (((0 : Int32).toUInt32 >>> ((31 : Int32) &&& 31).toUInt32).toInt32) = (0 : Int32) from (by decide)] at pre3
    have pre4 : Goes p e below s₁ (entryFrame m #[(.ref y), (.int 3)] 2) s₁ (mkF m 8 #[.val (.ref y), .val (.int 3)] [(.int ((0 : Int32).toInt8.toInt32))]) := fun t kt => pre3 t (by
        show Steps p.tables e below (s₁.setTop (mkF m 7 #[.val (.ref y), .val (.int 3)] [(.int 0)])) _
        refine XS.i2b X0.here hx rfl (hb hby own_d_cda3_7) rfl ?_
        exact kt)
    obtain ⟨fs, hr, hrun, hended, hW, hsame⟩ := X0.leave (v := some (.int (nar .byte ((0 : Int32).toInt8.toInt32)))) (fun h => by rw [Bd.returns] at h; cases h)
    refine ⟨_, _, pre4 _ ?_, hrun, hended, _, _, rfl, ?_, ⟨_, rfl⟩, hW, hsame.mono (by decide) (by decide)⟩
    · show Steps p.tables e below (s₁.setTop (mkF m 8 #[.val (.ref y), .val (.int 3)] [(.int ((0 : Int32).toInt8.toInt32))])) _
      exact retN X0 hx (t := .byte) Bd.returns (by simp) (hb hby own_d_cda3_8) hr
    · show Q_own_cda3 Z y ky cd v0 v1 v2 h0 n0 _ s₁.heap _
      rw [e0]
      exact ⟨by rw [hcd]; rfl, N0, rfl⟩
  · -- coder 1
    have pre5 : Goes p e below s₁ (entryFrame m #[(.ref y), (.int 3)] 2) s₁ (mkF m 2 #[.val (.ref y), .val (.int 3)] [(.ref y), (.int 3)]) := fun t kt => pre0 t (by
        show Steps p.tables e below (s₁.setTop (mkF m 0 #[.val (.ref y), .val (.int 3)] [])) _
        refine XS.iloadN X0.here hx rfl (hb hby own_d_cda3_0) rfl ?_
        refine XS.aloadN X0.here hx rfl (hb hby own_d_cda3_1) rfl rfl ?_
        exact kt)
    obtain ⟨cl6, Ar6, q6, S6, N_6, H6, G6⟩ := (id (Vy))
    have pre7 : Goes p e below s₁ (entryFrame m #[(.ref y), (.int 3)] 2) s₁ (mkF m 7 #[.val (.ref y), .val (.int 3)] [(.int (((-3 : Int32).toUInt32 >>> ((31 : Int32) &&& 31).toUInt32).toInt32))]) := fun t kt => pre5 t (by
        show Steps p.tables e below (s₁.setTop (mkF m 2 #[.val (.ref y), .val (.int 3)] [(.ref y), (.int 3)])) _
        refine X0.arraylength hx (by (try rw [e0]); exact Ar6.1) (State.isArrayOf_alike hZ.alike Ar6.2.1) (g := (mkF m 2 #[.val (.ref y), .val (.int 3)] [(.ref y), (.int 3)])) rfl rfl (hb hby own_d_cda3_2) _ ?_
        rw [len_of S6 N_6]
        refine XS.isub X0.here hx rfl (hb hby own_d_cda3_3) rfl ?_
        show Steps p.tables e below (s₁.setTop (mkF m 4 #[.val (.ref y), .val (.int 3)] [(.int (-3 : Int32))])) _
        refine XS.bipush X0.here hx rfl (hb hby own_d_cda3_4) ?_
        refine XS.iushr X0.here hx rfl (hb hby own_d_cda3_6) rfl ?_
        exact kt)
    rw [show (((-3 : Int32).toUInt32 >>> ((31 : Int32) &&& 31).toUInt32).toInt32) = (1 : Int32) from (by decide)] at pre7
    have pre8 : Goes p e below s₁ (entryFrame m #[(.ref y), (.int 3)] 2) s₁ (mkF m 8 #[.val (.ref y), .val (.int 3)] [(.int ((1 : Int32).toInt8.toInt32))]) := fun t kt => pre7 t (by
        show Steps p.tables e below (s₁.setTop (mkF m 7 #[.val (.ref y), .val (.int 3)] [(.int 1)])) _
        refine XS.i2b X0.here hx rfl (hb hby own_d_cda3_7) rfl ?_
        exact kt)
    obtain ⟨fs, hr, hrun, hended, hW, hsame⟩ := X0.leave (v := some (.int (nar .byte ((1 : Int32).toInt8.toInt32)))) (fun h => by rw [Bd.returns] at h; cases h)
    refine ⟨_, _, pre8 _ ?_, hrun, hended, _, _, rfl, ?_, ⟨_, rfl⟩, hW, hsame.mono (by decide) (by decide)⟩
    · show Steps p.tables e below (s₁.setTop (mkF m 8 #[.val (.ref y), .val (.int 3)] [(.int ((1 : Int32).toInt8.toInt32))])) _
      exact retN X0 hx (t := .byte) Bd.returns (by simp) (hb hby own_d_cda3_8) hr
    · show Q_own_cda3 Z y ky cd v0 v1 v2 h0 n0 _ s₁.heap _
      rw [e0]
      exact ⟨by rw [hcd]; rfl, N0, rfl⟩
theorem own_d_sI3_0 : decode jdk_42_method_149_code 0 = .ok (.aload_n 0, 1) := by decide +kernel
theorem own_d_sI3_1 : decode jdk_42_method_149_code 1 = .ok (.invokespecial 1, 3) := by decide +kernel
theorem own_d_sI3_4 : decode jdk_42_method_149_code 4 = .ok (.iload_n 3, 1) := by decide +kernel
theorem own_d_sI3_5 : decode jdk_42_method_149_code 5 = .ok (.ifCond .ne 22, 3) := by decide +kernel
theorem own_d_sI3_27 : decode jdk_42_method_149_code 27 = .ok (.getstatic 38, 3) := by decide +kernel
theorem own_d_sI3_30 : decode jdk_42_method_149_code 30 = .ok (.ifCond .eq 28, 3) := by decide +kernel
theorem own_d_sI3_33 : decode jdk_42_method_149_code 33 = .ok (.aload_n 1, 1) := by decide +kernel
theorem own_d_sI3_34 : decode jdk_42_method_149_code 34 = .ok (.iload_n 2, 1) := by decide +kernel
theorem own_d_sI3_35 : decode jdk_42_method_149_code 35 = .ok (.iload_n 3, 1) := by decide +kernel
theorem own_d_sI3_36 : decode jdk_42_method_149_code 36 = .ok (.invokestatic 177, 3) := by decide +kernel
theorem own_d_sI3_39 : decode jdk_42_method_149_code 39 = .ok (.astore 5, 2) := by decide +kernel
theorem own_d_sI3_41 : decode jdk_42_method_149_code 41 = .ok (.aload_n 0, 1) := by decide +kernel
theorem own_d_sI3_42 : decode jdk_42_method_149_code 42 = .ok (.aload 5, 2) := by decide +kernel
theorem own_d_sI3_44 : decode jdk_42_method_149_code 44 = .ok (.iload_n 3, 1) := by decide +kernel
theorem own_d_sI3_45 : decode jdk_42_method_149_code 45 = .ok (.invokestatic 47, 3) := by decide +kernel
theorem own_d_sI3_48 : decode jdk_42_method_149_code 48 = .ok (.putfield 15, 3) := by decide +kernel
theorem own_d_sI3_51 : decode jdk_42_method_149_code 51 = .ok (.aload_n 0, 1) := by decide +kernel
theorem own_d_sI3_52 : decode jdk_42_method_149_code 52 = .ok (.aload 5, 2) := by decide +kernel
theorem own_d_sI3_54 : decode jdk_42_method_149_code 54 = .ok (.putfield 9, 3) := by decide +kernel
theorem own_d_sI3_57 : decode jdk_42_method_149_code 57 = .ok (.return_, 1) := by decide +kernel
theorem own_pn_own_sI3 : plainName "java/lang/String" = true := by first | (simp [plainName, overriddenIn]; done) | decide +kernel
theorem own_ef_own_sI3 (m : MethodId) (x0 : Addr) (x1 : Addr) (x2 : Int32) (x3 : Int32) : entryFrame m #[(.ref x0), (.ref x1), (.int x2), (.int x3), .null] 6 = mkF m 0 #[.val (.ref x0), .val (.ref x1), .val (.int x2), .val (.int x3), .val .null, .unset] [] := by first | (simp [entryFrame, mkF, argsToLocals, Value.category]; done) | rfl
def Q_own_sI3 (Z : State) (a1 : Addr) (ac : Addr) (kc : ClassId) (uv : Value) (uc : Value) (v0 : Int32) (v1 : Int32) (v2 : Int32) (cs : Int32) (fm : Value) (h0 : Heap) (n0 : Nat) (v : Option Value) (h : Heap) (L : List Loc) : Prop := v = none ∧ Fr n0 L ∧ Keep h0 h [a1] ∧ Exa Z h a1 "java/lang/String" ∧ ∃ (cd : Int32) (y : Addr) (ky : ClassId), Fld Z h a1 "java/lang/String" "coder" "B" (.int cd) ∧ Fld Z h a1 "java/lang/String" "value" "[B" (.ref y) ∧ own_SD Z h y ky cd (3 : Int32) (6 : Int32) [(.int (own_by v0)), (.int (own_by v1)), (.int (own_by v2))] [(.int (own_B0 v0)), (.int (own_B1 v0)), (.int (own_B0 v1)), (.int (own_B1 v1)), (.int (own_B0 v2)), (.int (own_B1 v2))] (¬ ((255 : Int32) < v0) ∧ ¬ ((255 : Int32) < v1) ∧ ¬ ((255 : Int32) < v2))
set_option maxRecDepth 65536 in
set_option maxHeartbeats 40000000 in
theorem own_sI3 (l : Launch) (Z : State) (a0 : Array Value) (hw : ∀ d ∈ tables_1, d.before a0 Z = true) (ws : List Jvm.Cond) (a1 : Addr) (ac : Addr) (kc : ClassId) (uv : Value) (uc : Value) (v0 : Int32) (v1 : Int32) (v2 : Int32) (cs : Int32) (fm : Value) (h0 : Heap) (n0 : Nat) (Z0 : n0 ≤ h0.size) (E_a1 : Exa Z h0 a1 "java/lang/String") (Fv : Fld Z h0 a1 "java/lang/String" "value" "[B" uv) (Fc : Fld Z h0 a1 "java/lang/String" "coder" "B" uc) (g_a1 : n0 ≤ a1) (V_ac : Arv Z h0 ac kc .char (3 : Int32) [(.int v0), (.int v1), (.int v2)] (.int 0)) (hl0 : (0 ≤ v0.toInt ∧ v0.toInt < 65536)) (hl1 : (0 ≤ v1.toInt ∧ v1.toInt < 65536)) (hl2 : (0 ≤ v2.toInt ∧ v2.toInt < 65536)) (hst : own_ST Z cs fm) (O0 : Old Z n0 h0) :
    MetFree l (⟨"java/lang/String", "<init>", "([CIILjava/lang/Void;)V"⟩ : MethodName) (head1 (Jvm.Cond.code (⟨"java/lang/String", "<init>", "([CIILjava/lang/Void;)V"⟩ : MethodName) jdk_42_method_149_code 6 none :: ws) ({ frames := 4, cells := 2, slots := 9, locals := 57 } : Room)) (fun a U => a = #[(.ref a1), (.ref ac), (.int 0), (.int 3), .null] ∧ Z.Warmed39 U.vm ∧ U.heap = h0) (fun _ _ _ _ _ => True) (fun _ U o U' => ∃ v L, o = .returned v ∧ Q_own_sI3 Z a1 ac kc uv uc v0 v1 v2 cs fm h0 n0 v U'.heap L ∧ FrameEnd U o U' L ({ frames := 4, cells := 2, slots := 9, locals := 57 } : Room).cells ({ frames := 4, cells := 2, slots := 9, locals := 57 } : Room).slots) := by
  refine MetFree.of_bodySF (plainFor_of_name own_pn_own_sI3) hisR ?_
  intro p e s m args below meth c s₁ Bd hml0 hP hK
  obtain ⟨rfl, hZ, hh⟩ := hP
  have hx := Bd.exec
  have hby := Bd.bytes
  have hml : c.maxLocals = 6 := hml0
  have hown : s.vm.findClass "java/lang/String" = some m.cls := findClass_of_methodNamed Bd.named
  have hnm := (name_of_methodNamed Bd.named Bd.method).1
  have X0 : Stand p l e ({ frames := 4, cells := 2, slots := 9, locals := 57 } : Room) s m #[(.ref a1), (.ref ac), (.int 0), (.int 3), .null] below meth c s₁ [] 0 0 := Stand.of_body Bd
  have e0 : s₁.heap = h0 := by rw [← hh, Bd.state]; rfl
  have N0 := Fr.nil n0
  have pre0 : Goes p e below s₁ (entryFrame m #[(.ref a1), (.ref ac), (.int 0), (.int 3), .null] 6) s₁ (mkF m 0 #[.val (.ref a1), .val (.ref ac), .val (.int 0), .val (.int 3), .val .null, .unset] []) := fun t k => castTop (own_ef_own_sI3 m a1 ac (0 : Int32) (3 : Int32)) k
  have pre1 : Goes p e below s₁ (entryFrame m #[(.ref a1), (.ref ac), (.int 0), (.int 3), .null] 6) s₁ (mkF m 1 #[.val (.ref a1), .val (.ref ac), .val (.int 0), .val (.int 3), .val .null, .unset] [(.ref a1)]) := fun t kt => pre0 t (by
      show Steps p.tables e below (s₁.setTop (mkF m 0 #[.val (.ref a1), .val (.ref ac), .val (.int 0), .val (.int 3), .val .null, .unset] [])) _
      refine XS.aloadN X0.here hx rfl (hb hby own_d_sI3_0) rfl rfl ?_
      exact kt)
  obtain ⟨T2, X2, e2, st2⟩ := initO X0 hx hZ hown (hw _ (own_mG (i := 16) rfl)) (hw _ (own_mG (i := 17) rfl)) (hw _ (own_mG (i := 18) rfl)) e0 (g := (mkF m 1 #[.val (.ref a1), .val (.ref ac), .val (.int 0), .val (.int 3), .val .null, .unset] [(.ref a1)])) rfl (by rw [hml]; rfl) rfl (hb hby own_d_sI3_1) (by decide) (W := 0) (by show 2 * 0 + _ ≤ _; exact Nat.le_of_eq rfl) (by decide)
  have pre3 : Goes p e below s₁ (entryFrame m #[(.ref a1), (.ref ac), (.int 0), (.int 3), .null] 6) T2 (mkF m 4 #[.val (.ref a1), .val (.ref ac), .val (.int 0), .val (.int 3), .val .null, .unset] []) := fun t kt => pre1 t (st2 t kt)
  have pre4 : Goes p e below s₁ (entryFrame m #[(.ref a1), (.ref ac), (.int 0), (.int 3), .null] 6) T2 (mkF m 27 #[.val (.ref a1), .val (.ref ac), .val (.int 0), .val (.int 3), .val .null, .unset] []) := fun t kt => pre3 t (by
      show Steps p.tables e below (T2.setTop (mkF m 4 #[.val (.ref a1), .val (.ref ac), .val (.int 0), .val (.int 3), .val .null, .unset] [])) _
      refine XS.iloadN X2.here hx rfl (hb hby own_d_sI3_4) rfl ?_
      refine XS.ifYes X2.here hx rfl (pc0 := 5) (pc' := 27) rfl (hb hby own_d_sI3_5) rfl ((if0 _ _).trans (feq (by decide : ¬ ((3 : Int32) = (0 : Int32)))).2) (by decide) (by decide) ?_
      exact kt)
  obtain ⟨T5, X5, e5, st5⟩ := getS2 X2 hx hZ hown (host := "") (Or.inl (hw _ (own_mG (i := 41) rfl))) Via.refl e2 (hst.1.ext O0.2) (g := (mkF m 27 #[.val (.ref a1), .val (.ref ac), .val (.int 0), .val (.int 3), .val .null, .unset] [])) rfl (hb hby own_d_sI3_27)
  have pre6 : Goes p e below s₁ (entryFrame m #[(.ref a1), (.ref ac), (.int 0), (.int 3), .null] 6) T5 (mkF m 30 #[.val (.ref a1), .val (.ref ac), .val (.int 0), .val (.int 3), .val .null, .unset] [(.int cs)]) := fun t kt => pre4 t (st5 t kt)
  have pre7 : Goes p e below s₁ (entryFrame m #[(.ref a1), (.ref ac), (.int 0), (.int 3), .null] 6) T5 (mkF m 36 #[.val (.ref a1), .val (.ref ac), .val (.int 0), .val (.int 3), .val .null, .unset] [(.int 3), (.int 0), (.ref ac)]) := fun t kt => pre6 t (by
      show Steps p.tables e below (T5.setTop (mkF m 30 #[.val (.ref a1), .val (.ref ac), .val (.int 0), .val (.int 3), .val .null, .unset] [(.int cs)])) _
      refine XS.ifNo X5.here hx rfl (hb hby own_d_sI3_30) rfl ((if0 _ _).trans (feq hst.2.1).1) ?_
      refine XS.aloadN X5.here hx rfl (hb hby own_d_sI3_33) rfl rfl ?_
      show Steps p.tables e below (T5.setTop (mkF m 34 #[.val (.ref a1), .val (.ref ac), .val (.int 0), .val (.int 3), .val .null, .unset] [(.ref ac)])) _
      refine XS.iloadN X5.here hx rfl (hb hby own_d_sI3_34) rfl ?_
      refine XS.iloadN X5.here hx rfl (hb hby own_d_sI3_35) rfl ?_
      exact kt)
  obtain ⟨_, _, ⟨T8, L8, k8, n8⟩, -, X8, ⟨Lc8, hQ8, l8, y8, z8⟩, st8⟩ := Jvm.LawKit.callS X5 hx (y := (⟨"java/lang/StringUTF16", "compress", "([CII)[B"⟩ : MethodName)) hown (mvT hZ (hw _ (own_mG (i := 42) rfl))) (mvT hZ (hw _ (own_mG (i := 43) rfl))) (mvT hZ (hw _ (own_mG (i := 44) rfl))) (mvT hZ (hw _ (own_mG (i := 45) rfl))) (by decide) (backOf (W := 0) (own_cou3 l Z a0 hw [] ac kc v0 v1 v2 cs fm h0 n0 Z0 V_ac hl0 hl1 hl2 hst O0) hZ (hw _ (own_mG (i := 45) rfl)) (hw _ (own_mG (i := 44) rfl)) (by decide) (by decide)) (g := (mkF m 36 #[.val (.ref a1), .val (.ref ac), .val (.int 0), .val (.int 3), .val .null, .unset] [(.int 3), (.int 0), (.ref ac)])) rfl (by rw [hml]; rfl) (argsL := [(.ref ac), (.int 0), (.int 3)]) (rest := []) (lenOf own_pd12 rfl) rfl (by show 2 * 0 + _ ≤ _; exact Nat.le_of_eq rfl) (hb hby own_d_sI3_36) (fun _ _ => ⟨rfl, e5, (by decide : 0 + 2 ≤ _), (by decide : 0 + 9 ≤ _)⟩)
  dsimp only [Pt.U, Pt.locs, Pt.cells, Pt.slots] at X8 l8 y8 z8 st8 hQ8
  subst l8 y8 z8
  obtain ⟨yy8, ky8, cd8, rfl, N8q, K8q, zy8, gy8, Dy8⟩ := hQ8
  have N8 := Fr.app N0 N8q
  have KC8 : Keep h0 T8.heap [a1] := (Keep.refl h0 [a1]).trans K8q all0
  have pre9 : Goes p e below s₁ (entryFrame m #[(.ref a1), (.ref ac), (.int 0), (.int 3), .null] 6) T8 (mkF m 39 #[.val (.ref a1), .val (.ref ac), .val (.int 0), .val (.int 3), .val .null, .unset] [(.ref yy8)]) := fun t kt => pre7 t (st8 t kt)
  have sz_yy8 := zy8
  have g_yy8 := gy8
  have pre10 : Goes p e below s₁ (entryFrame m #[(.ref a1), (.ref ac), (.int 0), (.int 3), .null] 6) T8 (mkF m 45 #[.val (.ref a1), .val (.ref ac), .val (.int 0), .val (.int 3), .val .null, .val (.ref yy8)] [(.int 3), (.ref yy8), (.ref a1)]) := fun t kt => pre9 t (by
      show Steps p.tables e below (T8.setTop (mkF m 39 #[.val (.ref a1), .val (.ref ac), .val (.int 0), .val (.int 3), .val .null, .unset] [(.ref yy8)])) _
      refine XS.astore X8.here hx rfl (hb hby own_d_sI3_39) rfl rfl (l' := #[.val (.ref a1), .val (.ref ac), .val (.int 0), .val (.int 3), .val .null, .val (.ref yy8)]) rfl ?_
      refine XS.aloadN X8.here hx rfl (hb hby own_d_sI3_41) rfl rfl ?_
      show Steps p.tables e below (T8.setTop (mkF m 42 #[.val (.ref a1), .val (.ref ac), .val (.int 0), .val (.int 3), .val .null, .val (.ref yy8)] [(.ref a1)])) _
      refine XS.aload X8.here hx rfl (hb hby own_d_sI3_42) rfl rfl ?_
      refine XS.iloadN X8.here hx rfl (hb hby own_d_sI3_44) rfl ?_
      exact kt)
  obtain ⟨_, _, ⟨T11, L11, k11, n11⟩, -, X11, ⟨Lc11, hQ11, l11, y11, z11⟩, st11⟩ := Jvm.LawKit.callS X8 hx (y := (⟨"java/lang/StringUTF16", "coderFromArrayLen", "([BI)B"⟩ : MethodName)) hown (mvT hZ (hw _ (own_mG (i := 49) rfl))) (mvT hZ (hw _ (own_mG (i := 50) rfl))) (mvT hZ (hw _ (own_mG (i := 44) rfl))) (mvT hZ (hw _ (own_mG (i := 51) rfl))) (by decide) (backOf (W := 1) (own_cda3 l Z a0 hw [] yy8 ky8 cd8 v0 v1 v2 T8.heap n0 (Nat.le_trans Z0 K8q.1) Dy8) hZ (hw _ (own_mG (i := 51) rfl)) (hw _ (own_mG (i := 44) rfl)) (by decide) (by decide)) (g := (mkF m 45 #[.val (.ref a1), .val (.ref ac), .val (.int 0), .val (.int 3), .val .null, .val (.ref yy8)] [(.int 3), (.ref yy8), (.ref a1)])) rfl (by rw [hml]; rfl) (argsL := [(.ref yy8), (.int 3)]) (rest := [(.ref a1)]) (lenOf own_pd13 rfl) rfl (by show 2 * 0 + _ ≤ _; exact Nat.le_of_eq rfl) (hb hby own_d_sI3_45) (fun _ _ => ⟨rfl, rfl, (by decide : 2 + 0 ≤ _), (by decide : 9 + 0 ≤ _)⟩)
  dsimp only [Pt.U, Pt.locs, Pt.cells, Pt.slots] at X11 l11 y11 z11 st11 hQ11
  subst l11 y11 z11
  obtain ⟨rfl, N11q, e11⟩ := hQ11
  have N11 := Fr.app N8 N11q
  have pre12 : Goes p e below s₁ (entryFrame m #[(.ref a1), (.ref ac), (.int 0), (.int 3), .null] 6) T11 (mkF m 48 #[.val (.ref a1), .val (.ref ac), .val (.int 0), .val (.int 3), .val .null, .val (.ref yy8)] [(.int cd8), (.ref a1)]) := fun t kt => pre10 t (st11 t kt)
  have hB : narrow .byte (.int cd8) = .int cd8 ∧ fits .byte (.int cd8) = true := by rcases Dy8 with ⟨rfl, -, -⟩ | ⟨rfl, -⟩ <;> exact ⟨rfl, rfl⟩
  obtain ⟨T13, h13, X13, e13, W13, st13⟩ := putFN X11 hx hZ hown (hw _ (own_mG (i := 26) rfl)) Via.refl e11 (Fc.keep K8q nin0) (E_a1.keep K8q) (Or.inr ⟨(hw _ (own_mG (i := 22) rfl)), rfl, hnm⟩) (hw _ (own_mG (i := 6) rfl)) (ty := .byte) (v' := (.int cd8)) (by decide) hB.1 hB.2 (g := (mkF m 48 #[.val (.ref a1), .val (.ref ac), .val (.int 0), .val (.int 3), .val .null, .val (.ref yy8)] [(.int cd8), (.ref a1)])) rfl rfl (hb hby own_d_sI3_48)
  have Fw13 := (Fc.keep K8q nin0).same W13
  have K13 : Keep h0 h13 [a1] := KC8.wr W13 (Or.inl (own_mG (i := 0) rfl))
  have N13 := Fr.snoc X13 N11 g_a1
  have pre14 : Goes p e below s₁ (entryFrame m #[(.ref a1), (.ref ac), (.int 0), (.int 3), .null] 6) T13 (mkF m 51 #[.val (.ref a1), .val (.ref ac), .val (.int 0), .val (.int 3), .val .null, .val (.ref yy8)] []) := fun t kt => pre12 t (st13 t kt)
  have pre15 : Goes p e below s₁ (entryFrame m #[(.ref a1), (.ref ac), (.int 0), (.int 3), .null] 6) T13 (mkF m 54 #[.val (.ref a1), .val (.ref ac), .val (.int 0), .val (.int 3), .val .null, .val (.ref yy8)] [(.ref yy8), (.ref a1)]) := fun t kt => pre14 t (by
      show Steps p.tables e below (T13.setTop (mkF m 51 #[.val (.ref a1), .val (.ref ac), .val (.int 0), .val (.int 3), .val .null, .val (.ref yy8)] [])) _
      refine XS.aloadN X13.here hx rfl (hb hby own_d_sI3_51) rfl rfl ?_
      refine XS.aload X13.here hx rfl (hb hby own_d_sI3_52) rfl rfl ?_
      exact kt)
  obtain ⟨T16, h16, X16, e16, W16, st16⟩ := putF X13 hx hZ hown (host := "") (Or.inl (hw _ (own_mG (i := 25) rfl))) Via.refl e13 ((Fv.keep K8q nin0).other W13 (Or.inr (slot_ne (Or.inr (hw _ (own_mG (i := 21) rfl))) (Or.inr (hw _ (own_mG (i := 22) rfl))) (by decide) (t := (.array .byte)) (t' := .byte) (by decide) (by decide)))) ((E_a1.keep K8q).wr W13) (Or.inr ⟨(hw _ (own_mG (i := 21) rfl)), rfl, hnm⟩) (hw _ (own_mG (i := 6) rfl)) (ty := (.array .byte)) (by decide) rfl rfl (g := (mkF m 54 #[.val (.ref a1), .val (.ref ac), .val (.int 0), .val (.int 3), .val .null, .val (.ref yy8)] [(.ref yy8), (.ref a1)])) rfl rfl (hb hby own_d_sI3_54)
  have Fw16 := ((Fv.keep K8q nin0).other W13 (Or.inr (slot_ne (Or.inr (hw _ (own_mG (i := 21) rfl))) (Or.inr (hw _ (own_mG (i := 22) rfl))) (by decide) (t := (.array .byte)) (t' := .byte) (by decide) (by decide)))).same W16
  have K16 : Keep h0 h16 [a1] := K13.wr W16 (Or.inl (own_mG (i := 0) rfl))
  have N16 := Fr.snoc X16 N13 g_a1
  have pre17 : Goes p e below s₁ (entryFrame m #[(.ref a1), (.ref ac), (.int 0), (.int 3), .null] 6) T16 (mkF m 57 #[.val (.ref a1), .val (.ref ac), .val (.int 0), .val (.int 3), .val .null, .val (.ref yy8)] []) := fun t kt => pre15 t (st16 t kt)
  obtain ⟨fs, hr, hrun, hended, hW, hsame⟩ := X16.leave (v := none) (fun _ => rfl)
  refine ⟨_, _, pre17 _ ?_, hrun, hended, _, _, rfl, ?_, ⟨_, rfl⟩, hW, hsame.mono (by decide) (by decide)⟩
  · show Steps p.tables e below (T16.setTop (mkF m 57 #[.val (.ref a1), .val (.ref ac), .val (.int 0), .val (.int 3), .val .null, .val (.ref yy8)] [])) _
    exact X16.returnOut hx Bd.returns (hb hby own_d_sI3_57) hr
  · show Q_own_sI3 Z a1 ac kc uv uc v0 v1 v2 cs fm h0 n0 _ T16.heap _
    rw [e16]
    exact ⟨rfl, N16, K16, (((E_a1.keep K8q).wr W13).wr W16), cd8, yy8, ky8, (Fw13.other W16 (Or.inr (slot_ne (Or.inr (hw _ (own_mG (i := 22) rfl))) (Or.inr (hw _ (own_mG (i := 21) rfl))) (by decide) (t := .byte) (t' := (.array .byte)) (by decide) (by decide)))), Fw16, ((Dy8.other W13 (Ne.symm (Nat.ne_of_lt (Nat.lt_of_lt_of_le E_a1.lt zy8)))).other W16 (Ne.symm (Nat.ne_of_lt (Nat.lt_of_lt_of_le E_a1.lt zy8))))⟩
theorem own_d_sJ3_0 : decode jdk_42_method_3_code 0 = .ok (.aload_n 0, 1) := by decide +kernel
theorem own_d_sJ3_1 : decode jdk_42_method_3_code 1 = .ok (.aload_n 1, 1) := by decide +kernel
theorem own_d_sJ3_2 : decode jdk_42_method_3_code 2 = .ok (.iconst 0, 1) := by decide +kernel
theorem own_d_sJ3_3 : decode jdk_42_method_3_code 3 = .ok (.aload_n 1, 1) := by decide +kernel
theorem own_d_sJ3_4 : decode jdk_42_method_3_code 4 = .ok (.arraylength, 1) := by decide +kernel
theorem own_d_sJ3_5 : decode jdk_42_method_3_code 5 = .ok (.aconst_null, 1) := by decide +kernel
theorem own_d_sJ3_6 : decode jdk_42_method_3_code 6 = .ok (.invokespecial 27, 3) := by decide +kernel
theorem own_d_sJ3_9 : decode jdk_42_method_3_code 9 = .ok (.return_, 1) := by decide +kernel
theorem own_pn_own_sJ3 : plainName "java/lang/String" = true := by first | (simp [plainName, overriddenIn]; done) | decide +kernel
theorem own_ef_own_sJ3 (m : MethodId) (x0 : Addr) (x1 : Addr) : entryFrame m #[(.ref x0), (.ref x1)] 2 = mkF m 0 #[.val (.ref x0), .val (.ref x1)] [] := by first | (simp [entryFrame, mkF, argsToLocals, Value.category]; done) | rfl
def Q_own_sJ3 (Z : State) (a1 : Addr) (ac : Addr) (kc : ClassId) (uv : Value) (uc : Value) (v0 : Int32) (v1 : Int32) (v2 : Int32) (cs : Int32) (fm : Value) (h0 : Heap) (n0 : Nat) (v : Option Value) (h : Heap) (L : List Loc) : Prop := v = none ∧ Fr n0 L ∧ Keep h0 h [a1] ∧ Exa Z h a1 "java/lang/String" ∧ ∃ (cd : Int32) (y : Addr) (ky : ClassId), Fld Z h a1 "java/lang/String" "coder" "B" (.int cd) ∧ Fld Z h a1 "java/lang/String" "value" "[B" (.ref y) ∧ own_SD Z h y ky cd (3 : Int32) (6 : Int32) [(.int (own_by v0)), (.int (own_by v1)), (.int (own_by v2))] [(.int (own_B0 v0)), (.int (own_B1 v0)), (.int (own_B0 v1)), (.int (own_B1 v1)), (.int (own_B0 v2)), (.int (own_B1 v2))] (¬ ((255 : Int32) < v0) ∧ ¬ ((255 : Int32) < v1) ∧ ¬ ((255 : Int32) < v2))
set_option maxRecDepth 65536 in
set_option maxHeartbeats 40000000 in
theorem own_sJ3 (l : Launch) (Z : State) (a0 : Array Value) (hw : ∀ d ∈ tables_1, d.before a0 Z = true) (ws : List Jvm.Cond) (a1 : Addr) (ac : Addr) (kc : ClassId) (uv : Value) (uc : Value) (v0 : Int32) (v1 : Int32) (v2 : Int32) (cs : Int32) (fm : Value) (h0 : Heap) (n0 : Nat) (Z0 : n0 ≤ h0.size) (E_a1 : Exa Z h0 a1 "java/lang/String") (Fv : Fld Z h0 a1 "java/lang/String" "value" "[B" uv) (Fc : Fld Z h0 a1 "java/lang/String" "coder" "B" uc) (g_a1 : n0 ≤ a1) (V_ac : Arv Z h0 ac kc .char (3 : Int32) [(.int v0), (.int v1), (.int v2)] (.int 0)) (hl0 : (0 ≤ v0.toInt ∧ v0.toInt < 65536)) (hl1 : (0 ≤ v1.toInt ∧ v1.toInt < 65536)) (hl2 : (0 ≤ v2.toInt ∧ v2.toInt < 65536)) (hst : own_ST Z cs fm) (O0 : Old Z n0 h0) :
    MetFree l (⟨"java/lang/String", "<init>", "([C)V"⟩ : MethodName) (head1 (Jvm.Cond.code (⟨"java/lang/String", "<init>", "([C)V"⟩ : MethodName) jdk_42_method_3_code 2 none :: ws) ({ frames := 5, cells := 2, slots := 9, locals := 74 } : Room)) (fun a U => a = #[(.ref a1), (.ref ac)] ∧ Z.Warmed39 U.vm ∧ U.heap = h0) (fun _ _ _ _ _ => True) (fun _ U o U' => ∃ v L, o = .returned v ∧ Q_own_sJ3 Z a1 ac kc uv uc v0 v1 v2 cs fm h0 n0 v U'.heap L ∧ FrameEnd U o U' L ({ frames := 5, cells := 2, slots := 9, locals := 74 } : Room).cells ({ frames := 5, cells := 2, slots := 9, locals := 74 } : Room).slots) := by
  refine MetFree.of_bodySF (plainFor_of_name own_pn_own_sJ3) hisR ?_
  intro p e s m args below meth c s₁ Bd hml0 hP hK
  obtain ⟨rfl, hZ, hh⟩ := hP
  have hx := Bd.exec
  have hby := Bd.bytes
  have hml : c.maxLocals = 2 := hml0
  have hown : s.vm.findClass "java/lang/String" = some m.cls := findClass_of_methodNamed Bd.named
  have hnm := (name_of_methodNamed Bd.named Bd.method).1
  have X0 : Stand p l e ({ frames := 5, cells := 2, slots := 9, locals := 74 } : Room) s m #[(.ref a1), (.ref ac)] below meth c s₁ [] 0 0 := Stand.of_body Bd
  have e0 : s₁.heap = h0 := by rw [← hh, Bd.state]; rfl
  have N0 := Fr.nil n0
  have pre0 : Goes p e below s₁ (entryFrame m #[(.ref a1), (.ref ac)] 2) s₁ (mkF m 0 #[.val (.ref a1), .val (.ref ac)] []) := fun t k => castTop (own_ef_own_sJ3 m a1 ac) k
  have pre1 : Goes p e below s₁ (entryFrame m #[(.ref a1), (.ref ac)] 2) s₁ (mkF m 4 #[.val (.ref a1), .val (.ref ac)] [(.ref ac), (.int 0), (.ref ac), (.ref a1)]) := fun t kt => pre0 t (by
      show Steps p.tables e below (s₁.setTop (mkF m 0 #[.val (.ref a1), .val (.ref ac)] [])) _
      refine XS.aloadN X0.here hx rfl (hb hby own_d_sJ3_0) rfl rfl ?_
      refine XS.aloadN X0.here hx rfl (hb hby own_d_sJ3_1) rfl rfl ?_
      show Steps p.tables e below (s₁.setTop (mkF m 2 #[.val (.ref a1), .val (.ref ac)] [(.ref ac), (.ref a1)])) _
      refine XS.iconst X0.here hx rfl (hb hby own_d_sJ3_2) ?_
      refine XS.aloadN X0.here hx rfl (hb hby own_d_sJ3_3) rfl rfl ?_
      exact kt)
  obtain ⟨cl2, Ar2, q2, S2, N_2, H2, G2⟩ := (id (V_ac))
  have pre3 : Goes p e below s₁ (entryFrame m #[(.ref a1), (.ref ac)] 2) s₁ (mkF m 6 #[.val (.ref a1), .val (.ref ac)] [.null, (.int 3), (.int 0), (.ref ac), (.ref a1)]) := fun t kt => pre1 t (by
      show Steps p.tables e below (s₁.setTop (mkF m 4 #[.val (.ref a1), .val (.ref ac)] [(.ref ac), (.int 0), (.ref ac), (.ref a1)])) _
      refine X0.arraylength hx (by (try rw [e0]); exact Ar2.1) (State.isArrayOf_alike hZ.alike Ar2.2.1) (g := (mkF m 4 #[.val (.ref a1), .val (.ref ac)] [(.ref ac), (.int 0), (.ref ac), (.ref a1)])) rfl rfl (hb hby own_d_sJ3_4) _ ?_
      rw [len_of S2 N_2]
      refine XS.aconstNull X0.here hx rfl (hb hby own_d_sJ3_5) ?_
      exact kt)
  obtain ⟨_, _, ⟨T4, L4, k4, n4⟩, -, X4, ⟨Lc4, hQ4, l4, y4, z4⟩, st4⟩ := X0.specialBack hx (y := (⟨"java/lang/String", "<init>", "([CIILjava/lang/Void;)V"⟩ : MethodName)) rfl hown (mvT hZ (hw _ (own_mG (i := 12) rfl))) (mvT hZ (hw _ (own_mG (i := 13) rfl))) (mvT hZ (hw _ (own_mG (i := 15) rfl))) (by decide) (backOf (W := 0) (own_sI3 l Z a0 hw [] a1 ac kc uv uc v0 v1 v2 cs fm h0 n0 Z0 E_a1 Fv Fc g_a1 V_ac hl0 hl1 hl2 hst O0) hZ (hw _ (own_mG (i := 15) rfl)) (hw _ (own_mG (i := 7) rfl)) (by decide) (by decide)) (g := (mkF m 6 #[.val (.ref a1), .val (.ref ac)] [.null, (.int 3), (.int 0), (.ref ac), (.ref a1)])) rfl (by rw [hml]; rfl) (Steps.refl _) (a := a1) (argsL := [(.ref ac), (.int 0), (.int 3), .null]) (rest := []) (lenOf own_pd0 rfl) rfl (by show 2 * 0 + _ ≤ _; exact Nat.le_of_eq rfl) (hb hby own_d_sJ3_6) (fun _ _ => ⟨rfl, e0, (by decide : 0 + 2 ≤ _), (by decide : 0 + 9 ≤ _)⟩)
  dsimp only [Pt.U, Pt.locs, Pt.cells, Pt.slots] at X4 l4 y4 z4 st4 hQ4
  subst l4 y4 z4
  obtain ⟨rfl, N4q, K4q, Rest4⟩ := hQ4
  have N4 := Fr.app N0 N4q
  have KC4 : Keep h0 T4.heap [a1] := (Keep.refl h0 [a1]).trans K4q (allS (Or.inl (own_mG (i := 0) rfl)) all0)
  have pre5 : Goes p e below s₁ (entryFrame m #[(.ref a1), (.ref ac)] 2) T4 (mkF m 9 #[.val (.ref a1), .val (.ref ac)] []) := fun t kt => pre3 t (st4.trans kt)
  obtain ⟨fs, hr, hrun, hended, hW, hsame⟩ := X4.leave (v := none) (fun _ => rfl)
  refine ⟨_, _, pre5 _ ?_, hrun, hended, _, _, rfl, ?_, ⟨_, rfl⟩, hW, hsame.mono (by decide) (by decide)⟩
  · show Steps p.tables e below (T4.setTop (mkF m 9 #[.val (.ref a1), .val (.ref ac)] [])) _
    exact X4.returnOut hx Bd.returns (hb hby own_d_sJ3_9) hr
  · show Q_own_sJ3 Z a1 ac kc uv uc v0 v1 v2 cs fm h0 n0 _ T4.heap _
    exact ⟨rfl, N4, KC4, Rest4⟩
theorem own_d_cin4_0 : decode jdk_52_method_21_code 0 = .ok (.iconst 0, 1) := by decide +kernel
theorem own_d_cin4_1 : decode jdk_52_method_21_code 1 = .ok (.istore 5, 2) := by decide +kernel
theorem own_d_cin4_3 : decode jdk_52_method_21_code 3 = .ok (.iload 5, 2) := by decide +kernel
theorem own_d_cin4_5 : decode jdk_52_method_21_code 5 = .ok (.iload 4, 2) := by decide +kernel
theorem own_d_cin4_7 : decode jdk_52_method_21_code 7 = .ok (.if_icmp .ge 37, 3) := by decide +kernel
theorem own_d_cin4_10 : decode jdk_52_method_21_code 10 = .ok (.aload_n 0, 1) := by decide +kernel
theorem own_d_cin4_11 : decode jdk_52_method_21_code 11 = .ok (.iload_n 1, 1) := by decide +kernel
theorem own_d_cin4_12 : decode jdk_52_method_21_code 12 = .ok (.caload, 1) := by decide +kernel
theorem own_d_cin4_13 : decode jdk_52_method_21_code 13 = .ok (.istore 6, 2) := by decide +kernel
theorem own_d_cin4_15 : decode jdk_52_method_21_code 15 = .ok (.iload 6, 2) := by decide +kernel
theorem own_d_cin4_17 : decode jdk_52_method_21_code 17 = .ok (.sipush 255, 3) := by decide +kernel
theorem own_d_cin4_20 : decode jdk_52_method_21_code 20 = .ok (.if_icmp .le 6, 3) := by decide +kernel
theorem own_d_cin4_23 : decode jdk_52_method_21_code 23 = .ok (.iload 5, 2) := by decide +kernel
theorem own_d_cin4_25 : decode jdk_52_method_21_code 25 = .ok (.ireturn, 1) := by decide +kernel
theorem own_d_cin4_26 : decode jdk_52_method_21_code 26 = .ok (.aload_n 2, 1) := by decide +kernel
theorem own_d_cin4_27 : decode jdk_52_method_21_code 27 = .ok (.iload_n 3, 1) := by decide +kernel
theorem own_d_cin4_28 : decode jdk_52_method_21_code 28 = .ok (.iload 6, 2) := by decide +kernel
theorem own_d_cin4_30 : decode jdk_52_method_21_code 30 = .ok (.i2b, 1) := by decide +kernel
theorem own_d_cin4_31 : decode jdk_52_method_21_code 31 = .ok (.bastore, 1) := by decide +kernel
theorem own_d_cin4_32 : decode jdk_52_method_21_code 32 = .ok (.iinc 1 1, 3) := by decide +kernel
theorem own_d_cin4_35 : decode jdk_52_method_21_code 35 = .ok (.iinc 3 1, 3) := by decide +kernel
theorem own_d_cin4_38 : decode jdk_52_method_21_code 38 = .ok (.iinc 5 1, 3) := by decide +kernel
theorem own_d_cin4_41 : decode jdk_52_method_21_code 41 = .ok (.goto (-38), 3) := by decide +kernel
theorem own_d_cin4_44 : decode jdk_52_method_21_code 44 = .ok (.iload 4, 2) := by decide +kernel
theorem own_d_cin4_46 : decode jdk_52_method_21_code 46 = .ok (.ireturn, 1) := by decide +kernel
theorem own_pn_own_cin4 : plainName "java/lang/StringUTF16" = true := by first | (simp [plainName, overriddenIn]; done) | decide +kernel
theorem own_ef_own_cin4 (m : MethodId) (x0 : Addr) (x1 : Int32) (x2 : Addr) (x3 : Int32) (x4 : Int32) : entryFrame m #[(.ref x0), (.int x1), (.ref x2), (.int x3), (.int x4)] 7 = mkF m 0 #[.val (.ref x0), .val (.int x1), .val (.ref x2), .val (.int x3), .val (.int x4), .unset, .unset] [] := by first | (simp [entryFrame, mkF, argsToLocals, Value.category]; done) | rfl
def Q_own_cin4 (Z : State) (ac : Addr) (ab : Addr) (kc : ClassId) (kb : ClassId) (v0 : Int32) (v1 : Int32) (v2 : Int32) (v3 : Int32) (h0 : Heap) (n0 : Nat) (v : Option Value) (h : Heap) (L : List Loc) : Prop := ∃ z : Int32, v = some (.int z) ∧ Fr n0 L ∧ Keep h0 h [ab] ∧ ((z = (4 : Int32) ∧ (¬ ((255 : Int32) < v0) ∧ ¬ ((255 : Int32) < v1) ∧ ¬ ((255 : Int32) < v2) ∧ ¬ ((255 : Int32) < v3)) ∧ Arv Z h ab kb .byte (4 : Int32) [(.int (own_by v0)), (.int (own_by v1)), (.int (own_by v2)), (.int (own_by v3))] (.int 0)) ∨ (z = (0 : Int32) ∧ (255 : Int32) < v0) ∨ (z = (1 : Int32) ∧ (255 : Int32) < v1) ∨ (z = (2 : Int32) ∧ (255 : Int32) < v2) ∨ (z = (3 : Int32) ∧ (255 : Int32) < v3))
set_option maxRecDepth 65536 in
set_option maxHeartbeats 40000000 in
theorem own_cin4 (l : Launch) (Z : State) (a0 : Array Value) (hw : ∀ d ∈ tables_1, d.before a0 Z = true) (ws : List Jvm.Cond) (ac : Addr) (ab : Addr) (kc : ClassId) (kb : ClassId) (v0 : Int32) (v1 : Int32) (v2 : Int32) (v3 : Int32) (h0 : Heap) (n0 : Nat) (Z0 : n0 ≤ h0.size) (V_ac : Arv Z h0 ac kc .char (4 : Int32) [(.int v0), (.int v1), (.int v2), (.int v3)] (.int 0)) (V_ab : Arv Z h0 ab kb .byte (4 : Int32) [(.int 0), (.int 0), (.int 0), (.int 0)] (.int 0)) (g_ab : n0 ≤ ab) (nab : ac ≠ ab) :
    MetFree l (⟨"java/lang/StringUTF16", "compress", "([CI[BII)I"⟩ : MethodName) (head1 (Jvm.Cond.code (⟨"java/lang/StringUTF16", "compress", "([CI[BII)I"⟩ : MethodName) jdk_52_method_21_code 7 (some .int) :: ws) ({ frames := 0, cells := 0, slots := 0, locals := 0 } : Room)) (fun a U => a = #[(.ref ac), (.int 0), (.ref ab), (.int 0), (.int 4)] ∧ Z.Warmed39 U.vm ∧ U.heap = h0) (fun _ _ _ _ _ => True) (fun _ U o U' => ∃ v L, o = .returned v ∧ Q_own_cin4 Z ac ab kc kb v0 v1 v2 v3 h0 n0 v U'.heap L ∧ FrameEnd U o U' L ({ frames := 0, cells := 0, slots := 0, locals := 0 } : Room).cells ({ frames := 0, cells := 0, slots := 0, locals := 0 } : Room).slots) := by
  refine MetFree.of_bodySF (plainFor_of_name own_pn_own_cin4) hisR ?_
  intro p e s m args below meth c s₁ Bd hml0 hP hK
  obtain ⟨rfl, hZ, hh⟩ := hP
  have hx := Bd.exec
  have hby := Bd.bytes
  have hml : c.maxLocals = 7 := hml0
  have hown : s.vm.findClass "java/lang/StringUTF16" = some m.cls := findClass_of_methodNamed Bd.named
  have hnm := (name_of_methodNamed Bd.named Bd.method).1
  have X0 : Stand p l e ({ frames := 0, cells := 0, slots := 0, locals := 0 } : Room) s m #[(.ref ac), (.int 0), (.ref ab), (.int 0), (.int 4)] below meth c s₁ [] 0 0 := Stand.of_body Bd
  have e0 : s₁.heap = h0 := by rw [← hh, Bd.state]; rfl
  have N0 := Fr.nil n0
  have pre0 : Goes p e below s₁ (entryFrame m #[(.ref ac), (.int 0), (.ref ab), (.int 0), (.int 4)] 7) s₁ (mkF m 0 #[.val (.ref ac), .val (.int 0), .val (.ref ab), .val (.int 0), .val (.int 4), .unset, .unset] []) := fun t k => castTop (own_ef_own_cin4 m ac (0 : Int32) ab (0 : Int32) (4 : Int32)) k
  have pre1 : Goes p e below s₁ (entryFrame m #[(.ref ac), (.int 0), (.ref ab), (.int 0), (.int 4)] 7) s₁ (mkF m 12 #[.val (.ref ac), .val (.int 0), .val (.ref ab), .val (.int 0), .val (.int 4), .val (.int 0), .unset] [(.int 0), (.ref ac)]) := fun t kt => pre0 t (by
      show Steps p.tables e below (s₁.setTop (mkF m 0 #[.val (.ref ac), .val (.int 0), .val (.ref ab), .val (.int 0), .val (.int 4), .unset, .unset] [])) _
      refine XS.iconst X0.here hx rfl (hb hby own_d_cin4_0) ?_
      refine XS.istore X0.here hx rfl (hb hby own_d_cin4_1) rfl (l' := #[.val (.ref ac), .val (.int 0), .val (.ref ab), .val (.int 0), .val (.int 4), .val (.int 0), .unset]) rfl ?_
      show Steps p.tables e below (s₁.setTop (mkF m 3 #[.val (.ref ac), .val (.int 0), .val (.ref ab), .val (.int 0), .val (.int 4), .val (.int 0), .unset] [])) _
      refine XS.iload X0.here hx rfl (hb hby own_d_cin4_3) rfl ?_
      refine XS.iload X0.here hx rfl (hb hby own_d_cin4_5) rfl ?_
      show Steps p.tables e below (s₁.setTop (mkF m 7 #[.val (.ref ac), .val (.int 0), .val (.ref ab), .val (.int 0), .val (.int 4), .val (.int 0), .unset] [(.int 4), (.int 0)])) _
      refine XS.icmpNo X0.here hx rfl (hb hby own_d_cin4_7) rfl (tlt (by decide : (0 : Int32) < (4 : Int32))).2.1 ?_
      refine XS.aloadN X0.here hx rfl (hb hby own_d_cin4_10) rfl rfl ?_
      show Steps p.tables e below (s₁.setTop (mkF m 11 #[.val (.ref ac), .val (.int 0), .val (.ref ab), .val (.int 0), .val (.int 4), .val (.int 0), .unset] [(.ref ac)])) _
      refine XS.iloadN X0.here hx rfl (hb hby own_d_cin4_11) rfl ?_
      exact kt)
  obtain ⟨cl2, Ar2, q2, S2, N_2, H2, G2⟩ := (id (V_ac))
  have hin2 : ¬ ((0 : Int32) < 0 ∨ cl2.slots.size ≤ ((0 : Int32)).toNatClampNeg) := inb_of S2 ⟨by decide, by decide⟩
  have hat2 : cl2.slots[((0 : Int32)).toNatClampNeg]? = some (.int v0) := Has.at H2 hin2 rfl
  have pre3 : Goes p e below s₁ (entryFrame m #[(.ref ac), (.int 0), (.ref ab), (.int 0), (.int 4)] 7) s₁ (mkF m 20 #[.val (.ref ac), .val (.int 0), .val (.ref ab), .val (.int 0), .val (.int 4), .val (.int 0), .val (.int v0)] [(.int 255), (.int v0)]) := fun t kt => pre1 t (by
      show Steps p.tables e below (s₁.setTop (mkF m 12 #[.val (.ref ac), .val (.int 0), .val (.ref ab), .val (.int 0), .val (.int 4), .val (.int 0), .unset] [(.int 0), (.ref ac)])) _
      refine X0.caload hx (j := (0 : Int32)) (v := (.int v0)) (by (try rw [e0]); exact Ar2.1) (State.isArrayOf_alike hZ.alike Ar2.2.1) Ar2.2.2 hin2 hat2 (g := (mkF m 12 #[.val (.ref ac), .val (.int 0), .val (.ref ab), .val (.int 0), .val (.int 4), .val (.int 0), .unset] [(.int 0), (.ref ac)])) rfl rfl (hb hby own_d_cin4_12) _ ?_
      refine XS.istore X0.here hx rfl (hb hby own_d_cin4_13) rfl (l' := #[.val (.ref ac), .val (.int 0), .val (.ref ab), .val (.int 0), .val (.int 4), .val (.int 0), .val (.int v0)]) rfl ?_
      show Steps p.tables e below (s₁.setTop (mkF m 15 #[.val (.ref ac), .val (.int 0), .val (.ref ab), .val (.int 0), .val (.int 4), .val (.int 0), .val (.int v0)] [])) _
      refine XS.iload X0.here hx rfl (hb hby own_d_cin4_15) rfl ?_
      refine XS.sipush X0.here hx rfl (hb hby own_d_cin4_17) ?_
      exact kt)
  by_cases hc20_4 : (255 : Int32) < v0
  · -- yes at pc 20: f
    have pre5 : Goes p e below s₁ (entryFrame m #[(.ref ac), (.int 0), (.ref ab), (.int 0), (.int 4)] 7) s₁ (mkF m 25 #[.val (.ref ac), .val (.int 0), .val (.ref ab), .val (.int 0), .val (.int 4), .val (.int 0), .val (.int v0)] [(.int 0)]) := fun t kt => pre3 t (by
        show Steps p.tables e below (s₁.setTop (mkF m 20 #[.val (.ref ac), .val (.int 0), .val (.ref ab), .val (.int 0), .val (.int 4), .val (.int 0), .val (.int v0)] [(.int 255), (.int v0)])) _
        refine XS.icmpNo X0.here hx rfl (hb hby own_d_cin4_20) rfl (tlt hc20_4).2.2.2 ?_
        refine XS.iload X0.here hx rfl (hb hby own_d_cin4_23) rfl ?_
        exact kt)
    obtain ⟨fs, hr, hrun, hended, hW, hsame⟩ := X0.leave (v := some (.int 0)) (fun h => by rw [Bd.returns] at h; cases h)
    refine ⟨_, _, pre5 _ ?_, hrun, hended, _, _, rfl, ?_, ⟨_, rfl⟩, hW, hsame.mono (by decide) (by decide)⟩
    · show Steps p.tables e below (s₁.setTop (mkF m 25 #[.val (.ref ac), .val (.int 0), .val (.ref ab), .val (.int 0), .val (.int 4), .val (.int 0), .val (.int v0)] [(.int 0)])) _
      exact retI X0 hx Bd.returns (hb hby own_d_cin4_25) hr
    · show Q_own_cin4 Z ac ab kc kb v0 v1 v2 v3 h0 n0 _ s₁.heap _
      rw [e0]
      exact ⟨_, rfl, N0, (Keep.refl h0 [ab]), (Or.inr (Or.inl ⟨rfl, hc20_4⟩))⟩
  · -- no at pc 20: f
    have pre6 : Goes p e below s₁ (entryFrame m #[(.ref ac), (.int 0), (.ref ab), (.int 0), (.int 4)] 7) s₁ (mkF m 31 #[.val (.ref ac), .val (.int 0), .val (.ref ab), .val (.int 0), .val (.int 4), .val (.int 0), .val (.int v0)] [(.int (v0.toInt8.toInt32)), (.int 0), (.ref ab)]) := fun t kt => pre3 t (by
        show Steps p.tables e below (s₁.setTop (mkF m 20 #[.val (.ref ac), .val (.int 0), .val (.ref ab), .val (.int 0), .val (.int 4), .val (.int 0), .val (.int v0)] [(.int 255), (.int v0)])) _
        refine XS.icmpYes X0.here hx rfl (pc0 := 20) (pc' := 26) rfl (hb hby own_d_cin4_20) rfl (flt hc20_4).2.2.2 (by decide) (by decide) ?_
        refine XS.aloadN X0.here hx rfl (hb hby own_d_cin4_26) rfl rfl ?_
        show Steps p.tables e below (s₁.setTop (mkF m 27 #[.val (.ref ac), .val (.int 0), .val (.ref ab), .val (.int 0), .val (.int 4), .val (.int 0), .val (.int v0)] [(.ref ab)])) _
        refine XS.iloadN X0.here hx rfl (hb hby own_d_cin4_27) rfl ?_
        refine XS.iload X0.here hx rfl (hb hby own_d_cin4_28) rfl ?_
        show Steps p.tables e below (s₁.setTop (mkF m 30 #[.val (.ref ac), .val (.int 0), .val (.ref ab), .val (.int 0), .val (.int 4), .val (.int 0), .val (.int v0)] [(.int v0), (.int 0), (.ref ab)])) _
        refine XS.i2b X0.here hx rfl (hb hby own_d_cin4_30) rfl ?_
        exact kt)
    obtain ⟨cl7, Ar7, q7, S7, N_7, H7, G7⟩ := (id (V_ab))
    have hin7 : ¬ ((0 : Int32) < 0 ∨ cl7.slots.size ≤ ((0 : Int32)).toNatClampNeg) := inb_of S7 ⟨by decide, by decide⟩
    obtain ⟨T8, h8, X8, e8, W8, st8⟩ := stB X0 hx hZ e0 Ar7 (j := (0 : Int32)) hin7 (g := (mkF m 31 #[.val (.ref ac), .val (.int 0), .val (.ref ab), .val (.int 0), .val (.int 4), .val (.int 0), .val (.int v0)] [(.int (v0.toInt8.toInt32)), (.int 0), (.ref ab)])) rfl rfl (hb hby own_d_cin4_31)
    have V8 : Arv Z h8 ab kb .byte (4 : Int32) [(.int (nar .byte (v0.toInt8.toInt32))), (.int 0), (.int 0), (.int 0)] (.int 0) := Arv.set Ar7 q7 S7 N_7 H7 G7 (fits_nar_byte _) W8 0 rfl (Nat.le_of_ble_eq_true rfl)
    have K8 : Keep h0 h8 [ab] := (Keep.refl h0 [ab]).wr W8 (Or.inl (own_mG (i := 0) rfl))
    have N8 := Fr.snoc X8 N0 g_ab
    have pre9 : Goes p e below s₁ (entryFrame m #[(.ref ac), (.int 0), (.ref ab), (.int 0), (.int 4)] 7) T8 (mkF m 32 #[.val (.ref ac), .val (.int 0), .val (.ref ab), .val (.int 0), .val (.int 4), .val (.int 0), .val (.int v0)] []) := fun t kt => pre6 t (st8 t kt)
    have pre10 : Goes p e below s₁ (entryFrame m #[(.ref ac), (.int 0), (.ref ab), (.int 0), (.int 4)] 7) T8 (mkF m 12 #[.val (.ref ac), .val (.int 1), .val (.ref ab), .val (.int 1), .val (.int 4), .val (.int 1), .val (.int v0)] [(.int 1), (.ref ac)]) := fun t kt => pre9 t (by
        show Steps p.tables e below (T8.setTop (mkF m 32 #[.val (.ref ac), .val (.int 0), .val (.ref ab), .val (.int 0), .val (.int 4), .val (.int 0), .val (.int v0)] [])) _
        refine XS.iinc X8.here hx rfl (hb hby own_d_cin4_32) rfl (l' := #[.val (.ref ac), .val (.int 1), .val (.ref ab), .val (.int 0), .val (.int 4), .val (.int 0), .val (.int v0)]) rfl ?_
        refine XS.iinc X8.here hx rfl (hb hby own_d_cin4_35) rfl (l' := #[.val (.ref ac), .val (.int 1), .val (.ref ab), .val (.int 1), .val (.int 4), .val (.int 0), .val (.int v0)]) rfl ?_
        show Steps p.tables e below (T8.setTop (mkF m 38 #[.val (.ref ac), .val (.int 1), .val (.ref ab), .val (.int 1), .val (.int 4), .val (.int 0), .val (.int v0)] [])) _
        refine XS.iinc X8.here hx rfl (hb hby own_d_cin4_38) rfl (l' := #[.val (.ref ac), .val (.int 1), .val (.ref ab), .val (.int 1), .val (.int 4), .val (.int 1), .val (.int v0)]) rfl ?_
        refine XS.goto X8.here hx rfl (pc0 := 41) (pc' := 3) rfl (hb hby own_d_cin4_41) (by decide) (by decide) ?_
        show Steps p.tables e below (T8.setTop (mkF m 3 #[.val (.ref ac), .val (.int 1), .val (.ref ab), .val (.int 1), .val (.int 4), .val (.int 1), .val (.int v0)] [])) _
        refine XS.iload X8.here hx rfl (hb hby own_d_cin4_3) rfl ?_
        refine XS.iload X8.here hx rfl (hb hby own_d_cin4_5) rfl ?_
        show Steps p.tables e below (T8.setTop (mkF m 7 #[.val (.ref ac), .val (.int 1), .val (.ref ab), .val (.int 1), .val (.int 4), .val (.int 1), .val (.int v0)] [(.int 4), (.int 1)])) _
        refine XS.icmpNo X8.here hx rfl (hb hby own_d_cin4_7) rfl (tlt (by decide : (1 : Int32) < (4 : Int32))).2.1 ?_
        refine XS.aloadN X8.here hx rfl (hb hby own_d_cin4_10) rfl rfl ?_
        show Steps p.tables e below (T8.setTop (mkF m 11 #[.val (.ref ac), .val (.int 1), .val (.ref ab), .val (.int 1), .val (.int 4), .val (.int 1), .val (.int v0)] [(.ref ac)])) _
        refine XS.iloadN X8.here hx rfl (hb hby own_d_cin4_11) rfl ?_
        exact kt)
    obtain ⟨cl11, Ar11, q11, S11, N_11, H11, G11⟩ := (id ((V_ac.other W8 nab)))
    have hin11 : ¬ ((1 : Int32) < 0 ∨ cl11.slots.size ≤ ((1 : Int32)).toNatClampNeg) := inb_of S11 ⟨by decide, by decide⟩
    have hat11 : cl11.slots[((1 : Int32)).toNatClampNeg]? = some (.int v1) := Has.at H11 hin11 rfl
    have pre12 : Goes p e below s₁ (entryFrame m #[(.ref ac), (.int 0), (.ref ab), (.int 0), (.int 4)] 7) T8 (mkF m 20 #[.val (.ref ac), .val (.int 1), .val (.ref ab), .val (.int 1), .val (.int 4), .val (.int 1), .val (.int v1)] [(.int 255), (.int v1)]) := fun t kt => pre10 t (by
        show Steps p.tables e below (T8.setTop (mkF m 12 #[.val (.ref ac), .val (.int 1), .val (.ref ab), .val (.int 1), .val (.int 4), .val (.int 1), .val (.int v0)] [(.int 1), (.ref ac)])) _
        refine X8.caload hx (j := (1 : Int32)) (v := (.int v1)) (by (try rw [e8]); exact Ar11.1) (State.isArrayOf_alike hZ.alike Ar11.2.1) Ar11.2.2 hin11 hat11 (g := (mkF m 12 #[.val (.ref ac), .val (.int 1), .val (.ref ab), .val (.int 1), .val (.int 4), .val (.int 1), .val (.int v0)] [(.int 1), (.ref ac)])) rfl rfl (hb hby own_d_cin4_12) _ ?_
        refine XS.istore X8.here hx rfl (hb hby own_d_cin4_13) rfl (l' := #[.val (.ref ac), .val (.int 1), .val (.ref ab), .val (.int 1), .val (.int 4), .val (.int 1), .val (.int v1)]) rfl ?_
        show Steps p.tables e below (T8.setTop (mkF m 15 #[.val (.ref ac), .val (.int 1), .val (.ref ab), .val (.int 1), .val (.int 4), .val (.int 1), .val (.int v1)] [])) _
        refine XS.iload X8.here hx rfl (hb hby own_d_cin4_15) rfl ?_
        refine XS.sipush X8.here hx rfl (hb hby own_d_cin4_17) ?_
        exact kt)
    by_cases hc20_13 : (255 : Int32) < v1
    · -- yes at pc 20: ftf
      have pre14 : Goes p e below s₁ (entryFrame m #[(.ref ac), (.int 0), (.ref ab), (.int 0), (.int 4)] 7) T8 (mkF m 25 #[.val (.ref ac), .val (.int 1), .val (.ref ab), .val (.int 1), .val (.int 4), .val (.int 1), .val (.int v1)] [(.int 1)]) := fun t kt => pre12 t (by
          show Steps p.tables e below (T8.setTop (mkF m 20 #[.val (.ref ac), .val (.int 1), .val (.ref ab), .val (.int 1), .val (.int 4), .val (.int 1), .val (.int v1)] [(.int 255), (.int v1)])) _
          refine XS.icmpNo X8.here hx rfl (hb hby own_d_cin4_20) rfl (tlt hc20_13).2.2.2 ?_
          refine XS.iload X8.here hx rfl (hb hby own_d_cin4_23) rfl ?_
          exact kt)
      obtain ⟨fs, hr, hrun, hended, hW, hsame⟩ := X8.leave (v := some (.int 1)) (fun h => by rw [Bd.returns] at h; cases h)
      refine ⟨_, _, pre14 _ ?_, hrun, hended, _, _, rfl, ?_, ⟨_, rfl⟩, hW, hsame.mono (by decide) (by decide)⟩
      · show Steps p.tables e below (T8.setTop (mkF m 25 #[.val (.ref ac), .val (.int 1), .val (.ref ab), .val (.int 1), .val (.int 4), .val (.int 1), .val (.int v1)] [(.int 1)])) _
        exact retI X8 hx Bd.returns (hb hby own_d_cin4_25) hr
      · show Q_own_cin4 Z ac ab kc kb v0 v1 v2 v3 h0 n0 _ T8.heap _
        rw [e8]
        exact ⟨_, rfl, N8, K8, (Or.inr (Or.inr (Or.inl ⟨rfl, hc20_13⟩)))⟩
    · -- no at pc 20: ftf
      have pre15 : Goes p e below s₁ (entryFrame m #[(.ref ac), (.int 0), (.ref ab), (.int 0), (.int 4)] 7) T8 (mkF m 31 #[.val (.ref ac), .val (.int 1), .val (.ref ab), .val (.int 1), .val (.int 4), .val (.int 1), .val (.int v1)] [(.int (v1.toInt8.toInt32)), (.int 1), (.ref ab)]) := fun t kt => pre12 t (by
          show Steps p.tables e below (T8.setTop (mkF m 20 #[.val (.ref ac), .val (.int 1), .val (.ref ab), .val (.int 1), .val (.int 4), .val (.int 1), .val (.int v1)] [(.int 255), (.int v1)])) _
          refine XS.icmpYes X8.here hx rfl (pc0 := 20) (pc' := 26) rfl (hb hby own_d_cin4_20) rfl (flt hc20_13).2.2.2 (by decide) (by decide) ?_
          refine XS.aloadN X8.here hx rfl (hb hby own_d_cin4_26) rfl rfl ?_
          show Steps p.tables e below (T8.setTop (mkF m 27 #[.val (.ref ac), .val (.int 1), .val (.ref ab), .val (.int 1), .val (.int 4), .val (.int 1), .val (.int v1)] [(.ref ab)])) _
          refine XS.iloadN X8.here hx rfl (hb hby own_d_cin4_27) rfl ?_
          refine XS.iload X8.here hx rfl (hb hby own_d_cin4_28) rfl ?_
          show Steps p.tables e below (T8.setTop (mkF m 30 #[.val (.ref ac), .val (.int 1), .val (.ref ab), .val (.int 1), .val (.int 4), .val (.int 1), .val (.int v1)] [(.int v1), (.int 1), (.ref ab)])) _
          refine XS.i2b X8.here hx rfl (hb hby own_d_cin4_30) rfl ?_
          exact kt)
      obtain ⟨cl16, Ar16, q16, S16, N_16, H16, G16⟩ := (id (V8))
      have hin16 : ¬ ((1 : Int32) < 0 ∨ cl16.slots.size ≤ ((1 : Int32)).toNatClampNeg) := inb_of S16 ⟨by decide, by decide⟩
      obtain ⟨T17, h17, X17, e17, W17, st17⟩ := stB X8 hx hZ e8 Ar16 (j := (1 : Int32)) hin16 (g := (mkF m 31 #[.val (.ref ac), .val (.int 1), .val (.ref ab), .val (.int 1), .val (.int 4), .val (.int 1), .val (.int v1)] [(.int (v1.toInt8.toInt32)), (.int 1), (.ref ab)])) rfl rfl (hb hby own_d_cin4_31)
      have V17 : Arv Z h17 ab kb .byte (4 : Int32) [(.int (nar .byte (v0.toInt8.toInt32))), (.int (nar .byte (v1.toInt8.toInt32))), (.int 0), (.int 0)] (.int 0) := Arv.set Ar16 q16 S16 N_16 H16 G16 (fits_nar_byte _) W17 1 rfl (Nat.le_of_ble_eq_true rfl)
      have K17 : Keep h0 h17 [ab] := K8.wr W17 (Or.inl (own_mG (i := 0) rfl))
      have N17 := Fr.snoc X17 N8 g_ab
      have pre18 : Goes p e below s₁ (entryFrame m #[(.ref ac), (.int 0), (.ref ab), (.int 0), (.int 4)] 7) T17 (mkF m 32 #[.val (.ref ac), .val (.int 1), .val (.ref ab), .val (.int 1), .val (.int 4), .val (.int 1), .val (.int v1)] []) := fun t kt => pre15 t (st17 t kt)
      have pre19 : Goes p e below s₁ (entryFrame m #[(.ref ac), (.int 0), (.ref ab), (.int 0), (.int 4)] 7) T17 (mkF m 12 #[.val (.ref ac), .val (.int 2), .val (.ref ab), .val (.int 2), .val (.int 4), .val (.int 2), .val (.int v1)] [(.int 2), (.ref ac)]) := fun t kt => pre18 t (by
          show Steps p.tables e below (T17.setTop (mkF m 32 #[.val (.ref ac), .val (.int 1), .val (.ref ab), .val (.int 1), .val (.int 4), .val (.int 1), .val (.int v1)] [])) _
          refine XS.iinc X17.here hx rfl (hb hby own_d_cin4_32) rfl (l' := #[.val (.ref ac), .val (.int 2), .val (.ref ab), .val (.int 1), .val (.int 4), .val (.int 1), .val (.int v1)]) rfl ?_
          refine XS.iinc X17.here hx rfl (hb hby own_d_cin4_35) rfl (l' := #[.val (.ref ac), .val (.int 2), .val (.ref ab), .val (.int 2), .val (.int 4), .val (.int 1), .val (.int v1)]) rfl ?_
          show Steps p.tables e below (T17.setTop (mkF m 38 #[.val (.ref ac), .val (.int 2), .val (.ref ab), .val (.int 2), .val (.int 4), .val (.int 1), .val (.int v1)] [])) _
          refine XS.iinc X17.here hx rfl (hb hby own_d_cin4_38) rfl (l' := #[.val (.ref ac), .val (.int 2), .val (.ref ab), .val (.int 2), .val (.int 4), .val (.int 2), .val (.int v1)]) rfl ?_
          refine XS.goto X17.here hx rfl (pc0 := 41) (pc' := 3) rfl (hb hby own_d_cin4_41) (by decide) (by decide) ?_
          show Steps p.tables e below (T17.setTop (mkF m 3 #[.val (.ref ac), .val (.int 2), .val (.ref ab), .val (.int 2), .val (.int 4), .val (.int 2), .val (.int v1)] [])) _
          refine XS.iload X17.here hx rfl (hb hby own_d_cin4_3) rfl ?_
          refine XS.iload X17.here hx rfl (hb hby own_d_cin4_5) rfl ?_
          show Steps p.tables e below (T17.setTop (mkF m 7 #[.val (.ref ac), .val (.int 2), .val (.ref ab), .val (.int 2), .val (.int 4), .val (.int 2), .val (.int v1)] [(.int 4), (.int 2)])) _
          refine XS.icmpNo X17.here hx rfl (hb hby own_d_cin4_7) rfl (tlt (by decide : (2 : Int32) < (4 : Int32))).2.1 ?_
          refine XS.aloadN X17.here hx rfl (hb hby own_d_cin4_10) rfl rfl ?_
          show Steps p.tables e below (T17.setTop (mkF m 11 #[.val (.ref ac), .val (.int 2), .val (.ref ab), .val (.int 2), .val (.int 4), .val (.int 2), .val (.int v1)] [(.ref ac)])) _
          refine XS.iloadN X17.here hx rfl (hb hby own_d_cin4_11) rfl ?_
          exact kt)
      obtain ⟨cl20, Ar20, q20, S20, N_20, H20, G20⟩ := (id (((V_ac.other W8 nab).other W17 nab)))
      have hin20 : ¬ ((2 : Int32) < 0 ∨ cl20.slots.size ≤ ((2 : Int32)).toNatClampNeg) := inb_of S20 ⟨by decide, by decide⟩
      have hat20 : cl20.slots[((2 : Int32)).toNatClampNeg]? = some (.int v2) := Has.at H20 hin20 rfl
      have pre21 : Goes p e below s₁ (entryFrame m #[(.ref ac), (.int 0), (.ref ab), (.int 0), (.int 4)] 7) T17 (mkF m 20 #[.val (.ref ac), .val (.int 2), .val (.ref ab), .val (.int 2), .val (.int 4), .val (.int 2), .val (.int v2)] [(.int 255), (.int v2)]) := fun t kt => pre19 t (by
          show Steps p.tables e below (T17.setTop (mkF m 12 #[.val (.ref ac), .val (.int 2), .val (.ref ab), .val (.int 2), .val (.int 4), .val (.int 2), .val (.int v1)] [(.int 2), (.ref ac)])) _
          refine X17.caload hx (j := (2 : Int32)) (v := (.int v2)) (by (try rw [e17]); exact Ar20.1) (State.isArrayOf_alike hZ.alike Ar20.2.1) Ar20.2.2 hin20 hat20 (g := (mkF m 12 #[.val (.ref ac), .val (.int 2), .val (.ref ab), .val (.int 2), .val (.int 4), .val (.int 2), .val (.int v1)] [(.int 2), (.ref ac)])) rfl rfl (hb hby own_d_cin4_12) _ ?_
          refine XS.istore X17.here hx rfl (hb hby own_d_cin4_13) rfl (l' := #[.val (.ref ac), .val (.int 2), .val (.ref ab), .val (.int 2), .val (.int 4), .val (.int 2), .val (.int v2)]) rfl ?_
          show Steps p.tables e below (T17.setTop (mkF m 15 #[.val (.ref ac), .val (.int 2), .val (.ref ab), .val (.int 2), .val (.int 4), .val (.int 2), .val (.int v2)] [])) _
          refine XS.iload X17.here hx rfl (hb hby own_d_cin4_15) rfl ?_
          refine XS.sipush X17.here hx rfl (hb hby own_d_cin4_17) ?_
          exact kt)
      by_cases hc20_22 : (255 : Int32) < v2
      · -- yes at pc 20: ftftf
        have pre23 : Goes p e below s₁ (entryFrame m #[(.ref ac), (.int 0), (.ref ab), (.int 0), (.int 4)] 7) T17 (mkF m 25 #[.val (.ref ac), .val (.int 2), .val (.ref ab), .val (.int 2), .val (.int 4), .val (.int 2), .val (.int v2)] [(.int 2)]) := fun t kt => pre21 t (by
            show Steps p.tables e below (T17.setTop (mkF m 20 #[.val (.ref ac), .val (.int 2), .val (.ref ab), .val (.int 2), .val (.int 4), .val (.int 2), .val (.int v2)] [(.int 255), (.int v2)])) _
            refine XS.icmpNo X17.here hx rfl (hb hby own_d_cin4_20) rfl (tlt hc20_22).2.2.2 ?_
            refine XS.iload X17.here hx rfl (hb hby own_d_cin4_23) rfl ?_
            exact kt)
        obtain ⟨fs, hr, hrun, hended, hW, hsame⟩ := X17.leave (v := some (.int 2)) (fun h => by rw [Bd.returns] at h; cases h)
        refine ⟨_, _, pre23 _ ?_, hrun, hended, _, _, rfl, ?_, ⟨_, rfl⟩, hW, hsame.mono (by decide) (by decide)⟩
        · show Steps p.tables e below (T17.setTop (mkF m 25 #[.val (.ref ac), .val (.int 2), .val (.ref ab), .val (.int 2), .val (.int 4), .val (.int 2), .val (.int v2)] [(.int 2)])) _
          exact retI X17 hx Bd.returns (hb hby own_d_cin4_25) hr
        · show Q_own_cin4 Z ac ab kc kb v0 v1 v2 v3 h0 n0 _ T17.heap _
          rw [e17]
          exact ⟨_, rfl, N17, K17, (Or.inr (Or.inr (Or.inr (Or.inl ⟨rfl, hc20_22⟩))))⟩
      · -- no at pc 20: ftftf
        have pre24 : Goes p e below s₁ (entryFrame m #[(.ref ac), (.int 0), (.ref ab), (.int 0), (.int 4)] 7) T17 (mkF m 31 #[.val (.ref ac), .val (.int 2), .val (.ref ab), .val (.int 2), .val (.int 4), .val (.int 2), .val (.int v2)] [(.int (v2.toInt8.toInt32)), (.int 2), (.ref ab)]) := fun t kt => pre21 t (by
            show Steps p.tables e below (T17.setTop (mkF m 20 #[.val (.ref ac), .val (.int 2), .val (.ref ab), .val (.int 2), .val (.int 4), .val (.int 2), .val (.int v2)] [(.int 255), (.int v2)])) _
            refine XS.icmpYes X17.here hx rfl (pc0 := 20) (pc' := 26) rfl (hb hby own_d_cin4_20) rfl (flt hc20_22).2.2.2 (by decide) (by decide) ?_
            refine XS.aloadN X17.here hx rfl (hb hby own_d_cin4_26) rfl rfl ?_
            show Steps p.tables e below (T17.setTop (mkF m 27 #[.val (.ref ac), .val (.int 2), .val (.ref ab), .val (.int 2), .val (.int 4), .val (.int 2), .val (.int v2)] [(.ref ab)])) _
            refine XS.iloadN X17.here hx rfl (hb hby own_d_cin4_27) rfl ?_
            refine XS.iload X17.here hx rfl (hb hby own_d_cin4_28) rfl ?_
            show Steps p.tables e below (T17.setTop (mkF m 30 #[.val (.ref ac), .val (.int 2), .val (.ref ab), .val (.int 2), .val (.int 4), .val (.int 2), .val (.int v2)] [(.int v2), (.int 2), (.ref ab)])) _
            refine XS.i2b X17.here hx rfl (hb hby own_d_cin4_30) rfl ?_
            exact kt)
        obtain ⟨cl25, Ar25, q25, S25, N_25, H25, G25⟩ := (id (V17))
        have hin25 : ¬ ((2 : Int32) < 0 ∨ cl25.slots.size ≤ ((2 : Int32)).toNatClampNeg) := inb_of S25 ⟨by decide, by decide⟩
        obtain ⟨T26, h26, X26, e26, W26, st26⟩ := stB X17 hx hZ e17 Ar25 (j := (2 : Int32)) hin25 (g := (mkF m 31 #[.val (.ref ac), .val (.int 2), .val (.ref ab), .val (.int 2), .val (.int 4), .val (.int 2), .val (.int v2)] [(.int (v2.toInt8.toInt32)), (.int 2), (.ref ab)])) rfl rfl (hb hby own_d_cin4_31)
        have V26 : Arv Z h26 ab kb .byte (4 : Int32) [(.int (nar .byte (v0.toInt8.toInt32))), (.int (nar .byte (v1.toInt8.toInt32))), (.int (nar .byte (v2.toInt8.toInt32))), (.int 0)] (.int 0) := Arv.set Ar25 q25 S25 N_25 H25 G25 (fits_nar_byte _) W26 2 rfl (Nat.le_of_ble_eq_true rfl)
        have K26 : Keep h0 h26 [ab] := K17.wr W26 (Or.inl (own_mG (i := 0) rfl))
        have N26 := Fr.snoc X26 N17 g_ab
        have pre27 : Goes p e below s₁ (entryFrame m #[(.ref ac), (.int 0), (.ref ab), (.int 0), (.int 4)] 7) T26 (mkF m 32 #[.val (.ref ac), .val (.int 2), .val (.ref ab), .val (.int 2), .val (.int 4), .val (.int 2), .val (.int v2)] []) := fun t kt => pre24 t (st26 t kt)
        have pre28 : Goes p e below s₁ (entryFrame m #[(.ref ac), (.int 0), (.ref ab), (.int 0), (.int 4)] 7) T26 (mkF m 12 #[.val (.ref ac), .val (.int 3), .val (.ref ab), .val (.int 3), .val (.int 4), .val (.int 3), .val (.int v2)] [(.int 3), (.ref ac)]) := fun t kt => pre27 t (by
            show Steps p.tables e below (T26.setTop (mkF m 32 #[.val (.ref ac), .val (.int 2), .val (.ref ab), .val (.int 2), .val (.int 4), .val (.int 2), .val (.int v2)] [])) _
            refine XS.iinc X26.here hx rfl (hb hby own_d_cin4_32) rfl (l' := #[.val (.ref ac), .val (.int 3), .val (.ref ab), .val (.int 2), .val (.int 4), .val (.int 2), .val (.int v2)]) rfl ?_
            refine XS.iinc X26.here hx rfl (hb hby own_d_cin4_35) rfl (l' := #[.val (.ref ac), .val (.int 3), .val (.ref ab), .val (.int 3), .val (.int 4), .val (.int 2), .val (.int v2)]) rfl ?_
            show Steps p.tables e below (T26.setTop (mkF m 38 #[.val (.ref ac), .val (.int 3), .val (.ref ab), .val (.int 3), .val (.int 4), .val (.int 2), .val (.int v2)] [])) _
            refine XS.iinc X26.here hx rfl (hb hby own_d_cin4_38) rfl (l' := #[.val (.ref ac), .val (.int 3), .val (.ref ab), .val (.int 3), .val (.int 4), .val (.int 3), .val (.int v2)]) rfl ?_
            refine XS.goto X26.here hx rfl (pc0 := 41) (pc' := 3) rfl (hb hby own_d_cin4_41) (by decide) (by decide) ?_
            show Steps p.tables e below (T26.setTop (mkF m 3 #[.val (.ref ac), .val (.int 3), .val (.ref ab), .val (.int 3), .val (.int 4), .val (.int 3), .val (.int v2)] [])) _
            refine XS.iload X26.here hx rfl (hb hby own_d_cin4_3) rfl ?_
            refine XS.iload X26.here hx rfl (hb hby own_d_cin4_5) rfl ?_
            show Steps p.tables e below (T26.setTop (mkF m 7 #[.val (.ref ac), .val (.int 3), .val (.ref ab), .val (.int 3), .val (.int 4), .val (.int 3), .val (.int v2)] [(.int 4), (.int 3)])) _
            refine XS.icmpNo X26.here hx rfl (hb hby own_d_cin4_7) rfl (tlt (by decide : (3 : Int32) < (4 : Int32))).2.1 ?_
            refine XS.aloadN X26.here hx rfl (hb hby own_d_cin4_10) rfl rfl ?_
            show Steps p.tables e below (T26.setTop (mkF m 11 #[.val (.ref ac), .val (.int 3), .val (.ref ab), .val (.int 3), .val (.int 4), .val (.int 3), .val (.int v2)] [(.ref ac)])) _
            refine XS.iloadN X26.here hx rfl (hb hby own_d_cin4_11) rfl ?_
            exact kt)
        obtain ⟨cl29, Ar29, q29, S29, N_29, H29, G29⟩ := (id ((((V_ac.other W8 nab).other W17 nab).other W26 nab)))
        have hin29 : ¬ ((3 : Int32) < 0 ∨ cl29.slots.size ≤ ((3 : Int32)).toNatClampNeg) := inb_of S29 ⟨by decide, by decide⟩
        have hat29 : cl29.slots[((3 : Int32)).toNatClampNeg]? = some (.int v3) := Has.at H29 hin29 rfl
        have pre30 : Goes p e below s₁ (entryFrame m #[(.ref ac), (.int 0), (.ref ab), (.int 0), (.int 4)] 7) T26 (mkF m 20 #[.val (.ref ac), .val (.int 3), .val (.ref ab), .val (.int 3), .val (.int 4), .val (.int 3), .val (.int v3)] [(.int 255), (.int v3)]) := fun t kt => pre28 t (by
            show Steps p.tables e below (T26.setTop (mkF m 12 #[.val (.ref ac), .val (.int 3), .val (.ref ab), .val (.int 3), .val (.int 4), .val (.int 3), .val (.int v2)] [(.int 3), (.ref ac)])) _
            refine X26.caload hx (j := (3 : Int32)) (v := (.int v3)) (by (try rw [e26]); exact Ar29.1) (State.isArrayOf_alike hZ.alike Ar29.2.1) Ar29.2.2 hin29 hat29 (g := (mkF m 12 #[.val (.ref ac), .val (.int 3), .val (.ref ab), .val (.int 3), .val (.int 4), .val (.int 3), .val (.int v2)] [(.int 3), (.ref ac)])) rfl rfl (hb hby own_d_cin4_12) _ ?_
            refine XS.istore X26.here hx rfl (hb hby own_d_cin4_13) rfl (l' := #[.val (.ref ac), .val (.int 3), .val (.ref ab), .val (.int 3), .val (.int 4), .val (.int 3), .val (.int v3)]) rfl ?_
            show Steps p.tables e below (T26.setTop (mkF m 15 #[.val (.ref ac), .val (.int 3), .val (.ref ab), .val (.int 3), .val (.int 4), .val (.int 3), .val (.int v3)] [])) _
            refine XS.iload X26.here hx rfl (hb hby own_d_cin4_15) rfl ?_
            refine XS.sipush X26.here hx rfl (hb hby own_d_cin4_17) ?_
            exact kt)
        by_cases hc20_31 : (255 : Int32) < v3
        · -- yes at pc 20: ftftftf
          have pre32 : Goes p e below s₁ (entryFrame m #[(.ref ac), (.int 0), (.ref ab), (.int 0), (.int 4)] 7) T26 (mkF m 25 #[.val (.ref ac), .val (.int 3), .val (.ref ab), .val (.int 3), .val (.int 4), .val (.int 3), .val (.int v3)] [(.int 3)]) := fun t kt => pre30 t (by
              show Steps p.tables e below (T26.setTop (mkF m 20 #[.val (.ref ac), .val (.int 3), .val (.ref ab), .val (.int 3), .val (.int 4), .val (.int 3), .val (.int v3)] [(.int 255), (.int v3)])) _
              refine XS.icmpNo X26.here hx rfl (hb hby own_d_cin4_20) rfl (tlt hc20_31).2.2.2 ?_
              refine XS.iload X26.here hx rfl (hb hby own_d_cin4_23) rfl ?_
              exact kt)
          obtain ⟨fs, hr, hrun, hended, hW, hsame⟩ := X26.leave (v := some (.int 3)) (fun h => by rw [Bd.returns] at h; cases h)
          refine ⟨_, _, pre32 _ ?_, hrun, hended, _, _, rfl, ?_, ⟨_, rfl⟩, hW, hsame.mono (by decide) (by decide)⟩
          · show Steps p.tables e below (T26.setTop (mkF m 25 #[.val (.ref ac), .val (.int 3), .val (.ref ab), .val (.int 3), .val (.int 4), .val (.int 3), .val (.int v3)] [(.int 3)])) _
            exact retI X26 hx Bd.returns (hb hby own_d_cin4_25) hr
          · show Q_own_cin4 Z ac ab kc kb v0 v1 v2 v3 h0 n0 _ T26.heap _
            rw [e26]
            exact ⟨_, rfl, N26, K26, (Or.inr (Or.inr (Or.inr (Or.inr (⟨rfl, hc20_31⟩)))))⟩
        · -- no at pc 20: ftftftf
          have pre33 : Goes p e below s₁ (entryFrame m #[(.ref ac), (.int 0), (.ref ab), (.int 0), (.int 4)] 7) T26 (mkF m 31 #[.val (.ref ac), .val (.int 3), .val (.ref ab), .val (.int 3), .val (.int 4), .val (.int 3), .val (.int v3)] [(.int (v3.toInt8.toInt32)), (.int 3), (.ref ab)]) := fun t kt => pre30 t (by
              show Steps p.tables e below (T26.setTop (mkF m 20 #[.val (.ref ac), .val (.int 3), .val (.ref ab), .val (.int 3), .val (.int 4), .val (.int 3), .val (.int v3)] [(.int 255), (.int v3)])) _
              refine XS.icmpYes X26.here hx rfl (pc0 := 20) (pc' := 26) rfl (hb hby own_d_cin4_20) rfl (flt hc20_31).2.2.2 (by decide) (by decide) ?_
              refine XS.aloadN X26.here hx rfl (hb hby own_d_cin4_26) rfl rfl ?_
              show Steps p.tables e below (T26.setTop (mkF m 27 #[.val (.ref ac), .val (.int 3), .val (.ref ab), .val (.int 3), .val (.int 4), .val (.int 3), .val (.int v3)] [(.ref ab)])) _
              refine XS.iloadN X26.here hx rfl (hb hby own_d_cin4_27) rfl ?_
              refine XS.iload X26.here hx rfl (hb hby own_d_cin4_28) rfl ?_
              show Steps p.tables e below (T26.setTop (mkF m 30 #[.val (.ref ac), .val (.int 3), .val (.ref ab), .val (.int 3), .val (.int 4), .val (.int 3), .val (.int v3)] [(.int v3), (.int 3), (.ref ab)])) _
              refine XS.i2b X26.here hx rfl (hb hby own_d_cin4_30) rfl ?_
              exact kt)
          obtain ⟨cl34, Ar34, q34, S34, N_34, H34, G34⟩ := (id (V26))
          have hin34 : ¬ ((3 : Int32) < 0 ∨ cl34.slots.size ≤ ((3 : Int32)).toNatClampNeg) := inb_of S34 ⟨by decide, by decide⟩
          obtain ⟨T35, h35, X35, e35, W35, st35⟩ := stB X26 hx hZ e26 Ar34 (j := (3 : Int32)) hin34 (g := (mkF m 31 #[.val (.ref ac), .val (.int 3), .val (.ref ab), .val (.int 3), .val (.int 4), .val (.int 3), .val (.int v3)] [(.int (v3.toInt8.toInt32)), (.int 3), (.ref ab)])) rfl rfl (hb hby own_d_cin4_31)
          have V35 : Arv Z h35 ab kb .byte (4 : Int32) [(.int (nar .byte (v0.toInt8.toInt32))), (.int (nar .byte (v1.toInt8.toInt32))), (.int (nar .byte (v2.toInt8.toInt32))), (.int (nar .byte (v3.toInt8.toInt32)))] (.int 0) := Arv.set Ar34 q34 S34 N_34 H34 G34 (fits_nar_byte _) W35 3 rfl (Nat.le_of_ble_eq_true rfl)
          have K35 : Keep h0 h35 [ab] := K26.wr W35 (Or.inl (own_mG (i := 0) rfl))
          have N35 := Fr.snoc X35 N26 g_ab
          have pre36 : Goes p e below s₁ (entryFrame m #[(.ref ac), (.int 0), (.ref ab), (.int 0), (.int 4)] 7) T35 (mkF m 32 #[.val (.ref ac), .val (.int 3), .val (.ref ab), .val (.int 3), .val (.int 4), .val (.int 3), .val (.int v3)] []) := fun t kt => pre33 t (st35 t kt)
          have pre37 : Goes p e below s₁ (entryFrame m #[(.ref ac), (.int 0), (.ref ab), (.int 0), (.int 4)] 7) T35 (mkF m 46 #[.val (.ref ac), .val (.int 4), .val (.ref ab), .val (.int 4), .val (.int 4), .val (.int 4), .val (.int v3)] [(.int 4)]) := fun t kt => pre36 t (by
              show Steps p.tables e below (T35.setTop (mkF m 32 #[.val (.ref ac), .val (.int 3), .val (.ref ab), .val (.int 3), .val (.int 4), .val (.int 3), .val (.int v3)] [])) _
              refine XS.iinc X35.here hx rfl (hb hby own_d_cin4_32) rfl (l' := #[.val (.ref ac), .val (.int 4), .val (.ref ab), .val (.int 3), .val (.int 4), .val (.int 3), .val (.int v3)]) rfl ?_
              refine XS.iinc X35.here hx rfl (hb hby own_d_cin4_35) rfl (l' := #[.val (.ref ac), .val (.int 4), .val (.ref ab), .val (.int 4), .val (.int 4), .val (.int 3), .val (.int v3)]) rfl ?_
              show Steps p.tables e below (T35.setTop (mkF m 38 #[.val (.ref ac), .val (.int 4), .val (.ref ab), .val (.int 4), .val (.int 4), .val (.int 3), .val (.int v3)] [])) _
              refine XS.iinc X35.here hx rfl (hb hby own_d_cin4_38) rfl (l' := #[.val (.ref ac), .val (.int 4), .val (.ref ab), .val (.int 4), .val (.int 4), .val (.int 4), .val (.int v3)]) rfl ?_
              refine XS.goto X35.here hx rfl (pc0 := 41) (pc' := 3) rfl (hb hby own_d_cin4_41) (by decide) (by decide) ?_
              show Steps p.tables e below (T35.setTop (mkF m 3 #[.val (.ref ac), .val (.int 4), .val (.ref ab), .val (.int 4), .val (.int 4), .val (.int 4), .val (.int v3)] [])) _
              refine XS.iload X35.here hx rfl (hb hby own_d_cin4_3) rfl ?_
              refine XS.iload X35.here hx rfl (hb hby own_d_cin4_5) rfl ?_
              show Steps p.tables e below (T35.setTop (mkF m 7 #[.val (.ref ac), .val (.int 4), .val (.ref ab), .val (.int 4), .val (.int 4), .val (.int 4), .val (.int v3)] [(.int 4), (.int 4)])) _
              refine XS.icmpYes X35.here hx rfl (pc0 := 7) (pc' := 44) rfl (hb hby own_d_cin4_7) rfl (flt (by decide : ¬ ((4 : Int32) < (4 : Int32)))).2.1 (by decide) (by decide) ?_
              refine XS.iload X35.here hx rfl (hb hby own_d_cin4_44) rfl ?_
              exact kt)
          obtain ⟨fs, hr, hrun, hended, hW, hsame⟩ := X35.leave (v := some (.int 4)) (fun h => by rw [Bd.returns] at h; cases h)
          refine ⟨_, _, pre37 _ ?_, hrun, hended, _, _, rfl, ?_, ⟨_, rfl⟩, hW, hsame.mono (by decide) (by decide)⟩
          · show Steps p.tables e below (T35.setTop (mkF m 46 #[.val (.ref ac), .val (.int 4), .val (.ref ab), .val (.int 4), .val (.int 4), .val (.int 4), .val (.int v3)] [(.int 4)])) _
            exact retI X35 hx Bd.returns (hb hby own_d_cin4_46) hr
          · show Q_own_cin4 Z ac ab kc kb v0 v1 v2 v3 h0 n0 _ T35.heap _
            rw [e35]
            exact ⟨_, rfl, N35, K35, (Or.inl ⟨rfl, ⟨hc20_4, hc20_13, hc20_22, hc20_31⟩, V35⟩)⟩
theorem own_d_nbl4_0 : decode jdk_52_method_3_code 0 = .ok (.iload_n 0, 1) := by decide +kernel
theorem own_d_nbl4_1 : decode jdk_52_method_3_code 1 = .ok (.ifCond .ge 11, 3) := by decide +kernel
theorem own_d_nbl4_12 : decode jdk_52_method_3_code 12 = .ok (.iload_n 0, 1) := by decide +kernel
theorem own_d_nbl4_13 : decode jdk_52_method_3_code 13 = .ok (.ldc 20, 2) := by decide +kernel
theorem own_d_nbl4_15 : decode jdk_52_method_3_code 15 = .ok (.if_icmp .lt 40, 3) := by decide +kernel
theorem own_d_nbl4_55 : decode jdk_52_method_3_code 55 = .ok (.iload_n 0, 1) := by decide +kernel
theorem own_d_nbl4_56 : decode jdk_52_method_3_code 56 = .ok (.iconst 1, 1) := by decide +kernel
theorem own_d_nbl4_57 : decode jdk_52_method_3_code 57 = .ok (.ishl, 1) := by decide +kernel
theorem own_d_nbl4_58 : decode jdk_52_method_3_code 58 = .ok (.ireturn, 1) := by decide +kernel
theorem own_pn_own_nbl4 : plainName "java/lang/StringUTF16" = true := by first | (simp [plainName, overriddenIn]; done) | decide +kernel
theorem own_ef_own_nbl4 (m : MethodId) (x0 : Int32) : entryFrame m #[(.int x0)] 1 = mkF m 0 #[.val (.int x0)] [] := by first | (simp [entryFrame, mkF, argsToLocals, Value.category]; done) | rfl
def Q_own_nbl4 (Z : State)  (h0 : Heap) (n0 : Nat) (v : Option Value) (h : Heap) (L : List Loc) : Prop := v = some (.int 8) ∧ Fr n0 L ∧ h = h0
set_option maxRecDepth 65536 in
set_option maxHeartbeats 40000000 in
theorem own_nbl4 (l : Launch) (Z : State) (a0 : Array Value) (hw : ∀ d ∈ tables_1, d.before a0 Z = true) (ws : List Jvm.Cond)  (h0 : Heap) (n0 : Nat) (Z0 : n0 ≤ h0.size) :
    MetFree l (⟨"java/lang/StringUTF16", "newBytesLength", "(I)I"⟩ : MethodName) (head1 (Jvm.Cond.code (⟨"java/lang/StringUTF16", "newBytesLength", "(I)I"⟩ : MethodName) jdk_52_method_3_code 1 (some .int) :: ws) ({ frames := 0, cells := 0, slots := 0, locals := 0 } : Room)) (fun a U => a = #[(.int 4)] ∧ Z.Warmed39 U.vm ∧ U.heap = h0) (fun _ _ _ _ _ => True) (fun _ U o U' => ∃ v L, o = .returned v ∧ Q_own_nbl4 Z  h0 n0 v U'.heap L ∧ FrameEnd U o U' L ({ frames := 0, cells := 0, slots := 0, locals := 0 } : Room).cells ({ frames := 0, cells := 0, slots := 0, locals := 0 } : Room).slots) := by
  refine MetFree.of_bodySF (plainFor_of_name own_pn_own_nbl4) hisR ?_
  intro p e s m args below meth c s₁ Bd hml0 hP hK
  obtain ⟨rfl, hZ, hh⟩ := hP
  have hx := Bd.exec
  have hby := Bd.bytes
  have hml : c.maxLocals = 1 := hml0
  have hown : s.vm.findClass "java/lang/StringUTF16" = some m.cls := findClass_of_methodNamed Bd.named
  have hnm := (name_of_methodNamed Bd.named Bd.method).1
  have X0 : Stand p l e ({ frames := 0, cells := 0, slots := 0, locals := 0 } : Room) s m #[(.int 4)] below meth c s₁ [] 0 0 := Stand.of_body Bd
  have e0 : s₁.heap = h0 := by rw [← hh, Bd.state]; rfl
  have N0 := Fr.nil n0
  have pre0 : Goes p e below s₁ (entryFrame m #[(.int 4)] 1) s₁ (mkF m 0 #[.val (.int 4)] []) := fun t k => castTop (own_ef_own_nbl4 m (4 : Int32)) k
  have pre1 : Goes p e below s₁ (entryFrame m #[(.int 4)] 1) s₁ (mkF m 58 #[.val (.int 4)] [(.int ((4 : Int32) <<< ((1 : Int32) &&& 31)))]) := fun t kt => pre0 t (by
      show Steps p.tables e below (s₁.setTop (mkF m 0 #[.val (.int 4)] [])) _
      refine XS.iloadN X0.here hx rfl (hb hby own_d_nbl4_0) rfl ?_
      refine XS.ifYes X0.here hx rfl (pc0 := 1) (pc' := 12) rfl (hb hby own_d_nbl4_1) rfl ((if0 _ _).trans (flt (by decide : ¬ ((4 : Int32) < (0 : Int32)))).2.1) (by decide) (by decide) ?_
      show Steps p.tables e below (s₁.setTop (mkF m 12 #[.val (.int 4)] [])) _
      refine XS.iloadN X0.here hx rfl (hb hby own_d_nbl4_12) rfl ?_
      refine X0.ldcInt hx hown (mvT hZ (hw _ (own_mG (i := 86) rfl))) (g := (mkF m 13 #[.val (.int 4)] [(.int 4)])) rfl (hb hby own_d_nbl4_13) _ ?_
      show Steps p.tables e below (s₁.setTop (mkF m 15 #[.val (.int 4)] [(.int 1073741823), (.int 4)])) _
      refine XS.icmpYes X0.here hx rfl (pc0 := 15) (pc' := 55) rfl (hb hby own_d_nbl4_15) rfl (tlt (by decide : (4 : Int32) < (1073741823 : Int32))).1 (by decide) (by decide) ?_
      refine XS.iloadN X0.here hx rfl (hb hby own_d_nbl4_55) rfl ?_
      show Steps p.tables e below (s₁.setTop (mkF m 56 #[.val (.int 4)] [(.int 4)])) _
      refine XS.iconst X0.here hx rfl (hb hby own_d_nbl4_56) ?_
      refine XS.ishl X0.here hx rfl (hb hby own_d_nbl4_57) rfl ?_
      exact kt)
  rw [show ((4 : Int32) <<< ((1 : Int32) &&& 31)) = (8 : Int32) from (by decide)] at pre1
  obtain ⟨fs, hr, hrun, hended, hW, hsame⟩ := X0.leave (v := some (.int 8)) (fun h => by rw [Bd.returns] at h; cases h)
  refine ⟨_, _, pre1 _ ?_, hrun, hended, _, _, rfl, ?_, ⟨_, rfl⟩, hW, hsame.mono (by decide) (by decide)⟩
  · show Steps p.tables e below (s₁.setTop (mkF m 58 #[.val (.int 4)] [(.int 8)])) _
    exact retI X0 hx Bd.returns (hb hby own_d_nbl4_58) hr
  · show Q_own_nbl4 Z  h0 n0 _ s₁.heap _
    rw [e0]
    exact ⟨rfl, N0, rfl⟩
theorem own_d_nbf4_0 : decode jdk_52_method_2_code 0 = .ok (.iload_n 0, 1) := by decide +kernel
theorem own_d_nbf4_1 : decode jdk_52_method_2_code 1 = .ok (.invokestatic 11, 3) := by decide +kernel
theorem own_d_nbf4_4 : decode jdk_52_method_2_code 4 = .ok (.newarray .byte, 2) := by decide +kernel
theorem own_d_nbf4_6 : decode jdk_52_method_2_code 6 = .ok (.areturn, 1) := by decide +kernel
theorem own_pn_own_nbf4 : plainName "java/lang/StringUTF16" = true := by first | (simp [plainName, overriddenIn]; done) | decide +kernel
theorem own_ef_own_nbf4 (m : MethodId) (x0 : Int32) : entryFrame m #[(.int x0)] 1 = mkF m 0 #[.val (.int x0)] [] := by first | (simp [entryFrame, mkF, argsToLocals, Value.category]; done) | rfl
def Q_own_nbf4 (Z : State)  (h0 : Heap) (n0 : Nat) (v : Option Value) (h : Heap) (L : List Loc) : Prop := ∃ (y : Addr) (ky : ClassId), v = some (.ref y) ∧ Fr n0 L ∧ Keep h0 h [] ∧ h0.size ≤ y ∧ n0 ≤ y ∧ Arv Z h y ky .byte (8 : Int32) [(.int 0), (.int 0), (.int 0), (.int 0), (.int 0), (.int 0), (.int 0), (.int 0)] (.int 0)
set_option maxRecDepth 65536 in
set_option maxHeartbeats 40000000 in
theorem own_nbf4 (l : Launch) (Z : State) (a0 : Array Value) (hw : ∀ d ∈ tables_1, d.before a0 Z = true) (ws : List Jvm.Cond)  (h0 : Heap) (n0 : Nat) (Z0 : n0 ≤ h0.size) :
    MetFree l (⟨"java/lang/StringUTF16", "newBytesFor", "(I)[B"⟩ : MethodName) (head1 (Jvm.Cond.code (⟨"java/lang/StringUTF16", "newBytesFor", "(I)[B"⟩ : MethodName) jdk_52_method_2_code 1 (some (.array .byte)) :: ws) ({ frames := 1, cells := 1, slots := 8, locals := 12 } : Room)) (fun a U => a = #[(.int 4)] ∧ Z.Warmed39 U.vm ∧ U.heap = h0) (fun _ _ _ _ _ => True) (fun _ U o U' => ∃ v L, o = .returned v ∧ Q_own_nbf4 Z  h0 n0 v U'.heap L ∧ FrameEnd U o U' L ({ frames := 1, cells := 1, slots := 8, locals := 12 } : Room).cells ({ frames := 1, cells := 1, slots := 8, locals := 12 } : Room).slots) := by
  refine MetFree.of_bodySF (plainFor_of_name own_pn_own_nbf4) hisR ?_
  intro p e s m args below meth c s₁ Bd hml0 hP hK
  obtain ⟨rfl, hZ, hh⟩ := hP
  have hx := Bd.exec
  have hby := Bd.bytes
  have hml : c.maxLocals = 1 := hml0
  have hown : s.vm.findClass "java/lang/StringUTF16" = some m.cls := findClass_of_methodNamed Bd.named
  have hnm := (name_of_methodNamed Bd.named Bd.method).1
  have X0 : Stand p l e ({ frames := 1, cells := 1, slots := 8, locals := 12 } : Room) s m #[(.int 4)] below meth c s₁ [] 0 0 := Stand.of_body Bd
  have e0 : s₁.heap = h0 := by rw [← hh, Bd.state]; rfl
  have N0 := Fr.nil n0
  have pre0 : Goes p e below s₁ (entryFrame m #[(.int 4)] 1) s₁ (mkF m 0 #[.val (.int 4)] []) := fun t k => castTop (own_ef_own_nbf4 m (4 : Int32)) k
  have pre1 : Goes p e below s₁ (entryFrame m #[(.int 4)] 1) s₁ (mkF m 1 #[.val (.int 4)] [(.int 4)]) := fun t kt => pre0 t (by
      show Steps p.tables e below (s₁.setTop (mkF m 0 #[.val (.int 4)] [])) _
      refine XS.iloadN X0.here hx rfl (hb hby own_d_nbf4_0) rfl ?_
      exact kt)
  obtain ⟨_, _, ⟨T2, L2, k2, n2⟩, -, X2, ⟨Lc2, hQ2, l2, y2, z2⟩, st2⟩ := Jvm.LawKit.callS X0 hx (y := (⟨"java/lang/StringUTF16", "newBytesLength", "(I)I"⟩ : MethodName)) hown (mvT hZ (hw _ (own_mG (i := 83) rfl))) (mvT hZ (hw _ (own_mG (i := 84) rfl))) (mvT hZ (hw _ (own_mG (i := 44) rfl))) (mvT hZ (hw _ (own_mG (i := 85) rfl))) (by decide) (backOf (W := 0) (own_nbl4 l Z a0 hw []  h0 n0 Z0 ) hZ (hw _ (own_mG (i := 85) rfl)) (hw _ (own_mG (i := 44) rfl)) (by decide) (by decide)) (g := (mkF m 1 #[.val (.int 4)] [(.int 4)])) rfl (by rw [hml]; rfl) (argsL := [(.int 4)]) (rest := []) (lenOf own_pd8 rfl) rfl (by show 2 * 0 + _ ≤ _; exact Nat.le_of_eq rfl) (hb hby own_d_nbf4_1) (fun _ _ => ⟨rfl, e0, (by decide : 0 + 0 ≤ _), (by decide : 0 + 0 ≤ _)⟩)
  dsimp only [Pt.U, Pt.locs, Pt.cells, Pt.slots] at X2 l2 y2 z2 st2 hQ2
  subst l2 y2 z2
  obtain ⟨rfl, N2q, e2⟩ := hQ2
  have N2 := Fr.app N0 N2q
  have pre3 : Goes p e below s₁ (entryFrame m #[(.int 4)] 1) T2 (mkF m 4 #[.val (.int 4)] [(.int 8)]) := fun t kt => pre1 t (st2 t kt)
  obtain ⟨T4, h4, k4, X4, e4, E4, A4, st4⟩ := newP X2 hx hZ (hw _ (own_mG (i := 20) rfl)) e2 (g := (mkF m 4 #[.val (.int 4)] [(.int 8)])) rfl (hb hby own_d_nbf4_4) rfl (by decide) (cap := 8) (by decide) (by decide) (by decide) (by decide)
  obtain ⟨b4, g4⟩ : ∃ z, z = h0.size := ⟨_, rfl⟩
  rw [← g4] at A4 st4
  have V_b4 : Arv Z h4 b4 k4 .byte (8 : Int32) [(.int 0), (.int 0), (.int 0), (.int 0), (.int 0), (.int 0), (.int 0), (.int 0)] (.int 0) := (Arv.new A4 (by decide)).pad (pad_rep [] (.int 0) 8)
  have g_b4 : n0 ≤ b4 := Nat.le_trans Z0 (Nat.le_of_eq g4.symm)
  have sz_b4 : h0.size ≤ b4 := (Nat.le_trans (Keep.refl h0 []).1 (Nat.le_of_eq g4.symm))
  have K4 : Keep h0 h4 [] := (Keep.refl h0 []).ext E4
  have pre5 : Goes p e below s₁ (entryFrame m #[(.int 4)] 1) T4 (mkF m 6 #[.val (.int 4)] [(.ref b4)]) := fun t kt => pre3 t (st4 t kt)
  obtain ⟨fs, hr, hrun, hended, hW, hsame⟩ := X4.leave (v := some (.ref b4)) (fun h => by rw [Bd.returns] at h; cases h)
  refine ⟨_, _, pre5 _ ?_, hrun, hended, _, _, rfl, ?_, ⟨_, rfl⟩, hW, hsame.mono (by decide) (by decide)⟩
  · show Steps p.tables e below (T4.setTop (mkF m 6 #[.val (.int 4)] [(.ref b4)])) _
    jvm_step X4.here [X4.here.top, hx, (hb hby own_d_nbf4_6), X4.method', Bd.returns, Value.isRef, FieldType.isReference]
    first | (intro acts; rw [hr _ acts rfl rfl rfl]) | rw [hr _ _ rfl rfl rfl]
    exact Steps.refl _
  · show Q_own_nbf4 Z  h0 n0 _ T4.heap _
    rw [e4]
    exact ⟨b4, k4, rfl, N2, K4, sz_b4, g_b4, V_b4⟩
theorem own_d_tob4_0 : decode jdk_52_method_14_code 0 = .ok (.iload_n 2, 1) := by decide +kernel
theorem own_d_tob4_1 : decode jdk_52_method_14_code 1 = .ok (.invokestatic 107, 3) := by decide +kernel
theorem own_d_tob4_4 : decode jdk_52_method_14_code 4 = .ok (.astore_n 3, 1) := by decide +kernel
theorem own_d_tob4_5 : decode jdk_52_method_14_code 5 = .ok (.iconst 0, 1) := by decide +kernel
theorem own_d_tob4_6 : decode jdk_52_method_14_code 6 = .ok (.istore 4, 2) := by decide +kernel
theorem own_d_tob4_8 : decode jdk_52_method_14_code 8 = .ok (.iload 4, 2) := by decide +kernel
theorem own_d_tob4_10 : decode jdk_52_method_14_code 10 = .ok (.iload_n 2, 1) := by decide +kernel
theorem own_d_tob4_11 : decode jdk_52_method_14_code 11 = .ok (.if_icmp .ge 21, 3) := by decide +kernel
theorem own_d_tob4_14 : decode jdk_52_method_14_code 14 = .ok (.aload_n 3, 1) := by decide +kernel
theorem own_d_tob4_15 : decode jdk_52_method_14_code 15 = .ok (.iload 4, 2) := by decide +kernel
theorem own_d_tob4_17 : decode jdk_52_method_14_code 17 = .ok (.aload_n 0, 1) := by decide +kernel
theorem own_d_tob4_18 : decode jdk_52_method_14_code 18 = .ok (.iload_n 1, 1) := by decide +kernel
theorem own_d_tob4_19 : decode jdk_52_method_14_code 19 = .ok (.caload, 1) := by decide +kernel
theorem own_d_tob4_20 : decode jdk_52_method_14_code 20 = .ok (.invokestatic 111, 3) := by decide +kernel
theorem own_d_tob4_23 : decode jdk_52_method_14_code 23 = .ok (.iinc 1 1, 3) := by decide +kernel
theorem own_d_tob4_26 : decode jdk_52_method_14_code 26 = .ok (.iinc 4 1, 3) := by decide +kernel
theorem own_d_tob4_29 : decode jdk_52_method_14_code 29 = .ok (.goto (-21), 3) := by decide +kernel
theorem own_d_tob4_32 : decode jdk_52_method_14_code 32 = .ok (.aload_n 3, 1) := by decide +kernel
theorem own_d_tob4_33 : decode jdk_52_method_14_code 33 = .ok (.areturn, 1) := by decide +kernel
theorem own_pn_own_tob4 : plainName "java/lang/StringUTF16" = true := by first | (simp [plainName, overriddenIn]; done) | decide +kernel
theorem own_ef_own_tob4 (m : MethodId) (x0 : Addr) (x1 : Int32) (x2 : Int32) : entryFrame m #[(.ref x0), (.int x1), (.int x2)] 5 = mkF m 0 #[.val (.ref x0), .val (.int x1), .val (.int x2), .unset, .unset] [] := by first | (simp [entryFrame, mkF, argsToLocals, Value.category]; done) | rfl
def Q_own_tob4 (Z : State) (ac : Addr) (kc : ClassId) (v0 : Int32) (v1 : Int32) (v2 : Int32) (v3 : Int32) (cs : Int32) (fm : Value) (h0 : Heap) (n0 : Nat) (v : Option Value) (h : Heap) (L : List Loc) : Prop := ∃ (y : Addr) (ky : ClassId), v = some (.ref y) ∧ Fr n0 L ∧ Keep h0 h [] ∧ h0.size ≤ y ∧ n0 ≤ y ∧ Arv Z h y ky .byte (8 : Int32) [(.int (own_B0 v0)), (.int (own_B1 v0)), (.int (own_B0 v1)), (.int (own_B1 v1)), (.int (own_B0 v2)), (.int (own_B1 v2)), (.int (own_B0 v3)), (.int (own_B1 v3))] (.int 0)
set_option maxRecDepth 65536 in
set_option maxHeartbeats 40000000 in
theorem own_tob4 (l : Launch) (Z : State) (a0 : Array Value) (hw : ∀ d ∈ tables_1, d.before a0 Z = true) (ws : List Jvm.Cond) (ac : Addr) (kc : ClassId) (v0 : Int32) (v1 : Int32) (v2 : Int32) (v3 : Int32) (cs : Int32) (fm : Value) (h0 : Heap) (n0 : Nat) (Z0 : n0 ≤ h0.size) (V_ac : Arv Z h0 ac kc .char (4 : Int32) [(.int v0), (.int v1), (.int v2), (.int v3)] (.int 0)) (hst : own_ST Z cs fm) (O0 : Old Z n0 h0) :
    MetFree l (⟨"java/lang/StringUTF16", "toBytes", "([CII)[B"⟩ : MethodName) (head1 (Jvm.Cond.code (⟨"java/lang/StringUTF16", "toBytes", "([CII)[B"⟩ : MethodName) jdk_52_method_14_code 5 (some (.array .byte)) :: ws) ({ frames := 2, cells := 1, slots := 8, locals := 24 } : Room)) (fun a U => a = #[(.ref ac), (.int 0), (.int 4)] ∧ Z.Warmed39 U.vm ∧ U.heap = h0) (fun _ _ _ _ _ => True) (fun _ U o U' => ∃ v L, o = .returned v ∧ Q_own_tob4 Z ac kc v0 v1 v2 v3 cs fm h0 n0 v U'.heap L ∧ FrameEnd U o U' L ({ frames := 2, cells := 1, slots := 8, locals := 24 } : Room).cells ({ frames := 2, cells := 1, slots := 8, locals := 24 } : Room).slots) := by
  refine MetFree.of_bodySF (plainFor_of_name own_pn_own_tob4) hisR ?_
  intro p e s m args below meth c s₁ Bd hml0 hP hK
  obtain ⟨rfl, hZ, hh⟩ := hP
  have hx := Bd.exec
  have hby := Bd.bytes
  have hml : c.maxLocals = 5 := hml0
  have hown : s.vm.findClass "java/lang/StringUTF16" = some m.cls := findClass_of_methodNamed Bd.named
  have hnm := (name_of_methodNamed Bd.named Bd.method).1
  have X0 : Stand p l e ({ frames := 2, cells := 1, slots := 8, locals := 24 } : Room) s m #[(.ref ac), (.int 0), (.int 4)] below meth c s₁ [] 0 0 := Stand.of_body Bd
  have e0 : s₁.heap = h0 := by rw [← hh, Bd.state]; rfl
  have N0 := Fr.nil n0
  have pre0 : Goes p e below s₁ (entryFrame m #[(.ref ac), (.int 0), (.int 4)] 5) s₁ (mkF m 0 #[.val (.ref ac), .val (.int 0), .val (.int 4), .unset, .unset] []) := fun t k => castTop (own_ef_own_tob4 m ac (0 : Int32) (4 : Int32)) k
  have pre1 : Goes p e below s₁ (entryFrame m #[(.ref ac), (.int 0), (.int 4)] 5) s₁ (mkF m 1 #[.val (.ref ac), .val (.int 0), .val (.int 4), .unset, .unset] [(.int 4)]) := fun t kt => pre0 t (by
      show Steps p.tables e below (s₁.setTop (mkF m 0 #[.val (.ref ac), .val (.int 0), .val (.int 4), .unset, .unset] [])) _
      refine XS.iloadN X0.here hx rfl (hb hby own_d_tob4_0) rfl ?_
      exact kt)
  obtain ⟨_, _, ⟨T2, L2, k2, n2⟩, -, X2, ⟨Lc2, hQ2, l2, y2, z2⟩, st2⟩ := Jvm.LawKit.callS X0 hx (y := (⟨"java/lang/StringUTF16", "newBytesFor", "(I)[B"⟩ : MethodName)) hown (mvT hZ (hw _ (own_mG (i := 80) rfl))) (mvT hZ (hw _ (own_mG (i := 81) rfl))) (mvT hZ (hw _ (own_mG (i := 44) rfl))) (mvT hZ (hw _ (own_mG (i := 82) rfl))) (by decide) (backOf (W := 0) (own_nbf4 l Z a0 hw []  h0 n0 Z0 ) hZ (hw _ (own_mG (i := 82) rfl)) (hw _ (own_mG (i := 44) rfl)) (by decide) (by decide)) (g := (mkF m 1 #[.val (.ref ac), .val (.int 0), .val (.int 4), .unset, .unset] [(.int 4)])) rfl (by rw [hml]; rfl) (argsL := [(.int 4)]) (rest := []) (lenOf own_pd9 rfl) rfl (by show 2 * 0 + _ ≤ _; exact Nat.le_of_eq rfl) (hb hby own_d_tob4_1) (fun _ _ => ⟨rfl, e0, (by decide : 0 + 1 ≤ _), (by decide : 0 + 8 ≤ _)⟩)
  dsimp only [Pt.U, Pt.locs, Pt.cells, Pt.slots] at X2 l2 y2 z2 st2 hQ2
  subst l2 y2 z2
  obtain ⟨yy2, ky2, rfl, N2q, K2q, zy2, gy2, Vy2⟩ := hQ2
  have N2 := Fr.app N0 N2q
  have KC2 : Keep h0 T2.heap [] := (Keep.refl h0 []).trans K2q all0
  have pre3 : Goes p e below s₁ (entryFrame m #[(.ref ac), (.int 0), (.int 4)] 5) T2 (mkF m 4 #[.val (.ref ac), .val (.int 0), .val (.int 4), .unset, .unset] [(.ref yy2)]) := fun t kt => pre1 t (st2 t kt)
  have sz_yy2 := zy2
  have g_yy2 := gy2
  have pre4 : Goes p e below s₁ (entryFrame m #[(.ref ac), (.int 0), (.int 4)] 5) T2 (mkF m 19 #[.val (.ref ac), .val (.int 0), .val (.int 4), .val (.ref yy2), .val (.int 0)] [(.int 0), (.ref ac), (.int 0), (.ref yy2)]) := fun t kt => pre3 t (by
      show Steps p.tables e below (T2.setTop (mkF m 4 #[.val (.ref ac), .val (.int 0), .val (.int 4), .unset, .unset] [(.ref yy2)])) _
      refine XS.astoreN X2.here hx rfl (hb hby own_d_tob4_4) rfl rfl (l' := #[.val (.ref ac), .val (.int 0), .val (.int 4), .val (.ref yy2), .unset]) rfl ?_
      refine XS.iconst X2.here hx rfl (hb hby own_d_tob4_5) ?_
      show Steps p.tables e below (T2.setTop (mkF m 6 #[.val (.ref ac), .val (.int 0), .val (.int 4), .val (.ref yy2), .unset] [(.int 0)])) _
      refine XS.istore X2.here hx rfl (hb hby own_d_tob4_6) rfl (l' := #[.val (.ref ac), .val (.int 0), .val (.int 4), .val (.ref yy2), .val (.int 0)]) rfl ?_
      refine XS.iload X2.here hx rfl (hb hby own_d_tob4_8) rfl ?_
      show Steps p.tables e below (T2.setTop (mkF m 10 #[.val (.ref ac), .val (.int 0), .val (.int 4), .val (.ref yy2), .val (.int 0)] [(.int 0)])) _
      refine XS.iloadN X2.here hx rfl (hb hby own_d_tob4_10) rfl ?_
      refine XS.icmpNo X2.here hx rfl (hb hby own_d_tob4_11) rfl (tlt (by decide : (0 : Int32) < (4 : Int32))).2.1 ?_
      show Steps p.tables e below (T2.setTop (mkF m 14 #[.val (.ref ac), .val (.int 0), .val (.int 4), .val (.ref yy2), .val (.int 0)] [])) _
      refine XS.aloadN X2.here hx rfl (hb hby own_d_tob4_14) rfl rfl ?_
      refine XS.iload X2.here hx rfl (hb hby own_d_tob4_15) rfl ?_
      show Steps p.tables e below (T2.setTop (mkF m 17 #[.val (.ref ac), .val (.int 0), .val (.int 4), .val (.ref yy2), .val (.int 0)] [(.int 0), (.ref yy2)])) _
      refine XS.aloadN X2.here hx rfl (hb hby own_d_tob4_17) rfl rfl ?_
      refine XS.iloadN X2.here hx rfl (hb hby own_d_tob4_18) rfl ?_
      exact kt)
  obtain ⟨cl5, Ar5, q5, S5, N_5, H5, G5⟩ := (id ((V_ac.keep K2q nin0)))
  have hin5 : ¬ ((0 : Int32) < 0 ∨ cl5.slots.size ≤ ((0 : Int32)).toNatClampNeg) := inb_of S5 ⟨by decide, by decide⟩
  have hat5 : cl5.slots[((0 : Int32)).toNatClampNeg]? = some (.int v0) := Has.at H5 hin5 rfl
  have pre6 : Goes p e below s₁ (entryFrame m #[(.ref ac), (.int 0), (.int 4)] 5) T2 (mkF m 20 #[.val (.ref ac), .val (.int 0), .val (.int 4), .val (.ref yy2), .val (.int 0)] [(.int v0), (.int 0), (.ref yy2)]) := fun t kt => pre4 t (by
      show Steps p.tables e below (T2.setTop (mkF m 19 #[.val (.ref ac), .val (.int 0), .val (.int 4), .val (.ref yy2), .val (.int 0)] [(.int 0), (.ref ac), (.int 0), (.ref yy2)])) _
      refine X2.caload hx (j := (0 : Int32)) (v := (.int v0)) (by (try rw [rfl]); exact Ar5.1) (State.isArrayOf_alike hZ.alike Ar5.2.1) Ar5.2.2 hin5 hat5 (g := (mkF m 19 #[.val (.ref ac), .val (.int 0), .val (.int 4), .val (.ref yy2), .val (.int 0)] [(.int 0), (.ref ac), (.int 0), (.ref yy2)])) rfl rfl (hb hby own_d_tob4_19) _ ?_
      exact kt)
  obtain ⟨_, _, ⟨T7, L7, k7, n7⟩, -, X7, ⟨Lc7, hQ7, l7, y7, z7⟩, st7⟩ := Jvm.LawKit.callS X2 hx (y := (⟨"java/lang/StringUTF16", "putChar", "([BII)V"⟩ : MethodName)) hown (mvT hZ (hw _ (own_mG (i := 87) rfl))) (mvT hZ (hw _ (own_mG (i := 88) rfl))) (mvT hZ (hw _ (own_mG (i := 44) rfl))) (mvT hZ (hw _ (own_mG (i := 89) rfl))) (by decide) (backOf (W := 0) (own_pch l Z a0 hw [] yy2 ky2 (8 : Int32) [(.int 0), (.int 0), (.int 0), (.int 0), (.int 0), (.int 0), (.int 0), (.int 0)] (0 : Int32) v0 cs fm T2.heap n0 (Nat.le_trans Z0 K2q.1) Vy2 (by decide) (by show _ < 8; decide) (by decide) (by show _ < 8; decide) g_yy2 hst (O0.keep K2q all0)) hZ (hw _ (own_mG (i := 89) rfl)) (hw _ (own_mG (i := 44) rfl)) (by decide) (by decide)) (g := (mkF m 20 #[.val (.ref ac), .val (.int 0), .val (.int 4), .val (.ref yy2), .val (.int 0)] [(.int v0), (.int 0), (.ref yy2)])) rfl (by rw [hml]; rfl) (argsL := [(.ref yy2), (.int 0), (.int v0)]) (rest := []) (lenOf own_pd10 rfl) rfl (by show 2 * 0 + _ ≤ _; exact Nat.le_of_eq rfl) (hb hby own_d_tob4_20) (fun _ _ => ⟨rfl, rfl, (by decide : 1 + 0 ≤ _), (by decide : 8 + 0 ≤ _)⟩)
  dsimp only [Pt.U, Pt.locs, Pt.cells, Pt.slots] at X7 l7 y7 z7 st7 hQ7
  subst l7 y7 z7
  obtain ⟨rfl, N7q, K7q, Vz7⟩ := hQ7
  have N7 := Fr.app N2 N7q
  have KC7 : Keep h0 T7.heap [] := KC2.trans K7q (allS (Or.inr sz_yy2) all0)
  have pre8 : Goes p e below s₁ (entryFrame m #[(.ref ac), (.int 0), (.int 4)] 5) T7 (mkF m 23 #[.val (.ref ac), .val (.int 0), .val (.int 4), .val (.ref yy2), .val (.int 0)] []) := fun t kt => pre6 t (st7 t kt)
  have Vw7 : Arv Z T7.heap yy2 ky2 .byte (8 : Int32) [(.int (own_B0 v0)), (.int (own_B1 v0)), (.int 0), (.int 0), (.int 0), (.int 0), (.int 0), (.int 0)] (.int 0) := Vz7
  have pre9 : Goes p e below s₁ (entryFrame m #[(.ref ac), (.int 0), (.int 4)] 5) T7 (mkF m 19 #[.val (.ref ac), .val (.int 1), .val (.int 4), .val (.ref yy2), .val (.int 1)] [(.int 1), (.ref ac), (.int 1), (.ref yy2)]) := fun t kt => pre8 t (by
      show Steps p.tables e below (T7.setTop (mkF m 23 #[.val (.ref ac), .val (.int 0), .val (.int 4), .val (.ref yy2), .val (.int 0)] [])) _
      refine XS.iinc X7.here hx rfl (hb hby own_d_tob4_23) rfl (l' := #[.val (.ref ac), .val (.int 1), .val (.int 4), .val (.ref yy2), .val (.int 0)]) rfl ?_
      refine XS.iinc X7.here hx rfl (hb hby own_d_tob4_26) rfl (l' := #[.val (.ref ac), .val (.int 1), .val (.int 4), .val (.ref yy2), .val (.int 1)]) rfl ?_
      show Steps p.tables e below (T7.setTop (mkF m 29 #[.val (.ref ac), .val (.int 1), .val (.int 4), .val (.ref yy2), .val (.int 1)] [])) _
      refine XS.goto X7.here hx rfl (pc0 := 29) (pc' := 8) rfl (hb hby own_d_tob4_29) (by decide) (by decide) ?_
      refine XS.iload X7.here hx rfl (hb hby own_d_tob4_8) rfl ?_
      show Steps p.tables e below (T7.setTop (mkF m 10 #[.val (.ref ac), .val (.int 1), .val (.int 4), .val (.ref yy2), .val (.int 1)] [(.int 1)])) _
      refine XS.iloadN X7.here hx rfl (hb hby own_d_tob4_10) rfl ?_
      refine XS.icmpNo X7.here hx rfl (hb hby own_d_tob4_11) rfl (tlt (by decide : (1 : Int32) < (4 : Int32))).2.1 ?_
      show Steps p.tables e below (T7.setTop (mkF m 14 #[.val (.ref ac), .val (.int 1), .val (.int 4), .val (.ref yy2), .val (.int 1)] [])) _
      refine XS.aloadN X7.here hx rfl (hb hby own_d_tob4_14) rfl rfl ?_
      refine XS.iload X7.here hx rfl (hb hby own_d_tob4_15) rfl ?_
      show Steps p.tables e below (T7.setTop (mkF m 17 #[.val (.ref ac), .val (.int 1), .val (.int 4), .val (.ref yy2), .val (.int 1)] [(.int 1), (.ref yy2)])) _
      refine XS.aloadN X7.here hx rfl (hb hby own_d_tob4_17) rfl rfl ?_
      refine XS.iloadN X7.here hx rfl (hb hby own_d_tob4_18) rfl ?_
      exact kt)
  obtain ⟨cl10, Ar10, q10, S10, N_10, H10, G10⟩ := (id (((V_ac.keep K2q nin0).keep K7q (ninS (Nat.ne_of_lt (Nat.lt_of_lt_of_le V_ac.lt zy2)) nin0))))
  have hin10 : ¬ ((1 : Int32) < 0 ∨ cl10.slots.size ≤ ((1 : Int32)).toNatClampNeg) := inb_of S10 ⟨by decide, by decide⟩
  have hat10 : cl10.slots[((1 : Int32)).toNatClampNeg]? = some (.int v1) := Has.at H10 hin10 rfl
  have pre11 : Goes p e below s₁ (entryFrame m #[(.ref ac), (.int 0), (.int 4)] 5) T7 (mkF m 20 #[.val (.ref ac), .val (.int 1), .val (.int 4), .val (.ref yy2), .val (.int 1)] [(.int v1), (.int 1), (.ref yy2)]) := fun t kt => pre9 t (by
      show Steps p.tables e below (T7.setTop (mkF m 19 #[.val (.ref ac), .val (.int 1), .val (.int 4), .val (.ref yy2), .val (.int 1)] [(.int 1), (.ref ac), (.int 1), (.ref yy2)])) _
      refine X7.caload hx (j := (1 : Int32)) (v := (.int v1)) (by (try rw [rfl]); exact Ar10.1) (State.isArrayOf_alike hZ.alike Ar10.2.1) Ar10.2.2 hin10 hat10 (g := (mkF m 19 #[.val (.ref ac), .val (.int 1), .val (.int 4), .val (.ref yy2), .val (.int 1)] [(.int 1), (.ref ac), (.int 1), (.ref yy2)])) rfl rfl (hb hby own_d_tob4_19) _ ?_
      exact kt)
  obtain ⟨_, _, ⟨T12, L12, k12, n12⟩, -, X12, ⟨Lc12, hQ12, l12, y12, z12⟩, st12⟩ := Jvm.LawKit.callS X7 hx (y := (⟨"java/lang/StringUTF16", "putChar", "([BII)V"⟩ : MethodName)) hown (mvT hZ (hw _ (own_mG (i := 87) rfl))) (mvT hZ (hw _ (own_mG (i := 88) rfl))) (mvT hZ (hw _ (own_mG (i := 44) rfl))) (mvT hZ (hw _ (own_mG (i := 89) rfl))) (by decide) (backOf (W := 0) (own_pch l Z a0 hw [] yy2 ky2 (8 : Int32) [(.int (own_B0 v0)), (.int (own_B1 v0)), (.int 0), (.int 0), (.int 0), (.int 0), (.int 0), (.int 0)] (1 : Int32) v1 cs fm T7.heap n0 (Nat.le_trans (Nat.le_trans Z0 K2q.1) K7q.1) Vw7 (by decide) (by show _ < 8; decide) (by decide) (by show _ < 8; decide) g_yy2 hst ((O0.keep K2q all0).keep K7q (allS g_yy2 all0))) hZ (hw _ (own_mG (i := 89) rfl)) (hw _ (own_mG (i := 44) rfl)) (by decide) (by decide)) (g := (mkF m 20 #[.val (.ref ac), .val (.int 1), .val (.int 4), .val (.ref yy2), .val (.int 1)] [(.int v1), (.int 1), (.ref yy2)])) rfl (by rw [hml]; rfl) (argsL := [(.ref yy2), (.int 1), (.int v1)]) (rest := []) (lenOf own_pd10 rfl) rfl (by show 2 * 0 + _ ≤ _; exact Nat.le_of_eq rfl) (hb hby own_d_tob4_20) (fun _ _ => ⟨rfl, rfl, (by decide : 1 + 0 ≤ _), (by decide : 8 + 0 ≤ _)⟩)
  dsimp only [Pt.U, Pt.locs, Pt.cells, Pt.slots] at X12 l12 y12 z12 st12 hQ12
  subst l12 y12 z12
  obtain ⟨rfl, N12q, K12q, Vz12⟩ := hQ12
  have N12 := Fr.app N7 N12q
  have KC12 : Keep h0 T12.heap [] := KC7.trans K12q (allS (Or.inr sz_yy2) all0)
  have pre13 : Goes p e below s₁ (entryFrame m #[(.ref ac), (.int 0), (.int 4)] 5) T12 (mkF m 23 #[.val (.ref ac), .val (.int 1), .val (.int 4), .val (.ref yy2), .val (.int 1)] []) := fun t kt => pre11 t (st12 t kt)
  have Vw12 : Arv Z T12.heap yy2 ky2 .byte (8 : Int32) [(.int (own_B0 v0)), (.int (own_B1 v0)), (.int (own_B0 v1)), (.int (own_B1 v1)), (.int 0), (.int 0), (.int 0), (.int 0)] (.int 0) := Vz12
  have pre14 : Goes p e below s₁ (entryFrame m #[(.ref ac), (.int 0), (.int 4)] 5) T12 (mkF m 19 #[.val (.ref ac), .val (.int 2), .val (.int 4), .val (.ref yy2), .val (.int 2)] [(.int 2), (.ref ac), (.int 2), (.ref yy2)]) := fun t kt => pre13 t (by
      show Steps p.tables e below (T12.setTop (mkF m 23 #[.val (.ref ac), .val (.int 1), .val (.int 4), .val (.ref yy2), .val (.int 1)] [])) _
      refine XS.iinc X12.here hx rfl (hb hby own_d_tob4_23) rfl (l' := #[.val (.ref ac), .val (.int 2), .val (.int 4), .val (.ref yy2), .val (.int 1)]) rfl ?_
      refine XS.iinc X12.here hx rfl (hb hby own_d_tob4_26) rfl (l' := #[.val (.ref ac), .val (.int 2), .val (.int 4), .val (.ref yy2), .val (.int 2)]) rfl ?_
      show Steps p.tables e below (T12.setTop (mkF m 29 #[.val (.ref ac), .val (.int 2), .val (.int 4), .val (.ref yy2), .val (.int 2)] [])) _
      refine XS.goto X12.here hx rfl (pc0 := 29) (pc' := 8) rfl (hb hby own_d_tob4_29) (by decide) (by decide) ?_
      refine XS.iload X12.here hx rfl (hb hby own_d_tob4_8) rfl ?_
      show Steps p.tables e below (T12.setTop (mkF m 10 #[.val (.ref ac), .val (.int 2), .val (.int 4), .val (.ref yy2), .val (.int 2)] [(.int 2)])) _
      refine XS.iloadN X12.here hx rfl (hb hby own_d_tob4_10) rfl ?_
      refine XS.icmpNo X12.here hx rfl (hb hby own_d_tob4_11) rfl (tlt (by decide : (2 : Int32) < (4 : Int32))).2.1 ?_
      show Steps p.tables e below (T12.setTop (mkF m 14 #[.val (.ref ac), .val (.int 2), .val (.int 4), .val (.ref yy2), .val (.int 2)] [])) _
      refine XS.aloadN X12.here hx rfl (hb hby own_d_tob4_14) rfl rfl ?_
      refine XS.iload X12.here hx rfl (hb hby own_d_tob4_15) rfl ?_
      show Steps p.tables e below (T12.setTop (mkF m 17 #[.val (.ref ac), .val (.int 2), .val (.int 4), .val (.ref yy2), .val (.int 2)] [(.int 2), (.ref yy2)])) _
      refine XS.aloadN X12.here hx rfl (hb hby own_d_tob4_17) rfl rfl ?_
      refine XS.iloadN X12.here hx rfl (hb hby own_d_tob4_18) rfl ?_
      exact kt)
  obtain ⟨cl15, Ar15, q15, S15, N_15, H15, G15⟩ := (id ((((V_ac.keep K2q nin0).keep K7q (ninS (Nat.ne_of_lt (Nat.lt_of_lt_of_le V_ac.lt zy2)) nin0)).keep K12q (ninS (Nat.ne_of_lt (Nat.lt_of_lt_of_le V_ac.lt zy2)) nin0))))
  have hin15 : ¬ ((2 : Int32) < 0 ∨ cl15.slots.size ≤ ((2 : Int32)).toNatClampNeg) := inb_of S15 ⟨by decide, by decide⟩
  have hat15 : cl15.slots[((2 : Int32)).toNatClampNeg]? = some (.int v2) := Has.at H15 hin15 rfl
  have pre16 : Goes p e below s₁ (entryFrame m #[(.ref ac), (.int 0), (.int 4)] 5) T12 (mkF m 20 #[.val (.ref ac), .val (.int 2), .val (.int 4), .val (.ref yy2), .val (.int 2)] [(.int v2), (.int 2), (.ref yy2)]) := fun t kt => pre14 t (by
      show Steps p.tables e below (T12.setTop (mkF m 19 #[.val (.ref ac), .val (.int 2), .val (.int 4), .val (.ref yy2), .val (.int 2)] [(.int 2), (.ref ac), (.int 2), (.ref yy2)])) _
      refine X12.caload hx (j := (2 : Int32)) (v := (.int v2)) (by (try rw [rfl]); exact Ar15.1) (State.isArrayOf_alike hZ.alike Ar15.2.1) Ar15.2.2 hin15 hat15 (g := (mkF m 19 #[.val (.ref ac), .val (.int 2), .val (.int 4), .val (.ref yy2), .val (.int 2)] [(.int 2), (.ref ac), (.int 2), (.ref yy2)])) rfl rfl (hb hby own_d_tob4_19) _ ?_
      exact kt)
  obtain ⟨_, _, ⟨T17, L17, k17, n17⟩, -, X17, ⟨Lc17, hQ17, l17, y17, z17⟩, st17⟩ := Jvm.LawKit.callS X12 hx (y := (⟨"java/lang/StringUTF16", "putChar", "([BII)V"⟩ : MethodName)) hown (mvT hZ (hw _ (own_mG (i := 87) rfl))) (mvT hZ (hw _ (own_mG (i := 88) rfl))) (mvT hZ (hw _ (own_mG (i := 44) rfl))) (mvT hZ (hw _ (own_mG (i := 89) rfl))) (by decide) (backOf (W := 0) (own_pch l Z a0 hw [] yy2 ky2 (8 : Int32) [(.int (own_B0 v0)), (.int (own_B1 v0)), (.int (own_B0 v1)), (.int (own_B1 v1)), (.int 0), (.int 0), (.int 0), (.int 0)] (2 : Int32) v2 cs fm T12.heap n0 (Nat.le_trans (Nat.le_trans (Nat.le_trans Z0 K2q.1) K7q.1) K12q.1) Vw12 (by decide) (by show _ < 8; decide) (by decide) (by show _ < 8; decide) g_yy2 hst (((O0.keep K2q all0).keep K7q (allS g_yy2 all0)).keep K12q (allS g_yy2 all0))) hZ (hw _ (own_mG (i := 89) rfl)) (hw _ (own_mG (i := 44) rfl)) (by decide) (by decide)) (g := (mkF m 20 #[.val (.ref ac), .val (.int 2), .val (.int 4), .val (.ref yy2), .val (.int 2)] [(.int v2), (.int 2), (.ref yy2)])) rfl (by rw [hml]; rfl) (argsL := [(.ref yy2), (.int 2), (.int v2)]) (rest := []) (lenOf own_pd10 rfl) rfl (by show 2 * 0 + _ ≤ _; exact Nat.le_of_eq rfl) (hb hby own_d_tob4_20) (fun _ _ => ⟨rfl, rfl, (by decide : 1 + 0 ≤ _), (by decide : 8 + 0 ≤ _)⟩)
  dsimp only [Pt.U, Pt.locs, Pt.cells, Pt.slots] at X17 l17 y17 z17 st17 hQ17
  subst l17 y17 z17
  obtain ⟨rfl, N17q, K17q, Vz17⟩ := hQ17
  have N17 := Fr.app N12 N17q
  have KC17 : Keep h0 T17.heap [] := KC12.trans K17q (allS (Or.inr sz_yy2) all0)
  have pre18 : Goes p e below s₁ (entryFrame m #[(.ref ac), (.int 0), (.int 4)] 5) T17 (mkF m 23 #[.val (.ref ac), .val (.int 2), .val (.int 4), .val (.ref yy2), .val (.int 2)] []) := fun t kt => pre16 t (st17 t kt)
  have Vw17 : Arv Z T17.heap yy2 ky2 .byte (8 : Int32) [(.int (own_B0 v0)), (.int (own_B1 v0)), (.int (own_B0 v1)), (.int (own_B1 v1)), (.int (own_B0 v2)), (.int (own_B1 v2)), (.int 0), (.int 0)] (.int 0) := Vz17
  have pre19 : Goes p e below s₁ (entryFrame m #[(.ref ac), (.int 0), (.int 4)] 5) T17 (mkF m 19 #[.val (.ref ac), .val (.int 3), .val (.int 4), .val (.ref yy2), .val (.int 3)] [(.int 3), (.ref ac), (.int 3), (.ref yy2)]) := fun t kt => pre18 t (by
      show Steps p.tables e below (T17.setTop (mkF m 23 #[.val (.ref ac), .val (.int 2), .val (.int 4), .val (.ref yy2), .val (.int 2)] [])) _
      refine XS.iinc X17.here hx rfl (hb hby own_d_tob4_23) rfl (l' := #[.val (.ref ac), .val (.int 3), .val (.int 4), .val (.ref yy2), .val (.int 2)]) rfl ?_
      refine XS.iinc X17.here hx rfl (hb hby own_d_tob4_26) rfl (l' := #[.val (.ref ac), .val (.int 3), .val (.int 4), .val (.ref yy2), .val (.int 3)]) rfl ?_
      show Steps p.tables e below (T17.setTop (mkF m 29 #[.val (.ref ac), .val (.int 3), .val (.int 4), .val (.ref yy2), .val (.int 3)] [])) _
      refine XS.goto X17.here hx rfl (pc0 := 29) (pc' := 8) rfl (hb hby own_d_tob4_29) (by decide) (by decide) ?_
      refine XS.iload X17.here hx rfl (hb hby own_d_tob4_8) rfl ?_
      show Steps p.tables e below (T17.setTop (mkF m 10 #[.val (.ref ac), .val (.int 3), .val (.int 4), .val (.ref yy2), .val (.int 3)] [(.int 3)])) _
      refine XS.iloadN X17.here hx rfl (hb hby own_d_tob4_10) rfl ?_
      refine XS.icmpNo X17.here hx rfl (hb hby own_d_tob4_11) rfl (tlt (by decide : (3 : Int32) < (4 : Int32))).2.1 ?_
      show Steps p.tables e below (T17.setTop (mkF m 14 #[.val (.ref ac), .val (.int 3), .val (.int 4), .val (.ref yy2), .val (.int 3)] [])) _
      refine XS.aloadN X17.here hx rfl (hb hby own_d_tob4_14) rfl rfl ?_
      refine XS.iload X17.here hx rfl (hb hby own_d_tob4_15) rfl ?_
      show Steps p.tables e below (T17.setTop (mkF m 17 #[.val (.ref ac), .val (.int 3), .val (.int 4), .val (.ref yy2), .val (.int 3)] [(.int 3), (.ref yy2)])) _
      refine XS.aloadN X17.here hx rfl (hb hby own_d_tob4_17) rfl rfl ?_
      refine XS.iloadN X17.here hx rfl (hb hby own_d_tob4_18) rfl ?_
      exact kt)
  obtain ⟨cl20, Ar20, q20, S20, N_20, H20, G20⟩ := (id (((((V_ac.keep K2q nin0).keep K7q (ninS (Nat.ne_of_lt (Nat.lt_of_lt_of_le V_ac.lt zy2)) nin0)).keep K12q (ninS (Nat.ne_of_lt (Nat.lt_of_lt_of_le V_ac.lt zy2)) nin0)).keep K17q (ninS (Nat.ne_of_lt (Nat.lt_of_lt_of_le V_ac.lt zy2)) nin0))))
  have hin20 : ¬ ((3 : Int32) < 0 ∨ cl20.slots.size ≤ ((3 : Int32)).toNatClampNeg) := inb_of S20 ⟨by decide, by decide⟩
  have hat20 : cl20.slots[((3 : Int32)).toNatClampNeg]? = some (.int v3) := Has.at H20 hin20 rfl
  have pre21 : Goes p e below s₁ (entryFrame m #[(.ref ac), (.int 0), (.int 4)] 5) T17 (mkF m 20 #[.val (.ref ac), .val (.int 3), .val (.int 4), .val (.ref yy2), .val (.int 3)] [(.int v3), (.int 3), (.ref yy2)]) := fun t kt => pre19 t (by
      show Steps p.tables e below (T17.setTop (mkF m 19 #[.val (.ref ac), .val (.int 3), .val (.int 4), .val (.ref yy2), .val (.int 3)] [(.int 3), (.ref ac), (.int 3), (.ref yy2)])) _
      refine X17.caload hx (j := (3 : Int32)) (v := (.int v3)) (by (try rw [rfl]); exact Ar20.1) (State.isArrayOf_alike hZ.alike Ar20.2.1) Ar20.2.2 hin20 hat20 (g := (mkF m 19 #[.val (.ref ac), .val (.int 3), .val (.int 4), .val (.ref yy2), .val (.int 3)] [(.int 3), (.ref ac), (.int 3), (.ref yy2)])) rfl rfl (hb hby own_d_tob4_19) _ ?_
      exact kt)
  obtain ⟨_, _, ⟨T22, L22, k22, n22⟩, -, X22, ⟨Lc22, hQ22, l22, y22, z22⟩, st22⟩ := Jvm.LawKit.callS X17 hx (y := (⟨"java/lang/StringUTF16", "putChar", "([BII)V"⟩ : MethodName)) hown (mvT hZ (hw _ (own_mG (i := 87) rfl))) (mvT hZ (hw _ (own_mG (i := 88) rfl))) (mvT hZ (hw _ (own_mG (i := 44) rfl))) (mvT hZ (hw _ (own_mG (i := 89) rfl))) (by decide) (backOf (W := 0) (own_pch l Z a0 hw [] yy2 ky2 (8 : Int32) [(.int (own_B0 v0)), (.int (own_B1 v0)), (.int (own_B0 v1)), (.int (own_B1 v1)), (.int (own_B0 v2)), (.int (own_B1 v2)), (.int 0), (.int 0)] (3 : Int32) v3 cs fm T17.heap n0 (Nat.le_trans (Nat.le_trans (Nat.le_trans (Nat.le_trans Z0 K2q.1) K7q.1) K12q.1) K17q.1) Vw17 (by decide) (by show _ < 8; decide) (by decide) (by show _ < 8; decide) g_yy2 hst ((((O0.keep K2q all0).keep K7q (allS g_yy2 all0)).keep K12q (allS g_yy2 all0)).keep K17q (allS g_yy2 all0))) hZ (hw _ (own_mG (i := 89) rfl)) (hw _ (own_mG (i := 44) rfl)) (by decide) (by decide)) (g := (mkF m 20 #[.val (.ref ac), .val (.int 3), .val (.int 4), .val (.ref yy2), .val (.int 3)] [(.int v3), (.int 3), (.ref yy2)])) rfl (by rw [hml]; rfl) (argsL := [(.ref yy2), (.int 3), (.int v3)]) (rest := []) (lenOf own_pd10 rfl) rfl (by show 2 * 0 + _ ≤ _; exact Nat.le_of_eq rfl) (hb hby own_d_tob4_20) (fun _ _ => ⟨rfl, rfl, (by decide : 1 + 0 ≤ _), (by decide : 8 + 0 ≤ _)⟩)
  dsimp only [Pt.U, Pt.locs, Pt.cells, Pt.slots] at X22 l22 y22 z22 st22 hQ22
  subst l22 y22 z22
  obtain ⟨rfl, N22q, K22q, Vz22⟩ := hQ22
  have N22 := Fr.app N17 N22q
  have KC22 : Keep h0 T22.heap [] := KC17.trans K22q (allS (Or.inr sz_yy2) all0)
  have pre23 : Goes p e below s₁ (entryFrame m #[(.ref ac), (.int 0), (.int 4)] 5) T22 (mkF m 23 #[.val (.ref ac), .val (.int 3), .val (.int 4), .val (.ref yy2), .val (.int 3)] []) := fun t kt => pre21 t (st22 t kt)
  have Vw22 : Arv Z T22.heap yy2 ky2 .byte (8 : Int32) [(.int (own_B0 v0)), (.int (own_B1 v0)), (.int (own_B0 v1)), (.int (own_B1 v1)), (.int (own_B0 v2)), (.int (own_B1 v2)), (.int (own_B0 v3)), (.int (own_B1 v3))] (.int 0) := Vz22
  have pre24 : Goes p e below s₁ (entryFrame m #[(.ref ac), (.int 0), (.int 4)] 5) T22 (mkF m 33 #[.val (.ref ac), .val (.int 4), .val (.int 4), .val (.ref yy2), .val (.int 4)] [(.ref yy2)]) := fun t kt => pre23 t (by
      show Steps p.tables e below (T22.setTop (mkF m 23 #[.val (.ref ac), .val (.int 3), .val (.int 4), .val (.ref yy2), .val (.int 3)] [])) _
      refine XS.iinc X22.here hx rfl (hb hby own_d_tob4_23) rfl (l' := #[.val (.ref ac), .val (.int 4), .val (.int 4), .val (.ref yy2), .val (.int 3)]) rfl ?_
      refine XS.iinc X22.here hx rfl (hb hby own_d_tob4_26) rfl (l' := #[.val (.ref ac), .val (.int 4), .val (.int 4), .val (.ref yy2), .val (.int 4)]) rfl ?_
      show Steps p.tables e below (T22.setTop (mkF m 29 #[.val (.ref ac), .val (.int 4), .val (.int 4), .val (.ref yy2), .val (.int 4)] [])) _
      refine XS.goto X22.here hx rfl (pc0 := 29) (pc' := 8) rfl (hb hby own_d_tob4_29) (by decide) (by decide) ?_
      refine XS.iload X22.here hx rfl (hb hby own_d_tob4_8) rfl ?_
      show Steps p.tables e below (T22.setTop (mkF m 10 #[.val (.ref ac), .val (.int 4), .val (.int 4), .val (.ref yy2), .val (.int 4)] [(.int 4)])) _
      refine XS.iloadN X22.here hx rfl (hb hby own_d_tob4_10) rfl ?_
      refine XS.icmpYes X22.here hx rfl (pc0 := 11) (pc' := 32) rfl (hb hby own_d_tob4_11) rfl (flt (by decide : ¬ ((4 : Int32) < (4 : Int32)))).2.1 (by decide) (by decide) ?_
      show Steps p.tables e below (T22.setTop (mkF m 32 #[.val (.ref ac), .val (.int 4), .val (.int 4), .val (.ref yy2), .val (.int 4)] [])) _
      refine XS.aloadN X22.here hx rfl (hb hby own_d_tob4_32) rfl rfl ?_
      exact kt)
  obtain ⟨fs, hr, hrun, hended, hW, hsame⟩ := X22.leave (v := some (.ref yy2)) (fun h => by rw [Bd.returns] at h; cases h)
  refine ⟨_, _, pre24 _ ?_, hrun, hended, _, _, rfl, ?_, ⟨_, rfl⟩, hW, hsame.mono (by decide) (by decide)⟩
  · show Steps p.tables e below (T22.setTop (mkF m 33 #[.val (.ref ac), .val (.int 4), .val (.int 4), .val (.ref yy2), .val (.int 4)] [(.ref yy2)])) _
    jvm_step X22.here [X22.here.top, hx, (hb hby own_d_tob4_33), X22.method', Bd.returns, Value.isRef, FieldType.isReference]
    first | (intro acts; rw [hr _ acts rfl rfl rfl]) | rw [hr _ _ rfl rfl rfl]
    exact Steps.refl _
  · show Q_own_tob4 Z ac kc v0 v1 v2 v3 cs fm h0 n0 _ T22.heap _
    exact ⟨yy2, ky2, rfl, N22, KC22, sz_yy2, g_yy2, Vw22⟩
theorem own_d_cou4_0 : decode jdk_52_method_16_code 0 = .ok (.iload_n 2, 1) := by decide +kernel
theorem own_d_cou4_1 : decode jdk_52_method_16_code 1 = .ok (.newarray .byte, 2) := by decide +kernel
theorem own_d_cou4_3 : decode jdk_52_method_16_code 3 = .ok (.astore_n 3, 1) := by decide +kernel
theorem own_d_cou4_4 : decode jdk_52_method_16_code 4 = .ok (.aload_n 0, 1) := by decide +kernel
theorem own_d_cou4_5 : decode jdk_52_method_16_code 5 = .ok (.iload_n 1, 1) := by decide +kernel
theorem own_d_cou4_6 : decode jdk_52_method_16_code 6 = .ok (.aload_n 3, 1) := by decide +kernel
theorem own_d_cou4_7 : decode jdk_52_method_16_code 7 = .ok (.iconst 0, 1) := by decide +kernel
theorem own_d_cou4_8 : decode jdk_52_method_16_code 8 = .ok (.iload_n 2, 1) := by decide +kernel
theorem own_d_cou4_9 : decode jdk_52_method_16_code 9 = .ok (.invokestatic 115, 3) := by decide +kernel
theorem own_d_cou4_12 : decode jdk_52_method_16_code 12 = .ok (.istore 4, 2) := by decide +kernel
theorem own_d_cou4_14 : decode jdk_52_method_16_code 14 = .ok (.iload 4, 2) := by decide +kernel
theorem own_d_cou4_16 : decode jdk_52_method_16_code 16 = .ok (.iload_n 2, 1) := by decide +kernel
theorem own_d_cou4_17 : decode jdk_52_method_16_code 17 = .ok (.if_icmp .eq 40, 3) := by decide +kernel
theorem own_d_cou4_20 : decode jdk_52_method_16_code 20 = .ok (.aload_n 0, 1) := by decide +kernel
theorem own_d_cou4_21 : decode jdk_52_method_16_code 21 = .ok (.iload_n 1, 1) := by decide +kernel
theorem own_d_cou4_22 : decode jdk_52_method_16_code 22 = .ok (.iload_n 2, 1) := by decide +kernel
theorem own_d_cou4_23 : decode jdk_52_method_16_code 23 = .ok (.invokestatic 119, 3) := by decide +kernel
theorem own_d_cou4_26 : decode jdk_52_method_16_code 26 = .ok (.astore 5, 2) := by decide +kernel
theorem own_d_cou4_28 : decode jdk_52_method_16_code 28 = .ok (.aload 5, 2) := by decide +kernel
theorem own_d_cou4_30 : decode jdk_52_method_16_code 30 = .ok (.iload 4, 2) := by decide +kernel
theorem own_d_cou4_32 : decode jdk_52_method_16_code 32 = .ok (.invokestatic 71, 3) := by decide +kernel
theorem own_d_cou4_35 : decode jdk_52_method_16_code 35 = .ok (.sipush 255, 3) := by decide +kernel
theorem own_d_cou4_38 : decode jdk_52_method_16_code 38 = .ok (.if_icmp .gt 16, 3) := by decide +kernel
theorem own_d_cou4_54 : decode jdk_52_method_16_code 54 = .ok (.aload 5, 2) := by decide +kernel
theorem own_d_cou4_56 : decode jdk_52_method_16_code 56 = .ok (.areturn, 1) := by decide +kernel
theorem own_d_cou4_57 : decode jdk_52_method_16_code 57 = .ok (.aload_n 3, 1) := by decide +kernel
theorem own_d_cou4_58 : decode jdk_52_method_16_code 58 = .ok (.areturn, 1) := by decide +kernel
theorem own_pn_own_cou4 : plainName "java/lang/StringUTF16" = true := by first | (simp [plainName, overriddenIn]; done) | decide +kernel
theorem own_ef_own_cou4 (m : MethodId) (x0 : Addr) (x1 : Int32) (x2 : Int32) : entryFrame m #[(.ref x0), (.int x1), (.int x2)] 6 = mkF m 0 #[.val (.ref x0), .val (.int x1), .val (.int x2), .unset, .unset, .unset] [] := by first | (simp [entryFrame, mkF, argsToLocals, Value.category]; done) | rfl
def Q_own_cou4 (Z : State) (ac : Addr) (kc : ClassId) (v0 : Int32) (v1 : Int32) (v2 : Int32) (v3 : Int32) (cs : Int32) (fm : Value) (h0 : Heap) (n0 : Nat) (v : Option Value) (h : Heap) (L : List Loc) : Prop := ∃ (y : Addr) (ky : ClassId) (cd : Int32), v = some (.ref y) ∧ Fr n0 L ∧ Keep h0 h [] ∧ h0.size ≤ y ∧ n0 ≤ y ∧ own_SD Z h y ky cd (4 : Int32) (8 : Int32) [(.int (own_by v0)), (.int (own_by v1)), (.int (own_by v2)), (.int (own_by v3))] [(.int (own_B0 v0)), (.int (own_B1 v0)), (.int (own_B0 v1)), (.int (own_B1 v1)), (.int (own_B0 v2)), (.int (own_B1 v2)), (.int (own_B0 v3)), (.int (own_B1 v3))] (¬ ((255 : Int32) < v0) ∧ ¬ ((255 : Int32) < v1) ∧ ¬ ((255 : Int32) < v2) ∧ ¬ ((255 : Int32) < v3))
set_option maxRecDepth 65536 in
set_option maxHeartbeats 40000000 in
theorem own_cou4 (l : Launch) (Z : State) (a0 : Array Value) (hw : ∀ d ∈ tables_1, d.before a0 Z = true) (ws : List Jvm.Cond) (ac : Addr) (kc : ClassId) (v0 : Int32) (v1 : Int32) (v2 : Int32) (v3 : Int32) (cs : Int32) (fm : Value) (h0 : Heap) (n0 : Nat) (Z0 : n0 ≤ h0.size) (V_ac : Arv Z h0 ac kc .char (4 : Int32) [(.int v0), (.int v1), (.int v2), (.int v3)] (.int 0)) (hl0 : (0 ≤ v0.toInt ∧ v0.toInt < 65536)) (hl1 : (0 ≤ v1.toInt ∧ v1.toInt < 65536)) (hl2 : (0 ≤ v2.toInt ∧ v2.toInt < 65536)) (hl3 : (0 ≤ v3.toInt ∧ v3.toInt < 65536)) (hst : own_ST Z cs fm) (O0 : Old Z n0 h0) :
    MetFree l (⟨"java/lang/StringUTF16", "compress", "([CII)[B"⟩ : MethodName) (head1 (Jvm.Cond.code (⟨"java/lang/StringUTF16", "compress", "([CII)[B"⟩ : MethodName) jdk_52_method_16_code 6 (some (.array .byte)) :: ws) ({ frames := 3, cells := 2, slots := 12, locals := 40 } : Room)) (fun a U => a = #[(.ref ac), (.int 0), (.int 4)] ∧ Z.Warmed39 U.vm ∧ U.heap = h0) (fun _ _ _ _ _ => True) (fun _ U o U' => ∃ v L, o = .returned v ∧ Q_own_cou4 Z ac kc v0 v1 v2 v3 cs fm h0 n0 v U'.heap L ∧ FrameEnd U o U' L ({ frames := 3, cells := 2, slots := 12, locals := 40 } : Room).cells ({ frames := 3, cells := 2, slots := 12, locals := 40 } : Room).slots) := by
  refine MetFree.of_bodySF (plainFor_of_name own_pn_own_cou4) hisR ?_
  intro p e s m args below meth c s₁ Bd hml0 hP hK
  obtain ⟨rfl, hZ, hh⟩ := hP
  have hx := Bd.exec
  have hby := Bd.bytes
  have hml : c.maxLocals = 6 := hml0
  have hown : s.vm.findClass "java/lang/StringUTF16" = some m.cls := findClass_of_methodNamed Bd.named
  have hnm := (name_of_methodNamed Bd.named Bd.method).1
  have X0 : Stand p l e ({ frames := 3, cells := 2, slots := 12, locals := 40 } : Room) s m #[(.ref ac), (.int 0), (.int 4)] below meth c s₁ [] 0 0 := Stand.of_body Bd
  have e0 : s₁.heap = h0 := by rw [← hh, Bd.state]; rfl
  have N0 := Fr.nil n0
  have pre0 : Goes p e below s₁ (entryFrame m #[(.ref ac), (.int 0), (.int 4)] 6) s₁ (mkF m 0 #[.val (.ref ac), .val (.int 0), .val (.int 4), .unset, .unset, .unset] []) := fun t k => castTop (own_ef_own_cou4 m ac (0 : Int32) (4 : Int32)) k
  have pre1 : Goes p e below s₁ (entryFrame m #[(.ref ac), (.int 0), (.int 4)] 6) s₁ (mkF m 1 #[.val (.ref ac), .val (.int 0), .val (.int 4), .unset, .unset, .unset] [(.int 4)]) := fun t kt => pre0 t (by
      show Steps p.tables e below (s₁.setTop (mkF m 0 #[.val (.ref ac), .val (.int 0), .val (.int 4), .unset, .unset, .unset] [])) _
      refine XS.iloadN X0.here hx rfl (hb hby own_d_cou4_0) rfl ?_
      exact kt)
  obtain ⟨T2, h2, k2, X2, e2, E2, A2, st2⟩ := newP X0 hx hZ (hw _ (own_mG (i := 20) rfl)) e0 (g := (mkF m 1 #[.val (.ref ac), .val (.int 0), .val (.int 4), .unset, .unset, .unset] [(.int 4)])) rfl (hb hby own_d_cou4_1) rfl (by decide) (cap := 4) (by decide) (by decide) (by decide) (by decide)
  obtain ⟨b2, g2⟩ : ∃ z, z = h0.size := ⟨_, rfl⟩
  rw [← g2] at A2 st2
  have V_b2 : Arv Z h2 b2 k2 .byte (4 : Int32) [(.int 0), (.int 0), (.int 0), (.int 0)] (.int 0) := (Arv.new A2 (by decide)).pad (pad_rep [] (.int 0) 4)
  have g_b2 : n0 ≤ b2 := Nat.le_trans Z0 (Nat.le_of_eq g2.symm)
  have sz_b2 : h0.size ≤ b2 := (Nat.le_trans (Keep.refl h0 []).1 (Nat.le_of_eq g2.symm))
  have K2 : Keep h0 h2 [] := (Keep.refl h0 []).ext E2
  have pre3 : Goes p e below s₁ (entryFrame m #[(.ref ac), (.int 0), (.int 4)] 6) T2 (mkF m 3 #[.val (.ref ac), .val (.int 0), .val (.int 4), .unset, .unset, .unset] [(.ref b2)]) := fun t kt => pre1 t (st2 t kt)
  have pre4 : Goes p e below s₁ (entryFrame m #[(.ref ac), (.int 0), (.int 4)] 6) T2 (mkF m 9 #[.val (.ref ac), .val (.int 0), .val (.int 4), .val (.ref b2), .unset, .unset] [(.int 4), (.int 0), (.ref b2), (.int 0), (.ref ac)]) := fun t kt => pre3 t (by
      show Steps p.tables e below (T2.setTop (mkF m 3 #[.val (.ref ac), .val (.int 0), .val (.int 4), .unset, .unset, .unset] [(.ref b2)])) _
      refine XS.astoreN X2.here hx rfl (hb hby own_d_cou4_3) rfl rfl (l' := #[.val (.ref ac), .val (.int 0), .val (.int 4), .val (.ref b2), .unset, .unset]) rfl ?_
      refine XS.aloadN X2.here hx rfl (hb hby own_d_cou4_4) rfl rfl ?_
      show Steps p.tables e below (T2.setTop (mkF m 5 #[.val (.ref ac), .val (.int 0), .val (.int 4), .val (.ref b2), .unset, .unset] [(.ref ac)])) _
      refine XS.iloadN X2.here hx rfl (hb hby own_d_cou4_5) rfl ?_
      refine XS.aloadN X2.here hx rfl (hb hby own_d_cou4_6) rfl rfl ?_
      show Steps p.tables e below (T2.setTop (mkF m 7 #[.val (.ref ac), .val (.int 0), .val (.int 4), .val (.ref b2), .unset, .unset] [(.ref b2), (.int 0), (.ref ac)])) _
      refine XS.iconst X2.here hx rfl (hb hby own_d_cou4_7) ?_
      refine XS.iloadN X2.here hx rfl (hb hby own_d_cou4_8) rfl ?_
      exact kt)
  obtain ⟨_, _, ⟨T5, L5, k5, n5⟩, -, X5, ⟨Lc5, hQ5, l5, y5, z5⟩, st5⟩ := Jvm.LawKit.callS X2 hx (y := (⟨"java/lang/StringUTF16", "compress", "([CI[BII)I"⟩ : MethodName)) hown (mvT hZ (hw _ (own_mG (i := 46) rfl))) (mvT hZ (hw _ (own_mG (i := 47) rfl))) (mvT hZ (hw _ (own_mG (i := 44) rfl))) (mvT hZ (hw _ (own_mG (i := 48) rfl))) (by decide) (backOf (W := 0) (own_cin4 l Z a0 hw [] ac b2 kc k2 v0 v1 v2 v3 h2 n0 (Nat.le_trans Z0 E2.1) (V_ac.ext E2) V_b2 g_b2 (Nat.ne_of_lt (Nat.lt_of_lt_of_le V_ac.lt (Nat.le_of_eq g2.symm)))) hZ (hw _ (own_mG (i := 48) rfl)) (hw _ (own_mG (i := 44) rfl)) (by decide) (by decide)) (g := (mkF m 9 #[.val (.ref ac), .val (.int 0), .val (.int 4), .val (.ref b2), .unset, .unset] [(.int 4), (.int 0), (.ref b2), (.int 0), (.ref ac)])) rfl (by rw [hml]; rfl) (argsL := [(.ref ac), (.int 0), (.ref b2), (.int 0), (.int 4)]) (rest := []) (lenOf own_pd11 rfl) rfl (by show 2 * 0 + _ ≤ _; exact Nat.le_of_eq rfl) (hb hby own_d_cou4_9) (fun _ _ => ⟨rfl, e2, (by decide : 1 + 0 ≤ _), (by decide : 4 + 0 ≤ _)⟩)
  dsimp only [Pt.U, Pt.locs, Pt.cells, Pt.slots] at X5 l5 y5 z5 st5 hQ5
  subst l5 y5 z5
  obtain ⟨zr5, rfl, N5q, K5q, Dz5⟩ := hQ5
  have N5 := Fr.app N0 N5q
  have KC5 : Keep h0 T5.heap [] := K2.trans K5q (allS (Or.inr sz_b2) all0)
  have pre6 : Goes p e below s₁ (entryFrame m #[(.ref ac), (.int 0), (.int 4)] 6) T5 (mkF m 12 #[.val (.ref ac), .val (.int 0), .val (.int 4), .val (.ref b2), .unset, .unset] [(.int zr5)]) := fun t kt => pre4 t (st5 t kt)
  rcases Dz5 with ⟨rfl, hp, Vb5⟩ | Dz
  · -- full
    have pre7 : Goes p e below s₁ (entryFrame m #[(.ref ac), (.int 0), (.int 4)] 6) T5 (mkF m 58 #[.val (.ref ac), .val (.int 0), .val (.int 4), .val (.ref b2), .val (.int 4), .unset] [(.ref b2)]) := fun t kt => pre6 t (by
        show Steps p.tables e below (T5.setTop (mkF m 12 #[.val (.ref ac), .val (.int 0), .val (.int 4), .val (.ref b2), .unset, .unset] [(.int 4)])) _
        refine XS.istore X5.here hx rfl (hb hby own_d_cou4_12) rfl (l' := #[.val (.ref ac), .val (.int 0), .val (.int 4), .val (.ref b2), .val (.int 4), .unset]) rfl ?_
        refine XS.iload X5.here hx rfl (hb hby own_d_cou4_14) rfl ?_
        show Steps p.tables e below (T5.setTop (mkF m 16 #[.val (.ref ac), .val (.int 0), .val (.int 4), .val (.ref b2), .val (.int 4), .unset] [(.int 4)])) _
        refine XS.iloadN X5.here hx rfl (hb hby own_d_cou4_16) rfl ?_
        refine XS.icmpYes X5.here hx rfl (pc0 := 17) (pc' := 57) rfl (hb hby own_d_cou4_17) rfl (teq (by decide : (4 : Int32) = (4 : Int32))).1 (by decide) (by decide) ?_
        show Steps p.tables e below (T5.setTop (mkF m 57 #[.val (.ref ac), .val (.int 0), .val (.int 4), .val (.ref b2), .val (.int 4), .unset] [])) _
        refine XS.aloadN X5.here hx rfl (hb hby own_d_cou4_57) rfl rfl ?_
        exact kt)
    obtain ⟨fs, hr, hrun, hended, hW, hsame⟩ := X5.leave (v := some (.ref b2)) (fun h => by rw [Bd.returns] at h; cases h)
    refine ⟨_, _, pre7 _ ?_, hrun, hended, _, _, rfl, ?_, ⟨_, rfl⟩, hW, hsame.mono (by decide) (by decide)⟩
    · show Steps p.tables e below (T5.setTop (mkF m 58 #[.val (.ref ac), .val (.int 0), .val (.int 4), .val (.ref b2), .val (.int 4), .unset] [(.ref b2)])) _
      jvm_step X5.here [X5.here.top, hx, (hb hby own_d_cou4_58), X5.method', Bd.returns, Value.isRef, FieldType.isReference]
      first | (intro acts; rw [hr _ acts rfl rfl rfl]) | rw [hr _ _ rfl rfl rfl]
      exact Steps.refl _
    · show Q_own_cou4 Z ac kc v0 v1 v2 v3 cs fm h0 n0 _ T5.heap _
      exact ⟨b2, k2, (0 : Int32), rfl, N5, KC5, sz_b2, g_b2, Or.inl ⟨rfl, hp, Vb5⟩⟩
  · -- not
    have hne : ¬ (zr5 = (4 : Int32)) := by rcases Dz with ⟨rfl, hq⟩ | ⟨rfl, hq⟩ | ⟨rfl, hq⟩ | ⟨rfl, hq⟩ <;> decide
    have pre8 : Goes p e below s₁ (entryFrame m #[(.ref ac), (.int 0), (.int 4)] 6) T5 (mkF m 23 #[.val (.ref ac), .val (.int 0), .val (.int 4), .val (.ref b2), .val (.int zr5), .unset] [(.int 4), (.int 0), (.ref ac)]) := fun t kt => pre6 t (by
        show Steps p.tables e below (T5.setTop (mkF m 12 #[.val (.ref ac), .val (.int 0), .val (.int 4), .val (.ref b2), .unset, .unset] [(.int zr5)])) _
        refine XS.istore X5.here hx rfl (hb hby own_d_cou4_12) rfl (l' := #[.val (.ref ac), .val (.int 0), .val (.int 4), .val (.ref b2), .val (.int zr5), .unset]) rfl ?_
        refine XS.iload X5.here hx rfl (hb hby own_d_cou4_14) rfl ?_
        show Steps p.tables e below (T5.setTop (mkF m 16 #[.val (.ref ac), .val (.int 0), .val (.int 4), .val (.ref b2), .val (.int zr5), .unset] [(.int zr5)])) _
        refine XS.iloadN X5.here hx rfl (hb hby own_d_cou4_16) rfl ?_
        refine XS.icmpNo X5.here hx rfl (hb hby own_d_cou4_17) rfl (feq hne).1 ?_
        show Steps p.tables e below (T5.setTop (mkF m 20 #[.val (.ref ac), .val (.int 0), .val (.int 4), .val (.ref b2), .val (.int zr5), .unset] [])) _
        refine XS.aloadN X5.here hx rfl (hb hby own_d_cou4_20) rfl rfl ?_
        refine XS.iloadN X5.here hx rfl (hb hby own_d_cou4_21) rfl ?_
        show Steps p.tables e below (T5.setTop (mkF m 22 #[.val (.ref ac), .val (.int 0), .val (.int 4), .val (.ref b2), .val (.int zr5), .unset] [(.int 0), (.ref ac)])) _
        refine XS.iloadN X5.here hx rfl (hb hby own_d_cou4_22) rfl ?_
        exact kt)
    obtain ⟨_, _, ⟨T9, L9, k9, n9⟩, -, X9, ⟨Lc9, hQ9, l9, y9, z9⟩, st9⟩ := Jvm.LawKit.callS X5 hx (y := (⟨"java/lang/StringUTF16", "toBytes", "([CII)[B"⟩ : MethodName)) hown (mvT hZ (hw _ (own_mG (i := 77) rfl))) (mvT hZ (hw _ (own_mG (i := 78) rfl))) (mvT hZ (hw _ (own_mG (i := 44) rfl))) (mvT hZ (hw _ (own_mG (i := 79) rfl))) (by decide) (backOf (W := 0) (own_tob4 l Z a0 hw [] ac kc v0 v1 v2 v3 cs fm T5.heap n0 (Nat.le_trans (Nat.le_trans Z0 E2.1) K5q.1) ((V_ac.ext E2).keep K5q (ninS (Nat.ne_of_lt (Nat.lt_of_lt_of_le V_ac.lt (Nat.le_of_eq g2.symm))) nin0)) hst ((O0.ext E2).keep K5q (allS g_b2 all0))) hZ (hw _ (own_mG (i := 79) rfl)) (hw _ (own_mG (i := 44) rfl)) (by decide) (by decide)) (g := (mkF m 23 #[.val (.ref ac), .val (.int 0), .val (.int 4), .val (.ref b2), .val (.int zr5), .unset] [(.int 4), (.int 0), (.ref ac)])) rfl (by rw [hml]; rfl) (argsL := [(.ref ac), (.int 0), (.int 4)]) (rest := []) (lenOf own_pd12 rfl) rfl (by show 2 * 0 + _ ≤ _; exact Nat.le_of_eq rfl) (hb hby own_d_cou4_23) (fun _ _ => ⟨rfl, rfl, (by decide : 1 + 1 ≤ _), (by decide : 4 + 8 ≤ _)⟩)
    dsimp only [Pt.U, Pt.locs, Pt.cells, Pt.slots] at X9 l9 y9 z9 st9 hQ9
    subst l9 y9 z9
    obtain ⟨yy9, ky9, rfl, N9q, K9q, zy9, gy9, Vy9⟩ := hQ9
    have N9 := Fr.app N5 N9q
    have KC9 : Keep h0 T9.heap [] := KC5.trans K9q all0
    have pre10 : Goes p e below s₁ (entryFrame m #[(.ref ac), (.int 0), (.int 4)] 6) T9 (mkF m 26 #[.val (.ref ac), .val (.int 0), .val (.int 4), .val (.ref b2), .val (.int zr5), .unset] [(.ref yy9)]) := fun t kt => pre8 t (st9 t kt)
    have sz_yy9 : h0.size ≤ yy9 := Nat.le_trans KC5.1 zy9
    have g_yy9 := gy9
    have pre11 : Goes p e below s₁ (entryFrame m #[(.ref ac), (.int 0), (.int 4)] 6) T9 (mkF m 32 #[.val (.ref ac), .val (.int 0), .val (.int 4), .val (.ref b2), .val (.int zr5), .val (.ref yy9)] [(.int zr5), (.ref yy9)]) := fun t kt => pre10 t (by
        show Steps p.tables e below (T9.setTop (mkF m 26 #[.val (.ref ac), .val (.int 0), .val (.int 4), .val (.ref b2), .val (.int zr5), .unset] [(.ref yy9)])) _
        refine XS.astore X9.here hx rfl (hb hby own_d_cou4_26) rfl rfl (l' := #[.val (.ref ac), .val (.int 0), .val (.int 4), .val (.ref b2), .val (.int zr5), .val (.ref yy9)]) rfl ?_
        refine XS.aload X9.here hx rfl (hb hby own_d_cou4_28) rfl rfl ?_
        show Steps p.tables e below (T9.setTop (mkF m 30 #[.val (.ref ac), .val (.int 0), .val (.int 4), .val (.ref b2), .val (.int zr5), .val (.ref yy9)] [(.ref yy9)])) _
        refine XS.iload X9.here hx rfl (hb hby own_d_cou4_30) rfl ?_
        exact kt)
    obtain ⟨pu, pw, hA0, hA1, hG⟩ : ∃ pu pw : Int32, own_At Z T9.heap yy9 (zr5 <<< ((1 : Int32) &&& 31)) pu ∧ own_At Z T9.heap yy9 ((zr5 <<< ((1 : Int32) &&& 31)) + (1 : Int32)) pw ∧ (255 : Int32) < (nar .char (own_GC pu pw)) := by
      rcases Dz with ⟨rfl, hq⟩ | ⟨rfl, hq⟩ | ⟨rfl, hq⟩ | ⟨rfl, hq⟩
      · exact ⟨(own_B0 v0), (own_B1 v0), own_At.of Vy9 (by decide) rfl, own_At.of Vy9 (by decide) rfl, by rw [own_gc v0 hl0]; exact hq⟩
      · exact ⟨(own_B0 v1), (own_B1 v1), own_At.of Vy9 (by decide) rfl, own_At.of Vy9 (by decide) rfl, by rw [own_gc v1 hl1]; exact hq⟩
      · exact ⟨(own_B0 v2), (own_B1 v2), own_At.of Vy9 (by decide) rfl, own_At.of Vy9 (by decide) rfl, by rw [own_gc v2 hl2]; exact hq⟩
      · exact ⟨(own_B0 v3), (own_B1 v3), own_At.of Vy9 (by decide) rfl, own_At.of Vy9 (by decide) rfl, by rw [own_gc v3 hl3]; exact hq⟩
    obtain ⟨_, _, ⟨T12, L12, k12, n12⟩, -, X12, ⟨Lc12, hQ12, l12, y12, z12⟩, st12⟩ := Jvm.LawKit.callS X9 hx (y := (⟨"java/lang/StringUTF16", "getChar", "([BI)C"⟩ : MethodName)) hown (mvT hZ (hw _ (own_mG (i := 93) rfl))) (mvT hZ (hw _ (own_mG (i := 94) rfl))) (mvT hZ (hw _ (own_mG (i := 44) rfl))) (mvT hZ (hw _ (own_mG (i := 95) rfl))) (by decide) (backOf (W := 0) (own_gch l Z a0 hw [] yy9 zr5 pu pw cs fm T9.heap n0 (Nat.le_trans (Nat.le_trans (Nat.le_trans Z0 E2.1) K5q.1) K9q.1) hA0 hA1 hst (((O0.ext E2).keep K5q (allS g_b2 all0)).keep K9q all0)) hZ (hw _ (own_mG (i := 95) rfl)) (hw _ (own_mG (i := 44) rfl)) (by decide) (by decide)) (g := (mkF m 32 #[.val (.ref ac), .val (.int 0), .val (.int 4), .val (.ref b2), .val (.int zr5), .val (.ref yy9)] [(.int zr5), (.ref yy9)])) rfl (by rw [hml]; rfl) (argsL := [(.ref yy9), (.int zr5)]) (rest := []) (lenOf own_pd6 rfl) rfl (by show 2 * 0 + _ ≤ _; exact Nat.le_of_eq rfl) (hb hby own_d_cou4_32) (fun _ _ => ⟨rfl, rfl, (by decide : 2 + 0 ≤ _), (by decide : 12 + 0 ≤ _)⟩)
    dsimp only [Pt.U, Pt.locs, Pt.cells, Pt.slots] at X12 l12 y12 z12 st12 hQ12
    subst l12 y12 z12
    obtain ⟨rfl, N12q, e12⟩ := hQ12
    have N12 := Fr.app N9 N12q
    have pre13 : Goes p e below s₁ (entryFrame m #[(.ref ac), (.int 0), (.int 4)] 6) T12 (mkF m 35 #[.val (.ref ac), .val (.int 0), .val (.int 4), .val (.ref b2), .val (.int zr5), .val (.ref yy9)] [(.int (nar .char (own_GC pu pw)))]) := fun t kt => pre11 t (st12 t kt)
    have pre14 : Goes p e below s₁ (entryFrame m #[(.ref ac), (.int 0), (.int 4)] 6) T12 (mkF m 56 #[.val (.ref ac), .val (.int 0), .val (.int 4), .val (.ref b2), .val (.int zr5), .val (.ref yy9)] [(.ref yy9)]) := fun t kt => pre13 t (by
        show Steps p.tables e below (T12.setTop (mkF m 35 #[.val (.ref ac), .val (.int 0), .val (.int 4), .val (.ref b2), .val (.int zr5), .val (.ref yy9)] [(.int (nar .char (own_GC pu pw)))])) _
        refine XS.sipush X12.here hx rfl (hb hby own_d_cou4_35) ?_
        refine XS.icmpYes X12.here hx rfl (pc0 := 38) (pc' := 54) rfl (hb hby own_d_cou4_38) rfl (tlt hG).2.2.1 (by decide) (by decide) ?_
        show Steps p.tables e below (T12.setTop (mkF m 54 #[.val (.ref ac), .val (.int 0), .val (.int 4), .val (.ref b2), .val (.int zr5), .val (.ref yy9)] [])) _
        refine XS.aload X12.here hx rfl (hb hby own_d_cou4_54) rfl rfl ?_
        exact kt)
    obtain ⟨fs, hr, hrun, hended, hW, hsame⟩ := X12.leave (v := some (.ref yy9)) (fun h => by rw [Bd.returns] at h; cases h)
    refine ⟨_, _, pre14 _ ?_, hrun, hended, _, _, rfl, ?_, ⟨_, rfl⟩, hW, hsame.mono (by decide) (by decide)⟩
    · show Steps p.tables e below (T12.setTop (mkF m 56 #[.val (.ref ac), .val (.int 0), .val (.int 4), .val (.ref b2), .val (.int zr5), .val (.ref yy9)] [(.ref yy9)])) _
      jvm_step X12.here [X12.here.top, hx, (hb hby own_d_cou4_56), X12.method', Bd.returns, Value.isRef, FieldType.isReference]
      first | (intro acts; rw [hr _ acts rfl rfl rfl]) | rw [hr _ _ rfl rfl rfl]
      exact Steps.refl _
    · show Q_own_cou4 Z ac kc v0 v1 v2 v3 cs fm h0 n0 _ T12.heap _
      rw [e12]
      exact ⟨yy9, ky9, (1 : Int32), rfl, N12, KC9, sz_yy9, g_yy9, Or.inr ⟨rfl, Vy9⟩⟩
theorem own_d_cda4_0 : decode jdk_52_method_15_code 0 = .ok (.iload_n 1, 1) := by decide +kernel
theorem own_d_cda4_1 : decode jdk_52_method_15_code 1 = .ok (.aload_n 0, 1) := by decide +kernel
theorem own_d_cda4_2 : decode jdk_52_method_15_code 2 = .ok (.arraylength, 1) := by decide +kernel
theorem own_d_cda4_3 : decode jdk_52_method_15_code 3 = .ok (.isub, 1) := by decide +kernel
theorem own_d_cda4_4 : decode jdk_52_method_15_code 4 = .ok (.bipush 31, 2) := by decide +kernel
theorem own_d_cda4_6 : decode jdk_52_method_15_code 6 = .ok (.iushr, 1) := by decide +kernel
theorem own_d_cda4_7 : decode jdk_52_method_15_code 7 = .ok (.i2b, 1) := by decide +kernel
theorem own_d_cda4_8 : decode jdk_52_method_15_code 8 = .ok (.ireturn, 1) := by decide +kernel
theorem own_pn_own_cda4 : plainName "java/lang/StringUTF16" = true := by first | (simp [plainName, overriddenIn]; done) | decide +kernel
theorem own_ef_own_cda4 (m : MethodId) (x0 : Addr) (x1 : Int32) : entryFrame m #[(.ref x0), (.int x1)] 2 = mkF m 0 #[.val (.ref x0), .val (.int x1)] [] := by first | (simp [entryFrame, mkF, argsToLocals, Value.category]; done) | rfl
def Q_own_cda4 (Z : State) (y : Addr) (ky : ClassId) (cd : Int32) (v0 : Int32) (v1 : Int32) (v2 : Int32) (v3 : Int32) (h0 : Heap) (n0 : Nat) (v : Option Value) (h : Heap) (L : List Loc) : Prop := v = some (.int cd) ∧ Fr n0 L ∧ h = h0
set_option maxRecDepth 65536 in
set_option maxHeartbeats 40000000 in
theorem own_cda4 (l : Launch) (Z : State) (a0 : Array Value) (hw : ∀ d ∈ tables_1, d.before a0 Z = true) (ws : List Jvm.Cond) (y : Addr) (ky : ClassId) (cd : Int32) (v0 : Int32) (v1 : Int32) (v2 : Int32) (v3 : Int32) (h0 : Heap) (n0 : Nat) (Z0 : n0 ≤ h0.size) (SDy : own_SD Z h0 y ky cd (4 : Int32) (8 : Int32) [(.int (own_by v0)), (.int (own_by v1)), (.int (own_by v2)), (.int (own_by v3))] [(.int (own_B0 v0)), (.int (own_B1 v0)), (.int (own_B0 v1)), (.int (own_B1 v1)), (.int (own_B0 v2)), (.int (own_B1 v2)), (.int (own_B0 v3)), (.int (own_B1 v3))] (¬ ((255 : Int32) < v0) ∧ ¬ ((255 : Int32) < v1) ∧ ¬ ((255 : Int32) < v2) ∧ ¬ ((255 : Int32) < v3))) :
    MetFree l (⟨"java/lang/StringUTF16", "coderFromArrayLen", "([BI)B"⟩ : MethodName) (head1 (Jvm.Cond.code (⟨"java/lang/StringUTF16", "coderFromArrayLen", "([BI)B"⟩ : MethodName) jdk_52_method_15_code 2 (some .byte) :: ws) ({ frames := 0, cells := 0, slots := 0, locals := 0 } : Room)) (fun a U => a = #[(.ref y), (.int 4)] ∧ Z.Warmed39 U.vm ∧ U.heap = h0) (fun _ _ _ _ _ => True) (fun _ U o U' => ∃ v L, o = .returned v ∧ Q_own_cda4 Z y ky cd v0 v1 v2 v3 h0 n0 v U'.heap L ∧ FrameEnd U o U' L ({ frames := 0, cells := 0, slots := 0, locals := 0 } : Room).cells ({ frames := 0, cells := 0, slots := 0, locals := 0 } : Room).slots) := by
  refine MetFree.of_bodySF (plainFor_of_name own_pn_own_cda4) hisR ?_
  intro p e s m args below meth c s₁ Bd hml0 hP hK
  obtain ⟨rfl, hZ, hh⟩ := hP
  have hx := Bd.exec
  have hby := Bd.bytes
  have hml : c.maxLocals = 2 := hml0
  have hown : s.vm.findClass "java/lang/StringUTF16" = some m.cls := findClass_of_methodNamed Bd.named
  have hnm := (name_of_methodNamed Bd.named Bd.method).1
  have X0 : Stand p l e ({ frames := 0, cells := 0, slots := 0, locals := 0 } : Room) s m #[(.ref y), (.int 4)] below meth c s₁ [] 0 0 := Stand.of_body Bd
  have e0 : s₁.heap = h0 := by rw [← hh, Bd.state]; rfl
  have N0 := Fr.nil n0
  have pre0 : Goes p e below s₁ (entryFrame m #[(.ref y), (.int 4)] 2) s₁ (mkF m 0 #[.val (.ref y), .val (.int 4)] []) := fun t k => castTop (own_ef_own_cda4 m y (4 : Int32)) k
  rcases (id SDy) with ⟨hcd, hp, Vy⟩ | ⟨hcd, Vy⟩
  · -- coder 0
    have pre1 : Goes p e below s₁ (entryFrame m #[(.ref y), (.int 4)] 2) s₁ (mkF m 2 #[.val (.ref y), .val (.int 4)] [(.ref y), (.int 4)]) := fun t kt => pre0 t (by
        show Steps p.tables e below (s₁.setTop (mkF m 0 #[.val (.ref y), .val (.int 4)] [])) _
        refine XS.iloadN X0.here hx rfl (hb hby own_d_cda4_0) rfl ?_
        refine XS.aloadN X0.here hx rfl (hb hby own_d_cda4_1) rfl rfl ?_
        exact kt)
    obtain ⟨cl2, Ar2, q2, S2, N_2, H2, G2⟩ := (id (Vy))
    have pre3 : Goes p e below s₁ (entryFrame m #[(.ref y), (.int 4)] 2) s₁ (mkF m 7 #[.val (.ref y), .val (.int 4)] [(.int (((0 : Int32).toUInt32 >>> ((31 : Int32) &&& 31).toUInt32).toInt32))]) := fun t kt => pre1 t (by
        show Steps p.tables e below (s₁.setTop (mkF m 2 #[.val (.ref y), .val (.int 4)] [(.ref y), (.int 4)])) _
        refine X0.arraylength hx (by (try rw [e0]); exact Ar2.1) (State.isArrayOf_alike hZ.alike Ar2.2.1) (g := (mkF m 2 #[.val (.ref y), .val (.int 4)] [(.ref y), (.int 4)])) rfl rfl (hb hby own_d_cda4_2) _ ?_
        rw [len_of S2 N_2]
        refine XS.isub X0.here hx rfl (hb hby own_d_cda4_3) rfl ?_
        show Steps p.tables e below (s₁.setTop (mkF m 4 #[.val (.ref y), .val (.int 4)] [(.int 0)])) _
        refine XS.bipush X0.here hx rfl (hb hby own_d_cda4_4) ?_
        refine XS.iushr X0.here hx rfl (hb hby own_d_cda4_6) rfl ?_
        exact kt)
    rw [show (((0 : Int32).toUInt32 >>> ((31 : Int32) &&& 31).toUInt32).toInt32) = (0 : Int32) from (by decide)] at pre3
    have pre4 : Goes p e below s₁ (entryFrame m #[(.ref y), (.int 4)] 2) s₁ (mkF m 8 #[.val (.ref y), .val (.int 4)] [(.int ((0 : Int32).toInt8.toInt32))]) := fun t kt => pre3 t (by
        show Steps p.tables e below (s₁.setTop (mkF m 7 #[.val (.ref y), .val (.int 4)] [(.int 0)])) _
        refine XS.i2b X0.here hx rfl (hb hby own_d_cda4_7) rfl ?_
        exact kt)
    obtain ⟨fs, hr, hrun, hended, hW, hsame⟩ := X0.leave (v := some (.int (nar .byte ((0 : Int32).toInt8.toInt32)))) (fun h => by rw [Bd.returns] at h; cases h)
    refine ⟨_, _, pre4 _ ?_, hrun, hended, _, _, rfl, ?_, ⟨_, rfl⟩, hW, hsame.mono (by decide) (by decide)⟩
    · show Steps p.tables e below (s₁.setTop (mkF m 8 #[.val (.ref y), .val (.int 4)] [(.int ((0 : Int32).toInt8.toInt32))])) _
      exact retN X0 hx (t := .byte) Bd.returns (by simp) (hb hby own_d_cda4_8) hr
    · show Q_own_cda4 Z y ky cd v0 v1 v2 v3 h0 n0 _ s₁.heap _
      rw [e0]
      exact ⟨by rw [hcd]; rfl, N0, rfl⟩
  · -- coder 1
    have pre5 : Goes p e below s₁ (entryFrame m #[(.ref y), (.int 4)] 2) s₁ (mkF m 2 #[.val (.ref y), .val (.int 4)] [(.ref y), (.int 4)]) := fun t kt => pre0 t (by
        show Steps p.tables e below (s₁.setTop (mkF m 0 #[.val (.ref y), .val (.int 4)] [])) _
        refine XS.iloadN X0.here hx rfl (hb hby own_d_cda4_0) rfl ?_
        refine XS.aloadN X0.here hx rfl (hb hby own_d_cda4_1) rfl rfl ?_
        exact kt)
    obtain ⟨cl6, Ar6, q6, S6, N_6, H6, G6⟩ := (id (Vy))
    have pre7 : Goes p e below s₁ (entryFrame m #[(.ref y), (.int 4)] 2) s₁ (mkF m 7 #[.val (.ref y), .val (.int 4)] [(.int (((-4 : Int32).toUInt32 >>> ((31 : Int32) &&& 31).toUInt32).toInt32))]) := fun t kt => pre5 t (by
        show Steps p.tables e below (s₁.setTop (mkF m 2 #[.val (.ref y), .val (.int 4)] [(.ref y), (.int 4)])) _
        refine X0.arraylength hx (by (try rw [e0]); exact Ar6.1) (State.isArrayOf_alike hZ.alike Ar6.2.1) (g := (mkF m 2 #[.val (.ref y), .val (.int 4)] [(.ref y), (.int 4)])) rfl rfl (hb hby own_d_cda4_2) _ ?_
        rw [len_of S6 N_6]
        refine XS.isub X0.here hx rfl (hb hby own_d_cda4_3) rfl ?_
        show Steps p.tables e below (s₁.setTop (mkF m 4 #[.val (.ref y), .val (.int 4)] [(.int (-4 : Int32))])) _
        refine XS.bipush X0.here hx rfl (hb hby own_d_cda4_4) ?_
        refine XS.iushr X0.here hx rfl (hb hby own_d_cda4_6) rfl ?_
        exact kt)
    rw [show (((-4 : Int32).toUInt32 >>> ((31 : Int32) &&& 31).toUInt32).toInt32) = (1 : Int32) from (by decide)] at pre7
    have pre8 : Goes p e below s₁ (entryFrame m #[(.ref y), (.int 4)] 2) s₁ (mkF m 8 #[.val (.ref y), .val (.int 4)] [(.int ((1 : Int32).toInt8.toInt32))]) := fun t kt => pre7 t (by
        show Steps p.tables e below (s₁.setTop (mkF m 7 #[.val (.ref y), .val (.int 4)] [(.int 1)])) _
        refine XS.i2b X0.here hx rfl (hb hby own_d_cda4_7) rfl ?_
        exact kt)
    obtain ⟨fs, hr, hrun, hended, hW, hsame⟩ := X0.leave (v := some (.int (nar .byte ((1 : Int32).toInt8.toInt32)))) (fun h => by rw [Bd.returns] at h; cases h)
    refine ⟨_, _, pre8 _ ?_, hrun, hended, _, _, rfl, ?_, ⟨_, rfl⟩, hW, hsame.mono (by decide) (by decide)⟩
    · show Steps p.tables e below (s₁.setTop (mkF m 8 #[.val (.ref y), .val (.int 4)] [(.int ((1 : Int32).toInt8.toInt32))])) _
      exact retN X0 hx (t := .byte) Bd.returns (by simp) (hb hby own_d_cda4_8) hr
    · show Q_own_cda4 Z y ky cd v0 v1 v2 v3 h0 n0 _ s₁.heap _
      rw [e0]
      exact ⟨by rw [hcd]; rfl, N0, rfl⟩
theorem own_d_sI4_0 : decode jdk_42_method_149_code 0 = .ok (.aload_n 0, 1) := by decide +kernel
theorem own_d_sI4_1 : decode jdk_42_method_149_code 1 = .ok (.invokespecial 1, 3) := by decide +kernel
theorem own_d_sI4_4 : decode jdk_42_method_149_code 4 = .ok (.iload_n 3, 1) := by decide +kernel
theorem own_d_sI4_5 : decode jdk_42_method_149_code 5 = .ok (.ifCond .ne 22, 3) := by decide +kernel
theorem own_d_sI4_27 : decode jdk_42_method_149_code 27 = .ok (.getstatic 38, 3) := by decide +kernel
theorem own_d_sI4_30 : decode jdk_42_method_149_code 30 = .ok (.ifCond .eq 28, 3) := by decide +kernel
theorem own_d_sI4_33 : decode jdk_42_method_149_code 33 = .ok (.aload_n 1, 1) := by decide +kernel
theorem own_d_sI4_34 : decode jdk_42_method_149_code 34 = .ok (.iload_n 2, 1) := by decide +kernel
theorem own_d_sI4_35 : decode jdk_42_method_149_code 35 = .ok (.iload_n 3, 1) := by decide +kernel
theorem own_d_sI4_36 : decode jdk_42_method_149_code 36 = .ok (.invokestatic 177, 3) := by decide +kernel
theorem own_d_sI4_39 : decode jdk_42_method_149_code 39 = .ok (.astore 5, 2) := by decide +kernel
theorem own_d_sI4_41 : decode jdk_42_method_149_code 41 = .ok (.aload_n 0, 1) := by decide +kernel
theorem own_d_sI4_42 : decode jdk_42_method_149_code 42 = .ok (.aload 5, 2) := by decide +kernel
theorem own_d_sI4_44 : decode jdk_42_method_149_code 44 = .ok (.iload_n 3, 1) := by decide +kernel
theorem own_d_sI4_45 : decode jdk_42_method_149_code 45 = .ok (.invokestatic 47, 3) := by decide +kernel
theorem own_d_sI4_48 : decode jdk_42_method_149_code 48 = .ok (.putfield 15, 3) := by decide +kernel
theorem own_d_sI4_51 : decode jdk_42_method_149_code 51 = .ok (.aload_n 0, 1) := by decide +kernel
theorem own_d_sI4_52 : decode jdk_42_method_149_code 52 = .ok (.aload 5, 2) := by decide +kernel
theorem own_d_sI4_54 : decode jdk_42_method_149_code 54 = .ok (.putfield 9, 3) := by decide +kernel
theorem own_d_sI4_57 : decode jdk_42_method_149_code 57 = .ok (.return_, 1) := by decide +kernel
theorem own_pn_own_sI4 : plainName "java/lang/String" = true := by first | (simp [plainName, overriddenIn]; done) | decide +kernel
theorem own_ef_own_sI4 (m : MethodId) (x0 : Addr) (x1 : Addr) (x2 : Int32) (x3 : Int32) : entryFrame m #[(.ref x0), (.ref x1), (.int x2), (.int x3), .null] 6 = mkF m 0 #[.val (.ref x0), .val (.ref x1), .val (.int x2), .val (.int x3), .val .null, .unset] [] := by first | (simp [entryFrame, mkF, argsToLocals, Value.category]; done) | rfl
def Q_own_sI4 (Z : State) (a1 : Addr) (ac : Addr) (kc : ClassId) (uv : Value) (uc : Value) (v0 : Int32) (v1 : Int32) (v2 : Int32) (v3 : Int32) (cs : Int32) (fm : Value) (h0 : Heap) (n0 : Nat) (v : Option Value) (h : Heap) (L : List Loc) : Prop := v = none ∧ Fr n0 L ∧ Keep h0 h [a1] ∧ Exa Z h a1 "java/lang/String" ∧ ∃ (cd : Int32) (y : Addr) (ky : ClassId), Fld Z h a1 "java/lang/String" "coder" "B" (.int cd) ∧ Fld Z h a1 "java/lang/String" "value" "[B" (.ref y) ∧ own_SD Z h y ky cd (4 : Int32) (8 : Int32) [(.int (own_by v0)), (.int (own_by v1)), (.int (own_by v2)), (.int (own_by v3))] [(.int (own_B0 v0)), (.int (own_B1 v0)), (.int (own_B0 v1)), (.int (own_B1 v1)), (.int (own_B0 v2)), (.int (own_B1 v2)), (.int (own_B0 v3)), (.int (own_B1 v3))] (¬ ((255 : Int32) < v0) ∧ ¬ ((255 : Int32) < v1) ∧ ¬ ((255 : Int32) < v2) ∧ ¬ ((255 : Int32) < v3))
set_option maxRecDepth 65536 in
set_option maxHeartbeats 40000000 in
theorem own_sI4 (l : Launch) (Z : State) (a0 : Array Value) (hw : ∀ d ∈ tables_1, d.before a0 Z = true) (ws : List Jvm.Cond) (a1 : Addr) (ac : Addr) (kc : ClassId) (uv : Value) (uc : Value) (v0 : Int32) (v1 : Int32) (v2 : Int32) (v3 : Int32) (cs : Int32) (fm : Value) (h0 : Heap) (n0 : Nat) (Z0 : n0 ≤ h0.size) (E_a1 : Exa Z h0 a1 "java/lang/String") (Fv : Fld Z h0 a1 "java/lang/String" "value" "[B" uv) (Fc : Fld Z h0 a1 "java/lang/String" "coder" "B" uc) (g_a1 : n0 ≤ a1) (V_ac : Arv Z h0 ac kc .char (4 : Int32) [(.int v0), (.int v1), (.int v2), (.int v3)] (.int 0)) (hl0 : (0 ≤ v0.toInt ∧ v0.toInt < 65536)) (hl1 : (0 ≤ v1.toInt ∧ v1.toInt < 65536)) (hl2 : (0 ≤ v2.toInt ∧ v2.toInt < 65536)) (hl3 : (0 ≤ v3.toInt ∧ v3.toInt < 65536)) (hst : own_ST Z cs fm) (O0 : Old Z n0 h0) :
    MetFree l (⟨"java/lang/String", "<init>", "([CIILjava/lang/Void;)V"⟩ : MethodName) (head1 (Jvm.Cond.code (⟨"java/lang/String", "<init>", "([CIILjava/lang/Void;)V"⟩ : MethodName) jdk_42_method_149_code 6 none :: ws) ({ frames := 4, cells := 2, slots := 12, locals := 57 } : Room)) (fun a U => a = #[(.ref a1), (.ref ac), (.int 0), (.int 4), .null] ∧ Z.Warmed39 U.vm ∧ U.heap = h0) (fun _ _ _ _ _ => True) (fun _ U o U' => ∃ v L, o = .returned v ∧ Q_own_sI4 Z a1 ac kc uv uc v0 v1 v2 v3 cs fm h0 n0 v U'.heap L ∧ FrameEnd U o U' L ({ frames := 4, cells := 2, slots := 12, locals := 57 } : Room).cells ({ frames := 4, cells := 2, slots := 12, locals := 57 } : Room).slots) := by
  refine MetFree.of_bodySF (plainFor_of_name own_pn_own_sI4) hisR ?_
  intro p e s m args below meth c s₁ Bd hml0 hP hK
  obtain ⟨rfl, hZ, hh⟩ := hP
  have hx := Bd.exec
  have hby := Bd.bytes
  have hml : c.maxLocals = 6 := hml0
  have hown : s.vm.findClass "java/lang/String" = some m.cls := findClass_of_methodNamed Bd.named
  have hnm := (name_of_methodNamed Bd.named Bd.method).1
  have X0 : Stand p l e ({ frames := 4, cells := 2, slots := 12, locals := 57 } : Room) s m #[(.ref a1), (.ref ac), (.int 0), (.int 4), .null] below meth c s₁ [] 0 0 := Stand.of_body Bd
  have e0 : s₁.heap = h0 := by rw [← hh, Bd.state]; rfl
  have N0 := Fr.nil n0
  have pre0 : Goes p e below s₁ (entryFrame m #[(.ref a1), (.ref ac), (.int 0), (.int 4), .null] 6) s₁ (mkF m 0 #[.val (.ref a1), .val (.ref ac), .val (.int 0), .val (.int 4), .val .null, .unset] []) := fun t k => castTop (own_ef_own_sI4 m a1 ac (0 : Int32) (4 : Int32)) k
  have pre1 : Goes p e below s₁ (entryFrame m #[(.ref a1), (.ref ac), (.int 0), (.int 4), .null] 6) s₁ (mkF m 1 #[.val (.ref a1), .val (.ref ac), .val (.int 0), .val (.int 4), .val .null, .unset] [(.ref a1)]) := fun t kt => pre0 t (by
      show Steps p.tables e below (s₁.setTop (mkF m 0 #[.val (.ref a1), .val (.ref ac), .val (.int 0), .val (.int 4), .val .null, .unset] [])) _
      refine XS.aloadN X0.here hx rfl (hb hby own_d_sI4_0) rfl rfl ?_
      exact kt)
  obtain ⟨T2, X2, e2, st2⟩ := initO X0 hx hZ hown (hw _ (own_mG (i := 16) rfl)) (hw _ (own_mG (i := 17) rfl)) (hw _ (own_mG (i := 18) rfl)) e0 (g := (mkF m 1 #[.val (.ref a1), .val (.ref ac), .val (.int 0), .val (.int 4), .val .null, .unset] [(.ref a1)])) rfl (by rw [hml]; rfl) rfl (hb hby own_d_sI4_1) (by decide) (W := 0) (by show 2 * 0 + _ ≤ _; exact Nat.le_of_eq rfl) (by decide)
  have pre3 : Goes p e below s₁ (entryFrame m #[(.ref a1), (.ref ac), (.int 0), (.int 4), .null] 6) T2 (mkF m 4 #[.val (.ref a1), .val (.ref ac), .val (.int 0), .val (.int 4), .val .null, .unset] []) := fun t kt => pre1 t (st2 t kt)
  have pre4 : Goes p e below s₁ (entryFrame m #[(.ref a1), (.ref ac), (.int 0), (.int 4), .null] 6) T2 (mkF m 27 #[.val (.ref a1), .val (.ref ac), .val (.int 0), .val (.int 4), .val .null, .unset] []) := fun t kt => pre3 t (by
      show Steps p.tables e below (T2.setTop (mkF m 4 #[.val (.ref a1), .val (.ref ac), .val (.int 0), .val (.int 4), .val .null, .unset] [])) _
      refine XS.iloadN X2.here hx rfl (hb hby own_d_sI4_4) rfl ?_
      refine XS.ifYes X2.here hx rfl (pc0 := 5) (pc' := 27) rfl (hb hby own_d_sI4_5) rfl ((if0 _ _).trans (feq (by decide : ¬ ((4 : Int32) = (0 : Int32)))).2) (by decide) (by decide) ?_
      exact kt)
  obtain ⟨T5, X5, e5, st5⟩ := getS2 X2 hx hZ hown (host := "") (Or.inl (hw _ (own_mG (i := 41) rfl))) Via.refl e2 (hst.1.ext O0.2) (g := (mkF m 27 #[.val (.ref a1), .val (.ref ac), .val (.int 0), .val (.int 4), .val .null, .unset] [])) rfl (hb hby own_d_sI4_27)
  have pre6 : Goes p e below s₁ (entryFrame m #[(.ref a1), (.ref ac), (.int 0), (.int 4), .null] 6) T5 (mkF m 30 #[.val (.ref a1), .val (.ref ac), .val (.int 0), .val (.int 4), .val .null, .unset] [(.int cs)]) := fun t kt => pre4 t (st5 t kt)
  have pre7 : Goes p e below s₁ (entryFrame m #[(.ref a1), (.ref ac), (.int 0), (.int 4), .null] 6) T5 (mkF m 36 #[.val (.ref a1), .val (.ref ac), .val (.int 0), .val (.int 4), .val .null, .unset] [(.int 4), (.int 0), (.ref ac)]) := fun t kt => pre6 t (by
      show Steps p.tables e below (T5.setTop (mkF m 30 #[.val (.ref a1), .val (.ref ac), .val (.int 0), .val (.int 4), .val .null, .unset] [(.int cs)])) _
      refine XS.ifNo X5.here hx rfl (hb hby own_d_sI4_30) rfl ((if0 _ _).trans (feq hst.2.1).1) ?_
      refine XS.aloadN X5.here hx rfl (hb hby own_d_sI4_33) rfl rfl ?_
      show Steps p.tables e below (T5.setTop (mkF m 34 #[.val (.ref a1), .val (.ref ac), .val (.int 0), .val (.int 4), .val .null, .unset] [(.ref ac)])) _
      refine XS.iloadN X5.here hx rfl (hb hby own_d_sI4_34) rfl ?_
      refine XS.iloadN X5.here hx rfl (hb hby own_d_sI4_35) rfl ?_
      exact kt)
  obtain ⟨_, _, ⟨T8, L8, k8, n8⟩, -, X8, ⟨Lc8, hQ8, l8, y8, z8⟩, st8⟩ := Jvm.LawKit.callS X5 hx (y := (⟨"java/lang/StringUTF16", "compress", "([CII)[B"⟩ : MethodName)) hown (mvT hZ (hw _ (own_mG (i := 42) rfl))) (mvT hZ (hw _ (own_mG (i := 43) rfl))) (mvT hZ (hw _ (own_mG (i := 44) rfl))) (mvT hZ (hw _ (own_mG (i := 45) rfl))) (by decide) (backOf (W := 0) (own_cou4 l Z a0 hw [] ac kc v0 v1 v2 v3 cs fm h0 n0 Z0 V_ac hl0 hl1 hl2 hl3 hst O0) hZ (hw _ (own_mG (i := 45) rfl)) (hw _ (own_mG (i := 44) rfl)) (by decide) (by decide)) (g := (mkF m 36 #[.val (.ref a1), .val (.ref ac), .val (.int 0), .val (.int 4), .val .null, .unset] [(.int 4), (.int 0), (.ref ac)])) rfl (by rw [hml]; rfl) (argsL := [(.ref ac), (.int 0), (.int 4)]) (rest := []) (lenOf own_pd12 rfl) rfl (by show 2 * 0 + _ ≤ _; exact Nat.le_of_eq rfl) (hb hby own_d_sI4_36) (fun _ _ => ⟨rfl, e5, (by decide : 0 + 2 ≤ _), (by decide : 0 + 12 ≤ _)⟩)
  dsimp only [Pt.U, Pt.locs, Pt.cells, Pt.slots] at X8 l8 y8 z8 st8 hQ8
  subst l8 y8 z8
  obtain ⟨yy8, ky8, cd8, rfl, N8q, K8q, zy8, gy8, Dy8⟩ := hQ8
  have N8 := Fr.app N0 N8q
  have KC8 : Keep h0 T8.heap [a1] := (Keep.refl h0 [a1]).trans K8q all0
  have pre9 : Goes p e below s₁ (entryFrame m #[(.ref a1), (.ref ac), (.int 0), (.int 4), .null] 6) T8 (mkF m 39 #[.val (.ref a1), .val (.ref ac), .val (.int 0), .val (.int 4), .val .null, .unset] [(.ref yy8)]) := fun t kt => pre7 t (st8 t kt)
  have sz_yy8 := zy8
  have g_yy8 := gy8
  have pre10 : Goes p e below s₁ (entryFrame m #[(.ref a1), (.ref ac), (.int 0), (.int 4), .null] 6) T8 (mkF m 45 #[.val (.ref a1), .val (.ref ac), .val (.int 0), .val (.int 4), .val .null, .val (.ref yy8)] [(.int 4), (.ref yy8), (.ref a1)]) := fun t kt => pre9 t (by
      show Steps p.tables e below (T8.setTop (mkF m 39 #[.val (.ref a1), .val (.ref ac), .val (.int 0), .val (.int 4), .val .null, .unset] [(.ref yy8)])) _
      refine XS.astore X8.here hx rfl (hb hby own_d_sI4_39) rfl rfl (l' := #[.val (.ref a1), .val (.ref ac), .val (.int 0), .val (.int 4), .val .null, .val (.ref yy8)]) rfl ?_
      refine XS.aloadN X8.here hx rfl (hb hby own_d_sI4_41) rfl rfl ?_
      show Steps p.tables e below (T8.setTop (mkF m 42 #[.val (.ref a1), .val (.ref ac), .val (.int 0), .val (.int 4), .val .null, .val (.ref yy8)] [(.ref a1)])) _
      refine XS.aload X8.here hx rfl (hb hby own_d_sI4_42) rfl rfl ?_
      refine XS.iloadN X8.here hx rfl (hb hby own_d_sI4_44) rfl ?_
      exact kt)
  obtain ⟨_, _, ⟨T11, L11, k11, n11⟩, -, X11, ⟨Lc11, hQ11, l11, y11, z11⟩, st11⟩ := Jvm.LawKit.callS X8 hx (y := (⟨"java/lang/StringUTF16", "coderFromArrayLen", "([BI)B"⟩ : MethodName)) hown (mvT hZ (hw _ (own_mG (i := 49) rfl))) (mvT hZ (hw _ (own_mG (i := 50) rfl))) (mvT hZ (hw _ (own_mG (i := 44) rfl))) (mvT hZ (hw _ (own_mG (i := 51) rfl))) (by decide) (backOf (W := 1) (own_cda4 l Z a0 hw [] yy8 ky8 cd8 v0 v1 v2 v3 T8.heap n0 (Nat.le_trans Z0 K8q.1) Dy8) hZ (hw _ (own_mG (i := 51) rfl)) (hw _ (own_mG (i := 44) rfl)) (by decide) (by decide)) (g := (mkF m 45 #[.val (.ref a1), .val (.ref ac), .val (.int 0), .val (.int 4), .val .null, .val (.ref yy8)] [(.int 4), (.ref yy8), (.ref a1)])) rfl (by rw [hml]; rfl) (argsL := [(.ref yy8), (.int 4)]) (rest := [(.ref a1)]) (lenOf own_pd13 rfl) rfl (by show 2 * 0 + _ ≤ _; exact Nat.le_of_eq rfl) (hb hby own_d_sI4_45) (fun _ _ => ⟨rfl, rfl, (by decide : 2 + 0 ≤ _), (by decide : 12 + 0 ≤ _)⟩)
  dsimp only [Pt.U, Pt.locs, Pt.cells, Pt.slots] at X11 l11 y11 z11 st11 hQ11
  subst l11 y11 z11
  obtain ⟨rfl, N11q, e11⟩ := hQ11
  have N11 := Fr.app N8 N11q
  have pre12 : Goes p e below s₁ (entryFrame m #[(.ref a1), (.ref ac), (.int 0), (.int 4), .null] 6) T11 (mkF m 48 #[.val (.ref a1), .val (.ref ac), .val (.int 0), .val (.int 4), .val .null, .val (.ref yy8)] [(.int cd8), (.ref a1)]) := fun t kt => pre10 t (st11 t kt)
  have hB : narrow .byte (.int cd8) = .int cd8 ∧ fits .byte (.int cd8) = true := by rcases Dy8 with ⟨rfl, -, -⟩ | ⟨rfl, -⟩ <;> exact ⟨rfl, rfl⟩
  obtain ⟨T13, h13, X13, e13, W13, st13⟩ := putFN X11 hx hZ hown (hw _ (own_mG (i := 26) rfl)) Via.refl e11 (Fc.keep K8q nin0) (E_a1.keep K8q) (Or.inr ⟨(hw _ (own_mG (i := 22) rfl)), rfl, hnm⟩) (hw _ (own_mG (i := 6) rfl)) (ty := .byte) (v' := (.int cd8)) (by decide) hB.1 hB.2 (g := (mkF m 48 #[.val (.ref a1), .val (.ref ac), .val (.int 0), .val (.int 4), .val .null, .val (.ref yy8)] [(.int cd8), (.ref a1)])) rfl rfl (hb hby own_d_sI4_48)
  have Fw13 := (Fc.keep K8q nin0).same W13
  have K13 : Keep h0 h13 [a1] := KC8.wr W13 (Or.inl (own_mG (i := 0) rfl))
  have N13 := Fr.snoc X13 N11 g_a1
  have pre14 : Goes p e below s₁ (entryFrame m #[(.ref a1), (.ref ac), (.int 0), (.int 4), .null] 6) T13 (mkF m 51 #[.val (.ref a1), .val (.ref ac), .val (.int 0), .val (.int 4), .val .null, .val (.ref yy8)] []) := fun t kt => pre12 t (st13 t kt)
  have pre15 : Goes p e below s₁ (entryFrame m #[(.ref a1), (.ref ac), (.int 0), (.int 4), .null] 6) T13 (mkF m 54 #[.val (.ref a1), .val (.ref ac), .val (.int 0), .val (.int 4), .val .null, .val (.ref yy8)] [(.ref yy8), (.ref a1)]) := fun t kt => pre14 t (by
      show Steps p.tables e below (T13.setTop (mkF m 51 #[.val (.ref a1), .val (.ref ac), .val (.int 0), .val (.int 4), .val .null, .val (.ref yy8)] [])) _
      refine XS.aloadN X13.here hx rfl (hb hby own_d_sI4_51) rfl rfl ?_
      refine XS.aload X13.here hx rfl (hb hby own_d_sI4_52) rfl rfl ?_
      exact kt)
  obtain ⟨T16, h16, X16, e16, W16, st16⟩ := putF X13 hx hZ hown (host := "") (Or.inl (hw _ (own_mG (i := 25) rfl))) Via.refl e13 ((Fv.keep K8q nin0).other W13 (Or.inr (slot_ne (Or.inr (hw _ (own_mG (i := 21) rfl))) (Or.inr (hw _ (own_mG (i := 22) rfl))) (by decide) (t := (.array .byte)) (t' := .byte) (by decide) (by decide)))) ((E_a1.keep K8q).wr W13) (Or.inr ⟨(hw _ (own_mG (i := 21) rfl)), rfl, hnm⟩) (hw _ (own_mG (i := 6) rfl)) (ty := (.array .byte)) (by decide) rfl rfl (g := (mkF m 54 #[.val (.ref a1), .val (.ref ac), .val (.int 0), .val (.int 4), .val .null, .val (.ref yy8)] [(.ref yy8), (.ref a1)])) rfl rfl (hb hby own_d_sI4_54)
  have Fw16 := ((Fv.keep K8q nin0).other W13 (Or.inr (slot_ne (Or.inr (hw _ (own_mG (i := 21) rfl))) (Or.inr (hw _ (own_mG (i := 22) rfl))) (by decide) (t := (.array .byte)) (t' := .byte) (by decide) (by decide)))).same W16
  have K16 : Keep h0 h16 [a1] := K13.wr W16 (Or.inl (own_mG (i := 0) rfl))
  have N16 := Fr.snoc X16 N13 g_a1
  have pre17 : Goes p e below s₁ (entryFrame m #[(.ref a1), (.ref ac), (.int 0), (.int 4), .null] 6) T16 (mkF m 57 #[.val (.ref a1), .val (.ref ac), .val (.int 0), .val (.int 4), .val .null, .val (.ref yy8)] []) := fun t kt => pre15 t (st16 t kt)
  obtain ⟨fs, hr, hrun, hended, hW, hsame⟩ := X16.leave (v := none) (fun _ => rfl)
  refine ⟨_, _, pre17 _ ?_, hrun, hended, _, _, rfl, ?_, ⟨_, rfl⟩, hW, hsame.mono (by decide) (by decide)⟩
  · show Steps p.tables e below (T16.setTop (mkF m 57 #[.val (.ref a1), .val (.ref ac), .val (.int 0), .val (.int 4), .val .null, .val (.ref yy8)] [])) _
    exact X16.returnOut hx Bd.returns (hb hby own_d_sI4_57) hr
  · show Q_own_sI4 Z a1 ac kc uv uc v0 v1 v2 v3 cs fm h0 n0 _ T16.heap _
    rw [e16]
    exact ⟨rfl, N16, K16, (((E_a1.keep K8q).wr W13).wr W16), cd8, yy8, ky8, (Fw13.other W16 (Or.inr (slot_ne (Or.inr (hw _ (own_mG (i := 22) rfl))) (Or.inr (hw _ (own_mG (i := 21) rfl))) (by decide) (t := .byte) (t' := (.array .byte)) (by decide) (by decide)))), Fw16, ((Dy8.other W13 (Ne.symm (Nat.ne_of_lt (Nat.lt_of_lt_of_le E_a1.lt zy8)))).other W16 (Ne.symm (Nat.ne_of_lt (Nat.lt_of_lt_of_le E_a1.lt zy8))))⟩
theorem own_d_sJ4_0 : decode jdk_42_method_3_code 0 = .ok (.aload_n 0, 1) := by decide +kernel
theorem own_d_sJ4_1 : decode jdk_42_method_3_code 1 = .ok (.aload_n 1, 1) := by decide +kernel
theorem own_d_sJ4_2 : decode jdk_42_method_3_code 2 = .ok (.iconst 0, 1) := by decide +kernel
theorem own_d_sJ4_3 : decode jdk_42_method_3_code 3 = .ok (.aload_n 1, 1) := by decide +kernel
theorem own_d_sJ4_4 : decode jdk_42_method_3_code 4 = .ok (.arraylength, 1) := by decide +kernel
theorem own_d_sJ4_5 : decode jdk_42_method_3_code 5 = .ok (.aconst_null, 1) := by decide +kernel
theorem own_d_sJ4_6 : decode jdk_42_method_3_code 6 = .ok (.invokespecial 27, 3) := by decide +kernel
theorem own_d_sJ4_9 : decode jdk_42_method_3_code 9 = .ok (.return_, 1) := by decide +kernel
theorem own_pn_own_sJ4 : plainName "java/lang/String" = true := by first | (simp [plainName, overriddenIn]; done) | decide +kernel
theorem own_ef_own_sJ4 (m : MethodId) (x0 : Addr) (x1 : Addr) : entryFrame m #[(.ref x0), (.ref x1)] 2 = mkF m 0 #[.val (.ref x0), .val (.ref x1)] [] := by first | (simp [entryFrame, mkF, argsToLocals, Value.category]; done) | rfl
def Q_own_sJ4 (Z : State) (a1 : Addr) (ac : Addr) (kc : ClassId) (uv : Value) (uc : Value) (v0 : Int32) (v1 : Int32) (v2 : Int32) (v3 : Int32) (cs : Int32) (fm : Value) (h0 : Heap) (n0 : Nat) (v : Option Value) (h : Heap) (L : List Loc) : Prop := v = none ∧ Fr n0 L ∧ Keep h0 h [a1] ∧ Exa Z h a1 "java/lang/String" ∧ ∃ (cd : Int32) (y : Addr) (ky : ClassId), Fld Z h a1 "java/lang/String" "coder" "B" (.int cd) ∧ Fld Z h a1 "java/lang/String" "value" "[B" (.ref y) ∧ own_SD Z h y ky cd (4 : Int32) (8 : Int32) [(.int (own_by v0)), (.int (own_by v1)), (.int (own_by v2)), (.int (own_by v3))] [(.int (own_B0 v0)), (.int (own_B1 v0)), (.int (own_B0 v1)), (.int (own_B1 v1)), (.int (own_B0 v2)), (.int (own_B1 v2)), (.int (own_B0 v3)), (.int (own_B1 v3))] (¬ ((255 : Int32) < v0) ∧ ¬ ((255 : Int32) < v1) ∧ ¬ ((255 : Int32) < v2) ∧ ¬ ((255 : Int32) < v3))
set_option maxRecDepth 65536 in
set_option maxHeartbeats 40000000 in
theorem own_sJ4 (l : Launch) (Z : State) (a0 : Array Value) (hw : ∀ d ∈ tables_1, d.before a0 Z = true) (ws : List Jvm.Cond) (a1 : Addr) (ac : Addr) (kc : ClassId) (uv : Value) (uc : Value) (v0 : Int32) (v1 : Int32) (v2 : Int32) (v3 : Int32) (cs : Int32) (fm : Value) (h0 : Heap) (n0 : Nat) (Z0 : n0 ≤ h0.size) (E_a1 : Exa Z h0 a1 "java/lang/String") (Fv : Fld Z h0 a1 "java/lang/String" "value" "[B" uv) (Fc : Fld Z h0 a1 "java/lang/String" "coder" "B" uc) (g_a1 : n0 ≤ a1) (V_ac : Arv Z h0 ac kc .char (4 : Int32) [(.int v0), (.int v1), (.int v2), (.int v3)] (.int 0)) (hl0 : (0 ≤ v0.toInt ∧ v0.toInt < 65536)) (hl1 : (0 ≤ v1.toInt ∧ v1.toInt < 65536)) (hl2 : (0 ≤ v2.toInt ∧ v2.toInt < 65536)) (hl3 : (0 ≤ v3.toInt ∧ v3.toInt < 65536)) (hst : own_ST Z cs fm) (O0 : Old Z n0 h0) :
    MetFree l (⟨"java/lang/String", "<init>", "([C)V"⟩ : MethodName) (head1 (Jvm.Cond.code (⟨"java/lang/String", "<init>", "([C)V"⟩ : MethodName) jdk_42_method_3_code 2 none :: ws) ({ frames := 5, cells := 2, slots := 12, locals := 74 } : Room)) (fun a U => a = #[(.ref a1), (.ref ac)] ∧ Z.Warmed39 U.vm ∧ U.heap = h0) (fun _ _ _ _ _ => True) (fun _ U o U' => ∃ v L, o = .returned v ∧ Q_own_sJ4 Z a1 ac kc uv uc v0 v1 v2 v3 cs fm h0 n0 v U'.heap L ∧ FrameEnd U o U' L ({ frames := 5, cells := 2, slots := 12, locals := 74 } : Room).cells ({ frames := 5, cells := 2, slots := 12, locals := 74 } : Room).slots) := by
  refine MetFree.of_bodySF (plainFor_of_name own_pn_own_sJ4) hisR ?_
  intro p e s m args below meth c s₁ Bd hml0 hP hK
  obtain ⟨rfl, hZ, hh⟩ := hP
  have hx := Bd.exec
  have hby := Bd.bytes
  have hml : c.maxLocals = 2 := hml0
  have hown : s.vm.findClass "java/lang/String" = some m.cls := findClass_of_methodNamed Bd.named
  have hnm := (name_of_methodNamed Bd.named Bd.method).1
  have X0 : Stand p l e ({ frames := 5, cells := 2, slots := 12, locals := 74 } : Room) s m #[(.ref a1), (.ref ac)] below meth c s₁ [] 0 0 := Stand.of_body Bd
  have e0 : s₁.heap = h0 := by rw [← hh, Bd.state]; rfl
  have N0 := Fr.nil n0
  have pre0 : Goes p e below s₁ (entryFrame m #[(.ref a1), (.ref ac)] 2) s₁ (mkF m 0 #[.val (.ref a1), .val (.ref ac)] []) := fun t k => castTop (own_ef_own_sJ4 m a1 ac) k
  have pre1 : Goes p e below s₁ (entryFrame m #[(.ref a1), (.ref ac)] 2) s₁ (mkF m 4 #[.val (.ref a1), .val (.ref ac)] [(.ref ac), (.int 0), (.ref ac), (.ref a1)]) := fun t kt => pre0 t (by
      show Steps p.tables e below (s₁.setTop (mkF m 0 #[.val (.ref a1), .val (.ref ac)] [])) _
      refine XS.aloadN X0.here hx rfl (hb hby own_d_sJ4_0) rfl rfl ?_
      refine XS.aloadN X0.here hx rfl (hb hby own_d_sJ4_1) rfl rfl ?_
      show Steps p.tables e below (s₁.setTop (mkF m 2 #[.val (.ref a1), .val (.ref ac)] [(.ref ac), (.ref a1)])) _
      refine XS.iconst X0.here hx rfl (hb hby own_d_sJ4_2) ?_
      refine XS.aloadN X0.here hx rfl (hb hby own_d_sJ4_3) rfl rfl ?_
      exact kt)
  obtain ⟨cl2, Ar2, q2, S2, N_2, H2, G2⟩ := (id (V_ac))
  have pre3 : Goes p e below s₁ (entryFrame m #[(.ref a1), (.ref ac)] 2) s₁ (mkF m 6 #[.val (.ref a1), .val (.ref ac)] [.null, (.int 4), (.int 0), (.ref ac), (.ref a1)]) := fun t kt => pre1 t (by
      show Steps p.tables e below (s₁.setTop (mkF m 4 #[.val (.ref a1), .val (.ref ac)] [(.ref ac), (.int 0), (.ref ac), (.ref a1)])) _
      refine X0.arraylength hx (by (try rw [e0]); exact Ar2.1) (State.isArrayOf_alike hZ.alike Ar2.2.1) (g := (mkF m 4 #[.val (.ref a1), .val (.ref ac)] [(.ref ac), (.int 0), (.ref ac), (.ref a1)])) rfl rfl (hb hby own_d_sJ4_4) _ ?_
      rw [len_of S2 N_2]
      refine XS.aconstNull X0.here hx rfl (hb hby own_d_sJ4_5) ?_
      exact kt)
  obtain ⟨_, _, ⟨T4, L4, k4, n4⟩, -, X4, ⟨Lc4, hQ4, l4, y4, z4⟩, st4⟩ := X0.specialBack hx (y := (⟨"java/lang/String", "<init>", "([CIILjava/lang/Void;)V"⟩ : MethodName)) rfl hown (mvT hZ (hw _ (own_mG (i := 12) rfl))) (mvT hZ (hw _ (own_mG (i := 13) rfl))) (mvT hZ (hw _ (own_mG (i := 15) rfl))) (by decide) (backOf (W := 0) (own_sI4 l Z a0 hw [] a1 ac kc uv uc v0 v1 v2 v3 cs fm h0 n0 Z0 E_a1 Fv Fc g_a1 V_ac hl0 hl1 hl2 hl3 hst O0) hZ (hw _ (own_mG (i := 15) rfl)) (hw _ (own_mG (i := 7) rfl)) (by decide) (by decide)) (g := (mkF m 6 #[.val (.ref a1), .val (.ref ac)] [.null, (.int 4), (.int 0), (.ref ac), (.ref a1)])) rfl (by rw [hml]; rfl) (Steps.refl _) (a := a1) (argsL := [(.ref ac), (.int 0), (.int 4), .null]) (rest := []) (lenOf own_pd0 rfl) rfl (by show 2 * 0 + _ ≤ _; exact Nat.le_of_eq rfl) (hb hby own_d_sJ4_6) (fun _ _ => ⟨rfl, e0, (by decide : 0 + 2 ≤ _), (by decide : 0 + 12 ≤ _)⟩)
  dsimp only [Pt.U, Pt.locs, Pt.cells, Pt.slots] at X4 l4 y4 z4 st4 hQ4
  subst l4 y4 z4
  obtain ⟨rfl, N4q, K4q, Rest4⟩ := hQ4
  have N4 := Fr.app N0 N4q
  have KC4 : Keep h0 T4.heap [a1] := (Keep.refl h0 [a1]).trans K4q (allS (Or.inl (own_mG (i := 0) rfl)) all0)
  have pre5 : Goes p e below s₁ (entryFrame m #[(.ref a1), (.ref ac)] 2) T4 (mkF m 9 #[.val (.ref a1), .val (.ref ac)] []) := fun t kt => pre3 t (st4.trans kt)
  obtain ⟨fs, hr, hrun, hended, hW, hsame⟩ := X4.leave (v := none) (fun _ => rfl)
  refine ⟨_, _, pre5 _ ?_, hrun, hended, _, _, rfl, ?_, ⟨_, rfl⟩, hW, hsame.mono (by decide) (by decide)⟩
  · show Steps p.tables e below (T4.setTop (mkF m 9 #[.val (.ref a1), .val (.ref ac)] [])) _
    exact X4.returnOut hx Bd.returns (hb hby own_d_sJ4_9) hr
  · show Q_own_sJ4 Z a1 ac kc uv uc v0 v1 v2 v3 cs fm h0 n0 _ T4.heap _
    exact ⟨rfl, N4, KC4, Rest4⟩
theorem own_LD0 {Z : State} {h : Heap} {y : Addr} {ky : ClassId} {cd : Int32} (S : own_SD Z h y ky cd (0 : Int32) (0 : Int32) [] [] (True)) : own_LD Z h y cd (0 : Int32) := by
  rcases S with ⟨hc, hp, V⟩ | ⟨hc, V⟩
  · exact Or.inl ⟨hc, own_Ln.of V⟩
  · exact Or.inr ⟨hc, _, own_Ln.of V, by decide⟩
theorem own_LD1 {Z : State} {h : Heap} {y : Addr} {ky : ClassId} {cd : Int32} {v0 : Int32} (S : own_SD Z h y ky cd (1 : Int32) (2 : Int32) [(.int (own_by v0))] [(.int (own_B0 v0)), (.int (own_B1 v0))] (¬ ((255 : Int32) < v0))) : own_LD Z h y cd (1 : Int32) := by
  rcases S with ⟨hc, hp, V⟩ | ⟨hc, V⟩
  · exact Or.inl ⟨hc, own_Ln.of V⟩
  · exact Or.inr ⟨hc, _, own_Ln.of V, by decide⟩
theorem own_RD10 {Z : State} {h : Heap} {y : Addr} {ky : ClassId} {cd : Int32} {v0 : Int32} (S : own_SD Z h y ky cd (1 : Int32) (2 : Int32) [(.int (own_by v0))] [(.int (own_B0 v0)), (.int (own_B1 v0))] (¬ ((255 : Int32) < v0))) (hl : (0 ≤ v0.toInt ∧ v0.toInt < 65536)) : own_RD Z h y cd (0 : Int32) v0 := by
  rcases S with ⟨hc, hp, V⟩ | ⟨hc, V⟩
  · exact Or.inl ⟨hc, _, (own_by v0), own_Ln.of V, own_At.of V (by decide) rfl, by decide, own_lc v0 hl hp⟩
  · exact Or.inr ⟨hc, _, (own_B0 v0), (own_B1 v0), own_Ln.of V, own_At.of V (by decide) rfl, own_At.of V (by decide) rfl, by decide, own_gc v0 hl⟩
theorem own_LD2 {Z : State} {h : Heap} {y : Addr} {ky : ClassId} {cd : Int32} {v0 : Int32} {v1 : Int32} (S : own_SD Z h y ky cd (2 : Int32) (4 : Int32) [(.int (own_by v0)), (.int (own_by v1))] [(.int (own_B0 v0)), (.int (own_B1 v0)), (.int (own_B0 v1)), (.int (own_B1 v1))] (¬ ((255 : Int32) < v0) ∧ ¬ ((255 : Int32) < v1))) : own_LD Z h y cd (2 : Int32) := by
  rcases S with ⟨hc, hp, V⟩ | ⟨hc, V⟩
  · exact Or.inl ⟨hc, own_Ln.of V⟩
  · exact Or.inr ⟨hc, _, own_Ln.of V, by decide⟩
theorem own_RD20 {Z : State} {h : Heap} {y : Addr} {ky : ClassId} {cd : Int32} {v0 : Int32} {v1 : Int32} (S : own_SD Z h y ky cd (2 : Int32) (4 : Int32) [(.int (own_by v0)), (.int (own_by v1))] [(.int (own_B0 v0)), (.int (own_B1 v0)), (.int (own_B0 v1)), (.int (own_B1 v1))] (¬ ((255 : Int32) < v0) ∧ ¬ ((255 : Int32) < v1))) (hl : (0 ≤ v0.toInt ∧ v0.toInt < 65536)) : own_RD Z h y cd (0 : Int32) v0 := by
  rcases S with ⟨hc, hp, V⟩ | ⟨hc, V⟩
  · exact Or.inl ⟨hc, _, (own_by v0), own_Ln.of V, own_At.of V (by decide) rfl, by decide, own_lc v0 hl hp.1⟩
  · exact Or.inr ⟨hc, _, (own_B0 v0), (own_B1 v0), own_Ln.of V, own_At.of V (by decide) rfl, own_At.of V (by decide) rfl, by decide, own_gc v0 hl⟩
theorem own_RD21 {Z : State} {h : Heap} {y : Addr} {ky : ClassId} {cd : Int32} {v0 : Int32} {v1 : Int32} (S : own_SD Z h y ky cd (2 : Int32) (4 : Int32) [(.int (own_by v0)), (.int (own_by v1))] [(.int (own_B0 v0)), (.int (own_B1 v0)), (.int (own_B0 v1)), (.int (own_B1 v1))] (¬ ((255 : Int32) < v0) ∧ ¬ ((255 : Int32) < v1))) (hl : (0 ≤ v1.toInt ∧ v1.toInt < 65536)) : own_RD Z h y cd (1 : Int32) v1 := by
  rcases S with ⟨hc, hp, V⟩ | ⟨hc, V⟩
  · exact Or.inl ⟨hc, _, (own_by v1), own_Ln.of V, own_At.of V (by decide) rfl, by decide, own_lc v1 hl hp.2⟩
  · exact Or.inr ⟨hc, _, (own_B0 v1), (own_B1 v1), own_Ln.of V, own_At.of V (by decide) rfl, own_At.of V (by decide) rfl, by decide, own_gc v1 hl⟩
theorem own_LD3 {Z : State} {h : Heap} {y : Addr} {ky : ClassId} {cd : Int32} {v0 : Int32} {v1 : Int32} {v2 : Int32} (S : own_SD Z h y ky cd (3 : Int32) (6 : Int32) [(.int (own_by v0)), (.int (own_by v1)), (.int (own_by v2))] [(.int (own_B0 v0)), (.int (own_B1 v0)), (.int (own_B0 v1)), (.int (own_B1 v1)), (.int (own_B0 v2)), (.int (own_B1 v2))] (¬ ((255 : Int32) < v0) ∧ ¬ ((255 : Int32) < v1) ∧ ¬ ((255 : Int32) < v2))) : own_LD Z h y cd (3 : Int32) := by
  rcases S with ⟨hc, hp, V⟩ | ⟨hc, V⟩
  · exact Or.inl ⟨hc, own_Ln.of V⟩
  · exact Or.inr ⟨hc, _, own_Ln.of V, by decide⟩
theorem own_RD30 {Z : State} {h : Heap} {y : Addr} {ky : ClassId} {cd : Int32} {v0 : Int32} {v1 : Int32} {v2 : Int32} (S : own_SD Z h y ky cd (3 : Int32) (6 : Int32) [(.int (own_by v0)), (.int (own_by v1)), (.int (own_by v2))] [(.int (own_B0 v0)), (.int (own_B1 v0)), (.int (own_B0 v1)), (.int (own_B1 v1)), (.int (own_B0 v2)), (.int (own_B1 v2))] (¬ ((255 : Int32) < v0) ∧ ¬ ((255 : Int32) < v1) ∧ ¬ ((255 : Int32) < v2))) (hl : (0 ≤ v0.toInt ∧ v0.toInt < 65536)) : own_RD Z h y cd (0 : Int32) v0 := by
  rcases S with ⟨hc, hp, V⟩ | ⟨hc, V⟩
  · exact Or.inl ⟨hc, _, (own_by v0), own_Ln.of V, own_At.of V (by decide) rfl, by decide, own_lc v0 hl hp.1⟩
  · exact Or.inr ⟨hc, _, (own_B0 v0), (own_B1 v0), own_Ln.of V, own_At.of V (by decide) rfl, own_At.of V (by decide) rfl, by decide, own_gc v0 hl⟩
theorem own_RD31 {Z : State} {h : Heap} {y : Addr} {ky : ClassId} {cd : Int32} {v0 : Int32} {v1 : Int32} {v2 : Int32} (S : own_SD Z h y ky cd (3 : Int32) (6 : Int32) [(.int (own_by v0)), (.int (own_by v1)), (.int (own_by v2))] [(.int (own_B0 v0)), (.int (own_B1 v0)), (.int (own_B0 v1)), (.int (own_B1 v1)), (.int (own_B0 v2)), (.int (own_B1 v2))] (¬ ((255 : Int32) < v0) ∧ ¬ ((255 : Int32) < v1) ∧ ¬ ((255 : Int32) < v2))) (hl : (0 ≤ v1.toInt ∧ v1.toInt < 65536)) : own_RD Z h y cd (1 : Int32) v1 := by
  rcases S with ⟨hc, hp, V⟩ | ⟨hc, V⟩
  · exact Or.inl ⟨hc, _, (own_by v1), own_Ln.of V, own_At.of V (by decide) rfl, by decide, own_lc v1 hl hp.2.1⟩
  · exact Or.inr ⟨hc, _, (own_B0 v1), (own_B1 v1), own_Ln.of V, own_At.of V (by decide) rfl, own_At.of V (by decide) rfl, by decide, own_gc v1 hl⟩
theorem own_RD32 {Z : State} {h : Heap} {y : Addr} {ky : ClassId} {cd : Int32} {v0 : Int32} {v1 : Int32} {v2 : Int32} (S : own_SD Z h y ky cd (3 : Int32) (6 : Int32) [(.int (own_by v0)), (.int (own_by v1)), (.int (own_by v2))] [(.int (own_B0 v0)), (.int (own_B1 v0)), (.int (own_B0 v1)), (.int (own_B1 v1)), (.int (own_B0 v2)), (.int (own_B1 v2))] (¬ ((255 : Int32) < v0) ∧ ¬ ((255 : Int32) < v1) ∧ ¬ ((255 : Int32) < v2))) (hl : (0 ≤ v2.toInt ∧ v2.toInt < 65536)) : own_RD Z h y cd (2 : Int32) v2 := by
  rcases S with ⟨hc, hp, V⟩ | ⟨hc, V⟩
  · exact Or.inl ⟨hc, _, (own_by v2), own_Ln.of V, own_At.of V (by decide) rfl, by decide, own_lc v2 hl hp.2.2⟩
  · exact Or.inr ⟨hc, _, (own_B0 v2), (own_B1 v2), own_Ln.of V, own_At.of V (by decide) rfl, own_At.of V (by decide) rfl, by decide, own_gc v2 hl⟩
theorem own_LD4 {Z : State} {h : Heap} {y : Addr} {ky : ClassId} {cd : Int32} {v0 : Int32} {v1 : Int32} {v2 : Int32} {v3 : Int32} (S : own_SD Z h y ky cd (4 : Int32) (8 : Int32) [(.int (own_by v0)), (.int (own_by v1)), (.int (own_by v2)), (.int (own_by v3))] [(.int (own_B0 v0)), (.int (own_B1 v0)), (.int (own_B0 v1)), (.int (own_B1 v1)), (.int (own_B0 v2)), (.int (own_B1 v2)), (.int (own_B0 v3)), (.int (own_B1 v3))] (¬ ((255 : Int32) < v0) ∧ ¬ ((255 : Int32) < v1) ∧ ¬ ((255 : Int32) < v2) ∧ ¬ ((255 : Int32) < v3))) : own_LD Z h y cd (4 : Int32) := by
  rcases S with ⟨hc, hp, V⟩ | ⟨hc, V⟩
  · exact Or.inl ⟨hc, own_Ln.of V⟩
  · exact Or.inr ⟨hc, _, own_Ln.of V, by decide⟩
theorem own_RD40 {Z : State} {h : Heap} {y : Addr} {ky : ClassId} {cd : Int32} {v0 : Int32} {v1 : Int32} {v2 : Int32} {v3 : Int32} (S : own_SD Z h y ky cd (4 : Int32) (8 : Int32) [(.int (own_by v0)), (.int (own_by v1)), (.int (own_by v2)), (.int (own_by v3))] [(.int (own_B0 v0)), (.int (own_B1 v0)), (.int (own_B0 v1)), (.int (own_B1 v1)), (.int (own_B0 v2)), (.int (own_B1 v2)), (.int (own_B0 v3)), (.int (own_B1 v3))] (¬ ((255 : Int32) < v0) ∧ ¬ ((255 : Int32) < v1) ∧ ¬ ((255 : Int32) < v2) ∧ ¬ ((255 : Int32) < v3))) (hl : (0 ≤ v0.toInt ∧ v0.toInt < 65536)) : own_RD Z h y cd (0 : Int32) v0 := by
  rcases S with ⟨hc, hp, V⟩ | ⟨hc, V⟩
  · exact Or.inl ⟨hc, _, (own_by v0), own_Ln.of V, own_At.of V (by decide) rfl, by decide, own_lc v0 hl hp.1⟩
  · exact Or.inr ⟨hc, _, (own_B0 v0), (own_B1 v0), own_Ln.of V, own_At.of V (by decide) rfl, own_At.of V (by decide) rfl, by decide, own_gc v0 hl⟩
theorem own_RD41 {Z : State} {h : Heap} {y : Addr} {ky : ClassId} {cd : Int32} {v0 : Int32} {v1 : Int32} {v2 : Int32} {v3 : Int32} (S : own_SD Z h y ky cd (4 : Int32) (8 : Int32) [(.int (own_by v0)), (.int (own_by v1)), (.int (own_by v2)), (.int (own_by v3))] [(.int (own_B0 v0)), (.int (own_B1 v0)), (.int (own_B0 v1)), (.int (own_B1 v1)), (.int (own_B0 v2)), (.int (own_B1 v2)), (.int (own_B0 v3)), (.int (own_B1 v3))] (¬ ((255 : Int32) < v0) ∧ ¬ ((255 : Int32) < v1) ∧ ¬ ((255 : Int32) < v2) ∧ ¬ ((255 : Int32) < v3))) (hl : (0 ≤ v1.toInt ∧ v1.toInt < 65536)) : own_RD Z h y cd (1 : Int32) v1 := by
  rcases S with ⟨hc, hp, V⟩ | ⟨hc, V⟩
  · exact Or.inl ⟨hc, _, (own_by v1), own_Ln.of V, own_At.of V (by decide) rfl, by decide, own_lc v1 hl hp.2.1⟩
  · exact Or.inr ⟨hc, _, (own_B0 v1), (own_B1 v1), own_Ln.of V, own_At.of V (by decide) rfl, own_At.of V (by decide) rfl, by decide, own_gc v1 hl⟩
theorem own_RD42 {Z : State} {h : Heap} {y : Addr} {ky : ClassId} {cd : Int32} {v0 : Int32} {v1 : Int32} {v2 : Int32} {v3 : Int32} (S : own_SD Z h y ky cd (4 : Int32) (8 : Int32) [(.int (own_by v0)), (.int (own_by v1)), (.int (own_by v2)), (.int (own_by v3))] [(.int (own_B0 v0)), (.int (own_B1 v0)), (.int (own_B0 v1)), (.int (own_B1 v1)), (.int (own_B0 v2)), (.int (own_B1 v2)), (.int (own_B0 v3)), (.int (own_B1 v3))] (¬ ((255 : Int32) < v0) ∧ ¬ ((255 : Int32) < v1) ∧ ¬ ((255 : Int32) < v2) ∧ ¬ ((255 : Int32) < v3))) (hl : (0 ≤ v2.toInt ∧ v2.toInt < 65536)) : own_RD Z h y cd (2 : Int32) v2 := by
  rcases S with ⟨hc, hp, V⟩ | ⟨hc, V⟩
  · exact Or.inl ⟨hc, _, (own_by v2), own_Ln.of V, own_At.of V (by decide) rfl, by decide, own_lc v2 hl hp.2.2.1⟩
  · exact Or.inr ⟨hc, _, (own_B0 v2), (own_B1 v2), own_Ln.of V, own_At.of V (by decide) rfl, own_At.of V (by decide) rfl, by decide, own_gc v2 hl⟩
theorem own_RD43 {Z : State} {h : Heap} {y : Addr} {ky : ClassId} {cd : Int32} {v0 : Int32} {v1 : Int32} {v2 : Int32} {v3 : Int32} (S : own_SD Z h y ky cd (4 : Int32) (8 : Int32) [(.int (own_by v0)), (.int (own_by v1)), (.int (own_by v2)), (.int (own_by v3))] [(.int (own_B0 v0)), (.int (own_B1 v0)), (.int (own_B0 v1)), (.int (own_B1 v1)), (.int (own_B0 v2)), (.int (own_B1 v2)), (.int (own_B0 v3)), (.int (own_B1 v3))] (¬ ((255 : Int32) < v0) ∧ ¬ ((255 : Int32) < v1) ∧ ¬ ((255 : Int32) < v2) ∧ ¬ ((255 : Int32) < v3))) (hl : (0 ≤ v3.toInt ∧ v3.toInt < 65536)) : own_RD Z h y cd (3 : Int32) v3 := by
  rcases S with ⟨hc, hp, V⟩ | ⟨hc, V⟩
  · exact Or.inl ⟨hc, _, (own_by v3), own_Ln.of V, own_At.of V (by decide) rfl, by decide, own_lc v3 hl hp.2.2.2⟩
  · exact Or.inr ⟨hc, _, (own_B0 v3), (own_B1 v3), own_Ln.of V, own_At.of V (by decide) rfl, own_At.of V (by decide) rfl, by decide, own_gc v3 hl⟩
theorem own_d1_0 : decode method_2_code 0 = .ok (.iload_n 0, 1) := by decide +kernel
theorem own_d1_1 : decode method_2_code 1 = .ok (.iconst 1, 1) := by decide +kernel
theorem own_d1_2 : decode method_2_code 2 = .ok (.iand, 1) := by decide +kernel
theorem own_d1_3 : decode method_2_code 3 = .ok (.ifCond .eq 14, 3) := by decide +kernel
theorem own_d1_6 : decode method_2_code 6 = .ok (.bipush 46, 2) := by decide +kernel
theorem own_d1_8 : decode method_2_code 8 = .ok (.iload_n 0, 1) := by decide +kernel
theorem own_d1_9 : decode method_2_code 9 = .ok (.iconst 1, 1) := by decide +kernel
theorem own_d1_10 : decode method_2_code 10 = .ok (.iushr, 1) := by decide +kernel
theorem own_d1_11 : decode method_2_code 11 = .ok (.bipush 15, 2) := by decide +kernel
theorem own_d1_13 : decode method_2_code 13 = .ok (.iand, 1) := by decide +kernel
theorem own_d1_14 : decode method_2_code 14 = .ok (.iadd, 1) := by decide +kernel
theorem own_d1_15 : decode method_2_code 15 = .ok (.i2c, 1) := by decide +kernel
theorem own_d1_16 : decode method_2_code 16 = .ok (.ireturn, 1) := by decide +kernel
theorem own_d1_17 : decode method_2_code 17 = .ok (.iload_n 0, 1) := by decide +kernel
theorem own_d1_18 : decode method_2_code 18 = .ok (.iconst 1, 1) := by decide +kernel
theorem own_d1_19 : decode method_2_code 19 = .ok (.iushr, 1) := by decide +kernel
theorem own_d1_20 : decode method_2_code 20 = .ok (.i2c, 1) := by decide +kernel
theorem own_d1_21 : decode method_2_code 21 = .ok (.ireturn, 1) := by decide +kernel
theorem own_pn_own_draw : plainName "com/example/tallygate/tallygate/AddressLiteralsIsDecimalPinLaw" = true := by first | (simp [plainName, overriddenIn]; done) | decide +kernel
theorem own_ef_own_draw (m : MethodId) (x0 : Int32) : entryFrame m #[(.int x0)] 1 = mkF m 0 #[.val (.int x0)] [] := by first | (simp [entryFrame, mkF, argsToLocals, Value.category]; done) | rfl
def Q_own_draw (Z : State) (p1 : Int32) (h0 : Heap) (n0 : Nat) (v : Option Value) (h : Heap) (L : List Loc) : Prop := ∃ z : Int32, v = some (.int z) ∧ Fr n0 L ∧ h = h0 ∧ (0 ≤ z.toInt ∧ z.toInt < 65536)
set_option maxRecDepth 65536 in
set_option maxHeartbeats 40000000 in
theorem own_draw (l : Launch) (Z : State) (a0 : Array Value) (hw : ∀ d ∈ tables_1, d.before a0 Z = true) (ws : List Jvm.Cond) (p1 : Int32) (h0 : Heap) (n0 : Nat) (Z0 : n0 ≤ h0.size) :
    MetFree l (⟨"com/example/tallygate/tallygate/AddressLiteralsIsDecimalPinLaw", "draw", "(I)C"⟩ : MethodName) (head1 (Jvm.Cond.code (⟨"com/example/tallygate/tallygate/AddressLiteralsIsDecimalPinLaw", "draw", "(I)C"⟩ : MethodName) method_2_code 1 (some .char) :: ws) ({ frames := 0, cells := 0, slots := 0, locals := 0 } : Room)) (fun a U => a = #[(.int p1)] ∧ Z.Warmed39 U.vm ∧ U.heap = h0) (fun _ _ _ _ _ => True) (fun _ U o U' => ∃ v L, o = .returned v ∧ Q_own_draw Z p1 h0 n0 v U'.heap L ∧ FrameEnd U o U' L ({ frames := 0, cells := 0, slots := 0, locals := 0 } : Room).cells ({ frames := 0, cells := 0, slots := 0, locals := 0 } : Room).slots) := by
  refine MetFree.of_bodySF (plainFor_of_name own_pn_own_draw) hisR ?_
  intro p e s m args below meth c s₁ Bd hml0 hP hK
  obtain ⟨rfl, hZ, hh⟩ := hP
  have hx := Bd.exec
  have hby := Bd.bytes
  have hml : c.maxLocals = 1 := hml0
  have hown : s.vm.findClass "com/example/tallygate/tallygate/AddressLiteralsIsDecimalPinLaw" = some m.cls := findClass_of_methodNamed Bd.named
  have hnm := (name_of_methodNamed Bd.named Bd.method).1
  have X0 : Stand p l e ({ frames := 0, cells := 0, slots := 0, locals := 0 } : Room) s m #[(.int p1)] below meth c s₁ [] 0 0 := Stand.of_body Bd
  have e0 : s₁.heap = h0 := by rw [← hh, Bd.state]; rfl
  have N0 := Fr.nil n0
  have pre0 : Goes p e below s₁ (entryFrame m #[(.int p1)] 1) s₁ (mkF m 0 #[.val (.int p1)] []) := fun t k => castTop (own_ef_own_draw m p1) k
  have pre1 : Goes p e below s₁ (entryFrame m #[(.int p1)] 1) s₁ (mkF m 3 #[.val (.int p1)] [(.int (p1 &&& (1 : Int32)))]) := fun t kt => pre0 t (by
      show Steps p.tables e below (s₁.setTop (mkF m 0 #[.val (.int p1)] [])) _
      refine XS.iloadN X0.here hx rfl (hb hby own_d1_0) rfl ?_
      refine XS.iconst X0.here hx rfl (hb hby own_d1_1) ?_
      show Steps p.tables e below (s₁.setTop (mkF m 2 #[.val (.int p1)] [(.int 1), (.int p1)])) _
      refine XS.iand X0.here hx rfl (hb hby own_d1_2) rfl ?_
      exact kt)
  by_cases hc3_2 : (p1 &&& (1 : Int32)) = (0 : Int32)
  · -- yes at pc 3: 
    have pre3 : Goes p e below s₁ (entryFrame m #[(.int p1)] 1) s₁ (mkF m 21 #[.val (.int p1)] [(.int (((p1.toUInt32 >>> ((1 : Int32) &&& 31).toUInt32).toInt32).toUInt32.toUInt16.toUInt32.toInt32))]) := fun t kt => pre1 t (by
        show Steps p.tables e below (s₁.setTop (mkF m 3 #[.val (.int p1)] [(.int (p1 &&& (1 : Int32)))])) _
        refine XS.ifYes X0.here hx rfl (pc0 := 3) (pc' := 17) rfl (hb hby own_d1_3) rfl ((if0 _ _).trans (teq hc3_2).1) (by decide) (by decide) ?_
        refine XS.iloadN X0.here hx rfl (hb hby own_d1_17) rfl ?_
        show Steps p.tables e below (s₁.setTop (mkF m 18 #[.val (.int p1)] [(.int p1)])) _
        refine XS.iconst X0.here hx rfl (hb hby own_d1_18) ?_
        refine XS.iushr X0.here hx rfl (hb hby own_d1_19) rfl ?_
        show Steps p.tables e below (s₁.setTop (mkF m 20 #[.val (.int p1)] [(.int ((p1.toUInt32 >>> ((1 : Int32) &&& 31).toUInt32).toInt32))])) _
        refine XS.i2c X0.here hx rfl (hb hby own_d1_20) rfl ?_
        exact kt)
    obtain ⟨fs, hr, hrun, hended, hW, hsame⟩ := X0.leave (v := some (.int (nar .char (((p1.toUInt32 >>> ((1 : Int32) &&& 31).toUInt32).toInt32).toUInt32.toUInt16.toUInt32.toInt32)))) (fun h => by rw [Bd.returns] at h; cases h)
    refine ⟨_, _, pre3 _ ?_, hrun, hended, _, _, rfl, ?_, ⟨_, rfl⟩, hW, hsame.mono (by decide) (by decide)⟩
    · show Steps p.tables e below (s₁.setTop (mkF m 21 #[.val (.int p1)] [(.int (((p1.toUInt32 >>> ((1 : Int32) &&& 31).toUInt32).toInt32).toUInt32.toUInt16.toUInt32.toInt32))])) _
      exact retN X0 hx (t := .char) Bd.returns (by simp) (hb hby own_d1_21) hr
    · show Q_own_draw Z p1 h0 n0 _ s₁.heap _
      rw [e0]
      exact ⟨_, rfl, N0, rfl, own_ncr _⟩
  · -- no at pc 3: 
    have pre4 : Goes p e below s₁ (entryFrame m #[(.int p1)] 1) s₁ (mkF m 16 #[.val (.int p1)] [(.int (((46 : Int32) + (((p1.toUInt32 >>> ((1 : Int32) &&& 31).toUInt32).toInt32) &&& (15 : Int32))).toUInt32.toUInt16.toUInt32.toInt32))]) := fun t kt => pre1 t (by
        show Steps p.tables e below (s₁.setTop (mkF m 3 #[.val (.int p1)] [(.int (p1 &&& (1 : Int32)))])) _
        refine XS.ifNo X0.here hx rfl (hb hby own_d1_3) rfl ((if0 _ _).trans (feq hc3_2).1) ?_
        refine XS.bipush X0.here hx rfl (hb hby own_d1_6) ?_
        show Steps p.tables e below (s₁.setTop (mkF m 8 #[.val (.int p1)] [(.int 46)])) _
        refine XS.iloadN X0.here hx rfl (hb hby own_d1_8) rfl ?_
        refine XS.iconst X0.here hx rfl (hb hby own_d1_9) ?_
        show Steps p.tables e below (s₁.setTop (mkF m 10 #[.val (.int p1)] [(.int 1), (.int p1), (.int 46)])) _
        refine XS.iushr X0.here hx rfl (hb hby own_d1_10) rfl ?_
        refine XS.bipush X0.here hx rfl (hb hby own_d1_11) ?_
        show Steps p.tables e below (s₁.setTop (mkF m 13 #[.val (.int p1)] [(.int 15), (.int ((p1.toUInt32 >>> ((1 : Int32) &&& 31).toUInt32).toInt32)), (.int 46)])) _
        refine XS.iand X0.here hx rfl (hb hby own_d1_13) rfl ?_
        refine XS.iadd X0.here hx rfl (hb hby own_d1_14) rfl ?_
        show Steps p.tables e below (s₁.setTop (mkF m 15 #[.val (.int p1)] [(.int ((46 : Int32) + (((p1.toUInt32 >>> ((1 : Int32) &&& 31).toUInt32).toInt32) &&& (15 : Int32))))])) _
        refine XS.i2c X0.here hx rfl (hb hby own_d1_15) rfl ?_
        exact kt)
    obtain ⟨fs, hr, hrun, hended, hW, hsame⟩ := X0.leave (v := some (.int (nar .char (((46 : Int32) + (((p1.toUInt32 >>> ((1 : Int32) &&& 31).toUInt32).toInt32) &&& (15 : Int32))).toUInt32.toUInt16.toUInt32.toInt32)))) (fun h => by rw [Bd.returns] at h; cases h)
    refine ⟨_, _, pre4 _ ?_, hrun, hended, _, _, rfl, ?_, ⟨_, rfl⟩, hW, hsame.mono (by decide) (by decide)⟩
    · show Steps p.tables e below (s₁.setTop (mkF m 16 #[.val (.int p1)] [(.int (((46 : Int32) + (((p1.toUInt32 >>> ((1 : Int32) &&& 31).toUInt32).toInt32) &&& (15 : Int32))).toUInt32.toUInt16.toUInt32.toInt32))])) _
      exact retN X0 hx (t := .char) Bd.returns (by simp) (hb hby own_d1_16) hr
    · show Q_own_draw Z p1 h0 n0 _ s₁.heap _
      rw [e0]
      exact ⟨_, rfl, N0, rfl, own_ncr _⟩
theorem own_d11_0 : decode method_3_code 0 = .ok (.iload_n 0, 1) := by decide +kernel
theorem own_d11_1 : decode method_3_code 1 = .ok (.bipush 48, 2) := by decide +kernel
theorem own_d11_3 : decode method_3_code 3 = .ok (.if_icmp .lt 13, 3) := by decide +kernel
theorem own_d11_6 : decode method_3_code 6 = .ok (.iload_n 0, 1) := by decide +kernel
theorem own_d11_7 : decode method_3_code 7 = .ok (.bipush 57, 2) := by decide +kernel
theorem own_d11_9 : decode method_3_code 9 = .ok (.if_icmp .gt 7, 3) := by decide +kernel
theorem own_d11_12 : decode method_3_code 12 = .ok (.iconst 1, 1) := by decide +kernel
theorem own_d11_13 : decode method_3_code 13 = .ok (.goto 4, 3) := by decide +kernel
theorem own_d11_16 : decode method_3_code 16 = .ok (.iconst 0, 1) := by decide +kernel
theorem own_d11_17 : decode method_3_code 17 = .ok (.ireturn, 1) := by decide +kernel
theorem own_pn_own_digit : plainName "com/example/tallygate/tallygate/AddressLiteralsIsDecimalPinLaw" = true := by first | (simp [plainName, overriddenIn]; done) | decide +kernel
theorem own_ef_own_digit (m : MethodId) (x0 : Int32) : entryFrame m #[(.int x0)] 1 = mkF m 0 #[.val (.int x0)] [] := by first | (simp [entryFrame, mkF, argsToLocals, Value.category]; done) | rfl
def Q_own_digit (Z : State) (p1 : Int32) (h0 : Heap) (n0 : Nat) (v : Option Value) (h : Heap) (L : List Loc) : Prop := ∃ z : Int32, v = some (.int z) ∧ Fr n0 L ∧ h = h0 ∧ ((z = (1 : Int32) ∧ own_dg p1) ∨ (z = (0 : Int32) ∧ ¬ own_dg p1))
set_option maxRecDepth 65536 in
set_option maxHeartbeats 40000000 in
theorem own_digit (l : Launch) (Z : State) (a0 : Array Value) (hw : ∀ d ∈ tables_1, d.before a0 Z = true) (ws : List Jvm.Cond) (p1 : Int32) (h0 : Heap) (n0 : Nat) (Z0 : n0 ≤ h0.size) :
    MetFree l (⟨"com/example/tallygate/tallygate/AddressLiteralsIsDecimalPinLaw", "digit", "(C)Z"⟩ : MethodName) (head1 (Jvm.Cond.code (⟨"com/example/tallygate/tallygate/AddressLiteralsIsDecimalPinLaw", "digit", "(C)Z"⟩ : MethodName) method_3_code 1 (some .boolean) :: ws) ({ frames := 0, cells := 0, slots := 0, locals := 0 } : Room)) (fun a U => a = #[(.int p1)] ∧ Z.Warmed39 U.vm ∧ U.heap = h0) (fun _ _ _ _ _ => True) (fun _ U o U' => ∃ v L, o = .returned v ∧ Q_own_digit Z p1 h0 n0 v U'.heap L ∧ FrameEnd U o U' L ({ frames := 0, cells := 0, slots := 0, locals := 0 } : Room).cells ({ frames := 0, cells := 0, slots := 0, locals := 0 } : Room).slots) := by
  refine MetFree.of_bodySF (plainFor_of_name own_pn_own_digit) hisR ?_
  intro p e s m args below meth c s₁ Bd hml0 hP hK
  obtain ⟨rfl, hZ, hh⟩ := hP
  have hx := Bd.exec
  have hby := Bd.bytes
  have hml : c.maxLocals = 1 := hml0
  have hown : s.vm.findClass "com/example/tallygate/tallygate/AddressLiteralsIsDecimalPinLaw" = some m.cls := findClass_of_methodNamed Bd.named
  have hnm := (name_of_methodNamed Bd.named Bd.method).1
  have X0 : Stand p l e ({ frames := 0, cells := 0, slots := 0, locals := 0 } : Room) s m #[(.int p1)] below meth c s₁ [] 0 0 := Stand.of_body Bd
  have e0 : s₁.heap = h0 := by rw [← hh, Bd.state]; rfl
  have N0 := Fr.nil n0
  have pre0 : Goes p e below s₁ (entryFrame m #[(.int p1)] 1) s₁ (mkF m 0 #[.val (.int p1)] []) := fun t k => castTop (own_ef_own_digit m p1) k
  have pre1 : Goes p e below s₁ (entryFrame m #[(.int p1)] 1) s₁ (mkF m 3 #[.val (.int p1)] [(.int 48), (.int p1)]) := fun t kt => pre0 t (by
      show Steps p.tables e below (s₁.setTop (mkF m 0 #[.val (.int p1)] [])) _
      refine XS.iloadN X0.here hx rfl (hb hby own_d11_0) rfl ?_
      refine XS.bipush X0.here hx rfl (hb hby own_d11_1) ?_
      exact kt)
  by_cases hc3_2 : p1 < (48 : Int32)
  · -- yes at pc 3: 
    have pre3 : Goes p e below s₁ (entryFrame m #[(.int p1)] 1) s₁ (mkF m 17 #[.val (.int p1)] [(.int 0)]) := fun t kt => pre1 t (by
        show Steps p.tables e below (s₁.setTop (mkF m 3 #[.val (.int p1)] [(.int 48), (.int p1)])) _
        refine XS.icmpYes X0.here hx rfl (pc0 := 3) (pc' := 16) rfl (hb hby own_d11_3) rfl (tlt hc3_2).1 (by decide) (by decide) ?_
        refine XS.iconst X0.here hx rfl (hb hby own_d11_16) ?_
        exact kt)
    obtain ⟨fs, hr, hrun, hended, hW, hsame⟩ := X0.leave (v := some (.int 0)) (fun h => by rw [Bd.returns] at h; cases h)
    refine ⟨_, _, pre3 _ ?_, hrun, hended, _, _, rfl, ?_, ⟨_, rfl⟩, hW, hsame.mono (by decide) (by decide)⟩
    · show Steps p.tables e below (s₁.setTop (mkF m 17 #[.val (.int p1)] [(.int 0)])) _
      exact retN X0 hx (t := .boolean) Bd.returns (by simp) (hb hby own_d11_17) hr
    · show Q_own_digit Z p1 h0 n0 _ s₁.heap _
      rw [e0]
      exact ⟨_, rfl, N0, rfl, Or.inr ⟨rfl, fun q => q.1 hc3_2⟩⟩
  · -- no at pc 3: 
    have pre4 : Goes p e below s₁ (entryFrame m #[(.int p1)] 1) s₁ (mkF m 9 #[.val (.int p1)] [(.int 57), (.int p1)]) := fun t kt => pre1 t (by
        show Steps p.tables e below (s₁.setTop (mkF m 3 #[.val (.int p1)] [(.int 48), (.int p1)])) _
        refine XS.icmpNo X0.here hx rfl (hb hby own_d11_3) rfl (flt hc3_2).1 ?_
        refine XS.iloadN X0.here hx rfl (hb hby own_d11_6) rfl ?_
        show Steps p.tables e below (s₁.setTop (mkF m 7 #[.val (.int p1)] [(.int p1)])) _
        refine XS.bipush X0.here hx rfl (hb hby own_d11_7) ?_
        exact kt)
    by_cases hc9_5 : (57 : Int32) < p1
    · -- yes at pc 9: f
      have pre6 : Goes p e below s₁ (entryFrame m #[(.int p1)] 1) s₁ (mkF m 17 #[.val (.int p1)] [(.int 0)]) := fun t kt => pre4 t (by
          show Steps p.tables e below (s₁.setTop (mkF m 9 #[.val (.int p1)] [(.int 57), (.int p1)])) _
          refine XS.icmpYes X0.here hx rfl (pc0 := 9) (pc' := 16) rfl (hb hby own_d11_9) rfl (tlt hc9_5).2.2.1 (by decide) (by decide) ?_
          refine XS.iconst X0.here hx rfl (hb hby own_d11_16) ?_
          exact kt)
      obtain ⟨fs, hr, hrun, hended, hW, hsame⟩ := X0.leave (v := some (.int 0)) (fun h => by rw [Bd.returns] at h; cases h)
      refine ⟨_, _, pre6 _ ?_, hrun, hended, _, _, rfl, ?_, ⟨_, rfl⟩, hW, hsame.mono (by decide) (by decide)⟩
      · show Steps p.tables e below (s₁.setTop (mkF m 17 #[.val (.int p1)] [(.int 0)])) _
        exact retN X0 hx (t := .boolean) Bd.returns (by simp) (hb hby own_d11_17) hr
      · show Q_own_digit Z p1 h0 n0 _ s₁.heap _
        rw [e0]
        exact ⟨_, rfl, N0, rfl, Or.inr ⟨rfl, fun q => q.2 hc9_5⟩⟩
    · -- no at pc 9: f
      have pre7 : Goes p e below s₁ (entryFrame m #[(.int p1)] 1) s₁ (mkF m 17 #[.val (.int p1)] [(.int 1)]) := fun t kt => pre4 t (by
          show Steps p.tables e below (s₁.setTop (mkF m 9 #[.val (.int p1)] [(.int 57), (.int p1)])) _
          refine XS.icmpNo X0.here hx rfl (hb hby own_d11_9) rfl (flt hc9_5).2.2.1 ?_
          refine XS.iconst X0.here hx rfl (hb hby own_d11_12) ?_
          show Steps p.tables e below (s₁.setTop (mkF m 13 #[.val (.int p1)] [(.int 1)])) _
          refine XS.goto X0.here hx rfl (pc0 := 13) (pc' := 17) rfl (hb hby own_d11_13) (by decide) (by decide) ?_
          exact kt)
      obtain ⟨fs, hr, hrun, hended, hW, hsame⟩ := X0.leave (v := some (.int 1)) (fun h => by rw [Bd.returns] at h; cases h)
      refine ⟨_, _, pre7 _ ?_, hrun, hended, _, _, rfl, ?_, ⟨_, rfl⟩, hW, hsame.mono (by decide) (by decide)⟩
      · show Steps p.tables e below (s₁.setTop (mkF m 17 #[.val (.int p1)] [(.int 1)])) _
        exact retN X0 hx (t := .boolean) Bd.returns (by simp) (hb hby own_d11_17) hr
      · show Q_own_digit Z p1 h0 n0 _ s₁.heap _
        rw [e0]
        exact ⟨_, rfl, N0, rfl, Or.inl ⟨rfl, hc3_2, hc9_5⟩⟩
theorem own_d_dec0_0 : decode prog_3_method_11_code 0 = .ok (.iconst 0, 1) := by decide +kernel
theorem own_d_dec0_1 : decode prog_3_method_11_code 1 = .ok (.istore_n 1, 1) := by decide +kernel
theorem own_d_dec0_2 : decode prog_3_method_11_code 2 = .ok (.iload_n 1, 1) := by decide +kernel
theorem own_d_dec0_3 : decode prog_3_method_11_code 3 = .ok (.aload_n 0, 1) := by decide +kernel
theorem own_d_dec0_4 : decode prog_3_method_11_code 4 = .ok (.invokevirtual 17, 3) := by decide +kernel
theorem own_d_dec0_7 : decode prog_3_method_11_code 7 = .ok (.if_icmp .ge 29, 3) := by decide +kernel
theorem own_d_dec0_36 : decode prog_3_method_11_code 36 = .ok (.iconst 1, 1) := by decide +kernel
theorem own_d_dec0_37 : decode prog_3_method_11_code 37 = .ok (.ireturn, 1) := by decide +kernel
theorem own_pn_own_dec0 : plainName "com/example/tallygate/tallygate/AddressLiterals" = true := by first | (simp [plainName, overriddenIn]; done) | decide +kernel
theorem own_ef_own_dec0 (m : MethodId) (x0 : Addr) : entryFrame m #[(.ref x0)] 3 = mkF m 0 #[.val (.ref x0), .unset, .unset] [] := by first | (simp [entryFrame, mkF, argsToLocals, Value.category]; done) | rfl
def Q_own_dec0 (Z : State) (a1 : Addr) (cd : Int32) (y : Addr) (ky : ClassId) (cs : Int32) (fm : Value) (h0 : Heap) (n0 : Nat) (v : Option Value) (h : Heap) (L : List Loc) : Prop := ∃ z : Int32, v = some (.int z) ∧ Fr n0 L ∧ h = h0 ∧ ((z = (1 : Int32) ∧ (True)) ∨ (z = (0 : Int32) ∧ ¬ (True)))
set_option maxRecDepth 65536 in
set_option maxHeartbeats 40000000 in
theorem own_dec0 (l : Launch) (Z : State) (a0 : Array Value) (hw : ∀ d ∈ tables_1, d.before a0 Z = true) (ws : List Jvm.Cond) (a1 : Addr) (cd : Int32) (y : Addr) (ky : ClassId) (cs : Int32) (fm : Value) (h0 : Heap) (n0 : Nat) (Z0 : n0 ≤ h0.size) (E_a1 : Exa Z h0 a1 "java/lang/String") (Fc : Fld Z h0 a1 "java/lang/String" "coder" "B" (.int cd)) (Fv : Fld Z h0 a1 "java/lang/String" "value" "[B" (.ref y)) (SDy : own_SD Z h0 y ky cd (0 : Int32) (0 : Int32) [] [] (True)) (hst : own_ST Z cs fm) (O0 : Old Z n0 h0) :
    MetFree l (⟨"com/example/tallygate/tallygate/AddressLiterals", "isDecimal", "(Ljava/lang/String;)Z"⟩ : MethodName) (head1 (Jvm.Cond.code (⟨"com/example/tallygate/tallygate/AddressLiterals", "isDecimal", "(Ljava/lang/String;)Z"⟩ : MethodName) prog_3_method_11_code 3 (some .boolean) :: ws) ({ frames := 2, cells := 0, slots := 0, locals := 26 } : Room)) (fun a U => a = #[(.ref a1)] ∧ Z.Warmed39 U.vm ∧ U.heap = h0) (fun _ _ _ _ _ => True) (fun _ U o U' => ∃ v L, o = .returned v ∧ Q_own_dec0 Z a1 cd y ky cs fm h0 n0 v U'.heap L ∧ FrameEnd U o U' L ({ frames := 2, cells := 0, slots := 0, locals := 26 } : Room).cells ({ frames := 2, cells := 0, slots := 0, locals := 26 } : Room).slots) := by
  refine MetFree.of_bodySF (plainFor_of_name own_pn_own_dec0) hisR ?_
  intro p e s m args below meth c s₁ Bd hml0 hP hK
  obtain ⟨rfl, hZ, hh⟩ := hP
  have hx := Bd.exec
  have hby := Bd.bytes
  have hml : c.maxLocals = 3 := hml0
  have hown : s.vm.findClass "com/example/tallygate/tallygate/AddressLiterals" = some m.cls := findClass_of_methodNamed Bd.named
  have hnm := (name_of_methodNamed Bd.named Bd.method).1
  have X0 : Stand p l e ({ frames := 2, cells := 0, slots := 0, locals := 26 } : Room) s m #[(.ref a1)] below meth c s₁ [] 0 0 := Stand.of_body Bd
  have e0 : s₁.heap = h0 := by rw [← hh, Bd.state]; rfl
  have N0 := Fr.nil n0
  have pre0 : Goes p e below s₁ (entryFrame m #[(.ref a1)] 3) s₁ (mkF m 0 #[.val (.ref a1), .unset, .unset] []) := fun t k => castTop (own_ef_own_dec0 m a1) k
  have pre1 : Goes p e below s₁ (entryFrame m #[(.ref a1)] 3) s₁ (mkF m 4 #[.val (.ref a1), .val (.int 0), .unset] [(.ref a1), (.int 0)]) := fun t kt => pre0 t (by
      show Steps p.tables e below (s₁.setTop (mkF m 0 #[.val (.ref a1), .unset, .unset] [])) _
      refine XS.iconst X0.here hx rfl (hb hby own_d_dec0_0) ?_
      refine XS.istoreN X0.here hx rfl (hb hby own_d_dec0_1) rfl (l' := #[.val (.ref a1), .val (.int 0), .unset]) rfl ?_
      show Steps p.tables e below (s₁.setTop (mkF m 2 #[.val (.ref a1), .val (.int 0), .unset] [])) _
      refine XS.iloadN X0.here hx rfl (hb hby own_d_dec0_2) rfl ?_
      refine XS.aloadN X0.here hx rfl (hb hby own_d_dec0_3) rfl rfl ?_
      exact kt)
  obtain ⟨cq2, kq2, q2a, q2b, q2c⟩ := isOf hZ e0 E_a1
  obtain ⟨_, _, ⟨T2, L2, k2, n2⟩, -, X2, ⟨Lc2, hQ2, l2, y2, z2⟩, st2⟩ := X0.virtualBack hx (y := (⟨"java/lang/String", "length", "()I"⟩ : MethodName)) (z := (⟨"java/lang/String", "length", "()I"⟩ : MethodName)) hown (mvT hZ (hw _ (own_mG (i := 31) rfl))) (mvT hZ (hw _ (own_mG (i := 32) rfl))) (notFace_of_selects (args := #[]) (mvT hZ (hw _ (own_mG (i := 34) rfl)))) (mvT hZ (hw _ (own_mG (i := 34) rfl))) (mvT hZ (hw _ (own_mG (i := 33) rfl))) (by decide) (backOf (W := 1) (own_sle l Z a0 hw [] a1 cd y (0 : Int32) cs fm h0 n0 Z0 E_a1 Fc Fv (own_LD0 SDy) hst O0) hZ (hw _ (own_mG (i := 35) rfl)) (hw _ (own_mG (i := 7) rfl)) (by decide) (by decide)) q2a q2c (g := (mkF m 4 #[.val (.ref a1), .val (.int 0), .unset] [(.ref a1), (.int 0)])) rfl (by rw [hml]; rfl) (Steps.refl _) (argsL := []) (rest := [(.int 0)]) (lenOf own_pd14 rfl) rfl (by show 2 * 0 + _ ≤ _; exact Nat.le_of_eq rfl) (hb hby own_d_dec0_4) (fun _ _ => ⟨rfl, e0, (by decide : 0 + 0 ≤ _), (by decide : 0 + 0 ≤ _)⟩)
  dsimp only [Pt.U, Pt.locs, Pt.cells, Pt.slots] at X2 l2 y2 z2 st2 hQ2
  subst l2 y2 z2
  obtain ⟨rfl, N2q, e2⟩ := hQ2
  have N2 := Fr.app N0 N2q
  have pre3 : Goes p e below s₁ (entryFrame m #[(.ref a1)] 3) T2 (mkF m 7 #[.val (.ref a1), .val (.int 0), .unset] [(.int 0), (.int 0)]) := fun t kt => pre1 t (st2.trans kt)
  have pre4 : Goes p e below s₁ (entryFrame m #[(.ref a1)] 3) T2 (mkF m 37 #[.val (.ref a1), .val (.int 0), .unset] [(.int 1)]) := fun t kt => pre3 t (by
      show Steps p.tables e below (T2.setTop (mkF m 7 #[.val (.ref a1), .val (.int 0), .unset] [(.int 0), (.int 0)])) _
      refine XS.icmpYes X2.here hx rfl (pc0 := 7) (pc' := 36) rfl (hb hby own_d_dec0_7) rfl (flt (by decide : ¬ ((0 : Int32) < (0 : Int32)))).2.1 (by decide) (by decide) ?_
      refine XS.iconst X2.here hx rfl (hb hby own_d_dec0_36) ?_
      exact kt)
  obtain ⟨fs, hr, hrun, hended, hW, hsame⟩ := X2.leave (v := some (.int 1)) (fun h => by rw [Bd.returns] at h; cases h)
  refine ⟨_, _, pre4 _ ?_, hrun, hended, _, _, rfl, ?_, ⟨_, rfl⟩, hW, hsame.mono (by decide) (by decide)⟩
  · show Steps p.tables e below (T2.setTop (mkF m 37 #[.val (.ref a1), .val (.int 0), .unset] [(.int 1)])) _
    exact retN X2 hx (t := .boolean) Bd.returns (by simp) (hb hby own_d_dec0_37) hr
  · show Q_own_dec0 Z a1 cd y ky cs fm h0 n0 _ T2.heap _
    rw [e2]
    exact ⟨_, rfl, N2, rfl, Or.inl ⟨rfl, trivial⟩⟩
theorem own_d_dec1_0 : decode prog_3_method_11_code 0 = .ok (.iconst 0, 1) := by decide +kernel
theorem own_d_dec1_1 : decode prog_3_method_11_code 1 = .ok (.istore_n 1, 1) := by decide +kernel
theorem own_d_dec1_2 : decode prog_3_method_11_code 2 = .ok (.iload_n 1, 1) := by decide +kernel
theorem own_d_dec1_3 : decode prog_3_method_11_code 3 = .ok (.aload_n 0, 1) := by decide +kernel
theorem own_d_dec1_4 : decode prog_3_method_11_code 4 = .ok (.invokevirtual 17, 3) := by decide +kernel
theorem own_d_dec1_7 : decode prog_3_method_11_code 7 = .ok (.if_icmp .ge 29, 3) := by decide +kernel
theorem own_d_dec1_10 : decode prog_3_method_11_code 10 = .ok (.aload_n 0, 1) := by decide +kernel
theorem own_d_dec1_11 : decode prog_3_method_11_code 11 = .ok (.iload_n 1, 1) := by decide +kernel
theorem own_d_dec1_12 : decode prog_3_method_11_code 12 = .ok (.invokevirtual 23, 3) := by decide +kernel
theorem own_d_dec1_15 : decode prog_3_method_11_code 15 = .ok (.istore_n 2, 1) := by decide +kernel
theorem own_d_dec1_16 : decode prog_3_method_11_code 16 = .ok (.iload_n 2, 1) := by decide +kernel
theorem own_d_dec1_17 : decode prog_3_method_11_code 17 = .ok (.bipush 48, 2) := by decide +kernel
theorem own_d_dec1_19 : decode prog_3_method_11_code 19 = .ok (.if_icmp .lt 9, 3) := by decide +kernel
theorem own_d_dec1_22 : decode prog_3_method_11_code 22 = .ok (.iload_n 2, 1) := by decide +kernel
theorem own_d_dec1_23 : decode prog_3_method_11_code 23 = .ok (.bipush 57, 2) := by decide +kernel
theorem own_d_dec1_25 : decode prog_3_method_11_code 25 = .ok (.if_icmp .le 5, 3) := by decide +kernel
theorem own_d_dec1_28 : decode prog_3_method_11_code 28 = .ok (.iconst 0, 1) := by decide +kernel
theorem own_d_dec1_29 : decode prog_3_method_11_code 29 = .ok (.ireturn, 1) := by decide +kernel
theorem own_d_dec1_30 : decode prog_3_method_11_code 30 = .ok (.iinc 1 1, 3) := by decide +kernel
theorem own_d_dec1_33 : decode prog_3_method_11_code 33 = .ok (.goto (-31), 3) := by decide +kernel
theorem own_d_dec1_36 : decode prog_3_method_11_code 36 = .ok (.iconst 1, 1) := by decide +kernel
theorem own_d_dec1_37 : decode prog_3_method_11_code 37 = .ok (.ireturn, 1) := by decide +kernel
theorem own_pn_own_dec1 : plainName "com/example/tallygate/tallygate/AddressLiterals" = true := by first | (simp [plainName, overriddenIn]; done) | decide +kernel
theorem own_ef_own_dec1 (m : MethodId) (x0 : Addr) : entryFrame m #[(.ref x0)] 3 = mkF m 0 #[.val (.ref x0), .unset, .unset] [] := by first | (simp [entryFrame, mkF, argsToLocals, Value.category]; done) | rfl
def Q_own_dec1 (Z : State) (a1 : Addr) (cd : Int32) (y : Addr) (ky : ClassId) (v0 : Int32) (cs : Int32) (fm : Value) (h0 : Heap) (n0 : Nat) (v : Option Value) (h : Heap) (L : List Loc) : Prop := ∃ z : Int32, v = some (.int z) ∧ Fr n0 L ∧ h = h0 ∧ ((z = (1 : Int32) ∧ (own_dg v0)) ∨ (z = (0 : Int32) ∧ ¬ (own_dg v0)))
set_option maxRecDepth 65536 in
set_option maxHeartbeats 40000000 in
theorem own_dec1 (l : Launch) (Z : State) (a0 : Array Value) (hw : ∀ d ∈ tables_1, d.before a0 Z = true) (ws : List Jvm.Cond) (a1 : Addr) (cd : Int32) (y : Addr) (ky : ClassId) (v0 : Int32) (cs : Int32) (fm : Value) (h0 : Heap) (n0 : Nat) (Z0 : n0 ≤ h0.size) (E_a1 : Exa Z h0 a1 "java/lang/String") (Fc : Fld Z h0 a1 "java/lang/String" "coder" "B" (.int cd)) (Fv : Fld Z h0 a1 "java/lang/String" "value" "[B" (.ref y)) (SDy : own_SD Z h0 y ky cd (1 : Int32) (2 : Int32) [(.int (own_by v0))] [(.int (own_B0 v0)), (.int (own_B1 v0))] (¬ ((255 : Int32) < v0))) (hl0 : (0 ≤ v0.toInt ∧ v0.toInt < 65536)) (hst : own_ST Z cs fm) (O0 : Old Z n0 h0) :
    MetFree l (⟨"com/example/tallygate/tallygate/AddressLiterals", "isDecimal", "(Ljava/lang/String;)Z"⟩ : MethodName) (head1 (Jvm.Cond.code (⟨"com/example/tallygate/tallygate/AddressLiterals", "isDecimal", "(Ljava/lang/String;)Z"⟩ : MethodName) prog_3_method_11_code 3 (some .boolean) :: ws) ({ frames := 5, cells := 0, slots := 0, locals := 66 } : Room)) (fun a U => a = #[(.ref a1)] ∧ Z.Warmed39 U.vm ∧ U.heap = h0) (fun _ _ _ _ _ => True) (fun _ U o U' => ∃ v L, o = .returned v ∧ Q_own_dec1 Z a1 cd y ky v0 cs fm h0 n0 v U'.heap L ∧ FrameEnd U o U' L ({ frames := 5, cells := 0, slots := 0, locals := 66 } : Room).cells ({ frames := 5, cells := 0, slots := 0, locals := 66 } : Room).slots) := by
  refine MetFree.of_bodySF (plainFor_of_name own_pn_own_dec1) hisR ?_
  intro p e s m args below meth c s₁ Bd hml0 hP hK
  obtain ⟨rfl, hZ, hh⟩ := hP
  have hx := Bd.exec
  have hby := Bd.bytes
  have hml : c.maxLocals = 3 := hml0
  have hown : s.vm.findClass "com/example/tallygate/tallygate/AddressLiterals" = some m.cls := findClass_of_methodNamed Bd.named
  have hnm := (name_of_methodNamed Bd.named Bd.method).1
  have X0 : Stand p l e ({ frames := 5, cells := 0, slots := 0, locals := 66 } : Room) s m #[(.ref a1)] below meth c s₁ [] 0 0 := Stand.of_body Bd
  have e0 : s₁.heap = h0 := by rw [← hh, Bd.state]; rfl
  have N0 := Fr.nil n0
  have pre0 : Goes p e below s₁ (entryFrame m #[(.ref a1)] 3) s₁ (mkF m 0 #[.val (.ref a1), .unset, .unset] []) := fun t k => castTop (own_ef_own_dec1 m a1) k
  have pre1 : Goes p e below s₁ (entryFrame m #[(.ref a1)] 3) s₁ (mkF m 4 #[.val (.ref a1), .val (.int 0), .unset] [(.ref a1), (.int 0)]) := fun t kt => pre0 t (by
      show Steps p.tables e below (s₁.setTop (mkF m 0 #[.val (.ref a1), .unset, .unset] [])) _
      refine XS.iconst X0.here hx rfl (hb hby own_d_dec1_0) ?_
      refine XS.istoreN X0.here hx rfl (hb hby own_d_dec1_1) rfl (l' := #[.val (.ref a1), .val (.int 0), .unset]) rfl ?_
      show Steps p.tables e below (s₁.setTop (mkF m 2 #[.val (.ref a1), .val (.int 0), .unset] [])) _
      refine XS.iloadN X0.here hx rfl (hb hby own_d_dec1_2) rfl ?_
      refine XS.aloadN X0.here hx rfl (hb hby own_d_dec1_3) rfl rfl ?_
      exact kt)
  obtain ⟨cq2, kq2, q2a, q2b, q2c⟩ := isOf hZ e0 E_a1
  obtain ⟨_, _, ⟨T2, L2, k2, n2⟩, -, X2, ⟨Lc2, hQ2, l2, y2, z2⟩, st2⟩ := X0.virtualBack hx (y := (⟨"java/lang/String", "length", "()I"⟩ : MethodName)) (z := (⟨"java/lang/String", "length", "()I"⟩ : MethodName)) hown (mvT hZ (hw _ (own_mG (i := 31) rfl))) (mvT hZ (hw _ (own_mG (i := 32) rfl))) (notFace_of_selects (args := #[]) (mvT hZ (hw _ (own_mG (i := 34) rfl)))) (mvT hZ (hw _ (own_mG (i := 34) rfl))) (mvT hZ (hw _ (own_mG (i := 33) rfl))) (by decide) (backOf (W := 1) (own_sle l Z a0 hw [] a1 cd y (1 : Int32) cs fm h0 n0 Z0 E_a1 Fc Fv (own_LD1 SDy) hst O0) hZ (hw _ (own_mG (i := 35) rfl)) (hw _ (own_mG (i := 7) rfl)) (by decide) (by decide)) q2a q2c (g := (mkF m 4 #[.val (.ref a1), .val (.int 0), .unset] [(.ref a1), (.int 0)])) rfl (by rw [hml]; rfl) (Steps.refl _) (argsL := []) (rest := [(.int 0)]) (lenOf own_pd14 rfl) rfl (by show 2 * 0 + _ ≤ _; exact Nat.le_of_eq rfl) (hb hby own_d_dec1_4) (fun _ _ => ⟨rfl, e0, (by decide : 0 + 0 ≤ _), (by decide : 0 + 0 ≤ _)⟩)
  dsimp only [Pt.U, Pt.locs, Pt.cells, Pt.slots] at X2 l2 y2 z2 st2 hQ2
  subst l2 y2 z2
  obtain ⟨rfl, N2q, e2⟩ := hQ2
  have N2 := Fr.app N0 N2q
  have pre3 : Goes p e below s₁ (entryFrame m #[(.ref a1)] 3) T2 (mkF m 7 #[.val (.ref a1), .val (.int 0), .unset] [(.int 1), (.int 0)]) := fun t kt => pre1 t (st2.trans kt)
  have pre4 : Goes p e below s₁ (entryFrame m #[(.ref a1)] 3) T2 (mkF m 12 #[.val (.ref a1), .val (.int 0), .unset] [(.int 0), (.ref a1)]) := fun t kt => pre3 t (by
      show Steps p.tables e below (T2.setTop (mkF m 7 #[.val (.ref a1), .val (.int 0), .unset] [(.int 1), (.int 0)])) _
      refine XS.icmpNo X2.here hx rfl (hb hby own_d_dec1_7) rfl (tlt (by decide : (0 : Int32) < (1 : Int32))).2.1 ?_
      refine XS.aloadN X2.here hx rfl (hb hby own_d_dec1_10) rfl rfl ?_
      show Steps p.tables e below (T2.setTop (mkF m 11 #[.val (.ref a1), .val (.int 0), .unset] [(.ref a1)])) _
      refine XS.iloadN X2.here hx rfl (hb hby own_d_dec1_11) rfl ?_
      exact kt)
  obtain ⟨cq5, kq5, q5a, q5b, q5c⟩ := isOf hZ e2 E_a1
  obtain ⟨_, _, ⟨T5, L5, k5, n5⟩, -, X5, ⟨Lc5, hQ5, l5, y5, z5⟩, st5⟩ := X2.virtualBack hx (y := (⟨"java/lang/String", "charAt", "(I)C"⟩ : MethodName)) (z := (⟨"java/lang/String", "charAt", "(I)C"⟩ : MethodName)) hown (mvT hZ (hw _ (own_mG (i := 55) rfl))) (mvT hZ (hw _ (own_mG (i := 56) rfl))) (notFace_of_selects (args := #[]) (mvT hZ (hw _ (own_mG (i := 58) rfl)))) (mvT hZ (hw _ (own_mG (i := 58) rfl))) (mvT hZ (hw _ (own_mG (i := 57) rfl))) (by decide) (backOf (W := 0) (own_sch l Z a0 hw [] a1 cd y (0 : Int32) v0 cs fm h0 n0 Z0 E_a1 Fc Fv (own_RD10 SDy hl0) (by decide) hst O0) hZ (hw _ (own_mG (i := 59) rfl)) (hw _ (own_mG (i := 7) rfl)) (by decide) (by decide)) q5a q5c (g := (mkF m 12 #[.val (.ref a1), .val (.int 0), .unset] [(.int 0), (.ref a1)])) rfl (by rw [hml]; rfl) (Steps.refl _) (argsL := [(.int 0)]) (rest := []) (lenOf own_pd15 rfl) rfl (by show 2 * 0 + _ ≤ _; exact Nat.le_of_eq rfl) (hb hby own_d_dec1_12) (fun _ _ => ⟨rfl, e2, (by decide : 0 + 0 ≤ _), (by decide : 0 + 0 ≤ _)⟩)
  dsimp only [Pt.U, Pt.locs, Pt.cells, Pt.slots] at X5 l5 y5 z5 st5 hQ5
  subst l5 y5 z5
  obtain ⟨rfl, N5q, e5⟩ := hQ5
  have N5 := Fr.app N2 N5q
  have pre6 : Goes p e below s₁ (entryFrame m #[(.ref a1)] 3) T5 (mkF m 15 #[.val (.ref a1), .val (.int 0), .unset] [(.int v0)]) := fun t kt => pre4 t (st5.trans kt)
  have pre7 : Goes p e below s₁ (entryFrame m #[(.ref a1)] 3) T5 (mkF m 19 #[.val (.ref a1), .val (.int 0), .val (.int v0)] [(.int 48), (.int v0)]) := fun t kt => pre6 t (by
      show Steps p.tables e below (T5.setTop (mkF m 15 #[.val (.ref a1), .val (.int 0), .unset] [(.int v0)])) _
      refine XS.istoreN X5.here hx rfl (hb hby own_d_dec1_15) rfl (l' := #[.val (.ref a1), .val (.int 0), .val (.int v0)]) rfl ?_
      refine XS.iloadN X5.here hx rfl (hb hby own_d_dec1_16) rfl ?_
      show Steps p.tables e below (T5.setTop (mkF m 17 #[.val (.ref a1), .val (.int 0), .val (.int v0)] [(.int v0)])) _
      refine XS.bipush X5.here hx rfl (hb hby own_d_dec1_17) ?_
      exact kt)
  by_cases hc19_8 : v0 < (48 : Int32)
  · -- yes at pc 19: f
    have pre9 : Goes p e below s₁ (entryFrame m #[(.ref a1)] 3) T5 (mkF m 29 #[.val (.ref a1), .val (.int 0), .val (.int v0)] [(.int 0)]) := fun t kt => pre7 t (by
        show Steps p.tables e below (T5.setTop (mkF m 19 #[.val (.ref a1), .val (.int 0), .val (.int v0)] [(.int 48), (.int v0)])) _
        refine XS.icmpYes X5.here hx rfl (pc0 := 19) (pc' := 28) rfl (hb hby own_d_dec1_19) rfl (tlt hc19_8).1 (by decide) (by decide) ?_
        refine XS.iconst X5.here hx rfl (hb hby own_d_dec1_28) ?_
        exact kt)
    obtain ⟨fs, hr, hrun, hended, hW, hsame⟩ := X5.leave (v := some (.int 0)) (fun h => by rw [Bd.returns] at h; cases h)
    refine ⟨_, _, pre9 _ ?_, hrun, hended, _, _, rfl, ?_, ⟨_, rfl⟩, hW, hsame.mono (by decide) (by decide)⟩
    · show Steps p.tables e below (T5.setTop (mkF m 29 #[.val (.ref a1), .val (.int 0), .val (.int v0)] [(.int 0)])) _
      exact retN X5 hx (t := .boolean) Bd.returns (by simp) (hb hby own_d_dec1_29) hr
    · show Q_own_dec1 Z a1 cd y ky v0 cs fm h0 n0 _ T5.heap _
      rw [e5]
      exact ⟨_, rfl, N5, rfl, Or.inr ⟨rfl, fun q => q.1 hc19_8⟩⟩
  · -- no at pc 19: f
    have pre10 : Goes p e below s₁ (entryFrame m #[(.ref a1)] 3) T5 (mkF m 25 #[.val (.ref a1), .val (.int 0), .val (.int v0)] [(.int 57), (.int v0)]) := fun t kt => pre7 t (by
        show Steps p.tables e below (T5.setTop (mkF m 19 #[.val (.ref a1), .val (.int 0), .val (.int v0)] [(.int 48), (.int v0)])) _
        refine XS.icmpNo X5.here hx rfl (hb hby own_d_dec1_19) rfl (flt hc19_8).1 ?_
        refine XS.iloadN X5.here hx rfl (hb hby own_d_dec1_22) rfl ?_
        show Steps p.tables e below (T5.setTop (mkF m 23 #[.val (.ref a1), .val (.int 0), .val (.int v0)] [(.int v0)])) _
        refine XS.bipush X5.here hx rfl (hb hby own_d_dec1_23) ?_
        exact kt)
    by_cases hc25_11 : (57 : Int32) < v0
    · -- yes at pc 25: ff
      have pre12 : Goes p e below s₁ (entryFrame m #[(.ref a1)] 3) T5 (mkF m 29 #[.val (.ref a1), .val (.int 0), .val (.int v0)] [(.int 0)]) := fun t kt => pre10 t (by
          show Steps p.tables e below (T5.setTop (mkF m 25 #[.val (.ref a1), .val (.int 0), .val (.int v0)] [(.int 57), (.int v0)])) _
          refine XS.icmpNo X5.here hx rfl (hb hby own_d_dec1_25) rfl (tlt hc25_11).2.2.2 ?_
          refine XS.iconst X5.here hx rfl (hb hby own_d_dec1_28) ?_
          exact kt)
      obtain ⟨fs, hr, hrun, hended, hW, hsame⟩ := X5.leave (v := some (.int 0)) (fun h => by rw [Bd.returns] at h; cases h)
      refine ⟨_, _, pre12 _ ?_, hrun, hended, _, _, rfl, ?_, ⟨_, rfl⟩, hW, hsame.mono (by decide) (by decide)⟩
      · show Steps p.tables e below (T5.setTop (mkF m 29 #[.val (.ref a1), .val (.int 0), .val (.int v0)] [(.int 0)])) _
        exact retN X5 hx (t := .boolean) Bd.returns (by simp) (hb hby own_d_dec1_29) hr
      · show Q_own_dec1 Z a1 cd y ky v0 cs fm h0 n0 _ T5.heap _
        rw [e5]
        exact ⟨_, rfl, N5, rfl, Or.inr ⟨rfl, fun q => q.2 hc25_11⟩⟩
    · -- no at pc 25: ff
      have pre13 : Goes p e below s₁ (entryFrame m #[(.ref a1)] 3) T5 (mkF m 4 #[.val (.ref a1), .val (.int 1), .val (.int v0)] [(.ref a1), (.int 1)]) := fun t kt => pre10 t (by
          show Steps p.tables e below (T5.setTop (mkF m 25 #[.val (.ref a1), .val (.int 0), .val (.int v0)] [(.int 57), (.int v0)])) _
          refine XS.icmpYes X5.here hx rfl (pc0 := 25) (pc' := 30) rfl (hb hby own_d_dec1_25) rfl (flt hc25_11).2.2.2 (by decide) (by decide) ?_
          refine XS.iinc X5.here hx rfl (hb hby own_d_dec1_30) rfl (l' := #[.val (.ref a1), .val (.int 1), .val (.int v0)]) rfl ?_
          show Steps p.tables e below (T5.setTop (mkF m 33 #[.val (.ref a1), .val (.int 1), .val (.int v0)] [])) _
          refine XS.goto X5.here hx rfl (pc0 := 33) (pc' := 2) rfl (hb hby own_d_dec1_33) (by decide) (by decide) ?_
          refine XS.iloadN X5.here hx rfl (hb hby own_d_dec1_2) rfl ?_
          show Steps p.tables e below (T5.setTop (mkF m 3 #[.val (.ref a1), .val (.int 1), .val (.int v0)] [(.int 1)])) _
          refine XS.aloadN X5.here hx rfl (hb hby own_d_dec1_3) rfl rfl ?_
          exact kt)
      obtain ⟨cq14, kq14, q14a, q14b, q14c⟩ := isOf hZ e5 E_a1
      obtain ⟨_, _, ⟨T14, L14, k14, n14⟩, -, X14, ⟨Lc14, hQ14, l14, y14, z14⟩, st14⟩ := X5.virtualBack hx (y := (⟨"java/lang/String", "length", "()I"⟩ : MethodName)) (z := (⟨"java/lang/String", "length", "()I"⟩ : MethodName)) hown (mvT hZ (hw _ (own_mG (i := 31) rfl))) (mvT hZ (hw _ (own_mG (i := 32) rfl))) (notFace_of_selects (args := #[]) (mvT hZ (hw _ (own_mG (i := 34) rfl)))) (mvT hZ (hw _ (own_mG (i := 34) rfl))) (mvT hZ (hw _ (own_mG (i := 33) rfl))) (by decide) (backOf (W := 1) (own_sle l Z a0 hw [] a1 cd y (1 : Int32) cs fm h0 n0 Z0 E_a1 Fc Fv (own_LD1 SDy) hst O0) hZ (hw _ (own_mG (i := 35) rfl)) (hw _ (own_mG (i := 7) rfl)) (by decide) (by decide)) q14a q14c (g := (mkF m 4 #[.val (.ref a1), .val (.int 1), .val (.int v0)] [(.ref a1), (.int 1)])) rfl (by rw [hml]; rfl) (Steps.refl _) (argsL := []) (rest := [(.int 1)]) (lenOf own_pd14 rfl) rfl (by show 2 * 0 + _ ≤ _; exact Nat.le_of_eq rfl) (hb hby own_d_dec1_4) (fun _ _ => ⟨rfl, e5, (by decide : 0 + 0 ≤ _), (by decide : 0 + 0 ≤ _)⟩)
      dsimp only [Pt.U, Pt.locs, Pt.cells, Pt.slots] at X14 l14 y14 z14 st14 hQ14
      subst l14 y14 z14
      obtain ⟨rfl, N14q, e14⟩ := hQ14
      have N14 := Fr.app N5 N14q
      have pre15 : Goes p e below s₁ (entryFrame m #[(.ref a1)] 3) T14 (mkF m 7 #[.val (.ref a1), .val (.int 1), .val (.int v0)] [(.int 1), (.int 1)]) := fun t kt => pre13 t (st14.trans kt)
      have pre16 : Goes p e below s₁ (entryFrame m #[(.ref a1)] 3) T14 (mkF m 37 #[.val (.ref a1), .val (.int 1), .val (.int v0)] [(.int 1)]) := fun t kt => pre15 t (by
          show Steps p.tables e below (T14.setTop (mkF m 7 #[.val (.ref a1), .val (.int 1), .val (.int v0)] [(.int 1), (.int 1)])) _
          refine XS.icmpYes X14.here hx rfl (pc0 := 7) (pc' := 36) rfl (hb hby own_d_dec1_7) rfl (flt (by decide : ¬ ((1 : Int32) < (1 : Int32)))).2.1 (by decide) (by decide) ?_
          refine XS.iconst X14.here hx rfl (hb hby own_d_dec1_36) ?_
          exact kt)
      obtain ⟨fs, hr, hrun, hended, hW, hsame⟩ := X14.leave (v := some (.int 1)) (fun h => by rw [Bd.returns] at h; cases h)
      refine ⟨_, _, pre16 _ ?_, hrun, hended, _, _, rfl, ?_, ⟨_, rfl⟩, hW, hsame.mono (by decide) (by decide)⟩
      · show Steps p.tables e below (T14.setTop (mkF m 37 #[.val (.ref a1), .val (.int 1), .val (.int v0)] [(.int 1)])) _
        exact retN X14 hx (t := .boolean) Bd.returns (by simp) (hb hby own_d_dec1_37) hr
      · show Q_own_dec1 Z a1 cd y ky v0 cs fm h0 n0 _ T14.heap _
        rw [e14]
        exact ⟨_, rfl, N14, rfl, Or.inl ⟨rfl, ⟨hc19_8, hc25_11⟩⟩⟩
theorem own_d_dec2_0 : decode prog_3_method_11_code 0 = .ok (.iconst 0, 1) := by decide +kernel
theorem own_d_dec2_1 : decode prog_3_method_11_code 1 = .ok (.istore_n 1, 1) := by decide +kernel
theorem own_d_dec2_2 : decode prog_3_method_11_code 2 = .ok (.iload_n 1, 1) := by decide +kernel
theorem own_d_dec2_3 : decode prog_3_method_11_code 3 = .ok (.aload_n 0, 1) := by decide +kernel
theorem own_d_dec2_4 : decode prog_3_method_11_code 4 = .ok (.invokevirtual 17, 3) := by decide +kernel
theorem own_d_dec2_7 : decode prog_3_method_11_code 7 = .ok (.if_icmp .ge 29, 3) := by decide +kernel
theorem own_d_dec2_10 : decode prog_3_method_11_code 10 = .ok (.aload_n 0, 1) := by decide +kernel
theorem own_d_dec2_11 : decode prog_3_method_11_code 11 = .ok (.iload_n 1, 1) := by decide +kernel
theorem own_d_dec2_12 : decode prog_3_method_11_code 12 = .ok (.invokevirtual 23, 3) := by decide +kernel
theorem own_d_dec2_15 : decode prog_3_method_11_code 15 = .ok (.istore_n 2, 1) := by decide +kernel
theorem own_d_dec2_16 : decode prog_3_method_11_code 16 = .ok (.iload_n 2, 1) := by decide +kernel
theorem own_d_dec2_17 : decode prog_3_method_11_code 17 = .ok (.bipush 48, 2) := by decide +kernel
theorem own_d_dec2_19 : decode prog_3_method_11_code 19 = .ok (.if_icmp .lt 9, 3) := by decide +kernel
theorem own_d_dec2_22 : decode prog_3_method_11_code 22 = .ok (.iload_n 2, 1) := by decide +kernel
theorem own_d_dec2_23 : decode prog_3_method_11_code 23 = .ok (.bipush 57, 2) := by decide +kernel
theorem own_d_dec2_25 : decode prog_3_method_11_code 25 = .ok (.if_icmp .le 5, 3) := by decide +kernel
theorem own_d_dec2_28 : decode prog_3_method_11_code 28 = .ok (.iconst 0, 1) := by decide +kernel
theorem own_d_dec2_29 : decode prog_3_method_11_code 29 = .ok (.ireturn, 1) := by decide +kernel
theorem own_d_dec2_30 : decode prog_3_method_11_code 30 = .ok (.iinc 1 1, 3) := by decide +kernel
theorem own_d_dec2_33 : decode prog_3_method_11_code 33 = .ok (.goto (-31), 3) := by decide +kernel
theorem own_d_dec2_36 : decode prog_3_method_11_code 36 = .ok (.iconst 1, 1) := by decide +kernel
theorem own_d_dec2_37 : decode prog_3_method_11_code 37 = .ok (.ireturn, 1) := by decide +kernel
theorem own_pn_own_dec2 : plainName "com/example/tallygate/tallygate/AddressLiterals" = true := by first | (simp [plainName, overriddenIn]; done) | decide +kernel
theorem own_ef_own_dec2 (m : MethodId) (x0 : Addr) : entryFrame m #[(.ref x0)] 3 = mkF m 0 #[.val (.ref x0), .unset, .unset] [] := by first | (simp [entryFrame, mkF, argsToLocals, Value.category]; done) | rfl
def Q_own_dec2 (Z : State) (a1 : Addr) (cd : Int32) (y : Addr) (ky : ClassId) (v0 : Int32) (v1 : Int32) (cs : Int32) (fm : Value) (h0 : Heap) (n0 : Nat) (v : Option Value) (h : Heap) (L : List Loc) : Prop := ∃ z : Int32, v = some (.int z) ∧ Fr n0 L ∧ h = h0 ∧ ((z = (1 : Int32) ∧ (own_dg v0 ∧ own_dg v1)) ∨ (z = (0 : Int32) ∧ ¬ (own_dg v0 ∧ own_dg v1)))
set_option maxRecDepth 65536 in
set_option maxHeartbeats 40000000 in
theorem own_dec2 (l : Launch) (Z : State) (a0 : Array Value) (hw : ∀ d ∈ tables_1, d.before a0 Z = true) (ws : List Jvm.Cond) (a1 : Addr) (cd : Int32) (y : Addr) (ky : ClassId) (v0 : Int32) (v1 : Int32) (cs : Int32) (fm : Value) (h0 : Heap) (n0 : Nat) (Z0 : n0 ≤ h0.size) (E_a1 : Exa Z h0 a1 "java/lang/String") (Fc : Fld Z h0 a1 "java/lang/String" "coder" "B" (.int cd)) (Fv : Fld Z h0 a1 "java/lang/String" "value" "[B" (.ref y)) (SDy : own_SD Z h0 y ky cd (2 : Int32) (4 : Int32) [(.int (own_by v0)), (.int (own_by v1))] [(.int (own_B0 v0)), (.int (own_B1 v0)), (.int (own_B0 v1)), (.int (own_B1 v1))] (¬ ((255 : Int32) < v0) ∧ ¬ ((255 : Int32) < v1))) (hl0 : (0 ≤ v0.toInt ∧ v0.toInt < 65536)) (hl1 : (0 ≤ v1.toInt ∧ v1.toInt < 65536)) (hst : own_ST Z cs fm) (O0 : Old Z n0 h0) :
    MetFree l (⟨"com/example/tallygate/tallygate/AddressLiterals", "isDecimal", "(Ljava/lang/String;)Z"⟩ : MethodName) (head1 (Jvm.Cond.code (⟨"com/example/tallygate/tallygate/AddressLiterals", "isDecimal", "(Ljava/lang/String;)Z"⟩ : MethodName) prog_3_method_11_code 3 (some .boolean) :: ws) ({ frames := 5, cells := 0, slots := 0, locals := 66 } : Room)) (fun a U => a = #[(.ref a1)] ∧ Z.Warmed39 U.vm ∧ U.heap = h0) (fun _ _ _ _ _ => True) (fun _ U o U' => ∃ v L, o = .returned v ∧ Q_own_dec2 Z a1 cd y ky v0 v1 cs fm h0 n0 v U'.heap L ∧ FrameEnd U o U' L ({ frames := 5, cells := 0, slots := 0, locals := 66 } : Room).cells ({ frames := 5, cells := 0, slots := 0, locals := 66 } : Room).slots) := by
  refine MetFree.of_bodySF (plainFor_of_name own_pn_own_dec2) hisR ?_
  intro p e s m args below meth c s₁ Bd hml0 hP hK
  obtain ⟨rfl, hZ, hh⟩ := hP
  have hx := Bd.exec
  have hby := Bd.bytes
  have hml : c.maxLocals = 3 := hml0
  have hown : s.vm.findClass "com/example/tallygate/tallygate/AddressLiterals" = some m.cls := findClass_of_methodNamed Bd.named
  have hnm := (name_of_methodNamed Bd.named Bd.method).1
  have X0 : Stand p l e ({ frames := 5, cells := 0, slots := 0, locals := 66 } : Room) s m #[(.ref a1)] below meth c s₁ [] 0 0 := Stand.of_body Bd
  have e0 : s₁.heap = h0 := by rw [← hh, Bd.state]; rfl
  have N0 := Fr.nil n0
  have pre0 : Goes p e below s₁ (entryFrame m #[(.ref a1)] 3) s₁ (mkF m 0 #[.val (.ref a1), .unset, .unset] []) := fun t k => castTop (own_ef_own_dec2 m a1) k
  have pre1 : Goes p e below s₁ (entryFrame m #[(.ref a1)] 3) s₁ (mkF m 4 #[.val (.ref a1), .val (.int 0), .unset] [(.ref a1), (.int 0)]) := fun t kt => pre0 t (by
      show Steps p.tables e below (s₁.setTop (mkF m 0 #[.val (.ref a1), .unset, .unset] [])) _
      refine XS.iconst X0.here hx rfl (hb hby own_d_dec2_0) ?_
      refine XS.istoreN X0.here hx rfl (hb hby own_d_dec2_1) rfl (l' := #[.val (.ref a1), .val (.int 0), .unset]) rfl ?_
      show Steps p.tables e below (s₁.setTop (mkF m 2 #[.val (.ref a1), .val (.int 0), .unset] [])) _
      refine XS.iloadN X0.here hx rfl (hb hby own_d_dec2_2) rfl ?_
      refine XS.aloadN X0.here hx rfl (hb hby own_d_dec2_3) rfl rfl ?_
      exact kt)
  obtain ⟨cq2, kq2, q2a, q2b, q2c⟩ := isOf hZ e0 E_a1
  obtain ⟨_, _, ⟨T2, L2, k2, n2⟩, -, X2, ⟨Lc2, hQ2, l2, y2, z2⟩, st2⟩ := X0.virtualBack hx (y := (⟨"java/lang/String", "length", "()I"⟩ : MethodName)) (z := (⟨"java/lang/String", "length", "()I"⟩ : MethodName)) hown (mvT hZ (hw _ (own_mG (i := 31) rfl))) (mvT hZ (hw _ (own_mG (i := 32) rfl))) (notFace_of_selects (args := #[]) (mvT hZ (hw _ (own_mG (i := 34) rfl)))) (mvT hZ (hw _ (own_mG (i := 34) rfl))) (mvT hZ (hw _ (own_mG (i := 33) rfl))) (by decide) (backOf (W := 1) (own_sle l Z a0 hw [] a1 cd y (2 : Int32) cs fm h0 n0 Z0 E_a1 Fc Fv (own_LD2 SDy) hst O0) hZ (hw _ (own_mG (i := 35) rfl)) (hw _ (own_mG (i := 7) rfl)) (by decide) (by decide)) q2a q2c (g := (mkF m 4 #[.val (.ref a1), .val (.int 0), .unset] [(.ref a1), (.int 0)])) rfl (by rw [hml]; rfl) (Steps.refl _) (argsL := []) (rest := [(.int 0)]) (lenOf own_pd14 rfl) rfl (by show 2 * 0 + _ ≤ _; exact Nat.le_of_eq rfl) (hb hby own_d_dec2_4) (fun _ _ => ⟨rfl, e0, (by decide : 0 + 0 ≤ _), (by decide : 0 + 0 ≤ _)⟩)
  dsimp only [Pt.U, Pt.locs, Pt.cells, Pt.slots] at X2 l2 y2 z2 st2 hQ2
  subst l2 y2 z2
  obtain ⟨rfl, N2q, e2⟩ := hQ2
  have N2 := Fr.app N0 N2q
  have pre3 : Goes p e below s₁ (entryFrame m #[(.ref a1)] 3) T2 (mkF m 7 #[.val (.ref a1), .val (.int 0), .unset] [(.int 2), (.int 0)]) := fun t kt => pre1 t (st2.trans kt)
  have pre4 : Goes p e below s₁ (entryFrame m #[(.ref a1)] 3) T2 (mkF m 12 #[.val (.ref a1), .val (.int 0), .unset] [(.int 0), (.ref a1)]) := fun t kt => pre3 t (by
      show Steps p.tables e below (T2.setTop (mkF m 7 #[.val (.ref a1), .val (.int 0), .unset] [(.int 2), (.int 0)])) _
      refine XS.icmpNo X2.here hx rfl (hb hby own_d_dec2_7) rfl (tlt (by decide : (0 : Int32) < (2 : Int32))).2.1 ?_
      refine XS.aloadN X2.here hx rfl (hb hby own_d_dec2_10) rfl rfl ?_
      show Steps p.tables e below (T2.setTop (mkF m 11 #[.val (.ref a1), .val (.int 0), .unset] [(.ref a1)])) _
      refine XS.iloadN X2.here hx rfl (hb hby own_d_dec2_11) rfl ?_
      exact kt)
  obtain ⟨cq5, kq5, q5a, q5b, q5c⟩ := isOf hZ e2 E_a1
  obtain ⟨_, _, ⟨T5, L5, k5, n5⟩, -, X5, ⟨Lc5, hQ5, l5, y5, z5⟩, st5⟩ := X2.virtualBack hx (y := (⟨"java/lang/String", "charAt", "(I)C"⟩ : MethodName)) (z := (⟨"java/lang/String", "charAt", "(I)C"⟩ : MethodName)) hown (mvT hZ (hw _ (own_mG (i := 55) rfl))) (mvT hZ (hw _ (own_mG (i := 56) rfl))) (notFace_of_selects (args := #[]) (mvT hZ (hw _ (own_mG (i := 58) rfl)))) (mvT hZ (hw _ (own_mG (i := 58) rfl))) (mvT hZ (hw _ (own_mG (i := 57) rfl))) (by decide) (backOf (W := 0) (own_sch l Z a0 hw [] a1 cd y (0 : Int32) v0 cs fm h0 n0 Z0 E_a1 Fc Fv (own_RD20 SDy hl0) (by decide) hst O0) hZ (hw _ (own_mG (i := 59) rfl)) (hw _ (own_mG (i := 7) rfl)) (by decide) (by decide)) q5a q5c (g := (mkF m 12 #[.val (.ref a1), .val (.int 0), .unset] [(.int 0), (.ref a1)])) rfl (by rw [hml]; rfl) (Steps.refl _) (argsL := [(.int 0)]) (rest := []) (lenOf own_pd15 rfl) rfl (by show 2 * 0 + _ ≤ _; exact Nat.le_of_eq rfl) (hb hby own_d_dec2_12) (fun _ _ => ⟨rfl, e2, (by decide : 0 + 0 ≤ _), (by decide : 0 + 0 ≤ _)⟩)
  dsimp only [Pt.U, Pt.locs, Pt.cells, Pt.slots] at X5 l5 y5 z5 st5 hQ5
  subst l5 y5 z5
  obtain ⟨rfl, N5q, e5⟩ := hQ5
  have N5 := Fr.app N2 N5q
  have pre6 : Goes p e below s₁ (entryFrame m #[(.ref a1)] 3) T5 (mkF m 15 #[.val (.ref a1), .val (.int 0), .unset] [(.int v0)]) := fun t kt => pre4 t (st5.trans kt)
  have pre7 : Goes p e below s₁ (entryFrame m #[(.ref a1)] 3) T5 (mkF m 19 #[.val (.ref a1), .val (.int 0), .val (.int v0)] [(.int 48), (.int v0)]) := fun t kt => pre6 t (by
      show Steps p.tables e below (T5.setTop (mkF m 15 #[.val (.ref a1), .val (.int 0), .unset] [(.int v0)])) _
      refine XS.istoreN X5.here hx rfl (hb hby own_d_dec2_15) rfl (l' := #[.val (.ref a1), .val (.int 0), .val (.int v0)]) rfl ?_
      refine XS.iloadN X5.here hx rfl (hb hby own_d_dec2_16) rfl ?_
      show Steps p.tables e below (T5.setTop (mkF m 17 #[.val (.ref a1), .val (.int 0), .val (.int v0)] [(.int v0)])) _
      refine XS.bipush X5.here hx rfl (hb hby own_d_dec2_17) ?_
      exact kt)
  by_cases hc19_8 : v0 < (48 : Int32)
  · -- yes at pc 19: f
    have pre9 : Goes p e below s₁ (entryFrame m #[(.ref a1)] 3) T5 (mkF m 29 #[.val (.ref a1), .val (.int 0), .val (.int v0)] [(.int 0)]) := fun t kt => pre7 t (by
        show Steps p.tables e below (T5.setTop (mkF m 19 #[.val (.ref a1), .val (.int 0), .val (.int v0)] [(.int 48), (.int v0)])) _
        refine XS.icmpYes X5.here hx rfl (pc0 := 19) (pc' := 28) rfl (hb hby own_d_dec2_19) rfl (tlt hc19_8).1 (by decide) (by decide) ?_
        refine XS.iconst X5.here hx rfl (hb hby own_d_dec2_28) ?_
        exact kt)
    obtain ⟨fs, hr, hrun, hended, hW, hsame⟩ := X5.leave (v := some (.int 0)) (fun h => by rw [Bd.returns] at h; cases h)
    refine ⟨_, _, pre9 _ ?_, hrun, hended, _, _, rfl, ?_, ⟨_, rfl⟩, hW, hsame.mono (by decide) (by decide)⟩
    · show Steps p.tables e below (T5.setTop (mkF m 29 #[.val (.ref a1), .val (.int 0), .val (.int v0)] [(.int 0)])) _
      exact retN X5 hx (t := .boolean) Bd.returns (by simp) (hb hby own_d_dec2_29) hr
    · show Q_own_dec2 Z a1 cd y ky v0 v1 cs fm h0 n0 _ T5.heap _
      rw [e5]
      exact ⟨_, rfl, N5, rfl, Or.inr ⟨rfl, fun q => q.1.1 hc19_8⟩⟩
  · -- no at pc 19: f
    have pre10 : Goes p e below s₁ (entryFrame m #[(.ref a1)] 3) T5 (mkF m 25 #[.val (.ref a1), .val (.int 0), .val (.int v0)] [(.int 57), (.int v0)]) := fun t kt => pre7 t (by
        show Steps p.tables e below (T5.setTop (mkF m 19 #[.val (.ref a1), .val (.int 0), .val (.int v0)] [(.int 48), (.int v0)])) _
        refine XS.icmpNo X5.here hx rfl (hb hby own_d_dec2_19) rfl (flt hc19_8).1 ?_
        refine XS.iloadN X5.here hx rfl (hb hby own_d_dec2_22) rfl ?_
        show Steps p.tables e below (T5.setTop (mkF m 23 #[.val (.ref a1), .val (.int 0), .val (.int v0)] [(.int v0)])) _
        refine XS.bipush X5.here hx rfl (hb hby own_d_dec2_23) ?_
        exact kt)
    by_cases hc25_11 : (57 : Int32) < v0
    · -- yes at pc 25: ff
      have pre12 : Goes p e below s₁ (entryFrame m #[(.ref a1)] 3) T5 (mkF m 29 #[.val (.ref a1), .val (.int 0), .val (.int v0)] [(.int 0)]) := fun t kt => pre10 t (by
          show Steps p.tables e below (T5.setTop (mkF m 25 #[.val (.ref a1), .val (.int 0), .val (.int v0)] [(.int 57), (.int v0)])) _
          refine XS.icmpNo X5.here hx rfl (hb hby own_d_dec2_25) rfl (tlt hc25_11).2.2.2 ?_
          refine XS.iconst X5.here hx rfl (hb hby own_d_dec2_28) ?_
          exact kt)
      obtain ⟨fs, hr, hrun, hended, hW, hsame⟩ := X5.leave (v := some (.int 0)) (fun h => by rw [Bd.returns] at h; cases h)
      refine ⟨_, _, pre12 _ ?_, hrun, hended, _, _, rfl, ?_, ⟨_, rfl⟩, hW, hsame.mono (by decide) (by decide)⟩
      · show Steps p.tables e below (T5.setTop (mkF m 29 #[.val (.ref a1), .val (.int 0), .val (.int v0)] [(.int 0)])) _
        exact retN X5 hx (t := .boolean) Bd.returns (by simp) (hb hby own_d_dec2_29) hr
      · show Q_own_dec2 Z a1 cd y ky v0 v1 cs fm h0 n0 _ T5.heap _
        rw [e5]
        exact ⟨_, rfl, N5, rfl, Or.inr ⟨rfl, fun q => q.1.2 hc25_11⟩⟩
    · -- no at pc 25: ff
      have pre13 : Goes p e below s₁ (entryFrame m #[(.ref a1)] 3) T5 (mkF m 4 #[.val (.ref a1), .val (.int 1), .val (.int v0)] [(.ref a1), (.int 1)]) := fun t kt => pre10 t (by
          show Steps p.tables e below (T5.setTop (mkF m 25 #[.val (.ref a1), .val (.int 0), .val (.int v0)] [(.int 57), (.int v0)])) _
          refine XS.icmpYes X5.here hx rfl (pc0 := 25) (pc' := 30) rfl (hb hby own_d_dec2_25) rfl (flt hc25_11).2.2.2 (by decide) (by decide) ?_
          refine XS.iinc X5.here hx rfl (hb hby own_d_dec2_30) rfl (l' := #[.val (.ref a1), .val (.int 1), .val (.int v0)]) rfl ?_
          show Steps p.tables e below (T5.setTop (mkF m 33 #[.val (.ref a1), .val (.int 1), .val (.int v0)] [])) _
          refine XS.goto X5.here hx rfl (pc0 := 33) (pc' := 2) rfl (hb hby own_d_dec2_33) (by decide) (by decide) ?_
          refine XS.iloadN X5.here hx rfl (hb hby own_d_dec2_2) rfl ?_
          show Steps p.tables e below (T5.setTop (mkF m 3 #[.val (.ref a1), .val (.int 1), .val (.int v0)] [(.int 1)])) _
          refine XS.aloadN X5.here hx rfl (hb hby own_d_dec2_3) rfl rfl ?_
          exact kt)
      obtain ⟨cq14, kq14, q14a, q14b, q14c⟩ := isOf hZ e5 E_a1
      obtain ⟨_, _, ⟨T14, L14, k14, n14⟩, -, X14, ⟨Lc14, hQ14, l14, y14, z14⟩, st14⟩ := X5.virtualBack hx (y := (⟨"java/lang/String", "length", "()I"⟩ : MethodName)) (z := (⟨"java/lang/String", "length", "()I"⟩ : MethodName)) hown (mvT hZ (hw _ (own_mG (i := 31) rfl))) (mvT hZ (hw _ (own_mG (i := 32) rfl))) (notFace_of_selects (args := #[]) (mvT hZ (hw _ (own_mG (i := 34) rfl)))) (mvT hZ (hw _ (own_mG (i := 34) rfl))) (mvT hZ (hw _ (own_mG (i := 33) rfl))) (by decide) (backOf (W := 1) (own_sle l Z a0 hw [] a1 cd y (2 : Int32) cs fm h0 n0 Z0 E_a1 Fc Fv (own_LD2 SDy) hst O0) hZ (hw _ (own_mG (i := 35) rfl)) (hw _ (own_mG (i := 7) rfl)) (by decide) (by decide)) q14a q14c (g := (mkF m 4 #[.val (.ref a1), .val (.int 1), .val (.int v0)] [(.ref a1), (.int 1)])) rfl (by rw [hml]; rfl) (Steps.refl _) (argsL := []) (rest := [(.int 1)]) (lenOf own_pd14 rfl) rfl (by show 2 * 0 + _ ≤ _; exact Nat.le_of_eq rfl) (hb hby own_d_dec2_4) (fun _ _ => ⟨rfl, e5, (by decide : 0 + 0 ≤ _), (by decide : 0 + 0 ≤ _)⟩)
      dsimp only [Pt.U, Pt.locs, Pt.cells, Pt.slots] at X14 l14 y14 z14 st14 hQ14
      subst l14 y14 z14
      obtain ⟨rfl, N14q, e14⟩ := hQ14
      have N14 := Fr.app N5 N14q
      have pre15 : Goes p e below s₁ (entryFrame m #[(.ref a1)] 3) T14 (mkF m 7 #[.val (.ref a1), .val (.int 1), .val (.int v0)] [(.int 2), (.int 1)]) := fun t kt => pre13 t (st14.trans kt)
      have pre16 : Goes p e below s₁ (entryFrame m #[(.ref a1)] 3) T14 (mkF m 12 #[.val (.ref a1), .val (.int 1), .val (.int v0)] [(.int 1), (.ref a1)]) := fun t kt => pre15 t (by
          show Steps p.tables e below (T14.setTop (mkF m 7 #[.val (.ref a1), .val (.int 1), .val (.int v0)] [(.int 2), (.int 1)])) _
          refine XS.icmpNo X14.here hx rfl (hb hby own_d_dec2_7) rfl (tlt (by decide : (1 : Int32) < (2 : Int32))).2.1 ?_
          refine XS.aloadN X14.here hx rfl (hb hby own_d_dec2_10) rfl rfl ?_
          show Steps p.tables e below (T14.setTop (mkF m 11 #[.val (.ref a1), .val (.int 1), .val (.int v0)] [(.ref a1)])) _
          refine XS.iloadN X14.here hx rfl (hb hby own_d_dec2_11) rfl ?_
          exact kt)
      obtain ⟨cq17, kq17, q17a, q17b, q17c⟩ := isOf hZ e14 E_a1
      obtain ⟨_, _, ⟨T17, L17, k17, n17⟩, -, X17, ⟨Lc17, hQ17, l17, y17, z17⟩, st17⟩ := X14.virtualBack hx (y := (⟨"java/lang/String", "charAt", "(I)C"⟩ : MethodName)) (z := (⟨"java/lang/String", "charAt", "(I)C"⟩ : MethodName)) hown (mvT hZ (hw _ (own_mG (i := 55) rfl))) (mvT hZ (hw _ (own_mG (i := 56) rfl))) (notFace_of_selects (args := #[]) (mvT hZ (hw _ (own_mG (i := 58) rfl)))) (mvT hZ (hw _ (own_mG (i := 58) rfl))) (mvT hZ (hw _ (own_mG (i := 57) rfl))) (by decide) (backOf (W := 0) (own_sch l Z a0 hw [] a1 cd y (1 : Int32) v1 cs fm h0 n0 Z0 E_a1 Fc Fv (own_RD21 SDy hl1) (by decide) hst O0) hZ (hw _ (own_mG (i := 59) rfl)) (hw _ (own_mG (i := 7) rfl)) (by decide) (by decide)) q17a q17c (g := (mkF m 12 #[.val (.ref a1), .val (.int 1), .val (.int v0)] [(.int 1), (.ref a1)])) rfl (by rw [hml]; rfl) (Steps.refl _) (argsL := [(.int 1)]) (rest := []) (lenOf own_pd15 rfl) rfl (by show 2 * 0 + _ ≤ _; exact Nat.le_of_eq rfl) (hb hby own_d_dec2_12) (fun _ _ => ⟨rfl, e14, (by decide : 0 + 0 ≤ _), (by decide : 0 + 0 ≤ _)⟩)
      dsimp only [Pt.U, Pt.locs, Pt.cells, Pt.slots] at X17 l17 y17 z17 st17 hQ17
      subst l17 y17 z17
      obtain ⟨rfl, N17q, e17⟩ := hQ17
      have N17 := Fr.app N14 N17q
      have pre18 : Goes p e below s₁ (entryFrame m #[(.ref a1)] 3) T17 (mkF m 15 #[.val (.ref a1), .val (.int 1), .val (.int v0)] [(.int v1)]) := fun t kt => pre16 t (st17.trans kt)
      have pre19 : Goes p e below s₁ (entryFrame m #[(.ref a1)] 3) T17 (mkF m 19 #[.val (.ref a1), .val (.int 1), .val (.int v1)] [(.int 48), (.int v1)]) := fun t kt => pre18 t (by
          show Steps p.tables e below (T17.setTop (mkF m 15 #[.val (.ref a1), .val (.int 1), .val (.int v0)] [(.int v1)])) _
          refine XS.istoreN X17.here hx rfl (hb hby own_d_dec2_15) rfl (l' := #[.val (.ref a1), .val (.int 1), .val (.int v1)]) rfl ?_
          refine XS.iloadN X17.here hx rfl (hb hby own_d_dec2_16) rfl ?_
          show Steps p.tables e below (T17.setTop (mkF m 17 #[.val (.ref a1), .val (.int 1), .val (.int v1)] [(.int v1)])) _
          refine XS.bipush X17.here hx rfl (hb hby own_d_dec2_17) ?_
          exact kt)
      by_cases hc19_20 : v1 < (48 : Int32)
      · -- yes at pc 19: fftf
        have pre21 : Goes p e below s₁ (entryFrame m #[(.ref a1)] 3) T17 (mkF m 29 #[.val (.ref a1), .val (.int 1), .val (.int v1)] [(.int 0)]) := fun t kt => pre19 t (by
            show Steps p.tables e below (T17.setTop (mkF m 19 #[.val (.ref a1), .val (.int 1), .val (.int v1)] [(.int 48), (.int v1)])) _
            refine XS.icmpYes X17.here hx rfl (pc0 := 19) (pc' := 28) rfl (hb hby own_d_dec2_19) rfl (tlt hc19_20).1 (by decide) (by decide) ?_
            refine XS.iconst X17.here hx rfl (hb hby own_d_dec2_28) ?_
            exact kt)
        obtain ⟨fs, hr, hrun, hended, hW, hsame⟩ := X17.leave (v := some (.int 0)) (fun h => by rw [Bd.returns] at h; cases h)
        refine ⟨_, _, pre21 _ ?_, hrun, hended, _, _, rfl, ?_, ⟨_, rfl⟩, hW, hsame.mono (by decide) (by decide)⟩
        · show Steps p.tables e below (T17.setTop (mkF m 29 #[.val (.ref a1), .val (.int 1), .val (.int v1)] [(.int 0)])) _
          exact retN X17 hx (t := .boolean) Bd.returns (by simp) (hb hby own_d_dec2_29) hr
        · show Q_own_dec2 Z a1 cd y ky v0 v1 cs fm h0 n0 _ T17.heap _
          rw [e17]
          exact ⟨_, rfl, N17, rfl, Or.inr ⟨rfl, fun q => q.2.1 hc19_20⟩⟩
      · -- no at pc 19: fftf
        have pre22 : Goes p e below s₁ (entryFrame m #[(.ref a1)] 3) T17 (mkF m 25 #[.val (.ref a1), .val (.int 1), .val (.int v1)] [(.int 57), (.int v1)]) := fun t kt => pre19 t (by
            show Steps p.tables e below (T17.setTop (mkF m 19 #[.val (.ref a1), .val (.int 1), .val (.int v1)] [(.int 48), (.int v1)])) _
            refine XS.icmpNo X17.here hx rfl (hb hby own_d_dec2_19) rfl (flt hc19_20).1 ?_
            refine XS.iloadN X17.here hx rfl (hb hby own_d_dec2_22) rfl ?_
            show Steps p.tables e below (T17.setTop (mkF m 23 #[.val (.ref a1), .val (.int 1), .val (.int v1)] [(.int v1)])) _
            refine XS.bipush X17.here hx rfl (hb hby own_d_dec2_23) ?_
            exact kt)
        by_cases hc25_23 : (57 : Int32) < v1
        · -- yes at pc 25: fftff
          have pre24 : Goes p e below s₁ (entryFrame m #[(.ref a1)] 3) T17 (mkF m 29 #[.val (.ref a1), .val (.int 1), .val (.int v1)] [(.int 0)]) := fun t kt => pre22 t (by
              show Steps p.tables e below (T17.setTop (mkF m 25 #[.val (.ref a1), .val (.int 1), .val (.int v1)] [(.int 57), (.int v1)])) _
              refine XS.icmpNo X17.here hx rfl (hb hby own_d_dec2_25) rfl (tlt hc25_23).2.2.2 ?_
              refine XS.iconst X17.here hx rfl (hb hby own_d_dec2_28) ?_
              exact kt)
          obtain ⟨fs, hr, hrun, hended, hW, hsame⟩ := X17.leave (v := some (.int 0)) (fun h => by rw [Bd.returns] at h; cases h)
          refine ⟨_, _, pre24 _ ?_, hrun, hended, _, _, rfl, ?_, ⟨_, rfl⟩, hW, hsame.mono (by decide) (by decide)⟩
          · show Steps p.tables e below (T17.setTop (mkF m 29 #[.val (.ref a1), .val (.int 1), .val (.int v1)] [(.int 0)])) _
            exact retN X17 hx (t := .boolean) Bd.returns (by simp) (hb hby own_d_dec2_29) hr
          · show Q_own_dec2 Z a1 cd y ky v0 v1 cs fm h0 n0 _ T17.heap _
            rw [e17]
            exact ⟨_, rfl, N17, rfl, Or.inr ⟨rfl, fun q => q.2.2 hc25_23⟩⟩
        · -- no at pc 25: fftff
          have pre25 : Goes p e below s₁ (entryFrame m #[(.ref a1)] 3) T17 (mkF m 4 #[.val (.ref a1), .val (.int 2), .val (.int v1)] [(.ref a1), (.int 2)]) := fun t kt => pre22 t (by
              show Steps p.tables e below (T17.setTop (mkF m 25 #[.val (.ref a1), .val (.int 1), .val (.int v1)] [(.int 57), (.int v1)])) _
              refine XS.icmpYes X17.here hx rfl (pc0 := 25) (pc' := 30) rfl (hb hby own_d_dec2_25) rfl (flt hc25_23).2.2.2 (by decide) (by decide) ?_
              refine XS.iinc X17.here hx rfl (hb hby own_d_dec2_30) rfl (l' := #[.val (.ref a1), .val (.int 2), .val (.int v1)]) rfl ?_
              show Steps p.tables e below (T17.setTop (mkF m 33 #[.val (.ref a1), .val (.int 2), .val (.int v1)] [])) _
              refine XS.goto X17.here hx rfl (pc0 := 33) (pc' := 2) rfl (hb hby own_d_dec2_33) (by decide) (by decide) ?_
              refine XS.iloadN X17.here hx rfl (hb hby own_d_dec2_2) rfl ?_
              show Steps p.tables e below (T17.setTop (mkF m 3 #[.val (.ref a1), .val (.int 2), .val (.int v1)] [(.int 2)])) _
              refine XS.aloadN X17.here hx rfl (hb hby own_d_dec2_3) rfl rfl ?_
              exact kt)
          obtain ⟨cq26, kq26, q26a, q26b, q26c⟩ := isOf hZ e17 E_a1
          obtain ⟨_, _, ⟨T26, L26, k26, n26⟩, -, X26, ⟨Lc26, hQ26, l26, y26, z26⟩, st26⟩ := X17.virtualBack hx (y := (⟨"java/lang/String", "length", "()I"⟩ : MethodName)) (z := (⟨"java/lang/String", "length", "()I"⟩ : MethodName)) hown (mvT hZ (hw _ (own_mG (i := 31) rfl))) (mvT hZ (hw _ (own_mG (i := 32) rfl))) (notFace_of_selects (args := #[]) (mvT hZ (hw _ (own_mG (i := 34) rfl)))) (mvT hZ (hw _ (own_mG (i := 34) rfl))) (mvT hZ (hw _ (own_mG (i := 33) rfl))) (by decide) (backOf (W := 1) (own_sle l Z a0 hw [] a1 cd y (2 : Int32) cs fm h0 n0 Z0 E_a1 Fc Fv (own_LD2 SDy) hst O0) hZ (hw _ (own_mG (i := 35) rfl)) (hw _ (own_mG (i := 7) rfl)) (by decide) (by decide)) q26a q26c (g := (mkF m 4 #[.val (.ref a1), .val (.int 2), .val (.int v1)] [(.ref a1), (.int 2)])) rfl (by rw [hml]; rfl) (Steps.refl _) (argsL := []) (rest := [(.int 2)]) (lenOf own_pd14 rfl) rfl (by show 2 * 0 + _ ≤ _; exact Nat.le_of_eq rfl) (hb hby own_d_dec2_4) (fun _ _ => ⟨rfl, e17, (by decide : 0 + 0 ≤ _), (by decide : 0 + 0 ≤ _)⟩)
          dsimp only [Pt.U, Pt.locs, Pt.cells, Pt.slots] at X26 l26 y26 z26 st26 hQ26
          subst l26 y26 z26
          obtain ⟨rfl, N26q, e26⟩ := hQ26
          have N26 := Fr.app N17 N26q
          have pre27 : Goes p e below s₁ (entryFrame m #[(.ref a1)] 3) T26 (mkF m 7 #[.val (.ref a1), .val (.int 2), .val (.int v1)] [(.int 2), (.int 2)]) := fun t kt => pre25 t (st26.trans kt)
          have pre28 : Goes p e below s₁ (entryFrame m #[(.ref a1)] 3) T26 (mkF m 37 #[.val (.ref a1), .val (.int 2), .val (.int v1)] [(.int 1)]) := fun t kt => pre27 t (by
              show Steps p.tables e below (T26.setTop (mkF m 7 #[.val (.ref a1), .val (.int 2), .val (.int v1)] [(.int 2), (.int 2)])) _
              refine XS.icmpYes X26.here hx rfl (pc0 := 7) (pc' := 36) rfl (hb hby own_d_dec2_7) rfl (flt (by decide : ¬ ((2 : Int32) < (2 : Int32)))).2.1 (by decide) (by decide) ?_
              refine XS.iconst X26.here hx rfl (hb hby own_d_dec2_36) ?_
              exact kt)
          obtain ⟨fs, hr, hrun, hended, hW, hsame⟩ := X26.leave (v := some (.int 1)) (fun h => by rw [Bd.returns] at h; cases h)
          refine ⟨_, _, pre28 _ ?_, hrun, hended, _, _, rfl, ?_, ⟨_, rfl⟩, hW, hsame.mono (by decide) (by decide)⟩
          · show Steps p.tables e below (T26.setTop (mkF m 37 #[.val (.ref a1), .val (.int 2), .val (.int v1)] [(.int 1)])) _
            exact retN X26 hx (t := .boolean) Bd.returns (by simp) (hb hby own_d_dec2_37) hr
          · show Q_own_dec2 Z a1 cd y ky v0 v1 cs fm h0 n0 _ T26.heap _
            rw [e26]
            exact ⟨_, rfl, N26, rfl, Or.inl ⟨rfl, ⟨hc19_8, hc25_11⟩, ⟨hc19_20, hc25_23⟩⟩⟩
theorem own_d_dec3_0 : decode prog_3_method_11_code 0 = .ok (.iconst 0, 1) := by decide +kernel
theorem own_d_dec3_1 : decode prog_3_method_11_code 1 = .ok (.istore_n 1, 1) := by decide +kernel
theorem own_d_dec3_2 : decode prog_3_method_11_code 2 = .ok (.iload_n 1, 1) := by decide +kernel
theorem own_d_dec3_3 : decode prog_3_method_11_code 3 = .ok (.aload_n 0, 1) := by decide +kernel
theorem own_d_dec3_4 : decode prog_3_method_11_code 4 = .ok (.invokevirtual 17, 3) := by decide +kernel
theorem own_d_dec3_7 : decode prog_3_method_11_code 7 = .ok (.if_icmp .ge 29, 3) := by decide +kernel
theorem own_d_dec3_10 : decode prog_3_method_11_code 10 = .ok (.aload_n 0, 1) := by decide +kernel
theorem own_d_dec3_11 : decode prog_3_method_11_code 11 = .ok (.iload_n 1, 1) := by decide +kernel
theorem own_d_dec3_12 : decode prog_3_method_11_code 12 = .ok (.invokevirtual 23, 3) := by decide +kernel
theorem own_d_dec3_15 : decode prog_3_method_11_code 15 = .ok (.istore_n 2, 1) := by decide +kernel
theorem own_d_dec3_16 : decode prog_3_method_11_code 16 = .ok (.iload_n 2, 1) := by decide +kernel
theorem own_d_dec3_17 : decode prog_3_method_11_code 17 = .ok (.bipush 48, 2) := by decide +kernel
theorem own_d_dec3_19 : decode prog_3_method_11_code 19 = .ok (.if_icmp .lt 9, 3) := by decide +kernel
theorem own_d_dec3_22 : decode prog_3_method_11_code 22 = .ok (.iload_n 2, 1) := by decide +kernel
theorem own_d_dec3_23 : decode prog_3_method_11_code 23 = .ok (.bipush 57, 2) := by decide +kernel
theorem own_d_dec3_25 : decode prog_3_method_11_code 25 = .ok (.if_icmp .le 5, 3) := by decide +kernel
theorem own_d_dec3_28 : decode prog_3_method_11_code 28 = .ok (.iconst 0, 1) := by decide +kernel
theorem own_d_dec3_29 : decode prog_3_method_11_code 29 = .ok (.ireturn, 1) := by decide +kernel
theorem own_d_dec3_30 : decode prog_3_method_11_code 30 = .ok (.iinc 1 1, 3) := by decide +kernel
theorem own_d_dec3_33 : decode prog_3_method_11_code 33 = .ok (.goto (-31), 3) := by decide +kernel
theorem own_d_dec3_36 : decode prog_3_method_11_code 36 = .ok (.iconst 1, 1) := by decide +kernel
theorem own_d_dec3_37 : decode prog_3_method_11_code 37 = .ok (.ireturn, 1) := by decide +kernel
theorem own_pn_own_dec3 : plainName "com/example/tallygate/tallygate/AddressLiterals" = true := by first | (simp [plainName, overriddenIn]; done) | decide +kernel
theorem own_ef_own_dec3 (m : MethodId) (x0 : Addr) : entryFrame m #[(.ref x0)] 3 = mkF m 0 #[.val (.ref x0), .unset, .unset] [] := by first | (simp [entryFrame, mkF, argsToLocals, Value.category]; done) | rfl
def Q_own_dec3 (Z : State) (a1 : Addr) (cd : Int32) (y : Addr) (ky : ClassId) (v0 : Int32) (v1 : Int32) (v2 : Int32) (cs : Int32) (fm : Value) (h0 : Heap) (n0 : Nat) (v : Option Value) (h : Heap) (L : List Loc) : Prop := ∃ z : Int32, v = some (.int z) ∧ Fr n0 L ∧ h = h0 ∧ ((z = (1 : Int32) ∧ (own_dg v0 ∧ own_dg v1 ∧ own_dg v2)) ∨ (z = (0 : Int32) ∧ ¬ (own_dg v0 ∧ own_dg v1 ∧ own_dg v2)))
set_option maxRecDepth 65536 in
set_option maxHeartbeats 40000000 in
theorem own_dec3 (l : Launch) (Z : State) (a0 : Array Value) (hw : ∀ d ∈ tables_1, d.before a0 Z = true) (ws : List Jvm.Cond) (a1 : Addr) (cd : Int32) (y : Addr) (ky : ClassId) (v0 : Int32) (v1 : Int32) (v2 : Int32) (cs : Int32) (fm : Value) (h0 : Heap) (n0 : Nat) (Z0 : n0 ≤ h0.size) (E_a1 : Exa Z h0 a1 "java/lang/String") (Fc : Fld Z h0 a1 "java/lang/String" "coder" "B" (.int cd)) (Fv : Fld Z h0 a1 "java/lang/String" "value" "[B" (.ref y)) (SDy : own_SD Z h0 y ky cd (3 : Int32) (6 : Int32) [(.int (own_by v0)), (.int (own_by v1)), (.int (own_by v2))] [(.int (own_B0 v0)), (.int (own_B1 v0)), (.int (own_B0 v1)), (.int (own_B1 v1)), (.int (own_B0 v2)), (.int (own_B1 v2))] (¬ ((255 : Int32) < v0) ∧ ¬ ((255 : Int32) < v1) ∧ ¬ ((255 : Int32) < v2))) (hl0 : (0 ≤ v0.toInt ∧ v0.toInt < 65536)) (hl1 : (0 ≤ v1.toInt ∧ v1.toInt < 65536)) (hl2 : (0 ≤ v2.toInt ∧ v2.toInt < 65536)) (hst : own_ST Z cs fm) (O0 : Old Z n0 h0) :
    MetFree l (⟨"com/example/tallygate/tallygate/AddressLiterals", "isDecimal", "(Ljava/lang/String;)Z"⟩ : MethodName) (head1 (Jvm.Cond.code (⟨"com/example/tallygate/tallygate/AddressLiterals", "isDecimal", "(Ljava/lang/String;)Z"⟩ : MethodName) prog_3_method_11_code 3 (some .boolean) :: ws) ({ frames := 5, cells := 0, slots := 0, locals := 66 } : Room)) (fun a U => a = #[(.ref a1)] ∧ Z.Warmed39 U.vm ∧ U.heap = h0) (fun _ _ _ _ _ => True) (fun _ U o U' => ∃ v L, o = .returned v ∧ Q_own_dec3 Z a1 cd y ky v0 v1 v2 cs fm h0 n0 v U'.heap L ∧ FrameEnd U o U' L ({ frames := 5, cells := 0, slots := 0, locals := 66 } : Room).cells ({ frames := 5, cells := 0, slots := 0, locals := 66 } : Room).slots) := by
  refine MetFree.of_bodySF (plainFor_of_name own_pn_own_dec3) hisR ?_
  intro p e s m args below meth c s₁ Bd hml0 hP hK
  obtain ⟨rfl, hZ, hh⟩ := hP
  have hx := Bd.exec
  have hby := Bd.bytes
  have hml : c.maxLocals = 3 := hml0
  have hown : s.vm.findClass "com/example/tallygate/tallygate/AddressLiterals" = some m.cls := findClass_of_methodNamed Bd.named
  have hnm := (name_of_methodNamed Bd.named Bd.method).1
  have X0 : Stand p l e ({ frames := 5, cells := 0, slots := 0, locals := 66 } : Room) s m #[(.ref a1)] below meth c s₁ [] 0 0 := Stand.of_body Bd
  have e0 : s₁.heap = h0 := by rw [← hh, Bd.state]; rfl
  have N0 := Fr.nil n0
  have pre0 : Goes p e below s₁ (entryFrame m #[(.ref a1)] 3) s₁ (mkF m 0 #[.val (.ref a1), .unset, .unset] []) := fun t k => castTop (own_ef_own_dec3 m a1) k
  have pre1 : Goes p e below s₁ (entryFrame m #[(.ref a1)] 3) s₁ (mkF m 4 #[.val (.ref a1), .val (.int 0), .unset] [(.ref a1), (.int 0)]) := fun t kt => pre0 t (by
      show Steps p.tables e below (s₁.setTop (mkF m 0 #[.val (.ref a1), .unset, .unset] [])) _
      refine XS.iconst X0.here hx rfl (hb hby own_d_dec3_0) ?_
      refine XS.istoreN X0.here hx rfl (hb hby own_d_dec3_1) rfl (l' := #[.val (.ref a1), .val (.int 0), .unset]) rfl ?_
      show Steps p.tables e below (s₁.setTop (mkF m 2 #[.val (.ref a1), .val (.int 0), .unset] [])) _
      refine XS.iloadN X0.here hx rfl (hb hby own_d_dec3_2) rfl ?_
      refine XS.aloadN X0.here hx rfl (hb hby own_d_dec3_3) rfl rfl ?_
      exact kt)
  obtain ⟨cq2, kq2, q2a, q2b, q2c⟩ := isOf hZ e0 E_a1
  obtain ⟨_, _, ⟨T2, L2, k2, n2⟩, -, X2, ⟨Lc2, hQ2, l2, y2, z2⟩, st2⟩ := X0.virtualBack hx (y := (⟨"java/lang/String", "length", "()I"⟩ : MethodName)) (z := (⟨"java/lang/String", "length", "()I"⟩ : MethodName)) hown (mvT hZ (hw _ (own_mG (i := 31) rfl))) (mvT hZ (hw _ (own_mG (i := 32) rfl))) (notFace_of_selects (args := #[]) (mvT hZ (hw _ (own_mG (i := 34) rfl)))) (mvT hZ (hw _ (own_mG (i := 34) rfl))) (mvT hZ (hw _ (own_mG (i := 33) rfl))) (by decide) (backOf (W := 1) (own_sle l Z a0 hw [] a1 cd y (3 : Int32) cs fm h0 n0 Z0 E_a1 Fc Fv (own_LD3 SDy) hst O0) hZ (hw _ (own_mG (i := 35) rfl)) (hw _ (own_mG (i := 7) rfl)) (by decide) (by decide)) q2a q2c (g := (mkF m 4 #[.val (.ref a1), .val (.int 0), .unset] [(.ref a1), (.int 0)])) rfl (by rw [hml]; rfl) (Steps.refl _) (argsL := []) (rest := [(.int 0)]) (lenOf own_pd14 rfl) rfl (by show 2 * 0 + _ ≤ _; exact Nat.le_of_eq rfl) (hb hby own_d_dec3_4) (fun _ _ => ⟨rfl, e0, (by decide : 0 + 0 ≤ _), (by decide : 0 + 0 ≤ _)⟩)
  dsimp only [Pt.U, Pt.locs, Pt.cells, Pt.slots] at X2 l2 y2 z2 st2 hQ2
  subst l2 y2 z2
  obtain ⟨rfl, N2q, e2⟩ := hQ2
  have N2 := Fr.app N0 N2q
  have pre3 : Goes p e below s₁ (entryFrame m #[(.ref a1)] 3) T2 (mkF m 7 #[.val (.ref a1), .val (.int 0), .unset] [(.int 3), (.int 0)]) := fun t kt => pre1 t (st2.trans kt)
  have pre4 : Goes p e below s₁ (entryFrame m #[(.ref a1)] 3) T2 (mkF m 12 #[.val (.ref a1), .val (.int 0), .unset] [(.int 0), (.ref a1)]) := fun t kt => pre3 t (by
      show Steps p.tables e below (T2.setTop (mkF m 7 #[.val (.ref a1), .val (.int 0), .unset] [(.int 3), (.int 0)])) _
      refine XS.icmpNo X2.here hx rfl (hb hby own_d_dec3_7) rfl (tlt (by decide : (0 : Int32) < (3 : Int32))).2.1 ?_
      refine XS.aloadN X2.here hx rfl (hb hby own_d_dec3_10) rfl rfl ?_
      show Steps p.tables e below (T2.setTop (mkF m 11 #[.val (.ref a1), .val (.int 0), .unset] [(.ref a1)])) _
      refine XS.iloadN X2.here hx rfl (hb hby own_d_dec3_11) rfl ?_
      exact kt)
  obtain ⟨cq5, kq5, q5a, q5b, q5c⟩ := isOf hZ e2 E_a1
  obtain ⟨_, _, ⟨T5, L5, k5, n5⟩, -, X5, ⟨Lc5, hQ5, l5, y5, z5⟩, st5⟩ := X2.virtualBack hx (y := (⟨"java/lang/String", "charAt", "(I)C"⟩ : MethodName)) (z := (⟨"java/lang/String", "charAt", "(I)C"⟩ : MethodName)) hown (mvT hZ (hw _ (own_mG (i := 55) rfl))) (mvT hZ (hw _ (own_mG (i := 56) rfl))) (notFace_of_selects (args := #[]) (mvT hZ (hw _ (own_mG (i := 58) rfl)))) (mvT hZ (hw _ (own_mG (i := 58) rfl))) (mvT hZ (hw _ (own_mG (i := 57) rfl))) (by decide) (backOf (W := 0) (own_sch l Z a0 hw [] a1 cd y (0 : Int32) v0 cs fm h0 n0 Z0 E_a1 Fc Fv (own_RD30 SDy hl0) (by decide) hst O0) hZ (hw _ (own_mG (i := 59) rfl)) (hw _ (own_mG (i := 7) rfl)) (by decide) (by decide)) q5a q5c (g := (mkF m 12 #[.val (.ref a1), .val (.int 0), .unset] [(.int 0), (.ref a1)])) rfl (by rw [hml]; rfl) (Steps.refl _) (argsL := [(.int 0)]) (rest := []) (lenOf own_pd15 rfl) rfl (by show 2 * 0 + _ ≤ _; exact Nat.le_of_eq rfl) (hb hby own_d_dec3_12) (fun _ _ => ⟨rfl, e2, (by decide : 0 + 0 ≤ _), (by decide : 0 + 0 ≤ _)⟩)
  dsimp only [Pt.U, Pt.locs, Pt.cells, Pt.slots] at X5 l5 y5 z5 st5 hQ5
  subst l5 y5 z5
  obtain ⟨rfl, N5q, e5⟩ := hQ5
  have N5 := Fr.app N2 N5q
  have pre6 : Goes p e below s₁ (entryFrame m #[(.ref a1)] 3) T5 (mkF m 15 #[.val (.ref a1), .val (.int 0), .unset] [(.int v0)]) := fun t kt => pre4 t (st5.trans kt)
  have pre7 : Goes p e below s₁ (entryFrame m #[(.ref a1)] 3) T5 (mkF m 19 #[.val (.ref a1), .val (.int 0), .val (.int v0)] [(.int 48), (.int v0)]) := fun t kt => pre6 t (by
      show Steps p.tables e below (T5.setTop (mkF m 15 #[.val (.ref a1), .val (.int 0), .unset] [(.int v0)])) _
      refine XS.istoreN X5.here hx rfl (hb hby own_d_dec3_15) rfl (l' := #[.val (.ref a1), .val (.int 0), .val (.int v0)]) rfl ?_
      refine XS.iloadN X5.here hx rfl (hb hby own_d_dec3_16) rfl ?_
      show Steps p.tables e below (T5.setTop (mkF m 17 #[.val (.ref a1), .val (.int 0), .val (.int v0)] [(.int v0)])) _
      refine XS.bipush X5.here hx rfl (hb hby own_d_dec3_17) ?_
      exact kt)
  by_cases hc19_8 : v0 < (48 : Int32)
  · -- yes at pc 19: f
    have pre9 : Goes p e below s₁ (entryFrame m #[(.ref a1)] 3) T5 (mkF m 29 #[.val (.ref a1), .val (.int 0), .val (.int v0)] [(.int 0)]) := fun t kt => pre7 t (by
        show Steps p.tables e below (T5.setTop (mkF m 19 #[.val (.ref a1), .val (.int 0), .val (.int v0)] [(.int 48), (.int v0)])) _
        refine XS.icmpYes X5.here hx rfl (pc0 := 19) (pc' := 28) rfl (hb hby own_d_dec3_19) rfl (tlt hc19_8).1 (by decide) (by decide) ?_
        refine XS.iconst X5.here hx rfl (hb hby own_d_dec3_28) ?_
        exact kt)
    obtain ⟨fs, hr, hrun, hended, hW, hsame⟩ := X5.leave (v := some (.int 0)) (fun h => by rw [Bd.returns] at h; cases h)
    refine ⟨_, _, pre9 _ ?_, hrun, hended, _, _, rfl, ?_, ⟨_, rfl⟩, hW, hsame.mono (by decide) (by decide)⟩
    · show Steps p.tables e below (T5.setTop (mkF m 29 #[.val (.ref a1), .val (.int 0), .val (.int v0)] [(.int 0)])) _
      exact retN X5 hx (t := .boolean) Bd.returns (by simp) (hb hby own_d_dec3_29) hr
    · show Q_own_dec3 Z a1 cd y ky v0 v1 v2 cs fm h0 n0 _ T5.heap _
      rw [e5]
      exact ⟨_, rfl, N5, rfl, Or.inr ⟨rfl, fun q => q.1.1 hc19_8⟩⟩
  · -- no at pc 19: f
    have pre10 : Goes p e below s₁ (entryFrame m #[(.ref a1)] 3) T5 (mkF m 25 #[.val (.ref a1), .val (.int 0), .val (.int v0)] [(.int 57), (.int v0)]) := fun t kt => pre7 t (by
        show Steps p.tables e below (T5.setTop (mkF m 19 #[.val (.ref a1), .val (.int 0), .val (.int v0)] [(.int 48), (.int v0)])) _
        refine XS.icmpNo X5.here hx rfl (hb hby own_d_dec3_19) rfl (flt hc19_8).1 ?_
        refine XS.iloadN X5.here hx rfl (hb hby own_d_dec3_22) rfl ?_
        show Steps p.tables e below (T5.setTop (mkF m 23 #[.val (.ref a1), .val (.int 0), .val (.int v0)] [(.int v0)])) _
        refine XS.bipush X5.here hx rfl (hb hby own_d_dec3_23) ?_
        exact kt)
    by_cases hc25_11 : (57 : Int32) < v0
    · -- yes at pc 25: ff
      have pre12 : Goes p e below s₁ (entryFrame m #[(.ref a1)] 3) T5 (mkF m 29 #[.val (.ref a1), .val (.int 0), .val (.int v0)] [(.int 0)]) := fun t kt => pre10 t (by
          show Steps p.tables e below (T5.setTop (mkF m 25 #[.val (.ref a1), .val (.int 0), .val (.int v0)] [(.int 57), (.int v0)])) _
          refine XS.icmpNo X5.here hx rfl (hb hby own_d_dec3_25) rfl (tlt hc25_11).2.2.2 ?_
          refine XS.iconst X5.here hx rfl (hb hby own_d_dec3_28) ?_
          exact kt)
      obtain ⟨fs, hr, hrun, hended, hW, hsame⟩ := X5.leave (v := some (.int 0)) (fun h => by rw [Bd.returns] at h; cases h)
      refine ⟨_, _, pre12 _ ?_, hrun, hended, _, _, rfl, ?_, ⟨_, rfl⟩, hW, hsame.mono (by decide) (by decide)⟩
      · show Steps p.tables e below (T5.setTop (mkF m 29 #[.val (.ref a1), .val (.int 0), .val (.int v0)] [(.int 0)])) _
        exact retN X5 hx (t := .boolean) Bd.returns (by simp) (hb hby own_d_dec3_29) hr
      · show Q_own_dec3 Z a1 cd y ky v0 v1 v2 cs fm h0 n0 _ T5.heap _
        rw [e5]
        exact ⟨_, rfl, N5, rfl, Or.inr ⟨rfl, fun q => q.1.2 hc25_11⟩⟩
    · -- no at pc 25: ff
      have pre13 : Goes p e below s₁ (entryFrame m #[(.ref a1)] 3) T5 (mkF m 4 #[.val (.ref a1), .val (.int 1), .val (.int v0)] [(.ref a1), (.int 1)]) := fun t kt => pre10 t (by
          show Steps p.tables e below (T5.setTop (mkF m 25 #[.val (.ref a1), .val (.int 0), .val (.int v0)] [(.int 57), (.int v0)])) _
          refine XS.icmpYes X5.here hx rfl (pc0 := 25) (pc' := 30) rfl (hb hby own_d_dec3_25) rfl (flt hc25_11).2.2.2 (by decide) (by decide) ?_
          refine XS.iinc X5.here hx rfl (hb hby own_d_dec3_30) rfl (l' := #[.val (.ref a1), .val (.int 1), .val (.int v0)]) rfl ?_
          show Steps p.tables e below (T5.setTop (mkF m 33 #[.val (.ref a1), .val (.int 1), .val (.int v0)] [])) _
          refine XS.goto X5.here hx rfl (pc0 := 33) (pc' := 2) rfl (hb hby own_d_dec3_33) (by decide) (by decide) ?_
          refine XS.iloadN X5.here hx rfl (hb hby own_d_dec3_2) rfl ?_
          show Steps p.tables e below (T5.setTop (mkF m 3 #[.val (.ref a1), .val (.int 1), .val (.int v0)] [(.int 1)])) _
          refine XS.aloadN X5.here hx rfl (hb hby own_d_dec3_3) rfl rfl ?_
          exact kt)
      obtain ⟨cq14, kq14, q14a, q14b, q14c⟩ := isOf hZ e5 E_a1
      obtain ⟨_, _, ⟨T14, L14, k14, n14⟩, -, X14, ⟨Lc14, hQ14, l14, y14, z14⟩, st14⟩ := X5.virtualBack hx (y := (⟨"java/lang/String", "length", "()I"⟩ : MethodName)) (z := (⟨"java/lang/String", "length", "()I"⟩ : MethodName)) hown (mvT hZ (hw _ (own_mG (i := 31) rfl))) (mvT hZ (hw _ (own_mG (i := 32) rfl))) (notFace_of_selects (args := #[]) (mvT hZ (hw _ (own_mG (i := 34) rfl)))) (mvT hZ (hw _ (own_mG (i := 34) rfl))) (mvT hZ (hw _ (own_mG (i := 33) rfl))) (by decide) (backOf (W := 1) (own_sle l Z a0 hw [] a1 cd y (3 : Int32) cs fm h0 n0 Z0 E_a1 Fc Fv (own_LD3 SDy) hst O0) hZ (hw _ (own_mG (i := 35) rfl)) (hw _ (own_mG (i := 7) rfl)) (by decide) (by decide)) q14a q14c (g := (mkF m 4 #[.val (.ref a1), .val (.int 1), .val (.int v0)] [(.ref a1), (.int 1)])) rfl (by rw [hml]; rfl) (Steps.refl _) (argsL := []) (rest := [(.int 1)]) (lenOf own_pd14 rfl) rfl (by show 2 * 0 + _ ≤ _; exact Nat.le_of_eq rfl) (hb hby own_d_dec3_4) (fun _ _ => ⟨rfl, e5, (by decide : 0 + 0 ≤ _), (by decide : 0 + 0 ≤ _)⟩)
      dsimp only [Pt.U, Pt.locs, Pt.cells, Pt.slots] at X14 l14 y14 z14 st14 hQ14
      subst l14 y14 z14
      obtain ⟨rfl, N14q, e14⟩ := hQ14
      have N14 := Fr.app N5 N14q
      have pre15 : Goes p e below s₁ (entryFrame m #[(.ref a1)] 3) T14 (mkF m 7 #[.val (.ref a1), .val (.int 1), .val (.int v0)] [(.int 3), (.int 1)]) := fun t kt => pre13 t (st14.trans kt)
      have pre16 : Goes p e below s₁ (entryFrame m #[(.ref a1)] 3) T14 (mkF m 12 #[.val (.ref a1), .val (.int 1), .val (.int v0)] [(.int 1), (.ref a1)]) := fun t kt => pre15 t (by
          show Steps p.tables e below (T14.setTop (mkF m 7 #[.val (.ref a1), .val (.int 1), .val (.int v0)] [(.int 3), (.int 1)])) _
          refine XS.icmpNo X14.here hx rfl (hb hby own_d_dec3_7) rfl (tlt (by decide : (1 : Int32) < (3 : Int32))).2.1 ?_
          refine XS.aloadN X14.here hx rfl (hb hby own_d_dec3_10) rfl rfl ?_
          show Steps p.tables e below (T14.setTop (mkF m 11 #[.val (.ref a1), .val (.int 1), .val (.int v0)] [(.ref a1)])) _
          refine XS.iloadN X14.here hx rfl (hb hby own_d_dec3_11) rfl ?_
          exact kt)
      obtain ⟨cq17, kq17, q17a, q17b, q17c⟩ := isOf hZ e14 E_a1
      obtain ⟨_, _, ⟨T17, L17, k17, n17⟩, -, X17, ⟨Lc17, hQ17, l17, y17, z17⟩, st17⟩ := X14.virtualBack hx (y := (⟨"java/lang/String", "charAt", "(I)C"⟩ : MethodName)) (z := (⟨"java/lang/String", "charAt", "(I)C"⟩ : MethodName)) hown (mvT hZ (hw _ (own_mG (i := 55) rfl))) (mvT hZ (hw _ (own_mG (i := 56) rfl))) (notFace_of_selects (args := #[]) (mvT hZ (hw _ (own_mG (i := 58) rfl)))) (mvT hZ (hw _ (own_mG (i := 58) rfl))) (mvT hZ (hw _ (own_mG (i := 57) rfl))) (by decide) (backOf (W := 0) (own_sch l Z a0 hw [] a1 cd y (1 : Int32) v1 cs fm h0 n0 Z0 E_a1 Fc Fv (own_RD31 SDy hl1) (by decide) hst O0) hZ (hw _ (own_mG (i := 59) rfl)) (hw _ (own_mG (i := 7) rfl)) (by decide) (by decide)) q17a q17c (g := (mkF m 12 #[.val (.ref a1), .val (.int 1), .val (.int v0)] [(.int 1), (.ref a1)])) rfl (by rw [hml]; rfl) (Steps.refl _) (argsL := [(.int 1)]) (rest := []) (lenOf own_pd15 rfl) rfl (by show 2 * 0 + _ ≤ _; exact Nat.le_of_eq rfl) (hb hby own_d_dec3_12) (fun _ _ => ⟨rfl, e14, (by decide : 0 + 0 ≤ _), (by decide : 0 + 0 ≤ _)⟩)
      dsimp only [Pt.U, Pt.locs, Pt.cells, Pt.slots] at X17 l17 y17 z17 st17 hQ17
      subst l17 y17 z17
      obtain ⟨rfl, N17q, e17⟩ := hQ17
      have N17 := Fr.app N14 N17q
      have pre18 : Goes p e below s₁ (entryFrame m #[(.ref a1)] 3) T17 (mkF m 15 #[.val (.ref a1), .val (.int 1), .val (.int v0)] [(.int v1)]) := fun t kt => pre16 t (st17.trans kt)
      have pre19 : Goes p e below s₁ (entryFrame m #[(.ref a1)] 3) T17 (mkF m 19 #[.val (.ref a1), .val (.int 1), .val (.int v1)] [(.int 48), (.int v1)]) := fun t kt => pre18 t (by
          show Steps p.tables e below (T17.setTop (mkF m 15 #[.val (.ref a1), .val (.int 1), .val (.int v0)] [(.int v1)])) _
          refine XS.istoreN X17.here hx rfl (hb hby own_d_dec3_15) rfl (l' := #[.val (.ref a1), .val (.int 1), .val (.int v1)]) rfl ?_
          refine XS.iloadN X17.here hx rfl (hb hby own_d_dec3_16) rfl ?_
          show Steps p.tables e below (T17.setTop (mkF m 17 #[.val (.ref a1), .val (.int 1), .val (.int v1)] [(.int v1)])) _
          refine XS.bipush X17.here hx rfl (hb hby own_d_dec3_17) ?_
          exact kt)
      by_cases hc19_20 : v1 < (48 : Int32)
      · -- yes at pc 19: fftf
        have pre21 : Goes p e below s₁ (entryFrame m #[(.ref a1)] 3) T17 (mkF m 29 #[.val (.ref a1), .val (.int 1), .val (.int v1)] [(.int 0)]) := fun t kt => pre19 t (by
            show Steps p.tables e below (T17.setTop (mkF m 19 #[.val (.ref a1), .val (.int 1), .val (.int v1)] [(.int 48), (.int v1)])) _
            refine XS.icmpYes X17.here hx rfl (pc0 := 19) (pc' := 28) rfl (hb hby own_d_dec3_19) rfl (tlt hc19_20).1 (by decide) (by decide) ?_
            refine XS.iconst X17.here hx rfl (hb hby own_d_dec3_28) ?_
            exact kt)
        obtain ⟨fs, hr, hrun, hended, hW, hsame⟩ := X17.leave (v := some (.int 0)) (fun h => by rw [Bd.returns] at h; cases h)
        refine ⟨_, _, pre21 _ ?_, hrun, hended, _, _, rfl, ?_, ⟨_, rfl⟩, hW, hsame.mono (by decide) (by decide)⟩
        · show Steps p.tables e below (T17.setTop (mkF m 29 #[.val (.ref a1), .val (.int 1), .val (.int v1)] [(.int 0)])) _
          exact retN X17 hx (t := .boolean) Bd.returns (by simp) (hb hby own_d_dec3_29) hr
        · show Q_own_dec3 Z a1 cd y ky v0 v1 v2 cs fm h0 n0 _ T17.heap _
          rw [e17]
          exact ⟨_, rfl, N17, rfl, Or.inr ⟨rfl, fun q => q.2.1.1 hc19_20⟩⟩
      · -- no at pc 19: fftf
        have pre22 : Goes p e below s₁ (entryFrame m #[(.ref a1)] 3) T17 (mkF m 25 #[.val (.ref a1), .val (.int 1), .val (.int v1)] [(.int 57), (.int v1)]) := fun t kt => pre19 t (by
            show Steps p.tables e below (T17.setTop (mkF m 19 #[.val (.ref a1), .val (.int 1), .val (.int v1)] [(.int 48), (.int v1)])) _
            refine XS.icmpNo X17.here hx rfl (hb hby own_d_dec3_19) rfl (flt hc19_20).1 ?_
            refine XS.iloadN X17.here hx rfl (hb hby own_d_dec3_22) rfl ?_
            show Steps p.tables e below (T17.setTop (mkF m 23 #[.val (.ref a1), .val (.int 1), .val (.int v1)] [(.int v1)])) _
            refine XS.bipush X17.here hx rfl (hb hby own_d_dec3_23) ?_
            exact kt)
        by_cases hc25_23 : (57 : Int32) < v1
        · -- yes at pc 25: fftff
          have pre24 : Goes p e below s₁ (entryFrame m #[(.ref a1)] 3) T17 (mkF m 29 #[.val (.ref a1), .val (.int 1), .val (.int v1)] [(.int 0)]) := fun t kt => pre22 t (by
              show Steps p.tables e below (T17.setTop (mkF m 25 #[.val (.ref a1), .val (.int 1), .val (.int v1)] [(.int 57), (.int v1)])) _
              refine XS.icmpNo X17.here hx rfl (hb hby own_d_dec3_25) rfl (tlt hc25_23).2.2.2 ?_
              refine XS.iconst X17.here hx rfl (hb hby own_d_dec3_28) ?_
              exact kt)
          obtain ⟨fs, hr, hrun, hended, hW, hsame⟩ := X17.leave (v := some (.int 0)) (fun h => by rw [Bd.returns] at h; cases h)
          refine ⟨_, _, pre24 _ ?_, hrun, hended, _, _, rfl, ?_, ⟨_, rfl⟩, hW, hsame.mono (by decide) (by decide)⟩
          · show Steps p.tables e below (T17.setTop (mkF m 29 #[.val (.ref a1), .val (.int 1), .val (.int v1)] [(.int 0)])) _
            exact retN X17 hx (t := .boolean) Bd.returns (by simp) (hb hby own_d_dec3_29) hr
          · show Q_own_dec3 Z a1 cd y ky v0 v1 v2 cs fm h0 n0 _ T17.heap _
            rw [e17]
            exact ⟨_, rfl, N17, rfl, Or.inr ⟨rfl, fun q => q.2.1.2 hc25_23⟩⟩
        · -- no at pc 25: fftff
          have pre25 : Goes p e below s₁ (entryFrame m #[(.ref a1)] 3) T17 (mkF m 4 #[.val (.ref a1), .val (.int 2), .val (.int v1)] [(.ref a1), (.int 2)]) := fun t kt => pre22 t (by
              show Steps p.tables e below (T17.setTop (mkF m 25 #[.val (.ref a1), .val (.int 1), .val (.int v1)] [(.int 57), (.int v1)])) _
              refine XS.icmpYes X17.here hx rfl (pc0 := 25) (pc' := 30) rfl (hb hby own_d_dec3_25) rfl (flt hc25_23).2.2.2 (by decide) (by decide) ?_
              refine XS.iinc X17.here hx rfl (hb hby own_d_dec3_30) rfl (l' := #[.val (.ref a1), .val (.int 2), .val (.int v1)]) rfl ?_
              show Steps p.tables e below (T17.setTop (mkF m 33 #[.val (.ref a1), .val (.int 2), .val (.int v1)] [])) _
              refine XS.goto X17.here hx rfl (pc0 := 33) (pc' := 2) rfl (hb hby own_d_dec3_33) (by decide) (by decide) ?_
              refine XS.iloadN X17.here hx rfl (hb hby own_d_dec3_2) rfl ?_
              show Steps p.tables e below (T17.setTop (mkF m 3 #[.val (.ref a1), .val (.int 2), .val (.int v1)] [(.int 2)])) _
              refine XS.aloadN X17.here hx rfl (hb hby own_d_dec3_3) rfl rfl ?_
              exact kt)
          obtain ⟨cq26, kq26, q26a, q26b, q26c⟩ := isOf hZ e17 E_a1
          obtain ⟨_, _, ⟨T26, L26, k26, n26⟩, -, X26, ⟨Lc26, hQ26, l26, y26, z26⟩, st26⟩ := X17.virtualBack hx (y := (⟨"java/lang/String", "length", "()I"⟩ : MethodName)) (z := (⟨"java/lang/String", "length", "()I"⟩ : MethodName)) hown (mvT hZ (hw _ (own_mG (i := 31) rfl))) (mvT hZ (hw _ (own_mG (i := 32) rfl))) (notFace_of_selects (args := #[]) (mvT hZ (hw _ (own_mG (i := 34) rfl)))) (mvT hZ (hw _ (own_mG (i := 34) rfl))) (mvT hZ (hw _ (own_mG (i := 33) rfl))) (by decide) (backOf (W := 1) (own_sle l Z a0 hw [] a1 cd y (3 : Int32) cs fm h0 n0 Z0 E_a1 Fc Fv (own_LD3 SDy) hst O0) hZ (hw _ (own_mG (i := 35) rfl)) (hw _ (own_mG (i := 7) rfl)) (by decide) (by decide)) q26a q26c (g := (mkF m 4 #[.val (.ref a1), .val (.int 2), .val (.int v1)] [(.ref a1), (.int 2)])) rfl (by rw [hml]; rfl) (Steps.refl _) (argsL := []) (rest := [(.int 2)]) (lenOf own_pd14 rfl) rfl (by show 2 * 0 + _ ≤ _; exact Nat.le_of_eq rfl) (hb hby own_d_dec3_4) (fun _ _ => ⟨rfl, e17, (by decide : 0 + 0 ≤ _), (by decide : 0 + 0 ≤ _)⟩)
          dsimp only [Pt.U, Pt.locs, Pt.cells, Pt.slots] at X26 l26 y26 z26 st26 hQ26
          subst l26 y26 z26
          obtain ⟨rfl, N26q, e26⟩ := hQ26
          have N26 := Fr.app N17 N26q
          have pre27 : Goes p e below s₁ (entryFrame m #[(.ref a1)] 3) T26 (mkF m 7 #[.val (.ref a1), .val (.int 2), .val (.int v1)] [(.int 3), (.int 2)]) := fun t kt => pre25 t (st26.trans kt)
          have pre28 : Goes p e below s₁ (entryFrame m #[(.ref a1)] 3) T26 (mkF m 12 #[.val (.ref a1), .val (.int 2), .val (.int v1)] [(.int 2), (.ref a1)]) := fun t kt => pre27 t (by
              show Steps p.tables e below (T26.setTop (mkF m 7 #[.val (.ref a1), .val (.int 2), .val (.int v1)] [(.int 3), (.int 2)])) _
              refine XS.icmpNo X26.here hx rfl (hb hby own_d_dec3_7) rfl (tlt (by decide : (2 : Int32) < (3 : Int32))).2.1 ?_
              refine XS.aloadN X26.here hx rfl (hb hby own_d_dec3_10) rfl rfl ?_
              show Steps p.tables e below (T26.setTop (mkF m 11 #[.val (.ref a1), .val (.int 2), .val (.int v1)] [(.ref a1)])) _
              refine XS.iloadN X26.here hx rfl (hb hby own_d_dec3_11) rfl ?_
              exact kt)
          obtain ⟨cq29, kq29, q29a, q29b, q29c⟩ := isOf hZ e26 E_a1
          obtain ⟨_, _, ⟨T29, L29, k29, n29⟩, -, X29, ⟨Lc29, hQ29, l29, y29, z29⟩, st29⟩ := X26.virtualBack hx (y := (⟨"java/lang/String", "charAt", "(I)C"⟩ : MethodName)) (z := (⟨"java/lang/String", "charAt", "(I)C"⟩ : MethodName)) hown (mvT hZ (hw _ (own_mG (i := 55) rfl))) (mvT hZ (hw _ (own_mG (i := 56) rfl))) (notFace_of_selects (args := #[]) (mvT hZ (hw _ (own_mG (i := 58) rfl)))) (mvT hZ (hw _ (own_mG (i := 58) rfl))) (mvT hZ (hw _ (own_mG (i := 57) rfl))) (by decide) (backOf (W := 0) (own_sch l Z a0 hw [] a1 cd y (2 : Int32) v2 cs fm h0 n0 Z0 E_a1 Fc Fv (own_RD32 SDy hl2) (by decide) hst O0) hZ (hw _ (own_mG (i := 59) rfl)) (hw _ (own_mG (i := 7) rfl)) (by decide) (by decide)) q29a q29c (g := (mkF m 12 #[.val (.ref a1), .val (.int 2), .val (.int v1)] [(.int 2), (.ref a1)])) rfl (by rw [hml]; rfl) (Steps.refl _) (argsL := [(.int 2)]) (rest := []) (lenOf own_pd15 rfl) rfl (by show 2 * 0 + _ ≤ _; exact Nat.le_of_eq rfl) (hb hby own_d_dec3_12) (fun _ _ => ⟨rfl, e26, (by decide : 0 + 0 ≤ _), (by decide : 0 + 0 ≤ _)⟩)
          dsimp only [Pt.U, Pt.locs, Pt.cells, Pt.slots] at X29 l29 y29 z29 st29 hQ29
          subst l29 y29 z29
          obtain ⟨rfl, N29q, e29⟩ := hQ29
          have N29 := Fr.app N26 N29q
          have pre30 : Goes p e below s₁ (entryFrame m #[(.ref a1)] 3) T29 (mkF m 15 #[.val (.ref a1), .val (.int 2), .val (.int v1)] [(.int v2)]) := fun t kt => pre28 t (st29.trans kt)
          have pre31 : Goes p e below s₁ (entryFrame m #[(.ref a1)] 3) T29 (mkF m 19 #[.val (.ref a1), .val (.int 2), .val (.int v2)] [(.int 48), (.int v2)]) := fun t kt => pre30 t (by
              show Steps p.tables e below (T29.setTop (mkF m 15 #[.val (.ref a1), .val (.int 2), .val (.int v1)] [(.int v2)])) _
              refine XS.istoreN X29.here hx rfl (hb hby own_d_dec3_15) rfl (l' := #[.val (.ref a1), .val (.int 2), .val (.int v2)]) rfl ?_
              refine XS.iloadN X29.here hx rfl (hb hby own_d_dec3_16) rfl ?_
              show Steps p.tables e below (T29.setTop (mkF m 17 #[.val (.ref a1), .val (.int 2), .val (.int v2)] [(.int v2)])) _
              refine XS.bipush X29.here hx rfl (hb hby own_d_dec3_17) ?_
              exact kt)
          by_cases hc19_32 : v2 < (48 : Int32)
          · -- yes at pc 19: fftfftf
            have pre33 : Goes p e below s₁ (entryFrame m #[(.ref a1)] 3) T29 (mkF m 29 #[.val (.ref a1), .val (.int 2), .val (.int v2)] [(.int 0)]) := fun t kt => pre31 t (by
                show Steps p.tables e below (T29.setTop (mkF m 19 #[.val (.ref a1), .val (.int 2), .val (.int v2)] [(.int 48), (.int v2)])) _
                refine XS.icmpYes X29.here hx rfl (pc0 := 19) (pc' := 28) rfl (hb hby own_d_dec3_19) rfl (tlt hc19_32).1 (by decide) (by decide) ?_
                refine XS.iconst X29.here hx rfl (hb hby own_d_dec3_28) ?_
                exact kt)
            obtain ⟨fs, hr, hrun, hended, hW, hsame⟩ := X29.leave (v := some (.int 0)) (fun h => by rw [Bd.returns] at h; cases h)
            refine ⟨_, _, pre33 _ ?_, hrun, hended, _, _, rfl, ?_, ⟨_, rfl⟩, hW, hsame.mono (by decide) (by decide)⟩
            · show Steps p.tables e below (T29.setTop (mkF m 29 #[.val (.ref a1), .val (.int 2), .val (.int v2)] [(.int 0)])) _
              exact retN X29 hx (t := .boolean) Bd.returns (by simp) (hb hby own_d_dec3_29) hr
            · show Q_own_dec3 Z a1 cd y ky v0 v1 v2 cs fm h0 n0 _ T29.heap _
              rw [e29]
              exact ⟨_, rfl, N29, rfl, Or.inr ⟨rfl, fun q => q.2.2.1 hc19_32⟩⟩
          · -- no at pc 19: fftfftf
            have pre34 : Goes p e below s₁ (entryFrame m #[(.ref a1)] 3) T29 (mkF m 25 #[.val (.ref a1), .val (.int 2), .val (.int v2)] [(.int 57), (.int v2)]) := fun t kt => pre31 t (by
                show Steps p.tables e below (T29.setTop (mkF m 19 #[.val (.ref a1), .val (.int 2), .val (.int v2)] [(.int 48), (.int v2)])) _
                refine XS.icmpNo X29.here hx rfl (hb hby own_d_dec3_19) rfl (flt hc19_32).1 ?_
                refine XS.iloadN X29.here hx rfl (hb hby own_d_dec3_22) rfl ?_
                show Steps p.tables e below (T29.setTop (mkF m 23 #[.val (.ref a1), .val (.int 2), .val (.int v2)] [(.int v2)])) _
                refine XS.bipush X29.here hx rfl (hb hby own_d_dec3_23) ?_
                exact kt)
            by_cases hc25_35 : (57 : Int32) < v2
            · -- yes at pc 25: fftfftff
              have pre36 : Goes p e below s₁ (entryFrame m #[(.ref a1)] 3) T29 (mkF m 29 #[.val (.ref a1), .val (.int 2), .val (.int v2)] [(.int 0)]) := fun t kt => pre34 t (by
                  show Steps p.tables e below (T29.setTop (mkF m 25 #[.val (.ref a1), .val (.int 2), .val (.int v2)] [(.int 57), (.int v2)])) _
                  refine XS.icmpNo X29.here hx rfl (hb hby own_d_dec3_25) rfl (tlt hc25_35).2.2.2 ?_
                  refine XS.iconst X29.here hx rfl (hb hby own_d_dec3_28) ?_
                  exact kt)
              obtain ⟨fs, hr, hrun, hended, hW, hsame⟩ := X29.leave (v := some (.int 0)) (fun h => by rw [Bd.returns] at h; cases h)
              refine ⟨_, _, pre36 _ ?_, hrun, hended, _, _, rfl, ?_, ⟨_, rfl⟩, hW, hsame.mono (by decide) (by decide)⟩
              · show Steps p.tables e below (T29.setTop (mkF m 29 #[.val (.ref a1), .val (.int 2), .val (.int v2)] [(.int 0)])) _
                exact retN X29 hx (t := .boolean) Bd.returns (by simp) (hb hby own_d_dec3_29) hr
              · show Q_own_dec3 Z a1 cd y ky v0 v1 v2 cs fm h0 n0 _ T29.heap _
                rw [e29]
                exact ⟨_, rfl, N29, rfl, Or.inr ⟨rfl, fun q => q.2.2.2 hc25_35⟩⟩
            · -- no at pc 25: fftfftff
              have pre37 : Goes p e below s₁ (entryFrame m #[(.ref a1)] 3) T29 (mkF m 4 #[.val (.ref a1), .val (.int 3), .val (.int v2)] [(.ref a1), (.int 3)]) := fun t kt => pre34 t (by
                  show Steps p.tables e below (T29.setTop (mkF m 25 #[.val (.ref a1), .val (.int 2), .val (.int v2)] [(.int 57), (.int v2)])) _
                  refine XS.icmpYes X29.here hx rfl (pc0 := 25) (pc' := 30) rfl (hb hby own_d_dec3_25) rfl (flt hc25_35).2.2.2 (by decide) (by decide) ?_
                  refine XS.iinc X29.here hx rfl (hb hby own_d_dec3_30) rfl (l' := #[.val (.ref a1), .val (.int 3), .val (.int v2)]) rfl ?_
                  show Steps p.tables e below (T29.setTop (mkF m 33 #[.val (.ref a1), .val (.int 3), .val (.int v2)] [])) _
                  refine XS.goto X29.here hx rfl (pc0 := 33) (pc' := 2) rfl (hb hby own_d_dec3_33) (by decide) (by decide) ?_
                  refine XS.iloadN X29.here hx rfl (hb hby own_d_dec3_2) rfl ?_
                  show Steps p.tables e below (T29.setTop (mkF m 3 #[.val (.ref a1), .val (.int 3), .val (.int v2)] [(.int 3)])) _
                  refine XS.aloadN X29.here hx rfl (hb hby own_d_dec3_3) rfl rfl ?_
                  exact kt)
              obtain ⟨cq38, kq38, q38a, q38b, q38c⟩ := isOf hZ e29 E_a1
              obtain ⟨_, _, ⟨T38, L38, k38, n38⟩, -, X38, ⟨Lc38, hQ38, l38, y38, z38⟩, st38⟩ := X29.virtualBack hx (y := (⟨"java/lang/String", "length", "()I"⟩ : MethodName)) (z := (⟨"java/lang/String", "length", "()I"⟩ : MethodName)) hown (mvT hZ (hw _ (own_mG (i := 31) rfl))) (mvT hZ (hw _ (own_mG (i := 32) rfl))) (notFace_of_selects (args := #[]) (mvT hZ (hw _ (own_mG (i := 34) rfl)))) (mvT hZ (hw _ (own_mG (i := 34) rfl))) (mvT hZ (hw _ (own_mG (i := 33) rfl))) (by decide) (backOf (W := 1) (own_sle l Z a0 hw [] a1 cd y (3 : Int32) cs fm h0 n0 Z0 E_a1 Fc Fv (own_LD3 SDy) hst O0) hZ (hw _ (own_mG (i := 35) rfl)) (hw _ (own_mG (i := 7) rfl)) (by decide) (by decide)) q38a q38c (g := (mkF m 4 #[.val (.ref a1), .val (.int 3), .val (.int v2)] [(.ref a1), (.int 3)])) rfl (by rw [hml]; rfl) (Steps.refl _) (argsL := []) (rest := [(.int 3)]) (lenOf own_pd14 rfl) rfl (by show 2 * 0 + _ ≤ _; exact Nat.le_of_eq rfl) (hb hby own_d_dec3_4) (fun _ _ => ⟨rfl, e29, (by decide : 0 + 0 ≤ _), (by decide : 0 + 0 ≤ _)⟩)
              dsimp only [Pt.U, Pt.locs, Pt.cells, Pt.slots] at X38 l38 y38 z38 st38 hQ38
              subst l38 y38 z38
              obtain ⟨rfl, N38q, e38⟩ := hQ38
              have N38 := Fr.app N29 N38q
              have pre39 : Goes p e below s₁ (entryFrame m #[(.ref a1)] 3) T38 (mkF m 7 #[.val (.ref a1), .val (.int 3), .val (.int v2)] [(.int 3), (.int 3)]) := fun t kt => pre37 t (st38.trans kt)
              have pre40 : Goes p e below s₁ (entryFrame m #[(.ref a1)] 3) T38 (mkF m 37 #[.val (.ref a1), .val (.int 3), .val (.int v2)] [(.int 1)]) := fun t kt => pre39 t (by
                  show Steps p.tables e below (T38.setTop (mkF m 7 #[.val (.ref a1), .val (.int 3), .val (.int v2)] [(.int 3), (.int 3)])) _
                  refine XS.icmpYes X38.here hx rfl (pc0 := 7) (pc' := 36) rfl (hb hby own_d_dec3_7) rfl (flt (by decide : ¬ ((3 : Int32) < (3 : Int32)))).2.1 (by decide) (by decide) ?_
                  refine XS.iconst X38.here hx rfl (hb hby own_d_dec3_36) ?_
                  exact kt)
              obtain ⟨fs, hr, hrun, hended, hW, hsame⟩ := X38.leave (v := some (.int 1)) (fun h => by rw [Bd.returns] at h; cases h)
              refine ⟨_, _, pre40 _ ?_, hrun, hended, _, _, rfl, ?_, ⟨_, rfl⟩, hW, hsame.mono (by decide) (by decide)⟩
              · show Steps p.tables e below (T38.setTop (mkF m 37 #[.val (.ref a1), .val (.int 3), .val (.int v2)] [(.int 1)])) _
                exact retN X38 hx (t := .boolean) Bd.returns (by simp) (hb hby own_d_dec3_37) hr
              · show Q_own_dec3 Z a1 cd y ky v0 v1 v2 cs fm h0 n0 _ T38.heap _
                rw [e38]
                exact ⟨_, rfl, N38, rfl, Or.inl ⟨rfl, ⟨hc19_8, hc25_11⟩, ⟨hc19_20, hc25_23⟩, ⟨hc19_32, hc25_35⟩⟩⟩
theorem own_d_dec4_0 : decode prog_3_method_11_code 0 = .ok (.iconst 0, 1) := by decide +kernel
theorem own_d_dec4_1 : decode prog_3_method_11_code 1 = .ok (.istore_n 1, 1) := by decide +kernel
theorem own_d_dec4_2 : decode prog_3_method_11_code 2 = .ok (.iload_n 1, 1) := by decide +kernel
theorem own_d_dec4_3 : decode prog_3_method_11_code 3 = .ok (.aload_n 0, 1) := by decide +kernel
theorem own_d_dec4_4 : decode prog_3_method_11_code 4 = .ok (.invokevirtual 17, 3) := by decide +kernel
theorem own_d_dec4_7 : decode prog_3_method_11_code 7 = .ok (.if_icmp .ge 29, 3) := by decide +kernel
theorem own_d_dec4_10 : decode prog_3_method_11_code 10 = .ok (.aload_n 0, 1) := by decide +kernel
theorem own_d_dec4_11 : decode prog_3_method_11_code 11 = .ok (.iload_n 1, 1) := by decide +kernel
theorem own_d_dec4_12 : decode prog_3_method_11_code 12 = .ok (.invokevirtual 23, 3) := by decide +kernel
theorem own_d_dec4_15 : decode prog_3_method_11_code 15 = .ok (.istore_n 2, 1) := by decide +kernel
theorem own_d_dec4_16 : decode prog_3_method_11_code 16 = .ok (.iload_n 2, 1) := by decide +kernel
theorem own_d_dec4_17 : decode prog_3_method_11_code 17 = .ok (.bipush 48, 2) := by decide +kernel
theorem own_d_dec4_19 : decode prog_3_method_11_code 19 = .ok (.if_icmp .lt 9, 3) := by decide +kernel
theorem own_d_dec4_22 : decode prog_3_method_11_code 22 = .ok (.iload_n 2, 1) := by decide +kernel
theorem own_d_dec4_23 : decode prog_3_method_11_code 23 = .ok (.bipush 57, 2) := by decide +kernel
theorem own_d_dec4_25 : decode prog_3_method_11_code 25 = .ok (.if_icmp .le 5, 3) := by decide +kernel
theorem own_d_dec4_28 : decode prog_3_method_11_code 28 = .ok (.iconst 0, 1) := by decide +kernel
theorem own_d_dec4_29 : decode prog_3_method_11_code 29 = .ok (.ireturn, 1) := by decide +kernel
theorem own_d_dec4_30 : decode prog_3_method_11_code 30 = .ok (.iinc 1 1, 3) := by decide +kernel
theorem own_d_dec4_33 : decode prog_3_method_11_code 33 = .ok (.goto (-31), 3) := by decide +kernel
theorem own_d_dec4_36 : decode prog_3_method_11_code 36 = .ok (.iconst 1, 1) := by decide +kernel
theorem own_d_dec4_37 : decode prog_3_method_11_code 37 = .ok (.ireturn, 1) := by decide +kernel
theorem own_pn_own_dec4 : plainName "com/example/tallygate/tallygate/AddressLiterals" = true := by first | (simp [plainName, overriddenIn]; done) | decide +kernel
theorem own_ef_own_dec4 (m : MethodId) (x0 : Addr) : entryFrame m #[(.ref x0)] 3 = mkF m 0 #[.val (.ref x0), .unset, .unset] [] := by first | (simp [entryFrame, mkF, argsToLocals, Value.category]; done) | rfl
def Q_own_dec4 (Z : State) (a1 : Addr) (cd : Int32) (y : Addr) (ky : ClassId) (v0 : Int32) (v1 : Int32) (v2 : Int32) (v3 : Int32) (cs : Int32) (fm : Value) (h0 : Heap) (n0 : Nat) (v : Option Value) (h : Heap) (L : List Loc) : Prop := ∃ z : Int32, v = some (.int z) ∧ Fr n0 L ∧ h = h0 ∧ ((z = (1 : Int32) ∧ (own_dg v0 ∧ own_dg v1 ∧ own_dg v2 ∧ own_dg v3)) ∨ (z = (0 : Int32) ∧ ¬ (own_dg v0 ∧ own_dg v1 ∧ own_dg v2 ∧ own_dg v3)))
set_option maxRecDepth 65536 in
set_option maxHeartbeats 40000000 in
theorem own_dec4 (l : Launch) (Z : State) (a0 : Array Value) (hw : ∀ d ∈ tables_1, d.before a0 Z = true) (ws : List Jvm.Cond) (a1 : Addr) (cd : Int32) (y : Addr) (ky : ClassId) (v0 : Int32) (v1 : Int32) (v2 : Int32) (v3 : Int32) (cs : Int32) (fm : Value) (h0 : Heap) (n0 : Nat) (Z0 : n0 ≤ h0.size) (E_a1 : Exa Z h0 a1 "java/lang/String") (Fc : Fld Z h0 a1 "java/lang/String" "coder" "B" (.int cd)) (Fv : Fld Z h0 a1 "java/lang/String" "value" "[B" (.ref y)) (SDy : own_SD Z h0 y ky cd (4 : Int32) (8 : Int32) [(.int (own_by v0)), (.int (own_by v1)), (.int (own_by v2)), (.int (own_by v3))] [(.int (own_B0 v0)), (.int (own_B1 v0)), (.int (own_B0 v1)), (.int (own_B1 v1)), (.int (own_B0 v2)), (.int (own_B1 v2)), (.int (own_B0 v3)), (.int (own_B1 v3))] (¬ ((255 : Int32) < v0) ∧ ¬ ((255 : Int32) < v1) ∧ ¬ ((255 : Int32) < v2) ∧ ¬ ((255 : Int32) < v3))) (hl0 : (0 ≤ v0.toInt ∧ v0.toInt < 65536)) (hl1 : (0 ≤ v1.toInt ∧ v1.toInt < 65536)) (hl2 : (0 ≤ v2.toInt ∧ v2.toInt < 65536)) (hl3 : (0 ≤ v3.toInt ∧ v3.toInt < 65536)) (hst : own_ST Z cs fm) (O0 : Old Z n0 h0) :
    MetFree l (⟨"com/example/tallygate/tallygate/AddressLiterals", "isDecimal", "(Ljava/lang/String;)Z"⟩ : MethodName) (head1 (Jvm.Cond.code (⟨"com/example/tallygate/tallygate/AddressLiterals", "isDecimal", "(Ljava/lang/String;)Z"⟩ : MethodName) prog_3_method_11_code 3 (some .boolean) :: ws) ({ frames := 5, cells := 0, slots := 0, locals := 66 } : Room)) (fun a U => a = #[(.ref a1)] ∧ Z.Warmed39 U.vm ∧ U.heap = h0) (fun _ _ _ _ _ => True) (fun _ U o U' => ∃ v L, o = .returned v ∧ Q_own_dec4 Z a1 cd y ky v0 v1 v2 v3 cs fm h0 n0 v U'.heap L ∧ FrameEnd U o U' L ({ frames := 5, cells := 0, slots := 0, locals := 66 } : Room).cells ({ frames := 5, cells := 0, slots := 0, locals := 66 } : Room).slots) := by
  refine MetFree.of_bodySF (plainFor_of_name own_pn_own_dec4) hisR ?_
  intro p e s m args below meth c s₁ Bd hml0 hP hK
  obtain ⟨rfl, hZ, hh⟩ := hP
  have hx := Bd.exec
  have hby := Bd.bytes
  have hml : c.maxLocals = 3 := hml0
  have hown : s.vm.findClass "com/example/tallygate/tallygate/AddressLiterals" = some m.cls := findClass_of_methodNamed Bd.named
  have hnm := (name_of_methodNamed Bd.named Bd.method).1
  have X0 : Stand p l e ({ frames := 5, cells := 0, slots := 0, locals := 66 } : Room) s m #[(.ref a1)] below meth c s₁ [] 0 0 := Stand.of_body Bd
  have e0 : s₁.heap = h0 := by rw [← hh, Bd.state]; rfl
  have N0 := Fr.nil n0
  have pre0 : Goes p e below s₁ (entryFrame m #[(.ref a1)] 3) s₁ (mkF m 0 #[.val (.ref a1), .unset, .unset] []) := fun t k => castTop (own_ef_own_dec4 m a1) k
  have pre1 : Goes p e below s₁ (entryFrame m #[(.ref a1)] 3) s₁ (mkF m 4 #[.val (.ref a1), .val (.int 0), .unset] [(.ref a1), (.int 0)]) := fun t kt => pre0 t (by
      show Steps p.tables e below (s₁.setTop (mkF m 0 #[.val (.ref a1), .unset, .unset] [])) _
      refine XS.iconst X0.here hx rfl (hb hby own_d_dec4_0) ?_
      refine XS.istoreN X0.here hx rfl (hb hby own_d_dec4_1) rfl (l' := #[.val (.ref a1), .val (.int 0), .unset]) rfl ?_
      show Steps p.tables e below (s₁.setTop (mkF m 2 #[.val (.ref a1), .val (.int 0), .unset] [])) _
      refine XS.iloadN X0.here hx rfl (hb hby own_d_dec4_2) rfl ?_
      refine XS.aloadN X0.here hx rfl (hb hby own_d_dec4_3) rfl rfl ?_
      exact kt)
  obtain ⟨cq2, kq2, q2a, q2b, q2c⟩ := isOf hZ e0 E_a1
  obtain ⟨_, _, ⟨T2, L2, k2, n2⟩, -, X2, ⟨Lc2, hQ2, l2, y2, z2⟩, st2⟩ := X0.virtualBack hx (y := (⟨"java/lang/String", "length", "()I"⟩ : MethodName)) (z := (⟨"java/lang/String", "length", "()I"⟩ : MethodName)) hown (mvT hZ (hw _ (own_mG (i := 31) rfl))) (mvT hZ (hw _ (own_mG (i := 32) rfl))) (notFace_of_selects (args := #[]) (mvT hZ (hw _ (own_mG (i := 34) rfl)))) (mvT hZ (hw _ (own_mG (i := 34) rfl))) (mvT hZ (hw _ (own_mG (i := 33) rfl))) (by decide) (backOf (W := 1) (own_sle l Z a0 hw [] a1 cd y (4 : Int32) cs fm h0 n0 Z0 E_a1 Fc Fv (own_LD4 SDy) hst O0) hZ (hw _ (own_mG (i := 35) rfl)) (hw _ (own_mG (i := 7) rfl)) (by decide) (by decide)) q2a q2c (g := (mkF m 4 #[.val (.ref a1), .val (.int 0), .unset] [(.ref a1), (.int 0)])) rfl (by rw [hml]; rfl) (Steps.refl _) (argsL := []) (rest := [(.int 0)]) (lenOf own_pd14 rfl) rfl (by show 2 * 0 + _ ≤ _; exact Nat.le_of_eq rfl) (hb hby own_d_dec4_4) (fun _ _ => ⟨rfl, e0, (by decide : 0 + 0 ≤ _), (by decide : 0 + 0 ≤ _)⟩)
  dsimp only [Pt.U, Pt.locs, Pt.cells, Pt.slots] at X2 l2 y2 z2 st2 hQ2
  subst l2 y2 z2
  obtain ⟨rfl, N2q, e2⟩ := hQ2
  have N2 := Fr.app N0 N2q
  have pre3 : Goes p e below s₁ (entryFrame m #[(.ref a1)] 3) T2 (mkF m 7 #[.val (.ref a1), .val (.int 0), .unset] [(.int 4), (.int 0)]) := fun t kt => pre1 t (st2.trans kt)
  have pre4 : Goes p e below s₁ (entryFrame m #[(.ref a1)] 3) T2 (mkF m 12 #[.val (.ref a1), .val (.int 0), .unset] [(.int 0), (.ref a1)]) := fun t kt => pre3 t (by
      show Steps p.tables e below (T2.setTop (mkF m 7 #[.val (.ref a1), .val (.int 0), .unset] [(.int 4), (.int 0)])) _
      refine XS.icmpNo X2.here hx rfl (hb hby own_d_dec4_7) rfl (tlt (by decide : (0 : Int32) < (4 : Int32))).2.1 ?_
      refine XS.aloadN X2.here hx rfl (hb hby own_d_dec4_10) rfl rfl ?_
      show Steps p.tables e below (T2.setTop (mkF m 11 #[.val (.ref a1), .val (.int 0), .unset] [(.ref a1)])) _
      refine XS.iloadN X2.here hx rfl (hb hby own_d_dec4_11) rfl ?_
      exact kt)
  obtain ⟨cq5, kq5, q5a, q5b, q5c⟩ := isOf hZ e2 E_a1
  obtain ⟨_, _, ⟨T5, L5, k5, n5⟩, -, X5, ⟨Lc5, hQ5, l5, y5, z5⟩, st5⟩ := X2.virtualBack hx (y := (⟨"java/lang/String", "charAt", "(I)C"⟩ : MethodName)) (z := (⟨"java/lang/String", "charAt", "(I)C"⟩ : MethodName)) hown (mvT hZ (hw _ (own_mG (i := 55) rfl))) (mvT hZ (hw _ (own_mG (i := 56) rfl))) (notFace_of_selects (args := #[]) (mvT hZ (hw _ (own_mG (i := 58) rfl)))) (mvT hZ (hw _ (own_mG (i := 58) rfl))) (mvT hZ (hw _ (own_mG (i := 57) rfl))) (by decide) (backOf (W := 0) (own_sch l Z a0 hw [] a1 cd y (0 : Int32) v0 cs fm h0 n0 Z0 E_a1 Fc Fv (own_RD40 SDy hl0) (by decide) hst O0) hZ (hw _ (own_mG (i := 59) rfl)) (hw _ (own_mG (i := 7) rfl)) (by decide) (by decide)) q5a q5c (g := (mkF m 12 #[.val (.ref a1), .val (.int 0), .unset] [(.int 0), (.ref a1)])) rfl (by rw [hml]; rfl) (Steps.refl _) (argsL := [(.int 0)]) (rest := []) (lenOf own_pd15 rfl) rfl (by show 2 * 0 + _ ≤ _; exact Nat.le_of_eq rfl) (hb hby own_d_dec4_12) (fun _ _ => ⟨rfl, e2, (by decide : 0 + 0 ≤ _), (by decide : 0 + 0 ≤ _)⟩)
  dsimp only [Pt.U, Pt.locs, Pt.cells, Pt.slots] at X5 l5 y5 z5 st5 hQ5
  subst l5 y5 z5
  obtain ⟨rfl, N5q, e5⟩ := hQ5
  have N5 := Fr.app N2 N5q
  have pre6 : Goes p e below s₁ (entryFrame m #[(.ref a1)] 3) T5 (mkF m 15 #[.val (.ref a1), .val (.int 0), .unset] [(.int v0)]) := fun t kt => pre4 t (st5.trans kt)
  have pre7 : Goes p e below s₁ (entryFrame m #[(.ref a1)] 3) T5 (mkF m 19 #[.val (.ref a1), .val (.int 0), .val (.int v0)] [(.int 48), (.int v0)]) := fun t kt => pre6 t (by
      show Steps p.tables e below (T5.setTop (mkF m 15 #[.val (.ref a1), .val (.int 0), .unset] [(.int v0)])) _
      refine XS.istoreN X5.here hx rfl (hb hby own_d_dec4_15) rfl (l' := #[.val (.ref a1), .val (.int 0), .val (.int v0)]) rfl ?_
      refine XS.iloadN X5.here hx rfl (hb hby own_d_dec4_16) rfl ?_
      show Steps p.tables e below (T5.setTop (mkF m 17 #[.val (.ref a1), .val (.int 0), .val (.int v0)] [(.int v0)])) _
      refine XS.bipush X5.here hx rfl (hb hby own_d_dec4_17) ?_
      exact kt)
  by_cases hc19_8 : v0 < (48 : Int32)
  · -- yes at pc 19: f
    have pre9 : Goes p e below s₁ (entryFrame m #[(.ref a1)] 3) T5 (mkF m 29 #[.val (.ref a1), .val (.int 0), .val (.int v0)] [(.int 0)]) := fun t kt => pre7 t (by
        show Steps p.tables e below (T5.setTop (mkF m 19 #[.val (.ref a1), .val (.int 0), .val (.int v0)] [(.int 48), (.int v0)])) _
        refine XS.icmpYes X5.here hx rfl (pc0 := 19) (pc' := 28) rfl (hb hby own_d_dec4_19) rfl (tlt hc19_8).1 (by decide) (by decide) ?_
        refine XS.iconst X5.here hx rfl (hb hby own_d_dec4_28) ?_
        exact kt)
    obtain ⟨fs, hr, hrun, hended, hW, hsame⟩ := X5.leave (v := some (.int 0)) (fun h => by rw [Bd.returns] at h; cases h)
    refine ⟨_, _, pre9 _ ?_, hrun, hended, _, _, rfl, ?_, ⟨_, rfl⟩, hW, hsame.mono (by decide) (by decide)⟩
    · show Steps p.tables e below (T5.setTop (mkF m 29 #[.val (.ref a1), .val (.int 0), .val (.int v0)] [(.int 0)])) _
      exact retN X5 hx (t := .boolean) Bd.returns (by simp) (hb hby own_d_dec4_29) hr
    · show Q_own_dec4 Z a1 cd y ky v0 v1 v2 v3 cs fm h0 n0 _ T5.heap _
      rw [e5]
      exact ⟨_, rfl, N5, rfl, Or.inr ⟨rfl, fun q => q.1.1 hc19_8⟩⟩
  · -- no at pc 19: f
    have pre10 : Goes p e below s₁ (entryFrame m #[(.ref a1)] 3) T5 (mkF m 25 #[.val (.ref a1), .val (.int 0), .val (.int v0)] [(.int 57), (.int v0)]) := fun t kt => pre7 t (by
        show Steps p.tables e below (T5.setTop (mkF m 19 #[.val (.ref a1), .val (.int 0), .val (.int v0)] [(.int 48), (.int v0)])) _
        refine XS.icmpNo X5.here hx rfl (hb hby own_d_dec4_19) rfl (flt hc19_8).1 ?_
        refine XS.iloadN X5.here hx rfl (hb hby own_d_dec4_22) rfl ?_
        show Steps p.tables e below (T5.setTop (mkF m 23 #[.val (.ref a1), .val (.int 0), .val (.int v0)] [(.int v0)])) _
        refine XS.bipush X5.here hx rfl (hb hby own_d_dec4_23) ?_
        exact kt)
    by_cases hc25_11 : (57 : Int32) < v0
    · -- yes at pc 25: ff
      have pre12 : Goes p e below s₁ (entryFrame m #[(.ref a1)] 3) T5 (mkF m 29 #[.val (.ref a1), .val (.int 0), .val (.int v0)] [(.int 0)]) := fun t kt => pre10 t (by
          show Steps p.tables e below (T5.setTop (mkF m 25 #[.val (.ref a1), .val (.int 0), .val (.int v0)] [(.int 57), (.int v0)])) _
          refine XS.icmpNo X5.here hx rfl (hb hby own_d_dec4_25) rfl (tlt hc25_11).2.2.2 ?_
          refine XS.iconst X5.here hx rfl (hb hby own_d_dec4_28) ?_
          exact kt)
      obtain ⟨fs, hr, hrun, hended, hW, hsame⟩ := X5.leave (v := some (.int 0)) (fun h => by rw [Bd.returns] at h; cases h)
      refine ⟨_, _, pre12 _ ?_, hrun, hended, _, _, rfl, ?_, ⟨_, rfl⟩, hW, hsame.mono (by decide) (by decide)⟩
      · show Steps p.tables e below (T5.setTop (mkF m 29 #[.val (.ref a1), .val (.int 0), .val (.int v0)] [(.int 0)])) _
        exact retN X5 hx (t := .boolean) Bd.returns (by simp) (hb hby own_d_dec4_29) hr
      · show Q_own_dec4 Z a1 cd y ky v0 v1 v2 v3 cs fm h0 n0 _ T5.heap _
        rw [e5]
        exact ⟨_, rfl, N5, rfl, Or.inr ⟨rfl, fun q => q.1.2 hc25_11⟩⟩
    · -- no at pc 25: ff
      have pre13 : Goes p e below s₁ (entryFrame m #[(.ref a1)] 3) T5 (mkF m 4 #[.val (.ref a1), .val (.int 1), .val (.int v0)] [(.ref a1), (.int 1)]) := fun t kt => pre10 t (by
          show Steps p.tables e below (T5.setTop (mkF m 25 #[.val (.ref a1), .val (.int 0), .val (.int v0)] [(.int 57), (.int v0)])) _
          refine XS.icmpYes X5.here hx rfl (pc0 := 25) (pc' := 30) rfl (hb hby own_d_dec4_25) rfl (flt hc25_11).2.2.2 (by decide) (by decide) ?_
          refine XS.iinc X5.here hx rfl (hb hby own_d_dec4_30) rfl (l' := #[.val (.ref a1), .val (.int 1), .val (.int v0)]) rfl ?_
          show Steps p.tables e below (T5.setTop (mkF m 33 #[.val (.ref a1), .val (.int 1), .val (.int v0)] [])) _
          refine XS.goto X5.here hx rfl (pc0 := 33) (pc' := 2) rfl (hb hby own_d_dec4_33) (by decide) (by decide) ?_
          refine XS.iloadN X5.here hx rfl (hb hby own_d_dec4_2) rfl ?_
          show Steps p.tables e below (T5.setTop (mkF m 3 #[.val (.ref a1), .val (.int 1), .val (.int v0)] [(.int 1)])) _
          refine XS.aloadN X5.here hx rfl (hb hby own_d_dec4_3) rfl rfl ?_
          exact kt)
      obtain ⟨cq14, kq14, q14a, q14b, q14c⟩ := isOf hZ e5 E_a1
      obtain ⟨_, _, ⟨T14, L14, k14, n14⟩, -, X14, ⟨Lc14, hQ14, l14, y14, z14⟩, st14⟩ := X5.virtualBack hx (y := (⟨"java/lang/String", "length", "()I"⟩ : MethodName)) (z := (⟨"java/lang/String", "length", "()I"⟩ : MethodName)) hown (mvT hZ (hw _ (own_mG (i := 31) rfl))) (mvT hZ (hw _ (own_mG (i := 32) rfl))) (notFace_of_selects (args := #[]) (mvT hZ (hw _ (own_mG (i := 34) rfl)))) (mvT hZ (hw _ (own_mG (i := 34) rfl))) (mvT hZ (hw _ (own_mG (i := 33) rfl))) (by decide) (backOf (W := 1) (own_sle l Z a0 hw [] a1 cd y (4 : Int32) cs fm h0 n0 Z0 E_a1 Fc Fv (own_LD4 SDy) hst O0) hZ (hw _ (own_mG (i := 35) rfl)) (hw _ (own_mG (i := 7) rfl)) (by decide) (by decide)) q14a q14c (g := (mkF m 4 #[.val (.ref a1), .val (.int 1), .val (.int v0)] [(.ref a1), (.int 1)])) rfl (by rw [hml]; rfl) (Steps.refl _) (argsL := []) (rest := [(.int 1)]) (lenOf own_pd14 rfl) rfl (by show 2 * 0 + _ ≤ _; exact Nat.le_of_eq rfl) (hb hby own_d_dec4_4) (fun _ _ => ⟨rfl, e5, (by decide : 0 + 0 ≤ _), (by decide : 0 + 0 ≤ _)⟩)
      dsimp only [Pt.U, Pt.locs, Pt.cells, Pt.slots] at X14 l14 y14 z14 st14 hQ14
      subst l14 y14 z14
      obtain ⟨rfl, N14q, e14⟩ := hQ14
      have N14 := Fr.app N5 N14q
      have pre15 : Goes p e below s₁ (entryFrame m #[(.ref a1)] 3) T14 (mkF m 7 #[.val (.ref a1), .val (.int 1), .val (.int v0)] [(.int 4), (.int 1)]) := fun t kt => pre13 t (st14.trans kt)
      have pre16 : Goes p e below s₁ (entryFrame m #[(.ref a1)] 3) T14 (mkF m 12 #[.val (.ref a1), .val (.int 1), .val (.int v0)] [(.int 1), (.ref a1)]) := fun t kt => pre15 t (by
          show Steps p.tables e below (T14.setTop (mkF m 7 #[.val (.ref a1), .val (.int 1), .val (.int v0)] [(.int 4), (.int 1)])) _
          refine XS.icmpNo X14.here hx rfl (hb hby own_d_dec4_7) rfl (tlt (by decide : (1 : Int32) < (4 : Int32))).2.1 ?_
          refine XS.aloadN X14.here hx rfl (hb hby own_d_dec4_10) rfl rfl ?_
          show Steps p.tables e below (T14.setTop (mkF m 11 #[.val (.ref a1), .val (.int 1), .val (.int v0)] [(.ref a1)])) _
          refine XS.iloadN X14.here hx rfl (hb hby own_d_dec4_11) rfl ?_
          exact kt)
      obtain ⟨cq17, kq17, q17a, q17b, q17c⟩ := isOf hZ e14 E_a1
      obtain ⟨_, _, ⟨T17, L17, k17, n17⟩, -, X17, ⟨Lc17, hQ17, l17, y17, z17⟩, st17⟩ := X14.virtualBack hx (y := (⟨"java/lang/String", "charAt", "(I)C"⟩ : MethodName)) (z := (⟨"java/lang/String", "charAt", "(I)C"⟩ : MethodName)) hown (mvT hZ (hw _ (own_mG (i := 55) rfl))) (mvT hZ (hw _ (own_mG (i := 56) rfl))) (notFace_of_selects (args := #[]) (mvT hZ (hw _ (own_mG (i := 58) rfl)))) (mvT hZ (hw _ (own_mG (i := 58) rfl))) (mvT hZ (hw _ (own_mG (i := 57) rfl))) (by decide) (backOf (W := 0) (own_sch l Z a0 hw [] a1 cd y (1 : Int32) v1 cs fm h0 n0 Z0 E_a1 Fc Fv (own_RD41 SDy hl1) (by decide) hst O0) hZ (hw _ (own_mG (i := 59) rfl)) (hw _ (own_mG (i := 7) rfl)) (by decide) (by decide)) q17a q17c (g := (mkF m 12 #[.val (.ref a1), .val (.int 1), .val (.int v0)] [(.int 1), (.ref a1)])) rfl (by rw [hml]; rfl) (Steps.refl _) (argsL := [(.int 1)]) (rest := []) (lenOf own_pd15 rfl) rfl (by show 2 * 0 + _ ≤ _; exact Nat.le_of_eq rfl) (hb hby own_d_dec4_12) (fun _ _ => ⟨rfl, e14, (by decide : 0 + 0 ≤ _), (by decide : 0 + 0 ≤ _)⟩)
      dsimp only [Pt.U, Pt.locs, Pt.cells, Pt.slots] at X17 l17 y17 z17 st17 hQ17
      subst l17 y17 z17
      obtain ⟨rfl, N17q, e17⟩ := hQ17
      have N17 := Fr.app N14 N17q
      have pre18 : Goes p e below s₁ (entryFrame m #[(.ref a1)] 3) T17 (mkF m 15 #[.val (.ref a1), .val (.int 1), .val (.int v0)] [(.int v1)]) := fun t kt => pre16 t (st17.trans kt)
      have pre19 : Goes p e below s₁ (entryFrame m #[(.ref a1)] 3) T17 (mkF m 19 #[.val (.ref a1), .val (.int 1), .val (.int v1)] [(.int 48), (.int v1)]) := fun t kt => pre18 t (by
          show Steps p.tables e below (T17.setTop (mkF m 15 #[.val (.ref a1), .val (.int 1), .val (.int v0)] [(.int v1)])) _
          refine XS.istoreN X17.here hx rfl (hb hby own_d_dec4_15) rfl (l' := #[.val (.ref a1), .val (.int 1), .val (.int v1)]) rfl ?_
          refine XS.iloadN X17.here hx rfl (hb hby own_d_dec4_16) rfl ?_
          show Steps p.tables e below (T17.setTop (mkF m 17 #[.val (.ref a1), .val (.int 1), .val (.int v1)] [(.int v1)])) _
          refine XS.bipush X17.here hx rfl (hb hby own_d_dec4_17) ?_
          exact kt)
      by_cases hc19_20 : v1 < (48 : Int32)
      · -- yes at pc 19: fftf
        have pre21 : Goes p e below s₁ (entryFrame m #[(.ref a1)] 3) T17 (mkF m 29 #[.val (.ref a1), .val (.int 1), .val (.int v1)] [(.int 0)]) := fun t kt => pre19 t (by
            show Steps p.tables e below (T17.setTop (mkF m 19 #[.val (.ref a1), .val (.int 1), .val (.int v1)] [(.int 48), (.int v1)])) _
            refine XS.icmpYes X17.here hx rfl (pc0 := 19) (pc' := 28) rfl (hb hby own_d_dec4_19) rfl (tlt hc19_20).1 (by decide) (by decide) ?_
            refine XS.iconst X17.here hx rfl (hb hby own_d_dec4_28) ?_
            exact kt)
        obtain ⟨fs, hr, hrun, hended, hW, hsame⟩ := X17.leave (v := some (.int 0)) (fun h => by rw [Bd.returns] at h; cases h)
        refine ⟨_, _, pre21 _ ?_, hrun, hended, _, _, rfl, ?_, ⟨_, rfl⟩, hW, hsame.mono (by decide) (by decide)⟩
        · show Steps p.tables e below (T17.setTop (mkF m 29 #[.val (.ref a1), .val (.int 1), .val (.int v1)] [(.int 0)])) _
          exact retN X17 hx (t := .boolean) Bd.returns (by simp) (hb hby own_d_dec4_29) hr
        · show Q_own_dec4 Z a1 cd y ky v0 v1 v2 v3 cs fm h0 n0 _ T17.heap _
          rw [e17]
          exact ⟨_, rfl, N17, rfl, Or.inr ⟨rfl, fun q => q.2.1.1 hc19_20⟩⟩
      · -- no at pc 19: fftf
        have pre22 : Goes p e below s₁ (entryFrame m #[(.ref a1)] 3) T17 (mkF m 25 #[.val (.ref a1), .val (.int 1), .val (.int v1)] [(.int 57), (.int v1)]) := fun t kt => pre19 t (by
            show Steps p.tables e below (T17.setTop (mkF m 19 #[.val (.ref a1), .val (.int 1), .val (.int v1)] [(.int 48), (.int v1)])) _
            refine XS.icmpNo X17.here hx rfl (hb hby own_d_dec4_19) rfl (flt hc19_20).1 ?_
            refine XS.iloadN X17.here hx rfl (hb hby own_d_dec4_22) rfl ?_
            show Steps p.tables e below (T17.setTop (mkF m 23 #[.val (.ref a1), .val (.int 1), .val (.int v1)] [(.int v1)])) _
            refine XS.bipush X17.here hx rfl (hb hby own_d_dec4_23) ?_
            exact kt)
        by_cases hc25_23 : (57 : Int32) < v1
        · -- yes at pc 25: fftff
          have pre24 : Goes p e below s₁ (entryFrame m #[(.ref a1)] 3) T17 (mkF m 29 #[.val (.ref a1), .val (.int 1), .val (.int v1)] [(.int 0)]) := fun t kt => pre22 t (by
              show Steps p.tables e below (T17.setTop (mkF m 25 #[.val (.ref a1), .val (.int 1), .val (.int v1)] [(.int 57), (.int v1)])) _
              refine XS.icmpNo X17.here hx rfl (hb hby own_d_dec4_25) rfl (tlt hc25_23).2.2.2 ?_
              refine XS.iconst X17.here hx rfl (hb hby own_d_dec4_28) ?_
              exact kt)
          obtain ⟨fs, hr, hrun, hended, hW, hsame⟩ := X17.leave (v := some (.int 0)) (fun h => by rw [Bd.returns] at h; cases h)
          refine ⟨_, _, pre24 _ ?_, hrun, hended, _, _, rfl, ?_, ⟨_, rfl⟩, hW, hsame.mono (by decide) (by decide)⟩
          · show Steps p.tables e below (T17.setTop (mkF m 29 #[.val (.ref a1), .val (.int 1), .val (.int v1)] [(.int 0)])) _
            exact retN X17 hx (t := .boolean) Bd.returns (by simp) (hb hby own_d_dec4_29) hr
          · show Q_own_dec4 Z a1 cd y ky v0 v1 v2 v3 cs fm h0 n0 _ T17.heap _
            rw [e17]
            exact ⟨_, rfl, N17, rfl, Or.inr ⟨rfl, fun q => q.2.1.2 hc25_23⟩⟩
        · -- no at pc 25: fftff
          have pre25 : Goes p e below s₁ (entryFrame m #[(.ref a1)] 3) T17 (mkF m 4 #[.val (.ref a1), .val (.int 2), .val (.int v1)] [(.ref a1), (.int 2)]) := fun t kt => pre22 t (by
              show Steps p.tables e below (T17.setTop (mkF m 25 #[.val (.ref a1), .val (.int 1), .val (.int v1)] [(.int 57), (.int v1)])) _
              refine XS.icmpYes X17.here hx rfl (pc0 := 25) (pc' := 30) rfl (hb hby own_d_dec4_25) rfl (flt hc25_23).2.2.2 (by decide) (by decide) ?_
              refine XS.iinc X17.here hx rfl (hb hby own_d_dec4_30) rfl (l' := #[.val (.ref a1), .val (.int 2), .val (.int v1)]) rfl ?_
              show Steps p.tables e below (T17.setTop (mkF m 33 #[.val (.ref a1), .val (.int 2), .val (.int v1)] [])) _
              refine XS.goto X17.here hx rfl (pc0 := 33) (pc' := 2) rfl (hb hby own_d_dec4_33) (by decide) (by decide) ?_
              refine XS.iloadN X17.here hx rfl (hb hby own_d_dec4_2) rfl ?_
              show Steps p.tables e below (T17.setTop (mkF m 3 #[.val (.ref a1), .val (.int 2), .val (.int v1)] [(.int 2)])) _
              refine XS.aloadN X17.here hx rfl (hb hby own_d_dec4_3) rfl rfl ?_
              exact kt)
          obtain ⟨cq26, kq26, q26a, q26b, q26c⟩ := isOf hZ e17 E_a1
          obtain ⟨_, _, ⟨T26, L26, k26, n26⟩, -, X26, ⟨Lc26, hQ26, l26, y26, z26⟩, st26⟩ := X17.virtualBack hx (y := (⟨"java/lang/String", "length", "()I"⟩ : MethodName)) (z := (⟨"java/lang/String", "length", "()I"⟩ : MethodName)) hown (mvT hZ (hw _ (own_mG (i := 31) rfl))) (mvT hZ (hw _ (own_mG (i := 32) rfl))) (notFace_of_selects (args := #[]) (mvT hZ (hw _ (own_mG (i := 34) rfl)))) (mvT hZ (hw _ (own_mG (i := 34) rfl))) (mvT hZ (hw _ (own_mG (i := 33) rfl))) (by decide) (backOf (W := 1) (own_sle l Z a0 hw [] a1 cd y (4 : Int32) cs fm h0 n0 Z0 E_a1 Fc Fv (own_LD4 SDy) hst O0) hZ (hw _ (own_mG (i := 35) rfl)) (hw _ (own_mG (i := 7) rfl)) (by decide) (by decide)) q26a q26c (g := (mkF m 4 #[.val (.ref a1), .val (.int 2), .val (.int v1)] [(.ref a1), (.int 2)])) rfl (by rw [hml]; rfl) (Steps.refl _) (argsL := []) (rest := [(.int 2)]) (lenOf own_pd14 rfl) rfl (by show 2 * 0 + _ ≤ _; exact Nat.le_of_eq rfl) (hb hby own_d_dec4_4) (fun _ _ => ⟨rfl, e17, (by decide : 0 + 0 ≤ _), (by decide : 0 + 0 ≤ _)⟩)
          dsimp only [Pt.U, Pt.locs, Pt.cells, Pt.slots] at X26 l26 y26 z26 st26 hQ26
          subst l26 y26 z26
          obtain ⟨rfl, N26q, e26⟩ := hQ26
          have N26 := Fr.app N17 N26q
          have pre27 : Goes p e below s₁ (entryFrame m #[(.ref a1)] 3) T26 (mkF m 7 #[.val (.ref a1), .val (.int 2), .val (.int v1)] [(.int 4), (.int 2)]) := fun t kt => pre25 t (st26.trans kt)
          have pre28 : Goes p e below s₁ (entryFrame m #[(.ref a1)] 3) T26 (mkF m 12 #[.val (.ref a1), .val (.int 2), .val (.int v1)] [(.int 2), (.ref a1)]) := fun t kt => pre27 t (by
              show Steps p.tables e below (T26.setTop (mkF m 7 #[.val (.ref a1), .val (.int 2), .val (.int v1)] [(.int 4), (.int 2)])) _
              refine XS.icmpNo X26.here hx rfl (hb hby own_d_dec4_7) rfl (tlt (by decide : (2 : Int32) < (4 : Int32))).2.1 ?_
              refine XS.aloadN X26.here hx rfl (hb hby own_d_dec4_10) rfl rfl ?_
              show Steps p.tables e below (T26.setTop (mkF m 11 #[.val (.ref a1), .val (.int 2), .val (.int v1)] [(.ref a1)])) _
              refine XS.iloadN X26.here hx rfl (hb hby own_d_dec4_11) rfl ?_
              exact kt)
          obtain ⟨cq29, kq29, q29a, q29b, q29c⟩ := isOf hZ e26 E_a1
          obtain ⟨_, _, ⟨T29, L29, k29, n29⟩, -, X29, ⟨Lc29, hQ29, l29, y29, z29⟩, st29⟩ := X26.virtualBack hx (y := (⟨"java/lang/String", "charAt", "(I)C"⟩ : MethodName)) (z := (⟨"java/lang/String", "charAt", "(I)C"⟩ : MethodName)) hown (mvT hZ (hw _ (own_mG (i := 55) rfl))) (mvT hZ (hw _ (own_mG (i := 56) rfl))) (notFace_of_selects (args := #[]) (mvT hZ (hw _ (own_mG (i := 58) rfl)))) (mvT hZ (hw _ (own_mG (i := 58) rfl))) (mvT hZ (hw _ (own_mG (i := 57) rfl))) (by decide) (backOf (W := 0) (own_sch l Z a0 hw [] a1 cd y (2 : Int32) v2 cs fm h0 n0 Z0 E_a1 Fc Fv (own_RD42 SDy hl2) (by decide) hst O0) hZ (hw _ (own_mG (i := 59) rfl)) (hw _ (own_mG (i := 7) rfl)) (by decide) (by decide)) q29a q29c (g := (mkF m 12 #[.val (.ref a1), .val (.int 2), .val (.int v1)] [(.int 2), (.ref a1)])) rfl (by rw [hml]; rfl) (Steps.refl _) (argsL := [(.int 2)]) (rest := []) (lenOf own_pd15 rfl) rfl (by show 2 * 0 + _ ≤ _; exact Nat.le_of_eq rfl) (hb hby own_d_dec4_12) (fun _ _ => ⟨rfl, e26, (by decide : 0 + 0 ≤ _), (by decide : 0 + 0 ≤ _)⟩)
          dsimp only [Pt.U, Pt.locs, Pt.cells, Pt.slots] at X29 l29 y29 z29 st29 hQ29
          subst l29 y29 z29
          obtain ⟨rfl, N29q, e29⟩ := hQ29
          have N29 := Fr.app N26 N29q
          have pre30 : Goes p e below s₁ (entryFrame m #[(.ref a1)] 3) T29 (mkF m 15 #[.val (.ref a1), .val (.int 2), .val (.int v1)] [(.int v2)]) := fun t kt => pre28 t (st29.trans kt)
          have pre31 : Goes p e below s₁ (entryFrame m #[(.ref a1)] 3) T29 (mkF m 19 #[.val (.ref a1), .val (.int 2), .val (.int v2)] [(.int 48), (.int v2)]) := fun t kt => pre30 t (by
              show Steps p.tables e below (T29.setTop (mkF m 15 #[.val (.ref a1), .val (.int 2), .val (.int v1)] [(.int v2)])) _
              refine XS.istoreN X29.here hx rfl (hb hby own_d_dec4_15) rfl (l' := #[.val (.ref a1), .val (.int 2), .val (.int v2)]) rfl ?_
              refine XS.iloadN X29.here hx rfl (hb hby own_d_dec4_16) rfl ?_
              show Steps p.tables e below (T29.setTop (mkF m 17 #[.val (.ref a1), .val (.int 2), .val (.int v2)] [(.int v2)])) _
              refine XS.bipush X29.here hx rfl (hb hby own_d_dec4_17) ?_
              exact kt)
          by_cases hc19_32 : v2 < (48 : Int32)
          · -- yes at pc 19: fftfftf
            have pre33 : Goes p e below s₁ (entryFrame m #[(.ref a1)] 3) T29 (mkF m 29 #[.val (.ref a1), .val (.int 2), .val (.int v2)] [(.int 0)]) := fun t kt => pre31 t (by
                show Steps p.tables e below (T29.setTop (mkF m 19 #[.val (.ref a1), .val (.int 2), .val (.int v2)] [(.int 48), (.int v2)])) _
                refine XS.icmpYes X29.here hx rfl (pc0 := 19) (pc' := 28) rfl (hb hby own_d_dec4_19) rfl (tlt hc19_32).1 (by decide) (by decide) ?_
                refine XS.iconst X29.here hx rfl (hb hby own_d_dec4_28) ?_
                exact kt)
            obtain ⟨fs, hr, hrun, hended, hW, hsame⟩ := X29.leave (v := some (.int 0)) (fun h => by rw [Bd.returns] at h; cases h)
            refine ⟨_, _, pre33 _ ?_, hrun, hended, _, _, rfl, ?_, ⟨_, rfl⟩, hW, hsame.mono (by decide) (by decide)⟩
            · show Steps p.tables e below (T29.setTop (mkF m 29 #[.val (.ref a1), .val (.int 2), .val (.int v2)] [(.int 0)])) _
              exact retN X29 hx (t := .boolean) Bd.returns (by simp) (hb hby own_d_dec4_29) hr
            · show Q_own_dec4 Z a1 cd y ky v0 v1 v2 v3 cs fm h0 n0 _ T29.heap _
              rw [e29]
              exact ⟨_, rfl, N29, rfl, Or.inr ⟨rfl, fun q => q.2.2.1.1 hc19_32⟩⟩
          · -- no at pc 19: fftfftf
            have pre34 : Goes p e below s₁ (entryFrame m #[(.ref a1)] 3) T29 (mkF m 25 #[.val (.ref a1), .val (.int 2), .val (.int v2)] [(.int 57), (.int v2)]) := fun t kt => pre31 t (by
                show Steps p.tables e below (T29.setTop (mkF m 19 #[.val (.ref a1), .val (.int 2), .val (.int v2)] [(.int 48), (.int v2)])) _
                refine XS.icmpNo X29.here hx rfl (hb hby own_d_dec4_19) rfl (flt hc19_32).1 ?_
                refine XS.iloadN X29.here hx rfl (hb hby own_d_dec4_22) rfl ?_
                show Steps p.tables e below (T29.setTop (mkF m 23 #[.val (.ref a1), .val (.int 2), .val (.int v2)] [(.int v2)])) _
                refine XS.bipush X29.here hx rfl (hb hby own_d_dec4_23) ?_
                exact kt)
            by_cases hc25_35 : (57 : Int32) < v2
            · -- yes at pc 25: fftfftff
              have pre36 : Goes p e below s₁ (entryFrame m #[(.ref a1)] 3) T29 (mkF m 29 #[.val (.ref a1), .val (.int 2), .val (.int v2)] [(.int 0)]) := fun t kt => pre34 t (by
                  show Steps p.tables e below (T29.setTop (mkF m 25 #[.val (.ref a1), .val (.int 2), .val (.int v2)] [(.int 57), (.int v2)])) _
                  refine XS.icmpNo X29.here hx rfl (hb hby own_d_dec4_25) rfl (tlt hc25_35).2.2.2 ?_
                  refine XS.iconst X29.here hx rfl (hb hby own_d_dec4_28) ?_
                  exact kt)
              obtain ⟨fs, hr, hrun, hended, hW, hsame⟩ := X29.leave (v := some (.int 0)) (fun h => by rw [Bd.returns] at h; cases h)
              refine ⟨_, _, pre36 _ ?_, hrun, hended, _, _, rfl, ?_, ⟨_, rfl⟩, hW, hsame.mono (by decide) (by decide)⟩
              · show Steps p.tables e below (T29.setTop (mkF m 29 #[.val (.ref a1), .val (.int 2), .val (.int v2)] [(.int 0)])) _
                exact retN X29 hx (t := .boolean) Bd.returns (by simp) (hb hby own_d_dec4_29) hr
              · show Q_own_dec4 Z a1 cd y ky v0 v1 v2 v3 cs fm h0 n0 _ T29.heap _
                rw [e29]
                exact ⟨_, rfl, N29, rfl, Or.inr ⟨rfl, fun q => q.2.2.1.2 hc25_35⟩⟩
            · -- no at pc 25: fftfftff
              have pre37 : Goes p e below s₁ (entryFrame m #[(.ref a1)] 3) T29 (mkF m 4 #[.val (.ref a1), .val (.int 3), .val (.int v2)] [(.ref a1), (.int 3)]) := fun t kt => pre34 t (by
                  show Steps p.tables e below (T29.setTop (mkF m 25 #[.val (.ref a1), .val (.int 2), .val (.int v2)] [(.int 57), (.int v2)])) _
                  refine XS.icmpYes X29.here hx rfl (pc0 := 25) (pc' := 30) rfl (hb hby own_d_dec4_25) rfl (flt hc25_35).2.2.2 (by decide) (by decide) ?_
                  refine XS.iinc X29.here hx rfl (hb hby own_d_dec4_30) rfl (l' := #[.val (.ref a1), .val (.int 3), .val (.int v2)]) rfl ?_
                  show Steps p.tables e below (T29.setTop (mkF m 33 #[.val (.ref a1), .val (.int 3), .val (.int v2)] [])) _
                  refine XS.goto X29.here hx rfl (pc0 := 33) (pc' := 2) rfl (hb hby own_d_dec4_33) (by decide) (by decide) ?_
                  refine XS.iloadN X29.here hx rfl (hb hby own_d_dec4_2) rfl ?_
                  show Steps p.tables e below (T29.setTop (mkF m 3 #[.val (.ref a1), .val (.int 3), .val (.int v2)] [(.int 3)])) _
                  refine XS.aloadN X29.here hx rfl (hb hby own_d_dec4_3) rfl rfl ?_
                  exact kt)
              obtain ⟨cq38, kq38, q38a, q38b, q38c⟩ := isOf hZ e29 E_a1
              obtain ⟨_, _, ⟨T38, L38, k38, n38⟩, -, X38, ⟨Lc38, hQ38, l38, y38, z38⟩, st38⟩ := X29.virtualBack hx (y := (⟨"java/lang/String", "length", "()I"⟩ : MethodName)) (z := (⟨"java/lang/String", "length", "()I"⟩ : MethodName)) hown (mvT hZ (hw _ (own_mG (i := 31) rfl))) (mvT hZ (hw _ (own_mG (i := 32) rfl))) (notFace_of_selects (args := #[]) (mvT hZ (hw _ (own_mG (i := 34) rfl)))) (mvT hZ (hw _ (own_mG (i := 34) rfl))) (mvT hZ (hw _ (own_mG (i := 33) rfl))) (by decide) (backOf (W := 1) (own_sle l Z a0 hw [] a1 cd y (4 : Int32) cs fm h0 n0 Z0 E_a1 Fc Fv (own_LD4 SDy) hst O0) hZ (hw _ (own_mG (i := 35) rfl)) (hw _ (own_mG (i := 7) rfl)) (by decide) (by decide)) q38a q38c (g := (mkF m 4 #[.val (.ref a1), .val (.int 3), .val (.int v2)] [(.ref a1), (.int 3)])) rfl (by rw [hml]; rfl) (Steps.refl _) (argsL := []) (rest := [(.int 3)]) (lenOf own_pd14 rfl) rfl (by show 2 * 0 + _ ≤ _; exact Nat.le_of_eq rfl) (hb hby own_d_dec4_4) (fun _ _ => ⟨rfl, e29, (by decide : 0 + 0 ≤ _), (by decide : 0 + 0 ≤ _)⟩)
              dsimp only [Pt.U, Pt.locs, Pt.cells, Pt.slots] at X38 l38 y38 z38 st38 hQ38
              subst l38 y38 z38
              obtain ⟨rfl, N38q, e38⟩ := hQ38
              have N38 := Fr.app N29 N38q
              have pre39 : Goes p e below s₁ (entryFrame m #[(.ref a1)] 3) T38 (mkF m 7 #[.val (.ref a1), .val (.int 3), .val (.int v2)] [(.int 4), (.int 3)]) := fun t kt => pre37 t (st38.trans kt)
              have pre40 : Goes p e below s₁ (entryFrame m #[(.ref a1)] 3) T38 (mkF m 12 #[.val (.ref a1), .val (.int 3), .val (.int v2)] [(.int 3), (.ref a1)]) := fun t kt => pre39 t (by
                  show Steps p.tables e below (T38.setTop (mkF m 7 #[.val (.ref a1), .val (.int 3), .val (.int v2)] [(.int 4), (.int 3)])) _
                  refine XS.icmpNo X38.here hx rfl (hb hby own_d_dec4_7) rfl (tlt (by decide : (3 : Int32) < (4 : Int32))).2.1 ?_
                  refine XS.aloadN X38.here hx rfl (hb hby own_d_dec4_10) rfl rfl ?_
                  show Steps p.tables e below (T38.setTop (mkF m 11 #[.val (.ref a1), .val (.int 3), .val (.int v2)] [(.ref a1)])) _
                  refine XS.iloadN X38.here hx rfl (hb hby own_d_dec4_11) rfl ?_
                  exact kt)
              obtain ⟨cq41, kq41, q41a, q41b, q41c⟩ := isOf hZ e38 E_a1
              obtain ⟨_, _, ⟨T41, L41, k41, n41⟩, -, X41, ⟨Lc41, hQ41, l41, y41, z41⟩, st41⟩ := X38.virtualBack hx (y := (⟨"java/lang/String", "charAt", "(I)C"⟩ : MethodName)) (z := (⟨"java/lang/String", "charAt", "(I)C"⟩ : MethodName)) hown (mvT hZ (hw _ (own_mG (i := 55) rfl))) (mvT hZ (hw _ (own_mG (i := 56) rfl))) (notFace_of_selects (args := #[]) (mvT hZ (hw _ (own_mG (i := 58) rfl)))) (mvT hZ (hw _ (own_mG (i := 58) rfl))) (mvT hZ (hw _ (own_mG (i := 57) rfl))) (by decide) (backOf (W := 0) (own_sch l Z a0 hw [] a1 cd y (3 : Int32) v3 cs fm h0 n0 Z0 E_a1 Fc Fv (own_RD43 SDy hl3) (by decide) hst O0) hZ (hw _ (own_mG (i := 59) rfl)) (hw _ (own_mG (i := 7) rfl)) (by decide) (by decide)) q41a q41c (g := (mkF m 12 #[.val (.ref a1), .val (.int 3), .val (.int v2)] [(.int 3), (.ref a1)])) rfl (by rw [hml]; rfl) (Steps.refl _) (argsL := [(.int 3)]) (rest := []) (lenOf own_pd15 rfl) rfl (by show 2 * 0 + _ ≤ _; exact Nat.le_of_eq rfl) (hb hby own_d_dec4_12) (fun _ _ => ⟨rfl, e38, (by decide : 0 + 0 ≤ _), (by decide : 0 + 0 ≤ _)⟩)
              dsimp only [Pt.U, Pt.locs, Pt.cells, Pt.slots] at X41 l41 y41 z41 st41 hQ41
              subst l41 y41 z41
              obtain ⟨rfl, N41q, e41⟩ := hQ41
              have N41 := Fr.app N38 N41q
              have pre42 : Goes p e below s₁ (entryFrame m #[(.ref a1)] 3) T41 (mkF m 15 #[.val (.ref a1), .val (.int 3), .val (.int v2)] [(.int v3)]) := fun t kt => pre40 t (st41.trans kt)
              have pre43 : Goes p e below s₁ (entryFrame m #[(.ref a1)] 3) T41 (mkF m 19 #[.val (.ref a1), .val (.int 3), .val (.int v3)] [(.int 48), (.int v3)]) := fun t kt => pre42 t (by
                  show Steps p.tables e below (T41.setTop (mkF m 15 #[.val (.ref a1), .val (.int 3), .val (.int v2)] [(.int v3)])) _
                  refine XS.istoreN X41.here hx rfl (hb hby own_d_dec4_15) rfl (l' := #[.val (.ref a1), .val (.int 3), .val (.int v3)]) rfl ?_
                  refine XS.iloadN X41.here hx rfl (hb hby own_d_dec4_16) rfl ?_
                  show Steps p.tables e below (T41.setTop (mkF m 17 #[.val (.ref a1), .val (.int 3), .val (.int v3)] [(.int v3)])) _
                  refine XS.bipush X41.here hx rfl (hb hby own_d_dec4_17) ?_
                  exact kt)
              by_cases hc19_44 : v3 < (48 : Int32)
              · -- yes at pc 19: fftfftfftf
                have pre45 : Goes p e below s₁ (entryFrame m #[(.ref a1)] 3) T41 (mkF m 29 #[.val (.ref a1), .val (.int 3), .val (.int v3)] [(.int 0)]) := fun t kt => pre43 t (by
                    show Steps p.tables e below (T41.setTop (mkF m 19 #[.val (.ref a1), .val (.int 3), .val (.int v3)] [(.int 48), (.int v3)])) _
                    refine XS.icmpYes X41.here hx rfl (pc0 := 19) (pc' := 28) rfl (hb hby own_d_dec4_19) rfl (tlt hc19_44).1 (by decide) (by decide) ?_
                    refine XS.iconst X41.here hx rfl (hb hby own_d_dec4_28) ?_
                    exact kt)
                obtain ⟨fs, hr, hrun, hended, hW, hsame⟩ := X41.leave (v := some (.int 0)) (fun h => by rw [Bd.returns] at h; cases h)
                refine ⟨_, _, pre45 _ ?_, hrun, hended, _, _, rfl, ?_, ⟨_, rfl⟩, hW, hsame.mono (by decide) (by decide)⟩
                · show Steps p.tables e below (T41.setTop (mkF m 29 #[.val (.ref a1), .val (.int 3), .val (.int v3)] [(.int 0)])) _
                  exact retN X41 hx (t := .boolean) Bd.returns (by simp) (hb hby own_d_dec4_29) hr
                · show Q_own_dec4 Z a1 cd y ky v0 v1 v2 v3 cs fm h0 n0 _ T41.heap _
                  rw [e41]
                  exact ⟨_, rfl, N41, rfl, Or.inr ⟨rfl, fun q => q.2.2.2.1 hc19_44⟩⟩
              · -- no at pc 19: fftfftfftf
                have pre46 : Goes p e below s₁ (entryFrame m #[(.ref a1)] 3) T41 (mkF m 25 #[.val (.ref a1), .val (.int 3), .val (.int v3)] [(.int 57), (.int v3)]) := fun t kt => pre43 t (by
                    show Steps p.tables e below (T41.setTop (mkF m 19 #[.val (.ref a1), .val (.int 3), .val (.int v3)] [(.int 48), (.int v3)])) _
                    refine XS.icmpNo X41.here hx rfl (hb hby own_d_dec4_19) rfl (flt hc19_44).1 ?_
                    refine XS.iloadN X41.here hx rfl (hb hby own_d_dec4_22) rfl ?_
                    show Steps p.tables e below (T41.setTop (mkF m 23 #[.val (.ref a1), .val (.int 3), .val (.int v3)] [(.int v3)])) _
                    refine XS.bipush X41.here hx rfl (hb hby own_d_dec4_23) ?_
                    exact kt)
                by_cases hc25_47 : (57 : Int32) < v3
                · -- yes at pc 25: fftfftfftff
                  have pre48 : Goes p e below s₁ (entryFrame m #[(.ref a1)] 3) T41 (mkF m 29 #[.val (.ref a1), .val (.int 3), .val (.int v3)] [(.int 0)]) := fun t kt => pre46 t (by
                      show Steps p.tables e below (T41.setTop (mkF m 25 #[.val (.ref a1), .val (.int 3), .val (.int v3)] [(.int 57), (.int v3)])) _
                      refine XS.icmpNo X41.here hx rfl (hb hby own_d_dec4_25) rfl (tlt hc25_47).2.2.2 ?_
                      refine XS.iconst X41.here hx rfl (hb hby own_d_dec4_28) ?_
                      exact kt)
                  obtain ⟨fs, hr, hrun, hended, hW, hsame⟩ := X41.leave (v := some (.int 0)) (fun h => by rw [Bd.returns] at h; cases h)
                  refine ⟨_, _, pre48 _ ?_, hrun, hended, _, _, rfl, ?_, ⟨_, rfl⟩, hW, hsame.mono (by decide) (by decide)⟩
                  · show Steps p.tables e below (T41.setTop (mkF m 29 #[.val (.ref a1), .val (.int 3), .val (.int v3)] [(.int 0)])) _
                    exact retN X41 hx (t := .boolean) Bd.returns (by simp) (hb hby own_d_dec4_29) hr
                  · show Q_own_dec4 Z a1 cd y ky v0 v1 v2 v3 cs fm h0 n0 _ T41.heap _
                    rw [e41]
                    exact ⟨_, rfl, N41, rfl, Or.inr ⟨rfl, fun q => q.2.2.2.2 hc25_47⟩⟩
                · -- no at pc 25: fftfftfftff
                  have pre49 : Goes p e below s₁ (entryFrame m #[(.ref a1)] 3) T41 (mkF m 4 #[.val (.ref a1), .val (.int 4), .val (.int v3)] [(.ref a1), (.int 4)]) := fun t kt => pre46 t (by
                      show Steps p.tables e below (T41.setTop (mkF m 25 #[.val (.ref a1), .val (.int 3), .val (.int v3)] [(.int 57), (.int v3)])) _
                      refine XS.icmpYes X41.here hx rfl (pc0 := 25) (pc' := 30) rfl (hb hby own_d_dec4_25) rfl (flt hc25_47).2.2.2 (by decide) (by decide) ?_
                      refine XS.iinc X41.here hx rfl (hb hby own_d_dec4_30) rfl (l' := #[.val (.ref a1), .val (.int 4), .val (.int v3)]) rfl ?_
                      show Steps p.tables e below (T41.setTop (mkF m 33 #[.val (.ref a1), .val (.int 4), .val (.int v3)] [])) _
                      refine XS.goto X41.here hx rfl (pc0 := 33) (pc' := 2) rfl (hb hby own_d_dec4_33) (by decide) (by decide) ?_
                      refine XS.iloadN X41.here hx rfl (hb hby own_d_dec4_2) rfl ?_
                      show Steps p.tables e below (T41.setTop (mkF m 3 #[.val (.ref a1), .val (.int 4), .val (.int v3)] [(.int 4)])) _
                      refine XS.aloadN X41.here hx rfl (hb hby own_d_dec4_3) rfl rfl ?_
                      exact kt)
                  obtain ⟨cq50, kq50, q50a, q50b, q50c⟩ := isOf hZ e41 E_a1
                  obtain ⟨_, _, ⟨T50, L50, k50, n50⟩, -, X50, ⟨Lc50, hQ50, l50, y50, z50⟩, st50⟩ := X41.virtualBack hx (y := (⟨"java/lang/String", "length", "()I"⟩ : MethodName)) (z := (⟨"java/lang/String", "length", "()I"⟩ : MethodName)) hown (mvT hZ (hw _ (own_mG (i := 31) rfl))) (mvT hZ (hw _ (own_mG (i := 32) rfl))) (notFace_of_selects (args := #[]) (mvT hZ (hw _ (own_mG (i := 34) rfl)))) (mvT hZ (hw _ (own_mG (i := 34) rfl))) (mvT hZ (hw _ (own_mG (i := 33) rfl))) (by decide) (backOf (W := 1) (own_sle l Z a0 hw [] a1 cd y (4 : Int32) cs fm h0 n0 Z0 E_a1 Fc Fv (own_LD4 SDy) hst O0) hZ (hw _ (own_mG (i := 35) rfl)) (hw _ (own_mG (i := 7) rfl)) (by decide) (by decide)) q50a q50c (g := (mkF m 4 #[.val (.ref a1), .val (.int 4), .val (.int v3)] [(.ref a1), (.int 4)])) rfl (by rw [hml]; rfl) (Steps.refl _) (argsL := []) (rest := [(.int 4)]) (lenOf own_pd14 rfl) rfl (by show 2 * 0 + _ ≤ _; exact Nat.le_of_eq rfl) (hb hby own_d_dec4_4) (fun _ _ => ⟨rfl, e41, (by decide : 0 + 0 ≤ _), (by decide : 0 + 0 ≤ _)⟩)
                  dsimp only [Pt.U, Pt.locs, Pt.cells, Pt.slots] at X50 l50 y50 z50 st50 hQ50
                  subst l50 y50 z50
                  obtain ⟨rfl, N50q, e50⟩ := hQ50
                  have N50 := Fr.app N41 N50q
                  have pre51 : Goes p e below s₁ (entryFrame m #[(.ref a1)] 3) T50 (mkF m 7 #[.val (.ref a1), .val (.int 4), .val (.int v3)] [(.int 4), (.int 4)]) := fun t kt => pre49 t (st50.trans kt)
                  have pre52 : Goes p e below s₁ (entryFrame m #[(.ref a1)] 3) T50 (mkF m 37 #[.val (.ref a1), .val (.int 4), .val (.int v3)] [(.int 1)]) := fun t kt => pre51 t (by
                      show Steps p.tables e below (T50.setTop (mkF m 7 #[.val (.ref a1), .val (.int 4), .val (.int v3)] [(.int 4), (.int 4)])) _
                      refine XS.icmpYes X50.here hx rfl (pc0 := 7) (pc' := 36) rfl (hb hby own_d_dec4_7) rfl (flt (by decide : ¬ ((4 : Int32) < (4 : Int32)))).2.1 (by decide) (by decide) ?_
                      refine XS.iconst X50.here hx rfl (hb hby own_d_dec4_36) ?_
                      exact kt)
                  obtain ⟨fs, hr, hrun, hended, hW, hsame⟩ := X50.leave (v := some (.int 1)) (fun h => by rw [Bd.returns] at h; cases h)
                  refine ⟨_, _, pre52 _ ?_, hrun, hended, _, _, rfl, ?_, ⟨_, rfl⟩, hW, hsame.mono (by decide) (by decide)⟩
                  · show Steps p.tables e below (T50.setTop (mkF m 37 #[.val (.ref a1), .val (.int 4), .val (.int v3)] [(.int 1)])) _
                    exact retN X50 hx (t := .boolean) Bd.returns (by simp) (hb hby own_d_dec4_37) hr
                  · show Q_own_dec4 Z a1 cd y ky v0 v1 v2 v3 cs fm h0 n0 _ T50.heap _
                    rw [e50]
                    exact ⟨_, rfl, N50, rfl, Or.inl ⟨rfl, ⟨hc19_8, hc25_11⟩, ⟨hc19_20, hc25_23⟩, ⟨hc19_32, hc25_35⟩, ⟨hc19_44, hc25_47⟩⟩⟩
theorem own_pn_own_rm0 : plainName "com/example/tallygate/tallygate/AddressLiteralsIsDecimalPinLaw" = true := by first | (simp [plainName, overriddenIn]; done) | decide +kernel
theorem own_ef_own_rm0 (m : MethodId) (x0 : Int32) (x1 : Int32) (x2 : Int32) (x3 : Int32) (x4 : Int32) : entryFrame m #[(.int x0), (.int x1), (.int x2), (.int x3), (.int x4)] maxLocals = mkF m 0 #[.val (.int x0), .val (.int x1), .val (.int x2), .val (.int x3), .val (.int x4), .unset, .unset, .unset, .unset, .unset, .unset, .unset] [] := by first | (simp [entryFrame, mkF, argsToLocals, Value.category, maxLocals]; done) | rfl
def Q_own_rm0 (Z : State) (qn : Int32) (qa : Int32) (qb : Int32) (qc : Int32) (qd : Int32) (cs : Int32) (fm : Value) (h0 : Heap) (n0 : Nat) (v : Option Value) (h : Heap) (L : List Loc) : Prop := v = some (.int 1) ∧ Fr n0 L
set_option maxRecDepth 65536 in
set_option maxHeartbeats 40000000 in
theorem own_rm0 (l : Launch) (Z : State) (a0 : Array Value) (hw : ∀ d ∈ tables_1, d.before a0 Z = true) (ws : List Jvm.Cond) (qn : Int32) (qa : Int32) (qb : Int32) (qc : Int32) (qd : Int32) (cs : Int32) (fm : Value) (h0 : Heap) (n0 : Nat) (Z0 : n0 ≤ h0.size) (hst : own_ST Z cs fm) (O0 : Old Z n0 h0) :
    MetFree l x (head1 (Jvm.Cond.code x code maxLocals ret :: ws) room_1) (fun a U => a = #[(.int qn), (.int qa), (.int qb), (.int qc), (.int qd)] ∧ Z.Warmed39 U.vm ∧ U.heap = h0 ∧ CHv Z [("java/lang/String", 7)] U.vm h0) (fun _ _ _ _ _ => True) (fun _ U o U' => ∃ v L, o = .returned v ∧ Q_own_rm0 Z qn qa qb qc qd cs fm h0 n0 v U'.heap L ∧ CHr Z [("java/lang/String", 7)] U.vm U.heap U'.vm U'.heap ∧ ReturnedEndW U o U' L room_1.cells room_1.slots) := by
  refine MetFree.of_bodySF (plainFor_of_name own_pn_own_rm0) hisR ?_
  intro p e s m args below meth c s₁ Bd hml0 hP hK
  obtain ⟨rfl, hZ, hh, hCH⟩ := hP
  have hx := Bd.exec
  have hby := Bd.bytes
  have hml : c.maxLocals = 12 := hml0
  have hown : s.vm.findClass "com/example/tallygate/tallygate/AddressLiteralsIsDecimalPinLaw" = some m.cls := findClass_of_methodNamed Bd.named
  have hnm := (name_of_methodNamed Bd.named Bd.method).1
  have X0 : Stand p l e room_1 s m #[(.int qn), (.int qa), (.int qb), (.int qc), (.int qd)] below meth c s₁ [] 0 0 := Stand.of_body Bd
  have e0 : s₁.heap = h0 := by rw [← hh, Bd.state]; rfl
  have N0 := Fr.nil n0
  have pre0 : Goes p e below s₁ (entryFrame m #[(.int qn), (.int qa), (.int qb), (.int qc), (.int qd)] maxLocals) s₁ (mkF m 0 #[.val (.int qn), .val (.int qa), .val (.int qb), .val (.int qc), .val (.int qd), .unset, .unset, .unset, .unset, .unset, .unset, .unset] []) := fun t k => castTop (own_ef_own_rm0 m qn qa qb qc qd) k
  have hEL : EW Z a0 [("java/lang/String", 7)] := (EW.cons (hw _ (own_mG (i := 19) rfl)) (by simp) EW.nil)
  have CH0 : CHr Z [("java/lang/String", 7)] s.vm h0 s.vm h0 := CHr.refl hCH
  have pre1 : Goes p e below s₁ (entryFrame m #[(.int qn), (.int qa), (.int qb), (.int qc), (.int qd)] maxLocals) s₁ (mkF m 9 #[.val (.int qn), .val (.int qa), .val (.int qb), .val (.int qc), .val (.int qd), .val (.int ((qn &&& (2147483647 : Int32)) % (5 : Int32))), .unset, .unset, .unset, .unset, .unset, .unset] [(.int qa)]) := fun t kt => pre0 t (by
      show Steps p.tables e below (s₁.setTop (mkF m 0 #[.val (.int qn), .val (.int qa), .val (.int qb), .val (.int qc), .val (.int qd), .unset, .unset, .unset, .unset, .unset, .unset, .unset] [])) _
      refine XS.iloadN X0.here hx rfl (hb hby at_0) rfl ?_
      refine X0.ldcInt hx hown (mvT hZ (hw _ (own_mG (i := 0) rfl))) (g := (mkF m 1 #[.val (.int qn), .val (.int qa), .val (.int qb), .val (.int qc), .val (.int qd), .unset, .unset, .unset, .unset, .unset, .unset, .unset] [(.int qn)])) rfl (hb hby at_1) _ ?_
      show Steps p.tables e below (s₁.setTop (mkF m 3 #[.val (.int qn), .val (.int qa), .val (.int qb), .val (.int qc), .val (.int qd), .unset, .unset, .unset, .unset, .unset, .unset, .unset] [(.int 2147483647), (.int qn)])) _
      refine XS.iand X0.here hx rfl (hb hby at_3) rfl ?_
      refine XS.iconst X0.here hx rfl (hb hby at_4) ?_
      show Steps p.tables e below (s₁.setTop (mkF m 5 #[.val (.int qn), .val (.int qa), .val (.int qb), .val (.int qc), .val (.int qd), .unset, .unset, .unset, .unset, .unset, .unset, .unset] [(.int 5), (.int (qn &&& (2147483647 : Int32)))])) _
      refine iremM X0 hx rfl (hb hby at_5) rfl (by decide) ?_
      refine XS.istore X0.here hx rfl (hb hby at_6) rfl (l' := #[.val (.int qn), .val (.int qa), .val (.int qb), .val (.int qc), .val (.int qd), .val (.int ((qn &&& (2147483647 : Int32)) % (5 : Int32))), .unset, .unset, .unset, .unset, .unset, .unset]) rfl ?_
      show Steps p.tables e below (s₁.setTop (mkF m 8 #[.val (.int qn), .val (.int qa), .val (.int qb), .val (.int qc), .val (.int qd), .val (.int ((qn &&& (2147483647 : Int32)) % (5 : Int32))), .unset, .unset, .unset, .unset, .unset, .unset] [])) _
      refine XS.iloadN X0.here hx rfl (hb hby at_8) rfl ?_
      exact kt)
  obtain ⟨_, _, ⟨T2, L2, k2, n2⟩, -, X2, ⟨Lc2, hQ2, l2, y2, z2⟩, st2⟩ := Jvm.LawKit.callS X0 hx (y := (⟨"com/example/tallygate/tallygate/AddressLiteralsIsDecimalPinLaw", "draw", "(I)C"⟩ : MethodName)) hown (mvT hZ (hw _ (own_mG (i := 1) rfl))) (mvT hZ (hw _ (own_mG (i := 2) rfl))) (mvT hZ (hw _ (own_mG (i := 3) rfl))) (mvT hZ (hw _ (own_mG (i := 4) rfl))) (by decide) (backOf (W := 0) (own_draw l Z a0 hw [] qa h0 n0 Z0 ) hZ (hw _ (own_mG (i := 4) rfl)) (hw _ (own_mG (i := 3) rfl)) (by decide) (by decide)) (g := (mkF m 9 #[.val (.int qn), .val (.int qa), .val (.int qb), .val (.int qc), .val (.int qd), .val (.int ((qn &&& (2147483647 : Int32)) % (5 : Int32))), .unset, .unset, .unset, .unset, .unset, .unset] [(.int qa)])) rfl (by rw [hml]; rfl) (argsL := [(.int qa)]) (rest := []) (lenOf own_pd15 rfl) rfl (by show 2 * 0 + _ ≤ _; exact Nat.le_of_eq rfl) (hb hby at_9) (fun _ _ => ⟨rfl, e0, (by decide : 0 + 0 ≤ _), (by decide : 0 + 0 ≤ _)⟩)
  dsimp only [Pt.U, Pt.locs, Pt.cells, Pt.slots] at X2 l2 y2 z2 st2 hQ2
  subst l2 y2 z2
  obtain ⟨dc2, rfl, N2q, e2, hr2_⟩ := hQ2
  have N2 := Fr.app N0 N2q
  have pre3 : Goes p e below s₁ (entryFrame m #[(.int qn), (.int qa), (.int qb), (.int qc), (.int qd)] maxLocals) T2 (mkF m 12 #[.val (.int qn), .val (.int qa), .val (.int qb), .val (.int qc), .val (.int qd), .val (.int ((qn &&& (2147483647 : Int32)) % (5 : Int32))), .unset, .unset, .unset, .unset, .unset, .unset] [(.int dc2)]) := fun t kt => pre1 t (st2 t kt)
  have pre4 : Goes p e below s₁ (entryFrame m #[(.int qn), (.int qa), (.int qb), (.int qc), (.int qd)] maxLocals) T2 (mkF m 15 #[.val (.int qn), .val (.int qa), .val (.int qb), .val (.int qc), .val (.int qd), .val (.int ((qn &&& (2147483647 : Int32)) % (5 : Int32))), .val (.int dc2), .unset, .unset, .unset, .unset, .unset] [(.int qb)]) := fun t kt => pre3 t (by
      show Steps p.tables e below (T2.setTop (mkF m 12 #[.val (.int qn), .val (.int qa), .val (.int qb), .val (.int qc), .val (.int qd), .val (.int ((qn &&& (2147483647 : Int32)) % (5 : Int32))), .unset, .unset, .unset, .unset, .unset, .unset] [(.int dc2)])) _
      refine XS.istore X2.here hx rfl (hb hby at_12) rfl (l' := #[.val (.int qn), .val (.int qa), .val (.int qb), .val (.int qc), .val (.int qd), .val (.int ((qn &&& (2147483647 : Int32)) % (5 : Int32))), .val (.int dc2), .unset, .unset, .unset, .unset, .unset]) rfl ?_
      refine XS.iloadN X2.here hx rfl (hb hby at_14) rfl ?_
      exact kt)
  obtain ⟨_, _, ⟨T5, L5, k5, n5⟩, -, X5, ⟨Lc5, hQ5, l5, y5, z5⟩, st5⟩ := Jvm.LawKit.callS X2 hx (y := (⟨"com/example/tallygate/tallygate/AddressLiteralsIsDecimalPinLaw", "draw", "(I)C"⟩ : MethodName)) hown (mvT hZ (hw _ (own_mG (i := 1) rfl))) (mvT hZ (hw _ (own_mG (i := 2) rfl))) (mvT hZ (hw _ (own_mG (i := 3) rfl))) (mvT hZ (hw _ (own_mG (i := 4) rfl))) (by decide) (backOf (W := 0) (own_draw l Z a0 hw [] qb h0 n0 Z0 ) hZ (hw _ (own_mG (i := 4) rfl)) (hw _ (own_mG (i := 3) rfl)) (by decide) (by decide)) (g := (mkF m 15 #[.val (.int qn), .val (.int qa), .val (.int qb), .val (.int qc), .val (.int qd), .val (.int ((qn &&& (2147483647 : Int32)) % (5 : Int32))), .val (.int dc2), .unset, .unset, .unset, .unset, .unset] [(.int qb)])) rfl (by rw [hml]; rfl) (argsL := [(.int qb)]) (rest := []) (lenOf own_pd15 rfl) rfl (by show 2 * 0 + _ ≤ _; exact Nat.le_of_eq rfl) (hb hby at_15) (fun _ _ => ⟨rfl, e2, (by decide : 0 + 0 ≤ _), (by decide : 0 + 0 ≤ _)⟩)
  dsimp only [Pt.U, Pt.locs, Pt.cells, Pt.slots] at X5 l5 y5 z5 st5 hQ5
  subst l5 y5 z5
  obtain ⟨dc5, rfl, N5q, e5, hr5_⟩ := hQ5
  have N5 := Fr.app N2 N5q
  have pre6 : Goes p e below s₁ (entryFrame m #[(.int qn), (.int qa), (.int qb), (.int qc), (.int qd)] maxLocals) T5 (mkF m 18 #[.val (.int qn), .val (.int qa), .val (.int qb), .val (.int qc), .val (.int qd), .val (.int ((qn &&& (2147483647 : Int32)) % (5 : Int32))), .val (.int dc2), .unset, .unset, .unset, .unset, .unset] [(.int dc5)]) := fun t kt => pre4 t (st5 t kt)
  have pre7 : Goes p e below s₁ (entryFrame m #[(.int qn), (.int qa), (.int qb), (.int qc), (.int qd)] maxLocals) T5 (mkF m 21 #[.val (.int qn), .val (.int qa), .val (.int qb), .val (.int qc), .val (.int qd), .val (.int ((qn &&& (2147483647 : Int32)) % (5 : Int32))), .val (.int dc2), .val (.int dc5), .unset, .unset, .unset, .unset] [(.int qc)]) := fun t kt => pre6 t (by
      show Steps p.tables e below (T5.setTop (mkF m 18 #[.val (.int qn), .val (.int qa), .val (.int qb), .val (.int qc), .val (.int qd), .val (.int ((qn &&& (2147483647 : Int32)) % (5 : Int32))), .val (.int dc2), .unset, .unset, .unset, .unset, .unset] [(.int dc5)])) _
      refine XS.istore X5.here hx rfl (hb hby at_18) rfl (l' := #[.val (.int qn), .val (.int qa), .val (.int qb), .val (.int qc), .val (.int qd), .val (.int ((qn &&& (2147483647 : Int32)) % (5 : Int32))), .val (.int dc2), .val (.int dc5), .unset, .unset, .unset, .unset]) rfl ?_
      refine XS.iloadN X5.here hx rfl (hb hby at_20) rfl ?_
      exact kt)
  obtain ⟨_, _, ⟨T8, L8, k8, n8⟩, -, X8, ⟨Lc8, hQ8, l8, y8, z8⟩, st8⟩ := Jvm.LawKit.callS X5 hx (y := (⟨"com/example/tallygate/tallygate/AddressLiteralsIsDecimalPinLaw", "draw", "(I)C"⟩ : MethodName)) hown (mvT hZ (hw _ (own_mG (i := 1) rfl))) (mvT hZ (hw _ (own_mG (i := 2) rfl))) (mvT hZ (hw _ (own_mG (i := 3) rfl))) (mvT hZ (hw _ (own_mG (i := 4) rfl))) (by decide) (backOf (W := 0) (own_draw l Z a0 hw [] qc h0 n0 Z0 ) hZ (hw _ (own_mG (i := 4) rfl)) (hw _ (own_mG (i := 3) rfl)) (by decide) (by decide)) (g := (mkF m 21 #[.val (.int qn), .val (.int qa), .val (.int qb), .val (.int qc), .val (.int qd), .val (.int ((qn &&& (2147483647 : Int32)) % (5 : Int32))), .val (.int dc2), .val (.int dc5), .unset, .unset, .unset, .unset] [(.int qc)])) rfl (by rw [hml]; rfl) (argsL := [(.int qc)]) (rest := []) (lenOf own_pd15 rfl) rfl (by show 2 * 0 + _ ≤ _; exact Nat.le_of_eq rfl) (hb hby at_21) (fun _ _ => ⟨rfl, e5, (by decide : 0 + 0 ≤ _), (by decide : 0 + 0 ≤ _)⟩)
  dsimp only [Pt.U, Pt.locs, Pt.cells, Pt.slots] at X8 l8 y8 z8 st8 hQ8
  subst l8 y8 z8
  obtain ⟨dc8, rfl, N8q, e8, hr8_⟩ := hQ8
  have N8 := Fr.app N5 N8q
  have pre9 : Goes p e below s₁ (entryFrame m #[(.int qn), (.int qa), (.int qb), (.int qc), (.int qd)] maxLocals) T8 (mkF m 24 #[.val (.int qn), .val (.int qa), .val (.int qb), .val (.int qc), .val (.int qd), .val (.int ((qn &&& (2147483647 : Int32)) % (5 : Int32))), .val (.int dc2), .val (.int dc5), .unset, .unset, .unset, .unset] [(.int dc8)]) := fun t kt => pre7 t (st8 t kt)
  have pre10 : Goes p e below s₁ (entryFrame m #[(.int qn), (.int qa), (.int qb), (.int qc), (.int qd)] maxLocals) T8 (mkF m 28 #[.val (.int qn), .val (.int qa), .val (.int qb), .val (.int qc), .val (.int qd), .val (.int ((qn &&& (2147483647 : Int32)) % (5 : Int32))), .val (.int dc2), .val (.int dc5), .val (.int dc8), .unset, .unset, .unset] [(.int qd)]) := fun t kt => pre9 t (by
      show Steps p.tables e below (T8.setTop (mkF m 24 #[.val (.int qn), .val (.int qa), .val (.int qb), .val (.int qc), .val (.int qd), .val (.int ((qn &&& (2147483647 : Int32)) % (5 : Int32))), .val (.int dc2), .val (.int dc5), .unset, .unset, .unset, .unset] [(.int dc8)])) _
      refine XS.istore X8.here hx rfl (hb hby at_24) rfl (l' := #[.val (.int qn), .val (.int qa), .val (.int qb), .val (.int qc), .val (.int qd), .val (.int ((qn &&& (2147483647 : Int32)) % (5 : Int32))), .val (.int dc2), .val (.int dc5), .val (.int dc8), .unset, .unset, .unset]) rfl ?_
      refine XS.iload X8.here hx rfl (hb hby at_26) rfl ?_
      exact kt)
  obtain ⟨_, _, ⟨T11, L11, k11, n11⟩, -, X11, ⟨Lc11, hQ11, l11, y11, z11⟩, st11⟩ := Jvm.LawKit.callS X8 hx (y := (⟨"com/example/tallygate/tallygate/AddressLiteralsIsDecimalPinLaw", "draw", "(I)C"⟩ : MethodName)) hown (mvT hZ (hw _ (own_mG (i := 1) rfl))) (mvT hZ (hw _ (own_mG (i := 2) rfl))) (mvT hZ (hw _ (own_mG (i := 3) rfl))) (mvT hZ (hw _ (own_mG (i := 4) rfl))) (by decide) (backOf (W := 0) (own_draw l Z a0 hw [] qd h0 n0 Z0 ) hZ (hw _ (own_mG (i := 4) rfl)) (hw _ (own_mG (i := 3) rfl)) (by decide) (by decide)) (g := (mkF m 28 #[.val (.int qn), .val (.int qa), .val (.int qb), .val (.int qc), .val (.int qd), .val (.int ((qn &&& (2147483647 : Int32)) % (5 : Int32))), .val (.int dc2), .val (.int dc5), .val (.int dc8), .unset, .unset, .unset] [(.int qd)])) rfl (by rw [hml]; rfl) (argsL := [(.int qd)]) (rest := []) (lenOf own_pd15 rfl) rfl (by show 2 * 0 + _ ≤ _; exact Nat.le_of_eq rfl) (hb hby at_28) (fun _ _ => ⟨rfl, e8, (by decide : 0 + 0 ≤ _), (by decide : 0 + 0 ≤ _)⟩)
  dsimp only [Pt.U, Pt.locs, Pt.cells, Pt.slots] at X11 l11 y11 z11 st11 hQ11
  subst l11 y11 z11
  obtain ⟨dc11, rfl, N11q, e11, hr11_⟩ := hQ11
  have N11 := Fr.app N8 N11q
  have pre12 : Goes p e below s₁ (entryFrame m #[(.int qn), (.int qa), (.int qb), (.int qc), (.int qd)] maxLocals) T11 (mkF m 31 #[.val (.int qn), .val (.int qa), .val (.int qb), .val (.int qc), .val (.int qd), .val (.int ((qn &&& (2147483647 : Int32)) % (5 : Int32))), .val (.int dc2), .val (.int dc5), .val (.int dc8), .unset, .unset, .unset] [(.int dc11)]) := fun t kt => pre10 t (st11 t kt)
  have pre13 : Goes p e below s₁ (entryFrame m #[(.int qn), (.int qa), (.int qb), (.int qc), (.int qd)] maxLocals) T11 (mkF m 33 #[.val (.int qn), .val (.int qa), .val (.int qb), .val (.int qc), .val (.int qd), .val (.int ((qn &&& (2147483647 : Int32)) % (5 : Int32))), .val (.int dc2), .val (.int dc5), .val (.int dc8), .val (.int dc11), .unset, .unset] []) := fun t kt => pre12 t (by
      show Steps p.tables e below (T11.setTop (mkF m 31 #[.val (.int qn), .val (.int qa), .val (.int qb), .val (.int qc), .val (.int qd), .val (.int ((qn &&& (2147483647 : Int32)) % (5 : Int32))), .val (.int dc2), .val (.int dc5), .val (.int dc8), .unset, .unset, .unset] [(.int dc11)])) _
      refine XS.istore X11.here hx rfl (hb hby at_31) rfl (l' := #[.val (.int qn), .val (.int qa), .val (.int qb), .val (.int qc), .val (.int qd), .val (.int ((qn &&& (2147483647 : Int32)) % (5 : Int32))), .val (.int dc2), .val (.int dc5), .val (.int dc8), .val (.int dc11), .unset, .unset]) rfl ?_
      exact kt)
  rcases (own_n1 qn) with hk | hk | hk | hk | hk
  · -- n = 0
    rw [show ((qn &&& (2147483647 : Int32)) % (5 : Int32)) = (0 : Int32) from hk] at pre13
    have pre14 : Goes p e below s₁ (entryFrame m #[(.int qn), (.int qa), (.int qb), (.int qc), (.int qd)] maxLocals) T11 (mkF m 38 #[.val (.int qn), .val (.int qa), .val (.int qb), .val (.int qc), .val (.int qd), .val (.int 0), .val (.int dc2), .val (.int dc5), .val (.int dc8), .val (.int dc11), .unset, .unset] []) := fun t kt => pre13 t (by
        show Steps p.tables e below (T11.setTop (mkF m 33 #[.val (.int qn), .val (.int qa), .val (.int qb), .val (.int qc), .val (.int qd), .val (.int 0), .val (.int dc2), .val (.int dc5), .val (.int dc8), .val (.int dc11), .unset, .unset] [])) _
        refine XS.iload X11.here hx rfl (hb hby at_33) rfl ?_
        refine XS.ifNo X11.here hx rfl (hb hby at_35) rfl ((if0 _ _).trans (teq (by decide : (0 : Int32) = (0 : Int32))).2) ?_
        exact kt)
    obtain ⟨T15, h15, X15, e15, E15, A15, DD15, -, st15⟩ := newO X11 hx hZ hown (hw _ (own_mG (i := 5) rfl)) (hw _ (own_mG (i := 6) rfl)) (hw _ (own_mG (i := 7) rfl)) e11 (g := (mkF m 38 #[.val (.int qn), .val (.int qa), .val (.int qb), .val (.int qc), .val (.int qd), .val (.int 0), .val (.int dc2), .val (.int dc5), .val (.int dc8), .val (.int dc11), .unset, .unset] [])) rfl (hb hby at_38) (by decide) (by decide)
    obtain ⟨b15, g15⟩ : ∃ z, z = h0.size := ⟨_, rfl⟩
    rw [← g15] at A15 DD15 st15
    have F_value_b15 : Fld Z h15 b15 "java/lang/String" "value" "[B" .null := DD15 (Or.inr (hw _ (own_mG (i := 21) rfl))) (ty := (.array .byte)) (by decide)
    have F_coder_b15 : Fld Z h15 b15 "java/lang/String" "coder" "B" (.int 0) := DD15 (Or.inr (hw _ (own_mG (i := 22) rfl))) (ty := .byte) (by decide)
    have g_b15 : n0 ≤ b15 := Nat.le_trans Z0 (Nat.le_of_eq g15.symm)
    have sz_b15 : h0.size ≤ b15 := (Nat.le_trans (Keep.refl h0 []).1 (Nat.le_of_eq g15.symm))
    have K15 : Keep h0 h15 [] := (Keep.refl h0 []).ext E15
    have CH15 : CHr Z [("java/lang/String", 7)] s.vm h0 s.vm h15 := CH0.trans (CHr.ext E15 CH0.1)
    have pre16 : Goes p e below s₁ (entryFrame m #[(.int qn), (.int qa), (.int qb), (.int qc), (.int qd)] maxLocals) T15 (mkF m 41 #[.val (.int qn), .val (.int qa), .val (.int qb), .val (.int qc), .val (.int qd), .val (.int 0), .val (.int dc2), .val (.int dc5), .val (.int dc8), .val (.int dc11), .unset, .unset] [(.ref b15)]) := fun t kt => pre14 t (st15 t kt)
    have pre17 : Goes p e below s₁ (entryFrame m #[(.int qn), (.int qa), (.int qb), (.int qc), (.int qd)] maxLocals) T15 (mkF m 43 #[.val (.int qn), .val (.int qa), .val (.int qb), .val (.int qc), .val (.int qd), .val (.int 0), .val (.int dc2), .val (.int dc5), .val (.int dc8), .val (.int dc11), .unset, .unset] [(.int 0), (.ref b15), (.ref b15)]) := fun t kt => pre16 t (by
        show Steps p.tables e below (T15.setTop (mkF m 41 #[.val (.int qn), .val (.int qa), .val (.int qb), .val (.int qc), .val (.int qd), .val (.int 0), .val (.int dc2), .val (.int dc5), .val (.int dc8), .val (.int dc11), .unset, .unset] [(.ref b15)])) _
        refine XS.dup X15.here hx rfl (hb hby at_41) rfl rfl ?_
        refine XS.iconst X15.here hx rfl (hb hby at_42) ?_
        exact kt)
    obtain ⟨T18, h18, k18, X18, e18, E18, A18, st18⟩ := newP X15 hx hZ (hw _ (own_mG (i := 8) rfl)) e15 (g := (mkF m 43 #[.val (.int qn), .val (.int qa), .val (.int qb), .val (.int qc), .val (.int qd), .val (.int 0), .val (.int dc2), .val (.int dc5), .val (.int dc8), .val (.int dc11), .unset, .unset] [(.int 0), (.ref b15), (.ref b15)])) rfl (hb hby at_43) rfl (by decide) (cap := 0) (by decide) (by decide) (by decide) (by decide)
    obtain ⟨b18, g18⟩ : ∃ z, z = h15.size := ⟨_, rfl⟩
    rw [← g18] at A18 st18
    have V_b18 : Arv Z h18 b18 k18 .char (0 : Int32) [] (.int 0) := Arv.new A18 (by decide)
    have g_b18 : n0 ≤ b18 := Nat.le_trans (Nat.le_trans Z0 E15.1) (Nat.le_of_eq g18.symm)
    have sz_b18 : h0.size ≤ b18 := (Nat.le_trans K15.1 (Nat.le_of_eq g18.symm))
    have K18 : Keep h0 h18 [] := K15.ext E18
    have CH18 : CHr Z [("java/lang/String", 7)] s.vm h0 s.vm h18 := CH15.trans (CHr.ext E18 CH15.1)
    have pre19 : Goes p e below s₁ (entryFrame m #[(.int qn), (.int qa), (.int qb), (.int qc), (.int qd)] maxLocals) T18 (mkF m 45 #[.val (.int qn), .val (.int qa), .val (.int qb), .val (.int qc), .val (.int qd), .val (.int 0), .val (.int dc2), .val (.int dc5), .val (.int dc8), .val (.int dc11), .unset, .unset] [(.ref b18), (.ref b15), (.ref b15)]) := fun t kt => pre17 t (st18 t kt)
    obtain ⟨_, _, ⟨T20, L20, k20, n20⟩, -, XX20, hSS20, hGG20, ⟨Lc20, hQ20, l20, y20, z20, hCr20⟩, st20⟩ := X18.specialBackS hx (y := (⟨"java/lang/String", "<init>", "([C)V"⟩ : MethodName)) rfl hown (mvT hZ (hw _ (own_mG (i := 9) rfl))) (mvT hZ (hw _ (own_mG (i := 10) rfl))) (mvT hZ (hw _ (own_mG (i := 11) rfl))) (by decide) (backOfSH (s := s) (vm0 := s.vm) (W := 1) (own_sJ0 l Z a0 hw [] b15 b18 k18 _ h18 n0 (Nat.le_trans (Nat.le_trans Z0 E15.1) E18.1) (A15.ext E18) (F_value_b15.ext E18) (F_coder_b15.ext E18) g_b15 V_b18) hZ (hw _ (own_mG (i := 11) rfl)) (hw _ (own_mG (i := 7) rfl)) (by decide) (by decide) hEL CH18.1) (g := (mkF m 45 #[.val (.int qn), .val (.int qa), .val (.int qb), .val (.int qc), .val (.int qd), .val (.int 0), .val (.int dc2), .val (.int dc5), .val (.int dc8), .val (.int dc11), .unset, .unset] [(.ref b18), (.ref b15), (.ref b15)])) rfl (by rw [hml]; rfl) (Steps.refl _) (a := b15) (argsL := [(.ref b18)]) (rest := [(.ref b15)]) (lenOf own_pd16 rfl) rfl (by show 2 * 0 + _ ≤ _; exact Nat.le_of_eq rfl) (hb hby at_45) (fun _ _ => ⟨rfl, e18, (by decide : 2 + 2 ≤ _), (by decide : 4 + 4 ≤ _)⟩)
    dsimp only [Pt.U, Pt.locs, Pt.cells, Pt.slots] at hCr20 hSS20 hGG20 XX20 l20 y20 z20 st20 hQ20
    subst l20 y20 z20
    obtain ⟨rfl, N20q, K20q, Es20, Fc20, y20, ky20, Fv20, ny20, Vy20⟩ := hQ20
    have N20 := Fr.app N11 N20q
    obtain ⟨X20, hS20, hZ, hown⟩ := rebS (s := s) (vm0 := s.vm) (State.WarmedH.since (State.WarmedH.refl s) 0) (by rw [e18]; exact (Nat.zero_le _)) XX20 hSS20 hGG20 hZ hown
    have KC20 : Keep h0 T20.heap [] := K18.trans K20q (allS (Or.inr sz_b15) all0)
    have CH20 : CHr Z [("java/lang/String", 7)] s.vm h0 T20.vm T20.heap := CH18.trans hCr20
    have pre21 : Goes p e below s₁ (entryFrame m #[(.int qn), (.int qa), (.int qb), (.int qc), (.int qd)] maxLocals) T20 (mkF m 48 #[.val (.int qn), .val (.int qa), .val (.int qb), .val (.int qc), .val (.int qd), .val (.int 0), .val (.int dc2), .val (.int dc5), .val (.int dc8), .val (.int dc11), .unset, .unset] [(.ref b15)]) := fun t kt => pre19 t (st20.trans kt)
    have SD20 : own_SD Z T20.heap y20 ky20 (0 : Int32) (0 : Int32) (0 : Int32) [] [] (True) := Or.inl ⟨rfl, trivial, Vy20⟩
    have pre22 : Goes p e below s₁ (entryFrame m #[(.int qn), (.int qa), (.int qb), (.int qc), (.int qd)] maxLocals) T20 (mkF m 178 #[.val (.int qn), .val (.int qa), .val (.int qb), .val (.int qc), .val (.int qd), .val (.int 0), .val (.int dc2), .val (.int dc5), .val (.int dc8), .val (.int dc11), .val (.ref b15), .unset] []) := fun t kt => pre21 t (by
        show Steps p.tables e below (T20.setTop (mkF m 48 #[.val (.int qn), .val (.int qa), .val (.int qb), .val (.int qc), .val (.int qd), .val (.int 0), .val (.int dc2), .val (.int dc5), .val (.int dc8), .val (.int dc11), .unset, .unset] [(.ref b15)])) _
        refine XS.astore X20.here hx rfl (hb hby at_48) rfl rfl (l' := #[.val (.int qn), .val (.int qa), .val (.int qb), .val (.int qc), .val (.int qd), .val (.int 0), .val (.int dc2), .val (.int dc5), .val (.int dc8), .val (.int dc11), .val (.ref b15), .unset]) rfl ?_
        refine XS.goto X20.here hx rfl (pc0 := 50) (pc' := 178) rfl (hb hby at_50) (by decide) (by decide) ?_
        exact kt)
    obtain ⟨ex, T23, Lj23, X23, e23, NJ23, hex, pre24⟩ : ∃ (ex : Int32) (T23 : State) (Lj23 : List Loc), Stand p l e room_1 (s.setVm T20.vm) m #[(.int qn), (.int qa), (.int qb), (.int qc), (.int qd)] below meth c T23 Lj23 4 8 ∧ T23.heap = T20.heap ∧ Fr n0 Lj23 ∧ ((ex = (1 : Int32) ∧ (True)) ∨ (ex = (0 : Int32) ∧ ¬ (True))) ∧ Goes p e below s₁ (entryFrame m #[(.int qn), (.int qa), (.int qb), (.int qc), (.int qd)] maxLocals) T23 (mkF m 239 #[.val (.int qn), .val (.int qa), .val (.int qb), .val (.int qc), .val (.int qd), .val (.int 0), .val (.int dc2), .val (.int dc5), .val (.int dc8), .val (.int dc11), .val (.ref b15), .unset] [(.int ex)]) := by
      have pre25 : Goes p e below s₁ (entryFrame m #[(.int qn), (.int qa), (.int qb), (.int qc), (.int qd)] maxLocals) T20 (mkF m 239 #[.val (.int qn), .val (.int qa), .val (.int qb), .val (.int qc), .val (.int qd), .val (.int 0), .val (.int dc2), .val (.int dc5), .val (.int dc8), .val (.int dc11), .val (.ref b15), .unset] [(.int 1)]) := fun t kt => pre22 t (by
          show Steps p.tables e below (T20.setTop (mkF m 178 #[.val (.int qn), .val (.int qa), .val (.int qb), .val (.int qc), .val (.int qd), .val (.int 0), .val (.int dc2), .val (.int dc5), .val (.int dc8), .val (.int dc11), .val (.ref b15), .unset] [])) _
          refine XS.iload X20.here hx rfl (hb hby at_178) rfl ?_
          refine XS.iconst X20.here hx rfl (hb hby at_180) ?_
          show Steps p.tables e below (T20.setTop (mkF m 181 #[.val (.int qn), .val (.int qa), .val (.int qb), .val (.int qc), .val (.int qd), .val (.int 0), .val (.int dc2), .val (.int dc5), .val (.int dc8), .val (.int dc11), .val (.ref b15), .unset] [(.int 1), (.int 0)])) _
          refine XS.icmpYes X20.here hx rfl (pc0 := 181) (pc' := 192) rfl (hb hby at_181) rfl (tlt (by decide : (0 : Int32) < (1 : Int32))).1 (by decide) (by decide) ?_
          refine XS.iload X20.here hx rfl (hb hby at_192) rfl ?_
          show Steps p.tables e below (T20.setTop (mkF m 194 #[.val (.int qn), .val (.int qa), .val (.int qb), .val (.int qc), .val (.int qd), .val (.int 0), .val (.int dc2), .val (.int dc5), .val (.int dc8), .val (.int dc11), .val (.ref b15), .unset] [(.int 0)])) _
          refine XS.iconst X20.here hx rfl (hb hby at_194) ?_
          refine XS.icmpYes X20.here hx rfl (pc0 := 195) (pc' := 206) rfl (hb hby at_195) rfl (tlt (by decide : (0 : Int32) < (2 : Int32))).1 (by decide) (by decide) ?_
          show Steps p.tables e below (T20.setTop (mkF m 206 #[.val (.int qn), .val (.int qa), .val (.int qb), .val (.int qc), .val (.int qd), .val (.int 0), .val (.int dc2), .val (.int dc5), .val (.int dc8), .val (.int dc11), .val (.ref b15), .unset] [])) _
          refine XS.iload X20.here hx rfl (hb hby at_206) rfl ?_
          refine XS.iconst X20.here hx rfl (hb hby at_208) ?_
          show Steps p.tables e below (T20.setTop (mkF m 209 #[.val (.int qn), .val (.int qa), .val (.int qb), .val (.int qc), .val (.int qd), .val (.int 0), .val (.int dc2), .val (.int dc5), .val (.int dc8), .val (.int dc11), .val (.ref b15), .unset] [(.int 3), (.int 0)])) _
          refine XS.icmpYes X20.here hx rfl (pc0 := 209) (pc' := 220) rfl (hb hby at_209) rfl (tlt (by decide : (0 : Int32) < (3 : Int32))).1 (by decide) (by decide) ?_
          refine XS.iload X20.here hx rfl (hb hby at_220) rfl ?_
          show Steps p.tables e below (T20.setTop (mkF m 222 #[.val (.int qn), .val (.int qa), .val (.int qb), .val (.int qc), .val (.int qd), .val (.int 0), .val (.int dc2), .val (.int dc5), .val (.int dc8), .val (.int dc11), .val (.ref b15), .unset] [(.int 0)])) _
          refine XS.iconst X20.here hx rfl (hb hby at_222) ?_
          refine XS.icmpYes X20.here hx rfl (pc0 := 223) (pc' := 234) rfl (hb hby at_223) rfl (tlt (by decide : (0 : Int32) < (4 : Int32))).1 (by decide) (by decide) ?_
          show Steps p.tables e below (T20.setTop (mkF m 234 #[.val (.int qn), .val (.int qa), .val (.int qb), .val (.int qc), .val (.int qd), .val (.int 0), .val (.int dc2), .val (.int dc5), .val (.int dc8), .val (.int dc11), .val (.ref b15), .unset] [])) _
          refine XS.iconst X20.here hx rfl (hb hby at_234) ?_
          refine XS.goto X20.here hx rfl (pc0 := 235) (pc' := 239) rfl (hb hby at_235) (by decide) (by decide) ?_
          exact kt)
      exact ⟨(1 : Int32), T20, _, X20, rfl, N20, (Or.inl ⟨rfl, trivial⟩), pre25⟩
    have pre26 : Goes p e below s₁ (entryFrame m #[(.int qn), (.int qa), (.int qb), (.int qc), (.int qd)] maxLocals) T23 (mkF m 243 #[.val (.int qn), .val (.int qa), .val (.int qb), .val (.int qc), .val (.int qd), .val (.int 0), .val (.int dc2), .val (.int dc5), .val (.int dc8), .val (.int dc11), .val (.ref b15), .val (.int ex)] [(.ref b15)]) := fun t kt => pre24 t (by
        show Steps p.tables e below (T23.setTop (mkF m 239 #[.val (.int qn), .val (.int qa), .val (.int qb), .val (.int qc), .val (.int qd), .val (.int 0), .val (.int dc2), .val (.int dc5), .val (.int dc8), .val (.int dc11), .val (.ref b15), .unset] [(.int ex)])) _
        refine XS.istore X23.here hx rfl (hb hby at_239) rfl (l' := #[.val (.int qn), .val (.int qa), .val (.int qb), .val (.int qc), .val (.int qd), .val (.int 0), .val (.int dc2), .val (.int dc5), .val (.int dc8), .val (.int dc11), .val (.ref b15), .val (.int ex)]) rfl ?_
        refine XS.aload X23.here hx rfl (hb hby at_241) rfl rfl ?_
        exact kt)
    obtain ⟨_, _, ⟨T27, L27, k27, n27⟩, -, X27, ⟨Lc27, hQ27, l27, y27, z27⟩, st27⟩ := Jvm.LawKit.callS X23 hx (y := (⟨"com/example/tallygate/tallygate/AddressLiterals", "isDecimal", "(Ljava/lang/String;)Z"⟩ : MethodName)) hown (mvT hZ (hw _ (own_mG (i := 27) rfl))) (mvT hZ (hw _ (own_mG (i := 28) rfl))) (mvT hZ (hw _ (own_mG (i := 29) rfl))) (mvT hZ (hw _ (own_mG (i := 30) rfl))) (by decide) (backOf (W := 0) (own_dec0 l Z a0 hw [] b15 (0 : Int32) y20 ky20  cs fm T20.heap n0 (Nat.le_trans (Nat.le_trans (Nat.le_trans Z0 E15.1) E18.1) K20q.1) Es20 Fc20 Fv20 SD20  hst (((O0.ext E15).ext E18).keep K20q (allS g_b15 all0))) hZ (hw _ (own_mG (i := 30) rfl)) (hw _ (own_mG (i := 29) rfl)) (by decide) (by decide)) (g := (mkF m 243 #[.val (.int qn), .val (.int qa), .val (.int qb), .val (.int qc), .val (.int qd), .val (.int 0), .val (.int dc2), .val (.int dc5), .val (.int dc8), .val (.int dc11), .val (.ref b15), .val (.int ex)] [(.ref b15)])) rfl (by rw [hml]; rfl) (argsL := [(.ref b15)]) (rest := []) (lenOf own_pd17 rfl) rfl (by show 2 * 0 + _ ≤ _; exact Nat.le_of_eq rfl) (hb hby at_243) (fun _ _ => ⟨rfl, e23, (by decide : 4 + 0 ≤ _), (by decide : 8 + 0 ≤ _)⟩)
    dsimp only [Pt.U, Pt.locs, Pt.cells, Pt.slots] at X27 l27 y27 z27 st27 hQ27
    subst l27 y27 z27
    obtain ⟨dr27, rfl, N27q, e27, Hr27⟩ := hQ27
    have N27 := Fr.app NJ23 N27q
    have pre28 : Goes p e below s₁ (entryFrame m #[(.int qn), (.int qa), (.int qb), (.int qc), (.int qd)] maxLocals) T27 (mkF m 246 #[.val (.int qn), .val (.int qa), .val (.int qb), .val (.int qc), .val (.int qd), .val (.int 0), .val (.int dc2), .val (.int dc5), .val (.int dc8), .val (.int dc11), .val (.ref b15), .val (.int ex)] [(.int dr27)]) := fun t kt => pre26 t (st27 t kt)
    have heq : dr27 = ex := by rcases Hr27 with ⟨q1, q2⟩ | ⟨q1, q2⟩ <;> rcases hex with ⟨q3, q4⟩ | ⟨q3, q4⟩ <;> first | exact q1.trans q3.symm | exact absurd q2 q4 | exact absurd q4 q2
    have pre29 : Goes p e below s₁ (entryFrame m #[(.int qn), (.int qa), (.int qb), (.int qc), (.int qd)] maxLocals) T27 (mkF m 256 #[.val (.int qn), .val (.int qa), .val (.int qb), .val (.int qc), .val (.int qd), .val (.int 0), .val (.int dc2), .val (.int dc5), .val (.int dc8), .val (.int dc11), .val (.ref b15), .val (.int ex)] [(.int 1)]) := fun t kt => pre28 t (by
        show Steps p.tables e below (T27.setTop (mkF m 246 #[.val (.int qn), .val (.int qa), .val (.int qb), .val (.int qc), .val (.int qd), .val (.int 0), .val (.int dc2), .val (.int dc5), .val (.int dc8), .val (.int dc11), .val (.ref b15), .val (.int ex)] [(.int dr27)])) _
        refine XS.iload X27.here hx rfl (hb hby at_246) rfl ?_
        refine XS.icmpNo X27.here hx rfl (hb hby at_248) rfl (teq heq).2 ?_
        show Steps p.tables e below (T27.setTop (mkF m 251 #[.val (.int qn), .val (.int qa), .val (.int qb), .val (.int qc), .val (.int qd), .val (.int 0), .val (.int dc2), .val (.int dc5), .val (.int dc8), .val (.int dc11), .val (.ref b15), .val (.int ex)] [])) _
        refine XS.iconst X27.here hx rfl (hb hby at_251) ?_
        refine XS.goto X27.here hx rfl (pc0 := 252) (pc' := 256) rfl (hb hby at_252) (by decide) (by decide) ?_
        exact kt)
    obtain ⟨fs, hr, hrun, hended, hEnd⟩ := X27.leaveW hS20 (by rw [e27]; exact (Nat.le_refl _)) (v := some (.int 1)) (fun h => by rw [Bd.returns] at h; cases h)
    refine ⟨_, _, pre29 _ ?_, hrun, hended, _, _, rfl, ?_, ?_, hEnd.1, hEnd.2.1, hEnd.2.2.1, hEnd.2.2.2.mono (by decide) (by decide)⟩
    · show Steps p.tables e below (T27.setTop (mkF m 256 #[.val (.int qn), .val (.int qa), .val (.int qb), .val (.int qc), .val (.int qd), .val (.int 0), .val (.int dc2), .val (.int dc5), .val (.int dc8), .val (.int dc11), .val (.ref b15), .val (.int ex)] [(.int 1)])) _
      exact retN X27 hx (t := .boolean) Bd.returns (by simp) (hb hby at_256) hr
    · show Q_own_rm0 Z qn qa qb qc qd cs fm h0 n0 _ T27.heap _
      rw [e27]
      exact ⟨rfl, N27⟩
    · show CHr Z [("java/lang/String", 7)] s.vm s.heap T27.vm T27.heap
      rw [hh, e27]
      exact CH20.trans (CHv.at (s := s) (vm0 := T20.vm) X27 hZ hEL CH20.1)
  · -- n = 1
    rw [show ((qn &&& (2147483647 : Int32)) % (5 : Int32)) = (1 : Int32) from hk] at pre13
    have pre30 : Goes p e below s₁ (entryFrame m #[(.int qn), (.int qa), (.int qb), (.int qc), (.int qd)] maxLocals) T11 (mkF m 59 #[.val (.int qn), .val (.int qa), .val (.int qb), .val (.int qc), .val (.int qd), .val (.int 1), .val (.int dc2), .val (.int dc5), .val (.int dc8), .val (.int dc11), .unset, .unset] []) := fun t kt => pre13 t (by
        show Steps p.tables e below (T11.setTop (mkF m 33 #[.val (.int qn), .val (.int qa), .val (.int qb), .val (.int qc), .val (.int qd), .val (.int 1), .val (.int dc2), .val (.int dc5), .val (.int dc8), .val (.int dc11), .unset, .unset] [])) _
        refine XS.iload X11.here hx rfl (hb hby at_33) rfl ?_
        refine XS.ifYes X11.here hx rfl (pc0 := 35) (pc' := 53) rfl (hb hby at_35) rfl ((if0 _ _).trans (feq (by decide : ¬ ((1 : Int32) = (0 : Int32)))).2) (by decide) (by decide) ?_
        show Steps p.tables e below (T11.setTop (mkF m 53 #[.val (.int qn), .val (.int qa), .val (.int qb), .val (.int qc), .val (.int qd), .val (.int 1), .val (.int dc2), .val (.int dc5), .val (.int dc8), .val (.int dc11), .unset, .unset] [])) _
        refine XS.iload X11.here hx rfl (hb hby at_53) rfl ?_
        refine XS.iconst X11.here hx rfl (hb hby at_55) ?_
        show Steps p.tables e below (T11.setTop (mkF m 56 #[.val (.int qn), .val (.int qa), .val (.int qb), .val (.int qc), .val (.int qd), .val (.int 1), .val (.int dc2), .val (.int dc5), .val (.int dc8), .val (.int dc11), .unset, .unset] [(.int 1), (.int 1)])) _
        refine XS.icmpNo X11.here hx rfl (hb hby at_56) rfl (teq (by decide : (1 : Int32) = (1 : Int32))).2 ?_
        exact kt)
    obtain ⟨T31, h31, X31, e31, E31, A31, DD31, -, st31⟩ := newO X11 hx hZ hown (hw _ (own_mG (i := 5) rfl)) (hw _ (own_mG (i := 6) rfl)) (hw _ (own_mG (i := 7) rfl)) e11 (g := (mkF m 59 #[.val (.int qn), .val (.int qa), .val (.int qb), .val (.int qc), .val (.int qd), .val (.int 1), .val (.int dc2), .val (.int dc5), .val (.int dc8), .val (.int dc11), .unset, .unset] [])) rfl (hb hby at_59) (by decide) (by decide)
    obtain ⟨b31, g31⟩ : ∃ z, z = h0.size := ⟨_, rfl⟩
    rw [← g31] at A31 DD31 st31
    have F_value_b31 : Fld Z h31 b31 "java/lang/String" "value" "[B" .null := DD31 (Or.inr (hw _ (own_mG (i := 21) rfl))) (ty := (.array .byte)) (by decide)
    have F_coder_b31 : Fld Z h31 b31 "java/lang/String" "coder" "B" (.int 0) := DD31 (Or.inr (hw _ (own_mG (i := 22) rfl))) (ty := .byte) (by decide)
    have g_b31 : n0 ≤ b31 := Nat.le_trans Z0 (Nat.le_of_eq g31.symm)
    have sz_b31 : h0.size ≤ b31 := (Nat.le_trans (Keep.refl h0 []).1 (Nat.le_of_eq g31.symm))
    have K31 : Keep h0 h31 [] := (Keep.refl h0 []).ext E31
    have CH31 : CHr Z [("java/lang/String", 7)] s.vm h0 s.vm h31 := CH0.trans (CHr.ext E31 CH0.1)
    have pre32 : Goes p e below s₁ (entryFrame m #[(.int qn), (.int qa), (.int qb), (.int qc), (.int qd)] maxLocals) T31 (mkF m 62 #[.val (.int qn), .val (.int qa), .val (.int qb), .val (.int qc), .val (.int qd), .val (.int 1), .val (.int dc2), .val (.int dc5), .val (.int dc8), .val (.int dc11), .unset, .unset] [(.ref b31)]) := fun t kt => pre30 t (st31 t kt)
    have pre33 : Goes p e below s₁ (entryFrame m #[(.int qn), (.int qa), (.int qb), (.int qc), (.int qd)] maxLocals) T31 (mkF m 64 #[.val (.int qn), .val (.int qa), .val (.int qb), .val (.int qc), .val (.int qd), .val (.int 1), .val (.int dc2), .val (.int dc5), .val (.int dc8), .val (.int dc11), .unset, .unset] [(.int 1), (.ref b31), (.ref b31)]) := fun t kt => pre32 t (by
        show Steps p.tables e below (T31.setTop (mkF m 62 #[.val (.int qn), .val (.int qa), .val (.int qb), .val (.int qc), .val (.int qd), .val (.int 1), .val (.int dc2), .val (.int dc5), .val (.int dc8), .val (.int dc11), .unset, .unset] [(.ref b31)])) _
        refine XS.dup X31.here hx rfl (hb hby at_62) rfl rfl ?_
        refine XS.iconst X31.here hx rfl (hb hby at_63) ?_
        exact kt)
    obtain ⟨T34, h34, k34, X34, e34, E34, A34, st34⟩ := newP X31 hx hZ (hw _ (own_mG (i := 8) rfl)) e31 (g := (mkF m 64 #[.val (.int qn), .val (.int qa), .val (.int qb), .val (.int qc), .val (.int qd), .val (.int 1), .val (.int dc2), .val (.int dc5), .val (.int dc8), .val (.int dc11), .unset, .unset] [(.int 1), (.ref b31), (.ref b31)])) rfl (hb hby at_64) rfl (by decide) (cap := 1) (by decide) (by decide) (by decide) (by decide)
    obtain ⟨b34, g34⟩ : ∃ z, z = h31.size := ⟨_, rfl⟩
    rw [← g34] at A34 st34
    have V_b34 : Arv Z h34 b34 k34 .char (1 : Int32) [(.int 0)] (.int 0) := (Arv.new A34 (by decide)).pad (pad_rep [] (.int 0) 1)
    have g_b34 : n0 ≤ b34 := Nat.le_trans (Nat.le_trans Z0 E31.1) (Nat.le_of_eq g34.symm)
    have sz_b34 : h0.size ≤ b34 := (Nat.le_trans K31.1 (Nat.le_of_eq g34.symm))
    have K34 : Keep h0 h34 [] := K31.ext E34
    have CH34 : CHr Z [("java/lang/String", 7)] s.vm h0 s.vm h34 := CH31.trans (CHr.ext E34 CH31.1)
    have pre35 : Goes p e below s₁ (entryFrame m #[(.int qn), (.int qa), (.int qb), (.int qc), (.int qd)] maxLocals) T34 (mkF m 66 #[.val (.int qn), .val (.int qa), .val (.int qb), .val (.int qc), .val (.int qd), .val (.int 1), .val (.int dc2), .val (.int dc5), .val (.int dc8), .val (.int dc11), .unset, .unset] [(.ref b34), (.ref b31), (.ref b31)]) := fun t kt => pre33 t (st34 t kt)
    have pre36 : Goes p e below s₁ (entryFrame m #[(.int qn), (.int qa), (.int qb), (.int qc), (.int qd)] maxLocals) T34 (mkF m 70 #[.val (.int qn), .val (.int qa), .val (.int qb), .val (.int qc), .val (.int qd), .val (.int 1), .val (.int dc2), .val (.int dc5), .val (.int dc8), .val (.int dc11), .unset, .unset] [(.int dc2), (.int 0), (.ref b34), (.ref b34), (.ref b31), (.ref b31)]) := fun t kt => pre35 t (by
        show Steps p.tables e below (T34.setTop (mkF m 66 #[.val (.int qn), .val (.int qa), .val (.int qb), .val (.int qc), .val (.int qd), .val (.int 1), .val (.int dc2), .val (.int dc5), .val (.int dc8), .val (.int dc11), .unset, .unset] [(.ref b34), (.ref b31), (.ref b31)])) _
        refine XS.dup X34.here hx rfl (hb hby at_66) rfl rfl ?_
        refine XS.iconst X34.here hx rfl (hb hby at_67) ?_
        show Steps p.tables e below (T34.setTop (mkF m 68 #[.val (.int qn), .val (.int qa), .val (.int qb), .val (.int qc), .val (.int qd), .val (.int 1), .val (.int dc2), .val (.int dc5), .val (.int dc8), .val (.int dc11), .unset, .unset] [(.int 0), (.ref b34), (.ref b34), (.ref b31), (.ref b31)])) _
        refine XS.iload X34.here hx rfl (hb hby at_68) rfl ?_
        exact kt)
    obtain ⟨cl37, Ar37, q37, S37, N_37, H37, G37⟩ := (id (V_b34))
    have hin37 : ¬ ((0 : Int32) < 0 ∨ cl37.slots.size ≤ ((0 : Int32)).toNatClampNeg) := inb_of S37 ⟨by decide, by decide⟩
    obtain ⟨T38, h38, X38, e38, W38, st38⟩ := stC X34 hx hZ e34 Ar37 (j := (0 : Int32)) hin37 (g := (mkF m 70 #[.val (.int qn), .val (.int qa), .val (.int qb), .val (.int qc), .val (.int qd), .val (.int 1), .val (.int dc2), .val (.int dc5), .val (.int dc8), .val (.int dc11), .unset, .unset] [(.int dc2), (.int 0), (.ref b34), (.ref b34), (.ref b31), (.ref b31)])) rfl rfl (hb hby at_70)
    have V38 : Arv Z h38 b34 k34 .char (1 : Int32) [(.int (nar .char dc2))] (.int 0) := Arv.set Ar37 q37 S37 N_37 H37 G37 (fits_nar_char _) W38 0 rfl (Nat.le_of_ble_eq_true rfl)
    have K38 : Keep h0 h38 [] := K34.wr W38 (Or.inr sz_b34)
    have CH38 : CHr Z [("java/lang/String", 7)] s.vm h0 s.vm h38 := CH34.trans (CHr.wr W38 (own_safeV hZ.alike V_b34 (by decide)) CH34.1)
    have N38 := Fr.snoc X38 N11 g_b34
    have pre39 : Goes p e below s₁ (entryFrame m #[(.int qn), (.int qa), (.int qb), (.int qc), (.int qd)] maxLocals) T38 (mkF m 71 #[.val (.int qn), .val (.int qa), .val (.int qb), .val (.int qc), .val (.int qd), .val (.int 1), .val (.int dc2), .val (.int dc5), .val (.int dc8), .val (.int dc11), .unset, .unset] [(.ref b34), (.ref b31), (.ref b31)]) := fun t kt => pre36 t (st38 t kt)
    have VV40 : Arv Z h38 b34 k34 .char (1 : Int32) [(.int dc2)] (.int 0) := by have q := V38; simp only [own_nc dc2 hr2_] at q; exact q
    obtain ⟨_, _, ⟨T41, L41, k41, n41⟩, -, X41, ⟨Lc41, hQ41, l41, y41, z41⟩, st41⟩ := X38.specialBack hx (y := (⟨"java/lang/String", "<init>", "([C)V"⟩ : MethodName)) rfl hown (mvT hZ (hw _ (own_mG (i := 9) rfl))) (mvT hZ (hw _ (own_mG (i := 10) rfl))) (mvT hZ (hw _ (own_mG (i := 11) rfl))) (by decide) (backOf (W := 1) (own_sJ1 l Z a0 hw [] b31 b34 k34 _ _ dc2 cs fm h38 n0 (Nat.le_trans (Nat.le_trans (Nat.le_trans Z0 E31.1) E34.1) (Keep.of_wr W38).1) ((A31.ext E34).wr W38) ((F_value_b31.ext E34).other W38 (Or.inl (Nat.ne_of_lt (Nat.lt_of_lt_of_le F_value_b31.lt (Nat.le_of_eq g34.symm))))) ((F_coder_b31.ext E34).other W38 (Or.inl (Nat.ne_of_lt (Nat.lt_of_lt_of_le F_value_b31.lt (Nat.le_of_eq g34.symm))))) g_b31 VV40 hr2_ hst (((O0.ext E31).ext E34).wr W38 g_b34)) hZ (hw _ (own_mG (i := 11) rfl)) (hw _ (own_mG (i := 7) rfl)) (by decide) (by decide)) (g := (mkF m 71 #[.val (.int qn), .val (.int qa), .val (.int qb), .val (.int qc), .val (.int qd), .val (.int 1), .val (.int dc2), .val (.int dc5), .val (.int dc8), .val (.int dc11), .unset, .unset] [(.ref b34), (.ref b31), (.ref b31)])) rfl (by rw [hml]; rfl) (Steps.refl _) (a := b31) (argsL := [(.ref b34)]) (rest := [(.ref b31)]) (lenOf own_pd16 rfl) rfl (by show 2 * 0 + _ ≤ _; exact Nat.le_of_eq rfl) (hb hby at_71) (fun _ _ => ⟨rfl, e38, (by decide : 2 + 2 ≤ _), (by decide : 5 + 3 ≤ _)⟩)
    dsimp only [Pt.U, Pt.locs, Pt.cells, Pt.slots] at X41 l41 y41 z41 st41 hQ41
    subst l41 y41 z41
    obtain ⟨rfl, N41q, K41q, Es41, cd41, y41, ky41, Fc41, Fv41, SD41⟩ := hQ41
    have N41 := Fr.app N38 N41q
    have KC41 : Keep h0 T41.heap [] := K38.trans K41q (allS (Or.inr sz_b31) all0)
    have CH41 : CHr Z [("java/lang/String", 7)] s.vm h0 s.vm T41.heap := CH38.trans (CHr.keep K41q (allS (own_safe hZ.alike ((A31.ext E34).wr W38) ((F_value_b31.ext E34).other W38 (Or.inl (Nat.ne_of_lt (Nat.lt_of_lt_of_le F_value_b31.lt (Nat.le_of_eq g34.symm)))))) all0) CH38.1)
    have pre42 : Goes p e below s₁ (entryFrame m #[(.int qn), (.int qa), (.int qb), (.int qc), (.int qd)] maxLocals) T41 (mkF m 74 #[.val (.int qn), .val (.int qa), .val (.int qb), .val (.int qc), .val (.int qd), .val (.int 1), .val (.int dc2), .val (.int dc5), .val (.int dc8), .val (.int dc11), .unset, .unset] [(.ref b31)]) := fun t kt => pre39 t (st41.trans kt)
    have pre43 : Goes p e below s₁ (entryFrame m #[(.int qn), (.int qa), (.int qb), (.int qc), (.int qd)] maxLocals) T41 (mkF m 178 #[.val (.int qn), .val (.int qa), .val (.int qb), .val (.int qc), .val (.int qd), .val (.int 1), .val (.int dc2), .val (.int dc5), .val (.int dc8), .val (.int dc11), .val (.ref b31), .unset] []) := fun t kt => pre42 t (by
        show Steps p.tables e below (T41.setTop (mkF m 74 #[.val (.int qn), .val (.int qa), .val (.int qb), .val (.int qc), .val (.int qd), .val (.int 1), .val (.int dc2), .val (.int dc5), .val (.int dc8), .val (.int dc11), .unset, .unset] [(.ref b31)])) _
        refine XS.astore X41.here hx rfl (hb hby at_74) rfl rfl (l' := #[.val (.int qn), .val (.int qa), .val (.int qb), .val (.int qc), .val (.int qd), .val (.int 1), .val (.int dc2), .val (.int dc5), .val (.int dc8), .val (.int dc11), .val (.ref b31), .unset]) rfl ?_
        refine XS.goto X41.here hx rfl (pc0 := 76) (pc' := 178) rfl (hb hby at_76) (by decide) (by decide) ?_
        exact kt)
    obtain ⟨ex, T44, Lj44, X44, e44, NJ44, hex, pre45⟩ : ∃ (ex : Int32) (T44 : State) (Lj44 : List Loc), Stand p l e room_1 s m #[(.int qn), (.int qa), (.int qb), (.int qc), (.int qd)] below meth c T44 Lj44 4 8 ∧ T44.heap = T41.heap ∧ Fr n0 Lj44 ∧ ((ex = (1 : Int32) ∧ (own_dg dc2)) ∨ (ex = (0 : Int32) ∧ ¬ (own_dg dc2))) ∧ Goes p e below s₁ (entryFrame m #[(.int qn), (.int qa), (.int qb), (.int qc), (.int qd)] maxLocals) T44 (mkF m 239 #[.val (.int qn), .val (.int qa), .val (.int qb), .val (.int qc), .val (.int qd), .val (.int 1), .val (.int dc2), .val (.int dc5), .val (.int dc8), .val (.int dc11), .val (.ref b31), .unset] [(.int ex)]) := by
      have pre46 : Goes p e below s₁ (entryFrame m #[(.int qn), (.int qa), (.int qb), (.int qc), (.int qd)] maxLocals) T41 (mkF m 186 #[.val (.int qn), .val (.int qa), .val (.int qb), .val (.int qc), .val (.int qd), .val (.int 1), .val (.int dc2), .val (.int dc5), .val (.int dc8), .val (.int dc11), .val (.ref b31), .unset] [(.int dc2)]) := fun t kt => pre43 t (by
          show Steps p.tables e below (T41.setTop (mkF m 178 #[.val (.int qn), .val (.int qa), .val (.int qb), .val (.int qc), .val (.int qd), .val (.int 1), .val (.int dc2), .val (.int dc5), .val (.int dc8), .val (.int dc11), .val (.ref b31), .unset] [])) _
          refine XS.iload X41.here hx rfl (hb hby at_178) rfl ?_
          refine XS.iconst X41.here hx rfl (hb hby at_180) ?_
          show Steps p.tables e below (T41.setTop (mkF m 181 #[.val (.int qn), .val (.int qa), .val (.int qb), .val (.int qc), .val (.int qd), .val (.int 1), .val (.int dc2), .val (.int dc5), .val (.int dc8), .val (.int dc11), .val (.ref b31), .unset] [(.int 1), (.int 1)])) _
          refine XS.icmpNo X41.here hx rfl (hb hby at_181) rfl (flt (by decide : ¬ ((1 : Int32) < (1 : Int32)))).1 ?_
          refine XS.iload X41.here hx rfl (hb hby at_184) rfl ?_
          exact kt)
      obtain ⟨_, _, ⟨T47, L47, k47, n47⟩, -, X47, ⟨Lc47, hQ47, l47, y47, z47⟩, st47⟩ := Jvm.LawKit.callS X41 hx (y := (⟨"com/example/tallygate/tallygate/AddressLiteralsIsDecimalPinLaw", "digit", "(C)Z"⟩ : MethodName)) hown (mvT hZ (hw _ (own_mG (i := 52) rfl))) (mvT hZ (hw _ (own_mG (i := 53) rfl))) (mvT hZ (hw _ (own_mG (i := 3) rfl))) (mvT hZ (hw _ (own_mG (i := 54) rfl))) (by decide) (backOf (W := 0) (own_digit l Z a0 hw [] dc2 T41.heap n0 (Nat.le_trans (Nat.le_trans (Nat.le_trans (Nat.le_trans Z0 E31.1) E34.1) (Keep.of_wr W38).1) K41q.1) ) hZ (hw _ (own_mG (i := 54) rfl)) (hw _ (own_mG (i := 3) rfl)) (by decide) (by decide)) (g := (mkF m 186 #[.val (.int qn), .val (.int qa), .val (.int qb), .val (.int qc), .val (.int qd), .val (.int 1), .val (.int dc2), .val (.int dc5), .val (.int dc8), .val (.int dc11), .val (.ref b31), .unset] [(.int dc2)])) rfl (by rw [hml]; rfl) (argsL := [(.int dc2)]) (rest := []) (lenOf own_pd18 rfl) rfl (by show 2 * 0 + _ ≤ _; exact Nat.le_of_eq rfl) (hb hby at_186) (fun _ _ => ⟨rfl, rfl, (by decide : 4 + 0 ≤ _), (by decide : 8 + 0 ≤ _)⟩)
      dsimp only [Pt.U, Pt.locs, Pt.cells, Pt.slots] at X47 l47 y47 z47 st47 hQ47
      subst l47 y47 z47
      obtain ⟨dz47, rfl, N47q, e47, Hd47⟩ := hQ47
      have N47 := Fr.app N41 N47q
      have pre48 : Goes p e below s₁ (entryFrame m #[(.int qn), (.int qa), (.int qb), (.int qc), (.int qd)] maxLocals) T47 (mkF m 189 #[.val (.int qn), .val (.int qa), .val (.int qb), .val (.int qc), .val (.int qd), .val (.int 1), .val (.int dc2), .val (.int dc5), .val (.int dc8), .val (.int dc11), .val (.ref b31), .unset] [(.int dz47)]) := fun t kt => pre46 t (st47 t kt)
      rcases Hd47 with ⟨rfl, hd47⟩ | ⟨rfl, hd47⟩
      · -- digit 1
        have pre49 : Goes p e below s₁ (entryFrame m #[(.int qn), (.int qa), (.int qb), (.int qc), (.int qd)] maxLocals) T47 (mkF m 239 #[.val (.int qn), .val (.int qa), .val (.int qb), .val (.int qc), .val (.int qd), .val (.int 1), .val (.int dc2), .val (.int dc5), .val (.int dc8), .val (.int dc11), .val (.ref b31), .unset] [(.int 1)]) := fun t kt => pre48 t (by
            show Steps p.tables e below (T47.setTop (mkF m 189 #[.val (.int qn), .val (.int qa), .val (.int qb), .val (.int qc), .val (.int qd), .val (.int 1), .val (.int dc2), .val (.int dc5), .val (.int dc8), .val (.int dc11), .val (.ref b31), .unset] [(.int 1)])) _
            refine XS.ifNo X47.here hx rfl (hb hby at_189) rfl ((if0 _ _).trans (feq (by decide : ¬ ((1 : Int32) = (0 : Int32)))).1) ?_
            refine XS.iload X47.here hx rfl (hb hby at_192) rfl ?_
            show Steps p.tables e below (T47.setTop (mkF m 194 #[.val (.int qn), .val (.int qa), .val (.int qb), .val (.int qc), .val (.int qd), .val (.int 1), .val (.int dc2), .val (.int dc5), .val (.int dc8), .val (.int dc11), .val (.ref b31), .unset] [(.int 1)])) _
            refine XS.iconst X47.here hx rfl (hb hby at_194) ?_
            refine XS.icmpYes X47.here hx rfl (pc0 := 195) (pc' := 206) rfl (hb hby at_195) rfl (tlt (by decide : (1 : Int32) < (2 : Int32))).1 (by decide) (by decide) ?_
            show Steps p.tables e below (T47.setTop (mkF m 206 #[.val (.int qn), .val (.int qa), .val (.int qb), .val (.int qc), .val (.int qd), .val (.int 1), .val (.int dc2), .val (.int dc5), .val (.int dc8), .val (.int dc11), .val (.ref b31), .unset] [])) _
            refine XS.iload X47.here hx rfl (hb hby at_206) rfl ?_
            refine XS.iconst X47.here hx rfl (hb hby at_208) ?_
            show Steps p.tables e below (T47.setTop (mkF m 209 #[.val (.int qn), .val (.int qa), .val (.int qb), .val (.int qc), .val (.int qd), .val (.int 1), .val (.int dc2), .val (.int dc5), .val (.int dc8), .val (.int dc11), .val (.ref b31), .unset] [(.int 3), (.int 1)])) _
            refine XS.icmpYes X47.here hx rfl (pc0 := 209) (pc' := 220) rfl (hb hby at_209) rfl (tlt (by decide : (1 : Int32) < (3 : Int32))).1 (by decide) (by decide) ?_
            refine XS.iload X47.here hx rfl (hb hby at_220) rfl ?_
            show Steps p.tables e below (T47.setTop (mkF m 222 #[.val (.int qn), .val (.int qa), .val (.int qb), .val (.int qc), .val (.int qd), .val (.int 1), .val (.int dc2), .val (.int dc5), .val (.int dc8), .val (.int dc11), .val (.ref b31), .unset] [(.int 1)])) _
            refine XS.iconst X47.here hx rfl (hb hby at_222) ?_
            refine XS.icmpYes X47.here hx rfl (pc0 := 223) (pc' := 234) rfl (hb hby at_223) rfl (tlt (by decide : (1 : Int32) < (4 : Int32))).1 (by decide) (by decide) ?_
            show Steps p.tables e below (T47.setTop (mkF m 234 #[.val (.int qn), .val (.int qa), .val (.int qb), .val (.int qc), .val (.int qd), .val (.int 1), .val (.int dc2), .val (.int dc5), .val (.int dc8), .val (.int dc11), .val (.ref b31), .unset] [])) _
            refine XS.iconst X47.here hx rfl (hb hby at_234) ?_
            refine XS.goto X47.here hx rfl (pc0 := 235) (pc' := 239) rfl (hb hby at_235) (by decide) (by decide) ?_
            exact kt)
        exact ⟨(1 : Int32), T47, _, X47, e47, N47, (Or.inl ⟨rfl, hd47⟩), pre49⟩
      · -- digit 0
        have pre50 : Goes p e below s₁ (entryFrame m #[(.int qn), (.int qa), (.int qb), (.int qc), (.int qd)] maxLocals) T47 (mkF m 239 #[.val (.int qn), .val (.int qa), .val (.int qb), .val (.int qc), .val (.int qd), .val (.int 1), .val (.int dc2), .val (.int dc5), .val (.int dc8), .val (.int dc11), .val (.ref b31), .unset] [(.int 0)]) := fun t kt => pre48 t (by
            show Steps p.tables e below (T47.setTop (mkF m 189 #[.val (.int qn), .val (.int qa), .val (.int qb), .val (.int qc), .val (.int qd), .val (.int 1), .val (.int dc2), .val (.int dc5), .val (.int dc8), .val (.int dc11), .val (.ref b31), .unset] [(.int 0)])) _
            refine XS.ifYes X47.here hx rfl (pc0 := 189) (pc' := 238) rfl (hb hby at_189) rfl ((if0 _ _).trans (teq (by decide : (0 : Int32) = (0 : Int32))).1) (by decide) (by decide) ?_
            refine XS.iconst X47.here hx rfl (hb hby at_238) ?_
            exact kt)
        exact ⟨(0 : Int32), T47, _, X47, e47, N47, (Or.inr ⟨rfl, fun q => hd47 q⟩), pre50⟩
    have pre51 : Goes p e below s₁ (entryFrame m #[(.int qn), (.int qa), (.int qb), (.int qc), (.int qd)] maxLocals) T44 (mkF m 243 #[.val (.int qn), .val (.int qa), .val (.int qb), .val (.int qc), .val (.int qd), .val (.int 1), .val (.int dc2), .val (.int dc5), .val (.int dc8), .val (.int dc11), .val (.ref b31), .val (.int ex)] [(.ref b31)]) := fun t kt => pre45 t (by
        show Steps p.tables e below (T44.setTop (mkF m 239 #[.val (.int qn), .val (.int qa), .val (.int qb), .val (.int qc), .val (.int qd), .val (.int 1), .val (.int dc2), .val (.int dc5), .val (.int dc8), .val (.int dc11), .val (.ref b31), .unset] [(.int ex)])) _
        refine XS.istore X44.here hx rfl (hb hby at_239) rfl (l' := #[.val (.int qn), .val (.int qa), .val (.int qb), .val (.int qc), .val (.int qd), .val (.int 1), .val (.int dc2), .val (.int dc5), .val (.int dc8), .val (.int dc11), .val (.ref b31), .val (.int ex)]) rfl ?_
        refine XS.aload X44.here hx rfl (hb hby at_241) rfl rfl ?_
        exact kt)
    obtain ⟨_, _, ⟨T52, L52, k52, n52⟩, -, X52, ⟨Lc52, hQ52, l52, y52, z52⟩, st52⟩ := Jvm.LawKit.callS X44 hx (y := (⟨"com/example/tallygate/tallygate/AddressLiterals", "isDecimal", "(Ljava/lang/String;)Z"⟩ : MethodName)) hown (mvT hZ (hw _ (own_mG (i := 27) rfl))) (mvT hZ (hw _ (own_mG (i := 28) rfl))) (mvT hZ (hw _ (own_mG (i := 29) rfl))) (mvT hZ (hw _ (own_mG (i := 30) rfl))) (by decide) (backOf (W := 0) (own_dec1 l Z a0 hw [] b31 cd41 y41 ky41 dc2 cs fm T41.heap n0 (Nat.le_trans (Nat.le_trans (Nat.le_trans (Nat.le_trans Z0 E31.1) E34.1) (Keep.of_wr W38).1) K41q.1) Es41 Fc41 Fv41 SD41 hr2_ hst ((((O0.ext E31).ext E34).wr W38 g_b34).keep K41q (allS g_b31 all0))) hZ (hw _ (own_mG (i := 30) rfl)) (hw _ (own_mG (i := 29) rfl)) (by decide) (by decide)) (g := (mkF m 243 #[.val (.int qn), .val (.int qa), .val (.int qb), .val (.int qc), .val (.int qd), .val (.int 1), .val (.int dc2), .val (.int dc5), .val (.int dc8), .val (.int dc11), .val (.ref b31), .val (.int ex)] [(.ref b31)])) rfl (by rw [hml]; rfl) (argsL := [(.ref b31)]) (rest := []) (lenOf own_pd17 rfl) rfl (by show 2 * 0 + _ ≤ _; exact Nat.le_of_eq rfl) (hb hby at_243) (fun _ _ => ⟨rfl, e44, (by decide : 4 + 0 ≤ _), (by decide : 8 + 0 ≤ _)⟩)
    dsimp only [Pt.U, Pt.locs, Pt.cells, Pt.slots] at X52 l52 y52 z52 st52 hQ52
    subst l52 y52 z52
    obtain ⟨dr52, rfl, N52q, e52, Hr52⟩ := hQ52
    have N52 := Fr.app NJ44 N52q
    have pre53 : Goes p e below s₁ (entryFrame m #[(.int qn), (.int qa), (.int qb), (.int qc), (.int qd)] maxLocals) T52 (mkF m 246 #[.val (.int qn), .val (.int qa), .val (.int qb), .val (.int qc), .val (.int qd), .val (.int 1), .val (.int dc2), .val (.int dc5), .val (.int dc8), .val (.int dc11), .val (.ref b31), .val (.int ex)] [(.int dr52)]) := fun t kt => pre51 t (st52 t kt)
    have heq : dr52 = ex := by rcases Hr52 with ⟨q1, q2⟩ | ⟨q1, q2⟩ <;> rcases hex with ⟨q3, q4⟩ | ⟨q3, q4⟩ <;> first | exact q1.trans q3.symm | exact absurd q2 q4 | exact absurd q4 q2
    have pre54 : Goes p e below s₁ (entryFrame m #[(.int qn), (.int qa), (.int qb), (.int qc), (.int qd)] maxLocals) T52 (mkF m 256 #[.val (.int qn), .val (.int qa), .val (.int qb), .val (.int qc), .val (.int qd), .val (.int 1), .val (.int dc2), .val (.int dc5), .val (.int dc8), .val (.int dc11), .val (.ref b31), .val (.int ex)] [(.int 1)]) := fun t kt => pre53 t (by
        show Steps p.tables e below (T52.setTop (mkF m 246 #[.val (.int qn), .val (.int qa), .val (.int qb), .val (.int qc), .val (.int qd), .val (.int 1), .val (.int dc2), .val (.int dc5), .val (.int dc8), .val (.int dc11), .val (.ref b31), .val (.int ex)] [(.int dr52)])) _
        refine XS.iload X52.here hx rfl (hb hby at_246) rfl ?_
        refine XS.icmpNo X52.here hx rfl (hb hby at_248) rfl (teq heq).2 ?_
        show Steps p.tables e below (T52.setTop (mkF m 251 #[.val (.int qn), .val (.int qa), .val (.int qb), .val (.int qc), .val (.int qd), .val (.int 1), .val (.int dc2), .val (.int dc5), .val (.int dc8), .val (.int dc11), .val (.ref b31), .val (.int ex)] [])) _
        refine XS.iconst X52.here hx rfl (hb hby at_251) ?_
        refine XS.goto X52.here hx rfl (pc0 := 252) (pc' := 256) rfl (hb hby at_252) (by decide) (by decide) ?_
        exact kt)
    obtain ⟨fs, hr, hrun, hended, hW, hsame⟩ := X52.leave (v := some (.int 1)) (fun h => by rw [Bd.returns] at h; cases h)
    have hEnd := ReturnedEndW.of_narrow (o := .returned (some (.int 1))) ⟨_, rfl⟩ hW hsame
    refine ⟨_, _, pre54 _ ?_, hrun, hended, _, _, rfl, ?_, ?_, hEnd.1, hEnd.2.1, hEnd.2.2.1, hEnd.2.2.2.mono (by decide) (by decide)⟩
    · show Steps p.tables e below (T52.setTop (mkF m 256 #[.val (.int qn), .val (.int qa), .val (.int qb), .val (.int qc), .val (.int qd), .val (.int 1), .val (.int dc2), .val (.int dc5), .val (.int dc8), .val (.int dc11), .val (.ref b31), .val (.int ex)] [(.int 1)])) _
      exact retN X52 hx (t := .boolean) Bd.returns (by simp) (hb hby at_256) hr
    · show Q_own_rm0 Z qn qa qb qc qd cs fm h0 n0 _ T52.heap _
      rw [e52]
      exact ⟨rfl, N52⟩
    · show CHr Z [("java/lang/String", 7)] s.vm s.heap T52.vm T52.heap
      rw [hh, e52]
      exact CH41.trans (CHv.at (s := s) (vm0 := s.vm) X52 hZ hEL CH41.1)
  · -- n = 2
    rw [show ((qn &&& (2147483647 : Int32)) % (5 : Int32)) = (2 : Int32) from hk] at pre13
    have pre55 : Goes p e below s₁ (entryFrame m #[(.int qn), (.int qa), (.int qb), (.int qc), (.int qd)] maxLocals) T11 (mkF m 85 #[.val (.int qn), .val (.int qa), .val (.int qb), .val (.int qc), .val (.int qd), .val (.int 2), .val (.int dc2), .val (.int dc5), .val (.int dc8), .val (.int dc11), .unset, .unset] []) := fun t kt => pre13 t (by
        show Steps p.tables e below (T11.setTop (mkF m 33 #[.val (.int qn), .val (.int qa), .val (.int qb), .val (.int qc), .val (.int qd), .val (.int 2), .val (.int dc2), .val (.int dc5), .val (.int dc8), .val (.int dc11), .unset, .unset] [])) _
        refine XS.iload X11.here hx rfl (hb hby at_33) rfl ?_
        refine XS.ifYes X11.here hx rfl (pc0 := 35) (pc' := 53) rfl (hb hby at_35) rfl ((if0 _ _).trans (feq (by decide : ¬ ((2 : Int32) = (0 : Int32)))).2) (by decide) (by decide) ?_
        show Steps p.tables e below (T11.setTop (mkF m 53 #[.val (.int qn), .val (.int qa), .val (.int qb), .val (.int qc), .val (.int qd), .val (.int 2), .val (.int dc2), .val (.int dc5), .val (.int dc8), .val (.int dc11), .unset, .unset] [])) _
        refine XS.iload X11.here hx rfl (hb hby at_53) rfl ?_
        refine XS.iconst X11.here hx rfl (hb hby at_55) ?_
        show Steps p.tables e below (T11.setTop (mkF m 56 #[.val (.int qn), .val (.int qa), .val (.int qb), .val (.int qc), .val (.int qd), .val (.int 2), .val (.int dc2), .val (.int dc5), .val (.int dc8), .val (.int dc11), .unset, .unset] [(.int 1), (.int 2)])) _
        refine XS.icmpYes X11.here hx rfl (pc0 := 56) (pc' := 79) rfl (hb hby at_56) rfl (feq (by decide : ¬ ((2 : Int32) = (1 : Int32)))).2 (by decide) (by decide) ?_
        refine XS.iload X11.here hx rfl (hb hby at_79) rfl ?_
        show Steps p.tables e below (T11.setTop (mkF m 81 #[.val (.int qn), .val (.int qa), .val (.int qb), .val (.int qc), .val (.int qd), .val (.int 2), .val (.int dc2), .val (.int dc5), .val (.int dc8), .val (.int dc11), .unset, .unset] [(.int 2)])) _
        refine XS.iconst X11.here hx rfl (hb hby at_81) ?_
        refine XS.icmpNo X11.here hx rfl (hb hby at_82) rfl (teq (by decide : (2 : Int32) = (2 : Int32))).2 ?_
        exact kt)
    obtain ⟨T56, h56, X56, e56, E56, A56, DD56, -, st56⟩ := newO X11 hx hZ hown (hw _ (own_mG (i := 5) rfl)) (hw _ (own_mG (i := 6) rfl)) (hw _ (own_mG (i := 7) rfl)) e11 (g := (mkF m 85 #[.val (.int qn), .val (.int qa), .val (.int qb), .val (.int qc), .val (.int qd), .val (.int 2), .val (.int dc2), .val (.int dc5), .val (.int dc8), .val (.int dc11), .unset, .unset] [])) rfl (hb hby at_85) (by decide) (by decide)
    obtain ⟨b56, g56⟩ : ∃ z, z = h0.size := ⟨_, rfl⟩
    rw [← g56] at A56 DD56 st56
    have F_value_b56 : Fld Z h56 b56 "java/lang/String" "value" "[B" .null := DD56 (Or.inr (hw _ (own_mG (i := 21) rfl))) (ty := (.array .byte)) (by decide)
    have F_coder_b56 : Fld Z h56 b56 "java/lang/String" "coder" "B" (.int 0) := DD56 (Or.inr (hw _ (own_mG (i := 22) rfl))) (ty := .byte) (by decide)
    have g_b56 : n0 ≤ b56 := Nat.le_trans Z0 (Nat.le_of_eq g56.symm)
    have sz_b56 : h0.size ≤ b56 := (Nat.le_trans (Keep.refl h0 []).1 (Nat.le_of_eq g56.symm))
    have K56 : Keep h0 h56 [] := (Keep.refl h0 []).ext E56
    have CH56 : CHr Z [("java/lang/String", 7)] s.vm h0 s.vm h56 := CH0.trans (CHr.ext E56 CH0.1)
    have pre57 : Goes p e below s₁ (entryFrame m #[(.int qn), (.int qa), (.int qb), (.int qc), (.int qd)] maxLocals) T56 (mkF m 88 #[.val (.int qn), .val (.int qa), .val (.int qb), .val (.int qc), .val (.int qd), .val (.int 2), .val (.int dc2), .val (.int dc5), .val (.int dc8), .val (.int dc11), .unset, .unset] [(.ref b56)]) := fun t kt => pre55 t (st56 t kt)
    have pre58 : Goes p e below s₁ (entryFrame m #[(.int qn), (.int qa), (.int qb), (.int qc), (.int qd)] maxLocals) T56 (mkF m 90 #[.val (.int qn), .val (.int qa), .val (.int qb), .val (.int qc), .val (.int qd), .val (.int 2), .val (.int dc2), .val (.int dc5), .val (.int dc8), .val (.int dc11), .unset, .unset] [(.int 2), (.ref b56), (.ref b56)]) := fun t kt => pre57 t (by
        show Steps p.tables e below (T56.setTop (mkF m 88 #[.val (.int qn), .val (.int qa), .val (.int qb), .val (.int qc), .val (.int qd), .val (.int 2), .val (.int dc2), .val (.int dc5), .val (.int dc8), .val (.int dc11), .unset, .unset] [(.ref b56)])) _
        refine XS.dup X56.here hx rfl (hb hby at_88) rfl rfl ?_
        refine XS.iconst X56.here hx rfl (hb hby at_89) ?_
        exact kt)
    obtain ⟨T59, h59, k59, X59, e59, E59, A59, st59⟩ := newP X56 hx hZ (hw _ (own_mG (i := 8) rfl)) e56 (g := (mkF m 90 #[.val (.int qn), .val (.int qa), .val (.int qb), .val (.int qc), .val (.int qd), .val (.int 2), .val (.int dc2), .val (.int dc5), .val (.int dc8), .val (.int dc11), .unset, .unset] [(.int 2), (.ref b56), (.ref b56)])) rfl (hb hby at_90) rfl (by decide) (cap := 2) (by decide) (by decide) (by decide) (by decide)
    obtain ⟨b59, g59⟩ : ∃ z, z = h56.size := ⟨_, rfl⟩
    rw [← g59] at A59 st59
    have V_b59 : Arv Z h59 b59 k59 .char (2 : Int32) [(.int 0), (.int 0)] (.int 0) := (Arv.new A59 (by decide)).pad (pad_rep [] (.int 0) 2)
    have g_b59 : n0 ≤ b59 := Nat.le_trans (Nat.le_trans Z0 E56.1) (Nat.le_of_eq g59.symm)
    have sz_b59 : h0.size ≤ b59 := (Nat.le_trans K56.1 (Nat.le_of_eq g59.symm))
    have K59 : Keep h0 h59 [] := K56.ext E59
    have CH59 : CHr Z [("java/lang/String", 7)] s.vm h0 s.vm h59 := CH56.trans (CHr.ext E59 CH56.1)
    have pre60 : Goes p e below s₁ (entryFrame m #[(.int qn), (.int qa), (.int qb), (.int qc), (.int qd)] maxLocals) T59 (mkF m 92 #[.val (.int qn), .val (.int qa), .val (.int qb), .val (.int qc), .val (.int qd), .val (.int 2), .val (.int dc2), .val (.int dc5), .val (.int dc8), .val (.int dc11), .unset, .unset] [(.ref b59), (.ref b56), (.ref b56)]) := fun t kt => pre58 t (st59 t kt)
    have pre61 : Goes p e below s₁ (entryFrame m #[(.int qn), (.int qa), (.int qb), (.int qc), (.int qd)] maxLocals) T59 (mkF m 96 #[.val (.int qn), .val (.int qa), .val (.int qb), .val (.int qc), .val (.int qd), .val (.int 2), .val (.int dc2), .val (.int dc5), .val (.int dc8), .val (.int dc11), .unset, .unset] [(.int dc2), (.int 0), (.ref b59), (.ref b59), (.ref b56), (.ref b56)]) := fun t kt => pre60 t (by
        show Steps p.tables e below (T59.setTop (mkF m 92 #[.val (.int qn), .val (.int qa), .val (.int qb), .val (.int qc), .val (.int qd), .val (.int 2), .val (.int dc2), .val (.int dc5), .val (.int dc8), .val (.int dc11), .unset, .unset] [(.ref b59), (.ref b56), (.ref b56)])) _
        refine XS.dup X59.here hx rfl (hb hby at_92) rfl rfl ?_
        refine XS.iconst X59.here hx rfl (hb hby at_93) ?_
        show Steps p.tables e below (T59.setTop (mkF m 94 #[.val (.int qn), .val (.int qa), .val (.int qb), .val (.int qc), .val (.int qd), .val (.int 2), .val (.int dc2), .val (.int dc5), .val (.int dc8), .val (.int dc11), .unset, .unset] [(.int 0), (.ref b59), (.ref b59), (.ref b56), (.ref b56)])) _
        refine XS.iload X59.here hx rfl (hb hby at_94) rfl ?_
        exact kt)
    obtain ⟨cl62, Ar62, q62, S62, N_62, H62, G62⟩ := (id (V_b59))
    have hin62 : ¬ ((0 : Int32) < 0 ∨ cl62.slots.size ≤ ((0 : Int32)).toNatClampNeg) := inb_of S62 ⟨by decide, by decide⟩
    obtain ⟨T63, h63, X63, e63, W63, st63⟩ := stC X59 hx hZ e59 Ar62 (j := (0 : Int32)) hin62 (g := (mkF m 96 #[.val (.int qn), .val (.int qa), .val (.int qb), .val (.int qc), .val (.int qd), .val (.int 2), .val (.int dc2), .val (.int dc5), .val (.int dc8), .val (.int dc11), .unset, .unset] [(.int dc2), (.int 0), (.ref b59), (.ref b59), (.ref b56), (.ref b56)])) rfl rfl (hb hby at_96)
    have V63 : Arv Z h63 b59 k59 .char (2 : Int32) [(.int (nar .char dc2)), (.int 0)] (.int 0) := Arv.set Ar62 q62 S62 N_62 H62 G62 (fits_nar_char _) W63 0 rfl (Nat.le_of_ble_eq_true rfl)
    have K63 : Keep h0 h63 [] := K59.wr W63 (Or.inr sz_b59)
    have CH63 : CHr Z [("java/lang/String", 7)] s.vm h0 s.vm h63 := CH59.trans (CHr.wr W63 (own_safeV hZ.alike V_b59 (by decide)) CH59.1)
    have N63 := Fr.snoc X63 N11 g_b59
    have pre64 : Goes p e below s₁ (entryFrame m #[(.int qn), (.int qa), (.int qb), (.int qc), (.int qd)] maxLocals) T63 (mkF m 97 #[.val (.int qn), .val (.int qa), .val (.int qb), .val (.int qc), .val (.int qd), .val (.int 2), .val (.int dc2), .val (.int dc5), .val (.int dc8), .val (.int dc11), .unset, .unset] [(.ref b59), (.ref b56), (.ref b56)]) := fun t kt => pre61 t (st63 t kt)
    have pre65 : Goes p e below s₁ (entryFrame m #[(.int qn), (.int qa), (.int qb), (.int qc), (.int qd)] maxLocals) T63 (mkF m 101 #[.val (.int qn), .val (.int qa), .val (.int qb), .val (.int qc), .val (.int qd), .val (.int 2), .val (.int dc2), .val (.int dc5), .val (.int dc8), .val (.int dc11), .unset, .unset] [(.int dc5), (.int 1), (.ref b59), (.ref b59), (.ref b56), (.ref b56)]) := fun t kt => pre64 t (by
        show Steps p.tables e below (T63.setTop (mkF m 97 #[.val (.int qn), .val (.int qa), .val (.int qb), .val (.int qc), .val (.int qd), .val (.int 2), .val (.int dc2), .val (.int dc5), .val (.int dc8), .val (.int dc11), .unset, .unset] [(.ref b59), (.ref b56), (.ref b56)])) _
        refine XS.dup X63.here hx rfl (hb hby at_97) rfl rfl ?_
        refine XS.iconst X63.here hx rfl (hb hby at_98) ?_
        show Steps p.tables e below (T63.setTop (mkF m 99 #[.val (.int qn), .val (.int qa), .val (.int qb), .val (.int qc), .val (.int qd), .val (.int 2), .val (.int dc2), .val (.int dc5), .val (.int dc8), .val (.int dc11), .unset, .unset] [(.int 1), (.ref b59), (.ref b59), (.ref b56), (.ref b56)])) _
        refine XS.iload X63.here hx rfl (hb hby at_99) rfl ?_
        exact kt)
    obtain ⟨cl66, Ar66, q66, S66, N_66, H66, G66⟩ := (id (V63))
    have hin66 : ¬ ((1 : Int32) < 0 ∨ cl66.slots.size ≤ ((1 : Int32)).toNatClampNeg) := inb_of S66 ⟨by decide, by decide⟩
    obtain ⟨T67, h67, X67, e67, W67, st67⟩ := stC X63 hx hZ e63 Ar66 (j := (1 : Int32)) hin66 (g := (mkF m 101 #[.val (.int qn), .val (.int qa), .val (.int qb), .val (.int qc), .val (.int qd), .val (.int 2), .val (.int dc2), .val (.int dc5), .val (.int dc8), .val (.int dc11), .unset, .unset] [(.int dc5), (.int 1), (.ref b59), (.ref b59), (.ref b56), (.ref b56)])) rfl rfl (hb hby at_101)
    have V67 : Arv Z h67 b59 k59 .char (2 : Int32) [(.int (nar .char dc2)), (.int (nar .char dc5))] (.int 0) := Arv.set Ar66 q66 S66 N_66 H66 G66 (fits_nar_char _) W67 1 rfl (Nat.le_of_ble_eq_true rfl)
    have K67 : Keep h0 h67 [] := K63.wr W67 (Or.inr sz_b59)
    have CH67 : CHr Z [("java/lang/String", 7)] s.vm h0 s.vm h67 := CH63.trans (CHr.wr W67 (own_safeV hZ.alike V63 (by decide)) CH63.1)
    have N67 := Fr.snoc X67 N63 g_b59
    have pre68 : Goes p e below s₁ (entryFrame m #[(.int qn), (.int qa), (.int qb), (.int qc), (.int qd)] maxLocals) T67 (mkF m 102 #[.val (.int qn), .val (.int qa), .val (.int qb), .val (.int qc), .val (.int qd), .val (.int 2), .val (.int dc2), .val (.int dc5), .val (.int dc8), .val (.int dc11), .unset, .unset] [(.ref b59), (.ref b56), (.ref b56)]) := fun t kt => pre65 t (st67 t kt)
    have VV69 : Arv Z h67 b59 k59 .char (2 : Int32) [(.int dc2), (.int dc5)] (.int 0) := by have q := V67; simp only [own_nc dc2 hr2_, own_nc dc5 hr5_] at q; exact q
    obtain ⟨_, _, ⟨T70, L70, k70, n70⟩, -, X70, ⟨Lc70, hQ70, l70, y70, z70⟩, st70⟩ := X67.specialBack hx (y := (⟨"java/lang/String", "<init>", "([C)V"⟩ : MethodName)) rfl hown (mvT hZ (hw _ (own_mG (i := 9) rfl))) (mvT hZ (hw _ (own_mG (i := 10) rfl))) (mvT hZ (hw _ (own_mG (i := 11) rfl))) (by decide) (backOf (W := 1) (own_sJ2 l Z a0 hw [] b56 b59 k59 _ _ dc2 dc5 cs fm h67 n0 (Nat.le_trans (Nat.le_trans (Nat.le_trans (Nat.le_trans Z0 E56.1) E59.1) (Keep.of_wr W63).1) (Keep.of_wr W67).1) (((A56.ext E59).wr W63).wr W67) (((F_value_b56.ext E59).other W63 (Or.inl (Nat.ne_of_lt (Nat.lt_of_lt_of_le F_value_b56.lt (Nat.le_of_eq g59.symm))))).other W67 (Or.inl (Nat.ne_of_lt (Nat.lt_of_lt_of_le F_value_b56.lt (Nat.le_of_eq g59.symm))))) (((F_coder_b56.ext E59).other W63 (Or.inl (Nat.ne_of_lt (Nat.lt_of_lt_of_le F_value_b56.lt (Nat.le_of_eq g59.symm))))).other W67 (Or.inl (Nat.ne_of_lt (Nat.lt_of_lt_of_le F_value_b56.lt (Nat.le_of_eq g59.symm))))) g_b56 VV69 hr2_ hr5_ hst ((((O0.ext E56).ext E59).wr W63 g_b59).wr W67 g_b59)) hZ (hw _ (own_mG (i := 11) rfl)) (hw _ (own_mG (i := 7) rfl)) (by decide) (by decide)) (g := (mkF m 102 #[.val (.int qn), .val (.int qa), .val (.int qb), .val (.int qc), .val (.int qd), .val (.int 2), .val (.int dc2), .val (.int dc5), .val (.int dc8), .val (.int dc11), .unset, .unset] [(.ref b59), (.ref b56), (.ref b56)])) rfl (by rw [hml]; rfl) (Steps.refl _) (a := b56) (argsL := [(.ref b59)]) (rest := [(.ref b56)]) (lenOf own_pd16 rfl) rfl (by show 2 * 0 + _ ≤ _; exact Nat.le_of_eq rfl) (hb hby at_102) (fun _ _ => ⟨rfl, e67, (by decide : 2 + 2 ≤ _), (by decide : 6 + 6 ≤ _)⟩)
    dsimp only [Pt.U, Pt.locs, Pt.cells, Pt.slots] at X70 l70 y70 z70 st70 hQ70
    subst l70 y70 z70
    obtain ⟨rfl, N70q, K70q, Es70, cd70, y70, ky70, Fc70, Fv70, SD70⟩ := hQ70
    have N70 := Fr.app N67 N70q
    have KC70 : Keep h0 T70.heap [] := K67.trans K70q (allS (Or.inr sz_b56) all0)
    have CH70 : CHr Z [("java/lang/String", 7)] s.vm h0 s.vm T70.heap := CH67.trans (CHr.keep K70q (allS (own_safe hZ.alike (((A56.ext E59).wr W63).wr W67) (((F_value_b56.ext E59).other W63 (Or.inl (Nat.ne_of_lt (Nat.lt_of_lt_of_le F_value_b56.lt (Nat.le_of_eq g59.symm))))).other W67 (Or.inl (Nat.ne_of_lt (Nat.lt_of_lt_of_le F_value_b56.lt (Nat.le_of_eq g59.symm)))))) all0) CH67.1)
    have pre71 : Goes p e below s₁ (entryFrame m #[(.int qn), (.int qa), (.int qb), (.int qc), (.int qd)] maxLocals) T70 (mkF m 105 #[.val (.int qn), .val (.int qa), .val (.int qb), .val (.int qc), .val (.int qd), .val (.int 2), .val (.int dc2), .val (.int dc5), .val (.int dc8), .val (.int dc11), .unset, .unset] [(.ref b56)]) := fun t kt => pre68 t (st70.trans kt)
    have pre72 : Goes p e below s₁ (entryFrame m #[(.int qn), (.int qa), (.int qb), (.int qc), (.int qd)] maxLocals) T70 (mkF m 178 #[.val (.int qn), .val (.int qa), .val (.int qb), .val (.int qc), .val (.int qd), .val (.int 2), .val (.int dc2), .val (.int dc5), .val (.int dc8), .val (.int dc11), .val (.ref b56), .unset] []) := fun t kt => pre71 t (by
        show Steps p.tables e below (T70.setTop (mkF m 105 #[.val (.int qn), .val (.int qa), .val (.int qb), .val (.int qc), .val (.int qd), .val (.int 2), .val (.int dc2), .val (.int dc5), .val (.int dc8), .val (.int dc11), .unset, .unset] [(.ref b56)])) _
        refine XS.astore X70.here hx rfl (hb hby at_105) rfl rfl (l' := #[.val (.int qn), .val (.int qa), .val (.int qb), .val (.int qc), .val (.int qd), .val (.int 2), .val (.int dc2), .val (.int dc5), .val (.int dc8), .val (.int dc11), .val (.ref b56), .unset]) rfl ?_
        refine XS.goto X70.here hx rfl (pc0 := 107) (pc' := 178) rfl (hb hby at_107) (by decide) (by decide) ?_
        exact kt)
    obtain ⟨ex, T73, Lj73, X73, e73, NJ73, hex, pre74⟩ : ∃ (ex : Int32) (T73 : State) (Lj73 : List Loc), Stand p l e room_1 s m #[(.int qn), (.int qa), (.int qb), (.int qc), (.int qd)] below meth c T73 Lj73 4 12 ∧ T73.heap = T70.heap ∧ Fr n0 Lj73 ∧ ((ex = (1 : Int32) ∧ (own_dg dc2 ∧ own_dg dc5)) ∨ (ex = (0 : Int32) ∧ ¬ (own_dg dc2 ∧ own_dg dc5))) ∧ Goes p e below s₁ (entryFrame m #[(.int qn), (.int qa), (.int qb), (.int qc), (.int qd)] maxLocals) T73 (mkF m 239 #[.val (.int qn), .val (.int qa), .val (.int qb), .val (.int qc), .val (.int qd), .val (.int 2), .val (.int dc2), .val (.int dc5), .val (.int dc8), .val (.int dc11), .val (.ref b56), .unset] [(.int ex)]) := by
      have pre75 : Goes p e below s₁ (entryFrame m #[(.int qn), (.int qa), (.int qb), (.int qc), (.int qd)] maxLocals) T70 (mkF m 186 #[.val (.int qn), .val (.int qa), .val (.int qb), .val (.int qc), .val (.int qd), .val (.int 2), .val (.int dc2), .val (.int dc5), .val (.int dc8), .val (.int dc11), .val (.ref b56), .unset] [(.int dc2)]) := fun t kt => pre72 t (by
          show Steps p.tables e below (T70.setTop (mkF m 178 #[.val (.int qn), .val (.int qa), .val (.int qb), .val (.int qc), .val (.int qd), .val (.int 2), .val (.int dc2), .val (.int dc5), .val (.int dc8), .val (.int dc11), .val (.ref b56), .unset] [])) _
          refine XS.iload X70.here hx rfl (hb hby at_178) rfl ?_
          refine XS.iconst X70.here hx rfl (hb hby at_180) ?_
          show Steps p.tables e below (T70.setTop (mkF m 181 #[.val (.int qn), .val (.int qa), .val (.int qb), .val (.int qc), .val (.int qd), .val (.int 2), .val (.int dc2), .val (.int dc5), .val (.int dc8), .val (.int dc11), .val (.ref b56), .unset] [(.int 1), (.int 2)])) _
          refine XS.icmpNo X70.here hx rfl (hb hby at_181) rfl (flt (by decide : ¬ ((2 : Int32) < (1 : Int32)))).1 ?_
          refine XS.iload X70.here hx rfl (hb hby at_184) rfl ?_
          exact kt)
      obtain ⟨_, _, ⟨T76, L76, k76, n76⟩, -, X76, ⟨Lc76, hQ76, l76, y76, z76⟩, st76⟩ := Jvm.LawKit.callS X70 hx (y := (⟨"com/example/tallygate/tallygate/AddressLiteralsIsDecimalPinLaw", "digit", "(C)Z"⟩ : MethodName)) hown (mvT hZ (hw _ (own_mG (i := 52) rfl))) (mvT hZ (hw _ (own_mG (i := 53) rfl))) (mvT hZ (hw _ (own_mG (i := 3) rfl))) (mvT hZ (hw _ (own_mG (i := 54) rfl))) (by decide) (backOf (W := 0) (own_digit l Z a0 hw [] dc2 T70.heap n0 (Nat.le_trans (Nat.le_trans (Nat.le_trans (Nat.le_trans (Nat.le_trans Z0 E56.1) E59.1) (Keep.of_wr W63).1) (Keep.of_wr W67).1) K70q.1) ) hZ (hw _ (own_mG (i := 54) rfl)) (hw _ (own_mG (i := 3) rfl)) (by decide) (by decide)) (g := (mkF m 186 #[.val (.int qn), .val (.int qa), .val (.int qb), .val (.int qc), .val (.int qd), .val (.int 2), .val (.int dc2), .val (.int dc5), .val (.int dc8), .val (.int dc11), .val (.ref b56), .unset] [(.int dc2)])) rfl (by rw [hml]; rfl) (argsL := [(.int dc2)]) (rest := []) (lenOf own_pd18 rfl) rfl (by show 2 * 0 + _ ≤ _; exact Nat.le_of_eq rfl) (hb hby at_186) (fun _ _ => ⟨rfl, rfl, (by decide : 4 + 0 ≤ _), (by decide : 12 + 0 ≤ _)⟩)
      dsimp only [Pt.U, Pt.locs, Pt.cells, Pt.slots] at X76 l76 y76 z76 st76 hQ76
      subst l76 y76 z76
      obtain ⟨dz76, rfl, N76q, e76, Hd76⟩ := hQ76
      have N76 := Fr.app N70 N76q
      have pre77 : Goes p e below s₁ (entryFrame m #[(.int qn), (.int qa), (.int qb), (.int qc), (.int qd)] maxLocals) T76 (mkF m 189 #[.val (.int qn), .val (.int qa), .val (.int qb), .val (.int qc), .val (.int qd), .val (.int 2), .val (.int dc2), .val (.int dc5), .val (.int dc8), .val (.int dc11), .val (.ref b56), .unset] [(.int dz76)]) := fun t kt => pre75 t (st76 t kt)
      rcases Hd76 with ⟨rfl, hd76⟩ | ⟨rfl, hd76⟩
      · -- digit 1
        have pre78 : Goes p e below s₁ (entryFrame m #[(.int qn), (.int qa), (.int qb), (.int qc), (.int qd)] maxLocals) T76 (mkF m 200 #[.val (.int qn), .val (.int qa), .val (.int qb), .val (.int qc), .val (.int qd), .val (.int 2), .val (.int dc2), .val (.int dc5), .val (.int dc8), .val (.int dc11), .val (.ref b56), .unset] [(.int dc5)]) := fun t kt => pre77 t (by
            show Steps p.tables e below (T76.setTop (mkF m 189 #[.val (.int qn), .val (.int qa), .val (.int qb), .val (.int qc), .val (.int qd), .val (.int 2), .val (.int dc2), .val (.int dc5), .val (.int dc8), .val (.int dc11), .val (.ref b56), .unset] [(.int 1)])) _
            refine XS.ifNo X76.here hx rfl (hb hby at_189) rfl ((if0 _ _).trans (feq (by decide : ¬ ((1 : Int32) = (0 : Int32)))).1) ?_
            refine XS.iload X76.here hx rfl (hb hby at_192) rfl ?_
            show Steps p.tables e below (T76.setTop (mkF m 194 #[.val (.int qn), .val (.int qa), .val (.int qb), .val (.int qc), .val (.int qd), .val (.int 2), .val (.int dc2), .val (.int dc5), .val (.int dc8), .val (.int dc11), .val (.ref b56), .unset] [(.int 2)])) _
            refine XS.iconst X76.here hx rfl (hb hby at_194) ?_
            refine XS.icmpNo X76.here hx rfl (hb hby at_195) rfl (flt (by decide : ¬ ((2 : Int32) < (2 : Int32)))).1 ?_
            show Steps p.tables e below (T76.setTop (mkF m 198 #[.val (.int qn), .val (.int qa), .val (.int qb), .val (.int qc), .val (.int qd), .val (.int 2), .val (.int dc2), .val (.int dc5), .val (.int dc8), .val (.int dc11), .val (.ref b56), .unset] [])) _
            refine XS.iload X76.here hx rfl (hb hby at_198) rfl ?_
            exact kt)
        obtain ⟨_, _, ⟨T79, L79, k79, n79⟩, -, X79, ⟨Lc79, hQ79, l79, y79, z79⟩, st79⟩ := Jvm.LawKit.callS X76 hx (y := (⟨"com/example/tallygate/tallygate/AddressLiteralsIsDecimalPinLaw", "digit", "(C)Z"⟩ : MethodName)) hown (mvT hZ (hw _ (own_mG (i := 52) rfl))) (mvT hZ (hw _ (own_mG (i := 53) rfl))) (mvT hZ (hw _ (own_mG (i := 3) rfl))) (mvT hZ (hw _ (own_mG (i := 54) rfl))) (by decide) (backOf (W := 0) (own_digit l Z a0 hw [] dc5 T70.heap n0 (Nat.le_trans (Nat.le_trans (Nat.le_trans (Nat.le_trans (Nat.le_trans Z0 E56.1) E59.1) (Keep.of_wr W63).1) (Keep.of_wr W67).1) K70q.1) ) hZ (hw _ (own_mG (i := 54) rfl)) (hw _ (own_mG (i := 3) rfl)) (by decide) (by decide)) (g := (mkF m 200 #[.val (.int qn), .val (.int qa), .val (.int qb), .val (.int qc), .val (.int qd), .val (.int 2), .val (.int dc2), .val (.int dc5), .val (.int dc8), .val (.int dc11), .val (.ref b56), .unset] [(.int dc5)])) rfl (by rw [hml]; rfl) (argsL := [(.int dc5)]) (rest := []) (lenOf own_pd18 rfl) rfl (by show 2 * 0 + _ ≤ _; exact Nat.le_of_eq rfl) (hb hby at_200) (fun _ _ => ⟨rfl, e76, (by decide : 4 + 0 ≤ _), (by decide : 12 + 0 ≤ _)⟩)
        dsimp only [Pt.U, Pt.locs, Pt.cells, Pt.slots] at X79 l79 y79 z79 st79 hQ79
        subst l79 y79 z79
        obtain ⟨dz79, rfl, N79q, e79, Hd79⟩ := hQ79
        have N79 := Fr.app N76 N79q
        have pre80 : Goes p e below s₁ (entryFrame m #[(.int qn), (.int qa), (.int qb), (.int qc), (.int qd)] maxLocals) T79 (mkF m 203 #[.val (.int qn), .val (.int qa), .val (.int qb), .val (.int qc), .val (.int qd), .val (.int 2), .val (.int dc2), .val (.int dc5), .val (.int dc8), .val (.int dc11), .val (.ref b56), .unset] [(.int dz79)]) := fun t kt => pre78 t (st79 t kt)
        rcases Hd79 with ⟨rfl, hd79⟩ | ⟨rfl, hd79⟩
        · -- digit 1
          have pre81 : Goes p e below s₁ (entryFrame m #[(.int qn), (.int qa), (.int qb), (.int qc), (.int qd)] maxLocals) T79 (mkF m 239 #[.val (.int qn), .val (.int qa), .val (.int qb), .val (.int qc), .val (.int qd), .val (.int 2), .val (.int dc2), .val (.int dc5), .val (.int dc8), .val (.int dc11), .val (.ref b56), .unset] [(.int 1)]) := fun t kt => pre80 t (by
              show Steps p.tables e below (T79.setTop (mkF m 203 #[.val (.int qn), .val (.int qa), .val (.int qb), .val (.int qc), .val (.int qd), .val (.int 2), .val (.int dc2), .val (.int dc5), .val (.int dc8), .val (.int dc11), .val (.ref b56), .unset] [(.int 1)])) _
              refine XS.ifNo X79.here hx rfl (hb hby at_203) rfl ((if0 _ _).trans (feq (by decide : ¬ ((1 : Int32) = (0 : Int32)))).1) ?_
              refine XS.iload X79.here hx rfl (hb hby at_206) rfl ?_
              show Steps p.tables e below (T79.setTop (mkF m 208 #[.val (.int qn), .val (.int qa), .val (.int qb), .val (.int qc), .val (.int qd), .val (.int 2), .val (.int dc2), .val (.int dc5), .val (.int dc8), .val (.int dc11), .val (.ref b56), .unset] [(.int 2)])) _
              refine XS.iconst X79.here hx rfl (hb hby at_208) ?_
              refine XS.icmpYes X79.here hx rfl (pc0 := 209) (pc' := 220) rfl (hb hby at_209) rfl (tlt (by decide : (2 : Int32) < (3 : Int32))).1 (by decide) (by decide) ?_
              show Steps p.tables e below (T79.setTop (mkF m 220 #[.val (.int qn), .val (.int qa), .val (.int qb), .val (.int qc), .val (.int qd), .val (.int 2), .val (.int dc2), .val (.int dc5), .val (.int dc8), .val (.int dc11), .val (.ref b56), .unset] [])) _
              refine XS.iload X79.here hx rfl (hb hby at_220) rfl ?_
              refine XS.iconst X79.here hx rfl (hb hby at_222) ?_
              show Steps p.tables e below (T79.setTop (mkF m 223 #[.val (.int qn), .val (.int qa), .val (.int qb), .val (.int qc), .val (.int qd), .val (.int 2), .val (.int dc2), .val (.int dc5), .val (.int dc8), .val (.int dc11), .val (.ref b56), .unset] [(.int 4), (.int 2)])) _
              refine XS.icmpYes X79.here hx rfl (pc0 := 223) (pc' := 234) rfl (hb hby at_223) rfl (tlt (by decide : (2 : Int32) < (4 : Int32))).1 (by decide) (by decide) ?_
              refine XS.iconst X79.here hx rfl (hb hby at_234) ?_
              show Steps p.tables e below (T79.setTop (mkF m 235 #[.val (.int qn), .val (.int qa), .val (.int qb), .val (.int qc), .val (.int qd), .val (.int 2), .val (.int dc2), .val (.int dc5), .val (.int dc8), .val (.int dc11), .val (.ref b56), .unset] [(.int 1)])) _
              refine XS.goto X79.here hx rfl (pc0 := 235) (pc' := 239) rfl (hb hby at_235) (by decide) (by decide) ?_
              exact kt)
          exact ⟨(1 : Int32), T79, _, X79, e79, N79, (Or.inl ⟨rfl, hd76, hd79⟩), pre81⟩
        · -- digit 0
          have pre82 : Goes p e below s₁ (entryFrame m #[(.int qn), (.int qa), (.int qb), (.int qc), (.int qd)] maxLocals) T79 (mkF m 239 #[.val (.int qn), .val (.int qa), .val (.int qb), .val (.int qc), .val (.int qd), .val (.int 2), .val (.int dc2), .val (.int dc5), .val (.int dc8), .val (.int dc11), .val (.ref b56), .unset] [(.int 0)]) := fun t kt => pre80 t (by
              show Steps p.tables e below (T79.setTop (mkF m 203 #[.val (.int qn), .val (.int qa), .val (.int qb), .val (.int qc), .val (.int qd), .val (.int 2), .val (.int dc2), .val (.int dc5), .val (.int dc8), .val (.int dc11), .val (.ref b56), .unset] [(.int 0)])) _
              refine XS.ifYes X79.here hx rfl (pc0 := 203) (pc' := 238) rfl (hb hby at_203) rfl ((if0 _ _).trans (teq (by decide : (0 : Int32) = (0 : Int32))).1) (by decide) (by decide) ?_
              refine XS.iconst X79.here hx rfl (hb hby at_238) ?_
              exact kt)
          exact ⟨(0 : Int32), T79, _, X79, e79, N79, (Or.inr ⟨rfl, fun q => hd79 q.2⟩), pre82⟩
      · -- digit 0
        have pre83 : Goes p e below s₁ (entryFrame m #[(.int qn), (.int qa), (.int qb), (.int qc), (.int qd)] maxLocals) T76 (mkF m 239 #[.val (.int qn), .val (.int qa), .val (.int qb), .val (.int qc), .val (.int qd), .val (.int 2), .val (.int dc2), .val (.int dc5), .val (.int dc8), .val (.int dc11), .val (.ref b56), .unset] [(.int 0)]) := fun t kt => pre77 t (by
            show Steps p.tables e below (T76.setTop (mkF m 189 #[.val (.int qn), .val (.int qa), .val (.int qb), .val (.int qc), .val (.int qd), .val (.int 2), .val (.int dc2), .val (.int dc5), .val (.int dc8), .val (.int dc11), .val (.ref b56), .unset] [(.int 0)])) _
            refine XS.ifYes X76.here hx rfl (pc0 := 189) (pc' := 238) rfl (hb hby at_189) rfl ((if0 _ _).trans (teq (by decide : (0 : Int32) = (0 : Int32))).1) (by decide) (by decide) ?_
            refine XS.iconst X76.here hx rfl (hb hby at_238) ?_
            exact kt)
        exact ⟨(0 : Int32), T76, _, X76, e76, N76, (Or.inr ⟨rfl, fun q => hd76 q.1⟩), pre83⟩
    have pre84 : Goes p e below s₁ (entryFrame m #[(.int qn), (.int qa), (.int qb), (.int qc), (.int qd)] maxLocals) T73 (mkF m 243 #[.val (.int qn), .val (.int qa), .val (.int qb), .val (.int qc), .val (.int qd), .val (.int 2), .val (.int dc2), .val (.int dc5), .val (.int dc8), .val (.int dc11), .val (.ref b56), .val (.int ex)] [(.ref b56)]) := fun t kt => pre74 t (by
        show Steps p.tables e below (T73.setTop (mkF m 239 #[.val (.int qn), .val (.int qa), .val (.int qb), .val (.int qc), .val (.int qd), .val (.int 2), .val (.int dc2), .val (.int dc5), .val (.int dc8), .val (.int dc11), .val (.ref b56), .unset] [(.int ex)])) _
        refine XS.istore X73.here hx rfl (hb hby at_239) rfl (l' := #[.val (.int qn), .val (.int qa), .val (.int qb), .val (.int qc), .val (.int qd), .val (.int 2), .val (.int dc2), .val (.int dc5), .val (.int dc8), .val (.int dc11), .val (.ref b56), .val (.int ex)]) rfl ?_
        refine XS.aload X73.here hx rfl (hb hby at_241) rfl rfl ?_
        exact kt)
    obtain ⟨_, _, ⟨T85, L85, k85, n85⟩, -, X85, ⟨Lc85, hQ85, l85, y85, z85⟩, st85⟩ := Jvm.LawKit.callS X73 hx (y := (⟨"com/example/tallygate/tallygate/AddressLiterals", "isDecimal", "(Ljava/lang/String;)Z"⟩ : MethodName)) hown (mvT hZ (hw _ (own_mG (i := 27) rfl))) (mvT hZ (hw _ (own_mG (i := 28) rfl))) (mvT hZ (hw _ (own_mG (i := 29) rfl))) (mvT hZ (hw _ (own_mG (i := 30) rfl))) (by decide) (backOf (W := 0) (own_dec2 l Z a0 hw [] b56 cd70 y70 ky70 dc2 dc5 cs fm T70.heap n0 (Nat.le_trans (Nat.le_trans (Nat.le_trans (Nat.le_trans (Nat.le_trans Z0 E56.1) E59.1) (Keep.of_wr W63).1) (Keep.of_wr W67).1) K70q.1) Es70 Fc70 Fv70 SD70 hr2_ hr5_ hst (((((O0.ext E56).ext E59).wr W63 g_b59).wr W67 g_b59).keep K70q (allS g_b56 all0))) hZ (hw _ (own_mG (i := 30) rfl)) (hw _ (own_mG (i := 29) rfl)) (by decide) (by decide)) (g := (mkF m 243 #[.val (.int qn), .val (.int qa), .val (.int qb), .val (.int qc), .val (.int qd), .val (.int 2), .val (.int dc2), .val (.int dc5), .val (.int dc8), .val (.int dc11), .val (.ref b56), .val (.int ex)] [(.ref b56)])) rfl (by rw [hml]; rfl) (argsL := [(.ref b56)]) (rest := []) (lenOf own_pd17 rfl) rfl (by show 2 * 0 + _ ≤ _; exact Nat.le_of_eq rfl) (hb hby at_243) (fun _ _ => ⟨rfl, e73, (by decide : 4 + 0 ≤ _), (by decide : 12 + 0 ≤ _)⟩)
    dsimp only [Pt.U, Pt.locs, Pt.cells, Pt.slots] at X85 l85 y85 z85 st85 hQ85
    subst l85 y85 z85
    obtain ⟨dr85, rfl, N85q, e85, Hr85⟩ := hQ85
    have N85 := Fr.app NJ73 N85q
    have pre86 : Goes p e below s₁ (entryFrame m #[(.int qn), (.int qa), (.int qb), (.int qc), (.int qd)] maxLocals) T85 (mkF m 246 #[.val (.int qn), .val (.int qa), .val (.int qb), .val (.int qc), .val (.int qd), .val (.int 2), .val (.int dc2), .val (.int dc5), .val (.int dc8), .val (.int dc11), .val (.ref b56), .val (.int ex)] [(.int dr85)]) := fun t kt => pre84 t (st85 t kt)
    have heq : dr85 = ex := by rcases Hr85 with ⟨q1, q2⟩ | ⟨q1, q2⟩ <;> rcases hex with ⟨q3, q4⟩ | ⟨q3, q4⟩ <;> first | exact q1.trans q3.symm | exact absurd q2 q4 | exact absurd q4 q2
    have pre87 : Goes p e below s₁ (entryFrame m #[(.int qn), (.int qa), (.int qb), (.int qc), (.int qd)] maxLocals) T85 (mkF m 256 #[.val (.int qn), .val (.int qa), .val (.int qb), .val (.int qc), .val (.int qd), .val (.int 2), .val (.int dc2), .val (.int dc5), .val (.int dc8), .val (.int dc11), .val (.ref b56), .val (.int ex)] [(.int 1)]) := fun t kt => pre86 t (by
        show Steps p.tables e below (T85.setTop (mkF m 246 #[.val (.int qn), .val (.int qa), .val (.int qb), .val (.int qc), .val (.int qd), .val (.int 2), .val (.int dc2), .val (.int dc5), .val (.int dc8), .val (.int dc11), .val (.ref b56), .val (.int ex)] [(.int dr85)])) _
        refine XS.iload X85.here hx rfl (hb hby at_246) rfl ?_
        refine XS.icmpNo X85.here hx rfl (hb hby at_248) rfl (teq heq).2 ?_
        show Steps p.tables e below (T85.setTop (mkF m 251 #[.val (.int qn), .val (.int qa), .val (.int qb), .val (.int qc), .val (.int qd), .val (.int 2), .val (.int dc2), .val (.int dc5), .val (.int dc8), .val (.int dc11), .val (.ref b56), .val (.int ex)] [])) _
        refine XS.iconst X85.here hx rfl (hb hby at_251) ?_
        refine XS.goto X85.here hx rfl (pc0 := 252) (pc' := 256) rfl (hb hby at_252) (by decide) (by decide) ?_
        exact kt)
    obtain ⟨fs, hr, hrun, hended, hW, hsame⟩ := X85.leave (v := some (.int 1)) (fun h => by rw [Bd.returns] at h; cases h)
    have hEnd := ReturnedEndW.of_narrow (o := .returned (some (.int 1))) ⟨_, rfl⟩ hW hsame
    refine ⟨_, _, pre87 _ ?_, hrun, hended, _, _, rfl, ?_, ?_, hEnd.1, hEnd.2.1, hEnd.2.2.1, hEnd.2.2.2.mono (by decide) (by decide)⟩
    · show Steps p.tables e below (T85.setTop (mkF m 256 #[.val (.int qn), .val (.int qa), .val (.int qb), .val (.int qc), .val (.int qd), .val (.int 2), .val (.int dc2), .val (.int dc5), .val (.int dc8), .val (.int dc11), .val (.ref b56), .val (.int ex)] [(.int 1)])) _
      exact retN X85 hx (t := .boolean) Bd.returns (by simp) (hb hby at_256) hr
    · show Q_own_rm0 Z qn qa qb qc qd cs fm h0 n0 _ T85.heap _
      rw [e85]
      exact ⟨rfl, N85⟩
    · show CHr Z [("java/lang/String", 7)] s.vm s.heap T85.vm T85.heap
      rw [hh, e85]
      exact CH70.trans (CHv.at (s := s) (vm0 := s.vm) X85 hZ hEL CH70.1)
  · -- n = 3
    rw [show ((qn &&& (2147483647 : Int32)) % (5 : Int32)) = (3 : Int32) from hk] at pre13
    have pre88 : Goes p e below s₁ (entryFrame m #[(.int qn), (.int qa), (.int qb), (.int qc), (.int qd)] maxLocals) T11 (mkF m 116 #[.val (.int qn), .val (.int qa), .val (.int qb), .val (.int qc), .val (.int qd), .val (.int 3), .val (.int dc2), .val (.int dc5), .val (.int dc8), .val (.int dc11), .unset, .unset] []) := fun t kt => pre13 t (by
        show Steps p.tables e below (T11.setTop (mkF m 33 #[.val (.int qn), .val (.int qa), .val (.int qb), .val (.int qc), .val (.int qd), .val (.int 3), .val (.int dc2), .val (.int dc5), .val (.int dc8), .val (.int dc11), .unset, .unset] [])) _
        refine XS.iload X11.here hx rfl (hb hby at_33) rfl ?_
        refine XS.ifYes X11.here hx rfl (pc0 := 35) (pc' := 53) rfl (hb hby at_35) rfl ((if0 _ _).trans (feq (by decide : ¬ ((3 : Int32) = (0 : Int32)))).2) (by decide) (by decide) ?_
        show Steps p.tables e below (T11.setTop (mkF m 53 #[.val (.int qn), .val (.int qa), .val (.int qb), .val (.int qc), .val (.int qd), .val (.int 3), .val (.int dc2), .val (.int dc5), .val (.int dc8), .val (.int dc11), .unset, .unset] [])) _
        refine XS.iload X11.here hx rfl (hb hby at_53) rfl ?_
        refine XS.iconst X11.here hx rfl (hb hby at_55) ?_
        show Steps p.tables e below (T11.setTop (mkF m 56 #[.val (.int qn), .val (.int qa), .val (.int qb), .val (.int qc), .val (.int qd), .val (.int 3), .val (.int dc2), .val (.int dc5), .val (.int dc8), .val (.int dc11), .unset, .unset] [(.int 1), (.int 3)])) _
        refine XS.icmpYes X11.here hx rfl (pc0 := 56) (pc' := 79) rfl (hb hby at_56) rfl (feq (by decide : ¬ ((3 : Int32) = (1 : Int32)))).2 (by decide) (by decide) ?_
        refine XS.iload X11.here hx rfl (hb hby at_79) rfl ?_
        show Steps p.tables e below (T11.setTop (mkF m 81 #[.val (.int qn), .val (.int qa), .val (.int qb), .val (.int qc), .val (.int qd), .val (.int 3), .val (.int dc2), .val (.int dc5), .val (.int dc8), .val (.int dc11), .unset, .unset] [(.int 3)])) _
        refine XS.iconst X11.here hx rfl (hb hby at_81) ?_
        refine XS.icmpYes X11.here hx rfl (pc0 := 82) (pc' := 110) rfl (hb hby at_82) rfl (feq (by decide : ¬ ((3 : Int32) = (2 : Int32)))).2 (by decide) (by decide) ?_
        show Steps p.tables e below (T11.setTop (mkF m 110 #[.val (.int qn), .val (.int qa), .val (.int qb), .val (.int qc), .val (.int qd), .val (.int 3), .val (.int dc2), .val (.int dc5), .val (.int dc8), .val (.int dc11), .unset, .unset] [])) _
        refine XS.iload X11.here hx rfl (hb hby at_110) rfl ?_
        refine XS.iconst X11.here hx rfl (hb hby at_112) ?_
        show Steps p.tables e below (T11.setTop (mkF m 113 #[.val (.int qn), .val (.int qa), .val (.int qb), .val (.int qc), .val (.int qd), .val (.int 3), .val (.int dc2), .val (.int dc5), .val (.int dc8), .val (.int dc11), .unset, .unset] [(.int 3), (.int 3)])) _
        refine XS.icmpNo X11.here hx rfl (hb hby at_113) rfl (teq (by decide : (3 : Int32) = (3 : Int32))).2 ?_
        exact kt)
    obtain ⟨T89, h89, X89, e89, E89, A89, DD89, -, st89⟩ := newO X11 hx hZ hown (hw _ (own_mG (i := 5) rfl)) (hw _ (own_mG (i := 6) rfl)) (hw _ (own_mG (i := 7) rfl)) e11 (g := (mkF m 116 #[.val (.int qn), .val (.int qa), .val (.int qb), .val (.int qc), .val (.int qd), .val (.int 3), .val (.int dc2), .val (.int dc5), .val (.int dc8), .val (.int dc11), .unset, .unset] [])) rfl (hb hby at_116) (by decide) (by decide)
    obtain ⟨b89, g89⟩ : ∃ z, z = h0.size := ⟨_, rfl⟩
    rw [← g89] at A89 DD89 st89
    have F_value_b89 : Fld Z h89 b89 "java/lang/String" "value" "[B" .null := DD89 (Or.inr (hw _ (own_mG (i := 21) rfl))) (ty := (.array .byte)) (by decide)
    have F_coder_b89 : Fld Z h89 b89 "java/lang/String" "coder" "B" (.int 0) := DD89 (Or.inr (hw _ (own_mG (i := 22) rfl))) (ty := .byte) (by decide)
    have g_b89 : n0 ≤ b89 := Nat.le_trans Z0 (Nat.le_of_eq g89.symm)
    have sz_b89 : h0.size ≤ b89 := (Nat.le_trans (Keep.refl h0 []).1 (Nat.le_of_eq g89.symm))
    have K89 : Keep h0 h89 [] := (Keep.refl h0 []).ext E89
    have CH89 : CHr Z [("java/lang/String", 7)] s.vm h0 s.vm h89 := CH0.trans (CHr.ext E89 CH0.1)
    have pre90 : Goes p e below s₁ (entryFrame m #[(.int qn), (.int qa), (.int qb), (.int qc), (.int qd)] maxLocals) T89 (mkF m 119 #[.val (.int qn), .val (.int qa), .val (.int qb), .val (.int qc), .val (.int qd), .val (.int 3), .val (.int dc2), .val (.int dc5), .val (.int dc8), .val (.int dc11), .unset, .unset] [(.ref b89)]) := fun t kt => pre88 t (st89 t kt)
    have pre91 : Goes p e below s₁ (entryFrame m #[(.int qn), (.int qa), (.int qb), (.int qc), (.int qd)] maxLocals) T89 (mkF m 121 #[.val (.int qn), .val (.int qa), .val (.int qb), .val (.int qc), .val (.int qd), .val (.int 3), .val (.int dc2), .val (.int dc5), .val (.int dc8), .val (.int dc11), .unset, .unset] [(.int 3), (.ref b89), (.ref b89)]) := fun t kt => pre90 t (by
        show Steps p.tables e below (T89.setTop (mkF m 119 #[.val (.int qn), .val (.int qa), .val (.int qb), .val (.int qc), .val (.int qd), .val (.int 3), .val (.int dc2), .val (.int dc5), .val (.int dc8), .val (.int dc11), .unset, .unset] [(.ref b89)])) _
        refine XS.dup X89.here hx rfl (hb hby at_119) rfl rfl ?_
        refine XS.iconst X89.here hx rfl (hb hby at_120) ?_
        exact kt)
    obtain ⟨T92, h92, k92, X92, e92, E92, A92, st92⟩ := newP X89 hx hZ (hw _ (own_mG (i := 8) rfl)) e89 (g := (mkF m 121 #[.val (.int qn), .val (.int qa), .val (.int qb), .val (.int qc), .val (.int qd), .val (.int 3), .val (.int dc2), .val (.int dc5), .val (.int dc8), .val (.int dc11), .unset, .unset] [(.int 3), (.ref b89), (.ref b89)])) rfl (hb hby at_121) rfl (by decide) (cap := 3) (by decide) (by decide) (by decide) (by decide)
    obtain ⟨b92, g92⟩ : ∃ z, z = h89.size := ⟨_, rfl⟩
    rw [← g92] at A92 st92
    have V_b92 : Arv Z h92 b92 k92 .char (3 : Int32) [(.int 0), (.int 0), (.int 0)] (.int 0) := (Arv.new A92 (by decide)).pad (pad_rep [] (.int 0) 3)
    have g_b92 : n0 ≤ b92 := Nat.le_trans (Nat.le_trans Z0 E89.1) (Nat.le_of_eq g92.symm)
    have sz_b92 : h0.size ≤ b92 := (Nat.le_trans K89.1 (Nat.le_of_eq g92.symm))
    have K92 : Keep h0 h92 [] := K89.ext E92
    have CH92 : CHr Z [("java/lang/String", 7)] s.vm h0 s.vm h92 := CH89.trans (CHr.ext E92 CH89.1)
    have pre93 : Goes p e below s₁ (entryFrame m #[(.int qn), (.int qa), (.int qb), (.int qc), (.int qd)] maxLocals) T92 (mkF m 123 #[.val (.int qn), .val (.int qa), .val (.int qb), .val (.int qc), .val (.int qd), .val (.int 3), .val (.int dc2), .val (.int dc5), .val (.int dc8), .val (.int dc11), .unset, .unset] [(.ref b92), (.ref b89), (.ref b89)]) := fun t kt => pre91 t (st92 t kt)
    have pre94 : Goes p e below s₁ (entryFrame m #[(.int qn), (.int qa), (.int qb), (.int qc), (.int qd)] maxLocals) T92 (mkF m 127 #[.val (.int qn), .val (.int qa), .val (.int qb), .val (.int qc), .val (.int qd), .val (.int 3), .val (.int dc2), .val (.int dc5), .val (.int dc8), .val (.int dc11), .unset, .unset] [(.int dc2), (.int 0), (.ref b92), (.ref b92), (.ref b89), (.ref b89)]) := fun t kt => pre93 t (by
        show Steps p.tables e below (T92.setTop (mkF m 123 #[.val (.int qn), .val (.int qa), .val (.int qb), .val (.int qc), .val (.int qd), .val (.int 3), .val (.int dc2), .val (.int dc5), .val (.int dc8), .val (.int dc11), .unset, .unset] [(.ref b92), (.ref b89), (.ref b89)])) _
        refine XS.dup X92.here hx rfl (hb hby at_123) rfl rfl ?_
        refine XS.iconst X92.here hx rfl (hb hby at_124) ?_
        show Steps p.tables e below (T92.setTop (mkF m 125 #[.val (.int qn), .val (.int qa), .val (.int qb), .val (.int qc), .val (.int qd), .val (.int 3), .val (.int dc2), .val (.int dc5), .val (.int dc8), .val (.int dc11), .unset, .unset] [(.int 0), (.ref b92), (.ref b92), (.ref b89), (.ref b89)])) _
        refine XS.iload X92.here hx rfl (hb hby at_125) rfl ?_
        exact kt)
    obtain ⟨cl95, Ar95, q95, S95, N_95, H95, G95⟩ := (id (V_b92))
    have hin95 : ¬ ((0 : Int32) < 0 ∨ cl95.slots.size ≤ ((0 : Int32)).toNatClampNeg) := inb_of S95 ⟨by decide, by decide⟩
    obtain ⟨T96, h96, X96, e96, W96, st96⟩ := stC X92 hx hZ e92 Ar95 (j := (0 : Int32)) hin95 (g := (mkF m 127 #[.val (.int qn), .val (.int qa), .val (.int qb), .val (.int qc), .val (.int qd), .val (.int 3), .val (.int dc2), .val (.int dc5), .val (.int dc8), .val (.int dc11), .unset, .unset] [(.int dc2), (.int 0), (.ref b92), (.ref b92), (.ref b89), (.ref b89)])) rfl rfl (hb hby at_127)
    have V96 : Arv Z h96 b92 k92 .char (3 : Int32) [(.int (nar .char dc2)), (.int 0), (.int 0)] (.int 0) := Arv.set Ar95 q95 S95 N_95 H95 G95 (fits_nar_char _) W96 0 rfl (Nat.le_of_ble_eq_true rfl)
    have K96 : Keep h0 h96 [] := K92.wr W96 (Or.inr sz_b92)
    have CH96 : CHr Z [("java/lang/String", 7)] s.vm h0 s.vm h96 := CH92.trans (CHr.wr W96 (own_safeV hZ.alike V_b92 (by decide)) CH92.1)
    have N96 := Fr.snoc X96 N11 g_b92
    have pre97 : Goes p e below s₁ (entryFrame m #[(.int qn), (.int qa), (.int qb), (.int qc), (.int qd)] maxLocals) T96 (mkF m 128 #[.val (.int qn), .val (.int qa), .val (.int qb), .val (.int qc), .val (.int qd), .val (.int 3), .val (.int dc2), .val (.int dc5), .val (.int dc8), .val (.int dc11), .unset, .unset] [(.ref b92), (.ref b89), (.ref b89)]) := fun t kt => pre94 t (st96 t kt)
    have pre98 : Goes p e below s₁ (entryFrame m #[(.int qn), (.int qa), (.int qb), (.int qc), (.int qd)] maxLocals) T96 (mkF m 132 #[.val (.int qn), .val (.int qa), .val (.int qb), .val (.int qc), .val (.int qd), .val (.int 3), .val (.int dc2), .val (.int dc5), .val (.int dc8), .val (.int dc11), .unset, .unset] [(.int dc5), (.int 1), (.ref b92), (.ref b92), (.ref b89), (.ref b89)]) := fun t kt => pre97 t (by
        show Steps p.tables e below (T96.setTop (mkF m 128 #[.val (.int qn), .val (.int qa), .val (.int qb), .val (.int qc), .val (.int qd), .val (.int 3), .val (.int dc2), .val (.int dc5), .val (.int dc8), .val (.int dc11), .unset, .unset] [(.ref b92), (.ref b89), (.ref b89)])) _
        refine XS.dup X96.here hx rfl (hb hby at_128) rfl rfl ?_
        refine XS.iconst X96.here hx rfl (hb hby at_129) ?_
        show Steps p.tables e below (T96.setTop (mkF m 130 #[.val (.int qn), .val (.int qa), .val (.int qb), .val (.int qc), .val (.int qd), .val (.int 3), .val (.int dc2), .val (.int dc5), .val (.int dc8), .val (.int dc11), .unset, .unset] [(.int 1), (.ref b92), (.ref b92), (.ref b89), (.ref b89)])) _
        refine XS.iload X96.here hx rfl (hb hby at_130) rfl ?_
        exact kt)
    obtain ⟨cl99, Ar99, q99, S99, N_99, H99, G99⟩ := (id (V96))
    have hin99 : ¬ ((1 : Int32) < 0 ∨ cl99.slots.size ≤ ((1 : Int32)).toNatClampNeg) := inb_of S99 ⟨by decide, by decide⟩
    obtain ⟨T100, h100, X100, e100, W100, st100⟩ := stC X96 hx hZ e96 Ar99 (j := (1 : Int32)) hin99 (g := (mkF m 132 #[.val (.int qn), .val (.int qa), .val (.int qb), .val (.int qc), .val (.int qd), .val (.int 3), .val (.int dc2), .val (.int dc5), .val (.int dc8), .val (.int dc11), .unset, .unset] [(.int dc5), (.int 1), (.ref b92), (.ref b92), (.ref b89), (.ref b89)])) rfl rfl (hb hby at_132)
    have V100 : Arv Z h100 b92 k92 .char (3 : Int32) [(.int (nar .char dc2)), (.int (nar .char dc5)), (.int 0)] (.int 0) := Arv.set Ar99 q99 S99 N_99 H99 G99 (fits_nar_char _) W100 1 rfl (Nat.le_of_ble_eq_true rfl)
    have K100 : Keep h0 h100 [] := K96.wr W100 (Or.inr sz_b92)
    have CH100 : CHr Z [("java/lang/String", 7)] s.vm h0 s.vm h100 := CH96.trans (CHr.wr W100 (own_safeV hZ.alike V96 (by decide)) CH96.1)
    have N100 := Fr.snoc X100 N96 g_b92
    have pre101 : Goes p e below s₁ (entryFrame m #[(.int qn), (.int qa), (.int qb), (.int qc), (.int qd)] maxLocals) T100 (mkF m 133 #[.val (.int qn), .val (.int qa), .val (.int qb), .val (.int qc), .val (.int qd), .val (.int 3), .val (.int dc2), .val (.int dc5), .val (.int dc8), .val (.int dc11), .unset, .unset] [(.ref b92), (.ref b89), (.ref b89)]) := fun t kt => pre98 t (st100 t kt)
    have pre102 : Goes p e below s₁ (entryFrame m #[(.int qn), (.int qa), (.int qb), (.int qc), (.int qd)] maxLocals) T100 (mkF m 137 #[.val (.int qn), .val (.int qa), .val (.int qb), .val (.int qc), .val (.int qd), .val (.int 3), .val (.int dc2), .val (.int dc5), .val (.int dc8), .val (.int dc11), .unset, .unset] [(.int dc8), (.int 2), (.ref b92), (.ref b92), (.ref b89), (.ref b89)]) := fun t kt => pre101 t (by
        show Steps p.tables e below (T100.setTop (mkF m 133 #[.val (.int qn), .val (.int qa), .val (.int qb), .val (.int qc), .val (.int qd), .val (.int 3), .val (.int dc2), .val (.int dc5), .val (.int dc8), .val (.int dc11), .unset, .unset] [(.ref b92), (.ref b89), (.ref b89)])) _
        refine XS.dup X100.here hx rfl (hb hby at_133) rfl rfl ?_
        refine XS.iconst X100.here hx rfl (hb hby at_134) ?_
        show Steps p.tables e below (T100.setTop (mkF m 135 #[.val (.int qn), .val (.int qa), .val (.int qb), .val (.int qc), .val (.int qd), .val (.int 3), .val (.int dc2), .val (.int dc5), .val (.int dc8), .val (.int dc11), .unset, .unset] [(.int 2), (.ref b92), (.ref b92), (.ref b89), (.ref b89)])) _
        refine XS.iload X100.here hx rfl (hb hby at_135) rfl ?_
        exact kt)
    obtain ⟨cl103, Ar103, q103, S103, N_103, H103, G103⟩ := (id (V100))
    have hin103 : ¬ ((2 : Int32) < 0 ∨ cl103.slots.size ≤ ((2 : Int32)).toNatClampNeg) := inb_of S103 ⟨by decide, by decide⟩
    obtain ⟨T104, h104, X104, e104, W104, st104⟩ := stC X100 hx hZ e100 Ar103 (j := (2 : Int32)) hin103 (g := (mkF m 137 #[.val (.int qn), .val (.int qa), .val (.int qb), .val (.int qc), .val (.int qd), .val (.int 3), .val (.int dc2), .val (.int dc5), .val (.int dc8), .val (.int dc11), .unset, .unset] [(.int dc8), (.int 2), (.ref b92), (.ref b92), (.ref b89), (.ref b89)])) rfl rfl (hb hby at_137)
    have V104 : Arv Z h104 b92 k92 .char (3 : Int32) [(.int (nar .char dc2)), (.int (nar .char dc5)), (.int (nar .char dc8))] (.int 0) := Arv.set Ar103 q103 S103 N_103 H103 G103 (fits_nar_char _) W104 2 rfl (Nat.le_of_ble_eq_true rfl)
    have K104 : Keep h0 h104 [] := K100.wr W104 (Or.inr sz_b92)
    have CH104 : CHr Z [("java/lang/String", 7)] s.vm h0 s.vm h104 := CH100.trans (CHr.wr W104 (own_safeV hZ.alike V100 (by decide)) CH100.1)
    have N104 := Fr.snoc X104 N100 g_b92
    have pre105 : Goes p e below s₁ (entryFrame m #[(.int qn), (.int qa), (.int qb), (.int qc), (.int qd)] maxLocals) T104 (mkF m 138 #[.val (.int qn), .val (.int qa), .val (.int qb), .val (.int qc), .val (.int qd), .val (.int 3), .val (.int dc2), .val (.int dc5), .val (.int dc8), .val (.int dc11), .unset, .unset] [(.ref b92), (.ref b89), (.ref b89)]) := fun t kt => pre102 t (st104 t kt)
    have VV106 : Arv Z h104 b92 k92 .char (3 : Int32) [(.int dc2), (.int dc5), (.int dc8)] (.int 0) := by have q := V104; simp only [own_nc dc2 hr2_, own_nc dc5 hr5_, own_nc dc8 hr8_] at q; exact q
    obtain ⟨_, _, ⟨T107, L107, k107, n107⟩, -, X107, ⟨Lc107, hQ107, l107, y107, z107⟩, st107⟩ := X104.specialBack hx (y := (⟨"java/lang/String", "<init>", "([C)V"⟩ : MethodName)) rfl hown (mvT hZ (hw _ (own_mG (i := 9) rfl))) (mvT hZ (hw _ (own_mG (i := 10) rfl))) (mvT hZ (hw _ (own_mG (i := 11) rfl))) (by decide) (backOf (W := 1) (own_sJ3 l Z a0 hw [] b89 b92 k92 _ _ dc2 dc5 dc8 cs fm h104 n0 (Nat.le_trans (Nat.le_trans (Nat.le_trans (Nat.le_trans (Nat.le_trans Z0 E89.1) E92.1) (Keep.of_wr W96).1) (Keep.of_wr W100).1) (Keep.of_wr W104).1) ((((A89.ext E92).wr W96).wr W100).wr W104) ((((F_value_b89.ext E92).other W96 (Or.inl (Nat.ne_of_lt (Nat.lt_of_lt_of_le F_value_b89.lt (Nat.le_of_eq g92.symm))))).other W100 (Or.inl (Nat.ne_of_lt (Nat.lt_of_lt_of_le F_value_b89.lt (Nat.le_of_eq g92.symm))))).other W104 (Or.inl (Nat.ne_of_lt (Nat.lt_of_lt_of_le F_value_b89.lt (Nat.le_of_eq g92.symm))))) ((((F_coder_b89.ext E92).other W96 (Or.inl (Nat.ne_of_lt (Nat.lt_of_lt_of_le F_value_b89.lt (Nat.le_of_eq g92.symm))))).other W100 (Or.inl (Nat.ne_of_lt (Nat.lt_of_lt_of_le F_value_b89.lt (Nat.le_of_eq g92.symm))))).other W104 (Or.inl (Nat.ne_of_lt (Nat.lt_of_lt_of_le F_value_b89.lt (Nat.le_of_eq g92.symm))))) g_b89 VV106 hr2_ hr5_ hr8_ hst (((((O0.ext E89).ext E92).wr W96 g_b92).wr W100 g_b92).wr W104 g_b92)) hZ (hw _ (own_mG (i := 11) rfl)) (hw _ (own_mG (i := 7) rfl)) (by decide) (by decide)) (g := (mkF m 138 #[.val (.int qn), .val (.int qa), .val (.int qb), .val (.int qc), .val (.int qd), .val (.int 3), .val (.int dc2), .val (.int dc5), .val (.int dc8), .val (.int dc11), .unset, .unset] [(.ref b92), (.ref b89), (.ref b89)])) rfl (by rw [hml]; rfl) (Steps.refl _) (a := b89) (argsL := [(.ref b92)]) (rest := [(.ref b89)]) (lenOf own_pd16 rfl) rfl (by show 2 * 0 + _ ≤ _; exact Nat.le_of_eq rfl) (hb hby at_138) (fun _ _ => ⟨rfl, e104, (by decide : 2 + 2 ≤ _), (by decide : 7 + 9 ≤ _)⟩)
    dsimp only [Pt.U, Pt.locs, Pt.cells, Pt.slots] at X107 l107 y107 z107 st107 hQ107
    subst l107 y107 z107
    obtain ⟨rfl, N107q, K107q, Es107, cd107, y107, ky107, Fc107, Fv107, SD107⟩ := hQ107
    have N107 := Fr.app N104 N107q
    have KC107 : Keep h0 T107.heap [] := K104.trans K107q (allS (Or.inr sz_b89) all0)
    have CH107 : CHr Z [("java/lang/String", 7)] s.vm h0 s.vm T107.heap := CH104.trans (CHr.keep K107q (allS (own_safe hZ.alike ((((A89.ext E92).wr W96).wr W100).wr W104) ((((F_value_b89.ext E92).other W96 (Or.inl (Nat.ne_of_lt (Nat.lt_of_lt_of_le F_value_b89.lt (Nat.le_of_eq g92.symm))))).other W100 (Or.inl (Nat.ne_of_lt (Nat.lt_of_lt_of_le F_value_b89.lt (Nat.le_of_eq g92.symm))))).other W104 (Or.inl (Nat.ne_of_lt (Nat.lt_of_lt_of_le F_value_b89.lt (Nat.le_of_eq g92.symm)))))) all0) CH104.1)
    have pre108 : Goes p e below s₁ (entryFrame m #[(.int qn), (.int qa), (.int qb), (.int qc), (.int qd)] maxLocals) T107 (mkF m 141 #[.val (.int qn), .val (.int qa), .val (.int qb), .val (.int qc), .val (.int qd), .val (.int 3), .val (.int dc2), .val (.int dc5), .val (.int dc8), .val (.int dc11), .unset, .unset] [(.ref b89)]) := fun t kt => pre105 t (st107.trans kt)
    have pre109 : Goes p e below s₁ (entryFrame m #[(.int qn), (.int qa), (.int qb), (.int qc), (.int qd)] maxLocals) T107 (mkF m 178 #[.val (.int qn), .val (.int qa), .val (.int qb), .val (.int qc), .val (.int qd), .val (.int 3), .val (.int dc2), .val (.int dc5), .val (.int dc8), .val (.int dc11), .val (.ref b89), .unset] []) := fun t kt => pre108 t (by
        show Steps p.tables e below (T107.setTop (mkF m 141 #[.val (.int qn), .val (.int qa), .val (.int qb), .val (.int qc), .val (.int qd), .val (.int 3), .val (.int dc2), .val (.int dc5), .val (.int dc8), .val (.int dc11), .unset, .unset] [(.ref b89)])) _
        refine XS.astore X107.here hx rfl (hb hby at_141) rfl rfl (l' := #[.val (.int qn), .val (.int qa), .val (.int qb), .val (.int qc), .val (.int qd), .val (.int 3), .val (.int dc2), .val (.int dc5), .val (.int dc8), .val (.int dc11), .val (.ref b89), .unset]) rfl ?_
        refine XS.goto X107.here hx rfl (pc0 := 143) (pc' := 178) rfl (hb hby at_143) (by decide) (by decide) ?_
        exact kt)
    obtain ⟨ex, T110, Lj110, X110, e110, NJ110, hex, pre111⟩ : ∃ (ex : Int32) (T110 : State) (Lj110 : List Loc), Stand p l e room_1 s m #[(.int qn), (.int qa), (.int qb), (.int qc), (.int qd)] below meth c T110 Lj110 4 16 ∧ T110.heap = T107.heap ∧ Fr n0 Lj110 ∧ ((ex = (1 : Int32) ∧ (own_dg dc2 ∧ own_dg dc5 ∧ own_dg dc8)) ∨ (ex = (0 : Int32) ∧ ¬ (own_dg dc2 ∧ own_dg dc5 ∧ own_dg dc8))) ∧ Goes p e below s₁ (entryFrame m #[(.int qn), (.int qa), (.int qb), (.int qc), (.int qd)] maxLocals) T110 (mkF m 239 #[.val (.int qn), .val (.int qa), .val (.int qb), .val (.int qc), .val (.int qd), .val (.int 3), .val (.int dc2), .val (.int dc5), .val (.int dc8), .val (.int dc11), .val (.ref b89), .unset] [(.int ex)]) := by
      have pre112 : Goes p e below s₁ (entryFrame m #[(.int qn), (.int qa), (.int qb), (.int qc), (.int qd)] maxLocals) T107 (mkF m 186 #[.val (.int qn), .val (.int qa), .val (.int qb), .val (.int qc), .val (.int qd), .val (.int 3), .val (.int dc2), .val (.int dc5), .val (.int dc8), .val (.int dc11), .val (.ref b89), .unset] [(.int dc2)]) := fun t kt => pre109 t (by
          show Steps p.tables e below (T107.setTop (mkF m 178 #[.val (.int qn), .val (.int qa), .val (.int qb), .val (.int qc), .val (.int qd), .val (.int 3), .val (.int dc2), .val (.int dc5), .val (.int dc8), .val (.int dc11), .val (.ref b89), .unset] [])) _
          refine XS.iload X107.here hx rfl (hb hby at_178) rfl ?_
          refine XS.iconst X107.here hx rfl (hb hby at_180) ?_
          show Steps p.tables e below (T107.setTop (mkF m 181 #[.val (.int qn), .val (.int qa), .val (.int qb), .val (.int qc), .val (.int qd), .val (.int 3), .val (.int dc2), .val (.int dc5), .val (.int dc8), .val (.int dc11), .val (.ref b89), .unset] [(.int 1), (.int 3)])) _
          refine XS.icmpNo X107.here hx rfl (hb hby at_181) rfl (flt (by decide : ¬ ((3 : Int32) < (1 : Int32)))).1 ?_
          refine XS.iload X107.here hx rfl (hb hby at_184) rfl ?_
          exact kt)
      obtain ⟨_, _, ⟨T113, L113, k113, n113⟩, -, X113, ⟨Lc113, hQ113, l113, y113, z113⟩, st113⟩ := Jvm.LawKit.callS X107 hx (y := (⟨"com/example/tallygate/tallygate/AddressLiteralsIsDecimalPinLaw", "digit", "(C)Z"⟩ : MethodName)) hown (mvT hZ (hw _ (own_mG (i := 52) rfl))) (mvT hZ (hw _ (own_mG (i := 53) rfl))) (mvT hZ (hw _ (own_mG (i := 3) rfl))) (mvT hZ (hw _ (own_mG (i := 54) rfl))) (by decide) (backOf (W := 0) (own_digit l Z a0 hw [] dc2 T107.heap n0 (Nat.le_trans (Nat.le_trans (Nat.le_trans (Nat.le_trans (Nat.le_trans (Nat.le_trans Z0 E89.1) E92.1) (Keep.of_wr W96).1) (Keep.of_wr W100).1) (Keep.of_wr W104).1) K107q.1) ) hZ (hw _ (own_mG (i := 54) rfl)) (hw _ (own_mG (i := 3) rfl)) (by decide) (by decide)) (g := (mkF m 186 #[.val (.int qn), .val (.int qa), .val (.int qb), .val (.int qc), .val (.int qd), .val (.int 3), .val (.int dc2), .val (.int dc5), .val (.int dc8), .val (.int dc11), .val (.ref b89), .unset] [(.int dc2)])) rfl (by rw [hml]; rfl) (argsL := [(.int dc2)]) (rest := []) (lenOf own_pd18 rfl) rfl (by show 2 * 0 + _ ≤ _; exact Nat.le_of_eq rfl) (hb hby at_186) (fun _ _ => ⟨rfl, rfl, (by decide : 4 + 0 ≤ _), (by decide : 16 + 0 ≤ _)⟩)
      dsimp only [Pt.U, Pt.locs, Pt.cells, Pt.slots] at X113 l113 y113 z113 st113 hQ113
      subst l113 y113 z113
      obtain ⟨dz113, rfl, N113q, e113, Hd113⟩ := hQ113
      have N113 := Fr.app N107 N113q
      have pre114 : Goes p e below s₁ (entryFrame m #[(.int qn), (.int qa), (.int qb), (.int qc), (.int qd)] maxLocals) T113 (mkF m 189 #[.val (.int qn), .val (.int qa), .val (.int qb), .val (.int qc), .val (.int qd), .val (.int 3), .val (.int dc2), .val (.int dc5), .val (.int dc8), .val (.int dc11), .val (.ref b89), .unset] [(.int dz113)]) := fun t kt => pre112 t (st113 t kt)
      rcases Hd113 with ⟨rfl, hd113⟩ | ⟨rfl, hd113⟩
      · -- digit 1
        have pre115 : Goes p e below s₁ (entryFrame m #[(.int qn), (.int qa), (.int qb), (.int qc), (.int qd)] maxLocals) T113 (mkF m 200 #[.val (.int qn), .val (.int qa), .val (.int qb), .val (.int qc), .val (.int qd), .val (.int 3), .val (.int dc2), .val (.int dc5), .val (.int dc8), .val (.int dc11), .val (.ref b89), .unset] [(.int dc5)]) := fun t kt => pre114 t (by
            show Steps p.tables e below (T113.setTop (mkF m 189 #[.val (.int qn), .val (.int qa), .val (.int qb), .val (.int qc), .val (.int qd), .val (.int 3), .val (.int dc2), .val (.int dc5), .val (.int dc8), .val (.int dc11), .val (.ref b89), .unset] [(.int 1)])) _
            refine XS.ifNo X113.here hx rfl (hb hby at_189) rfl ((if0 _ _).trans (feq (by decide : ¬ ((1 : Int32) = (0 : Int32)))).1) ?_
            refine XS.iload X113.here hx rfl (hb hby at_192) rfl ?_
            show Steps p.tables e below (T113.setTop (mkF m 194 #[.val (.int qn), .val (.int qa), .val (.int qb), .val (.int qc), .val (.int qd), .val (.int 3), .val (.int dc2), .val (.int dc5), .val (.int dc8), .val (.int dc11), .val (.ref b89), .unset] [(.int 3)])) _
            refine XS.iconst X113.here hx rfl (hb hby at_194) ?_
            refine XS.icmpNo X113.here hx rfl (hb hby at_195) rfl (flt (by decide : ¬ ((3 : Int32) < (2 : Int32)))).1 ?_
            show Steps p.tables e below (T113.setTop (mkF m 198 #[.val (.int qn), .val (.int qa), .val (.int qb), .val (.int qc), .val (.int qd), .val (.int 3), .val (.int dc2), .val (.int dc5), .val (.int dc8), .val (.int dc11), .val (.ref b89), .unset] [])) _
            refine XS.iload X113.here hx rfl (hb hby at_198) rfl ?_
            exact kt)
        obtain ⟨_, _, ⟨T116, L116, k116, n116⟩, -, X116, ⟨Lc116, hQ116, l116, y116, z116⟩, st116⟩ := Jvm.LawKit.callS X113 hx (y := (⟨"com/example/tallygate/tallygate/AddressLiteralsIsDecimalPinLaw", "digit", "(C)Z"⟩ : MethodName)) hown (mvT hZ (hw _ (own_mG (i := 52) rfl))) (mvT hZ (hw _ (own_mG (i := 53) rfl))) (mvT hZ (hw _ (own_mG (i := 3) rfl))) (mvT hZ (hw _ (own_mG (i := 54) rfl))) (by decide) (backOf (W := 0) (own_digit l Z a0 hw [] dc5 T107.heap n0 (Nat.le_trans (Nat.le_trans (Nat.le_trans (Nat.le_trans (Nat.le_trans (Nat.le_trans Z0 E89.1) E92.1) (Keep.of_wr W96).1) (Keep.of_wr W100).1) (Keep.of_wr W104).1) K107q.1) ) hZ (hw _ (own_mG (i := 54) rfl)) (hw _ (own_mG (i := 3) rfl)) (by decide) (by decide)) (g := (mkF m 200 #[.val (.int qn), .val (.int qa), .val (.int qb), .val (.int qc), .val (.int qd), .val (.int 3), .val (.int dc2), .val (.int dc5), .val (.int dc8), .val (.int dc11), .val (.ref b89), .unset] [(.int dc5)])) rfl (by rw [hml]; rfl) (argsL := [(.int dc5)]) (rest := []) (lenOf own_pd18 rfl) rfl (by show 2 * 0 + _ ≤ _; exact Nat.le_of_eq rfl) (hb hby at_200) (fun _ _ => ⟨rfl, e113, (by decide : 4 + 0 ≤ _), (by decide : 16 + 0 ≤ _)⟩)
        dsimp only [Pt.U, Pt.locs, Pt.cells, Pt.slots] at X116 l116 y116 z116 st116 hQ116
        subst l116 y116 z116
        obtain ⟨dz116, rfl, N116q, e116, Hd116⟩ := hQ116
        have N116 := Fr.app N113 N116q
        have pre117 : Goes p e below s₁ (entryFrame m #[(.int qn), (.int qa), (.int qb), (.int qc), (.int qd)] maxLocals) T116 (mkF m 203 #[.val (.int qn), .val (.int qa), .val (.int qb), .val (.int qc), .val (.int qd), .val (.int 3), .val (.int dc2), .val (.int dc5), .val (.int dc8), .val (.int dc11), .val (.ref b89), .unset] [(.int dz116)]) := fun t kt => pre115 t (st116 t kt)
        rcases Hd116 with ⟨rfl, hd116⟩ | ⟨rfl, hd116⟩
        · -- digit 1
          have pre118 : Goes p e below s₁ (entryFrame m #[(.int qn), (.int qa), (.int qb), (.int qc), (.int qd)] maxLocals) T116 (mkF m 214 #[.val (.int qn), .val (.int qa), .val (.int qb), .val (.int qc), .val (.int qd), .val (.int 3), .val (.int dc2), .val (.int dc5), .val (.int dc8), .val (.int dc11), .val (.ref b89), .unset] [(.int dc8)]) := fun t kt => pre117 t (by
              show Steps p.tables e below (T116.setTop (mkF m 203 #[.val (.int qn), .val (.int qa), .val (.int qb), .val (.int qc), .val (.int qd), .val (.int 3), .val (.int dc2), .val (.int dc5), .val (.int dc8), .val (.int dc11), .val (.ref b89), .unset] [(.int 1)])) _
              refine XS.ifNo X116.here hx rfl (hb hby at_203) rfl ((if0 _ _).trans (feq (by decide : ¬ ((1 : Int32) = (0 : Int32)))).1) ?_
              refine XS.iload X116.here hx rfl (hb hby at_206) rfl ?_
              show Steps p.tables e below (T116.setTop (mkF m 208 #[.val (.int qn), .val (.int qa), .val (.int qb), .val (.int qc), .val (.int qd), .val (.int 3), .val (.int dc2), .val (.int dc5), .val (.int dc8), .val (.int dc11), .val (.ref b89), .unset] [(.int 3)])) _
              refine XS.iconst X116.here hx rfl (hb hby at_208) ?_
              refine XS.icmpNo X116.here hx rfl (hb hby at_209) rfl (flt (by decide : ¬ ((3 : Int32) < (3 : Int32)))).1 ?_
              show Steps p.tables e below (T116.setTop (mkF m 212 #[.val (.int qn), .val (.int qa), .val (.int qb), .val (.int qc), .val (.int qd), .val (.int 3), .val (.int dc2), .val (.int dc5), .val (.int dc8), .val (.int dc11), .val (.ref b89), .unset] [])) _
              refine XS.iload X116.here hx rfl (hb hby at_212) rfl ?_
              exact kt)
          obtain ⟨_, _, ⟨T119, L119, k119, n119⟩, -, X119, ⟨Lc119, hQ119, l119, y119, z119⟩, st119⟩ := Jvm.LawKit.callS X116 hx (y := (⟨"com/example/tallygate/tallygate/AddressLiteralsIsDecimalPinLaw", "digit", "(C)Z"⟩ : MethodName)) hown (mvT hZ (hw _ (own_mG (i := 52) rfl))) (mvT hZ (hw _ (own_mG (i := 53) rfl))) (mvT hZ (hw _ (own_mG (i := 3) rfl))) (mvT hZ (hw _ (own_mG (i := 54) rfl))) (by decide) (backOf (W := 0) (own_digit l Z a0 hw [] dc8 T107.heap n0 (Nat.le_trans (Nat.le_trans (Nat.le_trans (Nat.le_trans (Nat.le_trans (Nat.le_trans Z0 E89.1) E92.1) (Keep.of_wr W96).1) (Keep.of_wr W100).1) (Keep.of_wr W104).1) K107q.1) ) hZ (hw _ (own_mG (i := 54) rfl)) (hw _ (own_mG (i := 3) rfl)) (by decide) (by decide)) (g := (mkF m 214 #[.val (.int qn), .val (.int qa), .val (.int qb), .val (.int qc), .val (.int qd), .val (.int 3), .val (.int dc2), .val (.int dc5), .val (.int dc8), .val (.int dc11), .val (.ref b89), .unset] [(.int dc8)])) rfl (by rw [hml]; rfl) (argsL := [(.int dc8)]) (rest := []) (lenOf own_pd18 rfl) rfl (by show 2 * 0 + _ ≤ _; exact Nat.le_of_eq rfl) (hb hby at_214) (fun _ _ => ⟨rfl, e116, (by decide : 4 + 0 ≤ _), (by decide : 16 + 0 ≤ _)⟩)
          dsimp only [Pt.U, Pt.locs, Pt.cells, Pt.slots] at X119 l119 y119 z119 st119 hQ119
          subst l119 y119 z119
          obtain ⟨dz119, rfl, N119q, e119, Hd119⟩ := hQ119
          have N119 := Fr.app N116 N119q
          have pre120 : Goes p e below s₁ (entryFrame m #[(.int qn), (.int qa), (.int qb), (.int qc), (.int qd)] maxLocals) T119 (mkF m 217 #[.val (.int qn), .val (.int qa), .val (.int qb), .val (.int qc), .val (.int qd), .val (.int 3), .val (.int dc2), .val (.int dc5), .val (.int dc8), .val (.int dc11), .val (.ref b89), .unset] [(.int dz119)]) := fun t kt => pre118 t (st119 t kt)
          rcases Hd119 with ⟨rfl, hd119⟩ | ⟨rfl, hd119⟩
          · -- digit 1
            have pre121 : Goes p e below s₁ (entryFrame m #[(.int qn), (.int qa), (.int qb), (.int qc), (.int qd)] maxLocals) T119 (mkF m 239 #[.val (.int qn), .val (.int qa), .val (.int qb), .val (.int qc), .val (.int qd), .val (.int 3), .val (.int dc2), .val (.int dc5), .val (.int dc8), .val (.int dc11), .val (.ref b89), .unset] [(.int 1)]) := fun t kt => pre120 t (by
                show Steps p.tables e below (T119.setTop (mkF m 217 #[.val (.int qn), .val (.int qa), .val (.int qb), .val (.int qc), .val (.int qd), .val (.int 3), .val (.int dc2), .val (.int dc5), .val (.int dc8), .val (.int dc11), .val (.ref b89), .unset] [(.int 1)])) _
                refine XS.ifNo X119.here hx rfl (hb hby at_217) rfl ((if0 _ _).trans (feq (by decide : ¬ ((1 : Int32) = (0 : Int32)))).1) ?_
                refine XS.iload X119.here hx rfl (hb hby at_220) rfl ?_
                show Steps p.tables e below (T119.setTop (mkF m 222 #[.val (.int qn), .val (.int qa), .val (.int qb), .val (.int qc), .val (.int qd), .val (.int 3), .val (.int dc2), .val (.int dc5), .val (.int dc8), .val (.int dc11), .val (.ref b89), .unset] [(.int 3)])) _
                refine XS.iconst X119.here hx rfl (hb hby at_222) ?_
                refine XS.icmpYes X119.here hx rfl (pc0 := 223) (pc' := 234) rfl (hb hby at_223) rfl (tlt (by decide : (3 : Int32) < (4 : Int32))).1 (by decide) (by decide) ?_
                show Steps p.tables e below (T119.setTop (mkF m 234 #[.val (.int qn), .val (.int qa), .val (.int qb), .val (.int qc), .val (.int qd), .val (.int 3), .val (.int dc2), .val (.int dc5), .val (.int dc8), .val (.int dc11), .val (.ref b89), .unset] [])) _
                refine XS.iconst X119.here hx rfl (hb hby at_234) ?_
                refine XS.goto X119.here hx rfl (pc0 := 235) (pc' := 239) rfl (hb hby at_235) (by decide) (by decide) ?_
                exact kt)
            exact ⟨(1 : Int32), T119, _, X119, e119, N119, (Or.inl ⟨rfl, hd113, hd116, hd119⟩), pre121⟩
          · -- digit 0
            have pre122 : Goes p e below s₁ (entryFrame m #[(.int qn), (.int qa), (.int qb), (.int qc), (.int qd)] maxLocals) T119 (mkF m 239 #[.val (.int qn), .val (.int qa), .val (.int qb), .val (.int qc), .val (.int qd), .val (.int 3), .val (.int dc2), .val (.int dc5), .val (.int dc8), .val (.int dc11), .val (.ref b89), .unset] [(.int 0)]) := fun t kt => pre120 t (by
                show Steps p.tables e below (T119.setTop (mkF m 217 #[.val (.int qn), .val (.int qa), .val (.int qb), .val (.int qc), .val (.int qd), .val (.int 3), .val (.int dc2), .val (.int dc5), .val (.int dc8), .val (.int dc11), .val (.ref b89), .unset] [(.int 0)])) _
                refine XS.ifYes X119.here hx rfl (pc0 := 217) (pc' := 238) rfl (hb hby at_217) rfl ((if0 _ _).trans (teq (by decide : (0 : Int32) = (0 : Int32))).1) (by decide) (by decide) ?_
                refine XS.iconst X119.here hx rfl (hb hby at_238) ?_
                exact kt)
            exact ⟨(0 : Int32), T119, _, X119, e119, N119, (Or.inr ⟨rfl, fun q => hd119 q.2.2⟩), pre122⟩
        · -- digit 0
          have pre123 : Goes p e below s₁ (entryFrame m #[(.int qn), (.int qa), (.int qb), (.int qc), (.int qd)] maxLocals) T116 (mkF m 239 #[.val (.int qn), .val (.int qa), .val (.int qb), .val (.int qc), .val (.int qd), .val (.int 3), .val (.int dc2), .val (.int dc5), .val (.int dc8), .val (.int dc11), .val (.ref b89), .unset] [(.int 0)]) := fun t kt => pre117 t (by
              show Steps p.tables e below (T116.setTop (mkF m 203 #[.val (.int qn), .val (.int qa), .val (.int qb), .val (.int qc), .val (.int qd), .val (.int 3), .val (.int dc2), .val (.int dc5), .val (.int dc8), .val (.int dc11), .val (.ref b89), .unset] [(.int 0)])) _
              refine XS.ifYes X116.here hx rfl (pc0 := 203) (pc' := 238) rfl (hb hby at_203) rfl ((if0 _ _).trans (teq (by decide : (0 : Int32) = (0 : Int32))).1) (by decide) (by decide) ?_
              refine XS.iconst X116.here hx rfl (hb hby at_238) ?_
              exact kt)
          exact ⟨(0 : Int32), T116, _, X116, e116, N116, (Or.inr ⟨rfl, fun q => hd116 q.2.1⟩), pre123⟩
      · -- digit 0
        have pre124 : Goes p e below s₁ (entryFrame m #[(.int qn), (.int qa), (.int qb), (.int qc), (.int qd)] maxLocals) T113 (mkF m 239 #[.val (.int qn), .val (.int qa), .val (.int qb), .val (.int qc), .val (.int qd), .val (.int 3), .val (.int dc2), .val (.int dc5), .val (.int dc8), .val (.int dc11), .val (.ref b89), .unset] [(.int 0)]) := fun t kt => pre114 t (by
            show Steps p.tables e below (T113.setTop (mkF m 189 #[.val (.int qn), .val (.int qa), .val (.int qb), .val (.int qc), .val (.int qd), .val (.int 3), .val (.int dc2), .val (.int dc5), .val (.int dc8), .val (.int dc11), .val (.ref b89), .unset] [(.int 0)])) _
            refine XS.ifYes X113.here hx rfl (pc0 := 189) (pc' := 238) rfl (hb hby at_189) rfl ((if0 _ _).trans (teq (by decide : (0 : Int32) = (0 : Int32))).1) (by decide) (by decide) ?_
            refine XS.iconst X113.here hx rfl (hb hby at_238) ?_
            exact kt)
        exact ⟨(0 : Int32), T113, _, X113, e113, N113, (Or.inr ⟨rfl, fun q => hd113 q.1⟩), pre124⟩
    have pre125 : Goes p e below s₁ (entryFrame m #[(.int qn), (.int qa), (.int qb), (.int qc), (.int qd)] maxLocals) T110 (mkF m 243 #[.val (.int qn), .val (.int qa), .val (.int qb), .val (.int qc), .val (.int qd), .val (.int 3), .val (.int dc2), .val (.int dc5), .val (.int dc8), .val (.int dc11), .val (.ref b89), .val (.int ex)] [(.ref b89)]) := fun t kt => pre111 t (by
        show Steps p.tables e below (T110.setTop (mkF m 239 #[.val (.int qn), .val (.int qa), .val (.int qb), .val (.int qc), .val (.int qd), .val (.int 3), .val (.int dc2), .val (.int dc5), .val (.int dc8), .val (.int dc11), .val (.ref b89), .unset] [(.int ex)])) _
        refine XS.istore X110.here hx rfl (hb hby at_239) rfl (l' := #[.val (.int qn), .val (.int qa), .val (.int qb), .val (.int qc), .val (.int qd), .val (.int 3), .val (.int dc2), .val (.int dc5), .val (.int dc8), .val (.int dc11), .val (.ref b89), .val (.int ex)]) rfl ?_
        refine XS.aload X110.here hx rfl (hb hby at_241) rfl rfl ?_
        exact kt)
    obtain ⟨_, _, ⟨T126, L126, k126, n126⟩, -, X126, ⟨Lc126, hQ126, l126, y126, z126⟩, st126⟩ := Jvm.LawKit.callS X110 hx (y := (⟨"com/example/tallygate/tallygate/AddressLiterals", "isDecimal", "(Ljava/lang/String;)Z"⟩ : MethodName)) hown (mvT hZ (hw _ (own_mG (i := 27) rfl))) (mvT hZ (hw _ (own_mG (i := 28) rfl))) (mvT hZ (hw _ (own_mG (i := 29) rfl))) (mvT hZ (hw _ (own_mG (i := 30) rfl))) (by decide) (backOf (W := 0) (own_dec3 l Z a0 hw [] b89 cd107 y107 ky107 dc2 dc5 dc8 cs fm T107.heap n0 (Nat.le_trans (Nat.le_trans (Nat.le_trans (Nat.le_trans (Nat.le_trans (Nat.le_trans Z0 E89.1) E92.1) (Keep.of_wr W96).1) (Keep.of_wr W100).1) (Keep.of_wr W104).1) K107q.1) Es107 Fc107 Fv107 SD107 hr2_ hr5_ hr8_ hst ((((((O0.ext E89).ext E92).wr W96 g_b92).wr W100 g_b92).wr W104 g_b92).keep K107q (allS g_b89 all0))) hZ (hw _ (own_mG (i := 30) rfl)) (hw _ (own_mG (i := 29) rfl)) (by decide) (by decide)) (g := (mkF m 243 #[.val (.int qn), .val (.int qa), .val (.int qb), .val (.int qc), .val (.int qd), .val (.int 3), .val (.int dc2), .val (.int dc5), .val (.int dc8), .val (.int dc11), .val (.ref b89), .val (.int ex)] [(.ref b89)])) rfl (by rw [hml]; rfl) (argsL := [(.ref b89)]) (rest := []) (lenOf own_pd17 rfl) rfl (by show 2 * 0 + _ ≤ _; exact Nat.le_of_eq rfl) (hb hby at_243) (fun _ _ => ⟨rfl, e110, (by decide : 4 + 0 ≤ _), (by decide : 16 + 0 ≤ _)⟩)
    dsimp only [Pt.U, Pt.locs, Pt.cells, Pt.slots] at X126 l126 y126 z126 st126 hQ126
    subst l126 y126 z126
    obtain ⟨dr126, rfl, N126q, e126, Hr126⟩ := hQ126
    have N126 := Fr.app NJ110 N126q
    have pre127 : Goes p e below s₁ (entryFrame m #[(.int qn), (.int qa), (.int qb), (.int qc), (.int qd)] maxLocals) T126 (mkF m 246 #[.val (.int qn), .val (.int qa), .val (.int qb), .val (.int qc), .val (.int qd), .val (.int 3), .val (.int dc2), .val (.int dc5), .val (.int dc8), .val (.int dc11), .val (.ref b89), .val (.int ex)] [(.int dr126)]) := fun t kt => pre125 t (st126 t kt)
    have heq : dr126 = ex := by rcases Hr126 with ⟨q1, q2⟩ | ⟨q1, q2⟩ <;> rcases hex with ⟨q3, q4⟩ | ⟨q3, q4⟩ <;> first | exact q1.trans q3.symm | exact absurd q2 q4 | exact absurd q4 q2
    have pre128 : Goes p e below s₁ (entryFrame m #[(.int qn), (.int qa), (.int qb), (.int qc), (.int qd)] maxLocals) T126 (mkF m 256 #[.val (.int qn), .val (.int qa), .val (.int qb), .val (.int qc), .val (.int qd), .val (.int 3), .val (.int dc2), .val (.int dc5), .val (.int dc8), .val (.int dc11), .val (.ref b89), .val (.int ex)] [(.int 1)]) := fun t kt => pre127 t (by
        show Steps p.tables e below (T126.setTop (mkF m 246 #[.val (.int qn), .val (.int qa), .val (.int qb), .val (.int qc), .val (.int qd), .val (.int 3), .val (.int dc2), .val (.int dc5), .val (.int dc8), .val (.int dc11), .val (.ref b89), .val (.int ex)] [(.int dr126)])) _
        refine XS.iload X126.here hx rfl (hb hby at_246) rfl ?_
        refine XS.icmpNo X126.here hx rfl (hb hby at_248) rfl (teq heq).2 ?_
        show Steps p.tables e below (T126.setTop (mkF m 251 #[.val (.int qn), .val (.int qa), .val (.int qb), .val (.int qc), .val (.int qd), .val (.int 3), .val (.int dc2), .val (.int dc5), .val (.int dc8), .val (.int dc11), .val (.ref b89), .val (.int ex)] [])) _
        refine XS.iconst X126.here hx rfl (hb hby at_251) ?_
        refine XS.goto X126.here hx rfl (pc0 := 252) (pc' := 256) rfl (hb hby at_252) (by decide) (by decide) ?_
        exact kt)
    obtain ⟨fs, hr, hrun, hended, hW, hsame⟩ := X126.leave (v := some (.int 1)) (fun h => by rw [Bd.returns] at h; cases h)
    have hEnd := ReturnedEndW.of_narrow (o := .returned (some (.int 1))) ⟨_, rfl⟩ hW hsame
    refine ⟨_, _, pre128 _ ?_, hrun, hended, _, _, rfl, ?_, ?_, hEnd.1, hEnd.2.1, hEnd.2.2.1, hEnd.2.2.2.mono (by decide) (by decide)⟩
    · show Steps p.tables e below (T126.setTop (mkF m 256 #[.val (.int qn), .val (.int qa), .val (.int qb), .val (.int qc), .val (.int qd), .val (.int 3), .val (.int dc2), .val (.int dc5), .val (.int dc8), .val (.int dc11), .val (.ref b89), .val (.int ex)] [(.int 1)])) _
      exact retN X126 hx (t := .boolean) Bd.returns (by simp) (hb hby at_256) hr
    · show Q_own_rm0 Z qn qa qb qc qd cs fm h0 n0 _ T126.heap _
      rw [e126]
      exact ⟨rfl, N126⟩
    · show CHr Z [("java/lang/String", 7)] s.vm s.heap T126.vm T126.heap
      rw [hh, e126]
      exact CH107.trans (CHv.at (s := s) (vm0 := s.vm) X126 hZ hEL CH107.1)
  · -- n = 4
    rw [show ((qn &&& (2147483647 : Int32)) % (5 : Int32)) = (4 : Int32) from hk] at pre13
    have pre129 : Goes p e below s₁ (entryFrame m #[(.int qn), (.int qa), (.int qb), (.int qc), (.int qd)] maxLocals) T11 (mkF m 146 #[.val (.int qn), .val (.int qa), .val (.int qb), .val (.int qc), .val (.int qd), .val (.int 4), .val (.int dc2), .val (.int dc5), .val (.int dc8), .val (.int dc11), .unset, .unset] []) := fun t kt => pre13 t (by
        show Steps p.tables e below (T11.setTop (mkF m 33 #[.val (.int qn), .val (.int qa), .val (.int qb), .val (.int qc), .val (.int qd), .val (.int 4), .val (.int dc2), .val (.int dc5), .val (.int dc8), .val (.int dc11), .unset, .unset] [])) _
        refine XS.iload X11.here hx rfl (hb hby at_33) rfl ?_
        refine XS.ifYes X11.here hx rfl (pc0 := 35) (pc' := 53) rfl (hb hby at_35) rfl ((if0 _ _).trans (feq (by decide : ¬ ((4 : Int32) = (0 : Int32)))).2) (by decide) (by decide) ?_
        show Steps p.tables e below (T11.setTop (mkF m 53 #[.val (.int qn), .val (.int qa), .val (.int qb), .val (.int qc), .val (.int qd), .val (.int 4), .val (.int dc2), .val (.int dc5), .val (.int dc8), .val (.int dc11), .unset, .unset] [])) _
        refine XS.iload X11.here hx rfl (hb hby at_53) rfl ?_
        refine XS.iconst X11.here hx rfl (hb hby at_55) ?_
        show Steps p.tables e below (T11.setTop (mkF m 56 #[.val (.int qn), .val (.int qa), .val (.int qb), .val (.int qc), .val (.int qd), .val (.int 4), .val (.int dc2), .val (.int dc5), .val (.int dc8), .val (.int dc11), .unset, .unset] [(.int 1), (.int 4)])) _
        refine XS.icmpYes X11.here hx rfl (pc0 := 56) (pc' := 79) rfl (hb hby at_56) rfl (feq (by decide : ¬ ((4 : Int32) = (1 : Int32)))).2 (by decide) (by decide) ?_
        refine XS.iload X11.here hx rfl (hb hby at_79) rfl ?_
        show Steps p.tables e below (T11.setTop (mkF m 81 #[.val (.int qn), .val (.int qa), .val (.int qb), .val (.int qc), .val (.int qd), .val (.int 4), .val (.int dc2), .val (.int dc5), .val (.int dc8), .val (.int dc11), .unset, .unset] [(.int 4)])) _
        refine XS.iconst X11.here hx rfl (hb hby at_81) ?_
        refine XS.icmpYes X11.here hx rfl (pc0 := 82) (pc' := 110) rfl (hb hby at_82) rfl (feq (by decide : ¬ ((4 : Int32) = (2 : Int32)))).2 (by decide) (by decide) ?_
        show Steps p.tables e below (T11.setTop (mkF m 110 #[.val (.int qn), .val (.int qa), .val (.int qb), .val (.int qc), .val (.int qd), .val (.int 4), .val (.int dc2), .val (.int dc5), .val (.int dc8), .val (.int dc11), .unset, .unset] [])) _
        refine XS.iload X11.here hx rfl (hb hby at_110) rfl ?_
        refine XS.iconst X11.here hx rfl (hb hby at_112) ?_
        show Steps p.tables e below (T11.setTop (mkF m 113 #[.val (.int qn), .val (.int qa), .val (.int qb), .val (.int qc), .val (.int qd), .val (.int 4), .val (.int dc2), .val (.int dc5), .val (.int dc8), .val (.int dc11), .unset, .unset] [(.int 3), (.int 4)])) _
        refine XS.icmpYes X11.here hx rfl (pc0 := 113) (pc' := 146) rfl (hb hby at_113) rfl (feq (by decide : ¬ ((4 : Int32) = (3 : Int32)))).2 (by decide) (by decide) ?_
        exact kt)
    obtain ⟨T130, h130, X130, e130, E130, A130, DD130, -, st130⟩ := newO X11 hx hZ hown (hw _ (own_mG (i := 5) rfl)) (hw _ (own_mG (i := 6) rfl)) (hw _ (own_mG (i := 7) rfl)) e11 (g := (mkF m 146 #[.val (.int qn), .val (.int qa), .val (.int qb), .val (.int qc), .val (.int qd), .val (.int 4), .val (.int dc2), .val (.int dc5), .val (.int dc8), .val (.int dc11), .unset, .unset] [])) rfl (hb hby at_146) (by decide) (by decide)
    obtain ⟨b130, g130⟩ : ∃ z, z = h0.size := ⟨_, rfl⟩
    rw [← g130] at A130 DD130 st130
    have F_value_b130 : Fld Z h130 b130 "java/lang/String" "value" "[B" .null := DD130 (Or.inr (hw _ (own_mG (i := 21) rfl))) (ty := (.array .byte)) (by decide)
    have F_coder_b130 : Fld Z h130 b130 "java/lang/String" "coder" "B" (.int 0) := DD130 (Or.inr (hw _ (own_mG (i := 22) rfl))) (ty := .byte) (by decide)
    have g_b130 : n0 ≤ b130 := Nat.le_trans Z0 (Nat.le_of_eq g130.symm)
    have sz_b130 : h0.size ≤ b130 := (Nat.le_trans (Keep.refl h0 []).1 (Nat.le_of_eq g130.symm))
    have K130 : Keep h0 h130 [] := (Keep.refl h0 []).ext E130
    have CH130 : CHr Z [("java/lang/String", 7)] s.vm h0 s.vm h130 := CH0.trans (CHr.ext E130 CH0.1)
    have pre131 : Goes p e below s₁ (entryFrame m #[(.int qn), (.int qa), (.int qb), (.int qc), (.int qd)] maxLocals) T130 (mkF m 149 #[.val (.int qn), .val (.int qa), .val (.int qb), .val (.int qc), .val (.int qd), .val (.int 4), .val (.int dc2), .val (.int dc5), .val (.int dc8), .val (.int dc11), .unset, .unset] [(.ref b130)]) := fun t kt => pre129 t (st130 t kt)
    have pre132 : Goes p e below s₁ (entryFrame m #[(.int qn), (.int qa), (.int qb), (.int qc), (.int qd)] maxLocals) T130 (mkF m 151 #[.val (.int qn), .val (.int qa), .val (.int qb), .val (.int qc), .val (.int qd), .val (.int 4), .val (.int dc2), .val (.int dc5), .val (.int dc8), .val (.int dc11), .unset, .unset] [(.int 4), (.ref b130), (.ref b130)]) := fun t kt => pre131 t (by
        show Steps p.tables e below (T130.setTop (mkF m 149 #[.val (.int qn), .val (.int qa), .val (.int qb), .val (.int qc), .val (.int qd), .val (.int 4), .val (.int dc2), .val (.int dc5), .val (.int dc8), .val (.int dc11), .unset, .unset] [(.ref b130)])) _
        refine XS.dup X130.here hx rfl (hb hby at_149) rfl rfl ?_
        refine XS.iconst X130.here hx rfl (hb hby at_150) ?_
        exact kt)
    obtain ⟨T133, h133, k133, X133, e133, E133, A133, st133⟩ := newP X130 hx hZ (hw _ (own_mG (i := 8) rfl)) e130 (g := (mkF m 151 #[.val (.int qn), .val (.int qa), .val (.int qb), .val (.int qc), .val (.int qd), .val (.int 4), .val (.int dc2), .val (.int dc5), .val (.int dc8), .val (.int dc11), .unset, .unset] [(.int 4), (.ref b130), (.ref b130)])) rfl (hb hby at_151) rfl (by decide) (cap := 4) (by decide) (by decide) (by decide) (by decide)
    obtain ⟨b133, g133⟩ : ∃ z, z = h130.size := ⟨_, rfl⟩
    rw [← g133] at A133 st133
    have V_b133 : Arv Z h133 b133 k133 .char (4 : Int32) [(.int 0), (.int 0), (.int 0), (.int 0)] (.int 0) := (Arv.new A133 (by decide)).pad (pad_rep [] (.int 0) 4)
    have g_b133 : n0 ≤ b133 := Nat.le_trans (Nat.le_trans Z0 E130.1) (Nat.le_of_eq g133.symm)
    have sz_b133 : h0.size ≤ b133 := (Nat.le_trans K130.1 (Nat.le_of_eq g133.symm))
    have K133 : Keep h0 h133 [] := K130.ext E133
    have CH133 : CHr Z [("java/lang/String", 7)] s.vm h0 s.vm h133 := CH130.trans (CHr.ext E133 CH130.1)
    have pre134 : Goes p e below s₁ (entryFrame m #[(.int qn), (.int qa), (.int qb), (.int qc), (.int qd)] maxLocals) T133 (mkF m 153 #[.val (.int qn), .val (.int qa), .val (.int qb), .val (.int qc), .val (.int qd), .val (.int 4), .val (.int dc2), .val (.int dc5), .val (.int dc8), .val (.int dc11), .unset, .unset] [(.ref b133), (.ref b130), (.ref b130)]) := fun t kt => pre132 t (st133 t kt)
    have pre135 : Goes p e below s₁ (entryFrame m #[(.int qn), (.int qa), (.int qb), (.int qc), (.int qd)] maxLocals) T133 (mkF m 157 #[.val (.int qn), .val (.int qa), .val (.int qb), .val (.int qc), .val (.int qd), .val (.int 4), .val (.int dc2), .val (.int dc5), .val (.int dc8), .val (.int dc11), .unset, .unset] [(.int dc2), (.int 0), (.ref b133), (.ref b133), (.ref b130), (.ref b130)]) := fun t kt => pre134 t (by
        show Steps p.tables e below (T133.setTop (mkF m 153 #[.val (.int qn), .val (.int qa), .val (.int qb), .val (.int qc), .val (.int qd), .val (.int 4), .val (.int dc2), .val (.int dc5), .val (.int dc8), .val (.int dc11), .unset, .unset] [(.ref b133), (.ref b130), (.ref b130)])) _
        refine XS.dup X133.here hx rfl (hb hby at_153) rfl rfl ?_
        refine XS.iconst X133.here hx rfl (hb hby at_154) ?_
        show Steps p.tables e below (T133.setTop (mkF m 155 #[.val (.int qn), .val (.int qa), .val (.int qb), .val (.int qc), .val (.int qd), .val (.int 4), .val (.int dc2), .val (.int dc5), .val (.int dc8), .val (.int dc11), .unset, .unset] [(.int 0), (.ref b133), (.ref b133), (.ref b130), (.ref b130)])) _
        refine XS.iload X133.here hx rfl (hb hby at_155) rfl ?_
        exact kt)
    obtain ⟨cl136, Ar136, q136, S136, N_136, H136, G136⟩ := (id (V_b133))
    have hin136 : ¬ ((0 : Int32) < 0 ∨ cl136.slots.size ≤ ((0 : Int32)).toNatClampNeg) := inb_of S136 ⟨by decide, by decide⟩
    obtain ⟨T137, h137, X137, e137, W137, st137⟩ := stC X133 hx hZ e133 Ar136 (j := (0 : Int32)) hin136 (g := (mkF m 157 #[.val (.int qn), .val (.int qa), .val (.int qb), .val (.int qc), .val (.int qd), .val (.int 4), .val (.int dc2), .val (.int dc5), .val (.int dc8), .val (.int dc11), .unset, .unset] [(.int dc2), (.int 0), (.ref b133), (.ref b133), (.ref b130), (.ref b130)])) rfl rfl (hb hby at_157)
    have V137 : Arv Z h137 b133 k133 .char (4 : Int32) [(.int (nar .char dc2)), (.int 0), (.int 0), (.int 0)] (.int 0) := Arv.set Ar136 q136 S136 N_136 H136 G136 (fits_nar_char _) W137 0 rfl (Nat.le_of_ble_eq_true rfl)
    have K137 : Keep h0 h137 [] := K133.wr W137 (Or.inr sz_b133)
    have CH137 : CHr Z [("java/lang/String", 7)] s.vm h0 s.vm h137 := CH133.trans (CHr.wr W137 (own_safeV hZ.alike V_b133 (by decide)) CH133.1)
    have N137 := Fr.snoc X137 N11 g_b133
    have pre138 : Goes p e below s₁ (entryFrame m #[(.int qn), (.int qa), (.int qb), (.int qc), (.int qd)] maxLocals) T137 (mkF m 158 #[.val (.int qn), .val (.int qa), .val (.int qb), .val (.int qc), .val (.int qd), .val (.int 4), .val (.int dc2), .val (.int dc5), .val (.int dc8), .val (.int dc11), .unset, .unset] [(.ref b133), (.ref b130), (.ref b130)]) := fun t kt => pre135 t (st137 t kt)
    have pre139 : Goes p e below s₁ (entryFrame m #[(.int qn), (.int qa), (.int qb), (.int qc), (.int qd)] maxLocals) T137 (mkF m 162 #[.val (.int qn), .val (.int qa), .val (.int qb), .val (.int qc), .val (.int qd), .val (.int 4), .val (.int dc2), .val (.int dc5), .val (.int dc8), .val (.int dc11), .unset, .unset] [(.int dc5), (.int 1), (.ref b133), (.ref b133), (.ref b130), (.ref b130)]) := fun t kt => pre138 t (by
        show Steps p.tables e below (T137.setTop (mkF m 158 #[.val (.int qn), .val (.int qa), .val (.int qb), .val (.int qc), .val (.int qd), .val (.int 4), .val (.int dc2), .val (.int dc5), .val (.int dc8), .val (.int dc11), .unset, .unset] [(.ref b133), (.ref b130), (.ref b130)])) _
        refine XS.dup X137.here hx rfl (hb hby at_158) rfl rfl ?_
        refine XS.iconst X137.here hx rfl (hb hby at_159) ?_
        show Steps p.tables e below (T137.setTop (mkF m 160 #[.val (.int qn), .val (.int qa), .val (.int qb), .val (.int qc), .val (.int qd), .val (.int 4), .val (.int dc2), .val (.int dc5), .val (.int dc8), .val (.int dc11), .unset, .unset] [(.int 1), (.ref b133), (.ref b133), (.ref b130), (.ref b130)])) _
        refine XS.iload X137.here hx rfl (hb hby at_160) rfl ?_
        exact kt)
    obtain ⟨cl140, Ar140, q140, S140, N_140, H140, G140⟩ := (id (V137))
    have hin140 : ¬ ((1 : Int32) < 0 ∨ cl140.slots.size ≤ ((1 : Int32)).toNatClampNeg) := inb_of S140 ⟨by decide, by decide⟩
    obtain ⟨T141, h141, X141, e141, W141, st141⟩ := stC X137 hx hZ e137 Ar140 (j := (1 : Int32)) hin140 (g := (mkF m 162 #[.val (.int qn), .val (.int qa), .val (.int qb), .val (.int qc), .val (.int qd), .val (.int 4), .val (.int dc2), .val (.int dc5), .val (.int dc8), .val (.int dc11), .unset, .unset] [(.int dc5), (.int 1), (.ref b133), (.ref b133), (.ref b130), (.ref b130)])) rfl rfl (hb hby at_162)
    have V141 : Arv Z h141 b133 k133 .char (4 : Int32) [(.int (nar .char dc2)), (.int (nar .char dc5)), (.int 0), (.int 0)] (.int 0) := Arv.set Ar140 q140 S140 N_140 H140 G140 (fits_nar_char _) W141 1 rfl (Nat.le_of_ble_eq_true rfl)
    have K141 : Keep h0 h141 [] := K137.wr W141 (Or.inr sz_b133)
    have CH141 : CHr Z [("java/lang/String", 7)] s.vm h0 s.vm h141 := CH137.trans (CHr.wr W141 (own_safeV hZ.alike V137 (by decide)) CH137.1)
    have N141 := Fr.snoc X141 N137 g_b133
    have pre142 : Goes p e below s₁ (entryFrame m #[(.int qn), (.int qa), (.int qb), (.int qc), (.int qd)] maxLocals) T141 (mkF m 163 #[.val (.int qn), .val (.int qa), .val (.int qb), .val (.int qc), .val (.int qd), .val (.int 4), .val (.int dc2), .val (.int dc5), .val (.int dc8), .val (.int dc11), .unset, .unset] [(.ref b133), (.ref b130), (.ref b130)]) := fun t kt => pre139 t (st141 t kt)
    have pre143 : Goes p e below s₁ (entryFrame m #[(.int qn), (.int qa), (.int qb), (.int qc), (.int qd)] maxLocals) T141 (mkF m 167 #[.val (.int qn), .val (.int qa), .val (.int qb), .val (.int qc), .val (.int qd), .val (.int 4), .val (.int dc2), .val (.int dc5), .val (.int dc8), .val (.int dc11), .unset, .unset] [(.int dc8), (.int 2), (.ref b133), (.ref b133), (.ref b130), (.ref b130)]) := fun t kt => pre142 t (by
        show Steps p.tables e below (T141.setTop (mkF m 163 #[.val (.int qn), .val (.int qa), .val (.int qb), .val (.int qc), .val (.int qd), .val (.int 4), .val (.int dc2), .val (.int dc5), .val (.int dc8), .val (.int dc11), .unset, .unset] [(.ref b133), (.ref b130), (.ref b130)])) _
        refine XS.dup X141.here hx rfl (hb hby at_163) rfl rfl ?_
        refine XS.iconst X141.here hx rfl (hb hby at_164) ?_
        show Steps p.tables e below (T141.setTop (mkF m 165 #[.val (.int qn), .val (.int qa), .val (.int qb), .val (.int qc), .val (.int qd), .val (.int 4), .val (.int dc2), .val (.int dc5), .val (.int dc8), .val (.int dc11), .unset, .unset] [(.int 2), (.ref b133), (.ref b133), (.ref b130), (.ref b130)])) _
        refine XS.iload X141.here hx rfl (hb hby at_165) rfl ?_
        exact kt)
    obtain ⟨cl144, Ar144, q144, S144, N_144, H144, G144⟩ := (id (V141))
    have hin144 : ¬ ((2 : Int32) < 0 ∨ cl144.slots.size ≤ ((2 : Int32)).toNatClampNeg) := inb_of S144 ⟨by decide, by decide⟩
    obtain ⟨T145, h145, X145, e145, W145, st145⟩ := stC X141 hx hZ e141 Ar144 (j := (2 : Int32)) hin144 (g := (mkF m 167 #[.val (.int qn), .val (.int qa), .val (.int qb), .val (.int qc), .val (.int qd), .val (.int 4), .val (.int dc2), .val (.int dc5), .val (.int dc8), .val (.int dc11), .unset, .unset] [(.int dc8), (.int 2), (.ref b133), (.ref b133), (.ref b130), (.ref b130)])) rfl rfl (hb hby at_167)
    have V145 : Arv Z h145 b133 k133 .char (4 : Int32) [(.int (nar .char dc2)), (.int (nar .char dc5)), (.int (nar .char dc8)), (.int 0)] (.int 0) := Arv.set Ar144 q144 S144 N_144 H144 G144 (fits_nar_char _) W145 2 rfl (Nat.le_of_ble_eq_true rfl)
    have K145 : Keep h0 h145 [] := K141.wr W145 (Or.inr sz_b133)
    have CH145 : CHr Z [("java/lang/String", 7)] s.vm h0 s.vm h145 := CH141.trans (CHr.wr W145 (own_safeV hZ.alike V141 (by decide)) CH141.1)
    have N145 := Fr.snoc X145 N141 g_b133
    have pre146 : Goes p e below s₁ (entryFrame m #[(.int qn), (.int qa), (.int qb), (.int qc), (.int qd)] maxLocals) T145 (mkF m 168 #[.val (.int qn), .val (.int qa), .val (.int qb), .val (.int qc), .val (.int qd), .val (.int 4), .val (.int dc2), .val (.int dc5), .val (.int dc8), .val (.int dc11), .unset, .unset] [(.ref b133), (.ref b130), (.ref b130)]) := fun t kt => pre143 t (st145 t kt)
    have pre147 : Goes p e below s₁ (entryFrame m #[(.int qn), (.int qa), (.int qb), (.int qc), (.int qd)] maxLocals) T145 (mkF m 172 #[.val (.int qn), .val (.int qa), .val (.int qb), .val (.int qc), .val (.int qd), .val (.int 4), .val (.int dc2), .val (.int dc5), .val (.int dc8), .val (.int dc11), .unset, .unset] [(.int dc11), (.int 3), (.ref b133), (.ref b133), (.ref b130), (.ref b130)]) := fun t kt => pre146 t (by
        show Steps p.tables e below (T145.setTop (mkF m 168 #[.val (.int qn), .val (.int qa), .val (.int qb), .val (.int qc), .val (.int qd), .val (.int 4), .val (.int dc2), .val (.int dc5), .val (.int dc8), .val (.int dc11), .unset, .unset] [(.ref b133), (.ref b130), (.ref b130)])) _
        refine XS.dup X145.here hx rfl (hb hby at_168) rfl rfl ?_
        refine XS.iconst X145.here hx rfl (hb hby at_169) ?_
        show Steps p.tables e below (T145.setTop (mkF m 170 #[.val (.int qn), .val (.int qa), .val (.int qb), .val (.int qc), .val (.int qd), .val (.int 4), .val (.int dc2), .val (.int dc5), .val (.int dc8), .val (.int dc11), .unset, .unset] [(.int 3), (.ref b133), (.ref b133), (.ref b130), (.ref b130)])) _
        refine XS.iload X145.here hx rfl (hb hby at_170) rfl ?_
        exact kt)
    obtain ⟨cl148, Ar148, q148, S148, N_148, H148, G148⟩ := (id (V145))
    have hin148 : ¬ ((3 : Int32) < 0 ∨ cl148.slots.size ≤ ((3 : Int32)).toNatClampNeg) := inb_of S148 ⟨by decide, by decide⟩
    obtain ⟨T149, h149, X149, e149, W149, st149⟩ := stC X145 hx hZ e145 Ar148 (j := (3 : Int32)) hin148 (g := (mkF m 172 #[.val (.int qn), .val (.int qa), .val (.int qb), .val (.int qc), .val (.int qd), .val (.int 4), .val (.int dc2), .val (.int dc5), .val (.int dc8), .val (.int dc11), .unset, .unset] [(.int dc11), (.int 3), (.ref b133), (.ref b133), (.ref b130), (.ref b130)])) rfl rfl (hb hby at_172)
    have V149 : Arv Z h149 b133 k133 .char (4 : Int32) [(.int (nar .char dc2)), (.int (nar .char dc5)), (.int (nar .char dc8)), (.int (nar .char dc11))] (.int 0) := Arv.set Ar148 q148 S148 N_148 H148 G148 (fits_nar_char _) W149 3 rfl (Nat.le_of_ble_eq_true rfl)
    have K149 : Keep h0 h149 [] := K145.wr W149 (Or.inr sz_b133)
    have CH149 : CHr Z [("java/lang/String", 7)] s.vm h0 s.vm h149 := CH145.trans (CHr.wr W149 (own_safeV hZ.alike V145 (by decide)) CH145.1)
    have N149 := Fr.snoc X149 N145 g_b133
    have pre150 : Goes p e below s₁ (entryFrame m #[(.int qn), (.int qa), (.int qb), (.int qc), (.int qd)] maxLocals) T149 (mkF m 173 #[.val (.int qn), .val (.int qa), .val (.int qb), .val (.int qc), .val (.int qd), .val (.int 4), .val (.int dc2), .val (.int dc5), .val (.int dc8), .val (.int dc11), .unset, .unset] [(.ref b133), (.ref b130), (.ref b130)]) := fun t kt => pre147 t (st149 t kt)
    have VV151 : Arv Z h149 b133 k133 .char (4 : Int32) [(.int dc2), (.int dc5), (.int dc8), (.int dc11)] (.int 0) := by have q := V149; simp only [own_nc dc2 hr2_, own_nc dc5 hr5_, own_nc dc8 hr8_, own_nc dc11 hr11_] at q; exact q
    obtain ⟨_, _, ⟨T152, L152, k152, n152⟩, -, X152, ⟨Lc152, hQ152, l152, y152, z152⟩, st152⟩ := X149.specialBack hx (y := (⟨"java/lang/String", "<init>", "([C)V"⟩ : MethodName)) rfl hown (mvT hZ (hw _ (own_mG (i := 9) rfl))) (mvT hZ (hw _ (own_mG (i := 10) rfl))) (mvT hZ (hw _ (own_mG (i := 11) rfl))) (by decide) (backOf (W := 1) (own_sJ4 l Z a0 hw [] b130 b133 k133 _ _ dc2 dc5 dc8 dc11 cs fm h149 n0 (Nat.le_trans (Nat.le_trans (Nat.le_trans (Nat.le_trans (Nat.le_trans (Nat.le_trans Z0 E130.1) E133.1) (Keep.of_wr W137).1) (Keep.of_wr W141).1) (Keep.of_wr W145).1) (Keep.of_wr W149).1) (((((A130.ext E133).wr W137).wr W141).wr W145).wr W149) (((((F_value_b130.ext E133).other W137 (Or.inl (Nat.ne_of_lt (Nat.lt_of_lt_of_le F_value_b130.lt (Nat.le_of_eq g133.symm))))).other W141 (Or.inl (Nat.ne_of_lt (Nat.lt_of_lt_of_le F_value_b130.lt (Nat.le_of_eq g133.symm))))).other W145 (Or.inl (Nat.ne_of_lt (Nat.lt_of_lt_of_le F_value_b130.lt (Nat.le_of_eq g133.symm))))).other W149 (Or.inl (Nat.ne_of_lt (Nat.lt_of_lt_of_le F_value_b130.lt (Nat.le_of_eq g133.symm))))) (((((F_coder_b130.ext E133).other W137 (Or.inl (Nat.ne_of_lt (Nat.lt_of_lt_of_le F_value_b130.lt (Nat.le_of_eq g133.symm))))).other W141 (Or.inl (Nat.ne_of_lt (Nat.lt_of_lt_of_le F_value_b130.lt (Nat.le_of_eq g133.symm))))).other W145 (Or.inl (Nat.ne_of_lt (Nat.lt_of_lt_of_le F_value_b130.lt (Nat.le_of_eq g133.symm))))).other W149 (Or.inl (Nat.ne_of_lt (Nat.lt_of_lt_of_le F_value_b130.lt (Nat.le_of_eq g133.symm))))) g_b130 VV151 hr2_ hr5_ hr8_ hr11_ hst ((((((O0.ext E130).ext E133).wr W137 g_b133).wr W141 g_b133).wr W145 g_b133).wr W149 g_b133)) hZ (hw _ (own_mG (i := 11) rfl)) (hw _ (own_mG (i := 7) rfl)) (by decide) (by decide)) (g := (mkF m 173 #[.val (.int qn), .val (.int qa), .val (.int qb), .val (.int qc), .val (.int qd), .val (.int 4), .val (.int dc2), .val (.int dc5), .val (.int dc8), .val (.int dc11), .unset, .unset] [(.ref b133), (.ref b130), (.ref b130)])) rfl (by rw [hml]; rfl) (Steps.refl _) (a := b130) (argsL := [(.ref b133)]) (rest := [(.ref b130)]) (lenOf own_pd16 rfl) rfl (by show 2 * 0 + _ ≤ _; exact Nat.le_of_eq rfl) (hb hby at_173) (fun _ _ => ⟨rfl, e149, (by decide : 2 + 2 ≤ _), (by decide : 8 + 12 ≤ _)⟩)
    dsimp only [Pt.U, Pt.locs, Pt.cells, Pt.slots] at X152 l152 y152 z152 st152 hQ152
    subst l152 y152 z152
    obtain ⟨rfl, N152q, K152q, Es152, cd152, y152, ky152, Fc152, Fv152, SD152⟩ := hQ152
    have N152 := Fr.app N149 N152q
    have KC152 : Keep h0 T152.heap [] := K149.trans K152q (allS (Or.inr sz_b130) all0)
    have CH152 : CHr Z [("java/lang/String", 7)] s.vm h0 s.vm T152.heap := CH149.trans (CHr.keep K152q (allS (own_safe hZ.alike (((((A130.ext E133).wr W137).wr W141).wr W145).wr W149) (((((F_value_b130.ext E133).other W137 (Or.inl (Nat.ne_of_lt (Nat.lt_of_lt_of_le F_value_b130.lt (Nat.le_of_eq g133.symm))))).other W141 (Or.inl (Nat.ne_of_lt (Nat.lt_of_lt_of_le F_value_b130.lt (Nat.le_of_eq g133.symm))))).other W145 (Or.inl (Nat.ne_of_lt (Nat.lt_of_lt_of_le F_value_b130.lt (Nat.le_of_eq g133.symm))))).other W149 (Or.inl (Nat.ne_of_lt (Nat.lt_of_lt_of_le F_value_b130.lt (Nat.le_of_eq g133.symm)))))) all0) CH149.1)
    have pre153 : Goes p e below s₁ (entryFrame m #[(.int qn), (.int qa), (.int qb), (.int qc), (.int qd)] maxLocals) T152 (mkF m 176 #[.val (.int qn), .val (.int qa), .val (.int qb), .val (.int qc), .val (.int qd), .val (.int 4), .val (.int dc2), .val (.int dc5), .val (.int dc8), .val (.int dc11), .unset, .unset] [(.ref b130)]) := fun t kt => pre150 t (st152.trans kt)
    have pre154 : Goes p e below s₁ (entryFrame m #[(.int qn), (.int qa), (.int qb), (.int qc), (.int qd)] maxLocals) T152 (mkF m 178 #[.val (.int qn), .val (.int qa), .val (.int qb), .val (.int qc), .val (.int qd), .val (.int 4), .val (.int dc2), .val (.int dc5), .val (.int dc8), .val (.int dc11), .val (.ref b130), .unset] []) := fun t kt => pre153 t (by
        show Steps p.tables e below (T152.setTop (mkF m 176 #[.val (.int qn), .val (.int qa), .val (.int qb), .val (.int qc), .val (.int qd), .val (.int 4), .val (.int dc2), .val (.int dc5), .val (.int dc8), .val (.int dc11), .unset, .unset] [(.ref b130)])) _
        refine XS.astore X152.here hx rfl (hb hby at_176) rfl rfl (l' := #[.val (.int qn), .val (.int qa), .val (.int qb), .val (.int qc), .val (.int qd), .val (.int 4), .val (.int dc2), .val (.int dc5), .val (.int dc8), .val (.int dc11), .val (.ref b130), .unset]) rfl ?_
        exact kt)
    obtain ⟨ex, T155, Lj155, X155, e155, NJ155, hex, pre156⟩ : ∃ (ex : Int32) (T155 : State) (Lj155 : List Loc), Stand p l e room_1 s m #[(.int qn), (.int qa), (.int qb), (.int qc), (.int qd)] below meth c T155 Lj155 4 20 ∧ T155.heap = T152.heap ∧ Fr n0 Lj155 ∧ ((ex = (1 : Int32) ∧ (own_dg dc2 ∧ own_dg dc5 ∧ own_dg dc8 ∧ own_dg dc11)) ∨ (ex = (0 : Int32) ∧ ¬ (own_dg dc2 ∧ own_dg dc5 ∧ own_dg dc8 ∧ own_dg dc11))) ∧ Goes p e below s₁ (entryFrame m #[(.int qn), (.int qa), (.int qb), (.int qc), (.int qd)] maxLocals) T155 (mkF m 239 #[.val (.int qn), .val (.int qa), .val (.int qb), .val (.int qc), .val (.int qd), .val (.int 4), .val (.int dc2), .val (.int dc5), .val (.int dc8), .val (.int dc11), .val (.ref b130), .unset] [(.int ex)]) := by
      have pre157 : Goes p e below s₁ (entryFrame m #[(.int qn), (.int qa), (.int qb), (.int qc), (.int qd)] maxLocals) T152 (mkF m 186 #[.val (.int qn), .val (.int qa), .val (.int qb), .val (.int qc), .val (.int qd), .val (.int 4), .val (.int dc2), .val (.int dc5), .val (.int dc8), .val (.int dc11), .val (.ref b130), .unset] [(.int dc2)]) := fun t kt => pre154 t (by
          show Steps p.tables e below (T152.setTop (mkF m 178 #[.val (.int qn), .val (.int qa), .val (.int qb), .val (.int qc), .val (.int qd), .val (.int 4), .val (.int dc2), .val (.int dc5), .val (.int dc8), .val (.int dc11), .val (.ref b130), .unset] [])) _
          refine XS.iload X152.here hx rfl (hb hby at_178) rfl ?_
          refine XS.iconst X152.here hx rfl (hb hby at_180) ?_
          show Steps p.tables e below (T152.setTop (mkF m 181 #[.val (.int qn), .val (.int qa), .val (.int qb), .val (.int qc), .val (.int qd), .val (.int 4), .val (.int dc2), .val (.int dc5), .val (.int dc8), .val (.int dc11), .val (.ref b130), .unset] [(.int 1), (.int 4)])) _
          refine XS.icmpNo X152.here hx rfl (hb hby at_181) rfl (flt (by decide : ¬ ((4 : Int32) < (1 : Int32)))).1 ?_
          refine XS.iload X152.here hx rfl (hb hby at_184) rfl ?_
          exact kt)
      obtain ⟨_, _, ⟨T158, L158, k158, n158⟩, -, X158, ⟨Lc158, hQ158, l158, y158, z158⟩, st158⟩ := Jvm.LawKit.callS X152 hx (y := (⟨"com/example/tallygate/tallygate/AddressLiteralsIsDecimalPinLaw", "digit", "(C)Z"⟩ : MethodName)) hown (mvT hZ (hw _ (own_mG (i := 52) rfl))) (mvT hZ (hw _ (own_mG (i := 53) rfl))) (mvT hZ (hw _ (own_mG (i := 3) rfl))) (mvT hZ (hw _ (own_mG (i := 54) rfl))) (by decide) (backOf (W := 0) (own_digit l Z a0 hw [] dc2 T152.heap n0 (Nat.le_trans (Nat.le_trans (Nat.le_trans (Nat.le_trans (Nat.le_trans (Nat.le_trans (Nat.le_trans Z0 E130.1) E133.1) (Keep.of_wr W137).1) (Keep.of_wr W141).1) (Keep.of_wr W145).1) (Keep.of_wr W149).1) K152q.1) ) hZ (hw _ (own_mG (i := 54) rfl)) (hw _ (own_mG (i := 3) rfl)) (by decide) (by decide)) (g := (mkF m 186 #[.val (.int qn), .val (.int qa), .val (.int qb), .val (.int qc), .val (.int qd), .val (.int 4), .val (.int dc2), .val (.int dc5), .val (.int dc8), .val (.int dc11), .val (.ref b130), .unset] [(.int dc2)])) rfl (by rw [hml]; rfl) (argsL := [(.int dc2)]) (rest := []) (lenOf own_pd18 rfl) rfl (by show 2 * 0 + _ ≤ _; exact Nat.le_of_eq rfl) (hb hby at_186) (fun _ _ => ⟨rfl, rfl, (by decide : 4 + 0 ≤ _), (by decide : 20 + 0 ≤ _)⟩)
      dsimp only [Pt.U, Pt.locs, Pt.cells, Pt.slots] at X158 l158 y158 z158 st158 hQ158
      subst l158 y158 z158
      obtain ⟨dz158, rfl, N158q, e158, Hd158⟩ := hQ158
      have N158 := Fr.app N152 N158q
      have pre159 : Goes p e below s₁ (entryFrame m #[(.int qn), (.int qa), (.int qb), (.int qc), (.int qd)] maxLocals) T158 (mkF m 189 #[.val (.int qn), .val (.int qa), .val (.int qb), .val (.int qc), .val (.int qd), .val (.int 4), .val (.int dc2), .val (.int dc5), .val (.int dc8), .val (.int dc11), .val (.ref b130), .unset] [(.int dz158)]) := fun t kt => pre157 t (st158 t kt)
      rcases Hd158 with ⟨rfl, hd158⟩ | ⟨rfl, hd158⟩
      · -- digit 1
        have pre160 : Goes p e below s₁ (entryFrame m #[(.int qn), (.int qa), (.int qb), (.int qc), (.int qd)] maxLocals) T158 (mkF m 200 #[.val (.int qn), .val (.int qa), .val (.int qb), .val (.int qc), .val (.int qd), .val (.int 4), .val (.int dc2), .val (.int dc5), .val (.int dc8), .val (.int dc11), .val (.ref b130), .unset] [(.int dc5)]) := fun t kt => pre159 t (by
            show Steps p.tables e below (T158.setTop (mkF m 189 #[.val (.int qn), .val (.int qa), .val (.int qb), .val (.int qc), .val (.int qd), .val (.int 4), .val (.int dc2), .val (.int dc5), .val (.int dc8), .val (.int dc11), .val (.ref b130), .unset] [(.int 1)])) _
            refine XS.ifNo X158.here hx rfl (hb hby at_189) rfl ((if0 _ _).trans (feq (by decide : ¬ ((1 : Int32) = (0 : Int32)))).1) ?_
            refine XS.iload X158.here hx rfl (hb hby at_192) rfl ?_
            show Steps p.tables e below (T158.setTop (mkF m 194 #[.val (.int qn), .val (.int qa), .val (.int qb), .val (.int qc), .val (.int qd), .val (.int 4), .val (.int dc2), .val (.int dc5), .val (.int dc8), .val (.int dc11), .val (.ref b130), .unset] [(.int 4)])) _
            refine XS.iconst X158.here hx rfl (hb hby at_194) ?_
            refine XS.icmpNo X158.here hx rfl (hb hby at_195) rfl (flt (by decide : ¬ ((4 : Int32) < (2 : Int32)))).1 ?_
            show Steps p.tables e below (T158.setTop (mkF m 198 #[.val (.int qn), .val (.int qa), .val (.int qb), .val (.int qc), .val (.int qd), .val (.int 4), .val (.int dc2), .val (.int dc5), .val (.int dc8), .val (.int dc11), .val (.ref b130), .unset] [])) _
            refine XS.iload X158.here hx rfl (hb hby at_198) rfl ?_
            exact kt)
        obtain ⟨_, _, ⟨T161, L161, k161, n161⟩, -, X161, ⟨Lc161, hQ161, l161, y161, z161⟩, st161⟩ := Jvm.LawKit.callS X158 hx (y := (⟨"com/example/tallygate/tallygate/AddressLiteralsIsDecimalPinLaw", "digit", "(C)Z"⟩ : MethodName)) hown (mvT hZ (hw _ (own_mG (i := 52) rfl))) (mvT hZ (hw _ (own_mG (i := 53) rfl))) (mvT hZ (hw _ (own_mG (i := 3) rfl))) (mvT hZ (hw _ (own_mG (i := 54) rfl))) (by decide) (backOf (W := 0) (own_digit l Z a0 hw [] dc5 T152.heap n0 (Nat.le_trans (Nat.le_trans (Nat.le_trans (Nat.le_trans (Nat.le_trans (Nat.le_trans (Nat.le_trans Z0 E130.1) E133.1) (Keep.of_wr W137).1) (Keep.of_wr W141).1) (Keep.of_wr W145).1) (Keep.of_wr W149).1) K152q.1) ) hZ (hw _ (own_mG (i := 54) rfl)) (hw _ (own_mG (i := 3) rfl)) (by decide) (by decide)) (g := (mkF m 200 #[.val (.int qn), .val (.int qa), .val (.int qb), .val (.int qc), .val (.int qd), .val (.int 4), .val (.int dc2), .val (.int dc5), .val (.int dc8), .val (.int dc11), .val (.ref b130), .unset] [(.int dc5)])) rfl (by rw [hml]; rfl) (argsL := [(.int dc5)]) (rest := []) (lenOf own_pd18 rfl) rfl (by show 2 * 0 + _ ≤ _; exact Nat.le_of_eq rfl) (hb hby at_200) (fun _ _ => ⟨rfl, e158, (by decide : 4 + 0 ≤ _), (by decide : 20 + 0 ≤ _)⟩)
        dsimp only [Pt.U, Pt.locs, Pt.cells, Pt.slots] at X161 l161 y161 z161 st161 hQ161
        subst l161 y161 z161
        obtain ⟨dz161, rfl, N161q, e161, Hd161⟩ := hQ161
        have N161 := Fr.app N158 N161q
        have pre162 : Goes p e below s₁ (entryFrame m #[(.int qn), (.int qa), (.int qb), (.int qc), (.int qd)] maxLocals) T161 (mkF m 203 #[.val (.int qn), .val (.int qa), .val (.int qb), .val (.int qc), .val (.int qd), .val (.int 4), .val (.int dc2), .val (.int dc5), .val (.int dc8), .val (.int dc11), .val (.ref b130), .unset] [(.int dz161)]) := fun t kt => pre160 t (st161 t kt)
        rcases Hd161 with ⟨rfl, hd161⟩ | ⟨rfl, hd161⟩
        · -- digit 1
          have pre163 : Goes p e below s₁ (entryFrame m #[(.int qn), (.int qa), (.int qb), (.int qc), (.int qd)] maxLocals) T161 (mkF m 214 #[.val (.int qn), .val (.int qa), .val (.int qb), .val (.int qc), .val (.int qd), .val (.int 4), .val (.int dc2), .val (.int dc5), .val (.int dc8), .val (.int dc11), .val (.ref b130), .unset] [(.int dc8)]) := fun t kt => pre162 t (by
              show Steps p.tables e below (T161.setTop (mkF m 203 #[.val (.int qn), .val (.int qa), .val (.int qb), .val (.int qc), .val (.int qd), .val (.int 4), .val (.int dc2), .val (.int dc5), .val (.int dc8), .val (.int dc11), .val (.ref b130), .unset] [(.int 1)])) _
              refine XS.ifNo X161.here hx rfl (hb hby at_203) rfl ((if0 _ _).trans (feq (by decide : ¬ ((1 : Int32) = (0 : Int32)))).1) ?_
              refine XS.iload X161.here hx rfl (hb hby at_206) rfl ?_
              show Steps p.tables e below (T161.setTop (mkF m 208 #[.val (.int qn), .val (.int qa), .val (.int qb), .val (.int qc), .val (.int qd), .val (.int 4), .val (.int dc2), .val (.int dc5), .val (.int dc8), .val (.int dc11), .val (.ref b130), .unset] [(.int 4)])) _
              refine XS.iconst X161.here hx rfl (hb hby at_208) ?_
              refine XS.icmpNo X161.here hx rfl (hb hby at_209) rfl (flt (by decide : ¬ ((4 : Int32) < (3 : Int32)))).1 ?_
              show Steps p.tables e below (T161.setTop (mkF m 212 #[.val (.int qn), .val (.int qa), .val (.int qb), .val (.int qc), .val (.int qd), .val (.int 4), .val (.int dc2), .val (.int dc5), .val (.int dc8), .val (.int dc11), .val (.ref b130), .unset] [])) _
              refine XS.iload X161.here hx rfl (hb hby at_212) rfl ?_
              exact kt)
          obtain ⟨_, _, ⟨T164, L164, k164, n164⟩, -, X164, ⟨Lc164, hQ164, l164, y164, z164⟩, st164⟩ := Jvm.LawKit.callS X161 hx (y := (⟨"com/example/tallygate/tallygate/AddressLiteralsIsDecimalPinLaw", "digit", "(C)Z"⟩ : MethodName)) hown (mvT hZ (hw _ (own_mG (i := 52) rfl))) (mvT hZ (hw _ (own_mG (i := 53) rfl))) (mvT hZ (hw _ (own_mG (i := 3) rfl))) (mvT hZ (hw _ (own_mG (i := 54) rfl))) (by decide) (backOf (W := 0) (own_digit l Z a0 hw [] dc8 T152.heap n0 (Nat.le_trans (Nat.le_trans (Nat.le_trans (Nat.le_trans (Nat.le_trans (Nat.le_trans (Nat.le_trans Z0 E130.1) E133.1) (Keep.of_wr W137).1) (Keep.of_wr W141).1) (Keep.of_wr W145).1) (Keep.of_wr W149).1) K152q.1) ) hZ (hw _ (own_mG (i := 54) rfl)) (hw _ (own_mG (i := 3) rfl)) (by decide) (by decide)) (g := (mkF m 214 #[.val (.int qn), .val (.int qa), .val (.int qb), .val (.int qc), .val (.int qd), .val (.int 4), .val (.int dc2), .val (.int dc5), .val (.int dc8), .val (.int dc11), .val (.ref b130), .unset] [(.int dc8)])) rfl (by rw [hml]; rfl) (argsL := [(.int dc8)]) (rest := []) (lenOf own_pd18 rfl) rfl (by show 2 * 0 + _ ≤ _; exact Nat.le_of_eq rfl) (hb hby at_214) (fun _ _ => ⟨rfl, e161, (by decide : 4 + 0 ≤ _), (by decide : 20 + 0 ≤ _)⟩)
          dsimp only [Pt.U, Pt.locs, Pt.cells, Pt.slots] at X164 l164 y164 z164 st164 hQ164
          subst l164 y164 z164
          obtain ⟨dz164, rfl, N164q, e164, Hd164⟩ := hQ164
          have N164 := Fr.app N161 N164q
          have pre165 : Goes p e below s₁ (entryFrame m #[(.int qn), (.int qa), (.int qb), (.int qc), (.int qd)] maxLocals) T164 (mkF m 217 #[.val (.int qn), .val (.int qa), .val (.int qb), .val (.int qc), .val (.int qd), .val (.int 4), .val (.int dc2), .val (.int dc5), .val (.int dc8), .val (.int dc11), .val (.ref b130), .unset] [(.int dz164)]) := fun t kt => pre163 t (st164 t kt)
          rcases Hd164 with ⟨rfl, hd164⟩ | ⟨rfl, hd164⟩
          · -- digit 1
            have pre166 : Goes p e below s₁ (entryFrame m #[(.int qn), (.int qa), (.int qb), (.int qc), (.int qd)] maxLocals) T164 (mkF m 228 #[.val (.int qn), .val (.int qa), .val (.int qb), .val (.int qc), .val (.int qd), .val (.int 4), .val (.int dc2), .val (.int dc5), .val (.int dc8), .val (.int dc11), .val (.ref b130), .unset] [(.int dc11)]) := fun t kt => pre165 t (by
                show Steps p.tables e below (T164.setTop (mkF m 217 #[.val (.int qn), .val (.int qa), .val (.int qb), .val (.int qc), .val (.int qd), .val (.int 4), .val (.int dc2), .val (.int dc5), .val (.int dc8), .val (.int dc11), .val (.ref b130), .unset] [(.int 1)])) _
                refine XS.ifNo X164.here hx rfl (hb hby at_217) rfl ((if0 _ _).trans (feq (by decide : ¬ ((1 : Int32) = (0 : Int32)))).1) ?_
                refine XS.iload X164.here hx rfl (hb hby at_220) rfl ?_
                show Steps p.tables e below (T164.setTop (mkF m 222 #[.val (.int qn), .val (.int qa), .val (.int qb), .val (.int qc), .val (.int qd), .val (.int 4), .val (.int dc2), .val (.int dc5), .val (.int dc8), .val (.int dc11), .val (.ref b130), .unset] [(.int 4)])) _
                refine XS.iconst X164.here hx rfl (hb hby at_222) ?_
                refine XS.icmpNo X164.here hx rfl (hb hby at_223) rfl (flt (by decide : ¬ ((4 : Int32) < (4 : Int32)))).1 ?_
                show Steps p.tables e below (T164.setTop (mkF m 226 #[.val (.int qn), .val (.int qa), .val (.int qb), .val (.int qc), .val (.int qd), .val (.int 4), .val (.int dc2), .val (.int dc5), .val (.int dc8), .val (.int dc11), .val (.ref b130), .unset] [])) _
                refine XS.iload X164.here hx rfl (hb hby at_226) rfl ?_
                exact kt)
            obtain ⟨_, _, ⟨T167, L167, k167, n167⟩, -, X167, ⟨Lc167, hQ167, l167, y167, z167⟩, st167⟩ := Jvm.LawKit.callS X164 hx (y := (⟨"com/example/tallygate/tallygate/AddressLiteralsIsDecimalPinLaw", "digit", "(C)Z"⟩ : MethodName)) hown (mvT hZ (hw _ (own_mG (i := 52) rfl))) (mvT hZ (hw _ (own_mG (i := 53) rfl))) (mvT hZ (hw _ (own_mG (i := 3) rfl))) (mvT hZ (hw _ (own_mG (i := 54) rfl))) (by decide) (backOf (W := 0) (own_digit l Z a0 hw [] dc11 T152.heap n0 (Nat.le_trans (Nat.le_trans (Nat.le_trans (Nat.le_trans (Nat.le_trans (Nat.le_trans (Nat.le_trans Z0 E130.1) E133.1) (Keep.of_wr W137).1) (Keep.of_wr W141).1) (Keep.of_wr W145).1) (Keep.of_wr W149).1) K152q.1) ) hZ (hw _ (own_mG (i := 54) rfl)) (hw _ (own_mG (i := 3) rfl)) (by decide) (by decide)) (g := (mkF m 228 #[.val (.int qn), .val (.int qa), .val (.int qb), .val (.int qc), .val (.int qd), .val (.int 4), .val (.int dc2), .val (.int dc5), .val (.int dc8), .val (.int dc11), .val (.ref b130), .unset] [(.int dc11)])) rfl (by rw [hml]; rfl) (argsL := [(.int dc11)]) (rest := []) (lenOf own_pd18 rfl) rfl (by show 2 * 0 + _ ≤ _; exact Nat.le_of_eq rfl) (hb hby at_228) (fun _ _ => ⟨rfl, e164, (by decide : 4 + 0 ≤ _), (by decide : 20 + 0 ≤ _)⟩)
            dsimp only [Pt.U, Pt.locs, Pt.cells, Pt.slots] at X167 l167 y167 z167 st167 hQ167
            subst l167 y167 z167
            obtain ⟨dz167, rfl, N167q, e167, Hd167⟩ := hQ167
            have N167 := Fr.app N164 N167q
            have pre168 : Goes p e below s₁ (entryFrame m #[(.int qn), (.int qa), (.int qb), (.int qc), (.int qd)] maxLocals) T167 (mkF m 231 #[.val (.int qn), .val (.int qa), .val (.int qb), .val (.int qc), .val (.int qd), .val (.int 4), .val (.int dc2), .val (.int dc5), .val (.int dc8), .val (.int dc11), .val (.ref b130), .unset] [(.int dz167)]) := fun t kt => pre166 t (st167 t kt)
            rcases Hd167 with ⟨rfl, hd167⟩ | ⟨rfl, hd167⟩
            · -- digit 1
              have pre169 : Goes p e below s₁ (entryFrame m #[(.int qn), (.int qa), (.int qb), (.int qc), (.int qd)] maxLocals) T167 (mkF m 239 #[.val (.int qn), .val (.int qa), .val (.int qb), .val (.int qc), .val (.int qd), .val (.int 4), .val (.int dc2), .val (.int dc5), .val (.int dc8), .val (.int dc11), .val (.ref b130), .unset] [(.int 1)]) := fun t kt => pre168 t (by
                  show Steps p.tables e below (T167.setTop (mkF m 231 #[.val (.int qn), .val (.int qa), .val (.int qb), .val (.int qc), .val (.int qd), .val (.int 4), .val (.int dc2), .val (.int dc5), .val (.int dc8), .val (.int dc11), .val (.ref b130), .unset] [(.int 1)])) _
                  refine XS.ifNo X167.here hx rfl (hb hby at_231) rfl ((if0 _ _).trans (feq (by decide : ¬ ((1 : Int32) = (0 : Int32)))).1) ?_
                  refine XS.iconst X167.here hx rfl (hb hby at_234) ?_
                  show Steps p.tables e below (T167.setTop (mkF m 235 #[.val (.int qn), .val (.int qa), .val (.int qb), .val (.int qc), .val (.int qd), .val (.int 4), .val (.int dc2), .val (.int dc5), .val (.int dc8), .val (.int dc11), .val (.ref b130), .unset] [(.int 1)])) _
                  refine XS.goto X167.here hx rfl (pc0 := 235) (pc' := 239) rfl (hb hby at_235) (by decide) (by decide) ?_
                  exact kt)
              exact ⟨(1 : Int32), T167, _, X167, e167, N167, (Or.inl ⟨rfl, hd158, hd161, hd164, hd167⟩), pre169⟩
            · -- digit 0
              have pre170 : Goes p e below s₁ (entryFrame m #[(.int qn), (.int qa), (.int qb), (.int qc), (.int qd)] maxLocals) T167 (mkF m 239 #[.val (.int qn), .val (.int qa), .val (.int qb), .val (.int qc), .val (.int qd), .val (.int 4), .val (.int dc2), .val (.int dc5), .val (.int dc8), .val (.int dc11), .val (.ref b130), .unset] [(.int 0)]) := fun t kt => pre168 t (by
                  show Steps p.tables e below (T167.setTop (mkF m 231 #[.val (.int qn), .val (.int qa), .val (.int qb), .val (.int qc), .val (.int qd), .val (.int 4), .val (.int dc2), .val (.int dc5), .val (.int dc8), .val (.int dc11), .val (.ref b130), .unset] [(.int 0)])) _
                  refine XS.ifYes X167.here hx rfl (pc0 := 231) (pc' := 238) rfl (hb hby at_231) rfl ((if0 _ _).trans (teq (by decide : (0 : Int32) = (0 : Int32))).1) (by decide) (by decide) ?_
                  refine XS.iconst X167.here hx rfl (hb hby at_238) ?_
                  exact kt)
              exact ⟨(0 : Int32), T167, _, X167, e167, N167, (Or.inr ⟨rfl, fun q => hd167 q.2.2.2⟩), pre170⟩
          · -- digit 0
            have pre171 : Goes p e below s₁ (entryFrame m #[(.int qn), (.int qa), (.int qb), (.int qc), (.int qd)] maxLocals) T164 (mkF m 239 #[.val (.int qn), .val (.int qa), .val (.int qb), .val (.int qc), .val (.int qd), .val (.int 4), .val (.int dc2), .val (.int dc5), .val (.int dc8), .val (.int dc11), .val (.ref b130), .unset] [(.int 0)]) := fun t kt => pre165 t (by
                show Steps p.tables e below (T164.setTop (mkF m 217 #[.val (.int qn), .val (.int qa), .val (.int qb), .val (.int qc), .val (.int qd), .val (.int 4), .val (.int dc2), .val (.int dc5), .val (.int dc8), .val (.int dc11), .val (.ref b130), .unset] [(.int 0)])) _
                refine XS.ifYes X164.here hx rfl (pc0 := 217) (pc' := 238) rfl (hb hby at_217) rfl ((if0 _ _).trans (teq (by decide : (0 : Int32) = (0 : Int32))).1) (by decide) (by decide) ?_
                refine XS.iconst X164.here hx rfl (hb hby at_238) ?_
                exact kt)
            exact ⟨(0 : Int32), T164, _, X164, e164, N164, (Or.inr ⟨rfl, fun q => hd164 q.2.2.1⟩), pre171⟩
        · -- digit 0
          have pre172 : Goes p e below s₁ (entryFrame m #[(.int qn), (.int qa), (.int qb), (.int qc), (.int qd)] maxLocals) T161 (mkF m 239 #[.val (.int qn), .val (.int qa), .val (.int qb), .val (.int qc), .val (.int qd), .val (.int 4), .val (.int dc2), .val (.int dc5), .val (.int dc8), .val (.int dc11), .val (.ref b130), .unset] [(.int 0)]) := fun t kt => pre162 t (by
              show Steps p.tables e below (T161.setTop (mkF m 203 #[.val (.int qn), .val (.int qa), .val (.int qb), .val (.int qc), .val (.int qd), .val (.int 4), .val (.int dc2), .val (.int dc5), .val (.int dc8), .val (.int dc11), .val (.ref b130), .unset] [(.int 0)])) _
              refine XS.ifYes X161.here hx rfl (pc0 := 203) (pc' := 238) rfl (hb hby at_203) rfl ((if0 _ _).trans (teq (by decide : (0 : Int32) = (0 : Int32))).1) (by decide) (by decide) ?_
              refine XS.iconst X161.here hx rfl (hb hby at_238) ?_
              exact kt)
          exact ⟨(0 : Int32), T161, _, X161, e161, N161, (Or.inr ⟨rfl, fun q => hd161 q.2.1⟩), pre172⟩
      · -- digit 0
        have pre173 : Goes p e below s₁ (entryFrame m #[(.int qn), (.int qa), (.int qb), (.int qc), (.int qd)] maxLocals) T158 (mkF m 239 #[.val (.int qn), .val (.int qa), .val (.int qb), .val (.int qc), .val (.int qd), .val (.int 4), .val (.int dc2), .val (.int dc5), .val (.int dc8), .val (.int dc11), .val (.ref b130), .unset] [(.int 0)]) := fun t kt => pre159 t (by
            show Steps p.tables e below (T158.setTop (mkF m 189 #[.val (.int qn), .val (.int qa), .val (.int qb), .val (.int qc), .val (.int qd), .val (.int 4), .val (.int dc2), .val (.int dc5), .val (.int dc8), .val (.int dc11), .val (.ref b130), .unset] [(.int 0)])) _
            refine XS.ifYes X158.here hx rfl (pc0 := 189) (pc' := 238) rfl (hb hby at_189) rfl ((if0 _ _).trans (teq (by decide : (0 : Int32) = (0 : Int32))).1) (by decide) (by decide) ?_
            refine XS.iconst X158.here hx rfl (hb hby at_238) ?_
            exact kt)
        exact ⟨(0 : Int32), T158, _, X158, e158, N158, (Or.inr ⟨rfl, fun q => hd158 q.1⟩), pre173⟩
    have pre174 : Goes p e below s₁ (entryFrame m #[(.int qn), (.int qa), (.int qb), (.int qc), (.int qd)] maxLocals) T155 (mkF m 243 #[.val (.int qn), .val (.int qa), .val (.int qb), .val (.int qc), .val (.int qd), .val (.int 4), .val (.int dc2), .val (.int dc5), .val (.int dc8), .val (.int dc11), .val (.ref b130), .val (.int ex)] [(.ref b130)]) := fun t kt => pre156 t (by
        show Steps p.tables e below (T155.setTop (mkF m 239 #[.val (.int qn), .val (.int qa), .val (.int qb), .val (.int qc), .val (.int qd), .val (.int 4), .val (.int dc2), .val (.int dc5), .val (.int dc8), .val (.int dc11), .val (.ref b130), .unset] [(.int ex)])) _
        refine XS.istore X155.here hx rfl (hb hby at_239) rfl (l' := #[.val (.int qn), .val (.int qa), .val (.int qb), .val (.int qc), .val (.int qd), .val (.int 4), .val (.int dc2), .val (.int dc5), .val (.int dc8), .val (.int dc11), .val (.ref b130), .val (.int ex)]) rfl ?_
        refine XS.aload X155.here hx rfl (hb hby at_241) rfl rfl ?_
        exact kt)
    obtain ⟨_, _, ⟨T175, L175, k175, n175⟩, -, X175, ⟨Lc175, hQ175, l175, y175, z175⟩, st175⟩ := Jvm.LawKit.callS X155 hx (y := (⟨"com/example/tallygate/tallygate/AddressLiterals", "isDecimal", "(Ljava/lang/String;)Z"⟩ : MethodName)) hown (mvT hZ (hw _ (own_mG (i := 27) rfl))) (mvT hZ (hw _ (own_mG (i := 28) rfl))) (mvT hZ (hw _ (own_mG (i := 29) rfl))) (mvT hZ (hw _ (own_mG (i := 30) rfl))) (by decide) (backOf (W := 0) (own_dec4 l Z a0 hw [] b130 cd152 y152 ky152 dc2 dc5 dc8 dc11 cs fm T152.heap n0 (Nat.le_trans (Nat.le_trans (Nat.le_trans (Nat.le_trans (Nat.le_trans (Nat.le_trans (Nat.le_trans Z0 E130.1) E133.1) (Keep.of_wr W137).1) (Keep.of_wr W141).1) (Keep.of_wr W145).1) (Keep.of_wr W149).1) K152q.1) Es152 Fc152 Fv152 SD152 hr2_ hr5_ hr8_ hr11_ hst (((((((O0.ext E130).ext E133).wr W137 g_b133).wr W141 g_b133).wr W145 g_b133).wr W149 g_b133).keep K152q (allS g_b130 all0))) hZ (hw _ (own_mG (i := 30) rfl)) (hw _ (own_mG (i := 29) rfl)) (by decide) (by decide)) (g := (mkF m 243 #[.val (.int qn), .val (.int qa), .val (.int qb), .val (.int qc), .val (.int qd), .val (.int 4), .val (.int dc2), .val (.int dc5), .val (.int dc8), .val (.int dc11), .val (.ref b130), .val (.int ex)] [(.ref b130)])) rfl (by rw [hml]; rfl) (argsL := [(.ref b130)]) (rest := []) (lenOf own_pd17 rfl) rfl (by show 2 * 0 + _ ≤ _; exact Nat.le_of_eq rfl) (hb hby at_243) (fun _ _ => ⟨rfl, e155, (by decide : 4 + 0 ≤ _), (by decide : 20 + 0 ≤ _)⟩)
    dsimp only [Pt.U, Pt.locs, Pt.cells, Pt.slots] at X175 l175 y175 z175 st175 hQ175
    subst l175 y175 z175
    obtain ⟨dr175, rfl, N175q, e175, Hr175⟩ := hQ175
    have N175 := Fr.app NJ155 N175q
    have pre176 : Goes p e below s₁ (entryFrame m #[(.int qn), (.int qa), (.int qb), (.int qc), (.int qd)] maxLocals) T175 (mkF m 246 #[.val (.int qn), .val (.int qa), .val (.int qb), .val (.int qc), .val (.int qd), .val (.int 4), .val (.int dc2), .val (.int dc5), .val (.int dc8), .val (.int dc11), .val (.ref b130), .val (.int ex)] [(.int dr175)]) := fun t kt => pre174 t (st175 t kt)
    have heq : dr175 = ex := by rcases Hr175 with ⟨q1, q2⟩ | ⟨q1, q2⟩ <;> rcases hex with ⟨q3, q4⟩ | ⟨q3, q4⟩ <;> first | exact q1.trans q3.symm | exact absurd q2 q4 | exact absurd q4 q2
    have pre177 : Goes p e below s₁ (entryFrame m #[(.int qn), (.int qa), (.int qb), (.int qc), (.int qd)] maxLocals) T175 (mkF m 256 #[.val (.int qn), .val (.int qa), .val (.int qb), .val (.int qc), .val (.int qd), .val (.int 4), .val (.int dc2), .val (.int dc5), .val (.int dc8), .val (.int dc11), .val (.ref b130), .val (.int ex)] [(.int 1)]) := fun t kt => pre176 t (by
        show Steps p.tables e below (T175.setTop (mkF m 246 #[.val (.int qn), .val (.int qa), .val (.int qb), .val (.int qc), .val (.int qd), .val (.int 4), .val (.int dc2), .val (.int dc5), .val (.int dc8), .val (.int dc11), .val (.ref b130), .val (.int ex)] [(.int dr175)])) _
        refine XS.iload X175.here hx rfl (hb hby at_246) rfl ?_
        refine XS.icmpNo X175.here hx rfl (hb hby at_248) rfl (teq heq).2 ?_
        show Steps p.tables e below (T175.setTop (mkF m 251 #[.val (.int qn), .val (.int qa), .val (.int qb), .val (.int qc), .val (.int qd), .val (.int 4), .val (.int dc2), .val (.int dc5), .val (.int dc8), .val (.int dc11), .val (.ref b130), .val (.int ex)] [])) _
        refine XS.iconst X175.here hx rfl (hb hby at_251) ?_
        refine XS.goto X175.here hx rfl (pc0 := 252) (pc' := 256) rfl (hb hby at_252) (by decide) (by decide) ?_
        exact kt)
    obtain ⟨fs, hr, hrun, hended, hW, hsame⟩ := X175.leave (v := some (.int 1)) (fun h => by rw [Bd.returns] at h; cases h)
    have hEnd := ReturnedEndW.of_narrow (o := .returned (some (.int 1))) ⟨_, rfl⟩ hW hsame
    refine ⟨_, _, pre177 _ ?_, hrun, hended, _, _, rfl, ?_, ?_, hEnd.1, hEnd.2.1, hEnd.2.2.1, hEnd.2.2.2.mono (by decide) (by decide)⟩
    · show Steps p.tables e below (T175.setTop (mkF m 256 #[.val (.int qn), .val (.int qa), .val (.int qb), .val (.int qc), .val (.int qd), .val (.int 4), .val (.int dc2), .val (.int dc5), .val (.int dc8), .val (.int dc11), .val (.ref b130), .val (.int ex)] [(.int 1)])) _
      exact retN X175 hx (t := .boolean) Bd.returns (by simp) (hb hby at_256) hr
    · show Q_own_rm0 Z qn qa qb qc qd cs fm h0 n0 _ T175.heap _
      rw [e175]
      exact ⟨rfl, N175⟩
    · show CHr Z [("java/lang/String", 7)] s.vm s.heap T175.vm T175.heap
      rw [hh, e175]
      exact CH152.trans (CHv.at (s := s) (vm0 := s.vm) X175 hZ hEL CH152.1)
set_option maxRecDepth 65536 in
set_option maxHeartbeats 40000000 in
theorem comes_1 {Post : Tables → Env → Array Value → State → Outcome → State → Prop} (hpost : ∀ tb e args s v u, (limb_1_1.after args s (.returned v) u = true ∧ limb_1_2.after args s (.returned v) u = true ∧ True) → ReturnedEndW s (.returned v) u (Jvm.fieldLocs frame_1_writes args s ++ Jvm.arrayLocs frame_1_arrays args s ++ Jvm.staticLocs frame_1_statics s) 24 1152 → Post tb e args s (.returned v) u) :
    ArmFor flags0 classFile x code maxLocals ret World_1 tables_1 room_1 Calls_1 rest_1 Pre_1 Post := by
  intro l hfl _ _ p e ha hc hk s m args below hf hA hF happ hP
  obtain ⟨hcalls, hrest, hpre⟩ := hP
  obtain ⟨-, -, -, hnamed, -, -, -, hat⟩ := (Spec.applies_iff hf).mp happ
  obtain ⟨hg, hn⟩ := and_e (Cond.before_iff.mp (show (Jvm.Cond.and given_1 narrow_1).before args s = true from hpre))
  obtain ⟨g5, g6⟩ := and_e hg
  obtain ⟨g7, g8⟩ := and_e g6
  obtain ⟨g9, g10⟩ := and_e g8
  obtain ⟨g11, g12⟩ := and_e g10
  obtain ⟨g13, g14⟩ := and_e g12
  obtain ⟨w0, w1, w2, w3, w4, rfl⟩ : ∃ w0 w1 w2 w3 w4 : Value, args = #[w0, w1, w2, w3, w4] := by
    have hs : args.size = 5 := by simpa [Cond.value, given_1] using g5
    obtain ⟨L⟩ := args
    match L, hs with
    | [w0, w1, w2, w3, w4], _ => exact ⟨w0, w1, w2, w3, w4, rfl⟩
  have hw := fun d (hd : d ∈ tables_1) => atoms_spec (ws := Jvm.Cond.code x code maxLocals ret :: tables_1) hat d (List.mem_cons_of_mem _ hd)
  have hfit : Fit s := fun {y c} hc i hi => by
    obtain ⟨ha, rfl⟩ := Array.getElem?_eq_some_iff.mp hc
    have q := List.all_eq_true.mp ((Array.all_eq_true_iff_forall_mem.mp hF) _ (Array.getElem_mem ha)) i (List.mem_range.mpr hi)
    simpa [Array.getElem?_eq_getElem hi] using q
  obtain ⟨hsets, hown0⟩ := atoms_of _ (rest_1_c_eq ▸ (show rest_1_c.before _ s = true from hrest))
  have hr0 := Cond.before_iff.mp hown0
  obtain ⟨i0, ei0⟩ := is_v g7
  obtain rfl : w0 = (.int i0) := Option.some.inj ei0
  obtain ⟨i1, ei1⟩ := is_v g9
  obtain rfl : w1 = (.int i1) := Option.some.inj ei1
  obtain ⟨i2, ei2⟩ := is_v g11
  obtain rfl : w2 = (.int i2) := Option.some.inj ei2
  obtain ⟨i3, ei3⟩ := is_v g13
  obtain rfl : w3 = (.int i3) := Option.some.inj ei3
  obtain ⟨i4, ei4⟩ := is_v g14
  obtain rfl : w4 = (.int i4) := Option.some.inj ei4
  have n5 := not_v (Cond.before_iff.mp (hsets _ (own_mG (i := 2) rfl)))
  obtain ⟨ics, ecs⟩ := is_v (Cond.before_iff.mp (hsets _ (own_mG (i := 1) rfl)))
  have S_CS : Sta s s.heap "java/lang/String" "COMPACT_STRINGS" "Z" (.int ics) := Sta.start ecs (Or.inl (hsets _ (own_mG (i := 0) rfl)))
  have hcs : ¬ (ics = (0 : Int32)) := gotF (Cond.eq_ints ecs (Term.int_eval (0))) n5
  have xassertionsDisabled := Cond.before_iff.mp (hsets _ (own_mG (i := 12) rfl))
  have S_assertionsDisabled := own_sti xassertionsDisabled (Or.inl (hsets _ (own_mG (i := 11) rfl)))
  have xHI_BYTE_SHIFT := Cond.before_iff.mp (hsets _ (own_mG (i := 15) rfl))
  have S_HI_BYTE_SHIFT := own_sti xHI_BYTE_SHIFT (Or.inl (hsets _ (own_mG (i := 14) rfl)))
  have xLO_BYTE_SHIFT := Cond.before_iff.mp (hsets _ (own_mG (i := 18) rfl))
  have S_LO_BYTE_SHIFT := own_sti xLO_BYTE_SHIFT (Or.inl (hsets _ (own_mG (i := 17) rfl)))
  obtain ⟨fm, evFM, hFM⟩ := isR_v (Cond.before_iff.mp (hsets _ (own_mG (i := 8) rfl)))
  have S_FM := Sta.start evFM (Or.inl (hsets _ (own_mG (i := 7) rfl)))
  have hEL : EW s _ [("java/lang/String", 7)] := (EW.cons (hw _ (own_mG (i := 19) rfl)) (by simp) EW.nil)
  have hCH : CHv s [("java/lang/String", 7)] s.vm s.heap := CHv.start hEL (show ∀ q ∈ [("java/lang/String", 7)], Jvm.Lit.constHeld s q.1 q.2 from hcalls.1) (hsets _ (own_mG (i := 2) rfl)) (hw _ (own_mG (i := 20) rfl)) (hw _ (own_mG (i := 6) rfl))
  obtain ⟨n, o, h1, h2, h3, _, L, rfl, ⟨rfl, N⟩, -, hq⟩ := own_rm0 l s _ hw tables_1 i0 i1 i2 i3 i4 ics fm s.heap s.heap.size (Nat.le_refl _) ⟨S_CS, hcs, S_assertionsDisabled, S_HI_BYTE_SHIFT, S_LO_BYTE_SHIFT, S_FM, own_Rf.of hFM⟩ (Old.start s) p e ha hc hk s m _ below hf ((Spec.applies_iff_loose hf).mp happ).1 ⟨rfl, State.Warmed39.refl s, rfl, hCH⟩ trivial
  refine ⟨n, _, h1, h2, h3, hpost _ _ _ _ _ _ ⟨Cond.after_iff.mpr rfl, Cond.after_iff.mpr (eq_i res_at (Term.int_eval (1)) rfl), trivial⟩ ⟨hq.1, hq.2.1, hq.2.2.1, (hq.2.2.2.sift fun y hy => Or.inr (N y hy)).mono (by decide) (by decide)⟩⟩
theorem main_1_1 : Claimed_1_1 := comes_1 fun _ _ _ _ _ _ h hF => ⟨h.1, hF⟩
theorem main_1_2 : Claimed_1_2 := comes_1 fun _ _ _ _ _ _ h hF => ⟨h.2.1, hF⟩
end Jvm.Pilot.@@N@@
namespace Jvm.Pilot.@@N@@
open Jvm Jvm.ClassFile Sem Op Lib Jvm.Free Jvm.Stand Jvm.Pilot.@@N@@.Jvm.D
/-! MADE BY PROGRAM (witnessworld.py) out of the Statement's table words and the real class files: 20 classes; the members and pool entries that the words name. The judged class is class 1, her method 3. -/
namespace start1
open Jvm.ClassFile
def u (s : String) : CpInfo := .utf8 (stringToUtf16 s)
/-- a pool by its gaps: so many unusable entries, then the entry; so many at the end -/
def gap : Nat → List CpInfo → List CpInfo
  | 0, r => r
  | n + 1, r => .unusable :: gap n r
def poolList (es : List (Nat × CpInfo)) (last : Nat) : List CpInfo := es.foldr (fun e r => gap e.1 (e.2 :: r)) (gap last [])
def pool (es : List (Nat × CpInfo)) (last : Nat) : Array CpInfo := ⟨poolList es last⟩
def fileOf (pool : Array CpInfo) (this : Nat) (attrs : Array Attribute := #[]) (ms : Array MethodInfo := #[]) (fl : Nat := 33) (sup : Nat := 0) (ifs : Array Nat := #[]) (fds : Array FieldInfo := #[]) : ClassFile where
  minorVersion := 0
  majorVersion := 65
  constantPool := pool
  accessFlags := fl
  thisClass := this
  superClass := sup
  interfaces := ifs
  fields := fds
  methods := ms
  attributes := attrs
def plain (name : String) (sup : Option ClassId) : Class where
  name := name
  kind := .ordinary
  loader := none
  accessFlags := 33
  super := sup
  interfaces := #[]
  cf := none
  fields := #[]
  methods := #[]
  instanceTypes := #[]
  staticTypes := #[]
  resolved := #[]
  callSites := []
  init := .initialized
  statics := none
  mirror := none

def pool0 : Array CpInfo := pool [(5, u "<init>"), (0, u "()V"), (1, .class_ 10), (1, u "java/lang/Object")] 113

def k0c0 : Code := { maxStack := 0, maxLocals := 1, code := object_method_1_code, exceptionTable := #[], attributes := #[] }
def k0m0 : Method := { name := "<init>", desc := "()V", sig := { parameters := [], returnType := none }, accessFlags := 1, code := some k0c0 }
/-- java/lang/Object -/
def k0 : Class := { plain "java/lang/Object" none with
  accessFlags := 33
  interfaces := #[]
  cf := some (fileOf pool0 8 #[] #[{ accessFlags := 1, nameIndex := 5, descriptorIndex := 6, attributes := #[] }] 33 0 #[] #[])
  fields := #[]
  methods := #[k0m0]
  instanceTypes := #[]
  staticTypes := #[]
  resolved := Array.replicate 124 none
  statics := none }

def pool1 : Array CpInfo := pool [(2, .class_ 4), (1, u "java/lang/Object"), (0, u "<init>"), (0, u "()V"), (0, .integer 2147483647), (0, .methodref 9 10), (0, .class_ 11), (0, .nameAndType 12 13), (0, u "com/example/tallygate/tallygate/AddressLiteralsIsDecimalPinLaw"), (0, u "draw"), (0, u "(I)C"), (0, .class_ 15), (0, u "java/lang/String"), (0, .methodref 14 17), (0, .nameAndType 5 18), (0, u "([C)V"), (0, .methodref 9 20), (0, .nameAndType 21 22), (0, u "digit"), (0, u "(C)Z"), (0, .methodref 24 25), (0, .class_ 26), (0, .nameAndType 27 28), (0, u "com/example/tallygate/tallygate/AddressLiterals"), (0, u "isDecimal"), (0, u "(Ljava/lang/String;)Z"), (3, u "law"), (0, u "(IIIII)Z")] 2

def k1m0 : Method := { name := "<init>", desc := "()V", sig := { parameters := [], returnType := none }, accessFlags := 2, code := none }
def k1c1 : Code := { maxStack := 3, maxLocals := 1, code := method_2_code, exceptionTable := #[], attributes := #[] }
def k1m1 : Method := { name := "draw", desc := "(I)C", sig := { parameters := [.int], returnType := some .char }, accessFlags := 10, code := some k1c1 }
def k1c2 : Code := { maxStack := 2, maxLocals := 1, code := method_3_code, exceptionTable := #[], attributes := #[] }
def k1m2 : Method := { name := "digit", desc := "(C)Z", sig := { parameters := [.char], returnType := some .boolean }, accessFlags := 10, code := some k1c2 }
def k1c3 : Code := { maxStack := 6, maxLocals := 12, code := code, exceptionTable := #[], attributes := #[] }
def k1m3 : Method := { name := "law", desc := "(IIIII)Z", sig := { parameters := [.int, .int, .int, .int, .int], returnType := some .boolean }, accessFlags := 9, code := some k1c3 }
/-- com/example/tallygate/tallygate/AddressLiteralsIsDecimalPinLaw -/
def k1 : Class := { plain "com/example/tallygate/tallygate/AddressLiteralsIsDecimalPinLaw" (some 0) with
  accessFlags := 49
  interfaces := #[]
  cf := some (fileOf pool1 9 #[] #[{ accessFlags := 2, nameIndex := 5, descriptorIndex := 6, attributes := #[] }, { accessFlags := 10, nameIndex := 12, descriptorIndex := 13, attributes := #[] }, { accessFlags := 10, nameIndex := 21, descriptorIndex := 22, attributes := #[] }, { accessFlags := 9, nameIndex := 32, descriptorIndex := 33, attributes := #[] }] 49 2 #[] #[])
  fields := #[]
  methods := #[k1m0, k1m1, k1m2, k1m3]
  instanceTypes := #[]
  staticTypes := #[]
  resolved := Array.replicate 36 none
  statics := none }

def pool2 : Array CpInfo := pool [(1, .class_ 2), (0, u "java/io/Serializable"), (0, .class_ 4), (0, u "java/lang/Object")] 2

/-- java/io/Serializable -/
def k2 : Class := { plain "java/io/Serializable" (some 0) with
  accessFlags := 1537
  interfaces := #[]
  cf := some (fileOf pool2 1 #[] #[] 1537 3 #[] #[])
  fields := #[]
  methods := #[]
  instanceTypes := #[]
  staticTypes := #[]
  resolved := Array.replicate 7 none
  statics := none }

def pool3 : Array CpInfo := pool [(1, .class_ 2), (0, u "java/lang/Comparable"), (0, .class_ 4), (0, u "java/lang/Object")] 7

/-- java/lang/Comparable -/
def k3 : Class := { plain "java/lang/Comparable" (some 0) with
  accessFlags := 1537
  interfaces := #[]
  cf := some (fileOf pool3 1 #[] #[] 1537 3 #[] #[])
  fields := #[]
  methods := #[]
  instanceTypes := #[]
  staticTypes := #[]
  resolved := Array.replicate 12 none
  statics := none }

def pool4 : Array CpInfo := pool [(2, .class_ 4), (1, u "java/lang/CharSequence"), (42, .class_ 48), (0, u "java/lang/CharSequence$1CodePointIterator"), (10, .class_ 60), (0, u "java/lang/CharSequence$1CharIterator"), (5, .class_ 67), (0, u "java/lang/Object")] 63

/-- java/lang/CharSequence -/
def k4 : Class := { plain "java/lang/CharSequence" (some 0) with
  accessFlags := 1537
  interfaces := #[]
  cf := some (fileOf pool4 2 #[.nestMembers #[47, 59]] #[] 1537 66 #[] #[])
  fields := #[]
  methods := #[]
  instanceTypes := #[]
  staticTypes := #[]
  resolved := Array.replicate 131 none
  statics := none }

def pool5 : Array CpInfo := pool [(1, .class_ 2), (0, u "java/lang/constant/Constable"), (0, .class_ 4), (0, u "java/lang/Object")] 6

/-- java/lang/constant/Constable -/
def k5 : Class := { plain "java/lang/constant/Constable" (some 0) with
  accessFlags := 1537
  interfaces := #[]
  cf := some (fileOf pool5 1 #[] #[] 1537 3 #[] #[])
  fields := #[]
  methods := #[]
  instanceTypes := #[]
  staticTypes := #[]
  resolved := Array.replicate 11 none
  statics := none }

def pool6 : Array CpInfo := pool [(1, .class_ 2), (0, u "java/lang/constant/ConstantDesc"), (0, .class_ 4), (0, u "java/lang/Object")] 32

/-- java/lang/constant/ConstantDesc -/
def k6 : Class := { plain "java/lang/constant/ConstantDesc" (some 0) with
  accessFlags := 1537
  interfaces := #[]
  cf := some (fileOf pool6 1 #[] #[] 1537 3 #[] #[])
  fields := #[]
  methods := #[]
  instanceTypes := #[]
  staticTypes := #[]
  resolved := Array.replicate 37 none
  statics := none }

def pool7 : Array CpInfo := pool [(1, .methodref 2 3), (0, .class_ 4), (0, .nameAndType 5 6), (0, u "java/lang/Object"), (0, u "<init>"), (0, u "()V"), (0, .string 8), (0, u ""), (0, .fieldref 10 11), (0, .class_ 12), (0, .nameAndType 13 14), (0, u "java/lang/String"), (0, u "value"), (0, u "[B"), (0, .fieldref 10 16), (0, .nameAndType 17 18), (0, u "coder"), (0, u "B"), (2, u "hash"), (0, u "I"), (2, u "hashIsZero"), (0, u "Z"), (0, .methodref 10 28), (0, .nameAndType 5 29), (0, u "([CIILjava/lang/Void;)V"), (8, .fieldref 10 39), (0, .nameAndType 40 26), (0, u "COMPACT_STRINGS"), (1, .class_ 44), (1, u "java/lang/StringUTF16"), (0, u "compress"), (1, .methodref 42 48), (0, .nameAndType 49 50), (0, u "coderFromArrayLen"), (0, u "([BI)B"), (56, .class_ 109), (1, u "java/lang/StringLatin1"), (32, u "()Z"), (34, .methodref 42 178), (0, .nameAndType 45 179), (0, u "([CII)[B"), (154, u "()I"), (0, .methodref 10 336), (0, .nameAndType 17 337), (0, u "()B"), (25, u "([BI)C"), (27, u "(II)V"), (35, u "(I)C"), (64, .methodref 10 493), (0, .nameAndType 494 142), (0, u "isLatin1"), (0, .methodref 107 496), (0, .nameAndType 497 363), (0, u "charAt"), (0, .methodref 42 496), (2, u "checkIndex"), (5, u "length"), (67, .class_ 576), (0, u "java/lang/CharSequence"), (22, u "CASE_INSENSITIVE_ORDER"), (0, u "Ljava/util/Comparator;"), (409, u "([C)V"), (42, .fieldref 1054 1055), (0, .class_ 1056), (0, .nameAndType 1057 1058), (0, u "jdk/internal/util/Preconditions"), (0, u "SIOOBE_FORMATTER"), (0, u "Ljava/util/function/BiFunction;"), (0, .methodref 1054 1060), (0, .nameAndType 501 1061), (0, u "(IILjava/util/function/BiFunction;)I"), (39, u "serialPersistentFields"), (0, u "[Ljava/io/ObjectStreamField;"), (0, .class_ 1104), (0, u "java/lang/String$CaseInsensitiveComparator"), (1, .class_ 1107), (0, u "java/io/Serializable"), (0, .class_ 1109), (0, u "java/lang/Comparable"), (0, .class_ 1111), (0, u "java/lang/constant/Constable"), (0, .class_ 1113), (0, u "java/lang/constant/ConstantDesc"), (2, u "serialVersionUID"), (0, u "J"), (3, u "REPL"), (0, u "C"), (2, u "LATIN1"), (1, u "UTF16")] 323

def k7m0 : Method := { name := "<init>", desc := "()V", sig := { parameters := [], returnType := none }, accessFlags := 1, code := none }
def k7c1 : Code := { maxStack := 5, maxLocals := 2, code := jdk_42_method_3_code, exceptionTable := #[], attributes := #[] }
def k7m1 : Method := { name := "<init>", desc := "([C)V", sig := { parameters := [(.array .char)], returnType := none }, accessFlags := 1, code := some k7c1 }
def k7c2 : Code := { maxStack := 2, maxLocals := 1, code := jdk_42_method_54_code, exceptionTable := #[], attributes := #[] }
def k7m2 : Method := { name := "length", desc := "()I", sig := { parameters := [], returnType := some .int }, accessFlags := 1, code := some k7c2 }
def k7c3 : Code := { maxStack := 2, maxLocals := 2, code := jdk_42_method_56_code, exceptionTable := #[], attributes := #[] }
def k7m3 : Method := { name := "charAt", desc := "(I)C", sig := { parameters := [.int], returnType := some .char }, accessFlags := 1, code := some k7c3 }
def k7c4 : Code := { maxStack := 4, maxLocals := 6, code := jdk_42_method_149_code, exceptionTable := #[], attributes := #[] }
def k7m4 : Method := { name := "<init>", desc := "([CIILjava/lang/Void;)V", sig := { parameters := [(.array .char), .int, .int, (.object "java/lang/Void")], returnType := none }, accessFlags := 2, code := some k7c4 }
def k7c5 : Code := { maxStack := 1, maxLocals := 1, code := jdk_42_method_152_code, exceptionTable := #[], attributes := #[] }
def k7m5 : Method := { name := "coder", desc := "()B", sig := { parameters := [], returnType := some .byte }, accessFlags := 0, code := some k7c5 }
def k7c6 : Code := { maxStack := 1, maxLocals := 1, code := jdk_42_method_154_code, exceptionTable := #[], attributes := #[] }
def k7m6 : Method := { name := "isLatin1", desc := "()Z", sig := { parameters := [], returnType := some .boolean }, accessFlags := 0, code := some k7c6 }
def k7c7 : Code := { maxStack := 3, maxLocals := 2, code := jdk_42_method_155_code, exceptionTable := #[], attributes := #[] }
def k7m7 : Method := { name := "checkIndex", desc := "(II)V", sig := { parameters := [.int, .int], returnType := none }, accessFlags := 8, code := some k7c7 }
/-- java/lang/String -/
def k7 : Class := { plain "java/lang/String" (some 0) with
  accessFlags := 49
  interfaces := #[2, 3, 4, 5, 6]
  cf := some (fileOf pool7 10 #[.nestMembers #[1103]] #[{ accessFlags := 1, nameIndex := 5, descriptorIndex := 6, attributes := #[] }, { accessFlags := 1, nameIndex := 5, descriptorIndex := 1010, attributes := #[] }, { accessFlags := 1, nameIndex := 507, descriptorIndex := 334, attributes := #[] }, { accessFlags := 1, nameIndex := 497, descriptorIndex := 427, attributes := #[] }, { accessFlags := 2, nameIndex := 5, descriptorIndex := 29, attributes := #[] }, { accessFlags := 0, nameIndex := 17, descriptorIndex := 337, attributes := #[] }, { accessFlags := 0, nameIndex := 494, descriptorIndex := 142, attributes := #[] }, { accessFlags := 8, nameIndex := 501, descriptorIndex := 391, attributes := #[] }] 49 2 #[1106, 1108, 575, 1110, 1112] #[{ accessFlags := 18, nameIndex := 13, descriptorIndex := 14, attributes := #[] }, { accessFlags := 18, nameIndex := 17, descriptorIndex := 18, attributes := #[] }, { accessFlags := 2, nameIndex := 21, descriptorIndex := 22, attributes := #[] }, { accessFlags := 2, nameIndex := 25, descriptorIndex := 26, attributes := #[] }, { accessFlags := 26, nameIndex := 1116, descriptorIndex := 1117, attributes := #[] }, { accessFlags := 24, nameIndex := 40, descriptorIndex := 26, attributes := #[] }, { accessFlags := 26, nameIndex := 1101, descriptorIndex := 1102, attributes := #[] }, { accessFlags := 26, nameIndex := 1121, descriptorIndex := 1122, attributes := #[] }, { accessFlags := 25, nameIndex := 599, descriptorIndex := 600, attributes := #[] }, { accessFlags := 24, nameIndex := 1125, descriptorIndex := 18, attributes := #[] }, { accessFlags := 24, nameIndex := 1127, descriptorIndex := 18, attributes := #[] }])
  fields := #[{ name := "value", type := (.array .byte), accessFlags := 18, slot := 0, constantValue := 0 }, { name := "coder", type := .byte, accessFlags := 18, slot := 1, constantValue := 0 }, { name := "hash", type := .int, accessFlags := 2, slot := 2, constantValue := 0 }, { name := "hashIsZero", type := .boolean, accessFlags := 2, slot := 3, constantValue := 0 }, { name := "serialVersionUID", type := .long, accessFlags := 26, slot := 0, constantValue := 0 }, { name := "COMPACT_STRINGS", type := .boolean, accessFlags := 24, slot := 1, constantValue := 0 }, { name := "serialPersistentFields", type := (.array (.object "java/io/ObjectStreamField")), accessFlags := 26, slot := 2, constantValue := 0 }, { name := "REPL", type := .char, accessFlags := 26, slot := 3, constantValue := 0 }, { name := "CASE_INSENSITIVE_ORDER", type := (.object "java/util/Comparator"), accessFlags := 25, slot := 4, constantValue := 0 }, { name := "LATIN1", type := .byte, accessFlags := 24, slot := 5, constantValue := 0 }, { name := "UTF16", type := .byte, accessFlags := 24, slot := 6, constantValue := 0 }]
  methods := #[k7m0, k7m1, k7m2, k7m3, k7m4, k7m5, k7m6, k7m7]
  instanceTypes := #[(.array .byte), .byte, .int, .boolean]
  staticTypes := #[.long, .boolean, (.array (.object "java/io/ObjectStreamField")), .char, (.object "java/util/Comparator"), .byte, .byte]
  resolved := Array.replicate 1451 none
  statics := some 0 }

def pool8 : Array CpInfo := pool [(2, .class_ 4), (1, u "java/lang/Object"), (0, u "<init>"), (0, u "()V"), (1, .class_ 10), (1, u "com/example/tallygate/tallygate/AddressLiterals"), (6, .methodref 18 19), (0, .class_ 20), (0, .nameAndType 21 22), (0, u "java/lang/String"), (0, u "length"), (0, u "()I"), (0, .methodref 18 24), (0, .nameAndType 25 26), (0, u "charAt"), (0, u "(I)C"), (33, u "(Ljava/lang/String;)Z"), (11, u "isDecimal"), (43, u "IPV4_LONGEST"), (0, u "I"), (2, u "IPV6_LONGEST")] 13

def k8m0 : Method := { name := "<init>", desc := "()V", sig := { parameters := [], returnType := none }, accessFlags := 2, code := none }
def k8c1 : Code := { maxStack := 2, maxLocals := 3, code := prog_3_method_11_code, exceptionTable := #[], attributes := #[] }
def k8m1 : Method := { name := "isDecimal", desc := "(Ljava/lang/String;)Z", sig := { parameters := [(.object "java/lang/String")], returnType := some .boolean }, accessFlags := 8, code := some k8c1 }
/-- com/example/tallygate/tallygate/AddressLiterals -/
def k8 : Class := { plain "com/example/tallygate/tallygate/AddressLiterals" (some 0) with
  accessFlags := 48
  interfaces := #[]
  cf := some (fileOf pool8 8 #[] #[{ accessFlags := 2, nameIndex := 5, descriptorIndex := 6, attributes := #[] }, { accessFlags := 8, nameIndex := 72, descriptorIndex := 60, attributes := #[] }] 48 2 #[] #[{ accessFlags := 26, nameIndex := 116, descriptorIndex := 117, attributes := #[] }, { accessFlags := 26, nameIndex := 120, descriptorIndex := 117, attributes := #[] }])
  fields := #[{ name := "IPV4_LONGEST", type := .int, accessFlags := 26, slot := 0, constantValue := 0 }, { name := "IPV6_LONGEST", type := .int, accessFlags := 26, slot := 1, constantValue := 0 }]
  methods := #[k8m0, k8m1]
  instanceTypes := #[]
  staticTypes := #[.int, .int]
  resolved := Array.replicate 134 none
  statics := none }

def pool9 : Array CpInfo := pool [(3, .class_ 4), (0, u "java/lang/String"), (1, .class_ 8), (1, u "java/lang/Object"), (0, u "<init>"), (0, u "()V"), (0, .methodref 12 13), (0, .class_ 14), (0, .nameAndType 15 16), (0, u "java/lang/StringUTF16"), (0, u "newBytesLength"), (0, u "(I)I"), (3, .integer 1073741823), (23, .fieldref 12 45), (0, .nameAndType 46 47), (0, u "$assertionsDisabled"), (0, u "Z"), (0, .methodref 12 49), (0, .nameAndType 50 51), (0, u "length"), (0, u "([B)I"), (7, .fieldref 12 60), (0, .nameAndType 61 62), (0, u "HI_BYTE_SHIFT"), (0, u "I"), (0, .fieldref 12 64), (0, .nameAndType 65 62), (0, u "LO_BYTE_SHIFT"), (1, .methodref 12 68), (0, .nameAndType 69 70), (0, u "checkIndex"), (0, u "(I[B)V"), (0, .methodref 12 72), (0, .nameAndType 73 74), (0, u "getChar"), (0, u "([BI)C"), (32, .methodref 12 108), (0, .nameAndType 109 110), (0, u "newBytesFor"), (0, u "(I)[B"), (0, .methodref 12 112), (0, .nameAndType 113 114), (0, u "putChar"), (0, u "([BII)V"), (0, .methodref 12 116), (0, .nameAndType 117 118), (0, u "compress"), (0, u "([CI[BII)I"), (0, .methodref 12 120), (0, .nameAndType 121 122), (0, u "toBytes"), (0, u "([CII)[B"), (138, u "coderFromArrayLen"), (0, u "([BI)B"), (106, .class_ 371), (1, u "java/lang/StringUTF16$LinesSpliterator"), (20, u "charAt"), (21, .methodref 3 415), (0, .nameAndType 69 416), (0, u "(II)V"), (13, u "MAX_LENGTH"), (196, .class_ 628), (0, u "java/lang/StringUTF16$CodePointsSpliterator"), (0, .class_ 630), (0, u "java/lang/StringUTF16$CharsSpliterator")] 4

def k9m0 : Method := { name := "<init>", desc := "()V", sig := { parameters := [], returnType := none }, accessFlags := 0, code := none }
def k9c1 : Code := { maxStack := 1, maxLocals := 1, code := jdk_52_method_2_code, exceptionTable := #[], attributes := #[] }
def k9m1 : Method := { name := "newBytesFor", desc := "(I)[B", sig := { parameters := [.int], returnType := some (.array .byte) }, accessFlags := 9, code := some k9c1 }
def k9c2 : Code := { maxStack := 4, maxLocals := 1, code := jdk_52_method_3_code, exceptionTable := #[], attributes := #[] }
def k9m2 : Method := { name := "newBytesLength", desc := "(I)I", sig := { parameters := [.int], returnType := some .int }, accessFlags := 9, code := some k9c2 }
def k9c3 : Code := { maxStack := 4, maxLocals := 3, code := jdk_52_method_4_code, exceptionTable := #[], attributes := #[] }
def k9m3 : Method := { name := "putChar", desc := "([BII)V", sig := { parameters := [(.array .byte), .int, .int], returnType := none }, accessFlags := 8, code := some k9c3 }
def k9c4 : Code := { maxStack := 3, maxLocals := 2, code := jdk_52_method_5_code, exceptionTable := #[], attributes := #[] }
def k9m4 : Method := { name := "getChar", desc := "([BI)C", sig := { parameters := [(.array .byte), .int], returnType := some .char }, accessFlags := 8, code := some k9c4 }
def k9c5 : Code := { maxStack := 2, maxLocals := 1, code := jdk_52_method_6_code, exceptionTable := #[], attributes := #[] }
def k9m5 : Method := { name := "length", desc := "([B)I", sig := { parameters := [(.array .byte)], returnType := some .int }, accessFlags := 9, code := some k9c5 }
def k9c6 : Code := { maxStack := 4, maxLocals := 5, code := jdk_52_method_14_code, exceptionTable := #[], attributes := #[] }
def k9m6 : Method := { name := "toBytes", desc := "([CII)[B", sig := { parameters := [(.array .char), .int, .int], returnType := some (.array .byte) }, accessFlags := 9, code := some k9c6 }
def k9c7 : Code := { maxStack := 2, maxLocals := 2, code := jdk_52_method_15_code, exceptionTable := #[], attributes := #[] }
def k9m7 : Method := { name := "coderFromArrayLen", desc := "([BI)B", sig := { parameters := [(.array .byte), .int], returnType := some .byte }, accessFlags := 8, code := some k9c7 }
def k9c8 : Code := { maxStack := 5, maxLocals := 6, code := jdk_52_method_16_code, exceptionTable := #[], attributes := #[] }
def k9m8 : Method := { name := "compress", desc := "([CII)[B", sig := { parameters := [(.array .char), .int, .int], returnType := some (.array .byte) }, accessFlags := 9, code := some k9c8 }
def k9c9 : Code := { maxStack := 3, maxLocals := 7, code := jdk_52_method_21_code, exceptionTable := #[], attributes := #[] }
def k9m9 : Method := { name := "compress", desc := "([CI[BII)I", sig := { parameters := [(.array .char), .int, (.array .byte), .int, .int], returnType := some .int }, accessFlags := 9, code := some k9c9 }
def k9c10 : Code := { maxStack := 2, maxLocals := 2, code := jdk_52_method_83_code, exceptionTable := #[], attributes := #[] }
def k9m10 : Method := { name := "charAt", desc := "([BI)C", sig := { parameters := [(.array .byte), .int], returnType := some .char }, accessFlags := 9, code := some k9c10 }
def k9c11 : Code := { maxStack := 2, maxLocals := 2, code := jdk_52_method_91_code, exceptionTable := #[], attributes := #[] }
def k9m11 : Method := { name := "checkIndex", desc := "(I[B)V", sig := { parameters := [.int, (.array .byte)], returnType := none }, accessFlags := 9, code := some k9c11 }
/-- java/lang/StringUTF16 -/
def k9 : Class := { plain "java/lang/StringUTF16" (some 0) with
  accessFlags := 48
  interfaces := #[]
  cf := some (fileOf pool9 12 #[.nestMembers #[627, 629, 369]] #[{ accessFlags := 0, nameIndex := 9, descriptorIndex := 10, attributes := #[] }, { accessFlags := 9, nameIndex := 109, descriptorIndex := 110, attributes := #[] }, { accessFlags := 9, nameIndex := 15, descriptorIndex := 16, attributes := #[] }, { accessFlags := 8, nameIndex := 113, descriptorIndex := 114, attributes := #[] }, { accessFlags := 8, nameIndex := 73, descriptorIndex := 74, attributes := #[] }, { accessFlags := 9, nameIndex := 50, descriptorIndex := 51, attributes := #[] }, { accessFlags := 9, nameIndex := 121, descriptorIndex := 122, attributes := #[] }, { accessFlags := 8, nameIndex := 261, descriptorIndex := 262, attributes := #[] }, { accessFlags := 9, nameIndex := 117, descriptorIndex := 122, attributes := #[] }, { accessFlags := 9, nameIndex := 117, descriptorIndex := 118, attributes := #[] }, { accessFlags := 9, nameIndex := 392, descriptorIndex := 74, attributes := #[] }, { accessFlags := 9, nameIndex := 69, descriptorIndex := 70, attributes := #[] }] 48 6 #[] #[{ accessFlags := 26, nameIndex := 61, descriptorIndex := 62, attributes := #[] }, { accessFlags := 26, nameIndex := 65, descriptorIndex := 62, attributes := #[] }, { accessFlags := 24, nameIndex := 430, descriptorIndex := 62, attributes := #[] }, { accessFlags := 4120, nameIndex := 46, descriptorIndex := 47, attributes := #[] }])
  fields := #[{ name := "HI_BYTE_SHIFT", type := .int, accessFlags := 26, slot := 0, constantValue := 0 }, { name := "LO_BYTE_SHIFT", type := .int, accessFlags := 26, slot := 1, constantValue := 0 }, { name := "MAX_LENGTH", type := .int, accessFlags := 24, slot := 2, constantValue := 0 }, { name := "$assertionsDisabled", type := .boolean, accessFlags := 4120, slot := 3, constantValue := 0 }]
  methods := #[k9m0, k9m1, k9m2, k9m3, k9m4, k9m5, k9m6, k9m7, k9m8, k9m9, k9m10, k9m11]
  instanceTypes := #[]
  staticTypes := #[.int, .int, .int, .boolean]
  resolved := Array.replicate 635 none
  statics := some 1 }

def pool10 : Array CpInfo := pool [(1, .class_ 2), (0, u "java/lang/String"), (1, .class_ 6), (1, u "java/lang/Object"), (0, u "<init>"), (0, u "()V"), (0, .methodref 1 10), (0, .nameAndType 11 12), (0, u "checkIndex"), (0, u "(II)V"), (1, .class_ 16), (1, u "java/lang/StringLatin1"), (36, u "([BI)C"), (67, u "$assertionsDisabled"), (0, u "Z"), (98, .class_ 223), (1, u "java/lang/StringLatin1$LinesSpliterator"), (28, u "charAt"), (137, .class_ 391), (0, u "java/lang/StringLatin1$CharsSpliterator")] 3

def k10m0 : Method := { name := "<init>", desc := "()V", sig := { parameters := [], returnType := none }, accessFlags := 0, code := none }
def k10c1 : Code := { maxStack := 2, maxLocals := 2, code := jdk_43_method_2_code, exceptionTable := #[], attributes := #[] }
def k10m1 : Method := { name := "charAt", desc := "([BI)C", sig := { parameters := [(.array .byte), .int], returnType := some .char }, accessFlags := 9, code := some k10c1 }
/-- java/lang/StringLatin1 -/
def k10 : Class := { plain "java/lang/StringLatin1" (some 0) with
  accessFlags := 48
  interfaces := #[]
  cf := some (fileOf pool10 14 #[.nestMembers #[390, 221]] #[{ accessFlags := 0, nameIndex := 7, descriptorIndex := 8, attributes := #[] }, { accessFlags := 9, nameIndex := 252, descriptorIndex := 53, attributes := #[] }] 48 4 #[] #[{ accessFlags := 4120, nameIndex := 121, descriptorIndex := 122, attributes := #[] }])
  fields := #[{ name := "$assertionsDisabled", type := .boolean, accessFlags := 4120, slot := 0, constantValue := 0 }]
  methods := #[k10m0, k10m1]
  instanceTypes := #[]
  staticTypes := #[.boolean]
  resolved := Array.replicate 395 none
  statics := none }

def pool11 : Array CpInfo := pool [(2, .class_ 4), (1, u "java/lang/Object"), (0, u "<init>"), (0, u "()V"), (17, .class_ 26), (1, u "jdk/internal/util/Preconditions"), (6, u "checkIndex"), (21, .class_ 56), (0, u "jdk/internal/util/Preconditions$4"), (57, .class_ 115), (0, u "jdk/internal/util/Preconditions$1"), (7, u "SIOOBE_FORMATTER"), (0, u "Ljava/util/function/BiFunction;"), (0, .class_ 126), (0, u "jdk/internal/util/Preconditions$2"), (3, u "AIOOBE_FORMATTER"), (0, .class_ 132), (0, u "jdk/internal/util/Preconditions$3"), (3, u "IOOBE_FORMATTER"), (41, u "(IILjava/util/function/BiFunction;)I")] 15

def k11m0 : Method := { name := "<init>", desc := "()V", sig := { parameters := [], returnType := none }, accessFlags := 1, code := none }
def k11c1 : Code := { maxStack := 3, maxLocals := 3, code := jdk_41_method_11_code, exceptionTable := #[], attributes := #[] }
def k11m1 : Method := { name := "checkIndex", desc := "(IILjava/util/function/BiFunction;)I", sig := { parameters := [.int, .int, (.object "java/util/function/BiFunction")], returnType := some .int }, accessFlags := 9, code := some k11c1 }
/-- jdk/internal/util/Preconditions -/
def k11 : Class := { plain "jdk/internal/util/Preconditions" (some 0) with
  accessFlags := 33
  interfaces := #[]
  cf := some (fileOf pool11 24 #[.nestMembers #[55, 131, 125, 114]] #[{ accessFlags := 1, nameIndex := 5, descriptorIndex := 6, attributes := #[] }, { accessFlags := 9, nameIndex := 33, descriptorIndex := 178, attributes := #[] }] 33 2 #[] #[{ accessFlags := 25, nameIndex := 123, descriptorIndex := 124, attributes := #[] }, { accessFlags := 25, nameIndex := 130, descriptorIndex := 124, attributes := #[] }, { accessFlags := 25, nameIndex := 136, descriptorIndex := 124, attributes := #[] }])
  fields := #[{ name := "SIOOBE_FORMATTER", type := (.object "java/util/function/BiFunction"), accessFlags := 25, slot := 0, constantValue := 0 }, { name := "AIOOBE_FORMATTER", type := (.object "java/util/function/BiFunction"), accessFlags := 25, slot := 1, constantValue := 0 }, { name := "IOOBE_FORMATTER", type := (.object "java/util/function/BiFunction"), accessFlags := 25, slot := 2, constantValue := 0 }]
  methods := #[k11m0, k11m1]
  instanceTypes := #[]
  staticTypes := #[(.object "java/util/function/BiFunction"), (.object "java/util/function/BiFunction"), (.object "java/util/function/BiFunction")]
  resolved := Array.replicate 194 none
  statics := some 2 }

def pool12 : Array CpInfo := pool [(9, u "<init>"), (6, .class_ 18), (1, u "java/lang/Object"), (0, u "()V"), (1, .class_ 23), (1, u "jdk/internal/util/ArraysSupport"), (0, u "LOG2_ARRAY_LONG_INDEX_SCALE"), (0, u "I"), (2, u "U"), (0, u "Ljdk/internal/misc/Unsafe;"), (8, u "BIG_ENDIAN"), (0, u "Z"), (8, u "LOG2_BYTE_BIT_SIZE"), (4, u "LOG2_ARRAY_INT_INDEX_SCALE"), (54, u "JLA"), (0, u "Ljdk/internal/access/JavaLangAccess;"), (11, u "LOG2_ARRAY_BOOLEAN_INDEX_SCALE"), (9, u "LOG2_ARRAY_BYTE_INDEX_SCALE"), (5, u "LOG2_ARRAY_CHAR_INDEX_SCALE"), (5, u "LOG2_ARRAY_SHORT_INDEX_SCALE"), (18, u "LOG2_ARRAY_FLOAT_INDEX_SCALE"), (24, u "LOG2_ARRAY_DOUBLE_INDEX_SCALE"), (89, u "T_BOOLEAN"), (2, u "T_CHAR"), (1, u "T_FLOAT"), (1, u "T_DOUBLE"), (1, u "T_BYTE"), (1, u "T_SHORT"), (1, u "T_INT"), (1, u "T_LONG"), (1, u "SOFT_MAX_ARRAY_LENGTH")] 83

def k12m0 : Method := { name := "<init>", desc := "()V", sig := { parameters := [], returnType := none }, accessFlags := 2, code := none }
/-- jdk/internal/util/ArraysSupport -/
def k12 : Class := { plain "jdk/internal/util/ArraysSupport" (some 0) with
  accessFlags := 33
  interfaces := #[]
  cf := some (fileOf pool12 21 #[] #[{ accessFlags := 2, nameIndex := 9, descriptorIndex := 19, attributes := #[] }] 33 16 #[] #[{ accessFlags := 24, nameIndex := 28, descriptorIndex := 29, attributes := #[] }, { accessFlags := 26, nameIndex := 38, descriptorIndex := 39, attributes := #[] }, { accessFlags := 25, nameIndex := 121, descriptorIndex := 25, attributes := #[] }, { accessFlags := 25, nameIndex := 131, descriptorIndex := 25, attributes := #[] }, { accessFlags := 25, nameIndex := 137, descriptorIndex := 25, attributes := #[] }, { accessFlags := 25, nameIndex := 143, descriptorIndex := 25, attributes := #[] }, { accessFlags := 25, nameIndex := 53, descriptorIndex := 25, attributes := #[] }, { accessFlags := 25, nameIndex := 24, descriptorIndex := 25, attributes := #[] }, { accessFlags := 25, nameIndex := 162, descriptorIndex := 25, attributes := #[] }, { accessFlags := 25, nameIndex := 187, descriptorIndex := 25, attributes := #[] }, { accessFlags := 26, nameIndex := 48, descriptorIndex := 25, attributes := #[] }, { accessFlags := 25, nameIndex := 277, descriptorIndex := 25, attributes := #[] }, { accessFlags := 25, nameIndex := 280, descriptorIndex := 25, attributes := #[] }, { accessFlags := 25, nameIndex := 282, descriptorIndex := 25, attributes := #[] }, { accessFlags := 25, nameIndex := 284, descriptorIndex := 25, attributes := #[] }, { accessFlags := 25, nameIndex := 286, descriptorIndex := 25, attributes := #[] }, { accessFlags := 25, nameIndex := 288, descriptorIndex := 25, attributes := #[] }, { accessFlags := 25, nameIndex := 290, descriptorIndex := 25, attributes := #[] }, { accessFlags := 25, nameIndex := 292, descriptorIndex := 25, attributes := #[] }, { accessFlags := 26, nameIndex := 108, descriptorIndex := 109, attributes := #[] }, { accessFlags := 25, nameIndex := 294, descriptorIndex := 25, attributes := #[] }])
  fields := #[{ name := "U", type := (.object "jdk/internal/misc/Unsafe"), accessFlags := 24, slot := 0, constantValue := 0 }, { name := "BIG_ENDIAN", type := .boolean, accessFlags := 26, slot := 1, constantValue := 0 }, { name := "LOG2_ARRAY_BOOLEAN_INDEX_SCALE", type := .int, accessFlags := 25, slot := 2, constantValue := 0 }, { name := "LOG2_ARRAY_BYTE_INDEX_SCALE", type := .int, accessFlags := 25, slot := 3, constantValue := 0 }, { name := "LOG2_ARRAY_CHAR_INDEX_SCALE", type := .int, accessFlags := 25, slot := 4, constantValue := 0 }, { name := "LOG2_ARRAY_SHORT_INDEX_SCALE", type := .int, accessFlags := 25, slot := 5, constantValue := 0 }, { name := "LOG2_ARRAY_INT_INDEX_SCALE", type := .int, accessFlags := 25, slot := 6, constantValue := 0 }, { name := "LOG2_ARRAY_LONG_INDEX_SCALE", type := .int, accessFlags := 25, slot := 7, constantValue := 0 }, { name := "LOG2_ARRAY_FLOAT_INDEX_SCALE", type := .int, accessFlags := 25, slot := 8, constantValue := 0 }, { name := "LOG2_ARRAY_DOUBLE_INDEX_SCALE", type := .int, accessFlags := 25, slot := 9, constantValue := 0 }, { name := "LOG2_BYTE_BIT_SIZE", type := .int, accessFlags := 26, slot := 10, constantValue := 0 }, { name := "T_BOOLEAN", type := .int, accessFlags := 25, slot := 11, constantValue := 0 }, { name := "T_CHAR", type := .int, accessFlags := 25, slot := 12, constantValue := 0 }, { name := "T_FLOAT", type := .int, accessFlags := 25, slot := 13, constantValue := 0 }, { name := "T_DOUBLE", type := .int, accessFlags := 25, slot := 14, constantValue := 0 }, { name := "T_BYTE", type := .int, accessFlags := 25, slot := 15, constantValue := 0 }, { name := "T_SHORT", type := .int, accessFlags := 25, slot := 16, constantValue := 0 }, { name := "T_INT", type := .int, accessFlags := 25, slot := 17, constantValue := 0 }, { name := "T_LONG", type := .int, accessFlags := 25, slot := 18, constantValue := 0 }, { name := "JLA", type := (.object "jdk/internal/access/JavaLangAccess"), accessFlags := 26, slot := 19, constantValue := 0 }, { name := "SOFT_MAX_ARRAY_LENGTH", type := .int, accessFlags := 25, slot := 20, constantValue := 0 }]
  methods := #[k12m0]
  instanceTypes := #[]
  staticTypes := #[(.object "jdk/internal/misc/Unsafe"), .boolean, .int, .int, .int, .int, .int, .int, .int, .int, .int, .int, .int, .int, .int, .int, .int, .int, .int, (.object "jdk/internal/access/JavaLangAccess"), .int]
  resolved := Array.replicate 378 none
  statics := none }

def pool13 : Array CpInfo := pool [(1, u "java/lang/Cloneable"), (0, .class_ 1), (0, u "java/lang/Object"), (0, .class_ 3)] 3

/-- java/lang/Cloneable -/
def k13 : Class := { plain "java/lang/Cloneable" (some 0) with
  accessFlags := 1537
  interfaces := #[]
  cf := some (fileOf pool13 2 #[] #[] 1537 4 #[] #[])
  fields := #[]
  methods := #[]
  instanceTypes := #[]
  staticTypes := #[]
  resolved := Array.replicate 8 none
  statics := none }

/-- the primitive byte -/
def k14 : Class := { plain "byte" none with kind := .primitive 'B', accessFlags := 0x411 }
/-- [B -/
def k15 : Class := { plain "[B" (some 0) with kind := .array 14 .byte, interfaces := #[13, 2], accessFlags := 1041 }

/-- the primitive char -/
def k16 : Class := { plain "char" none with kind := .primitive 'C', accessFlags := 0x411 }
/-- [C -/
def k17 : Class := { plain "[C" (some 0) with kind := .array 16 .char, interfaces := #[13, 2], accessFlags := 1041 }

/-- the primitive int -/
def k18 : Class := { plain "int" none with kind := .primitive 'I', accessFlags := 0x411 }
/-- [I -/
def k19 : Class := { plain "[I" (some 0) with kind := .array 18 .int, interfaces := #[13, 2], accessFlags := 1041 }

def heap : Heap := #[{ cls := 7, slots := #[.long 0, .int 1, .null, .int 0, .null, .int 0, .int 0], vm := .statics 7 },
  { cls := 9, slots := #[.int 0, .int 8, .int 0, .int 1], vm := .statics 9 },
  { cls := 11, slots := #[.null, .null, .null], vm := .statics 11 }]
def classes : Array Class := #[k0, k1, k2, k3, k4, k5, k6, k7, k8, k9, k10, k11, k12, k13, k14, k15, k16, k17, k18, k19]
def interned : List (Array UInt16 × Addr) := []
def slotsUsed : Nat := 14
def theMethod : MethodId := ⟨1, 3⟩
def args0 : Array Value := #[.int 1, .int 5, .int 7, .int 9, .int 11]
def aboutOver (below : List Frame) : State where
  vm := { classes := classes, interned := interned.toArray }
  heap := heap
  slotsUsed := slotsUsed
  threads := #[{ frames := .invoking theMethod args0 :: below }]
def below0 : List Frame := [.native { method := ⟨0, 0⟩, args := #[] }]
def about1 : State := aboutOver below0
def p0 : Program := .bare "" "" ""
def e0 : Env := launch0.env 0 0 0
theorem w_frames : about1.frames = Frame.invoking theMethod args0 :: below0 := rfl
set_option maxRecDepth 65536 in
theorem w_args : argsFit about1.vm theMethod args0 = true := by decide +kernel
set_option maxRecDepth 65536 in
theorem w_heap : heapFits about1 = true := by decide +kernel
set_option maxRecDepth 65536 in
theorem w_runnable : about1.curStatus? = some .runnable := by decide +kernel
set_option maxRecDepth 65536 in
theorem w_alone : about1.alone = true := by decide +kernel
set_option maxRecDepth 65536 in
theorem w_named : about1.methodNamed? x = some theMethod := by decide +kernel
set_option maxRecDepth 65536 in
theorem w_hears : about1.hears theMethod below0 = true := by decide +kernel
set_option maxRecDepth 65536 in
theorem w_ripe : about1.ripe theMethod args0 below0 = true := by decide +kernel
theorem w_running : about1.status = .running := rfl
set_option maxRecDepth 65536 in
theorem w_room : about1.hasRoom e0.platform room_1 = true :=
  launch0.hasRoom_least _ room_1 (by decide +kernel) (by decide +kernel) (by decide +kernel) (by decide +kernel) (by decide +kernel) (by decide +kernel)
theorem allAtoms_all (ts : List Jvm.Cond) (a : Array Jvm.Value) (st : Jvm.State) : (allAtoms ts).before a st = ts.all (fun c => c.before a st) := by
  induction ts with
  | nil => rfl
  | cons c t ih =>
    show (Jvm.Cond.and c (allAtoms t)).before a st = _
    rw [Jvm.Cond.before_and, ih, List.all_cons]
def words1 : List Jvm.Cond := Jvm.Cond.code x code maxLocals ret :: tables_1
/-- a 'code' word, met by the world's own term for the bytes: nothing is compared byte by byte -/
theorem code_word {y : MethodName} {bytes : ByteArray} {mx : Nat} {rt : Option FieldType} {a : Array Value} {s : State} {m : MethodId} {meth : Method} {c : Code} (h1 : s.methodNamed? y = some m) (h2 : s.vm.method? m = some meth) (h3 : meth.code = some c) (h4 : c.code = bytes)
    (h5 : (c.maxLocals == mx && c.exceptionTable.isEmpty && decide (c.maxStack ≤ mostOperands) && decide (meth.sig.returnType = rt) && !meth.locks && decide (parseMethodDescriptor y.desc = some meth.sig)) = true) : (Jvm.Cond.code y bytes mx rt).before a s = true := by
  simp only [Bool.and_eq_true, beq_iff_eq, Bool.not_eq_true', decide_eq_true_eq] at h5
  obtain ⟨⟨⟨⟨⟨g1, g2⟩, g3⟩, g4⟩, g5⟩, g6⟩ := h5
  simp [Cond.before, Cond.holds, Cond.value, h1, h2, h3, h4, g1, g2, g3, g4, g5, g6]
def isCode : Jvm.Cond → Bool
  | .code _ _ _ _ => true
  | _ => false
theorem all_split {L : List Jvm.Cond} {P : Jvm.Cond → Bool} (h1 : L.all (fun c => isCode c || P c) = true) (h2 : ∀ c ∈ L.filter isCode, P c = true) : L.all P = true := by
  refine List.all_eq_true.mpr fun c hc => ?_
  have h := List.all_eq_true.mp h1 c hc
  rcases Bool.eq_false_or_eq_true (isCode c) with hi | hi
  · exact h2 c (List.mem_filter.mpr ⟨hc, hi⟩)
  · simpa [hi] using h
set_option maxRecDepth 65536 in
theorem w_c0 : (Jvm.Cond.code x code maxLocals ret).before args0 about1 = true := code_word (m := ⟨1, 3⟩) (meth := k1m3) (c := k1c3) (by decide +kernel) rfl rfl rfl (by decide +kernel)
set_option maxRecDepth 65536 in
theorem w_c1 : (Jvm.Cond.code ({ cls := "com/example/tallygate/tallygate/AddressLiteralsIsDecimalPinLaw", name := "draw", desc := "(I)C" } : Jvm.MethodName) method_2_code (1 : Nat) (Option.some Jvm.ClassFile.FieldType.char)).before args0 about1 = true := code_word (m := ⟨1, 1⟩) (meth := k1m1) (c := k1c1) (by decide +kernel) rfl rfl rfl (by decide +kernel)
set_option maxRecDepth 65536 in
theorem w_c2 : (Jvm.Cond.code ({ cls := "java/lang/String", name := "<init>", desc := "([C)V" } : Jvm.MethodName) jdk_42_method_3_code (2 : Nat) (Option.none : Option Jvm.ClassFile.FieldType)).before args0 about1 = true := code_word (m := ⟨7, 1⟩) (meth := k7m1) (c := k7c1) (by decide +kernel) rfl rfl rfl (by decide +kernel)
set_option maxRecDepth 65536 in
theorem w_c3 : (Jvm.Cond.code ({ cls := "java/lang/String", name := "<init>", desc := "([CIILjava/lang/Void;)V" } : Jvm.MethodName) jdk_42_method_149_code (6 : Nat) (Option.none : Option Jvm.ClassFile.FieldType)).before args0 about1 = true := code_word (m := ⟨7, 4⟩) (meth := k7m4) (c := k7c4) (by decide +kernel) rfl rfl rfl (by decide +kernel)
set_option maxRecDepth 65536 in
theorem w_c4 : (Jvm.Cond.code ({ cls := "java/lang/Object", name := "<init>", desc := "()V" } : Jvm.MethodName) object_method_1_code (1 : Nat) (Option.none : Option Jvm.ClassFile.FieldType)).before args0 about1 = true := code_word (m := ⟨0, 0⟩) (meth := k0m0) (c := k0c0) (by decide +kernel) rfl rfl rfl (by decide +kernel)
set_option maxRecDepth 65536 in
theorem w_c5 : (Jvm.Cond.code ({ cls := "com/example/tallygate/tallygate/AddressLiterals", name := "isDecimal", desc := "(Ljava/lang/String;)Z" } : Jvm.MethodName) prog_3_method_11_code (3 : Nat) (Option.some Jvm.ClassFile.FieldType.boolean)).before args0 about1 = true := code_word (m := ⟨8, 1⟩) (meth := k8m1) (c := k8c1) (by decide +kernel) rfl rfl rfl (by decide +kernel)
set_option maxRecDepth 65536 in
theorem w_c6 : (Jvm.Cond.code ({ cls := "java/lang/String", name := "length", desc := "()I" } : Jvm.MethodName) jdk_42_method_54_code (1 : Nat) (Option.some Jvm.ClassFile.FieldType.int)).before args0 about1 = true := code_word (m := ⟨7, 2⟩) (meth := k7m2) (c := k7c2) (by decide +kernel) rfl rfl rfl (by decide +kernel)
set_option maxRecDepth 65536 in
theorem w_c7 : (Jvm.Cond.code ({ cls := "java/lang/String", name := "coder", desc := "()B" } : Jvm.MethodName) jdk_42_method_152_code (1 : Nat) (Option.some Jvm.ClassFile.FieldType.byte)).before args0 about1 = true := code_word (m := ⟨7, 5⟩) (meth := k7m5) (c := k7c5) (by decide +kernel) rfl rfl rfl (by decide +kernel)
set_option maxRecDepth 65536 in
theorem w_c8 : (Jvm.Cond.code ({ cls := "java/lang/StringUTF16", name := "compress", desc := "([CII)[B" } : Jvm.MethodName) jdk_52_method_16_code (6 : Nat) (Option.some (Jvm.ClassFile.FieldType.array Jvm.ClassFile.FieldType.byte))).before args0 about1 = true := code_word (m := ⟨9, 8⟩) (meth := k9m8) (c := k9c8) (by decide +kernel) rfl rfl rfl (by decide +kernel)
set_option maxRecDepth 65536 in
theorem w_c9 : (Jvm.Cond.code ({ cls := "java/lang/StringUTF16", name := "compress", desc := "([CI[BII)I" } : Jvm.MethodName) jdk_52_method_21_code (7 : Nat) (Option.some Jvm.ClassFile.FieldType.int)).before args0 about1 = true := code_word (m := ⟨9, 9⟩) (meth := k9m9) (c := k9c9) (by decide +kernel) rfl rfl rfl (by decide +kernel)
set_option maxRecDepth 65536 in
theorem w_c10 : (Jvm.Cond.code ({ cls := "java/lang/StringUTF16", name := "coderFromArrayLen", desc := "([BI)B" } : Jvm.MethodName) jdk_52_method_15_code (2 : Nat) (Option.some Jvm.ClassFile.FieldType.byte)).before args0 about1 = true := code_word (m := ⟨9, 7⟩) (meth := k9m7) (c := k9c7) (by decide +kernel) rfl rfl rfl (by decide +kernel)
set_option maxRecDepth 65536 in
theorem w_c11 : (Jvm.Cond.code ({ cls := "com/example/tallygate/tallygate/AddressLiteralsIsDecimalPinLaw", name := "digit", desc := "(C)Z" } : Jvm.MethodName) method_3_code (1 : Nat) (Option.some Jvm.ClassFile.FieldType.boolean)).before args0 about1 = true := code_word (m := ⟨1, 2⟩) (meth := k1m2) (c := k1c2) (by decide +kernel) rfl rfl rfl (by decide +kernel)
set_option maxRecDepth 65536 in
theorem w_c12 : (Jvm.Cond.code ({ cls := "java/lang/String", name := "charAt", desc := "(I)C" } : Jvm.MethodName) jdk_42_method_56_code (2 : Nat) (Option.some Jvm.ClassFile.FieldType.char)).before args0 about1 = true := code_word (m := ⟨7, 3⟩) (meth := k7m3) (c := k7c3) (by decide +kernel) rfl rfl rfl (by decide +kernel)
set_option maxRecDepth 65536 in
theorem w_c13 : (Jvm.Cond.code ({ cls := "java/lang/String", name := "isLatin1", desc := "()Z" } : Jvm.MethodName) jdk_42_method_154_code (1 : Nat) (Option.some Jvm.ClassFile.FieldType.boolean)).before args0 about1 = true := code_word (m := ⟨7, 6⟩) (meth := k7m6) (c := k7c6) (by decide +kernel) rfl rfl rfl (by decide +kernel)
set_option maxRecDepth 65536 in
theorem w_c14 : (Jvm.Cond.code ({ cls := "java/lang/StringLatin1", name := "charAt", desc := "([BI)C" } : Jvm.MethodName) jdk_43_method_2_code (2 : Nat) (Option.some Jvm.ClassFile.FieldType.char)).before args0 about1 = true := code_word (m := ⟨10, 1⟩) (meth := k10m1) (c := k10c1) (by decide +kernel) rfl rfl rfl (by decide +kernel)
set_option maxRecDepth 65536 in
theorem w_c15 : (Jvm.Cond.code ({ cls := "java/lang/String", name := "checkIndex", desc := "(II)V" } : Jvm.MethodName) jdk_42_method_155_code (2 : Nat) (Option.none : Option Jvm.ClassFile.FieldType)).before args0 about1 = true := code_word (m := ⟨7, 7⟩) (meth := k7m7) (c := k7c7) (by decide +kernel) rfl rfl rfl (by decide +kernel)
set_option maxRecDepth 65536 in
theorem w_c16 : (Jvm.Cond.code ({ cls := "jdk/internal/util/Preconditions", name := "checkIndex", desc := "(IILjava/util/function/BiFunction;)I" } : Jvm.MethodName) jdk_41_method_11_code (3 : Nat) (Option.some Jvm.ClassFile.FieldType.int)).before args0 about1 = true := code_word (m := ⟨11, 1⟩) (meth := k11m1) (c := k11c1) (by decide +kernel) rfl rfl rfl (by decide +kernel)
set_option maxRecDepth 65536 in
theorem w_c17 : (Jvm.Cond.code ({ cls := "java/lang/StringUTF16", name := "toBytes", desc := "([CII)[B" } : Jvm.MethodName) jdk_52_method_14_code (5 : Nat) (Option.some (Jvm.ClassFile.FieldType.array Jvm.ClassFile.FieldType.byte))).before args0 about1 = true := code_word (m := ⟨9, 6⟩) (meth := k9m6) (c := k9c6) (by decide +kernel) rfl rfl rfl (by decide +kernel)
set_option maxRecDepth 65536 in
theorem w_c18 : (Jvm.Cond.code ({ cls := "java/lang/StringUTF16", name := "newBytesFor", desc := "(I)[B" } : Jvm.MethodName) jdk_52_method_2_code (1 : Nat) (Option.some (Jvm.ClassFile.FieldType.array Jvm.ClassFile.FieldType.byte))).before args0 about1 = true := code_word (m := ⟨9, 1⟩) (meth := k9m1) (c := k9c1) (by decide +kernel) rfl rfl rfl (by decide +kernel)
set_option maxRecDepth 65536 in
theorem w_c19 : (Jvm.Cond.code ({ cls := "java/lang/StringUTF16", name := "newBytesLength", desc := "(I)I" } : Jvm.MethodName) jdk_52_method_3_code (1 : Nat) (Option.some Jvm.ClassFile.FieldType.int)).before args0 about1 = true := code_word (m := ⟨9, 2⟩) (meth := k9m2) (c := k9c2) (by decide +kernel) rfl rfl rfl (by decide +kernel)
set_option maxRecDepth 65536 in
theorem w_c20 : (Jvm.Cond.code ({ cls := "java/lang/StringUTF16", name := "putChar", desc := "([BII)V" } : Jvm.MethodName) jdk_52_method_4_code (3 : Nat) (Option.none : Option Jvm.ClassFile.FieldType)).before args0 about1 = true := code_word (m := ⟨9, 3⟩) (meth := k9m3) (c := k9c3) (by decide +kernel) rfl rfl rfl (by decide +kernel)
set_option maxRecDepth 65536 in
theorem w_c21 : (Jvm.Cond.code ({ cls := "java/lang/StringUTF16", name := "getChar", desc := "([BI)C" } : Jvm.MethodName) jdk_52_method_5_code (2 : Nat) (Option.some Jvm.ClassFile.FieldType.char)).before args0 about1 = true := code_word (m := ⟨9, 4⟩) (meth := k9m4) (c := k9c4) (by decide +kernel) rfl rfl rfl (by decide +kernel)
set_option maxRecDepth 65536 in
theorem w_c22 : (Jvm.Cond.code ({ cls := "java/lang/StringUTF16", name := "charAt", desc := "([BI)C" } : Jvm.MethodName) jdk_52_method_83_code (2 : Nat) (Option.some Jvm.ClassFile.FieldType.char)).before args0 about1 = true := code_word (m := ⟨9, 10⟩) (meth := k9m10) (c := k9c10) (by decide +kernel) rfl rfl rfl (by decide +kernel)
set_option maxRecDepth 65536 in
theorem w_c23 : (Jvm.Cond.code ({ cls := "java/lang/StringUTF16", name := "checkIndex", desc := "(I[B)V" } : Jvm.MethodName) jdk_52_method_91_code (2 : Nat) (Option.none : Option Jvm.ClassFile.FieldType)).before args0 about1 = true := code_word (m := ⟨9, 11⟩) (meth := k9m11) (c := k9c11) (by decide +kernel) rfl rfl rfl (by decide +kernel)
set_option maxRecDepth 65536 in
theorem w_c24 : (Jvm.Cond.code ({ cls := "java/lang/StringUTF16", name := "length", desc := "([B)I" } : Jvm.MethodName) jdk_52_method_6_code (1 : Nat) (Option.some Jvm.ClassFile.FieldType.int)).before args0 about1 = true := code_word (m := ⟨9, 5⟩) (meth := k9m5) (c := k9c5) (by decide +kernel) rfl rfl rfl (by decide +kernel)
def codes1 : List Jvm.Cond := [Jvm.Cond.code x code maxLocals ret, Jvm.Cond.code ({ cls := "com/example/tallygate/tallygate/AddressLiteralsIsDecimalPinLaw", name := "draw", desc := "(I)C" } : Jvm.MethodName) method_2_code (1 : Nat) (Option.some Jvm.ClassFile.FieldType.char), Jvm.Cond.code ({ cls := "java/lang/String", name := "<init>", desc := "([C)V" } : Jvm.MethodName) jdk_42_method_3_code (2 : Nat) (Option.none : Option Jvm.ClassFile.FieldType), Jvm.Cond.code ({ cls := "java/lang/String", name := "<init>", desc := "([CIILjava/lang/Void;)V" } : Jvm.MethodName) jdk_42_method_149_code (6 : Nat) (Option.none : Option Jvm.ClassFile.FieldType), Jvm.Cond.code ({ cls := "java/lang/Object", name := "<init>", desc := "()V" } : Jvm.MethodName) object_method_1_code (1 : Nat) (Option.none : Option Jvm.ClassFile.FieldType), Jvm.Cond.code ({ cls := "com/example/tallygate/tallygate/AddressLiterals", name := "isDecimal", desc := "(Ljava/lang/String;)Z" } : Jvm.MethodName) prog_3_method_11_code (3 : Nat) (Option.some Jvm.ClassFile.FieldType.boolean), Jvm.Cond.code ({ cls := "java/lang/String", name := "length", desc := "()I" } : Jvm.MethodName) jdk_42_method_54_code (1 : Nat) (Option.some Jvm.ClassFile.FieldType.int), Jvm.Cond.code ({ cls := "java/lang/String", name := "coder", desc := "()B" } : Jvm.MethodName) jdk_42_method_152_code (1 : Nat) (Option.some Jvm.ClassFile.FieldType.byte), Jvm.Cond.code ({ cls := "java/lang/StringUTF16", name := "compress", desc := "([CII)[B" } : Jvm.MethodName) jdk_52_method_16_code (6 : Nat) (Option.some (Jvm.ClassFile.FieldType.array Jvm.ClassFile.FieldType.byte)), Jvm.Cond.code ({ cls := "java/lang/StringUTF16", name := "compress", desc := "([CI[BII)I" } : Jvm.MethodName) jdk_52_method_21_code (7 : Nat) (Option.some Jvm.ClassFile.FieldType.int), Jvm.Cond.code ({ cls := "java/lang/StringUTF16", name := "coderFromArrayLen", desc := "([BI)B" } : Jvm.MethodName) jdk_52_method_15_code (2 : Nat) (Option.some Jvm.ClassFile.FieldType.byte), Jvm.Cond.code ({ cls := "com/example/tallygate/tallygate/AddressLiteralsIsDecimalPinLaw", name := "digit", desc := "(C)Z" } : Jvm.MethodName) method_3_code (1 : Nat) (Option.some Jvm.ClassFile.FieldType.boolean), Jvm.Cond.code ({ cls := "java/lang/String", name := "charAt", desc := "(I)C" } : Jvm.MethodName) jdk_42_method_56_code (2 : Nat) (Option.some Jvm.ClassFile.FieldType.char), Jvm.Cond.code ({ cls := "java/lang/String", name := "isLatin1", desc := "()Z" } : Jvm.MethodName) jdk_42_method_154_code (1 : Nat) (Option.some Jvm.ClassFile.FieldType.boolean), Jvm.Cond.code ({ cls := "java/lang/StringLatin1", name := "charAt", desc := "([BI)C" } : Jvm.MethodName) jdk_43_method_2_code (2 : Nat) (Option.some Jvm.ClassFile.FieldType.char), Jvm.Cond.code ({ cls := "java/lang/String", name := "checkIndex", desc := "(II)V" } : Jvm.MethodName) jdk_42_method_155_code (2 : Nat) (Option.none : Option Jvm.ClassFile.FieldType), Jvm.Cond.code ({ cls := "jdk/internal/util/Preconditions", name := "checkIndex", desc := "(IILjava/util/function/BiFunction;)I" } : Jvm.MethodName) jdk_41_method_11_code (3 : Nat) (Option.some Jvm.ClassFile.FieldType.int), Jvm.Cond.code ({ cls := "java/lang/StringUTF16", name := "toBytes", desc := "([CII)[B" } : Jvm.MethodName) jdk_52_method_14_code (5 : Nat) (Option.some (Jvm.ClassFile.FieldType.array Jvm.ClassFile.FieldType.byte)), Jvm.Cond.code ({ cls := "java/lang/StringUTF16", name := "newBytesFor", desc := "(I)[B" } : Jvm.MethodName) jdk_52_method_2_code (1 : Nat) (Option.some (Jvm.ClassFile.FieldType.array Jvm.ClassFile.FieldType.byte)), Jvm.Cond.code ({ cls := "java/lang/StringUTF16", name := "newBytesLength", desc := "(I)I" } : Jvm.MethodName) jdk_52_method_3_code (1 : Nat) (Option.some Jvm.ClassFile.FieldType.int), Jvm.Cond.code ({ cls := "java/lang/StringUTF16", name := "putChar", desc := "([BII)V" } : Jvm.MethodName) jdk_52_method_4_code (3 : Nat) (Option.none : Option Jvm.ClassFile.FieldType), Jvm.Cond.code ({ cls := "java/lang/StringUTF16", name := "getChar", desc := "([BI)C" } : Jvm.MethodName) jdk_52_method_5_code (2 : Nat) (Option.some Jvm.ClassFile.FieldType.char), Jvm.Cond.code ({ cls := "java/lang/StringUTF16", name := "charAt", desc := "([BI)C" } : Jvm.MethodName) jdk_52_method_83_code (2 : Nat) (Option.some Jvm.ClassFile.FieldType.char), Jvm.Cond.code ({ cls := "java/lang/StringUTF16", name := "checkIndex", desc := "(I[B)V" } : Jvm.MethodName) jdk_52_method_91_code (2 : Nat) (Option.none : Option Jvm.ClassFile.FieldType), Jvm.Cond.code ({ cls := "java/lang/StringUTF16", name := "length", desc := "([B)I" } : Jvm.MethodName) jdk_52_method_6_code (1 : Nat) (Option.some Jvm.ClassFile.FieldType.int)]
set_option maxRecDepth 65536 in
theorem codes_eq : words1.filter isCode = codes1 := rfl
theorem w_codes : ∀ c ∈ words1.filter isCode, c.before args0 about1 = true := by
  rw [codes_eq]
  intro c hc
  simp only [codes1, List.mem_cons, List.not_mem_nil, or_false] at hc
  rcases hc with rfl | rfl | rfl | rfl | rfl | rfl | rfl | rfl | rfl | rfl | rfl | rfl | rfl | rfl | rfl | rfl | rfl | rfl | rfl | rfl | rfl | rfl | rfl | rfl | rfl
  · exact w_c0
  · exact w_c1
  · exact w_c2
  · exact w_c3
  · exact w_c4
  · exact w_c5
  · exact w_c6
  · exact w_c7
  · exact w_c8
  · exact w_c9
  · exact w_c10
  · exact w_c11
  · exact w_c12
  · exact w_c13
  · exact w_c14
  · exact w_c15
  · exact w_c16
  · exact w_c17
  · exact w_c18
  · exact w_c19
  · exact w_c20
  · exact w_c21
  · exact w_c22
  · exact w_c23
  · exact w_c24
set_option maxRecDepth 65536 in
theorem w_t1 : (words1.take 24).all (fun c => isCode c || c.before args0 about1) = true := by decide +kernel
set_option maxRecDepth 65536 in
theorem w_t2 : ((words1.drop 24).take 24).all (fun c => isCode c || c.before args0 about1) = true := by decide +kernel
set_option maxRecDepth 65536 in
theorem w_t3 : (((words1.drop 24).drop 24).take 24).all (fun c => isCode c || c.before args0 about1) = true := by decide +kernel
set_option maxRecDepth 65536 in
theorem w_t4 : ((((words1.drop 24).drop 24).drop 24).take 24).all (fun c => isCode c || c.before args0 about1) = true := by decide +kernel
set_option maxRecDepth 65536 in
theorem w_t5 : ((((words1.drop 24).drop 24).drop 24).drop 24).all (fun c => isCode c || c.before args0 about1) = true := by decide +kernel
theorem w_tables : (allAtoms (Jvm.Cond.code x code maxLocals ret :: tables_1)).before args0 about1 = true := by
  rw [allAtoms_all]
  show words1.all (fun c => c.before args0 about1) = true
  refine all_split ?_ w_codes
  rw [← List.take_append_drop 24 words1, List.all_append, w_t1, ← List.take_append_drop 24 (words1.drop 24), List.all_append, w_t2, ← List.take_append_drop 24 ((words1.drop 24).drop 24), List.all_append, w_t3, ← List.take_append_drop 24 (((words1.drop 24).drop 24).drop 24), List.all_append, w_t4, w_t5]
  rfl
set_option maxRecDepth 65536 in
theorem w_rest : rest_1_c.before args0 about1 = true := by decide +kernel
set_option maxRecDepth 65536 in
theorem w_case : (Jvm.Cond.and given_1 narrow_1).before args0 about1 = true := by decide +kernel
set_option maxRecDepth 65536 in
theorem w_consts : constsHeld consts_1 about1 := Jvm.Lit.constsHeldB_iff.mp (by decide +kernel)
theorem w_applies : (headSpec (Jvm.Cond.code x code maxLocals ret :: tables_1) room_1).applies x e0.platform about1 = true :=
  (Spec.applies_iff w_frames).mpr ⟨w_running, w_runnable, w_alone, w_named, w_hears, w_ripe, w_room, w_tables⟩
theorem atStart : AtStart classFile x code maxLocals ret World_1 tables_1 room_1 Calls_1 rest_1 Pre_1 launch0 p0 e0 about1 theMethod args0 below0 :=
  ⟨lists_1, trivial, launch0.admits_env _ _ _, launch0.least_env, fairChoices_fair.cas, fairChoices_fair.clock, w_frames, w_args, w_heap, w_applies, ⟨w_consts, trivial⟩, w_rest, w_case⟩
end start1
theorem witness_1 : WitnessClaimed_1 := ⟨start1.p0, start1.e0, start1.about1, start1.theMethod, start1.args0, start1.below0, start1.atStart⟩
end Jvm.Pilot.@@N@@
