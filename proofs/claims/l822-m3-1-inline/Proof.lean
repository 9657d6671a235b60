import JvmDerived
import JvmDerived.Pilot.@@N@@Statement
import JvmDerived.Pilot.@@N@@Code
set_option linter.unusedVariables false
set_option linter.unusedSimpArgs false
namespace Jvm.RoadKit
open Sem ClassFile Op Lib Jvm.Stand Jvm.Free Jvm.LawKit
section New
variable {p : Program} {l : Launch} {e : Env} {R : Room} {s : State} {m : MethodId} {args : Array Value} {below : List Frame} {meth : Method} {c : Code} {T : State} {locs : List Loc} {cells slots : Nat}
theorem retI (X : Stand p l e R s m args below meth c T locs cells slots) (hx : p.tables.exec = Jvm.exec) {pc : Nat} {Ls : Array Slot} {z : Int32} {rest : List Value} (hret : meth.sig.returnType = some .int) (hd : decode c.code pc = .ok (.ireturn, 1)) {fs : List Frame}
    (hl : ∀ (f : JFrame) (acts : List Action), f.method = m → f.locked = none → f.entered = [] → (doReturn e (T.setTop f) acts (some (.int z))).1 = T.setFrames fs) : Steps p.tables e below (T.setTop (mkF m pc Ls (.int z :: rest))) (T.setFrames fs) := by
  have hm' : T.vm.method? m = some meth := X.method'
  have hn : narrow .int (.int z) = .int z := rfl
  show Steps p.tables e below (T.setTop { method := m, pc := pc, locals := Ls, stack := _ :: rest, locked := none }) _
  jvm_step X.here [X.here.top, hx, hd, hm', hret, hn]
  first | (intro acts; rw [hl _ acts rfl rfl rfl]) | rw [hl _ _ rfl rfl rfl]
  exact Steps.refl _
end New
end Jvm.RoadKit
namespace Jvm.Pilot.@@N@@
open Jvm Jvm.ClassFile Sem Op Lib Jvm.Free Jvm.Stand Jvm.LawKit Jvm.RoadKit Bundle Jvm.Pilot.@@N@@.Jvm.D
abbrev oU : Slot := .unset
abbrev oY0 : ByteArray := jdk_29_method_61_code
abbrev oY1 : ByteArray := jdk_29_method_69_code
abbrev oY2 : ByteArray := jdk_30_method_1_code
abbrev oY3 : ByteArray := jdk_33_method_12_code
abbrev oY4 : ByteArray := jdk_33_method_13_code
abbrev oY5 : ByteArray := jdk_41_method_11_code
abbrev oY6 : ByteArray := jdk_41_method_12_code
abbrev oY7 : ByteArray := jdk_41_method_13_code
abbrev oY8 : ByteArray := jdk_42_method_147_code
abbrev oY9 : ByteArray := jdk_42_method_149_code
abbrev oY10 : ByteArray := jdk_42_method_150_code
abbrev oY11 : ByteArray := jdk_42_method_152_code
abbrev oY12 : ByteArray := jdk_42_method_154_code
abbrev oY13 : ByteArray := jdk_42_method_155_code
abbrev oY14 : ByteArray := jdk_42_method_157_code
abbrev oY15 : ByteArray := jdk_42_method_158_code
abbrev oY16 : ByteArray := jdk_42_method_3_code
abbrev oY17 : ByteArray := jdk_42_method_53_code
abbrev oY18 : ByteArray := jdk_42_method_54_code
abbrev oY19 : ByteArray := jdk_42_method_56_code
abbrev oY20 : ByteArray := jdk_43_method_2_code
abbrev oY21 : ByteArray := jdk_43_method_50_code
abbrev oY22 : ByteArray := jdk_52_method_14_code
abbrev oY23 : ByteArray := jdk_52_method_15_code
abbrev oY24 : ByteArray := jdk_52_method_16_code
abbrev oY25 : ByteArray := jdk_52_method_21_code
abbrev oY26 : ByteArray := jdk_52_method_2_code
abbrev oY27 : ByteArray := jdk_52_method_3_code
abbrev oY28 : ByteArray := jdk_52_method_4_code
abbrev oY29 : ByteArray := jdk_52_method_5_code
abbrev oY30 : ByteArray := jdk_52_method_6_code
abbrev oY31 : ByteArray := jdk_52_method_77_code
abbrev oY32 : ByteArray := jdk_52_method_83_code
abbrev oY33 : ByteArray := jdk_52_method_86_code
abbrev oY34 : ByteArray := jdk_52_method_89_code
abbrev oY35 : ByteArray := jdk_52_method_91_code
abbrev oY36 : ByteArray := jdk_52_method_93_code
abbrev oY37 : ByteArray := jdk_52_method_94_code
abbrev oY38 : ByteArray := jdk_65_method_131_code
abbrev oY39 : ByteArray := jdk_65_method_132_code
abbrev oY40 : ByteArray := jdk_65_method_133_code
abbrev oY41 : ByteArray := jdk_67_method_15_code
abbrev oY42 : ByteArray := jdk_67_method_1_code
abbrev oY43 : ByteArray := jdk_67_method_42_code
abbrev oY44 : ByteArray := jdk_67_method_7_code
abbrev oY45 : ByteArray := jdk_67_method_93_code
abbrev oY46 : ByteArray := jdk_68_method_11_code
abbrev oY47 : ByteArray := jdk_68_method_22_code
abbrev oY48 : ByteArray := jdk_68_method_2_code
abbrev oY49 : ByteArray := jdk_68_method_32_code
abbrev oY50 : ByteArray := jdk_68_method_64_code
abbrev oY51 : ByteArray := jdk_68_method_68_code
abbrev oY52 : ByteArray := jdk_68_method_6_code
abbrev oY53 : ByteArray := jdk_68_method_71_code
abbrev oY54 : ByteArray := jdk_68_method_73_code
abbrev oY55 : ByteArray := jdk_68_method_9_code
abbrev oY56 : ByteArray := method_3_code
abbrev oY57 : ByteArray := method_4_code
abbrev oY58 : ByteArray := method_5_code
abbrev oY59 : ByteArray := prog_2_method_1_code
abbrev oY60 : ByteArray := prog_2_method_9_code
abbrev o_EL : List (String × Nat) := [("com/example/ferry/ferry/Endpoint", 179), ("java/lang/String", 7)]
set_option maxRecDepth 65536
set_option maxHeartbeats 40000000
abbrev oI (x : Int32) : Slot := .val (.int x)
abbrev oR (x : Addr) : Slot := .val (.ref x)
abbrev o_N0 : MethodName := (⟨"java/lang/String", "<init>", "([CIILjava/lang/Void;)V"⟩ : MethodName)
abbrev o_N1 : MethodName := (⟨"java/lang/String", "<init>", "([C)V"⟩ : MethodName)
abbrev o_N2 : MethodName := (⟨"java/lang/StringUTF16", "compress", "([CI[BII)I"⟩ : MethodName)
abbrev o_N3 : MethodName := (⟨"java/lang/StringUTF16", "newBytesLength", "(I)I"⟩ : MethodName)
abbrev o_N4 : MethodName := (⟨"java/lang/StringUTF16", "newBytesFor", "(I)[B"⟩ : MethodName)
abbrev o_N5 : MethodName := (⟨"java/lang/StringUTF16", "putChar", "([BII)V"⟩ : MethodName)
abbrev o_N6 : MethodName := (⟨"java/lang/StringUTF16", "toBytes", "([CII)[B"⟩ : MethodName)
abbrev o_N7 : MethodName := (⟨"java/lang/StringUTF16", "getChar", "([BI)C"⟩ : MethodName)
abbrev o_N8 : MethodName := (⟨"java/lang/StringUTF16", "compress", "([CII)[B"⟩ : MethodName)
abbrev o_N9 : MethodName := (⟨"java/lang/StringUTF16", "coderFromArrayLen", "([BI)B"⟩ : MethodName)
abbrev o_N10 : MethodName := (⟨"java/lang/String", "coder", "()B"⟩ : MethodName)
abbrev o_N11 : MethodName := (⟨"java/lang/String", "length", "()I"⟩ : MethodName)
abbrev o_N12 : MethodName := (⟨"java/lang/String", "isLatin1", "()Z"⟩ : MethodName)
abbrev o_N13 : MethodName := (⟨"jdk/internal/util/Preconditions", "checkIndex", "(IILjava/util/function/BiFunction;)I"⟩ : MethodName)
abbrev o_N14 : MethodName := (⟨"java/lang/String", "checkIndex", "(II)V"⟩ : MethodName)
abbrev o_N15 : MethodName := (⟨"java/lang/StringLatin1", "charAt", "([BI)C"⟩ : MethodName)
abbrev o_N16 : MethodName := (⟨"java/lang/StringUTF16", "length", "([B)I"⟩ : MethodName)
abbrev o_N17 : MethodName := (⟨"java/lang/StringUTF16", "checkIndex", "(I[B)V"⟩ : MethodName)
abbrev o_N18 : MethodName := (⟨"java/lang/StringUTF16", "charAt", "([BI)C"⟩ : MethodName)
abbrev o_N19 : MethodName := (⟨"java/lang/String", "charAt", "(I)C"⟩ : MethodName)
abbrev o_N20 : MethodName := (⟨"java/lang/Record", "<init>", "()V"⟩ : MethodName)
abbrev o_N21 : MethodName := (⟨"com/example/ferry/ferry/Endpoint", "<init>", "(Ljava/lang/String;I)V"⟩ : MethodName)
abbrev o_N22 : MethodName := (⟨"java/lang/AbstractStringBuilder", "<init>", "(I)V"⟩ : MethodName)
abbrev o_N23 : MethodName := (⟨"java/lang/StringBuilder", "<init>", "()V"⟩ : MethodName)
abbrev o_N24 : MethodName := (⟨"java/lang/AbstractStringBuilder", "ensureCapacityInternal", "(I)V"⟩ : MethodName)
abbrev o_N25 : MethodName := (⟨"java/lang/AbstractStringBuilder", "inflateIfNeededFor", "(Ljava/lang/String;)V"⟩ : MethodName)
abbrev o_N26 : MethodName := (⟨"java/lang/String", "getBytes", "([BIB)V"⟩ : MethodName)
abbrev o_N27 : MethodName := (⟨"java/lang/AbstractStringBuilder", "putStringAt", "(ILjava/lang/String;)V"⟩ : MethodName)
abbrev o_N28 : MethodName := (⟨"java/lang/AbstractStringBuilder", "append", "(Ljava/lang/String;)Ljava/lang/AbstractStringBuilder;"⟩ : MethodName)
abbrev o_N29 : MethodName := (⟨"java/lang/StringBuilder", "append", "(Ljava/lang/String;)Ljava/lang/StringBuilder;"⟩ : MethodName)
abbrev o_N30 : MethodName := (⟨"java/lang/AbstractStringBuilder", "isLatin1", "()Z"⟩ : MethodName)
abbrev o_N31 : MethodName := (⟨"jdk/internal/util/Preconditions", "checkFromIndexSize", "(IIILjava/util/function/BiFunction;)I"⟩ : MethodName)
abbrev o_N32 : MethodName := (⟨"java/lang/String", "checkBoundsOffCount", "(III)I"⟩ : MethodName)
abbrev o_N33 : MethodName := (⟨"java/lang/StringUTF16", "checkBoundsOffCount", "(II[B)V"⟩ : MethodName)
abbrev o_N34 : MethodName := (⟨"java/lang/StringUTF16", "inflate", "([BI[BII)V"⟩ : MethodName)
abbrev o_N35 : MethodName := (⟨"java/lang/StringLatin1", "inflate", "([BI[BII)V"⟩ : MethodName)
abbrev o_N36 : MethodName := (⟨"java/lang/AbstractStringBuilder", "inflate", "()V"⟩ : MethodName)
abbrev o_N37 : MethodName := (⟨"java/lang/Integer", "stringSize", "(I)I"⟩ : MethodName)
abbrev o_N38 : MethodName := (⟨"java/lang/Integer", "getChars", "(II[B)I"⟩ : MethodName)
abbrev o_N39 : MethodName := (⟨"java/lang/AbstractStringBuilder", "append", "(I)Ljava/lang/AbstractStringBuilder;"⟩ : MethodName)
abbrev o_N40 : MethodName := (⟨"java/lang/StringBuilder", "append", "(I)Ljava/lang/StringBuilder;"⟩ : MethodName)
abbrev o_N41 : MethodName := (⟨"jdk/internal/util/Preconditions", "checkFromToIndex", "(IIILjava/util/function/BiFunction;)I"⟩ : MethodName)
abbrev o_N42 : MethodName := (⟨"java/lang/String", "checkBoundsBeginEnd", "(III)V"⟩ : MethodName)
abbrev o_N43 : MethodName := (⟨"java/lang/StringUTF16", "checkBoundsBeginEnd", "(II[B)V"⟩ : MethodName)
abbrev o_N44 : MethodName := (⟨"java/lang/StringUTF16", "getChars", "(II[B)I"⟩ : MethodName)
abbrev o_N45 : MethodName := (⟨"java/lang/StringUTF16", "getChars", "(III[B)I"⟩ : MethodName)
abbrev o_N46 : MethodName := (⟨"java/util/Arrays", "checkLength", "(II)V"⟩ : MethodName)
abbrev o_N47 : MethodName := (⟨"java/lang/Math", "min", "(II)I"⟩ : MethodName)
abbrev o_N48 : MethodName := (⟨"java/util/Arrays", "copyOfRangeByte", "([BII)[B"⟩ : MethodName)
abbrev o_N49 : MethodName := (⟨"java/util/Arrays", "copyOfRange", "([BII)[B"⟩ : MethodName)
abbrev o_N50 : MethodName := (⟨"java/lang/AbstractStringBuilder", "getValue", "()[B"⟩ : MethodName)
abbrev o_N51 : MethodName := (⟨"java/lang/AbstractStringBuilder", "length", "()I"⟩ : MethodName)
abbrev o_N52 : MethodName := (⟨"java/lang/StringBuilder", "length", "()I"⟩ : MethodName)
abbrev o_N53 : MethodName := (⟨"java/lang/String", "<init>", "(Ljava/lang/AbstractStringBuilder;Ljava/lang/Void;)V"⟩ : MethodName)
abbrev o_N54 : MethodName := (⟨"java/lang/String", "<init>", "(Ljava/lang/StringBuilder;)V"⟩ : MethodName)
abbrev o_N55 : MethodName := (⟨"java/lang/StringBuilder", "toString", "()Ljava/lang/String;"⟩ : MethodName)
abbrev o_N56 : MethodName := (⟨"com/example/ferry/ferry/Endpoint", "toString", "()Ljava/lang/String;"⟩ : MethodName)
abbrev o_N57 : MethodName := (⟨"java/lang/Math", "abs", "(J)J"⟩ : MethodName)
abbrev o_N58 : MethodName := (⟨"com/example/ferry/ferry/EndpointToStringPinLaw", "digits", "(J)I"⟩ : MethodName)
abbrev o_N59 : MethodName := (⟨"com/example/ferry/ferry/EndpointToStringPinLaw", "pow10", "(I)J"⟩ : MethodName)
abbrev o_N60 : MethodName := (⟨"com/example/ferry/ferry/EndpointToStringPinLaw", "at", "(Ljava/lang/String;IIZJII)Z"⟩ : MethodName)
abbrev o_R0 : Room := ({ frames := 1, cells := 2, slots := 4, locals := 12 } : Room)
abbrev o_R1 : Room := ({ frames := 2, cells := 2, slots := 4, locals := 29 } : Room)
abbrev o_R2 : Room := ({ frames := 0, cells := 0, slots := 0, locals := 0 } : Room)
abbrev o_R3 : Room := ({ frames := 1, cells := 1, slots := 2, locals := 12 } : Room)
abbrev o_R4 : Room := ({ frames := 2, cells := 1, slots := 2, locals := 24 } : Room)
abbrev o_R5 : Room := ({ frames := 3, cells := 2, slots := 3, locals := 40 } : Room)
abbrev o_R6 : Room := ({ frames := 4, cells := 2, slots := 3, locals := 57 } : Room)
abbrev o_R7 : Room := ({ frames := 5, cells := 2, slots := 3, locals := 74 } : Room)
abbrev o_R8 : Room := ({ frames := 1, cells := 1, slots := 4, locals := 12 } : Room)
abbrev o_R9 : Room := ({ frames := 2, cells := 1, slots := 4, locals := 24 } : Room)
abbrev o_R10 : Room := ({ frames := 3, cells := 2, slots := 6, locals := 40 } : Room)
abbrev o_R11 : Room := ({ frames := 4, cells := 2, slots := 6, locals := 57 } : Room)
abbrev o_R12 : Room := ({ frames := 5, cells := 2, slots := 6, locals := 74 } : Room)
abbrev o_R13 : Room := ({ frames := 1, cells := 1, slots := 6, locals := 12 } : Room)
abbrev o_R14 : Room := ({ frames := 2, cells := 1, slots := 6, locals := 24 } : Room)
abbrev o_R15 : Room := ({ frames := 3, cells := 2, slots := 9, locals := 40 } : Room)
abbrev o_R16 : Room := ({ frames := 4, cells := 2, slots := 9, locals := 57 } : Room)
abbrev o_R17 : Room := ({ frames := 5, cells := 2, slots := 9, locals := 74 } : Room)
abbrev o_R18 : Room := ({ frames := 1, cells := 0, slots := 0, locals := 13 } : Room)
abbrev o_R19 : Room := ({ frames := 1, cells := 0, slots := 0, locals := 14 } : Room)
abbrev o_R20 : Room := ({ frames := 2, cells := 0, slots := 0, locals := 27 } : Room)
abbrev o_R21 : Room := ({ frames := 3, cells := 0, slots := 0, locals := 40 } : Room)
abbrev o_R22 : Room := ({ frames := 4, cells := 0, slots := 0, locals := 53 } : Room)
abbrev o_R23 : Room := ({ frames := 1, cells := 0, slots := 0, locals := 12 } : Room)
abbrev o_R24 : Room := ({ frames := 2, cells := 0, slots := 0, locals := 24 } : Room)
abbrev o_R25 : Room := ({ frames := 1, cells := 1, slots := 16, locals := 12 } : Room)
abbrev o_R26 : Room := ({ frames := 2, cells := 1, slots := 16, locals := 25 } : Room)
abbrev o_R27 : Room := ({ frames := 1, cells := 0, slots := 0, locals := 18 } : Room)
abbrev o_R28 : Room := ({ frames := 2, cells := 0, slots := 0, locals := 33 } : Room)
abbrev o_R29 : Room := ({ frames := 3, cells := 0, slots := 0, locals := 47 } : Room)
abbrev o_R30 : Room := ({ frames := 4, cells := 0, slots := 0, locals := 61 } : Room)
abbrev o_R31 : Room := ({ frames := 1, cells := 1, slots := 32, locals := 12 } : Room)
abbrev o_R32 : Room := ({ frames := 1, cells := 0, slots := 0, locals := 15 } : Room)
abbrev o_R33 : Room := ({ frames := 2, cells := 0, slots := 0, locals := 29 } : Room)
abbrev o_R34 : Room := ({ frames := 3, cells := 0, slots := 0, locals := 43 } : Room)
abbrev o_R35 : Room := ({ frames := 4, cells := 0, slots := 0, locals := 60 } : Room)
abbrev o_R36 : Room := ({ frames := 5, cells := 1, slots := 32, locals := 76 } : Room)
abbrev o_R37 : Room := ({ frames := 6, cells := 1, slots := 32, locals := 89 } : Room)
abbrev o_R38 : Room := ({ frames := 7, cells := 1, slots := 32, locals := 102 } : Room)
abbrev o_R39 : Room := ({ frames := 8, cells := 1, slots := 32, locals := 116 } : Room)
abbrev o_R40 : Room := ({ frames := 9, cells := 1, slots := 32, locals := 130 } : Room)
abbrev o_R41 : Room := ({ frames := 2, cells := 0, slots := 0, locals := 25 } : Room)
abbrev o_R42 : Room := ({ frames := 5, cells := 0, slots := 0, locals := 76 } : Room)
abbrev o_R43 : Room := ({ frames := 6, cells := 0, slots := 0, locals := 91 } : Room)
abbrev o_R44 : Room := ({ frames := 7, cells := 0, slots := 0, locals := 105 } : Room)
abbrev o_R45 : Room := ({ frames := 8, cells := 0, slots := 0, locals := 119 } : Room)
abbrev o_R46 : Room := ({ frames := 4, cells := 0, slots := 0, locals := 59 } : Room)
abbrev o_R47 : Room := ({ frames := 5, cells := 0, slots := 0, locals := 74 } : Room)
abbrev o_R48 : Room := ({ frames := 1, cells := 1, slots := 32, locals := 18 } : Room)
abbrev o_R49 : Room := ({ frames := 2, cells := 1, slots := 32, locals := 34 } : Room)
abbrev o_R50 : Room := ({ frames := 3, cells := 1, slots := 32, locals := 49 } : Room)
abbrev o_R51 : Room := ({ frames := 4, cells := 1, slots := 32, locals := 65 } : Room)
abbrev o_R52 : Room := ({ frames := 5, cells := 2, slots := 36, locals := 79 } : Room)
abbrev o_R53 : Room := ({ frames := 10, cells := 7, slots := 96, locals := 143 } : Room)
abbrev o_R54 : Room := ({ frames := 0, cells := 1, slots := 10, locals := 0 } : Room)
abbrev o_R55 : Room := ({ frames := 5, cells := 1, slots := 10, locals := 66 } : Room)
theorem oV {Z : State} {a0 : Array Value} {d : Jvm.Cond} (hw : ∀ d ∈ tables_1, d.before a0 Z = true) (i : Nat) (h : tables_1[i]? = some d) : d.before a0 Z = true := hw _ (List.mem_of_getElem? h)
theorem oW {Z s : State} {a0 args : Array Value} {d : Jvm.Cond} (hw : ∀ d ∈ tables_1, d.before a0 Z = true) (hZ : Z.Warmed39 s.vm) (i : Nat) (h : tables_1[i]? = some d) (hd : (d.onTables && d.keepsFace) = true := by first | rfl | simp [Cond.onTables, Cond.keepsFace, Cond.keeps, Cond.steady]) : d.before args s = true := mvT hZ (hw _ (List.mem_of_getElem? h)) hd
abbrev o_MF (l : Launch) (y : MethodName) (by0 : ByteArray) (ml : Nat) (rt : Option FieldType) (ws : List Jvm.Cond) (R : Room) (A : Array Value) (Z : State) (h0 : Heap) (Q : Option Value → Heap → List Loc → Prop) : Prop := MetFree l y (head1 (Jvm.Cond.code y by0 ml rt :: ws) R) (fun a U => a = A ∧ Z.Warmed39 U.vm ∧ U.heap = h0) (fun _ _ _ _ _ => True) (fun _ U o U' => ∃ v L, o = .returned v ∧ Q v U'.heap L ∧ FrameEnd U o U' L R.cells R.slots)
theorem o_decl {Z : State} {a0 : Array Value} {y : MethodName} {bytes : ByteArray} {maxL : Nat} {ret : Option FieldType} (wi : (Jvm.Cond.instanceMethod y).before a0 Z = true) (wc : (Jvm.Cond.code y bytes maxL ret).before a0 Z = true) : (Jvm.Cond.declares y).before a0 Z = true := by
  obtain ⟨m, meth, h1, h2, h3, -⟩ := Cond.instanceMethod_spec wi
  obtain ⟨meth', c, g1, -, -, -, -, -, -, g8⟩ := Cond.code_spec h1 wc
  cases h2.symm.trans g1
  simp [Cond.before, Cond.holds, Cond.value, h1, h2, h3, g8]
theorem o_nfx {s : State} {args : Array Value} {C : String} {y y2 : MethodName} (hc : y.cls = y2.cls) (hsel : (Jvm.Cond.selects C y2 y2).before args s = true) : NotFace s y := fun r0 h0 => by
  obtain ⟨c2, r2, m2, q1, q2, q3, q4, kP, hkP, hkPi⟩ := Cond.selects_spec hsel
  have e1 := findClass_of_methodNamed h0
  have e2 := findClass_of_methodNamed q3
  rw [hc] at e1
  have e3 : r0.cls = m2.cls := Option.some.inj (e1.symm.trans e2)
  exact ⟨kP, by rw [e3]; exact hkP, hkPi⟩
theorem o_same {Z : State} {a0 : Array Value} {y : MethodName} (wi : (Jvm.Cond.instanceMethod y).before a0 Z = true) (nf : NotFace Z y) (hy : y.cls ≠ "java/lang/invoke/MethodHandle" ∧ y.cls ≠ "java/lang/invoke/VarHandle") : (Jvm.Cond.sameMethod y.cls y.cls y.name y.desc).before a0 Z = true := by
  obtain ⟨m, meth, h1, h2, h3, -⟩ := Cond.instanceMethod_spec wi
  have f := State.methodFound?_of_named h1 hy
  have c := findClass_of_methodNamed h1
  obtain ⟨k, hk, hi⟩ := nf _ h1
  simp [Cond.before, Cond.holds, Cond.value, c, f, h1, hk, hi]
section
variable {p : Program} {l : Launch} {e : Env} {R R' : Room} {s s1 : State} {m : MethodId} {A args : Array Value} {below : List Frame} {meth : Method} {c : Code} {T : State} {locs : List Loc} {cells slots : Nat} {Z : State} {a0 : Array Value} {h h0 : Heap} {y z : MethodName} {by0 : ByteArray} {ml : Nat} {rt : Option FieldType} {ws : List Jvm.Cond} {Q : Option Value → Heap → List Loc → Prop} {F0 : JFrame} {S : Spec} {pc : Nat} {Ls : Array Slot} {rest : List Value}
def o_Go (p : Program) (e : Env) (below : List Frame) (s1 : State) (F0 : JFrame) (s : State) (Q : Option Value → Heap → List Loc → Prop) (R : Room) : Prop := ∃ s₂ o, Steps p.tables e below (s1.setTop F0) s₂ ∧ s₂.status = .running ∧ Ended s₂ below o ∧ ∃ v L, o = .returned v ∧ Q v s₂.heap L ∧ FrameEnd s o s₂ L R.cells R.slots
theorem o_start {C : String} (hC : y.cls = C) (hpn : plainFor y = true) (k : ∀ (p : Program) (e : Env) (s : State) (m : MethodId) (below : List Frame) (meth : Method) (c : Code) (s1 : State) (F0 : JFrame), BodyLoose p l y (head1 (Jvm.Cond.code y by0 ml rt :: ws) R) by0 ml rt e s m A below meth c s1 → p.tables.exec = Jvm.exec → c.code = by0 → c.maxLocals = ml → s.vm.findClass C = some m.cls → meth.name = y.name → Z.Warmed39 s.vm → Stand p l e R s m A below meth c s1 [] 0 0 → s1.heap = h0 → F0 = entryFrame m A ml → o_Go p e below s1 F0 s Q R) : o_MF l y by0 ml rt ws R A Z h0 Q := by
  refine MetFree.of_bodySF hpn hisR ?_
  intro p e s m args below meth c s1 Bd hml hP hK
  obtain ⟨rfl, hZ, hh⟩ := hP
  subst hC
  exact k p e s m below meth c s1 _ Bd Bd.exec Bd.bytes hml (findClass_of_methodNamed Bd.named) (name_of_methodNamed Bd.named Bd.method).1 hZ (Stand.of_body Bd) (by rw [← hh, Bd.state]; rfl) rfl
theorem o_end {v : Option Value} (X : Stand p l e R s m A below meth c T locs cells slots) (Bd : BodyLoose p l y S by0 ml rt e s m A below meth c s1) (hv : rt = none → v = none) (hst : ∀ fs : List Frame, (∀ (f : JFrame) (acts : List Action), f.method = m → f.locked = none → f.entered = [] → (doReturn e (T.setTop f) acts v).1 = T.setFrames fs) → Steps p.tables e below (s1.setTop F0) (T.setFrames fs)) (eT : T.heap = h) (hQ : Q v h locs) (hc : cells ≤ R.cells) (hs : slots ≤ R.slots) : o_Go p e below s1 F0 s Q R := by
  obtain ⟨fs, hr, hrun, hended, hW, hsame⟩ := X.leave (v := v) (fun q => hv (Bd.returns.symm.trans q)) Bd.notSynchronized
  exact ⟨_, _, hst fs hr, hrun, hended, _, _, rfl, by show Q v T.heap locs; rw [eT]; exact hQ, ⟨_, rfl⟩, hW, hsame.mono hc hs⟩
theorem o_eI {x : Int32} (X : Stand p l e R s m A below meth c T locs cells slots) (Bd : BodyLoose p l y S by0 ml (some .int) e s m A below meth c s1) (hx : p.tables.exec = Jvm.exec) (pre : Goes p e below s1 F0 T (mkF m pc Ls (.int x :: rest))) (D : decode c.code pc = .ok (.ireturn, 1)) (eT : T.heap = h) (hQ : Q (some (.int x)) h locs) (hc : cells ≤ R.cells := by decide) (hs : slots ≤ R.slots := by decide) : o_Go p e below s1 F0 s Q R :=
  o_end X Bd nofun (fun fs hr => pre _ (retI X hx Bd.returns D hr)) eT hQ hc hs
theorem o_eN {x : Int32} {t : FieldType} (X : Stand p l e R s m A below meth c T locs cells slots) (Bd : BodyLoose p l y S by0 ml (some t) e s m A below meth c s1) (hx : p.tables.exec = Jvm.exec) (pre : Goes p e below s1 F0 T (mkF m pc Ls (.int x :: rest))) (D : decode c.code pc = .ok (.ireturn, 1)) (eT : T.heap = h) (hQ : Q (some (.int (nar t x))) h locs) (ht : t = .boolean ∨ t = .byte ∨ t = .char ∨ t = .short := by simp) (hc : cells ≤ R.cells := by decide) (hs : slots ≤ R.slots := by decide) : o_Go p e below s1 F0 s Q R :=
  o_end X Bd nofun (fun fs hr => pre _ (retN X hx (t := t) Bd.returns ht D hr)) eT hQ hc hs
theorem o_eV (X : Stand p l e R s m A below meth c T locs cells slots) (Bd : BodyLoose p l y S by0 ml none e s m A below meth c s1) (hx : p.tables.exec = Jvm.exec) (pre : Goes p e below s1 F0 T (mkF m pc Ls [])) (D : decode c.code pc = .ok (.return_, 1)) (eT : T.heap = h) (hQ : Q none h locs) (hc : cells ≤ R.cells := by decide) (hs : slots ≤ R.slots := by decide) : o_Go p e below s1 F0 s Q R :=
  o_end X Bd (fun _ => rfl) (fun fs hr => pre _ (X.returnOut hx Bd.returns D hr)) eT hQ hc hs
theorem o_retJ (X : Stand p l e R s m args below meth c T locs cells slots) (hx : p.tables.exec = Jvm.exec) {x : Int64} (hret : meth.sig.returnType = some .long) (hd : decode c.code pc = .ok (.lreturn, 1)) {fs : List Frame}
    (hl : ∀ (f : JFrame) (acts : List Action), f.method = m → f.locked = none → f.entered = [] → (doReturn e (T.setTop f) acts (some (.long x))).1 = T.setFrames fs) : Steps p.tables e below (T.setTop (mkF m pc Ls (.long x :: rest))) (T.setFrames fs) := by
  have hm' : T.vm.method? m = some meth := X.method'
  show Steps p.tables e below (T.setTop { method := m, pc := pc, locals := Ls, stack := _ :: rest, locked := none }) _
  jvm_step X.here [X.here.top, hx, hd, hm', hret, narrow]
  first | (intro acts; rw [hl _ acts rfl rfl rfl]) | rw [hl _ _ rfl rfl rfl]
  exact Steps.refl _
theorem o_eJ {x : Int64} (X : Stand p l e R s m A below meth c T locs cells slots) (Bd : BodyLoose p l y S by0 ml (some .long) e s m A below meth c s1) (hx : p.tables.exec = Jvm.exec) (pre : Goes p e below s1 F0 T (mkF m pc Ls (.long x :: rest))) (D : decode c.code pc = .ok (.lreturn, 1)) (eT : T.heap = h) (hQ : Q (some (.long x)) h locs) (hc : cells ≤ R.cells := by decide) (hs : slots ≤ R.slots := by decide) : o_Go p e below s1 F0 s Q R :=
  o_end X Bd nofun (fun fs hr => pre _ (o_retJ X hx Bd.returns D hr)) eT hQ hc hs
theorem o_retR (X : Stand p l e R s m args below meth c T locs cells slots) (hx : p.tables.exec = Jvm.exec) {x : Addr} {t : FieldType} (ht : t.isReference = true) (hret : meth.sig.returnType = some t) (hd : decode c.code pc = .ok (.areturn, 1)) {fs : List Frame}
    (hl : ∀ (f : JFrame) (acts : List Action), f.method = m → f.locked = none → f.entered = [] → (doReturn e (T.setTop f) acts (some (.ref x))).1 = T.setFrames fs) : Steps p.tables e below (T.setTop (mkF m pc Ls (.ref x :: rest))) (T.setFrames fs) := by
  have hm' : T.vm.method? m = some meth := X.method'
  show Steps p.tables e below (T.setTop { method := m, pc := pc, locals := Ls, stack := _ :: rest, locked := none }) _
  jvm_step X.here [X.here.top, hx, hd, hm', hret, Value.isRef, ht]
  first | (intro acts; rw [hl _ acts rfl rfl rfl]) | rw [hl _ _ rfl rfl rfl]
  exact Steps.refl _
theorem o_eR {x : Addr} {t : FieldType} (X : Stand p l e R s m A below meth c T locs cells slots) (Bd : BodyLoose p l y S by0 ml (some t) e s m A below meth c s1) (hx : p.tables.exec = Jvm.exec) (pre : Goes p e below s1 F0 T (mkF m pc Ls (.ref x :: rest))) (D : decode c.code pc = .ok (.areturn, 1)) (eT : T.heap = h) (hQ : Q (some (.ref x)) h locs) (ht : t.isReference = true := by rfl) (hc : cells ≤ R.cells := by decide) (hs : slots ≤ R.slots := by decide) : o_Go p e below s1 F0 s Q R :=
  o_end X Bd nofun (fun fs hr => pre _ (o_retR X hx ht Bd.returns D hr)) eT hQ hc hs
theorem o_mr {g : JFrame} {W : Nat} (hmr : g.monitorRoom = 0) (hW : (rest.map fun v => v.category).sum ≤ W) : 2 * g.monitorRoom + (rest.map fun v => v.category).sum ≤ W := by rw [hmr]; simpa using hW
theorem o_cS (W : Nat) {index k : Nat} {own : String} {ps : List FieldType} {r : Option FieldType} {g : JFrame} {as : List Value} (X : Stand p l e R s m args below meth c T locs cells slots) (hx : p.tables.exec = Jvm.exec) (hZ : Z.Warmed39 s.vm) (hml : c.maxLocals = k) (hown : s.vm.findClass own = some m.cls) (w1 : (Jvm.Cond.methodLink own index y).before a0 Z = true) (w2 : (Jvm.Cond.static y).before a0 Z = true) (w3 : (Jvm.Cond.initialized y.cls).before a0 Z = true) (w4 : (Jvm.Cond.code y by0 ml rt).before a0 Z = true) (rm : o_MF l y by0 ml rt [] R' A Z h Q) (eT : T.heap = h) (hpd : parseMethodDescriptor y.desc = some ⟨ps, r⟩) (hd : decode c.code g.pc = .ok (.invokestatic index, 3)) (hst : g.stack = as.reverse ++ rest := by rfl) (hA : A = as.toArray := by rfl) (hg : g.method = m := by rfl) (hk : g.locals.size = k := by rfl) (hmr : g.monitorRoom = 0 := by rfl) (hW : (rest.map fun v => v.category).sum ≤ W := by exact Nat.le_of_eq rfl) (hy : y.cls ≠ "java/lang/invoke/MethodHandle" ∧ y.cls ≠ "java/lang/invoke/VarHandle" := by decide) (hlen : as.length = ps.length := by rfl) (hf : R'.frames + 1 ≤ R.frames := by decide) (hl : W + (ml + 11) + R'.locals ≤ R.locals := by decide) (hc : cells + R'.cells ≤ R.cells := by decide) (hs : slots + R'.slots ≤ R.slots := by decide) :
    ∃ (v : Option Value) (T' : State) (L : List Loc), Stand p l e R s m args below meth c T' (locs ++ L) (cells + R'.cells) (slots + R'.slots) ∧ Q v T'.heap L ∧ ∀ target, Steps p.tables e below (T'.setTop { g with pc := g.pc + 3, stack := v.toList ++ rest }) target → Steps p.tables e below (T.setTop g) target := by
  obtain ⟨v, vm1, ⟨U, L0, k0, n0⟩, hw1, X', ⟨L, hQ, e1, e2, e3⟩, st⟩ := Jvm.LawKit.callS X hx hown (mvT hZ w1) (mvT hZ w2) (mvT hZ w3) (mvT hZ w4) hy (backOf (W := W) rm hZ w4 w3 hf hl) hg (hk.trans hml.symm) (argsL := as) (rest := rest) (lenOf hpd hlen) hst (o_mr hmr hW) hd (fun _ _ => ⟨hA.symm, eT, hc, hs⟩)
  dsimp only [Pt.U, Pt.locs, Pt.cells, Pt.slots] at X' e1 e2 e3 st hQ
  subst e1 e2 e3
  exact ⟨v, U, L, X', hQ, st⟩
theorem o_cV (W : Nat) {index k : Nat} {own C : String} {b : Addr} {ps : List FieldType} {r : Option FieldType} {g : JFrame} {as : List Value} (X : Stand p l e R s m args below meth c T locs cells slots) (hx : p.tables.exec = Jvm.exec) (hZ : Z.Warmed39 s.vm) (hml : c.maxLocals = k) (hown : s.vm.findClass own = some m.cls) (w1 : (Jvm.Cond.methodLink own index y).before a0 Z = true) (w2 : (Jvm.Cond.declares y).before a0 Z = true) (nf : NotFace s y) (w3 : (Jvm.Cond.selects C y z).before a0 Z = true) (w4 : (Jvm.Cond.instanceMethod z).before a0 Z = true) (w5 : (Jvm.Cond.code z by0 ml rt).before a0 Z = true) (w6 : (Jvm.Cond.initialized z.cls).before a0 Z = true) (rm : o_MF l z by0 ml rt [] R' A Z h Q) (eT : T.heap = h) (E : Exa Z h b C) (hpd : parseMethodDescriptor y.desc = some ⟨ps, r⟩) (hd : decode c.code g.pc = .ok (.invokevirtual index, 3)) (hst : g.stack = as.reverse ++ .ref b :: rest := by rfl) (hA : A = (.ref b :: as).toArray := by rfl) (hg : g.method = m := by rfl) (hk : g.locals.size = k := by rfl) (hmr : g.monitorRoom = 0 := by rfl) (hW : (rest.map fun v => v.category).sum ≤ W := by exact Nat.le_of_eq rfl) (hy : y.cls ≠ "java/lang/invoke/MethodHandle" ∧ y.cls ≠ "java/lang/invoke/VarHandle" := by decide) (hlen : as.length = ps.length := by rfl) (hf : R'.frames + 1 ≤ R.frames := by decide) (hl : W + (ml + 11) + R'.locals ≤ R.locals := by decide) (hc : cells + R'.cells ≤ R.cells := by decide) (hs : slots + R'.slots ≤ R.slots := by decide) :
    ∃ (v : Option Value) (T' : State) (L : List Loc), Stand p l e R s m args below meth c T' (locs ++ L) (cells + R'.cells) (slots + R'.slots) ∧ Q v T'.heap L ∧ ∀ target, Steps p.tables e below (T'.setTop { g with pc := g.pc + 3, stack := v.toList ++ rest }) target → Steps p.tables e below (T.setTop g) target := by
  obtain ⟨cB, kB, q1, -, q3⟩ := isOf hZ eT E
  obtain ⟨v, vm1, ⟨U, L0, k0, n0⟩, hw1, X', ⟨L, hQ, e1, e2, e3⟩, st⟩ := X.virtualBack hx hown (mvT hZ w1) (mvT hZ w2) nf (mvT hZ w3) (mvT hZ w4) hy (backOf (W := W) rm hZ w5 w6 hf hl) q1 q3 hg (hk.trans hml.symm) (Steps.refl _) (argsL := as) (rest := rest) (lenOf hpd hlen) hst (o_mr hmr hW) hd (fun _ _ => ⟨hA.symm, eT, hc, hs⟩)
  dsimp only [Pt.U, Pt.locs, Pt.cells, Pt.slots] at X' e1 e2 e3 st hQ
  subst e1 e2 e3
  exact ⟨v, U, L, X', hQ, fun t k => st.trans k⟩
theorem o_cW (W : Nat) {index k : Nat} {own C : String} {b : Addr} {ps : List FieldType} {r : Option FieldType} {g : JFrame} {as : List Value} (X : Stand p l e R s m args below meth c T locs cells slots) (hx : p.tables.exec = Jvm.exec) (hZ : Z.Warmed39 s.vm) (hml : c.maxLocals = k) (hown : s.vm.findClass own = some m.cls) (w1 : (Jvm.Cond.methodLink own index y).before a0 Z = true) (w3 : (Jvm.Cond.selects C y y).before a0 Z = true) (w4 : (Jvm.Cond.instanceMethod y).before a0 Z = true) (w5 : (Jvm.Cond.code y by0 ml rt).before a0 Z = true) (w6 : (Jvm.Cond.initialized y.cls).before a0 Z = true) (rm : o_MF l y by0 ml rt [] R' A Z h Q) (eT : T.heap = h) (E : Exa Z h b C) (hpd : parseMethodDescriptor y.desc = some ⟨ps, r⟩) (hd : decode c.code g.pc = .ok (.invokevirtual index, 3)) (hst : g.stack = as.reverse ++ .ref b :: rest := by rfl) (hA : A = (.ref b :: as).toArray := by rfl) (hg : g.method = m := by rfl) (hk : g.locals.size = k := by rfl) (hmr : g.monitorRoom = 0 := by rfl) (hW : (rest.map fun v => v.category).sum ≤ W := by exact Nat.le_of_eq rfl) (hy : y.cls ≠ "java/lang/invoke/MethodHandle" ∧ y.cls ≠ "java/lang/invoke/VarHandle" := by decide) (hlen : as.length = ps.length := by rfl) (hf : R'.frames + 1 ≤ R.frames := by decide) (hl : W + (ml + 11) + R'.locals ≤ R.locals := by decide) (hc : cells + R'.cells ≤ R.cells := by decide) (hs : slots + R'.slots ≤ R.slots := by decide) :
    ∃ (v : Option Value) (T' : State) (L : List Loc), Stand p l e R s m args below meth c T' (locs ++ L) (cells + R'.cells) (slots + R'.slots) ∧ Q v T'.heap L ∧ ∀ target, Steps p.tables e below (T'.setTop { g with pc := g.pc + 3, stack := v.toList ++ rest }) target → Steps p.tables e below (T.setTop g) target :=
  o_cV W X hx hZ hml hown w1 (o_decl w4 w5) (notFace_of_selects (args := #[]) (mvT hZ w3)) w3 w4 w5 w6 rm eT E hpd hd hst hA hg hk hmr hW hy hlen hf hl hc hs
theorem o_cI (W : Nat) {index k : Nat} {own : String} {b : Addr} {ps : List FieldType} {r : Option FieldType} {g : JFrame} {as : List Value} (X : Stand p l e R s m args below meth c T locs cells slots) (hx : p.tables.exec = Jvm.exec) (hZ : Z.Warmed39 s.vm) (hml : c.maxLocals = k) (hown : s.vm.findClass own = some m.cls) (w1 : (Jvm.Cond.methodLink own index y).before a0 Z = true) (w4 : (Jvm.Cond.instanceMethod y).before a0 Z = true) (w5 : (Jvm.Cond.code y by0 ml none).before a0 Z = true) (w6 : (Jvm.Cond.initialized y.cls).before a0 Z = true) (rm : o_MF l y by0 ml none [] R' A Z h Q) (eT : T.heap = h) (hpd : parseMethodDescriptor y.desc = some ⟨ps, r⟩) (hd : decode c.code g.pc = .ok (.invokespecial index, 3)) (hst : g.stack = as.reverse ++ .ref b :: rest := by rfl) (hA : A = (.ref b :: as).toArray := by rfl) (hg : g.method = m := by rfl) (hk : g.locals.size = k := by rfl) (hmr : g.monitorRoom = 0 := by rfl) (hW : (rest.map fun v => v.category).sum ≤ W := by exact Nat.le_of_eq rfl) (hy1 : y.name = "<init>" := by rfl) (hy : y.cls ≠ "java/lang/invoke/MethodHandle" ∧ y.cls ≠ "java/lang/invoke/VarHandle" := by decide) (hlen : as.length = ps.length := by rfl) (hf : R'.frames + 1 ≤ R.frames := by decide) (hl : W + (ml + 11) + R'.locals ≤ R.locals := by decide) (hc : cells + R'.cells ≤ R.cells := by decide) (hs : slots + R'.slots ≤ R.slots := by decide) :
    ∃ (v : Option Value) (T' : State) (L : List Loc), Stand p l e R s m args below meth c T' (locs ++ L) (cells + R'.cells) (slots + R'.slots) ∧ Q v T'.heap L ∧ ∀ target, Steps p.tables e below (T'.setTop { g with pc := g.pc + 3, stack := v.toList ++ rest }) target → Steps p.tables e below (T.setTop g) target := by
  obtain ⟨v, vm1, ⟨U, L0, k0, n0⟩, hw1, X', ⟨L, hQ, e1, e2, e3⟩, st⟩ := X.specialBack hx hy1 hown (mvT hZ w1) (mvT hZ w4) (mvT hZ w5) hy (backOf (W := W) rm hZ w5 w6 hf hl) hg (hk.trans hml.symm) (Steps.refl _) (a := b) (argsL := as) (rest := rest) (lenOf hpd hlen) hst (o_mr hmr hW) hd (fun _ _ => ⟨hA.symm, eT, hc, hs⟩)
  dsimp only [Pt.U, Pt.locs, Pt.cells, Pt.slots] at X' e1 e2 e3 st hQ
  subst e1 e2 e3
  exact ⟨v, U, L, X', hQ, fun t k => st.trans k⟩
theorem o_cU (W : Nat) {index k : Nat} {own K C : String} {b : Addr} {y2 : MethodName} {ps : List FieldType} {r : Option FieldType} {g : JFrame} {as : List Value} (X : Stand p l e R s m args below meth c T locs cells slots) (hx : p.tables.exec = Jvm.exec) (hZ : Z.Warmed39 s.vm) (hml : c.maxLocals = k) (hown : s.vm.findClass own = some m.cls) (w1 : (Jvm.Cond.methodLink own index y).before a0 Z = true) (w2 : (Jvm.Cond.selects C y2 y2).before a0 Z = true) (w3 : (Jvm.Cond.instanceMethod y).before a0 Z = true) (w4 : (Jvm.Cond.superclass own y.cls).before a0 Z = true) (w5 : (Jvm.Cond.code y by0 ml rt).before a0 Z = true) (w6 : (Jvm.Cond.initialized y.cls).before a0 Z = true) (rm : o_MF l y by0 ml rt [] R' A Z h Q) (eT : T.heap = h) (E : Exa Z h b K) (hpd : parseMethodDescriptor y.desc = some ⟨ps, r⟩) (hd : decode c.code g.pc = .ok (.invokespecial index, 3)) (hst : g.stack = as.reverse ++ .ref b :: rest := by rfl) (hA : A = (.ref b :: as).toArray := by rfl) (hg : g.method = m := by rfl) (hk : g.locals.size = k := by rfl) (hmr : g.monitorRoom = 0 := by rfl) (hW : (rest.map fun v => v.category).sum ≤ W := by exact Nat.le_of_eq rfl) (hn : y.name ≠ "<init>" := by decide) (hy2 : y.cls = y2.cls := by rfl) (hy : y.cls ≠ "java/lang/invoke/MethodHandle" ∧ y.cls ≠ "java/lang/invoke/VarHandle" := by decide) (hlen : as.length = ps.length := by rfl) (hf : R'.frames + 1 ≤ R.frames := by decide) (hl : W + (ml + 11) + R'.locals ≤ R.locals := by decide) (hc : cells + R'.cells ≤ R.cells := by decide) (hs : slots + R'.slots ≤ R.slots := by decide) :
    ∃ (v : Option Value) (T' : State) (L : List Loc), Stand p l e R s m args below meth c T' (locs ++ L) (cells + R'.cells) (slots + R'.slots) ∧ Q v T'.heap L ∧ ∀ target, Steps p.tables e below (T'.setTop { g with pc := g.pc + 3, stack := v.toList ++ rest }) target → Steps p.tables e below (T.setTop g) target := by
  obtain ⟨v, vm1, ⟨U, L0, k0, n0⟩, hw1, X', ⟨L, hQ, e1, e2, e3⟩, st⟩ := superBack X hx hZ hown w1 (o_same w3 (o_nfx hy2 w2) hy) w3 w4 hn (backOf (W := W) rm hZ w5 w6 hf hl) eT (Ins.self E) hg (hk.trans hml.symm) w5 (argsL := as) (rest := rest) (lenOf hpd hlen) hst (o_mr hmr hW) hd (fun _ _ => ⟨hA.symm, eT, hc, hs⟩)
  dsimp only [Pt.U, Pt.locs, Pt.cells, Pt.slots] at X' e1 e2 e3 st hQ
  subst e1 e2 e3
  exact ⟨v, U, L, X', hQ, fun t k => st.trans k⟩
theorem o_il {B : ByteArray} {g : JFrame} {target : State} {k : Fin 4} {v : Int32} (X : Stand p l e R s m args below meth c T locs cells slots) (hx : p.tables.exec = Jvm.exec) (hby : c.code = B) (hd : decode B g.pc = .ok (.iload_n k, 1)) (hl : g.locals[k.val]? = some (.val (.int v))) (hr : Steps p.tables e below (T.setTop { g with pc := g.pc + 1, stack := .int v :: g.stack }) target) (hg : g.method = m := by rfl) : Steps p.tables e below (T.setTop g) target := XS.iloadN X.here hx hg (hb hby hd) hl hr
theorem o_iL {B : ByteArray} {g : JFrame} {target : State} {k : Nat} {v : Int32} (X : Stand p l e R s m args below meth c T locs cells slots) (hx : p.tables.exec = Jvm.exec) (hby : c.code = B) (hd : decode B g.pc = .ok (.iload k, 2)) (hl : g.locals[k]? = some (.val (.int v))) (hr : Steps p.tables e below (T.setTop { g with pc := g.pc + 2, stack := .int v :: g.stack }) target) (hg : g.method = m := by rfl) : Steps p.tables e below (T.setTop g) target := XS.iload X.here hx hg (hb hby hd) hl hr
theorem o_ll {B : ByteArray} {g : JFrame} {target : State} {k : Fin 4} {v : Int64} (X : Stand p l e R s m args below meth c T locs cells slots) (hx : p.tables.exec = Jvm.exec) (hby : c.code = B) (hd : decode B g.pc = .ok (.lload_n k, 1)) (hl : g.locals[k.val]? = some (.val (.long v))) (hr : Steps p.tables e below (T.setTop { g with pc := g.pc + 1, stack := .long v :: g.stack }) target) (hg : g.method = m := by rfl) : Steps p.tables e below (T.setTop g) target := XS.lloadN X.here hx hg (hb hby hd) hl hr
theorem o_lL {B : ByteArray} {g : JFrame} {target : State} {k : Nat} {v : Int64} (X : Stand p l e R s m args below meth c T locs cells slots) (hx : p.tables.exec = Jvm.exec) (hby : c.code = B) (hd : decode B g.pc = .ok (.lload k, 2)) (hl : g.locals[k]? = some (.val (.long v))) (hr : Steps p.tables e below (T.setTop { g with pc := g.pc + 2, stack := .long v :: g.stack }) target) (hg : g.method = m := by rfl) : Steps p.tables e below (T.setTop g) target := XS.lload X.here hx hg (hb hby hd) hl hr
theorem o_al {B : ByteArray} {g : JFrame} {target : State} {k : Fin 4} {v : Value} (X : Stand p l e R s m args below meth c T locs cells slots) (hx : p.tables.exec = Jvm.exec) (hby : c.code = B) (hd : decode B g.pc = .ok (.aload_n k, 1)) (hl : g.locals[k.val]? = some (.val v)) (hr : Steps p.tables e below (T.setTop { g with pc := g.pc + 1, stack := v :: g.stack }) target) (hg : g.method = m := by rfl) (hv : v.isRef = true := by rfl) : Steps p.tables e below (T.setTop g) target := XS.aloadN X.here hx hg (hb hby hd) hl hv hr
theorem o_aL {B : ByteArray} {g : JFrame} {target : State} {k : Nat} {v : Value} (X : Stand p l e R s m args below meth c T locs cells slots) (hx : p.tables.exec = Jvm.exec) (hby : c.code = B) (hd : decode B g.pc = .ok (.aload k, 2)) (hl : g.locals[k]? = some (.val v)) (hr : Steps p.tables e below (T.setTop { g with pc := g.pc + 2, stack := v :: g.stack }) target) (hg : g.method = m := by rfl) (hv : v.isRef = true := by rfl) : Steps p.tables e below (T.setTop g) target := XS.aload X.here hx hg (hb hby hd) hl hv hr
theorem o_ic {B : ByteArray} {g : JFrame} {target : State} {i : Int} (X : Stand p l e R s m args below meth c T locs cells slots) (hx : p.tables.exec = Jvm.exec) (hby : c.code = B) (hd : decode B g.pc = .ok (.iconst i, 1)) (hr : Steps p.tables e below (T.setTop { g with pc := g.pc + 1, stack := .int (Int32.ofInt i) :: g.stack }) target) (hg : g.method = m := by rfl) : Steps p.tables e below (T.setTop g) target := XS.iconst X.here hx hg (hb hby hd) hr
theorem o_bp {B : ByteArray} {g : JFrame} {target : State} {i : Int} (X : Stand p l e R s m args below meth c T locs cells slots) (hx : p.tables.exec = Jvm.exec) (hby : c.code = B) (hd : decode B g.pc = .ok (.bipush i, 2)) (hr : Steps p.tables e below (T.setTop { g with pc := g.pc + 2, stack := .int (Int8.ofInt i).toInt32 :: g.stack }) target) (hg : g.method = m := by rfl) : Steps p.tables e below (T.setTop g) target := XS.bipush X.here hx hg (hb hby hd) hr
theorem o_ifY {B : ByteArray} {g : JFrame} {target : State} (pc0 pc' : Nat) {cd : ClassFile.Cond} {x : Int32} {o : Int} (X : Stand p l e R s m args below meth c T locs cells slots) (hx : p.tables.exec = Jvm.exec) (hby : c.code = B) (hd : decode B pc0 = .ok (.ifCond cd o, 3)) (hc : ifCond.holds cd x = true) (hr : Steps p.tables e below (T.setTop { g with pc := pc', stack := rest }) target) (hpc : g.pc = pc0 := by rfl) (hs : g.stack = .int x :: rest := by rfl) (hg : g.method = m := by rfl) (ho : 0 ≤ (pc0 : Int) + o := by decide) (hp : ((pc0 : Int) + o).toNat = pc' := by decide) : Steps p.tables e below (T.setTop g) target := XS.ifYes X.here hx hg hpc (by rw [hpc]; exact hb hby hd) hs hc ho hp hr
theorem o_icY {B : ByteArray} {g : JFrame} {target : State} (pc0 pc' : Nat) {cd : ClassFile.Cond} {x y : Int32} {o : Int} (X : Stand p l e R s m args below meth c T locs cells slots) (hx : p.tables.exec = Jvm.exec) (hby : c.code = B) (hd : decode B pc0 = .ok (.if_icmp cd o, 3)) (hc : if_icmp.holds cd x y = true) (hr : Steps p.tables e below (T.setTop { g with pc := pc', stack := rest }) target) (hpc : g.pc = pc0 := by rfl) (hs : g.stack = .int y :: .int x :: rest := by rfl) (hg : g.method = m := by rfl) (ho : 0 ≤ (pc0 : Int) + o := by decide) (hp : ((pc0 : Int) + o).toNat = pc' := by decide) : Steps p.tables e below (T.setTop g) target := XS.icmpYes X.here hx hg hpc (by rw [hpc]; exact hb hby hd) hs hc ho hp hr
theorem o_ifN {B : ByteArray} {g : JFrame} {target : State} {cd : ClassFile.Cond} {x : Int32} {o : Int} (X : Stand p l e R s m args below meth c T locs cells slots) (hx : p.tables.exec = Jvm.exec) (hby : c.code = B) (hd : decode B g.pc = .ok (.ifCond cd o, 3)) (hc : ifCond.holds cd x = false) (hr : Steps p.tables e below (T.setTop { g with pc := g.pc + 3, stack := rest }) target) (hs : g.stack = .int x :: rest := by rfl) (hg : g.method = m := by rfl) : Steps p.tables e below (T.setTop g) target := XS.ifNo X.here hx hg (hb hby hd) hs hc hr
theorem o_icN {B : ByteArray} {g : JFrame} {target : State} {cd : ClassFile.Cond} {x y : Int32} {o : Int} (X : Stand p l e R s m args below meth c T locs cells slots) (hx : p.tables.exec = Jvm.exec) (hby : c.code = B) (hd : decode B g.pc = .ok (.if_icmp cd o, 3)) (hc : if_icmp.holds cd x y = false) (hr : Steps p.tables e below (T.setTop { g with pc := g.pc + 3, stack := rest }) target) (hs : g.stack = .int y :: .int x :: rest := by rfl) (hg : g.method = m := by rfl) : Steps p.tables e below (T.setTop g) target := XS.icmpNo X.here hx hg (hb hby hd) hs hc hr
theorem o_gt {B : ByteArray} {g : JFrame} {target : State} (pc0 pc' : Nat) {o : Int} (X : Stand p l e R s m args below meth c T locs cells slots) (hx : p.tables.exec = Jvm.exec) (hby : c.code = B) (hd : decode B pc0 = .ok (.goto o, 3)) (hr : Steps p.tables e below (T.setTop { g with pc := pc' }) target) (hpc : g.pc = pc0 := by rfl) (hg : g.method = m := by rfl) (ho : 0 ≤ (pc0 : Int) + o := by decide) (hp : ((pc0 : Int) + o).toNat = pc' := by decide) : Steps p.tables e below (T.setTop g) target := XS.goto X.here hx hg hpc (by rw [hpc]; exact hb hby hd) ho hp hr
end
theorem o_mG {α : Type} {l : List α} {i : Nat} {a : α} (h : l[i]? = some a) : a ∈ l := List.mem_of_getElem? h
theorem o_sel {s : State} {args : Array Value} {y : MethodName} {n : Nat} (wi : (Jvm.Cond.instantiable y.cls n).before args s = true) (wp : (Jvm.Cond.privateMethod y).before args s = true) (wm : (Jvm.Cond.instanceMethod y).before args s = true) (hy : y.cls ≠ "java/lang/invoke/MethodHandle" ∧ y.cls ≠ "java/lang/invoke/VarHandle") : (Jvm.Cond.selects y.cls y y).before args s = true := by
  obtain ⟨c, k, h1, h2, -, h4, -⟩ := Cond.instantiable_spec wi
  exact Jvm.Stand.selects_self_of_private h1 h2 (by simp only [Bool.or_eq_false_iff] at h4; exact h4.1) (Cond.privateMethod_at wp) wm hy
theorem o_safeV {Z : State} {EL : List (String × Nat)} {vm : Vm} {h : Heap} {x : Addr} {k : ClassId} {ty : FieldType} {z : Int32} {vs : List Value} {d : Value} (hal : Z.vm.Alike vm) (A : Arv Z h x k ty z vs d) (ht : ty ≠ .byte) : Safe Z EL vm h x := by
  obtain ⟨c, A, -⟩ := A; exact Safe.arr hal A ht
theorem o_safe {Z : State} {EL : List (String × Nat)} {vm : Vm} {h : Heap} {a : Addr} (hal : Z.vm.Alike vm) (E : Exa Z h a "java/lang/String") (F : Fld Z h a "java/lang/String" "value" "[B" .null) : Safe Z EL vm h a := fun B => by
  obtain ⟨p, -, u, a', -, q, -, G, rfl | rfl⟩ := B
  · obtain ⟨cS, ⟨SL, -, -⟩, -⟩ := G
    obtain ⟨cell, cf, k, i, f, h1, h2, -, -, -, -, h7⟩ := F
    have ha : h[q.sa]? = some q.sC := SL.ha
    cases h1.symm.trans ha
    obtain ⟨cV, kV, iV, g1, -⟩ := SL.ffV
    obtain ⟨k', g2, -⟩ := State.fieldFound?_setVm (s := ({ Z with heap := h } : State)) hal (show ({ Z with heap := h } : State).fieldFound? _ _ _ = _ from h2)
    have g3 := (show (Wst Z vm h).fieldFound? _ _ _ = _ from g2).symm.trans g1
    simp only [Option.some.injEq, Prod.mk.injEq] at g3
    have g4 := SL.slV
    rw [← g3.2.2.2, h7] at g4
    cases g4
  · obtain ⟨cell, k, e1, e2, e3, -, -⟩ := E
    have hd : h[q.sd]? = some q.SA := G.hd
    cases hd.symm.trans e1
    obtain ⟨cS, -, -, f, -⟩ := G
    have f' : vm.findClass "[B" = some q.SA.cls := f
    rw [hal.findClass] at f'
    obtain ⟨k1, q1, q2⟩ := Vm.findClass_spec f'
    obtain ⟨k2, q3, q4⟩ := Vm.findClass_spec e2
    cases q1.symm.trans q3
    exact absurd (q2.symm.trans q4) (by decide)
def o_Rf (v : Value) : Prop := v = .null ∨ ∃ a, v = .ref a
theorem o_Rf.is {v : Value} (h : o_Rf v) : v.isRef = true := by rcases h with rfl | ⟨a, rfl⟩ <;> rfl
theorem o_Rf.cat {v : Value} (h : o_Rf v) : v.category = 1 := by rcases h with rfl | ⟨a, rfl⟩ <;> rfl
theorem o_Rf.of {v : Value} (h : v.isRef = true) : o_Rf v := by
  cases v <;> simp [Value.isRef] at h
  · exact Or.inl rfl
  · exact Or.inr ⟨_, rfl⟩
def o_ST (Z : State) (cs : Int32) (fm : Value) : Prop := Sta Z Z.heap "java/lang/String" "COMPACT_STRINGS" "Z" (.int cs) ∧ ¬ (cs = (0 : Int32)) ∧ Sta Z Z.heap "java/lang/StringUTF16" "$assertionsDisabled" "Z" (.int 1) ∧ Sta Z Z.heap "java/lang/StringUTF16" "HI_BYTE_SHIFT" "I" (.int 0) ∧ Sta Z Z.heap "java/lang/StringUTF16" "LO_BYTE_SHIFT" "I" (.int 8) ∧ Sta Z Z.heap "jdk/internal/util/Preconditions" "SIOOBE_FORMATTER" "Ljava/util/function/BiFunction;" fm ∧ o_Rf fm
theorem o_ncr (z : Int32) : 0 ≤ (nar .char z).toInt ∧ (nar .char z).toInt < 65536 := by
  have q : ((nar .char z).toInt - z.toInt) % 65536 = 0 ∧ 0 ≤ (nar .char z).toInt ∧ (nar .char z).toInt < 65536 := c_i2c z
  omega
theorem o_nc (z : Int32) (h : 0 ≤ z.toInt ∧ z.toInt < 65536) : nar .char z = z := by
  have q : ((nar .char z).toInt - z.toInt) % 65536 = 0 ∧ 0 ≤ (nar .char z).toInt ∧ (nar .char z).toInt < 65536 := c_i2c z
  refine Int32.toInt_inj.mp ?_
  omega
theorem o_lc' (z : Int32) (h : 0 ≤ z.toInt ∧ z.toInt < 65536) (hp : ¬ ((255 : Int32) < z)) : nar .char ((((nar .byte (z.toInt8.toInt32)) &&& (255 : Int32)).toUInt32.toUInt16.toUInt32.toInt32)) = z := by
  have hp' : ¬ (((255 : Int32)).toInt < z.toInt) := fun q => hp (Int32.lt_iff_toInt_lt.mpr q)
  have e0 : ((255 : Int32)).toInt = 255 := by decide
  have q1 : ((nar .byte (z.toInt8.toInt32)).toInt - (z.toInt8.toInt32).toInt) % 256 = 0 ∧ -128 ≤ (nar .byte (z.toInt8.toInt32)).toInt ∧ (nar .byte (z.toInt8.toInt32)).toInt < 128 := c_i2b _
  have q2 := c_i2b z
  have q3 := c_mask (nar .byte (z.toInt8.toInt32)) (255 : Int32) 8 (by decide) (by decide)
  have q4 := c_i2c ((nar .byte (z.toInt8.toInt32)) &&& (255 : Int32))
  have q5 : ((nar .char (((nar .byte (z.toInt8.toInt32)) &&& (255 : Int32)).toUInt32.toUInt16.toUInt32.toInt32)).toInt - ((((nar .byte (z.toInt8.toInt32)) &&& (255 : Int32)).toUInt32.toUInt16.toUInt32.toInt32)).toInt) % 65536 = 0 ∧ 0 ≤ (nar .char (((nar .byte (z.toInt8.toInt32)) &&& (255 : Int32)).toUInt32.toUInt16.toUInt32.toInt32)).toInt ∧ (nar .char (((nar .byte (z.toInt8.toInt32)) &&& (255 : Int32)).toUInt32.toUInt16.toUInt32.toInt32)).toInt < 65536 := c_i2c _
  refine Int32.toInt_inj.mp ?_
  omega
theorem o_gc' (z : Int32) (h : 0 ≤ z.toInt ∧ z.toInt < 65536) : nar .char ((((((nar .byte ((z >>> ((0 : Int32) &&& 31)).toInt8.toInt32)) &&& (255 : Int32)) <<< ((0 : Int32) &&& 31)) ||| (((nar .byte ((z >>> ((8 : Int32) &&& 31)).toInt8.toInt32)) &&& (255 : Int32)) <<< ((8 : Int32) &&& 31))).toUInt32.toUInt16.toUInt32.toInt32)) = z := by
  have s0 := c_ishr z (0 : Int32) 0 (by decide)
  have s1 := c_ishr z (8 : Int32) 8 (by decide)
  have b0 := c_i2b (z >>> ((0 : Int32) &&& 31))
  have b1 := c_i2b (z >>> ((8 : Int32) &&& 31))
  have n0 : ((nar .byte ((z >>> ((0 : Int32) &&& 31)).toInt8.toInt32)).toInt - ((z >>> ((0 : Int32) &&& 31)).toInt8.toInt32).toInt) % 256 = 0 ∧ -128 ≤ (nar .byte ((z >>> ((0 : Int32) &&& 31)).toInt8.toInt32)).toInt ∧ (nar .byte ((z >>> ((0 : Int32) &&& 31)).toInt8.toInt32)).toInt < 128 := c_i2b _
  have n1 : ((nar .byte ((z >>> ((8 : Int32) &&& 31)).toInt8.toInt32)).toInt - ((z >>> ((8 : Int32) &&& 31)).toInt8.toInt32).toInt) % 256 = 0 ∧ -128 ≤ (nar .byte ((z >>> ((8 : Int32) &&& 31)).toInt8.toInt32)).toInt ∧ (nar .byte ((z >>> ((8 : Int32) &&& 31)).toInt8.toInt32)).toInt < 128 := c_i2b _
  have m0 := c_mask (nar .byte ((z >>> ((0 : Int32) &&& 31)).toInt8.toInt32)) (255 : Int32) 8 (by decide) (by decide)
  have m1 := c_mask (nar .byte ((z >>> ((8 : Int32) &&& 31)).toInt8.toInt32)) (255 : Int32) 8 (by decide) (by decide)
  have l0 := c_ishl ((nar .byte ((z >>> ((0 : Int32) &&& 31)).toInt8.toInt32)) &&& (255 : Int32)) (0 : Int32) 0 (by decide)
  have l1 := c_ishl ((nar .byte ((z >>> ((8 : Int32) &&& 31)).toInt8.toInt32)) &&& (255 : Int32)) (8 : Int32) 8 (by decide)
  have r0 := rng32 (((nar .byte ((z >>> ((0 : Int32) &&& 31)).toInt8.toInt32)) &&& (255 : Int32)) <<< ((0 : Int32) &&& 31))
  have r1 := rng32 (((nar .byte ((z >>> ((8 : Int32) &&& 31)).toInt8.toInt32)) &&& (255 : Int32)) <<< ((8 : Int32) &&& 31))
  have o := c_or' (((nar .byte ((z >>> ((0 : Int32) &&& 31)).toInt8.toInt32)) &&& (255 : Int32)) <<< ((0 : Int32) &&& 31)) (((nar .byte ((z >>> ((8 : Int32) &&& 31)).toInt8.toInt32)) &&& (255 : Int32)) <<< ((8 : Int32) &&& 31)) 8 (by decide) 256 (by decide) (by omega) (by omega) (by omega)
  have c1 := c_i2c ((((nar .byte ((z >>> ((0 : Int32) &&& 31)).toInt8.toInt32)) &&& (255 : Int32)) <<< ((0 : Int32) &&& 31)) ||| (((nar .byte ((z >>> ((8 : Int32) &&& 31)).toInt8.toInt32)) &&& (255 : Int32)) <<< ((8 : Int32) &&& 31)))
  have c2 : ((nar .char (((((nar .byte ((z >>> ((0 : Int32) &&& 31)).toInt8.toInt32)) &&& (255 : Int32)) <<< ((0 : Int32) &&& 31)) ||| (((nar .byte ((z >>> ((8 : Int32) &&& 31)).toInt8.toInt32)) &&& (255 : Int32)) <<< ((8 : Int32) &&& 31))).toUInt32.toUInt16.toUInt32.toInt32)).toInt - ((((((nar .byte ((z >>> ((0 : Int32) &&& 31)).toInt8.toInt32)) &&& (255 : Int32)) <<< ((0 : Int32) &&& 31)) ||| (((nar .byte ((z >>> ((8 : Int32) &&& 31)).toInt8.toInt32)) &&& (255 : Int32)) <<< ((8 : Int32) &&& 31))).toUInt32.toUInt16.toUInt32.toInt32)).toInt) % 65536 = 0 ∧ 0 ≤ (nar .char (((((nar .byte ((z >>> ((0 : Int32) &&& 31)).toInt8.toInt32)) &&& (255 : Int32)) <<< ((0 : Int32) &&& 31)) ||| (((nar .byte ((z >>> ((8 : Int32) &&& 31)).toInt8.toInt32)) &&& (255 : Int32)) <<< ((8 : Int32) &&& 31))).toUInt32.toUInt16.toUInt32.toInt32)).toInt ∧ (nar .char (((((nar .byte ((z >>> ((0 : Int32) &&& 31)).toInt8.toInt32)) &&& (255 : Int32)) <<< ((0 : Int32) &&& 31)) ||| (((nar .byte ((z >>> ((8 : Int32) &&& 31)).toInt8.toInt32)) &&& (255 : Int32)) <<< ((8 : Int32) &&& 31))).toUInt32.toUInt16.toUInt32.toInt32)).toInt < 65536 := c_i2c _
  refine Int32.toInt_inj.mp ?_
  omega
def o_B0 (z : Int32) : Int32 := (nar .byte ((z >>> ((0 : Int32) &&& 31)).toInt8.toInt32))
def o_B1 (z : Int32) : Int32 := (nar .byte ((z >>> ((8 : Int32) &&& 31)).toInt8.toInt32))
def o_by (z : Int32) : Int32 := (nar .byte (z.toInt8.toInt32))
def o_GC (u w : Int32) : Int32 := ((((u &&& (255 : Int32)) <<< ((0 : Int32) &&& 31)) ||| ((w &&& (255 : Int32)) <<< ((8 : Int32) &&& 31))).toUInt32.toUInt16.toUInt32.toInt32)
def o_LC (u : Int32) : Int32 := ((u &&& (255 : Int32)).toUInt32.toUInt16.toUInt32.toInt32)
theorem o_lc (z : Int32) (h : 0 ≤ z.toInt ∧ z.toInt < 65536) (hp : ¬ ((255 : Int32) < z)) : nar .char (o_LC (o_by z)) = z := o_lc' z h hp
theorem o_gc (z : Int32) (h : 0 ≤ z.toInt ∧ z.toInt < 65536) : nar .char (o_GC (o_B0 z) (o_B1 z)) = z := o_gc' z h
def o_At (Z : State) (h : Heap) (y : Addr) (j z : Int32) : Prop := ∃ cl, Arr Z h y cl .byte ∧ ¬ (j < 0 ∨ cl.slots.size ≤ j.toNatClampNeg) ∧ cl.slots[j.toNatClampNeg]? = some (.int z)
def o_Ln (Z : State) (h : Heap) (y : Addr) (n : Int32) : Prop := ∃ cl, Arr Z h y cl .byte ∧ cl.slots.size = n.toNatClampNeg ∧ ¬ n < 0
theorem o_At.of {Z : State} {h : Heap} {y : Addr} {ky : ClassId} {n : Int32} {vs : List Value} {d : Value} {j z : Int32} (V : Arv Z h y ky .byte n vs d) (hj : ¬ j < 0 ∧ j < n) (hv : vs.getD j.toNatClampNeg d = .int z) : o_At Z h y j z := by
  obtain ⟨cl, Ar, q, S, N, H, G⟩ := V
  have hin : ¬ (j < 0 ∨ cl.slots.size ≤ j.toNatClampNeg) := inb_of S hj
  exact ⟨cl, Ar, hin, Has.at H hin hv⟩
theorem o_Ln.of {Z : State} {h : Heap} {y : Addr} {ky : ClassId} {n : Int32} {vs : List Value} {d : Value} (V : Arv Z h y ky .byte n vs d) : o_Ln Z h y n := by
  obtain ⟨cl, Ar, q, S, N, H, G⟩ := V
  exact ⟨cl, Ar, S, N⟩
def o_J0 (j : Int32) : Int32 := (j <<< ((1 : Int32) &&& 31))
def o_J1 (j : Int32) : Int32 := ((j <<< ((1 : Int32) &&& 31)) + (1 : Int32))
def o_LD (Z : State) (h : Heap) (y : Addr) (cd zl : Int32) : Prop := (cd = (0 : Int32) ∧ o_Ln Z h y zl) ∨ (cd = (1 : Int32) ∧ ∃ zn, o_Ln Z h y zn ∧ (zn >>> ((1 : Int32) &&& 31)) = zl)
def o_RD (Z : State) (h : Heap) (y : Addr) (cd ip vz : Int32) : Prop := (cd = (0 : Int32) ∧ ∃ zn pu, o_Ln Z h y zn ∧ o_At Z h y ip pu ∧ ip < zn ∧ nar .char (o_LC pu) = vz) ∨ (cd = (1 : Int32) ∧ ∃ zn pu pw, o_Ln Z h y zn ∧ o_At Z h y (o_J0 ip) pu ∧ o_At Z h y (o_J1 ip) pw ∧ ip < (zn >>> ((1 : Int32) &&& 31)) ∧ nar .char (o_GC pu pw) = vz)
def o_SD (Z : State) (h : Heap) (y : Addr) (ky : ClassId) (cd n1 n2 : Int32) (vs us : List Value) (P : Prop) : Prop := (cd = (0 : Int32) ∧ P ∧ Arv Z h y ky .byte n1 vs (.int 0)) ∨ (cd = (1 : Int32) ∧ Arv Z h y ky .byte n2 us (.int 0))
section
variable {Z : State} {h h' : Heap} {y : Addr} {ky : ClassId} {cd n1 n2 : Int32} {vs us : List Value} {P : Prop}
theorem o_SD.ext (E : Ext h h') (S : o_SD Z h y ky cd n1 n2 vs us P) : o_SD Z h' y ky cd n1 n2 vs us P := by
  rcases S with ⟨q, hp, V⟩ | ⟨q, V⟩
  · exact Or.inl ⟨q, hp, V.ext E⟩
  · exact Or.inr ⟨q, V.ext E⟩
theorem o_SD.other {b : Addr} {sl : Nat} {w : Value} (S : o_SD Z h y ky cd n1 n2 vs us P) (W : Wr h h' b sl w) (hn : y ≠ b) : o_SD Z h' y ky cd n1 n2 vs us P := by
  rcases S with ⟨q, hp, V⟩ | ⟨q, V⟩
  · exact Or.inl ⟨q, hp, V.other W hn⟩
  · exact Or.inr ⟨q, V.other W hn⟩
theorem o_SD.lt (S : o_SD Z h y ky cd n1 n2 vs us P) : y < h.size := by
  rcases S with ⟨q, hp, V⟩ | ⟨q, V⟩
  · exact V.lt
  · exact V.lt
end
theorem o_sh0 (z : Int32) : z >>> ((0 : Int32) &&& 31) = z := by
  have q := c_ishr z (0 : Int32) 0 (by decide)
  refine Int32.toInt_inj.mp ?_
  omega
def o_dg (z : Int32) : Prop := ¬ (z < (48 : Int32)) ∧ ¬ ((57 : Int32) < z)
theorem o_sti {s : State} {args : Array Value} {C n d : String} {k : Int32} (h : (Jvm.Cond.eq (Jvm.Term.static C n d) (Jvm.Term.int k)).value args s none s [] = some true) (hi : (Jvm.Cond.initializedFor C n d).before args s = true ∨ ((Jvm.Cond.initialized C).before args s = true ∧ (Jvm.Cond.laysStatic C n d).before args s = true)) : Sta s s.heap C n d (.int k) := by
  obtain ⟨a, b, ha, hb, -, hk⟩ := cmp_v (Or.inl h)
  have eb : b = .int k := (Option.some.inj ((Term.int_eval k).symm.trans hb)).symm
  subst eb
  obtain ⟨z, rfl⟩ := hk
  simp only [Cond.value, ha, hb] at h
  have e : z = k := by simpa using h
  subst e
  exact Sta.start ha hi
def o_P : Bool → List Value → Nat → Int32 → List Value
  | false, us, k, z => us.set k (.int (o_by z))
  | true, us, k, z => (us.set (2 * k) (.int (o_B0 z))).set (2 * k + 1) (.int (o_B1 z))
def o_rd : Bool → List Value → Nat → Int32 → Prop
  | false, us, k, z => us[k]? = some (.int (o_by z))
  | true, us, k, z => us[2 * k]? = some (.int (o_B0 z)) ∧ us[2 * k + 1]? = some (.int (o_B1 z))
def o_cap : Bool → Nat
  | false => 16
  | true => 32
theorem o_P_len (b : Bool) (us : List Value) (k : Nat) (z : Int32) : (o_P b us k z).length = us.length := by
  cases b <;> simp [o_P]
theorem o_rd_same {b : Bool} {us : List Value} {k : Nat} {z : Int32} (hl : us.length = o_cap b) (hk : k < 16) : o_rd b (o_P b us k z) k z := by
  cases b
  · simp only [o_cap] at hl
    simp [o_rd, o_P, hl, hk]
  · simp only [o_cap] at hl
    refine ⟨?_, ?_⟩
    · show ((us.set (2 * k) _).set (2 * k + 1) _)[2 * k]? = _
      rw [List.getElem?_set_ne (by omega), List.getElem?_set_self (by omega)]
    · show ((us.set (2 * k) _).set (2 * k + 1) _)[2 * k + 1]? = _
      rw [List.getElem?_set_self (by rw [List.length_set]; omega)]
theorem o_rd_ne {b : Bool} {us : List Value} {k j : Nat} {z w : Int32} (h : o_rd b us j w) (hj : j ≠ k) : o_rd b (o_P b us k z) j w := by
  cases b
  · show (us.set k _)[j]? = _
    rw [List.getElem?_set_ne (by omega)]; exact h
  · refine ⟨?_, ?_⟩
    · show ((us.set (2 * k) _).set (2 * k + 1) _)[2 * j]? = _
      rw [List.getElem?_set_ne (by omega), List.getElem?_set_ne (by omega)]; exact h.1
    · show ((us.set (2 * k) _).set (2 * k + 1) _)[2 * j + 1]? = _
      rw [List.getElem?_set_ne (by omega), List.getElem?_set_ne (by omega)]; exact h.2
def o_nd (m : Nat) : Nat := if m < 10 then 1 else if m < 100 then 2 else if m < 1000 then 3 else if m < 10000 then 4 else if m < 100000 then 5 else if m < 1000000 then 6 else if m < 10000000 then 7 else if m < 100000000 then 8 else if m < 1000000000 then 9 else 10
def o_sg (p : Int32) : Nat := if p.toInt < 0 then 1 else 0
def o_M (p : Int32) : Nat := p.toInt.natAbs
def o_pl (p : Int32) : Nat := o_nd (o_M p) + o_sg p
def o_dj (m j : Nat) : Int32 := Int32.ofNat (48 + m / 10 ^ j % 10)
def o_pc (p : Int32) (k : Nat) : Int32 := if o_sg p = 1 ∧ k = 0 then (45 : Int32) else o_dj (o_M p) (o_nd (o_M p) - 1 - (k - o_sg p))
theorem o_dj_step (m j : Nat) : o_dj (m / 100) j = o_dj m (j + 2) := by
  unfold o_dj
  rw [Nat.div_div_eq_div_mul, Nat.pow_add, Nat.mul_comm (10 ^ j)]
theorem o_nd_step (m : Nat) (h : 100 ≤ m) (h2 : m ≤ 2147483648) : o_nd m = o_nd (m / 100) + 2 := by
  unfold o_nd
  rw [if_neg (show ¬ m < 10 by omega), if_neg (show ¬ m < 100 by omega)]
  by_cases h13 : m < 1000
  · rw [if_pos h13, if_pos (show m / 100 < 10 by omega)]
  rw [if_neg h13, if_neg (show ¬ m / 100 < 10 by omega)]
  by_cases h14 : m < 10000
  · rw [if_pos h14, if_pos (show m / 100 < 100 by omega)]
  rw [if_neg h14, if_neg (show ¬ m / 100 < 100 by omega)]
  by_cases h15 : m < 100000
  · rw [if_pos h15, if_pos (show m / 100 < 1000 by omega)]
  rw [if_neg h15, if_neg (show ¬ m / 100 < 1000 by omega)]
  by_cases h16 : m < 1000000
  · rw [if_pos h16, if_pos (show m / 100 < 10000 by omega)]
  rw [if_neg h16, if_neg (show ¬ m / 100 < 10000 by omega)]
  by_cases h17 : m < 10000000
  · rw [if_pos h17, if_pos (show m / 100 < 100000 by omega)]
  rw [if_neg h17, if_neg (show ¬ m / 100 < 100000 by omega)]
  by_cases h18 : m < 100000000
  · rw [if_pos h18, if_pos (show m / 100 < 1000000 by omega)]
  rw [if_neg h18, if_neg (show ¬ m / 100 < 1000000 by omega)]
  by_cases h19 : m < 1000000000
  · rw [if_pos h19, if_pos (show m / 100 < 10000000 by omega)]
  rw [if_neg h19, if_neg (show ¬ m / 100 < 10000000 by omega)]
  rw [if_pos (show m / 100 < 100000000 by omega)]
theorem o_nd_pos (m : Nat) : 1 ≤ o_nd m := by
  unfold o_nd
  repeat' split
  all_goals omega
theorem o_nd_le (m : Nat) : o_nd m ≤ 10 := by
  unfold o_nd
  repeat' split
  all_goals omega
theorem o_nd1 {m : Nat} (h : ¬ 9 < m) : o_nd m = 1 := by unfold o_nd; rw [if_pos (by omega)]
theorem o_nd2 {m : Nat} (h : 9 < m) (h2 : m < 100) : o_nd m = 2 := by unfold o_nd; rw [if_neg (by omega), if_pos h2]
theorem o_sg_le (p : Int32) : o_sg p ≤ 1 := by unfold o_sg; split <;> omega
theorem o_pl_le (p : Int32) : o_pl p ≤ 11 := by
  have h1 := o_nd_le (o_M p); have h2 := o_sg_le p
  unfold o_pl; omega
theorem o_pl_pos (p : Int32) : 1 ≤ o_pl p := by
  have h1 := o_nd_pos (o_M p)
  unfold o_pl; omega
theorem o_M_le (p : Int32) (h : -2147483648 ≤ p.toInt ∧ p.toInt < 2147483648) : o_M p ≤ 2147483648 := by unfold o_M; omega
def o_LW (b : Bool) (us us' : List Value) (c m c' m' : Nat) : Prop := ∃ t, m' < 100 ∧ c' + 2 * t = c ∧ o_nd m = o_nd m' + 2 * t ∧ us'.length = us.length ∧ (∀ j, o_dj m' j = o_dj m (j + 2 * t)) ∧ (∀ j z, (j < c' ∨ c ≤ j) → o_rd b us j z → o_rd b us' j z) ∧ ∀ j, j < 2 * t → o_rd b us' (c - 1 - j) (o_dj m j)
theorem o_LW0 (b : Bool) (us : List Value) (c : Nat) {m : Nat} (h : m < 100) : o_LW b us us c m c m := ⟨0, h, rfl, rfl, rfl, fun _ => rfl, fun _ _ _ q => q, fun j hj => absurd hj (by omega)⟩
theorem o_LWs {b : Bool} {us us' : List Value} {c m c' m' : Nat} (h100 : 100 ≤ m) (hm : m ≤ 2147483648) (hc : 2 ≤ c) (hc2 : c ≤ 16) (hl : us.length = o_cap b) (W : o_LW b (o_P b (o_P b us (c - 1) (o_dj m 0)) (c - 2) (o_dj m 1)) us' (c - 2) (m / 100) c' m') : o_LW b us us' c m c' m' := by
  obtain ⟨t, w1, w2, w3, w4, w5, w6, w7⟩ := W
  refine ⟨t + 1, w1, by omega, by rw [o_nd_step m h100 hm, w3]; omega, by rw [w4, o_P_len, o_P_len], fun j => ?_, fun j z hj q => ?_, fun j hj => ?_⟩
  · rw [w5 j, o_dj_step]; rfl
  · exact w6 j z (by omega) (o_rd_ne (o_rd_ne q (by omega)) (by omega))
  · match j, hj with
    | 0, _ => exact w6 _ _ (by omega) (o_rd_ne (o_rd_same hl (by omega)) (by omega))
    | 1, _ => exact w6 _ _ (by omega) (by rw [show c - 1 - 1 = c - 2 by omega]; exact o_rd_same (by rw [o_P_len]; exact hl) (by omega))
    | j + 2, hj =>
      have q := w7 j (by omega)
      rw [o_dj_step, show c - 2 - 1 - j = c - 1 - (j + 2) by omega] at q
      exact q
def o_T (b : Bool) (us : List Value) (c m s : Nat) : List Value := if s = 1 then o_P b (if 9 < m then o_P b (o_P b us (c - 1) (o_dj m 0)) (c - 2) (o_dj m 1) else o_P b us (c - 1) (o_dj m 0)) (c - o_nd m - 1) (45 : Int32) else if 9 < m then o_P b (o_P b us (c - 1) (o_dj m 0)) (c - 2) (o_dj m 1) else o_P b us (c - 1) (o_dj m 0)
def o_DW (b : Bool) (us us' : List Value) (e : Nat) (p : Int32) : Prop := us'.length = us.length ∧ (∀ j z, j < e - o_pl p → o_rd b us j z → o_rd b us' j z) ∧ ∀ k, k < o_pl p → o_rd b us' (e - o_pl p + k) (o_pc p k)
/-- the digits alone, ahead of the sign -/
theorem o_fin1 {b : Bool} {us us' : List Value} {e c m c' m' : Nat} (hl : us.length = o_cap b) (he2 : e ≤ 16) (W : o_LW b us us' e m c' m') (hc : o_nd m ≤ e) : ∃ u2, u2 = (if 9 < m' then o_P b (o_P b us' (c' - 1) (o_dj m' 0)) (c' - 2) (o_dj m' 1) else o_P b us' (c' - 1) (o_dj m' 0)) ∧ u2.length = us.length ∧ c' - o_nd m' = e - o_nd m ∧ (∀ j z, j < e - o_nd m → o_rd b us j z → o_rd b u2 j z) ∧ ∀ j, j < o_nd m → o_rd b u2 (e - 1 - j) (o_dj m j) := by
  obtain ⟨t, w1, w2, w3, w4, w5, w6, w7⟩ := W
  have hl' : us'.length = o_cap b := w4.trans hl
  by_cases h9 : 9 < m'
  · have n2 := o_nd2 h9 w1
    refine ⟨_, rfl, ?_, by omega, ?_, ?_⟩
    · rw [if_pos h9, o_P_len, o_P_len, w4]
    · intro j z hj q
      rw [if_pos h9]
      exact o_rd_ne (o_rd_ne (w6 j z (by omega) q) (by omega)) (by omega)
    · intro j hj
      rw [if_pos h9]
      by_cases h1 : j < 2 * t
      · exact o_rd_ne (o_rd_ne (w7 j h1) (by omega)) (by omega)
      · by_cases h2 : j = 2 * t
        · subst h2
          have := w5 0
          rw [Nat.zero_add] at this
          rw [← this, show e - 1 - 2 * t = c' - 1 by omega]
          exact o_rd_ne (o_rd_same hl' (by omega)) (by omega)
        · have h3 : j = 2 * t + 1 := by omega
          subst h3
          have := w5 1
          rw [Nat.add_comm 1] at this
          rw [← this, show e - 1 - (2 * t + 1) = c' - 2 by omega]
          exact o_rd_same (by rw [o_P_len]; exact hl') (by omega)
  · have n1 := o_nd1 h9
    refine ⟨_, rfl, ?_, by omega, ?_, ?_⟩
    · rw [if_neg h9, o_P_len, w4]
    · intro j z hj q
      rw [if_neg h9]
      exact o_rd_ne (w6 j z (by omega) q) (by omega)
    · intro j hj
      rw [if_neg h9]
      by_cases h1 : j < 2 * t
      · exact o_rd_ne (w7 j h1) (by omega)
      · have h2 : j = 2 * t := by omega
        subst h2
        have := w5 0
        rw [Nat.zero_add] at this
        rw [← this, show e - 1 - 2 * t = c' - 1 by omega]
        exact o_rd_same hl' (by omega)
theorem o_fin {b : Bool} {us us' : List Value} {e : Nat} {p : Int32} {c' m' : Nat} (hl : us.length = o_cap b) (he : o_pl p ≤ e) (he2 : e ≤ 16) (W : o_LW b us us' e (o_M p) c' m') : o_DW b us (o_T b us' c' m' (o_sg p)) e p := by
  have hp : o_pl p = o_nd (o_M p) + o_sg p := rfl
  obtain ⟨u2, e2, l2, k2, a2, d2⟩ := o_fin1 (c := e) hl he2 W (by omega)
  have hs := o_sg_le p
  unfold o_T
  rw [← e2]
  by_cases h1 : o_sg p = 1
  · rw [if_pos h1]
    refine ⟨by rw [o_P_len]; exact l2, fun j z hj q => o_rd_ne (a2 j z (by omega) q) (by omega), fun k hk => ?_⟩
    unfold o_pc
    by_cases h0 : k = 0
    · rw [if_pos ⟨h1, h0⟩, h0, show c' - o_nd m' - 1 = e - o_pl p + 0 by omega]
      exact o_rd_same (l2.trans hl) (by omega)
    · rw [if_neg (fun q => h0 q.2)]
      have q := d2 (o_nd (o_M p) - 1 - (k - o_sg p)) (by omega)
      rw [show e - 1 - (o_nd (o_M p) - 1 - (k - o_sg p)) = e - o_pl p + k by omega] at q
      exact o_rd_ne q (by omega)
  · have h0 : o_sg p = 0 := by omega
    rw [if_neg h1]
    refine ⟨l2, fun j z hj q => a2 j z (by omega) q, fun k hk => ?_⟩
    unfold o_pc
    rw [if_neg (fun q => h1 q.1)]
    have q := d2 (o_nd (o_M p) - 1 - (k - o_sg p)) (by omega)
    rw [show e - 1 - (o_nd (o_M p) - 1 - (k - o_sg p)) = e - o_pl p + k by omega] at q
    exact q
theorem o_T10 {b : Bool} {us : List Value} {c m s : Nat} (h9 : 9 < m) (hs : s = 0) : o_P b (o_P b us (c - 1) (o_dj m 0)) (c - 2) (o_dj m 1) = o_T b us c m s := by unfold o_T; rw [if_neg (by omega), if_pos h9]
theorem o_T00 {b : Bool} {us : List Value} {c m s : Nat} (h9 : ¬ 9 < m) (hs : s = 0) : o_P b us (c - 1) (o_dj m 0) = o_T b us c m s := by unfold o_T; rw [if_neg (by omega), if_neg h9]
theorem o_T11 {b : Bool} {us : List Value} {c m s : Nat} (h9 : 9 < m) (h2 : m < 100) (hs : s = 1) : o_P b (o_P b (o_P b us (c - 1) (o_dj m 0)) (c - 2) (o_dj m 1)) (c - 3) (45 : Int32) = o_T b us c m s := by unfold o_T; rw [if_pos hs, if_pos h9, o_nd2 h9 h2]; rfl
theorem o_T01 {b : Bool} {us : List Value} {c m s : Nat} (h9 : ¬ 9 < m) (hs : s = 1) : o_P b (o_P b us (c - 1) (o_dj m 0)) (c - 2) (45 : Int32) = o_T b us c m s := by unfold o_T; rw [if_pos hs, if_neg h9, o_nd1 h9]; rfl
theorem o_e0 (m : Nat) : Int32.ofNat (48 + m % 100 % 10) = o_dj m 0 := by unfold o_dj; rw [Nat.pow_zero, Nat.div_one, show m % 100 % 10 = m % 10 by omega]
theorem o_e1 (m : Nat) : Int32.ofNat (48 + m % 100 / 10) = o_dj m 1 := by unfold o_dj; rw [Nat.pow_one, show m % 100 / 10 = m / 10 % 10 by omega]
theorem o_e2 {m : Nat} (h : m < 100) : Int32.ofNat (48 + m % 10) = o_dj m 0 := by unfold o_dj; rw [Nat.pow_zero, Nat.div_one]
theorem o_e3 {m : Nat} (h : m < 100) : Int32.ofNat (48 + m / 10) = o_dj m 1 := by unfold o_dj; rw [Nat.pow_one, show m / 10 % 10 = m / 10 by omega]
abbrev o_Z16 : List Value := [(.int 0), (.int 0), (.int 0), (.int 0), (.int 0), (.int 0), (.int 0), (.int 0), (.int 0), (.int 0), (.int 0), (.int 0), (.int 0), (.int 0), (.int 0), (.int 0)]
abbrev o_Z32 : List Value := [(.int 0), (.int 0), (.int 0), (.int 0), (.int 0), (.int 0), (.int 0), (.int 0), (.int 0), (.int 0), (.int 0), (.int 0), (.int 0), (.int 0), (.int 0), (.int 0), (.int 0), (.int 0), (.int 0), (.int 0), (.int 0), (.int 0), (.int 0), (.int 0), (.int 0), (.int 0), (.int 0), (.int 0), (.int 0), (.int 0), (.int 0), (.int 0)]
def o_SB (Z : State) (h : Heap) (n0 : Nat) (x1 ab : Addr) (kb : ClassId) (us : List Value) (cc : Nat) (cd zn : Int32) (N : Nat) : Prop :=
  Exa Z h x1 "java/lang/StringBuilder" ∧ Fld Z h x1 "java/lang/AbstractStringBuilder" "value" "[B" (.ref ab) ∧ Fld Z h x1 "java/lang/AbstractStringBuilder" "coder" "B" (.int cd) ∧ Fld Z h x1 "java/lang/AbstractStringBuilder" "count" "I" (.int (Int32.ofNat cc)) ∧ Fld Z h x1 "java/lang/AbstractStringBuilder" "maybeLatin1" "Z" (.int 0) ∧ Arv Z h ab kb .byte zn us (.int 0) ∧ us.length = N ∧ x1 ≠ ab ∧ n0 ≤ x1 ∧ n0 ≤ ab
theorem o_SB.ext {Z : State} {h h' : Heap} {n0 : Nat} {x1 ab : Addr} {kb : ClassId} {us : List Value} {cc : Nat} {cd zn : Int32} {N : Nat} (S : o_SB Z h n0 x1 ab kb us cc cd zn N) (E : Ext h h') : o_SB Z h' n0 x1 ab kb us cc cd zn N := by
  obtain ⟨f1, f2, f3, f4, f5, f6, rest⟩ := S
  exact ⟨f1.ext E, f2.ext E, f3.ext E, f4.ext E, f5.ext E, f6.ext E, rest⟩
theorem o_SB.keep {Z : State} {h h' : Heap} {n0 : Nat} {x1 ab : Addr} {kb : ClassId} {us : List Value} {cc : Nat} {cd zn : Int32} {N : Nat} {ws : List Addr} (S : o_SB Z h n0 x1 ab kb us cc cd zn N) (K : Keep h h' ws) (q1 : x1 ∉ ws) (q2 : ab ∉ ws) : o_SB Z h' n0 x1 ab kb us cc cd zn N := by
  obtain ⟨f1, f2, f3, f4, f5, f6, rest⟩ := S
  exact ⟨f1.keep K, f2.keep K q1, f3.keep K q1, f4.keep K q1, f5.keep K q1, f6.keep K q2, rest⟩
theorem o_oi {n : Nat} (h : n ≤ 4096) : (Int32.ofNat n).toInt = n := Int32.toInt_ofNat_of_lt (by omega)
theorem o_oc {n : Nat} (h : n ≤ 4096) : (Int32.ofNat n).toNatClampNeg = n := by
  have h1 := o_oi h
  have h2 : (Int32.ofNat n).toNatClampNeg = (Int32.ofNat n).toInt.toNat := rfl
  rw [h2, h1]; rfl
theorem o_onn {n : Nat} (h : n ≤ 4096) : ¬ Int32.ofNat n < 0 := by
  intro q
  have h1 := Int32.lt_iff_toInt_lt.mp q
  have h2 := o_oi h
  have h3 : (0 : Int32).toInt = 0 := by decide
  omega
theorem o_olt {a b : Nat} (h : a < b) (hb : b ≤ 4096) : Int32.ofNat a < Int32.ofNat b := by
  refine Int32.lt_iff_toInt_lt.mpr ?_
  rw [o_oi (by omega), o_oi hb]; omega
theorem o_onl {a b : Nat} (h : b ≤ a) (ha : a ≤ 4096) : ¬ Int32.ofNat a < Int32.ofNat b := by
  intro q
  have q' := Int32.lt_iff_toInt_lt.mp q
  rw [o_oi ha, o_oi (show b ≤ 4096 by omega)] at q'; omega
theorem o_one {a b : Nat} (h : a ≠ b) (ha : a ≤ 4096) (hb : b ≤ 4096) : ¬ Int32.ofNat a = Int32.ofNat b := by
  intro q
  have q' := congrArg Int32.toInt q
  rw [o_oi ha, o_oi hb] at q'; omega
theorem o_oadd (a b : Nat) : Int32.ofNat a + Int32.ofNat b = Int32.ofNat (a + b) := (Int32.ofNat_add a b).symm
theorem o_om1 {a : Nat} (h : 1 ≤ a) (h2 : a ≤ 4096) : Int32.ofNat a + (-1 : Int32) = Int32.ofNat (a - 1) := by
  have q := c_iadd (Int32.ofNat a) (-1 : Int32)
  have r := rng32 (Int32.ofNat a + (-1 : Int32))
  have e := o_oi h2
  have e2 := o_oi (n := a - 1) (by omega)
  have e3 : (-1 : Int32).toInt = -1 := by decide
  refine Int32.toInt_inj.mp ?_
  omega
theorem o_os0 (a : Nat) : Int32.ofNat a - (0 : Int32) = Int32.ofNat a := Int32.sub_zero _
theorem o_oh0 (z : Int32) : z <<< ((0 : Int32) &&& 31) = z := by
  have q := c_ishl z (0 : Int32) 0 (by decide)
  have r := rng32 (z <<< ((0 : Int32) &&& 31))
  have r2 := rng32 z
  refine Int32.toInt_inj.mp ?_
  omega
theorem o_oh1 {a : Nat} (h : a ≤ 2000) : Int32.ofNat a <<< ((1 : Int32) &&& 31) = Int32.ofNat (2 * a) := by
  have q := c_ishl (Int32.ofNat a) (1 : Int32) 1 (by decide)
  have r := rng32 (Int32.ofNat a <<< ((1 : Int32) &&& 31))
  have e := o_oi (n := a) (by omega)
  have e2 := o_oi (n := 2 * a) (by omega)
  refine Int32.toInt_inj.mp ?_
  omega
theorem o_ohr {a : Nat} (h : a ≤ 2000) : Int32.ofNat (2 * a) >>> ((1 : Int32) &&& 31) = Int32.ofNat a := by
  have q := c_ishr (Int32.ofNat (2 * a)) (1 : Int32) 1 (by decide)
  have e := o_oi (n := a) (by omega)
  have e2 := o_oi (n := 2 * a) (by omega)
  refine Int32.toInt_inj.mp ?_
  omega
theorem o_ens {a : Nat} (h : a ≤ 16) : ¬ ((0 : Int32) < (Int32.ofNat a - (16 : Int32))) := by
  intro w
  have w' := Int32.lt_iff_toInt_lt.mp w
  have q := c_isub (Int32.ofNat a) (16 : Int32)
  have r := rng32 (Int32.ofNat a - (16 : Int32))
  have e := o_oi (n := a) (by omega)
  have e2 : (16 : Int32).toInt = 16 := by decide
  have e3 : (0 : Int32).toInt = 0 := by decide
  omega
theorem o_pj : ∀ k, k < 16 → (¬ (Int32.ofNat k <<< ((1 : Int32) &&& 31)) < 0 ∧ (Int32.ofNat k <<< ((1 : Int32) &&& 31)) < (32 : Int32)) ∧ (Int32.ofNat k <<< ((1 : Int32) &&& 31)).toNatClampNeg = 2 * k ∧ (¬ ((Int32.ofNat k <<< ((1 : Int32) &&& 31)) + (1 : Int32)) < 0 ∧ ((Int32.ofNat k <<< ((1 : Int32) &&& 31)) + (1 : Int32)) < (32 : Int32)) ∧ ((Int32.ofNat k <<< ((1 : Int32) &&& 31)) + (1 : Int32)).toNatClampNeg = 2 * k + 1 := by decide +kernel
theorem o_or1 : ∀ k, k < 16 → ¬ (((((32 : Int32) >>> ((1 : Int32) &&& 31)) ||| Int32.ofNat k) ||| (1 : Int32)) < (0 : Int32)) ∧ ¬ ((((32 : Int32) >>> ((1 : Int32) &&& 31)) - Int32.ofNat k) < (1 : Int32)) := by decide +kernel
theorem o_hut {vs : List Value} {dv : Value} {n : Nat} (h : n ≤ vs.length) (h2 : n ≤ 4096) : vs.take n = (List.range (Int32.ofNat n).toNatClampNeg).map fun i => vs.getD ((0 : Int32).toNatClampNeg + i) dv := by
  rw [o_oc h2, show (0 : Int32).toNatClampNeg = 0 from rfl]
  refine List.ext_getElem? fun i => ?_
  rw [List.getElem?_take, List.getElem?_map]
  by_cases hi : i < n
  · rw [if_pos hi, List.getElem?_range hi]
    simp [List.getD_eq_getElem?_getD, List.getElem?_eq_getElem (show i < vs.length by omega)]
  · rw [if_neg hi, List.getElem?_eq_none (by rw [List.length_range]; omega)]
    rfl
theorem o_hus {vs : List Value} {dv : Value} {n : Nat} (h : vs.length = n) (h2 : n ≤ 4096) : vs = (List.range (Int32.ofNat n).toNatClampNeg).map fun i => vs.getD ((0 : Int32).toNatClampNeg + i) dv := by
  subst h
  have q := o_hut (vs := vs) (dv := dv) (Nat.le_refl _) h2
  rwa [List.take_length] at q
theorem o_lenC {us vs : List Value} {cc ln N : Nat} (h1 : us.length = N) (h2 : vs.length = ln) (h3 : cc + ln ≤ N) : (us.take cc ++ vs ++ us.drop (cc + ln)).length = N := by
  rw [List.length_append, List.length_append, List.length_take, List.length_drop]; omega
def o_DG (Z : State) (aO aT : Addr) : Prop := Sta Z Z.heap "java/lang/Integer" "DigitOnes" "[B" (.ref aO) ∧ Sta Z Z.heap "java/lang/Integer" "DigitTens" "[B" (.ref aT) ∧ ∀ r, r < 100 → o_At Z Z.heap aO (Int32.ofNat r) (Int32.ofNat (48 + r % 10)) ∧ o_At Z Z.heap aT (Int32.ofNat r) (Int32.ofNat (48 + r / 10))
theorem o_At.ext {Z : State} {h h' : Heap} {y : Addr} {j z : Int32} (A : o_At Z h y j z) (E : Ext h h') : o_At Z h' y j z := by
  obtain ⟨cl, Ar, r⟩ := A; exact ⟨cl, Ar.ext E, r⟩
theorem o_t100 {ii : Int32} {m : Nat} (hi : ii.toInt = -(m : Int)) (h : 100 ≤ m) : ¬ ((-100 : Int32) < ii) := by
  intro w
  have w' := Int32.lt_iff_toInt_lt.mp w
  rw [show (-100 : Int32).toInt = -100 by decide] at w'; omega
theorem o_t99 {ii : Int32} {m : Nat} (hi : ii.toInt = -(m : Int)) (h : m < 100) : (-100 : Int32) < ii := by
  refine Int32.lt_iff_toInt_lt.mpr ?_
  rw [show (-100 : Int32).toInt = -100 by decide]; omega
theorem o_d100 {ii : Int32} {m : Nat} (hi : ii.toInt = -(m : Int)) (hm : m ≤ 2147483648) : (ii / (100 : Int32)).toInt = -((m / 100 : Nat) : Int) := by
  have q := c_idiv ii (100 : Int32) 100 (by decide) (by decide)
  omega
theorem o_r100 {ii : Int32} {m : Nat} (hi : ii.toInt = -(m : Int)) (hm : m ≤ 2147483648) : ((ii / (100 : Int32)) * (100 : Int32)) - ii = Int32.ofNat (m % 100) := by
  have q := o_d100 hi hm
  have q2 := c_imul (ii / (100 : Int32)) (100 : Int32)
  rw [show (100 : Int32).toInt = 100 by decide] at q2
  have q3 := c_isub ((ii / (100 : Int32)) * (100 : Int32)) ii
  have r1 := rng32 ((ii / (100 : Int32)) * (100 : Int32))
  have r2 := rng32 ((ii / (100 : Int32)) * (100 : Int32) - ii)
  have e := o_oi (n := m % 100) (by omega)
  refine Int32.toInt_inj.mp ?_
  omega
theorem o_omk {a i : Nat} (h : i + 1 ≤ a) (h2 : a ≤ 4096) : Int32.ofNat (a - i) + (-1 : Int32) = Int32.ofNat (a - (i + 1)) := by
  have q := o_om1 (a := a - i) (by omega) (by omega)
  rw [q, show a - i - 1 = a - (i + 1) by omega]
theorem o_ng {ii : Int32} {m : Nat} (hi : ii.toInt = -(m : Int)) (h : m < 100) : -ii = Int32.ofNat m := by
  have q := c_ineg ii
  have r := rng32 (-ii)
  have e := o_oi (n := m) (by omega)
  refine Int32.toInt_inj.mp ?_
  omega
theorem o_9t {ii : Int32} {m : Nat} (hi : ii.toInt = -(m : Int)) (h : ii < (-9 : Int32)) : 9 < m := by
  have w' := Int32.lt_iff_toInt_lt.mp h
  rw [show (-9 : Int32).toInt = -9 by decide] at w'; omega
theorem o_9f {ii : Int32} {m : Nat} (hi : ii.toInt = -(m : Int)) (h : ¬ (ii < (-9 : Int32))) : ¬ 9 < m := by
  rw [Int32.lt_iff_toInt_lt, show (-9 : Int32).toInt = -9 by decide] at h; omega
theorem o_sz {sv pp : Int32} (hs : sv = Int32.ofNat (o_sg pp)) (h : sv = (0 : Int32)) : o_sg pp = 0 := by
  have := o_sg_le pp
  rcases Nat.eq_zero_or_pos (o_sg pp) with q | q
  · exact q
  · have e : o_sg pp = 1 := by omega
    rw [e] at hs; rw [hs] at h; exact absurd h (by decide)
theorem o_sn {sv pp : Int32} (hs : sv = Int32.ofNat (o_sg pp)) (h : ¬ (sv = (0 : Int32))) : o_sg pp = 1 := by
  have := o_sg_le pp
  rcases Nat.eq_zero_or_pos (o_sg pp) with q | q
  · rw [q] at hs; exact absurd hs h
  · omega
theorem o_ple {pp : Int32} {ee : Nat} (h : o_pl pp ≤ ee) : o_nd (o_M pp) ≤ ee := by unfold o_pl at h; omega
theorem o_LWn {b : Bool} {us us' : List Value} {ee c' m' : Nat} {pp : Int32} (W : o_LW b us us' ee (o_M pp) c' m') (h : o_pl pp ≤ ee) : o_nd m' + o_sg pp ≤ c' ∧ c' ≤ ee ∧ m' < 100 := by
  obtain ⟨t, w1, w2, w3, -⟩ := W
  unfold o_pl at h
  exact ⟨by omega, by omega, w1⟩
theorem o_LWl {b : Bool} {us us' : List Value} {ee m c' m' : Nat} (W : o_LW b us us' ee m c' m') : us'.length = us.length := by obtain ⟨t, -, -, -, w, -⟩ := W; exact w
theorem o_h16 {ee : Nat} (h : ee ≤ 16) : ¬ (((32 : Int32) >>> ((1 : Int32) &&& 31)) < Int32.ofNat ee) := by
  intro w
  have w' := Int32.lt_iff_toInt_lt.mp w
  rw [show ((32 : Int32) >>> ((1 : Int32) &&& 31)).toInt = 16 by decide, o_oi (by omega)] at w'; omega
theorem o_cpl {us : List Value} {z : Value} {k : Nat} : (List.replicate k z).take 0 ++ us.take k ++ (List.replicate k z).drop (0 + k) = us.take k := by
  rw [List.take_zero, List.nil_append, Nat.zero_add, List.drop_eq_nil_of_le (by rw [List.length_replicate]; exact Nat.le_refl _), List.append_nil]
theorem o_byn (z : Int32) : nar .byte z = o_by z := by simp [o_by, nar]
def o_gl (l : List Int32) (j : Nat) : Int32 := l.getD j 0
def o_g (g : Nat → Int32) (n : Nat) (pp : Int32) (j : Nat) : Int32 := if j < n then g j else if j = n then (58 : Int32) else o_pc pp (j - n - 1)
theorem o_g0 {g : Nat → Int32} {n j : Nat} {pp : Int32} (h : j < n) : o_g g n pp j = g j := if_pos h
theorem o_gn {g : Nat → Int32} {n : Nat} {pp : Int32} : o_g g n pp n = (58 : Int32) := by unfold o_g; rw [if_neg (by omega), if_pos rfl]
theorem o_gp {g : Nat → Int32} {n k : Nat} {pp : Int32} : o_g g n pp (n + 1 + k) = o_pc pp k := by unfold o_g; rw [if_neg (by omega), if_neg (by omega), show n + 1 + k - n - 1 = k by omega]
theorem o_djr (m j : Nat) : 48 ≤ (o_dj m j).toInt ∧ (o_dj m j).toInt ≤ 57 := by
  unfold o_dj
  rw [o_oi (by omega)]; omega
theorem o_pcr (pp : Int32) (k : Nat) : 45 ≤ (o_pc pp k).toInt ∧ (o_pc pp k).toInt ≤ 57 := by
  unfold o_pc
  split
  · decide
  · have := o_djr (o_M pp) (o_nd (o_M pp) - 1 - (k - o_sg pp)); omega
theorem o_gr (g : Nat → Int32) (n : Nat) (pp : Int32) (j : Nat) (h : n ≤ j) : 45 ≤ (o_g g n pp j).toInt ∧ (o_g g n pp j).toInt ≤ 58 := by
  unfold o_g
  rw [if_neg (by omega)]
  split
  · decide
  · have := o_pcr pp (j - n - 1); omega
theorem o_gR {g : Nat → Int32} {n : Nat} {pp : Int32} (h : ∀ j, j < n → 0 ≤ (g j).toInt ∧ (g j).toInt < 65536) : ∀ j, j < n + 1 + o_pl pp → 0 ≤ (o_g g n pp j).toInt ∧ (o_g g n pp j).toInt < 65536 := fun j _ => by
  by_cases hj : j < n
  · rw [o_g0 hj]; exact h j hj
  · have := o_gr g n pp j (by omega); omega
theorem o_g255 {g : Nat → Int32} {n : Nat} {pp : Int32} (h : ∀ j, j < n → ¬ ((255 : Int32) < g j)) (j : Nat) : ¬ ((255 : Int32) < o_g g n pp j) := by
  by_cases hj : j < n
  · rw [o_g0 hj]; exact h j hj
  · have := o_gr g n pp j (by omega)
    intro w
    have w' := Int32.lt_iff_toInt_lt.mp w
    rw [show (255 : Int32).toInt = 255 by decide] at w'; omega
def o_HS (Z : State) (h : Heap) (a : Addr) (cd : Int32) (y : Addr) (ky : ClassId) (n : Nat) (g : Nat → Int32) : Prop :=
  Exa Z h a "java/lang/String" ∧ Fld Z h a "java/lang/String" "coder" "B" (.int cd) ∧ Fld Z h a "java/lang/String" "value" "[B" (.ref y) ∧
  ((cd = (0 : Int32) ∧ ∃ vs : List Value, Arv Z h y ky .byte (Int32.ofNat n) vs (.int 0) ∧ vs.length = n ∧ ∀ j, j < n → o_rd false vs j (g j) ∧ ¬ ((255 : Int32) < g j)) ∨ (cd = (1 : Int32) ∧ ∃ vs : List Value, Arv Z h y ky .byte (Int32.ofNat (2 * n)) vs (.int 0) ∧ vs.length = 2 * n ∧ ∀ j, j < n → o_rd true vs j (g j))) ∧
  ∀ j, j < n → 0 ≤ (g j).toInt ∧ (g j).toInt < 65536
section
variable {Z : State} {h h' : Heap} {a y : Addr} {cd : Int32} {ky : ClassId} {n : Nat} {g : Nat → Int32}
theorem o_HS.ext (H : o_HS Z h a cd y ky n g) (E : Ext h h') : o_HS Z h' a cd y ky n g := by
  obtain ⟨e1, e2, e3, e4, e5⟩ := H
  refine ⟨e1.ext E, e2.ext E, e3.ext E, ?_, e5⟩
  rcases e4 with ⟨q, vs, V, r⟩ | ⟨q, vs, V, r⟩
  · exact Or.inl ⟨q, vs, V.ext E, r⟩
  · exact Or.inr ⟨q, vs, V.ext E, r⟩
theorem o_HS.keepW {ws : List Addr} (H : o_HS Z h a cd y ky n g) (K : Keep h h' ws) (q1 : a ∉ ws) (q2 : y ∉ ws) : o_HS Z h' a cd y ky n g := by
  obtain ⟨e1, e2, e3, e4, e5⟩ := H
  refine ⟨e1.keep K, e2.keep K q1, e3.keep K q1, ?_, e5⟩
  rcases e4 with ⟨q, vs, V, r⟩ | ⟨q, vs, V, r⟩
  · exact Or.inl ⟨q, vs, V.keep K q2, r⟩
  · exact Or.inr ⟨q, vs, V.keep K q2, r⟩
theorem o_HS.keep (H : o_HS Z h a cd y ky n g) (K : Keep h h' []) : o_HS Z h' a cd y ky n g := H.keepW K (fun q => nomatch q) (fun q => nomatch q)
theorem o_HS.ylt (H : o_HS Z h a cd y ky n g) : y < h.size := by
  obtain ⟨-, -, -, e4, -⟩ := H
  rcases e4 with ⟨-, vs, V, -⟩ | ⟨-, vs, V, -⟩
  · exact V.lt
  · exact V.lt
theorem o_HSL (H : o_HS Z h a cd y ky n g) (hn : n ≤ 2000) : o_LD Z h y cd (Int32.ofNat n) := by
  obtain ⟨-, -, -, e4, -⟩ := H
  rcases e4 with ⟨q, vs, V, -⟩ | ⟨q, vs, V, -⟩
  · exact Or.inl ⟨q, o_Ln.of V⟩
  · exact Or.inr ⟨q, _, o_Ln.of V, o_ohr hn⟩
theorem o_gd {vs : List Value} {j : Nat} {z : Value} (h : vs[j]? = some z) (hj : j ≤ 4096) (d : Value) : vs.getD (Int32.ofNat j).toNatClampNeg d = z := by
  rw [o_oc hj, List.getD_eq_getElem?_getD, h]; rfl
theorem o_HSR {j : Nat} {vz : Int32} (H : o_HS Z h a cd y ky n g) (hj : j < n) (hn : n ≤ 2000) (hv : g j = vz) : o_RD Z h y cd (Int32.ofNat j) vz := by
  obtain ⟨-, -, -, e4, e5⟩ := H
  subst hv
  rcases e4 with ⟨q, vs, V, -, r⟩ | ⟨q, vs, V, -, r⟩
  · exact Or.inl ⟨q, _, o_by (g j), o_Ln.of V, o_At.of V ⟨o_onn (by omega), o_olt hj (by omega)⟩ (o_gd (r j hj).1 (by omega) _), o_olt hj (by omega), o_lc (g j) (e5 j hj) (r j hj).2⟩
  · have j0 : o_J0 (Int32.ofNat j) = Int32.ofNat (2 * j) := o_oh1 (by omega)
    have j1 : o_J1 (Int32.ofNat j) = Int32.ofNat (2 * j + 1) := by
      show (Int32.ofNat j <<< ((1 : Int32) &&& 31)) + (1 : Int32) = _
      rw [o_oh1 (by omega)]; exact o_oadd (2 * j) 1
    refine Or.inr ⟨q, _, o_B0 (g j), o_B1 (g j), o_Ln.of V, ?_, ?_, ?_, o_gc (g j) (e5 j hj)⟩
    · rw [j0]; exact o_At.of V ⟨o_onn (by omega), o_olt (by omega) (by omega)⟩ (o_gd (r j hj).1 (by omega) _)
    · rw [j1]; exact o_At.of V ⟨o_onn (by omega), o_olt (by omega) (by omega)⟩ (o_gd (r j hj).2 (by omega) _)
    · rw [o_ohr hn]; exact o_olt hj (by omega)
end
theorem o_RD.keep {Z : State} {h h' : Heap} {y : Addr} {cd ip vz : Int32} (R : o_RD Z h y cd ip vz) (K : Keep h h' []) : o_RD Z h' y cd ip vz := by
  have fA : ∀ {j z : Int32}, o_At Z h y j z → o_At Z h' y j z := fun A => by
    obtain ⟨cl, Ar, r⟩ := A; exact ⟨cl, ⟨K.2.1 y cl Ar.1 (fun q => nomatch q), Ar.2⟩, r⟩
  have fL : ∀ {n : Int32}, o_Ln Z h y n → o_Ln Z h' y n := fun A => by
    obtain ⟨cl, Ar, r⟩ := A; exact ⟨cl, ⟨K.2.1 y cl Ar.1 (fun q => nomatch q), Ar.2⟩, r⟩
  rcases R with ⟨q, zn, pu, a1, a2, r⟩ | ⟨q, zn, pu, pw, a1, a2, a3, r⟩
  · exact Or.inl ⟨q, zn, pu, fL a1, fA a2, r⟩
  · exact Or.inr ⟨q, zn, pu, pw, fL a1, fA a2, fA a3, r⟩
theorem o_HS0 {Z : State} {h : Heap} {a y : Addr} {cd : Int32} {ky : ClassId} (E : Exa Z h a "java/lang/String") (Fc : Fld Z h a "java/lang/String" "coder" "B" (.int cd)) (Fv : Fld Z h a "java/lang/String" "value" "[B" (.ref y)) (S : o_SD Z h y ky cd (0 : Int32) (0 : Int32) [] [] (True)) : o_HS Z h a cd y ky 0 (o_gl []) := by
  refine ⟨E, Fc, Fv, ?_, fun j hj => by
    match j, hj with
    | (j + 0), hj => exact absurd hj (by omega)⟩
  rcases S with ⟨hc, hp, V⟩ | ⟨hc, V⟩
  · refine Or.inl ⟨hc, _, V, rfl, fun j hj => by
    match j, hj with
    | (j + 0), hj => exact absurd hj (by omega)⟩
  · refine Or.inr ⟨hc, _, V, rfl, fun j hj => by
    match j, hj with
    | (j + 0), hj => exact absurd hj (by omega)⟩
theorem o_HS1 {Z : State} {h : Heap} {a y : Addr} {cd : Int32} {ky : ClassId} {v0 : Int32} (E : Exa Z h a "java/lang/String") (Fc : Fld Z h a "java/lang/String" "coder" "B" (.int cd)) (Fv : Fld Z h a "java/lang/String" "value" "[B" (.ref y)) (S : o_SD Z h y ky cd (1 : Int32) (2 : Int32) [(.int (o_by v0))] [(.int (o_B0 v0)), (.int (o_B1 v0))] (¬ ((255 : Int32) < v0))) (hl0 : 0 ≤ v0.toInt ∧ v0.toInt < 65536) : o_HS Z h a cd y ky 1 (o_gl [v0]) := by
  refine ⟨E, Fc, Fv, ?_, fun j hj => by
    match j, hj with
    | 0, _ => exact hl0
    | (j + 1), hj => exact absurd hj (by omega)⟩
  rcases S with ⟨hc, hp, V⟩ | ⟨hc, V⟩
  · refine Or.inl ⟨hc, _, V, rfl, fun j hj => by
    match j, hj with
    | 0, _ => exact ⟨rfl, hp⟩
    | (j + 1), hj => exact absurd hj (by omega)⟩
  · refine Or.inr ⟨hc, _, V, rfl, fun j hj => by
    match j, hj with
    | 0, _ => exact ⟨rfl, rfl⟩
    | (j + 1), hj => exact absurd hj (by omega)⟩
theorem o_HS2 {Z : State} {h : Heap} {a y : Addr} {cd : Int32} {ky : ClassId} {v0 v1 : Int32} (E : Exa Z h a "java/lang/String") (Fc : Fld Z h a "java/lang/String" "coder" "B" (.int cd)) (Fv : Fld Z h a "java/lang/String" "value" "[B" (.ref y)) (S : o_SD Z h y ky cd (2 : Int32) (4 : Int32) [(.int (o_by v0)), (.int (o_by v1))] [(.int (o_B0 v0)), (.int (o_B1 v0)), (.int (o_B0 v1)), (.int (o_B1 v1))] (¬ ((255 : Int32) < v0) ∧ ¬ ((255 : Int32) < v1))) (hl0 : 0 ≤ v0.toInt ∧ v0.toInt < 65536) (hl1 : 0 ≤ v1.toInt ∧ v1.toInt < 65536) : o_HS Z h a cd y ky 2 (o_gl [v0, v1]) := by
  refine ⟨E, Fc, Fv, ?_, fun j hj => by
    match j, hj with
    | 0, _ => exact hl0
    | 1, _ => exact hl1
    | (j + 2), hj => exact absurd hj (by omega)⟩
  rcases S with ⟨hc, hp, V⟩ | ⟨hc, V⟩
  · refine Or.inl ⟨hc, _, V, rfl, fun j hj => by
    match j, hj with
    | 0, _ => exact ⟨rfl, hp.1⟩
    | 1, _ => exact ⟨rfl, hp.2⟩
    | (j + 2), hj => exact absurd hj (by omega)⟩
  · refine Or.inr ⟨hc, _, V, rfl, fun j hj => by
    match j, hj with
    | 0, _ => exact ⟨rfl, rfl⟩
    | 1, _ => exact ⟨rfl, rfl⟩
    | (j + 2), hj => exact absurd hj (by omega)⟩
theorem o_HS3 {Z : State} {h : Heap} {a y : Addr} {cd : Int32} {ky : ClassId} {v0 v1 v2 : Int32} (E : Exa Z h a "java/lang/String") (Fc : Fld Z h a "java/lang/String" "coder" "B" (.int cd)) (Fv : Fld Z h a "java/lang/String" "value" "[B" (.ref y)) (S : o_SD Z h y ky cd (3 : Int32) (6 : Int32) [(.int (o_by v0)), (.int (o_by v1)), (.int (o_by v2))] [(.int (o_B0 v0)), (.int (o_B1 v0)), (.int (o_B0 v1)), (.int (o_B1 v1)), (.int (o_B0 v2)), (.int (o_B1 v2))] (¬ ((255 : Int32) < v0) ∧ ¬ ((255 : Int32) < v1) ∧ ¬ ((255 : Int32) < v2))) (hl0 : 0 ≤ v0.toInt ∧ v0.toInt < 65536) (hl1 : 0 ≤ v1.toInt ∧ v1.toInt < 65536) (hl2 : 0 ≤ v2.toInt ∧ v2.toInt < 65536) : o_HS Z h a cd y ky 3 (o_gl [v0, v1, v2]) := by
  refine ⟨E, Fc, Fv, ?_, fun j hj => by
    match j, hj with
    | 0, _ => exact hl0
    | 1, _ => exact hl1
    | 2, _ => exact hl2
    | (j + 3), hj => exact absurd hj (by omega)⟩
  rcases S with ⟨hc, hp, V⟩ | ⟨hc, V⟩
  · refine Or.inl ⟨hc, _, V, rfl, fun j hj => by
    match j, hj with
    | 0, _ => exact ⟨rfl, hp.1⟩
    | 1, _ => exact ⟨rfl, hp.2.1⟩
    | 2, _ => exact ⟨rfl, hp.2.2⟩
    | (j + 3), hj => exact absurd hj (by omega)⟩
  · refine Or.inr ⟨hc, _, V, rfl, fun j hj => by
    match j, hj with
    | 0, _ => exact ⟨rfl, rfl⟩
    | 1, _ => exact ⟨rfl, rfl⟩
    | 2, _ => exact ⟨rfl, rfl⟩
    | (j + 3), hj => exact absurd hj (by omega)⟩
theorem o_tk {us : List Value} {k K : Nat} (h : k < K) : (us.take K)[k]? = us[k]? := List.getElem?_take_of_lt h
theorem o_rdT {b : Bool} {us : List Value} {K j : Nat} {z : Int32} (R : o_rd b us j z) (h : j < K) : o_rd b (us.take (match b with | false => K | true => 2 * K)) j z := by
  cases b
  · show (us.take K)[j]? = _
    rw [o_tk h]; exact R
  · refine ⟨?_, ?_⟩
    · show (us.take (2 * K))[2 * j]? = _
      rw [o_tk (by omega)]; exact R.1
    · show (us.take (2 * K))[2 * j + 1]? = _
      rw [o_tk (by omega)]; exact R.2
theorem o_cA {us vs : List Value} {cc ln N j : Nat} (hu : us.length = N) (hc : cc + ln ≤ N) (hv : vs.length = ln) (hj : j < cc) : (us.take cc ++ vs ++ us.drop (cc + ln))[j]? = us[j]? := by
  rw [List.append_assoc, List.getElem?_append_left (by rw [List.length_take]; omega), o_tk hj]
theorem o_cB {us vs : List Value} {cc ln N j : Nat} (hu : us.length = N) (hc : cc + ln ≤ N) (hv : vs.length = ln) (hj : j < ln) : (us.take cc ++ vs ++ us.drop (cc + ln))[cc + j]? = vs[j]? := by
  have hl : (us.take cc).length = cc := by rw [List.length_take]; omega
  rw [List.append_assoc, List.getElem?_append_right (by omega), hl, show cc + j - cc = j by omega, List.getElem?_append_left (by omega)]
theorem o_58 : o_by (58 : Int32) = (58 : Int32) := by decide
theorem o_resL {Z : State} {h : Heap} {y : Addr} {ky : ClassId} {z16 vs uw : List Value} {ln : Nat} {gg : Nat → Int32} {pp : Int32} (hz : z16.length = 16) (hlv : vs.length = ln) (hrd : ∀ j, j < ln → o_rd false vs j (gg j) ∧ ¬ ((255 : Int32) < gg j)) (hln : ln ≤ 3) (hDW : o_DW false ((z16.take 0 ++ vs ++ z16.drop (0 + ln)).take (0 + ln) ++ [(.int 58)] ++ (z16.take 0 ++ vs ++ z16.drop (0 + ln)).drop (0 + ln + 1)) uw (0 + ln + 1 + o_pl pp) pp) (V : Arv Z h y ky .byte (Int32.ofNat (0 + ln + 1 + o_pl pp)) (uw.take (0 + ln + 1 + o_pl pp)) (.int 0)) :
    ∃ vs' : List Value, Arv Z h y ky .byte (Int32.ofNat (ln + 1 + o_pl pp)) vs' (.int 0) ∧ vs'.length = ln + 1 + o_pl pp ∧ ∀ j, j < ln + 1 + o_pl pp → o_rd false vs' j (o_g gg ln pp j) ∧ ¬ ((255 : Int32) < o_g gg ln pp j) := by
  have hp := o_pl_le pp
  rw [Nat.zero_add] at hDW V
  have l1 : (z16.take 0 ++ vs ++ z16.drop (0 + ln)).length = 16 := o_lenC hz hlv (by omega)
  rw [Nat.zero_add] at l1
  obtain ⟨d1, d2, d3⟩ := hDW
  refine ⟨_, V, ?_, fun j hj => ⟨?_, o_g255 (fun j hj => (hrd j hj).2) j⟩⟩
  · rw [List.length_take, d1, o_lenC (cc := ln) (ln := 1) l1 rfl (by omega)]; omega
  · refine o_rdT (b := false) (K := ln + 1 + o_pl pp) ?_ hj
    by_cases h1 : j < ln
    · rw [o_g0 h1]
      refine d2 j _ (by omega) ?_
      show (_ : List Value)[j]? = _
      rw [o_cA (cc := ln) (ln := 1) l1 (by omega) rfl h1]
      have q := o_cB (us := z16) (cc := 0) hz (by omega) hlv h1
      rw [Nat.zero_add, Nat.zero_add] at q
      rw [q]; exact (hrd j h1).1
    · by_cases h2 : j = ln
      · subst h2
        rw [o_gn]
        refine d2 j _ (by omega) ?_
        show (_ : List Value)[j]? = _
        have q := o_cB (us := z16.take 0 ++ vs ++ z16.drop j) (vs := [(.int 58)]) (cc := j) (ln := 1) (j := 0) l1 (by omega) rfl (by omega)
        simp only [Nat.add_zero] at q
        rw [q, o_58]; rfl
      · obtain ⟨k, rfl⟩ : ∃ k, j = ln + 1 + k := ⟨j - ln - 1, by omega⟩
        rw [o_gp]
        have q := d3 k (by omega)
        rw [show ln + 1 + o_pl pp - o_pl pp + k = ln + 1 + k by omega] at q
        exact q
theorem o_resU {Z : State} {h : Heap} {y : Addr} {ky : ClassId} {z32 vs uw : List Value} {ln : Nat} {gg : Nat → Int32} {pp : Int32} (hz : z32.length = 32) (hlv : vs.length = 2 * ln) (hrd : ∀ j, j < ln → o_rd true vs j (gg j)) (hln : ln ≤ 3) (hDW : o_DW true (o_P true (z32.take 0 ++ vs ++ z32.drop (0 + 2 * ln)) ln (58 : Int32)) uw (ln + 1 + o_pl pp) pp) (V : Arv Z h y ky .byte (Int32.ofNat (2 * (ln + 1 + o_pl pp))) (uw.take (2 * (ln + 1 + o_pl pp))) (.int 0)) :
    ∃ vs' : List Value, Arv Z h y ky .byte (Int32.ofNat (2 * (ln + 1 + o_pl pp))) vs' (.int 0) ∧ vs'.length = 2 * (ln + 1 + o_pl pp) ∧ ∀ j, j < ln + 1 + o_pl pp → o_rd true vs' j (o_g gg ln pp j) := by
  have hp := o_pl_le pp
  have l1 : (z32.take 0 ++ vs ++ z32.drop (0 + 2 * ln)).length = 32 := o_lenC hz hlv (by omega)
  obtain ⟨d1, d2, d3⟩ := hDW
  refine ⟨_, V, ?_, fun j hj => ?_⟩
  · rw [List.length_take, d1, o_P_len, l1]; omega
  · refine o_rdT (b := true) (K := ln + 1 + o_pl pp) ?_ hj
    by_cases h1 : j < ln
    · rw [o_g0 h1]
      refine d2 j _ (by omega) (o_rd_ne ?_ (by omega))
      have q1 := o_cB (us := z32) (cc := 0) (j := 2 * j) hz (by omega) hlv (by omega)
      have q2 := o_cB (us := z32) (cc := 0) (j := 2 * j + 1) hz (by omega) hlv (by omega)
      rw [show 0 + 2 * j = 2 * j by omega] at q1
      rw [show 0 + (2 * j + 1) = 2 * j + 1 by omega] at q2
      exact ⟨q1.trans (hrd j h1).1, q2.trans (hrd j h1).2⟩
    · by_cases h2 : j = ln
      · subst h2
        rw [o_gn]
        exact d2 j _ (by omega) (o_rd_same (b := true) l1 (by omega))
      · obtain ⟨k, rfl⟩ : ∃ k, j = ln + 1 + k := ⟨j - ln - 1, by omega⟩
        rw [o_gp]
        have q := d3 k (by omega)
        rw [show ln + 1 + o_pl pp - o_pl pp + k = ln + 1 + k by omega] at q
        exact q
theorem o_i2r (z : Int32) : 0 ≤ (z.toUInt32.toUInt16.toUInt32.toInt32).toInt ∧ (z.toUInt32.toUInt16.toUInt32.toInt32).toInt < 65536 := (c_i2c z).2
theorem o_l0 : (0 : Int64).toInt = 0 := by decide
theorem o_lt {x y : Int64} : lcmpW x y < (0 : Int32) ↔ x.toInt < y.toInt := by
  have h := c_lcmp x y
  rw [Int32.lt_iff_toInt_lt, show (0 : Int32).toInt = 0 by decide]
  constructor <;> intro g <;> omega
theorem o_ab1 {pp : Int32} (h : lcmpW (pp.toInt64) (0 : Int64) < (0 : Int32)) : (-(pp.toInt64)).toInt = (o_M pp : Int) := by
  rw [o_lt, o_l0] at h
  have q := c_i2l pp
  have q2 := c_lneg (pp.toInt64)
  have r := rng64 (-(pp.toInt64))
  have r2 := rng32 pp
  unfold o_M; omega
theorem o_ab0 {pp : Int32} (h : ¬ (lcmpW (pp.toInt64) (0 : Int64) < (0 : Int32))) : (pp.toInt64).toInt = (o_M pp : Int) := by
  rw [o_lt, o_l0] at h
  have q := c_i2l pp
  unfold o_M; omega
theorem o_ndk1 {mL : Int64} {mm : Nat} (hm : mL.toInt = (mm : Int)) (h1 : lcmpW mL (10 : Int64) < (0 : Int32)) : o_nd mm = 1 := by
  rw [o_lt, show (10 : Int64).toInt = 10 by decide] at h1
  unfold o_nd
  rw [if_pos (by omega)]
theorem o_ndk2 {mL : Int64} {mm : Nat} (hm : mL.toInt = (mm : Int)) (h2 : ¬ (lcmpW mL (10 : Int64) < (0 : Int32))) (h1 : lcmpW mL (100 : Int64) < (0 : Int32)) : o_nd mm = 2 := by
  rw [o_lt, show (10 : Int64).toInt = 10 by decide] at h2
  rw [o_lt, show (100 : Int64).toInt = 100 by decide] at h1
  unfold o_nd
  rw [if_neg (by omega), if_pos (by omega)]
theorem o_ndk3 {mL : Int64} {mm : Nat} (hm : mL.toInt = (mm : Int)) (h2 : ¬ (lcmpW mL (100 : Int64) < (0 : Int32))) (h1 : lcmpW mL (1000 : Int64) < (0 : Int32)) : o_nd mm = 3 := by
  rw [o_lt, show (100 : Int64).toInt = 100 by decide] at h2
  rw [o_lt, show (1000 : Int64).toInt = 1000 by decide] at h1
  unfold o_nd
  rw [if_neg (by omega), if_neg (by omega), if_pos (by omega)]
theorem o_ndk4 {mL : Int64} {mm : Nat} (hm : mL.toInt = (mm : Int)) (h2 : ¬ (lcmpW mL (1000 : Int64) < (0 : Int32))) (h1 : lcmpW mL (10000 : Int64) < (0 : Int32)) : o_nd mm = 4 := by
  rw [o_lt, show (1000 : Int64).toInt = 1000 by decide] at h2
  rw [o_lt, show (10000 : Int64).toInt = 10000 by decide] at h1
  unfold o_nd
  rw [if_neg (by omega), if_neg (by omega), if_neg (by omega), if_pos (by omega)]
theorem o_ndk5 {mL : Int64} {mm : Nat} (hm : mL.toInt = (mm : Int)) (h2 : ¬ (lcmpW mL (10000 : Int64) < (0 : Int32))) (h1 : lcmpW mL (100000 : Int64) < (0 : Int32)) : o_nd mm = 5 := by
  rw [o_lt, show (10000 : Int64).toInt = 10000 by decide] at h2
  rw [o_lt, show (100000 : Int64).toInt = 100000 by decide] at h1
  unfold o_nd
  rw [if_neg (by omega), if_neg (by omega), if_neg (by omega), if_neg (by omega), if_pos (by omega)]
theorem o_ndk6 {mL : Int64} {mm : Nat} (hm : mL.toInt = (mm : Int)) (h2 : ¬ (lcmpW mL (100000 : Int64) < (0 : Int32))) (h1 : lcmpW mL (1000000 : Int64) < (0 : Int32)) : o_nd mm = 6 := by
  rw [o_lt, show (100000 : Int64).toInt = 100000 by decide] at h2
  rw [o_lt, show (1000000 : Int64).toInt = 1000000 by decide] at h1
  unfold o_nd
  rw [if_neg (by omega), if_neg (by omega), if_neg (by omega), if_neg (by omega), if_neg (by omega), if_pos (by omega)]
theorem o_ndk7 {mL : Int64} {mm : Nat} (hm : mL.toInt = (mm : Int)) (h2 : ¬ (lcmpW mL (1000000 : Int64) < (0 : Int32))) (h1 : lcmpW mL (10000000 : Int64) < (0 : Int32)) : o_nd mm = 7 := by
  rw [o_lt, show (1000000 : Int64).toInt = 1000000 by decide] at h2
  rw [o_lt, show (10000000 : Int64).toInt = 10000000 by decide] at h1
  unfold o_nd
  rw [if_neg (by omega), if_neg (by omega), if_neg (by omega), if_neg (by omega), if_neg (by omega), if_neg (by omega), if_pos (by omega)]
theorem o_ndk8 {mL : Int64} {mm : Nat} (hm : mL.toInt = (mm : Int)) (h2 : ¬ (lcmpW mL (10000000 : Int64) < (0 : Int32))) (h1 : lcmpW mL (100000000 : Int64) < (0 : Int32)) : o_nd mm = 8 := by
  rw [o_lt, show (10000000 : Int64).toInt = 10000000 by decide] at h2
  rw [o_lt, show (100000000 : Int64).toInt = 100000000 by decide] at h1
  unfold o_nd
  rw [if_neg (by omega), if_neg (by omega), if_neg (by omega), if_neg (by omega), if_neg (by omega), if_neg (by omega), if_neg (by omega), if_pos (by omega)]
theorem o_ndk9 {mL : Int64} {mm : Nat} (hm : mL.toInt = (mm : Int)) (h2 : ¬ (lcmpW mL (100000000 : Int64) < (0 : Int32))) (h1 : lcmpW mL (1000000000 : Int64) < (0 : Int32)) : o_nd mm = 9 := by
  rw [o_lt, show (100000000 : Int64).toInt = 100000000 by decide] at h2
  rw [o_lt, show (1000000000 : Int64).toInt = 1000000000 by decide] at h1
  unfold o_nd
  rw [if_neg (by omega), if_neg (by omega), if_neg (by omega), if_neg (by omega), if_neg (by omega), if_neg (by omega), if_neg (by omega), if_neg (by omega), if_pos (by omega)]
theorem o_ndk10 {mL : Int64} {mm : Nat} (hm : mL.toInt = (mm : Int)) (h2 : ¬ (lcmpW mL (1000000000 : Int64) < (0 : Int32))) : o_nd mm = 10 := by
  rw [o_lt, show (1000000000 : Int64).toInt = 1000000000 by decide] at h2
  unfold o_nd
  rw [if_neg (by omega), if_neg (by omega), if_neg (by omega), if_neg (by omega), if_neg (by omega), if_neg (by omega), if_neg (by omega), if_neg (by omega), if_neg (by omega)]
theorem o_p10v {c : Cell} {x : Nat} (H : Has c [(.long (1 : Int64)), (.long (10 : Int64)), (.long (100 : Int64)), (.long (1000 : Int64)), (.long (10000 : Int64)), (.long (100000 : Int64)), (.long (1000000 : Int64)), (.long (10000000 : Int64)), (.long (100000000 : Int64)), (.long (1000000000 : Int64))] (.long (0 : Int64))) (q : ¬ (Int32.ofNat x < 0 ∨ c.slots.size ≤ (Int32.ofNat x).toNatClampNeg)) (hx : x < 10) : ∃ z : Int64, c.slots[(Int32.ofNat x).toNatClampNeg]? = some (.long z) ∧ z.toInt = ((10 ^ x : Nat) : Int) := by
  have hx10 : x = 0 ∨ x = 1 ∨ x = 2 ∨ x = 3 ∨ x = 4 ∨ x = 5 ∨ x = 6 ∨ x = 7 ∨ x = 8 ∨ x = 9 := by omega
  rcases hx10 with rfl | rfl | rfl | rfl | rfl | rfl | rfl | rfl | rfl | rfl <;> exact ⟨_, Has.at H q rfl, by decide⟩
theorem o_ix0 {pp : Int32} {kk : Nat} (hs : o_sg pp = 0) (h1 : kk + 1 ≤ o_nd (o_M pp)) (h2 : o_nd (o_M pp) ≤ 10) : ((Int32.ofNat (o_nd (o_M pp)) - (1 : Int32)) - (Int32.ofNat kk - (0 : Int32))) = Int32.ofNat (o_nd (o_M pp) - 1 - (kk - o_sg pp)) := by
  rw [hs]
  generalize o_nd (o_M pp) = d at *
  have q1 := c_isub (Int32.ofNat d) (1 : Int32)
  have q2 := c_isub (Int32.ofNat kk) (0 : Int32)
  have q3 := c_isub (Int32.ofNat d - (1 : Int32)) (Int32.ofNat kk - (0 : Int32))
  have r1 := rng32 (Int32.ofNat d - (1 : Int32))
  have r2 := rng32 (Int32.ofNat kk - (0 : Int32))
  have r3 := rng32 ((Int32.ofNat d - (1 : Int32)) - (Int32.ofNat kk - (0 : Int32)))
  have e1 := o_oi (n := d) (by omega)
  have e2 := o_oi (n := kk) (by omega)
  have e3 := o_oi (n := d - 1 - (kk - 0)) (by omega)
  have e4 : (1 : Int32).toInt = 1 := by decide
  have e5 : (0 : Int32).toInt = 0 := by decide
  refine Int32.toInt_inj.mp ?_
  omega
theorem o_ix1 {pp : Int32} {kk : Nat} (hs : o_sg pp = 1) (hk : ¬ kk = 0) (h1 : kk ≤ o_nd (o_M pp)) (h2 : o_nd (o_M pp) ≤ 10) : ((Int32.ofNat (o_nd (o_M pp)) - (1 : Int32)) - (Int32.ofNat kk - (1 : Int32))) = Int32.ofNat (o_nd (o_M pp) - 1 - (kk - o_sg pp)) := by
  rw [hs]
  generalize o_nd (o_M pp) = d at *
  have q1 := c_isub (Int32.ofNat d) (1 : Int32)
  have q2 := c_isub (Int32.ofNat kk) (1 : Int32)
  have q3 := c_isub (Int32.ofNat d - (1 : Int32)) (Int32.ofNat kk - (1 : Int32))
  have r1 := rng32 (Int32.ofNat d - (1 : Int32))
  have r2 := rng32 (Int32.ofNat kk - (1 : Int32))
  have r3 := rng32 ((Int32.ofNat d - (1 : Int32)) - (Int32.ofNat kk - (1 : Int32)))
  have e1 := o_oi (n := d) (by omega)
  have e2 := o_oi (n := kk) (by omega)
  have e3 := o_oi (n := d - 1 - (kk - 1)) (by omega)
  have e4 : (1 : Int32).toInt = 1 := by decide
  refine Int32.toInt_inj.mp ?_
  omega
theorem o_pz0 {z : Int64} {x : Nat} (h : z.toInt = ((10 ^ x : Nat) : Int)) : z ≠ 0 := fun q => by
  have := Nat.pow_pos (n := x) (show 0 < 10 by decide)
  rw [q, o_l0] at h; omega
theorem o_wnt {mL pz : Int64} {M x : Nat} (hm : mL.toInt = (M : Int)) (hp : pz.toInt = ((10 ^ x : Nat) : Int)) : (((48 : Int32) + (((mL / pz) - ((mL / pz) / (10 : Int64)) * (10 : Int64)).toInt32)).toUInt32.toUInt16.toUInt32.toInt32) = o_dj M x := by
  have p0 := Nat.pow_pos (n := x) (show 0 < 10 by decide)
  have a1 := (c_ldiv mL pz _ hp (fun q => by rw [q, show (-1 : Int64).toInt = -1 by decide] at hp; omega)).1 (by omega)
  rw [hm, ← Int.natCast_ediv] at a1
  have a2 := (c_lrem (mL / pz) (10 : Int64) 10 (by decide)).1 (by rw [a1]; exact Int.natCast_nonneg _)
  rw [a1] at a2
  unfold o_dj
  generalize M / 10 ^ x = Q at *
  have a3 := c_l2i ((mL / pz) - ((mL / pz) / (10 : Int64)) * (10 : Int64))
  have r3 := rng32 (((mL / pz) - ((mL / pz) / (10 : Int64)) * (10 : Int64)).toInt32)
  have a4 := c_iadd (48 : Int32) (((mL / pz) - ((mL / pz) / (10 : Int64)) * (10 : Int64)).toInt32)
  have r4 := rng32 ((48 : Int32) + (((mL / pz) - ((mL / pz) / (10 : Int64)) * (10 : Int64)).toInt32))
  have a5 := c_i2c ((48 : Int32) + (((mL / pz) - ((mL / pz) / (10 : Int64)) * (10 : Int64)).toInt32))
  have e1 : (48 : Int32).toInt = 48 := by decide
  have e2 := o_oi (n := 48 + Q % 10) (by omega)
  refine Int32.toInt_inj.mp ?_
  omega
theorem o_pcA {pp : Int32} {kk : Nat} (hs : o_sg pp = 1) (hk : kk = 0) : (45 : Int32) = o_pc pp kk := by unfold o_pc; rw [if_pos ⟨hs, hk⟩]
theorem o_pcB {pp : Int32} {kk : Nat} (hs : o_sg pp = 1) (hk : ¬ kk = 0) : o_dj (o_M pp) (o_nd (o_M pp) - 1 - (kk - o_sg pp)) = o_pc pp kk := by unfold o_pc; rw [if_neg (fun q => hk q.2)]
theorem o_pcC {pp : Int32} {kk : Nat} (hs : o_sg pp = 0) : o_dj (o_M pp) (o_nd (o_M pp) - 1 - (kk - o_sg pp)) = o_pc pp kk := by unfold o_pc; rw [if_neg (fun q => by omega)]
theorem o_nlt {k n : Nat} (h : Int32.ofNat k < Int32.ofNat n) (hk : k ≤ 4096) (hn : n ≤ 4096) : k < n := by
  have w := Int32.lt_iff_toInt_lt.mp h
  rw [o_oi hk, o_oi hn] at w; omega
theorem o_klt {kk : Nat} {pp : Int32} (h : Int32.ofNat kk < Int32.ofNat (o_pl pp)) (hk : kk ≤ 4096) (hn : o_pl pp ≤ 4096) : kk < o_pl pp := o_nlt h hk hn
theorem o_k0t {kk : Nat} (hk : kk ≤ 4096) (h : Int32.ofNat kk = (0 : Int32)) : kk = 0 := by
  have w := congrArg Int32.toInt h
  rw [o_oi hk, show (0 : Int32).toInt = 0 by decide] at w; omega
theorem o_k0f {kk : Nat} (hk : kk ≤ 4096) (h : ¬ (Int32.ofNat kk = (0 : Int32))) : ¬ kk = 0 := fun q => h (by rw [q]; rfl)
theorem o_pls0 {ng pp : Int32} (hs : ng = Int32.ofNat (o_sg pp)) (h : ng = (0 : Int32)) : Int32.ofNat (o_nd (o_M pp)) + (0 : Int32) = Int32.ofNat (o_pl pp) := by
  have q := o_sz hs h
  unfold o_pl; rw [q]; exact o_oadd _ 0
theorem o_pls1 {ng pp : Int32} (hs : ng = Int32.ofNat (o_sg pp)) (h : ¬ (ng = (0 : Int32))) : Int32.ofNat (o_nd (o_M pp)) + (1 : Int32) = Int32.ofNat (o_pl pp) := by
  have q := o_sn hs h
  unfold o_pl; rw [q]; exact o_oadd _ 1
theorem o_add3 (n k : Nat) : (Int32.ofNat n + (1 : Int32)) + Int32.ofNat k = Int32.ofNat (n + 1 + k) := by rw [show Int32.ofNat n + (1 : Int32) = Int32.ofNat (n + 1) from o_oadd n 1, o_oadd]
theorem o_tabA {s : State} {args : Array Value} {F : String} {a : Addr} (ev : (Jvm.Term.static "java/lang/Integer" F "[B").eval args s none [] s = some (.ref a)) (hx : (Jvm.Cond.exactly (Jvm.Term.static "java/lang/Integer" F "[B") "[B").value args s none s [] = some true) (hl : (Jvm.Cond.eq (Jvm.Term.length (Jvm.Term.static "java/lang/Integer" F "[B")) (Jvm.Term.int (100 : Int32))).value args s none s [] = some true) (wA : (Jvm.Cond.arrayClass .byte).before args s = true) : ∃ cl : Cell, s.arrayAt? a = some cl ∧ Arr s s.heap a cl .byte ∧ cl.slots.size = 100 := by
  obtain ⟨cell, k, h1, h2, h3, h4, -⟩ := Exa.start ev hx
  obtain ⟨c, k2, comp, g1, g2, g3⟩ := Cond.arrayClass_spec wA
  have hlen := eqv_i (Term.int_eval (100 : Int32)) hl
  cases ha : s.arrayAt? a with
  | none =>
    have e0 : (Jvm.Term.length (Jvm.Term.static "java/lang/Integer" F "[B")).eval args s none [] s = none := by rw [Term.eval, ev]; simp [ha]
    rw [e0] at hlen; cases hlen
  | some cl =>
    obtain ⟨q1, q2, q3, -⟩ := State.arrayAt?_spec ha
    cases h1.symm.trans q1
    have e : c = cell.cls := Option.some.inj ((show s.vm.findClass "[B" = some c from g1).symm.trans h2)
    subst e
    refine ⟨cell, rfl, ⟨q1, ⟨fun q r => (by rw [r] at q3; cases q3), k2, g2, comp, g3⟩, q2⟩, ?_⟩
    by_cases hz : cell.slots.size < 2 ^ 31
    · have q := (len_f ev ha hz).symm.trans hlen
      have q' := congrArg Int32.toInt (Value.int.inj (Option.some.inj q))
      rw [len_toInt hz, show (100 : Int32).toInt = 100 by decide] at q'
      omega
    · have e0 : (Jvm.Term.length (Jvm.Term.static "java/lang/Integer" F "[B")).eval args s none [] s = none := by rw [Term.eval, ev]; simp [ha, hz]
      rw [e0] at hlen; cases hlen
theorem o_t10 : ∀ r, r < 100 → (48 : Int32) + (Int32.ofNat r - (Int32.ofNat r / (10 : Int32)) * (10 : Int32)) = Int32.ofNat (48 + r % 10) ∧ (48 : Int32) + Int32.ofNat r % (10 : Int32) = Int32.ofNat (48 + r % 10) ∧ (48 : Int32) + Int32.ofNat r / (10 : Int32) = Int32.ofNat (48 + r / 10) := by decide +kernel
theorem o_tabO {s : State} {args : Array Value} {F : String} {a : Addr} (ev : (Jvm.Term.static "java/lang/Integer" F "[B").eval args s none [] s = some (.ref a)) (hx : (Jvm.Cond.exactly (Jvm.Term.static "java/lang/Integer" F "[B") "[B").value args s none s [] = some true) (hl : (Jvm.Cond.eq (Jvm.Term.length (Jvm.Term.static "java/lang/Integer" F "[B")) (Jvm.Term.int (100 : Int32))).value args s none s [] = some true) (wA : (Jvm.Cond.arrayClass .byte).before args s = true) (hall : (Jvm.Cond.all (Jvm.Term.static "java/lang/Integer" F "[B") (Jvm.Cond.eq (Jvm.Term.elem (Jvm.Term.static "java/lang/Integer" F "[B") (Jvm.Term.index (0 : Nat))) (Jvm.Term.add (Jvm.Term.int (48 : Int32)) (Jvm.Term.rem (Jvm.Term.index (0 : Nat)) (Jvm.Term.int (10 : Int32)))))).value args s none s [] = some true) (r : Nat) (hr : r < 100) : o_At s s.heap a (Int32.ofNat r) (Int32.ofNat (48 + r % 10)) := by
  obtain ⟨cl, ha, A, hs⟩ := o_tabA ev hx hl wA
  have hi : ¬ (Int32.ofNat r < 0 ∨ cl.slots.size ≤ (Int32.ofNat r).toNatClampNeg) := by
    rw [o_oc (by omega), hs]
    rintro (q | q)
    · exact o_onn (by omega) q
    · omega
  refine ⟨cl, A, hi, ?_⟩
  have q := Cond.all_elim ev ha hall r (by omega)
  have er : r.toInt32 = Int32.ofNat r := rfl
  have hF : (Jvm.Term.add (Jvm.Term.int (48 : Int32)) (Jvm.Term.rem (Jvm.Term.index (0 : Nat)) (Jvm.Term.int (10 : Int32)))).eval args s none [r] s = some (.int (Int32.ofNat (48 + r % 10))) := by
    have t := (o_t10 r hr).2.1
    simp [Term.eval, er, t]
  have q2 := eqv_i hF q
  have nn : ¬ Int32.ofNat r < 0 := o_onn (by omega)
  have hj : (Jvm.Term.index (0 : Nat)).eval args s none [r] s = some (.int (Int32.ofNat r)) := by simp [Term.eval, er]
  exact (elem_f (show (Jvm.Term.static "java/lang/Integer" F "[B").eval args s none [r] s = some (.ref a) from ev) hj ha nn).symm.trans q2
theorem o_tabT {s : State} {args : Array Value} {F : String} {a : Addr} (ev : (Jvm.Term.static "java/lang/Integer" F "[B").eval args s none [] s = some (.ref a)) (hx : (Jvm.Cond.exactly (Jvm.Term.static "java/lang/Integer" F "[B") "[B").value args s none s [] = some true) (hl : (Jvm.Cond.eq (Jvm.Term.length (Jvm.Term.static "java/lang/Integer" F "[B")) (Jvm.Term.int (100 : Int32))).value args s none s [] = some true) (wA : (Jvm.Cond.arrayClass .byte).before args s = true) (hall : (Jvm.Cond.all (Jvm.Term.static "java/lang/Integer" F "[B") (Jvm.Cond.eq (Jvm.Term.elem (Jvm.Term.static "java/lang/Integer" F "[B") (Jvm.Term.index (0 : Nat))) (Jvm.Term.add (Jvm.Term.int (48 : Int32)) (Jvm.Term.div (Jvm.Term.index (0 : Nat)) (Jvm.Term.int (10 : Int32)))))).value args s none s [] = some true) (r : Nat) (hr : r < 100) : o_At s s.heap a (Int32.ofNat r) (Int32.ofNat (48 + r / 10)) := by
  obtain ⟨cl, ha, A, hs⟩ := o_tabA ev hx hl wA
  have hi : ¬ (Int32.ofNat r < 0 ∨ cl.slots.size ≤ (Int32.ofNat r).toNatClampNeg) := by
    rw [o_oc (by omega), hs]
    rintro (q | q)
    · exact o_onn (by omega) q
    · omega
  refine ⟨cl, A, hi, ?_⟩
  have q := Cond.all_elim ev ha hall r (by omega)
  have er : r.toInt32 = Int32.ofNat r := rfl
  have hF : (Jvm.Term.add (Jvm.Term.int (48 : Int32)) (Jvm.Term.div (Jvm.Term.index (0 : Nat)) (Jvm.Term.int (10 : Int32)))).eval args s none [r] s = some (.int (Int32.ofNat (48 + r / 10))) := by
    have t := (o_t10 r hr).2.2
    simp [Term.eval, er, t]
  have q2 := eqv_i hF q
  have nn : ¬ Int32.ofNat r < 0 := o_onn (by omega)
  have hj : (Jvm.Term.index (0 : Nat)).eval args s none [r] s = some (.int (Int32.ofNat r)) := by simp [Term.eval, er]
  exact (elem_f (show (Jvm.Term.static "java/lang/Integer" F "[B").eval args s none [r] s = some (.ref a) from ev) hj ha nn).symm.trans q2
theorem o_pd0 : parseMethodDescriptor "([CIILjava/lang/Void;)V" = some ⟨[(.array .char), .int, .int, (.object "java/lang/Void")], none⟩ := by decide +kernel
theorem o_pd1 : parseMethodDescriptor "(I)I" = some ⟨[.int], some .int⟩ := by decide +kernel
theorem o_pd2 : parseMethodDescriptor "(I)[B" = some ⟨[.int], some (.array .byte)⟩ := by decide +kernel
theorem o_pd3 : parseMethodDescriptor "([BII)V" = some ⟨[(.array .byte), .int, .int], none⟩ := by decide +kernel
theorem o_pd4 : parseMethodDescriptor "([CI[BII)I" = some ⟨[(.array .char), .int, (.array .byte), .int, .int], some .int⟩ := by decide +kernel
theorem o_pd5 : parseMethodDescriptor "([CII)[B" = some ⟨[(.array .char), .int, .int], some (.array .byte)⟩ := by decide +kernel
theorem o_pd6 : parseMethodDescriptor "([BI)C" = some ⟨[(.array .byte), .int], some .char⟩ := by decide +kernel
theorem o_pd7 : parseMethodDescriptor "([BI)B" = some ⟨[(.array .byte), .int], some .byte⟩ := by decide +kernel
theorem o_pd8 : parseMethodDescriptor "()B" = some ⟨[], some .byte⟩ := by decide +kernel
theorem o_pd9 : parseMethodDescriptor "(IILjava/util/function/BiFunction;)I" = some ⟨[.int, .int, (.object "java/util/function/BiFunction")], some .int⟩ := by decide +kernel
theorem o_pd10 : parseMethodDescriptor "(II)V" = some ⟨[.int, .int], none⟩ := by decide +kernel
theorem o_pd11 : parseMethodDescriptor "([B)I" = some ⟨[(.array .byte)], some .int⟩ := by decide +kernel
theorem o_pd12 : parseMethodDescriptor "(I[B)V" = some ⟨[.int, (.array .byte)], none⟩ := by decide +kernel
theorem o_pd13 : parseMethodDescriptor "()Z" = some ⟨[], some .boolean⟩ := by decide +kernel
theorem o_pd14 : parseMethodDescriptor "()V" = some ⟨[], none⟩ := by decide +kernel
theorem o_pd15 : parseMethodDescriptor "(I)V" = some ⟨[.int], none⟩ := by decide +kernel
theorem o_pd16 : parseMethodDescriptor "(Ljava/lang/String;)V" = some ⟨[(.object "java/lang/String")], none⟩ := by decide +kernel
theorem o_pd17 : parseMethodDescriptor "([BIB)V" = some ⟨[(.array .byte), .int, .byte], none⟩ := by decide +kernel
theorem o_pd18 : parseMethodDescriptor "()I" = some ⟨[], some .int⟩ := by decide +kernel
theorem o_pd19 : parseMethodDescriptor "(ILjava/lang/String;)V" = some ⟨[.int, (.object "java/lang/String")], none⟩ := by decide +kernel
theorem o_pd20 : parseMethodDescriptor "(Ljava/lang/String;)Ljava/lang/AbstractStringBuilder;" = some ⟨[(.object "java/lang/String")], some (.object "java/lang/AbstractStringBuilder")⟩ := by decide +kernel
theorem o_pd21 : parseMethodDescriptor "(IIILjava/util/function/BiFunction;)I" = some ⟨[.int, .int, .int, (.object "java/util/function/BiFunction")], some .int⟩ := by decide +kernel
theorem o_pd22 : parseMethodDescriptor "(III)I" = some ⟨[.int, .int, .int], some .int⟩ := by decide +kernel
theorem o_pd23 : parseMethodDescriptor "(II[B)V" = some ⟨[.int, .int, (.array .byte)], none⟩ := by decide +kernel
theorem o_pd24 : parseMethodDescriptor "([BI[BII)V" = some ⟨[(.array .byte), .int, (.array .byte), .int, .int], none⟩ := by decide +kernel
theorem o_pd25 : parseMethodDescriptor "(II[B)I" = some ⟨[.int, .int, (.array .byte)], some .int⟩ := by decide +kernel
theorem o_pd26 : parseMethodDescriptor "(I)Ljava/lang/AbstractStringBuilder;" = some ⟨[.int], some (.object "java/lang/AbstractStringBuilder")⟩ := by decide +kernel
theorem o_pd27 : parseMethodDescriptor "(III)V" = some ⟨[.int, .int, .int], none⟩ := by decide +kernel
theorem o_pd28 : parseMethodDescriptor "(III[B)I" = some ⟨[.int, .int, .int, (.array .byte)], some .int⟩ := by decide +kernel
theorem o_pd29 : parseMethodDescriptor "(II)I" = some ⟨[.int, .int], some .int⟩ := by decide +kernel
theorem o_pd30 : parseMethodDescriptor "([BII)[B" = some ⟨[(.array .byte), .int, .int], some (.array .byte)⟩ := by decide +kernel
theorem o_pd31 : parseMethodDescriptor "()[B" = some ⟨[], some (.array .byte)⟩ := by decide +kernel
theorem o_pd32 : parseMethodDescriptor "(Ljava/lang/AbstractStringBuilder;Ljava/lang/Void;)V" = some ⟨[(.object "java/lang/AbstractStringBuilder"), (.object "java/lang/Void")], none⟩ := by decide +kernel
theorem o_pd33 : parseMethodDescriptor "(Ljava/lang/StringBuilder;)V" = some ⟨[(.object "java/lang/StringBuilder")], none⟩ := by decide +kernel
theorem o_pd34 : parseMethodDescriptor "(Ljava/lang/String;)Ljava/lang/StringBuilder;" = some ⟨[(.object "java/lang/String")], some (.object "java/lang/StringBuilder")⟩ := by decide +kernel
theorem o_pd35 : parseMethodDescriptor "(I)Ljava/lang/StringBuilder;" = some ⟨[.int], some (.object "java/lang/StringBuilder")⟩ := by decide +kernel
theorem o_pd36 : parseMethodDescriptor "()Ljava/lang/String;" = some ⟨[], some (.object "java/lang/String")⟩ := by decide +kernel
theorem o_pd37 : parseMethodDescriptor "(I)J" = some ⟨[.int], some .long⟩ := by decide +kernel
theorem o_pd38 : parseMethodDescriptor "(I)C" = some ⟨[.int], some .char⟩ := by decide +kernel
theorem o_pd39 : parseMethodDescriptor "(J)J" = some ⟨[.long], some .long⟩ := by decide +kernel
theorem o_pd40 : parseMethodDescriptor "(J)I" = some ⟨[.long], some .int⟩ := by decide +kernel
theorem o_pd41 : parseMethodDescriptor "(Ljava/lang/String;IIZJII)Z" = some ⟨[(.object "java/lang/String"), .int, .int, .boolean, .long, .int, .int], some .boolean⟩ := by decide +kernel
theorem o_pd42 : parseMethodDescriptor "([C)V" = some ⟨[(.array .char)], none⟩ := by decide +kernel
theorem o_pd43 : parseMethodDescriptor "(Ljava/lang/String;I)V" = some ⟨[(.object "java/lang/String"), .int], none⟩ := by decide +kernel
theorem o_n1 (qs : Int32) : ((qs &&& (3 : Int32)) = (0 : Int32) ∨ (qs &&& (3 : Int32)) = (1 : Int32) ∨ (qs &&& (3 : Int32)) = (2 : Int32) ∨ (qs &&& (3 : Int32)) = (3 : Int32)) := by
  have nf1 := rng32 qs
  have nf2 : (3 : Int32).toInt = 3 := by decide
  have nf3 := c_mask qs (3 : Int32) 2 (by decide) (by decide)
  have nf4 : (0 : Int32).toInt = 0 := by decide
  have nf5 : (1 : Int32).toInt = 1 := by decide
  have nf6 : (2 : Int32).toInt = 2 := by decide
  simp only [← Int32.toInt_inj]; omega
theorem D0_0 : decode oY9 0 = .ok (.aload_n 0, 1) := by decide +kernel
theorem D0_1 : decode oY9 1 = .ok (.invokespecial 1, 3) := by decide +kernel
theorem D0_4 : decode oY9 4 = .ok (.iload_n 3, 1) := by decide +kernel
theorem D0_5 : decode oY9 5 = .ok (.ifCond .ne 22, 3) := by decide +kernel
theorem D0_8 : decode oY9 8 = .ok (.aload_n 0, 1) := by decide +kernel
theorem D0_9 : decode oY9 9 = .ok (.ldc 7, 2) := by decide +kernel
theorem D0_11 : decode oY9 11 = .ok (.getfield 9, 3) := by decide +kernel
theorem D0_14 : decode oY9 14 = .ok (.putfield 9, 3) := by decide +kernel
theorem D0_17 : decode oY9 17 = .ok (.aload_n 0, 1) := by decide +kernel
theorem D0_18 : decode oY9 18 = .ok (.ldc 7, 2) := by decide +kernel
theorem D0_20 : decode oY9 20 = .ok (.getfield 15, 3) := by decide +kernel
theorem D0_23 : decode oY9 23 = .ok (.putfield 15, 3) := by decide +kernel
theorem D0_26 : decode oY9 26 = .ok (.return_, 1) := by decide +kernel
theorem o_pn_o_sI0 : plainName "java/lang/String" = true := by first | (simp [plainName, overriddenIn]; done) | decide +kernel
theorem o_ef_o_sI0 (m : MethodId) (x0 x1 : Addr) (x2 x3 : Int32) : entryFrame m #[(.ref x0), (.ref x1), (.int x2), (.int x3), .null] 6 = mkF m 0 #[oR x0, oR x1, oI x2, oI x3, .val .null, oU] [] := by first | (simp [entryFrame, mkF, argsToLocals, Value.category]; done) | rfl
def Q_o_sI0 (Z : State) (a1 ac : Addr) (uc : Value) (h0 : Heap) (n0 : Nat) (v : Option Value) (h : Heap) (L : List Loc) : Prop := v = none ∧ Fr n0 L ∧ Keep h0 h [a1] ∧ Exa Z h a1 "java/lang/String" ∧ Fld Z h a1 "java/lang/String" "coder" "B" (.int 0) ∧ ∃ (y : Addr) (ky : ClassId), Fld Z h a1 "java/lang/String" "value" "[B" (.ref y) ∧ y ≠ a1 ∧ Arv Z h y ky .byte (0 : Int32) [] (.int 0)
theorem o_sI0 (l : Launch) (Z : State) (a0 : Array Value) (hw : ∀ d ∈ tables_1, d.before a0 Z = true) (ws : List Jvm.Cond) (a1 ac : Addr) (uc : Value) (h0 : Heap) (n0 : Nat) (Z0 : n0 ≤ h0.size) (E_a1 : Exa Z h0 a1 "java/lang/String") (Fv : Fld Z h0 a1 "java/lang/String" "value" "[B" .null) (Fc : Fld Z h0 a1 "java/lang/String" "coder" "B" uc) (g_a1 : n0 ≤ a1) :
    MetFree l o_N0 (head1 (Jvm.Cond.code o_N0 oY9 6 none :: ws) o_R0) (fun a U => a = #[(.ref a1), (.ref ac), (.int 0), (.int 0), .null] ∧ Z.Warmed39 U.vm ∧ U.heap = h0 ∧ CHv Z o_EL U.vm h0) (fun _ _ _ _ _ => True) (fun _ U o U' => ∃ v L, o = .returned v ∧ Q_o_sI0 Z a1 ac uc h0 n0 v U'.heap L ∧ CHr Z o_EL U.vm U.heap U'.vm U'.heap ∧ ReturnedEndW U o U' L o_R0.cells o_R0.slots) := by
  refine MetFree.of_bodySF (plainFor_of_name o_pn_o_sI0) hisR ?_
  intro p e s m args below meth c s1 Bd hml0 hP hK
  obtain ⟨rfl, hZ, hh, hCH⟩ := hP
  have hx := Bd.exec
  have hby := Bd.bytes
  have hml : c.maxLocals = 6 := hml0
  have hown : s.vm.findClass "java/lang/String" = some m.cls := findClass_of_methodNamed Bd.named
  have hnm := (name_of_methodNamed Bd.named Bd.method).1
  have X0 : Stand p l e o_R0 s m #[(.ref a1), (.ref ac), (.int 0), (.int 0), .null] below meth c s1 [] 0 0 := Stand.of_body Bd
  have e0 : s1.heap = h0 := by rw [← hh, Bd.state]; rfl
  have N0 := Fr.nil n0
  obtain ⟨F0, hF0⟩ : ∃ F, F = (entryFrame m #[(.ref a1), (.ref ac), (.int 0), (.int 0), .null] 6) := ⟨_, rfl⟩
  have pre0 : Goes p e below s1 F0 s1 (mkF m 0 #[oR a1, oR ac, oI 0, oI 0, .val .null, oU] []) := fun t k => castTop (hF0.trans (o_ef_o_sI0 m a1 ac (0 : Int32) (0 : Int32))) k
  have hEL : EW Z a0 o_EL := (EW.cons (oV hw 117 rfl) (by simp) (EW.cons (oV hw 230 rfl) (by simp) EW.nil))
  have CH0 : CHr Z o_EL s.vm h0 s.vm h0 := CHr.refl hCH
  obtain ⟨T1, X1, e1, st1⟩ := initO X0 hx hZ hown (oV hw 12 rfl) (oV hw 13 rfl) (oV hw 14 rfl) e0 (g := (mkF m 1 #[oR a1, oR ac, oI 0, oI 0, .val .null, oU] [(.ref a1)])) rfl (by rw [hml]; rfl) rfl (hb hby D0_1) (by decide) (W := 0) (by show 2 * 0 + _ ≤ _; exact Nat.le_of_eq rfl) (by decide)
  have pre2 : Goes p e below s1 F0 T1 (mkF m 4 #[oR a1, oR ac, oI 0, oI 0, .val .null, oU] []) := fun t kt => pre0 t (by
    refine o_al X0 hx hby D0_0 rfl ?_
    exact st1 t kt)
  have SF0_a1 : Safe Z o_EL s.vm h0 a1 := (o_safe hZ.alike E_a1 Fv)
  have pre3 : Goes p e below s1 F0 T1 (mkF m 9 #[oR a1, oR ac, oI 0, oI 0, .val .null, oU] [(.ref a1)]) := fun t kt => pre2 t (by
    refine o_il X1 hx hby D0_4 rfl ?_
    refine o_ifN X1 hx hby D0_5 ((if0 _ _).trans (teq (by decide : (0 : Int32) = (0 : Int32))).2) ?_
    refine o_al X1 hx hby D0_8 rfl ?_
    exact kt)
  have wS4 : ∀ a ∈ Bundle.stringAtoms, a.before a0 Z = true := fun d hd => by
    simp only [Bundle.stringAtoms, List.mem_cons, List.not_mem_nil, or_false] at hd
    rcases hd with rfl | rfl | rfl | rfl | rfl | rfl | rfl
    · exact (oV hw 4 rfl)
    · exact (oV hw 3 rfl)
    · exact (oV hw 20 rfl)
    · exact (oV hw 30 rfl)
    · exact (oV hw 28 rfl)
    · exact (oV hw 118 rfl)
    · exact (oV hw 119 rfl)
  obtain ⟨sa4, T4, h4, kk4, sd4, ky4, X4, e4, E4, hS4, hk4, hZ, hown, Es4, Fc4, Fv4, Vd4, ls4, ld4, hC4, Lt4, nS4, st4⟩ := ldcCH (s := s) (vm0 := s.vm) X1 hx hZ hown (oV hw 230 rfl) wS4 e1 (State.WarmedH.since (State.WarmedH.refl s) 0) (Nat.zero_le _) hEL (o_mG (i := 1) rfl) CH0.1 (vs := []) (z := (0 : Int32)) ⟨by simp, by first | rfl | simp [Jvm.Lit.byteI]⟩ (by decide) (by decide) (g := (mkF m 9 #[oR a1, oR ac, oI 0, oI 0, .val .null, oU] [(.ref a1)])) rfl (hb hby D0_9) (n := 0) (by decide) (by decide) (by decide) (by decide)
  have K4 : Keep h0 h4 [a1] := (Keep.refl h0 [a1]).ext E4
  have CH4 : CHr Z o_EL s.vm h0 T4.vm h4 := CH0.trans hC4
  have SF4_a1 : Safe Z o_EL T4.vm h4 a1 := CHr.safe hC4 E_a1.lt SF0_a1
  have pre5 : Goes p e below s1 F0 T4 (mkF m 11 #[oR a1, oR ac, oI 0, oI 0, .val .null, oU] [(.ref sa4), (.ref a1)]) := fun t kt => pre3 t (st4 t kt)
  obtain ⟨T6, X6, e6, st6⟩ := getF X4 hx hZ hown (host := "") (Or.inl (oV hw 29 rfl)) Via.refl e4 Fv4 (g := (mkF m 11 #[oR a1, oR ac, oI 0, oI 0, .val .null, oU] [(.ref sa4), (.ref a1)])) rfl rfl (hb hby D0_11)
  have pre7 : Goes p e below s1 F0 T6 (mkF m 14 #[oR a1, oR ac, oI 0, oI 0, .val .null, oU] [(.ref sd4), (.ref a1)]) := fun t kt => pre5 t (st6 t kt)
  obtain ⟨T8, h8, X8, e8, W8, st8⟩ := putF X6 hx hZ hown (host := "") (Or.inl (oV hw 29 rfl)) Via.refl e6 (Fv.ext E4) (E_a1.ext E4) (Or.inr ⟨(oV hw 30 rfl), rfl, hnm⟩) (oV hw 3 rfl) (ty := (.array .byte)) (by decide) rfl rfl (g := (mkF m 14 #[oR a1, oR ac, oI 0, oI 0, .val .null, oU] [(.ref sd4), (.ref a1)])) rfl rfl (hb hby D0_14)
  have Fw8 := (Fv.ext E4).same W8
  have K8 : Keep h0 h8 [a1] := K4.wr W8 (Or.inl (o_mG (i := 0) rfl))
  have CH8 : CHr Z o_EL s.vm h0 T4.vm h8 := CH4.trans (CHr.wr W8 SF4_a1 CH4.1)
  have SF8_a1 : Safe Z o_EL T4.vm h8 a1 := Safe.wr W8 SF4_a1 CH4.1 SF4_a1
  have N8 := Fr.snoc X8 N0 g_a1
  have pre9 : Goes p e below s1 F0 T8 (mkF m 17 #[oR a1, oR ac, oI 0, oI 0, .val .null, oU] []) := fun t kt => pre7 t (st8 t kt)
  have pre10 : Goes p e below s1 F0 T8 (mkF m 18 #[oR a1, oR ac, oI 0, oI 0, .val .null, oU] [(.ref a1)]) := fun t kt => pre9 t (by
    refine o_al X8 hx hby D0_17 rfl ?_
    exact kt)
  obtain ⟨T12, X12, e12, st12⟩ := getF X8 hx hZ hown (host := "") (Or.inl (oV hw 27 rfl)) Via.refl e8 (Fc4.other W8 (Or.inl (Ne.symm (nS4 a1 SF4_a1).1))) (g := (mkF m 20 #[oR a1, oR ac, oI 0, oI 0, .val .null, oU] [(.ref sa4), (.ref a1)])) rfl rfl (hb hby D0_20)
  have pre13 : Goes p e below s1 F0 T12 (mkF m 23 #[oR a1, oR ac, oI 0, oI 0, .val .null, oU] [(.int 0), (.ref a1)]) := fun t kt => pre10 t (by
    refine ldcAgain (s := s) (vm0 := T4.vm) X8 hx hZ hown (oV hw 230 rfl) Lt4 (g := (mkF m 18 #[oR a1, oR ac, oI 0, oI 0, .val .null, oU] [(.ref a1)])) rfl (hb hby D0_18) _ ?_
    exact st12 t kt)
  obtain ⟨T14, h14, X14, e14, W14, st14⟩ := putFN X12 hx hZ hown (oV hw 27 rfl) Via.refl e12 ((Fc.ext E4).other W8 (Or.inr (slot_ne (Or.inr (oV hw 28 rfl)) (Or.inr (oV hw 30 rfl)) (by decide) (t := .byte) (t' := (.array .byte)) (by decide) (by decide)))) ((E_a1.ext E4).wr W8) (Or.inr ⟨(oV hw 28 rfl), rfl, hnm⟩) (oV hw 3 rfl) (ty := .byte) (v' := (.int 0)) (by decide) rfl rfl (g := (mkF m 23 #[oR a1, oR ac, oI 0, oI 0, .val .null, oU] [(.int 0), (.ref a1)])) rfl rfl (hb hby D0_23)
  have Fw14 := ((Fc.ext E4).other W8 (Or.inr (slot_ne (Or.inr (oV hw 28 rfl)) (Or.inr (oV hw 30 rfl)) (by decide) (t := .byte) (t' := (.array .byte)) (by decide) (by decide)))).same W14
  have K14 : Keep h0 h14 [a1] := K8.wr W14 (Or.inl (o_mG (i := 0) rfl))
  have CH14 : CHr Z o_EL s.vm h0 T4.vm h14 := CH8.trans (CHr.wr W14 SF8_a1 CH8.1)
  have SF14_a1 : Safe Z o_EL T4.vm h14 a1 := Safe.wr W14 SF8_a1 CH8.1 SF8_a1
  have N14 := Fr.snoc X14 N8 g_a1
  have pre15 : Goes p e below s1 F0 T14 (mkF m 26 #[oR a1, oR ac, oI 0, oI 0, .val .null, oU] []) := fun t kt => pre13 t (st14 t kt)
  obtain ⟨fs, hr, hrun, hended, hEnd⟩ := X14.leaveW hS4 (by rw [e14]; exact (Nat.le_trans (Nat.le_trans hk4 (Keep.of_wr W8).1) (Keep.of_wr W14).1)) (v := none) (fun _ => rfl)
  rw [hF0] at pre15
  refine ⟨_, _, pre15 _ ?_, hrun, hended, _, _, rfl, ?_, ?_, hEnd.1, hEnd.2.1, hEnd.2.2.1, hEnd.2.2.2.mono (by decide) (by decide)⟩
  · show Steps p.tables e below (T14.setTop (mkF m 26 #[oR a1, oR ac, oI 0, oI 0, .val .null, oU] [])) _
    exact X14.returnOut hx Bd.returns (hb hby D0_26) hr
  · show Q_o_sI0 Z a1 ac uc h0 n0 _ T14.heap _
    rw [e14]
    exact ⟨rfl, N14, K14, (((E_a1.ext E4).wr W8).wr W14), Fw14, sd4, _, (Fw8.other W14 (Or.inr (slot_ne (Or.inr (oV hw 30 rfl)) (Or.inr (oV hw 28 rfl)) (by decide) (t := (.array .byte)) (t' := .byte) (by decide) (by decide)))), (Ne.symm (nS4 a1 SF4_a1).2), ((Vd4.other W8 (Ne.symm (nS4 a1 SF4_a1).2)).other W14 (Ne.symm (nS4 a1 SF4_a1).2))⟩
  · show CHr Z o_EL s.vm s.heap T14.vm T14.heap
    rw [hh, e14]
    exact CH14.trans (CHv.at (s := s) (vm0 := T4.vm) X14 hZ hEL CH14.1)
theorem D1_0 : decode oY16 0 = .ok (.aload_n 0, 1) := by decide +kernel
theorem D1_1 : decode oY16 1 = .ok (.aload_n 1, 1) := by decide +kernel
theorem D1_2 : decode oY16 2 = .ok (.iconst 0, 1) := by decide +kernel
theorem D1_3 : decode oY16 3 = .ok (.aload_n 1, 1) := by decide +kernel
theorem D1_4 : decode oY16 4 = .ok (.arraylength, 1) := by decide +kernel
theorem D1_5 : decode oY16 5 = .ok (.aconst_null, 1) := by decide +kernel
theorem D1_6 : decode oY16 6 = .ok (.invokespecial 27, 3) := by decide +kernel
theorem D1_9 : decode oY16 9 = .ok (.return_, 1) := by decide +kernel
theorem o_ef_o_sJ0 (m : MethodId) (x0 x1 : Addr) : entryFrame m #[(.ref x0), (.ref x1)] 2 = mkF m 0 #[oR x0, oR x1] [] := by first | (simp [entryFrame, mkF, argsToLocals, Value.category]; done) | rfl
def Q_o_sJ0 (Z : State) (a1 ac : Addr) (kc : ClassId) (uc : Value) (h0 : Heap) (n0 : Nat) (v : Option Value) (h : Heap) (L : List Loc) : Prop := v = none ∧ Fr n0 L ∧ Keep h0 h [a1] ∧ Exa Z h a1 "java/lang/String" ∧ Fld Z h a1 "java/lang/String" "coder" "B" (.int 0) ∧ ∃ (y : Addr) (ky : ClassId), Fld Z h a1 "java/lang/String" "value" "[B" (.ref y) ∧ y ≠ a1 ∧ Arv Z h y ky .byte (0 : Int32) [] (.int 0)
theorem o_sJ0 (l : Launch) (Z : State) (a0 : Array Value) (hw : ∀ d ∈ tables_1, d.before a0 Z = true) (ws : List Jvm.Cond) (a1 ac : Addr) (kc : ClassId) (uc : Value) (h0 : Heap) (n0 : Nat) (Z0 : n0 ≤ h0.size) (E_a1 : Exa Z h0 a1 "java/lang/String") (Fv : Fld Z h0 a1 "java/lang/String" "value" "[B" .null) (Fc : Fld Z h0 a1 "java/lang/String" "coder" "B" uc) (g_a1 : n0 ≤ a1) (V_ac : Arv Z h0 ac kc .char (0 : Int32) [] (.int 0)) :
    MetFree l o_N1 (head1 (Jvm.Cond.code o_N1 oY16 2 none :: ws) o_R1) (fun a U => a = #[(.ref a1), (.ref ac)] ∧ Z.Warmed39 U.vm ∧ U.heap = h0 ∧ CHv Z o_EL U.vm h0) (fun _ _ _ _ _ => True) (fun _ U o U' => ∃ v L, o = .returned v ∧ Q_o_sJ0 Z a1 ac kc uc h0 n0 v U'.heap L ∧ CHr Z o_EL U.vm U.heap U'.vm U'.heap ∧ ReturnedEndW U o U' L o_R1.cells o_R1.slots) := by
  refine MetFree.of_bodySF (plainFor_of_name o_pn_o_sI0) hisR ?_
  intro p e s m args below meth c s1 Bd hml0 hP hK
  obtain ⟨rfl, hZ, hh, hCH⟩ := hP
  have hx := Bd.exec
  have hby := Bd.bytes
  have hml : c.maxLocals = 2 := hml0
  have hown : s.vm.findClass "java/lang/String" = some m.cls := findClass_of_methodNamed Bd.named
  have hnm := (name_of_methodNamed Bd.named Bd.method).1
  have X0 : Stand p l e o_R1 s m #[(.ref a1), (.ref ac)] below meth c s1 [] 0 0 := Stand.of_body Bd
  have e0 : s1.heap = h0 := by rw [← hh, Bd.state]; rfl
  have N0 := Fr.nil n0
  obtain ⟨F0, hF0⟩ : ∃ F, F = (entryFrame m #[(.ref a1), (.ref ac)] 2) := ⟨_, rfl⟩
  have pre0 : Goes p e below s1 F0 s1 (mkF m 0 #[oR a1, oR ac] []) := fun t k => castTop (hF0.trans (o_ef_o_sJ0 m a1 ac)) k
  have hEL : EW Z a0 o_EL := (EW.cons (oV hw 117 rfl) (by simp) (EW.cons (oV hw 230 rfl) (by simp) EW.nil))
  have CH0 : CHr Z o_EL s.vm h0 s.vm h0 := CHr.refl hCH
  obtain ⟨cl1, Ar1, q1, S1, N_1, H1, G1⟩ := (id (V_ac))
  have pre2 : Goes p e below s1 F0 s1 (mkF m 6 #[oR a1, oR ac] [.null, (.int 0), (.int 0), (.ref ac), (.ref a1)]) := fun t kt => pre0 t (by
    refine o_al X0 hx hby D1_0 rfl ?_
    refine o_al X0 hx hby D1_1 rfl ?_
    refine o_ic X0 hx hby D1_2 ?_
    refine o_al X0 hx hby D1_3 rfl ?_
    refine X0.arraylength hx (by (try rw [e0]); exact Ar1.1) (State.isArrayOf_alike hZ.alike Ar1.2.1) (g := (mkF m 4 #[oR a1, oR ac] [(.ref ac), (.int 0), (.ref ac), (.ref a1)])) rfl rfl (hb hby D1_4) _ ?_
    rw [len_of S1 N_1]
    refine XS.aconstNull X0.here hx rfl (hb hby D1_5) ?_
    exact kt)
  obtain ⟨_, _, ⟨T3, L3, k3, n3⟩, -, XX3, hSS3, hGG3, ⟨Lc3, hQ3, l3, y3, z3, hCr3⟩, st3⟩ := X0.specialBackS hx (y := o_N0) rfl hown (oW hw hZ 8 rfl) (oW hw hZ 9 rfl) (oW hw hZ 11 rfl) (by decide) (backOfSH (s := s) (vm0 := s.vm) (W := 0) (o_sI0 l Z a0 hw [] a1 ac uc h0 n0 Z0 E_a1 Fv Fc g_a1) hZ (oV hw 11 rfl) (oV hw 4 rfl) (by decide) (by decide) hEL CH0.1) (g := (mkF m 6 #[oR a1, oR ac] [.null, (.int 0), (.int 0), (.ref ac), (.ref a1)])) rfl (by rw [hml]; rfl) (Steps.refl _) (a := a1) (argsL := [(.ref ac), (.int 0), (.int 0), .null]) (rest := []) (lenOf o_pd0 rfl) rfl (by show 2 * 0 + _ ≤ _; exact Nat.le_of_eq rfl) (hb hby D1_6) (fun _ _ => ⟨rfl, e0, (by decide : 0 + 2 ≤ _), (by decide : 0 + 4 ≤ _)⟩)
  dsimp only [Pt.U, Pt.locs, Pt.cells, Pt.slots] at hCr3 hSS3 hGG3 XX3 l3 y3 z3 st3 hQ3
  subst l3 y3 z3
  obtain ⟨rfl, N3q, K3q, Rest3⟩ := hQ3
  have N3 := Fr.app N0 N3q
  obtain ⟨X3, hS3, hZ, hown⟩ := rebS (s := s) (vm0 := s.vm) (State.WarmedH.since (State.WarmedH.refl s) 0) (by rw [e0]; exact (Nat.zero_le _)) XX3 hSS3 hGG3 hZ hown
  have KC3 : Keep h0 T3.heap [a1] := (Keep.refl h0 [a1]).trans K3q (allS (Or.inl (o_mG (i := 0) rfl)) all0)
  have CH3 : CHr Z o_EL s.vm h0 T3.vm T3.heap := CH0.trans hCr3
  have pre4 : Goes p e below s1 F0 T3 (mkF m 9 #[oR a1, oR ac] []) := fun t kt => pre2 t (st3.trans kt)
  obtain ⟨fs, hr, hrun, hended, hEnd⟩ := X3.leaveW hS3 (Nat.le_refl _) (v := none) (fun _ => rfl)
  rw [hF0] at pre4
  refine ⟨_, _, pre4 _ ?_, hrun, hended, _, _, rfl, ?_, ?_, hEnd.1, hEnd.2.1, hEnd.2.2.1, hEnd.2.2.2.mono (by decide) (by decide)⟩
  · show Steps p.tables e below (T3.setTop (mkF m 9 #[oR a1, oR ac] [])) _
    exact X3.returnOut hx Bd.returns (hb hby D1_9) hr
  · show Q_o_sJ0 Z a1 ac kc uc h0 n0 _ T3.heap _
    exact ⟨rfl, N3, KC3, Rest3⟩
  · show CHr Z o_EL s.vm s.heap T3.vm T3.heap
    rw [hh]
    exact CH3.trans (CHv.at (s := s) (vm0 := T3.vm) X3 hZ hEL CH3.1)
theorem D2_0 : decode oY25 0 = .ok (.iconst 0, 1) := by decide +kernel
theorem D2_1 : decode oY25 1 = .ok (.istore 5, 2) := by decide +kernel
theorem D2_3 : decode oY25 3 = .ok (.iload 5, 2) := by decide +kernel
theorem D2_5 : decode oY25 5 = .ok (.iload 4, 2) := by decide +kernel
theorem D2_7 : decode oY25 7 = .ok (.if_icmp .ge 37, 3) := by decide +kernel
theorem D2_10 : decode oY25 10 = .ok (.aload_n 0, 1) := by decide +kernel
theorem D2_11 : decode oY25 11 = .ok (.iload_n 1, 1) := by decide +kernel
theorem D2_12 : decode oY25 12 = .ok (.caload, 1) := by decide +kernel
theorem D2_13 : decode oY25 13 = .ok (.istore 6, 2) := by decide +kernel
theorem D2_15 : decode oY25 15 = .ok (.iload 6, 2) := by decide +kernel
theorem D2_17 : decode oY25 17 = .ok (.sipush 255, 3) := by decide +kernel
theorem D2_20 : decode oY25 20 = .ok (.if_icmp .le 6, 3) := by decide +kernel
theorem D2_23 : decode oY25 23 = .ok (.iload 5, 2) := by decide +kernel
theorem D2_25 : decode oY25 25 = .ok (.ireturn, 1) := by decide +kernel
theorem D2_26 : decode oY25 26 = .ok (.aload_n 2, 1) := by decide +kernel
theorem D2_27 : decode oY25 27 = .ok (.iload_n 3, 1) := by decide +kernel
theorem D2_28 : decode oY25 28 = .ok (.iload 6, 2) := by decide +kernel
theorem D2_30 : decode oY25 30 = .ok (.i2b, 1) := by decide +kernel
theorem D2_31 : decode oY25 31 = .ok (.bastore, 1) := by decide +kernel
theorem D2_32 : decode oY25 32 = .ok (.iinc 1 1, 3) := by decide +kernel
theorem D2_35 : decode oY25 35 = .ok (.iinc 3 1, 3) := by decide +kernel
theorem D2_38 : decode oY25 38 = .ok (.iinc 5 1, 3) := by decide +kernel
theorem D2_41 : decode oY25 41 = .ok (.goto (-38), 3) := by decide +kernel
theorem D2_44 : decode oY25 44 = .ok (.iload 4, 2) := by decide +kernel
theorem D2_46 : decode oY25 46 = .ok (.ireturn, 1) := by decide +kernel
theorem o_pn_o_cin1 : plainName "java/lang/StringUTF16" = true := by first | (simp [plainName, overriddenIn]; done) | decide +kernel
def Q_o_cin1 (Z : State) (ac ab : Addr) (kc kb : ClassId) (v0 : Int32) (h0 : Heap) (n0 : Nat) (v : Option Value) (h : Heap) (L : List Loc) : Prop := ∃ z : Int32, v = some (.int z) ∧ Fr n0 L ∧ Keep h0 h [ab] ∧ ((z = (1 : Int32) ∧ (¬ ((255 : Int32) < v0)) ∧ Arv Z h ab kb .byte (1 : Int32) [(.int (o_by v0))] (.int 0)) ∨ (z = (0 : Int32) ∧ (255 : Int32) < v0))
theorem o_cin1 (l : Launch) (Z : State) (a0 : Array Value) (hw : ∀ d ∈ tables_1, d.before a0 Z = true) (ws : List Jvm.Cond) (ac ab : Addr) (kc kb : ClassId) (v0 : Int32) (h0 : Heap) (n0 : Nat) (Z0 : n0 ≤ h0.size) (V_ac : Arv Z h0 ac kc .char (1 : Int32) [(.int v0)] (.int 0)) (V_ab : Arv Z h0 ab kb .byte (1 : Int32) [(.int 0)] (.int 0)) (g_ab : n0 ≤ ab) (nab : ac ≠ ab) :
    o_MF l o_N2 oY25 7 (some .int) ws o_R2 #[(.ref ac), (.int 0), (.ref ab), (.int 0), (.int 1)] Z h0 (Q_o_cin1 Z ac ab kc kb v0 h0 n0) := by
  refine o_start (C := "java/lang/StringUTF16") rfl (plainFor_of_name o_pn_o_cin1) fun p e s m below meth c s1 F0 Bd hx hby hml hown hnm hZ X0 e0 hF0 => ?_
  have N0 := Fr.nil n0
  have pre0 : Goes p e below s1 F0 s1 (mkF m 0 #[oR ac, oI 0, oR ab, oI 0, oI 1, oU, oU] []) := fun t k => castTop (hF0.trans (by simp [entryFrame, mkF, argsToLocals, Value.category])) k
  obtain ⟨cl1, Ar1, q1, S1, N_1, H1, G1⟩ := (id (V_ac))
  have hin1 : ¬ ((0 : Int32) < 0 ∨ cl1.slots.size ≤ ((0 : Int32)).toNatClampNeg) := inb_of S1 ⟨by decide, by decide⟩
  have hat1 : cl1.slots[((0 : Int32)).toNatClampNeg]? = some (.int v0) := Has.at H1 hin1 rfl
  have pre2 : Goes p e below s1 F0 s1 (mkF m 20 #[oR ac, oI 0, oR ab, oI 0, oI 1, oI 0, oI v0] [(.int 255), (.int v0)]) := fun t kt => pre0 t (by
    refine o_ic X0 hx hby D2_0 ?_
    refine XS.istore X0.here hx rfl (hb hby D2_1) rfl (l' := #[oR ac, oI 0, oR ab, oI 0, oI 1, oI 0, oU]) rfl ?_
    refine o_iL X0 hx hby D2_3 rfl ?_
    refine o_iL X0 hx hby D2_5 rfl ?_
    refine o_icN X0 hx hby D2_7 (tlt (by decide : (0 : Int32) < (1 : Int32))).2.1 ?_
    refine o_al X0 hx hby D2_10 rfl ?_
    refine o_il X0 hx hby D2_11 rfl ?_
    refine X0.caload hx (j := (0 : Int32)) (v := (.int v0)) (by (try rw [e0]); exact Ar1.1) (State.isArrayOf_alike hZ.alike Ar1.2.1) Ar1.2.2 hin1 hat1 (g := (mkF m 12 #[oR ac, oI 0, oR ab, oI 0, oI 1, oI 0, oU] [(.int 0), (.ref ac)])) rfl rfl (hb hby D2_12) _ ?_
    show Steps p.tables e below (s1.setTop (mkF m 13 #[oR ac, oI 0, oR ab, oI 0, oI 1, oI 0, oU] [(.int v0)])) _
    refine XS.istore X0.here hx rfl (hb hby D2_13) rfl (l' := #[oR ac, oI 0, oR ab, oI 0, oI 1, oI 0, oI v0]) rfl ?_
    refine o_iL X0 hx hby D2_15 rfl ?_
    refine XS.sipush X0.here hx rfl (hb hby D2_17) ?_
    exact kt)
  by_cases hc20_3 : (255 : Int32) < v0
  · -- yes at pc 20: f
    have pre4 : Goes p e below s1 F0 s1 (mkF m 25 #[oR ac, oI 0, oR ab, oI 0, oI 1, oI 0, oI v0] [(.int 0)]) := fun t kt => pre2 t (by
      refine o_icN X0 hx hby D2_20 (tlt hc20_3).2.2.2 ?_
      refine o_iL X0 hx hby D2_23 rfl ?_
      exact kt)
    refine o_eI X0 Bd hx pre4 (hb hby D2_25) e0 ?_
    exact ⟨_, rfl, N0, (Keep.refl h0 [ab]), (Or.inr (⟨rfl, hc20_3⟩))⟩
  · -- no at pc 20: f
    obtain ⟨cl5, Ar5, q5, S5, N_5, H5, G5⟩ := (id (V_ab))
    have hin5 : ¬ ((0 : Int32) < 0 ∨ cl5.slots.size ≤ ((0 : Int32)).toNatClampNeg) := inb_of S5 ⟨by decide, by decide⟩
    obtain ⟨T6, h6, X6, e6, W6, st6⟩ := stB X0 hx hZ e0 Ar5 (j := (0 : Int32)) hin5 (g := (mkF m 31 #[oR ac, oI 0, oR ab, oI 0, oI 1, oI 0, oI v0] [(.int (v0.toInt8.toInt32)), (.int 0), (.ref ab)])) rfl rfl (hb hby D2_31)
    have V6 : Arv Z h6 ab kb .byte (1 : Int32) [(.int (nar .byte (v0.toInt8.toInt32)))] (.int 0) := Arv.set Ar5 q5 S5 N_5 H5 G5 (fits_nar_byte _) W6 0 rfl (Nat.le_of_ble_eq_true rfl)
    have K6 : Keep h0 h6 [ab] := (Keep.refl h0 [ab]).wr W6 (Or.inl (o_mG (i := 0) rfl))
    have N6 := Fr.snoc X6 N0 g_ab
    have pre7 : Goes p e below s1 F0 T6 (mkF m 32 #[oR ac, oI 0, oR ab, oI 0, oI 1, oI 0, oI v0] []) := fun t kt => pre2 t (by
      refine o_icY 20 26 X0 hx hby D2_20 (flt hc20_3).2.2.2 ?_
      refine o_al X0 hx hby D2_26 rfl ?_
      refine o_il X0 hx hby D2_27 rfl ?_
      refine o_iL X0 hx hby D2_28 rfl ?_
      refine XS.i2b X0.here hx rfl (hb hby D2_30) rfl ?_
      exact st6 t kt)
    have pre8 : Goes p e below s1 F0 T6 (mkF m 46 #[oR ac, oI 1, oR ab, oI 1, oI 1, oI 1, oI v0] [(.int 1)]) := fun t kt => pre7 t (by
      refine XS.iinc X6.here hx rfl (hb hby D2_32) rfl (l' := #[oR ac, oI 1, oR ab, oI 0, oI 1, oI 0, oI v0]) rfl ?_
      refine XS.iinc X6.here hx rfl (hb hby D2_35) rfl (l' := #[oR ac, oI 1, oR ab, oI 1, oI 1, oI 0, oI v0]) rfl ?_
      refine XS.iinc X6.here hx rfl (hb hby D2_38) rfl (l' := #[oR ac, oI 1, oR ab, oI 1, oI 1, oI 1, oI v0]) rfl ?_
      refine o_gt 41 3 X6 hx hby D2_41 ?_
      refine o_iL X6 hx hby D2_3 rfl ?_
      refine o_iL X6 hx hby D2_5 rfl ?_
      refine o_icY 7 44 X6 hx hby D2_7 (flt (by decide : ¬ ((1 : Int32) < (1 : Int32)))).2.1 ?_
      refine o_iL X6 hx hby D2_44 rfl ?_
      exact kt)
    refine o_eI X6 Bd hx pre8 (hb hby D2_46) e6 ?_
    exact ⟨_, rfl, N6, K6, (Or.inl ⟨rfl, hc20_3, V6⟩)⟩
theorem D3_0 : decode oY27 0 = .ok (.iload_n 0, 1) := by decide +kernel
theorem D3_1 : decode oY27 1 = .ok (.ifCond .ge 11, 3) := by decide +kernel
theorem D3_12 : decode oY27 12 = .ok (.iload_n 0, 1) := by decide +kernel
theorem D3_13 : decode oY27 13 = .ok (.ldc 20, 2) := by decide +kernel
theorem D3_15 : decode oY27 15 = .ok (.if_icmp .lt 40, 3) := by decide +kernel
theorem D3_55 : decode oY27 55 = .ok (.iload_n 0, 1) := by decide +kernel
theorem D3_56 : decode oY27 56 = .ok (.iconst 1, 1) := by decide +kernel
theorem D3_57 : decode oY27 57 = .ok (.ishl, 1) := by decide +kernel
theorem D3_58 : decode oY27 58 = .ok (.ireturn, 1) := by decide +kernel
def Q_o_nbl1 (Z : State)  (h0 : Heap) (n0 : Nat) (v : Option Value) (h : Heap) (L : List Loc) : Prop := v = some (.int 2) ∧ Fr n0 L ∧ h = h0
theorem o_nbl1 (l : Launch) (Z : State) (a0 : Array Value) (hw : ∀ d ∈ tables_1, d.before a0 Z = true) (ws : List Jvm.Cond)  (h0 : Heap) (n0 : Nat) (Z0 : n0 ≤ h0.size) :
    o_MF l o_N3 oY27 1 (some .int) ws o_R2 #[(.int 1)] Z h0 (Q_o_nbl1 Z  h0 n0) := by
  refine o_start (C := "java/lang/StringUTF16") rfl (plainFor_of_name o_pn_o_cin1) fun p e s m below meth c s1 F0 Bd hx hby hml hown hnm hZ X0 e0 hF0 => ?_
  have N0 := Fr.nil n0
  have pre0 : Goes p e below s1 F0 s1 (mkF m 0 #[oI 1] []) := fun t k => castTop (hF0.trans (by simp [entryFrame, mkF, argsToLocals, Value.category])) k
  have pre1 : Goes p e below s1 F0 s1 (mkF m 58 #[oI 1] [(.int ((1 : Int32) <<< ((1 : Int32) &&& 31)))]) := fun t kt => pre0 t (by
    refine o_il X0 hx hby D3_0 rfl ?_
    refine o_ifY 1 12 X0 hx hby D3_1 ((if0 _ _).trans (flt (by decide : ¬ ((1 : Int32) < (0 : Int32)))).2.1) ?_
    refine o_il X0 hx hby D3_12 rfl ?_
    refine X0.ldcInt hx hown (oW hw hZ 240 rfl) (g := (mkF m 13 #[oI 1] [(.int 1)])) rfl (hb hby D3_13) _ ?_
    refine o_icY 15 55 X0 hx hby D3_15 (tlt (by decide : (1 : Int32) < (1073741823 : Int32))).1 ?_
    refine o_il X0 hx hby D3_55 rfl ?_
    refine o_ic X0 hx hby D3_56 ?_
    refine XS.ishl X0.here hx rfl (hb hby D3_57) rfl ?_
    exact kt)
  rw [show ((1 : Int32) <<< ((1 : Int32) &&& 31)) = (2 : Int32) from (by decide)] at pre1
  refine o_eI X0 Bd hx pre1 (hb hby D3_58) e0 ?_
  exact ⟨rfl, N0, rfl⟩
theorem D4_0 : decode oY26 0 = .ok (.iload_n 0, 1) := by decide +kernel
theorem D4_1 : decode oY26 1 = .ok (.invokestatic 11, 3) := by decide +kernel
theorem D4_4 : decode oY26 4 = .ok (.newarray .byte, 2) := by decide +kernel
theorem D4_6 : decode oY26 6 = .ok (.areturn, 1) := by decide +kernel
def Q_o_nbf1 (Z : State)  (h0 : Heap) (n0 : Nat) (v : Option Value) (h : Heap) (L : List Loc) : Prop := ∃ (y : Addr) (ky : ClassId), v = some (.ref y) ∧ Fr n0 L ∧ Keep h0 h [] ∧ h0.size ≤ y ∧ n0 ≤ y ∧ Arv Z h y ky .byte (2 : Int32) [(.int 0), (.int 0)] (.int 0)
theorem o_nbf1 (l : Launch) (Z : State) (a0 : Array Value) (hw : ∀ d ∈ tables_1, d.before a0 Z = true) (ws : List Jvm.Cond)  (h0 : Heap) (n0 : Nat) (Z0 : n0 ≤ h0.size) :
    o_MF l o_N4 oY26 1 (some (.array .byte)) ws o_R3 #[(.int 1)] Z h0 (Q_o_nbf1 Z  h0 n0) := by
  refine o_start (C := "java/lang/StringUTF16") rfl (plainFor_of_name o_pn_o_cin1) fun p e s m below meth c s1 F0 Bd hx hby hml hown hnm hZ X0 e0 hF0 => ?_
  have N0 := Fr.nil n0
  have pre0 : Goes p e below s1 F0 s1 (mkF m 0 #[oI 1] []) := fun t k => castTop (hF0.trans (by simp [entryFrame, mkF, argsToLocals, Value.category])) k
  obtain ⟨_, T1, L1, X1, hQ1, st1⟩ := o_cS (y := o_N3) (g := (mkF m 1 #[oI 1] [(.int 1)])) (as := [(.int 1)]) (rest := []) 0 X0 hx hZ hml hown (oV hw 237 rfl) (oV hw 238 rfl) (oV hw 18 rfl) (oV hw 239 rfl) (o_nbl1 l Z a0 hw []  h0 n0 Z0 ) e0 o_pd1 (hb hby D4_1)
  obtain ⟨rfl, N1q, e1⟩ := hQ1
  have N1 := Fr.app N0 N1q
  have pre2 : Goes p e below s1 F0 T1 (mkF m 4 #[oI 1] [(.int 2)]) := fun t kt => pre0 t (by
    refine o_il X0 hx hby D4_0 rfl ?_
    exact st1 t kt)
  obtain ⟨T3, h3, k3, X3, e3, E3, A3, st3⟩ := newP X1 hx hZ (oV hw 20 rfl) e1 (g := (mkF m 4 #[oI 1] [(.int 2)])) rfl (hb hby D4_4) rfl (by decide) (cap := 2) (by decide) (by decide) (by decide) (by decide)
  obtain ⟨b3, g3⟩ : ∃ z, z = h0.size := ⟨_, rfl⟩
  rw [← g3] at A3 st3
  have V_b3 : Arv Z h3 b3 k3 .byte (2 : Int32) [(.int 0), (.int 0)] (.int 0) := (Arv.new A3 (by decide)).pad (pad_rep [] (.int 0) 2)
  have g_b3 : n0 ≤ b3 := Nat.le_trans Z0 (Nat.le_of_eq g3.symm)
  have sz_b3 : h0.size ≤ b3 := (Nat.le_trans (Keep.refl h0 []).1 (Nat.le_of_eq g3.symm))
  have K3 : Keep h0 h3 [] := (Keep.refl h0 []).ext E3
  have pre4 : Goes p e below s1 F0 T3 (mkF m 6 #[oI 1] [(.ref b3)]) := fun t kt => pre2 t (st3 t kt)
  refine o_eR X3 Bd hx pre4 (hb hby D4_6) e3 ?_
  exact ⟨b3, k3, rfl, N1, K3, sz_b3, g_b3, V_b3⟩
theorem D5_0 : decode oY28 0 = .ok (.getstatic 44, 3) := by decide +kernel
theorem D5_3 : decode oY28 3 = .ok (.ifCond .ne 25, 3) := by decide +kernel
theorem D5_28 : decode oY28 28 = .ok (.iload_n 1, 1) := by decide +kernel
theorem D5_29 : decode oY28 29 = .ok (.iconst 1, 1) := by decide +kernel
theorem D5_30 : decode oY28 30 = .ok (.ishl, 1) := by decide +kernel
theorem D5_31 : decode oY28 31 = .ok (.istore_n 1, 1) := by decide +kernel
theorem D5_32 : decode oY28 32 = .ok (.aload_n 0, 1) := by decide +kernel
theorem D5_33 : decode oY28 33 = .ok (.iload_n 1, 1) := by decide +kernel
theorem D5_34 : decode oY28 34 = .ok (.iinc 1 1, 3) := by decide +kernel
theorem D5_37 : decode oY28 37 = .ok (.iload_n 2, 1) := by decide +kernel
theorem D5_38 : decode oY28 38 = .ok (.getstatic 59, 3) := by decide +kernel
theorem D5_41 : decode oY28 41 = .ok (.ishr, 1) := by decide +kernel
theorem D5_42 : decode oY28 42 = .ok (.i2b, 1) := by decide +kernel
theorem D5_43 : decode oY28 43 = .ok (.bastore, 1) := by decide +kernel
theorem D5_44 : decode oY28 44 = .ok (.aload_n 0, 1) := by decide +kernel
theorem D5_45 : decode oY28 45 = .ok (.iload_n 1, 1) := by decide +kernel
theorem D5_46 : decode oY28 46 = .ok (.iload_n 2, 1) := by decide +kernel
theorem D5_47 : decode oY28 47 = .ok (.getstatic 63, 3) := by decide +kernel
theorem D5_50 : decode oY28 50 = .ok (.ishr, 1) := by decide +kernel
theorem D5_51 : decode oY28 51 = .ok (.i2b, 1) := by decide +kernel
theorem D5_52 : decode oY28 52 = .ok (.bastore, 1) := by decide +kernel
theorem D5_53 : decode oY28 53 = .ok (.return_, 1) := by decide +kernel
def Q_o_pch (Z : State) (ab : Addr) (kb : ClassId) (zn : Int32) (us : List Value) (ip pv cs : Int32) (fm : Value) (h0 : Heap) (n0 : Nat) (v : Option Value) (h : Heap) (L : List Loc) : Prop := v = none ∧ Fr n0 L ∧ Keep h0 h [ab] ∧ Arv Z h ab kb .byte zn ((us.set (ip <<< ((1 : Int32) &&& 31)).toNatClampNeg (.int (o_B0 pv))).set ((ip <<< ((1 : Int32) &&& 31)) + (1 : Int32)).toNatClampNeg (.int (o_B1 pv))) (.int 0)
theorem o_pch (l : Launch) (Z : State) (a0 : Array Value) (hw : ∀ d ∈ tables_1, d.before a0 Z = true) (ws : List Jvm.Cond) (ab : Addr) (kb : ClassId) (zn : Int32) (us : List Value) (ip pv cs : Int32) (fm : Value) (h0 : Heap) (n0 : Nat) (Z0 : n0 ≤ h0.size) (V_ab : Arv Z h0 ab kb .byte zn us (.int 0)) (hj0 : ¬ (ip <<< ((1 : Int32) &&& 31)) < 0 ∧ (ip <<< ((1 : Int32) &&& 31)) < zn) (hl0 : (ip <<< ((1 : Int32) &&& 31)).toNatClampNeg < us.length) (hj1 : ¬ ((ip <<< ((1 : Int32) &&& 31)) + (1 : Int32)) < 0 ∧ ((ip <<< ((1 : Int32) &&& 31)) + (1 : Int32)) < zn) (hl1 : ((ip <<< ((1 : Int32) &&& 31)) + (1 : Int32)).toNatClampNeg < us.length) (g_ab : n0 ≤ ab) (hst : o_ST Z cs fm) (O0 : Old Z n0 h0) :
    o_MF l o_N5 oY28 3 none ws o_R2 #[(.ref ab), (.int ip), (.int pv)] Z h0 (Q_o_pch Z ab kb zn us ip pv cs fm h0 n0) := by
  refine o_start (C := "java/lang/StringUTF16") rfl (plainFor_of_name o_pn_o_cin1) fun p e s m below meth c s1 F0 Bd hx hby hml hown hnm hZ X0 e0 hF0 => ?_
  have N0 := Fr.nil n0
  have pre0 : Goes p e below s1 F0 s1 (mkF m 0 #[oR ab, oI ip, oI pv] []) := fun t k => castTop (hF0.trans (by simp [entryFrame, mkF, argsToLocals, Value.category])) k
  obtain ⟨T1, X1, e1, st1⟩ := getS2 X0 hx hZ hown (host := "") (Or.inl (oV hw 244 rfl)) Via.refl e0 (hst.2.2.1.ext O0.2) (g := (mkF m 0 #[oR ab, oI ip, oI pv] [])) rfl (hb hby D5_0)
  have pre2 : Goes p e below s1 F0 T1 (mkF m 3 #[oR ab, oI ip, oI pv] [(.int 1)]) := fun t kt => pre0 t (st1 t kt)
  obtain ⟨T3, X3, e3, st3⟩ := getS2 X1 hx hZ hown (host := "") (Or.inl (oV hw 245 rfl)) Via.refl e1 (hst.2.2.2.1.ext O0.2) (g := (mkF m 38 #[oR ab, .val (.int ((ip <<< ((1 : Int32) &&& 31)) + (1 : Int32))), oI pv] [(.int pv), (.int (ip <<< ((1 : Int32) &&& 31))), (.ref ab)])) rfl (hb hby D5_38)
  have pre4 : Goes p e below s1 F0 T3 (mkF m 41 #[oR ab, .val (.int ((ip <<< ((1 : Int32) &&& 31)) + (1 : Int32))), oI pv] [(.int 0), (.int pv), (.int (ip <<< ((1 : Int32) &&& 31))), (.ref ab)]) := fun t kt => pre2 t (by
    refine o_ifY 3 28 X1 hx hby D5_3 ((if0 _ _).trans (feq (by decide : ¬ ((1 : Int32) = (0 : Int32)))).2) ?_
    refine o_il X1 hx hby D5_28 rfl ?_
    refine o_ic X1 hx hby D5_29 ?_
    refine XS.ishl X1.here hx rfl (hb hby D5_30) rfl ?_
    refine XS.istoreN X1.here hx rfl (hb hby D5_31) rfl (l' := #[oR ab, oI (ip <<< ((1 : Int32) &&& 31)), oI pv]) rfl ?_
    refine o_al X1 hx hby D5_32 rfl ?_
    refine o_il X1 hx hby D5_33 rfl ?_
    refine XS.iinc X1.here hx rfl (hb hby D5_34) rfl (l' := #[oR ab, .val (.int ((ip <<< ((1 : Int32) &&& 31)) + (1 : Int32))), oI pv]) rfl ?_
    show Steps p.tables e below (T1.setTop (mkF m 37 #[oR ab, .val (.int ((ip <<< ((1 : Int32) &&& 31)) + (1 : Int32))), oI pv] [(.int (ip <<< ((1 : Int32) &&& 31))), (.ref ab)])) _
    refine o_il X1 hx hby D5_37 rfl ?_
    exact st3 t kt)
  obtain ⟨cl5, Ar5, q5, S5, N_5, H5, G5⟩ := (id (V_ab))
  have hin5 : ¬ ((ip <<< ((1 : Int32) &&& 31)) < 0 ∨ cl5.slots.size ≤ ((ip <<< ((1 : Int32) &&& 31))).toNatClampNeg) := inb_of S5 hj0
  obtain ⟨T6, h6, X6, e6, W6, st6⟩ := stB X3 hx hZ e3 Ar5 (j := (ip <<< ((1 : Int32) &&& 31))) hin5 (g := (mkF m 43 #[oR ab, .val (.int ((ip <<< ((1 : Int32) &&& 31)) + (1 : Int32))), oI pv] [(.int ((pv >>> ((0 : Int32) &&& 31)).toInt8.toInt32)), (.int (ip <<< ((1 : Int32) &&& 31))), (.ref ab)])) rfl rfl (hb hby D5_43)
  have V6 : Arv Z h6 ab kb .byte zn (us.set (ip <<< ((1 : Int32) &&& 31)).toNatClampNeg (.int (o_B0 pv))) (.int 0) := Arv.set Ar5 q5 S5 N_5 H5 G5 (fits_nar_byte _) W6 (ip <<< ((1 : Int32) &&& 31)).toNatClampNeg rfl hl0
  have K6 : Keep h0 h6 [ab] := (Keep.refl h0 [ab]).wr W6 (Or.inl (o_mG (i := 0) rfl))
  have N6 := Fr.snoc X6 N0 g_ab
  have pre7 : Goes p e below s1 F0 T6 (mkF m 44 #[oR ab, .val (.int ((ip <<< ((1 : Int32) &&& 31)) + (1 : Int32))), oI pv] []) := fun t kt => pre4 t (by
    refine XS.ishr X3.here hx rfl (hb hby D5_41) rfl ?_
    refine XS.i2b X3.here hx rfl (hb hby D5_42) rfl ?_
    exact st6 t kt)
  obtain ⟨T8, X8, e8, st8⟩ := getS2 X6 hx hZ hown (host := "") (Or.inl (oV hw 246 rfl)) Via.refl e6 (hst.2.2.2.2.1.ext (O0.wr W6 g_ab).2) (g := (mkF m 47 #[oR ab, .val (.int ((ip <<< ((1 : Int32) &&& 31)) + (1 : Int32))), oI pv] [(.int pv), (.int ((ip <<< ((1 : Int32) &&& 31)) + (1 : Int32))), (.ref ab)])) rfl (hb hby D5_47)
  have pre9 : Goes p e below s1 F0 T8 (mkF m 50 #[oR ab, .val (.int ((ip <<< ((1 : Int32) &&& 31)) + (1 : Int32))), oI pv] [(.int 8), (.int pv), (.int ((ip <<< ((1 : Int32) &&& 31)) + (1 : Int32))), (.ref ab)]) := fun t kt => pre7 t (by
    refine o_al X6 hx hby D5_44 rfl ?_
    refine o_il X6 hx hby D5_45 rfl ?_
    refine o_il X6 hx hby D5_46 rfl ?_
    exact st8 t kt)
  obtain ⟨cl10, Ar10, q10, S10, N_10, H10, G10⟩ := (id (V6))
  have hin10 : ¬ (((ip <<< ((1 : Int32) &&& 31)) + (1 : Int32)) < 0 ∨ cl10.slots.size ≤ (((ip <<< ((1 : Int32) &&& 31)) + (1 : Int32))).toNatClampNeg) := inb_of S10 hj1
  obtain ⟨T11, h11, X11, e11, W11, st11⟩ := stB X8 hx hZ e8 Ar10 (j := ((ip <<< ((1 : Int32) &&& 31)) + (1 : Int32))) hin10 (g := (mkF m 52 #[oR ab, .val (.int ((ip <<< ((1 : Int32) &&& 31)) + (1 : Int32))), oI pv] [(.int ((pv >>> ((8 : Int32) &&& 31)).toInt8.toInt32)), (.int ((ip <<< ((1 : Int32) &&& 31)) + (1 : Int32))), (.ref ab)])) rfl rfl (hb hby D5_52)
  have V11 : Arv Z h11 ab kb .byte zn ((us.set (ip <<< ((1 : Int32) &&& 31)).toNatClampNeg (.int (o_B0 pv))).set ((ip <<< ((1 : Int32) &&& 31)) + (1 : Int32)).toNatClampNeg (.int (o_B1 pv))) (.int 0) := Arv.set Ar10 q10 S10 N_10 H10 G10 (fits_nar_byte _) W11 ((ip <<< ((1 : Int32) &&& 31)) + (1 : Int32)).toNatClampNeg rfl (by rw [List.length_set]; exact hl1)
  have K11 : Keep h0 h11 [ab] := K6.wr W11 (Or.inl (o_mG (i := 0) rfl))
  have N11 := Fr.snoc X11 N6 g_ab
  have pre12 : Goes p e below s1 F0 T11 (mkF m 53 #[oR ab, .val (.int ((ip <<< ((1 : Int32) &&& 31)) + (1 : Int32))), oI pv] []) := fun t kt => pre9 t (by
    refine XS.ishr X8.here hx rfl (hb hby D5_50) rfl ?_
    refine XS.i2b X8.here hx rfl (hb hby D5_51) rfl ?_
    exact st11 t kt)
  refine o_eV X11 Bd hx pre12 (hb hby D5_53) e11 ?_
  exact ⟨rfl, N11, K11, V11⟩
theorem D6_0 : decode oY22 0 = .ok (.iload_n 2, 1) := by decide +kernel
theorem D6_1 : decode oY22 1 = .ok (.invokestatic 107, 3) := by decide +kernel
theorem D6_4 : decode oY22 4 = .ok (.astore_n 3, 1) := by decide +kernel
theorem D6_5 : decode oY22 5 = .ok (.iconst 0, 1) := by decide +kernel
theorem D6_6 : decode oY22 6 = .ok (.istore 4, 2) := by decide +kernel
theorem D6_8 : decode oY22 8 = .ok (.iload 4, 2) := by decide +kernel
theorem D6_10 : decode oY22 10 = .ok (.iload_n 2, 1) := by decide +kernel
theorem D6_11 : decode oY22 11 = .ok (.if_icmp .ge 21, 3) := by decide +kernel
theorem D6_14 : decode oY22 14 = .ok (.aload_n 3, 1) := by decide +kernel
theorem D6_15 : decode oY22 15 = .ok (.iload 4, 2) := by decide +kernel
theorem D6_17 : decode oY22 17 = .ok (.aload_n 0, 1) := by decide +kernel
theorem D6_18 : decode oY22 18 = .ok (.iload_n 1, 1) := by decide +kernel
theorem D6_19 : decode oY22 19 = .ok (.caload, 1) := by decide +kernel
theorem D6_20 : decode oY22 20 = .ok (.invokestatic 111, 3) := by decide +kernel
theorem D6_23 : decode oY22 23 = .ok (.iinc 1 1, 3) := by decide +kernel
theorem D6_26 : decode oY22 26 = .ok (.iinc 4 1, 3) := by decide +kernel
theorem D6_29 : decode oY22 29 = .ok (.goto (-21), 3) := by decide +kernel
theorem D6_32 : decode oY22 32 = .ok (.aload_n 3, 1) := by decide +kernel
theorem D6_33 : decode oY22 33 = .ok (.areturn, 1) := by decide +kernel
def Q_o_tob1 (Z : State) (ac : Addr) (kc : ClassId) (v0 cs : Int32) (fm : Value) (h0 : Heap) (n0 : Nat) (v : Option Value) (h : Heap) (L : List Loc) : Prop := ∃ (y : Addr) (ky : ClassId), v = some (.ref y) ∧ Fr n0 L ∧ Keep h0 h [] ∧ h0.size ≤ y ∧ n0 ≤ y ∧ Arv Z h y ky .byte (2 : Int32) [(.int (o_B0 v0)), (.int (o_B1 v0))] (.int 0)
theorem o_tob1 (l : Launch) (Z : State) (a0 : Array Value) (hw : ∀ d ∈ tables_1, d.before a0 Z = true) (ws : List Jvm.Cond) (ac : Addr) (kc : ClassId) (v0 cs : Int32) (fm : Value) (h0 : Heap) (n0 : Nat) (Z0 : n0 ≤ h0.size) (V_ac : Arv Z h0 ac kc .char (1 : Int32) [(.int v0)] (.int 0)) (hst : o_ST Z cs fm) (O0 : Old Z n0 h0) :
    o_MF l o_N6 oY22 5 (some (.array .byte)) ws o_R4 #[(.ref ac), (.int 0), (.int 1)] Z h0 (Q_o_tob1 Z ac kc v0 cs fm h0 n0) := by
  refine o_start (C := "java/lang/StringUTF16") rfl (plainFor_of_name o_pn_o_cin1) fun p e s m below meth c s1 F0 Bd hx hby hml hown hnm hZ X0 e0 hF0 => ?_
  have N0 := Fr.nil n0
  have pre0 : Goes p e below s1 F0 s1 (mkF m 0 #[oR ac, oI 0, oI 1, oU, oU] []) := fun t k => castTop (hF0.trans (by simp [entryFrame, mkF, argsToLocals, Value.category])) k
  obtain ⟨_, T1, L1, X1, hQ1, st1⟩ := o_cS (y := o_N4) (g := (mkF m 1 #[oR ac, oI 0, oI 1, oU, oU] [(.int 1)])) (as := [(.int 1)]) (rest := []) 0 X0 hx hZ hml hown (oV hw 234 rfl) (oV hw 235 rfl) (oV hw 18 rfl) (oV hw 236 rfl) (o_nbf1 l Z a0 hw []  h0 n0 Z0 ) e0 o_pd2 (hb hby D6_1)
  obtain ⟨yy1, ky1, rfl, N1q, K1q, zy1, gy1, Vy1⟩ := hQ1
  have N1 := Fr.app N0 N1q
  have KC1 : Keep h0 T1.heap [] := (Keep.refl h0 []).trans K1q all0
  have pre2 : Goes p e below s1 F0 T1 (mkF m 4 #[oR ac, oI 0, oI 1, oU, oU] [(.ref yy1)]) := fun t kt => pre0 t (by
    refine o_il X0 hx hby D6_0 rfl ?_
    exact st1 t kt)
  have sz_yy1 := zy1
  have g_yy1 := gy1
  obtain ⟨cl3, Ar3, q3, S3, N_3, H3, G3⟩ := (id ((V_ac.keep K1q nin0)))
  have hin3 : ¬ ((0 : Int32) < 0 ∨ cl3.slots.size ≤ ((0 : Int32)).toNatClampNeg) := inb_of S3 ⟨by decide, by decide⟩
  have hat3 : cl3.slots[((0 : Int32)).toNatClampNeg]? = some (.int v0) := Has.at H3 hin3 rfl
  obtain ⟨_, T4, L4, X4, hQ4, st4⟩ := o_cS (y := o_N5) (g := (mkF m 20 #[oR ac, oI 0, oI 1, oR yy1, oI 0] [(.int v0), (.int 0), (.ref yy1)])) (as := [(.ref yy1), (.int 0), (.int v0)]) (rest := []) 0 X1 hx hZ hml hown (oV hw 241 rfl) (oV hw 242 rfl) (oV hw 18 rfl) (oV hw 243 rfl) (o_pch l Z a0 hw [] yy1 ky1 (2 : Int32) [(.int 0), (.int 0)] (0 : Int32) v0 cs fm T1.heap n0 (Nat.le_trans Z0 KC1.1) Vy1 (by decide) (by show _ < 2; decide) (by decide) (by show _ < 2; decide) g_yy1 hst (O0.keep K1q all0)) rfl o_pd3 (hb hby D6_20)
  obtain ⟨rfl, N4q, K4q, Vz4⟩ := hQ4
  have N4 := Fr.app N1 N4q
  have KC4 : Keep h0 T4.heap [] := KC1.trans K4q (allS (Or.inr sz_yy1) all0)
  have pre5 : Goes p e below s1 F0 T4 (mkF m 23 #[oR ac, oI 0, oI 1, oR yy1, oI 0] []) := fun t kt => pre2 t (by
    refine XS.astoreN X1.here hx rfl (hb hby D6_4) rfl rfl (l' := #[oR ac, oI 0, oI 1, oR yy1, oU]) rfl ?_
    refine o_ic X1 hx hby D6_5 ?_
    refine XS.istore X1.here hx rfl (hb hby D6_6) rfl (l' := #[oR ac, oI 0, oI 1, oR yy1, oI 0]) rfl ?_
    refine o_iL X1 hx hby D6_8 rfl ?_
    refine o_il X1 hx hby D6_10 rfl ?_
    refine o_icN X1 hx hby D6_11 (tlt (by decide : (0 : Int32) < (1 : Int32))).2.1 ?_
    refine o_al X1 hx hby D6_14 rfl ?_
    refine o_iL X1 hx hby D6_15 rfl ?_
    show Steps p.tables e below (T1.setTop (mkF m 17 #[oR ac, oI 0, oI 1, oR yy1, oI 0] [(.int 0), (.ref yy1)])) _
    refine o_al X1 hx hby D6_17 rfl ?_
    refine o_il X1 hx hby D6_18 rfl ?_
    refine X1.caload hx (j := (0 : Int32)) (v := (.int v0)) (by (try rw [rfl]); exact Ar3.1) (State.isArrayOf_alike hZ.alike Ar3.2.1) Ar3.2.2 hin3 hat3 (g := (mkF m 19 #[oR ac, oI 0, oI 1, oR yy1, oI 0] [(.int 0), (.ref ac), (.int 0), (.ref yy1)])) rfl rfl (hb hby D6_19) _ ?_
    exact st4 t kt)
  have Vw4 : Arv Z T4.heap yy1 ky1 .byte (2 : Int32) [(.int (o_B0 v0)), (.int (o_B1 v0))] (.int 0) := Vz4
  have pre6 : Goes p e below s1 F0 T4 (mkF m 33 #[oR ac, oI 1, oI 1, oR yy1, oI 1] [(.ref yy1)]) := fun t kt => pre5 t (by
    refine XS.iinc X4.here hx rfl (hb hby D6_23) rfl (l' := #[oR ac, oI 1, oI 1, oR yy1, oI 0]) rfl ?_
    refine XS.iinc X4.here hx rfl (hb hby D6_26) rfl (l' := #[oR ac, oI 1, oI 1, oR yy1, oI 1]) rfl ?_
    refine o_gt 29 8 X4 hx hby D6_29 ?_
    refine o_iL X4 hx hby D6_8 rfl ?_
    refine o_il X4 hx hby D6_10 rfl ?_
    refine o_icY 11 32 X4 hx hby D6_11 (flt (by decide : ¬ ((1 : Int32) < (1 : Int32)))).2.1 ?_
    refine o_al X4 hx hby D6_32 rfl ?_
    exact kt)
  refine o_eR X4 Bd hx pre6 (hb hby D6_33) rfl ?_
  exact ⟨yy1, ky1, rfl, N4, KC4, sz_yy1, g_yy1, Vw4⟩
theorem D7_0 : decode oY29 0 = .ok (.getstatic 44, 3) := by decide +kernel
theorem D7_3 : decode oY29 3 = .ok (.ifCond .ne 25, 3) := by decide +kernel
theorem D7_28 : decode oY29 28 = .ok (.iload_n 1, 1) := by decide +kernel
theorem D7_29 : decode oY29 29 = .ok (.iconst 1, 1) := by decide +kernel
theorem D7_30 : decode oY29 30 = .ok (.ishl, 1) := by decide +kernel
theorem D7_31 : decode oY29 31 = .ok (.istore_n 1, 1) := by decide +kernel
theorem D7_32 : decode oY29 32 = .ok (.aload_n 0, 1) := by decide +kernel
theorem D7_33 : decode oY29 33 = .ok (.iload_n 1, 1) := by decide +kernel
theorem D7_34 : decode oY29 34 = .ok (.iinc 1 1, 3) := by decide +kernel
theorem D7_37 : decode oY29 37 = .ok (.baload, 1) := by decide +kernel
theorem D7_38 : decode oY29 38 = .ok (.sipush 255, 3) := by decide +kernel
theorem D7_41 : decode oY29 41 = .ok (.iand, 1) := by decide +kernel
theorem D7_42 : decode oY29 42 = .ok (.getstatic 59, 3) := by decide +kernel
theorem D7_45 : decode oY29 45 = .ok (.ishl, 1) := by decide +kernel
theorem D7_46 : decode oY29 46 = .ok (.aload_n 0, 1) := by decide +kernel
theorem D7_47 : decode oY29 47 = .ok (.iload_n 1, 1) := by decide +kernel
theorem D7_48 : decode oY29 48 = .ok (.baload, 1) := by decide +kernel
theorem D7_49 : decode oY29 49 = .ok (.sipush 255, 3) := by decide +kernel
theorem D7_52 : decode oY29 52 = .ok (.iand, 1) := by decide +kernel
theorem D7_53 : decode oY29 53 = .ok (.getstatic 63, 3) := by decide +kernel
theorem D7_56 : decode oY29 56 = .ok (.ishl, 1) := by decide +kernel
theorem D7_57 : decode oY29 57 = .ok (.ior, 1) := by decide +kernel
theorem D7_58 : decode oY29 58 = .ok (.i2c, 1) := by decide +kernel
theorem D7_59 : decode oY29 59 = .ok (.ireturn, 1) := by decide +kernel
def Q_o_gch (Z : State) (ab : Addr) (ip pu : Int32) (pw cs : Int32) (fm : Value) (h0 : Heap) (n0 : Nat) (v : Option Value) (h : Heap) (L : List Loc) : Prop := v = some (.int (nar .char (o_GC pu pw))) ∧ Fr n0 L ∧ h = h0
theorem o_gch (l : Launch) (Z : State) (a0 : Array Value) (hw : ∀ d ∈ tables_1, d.before a0 Z = true) (ws : List Jvm.Cond) (ab : Addr) (ip pu : Int32) (pw cs : Int32) (fm : Value) (h0 : Heap) (n0 : Nat) (Z0 : n0 ≤ h0.size) (A0 : o_At Z h0 ab (ip <<< ((1 : Int32) &&& 31)) pu) (A1 : o_At Z h0 ab ((ip <<< ((1 : Int32) &&& 31)) + (1 : Int32)) pw) (hst : o_ST Z cs fm) (O0 : Old Z n0 h0) :
    o_MF l o_N7 oY29 2 (some .char) ws o_R2 #[(.ref ab), (.int ip)] Z h0 (Q_o_gch Z ab ip pu pw cs fm h0 n0) := by
  refine o_start (C := "java/lang/StringUTF16") rfl (plainFor_of_name o_pn_o_cin1) fun p e s m below meth c s1 F0 Bd hx hby hml hown hnm hZ X0 e0 hF0 => ?_
  have N0 := Fr.nil n0
  have pre0 : Goes p e below s1 F0 s1 (mkF m 0 #[oR ab, oI ip] []) := fun t k => castTop (hF0.trans (by simp [entryFrame, mkF, argsToLocals, Value.category])) k
  obtain ⟨T1, X1, e1, st1⟩ := getS2 X0 hx hZ hown (host := "") (Or.inl (oV hw 244 rfl)) Via.refl e0 (hst.2.2.1.ext O0.2) (g := (mkF m 0 #[oR ab, oI ip] [])) rfl (hb hby D7_0)
  have pre2 : Goes p e below s1 F0 T1 (mkF m 3 #[oR ab, oI ip] [(.int 1)]) := fun t kt => pre0 t (st1 t kt)
  obtain ⟨cl3, Ar3, hin3, hat3⟩ := (id (A0))
  obtain ⟨T4, X4, e4, st4⟩ := getS2 X1 hx hZ hown (host := "") (Or.inl (oV hw 245 rfl)) Via.refl e1 (hst.2.2.2.1.ext O0.2) (g := (mkF m 42 #[oR ab, .val (.int ((ip <<< ((1 : Int32) &&& 31)) + (1 : Int32)))] [(.int (pu &&& (255 : Int32)))])) rfl (hb hby D7_42)
  have pre5 : Goes p e below s1 F0 T4 (mkF m 45 #[oR ab, .val (.int ((ip <<< ((1 : Int32) &&& 31)) + (1 : Int32)))] [(.int 0), (.int (pu &&& (255 : Int32)))]) := fun t kt => pre2 t (by
    refine o_ifY 3 28 X1 hx hby D7_3 ((if0 _ _).trans (feq (by decide : ¬ ((1 : Int32) = (0 : Int32)))).2) ?_
    refine o_il X1 hx hby D7_28 rfl ?_
    refine o_ic X1 hx hby D7_29 ?_
    refine XS.ishl X1.here hx rfl (hb hby D7_30) rfl ?_
    refine XS.istoreN X1.here hx rfl (hb hby D7_31) rfl (l' := #[oR ab, oI (ip <<< ((1 : Int32) &&& 31))]) rfl ?_
    refine o_al X1 hx hby D7_32 rfl ?_
    refine o_il X1 hx hby D7_33 rfl ?_
    refine XS.iinc X1.here hx rfl (hb hby D7_34) rfl (l' := #[oR ab, .val (.int ((ip <<< ((1 : Int32) &&& 31)) + (1 : Int32)))]) rfl ?_
    show Steps p.tables e below (T1.setTop (mkF m 37 #[oR ab, .val (.int ((ip <<< ((1 : Int32) &&& 31)) + (1 : Int32)))] [(.int (ip <<< ((1 : Int32) &&& 31))), (.ref ab)])) _
    refine X1.baloadBytes hx (j := (ip <<< ((1 : Int32) &&& 31))) (v := (.int pu)) (by (try rw [e1]); exact Ar3.1) (State.isArrayOf_alike hZ.alike Ar3.2.1) Ar3.2.2 hin3 hat3 (g := (mkF m 37 #[oR ab, .val (.int ((ip <<< ((1 : Int32) &&& 31)) + (1 : Int32)))] [(.int (ip <<< ((1 : Int32) &&& 31))), (.ref ab)])) rfl rfl (hb hby D7_37) _ ?_
    refine XS.sipush X1.here hx rfl (hb hby D7_38) ?_
    refine XS.iand X1.here hx rfl (hb hby D7_41) rfl ?_
    exact st4 t kt)
  obtain ⟨cl6, Ar6, hin6, hat6⟩ := (id (A1))
  obtain ⟨T7, X7, e7, st7⟩ := getS2 X4 hx hZ hown (host := "") (Or.inl (oV hw 246 rfl)) Via.refl e4 (hst.2.2.2.2.1.ext O0.2) (g := (mkF m 53 #[oR ab, .val (.int ((ip <<< ((1 : Int32) &&& 31)) + (1 : Int32)))] [(.int (pw &&& (255 : Int32))), (.int ((pu &&& (255 : Int32)) <<< ((0 : Int32) &&& 31)))])) rfl (hb hby D7_53)
  have pre8 : Goes p e below s1 F0 T7 (mkF m 56 #[oR ab, .val (.int ((ip <<< ((1 : Int32) &&& 31)) + (1 : Int32)))] [(.int 8), (.int (pw &&& (255 : Int32))), (.int ((pu &&& (255 : Int32)) <<< ((0 : Int32) &&& 31)))]) := fun t kt => pre5 t (by
    refine XS.ishl X4.here hx rfl (hb hby D7_45) rfl ?_
    refine o_al X4 hx hby D7_46 rfl ?_
    refine o_il X4 hx hby D7_47 rfl ?_
    refine X4.baloadBytes hx (j := ((ip <<< ((1 : Int32) &&& 31)) + (1 : Int32))) (v := (.int pw)) (by (try rw [e4]); exact Ar6.1) (State.isArrayOf_alike hZ.alike Ar6.2.1) Ar6.2.2 hin6 hat6 (g := (mkF m 48 #[oR ab, .val (.int ((ip <<< ((1 : Int32) &&& 31)) + (1 : Int32)))] [(.int ((ip <<< ((1 : Int32) &&& 31)) + (1 : Int32))), (.ref ab), (.int ((pu &&& (255 : Int32)) <<< ((0 : Int32) &&& 31)))])) rfl rfl (hb hby D7_48) _ ?_
    refine XS.sipush X4.here hx rfl (hb hby D7_49) ?_
    refine XS.iand X4.here hx rfl (hb hby D7_52) rfl ?_
    exact st7 t kt)
  have pre9 : Goes p e below s1 F0 T7 (mkF m 59 #[oR ab, .val (.int ((ip <<< ((1 : Int32) &&& 31)) + (1 : Int32)))] [(.int ((((pu &&& (255 : Int32)) <<< ((0 : Int32) &&& 31)) ||| ((pw &&& (255 : Int32)) <<< ((8 : Int32) &&& 31))).toUInt32.toUInt16.toUInt32.toInt32))]) := fun t kt => pre8 t (by
    refine XS.ishl X7.here hx rfl (hb hby D7_56) rfl ?_
    refine XS.ior X7.here hx rfl (hb hby D7_57) rfl ?_
    refine XS.i2c X7.here hx rfl (hb hby D7_58) rfl ?_
    exact kt)
  refine o_eN X7 Bd hx pre9 (hb hby D7_59) e7 ?_
  exact ⟨rfl, N0, rfl⟩
theorem D8_0 : decode oY24 0 = .ok (.iload_n 2, 1) := by decide +kernel
theorem D8_1 : decode oY24 1 = .ok (.newarray .byte, 2) := by decide +kernel
theorem D8_3 : decode oY24 3 = .ok (.astore_n 3, 1) := by decide +kernel
theorem D8_4 : decode oY24 4 = .ok (.aload_n 0, 1) := by decide +kernel
theorem D8_5 : decode oY24 5 = .ok (.iload_n 1, 1) := by decide +kernel
theorem D8_6 : decode oY24 6 = .ok (.aload_n 3, 1) := by decide +kernel
theorem D8_7 : decode oY24 7 = .ok (.iconst 0, 1) := by decide +kernel
theorem D8_8 : decode oY24 8 = .ok (.iload_n 2, 1) := by decide +kernel
theorem D8_9 : decode oY24 9 = .ok (.invokestatic 115, 3) := by decide +kernel
theorem D8_12 : decode oY24 12 = .ok (.istore 4, 2) := by decide +kernel
theorem D8_14 : decode oY24 14 = .ok (.iload 4, 2) := by decide +kernel
theorem D8_16 : decode oY24 16 = .ok (.iload_n 2, 1) := by decide +kernel
theorem D8_17 : decode oY24 17 = .ok (.if_icmp .eq 40, 3) := by decide +kernel
theorem D8_20 : decode oY24 20 = .ok (.aload_n 0, 1) := by decide +kernel
theorem D8_21 : decode oY24 21 = .ok (.iload_n 1, 1) := by decide +kernel
theorem D8_22 : decode oY24 22 = .ok (.iload_n 2, 1) := by decide +kernel
theorem D8_23 : decode oY24 23 = .ok (.invokestatic 119, 3) := by decide +kernel
theorem D8_26 : decode oY24 26 = .ok (.astore 5, 2) := by decide +kernel
theorem D8_28 : decode oY24 28 = .ok (.aload 5, 2) := by decide +kernel
theorem D8_30 : decode oY24 30 = .ok (.iload 4, 2) := by decide +kernel
theorem D8_32 : decode oY24 32 = .ok (.invokestatic 71, 3) := by decide +kernel
theorem D8_35 : decode oY24 35 = .ok (.sipush 255, 3) := by decide +kernel
theorem D8_38 : decode oY24 38 = .ok (.if_icmp .gt 16, 3) := by decide +kernel
theorem D8_54 : decode oY24 54 = .ok (.aload 5, 2) := by decide +kernel
theorem D8_56 : decode oY24 56 = .ok (.areturn, 1) := by decide +kernel
theorem D8_57 : decode oY24 57 = .ok (.aload_n 3, 1) := by decide +kernel
theorem D8_58 : decode oY24 58 = .ok (.areturn, 1) := by decide +kernel
def Q_o_cou1 (Z : State) (ac : Addr) (kc : ClassId) (v0 cs : Int32) (fm : Value) (h0 : Heap) (n0 : Nat) (v : Option Value) (h : Heap) (L : List Loc) : Prop := ∃ (y : Addr) (ky : ClassId) (cd : Int32), v = some (.ref y) ∧ Fr n0 L ∧ Keep h0 h [] ∧ h0.size ≤ y ∧ n0 ≤ y ∧ o_SD Z h y ky cd (1 : Int32) (2 : Int32) [(.int (o_by v0))] [(.int (o_B0 v0)), (.int (o_B1 v0))] (¬ ((255 : Int32) < v0))
theorem o_cou1 (l : Launch) (Z : State) (a0 : Array Value) (hw : ∀ d ∈ tables_1, d.before a0 Z = true) (ws : List Jvm.Cond) (ac : Addr) (kc : ClassId) (v0 cs : Int32) (fm : Value) (h0 : Heap) (n0 : Nat) (Z0 : n0 ≤ h0.size) (V_ac : Arv Z h0 ac kc .char (1 : Int32) [(.int v0)] (.int 0)) (hl0 : (0 ≤ v0.toInt ∧ v0.toInt < 65536)) (hst : o_ST Z cs fm) (O0 : Old Z n0 h0) :
    o_MF l o_N8 oY24 6 (some (.array .byte)) ws o_R5 #[(.ref ac), (.int 0), (.int 1)] Z h0 (Q_o_cou1 Z ac kc v0 cs fm h0 n0) := by
  refine o_start (C := "java/lang/StringUTF16") rfl (plainFor_of_name o_pn_o_cin1) fun p e s m below meth c s1 F0 Bd hx hby hml hown hnm hZ X0 e0 hF0 => ?_
  have N0 := Fr.nil n0
  have pre0 : Goes p e below s1 F0 s1 (mkF m 0 #[oR ac, oI 0, oI 1, oU, oU, oU] []) := fun t k => castTop (hF0.trans (by simp [entryFrame, mkF, argsToLocals, Value.category])) k
  obtain ⟨T1, h1, k1, X1, e1, E1, A1, st1⟩ := newP X0 hx hZ (oV hw 20 rfl) e0 (g := (mkF m 1 #[oR ac, oI 0, oI 1, oU, oU, oU] [(.int 1)])) rfl (hb hby D8_1) rfl (by decide) (cap := 1) (by decide) (by decide) (by decide) (by decide)
  obtain ⟨b1, g1⟩ : ∃ z, z = h0.size := ⟨_, rfl⟩
  rw [← g1] at A1 st1
  have V_b1 : Arv Z h1 b1 k1 .byte (1 : Int32) [(.int 0)] (.int 0) := (Arv.new A1 (by decide)).pad (pad_rep [] (.int 0) 1)
  have g_b1 : n0 ≤ b1 := Nat.le_trans Z0 (Nat.le_of_eq g1.symm)
  have sz_b1 : h0.size ≤ b1 := (Nat.le_trans (Keep.refl h0 []).1 (Nat.le_of_eq g1.symm))
  have K1 : Keep h0 h1 [] := (Keep.refl h0 []).ext E1
  have pre2 : Goes p e below s1 F0 T1 (mkF m 3 #[oR ac, oI 0, oI 1, oU, oU, oU] [(.ref b1)]) := fun t kt => pre0 t (by
    refine o_il X0 hx hby D8_0 rfl ?_
    exact st1 t kt)
  obtain ⟨_, T3, L3, X3, hQ3, st3⟩ := o_cS (y := o_N2) (g := (mkF m 9 #[oR ac, oI 0, oI 1, oR b1, oU, oU] [(.int 1), (.int 0), (.ref b1), (.int 0), (.ref ac)])) (as := [(.ref ac), (.int 0), (.ref b1), (.int 0), (.int 1)]) (rest := []) 0 X1 hx hZ hml hown (oV hw 21 rfl) (oV hw 22 rfl) (oV hw 18 rfl) (oV hw 23 rfl) (o_cin1 l Z a0 hw [] ac b1 kc k1 v0 h1 n0 (Nat.le_trans Z0 K1.1) (V_ac.ext E1) V_b1 g_b1 (Nat.ne_of_lt (Nat.lt_of_lt_of_le V_ac.lt (Nat.le_of_eq g1.symm)))) e1 o_pd4 (hb hby D8_9)
  obtain ⟨zr3, rfl, N3q, K3q, Dz3⟩ := hQ3
  have N3 := Fr.app N0 N3q
  have KC3 : Keep h0 T3.heap [] := K1.trans K3q (allS (Or.inr sz_b1) all0)
  have pre4 : Goes p e below s1 F0 T3 (mkF m 12 #[oR ac, oI 0, oI 1, oR b1, oU, oU] [(.int zr3)]) := fun t kt => pre2 t (by
    refine XS.astoreN X1.here hx rfl (hb hby D8_3) rfl rfl (l' := #[oR ac, oI 0, oI 1, oR b1, oU, oU]) rfl ?_
    refine o_al X1 hx hby D8_4 rfl ?_
    refine o_il X1 hx hby D8_5 rfl ?_
    refine o_al X1 hx hby D8_6 rfl ?_
    refine o_ic X1 hx hby D8_7 ?_
    refine o_il X1 hx hby D8_8 rfl ?_
    exact st3 t kt)
  rcases Dz3 with ⟨rfl, hp, Vb3⟩ | Dz
  · -- full
    have pre5 : Goes p e below s1 F0 T3 (mkF m 58 #[oR ac, oI 0, oI 1, oR b1, oI 1, oU] [(.ref b1)]) := fun t kt => pre4 t (by
      refine XS.istore X3.here hx rfl (hb hby D8_12) rfl (l' := #[oR ac, oI 0, oI 1, oR b1, oI 1, oU]) rfl ?_
      refine o_iL X3 hx hby D8_14 rfl ?_
      refine o_il X3 hx hby D8_16 rfl ?_
      refine o_icY 17 57 X3 hx hby D8_17 (teq (by decide : (1 : Int32) = (1 : Int32))).1 ?_
      refine o_al X3 hx hby D8_57 rfl ?_
      exact kt)
    refine o_eR X3 Bd hx pre5 (hb hby D8_58) rfl ?_
    exact ⟨b1, k1, (0 : Int32), rfl, N3, KC3, sz_b1, g_b1, Or.inl ⟨rfl, hp, Vb3⟩⟩
  · -- not
    have hne : ¬ (zr3 = (1 : Int32)) := by rcases Dz with ⟨rfl, hq⟩ <;> decide
    obtain ⟨_, T6, L6, X6, hQ6, st6⟩ := o_cS (y := o_N6) (g := (mkF m 23 #[oR ac, oI 0, oI 1, oR b1, oI zr3, oU] [(.int 1), (.int 0), (.ref ac)])) (as := [(.ref ac), (.int 0), (.int 1)]) (rest := []) 0 X3 hx hZ hml hown (oV hw 231 rfl) (oV hw 232 rfl) (oV hw 18 rfl) (oV hw 233 rfl) (o_tob1 l Z a0 hw [] ac kc v0 cs fm T3.heap n0 (Nat.le_trans Z0 KC3.1) ((V_ac.ext E1).keep K3q (ninS (Nat.ne_of_lt (Nat.lt_of_lt_of_le V_ac.lt (Nat.le_of_eq g1.symm))) nin0)) hst ((O0.ext E1).keep K3q (allS g_b1 all0))) rfl o_pd5 (hb hby D8_23)
    obtain ⟨yy6, ky6, rfl, N6q, K6q, zy6, gy6, Vy6⟩ := hQ6
    have N6 := Fr.app N3 N6q
    have KC6 : Keep h0 T6.heap [] := KC3.trans K6q all0
    have pre7 : Goes p e below s1 F0 T6 (mkF m 26 #[oR ac, oI 0, oI 1, oR b1, oI zr3, oU] [(.ref yy6)]) := fun t kt => pre4 t (by
      refine XS.istore X3.here hx rfl (hb hby D8_12) rfl (l' := #[oR ac, oI 0, oI 1, oR b1, oI zr3, oU]) rfl ?_
      refine o_iL X3 hx hby D8_14 rfl ?_
      refine o_il X3 hx hby D8_16 rfl ?_
      refine o_icN X3 hx hby D8_17 (feq hne).1 ?_
      refine o_al X3 hx hby D8_20 rfl ?_
      refine o_il X3 hx hby D8_21 rfl ?_
      refine o_il X3 hx hby D8_22 rfl ?_
      exact st6 t kt)
    have sz_yy6 : h0.size ≤ yy6 := Nat.le_trans KC3.1 zy6
    have g_yy6 := gy6
    have pre8 : Goes p e below s1 F0 T6 (mkF m 32 #[oR ac, oI 0, oI 1, oR b1, oI zr3, oR yy6] [(.int zr3), (.ref yy6)]) := fun t kt => pre7 t (by
      refine XS.astore X6.here hx rfl (hb hby D8_26) rfl rfl (l' := #[oR ac, oI 0, oI 1, oR b1, oI zr3, oR yy6]) rfl ?_
      refine o_aL X6 hx hby D8_28 rfl ?_
      refine o_iL X6 hx hby D8_30 rfl ?_
      exact kt)
    obtain ⟨pu, pw, hA0, hA1, hG⟩ : ∃ pu pw : Int32, o_At Z T6.heap yy6 (zr3 <<< ((1 : Int32) &&& 31)) pu ∧ o_At Z T6.heap yy6 ((zr3 <<< ((1 : Int32) &&& 31)) + (1 : Int32)) pw ∧ (255 : Int32) < (nar .char (o_GC pu pw)) := by
      rcases Dz with ⟨rfl, hq⟩
      · exact ⟨(o_B0 v0), (o_B1 v0), o_At.of Vy6 (by decide) rfl, o_At.of Vy6 (by decide) rfl, by rw [o_gc v0 hl0]; exact hq⟩
    obtain ⟨_, T9, L9, X9, hQ9, st9⟩ := o_cS (y := o_N7) (g := (mkF m 32 #[oR ac, oI 0, oI 1, oR b1, oI zr3, oR yy6] [(.int zr3), (.ref yy6)])) (as := [(.ref yy6), (.int zr3)]) (rest := []) 0 X6 hx hZ hml hown (oV hw 247 rfl) (oV hw 248 rfl) (oV hw 18 rfl) (oV hw 249 rfl) (o_gch l Z a0 hw [] yy6 zr3 pu pw cs fm T6.heap n0 (Nat.le_trans Z0 KC6.1) hA0 hA1 hst (((O0.ext E1).keep K3q (allS g_b1 all0)).keep K6q all0)) rfl o_pd6 (hb hby D8_32)
    obtain ⟨rfl, N9q, e9⟩ := hQ9
    have N9 := Fr.app N6 N9q
    have pre10 : Goes p e below s1 F0 T9 (mkF m 35 #[oR ac, oI 0, oI 1, oR b1, oI zr3, oR yy6] [(.int (nar .char (o_GC pu pw)))]) := fun t kt => pre8 t (st9 t kt)
    have pre11 : Goes p e below s1 F0 T9 (mkF m 56 #[oR ac, oI 0, oI 1, oR b1, oI zr3, oR yy6] [(.ref yy6)]) := fun t kt => pre10 t (by
      refine XS.sipush X9.here hx rfl (hb hby D8_35) ?_
      refine o_icY 38 54 X9 hx hby D8_38 (tlt hG).2.2.1 ?_
      refine o_aL X9 hx hby D8_54 rfl ?_
      exact kt)
    refine o_eR X9 Bd hx pre11 (hb hby D8_56) e9 ?_
    exact ⟨yy6, ky6, (1 : Int32), rfl, N9, KC6, sz_yy6, g_yy6, Or.inr ⟨rfl, Vy6⟩⟩
theorem D9_0 : decode oY23 0 = .ok (.iload_n 1, 1) := by decide +kernel
theorem D9_1 : decode oY23 1 = .ok (.aload_n 0, 1) := by decide +kernel
theorem D9_2 : decode oY23 2 = .ok (.arraylength, 1) := by decide +kernel
theorem D9_3 : decode oY23 3 = .ok (.isub, 1) := by decide +kernel
theorem D9_4 : decode oY23 4 = .ok (.bipush 31, 2) := by decide +kernel
theorem D9_6 : decode oY23 6 = .ok (.iushr, 1) := by decide +kernel
theorem D9_7 : decode oY23 7 = .ok (.i2b, 1) := by decide +kernel
theorem D9_8 : decode oY23 8 = .ok (.ireturn, 1) := by decide +kernel
def Q_o_cda1 (Z : State) (y : Addr) (ky : ClassId) (cd v0 : Int32) (h0 : Heap) (n0 : Nat) (v : Option Value) (h : Heap) (L : List Loc) : Prop := v = some (.int cd) ∧ Fr n0 L ∧ h = h0
theorem o_cda1 (l : Launch) (Z : State) (a0 : Array Value) (hw : ∀ d ∈ tables_1, d.before a0 Z = true) (ws : List Jvm.Cond) (y : Addr) (ky : ClassId) (cd v0 : Int32) (h0 : Heap) (n0 : Nat) (Z0 : n0 ≤ h0.size) (SDy : o_SD Z h0 y ky cd (1 : Int32) (2 : Int32) [(.int (o_by v0))] [(.int (o_B0 v0)), (.int (o_B1 v0))] (¬ ((255 : Int32) < v0))) :
    o_MF l o_N9 oY23 2 (some .byte) ws o_R2 #[(.ref y), (.int 1)] Z h0 (Q_o_cda1 Z y ky cd v0 h0 n0) := by
  refine o_start (C := "java/lang/StringUTF16") rfl (plainFor_of_name o_pn_o_cin1) fun p e s m below meth c s1 F0 Bd hx hby hml hown hnm hZ X0 e0 hF0 => ?_
  have N0 := Fr.nil n0
  have pre0 : Goes p e below s1 F0 s1 (mkF m 0 #[oR y, oI 1] []) := fun t k => castTop (hF0.trans (by simp [entryFrame, mkF, argsToLocals, Value.category])) k
  rcases (id SDy) with ⟨hcd, hp, Vy⟩ | ⟨hcd, Vy⟩
  · -- coder 0
    obtain ⟨cl1, Ar1, q1, S1, N_1, H1, G1⟩ := (id (Vy))
    have pre2 : Goes p e below s1 F0 s1 (mkF m 7 #[oR y, oI 1] [(.int (((0 : Int32).toUInt32 >>> ((31 : Int32) &&& 31).toUInt32).toInt32))]) := fun t kt => pre0 t (by
      refine o_il X0 hx hby D9_0 rfl ?_
      refine o_al X0 hx hby D9_1 rfl ?_
      refine X0.arraylength hx (by (try rw [e0]); exact Ar1.1) (State.isArrayOf_alike hZ.alike Ar1.2.1) (g := (mkF m 2 #[oR y, oI 1] [(.ref y), (.int 1)])) rfl rfl (hb hby D9_2) _ ?_
      rw [len_of S1 N_1]
      refine XS.isub X0.here hx rfl (hb hby D9_3) rfl ?_
      refine o_bp X0 hx hby D9_4 ?_
      refine XS.iushr X0.here hx rfl (hb hby D9_6) rfl ?_
      exact kt)
    rw [show (((0 : Int32).toUInt32 >>> ((31 : Int32) &&& 31).toUInt32).toInt32) = (0 : Int32) from (by decide)] at pre2
    have pre3 : Goes p e below s1 F0 s1 (mkF m 8 #[oR y, oI 1] [(.int ((0 : Int32).toInt8.toInt32))]) := fun t kt => pre2 t (by
      refine XS.i2b X0.here hx rfl (hb hby D9_7) rfl ?_
      exact kt)
    refine o_eN X0 Bd hx pre3 (hb hby D9_8) e0 ?_
    exact ⟨by rw [hcd]; rfl, N0, rfl⟩
  · -- coder 1
    obtain ⟨cl4, Ar4, q4, S4, N_4, H4, G4⟩ := (id (Vy))
    have pre5 : Goes p e below s1 F0 s1 (mkF m 7 #[oR y, oI 1] [(.int (((-1 : Int32).toUInt32 >>> ((31 : Int32) &&& 31).toUInt32).toInt32))]) := fun t kt => pre0 t (by
      refine o_il X0 hx hby D9_0 rfl ?_
      refine o_al X0 hx hby D9_1 rfl ?_
      refine X0.arraylength hx (by (try rw [e0]); exact Ar4.1) (State.isArrayOf_alike hZ.alike Ar4.2.1) (g := (mkF m 2 #[oR y, oI 1] [(.ref y), (.int 1)])) rfl rfl (hb hby D9_2) _ ?_
      rw [len_of S4 N_4]
      refine XS.isub X0.here hx rfl (hb hby D9_3) rfl ?_
      refine o_bp X0 hx hby D9_4 ?_
      refine XS.iushr X0.here hx rfl (hb hby D9_6) rfl ?_
      exact kt)
    rw [show (((-1 : Int32).toUInt32 >>> ((31 : Int32) &&& 31).toUInt32).toInt32) = (1 : Int32) from (by decide)] at pre5
    have pre6 : Goes p e below s1 F0 s1 (mkF m 8 #[oR y, oI 1] [(.int ((1 : Int32).toInt8.toInt32))]) := fun t kt => pre5 t (by
      refine XS.i2b X0.here hx rfl (hb hby D9_7) rfl ?_
      exact kt)
    refine o_eN X0 Bd hx pre6 (hb hby D9_8) e0 ?_
    exact ⟨by rw [hcd]; rfl, N0, rfl⟩
theorem D0_27 : decode oY9 27 = .ok (.getstatic 38, 3) := by decide +kernel
theorem D0_30 : decode oY9 30 = .ok (.ifCond .eq 28, 3) := by decide +kernel
theorem D0_33 : decode oY9 33 = .ok (.aload_n 1, 1) := by decide +kernel
theorem D0_34 : decode oY9 34 = .ok (.iload_n 2, 1) := by decide +kernel
theorem D0_35 : decode oY9 35 = .ok (.iload_n 3, 1) := by decide +kernel
theorem D0_36 : decode oY9 36 = .ok (.invokestatic 177, 3) := by decide +kernel
theorem D0_39 : decode oY9 39 = .ok (.astore 5, 2) := by decide +kernel
theorem D0_41 : decode oY9 41 = .ok (.aload_n 0, 1) := by decide +kernel
theorem D0_42 : decode oY9 42 = .ok (.aload 5, 2) := by decide +kernel
theorem D0_44 : decode oY9 44 = .ok (.iload_n 3, 1) := by decide +kernel
theorem D0_45 : decode oY9 45 = .ok (.invokestatic 47, 3) := by decide +kernel
theorem D0_48 : decode oY9 48 = .ok (.putfield 15, 3) := by decide +kernel
theorem D0_51 : decode oY9 51 = .ok (.aload_n 0, 1) := by decide +kernel
theorem D0_52 : decode oY9 52 = .ok (.aload 5, 2) := by decide +kernel
theorem D0_54 : decode oY9 54 = .ok (.putfield 9, 3) := by decide +kernel
theorem D0_57 : decode oY9 57 = .ok (.return_, 1) := by decide +kernel
def Q_o_sI1 (Z : State) (a1 ac : Addr) (kc : ClassId) (uv uc : Value) (v0 cs : Int32) (fm : Value) (h0 : Heap) (n0 : Nat) (v : Option Value) (h : Heap) (L : List Loc) : Prop := v = none ∧ Fr n0 L ∧ Keep h0 h [a1] ∧ Exa Z h a1 "java/lang/String" ∧ ∃ (cd : Int32) (y : Addr) (ky : ClassId), Fld Z h a1 "java/lang/String" "coder" "B" (.int cd) ∧ Fld Z h a1 "java/lang/String" "value" "[B" (.ref y) ∧ o_SD Z h y ky cd (1 : Int32) (2 : Int32) [(.int (o_by v0))] [(.int (o_B0 v0)), (.int (o_B1 v0))] (¬ ((255 : Int32) < v0))
theorem o_sI1 (l : Launch) (Z : State) (a0 : Array Value) (hw : ∀ d ∈ tables_1, d.before a0 Z = true) (ws : List Jvm.Cond) (a1 ac : Addr) (kc : ClassId) (uv uc : Value) (v0 cs : Int32) (fm : Value) (h0 : Heap) (n0 : Nat) (Z0 : n0 ≤ h0.size) (E_a1 : Exa Z h0 a1 "java/lang/String") (Fv : Fld Z h0 a1 "java/lang/String" "value" "[B" uv) (Fc : Fld Z h0 a1 "java/lang/String" "coder" "B" uc) (g_a1 : n0 ≤ a1) (V_ac : Arv Z h0 ac kc .char (1 : Int32) [(.int v0)] (.int 0)) (hl0 : (0 ≤ v0.toInt ∧ v0.toInt < 65536)) (hst : o_ST Z cs fm) (O0 : Old Z n0 h0) :
    o_MF l o_N0 oY9 6 none ws o_R6 #[(.ref a1), (.ref ac), (.int 0), (.int 1), .null] Z h0 (Q_o_sI1 Z a1 ac kc uv uc v0 cs fm h0 n0) := by
  refine o_start (C := "java/lang/String") rfl (plainFor_of_name o_pn_o_sI0) fun p e s m below meth c s1 F0 Bd hx hby hml hown hnm hZ X0 e0 hF0 => ?_
  have N0 := Fr.nil n0
  have pre0 : Goes p e below s1 F0 s1 (mkF m 0 #[oR a1, oR ac, oI 0, oI 1, .val .null, oU] []) := fun t k => castTop (hF0.trans (by simp [entryFrame, mkF, argsToLocals, Value.category])) k
  obtain ⟨T1, X1, e1, st1⟩ := initO X0 hx hZ hown (oV hw 12 rfl) (oV hw 13 rfl) (oV hw 14 rfl) e0 (g := (mkF m 1 #[oR a1, oR ac, oI 0, oI 1, .val .null, oU] [(.ref a1)])) rfl (by rw [hml]; rfl) rfl (hb hby D0_1) (by decide) (W := 0) (by show 2 * 0 + _ ≤ _; exact Nat.le_of_eq rfl) (by decide)
  have pre2 : Goes p e below s1 F0 T1 (mkF m 4 #[oR a1, oR ac, oI 0, oI 1, .val .null, oU] []) := fun t kt => pre0 t (by
    refine o_al X0 hx hby D0_0 rfl ?_
    exact st1 t kt)
  obtain ⟨T3, X3, e3, st3⟩ := getS2 X1 hx hZ hown (host := "") (Or.inl (oV hw 15 rfl)) Via.refl e1 (hst.1.ext O0.2) (g := (mkF m 27 #[oR a1, oR ac, oI 0, oI 1, .val .null, oU] [])) rfl (hb hby D0_27)
  have pre4 : Goes p e below s1 F0 T3 (mkF m 30 #[oR a1, oR ac, oI 0, oI 1, .val .null, oU] [(.int cs)]) := fun t kt => pre2 t (by
    refine o_il X1 hx hby D0_4 rfl ?_
    refine o_ifY 5 27 X1 hx hby D0_5 ((if0 _ _).trans (feq (by decide : ¬ ((1 : Int32) = (0 : Int32)))).2) ?_
    exact st3 t kt)
  obtain ⟨_, T5, L5, X5, hQ5, st5⟩ := o_cS (y := o_N8) (g := (mkF m 36 #[oR a1, oR ac, oI 0, oI 1, .val .null, oU] [(.int 1), (.int 0), (.ref ac)])) (as := [(.ref ac), (.int 0), (.int 1)]) (rest := []) 0 X3 hx hZ hml hown (oV hw 16 rfl) (oV hw 17 rfl) (oV hw 18 rfl) (oV hw 19 rfl) (o_cou1 l Z a0 hw [] ac kc v0 cs fm h0 n0 Z0 V_ac hl0 hst O0) e3 o_pd5 (hb hby D0_36)
  obtain ⟨yy5, ky5, cd5, rfl, N5q, K5q, zy5, gy5, Dy5⟩ := hQ5
  have N5 := Fr.app N0 N5q
  have KC5 : Keep h0 T5.heap [a1] := (Keep.refl h0 [a1]).trans K5q all0
  have pre6 : Goes p e below s1 F0 T5 (mkF m 39 #[oR a1, oR ac, oI 0, oI 1, .val .null, oU] [(.ref yy5)]) := fun t kt => pre4 t (by
    refine o_ifN X3 hx hby D0_30 ((if0 _ _).trans (feq hst.2.1).1) ?_
    refine o_al X3 hx hby D0_33 rfl ?_
    refine o_il X3 hx hby D0_34 rfl ?_
    refine o_il X3 hx hby D0_35 rfl ?_
    exact st5 t kt)
  have sz_yy5 := zy5
  have g_yy5 := gy5
  obtain ⟨_, T7, L7, X7, hQ7, st7⟩ := o_cS (y := o_N9) (g := (mkF m 45 #[oR a1, oR ac, oI 0, oI 1, .val .null, oR yy5] [(.int 1), (.ref yy5), (.ref a1)])) (as := [(.ref yy5), (.int 1)]) (rest := [(.ref a1)]) 1 X5 hx hZ hml hown (oV hw 24 rfl) (oV hw 25 rfl) (oV hw 18 rfl) (oV hw 26 rfl) (o_cda1 l Z a0 hw [] yy5 ky5 cd5 v0 T5.heap n0 (Nat.le_trans Z0 KC5.1) Dy5) rfl o_pd7 (hb hby D0_45)
  obtain ⟨rfl, N7q, e7⟩ := hQ7
  have N7 := Fr.app N5 N7q
  have pre8 : Goes p e below s1 F0 T7 (mkF m 48 #[oR a1, oR ac, oI 0, oI 1, .val .null, oR yy5] [(.int cd5), (.ref a1)]) := fun t kt => pre6 t (by
    refine XS.astore X5.here hx rfl (hb hby D0_39) rfl rfl (l' := #[oR a1, oR ac, oI 0, oI 1, .val .null, oR yy5]) rfl ?_
    refine o_al X5 hx hby D0_41 rfl ?_
    refine o_aL X5 hx hby D0_42 rfl ?_
    refine o_il X5 hx hby D0_44 rfl ?_
    exact st7 t kt)
  have hB : narrow .byte (.int cd5) = .int cd5 ∧ fits .byte (.int cd5) = true := by rcases Dy5 with ⟨rfl, -, -⟩ | ⟨rfl, -⟩ <;> exact ⟨rfl, rfl⟩
  obtain ⟨T9, h9, X9, e9, W9, st9⟩ := putFN X7 hx hZ hown (oV hw 27 rfl) Via.refl e7 (Fc.keep K5q nin0) (E_a1.keep K5q) (Or.inr ⟨(oV hw 28 rfl), rfl, hnm⟩) (oV hw 3 rfl) (ty := .byte) (v' := (.int cd5)) (by decide) hB.1 hB.2 (g := (mkF m 48 #[oR a1, oR ac, oI 0, oI 1, .val .null, oR yy5] [(.int cd5), (.ref a1)])) rfl rfl (hb hby D0_48)
  have Fw9 := (Fc.keep K5q nin0).same W9
  have K9 : Keep h0 h9 [a1] := KC5.wr W9 (Or.inl (o_mG (i := 0) rfl))
  have N9 := Fr.snoc X9 N7 g_a1
  have pre10 : Goes p e below s1 F0 T9 (mkF m 51 #[oR a1, oR ac, oI 0, oI 1, .val .null, oR yy5] []) := fun t kt => pre8 t (st9 t kt)
  obtain ⟨T11, h11, X11, e11, W11, st11⟩ := putF X9 hx hZ hown (host := "") (Or.inl (oV hw 29 rfl)) Via.refl e9 ((Fv.keep K5q nin0).other W9 (Or.inr (slot_ne (Or.inr (oV hw 30 rfl)) (Or.inr (oV hw 28 rfl)) (by decide) (t := (.array .byte)) (t' := .byte) (by decide) (by decide)))) ((E_a1.keep K5q).wr W9) (Or.inr ⟨(oV hw 30 rfl), rfl, hnm⟩) (oV hw 3 rfl) (ty := (.array .byte)) (by decide) rfl rfl (g := (mkF m 54 #[oR a1, oR ac, oI 0, oI 1, .val .null, oR yy5] [(.ref yy5), (.ref a1)])) rfl rfl (hb hby D0_54)
  have Fw11 := ((Fv.keep K5q nin0).other W9 (Or.inr (slot_ne (Or.inr (oV hw 30 rfl)) (Or.inr (oV hw 28 rfl)) (by decide) (t := (.array .byte)) (t' := .byte) (by decide) (by decide)))).same W11
  have K11 : Keep h0 h11 [a1] := K9.wr W11 (Or.inl (o_mG (i := 0) rfl))
  have N11 := Fr.snoc X11 N9 g_a1
  have pre12 : Goes p e below s1 F0 T11 (mkF m 57 #[oR a1, oR ac, oI 0, oI 1, .val .null, oR yy5] []) := fun t kt => pre10 t (by
    refine o_al X9 hx hby D0_51 rfl ?_
    refine o_aL X9 hx hby D0_52 rfl ?_
    exact st11 t kt)
  refine o_eV X11 Bd hx pre12 (hb hby D0_57) e11 ?_
  exact ⟨rfl, N11, K11, (((E_a1.keep K5q).wr W9).wr W11), cd5, yy5, ky5, (Fw9.other W11 (Or.inr (slot_ne (Or.inr (oV hw 28 rfl)) (Or.inr (oV hw 30 rfl)) (by decide) (t := .byte) (t' := (.array .byte)) (by decide) (by decide)))), Fw11, ((Dy5.other W9 (Ne.symm (Nat.ne_of_lt (Nat.lt_of_lt_of_le E_a1.lt zy5)))).other W11 (Ne.symm (Nat.ne_of_lt (Nat.lt_of_lt_of_le E_a1.lt zy5))))⟩
def Q_o_sJ1 (Z : State) (a1 ac : Addr) (kc : ClassId) (uv uc : Value) (v0 cs : Int32) (fm : Value) (h0 : Heap) (n0 : Nat) (v : Option Value) (h : Heap) (L : List Loc) : Prop := v = none ∧ Fr n0 L ∧ Keep h0 h [a1] ∧ Exa Z h a1 "java/lang/String" ∧ ∃ (cd : Int32) (y : Addr) (ky : ClassId), Fld Z h a1 "java/lang/String" "coder" "B" (.int cd) ∧ Fld Z h a1 "java/lang/String" "value" "[B" (.ref y) ∧ o_SD Z h y ky cd (1 : Int32) (2 : Int32) [(.int (o_by v0))] [(.int (o_B0 v0)), (.int (o_B1 v0))] (¬ ((255 : Int32) < v0))
theorem o_sJ1 (l : Launch) (Z : State) (a0 : Array Value) (hw : ∀ d ∈ tables_1, d.before a0 Z = true) (ws : List Jvm.Cond) (a1 ac : Addr) (kc : ClassId) (uv uc : Value) (v0 cs : Int32) (fm : Value) (h0 : Heap) (n0 : Nat) (Z0 : n0 ≤ h0.size) (E_a1 : Exa Z h0 a1 "java/lang/String") (Fv : Fld Z h0 a1 "java/lang/String" "value" "[B" uv) (Fc : Fld Z h0 a1 "java/lang/String" "coder" "B" uc) (g_a1 : n0 ≤ a1) (V_ac : Arv Z h0 ac kc .char (1 : Int32) [(.int v0)] (.int 0)) (hl0 : (0 ≤ v0.toInt ∧ v0.toInt < 65536)) (hst : o_ST Z cs fm) (O0 : Old Z n0 h0) :
    o_MF l o_N1 oY16 2 none ws o_R7 #[(.ref a1), (.ref ac)] Z h0 (Q_o_sJ1 Z a1 ac kc uv uc v0 cs fm h0 n0) := by
  refine o_start (C := "java/lang/String") rfl (plainFor_of_name o_pn_o_sI0) fun p e s m below meth c s1 F0 Bd hx hby hml hown hnm hZ X0 e0 hF0 => ?_
  have N0 := Fr.nil n0
  have pre0 : Goes p e below s1 F0 s1 (mkF m 0 #[oR a1, oR ac] []) := fun t k => castTop (hF0.trans (by simp [entryFrame, mkF, argsToLocals, Value.category])) k
  obtain ⟨cl1, Ar1, q1, S1, N_1, H1, G1⟩ := (id (V_ac))
  obtain ⟨_, T2, L2, X2, hQ2, st2⟩ := o_cI (y := o_N0) (b := a1) (g := (mkF m 6 #[oR a1, oR ac] [.null, (.int 1), (.int 0), (.ref ac), (.ref a1)])) (as := [(.ref ac), (.int 0), (.int 1), .null]) (rest := []) 0 X0 hx hZ hml hown (oV hw 8 rfl) (oV hw 9 rfl) (oV hw 11 rfl) (oV hw 4 rfl) (o_sI1 l Z a0 hw [] a1 ac kc uv uc v0 cs fm h0 n0 Z0 E_a1 Fv Fc g_a1 V_ac hl0 hst O0) e0 o_pd0 (hb hby D1_6)
  obtain ⟨rfl, N2q, K2q, Rest2⟩ := hQ2
  have N2 := Fr.app N0 N2q
  have KC2 : Keep h0 T2.heap [a1] := (Keep.refl h0 [a1]).trans K2q (allS (Or.inl (o_mG (i := 0) rfl)) all0)
  have pre3 : Goes p e below s1 F0 T2 (mkF m 9 #[oR a1, oR ac] []) := fun t kt => pre0 t (by
    refine o_al X0 hx hby D1_0 rfl ?_
    refine o_al X0 hx hby D1_1 rfl ?_
    refine o_ic X0 hx hby D1_2 ?_
    refine o_al X0 hx hby D1_3 rfl ?_
    refine X0.arraylength hx (by (try rw [e0]); exact Ar1.1) (State.isArrayOf_alike hZ.alike Ar1.2.1) (g := (mkF m 4 #[oR a1, oR ac] [(.ref ac), (.int 0), (.ref ac), (.ref a1)])) rfl rfl (hb hby D1_4) _ ?_
    rw [len_of S1 N_1]
    refine XS.aconstNull X0.here hx rfl (hb hby D1_5) ?_
    exact st2 t kt)
  refine o_eV X2 Bd hx pre3 (hb hby D1_9) rfl ?_
  exact ⟨rfl, N2, KC2, Rest2⟩
def Q_o_cin2 (Z : State) (ac ab : Addr) (kc kb : ClassId) (v0 v1 : Int32) (h0 : Heap) (n0 : Nat) (v : Option Value) (h : Heap) (L : List Loc) : Prop := ∃ z : Int32, v = some (.int z) ∧ Fr n0 L ∧ Keep h0 h [ab] ∧ ((z = (2 : Int32) ∧ (¬ ((255 : Int32) < v0) ∧ ¬ ((255 : Int32) < v1)) ∧ Arv Z h ab kb .byte (2 : Int32) [(.int (o_by v0)), (.int (o_by v1))] (.int 0)) ∨ (z = (0 : Int32) ∧ (255 : Int32) < v0) ∨ (z = (1 : Int32) ∧ (255 : Int32) < v1))
theorem o_cin2 (l : Launch) (Z : State) (a0 : Array Value) (hw : ∀ d ∈ tables_1, d.before a0 Z = true) (ws : List Jvm.Cond) (ac ab : Addr) (kc kb : ClassId) (v0 v1 : Int32) (h0 : Heap) (n0 : Nat) (Z0 : n0 ≤ h0.size) (V_ac : Arv Z h0 ac kc .char (2 : Int32) [(.int v0), (.int v1)] (.int 0)) (V_ab : Arv Z h0 ab kb .byte (2 : Int32) [(.int 0), (.int 0)] (.int 0)) (g_ab : n0 ≤ ab) (nab : ac ≠ ab) :
    o_MF l o_N2 oY25 7 (some .int) ws o_R2 #[(.ref ac), (.int 0), (.ref ab), (.int 0), (.int 2)] Z h0 (Q_o_cin2 Z ac ab kc kb v0 v1 h0 n0) := by
  refine o_start (C := "java/lang/StringUTF16") rfl (plainFor_of_name o_pn_o_cin1) fun p e s m below meth c s1 F0 Bd hx hby hml hown hnm hZ X0 e0 hF0 => ?_
  have N0 := Fr.nil n0
  have pre0 : Goes p e below s1 F0 s1 (mkF m 0 #[oR ac, oI 0, oR ab, oI 0, oI 2, oU, oU] []) := fun t k => castTop (hF0.trans (by simp [entryFrame, mkF, argsToLocals, Value.category])) k
  obtain ⟨cl1, Ar1, q1, S1, N_1, H1, G1⟩ := (id (V_ac))
  have hin1 : ¬ ((0 : Int32) < 0 ∨ cl1.slots.size ≤ ((0 : Int32)).toNatClampNeg) := inb_of S1 ⟨by decide, by decide⟩
  have hat1 : cl1.slots[((0 : Int32)).toNatClampNeg]? = some (.int v0) := Has.at H1 hin1 rfl
  have pre2 : Goes p e below s1 F0 s1 (mkF m 20 #[oR ac, oI 0, oR ab, oI 0, oI 2, oI 0, oI v0] [(.int 255), (.int v0)]) := fun t kt => pre0 t (by
    refine o_ic X0 hx hby D2_0 ?_
    refine XS.istore X0.here hx rfl (hb hby D2_1) rfl (l' := #[oR ac, oI 0, oR ab, oI 0, oI 2, oI 0, oU]) rfl ?_
    refine o_iL X0 hx hby D2_3 rfl ?_
    refine o_iL X0 hx hby D2_5 rfl ?_
    refine o_icN X0 hx hby D2_7 (tlt (by decide : (0 : Int32) < (2 : Int32))).2.1 ?_
    refine o_al X0 hx hby D2_10 rfl ?_
    refine o_il X0 hx hby D2_11 rfl ?_
    refine X0.caload hx (j := (0 : Int32)) (v := (.int v0)) (by (try rw [e0]); exact Ar1.1) (State.isArrayOf_alike hZ.alike Ar1.2.1) Ar1.2.2 hin1 hat1 (g := (mkF m 12 #[oR ac, oI 0, oR ab, oI 0, oI 2, oI 0, oU] [(.int 0), (.ref ac)])) rfl rfl (hb hby D2_12) _ ?_
    show Steps p.tables e below (s1.setTop (mkF m 13 #[oR ac, oI 0, oR ab, oI 0, oI 2, oI 0, oU] [(.int v0)])) _
    refine XS.istore X0.here hx rfl (hb hby D2_13) rfl (l' := #[oR ac, oI 0, oR ab, oI 0, oI 2, oI 0, oI v0]) rfl ?_
    refine o_iL X0 hx hby D2_15 rfl ?_
    refine XS.sipush X0.here hx rfl (hb hby D2_17) ?_
    exact kt)
  by_cases hc20_3 : (255 : Int32) < v0
  · -- yes at pc 20: f
    have pre4 : Goes p e below s1 F0 s1 (mkF m 25 #[oR ac, oI 0, oR ab, oI 0, oI 2, oI 0, oI v0] [(.int 0)]) := fun t kt => pre2 t (by
      refine o_icN X0 hx hby D2_20 (tlt hc20_3).2.2.2 ?_
      refine o_iL X0 hx hby D2_23 rfl ?_
      exact kt)
    refine o_eI X0 Bd hx pre4 (hb hby D2_25) e0 ?_
    exact ⟨_, rfl, N0, (Keep.refl h0 [ab]), (Or.inr (Or.inl ⟨rfl, hc20_3⟩))⟩
  · -- no at pc 20: f
    obtain ⟨cl5, Ar5, q5, S5, N_5, H5, G5⟩ := (id (V_ab))
    have hin5 : ¬ ((0 : Int32) < 0 ∨ cl5.slots.size ≤ ((0 : Int32)).toNatClampNeg) := inb_of S5 ⟨by decide, by decide⟩
    obtain ⟨T6, h6, X6, e6, W6, st6⟩ := stB X0 hx hZ e0 Ar5 (j := (0 : Int32)) hin5 (g := (mkF m 31 #[oR ac, oI 0, oR ab, oI 0, oI 2, oI 0, oI v0] [(.int (v0.toInt8.toInt32)), (.int 0), (.ref ab)])) rfl rfl (hb hby D2_31)
    have V6 : Arv Z h6 ab kb .byte (2 : Int32) [(.int (nar .byte (v0.toInt8.toInt32))), (.int 0)] (.int 0) := Arv.set Ar5 q5 S5 N_5 H5 G5 (fits_nar_byte _) W6 0 rfl (Nat.le_of_ble_eq_true rfl)
    have K6 : Keep h0 h6 [ab] := (Keep.refl h0 [ab]).wr W6 (Or.inl (o_mG (i := 0) rfl))
    have N6 := Fr.snoc X6 N0 g_ab
    have pre7 : Goes p e below s1 F0 T6 (mkF m 32 #[oR ac, oI 0, oR ab, oI 0, oI 2, oI 0, oI v0] []) := fun t kt => pre2 t (by
      refine o_icY 20 26 X0 hx hby D2_20 (flt hc20_3).2.2.2 ?_
      refine o_al X0 hx hby D2_26 rfl ?_
      refine o_il X0 hx hby D2_27 rfl ?_
      refine o_iL X0 hx hby D2_28 rfl ?_
      refine XS.i2b X0.here hx rfl (hb hby D2_30) rfl ?_
      exact st6 t kt)
    obtain ⟨cl8, Ar8, q8, S8, N_8, H8, G8⟩ := (id ((V_ac.other W6 nab)))
    have hin8 : ¬ ((1 : Int32) < 0 ∨ cl8.slots.size ≤ ((1 : Int32)).toNatClampNeg) := inb_of S8 ⟨by decide, by decide⟩
    have hat8 : cl8.slots[((1 : Int32)).toNatClampNeg]? = some (.int v1) := Has.at H8 hin8 rfl
    have pre9 : Goes p e below s1 F0 T6 (mkF m 20 #[oR ac, oI 1, oR ab, oI 1, oI 2, oI 1, oI v1] [(.int 255), (.int v1)]) := fun t kt => pre7 t (by
      refine XS.iinc X6.here hx rfl (hb hby D2_32) rfl (l' := #[oR ac, oI 1, oR ab, oI 0, oI 2, oI 0, oI v0]) rfl ?_
      refine XS.iinc X6.here hx rfl (hb hby D2_35) rfl (l' := #[oR ac, oI 1, oR ab, oI 1, oI 2, oI 0, oI v0]) rfl ?_
      refine XS.iinc X6.here hx rfl (hb hby D2_38) rfl (l' := #[oR ac, oI 1, oR ab, oI 1, oI 2, oI 1, oI v0]) rfl ?_
      refine o_gt 41 3 X6 hx hby D2_41 ?_
      refine o_iL X6 hx hby D2_3 rfl ?_
      refine o_iL X6 hx hby D2_5 rfl ?_
      refine o_icN X6 hx hby D2_7 (tlt (by decide : (1 : Int32) < (2 : Int32))).2.1 ?_
      refine o_al X6 hx hby D2_10 rfl ?_
      show Steps p.tables e below (T6.setTop (mkF m 11 #[oR ac, oI 1, oR ab, oI 1, oI 2, oI 1, oI v0] [(.ref ac)])) _
      refine o_il X6 hx hby D2_11 rfl ?_
      refine X6.caload hx (j := (1 : Int32)) (v := (.int v1)) (by (try rw [e6]); exact Ar8.1) (State.isArrayOf_alike hZ.alike Ar8.2.1) Ar8.2.2 hin8 hat8 (g := (mkF m 12 #[oR ac, oI 1, oR ab, oI 1, oI 2, oI 1, oI v0] [(.int 1), (.ref ac)])) rfl rfl (hb hby D2_12) _ ?_
      refine XS.istore X6.here hx rfl (hb hby D2_13) rfl (l' := #[oR ac, oI 1, oR ab, oI 1, oI 2, oI 1, oI v1]) rfl ?_
      refine o_iL X6 hx hby D2_15 rfl ?_
      refine XS.sipush X6.here hx rfl (hb hby D2_17) ?_
      exact kt)
    by_cases hc20_10 : (255 : Int32) < v1
    · -- yes at pc 20: ftf
      have pre11 : Goes p e below s1 F0 T6 (mkF m 25 #[oR ac, oI 1, oR ab, oI 1, oI 2, oI 1, oI v1] [(.int 1)]) := fun t kt => pre9 t (by
        refine o_icN X6 hx hby D2_20 (tlt hc20_10).2.2.2 ?_
        refine o_iL X6 hx hby D2_23 rfl ?_
        exact kt)
      refine o_eI X6 Bd hx pre11 (hb hby D2_25) e6 ?_
      exact ⟨_, rfl, N6, K6, (Or.inr (Or.inr (⟨rfl, hc20_10⟩)))⟩
    · -- no at pc 20: ftf
      obtain ⟨cl12, Ar12, q12, S12, N_12, H12, G12⟩ := (id (V6))
      have hin12 : ¬ ((1 : Int32) < 0 ∨ cl12.slots.size ≤ ((1 : Int32)).toNatClampNeg) := inb_of S12 ⟨by decide, by decide⟩
      obtain ⟨T13, h13, X13, e13, W13, st13⟩ := stB X6 hx hZ e6 Ar12 (j := (1 : Int32)) hin12 (g := (mkF m 31 #[oR ac, oI 1, oR ab, oI 1, oI 2, oI 1, oI v1] [(.int (v1.toInt8.toInt32)), (.int 1), (.ref ab)])) rfl rfl (hb hby D2_31)
      have V13 : Arv Z h13 ab kb .byte (2 : Int32) [(.int (nar .byte (v0.toInt8.toInt32))), (.int (nar .byte (v1.toInt8.toInt32)))] (.int 0) := Arv.set Ar12 q12 S12 N_12 H12 G12 (fits_nar_byte _) W13 1 rfl (Nat.le_of_ble_eq_true rfl)
      have K13 : Keep h0 h13 [ab] := K6.wr W13 (Or.inl (o_mG (i := 0) rfl))
      have N13 := Fr.snoc X13 N6 g_ab
      have pre14 : Goes p e below s1 F0 T13 (mkF m 32 #[oR ac, oI 1, oR ab, oI 1, oI 2, oI 1, oI v1] []) := fun t kt => pre9 t (by
        refine o_icY 20 26 X6 hx hby D2_20 (flt hc20_10).2.2.2 ?_
        refine o_al X6 hx hby D2_26 rfl ?_
        refine o_il X6 hx hby D2_27 rfl ?_
        refine o_iL X6 hx hby D2_28 rfl ?_
        refine XS.i2b X6.here hx rfl (hb hby D2_30) rfl ?_
        exact st13 t kt)
      have pre15 : Goes p e below s1 F0 T13 (mkF m 46 #[oR ac, oI 2, oR ab, oI 2, oI 2, oI 2, oI v1] [(.int 2)]) := fun t kt => pre14 t (by
        refine XS.iinc X13.here hx rfl (hb hby D2_32) rfl (l' := #[oR ac, oI 2, oR ab, oI 1, oI 2, oI 1, oI v1]) rfl ?_
        refine XS.iinc X13.here hx rfl (hb hby D2_35) rfl (l' := #[oR ac, oI 2, oR ab, oI 2, oI 2, oI 1, oI v1]) rfl ?_
        refine XS.iinc X13.here hx rfl (hb hby D2_38) rfl (l' := #[oR ac, oI 2, oR ab, oI 2, oI 2, oI 2, oI v1]) rfl ?_
        refine o_gt 41 3 X13 hx hby D2_41 ?_
        refine o_iL X13 hx hby D2_3 rfl ?_
        refine o_iL X13 hx hby D2_5 rfl ?_
        refine o_icY 7 44 X13 hx hby D2_7 (flt (by decide : ¬ ((2 : Int32) < (2 : Int32)))).2.1 ?_
        refine o_iL X13 hx hby D2_44 rfl ?_
        exact kt)
      refine o_eI X13 Bd hx pre15 (hb hby D2_46) e13 ?_
      exact ⟨_, rfl, N13, K13, (Or.inl ⟨rfl, ⟨hc20_3, hc20_10⟩, V13⟩)⟩
def Q_o_nbl2 (Z : State)  (h0 : Heap) (n0 : Nat) (v : Option Value) (h : Heap) (L : List Loc) : Prop := v = some (.int 4) ∧ Fr n0 L ∧ h = h0
theorem o_nbl2 (l : Launch) (Z : State) (a0 : Array Value) (hw : ∀ d ∈ tables_1, d.before a0 Z = true) (ws : List Jvm.Cond)  (h0 : Heap) (n0 : Nat) (Z0 : n0 ≤ h0.size) :
    o_MF l o_N3 oY27 1 (some .int) ws o_R2 #[(.int 2)] Z h0 (Q_o_nbl2 Z  h0 n0) := by
  refine o_start (C := "java/lang/StringUTF16") rfl (plainFor_of_name o_pn_o_cin1) fun p e s m below meth c s1 F0 Bd hx hby hml hown hnm hZ X0 e0 hF0 => ?_
  have N0 := Fr.nil n0
  have pre0 : Goes p e below s1 F0 s1 (mkF m 0 #[oI 2] []) := fun t k => castTop (hF0.trans (by simp [entryFrame, mkF, argsToLocals, Value.category])) k
  have pre1 : Goes p e below s1 F0 s1 (mkF m 58 #[oI 2] [(.int ((2 : Int32) <<< ((1 : Int32) &&& 31)))]) := fun t kt => pre0 t (by
    refine o_il X0 hx hby D3_0 rfl ?_
    refine o_ifY 1 12 X0 hx hby D3_1 ((if0 _ _).trans (flt (by decide : ¬ ((2 : Int32) < (0 : Int32)))).2.1) ?_
    refine o_il X0 hx hby D3_12 rfl ?_
    refine X0.ldcInt hx hown (oW hw hZ 240 rfl) (g := (mkF m 13 #[oI 2] [(.int 2)])) rfl (hb hby D3_13) _ ?_
    refine o_icY 15 55 X0 hx hby D3_15 (tlt (by decide : (2 : Int32) < (1073741823 : Int32))).1 ?_
    refine o_il X0 hx hby D3_55 rfl ?_
    refine o_ic X0 hx hby D3_56 ?_
    refine XS.ishl X0.here hx rfl (hb hby D3_57) rfl ?_
    exact kt)
  rw [show ((2 : Int32) <<< ((1 : Int32) &&& 31)) = (4 : Int32) from (by decide)] at pre1
  refine o_eI X0 Bd hx pre1 (hb hby D3_58) e0 ?_
  exact ⟨rfl, N0, rfl⟩
def Q_o_nbf2 (Z : State)  (h0 : Heap) (n0 : Nat) (v : Option Value) (h : Heap) (L : List Loc) : Prop := ∃ (y : Addr) (ky : ClassId), v = some (.ref y) ∧ Fr n0 L ∧ Keep h0 h [] ∧ h0.size ≤ y ∧ n0 ≤ y ∧ Arv Z h y ky .byte (4 : Int32) [(.int 0), (.int 0), (.int 0), (.int 0)] (.int 0)
theorem o_nbf2 (l : Launch) (Z : State) (a0 : Array Value) (hw : ∀ d ∈ tables_1, d.before a0 Z = true) (ws : List Jvm.Cond)  (h0 : Heap) (n0 : Nat) (Z0 : n0 ≤ h0.size) :
    o_MF l o_N4 oY26 1 (some (.array .byte)) ws o_R8 #[(.int 2)] Z h0 (Q_o_nbf2 Z  h0 n0) := by
  refine o_start (C := "java/lang/StringUTF16") rfl (plainFor_of_name o_pn_o_cin1) fun p e s m below meth c s1 F0 Bd hx hby hml hown hnm hZ X0 e0 hF0 => ?_
  have N0 := Fr.nil n0
  have pre0 : Goes p e below s1 F0 s1 (mkF m 0 #[oI 2] []) := fun t k => castTop (hF0.trans (by simp [entryFrame, mkF, argsToLocals, Value.category])) k
  obtain ⟨_, T1, L1, X1, hQ1, st1⟩ := o_cS (y := o_N3) (g := (mkF m 1 #[oI 2] [(.int 2)])) (as := [(.int 2)]) (rest := []) 0 X0 hx hZ hml hown (oV hw 237 rfl) (oV hw 238 rfl) (oV hw 18 rfl) (oV hw 239 rfl) (o_nbl2 l Z a0 hw []  h0 n0 Z0 ) e0 o_pd1 (hb hby D4_1)
  obtain ⟨rfl, N1q, e1⟩ := hQ1
  have N1 := Fr.app N0 N1q
  have pre2 : Goes p e below s1 F0 T1 (mkF m 4 #[oI 2] [(.int 4)]) := fun t kt => pre0 t (by
    refine o_il X0 hx hby D4_0 rfl ?_
    exact st1 t kt)
  obtain ⟨T3, h3, k3, X3, e3, E3, A3, st3⟩ := newP X1 hx hZ (oV hw 20 rfl) e1 (g := (mkF m 4 #[oI 2] [(.int 4)])) rfl (hb hby D4_4) rfl (by decide) (cap := 4) (by decide) (by decide) (by decide) (by decide)
  obtain ⟨b3, g3⟩ : ∃ z, z = h0.size := ⟨_, rfl⟩
  rw [← g3] at A3 st3
  have V_b3 : Arv Z h3 b3 k3 .byte (4 : Int32) [(.int 0), (.int 0), (.int 0), (.int 0)] (.int 0) := (Arv.new A3 (by decide)).pad (pad_rep [] (.int 0) 4)
  have g_b3 : n0 ≤ b3 := Nat.le_trans Z0 (Nat.le_of_eq g3.symm)
  have sz_b3 : h0.size ≤ b3 := (Nat.le_trans (Keep.refl h0 []).1 (Nat.le_of_eq g3.symm))
  have K3 : Keep h0 h3 [] := (Keep.refl h0 []).ext E3
  have pre4 : Goes p e below s1 F0 T3 (mkF m 6 #[oI 2] [(.ref b3)]) := fun t kt => pre2 t (st3 t kt)
  refine o_eR X3 Bd hx pre4 (hb hby D4_6) e3 ?_
  exact ⟨b3, k3, rfl, N1, K3, sz_b3, g_b3, V_b3⟩
def Q_o_tob2 (Z : State) (ac : Addr) (kc : ClassId) (v0 v1 cs : Int32) (fm : Value) (h0 : Heap) (n0 : Nat) (v : Option Value) (h : Heap) (L : List Loc) : Prop := ∃ (y : Addr) (ky : ClassId), v = some (.ref y) ∧ Fr n0 L ∧ Keep h0 h [] ∧ h0.size ≤ y ∧ n0 ≤ y ∧ Arv Z h y ky .byte (4 : Int32) [(.int (o_B0 v0)), (.int (o_B1 v0)), (.int (o_B0 v1)), (.int (o_B1 v1))] (.int 0)
theorem o_tob2 (l : Launch) (Z : State) (a0 : Array Value) (hw : ∀ d ∈ tables_1, d.before a0 Z = true) (ws : List Jvm.Cond) (ac : Addr) (kc : ClassId) (v0 v1 cs : Int32) (fm : Value) (h0 : Heap) (n0 : Nat) (Z0 : n0 ≤ h0.size) (V_ac : Arv Z h0 ac kc .char (2 : Int32) [(.int v0), (.int v1)] (.int 0)) (hst : o_ST Z cs fm) (O0 : Old Z n0 h0) :
    o_MF l o_N6 oY22 5 (some (.array .byte)) ws o_R9 #[(.ref ac), (.int 0), (.int 2)] Z h0 (Q_o_tob2 Z ac kc v0 v1 cs fm h0 n0) := by
  refine o_start (C := "java/lang/StringUTF16") rfl (plainFor_of_name o_pn_o_cin1) fun p e s m below meth c s1 F0 Bd hx hby hml hown hnm hZ X0 e0 hF0 => ?_
  have N0 := Fr.nil n0
  have pre0 : Goes p e below s1 F0 s1 (mkF m 0 #[oR ac, oI 0, oI 2, oU, oU] []) := fun t k => castTop (hF0.trans (by simp [entryFrame, mkF, argsToLocals, Value.category])) k
  obtain ⟨_, T1, L1, X1, hQ1, st1⟩ := o_cS (y := o_N4) (g := (mkF m 1 #[oR ac, oI 0, oI 2, oU, oU] [(.int 2)])) (as := [(.int 2)]) (rest := []) 0 X0 hx hZ hml hown (oV hw 234 rfl) (oV hw 235 rfl) (oV hw 18 rfl) (oV hw 236 rfl) (o_nbf2 l Z a0 hw []  h0 n0 Z0 ) e0 o_pd2 (hb hby D6_1)
  obtain ⟨yy1, ky1, rfl, N1q, K1q, zy1, gy1, Vy1⟩ := hQ1
  have N1 := Fr.app N0 N1q
  have KC1 : Keep h0 T1.heap [] := (Keep.refl h0 []).trans K1q all0
  have pre2 : Goes p e below s1 F0 T1 (mkF m 4 #[oR ac, oI 0, oI 2, oU, oU] [(.ref yy1)]) := fun t kt => pre0 t (by
    refine o_il X0 hx hby D6_0 rfl ?_
    exact st1 t kt)
  have sz_yy1 := zy1
  have g_yy1 := gy1
  obtain ⟨cl3, Ar3, q3, S3, N_3, H3, G3⟩ := (id ((V_ac.keep K1q nin0)))
  have hin3 : ¬ ((0 : Int32) < 0 ∨ cl3.slots.size ≤ ((0 : Int32)).toNatClampNeg) := inb_of S3 ⟨by decide, by decide⟩
  have hat3 : cl3.slots[((0 : Int32)).toNatClampNeg]? = some (.int v0) := Has.at H3 hin3 rfl
  obtain ⟨_, T4, L4, X4, hQ4, st4⟩ := o_cS (y := o_N5) (g := (mkF m 20 #[oR ac, oI 0, oI 2, oR yy1, oI 0] [(.int v0), (.int 0), (.ref yy1)])) (as := [(.ref yy1), (.int 0), (.int v0)]) (rest := []) 0 X1 hx hZ hml hown (oV hw 241 rfl) (oV hw 242 rfl) (oV hw 18 rfl) (oV hw 243 rfl) (o_pch l Z a0 hw [] yy1 ky1 (4 : Int32) [(.int 0), (.int 0), (.int 0), (.int 0)] (0 : Int32) v0 cs fm T1.heap n0 (Nat.le_trans Z0 KC1.1) Vy1 (by decide) (by show _ < 4; decide) (by decide) (by show _ < 4; decide) g_yy1 hst (O0.keep K1q all0)) rfl o_pd3 (hb hby D6_20)
  obtain ⟨rfl, N4q, K4q, Vz4⟩ := hQ4
  have N4 := Fr.app N1 N4q
  have KC4 : Keep h0 T4.heap [] := KC1.trans K4q (allS (Or.inr sz_yy1) all0)
  have pre5 : Goes p e below s1 F0 T4 (mkF m 23 #[oR ac, oI 0, oI 2, oR yy1, oI 0] []) := fun t kt => pre2 t (by
    refine XS.astoreN X1.here hx rfl (hb hby D6_4) rfl rfl (l' := #[oR ac, oI 0, oI 2, oR yy1, oU]) rfl ?_
    refine o_ic X1 hx hby D6_5 ?_
    refine XS.istore X1.here hx rfl (hb hby D6_6) rfl (l' := #[oR ac, oI 0, oI 2, oR yy1, oI 0]) rfl ?_
    refine o_iL X1 hx hby D6_8 rfl ?_
    refine o_il X1 hx hby D6_10 rfl ?_
    refine o_icN X1 hx hby D6_11 (tlt (by decide : (0 : Int32) < (2 : Int32))).2.1 ?_
    refine o_al X1 hx hby D6_14 rfl ?_
    refine o_iL X1 hx hby D6_15 rfl ?_
    show Steps p.tables e below (T1.setTop (mkF m 17 #[oR ac, oI 0, oI 2, oR yy1, oI 0] [(.int 0), (.ref yy1)])) _
    refine o_al X1 hx hby D6_17 rfl ?_
    refine o_il X1 hx hby D6_18 rfl ?_
    refine X1.caload hx (j := (0 : Int32)) (v := (.int v0)) (by (try rw [rfl]); exact Ar3.1) (State.isArrayOf_alike hZ.alike Ar3.2.1) Ar3.2.2 hin3 hat3 (g := (mkF m 19 #[oR ac, oI 0, oI 2, oR yy1, oI 0] [(.int 0), (.ref ac), (.int 0), (.ref yy1)])) rfl rfl (hb hby D6_19) _ ?_
    exact st4 t kt)
  have Vw4 : Arv Z T4.heap yy1 ky1 .byte (4 : Int32) [(.int (o_B0 v0)), (.int (o_B1 v0)), (.int 0), (.int 0)] (.int 0) := Vz4
  obtain ⟨cl6, Ar6, q6, S6, N_6, H6, G6⟩ := (id (((V_ac.keep K1q nin0).keep K4q (ninS (Nat.ne_of_lt (Nat.lt_of_lt_of_le V_ac.lt zy1)) nin0))))
  have hin6 : ¬ ((1 : Int32) < 0 ∨ cl6.slots.size ≤ ((1 : Int32)).toNatClampNeg) := inb_of S6 ⟨by decide, by decide⟩
  have hat6 : cl6.slots[((1 : Int32)).toNatClampNeg]? = some (.int v1) := Has.at H6 hin6 rfl
  obtain ⟨_, T7, L7, X7, hQ7, st7⟩ := o_cS (y := o_N5) (g := (mkF m 20 #[oR ac, oI 1, oI 2, oR yy1, oI 1] [(.int v1), (.int 1), (.ref yy1)])) (as := [(.ref yy1), (.int 1), (.int v1)]) (rest := []) 0 X4 hx hZ hml hown (oV hw 241 rfl) (oV hw 242 rfl) (oV hw 18 rfl) (oV hw 243 rfl) (o_pch l Z a0 hw [] yy1 ky1 (4 : Int32) [(.int (o_B0 v0)), (.int (o_B1 v0)), (.int 0), (.int 0)] (1 : Int32) v1 cs fm T4.heap n0 (Nat.le_trans Z0 KC4.1) Vw4 (by decide) (by show _ < 4; decide) (by decide) (by show _ < 4; decide) g_yy1 hst ((O0.keep K1q all0).keep K4q (allS g_yy1 all0))) rfl o_pd3 (hb hby D6_20)
  obtain ⟨rfl, N7q, K7q, Vz7⟩ := hQ7
  have N7 := Fr.app N4 N7q
  have KC7 : Keep h0 T7.heap [] := KC4.trans K7q (allS (Or.inr sz_yy1) all0)
  have pre8 : Goes p e below s1 F0 T7 (mkF m 23 #[oR ac, oI 1, oI 2, oR yy1, oI 1] []) := fun t kt => pre5 t (by
    refine XS.iinc X4.here hx rfl (hb hby D6_23) rfl (l' := #[oR ac, oI 1, oI 2, oR yy1, oI 0]) rfl ?_
    refine XS.iinc X4.here hx rfl (hb hby D6_26) rfl (l' := #[oR ac, oI 1, oI 2, oR yy1, oI 1]) rfl ?_
    refine o_gt 29 8 X4 hx hby D6_29 ?_
    refine o_iL X4 hx hby D6_8 rfl ?_
    refine o_il X4 hx hby D6_10 rfl ?_
    refine o_icN X4 hx hby D6_11 (tlt (by decide : (1 : Int32) < (2 : Int32))).2.1 ?_
    refine o_al X4 hx hby D6_14 rfl ?_
    refine o_iL X4 hx hby D6_15 rfl ?_
    show Steps p.tables e below (T4.setTop (mkF m 17 #[oR ac, oI 1, oI 2, oR yy1, oI 1] [(.int 1), (.ref yy1)])) _
    refine o_al X4 hx hby D6_17 rfl ?_
    refine o_il X4 hx hby D6_18 rfl ?_
    refine X4.caload hx (j := (1 : Int32)) (v := (.int v1)) (by (try rw [rfl]); exact Ar6.1) (State.isArrayOf_alike hZ.alike Ar6.2.1) Ar6.2.2 hin6 hat6 (g := (mkF m 19 #[oR ac, oI 1, oI 2, oR yy1, oI 1] [(.int 1), (.ref ac), (.int 1), (.ref yy1)])) rfl rfl (hb hby D6_19) _ ?_
    exact st7 t kt)
  have Vw7 : Arv Z T7.heap yy1 ky1 .byte (4 : Int32) [(.int (o_B0 v0)), (.int (o_B1 v0)), (.int (o_B0 v1)), (.int (o_B1 v1))] (.int 0) := Vz7
  have pre9 : Goes p e below s1 F0 T7 (mkF m 33 #[oR ac, oI 2, oI 2, oR yy1, oI 2] [(.ref yy1)]) := fun t kt => pre8 t (by
    refine XS.iinc X7.here hx rfl (hb hby D6_23) rfl (l' := #[oR ac, oI 2, oI 2, oR yy1, oI 1]) rfl ?_
    refine XS.iinc X7.here hx rfl (hb hby D6_26) rfl (l' := #[oR ac, oI 2, oI 2, oR yy1, oI 2]) rfl ?_
    refine o_gt 29 8 X7 hx hby D6_29 ?_
    refine o_iL X7 hx hby D6_8 rfl ?_
    refine o_il X7 hx hby D6_10 rfl ?_
    refine o_icY 11 32 X7 hx hby D6_11 (flt (by decide : ¬ ((2 : Int32) < (2 : Int32)))).2.1 ?_
    refine o_al X7 hx hby D6_32 rfl ?_
    exact kt)
  refine o_eR X7 Bd hx pre9 (hb hby D6_33) rfl ?_
  exact ⟨yy1, ky1, rfl, N7, KC7, sz_yy1, g_yy1, Vw7⟩
def Q_o_cou2 (Z : State) (ac : Addr) (kc : ClassId) (v0 v1 cs : Int32) (fm : Value) (h0 : Heap) (n0 : Nat) (v : Option Value) (h : Heap) (L : List Loc) : Prop := ∃ (y : Addr) (ky : ClassId) (cd : Int32), v = some (.ref y) ∧ Fr n0 L ∧ Keep h0 h [] ∧ h0.size ≤ y ∧ n0 ≤ y ∧ o_SD Z h y ky cd (2 : Int32) (4 : Int32) [(.int (o_by v0)), (.int (o_by v1))] [(.int (o_B0 v0)), (.int (o_B1 v0)), (.int (o_B0 v1)), (.int (o_B1 v1))] (¬ ((255 : Int32) < v0) ∧ ¬ ((255 : Int32) < v1))
theorem o_cou2 (l : Launch) (Z : State) (a0 : Array Value) (hw : ∀ d ∈ tables_1, d.before a0 Z = true) (ws : List Jvm.Cond) (ac : Addr) (kc : ClassId) (v0 v1 cs : Int32) (fm : Value) (h0 : Heap) (n0 : Nat) (Z0 : n0 ≤ h0.size) (V_ac : Arv Z h0 ac kc .char (2 : Int32) [(.int v0), (.int v1)] (.int 0)) (hl0 : (0 ≤ v0.toInt ∧ v0.toInt < 65536)) (hl1 : (0 ≤ v1.toInt ∧ v1.toInt < 65536)) (hst : o_ST Z cs fm) (O0 : Old Z n0 h0) :
    o_MF l o_N8 oY24 6 (some (.array .byte)) ws o_R10 #[(.ref ac), (.int 0), (.int 2)] Z h0 (Q_o_cou2 Z ac kc v0 v1 cs fm h0 n0) := by
  refine o_start (C := "java/lang/StringUTF16") rfl (plainFor_of_name o_pn_o_cin1) fun p e s m below meth c s1 F0 Bd hx hby hml hown hnm hZ X0 e0 hF0 => ?_
  have N0 := Fr.nil n0
  have pre0 : Goes p e below s1 F0 s1 (mkF m 0 #[oR ac, oI 0, oI 2, oU, oU, oU] []) := fun t k => castTop (hF0.trans (by simp [entryFrame, mkF, argsToLocals, Value.category])) k
  obtain ⟨T1, h1, k1, X1, e1, E1, A1, st1⟩ := newP X0 hx hZ (oV hw 20 rfl) e0 (g := (mkF m 1 #[oR ac, oI 0, oI 2, oU, oU, oU] [(.int 2)])) rfl (hb hby D8_1) rfl (by decide) (cap := 2) (by decide) (by decide) (by decide) (by decide)
  obtain ⟨b1, g1⟩ : ∃ z, z = h0.size := ⟨_, rfl⟩
  rw [← g1] at A1 st1
  have V_b1 : Arv Z h1 b1 k1 .byte (2 : Int32) [(.int 0), (.int 0)] (.int 0) := (Arv.new A1 (by decide)).pad (pad_rep [] (.int 0) 2)
  have g_b1 : n0 ≤ b1 := Nat.le_trans Z0 (Nat.le_of_eq g1.symm)
  have sz_b1 : h0.size ≤ b1 := (Nat.le_trans (Keep.refl h0 []).1 (Nat.le_of_eq g1.symm))
  have K1 : Keep h0 h1 [] := (Keep.refl h0 []).ext E1
  have pre2 : Goes p e below s1 F0 T1 (mkF m 3 #[oR ac, oI 0, oI 2, oU, oU, oU] [(.ref b1)]) := fun t kt => pre0 t (by
    refine o_il X0 hx hby D8_0 rfl ?_
    exact st1 t kt)
  obtain ⟨_, T3, L3, X3, hQ3, st3⟩ := o_cS (y := o_N2) (g := (mkF m 9 #[oR ac, oI 0, oI 2, oR b1, oU, oU] [(.int 2), (.int 0), (.ref b1), (.int 0), (.ref ac)])) (as := [(.ref ac), (.int 0), (.ref b1), (.int 0), (.int 2)]) (rest := []) 0 X1 hx hZ hml hown (oV hw 21 rfl) (oV hw 22 rfl) (oV hw 18 rfl) (oV hw 23 rfl) (o_cin2 l Z a0 hw [] ac b1 kc k1 v0 v1 h1 n0 (Nat.le_trans Z0 K1.1) (V_ac.ext E1) V_b1 g_b1 (Nat.ne_of_lt (Nat.lt_of_lt_of_le V_ac.lt (Nat.le_of_eq g1.symm)))) e1 o_pd4 (hb hby D8_9)
  obtain ⟨zr3, rfl, N3q, K3q, Dz3⟩ := hQ3
  have N3 := Fr.app N0 N3q
  have KC3 : Keep h0 T3.heap [] := K1.trans K3q (allS (Or.inr sz_b1) all0)
  have pre4 : Goes p e below s1 F0 T3 (mkF m 12 #[oR ac, oI 0, oI 2, oR b1, oU, oU] [(.int zr3)]) := fun t kt => pre2 t (by
    refine XS.astoreN X1.here hx rfl (hb hby D8_3) rfl rfl (l' := #[oR ac, oI 0, oI 2, oR b1, oU, oU]) rfl ?_
    refine o_al X1 hx hby D8_4 rfl ?_
    refine o_il X1 hx hby D8_5 rfl ?_
    refine o_al X1 hx hby D8_6 rfl ?_
    refine o_ic X1 hx hby D8_7 ?_
    refine o_il X1 hx hby D8_8 rfl ?_
    exact st3 t kt)
  rcases Dz3 with ⟨rfl, hp, Vb3⟩ | Dz
  · -- full
    have pre5 : Goes p e below s1 F0 T3 (mkF m 58 #[oR ac, oI 0, oI 2, oR b1, oI 2, oU] [(.ref b1)]) := fun t kt => pre4 t (by
      refine XS.istore X3.here hx rfl (hb hby D8_12) rfl (l' := #[oR ac, oI 0, oI 2, oR b1, oI 2, oU]) rfl ?_
      refine o_iL X3 hx hby D8_14 rfl ?_
      refine o_il X3 hx hby D8_16 rfl ?_
      refine o_icY 17 57 X3 hx hby D8_17 (teq (by decide : (2 : Int32) = (2 : Int32))).1 ?_
      refine o_al X3 hx hby D8_57 rfl ?_
      exact kt)
    refine o_eR X3 Bd hx pre5 (hb hby D8_58) rfl ?_
    exact ⟨b1, k1, (0 : Int32), rfl, N3, KC3, sz_b1, g_b1, Or.inl ⟨rfl, hp, Vb3⟩⟩
  · -- not
    have hne : ¬ (zr3 = (2 : Int32)) := by rcases Dz with ⟨rfl, hq⟩ | ⟨rfl, hq⟩ <;> decide
    obtain ⟨_, T6, L6, X6, hQ6, st6⟩ := o_cS (y := o_N6) (g := (mkF m 23 #[oR ac, oI 0, oI 2, oR b1, oI zr3, oU] [(.int 2), (.int 0), (.ref ac)])) (as := [(.ref ac), (.int 0), (.int 2)]) (rest := []) 0 X3 hx hZ hml hown (oV hw 231 rfl) (oV hw 232 rfl) (oV hw 18 rfl) (oV hw 233 rfl) (o_tob2 l Z a0 hw [] ac kc v0 v1 cs fm T3.heap n0 (Nat.le_trans Z0 KC3.1) ((V_ac.ext E1).keep K3q (ninS (Nat.ne_of_lt (Nat.lt_of_lt_of_le V_ac.lt (Nat.le_of_eq g1.symm))) nin0)) hst ((O0.ext E1).keep K3q (allS g_b1 all0))) rfl o_pd5 (hb hby D8_23)
    obtain ⟨yy6, ky6, rfl, N6q, K6q, zy6, gy6, Vy6⟩ := hQ6
    have N6 := Fr.app N3 N6q
    have KC6 : Keep h0 T6.heap [] := KC3.trans K6q all0
    have pre7 : Goes p e below s1 F0 T6 (mkF m 26 #[oR ac, oI 0, oI 2, oR b1, oI zr3, oU] [(.ref yy6)]) := fun t kt => pre4 t (by
      refine XS.istore X3.here hx rfl (hb hby D8_12) rfl (l' := #[oR ac, oI 0, oI 2, oR b1, oI zr3, oU]) rfl ?_
      refine o_iL X3 hx hby D8_14 rfl ?_
      refine o_il X3 hx hby D8_16 rfl ?_
      refine o_icN X3 hx hby D8_17 (feq hne).1 ?_
      refine o_al X3 hx hby D8_20 rfl ?_
      refine o_il X3 hx hby D8_21 rfl ?_
      refine o_il X3 hx hby D8_22 rfl ?_
      exact st6 t kt)
    have sz_yy6 : h0.size ≤ yy6 := Nat.le_trans KC3.1 zy6
    have g_yy6 := gy6
    have pre8 : Goes p e below s1 F0 T6 (mkF m 32 #[oR ac, oI 0, oI 2, oR b1, oI zr3, oR yy6] [(.int zr3), (.ref yy6)]) := fun t kt => pre7 t (by
      refine XS.astore X6.here hx rfl (hb hby D8_26) rfl rfl (l' := #[oR ac, oI 0, oI 2, oR b1, oI zr3, oR yy6]) rfl ?_
      refine o_aL X6 hx hby D8_28 rfl ?_
      refine o_iL X6 hx hby D8_30 rfl ?_
      exact kt)
    obtain ⟨pu, pw, hA0, hA1, hG⟩ : ∃ pu pw : Int32, o_At Z T6.heap yy6 (zr3 <<< ((1 : Int32) &&& 31)) pu ∧ o_At Z T6.heap yy6 ((zr3 <<< ((1 : Int32) &&& 31)) + (1 : Int32)) pw ∧ (255 : Int32) < (nar .char (o_GC pu pw)) := by
      rcases Dz with ⟨rfl, hq⟩ | ⟨rfl, hq⟩
      · exact ⟨(o_B0 v0), (o_B1 v0), o_At.of Vy6 (by decide) rfl, o_At.of Vy6 (by decide) rfl, by rw [o_gc v0 hl0]; exact hq⟩
      · exact ⟨(o_B0 v1), (o_B1 v1), o_At.of Vy6 (by decide) rfl, o_At.of Vy6 (by decide) rfl, by rw [o_gc v1 hl1]; exact hq⟩
    obtain ⟨_, T9, L9, X9, hQ9, st9⟩ := o_cS (y := o_N7) (g := (mkF m 32 #[oR ac, oI 0, oI 2, oR b1, oI zr3, oR yy6] [(.int zr3), (.ref yy6)])) (as := [(.ref yy6), (.int zr3)]) (rest := []) 0 X6 hx hZ hml hown (oV hw 247 rfl) (oV hw 248 rfl) (oV hw 18 rfl) (oV hw 249 rfl) (o_gch l Z a0 hw [] yy6 zr3 pu pw cs fm T6.heap n0 (Nat.le_trans Z0 KC6.1) hA0 hA1 hst (((O0.ext E1).keep K3q (allS g_b1 all0)).keep K6q all0)) rfl o_pd6 (hb hby D8_32)
    obtain ⟨rfl, N9q, e9⟩ := hQ9
    have N9 := Fr.app N6 N9q
    have pre10 : Goes p e below s1 F0 T9 (mkF m 35 #[oR ac, oI 0, oI 2, oR b1, oI zr3, oR yy6] [(.int (nar .char (o_GC pu pw)))]) := fun t kt => pre8 t (st9 t kt)
    have pre11 : Goes p e below s1 F0 T9 (mkF m 56 #[oR ac, oI 0, oI 2, oR b1, oI zr3, oR yy6] [(.ref yy6)]) := fun t kt => pre10 t (by
      refine XS.sipush X9.here hx rfl (hb hby D8_35) ?_
      refine o_icY 38 54 X9 hx hby D8_38 (tlt hG).2.2.1 ?_
      refine o_aL X9 hx hby D8_54 rfl ?_
      exact kt)
    refine o_eR X9 Bd hx pre11 (hb hby D8_56) e9 ?_
    exact ⟨yy6, ky6, (1 : Int32), rfl, N9, KC6, sz_yy6, g_yy6, Or.inr ⟨rfl, Vy6⟩⟩
def Q_o_cda2 (Z : State) (y : Addr) (ky : ClassId) (cd v0 v1 : Int32) (h0 : Heap) (n0 : Nat) (v : Option Value) (h : Heap) (L : List Loc) : Prop := v = some (.int cd) ∧ Fr n0 L ∧ h = h0
theorem o_cda2 (l : Launch) (Z : State) (a0 : Array Value) (hw : ∀ d ∈ tables_1, d.before a0 Z = true) (ws : List Jvm.Cond) (y : Addr) (ky : ClassId) (cd v0 v1 : Int32) (h0 : Heap) (n0 : Nat) (Z0 : n0 ≤ h0.size) (SDy : o_SD Z h0 y ky cd (2 : Int32) (4 : Int32) [(.int (o_by v0)), (.int (o_by v1))] [(.int (o_B0 v0)), (.int (o_B1 v0)), (.int (o_B0 v1)), (.int (o_B1 v1))] (¬ ((255 : Int32) < v0) ∧ ¬ ((255 : Int32) < v1))) :
    o_MF l o_N9 oY23 2 (some .byte) ws o_R2 #[(.ref y), (.int 2)] Z h0 (Q_o_cda2 Z y ky cd v0 v1 h0 n0) := by
  refine o_start (C := "java/lang/StringUTF16") rfl (plainFor_of_name o_pn_o_cin1) fun p e s m below meth c s1 F0 Bd hx hby hml hown hnm hZ X0 e0 hF0 => ?_
  have N0 := Fr.nil n0
  have pre0 : Goes p e below s1 F0 s1 (mkF m 0 #[oR y, oI 2] []) := fun t k => castTop (hF0.trans (by simp [entryFrame, mkF, argsToLocals, Value.category])) k
  rcases (id SDy) with ⟨hcd, hp, Vy⟩ | ⟨hcd, Vy⟩
  · -- coder 0
    obtain ⟨cl1, Ar1, q1, S1, N_1, H1, G1⟩ := (id (Vy))
    have pre2 : Goes p e below s1 F0 s1 (mkF m 7 #[oR y, oI 2] [(.int (((0 : Int32).toUInt32 >>> ((31 : Int32) &&& 31).toUInt32).toInt32))]) := fun t kt => pre0 t (by
      refine o_il X0 hx hby D9_0 rfl ?_
      refine o_al X0 hx hby D9_1 rfl ?_
      refine X0.arraylength hx (by (try rw [e0]); exact Ar1.1) (State.isArrayOf_alike hZ.alike Ar1.2.1) (g := (mkF m 2 #[oR y, oI 2] [(.ref y), (.int 2)])) rfl rfl (hb hby D9_2) _ ?_
      rw [len_of S1 N_1]
      refine XS.isub X0.here hx rfl (hb hby D9_3) rfl ?_
      refine o_bp X0 hx hby D9_4 ?_
      refine XS.iushr X0.here hx rfl (hb hby D9_6) rfl ?_
      exact kt)
    rw [show (((0 : Int32).toUInt32 >>> ((31 : Int32) &&& 31).toUInt32).toInt32) = (0 : Int32) from (by decide)] at pre2
    have pre3 : Goes p e below s1 F0 s1 (mkF m 8 #[oR y, oI 2] [(.int ((0 : Int32).toInt8.toInt32))]) := fun t kt => pre2 t (by
      refine XS.i2b X0.here hx rfl (hb hby D9_7) rfl ?_
      exact kt)
    refine o_eN X0 Bd hx pre3 (hb hby D9_8) e0 ?_
    exact ⟨by rw [hcd]; rfl, N0, rfl⟩
  · -- coder 1
    obtain ⟨cl4, Ar4, q4, S4, N_4, H4, G4⟩ := (id (Vy))
    have pre5 : Goes p e below s1 F0 s1 (mkF m 7 #[oR y, oI 2] [(.int (((-2 : Int32).toUInt32 >>> ((31 : Int32) &&& 31).toUInt32).toInt32))]) := fun t kt => pre0 t (by
      refine o_il X0 hx hby D9_0 rfl ?_
      refine o_al X0 hx hby D9_1 rfl ?_
      refine X0.arraylength hx (by (try rw [e0]); exact Ar4.1) (State.isArrayOf_alike hZ.alike Ar4.2.1) (g := (mkF m 2 #[oR y, oI 2] [(.ref y), (.int 2)])) rfl rfl (hb hby D9_2) _ ?_
      rw [len_of S4 N_4]
      refine XS.isub X0.here hx rfl (hb hby D9_3) rfl ?_
      refine o_bp X0 hx hby D9_4 ?_
      refine XS.iushr X0.here hx rfl (hb hby D9_6) rfl ?_
      exact kt)
    rw [show (((-2 : Int32).toUInt32 >>> ((31 : Int32) &&& 31).toUInt32).toInt32) = (1 : Int32) from (by decide)] at pre5
    have pre6 : Goes p e below s1 F0 s1 (mkF m 8 #[oR y, oI 2] [(.int ((1 : Int32).toInt8.toInt32))]) := fun t kt => pre5 t (by
      refine XS.i2b X0.here hx rfl (hb hby D9_7) rfl ?_
      exact kt)
    refine o_eN X0 Bd hx pre6 (hb hby D9_8) e0 ?_
    exact ⟨by rw [hcd]; rfl, N0, rfl⟩
def Q_o_sI2 (Z : State) (a1 ac : Addr) (kc : ClassId) (uv uc : Value) (v0 v1 cs : Int32) (fm : Value) (h0 : Heap) (n0 : Nat) (v : Option Value) (h : Heap) (L : List Loc) : Prop := v = none ∧ Fr n0 L ∧ Keep h0 h [a1] ∧ Exa Z h a1 "java/lang/String" ∧ ∃ (cd : Int32) (y : Addr) (ky : ClassId), Fld Z h a1 "java/lang/String" "coder" "B" (.int cd) ∧ Fld Z h a1 "java/lang/String" "value" "[B" (.ref y) ∧ o_SD Z h y ky cd (2 : Int32) (4 : Int32) [(.int (o_by v0)), (.int (o_by v1))] [(.int (o_B0 v0)), (.int (o_B1 v0)), (.int (o_B0 v1)), (.int (o_B1 v1))] (¬ ((255 : Int32) < v0) ∧ ¬ ((255 : Int32) < v1))
theorem o_sI2 (l : Launch) (Z : State) (a0 : Array Value) (hw : ∀ d ∈ tables_1, d.before a0 Z = true) (ws : List Jvm.Cond) (a1 ac : Addr) (kc : ClassId) (uv uc : Value) (v0 v1 cs : Int32) (fm : Value) (h0 : Heap) (n0 : Nat) (Z0 : n0 ≤ h0.size) (E_a1 : Exa Z h0 a1 "java/lang/String") (Fv : Fld Z h0 a1 "java/lang/String" "value" "[B" uv) (Fc : Fld Z h0 a1 "java/lang/String" "coder" "B" uc) (g_a1 : n0 ≤ a1) (V_ac : Arv Z h0 ac kc .char (2 : Int32) [(.int v0), (.int v1)] (.int 0)) (hl0 : (0 ≤ v0.toInt ∧ v0.toInt < 65536)) (hl1 : (0 ≤ v1.toInt ∧ v1.toInt < 65536)) (hst : o_ST Z cs fm) (O0 : Old Z n0 h0) :
    o_MF l o_N0 oY9 6 none ws o_R11 #[(.ref a1), (.ref ac), (.int 0), (.int 2), .null] Z h0 (Q_o_sI2 Z a1 ac kc uv uc v0 v1 cs fm h0 n0) := by
  refine o_start (C := "java/lang/String") rfl (plainFor_of_name o_pn_o_sI0) fun p e s m below meth c s1 F0 Bd hx hby hml hown hnm hZ X0 e0 hF0 => ?_
  have N0 := Fr.nil n0
  have pre0 : Goes p e below s1 F0 s1 (mkF m 0 #[oR a1, oR ac, oI 0, oI 2, .val .null, oU] []) := fun t k => castTop (hF0.trans (by simp [entryFrame, mkF, argsToLocals, Value.category])) k
  obtain ⟨T1, X1, e1, st1⟩ := initO X0 hx hZ hown (oV hw 12 rfl) (oV hw 13 rfl) (oV hw 14 rfl) e0 (g := (mkF m 1 #[oR a1, oR ac, oI 0, oI 2, .val .null, oU] [(.ref a1)])) rfl (by rw [hml]; rfl) rfl (hb hby D0_1) (by decide) (W := 0) (by show 2 * 0 + _ ≤ _; exact Nat.le_of_eq rfl) (by decide)
  have pre2 : Goes p e below s1 F0 T1 (mkF m 4 #[oR a1, oR ac, oI 0, oI 2, .val .null, oU] []) := fun t kt => pre0 t (by
    refine o_al X0 hx hby D0_0 rfl ?_
    exact st1 t kt)
  obtain ⟨T3, X3, e3, st3⟩ := getS2 X1 hx hZ hown (host := "") (Or.inl (oV hw 15 rfl)) Via.refl e1 (hst.1.ext O0.2) (g := (mkF m 27 #[oR a1, oR ac, oI 0, oI 2, .val .null, oU] [])) rfl (hb hby D0_27)
  have pre4 : Goes p e below s1 F0 T3 (mkF m 30 #[oR a1, oR ac, oI 0, oI 2, .val .null, oU] [(.int cs)]) := fun t kt => pre2 t (by
    refine o_il X1 hx hby D0_4 rfl ?_
    refine o_ifY 5 27 X1 hx hby D0_5 ((if0 _ _).trans (feq (by decide : ¬ ((2 : Int32) = (0 : Int32)))).2) ?_
    exact st3 t kt)
  obtain ⟨_, T5, L5, X5, hQ5, st5⟩ := o_cS (y := o_N8) (g := (mkF m 36 #[oR a1, oR ac, oI 0, oI 2, .val .null, oU] [(.int 2), (.int 0), (.ref ac)])) (as := [(.ref ac), (.int 0), (.int 2)]) (rest := []) 0 X3 hx hZ hml hown (oV hw 16 rfl) (oV hw 17 rfl) (oV hw 18 rfl) (oV hw 19 rfl) (o_cou2 l Z a0 hw [] ac kc v0 v1 cs fm h0 n0 Z0 V_ac hl0 hl1 hst O0) e3 o_pd5 (hb hby D0_36)
  obtain ⟨yy5, ky5, cd5, rfl, N5q, K5q, zy5, gy5, Dy5⟩ := hQ5
  have N5 := Fr.app N0 N5q
  have KC5 : Keep h0 T5.heap [a1] := (Keep.refl h0 [a1]).trans K5q all0
  have pre6 : Goes p e below s1 F0 T5 (mkF m 39 #[oR a1, oR ac, oI 0, oI 2, .val .null, oU] [(.ref yy5)]) := fun t kt => pre4 t (by
    refine o_ifN X3 hx hby D0_30 ((if0 _ _).trans (feq hst.2.1).1) ?_
    refine o_al X3 hx hby D0_33 rfl ?_
    refine o_il X3 hx hby D0_34 rfl ?_
    refine o_il X3 hx hby D0_35 rfl ?_
    exact st5 t kt)
  have sz_yy5 := zy5
  have g_yy5 := gy5
  obtain ⟨_, T7, L7, X7, hQ7, st7⟩ := o_cS (y := o_N9) (g := (mkF m 45 #[oR a1, oR ac, oI 0, oI 2, .val .null, oR yy5] [(.int 2), (.ref yy5), (.ref a1)])) (as := [(.ref yy5), (.int 2)]) (rest := [(.ref a1)]) 1 X5 hx hZ hml hown (oV hw 24 rfl) (oV hw 25 rfl) (oV hw 18 rfl) (oV hw 26 rfl) (o_cda2 l Z a0 hw [] yy5 ky5 cd5 v0 v1 T5.heap n0 (Nat.le_trans Z0 KC5.1) Dy5) rfl o_pd7 (hb hby D0_45)
  obtain ⟨rfl, N7q, e7⟩ := hQ7
  have N7 := Fr.app N5 N7q
  have pre8 : Goes p e below s1 F0 T7 (mkF m 48 #[oR a1, oR ac, oI 0, oI 2, .val .null, oR yy5] [(.int cd5), (.ref a1)]) := fun t kt => pre6 t (by
    refine XS.astore X5.here hx rfl (hb hby D0_39) rfl rfl (l' := #[oR a1, oR ac, oI 0, oI 2, .val .null, oR yy5]) rfl ?_
    refine o_al X5 hx hby D0_41 rfl ?_
    refine o_aL X5 hx hby D0_42 rfl ?_
    refine o_il X5 hx hby D0_44 rfl ?_
    exact st7 t kt)
  have hB : narrow .byte (.int cd5) = .int cd5 ∧ fits .byte (.int cd5) = true := by rcases Dy5 with ⟨rfl, -, -⟩ | ⟨rfl, -⟩ <;> exact ⟨rfl, rfl⟩
  obtain ⟨T9, h9, X9, e9, W9, st9⟩ := putFN X7 hx hZ hown (oV hw 27 rfl) Via.refl e7 (Fc.keep K5q nin0) (E_a1.keep K5q) (Or.inr ⟨(oV hw 28 rfl), rfl, hnm⟩) (oV hw 3 rfl) (ty := .byte) (v' := (.int cd5)) (by decide) hB.1 hB.2 (g := (mkF m 48 #[oR a1, oR ac, oI 0, oI 2, .val .null, oR yy5] [(.int cd5), (.ref a1)])) rfl rfl (hb hby D0_48)
  have Fw9 := (Fc.keep K5q nin0).same W9
  have K9 : Keep h0 h9 [a1] := KC5.wr W9 (Or.inl (o_mG (i := 0) rfl))
  have N9 := Fr.snoc X9 N7 g_a1
  have pre10 : Goes p e below s1 F0 T9 (mkF m 51 #[oR a1, oR ac, oI 0, oI 2, .val .null, oR yy5] []) := fun t kt => pre8 t (st9 t kt)
  obtain ⟨T11, h11, X11, e11, W11, st11⟩ := putF X9 hx hZ hown (host := "") (Or.inl (oV hw 29 rfl)) Via.refl e9 ((Fv.keep K5q nin0).other W9 (Or.inr (slot_ne (Or.inr (oV hw 30 rfl)) (Or.inr (oV hw 28 rfl)) (by decide) (t := (.array .byte)) (t' := .byte) (by decide) (by decide)))) ((E_a1.keep K5q).wr W9) (Or.inr ⟨(oV hw 30 rfl), rfl, hnm⟩) (oV hw 3 rfl) (ty := (.array .byte)) (by decide) rfl rfl (g := (mkF m 54 #[oR a1, oR ac, oI 0, oI 2, .val .null, oR yy5] [(.ref yy5), (.ref a1)])) rfl rfl (hb hby D0_54)
  have Fw11 := ((Fv.keep K5q nin0).other W9 (Or.inr (slot_ne (Or.inr (oV hw 30 rfl)) (Or.inr (oV hw 28 rfl)) (by decide) (t := (.array .byte)) (t' := .byte) (by decide) (by decide)))).same W11
  have K11 : Keep h0 h11 [a1] := K9.wr W11 (Or.inl (o_mG (i := 0) rfl))
  have N11 := Fr.snoc X11 N9 g_a1
  have pre12 : Goes p e below s1 F0 T11 (mkF m 57 #[oR a1, oR ac, oI 0, oI 2, .val .null, oR yy5] []) := fun t kt => pre10 t (by
    refine o_al X9 hx hby D0_51 rfl ?_
    refine o_aL X9 hx hby D0_52 rfl ?_
    exact st11 t kt)
  refine o_eV X11 Bd hx pre12 (hb hby D0_57) e11 ?_
  exact ⟨rfl, N11, K11, (((E_a1.keep K5q).wr W9).wr W11), cd5, yy5, ky5, (Fw9.other W11 (Or.inr (slot_ne (Or.inr (oV hw 28 rfl)) (Or.inr (oV hw 30 rfl)) (by decide) (t := .byte) (t' := (.array .byte)) (by decide) (by decide)))), Fw11, ((Dy5.other W9 (Ne.symm (Nat.ne_of_lt (Nat.lt_of_lt_of_le E_a1.lt zy5)))).other W11 (Ne.symm (Nat.ne_of_lt (Nat.lt_of_lt_of_le E_a1.lt zy5))))⟩
def Q_o_sJ2 (Z : State) (a1 ac : Addr) (kc : ClassId) (uv uc : Value) (v0 v1 cs : Int32) (fm : Value) (h0 : Heap) (n0 : Nat) (v : Option Value) (h : Heap) (L : List Loc) : Prop := v = none ∧ Fr n0 L ∧ Keep h0 h [a1] ∧ Exa Z h a1 "java/lang/String" ∧ ∃ (cd : Int32) (y : Addr) (ky : ClassId), Fld Z h a1 "java/lang/String" "coder" "B" (.int cd) ∧ Fld Z h a1 "java/lang/String" "value" "[B" (.ref y) ∧ o_SD Z h y ky cd (2 : Int32) (4 : Int32) [(.int (o_by v0)), (.int (o_by v1))] [(.int (o_B0 v0)), (.int (o_B1 v0)), (.int (o_B0 v1)), (.int (o_B1 v1))] (¬ ((255 : Int32) < v0) ∧ ¬ ((255 : Int32) < v1))
theorem o_sJ2 (l : Launch) (Z : State) (a0 : Array Value) (hw : ∀ d ∈ tables_1, d.before a0 Z = true) (ws : List Jvm.Cond) (a1 ac : Addr) (kc : ClassId) (uv uc : Value) (v0 v1 cs : Int32) (fm : Value) (h0 : Heap) (n0 : Nat) (Z0 : n0 ≤ h0.size) (E_a1 : Exa Z h0 a1 "java/lang/String") (Fv : Fld Z h0 a1 "java/lang/String" "value" "[B" uv) (Fc : Fld Z h0 a1 "java/lang/String" "coder" "B" uc) (g_a1 : n0 ≤ a1) (V_ac : Arv Z h0 ac kc .char (2 : Int32) [(.int v0), (.int v1)] (.int 0)) (hl0 : (0 ≤ v0.toInt ∧ v0.toInt < 65536)) (hl1 : (0 ≤ v1.toInt ∧ v1.toInt < 65536)) (hst : o_ST Z cs fm) (O0 : Old Z n0 h0) :
    o_MF l o_N1 oY16 2 none ws o_R12 #[(.ref a1), (.ref ac)] Z h0 (Q_o_sJ2 Z a1 ac kc uv uc v0 v1 cs fm h0 n0) := by
  refine o_start (C := "java/lang/String") rfl (plainFor_of_name o_pn_o_sI0) fun p e s m below meth c s1 F0 Bd hx hby hml hown hnm hZ X0 e0 hF0 => ?_
  have N0 := Fr.nil n0
  have pre0 : Goes p e below s1 F0 s1 (mkF m 0 #[oR a1, oR ac] []) := fun t k => castTop (hF0.trans (by simp [entryFrame, mkF, argsToLocals, Value.category])) k
  obtain ⟨cl1, Ar1, q1, S1, N_1, H1, G1⟩ := (id (V_ac))
  obtain ⟨_, T2, L2, X2, hQ2, st2⟩ := o_cI (y := o_N0) (b := a1) (g := (mkF m 6 #[oR a1, oR ac] [.null, (.int 2), (.int 0), (.ref ac), (.ref a1)])) (as := [(.ref ac), (.int 0), (.int 2), .null]) (rest := []) 0 X0 hx hZ hml hown (oV hw 8 rfl) (oV hw 9 rfl) (oV hw 11 rfl) (oV hw 4 rfl) (o_sI2 l Z a0 hw [] a1 ac kc uv uc v0 v1 cs fm h0 n0 Z0 E_a1 Fv Fc g_a1 V_ac hl0 hl1 hst O0) e0 o_pd0 (hb hby D1_6)
  obtain ⟨rfl, N2q, K2q, Rest2⟩ := hQ2
  have N2 := Fr.app N0 N2q
  have KC2 : Keep h0 T2.heap [a1] := (Keep.refl h0 [a1]).trans K2q (allS (Or.inl (o_mG (i := 0) rfl)) all0)
  have pre3 : Goes p e below s1 F0 T2 (mkF m 9 #[oR a1, oR ac] []) := fun t kt => pre0 t (by
    refine o_al X0 hx hby D1_0 rfl ?_
    refine o_al X0 hx hby D1_1 rfl ?_
    refine o_ic X0 hx hby D1_2 ?_
    refine o_al X0 hx hby D1_3 rfl ?_
    refine X0.arraylength hx (by (try rw [e0]); exact Ar1.1) (State.isArrayOf_alike hZ.alike Ar1.2.1) (g := (mkF m 4 #[oR a1, oR ac] [(.ref ac), (.int 0), (.ref ac), (.ref a1)])) rfl rfl (hb hby D1_4) _ ?_
    rw [len_of S1 N_1]
    refine XS.aconstNull X0.here hx rfl (hb hby D1_5) ?_
    exact st2 t kt)
  refine o_eV X2 Bd hx pre3 (hb hby D1_9) rfl ?_
  exact ⟨rfl, N2, KC2, Rest2⟩
def Q_o_cin3 (Z : State) (ac ab : Addr) (kc kb : ClassId) (v0 v1 v2 : Int32) (h0 : Heap) (n0 : Nat) (v : Option Value) (h : Heap) (L : List Loc) : Prop := ∃ z : Int32, v = some (.int z) ∧ Fr n0 L ∧ Keep h0 h [ab] ∧ ((z = (3 : Int32) ∧ (¬ ((255 : Int32) < v0) ∧ ¬ ((255 : Int32) < v1) ∧ ¬ ((255 : Int32) < v2)) ∧ Arv Z h ab kb .byte (3 : Int32) [(.int (o_by v0)), (.int (o_by v1)), (.int (o_by v2))] (.int 0)) ∨ (z = (0 : Int32) ∧ (255 : Int32) < v0) ∨ (z = (1 : Int32) ∧ (255 : Int32) < v1) ∨ (z = (2 : Int32) ∧ (255 : Int32) < v2))
theorem o_cin3 (l : Launch) (Z : State) (a0 : Array Value) (hw : ∀ d ∈ tables_1, d.before a0 Z = true) (ws : List Jvm.Cond) (ac ab : Addr) (kc kb : ClassId) (v0 v1 v2 : Int32) (h0 : Heap) (n0 : Nat) (Z0 : n0 ≤ h0.size) (V_ac : Arv Z h0 ac kc .char (3 : Int32) [(.int v0), (.int v1), (.int v2)] (.int 0)) (V_ab : Arv Z h0 ab kb .byte (3 : Int32) [(.int 0), (.int 0), (.int 0)] (.int 0)) (g_ab : n0 ≤ ab) (nab : ac ≠ ab) :
    o_MF l o_N2 oY25 7 (some .int) ws o_R2 #[(.ref ac), (.int 0), (.ref ab), (.int 0), (.int 3)] Z h0 (Q_o_cin3 Z ac ab kc kb v0 v1 v2 h0 n0) := by
  refine o_start (C := "java/lang/StringUTF16") rfl (plainFor_of_name o_pn_o_cin1) fun p e s m below meth c s1 F0 Bd hx hby hml hown hnm hZ X0 e0 hF0 => ?_
  have N0 := Fr.nil n0
  have pre0 : Goes p e below s1 F0 s1 (mkF m 0 #[oR ac, oI 0, oR ab, oI 0, oI 3, oU, oU] []) := fun t k => castTop (hF0.trans (by simp [entryFrame, mkF, argsToLocals, Value.category])) k
  obtain ⟨cl1, Ar1, q1, S1, N_1, H1, G1⟩ := (id (V_ac))
  have hin1 : ¬ ((0 : Int32) < 0 ∨ cl1.slots.size ≤ ((0 : Int32)).toNatClampNeg) := inb_of S1 ⟨by decide, by decide⟩
  have hat1 : cl1.slots[((0 : Int32)).toNatClampNeg]? = some (.int v0) := Has.at H1 hin1 rfl
  have pre2 : Goes p e below s1 F0 s1 (mkF m 20 #[oR ac, oI 0, oR ab, oI 0, oI 3, oI 0, oI v0] [(.int 255), (.int v0)]) := fun t kt => pre0 t (by
    refine o_ic X0 hx hby D2_0 ?_
    refine XS.istore X0.here hx rfl (hb hby D2_1) rfl (l' := #[oR ac, oI 0, oR ab, oI 0, oI 3, oI 0, oU]) rfl ?_
    refine o_iL X0 hx hby D2_3 rfl ?_
    refine o_iL X0 hx hby D2_5 rfl ?_
    refine o_icN X0 hx hby D2_7 (tlt (by decide : (0 : Int32) < (3 : Int32))).2.1 ?_
    refine o_al X0 hx hby D2_10 rfl ?_
    refine o_il X0 hx hby D2_11 rfl ?_
    refine X0.caload hx (j := (0 : Int32)) (v := (.int v0)) (by (try rw [e0]); exact Ar1.1) (State.isArrayOf_alike hZ.alike Ar1.2.1) Ar1.2.2 hin1 hat1 (g := (mkF m 12 #[oR ac, oI 0, oR ab, oI 0, oI 3, oI 0, oU] [(.int 0), (.ref ac)])) rfl rfl (hb hby D2_12) _ ?_
    show Steps p.tables e below (s1.setTop (mkF m 13 #[oR ac, oI 0, oR ab, oI 0, oI 3, oI 0, oU] [(.int v0)])) _
    refine XS.istore X0.here hx rfl (hb hby D2_13) rfl (l' := #[oR ac, oI 0, oR ab, oI 0, oI 3, oI 0, oI v0]) rfl ?_
    refine o_iL X0 hx hby D2_15 rfl ?_
    refine XS.sipush X0.here hx rfl (hb hby D2_17) ?_
    exact kt)
  by_cases hc20_3 : (255 : Int32) < v0
  · -- yes at pc 20: f
    have pre4 : Goes p e below s1 F0 s1 (mkF m 25 #[oR ac, oI 0, oR ab, oI 0, oI 3, oI 0, oI v0] [(.int 0)]) := fun t kt => pre2 t (by
      refine o_icN X0 hx hby D2_20 (tlt hc20_3).2.2.2 ?_
      refine o_iL X0 hx hby D2_23 rfl ?_
      exact kt)
    refine o_eI X0 Bd hx pre4 (hb hby D2_25) e0 ?_
    exact ⟨_, rfl, N0, (Keep.refl h0 [ab]), (Or.inr (Or.inl ⟨rfl, hc20_3⟩))⟩
  · -- no at pc 20: f
    obtain ⟨cl5, Ar5, q5, S5, N_5, H5, G5⟩ := (id (V_ab))
    have hin5 : ¬ ((0 : Int32) < 0 ∨ cl5.slots.size ≤ ((0 : Int32)).toNatClampNeg) := inb_of S5 ⟨by decide, by decide⟩
    obtain ⟨T6, h6, X6, e6, W6, st6⟩ := stB X0 hx hZ e0 Ar5 (j := (0 : Int32)) hin5 (g := (mkF m 31 #[oR ac, oI 0, oR ab, oI 0, oI 3, oI 0, oI v0] [(.int (v0.toInt8.toInt32)), (.int 0), (.ref ab)])) rfl rfl (hb hby D2_31)
    have V6 : Arv Z h6 ab kb .byte (3 : Int32) [(.int (nar .byte (v0.toInt8.toInt32))), (.int 0), (.int 0)] (.int 0) := Arv.set Ar5 q5 S5 N_5 H5 G5 (fits_nar_byte _) W6 0 rfl (Nat.le_of_ble_eq_true rfl)
    have K6 : Keep h0 h6 [ab] := (Keep.refl h0 [ab]).wr W6 (Or.inl (o_mG (i := 0) rfl))
    have N6 := Fr.snoc X6 N0 g_ab
    have pre7 : Goes p e below s1 F0 T6 (mkF m 32 #[oR ac, oI 0, oR ab, oI 0, oI 3, oI 0, oI v0] []) := fun t kt => pre2 t (by
      refine o_icY 20 26 X0 hx hby D2_20 (flt hc20_3).2.2.2 ?_
      refine o_al X0 hx hby D2_26 rfl ?_
      refine o_il X0 hx hby D2_27 rfl ?_
      refine o_iL X0 hx hby D2_28 rfl ?_
      refine XS.i2b X0.here hx rfl (hb hby D2_30) rfl ?_
      exact st6 t kt)
    obtain ⟨cl8, Ar8, q8, S8, N_8, H8, G8⟩ := (id ((V_ac.other W6 nab)))
    have hin8 : ¬ ((1 : Int32) < 0 ∨ cl8.slots.size ≤ ((1 : Int32)).toNatClampNeg) := inb_of S8 ⟨by decide, by decide⟩
    have hat8 : cl8.slots[((1 : Int32)).toNatClampNeg]? = some (.int v1) := Has.at H8 hin8 rfl
    have pre9 : Goes p e below s1 F0 T6 (mkF m 20 #[oR ac, oI 1, oR ab, oI 1, oI 3, oI 1, oI v1] [(.int 255), (.int v1)]) := fun t kt => pre7 t (by
      refine XS.iinc X6.here hx rfl (hb hby D2_32) rfl (l' := #[oR ac, oI 1, oR ab, oI 0, oI 3, oI 0, oI v0]) rfl ?_
      refine XS.iinc X6.here hx rfl (hb hby D2_35) rfl (l' := #[oR ac, oI 1, oR ab, oI 1, oI 3, oI 0, oI v0]) rfl ?_
      refine XS.iinc X6.here hx rfl (hb hby D2_38) rfl (l' := #[oR ac, oI 1, oR ab, oI 1, oI 3, oI 1, oI v0]) rfl ?_
      refine o_gt 41 3 X6 hx hby D2_41 ?_
      refine o_iL X6 hx hby D2_3 rfl ?_
      refine o_iL X6 hx hby D2_5 rfl ?_
      refine o_icN X6 hx hby D2_7 (tlt (by decide : (1 : Int32) < (3 : Int32))).2.1 ?_
      refine o_al X6 hx hby D2_10 rfl ?_
      show Steps p.tables e below (T6.setTop (mkF m 11 #[oR ac, oI 1, oR ab, oI 1, oI 3, oI 1, oI v0] [(.ref ac)])) _
      refine o_il X6 hx hby D2_11 rfl ?_
      refine X6.caload hx (j := (1 : Int32)) (v := (.int v1)) (by (try rw [e6]); exact Ar8.1) (State.isArrayOf_alike hZ.alike Ar8.2.1) Ar8.2.2 hin8 hat8 (g := (mkF m 12 #[oR ac, oI 1, oR ab, oI 1, oI 3, oI 1, oI v0] [(.int 1), (.ref ac)])) rfl rfl (hb hby D2_12) _ ?_
      refine XS.istore X6.here hx rfl (hb hby D2_13) rfl (l' := #[oR ac, oI 1, oR ab, oI 1, oI 3, oI 1, oI v1]) rfl ?_
      refine o_iL X6 hx hby D2_15 rfl ?_
      refine XS.sipush X6.here hx rfl (hb hby D2_17) ?_
      exact kt)
    by_cases hc20_10 : (255 : Int32) < v1
    · -- yes at pc 20: ftf
      have pre11 : Goes p e below s1 F0 T6 (mkF m 25 #[oR ac, oI 1, oR ab, oI 1, oI 3, oI 1, oI v1] [(.int 1)]) := fun t kt => pre9 t (by
        refine o_icN X6 hx hby D2_20 (tlt hc20_10).2.2.2 ?_
        refine o_iL X6 hx hby D2_23 rfl ?_
        exact kt)
      refine o_eI X6 Bd hx pre11 (hb hby D2_25) e6 ?_
      exact ⟨_, rfl, N6, K6, (Or.inr (Or.inr (Or.inl ⟨rfl, hc20_10⟩)))⟩
    · -- no at pc 20: ftf
      obtain ⟨cl12, Ar12, q12, S12, N_12, H12, G12⟩ := (id (V6))
      have hin12 : ¬ ((1 : Int32) < 0 ∨ cl12.slots.size ≤ ((1 : Int32)).toNatClampNeg) := inb_of S12 ⟨by decide, by decide⟩
      obtain ⟨T13, h13, X13, e13, W13, st13⟩ := stB X6 hx hZ e6 Ar12 (j := (1 : Int32)) hin12 (g := (mkF m 31 #[oR ac, oI 1, oR ab, oI 1, oI 3, oI 1, oI v1] [(.int (v1.toInt8.toInt32)), (.int 1), (.ref ab)])) rfl rfl (hb hby D2_31)
      have V13 : Arv Z h13 ab kb .byte (3 : Int32) [(.int (nar .byte (v0.toInt8.toInt32))), (.int (nar .byte (v1.toInt8.toInt32))), (.int 0)] (.int 0) := Arv.set Ar12 q12 S12 N_12 H12 G12 (fits_nar_byte _) W13 1 rfl (Nat.le_of_ble_eq_true rfl)
      have K13 : Keep h0 h13 [ab] := K6.wr W13 (Or.inl (o_mG (i := 0) rfl))
      have N13 := Fr.snoc X13 N6 g_ab
      have pre14 : Goes p e below s1 F0 T13 (mkF m 32 #[oR ac, oI 1, oR ab, oI 1, oI 3, oI 1, oI v1] []) := fun t kt => pre9 t (by
        refine o_icY 20 26 X6 hx hby D2_20 (flt hc20_10).2.2.2 ?_
        refine o_al X6 hx hby D2_26 rfl ?_
        refine o_il X6 hx hby D2_27 rfl ?_
        refine o_iL X6 hx hby D2_28 rfl ?_
        refine XS.i2b X6.here hx rfl (hb hby D2_30) rfl ?_
        exact st13 t kt)
      obtain ⟨cl15, Ar15, q15, S15, N_15, H15, G15⟩ := (id (((V_ac.other W6 nab).other W13 nab)))
      have hin15 : ¬ ((2 : Int32) < 0 ∨ cl15.slots.size ≤ ((2 : Int32)).toNatClampNeg) := inb_of S15 ⟨by decide, by decide⟩
      have hat15 : cl15.slots[((2 : Int32)).toNatClampNeg]? = some (.int v2) := Has.at H15 hin15 rfl
      have pre16 : Goes p e below s1 F0 T13 (mkF m 20 #[oR ac, oI 2, oR ab, oI 2, oI 3, oI 2, oI v2] [(.int 255), (.int v2)]) := fun t kt => pre14 t (by
        refine XS.iinc X13.here hx rfl (hb hby D2_32) rfl (l' := #[oR ac, oI 2, oR ab, oI 1, oI 3, oI 1, oI v1]) rfl ?_
        refine XS.iinc X13.here hx rfl (hb hby D2_35) rfl (l' := #[oR ac, oI 2, oR ab, oI 2, oI 3, oI 1, oI v1]) rfl ?_
        refine XS.iinc X13.here hx rfl (hb hby D2_38) rfl (l' := #[oR ac, oI 2, oR ab, oI 2, oI 3, oI 2, oI v1]) rfl ?_
        refine o_gt 41 3 X13 hx hby D2_41 ?_
        refine o_iL X13 hx hby D2_3 rfl ?_
        refine o_iL X13 hx hby D2_5 rfl ?_
        refine o_icN X13 hx hby D2_7 (tlt (by decide : (2 : Int32) < (3 : Int32))).2.1 ?_
        refine o_al X13 hx hby D2_10 rfl ?_
        show Steps p.tables e below (T13.setTop (mkF m 11 #[oR ac, oI 2, oR ab, oI 2, oI 3, oI 2, oI v1] [(.ref ac)])) _
        refine o_il X13 hx hby D2_11 rfl ?_
        refine X13.caload hx (j := (2 : Int32)) (v := (.int v2)) (by (try rw [e13]); exact Ar15.1) (State.isArrayOf_alike hZ.alike Ar15.2.1) Ar15.2.2 hin15 hat15 (g := (mkF m 12 #[oR ac, oI 2, oR ab, oI 2, oI 3, oI 2, oI v1] [(.int 2), (.ref ac)])) rfl rfl (hb hby D2_12) _ ?_
        refine XS.istore X13.here hx rfl (hb hby D2_13) rfl (l' := #[oR ac, oI 2, oR ab, oI 2, oI 3, oI 2, oI v2]) rfl ?_
        refine o_iL X13 hx hby D2_15 rfl ?_
        refine XS.sipush X13.here hx rfl (hb hby D2_17) ?_
        exact kt)
      by_cases hc20_17 : (255 : Int32) < v2
      · -- yes at pc 20: ftftf
        have pre18 : Goes p e below s1 F0 T13 (mkF m 25 #[oR ac, oI 2, oR ab, oI 2, oI 3, oI 2, oI v2] [(.int 2)]) := fun t kt => pre16 t (by
          refine o_icN X13 hx hby D2_20 (tlt hc20_17).2.2.2 ?_
          refine o_iL X13 hx hby D2_23 rfl ?_
          exact kt)
        refine o_eI X13 Bd hx pre18 (hb hby D2_25) e13 ?_
        exact ⟨_, rfl, N13, K13, (Or.inr (Or.inr (Or.inr (⟨rfl, hc20_17⟩))))⟩
      · -- no at pc 20: ftftf
        obtain ⟨cl19, Ar19, q19, S19, N_19, H19, G19⟩ := (id (V13))
        have hin19 : ¬ ((2 : Int32) < 0 ∨ cl19.slots.size ≤ ((2 : Int32)).toNatClampNeg) := inb_of S19 ⟨by decide, by decide⟩
        obtain ⟨T20, h20, X20, e20, W20, st20⟩ := stB X13 hx hZ e13 Ar19 (j := (2 : Int32)) hin19 (g := (mkF m 31 #[oR ac, oI 2, oR ab, oI 2, oI 3, oI 2, oI v2] [(.int (v2.toInt8.toInt32)), (.int 2), (.ref ab)])) rfl rfl (hb hby D2_31)
        have V20 : Arv Z h20 ab kb .byte (3 : Int32) [(.int (nar .byte (v0.toInt8.toInt32))), (.int (nar .byte (v1.toInt8.toInt32))), (.int (nar .byte (v2.toInt8.toInt32)))] (.int 0) := Arv.set Ar19 q19 S19 N_19 H19 G19 (fits_nar_byte _) W20 2 rfl (Nat.le_of_ble_eq_true rfl)
        have K20 : Keep h0 h20 [ab] := K13.wr W20 (Or.inl (o_mG (i := 0) rfl))
        have N20 := Fr.snoc X20 N13 g_ab
        have pre21 : Goes p e below s1 F0 T20 (mkF m 32 #[oR ac, oI 2, oR ab, oI 2, oI 3, oI 2, oI v2] []) := fun t kt => pre16 t (by
          refine o_icY 20 26 X13 hx hby D2_20 (flt hc20_17).2.2.2 ?_
          refine o_al X13 hx hby D2_26 rfl ?_
          refine o_il X13 hx hby D2_27 rfl ?_
          refine o_iL X13 hx hby D2_28 rfl ?_
          refine XS.i2b X13.here hx rfl (hb hby D2_30) rfl ?_
          exact st20 t kt)
        have pre22 : Goes p e below s1 F0 T20 (mkF m 46 #[oR ac, oI 3, oR ab, oI 3, oI 3, oI 3, oI v2] [(.int 3)]) := fun t kt => pre21 t (by
          refine XS.iinc X20.here hx rfl (hb hby D2_32) rfl (l' := #[oR ac, oI 3, oR ab, oI 2, oI 3, oI 2, oI v2]) rfl ?_
          refine XS.iinc X20.here hx rfl (hb hby D2_35) rfl (l' := #[oR ac, oI 3, oR ab, oI 3, oI 3, oI 2, oI v2]) rfl ?_
          refine XS.iinc X20.here hx rfl (hb hby D2_38) rfl (l' := #[oR ac, oI 3, oR ab, oI 3, oI 3, oI 3, oI v2]) rfl ?_
          refine o_gt 41 3 X20 hx hby D2_41 ?_
          refine o_iL X20 hx hby D2_3 rfl ?_
          refine o_iL X20 hx hby D2_5 rfl ?_
          refine o_icY 7 44 X20 hx hby D2_7 (flt (by decide : ¬ ((3 : Int32) < (3 : Int32)))).2.1 ?_
          refine o_iL X20 hx hby D2_44 rfl ?_
          exact kt)
        refine o_eI X20 Bd hx pre22 (hb hby D2_46) e20 ?_
        exact ⟨_, rfl, N20, K20, (Or.inl ⟨rfl, ⟨hc20_3, hc20_10, hc20_17⟩, V20⟩)⟩
def Q_o_nbl3 (Z : State)  (h0 : Heap) (n0 : Nat) (v : Option Value) (h : Heap) (L : List Loc) : Prop := v = some (.int 6) ∧ Fr n0 L ∧ h = h0
theorem o_nbl3 (l : Launch) (Z : State) (a0 : Array Value) (hw : ∀ d ∈ tables_1, d.before a0 Z = true) (ws : List Jvm.Cond)  (h0 : Heap) (n0 : Nat) (Z0 : n0 ≤ h0.size) :
    o_MF l o_N3 oY27 1 (some .int) ws o_R2 #[(.int 3)] Z h0 (Q_o_nbl3 Z  h0 n0) := by
  refine o_start (C := "java/lang/StringUTF16") rfl (plainFor_of_name o_pn_o_cin1) fun p e s m below meth c s1 F0 Bd hx hby hml hown hnm hZ X0 e0 hF0 => ?_
  have N0 := Fr.nil n0
  have pre0 : Goes p e below s1 F0 s1 (mkF m 0 #[oI 3] []) := fun t k => castTop (hF0.trans (by simp [entryFrame, mkF, argsToLocals, Value.category])) k
  have pre1 : Goes p e below s1 F0 s1 (mkF m 58 #[oI 3] [(.int ((3 : Int32) <<< ((1 : Int32) &&& 31)))]) := fun t kt => pre0 t (by
    refine o_il X0 hx hby D3_0 rfl ?_
    refine o_ifY 1 12 X0 hx hby D3_1 ((if0 _ _).trans (flt (by decide : ¬ ((3 : Int32) < (0 : Int32)))).2.1) ?_
    refine o_il X0 hx hby D3_12 rfl ?_
    refine X0.ldcInt hx hown (oW hw hZ 240 rfl) (g := (mkF m 13 #[oI 3] [(.int 3)])) rfl (hb hby D3_13) _ ?_
    refine o_icY 15 55 X0 hx hby D3_15 (tlt (by decide : (3 : Int32) < (1073741823 : Int32))).1 ?_
    refine o_il X0 hx hby D3_55 rfl ?_
    refine o_ic X0 hx hby D3_56 ?_
    refine XS.ishl X0.here hx rfl (hb hby D3_57) rfl ?_
    exact kt)
  rw [show ((3 : Int32) <<< ((1 : Int32) &&& 31)) = (6 : Int32) from (by decide)] at pre1
  refine o_eI X0 Bd hx pre1 (hb hby D3_58) e0 ?_
  exact ⟨rfl, N0, rfl⟩
def Q_o_nbf3 (Z : State)  (h0 : Heap) (n0 : Nat) (v : Option Value) (h : Heap) (L : List Loc) : Prop := ∃ (y : Addr) (ky : ClassId), v = some (.ref y) ∧ Fr n0 L ∧ Keep h0 h [] ∧ h0.size ≤ y ∧ n0 ≤ y ∧ Arv Z h y ky .byte (6 : Int32) [(.int 0), (.int 0), (.int 0), (.int 0), (.int 0), (.int 0)] (.int 0)
theorem o_nbf3 (l : Launch) (Z : State) (a0 : Array Value) (hw : ∀ d ∈ tables_1, d.before a0 Z = true) (ws : List Jvm.Cond)  (h0 : Heap) (n0 : Nat) (Z0 : n0 ≤ h0.size) :
    o_MF l o_N4 oY26 1 (some (.array .byte)) ws o_R13 #[(.int 3)] Z h0 (Q_o_nbf3 Z  h0 n0) := by
  refine o_start (C := "java/lang/StringUTF16") rfl (plainFor_of_name o_pn_o_cin1) fun p e s m below meth c s1 F0 Bd hx hby hml hown hnm hZ X0 e0 hF0 => ?_
  have N0 := Fr.nil n0
  have pre0 : Goes p e below s1 F0 s1 (mkF m 0 #[oI 3] []) := fun t k => castTop (hF0.trans (by simp [entryFrame, mkF, argsToLocals, Value.category])) k
  obtain ⟨_, T1, L1, X1, hQ1, st1⟩ := o_cS (y := o_N3) (g := (mkF m 1 #[oI 3] [(.int 3)])) (as := [(.int 3)]) (rest := []) 0 X0 hx hZ hml hown (oV hw 237 rfl) (oV hw 238 rfl) (oV hw 18 rfl) (oV hw 239 rfl) (o_nbl3 l Z a0 hw []  h0 n0 Z0 ) e0 o_pd1 (hb hby D4_1)
  obtain ⟨rfl, N1q, e1⟩ := hQ1
  have N1 := Fr.app N0 N1q
  have pre2 : Goes p e below s1 F0 T1 (mkF m 4 #[oI 3] [(.int 6)]) := fun t kt => pre0 t (by
    refine o_il X0 hx hby D4_0 rfl ?_
    exact st1 t kt)
  obtain ⟨T3, h3, k3, X3, e3, E3, A3, st3⟩ := newP X1 hx hZ (oV hw 20 rfl) e1 (g := (mkF m 4 #[oI 3] [(.int 6)])) rfl (hb hby D4_4) rfl (by decide) (cap := 6) (by decide) (by decide) (by decide) (by decide)
  obtain ⟨b3, g3⟩ : ∃ z, z = h0.size := ⟨_, rfl⟩
  rw [← g3] at A3 st3
  have V_b3 : Arv Z h3 b3 k3 .byte (6 : Int32) [(.int 0), (.int 0), (.int 0), (.int 0), (.int 0), (.int 0)] (.int 0) := (Arv.new A3 (by decide)).pad (pad_rep [] (.int 0) 6)
  have g_b3 : n0 ≤ b3 := Nat.le_trans Z0 (Nat.le_of_eq g3.symm)
  have sz_b3 : h0.size ≤ b3 := (Nat.le_trans (Keep.refl h0 []).1 (Nat.le_of_eq g3.symm))
  have K3 : Keep h0 h3 [] := (Keep.refl h0 []).ext E3
  have pre4 : Goes p e below s1 F0 T3 (mkF m 6 #[oI 3] [(.ref b3)]) := fun t kt => pre2 t (st3 t kt)
  refine o_eR X3 Bd hx pre4 (hb hby D4_6) e3 ?_
  exact ⟨b3, k3, rfl, N1, K3, sz_b3, g_b3, V_b3⟩
def Q_o_tob3 (Z : State) (ac : Addr) (kc : ClassId) (v0 v1 : Int32) (v2 cs : Int32) (fm : Value) (h0 : Heap) (n0 : Nat) (v : Option Value) (h : Heap) (L : List Loc) : Prop := ∃ (y : Addr) (ky : ClassId), v = some (.ref y) ∧ Fr n0 L ∧ Keep h0 h [] ∧ h0.size ≤ y ∧ n0 ≤ y ∧ Arv Z h y ky .byte (6 : Int32) [(.int (o_B0 v0)), (.int (o_B1 v0)), (.int (o_B0 v1)), (.int (o_B1 v1)), (.int (o_B0 v2)), (.int (o_B1 v2))] (.int 0)
theorem o_tob3 (l : Launch) (Z : State) (a0 : Array Value) (hw : ∀ d ∈ tables_1, d.before a0 Z = true) (ws : List Jvm.Cond) (ac : Addr) (kc : ClassId) (v0 v1 : Int32) (v2 cs : Int32) (fm : Value) (h0 : Heap) (n0 : Nat) (Z0 : n0 ≤ h0.size) (V_ac : Arv Z h0 ac kc .char (3 : Int32) [(.int v0), (.int v1), (.int v2)] (.int 0)) (hst : o_ST Z cs fm) (O0 : Old Z n0 h0) :
    o_MF l o_N6 oY22 5 (some (.array .byte)) ws o_R14 #[(.ref ac), (.int 0), (.int 3)] Z h0 (Q_o_tob3 Z ac kc v0 v1 v2 cs fm h0 n0) := by
  refine o_start (C := "java/lang/StringUTF16") rfl (plainFor_of_name o_pn_o_cin1) fun p e s m below meth c s1 F0 Bd hx hby hml hown hnm hZ X0 e0 hF0 => ?_
  have N0 := Fr.nil n0
  have pre0 : Goes p e below s1 F0 s1 (mkF m 0 #[oR ac, oI 0, oI 3, oU, oU] []) := fun t k => castTop (hF0.trans (by simp [entryFrame, mkF, argsToLocals, Value.category])) k
  obtain ⟨_, T1, L1, X1, hQ1, st1⟩ := o_cS (y := o_N4) (g := (mkF m 1 #[oR ac, oI 0, oI 3, oU, oU] [(.int 3)])) (as := [(.int 3)]) (rest := []) 0 X0 hx hZ hml hown (oV hw 234 rfl) (oV hw 235 rfl) (oV hw 18 rfl) (oV hw 236 rfl) (o_nbf3 l Z a0 hw []  h0 n0 Z0 ) e0 o_pd2 (hb hby D6_1)
  obtain ⟨yy1, ky1, rfl, N1q, K1q, zy1, gy1, Vy1⟩ := hQ1
  have N1 := Fr.app N0 N1q
  have KC1 : Keep h0 T1.heap [] := (Keep.refl h0 []).trans K1q all0
  have pre2 : Goes p e below s1 F0 T1 (mkF m 4 #[oR ac, oI 0, oI 3, oU, oU] [(.ref yy1)]) := fun t kt => pre0 t (by
    refine o_il X0 hx hby D6_0 rfl ?_
    exact st1 t kt)
  have sz_yy1 := zy1
  have g_yy1 := gy1
  obtain ⟨cl3, Ar3, q3, S3, N_3, H3, G3⟩ := (id ((V_ac.keep K1q nin0)))
  have hin3 : ¬ ((0 : Int32) < 0 ∨ cl3.slots.size ≤ ((0 : Int32)).toNatClampNeg) := inb_of S3 ⟨by decide, by decide⟩
  have hat3 : cl3.slots[((0 : Int32)).toNatClampNeg]? = some (.int v0) := Has.at H3 hin3 rfl
  obtain ⟨_, T4, L4, X4, hQ4, st4⟩ := o_cS (y := o_N5) (g := (mkF m 20 #[oR ac, oI 0, oI 3, oR yy1, oI 0] [(.int v0), (.int 0), (.ref yy1)])) (as := [(.ref yy1), (.int 0), (.int v0)]) (rest := []) 0 X1 hx hZ hml hown (oV hw 241 rfl) (oV hw 242 rfl) (oV hw 18 rfl) (oV hw 243 rfl) (o_pch l Z a0 hw [] yy1 ky1 (6 : Int32) [(.int 0), (.int 0), (.int 0), (.int 0), (.int 0), (.int 0)] (0 : Int32) v0 cs fm T1.heap n0 (Nat.le_trans Z0 KC1.1) Vy1 (by decide) (by show _ < 6; decide) (by decide) (by show _ < 6; decide) g_yy1 hst (O0.keep K1q all0)) rfl o_pd3 (hb hby D6_20)
  obtain ⟨rfl, N4q, K4q, Vz4⟩ := hQ4
  have N4 := Fr.app N1 N4q
  have KC4 : Keep h0 T4.heap [] := KC1.trans K4q (allS (Or.inr sz_yy1) all0)
  have pre5 : Goes p e below s1 F0 T4 (mkF m 23 #[oR ac, oI 0, oI 3, oR yy1, oI 0] []) := fun t kt => pre2 t (by
    refine XS.astoreN X1.here hx rfl (hb hby D6_4) rfl rfl (l' := #[oR ac, oI 0, oI 3, oR yy1, oU]) rfl ?_
    refine o_ic X1 hx hby D6_5 ?_
    refine XS.istore X1.here hx rfl (hb hby D6_6) rfl (l' := #[oR ac, oI 0, oI 3, oR yy1, oI 0]) rfl ?_
    refine o_iL X1 hx hby D6_8 rfl ?_
    refine o_il X1 hx hby D6_10 rfl ?_
    refine o_icN X1 hx hby D6_11 (tlt (by decide : (0 : Int32) < (3 : Int32))).2.1 ?_
    refine o_al X1 hx hby D6_14 rfl ?_
    refine o_iL X1 hx hby D6_15 rfl ?_
    show Steps p.tables e below (T1.setTop (mkF m 17 #[oR ac, oI 0, oI 3, oR yy1, oI 0] [(.int 0), (.ref yy1)])) _
    refine o_al X1 hx hby D6_17 rfl ?_
    refine o_il X1 hx hby D6_18 rfl ?_
    refine X1.caload hx (j := (0 : Int32)) (v := (.int v0)) (by (try rw [rfl]); exact Ar3.1) (State.isArrayOf_alike hZ.alike Ar3.2.1) Ar3.2.2 hin3 hat3 (g := (mkF m 19 #[oR ac, oI 0, oI 3, oR yy1, oI 0] [(.int 0), (.ref ac), (.int 0), (.ref yy1)])) rfl rfl (hb hby D6_19) _ ?_
    exact st4 t kt)
  have Vw4 : Arv Z T4.heap yy1 ky1 .byte (6 : Int32) [(.int (o_B0 v0)), (.int (o_B1 v0)), (.int 0), (.int 0), (.int 0), (.int 0)] (.int 0) := Vz4
  obtain ⟨cl6, Ar6, q6, S6, N_6, H6, G6⟩ := (id (((V_ac.keep K1q nin0).keep K4q (ninS (Nat.ne_of_lt (Nat.lt_of_lt_of_le V_ac.lt zy1)) nin0))))
  have hin6 : ¬ ((1 : Int32) < 0 ∨ cl6.slots.size ≤ ((1 : Int32)).toNatClampNeg) := inb_of S6 ⟨by decide, by decide⟩
  have hat6 : cl6.slots[((1 : Int32)).toNatClampNeg]? = some (.int v1) := Has.at H6 hin6 rfl
  obtain ⟨_, T7, L7, X7, hQ7, st7⟩ := o_cS (y := o_N5) (g := (mkF m 20 #[oR ac, oI 1, oI 3, oR yy1, oI 1] [(.int v1), (.int 1), (.ref yy1)])) (as := [(.ref yy1), (.int 1), (.int v1)]) (rest := []) 0 X4 hx hZ hml hown (oV hw 241 rfl) (oV hw 242 rfl) (oV hw 18 rfl) (oV hw 243 rfl) (o_pch l Z a0 hw [] yy1 ky1 (6 : Int32) [(.int (o_B0 v0)), (.int (o_B1 v0)), (.int 0), (.int 0), (.int 0), (.int 0)] (1 : Int32) v1 cs fm T4.heap n0 (Nat.le_trans Z0 KC4.1) Vw4 (by decide) (by show _ < 6; decide) (by decide) (by show _ < 6; decide) g_yy1 hst ((O0.keep K1q all0).keep K4q (allS g_yy1 all0))) rfl o_pd3 (hb hby D6_20)
  obtain ⟨rfl, N7q, K7q, Vz7⟩ := hQ7
  have N7 := Fr.app N4 N7q
  have KC7 : Keep h0 T7.heap [] := KC4.trans K7q (allS (Or.inr sz_yy1) all0)
  have pre8 : Goes p e below s1 F0 T7 (mkF m 23 #[oR ac, oI 1, oI 3, oR yy1, oI 1] []) := fun t kt => pre5 t (by
    refine XS.iinc X4.here hx rfl (hb hby D6_23) rfl (l' := #[oR ac, oI 1, oI 3, oR yy1, oI 0]) rfl ?_
    refine XS.iinc X4.here hx rfl (hb hby D6_26) rfl (l' := #[oR ac, oI 1, oI 3, oR yy1, oI 1]) rfl ?_
    refine o_gt 29 8 X4 hx hby D6_29 ?_
    refine o_iL X4 hx hby D6_8 rfl ?_
    refine o_il X4 hx hby D6_10 rfl ?_
    refine o_icN X4 hx hby D6_11 (tlt (by decide : (1 : Int32) < (3 : Int32))).2.1 ?_
    refine o_al X4 hx hby D6_14 rfl ?_
    refine o_iL X4 hx hby D6_15 rfl ?_
    show Steps p.tables e below (T4.setTop (mkF m 17 #[oR ac, oI 1, oI 3, oR yy1, oI 1] [(.int 1), (.ref yy1)])) _
    refine o_al X4 hx hby D6_17 rfl ?_
    refine o_il X4 hx hby D6_18 rfl ?_
    refine X4.caload hx (j := (1 : Int32)) (v := (.int v1)) (by (try rw [rfl]); exact Ar6.1) (State.isArrayOf_alike hZ.alike Ar6.2.1) Ar6.2.2 hin6 hat6 (g := (mkF m 19 #[oR ac, oI 1, oI 3, oR yy1, oI 1] [(.int 1), (.ref ac), (.int 1), (.ref yy1)])) rfl rfl (hb hby D6_19) _ ?_
    exact st7 t kt)
  have Vw7 : Arv Z T7.heap yy1 ky1 .byte (6 : Int32) [(.int (o_B0 v0)), (.int (o_B1 v0)), (.int (o_B0 v1)), (.int (o_B1 v1)), (.int 0), (.int 0)] (.int 0) := Vz7
  obtain ⟨cl9, Ar9, q9, S9, N_9, H9, G9⟩ := (id ((((V_ac.keep K1q nin0).keep K4q (ninS (Nat.ne_of_lt (Nat.lt_of_lt_of_le V_ac.lt zy1)) nin0)).keep K7q (ninS (Nat.ne_of_lt (Nat.lt_of_lt_of_le V_ac.lt zy1)) nin0))))
  have hin9 : ¬ ((2 : Int32) < 0 ∨ cl9.slots.size ≤ ((2 : Int32)).toNatClampNeg) := inb_of S9 ⟨by decide, by decide⟩
  have hat9 : cl9.slots[((2 : Int32)).toNatClampNeg]? = some (.int v2) := Has.at H9 hin9 rfl
  obtain ⟨_, T10, L10, X10, hQ10, st10⟩ := o_cS (y := o_N5) (g := (mkF m 20 #[oR ac, oI 2, oI 3, oR yy1, oI 2] [(.int v2), (.int 2), (.ref yy1)])) (as := [(.ref yy1), (.int 2), (.int v2)]) (rest := []) 0 X7 hx hZ hml hown (oV hw 241 rfl) (oV hw 242 rfl) (oV hw 18 rfl) (oV hw 243 rfl) (o_pch l Z a0 hw [] yy1 ky1 (6 : Int32) [(.int (o_B0 v0)), (.int (o_B1 v0)), (.int (o_B0 v1)), (.int (o_B1 v1)), (.int 0), (.int 0)] (2 : Int32) v2 cs fm T7.heap n0 (Nat.le_trans Z0 KC7.1) Vw7 (by decide) (by show _ < 6; decide) (by decide) (by show _ < 6; decide) g_yy1 hst (((O0.keep K1q all0).keep K4q (allS g_yy1 all0)).keep K7q (allS g_yy1 all0))) rfl o_pd3 (hb hby D6_20)
  obtain ⟨rfl, N10q, K10q, Vz10⟩ := hQ10
  have N10 := Fr.app N7 N10q
  have KC10 : Keep h0 T10.heap [] := KC7.trans K10q (allS (Or.inr sz_yy1) all0)
  have pre11 : Goes p e below s1 F0 T10 (mkF m 23 #[oR ac, oI 2, oI 3, oR yy1, oI 2] []) := fun t kt => pre8 t (by
    refine XS.iinc X7.here hx rfl (hb hby D6_23) rfl (l' := #[oR ac, oI 2, oI 3, oR yy1, oI 1]) rfl ?_
    refine XS.iinc X7.here hx rfl (hb hby D6_26) rfl (l' := #[oR ac, oI 2, oI 3, oR yy1, oI 2]) rfl ?_
    refine o_gt 29 8 X7 hx hby D6_29 ?_
    refine o_iL X7 hx hby D6_8 rfl ?_
    refine o_il X7 hx hby D6_10 rfl ?_
    refine o_icN X7 hx hby D6_11 (tlt (by decide : (2 : Int32) < (3 : Int32))).2.1 ?_
    refine o_al X7 hx hby D6_14 rfl ?_
    refine o_iL X7 hx hby D6_15 rfl ?_
    show Steps p.tables e below (T7.setTop (mkF m 17 #[oR ac, oI 2, oI 3, oR yy1, oI 2] [(.int 2), (.ref yy1)])) _
    refine o_al X7 hx hby D6_17 rfl ?_
    refine o_il X7 hx hby D6_18 rfl ?_
    refine X7.caload hx (j := (2 : Int32)) (v := (.int v2)) (by (try rw [rfl]); exact Ar9.1) (State.isArrayOf_alike hZ.alike Ar9.2.1) Ar9.2.2 hin9 hat9 (g := (mkF m 19 #[oR ac, oI 2, oI 3, oR yy1, oI 2] [(.int 2), (.ref ac), (.int 2), (.ref yy1)])) rfl rfl (hb hby D6_19) _ ?_
    exact st10 t kt)
  have Vw10 : Arv Z T10.heap yy1 ky1 .byte (6 : Int32) [(.int (o_B0 v0)), (.int (o_B1 v0)), (.int (o_B0 v1)), (.int (o_B1 v1)), (.int (o_B0 v2)), (.int (o_B1 v2))] (.int 0) := Vz10
  have pre12 : Goes p e below s1 F0 T10 (mkF m 33 #[oR ac, oI 3, oI 3, oR yy1, oI 3] [(.ref yy1)]) := fun t kt => pre11 t (by
    refine XS.iinc X10.here hx rfl (hb hby D6_23) rfl (l' := #[oR ac, oI 3, oI 3, oR yy1, oI 2]) rfl ?_
    refine XS.iinc X10.here hx rfl (hb hby D6_26) rfl (l' := #[oR ac, oI 3, oI 3, oR yy1, oI 3]) rfl ?_
    refine o_gt 29 8 X10 hx hby D6_29 ?_
    refine o_iL X10 hx hby D6_8 rfl ?_
    refine o_il X10 hx hby D6_10 rfl ?_
    refine o_icY 11 32 X10 hx hby D6_11 (flt (by decide : ¬ ((3 : Int32) < (3 : Int32)))).2.1 ?_
    refine o_al X10 hx hby D6_32 rfl ?_
    exact kt)
  refine o_eR X10 Bd hx pre12 (hb hby D6_33) rfl ?_
  exact ⟨yy1, ky1, rfl, N10, KC10, sz_yy1, g_yy1, Vw10⟩
def Q_o_cou3 (Z : State) (ac : Addr) (kc : ClassId) (v0 v1 : Int32) (v2 cs : Int32) (fm : Value) (h0 : Heap) (n0 : Nat) (v : Option Value) (h : Heap) (L : List Loc) : Prop := ∃ (y : Addr) (ky : ClassId) (cd : Int32), v = some (.ref y) ∧ Fr n0 L ∧ Keep h0 h [] ∧ h0.size ≤ y ∧ n0 ≤ y ∧ o_SD Z h y ky cd (3 : Int32) (6 : Int32) [(.int (o_by v0)), (.int (o_by v1)), (.int (o_by v2))] [(.int (o_B0 v0)), (.int (o_B1 v0)), (.int (o_B0 v1)), (.int (o_B1 v1)), (.int (o_B0 v2)), (.int (o_B1 v2))] (¬ ((255 : Int32) < v0) ∧ ¬ ((255 : Int32) < v1) ∧ ¬ ((255 : Int32) < v2))
theorem o_cou3 (l : Launch) (Z : State) (a0 : Array Value) (hw : ∀ d ∈ tables_1, d.before a0 Z = true) (ws : List Jvm.Cond) (ac : Addr) (kc : ClassId) (v0 v1 : Int32) (v2 cs : Int32) (fm : Value) (h0 : Heap) (n0 : Nat) (Z0 : n0 ≤ h0.size) (V_ac : Arv Z h0 ac kc .char (3 : Int32) [(.int v0), (.int v1), (.int v2)] (.int 0)) (hl0 : (0 ≤ v0.toInt ∧ v0.toInt < 65536)) (hl1 : (0 ≤ v1.toInt ∧ v1.toInt < 65536)) (hl2 : (0 ≤ v2.toInt ∧ v2.toInt < 65536)) (hst : o_ST Z cs fm) (O0 : Old Z n0 h0) :
    o_MF l o_N8 oY24 6 (some (.array .byte)) ws o_R15 #[(.ref ac), (.int 0), (.int 3)] Z h0 (Q_o_cou3 Z ac kc v0 v1 v2 cs fm h0 n0) := by
  refine o_start (C := "java/lang/StringUTF16") rfl (plainFor_of_name o_pn_o_cin1) fun p e s m below meth c s1 F0 Bd hx hby hml hown hnm hZ X0 e0 hF0 => ?_
  have N0 := Fr.nil n0
  have pre0 : Goes p e below s1 F0 s1 (mkF m 0 #[oR ac, oI 0, oI 3, oU, oU, oU] []) := fun t k => castTop (hF0.trans (by simp [entryFrame, mkF, argsToLocals, Value.category])) k
  obtain ⟨T1, h1, k1, X1, e1, E1, A1, st1⟩ := newP X0 hx hZ (oV hw 20 rfl) e0 (g := (mkF m 1 #[oR ac, oI 0, oI 3, oU, oU, oU] [(.int 3)])) rfl (hb hby D8_1) rfl (by decide) (cap := 3) (by decide) (by decide) (by decide) (by decide)
  obtain ⟨b1, g1⟩ : ∃ z, z = h0.size := ⟨_, rfl⟩
  rw [← g1] at A1 st1
  have V_b1 : Arv Z h1 b1 k1 .byte (3 : Int32) [(.int 0), (.int 0), (.int 0)] (.int 0) := (Arv.new A1 (by decide)).pad (pad_rep [] (.int 0) 3)
  have g_b1 : n0 ≤ b1 := Nat.le_trans Z0 (Nat.le_of_eq g1.symm)
  have sz_b1 : h0.size ≤ b1 := (Nat.le_trans (Keep.refl h0 []).1 (Nat.le_of_eq g1.symm))
  have K1 : Keep h0 h1 [] := (Keep.refl h0 []).ext E1
  have pre2 : Goes p e below s1 F0 T1 (mkF m 3 #[oR ac, oI 0, oI 3, oU, oU, oU] [(.ref b1)]) := fun t kt => pre0 t (by
    refine o_il X0 hx hby D8_0 rfl ?_
    exact st1 t kt)
  obtain ⟨_, T3, L3, X3, hQ3, st3⟩ := o_cS (y := o_N2) (g := (mkF m 9 #[oR ac, oI 0, oI 3, oR b1, oU, oU] [(.int 3), (.int 0), (.ref b1), (.int 0), (.ref ac)])) (as := [(.ref ac), (.int 0), (.ref b1), (.int 0), (.int 3)]) (rest := []) 0 X1 hx hZ hml hown (oV hw 21 rfl) (oV hw 22 rfl) (oV hw 18 rfl) (oV hw 23 rfl) (o_cin3 l Z a0 hw [] ac b1 kc k1 v0 v1 v2 h1 n0 (Nat.le_trans Z0 K1.1) (V_ac.ext E1) V_b1 g_b1 (Nat.ne_of_lt (Nat.lt_of_lt_of_le V_ac.lt (Nat.le_of_eq g1.symm)))) e1 o_pd4 (hb hby D8_9)
  obtain ⟨zr3, rfl, N3q, K3q, Dz3⟩ := hQ3
  have N3 := Fr.app N0 N3q
  have KC3 : Keep h0 T3.heap [] := K1.trans K3q (allS (Or.inr sz_b1) all0)
  have pre4 : Goes p e below s1 F0 T3 (mkF m 12 #[oR ac, oI 0, oI 3, oR b1, oU, oU] [(.int zr3)]) := fun t kt => pre2 t (by
    refine XS.astoreN X1.here hx rfl (hb hby D8_3) rfl rfl (l' := #[oR ac, oI 0, oI 3, oR b1, oU, oU]) rfl ?_
    refine o_al X1 hx hby D8_4 rfl ?_
    refine o_il X1 hx hby D8_5 rfl ?_
    refine o_al X1 hx hby D8_6 rfl ?_
    refine o_ic X1 hx hby D8_7 ?_
    refine o_il X1 hx hby D8_8 rfl ?_
    exact st3 t kt)
  rcases Dz3 with ⟨rfl, hp, Vb3⟩ | Dz
  · -- full
    have pre5 : Goes p e below s1 F0 T3 (mkF m 58 #[oR ac, oI 0, oI 3, oR b1, oI 3, oU] [(.ref b1)]) := fun t kt => pre4 t (by
      refine XS.istore X3.here hx rfl (hb hby D8_12) rfl (l' := #[oR ac, oI 0, oI 3, oR b1, oI 3, oU]) rfl ?_
      refine o_iL X3 hx hby D8_14 rfl ?_
      refine o_il X3 hx hby D8_16 rfl ?_
      refine o_icY 17 57 X3 hx hby D8_17 (teq (by decide : (3 : Int32) = (3 : Int32))).1 ?_
      refine o_al X3 hx hby D8_57 rfl ?_
      exact kt)
    refine o_eR X3 Bd hx pre5 (hb hby D8_58) rfl ?_
    exact ⟨b1, k1, (0 : Int32), rfl, N3, KC3, sz_b1, g_b1, Or.inl ⟨rfl, hp, Vb3⟩⟩
  · -- not
    have hne : ¬ (zr3 = (3 : Int32)) := by rcases Dz with ⟨rfl, hq⟩ | ⟨rfl, hq⟩ | ⟨rfl, hq⟩ <;> decide
    obtain ⟨_, T6, L6, X6, hQ6, st6⟩ := o_cS (y := o_N6) (g := (mkF m 23 #[oR ac, oI 0, oI 3, oR b1, oI zr3, oU] [(.int 3), (.int 0), (.ref ac)])) (as := [(.ref ac), (.int 0), (.int 3)]) (rest := []) 0 X3 hx hZ hml hown (oV hw 231 rfl) (oV hw 232 rfl) (oV hw 18 rfl) (oV hw 233 rfl) (o_tob3 l Z a0 hw [] ac kc v0 v1 v2 cs fm T3.heap n0 (Nat.le_trans Z0 KC3.1) ((V_ac.ext E1).keep K3q (ninS (Nat.ne_of_lt (Nat.lt_of_lt_of_le V_ac.lt (Nat.le_of_eq g1.symm))) nin0)) hst ((O0.ext E1).keep K3q (allS g_b1 all0))) rfl o_pd5 (hb hby D8_23)
    obtain ⟨yy6, ky6, rfl, N6q, K6q, zy6, gy6, Vy6⟩ := hQ6
    have N6 := Fr.app N3 N6q
    have KC6 : Keep h0 T6.heap [] := KC3.trans K6q all0
    have pre7 : Goes p e below s1 F0 T6 (mkF m 26 #[oR ac, oI 0, oI 3, oR b1, oI zr3, oU] [(.ref yy6)]) := fun t kt => pre4 t (by
      refine XS.istore X3.here hx rfl (hb hby D8_12) rfl (l' := #[oR ac, oI 0, oI 3, oR b1, oI zr3, oU]) rfl ?_
      refine o_iL X3 hx hby D8_14 rfl ?_
      refine o_il X3 hx hby D8_16 rfl ?_
      refine o_icN X3 hx hby D8_17 (feq hne).1 ?_
      refine o_al X3 hx hby D8_20 rfl ?_
      refine o_il X3 hx hby D8_21 rfl ?_
      refine o_il X3 hx hby D8_22 rfl ?_
      exact st6 t kt)
    have sz_yy6 : h0.size ≤ yy6 := Nat.le_trans KC3.1 zy6
    have g_yy6 := gy6
    have pre8 : Goes p e below s1 F0 T6 (mkF m 32 #[oR ac, oI 0, oI 3, oR b1, oI zr3, oR yy6] [(.int zr3), (.ref yy6)]) := fun t kt => pre7 t (by
      refine XS.astore X6.here hx rfl (hb hby D8_26) rfl rfl (l' := #[oR ac, oI 0, oI 3, oR b1, oI zr3, oR yy6]) rfl ?_
      refine o_aL X6 hx hby D8_28 rfl ?_
      refine o_iL X6 hx hby D8_30 rfl ?_
      exact kt)
    obtain ⟨pu, pw, hA0, hA1, hG⟩ : ∃ pu pw : Int32, o_At Z T6.heap yy6 (zr3 <<< ((1 : Int32) &&& 31)) pu ∧ o_At Z T6.heap yy6 ((zr3 <<< ((1 : Int32) &&& 31)) + (1 : Int32)) pw ∧ (255 : Int32) < (nar .char (o_GC pu pw)) := by
      rcases Dz with ⟨rfl, hq⟩ | ⟨rfl, hq⟩ | ⟨rfl, hq⟩
      · exact ⟨(o_B0 v0), (o_B1 v0), o_At.of Vy6 (by decide) rfl, o_At.of Vy6 (by decide) rfl, by rw [o_gc v0 hl0]; exact hq⟩
      · exact ⟨(o_B0 v1), (o_B1 v1), o_At.of Vy6 (by decide) rfl, o_At.of Vy6 (by decide) rfl, by rw [o_gc v1 hl1]; exact hq⟩
      · exact ⟨(o_B0 v2), (o_B1 v2), o_At.of Vy6 (by decide) rfl, o_At.of Vy6 (by decide) rfl, by rw [o_gc v2 hl2]; exact hq⟩
    obtain ⟨_, T9, L9, X9, hQ9, st9⟩ := o_cS (y := o_N7) (g := (mkF m 32 #[oR ac, oI 0, oI 3, oR b1, oI zr3, oR yy6] [(.int zr3), (.ref yy6)])) (as := [(.ref yy6), (.int zr3)]) (rest := []) 0 X6 hx hZ hml hown (oV hw 247 rfl) (oV hw 248 rfl) (oV hw 18 rfl) (oV hw 249 rfl) (o_gch l Z a0 hw [] yy6 zr3 pu pw cs fm T6.heap n0 (Nat.le_trans Z0 KC6.1) hA0 hA1 hst (((O0.ext E1).keep K3q (allS g_b1 all0)).keep K6q all0)) rfl o_pd6 (hb hby D8_32)
    obtain ⟨rfl, N9q, e9⟩ := hQ9
    have N9 := Fr.app N6 N9q
    have pre10 : Goes p e below s1 F0 T9 (mkF m 35 #[oR ac, oI 0, oI 3, oR b1, oI zr3, oR yy6] [(.int (nar .char (o_GC pu pw)))]) := fun t kt => pre8 t (st9 t kt)
    have pre11 : Goes p e below s1 F0 T9 (mkF m 56 #[oR ac, oI 0, oI 3, oR b1, oI zr3, oR yy6] [(.ref yy6)]) := fun t kt => pre10 t (by
      refine XS.sipush X9.here hx rfl (hb hby D8_35) ?_
      refine o_icY 38 54 X9 hx hby D8_38 (tlt hG).2.2.1 ?_
      refine o_aL X9 hx hby D8_54 rfl ?_
      exact kt)
    refine o_eR X9 Bd hx pre11 (hb hby D8_56) e9 ?_
    exact ⟨yy6, ky6, (1 : Int32), rfl, N9, KC6, sz_yy6, g_yy6, Or.inr ⟨rfl, Vy6⟩⟩
def Q_o_cda3 (Z : State) (y : Addr) (ky : ClassId) (cd v0 : Int32) (v1 v2 : Int32) (h0 : Heap) (n0 : Nat) (v : Option Value) (h : Heap) (L : List Loc) : Prop := v = some (.int cd) ∧ Fr n0 L ∧ h = h0
theorem o_cda3 (l : Launch) (Z : State) (a0 : Array Value) (hw : ∀ d ∈ tables_1, d.before a0 Z = true) (ws : List Jvm.Cond) (y : Addr) (ky : ClassId) (cd v0 : Int32) (v1 v2 : Int32) (h0 : Heap) (n0 : Nat) (Z0 : n0 ≤ h0.size) (SDy : o_SD Z h0 y ky cd (3 : Int32) (6 : Int32) [(.int (o_by v0)), (.int (o_by v1)), (.int (o_by v2))] [(.int (o_B0 v0)), (.int (o_B1 v0)), (.int (o_B0 v1)), (.int (o_B1 v1)), (.int (o_B0 v2)), (.int (o_B1 v2))] (¬ ((255 : Int32) < v0) ∧ ¬ ((255 : Int32) < v1) ∧ ¬ ((255 : Int32) < v2))) :
    o_MF l o_N9 oY23 2 (some .byte) ws o_R2 #[(.ref y), (.int 3)] Z h0 (Q_o_cda3 Z y ky cd v0 v1 v2 h0 n0) := by
  refine o_start (C := "java/lang/StringUTF16") rfl (plainFor_of_name o_pn_o_cin1) fun p e s m below meth c s1 F0 Bd hx hby hml hown hnm hZ X0 e0 hF0 => ?_
  have N0 := Fr.nil n0
  have pre0 : Goes p e below s1 F0 s1 (mkF m 0 #[oR y, oI 3] []) := fun t k => castTop (hF0.trans (by simp [entryFrame, mkF, argsToLocals, Value.category])) k
  rcases (id SDy) with ⟨hcd, hp, Vy⟩ | ⟨hcd, Vy⟩
  · -- coder 0
    obtain ⟨cl1, Ar1, q1, S1, N_1, H1, G1⟩ := (id (Vy))
    have pre2 : Goes p e below s1 F0 s1 (mkF m 7 #[oR y, oI 3] [(.int (((0 : Int32).toUInt32 >>> ((31 : Int32) &&& 31).toUInt32).toInt32))]) := fun t kt => pre0 t (by
      refine o_il X0 hx hby D9_0 rfl ?_
      refine o_al X0 hx hby D9_1 rfl ?_
      refine X0.arraylength hx (by (try rw [e0]); exact Ar1.1) (State.isArrayOf_alike hZ.alike Ar1.2.1) (g := (mkF m 2 #[oR y, oI 3] [(.ref y), (.int 3)])) rfl rfl (hb hby D9_2) _ ?_
      rw [len_of S1 N_1]
      refine XS.isub X0.here hx rfl (hb hby D9_3) rfl ?_
      refine o_bp X0 hx hby D9_4 ?_
      refine XS.iushr X0.here hx rfl (hb hby D9_6) rfl ?_
      exact kt)
    rw [show (((0 : Int32).toUInt32 >>> ((31 : Int32) &&& 31).toUInt32).toInt32) = (0 : Int32) from (by decide)] at pre2
    have pre3 : Goes p e below s1 F0 s1 (mkF m 8 #[oR y, oI 3] [(.int ((0 : Int32).toInt8.toInt32))]) := fun t kt => pre2 t (by
      refine XS.i2b X0.here hx rfl (hb hby D9_7) rfl ?_
      exact kt)
    refine o_eN X0 Bd hx pre3 (hb hby D9_8) e0 ?_
    exact ⟨by rw [hcd]; rfl, N0, rfl⟩
  · -- coder 1
    obtain ⟨cl4, Ar4, q4, S4, N_4, H4, G4⟩ := (id (Vy))
    have pre5 : Goes p e below s1 F0 s1 (mkF m 7 #[oR y, oI 3] [(.int (((-3 : Int32).toUInt32 >>> ((31 : Int32) &&& 31).toUInt32).toInt32))]) := fun t kt => pre0 t (by
      refine o_il X0 hx hby D9_0 rfl ?_
      refine o_al X0 hx hby D9_1 rfl ?_
      refine X0.arraylength hx (by (try rw [e0]); exact Ar4.1) (State.isArrayOf_alike hZ.alike Ar4.2.1) (g := (mkF m 2 #[oR y, oI 3] [(.ref y), (.int 3)])) rfl rfl (hb hby D9_2) _ ?_
      rw [len_of S4 N_4]
      refine XS.isub X0.here hx rfl (hb hby D9_3) rfl ?_
      refine o_bp X0 hx hby D9_4 ?_
      refine XS.iushr X0.here hx rfl (hb hby D9_6) rfl ?_
      exact kt)
    rw [show (((-3 : Int32).toUInt32 >>> ((31 : Int32) &&& 31).toUInt32).toInt32) = (1 : Int32) from (by decide)] at pre5
    have pre6 : Goes p e below s1 F0 s1 (mkF m 8 #[oR y, oI 3] [(.int ((1 : Int32).toInt8.toInt32))]) := fun t kt => pre5 t (by
      refine XS.i2b X0.here hx rfl (hb hby D9_7) rfl ?_
      exact kt)
    refine o_eN X0 Bd hx pre6 (hb hby D9_8) e0 ?_
    exact ⟨by rw [hcd]; rfl, N0, rfl⟩
def Q_o_sI3 (Z : State) (a1 ac : Addr) (kc : ClassId) (uv uc : Value) (v0 v1 : Int32) (v2 cs : Int32) (fm : Value) (h0 : Heap) (n0 : Nat) (v : Option Value) (h : Heap) (L : List Loc) : Prop := v = none ∧ Fr n0 L ∧ Keep h0 h [a1] ∧ Exa Z h a1 "java/lang/String" ∧ ∃ (cd : Int32) (y : Addr) (ky : ClassId), Fld Z h a1 "java/lang/String" "coder" "B" (.int cd) ∧ Fld Z h a1 "java/lang/String" "value" "[B" (.ref y) ∧ o_SD Z h y ky cd (3 : Int32) (6 : Int32) [(.int (o_by v0)), (.int (o_by v1)), (.int (o_by v2))] [(.int (o_B0 v0)), (.int (o_B1 v0)), (.int (o_B0 v1)), (.int (o_B1 v1)), (.int (o_B0 v2)), (.int (o_B1 v2))] (¬ ((255 : Int32) < v0) ∧ ¬ ((255 : Int32) < v1) ∧ ¬ ((255 : Int32) < v2))
theorem o_sI3 (l : Launch) (Z : State) (a0 : Array Value) (hw : ∀ d ∈ tables_1, d.before a0 Z = true) (ws : List Jvm.Cond) (a1 ac : Addr) (kc : ClassId) (uv uc : Value) (v0 v1 : Int32) (v2 cs : Int32) (fm : Value) (h0 : Heap) (n0 : Nat) (Z0 : n0 ≤ h0.size) (E_a1 : Exa Z h0 a1 "java/lang/String") (Fv : Fld Z h0 a1 "java/lang/String" "value" "[B" uv) (Fc : Fld Z h0 a1 "java/lang/String" "coder" "B" uc) (g_a1 : n0 ≤ a1) (V_ac : Arv Z h0 ac kc .char (3 : Int32) [(.int v0), (.int v1), (.int v2)] (.int 0)) (hl0 : (0 ≤ v0.toInt ∧ v0.toInt < 65536)) (hl1 : (0 ≤ v1.toInt ∧ v1.toInt < 65536)) (hl2 : (0 ≤ v2.toInt ∧ v2.toInt < 65536)) (hst : o_ST Z cs fm) (O0 : Old Z n0 h0) :
    o_MF l o_N0 oY9 6 none ws o_R16 #[(.ref a1), (.ref ac), (.int 0), (.int 3), .null] Z h0 (Q_o_sI3 Z a1 ac kc uv uc v0 v1 v2 cs fm h0 n0) := by
  refine o_start (C := "java/lang/String") rfl (plainFor_of_name o_pn_o_sI0) fun p e s m below meth c s1 F0 Bd hx hby hml hown hnm hZ X0 e0 hF0 => ?_
  have N0 := Fr.nil n0
  have pre0 : Goes p e below s1 F0 s1 (mkF m 0 #[oR a1, oR ac, oI 0, oI 3, .val .null, oU] []) := fun t k => castTop (hF0.trans (by simp [entryFrame, mkF, argsToLocals, Value.category])) k
  obtain ⟨T1, X1, e1, st1⟩ := initO X0 hx hZ hown (oV hw 12 rfl) (oV hw 13 rfl) (oV hw 14 rfl) e0 (g := (mkF m 1 #[oR a1, oR ac, oI 0, oI 3, .val .null, oU] [(.ref a1)])) rfl (by rw [hml]; rfl) rfl (hb hby D0_1) (by decide) (W := 0) (by show 2 * 0 + _ ≤ _; exact Nat.le_of_eq rfl) (by decide)
  have pre2 : Goes p e below s1 F0 T1 (mkF m 4 #[oR a1, oR ac, oI 0, oI 3, .val .null, oU] []) := fun t kt => pre0 t (by
    refine o_al X0 hx hby D0_0 rfl ?_
    exact st1 t kt)
  obtain ⟨T3, X3, e3, st3⟩ := getS2 X1 hx hZ hown (host := "") (Or.inl (oV hw 15 rfl)) Via.refl e1 (hst.1.ext O0.2) (g := (mkF m 27 #[oR a1, oR ac, oI 0, oI 3, .val .null, oU] [])) rfl (hb hby D0_27)
  have pre4 : Goes p e below s1 F0 T3 (mkF m 30 #[oR a1, oR ac, oI 0, oI 3, .val .null, oU] [(.int cs)]) := fun t kt => pre2 t (by
    refine o_il X1 hx hby D0_4 rfl ?_
    refine o_ifY 5 27 X1 hx hby D0_5 ((if0 _ _).trans (feq (by decide : ¬ ((3 : Int32) = (0 : Int32)))).2) ?_
    exact st3 t kt)
  obtain ⟨_, T5, L5, X5, hQ5, st5⟩ := o_cS (y := o_N8) (g := (mkF m 36 #[oR a1, oR ac, oI 0, oI 3, .val .null, oU] [(.int 3), (.int 0), (.ref ac)])) (as := [(.ref ac), (.int 0), (.int 3)]) (rest := []) 0 X3 hx hZ hml hown (oV hw 16 rfl) (oV hw 17 rfl) (oV hw 18 rfl) (oV hw 19 rfl) (o_cou3 l Z a0 hw [] ac kc v0 v1 v2 cs fm h0 n0 Z0 V_ac hl0 hl1 hl2 hst O0) e3 o_pd5 (hb hby D0_36)
  obtain ⟨yy5, ky5, cd5, rfl, N5q, K5q, zy5, gy5, Dy5⟩ := hQ5
  have N5 := Fr.app N0 N5q
  have KC5 : Keep h0 T5.heap [a1] := (Keep.refl h0 [a1]).trans K5q all0
  have pre6 : Goes p e below s1 F0 T5 (mkF m 39 #[oR a1, oR ac, oI 0, oI 3, .val .null, oU] [(.ref yy5)]) := fun t kt => pre4 t (by
    refine o_ifN X3 hx hby D0_30 ((if0 _ _).trans (feq hst.2.1).1) ?_
    refine o_al X3 hx hby D0_33 rfl ?_
    refine o_il X3 hx hby D0_34 rfl ?_
    refine o_il X3 hx hby D0_35 rfl ?_
    exact st5 t kt)
  have sz_yy5 := zy5
  have g_yy5 := gy5
  obtain ⟨_, T7, L7, X7, hQ7, st7⟩ := o_cS (y := o_N9) (g := (mkF m 45 #[oR a1, oR ac, oI 0, oI 3, .val .null, oR yy5] [(.int 3), (.ref yy5), (.ref a1)])) (as := [(.ref yy5), (.int 3)]) (rest := [(.ref a1)]) 1 X5 hx hZ hml hown (oV hw 24 rfl) (oV hw 25 rfl) (oV hw 18 rfl) (oV hw 26 rfl) (o_cda3 l Z a0 hw [] yy5 ky5 cd5 v0 v1 v2 T5.heap n0 (Nat.le_trans Z0 KC5.1) Dy5) rfl o_pd7 (hb hby D0_45)
  obtain ⟨rfl, N7q, e7⟩ := hQ7
  have N7 := Fr.app N5 N7q
  have pre8 : Goes p e below s1 F0 T7 (mkF m 48 #[oR a1, oR ac, oI 0, oI 3, .val .null, oR yy5] [(.int cd5), (.ref a1)]) := fun t kt => pre6 t (by
    refine XS.astore X5.here hx rfl (hb hby D0_39) rfl rfl (l' := #[oR a1, oR ac, oI 0, oI 3, .val .null, oR yy5]) rfl ?_
    refine o_al X5 hx hby D0_41 rfl ?_
    refine o_aL X5 hx hby D0_42 rfl ?_
    refine o_il X5 hx hby D0_44 rfl ?_
    exact st7 t kt)
  have hB : narrow .byte (.int cd5) = .int cd5 ∧ fits .byte (.int cd5) = true := by rcases Dy5 with ⟨rfl, -, -⟩ | ⟨rfl, -⟩ <;> exact ⟨rfl, rfl⟩
  obtain ⟨T9, h9, X9, e9, W9, st9⟩ := putFN X7 hx hZ hown (oV hw 27 rfl) Via.refl e7 (Fc.keep K5q nin0) (E_a1.keep K5q) (Or.inr ⟨(oV hw 28 rfl), rfl, hnm⟩) (oV hw 3 rfl) (ty := .byte) (v' := (.int cd5)) (by decide) hB.1 hB.2 (g := (mkF m 48 #[oR a1, oR ac, oI 0, oI 3, .val .null, oR yy5] [(.int cd5), (.ref a1)])) rfl rfl (hb hby D0_48)
  have Fw9 := (Fc.keep K5q nin0).same W9
  have K9 : Keep h0 h9 [a1] := KC5.wr W9 (Or.inl (o_mG (i := 0) rfl))
  have N9 := Fr.snoc X9 N7 g_a1
  have pre10 : Goes p e below s1 F0 T9 (mkF m 51 #[oR a1, oR ac, oI 0, oI 3, .val .null, oR yy5] []) := fun t kt => pre8 t (st9 t kt)
  obtain ⟨T11, h11, X11, e11, W11, st11⟩ := putF X9 hx hZ hown (host := "") (Or.inl (oV hw 29 rfl)) Via.refl e9 ((Fv.keep K5q nin0).other W9 (Or.inr (slot_ne (Or.inr (oV hw 30 rfl)) (Or.inr (oV hw 28 rfl)) (by decide) (t := (.array .byte)) (t' := .byte) (by decide) (by decide)))) ((E_a1.keep K5q).wr W9) (Or.inr ⟨(oV hw 30 rfl), rfl, hnm⟩) (oV hw 3 rfl) (ty := (.array .byte)) (by decide) rfl rfl (g := (mkF m 54 #[oR a1, oR ac, oI 0, oI 3, .val .null, oR yy5] [(.ref yy5), (.ref a1)])) rfl rfl (hb hby D0_54)
  have Fw11 := ((Fv.keep K5q nin0).other W9 (Or.inr (slot_ne (Or.inr (oV hw 30 rfl)) (Or.inr (oV hw 28 rfl)) (by decide) (t := (.array .byte)) (t' := .byte) (by decide) (by decide)))).same W11
  have K11 : Keep h0 h11 [a1] := K9.wr W11 (Or.inl (o_mG (i := 0) rfl))
  have N11 := Fr.snoc X11 N9 g_a1
  have pre12 : Goes p e below s1 F0 T11 (mkF m 57 #[oR a1, oR ac, oI 0, oI 3, .val .null, oR yy5] []) := fun t kt => pre10 t (by
    refine o_al X9 hx hby D0_51 rfl ?_
    refine o_aL X9 hx hby D0_52 rfl ?_
    exact st11 t kt)
  refine o_eV X11 Bd hx pre12 (hb hby D0_57) e11 ?_
  exact ⟨rfl, N11, K11, (((E_a1.keep K5q).wr W9).wr W11), cd5, yy5, ky5, (Fw9.other W11 (Or.inr (slot_ne (Or.inr (oV hw 28 rfl)) (Or.inr (oV hw 30 rfl)) (by decide) (t := .byte) (t' := (.array .byte)) (by decide) (by decide)))), Fw11, ((Dy5.other W9 (Ne.symm (Nat.ne_of_lt (Nat.lt_of_lt_of_le E_a1.lt zy5)))).other W11 (Ne.symm (Nat.ne_of_lt (Nat.lt_of_lt_of_le E_a1.lt zy5))))⟩
def Q_o_sJ3 (Z : State) (a1 ac : Addr) (kc : ClassId) (uv uc : Value) (v0 v1 : Int32) (v2 cs : Int32) (fm : Value) (h0 : Heap) (n0 : Nat) (v : Option Value) (h : Heap) (L : List Loc) : Prop := v = none ∧ Fr n0 L ∧ Keep h0 h [a1] ∧ Exa Z h a1 "java/lang/String" ∧ ∃ (cd : Int32) (y : Addr) (ky : ClassId), Fld Z h a1 "java/lang/String" "coder" "B" (.int cd) ∧ Fld Z h a1 "java/lang/String" "value" "[B" (.ref y) ∧ o_SD Z h y ky cd (3 : Int32) (6 : Int32) [(.int (o_by v0)), (.int (o_by v1)), (.int (o_by v2))] [(.int (o_B0 v0)), (.int (o_B1 v0)), (.int (o_B0 v1)), (.int (o_B1 v1)), (.int (o_B0 v2)), (.int (o_B1 v2))] (¬ ((255 : Int32) < v0) ∧ ¬ ((255 : Int32) < v1) ∧ ¬ ((255 : Int32) < v2))
theorem o_sJ3 (l : Launch) (Z : State) (a0 : Array Value) (hw : ∀ d ∈ tables_1, d.before a0 Z = true) (ws : List Jvm.Cond) (a1 ac : Addr) (kc : ClassId) (uv uc : Value) (v0 v1 : Int32) (v2 cs : Int32) (fm : Value) (h0 : Heap) (n0 : Nat) (Z0 : n0 ≤ h0.size) (E_a1 : Exa Z h0 a1 "java/lang/String") (Fv : Fld Z h0 a1 "java/lang/String" "value" "[B" uv) (Fc : Fld Z h0 a1 "java/lang/String" "coder" "B" uc) (g_a1 : n0 ≤ a1) (V_ac : Arv Z h0 ac kc .char (3 : Int32) [(.int v0), (.int v1), (.int v2)] (.int 0)) (hl0 : (0 ≤ v0.toInt ∧ v0.toInt < 65536)) (hl1 : (0 ≤ v1.toInt ∧ v1.toInt < 65536)) (hl2 : (0 ≤ v2.toInt ∧ v2.toInt < 65536)) (hst : o_ST Z cs fm) (O0 : Old Z n0 h0) :
    o_MF l o_N1 oY16 2 none ws o_R17 #[(.ref a1), (.ref ac)] Z h0 (Q_o_sJ3 Z a1 ac kc uv uc v0 v1 v2 cs fm h0 n0) := by
  refine o_start (C := "java/lang/String") rfl (plainFor_of_name o_pn_o_sI0) fun p e s m below meth c s1 F0 Bd hx hby hml hown hnm hZ X0 e0 hF0 => ?_
  have N0 := Fr.nil n0
  have pre0 : Goes p e below s1 F0 s1 (mkF m 0 #[oR a1, oR ac] []) := fun t k => castTop (hF0.trans (by simp [entryFrame, mkF, argsToLocals, Value.category])) k
  obtain ⟨cl1, Ar1, q1, S1, N_1, H1, G1⟩ := (id (V_ac))
  obtain ⟨_, T2, L2, X2, hQ2, st2⟩ := o_cI (y := o_N0) (b := a1) (g := (mkF m 6 #[oR a1, oR ac] [.null, (.int 3), (.int 0), (.ref ac), (.ref a1)])) (as := [(.ref ac), (.int 0), (.int 3), .null]) (rest := []) 0 X0 hx hZ hml hown (oV hw 8 rfl) (oV hw 9 rfl) (oV hw 11 rfl) (oV hw 4 rfl) (o_sI3 l Z a0 hw [] a1 ac kc uv uc v0 v1 v2 cs fm h0 n0 Z0 E_a1 Fv Fc g_a1 V_ac hl0 hl1 hl2 hst O0) e0 o_pd0 (hb hby D1_6)
  obtain ⟨rfl, N2q, K2q, Rest2⟩ := hQ2
  have N2 := Fr.app N0 N2q
  have KC2 : Keep h0 T2.heap [a1] := (Keep.refl h0 [a1]).trans K2q (allS (Or.inl (o_mG (i := 0) rfl)) all0)
  have pre3 : Goes p e below s1 F0 T2 (mkF m 9 #[oR a1, oR ac] []) := fun t kt => pre0 t (by
    refine o_al X0 hx hby D1_0 rfl ?_
    refine o_al X0 hx hby D1_1 rfl ?_
    refine o_ic X0 hx hby D1_2 ?_
    refine o_al X0 hx hby D1_3 rfl ?_
    refine X0.arraylength hx (by (try rw [e0]); exact Ar1.1) (State.isArrayOf_alike hZ.alike Ar1.2.1) (g := (mkF m 4 #[oR a1, oR ac] [(.ref ac), (.int 0), (.ref ac), (.ref a1)])) rfl rfl (hb hby D1_4) _ ?_
    rw [len_of S1 N_1]
    refine XS.aconstNull X0.here hx rfl (hb hby D1_5) ?_
    exact st2 t kt)
  refine o_eV X2 Bd hx pre3 (hb hby D1_9) rfl ?_
  exact ⟨rfl, N2, KC2, Rest2⟩
theorem D10_0 : decode oY11 0 = .ok (.getstatic 38, 3) := by decide +kernel
theorem D10_3 : decode oY11 3 = .ok (.ifCond .eq 10, 3) := by decide +kernel
theorem D10_6 : decode oY11 6 = .ok (.aload_n 0, 1) := by decide +kernel
theorem D10_7 : decode oY11 7 = .ok (.getfield 15, 3) := by decide +kernel
theorem D10_10 : decode oY11 10 = .ok (.goto 4, 3) := by decide +kernel
theorem D10_14 : decode oY11 14 = .ok (.ireturn, 1) := by decide +kernel
def Q_o_sco0 (Z : State) (a1 : Addr) (cs : Int32) (fm : Value) (h0 : Heap) (n0 : Nat) (v : Option Value) (h : Heap) (L : List Loc) : Prop := v = some (.int 0) ∧ Fr n0 L ∧ h = h0
theorem o_sco0 (l : Launch) (Z : State) (a0 : Array Value) (hw : ∀ d ∈ tables_1, d.before a0 Z = true) (ws : List Jvm.Cond) (a1 : Addr) (cs : Int32) (fm : Value) (h0 : Heap) (n0 : Nat) (Z0 : n0 ≤ h0.size) (Fc : Fld Z h0 a1 "java/lang/String" "coder" "B" (.int 0)) (hst : o_ST Z cs fm) (O0 : Old Z n0 h0) :
    o_MF l o_N10 oY11 1 (some .byte) ws o_R2 #[(.ref a1)] Z h0 (Q_o_sco0 Z a1 cs fm h0 n0) := by
  refine o_start (C := "java/lang/String") rfl (plainFor_of_name o_pn_o_sI0) fun p e s m below meth c s1 F0 Bd hx hby hml hown hnm hZ X0 e0 hF0 => ?_
  have N0 := Fr.nil n0
  have pre0 : Goes p e below s1 F0 s1 (mkF m 0 #[oR a1] []) := fun t k => castTop (hF0.trans (by simp [entryFrame, mkF, argsToLocals, Value.category])) k
  obtain ⟨T1, X1, e1, st1⟩ := getS2 X0 hx hZ hown (host := "") (Or.inl (oV hw 15 rfl)) Via.refl e0 (hst.1.ext O0.2) (g := (mkF m 0 #[oR a1] [])) rfl (hb hby D10_0)
  have pre2 : Goes p e below s1 F0 T1 (mkF m 3 #[oR a1] [(.int cs)]) := fun t kt => pre0 t (st1 t kt)
  obtain ⟨T3, X3, e3, st3⟩ := getF X1 hx hZ hown (host := "") (Or.inl (oV hw 27 rfl)) Via.refl e1 Fc (g := (mkF m 7 #[oR a1] [(.ref a1)])) rfl rfl (hb hby D10_7)
  have pre4 : Goes p e below s1 F0 T3 (mkF m 10 #[oR a1] [(.int 0)]) := fun t kt => pre2 t (by
    refine o_ifN X1 hx hby D10_3 ((if0 _ _).trans (feq hst.2.1).1) ?_
    refine o_al X1 hx hby D10_6 rfl ?_
    exact st3 t kt)
  have pre5 : Goes p e below s1 F0 T3 (mkF m 14 #[oR a1] [(.int 0)]) := fun t kt => pre4 t (by
    refine o_gt 10 14 X3 hx hby D10_10 ?_
    exact kt)
  refine o_eN X3 Bd hx pre5 (hb hby D10_14) e3 ?_
  exact ⟨rfl, N0, rfl⟩
def Q_o_sco1 (Z : State) (a1 : Addr) (cs : Int32) (fm : Value) (h0 : Heap) (n0 : Nat) (v : Option Value) (h : Heap) (L : List Loc) : Prop := v = some (.int 1) ∧ Fr n0 L ∧ h = h0
theorem o_sco1 (l : Launch) (Z : State) (a0 : Array Value) (hw : ∀ d ∈ tables_1, d.before a0 Z = true) (ws : List Jvm.Cond) (a1 : Addr) (cs : Int32) (fm : Value) (h0 : Heap) (n0 : Nat) (Z0 : n0 ≤ h0.size) (Fc : Fld Z h0 a1 "java/lang/String" "coder" "B" (.int 1)) (hst : o_ST Z cs fm) (O0 : Old Z n0 h0) :
    o_MF l o_N10 oY11 1 (some .byte) ws o_R2 #[(.ref a1)] Z h0 (Q_o_sco1 Z a1 cs fm h0 n0) := by
  refine o_start (C := "java/lang/String") rfl (plainFor_of_name o_pn_o_sI0) fun p e s m below meth c s1 F0 Bd hx hby hml hown hnm hZ X0 e0 hF0 => ?_
  have N0 := Fr.nil n0
  have pre0 : Goes p e below s1 F0 s1 (mkF m 0 #[oR a1] []) := fun t k => castTop (hF0.trans (by simp [entryFrame, mkF, argsToLocals, Value.category])) k
  obtain ⟨T1, X1, e1, st1⟩ := getS2 X0 hx hZ hown (host := "") (Or.inl (oV hw 15 rfl)) Via.refl e0 (hst.1.ext O0.2) (g := (mkF m 0 #[oR a1] [])) rfl (hb hby D10_0)
  have pre2 : Goes p e below s1 F0 T1 (mkF m 3 #[oR a1] [(.int cs)]) := fun t kt => pre0 t (st1 t kt)
  obtain ⟨T3, X3, e3, st3⟩ := getF X1 hx hZ hown (host := "") (Or.inl (oV hw 27 rfl)) Via.refl e1 Fc (g := (mkF m 7 #[oR a1] [(.ref a1)])) rfl rfl (hb hby D10_7)
  have pre4 : Goes p e below s1 F0 T3 (mkF m 10 #[oR a1] [(.int 1)]) := fun t kt => pre2 t (by
    refine o_ifN X1 hx hby D10_3 ((if0 _ _).trans (feq hst.2.1).1) ?_
    refine o_al X1 hx hby D10_6 rfl ?_
    exact st3 t kt)
  have pre5 : Goes p e below s1 F0 T3 (mkF m 14 #[oR a1] [(.int 1)]) := fun t kt => pre4 t (by
    refine o_gt 10 14 X3 hx hby D10_10 ?_
    exact kt)
  refine o_eN X3 Bd hx pre5 (hb hby D10_14) e3 ?_
  exact ⟨rfl, N0, rfl⟩
theorem D11_0 : decode oY18 0 = .ok (.aload_n 0, 1) := by decide +kernel
theorem D11_1 : decode oY18 1 = .ok (.getfield 9, 3) := by decide +kernel
theorem D11_4 : decode oY18 4 = .ok (.arraylength, 1) := by decide +kernel
theorem D11_5 : decode oY18 5 = .ok (.aload_n 0, 1) := by decide +kernel
theorem D11_6 : decode oY18 6 = .ok (.invokevirtual 335, 3) := by decide +kernel
theorem D11_9 : decode oY18 9 = .ok (.ishr, 1) := by decide +kernel
theorem D11_10 : decode oY18 10 = .ok (.ireturn, 1) := by decide +kernel
def Q_o_sle (Z : State) (a1 : Addr) (cd : Int32) (y : Addr) (zl cs : Int32) (fm : Value) (h0 : Heap) (n0 : Nat) (v : Option Value) (h : Heap) (L : List Loc) : Prop := v = some (.int zl) ∧ Fr n0 L ∧ h = h0
theorem o_sle (l : Launch) (Z : State) (a0 : Array Value) (hw : ∀ d ∈ tables_1, d.before a0 Z = true) (ws : List Jvm.Cond) (a1 : Addr) (cd : Int32) (y : Addr) (zl cs : Int32) (fm : Value) (h0 : Heap) (n0 : Nat) (Z0 : n0 ≤ h0.size) (E_a1 : Exa Z h0 a1 "java/lang/String") (Fc : Fld Z h0 a1 "java/lang/String" "coder" "B" (.int cd)) (Fv : Fld Z h0 a1 "java/lang/String" "value" "[B" (.ref y)) (LDy : o_LD Z h0 y cd zl) (hst : o_ST Z cs fm) (O0 : Old Z n0 h0) :
    o_MF l o_N11 oY18 1 (some .int) ws o_R18 #[(.ref a1)] Z h0 (Q_o_sle Z a1 cd y zl cs fm h0 n0) := by
  refine o_start (C := "java/lang/String") rfl (plainFor_of_name o_pn_o_sI0) fun p e s m below meth c s1 F0 Bd hx hby hml hown hnm hZ X0 e0 hF0 => ?_
  have N0 := Fr.nil n0
  have pre0 : Goes p e below s1 F0 s1 (mkF m 0 #[oR a1] []) := fun t k => castTop (hF0.trans (by simp [entryFrame, mkF, argsToLocals, Value.category])) k
  have Fc0 := Fc
  rcases (id LDy) with ⟨hcd, Ln⟩ | ⟨hcd, zn, Ln, hz⟩
  · -- coder 0
    rw [hcd] at Fc0
    obtain ⟨T1, X1, e1, st1⟩ := getF X0 hx hZ hown (host := "") (Or.inl (oV hw 29 rfl)) Via.refl e0 Fv (g := (mkF m 1 #[oR a1] [(.ref a1)])) rfl rfl (hb hby D11_1)
    have pre2 : Goes p e below s1 F0 T1 (mkF m 4 #[oR a1] [(.ref y)]) := fun t kt => pre0 t (by
      refine o_al X0 hx hby D11_0 rfl ?_
      exact st1 t kt)
    obtain ⟨cl3, Ar3, S3, N_3⟩ := (id (Ln))
    obtain ⟨_, T4, L4, X4, hQ4, st4⟩ := o_cW (y := o_N10) (b := a1) (g := (mkF m 6 #[oR a1] [(.ref a1), (.int zl)])) (as := []) (rest := [(.int zl)]) 1 X1 hx hZ hml hown (oV hw 85 rfl) (oV hw 88 rfl) (oV hw 87 rfl) (oV hw 89 rfl) (oV hw 4 rfl) (o_sco0 l Z a0 hw [] a1 cs fm h0 n0 Z0 Fc0 hst O0) e1 E_a1 o_pd8 (hb hby D11_6)
    obtain ⟨rfl, N4q, e4⟩ := hQ4
    have N4 := Fr.app N0 N4q
    have pre5 : Goes p e below s1 F0 T4 (mkF m 9 #[oR a1] [(.int 0), (.int zl)]) := fun t kt => pre2 t (by
      refine X1.arraylength hx (by (try rw [e1]); exact Ar3.1) (State.isArrayOf_alike hZ.alike Ar3.2.1) (g := (mkF m 4 #[oR a1] [(.ref y)])) rfl rfl (hb hby D11_4) _ ?_
      rw [len_of S3 N_3]
      refine o_al X1 hx hby D11_5 rfl ?_
      exact st4 t kt)
    have pre6 : Goes p e below s1 F0 T4 (mkF m 10 #[oR a1] [(.int (zl >>> ((0 : Int32) &&& 31)))]) := fun t kt => pre5 t (by
      refine XS.ishr X4.here hx rfl (hb hby D11_9) rfl ?_
      exact kt)
    refine o_eI X4 Bd hx pre6 (hb hby D11_10) e4 ?_
    exact ⟨by rw [o_sh0], N4, rfl⟩
  · -- coder 1
    rw [hcd] at Fc0
    obtain ⟨T7, X7, e7, st7⟩ := getF X0 hx hZ hown (host := "") (Or.inl (oV hw 29 rfl)) Via.refl e0 Fv (g := (mkF m 1 #[oR a1] [(.ref a1)])) rfl rfl (hb hby D11_1)
    have pre8 : Goes p e below s1 F0 T7 (mkF m 4 #[oR a1] [(.ref y)]) := fun t kt => pre0 t (by
      refine o_al X0 hx hby D11_0 rfl ?_
      exact st7 t kt)
    obtain ⟨cl9, Ar9, S9, N_9⟩ := (id (Ln))
    obtain ⟨_, T10, L10, X10, hQ10, st10⟩ := o_cW (y := o_N10) (b := a1) (g := (mkF m 6 #[oR a1] [(.ref a1), (.int zn)])) (as := []) (rest := [(.int zn)]) 1 X7 hx hZ hml hown (oV hw 85 rfl) (oV hw 88 rfl) (oV hw 87 rfl) (oV hw 89 rfl) (oV hw 4 rfl) (o_sco1 l Z a0 hw [] a1 cs fm h0 n0 Z0 Fc0 hst O0) e7 E_a1 o_pd8 (hb hby D11_6)
    obtain ⟨rfl, N10q, e10⟩ := hQ10
    have N10 := Fr.app N0 N10q
    have pre11 : Goes p e below s1 F0 T10 (mkF m 9 #[oR a1] [(.int 1), (.int zn)]) := fun t kt => pre8 t (by
      refine X7.arraylength hx (by (try rw [e7]); exact Ar9.1) (State.isArrayOf_alike hZ.alike Ar9.2.1) (g := (mkF m 4 #[oR a1] [(.ref y)])) rfl rfl (hb hby D11_4) _ ?_
      rw [len_of S9 N_9]
      refine o_al X7 hx hby D11_5 rfl ?_
      exact st10 t kt)
    have pre12 : Goes p e below s1 F0 T10 (mkF m 10 #[oR a1] [(.int (zn >>> ((1 : Int32) &&& 31)))]) := fun t kt => pre11 t (by
      refine XS.ishr X10.here hx rfl (hb hby D11_9) rfl ?_
      exact kt)
    refine o_eI X10 Bd hx pre12 (hb hby D11_10) e10 ?_
    exact ⟨by rw [hz], N10, rfl⟩
theorem D12_0 : decode oY12 0 = .ok (.getstatic 38, 3) := by decide +kernel
theorem D12_3 : decode oY12 3 = .ok (.ifCond .eq 14, 3) := by decide +kernel
theorem D12_6 : decode oY12 6 = .ok (.aload_n 0, 1) := by decide +kernel
theorem D12_7 : decode oY12 7 = .ok (.getfield 15, 3) := by decide +kernel
theorem D12_10 : decode oY12 10 = .ok (.ifCond .ne 7, 3) := by decide +kernel
theorem D12_13 : decode oY12 13 = .ok (.iconst 1, 1) := by decide +kernel
theorem D12_14 : decode oY12 14 = .ok (.goto 4, 3) := by decide +kernel
theorem D12_18 : decode oY12 18 = .ok (.ireturn, 1) := by decide +kernel
def Q_o_sil0 (Z : State) (a1 : Addr) (cs : Int32) (fm : Value) (h0 : Heap) (n0 : Nat) (v : Option Value) (h : Heap) (L : List Loc) : Prop := v = some (.int 1) ∧ Fr n0 L ∧ h = h0
theorem o_sil0 (l : Launch) (Z : State) (a0 : Array Value) (hw : ∀ d ∈ tables_1, d.before a0 Z = true) (ws : List Jvm.Cond) (a1 : Addr) (cs : Int32) (fm : Value) (h0 : Heap) (n0 : Nat) (Z0 : n0 ≤ h0.size) (Fc : Fld Z h0 a1 "java/lang/String" "coder" "B" (.int 0)) (hst : o_ST Z cs fm) (O0 : Old Z n0 h0) :
    o_MF l o_N12 oY12 1 (some .boolean) ws o_R2 #[(.ref a1)] Z h0 (Q_o_sil0 Z a1 cs fm h0 n0) := by
  refine o_start (C := "java/lang/String") rfl (plainFor_of_name o_pn_o_sI0) fun p e s m below meth c s1 F0 Bd hx hby hml hown hnm hZ X0 e0 hF0 => ?_
  have N0 := Fr.nil n0
  have pre0 : Goes p e below s1 F0 s1 (mkF m 0 #[oR a1] []) := fun t k => castTop (hF0.trans (by simp [entryFrame, mkF, argsToLocals, Value.category])) k
  obtain ⟨T1, X1, e1, st1⟩ := getS2 X0 hx hZ hown (host := "") (Or.inl (oV hw 15 rfl)) Via.refl e0 (hst.1.ext O0.2) (g := (mkF m 0 #[oR a1] [])) rfl (hb hby D12_0)
  have pre2 : Goes p e below s1 F0 T1 (mkF m 3 #[oR a1] [(.int cs)]) := fun t kt => pre0 t (st1 t kt)
  obtain ⟨T3, X3, e3, st3⟩ := getF X1 hx hZ hown (host := "") (Or.inl (oV hw 27 rfl)) Via.refl e1 Fc (g := (mkF m 7 #[oR a1] [(.ref a1)])) rfl rfl (hb hby D12_7)
  have pre4 : Goes p e below s1 F0 T3 (mkF m 10 #[oR a1] [(.int 0)]) := fun t kt => pre2 t (by
    refine o_ifN X1 hx hby D12_3 ((if0 _ _).trans (feq hst.2.1).1) ?_
    refine o_al X1 hx hby D12_6 rfl ?_
    exact st3 t kt)
  have pre5 : Goes p e below s1 F0 T3 (mkF m 18 #[oR a1] [(.int 1)]) := fun t kt => pre4 t (by
    refine o_ifN X3 hx hby D12_10 ((if0 _ _).trans (teq (by decide : (0 : Int32) = (0 : Int32))).2) ?_
    refine o_ic X3 hx hby D12_13 ?_
    refine o_gt 14 18 X3 hx hby D12_14 ?_
    exact kt)
  refine o_eN X3 Bd hx pre5 (hb hby D12_18) e3 ?_
  exact ⟨rfl, N0, rfl⟩
theorem D12_17 : decode oY12 17 = .ok (.iconst 0, 1) := by decide +kernel
def Q_o_sil1 (Z : State) (a1 : Addr) (cs : Int32) (fm : Value) (h0 : Heap) (n0 : Nat) (v : Option Value) (h : Heap) (L : List Loc) : Prop := v = some (.int 0) ∧ Fr n0 L ∧ h = h0
theorem o_sil1 (l : Launch) (Z : State) (a0 : Array Value) (hw : ∀ d ∈ tables_1, d.before a0 Z = true) (ws : List Jvm.Cond) (a1 : Addr) (cs : Int32) (fm : Value) (h0 : Heap) (n0 : Nat) (Z0 : n0 ≤ h0.size) (Fc : Fld Z h0 a1 "java/lang/String" "coder" "B" (.int 1)) (hst : o_ST Z cs fm) (O0 : Old Z n0 h0) :
    o_MF l o_N12 oY12 1 (some .boolean) ws o_R2 #[(.ref a1)] Z h0 (Q_o_sil1 Z a1 cs fm h0 n0) := by
  refine o_start (C := "java/lang/String") rfl (plainFor_of_name o_pn_o_sI0) fun p e s m below meth c s1 F0 Bd hx hby hml hown hnm hZ X0 e0 hF0 => ?_
  have N0 := Fr.nil n0
  have pre0 : Goes p e below s1 F0 s1 (mkF m 0 #[oR a1] []) := fun t k => castTop (hF0.trans (by simp [entryFrame, mkF, argsToLocals, Value.category])) k
  obtain ⟨T1, X1, e1, st1⟩ := getS2 X0 hx hZ hown (host := "") (Or.inl (oV hw 15 rfl)) Via.refl e0 (hst.1.ext O0.2) (g := (mkF m 0 #[oR a1] [])) rfl (hb hby D12_0)
  have pre2 : Goes p e below s1 F0 T1 (mkF m 3 #[oR a1] [(.int cs)]) := fun t kt => pre0 t (st1 t kt)
  obtain ⟨T3, X3, e3, st3⟩ := getF X1 hx hZ hown (host := "") (Or.inl (oV hw 27 rfl)) Via.refl e1 Fc (g := (mkF m 7 #[oR a1] [(.ref a1)])) rfl rfl (hb hby D12_7)
  have pre4 : Goes p e below s1 F0 T3 (mkF m 10 #[oR a1] [(.int 1)]) := fun t kt => pre2 t (by
    refine o_ifN X1 hx hby D12_3 ((if0 _ _).trans (feq hst.2.1).1) ?_
    refine o_al X1 hx hby D12_6 rfl ?_
    exact st3 t kt)
  have pre5 : Goes p e below s1 F0 T3 (mkF m 18 #[oR a1] [(.int 0)]) := fun t kt => pre4 t (by
    refine o_ifY 10 17 X3 hx hby D12_10 ((if0 _ _).trans (feq (by decide : ¬ ((1 : Int32) = (0 : Int32)))).2) ?_
    refine o_ic X3 hx hby D12_17 ?_
    exact kt)
  refine o_eN X3 Bd hx pre5 (hb hby D12_18) e3 ?_
  exact ⟨rfl, N0, rfl⟩
theorem D13_0 : decode oY5 0 = .ok (.iload_n 0, 1) := by decide +kernel
theorem D13_1 : decode oY5 1 = .ok (.ifCond .lt 8, 3) := by decide +kernel
theorem D13_4 : decode oY5 4 = .ok (.iload_n 0, 1) := by decide +kernel
theorem D13_5 : decode oY5 5 = .ok (.iload_n 1, 1) := by decide +kernel
theorem D13_6 : decode oY5 6 = .ok (.if_icmp .lt 10, 3) := by decide +kernel
theorem D13_16 : decode oY5 16 = .ok (.iload_n 0, 1) := by decide +kernel
theorem D13_17 : decode oY5 17 = .ok (.ireturn, 1) := by decide +kernel
theorem o_pn_o_pi : plainName "jdk/internal/util/Preconditions" = true := by first | (simp [plainName, overriddenIn]; done) | decide +kernel
theorem o_ef_o_pi (m : MethodId) (x0 x1 : Int32) (x2 : Value) (h2 : o_Rf x2) : entryFrame m #[(.int x0), (.int x1), x2] 3 = mkF m 0 #[oI x0, oI x1, .val x2] [] := by rcases h2 with rfl | ⟨w2, rfl⟩ <;> first | (simp [entryFrame, mkF, argsToLocals, Value.category]; done) | rfl
def Q_o_pi (Z : State) (ip jp : Int32) (fm : Value) (h0 : Heap) (n0 : Nat) (v : Option Value) (h : Heap) (L : List Loc) : Prop := v = some (.int ip) ∧ Fr n0 L ∧ h = h0
theorem o_pi (l : Launch) (Z : State) (a0 : Array Value) (hw : ∀ d ∈ tables_1, d.before a0 Z = true) (ws : List Jvm.Cond) (ip jp : Int32) (fm : Value) (h0 : Heap) (n0 : Nat) (Z0 : n0 ≤ h0.size) (hfm : o_Rf fm) (hi : ¬ (ip < (0 : Int32))) (hj : ip < jp) :
    o_MF l o_N13 oY5 3 (some .int) ws o_R2 #[(.int ip), (.int jp), fm] Z h0 (Q_o_pi Z ip jp fm h0 n0) := by
  refine o_start (C := "jdk/internal/util/Preconditions") rfl (plainFor_of_name o_pn_o_pi) fun p e s m below meth c s1 F0 Bd hx hby hml hown hnm hZ X0 e0 hF0 => ?_
  have N0 := Fr.nil n0
  have pre0 : Goes p e below s1 F0 s1 (mkF m 0 #[oI ip, oI jp, .val fm] []) := fun t k => castTop (hF0.trans (o_ef_o_pi m ip jp fm hfm)) k
  have pre1 : Goes p e below s1 F0 s1 (mkF m 17 #[oI ip, oI jp, .val fm] [(.int ip)]) := fun t kt => pre0 t (by
    refine o_il X0 hx hby D13_0 rfl ?_
    refine o_ifN X0 hx hby D13_1 ((if0 _ _).trans (flt hi).1) ?_
    refine o_il X0 hx hby D13_4 rfl ?_
    refine o_il X0 hx hby D13_5 rfl ?_
    refine o_icY 6 16 X0 hx hby D13_6 (tlt hj).1 ?_
    refine o_il X0 hx hby D13_16 rfl ?_
    exact kt)
  refine o_eI X0 Bd hx pre1 (hb hby D13_17) e0 ?_
  exact ⟨rfl, N0, rfl⟩
theorem D14_0 : decode oY13 0 = .ok (.iload_n 0, 1) := by decide +kernel
theorem D14_1 : decode oY13 1 = .ok (.iload_n 1, 1) := by decide +kernel
theorem D14_2 : decode oY13 2 = .ok (.getstatic 1053, 3) := by decide +kernel
theorem D14_5 : decode oY13 5 = .ok (.invokestatic 1059, 3) := by decide +kernel
theorem D14_8 : decode oY13 8 = .ok (.pop, 1) := by decide +kernel
theorem D14_9 : decode oY13 9 = .ok (.return_, 1) := by decide +kernel
def Q_o_si (Z : State) (ip jp cs : Int32) (fm : Value) (h0 : Heap) (n0 : Nat) (v : Option Value) (h : Heap) (L : List Loc) : Prop := v = none ∧ Fr n0 L ∧ h = h0
theorem o_si (l : Launch) (Z : State) (a0 : Array Value) (hw : ∀ d ∈ tables_1, d.before a0 Z = true) (ws : List Jvm.Cond) (ip jp cs : Int32) (fm : Value) (h0 : Heap) (n0 : Nat) (Z0 : n0 ≤ h0.size) (hi : ¬ (ip < (0 : Int32))) (hj : ip < jp) (hst : o_ST Z cs fm) (O0 : Old Z n0 h0) :
    o_MF l o_N14 oY13 2 none ws o_R19 #[(.int ip), (.int jp)] Z h0 (Q_o_si Z ip jp cs fm h0 n0) := by
  refine o_start (C := "java/lang/String") rfl (plainFor_of_name o_pn_o_sI0) fun p e s m below meth c s1 F0 Bd hx hby hml hown hnm hZ X0 e0 hF0 => ?_
  have N0 := Fr.nil n0
  have pre0 : Goes p e below s1 F0 s1 (mkF m 0 #[oI ip, oI jp] []) := fun t k => castTop (hF0.trans (by simp [entryFrame, mkF, argsToLocals, Value.category])) k
  obtain ⟨T1, X1, e1, st1⟩ := getS2 X0 hx hZ hown (host := "") (Or.inl (oV hw 209 rfl)) Via.refl e0 (hst.2.2.2.2.2.1.ext O0.2) (g := (mkF m 2 #[oI ip, oI jp] [(.int jp), (.int ip)])) rfl (hb hby D14_2)
  have pre2 : Goes p e below s1 F0 T1 (mkF m 5 #[oI ip, oI jp] [fm, (.int jp), (.int ip)]) := fun t kt => pre0 t (by
    refine o_il X0 hx hby D14_0 rfl ?_
    refine o_il X0 hx hby D14_1 rfl ?_
    exact st1 t kt)
  obtain ⟨_, T3, L3, X3, hQ3, st3⟩ := o_cS (y := o_N13) (g := (mkF m 5 #[oI ip, oI jp] [fm, (.int jp), (.int ip)])) (as := [(.int ip), (.int jp), fm]) (rest := []) 0 X1 hx hZ hml hown (oV hw 211 rfl) (oV hw 212 rfl) (oV hw 210 rfl) (oV hw 213 rfl) (o_pi l Z a0 hw [] ip jp fm h0 n0 Z0 hst.2.2.2.2.2.2 hi hj) e1 o_pd9 (hb hby D14_5)
  obtain ⟨rfl, N3q, e3⟩ := hQ3
  have N3 := Fr.app N0 N3q
  have pre4 : Goes p e below s1 F0 T3 (mkF m 8 #[oI ip, oI jp] [(.int ip)]) := fun t kt => pre2 t (st3 t kt)
  have pre5 : Goes p e below s1 F0 T3 (mkF m 9 #[oI ip, oI jp] []) := fun t kt => pre4 t (by
    refine XS.pop X3.here hx rfl (hb hby D14_8) rfl rfl ?_
    exact kt)
  refine o_eV X3 Bd hx pre5 (hb hby D14_9) e3 ?_
  exact ⟨rfl, N3, rfl⟩
theorem D15_0 : decode oY20 0 = .ok (.iload_n 1, 1) := by decide +kernel
theorem D15_1 : decode oY20 1 = .ok (.aload_n 0, 1) := by decide +kernel
theorem D15_2 : decode oY20 2 = .ok (.arraylength, 1) := by decide +kernel
theorem D15_3 : decode oY20 3 = .ok (.invokestatic 9, 3) := by decide +kernel
theorem D15_6 : decode oY20 6 = .ok (.aload_n 0, 1) := by decide +kernel
theorem D15_7 : decode oY20 7 = .ok (.iload_n 1, 1) := by decide +kernel
theorem D15_8 : decode oY20 8 = .ok (.baload, 1) := by decide +kernel
theorem D15_9 : decode oY20 9 = .ok (.sipush 255, 3) := by decide +kernel
theorem D15_12 : decode oY20 12 = .ok (.iand, 1) := by decide +kernel
theorem D15_13 : decode oY20 13 = .ok (.i2c, 1) := by decide +kernel
theorem D15_14 : decode oY20 14 = .ok (.ireturn, 1) := by decide +kernel
theorem o_pn_o_lca : plainName "java/lang/StringLatin1" = true := by first | (simp [plainName, overriddenIn]; done) | decide +kernel
def Q_o_lca (Z : State) (ab : Addr) (ip zn : Int32) (pu cs : Int32) (fm : Value) (h0 : Heap) (n0 : Nat) (v : Option Value) (h : Heap) (L : List Loc) : Prop := v = some (.int (nar .char (o_LC pu))) ∧ Fr n0 L ∧ h = h0
theorem o_lca (l : Launch) (Z : State) (a0 : Array Value) (hw : ∀ d ∈ tables_1, d.before a0 Z = true) (ws : List Jvm.Cond) (ab : Addr) (ip zn : Int32) (pu cs : Int32) (fm : Value) (h0 : Heap) (n0 : Nat) (Z0 : n0 ≤ h0.size) (Ln : o_Ln Z h0 ab zn) (At : o_At Z h0 ab ip pu) (hi : ¬ (ip < (0 : Int32))) (hj : ip < zn) (hst : o_ST Z cs fm) (O0 : Old Z n0 h0) :
    o_MF l o_N15 oY20 2 (some .char) ws o_R20 #[(.ref ab), (.int ip)] Z h0 (Q_o_lca Z ab ip zn pu cs fm h0 n0) := by
  refine o_start (C := "java/lang/StringLatin1") rfl (plainFor_of_name o_pn_o_lca) fun p e s m below meth c s1 F0 Bd hx hby hml hown hnm hZ X0 e0 hF0 => ?_
  have N0 := Fr.nil n0
  have pre0 : Goes p e below s1 F0 s1 (mkF m 0 #[oR ab, oI ip] []) := fun t k => castTop (hF0.trans (by simp [entryFrame, mkF, argsToLocals, Value.category])) k
  obtain ⟨cl1, Ar1, S1, N_1⟩ := (id (Ln))
  obtain ⟨_, T2, L2, X2, hQ2, st2⟩ := o_cS (y := o_N14) (g := (mkF m 3 #[oR ab, oI ip] [(.int zn), (.int ip)])) (as := [(.int ip), (.int zn)]) (rest := []) 0 X0 hx hZ hml hown (oV hw 206 rfl) (oV hw 207 rfl) (oV hw 4 rfl) (oV hw 208 rfl) (o_si l Z a0 hw [] ip zn cs fm h0 n0 Z0 hi hj hst O0) e0 o_pd10 (hb hby D15_3)
  obtain ⟨rfl, N2q, e2⟩ := hQ2
  have N2 := Fr.app N0 N2q
  have pre3 : Goes p e below s1 F0 T2 (mkF m 6 #[oR ab, oI ip] []) := fun t kt => pre0 t (by
    refine o_il X0 hx hby D15_0 rfl ?_
    refine o_al X0 hx hby D15_1 rfl ?_
    refine X0.arraylength hx (by (try rw [e0]); exact Ar1.1) (State.isArrayOf_alike hZ.alike Ar1.2.1) (g := (mkF m 2 #[oR ab, oI ip] [(.ref ab), (.int ip)])) rfl rfl (hb hby D15_2) _ ?_
    rw [len_of S1 N_1]
    exact st2 t kt)
  obtain ⟨cl4, Ar4, hin4, hat4⟩ := (id (At))
  have pre5 : Goes p e below s1 F0 T2 (mkF m 14 #[oR ab, oI ip] [(.int ((pu &&& (255 : Int32)).toUInt32.toUInt16.toUInt32.toInt32))]) := fun t kt => pre3 t (by
    refine o_al X2 hx hby D15_6 rfl ?_
    refine o_il X2 hx hby D15_7 rfl ?_
    refine X2.baloadBytes hx (j := ip) (v := (.int pu)) (by (try rw [e2]); exact Ar4.1) (State.isArrayOf_alike hZ.alike Ar4.2.1) Ar4.2.2 hin4 hat4 (g := (mkF m 8 #[oR ab, oI ip] [(.int ip), (.ref ab)])) rfl rfl (hb hby D15_8) _ ?_
    refine XS.sipush X2.here hx rfl (hb hby D15_9) ?_
    refine XS.iand X2.here hx rfl (hb hby D15_12) rfl ?_
    refine XS.i2c X2.here hx rfl (hb hby D15_13) rfl ?_
    exact kt)
  refine o_eN X2 Bd hx pre5 (hb hby D15_14) e2 ?_
  exact ⟨rfl, N2, rfl⟩
theorem D16_0 : decode oY30 0 = .ok (.aload_n 0, 1) := by decide +kernel
theorem D16_1 : decode oY30 1 = .ok (.arraylength, 1) := by decide +kernel
theorem D16_2 : decode oY30 2 = .ok (.iconst 1, 1) := by decide +kernel
theorem D16_3 : decode oY30 3 = .ok (.ishr, 1) := by decide +kernel
theorem D16_4 : decode oY30 4 = .ok (.ireturn, 1) := by decide +kernel
def Q_o_ul (Z : State) (ab : Addr) (zn : Int32) (h0 : Heap) (n0 : Nat) (v : Option Value) (h : Heap) (L : List Loc) : Prop := v = some (.int (zn >>> ((1 : Int32) &&& 31))) ∧ Fr n0 L ∧ h = h0
theorem o_ul (l : Launch) (Z : State) (a0 : Array Value) (hw : ∀ d ∈ tables_1, d.before a0 Z = true) (ws : List Jvm.Cond) (ab : Addr) (zn : Int32) (h0 : Heap) (n0 : Nat) (Z0 : n0 ≤ h0.size) (Ln : o_Ln Z h0 ab zn) :
    o_MF l o_N16 oY30 1 (some .int) ws o_R2 #[(.ref ab)] Z h0 (Q_o_ul Z ab zn h0 n0) := by
  refine o_start (C := "java/lang/StringUTF16") rfl (plainFor_of_name o_pn_o_cin1) fun p e s m below meth c s1 F0 Bd hx hby hml hown hnm hZ X0 e0 hF0 => ?_
  have N0 := Fr.nil n0
  have pre0 : Goes p e below s1 F0 s1 (mkF m 0 #[oR ab] []) := fun t k => castTop (hF0.trans (by simp [entryFrame, mkF, argsToLocals, Value.category])) k
  obtain ⟨cl1, Ar1, S1, N_1⟩ := (id (Ln))
  have pre2 : Goes p e below s1 F0 s1 (mkF m 4 #[oR ab] [(.int (zn >>> ((1 : Int32) &&& 31)))]) := fun t kt => pre0 t (by
    refine o_al X0 hx hby D16_0 rfl ?_
    refine X0.arraylength hx (by (try rw [e0]); exact Ar1.1) (State.isArrayOf_alike hZ.alike Ar1.2.1) (g := (mkF m 1 #[oR ab] [(.ref ab)])) rfl rfl (hb hby D16_1) _ ?_
    rw [len_of S1 N_1]
    refine o_ic X0 hx hby D16_2 ?_
    refine XS.ishr X0.here hx rfl (hb hby D16_3) rfl ?_
    exact kt)
  refine o_eI X0 Bd hx pre2 (hb hby D16_4) e0 ?_
  exact ⟨rfl, N0, rfl⟩
theorem D17_0 : decode oY35 0 = .ok (.iload_n 0, 1) := by decide +kernel
theorem D17_1 : decode oY35 1 = .ok (.aload_n 1, 1) := by decide +kernel
theorem D17_2 : decode oY35 2 = .ok (.invokestatic 48, 3) := by decide +kernel
theorem D17_5 : decode oY35 5 = .ok (.invokestatic 414, 3) := by decide +kernel
theorem D17_8 : decode oY35 8 = .ok (.return_, 1) := by decide +kernel
def Q_o_uci (Z : State) (ip : Int32) (ab : Addr) (zn cs : Int32) (fm : Value) (h0 : Heap) (n0 : Nat) (v : Option Value) (h : Heap) (L : List Loc) : Prop := v = none ∧ Fr n0 L ∧ h = h0
theorem o_uci (l : Launch) (Z : State) (a0 : Array Value) (hw : ∀ d ∈ tables_1, d.before a0 Z = true) (ws : List Jvm.Cond) (ip : Int32) (ab : Addr) (zn cs : Int32) (fm : Value) (h0 : Heap) (n0 : Nat) (Z0 : n0 ≤ h0.size) (Ln : o_Ln Z h0 ab zn) (hi : ¬ (ip < (0 : Int32))) (hj : ip < (zn >>> ((1 : Int32) &&& 31))) (hst : o_ST Z cs fm) (O0 : Old Z n0 h0) :
    o_MF l o_N17 oY35 2 none ws o_R20 #[(.int ip), (.ref ab)] Z h0 (Q_o_uci Z ip ab zn cs fm h0 n0) := by
  refine o_start (C := "java/lang/StringUTF16") rfl (plainFor_of_name o_pn_o_cin1) fun p e s m below meth c s1 F0 Bd hx hby hml hown hnm hZ X0 e0 hF0 => ?_
  have N0 := Fr.nil n0
  have pre0 : Goes p e below s1 F0 s1 (mkF m 0 #[oI ip, oR ab] []) := fun t k => castTop (hF0.trans (by simp [entryFrame, mkF, argsToLocals, Value.category])) k
  obtain ⟨_, T1, L1, X1, hQ1, st1⟩ := o_cS (y := o_N16) (g := (mkF m 2 #[oI ip, oR ab] [(.ref ab), (.int ip)])) (as := [(.ref ab)]) (rest := [(.int ip)]) 1 X0 hx hZ hml hown (oV hw 265 rfl) (oV hw 266 rfl) (oV hw 18 rfl) (oV hw 267 rfl) (o_ul l Z a0 hw [] ab zn h0 n0 Z0 Ln) e0 o_pd11 (hb hby D17_2)
  obtain ⟨rfl, N1q, e1⟩ := hQ1
  have N1 := Fr.app N0 N1q
  have pre2 : Goes p e below s1 F0 T1 (mkF m 5 #[oI ip, oR ab] [(.int (zn >>> ((1 : Int32) &&& 31))), (.int ip)]) := fun t kt => pre0 t (by
    refine o_il X0 hx hby D17_0 rfl ?_
    refine o_al X0 hx hby D17_1 rfl ?_
    exact st1 t kt)
  obtain ⟨_, T3, L3, X3, hQ3, st3⟩ := o_cS (y := o_N14) (g := (mkF m 5 #[oI ip, oR ab] [(.int (zn >>> ((1 : Int32) &&& 31))), (.int ip)])) (as := [(.int ip), (.int (zn >>> ((1 : Int32) &&& 31)))]) (rest := []) 0 X1 hx hZ hml hown (oV hw 300 rfl) (oV hw 207 rfl) (oV hw 4 rfl) (oV hw 208 rfl) (o_si l Z a0 hw [] ip (zn >>> ((1 : Int32) &&& 31)) cs fm h0 n0 Z0 hi hj hst O0) e1 o_pd10 (hb hby D17_5)
  obtain ⟨rfl, N3q, e3⟩ := hQ3
  have N3 := Fr.app N1 N3q
  have pre4 : Goes p e below s1 F0 T3 (mkF m 8 #[oI ip, oR ab] []) := fun t kt => pre2 t (st3 t kt)
  refine o_eV X3 Bd hx pre4 (hb hby D17_8) e3 ?_
  exact ⟨rfl, N3, rfl⟩
theorem D18_0 : decode oY32 0 = .ok (.iload_n 1, 1) := by decide +kernel
theorem D18_1 : decode oY32 1 = .ok (.aload_n 0, 1) := by decide +kernel
theorem D18_2 : decode oY32 2 = .ok (.invokestatic 67, 3) := by decide +kernel
theorem D18_5 : decode oY32 5 = .ok (.aload_n 0, 1) := by decide +kernel
theorem D18_6 : decode oY32 6 = .ok (.iload_n 1, 1) := by decide +kernel
theorem D18_7 : decode oY32 7 = .ok (.invokestatic 71, 3) := by decide +kernel
theorem D18_10 : decode oY32 10 = .ok (.ireturn, 1) := by decide +kernel
def Q_o_uca (Z : State) (ab : Addr) (ip zn : Int32) (pu pw : Int32) (vz cs : Int32) (fm : Value) (h0 : Heap) (n0 : Nat) (v : Option Value) (h : Heap) (L : List Loc) : Prop := v = some (.int vz) ∧ Fr n0 L ∧ h = h0
theorem o_uca (l : Launch) (Z : State) (a0 : Array Value) (hw : ∀ d ∈ tables_1, d.before a0 Z = true) (ws : List Jvm.Cond) (ab : Addr) (ip zn : Int32) (pu pw : Int32) (vz cs : Int32) (fm : Value) (h0 : Heap) (n0 : Nat) (Z0 : n0 ≤ h0.size) (Ln : o_Ln Z h0 ab zn) (A0 : o_At Z h0 ab (ip <<< ((1 : Int32) &&& 31)) pu) (A1 : o_At Z h0 ab ((ip <<< ((1 : Int32) &&& 31)) + (1 : Int32)) pw) (hi : ¬ (ip < (0 : Int32))) (hj : ip < (zn >>> ((1 : Int32) &&& 31))) (hg : nar .char (o_GC pu pw) = vz) (hst : o_ST Z cs fm) (O0 : Old Z n0 h0) :
    o_MF l o_N18 oY32 2 (some .char) ws o_R21 #[(.ref ab), (.int ip)] Z h0 (Q_o_uca Z ab ip zn pu pw vz cs fm h0 n0) := by
  refine o_start (C := "java/lang/StringUTF16") rfl (plainFor_of_name o_pn_o_cin1) fun p e s m below meth c s1 F0 Bd hx hby hml hown hnm hZ X0 e0 hF0 => ?_
  have N0 := Fr.nil n0
  have pre0 : Goes p e below s1 F0 s1 (mkF m 0 #[oR ab, oI ip] []) := fun t k => castTop (hF0.trans (by simp [entryFrame, mkF, argsToLocals, Value.category])) k
  obtain ⟨_, T1, L1, X1, hQ1, st1⟩ := o_cS (y := o_N17) (g := (mkF m 2 #[oR ab, oI ip] [(.ref ab), (.int ip)])) (as := [(.int ip), (.ref ab)]) (rest := []) 0 X0 hx hZ hml hown (oV hw 297 rfl) (oV hw 298 rfl) (oV hw 18 rfl) (oV hw 299 rfl) (o_uci l Z a0 hw [] ip ab zn cs fm h0 n0 Z0 Ln hi hj hst O0) e0 o_pd12 (hb hby D18_2)
  obtain ⟨rfl, N1q, e1⟩ := hQ1
  have N1 := Fr.app N0 N1q
  have pre2 : Goes p e below s1 F0 T1 (mkF m 5 #[oR ab, oI ip] []) := fun t kt => pre0 t (by
    refine o_il X0 hx hby D18_0 rfl ?_
    refine o_al X0 hx hby D18_1 rfl ?_
    exact st1 t kt)
  obtain ⟨_, T3, L3, X3, hQ3, st3⟩ := o_cS (y := o_N7) (g := (mkF m 7 #[oR ab, oI ip] [(.int ip), (.ref ab)])) (as := [(.ref ab), (.int ip)]) (rest := []) 0 X1 hx hZ hml hown (oV hw 247 rfl) (oV hw 248 rfl) (oV hw 18 rfl) (oV hw 249 rfl) (o_gch l Z a0 hw [] ab ip pu pw cs fm h0 n0 Z0 A0 A1 hst O0) e1 o_pd6 (hb hby D18_7)
  obtain ⟨rfl, N3q, e3⟩ := hQ3
  have N3 := Fr.app N1 N3q
  have pre4 : Goes p e below s1 F0 T3 (mkF m 10 #[oR ab, oI ip] [(.int (nar .char (o_GC pu pw)))]) := fun t kt => pre2 t (by
    refine o_al X1 hx hby D18_5 rfl ?_
    refine o_il X1 hx hby D18_6 rfl ?_
    exact st3 t kt)
  refine o_eN X3 Bd hx pre4 (hb hby D18_10) e3 ?_
  exact ⟨by rw [o_nc _ (o_ncr _), hg], N3, rfl⟩
theorem D19_0 : decode oY19 0 = .ok (.aload_n 0, 1) := by decide +kernel
theorem D19_1 : decode oY19 1 = .ok (.invokevirtual 492, 3) := by decide +kernel
theorem D19_4 : decode oY19 4 = .ok (.ifCond .eq 12, 3) := by decide +kernel
theorem D19_7 : decode oY19 7 = .ok (.aload_n 0, 1) := by decide +kernel
theorem D19_8 : decode oY19 8 = .ok (.getfield 9, 3) := by decide +kernel
theorem D19_11 : decode oY19 11 = .ok (.iload_n 1, 1) := by decide +kernel
theorem D19_12 : decode oY19 12 = .ok (.invokestatic 495, 3) := by decide +kernel
theorem D19_15 : decode oY19 15 = .ok (.ireturn, 1) := by decide +kernel
theorem D19_16 : decode oY19 16 = .ok (.aload_n 0, 1) := by decide +kernel
theorem D19_17 : decode oY19 17 = .ok (.getfield 9, 3) := by decide +kernel
theorem D19_20 : decode oY19 20 = .ok (.iload_n 1, 1) := by decide +kernel
theorem D19_21 : decode oY19 21 = .ok (.invokestatic 498, 3) := by decide +kernel
theorem D19_24 : decode oY19 24 = .ok (.ireturn, 1) := by decide +kernel
def Q_o_sch (Z : State) (a1 : Addr) (cd : Int32) (y : Addr) (ip vz cs : Int32) (fm : Value) (h0 : Heap) (n0 : Nat) (v : Option Value) (h : Heap) (L : List Loc) : Prop := v = some (.int vz) ∧ Fr n0 L ∧ h = h0
theorem o_sch (l : Launch) (Z : State) (a0 : Array Value) (hw : ∀ d ∈ tables_1, d.before a0 Z = true) (ws : List Jvm.Cond) (a1 : Addr) (cd : Int32) (y : Addr) (ip vz cs : Int32) (fm : Value) (h0 : Heap) (n0 : Nat) (Z0 : n0 ≤ h0.size) (E_a1 : Exa Z h0 a1 "java/lang/String") (Fc : Fld Z h0 a1 "java/lang/String" "coder" "B" (.int cd)) (Fv : Fld Z h0 a1 "java/lang/String" "value" "[B" (.ref y)) (RDy : o_RD Z h0 y cd ip vz) (hi : ¬ (ip < (0 : Int32))) (hst : o_ST Z cs fm) (O0 : Old Z n0 h0) :
    o_MF l o_N19 oY19 2 (some .char) ws o_R22 #[(.ref a1), (.int ip)] Z h0 (Q_o_sch Z a1 cd y ip vz cs fm h0 n0) := by
  refine o_start (C := "java/lang/String") rfl (plainFor_of_name o_pn_o_sI0) fun p e s m below meth c s1 F0 Bd hx hby hml hown hnm hZ X0 e0 hF0 => ?_
  have N0 := Fr.nil n0
  have pre0 : Goes p e below s1 F0 s1 (mkF m 0 #[oR a1, oI ip] []) := fun t k => castTop (hF0.trans (by simp [entryFrame, mkF, argsToLocals, Value.category])) k
  have Fc0 := Fc
  rcases (id RDy) with ⟨hcd, zn, pu, Ln, At, hj, hg⟩ | ⟨hcd, zn, pu, pw, Ln, A0, A1, hj, hg⟩
  · -- coder 0
    rw [hcd] at Fc0
    obtain ⟨_, T1, L1, X1, hQ1, st1⟩ := o_cW (y := o_N12) (b := a1) (g := (mkF m 1 #[oR a1, oI ip] [(.ref a1)])) (as := []) (rest := []) 0 X0 hx hZ hml hown (oV hw 197 rfl) (oV hw 200 rfl) (oV hw 199 rfl) (oV hw 201 rfl) (oV hw 4 rfl) (o_sil0 l Z a0 hw [] a1 cs fm h0 n0 Z0 Fc0 hst O0) e0 E_a1 o_pd13 (hb hby D19_1)
    obtain ⟨rfl, N1q, e1⟩ := hQ1
    have N1 := Fr.app N0 N1q
    have pre2 : Goes p e below s1 F0 T1 (mkF m 4 #[oR a1, oI ip] [(.int 1)]) := fun t kt => pre0 t (by
      refine o_al X0 hx hby D19_0 rfl ?_
      exact st1 t kt)
    obtain ⟨T3, X3, e3, st3⟩ := getF X1 hx hZ hown (host := "") (Or.inl (oV hw 29 rfl)) Via.refl e1 Fv (g := (mkF m 8 #[oR a1, oI ip] [(.ref a1)])) rfl rfl (hb hby D19_8)
    have pre4 : Goes p e below s1 F0 T3 (mkF m 11 #[oR a1, oI ip] [(.ref y)]) := fun t kt => pre2 t (by
      refine o_ifN X1 hx hby D19_4 ((if0 _ _).trans (feq (by decide : ¬ ((1 : Int32) = (0 : Int32)))).1) ?_
      refine o_al X1 hx hby D19_7 rfl ?_
      exact st3 t kt)
    obtain ⟨_, T5, L5, X5, hQ5, st5⟩ := o_cS (y := o_N15) (g := (mkF m 12 #[oR a1, oI ip] [(.int ip), (.ref y)])) (as := [(.ref y), (.int ip)]) (rest := []) 0 X3 hx hZ hml hown (oV hw 202 rfl) (oV hw 203 rfl) (oV hw 204 rfl) (oV hw 205 rfl) (o_lca l Z a0 hw [] y ip zn pu cs fm h0 n0 Z0 Ln At hi hj hst O0) e3 o_pd6 (hb hby D19_12)
    obtain ⟨rfl, N5q, e5⟩ := hQ5
    have N5 := Fr.app N1 N5q
    have pre6 : Goes p e below s1 F0 T5 (mkF m 15 #[oR a1, oI ip] [(.int (nar .char (o_LC pu)))]) := fun t kt => pre4 t (by
      refine o_il X3 hx hby D19_11 rfl ?_
      exact st5 t kt)
    refine o_eN X5 Bd hx pre6 (hb hby D19_15) e5 ?_
    exact ⟨by rw [o_nc _ (o_ncr _), hg], N5, rfl⟩
  · -- coder 1
    rw [hcd] at Fc0
    obtain ⟨_, T7, L7, X7, hQ7, st7⟩ := o_cW (y := o_N12) (b := a1) (g := (mkF m 1 #[oR a1, oI ip] [(.ref a1)])) (as := []) (rest := []) 0 X0 hx hZ hml hown (oV hw 197 rfl) (oV hw 200 rfl) (oV hw 199 rfl) (oV hw 201 rfl) (oV hw 4 rfl) (o_sil1 l Z a0 hw [] a1 cs fm h0 n0 Z0 Fc0 hst O0) e0 E_a1 o_pd13 (hb hby D19_1)
    obtain ⟨rfl, N7q, e7⟩ := hQ7
    have N7 := Fr.app N0 N7q
    have pre8 : Goes p e below s1 F0 T7 (mkF m 4 #[oR a1, oI ip] [(.int 0)]) := fun t kt => pre0 t (by
      refine o_al X0 hx hby D19_0 rfl ?_
      exact st7 t kt)
    obtain ⟨T9, X9, e9, st9⟩ := getF X7 hx hZ hown (host := "") (Or.inl (oV hw 29 rfl)) Via.refl e7 Fv (g := (mkF m 17 #[oR a1, oI ip] [(.ref a1)])) rfl rfl (hb hby D19_17)
    have pre10 : Goes p e below s1 F0 T9 (mkF m 20 #[oR a1, oI ip] [(.ref y)]) := fun t kt => pre8 t (by
      refine o_ifY 4 16 X7 hx hby D19_4 ((if0 _ _).trans (teq (by decide : (0 : Int32) = (0 : Int32))).1) ?_
      refine o_al X7 hx hby D19_16 rfl ?_
      exact st9 t kt)
    obtain ⟨_, T11, L11, X11, hQ11, st11⟩ := o_cS (y := o_N18) (g := (mkF m 21 #[oR a1, oI ip] [(.int ip), (.ref y)])) (as := [(.ref y), (.int ip)]) (rest := []) 0 X9 hx hZ hml hown (oV hw 294 rfl) (oV hw 295 rfl) (oV hw 18 rfl) (oV hw 296 rfl) (o_uca l Z a0 hw [] y ip zn pu pw vz cs fm h0 n0 Z0 Ln A0 A1 hi hj hg hst O0) e9 o_pd6 (hb hby D19_21)
    obtain ⟨rfl, N11q, e11⟩ := hQ11
    have N11 := Fr.app N7 N11q
    have pre12 : Goes p e below s1 F0 T11 (mkF m 24 #[oR a1, oI ip] [(.int vz)]) := fun t kt => pre10 t (by
      refine o_il X9 hx hby D19_20 rfl ?_
      exact st11 t kt)
    refine o_eN X11 Bd hx pre12 (hb hby D19_24) e11 ?_
    exact ⟨by rw [← hg, o_nc _ (o_ncr _)], N11, rfl⟩
theorem D20_0 : decode oY2 0 = .ok (.aload_n 0, 1) := by decide +kernel
theorem D20_1 : decode oY2 1 = .ok (.invokespecial 1, 3) := by decide +kernel
theorem D20_4 : decode oY2 4 = .ok (.return_, 1) := by decide +kernel
theorem o_pn_o_rec : plainName "java/lang/Record" = true := by first | (simp [plainName, overriddenIn]; done) | decide +kernel
def Q_o_rec (Z : State) (xe : Addr) (h0 : Heap) (n0 : Nat) (v : Option Value) (h : Heap) (L : List Loc) : Prop := v = none ∧ Fr n0 L ∧ h = h0
theorem o_rec (l : Launch) (Z : State) (a0 : Array Value) (hw : ∀ d ∈ tables_1, d.before a0 Z = true) (ws : List Jvm.Cond) (xe : Addr) (h0 : Heap) (n0 : Nat) (Z0 : n0 ≤ h0.size) :
    o_MF l o_N20 oY2 1 none ws o_R23 #[(.ref xe)] Z h0 (Q_o_rec Z xe h0 n0) := by
  refine o_start (C := "java/lang/Record") rfl (plainFor_of_name o_pn_o_rec) fun p e s m below meth c s1 F0 Bd hx hby hml hown hnm hZ X0 e0 hF0 => ?_
  have N0 := Fr.nil n0
  have pre0 : Goes p e below s1 F0 s1 (mkF m 0 #[oR xe] []) := fun t k => castTop (hF0.trans (by simp [entryFrame, mkF, argsToLocals, Value.category])) k
  obtain ⟨T1, X1, e1, st1⟩ := initO X0 hx hZ hown (oV hw 42 rfl) (oV hw 13 rfl) (oV hw 14 rfl) e0 (g := (mkF m 1 #[oR xe] [(.ref xe)])) rfl (by rw [hml]; rfl) rfl (hb hby D20_1) (by decide) (W := 0) (by show 2 * 0 + _ ≤ _; exact Nat.le_of_eq rfl) (by decide)
  have pre2 : Goes p e below s1 F0 T1 (mkF m 4 #[oR xe] []) := fun t kt => pre0 t (by
    refine o_al X0 hx hby D20_0 rfl ?_
    exact st1 t kt)
  refine o_eV X1 Bd hx pre2 (hb hby D20_4) e1 ?_
  exact ⟨rfl, N0, rfl⟩
theorem D21_0 : decode oY59 0 = .ok (.aload_n 0, 1) := by decide +kernel
theorem D21_1 : decode oY59 1 = .ok (.invokespecial 1, 3) := by decide +kernel
theorem D21_4 : decode oY59 4 = .ok (.aload_n 0, 1) := by decide +kernel
theorem D21_5 : decode oY59 5 = .ok (.aload_n 1, 1) := by decide +kernel
theorem D21_6 : decode oY59 6 = .ok (.putfield 7, 3) := by decide +kernel
theorem D21_9 : decode oY59 9 = .ok (.aload_n 0, 1) := by decide +kernel
theorem D21_10 : decode oY59 10 = .ok (.iload_n 2, 1) := by decide +kernel
theorem D21_11 : decode oY59 11 = .ok (.putfield 13, 3) := by decide +kernel
theorem D21_14 : decode oY59 14 = .ok (.return_, 1) := by decide +kernel
theorem o_pn_o_epi : plainName "com/example/ferry/ferry/Endpoint" = true := by first | (simp [plainName, overriddenIn]; done) | decide +kernel
def Q_o_epi (Z : State) (xe a1 : Addr) (pp : Int32) (h0 : Heap) (n0 : Nat) (v : Option Value) (h : Heap) (L : List Loc) : Prop := v = none ∧ Fr n0 L ∧ Keep h0 h [xe] ∧ Exa Z h xe "com/example/ferry/ferry/Endpoint" ∧ Fld Z h xe "com/example/ferry/ferry/Endpoint" "host" "Ljava/lang/String;" (.ref a1) ∧ Fld Z h xe "com/example/ferry/ferry/Endpoint" "port" "I" (.int pp)
theorem o_epi (l : Launch) (Z : State) (a0 : Array Value) (hw : ∀ d ∈ tables_1, d.before a0 Z = true) (ws : List Jvm.Cond) (xe a1 : Addr) (pp : Int32) (h0 : Heap) (n0 : Nat) (Z0 : n0 ≤ h0.size) (E_xe : Exa Z h0 xe "com/example/ferry/ferry/Endpoint") (F_host : Fld Z h0 xe "com/example/ferry/ferry/Endpoint" "host" "Ljava/lang/String;" .null) (F_port : Fld Z h0 xe "com/example/ferry/ferry/Endpoint" "port" "I" (.int 0)) (g_xe : n0 ≤ xe) :
    o_MF l o_N21 oY59 3 none ws o_R24 #[(.ref xe), (.ref a1), (.int pp)] Z h0 (Q_o_epi Z xe a1 pp h0 n0) := by
  refine o_start (C := "com/example/ferry/ferry/Endpoint") rfl (plainFor_of_name o_pn_o_epi) fun p e s m below meth c s1 F0 Bd hx hby hml hown hnm hZ X0 e0 hF0 => ?_
  have N0 := Fr.nil n0
  have pre0 : Goes p e below s1 F0 s1 (mkF m 0 #[oR xe, oR a1, oI pp] []) := fun t k => castTop (hF0.trans (by simp [entryFrame, mkF, argsToLocals, Value.category])) k
  obtain ⟨_, T1, L1, X1, hQ1, st1⟩ := o_cI (y := o_N20) (b := xe) (g := (mkF m 1 #[oR xe, oR a1, oI pp] [(.ref xe)])) (as := []) (rest := []) 0 X0 hx hZ hml hown (oV hw 37 rfl) (oV hw 38 rfl) (oV hw 41 rfl) (oV hw 40 rfl) (o_rec l Z a0 hw [] xe h0 n0 Z0 ) e0 o_pd14 (hb hby D21_1)
  obtain ⟨rfl, N1q, e1⟩ := hQ1
  have N1 := Fr.app N0 N1q
  have pre2 : Goes p e below s1 F0 T1 (mkF m 4 #[oR xe, oR a1, oI pp] []) := fun t kt => pre0 t (by
    refine o_al X0 hx hby D21_0 rfl ?_
    exact st1 t kt)
  obtain ⟨T3, h3, X3, e3, W3, st3⟩ := putF X1 hx hZ hown (host := "") (Or.inl (oV hw 43 rfl)) Via.refl e1 F_host E_xe (Or.inr ⟨(oV hw 44 rfl), rfl, hnm⟩) (oV hw 32 rfl) (ty := (.object "java/lang/String")) (by decide) rfl rfl (g := (mkF m 6 #[oR xe, oR a1, oI pp] [(.ref a1), (.ref xe)])) rfl rfl (hb hby D21_6)
  have Fw3 := F_host.same W3
  have K3 : Keep h0 h3 [xe] := (Keep.refl h0 [xe]).wr W3 (Or.inl (o_mG (i := 0) rfl))
  have N3 := Fr.snoc X3 N1 g_xe
  have pre4 : Goes p e below s1 F0 T3 (mkF m 9 #[oR xe, oR a1, oI pp] []) := fun t kt => pre2 t (by
    refine o_al X1 hx hby D21_4 rfl ?_
    refine o_al X1 hx hby D21_5 rfl ?_
    exact st3 t kt)
  obtain ⟨T5, h5, X5, e5, W5, st5⟩ := putF X3 hx hZ hown (host := "") (Or.inl (oV hw 45 rfl)) Via.refl e3 (F_port.other W3 (Or.inr (slot_ne (Or.inr (oV hw 46 rfl)) (Or.inr (oV hw 44 rfl)) (by decide) (t := .int) (t' := (.object "java/lang/String")) (by decide) (by decide)))) (E_xe.wr W3) (Or.inr ⟨(oV hw 46 rfl), rfl, hnm⟩) (oV hw 32 rfl) (ty := .int) (by decide) rfl rfl (g := (mkF m 11 #[oR xe, oR a1, oI pp] [(.int pp), (.ref xe)])) rfl rfl (hb hby D21_11)
  have Fw5 := (F_port.other W3 (Or.inr (slot_ne (Or.inr (oV hw 46 rfl)) (Or.inr (oV hw 44 rfl)) (by decide) (t := .int) (t' := (.object "java/lang/String")) (by decide) (by decide)))).same W5
  have K5 : Keep h0 h5 [xe] := K3.wr W5 (Or.inl (o_mG (i := 0) rfl))
  have N5 := Fr.snoc X5 N3 g_xe
  have pre6 : Goes p e below s1 F0 T5 (mkF m 14 #[oR xe, oR a1, oI pp] []) := fun t kt => pre4 t (by
    refine o_al X3 hx hby D21_9 rfl ?_
    refine o_il X3 hx hby D21_10 rfl ?_
    exact st5 t kt)
  refine o_eV X5 Bd hx pre6 (hb hby D21_14) e5 ?_
  exact ⟨rfl, N5, K5, ((E_xe.wr W3).wr W5), (Fw3.other W5 (Or.inr (slot_ne (Or.inr (oV hw 44 rfl)) (Or.inr (oV hw 46 rfl)) (by decide) (t := (.object "java/lang/String")) (t' := .int) (by decide) (by decide)))), Fw5⟩
theorem D22_0 : decode oY48 0 = .ok (.aload_n 0, 1) := by decide +kernel
theorem D22_1 : decode oY48 1 = .ok (.invokespecial 3, 3) := by decide +kernel
theorem D22_4 : decode oY48 4 = .ok (.getstatic 18, 3) := by decide +kernel
theorem D22_7 : decode oY48 7 = .ok (.ifCond .eq 18, 3) := by decide +kernel
theorem D22_10 : decode oY48 10 = .ok (.aload_n 0, 1) := by decide +kernel
theorem D22_11 : decode oY48 11 = .ok (.iload_n 1, 1) := by decide +kernel
theorem D22_12 : decode oY48 12 = .ok (.newarray .byte, 2) := by decide +kernel
theorem D22_14 : decode oY48 14 = .ok (.putfield 15, 3) := by decide +kernel
theorem D22_17 : decode oY48 17 = .ok (.aload_n 0, 1) := by decide +kernel
theorem D22_18 : decode oY48 18 = .ok (.iconst 0, 1) := by decide +kernel
theorem D22_19 : decode oY48 19 = .ok (.putfield 22, 3) := by decide +kernel
theorem D22_22 : decode oY48 22 = .ok (.goto 16, 3) := by decide +kernel
theorem D22_38 : decode oY48 38 = .ok (.return_, 1) := by decide +kernel
theorem o_pn_o_ai : plainName "java/lang/AbstractStringBuilder" = true := by first | (simp [plainName, overriddenIn]; done) | decide +kernel
def Q_o_ai (Z : State) (x1 : Addr) (cs : Int32) (fm : Value) (h0 : Heap) (n0 : Nat) (v : Option Value) (h : Heap) (L : List Loc) : Prop := v = none ∧ Fr n0 L ∧ Keep h0 h [x1] ∧ ∃ (ab : Addr) (kb : ClassId), h0.size ≤ ab ∧ o_SB Z h n0 x1 ab kb o_Z16 0 (0 : Int32) (16 : Int32) 16
theorem o_ai (l : Launch) (Z : State) (a0 : Array Value) (hw : ∀ d ∈ tables_1, d.before a0 Z = true) (ws : List Jvm.Cond) (x1 : Addr) (cs : Int32) (fm : Value) (h0 : Heap) (n0 : Nat) (Z0 : n0 ≤ h0.size) (E_x1 : Exa Z h0 x1 "java/lang/StringBuilder") (F_value : Fld Z h0 x1 "java/lang/AbstractStringBuilder" "value" "[B" .null) (F_coder : Fld Z h0 x1 "java/lang/AbstractStringBuilder" "coder" "B" (.int 0)) (F_count : Fld Z h0 x1 "java/lang/AbstractStringBuilder" "count" "I" (.int 0)) (F_maybeLatin1 : Fld Z h0 x1 "java/lang/AbstractStringBuilder" "maybeLatin1" "Z" (.int 0)) (g_x1 : n0 ≤ x1) (hst : o_ST Z cs fm) (O0 : Old Z n0 h0) :
    o_MF l o_N22 oY48 2 none ws o_R25 #[(.ref x1), (.int 16)] Z h0 (Q_o_ai Z x1 cs fm h0 n0) := by
  refine o_start (C := "java/lang/AbstractStringBuilder") rfl (plainFor_of_name o_pn_o_ai) fun p e s m below meth c s1 F0 Bd hx hby hml hown hnm hZ X0 e0 hF0 => ?_
  have N0 := Fr.nil n0
  have pre0 : Goes p e below s1 F0 s1 (mkF m 0 #[oR x1, oI 16] []) := fun t k => castTop (hF0.trans (by simp [entryFrame, mkF, argsToLocals, Value.category])) k
  obtain ⟨T1, X1, e1, st1⟩ := initO X0 hx hZ hown (oV hw 64 rfl) (oV hw 13 rfl) (oV hw 14 rfl) e0 (g := (mkF m 1 #[oR x1, oI 16] [(.ref x1)])) rfl (by rw [hml]; rfl) rfl (hb hby D22_1) (by decide) (W := 0) (by show 2 * 0 + _ ≤ _; exact Nat.le_of_eq rfl) (by decide)
  have pre2 : Goes p e below s1 F0 T1 (mkF m 4 #[oR x1, oI 16] []) := fun t kt => pre0 t (by
    refine o_al X0 hx hby D22_0 rfl ?_
    exact st1 t kt)
  obtain ⟨T3, X3, e3, st3⟩ := getS2 X1 hx hZ hown (host := "") (Or.inl (oV hw 65 rfl)) Via.refl e1 (hst.1.ext O0.2) (g := (mkF m 4 #[oR x1, oI 16] [])) rfl (hb hby D22_4)
  have pre4 : Goes p e below s1 F0 T3 (mkF m 7 #[oR x1, oI 16] [(.int cs)]) := fun t kt => pre2 t (st3 t kt)
  obtain ⟨T5, h5, k5, X5, e5, E5, A5, st5⟩ := newP X3 hx hZ (oV hw 20 rfl) e3 (g := (mkF m 12 #[oR x1, oI 16] [(.int 16), (.ref x1)])) rfl (hb hby D22_12) rfl (by decide) (cap := 16) (by decide) (by decide) (by decide) (by decide)
  obtain ⟨b5, g5⟩ : ∃ z, z = h0.size := ⟨_, rfl⟩
  rw [← g5] at A5 st5
  have V_b5 : Arv Z h5 b5 k5 .byte (16 : Int32) [(.int 0), (.int 0), (.int 0), (.int 0), (.int 0), (.int 0), (.int 0), (.int 0), (.int 0), (.int 0), (.int 0), (.int 0), (.int 0), (.int 0), (.int 0), (.int 0)] (.int 0) := (Arv.new A5 (by decide)).pad (pad_rep [] (.int 0) 16)
  have g_b5 : n0 ≤ b5 := Nat.le_trans Z0 (Nat.le_of_eq g5.symm)
  have sz_b5 : h0.size ≤ b5 := (Nat.le_trans (Keep.refl h0 [x1]).1 (Nat.le_of_eq g5.symm))
  have K5 : Keep h0 h5 [x1] := (Keep.refl h0 [x1]).ext E5
  have pre6 : Goes p e below s1 F0 T5 (mkF m 14 #[oR x1, oI 16] [(.ref b5), (.ref x1)]) := fun t kt => pre4 t (by
    refine o_ifN X3 hx hby D22_7 ((if0 _ _).trans (feq hst.2.1).1) ?_
    refine o_al X3 hx hby D22_10 rfl ?_
    refine o_il X3 hx hby D22_11 rfl ?_
    exact st5 t kt)
  obtain ⟨T7, h7, X7, e7, W7, st7⟩ := putF X5 hx hZ hown (host := "") (Or.inl (oV hw 66 rfl)) Via.refl e5 (F_value.ext E5) (E_x1.ext E5) (Or.inl (oV hw 67 rfl)) (oV hw 53 rfl) (ty := (.array .byte)) (by decide) rfl rfl (g := (mkF m 14 #[oR x1, oI 16] [(.ref b5), (.ref x1)])) rfl rfl (hb hby D22_14)
  have Fw7 := (F_value.ext E5).same W7
  have K7 : Keep h0 h7 [x1] := K5.wr W7 (Or.inl (o_mG (i := 0) rfl))
  have N7 := Fr.snoc X7 N0 g_x1
  have pre8 : Goes p e below s1 F0 T7 (mkF m 17 #[oR x1, oI 16] []) := fun t kt => pre6 t (st7 t kt)
  obtain ⟨T9, h9, X9, e9, W9, st9⟩ := putFN X7 hx hZ hown (oV hw 68 rfl) Via.refl e7 ((F_coder.ext E5).other W7 (Or.inr (slot_ne (Or.inl (oV hw 69 rfl)) (Or.inl (oV hw 67 rfl)) (by decide) (t := .byte) (t' := (.array .byte)) (by decide) (by decide)))) ((E_x1.ext E5).wr W7) (Or.inl (oV hw 69 rfl)) (oV hw 53 rfl) (ty := .byte) (v' := (.int 0)) (by decide) rfl rfl (g := (mkF m 19 #[oR x1, oI 16] [(.int 0), (.ref x1)])) rfl rfl (hb hby D22_19)
  have Fw9 := ((F_coder.ext E5).other W7 (Or.inr (slot_ne (Or.inl (oV hw 69 rfl)) (Or.inl (oV hw 67 rfl)) (by decide) (t := .byte) (t' := (.array .byte)) (by decide) (by decide)))).same W9
  have K9 : Keep h0 h9 [x1] := K7.wr W9 (Or.inl (o_mG (i := 0) rfl))
  have N9 := Fr.snoc X9 N7 g_x1
  have pre10 : Goes p e below s1 F0 T9 (mkF m 22 #[oR x1, oI 16] []) := fun t kt => pre8 t (by
    refine o_al X7 hx hby D22_17 rfl ?_
    refine o_ic X7 hx hby D22_18 ?_
    exact st9 t kt)
  have pre11 : Goes p e below s1 F0 T9 (mkF m 38 #[oR x1, oI 16] []) := fun t kt => pre10 t (by
    refine o_gt 22 38 X9 hx hby D22_22 ?_
    exact kt)
  refine o_eV X9 Bd hx pre11 (hb hby D22_38) e9 ?_
  exact ⟨rfl, N9, K9, b5, _, sz_b5, ⟨(((E_x1.ext E5).wr W7).wr W9), (Fw7.other W9 (Or.inr (slot_ne (Or.inl (oV hw 67 rfl)) (Or.inl (oV hw 69 rfl)) (by decide) (t := (.array .byte)) (t' := .byte) (by decide) (by decide)))), Fw9, (((F_count.ext E5).other W7 (Or.inr (slot_ne (Or.inl (oV hw 91 rfl)) (Or.inl (oV hw 67 rfl)) (by decide) (t := .int) (t' := (.array .byte)) (by decide) (by decide)))).other W9 (Or.inr (slot_ne (Or.inl (oV hw 91 rfl)) (Or.inl (oV hw 69 rfl)) (by decide) (t := .int) (t' := .byte) (by decide) (by decide)))), (((F_maybeLatin1.ext E5).other W7 (Or.inr (slot_ne (Or.inl (oV hw 293 rfl)) (Or.inl (oV hw 67 rfl)) (by decide) (t := .boolean) (t' := (.array .byte)) (by decide) (by decide)))).other W9 (Or.inr (slot_ne (Or.inl (oV hw 293 rfl)) (Or.inl (oV hw 69 rfl)) (by decide) (t := .boolean) (t' := .byte) (by decide) (by decide)))), ((V_b5.other W7 (Ne.symm (Nat.ne_of_lt (Nat.lt_of_lt_of_le E_x1.lt (Nat.le_of_eq g5.symm))))).other W9 (Ne.symm (Nat.ne_of_lt (Nat.lt_of_lt_of_le E_x1.lt (Nat.le_of_eq g5.symm))))), rfl, (Nat.ne_of_lt (Nat.lt_of_lt_of_le E_x1.lt (Nat.le_of_eq g5.symm))), g_x1, g_b5⟩⟩
theorem D23_0 : decode oY42 0 = .ok (.aload_n 0, 1) := by decide +kernel
theorem D23_1 : decode oY42 1 = .ok (.bipush 16, 2) := by decide +kernel
theorem D23_3 : decode oY42 3 = .ok (.invokespecial 1, 3) := by decide +kernel
theorem D23_6 : decode oY42 6 = .ok (.return_, 1) := by decide +kernel
theorem o_pn_o_bi : plainName "java/lang/StringBuilder" = true := by first | (simp [plainName, overriddenIn]; done) | decide +kernel
def Q_o_bi (Z : State) (x1 : Addr) (cs : Int32) (fm : Value) (h0 : Heap) (n0 : Nat) (v : Option Value) (h : Heap) (L : List Loc) : Prop := v = none ∧ Fr n0 L ∧ Keep h0 h [x1] ∧ ∃ (ab : Addr) (kb : ClassId), h0.size ≤ ab ∧ o_SB Z h n0 x1 ab kb o_Z16 0 (0 : Int32) (16 : Int32) 16
theorem o_bi (l : Launch) (Z : State) (a0 : Array Value) (hw : ∀ d ∈ tables_1, d.before a0 Z = true) (ws : List Jvm.Cond) (x1 : Addr) (cs : Int32) (fm : Value) (h0 : Heap) (n0 : Nat) (Z0 : n0 ≤ h0.size) (E_x1 : Exa Z h0 x1 "java/lang/StringBuilder") (F_value : Fld Z h0 x1 "java/lang/AbstractStringBuilder" "value" "[B" .null) (F_coder : Fld Z h0 x1 "java/lang/AbstractStringBuilder" "coder" "B" (.int 0)) (F_count : Fld Z h0 x1 "java/lang/AbstractStringBuilder" "count" "I" (.int 0)) (F_maybeLatin1 : Fld Z h0 x1 "java/lang/AbstractStringBuilder" "maybeLatin1" "Z" (.int 0)) (g_x1 : n0 ≤ x1) (hst : o_ST Z cs fm) (O0 : Old Z n0 h0) :
    o_MF l o_N23 oY42 1 none ws o_R26 #[(.ref x1)] Z h0 (Q_o_bi Z x1 cs fm h0 n0) := by
  refine o_start (C := "java/lang/StringBuilder") rfl (plainFor_of_name o_pn_o_bi) fun p e s m below meth c s1 F0 Bd hx hby hml hown hnm hZ X0 e0 hF0 => ?_
  have N0 := Fr.nil n0
  have pre0 : Goes p e below s1 F0 s1 (mkF m 0 #[oR x1] []) := fun t k => castTop (hF0.trans (by simp [entryFrame, mkF, argsToLocals, Value.category])) k
  obtain ⟨_, T1, L1, X1, hQ1, st1⟩ := o_cI (y := o_N22) (b := x1) (g := (mkF m 3 #[oR x1] [(.int 16), (.ref x1)])) (as := [(.int 16)]) (rest := []) 0 X0 hx hZ hml hown (oV hw 58 rfl) (oV hw 59 rfl) (oV hw 63 rfl) (oV hw 62 rfl) (o_ai l Z a0 hw [] x1 cs fm h0 n0 Z0 E_x1 F_value F_coder F_count F_maybeLatin1 g_x1 hst O0) e0 o_pd15 (hb hby D23_3)
  obtain ⟨rfl, N1q, K1q, Rest1⟩ := hQ1
  have N1 := Fr.app N0 N1q
  have KC1 : Keep h0 T1.heap [x1] := (Keep.refl h0 [x1]).trans K1q (allS (Or.inl (o_mG (i := 0) rfl)) all0)
  have pre2 : Goes p e below s1 F0 T1 (mkF m 6 #[oR x1] []) := fun t kt => pre0 t (by
    refine o_al X0 hx hby D23_0 rfl ?_
    refine o_bp X0 hx hby D23_1 ?_
    exact st1 t kt)
  refine o_eV X1 Bd hx pre2 (hb hby D23_6) rfl ?_
  exact ⟨rfl, N1, KC1, Rest1⟩
theorem D24_0 : decode oY55 0 = .ok (.aload_n 0, 1) := by decide +kernel
theorem D24_1 : decode oY55 1 = .ok (.getfield 15, 3) := by decide +kernel
theorem D24_4 : decode oY55 4 = .ok (.arraylength, 1) := by decide +kernel
theorem D24_5 : decode oY55 5 = .ok (.aload_n 0, 1) := by decide +kernel
theorem D24_6 : decode oY55 6 = .ok (.getfield 22, 3) := by decide +kernel
theorem D24_9 : decode oY55 9 = .ok (.ishr, 1) := by decide +kernel
theorem D24_10 : decode oY55 10 = .ok (.istore_n 2, 1) := by decide +kernel
theorem D24_11 : decode oY55 11 = .ok (.iload_n 1, 1) := by decide +kernel
theorem D24_12 : decode oY55 12 = .ok (.iload_n 2, 1) := by decide +kernel
theorem D24_13 : decode oY55 13 = .ok (.isub, 1) := by decide +kernel
theorem D24_14 : decode oY55 14 = .ok (.ifCond .le 24, 3) := by decide +kernel
theorem D24_38 : decode oY55 38 = .ok (.return_, 1) := by decide +kernel
def Q_o_ens0 (Z : State) (x1 ab : Addr) (kb : ClassId) (us : List Value) (cc : Nat) (nd : Int32) (h0 : Heap) (n0 : Nat) (v : Option Value) (h : Heap) (L : List Loc) : Prop := v = none ∧ Fr n0 L ∧ h = h0
theorem o_ens0 (l : Launch) (Z : State) (a0 : Array Value) (hw : ∀ d ∈ tables_1, d.before a0 Z = true) (ws : List Jvm.Cond) (x1 ab : Addr) (kb : ClassId) (us : List Value) (cc : Nat) (nd : Int32) (h0 : Heap) (n0 : Nat) (Z0 : n0 ≤ h0.size) (hS : o_SB Z h0 n0 x1 ab kb us cc (0 : Int32) (16 : Int32) 16) (hnd : ¬ ((0 : Int32) < (nd - (16 : Int32)))) :
    o_MF l o_N24 oY55 3 none ws o_R2 #[(.ref x1), (.int nd)] Z h0 (Q_o_ens0 Z x1 ab kb us cc nd h0 n0) := by
  refine o_start (C := "java/lang/AbstractStringBuilder") rfl (plainFor_of_name o_pn_o_ai) fun p e s m below meth c s1 F0 Bd hx hby hml hown hnm hZ X0 e0 hF0 => ?_
  have N0 := Fr.nil n0
  have pre0 : Goes p e below s1 F0 s1 (mkF m 0 #[oR x1, oI nd, oU] []) := fun t k => castTop (hF0.trans (by simp [entryFrame, mkF, argsToLocals, Value.category])) k
  obtain ⟨E_x1, F_value, F_coder, F_count, F_maybeLatin1, V_ab, hlu, nxa, g_x1, g_ab⟩ := (id (hS))
  obtain ⟨T1, X1, e1, st1⟩ := getF X0 hx hZ hown (host := "") (Or.inl (oV hw 66 rfl)) Via.refl e0 F_value (g := (mkF m 1 #[oR x1, oI nd, oU] [(.ref x1)])) rfl rfl (hb hby D24_1)
  have pre2 : Goes p e below s1 F0 T1 (mkF m 4 #[oR x1, oI nd, oU] [(.ref ab)]) := fun t kt => pre0 t (by
    refine o_al X0 hx hby D24_0 rfl ?_
    exact st1 t kt)
  obtain ⟨cl3, Ar3, q3, S3, N_3, H3, G3⟩ := (id (V_ab))
  obtain ⟨T4, X4, e4, st4⟩ := getF X1 hx hZ hown (host := "") (Or.inl (oV hw 68 rfl)) Via.refl e1 F_coder (g := (mkF m 6 #[oR x1, oI nd, oU] [(.ref x1), (.int 16)])) rfl rfl (hb hby D24_6)
  have pre5 : Goes p e below s1 F0 T4 (mkF m 9 #[oR x1, oI nd, oU] [(.int 0), (.int 16)]) := fun t kt => pre2 t (by
    refine X1.arraylength hx (by (try rw [e1]); exact Ar3.1) (State.isArrayOf_alike hZ.alike Ar3.2.1) (g := (mkF m 4 #[oR x1, oI nd, oU] [(.ref ab)])) rfl rfl (hb hby D24_4) _ ?_
    rw [len_of S3 N_3]
    refine o_al X1 hx hby D24_5 rfl ?_
    exact st4 t kt)
  have pre6 : Goes p e below s1 F0 T4 (mkF m 10 #[oR x1, oI nd, oU] [(.int ((16 : Int32) >>> ((0 : Int32) &&& 31)))]) := fun t kt => pre5 t (by
    refine XS.ishr X4.here hx rfl (hb hby D24_9) rfl ?_
    exact kt)
  rw [show ((16 : Int32) >>> ((0 : Int32) &&& 31)) = (16 : Int32) from (by decide)] at pre6
  have pre7 : Goes p e below s1 F0 T4 (mkF m 38 #[oR x1, oI nd, oI 16] []) := fun t kt => pre6 t (by
    refine XS.istoreN X4.here hx rfl (hb hby D24_10) rfl (l' := #[oR x1, oI nd, oI 16]) rfl ?_
    refine o_il X4 hx hby D24_11 rfl ?_
    refine o_il X4 hx hby D24_12 rfl ?_
    refine XS.isub X4.here hx rfl (hb hby D24_13) rfl ?_
    refine o_ifY 14 38 X4 hx hby D24_14 ((if0 _ _).trans (flt hnd).2.2.2) ?_
    exact kt)
  refine o_eV X4 Bd hx pre7 (hb hby D24_38) e4 ?_
  exact ⟨rfl, N0, rfl⟩
theorem D25_0 : decode oY53 0 = .ok (.getstatic 18, 3) := by decide +kernel
theorem D25_3 : decode oY53 3 = .ok (.ifCond .eq 18, 3) := by decide +kernel
theorem D25_6 : decode oY53 6 = .ok (.aload_n 0, 1) := by decide +kernel
theorem D25_7 : decode oY53 7 = .ok (.getfield 22, 3) := by decide +kernel
theorem D25_10 : decode oY53 10 = .ok (.aload_n 1, 1) := by decide +kernel
theorem D25_11 : decode oY53 11 = .ok (.invokevirtual 40, 3) := by decide +kernel
theorem D25_14 : decode oY53 14 = .ok (.if_icmp .eq 7, 3) := by decide +kernel
theorem D25_21 : decode oY53 21 = .ok (.return_, 1) := by decide +kernel
def Q_o_ifn00 (Z : State) (x1 ab : Addr) (kb : ClassId) (us : List Value) (cc : Nat) (a1 : Addr) (cs : Int32) (fm : Value) (h0 : Heap) (n0 : Nat) (v : Option Value) (h : Heap) (L : List Loc) : Prop := v = none ∧ Fr n0 L ∧ h = h0
theorem o_ifn00 (l : Launch) (Z : State) (a0 : Array Value) (hw : ∀ d ∈ tables_1, d.before a0 Z = true) (ws : List Jvm.Cond) (x1 ab : Addr) (kb : ClassId) (us : List Value) (cc : Nat) (a1 : Addr) (cs : Int32) (fm : Value) (h0 : Heap) (n0 : Nat) (Z0 : n0 ≤ h0.size) (hS : o_SB Z h0 n0 x1 ab kb us cc (0 : Int32) (16 : Int32) 16) (E_a1 : Exa Z h0 a1 "java/lang/String") (Fc : Fld Z h0 a1 "java/lang/String" "coder" "B" (.int 0)) (hst : o_ST Z cs fm) (O0 : Old Z n0 h0) :
    o_MF l o_N25 oY53 2 none ws o_R18 #[(.ref x1), (.ref a1)] Z h0 (Q_o_ifn00 Z x1 ab kb us cc a1 cs fm h0 n0) := by
  refine o_start (C := "java/lang/AbstractStringBuilder") rfl (plainFor_of_name o_pn_o_ai) fun p e s m below meth c s1 F0 Bd hx hby hml hown hnm hZ X0 e0 hF0 => ?_
  have N0 := Fr.nil n0
  have pre0 : Goes p e below s1 F0 s1 (mkF m 0 #[oR x1, oR a1] []) := fun t k => castTop (hF0.trans (by simp [entryFrame, mkF, argsToLocals, Value.category])) k
  obtain ⟨E_x1, F_value, F_coder, F_count, F_maybeLatin1, V_ab, hlu, nxa, g_x1, g_ab⟩ := (id (hS))
  obtain ⟨T1, X1, e1, st1⟩ := getS2 X0 hx hZ hown (host := "") (Or.inl (oV hw 65 rfl)) Via.refl e0 (hst.1.ext O0.2) (g := (mkF m 0 #[oR x1, oR a1] [])) rfl (hb hby D25_0)
  have pre2 : Goes p e below s1 F0 T1 (mkF m 3 #[oR x1, oR a1] [(.int cs)]) := fun t kt => pre0 t (st1 t kt)
  obtain ⟨T3, X3, e3, st3⟩ := getF X1 hx hZ hown (host := "") (Or.inl (oV hw 68 rfl)) Via.refl e1 F_coder (g := (mkF m 7 #[oR x1, oR a1] [(.ref x1)])) rfl rfl (hb hby D25_7)
  have pre4 : Goes p e below s1 F0 T3 (mkF m 10 #[oR x1, oR a1] [(.int 0)]) := fun t kt => pre2 t (by
    refine o_ifN X1 hx hby D25_3 ((if0 _ _).trans (feq hst.2.1).1) ?_
    refine o_al X1 hx hby D25_6 rfl ?_
    exact st3 t kt)
  obtain ⟨_, T5, L5, X5, hQ5, st5⟩ := o_cW (y := o_N10) (b := a1) (g := (mkF m 11 #[oR x1, oR a1] [(.ref a1), (.int 0)])) (as := []) (rest := [(.int 0)]) 1 X3 hx hZ hml hown (oV hw 107 rfl) (oV hw 88 rfl) (oV hw 87 rfl) (oV hw 89 rfl) (oV hw 4 rfl) (o_sco0 l Z a0 hw [] a1 cs fm h0 n0 Z0 Fc hst O0) e3 E_a1 o_pd8 (hb hby D25_11)
  obtain ⟨rfl, N5q, e5⟩ := hQ5
  have N5 := Fr.app N0 N5q
  have pre6 : Goes p e below s1 F0 T5 (mkF m 14 #[oR x1, oR a1] [(.int 0), (.int 0)]) := fun t kt => pre4 t (by
    refine o_al X3 hx hby D25_10 rfl ?_
    exact st5 t kt)
  have pre7 : Goes p e below s1 F0 T5 (mkF m 21 #[oR x1, oR a1] []) := fun t kt => pre6 t (by
    refine o_icY 14 21 X5 hx hby D25_14 (teq (by decide : (0 : Int32) = (0 : Int32))).1 ?_
    exact kt)
  refine o_eV X5 Bd hx pre7 (hb hby D25_21) e5 ?_
  exact ⟨rfl, N5, rfl⟩
theorem D26_0 : decode oY8 0 = .ok (.aload_n 0, 1) := by decide +kernel
theorem D26_1 : decode oY8 1 = .ok (.invokevirtual 335, 3) := by decide +kernel
theorem D26_4 : decode oY8 4 = .ok (.iload_n 3, 1) := by decide +kernel
theorem D26_5 : decode oY8 5 = .ok (.if_icmp .ne 23, 3) := by decide +kernel
theorem D26_8 : decode oY8 8 = .ok (.aload_n 0, 1) := by decide +kernel
theorem D26_9 : decode oY8 9 = .ok (.getfield 9, 3) := by decide +kernel
theorem D26_12 : decode oY8 12 = .ok (.iconst 0, 1) := by decide +kernel
theorem D26_13 : decode oY8 13 = .ok (.aload_n 1, 1) := by decide +kernel
theorem D26_14 : decode oY8 14 = .ok (.iload_n 2, 1) := by decide +kernel
theorem D26_15 : decode oY8 15 = .ok (.iload_n 3, 1) := by decide +kernel
theorem D26_16 : decode oY8 16 = .ok (.ishl, 1) := by decide +kernel
theorem D26_17 : decode oY8 17 = .ok (.aload_n 0, 1) := by decide +kernel
theorem D26_18 : decode oY8 18 = .ok (.getfield 9, 3) := by decide +kernel
theorem D26_21 : decode oY8 21 = .ok (.arraylength, 1) := by decide +kernel
theorem D26_22 : decode oY8 22 = .ok (.invokestatic 212, 3) := by decide +kernel
theorem D26_25 : decode oY8 25 = .ok (.goto 18, 3) := by decide +kernel
theorem D26_43 : decode oY8 43 = .ok (.return_, 1) := by decide +kernel
def Q_o_gbLL (Z : State) (a1 y : Addr) (ky : ClassId) (vs : List Value) (ln : Nat) (ab : Addr) (kb : ClassId) (us : List Value) (cc : Nat) (cs : Int32) (fm : Value) (h0 : Heap) (n0 : Nat) (v : Option Value) (h : Heap) (L : List Loc) : Prop := v = none ∧ Fr n0 L ∧ Keep h0 h [ab] ∧ Arv Z h ab kb .byte (16 : Int32) (us.take cc ++ vs ++ us.drop (cc + ln)) (.int 0)
theorem o_gbLL (l : Launch) (Z : State) (a0 : Array Value) (hw : ∀ d ∈ tables_1, d.before a0 Z = true) (ws : List Jvm.Cond) (a1 y : Addr) (ky : ClassId) (vs : List Value) (ln : Nat) (ab : Addr) (kb : ClassId) (us : List Value) (cc : Nat) (cs : Int32) (fm : Value) (h0 : Heap) (n0 : Nat) (Z0 : n0 ≤ h0.size) (E_a1 : Exa Z h0 a1 "java/lang/String") (Fc : Fld Z h0 a1 "java/lang/String" "coder" "B" (.int 0)) (Fv : Fld Z h0 a1 "java/lang/String" "value" "[B" (.ref y)) (V_y : Arv Z h0 y ky .byte (Int32.ofNat ln) vs (.int 0)) (V_ab : Arv Z h0 ab kb .byte (16 : Int32) us (.int 0)) (hlu : us.length = 16) (g_ab : n0 ≤ ab) (nya : y ≠ ab) (hlv : vs.length = ln) (hcl : cc + ln ≤ 16) (hst : o_ST Z cs fm) (O0 : Old Z n0 h0) :
    o_MF l o_N26 oY8 4 none ws o_R27 #[(.ref a1), (.ref ab), (.int (Int32.ofNat cc)), (.int 0)] Z h0 (Q_o_gbLL Z a1 y ky vs ln ab kb us cc cs fm h0 n0) := by
  refine o_start (C := "java/lang/String") rfl (plainFor_of_name o_pn_o_sI0) fun p e s m below meth c s1 F0 Bd hx hby hml hown hnm hZ X0 e0 hF0 => ?_
  have N0 := Fr.nil n0
  have pre0 : Goes p e below s1 F0 s1 (mkF m 0 #[oR a1, oR ab, oI (Int32.ofNat cc), oI 0] []) := fun t k => castTop (hF0.trans (by simp [entryFrame, mkF, argsToLocals, Value.category])) k
  obtain ⟨_, T1, L1, X1, hQ1, st1⟩ := o_cW (y := o_N10) (b := a1) (g := (mkF m 1 #[oR a1, oR ab, oI (Int32.ofNat cc), oI 0] [(.ref a1)])) (as := []) (rest := []) 0 X0 hx hZ hml hown (oV hw 85 rfl) (oV hw 88 rfl) (oV hw 87 rfl) (oV hw 89 rfl) (oV hw 4 rfl) (o_sco0 l Z a0 hw [] a1 cs fm h0 n0 Z0 Fc hst O0) e0 E_a1 o_pd8 (hb hby D26_1)
  obtain ⟨rfl, N1q, e1⟩ := hQ1
  have N1 := Fr.app N0 N1q
  have pre2 : Goes p e below s1 F0 T1 (mkF m 4 #[oR a1, oR ab, oI (Int32.ofNat cc), oI 0] [(.int 0)]) := fun t kt => pre0 t (by
    refine o_al X0 hx hby D26_0 rfl ?_
    exact st1 t kt)
  obtain ⟨T3, X3, e3, st3⟩ := getF X1 hx hZ hown (host := "") (Or.inl (oV hw 29 rfl)) Via.refl e1 Fv (g := (mkF m 9 #[oR a1, oR ab, oI (Int32.ofNat cc), oI 0] [(.ref a1)])) rfl rfl (hb hby D26_9)
  have pre4 : Goes p e below s1 F0 T3 (mkF m 12 #[oR a1, oR ab, oI (Int32.ofNat cc), oI 0] [(.ref y)]) := fun t kt => pre2 t (by
    refine o_il X1 hx hby D26_4 rfl ?_
    refine o_icN X1 hx hby D26_5 (teq (by decide : (0 : Int32) = (0 : Int32))).2 ?_
    refine o_al X1 hx hby D26_8 rfl ?_
    exact st3 t kt)
  have pre5 : Goes p e below s1 F0 T3 (mkF m 17 #[oR a1, oR ab, oI (Int32.ofNat cc), oI 0] [(.int ((Int32.ofNat cc) <<< ((0 : Int32) &&& 31))), (.ref ab), (.int 0), (.ref y)]) := fun t kt => pre4 t (by
    refine o_ic X3 hx hby D26_12 ?_
    refine o_al X3 hx hby D26_13 rfl ?_
    refine o_il X3 hx hby D26_14 rfl ?_
    refine o_il X3 hx hby D26_15 rfl ?_
    refine XS.ishl X3.here hx rfl (hb hby D26_16) rfl ?_
    exact kt)
  rw [show ((Int32.ofNat cc) <<< ((0 : Int32) &&& 31)) = (Int32.ofNat cc) from o_oh0 _] at pre5
  obtain ⟨T6, X6, e6, st6⟩ := getF X3 hx hZ hown (host := "") (Or.inl (oV hw 29 rfl)) Via.refl e3 Fv (g := (mkF m 18 #[oR a1, oR ab, oI (Int32.ofNat cc), oI 0] [(.ref a1), (.int (Int32.ofNat cc)), (.ref ab), (.int 0), (.ref y)])) rfl rfl (hb hby D26_18)
  have pre7 : Goes p e below s1 F0 T6 (mkF m 21 #[oR a1, oR ab, oI (Int32.ofNat cc), oI 0] [(.ref y), (.int (Int32.ofNat cc)), (.ref ab), (.int 0), (.ref y)]) := fun t kt => pre5 t (by
    refine o_al X3 hx hby D26_17 rfl ?_
    exact st6 t kt)
  obtain ⟨cl8, Ar8, q8, S8, N_8, H8, G8⟩ := (id (V_y))
  obtain ⟨T9, h9, Lc9, X9, e9, N9, K9q, V9, st9⟩ := cpA X6 hx hZ hown (oV hw 113 rfl) (oV hw 116 rfl) (oV hw 114 rfl) (oV hw 115 rfl) e6 (sp := (0 : Int32)) (dp := (Int32.ofNat cc)) (nn := (Int32.ofNat ln)) (us := vs) V_y V_ab (Or.inl ⟨rfl, rfl⟩) (by decide) (o_onn (by omega)) (o_onn (by omega)) (by rw [o_oc (by omega)]; exact Nat.le_of_eq (Nat.zero_add _)) (by rw [o_oc (n := cc) (by omega), o_oc (n := ln) (by omega)]; show _ ≤ 16; first | omega | (show 0 + ln ≤ _; omega)) (o_hus hlv (by omega)) (by rw [o_oc (n := cc) (by omega), o_oc (n := ln) (by omega), hlu]; first | omega | (show 0 + ln ≤ _; omega)) N1 g_ab (g := (mkF m 22 #[oR a1, oR ab, oI (Int32.ofNat cc), oI 0] [(.int (Int32.ofNat ln)), (.int (Int32.ofNat cc)), (.ref ab), (.int 0), (.ref y)])) rfl (by rw [hml]; rfl) rfl (hb hby D26_22) (by decide) (W := 0) (by show 2 * 0 + _ ≤ _; exact Nat.le_of_eq rfl) (by decide)
  have KC9 : Keep h0 h9 [ab] := (Keep.refl h0 [ab]).trans K9q (allS (Or.inl (o_mG (i := 0) rfl)) all0)
  have pre10 : Goes p e below s1 F0 T9 (mkF m 25 #[oR a1, oR ab, oI (Int32.ofNat cc), oI 0] []) := fun t kt => pre7 t (by
    refine X6.arraylength hx (by (try rw [e6]); exact Ar8.1) (State.isArrayOf_alike hZ.alike Ar8.2.1) (g := (mkF m 21 #[oR a1, oR ab, oI (Int32.ofNat cc), oI 0] [(.ref y), (.int (Int32.ofNat cc)), (.ref ab), (.int 0), (.ref y)])) rfl rfl (hb hby D26_21) _ ?_
    rw [len_of S8 N_8]
    exact st9 t kt)
  rw [o_oc (n := cc) (by omega), o_oc (n := ln) (by omega)] at V9
  have pre11 : Goes p e below s1 F0 T9 (mkF m 43 #[oR a1, oR ab, oI (Int32.ofNat cc), oI 0] []) := fun t kt => pre10 t (by
    refine o_gt 25 43 X9 hx hby D26_25 ?_
    exact kt)
  refine o_eV X9 Bd hx pre11 (hb hby D26_43) e9 ?_
  exact ⟨rfl, N9, KC9, V9⟩
theorem D27_0 : decode oY54 0 = .ok (.aload_n 0, 1) := by decide +kernel
theorem D27_1 : decode oY54 1 = .ok (.aload_n 2, 1) := by decide +kernel
theorem D27_2 : decode oY54 2 = .ok (.invokevirtual 397, 3) := by decide +kernel
theorem D27_5 : decode oY54 5 = .ok (.aload_n 2, 1) := by decide +kernel
theorem D27_6 : decode oY54 6 = .ok (.aload_n 0, 1) := by decide +kernel
theorem D27_7 : decode oY54 7 = .ok (.getfield 15, 3) := by decide +kernel
theorem D27_10 : decode oY54 10 = .ok (.iload_n 1, 1) := by decide +kernel
theorem D27_11 : decode oY54 11 = .ok (.aload_n 0, 1) := by decide +kernel
theorem D27_12 : decode oY54 12 = .ok (.getfield 22, 3) := by decide +kernel
theorem D27_15 : decode oY54 15 = .ok (.invokevirtual 399, 3) := by decide +kernel
theorem D27_18 : decode oY54 18 = .ok (.return_, 1) := by decide +kernel
def Q_o_pSLL (Z : State) (x1 ab : Addr) (kb : ClassId) (us : List Value) (cc : Nat) (a1 y : Addr) (ky : ClassId) (vs : List Value) (ln : Nat) (cs : Int32) (fm : Value) (h0 : Heap) (n0 : Nat) (v : Option Value) (h : Heap) (L : List Loc) : Prop := v = none ∧ Fr n0 L ∧ Keep h0 h [ab] ∧ o_SB Z h n0 x1 ab kb (us.take cc ++ vs ++ us.drop (cc + ln)) cc (0 : Int32) (16 : Int32) 16
theorem o_pSLL (l : Launch) (Z : State) (a0 : Array Value) (hw : ∀ d ∈ tables_1, d.before a0 Z = true) (ws : List Jvm.Cond) (x1 ab : Addr) (kb : ClassId) (us : List Value) (cc : Nat) (a1 y : Addr) (ky : ClassId) (vs : List Value) (ln : Nat) (cs : Int32) (fm : Value) (h0 : Heap) (n0 : Nat) (Z0 : n0 ≤ h0.size) (hS : o_SB Z h0 n0 x1 ab kb us cc (0 : Int32) (16 : Int32) 16) (E_a1 : Exa Z h0 a1 "java/lang/String") (Fc : Fld Z h0 a1 "java/lang/String" "coder" "B" (.int 0)) (Fv : Fld Z h0 a1 "java/lang/String" "value" "[B" (.ref y)) (V_y : Arv Z h0 y ky .byte (Int32.ofNat ln) vs (.int 0)) (nya : y ≠ ab) (nyx : y ≠ x1) (nax : a1 ≠ x1) (hlv : vs.length = ln) (hcl : cc + ln ≤ 16) (hst : o_ST Z cs fm) (O0 : Old Z n0 h0) :
    o_MF l o_N27 oY54 3 none ws o_R28 #[(.ref x1), (.int (Int32.ofNat cc)), (.ref a1)] Z h0 (Q_o_pSLL Z x1 ab kb us cc a1 y ky vs ln cs fm h0 n0) := by
  refine o_start (C := "java/lang/AbstractStringBuilder") rfl (plainFor_of_name o_pn_o_ai) fun p e s m below meth c s1 F0 Bd hx hby hml hown hnm hZ X0 e0 hF0 => ?_
  have N0 := Fr.nil n0
  have pre0 : Goes p e below s1 F0 s1 (mkF m 0 #[oR x1, oI (Int32.ofNat cc), oR a1] []) := fun t k => castTop (hF0.trans (by simp [entryFrame, mkF, argsToLocals, Value.category])) k
  obtain ⟨E_x1, F_value, F_coder, F_count, F_maybeLatin1, V_ab, hlu, nxa, g_x1, g_ab⟩ := (id (hS))
  obtain ⟨_, T1, L1, X1, hQ1, st1⟩ := o_cW (y := o_N25) (b := x1) (g := (mkF m 2 #[oR x1, oI (Int32.ofNat cc), oR a1] [(.ref a1), (.ref x1)])) (as := [(.ref a1)]) (rest := []) 0 X0 hx hZ hml hown (oV hw 102 rfl) (oV hw 105 rfl) (oV hw 103 rfl) (oV hw 106 rfl) (oV hw 62 rfl) (o_ifn00 l Z a0 hw [] x1 ab kb us cc a1 cs fm h0 n0 Z0 hS E_a1 Fc hst O0) e0 E_x1 o_pd16 (hb hby D27_2)
  obtain ⟨rfl, N1q, e1⟩ := hQ1
  have N1 := Fr.app N0 N1q
  have pre2 : Goes p e below s1 F0 T1 (mkF m 5 #[oR x1, oI (Int32.ofNat cc), oR a1] []) := fun t kt => pre0 t (by
    refine o_al X0 hx hby D27_0 rfl ?_
    refine o_al X0 hx hby D27_1 rfl ?_
    exact st1 t kt)
  obtain ⟨T3, X3, e3, st3⟩ := getF X1 hx hZ hown (host := "") (Or.inl (oV hw 66 rfl)) Via.refl e1 F_value (g := (mkF m 7 #[oR x1, oI (Int32.ofNat cc), oR a1] [(.ref x1), (.ref a1)])) rfl rfl (hb hby D27_7)
  have pre4 : Goes p e below s1 F0 T3 (mkF m 10 #[oR x1, oI (Int32.ofNat cc), oR a1] [(.ref ab), (.ref a1)]) := fun t kt => pre2 t (by
    refine o_al X1 hx hby D27_5 rfl ?_
    refine o_al X1 hx hby D27_6 rfl ?_
    exact st3 t kt)
  obtain ⟨T5, X5, e5, st5⟩ := getF X3 hx hZ hown (host := "") (Or.inl (oV hw 68 rfl)) Via.refl e3 F_coder (g := (mkF m 12 #[oR x1, oI (Int32.ofNat cc), oR a1] [(.ref x1), (.int (Int32.ofNat cc)), (.ref ab), (.ref a1)])) rfl rfl (hb hby D27_12)
  have pre6 : Goes p e below s1 F0 T5 (mkF m 15 #[oR x1, oI (Int32.ofNat cc), oR a1] [(.int 0), (.int (Int32.ofNat cc)), (.ref ab), (.ref a1)]) := fun t kt => pre4 t (by
    refine o_il X3 hx hby D27_10 rfl ?_
    refine o_al X3 hx hby D27_11 rfl ?_
    exact st5 t kt)
  obtain ⟨_, T7, L7, X7, hQ7, st7⟩ := o_cW (y := o_N26) (b := a1) (g := (mkF m 15 #[oR x1, oI (Int32.ofNat cc), oR a1] [(.int 0), (.int (Int32.ofNat cc)), (.ref ab), (.ref a1)])) (as := [(.ref ab), (.int (Int32.ofNat cc)), (.int 0)]) (rest := []) 0 X5 hx hZ hml hown (oV hw 108 rfl) (oV hw 111 rfl) (oV hw 110 rfl) (oV hw 112 rfl) (oV hw 4 rfl) (o_gbLL l Z a0 hw [] a1 y ky vs ln ab kb us cc cs fm h0 n0 Z0 E_a1 Fc Fv V_y V_ab hlu g_ab nya hlv hcl hst O0) e5 E_a1 o_pd17 (hb hby D27_15)
  obtain ⟨rfl, N7q, K7q, Vz7⟩ := hQ7
  have N7 := Fr.app N1 N7q
  have KC7 : Keep h0 T7.heap [ab] := (Keep.refl h0 [ab]).trans K7q (allS (Or.inl (o_mG (i := 0) rfl)) all0)
  have pre8 : Goes p e below s1 F0 T7 (mkF m 18 #[oR x1, oI (Int32.ofNat cc), oR a1] []) := fun t kt => pre6 t (st7 t kt)
  refine o_eV X7 Bd hx pre8 (hb hby D27_18) rfl ?_
  exact ⟨rfl, N7, KC7, ⟨(E_x1.keep K7q), (F_value.keep K7q (ninS nxa nin0)), (F_coder.keep K7q (ninS nxa nin0)), (F_count.keep K7q (ninS nxa nin0)), (F_maybeLatin1.keep K7q (ninS nxa nin0)), Vz7, (o_lenC hlu hlv hcl), nxa, g_x1, g_ab⟩⟩
theorem D28_0 : decode oY47 0 = .ok (.aload_n 1, 1) := by decide +kernel
theorem D28_1 : decode oY47 1 = .ok (.ifnonnull 8, 3) := by decide +kernel
theorem D28_9 : decode oY47 9 = .ok (.aload_n 1, 1) := by decide +kernel
theorem D28_10 : decode oY47 10 = .ok (.invokevirtual 32, 3) := by decide +kernel
theorem D28_13 : decode oY47 13 = .ok (.istore_n 2, 1) := by decide +kernel
theorem D28_14 : decode oY47 14 = .ok (.aload_n 0, 1) := by decide +kernel
theorem D28_15 : decode oY47 15 = .ok (.aload_n 0, 1) := by decide +kernel
theorem D28_16 : decode oY47 16 = .ok (.getfield 79, 3) := by decide +kernel
theorem D28_19 : decode oY47 19 = .ok (.iload_n 2, 1) := by decide +kernel
theorem D28_20 : decode oY47 20 = .ok (.iadd, 1) := by decide +kernel
theorem D28_21 : decode oY47 21 = .ok (.invokevirtual 100, 3) := by decide +kernel
theorem D28_24 : decode oY47 24 = .ok (.aload_n 0, 1) := by decide +kernel
theorem D28_25 : decode oY47 25 = .ok (.aload_n 0, 1) := by decide +kernel
theorem D28_26 : decode oY47 26 = .ok (.getfield 79, 3) := by decide +kernel
theorem D28_29 : decode oY47 29 = .ok (.aload_n 1, 1) := by decide +kernel
theorem D28_30 : decode oY47 30 = .ok (.invokevirtual 208, 3) := by decide +kernel
theorem D28_33 : decode oY47 33 = .ok (.aload_n 0, 1) := by decide +kernel
theorem D28_34 : decode oY47 34 = .ok (.dup, 1) := by decide +kernel
theorem D28_35 : decode oY47 35 = .ok (.getfield 79, 3) := by decide +kernel
theorem D28_38 : decode oY47 38 = .ok (.iload_n 2, 1) := by decide +kernel
theorem D28_39 : decode oY47 39 = .ok (.iadd, 1) := by decide +kernel
theorem D28_40 : decode oY47 40 = .ok (.putfield 79, 3) := by decide +kernel
theorem D28_43 : decode oY47 43 = .ok (.aload_n 0, 1) := by decide +kernel
theorem D28_44 : decode oY47 44 = .ok (.areturn, 1) := by decide +kernel
def Q_o_aSLL (Z : State) (x1 ab : Addr) (kb : ClassId) (us : List Value) (cc : Nat) (a1 y : Addr) (ky : ClassId) (vs : List Value) (ln : Nat) (cs : Int32) (fm : Value) (h0 : Heap) (n0 : Nat) (v : Option Value) (h : Heap) (L : List Loc) : Prop := v = some (.ref x1) ∧ Fr n0 L ∧ Keep h0 h [x1, ab] ∧ o_SB Z h n0 x1 ab kb (us.take cc ++ vs ++ us.drop (cc + ln)) (cc + ln) (0 : Int32) (16 : Int32) 16
theorem o_aSLL (l : Launch) (Z : State) (a0 : Array Value) (hw : ∀ d ∈ tables_1, d.before a0 Z = true) (ws : List Jvm.Cond) (x1 ab : Addr) (kb : ClassId) (us : List Value) (cc : Nat) (a1 y : Addr) (ky : ClassId) (vs : List Value) (ln : Nat) (cs : Int32) (fm : Value) (h0 : Heap) (n0 : Nat) (Z0 : n0 ≤ h0.size) (hS : o_SB Z h0 n0 x1 ab kb us cc (0 : Int32) (16 : Int32) 16) (E_a1 : Exa Z h0 a1 "java/lang/String") (Fc : Fld Z h0 a1 "java/lang/String" "coder" "B" (.int 0)) (Fv : Fld Z h0 a1 "java/lang/String" "value" "[B" (.ref y)) (V_y : Arv Z h0 y ky .byte (Int32.ofNat ln) vs (.int 0)) (nya : y ≠ ab) (nyx : y ≠ x1) (nax : a1 ≠ x1) (hlv : vs.length = ln) (hcl : cc + ln ≤ 16) (hst : o_ST Z cs fm) (O0 : Old Z n0 h0) :
    o_MF l o_N28 oY47 3 (some (.object "java/lang/AbstractStringBuilder")) ws o_R29 #[(.ref x1), (.ref a1)] Z h0 (Q_o_aSLL Z x1 ab kb us cc a1 y ky vs ln cs fm h0 n0) := by
  refine o_start (C := "java/lang/AbstractStringBuilder") rfl (plainFor_of_name o_pn_o_ai) fun p e s m below meth c s1 F0 Bd hx hby hml hown hnm hZ X0 e0 hF0 => ?_
  have N0 := Fr.nil n0
  have pre0 : Goes p e below s1 F0 s1 (mkF m 0 #[oR x1, oR a1, oU] []) := fun t k => castTop (hF0.trans (by simp [entryFrame, mkF, argsToLocals, Value.category])) k
  obtain ⟨E_x1, F_value, F_coder, F_count, F_maybeLatin1, V_ab, hlu, nxa, g_x1, g_ab⟩ := (id (hS))
  obtain ⟨_, T1, L1, X1, hQ1, st1⟩ := o_cW (y := o_N11) (b := a1) (g := (mkF m 10 #[oR x1, oR a1, oU] [(.ref a1)])) (as := []) (rest := []) 0 X0 hx hZ hml hown (oV hw 80 rfl) (oV hw 83 rfl) (oV hw 82 rfl) (oV hw 84 rfl) (oV hw 4 rfl) (o_sle l Z a0 hw [] a1 (0 : Int32) y (Int32.ofNat ln) cs fm h0 n0 Z0 E_a1 Fc Fv (Or.inl ⟨rfl, o_Ln.of V_y⟩) hst O0) e0 E_a1 o_pd18 (hb hby D28_10)
  obtain ⟨rfl, N1q, e1⟩ := hQ1
  have N1 := Fr.app N0 N1q
  have pre2 : Goes p e below s1 F0 T1 (mkF m 13 #[oR x1, oR a1, oU] [(.int (Int32.ofNat ln))]) := fun t kt => pre0 t (by
    refine o_al X0 hx hby D28_0 rfl ?_
    refine XS.ifnonnullYes X0.here hx rfl (pc0 := 1) (pc' := 9) rfl (hb hby D28_1) rfl (by decide) (by decide) ?_
    refine o_al X0 hx hby D28_9 rfl ?_
    exact st1 t kt)
  obtain ⟨T3, X3, e3, st3⟩ := getF X1 hx hZ hown (host := "") (Or.inl (oV hw 90 rfl)) Via.refl e1 F_count (g := (mkF m 16 #[oR x1, oR a1, oI (Int32.ofNat ln)] [(.ref x1), (.ref x1)])) rfl rfl (hb hby D28_16)
  have pre4 : Goes p e below s1 F0 T3 (mkF m 19 #[oR x1, oR a1, oI (Int32.ofNat ln)] [(.int (Int32.ofNat cc)), (.ref x1)]) := fun t kt => pre2 t (by
    refine XS.istoreN X1.here hx rfl (hb hby D28_13) rfl (l' := #[oR x1, oR a1, oI (Int32.ofNat ln)]) rfl ?_
    refine o_al X1 hx hby D28_14 rfl ?_
    refine o_al X1 hx hby D28_15 rfl ?_
    exact st3 t kt)
  have pre5 : Goes p e below s1 F0 T3 (mkF m 21 #[oR x1, oR a1, oI (Int32.ofNat ln)] [(.int ((Int32.ofNat cc) + (Int32.ofNat ln))), (.ref x1)]) := fun t kt => pre4 t (by
    refine o_il X3 hx hby D28_19 rfl ?_
    refine XS.iadd X3.here hx rfl (hb hby D28_20) rfl ?_
    exact kt)
  rw [show ((Int32.ofNat cc) + (Int32.ofNat ln)) = (Int32.ofNat (cc + ln)) from o_oadd cc ln] at pre5
  obtain ⟨_, T6, L6, X6, hQ6, st6⟩ := o_cW (y := o_N24) (b := x1) (g := (mkF m 21 #[oR x1, oR a1, oI (Int32.ofNat ln)] [(.int (Int32.ofNat (cc + ln))), (.ref x1)])) (as := [(.int (Int32.ofNat (cc + ln)))]) (rest := []) 0 X3 hx hZ hml hown (oV hw 92 rfl) (oV hw 95 rfl) (oV hw 93 rfl) (oV hw 96 rfl) (oV hw 62 rfl) (o_ens0 l Z a0 hw [] x1 ab kb us cc (Int32.ofNat (cc + ln)) h0 n0 Z0 hS (o_ens (by omega))) e3 E_x1 o_pd15 (hb hby D28_21)
  obtain ⟨rfl, N6q, e6⟩ := hQ6
  have N6 := Fr.app N1 N6q
  have pre7 : Goes p e below s1 F0 T6 (mkF m 24 #[oR x1, oR a1, oI (Int32.ofNat ln)] []) := fun t kt => pre5 t (st6 t kt)
  obtain ⟨T8, X8, e8, st8⟩ := getF X6 hx hZ hown (host := "") (Or.inl (oV hw 90 rfl)) Via.refl e6 F_count (g := (mkF m 26 #[oR x1, oR a1, oI (Int32.ofNat ln)] [(.ref x1), (.ref x1)])) rfl rfl (hb hby D28_26)
  have pre9 : Goes p e below s1 F0 T8 (mkF m 29 #[oR x1, oR a1, oI (Int32.ofNat ln)] [(.int (Int32.ofNat cc)), (.ref x1)]) := fun t kt => pre7 t (by
    refine o_al X6 hx hby D28_24 rfl ?_
    refine o_al X6 hx hby D28_25 rfl ?_
    exact st8 t kt)
  obtain ⟨_, T10, L10, X10, hQ10, st10⟩ := o_cW (y := o_N27) (b := x1) (g := (mkF m 30 #[oR x1, oR a1, oI (Int32.ofNat ln)] [(.ref a1), (.int (Int32.ofNat cc)), (.ref x1)])) (as := [(.int (Int32.ofNat cc)), (.ref a1)]) (rest := []) 0 X8 hx hZ hml hown (oV hw 97 rfl) (oV hw 100 rfl) (oV hw 98 rfl) (oV hw 101 rfl) (oV hw 62 rfl) (o_pSLL l Z a0 hw [] x1 ab kb us cc a1 y ky vs ln cs fm h0 n0 Z0 hS E_a1 Fc Fv V_y nya nyx nax hlv hcl hst O0) e8 E_x1 o_pd19 (hb hby D28_30)
  obtain ⟨rfl, N10q, K10q, hT10⟩ := hQ10
  have N10 := Fr.app N6 N10q
  have KC10 : Keep h0 T10.heap [x1, ab] := (Keep.refl h0 [x1, ab]).trans K10q (allS (Or.inl (o_mG (i := 1) rfl)) all0)
  have pre11 : Goes p e below s1 F0 T10 (mkF m 33 #[oR x1, oR a1, oI (Int32.ofNat ln)] []) := fun t kt => pre9 t (by
    refine o_al X8 hx hby D28_29 rfl ?_
    exact st10 t kt)
  obtain ⟨E_x1n, F_valuen, F_codern, F_countn, F_maybeLatin1n, V_abn, hlun, nxan, g_x1n, g_abn⟩ := (id (hT10))
  obtain ⟨T12, X12, e12, st12⟩ := getF X10 hx hZ hown (host := "") (Or.inl (oV hw 90 rfl)) Via.refl rfl F_countn (g := (mkF m 35 #[oR x1, oR a1, oI (Int32.ofNat ln)] [(.ref x1), (.ref x1)])) rfl rfl (hb hby D28_35)
  have pre13 : Goes p e below s1 F0 T12 (mkF m 38 #[oR x1, oR a1, oI (Int32.ofNat ln)] [(.int (Int32.ofNat cc)), (.ref x1)]) := fun t kt => pre11 t (by
    refine o_al X10 hx hby D28_33 rfl ?_
    refine XS.dup X10.here hx rfl (hb hby D28_34) rfl rfl ?_
    exact st12 t kt)
  have pre14 : Goes p e below s1 F0 T12 (mkF m 40 #[oR x1, oR a1, oI (Int32.ofNat ln)] [(.int ((Int32.ofNat cc) + (Int32.ofNat ln))), (.ref x1)]) := fun t kt => pre13 t (by
    refine o_il X12 hx hby D28_38 rfl ?_
    refine XS.iadd X12.here hx rfl (hb hby D28_39) rfl ?_
    exact kt)
  rw [show ((Int32.ofNat cc) + (Int32.ofNat ln)) = (Int32.ofNat (cc + ln)) from o_oadd cc ln] at pre14
  obtain ⟨T15, h15, X15, e15, W15, st15⟩ := putF X12 hx hZ hown (host := "") (Or.inl (oV hw 90 rfl)) Via.refl e12 F_countn E_x1n (Or.inl (oV hw 91 rfl)) (oV hw 53 rfl) (ty := .int) (by decide) rfl rfl (g := (mkF m 40 #[oR x1, oR a1, oI (Int32.ofNat ln)] [(.int (Int32.ofNat (cc + ln))), (.ref x1)])) rfl rfl (hb hby D28_40)
  have Fw15 := F_countn.same W15
  have K15 : Keep h0 h15 [x1, ab] := KC10.wr W15 (Or.inl (o_mG (i := 0) rfl))
  have N15 := Fr.snoc X15 N10 g_x1
  have pre16 : Goes p e below s1 F0 T15 (mkF m 43 #[oR x1, oR a1, oI (Int32.ofNat ln)] []) := fun t kt => pre14 t (st15 t kt)
  have pre17 : Goes p e below s1 F0 T15 (mkF m 44 #[oR x1, oR a1, oI (Int32.ofNat ln)] [(.ref x1)]) := fun t kt => pre16 t (by
    refine o_al X15 hx hby D28_43 rfl ?_
    exact kt)
  refine o_eR X15 Bd hx pre17 (hb hby D28_44) e15 ?_
  exact ⟨rfl, N15, K15, ⟨(E_x1n.wr W15), (F_valuen.other W15 (Or.inr (slot_ne (Or.inl (oV hw 67 rfl)) (Or.inl (oV hw 91 rfl)) (by decide) (t := (.array .byte)) (t' := .int) (by decide) (by decide)))), (F_codern.other W15 (Or.inr (slot_ne (Or.inl (oV hw 69 rfl)) (Or.inl (oV hw 91 rfl)) (by decide) (t := .byte) (t' := .int) (by decide) (by decide)))), Fw15, (F_maybeLatin1n.other W15 (Or.inr (slot_ne (Or.inl (oV hw 293 rfl)) (Or.inl (oV hw 91 rfl)) (by decide) (t := .boolean) (t' := .int) (by decide) (by decide)))), (V_abn.other W15 (Ne.symm nxan)), hlun, nxan, g_x1, g_abn⟩⟩
theorem D29_0 : decode oY44 0 = .ok (.aload_n 0, 1) := by decide +kernel
theorem D29_1 : decode oY44 1 = .ok (.aload_n 1, 1) := by decide +kernel
theorem D29_2 : decode oY44 2 = .ok (.invokespecial 29, 3) := by decide +kernel
theorem D29_5 : decode oY44 5 = .ok (.pop, 1) := by decide +kernel
theorem D29_6 : decode oY44 6 = .ok (.aload_n 0, 1) := by decide +kernel
theorem D29_7 : decode oY44 7 = .ok (.areturn, 1) := by decide +kernel
def Q_o_bSLL (Z : State) (x1 ab : Addr) (kb : ClassId) (us : List Value) (cc : Nat) (a1 y : Addr) (ky : ClassId) (vs : List Value) (ln : Nat) (cs : Int32) (fm : Value) (h0 : Heap) (n0 : Nat) (v : Option Value) (h : Heap) (L : List Loc) : Prop := v = some (.ref x1) ∧ Fr n0 L ∧ Keep h0 h [x1, ab] ∧ o_SB Z h n0 x1 ab kb (us.take cc ++ vs ++ us.drop (cc + ln)) (cc + ln) (0 : Int32) (16 : Int32) 16
theorem o_bSLL (l : Launch) (Z : State) (a0 : Array Value) (hw : ∀ d ∈ tables_1, d.before a0 Z = true) (ws : List Jvm.Cond) (x1 ab : Addr) (kb : ClassId) (us : List Value) (cc : Nat) (a1 y : Addr) (ky : ClassId) (vs : List Value) (ln : Nat) (cs : Int32) (fm : Value) (h0 : Heap) (n0 : Nat) (Z0 : n0 ≤ h0.size) (hS : o_SB Z h0 n0 x1 ab kb us cc (0 : Int32) (16 : Int32) 16) (E_a1 : Exa Z h0 a1 "java/lang/String") (Fc : Fld Z h0 a1 "java/lang/String" "coder" "B" (.int 0)) (Fv : Fld Z h0 a1 "java/lang/String" "value" "[B" (.ref y)) (V_y : Arv Z h0 y ky .byte (Int32.ofNat ln) vs (.int 0)) (nya : y ≠ ab) (nyx : y ≠ x1) (nax : a1 ≠ x1) (hlv : vs.length = ln) (hcl : cc + ln ≤ 16) (hst : o_ST Z cs fm) (O0 : Old Z n0 h0) :
    o_MF l o_N29 oY44 2 (some (.object "java/lang/StringBuilder")) ws o_R30 #[(.ref x1), (.ref a1)] Z h0 (Q_o_bSLL Z x1 ab kb us cc a1 y ky vs ln cs fm h0 n0) := by
  refine o_start (C := "java/lang/StringBuilder") rfl (plainFor_of_name o_pn_o_bi) fun p e s m below meth c s1 F0 Bd hx hby hml hown hnm hZ X0 e0 hF0 => ?_
  have N0 := Fr.nil n0
  have pre0 : Goes p e below s1 F0 s1 (mkF m 0 #[oR x1, oR a1] []) := fun t k => castTop (hF0.trans (by simp [entryFrame, mkF, argsToLocals, Value.category])) k
  obtain ⟨E_x1, F_value, F_coder, F_count, F_maybeLatin1, V_ab, hlu, nxa, g_x1, g_ab⟩ := (id (hS))
  obtain ⟨_, T1, L1, X1, hQ1, st1⟩ := o_cU (y := o_N28) (y2 := o_N24) (b := x1) (g := (mkF m 2 #[oR x1, oR a1] [(.ref a1), (.ref x1)])) (as := [(.ref a1)]) (rest := []) 0 X0 hx hZ hml hown (oV hw 75 rfl) (oV hw 95 rfl) (oV hw 76 rfl) (oV hw 77 rfl) (oV hw 79 rfl) (oV hw 62 rfl) (o_aSLL l Z a0 hw [] x1 ab kb us cc a1 y ky vs ln cs fm h0 n0 Z0 hS E_a1 Fc Fv V_y nya nyx nax hlv hcl hst O0) e0 E_x1 o_pd20 (hb hby D29_2)
  obtain ⟨rfl, N1q, K1q, Rest1⟩ := hQ1
  have N1 := Fr.app N0 N1q
  have KC1 : Keep h0 T1.heap [x1, ab] := (Keep.refl h0 [x1, ab]).trans K1q (allS (Or.inl (o_mG (i := 0) rfl)) (allS (Or.inl (o_mG (i := 1) rfl)) all0))
  have pre2 : Goes p e below s1 F0 T1 (mkF m 5 #[oR x1, oR a1] [(.ref x1)]) := fun t kt => pre0 t (by
    refine o_al X0 hx hby D29_0 rfl ?_
    refine o_al X0 hx hby D29_1 rfl ?_
    exact st1 t kt)
  have pre3 : Goes p e below s1 F0 T1 (mkF m 7 #[oR x1, oR a1] [(.ref x1)]) := fun t kt => pre2 t (by
    refine XS.pop X1.here hx rfl (hb hby D29_5) rfl rfl ?_
    refine o_al X1 hx hby D29_6 rfl ?_
    exact kt)
  refine o_eR X1 Bd hx pre3 (hb hby D29_7) rfl ?_
  exact ⟨rfl, N1, KC1, Rest1⟩
theorem D30_0 : decode oY51 0 = .ok (.getstatic 18, 3) := by decide +kernel
theorem D30_3 : decode oY51 3 = .ok (.ifCond .eq 14, 3) := by decide +kernel
theorem D30_6 : decode oY51 6 = .ok (.aload_n 0, 1) := by decide +kernel
theorem D30_7 : decode oY51 7 = .ok (.getfield 22, 3) := by decide +kernel
theorem D30_10 : decode oY51 10 = .ok (.ifCond .ne 7, 3) := by decide +kernel
theorem D30_13 : decode oY51 13 = .ok (.iconst 1, 1) := by decide +kernel
theorem D30_14 : decode oY51 14 = .ok (.goto 4, 3) := by decide +kernel
theorem D30_18 : decode oY51 18 = .ok (.ireturn, 1) := by decide +kernel
def Q_o_isl0z (Z : State) (x1 ab : Addr) (kb : ClassId) (us : List Value) (cs : Int32) (fm : Value) (h0 : Heap) (n0 : Nat) (v : Option Value) (h : Heap) (L : List Loc) : Prop := v = some (.int 1) ∧ Fr n0 L ∧ h = h0
theorem o_isl0z (l : Launch) (Z : State) (a0 : Array Value) (hw : ∀ d ∈ tables_1, d.before a0 Z = true) (ws : List Jvm.Cond) (x1 ab : Addr) (kb : ClassId) (us : List Value) (cs : Int32) (fm : Value) (h0 : Heap) (n0 : Nat) (Z0 : n0 ≤ h0.size) (hS : o_SB Z h0 n0 x1 ab kb us 0 (0 : Int32) (16 : Int32) 16) (hst : o_ST Z cs fm) (O0 : Old Z n0 h0) :
    o_MF l o_N30 oY51 1 (some .boolean) ws o_R2 #[(.ref x1)] Z h0 (Q_o_isl0z Z x1 ab kb us cs fm h0 n0) := by
  refine o_start (C := "java/lang/AbstractStringBuilder") rfl (plainFor_of_name o_pn_o_ai) fun p e s m below meth c s1 F0 Bd hx hby hml hown hnm hZ X0 e0 hF0 => ?_
  have N0 := Fr.nil n0
  have pre0 : Goes p e below s1 F0 s1 (mkF m 0 #[oR x1] []) := fun t k => castTop (hF0.trans (by simp [entryFrame, mkF, argsToLocals, Value.category])) k
  obtain ⟨E_x1, F_value, F_coder, F_count, F_maybeLatin1, V_ab, hlu, nxa, g_x1, g_ab⟩ := (id (hS))
  obtain ⟨T1, X1, e1, st1⟩ := getS2 X0 hx hZ hown (host := "") (Or.inl (oV hw 65 rfl)) Via.refl e0 (hst.1.ext O0.2) (g := (mkF m 0 #[oR x1] [])) rfl (hb hby D30_0)
  have pre2 : Goes p e below s1 F0 T1 (mkF m 3 #[oR x1] [(.int cs)]) := fun t kt => pre0 t (st1 t kt)
  obtain ⟨T3, X3, e3, st3⟩ := getF X1 hx hZ hown (host := "") (Or.inl (oV hw 68 rfl)) Via.refl e1 F_coder (g := (mkF m 7 #[oR x1] [(.ref x1)])) rfl rfl (hb hby D30_7)
  have pre4 : Goes p e below s1 F0 T3 (mkF m 10 #[oR x1] [(.int 0)]) := fun t kt => pre2 t (by
    refine o_ifN X1 hx hby D30_3 ((if0 _ _).trans (feq hst.2.1).1) ?_
    refine o_al X1 hx hby D30_6 rfl ?_
    exact st3 t kt)
  have pre5 : Goes p e below s1 F0 T3 (mkF m 18 #[oR x1] [(.int 1)]) := fun t kt => pre4 t (by
    refine o_ifN X3 hx hby D30_10 ((if0 _ _).trans (teq (by decide : (0 : Int32) = (0 : Int32))).2) ?_
    refine o_ic X3 hx hby D30_13 ?_
    refine o_gt 14 18 X3 hx hby D30_14 ?_
    exact kt)
  refine o_eN X3 Bd hx pre5 (hb hby D30_18) e3 ?_
  exact ⟨rfl, N0, rfl⟩
def Q_o_nbl16 (Z : State)  (h0 : Heap) (n0 : Nat) (v : Option Value) (h : Heap) (L : List Loc) : Prop := v = some (.int 32) ∧ Fr n0 L ∧ h = h0
theorem o_nbl16 (l : Launch) (Z : State) (a0 : Array Value) (hw : ∀ d ∈ tables_1, d.before a0 Z = true) (ws : List Jvm.Cond)  (h0 : Heap) (n0 : Nat) (Z0 : n0 ≤ h0.size) :
    o_MF l o_N3 oY27 1 (some .int) ws o_R2 #[(.int 16)] Z h0 (Q_o_nbl16 Z  h0 n0) := by
  refine o_start (C := "java/lang/StringUTF16") rfl (plainFor_of_name o_pn_o_cin1) fun p e s m below meth c s1 F0 Bd hx hby hml hown hnm hZ X0 e0 hF0 => ?_
  have N0 := Fr.nil n0
  have pre0 : Goes p e below s1 F0 s1 (mkF m 0 #[oI 16] []) := fun t k => castTop (hF0.trans (by simp [entryFrame, mkF, argsToLocals, Value.category])) k
  have pre1 : Goes p e below s1 F0 s1 (mkF m 58 #[oI 16] [(.int ((16 : Int32) <<< ((1 : Int32) &&& 31)))]) := fun t kt => pre0 t (by
    refine o_il X0 hx hby D3_0 rfl ?_
    refine o_ifY 1 12 X0 hx hby D3_1 ((if0 _ _).trans (flt (by decide : ¬ ((16 : Int32) < (0 : Int32)))).2.1) ?_
    refine o_il X0 hx hby D3_12 rfl ?_
    refine X0.ldcInt hx hown (oW hw hZ 240 rfl) (g := (mkF m 13 #[oI 16] [(.int 16)])) rfl (hb hby D3_13) _ ?_
    refine o_icY 15 55 X0 hx hby D3_15 (tlt (by decide : (16 : Int32) < (1073741823 : Int32))).1 ?_
    refine o_il X0 hx hby D3_55 rfl ?_
    refine o_ic X0 hx hby D3_56 ?_
    refine XS.ishl X0.here hx rfl (hb hby D3_57) rfl ?_
    exact kt)
  rw [show ((16 : Int32) <<< ((1 : Int32) &&& 31)) = (32 : Int32) from (by decide)] at pre1
  refine o_eI X0 Bd hx pre1 (hb hby D3_58) e0 ?_
  exact ⟨rfl, N0, rfl⟩
def Q_o_nbf16 (Z : State)  (h0 : Heap) (n0 : Nat) (v : Option Value) (h : Heap) (L : List Loc) : Prop := ∃ (y : Addr) (ky : ClassId), v = some (.ref y) ∧ Fr n0 L ∧ Keep h0 h [] ∧ h0.size ≤ y ∧ n0 ≤ y ∧ Arv Z h y ky .byte (32 : Int32) [(.int 0), (.int 0), (.int 0), (.int 0), (.int 0), (.int 0), (.int 0), (.int 0), (.int 0), (.int 0), (.int 0), (.int 0), (.int 0), (.int 0), (.int 0), (.int 0), (.int 0), (.int 0), (.int 0), (.int 0), (.int 0), (.int 0), (.int 0), (.int 0), (.int 0), (.int 0), (.int 0), (.int 0), (.int 0), (.int 0), (.int 0), (.int 0)] (.int 0)
theorem o_nbf16 (l : Launch) (Z : State) (a0 : Array Value) (hw : ∀ d ∈ tables_1, d.before a0 Z = true) (ws : List Jvm.Cond)  (h0 : Heap) (n0 : Nat) (Z0 : n0 ≤ h0.size) :
    o_MF l o_N4 oY26 1 (some (.array .byte)) ws o_R31 #[(.int 16)] Z h0 (Q_o_nbf16 Z  h0 n0) := by
  refine o_start (C := "java/lang/StringUTF16") rfl (plainFor_of_name o_pn_o_cin1) fun p e s m below meth c s1 F0 Bd hx hby hml hown hnm hZ X0 e0 hF0 => ?_
  have N0 := Fr.nil n0
  have pre0 : Goes p e below s1 F0 s1 (mkF m 0 #[oI 16] []) := fun t k => castTop (hF0.trans (by simp [entryFrame, mkF, argsToLocals, Value.category])) k
  obtain ⟨_, T1, L1, X1, hQ1, st1⟩ := o_cS (y := o_N3) (g := (mkF m 1 #[oI 16] [(.int 16)])) (as := [(.int 16)]) (rest := []) 0 X0 hx hZ hml hown (oV hw 237 rfl) (oV hw 238 rfl) (oV hw 18 rfl) (oV hw 239 rfl) (o_nbl16 l Z a0 hw []  h0 n0 Z0 ) e0 o_pd1 (hb hby D4_1)
  obtain ⟨rfl, N1q, e1⟩ := hQ1
  have N1 := Fr.app N0 N1q
  have pre2 : Goes p e below s1 F0 T1 (mkF m 4 #[oI 16] [(.int 32)]) := fun t kt => pre0 t (by
    refine o_il X0 hx hby D4_0 rfl ?_
    exact st1 t kt)
  obtain ⟨T3, h3, k3, X3, e3, E3, A3, st3⟩ := newP X1 hx hZ (oV hw 20 rfl) e1 (g := (mkF m 4 #[oI 16] [(.int 32)])) rfl (hb hby D4_4) rfl (by decide) (cap := 32) (by decide) (by decide) (by decide) (by decide)
  obtain ⟨b3, g3⟩ : ∃ z, z = h0.size := ⟨_, rfl⟩
  rw [← g3] at A3 st3
  have V_b3 : Arv Z h3 b3 k3 .byte (32 : Int32) [(.int 0), (.int 0), (.int 0), (.int 0), (.int 0), (.int 0), (.int 0), (.int 0), (.int 0), (.int 0), (.int 0), (.int 0), (.int 0), (.int 0), (.int 0), (.int 0), (.int 0), (.int 0), (.int 0), (.int 0), (.int 0), (.int 0), (.int 0), (.int 0), (.int 0), (.int 0), (.int 0), (.int 0), (.int 0), (.int 0), (.int 0), (.int 0)] (.int 0) := (Arv.new A3 (by decide)).pad (pad_rep [] (.int 0) 32)
  have g_b3 : n0 ≤ b3 := Nat.le_trans Z0 (Nat.le_of_eq g3.symm)
  have sz_b3 : h0.size ≤ b3 := (Nat.le_trans (Keep.refl h0 []).1 (Nat.le_of_eq g3.symm))
  have K3 : Keep h0 h3 [] := (Keep.refl h0 []).ext E3
  have pre4 : Goes p e below s1 F0 T3 (mkF m 6 #[oI 16] [(.ref b3)]) := fun t kt => pre2 t (st3 t kt)
  refine o_eR X3 Bd hx pre4 (hb hby D4_6) e3 ?_
  exact ⟨b3, k3, rfl, N1, K3, sz_b3, g_b3, V_b3⟩
theorem D31_0 : decode oY7 0 = .ok (.iload_n 2, 1) := by decide +kernel
theorem D31_1 : decode oY7 1 = .ok (.iload_n 0, 1) := by decide +kernel
theorem D31_2 : decode oY7 2 = .ok (.ior, 1) := by decide +kernel
theorem D31_3 : decode oY7 3 = .ok (.iload_n 1, 1) := by decide +kernel
theorem D31_4 : decode oY7 4 = .ok (.ior, 1) := by decide +kernel
theorem D31_5 : decode oY7 5 = .ok (.ifCond .lt 10, 3) := by decide +kernel
theorem D31_8 : decode oY7 8 = .ok (.iload_n 1, 1) := by decide +kernel
theorem D31_9 : decode oY7 9 = .ok (.iload_n 2, 1) := by decide +kernel
theorem D31_10 : decode oY7 10 = .ok (.iload_n 0, 1) := by decide +kernel
theorem D31_11 : decode oY7 11 = .ok (.isub, 1) := by decide +kernel
theorem D31_12 : decode oY7 12 = .ok (.if_icmp .le 11, 3) := by decide +kernel
theorem D31_23 : decode oY7 23 = .ok (.iload_n 0, 1) := by decide +kernel
theorem D31_24 : decode oY7 24 = .ok (.ireturn, 1) := by decide +kernel
theorem o_ef_o_cfis (m : MethodId) (x0 x1 x2 : Int32) (x3 : Value) (h3 : o_Rf x3) : entryFrame m #[(.int x0), (.int x1), (.int x2), x3] 4 = mkF m 0 #[oI x0, oI x1, oI x2, .val x3] [] := by rcases h3 with rfl | ⟨w3, rfl⟩ <;> first | (simp [entryFrame, mkF, argsToLocals, Value.category]; done) | rfl
def Q_o_cfis (Z : State) (ip jp lp : Int32) (fm : Value) (h0 : Heap) (n0 : Nat) (v : Option Value) (h : Heap) (L : List Loc) : Prop := v = some (.int ip) ∧ Fr n0 L ∧ h = h0
theorem o_cfis (l : Launch) (Z : State) (a0 : Array Value) (hw : ∀ d ∈ tables_1, d.before a0 Z = true) (ws : List Jvm.Cond) (ip jp lp : Int32) (fm : Value) (h0 : Heap) (n0 : Nat) (Z0 : n0 ≤ h0.size) (hfm : o_Rf fm) (h1 : ¬ (((lp ||| ip) ||| jp) < (0 : Int32))) (h2 : ¬ ((lp - ip) < jp)) :
    o_MF l o_N31 oY7 4 (some .int) ws o_R2 #[(.int ip), (.int jp), (.int lp), fm] Z h0 (Q_o_cfis Z ip jp lp fm h0 n0) := by
  refine o_start (C := "jdk/internal/util/Preconditions") rfl (plainFor_of_name o_pn_o_pi) fun p e s m below meth c s1 F0 Bd hx hby hml hown hnm hZ X0 e0 hF0 => ?_
  have N0 := Fr.nil n0
  have pre0 : Goes p e below s1 F0 s1 (mkF m 0 #[oI ip, oI jp, oI lp, .val fm] []) := fun t k => castTop (hF0.trans (o_ef_o_cfis m ip jp lp fm hfm)) k
  have pre1 : Goes p e below s1 F0 s1 (mkF m 24 #[oI ip, oI jp, oI lp, .val fm] [(.int ip)]) := fun t kt => pre0 t (by
    refine o_il X0 hx hby D31_0 rfl ?_
    refine o_il X0 hx hby D31_1 rfl ?_
    refine XS.ior X0.here hx rfl (hb hby D31_2) rfl ?_
    refine o_il X0 hx hby D31_3 rfl ?_
    refine XS.ior X0.here hx rfl (hb hby D31_4) rfl ?_
    refine o_ifN X0 hx hby D31_5 ((if0 _ _).trans (flt h1).1) ?_
    refine o_il X0 hx hby D31_8 rfl ?_
    refine o_il X0 hx hby D31_9 rfl ?_
    show Steps p.tables e below (s1.setTop (mkF m 10 #[oI ip, oI jp, oI lp, .val fm] [(.int lp), (.int jp)])) _
    refine o_il X0 hx hby D31_10 rfl ?_
    refine XS.isub X0.here hx rfl (hb hby D31_11) rfl ?_
    refine o_icY 12 23 X0 hx hby D31_12 (flt h2).2.2.2 ?_
    refine o_il X0 hx hby D31_23 rfl ?_
    exact kt)
  refine o_eI X0 Bd hx pre1 (hb hby D31_24) e0 ?_
  exact ⟨rfl, N0, rfl⟩
theorem D32_0 : decode oY14 0 = .ok (.iload_n 0, 1) := by decide +kernel
theorem D32_1 : decode oY14 1 = .ok (.iload_n 1, 1) := by decide +kernel
theorem D32_2 : decode oY14 2 = .ok (.iload_n 2, 1) := by decide +kernel
theorem D32_3 : decode oY14 3 = .ok (.getstatic 1053, 3) := by decide +kernel
theorem D32_6 : decode oY14 6 = .ok (.invokestatic 1065, 3) := by decide +kernel
theorem D32_9 : decode oY14 9 = .ok (.ireturn, 1) := by decide +kernel
def Q_o_scoc (Z : State) (ip jp : Int32) (lp cs : Int32) (fm : Value) (h0 : Heap) (n0 : Nat) (v : Option Value) (h : Heap) (L : List Loc) : Prop := v = some (.int ip) ∧ Fr n0 L ∧ h = h0
theorem o_scoc (l : Launch) (Z : State) (a0 : Array Value) (hw : ∀ d ∈ tables_1, d.before a0 Z = true) (ws : List Jvm.Cond) (ip jp : Int32) (lp cs : Int32) (fm : Value) (h0 : Heap) (n0 : Nat) (Z0 : n0 ≤ h0.size) (h1 : ¬ (((lp ||| ip) ||| jp) < (0 : Int32))) (h2 : ¬ ((lp - ip) < jp)) (hst : o_ST Z cs fm) (O0 : Old Z n0 h0) :
    o_MF l o_N32 oY14 3 (some .int) ws o_R32 #[(.int ip), (.int jp), (.int lp)] Z h0 (Q_o_scoc Z ip jp lp cs fm h0 n0) := by
  refine o_start (C := "java/lang/String") rfl (plainFor_of_name o_pn_o_sI0) fun p e s m below meth c s1 F0 Bd hx hby hml hown hnm hZ X0 e0 hF0 => ?_
  have N0 := Fr.nil n0
  have pre0 : Goes p e below s1 F0 s1 (mkF m 0 #[oI ip, oI jp, oI lp] []) := fun t k => castTop (hF0.trans (by simp [entryFrame, mkF, argsToLocals, Value.category])) k
  obtain ⟨T1, X1, e1, st1⟩ := getS2 X0 hx hZ hown (host := "") (Or.inl (oV hw 209 rfl)) Via.refl e0 (hst.2.2.2.2.2.1.ext O0.2) (g := (mkF m 3 #[oI ip, oI jp, oI lp] [(.int lp), (.int jp), (.int ip)])) rfl (hb hby D32_3)
  have pre2 : Goes p e below s1 F0 T1 (mkF m 6 #[oI ip, oI jp, oI lp] [fm, (.int lp), (.int jp), (.int ip)]) := fun t kt => pre0 t (by
    refine o_il X0 hx hby D32_0 rfl ?_
    refine o_il X0 hx hby D32_1 rfl ?_
    refine o_il X0 hx hby D32_2 rfl ?_
    exact st1 t kt)
  obtain ⟨_, T3, L3, X3, hQ3, st3⟩ := o_cS (y := o_N31) (g := (mkF m 6 #[oI ip, oI jp, oI lp] [fm, (.int lp), (.int jp), (.int ip)])) (as := [(.int ip), (.int jp), (.int lp), fm]) (rest := []) 0 X1 hx hZ hml hown (oV hw 271 rfl) (oV hw 272 rfl) (oV hw 210 rfl) (oV hw 273 rfl) (o_cfis l Z a0 hw [] ip jp lp fm h0 n0 Z0 hst.2.2.2.2.2.2 h1 h2) e1 o_pd21 (hb hby D32_6)
  obtain ⟨rfl, N3q, e3⟩ := hQ3
  have N3 := Fr.app N0 N3q
  have pre4 : Goes p e below s1 F0 T3 (mkF m 9 #[oI ip, oI jp, oI lp] [(.int ip)]) := fun t kt => pre2 t (st3 t kt)
  refine o_eI X3 Bd hx pre4 (hb hby D32_9) e3 ?_
  exact ⟨rfl, N3, rfl⟩
theorem D33_0 : decode oY37 0 = .ok (.iload_n 0, 1) := by decide +kernel
theorem D33_1 : decode oY37 1 = .ok (.iload_n 1, 1) := by decide +kernel
theorem D33_2 : decode oY37 2 = .ok (.aload_n 2, 1) := by decide +kernel
theorem D33_3 : decode oY37 3 = .ok (.invokestatic 48, 3) := by decide +kernel
theorem D33_6 : decode oY37 6 = .ok (.invokestatic 419, 3) := by decide +kernel
theorem D33_9 : decode oY37 9 = .ok (.pop, 1) := by decide +kernel
theorem D33_10 : decode oY37 10 = .ok (.return_, 1) := by decide +kernel
def Q_o_ucoc (Z : State) (ip jp : Int32) (ab : Addr) (zn cs : Int32) (fm : Value) (h0 : Heap) (n0 : Nat) (v : Option Value) (h : Heap) (L : List Loc) : Prop := v = none ∧ Fr n0 L ∧ h = h0
theorem o_ucoc (l : Launch) (Z : State) (a0 : Array Value) (hw : ∀ d ∈ tables_1, d.before a0 Z = true) (ws : List Jvm.Cond) (ip jp : Int32) (ab : Addr) (zn cs : Int32) (fm : Value) (h0 : Heap) (n0 : Nat) (Z0 : n0 ≤ h0.size) (Ln : o_Ln Z h0 ab zn) (h1 : ¬ ((((zn >>> ((1 : Int32) &&& 31)) ||| ip) ||| jp) < (0 : Int32))) (h2 : ¬ (((zn >>> ((1 : Int32) &&& 31)) - ip) < jp)) (hst : o_ST Z cs fm) (O0 : Old Z n0 h0) :
    o_MF l o_N33 oY37 3 none ws o_R33 #[(.int ip), (.int jp), (.ref ab)] Z h0 (Q_o_ucoc Z ip jp ab zn cs fm h0 n0) := by
  refine o_start (C := "java/lang/StringUTF16") rfl (plainFor_of_name o_pn_o_cin1) fun p e s m below meth c s1 F0 Bd hx hby hml hown hnm hZ X0 e0 hF0 => ?_
  have N0 := Fr.nil n0
  have pre0 : Goes p e below s1 F0 s1 (mkF m 0 #[oI ip, oI jp, oR ab] []) := fun t k => castTop (hF0.trans (by simp [entryFrame, mkF, argsToLocals, Value.category])) k
  obtain ⟨_, T1, L1, X1, hQ1, st1⟩ := o_cS (y := o_N16) (g := (mkF m 3 #[oI ip, oI jp, oR ab] [(.ref ab), (.int jp), (.int ip)])) (as := [(.ref ab)]) (rest := [(.int jp), (.int ip)]) 2 X0 hx hZ hml hown (oV hw 265 rfl) (oV hw 266 rfl) (oV hw 18 rfl) (oV hw 267 rfl) (o_ul l Z a0 hw [] ab zn h0 n0 Z0 Ln) e0 o_pd11 (hb hby D33_3)
  obtain ⟨rfl, N1q, e1⟩ := hQ1
  have N1 := Fr.app N0 N1q
  have pre2 : Goes p e below s1 F0 T1 (mkF m 6 #[oI ip, oI jp, oR ab] [(.int (zn >>> ((1 : Int32) &&& 31))), (.int jp), (.int ip)]) := fun t kt => pre0 t (by
    refine o_il X0 hx hby D33_0 rfl ?_
    refine o_il X0 hx hby D33_1 rfl ?_
    refine o_al X0 hx hby D33_2 rfl ?_
    exact st1 t kt)
  obtain ⟨_, T3, L3, X3, hQ3, st3⟩ := o_cS (y := o_N32) (g := (mkF m 6 #[oI ip, oI jp, oR ab] [(.int (zn >>> ((1 : Int32) &&& 31))), (.int jp), (.int ip)])) (as := [(.int ip), (.int jp), (.int (zn >>> ((1 : Int32) &&& 31)))]) (rest := []) 0 X1 hx hZ hml hown (oV hw 268 rfl) (oV hw 269 rfl) (oV hw 4 rfl) (oV hw 270 rfl) (o_scoc l Z a0 hw [] ip jp (zn >>> ((1 : Int32) &&& 31)) cs fm h0 n0 Z0 h1 h2 hst O0) e1 o_pd22 (hb hby D33_6)
  obtain ⟨rfl, N3q, e3⟩ := hQ3
  have N3 := Fr.app N1 N3q
  have pre4 : Goes p e below s1 F0 T3 (mkF m 9 #[oI ip, oI jp, oR ab] [(.int ip)]) := fun t kt => pre2 t (st3 t kt)
  have pre5 : Goes p e below s1 F0 T3 (mkF m 10 #[oI ip, oI jp, oR ab] []) := fun t kt => pre4 t (by
    refine XS.pop X3.here hx rfl (hb hby D33_9) rfl rfl ?_
    exact kt)
  refine o_eV X3 Bd hx pre5 (hb hby D33_10) e3 ?_
  exact ⟨rfl, N3, rfl⟩
theorem D34_0 : decode oY33 0 = .ok (.iload_n 3, 1) := by decide +kernel
theorem D34_1 : decode oY33 1 = .ok (.iload 4, 2) := by decide +kernel
theorem D34_3 : decode oY33 3 = .ok (.aload_n 2, 1) := by decide +kernel
theorem D34_4 : decode oY33 4 = .ok (.invokestatic 173, 3) := by decide +kernel
theorem D34_7 : decode oY33 7 = .ok (.iconst 0, 1) := by decide +kernel
theorem D34_8 : decode oY33 8 = .ok (.istore 5, 2) := by decide +kernel
theorem D34_10 : decode oY33 10 = .ok (.iload 5, 2) := by decide +kernel
theorem D34_12 : decode oY33 12 = .ok (.iload 4, 2) := by decide +kernel
theorem D34_14 : decode oY33 14 = .ok (.if_icmp .ge 27, 3) := by decide +kernel
theorem D34_41 : decode oY33 41 = .ok (.return_, 1) := by decide +kernel
def Q_o_uin0 (Z : State) (sr ab : Addr) (cs : Int32) (fm : Value) (h0 : Heap) (n0 : Nat) (v : Option Value) (h : Heap) (L : List Loc) : Prop := v = none ∧ Fr n0 L ∧ h = h0
theorem o_uin0 (l : Launch) (Z : State) (a0 : Array Value) (hw : ∀ d ∈ tables_1, d.before a0 Z = true) (ws : List Jvm.Cond) (sr ab : Addr) (cs : Int32) (fm : Value) (h0 : Heap) (n0 : Nat) (Z0 : n0 ≤ h0.size) (Ln : o_Ln Z h0 ab (32 : Int32)) (hst : o_ST Z cs fm) (O0 : Old Z n0 h0) :
    o_MF l o_N34 oY33 6 none ws o_R34 #[(.ref sr), (.int 0), (.ref ab), (.int 0), (.int 0)] Z h0 (Q_o_uin0 Z sr ab cs fm h0 n0) := by
  refine o_start (C := "java/lang/StringUTF16") rfl (plainFor_of_name o_pn_o_cin1) fun p e s m below meth c s1 F0 Bd hx hby hml hown hnm hZ X0 e0 hF0 => ?_
  have N0 := Fr.nil n0
  have pre0 : Goes p e below s1 F0 s1 (mkF m 0 #[oR sr, oI 0, oR ab, oI 0, oI 0, oU] []) := fun t k => castTop (hF0.trans (by simp [entryFrame, mkF, argsToLocals, Value.category])) k
  obtain ⟨_, T1, L1, X1, hQ1, st1⟩ := o_cS (y := o_N33) (g := (mkF m 4 #[oR sr, oI 0, oR ab, oI 0, oI 0, oU] [(.ref ab), (.int 0), (.int 0)])) (as := [(.int 0), (.int 0), (.ref ab)]) (rest := []) 0 X0 hx hZ hml hown (oV hw 262 rfl) (oV hw 263 rfl) (oV hw 18 rfl) (oV hw 264 rfl) (o_ucoc l Z a0 hw [] (0 : Int32) (0 : Int32) ab (32 : Int32) cs fm h0 n0 Z0 Ln (by decide) (by decide) hst O0) e0 o_pd23 (hb hby D34_4)
  obtain ⟨rfl, N1q, e1⟩ := hQ1
  have N1 := Fr.app N0 N1q
  have pre2 : Goes p e below s1 F0 T1 (mkF m 7 #[oR sr, oI 0, oR ab, oI 0, oI 0, oU] []) := fun t kt => pre0 t (by
    refine o_il X0 hx hby D34_0 rfl ?_
    refine o_iL X0 hx hby D34_1 rfl ?_
    refine o_al X0 hx hby D34_3 rfl ?_
    exact st1 t kt)
  have pre3 : Goes p e below s1 F0 T1 (mkF m 41 #[oR sr, oI 0, oR ab, oI 0, oI 0, oI 0] []) := fun t kt => pre2 t (by
    refine o_ic X1 hx hby D34_7 ?_
    refine XS.istore X1.here hx rfl (hb hby D34_8) rfl (l' := #[oR sr, oI 0, oR ab, oI 0, oI 0, oI 0]) rfl ?_
    refine o_iL X1 hx hby D34_10 rfl ?_
    refine o_iL X1 hx hby D34_12 rfl ?_
    refine o_icY 14 41 X1 hx hby D34_14 (flt (by decide : ¬ ((0 : Int32) < (0 : Int32)))).2.1 ?_
    exact kt)
  refine o_eV X1 Bd hx pre3 (hb hby D34_41) e1 ?_
  exact ⟨rfl, N1, rfl⟩
theorem D35_0 : decode oY21 0 = .ok (.aload_n 0, 1) := by decide +kernel
theorem D35_1 : decode oY21 1 = .ok (.iload_n 1, 1) := by decide +kernel
theorem D35_2 : decode oY21 2 = .ok (.aload_n 2, 1) := by decide +kernel
theorem D35_3 : decode oY21 3 = .ok (.iload_n 3, 1) := by decide +kernel
theorem D35_4 : decode oY21 4 = .ok (.iload 4, 2) := by decide +kernel
theorem D35_6 : decode oY21 6 = .ok (.invokestatic 240, 3) := by decide +kernel
theorem D35_9 : decode oY21 9 = .ok (.return_, 1) := by decide +kernel
def Q_o_lin0 (Z : State) (sr ab : Addr) (cs : Int32) (fm : Value) (h0 : Heap) (n0 : Nat) (v : Option Value) (h : Heap) (L : List Loc) : Prop := v = none ∧ Fr n0 L ∧ h = h0
theorem o_lin0 (l : Launch) (Z : State) (a0 : Array Value) (hw : ∀ d ∈ tables_1, d.before a0 Z = true) (ws : List Jvm.Cond) (sr ab : Addr) (cs : Int32) (fm : Value) (h0 : Heap) (n0 : Nat) (Z0 : n0 ≤ h0.size) (Ln : o_Ln Z h0 ab (32 : Int32)) (hst : o_ST Z cs fm) (O0 : Old Z n0 h0) :
    o_MF l o_N35 oY21 5 none ws o_R35 #[(.ref sr), (.int 0), (.ref ab), (.int 0), (.int 0)] Z h0 (Q_o_lin0 Z sr ab cs fm h0 n0) := by
  refine o_start (C := "java/lang/StringLatin1") rfl (plainFor_of_name o_pn_o_lca) fun p e s m below meth c s1 F0 Bd hx hby hml hown hnm hZ X0 e0 hF0 => ?_
  have N0 := Fr.nil n0
  have pre0 : Goes p e below s1 F0 s1 (mkF m 0 #[oR sr, oI 0, oR ab, oI 0, oI 0] []) := fun t k => castTop (hF0.trans (by simp [entryFrame, mkF, argsToLocals, Value.category])) k
  obtain ⟨_, T1, L1, X1, hQ1, st1⟩ := o_cS (y := o_N34) (g := (mkF m 6 #[oR sr, oI 0, oR ab, oI 0, oI 0] [(.int 0), (.int 0), (.ref ab), (.int 0), (.ref sr)])) (as := [(.ref sr), (.int 0), (.ref ab), (.int 0), (.int 0)]) (rest := []) 0 X0 hx hZ hml hown (oV hw 259 rfl) (oV hw 260 rfl) (oV hw 18 rfl) (oV hw 261 rfl) (o_uin0 l Z a0 hw [] sr ab cs fm h0 n0 Z0 Ln hst O0) e0 o_pd24 (hb hby D35_6)
  obtain ⟨rfl, N1q, e1⟩ := hQ1
  have N1 := Fr.app N0 N1q
  have pre2 : Goes p e below s1 F0 T1 (mkF m 9 #[oR sr, oI 0, oR ab, oI 0, oI 0] []) := fun t kt => pre0 t (by
    refine o_al X0 hx hby D35_0 rfl ?_
    refine o_il X0 hx hby D35_1 rfl ?_
    refine o_al X0 hx hby D35_2 rfl ?_
    refine o_il X0 hx hby D35_3 rfl ?_
    refine o_iL X0 hx hby D35_4 rfl ?_
    exact st1 t kt)
  refine o_eV X1 Bd hx pre2 (hb hby D35_9) e1 ?_
  exact ⟨rfl, N1, rfl⟩
theorem D36_0 : decode oY46 0 = .ok (.aload_n 0, 1) := by decide +kernel
theorem D36_1 : decode oY46 1 = .ok (.invokevirtual 83, 3) := by decide +kernel
theorem D36_4 : decode oY46 4 = .ok (.ifCond .ne 4, 3) := by decide +kernel
theorem D36_8 : decode oY46 8 = .ok (.aload_n 0, 1) := by decide +kernel
theorem D36_9 : decode oY46 9 = .ok (.getfield 15, 3) := by decide +kernel
theorem D36_12 : decode oY46 12 = .ok (.arraylength, 1) := by decide +kernel
theorem D36_13 : decode oY46 13 = .ok (.invokestatic 26, 3) := by decide +kernel
theorem D36_16 : decode oY46 16 = .ok (.astore_n 1, 1) := by decide +kernel
theorem D36_17 : decode oY46 17 = .ok (.aload_n 0, 1) := by decide +kernel
theorem D36_18 : decode oY46 18 = .ok (.getfield 15, 3) := by decide +kernel
theorem D36_21 : decode oY46 21 = .ok (.iconst 0, 1) := by decide +kernel
theorem D36_22 : decode oY46 22 = .ok (.aload_n 1, 1) := by decide +kernel
theorem D36_23 : decode oY46 23 = .ok (.iconst 0, 1) := by decide +kernel
theorem D36_24 : decode oY46 24 = .ok (.aload_n 0, 1) := by decide +kernel
theorem D36_25 : decode oY46 25 = .ok (.getfield 79, 3) := by decide +kernel
theorem D36_28 : decode oY46 28 = .ok (.invokestatic 125, 3) := by decide +kernel
theorem D36_31 : decode oY46 31 = .ok (.aload_n 0, 1) := by decide +kernel
theorem D36_32 : decode oY46 32 = .ok (.aload_n 1, 1) := by decide +kernel
theorem D36_33 : decode oY46 33 = .ok (.putfield 15, 3) := by decide +kernel
theorem D36_36 : decode oY46 36 = .ok (.aload_n 0, 1) := by decide +kernel
theorem D36_37 : decode oY46 37 = .ok (.iconst 1, 1) := by decide +kernel
theorem D36_38 : decode oY46 38 = .ok (.putfield 22, 3) := by decide +kernel
theorem D36_41 : decode oY46 41 = .ok (.return_, 1) := by decide +kernel
def Q_o_inf0 (Z : State) (x1 ab : Addr) (kb : ClassId) (us : List Value) (cs : Int32) (fm : Value) (h0 : Heap) (n0 : Nat) (v : Option Value) (h : Heap) (L : List Loc) : Prop := v = none ∧ Fr n0 L ∧ Keep h0 h [x1] ∧ ∃ (a2 : Addr) (k2 : ClassId), h0.size ≤ a2 ∧ o_SB Z h n0 x1 a2 k2 o_Z32 0 (1 : Int32) (32 : Int32) 32
theorem o_inf0 (l : Launch) (Z : State) (a0 : Array Value) (hw : ∀ d ∈ tables_1, d.before a0 Z = true) (ws : List Jvm.Cond) (x1 ab : Addr) (kb : ClassId) (us : List Value) (cs : Int32) (fm : Value) (h0 : Heap) (n0 : Nat) (Z0 : n0 ≤ h0.size) (hS : o_SB Z h0 n0 x1 ab kb us 0 (0 : Int32) (16 : Int32) 16) (hst : o_ST Z cs fm) (O0 : Old Z n0 h0) :
    o_MF l o_N36 oY46 2 none ws o_R36 #[(.ref x1)] Z h0 (Q_o_inf0 Z x1 ab kb us cs fm h0 n0) := by
  refine o_start (C := "java/lang/AbstractStringBuilder") rfl (plainFor_of_name o_pn_o_ai) fun p e s m below meth c s1 F0 Bd hx hby hml hown hnm hZ X0 e0 hF0 => ?_
  have N0 := Fr.nil n0
  have pre0 : Goes p e below s1 F0 s1 (mkF m 0 #[oR x1, oU] []) := fun t k => castTop (hF0.trans (by simp [entryFrame, mkF, argsToLocals, Value.category])) k
  obtain ⟨E_x1, F_value, F_coder, F_count, F_maybeLatin1, V_ab, hlu, nxa, g_x1, g_ab⟩ := (id (hS))
  obtain ⟨_, T1, L1, X1, hQ1, st1⟩ := o_cW (y := o_N30) (b := x1) (g := (mkF m 1 #[oR x1, oU] [(.ref x1)])) (as := []) (rest := []) 0 X0 hx hZ hml hown (oV hw 133 rfl) (oV hw 136 rfl) (oV hw 135 rfl) (oV hw 137 rfl) (oV hw 62 rfl) (o_isl0z l Z a0 hw [] x1 ab kb us cs fm h0 n0 Z0 hS hst O0) e0 E_x1 o_pd13 (hb hby D36_1)
  obtain ⟨rfl, N1q, e1⟩ := hQ1
  have N1 := Fr.app N0 N1q
  have pre2 : Goes p e below s1 F0 T1 (mkF m 4 #[oR x1, oU] [(.int 1)]) := fun t kt => pre0 t (by
    refine o_al X0 hx hby D36_0 rfl ?_
    exact st1 t kt)
  obtain ⟨T3, X3, e3, st3⟩ := getF X1 hx hZ hown (host := "") (Or.inl (oV hw 66 rfl)) Via.refl e1 F_value (g := (mkF m 9 #[oR x1, oU] [(.ref x1)])) rfl rfl (hb hby D36_9)
  have pre4 : Goes p e below s1 F0 T3 (mkF m 12 #[oR x1, oU] [(.ref ab)]) := fun t kt => pre2 t (by
    refine o_ifY 4 8 X1 hx hby D36_4 ((if0 _ _).trans (feq (by decide : ¬ ((1 : Int32) = (0 : Int32)))).2) ?_
    refine o_al X1 hx hby D36_8 rfl ?_
    exact st3 t kt)
  obtain ⟨cl5, Ar5, q5, S5, N_5, H5, G5⟩ := (id (V_ab))
  obtain ⟨_, T6, L6, X6, hQ6, st6⟩ := o_cS (y := o_N4) (g := (mkF m 13 #[oR x1, oU] [(.int 16)])) (as := [(.int 16)]) (rest := []) 0 X3 hx hZ hml hown (oV hw 255 rfl) (oV hw 235 rfl) (oV hw 18 rfl) (oV hw 236 rfl) (o_nbf16 l Z a0 hw []  h0 n0 Z0 ) e3 o_pd2 (hb hby D36_13)
  obtain ⟨yy6, ky6, rfl, N6q, K6q, zy6, gy6, Vy6⟩ := hQ6
  have N6 := Fr.app N1 N6q
  have KC6 : Keep h0 T6.heap [x1] := (Keep.refl h0 [x1]).trans K6q all0
  have pre7 : Goes p e below s1 F0 T6 (mkF m 16 #[oR x1, oU] [(.ref yy6)]) := fun t kt => pre4 t (by
    refine X3.arraylength hx (by (try rw [e3]); exact Ar5.1) (State.isArrayOf_alike hZ.alike Ar5.2.1) (g := (mkF m 12 #[oR x1, oU] [(.ref ab)])) rfl rfl (hb hby D36_12) _ ?_
    rw [len_of S5 N_5]
    exact st6 t kt)
  have sz_yy6 := zy6
  have g_yy6 := gy6
  have nxy : x1 ≠ yy6 := Nat.ne_of_lt (Nat.lt_of_lt_of_le E_x1.lt zy6)
  obtain ⟨T8, X8, e8, st8⟩ := getF X6 hx hZ hown (host := "") (Or.inl (oV hw 66 rfl)) Via.refl rfl (F_value.keep K6q nin0) (g := (mkF m 18 #[oR x1, oR yy6] [(.ref x1)])) rfl rfl (hb hby D36_18)
  have pre9 : Goes p e below s1 F0 T8 (mkF m 21 #[oR x1, oR yy6] [(.ref ab)]) := fun t kt => pre7 t (by
    refine XS.astoreN X6.here hx rfl (hb hby D36_16) rfl rfl (l' := #[oR x1, oR yy6]) rfl ?_
    refine o_al X6 hx hby D36_17 rfl ?_
    exact st8 t kt)
  obtain ⟨T10, X10, e10, st10⟩ := getF X8 hx hZ hown (host := "") (Or.inl (oV hw 90 rfl)) Via.refl e8 (F_count.keep K6q nin0) (g := (mkF m 25 #[oR x1, oR yy6] [(.ref x1), (.int 0), (.ref yy6), (.int 0), (.ref ab)])) rfl rfl (hb hby D36_25)
  have pre11 : Goes p e below s1 F0 T10 (mkF m 28 #[oR x1, oR yy6] [(.int 0), (.int 0), (.ref yy6), (.int 0), (.ref ab)]) := fun t kt => pre9 t (by
    refine o_ic X8 hx hby D36_21 ?_
    refine o_al X8 hx hby D36_22 rfl ?_
    refine o_ic X8 hx hby D36_23 ?_
    refine o_al X8 hx hby D36_24 rfl ?_
    exact st10 t kt)
  obtain ⟨_, T12, L12, X12, hQ12, st12⟩ := o_cS (y := o_N35) (g := (mkF m 28 #[oR x1, oR yy6] [(.int 0), (.int 0), (.ref yy6), (.int 0), (.ref ab)])) (as := [(.ref ab), (.int 0), (.ref yy6), (.int 0), (.int 0)]) (rest := []) 0 X10 hx hZ hml hown (oV hw 256 rfl) (oV hw 257 rfl) (oV hw 204 rfl) (oV hw 258 rfl) (o_lin0 l Z a0 hw [] ab yy6 cs fm T6.heap n0 (Nat.le_trans Z0 KC6.1) (o_Ln.of Vy6) hst (O0.keep K6q all0)) e10 o_pd24 (hb hby D36_28)
  obtain ⟨rfl, N12q, e12⟩ := hQ12
  have N12 := Fr.app N6 N12q
  have pre13 : Goes p e below s1 F0 T12 (mkF m 31 #[oR x1, oR yy6] []) := fun t kt => pre11 t (st12 t kt)
  obtain ⟨T14, h14, X14, e14, W14, st14⟩ := putF X12 hx hZ hown (host := "") (Or.inl (oV hw 66 rfl)) Via.refl e12 (F_value.keep K6q nin0) (E_x1.keep K6q) (Or.inl (oV hw 67 rfl)) (oV hw 53 rfl) (ty := (.array .byte)) (by decide) rfl rfl (g := (mkF m 33 #[oR x1, oR yy6] [(.ref yy6), (.ref x1)])) rfl rfl (hb hby D36_33)
  have Fw14 := (F_value.keep K6q nin0).same W14
  have K14 : Keep h0 h14 [x1] := KC6.wr W14 (Or.inl (o_mG (i := 0) rfl))
  have N14 := Fr.snoc X14 N12 g_x1
  have pre15 : Goes p e below s1 F0 T14 (mkF m 36 #[oR x1, oR yy6] []) := fun t kt => pre13 t (by
    refine o_al X12 hx hby D36_31 rfl ?_
    refine o_al X12 hx hby D36_32 rfl ?_
    exact st14 t kt)
  obtain ⟨T16, h16, X16, e16, W16, st16⟩ := putFN X14 hx hZ hown (oV hw 68 rfl) Via.refl e14 ((F_coder.keep K6q nin0).other W14 (Or.inr (slot_ne (Or.inl (oV hw 69 rfl)) (Or.inl (oV hw 67 rfl)) (by decide) (t := .byte) (t' := (.array .byte)) (by decide) (by decide)))) ((E_x1.keep K6q).wr W14) (Or.inl (oV hw 69 rfl)) (oV hw 53 rfl) (ty := .byte) (v' := (.int 1)) (by decide) rfl rfl (g := (mkF m 38 #[oR x1, oR yy6] [(.int 1), (.ref x1)])) rfl rfl (hb hby D36_38)
  have Fw16 := ((F_coder.keep K6q nin0).other W14 (Or.inr (slot_ne (Or.inl (oV hw 69 rfl)) (Or.inl (oV hw 67 rfl)) (by decide) (t := .byte) (t' := (.array .byte)) (by decide) (by decide)))).same W16
  have K16 : Keep h0 h16 [x1] := K14.wr W16 (Or.inl (o_mG (i := 0) rfl))
  have N16 := Fr.snoc X16 N14 g_x1
  have pre17 : Goes p e below s1 F0 T16 (mkF m 41 #[oR x1, oR yy6] []) := fun t kt => pre15 t (by
    refine o_al X14 hx hby D36_36 rfl ?_
    refine o_ic X14 hx hby D36_37 ?_
    exact st16 t kt)
  refine o_eV X16 Bd hx pre17 (hb hby D36_41) e16 ?_
  exact ⟨rfl, N16, K16, yy6, ky6, sz_yy6, ⟨(((E_x1.keep K6q).wr W14).wr W16), (Fw14.other W16 (Or.inr (slot_ne (Or.inl (oV hw 67 rfl)) (Or.inl (oV hw 69 rfl)) (by decide) (t := (.array .byte)) (t' := .byte) (by decide) (by decide)))), Fw16, (((F_count.keep K6q nin0).other W14 (Or.inr (slot_ne (Or.inl (oV hw 91 rfl)) (Or.inl (oV hw 67 rfl)) (by decide) (t := .int) (t' := (.array .byte)) (by decide) (by decide)))).other W16 (Or.inr (slot_ne (Or.inl (oV hw 91 rfl)) (Or.inl (oV hw 69 rfl)) (by decide) (t := .int) (t' := .byte) (by decide) (by decide)))), (((F_maybeLatin1.keep K6q nin0).other W14 (Or.inr (slot_ne (Or.inl (oV hw 293 rfl)) (Or.inl (oV hw 67 rfl)) (by decide) (t := .boolean) (t' := (.array .byte)) (by decide) (by decide)))).other W16 (Or.inr (slot_ne (Or.inl (oV hw 293 rfl)) (Or.inl (oV hw 69 rfl)) (by decide) (t := .boolean) (t' := .byte) (by decide) (by decide)))), ((Vy6.other W14 (Ne.symm nxy)).other W16 (Ne.symm nxy)), rfl, nxy, g_x1, g_yy6⟩⟩
theorem D25_17 : decode oY53 17 = .ok (.aload_n 0, 1) := by decide +kernel
theorem D25_18 : decode oY53 18 = .ok (.invokevirtual 195, 3) := by decide +kernel
def Q_o_ifn01 (Z : State) (x1 ab : Addr) (kb : ClassId) (us : List Value) (a1 : Addr) (cs : Int32) (fm : Value) (h0 : Heap) (n0 : Nat) (v : Option Value) (h : Heap) (L : List Loc) : Prop := v = none ∧ Fr n0 L ∧ Keep h0 h [x1] ∧ ∃ (a2 : Addr) (k2 : ClassId), h0.size ≤ a2 ∧ o_SB Z h n0 x1 a2 k2 o_Z32 0 (1 : Int32) (32 : Int32) 32
theorem o_ifn01 (l : Launch) (Z : State) (a0 : Array Value) (hw : ∀ d ∈ tables_1, d.before a0 Z = true) (ws : List Jvm.Cond) (x1 ab : Addr) (kb : ClassId) (us : List Value) (a1 : Addr) (cs : Int32) (fm : Value) (h0 : Heap) (n0 : Nat) (Z0 : n0 ≤ h0.size) (hS : o_SB Z h0 n0 x1 ab kb us 0 (0 : Int32) (16 : Int32) 16) (E_a1 : Exa Z h0 a1 "java/lang/String") (Fc : Fld Z h0 a1 "java/lang/String" "coder" "B" (.int 1)) (hst : o_ST Z cs fm) (O0 : Old Z n0 h0) :
    o_MF l o_N25 oY53 2 none ws o_R37 #[(.ref x1), (.ref a1)] Z h0 (Q_o_ifn01 Z x1 ab kb us a1 cs fm h0 n0) := by
  refine o_start (C := "java/lang/AbstractStringBuilder") rfl (plainFor_of_name o_pn_o_ai) fun p e s m below meth c s1 F0 Bd hx hby hml hown hnm hZ X0 e0 hF0 => ?_
  have N0 := Fr.nil n0
  have pre0 : Goes p e below s1 F0 s1 (mkF m 0 #[oR x1, oR a1] []) := fun t k => castTop (hF0.trans (by simp [entryFrame, mkF, argsToLocals, Value.category])) k
  obtain ⟨E_x1, F_value, F_coder, F_count, F_maybeLatin1, V_ab, hlu, nxa, g_x1, g_ab⟩ := (id (hS))
  obtain ⟨T1, X1, e1, st1⟩ := getS2 X0 hx hZ hown (host := "") (Or.inl (oV hw 65 rfl)) Via.refl e0 (hst.1.ext O0.2) (g := (mkF m 0 #[oR x1, oR a1] [])) rfl (hb hby D25_0)
  have pre2 : Goes p e below s1 F0 T1 (mkF m 3 #[oR x1, oR a1] [(.int cs)]) := fun t kt => pre0 t (st1 t kt)
  obtain ⟨T3, X3, e3, st3⟩ := getF X1 hx hZ hown (host := "") (Or.inl (oV hw 68 rfl)) Via.refl e1 F_coder (g := (mkF m 7 #[oR x1, oR a1] [(.ref x1)])) rfl rfl (hb hby D25_7)
  have pre4 : Goes p e below s1 F0 T3 (mkF m 10 #[oR x1, oR a1] [(.int 0)]) := fun t kt => pre2 t (by
    refine o_ifN X1 hx hby D25_3 ((if0 _ _).trans (feq hst.2.1).1) ?_
    refine o_al X1 hx hby D25_6 rfl ?_
    exact st3 t kt)
  obtain ⟨_, T5, L5, X5, hQ5, st5⟩ := o_cW (y := o_N10) (b := a1) (g := (mkF m 11 #[oR x1, oR a1] [(.ref a1), (.int 0)])) (as := []) (rest := [(.int 0)]) 1 X3 hx hZ hml hown (oV hw 107 rfl) (oV hw 88 rfl) (oV hw 87 rfl) (oV hw 89 rfl) (oV hw 4 rfl) (o_sco1 l Z a0 hw [] a1 cs fm h0 n0 Z0 Fc hst O0) e3 E_a1 o_pd8 (hb hby D25_11)
  obtain ⟨rfl, N5q, e5⟩ := hQ5
  have N5 := Fr.app N0 N5q
  have pre6 : Goes p e below s1 F0 T5 (mkF m 14 #[oR x1, oR a1] [(.int 1), (.int 0)]) := fun t kt => pre4 t (by
    refine o_al X3 hx hby D25_10 rfl ?_
    exact st5 t kt)
  obtain ⟨_, T7, L7, X7, hQ7, st7⟩ := o_cW (y := o_N36) (b := x1) (g := (mkF m 18 #[oR x1, oR a1] [(.ref x1)])) (as := []) (rest := []) 0 X5 hx hZ hml hown (oV hw 250 rfl) (oV hw 253 rfl) (oV hw 251 rfl) (oV hw 254 rfl) (oV hw 62 rfl) (o_inf0 l Z a0 hw [] x1 ab kb us cs fm h0 n0 Z0 hS hst O0) e5 E_x1 o_pd14 (hb hby D25_18)
  obtain ⟨rfl, N7q, K7q, Rest7⟩ := hQ7
  have N7 := Fr.app N5 N7q
  have KC7 : Keep h0 T7.heap [x1] := (Keep.refl h0 [x1]).trans K7q (allS (Or.inl (o_mG (i := 0) rfl)) all0)
  have pre8 : Goes p e below s1 F0 T7 (mkF m 21 #[oR x1, oR a1] []) := fun t kt => pre6 t (by
    refine o_icN X5 hx hby D25_14 (feq (by decide : ¬ ((0 : Int32) = (1 : Int32)))).1 ?_
    refine o_al X5 hx hby D25_17 rfl ?_
    exact st7 t kt)
  refine o_eV X7 Bd hx pre8 (hb hby D25_21) rfl ?_
  exact ⟨rfl, N7, KC7, Rest7⟩
def Q_o_gbUU (Z : State) (a1 y : Addr) (ky : ClassId) (vs : List Value) (ln : Nat) (ab : Addr) (kb : ClassId) (us : List Value) (cs : Int32) (fm : Value) (h0 : Heap) (n0 : Nat) (v : Option Value) (h : Heap) (L : List Loc) : Prop := v = none ∧ Fr n0 L ∧ Keep h0 h [ab] ∧ Arv Z h ab kb .byte (32 : Int32) (us.take 0 ++ vs ++ us.drop (0 + ln)) (.int 0)
theorem o_gbUU (l : Launch) (Z : State) (a0 : Array Value) (hw : ∀ d ∈ tables_1, d.before a0 Z = true) (ws : List Jvm.Cond) (a1 y : Addr) (ky : ClassId) (vs : List Value) (ln : Nat) (ab : Addr) (kb : ClassId) (us : List Value) (cs : Int32) (fm : Value) (h0 : Heap) (n0 : Nat) (Z0 : n0 ≤ h0.size) (E_a1 : Exa Z h0 a1 "java/lang/String") (Fc : Fld Z h0 a1 "java/lang/String" "coder" "B" (.int 1)) (Fv : Fld Z h0 a1 "java/lang/String" "value" "[B" (.ref y)) (V_y : Arv Z h0 y ky .byte (Int32.ofNat ln) vs (.int 0)) (V_ab : Arv Z h0 ab kb .byte (32 : Int32) us (.int 0)) (hlu : us.length = 32) (g_ab : n0 ≤ ab) (nya : y ≠ ab) (hlv : vs.length = ln) (hcl : ln ≤ 32) (hst : o_ST Z cs fm) (O0 : Old Z n0 h0) :
    o_MF l o_N26 oY8 4 none ws o_R27 #[(.ref a1), (.ref ab), (.int 0), (.int 1)] Z h0 (Q_o_gbUU Z a1 y ky vs ln ab kb us cs fm h0 n0) := by
  refine o_start (C := "java/lang/String") rfl (plainFor_of_name o_pn_o_sI0) fun p e s m below meth c s1 F0 Bd hx hby hml hown hnm hZ X0 e0 hF0 => ?_
  have N0 := Fr.nil n0
  have pre0 : Goes p e below s1 F0 s1 (mkF m 0 #[oR a1, oR ab, oI 0, oI 1] []) := fun t k => castTop (hF0.trans (by simp [entryFrame, mkF, argsToLocals, Value.category])) k
  obtain ⟨_, T1, L1, X1, hQ1, st1⟩ := o_cW (y := o_N10) (b := a1) (g := (mkF m 1 #[oR a1, oR ab, oI 0, oI 1] [(.ref a1)])) (as := []) (rest := []) 0 X0 hx hZ hml hown (oV hw 85 rfl) (oV hw 88 rfl) (oV hw 87 rfl) (oV hw 89 rfl) (oV hw 4 rfl) (o_sco1 l Z a0 hw [] a1 cs fm h0 n0 Z0 Fc hst O0) e0 E_a1 o_pd8 (hb hby D26_1)
  obtain ⟨rfl, N1q, e1⟩ := hQ1
  have N1 := Fr.app N0 N1q
  have pre2 : Goes p e below s1 F0 T1 (mkF m 4 #[oR a1, oR ab, oI 0, oI 1] [(.int 1)]) := fun t kt => pre0 t (by
    refine o_al X0 hx hby D26_0 rfl ?_
    exact st1 t kt)
  obtain ⟨T3, X3, e3, st3⟩ := getF X1 hx hZ hown (host := "") (Or.inl (oV hw 29 rfl)) Via.refl e1 Fv (g := (mkF m 9 #[oR a1, oR ab, oI 0, oI 1] [(.ref a1)])) rfl rfl (hb hby D26_9)
  have pre4 : Goes p e below s1 F0 T3 (mkF m 12 #[oR a1, oR ab, oI 0, oI 1] [(.ref y)]) := fun t kt => pre2 t (by
    refine o_il X1 hx hby D26_4 rfl ?_
    refine o_icN X1 hx hby D26_5 (teq (by decide : (1 : Int32) = (1 : Int32))).2 ?_
    refine o_al X1 hx hby D26_8 rfl ?_
    exact st3 t kt)
  have pre5 : Goes p e below s1 F0 T3 (mkF m 17 #[oR a1, oR ab, oI 0, oI 1] [(.int ((0 : Int32) <<< ((1 : Int32) &&& 31))), (.ref ab), (.int 0), (.ref y)]) := fun t kt => pre4 t (by
    refine o_ic X3 hx hby D26_12 ?_
    refine o_al X3 hx hby D26_13 rfl ?_
    refine o_il X3 hx hby D26_14 rfl ?_
    refine o_il X3 hx hby D26_15 rfl ?_
    refine XS.ishl X3.here hx rfl (hb hby D26_16) rfl ?_
    exact kt)
  rw [show ((0 : Int32) <<< ((1 : Int32) &&& 31)) = (0 : Int32) from (by decide)] at pre5
  obtain ⟨T6, X6, e6, st6⟩ := getF X3 hx hZ hown (host := "") (Or.inl (oV hw 29 rfl)) Via.refl e3 Fv (g := (mkF m 18 #[oR a1, oR ab, oI 0, oI 1] [(.ref a1), (.int 0), (.ref ab), (.int 0), (.ref y)])) rfl rfl (hb hby D26_18)
  have pre7 : Goes p e below s1 F0 T6 (mkF m 21 #[oR a1, oR ab, oI 0, oI 1] [(.ref y), (.int 0), (.ref ab), (.int 0), (.ref y)]) := fun t kt => pre5 t (by
    refine o_al X3 hx hby D26_17 rfl ?_
    exact st6 t kt)
  obtain ⟨cl8, Ar8, q8, S8, N_8, H8, G8⟩ := (id (V_y))
  obtain ⟨T9, h9, Lc9, X9, e9, N9, K9q, V9, st9⟩ := cpA X6 hx hZ hown (oV hw 113 rfl) (oV hw 116 rfl) (oV hw 114 rfl) (oV hw 115 rfl) e6 (sp := (0 : Int32)) (dp := (0 : Int32)) (nn := (Int32.ofNat ln)) (us := vs) V_y V_ab (Or.inl ⟨rfl, rfl⟩) (by decide) (by decide) (o_onn (by omega)) (by rw [o_oc (by omega)]; exact Nat.le_of_eq (Nat.zero_add _)) (by rw [o_oc (n := ln) (by omega)]; show _ ≤ 32; first | omega | (show 0 + ln ≤ _; omega)) (o_hus hlv (by omega)) (by rw [o_oc (n := ln) (by omega), hlu]; first | omega | (show 0 + ln ≤ _; omega)) N1 g_ab (g := (mkF m 22 #[oR a1, oR ab, oI 0, oI 1] [(.int (Int32.ofNat ln)), (.int 0), (.ref ab), (.int 0), (.ref y)])) rfl (by rw [hml]; rfl) rfl (hb hby D26_22) (by decide) (W := 0) (by show 2 * 0 + _ ≤ _; exact Nat.le_of_eq rfl) (by decide)
  have KC9 : Keep h0 h9 [ab] := (Keep.refl h0 [ab]).trans K9q (allS (Or.inl (o_mG (i := 0) rfl)) all0)
  have pre10 : Goes p e below s1 F0 T9 (mkF m 25 #[oR a1, oR ab, oI 0, oI 1] []) := fun t kt => pre7 t (by
    refine X6.arraylength hx (by (try rw [e6]); exact Ar8.1) (State.isArrayOf_alike hZ.alike Ar8.2.1) (g := (mkF m 21 #[oR a1, oR ab, oI 0, oI 1] [(.ref y), (.int 0), (.ref ab), (.int 0), (.ref y)])) rfl rfl (hb hby D26_21) _ ?_
    rw [len_of S8 N_8]
    exact st9 t kt)
  rw [show (0 : Int32).toNatClampNeg = 0 from rfl, o_oc (n := ln) (by omega)] at V9
  have pre11 : Goes p e below s1 F0 T9 (mkF m 43 #[oR a1, oR ab, oI 0, oI 1] []) := fun t kt => pre10 t (by
    refine o_gt 25 43 X9 hx hby D26_25 ?_
    exact kt)
  refine o_eV X9 Bd hx pre11 (hb hby D26_43) e9 ?_
  exact ⟨rfl, N9, KC9, V9⟩
def Q_o_pSLU (Z : State) (x1 ab : Addr) (kb : ClassId) (us : List Value) (a1 y : Addr) (ky : ClassId) (vs : List Value) (ln : Nat) (cs : Int32) (fm : Value) (h0 : Heap) (n0 : Nat) (v : Option Value) (h : Heap) (L : List Loc) : Prop := v = none ∧ Fr n0 L ∧ Keep h0 h [x1] ∧ ∃ (a2 : Addr) (k2 : ClassId), h0.size ≤ a2 ∧ o_SB Z h n0 x1 a2 k2 (o_Z32.take 0 ++ vs ++ o_Z32.drop (0 + 2 * ln)) 0 (1 : Int32) (32 : Int32) 32
theorem o_pSLU (l : Launch) (Z : State) (a0 : Array Value) (hw : ∀ d ∈ tables_1, d.before a0 Z = true) (ws : List Jvm.Cond) (x1 ab : Addr) (kb : ClassId) (us : List Value) (a1 y : Addr) (ky : ClassId) (vs : List Value) (ln : Nat) (cs : Int32) (fm : Value) (h0 : Heap) (n0 : Nat) (Z0 : n0 ≤ h0.size) (hS : o_SB Z h0 n0 x1 ab kb us 0 (0 : Int32) (16 : Int32) 16) (E_a1 : Exa Z h0 a1 "java/lang/String") (Fc : Fld Z h0 a1 "java/lang/String" "coder" "B" (.int 1)) (Fv : Fld Z h0 a1 "java/lang/String" "value" "[B" (.ref y)) (V_y : Arv Z h0 y ky .byte (Int32.ofNat (2 * ln)) vs (.int 0)) (nya : y ≠ ab) (nyx : y ≠ x1) (nax : a1 ≠ x1) (hlv : vs.length = 2 * ln) (hcl : 2 * ln ≤ 32) (hst : o_ST Z cs fm) (O0 : Old Z n0 h0) :
    o_MF l o_N27 oY54 3 none ws o_R38 #[(.ref x1), (.int 0), (.ref a1)] Z h0 (Q_o_pSLU Z x1 ab kb us a1 y ky vs ln cs fm h0 n0) := by
  refine o_start (C := "java/lang/AbstractStringBuilder") rfl (plainFor_of_name o_pn_o_ai) fun p e s m below meth c s1 F0 Bd hx hby hml hown hnm hZ X0 e0 hF0 => ?_
  have N0 := Fr.nil n0
  have pre0 : Goes p e below s1 F0 s1 (mkF m 0 #[oR x1, oI 0, oR a1] []) := fun t k => castTop (hF0.trans (by simp [entryFrame, mkF, argsToLocals, Value.category])) k
  obtain ⟨E_x1, F_value, F_coder, F_count, F_maybeLatin1, V_ab, hlu, nxa, g_x1, g_ab⟩ := (id (hS))
  obtain ⟨_, T1, L1, X1, hQ1, st1⟩ := o_cW (y := o_N25) (b := x1) (g := (mkF m 2 #[oR x1, oI 0, oR a1] [(.ref a1), (.ref x1)])) (as := [(.ref a1)]) (rest := []) 0 X0 hx hZ hml hown (oV hw 102 rfl) (oV hw 105 rfl) (oV hw 103 rfl) (oV hw 106 rfl) (oV hw 62 rfl) (o_ifn01 l Z a0 hw [] x1 ab kb us a1 cs fm h0 n0 Z0 hS E_a1 Fc hst O0) e0 E_x1 o_pd16 (hb hby D27_2)
  obtain ⟨rfl, N1q, K1q, a2, k2, za2, hT1⟩ := hQ1
  have N1 := Fr.app N0 N1q
  have KC1 : Keep h0 T1.heap [x1] := (Keep.refl h0 [x1]).trans K1q (allS (Or.inl (o_mG (i := 0) rfl)) all0)
  have pre2 : Goes p e below s1 F0 T1 (mkF m 5 #[oR x1, oI 0, oR a1] []) := fun t kt => pre0 t (by
    refine o_al X0 hx hby D27_0 rfl ?_
    refine o_al X0 hx hby D27_1 rfl ?_
    exact st1 t kt)
  obtain ⟨E_x1n, F_valuen, F_codern, F_countn, F_maybeLatin1n, V_abn, hlun, nxan, g_x1n, g_abn⟩ := (id (hT1))
  have g_a2 := g_abn
  have sz_a2 := za2
  have nya2 : y ≠ a2 := Nat.ne_of_lt (Nat.lt_of_lt_of_le V_y.lt za2)
  obtain ⟨T3, X3, e3, st3⟩ := getF X1 hx hZ hown (host := "") (Or.inl (oV hw 66 rfl)) Via.refl rfl F_valuen (g := (mkF m 7 #[oR x1, oI 0, oR a1] [(.ref x1), (.ref a1)])) rfl rfl (hb hby D27_7)
  have pre4 : Goes p e below s1 F0 T3 (mkF m 10 #[oR x1, oI 0, oR a1] [(.ref a2), (.ref a1)]) := fun t kt => pre2 t (by
    refine o_al X1 hx hby D27_5 rfl ?_
    refine o_al X1 hx hby D27_6 rfl ?_
    exact st3 t kt)
  obtain ⟨T5, X5, e5, st5⟩ := getF X3 hx hZ hown (host := "") (Or.inl (oV hw 68 rfl)) Via.refl e3 F_codern (g := (mkF m 12 #[oR x1, oI 0, oR a1] [(.ref x1), (.int 0), (.ref a2), (.ref a1)])) rfl rfl (hb hby D27_12)
  have pre6 : Goes p e below s1 F0 T5 (mkF m 15 #[oR x1, oI 0, oR a1] [(.int 1), (.int 0), (.ref a2), (.ref a1)]) := fun t kt => pre4 t (by
    refine o_il X3 hx hby D27_10 rfl ?_
    refine o_al X3 hx hby D27_11 rfl ?_
    exact st5 t kt)
  obtain ⟨_, T7, L7, X7, hQ7, st7⟩ := o_cW (y := o_N26) (b := a1) (g := (mkF m 15 #[oR x1, oI 0, oR a1] [(.int 1), (.int 0), (.ref a2), (.ref a1)])) (as := [(.ref a2), (.int 0), (.int 1)]) (rest := []) 0 X5 hx hZ hml hown (oV hw 108 rfl) (oV hw 111 rfl) (oV hw 110 rfl) (oV hw 112 rfl) (oV hw 4 rfl) (o_gbUU l Z a0 hw [] a1 y ky vs (2 * ln) a2 k2 o_Z32 cs fm T1.heap n0 (Nat.le_trans Z0 KC1.1) (E_a1.keep K1q) (Fc.keep K1q (ninS nax nin0)) (Fv.keep K1q (ninS nax nin0)) (V_y.keep K1q (ninS nyx nin0)) V_abn rfl g_a2 nya2 hlv hcl hst (O0.keep K1q (allS g_x1 all0))) e5 (E_a1.keep K1q) o_pd17 (hb hby D27_15)
  obtain ⟨rfl, N7q, K7q, Vz7⟩ := hQ7
  have N7 := Fr.app N1 N7q
  have KC7 : Keep h0 T7.heap [x1] := KC1.trans K7q (allS (Or.inr sz_a2) all0)
  have pre8 : Goes p e below s1 F0 T7 (mkF m 18 #[oR x1, oI 0, oR a1] []) := fun t kt => pre6 t (st7 t kt)
  refine o_eV X7 Bd hx pre8 (hb hby D27_18) rfl ?_
  exact ⟨rfl, N7, KC7, a2, k2, za2, ⟨(E_x1n.keep K7q), (F_valuen.keep K7q (ninS nxan nin0)), (F_codern.keep K7q (ninS nxan nin0)), (F_countn.keep K7q (ninS nxan nin0)), (F_maybeLatin1n.keep K7q (ninS nxan nin0)), Vz7, (o_lenC rfl hlv (by omega)), nxan, g_x1, g_a2⟩⟩
def Q_o_aSLU (Z : State) (x1 ab : Addr) (kb : ClassId) (us : List Value) (a1 y : Addr) (ky : ClassId) (vs : List Value) (ln : Nat) (cs : Int32) (fm : Value) (h0 : Heap) (n0 : Nat) (v : Option Value) (h : Heap) (L : List Loc) : Prop := v = some (.ref x1) ∧ Fr n0 L ∧ Keep h0 h [x1] ∧ ∃ (a2 : Addr) (k2 : ClassId), h0.size ≤ a2 ∧ o_SB Z h n0 x1 a2 k2 (o_Z32.take 0 ++ vs ++ o_Z32.drop (0 + 2 * ln)) ln (1 : Int32) (32 : Int32) 32
theorem o_aSLU (l : Launch) (Z : State) (a0 : Array Value) (hw : ∀ d ∈ tables_1, d.before a0 Z = true) (ws : List Jvm.Cond) (x1 ab : Addr) (kb : ClassId) (us : List Value) (a1 y : Addr) (ky : ClassId) (vs : List Value) (ln : Nat) (cs : Int32) (fm : Value) (h0 : Heap) (n0 : Nat) (Z0 : n0 ≤ h0.size) (hS : o_SB Z h0 n0 x1 ab kb us 0 (0 : Int32) (16 : Int32) 16) (E_a1 : Exa Z h0 a1 "java/lang/String") (Fc : Fld Z h0 a1 "java/lang/String" "coder" "B" (.int 1)) (Fv : Fld Z h0 a1 "java/lang/String" "value" "[B" (.ref y)) (V_y : Arv Z h0 y ky .byte (Int32.ofNat (2 * ln)) vs (.int 0)) (nya : y ≠ ab) (nyx : y ≠ x1) (nax : a1 ≠ x1) (hlv : vs.length = 2 * ln) (hcl : 2 * ln ≤ 32) (hst : o_ST Z cs fm) (O0 : Old Z n0 h0) :
    o_MF l o_N28 oY47 3 (some (.object "java/lang/AbstractStringBuilder")) ws o_R39 #[(.ref x1), (.ref a1)] Z h0 (Q_o_aSLU Z x1 ab kb us a1 y ky vs ln cs fm h0 n0) := by
  refine o_start (C := "java/lang/AbstractStringBuilder") rfl (plainFor_of_name o_pn_o_ai) fun p e s m below meth c s1 F0 Bd hx hby hml hown hnm hZ X0 e0 hF0 => ?_
  have N0 := Fr.nil n0
  have pre0 : Goes p e below s1 F0 s1 (mkF m 0 #[oR x1, oR a1, oU] []) := fun t k => castTop (hF0.trans (by simp [entryFrame, mkF, argsToLocals, Value.category])) k
  obtain ⟨E_x1, F_value, F_coder, F_count, F_maybeLatin1, V_ab, hlu, nxa, g_x1, g_ab⟩ := (id (hS))
  obtain ⟨_, T1, L1, X1, hQ1, st1⟩ := o_cW (y := o_N11) (b := a1) (g := (mkF m 10 #[oR x1, oR a1, oU] [(.ref a1)])) (as := []) (rest := []) 0 X0 hx hZ hml hown (oV hw 80 rfl) (oV hw 83 rfl) (oV hw 82 rfl) (oV hw 84 rfl) (oV hw 4 rfl) (o_sle l Z a0 hw [] a1 (1 : Int32) y (Int32.ofNat ln) cs fm h0 n0 Z0 E_a1 Fc Fv (Or.inr ⟨rfl, _, o_Ln.of V_y, o_ohr (by omega)⟩) hst O0) e0 E_a1 o_pd18 (hb hby D28_10)
  obtain ⟨rfl, N1q, e1⟩ := hQ1
  have N1 := Fr.app N0 N1q
  have pre2 : Goes p e below s1 F0 T1 (mkF m 13 #[oR x1, oR a1, oU] [(.int (Int32.ofNat ln))]) := fun t kt => pre0 t (by
    refine o_al X0 hx hby D28_0 rfl ?_
    refine XS.ifnonnullYes X0.here hx rfl (pc0 := 1) (pc' := 9) rfl (hb hby D28_1) rfl (by decide) (by decide) ?_
    refine o_al X0 hx hby D28_9 rfl ?_
    exact st1 t kt)
  obtain ⟨T3, X3, e3, st3⟩ := getF X1 hx hZ hown (host := "") (Or.inl (oV hw 90 rfl)) Via.refl e1 F_count (g := (mkF m 16 #[oR x1, oR a1, oI (Int32.ofNat ln)] [(.ref x1), (.ref x1)])) rfl rfl (hb hby D28_16)
  have pre4 : Goes p e below s1 F0 T3 (mkF m 19 #[oR x1, oR a1, oI (Int32.ofNat ln)] [(.int 0), (.ref x1)]) := fun t kt => pre2 t (by
    refine XS.istoreN X1.here hx rfl (hb hby D28_13) rfl (l' := #[oR x1, oR a1, oI (Int32.ofNat ln)]) rfl ?_
    refine o_al X1 hx hby D28_14 rfl ?_
    refine o_al X1 hx hby D28_15 rfl ?_
    exact st3 t kt)
  have pre5 : Goes p e below s1 F0 T3 (mkF m 21 #[oR x1, oR a1, oI (Int32.ofNat ln)] [(.int ((0 : Int32) + (Int32.ofNat ln))), (.ref x1)]) := fun t kt => pre4 t (by
    refine o_il X3 hx hby D28_19 rfl ?_
    refine XS.iadd X3.here hx rfl (hb hby D28_20) rfl ?_
    exact kt)
  rw [show ((0 : Int32) + (Int32.ofNat ln)) = (Int32.ofNat ln) from Int32.zero_add _] at pre5
  obtain ⟨_, T6, L6, X6, hQ6, st6⟩ := o_cW (y := o_N24) (b := x1) (g := (mkF m 21 #[oR x1, oR a1, oI (Int32.ofNat ln)] [(.int (Int32.ofNat ln)), (.ref x1)])) (as := [(.int (Int32.ofNat ln))]) (rest := []) 0 X3 hx hZ hml hown (oV hw 92 rfl) (oV hw 95 rfl) (oV hw 93 rfl) (oV hw 96 rfl) (oV hw 62 rfl) (o_ens0 l Z a0 hw [] x1 ab kb us 0 (Int32.ofNat ln) h0 n0 Z0 hS (o_ens (by omega))) e3 E_x1 o_pd15 (hb hby D28_21)
  obtain ⟨rfl, N6q, e6⟩ := hQ6
  have N6 := Fr.app N1 N6q
  have pre7 : Goes p e below s1 F0 T6 (mkF m 24 #[oR x1, oR a1, oI (Int32.ofNat ln)] []) := fun t kt => pre5 t (st6 t kt)
  obtain ⟨T8, X8, e8, st8⟩ := getF X6 hx hZ hown (host := "") (Or.inl (oV hw 90 rfl)) Via.refl e6 F_count (g := (mkF m 26 #[oR x1, oR a1, oI (Int32.ofNat ln)] [(.ref x1), (.ref x1)])) rfl rfl (hb hby D28_26)
  have pre9 : Goes p e below s1 F0 T8 (mkF m 29 #[oR x1, oR a1, oI (Int32.ofNat ln)] [(.int 0), (.ref x1)]) := fun t kt => pre7 t (by
    refine o_al X6 hx hby D28_24 rfl ?_
    refine o_al X6 hx hby D28_25 rfl ?_
    exact st8 t kt)
  obtain ⟨_, T10, L10, X10, hQ10, st10⟩ := o_cW (y := o_N27) (b := x1) (g := (mkF m 30 #[oR x1, oR a1, oI (Int32.ofNat ln)] [(.ref a1), (.int 0), (.ref x1)])) (as := [(.int 0), (.ref a1)]) (rest := []) 0 X8 hx hZ hml hown (oV hw 97 rfl) (oV hw 100 rfl) (oV hw 98 rfl) (oV hw 101 rfl) (oV hw 62 rfl) (o_pSLU l Z a0 hw [] x1 ab kb us a1 y ky vs ln cs fm h0 n0 Z0 hS E_a1 Fc Fv V_y nya nyx nax hlv hcl hst O0) e8 E_x1 o_pd19 (hb hby D28_30)
  obtain ⟨rfl, N10q, K10q, a2, k2, za2, hT10⟩ := hQ10
  have N10 := Fr.app N6 N10q
  have KC10 : Keep h0 T10.heap [x1] := (Keep.refl h0 [x1]).trans K10q (allS (Or.inl (o_mG (i := 0) rfl)) all0)
  have pre11 : Goes p e below s1 F0 T10 (mkF m 33 #[oR x1, oR a1, oI (Int32.ofNat ln)] []) := fun t kt => pre9 t (by
    refine o_al X8 hx hby D28_29 rfl ?_
    exact st10 t kt)
  obtain ⟨E_x1n, F_valuen, F_codern, F_countn, F_maybeLatin1n, V_abn, hlun, nxan, g_x1n, g_abn⟩ := (id (hT10))
  have g_a2 := g_abn
  have sz_a2 := za2
  obtain ⟨T12, X12, e12, st12⟩ := getF X10 hx hZ hown (host := "") (Or.inl (oV hw 90 rfl)) Via.refl rfl F_countn (g := (mkF m 35 #[oR x1, oR a1, oI (Int32.ofNat ln)] [(.ref x1), (.ref x1)])) rfl rfl (hb hby D28_35)
  have pre13 : Goes p e below s1 F0 T12 (mkF m 38 #[oR x1, oR a1, oI (Int32.ofNat ln)] [(.int 0), (.ref x1)]) := fun t kt => pre11 t (by
    refine o_al X10 hx hby D28_33 rfl ?_
    refine XS.dup X10.here hx rfl (hb hby D28_34) rfl rfl ?_
    exact st12 t kt)
  have pre14 : Goes p e below s1 F0 T12 (mkF m 40 #[oR x1, oR a1, oI (Int32.ofNat ln)] [(.int ((0 : Int32) + (Int32.ofNat ln))), (.ref x1)]) := fun t kt => pre13 t (by
    refine o_il X12 hx hby D28_38 rfl ?_
    refine XS.iadd X12.here hx rfl (hb hby D28_39) rfl ?_
    exact kt)
  rw [show ((0 : Int32) + (Int32.ofNat ln)) = (Int32.ofNat ln) from Int32.zero_add _] at pre14
  obtain ⟨T15, h15, X15, e15, W15, st15⟩ := putF X12 hx hZ hown (host := "") (Or.inl (oV hw 90 rfl)) Via.refl e12 F_countn E_x1n (Or.inl (oV hw 91 rfl)) (oV hw 53 rfl) (ty := .int) (by decide) rfl rfl (g := (mkF m 40 #[oR x1, oR a1, oI (Int32.ofNat ln)] [(.int (Int32.ofNat ln)), (.ref x1)])) rfl rfl (hb hby D28_40)
  have Fw15 := F_countn.same W15
  have K15 : Keep h0 h15 [x1] := KC10.wr W15 (Or.inl (o_mG (i := 0) rfl))
  have N15 := Fr.snoc X15 N10 g_x1
  have pre16 : Goes p e below s1 F0 T15 (mkF m 43 #[oR x1, oR a1, oI (Int32.ofNat ln)] []) := fun t kt => pre14 t (st15 t kt)
  have pre17 : Goes p e below s1 F0 T15 (mkF m 44 #[oR x1, oR a1, oI (Int32.ofNat ln)] [(.ref x1)]) := fun t kt => pre16 t (by
    refine o_al X15 hx hby D28_43 rfl ?_
    exact kt)
  refine o_eR X15 Bd hx pre17 (hb hby D28_44) e15 ?_
  exact ⟨rfl, N15, K15, a2, k2, za2, ⟨(E_x1n.wr W15), (F_valuen.other W15 (Or.inr (slot_ne (Or.inl (oV hw 67 rfl)) (Or.inl (oV hw 91 rfl)) (by decide) (t := (.array .byte)) (t' := .int) (by decide) (by decide)))), (F_codern.other W15 (Or.inr (slot_ne (Or.inl (oV hw 69 rfl)) (Or.inl (oV hw 91 rfl)) (by decide) (t := .byte) (t' := .int) (by decide) (by decide)))), Fw15, (F_maybeLatin1n.other W15 (Or.inr (slot_ne (Or.inl (oV hw 293 rfl)) (Or.inl (oV hw 91 rfl)) (by decide) (t := .boolean) (t' := .int) (by decide) (by decide)))), (V_abn.other W15 (Ne.symm nxan)), hlun, nxan, g_x1, g_abn⟩⟩
def Q_o_bSLU (Z : State) (x1 ab : Addr) (kb : ClassId) (us : List Value) (a1 y : Addr) (ky : ClassId) (vs : List Value) (ln : Nat) (cs : Int32) (fm : Value) (h0 : Heap) (n0 : Nat) (v : Option Value) (h : Heap) (L : List Loc) : Prop := v = some (.ref x1) ∧ Fr n0 L ∧ Keep h0 h [x1] ∧ ∃ (a2 : Addr) (k2 : ClassId), h0.size ≤ a2 ∧ o_SB Z h n0 x1 a2 k2 (o_Z32.take 0 ++ vs ++ o_Z32.drop (0 + 2 * ln)) ln (1 : Int32) (32 : Int32) 32
theorem o_bSLU (l : Launch) (Z : State) (a0 : Array Value) (hw : ∀ d ∈ tables_1, d.before a0 Z = true) (ws : List Jvm.Cond) (x1 ab : Addr) (kb : ClassId) (us : List Value) (a1 y : Addr) (ky : ClassId) (vs : List Value) (ln : Nat) (cs : Int32) (fm : Value) (h0 : Heap) (n0 : Nat) (Z0 : n0 ≤ h0.size) (hS : o_SB Z h0 n0 x1 ab kb us 0 (0 : Int32) (16 : Int32) 16) (E_a1 : Exa Z h0 a1 "java/lang/String") (Fc : Fld Z h0 a1 "java/lang/String" "coder" "B" (.int 1)) (Fv : Fld Z h0 a1 "java/lang/String" "value" "[B" (.ref y)) (V_y : Arv Z h0 y ky .byte (Int32.ofNat (2 * ln)) vs (.int 0)) (nya : y ≠ ab) (nyx : y ≠ x1) (nax : a1 ≠ x1) (hlv : vs.length = 2 * ln) (hcl : 2 * ln ≤ 32) (hst : o_ST Z cs fm) (O0 : Old Z n0 h0) :
    o_MF l o_N29 oY44 2 (some (.object "java/lang/StringBuilder")) ws o_R40 #[(.ref x1), (.ref a1)] Z h0 (Q_o_bSLU Z x1 ab kb us a1 y ky vs ln cs fm h0 n0) := by
  refine o_start (C := "java/lang/StringBuilder") rfl (plainFor_of_name o_pn_o_bi) fun p e s m below meth c s1 F0 Bd hx hby hml hown hnm hZ X0 e0 hF0 => ?_
  have N0 := Fr.nil n0
  have pre0 : Goes p e below s1 F0 s1 (mkF m 0 #[oR x1, oR a1] []) := fun t k => castTop (hF0.trans (by simp [entryFrame, mkF, argsToLocals, Value.category])) k
  obtain ⟨E_x1, F_value, F_coder, F_count, F_maybeLatin1, V_ab, hlu, nxa, g_x1, g_ab⟩ := (id (hS))
  obtain ⟨_, T1, L1, X1, hQ1, st1⟩ := o_cU (y := o_N28) (y2 := o_N24) (b := x1) (g := (mkF m 2 #[oR x1, oR a1] [(.ref a1), (.ref x1)])) (as := [(.ref a1)]) (rest := []) 0 X0 hx hZ hml hown (oV hw 75 rfl) (oV hw 95 rfl) (oV hw 76 rfl) (oV hw 77 rfl) (oV hw 79 rfl) (oV hw 62 rfl) (o_aSLU l Z a0 hw [] x1 ab kb us a1 y ky vs ln cs fm h0 n0 Z0 hS E_a1 Fc Fv V_y nya nyx nax hlv hcl hst O0) e0 E_x1 o_pd20 (hb hby D29_2)
  obtain ⟨rfl, N1q, K1q, Rest1⟩ := hQ1
  have N1 := Fr.app N0 N1q
  have KC1 : Keep h0 T1.heap [x1] := (Keep.refl h0 [x1]).trans K1q (allS (Or.inl (o_mG (i := 0) rfl)) all0)
  have pre2 : Goes p e below s1 F0 T1 (mkF m 5 #[oR x1, oR a1] [(.ref x1)]) := fun t kt => pre0 t (by
    refine o_al X0 hx hby D29_0 rfl ?_
    refine o_al X0 hx hby D29_1 rfl ?_
    exact st1 t kt)
  have pre3 : Goes p e below s1 F0 T1 (mkF m 7 #[oR x1, oR a1] [(.ref x1)]) := fun t kt => pre2 t (by
    refine XS.pop X1.here hx rfl (hb hby D29_5) rfl rfl ?_
    refine o_al X1 hx hby D29_6 rfl ?_
    exact kt)
  refine o_eR X1 Bd hx pre3 (hb hby D29_7) rfl ?_
  exact ⟨rfl, N1, KC1, Rest1⟩
def Q_o_ens1 (Z : State) (x1 ab : Addr) (kb : ClassId) (us : List Value) (cc : Nat) (nd : Int32) (h0 : Heap) (n0 : Nat) (v : Option Value) (h : Heap) (L : List Loc) : Prop := v = none ∧ Fr n0 L ∧ h = h0
theorem o_ens1 (l : Launch) (Z : State) (a0 : Array Value) (hw : ∀ d ∈ tables_1, d.before a0 Z = true) (ws : List Jvm.Cond) (x1 ab : Addr) (kb : ClassId) (us : List Value) (cc : Nat) (nd : Int32) (h0 : Heap) (n0 : Nat) (Z0 : n0 ≤ h0.size) (hS : o_SB Z h0 n0 x1 ab kb us cc (1 : Int32) (32 : Int32) 32) (hnd : ¬ ((0 : Int32) < (nd - (16 : Int32)))) :
    o_MF l o_N24 oY55 3 none ws o_R2 #[(.ref x1), (.int nd)] Z h0 (Q_o_ens1 Z x1 ab kb us cc nd h0 n0) := by
  refine o_start (C := "java/lang/AbstractStringBuilder") rfl (plainFor_of_name o_pn_o_ai) fun p e s m below meth c s1 F0 Bd hx hby hml hown hnm hZ X0 e0 hF0 => ?_
  have N0 := Fr.nil n0
  have pre0 : Goes p e below s1 F0 s1 (mkF m 0 #[oR x1, oI nd, oU] []) := fun t k => castTop (hF0.trans (by simp [entryFrame, mkF, argsToLocals, Value.category])) k
  obtain ⟨E_x1, F_value, F_coder, F_count, F_maybeLatin1, V_ab, hlu, nxa, g_x1, g_ab⟩ := (id (hS))
  obtain ⟨T1, X1, e1, st1⟩ := getF X0 hx hZ hown (host := "") (Or.inl (oV hw 66 rfl)) Via.refl e0 F_value (g := (mkF m 1 #[oR x1, oI nd, oU] [(.ref x1)])) rfl rfl (hb hby D24_1)
  have pre2 : Goes p e below s1 F0 T1 (mkF m 4 #[oR x1, oI nd, oU] [(.ref ab)]) := fun t kt => pre0 t (by
    refine o_al X0 hx hby D24_0 rfl ?_
    exact st1 t kt)
  obtain ⟨cl3, Ar3, q3, S3, N_3, H3, G3⟩ := (id (V_ab))
  obtain ⟨T4, X4, e4, st4⟩ := getF X1 hx hZ hown (host := "") (Or.inl (oV hw 68 rfl)) Via.refl e1 F_coder (g := (mkF m 6 #[oR x1, oI nd, oU] [(.ref x1), (.int 32)])) rfl rfl (hb hby D24_6)
  have pre5 : Goes p e below s1 F0 T4 (mkF m 9 #[oR x1, oI nd, oU] [(.int 1), (.int 32)]) := fun t kt => pre2 t (by
    refine X1.arraylength hx (by (try rw [e1]); exact Ar3.1) (State.isArrayOf_alike hZ.alike Ar3.2.1) (g := (mkF m 4 #[oR x1, oI nd, oU] [(.ref ab)])) rfl rfl (hb hby D24_4) _ ?_
    rw [len_of S3 N_3]
    refine o_al X1 hx hby D24_5 rfl ?_
    exact st4 t kt)
  have pre6 : Goes p e below s1 F0 T4 (mkF m 10 #[oR x1, oI nd, oU] [(.int ((32 : Int32) >>> ((1 : Int32) &&& 31)))]) := fun t kt => pre5 t (by
    refine XS.ishr X4.here hx rfl (hb hby D24_9) rfl ?_
    exact kt)
  rw [show ((32 : Int32) >>> ((1 : Int32) &&& 31)) = (16 : Int32) from (by decide)] at pre6
  have pre7 : Goes p e below s1 F0 T4 (mkF m 38 #[oR x1, oI nd, oI 16] []) := fun t kt => pre6 t (by
    refine XS.istoreN X4.here hx rfl (hb hby D24_10) rfl (l' := #[oR x1, oI nd, oI 16]) rfl ?_
    refine o_il X4 hx hby D24_11 rfl ?_
    refine o_il X4 hx hby D24_12 rfl ?_
    refine XS.isub X4.here hx rfl (hb hby D24_13) rfl ?_
    refine o_ifY 14 38 X4 hx hby D24_14 ((if0 _ _).trans (flt hnd).2.2.2) ?_
    exact kt)
  refine o_eV X4 Bd hx pre7 (hb hby D24_38) e4 ?_
  exact ⟨rfl, N0, rfl⟩
theorem D30_17 : decode oY51 17 = .ok (.iconst 0, 1) := by decide +kernel
def Q_o_isl1 (Z : State) (x1 ab : Addr) (kb : ClassId) (us : List Value) (cc : Nat) (cs : Int32) (fm : Value) (h0 : Heap) (n0 : Nat) (v : Option Value) (h : Heap) (L : List Loc) : Prop := v = some (.int 0) ∧ Fr n0 L ∧ h = h0
theorem o_isl1 (l : Launch) (Z : State) (a0 : Array Value) (hw : ∀ d ∈ tables_1, d.before a0 Z = true) (ws : List Jvm.Cond) (x1 ab : Addr) (kb : ClassId) (us : List Value) (cc : Nat) (cs : Int32) (fm : Value) (h0 : Heap) (n0 : Nat) (Z0 : n0 ≤ h0.size) (hS : o_SB Z h0 n0 x1 ab kb us cc (1 : Int32) (32 : Int32) 32) (hst : o_ST Z cs fm) (O0 : Old Z n0 h0) :
    o_MF l o_N30 oY51 1 (some .boolean) ws o_R2 #[(.ref x1)] Z h0 (Q_o_isl1 Z x1 ab kb us cc cs fm h0 n0) := by
  refine o_start (C := "java/lang/AbstractStringBuilder") rfl (plainFor_of_name o_pn_o_ai) fun p e s m below meth c s1 F0 Bd hx hby hml hown hnm hZ X0 e0 hF0 => ?_
  have N0 := Fr.nil n0
  have pre0 : Goes p e below s1 F0 s1 (mkF m 0 #[oR x1] []) := fun t k => castTop (hF0.trans (by simp [entryFrame, mkF, argsToLocals, Value.category])) k
  obtain ⟨E_x1, F_value, F_coder, F_count, F_maybeLatin1, V_ab, hlu, nxa, g_x1, g_ab⟩ := (id (hS))
  obtain ⟨T1, X1, e1, st1⟩ := getS2 X0 hx hZ hown (host := "") (Or.inl (oV hw 65 rfl)) Via.refl e0 (hst.1.ext O0.2) (g := (mkF m 0 #[oR x1] [])) rfl (hb hby D30_0)
  have pre2 : Goes p e below s1 F0 T1 (mkF m 3 #[oR x1] [(.int cs)]) := fun t kt => pre0 t (st1 t kt)
  obtain ⟨T3, X3, e3, st3⟩ := getF X1 hx hZ hown (host := "") (Or.inl (oV hw 68 rfl)) Via.refl e1 F_coder (g := (mkF m 7 #[oR x1] [(.ref x1)])) rfl rfl (hb hby D30_7)
  have pre4 : Goes p e below s1 F0 T3 (mkF m 10 #[oR x1] [(.int 1)]) := fun t kt => pre2 t (by
    refine o_ifN X1 hx hby D30_3 ((if0 _ _).trans (feq hst.2.1).1) ?_
    refine o_al X1 hx hby D30_6 rfl ?_
    exact st3 t kt)
  have pre5 : Goes p e below s1 F0 T3 (mkF m 18 #[oR x1] [(.int 0)]) := fun t kt => pre4 t (by
    refine o_ifY 10 17 X3 hx hby D30_10 ((if0 _ _).trans (feq (by decide : ¬ ((1 : Int32) = (0 : Int32)))).2) ?_
    refine o_ic X3 hx hby D30_17 ?_
    exact kt)
  refine o_eN X3 Bd hx pre5 (hb hby D30_18) e3 ?_
  exact ⟨rfl, N0, rfl⟩
theorem D36_7 : decode oY46 7 = .ok (.return_, 1) := by decide +kernel
def Q_o_inf1 (Z : State) (x1 ab : Addr) (kb : ClassId) (us : List Value) (cc : Nat) (cs : Int32) (fm : Value) (h0 : Heap) (n0 : Nat) (v : Option Value) (h : Heap) (L : List Loc) : Prop := v = none ∧ Fr n0 L ∧ h = h0
theorem o_inf1 (l : Launch) (Z : State) (a0 : Array Value) (hw : ∀ d ∈ tables_1, d.before a0 Z = true) (ws : List Jvm.Cond) (x1 ab : Addr) (kb : ClassId) (us : List Value) (cc : Nat) (cs : Int32) (fm : Value) (h0 : Heap) (n0 : Nat) (Z0 : n0 ≤ h0.size) (hS : o_SB Z h0 n0 x1 ab kb us cc (1 : Int32) (32 : Int32) 32) (hst : o_ST Z cs fm) (O0 : Old Z n0 h0) :
    o_MF l o_N36 oY46 2 none ws o_R23 #[(.ref x1)] Z h0 (Q_o_inf1 Z x1 ab kb us cc cs fm h0 n0) := by
  refine o_start (C := "java/lang/AbstractStringBuilder") rfl (plainFor_of_name o_pn_o_ai) fun p e s m below meth c s1 F0 Bd hx hby hml hown hnm hZ X0 e0 hF0 => ?_
  have N0 := Fr.nil n0
  have pre0 : Goes p e below s1 F0 s1 (mkF m 0 #[oR x1, oU] []) := fun t k => castTop (hF0.trans (by simp [entryFrame, mkF, argsToLocals, Value.category])) k
  obtain ⟨E_x1, F_value, F_coder, F_count, F_maybeLatin1, V_ab, hlu, nxa, g_x1, g_ab⟩ := (id (hS))
  obtain ⟨_, T1, L1, X1, hQ1, st1⟩ := o_cW (y := o_N30) (b := x1) (g := (mkF m 1 #[oR x1, oU] [(.ref x1)])) (as := []) (rest := []) 0 X0 hx hZ hml hown (oV hw 133 rfl) (oV hw 136 rfl) (oV hw 135 rfl) (oV hw 137 rfl) (oV hw 62 rfl) (o_isl1 l Z a0 hw [] x1 ab kb us cc cs fm h0 n0 Z0 hS hst O0) e0 E_x1 o_pd13 (hb hby D36_1)
  obtain ⟨rfl, N1q, e1⟩ := hQ1
  have N1 := Fr.app N0 N1q
  have pre2 : Goes p e below s1 F0 T1 (mkF m 4 #[oR x1, oU] [(.int 0)]) := fun t kt => pre0 t (by
    refine o_al X0 hx hby D36_0 rfl ?_
    exact st1 t kt)
  have pre3 : Goes p e below s1 F0 T1 (mkF m 7 #[oR x1, oU] []) := fun t kt => pre2 t (by
    refine o_ifN X1 hx hby D36_4 ((if0 _ _).trans (teq (by decide : (0 : Int32) = (0 : Int32))).2) ?_
    exact kt)
  refine o_eV X1 Bd hx pre3 (hb hby D36_7) e1 ?_
  exact ⟨rfl, N1, rfl⟩
def Q_o_ifn10 (Z : State) (x1 ab : Addr) (kb : ClassId) (us : List Value) (cc : Nat) (a1 : Addr) (cs : Int32) (fm : Value) (h0 : Heap) (n0 : Nat) (v : Option Value) (h : Heap) (L : List Loc) : Prop := v = none ∧ Fr n0 L ∧ h = h0
theorem o_ifn10 (l : Launch) (Z : State) (a0 : Array Value) (hw : ∀ d ∈ tables_1, d.before a0 Z = true) (ws : List Jvm.Cond) (x1 ab : Addr) (kb : ClassId) (us : List Value) (cc : Nat) (a1 : Addr) (cs : Int32) (fm : Value) (h0 : Heap) (n0 : Nat) (Z0 : n0 ≤ h0.size) (hS : o_SB Z h0 n0 x1 ab kb us cc (1 : Int32) (32 : Int32) 32) (E_a1 : Exa Z h0 a1 "java/lang/String") (Fc : Fld Z h0 a1 "java/lang/String" "coder" "B" (.int 0)) (hst : o_ST Z cs fm) (O0 : Old Z n0 h0) :
    o_MF l o_N25 oY53 2 none ws o_R41 #[(.ref x1), (.ref a1)] Z h0 (Q_o_ifn10 Z x1 ab kb us cc a1 cs fm h0 n0) := by
  refine o_start (C := "java/lang/AbstractStringBuilder") rfl (plainFor_of_name o_pn_o_ai) fun p e s m below meth c s1 F0 Bd hx hby hml hown hnm hZ X0 e0 hF0 => ?_
  have N0 := Fr.nil n0
  have pre0 : Goes p e below s1 F0 s1 (mkF m 0 #[oR x1, oR a1] []) := fun t k => castTop (hF0.trans (by simp [entryFrame, mkF, argsToLocals, Value.category])) k
  obtain ⟨E_x1, F_value, F_coder, F_count, F_maybeLatin1, V_ab, hlu, nxa, g_x1, g_ab⟩ := (id (hS))
  obtain ⟨T1, X1, e1, st1⟩ := getS2 X0 hx hZ hown (host := "") (Or.inl (oV hw 65 rfl)) Via.refl e0 (hst.1.ext O0.2) (g := (mkF m 0 #[oR x1, oR a1] [])) rfl (hb hby D25_0)
  have pre2 : Goes p e below s1 F0 T1 (mkF m 3 #[oR x1, oR a1] [(.int cs)]) := fun t kt => pre0 t (st1 t kt)
  obtain ⟨T3, X3, e3, st3⟩ := getF X1 hx hZ hown (host := "") (Or.inl (oV hw 68 rfl)) Via.refl e1 F_coder (g := (mkF m 7 #[oR x1, oR a1] [(.ref x1)])) rfl rfl (hb hby D25_7)
  have pre4 : Goes p e below s1 F0 T3 (mkF m 10 #[oR x1, oR a1] [(.int 1)]) := fun t kt => pre2 t (by
    refine o_ifN X1 hx hby D25_3 ((if0 _ _).trans (feq hst.2.1).1) ?_
    refine o_al X1 hx hby D25_6 rfl ?_
    exact st3 t kt)
  obtain ⟨_, T5, L5, X5, hQ5, st5⟩ := o_cW (y := o_N10) (b := a1) (g := (mkF m 11 #[oR x1, oR a1] [(.ref a1), (.int 1)])) (as := []) (rest := [(.int 1)]) 1 X3 hx hZ hml hown (oV hw 107 rfl) (oV hw 88 rfl) (oV hw 87 rfl) (oV hw 89 rfl) (oV hw 4 rfl) (o_sco0 l Z a0 hw [] a1 cs fm h0 n0 Z0 Fc hst O0) e3 E_a1 o_pd8 (hb hby D25_11)
  obtain ⟨rfl, N5q, e5⟩ := hQ5
  have N5 := Fr.app N0 N5q
  have pre6 : Goes p e below s1 F0 T5 (mkF m 14 #[oR x1, oR a1] [(.int 0), (.int 1)]) := fun t kt => pre4 t (by
    refine o_al X3 hx hby D25_10 rfl ?_
    exact st5 t kt)
  obtain ⟨_, T7, L7, X7, hQ7, st7⟩ := o_cW (y := o_N36) (b := x1) (g := (mkF m 18 #[oR x1, oR a1] [(.ref x1)])) (as := []) (rest := []) 0 X5 hx hZ hml hown (oV hw 250 rfl) (oV hw 253 rfl) (oV hw 251 rfl) (oV hw 254 rfl) (oV hw 62 rfl) (o_inf1 l Z a0 hw [] x1 ab kb us cc cs fm h0 n0 Z0 hS hst O0) e5 E_x1 o_pd14 (hb hby D25_18)
  obtain ⟨rfl, N7q, e7⟩ := hQ7
  have N7 := Fr.app N5 N7q
  have pre8 : Goes p e below s1 F0 T7 (mkF m 21 #[oR x1, oR a1] []) := fun t kt => pre6 t (by
    refine o_icN X5 hx hby D25_14 (feq (by decide : ¬ ((1 : Int32) = (0 : Int32)))).1 ?_
    refine o_al X5 hx hby D25_17 rfl ?_
    exact st7 t kt)
  refine o_eV X7 Bd hx pre8 (hb hby D25_21) e7 ?_
  exact ⟨rfl, N7, rfl⟩
theorem D34_17 : decode oY33 17 = .ok (.aload_n 2, 1) := by decide +kernel
theorem D34_18 : decode oY33 18 = .ok (.iload_n 3, 1) := by decide +kernel
theorem D34_19 : decode oY33 19 = .ok (.iinc 3 1, 3) := by decide +kernel
theorem D34_22 : decode oY33 22 = .ok (.aload_n 0, 1) := by decide +kernel
theorem D34_23 : decode oY33 23 = .ok (.iload_n 1, 1) := by decide +kernel
theorem D34_24 : decode oY33 24 = .ok (.iinc 1 1, 3) := by decide +kernel
theorem D34_27 : decode oY33 27 = .ok (.baload, 1) := by decide +kernel
theorem D34_28 : decode oY33 28 = .ok (.sipush 255, 3) := by decide +kernel
theorem D34_31 : decode oY33 31 = .ok (.iand, 1) := by decide +kernel
theorem D34_32 : decode oY33 32 = .ok (.invokestatic 111, 3) := by decide +kernel
theorem D34_35 : decode oY33 35 = .ok (.iinc 5 1, 3) := by decide +kernel
theorem D34_38 : decode oY33 38 = .ok (.goto (-28), 3) := by decide +kernel
def Q_o_uin1 (Z : State) (sr : Addr) (ks : ClassId) (ab : Addr) (kb : ClassId) (us : List Value) (cc : Nat) (cs : Int32) (fm : Value) (h0 : Heap) (n0 : Nat) (v : Option Value) (h : Heap) (L : List Loc) : Prop := v = none ∧ Fr n0 L ∧ Keep h0 h [ab] ∧ Arv Z h ab kb .byte (32 : Int32) (o_P true us cc (58 : Int32)) (.int 0)
theorem o_uin1 (l : Launch) (Z : State) (a0 : Array Value) (hw : ∀ d ∈ tables_1, d.before a0 Z = true) (ws : List Jvm.Cond) (sr : Addr) (ks : ClassId) (ab : Addr) (kb : ClassId) (us : List Value) (cc : Nat) (cs : Int32) (fm : Value) (h0 : Heap) (n0 : Nat) (Z0 : n0 ≤ h0.size) (V_sr : Arv Z h0 sr ks .byte (1 : Int32) [(.int 58)] (.int 0)) (V_ab : Arv Z h0 ab kb .byte (32 : Int32) us (.int 0)) (hlu : us.length = 32) (hcc : cc < 16) (nsa : sr ≠ ab) (g_ab : n0 ≤ ab) (hst : o_ST Z cs fm) (O0 : Old Z n0 h0) :
    o_MF l o_N34 oY33 6 none ws o_R34 #[(.ref sr), (.int 0), (.ref ab), (.int (Int32.ofNat cc)), (.int 1)] Z h0 (Q_o_uin1 Z sr ks ab kb us cc cs fm h0 n0) := by
  refine o_start (C := "java/lang/StringUTF16") rfl (plainFor_of_name o_pn_o_cin1) fun p e s m below meth c s1 F0 Bd hx hby hml hown hnm hZ X0 e0 hF0 => ?_
  have N0 := Fr.nil n0
  have pre0 : Goes p e below s1 F0 s1 (mkF m 0 #[oR sr, oI 0, oR ab, oI (Int32.ofNat cc), oI 1, oU] []) := fun t k => castTop (hF0.trans (by simp [entryFrame, mkF, argsToLocals, Value.category])) k
  obtain ⟨_, T1, L1, X1, hQ1, st1⟩ := o_cS (y := o_N33) (g := (mkF m 4 #[oR sr, oI 0, oR ab, oI (Int32.ofNat cc), oI 1, oU] [(.ref ab), (.int 1), (.int (Int32.ofNat cc))])) (as := [(.int (Int32.ofNat cc)), (.int 1), (.ref ab)]) (rest := []) 0 X0 hx hZ hml hown (oV hw 262 rfl) (oV hw 263 rfl) (oV hw 18 rfl) (oV hw 264 rfl) (o_ucoc l Z a0 hw [] (Int32.ofNat cc) (1 : Int32) ab (32 : Int32) cs fm h0 n0 Z0 (o_Ln.of V_ab) (o_or1 cc hcc).1 (o_or1 cc hcc).2 hst O0) e0 o_pd23 (hb hby D34_4)
  obtain ⟨rfl, N1q, e1⟩ := hQ1
  have N1 := Fr.app N0 N1q
  have pre2 : Goes p e below s1 F0 T1 (mkF m 7 #[oR sr, oI 0, oR ab, oI (Int32.ofNat cc), oI 1, oU] []) := fun t kt => pre0 t (by
    refine o_il X0 hx hby D34_0 rfl ?_
    refine o_iL X0 hx hby D34_1 rfl ?_
    refine o_al X0 hx hby D34_3 rfl ?_
    exact st1 t kt)
  obtain ⟨cl3, Ar3, q3, S3, N_3, H3, G3⟩ := (id (V_sr))
  have hin3 : ¬ ((0 : Int32) < 0 ∨ cl3.slots.size ≤ ((0 : Int32)).toNatClampNeg) := inb_of S3 ⟨by decide, by decide⟩
  have hat3 : cl3.slots[((0 : Int32)).toNatClampNeg]? = some (.int 58) := Has.at H3 hin3 rfl
  obtain ⟨_, T4, L4, X4, hQ4, st4⟩ := o_cS (y := o_N5) (g := (mkF m 32 #[oR sr, oI 1, oR ab, oI ((Int32.ofNat cc) + (1 : Int32)), oI 1, oI 0] [(.int 58), (.int (Int32.ofNat cc)), (.ref ab)])) (as := [(.ref ab), (.int (Int32.ofNat cc)), (.int 58)]) (rest := []) 0 X1 hx hZ hml hown (oV hw 241 rfl) (oV hw 242 rfl) (oV hw 18 rfl) (oV hw 243 rfl) (o_pch l Z a0 hw [] ab kb (32 : Int32) us (Int32.ofNat cc) (58 : Int32) cs fm h0 n0 Z0 V_ab (o_pj cc hcc).1 (by rw [(o_pj cc hcc).2.1, hlu]; omega) (o_pj cc hcc).2.2.1 (by rw [(o_pj cc hcc).2.2.2, hlu]; omega) g_ab hst O0) e1 o_pd3 (hb hby D34_32)
  obtain ⟨rfl, N4q, K4q, Vz4⟩ := hQ4
  have N4 := Fr.app N1 N4q
  have KC4 : Keep h0 T4.heap [ab] := (Keep.refl h0 [ab]).trans K4q (allS (Or.inl (o_mG (i := 0) rfl)) all0)
  have pre5 : Goes p e below s1 F0 T4 (mkF m 35 #[oR sr, oI 1, oR ab, oI ((Int32.ofNat cc) + (1 : Int32)), oI 1, oI 0] []) := fun t kt => pre2 t (by
    refine o_ic X1 hx hby D34_7 ?_
    refine XS.istore X1.here hx rfl (hb hby D34_8) rfl (l' := #[oR sr, oI 0, oR ab, oI (Int32.ofNat cc), oI 1, oI 0]) rfl ?_
    refine o_iL X1 hx hby D34_10 rfl ?_
    refine o_iL X1 hx hby D34_12 rfl ?_
    refine o_icN X1 hx hby D34_14 (tlt (by decide : (0 : Int32) < (1 : Int32))).2.1 ?_
    refine o_al X1 hx hby D34_17 rfl ?_
    refine o_il X1 hx hby D34_18 rfl ?_
    refine XS.iinc X1.here hx rfl (hb hby D34_19) rfl (l' := #[oR sr, oI 0, oR ab, oI ((Int32.ofNat cc) + (1 : Int32)), oI 1, oI 0]) rfl ?_
    show Steps p.tables e below (T1.setTop (mkF m 22 #[oR sr, oI 0, oR ab, oI ((Int32.ofNat cc) + (1 : Int32)), oI 1, oI 0] [(.int (Int32.ofNat cc)), (.ref ab)])) _
    refine o_al X1 hx hby D34_22 rfl ?_
    refine o_il X1 hx hby D34_23 rfl ?_
    refine XS.iinc X1.here hx rfl (hb hby D34_24) rfl (l' := #[oR sr, oI 1, oR ab, oI ((Int32.ofNat cc) + (1 : Int32)), oI 1, oI 0]) rfl ?_
    refine X1.baloadBytes hx (j := (0 : Int32)) (v := (.int 58)) (by (try rw [e1]); exact Ar3.1) (State.isArrayOf_alike hZ.alike Ar3.2.1) Ar3.2.2 hin3 hat3 (g := (mkF m 27 #[oR sr, oI 1, oR ab, oI ((Int32.ofNat cc) + (1 : Int32)), oI 1, oI 0] [(.int 0), (.ref sr), (.int (Int32.ofNat cc)), (.ref ab)])) rfl rfl (hb hby D34_27) _ ?_
    refine XS.sipush X1.here hx rfl (hb hby D34_28) ?_
    refine XS.iand X1.here hx rfl (hb hby D34_31) rfl ?_
    exact st4 t kt)
  rw [(o_pj cc hcc).2.1, (o_pj cc hcc).2.2.2] at Vz4
  have Vw4 : Arv Z T4.heap ab kb .byte (32 : Int32) (o_P true us cc (58 : Int32)) (.int 0) := Vz4
  have pre6 : Goes p e below s1 F0 T4 (mkF m 41 #[oR sr, oI 1, oR ab, oI ((Int32.ofNat cc) + (1 : Int32)), oI 1, oI 1] []) := fun t kt => pre5 t (by
    refine XS.iinc X4.here hx rfl (hb hby D34_35) rfl (l' := #[oR sr, oI 1, oR ab, oI ((Int32.ofNat cc) + (1 : Int32)), oI 1, oI 1]) rfl ?_
    refine o_gt 38 10 X4 hx hby D34_38 ?_
    refine o_iL X4 hx hby D34_10 rfl ?_
    refine o_iL X4 hx hby D34_12 rfl ?_
    refine o_icY 14 41 X4 hx hby D34_14 (flt (by decide : ¬ ((1 : Int32) < (1 : Int32)))).2.1 ?_
    exact kt)
  refine o_eV X4 Bd hx pre6 (hb hby D34_41) rfl ?_
  exact ⟨rfl, N4, KC4, Vw4⟩
def Q_o_lin1 (Z : State) (sr : Addr) (ks : ClassId) (ab : Addr) (kb : ClassId) (us : List Value) (cc : Nat) (cs : Int32) (fm : Value) (h0 : Heap) (n0 : Nat) (v : Option Value) (h : Heap) (L : List Loc) : Prop := v = none ∧ Fr n0 L ∧ Keep h0 h [ab] ∧ Arv Z h ab kb .byte (32 : Int32) (o_P true us cc (58 : Int32)) (.int 0)
theorem o_lin1 (l : Launch) (Z : State) (a0 : Array Value) (hw : ∀ d ∈ tables_1, d.before a0 Z = true) (ws : List Jvm.Cond) (sr : Addr) (ks : ClassId) (ab : Addr) (kb : ClassId) (us : List Value) (cc : Nat) (cs : Int32) (fm : Value) (h0 : Heap) (n0 : Nat) (Z0 : n0 ≤ h0.size) (V_sr : Arv Z h0 sr ks .byte (1 : Int32) [(.int 58)] (.int 0)) (V_ab : Arv Z h0 ab kb .byte (32 : Int32) us (.int 0)) (hlu : us.length = 32) (hcc : cc < 16) (nsa : sr ≠ ab) (g_ab : n0 ≤ ab) (hst : o_ST Z cs fm) (O0 : Old Z n0 h0) :
    o_MF l o_N35 oY21 5 none ws o_R35 #[(.ref sr), (.int 0), (.ref ab), (.int (Int32.ofNat cc)), (.int 1)] Z h0 (Q_o_lin1 Z sr ks ab kb us cc cs fm h0 n0) := by
  refine o_start (C := "java/lang/StringLatin1") rfl (plainFor_of_name o_pn_o_lca) fun p e s m below meth c s1 F0 Bd hx hby hml hown hnm hZ X0 e0 hF0 => ?_
  have N0 := Fr.nil n0
  have pre0 : Goes p e below s1 F0 s1 (mkF m 0 #[oR sr, oI 0, oR ab, oI (Int32.ofNat cc), oI 1] []) := fun t k => castTop (hF0.trans (by simp [entryFrame, mkF, argsToLocals, Value.category])) k
  obtain ⟨_, T1, L1, X1, hQ1, st1⟩ := o_cS (y := o_N34) (g := (mkF m 6 #[oR sr, oI 0, oR ab, oI (Int32.ofNat cc), oI 1] [(.int 1), (.int (Int32.ofNat cc)), (.ref ab), (.int 0), (.ref sr)])) (as := [(.ref sr), (.int 0), (.ref ab), (.int (Int32.ofNat cc)), (.int 1)]) (rest := []) 0 X0 hx hZ hml hown (oV hw 259 rfl) (oV hw 260 rfl) (oV hw 18 rfl) (oV hw 261 rfl) (o_uin1 l Z a0 hw [] sr ks ab kb us cc cs fm h0 n0 Z0 V_sr V_ab hlu hcc nsa g_ab hst O0) e0 o_pd24 (hb hby D35_6)
  obtain ⟨rfl, N1q, K1q, Vz1⟩ := hQ1
  have N1 := Fr.app N0 N1q
  have KC1 : Keep h0 T1.heap [ab] := (Keep.refl h0 [ab]).trans K1q (allS (Or.inl (o_mG (i := 0) rfl)) all0)
  have pre2 : Goes p e below s1 F0 T1 (mkF m 9 #[oR sr, oI 0, oR ab, oI (Int32.ofNat cc), oI 1] []) := fun t kt => pre0 t (by
    refine o_al X0 hx hby D35_0 rfl ?_
    refine o_il X0 hx hby D35_1 rfl ?_
    refine o_al X0 hx hby D35_2 rfl ?_
    refine o_il X0 hx hby D35_3 rfl ?_
    refine o_iL X0 hx hby D35_4 rfl ?_
    exact st1 t kt)
  refine o_eV X1 Bd hx pre2 (hb hby D35_9) rfl ?_
  exact ⟨rfl, N1, KC1, Vz1⟩
theorem D26_28 : decode oY8 28 = .ok (.aload_n 0, 1) := by decide +kernel
theorem D26_29 : decode oY8 29 = .ok (.getfield 9, 3) := by decide +kernel
theorem D26_32 : decode oY8 32 = .ok (.iconst 0, 1) := by decide +kernel
theorem D26_33 : decode oY8 33 = .ok (.aload_n 1, 1) := by decide +kernel
theorem D26_34 : decode oY8 34 = .ok (.iload_n 2, 1) := by decide +kernel
theorem D26_35 : decode oY8 35 = .ok (.aload_n 0, 1) := by decide +kernel
theorem D26_36 : decode oY8 36 = .ok (.getfield 9, 3) := by decide +kernel
theorem D26_39 : decode oY8 39 = .ok (.arraylength, 1) := by decide +kernel
theorem D26_40 : decode oY8 40 = .ok (.invokestatic 106, 3) := by decide +kernel
def Q_o_gbUL (Z : State) (a1 y : Addr) (ky : ClassId) (ab : Addr) (kb : ClassId) (us : List Value) (cc : Nat) (cs : Int32) (fm : Value) (h0 : Heap) (n0 : Nat) (v : Option Value) (h : Heap) (L : List Loc) : Prop := v = none ∧ Fr n0 L ∧ Keep h0 h [ab] ∧ Arv Z h ab kb .byte (32 : Int32) (o_P true us cc (58 : Int32)) (.int 0)
theorem o_gbUL (l : Launch) (Z : State) (a0 : Array Value) (hw : ∀ d ∈ tables_1, d.before a0 Z = true) (ws : List Jvm.Cond) (a1 y : Addr) (ky : ClassId) (ab : Addr) (kb : ClassId) (us : List Value) (cc : Nat) (cs : Int32) (fm : Value) (h0 : Heap) (n0 : Nat) (Z0 : n0 ≤ h0.size) (E_a1 : Exa Z h0 a1 "java/lang/String") (Fc : Fld Z h0 a1 "java/lang/String" "coder" "B" (.int 0)) (Fv : Fld Z h0 a1 "java/lang/String" "value" "[B" (.ref y)) (V_y : Arv Z h0 y ky .byte (1 : Int32) [(.int 58)] (.int 0)) (V_ab : Arv Z h0 ab kb .byte (32 : Int32) us (.int 0)) (hlu : us.length = 32) (g_ab : n0 ≤ ab) (nya : y ≠ ab) (hcc : cc < 16) (hst : o_ST Z cs fm) (O0 : Old Z n0 h0) :
    o_MF l o_N26 oY8 4 none ws o_R42 #[(.ref a1), (.ref ab), (.int (Int32.ofNat cc)), (.int 1)] Z h0 (Q_o_gbUL Z a1 y ky ab kb us cc cs fm h0 n0) := by
  refine o_start (C := "java/lang/String") rfl (plainFor_of_name o_pn_o_sI0) fun p e s m below meth c s1 F0 Bd hx hby hml hown hnm hZ X0 e0 hF0 => ?_
  have N0 := Fr.nil n0
  have pre0 : Goes p e below s1 F0 s1 (mkF m 0 #[oR a1, oR ab, oI (Int32.ofNat cc), oI 1] []) := fun t k => castTop (hF0.trans (by simp [entryFrame, mkF, argsToLocals, Value.category])) k
  obtain ⟨_, T1, L1, X1, hQ1, st1⟩ := o_cW (y := o_N10) (b := a1) (g := (mkF m 1 #[oR a1, oR ab, oI (Int32.ofNat cc), oI 1] [(.ref a1)])) (as := []) (rest := []) 0 X0 hx hZ hml hown (oV hw 85 rfl) (oV hw 88 rfl) (oV hw 87 rfl) (oV hw 89 rfl) (oV hw 4 rfl) (o_sco0 l Z a0 hw [] a1 cs fm h0 n0 Z0 Fc hst O0) e0 E_a1 o_pd8 (hb hby D26_1)
  obtain ⟨rfl, N1q, e1⟩ := hQ1
  have N1 := Fr.app N0 N1q
  have pre2 : Goes p e below s1 F0 T1 (mkF m 4 #[oR a1, oR ab, oI (Int32.ofNat cc), oI 1] [(.int 0)]) := fun t kt => pre0 t (by
    refine o_al X0 hx hby D26_0 rfl ?_
    exact st1 t kt)
  obtain ⟨T3, X3, e3, st3⟩ := getF X1 hx hZ hown (host := "") (Or.inl (oV hw 29 rfl)) Via.refl e1 Fv (g := (mkF m 29 #[oR a1, oR ab, oI (Int32.ofNat cc), oI 1] [(.ref a1)])) rfl rfl (hb hby D26_29)
  have pre4 : Goes p e below s1 F0 T3 (mkF m 32 #[oR a1, oR ab, oI (Int32.ofNat cc), oI 1] [(.ref y)]) := fun t kt => pre2 t (by
    refine o_il X1 hx hby D26_4 rfl ?_
    refine o_icY 5 28 X1 hx hby D26_5 (feq (by decide : ¬ ((0 : Int32) = (1 : Int32)))).2 ?_
    refine o_al X1 hx hby D26_28 rfl ?_
    exact st3 t kt)
  obtain ⟨T5, X5, e5, st5⟩ := getF X3 hx hZ hown (host := "") (Or.inl (oV hw 29 rfl)) Via.refl e3 Fv (g := (mkF m 36 #[oR a1, oR ab, oI (Int32.ofNat cc), oI 1] [(.ref a1), (.int (Int32.ofNat cc)), (.ref ab), (.int 0), (.ref y)])) rfl rfl (hb hby D26_36)
  have pre6 : Goes p e below s1 F0 T5 (mkF m 39 #[oR a1, oR ab, oI (Int32.ofNat cc), oI 1] [(.ref y), (.int (Int32.ofNat cc)), (.ref ab), (.int 0), (.ref y)]) := fun t kt => pre4 t (by
    refine o_ic X3 hx hby D26_32 ?_
    refine o_al X3 hx hby D26_33 rfl ?_
    refine o_il X3 hx hby D26_34 rfl ?_
    refine o_al X3 hx hby D26_35 rfl ?_
    exact st5 t kt)
  obtain ⟨cl7, Ar7, q7, S7, N_7, H7, G7⟩ := (id (V_y))
  obtain ⟨_, T8, L8, X8, hQ8, st8⟩ := o_cS (y := o_N35) (g := (mkF m 40 #[oR a1, oR ab, oI (Int32.ofNat cc), oI 1] [(.int 1), (.int (Int32.ofNat cc)), (.ref ab), (.int 0), (.ref y)])) (as := [(.ref y), (.int 0), (.ref ab), (.int (Int32.ofNat cc)), (.int 1)]) (rest := []) 0 X5 hx hZ hml hown (oV hw 274 rfl) (oV hw 257 rfl) (oV hw 204 rfl) (oV hw 258 rfl) (o_lin1 l Z a0 hw [] y ky ab kb us cc cs fm h0 n0 Z0 V_y V_ab hlu hcc nya g_ab hst O0) e5 o_pd24 (hb hby D26_40)
  obtain ⟨rfl, N8q, K8q, Vz8⟩ := hQ8
  have N8 := Fr.app N1 N8q
  have KC8 : Keep h0 T8.heap [ab] := (Keep.refl h0 [ab]).trans K8q (allS (Or.inl (o_mG (i := 0) rfl)) all0)
  have pre9 : Goes p e below s1 F0 T8 (mkF m 43 #[oR a1, oR ab, oI (Int32.ofNat cc), oI 1] []) := fun t kt => pre6 t (by
    refine X5.arraylength hx (by (try rw [e5]); exact Ar7.1) (State.isArrayOf_alike hZ.alike Ar7.2.1) (g := (mkF m 39 #[oR a1, oR ab, oI (Int32.ofNat cc), oI 1] [(.ref y), (.int (Int32.ofNat cc)), (.ref ab), (.int 0), (.ref y)])) rfl rfl (hb hby D26_39) _ ?_
    rw [len_of S7 N_7]
    exact st8 t kt)
  refine o_eV X8 Bd hx pre9 (hb hby D26_43) rfl ?_
  exact ⟨rfl, N8, KC8, Vz8⟩
def Q_o_pSUL (Z : State) (x1 ab : Addr) (kb : ClassId) (us : List Value) (cc : Nat) (a1 y : Addr) (ky : ClassId) (cs : Int32) (fm : Value) (h0 : Heap) (n0 : Nat) (v : Option Value) (h : Heap) (L : List Loc) : Prop := v = none ∧ Fr n0 L ∧ Keep h0 h [ab] ∧ o_SB Z h n0 x1 ab kb (o_P true us cc (58 : Int32)) cc (1 : Int32) (32 : Int32) 32
theorem o_pSUL (l : Launch) (Z : State) (a0 : Array Value) (hw : ∀ d ∈ tables_1, d.before a0 Z = true) (ws : List Jvm.Cond) (x1 ab : Addr) (kb : ClassId) (us : List Value) (cc : Nat) (a1 y : Addr) (ky : ClassId) (cs : Int32) (fm : Value) (h0 : Heap) (n0 : Nat) (Z0 : n0 ≤ h0.size) (hS : o_SB Z h0 n0 x1 ab kb us cc (1 : Int32) (32 : Int32) 32) (E_a1 : Exa Z h0 a1 "java/lang/String") (Fc : Fld Z h0 a1 "java/lang/String" "coder" "B" (.int 0)) (Fv : Fld Z h0 a1 "java/lang/String" "value" "[B" (.ref y)) (V_y : Arv Z h0 y ky .byte (1 : Int32) [(.int 58)] (.int 0)) (nya : y ≠ ab) (nyx : y ≠ x1) (nax : a1 ≠ x1) (hcc : cc < 16) (hst : o_ST Z cs fm) (O0 : Old Z n0 h0) :
    o_MF l o_N27 oY54 3 none ws o_R43 #[(.ref x1), (.int (Int32.ofNat cc)), (.ref a1)] Z h0 (Q_o_pSUL Z x1 ab kb us cc a1 y ky cs fm h0 n0) := by
  refine o_start (C := "java/lang/AbstractStringBuilder") rfl (plainFor_of_name o_pn_o_ai) fun p e s m below meth c s1 F0 Bd hx hby hml hown hnm hZ X0 e0 hF0 => ?_
  have N0 := Fr.nil n0
  have pre0 : Goes p e below s1 F0 s1 (mkF m 0 #[oR x1, oI (Int32.ofNat cc), oR a1] []) := fun t k => castTop (hF0.trans (by simp [entryFrame, mkF, argsToLocals, Value.category])) k
  obtain ⟨E_x1, F_value, F_coder, F_count, F_maybeLatin1, V_ab, hlu, nxa, g_x1, g_ab⟩ := (id (hS))
  obtain ⟨_, T1, L1, X1, hQ1, st1⟩ := o_cW (y := o_N25) (b := x1) (g := (mkF m 2 #[oR x1, oI (Int32.ofNat cc), oR a1] [(.ref a1), (.ref x1)])) (as := [(.ref a1)]) (rest := []) 0 X0 hx hZ hml hown (oV hw 102 rfl) (oV hw 105 rfl) (oV hw 103 rfl) (oV hw 106 rfl) (oV hw 62 rfl) (o_ifn10 l Z a0 hw [] x1 ab kb us cc a1 cs fm h0 n0 Z0 hS E_a1 Fc hst O0) e0 E_x1 o_pd16 (hb hby D27_2)
  obtain ⟨rfl, N1q, e1⟩ := hQ1
  have N1 := Fr.app N0 N1q
  have pre2 : Goes p e below s1 F0 T1 (mkF m 5 #[oR x1, oI (Int32.ofNat cc), oR a1] []) := fun t kt => pre0 t (by
    refine o_al X0 hx hby D27_0 rfl ?_
    refine o_al X0 hx hby D27_1 rfl ?_
    exact st1 t kt)
  obtain ⟨T3, X3, e3, st3⟩ := getF X1 hx hZ hown (host := "") (Or.inl (oV hw 66 rfl)) Via.refl e1 F_value (g := (mkF m 7 #[oR x1, oI (Int32.ofNat cc), oR a1] [(.ref x1), (.ref a1)])) rfl rfl (hb hby D27_7)
  have pre4 : Goes p e below s1 F0 T3 (mkF m 10 #[oR x1, oI (Int32.ofNat cc), oR a1] [(.ref ab), (.ref a1)]) := fun t kt => pre2 t (by
    refine o_al X1 hx hby D27_5 rfl ?_
    refine o_al X1 hx hby D27_6 rfl ?_
    exact st3 t kt)
  obtain ⟨T5, X5, e5, st5⟩ := getF X3 hx hZ hown (host := "") (Or.inl (oV hw 68 rfl)) Via.refl e3 F_coder (g := (mkF m 12 #[oR x1, oI (Int32.ofNat cc), oR a1] [(.ref x1), (.int (Int32.ofNat cc)), (.ref ab), (.ref a1)])) rfl rfl (hb hby D27_12)
  have pre6 : Goes p e below s1 F0 T5 (mkF m 15 #[oR x1, oI (Int32.ofNat cc), oR a1] [(.int 1), (.int (Int32.ofNat cc)), (.ref ab), (.ref a1)]) := fun t kt => pre4 t (by
    refine o_il X3 hx hby D27_10 rfl ?_
    refine o_al X3 hx hby D27_11 rfl ?_
    exact st5 t kt)
  obtain ⟨_, T7, L7, X7, hQ7, st7⟩ := o_cW (y := o_N26) (b := a1) (g := (mkF m 15 #[oR x1, oI (Int32.ofNat cc), oR a1] [(.int 1), (.int (Int32.ofNat cc)), (.ref ab), (.ref a1)])) (as := [(.ref ab), (.int (Int32.ofNat cc)), (.int 1)]) (rest := []) 0 X5 hx hZ hml hown (oV hw 108 rfl) (oV hw 111 rfl) (oV hw 110 rfl) (oV hw 112 rfl) (oV hw 4 rfl) (o_gbUL l Z a0 hw [] a1 y ky ab kb us cc cs fm h0 n0 Z0 E_a1 Fc Fv V_y V_ab hlu g_ab nya hcc hst O0) e5 E_a1 o_pd17 (hb hby D27_15)
  obtain ⟨rfl, N7q, K7q, Vz7⟩ := hQ7
  have N7 := Fr.app N1 N7q
  have KC7 : Keep h0 T7.heap [ab] := (Keep.refl h0 [ab]).trans K7q (allS (Or.inl (o_mG (i := 0) rfl)) all0)
  have pre8 : Goes p e below s1 F0 T7 (mkF m 18 #[oR x1, oI (Int32.ofNat cc), oR a1] []) := fun t kt => pre6 t (st7 t kt)
  refine o_eV X7 Bd hx pre8 (hb hby D27_18) rfl ?_
  exact ⟨rfl, N7, KC7, ⟨(E_x1.keep K7q), (F_value.keep K7q (ninS nxa nin0)), (F_coder.keep K7q (ninS nxa nin0)), (F_count.keep K7q (ninS nxa nin0)), (F_maybeLatin1.keep K7q (ninS nxa nin0)), Vz7, (by rw [o_P_len]; exact hlu), nxa, g_x1, g_ab⟩⟩
def Q_o_aSUL (Z : State) (x1 ab : Addr) (kb : ClassId) (us : List Value) (cc : Nat) (a1 y : Addr) (ky : ClassId) (cs : Int32) (fm : Value) (h0 : Heap) (n0 : Nat) (v : Option Value) (h : Heap) (L : List Loc) : Prop := v = some (.ref x1) ∧ Fr n0 L ∧ Keep h0 h [x1, ab] ∧ o_SB Z h n0 x1 ab kb (o_P true us cc (58 : Int32)) (cc + 1) (1 : Int32) (32 : Int32) 32
theorem o_aSUL (l : Launch) (Z : State) (a0 : Array Value) (hw : ∀ d ∈ tables_1, d.before a0 Z = true) (ws : List Jvm.Cond) (x1 ab : Addr) (kb : ClassId) (us : List Value) (cc : Nat) (a1 y : Addr) (ky : ClassId) (cs : Int32) (fm : Value) (h0 : Heap) (n0 : Nat) (Z0 : n0 ≤ h0.size) (hS : o_SB Z h0 n0 x1 ab kb us cc (1 : Int32) (32 : Int32) 32) (E_a1 : Exa Z h0 a1 "java/lang/String") (Fc : Fld Z h0 a1 "java/lang/String" "coder" "B" (.int 0)) (Fv : Fld Z h0 a1 "java/lang/String" "value" "[B" (.ref y)) (V_y : Arv Z h0 y ky .byte (1 : Int32) [(.int 58)] (.int 0)) (nya : y ≠ ab) (nyx : y ≠ x1) (nax : a1 ≠ x1) (hcc : cc < 16) (hst : o_ST Z cs fm) (O0 : Old Z n0 h0) :
    o_MF l o_N28 oY47 3 (some (.object "java/lang/AbstractStringBuilder")) ws o_R44 #[(.ref x1), (.ref a1)] Z h0 (Q_o_aSUL Z x1 ab kb us cc a1 y ky cs fm h0 n0) := by
  refine o_start (C := "java/lang/AbstractStringBuilder") rfl (plainFor_of_name o_pn_o_ai) fun p e s m below meth c s1 F0 Bd hx hby hml hown hnm hZ X0 e0 hF0 => ?_
  have N0 := Fr.nil n0
  have pre0 : Goes p e below s1 F0 s1 (mkF m 0 #[oR x1, oR a1, oU] []) := fun t k => castTop (hF0.trans (by simp [entryFrame, mkF, argsToLocals, Value.category])) k
  obtain ⟨E_x1, F_value, F_coder, F_count, F_maybeLatin1, V_ab, hlu, nxa, g_x1, g_ab⟩ := (id (hS))
  obtain ⟨_, T1, L1, X1, hQ1, st1⟩ := o_cW (y := o_N11) (b := a1) (g := (mkF m 10 #[oR x1, oR a1, oU] [(.ref a1)])) (as := []) (rest := []) 0 X0 hx hZ hml hown (oV hw 80 rfl) (oV hw 83 rfl) (oV hw 82 rfl) (oV hw 84 rfl) (oV hw 4 rfl) (o_sle l Z a0 hw [] a1 (0 : Int32) y (1 : Int32) cs fm h0 n0 Z0 E_a1 Fc Fv (Or.inl ⟨rfl, o_Ln.of V_y⟩) hst O0) e0 E_a1 o_pd18 (hb hby D28_10)
  obtain ⟨rfl, N1q, e1⟩ := hQ1
  have N1 := Fr.app N0 N1q
  have pre2 : Goes p e below s1 F0 T1 (mkF m 13 #[oR x1, oR a1, oU] [(.int 1)]) := fun t kt => pre0 t (by
    refine o_al X0 hx hby D28_0 rfl ?_
    refine XS.ifnonnullYes X0.here hx rfl (pc0 := 1) (pc' := 9) rfl (hb hby D28_1) rfl (by decide) (by decide) ?_
    refine o_al X0 hx hby D28_9 rfl ?_
    exact st1 t kt)
  obtain ⟨T3, X3, e3, st3⟩ := getF X1 hx hZ hown (host := "") (Or.inl (oV hw 90 rfl)) Via.refl e1 F_count (g := (mkF m 16 #[oR x1, oR a1, oI 1] [(.ref x1), (.ref x1)])) rfl rfl (hb hby D28_16)
  have pre4 : Goes p e below s1 F0 T3 (mkF m 19 #[oR x1, oR a1, oI 1] [(.int (Int32.ofNat cc)), (.ref x1)]) := fun t kt => pre2 t (by
    refine XS.istoreN X1.here hx rfl (hb hby D28_13) rfl (l' := #[oR x1, oR a1, oI 1]) rfl ?_
    refine o_al X1 hx hby D28_14 rfl ?_
    refine o_al X1 hx hby D28_15 rfl ?_
    exact st3 t kt)
  have pre5 : Goes p e below s1 F0 T3 (mkF m 21 #[oR x1, oR a1, oI 1] [(.int ((Int32.ofNat cc) + (1 : Int32))), (.ref x1)]) := fun t kt => pre4 t (by
    refine o_il X3 hx hby D28_19 rfl ?_
    refine XS.iadd X3.here hx rfl (hb hby D28_20) rfl ?_
    exact kt)
  rw [show ((Int32.ofNat cc) + (1 : Int32)) = (Int32.ofNat (cc + 1)) from o_oadd cc 1] at pre5
  obtain ⟨_, T6, L6, X6, hQ6, st6⟩ := o_cW (y := o_N24) (b := x1) (g := (mkF m 21 #[oR x1, oR a1, oI 1] [(.int (Int32.ofNat (cc + 1))), (.ref x1)])) (as := [(.int (Int32.ofNat (cc + 1)))]) (rest := []) 0 X3 hx hZ hml hown (oV hw 92 rfl) (oV hw 95 rfl) (oV hw 93 rfl) (oV hw 96 rfl) (oV hw 62 rfl) (o_ens1 l Z a0 hw [] x1 ab kb us cc (Int32.ofNat (cc + 1)) h0 n0 Z0 hS (o_ens (by omega))) e3 E_x1 o_pd15 (hb hby D28_21)
  obtain ⟨rfl, N6q, e6⟩ := hQ6
  have N6 := Fr.app N1 N6q
  have pre7 : Goes p e below s1 F0 T6 (mkF m 24 #[oR x1, oR a1, oI 1] []) := fun t kt => pre5 t (st6 t kt)
  obtain ⟨T8, X8, e8, st8⟩ := getF X6 hx hZ hown (host := "") (Or.inl (oV hw 90 rfl)) Via.refl e6 F_count (g := (mkF m 26 #[oR x1, oR a1, oI 1] [(.ref x1), (.ref x1)])) rfl rfl (hb hby D28_26)
  have pre9 : Goes p e below s1 F0 T8 (mkF m 29 #[oR x1, oR a1, oI 1] [(.int (Int32.ofNat cc)), (.ref x1)]) := fun t kt => pre7 t (by
    refine o_al X6 hx hby D28_24 rfl ?_
    refine o_al X6 hx hby D28_25 rfl ?_
    exact st8 t kt)
  obtain ⟨_, T10, L10, X10, hQ10, st10⟩ := o_cW (y := o_N27) (b := x1) (g := (mkF m 30 #[oR x1, oR a1, oI 1] [(.ref a1), (.int (Int32.ofNat cc)), (.ref x1)])) (as := [(.int (Int32.ofNat cc)), (.ref a1)]) (rest := []) 0 X8 hx hZ hml hown (oV hw 97 rfl) (oV hw 100 rfl) (oV hw 98 rfl) (oV hw 101 rfl) (oV hw 62 rfl) (o_pSUL l Z a0 hw [] x1 ab kb us cc a1 y ky cs fm h0 n0 Z0 hS E_a1 Fc Fv V_y nya nyx nax hcc hst O0) e8 E_x1 o_pd19 (hb hby D28_30)
  obtain ⟨rfl, N10q, K10q, hT10⟩ := hQ10
  have N10 := Fr.app N6 N10q
  have KC10 : Keep h0 T10.heap [x1, ab] := (Keep.refl h0 [x1, ab]).trans K10q (allS (Or.inl (o_mG (i := 1) rfl)) all0)
  have pre11 : Goes p e below s1 F0 T10 (mkF m 33 #[oR x1, oR a1, oI 1] []) := fun t kt => pre9 t (by
    refine o_al X8 hx hby D28_29 rfl ?_
    exact st10 t kt)
  obtain ⟨E_x1n, F_valuen, F_codern, F_countn, F_maybeLatin1n, V_abn, hlun, nxan, g_x1n, g_abn⟩ := (id (hT10))
  obtain ⟨T12, X12, e12, st12⟩ := getF X10 hx hZ hown (host := "") (Or.inl (oV hw 90 rfl)) Via.refl rfl F_countn (g := (mkF m 35 #[oR x1, oR a1, oI 1] [(.ref x1), (.ref x1)])) rfl rfl (hb hby D28_35)
  have pre13 : Goes p e below s1 F0 T12 (mkF m 38 #[oR x1, oR a1, oI 1] [(.int (Int32.ofNat cc)), (.ref x1)]) := fun t kt => pre11 t (by
    refine o_al X10 hx hby D28_33 rfl ?_
    refine XS.dup X10.here hx rfl (hb hby D28_34) rfl rfl ?_
    exact st12 t kt)
  have pre14 : Goes p e below s1 F0 T12 (mkF m 40 #[oR x1, oR a1, oI 1] [(.int ((Int32.ofNat cc) + (1 : Int32))), (.ref x1)]) := fun t kt => pre13 t (by
    refine o_il X12 hx hby D28_38 rfl ?_
    refine XS.iadd X12.here hx rfl (hb hby D28_39) rfl ?_
    exact kt)
  rw [show ((Int32.ofNat cc) + (1 : Int32)) = (Int32.ofNat (cc + 1)) from o_oadd cc 1] at pre14
  obtain ⟨T15, h15, X15, e15, W15, st15⟩ := putF X12 hx hZ hown (host := "") (Or.inl (oV hw 90 rfl)) Via.refl e12 F_countn E_x1n (Or.inl (oV hw 91 rfl)) (oV hw 53 rfl) (ty := .int) (by decide) rfl rfl (g := (mkF m 40 #[oR x1, oR a1, oI 1] [(.int (Int32.ofNat (cc + 1))), (.ref x1)])) rfl rfl (hb hby D28_40)
  have Fw15 := F_countn.same W15
  have K15 : Keep h0 h15 [x1, ab] := KC10.wr W15 (Or.inl (o_mG (i := 0) rfl))
  have N15 := Fr.snoc X15 N10 g_x1
  have pre16 : Goes p e below s1 F0 T15 (mkF m 43 #[oR x1, oR a1, oI 1] []) := fun t kt => pre14 t (st15 t kt)
  have pre17 : Goes p e below s1 F0 T15 (mkF m 44 #[oR x1, oR a1, oI 1] [(.ref x1)]) := fun t kt => pre16 t (by
    refine o_al X15 hx hby D28_43 rfl ?_
    exact kt)
  refine o_eR X15 Bd hx pre17 (hb hby D28_44) e15 ?_
  exact ⟨rfl, N15, K15, ⟨(E_x1n.wr W15), (F_valuen.other W15 (Or.inr (slot_ne (Or.inl (oV hw 67 rfl)) (Or.inl (oV hw 91 rfl)) (by decide) (t := (.array .byte)) (t' := .int) (by decide) (by decide)))), (F_codern.other W15 (Or.inr (slot_ne (Or.inl (oV hw 69 rfl)) (Or.inl (oV hw 91 rfl)) (by decide) (t := .byte) (t' := .int) (by decide) (by decide)))), Fw15, (F_maybeLatin1n.other W15 (Or.inr (slot_ne (Or.inl (oV hw 293 rfl)) (Or.inl (oV hw 91 rfl)) (by decide) (t := .boolean) (t' := .int) (by decide) (by decide)))), (V_abn.other W15 (Ne.symm nxan)), hlun, nxan, g_x1, g_abn⟩⟩
def Q_o_bSUL (Z : State) (x1 ab : Addr) (kb : ClassId) (us : List Value) (cc : Nat) (a1 y : Addr) (ky : ClassId) (cs : Int32) (fm : Value) (h0 : Heap) (n0 : Nat) (v : Option Value) (h : Heap) (L : List Loc) : Prop := v = some (.ref x1) ∧ Fr n0 L ∧ Keep h0 h [x1, ab] ∧ o_SB Z h n0 x1 ab kb (o_P true us cc (58 : Int32)) (cc + 1) (1 : Int32) (32 : Int32) 32
theorem o_bSUL (l : Launch) (Z : State) (a0 : Array Value) (hw : ∀ d ∈ tables_1, d.before a0 Z = true) (ws : List Jvm.Cond) (x1 ab : Addr) (kb : ClassId) (us : List Value) (cc : Nat) (a1 y : Addr) (ky : ClassId) (cs : Int32) (fm : Value) (h0 : Heap) (n0 : Nat) (Z0 : n0 ≤ h0.size) (hS : o_SB Z h0 n0 x1 ab kb us cc (1 : Int32) (32 : Int32) 32) (E_a1 : Exa Z h0 a1 "java/lang/String") (Fc : Fld Z h0 a1 "java/lang/String" "coder" "B" (.int 0)) (Fv : Fld Z h0 a1 "java/lang/String" "value" "[B" (.ref y)) (V_y : Arv Z h0 y ky .byte (1 : Int32) [(.int 58)] (.int 0)) (nya : y ≠ ab) (nyx : y ≠ x1) (nax : a1 ≠ x1) (hcc : cc < 16) (hst : o_ST Z cs fm) (O0 : Old Z n0 h0) :
    o_MF l o_N29 oY44 2 (some (.object "java/lang/StringBuilder")) ws o_R45 #[(.ref x1), (.ref a1)] Z h0 (Q_o_bSUL Z x1 ab kb us cc a1 y ky cs fm h0 n0) := by
  refine o_start (C := "java/lang/StringBuilder") rfl (plainFor_of_name o_pn_o_bi) fun p e s m below meth c s1 F0 Bd hx hby hml hown hnm hZ X0 e0 hF0 => ?_
  have N0 := Fr.nil n0
  have pre0 : Goes p e below s1 F0 s1 (mkF m 0 #[oR x1, oR a1] []) := fun t k => castTop (hF0.trans (by simp [entryFrame, mkF, argsToLocals, Value.category])) k
  obtain ⟨E_x1, F_value, F_coder, F_count, F_maybeLatin1, V_ab, hlu, nxa, g_x1, g_ab⟩ := (id (hS))
  obtain ⟨_, T1, L1, X1, hQ1, st1⟩ := o_cU (y := o_N28) (y2 := o_N24) (b := x1) (g := (mkF m 2 #[oR x1, oR a1] [(.ref a1), (.ref x1)])) (as := [(.ref a1)]) (rest := []) 0 X0 hx hZ hml hown (oV hw 75 rfl) (oV hw 95 rfl) (oV hw 76 rfl) (oV hw 77 rfl) (oV hw 79 rfl) (oV hw 62 rfl) (o_aSUL l Z a0 hw [] x1 ab kb us cc a1 y ky cs fm h0 n0 Z0 hS E_a1 Fc Fv V_y nya nyx nax hcc hst O0) e0 E_x1 o_pd20 (hb hby D29_2)
  obtain ⟨rfl, N1q, K1q, Rest1⟩ := hQ1
  have N1 := Fr.app N0 N1q
  have KC1 : Keep h0 T1.heap [x1, ab] := (Keep.refl h0 [x1, ab]).trans K1q (allS (Or.inl (o_mG (i := 0) rfl)) (allS (Or.inl (o_mG (i := 1) rfl)) all0))
  have pre2 : Goes p e below s1 F0 T1 (mkF m 5 #[oR x1, oR a1] [(.ref x1)]) := fun t kt => pre0 t (by
    refine o_al X0 hx hby D29_0 rfl ?_
    refine o_al X0 hx hby D29_1 rfl ?_
    exact st1 t kt)
  have pre3 : Goes p e below s1 F0 T1 (mkF m 7 #[oR x1, oR a1] [(.ref x1)]) := fun t kt => pre2 t (by
    refine XS.pop X1.here hx rfl (hb hby D29_5) rfl rfl ?_
    refine o_al X1 hx hby D29_6 rfl ?_
    exact kt)
  refine o_eR X1 Bd hx pre3 (hb hby D29_7) rfl ?_
  exact ⟨rfl, N1, KC1, Rest1⟩
theorem o_xn1 {pp : Int32} (h : pp < (0 : Int32)) : pp.toInt = -(o_M pp : Int) := by
  have q := Int32.lt_iff_toInt_lt.mp h
  rw [show (0 : Int32).toInt = 0 by decide] at q
  unfold o_M; omega
theorem o_dn1 {pp : Int32} (h : pp < (0 : Int32)) : (1 : Int32) = Int32.ofNat (o_sg pp) := by
  have q := Int32.lt_iff_toInt_lt.mp h
  rw [show (0 : Int32).toInt = 0 by decide] at q
  unfold o_sg; rw [if_pos q]; rfl
theorem o_xn0 {pp : Int32} (h : ¬ (pp < (0 : Int32))) : (-pp).toInt = -(o_M pp : Int) := by
  rw [Int32.lt_iff_toInt_lt, show (0 : Int32).toInt = 0 by decide] at h
  have q := c_ineg pp
  have r := rng32 pp
  have r2 := rng32 (-pp)
  unfold o_M; omega
theorem o_dn0 {pp : Int32} (h : ¬ (pp < (0 : Int32))) : (0 : Int32) = Int32.ofNat (o_sg pp) := by
  rw [Int32.lt_iff_toInt_lt, show (0 : Int32).toInt = 0 by decide] at h
  unfold o_sg; rw [if_neg h]; rfl
theorem o_szb {x d pp : Int32} {k : Nat} (hd : d = Int32.ofNat (o_sg pp)) (h : o_nd (o_M pp) = k) : Int32.ofNat k + d = Int32.ofNat (o_pl pp) := by
  rw [hd, o_oadd]; unfold o_pl; rw [h]
theorem o_sz1 {x d pp : Int32} (hx : x.toInt = -(o_M pp : Int)) (hd : d = Int32.ofNat (o_sg pp)) (h1 : (-10 : Int32) < x) : (1 : Int32) + d = Int32.ofNat (o_pl pp) := by
  refine o_szb (x := x) (k := 1) hd ?_
  rw [Int32.lt_iff_toInt_lt, show (-10 : Int32).toInt = -10 by decide] at h1
  unfold o_nd
  rw [if_pos (by omega)]
theorem o_sz2 {x d pp : Int32} (hx : x.toInt = -(o_M pp : Int)) (hd : d = Int32.ofNat (o_sg pp)) (h2 : ¬ ((-10 : Int32) < x)) (h1 : (-100 : Int32) < x) : (2 : Int32) + d = Int32.ofNat (o_pl pp) := by
  refine o_szb (x := x) (k := 2) hd ?_
  rw [Int32.lt_iff_toInt_lt, show (-10 : Int32).toInt = -10 by decide] at h2
  rw [Int32.lt_iff_toInt_lt, show (-100 : Int32).toInt = -100 by decide] at h1
  unfold o_nd
  rw [if_neg (by omega), if_pos (by omega)]
theorem o_sz3 {x d pp : Int32} (hx : x.toInt = -(o_M pp : Int)) (hd : d = Int32.ofNat (o_sg pp)) (h2 : ¬ ((-100 : Int32) < x)) (h1 : (-1000 : Int32) < x) : (3 : Int32) + d = Int32.ofNat (o_pl pp) := by
  refine o_szb (x := x) (k := 3) hd ?_
  rw [Int32.lt_iff_toInt_lt, show (-100 : Int32).toInt = -100 by decide] at h2
  rw [Int32.lt_iff_toInt_lt, show (-1000 : Int32).toInt = -1000 by decide] at h1
  unfold o_nd
  rw [if_neg (by omega), if_neg (by omega), if_pos (by omega)]
theorem o_sz4 {x d pp : Int32} (hx : x.toInt = -(o_M pp : Int)) (hd : d = Int32.ofNat (o_sg pp)) (h2 : ¬ ((-1000 : Int32) < x)) (h1 : (-10000 : Int32) < x) : (4 : Int32) + d = Int32.ofNat (o_pl pp) := by
  refine o_szb (x := x) (k := 4) hd ?_
  rw [Int32.lt_iff_toInt_lt, show (-1000 : Int32).toInt = -1000 by decide] at h2
  rw [Int32.lt_iff_toInt_lt, show (-10000 : Int32).toInt = -10000 by decide] at h1
  unfold o_nd
  rw [if_neg (by omega), if_neg (by omega), if_neg (by omega), if_pos (by omega)]
theorem o_sz5 {x d pp : Int32} (hx : x.toInt = -(o_M pp : Int)) (hd : d = Int32.ofNat (o_sg pp)) (h2 : ¬ ((-10000 : Int32) < x)) (h1 : (-100000 : Int32) < x) : (5 : Int32) + d = Int32.ofNat (o_pl pp) := by
  refine o_szb (x := x) (k := 5) hd ?_
  rw [Int32.lt_iff_toInt_lt, show (-10000 : Int32).toInt = -10000 by decide] at h2
  rw [Int32.lt_iff_toInt_lt, show (-100000 : Int32).toInt = -100000 by decide] at h1
  unfold o_nd
  rw [if_neg (by omega), if_neg (by omega), if_neg (by omega), if_neg (by omega), if_pos (by omega)]
theorem o_sz6 {x d pp : Int32} (hx : x.toInt = -(o_M pp : Int)) (hd : d = Int32.ofNat (o_sg pp)) (h2 : ¬ ((-100000 : Int32) < x)) (h1 : (-1000000 : Int32) < x) : (6 : Int32) + d = Int32.ofNat (o_pl pp) := by
  refine o_szb (x := x) (k := 6) hd ?_
  rw [Int32.lt_iff_toInt_lt, show (-100000 : Int32).toInt = -100000 by decide] at h2
  rw [Int32.lt_iff_toInt_lt, show (-1000000 : Int32).toInt = -1000000 by decide] at h1
  unfold o_nd
  rw [if_neg (by omega), if_neg (by omega), if_neg (by omega), if_neg (by omega), if_neg (by omega), if_pos (by omega)]
theorem o_sz7 {x d pp : Int32} (hx : x.toInt = -(o_M pp : Int)) (hd : d = Int32.ofNat (o_sg pp)) (h2 : ¬ ((-1000000 : Int32) < x)) (h1 : (-10000000 : Int32) < x) : (7 : Int32) + d = Int32.ofNat (o_pl pp) := by
  refine o_szb (x := x) (k := 7) hd ?_
  rw [Int32.lt_iff_toInt_lt, show (-1000000 : Int32).toInt = -1000000 by decide] at h2
  rw [Int32.lt_iff_toInt_lt, show (-10000000 : Int32).toInt = -10000000 by decide] at h1
  unfold o_nd
  rw [if_neg (by omega), if_neg (by omega), if_neg (by omega), if_neg (by omega), if_neg (by omega), if_neg (by omega), if_pos (by omega)]
theorem o_sz8 {x d pp : Int32} (hx : x.toInt = -(o_M pp : Int)) (hd : d = Int32.ofNat (o_sg pp)) (h2 : ¬ ((-10000000 : Int32) < x)) (h1 : (-100000000 : Int32) < x) : (8 : Int32) + d = Int32.ofNat (o_pl pp) := by
  refine o_szb (x := x) (k := 8) hd ?_
  rw [Int32.lt_iff_toInt_lt, show (-10000000 : Int32).toInt = -10000000 by decide] at h2
  rw [Int32.lt_iff_toInt_lt, show (-100000000 : Int32).toInt = -100000000 by decide] at h1
  unfold o_nd
  rw [if_neg (by omega), if_neg (by omega), if_neg (by omega), if_neg (by omega), if_neg (by omega), if_neg (by omega), if_neg (by omega), if_pos (by omega)]
theorem o_sz9 {x d pp : Int32} (hx : x.toInt = -(o_M pp : Int)) (hd : d = Int32.ofNat (o_sg pp)) (h2 : ¬ ((-100000000 : Int32) < x)) (h1 : (-1000000000 : Int32) < x) : (9 : Int32) + d = Int32.ofNat (o_pl pp) := by
  refine o_szb (x := x) (k := 9) hd ?_
  rw [Int32.lt_iff_toInt_lt, show (-100000000 : Int32).toInt = -100000000 by decide] at h2
  rw [Int32.lt_iff_toInt_lt, show (-1000000000 : Int32).toInt = -1000000000 by decide] at h1
  unfold o_nd
  rw [if_neg (by omega), if_neg (by omega), if_neg (by omega), if_neg (by omega), if_neg (by omega), if_neg (by omega), if_neg (by omega), if_neg (by omega), if_pos (by omega)]
theorem o_sz10 {x d pp : Int32} (hx : x.toInt = -(o_M pp : Int)) (hd : d = Int32.ofNat (o_sg pp)) (h2 : ¬ ((-1000000000 : Int32) < x)) : (10 : Int32) + d = Int32.ofNat (o_pl pp) := by
  refine o_szb (x := x) (k := 10) hd ?_
  rw [Int32.lt_iff_toInt_lt, show (-1000000000 : Int32).toInt = -1000000000 by decide] at h2
  unfold o_nd
  rw [if_neg (by omega), if_neg (by omega), if_neg (by omega), if_neg (by omega), if_neg (by omega), if_neg (by omega), if_neg (by omega), if_neg (by omega), if_neg (by omega)]
theorem D37_0 : decode oY4 0 = .ok (.iconst 1, 1) := by decide +kernel
theorem D37_1 : decode oY4 1 = .ok (.istore_n 1, 1) := by decide +kernel
theorem D37_2 : decode oY4 2 = .ok (.iload_n 0, 1) := by decide +kernel
theorem D37_3 : decode oY4 3 = .ok (.ifCond .lt 8, 3) := by decide +kernel
theorem D37_6 : decode oY4 6 = .ok (.iconst 0, 1) := by decide +kernel
theorem D37_7 : decode oY4 7 = .ok (.istore_n 1, 1) := by decide +kernel
theorem D37_8 : decode oY4 8 = .ok (.iload_n 0, 1) := by decide +kernel
theorem D37_9 : decode oY4 9 = .ok (.ineg, 1) := by decide +kernel
theorem D37_10 : decode oY4 10 = .ok (.istore_n 0, 1) := by decide +kernel
theorem D37_11 : decode oY4 11 = .ok (.bipush (-10), 2) := by decide +kernel
theorem D37_13 : decode oY4 13 = .ok (.istore_n 2, 1) := by decide +kernel
theorem D37_14 : decode oY4 14 = .ok (.iconst 1, 1) := by decide +kernel
theorem D37_15 : decode oY4 15 = .ok (.istore_n 3, 1) := by decide +kernel
theorem D37_16 : decode oY4 16 = .ok (.iload_n 3, 1) := by decide +kernel
theorem D37_17 : decode oY4 17 = .ok (.bipush 10, 2) := by decide +kernel
theorem D37_19 : decode oY4 19 = .ok (.if_icmp .ge 23, 3) := by decide +kernel
theorem D37_22 : decode oY4 22 = .ok (.iload_n 0, 1) := by decide +kernel
theorem D37_23 : decode oY4 23 = .ok (.iload_n 2, 1) := by decide +kernel
theorem D37_24 : decode oY4 24 = .ok (.if_icmp .le 7, 3) := by decide +kernel
theorem D37_27 : decode oY4 27 = .ok (.iload_n 3, 1) := by decide +kernel
theorem D37_28 : decode oY4 28 = .ok (.iload_n 1, 1) := by decide +kernel
theorem D37_29 : decode oY4 29 = .ok (.iadd, 1) := by decide +kernel
theorem D37_30 : decode oY4 30 = .ok (.ireturn, 1) := by decide +kernel
theorem D37_31 : decode oY4 31 = .ok (.bipush 10, 2) := by decide +kernel
theorem D37_33 : decode oY4 33 = .ok (.iload_n 2, 1) := by decide +kernel
theorem D37_34 : decode oY4 34 = .ok (.imul, 1) := by decide +kernel
theorem D37_35 : decode oY4 35 = .ok (.istore_n 2, 1) := by decide +kernel
theorem D37_36 : decode oY4 36 = .ok (.iinc 3 1, 3) := by decide +kernel
theorem D37_39 : decode oY4 39 = .ok (.goto (-23), 3) := by decide +kernel
theorem D37_42 : decode oY4 42 = .ok (.bipush 10, 2) := by decide +kernel
theorem D37_44 : decode oY4 44 = .ok (.iload_n 1, 1) := by decide +kernel
theorem D37_45 : decode oY4 45 = .ok (.iadd, 1) := by decide +kernel
theorem D37_46 : decode oY4 46 = .ok (.ireturn, 1) := by decide +kernel
theorem o_pn_o_ssz : plainName "java/lang/Integer" = true := by first | (simp [plainName, overriddenIn]; done) | decide +kernel
def Q_o_ssz (Z : State) (pp : Int32) (h0 : Heap) (n0 : Nat) (v : Option Value) (h : Heap) (L : List Loc) : Prop := v = some (.int (Int32.ofNat (o_pl pp))) ∧ Fr n0 L ∧ h = h0
theorem o_ssz (l : Launch) (Z : State) (a0 : Array Value) (hw : ∀ d ∈ tables_1, d.before a0 Z = true) (ws : List Jvm.Cond) (pp : Int32) (h0 : Heap) (n0 : Nat) (Z0 : n0 ≤ h0.size) :
    o_MF l o_N37 oY4 4 (some .int) ws o_R2 #[(.int pp)] Z h0 (Q_o_ssz Z pp h0 n0) := by
  refine o_start (C := "java/lang/Integer") rfl (plainFor_of_name o_pn_o_ssz) fun p e s m below meth c s1 F0 Bd hx hby hml hown hnm hZ X0 e0 hF0 => ?_
  have N0 := Fr.nil n0
  have pre0 : Goes p e below s1 F0 s1 (mkF m 0 #[oI pp, oU, oU, oU] []) := fun t k => castTop (hF0.trans (by simp [entryFrame, mkF, argsToLocals, Value.category])) k
  have pre1 : Goes p e below s1 F0 s1 (mkF m 2 #[oI pp, oI 1, oU, oU] []) := fun t kt => pre0 t (by
    refine o_ic X0 hx hby D37_0 ?_
    refine XS.istoreN X0.here hx rfl (hb hby D37_1) rfl (l' := #[oI pp, oI 1, oU, oU]) rfl ?_
    exact kt)
  obtain ⟨xx, dd, hx0, hd0, pre3⟩ : ∃ (xx : Int32) (dd : Int32), (xx.toInt = -(o_M pp : Int)) ∧ (dd = Int32.ofNat (o_sg pp)) ∧ Goes p e below s1 F0 s1 (mkF m 11 #[oI xx, oI dd, oU, oU] []) := by
    have pre4 : Goes p e below s1 F0 s1 (mkF m 3 #[oI pp, oI 1, oU, oU] [(.int pp)]) := fun t kt => pre1 t (by
      refine o_il X0 hx hby D37_2 rfl ?_
      exact kt)
    by_cases hc3_5 : pp < (0 : Int32)
    · -- yes at pc 3: 
      have pre6 : Goes p e below s1 F0 s1 (mkF m 11 #[oI pp, oI 1, oU, oU] []) := fun t kt => pre4 t (by
        refine o_ifY 3 11 X0 hx hby D37_3 ((if0 _ _).trans (tlt hc3_5).1) ?_
        exact kt)
      exact ⟨pp, (1 : Int32), o_xn1 hc3_5, o_dn1 hc3_5, pre6⟩
    · -- no at pc 3: 
      have pre7 : Goes p e below s1 F0 s1 (mkF m 11 #[oI (-pp), oI 0, oU, oU] []) := fun t kt => pre4 t (by
        refine o_ifN X0 hx hby D37_3 ((if0 _ _).trans (flt hc3_5).1) ?_
        refine o_ic X0 hx hby D37_6 ?_
        refine XS.istoreN X0.here hx rfl (hb hby D37_7) rfl (l' := #[oI pp, oI 0, oU, oU]) rfl ?_
        refine o_il X0 hx hby D37_8 rfl ?_
        refine XS.ineg X0.here hx rfl (hb hby D37_9) rfl ?_
        refine XS.istoreN X0.here hx rfl (hb hby D37_10) rfl (l' := #[oI (-pp), oI 0, oU, oU]) rfl ?_
        exact kt)
      exact ⟨(-pp), (0 : Int32), o_xn0 hc3_5, o_dn0 hc3_5, pre7⟩
  have pre8 : Goes p e below s1 F0 s1 (mkF m 24 #[oI xx, oI dd, oI (-10 : Int32), oI 1] [(.int (-10 : Int32)), (.int xx)]) := fun t kt => pre3 t (by
    refine o_bp X0 hx hby D37_11 ?_
    refine XS.istoreN X0.here hx rfl (hb hby D37_13) rfl (l' := #[oI xx, oI dd, oI (-10 : Int32), oU]) rfl ?_
    refine o_ic X0 hx hby D37_14 ?_
    refine XS.istoreN X0.here hx rfl (hb hby D37_15) rfl (l' := #[oI xx, oI dd, oI (-10 : Int32), oI 1]) rfl ?_
    refine o_il X0 hx hby D37_16 rfl ?_
    refine o_bp X0 hx hby D37_17 ?_
    refine o_icN X0 hx hby D37_19 (tlt (by decide : (1 : Int32) < (10 : Int32))).2.1 ?_
    refine o_il X0 hx hby D37_22 rfl ?_
    show Steps p.tables e below (s1.setTop (mkF m 23 #[oI xx, oI dd, oI (-10 : Int32), oI 1] [(.int xx)])) _
    refine o_il X0 hx hby D37_23 rfl ?_
    exact kt)
  by_cases hc24_9 : (-10 : Int32) < xx
  · -- yes at pc 24: f
    have pre10 : Goes p e below s1 F0 s1 (mkF m 30 #[oI xx, oI dd, oI (-10 : Int32), oI 1] [(.int ((1 : Int32) + dd))]) := fun t kt => pre8 t (by
      refine o_icN X0 hx hby D37_24 (tlt hc24_9).2.2.2 ?_
      refine o_il X0 hx hby D37_27 rfl ?_
      refine o_il X0 hx hby D37_28 rfl ?_
      refine XS.iadd X0.here hx rfl (hb hby D37_29) rfl ?_
      exact kt)
    refine o_eI X0 Bd hx pre10 (hb hby D37_30) e0 ?_
    exact ⟨by rw [o_sz1 hx0 hd0 hc24_9], N0, rfl⟩
  · -- no at pc 24: f
    have pre11 : Goes p e below s1 F0 s1 (mkF m 24 #[oI xx, oI dd, oI (-100 : Int32), oI 2] [(.int (-100 : Int32)), (.int xx)]) := fun t kt => pre8 t (by
      refine o_icY 24 31 X0 hx hby D37_24 (flt hc24_9).2.2.2 ?_
      refine o_bp X0 hx hby D37_31 ?_
      refine o_il X0 hx hby D37_33 rfl ?_
      refine XS.imul X0.here hx rfl (hb hby D37_34) rfl ?_
      refine XS.istoreN X0.here hx rfl (hb hby D37_35) rfl (l' := #[oI xx, oI dd, oI (-100 : Int32), oI 1]) rfl ?_
      refine XS.iinc X0.here hx rfl (hb hby D37_36) rfl (l' := #[oI xx, oI dd, oI (-100 : Int32), oI 2]) rfl ?_
      refine o_gt 39 16 X0 hx hby D37_39 ?_
      refine o_il X0 hx hby D37_16 rfl ?_
      show Steps p.tables e below (s1.setTop (mkF m 17 #[oI xx, oI dd, oI (-100 : Int32), oI 2] [(.int 2)])) _
      refine o_bp X0 hx hby D37_17 ?_
      refine o_icN X0 hx hby D37_19 (tlt (by decide : (2 : Int32) < (10 : Int32))).2.1 ?_
      refine o_il X0 hx hby D37_22 rfl ?_
      refine o_il X0 hx hby D37_23 rfl ?_
      exact kt)
    by_cases hc24_12 : (-100 : Int32) < xx
    · -- yes at pc 24: ftf
      have pre13 : Goes p e below s1 F0 s1 (mkF m 30 #[oI xx, oI dd, oI (-100 : Int32), oI 2] [(.int ((2 : Int32) + dd))]) := fun t kt => pre11 t (by
        refine o_icN X0 hx hby D37_24 (tlt hc24_12).2.2.2 ?_
        refine o_il X0 hx hby D37_27 rfl ?_
        refine o_il X0 hx hby D37_28 rfl ?_
        refine XS.iadd X0.here hx rfl (hb hby D37_29) rfl ?_
        exact kt)
      refine o_eI X0 Bd hx pre13 (hb hby D37_30) e0 ?_
      exact ⟨by rw [o_sz2 hx0 hd0 hc24_9 hc24_12], N0, rfl⟩
    · -- no at pc 24: ftf
      have pre14 : Goes p e below s1 F0 s1 (mkF m 24 #[oI xx, oI dd, oI (-1000 : Int32), oI 3] [(.int (-1000 : Int32)), (.int xx)]) := fun t kt => pre11 t (by
        refine o_icY 24 31 X0 hx hby D37_24 (flt hc24_12).2.2.2 ?_
        refine o_bp X0 hx hby D37_31 ?_
        refine o_il X0 hx hby D37_33 rfl ?_
        refine XS.imul X0.here hx rfl (hb hby D37_34) rfl ?_
        refine XS.istoreN X0.here hx rfl (hb hby D37_35) rfl (l' := #[oI xx, oI dd, oI (-1000 : Int32), oI 2]) rfl ?_
        refine XS.iinc X0.here hx rfl (hb hby D37_36) rfl (l' := #[oI xx, oI dd, oI (-1000 : Int32), oI 3]) rfl ?_
        refine o_gt 39 16 X0 hx hby D37_39 ?_
        refine o_il X0 hx hby D37_16 rfl ?_
        show Steps p.tables e below (s1.setTop (mkF m 17 #[oI xx, oI dd, oI (-1000 : Int32), oI 3] [(.int 3)])) _
        refine o_bp X0 hx hby D37_17 ?_
        refine o_icN X0 hx hby D37_19 (tlt (by decide : (3 : Int32) < (10 : Int32))).2.1 ?_
        refine o_il X0 hx hby D37_22 rfl ?_
        refine o_il X0 hx hby D37_23 rfl ?_
        exact kt)
      by_cases hc24_15 : (-1000 : Int32) < xx
      · -- yes at pc 24: ftftf
        have pre16 : Goes p e below s1 F0 s1 (mkF m 30 #[oI xx, oI dd, oI (-1000 : Int32), oI 3] [(.int ((3 : Int32) + dd))]) := fun t kt => pre14 t (by
          refine o_icN X0 hx hby D37_24 (tlt hc24_15).2.2.2 ?_
          refine o_il X0 hx hby D37_27 rfl ?_
          refine o_il X0 hx hby D37_28 rfl ?_
          refine XS.iadd X0.here hx rfl (hb hby D37_29) rfl ?_
          exact kt)
        refine o_eI X0 Bd hx pre16 (hb hby D37_30) e0 ?_
        exact ⟨by rw [o_sz3 hx0 hd0 hc24_12 hc24_15], N0, rfl⟩
      · -- no at pc 24: ftftf
        have pre17 : Goes p e below s1 F0 s1 (mkF m 24 #[oI xx, oI dd, oI (-10000 : Int32), oI 4] [(.int (-10000 : Int32)), (.int xx)]) := fun t kt => pre14 t (by
          refine o_icY 24 31 X0 hx hby D37_24 (flt hc24_15).2.2.2 ?_
          refine o_bp X0 hx hby D37_31 ?_
          refine o_il X0 hx hby D37_33 rfl ?_
          refine XS.imul X0.here hx rfl (hb hby D37_34) rfl ?_
          refine XS.istoreN X0.here hx rfl (hb hby D37_35) rfl (l' := #[oI xx, oI dd, oI (-10000 : Int32), oI 3]) rfl ?_
          refine XS.iinc X0.here hx rfl (hb hby D37_36) rfl (l' := #[oI xx, oI dd, oI (-10000 : Int32), oI 4]) rfl ?_
          refine o_gt 39 16 X0 hx hby D37_39 ?_
          refine o_il X0 hx hby D37_16 rfl ?_
          show Steps p.tables e below (s1.setTop (mkF m 17 #[oI xx, oI dd, oI (-10000 : Int32), oI 4] [(.int 4)])) _
          refine o_bp X0 hx hby D37_17 ?_
          refine o_icN X0 hx hby D37_19 (tlt (by decide : (4 : Int32) < (10 : Int32))).2.1 ?_
          refine o_il X0 hx hby D37_22 rfl ?_
          refine o_il X0 hx hby D37_23 rfl ?_
          exact kt)
        by_cases hc24_18 : (-10000 : Int32) < xx
        · -- yes at pc 24: ftftftf
          have pre19 : Goes p e below s1 F0 s1 (mkF m 30 #[oI xx, oI dd, oI (-10000 : Int32), oI 4] [(.int ((4 : Int32) + dd))]) := fun t kt => pre17 t (by
            refine o_icN X0 hx hby D37_24 (tlt hc24_18).2.2.2 ?_
            refine o_il X0 hx hby D37_27 rfl ?_
            refine o_il X0 hx hby D37_28 rfl ?_
            refine XS.iadd X0.here hx rfl (hb hby D37_29) rfl ?_
            exact kt)
          refine o_eI X0 Bd hx pre19 (hb hby D37_30) e0 ?_
          exact ⟨by rw [o_sz4 hx0 hd0 hc24_15 hc24_18], N0, rfl⟩
        · -- no at pc 24: ftftftf
          have pre20 : Goes p e below s1 F0 s1 (mkF m 24 #[oI xx, oI dd, oI (-100000 : Int32), oI 5] [(.int (-100000 : Int32)), (.int xx)]) := fun t kt => pre17 t (by
            refine o_icY 24 31 X0 hx hby D37_24 (flt hc24_18).2.2.2 ?_
            refine o_bp X0 hx hby D37_31 ?_
            refine o_il X0 hx hby D37_33 rfl ?_
            refine XS.imul X0.here hx rfl (hb hby D37_34) rfl ?_
            refine XS.istoreN X0.here hx rfl (hb hby D37_35) rfl (l' := #[oI xx, oI dd, oI (-100000 : Int32), oI 4]) rfl ?_
            refine XS.iinc X0.here hx rfl (hb hby D37_36) rfl (l' := #[oI xx, oI dd, oI (-100000 : Int32), oI 5]) rfl ?_
            refine o_gt 39 16 X0 hx hby D37_39 ?_
            refine o_il X0 hx hby D37_16 rfl ?_
            show Steps p.tables e below (s1.setTop (mkF m 17 #[oI xx, oI dd, oI (-100000 : Int32), oI 5] [(.int 5)])) _
            refine o_bp X0 hx hby D37_17 ?_
            refine o_icN X0 hx hby D37_19 (tlt (by decide : (5 : Int32) < (10 : Int32))).2.1 ?_
            refine o_il X0 hx hby D37_22 rfl ?_
            refine o_il X0 hx hby D37_23 rfl ?_
            exact kt)
          by_cases hc24_21 : (-100000 : Int32) < xx
          · -- yes at pc 24: ftftftftf
            have pre22 : Goes p e below s1 F0 s1 (mkF m 30 #[oI xx, oI dd, oI (-100000 : Int32), oI 5] [(.int ((5 : Int32) + dd))]) := fun t kt => pre20 t (by
              refine o_icN X0 hx hby D37_24 (tlt hc24_21).2.2.2 ?_
              refine o_il X0 hx hby D37_27 rfl ?_
              refine o_il X0 hx hby D37_28 rfl ?_
              refine XS.iadd X0.here hx rfl (hb hby D37_29) rfl ?_
              exact kt)
            refine o_eI X0 Bd hx pre22 (hb hby D37_30) e0 ?_
            exact ⟨by rw [o_sz5 hx0 hd0 hc24_18 hc24_21], N0, rfl⟩
          · -- no at pc 24: ftftftftf
            have pre23 : Goes p e below s1 F0 s1 (mkF m 24 #[oI xx, oI dd, oI (-1000000 : Int32), oI 6] [(.int (-1000000 : Int32)), (.int xx)]) := fun t kt => pre20 t (by
              refine o_icY 24 31 X0 hx hby D37_24 (flt hc24_21).2.2.2 ?_
              refine o_bp X0 hx hby D37_31 ?_
              refine o_il X0 hx hby D37_33 rfl ?_
              refine XS.imul X0.here hx rfl (hb hby D37_34) rfl ?_
              refine XS.istoreN X0.here hx rfl (hb hby D37_35) rfl (l' := #[oI xx, oI dd, oI (-1000000 : Int32), oI 5]) rfl ?_
              refine XS.iinc X0.here hx rfl (hb hby D37_36) rfl (l' := #[oI xx, oI dd, oI (-1000000 : Int32), oI 6]) rfl ?_
              refine o_gt 39 16 X0 hx hby D37_39 ?_
              refine o_il X0 hx hby D37_16 rfl ?_
              show Steps p.tables e below (s1.setTop (mkF m 17 #[oI xx, oI dd, oI (-1000000 : Int32), oI 6] [(.int 6)])) _
              refine o_bp X0 hx hby D37_17 ?_
              refine o_icN X0 hx hby D37_19 (tlt (by decide : (6 : Int32) < (10 : Int32))).2.1 ?_
              refine o_il X0 hx hby D37_22 rfl ?_
              refine o_il X0 hx hby D37_23 rfl ?_
              exact kt)
            by_cases hc24_24 : (-1000000 : Int32) < xx
            · -- yes at pc 24: ftftftftftf
              have pre25 : Goes p e below s1 F0 s1 (mkF m 30 #[oI xx, oI dd, oI (-1000000 : Int32), oI 6] [(.int ((6 : Int32) + dd))]) := fun t kt => pre23 t (by
                refine o_icN X0 hx hby D37_24 (tlt hc24_24).2.2.2 ?_
                refine o_il X0 hx hby D37_27 rfl ?_
                refine o_il X0 hx hby D37_28 rfl ?_
                refine XS.iadd X0.here hx rfl (hb hby D37_29) rfl ?_
                exact kt)
              refine o_eI X0 Bd hx pre25 (hb hby D37_30) e0 ?_
              exact ⟨by rw [o_sz6 hx0 hd0 hc24_21 hc24_24], N0, rfl⟩
            · -- no at pc 24: ftftftftftf
              have pre26 : Goes p e below s1 F0 s1 (mkF m 24 #[oI xx, oI dd, oI (-10000000 : Int32), oI 7] [(.int (-10000000 : Int32)), (.int xx)]) := fun t kt => pre23 t (by
                refine o_icY 24 31 X0 hx hby D37_24 (flt hc24_24).2.2.2 ?_
                refine o_bp X0 hx hby D37_31 ?_
                refine o_il X0 hx hby D37_33 rfl ?_
                refine XS.imul X0.here hx rfl (hb hby D37_34) rfl ?_
                refine XS.istoreN X0.here hx rfl (hb hby D37_35) rfl (l' := #[oI xx, oI dd, oI (-10000000 : Int32), oI 6]) rfl ?_
                refine XS.iinc X0.here hx rfl (hb hby D37_36) rfl (l' := #[oI xx, oI dd, oI (-10000000 : Int32), oI 7]) rfl ?_
                refine o_gt 39 16 X0 hx hby D37_39 ?_
                refine o_il X0 hx hby D37_16 rfl ?_
                show Steps p.tables e below (s1.setTop (mkF m 17 #[oI xx, oI dd, oI (-10000000 : Int32), oI 7] [(.int 7)])) _
                refine o_bp X0 hx hby D37_17 ?_
                refine o_icN X0 hx hby D37_19 (tlt (by decide : (7 : Int32) < (10 : Int32))).2.1 ?_
                refine o_il X0 hx hby D37_22 rfl ?_
                refine o_il X0 hx hby D37_23 rfl ?_
                exact kt)
              by_cases hc24_27 : (-10000000 : Int32) < xx
              · -- yes at pc 24: ftftftftftftf
                have pre28 : Goes p e below s1 F0 s1 (mkF m 30 #[oI xx, oI dd, oI (-10000000 : Int32), oI 7] [(.int ((7 : Int32) + dd))]) := fun t kt => pre26 t (by
                  refine o_icN X0 hx hby D37_24 (tlt hc24_27).2.2.2 ?_
                  refine o_il X0 hx hby D37_27 rfl ?_
                  refine o_il X0 hx hby D37_28 rfl ?_
                  refine XS.iadd X0.here hx rfl (hb hby D37_29) rfl ?_
                  exact kt)
                refine o_eI X0 Bd hx pre28 (hb hby D37_30) e0 ?_
                exact ⟨by rw [o_sz7 hx0 hd0 hc24_24 hc24_27], N0, rfl⟩
              · -- no at pc 24: ftftftftftftf
                have pre29 : Goes p e below s1 F0 s1 (mkF m 24 #[oI xx, oI dd, oI (-100000000 : Int32), oI 8] [(.int (-100000000 : Int32)), (.int xx)]) := fun t kt => pre26 t (by
                  refine o_icY 24 31 X0 hx hby D37_24 (flt hc24_27).2.2.2 ?_
                  refine o_bp X0 hx hby D37_31 ?_
                  refine o_il X0 hx hby D37_33 rfl ?_
                  refine XS.imul X0.here hx rfl (hb hby D37_34) rfl ?_
                  refine XS.istoreN X0.here hx rfl (hb hby D37_35) rfl (l' := #[oI xx, oI dd, oI (-100000000 : Int32), oI 7]) rfl ?_
                  refine XS.iinc X0.here hx rfl (hb hby D37_36) rfl (l' := #[oI xx, oI dd, oI (-100000000 : Int32), oI 8]) rfl ?_
                  refine o_gt 39 16 X0 hx hby D37_39 ?_
                  refine o_il X0 hx hby D37_16 rfl ?_
                  show Steps p.tables e below (s1.setTop (mkF m 17 #[oI xx, oI dd, oI (-100000000 : Int32), oI 8] [(.int 8)])) _
                  refine o_bp X0 hx hby D37_17 ?_
                  refine o_icN X0 hx hby D37_19 (tlt (by decide : (8 : Int32) < (10 : Int32))).2.1 ?_
                  refine o_il X0 hx hby D37_22 rfl ?_
                  refine o_il X0 hx hby D37_23 rfl ?_
                  exact kt)
                by_cases hc24_30 : (-100000000 : Int32) < xx
                · -- yes at pc 24: ftftftftftftftf
                  have pre31 : Goes p e below s1 F0 s1 (mkF m 30 #[oI xx, oI dd, oI (-100000000 : Int32), oI 8] [(.int ((8 : Int32) + dd))]) := fun t kt => pre29 t (by
                    refine o_icN X0 hx hby D37_24 (tlt hc24_30).2.2.2 ?_
                    refine o_il X0 hx hby D37_27 rfl ?_
                    refine o_il X0 hx hby D37_28 rfl ?_
                    refine XS.iadd X0.here hx rfl (hb hby D37_29) rfl ?_
                    exact kt)
                  refine o_eI X0 Bd hx pre31 (hb hby D37_30) e0 ?_
                  exact ⟨by rw [o_sz8 hx0 hd0 hc24_27 hc24_30], N0, rfl⟩
                · -- no at pc 24: ftftftftftftftf
                  have pre32 : Goes p e below s1 F0 s1 (mkF m 24 #[oI xx, oI dd, oI (-1000000000 : Int32), oI 9] [(.int (-1000000000 : Int32)), (.int xx)]) := fun t kt => pre29 t (by
                    refine o_icY 24 31 X0 hx hby D37_24 (flt hc24_30).2.2.2 ?_
                    refine o_bp X0 hx hby D37_31 ?_
                    refine o_il X0 hx hby D37_33 rfl ?_
                    refine XS.imul X0.here hx rfl (hb hby D37_34) rfl ?_
                    refine XS.istoreN X0.here hx rfl (hb hby D37_35) rfl (l' := #[oI xx, oI dd, oI (-1000000000 : Int32), oI 8]) rfl ?_
                    refine XS.iinc X0.here hx rfl (hb hby D37_36) rfl (l' := #[oI xx, oI dd, oI (-1000000000 : Int32), oI 9]) rfl ?_
                    refine o_gt 39 16 X0 hx hby D37_39 ?_
                    refine o_il X0 hx hby D37_16 rfl ?_
                    show Steps p.tables e below (s1.setTop (mkF m 17 #[oI xx, oI dd, oI (-1000000000 : Int32), oI 9] [(.int 9)])) _
                    refine o_bp X0 hx hby D37_17 ?_
                    refine o_icN X0 hx hby D37_19 (tlt (by decide : (9 : Int32) < (10 : Int32))).2.1 ?_
                    refine o_il X0 hx hby D37_22 rfl ?_
                    refine o_il X0 hx hby D37_23 rfl ?_
                    exact kt)
                  by_cases hc24_33 : (-1000000000 : Int32) < xx
                  · -- yes at pc 24: ftftftftftftftftf
                    have pre34 : Goes p e below s1 F0 s1 (mkF m 30 #[oI xx, oI dd, oI (-1000000000 : Int32), oI 9] [(.int ((9 : Int32) + dd))]) := fun t kt => pre32 t (by
                      refine o_icN X0 hx hby D37_24 (tlt hc24_33).2.2.2 ?_
                      refine o_il X0 hx hby D37_27 rfl ?_
                      refine o_il X0 hx hby D37_28 rfl ?_
                      refine XS.iadd X0.here hx rfl (hb hby D37_29) rfl ?_
                      exact kt)
                    refine o_eI X0 Bd hx pre34 (hb hby D37_30) e0 ?_
                    exact ⟨by rw [o_sz9 hx0 hd0 hc24_30 hc24_33], N0, rfl⟩
                  · -- no at pc 24: ftftftftftftftftf
                    have pre35 : Goes p e below s1 F0 s1 (mkF m 46 #[oI xx, oI dd, oI (-1410065408 : Int32), oI 10] [(.int ((10 : Int32) + dd))]) := fun t kt => pre32 t (by
                      refine o_icY 24 31 X0 hx hby D37_24 (flt hc24_33).2.2.2 ?_
                      refine o_bp X0 hx hby D37_31 ?_
                      refine o_il X0 hx hby D37_33 rfl ?_
                      refine XS.imul X0.here hx rfl (hb hby D37_34) rfl ?_
                      refine XS.istoreN X0.here hx rfl (hb hby D37_35) rfl (l' := #[oI xx, oI dd, oI (-1410065408 : Int32), oI 9]) rfl ?_
                      refine XS.iinc X0.here hx rfl (hb hby D37_36) rfl (l' := #[oI xx, oI dd, oI (-1410065408 : Int32), oI 10]) rfl ?_
                      refine o_gt 39 16 X0 hx hby D37_39 ?_
                      refine o_il X0 hx hby D37_16 rfl ?_
                      show Steps p.tables e below (s1.setTop (mkF m 17 #[oI xx, oI dd, oI (-1410065408 : Int32), oI 10] [(.int 10)])) _
                      refine o_bp X0 hx hby D37_17 ?_
                      refine o_icY 19 42 X0 hx hby D37_19 (flt (by decide : ¬ ((10 : Int32) < (10 : Int32)))).2.1 ?_
                      refine o_bp X0 hx hby D37_42 ?_
                      refine o_il X0 hx hby D37_44 rfl ?_
                      refine XS.iadd X0.here hx rfl (hb hby D37_45) rfl ?_
                      exact kt)
                    refine o_eI X0 Bd hx pre35 (hb hby D37_46) e0 ?_
                    exact ⟨by rw [o_sz10 hx0 hd0 hc24_33], N0, rfl⟩
def Q_o_isl0 (Z : State) (x1 ab : Addr) (kb : ClassId) (us : List Value) (cc : Nat) (cs : Int32) (fm : Value) (h0 : Heap) (n0 : Nat) (v : Option Value) (h : Heap) (L : List Loc) : Prop := v = some (.int 1) ∧ Fr n0 L ∧ h = h0
theorem o_isl0 (l : Launch) (Z : State) (a0 : Array Value) (hw : ∀ d ∈ tables_1, d.before a0 Z = true) (ws : List Jvm.Cond) (x1 ab : Addr) (kb : ClassId) (us : List Value) (cc : Nat) (cs : Int32) (fm : Value) (h0 : Heap) (n0 : Nat) (Z0 : n0 ≤ h0.size) (hS : o_SB Z h0 n0 x1 ab kb us cc (0 : Int32) (16 : Int32) 16) (hst : o_ST Z cs fm) (O0 : Old Z n0 h0) :
    o_MF l o_N30 oY51 1 (some .boolean) ws o_R2 #[(.ref x1)] Z h0 (Q_o_isl0 Z x1 ab kb us cc cs fm h0 n0) := by
  refine o_start (C := "java/lang/AbstractStringBuilder") rfl (plainFor_of_name o_pn_o_ai) fun p e s m below meth c s1 F0 Bd hx hby hml hown hnm hZ X0 e0 hF0 => ?_
  have N0 := Fr.nil n0
  have pre0 : Goes p e below s1 F0 s1 (mkF m 0 #[oR x1] []) := fun t k => castTop (hF0.trans (by simp [entryFrame, mkF, argsToLocals, Value.category])) k
  obtain ⟨E_x1, F_value, F_coder, F_count, F_maybeLatin1, V_ab, hlu, nxa, g_x1, g_ab⟩ := (id (hS))
  obtain ⟨T1, X1, e1, st1⟩ := getS2 X0 hx hZ hown (host := "") (Or.inl (oV hw 65 rfl)) Via.refl e0 (hst.1.ext O0.2) (g := (mkF m 0 #[oR x1] [])) rfl (hb hby D30_0)
  have pre2 : Goes p e below s1 F0 T1 (mkF m 3 #[oR x1] [(.int cs)]) := fun t kt => pre0 t (st1 t kt)
  obtain ⟨T3, X3, e3, st3⟩ := getF X1 hx hZ hown (host := "") (Or.inl (oV hw 68 rfl)) Via.refl e1 F_coder (g := (mkF m 7 #[oR x1] [(.ref x1)])) rfl rfl (hb hby D30_7)
  have pre4 : Goes p e below s1 F0 T3 (mkF m 10 #[oR x1] [(.int 0)]) := fun t kt => pre2 t (by
    refine o_ifN X1 hx hby D30_3 ((if0 _ _).trans (feq hst.2.1).1) ?_
    refine o_al X1 hx hby D30_6 rfl ?_
    exact st3 t kt)
  have pre5 : Goes p e below s1 F0 T3 (mkF m 18 #[oR x1] [(.int 1)]) := fun t kt => pre4 t (by
    refine o_ifN X3 hx hby D30_10 ((if0 _ _).trans (teq (by decide : (0 : Int32) = (0 : Int32))).2) ?_
    refine o_ic X3 hx hby D30_13 ?_
    refine o_gt 14 18 X3 hx hby D30_14 ?_
    exact kt)
  refine o_eN X3 Bd hx pre5 (hb hby D30_18) e3 ?_
  exact ⟨rfl, N0, rfl⟩
theorem D38_0 : decode oY3 0 = .ok (.iload_n 1, 1) := by decide +kernel
theorem D38_1 : decode oY3 1 = .ok (.istore 5, 2) := by decide +kernel
theorem D38_3 : decode oY3 3 = .ok (.iload_n 0, 1) := by decide +kernel
theorem D38_4 : decode oY3 4 = .ok (.ifCond .ge 7, 3) := by decide +kernel
theorem D38_7 : decode oY3 7 = .ok (.iconst 1, 1) := by decide +kernel
theorem D38_8 : decode oY3 8 = .ok (.goto 4, 3) := by decide +kernel
theorem D38_11 : decode oY3 11 = .ok (.iconst 0, 1) := by decide +kernel
theorem D38_12 : decode oY3 12 = .ok (.istore 6, 2) := by decide +kernel
theorem D38_14 : decode oY3 14 = .ok (.iload 6, 2) := by decide +kernel
theorem D38_16 : decode oY3 16 = .ok (.ifCond .ne 6, 3) := by decide +kernel
theorem D38_19 : decode oY3 19 = .ok (.iload_n 0, 1) := by decide +kernel
theorem D38_20 : decode oY3 20 = .ok (.ineg, 1) := by decide +kernel
theorem D38_21 : decode oY3 21 = .ok (.istore_n 0, 1) := by decide +kernel
theorem D38_22 : decode oY3 22 = .ok (.iload_n 0, 1) := by decide +kernel
theorem D38_23 : decode oY3 23 = .ok (.bipush (-100), 2) := by decide +kernel
theorem D38_25 : decode oY3 25 = .ok (.if_icmp .gt 47, 3) := by decide +kernel
theorem D38_28 : decode oY3 28 = .ok (.iload_n 0, 1) := by decide +kernel
theorem D38_29 : decode oY3 29 = .ok (.bipush 100, 2) := by decide +kernel
theorem D38_31 : decode oY3 31 = .ok (.idiv, 1) := by decide +kernel
theorem D38_32 : decode oY3 32 = .ok (.istore_n 3, 1) := by decide +kernel
theorem D38_33 : decode oY3 33 = .ok (.iload_n 3, 1) := by decide +kernel
theorem D38_34 : decode oY3 34 = .ok (.bipush 100, 2) := by decide +kernel
theorem D38_36 : decode oY3 36 = .ok (.imul, 1) := by decide +kernel
theorem D38_37 : decode oY3 37 = .ok (.iload_n 0, 1) := by decide +kernel
theorem D38_38 : decode oY3 38 = .ok (.isub, 1) := by decide +kernel
theorem D38_39 : decode oY3 39 = .ok (.istore 4, 2) := by decide +kernel
theorem D38_41 : decode oY3 41 = .ok (.iload_n 3, 1) := by decide +kernel
theorem D38_42 : decode oY3 42 = .ok (.istore_n 0, 1) := by decide +kernel
theorem D38_43 : decode oY3 43 = .ok (.aload_n 2, 1) := by decide +kernel
theorem D38_44 : decode oY3 44 = .ok (.iinc 5 (-1), 3) := by decide +kernel
theorem D38_47 : decode oY3 47 = .ok (.iload 5, 2) := by decide +kernel
theorem D38_49 : decode oY3 49 = .ok (.getstatic 83, 3) := by decide +kernel
theorem D38_52 : decode oY3 52 = .ok (.iload 4, 2) := by decide +kernel
theorem D38_54 : decode oY3 54 = .ok (.baload, 1) := by decide +kernel
theorem D38_55 : decode oY3 55 = .ok (.bastore, 1) := by decide +kernel
theorem D38_56 : decode oY3 56 = .ok (.aload_n 2, 1) := by decide +kernel
theorem D38_57 : decode oY3 57 = .ok (.iinc 5 (-1), 3) := by decide +kernel
theorem D38_60 : decode oY3 60 = .ok (.iload 5, 2) := by decide +kernel
theorem D38_62 : decode oY3 62 = .ok (.getstatic 87, 3) := by decide +kernel
theorem D38_65 : decode oY3 65 = .ok (.iload 4, 2) := by decide +kernel
theorem D38_67 : decode oY3 67 = .ok (.baload, 1) := by decide +kernel
theorem D38_68 : decode oY3 68 = .ok (.bastore, 1) := by decide +kernel
theorem D38_69 : decode oY3 69 = .ok (.goto (-47), 3) := by decide +kernel
theorem D38_72 : decode oY3 72 = .ok (.aload_n 2, 1) := by decide +kernel
theorem D38_73 : decode oY3 73 = .ok (.iinc 5 (-1), 3) := by decide +kernel
theorem D38_76 : decode oY3 76 = .ok (.iload 5, 2) := by decide +kernel
theorem D38_78 : decode oY3 78 = .ok (.getstatic 83, 3) := by decide +kernel
theorem D38_81 : decode oY3 81 = .ok (.iload_n 0, 1) := by decide +kernel
theorem D38_82 : decode oY3 82 = .ok (.ineg, 1) := by decide +kernel
theorem D38_83 : decode oY3 83 = .ok (.baload, 1) := by decide +kernel
theorem D38_84 : decode oY3 84 = .ok (.bastore, 1) := by decide +kernel
theorem D38_85 : decode oY3 85 = .ok (.iload_n 0, 1) := by decide +kernel
theorem D38_86 : decode oY3 86 = .ok (.bipush (-9), 2) := by decide +kernel
theorem D38_88 : decode oY3 88 = .ok (.if_icmp .ge 16, 3) := by decide +kernel
theorem D38_91 : decode oY3 91 = .ok (.aload_n 2, 1) := by decide +kernel
theorem D38_92 : decode oY3 92 = .ok (.iinc 5 (-1), 3) := by decide +kernel
theorem D38_95 : decode oY3 95 = .ok (.iload 5, 2) := by decide +kernel
theorem D38_97 : decode oY3 97 = .ok (.getstatic 87, 3) := by decide +kernel
theorem D38_100 : decode oY3 100 = .ok (.iload_n 0, 1) := by decide +kernel
theorem D38_101 : decode oY3 101 = .ok (.ineg, 1) := by decide +kernel
theorem D38_102 : decode oY3 102 = .ok (.baload, 1) := by decide +kernel
theorem D38_103 : decode oY3 103 = .ok (.bastore, 1) := by decide +kernel
theorem D38_104 : decode oY3 104 = .ok (.iload 6, 2) := by decide +kernel
theorem D38_106 : decode oY3 106 = .ok (.ifCond .eq 12, 3) := by decide +kernel
theorem D38_109 : decode oY3 109 = .ok (.aload_n 2, 1) := by decide +kernel
theorem D38_110 : decode oY3 110 = .ok (.iinc 5 (-1), 3) := by decide +kernel
theorem D38_113 : decode oY3 113 = .ok (.iload 5, 2) := by decide +kernel
theorem D38_115 : decode oY3 115 = .ok (.bipush 45, 2) := by decide +kernel
theorem D38_117 : decode oY3 117 = .ok (.bastore, 1) := by decide +kernel
theorem D38_118 : decode oY3 118 = .ok (.iload 5, 2) := by decide +kernel
theorem D38_120 : decode oY3 120 = .ok (.ireturn, 1) := by decide +kernel
theorem o_gcT0 {p : Program} {l : Launch} {e : Env} {s : State} {m : MethodId} {args : Array Value} {below : List Frame} {meth : Method} {c : Code} {Z : State} {a0 : Array Value} (ab : Addr) (kb : ClassId) (ee : Nat) (sv : Int32) (n0 : Nat) (cs : Int32) (fm : Value) (aO aT : Addr) (mm cc : Nat) (ii : Int32) (us : List Value) {T0 : State} {h0 : Heap} {locs : List Loc} {s3 s4 : Slot} (hx : p.tables.exec = Jvm.exec) (hZ : Z.Warmed39 s.vm) (hw : ∀ d ∈ tables_1, d.before a0 Z = true) (hby : c.code = oY3) (hml : c.maxLocals = 7) (hown : s.vm.findClass "java/lang/Integer" = some m.cls) (X0 : Stand p l e o_R2 s m args below meth c T0 locs 0 0) (e0 : T0.heap = h0) (N0 : Fr n0 locs) (Z0 : n0 ≤ h0.size) (g_ab : n0 ≤ ab) (V_ab : Arv Z h0 ab kb .byte (16 : Int32) us (.int 0)) (hlu : us.length = 16) (hst : o_ST Z cs fm) (hdg : o_DG Z aO aT) (O0 : Old Z n0 h0) (hi : ii.toInt = -(mm : Int)) (h100 : 100 ≤ mm) (hm : mm ≤ 2147483648) (hc2 : 2 ≤ cc) (hc16 : cc ≤ 16) (h3 : (s3 = oU ∨ ∃ w, s3 = .val w ∧ w.category = 1)) (h4 : (s4 = oU ∨ ∃ w, s4 = .val w ∧ w.category = 1)) :
    ∃ (T' : State) (h' : Heap) (locs' : List Loc) (s3' s4' : Slot), Stand p l e o_R2 s m args below meth c T' locs' 0 0 ∧ T'.heap = h' ∧ Fr n0 locs' ∧ Keep h0 h' [ab] ∧ Arv Z h' ab kb .byte (16 : Int32) (o_P false (o_P false us (cc - 1) (o_dj mm 0)) (cc - 2) (o_dj mm 1)) (.int 0) ∧ (s3' = oU ∨ ∃ w, s3' = .val w ∧ w.category = 1) ∧ (s4' = oU ∨ ∃ w, s4' = .val w ∧ w.category = 1) ∧ Goes p e below T0 (mkF m 22 #[oI ii, oI (Int32.ofNat ee), oR ab, s3, s4, oI (Int32.ofNat cc), oI sv] []) T' (mkF m 22 #[oI (ii / (100 : Int32)), oI (Int32.ofNat ee), oR ab, s3', s4', oI (Int32.ofNat (cc - 2)), oI sv] []) := by
  obtain ⟨F0, hF0⟩ : ∃ F, F = (mkF m 22 #[oI ii, oI (Int32.ofNat ee), oR ab, s3, s4, oI (Int32.ofNat cc), oI sv] []) := ⟨_, rfl⟩
  have pre0 : Goes p e below T0 F0 T0 (mkF m 22 #[oI ii, oI (Int32.ofNat ee), oR ab, s3, s4, oI (Int32.ofNat cc), oI sv] []) := by rw [hF0]; exact fun t k => k
  have pre1 : Goes p e below T0 F0 T0 (mkF m 39 #[oI ii, oI (Int32.ofNat ee), oR ab, oI (ii / (100 : Int32)), s4, oI (Int32.ofNat cc), oI sv] [(.int (((ii / (100 : Int32)) * (100 : Int32)) - ii))]) := fun t kt => pre0 t (by
    refine o_il X0 hx hby D38_22 rfl ?_
    refine o_bp X0 hx hby D38_23 ?_
    refine o_icN X0 hx hby D38_25 (flt (o_t100 hi h100)).2.2.1 ?_
    refine o_il X0 hx hby D38_28 rfl ?_
    refine o_bp X0 hx hby D38_29 ?_
    refine XS.idiv X0.here hx rfl (hb hby D38_31) rfl (by decide) ?_
    refine XS.istoreN X0.here hx rfl (hb hby D38_32) rfl (l' := #[oI ii, oI (Int32.ofNat ee), oR ab, oI (ii / (100 : Int32)), s4, oI (Int32.ofNat cc), oI sv]) (XS.store1 rfl h3 rfl) ?_
    refine o_il X0 hx hby D38_33 rfl ?_
    show Steps p.tables e below (T0.setTop (mkF m 34 #[oI ii, oI (Int32.ofNat ee), oR ab, oI (ii / (100 : Int32)), s4, oI (Int32.ofNat cc), oI sv] [(.int (ii / (100 : Int32)))])) _
    refine o_bp X0 hx hby D38_34 ?_
    refine XS.imul X0.here hx rfl (hb hby D38_36) rfl ?_
    refine o_il X0 hx hby D38_37 rfl ?_
    refine XS.isub X0.here hx rfl (hb hby D38_38) rfl ?_
    exact kt)
  rw [show (((ii / (100 : Int32)) * (100 : Int32)) - ii) = (Int32.ofNat (mm % 100)) from o_r100 hi hm] at pre1
  have pre2 : Goes p e below T0 F0 T0 (mkF m 47 #[oI (ii / (100 : Int32)), oI (Int32.ofNat ee), oR ab, oI (ii / (100 : Int32)), oI (Int32.ofNat (mm % 100)), oI ((Int32.ofNat cc) + (-1 : Int32)), oI sv] [(.ref ab)]) := fun t kt => pre1 t (by
    refine XS.istore X0.here hx rfl (hb hby D38_39) rfl (l' := #[oI ii, oI (Int32.ofNat ee), oR ab, oI (ii / (100 : Int32)), oI (Int32.ofNat (mm % 100)), oI (Int32.ofNat cc), oI sv]) (XS.store1 rfl h4 rfl) ?_
    refine o_il X0 hx hby D38_41 rfl ?_
    refine XS.istoreN X0.here hx rfl (hb hby D38_42) rfl (l' := #[oI (ii / (100 : Int32)), oI (Int32.ofNat ee), oR ab, oI (ii / (100 : Int32)), oI (Int32.ofNat (mm % 100)), oI (Int32.ofNat cc), oI sv]) rfl ?_
    refine o_al X0 hx hby D38_43 rfl ?_
    refine XS.iinc X0.here hx rfl (hb hby D38_44) rfl (l' := #[oI (ii / (100 : Int32)), oI (Int32.ofNat ee), oR ab, oI (ii / (100 : Int32)), oI (Int32.ofNat (mm % 100)), oI ((Int32.ofNat cc) + (-1 : Int32)), oI sv]) rfl ?_
    exact kt)
  rw [show ((Int32.ofNat cc) + (-1 : Int32)) = (Int32.ofNat (cc - 1)) from o_omk (a := cc) (i := 0) (by omega) (by omega)] at pre2
  obtain ⟨T3, X3, e3, st3⟩ := getS2 X0 hx hZ hown (host := "") (Or.inl (oV hw 141 rfl)) Via.refl e0 (hdg.1.ext O0.2) (g := (mkF m 49 #[oI (ii / (100 : Int32)), oI (Int32.ofNat ee), oR ab, oI (ii / (100 : Int32)), oI (Int32.ofNat (mm % 100)), oI (Int32.ofNat (cc - 1)), oI sv] [(.int (Int32.ofNat (cc - 1))), (.ref ab)])) rfl (hb hby D38_49)
  have pre4 : Goes p e below T0 F0 T3 (mkF m 52 #[oI (ii / (100 : Int32)), oI (Int32.ofNat ee), oR ab, oI (ii / (100 : Int32)), oI (Int32.ofNat (mm % 100)), oI (Int32.ofNat (cc - 1)), oI sv] [(.ref aO), (.int (Int32.ofNat (cc - 1))), (.ref ab)]) := fun t kt => pre2 t (by
    refine o_iL X0 hx hby D38_47 rfl ?_
    exact st3 t kt)
  obtain ⟨cl5, Ar5, hin5, hat5⟩ := (id ((o_At.ext (hdg.2.2 (mm % 100) (Nat.mod_lt _ (by decide))).1 O0.2)))
  have pre6 : Goes p e below T0 F0 T3 (mkF m 55 #[oI (ii / (100 : Int32)), oI (Int32.ofNat ee), oR ab, oI (ii / (100 : Int32)), oI (Int32.ofNat (mm % 100)), oI (Int32.ofNat (cc - 1)), oI sv] [(.int (Int32.ofNat (48 + (mm % 100) % 10))), (.int (Int32.ofNat (cc - 1))), (.ref ab)]) := fun t kt => pre4 t (by
    refine o_iL X3 hx hby D38_52 rfl ?_
    refine X3.baloadBytes hx (j := (Int32.ofNat (mm % 100))) (v := (.int (Int32.ofNat (48 + (mm % 100) % 10)))) (by (try rw [e3]); exact Ar5.1) (State.isArrayOf_alike hZ.alike Ar5.2.1) Ar5.2.2 hin5 hat5 (g := (mkF m 54 #[oI (ii / (100 : Int32)), oI (Int32.ofNat ee), oR ab, oI (ii / (100 : Int32)), oI (Int32.ofNat (mm % 100)), oI (Int32.ofNat (cc - 1)), oI sv] [(.int (Int32.ofNat (mm % 100))), (.ref aO), (.int (Int32.ofNat (cc - 1))), (.ref ab)])) rfl rfl (hb hby D38_54) _ ?_
    exact kt)
  rw [show (Int32.ofNat (48 + (mm % 100) % 10)) = (o_dj mm 0) from o_e0 mm] at pre6
  obtain ⟨cl7, Ar7, q7, S7, N_7, H7, G7⟩ := (id (V_ab))
  have hin7 : ¬ ((Int32.ofNat (cc - 1)) < 0 ∨ cl7.slots.size ≤ ((Int32.ofNat (cc - 1))).toNatClampNeg) := inb_of S7 ⟨o_onn (by omega), o_olt (b := 16) (by omega) (by omega)⟩
  obtain ⟨T8, h8, X8, e8, W8, st8⟩ := stB X3 hx hZ e3 Ar7 (j := (Int32.ofNat (cc - 1))) hin7 (g := (mkF m 55 #[oI (ii / (100 : Int32)), oI (Int32.ofNat ee), oR ab, oI (ii / (100 : Int32)), oI (Int32.ofNat (mm % 100)), oI (Int32.ofNat (cc - 1)), oI sv] [(.int (o_dj mm 0)), (.int (Int32.ofNat (cc - 1))), (.ref ab)])) rfl rfl (hb hby D38_55)
  have qv8 : Arv Z h8 ab kb .byte (16 : Int32) (us.set (cc - 1) (.int (nar .byte (o_dj mm 0)))) (.int 0) := Arv.set Ar7 q7 S7 N_7 H7 G7 (fits_nar_byte _) W8 (cc - 1) (o_oc (by omega)) (by rw [hlu]; omega)
  rw [o_byn] at qv8
  have V8 : Arv Z h8 ab kb .byte (16 : Int32) (o_P false us (cc - 1) (o_dj mm 0)) (.int 0) := qv8
  have K8 : Keep h0 h8 [ab] := (Keep.refl h0 [ab]).wr W8 (Or.inl (o_mG (i := 0) rfl))
  have N8 := Fr.snoc X8 N0 g_ab
  have pre9 : Goes p e below T0 F0 T8 (mkF m 56 #[oI (ii / (100 : Int32)), oI (Int32.ofNat ee), oR ab, oI (ii / (100 : Int32)), oI (Int32.ofNat (mm % 100)), oI (Int32.ofNat (cc - 1)), oI sv] []) := fun t kt => pre6 t (st8 t kt)
  have pre10 : Goes p e below T0 F0 T8 (mkF m 60 #[oI (ii / (100 : Int32)), oI (Int32.ofNat ee), oR ab, oI (ii / (100 : Int32)), oI (Int32.ofNat (mm % 100)), oI ((Int32.ofNat (cc - 1)) + (-1 : Int32)), oI sv] [(.ref ab)]) := fun t kt => pre9 t (by
    refine o_al X8 hx hby D38_56 rfl ?_
    refine XS.iinc X8.here hx rfl (hb hby D38_57) rfl (l' := #[oI (ii / (100 : Int32)), oI (Int32.ofNat ee), oR ab, oI (ii / (100 : Int32)), oI (Int32.ofNat (mm % 100)), oI ((Int32.ofNat (cc - 1)) + (-1 : Int32)), oI sv]) rfl ?_
    exact kt)
  rw [show ((Int32.ofNat (cc - 1)) + (-1 : Int32)) = (Int32.ofNat (cc - 2)) from o_omk (a := cc) (i := 1) (by omega) (by omega)] at pre10
  obtain ⟨T11, X11, e11, st11⟩ := getS2 X8 hx hZ hown (host := "") (Or.inl (oV hw 229 rfl)) Via.refl e8 (hdg.2.1.ext (O0.wr W8 g_ab).2) (g := (mkF m 62 #[oI (ii / (100 : Int32)), oI (Int32.ofNat ee), oR ab, oI (ii / (100 : Int32)), oI (Int32.ofNat (mm % 100)), oI (Int32.ofNat (cc - 2)), oI sv] [(.int (Int32.ofNat (cc - 2))), (.ref ab)])) rfl (hb hby D38_62)
  have pre12 : Goes p e below T0 F0 T11 (mkF m 65 #[oI (ii / (100 : Int32)), oI (Int32.ofNat ee), oR ab, oI (ii / (100 : Int32)), oI (Int32.ofNat (mm % 100)), oI (Int32.ofNat (cc - 2)), oI sv] [(.ref aT), (.int (Int32.ofNat (cc - 2))), (.ref ab)]) := fun t kt => pre10 t (by
    refine o_iL X8 hx hby D38_60 rfl ?_
    exact st11 t kt)
  obtain ⟨cl13, Ar13, hin13, hat13⟩ := (id ((o_At.ext (hdg.2.2 (mm % 100) (Nat.mod_lt _ (by decide))).2 (O0.wr W8 g_ab).2)))
  have pre14 : Goes p e below T0 F0 T11 (mkF m 68 #[oI (ii / (100 : Int32)), oI (Int32.ofNat ee), oR ab, oI (ii / (100 : Int32)), oI (Int32.ofNat (mm % 100)), oI (Int32.ofNat (cc - 2)), oI sv] [(.int (Int32.ofNat (48 + (mm % 100) / 10))), (.int (Int32.ofNat (cc - 2))), (.ref ab)]) := fun t kt => pre12 t (by
    refine o_iL X11 hx hby D38_65 rfl ?_
    refine X11.baloadBytes hx (j := (Int32.ofNat (mm % 100))) (v := (.int (Int32.ofNat (48 + (mm % 100) / 10)))) (by (try rw [e11]); exact Ar13.1) (State.isArrayOf_alike hZ.alike Ar13.2.1) Ar13.2.2 hin13 hat13 (g := (mkF m 67 #[oI (ii / (100 : Int32)), oI (Int32.ofNat ee), oR ab, oI (ii / (100 : Int32)), oI (Int32.ofNat (mm % 100)), oI (Int32.ofNat (cc - 2)), oI sv] [(.int (Int32.ofNat (mm % 100))), (.ref aT), (.int (Int32.ofNat (cc - 2))), (.ref ab)])) rfl rfl (hb hby D38_67) _ ?_
    exact kt)
  rw [show (Int32.ofNat (48 + (mm % 100) / 10)) = (o_dj mm 1) from o_e1 mm] at pre14
  have hl15_ : (o_P false us (cc - 1) (o_dj mm 0)).length = 16 := (by rw [o_P_len]; exact hlu)
  obtain ⟨cl16, Ar16, q16, S16, N_16, H16, G16⟩ := (id (V8))
  have hin16 : ¬ ((Int32.ofNat (cc - 2)) < 0 ∨ cl16.slots.size ≤ ((Int32.ofNat (cc - 2))).toNatClampNeg) := inb_of S16 ⟨o_onn (by omega), o_olt (b := 16) (by omega) (by omega)⟩
  obtain ⟨T17, h17, X17, e17, W17, st17⟩ := stB X11 hx hZ e11 Ar16 (j := (Int32.ofNat (cc - 2))) hin16 (g := (mkF m 68 #[oI (ii / (100 : Int32)), oI (Int32.ofNat ee), oR ab, oI (ii / (100 : Int32)), oI (Int32.ofNat (mm % 100)), oI (Int32.ofNat (cc - 2)), oI sv] [(.int (o_dj mm 1)), (.int (Int32.ofNat (cc - 2))), (.ref ab)])) rfl rfl (hb hby D38_68)
  have qv17 : Arv Z h17 ab kb .byte (16 : Int32) ((o_P false us (cc - 1) (o_dj mm 0)).set (cc - 2) (.int (nar .byte (o_dj mm 1)))) (.int 0) := Arv.set Ar16 q16 S16 N_16 H16 G16 (fits_nar_byte _) W17 (cc - 2) (o_oc (by omega)) (by rw [hl15_]; omega)
  rw [o_byn] at qv17
  have V17 : Arv Z h17 ab kb .byte (16 : Int32) (o_P false (o_P false us (cc - 1) (o_dj mm 0)) (cc - 2) (o_dj mm 1)) (.int 0) := qv17
  have K17 : Keep h0 h17 [ab] := K8.wr W17 (Or.inl (o_mG (i := 0) rfl))
  have N17 := Fr.snoc X17 N8 g_ab
  have pre18 : Goes p e below T0 F0 T17 (mkF m 69 #[oI (ii / (100 : Int32)), oI (Int32.ofNat ee), oR ab, oI (ii / (100 : Int32)), oI (Int32.ofNat (mm % 100)), oI (Int32.ofNat (cc - 2)), oI sv] []) := fun t kt => pre14 t (st17 t kt)
  have pre19 : Goes p e below T0 F0 T17 (mkF m 22 #[oI (ii / (100 : Int32)), oI (Int32.ofNat ee), oR ab, oI (ii / (100 : Int32)), oI (Int32.ofNat (mm % 100)), oI (Int32.ofNat (cc - 2)), oI sv] []) := fun t kt => pre18 t (by
    refine o_gt 69 22 X17 hx hby D38_69 ?_
    exact kt)
  rw [hF0] at pre19
  exact ⟨T17, _, _, _, _, X17, e17, N17, K17, V17, Or.inr ⟨_, rfl, rfl⟩, Or.inr ⟨_, rfl, rfl⟩, pre19⟩
theorem o_gcO0 {p : Program} {l : Launch} {e : Env} {s : State} {m : MethodId} {args : Array Value} {below : List Frame} {meth : Method} {c : Code} {Z : State} {a0 : Array Value} (ab : Addr) (ee : Nat) (sv : Int32) (mm cc : Nat) (ii : Int32) {T0 : State} {locs : List Loc} {s3 s4 : Slot} (hx : p.tables.exec = Jvm.exec) (hZ : Z.Warmed39 s.vm) (hw : ∀ d ∈ tables_1, d.before a0 Z = true) (hby : c.code = oY3) (hml : c.maxLocals = 7) (hown : s.vm.findClass "java/lang/Integer" = some m.cls) (X0 : Stand p l e o_R2 s m args below meth c T0 locs 0 0) (hi : ii.toInt = -(mm : Int)) (h100 : mm < 100) :
    Goes p e below T0 (mkF m 22 #[oI ii, oI (Int32.ofNat ee), oR ab, s3, s4, oI (Int32.ofNat cc), oI sv] []) T0 (mkF m 72 #[oI ii, oI (Int32.ofNat ee), oR ab, s3, s4, oI (Int32.ofNat cc), oI sv] []) := by
  obtain ⟨F0, hF0⟩ : ∃ F, F = (mkF m 22 #[oI ii, oI (Int32.ofNat ee), oR ab, s3, s4, oI (Int32.ofNat cc), oI sv] []) := ⟨_, rfl⟩
  have pre0 : Goes p e below T0 F0 T0 (mkF m 22 #[oI ii, oI (Int32.ofNat ee), oR ab, s3, s4, oI (Int32.ofNat cc), oI sv] []) := by rw [hF0]; exact fun t k => k
  have pre20 : Goes p e below T0 F0 T0 (mkF m 72 #[oI ii, oI (Int32.ofNat ee), oR ab, s3, s4, oI (Int32.ofNat cc), oI sv] []) := fun t kt => pre0 t (by
    refine o_il X0 hx hby D38_22 rfl ?_
    refine o_bp X0 hx hby D38_23 ?_
    refine o_icY 25 72 X0 hx hby D38_25 (tlt (o_t99 hi h100)).2.2.1 ?_
    exact kt)
  rw [hF0] at pre20
  exact pre20
theorem o_gcL0 {p : Program} {l : Launch} {e : Env} {s : State} {m : MethodId} {args : Array Value} {below : List Frame} {meth : Method} {c : Code} {Z : State} {a0 : Array Value} (ab : Addr) (kb : ClassId) (ee : Nat) (sv : Int32) (n0 : Nat) (cs : Int32) (fm : Value) (aO aT : Addr) (hx : p.tables.exec = Jvm.exec) (hZ : Z.Warmed39 s.vm) (hw : ∀ d ∈ tables_1, d.before a0 Z = true) (hby : c.code = oY3) (hml : c.maxLocals = 7) (hown : s.vm.findClass "java/lang/Integer" = some m.cls) (g_ab : n0 ≤ ab) (hst : o_ST Z cs fm) (hdg : o_DG Z aO aT) :
    ∀ (d mm cc : Nat) (ii : Int32) (us : List Value) (T0 : State) (h0 : Heap) (locs : List Loc) (s3 s4 : Slot), mm < 100 ^ (d + 1) → mm ≤ 2147483648 → ii.toInt = -(mm : Int) → o_nd mm ≤ cc → cc ≤ 16 → us.length = 16 → (s3 = oU ∨ ∃ w, s3 = .val w ∧ w.category = 1) → (s4 = oU ∨ ∃ w, s4 = .val w ∧ w.category = 1) → n0 ≤ h0.size → Stand p l e o_R2 s m args below meth c T0 locs 0 0 → T0.heap = h0 → Fr n0 locs → Arv Z h0 ab kb .byte (16 : Int32) us (.int 0) → Old Z n0 h0 →
      ∃ (T' : State) (h' : Heap) (locs' : List Loc) (s3' s4' : Slot) (us' : List Value) (c' m' : Nat) (ii' : Int32), Stand p l e o_R2 s m args below meth c T' locs' 0 0 ∧ T'.heap = h' ∧ Fr n0 locs' ∧ Keep h0 h' [ab] ∧ Arv Z h' ab kb .byte (16 : Int32) us' (.int 0) ∧ o_LW false us us' cc mm c' m' ∧ ii'.toInt = -(m' : Int) ∧ Goes p e below T0 (mkF m 22 #[oI ii, oI (Int32.ofNat ee), oR ab, s3, s4, oI (Int32.ofNat cc), oI sv] []) T' (mkF m 72 #[.val (.int ii'), oI (Int32.ofNat ee), oR ab, s3', s4', oI (Int32.ofNat c'), oI sv] []) := by
  intro d
  induction d with
  | zero =>
    intro mm cc ii us T0 h0 locs s3 s4 hlt hm hi hnd hc hlu h3 h4 Z0 X0 e0 N0 V0 O0
    exact ⟨T0, h0, locs, s3, s4, us, cc, mm, ii, X0, e0, N0, Keep.refl _ _, V0, o_LW0 _ _ _ hlt, hi, o_gcO0 ab ee sv mm cc ii hx hZ hw hby hml hown X0 hi hlt⟩
  | succ d ih =>
    intro mm cc ii us T0 h0 locs s3 s4 hlt hm hi hnd hc hlu h3 h4 Z0 X0 e0 N0 V0 O0
    by_cases h100 : mm < 100
    · exact ⟨T0, h0, locs, s3, s4, us, cc, mm, ii, X0, e0, N0, Keep.refl _ _, V0, o_LW0 _ _ _ h100, hi, o_gcO0 ab ee sv mm cc ii hx hZ hw hby hml hown X0 hi h100⟩
    · have h100' : 100 ≤ mm := by omega
      have hst2 := o_nd_step mm h100' hm
      have hp2 := o_nd_pos (mm / 100)
      obtain ⟨T1, h1, locs1, r3, r4, X1, e1, N1, K1, V1, q3, q4, st1⟩ := o_gcT0 ab kb ee sv n0 cs fm aO aT mm cc ii us hx hZ hw hby hml hown X0 e0 N0 Z0 g_ab V0 hlu hst hdg O0 hi h100' hm (by omega) hc h3 h4
      obtain ⟨T2, h2, locs2, r3', r4', us', c', m', ii', X2, e2, N2, K2, V2, W2, hi2, st2⟩ := ih (mm / 100) (cc - 2) (ii / (100 : Int32)) _ T1 h1 locs1 r3 r4 (Nat.div_lt_of_lt_mul (by rw [Nat.pow_succ, Nat.mul_comm] at hlt; exact hlt)) (by omega) (o_d100 hi hm) (by omega) (by omega) (by rw [o_P_len, o_P_len]; exact hlu) q3 q4 (Nat.le_trans Z0 K1.1) X1 e1 N1 V1 (O0.keep K1 (allS g_ab all0))
      exact ⟨T2, h2, locs2, r3', r4', us', c', m', ii', X2, e2, N2, K1.trans K2 (fun y hy => Or.inl hy), V2, o_LWs h100' hm (by omega) hc hlu W2, hi2, fun t k => st1 t (st2 t k)⟩
def Q_o_gc0 (Z : State) (pp : Int32) (ee : Nat) (ab : Addr) (kb : ClassId) (us : List Value) (cs : Int32) (fm : Value) (aO aT : Addr) (h0 : Heap) (n0 : Nat) (v : Option Value) (h : Heap) (L : List Loc) : Prop := ∃ z : Int32, v = some (.int z) ∧ Fr n0 L ∧ Keep h0 h [ab] ∧ ∃ us' : List Value, Arv Z h ab kb .byte (16 : Int32) us' (.int 0) ∧ o_DW false us us' ee pp
theorem o_gc0 (l : Launch) (Z : State) (a0 : Array Value) (hw : ∀ d ∈ tables_1, d.before a0 Z = true) (ws : List Jvm.Cond) (pp : Int32) (ee : Nat) (ab : Addr) (kb : ClassId) (us : List Value) (cs : Int32) (fm : Value) (aO aT : Addr) (h0 : Heap) (n0 : Nat) (Z0 : n0 ≤ h0.size) (V_ab : Arv Z h0 ab kb .byte (16 : Int32) us (.int 0)) (hlu : us.length = 16) (g_ab : n0 ≤ ab) (hpe : o_pl pp ≤ ee) (he16 : ee ≤ 16) (hst : o_ST Z cs fm) (O0 : Old Z n0 h0) (hdg : o_DG Z aO aT) :
    o_MF l o_N38 oY3 7 (some .int) ws o_R2 #[(.int pp), (.int (Int32.ofNat ee)), (.ref ab)] Z h0 (Q_o_gc0 Z pp ee ab kb us cs fm aO aT h0 n0) := by
  refine o_start (C := "java/lang/Integer") rfl (plainFor_of_name o_pn_o_ssz) fun p e s m below meth c s1 F0 Bd hx hby hml hown hnm hZ X0 e0 hF0 => ?_
  have N0 := Fr.nil n0
  have pre0 : Goes p e below s1 F0 s1 (mkF m 0 #[oI pp, oI (Int32.ofNat ee), oR ab, oU, oU, oU, oU] []) := fun t k => castTop (hF0.trans (by simp [entryFrame, mkF, argsToLocals, Value.category])) k
  have pre1 : Goes p e below s1 F0 s1 (mkF m 3 #[oI pp, oI (Int32.ofNat ee), oR ab, oU, oU, oI (Int32.ofNat ee), oU] []) := fun t kt => pre0 t (by
    refine o_il X0 hx hby D38_0 rfl ?_
    refine XS.istore X0.here hx rfl (hb hby D38_1) rfl (l' := #[oI pp, oI (Int32.ofNat ee), oR ab, oU, oU, oI (Int32.ofNat ee), oU]) rfl ?_
    exact kt)
  obtain ⟨ii, sv, hi, hsv, pre3⟩ : ∃ (ii : Int32) (sv : Int32), (ii.toInt = -(o_M pp : Int)) ∧ (sv = Int32.ofNat (o_sg pp)) ∧ Goes p e below s1 F0 s1 (mkF m 22 #[oI ii, oI (Int32.ofNat ee), oR ab, oU, oU, oI (Int32.ofNat ee), oI sv] []) := by
    have pre4 : Goes p e below s1 F0 s1 (mkF m 4 #[oI pp, oI (Int32.ofNat ee), oR ab, oU, oU, oI (Int32.ofNat ee), oU] [(.int pp)]) := fun t kt => pre1 t (by
      refine o_il X0 hx hby D38_3 rfl ?_
      exact kt)
    by_cases hc4_5 : pp < (0 : Int32)
    · -- yes at pc 4: 
      have pre6 : Goes p e below s1 F0 s1 (mkF m 22 #[oI pp, oI (Int32.ofNat ee), oR ab, oU, oU, oI (Int32.ofNat ee), oI 1] []) := fun t kt => pre4 t (by
        refine o_ifN X0 hx hby D38_4 ((if0 _ _).trans (tlt hc4_5).2.1) ?_
        refine o_ic X0 hx hby D38_7 ?_
        refine o_gt 8 12 X0 hx hby D38_8 ?_
        refine XS.istore X0.here hx rfl (hb hby D38_12) rfl (l' := #[oI pp, oI (Int32.ofNat ee), oR ab, oU, oU, oI (Int32.ofNat ee), oI 1]) rfl ?_
        refine o_iL X0 hx hby D38_14 rfl ?_
        refine o_ifY 16 22 X0 hx hby D38_16 ((if0 _ _).trans (feq (by decide : ¬ ((1 : Int32) = (0 : Int32)))).2) ?_
        exact kt)
      exact ⟨pp, (1 : Int32), o_xn1 hc4_5, o_dn1 hc4_5, pre6⟩
    · -- no at pc 4: 
      have pre7 : Goes p e below s1 F0 s1 (mkF m 22 #[oI (-pp), oI (Int32.ofNat ee), oR ab, oU, oU, oI (Int32.ofNat ee), oI 0] []) := fun t kt => pre4 t (by
        refine o_ifY 4 11 X0 hx hby D38_4 ((if0 _ _).trans (flt hc4_5).2.1) ?_
        refine o_ic X0 hx hby D38_11 ?_
        refine XS.istore X0.here hx rfl (hb hby D38_12) rfl (l' := #[oI pp, oI (Int32.ofNat ee), oR ab, oU, oU, oI (Int32.ofNat ee), oI 0]) rfl ?_
        refine o_iL X0 hx hby D38_14 rfl ?_
        refine o_ifN X0 hx hby D38_16 ((if0 _ _).trans (teq (by decide : (0 : Int32) = (0 : Int32))).2) ?_
        refine o_il X0 hx hby D38_19 rfl ?_
        refine XS.ineg X0.here hx rfl (hb hby D38_20) rfl ?_
        refine XS.istoreN X0.here hx rfl (hb hby D38_21) rfl (l' := #[oI (-pp), oI (Int32.ofNat ee), oR ab, oU, oU, oI (Int32.ofNat ee), oI 0]) rfl ?_
        exact kt)
      exact ⟨(-pp), (0 : Int32), o_xn0 hc4_5, o_dn0 hc4_5, pre7⟩
  obtain ⟨T8, h8, Lc8, sp, sr, uz, cz, mz, iz, X8, e8, N8, K8q, V8, Wz, hiz, st8⟩ := o_gcL0 ab kb ee sv n0 cs fm aO aT hx hZ hw hby hml hown g_ab hst hdg 4 (o_M pp) ee ii us s1 h0 _ _ _ (Nat.lt_of_le_of_lt (o_M_le pp (rng32 pp)) (by decide)) (o_M_le pp (rng32 pp)) hi (o_ple hpe) he16 hlu (Or.inl rfl) (Or.inl rfl) Z0 X0 e0 N0 V_ab O0
  have KC8 : Keep h0 h8 [ab] := (Keep.refl h0 [ab]).trans K8q (allS (Or.inl (o_mG (i := 0) rfl)) all0)
  have pre9 : Goes p e below s1 F0 T8 (mkF m 72 #[oI iz, oI (Int32.ofNat ee), oR ab, sp, sr, oI (Int32.ofNat cz), oI sv] []) := fun t kt => pre3 t (st8 t kt)
  obtain ⟨hcz, hcz2, hm100⟩ := o_LWn Wz hpe
  have hnd1 := o_nd_pos mz
  have hlz : uz.length = 16 := (o_LWl Wz).trans hlu
  have pre10 : Goes p e below s1 F0 T8 (mkF m 76 #[oI iz, oI (Int32.ofNat ee), oR ab, sp, sr, oI ((Int32.ofNat cz) + (-1 : Int32)), oI sv] [(.ref ab)]) := fun t kt => pre9 t (by
    refine o_al X8 hx hby D38_72 rfl ?_
    refine XS.iinc X8.here hx rfl (hb hby D38_73) rfl (l' := #[oI iz, oI (Int32.ofNat ee), oR ab, sp, sr, oI ((Int32.ofNat cz) + (-1 : Int32)), oI sv]) rfl ?_
    exact kt)
  rw [show ((Int32.ofNat cz) + (-1 : Int32)) = (Int32.ofNat (cz - 1)) from o_omk (a := cz) (i := 0) (by omega) (by omega)] at pre10
  obtain ⟨T11, X11, e11, st11⟩ := getS2 X8 hx hZ hown (host := "") (Or.inl (oV hw 141 rfl)) Via.refl e8 (hdg.1.ext (O0.keep K8q (allS g_ab all0)).2) (g := (mkF m 78 #[oI iz, oI (Int32.ofNat ee), oR ab, sp, sr, oI (Int32.ofNat (cz - 1)), oI sv] [(.int (Int32.ofNat (cz - 1))), (.ref ab)])) rfl (hb hby D38_78)
  have pre12 : Goes p e below s1 F0 T11 (mkF m 81 #[oI iz, oI (Int32.ofNat ee), oR ab, sp, sr, oI (Int32.ofNat (cz - 1)), oI sv] [(.ref aO), (.int (Int32.ofNat (cz - 1))), (.ref ab)]) := fun t kt => pre10 t (by
    refine o_iL X8 hx hby D38_76 rfl ?_
    exact st11 t kt)
  have pre13 : Goes p e below s1 F0 T11 (mkF m 83 #[oI iz, oI (Int32.ofNat ee), oR ab, sp, sr, oI (Int32.ofNat (cz - 1)), oI sv] [(.int (-iz)), (.ref aO), (.int (Int32.ofNat (cz - 1))), (.ref ab)]) := fun t kt => pre12 t (by
    refine o_il X11 hx hby D38_81 rfl ?_
    refine XS.ineg X11.here hx rfl (hb hby D38_82) rfl ?_
    exact kt)
  rw [show (-iz) = (Int32.ofNat mz) from o_ng hiz hm100] at pre13
  obtain ⟨cl14, Ar14, hin14, hat14⟩ := (id ((o_At.ext (hdg.2.2 mz hm100).1 (O0.keep K8q (allS g_ab all0)).2)))
  have pre15 : Goes p e below s1 F0 T11 (mkF m 84 #[oI iz, oI (Int32.ofNat ee), oR ab, sp, sr, oI (Int32.ofNat (cz - 1)), oI sv] [(.int (Int32.ofNat (48 + mz % 10))), (.int (Int32.ofNat (cz - 1))), (.ref ab)]) := fun t kt => pre13 t (by
    refine X11.baloadBytes hx (j := (Int32.ofNat mz)) (v := (.int (Int32.ofNat (48 + mz % 10)))) (by (try rw [e11]); exact Ar14.1) (State.isArrayOf_alike hZ.alike Ar14.2.1) Ar14.2.2 hin14 hat14 (g := (mkF m 83 #[oI iz, oI (Int32.ofNat ee), oR ab, sp, sr, oI (Int32.ofNat (cz - 1)), oI sv] [(.int (Int32.ofNat mz)), (.ref aO), (.int (Int32.ofNat (cz - 1))), (.ref ab)])) rfl rfl (hb hby D38_83) _ ?_
    exact kt)
  rw [show (Int32.ofNat (48 + mz % 10)) = (o_dj mz 0) from o_e2 hm100] at pre15
  have hl16_ : uz.length = 16 := (by exact hlz)
  obtain ⟨cl17, Ar17, q17, S17, N_17, H17, G17⟩ := (id (V8))
  have hin17 : ¬ ((Int32.ofNat (cz - 1)) < 0 ∨ cl17.slots.size ≤ ((Int32.ofNat (cz - 1))).toNatClampNeg) := inb_of S17 ⟨o_onn (by omega), o_olt (b := 16) (by omega) (by omega)⟩
  obtain ⟨T18, h18, X18, e18, W18, st18⟩ := stB X11 hx hZ e11 Ar17 (j := (Int32.ofNat (cz - 1))) hin17 (g := (mkF m 84 #[oI iz, oI (Int32.ofNat ee), oR ab, sp, sr, oI (Int32.ofNat (cz - 1)), oI sv] [(.int (o_dj mz 0)), (.int (Int32.ofNat (cz - 1))), (.ref ab)])) rfl rfl (hb hby D38_84)
  have qv18 : Arv Z h18 ab kb .byte (16 : Int32) (uz.set (cz - 1) (.int (nar .byte (o_dj mz 0)))) (.int 0) := Arv.set Ar17 q17 S17 N_17 H17 G17 (fits_nar_byte _) W18 (cz - 1) (o_oc (by omega)) (by rw [hl16_]; omega)
  rw [o_byn] at qv18
  have V18 : Arv Z h18 ab kb .byte (16 : Int32) (o_P false uz (cz - 1) (o_dj mz 0)) (.int 0) := qv18
  have K18 : Keep h0 h18 [ab] := KC8.wr W18 (Or.inl (o_mG (i := 0) rfl))
  have N18 := Fr.snoc X18 N8 g_ab
  have pre19 : Goes p e below s1 F0 T18 (mkF m 85 #[oI iz, oI (Int32.ofNat ee), oR ab, sp, sr, oI (Int32.ofNat (cz - 1)), oI sv] []) := fun t kt => pre15 t (st18 t kt)
  have pre20 : Goes p e below s1 F0 T18 (mkF m 88 #[oI iz, oI (Int32.ofNat ee), oR ab, sp, sr, oI (Int32.ofNat (cz - 1)), oI sv] [(.int (-9 : Int32)), (.int iz)]) := fun t kt => pre19 t (by
    refine o_il X18 hx hby D38_85 rfl ?_
    refine o_bp X18 hx hby D38_86 ?_
    exact kt)
  by_cases hc88_21 : iz < (-9 : Int32)
  · -- yes at pc 88: 
    have h9 : 9 < mz := o_9t hiz hc88_21
    have hnd : o_nd mz = 2 := o_nd2 h9 hm100
    have pre22 : Goes p e below s1 F0 T18 (mkF m 95 #[oI iz, oI (Int32.ofNat ee), oR ab, sp, sr, oI ((Int32.ofNat (cz - 1)) + (-1 : Int32)), oI sv] [(.ref ab)]) := fun t kt => pre20 t (by
      refine o_icN X18 hx hby D38_88 (tlt hc88_21).2.1 ?_
      refine o_al X18 hx hby D38_91 rfl ?_
      refine XS.iinc X18.here hx rfl (hb hby D38_92) rfl (l' := #[oI iz, oI (Int32.ofNat ee), oR ab, sp, sr, oI ((Int32.ofNat (cz - 1)) + (-1 : Int32)), oI sv]) rfl ?_
      exact kt)
    rw [show ((Int32.ofNat (cz - 1)) + (-1 : Int32)) = (Int32.ofNat (cz - 2)) from o_omk (a := cz) (i := 1) (by omega) (by omega)] at pre22
    obtain ⟨T23, X23, e23, st23⟩ := getS2 X18 hx hZ hown (host := "") (Or.inl (oV hw 229 rfl)) Via.refl e18 (hdg.2.1.ext ((O0.keep K8q (allS g_ab all0)).wr W18 g_ab).2) (g := (mkF m 97 #[oI iz, oI (Int32.ofNat ee), oR ab, sp, sr, oI (Int32.ofNat (cz - 2)), oI sv] [(.int (Int32.ofNat (cz - 2))), (.ref ab)])) rfl (hb hby D38_97)
    have pre24 : Goes p e below s1 F0 T23 (mkF m 100 #[oI iz, oI (Int32.ofNat ee), oR ab, sp, sr, oI (Int32.ofNat (cz - 2)), oI sv] [(.ref aT), (.int (Int32.ofNat (cz - 2))), (.ref ab)]) := fun t kt => pre22 t (by
      refine o_iL X18 hx hby D38_95 rfl ?_
      exact st23 t kt)
    have pre25 : Goes p e below s1 F0 T23 (mkF m 102 #[oI iz, oI (Int32.ofNat ee), oR ab, sp, sr, oI (Int32.ofNat (cz - 2)), oI sv] [(.int (-iz)), (.ref aT), (.int (Int32.ofNat (cz - 2))), (.ref ab)]) := fun t kt => pre24 t (by
      refine o_il X23 hx hby D38_100 rfl ?_
      refine XS.ineg X23.here hx rfl (hb hby D38_101) rfl ?_
      exact kt)
    rw [show (-iz) = (Int32.ofNat mz) from o_ng hiz hm100] at pre25
    obtain ⟨cl26, Ar26, hin26, hat26⟩ := (id ((o_At.ext (hdg.2.2 mz hm100).2 ((O0.keep K8q (allS g_ab all0)).wr W18 g_ab).2)))
    have pre27 : Goes p e below s1 F0 T23 (mkF m 103 #[oI iz, oI (Int32.ofNat ee), oR ab, sp, sr, oI (Int32.ofNat (cz - 2)), oI sv] [(.int (Int32.ofNat (48 + mz / 10))), (.int (Int32.ofNat (cz - 2))), (.ref ab)]) := fun t kt => pre25 t (by
      refine X23.baloadBytes hx (j := (Int32.ofNat mz)) (v := (.int (Int32.ofNat (48 + mz / 10)))) (by (try rw [e23]); exact Ar26.1) (State.isArrayOf_alike hZ.alike Ar26.2.1) Ar26.2.2 hin26 hat26 (g := (mkF m 102 #[oI iz, oI (Int32.ofNat ee), oR ab, sp, sr, oI (Int32.ofNat (cz - 2)), oI sv] [(.int (Int32.ofNat mz)), (.ref aT), (.int (Int32.ofNat (cz - 2))), (.ref ab)])) rfl rfl (hb hby D38_102) _ ?_
      exact kt)
    rw [show (Int32.ofNat (48 + mz / 10)) = (o_dj mz 1) from o_e3 hm100] at pre27
    have hl28_ : (o_P false uz (cz - 1) (o_dj mz 0)).length = 16 := (by rw [o_P_len]; exact hlz)
    obtain ⟨cl29, Ar29, q29, S29, N_29, H29, G29⟩ := (id (V18))
    have hin29 : ¬ ((Int32.ofNat (cz - 2)) < 0 ∨ cl29.slots.size ≤ ((Int32.ofNat (cz - 2))).toNatClampNeg) := inb_of S29 ⟨o_onn (by omega), o_olt (b := 16) (by omega) (by omega)⟩
    obtain ⟨T30, h30, X30, e30, W30, st30⟩ := stB X23 hx hZ e23 Ar29 (j := (Int32.ofNat (cz - 2))) hin29 (g := (mkF m 103 #[oI iz, oI (Int32.ofNat ee), oR ab, sp, sr, oI (Int32.ofNat (cz - 2)), oI sv] [(.int (o_dj mz 1)), (.int (Int32.ofNat (cz - 2))), (.ref ab)])) rfl rfl (hb hby D38_103)
    have qv30 : Arv Z h30 ab kb .byte (16 : Int32) ((o_P false uz (cz - 1) (o_dj mz 0)).set (cz - 2) (.int (nar .byte (o_dj mz 1)))) (.int 0) := Arv.set Ar29 q29 S29 N_29 H29 G29 (fits_nar_byte _) W30 (cz - 2) (o_oc (by omega)) (by rw [hl28_]; omega)
    rw [o_byn] at qv30
    have V30 : Arv Z h30 ab kb .byte (16 : Int32) (o_P false (o_P false uz (cz - 1) (o_dj mz 0)) (cz - 2) (o_dj mz 1)) (.int 0) := qv30
    have K30 : Keep h0 h30 [ab] := K18.wr W30 (Or.inl (o_mG (i := 0) rfl))
    have N30 := Fr.snoc X30 N18 g_ab
    have pre31 : Goes p e below s1 F0 T30 (mkF m 104 #[oI iz, oI (Int32.ofNat ee), oR ab, sp, sr, oI (Int32.ofNat (cz - 2)), oI sv] []) := fun t kt => pre27 t (st30 t kt)
    have pre32 : Goes p e below s1 F0 T30 (mkF m 106 #[oI iz, oI (Int32.ofNat ee), oR ab, sp, sr, oI (Int32.ofNat (cz - 2)), oI sv] [(.int sv)]) := fun t kt => pre31 t (by
      refine o_iL X30 hx hby D38_104 rfl ?_
      exact kt)
    by_cases hc106_33 : sv = (0 : Int32)
    · -- yes at pc 106: f
      have hs : o_sg pp = 0 := o_sz hsv hc106_33
      have pre34 : Goes p e below s1 F0 T30 (mkF m 120 #[oI iz, oI (Int32.ofNat ee), oR ab, sp, sr, oI (Int32.ofNat (cz - 2)), oI sv] [(.int (Int32.ofNat (cz - 2)))]) := fun t kt => pre32 t (by
        refine o_ifY 106 118 X30 hx hby D38_106 ((if0 _ _).trans (teq hc106_33).1) ?_
        refine o_iL X30 hx hby D38_118 rfl ?_
        exact kt)
      refine o_eI X30 Bd hx pre34 (hb hby D38_120) e30 ?_
      exact ⟨_, rfl, N30, K30, _, V30, by rw [o_T10 h9 hs]; exact o_fin hlu hpe he16 Wz⟩
    · -- no at pc 106: f
      have hs : o_sg pp = 1 := o_sn hsv hc106_33
      have pre35 : Goes p e below s1 F0 T30 (mkF m 113 #[oI iz, oI (Int32.ofNat ee), oR ab, sp, sr, oI ((Int32.ofNat (cz - 2)) + (-1 : Int32)), oI sv] [(.ref ab)]) := fun t kt => pre32 t (by
        refine o_ifN X30 hx hby D38_106 ((if0 _ _).trans (feq hc106_33).1) ?_
        refine o_al X30 hx hby D38_109 rfl ?_
        refine XS.iinc X30.here hx rfl (hb hby D38_110) rfl (l' := #[oI iz, oI (Int32.ofNat ee), oR ab, sp, sr, oI ((Int32.ofNat (cz - 2)) + (-1 : Int32)), oI sv]) rfl ?_
        exact kt)
      rw [show ((Int32.ofNat (cz - 2)) + (-1 : Int32)) = (Int32.ofNat (cz - 3)) from o_omk (a := cz) (i := 2) (by omega) (by omega)] at pre35
      have hl36_ : (o_P false (o_P false uz (cz - 1) (o_dj mz 0)) (cz - 2) (o_dj mz 1)).length = 16 := (by rw [o_P_len, o_P_len]; exact hlz)
      obtain ⟨cl37, Ar37, q37, S37, N_37, H37, G37⟩ := (id (V30))
      have hin37 : ¬ ((Int32.ofNat (cz - 3)) < 0 ∨ cl37.slots.size ≤ ((Int32.ofNat (cz - 3))).toNatClampNeg) := inb_of S37 ⟨o_onn (by omega), o_olt (b := 16) (by omega) (by omega)⟩
      obtain ⟨T38, h38, X38, e38, W38, st38⟩ := stB X30 hx hZ e30 Ar37 (j := (Int32.ofNat (cz - 3))) hin37 (g := (mkF m 117 #[oI iz, oI (Int32.ofNat ee), oR ab, sp, sr, oI (Int32.ofNat (cz - 3)), oI sv] [(.int 45), (.int (Int32.ofNat (cz - 3))), (.ref ab)])) rfl rfl (hb hby D38_117)
      have qv38 : Arv Z h38 ab kb .byte (16 : Int32) ((o_P false (o_P false uz (cz - 1) (o_dj mz 0)) (cz - 2) (o_dj mz 1)).set (cz - 3) (.int (nar .byte (45 : Int32)))) (.int 0) := Arv.set Ar37 q37 S37 N_37 H37 G37 (fits_nar_byte _) W38 (cz - 3) (o_oc (by omega)) (by rw [hl36_]; omega)
      rw [o_byn] at qv38
      have V38 : Arv Z h38 ab kb .byte (16 : Int32) (o_P false (o_P false (o_P false uz (cz - 1) (o_dj mz 0)) (cz - 2) (o_dj mz 1)) (cz - 3) (45 : Int32)) (.int 0) := qv38
      have K38 : Keep h0 h38 [ab] := K30.wr W38 (Or.inl (o_mG (i := 0) rfl))
      have N38 := Fr.snoc X38 N30 g_ab
      have pre39 : Goes p e below s1 F0 T38 (mkF m 118 #[oI iz, oI (Int32.ofNat ee), oR ab, sp, sr, oI (Int32.ofNat (cz - 3)), oI sv] []) := fun t kt => pre35 t (by
        refine o_iL X30 hx hby D38_113 rfl ?_
        refine o_bp X30 hx hby D38_115 ?_
        exact st38 t kt)
      have pre40 : Goes p e below s1 F0 T38 (mkF m 120 #[oI iz, oI (Int32.ofNat ee), oR ab, sp, sr, oI (Int32.ofNat (cz - 3)), oI sv] [(.int (Int32.ofNat (cz - 3)))]) := fun t kt => pre39 t (by
        refine o_iL X38 hx hby D38_118 rfl ?_
        exact kt)
      refine o_eI X38 Bd hx pre40 (hb hby D38_120) e38 ?_
      exact ⟨_, rfl, N38, K38, _, V38, by rw [o_T11 h9 hm100 hs]; exact o_fin hlu hpe he16 Wz⟩
  · -- no at pc 88: 
    have h9 : ¬ 9 < mz := o_9f hiz hc88_21
    have hnd : o_nd mz = 1 := o_nd1 h9
    have pre41 : Goes p e below s1 F0 T18 (mkF m 106 #[oI iz, oI (Int32.ofNat ee), oR ab, sp, sr, oI (Int32.ofNat (cz - 1)), oI sv] [(.int sv)]) := fun t kt => pre20 t (by
      refine o_icY 88 104 X18 hx hby D38_88 (flt hc88_21).2.1 ?_
      refine o_iL X18 hx hby D38_104 rfl ?_
      exact kt)
    by_cases hc106_42 : sv = (0 : Int32)
    · -- yes at pc 106: t
      have hs : o_sg pp = 0 := o_sz hsv hc106_42
      have pre43 : Goes p e below s1 F0 T18 (mkF m 120 #[oI iz, oI (Int32.ofNat ee), oR ab, sp, sr, oI (Int32.ofNat (cz - 1)), oI sv] [(.int (Int32.ofNat (cz - 1)))]) := fun t kt => pre41 t (by
        refine o_ifY 106 118 X18 hx hby D38_106 ((if0 _ _).trans (teq hc106_42).1) ?_
        refine o_iL X18 hx hby D38_118 rfl ?_
        exact kt)
      refine o_eI X18 Bd hx pre43 (hb hby D38_120) e18 ?_
      exact ⟨_, rfl, N18, K18, _, V18, by rw [o_T00 h9 hs]; exact o_fin hlu hpe he16 Wz⟩
    · -- no at pc 106: t
      have hs : o_sg pp = 1 := o_sn hsv hc106_42
      have pre44 : Goes p e below s1 F0 T18 (mkF m 113 #[oI iz, oI (Int32.ofNat ee), oR ab, sp, sr, oI ((Int32.ofNat (cz - 1)) + (-1 : Int32)), oI sv] [(.ref ab)]) := fun t kt => pre41 t (by
        refine o_ifN X18 hx hby D38_106 ((if0 _ _).trans (feq hc106_42).1) ?_
        refine o_al X18 hx hby D38_109 rfl ?_
        refine XS.iinc X18.here hx rfl (hb hby D38_110) rfl (l' := #[oI iz, oI (Int32.ofNat ee), oR ab, sp, sr, oI ((Int32.ofNat (cz - 1)) + (-1 : Int32)), oI sv]) rfl ?_
        exact kt)
      rw [show ((Int32.ofNat (cz - 1)) + (-1 : Int32)) = (Int32.ofNat (cz - 2)) from o_omk (a := cz) (i := 1) (by omega) (by omega)] at pre44
      have hl45_ : (o_P false uz (cz - 1) (o_dj mz 0)).length = 16 := (by rw [o_P_len]; exact hlz)
      obtain ⟨cl46, Ar46, q46, S46, N_46, H46, G46⟩ := (id (V18))
      have hin46 : ¬ ((Int32.ofNat (cz - 2)) < 0 ∨ cl46.slots.size ≤ ((Int32.ofNat (cz - 2))).toNatClampNeg) := inb_of S46 ⟨o_onn (by omega), o_olt (b := 16) (by omega) (by omega)⟩
      obtain ⟨T47, h47, X47, e47, W47, st47⟩ := stB X18 hx hZ e18 Ar46 (j := (Int32.ofNat (cz - 2))) hin46 (g := (mkF m 117 #[oI iz, oI (Int32.ofNat ee), oR ab, sp, sr, oI (Int32.ofNat (cz - 2)), oI sv] [(.int 45), (.int (Int32.ofNat (cz - 2))), (.ref ab)])) rfl rfl (hb hby D38_117)
      have qv47 : Arv Z h47 ab kb .byte (16 : Int32) ((o_P false uz (cz - 1) (o_dj mz 0)).set (cz - 2) (.int (nar .byte (45 : Int32)))) (.int 0) := Arv.set Ar46 q46 S46 N_46 H46 G46 (fits_nar_byte _) W47 (cz - 2) (o_oc (by omega)) (by rw [hl45_]; omega)
      rw [o_byn] at qv47
      have V47 : Arv Z h47 ab kb .byte (16 : Int32) (o_P false (o_P false uz (cz - 1) (o_dj mz 0)) (cz - 2) (45 : Int32)) (.int 0) := qv47
      have K47 : Keep h0 h47 [ab] := K18.wr W47 (Or.inl (o_mG (i := 0) rfl))
      have N47 := Fr.snoc X47 N18 g_ab
      have pre48 : Goes p e below s1 F0 T47 (mkF m 118 #[oI iz, oI (Int32.ofNat ee), oR ab, sp, sr, oI (Int32.ofNat (cz - 2)), oI sv] []) := fun t kt => pre44 t (by
        refine o_iL X18 hx hby D38_113 rfl ?_
        refine o_bp X18 hx hby D38_115 ?_
        exact st47 t kt)
      have pre49 : Goes p e below s1 F0 T47 (mkF m 120 #[oI iz, oI (Int32.ofNat ee), oR ab, sp, sr, oI (Int32.ofNat (cz - 2)), oI sv] [(.int (Int32.ofNat (cz - 2)))]) := fun t kt => pre48 t (by
        refine o_iL X47 hx hby D38_118 rfl ?_
        exact kt)
      refine o_eI X47 Bd hx pre49 (hb hby D38_120) e47 ?_
      exact ⟨_, rfl, N47, K47, _, V47, by rw [o_T01 h9 hs]; exact o_fin hlu hpe he16 Wz⟩
theorem D39_0 : decode oY49 0 = .ok (.aload_n 0, 1) := by decide +kernel
theorem D39_1 : decode oY49 1 = .ok (.getfield 79, 3) := by decide +kernel
theorem D39_4 : decode oY49 4 = .ok (.istore_n 2, 1) := by decide +kernel
theorem D39_5 : decode oY49 5 = .ok (.iload_n 2, 1) := by decide +kernel
theorem D39_6 : decode oY49 6 = .ok (.iload_n 1, 1) := by decide +kernel
theorem D39_7 : decode oY49 7 = .ok (.invokestatic 245, 3) := by decide +kernel
theorem D39_10 : decode oY49 10 = .ok (.iadd, 1) := by decide +kernel
theorem D39_11 : decode oY49 11 = .ok (.istore_n 3, 1) := by decide +kernel
theorem D39_12 : decode oY49 12 = .ok (.aload_n 0, 1) := by decide +kernel
theorem D39_13 : decode oY49 13 = .ok (.iload_n 3, 1) := by decide +kernel
theorem D39_14 : decode oY49 14 = .ok (.invokevirtual 100, 3) := by decide +kernel
theorem D39_17 : decode oY49 17 = .ok (.aload_n 0, 1) := by decide +kernel
theorem D39_18 : decode oY49 18 = .ok (.invokevirtual 83, 3) := by decide +kernel
theorem D39_21 : decode oY49 21 = .ok (.ifCond .eq 16, 3) := by decide +kernel
theorem D39_24 : decode oY49 24 = .ok (.iload_n 1, 1) := by decide +kernel
theorem D39_25 : decode oY49 25 = .ok (.iload_n 3, 1) := by decide +kernel
theorem D39_26 : decode oY49 26 = .ok (.aload_n 0, 1) := by decide +kernel
theorem D39_27 : decode oY49 27 = .ok (.getfield 15, 3) := by decide +kernel
theorem D39_30 : decode oY49 30 = .ok (.invokestatic 248, 3) := by decide +kernel
theorem D39_33 : decode oY49 33 = .ok (.pop, 1) := by decide +kernel
theorem D39_34 : decode oY49 34 = .ok (.goto 14, 3) := by decide +kernel
theorem D39_48 : decode oY49 48 = .ok (.aload_n 0, 1) := by decide +kernel
theorem D39_49 : decode oY49 49 = .ok (.iload_n 3, 1) := by decide +kernel
theorem D39_50 : decode oY49 50 = .ok (.putfield 79, 3) := by decide +kernel
theorem D39_53 : decode oY49 53 = .ok (.aload_n 0, 1) := by decide +kernel
theorem D39_54 : decode oY49 54 = .ok (.areturn, 1) := by decide +kernel
def Q_o_aI0 (Z : State) (x1 ab : Addr) (kb : ClassId) (us : List Value) (cc : Nat) (pp cs : Int32) (fm : Value) (aO aT : Addr) (h0 : Heap) (n0 : Nat) (v : Option Value) (h : Heap) (L : List Loc) : Prop := v = some (.ref x1) ∧ Fr n0 L ∧ Keep h0 h [x1, ab] ∧ ∃ us' : List Value, o_SB Z h n0 x1 ab kb us' (cc + o_pl pp) (0 : Int32) (16 : Int32) 16 ∧ o_DW false us us' (cc + o_pl pp) pp
theorem o_aI0 (l : Launch) (Z : State) (a0 : Array Value) (hw : ∀ d ∈ tables_1, d.before a0 Z = true) (ws : List Jvm.Cond) (x1 ab : Addr) (kb : ClassId) (us : List Value) (cc : Nat) (pp cs : Int32) (fm : Value) (aO aT : Addr) (h0 : Heap) (n0 : Nat) (Z0 : n0 ≤ h0.size) (hS : o_SB Z h0 n0 x1 ab kb us cc (0 : Int32) (16 : Int32) 16) (hcl : cc + o_pl pp ≤ 16) (hst : o_ST Z cs fm) (O0 : Old Z n0 h0) (hdg : o_DG Z aO aT) :
    o_MF l o_N39 oY49 4 (some (.object "java/lang/AbstractStringBuilder")) ws o_R27 #[(.ref x1), (.int pp)] Z h0 (Q_o_aI0 Z x1 ab kb us cc pp cs fm aO aT h0 n0) := by
  refine o_start (C := "java/lang/AbstractStringBuilder") rfl (plainFor_of_name o_pn_o_ai) fun p e s m below meth c s1 F0 Bd hx hby hml hown hnm hZ X0 e0 hF0 => ?_
  have N0 := Fr.nil n0
  have pre0 : Goes p e below s1 F0 s1 (mkF m 0 #[oR x1, oI pp, oU, oU] []) := fun t k => castTop (hF0.trans (by simp [entryFrame, mkF, argsToLocals, Value.category])) k
  obtain ⟨E_x1, F_value, F_coder, F_count, F_maybeLatin1, V_ab, hlu, nxa, g_x1, g_ab⟩ := (id (hS))
  obtain ⟨T1, X1, e1, st1⟩ := getF X0 hx hZ hown (host := "") (Or.inl (oV hw 90 rfl)) Via.refl e0 F_count (g := (mkF m 1 #[oR x1, oI pp, oU, oU] [(.ref x1)])) rfl rfl (hb hby D39_1)
  have pre2 : Goes p e below s1 F0 T1 (mkF m 4 #[oR x1, oI pp, oU, oU] [(.int (Int32.ofNat cc))]) := fun t kt => pre0 t (by
    refine o_al X0 hx hby D39_0 rfl ?_
    exact st1 t kt)
  obtain ⟨_, T3, L3, X3, hQ3, st3⟩ := o_cS (y := o_N37) (g := (mkF m 7 #[oR x1, oI pp, oI (Int32.ofNat cc), oU] [(.int pp), (.int (Int32.ofNat cc))])) (as := [(.int pp)]) (rest := [(.int (Int32.ofNat cc))]) 1 X1 hx hZ hml hown (oV hw 129 rfl) (oV hw 130 rfl) (oV hw 131 rfl) (oV hw 132 rfl) (o_ssz l Z a0 hw [] pp h0 n0 Z0 ) e1 o_pd1 (hb hby D39_7)
  obtain ⟨rfl, N3q, e3⟩ := hQ3
  have N3 := Fr.app N0 N3q
  have pre4 : Goes p e below s1 F0 T3 (mkF m 10 #[oR x1, oI pp, oI (Int32.ofNat cc), oU] [(.int (Int32.ofNat (o_pl pp))), (.int (Int32.ofNat cc))]) := fun t kt => pre2 t (by
    refine XS.istoreN X1.here hx rfl (hb hby D39_4) rfl (l' := #[oR x1, oI pp, oI (Int32.ofNat cc), oU]) rfl ?_
    refine o_il X1 hx hby D39_5 rfl ?_
    refine o_il X1 hx hby D39_6 rfl ?_
    exact st3 t kt)
  have pre5 : Goes p e below s1 F0 T3 (mkF m 11 #[oR x1, oI pp, oI (Int32.ofNat cc), oU] [(.int ((Int32.ofNat cc) + (Int32.ofNat (o_pl pp))))]) := fun t kt => pre4 t (by
    refine XS.iadd X3.here hx rfl (hb hby D39_10) rfl ?_
    exact kt)
  rw [show ((Int32.ofNat cc) + (Int32.ofNat (o_pl pp))) = (Int32.ofNat (cc + o_pl pp)) from o_oadd _ _] at pre5
  obtain ⟨_, T6, L6, X6, hQ6, st6⟩ := o_cW (y := o_N24) (b := x1) (g := (mkF m 14 #[oR x1, oI pp, oI (Int32.ofNat cc), oI (Int32.ofNat (cc + o_pl pp))] [(.int (Int32.ofNat (cc + o_pl pp))), (.ref x1)])) (as := [(.int (Int32.ofNat (cc + o_pl pp)))]) (rest := []) 0 X3 hx hZ hml hown (oV hw 92 rfl) (oV hw 95 rfl) (oV hw 93 rfl) (oV hw 96 rfl) (oV hw 62 rfl) (o_ens0 l Z a0 hw [] x1 ab kb us cc (Int32.ofNat (cc + o_pl pp)) h0 n0 Z0 hS (o_ens (by omega))) e3 E_x1 o_pd15 (hb hby D39_14)
  obtain ⟨rfl, N6q, e6⟩ := hQ6
  have N6 := Fr.app N3 N6q
  have pre7 : Goes p e below s1 F0 T6 (mkF m 17 #[oR x1, oI pp, oI (Int32.ofNat cc), oI (Int32.ofNat (cc + o_pl pp))] []) := fun t kt => pre5 t (by
    refine XS.istoreN X3.here hx rfl (hb hby D39_11) rfl (l' := #[oR x1, oI pp, oI (Int32.ofNat cc), oI (Int32.ofNat (cc + o_pl pp))]) rfl ?_
    refine o_al X3 hx hby D39_12 rfl ?_
    refine o_il X3 hx hby D39_13 rfl ?_
    exact st6 t kt)
  obtain ⟨_, T8, L8, X8, hQ8, st8⟩ := o_cW (y := o_N30) (b := x1) (g := (mkF m 18 #[oR x1, oI pp, oI (Int32.ofNat cc), oI (Int32.ofNat (cc + o_pl pp))] [(.ref x1)])) (as := []) (rest := []) 0 X6 hx hZ hml hown (oV hw 133 rfl) (oV hw 136 rfl) (oV hw 135 rfl) (oV hw 137 rfl) (oV hw 62 rfl) (o_isl0 l Z a0 hw [] x1 ab kb us cc cs fm h0 n0 Z0 hS hst O0) e6 E_x1 o_pd13 (hb hby D39_18)
  obtain ⟨rfl, N8q, e8⟩ := hQ8
  have N8 := Fr.app N6 N8q
  have pre9 : Goes p e below s1 F0 T8 (mkF m 21 #[oR x1, oI pp, oI (Int32.ofNat cc), oI (Int32.ofNat (cc + o_pl pp))] [(.int 1)]) := fun t kt => pre7 t (by
    refine o_al X6 hx hby D39_17 rfl ?_
    exact st8 t kt)
  obtain ⟨T10, X10, e10, st10⟩ := getF X8 hx hZ hown (host := "") (Or.inl (oV hw 66 rfl)) Via.refl e8 F_value (g := (mkF m 27 #[oR x1, oI pp, oI (Int32.ofNat cc), oI (Int32.ofNat (cc + o_pl pp))] [(.ref x1), (.int (Int32.ofNat (cc + o_pl pp))), (.int pp)])) rfl rfl (hb hby D39_27)
  have pre11 : Goes p e below s1 F0 T10 (mkF m 30 #[oR x1, oI pp, oI (Int32.ofNat cc), oI (Int32.ofNat (cc + o_pl pp))] [(.ref ab), (.int (Int32.ofNat (cc + o_pl pp))), (.int pp)]) := fun t kt => pre9 t (by
    refine o_ifN X8 hx hby D39_21 ((if0 _ _).trans (feq (by decide : ¬ ((1 : Int32) = (0 : Int32)))).1) ?_
    refine o_il X8 hx hby D39_24 rfl ?_
    refine o_il X8 hx hby D39_25 rfl ?_
    refine o_al X8 hx hby D39_26 rfl ?_
    exact st10 t kt)
  obtain ⟨_, T12, L12, X12, hQ12, st12⟩ := o_cS (y := o_N38) (g := (mkF m 30 #[oR x1, oI pp, oI (Int32.ofNat cc), oI (Int32.ofNat (cc + o_pl pp))] [(.ref ab), (.int (Int32.ofNat (cc + o_pl pp))), (.int pp)])) (as := [(.int pp), (.int (Int32.ofNat (cc + o_pl pp))), (.ref ab)]) (rest := []) 0 X10 hx hZ hml hown (oV hw 138 rfl) (oV hw 139 rfl) (oV hw 131 rfl) (oV hw 140 rfl) (o_gc0 l Z a0 hw [] pp (cc + o_pl pp) ab kb us cs fm aO aT h0 n0 Z0 V_ab hlu g_ab (Nat.le_add_left _ _) (by omega) hst O0 hdg) e10 o_pd25 (hb hby D39_30)
  obtain ⟨zr12, rfl, N12q, K12q, uw, Vz12, hDW⟩ := hQ12
  have N12 := Fr.app N8 N12q
  have KC12 : Keep h0 T12.heap [x1, ab] := (Keep.refl h0 [x1, ab]).trans K12q (allS (Or.inl (o_mG (i := 1) rfl)) all0)
  have pre13 : Goes p e below s1 F0 T12 (mkF m 33 #[oR x1, oI pp, oI (Int32.ofNat cc), oI (Int32.ofNat (cc + o_pl pp))] [(.int zr12)]) := fun t kt => pre11 t (st12 t kt)
  obtain ⟨T14, h14, X14, e14, W14, st14⟩ := putF X12 hx hZ hown (host := "") (Or.inl (oV hw 90 rfl)) Via.refl rfl (F_count.keep K12q (ninS nxa nin0)) (E_x1.keep K12q) (Or.inl (oV hw 91 rfl)) (oV hw 53 rfl) (ty := .int) (by decide) rfl rfl (g := (mkF m 50 #[oR x1, oI pp, oI (Int32.ofNat cc), oI (Int32.ofNat (cc + o_pl pp))] [(.int (Int32.ofNat (cc + o_pl pp))), (.ref x1)])) rfl rfl (hb hby D39_50)
  have Fw14 := (F_count.keep K12q (ninS nxa nin0)).same W14
  have K14 : Keep h0 h14 [x1, ab] := KC12.wr W14 (Or.inl (o_mG (i := 0) rfl))
  have N14 := Fr.snoc X14 N12 g_x1
  have pre15 : Goes p e below s1 F0 T14 (mkF m 53 #[oR x1, oI pp, oI (Int32.ofNat cc), oI (Int32.ofNat (cc + o_pl pp))] []) := fun t kt => pre13 t (by
    refine XS.pop X12.here hx rfl (hb hby D39_33) rfl rfl ?_
    refine o_gt 34 48 X12 hx hby D39_34 ?_
    refine o_al X12 hx hby D39_48 rfl ?_
    refine o_il X12 hx hby D39_49 rfl ?_
    exact st14 t kt)
  have pre16 : Goes p e below s1 F0 T14 (mkF m 54 #[oR x1, oI pp, oI (Int32.ofNat cc), oI (Int32.ofNat (cc + o_pl pp))] [(.ref x1)]) := fun t kt => pre15 t (by
    refine o_al X14 hx hby D39_53 rfl ?_
    exact kt)
  refine o_eR X14 Bd hx pre16 (hb hby D39_54) e14 ?_
  exact ⟨rfl, N14, K14, uw, ⟨((E_x1.keep K12q).wr W14), ((F_value.keep K12q (ninS nxa nin0)).other W14 (Or.inr (slot_ne (Or.inl (oV hw 67 rfl)) (Or.inl (oV hw 91 rfl)) (by decide) (t := (.array .byte)) (t' := .int) (by decide) (by decide)))), ((F_coder.keep K12q (ninS nxa nin0)).other W14 (Or.inr (slot_ne (Or.inl (oV hw 69 rfl)) (Or.inl (oV hw 91 rfl)) (by decide) (t := .byte) (t' := .int) (by decide) (by decide)))), Fw14, ((F_maybeLatin1.keep K12q (ninS nxa nin0)).other W14 (Or.inr (slot_ne (Or.inl (oV hw 293 rfl)) (Or.inl (oV hw 91 rfl)) (by decide) (t := .boolean) (t' := .int) (by decide) (by decide)))), (Vz12.other W14 (Ne.symm nxa)), (hDW.1.trans hlu), nxa, g_x1, g_ab⟩, hDW⟩
theorem D40_0 : decode oY41 0 = .ok (.aload_n 0, 1) := by decide +kernel
theorem D40_1 : decode oY41 1 = .ok (.iload_n 1, 1) := by decide +kernel
theorem D40_2 : decode oY41 2 = .ok (.invokespecial 53, 3) := by decide +kernel
theorem D40_5 : decode oY41 5 = .ok (.pop, 1) := by decide +kernel
theorem D40_6 : decode oY41 6 = .ok (.aload_n 0, 1) := by decide +kernel
theorem D40_7 : decode oY41 7 = .ok (.areturn, 1) := by decide +kernel
def Q_o_bI0 (Z : State) (x1 ab : Addr) (kb : ClassId) (us : List Value) (cc : Nat) (pp cs : Int32) (fm : Value) (aO aT : Addr) (h0 : Heap) (n0 : Nat) (v : Option Value) (h : Heap) (L : List Loc) : Prop := v = some (.ref x1) ∧ Fr n0 L ∧ Keep h0 h [x1, ab] ∧ ∃ us' : List Value, o_SB Z h n0 x1 ab kb us' (cc + o_pl pp) (0 : Int32) (16 : Int32) 16 ∧ o_DW false us us' (cc + o_pl pp) pp
theorem o_bI0 (l : Launch) (Z : State) (a0 : Array Value) (hw : ∀ d ∈ tables_1, d.before a0 Z = true) (ws : List Jvm.Cond) (x1 ab : Addr) (kb : ClassId) (us : List Value) (cc : Nat) (pp cs : Int32) (fm : Value) (aO aT : Addr) (h0 : Heap) (n0 : Nat) (Z0 : n0 ≤ h0.size) (hS : o_SB Z h0 n0 x1 ab kb us cc (0 : Int32) (16 : Int32) 16) (hcl : cc + o_pl pp ≤ 16) (hst : o_ST Z cs fm) (O0 : Old Z n0 h0) (hdg : o_DG Z aO aT) :
    o_MF l o_N40 oY41 2 (some (.object "java/lang/StringBuilder")) ws o_R28 #[(.ref x1), (.int pp)] Z h0 (Q_o_bI0 Z x1 ab kb us cc pp cs fm aO aT h0 n0) := by
  refine o_start (C := "java/lang/StringBuilder") rfl (plainFor_of_name o_pn_o_bi) fun p e s m below meth c s1 F0 Bd hx hby hml hown hnm hZ X0 e0 hF0 => ?_
  have N0 := Fr.nil n0
  have pre0 : Goes p e below s1 F0 s1 (mkF m 0 #[oR x1, oI pp] []) := fun t k => castTop (hF0.trans (by simp [entryFrame, mkF, argsToLocals, Value.category])) k
  obtain ⟨E_x1, F_value, F_coder, F_count, F_maybeLatin1, V_ab, hlu, nxa, g_x1, g_ab⟩ := (id (hS))
  obtain ⟨_, T1, L1, X1, hQ1, st1⟩ := o_cU (y := o_N39) (y2 := o_N24) (b := x1) (g := (mkF m 2 #[oR x1, oI pp] [(.int pp), (.ref x1)])) (as := [(.int pp)]) (rest := []) 0 X0 hx hZ hml hown (oV hw 125 rfl) (oV hw 95 rfl) (oV hw 126 rfl) (oV hw 77 rfl) (oV hw 128 rfl) (oV hw 62 rfl) (o_aI0 l Z a0 hw [] x1 ab kb us cc pp cs fm aO aT h0 n0 Z0 hS hcl hst O0 hdg) e0 E_x1 o_pd26 (hb hby D40_2)
  obtain ⟨rfl, N1q, K1q, Rest1⟩ := hQ1
  have N1 := Fr.app N0 N1q
  have KC1 : Keep h0 T1.heap [x1, ab] := (Keep.refl h0 [x1, ab]).trans K1q (allS (Or.inl (o_mG (i := 0) rfl)) (allS (Or.inl (o_mG (i := 1) rfl)) all0))
  have pre2 : Goes p e below s1 F0 T1 (mkF m 5 #[oR x1, oI pp] [(.ref x1)]) := fun t kt => pre0 t (by
    refine o_al X0 hx hby D40_0 rfl ?_
    refine o_il X0 hx hby D40_1 rfl ?_
    exact st1 t kt)
  have pre3 : Goes p e below s1 F0 T1 (mkF m 7 #[oR x1, oI pp] [(.ref x1)]) := fun t kt => pre2 t (by
    refine XS.pop X1.here hx rfl (hb hby D40_5) rfl rfl ?_
    refine o_al X1 hx hby D40_6 rfl ?_
    exact kt)
  refine o_eR X1 Bd hx pre3 (hb hby D40_7) rfl ?_
  exact ⟨rfl, N1, KC1, Rest1⟩
theorem D41_0 : decode oY6 0 = .ok (.iload_n 0, 1) := by decide +kernel
theorem D41_1 : decode oY6 1 = .ok (.ifCond .lt 13, 3) := by decide +kernel
theorem D41_4 : decode oY6 4 = .ok (.iload_n 0, 1) := by decide +kernel
theorem D41_5 : decode oY6 5 = .ok (.iload_n 1, 1) := by decide +kernel
theorem D41_6 : decode oY6 6 = .ok (.if_icmp .gt 8, 3) := by decide +kernel
theorem D41_9 : decode oY6 9 = .ok (.iload_n 1, 1) := by decide +kernel
theorem D41_10 : decode oY6 10 = .ok (.iload_n 2, 1) := by decide +kernel
theorem D41_11 : decode oY6 11 = .ok (.if_icmp .le 11, 3) := by decide +kernel
theorem D41_22 : decode oY6 22 = .ok (.iload_n 0, 1) := by decide +kernel
theorem D41_23 : decode oY6 23 = .ok (.ireturn, 1) := by decide +kernel
theorem o_ef_o_cft (m : MethodId) (x0 x1 x2 : Int32) (x3 : Value) (h3 : o_Rf x3) : entryFrame m #[(.int x0), (.int x1), (.int x2), x3] 4 = mkF m 0 #[oI x0, oI x1, oI x2, .val x3] [] := by rcases h3 with rfl | ⟨w3, rfl⟩ <;> first | (simp [entryFrame, mkF, argsToLocals, Value.category]; done) | rfl
def Q_o_cft (Z : State) (ip jp lp : Int32) (fm : Value) (h0 : Heap) (n0 : Nat) (v : Option Value) (h : Heap) (L : List Loc) : Prop := v = some (.int ip) ∧ Fr n0 L ∧ h = h0
theorem o_cft (l : Launch) (Z : State) (a0 : Array Value) (hw : ∀ d ∈ tables_1, d.before a0 Z = true) (ws : List Jvm.Cond) (ip jp lp : Int32) (fm : Value) (h0 : Heap) (n0 : Nat) (Z0 : n0 ≤ h0.size) (hfm : o_Rf fm) (h1 : ¬ (ip < (0 : Int32))) (h2 : ¬ (jp < ip)) (h3 : ¬ (lp < jp)) :
    o_MF l o_N41 oY6 4 (some .int) ws o_R2 #[(.int ip), (.int jp), (.int lp), fm] Z h0 (Q_o_cft Z ip jp lp fm h0 n0) := by
  refine o_start (C := "jdk/internal/util/Preconditions") rfl (plainFor_of_name o_pn_o_pi) fun p e s m below meth c s1 F0 Bd hx hby hml hown hnm hZ X0 e0 hF0 => ?_
  have N0 := Fr.nil n0
  have pre0 : Goes p e below s1 F0 s1 (mkF m 0 #[oI ip, oI jp, oI lp, .val fm] []) := fun t k => castTop (hF0.trans (o_ef_o_cft m ip jp lp fm hfm)) k
  have pre1 : Goes p e below s1 F0 s1 (mkF m 23 #[oI ip, oI jp, oI lp, .val fm] [(.int ip)]) := fun t kt => pre0 t (by
    refine o_il X0 hx hby D41_0 rfl ?_
    refine o_ifN X0 hx hby D41_1 ((if0 _ _).trans (flt h1).1) ?_
    refine o_il X0 hx hby D41_4 rfl ?_
    refine o_il X0 hx hby D41_5 rfl ?_
    refine o_icN X0 hx hby D41_6 (flt h2).2.2.1 ?_
    refine o_il X0 hx hby D41_9 rfl ?_
    refine o_il X0 hx hby D41_10 rfl ?_
    refine o_icY 11 22 X0 hx hby D41_11 (flt h3).2.2.2 ?_
    show Steps p.tables e below (s1.setTop (mkF m 22 #[oI ip, oI jp, oI lp, .val fm] [])) _
    refine o_il X0 hx hby D41_22 rfl ?_
    exact kt)
  refine o_eI X0 Bd hx pre1 (hb hby D41_23) e0 ?_
  exact ⟨rfl, N0, rfl⟩
theorem D42_0 : decode oY15 0 = .ok (.iload_n 0, 1) := by decide +kernel
theorem D42_1 : decode oY15 1 = .ok (.iload_n 1, 1) := by decide +kernel
theorem D42_2 : decode oY15 2 = .ok (.iload_n 2, 1) := by decide +kernel
theorem D42_3 : decode oY15 3 = .ok (.getstatic 1053, 3) := by decide +kernel
theorem D42_6 : decode oY15 6 = .ok (.invokestatic 1062, 3) := by decide +kernel
theorem D42_9 : decode oY15 9 = .ok (.pop, 1) := by decide +kernel
theorem D42_10 : decode oY15 10 = .ok (.return_, 1) := by decide +kernel
def Q_o_scbe (Z : State) (ip jp : Int32) (lp cs : Int32) (fm : Value) (h0 : Heap) (n0 : Nat) (v : Option Value) (h : Heap) (L : List Loc) : Prop := v = none ∧ Fr n0 L ∧ h = h0
theorem o_scbe (l : Launch) (Z : State) (a0 : Array Value) (hw : ∀ d ∈ tables_1, d.before a0 Z = true) (ws : List Jvm.Cond) (ip jp : Int32) (lp cs : Int32) (fm : Value) (h0 : Heap) (n0 : Nat) (Z0 : n0 ≤ h0.size) (h1 : ¬ (ip < (0 : Int32))) (h2 : ¬ (jp < ip)) (h3 : ¬ (lp < jp)) (hst : o_ST Z cs fm) (O0 : Old Z n0 h0) :
    o_MF l o_N42 oY15 3 none ws o_R32 #[(.int ip), (.int jp), (.int lp)] Z h0 (Q_o_scbe Z ip jp lp cs fm h0 n0) := by
  refine o_start (C := "java/lang/String") rfl (plainFor_of_name o_pn_o_sI0) fun p e s m below meth c s1 F0 Bd hx hby hml hown hnm hZ X0 e0 hF0 => ?_
  have N0 := Fr.nil n0
  have pre0 : Goes p e below s1 F0 s1 (mkF m 0 #[oI ip, oI jp, oI lp] []) := fun t k => castTop (hF0.trans (by simp [entryFrame, mkF, argsToLocals, Value.category])) k
  obtain ⟨T1, X1, e1, st1⟩ := getS2 X0 hx hZ hown (host := "") (Or.inl (oV hw 209 rfl)) Via.refl e0 (hst.2.2.2.2.2.1.ext O0.2) (g := (mkF m 3 #[oI ip, oI jp, oI lp] [(.int lp), (.int jp), (.int ip)])) rfl (hb hby D42_3)
  have pre2 : Goes p e below s1 F0 T1 (mkF m 6 #[oI ip, oI jp, oI lp] [fm, (.int lp), (.int jp), (.int ip)]) := fun t kt => pre0 t (by
    refine o_il X0 hx hby D42_0 rfl ?_
    refine o_il X0 hx hby D42_1 rfl ?_
    refine o_il X0 hx hby D42_2 rfl ?_
    exact st1 t kt)
  obtain ⟨_, T3, L3, X3, hQ3, st3⟩ := o_cS (y := o_N41) (g := (mkF m 6 #[oI ip, oI jp, oI lp] [fm, (.int lp), (.int jp), (.int ip)])) (as := [(.int ip), (.int jp), (.int lp), fm]) (rest := []) 0 X1 hx hZ hml hown (oV hw 284 rfl) (oV hw 285 rfl) (oV hw 210 rfl) (oV hw 286 rfl) (o_cft l Z a0 hw [] ip jp lp fm h0 n0 Z0 hst.2.2.2.2.2.2 h1 h2 h3) e1 o_pd21 (hb hby D42_6)
  obtain ⟨rfl, N3q, e3⟩ := hQ3
  have N3 := Fr.app N0 N3q
  have pre4 : Goes p e below s1 F0 T3 (mkF m 9 #[oI ip, oI jp, oI lp] [(.int ip)]) := fun t kt => pre2 t (st3 t kt)
  have pre5 : Goes p e below s1 F0 T3 (mkF m 10 #[oI ip, oI jp, oI lp] []) := fun t kt => pre4 t (by
    refine XS.pop X3.here hx rfl (hb hby D42_9) rfl rfl ?_
    exact kt)
  refine o_eV X3 Bd hx pre5 (hb hby D42_10) e3 ?_
  exact ⟨rfl, N3, rfl⟩
theorem D43_0 : decode oY36 0 = .ok (.iload_n 0, 1) := by decide +kernel
theorem D43_1 : decode oY36 1 = .ok (.iload_n 1, 1) := by decide +kernel
theorem D43_2 : decode oY36 2 = .ok (.aload_n 2, 1) := by decide +kernel
theorem D43_3 : decode oY36 3 = .ok (.invokestatic 48, 3) := by decide +kernel
theorem D43_6 : decode oY36 6 = .ok (.invokestatic 241, 3) := by decide +kernel
theorem D43_9 : decode oY36 9 = .ok (.return_, 1) := by decide +kernel
def Q_o_ucbe (Z : State) (ip jp : Int32) (ab : Addr) (zn cs : Int32) (fm : Value) (h0 : Heap) (n0 : Nat) (v : Option Value) (h : Heap) (L : List Loc) : Prop := v = none ∧ Fr n0 L ∧ h = h0
theorem o_ucbe (l : Launch) (Z : State) (a0 : Array Value) (hw : ∀ d ∈ tables_1, d.before a0 Z = true) (ws : List Jvm.Cond) (ip jp : Int32) (ab : Addr) (zn cs : Int32) (fm : Value) (h0 : Heap) (n0 : Nat) (Z0 : n0 ≤ h0.size) (Ln : o_Ln Z h0 ab zn) (h1 : ¬ (ip < (0 : Int32))) (h2 : ¬ (jp < ip)) (h3 : ¬ ((zn >>> ((1 : Int32) &&& 31)) < jp)) (hst : o_ST Z cs fm) (O0 : Old Z n0 h0) :
    o_MF l o_N43 oY36 3 none ws o_R33 #[(.int ip), (.int jp), (.ref ab)] Z h0 (Q_o_ucbe Z ip jp ab zn cs fm h0 n0) := by
  refine o_start (C := "java/lang/StringUTF16") rfl (plainFor_of_name o_pn_o_cin1) fun p e s m below meth c s1 F0 Bd hx hby hml hown hnm hZ X0 e0 hF0 => ?_
  have N0 := Fr.nil n0
  have pre0 : Goes p e below s1 F0 s1 (mkF m 0 #[oI ip, oI jp, oR ab] []) := fun t k => castTop (hF0.trans (by simp [entryFrame, mkF, argsToLocals, Value.category])) k
  obtain ⟨_, T1, L1, X1, hQ1, st1⟩ := o_cS (y := o_N16) (g := (mkF m 3 #[oI ip, oI jp, oR ab] [(.ref ab), (.int jp), (.int ip)])) (as := [(.ref ab)]) (rest := [(.int jp), (.int ip)]) 2 X0 hx hZ hml hown (oV hw 265 rfl) (oV hw 266 rfl) (oV hw 18 rfl) (oV hw 267 rfl) (o_ul l Z a0 hw [] ab zn h0 n0 Z0 Ln) e0 o_pd11 (hb hby D43_3)
  obtain ⟨rfl, N1q, e1⟩ := hQ1
  have N1 := Fr.app N0 N1q
  have pre2 : Goes p e below s1 F0 T1 (mkF m 6 #[oI ip, oI jp, oR ab] [(.int (zn >>> ((1 : Int32) &&& 31))), (.int jp), (.int ip)]) := fun t kt => pre0 t (by
    refine o_il X0 hx hby D43_0 rfl ?_
    refine o_il X0 hx hby D43_1 rfl ?_
    refine o_al X0 hx hby D43_2 rfl ?_
    exact st1 t kt)
  obtain ⟨_, T3, L3, X3, hQ3, st3⟩ := o_cS (y := o_N42) (g := (mkF m 6 #[oI ip, oI jp, oR ab] [(.int (zn >>> ((1 : Int32) &&& 31))), (.int jp), (.int ip)])) (as := [(.int ip), (.int jp), (.int (zn >>> ((1 : Int32) &&& 31)))]) (rest := []) 0 X1 hx hZ hml hown (oV hw 281 rfl) (oV hw 282 rfl) (oV hw 4 rfl) (oV hw 283 rfl) (o_scbe l Z a0 hw [] ip jp (zn >>> ((1 : Int32) &&& 31)) cs fm h0 n0 Z0 h1 h2 h3 hst O0) e1 o_pd27 (hb hby D43_6)
  obtain ⟨rfl, N3q, e3⟩ := hQ3
  have N3 := Fr.app N1 N3q
  have pre4 : Goes p e below s1 F0 T3 (mkF m 9 #[oI ip, oI jp, oR ab] []) := fun t kt => pre2 t (st3 t kt)
  refine o_eV X3 Bd hx pre4 (hb hby D43_9) e3 ?_
  exact ⟨rfl, N3, rfl⟩
theorem D44_0 : decode oY34 0 = .ok (.iload_n 1, 1) := by decide +kernel
theorem D44_1 : decode oY34 1 = .ok (.istore 5, 2) := by decide +kernel
theorem D44_3 : decode oY34 3 = .ok (.iload_n 0, 1) := by decide +kernel
theorem D44_4 : decode oY34 4 = .ok (.ifCond .ge 7, 3) := by decide +kernel
theorem D44_7 : decode oY34 7 = .ok (.iconst 1, 1) := by decide +kernel
theorem D44_8 : decode oY34 8 = .ok (.goto 4, 3) := by decide +kernel
theorem D44_11 : decode oY34 11 = .ok (.iconst 0, 1) := by decide +kernel
theorem D44_12 : decode oY34 12 = .ok (.istore 6, 2) := by decide +kernel
theorem D44_14 : decode oY34 14 = .ok (.iload 6, 2) := by decide +kernel
theorem D44_16 : decode oY34 16 = .ok (.ifCond .ne 6, 3) := by decide +kernel
theorem D44_19 : decode oY34 19 = .ok (.iload_n 0, 1) := by decide +kernel
theorem D44_20 : decode oY34 20 = .ok (.ineg, 1) := by decide +kernel
theorem D44_21 : decode oY34 21 = .ok (.istore_n 0, 1) := by decide +kernel
theorem D44_22 : decode oY34 22 = .ok (.iload_n 0, 1) := by decide +kernel
theorem D44_23 : decode oY34 23 = .ok (.bipush (-100), 2) := by decide +kernel
theorem D44_25 : decode oY34 25 = .ok (.if_icmp .gt 51, 3) := by decide +kernel
theorem D44_28 : decode oY34 28 = .ok (.iload_n 0, 1) := by decide +kernel
theorem D44_29 : decode oY34 29 = .ok (.bipush 100, 2) := by decide +kernel
theorem D44_31 : decode oY34 31 = .ok (.idiv, 1) := by decide +kernel
theorem D44_32 : decode oY34 32 = .ok (.istore_n 3, 1) := by decide +kernel
theorem D44_33 : decode oY34 33 = .ok (.iload_n 3, 1) := by decide +kernel
theorem D44_34 : decode oY34 34 = .ok (.bipush 100, 2) := by decide +kernel
theorem D44_36 : decode oY34 36 = .ok (.imul, 1) := by decide +kernel
theorem D44_37 : decode oY34 37 = .ok (.iload_n 0, 1) := by decide +kernel
theorem D44_38 : decode oY34 38 = .ok (.isub, 1) := by decide +kernel
theorem D44_39 : decode oY34 39 = .ok (.istore 4, 2) := by decide +kernel
theorem D44_41 : decode oY34 41 = .ok (.iload_n 3, 1) := by decide +kernel
theorem D44_42 : decode oY34 42 = .ok (.istore_n 0, 1) := by decide +kernel
theorem D44_43 : decode oY34 43 = .ok (.aload_n 2, 1) := by decide +kernel
theorem D44_44 : decode oY34 44 = .ok (.iinc 5 (-1), 3) := by decide +kernel
theorem D44_47 : decode oY34 47 = .ok (.iload 5, 2) := by decide +kernel
theorem D44_49 : decode oY34 49 = .ok (.getstatic 403, 3) := by decide +kernel
theorem D44_52 : decode oY34 52 = .ok (.iload 4, 2) := by decide +kernel
theorem D44_54 : decode oY34 54 = .ok (.baload, 1) := by decide +kernel
theorem D44_55 : decode oY34 55 = .ok (.invokestatic 111, 3) := by decide +kernel
theorem D44_58 : decode oY34 58 = .ok (.aload_n 2, 1) := by decide +kernel
theorem D44_59 : decode oY34 59 = .ok (.iinc 5 (-1), 3) := by decide +kernel
theorem D44_62 : decode oY34 62 = .ok (.iload 5, 2) := by decide +kernel
theorem D44_64 : decode oY34 64 = .ok (.getstatic 407, 3) := by decide +kernel
theorem D44_67 : decode oY34 67 = .ok (.iload 4, 2) := by decide +kernel
theorem D44_69 : decode oY34 69 = .ok (.baload, 1) := by decide +kernel
theorem D44_70 : decode oY34 70 = .ok (.invokestatic 111, 3) := by decide +kernel
theorem D44_73 : decode oY34 73 = .ok (.goto (-51), 3) := by decide +kernel
theorem D44_76 : decode oY34 76 = .ok (.aload_n 2, 1) := by decide +kernel
theorem D44_77 : decode oY34 77 = .ok (.iinc 5 (-1), 3) := by decide +kernel
theorem D44_80 : decode oY34 80 = .ok (.iload 5, 2) := by decide +kernel
theorem D44_82 : decode oY34 82 = .ok (.getstatic 403, 3) := by decide +kernel
theorem D44_85 : decode oY34 85 = .ok (.iload_n 0, 1) := by decide +kernel
theorem D44_86 : decode oY34 86 = .ok (.ineg, 1) := by decide +kernel
theorem D44_87 : decode oY34 87 = .ok (.baload, 1) := by decide +kernel
theorem D44_88 : decode oY34 88 = .ok (.invokestatic 111, 3) := by decide +kernel
theorem D44_91 : decode oY34 91 = .ok (.iload_n 0, 1) := by decide +kernel
theorem D44_92 : decode oY34 92 = .ok (.bipush (-9), 2) := by decide +kernel
theorem D44_94 : decode oY34 94 = .ok (.if_icmp .ge 18, 3) := by decide +kernel
theorem D44_97 : decode oY34 97 = .ok (.aload_n 2, 1) := by decide +kernel
theorem D44_98 : decode oY34 98 = .ok (.iinc 5 (-1), 3) := by decide +kernel
theorem D44_101 : decode oY34 101 = .ok (.iload 5, 2) := by decide +kernel
theorem D44_103 : decode oY34 103 = .ok (.getstatic 407, 3) := by decide +kernel
theorem D44_106 : decode oY34 106 = .ok (.iload_n 0, 1) := by decide +kernel
theorem D44_107 : decode oY34 107 = .ok (.ineg, 1) := by decide +kernel
theorem D44_108 : decode oY34 108 = .ok (.baload, 1) := by decide +kernel
theorem D44_109 : decode oY34 109 = .ok (.invokestatic 111, 3) := by decide +kernel
theorem D44_112 : decode oY34 112 = .ok (.iload 6, 2) := by decide +kernel
theorem D44_114 : decode oY34 114 = .ok (.ifCond .eq 14, 3) := by decide +kernel
theorem D44_117 : decode oY34 117 = .ok (.aload_n 2, 1) := by decide +kernel
theorem D44_118 : decode oY34 118 = .ok (.iinc 5 (-1), 3) := by decide +kernel
theorem D44_121 : decode oY34 121 = .ok (.iload 5, 2) := by decide +kernel
theorem D44_123 : decode oY34 123 = .ok (.bipush 45, 2) := by decide +kernel
theorem D44_125 : decode oY34 125 = .ok (.invokestatic 111, 3) := by decide +kernel
theorem D44_128 : decode oY34 128 = .ok (.iload 5, 2) := by decide +kernel
theorem D44_130 : decode oY34 130 = .ok (.ireturn, 1) := by decide +kernel
theorem o_gcT1 {p : Program} {l : Launch} {e : Env} {s : State} {m : MethodId} {args : Array Value} {below : List Frame} {meth : Method} {c : Code} {Z : State} {a0 : Array Value} (ab : Addr) (kb : ClassId) (ee : Nat) (sv : Int32) (n0 : Nat) (cs : Int32) (fm : Value) (aO aT : Addr) (mm cc : Nat) (ii : Int32) (us : List Value) {T0 : State} {h0 : Heap} {locs : List Loc} {s3 s4 : Slot} (hx : p.tables.exec = Jvm.exec) (hZ : Z.Warmed39 s.vm) (hw : ∀ d ∈ tables_1, d.before a0 Z = true) (hby : c.code = oY34) (hml : c.maxLocals = 7) (hown : s.vm.findClass "java/lang/StringUTF16" = some m.cls) (X0 : Stand p l e o_R19 s m args below meth c T0 locs 0 0) (e0 : T0.heap = h0) (N0 : Fr n0 locs) (Z0 : n0 ≤ h0.size) (g_ab : n0 ≤ ab) (V_ab : Arv Z h0 ab kb .byte (32 : Int32) us (.int 0)) (hlu : us.length = 32) (hst : o_ST Z cs fm) (hdg : o_DG Z aO aT) (O0 : Old Z n0 h0) (hi : ii.toInt = -(mm : Int)) (h100 : 100 ≤ mm) (hm : mm ≤ 2147483648) (hc2 : 2 ≤ cc) (hc16 : cc ≤ 16) (h3 : (s3 = oU ∨ ∃ w, s3 = .val w ∧ w.category = 1)) (h4 : (s4 = oU ∨ ∃ w, s4 = .val w ∧ w.category = 1)) :
    ∃ (T' : State) (h' : Heap) (locs' : List Loc) (s3' s4' : Slot), Stand p l e o_R19 s m args below meth c T' locs' 0 0 ∧ T'.heap = h' ∧ Fr n0 locs' ∧ Keep h0 h' [ab] ∧ Arv Z h' ab kb .byte (32 : Int32) (o_P true (o_P true us (cc - 1) (o_dj mm 0)) (cc - 2) (o_dj mm 1)) (.int 0) ∧ (s3' = oU ∨ ∃ w, s3' = .val w ∧ w.category = 1) ∧ (s4' = oU ∨ ∃ w, s4' = .val w ∧ w.category = 1) ∧ Goes p e below T0 (mkF m 22 #[oI ii, oI (Int32.ofNat ee), oR ab, s3, s4, oI (Int32.ofNat cc), oI sv] []) T' (mkF m 22 #[oI (ii / (100 : Int32)), oI (Int32.ofNat ee), oR ab, s3', s4', oI (Int32.ofNat (cc - 2)), oI sv] []) := by
  obtain ⟨F0, hF0⟩ : ∃ F, F = (mkF m 22 #[oI ii, oI (Int32.ofNat ee), oR ab, s3, s4, oI (Int32.ofNat cc), oI sv] []) := ⟨_, rfl⟩
  have pre0 : Goes p e below T0 F0 T0 (mkF m 22 #[oI ii, oI (Int32.ofNat ee), oR ab, s3, s4, oI (Int32.ofNat cc), oI sv] []) := by rw [hF0]; exact fun t k => k
  have pre1 : Goes p e below T0 F0 T0 (mkF m 39 #[oI ii, oI (Int32.ofNat ee), oR ab, oI (ii / (100 : Int32)), s4, oI (Int32.ofNat cc), oI sv] [(.int (((ii / (100 : Int32)) * (100 : Int32)) - ii))]) := fun t kt => pre0 t (by
    refine o_il X0 hx hby D44_22 rfl ?_
    refine o_bp X0 hx hby D44_23 ?_
    refine o_icN X0 hx hby D44_25 (flt (o_t100 hi h100)).2.2.1 ?_
    refine o_il X0 hx hby D44_28 rfl ?_
    refine o_bp X0 hx hby D44_29 ?_
    refine XS.idiv X0.here hx rfl (hb hby D44_31) rfl (by decide) ?_
    refine XS.istoreN X0.here hx rfl (hb hby D44_32) rfl (l' := #[oI ii, oI (Int32.ofNat ee), oR ab, oI (ii / (100 : Int32)), s4, oI (Int32.ofNat cc), oI sv]) (XS.store1 rfl h3 rfl) ?_
    refine o_il X0 hx hby D44_33 rfl ?_
    show Steps p.tables e below (T0.setTop (mkF m 34 #[oI ii, oI (Int32.ofNat ee), oR ab, oI (ii / (100 : Int32)), s4, oI (Int32.ofNat cc), oI sv] [(.int (ii / (100 : Int32)))])) _
    refine o_bp X0 hx hby D44_34 ?_
    refine XS.imul X0.here hx rfl (hb hby D44_36) rfl ?_
    refine o_il X0 hx hby D44_37 rfl ?_
    refine XS.isub X0.here hx rfl (hb hby D44_38) rfl ?_
    exact kt)
  rw [show (((ii / (100 : Int32)) * (100 : Int32)) - ii) = (Int32.ofNat (mm % 100)) from o_r100 hi hm] at pre1
  have pre2 : Goes p e below T0 F0 T0 (mkF m 47 #[oI (ii / (100 : Int32)), oI (Int32.ofNat ee), oR ab, oI (ii / (100 : Int32)), oI (Int32.ofNat (mm % 100)), oI ((Int32.ofNat cc) + (-1 : Int32)), oI sv] [(.ref ab)]) := fun t kt => pre1 t (by
    refine XS.istore X0.here hx rfl (hb hby D44_39) rfl (l' := #[oI ii, oI (Int32.ofNat ee), oR ab, oI (ii / (100 : Int32)), oI (Int32.ofNat (mm % 100)), oI (Int32.ofNat cc), oI sv]) (XS.store1 rfl h4 rfl) ?_
    refine o_il X0 hx hby D44_41 rfl ?_
    refine XS.istoreN X0.here hx rfl (hb hby D44_42) rfl (l' := #[oI (ii / (100 : Int32)), oI (Int32.ofNat ee), oR ab, oI (ii / (100 : Int32)), oI (Int32.ofNat (mm % 100)), oI (Int32.ofNat cc), oI sv]) rfl ?_
    refine o_al X0 hx hby D44_43 rfl ?_
    refine XS.iinc X0.here hx rfl (hb hby D44_44) rfl (l' := #[oI (ii / (100 : Int32)), oI (Int32.ofNat ee), oR ab, oI (ii / (100 : Int32)), oI (Int32.ofNat (mm % 100)), oI ((Int32.ofNat cc) + (-1 : Int32)), oI sv]) rfl ?_
    exact kt)
  rw [show ((Int32.ofNat cc) + (-1 : Int32)) = (Int32.ofNat (cc - 1)) from o_omk (a := cc) (i := 0) (by omega) (by omega)] at pre2
  obtain ⟨T3, X3, e3, st3⟩ := getS2 X0 hx hZ hown (host := "") (Or.inl (oV hw 290 rfl)) Via.refl e0 (hdg.1.ext O0.2) (g := (mkF m 49 #[oI (ii / (100 : Int32)), oI (Int32.ofNat ee), oR ab, oI (ii / (100 : Int32)), oI (Int32.ofNat (mm % 100)), oI (Int32.ofNat (cc - 1)), oI sv] [(.int (Int32.ofNat (cc - 1))), (.ref ab)])) rfl (hb hby D44_49)
  have pre4 : Goes p e below T0 F0 T3 (mkF m 52 #[oI (ii / (100 : Int32)), oI (Int32.ofNat ee), oR ab, oI (ii / (100 : Int32)), oI (Int32.ofNat (mm % 100)), oI (Int32.ofNat (cc - 1)), oI sv] [(.ref aO), (.int (Int32.ofNat (cc - 1))), (.ref ab)]) := fun t kt => pre2 t (by
    refine o_iL X0 hx hby D44_47 rfl ?_
    exact st3 t kt)
  obtain ⟨cl5, Ar5, hin5, hat5⟩ := (id ((o_At.ext (hdg.2.2 (mm % 100) (Nat.mod_lt _ (by decide))).1 O0.2)))
  have pre6 : Goes p e below T0 F0 T3 (mkF m 55 #[oI (ii / (100 : Int32)), oI (Int32.ofNat ee), oR ab, oI (ii / (100 : Int32)), oI (Int32.ofNat (mm % 100)), oI (Int32.ofNat (cc - 1)), oI sv] [(.int (Int32.ofNat (48 + (mm % 100) % 10))), (.int (Int32.ofNat (cc - 1))), (.ref ab)]) := fun t kt => pre4 t (by
    refine o_iL X3 hx hby D44_52 rfl ?_
    refine X3.baloadBytes hx (j := (Int32.ofNat (mm % 100))) (v := (.int (Int32.ofNat (48 + (mm % 100) % 10)))) (by (try rw [e3]); exact Ar5.1) (State.isArrayOf_alike hZ.alike Ar5.2.1) Ar5.2.2 hin5 hat5 (g := (mkF m 54 #[oI (ii / (100 : Int32)), oI (Int32.ofNat ee), oR ab, oI (ii / (100 : Int32)), oI (Int32.ofNat (mm % 100)), oI (Int32.ofNat (cc - 1)), oI sv] [(.int (Int32.ofNat (mm % 100))), (.ref aO), (.int (Int32.ofNat (cc - 1))), (.ref ab)])) rfl rfl (hb hby D44_54) _ ?_
    exact kt)
  rw [show (Int32.ofNat (48 + (mm % 100) % 10)) = (o_dj mm 0) from o_e0 mm] at pre6
  obtain ⟨_, T7, L7, X7, hQ7, st7⟩ := o_cS (y := o_N5) (g := (mkF m 55 #[oI (ii / (100 : Int32)), oI (Int32.ofNat ee), oR ab, oI (ii / (100 : Int32)), oI (Int32.ofNat (mm % 100)), oI (Int32.ofNat (cc - 1)), oI sv] [(.int (o_dj mm 0)), (.int (Int32.ofNat (cc - 1))), (.ref ab)])) (as := [(.ref ab), (.int (Int32.ofNat (cc - 1))), (.int (o_dj mm 0))]) (rest := []) 0 X3 hx hZ hml hown (oV hw 241 rfl) (oV hw 242 rfl) (oV hw 18 rfl) (oV hw 243 rfl) (o_pch l Z a0 hw [] ab kb (32 : Int32) us (Int32.ofNat (cc - 1)) (o_dj mm 0) cs fm h0 n0 Z0 V_ab (o_pj (cc - 1) (by omega)).1 (by rw [(o_pj (cc - 1) (by omega)).2.1, hlu]; omega) (o_pj (cc - 1) (by omega)).2.2.1 (by rw [(o_pj (cc - 1) (by omega)).2.2.2, hlu]; omega) g_ab hst O0) e3 o_pd3 (hb hby D44_55)
  obtain ⟨rfl, N7q, K7q, Vz7⟩ := hQ7
  have N7 := Fr.app N0 N7q
  have KC7 : Keep h0 T7.heap [ab] := (Keep.refl h0 [ab]).trans K7q (allS (Or.inl (o_mG (i := 0) rfl)) all0)
  have pre8 : Goes p e below T0 F0 T7 (mkF m 58 #[oI (ii / (100 : Int32)), oI (Int32.ofNat ee), oR ab, oI (ii / (100 : Int32)), oI (Int32.ofNat (mm % 100)), oI (Int32.ofNat (cc - 1)), oI sv] []) := fun t kt => pre6 t (st7 t kt)
  rw [(o_pj (cc - 1) (by omega)).2.1, (o_pj (cc - 1) (by omega)).2.2.2] at Vz7
  have Vw7 : Arv Z T7.heap ab kb .byte (32 : Int32) (o_P true us (cc - 1) (o_dj mm 0)) (.int 0) := Vz7
  have pre9 : Goes p e below T0 F0 T7 (mkF m 62 #[oI (ii / (100 : Int32)), oI (Int32.ofNat ee), oR ab, oI (ii / (100 : Int32)), oI (Int32.ofNat (mm % 100)), oI ((Int32.ofNat (cc - 1)) + (-1 : Int32)), oI sv] [(.ref ab)]) := fun t kt => pre8 t (by
    refine o_al X7 hx hby D44_58 rfl ?_
    refine XS.iinc X7.here hx rfl (hb hby D44_59) rfl (l' := #[oI (ii / (100 : Int32)), oI (Int32.ofNat ee), oR ab, oI (ii / (100 : Int32)), oI (Int32.ofNat (mm % 100)), oI ((Int32.ofNat (cc - 1)) + (-1 : Int32)), oI sv]) rfl ?_
    exact kt)
  rw [show ((Int32.ofNat (cc - 1)) + (-1 : Int32)) = (Int32.ofNat (cc - 2)) from o_omk (a := cc) (i := 1) (by omega) (by omega)] at pre9
  obtain ⟨T10, X10, e10, st10⟩ := getS2 X7 hx hZ hown (host := "") (Or.inl (oV hw 291 rfl)) Via.refl rfl (hdg.2.1.ext (O0.keep K7q (allS g_ab all0)).2) (g := (mkF m 64 #[oI (ii / (100 : Int32)), oI (Int32.ofNat ee), oR ab, oI (ii / (100 : Int32)), oI (Int32.ofNat (mm % 100)), oI (Int32.ofNat (cc - 2)), oI sv] [(.int (Int32.ofNat (cc - 2))), (.ref ab)])) rfl (hb hby D44_64)
  have pre11 : Goes p e below T0 F0 T10 (mkF m 67 #[oI (ii / (100 : Int32)), oI (Int32.ofNat ee), oR ab, oI (ii / (100 : Int32)), oI (Int32.ofNat (mm % 100)), oI (Int32.ofNat (cc - 2)), oI sv] [(.ref aT), (.int (Int32.ofNat (cc - 2))), (.ref ab)]) := fun t kt => pre9 t (by
    refine o_iL X7 hx hby D44_62 rfl ?_
    exact st10 t kt)
  obtain ⟨cl12, Ar12, hin12, hat12⟩ := (id ((o_At.ext (hdg.2.2 (mm % 100) (Nat.mod_lt _ (by decide))).2 (O0.keep K7q (allS g_ab all0)).2)))
  have pre13 : Goes p e below T0 F0 T10 (mkF m 70 #[oI (ii / (100 : Int32)), oI (Int32.ofNat ee), oR ab, oI (ii / (100 : Int32)), oI (Int32.ofNat (mm % 100)), oI (Int32.ofNat (cc - 2)), oI sv] [(.int (Int32.ofNat (48 + (mm % 100) / 10))), (.int (Int32.ofNat (cc - 2))), (.ref ab)]) := fun t kt => pre11 t (by
    refine o_iL X10 hx hby D44_67 rfl ?_
    refine X10.baloadBytes hx (j := (Int32.ofNat (mm % 100))) (v := (.int (Int32.ofNat (48 + (mm % 100) / 10)))) (by (try rw [e10]); exact Ar12.1) (State.isArrayOf_alike hZ.alike Ar12.2.1) Ar12.2.2 hin12 hat12 (g := (mkF m 69 #[oI (ii / (100 : Int32)), oI (Int32.ofNat ee), oR ab, oI (ii / (100 : Int32)), oI (Int32.ofNat (mm % 100)), oI (Int32.ofNat (cc - 2)), oI sv] [(.int (Int32.ofNat (mm % 100))), (.ref aT), (.int (Int32.ofNat (cc - 2))), (.ref ab)])) rfl rfl (hb hby D44_69) _ ?_
    exact kt)
  rw [show (Int32.ofNat (48 + (mm % 100) / 10)) = (o_dj mm 1) from o_e1 mm] at pre13
  have hl14_ : (o_P true us (cc - 1) (o_dj mm 0)).length = 32 := (by rw [o_P_len]; exact hlu)
  obtain ⟨_, T15, L15, X15, hQ15, st15⟩ := o_cS (y := o_N5) (g := (mkF m 70 #[oI (ii / (100 : Int32)), oI (Int32.ofNat ee), oR ab, oI (ii / (100 : Int32)), oI (Int32.ofNat (mm % 100)), oI (Int32.ofNat (cc - 2)), oI sv] [(.int (o_dj mm 1)), (.int (Int32.ofNat (cc - 2))), (.ref ab)])) (as := [(.ref ab), (.int (Int32.ofNat (cc - 2))), (.int (o_dj mm 1))]) (rest := []) 0 X10 hx hZ hml hown (oV hw 241 rfl) (oV hw 242 rfl) (oV hw 18 rfl) (oV hw 243 rfl) (o_pch l Z a0 hw [] ab kb (32 : Int32) (o_P true us (cc - 1) (o_dj mm 0)) (Int32.ofNat (cc - 2)) (o_dj mm 1) cs fm T7.heap n0 (Nat.le_trans Z0 KC7.1) Vw7 (o_pj (cc - 2) (by omega)).1 (by rw [(o_pj (cc - 2) (by omega)).2.1, hl14_]; omega) (o_pj (cc - 2) (by omega)).2.2.1 (by rw [(o_pj (cc - 2) (by omega)).2.2.2, hl14_]; omega) g_ab hst (O0.keep K7q (allS g_ab all0))) e10 o_pd3 (hb hby D44_70)
  obtain ⟨rfl, N15q, K15q, Vz15⟩ := hQ15
  have N15 := Fr.app N7 N15q
  have KC15 : Keep h0 T15.heap [ab] := KC7.trans K15q (allS (Or.inl (o_mG (i := 0) rfl)) all0)
  have pre16 : Goes p e below T0 F0 T15 (mkF m 73 #[oI (ii / (100 : Int32)), oI (Int32.ofNat ee), oR ab, oI (ii / (100 : Int32)), oI (Int32.ofNat (mm % 100)), oI (Int32.ofNat (cc - 2)), oI sv] []) := fun t kt => pre13 t (st15 t kt)
  rw [(o_pj (cc - 2) (by omega)).2.1, (o_pj (cc - 2) (by omega)).2.2.2] at Vz15
  have Vw15 : Arv Z T15.heap ab kb .byte (32 : Int32) (o_P true (o_P true us (cc - 1) (o_dj mm 0)) (cc - 2) (o_dj mm 1)) (.int 0) := Vz15
  have pre17 : Goes p e below T0 F0 T15 (mkF m 22 #[oI (ii / (100 : Int32)), oI (Int32.ofNat ee), oR ab, oI (ii / (100 : Int32)), oI (Int32.ofNat (mm % 100)), oI (Int32.ofNat (cc - 2)), oI sv] []) := fun t kt => pre16 t (by
    refine o_gt 73 22 X15 hx hby D44_73 ?_
    exact kt)
  rw [hF0] at pre17
  exact ⟨T15, _, _, _, _, X15, rfl, N15, KC15, Vw15, Or.inr ⟨_, rfl, rfl⟩, Or.inr ⟨_, rfl, rfl⟩, pre17⟩
theorem o_gcO1 {p : Program} {l : Launch} {e : Env} {s : State} {m : MethodId} {args : Array Value} {below : List Frame} {meth : Method} {c : Code} {Z : State} {a0 : Array Value} (ab : Addr) (ee : Nat) (sv : Int32) (mm cc : Nat) (ii : Int32) {T0 : State} {locs : List Loc} {s3 s4 : Slot} (hx : p.tables.exec = Jvm.exec) (hZ : Z.Warmed39 s.vm) (hw : ∀ d ∈ tables_1, d.before a0 Z = true) (hby : c.code = oY34) (hml : c.maxLocals = 7) (hown : s.vm.findClass "java/lang/StringUTF16" = some m.cls) (X0 : Stand p l e o_R19 s m args below meth c T0 locs 0 0) (hi : ii.toInt = -(mm : Int)) (h100 : mm < 100) :
    Goes p e below T0 (mkF m 22 #[oI ii, oI (Int32.ofNat ee), oR ab, s3, s4, oI (Int32.ofNat cc), oI sv] []) T0 (mkF m 76 #[oI ii, oI (Int32.ofNat ee), oR ab, s3, s4, oI (Int32.ofNat cc), oI sv] []) := by
  obtain ⟨F0, hF0⟩ : ∃ F, F = (mkF m 22 #[oI ii, oI (Int32.ofNat ee), oR ab, s3, s4, oI (Int32.ofNat cc), oI sv] []) := ⟨_, rfl⟩
  have pre0 : Goes p e below T0 F0 T0 (mkF m 22 #[oI ii, oI (Int32.ofNat ee), oR ab, s3, s4, oI (Int32.ofNat cc), oI sv] []) := by rw [hF0]; exact fun t k => k
  have pre18 : Goes p e below T0 F0 T0 (mkF m 76 #[oI ii, oI (Int32.ofNat ee), oR ab, s3, s4, oI (Int32.ofNat cc), oI sv] []) := fun t kt => pre0 t (by
    refine o_il X0 hx hby D44_22 rfl ?_
    refine o_bp X0 hx hby D44_23 ?_
    refine o_icY 25 76 X0 hx hby D44_25 (tlt (o_t99 hi h100)).2.2.1 ?_
    exact kt)
  rw [hF0] at pre18
  exact pre18
theorem o_gcL1 {p : Program} {l : Launch} {e : Env} {s : State} {m : MethodId} {args : Array Value} {below : List Frame} {meth : Method} {c : Code} {Z : State} {a0 : Array Value} (ab : Addr) (kb : ClassId) (ee : Nat) (sv : Int32) (n0 : Nat) (cs : Int32) (fm : Value) (aO aT : Addr) (hx : p.tables.exec = Jvm.exec) (hZ : Z.Warmed39 s.vm) (hw : ∀ d ∈ tables_1, d.before a0 Z = true) (hby : c.code = oY34) (hml : c.maxLocals = 7) (hown : s.vm.findClass "java/lang/StringUTF16" = some m.cls) (g_ab : n0 ≤ ab) (hst : o_ST Z cs fm) (hdg : o_DG Z aO aT) :
    ∀ (d mm cc : Nat) (ii : Int32) (us : List Value) (T0 : State) (h0 : Heap) (locs : List Loc) (s3 s4 : Slot), mm < 100 ^ (d + 1) → mm ≤ 2147483648 → ii.toInt = -(mm : Int) → o_nd mm ≤ cc → cc ≤ 16 → us.length = 32 → (s3 = oU ∨ ∃ w, s3 = .val w ∧ w.category = 1) → (s4 = oU ∨ ∃ w, s4 = .val w ∧ w.category = 1) → n0 ≤ h0.size → Stand p l e o_R19 s m args below meth c T0 locs 0 0 → T0.heap = h0 → Fr n0 locs → Arv Z h0 ab kb .byte (32 : Int32) us (.int 0) → Old Z n0 h0 →
      ∃ (T' : State) (h' : Heap) (locs' : List Loc) (s3' s4' : Slot) (us' : List Value) (c' m' : Nat) (ii' : Int32), Stand p l e o_R19 s m args below meth c T' locs' 0 0 ∧ T'.heap = h' ∧ Fr n0 locs' ∧ Keep h0 h' [ab] ∧ Arv Z h' ab kb .byte (32 : Int32) us' (.int 0) ∧ o_LW true us us' cc mm c' m' ∧ ii'.toInt = -(m' : Int) ∧ Goes p e below T0 (mkF m 22 #[oI ii, oI (Int32.ofNat ee), oR ab, s3, s4, oI (Int32.ofNat cc), oI sv] []) T' (mkF m 76 #[.val (.int ii'), oI (Int32.ofNat ee), oR ab, s3', s4', oI (Int32.ofNat c'), oI sv] []) := by
  intro d
  induction d with
  | zero =>
    intro mm cc ii us T0 h0 locs s3 s4 hlt hm hi hnd hc hlu h3 h4 Z0 X0 e0 N0 V0 O0
    exact ⟨T0, h0, locs, s3, s4, us, cc, mm, ii, X0, e0, N0, Keep.refl _ _, V0, o_LW0 _ _ _ hlt, hi, o_gcO1 ab ee sv mm cc ii hx hZ hw hby hml hown X0 hi hlt⟩
  | succ d ih =>
    intro mm cc ii us T0 h0 locs s3 s4 hlt hm hi hnd hc hlu h3 h4 Z0 X0 e0 N0 V0 O0
    by_cases h100 : mm < 100
    · exact ⟨T0, h0, locs, s3, s4, us, cc, mm, ii, X0, e0, N0, Keep.refl _ _, V0, o_LW0 _ _ _ h100, hi, o_gcO1 ab ee sv mm cc ii hx hZ hw hby hml hown X0 hi h100⟩
    · have h100' : 100 ≤ mm := by omega
      have hst2 := o_nd_step mm h100' hm
      have hp2 := o_nd_pos (mm / 100)
      obtain ⟨T1, h1, locs1, r3, r4, X1, e1, N1, K1, V1, q3, q4, st1⟩ := o_gcT1 ab kb ee sv n0 cs fm aO aT mm cc ii us hx hZ hw hby hml hown X0 e0 N0 Z0 g_ab V0 hlu hst hdg O0 hi h100' hm (by omega) hc h3 h4
      obtain ⟨T2, h2, locs2, r3', r4', us', c', m', ii', X2, e2, N2, K2, V2, W2, hi2, st2⟩ := ih (mm / 100) (cc - 2) (ii / (100 : Int32)) _ T1 h1 locs1 r3 r4 (Nat.div_lt_of_lt_mul (by rw [Nat.pow_succ, Nat.mul_comm] at hlt; exact hlt)) (by omega) (o_d100 hi hm) (by omega) (by omega) (by rw [o_P_len, o_P_len]; exact hlu) q3 q4 (Nat.le_trans Z0 K1.1) X1 e1 N1 V1 (O0.keep K1 (allS g_ab all0))
      exact ⟨T2, h2, locs2, r3', r4', us', c', m', ii', X2, e2, N2, K1.trans K2 (fun y hy => Or.inl hy), V2, o_LWs h100' hm (by omega) hc hlu W2, hi2, fun t k => st1 t (st2 t k)⟩
def Q_o_gc1 (Z : State) (pp : Int32) (ee : Nat) (ab : Addr) (kb : ClassId) (us : List Value) (cs : Int32) (fm : Value) (aO aT : Addr) (h0 : Heap) (n0 : Nat) (v : Option Value) (h : Heap) (L : List Loc) : Prop := ∃ z : Int32, v = some (.int z) ∧ Fr n0 L ∧ Keep h0 h [ab] ∧ ∃ us' : List Value, Arv Z h ab kb .byte (32 : Int32) us' (.int 0) ∧ o_DW true us us' ee pp
theorem o_gc1 (l : Launch) (Z : State) (a0 : Array Value) (hw : ∀ d ∈ tables_1, d.before a0 Z = true) (ws : List Jvm.Cond) (pp : Int32) (ee : Nat) (ab : Addr) (kb : ClassId) (us : List Value) (cs : Int32) (fm : Value) (aO aT : Addr) (h0 : Heap) (n0 : Nat) (Z0 : n0 ≤ h0.size) (V_ab : Arv Z h0 ab kb .byte (32 : Int32) us (.int 0)) (hlu : us.length = 32) (g_ab : n0 ≤ ab) (hpe : o_pl pp ≤ ee) (he16 : ee ≤ 16) (hst : o_ST Z cs fm) (O0 : Old Z n0 h0) (hdg : o_DG Z aO aT) :
    o_MF l o_N44 oY34 7 (some .int) ws o_R19 #[(.int pp), (.int (Int32.ofNat ee)), (.ref ab)] Z h0 (Q_o_gc1 Z pp ee ab kb us cs fm aO aT h0 n0) := by
  refine o_start (C := "java/lang/StringUTF16") rfl (plainFor_of_name o_pn_o_cin1) fun p e s m below meth c s1 F0 Bd hx hby hml hown hnm hZ X0 e0 hF0 => ?_
  have N0 := Fr.nil n0
  have pre0 : Goes p e below s1 F0 s1 (mkF m 0 #[oI pp, oI (Int32.ofNat ee), oR ab, oU, oU, oU, oU] []) := fun t k => castTop (hF0.trans (by simp [entryFrame, mkF, argsToLocals, Value.category])) k
  have pre1 : Goes p e below s1 F0 s1 (mkF m 3 #[oI pp, oI (Int32.ofNat ee), oR ab, oU, oU, oI (Int32.ofNat ee), oU] []) := fun t kt => pre0 t (by
    refine o_il X0 hx hby D44_0 rfl ?_
    refine XS.istore X0.here hx rfl (hb hby D44_1) rfl (l' := #[oI pp, oI (Int32.ofNat ee), oR ab, oU, oU, oI (Int32.ofNat ee), oU]) rfl ?_
    exact kt)
  obtain ⟨ii, sv, hi, hsv, pre3⟩ : ∃ (ii : Int32) (sv : Int32), (ii.toInt = -(o_M pp : Int)) ∧ (sv = Int32.ofNat (o_sg pp)) ∧ Goes p e below s1 F0 s1 (mkF m 22 #[oI ii, oI (Int32.ofNat ee), oR ab, oU, oU, oI (Int32.ofNat ee), oI sv] []) := by
    have pre4 : Goes p e below s1 F0 s1 (mkF m 4 #[oI pp, oI (Int32.ofNat ee), oR ab, oU, oU, oI (Int32.ofNat ee), oU] [(.int pp)]) := fun t kt => pre1 t (by
      refine o_il X0 hx hby D44_3 rfl ?_
      exact kt)
    by_cases hc4_5 : pp < (0 : Int32)
    · -- yes at pc 4: 
      have pre6 : Goes p e below s1 F0 s1 (mkF m 22 #[oI pp, oI (Int32.ofNat ee), oR ab, oU, oU, oI (Int32.ofNat ee), oI 1] []) := fun t kt => pre4 t (by
        refine o_ifN X0 hx hby D44_4 ((if0 _ _).trans (tlt hc4_5).2.1) ?_
        refine o_ic X0 hx hby D44_7 ?_
        refine o_gt 8 12 X0 hx hby D44_8 ?_
        refine XS.istore X0.here hx rfl (hb hby D44_12) rfl (l' := #[oI pp, oI (Int32.ofNat ee), oR ab, oU, oU, oI (Int32.ofNat ee), oI 1]) rfl ?_
        refine o_iL X0 hx hby D44_14 rfl ?_
        refine o_ifY 16 22 X0 hx hby D44_16 ((if0 _ _).trans (feq (by decide : ¬ ((1 : Int32) = (0 : Int32)))).2) ?_
        exact kt)
      exact ⟨pp, (1 : Int32), o_xn1 hc4_5, o_dn1 hc4_5, pre6⟩
    · -- no at pc 4: 
      have pre7 : Goes p e below s1 F0 s1 (mkF m 22 #[oI (-pp), oI (Int32.ofNat ee), oR ab, oU, oU, oI (Int32.ofNat ee), oI 0] []) := fun t kt => pre4 t (by
        refine o_ifY 4 11 X0 hx hby D44_4 ((if0 _ _).trans (flt hc4_5).2.1) ?_
        refine o_ic X0 hx hby D44_11 ?_
        refine XS.istore X0.here hx rfl (hb hby D44_12) rfl (l' := #[oI pp, oI (Int32.ofNat ee), oR ab, oU, oU, oI (Int32.ofNat ee), oI 0]) rfl ?_
        refine o_iL X0 hx hby D44_14 rfl ?_
        refine o_ifN X0 hx hby D44_16 ((if0 _ _).trans (teq (by decide : (0 : Int32) = (0 : Int32))).2) ?_
        refine o_il X0 hx hby D44_19 rfl ?_
        refine XS.ineg X0.here hx rfl (hb hby D44_20) rfl ?_
        refine XS.istoreN X0.here hx rfl (hb hby D44_21) rfl (l' := #[oI (-pp), oI (Int32.ofNat ee), oR ab, oU, oU, oI (Int32.ofNat ee), oI 0]) rfl ?_
        exact kt)
      exact ⟨(-pp), (0 : Int32), o_xn0 hc4_5, o_dn0 hc4_5, pre7⟩
  obtain ⟨T8, h8, Lc8, sp, sr, uz, cz, mz, iz, X8, e8, N8, K8q, V8, Wz, hiz, st8⟩ := o_gcL1 ab kb ee sv n0 cs fm aO aT hx hZ hw hby hml hown g_ab hst hdg 4 (o_M pp) ee ii us s1 h0 _ _ _ (Nat.lt_of_le_of_lt (o_M_le pp (rng32 pp)) (by decide)) (o_M_le pp (rng32 pp)) hi (o_ple hpe) he16 hlu (Or.inl rfl) (Or.inl rfl) Z0 X0 e0 N0 V_ab O0
  have KC8 : Keep h0 h8 [ab] := (Keep.refl h0 [ab]).trans K8q (allS (Or.inl (o_mG (i := 0) rfl)) all0)
  have pre9 : Goes p e below s1 F0 T8 (mkF m 76 #[oI iz, oI (Int32.ofNat ee), oR ab, sp, sr, oI (Int32.ofNat cz), oI sv] []) := fun t kt => pre3 t (st8 t kt)
  obtain ⟨hcz, hcz2, hm100⟩ := o_LWn Wz hpe
  have hnd1 := o_nd_pos mz
  have hlz : uz.length = 32 := (o_LWl Wz).trans hlu
  have pre10 : Goes p e below s1 F0 T8 (mkF m 80 #[oI iz, oI (Int32.ofNat ee), oR ab, sp, sr, oI ((Int32.ofNat cz) + (-1 : Int32)), oI sv] [(.ref ab)]) := fun t kt => pre9 t (by
    refine o_al X8 hx hby D44_76 rfl ?_
    refine XS.iinc X8.here hx rfl (hb hby D44_77) rfl (l' := #[oI iz, oI (Int32.ofNat ee), oR ab, sp, sr, oI ((Int32.ofNat cz) + (-1 : Int32)), oI sv]) rfl ?_
    exact kt)
  rw [show ((Int32.ofNat cz) + (-1 : Int32)) = (Int32.ofNat (cz - 1)) from o_omk (a := cz) (i := 0) (by omega) (by omega)] at pre10
  obtain ⟨T11, X11, e11, st11⟩ := getS2 X8 hx hZ hown (host := "") (Or.inl (oV hw 290 rfl)) Via.refl e8 (hdg.1.ext (O0.keep K8q (allS g_ab all0)).2) (g := (mkF m 82 #[oI iz, oI (Int32.ofNat ee), oR ab, sp, sr, oI (Int32.ofNat (cz - 1)), oI sv] [(.int (Int32.ofNat (cz - 1))), (.ref ab)])) rfl (hb hby D44_82)
  have pre12 : Goes p e below s1 F0 T11 (mkF m 85 #[oI iz, oI (Int32.ofNat ee), oR ab, sp, sr, oI (Int32.ofNat (cz - 1)), oI sv] [(.ref aO), (.int (Int32.ofNat (cz - 1))), (.ref ab)]) := fun t kt => pre10 t (by
    refine o_iL X8 hx hby D44_80 rfl ?_
    exact st11 t kt)
  have pre13 : Goes p e below s1 F0 T11 (mkF m 87 #[oI iz, oI (Int32.ofNat ee), oR ab, sp, sr, oI (Int32.ofNat (cz - 1)), oI sv] [(.int (-iz)), (.ref aO), (.int (Int32.ofNat (cz - 1))), (.ref ab)]) := fun t kt => pre12 t (by
    refine o_il X11 hx hby D44_85 rfl ?_
    refine XS.ineg X11.here hx rfl (hb hby D44_86) rfl ?_
    exact kt)
  rw [show (-iz) = (Int32.ofNat mz) from o_ng hiz hm100] at pre13
  obtain ⟨cl14, Ar14, hin14, hat14⟩ := (id ((o_At.ext (hdg.2.2 mz hm100).1 (O0.keep K8q (allS g_ab all0)).2)))
  have pre15 : Goes p e below s1 F0 T11 (mkF m 88 #[oI iz, oI (Int32.ofNat ee), oR ab, sp, sr, oI (Int32.ofNat (cz - 1)), oI sv] [(.int (Int32.ofNat (48 + mz % 10))), (.int (Int32.ofNat (cz - 1))), (.ref ab)]) := fun t kt => pre13 t (by
    refine X11.baloadBytes hx (j := (Int32.ofNat mz)) (v := (.int (Int32.ofNat (48 + mz % 10)))) (by (try rw [e11]); exact Ar14.1) (State.isArrayOf_alike hZ.alike Ar14.2.1) Ar14.2.2 hin14 hat14 (g := (mkF m 87 #[oI iz, oI (Int32.ofNat ee), oR ab, sp, sr, oI (Int32.ofNat (cz - 1)), oI sv] [(.int (Int32.ofNat mz)), (.ref aO), (.int (Int32.ofNat (cz - 1))), (.ref ab)])) rfl rfl (hb hby D44_87) _ ?_
    exact kt)
  rw [show (Int32.ofNat (48 + mz % 10)) = (o_dj mz 0) from o_e2 hm100] at pre15
  have hl16_ : uz.length = 32 := (by exact hlz)
  obtain ⟨_, T17, L17, X17, hQ17, st17⟩ := o_cS (y := o_N5) (g := (mkF m 88 #[oI iz, oI (Int32.ofNat ee), oR ab, sp, sr, oI (Int32.ofNat (cz - 1)), oI sv] [(.int (o_dj mz 0)), (.int (Int32.ofNat (cz - 1))), (.ref ab)])) (as := [(.ref ab), (.int (Int32.ofNat (cz - 1))), (.int (o_dj mz 0))]) (rest := []) 0 X11 hx hZ hml hown (oV hw 241 rfl) (oV hw 242 rfl) (oV hw 18 rfl) (oV hw 243 rfl) (o_pch l Z a0 hw [] ab kb (32 : Int32) uz (Int32.ofNat (cz - 1)) (o_dj mz 0) cs fm h8 n0 (Nat.le_trans Z0 KC8.1) V8 (o_pj (cz - 1) (by omega)).1 (by rw [(o_pj (cz - 1) (by omega)).2.1, hl16_]; omega) (o_pj (cz - 1) (by omega)).2.2.1 (by rw [(o_pj (cz - 1) (by omega)).2.2.2, hl16_]; omega) g_ab hst (O0.keep K8q (allS g_ab all0))) e11 o_pd3 (hb hby D44_88)
  obtain ⟨rfl, N17q, K17q, Vz17⟩ := hQ17
  have N17 := Fr.app N8 N17q
  have KC17 : Keep h0 T17.heap [ab] := KC8.trans K17q (allS (Or.inl (o_mG (i := 0) rfl)) all0)
  have pre18 : Goes p e below s1 F0 T17 (mkF m 91 #[oI iz, oI (Int32.ofNat ee), oR ab, sp, sr, oI (Int32.ofNat (cz - 1)), oI sv] []) := fun t kt => pre15 t (st17 t kt)
  rw [(o_pj (cz - 1) (by omega)).2.1, (o_pj (cz - 1) (by omega)).2.2.2] at Vz17
  have Vw17 : Arv Z T17.heap ab kb .byte (32 : Int32) (o_P true uz (cz - 1) (o_dj mz 0)) (.int 0) := Vz17
  have pre19 : Goes p e below s1 F0 T17 (mkF m 94 #[oI iz, oI (Int32.ofNat ee), oR ab, sp, sr, oI (Int32.ofNat (cz - 1)), oI sv] [(.int (-9 : Int32)), (.int iz)]) := fun t kt => pre18 t (by
    refine o_il X17 hx hby D44_91 rfl ?_
    refine o_bp X17 hx hby D44_92 ?_
    exact kt)
  by_cases hc94_20 : iz < (-9 : Int32)
  · -- yes at pc 94: 
    have h9 : 9 < mz := o_9t hiz hc94_20
    have hnd : o_nd mz = 2 := o_nd2 h9 hm100
    have pre21 : Goes p e below s1 F0 T17 (mkF m 101 #[oI iz, oI (Int32.ofNat ee), oR ab, sp, sr, oI ((Int32.ofNat (cz - 1)) + (-1 : Int32)), oI sv] [(.ref ab)]) := fun t kt => pre19 t (by
      refine o_icN X17 hx hby D44_94 (tlt hc94_20).2.1 ?_
      refine o_al X17 hx hby D44_97 rfl ?_
      refine XS.iinc X17.here hx rfl (hb hby D44_98) rfl (l' := #[oI iz, oI (Int32.ofNat ee), oR ab, sp, sr, oI ((Int32.ofNat (cz - 1)) + (-1 : Int32)), oI sv]) rfl ?_
      exact kt)
    rw [show ((Int32.ofNat (cz - 1)) + (-1 : Int32)) = (Int32.ofNat (cz - 2)) from o_omk (a := cz) (i := 1) (by omega) (by omega)] at pre21
    obtain ⟨T22, X22, e22, st22⟩ := getS2 X17 hx hZ hown (host := "") (Or.inl (oV hw 291 rfl)) Via.refl rfl (hdg.2.1.ext ((O0.keep K8q (allS g_ab all0)).keep K17q (allS g_ab all0)).2) (g := (mkF m 103 #[oI iz, oI (Int32.ofNat ee), oR ab, sp, sr, oI (Int32.ofNat (cz - 2)), oI sv] [(.int (Int32.ofNat (cz - 2))), (.ref ab)])) rfl (hb hby D44_103)
    have pre23 : Goes p e below s1 F0 T22 (mkF m 106 #[oI iz, oI (Int32.ofNat ee), oR ab, sp, sr, oI (Int32.ofNat (cz - 2)), oI sv] [(.ref aT), (.int (Int32.ofNat (cz - 2))), (.ref ab)]) := fun t kt => pre21 t (by
      refine o_iL X17 hx hby D44_101 rfl ?_
      exact st22 t kt)
    have pre24 : Goes p e below s1 F0 T22 (mkF m 108 #[oI iz, oI (Int32.ofNat ee), oR ab, sp, sr, oI (Int32.ofNat (cz - 2)), oI sv] [(.int (-iz)), (.ref aT), (.int (Int32.ofNat (cz - 2))), (.ref ab)]) := fun t kt => pre23 t (by
      refine o_il X22 hx hby D44_106 rfl ?_
      refine XS.ineg X22.here hx rfl (hb hby D44_107) rfl ?_
      exact kt)
    rw [show (-iz) = (Int32.ofNat mz) from o_ng hiz hm100] at pre24
    obtain ⟨cl25, Ar25, hin25, hat25⟩ := (id ((o_At.ext (hdg.2.2 mz hm100).2 ((O0.keep K8q (allS g_ab all0)).keep K17q (allS g_ab all0)).2)))
    have pre26 : Goes p e below s1 F0 T22 (mkF m 109 #[oI iz, oI (Int32.ofNat ee), oR ab, sp, sr, oI (Int32.ofNat (cz - 2)), oI sv] [(.int (Int32.ofNat (48 + mz / 10))), (.int (Int32.ofNat (cz - 2))), (.ref ab)]) := fun t kt => pre24 t (by
      refine X22.baloadBytes hx (j := (Int32.ofNat mz)) (v := (.int (Int32.ofNat (48 + mz / 10)))) (by (try rw [e22]); exact Ar25.1) (State.isArrayOf_alike hZ.alike Ar25.2.1) Ar25.2.2 hin25 hat25 (g := (mkF m 108 #[oI iz, oI (Int32.ofNat ee), oR ab, sp, sr, oI (Int32.ofNat (cz - 2)), oI sv] [(.int (Int32.ofNat mz)), (.ref aT), (.int (Int32.ofNat (cz - 2))), (.ref ab)])) rfl rfl (hb hby D44_108) _ ?_
      exact kt)
    rw [show (Int32.ofNat (48 + mz / 10)) = (o_dj mz 1) from o_e3 hm100] at pre26
    have hl27_ : (o_P true uz (cz - 1) (o_dj mz 0)).length = 32 := (by rw [o_P_len]; exact hlz)
    obtain ⟨_, T28, L28, X28, hQ28, st28⟩ := o_cS (y := o_N5) (g := (mkF m 109 #[oI iz, oI (Int32.ofNat ee), oR ab, sp, sr, oI (Int32.ofNat (cz - 2)), oI sv] [(.int (o_dj mz 1)), (.int (Int32.ofNat (cz - 2))), (.ref ab)])) (as := [(.ref ab), (.int (Int32.ofNat (cz - 2))), (.int (o_dj mz 1))]) (rest := []) 0 X22 hx hZ hml hown (oV hw 241 rfl) (oV hw 242 rfl) (oV hw 18 rfl) (oV hw 243 rfl) (o_pch l Z a0 hw [] ab kb (32 : Int32) (o_P true uz (cz - 1) (o_dj mz 0)) (Int32.ofNat (cz - 2)) (o_dj mz 1) cs fm T17.heap n0 (Nat.le_trans Z0 KC17.1) Vw17 (o_pj (cz - 2) (by omega)).1 (by rw [(o_pj (cz - 2) (by omega)).2.1, hl27_]; omega) (o_pj (cz - 2) (by omega)).2.2.1 (by rw [(o_pj (cz - 2) (by omega)).2.2.2, hl27_]; omega) g_ab hst ((O0.keep K8q (allS g_ab all0)).keep K17q (allS g_ab all0))) e22 o_pd3 (hb hby D44_109)
    obtain ⟨rfl, N28q, K28q, Vz28⟩ := hQ28
    have N28 := Fr.app N17 N28q
    have KC28 : Keep h0 T28.heap [ab] := KC17.trans K28q (allS (Or.inl (o_mG (i := 0) rfl)) all0)
    have pre29 : Goes p e below s1 F0 T28 (mkF m 112 #[oI iz, oI (Int32.ofNat ee), oR ab, sp, sr, oI (Int32.ofNat (cz - 2)), oI sv] []) := fun t kt => pre26 t (st28 t kt)
    rw [(o_pj (cz - 2) (by omega)).2.1, (o_pj (cz - 2) (by omega)).2.2.2] at Vz28
    have Vw28 : Arv Z T28.heap ab kb .byte (32 : Int32) (o_P true (o_P true uz (cz - 1) (o_dj mz 0)) (cz - 2) (o_dj mz 1)) (.int 0) := Vz28
    have pre30 : Goes p e below s1 F0 T28 (mkF m 114 #[oI iz, oI (Int32.ofNat ee), oR ab, sp, sr, oI (Int32.ofNat (cz - 2)), oI sv] [(.int sv)]) := fun t kt => pre29 t (by
      refine o_iL X28 hx hby D44_112 rfl ?_
      exact kt)
    by_cases hc114_31 : sv = (0 : Int32)
    · -- yes at pc 114: f
      have hs : o_sg pp = 0 := o_sz hsv hc114_31
      have pre32 : Goes p e below s1 F0 T28 (mkF m 130 #[oI iz, oI (Int32.ofNat ee), oR ab, sp, sr, oI (Int32.ofNat (cz - 2)), oI sv] [(.int (Int32.ofNat (cz - 2)))]) := fun t kt => pre30 t (by
        refine o_ifY 114 128 X28 hx hby D44_114 ((if0 _ _).trans (teq hc114_31).1) ?_
        refine o_iL X28 hx hby D44_128 rfl ?_
        exact kt)
      refine o_eI X28 Bd hx pre32 (hb hby D44_130) rfl ?_
      exact ⟨_, rfl, N28, KC28, _, Vw28, by rw [o_T10 h9 hs]; exact o_fin hlu hpe he16 Wz⟩
    · -- no at pc 114: f
      have hs : o_sg pp = 1 := o_sn hsv hc114_31
      have pre33 : Goes p e below s1 F0 T28 (mkF m 121 #[oI iz, oI (Int32.ofNat ee), oR ab, sp, sr, oI ((Int32.ofNat (cz - 2)) + (-1 : Int32)), oI sv] [(.ref ab)]) := fun t kt => pre30 t (by
        refine o_ifN X28 hx hby D44_114 ((if0 _ _).trans (feq hc114_31).1) ?_
        refine o_al X28 hx hby D44_117 rfl ?_
        refine XS.iinc X28.here hx rfl (hb hby D44_118) rfl (l' := #[oI iz, oI (Int32.ofNat ee), oR ab, sp, sr, oI ((Int32.ofNat (cz - 2)) + (-1 : Int32)), oI sv]) rfl ?_
        exact kt)
      rw [show ((Int32.ofNat (cz - 2)) + (-1 : Int32)) = (Int32.ofNat (cz - 3)) from o_omk (a := cz) (i := 2) (by omega) (by omega)] at pre33
      have hl34_ : (o_P true (o_P true uz (cz - 1) (o_dj mz 0)) (cz - 2) (o_dj mz 1)).length = 32 := (by rw [o_P_len, o_P_len]; exact hlz)
      obtain ⟨_, T35, L35, X35, hQ35, st35⟩ := o_cS (y := o_N5) (g := (mkF m 125 #[oI iz, oI (Int32.ofNat ee), oR ab, sp, sr, oI (Int32.ofNat (cz - 3)), oI sv] [(.int 45), (.int (Int32.ofNat (cz - 3))), (.ref ab)])) (as := [(.ref ab), (.int (Int32.ofNat (cz - 3))), (.int 45)]) (rest := []) 0 X28 hx hZ hml hown (oV hw 241 rfl) (oV hw 242 rfl) (oV hw 18 rfl) (oV hw 243 rfl) (o_pch l Z a0 hw [] ab kb (32 : Int32) (o_P true (o_P true uz (cz - 1) (o_dj mz 0)) (cz - 2) (o_dj mz 1)) (Int32.ofNat (cz - 3)) (45 : Int32) cs fm T28.heap n0 (Nat.le_trans Z0 KC28.1) Vw28 (o_pj (cz - 3) (by omega)).1 (by rw [(o_pj (cz - 3) (by omega)).2.1, hl34_]; omega) (o_pj (cz - 3) (by omega)).2.2.1 (by rw [(o_pj (cz - 3) (by omega)).2.2.2, hl34_]; omega) g_ab hst (((O0.keep K8q (allS g_ab all0)).keep K17q (allS g_ab all0)).keep K28q (allS g_ab all0))) rfl o_pd3 (hb hby D44_125)
      obtain ⟨rfl, N35q, K35q, Vz35⟩ := hQ35
      have N35 := Fr.app N28 N35q
      have KC35 : Keep h0 T35.heap [ab] := KC28.trans K35q (allS (Or.inl (o_mG (i := 0) rfl)) all0)
      have pre36 : Goes p e below s1 F0 T35 (mkF m 128 #[oI iz, oI (Int32.ofNat ee), oR ab, sp, sr, oI (Int32.ofNat (cz - 3)), oI sv] []) := fun t kt => pre33 t (by
        refine o_iL X28 hx hby D44_121 rfl ?_
        refine o_bp X28 hx hby D44_123 ?_
        exact st35 t kt)
      rw [(o_pj (cz - 3) (by omega)).2.1, (o_pj (cz - 3) (by omega)).2.2.2] at Vz35
      have Vw35 : Arv Z T35.heap ab kb .byte (32 : Int32) (o_P true (o_P true (o_P true uz (cz - 1) (o_dj mz 0)) (cz - 2) (o_dj mz 1)) (cz - 3) (45 : Int32)) (.int 0) := Vz35
      have pre37 : Goes p e below s1 F0 T35 (mkF m 130 #[oI iz, oI (Int32.ofNat ee), oR ab, sp, sr, oI (Int32.ofNat (cz - 3)), oI sv] [(.int (Int32.ofNat (cz - 3)))]) := fun t kt => pre36 t (by
        refine o_iL X35 hx hby D44_128 rfl ?_
        exact kt)
      refine o_eI X35 Bd hx pre37 (hb hby D44_130) rfl ?_
      exact ⟨_, rfl, N35, KC35, _, Vw35, by rw [o_T11 h9 hm100 hs]; exact o_fin hlu hpe he16 Wz⟩
  · -- no at pc 94: 
    have h9 : ¬ 9 < mz := o_9f hiz hc94_20
    have hnd : o_nd mz = 1 := o_nd1 h9
    have pre38 : Goes p e below s1 F0 T17 (mkF m 114 #[oI iz, oI (Int32.ofNat ee), oR ab, sp, sr, oI (Int32.ofNat (cz - 1)), oI sv] [(.int sv)]) := fun t kt => pre19 t (by
      refine o_icY 94 112 X17 hx hby D44_94 (flt hc94_20).2.1 ?_
      refine o_iL X17 hx hby D44_112 rfl ?_
      exact kt)
    by_cases hc114_39 : sv = (0 : Int32)
    · -- yes at pc 114: t
      have hs : o_sg pp = 0 := o_sz hsv hc114_39
      have pre40 : Goes p e below s1 F0 T17 (mkF m 130 #[oI iz, oI (Int32.ofNat ee), oR ab, sp, sr, oI (Int32.ofNat (cz - 1)), oI sv] [(.int (Int32.ofNat (cz - 1)))]) := fun t kt => pre38 t (by
        refine o_ifY 114 128 X17 hx hby D44_114 ((if0 _ _).trans (teq hc114_39).1) ?_
        refine o_iL X17 hx hby D44_128 rfl ?_
        exact kt)
      refine o_eI X17 Bd hx pre40 (hb hby D44_130) rfl ?_
      exact ⟨_, rfl, N17, KC17, _, Vw17, by rw [o_T00 h9 hs]; exact o_fin hlu hpe he16 Wz⟩
    · -- no at pc 114: t
      have hs : o_sg pp = 1 := o_sn hsv hc114_39
      have pre41 : Goes p e below s1 F0 T17 (mkF m 121 #[oI iz, oI (Int32.ofNat ee), oR ab, sp, sr, oI ((Int32.ofNat (cz - 1)) + (-1 : Int32)), oI sv] [(.ref ab)]) := fun t kt => pre38 t (by
        refine o_ifN X17 hx hby D44_114 ((if0 _ _).trans (feq hc114_39).1) ?_
        refine o_al X17 hx hby D44_117 rfl ?_
        refine XS.iinc X17.here hx rfl (hb hby D44_118) rfl (l' := #[oI iz, oI (Int32.ofNat ee), oR ab, sp, sr, oI ((Int32.ofNat (cz - 1)) + (-1 : Int32)), oI sv]) rfl ?_
        exact kt)
      rw [show ((Int32.ofNat (cz - 1)) + (-1 : Int32)) = (Int32.ofNat (cz - 2)) from o_omk (a := cz) (i := 1) (by omega) (by omega)] at pre41
      have hl42_ : (o_P true uz (cz - 1) (o_dj mz 0)).length = 32 := (by rw [o_P_len]; exact hlz)
      obtain ⟨_, T43, L43, X43, hQ43, st43⟩ := o_cS (y := o_N5) (g := (mkF m 125 #[oI iz, oI (Int32.ofNat ee), oR ab, sp, sr, oI (Int32.ofNat (cz - 2)), oI sv] [(.int 45), (.int (Int32.ofNat (cz - 2))), (.ref ab)])) (as := [(.ref ab), (.int (Int32.ofNat (cz - 2))), (.int 45)]) (rest := []) 0 X17 hx hZ hml hown (oV hw 241 rfl) (oV hw 242 rfl) (oV hw 18 rfl) (oV hw 243 rfl) (o_pch l Z a0 hw [] ab kb (32 : Int32) (o_P true uz (cz - 1) (o_dj mz 0)) (Int32.ofNat (cz - 2)) (45 : Int32) cs fm T17.heap n0 (Nat.le_trans Z0 KC17.1) Vw17 (o_pj (cz - 2) (by omega)).1 (by rw [(o_pj (cz - 2) (by omega)).2.1, hl42_]; omega) (o_pj (cz - 2) (by omega)).2.2.1 (by rw [(o_pj (cz - 2) (by omega)).2.2.2, hl42_]; omega) g_ab hst ((O0.keep K8q (allS g_ab all0)).keep K17q (allS g_ab all0))) rfl o_pd3 (hb hby D44_125)
      obtain ⟨rfl, N43q, K43q, Vz43⟩ := hQ43
      have N43 := Fr.app N17 N43q
      have KC43 : Keep h0 T43.heap [ab] := KC17.trans K43q (allS (Or.inl (o_mG (i := 0) rfl)) all0)
      have pre44 : Goes p e below s1 F0 T43 (mkF m 128 #[oI iz, oI (Int32.ofNat ee), oR ab, sp, sr, oI (Int32.ofNat (cz - 2)), oI sv] []) := fun t kt => pre41 t (by
        refine o_iL X17 hx hby D44_121 rfl ?_
        refine o_bp X17 hx hby D44_123 ?_
        exact st43 t kt)
      rw [(o_pj (cz - 2) (by omega)).2.1, (o_pj (cz - 2) (by omega)).2.2.2] at Vz43
      have Vw43 : Arv Z T43.heap ab kb .byte (32 : Int32) (o_P true (o_P true uz (cz - 1) (o_dj mz 0)) (cz - 2) (45 : Int32)) (.int 0) := Vz43
      have pre45 : Goes p e below s1 F0 T43 (mkF m 130 #[oI iz, oI (Int32.ofNat ee), oR ab, sp, sr, oI (Int32.ofNat (cz - 2)), oI sv] [(.int (Int32.ofNat (cz - 2)))]) := fun t kt => pre44 t (by
        refine o_iL X43 hx hby D44_128 rfl ?_
        exact kt)
      refine o_eI X43 Bd hx pre45 (hb hby D44_130) rfl ?_
      exact ⟨_, rfl, N43, KC43, _, Vw43, by rw [o_T01 h9 hs]; exact o_fin hlu hpe he16 Wz⟩
theorem D45_0 : decode oY31 0 = .ok (.iload_n 1, 1) := by decide +kernel
theorem D45_1 : decode oY31 1 = .ok (.iload_n 2, 1) := by decide +kernel
theorem D45_2 : decode oY31 2 = .ok (.aload_n 3, 1) := by decide +kernel
theorem D45_3 : decode oY31 3 = .ok (.invokestatic 96, 3) := by decide +kernel
theorem D45_6 : decode oY31 6 = .ok (.iload_n 0, 1) := by decide +kernel
theorem D45_7 : decode oY31 7 = .ok (.iload_n 2, 1) := by decide +kernel
theorem D45_8 : decode oY31 8 = .ok (.aload_n 3, 1) := by decide +kernel
theorem D45_9 : decode oY31 9 = .ok (.invokestatic 393, 3) := by decide +kernel
theorem D45_12 : decode oY31 12 = .ok (.istore 4, 2) := by decide +kernel
theorem D45_14 : decode oY31 14 = .ok (.getstatic 44, 3) := by decide +kernel
theorem D45_17 : decode oY31 17 = .ok (.ifCond .ne 17, 3) := by decide +kernel
theorem D45_34 : decode oY31 34 = .ok (.iload 4, 2) := by decide +kernel
theorem D45_36 : decode oY31 36 = .ok (.ireturn, 1) := by decide +kernel
def Q_o_ugc (Z : State) (pp : Int32) (bb ee : Nat) (ab : Addr) (kb : ClassId) (us : List Value) (cs : Int32) (fm : Value) (aO aT : Addr) (h0 : Heap) (n0 : Nat) (v : Option Value) (h : Heap) (L : List Loc) : Prop := ∃ z : Int32, v = some (.int z) ∧ Fr n0 L ∧ Keep h0 h [ab] ∧ ∃ us' : List Value, Arv Z h ab kb .byte (32 : Int32) us' (.int 0) ∧ o_DW true us us' ee pp
theorem o_ugc (l : Launch) (Z : State) (a0 : Array Value) (hw : ∀ d ∈ tables_1, d.before a0 Z = true) (ws : List Jvm.Cond) (pp : Int32) (bb ee : Nat) (ab : Addr) (kb : ClassId) (us : List Value) (cs : Int32) (fm : Value) (aO aT : Addr) (h0 : Heap) (n0 : Nat) (Z0 : n0 ≤ h0.size) (V_ab : Arv Z h0 ab kb .byte (32 : Int32) us (.int 0)) (hlu : us.length = 32) (g_ab : n0 ≤ ab) (hpe : o_pl pp ≤ ee) (he16 : ee ≤ 16) (hbe : bb ≤ ee) (hst : o_ST Z cs fm) (O0 : Old Z n0 h0) (hdg : o_DG Z aO aT) :
    o_MF l o_N45 oY31 5 (some .int) ws o_R34 #[(.int pp), (.int (Int32.ofNat bb)), (.int (Int32.ofNat ee)), (.ref ab)] Z h0 (Q_o_ugc Z pp bb ee ab kb us cs fm aO aT h0 n0) := by
  refine o_start (C := "java/lang/StringUTF16") rfl (plainFor_of_name o_pn_o_cin1) fun p e s m below meth c s1 F0 Bd hx hby hml hown hnm hZ X0 e0 hF0 => ?_
  have N0 := Fr.nil n0
  have pre0 : Goes p e below s1 F0 s1 (mkF m 0 #[oI pp, oI (Int32.ofNat bb), oI (Int32.ofNat ee), oR ab, oU] []) := fun t k => castTop (hF0.trans (by simp [entryFrame, mkF, argsToLocals, Value.category])) k
  obtain ⟨_, T1, L1, X1, hQ1, st1⟩ := o_cS (y := o_N43) (g := (mkF m 3 #[oI pp, oI (Int32.ofNat bb), oI (Int32.ofNat ee), oR ab, oU] [(.ref ab), (.int (Int32.ofNat ee)), (.int (Int32.ofNat bb))])) (as := [(.int (Int32.ofNat bb)), (.int (Int32.ofNat ee)), (.ref ab)]) (rest := []) 0 X0 hx hZ hml hown (oV hw 278 rfl) (oV hw 279 rfl) (oV hw 18 rfl) (oV hw 280 rfl) (o_ucbe l Z a0 hw [] (Int32.ofNat bb) (Int32.ofNat ee) ab (32 : Int32) cs fm h0 n0 Z0 (o_Ln.of V_ab) (o_onn (by omega)) (o_onl hbe (by omega)) (o_h16 he16) hst O0) e0 o_pd23 (hb hby D45_3)
  obtain ⟨rfl, N1q, e1⟩ := hQ1
  have N1 := Fr.app N0 N1q
  have pre2 : Goes p e below s1 F0 T1 (mkF m 6 #[oI pp, oI (Int32.ofNat bb), oI (Int32.ofNat ee), oR ab, oU] []) := fun t kt => pre0 t (by
    refine o_il X0 hx hby D45_0 rfl ?_
    refine o_il X0 hx hby D45_1 rfl ?_
    refine o_al X0 hx hby D45_2 rfl ?_
    exact st1 t kt)
  obtain ⟨_, T3, L3, X3, hQ3, st3⟩ := o_cS (y := o_N44) (g := (mkF m 9 #[oI pp, oI (Int32.ofNat bb), oI (Int32.ofNat ee), oR ab, oU] [(.ref ab), (.int (Int32.ofNat ee)), (.int pp)])) (as := [(.int pp), (.int (Int32.ofNat ee)), (.ref ab)]) (rest := []) 0 X1 hx hZ hml hown (oV hw 287 rfl) (oV hw 288 rfl) (oV hw 18 rfl) (oV hw 289 rfl) (o_gc1 l Z a0 hw [] pp ee ab kb us cs fm aO aT h0 n0 Z0 V_ab hlu g_ab hpe he16 hst O0 hdg) e1 o_pd25 (hb hby D45_9)
  obtain ⟨zr3, rfl, N3q, K3q, Rest3⟩ := hQ3
  have N3 := Fr.app N1 N3q
  have KC3 : Keep h0 T3.heap [ab] := (Keep.refl h0 [ab]).trans K3q (allS (Or.inl (o_mG (i := 0) rfl)) all0)
  have pre4 : Goes p e below s1 F0 T3 (mkF m 12 #[oI pp, oI (Int32.ofNat bb), oI (Int32.ofNat ee), oR ab, oU] [(.int zr3)]) := fun t kt => pre2 t (by
    refine o_il X1 hx hby D45_6 rfl ?_
    refine o_il X1 hx hby D45_7 rfl ?_
    refine o_al X1 hx hby D45_8 rfl ?_
    exact st3 t kt)
  obtain ⟨T5, X5, e5, st5⟩ := getS2 X3 hx hZ hown (host := "") (Or.inl (oV hw 244 rfl)) Via.refl rfl (hst.2.2.1.ext (O0.keep K3q (allS g_ab all0)).2) (g := (mkF m 14 #[oI pp, oI (Int32.ofNat bb), oI (Int32.ofNat ee), oR ab, oI zr3] [])) rfl (hb hby D45_14)
  have pre6 : Goes p e below s1 F0 T5 (mkF m 17 #[oI pp, oI (Int32.ofNat bb), oI (Int32.ofNat ee), oR ab, oI zr3] [(.int 1)]) := fun t kt => pre4 t (by
    refine XS.istore X3.here hx rfl (hb hby D45_12) rfl (l' := #[oI pp, oI (Int32.ofNat bb), oI (Int32.ofNat ee), oR ab, oI zr3]) rfl ?_
    exact st5 t kt)
  have pre7 : Goes p e below s1 F0 T5 (mkF m 36 #[oI pp, oI (Int32.ofNat bb), oI (Int32.ofNat ee), oR ab, oI zr3] [(.int zr3)]) := fun t kt => pre6 t (by
    refine o_ifY 17 34 X5 hx hby D45_17 ((if0 _ _).trans (feq (by decide : ¬ ((1 : Int32) = (0 : Int32)))).2) ?_
    refine o_iL X5 hx hby D45_34 rfl ?_
    exact kt)
  refine o_eI X5 Bd hx pre7 (hb hby D45_36) e5 ?_
  exact ⟨_, rfl, N3, KC3, Rest3⟩
theorem D39_37 : decode oY49 37 = .ok (.iload_n 1, 1) := by decide +kernel
theorem D39_38 : decode oY49 38 = .ok (.iload_n 2, 1) := by decide +kernel
theorem D39_39 : decode oY49 39 = .ok (.iload_n 3, 1) := by decide +kernel
theorem D39_40 : decode oY49 40 = .ok (.aload_n 0, 1) := by decide +kernel
theorem D39_41 : decode oY49 41 = .ok (.getfield 15, 3) := by decide +kernel
theorem D39_44 : decode oY49 44 = .ok (.invokestatic 251, 3) := by decide +kernel
theorem D39_47 : decode oY49 47 = .ok (.pop, 1) := by decide +kernel
def Q_o_aI1 (Z : State) (x1 ab : Addr) (kb : ClassId) (us : List Value) (cc : Nat) (pp cs : Int32) (fm : Value) (aO aT : Addr) (h0 : Heap) (n0 : Nat) (v : Option Value) (h : Heap) (L : List Loc) : Prop := v = some (.ref x1) ∧ Fr n0 L ∧ Keep h0 h [x1, ab] ∧ ∃ us' : List Value, o_SB Z h n0 x1 ab kb us' (cc + o_pl pp) (1 : Int32) (32 : Int32) 32 ∧ o_DW true us us' (cc + o_pl pp) pp
theorem o_aI1 (l : Launch) (Z : State) (a0 : Array Value) (hw : ∀ d ∈ tables_1, d.before a0 Z = true) (ws : List Jvm.Cond) (x1 ab : Addr) (kb : ClassId) (us : List Value) (cc : Nat) (pp cs : Int32) (fm : Value) (aO aT : Addr) (h0 : Heap) (n0 : Nat) (Z0 : n0 ≤ h0.size) (hS : o_SB Z h0 n0 x1 ab kb us cc (1 : Int32) (32 : Int32) 32) (hcl : cc + o_pl pp ≤ 16) (hst : o_ST Z cs fm) (O0 : Old Z n0 h0) (hdg : o_DG Z aO aT) :
    o_MF l o_N39 oY49 4 (some (.object "java/lang/AbstractStringBuilder")) ws o_R46 #[(.ref x1), (.int pp)] Z h0 (Q_o_aI1 Z x1 ab kb us cc pp cs fm aO aT h0 n0) := by
  refine o_start (C := "java/lang/AbstractStringBuilder") rfl (plainFor_of_name o_pn_o_ai) fun p e s m below meth c s1 F0 Bd hx hby hml hown hnm hZ X0 e0 hF0 => ?_
  have N0 := Fr.nil n0
  have pre0 : Goes p e below s1 F0 s1 (mkF m 0 #[oR x1, oI pp, oU, oU] []) := fun t k => castTop (hF0.trans (by simp [entryFrame, mkF, argsToLocals, Value.category])) k
  obtain ⟨E_x1, F_value, F_coder, F_count, F_maybeLatin1, V_ab, hlu, nxa, g_x1, g_ab⟩ := (id (hS))
  obtain ⟨T1, X1, e1, st1⟩ := getF X0 hx hZ hown (host := "") (Or.inl (oV hw 90 rfl)) Via.refl e0 F_count (g := (mkF m 1 #[oR x1, oI pp, oU, oU] [(.ref x1)])) rfl rfl (hb hby D39_1)
  have pre2 : Goes p e below s1 F0 T1 (mkF m 4 #[oR x1, oI pp, oU, oU] [(.int (Int32.ofNat cc))]) := fun t kt => pre0 t (by
    refine o_al X0 hx hby D39_0 rfl ?_
    exact st1 t kt)
  obtain ⟨_, T3, L3, X3, hQ3, st3⟩ := o_cS (y := o_N37) (g := (mkF m 7 #[oR x1, oI pp, oI (Int32.ofNat cc), oU] [(.int pp), (.int (Int32.ofNat cc))])) (as := [(.int pp)]) (rest := [(.int (Int32.ofNat cc))]) 1 X1 hx hZ hml hown (oV hw 129 rfl) (oV hw 130 rfl) (oV hw 131 rfl) (oV hw 132 rfl) (o_ssz l Z a0 hw [] pp h0 n0 Z0 ) e1 o_pd1 (hb hby D39_7)
  obtain ⟨rfl, N3q, e3⟩ := hQ3
  have N3 := Fr.app N0 N3q
  have pre4 : Goes p e below s1 F0 T3 (mkF m 10 #[oR x1, oI pp, oI (Int32.ofNat cc), oU] [(.int (Int32.ofNat (o_pl pp))), (.int (Int32.ofNat cc))]) := fun t kt => pre2 t (by
    refine XS.istoreN X1.here hx rfl (hb hby D39_4) rfl (l' := #[oR x1, oI pp, oI (Int32.ofNat cc), oU]) rfl ?_
    refine o_il X1 hx hby D39_5 rfl ?_
    refine o_il X1 hx hby D39_6 rfl ?_
    exact st3 t kt)
  have pre5 : Goes p e below s1 F0 T3 (mkF m 11 #[oR x1, oI pp, oI (Int32.ofNat cc), oU] [(.int ((Int32.ofNat cc) + (Int32.ofNat (o_pl pp))))]) := fun t kt => pre4 t (by
    refine XS.iadd X3.here hx rfl (hb hby D39_10) rfl ?_
    exact kt)
  rw [show ((Int32.ofNat cc) + (Int32.ofNat (o_pl pp))) = (Int32.ofNat (cc + o_pl pp)) from o_oadd _ _] at pre5
  obtain ⟨_, T6, L6, X6, hQ6, st6⟩ := o_cW (y := o_N24) (b := x1) (g := (mkF m 14 #[oR x1, oI pp, oI (Int32.ofNat cc), oI (Int32.ofNat (cc + o_pl pp))] [(.int (Int32.ofNat (cc + o_pl pp))), (.ref x1)])) (as := [(.int (Int32.ofNat (cc + o_pl pp)))]) (rest := []) 0 X3 hx hZ hml hown (oV hw 92 rfl) (oV hw 95 rfl) (oV hw 93 rfl) (oV hw 96 rfl) (oV hw 62 rfl) (o_ens1 l Z a0 hw [] x1 ab kb us cc (Int32.ofNat (cc + o_pl pp)) h0 n0 Z0 hS (o_ens (by omega))) e3 E_x1 o_pd15 (hb hby D39_14)
  obtain ⟨rfl, N6q, e6⟩ := hQ6
  have N6 := Fr.app N3 N6q
  have pre7 : Goes p e below s1 F0 T6 (mkF m 17 #[oR x1, oI pp, oI (Int32.ofNat cc), oI (Int32.ofNat (cc + o_pl pp))] []) := fun t kt => pre5 t (by
    refine XS.istoreN X3.here hx rfl (hb hby D39_11) rfl (l' := #[oR x1, oI pp, oI (Int32.ofNat cc), oI (Int32.ofNat (cc + o_pl pp))]) rfl ?_
    refine o_al X3 hx hby D39_12 rfl ?_
    refine o_il X3 hx hby D39_13 rfl ?_
    exact st6 t kt)
  obtain ⟨_, T8, L8, X8, hQ8, st8⟩ := o_cW (y := o_N30) (b := x1) (g := (mkF m 18 #[oR x1, oI pp, oI (Int32.ofNat cc), oI (Int32.ofNat (cc + o_pl pp))] [(.ref x1)])) (as := []) (rest := []) 0 X6 hx hZ hml hown (oV hw 133 rfl) (oV hw 136 rfl) (oV hw 135 rfl) (oV hw 137 rfl) (oV hw 62 rfl) (o_isl1 l Z a0 hw [] x1 ab kb us cc cs fm h0 n0 Z0 hS hst O0) e6 E_x1 o_pd13 (hb hby D39_18)
  obtain ⟨rfl, N8q, e8⟩ := hQ8
  have N8 := Fr.app N6 N8q
  have pre9 : Goes p e below s1 F0 T8 (mkF m 21 #[oR x1, oI pp, oI (Int32.ofNat cc), oI (Int32.ofNat (cc + o_pl pp))] [(.int 0)]) := fun t kt => pre7 t (by
    refine o_al X6 hx hby D39_17 rfl ?_
    exact st8 t kt)
  obtain ⟨T10, X10, e10, st10⟩ := getF X8 hx hZ hown (host := "") (Or.inl (oV hw 66 rfl)) Via.refl e8 F_value (g := (mkF m 41 #[oR x1, oI pp, oI (Int32.ofNat cc), oI (Int32.ofNat (cc + o_pl pp))] [(.ref x1), (.int (Int32.ofNat (cc + o_pl pp))), (.int (Int32.ofNat cc)), (.int pp)])) rfl rfl (hb hby D39_41)
  have pre11 : Goes p e below s1 F0 T10 (mkF m 44 #[oR x1, oI pp, oI (Int32.ofNat cc), oI (Int32.ofNat (cc + o_pl pp))] [(.ref ab), (.int (Int32.ofNat (cc + o_pl pp))), (.int (Int32.ofNat cc)), (.int pp)]) := fun t kt => pre9 t (by
    refine o_ifY 21 37 X8 hx hby D39_21 ((if0 _ _).trans (teq (by decide : (0 : Int32) = (0 : Int32))).1) ?_
    refine o_il X8 hx hby D39_37 rfl ?_
    refine o_il X8 hx hby D39_38 rfl ?_
    refine o_il X8 hx hby D39_39 rfl ?_
    refine o_al X8 hx hby D39_40 rfl ?_
    exact st10 t kt)
  obtain ⟨_, T12, L12, X12, hQ12, st12⟩ := o_cS (y := o_N45) (g := (mkF m 44 #[oR x1, oI pp, oI (Int32.ofNat cc), oI (Int32.ofNat (cc + o_pl pp))] [(.ref ab), (.int (Int32.ofNat (cc + o_pl pp))), (.int (Int32.ofNat cc)), (.int pp)])) (as := [(.int pp), (.int (Int32.ofNat cc)), (.int (Int32.ofNat (cc + o_pl pp))), (.ref ab)]) (rest := []) 0 X10 hx hZ hml hown (oV hw 275 rfl) (oV hw 276 rfl) (oV hw 18 rfl) (oV hw 277 rfl) (o_ugc l Z a0 hw [] pp cc (cc + o_pl pp) ab kb us cs fm aO aT h0 n0 Z0 V_ab hlu g_ab (Nat.le_add_left _ _) (by omega) (Nat.le_add_right _ _) hst O0 hdg) e10 o_pd28 (hb hby D39_44)
  obtain ⟨zr12, rfl, N12q, K12q, uw, Vz12, hDW⟩ := hQ12
  have N12 := Fr.app N8 N12q
  have KC12 : Keep h0 T12.heap [x1, ab] := (Keep.refl h0 [x1, ab]).trans K12q (allS (Or.inl (o_mG (i := 1) rfl)) all0)
  have pre13 : Goes p e below s1 F0 T12 (mkF m 47 #[oR x1, oI pp, oI (Int32.ofNat cc), oI (Int32.ofNat (cc + o_pl pp))] [(.int zr12)]) := fun t kt => pre11 t (st12 t kt)
  obtain ⟨T14, h14, X14, e14, W14, st14⟩ := putF X12 hx hZ hown (host := "") (Or.inl (oV hw 90 rfl)) Via.refl rfl (F_count.keep K12q (ninS nxa nin0)) (E_x1.keep K12q) (Or.inl (oV hw 91 rfl)) (oV hw 53 rfl) (ty := .int) (by decide) rfl rfl (g := (mkF m 50 #[oR x1, oI pp, oI (Int32.ofNat cc), oI (Int32.ofNat (cc + o_pl pp))] [(.int (Int32.ofNat (cc + o_pl pp))), (.ref x1)])) rfl rfl (hb hby D39_50)
  have Fw14 := (F_count.keep K12q (ninS nxa nin0)).same W14
  have K14 : Keep h0 h14 [x1, ab] := KC12.wr W14 (Or.inl (o_mG (i := 0) rfl))
  have N14 := Fr.snoc X14 N12 g_x1
  have pre15 : Goes p e below s1 F0 T14 (mkF m 53 #[oR x1, oI pp, oI (Int32.ofNat cc), oI (Int32.ofNat (cc + o_pl pp))] []) := fun t kt => pre13 t (by
    refine XS.pop X12.here hx rfl (hb hby D39_47) rfl rfl ?_
    refine o_al X12 hx hby D39_48 rfl ?_
    refine o_il X12 hx hby D39_49 rfl ?_
    exact st14 t kt)
  have pre16 : Goes p e below s1 F0 T14 (mkF m 54 #[oR x1, oI pp, oI (Int32.ofNat cc), oI (Int32.ofNat (cc + o_pl pp))] [(.ref x1)]) := fun t kt => pre15 t (by
    refine o_al X14 hx hby D39_53 rfl ?_
    exact kt)
  refine o_eR X14 Bd hx pre16 (hb hby D39_54) e14 ?_
  exact ⟨rfl, N14, K14, uw, ⟨((E_x1.keep K12q).wr W14), ((F_value.keep K12q (ninS nxa nin0)).other W14 (Or.inr (slot_ne (Or.inl (oV hw 67 rfl)) (Or.inl (oV hw 91 rfl)) (by decide) (t := (.array .byte)) (t' := .int) (by decide) (by decide)))), ((F_coder.keep K12q (ninS nxa nin0)).other W14 (Or.inr (slot_ne (Or.inl (oV hw 69 rfl)) (Or.inl (oV hw 91 rfl)) (by decide) (t := .byte) (t' := .int) (by decide) (by decide)))), Fw14, ((F_maybeLatin1.keep K12q (ninS nxa nin0)).other W14 (Or.inr (slot_ne (Or.inl (oV hw 293 rfl)) (Or.inl (oV hw 91 rfl)) (by decide) (t := .boolean) (t' := .int) (by decide) (by decide)))), (Vz12.other W14 (Ne.symm nxa)), (hDW.1.trans hlu), nxa, g_x1, g_ab⟩, hDW⟩
def Q_o_bI1 (Z : State) (x1 ab : Addr) (kb : ClassId) (us : List Value) (cc : Nat) (pp cs : Int32) (fm : Value) (aO aT : Addr) (h0 : Heap) (n0 : Nat) (v : Option Value) (h : Heap) (L : List Loc) : Prop := v = some (.ref x1) ∧ Fr n0 L ∧ Keep h0 h [x1, ab] ∧ ∃ us' : List Value, o_SB Z h n0 x1 ab kb us' (cc + o_pl pp) (1 : Int32) (32 : Int32) 32 ∧ o_DW true us us' (cc + o_pl pp) pp
theorem o_bI1 (l : Launch) (Z : State) (a0 : Array Value) (hw : ∀ d ∈ tables_1, d.before a0 Z = true) (ws : List Jvm.Cond) (x1 ab : Addr) (kb : ClassId) (us : List Value) (cc : Nat) (pp cs : Int32) (fm : Value) (aO aT : Addr) (h0 : Heap) (n0 : Nat) (Z0 : n0 ≤ h0.size) (hS : o_SB Z h0 n0 x1 ab kb us cc (1 : Int32) (32 : Int32) 32) (hcl : cc + o_pl pp ≤ 16) (hst : o_ST Z cs fm) (O0 : Old Z n0 h0) (hdg : o_DG Z aO aT) :
    o_MF l o_N40 oY41 2 (some (.object "java/lang/StringBuilder")) ws o_R47 #[(.ref x1), (.int pp)] Z h0 (Q_o_bI1 Z x1 ab kb us cc pp cs fm aO aT h0 n0) := by
  refine o_start (C := "java/lang/StringBuilder") rfl (plainFor_of_name o_pn_o_bi) fun p e s m below meth c s1 F0 Bd hx hby hml hown hnm hZ X0 e0 hF0 => ?_
  have N0 := Fr.nil n0
  have pre0 : Goes p e below s1 F0 s1 (mkF m 0 #[oR x1, oI pp] []) := fun t k => castTop (hF0.trans (by simp [entryFrame, mkF, argsToLocals, Value.category])) k
  obtain ⟨E_x1, F_value, F_coder, F_count, F_maybeLatin1, V_ab, hlu, nxa, g_x1, g_ab⟩ := (id (hS))
  obtain ⟨_, T1, L1, X1, hQ1, st1⟩ := o_cU (y := o_N39) (y2 := o_N24) (b := x1) (g := (mkF m 2 #[oR x1, oI pp] [(.int pp), (.ref x1)])) (as := [(.int pp)]) (rest := []) 0 X0 hx hZ hml hown (oV hw 125 rfl) (oV hw 95 rfl) (oV hw 126 rfl) (oV hw 77 rfl) (oV hw 128 rfl) (oV hw 62 rfl) (o_aI1 l Z a0 hw [] x1 ab kb us cc pp cs fm aO aT h0 n0 Z0 hS hcl hst O0 hdg) e0 E_x1 o_pd26 (hb hby D40_2)
  obtain ⟨rfl, N1q, K1q, Rest1⟩ := hQ1
  have N1 := Fr.app N0 N1q
  have KC1 : Keep h0 T1.heap [x1, ab] := (Keep.refl h0 [x1, ab]).trans K1q (allS (Or.inl (o_mG (i := 0) rfl)) (allS (Or.inl (o_mG (i := 1) rfl)) all0))
  have pre2 : Goes p e below s1 F0 T1 (mkF m 5 #[oR x1, oI pp] [(.ref x1)]) := fun t kt => pre0 t (by
    refine o_al X0 hx hby D40_0 rfl ?_
    refine o_il X0 hx hby D40_1 rfl ?_
    exact st1 t kt)
  have pre3 : Goes p e below s1 F0 T1 (mkF m 7 #[oR x1, oI pp] [(.ref x1)]) := fun t kt => pre2 t (by
    refine XS.pop X1.here hx rfl (hb hby D40_5) rfl rfl ?_
    refine o_al X1 hx hby D40_6 rfl ?_
    exact kt)
  refine o_eR X1 Bd hx pre3 (hb hby D40_7) rfl ?_
  exact ⟨rfl, N1, KC1, Rest1⟩
theorem D46_0 : decode oY38 0 = .ok (.iload_n 1, 1) := by decide +kernel
theorem D46_1 : decode oY38 1 = .ok (.iload_n 0, 1) := by decide +kernel
theorem D46_2 : decode oY38 2 = .ok (.if_icmp .ge 35, 3) := by decide +kernel
theorem D46_37 : decode oY38 37 = .ok (.return_, 1) := by decide +kernel
theorem o_pn_o_ckl : plainName "java/util/Arrays" = true := by first | (simp [plainName, overriddenIn]; done) | decide +kernel
def Q_o_ckl (Z : State) (kk : Nat) (h0 : Heap) (n0 : Nat) (v : Option Value) (h : Heap) (L : List Loc) : Prop := v = none ∧ Fr n0 L ∧ h = h0
theorem o_ckl (l : Launch) (Z : State) (a0 : Array Value) (hw : ∀ d ∈ tables_1, d.before a0 Z = true) (ws : List Jvm.Cond) (kk : Nat) (h0 : Heap) (n0 : Nat) (Z0 : n0 ≤ h0.size) (hk : kk < 32) :
    o_MF l o_N46 oY38 2 none ws o_R2 #[(.int 0), (.int (Int32.ofNat kk))] Z h0 (Q_o_ckl Z kk h0 n0) := by
  refine o_start (C := "java/util/Arrays") rfl (plainFor_of_name o_pn_o_ckl) fun p e s m below meth c s1 F0 Bd hx hby hml hown hnm hZ X0 e0 hF0 => ?_
  have N0 := Fr.nil n0
  have pre0 : Goes p e below s1 F0 s1 (mkF m 0 #[oI 0, oI (Int32.ofNat kk)] []) := fun t k => castTop (hF0.trans (by simp [entryFrame, mkF, argsToLocals, Value.category])) k
  have pre1 : Goes p e below s1 F0 s1 (mkF m 37 #[oI 0, oI (Int32.ofNat kk)] []) := fun t kt => pre0 t (by
    refine o_il X0 hx hby D46_0 rfl ?_
    refine o_il X0 hx hby D46_1 rfl ?_
    refine o_icY 2 37 X0 hx hby D46_2 (flt (o_onn (n := kk) (by omega))).2.1 ?_
    exact kt)
  refine o_eV X0 Bd hx pre1 (hb hby D46_37) e0 ?_
  exact ⟨rfl, N0, rfl⟩
theorem D47_0 : decode oY1 0 = .ok (.iload_n 0, 1) := by decide +kernel
theorem D47_1 : decode oY1 1 = .ok (.iload_n 1, 1) := by decide +kernel
theorem D47_2 : decode oY1 2 = .ok (.if_icmp .gt 7, 3) := by decide +kernel
theorem D47_9 : decode oY1 9 = .ok (.iload_n 1, 1) := by decide +kernel
theorem D47_10 : decode oY1 10 = .ok (.ireturn, 1) := by decide +kernel
def Q_o_mn (Z : State) (kk NN : Nat) (h0 : Heap) (n0 : Nat) (v : Option Value) (h : Heap) (L : List Loc) : Prop := v = some (.int (Int32.ofNat kk)) ∧ Fr n0 L ∧ h = h0
theorem o_mn (l : Launch) (Z : State) (a0 : Array Value) (hw : ∀ d ∈ tables_1, d.before a0 Z = true) (ws : List Jvm.Cond) (kk NN : Nat) (h0 : Heap) (n0 : Nat) (Z0 : n0 ≤ h0.size) (hk : kk < NN) (hN : NN ≤ 32) :
    o_MF l o_N47 oY1 2 (some .int) ws o_R2 #[(.int (Int32.ofNat NN)), (.int (Int32.ofNat kk))] Z h0 (Q_o_mn Z kk NN h0 n0) := by
  refine o_start (C := "java/lang/Math") rfl (Jvm.Free.JP.mathPlain rfl (by decide +kernel)) fun p e s m below meth c s1 F0 Bd hx hby hml hown hnm hZ X0 e0 hF0 => ?_
  have N0 := Fr.nil n0
  have pre0 : Goes p e below s1 F0 s1 (mkF m 0 #[oI (Int32.ofNat NN), oI (Int32.ofNat kk)] []) := fun t k => castTop (hF0.trans (by simp [entryFrame, mkF, argsToLocals, Value.category])) k
  have pre1 : Goes p e below s1 F0 s1 (mkF m 10 #[oI (Int32.ofNat NN), oI (Int32.ofNat kk)] [(.int (Int32.ofNat kk))]) := fun t kt => pre0 t (by
    refine o_il X0 hx hby D47_0 rfl ?_
    refine o_il X0 hx hby D47_1 rfl ?_
    refine o_icY 2 9 X0 hx hby D47_2 (tlt (o_olt hk (by omega))).2.2.1 ?_
    refine o_il X0 hx hby D47_9 rfl ?_
    exact kt)
  refine o_eI X0 Bd hx pre1 (hb hby D47_10) e0 ?_
  exact ⟨rfl, N0, rfl⟩
theorem D48_0 : decode oY40 0 = .ok (.iload_n 1, 1) := by decide +kernel
theorem D48_1 : decode oY40 1 = .ok (.iload_n 2, 1) := by decide +kernel
theorem D48_2 : decode oY40 2 = .ok (.invokestatic 343, 3) := by decide +kernel
theorem D48_5 : decode oY40 5 = .ok (.iload_n 2, 1) := by decide +kernel
theorem D48_6 : decode oY40 6 = .ok (.iload_n 1, 1) := by decide +kernel
theorem D48_7 : decode oY40 7 = .ok (.isub, 1) := by decide +kernel
theorem D48_8 : decode oY40 8 = .ok (.istore_n 3, 1) := by decide +kernel
theorem D48_9 : decode oY40 9 = .ok (.iload_n 3, 1) := by decide +kernel
theorem D48_10 : decode oY40 10 = .ok (.newarray .byte, 2) := by decide +kernel
theorem D48_12 : decode oY40 12 = .ok (.astore 4, 2) := by decide +kernel
theorem D48_14 : decode oY40 14 = .ok (.aload_n 0, 1) := by decide +kernel
theorem D48_15 : decode oY40 15 = .ok (.iload_n 1, 1) := by decide +kernel
theorem D48_16 : decode oY40 16 = .ok (.aload 4, 2) := by decide +kernel
theorem D48_18 : decode oY40 18 = .ok (.iconst 0, 1) := by decide +kernel
theorem D48_19 : decode oY40 19 = .ok (.aload_n 0, 1) := by decide +kernel
theorem D48_20 : decode oY40 20 = .ok (.arraylength, 1) := by decide +kernel
theorem D48_21 : decode oY40 21 = .ok (.iload_n 1, 1) := by decide +kernel
theorem D48_22 : decode oY40 22 = .ok (.isub, 1) := by decide +kernel
theorem D48_23 : decode oY40 23 = .ok (.iload_n 3, 1) := by decide +kernel
theorem D48_24 : decode oY40 24 = .ok (.invokestatic 304, 3) := by decide +kernel
theorem D48_27 : decode oY40 27 = .ok (.invokestatic 150, 3) := by decide +kernel
theorem D48_30 : decode oY40 30 = .ok (.aload 4, 2) := by decide +kernel
theorem D48_32 : decode oY40 32 = .ok (.areturn, 1) := by decide +kernel
def Q_o_crb (Z : State) (ab : Addr) (kb : ClassId) (us : List Value) (kk NN : Nat) (h0 : Heap) (n0 : Nat) (v : Option Value) (h : Heap) (L : List Loc) : Prop := ∃ (y : Addr) (ky : ClassId), v = some (.ref y) ∧ Fr n0 L ∧ Keep h0 h [] ∧ h0.size ≤ y ∧ n0 ≤ y ∧ Arv Z h y ky .byte (Int32.ofNat kk) (us.take kk) (.int 0)
theorem o_crb (l : Launch) (Z : State) (a0 : Array Value) (hw : ∀ d ∈ tables_1, d.before a0 Z = true) (ws : List Jvm.Cond) (ab : Addr) (kb : ClassId) (us : List Value) (kk NN : Nat) (h0 : Heap) (n0 : Nat) (Z0 : n0 ≤ h0.size) (V_ab : Arv Z h0 ab kb .byte (Int32.ofNat NN) us (.int 0)) (hlu : us.length = NN) (hk : kk < NN) (hN : NN ≤ 32) :
    o_MF l o_N48 oY40 5 (some (.array .byte)) ws o_R48 #[(.ref ab), (.int 0), (.int (Int32.ofNat kk))] Z h0 (Q_o_crb Z ab kb us kk NN h0 n0) := by
  refine o_start (C := "java/util/Arrays") rfl (plainFor_of_name o_pn_o_ckl) fun p e s m below meth c s1 F0 Bd hx hby hml hown hnm hZ X0 e0 hF0 => ?_
  have N0 := Fr.nil n0
  have pre0 : Goes p e below s1 F0 s1 (mkF m 0 #[oR ab, oI 0, oI (Int32.ofNat kk), oU, oU] []) := fun t k => castTop (hF0.trans (by simp [entryFrame, mkF, argsToLocals, Value.category])) k
  obtain ⟨_, T1, L1, X1, hQ1, st1⟩ := o_cS (y := o_N46) (g := (mkF m 2 #[oR ab, oI 0, oI (Int32.ofNat kk), oU, oU] [(.int (Int32.ofNat kk)), (.int 0)])) (as := [(.int 0), (.int (Int32.ofNat kk))]) (rest := []) 0 X0 hx hZ hml hown (oV hw 175 rfl) (oV hw 176 rfl) (oV hw 170 rfl) (oV hw 177 rfl) (o_ckl l Z a0 hw [] kk h0 n0 Z0 (by omega)) e0 o_pd10 (hb hby D48_2)
  obtain ⟨rfl, N1q, e1⟩ := hQ1
  have N1 := Fr.app N0 N1q
  have pre2 : Goes p e below s1 F0 T1 (mkF m 5 #[oR ab, oI 0, oI (Int32.ofNat kk), oU, oU] []) := fun t kt => pre0 t (by
    refine o_il X0 hx hby D48_0 rfl ?_
    refine o_il X0 hx hby D48_1 rfl ?_
    exact st1 t kt)
  have pre3 : Goes p e below s1 F0 T1 (mkF m 8 #[oR ab, oI 0, oI (Int32.ofNat kk), oU, oU] [(.int ((Int32.ofNat kk) - (0 : Int32)))]) := fun t kt => pre2 t (by
    refine o_il X1 hx hby D48_5 rfl ?_
    refine o_il X1 hx hby D48_6 rfl ?_
    refine XS.isub X1.here hx rfl (hb hby D48_7) rfl ?_
    exact kt)
  rw [show ((Int32.ofNat kk) - (0 : Int32)) = (Int32.ofNat kk) from o_os0 _] at pre3
  obtain ⟨T4, h4, k4, X4, e4, E4, A4, st4⟩ := newP X1 hx hZ (oV hw 20 rfl) e1 (g := (mkF m 10 #[oR ab, oI 0, oI (Int32.ofNat kk), oI (Int32.ofNat kk), oU] [(.int (Int32.ofNat kk))])) rfl (hb hby D48_10) rfl (o_onn (by omega)) (cap := 32) (by rw [o_oc (by omega)]; omega) (by decide) (by decide) (by decide)
  obtain ⟨b4, g4⟩ : ∃ z, z = h0.size := ⟨_, rfl⟩
  rw [← g4] at A4 st4
  have V_b4 := Arv.new A4 (o_onn (by omega))
  have g_b4 : n0 ≤ b4 := Nat.le_trans Z0 (Nat.le_of_eq g4.symm)
  have sz_b4 : h0.size ≤ b4 := (Nat.le_trans (Keep.refl h0 []).1 (Nat.le_of_eq g4.symm))
  have K4 : Keep h0 h4 [] := (Keep.refl h0 []).ext E4
  have pre5 : Goes p e below s1 F0 T4 (mkF m 12 #[oR ab, oI 0, oI (Int32.ofNat kk), oI (Int32.ofNat kk), oU] [(.ref b4)]) := fun t kt => pre3 t (by
    refine XS.istoreN X1.here hx rfl (hb hby D48_8) rfl (l' := #[oR ab, oI 0, oI (Int32.ofNat kk), oI (Int32.ofNat kk), oU]) rfl ?_
    refine o_il X1 hx hby D48_9 rfl ?_
    exact st4 t kt)
  have V2_b4 : Arv Z h4 b4 k4 .byte (Int32.ofNat kk) (List.replicate kk (.int 0)) (.int 0) := V_b4.pad (pad_rep [] _ kk)
  obtain ⟨cl6, Ar6, q6, S6, N_6, H6, G6⟩ := (id ((V_ab.ext E4)))
  have pre7 : Goes p e below s1 F0 T4 (mkF m 24 #[oR ab, oI 0, oI (Int32.ofNat kk), oI (Int32.ofNat kk), oR b4] [(.int (Int32.ofNat kk)), (.int ((Int32.ofNat NN) - (0 : Int32))), (.int 0), (.ref b4), (.int 0), (.ref ab)]) := fun t kt => pre5 t (by
    refine XS.astore X4.here hx rfl (hb hby D48_12) rfl rfl (l' := #[oR ab, oI 0, oI (Int32.ofNat kk), oI (Int32.ofNat kk), oR b4]) rfl ?_
    refine o_al X4 hx hby D48_14 rfl ?_
    refine o_il X4 hx hby D48_15 rfl ?_
    refine o_aL X4 hx hby D48_16 rfl ?_
    refine o_ic X4 hx hby D48_18 ?_
    refine o_al X4 hx hby D48_19 rfl ?_
    refine X4.arraylength hx (by (try rw [e4]); exact Ar6.1) (State.isArrayOf_alike hZ.alike Ar6.2.1) (g := (mkF m 20 #[oR ab, oI 0, oI (Int32.ofNat kk), oI (Int32.ofNat kk), oR b4] [(.ref ab), (.int 0), (.ref b4), (.int 0), (.ref ab)])) rfl rfl (hb hby D48_20) _ ?_
    rw [len_of S6 N_6]
    refine o_il X4 hx hby D48_21 rfl ?_
    show Steps p.tables e below (T4.setTop (mkF m 22 #[oR ab, oI 0, oI (Int32.ofNat kk), oI (Int32.ofNat kk), oR b4] [(.int 0), (.int (Int32.ofNat NN)), (.int 0), (.ref b4), (.int 0), (.ref ab)])) _
    refine XS.isub X4.here hx rfl (hb hby D48_22) rfl ?_
    refine o_il X4 hx hby D48_23 rfl ?_
    exact kt)
  rw [show ((Int32.ofNat NN) - (0 : Int32)) = (Int32.ofNat NN) from o_os0 _] at pre7
  obtain ⟨_, T8, L8, X8, hQ8, st8⟩ := o_cS (y := o_N47) (g := (mkF m 24 #[oR ab, oI 0, oI (Int32.ofNat kk), oI (Int32.ofNat kk), oR b4] [(.int (Int32.ofNat kk)), (.int (Int32.ofNat NN)), (.int 0), (.ref b4), (.int 0), (.ref ab)])) (as := [(.int (Int32.ofNat NN)), (.int (Int32.ofNat kk))]) (rest := [(.int 0), (.ref b4), (.int 0), (.ref ab)]) 4 X4 hx hZ hml hown (oV hw 178 rfl) (oV hw 179 rfl) (oV hw 180 rfl) (oV hw 181 rfl) (o_mn l Z a0 hw [] kk NN h4 n0 (Nat.le_trans Z0 K4.1) hk hN) e4 o_pd29 (hb hby D48_24)
  obtain ⟨rfl, N8q, e8⟩ := hQ8
  have N8 := Fr.app N1 N8q
  have pre9 : Goes p e below s1 F0 T8 (mkF m 27 #[oR ab, oI 0, oI (Int32.ofNat kk), oI (Int32.ofNat kk), oR b4] [(.int (Int32.ofNat kk)), (.int 0), (.ref b4), (.int 0), (.ref ab)]) := fun t kt => pre7 t (st8 t kt)
  obtain ⟨T10, h10, Lc10, X10, e10, N10, K10q, V10, st10⟩ := cpA X8 hx hZ hown (oV hw 182 rfl) (oV hw 116 rfl) (oV hw 114 rfl) (oV hw 115 rfl) e8 (sp := (0 : Int32)) (dp := (0 : Int32)) (nn := (Int32.ofNat kk)) (us := (us.take kk)) (V_ab.ext E4) V2_b4 (Or.inl ⟨rfl, rfl⟩) (by decide) (by decide) (o_onn (by omega)) (by rw [o_oc (n := kk) (by omega), o_oc (n := NN) (by omega)]; show 0 + kk ≤ NN; omega) (by rw [o_oc (by omega)]; exact Nat.le_of_eq (Nat.zero_add _)) (o_hut (by omega) (by omega)) (by rw [o_oc (by omega), List.length_replicate]; exact Nat.le_of_eq (Nat.zero_add _)) N8 g_b4 (g := (mkF m 27 #[oR ab, oI 0, oI (Int32.ofNat kk), oI (Int32.ofNat kk), oR b4] [(.int (Int32.ofNat kk)), (.int 0), (.ref b4), (.int 0), (.ref ab)])) rfl (by rw [hml]; rfl) rfl (hb hby D48_27) (by decide) (W := 0) (by show 2 * 0 + _ ≤ _; exact Nat.le_of_eq rfl) (by decide)
  have KC10 : Keep h0 h10 [] := K4.trans K10q (allS (Or.inr sz_b4) all0)
  have pre11 : Goes p e below s1 F0 T10 (mkF m 30 #[oR ab, oI 0, oI (Int32.ofNat kk), oI (Int32.ofNat kk), oR b4] []) := fun t kt => pre9 t (st10 t kt)
  rw [o_oc (n := kk) (by omega), show (0 : Int32).toNatClampNeg = 0 from rfl, o_cpl] at V10
  have pre12 : Goes p e below s1 F0 T10 (mkF m 32 #[oR ab, oI 0, oI (Int32.ofNat kk), oI (Int32.ofNat kk), oR b4] [(.ref b4)]) := fun t kt => pre11 t (by
    refine o_aL X10 hx hby D48_30 rfl ?_
    exact kt)
  refine o_eR X10 Bd hx pre12 (hb hby D48_32) e10 ?_
  exact ⟨b4, _, rfl, N10, KC10, sz_b4, g_b4, V10⟩
theorem D49_0 : decode oY39 0 = .ok (.iload_n 1, 1) := by decide +kernel
theorem D49_1 : decode oY39 1 = .ok (.ifCond .ne 9, 3) := by decide +kernel
theorem D49_4 : decode oY39 4 = .ok (.iload_n 2, 1) := by decide +kernel
theorem D49_5 : decode oY39 5 = .ok (.aload_n 0, 1) := by decide +kernel
theorem D49_6 : decode oY39 6 = .ok (.arraylength, 1) := by decide +kernel
theorem D49_7 : decode oY39 7 = .ok (.if_icmp .eq 10, 3) := by decide +kernel
theorem D49_10 : decode oY39 10 = .ok (.aload_n 0, 1) := by decide +kernel
theorem D49_11 : decode oY39 11 = .ok (.iload_n 1, 1) := by decide +kernel
theorem D49_12 : decode oY39 12 = .ok (.iload_n 2, 1) := by decide +kernel
theorem D49_13 : decode oY39 13 = .ok (.invokestatic 339, 3) := by decide +kernel
theorem D49_16 : decode oY39 16 = .ok (.areturn, 1) := by decide +kernel
def Q_o_cor (Z : State) (ab : Addr) (kb : ClassId) (us : List Value) (kk NN : Nat) (h0 : Heap) (n0 : Nat) (v : Option Value) (h : Heap) (L : List Loc) : Prop := ∃ (y : Addr) (ky : ClassId), v = some (.ref y) ∧ Fr n0 L ∧ Keep h0 h [] ∧ h0.size ≤ y ∧ n0 ≤ y ∧ Arv Z h y ky .byte (Int32.ofNat kk) (us.take kk) (.int 0)
theorem o_cor (l : Launch) (Z : State) (a0 : Array Value) (hw : ∀ d ∈ tables_1, d.before a0 Z = true) (ws : List Jvm.Cond) (ab : Addr) (kb : ClassId) (us : List Value) (kk NN : Nat) (h0 : Heap) (n0 : Nat) (Z0 : n0 ≤ h0.size) (V_ab : Arv Z h0 ab kb .byte (Int32.ofNat NN) us (.int 0)) (hlu : us.length = NN) (hk : kk < NN) (hN : NN ≤ 32) :
    o_MF l o_N49 oY39 3 (some (.array .byte)) ws o_R49 #[(.ref ab), (.int 0), (.int (Int32.ofNat kk))] Z h0 (Q_o_cor Z ab kb us kk NN h0 n0) := by
  refine o_start (C := "java/util/Arrays") rfl (plainFor_of_name o_pn_o_ckl) fun p e s m below meth c s1 F0 Bd hx hby hml hown hnm hZ X0 e0 hF0 => ?_
  have N0 := Fr.nil n0
  have pre0 : Goes p e below s1 F0 s1 (mkF m 0 #[oR ab, oI 0, oI (Int32.ofNat kk)] []) := fun t k => castTop (hF0.trans (by simp [entryFrame, mkF, argsToLocals, Value.category])) k
  obtain ⟨cl1, Ar1, q1, S1, N_1, H1, G1⟩ := (id (V_ab))
  obtain ⟨_, T2, L2, X2, hQ2, st2⟩ := o_cS (y := o_N48) (g := (mkF m 13 #[oR ab, oI 0, oI (Int32.ofNat kk)] [(.int (Int32.ofNat kk)), (.int 0), (.ref ab)])) (as := [(.ref ab), (.int 0), (.int (Int32.ofNat kk))]) (rest := []) 0 X0 hx hZ hml hown (oV hw 172 rfl) (oV hw 173 rfl) (oV hw 170 rfl) (oV hw 174 rfl) (o_crb l Z a0 hw [] ab kb us kk NN h0 n0 Z0 V_ab hlu hk hN) e0 o_pd30 (hb hby D49_13)
  obtain ⟨yy2, ky2, rfl, N2q, K2q, zy2, gy2, Vy2⟩ := hQ2
  have N2 := Fr.app N0 N2q
  have KC2 : Keep h0 T2.heap [] := (Keep.refl h0 []).trans K2q all0
  have pre3 : Goes p e below s1 F0 T2 (mkF m 16 #[oR ab, oI 0, oI (Int32.ofNat kk)] [(.ref yy2)]) := fun t kt => pre0 t (by
    refine o_il X0 hx hby D49_0 rfl ?_
    refine o_ifN X0 hx hby D49_1 ((if0 _ _).trans (teq (by decide : (0 : Int32) = (0 : Int32))).2) ?_
    refine o_il X0 hx hby D49_4 rfl ?_
    refine o_al X0 hx hby D49_5 rfl ?_
    refine X0.arraylength hx (by (try rw [e0]); exact Ar1.1) (State.isArrayOf_alike hZ.alike Ar1.2.1) (g := (mkF m 6 #[oR ab, oI 0, oI (Int32.ofNat kk)] [(.ref ab), (.int (Int32.ofNat kk))])) rfl rfl (hb hby D49_6) _ ?_
    rw [len_of S1 N_1]
    refine o_icN X0 hx hby D49_7 (feq (o_one (a := kk) (b := NN) (by omega) (by omega) (by omega))).1 ?_
    refine o_al X0 hx hby D49_10 rfl ?_
    refine o_il X0 hx hby D49_11 rfl ?_
    show Steps p.tables e below (s1.setTop (mkF m 12 #[oR ab, oI 0, oI (Int32.ofNat kk)] [(.int 0), (.ref ab)])) _
    refine o_il X0 hx hby D49_12 rfl ?_
    exact st2 t kt)
  refine o_eR X2 Bd hx pre3 (hb hby D49_16) rfl ?_
  exact ⟨_, _, rfl, N2, KC2, zy2, gy2, Vy2⟩
theorem D50_0 : decode oY50 0 = .ok (.aload_n 0, 1) := by decide +kernel
theorem D50_1 : decode oY50 1 = .ok (.getfield 15, 3) := by decide +kernel
theorem D50_4 : decode oY50 4 = .ok (.areturn, 1) := by decide +kernel
def Q_o_gv (Z : State) (x1 ab : Addr) (kb : ClassId) (us : List Value) (cc : Nat) (cd zn : Int32) (NN : Nat) (h0 : Heap) (n0 : Nat) (v : Option Value) (h : Heap) (L : List Loc) : Prop := v = some (.ref ab) ∧ Fr n0 L ∧ h = h0
theorem o_gv (l : Launch) (Z : State) (a0 : Array Value) (hw : ∀ d ∈ tables_1, d.before a0 Z = true) (ws : List Jvm.Cond) (x1 ab : Addr) (kb : ClassId) (us : List Value) (cc : Nat) (cd zn : Int32) (NN : Nat) (h0 : Heap) (n0 : Nat) (Z0 : n0 ≤ h0.size) (hS : o_SB Z h0 n0 x1 ab kb us cc cd zn NN) :
    o_MF l o_N50 oY50 1 (some (.array .byte)) ws o_R2 #[(.ref x1)] Z h0 (Q_o_gv Z x1 ab kb us cc cd zn NN h0 n0) := by
  refine o_start (C := "java/lang/AbstractStringBuilder") rfl (plainFor_of_name o_pn_o_ai) fun p e s m below meth c s1 F0 Bd hx hby hml hown hnm hZ X0 e0 hF0 => ?_
  have N0 := Fr.nil n0
  have pre0 : Goes p e below s1 F0 s1 (mkF m 0 #[oR x1] []) := fun t k => castTop (hF0.trans (by simp [entryFrame, mkF, argsToLocals, Value.category])) k
  obtain ⟨E_x1, F_value, F_coder, F_count, F_maybeLatin1, V_ab, hlu, nxa, g_x1, g_ab⟩ := (id (hS))
  obtain ⟨T1, X1, e1, st1⟩ := getF X0 hx hZ hown (host := "") (Or.inl (oV hw 66 rfl)) Via.refl e0 F_value (g := (mkF m 1 #[oR x1] [(.ref x1)])) rfl rfl (hb hby D50_1)
  have pre2 : Goes p e below s1 F0 T1 (mkF m 4 #[oR x1] [(.ref ab)]) := fun t kt => pre0 t (by
    refine o_al X0 hx hby D50_0 rfl ?_
    exact st1 t kt)
  refine o_eR X1 Bd hx pre2 (hb hby D50_4) e1 ?_
  exact ⟨rfl, N0, rfl⟩
theorem D51_0 : decode oY52 0 = .ok (.aload_n 0, 1) := by decide +kernel
theorem D51_1 : decode oY52 1 = .ok (.getfield 79, 3) := by decide +kernel
theorem D51_4 : decode oY52 4 = .ok (.ireturn, 1) := by decide +kernel
def Q_o_asl (Z : State) (x1 ab : Addr) (kb : ClassId) (us : List Value) (cc : Nat) (cd zn : Int32) (NN : Nat) (h0 : Heap) (n0 : Nat) (v : Option Value) (h : Heap) (L : List Loc) : Prop := v = some (.int (Int32.ofNat cc)) ∧ Fr n0 L ∧ h = h0
theorem o_asl (l : Launch) (Z : State) (a0 : Array Value) (hw : ∀ d ∈ tables_1, d.before a0 Z = true) (ws : List Jvm.Cond) (x1 ab : Addr) (kb : ClassId) (us : List Value) (cc : Nat) (cd zn : Int32) (NN : Nat) (h0 : Heap) (n0 : Nat) (Z0 : n0 ≤ h0.size) (hS : o_SB Z h0 n0 x1 ab kb us cc cd zn NN) :
    o_MF l o_N51 oY52 1 (some .int) ws o_R2 #[(.ref x1)] Z h0 (Q_o_asl Z x1 ab kb us cc cd zn NN h0 n0) := by
  refine o_start (C := "java/lang/AbstractStringBuilder") rfl (plainFor_of_name o_pn_o_ai) fun p e s m below meth c s1 F0 Bd hx hby hml hown hnm hZ X0 e0 hF0 => ?_
  have N0 := Fr.nil n0
  have pre0 : Goes p e below s1 F0 s1 (mkF m 0 #[oR x1] []) := fun t k => castTop (hF0.trans (by simp [entryFrame, mkF, argsToLocals, Value.category])) k
  obtain ⟨E_x1, F_value, F_coder, F_count, F_maybeLatin1, V_ab, hlu, nxa, g_x1, g_ab⟩ := (id (hS))
  obtain ⟨T1, X1, e1, st1⟩ := getF X0 hx hZ hown (host := "") (Or.inl (oV hw 90 rfl)) Via.refl e0 F_count (g := (mkF m 1 #[oR x1] [(.ref x1)])) rfl rfl (hb hby D51_1)
  have pre2 : Goes p e below s1 F0 T1 (mkF m 4 #[oR x1] [(.int (Int32.ofNat cc))]) := fun t kt => pre0 t (by
    refine o_al X0 hx hby D51_0 rfl ?_
    exact st1 t kt)
  refine o_eI X1 Bd hx pre2 (hb hby D51_4) e1 ?_
  exact ⟨rfl, N0, rfl⟩
theorem D52_0 : decode oY45 0 = .ok (.aload_n 0, 1) := by decide +kernel
theorem D52_1 : decode oY45 1 = .ok (.invokespecial 343, 3) := by decide +kernel
theorem D52_4 : decode oY45 4 = .ok (.ireturn, 1) := by decide +kernel
def Q_o_bl (Z : State) (x1 ab : Addr) (kb : ClassId) (us : List Value) (cc : Nat) (cd zn : Int32) (NN : Nat) (h0 : Heap) (n0 : Nat) (v : Option Value) (h : Heap) (L : List Loc) : Prop := v = some (.int (Int32.ofNat cc)) ∧ Fr n0 L ∧ h = h0
theorem o_bl (l : Launch) (Z : State) (a0 : Array Value) (hw : ∀ d ∈ tables_1, d.before a0 Z = true) (ws : List Jvm.Cond) (x1 ab : Addr) (kb : ClassId) (us : List Value) (cc : Nat) (cd zn : Int32) (NN : Nat) (h0 : Heap) (n0 : Nat) (Z0 : n0 ≤ h0.size) (hS : o_SB Z h0 n0 x1 ab kb us cc cd zn NN) :
    o_MF l o_N52 oY45 1 (some .int) ws o_R23 #[(.ref x1)] Z h0 (Q_o_bl Z x1 ab kb us cc cd zn NN h0 n0) := by
  refine o_start (C := "java/lang/StringBuilder") rfl (plainFor_of_name o_pn_o_bi) fun p e s m below meth c s1 F0 Bd hx hby hml hown hnm hZ X0 e0 hF0 => ?_
  have N0 := Fr.nil n0
  have pre0 : Goes p e below s1 F0 s1 (mkF m 0 #[oR x1] []) := fun t k => castTop (hF0.trans (by simp [entryFrame, mkF, argsToLocals, Value.category])) k
  obtain ⟨E_x1, F_value, F_coder, F_count, F_maybeLatin1, V_ab, hlu, nxa, g_x1, g_ab⟩ := (id (hS))
  obtain ⟨_, T1, L1, X1, hQ1, st1⟩ := o_cU (y := o_N51) (y2 := o_N24) (b := x1) (g := (mkF m 1 #[oR x1] [(.ref x1)])) (as := []) (rest := []) 0 X0 hx hZ hml hown (oV hw 165 rfl) (oV hw 95 rfl) (oV hw 161 rfl) (oV hw 77 rfl) (oV hw 166 rfl) (oV hw 62 rfl) (o_asl l Z a0 hw [] x1 ab kb us cc cd zn NN h0 n0 Z0 hS) e0 E_x1 o_pd18 (hb hby D52_1)
  obtain ⟨rfl, N1q, e1⟩ := hQ1
  have N1 := Fr.app N0 N1q
  have pre2 : Goes p e below s1 F0 T1 (mkF m 4 #[oR x1] [(.int (Int32.ofNat cc))]) := fun t kt => pre0 t (by
    refine o_al X0 hx hby D52_0 rfl ?_
    exact st1 t kt)
  refine o_eI X1 Bd hx pre2 (hb hby D52_4) e1 ?_
  exact ⟨rfl, N1, rfl⟩
theorem D53_0 : decode oY10 0 = .ok (.aload_n 0, 1) := by decide +kernel
theorem D53_1 : decode oY10 1 = .ok (.invokespecial 1, 3) := by decide +kernel
theorem D53_4 : decode oY10 4 = .ok (.aload_n 1, 1) := by decide +kernel
theorem D53_5 : decode oY10 5 = .ok (.invokevirtual 552, 3) := by decide +kernel
theorem D53_8 : decode oY10 8 = .ok (.astore_n 3, 1) := by decide +kernel
theorem D53_9 : decode oY10 9 = .ok (.aload_n 1, 1) := by decide +kernel
theorem D53_10 : decode oY10 10 = .ok (.invokevirtual 549, 3) := by decide +kernel
theorem D53_13 : decode oY10 13 = .ok (.istore 4, 2) := by decide +kernel
theorem D53_15 : decode oY10 15 = .ok (.aload_n 1, 1) := by decide +kernel
theorem D53_16 : decode oY10 16 = .ok (.invokevirtual 1047, 3) := by decide +kernel
theorem D53_19 : decode oY10 19 = .ok (.ifCond .eq 22, 3) := by decide +kernel
theorem D53_22 : decode oY10 22 = .ok (.aload_n 0, 1) := by decide +kernel
theorem D53_23 : decode oY10 23 = .ok (.iconst 0, 1) := by decide +kernel
theorem D53_24 : decode oY10 24 = .ok (.putfield 15, 3) := by decide +kernel
theorem D53_27 : decode oY10 27 = .ok (.aload_n 0, 1) := by decide +kernel
theorem D53_28 : decode oY10 28 = .ok (.aload_n 3, 1) := by decide +kernel
theorem D53_29 : decode oY10 29 = .ok (.iconst 0, 1) := by decide +kernel
theorem D53_30 : decode oY10 30 = .ok (.iload 4, 2) := by decide +kernel
theorem D53_32 : decode oY10 32 = .ok (.invokestatic 54, 3) := by decide +kernel
theorem D53_35 : decode oY10 35 = .ok (.putfield 9, 3) := by decide +kernel
theorem D53_38 : decode oY10 38 = .ok (.goto 59, 3) := by decide +kernel
theorem D53_97 : decode oY10 97 = .ok (.return_, 1) := by decide +kernel
def Q_o_si20 (Z : State) (a1 x1 ab : Addr) (kb : ClassId) (us : List Value) (cc : Nat) (uv uc : Value) (cs : Int32) (fm : Value) (h0 : Heap) (n0 : Nat) (v : Option Value) (h : Heap) (L : List Loc) : Prop := v = none ∧ Fr n0 L ∧ Keep h0 h [a1] ∧ Exa Z h a1 "java/lang/String" ∧ ∃ (y : Addr) (ky : ClassId), h0.size ≤ y ∧ Fld Z h a1 "java/lang/String" "coder" "B" (.int 0) ∧ Fld Z h a1 "java/lang/String" "value" "[B" (.ref y) ∧ Arv Z h y ky .byte (Int32.ofNat cc) (us.take cc) (.int 0)
theorem o_si20 (l : Launch) (Z : State) (a0 : Array Value) (hw : ∀ d ∈ tables_1, d.before a0 Z = true) (ws : List Jvm.Cond) (a1 x1 ab : Addr) (kb : ClassId) (us : List Value) (cc : Nat) (uv uc : Value) (cs : Int32) (fm : Value) (h0 : Heap) (n0 : Nat) (Z0 : n0 ≤ h0.size) (hS : o_SB Z h0 n0 x1 ab kb us cc (0 : Int32) (16 : Int32) 16) (E_a1 : Exa Z h0 a1 "java/lang/String") (Fv : Fld Z h0 a1 "java/lang/String" "value" "[B" uv) (Fc : Fld Z h0 a1 "java/lang/String" "coder" "B" uc) (g_a1 : n0 ≤ a1) (nax : a1 ≠ x1) (naa : a1 ≠ ab) (hcc : cc < 16) (hst : o_ST Z cs fm) (O0 : Old Z n0 h0) :
    o_MF l o_N53 oY10 5 none ws o_R50 #[(.ref a1), (.ref x1), .null] Z h0 (Q_o_si20 Z a1 x1 ab kb us cc uv uc cs fm h0 n0) := by
  refine o_start (C := "java/lang/String") rfl (plainFor_of_name o_pn_o_sI0) fun p e s m below meth c s1 F0 Bd hx hby hml hown hnm hZ X0 e0 hF0 => ?_
  have N0 := Fr.nil n0
  have pre0 : Goes p e below s1 F0 s1 (mkF m 0 #[oR a1, oR x1, .val .null, oU, oU] []) := fun t k => castTop (hF0.trans (by simp [entryFrame, mkF, argsToLocals, Value.category])) k
  obtain ⟨E_x1, F_value, F_coder, F_count, F_maybeLatin1, V_ab, hlu, nxa, g_x1, g_ab⟩ := (id (hS))
  obtain ⟨T1, X1, e1, st1⟩ := initO X0 hx hZ hown (oV hw 12 rfl) (oV hw 13 rfl) (oV hw 14 rfl) e0 (g := (mkF m 1 #[oR a1, oR x1, .val .null, oU, oU] [(.ref a1)])) rfl (by rw [hml]; rfl) rfl (hb hby D53_1) (by decide) (W := 0) (by show 2 * 0 + _ ≤ _; exact Nat.le_of_eq rfl) (by decide)
  have pre2 : Goes p e below s1 F0 T1 (mkF m 4 #[oR a1, oR x1, .val .null, oU, oU] []) := fun t kt => pre0 t (by
    refine o_al X0 hx hby D53_0 rfl ?_
    exact st1 t kt)
  obtain ⟨_, T3, L3, X3, hQ3, st3⟩ := o_cW (y := o_N50) (b := x1) (g := (mkF m 5 #[oR a1, oR x1, .val .null, oU, oU] [(.ref x1)])) (as := []) (rest := []) 0 X1 hx hZ hml hown (oV hw 154 rfl) (oV hw 157 rfl) (oV hw 156 rfl) (oV hw 158 rfl) (oV hw 62 rfl) (o_gv l Z a0 hw [] x1 ab kb us cc (0 : Int32) (16 : Int32) 16 h0 n0 Z0 hS) e1 E_x1 o_pd31 (hb hby D53_5)
  obtain ⟨rfl, N3q, e3⟩ := hQ3
  have N3 := Fr.app N0 N3q
  have pre4 : Goes p e below s1 F0 T3 (mkF m 8 #[oR a1, oR x1, .val .null, oU, oU] [(.ref ab)]) := fun t kt => pre2 t (by
    refine o_al X1 hx hby D53_4 rfl ?_
    exact st3 t kt)
  obtain ⟨_, T5, L5, X5, hQ5, st5⟩ := o_cV (y := o_N51) (z := o_N52) (b := x1) (g := (mkF m 10 #[oR a1, oR x1, .val .null, oR ab, oU] [(.ref x1)])) (as := []) (rest := []) 0 X3 hx hZ hml hown (oV hw 159 rfl) (oV hw 160 rfl) (o_nfx (y := o_N51) (y2 := o_N24) (args := #[]) rfl (oW hw hZ 95 rfl)) (oV hw 162 rfl) (oV hw 163 rfl) (oV hw 164 rfl) (oV hw 54 rfl) (o_bl l Z a0 hw [] x1 ab kb us cc (0 : Int32) (16 : Int32) 16 h0 n0 Z0 hS) e3 E_x1 o_pd18 (hb hby D53_10)
  obtain ⟨rfl, N5q, e5⟩ := hQ5
  have N5 := Fr.app N3 N5q
  have pre6 : Goes p e below s1 F0 T5 (mkF m 13 #[oR a1, oR x1, .val .null, oR ab, oU] [(.int (Int32.ofNat cc))]) := fun t kt => pre4 t (by
    refine XS.astoreN X3.here hx rfl (hb hby D53_8) rfl rfl (l' := #[oR a1, oR x1, .val .null, oR ab, oU]) rfl ?_
    refine o_al X3 hx hby D53_9 rfl ?_
    exact st5 t kt)
  obtain ⟨_, T7, L7, X7, hQ7, st7⟩ := o_cW (y := o_N30) (b := x1) (g := (mkF m 16 #[oR a1, oR x1, .val .null, oR ab, oI (Int32.ofNat cc)] [(.ref x1)])) (as := []) (rest := []) 0 X5 hx hZ hml hown (oV hw 167 rfl) (oV hw 136 rfl) (oV hw 135 rfl) (oV hw 137 rfl) (oV hw 62 rfl) (o_isl0 l Z a0 hw [] x1 ab kb us cc cs fm h0 n0 Z0 hS hst O0) e5 E_x1 o_pd13 (hb hby D53_16)
  obtain ⟨rfl, N7q, e7⟩ := hQ7
  have N7 := Fr.app N5 N7q
  have pre8 : Goes p e below s1 F0 T7 (mkF m 19 #[oR a1, oR x1, .val .null, oR ab, oI (Int32.ofNat cc)] [(.int 1)]) := fun t kt => pre6 t (by
    refine XS.istore X5.here hx rfl (hb hby D53_13) rfl (l' := #[oR a1, oR x1, .val .null, oR ab, oI (Int32.ofNat cc)]) rfl ?_
    refine o_al X5 hx hby D53_15 rfl ?_
    exact st7 t kt)
  obtain ⟨T9, h9, X9, e9, W9, st9⟩ := putFN X7 hx hZ hown (oV hw 27 rfl) Via.refl e7 Fc E_a1 (Or.inr ⟨(oV hw 28 rfl), rfl, hnm⟩) (oV hw 3 rfl) (ty := .byte) (v' := (.int 0)) (by decide) rfl rfl (g := (mkF m 24 #[oR a1, oR x1, .val .null, oR ab, oI (Int32.ofNat cc)] [(.int 0), (.ref a1)])) rfl rfl (hb hby D53_24)
  have Fw9 := Fc.same W9
  have K9 : Keep h0 h9 [a1] := (Keep.refl h0 [a1]).wr W9 (Or.inl (o_mG (i := 0) rfl))
  have N9 := Fr.snoc X9 N7 g_a1
  have pre10 : Goes p e below s1 F0 T9 (mkF m 27 #[oR a1, oR x1, .val .null, oR ab, oI (Int32.ofNat cc)] []) := fun t kt => pre8 t (by
    refine o_ifN X7 hx hby D53_19 ((if0 _ _).trans (feq (by decide : ¬ ((1 : Int32) = (0 : Int32)))).1) ?_
    refine o_al X7 hx hby D53_22 rfl ?_
    refine o_ic X7 hx hby D53_23 ?_
    exact st9 t kt)
  obtain ⟨_, T11, L11, X11, hQ11, st11⟩ := o_cS (y := o_N49) (g := (mkF m 32 #[oR a1, oR x1, .val .null, oR ab, oI (Int32.ofNat cc)] [(.int (Int32.ofNat cc)), (.int 0), (.ref ab), (.ref a1)])) (as := [(.ref ab), (.int 0), (.int (Int32.ofNat cc))]) (rest := [(.ref a1)]) 1 X9 hx hZ hml hown (oV hw 168 rfl) (oV hw 169 rfl) (oV hw 170 rfl) (oV hw 171 rfl) (o_cor l Z a0 hw [] ab kb us cc 16 h9 n0 (Nat.le_trans Z0 K9.1) (V_ab.other W9 (Ne.symm naa)) hlu (by omega) (by decide)) e9 o_pd30 (hb hby D53_32)
  obtain ⟨yy11, ky11, rfl, N11q, K11q, zy11, gy11, Vy11⟩ := hQ11
  have N11 := Fr.app N9 N11q
  have KC11 : Keep h0 T11.heap [a1] := K9.trans K11q all0
  have pre12 : Goes p e below s1 F0 T11 (mkF m 35 #[oR a1, oR x1, .val .null, oR ab, oI (Int32.ofNat cc)] [(.ref yy11), (.ref a1)]) := fun t kt => pre10 t (by
    refine o_al X9 hx hby D53_27 rfl ?_
    refine o_al X9 hx hby D53_28 rfl ?_
    refine o_ic X9 hx hby D53_29 ?_
    refine o_iL X9 hx hby D53_30 rfl ?_
    exact st11 t kt)
  have nya1 : yy11 ≠ a1 := Ne.symm (Nat.ne_of_lt (Nat.lt_of_lt_of_le (E_a1.wr W9).lt zy11))
  have sz_yy11 : h0.size ≤ yy11 := Nat.le_trans K9.1 zy11
  obtain ⟨T13, h13, X13, e13, W13, st13⟩ := putF X11 hx hZ hown (host := "") (Or.inl (oV hw 29 rfl)) Via.refl rfl ((Fv.other W9 (Or.inr (slot_ne (Or.inr (oV hw 30 rfl)) (Or.inr (oV hw 28 rfl)) (by decide) (t := (.array .byte)) (t' := .byte) (by decide) (by decide)))).keep K11q nin0) ((E_a1.wr W9).keep K11q) (Or.inr ⟨(oV hw 30 rfl), rfl, hnm⟩) (oV hw 3 rfl) (ty := (.array .byte)) (by decide) rfl rfl (g := (mkF m 35 #[oR a1, oR x1, .val .null, oR ab, oI (Int32.ofNat cc)] [(.ref yy11), (.ref a1)])) rfl rfl (hb hby D53_35)
  have Fw13 := ((Fv.other W9 (Or.inr (slot_ne (Or.inr (oV hw 30 rfl)) (Or.inr (oV hw 28 rfl)) (by decide) (t := (.array .byte)) (t' := .byte) (by decide) (by decide)))).keep K11q nin0).same W13
  have K13 : Keep h0 h13 [a1] := KC11.wr W13 (Or.inl (o_mG (i := 0) rfl))
  have N13 := Fr.snoc X13 N11 g_a1
  have pre14 : Goes p e below s1 F0 T13 (mkF m 38 #[oR a1, oR x1, .val .null, oR ab, oI (Int32.ofNat cc)] []) := fun t kt => pre12 t (st13 t kt)
  have pre15 : Goes p e below s1 F0 T13 (mkF m 97 #[oR a1, oR x1, .val .null, oR ab, oI (Int32.ofNat cc)] []) := fun t kt => pre14 t (by
    refine o_gt 38 97 X13 hx hby D53_38 ?_
    exact kt)
  refine o_eV X13 Bd hx pre15 (hb hby D53_97) e13 ?_
  exact ⟨rfl, N13, K13, (((E_a1.wr W9).keep K11q).wr W13), yy11, ky11, sz_yy11, ((Fw9.keep K11q nin0).other W13 (Or.inr (slot_ne (Or.inr (oV hw 28 rfl)) (Or.inr (oV hw 30 rfl)) (by decide) (t := .byte) (t' := (.array .byte)) (by decide) (by decide)))), Fw13, (Vy11.other W13 nya1)⟩
theorem D54_0 : decode oY17 0 = .ok (.aload_n 0, 1) := by decide +kernel
theorem D54_1 : decode oY17 1 = .ok (.aload_n 1, 1) := by decide +kernel
theorem D54_2 : decode oY17 2 = .ok (.aconst_null, 1) := by decide +kernel
theorem D54_3 : decode oY17 3 = .ok (.invokespecial 489, 3) := by decide +kernel
theorem D54_6 : decode oY17 6 = .ok (.return_, 1) := by decide +kernel
def Q_o_si30 (Z : State) (a1 x1 ab : Addr) (kb : ClassId) (us : List Value) (cc : Nat) (uv uc : Value) (cs : Int32) (fm : Value) (h0 : Heap) (n0 : Nat) (v : Option Value) (h : Heap) (L : List Loc) : Prop := v = none ∧ Fr n0 L ∧ Keep h0 h [a1] ∧ Exa Z h a1 "java/lang/String" ∧ ∃ (y : Addr) (ky : ClassId), h0.size ≤ y ∧ Fld Z h a1 "java/lang/String" "coder" "B" (.int 0) ∧ Fld Z h a1 "java/lang/String" "value" "[B" (.ref y) ∧ Arv Z h y ky .byte (Int32.ofNat cc) (us.take cc) (.int 0)
theorem o_si30 (l : Launch) (Z : State) (a0 : Array Value) (hw : ∀ d ∈ tables_1, d.before a0 Z = true) (ws : List Jvm.Cond) (a1 x1 ab : Addr) (kb : ClassId) (us : List Value) (cc : Nat) (uv uc : Value) (cs : Int32) (fm : Value) (h0 : Heap) (n0 : Nat) (Z0 : n0 ≤ h0.size) (hS : o_SB Z h0 n0 x1 ab kb us cc (0 : Int32) (16 : Int32) 16) (E_a1 : Exa Z h0 a1 "java/lang/String") (Fv : Fld Z h0 a1 "java/lang/String" "value" "[B" uv) (Fc : Fld Z h0 a1 "java/lang/String" "coder" "B" uc) (g_a1 : n0 ≤ a1) (nax : a1 ≠ x1) (naa : a1 ≠ ab) (hcc : cc < 16) (hst : o_ST Z cs fm) (O0 : Old Z n0 h0) :
    o_MF l o_N54 oY17 2 none ws o_R51 #[(.ref a1), (.ref x1)] Z h0 (Q_o_si30 Z a1 x1 ab kb us cc uv uc cs fm h0 n0) := by
  refine o_start (C := "java/lang/String") rfl (plainFor_of_name o_pn_o_sI0) fun p e s m below meth c s1 F0 Bd hx hby hml hown hnm hZ X0 e0 hF0 => ?_
  have N0 := Fr.nil n0
  have pre0 : Goes p e below s1 F0 s1 (mkF m 0 #[oR a1, oR x1] []) := fun t k => castTop (hF0.trans (by simp [entryFrame, mkF, argsToLocals, Value.category])) k
  obtain ⟨_, T1, L1, X1, hQ1, st1⟩ := o_cI (y := o_N53) (b := a1) (g := (mkF m 3 #[oR a1, oR x1] [.null, (.ref x1), (.ref a1)])) (as := [(.ref x1), .null]) (rest := []) 0 X0 hx hZ hml hown (oV hw 151 rfl) (oV hw 152 rfl) (oV hw 153 rfl) (oV hw 4 rfl) (o_si20 l Z a0 hw [] a1 x1 ab kb us cc uv uc cs fm h0 n0 Z0 hS E_a1 Fv Fc g_a1 nax naa hcc hst O0) e0 o_pd32 (hb hby D54_3)
  obtain ⟨rfl, N1q, K1q, Rest1⟩ := hQ1
  have N1 := Fr.app N0 N1q
  have KC1 : Keep h0 T1.heap [a1] := (Keep.refl h0 [a1]).trans K1q (allS (Or.inl (o_mG (i := 0) rfl)) all0)
  have pre2 : Goes p e below s1 F0 T1 (mkF m 6 #[oR a1, oR x1] []) := fun t kt => pre0 t (by
    refine o_al X0 hx hby D54_0 rfl ?_
    refine o_al X0 hx hby D54_1 rfl ?_
    refine XS.aconstNull X0.here hx rfl (hb hby D54_2) ?_
    exact st1 t kt)
  refine o_eV X1 Bd hx pre2 (hb hby D54_6) rfl ?_
  exact ⟨rfl, N1, KC1, Rest1⟩
theorem D55_0 : decode oY43 0 = .ok (.new 18, 3) := by decide +kernel
theorem D55_3 : decode oY43 3 = .ok (.dup, 1) := by decide +kernel
theorem D55_4 : decode oY43 4 = .ok (.aload_n 0, 1) := by decide +kernel
theorem D55_5 : decode oY43 5 = .ok (.invokespecial 137, 3) := by decide +kernel
theorem D55_8 : decode oY43 8 = .ok (.areturn, 1) := by decide +kernel
def Q_o_ts0 (Z : State) (x1 ab : Addr) (kb : ClassId) (us : List Value) (cc : Nat) (cs : Int32) (fm : Value) (h0 : Heap) (n0 : Nat) (v : Option Value) (h : Heap) (L : List Loc) : Prop := ∃ (a2 y : Addr) (ky : ClassId), v = some (.ref a2) ∧ Fr n0 L ∧ Keep h0 h [] ∧ h0.size ≤ a2 ∧ Exa Z h a2 "java/lang/String" ∧ Fld Z h a2 "java/lang/String" "coder" "B" (.int 0) ∧ Fld Z h a2 "java/lang/String" "value" "[B" (.ref y) ∧ Arv Z h y ky .byte (Int32.ofNat cc) (us.take cc) (.int 0)
theorem o_ts0 (l : Launch) (Z : State) (a0 : Array Value) (hw : ∀ d ∈ tables_1, d.before a0 Z = true) (ws : List Jvm.Cond) (x1 ab : Addr) (kb : ClassId) (us : List Value) (cc : Nat) (cs : Int32) (fm : Value) (h0 : Heap) (n0 : Nat) (Z0 : n0 ≤ h0.size) (hS : o_SB Z h0 n0 x1 ab kb us cc (0 : Int32) (16 : Int32) 16) (hcc : cc < 16) (hst : o_ST Z cs fm) (O0 : Old Z n0 h0) :
    o_MF l o_N55 oY43 1 (some (.object "java/lang/String")) ws o_R52 #[(.ref x1)] Z h0 (Q_o_ts0 Z x1 ab kb us cc cs fm h0 n0) := by
  refine o_start (C := "java/lang/StringBuilder") rfl (plainFor_of_name o_pn_o_bi) fun p e s m below meth c s1 F0 Bd hx hby hml hown hnm hZ X0 e0 hF0 => ?_
  have N0 := Fr.nil n0
  have pre0 : Goes p e below s1 F0 s1 (mkF m 0 #[oR x1] []) := fun t k => castTop (hF0.trans (by simp [entryFrame, mkF, argsToLocals, Value.category])) k
  obtain ⟨E_x1, F_value, F_coder, F_count, F_maybeLatin1, V_ab, hlu, nxa, g_x1, g_ab⟩ := (id (hS))
  obtain ⟨T1, h1, X1, e1, E1, A1, DD1, -, st1⟩ := newO X0 hx hZ hown (oV hw 147 rfl) (oV hw 3 rfl) (oV hw 4 rfl) e0 (g := (mkF m 0 #[oR x1] [])) rfl (hb hby D55_0) (by decide) (by decide)
  obtain ⟨b1, g1⟩ : ∃ z, z = h0.size := ⟨_, rfl⟩
  rw [← g1] at A1 DD1 st1
  have F_coder_b1 : Fld Z h1 b1 "java/lang/String" "coder" "B" (.int 0) := DD1 (Or.inr (oV hw 28 rfl)) (ty := .byte) (by decide)
  have F_value_b1 : Fld Z h1 b1 "java/lang/String" "value" "[B" .null := DD1 (Or.inr (oV hw 30 rfl)) (ty := (.array .byte)) (by decide)
  have g_b1 : n0 ≤ b1 := Nat.le_trans Z0 (Nat.le_of_eq g1.symm)
  have sz_b1 : h0.size ≤ b1 := (Nat.le_trans (Keep.refl h0 []).1 (Nat.le_of_eq g1.symm))
  have K1 : Keep h0 h1 [] := (Keep.refl h0 []).ext E1
  have pre2 : Goes p e below s1 F0 T1 (mkF m 3 #[oR x1] [(.ref b1)]) := fun t kt => pre0 t (st1 t kt)
  obtain ⟨_, T3, L3, X3, hQ3, st3⟩ := o_cI (y := o_N54) (b := b1) (g := (mkF m 5 #[oR x1] [(.ref x1), (.ref b1), (.ref b1)])) (as := [(.ref x1)]) (rest := [(.ref b1)]) 1 X1 hx hZ hml hown (oV hw 148 rfl) (oV hw 149 rfl) (oV hw 150 rfl) (oV hw 4 rfl) (o_si30 l Z a0 hw [] b1 x1 ab kb us cc _ _ cs fm h1 n0 (Nat.le_trans Z0 K1.1) (o_SB.ext hS E1) A1 F_value_b1 F_coder_b1 g_b1 (Ne.symm (Nat.ne_of_lt (Nat.lt_of_lt_of_le E_x1.lt (Nat.le_of_eq g1.symm)))) (Ne.symm (Nat.ne_of_lt (Nat.lt_of_lt_of_le V_ab.lt (Nat.le_of_eq g1.symm)))) hcc hst (O0.ext E1)) e1 o_pd33 (hb hby D55_5)
  obtain ⟨rfl, N3q, K3q, Es3, y3q, ky3, zy3, Fc3, Fv3, Vy3⟩ := hQ3
  have N3 := Fr.app N0 N3q
  have KC3 : Keep h0 T3.heap [] := K1.trans K3q (allS (Or.inr sz_b1) all0)
  have pre4 : Goes p e below s1 F0 T3 (mkF m 8 #[oR x1] [(.ref b1)]) := fun t kt => pre2 t (by
    refine XS.dup X1.here hx rfl (hb hby D55_3) rfl rfl ?_
    refine o_al X1 hx hby D55_4 rfl ?_
    exact st3 t kt)
  refine o_eR X3 Bd hx pre4 (hb hby D55_8) rfl ?_
  exact ⟨b1, _, _, rfl, N3, KC3, sz_b1, Es3, Fc3, Fv3, Vy3⟩
theorem D53_41 : decode oY10 41 = .ok (.getstatic 38, 3) := by decide +kernel
theorem D53_44 : decode oY10 44 = .ok (.ifCond .eq 35, 3) := by decide +kernel
theorem D53_47 : decode oY10 47 = .ok (.aload_n 1, 1) := by decide +kernel
theorem D53_48 : decode oY10 48 = .ok (.getfield 1048, 3) := by decide +kernel
theorem D53_51 : decode oY10 51 = .ok (.ifCond .eq 28, 3) := by decide +kernel
theorem D53_79 : decode oY10 79 = .ok (.aload_n 0, 1) := by decide +kernel
theorem D53_80 : decode oY10 80 = .ok (.iconst 1, 1) := by decide +kernel
theorem D53_81 : decode oY10 81 = .ok (.putfield 15, 3) := by decide +kernel
theorem D53_84 : decode oY10 84 = .ok (.aload_n 0, 1) := by decide +kernel
theorem D53_85 : decode oY10 85 = .ok (.aload_n 3, 1) := by decide +kernel
theorem D53_86 : decode oY10 86 = .ok (.iconst 0, 1) := by decide +kernel
theorem D53_87 : decode oY10 87 = .ok (.iload 4, 2) := by decide +kernel
theorem D53_89 : decode oY10 89 = .ok (.iconst 1, 1) := by decide +kernel
theorem D53_90 : decode oY10 90 = .ok (.ishl, 1) := by decide +kernel
theorem D53_91 : decode oY10 91 = .ok (.invokestatic 54, 3) := by decide +kernel
theorem D53_94 : decode oY10 94 = .ok (.putfield 9, 3) := by decide +kernel
def Q_o_si21 (Z : State) (a1 x1 ab : Addr) (kb : ClassId) (us : List Value) (cc : Nat) (uv uc : Value) (cs : Int32) (fm : Value) (h0 : Heap) (n0 : Nat) (v : Option Value) (h : Heap) (L : List Loc) : Prop := v = none ∧ Fr n0 L ∧ Keep h0 h [a1] ∧ Exa Z h a1 "java/lang/String" ∧ ∃ (y : Addr) (ky : ClassId), h0.size ≤ y ∧ Fld Z h a1 "java/lang/String" "coder" "B" (.int 1) ∧ Fld Z h a1 "java/lang/String" "value" "[B" (.ref y) ∧ Arv Z h y ky .byte (Int32.ofNat (2 * cc)) (us.take (2 * cc)) (.int 0)
theorem o_si21 (l : Launch) (Z : State) (a0 : Array Value) (hw : ∀ d ∈ tables_1, d.before a0 Z = true) (ws : List Jvm.Cond) (a1 x1 ab : Addr) (kb : ClassId) (us : List Value) (cc : Nat) (uv uc : Value) (cs : Int32) (fm : Value) (h0 : Heap) (n0 : Nat) (Z0 : n0 ≤ h0.size) (hS : o_SB Z h0 n0 x1 ab kb us cc (1 : Int32) (32 : Int32) 32) (E_a1 : Exa Z h0 a1 "java/lang/String") (Fv : Fld Z h0 a1 "java/lang/String" "value" "[B" uv) (Fc : Fld Z h0 a1 "java/lang/String" "coder" "B" uc) (g_a1 : n0 ≤ a1) (nax : a1 ≠ x1) (naa : a1 ≠ ab) (hcc : cc < 16) (hst : o_ST Z cs fm) (O0 : Old Z n0 h0) :
    o_MF l o_N53 oY10 5 none ws o_R50 #[(.ref a1), (.ref x1), .null] Z h0 (Q_o_si21 Z a1 x1 ab kb us cc uv uc cs fm h0 n0) := by
  refine o_start (C := "java/lang/String") rfl (plainFor_of_name o_pn_o_sI0) fun p e s m below meth c s1 F0 Bd hx hby hml hown hnm hZ X0 e0 hF0 => ?_
  have N0 := Fr.nil n0
  have pre0 : Goes p e below s1 F0 s1 (mkF m 0 #[oR a1, oR x1, .val .null, oU, oU] []) := fun t k => castTop (hF0.trans (by simp [entryFrame, mkF, argsToLocals, Value.category])) k
  obtain ⟨E_x1, F_value, F_coder, F_count, F_maybeLatin1, V_ab, hlu, nxa, g_x1, g_ab⟩ := (id (hS))
  obtain ⟨T1, X1, e1, st1⟩ := initO X0 hx hZ hown (oV hw 12 rfl) (oV hw 13 rfl) (oV hw 14 rfl) e0 (g := (mkF m 1 #[oR a1, oR x1, .val .null, oU, oU] [(.ref a1)])) rfl (by rw [hml]; rfl) rfl (hb hby D53_1) (by decide) (W := 0) (by show 2 * 0 + _ ≤ _; exact Nat.le_of_eq rfl) (by decide)
  have pre2 : Goes p e below s1 F0 T1 (mkF m 4 #[oR a1, oR x1, .val .null, oU, oU] []) := fun t kt => pre0 t (by
    refine o_al X0 hx hby D53_0 rfl ?_
    exact st1 t kt)
  obtain ⟨_, T3, L3, X3, hQ3, st3⟩ := o_cW (y := o_N50) (b := x1) (g := (mkF m 5 #[oR a1, oR x1, .val .null, oU, oU] [(.ref x1)])) (as := []) (rest := []) 0 X1 hx hZ hml hown (oV hw 154 rfl) (oV hw 157 rfl) (oV hw 156 rfl) (oV hw 158 rfl) (oV hw 62 rfl) (o_gv l Z a0 hw [] x1 ab kb us cc (1 : Int32) (32 : Int32) 32 h0 n0 Z0 hS) e1 E_x1 o_pd31 (hb hby D53_5)
  obtain ⟨rfl, N3q, e3⟩ := hQ3
  have N3 := Fr.app N0 N3q
  have pre4 : Goes p e below s1 F0 T3 (mkF m 8 #[oR a1, oR x1, .val .null, oU, oU] [(.ref ab)]) := fun t kt => pre2 t (by
    refine o_al X1 hx hby D53_4 rfl ?_
    exact st3 t kt)
  obtain ⟨_, T5, L5, X5, hQ5, st5⟩ := o_cV (y := o_N51) (z := o_N52) (b := x1) (g := (mkF m 10 #[oR a1, oR x1, .val .null, oR ab, oU] [(.ref x1)])) (as := []) (rest := []) 0 X3 hx hZ hml hown (oV hw 159 rfl) (oV hw 160 rfl) (o_nfx (y := o_N51) (y2 := o_N24) (args := #[]) rfl (oW hw hZ 95 rfl)) (oV hw 162 rfl) (oV hw 163 rfl) (oV hw 164 rfl) (oV hw 54 rfl) (o_bl l Z a0 hw [] x1 ab kb us cc (1 : Int32) (32 : Int32) 32 h0 n0 Z0 hS) e3 E_x1 o_pd18 (hb hby D53_10)
  obtain ⟨rfl, N5q, e5⟩ := hQ5
  have N5 := Fr.app N3 N5q
  have pre6 : Goes p e below s1 F0 T5 (mkF m 13 #[oR a1, oR x1, .val .null, oR ab, oU] [(.int (Int32.ofNat cc))]) := fun t kt => pre4 t (by
    refine XS.astoreN X3.here hx rfl (hb hby D53_8) rfl rfl (l' := #[oR a1, oR x1, .val .null, oR ab, oU]) rfl ?_
    refine o_al X3 hx hby D53_9 rfl ?_
    exact st5 t kt)
  obtain ⟨_, T7, L7, X7, hQ7, st7⟩ := o_cW (y := o_N30) (b := x1) (g := (mkF m 16 #[oR a1, oR x1, .val .null, oR ab, oI (Int32.ofNat cc)] [(.ref x1)])) (as := []) (rest := []) 0 X5 hx hZ hml hown (oV hw 167 rfl) (oV hw 136 rfl) (oV hw 135 rfl) (oV hw 137 rfl) (oV hw 62 rfl) (o_isl1 l Z a0 hw [] x1 ab kb us cc cs fm h0 n0 Z0 hS hst O0) e5 E_x1 o_pd13 (hb hby D53_16)
  obtain ⟨rfl, N7q, e7⟩ := hQ7
  have N7 := Fr.app N5 N7q
  have pre8 : Goes p e below s1 F0 T7 (mkF m 19 #[oR a1, oR x1, .val .null, oR ab, oI (Int32.ofNat cc)] [(.int 0)]) := fun t kt => pre6 t (by
    refine XS.istore X5.here hx rfl (hb hby D53_13) rfl (l' := #[oR a1, oR x1, .val .null, oR ab, oI (Int32.ofNat cc)]) rfl ?_
    refine o_al X5 hx hby D53_15 rfl ?_
    exact st7 t kt)
  obtain ⟨T9, X9, e9, st9⟩ := getS2 X7 hx hZ hown (host := "") (Or.inl (oV hw 15 rfl)) Via.refl e7 (hst.1.ext O0.2) (g := (mkF m 41 #[oR a1, oR x1, .val .null, oR ab, oI (Int32.ofNat cc)] [])) rfl (hb hby D53_41)
  have pre10 : Goes p e below s1 F0 T9 (mkF m 44 #[oR a1, oR x1, .val .null, oR ab, oI (Int32.ofNat cc)] [(.int cs)]) := fun t kt => pre8 t (by
    refine o_ifY 19 41 X7 hx hby D53_19 ((if0 _ _).trans (teq (by decide : (0 : Int32) = (0 : Int32))).1) ?_
    exact st9 t kt)
  obtain ⟨T11, X11, e11, st11⟩ := getF X9 hx hZ hown (host := "") (Or.inl (oV hw 292 rfl)) Via.refl e9 F_maybeLatin1 (g := (mkF m 48 #[oR a1, oR x1, .val .null, oR ab, oI (Int32.ofNat cc)] [(.ref x1)])) rfl rfl (hb hby D53_48)
  have pre12 : Goes p e below s1 F0 T11 (mkF m 51 #[oR a1, oR x1, .val .null, oR ab, oI (Int32.ofNat cc)] [(.int 0)]) := fun t kt => pre10 t (by
    refine o_ifN X9 hx hby D53_44 ((if0 _ _).trans (feq hst.2.1).1) ?_
    refine o_al X9 hx hby D53_47 rfl ?_
    exact st11 t kt)
  obtain ⟨T13, h13, X13, e13, W13, st13⟩ := putFN X11 hx hZ hown (oV hw 27 rfl) Via.refl e11 Fc E_a1 (Or.inr ⟨(oV hw 28 rfl), rfl, hnm⟩) (oV hw 3 rfl) (ty := .byte) (v' := (.int 1)) (by decide) rfl rfl (g := (mkF m 81 #[oR a1, oR x1, .val .null, oR ab, oI (Int32.ofNat cc)] [(.int 1), (.ref a1)])) rfl rfl (hb hby D53_81)
  have Fw13 := Fc.same W13
  have K13 : Keep h0 h13 [a1] := (Keep.refl h0 [a1]).wr W13 (Or.inl (o_mG (i := 0) rfl))
  have N13 := Fr.snoc X13 N7 g_a1
  have pre14 : Goes p e below s1 F0 T13 (mkF m 84 #[oR a1, oR x1, .val .null, oR ab, oI (Int32.ofNat cc)] []) := fun t kt => pre12 t (by
    refine o_ifY 51 79 X11 hx hby D53_51 ((if0 _ _).trans (teq (by decide : (0 : Int32) = (0 : Int32))).1) ?_
    refine o_al X11 hx hby D53_79 rfl ?_
    refine o_ic X11 hx hby D53_80 ?_
    exact st13 t kt)
  have pre15 : Goes p e below s1 F0 T13 (mkF m 91 #[oR a1, oR x1, .val .null, oR ab, oI (Int32.ofNat cc)] [(.int ((Int32.ofNat cc) <<< ((1 : Int32) &&& 31))), (.int 0), (.ref ab), (.ref a1)]) := fun t kt => pre14 t (by
    refine o_al X13 hx hby D53_84 rfl ?_
    refine o_al X13 hx hby D53_85 rfl ?_
    refine o_ic X13 hx hby D53_86 ?_
    refine o_iL X13 hx hby D53_87 rfl ?_
    refine o_ic X13 hx hby D53_89 ?_
    refine XS.ishl X13.here hx rfl (hb hby D53_90) rfl ?_
    exact kt)
  rw [show ((Int32.ofNat cc) <<< ((1 : Int32) &&& 31)) = (Int32.ofNat (2 * cc)) from o_oh1 (by omega)] at pre15
  obtain ⟨_, T16, L16, X16, hQ16, st16⟩ := o_cS (y := o_N49) (g := (mkF m 91 #[oR a1, oR x1, .val .null, oR ab, oI (Int32.ofNat cc)] [(.int (Int32.ofNat (2 * cc))), (.int 0), (.ref ab), (.ref a1)])) (as := [(.ref ab), (.int 0), (.int (Int32.ofNat (2 * cc)))]) (rest := [(.ref a1)]) 1 X13 hx hZ hml hown (oV hw 168 rfl) (oV hw 169 rfl) (oV hw 170 rfl) (oV hw 171 rfl) (o_cor l Z a0 hw [] ab kb us (2 * cc) 32 h13 n0 (Nat.le_trans Z0 K13.1) (V_ab.other W13 (Ne.symm naa)) hlu (by omega) (by decide)) e13 o_pd30 (hb hby D53_91)
  obtain ⟨yy16, ky16, rfl, N16q, K16q, zy16, gy16, Vy16⟩ := hQ16
  have N16 := Fr.app N13 N16q
  have KC16 : Keep h0 T16.heap [a1] := K13.trans K16q all0
  have pre17 : Goes p e below s1 F0 T16 (mkF m 94 #[oR a1, oR x1, .val .null, oR ab, oI (Int32.ofNat cc)] [(.ref yy16), (.ref a1)]) := fun t kt => pre15 t (st16 t kt)
  have nya1 : yy16 ≠ a1 := Ne.symm (Nat.ne_of_lt (Nat.lt_of_lt_of_le (E_a1.wr W13).lt zy16))
  have sz_yy16 : h0.size ≤ yy16 := Nat.le_trans K13.1 zy16
  obtain ⟨T18, h18, X18, e18, W18, st18⟩ := putF X16 hx hZ hown (host := "") (Or.inl (oV hw 29 rfl)) Via.refl rfl ((Fv.other W13 (Or.inr (slot_ne (Or.inr (oV hw 30 rfl)) (Or.inr (oV hw 28 rfl)) (by decide) (t := (.array .byte)) (t' := .byte) (by decide) (by decide)))).keep K16q nin0) ((E_a1.wr W13).keep K16q) (Or.inr ⟨(oV hw 30 rfl), rfl, hnm⟩) (oV hw 3 rfl) (ty := (.array .byte)) (by decide) rfl rfl (g := (mkF m 94 #[oR a1, oR x1, .val .null, oR ab, oI (Int32.ofNat cc)] [(.ref yy16), (.ref a1)])) rfl rfl (hb hby D53_94)
  have Fw18 := ((Fv.other W13 (Or.inr (slot_ne (Or.inr (oV hw 30 rfl)) (Or.inr (oV hw 28 rfl)) (by decide) (t := (.array .byte)) (t' := .byte) (by decide) (by decide)))).keep K16q nin0).same W18
  have K18 : Keep h0 h18 [a1] := KC16.wr W18 (Or.inl (o_mG (i := 0) rfl))
  have N18 := Fr.snoc X18 N16 g_a1
  have pre19 : Goes p e below s1 F0 T18 (mkF m 97 #[oR a1, oR x1, .val .null, oR ab, oI (Int32.ofNat cc)] []) := fun t kt => pre17 t (st18 t kt)
  refine o_eV X18 Bd hx pre19 (hb hby D53_97) e18 ?_
  exact ⟨rfl, N18, K18, (((E_a1.wr W13).keep K16q).wr W18), yy16, ky16, sz_yy16, ((Fw13.keep K16q nin0).other W18 (Or.inr (slot_ne (Or.inr (oV hw 28 rfl)) (Or.inr (oV hw 30 rfl)) (by decide) (t := .byte) (t' := (.array .byte)) (by decide) (by decide)))), Fw18, (Vy16.other W18 nya1)⟩
def Q_o_si31 (Z : State) (a1 x1 ab : Addr) (kb : ClassId) (us : List Value) (cc : Nat) (uv uc : Value) (cs : Int32) (fm : Value) (h0 : Heap) (n0 : Nat) (v : Option Value) (h : Heap) (L : List Loc) : Prop := v = none ∧ Fr n0 L ∧ Keep h0 h [a1] ∧ Exa Z h a1 "java/lang/String" ∧ ∃ (y : Addr) (ky : ClassId), h0.size ≤ y ∧ Fld Z h a1 "java/lang/String" "coder" "B" (.int 1) ∧ Fld Z h a1 "java/lang/String" "value" "[B" (.ref y) ∧ Arv Z h y ky .byte (Int32.ofNat (2 * cc)) (us.take (2 * cc)) (.int 0)
theorem o_si31 (l : Launch) (Z : State) (a0 : Array Value) (hw : ∀ d ∈ tables_1, d.before a0 Z = true) (ws : List Jvm.Cond) (a1 x1 ab : Addr) (kb : ClassId) (us : List Value) (cc : Nat) (uv uc : Value) (cs : Int32) (fm : Value) (h0 : Heap) (n0 : Nat) (Z0 : n0 ≤ h0.size) (hS : o_SB Z h0 n0 x1 ab kb us cc (1 : Int32) (32 : Int32) 32) (E_a1 : Exa Z h0 a1 "java/lang/String") (Fv : Fld Z h0 a1 "java/lang/String" "value" "[B" uv) (Fc : Fld Z h0 a1 "java/lang/String" "coder" "B" uc) (g_a1 : n0 ≤ a1) (nax : a1 ≠ x1) (naa : a1 ≠ ab) (hcc : cc < 16) (hst : o_ST Z cs fm) (O0 : Old Z n0 h0) :
    o_MF l o_N54 oY17 2 none ws o_R51 #[(.ref a1), (.ref x1)] Z h0 (Q_o_si31 Z a1 x1 ab kb us cc uv uc cs fm h0 n0) := by
  refine o_start (C := "java/lang/String") rfl (plainFor_of_name o_pn_o_sI0) fun p e s m below meth c s1 F0 Bd hx hby hml hown hnm hZ X0 e0 hF0 => ?_
  have N0 := Fr.nil n0
  have pre0 : Goes p e below s1 F0 s1 (mkF m 0 #[oR a1, oR x1] []) := fun t k => castTop (hF0.trans (by simp [entryFrame, mkF, argsToLocals, Value.category])) k
  obtain ⟨_, T1, L1, X1, hQ1, st1⟩ := o_cI (y := o_N53) (b := a1) (g := (mkF m 3 #[oR a1, oR x1] [.null, (.ref x1), (.ref a1)])) (as := [(.ref x1), .null]) (rest := []) 0 X0 hx hZ hml hown (oV hw 151 rfl) (oV hw 152 rfl) (oV hw 153 rfl) (oV hw 4 rfl) (o_si21 l Z a0 hw [] a1 x1 ab kb us cc uv uc cs fm h0 n0 Z0 hS E_a1 Fv Fc g_a1 nax naa hcc hst O0) e0 o_pd32 (hb hby D54_3)
  obtain ⟨rfl, N1q, K1q, Rest1⟩ := hQ1
  have N1 := Fr.app N0 N1q
  have KC1 : Keep h0 T1.heap [a1] := (Keep.refl h0 [a1]).trans K1q (allS (Or.inl (o_mG (i := 0) rfl)) all0)
  have pre2 : Goes p e below s1 F0 T1 (mkF m 6 #[oR a1, oR x1] []) := fun t kt => pre0 t (by
    refine o_al X0 hx hby D54_0 rfl ?_
    refine o_al X0 hx hby D54_1 rfl ?_
    refine XS.aconstNull X0.here hx rfl (hb hby D54_2) ?_
    exact st1 t kt)
  refine o_eV X1 Bd hx pre2 (hb hby D54_6) rfl ?_
  exact ⟨rfl, N1, KC1, Rest1⟩
def Q_o_ts1 (Z : State) (x1 ab : Addr) (kb : ClassId) (us : List Value) (cc : Nat) (cs : Int32) (fm : Value) (h0 : Heap) (n0 : Nat) (v : Option Value) (h : Heap) (L : List Loc) : Prop := ∃ (a2 y : Addr) (ky : ClassId), v = some (.ref a2) ∧ Fr n0 L ∧ Keep h0 h [] ∧ h0.size ≤ a2 ∧ Exa Z h a2 "java/lang/String" ∧ Fld Z h a2 "java/lang/String" "coder" "B" (.int 1) ∧ Fld Z h a2 "java/lang/String" "value" "[B" (.ref y) ∧ Arv Z h y ky .byte (Int32.ofNat (2 * cc)) (us.take (2 * cc)) (.int 0)
theorem o_ts1 (l : Launch) (Z : State) (a0 : Array Value) (hw : ∀ d ∈ tables_1, d.before a0 Z = true) (ws : List Jvm.Cond) (x1 ab : Addr) (kb : ClassId) (us : List Value) (cc : Nat) (cs : Int32) (fm : Value) (h0 : Heap) (n0 : Nat) (Z0 : n0 ≤ h0.size) (hS : o_SB Z h0 n0 x1 ab kb us cc (1 : Int32) (32 : Int32) 32) (hcc : cc < 16) (hst : o_ST Z cs fm) (O0 : Old Z n0 h0) :
    o_MF l o_N55 oY43 1 (some (.object "java/lang/String")) ws o_R52 #[(.ref x1)] Z h0 (Q_o_ts1 Z x1 ab kb us cc cs fm h0 n0) := by
  refine o_start (C := "java/lang/StringBuilder") rfl (plainFor_of_name o_pn_o_bi) fun p e s m below meth c s1 F0 Bd hx hby hml hown hnm hZ X0 e0 hF0 => ?_
  have N0 := Fr.nil n0
  have pre0 : Goes p e below s1 F0 s1 (mkF m 0 #[oR x1] []) := fun t k => castTop (hF0.trans (by simp [entryFrame, mkF, argsToLocals, Value.category])) k
  obtain ⟨E_x1, F_value, F_coder, F_count, F_maybeLatin1, V_ab, hlu, nxa, g_x1, g_ab⟩ := (id (hS))
  obtain ⟨T1, h1, X1, e1, E1, A1, DD1, -, st1⟩ := newO X0 hx hZ hown (oV hw 147 rfl) (oV hw 3 rfl) (oV hw 4 rfl) e0 (g := (mkF m 0 #[oR x1] [])) rfl (hb hby D55_0) (by decide) (by decide)
  obtain ⟨b1, g1⟩ : ∃ z, z = h0.size := ⟨_, rfl⟩
  rw [← g1] at A1 DD1 st1
  have F_coder_b1 : Fld Z h1 b1 "java/lang/String" "coder" "B" (.int 0) := DD1 (Or.inr (oV hw 28 rfl)) (ty := .byte) (by decide)
  have F_value_b1 : Fld Z h1 b1 "java/lang/String" "value" "[B" .null := DD1 (Or.inr (oV hw 30 rfl)) (ty := (.array .byte)) (by decide)
  have g_b1 : n0 ≤ b1 := Nat.le_trans Z0 (Nat.le_of_eq g1.symm)
  have sz_b1 : h0.size ≤ b1 := (Nat.le_trans (Keep.refl h0 []).1 (Nat.le_of_eq g1.symm))
  have K1 : Keep h0 h1 [] := (Keep.refl h0 []).ext E1
  have pre2 : Goes p e below s1 F0 T1 (mkF m 3 #[oR x1] [(.ref b1)]) := fun t kt => pre0 t (st1 t kt)
  obtain ⟨_, T3, L3, X3, hQ3, st3⟩ := o_cI (y := o_N54) (b := b1) (g := (mkF m 5 #[oR x1] [(.ref x1), (.ref b1), (.ref b1)])) (as := [(.ref x1)]) (rest := [(.ref b1)]) 1 X1 hx hZ hml hown (oV hw 148 rfl) (oV hw 149 rfl) (oV hw 150 rfl) (oV hw 4 rfl) (o_si31 l Z a0 hw [] b1 x1 ab kb us cc _ _ cs fm h1 n0 (Nat.le_trans Z0 K1.1) (o_SB.ext hS E1) A1 F_value_b1 F_coder_b1 g_b1 (Ne.symm (Nat.ne_of_lt (Nat.lt_of_lt_of_le E_x1.lt (Nat.le_of_eq g1.symm)))) (Ne.symm (Nat.ne_of_lt (Nat.lt_of_lt_of_le V_ab.lt (Nat.le_of_eq g1.symm)))) hcc hst (O0.ext E1)) e1 o_pd33 (hb hby D55_5)
  obtain ⟨rfl, N3q, K3q, Es3, y3q, ky3, zy3, Fc3, Fv3, Vy3⟩ := hQ3
  have N3 := Fr.app N0 N3q
  have KC3 : Keep h0 T3.heap [] := K1.trans K3q (allS (Or.inr sz_b1) all0)
  have pre4 : Goes p e below s1 F0 T3 (mkF m 8 #[oR x1] [(.ref b1)]) := fun t kt => pre2 t (by
    refine XS.dup X1.here hx rfl (hb hby D55_3) rfl rfl ?_
    refine o_al X1 hx hby D55_4 rfl ?_
    exact st3 t kt)
  refine o_eR X3 Bd hx pre4 (hb hby D55_8) rfl ?_
  exact ⟨b1, _, _, rfl, N3, KC3, sz_b1, Es3, Fc3, Fv3, Vy3⟩
theorem D56_0 : decode oY60 0 = .ok (.new 146, 3) := by decide +kernel
theorem D56_3 : decode oY60 3 = .ok (.dup, 1) := by decide +kernel
theorem D56_4 : decode oY60 4 = .ok (.invokespecial 148, 3) := by decide +kernel
theorem D56_7 : decode oY60 7 = .ok (.aload_n 0, 1) := by decide +kernel
theorem D56_8 : decode oY60 8 = .ok (.getfield 7, 3) := by decide +kernel
theorem D56_11 : decode oY60 11 = .ok (.invokevirtual 149, 3) := by decide +kernel
theorem D56_14 : decode oY60 14 = .ok (.ldc 179, 2) := by decide +kernel
theorem D56_16 : decode oY60 16 = .ok (.invokevirtual 149, 3) := by decide +kernel
theorem D56_19 : decode oY60 19 = .ok (.aload_n 0, 1) := by decide +kernel
theorem D56_20 : decode oY60 20 = .ok (.getfield 13, 3) := by decide +kernel
theorem D56_23 : decode oY60 23 = .ok (.invokevirtual 181, 3) := by decide +kernel
theorem D56_26 : decode oY60 26 = .ok (.invokevirtual 155, 3) := by decide +kernel
theorem D56_29 : decode oY60 29 = .ok (.areturn, 1) := by decide +kernel
theorem o_ef_o_ets (m : MethodId) (x0 : Addr) : entryFrame m #[(.ref x0)] 1 = mkF m 0 #[oR x0] [] := by first | (simp [entryFrame, mkF, argsToLocals, Value.category]; done) | rfl
def Q_o_ets (Z : State) (xe a1 : Addr) (cd : Int32) (y : Addr) (ky : ClassId) (ln : Nat) (gg : Nat → Int32) (pp cs : Int32) (fm : Value) (aO aT : Addr) (h0 : Heap) (n0 : Nat) (v : Option Value) (h : Heap) (L : List Loc) : Prop := ∃ (a2 : Addr) (cd2 : Int32) (y2 : Addr) (ky2 : ClassId), v = some (.ref a2) ∧ Fr n0 L ∧ Keep h0 h [] ∧ o_HS Z h a2 cd2 y2 ky2 (ln + 1 + o_pl pp) (o_g gg ln pp)
theorem o_ets (l : Launch) (Z : State) (a0 : Array Value) (hw : ∀ d ∈ tables_1, d.before a0 Z = true) (ws : List Jvm.Cond) (xe a1 : Addr) (cd : Int32) (y : Addr) (ky : ClassId) (ln : Nat) (gg : Nat → Int32) (pp cs : Int32) (fm : Value) (aO aT : Addr) (h0 : Heap) (n0 : Nat) (Z0 : n0 ≤ h0.size) (E_xe : Exa Z h0 xe "com/example/ferry/ferry/Endpoint") (F_host : Fld Z h0 xe "com/example/ferry/ferry/Endpoint" "host" "Ljava/lang/String;" (.ref a1)) (F_port : Fld Z h0 xe "com/example/ferry/ferry/Endpoint" "port" "I" (.int pp)) (HS : o_HS Z h0 a1 cd y ky ln gg) (hln : ln ≤ 3) (hst : o_ST Z cs fm) (O0 : Old Z n0 h0) (hdg : o_DG Z aO aT) :
    MetFree l o_N56 (head1 (Jvm.Cond.code o_N56 oY60 1 (some (.object "java/lang/String")) :: ws) o_R53) (fun a U => a = #[(.ref xe)] ∧ Z.Warmed39 U.vm ∧ U.heap = h0 ∧ CHv Z o_EL U.vm h0) (fun _ _ _ _ _ => True) (fun _ U o U' => ∃ v L, o = .returned v ∧ Q_o_ets Z xe a1 cd y ky ln gg pp cs fm aO aT h0 n0 v U'.heap L ∧ CHr Z o_EL U.vm U.heap U'.vm U'.heap ∧ ReturnedEndW U o U' L o_R53.cells o_R53.slots) := by
  refine MetFree.of_bodySF (plainFor_of_name o_pn_o_epi) hisR ?_
  intro p e s m args below meth c s1 Bd hml0 hP hK
  obtain ⟨rfl, hZ, hh, hCH⟩ := hP
  have hx := Bd.exec
  have hby := Bd.bytes
  have hml : c.maxLocals = 1 := hml0
  have hown : s.vm.findClass "com/example/ferry/ferry/Endpoint" = some m.cls := findClass_of_methodNamed Bd.named
  have hnm := (name_of_methodNamed Bd.named Bd.method).1
  have X0 : Stand p l e o_R53 s m #[(.ref xe)] below meth c s1 [] 0 0 := Stand.of_body Bd
  have e0 : s1.heap = h0 := by rw [← hh, Bd.state]; rfl
  have N0 := Fr.nil n0
  obtain ⟨F0, hF0⟩ : ∃ F, F = (entryFrame m #[(.ref xe)] 1) := ⟨_, rfl⟩
  have pre0 : Goes p e below s1 F0 s1 (mkF m 0 #[oR xe] []) := fun t k => castTop (hF0.trans (o_ef_o_ets m xe)) k
  have hEL : EW Z a0 o_EL := (EW.cons (oV hw 117 rfl) (by simp) (EW.cons (oV hw 230 rfl) (by simp) EW.nil))
  have CH0 : CHr Z o_EL s.vm h0 s.vm h0 := CHr.refl hCH
  obtain ⟨E_a1, Fc, Fv, HD, hgr⟩ := (id HS)
  have hpl := o_pl_le pp
  rcases HD with ⟨hcd, vs, V_y, hlv, hrd⟩ | ⟨hcd, vs, V_y, hlv, hrd⟩
  · -- coder 0
    rw [hcd] at Fc
    obtain ⟨T1, h1, X1, e1, E1, A1, DD1, -, st1⟩ := newO X0 hx hZ hown (oV hw 52 rfl) (oV hw 53 rfl) (oV hw 54 rfl) e0 (g := (mkF m 0 #[oR xe] [])) rfl (hb hby D56_0) (by decide) (by decide)
    obtain ⟨b1, g1⟩ : ∃ z, z = h0.size := ⟨_, rfl⟩
    rw [← g1] at A1 DD1 st1
    have F_value_b1 : Fld Z h1 b1 "java/lang/AbstractStringBuilder" "value" "[B" .null := DD1 (Or.inl (oV hw 67 rfl)) (ty := (.array .byte)) (by decide)
    have F_coder_b1 : Fld Z h1 b1 "java/lang/AbstractStringBuilder" "coder" "B" (.int 0) := DD1 (Or.inl (oV hw 69 rfl)) (ty := .byte) (by decide)
    have F_count_b1 : Fld Z h1 b1 "java/lang/AbstractStringBuilder" "count" "I" (.int 0) := DD1 (Or.inl (oV hw 91 rfl)) (ty := .int) (by decide)
    have F_maybeLatin1_b1 : Fld Z h1 b1 "java/lang/AbstractStringBuilder" "maybeLatin1" "Z" (.int 0) := DD1 (Or.inl (oV hw 293 rfl)) (ty := .boolean) (by decide)
    have g_b1 : n0 ≤ b1 := Nat.le_trans Z0 (Nat.le_of_eq g1.symm)
    have sz_b1 : h0.size ≤ b1 := (Nat.le_trans (Keep.refl h0 []).1 (Nat.le_of_eq g1.symm))
    have K1 : Keep h0 h1 [] := (Keep.refl h0 []).ext E1
    have CH1 : CHr Z o_EL s.vm h0 s.vm h1 := CH0.trans (CHr.ext E1 CH0.1)
    have pre2 : Goes p e below s1 F0 T1 (mkF m 3 #[oR xe] [(.ref b1)]) := fun t kt => pre0 t (st1 t kt)
    obtain ⟨_, T3, L3, X3, hQ3, st3⟩ := o_cI (y := o_N23) (b := b1) (g := (mkF m 4 #[oR xe] [(.ref b1), (.ref b1)])) (as := []) (rest := [(.ref b1)]) 1 X1 hx hZ hml hown (oV hw 55 rfl) (oV hw 56 rfl) (oV hw 57 rfl) (oV hw 54 rfl) (o_bi l Z a0 hw [] b1 cs fm h1 n0 (Nat.le_trans Z0 K1.1) A1 F_value_b1 F_coder_b1 F_count_b1 F_maybeLatin1_b1 g_b1 hst (O0.ext E1)) e1 o_pd14 (hb hby D56_4)
    obtain ⟨rfl, N3q, K3q, ab, kb, zab, hT3⟩ := hQ3
    have N3 := Fr.app N0 N3q
    have KC3 : Keep h0 T3.heap [] := K1.trans K3q (allS (Or.inr sz_b1) all0)
    have CH3 : CHr Z o_EL s.vm h0 s.vm T3.heap := CH1.trans (CHr.keep K3q (allS (Safe.exa hZ.alike A1 (by decide) (by decide)) all0) CH1.1)
    have pre4 : Goes p e below s1 F0 T3 (mkF m 7 #[oR xe] [(.ref b1)]) := fun t kt => pre2 t (by
      refine XS.dup X1.here hx rfl (hb hby D56_3) rfl rfl ?_
      exact st3 t kt)
    have sz_ab : h0.size ≤ ab := Nat.le_trans K1.1 zab
    have g_ab : n0 ≤ ab := hT3.2.2.2.2.2.2.2.2.2
    have nya : y ≠ ab := Nat.ne_of_lt (Nat.lt_of_lt_of_le (V_y.ext E1).lt zab)
    have nyb : y ≠ b1 := (Nat.ne_of_lt (Nat.lt_of_lt_of_le V_y.lt (Nat.le_of_eq g1.symm)))
    have nab : a1 ≠ b1 := (Nat.ne_of_lt (Nat.lt_of_lt_of_le E_a1.lt (Nat.le_of_eq g1.symm)))
    have nea : xe ≠ ab := Nat.ne_of_lt (Nat.lt_of_lt_of_le (E_xe.ext E1).lt zab)
    have SF3_ab : Safe Z o_EL s.vm T3.heap ab := Safe.keep K3q (allS (Safe.exa hZ.alike A1 (by decide) (by decide)) all0) CH1.1 (Safe.new zab)
    obtain ⟨T5, X5, e5, st5⟩ := getF X3 hx hZ hown (host := "") (Or.inl (oV hw 43 rfl)) Via.refl rfl ((F_host.ext E1).keep K3q (ninS (Nat.ne_of_lt (Nat.lt_of_lt_of_le E_xe.lt (Nat.le_of_eq g1.symm))) nin0)) (g := (mkF m 8 #[oR xe] [(.ref xe), (.ref b1)])) rfl rfl (hb hby D56_8)
    have pre6 : Goes p e below s1 F0 T5 (mkF m 11 #[oR xe] [(.ref a1), (.ref b1)]) := fun t kt => pre4 t (by
      refine o_al X3 hx hby D56_7 rfl ?_
      exact st5 t kt)
    obtain ⟨_, T7, L7, X7, hQ7, st7⟩ := o_cW (y := o_N29) (b := b1) (g := (mkF m 11 #[oR xe] [(.ref a1), (.ref b1)])) (as := [(.ref a1)]) (rest := []) 0 X5 hx hZ hml hown (oV hw 70 rfl) (oV hw 73 rfl) (oV hw 72 rfl) (oV hw 74 rfl) (oV hw 54 rfl) (o_bSLL l Z a0 hw [] b1 ab kb o_Z16 0 a1 y ky vs ln cs fm T3.heap n0 (Nat.le_trans Z0 KC3.1) hT3 ((E_a1.ext E1).keep K3q) ((Fc.ext E1).keep K3q (ninS nab nin0)) ((Fv.ext E1).keep K3q (ninS nab nin0)) ((V_y.ext E1).keep K3q (ninS nyb nin0)) nya nyb nab hlv (by omega) hst ((O0.ext E1).keep K3q (allS g_b1 all0))) e5 hT3.1 o_pd34 (hb hby D56_11)
    obtain ⟨rfl, N7q, K7q, hT7⟩ := hQ7
    have N7 := Fr.app N3 N7q
    have KC7 : Keep h0 T7.heap [] := KC3.trans K7q (allS (Or.inr sz_b1) (allS (Or.inr sz_ab) all0))
    have CH7 : CHr Z o_EL s.vm h0 s.vm T7.heap := CH3.trans (CHr.keep K7q (allS (Safe.exa hZ.alike hT3.1 (by decide) (by decide)) (allS SF3_ab all0)) CH3.1)
    have SF7_ab : Safe Z o_EL s.vm T7.heap ab := Safe.keep K7q (allS (Safe.exa hZ.alike hT3.1 (by decide) (by decide)) (allS SF3_ab all0)) CH3.1 SF3_ab
    have pre8 : Goes p e below s1 F0 T7 (mkF m 14 #[oR xe] [(.ref b1)]) := fun t kt => pre6 t (st7 t kt)
    have wS9 : ∀ a ∈ Bundle.stringAtoms, a.before a0 Z = true := fun d hd => by
      simp only [Bundle.stringAtoms, List.mem_cons, List.not_mem_nil, or_false] at hd
      rcases hd with rfl | rfl | rfl | rfl | rfl | rfl | rfl
      · exact (oV hw 4 rfl)
      · exact (oV hw 3 rfl)
      · exact (oV hw 20 rfl)
      · exact (oV hw 30 rfl)
      · exact (oV hw 28 rfl)
      · exact (oV hw 118 rfl)
      · exact (oV hw 119 rfl)
    obtain ⟨sa9, T9, h9, kk9, sd9, ky9, X9, e9, E9, hS9, hk9, hZ, hown, Es9, Fc9, Fv9, Vd9, ls9, ld9, hC9, Lt9, nS9, st9⟩ := ldcCH (s := s) (vm0 := s.vm) X7 hx hZ hown (oV hw 117 rfl) wS9 rfl (State.WarmedH.since (State.WarmedH.refl s) 0) (Nat.zero_le _) hEL (o_mG (i := 0) rfl) CH7.1 (vs := [(.int 58)]) (z := (1 : Int32)) ⟨by simp, by first | rfl | simp [Jvm.Lit.byteI]⟩ (by decide) (by decide) (g := (mkF m 14 #[oR xe] [(.ref b1)])) rfl (hb hby D56_14) (n := 4) (by decide) (by decide) (by decide) (by decide)
    have K9 : Keep h0 h9 [] := KC7.ext E9
    have CH9 : CHr Z o_EL s.vm h0 T9.vm h9 := CH7.trans hC9
    have SF9_ab : Safe Z o_EL T9.vm h9 ab := CHr.safe hC9 hT7.2.2.2.2.2.1.lt SF7_ab
    have pre10 : Goes p e below s1 F0 T9 (mkF m 16 #[oR xe] [(.ref sa9), (.ref b1)]) := fun t kt => pre8 t (st9 t kt)
    have nsb : b1 ≠ sa9 ∧ b1 ≠ sd9 := nS9 b1 (Safe.exa hZ.alike (hT7.1.ext E9) (by decide) (by decide))
    have nsa : ab ≠ sa9 ∧ ab ≠ sd9 := nS9 ab SF9_ab
    obtain ⟨_, T11, L11, X11, hQ11, st11⟩ := o_cW (y := o_N29) (b := b1) (g := (mkF m 16 #[oR xe] [(.ref sa9), (.ref b1)])) (as := [(.ref sa9)]) (rest := []) 0 X9 hx hZ hml hown (oV hw 70 rfl) (oV hw 73 rfl) (oV hw 72 rfl) (oV hw 74 rfl) (oV hw 54 rfl) (o_bSLL l Z a0 hw [] b1 ab kb (o_Z16.take 0 ++ vs ++ o_Z16.drop (0 + ln)) (0 + ln) sa9 sd9 ky9 [(.int 58)] 1 cs fm h9 n0 (Nat.le_trans Z0 K9.1) (o_SB.ext hT7 E9) Es9 Fc9 Fv9 Vd9 (Ne.symm nsa.2) (Ne.symm nsb.2) (Ne.symm nsb.1) rfl (by omega) hst ((((O0.ext E1).keep K3q (allS g_b1 all0)).keep K7q (allS g_b1 (allS g_ab all0))).ext E9)) e9 (hT7.1.ext E9) o_pd34 (hb hby D56_16)
    obtain ⟨rfl, N11q, K11q, hT11⟩ := hQ11
    have N11 := Fr.app N7 N11q
    have KC11 : Keep h0 T11.heap [] := K9.trans K11q (allS (Or.inr sz_b1) (allS (Or.inr sz_ab) all0))
    have CH11 : CHr Z o_EL s.vm h0 T9.vm T11.heap := CH9.trans (CHr.keep K11q (allS (Safe.exa hZ.alike (hT7.1.ext E9) (by decide) (by decide)) (allS SF9_ab all0)) CH9.1)
    have SF11_ab : Safe Z o_EL T9.vm T11.heap ab := Safe.keep K11q (allS (Safe.exa hZ.alike (hT7.1.ext E9) (by decide) (by decide)) (allS SF9_ab all0)) CH9.1 SF9_ab
    have pre12 : Goes p e below s1 F0 T11 (mkF m 19 #[oR xe] [(.ref b1)]) := fun t kt => pre10 t (st11 t kt)
    obtain ⟨T13, X13, e13, st13⟩ := getF X11 hx hZ hown (host := "") (Or.inl (oV hw 45 rfl)) Via.refl rfl (((((F_port.ext E1).keep K3q (ninS (Nat.ne_of_lt (Nat.lt_of_lt_of_le E_xe.lt (Nat.le_of_eq g1.symm))) nin0)).keep K7q (ninS (Nat.ne_of_lt (Nat.lt_of_lt_of_le E_xe.lt (Nat.le_of_eq g1.symm))) (ninS nea nin0))).ext E9).keep K11q (ninS (Nat.ne_of_lt (Nat.lt_of_lt_of_le E_xe.lt (Nat.le_of_eq g1.symm))) (ninS nea nin0))) (g := (mkF m 20 #[oR xe] [(.ref xe), (.ref b1)])) rfl rfl (hb hby D56_20)
    have pre14 : Goes p e below s1 F0 T13 (mkF m 23 #[oR xe] [(.int pp), (.ref b1)]) := fun t kt => pre12 t (by
      refine o_al X11 hx hby D56_19 rfl ?_
      exact st13 t kt)
    obtain ⟨_, T15, L15, X15, hQ15, st15⟩ := o_cW (y := o_N40) (b := b1) (g := (mkF m 23 #[oR xe] [(.int pp), (.ref b1)])) (as := [(.int pp)]) (rest := []) 0 X13 hx hZ hml hown (oV hw 120 rfl) (oV hw 123 rfl) (oV hw 122 rfl) (oV hw 124 rfl) (oV hw 54 rfl) (o_bI0 l Z a0 hw [] b1 ab kb ((o_Z16.take 0 ++ vs ++ o_Z16.drop (0 + ln)).take (0 + ln) ++ [(.int 58)] ++ (o_Z16.take 0 ++ vs ++ o_Z16.drop (0 + ln)).drop ((0 + ln) + 1)) ((0 + ln) + 1) pp cs fm aO aT T11.heap n0 (Nat.le_trans Z0 KC11.1) hT11 (by omega) hst (((((O0.ext E1).keep K3q (allS g_b1 all0)).keep K7q (allS g_b1 (allS g_ab all0))).ext E9).keep K11q (allS g_b1 (allS g_ab all0))) hdg) e13 hT11.1 o_pd35 (hb hby D56_23)
    obtain ⟨rfl, N15q, K15q, uw, hT15, hDW⟩ := hQ15
    have N15 := Fr.app N11 N15q
    have KC15 : Keep h0 T15.heap [] := KC11.trans K15q (allS (Or.inr sz_b1) (allS (Or.inr sz_ab) all0))
    have CH15 : CHr Z o_EL s.vm h0 T9.vm T15.heap := CH11.trans (CHr.keep K15q (allS (Safe.exa hZ.alike hT11.1 (by decide) (by decide)) (allS SF11_ab all0)) CH11.1)
    have SF15_ab : Safe Z o_EL T9.vm T15.heap ab := Safe.keep K15q (allS (Safe.exa hZ.alike hT11.1 (by decide) (by decide)) (allS SF11_ab all0)) CH11.1 SF11_ab
    have pre16 : Goes p e below s1 F0 T15 (mkF m 26 #[oR xe] [(.ref b1)]) := fun t kt => pre14 t (st15 t kt)
    obtain ⟨_, T17, L17, X17, hQ17, st17⟩ := o_cW (y := o_N55) (b := b1) (g := (mkF m 26 #[oR xe] [(.ref b1)])) (as := []) (rest := []) 0 X15 hx hZ hml hown (oV hw 142 rfl) (oV hw 145 rfl) (oV hw 144 rfl) (oV hw 146 rfl) (oV hw 54 rfl) (o_ts0 l Z a0 hw [] b1 ab kb uw (((0 + ln) + 1) + o_pl pp) cs fm T15.heap n0 (Nat.le_trans Z0 KC15.1) hT15 (by omega) hst ((((((O0.ext E1).keep K3q (allS g_b1 all0)).keep K7q (allS g_b1 (allS g_ab all0))).ext E9).keep K11q (allS g_b1 (allS g_ab all0))).keep K15q (allS g_b1 (allS g_ab all0)))) rfl hT15.1 o_pd36 (hb hby D56_26)
    obtain ⟨a2, y2, ky2, rfl, N17q, K17q, za2, Es, Fcs, Fvs, Vys⟩ := hQ17
    have N17 := Fr.app N15 N17q
    have KC17 : Keep h0 T17.heap [] := KC15.trans K17q all0
    have CH17 : CHr Z o_EL s.vm h0 T9.vm T17.heap := CH15.trans (CHr.keep K17q all0 CH15.1)
    have SF17_ab : Safe Z o_EL T9.vm T17.heap ab := Safe.keep K17q all0 CH15.1 SF15_ab
    have pre18 : Goes p e below s1 F0 T17 (mkF m 29 #[oR xe] [(.ref a2)]) := fun t kt => pre16 t (st17 t kt)
    obtain ⟨fs, hr, hrun, hended, hEnd⟩ := X17.leaveW hS9 (Nat.le_trans (Nat.le_trans (Nat.le_trans hk9 K11q.1) K15q.1) K17q.1) (v := some (.ref a2)) (fun h => by rw [Bd.returns] at h; cases h)
    rw [hF0] at pre18
    refine ⟨_, _, pre18 _ ?_, hrun, hended, _, _, rfl, ?_, ?_, hEnd.1, hEnd.2.1, hEnd.2.2.1, hEnd.2.2.2.mono (by decide) (by decide)⟩
    · show Steps p.tables e below (T17.setTop (mkF m 29 #[oR xe] [(.ref a2)])) _
      jvm_step X17.here [X17.here.top, hx, (hb hby D56_29), X17.method', Bd.returns, Value.isRef, FieldType.isReference]
      first | (intro acts; rw [hr _ acts rfl rfl rfl]) | rw [hr _ _ rfl rfl rfl]
      exact Steps.refl _
    · show Q_o_ets Z xe a1 cd y ky ln gg pp cs fm aO aT h0 n0 _ T17.heap _
      exact ⟨a2, _, y2, ky2, rfl, N17, KC17, Es, Fcs, Fvs, Or.inl ⟨rfl, o_resL rfl hlv hrd hln hDW Vys⟩, o_gR hgr⟩
    · show CHr Z o_EL s.vm s.heap T17.vm T17.heap
      rw [hh]
      exact CH17.trans (CHv.at (s := s) (vm0 := T9.vm) X17 hZ hEL CH17.1)
  · -- coder 1
    rw [hcd] at Fc
    obtain ⟨T19, h19, X19, e19, E19, A19, DD19, -, st19⟩ := newO X0 hx hZ hown (oV hw 52 rfl) (oV hw 53 rfl) (oV hw 54 rfl) e0 (g := (mkF m 0 #[oR xe] [])) rfl (hb hby D56_0) (by decide) (by decide)
    obtain ⟨b19, g19⟩ : ∃ z, z = h0.size := ⟨_, rfl⟩
    rw [← g19] at A19 DD19 st19
    have F_value_b19 : Fld Z h19 b19 "java/lang/AbstractStringBuilder" "value" "[B" .null := DD19 (Or.inl (oV hw 67 rfl)) (ty := (.array .byte)) (by decide)
    have F_coder_b19 : Fld Z h19 b19 "java/lang/AbstractStringBuilder" "coder" "B" (.int 0) := DD19 (Or.inl (oV hw 69 rfl)) (ty := .byte) (by decide)
    have F_count_b19 : Fld Z h19 b19 "java/lang/AbstractStringBuilder" "count" "I" (.int 0) := DD19 (Or.inl (oV hw 91 rfl)) (ty := .int) (by decide)
    have F_maybeLatin1_b19 : Fld Z h19 b19 "java/lang/AbstractStringBuilder" "maybeLatin1" "Z" (.int 0) := DD19 (Or.inl (oV hw 293 rfl)) (ty := .boolean) (by decide)
    have g_b19 : n0 ≤ b19 := Nat.le_trans Z0 (Nat.le_of_eq g19.symm)
    have sz_b19 : h0.size ≤ b19 := (Nat.le_trans (Keep.refl h0 []).1 (Nat.le_of_eq g19.symm))
    have K19 : Keep h0 h19 [] := (Keep.refl h0 []).ext E19
    have CH19 : CHr Z o_EL s.vm h0 s.vm h19 := CH0.trans (CHr.ext E19 CH0.1)
    have pre20 : Goes p e below s1 F0 T19 (mkF m 3 #[oR xe] [(.ref b19)]) := fun t kt => pre0 t (st19 t kt)
    obtain ⟨_, T21, L21, X21, hQ21, st21⟩ := o_cI (y := o_N23) (b := b19) (g := (mkF m 4 #[oR xe] [(.ref b19), (.ref b19)])) (as := []) (rest := [(.ref b19)]) 1 X19 hx hZ hml hown (oV hw 55 rfl) (oV hw 56 rfl) (oV hw 57 rfl) (oV hw 54 rfl) (o_bi l Z a0 hw [] b19 cs fm h19 n0 (Nat.le_trans Z0 K19.1) A19 F_value_b19 F_coder_b19 F_count_b19 F_maybeLatin1_b19 g_b19 hst (O0.ext E19)) e19 o_pd14 (hb hby D56_4)
    obtain ⟨rfl, N21q, K21q, ab, kb, zab, hT21⟩ := hQ21
    have N21 := Fr.app N0 N21q
    have KC21 : Keep h0 T21.heap [] := K19.trans K21q (allS (Or.inr sz_b19) all0)
    have CH21 : CHr Z o_EL s.vm h0 s.vm T21.heap := CH19.trans (CHr.keep K21q (allS (Safe.exa hZ.alike A19 (by decide) (by decide)) all0) CH19.1)
    have pre22 : Goes p e below s1 F0 T21 (mkF m 7 #[oR xe] [(.ref b19)]) := fun t kt => pre20 t (by
      refine XS.dup X19.here hx rfl (hb hby D56_3) rfl rfl ?_
      exact st21 t kt)
    have sz_ab : h0.size ≤ ab := Nat.le_trans K19.1 zab
    have g_ab : n0 ≤ ab := hT21.2.2.2.2.2.2.2.2.2
    have nya : y ≠ ab := Nat.ne_of_lt (Nat.lt_of_lt_of_le (V_y.ext E19).lt zab)
    have nyb : y ≠ b19 := (Nat.ne_of_lt (Nat.lt_of_lt_of_le V_y.lt (Nat.le_of_eq g19.symm)))
    have nab : a1 ≠ b19 := (Nat.ne_of_lt (Nat.lt_of_lt_of_le E_a1.lt (Nat.le_of_eq g19.symm)))
    have nea : xe ≠ ab := Nat.ne_of_lt (Nat.lt_of_lt_of_le (E_xe.ext E19).lt zab)
    have SF21_ab : Safe Z o_EL s.vm T21.heap ab := Safe.keep K21q (allS (Safe.exa hZ.alike A19 (by decide) (by decide)) all0) CH19.1 (Safe.new zab)
    obtain ⟨T23, X23, e23, st23⟩ := getF X21 hx hZ hown (host := "") (Or.inl (oV hw 43 rfl)) Via.refl rfl ((F_host.ext E19).keep K21q (ninS (Nat.ne_of_lt (Nat.lt_of_lt_of_le E_xe.lt (Nat.le_of_eq g19.symm))) nin0)) (g := (mkF m 8 #[oR xe] [(.ref xe), (.ref b19)])) rfl rfl (hb hby D56_8)
    have pre24 : Goes p e below s1 F0 T23 (mkF m 11 #[oR xe] [(.ref a1), (.ref b19)]) := fun t kt => pre22 t (by
      refine o_al X21 hx hby D56_7 rfl ?_
      exact st23 t kt)
    obtain ⟨_, T25, L25, X25, hQ25, st25⟩ := o_cW (y := o_N29) (b := b19) (g := (mkF m 11 #[oR xe] [(.ref a1), (.ref b19)])) (as := [(.ref a1)]) (rest := []) 0 X23 hx hZ hml hown (oV hw 70 rfl) (oV hw 73 rfl) (oV hw 72 rfl) (oV hw 74 rfl) (oV hw 54 rfl) (o_bSLU l Z a0 hw [] b19 ab kb o_Z16 a1 y ky vs ln cs fm T21.heap n0 (Nat.le_trans Z0 KC21.1) hT21 ((E_a1.ext E19).keep K21q) ((Fc.ext E19).keep K21q (ninS nab nin0)) ((Fv.ext E19).keep K21q (ninS nab nin0)) ((V_y.ext E19).keep K21q (ninS nyb nin0)) nya nyb nab hlv (by omega) hst ((O0.ext E19).keep K21q (allS g_b19 all0))) e23 hT21.1 o_pd34 (hb hby D56_11)
    obtain ⟨rfl, N25q, K25q, a3, k3, za3, hT25⟩ := hQ25
    have N25 := Fr.app N21 N25q
    have KC25 : Keep h0 T25.heap [] := KC21.trans K25q (allS (Or.inr sz_b19) all0)
    have CH25 : CHr Z o_EL s.vm h0 s.vm T25.heap := CH21.trans (CHr.keep K25q (allS (Safe.exa hZ.alike hT21.1 (by decide) (by decide)) all0) CH21.1)
    have SF25_ab : Safe Z o_EL s.vm T25.heap ab := Safe.keep K25q (allS (Safe.exa hZ.alike hT21.1 (by decide) (by decide)) all0) CH21.1 SF21_ab
    have pre26 : Goes p e below s1 F0 T25 (mkF m 14 #[oR xe] [(.ref b19)]) := fun t kt => pre24 t (st25 t kt)
    have sz_a3 : h0.size ≤ a3 := Nat.le_trans KC21.1 za3
    have g_a3 : n0 ≤ a3 := hT25.2.2.2.2.2.2.2.2.2
    have nea3 : xe ≠ a3 := Nat.ne_of_lt (Nat.lt_of_lt_of_le ((E_xe.ext E19).keep K21q).lt za3)
    have SF25_a3 : Safe Z o_EL s.vm T25.heap a3 := Safe.keep K25q (allS (Safe.exa hZ.alike hT21.1 (by decide) (by decide)) all0) CH21.1 (Safe.new za3)
    have wS27 : ∀ a ∈ Bundle.stringAtoms, a.before a0 Z = true := fun d hd => by
      simp only [Bundle.stringAtoms, List.mem_cons, List.not_mem_nil, or_false] at hd
      rcases hd with rfl | rfl | rfl | rfl | rfl | rfl | rfl
      · exact (oV hw 4 rfl)
      · exact (oV hw 3 rfl)
      · exact (oV hw 20 rfl)
      · exact (oV hw 30 rfl)
      · exact (oV hw 28 rfl)
      · exact (oV hw 118 rfl)
      · exact (oV hw 119 rfl)
    obtain ⟨sa27, T27, h27, kk27, sd27, ky27, X27, e27, E27, hS27, hk27, hZ, hown, Es27, Fc27, Fv27, Vd27, ls27, ld27, hC27, Lt27, nS27, st27⟩ := ldcCH (s := s) (vm0 := s.vm) X25 hx hZ hown (oV hw 117 rfl) wS27 rfl (State.WarmedH.since (State.WarmedH.refl s) 0) (Nat.zero_le _) hEL (o_mG (i := 0) rfl) CH25.1 (vs := [(.int 58)]) (z := (1 : Int32)) ⟨by simp, by first | rfl | simp [Jvm.Lit.byteI]⟩ (by decide) (by decide) (g := (mkF m 14 #[oR xe] [(.ref b19)])) rfl (hb hby D56_14) (n := 4) (by decide) (by decide) (by decide) (by decide)
    have K27 : Keep h0 h27 [] := KC25.ext E27
    have CH27 : CHr Z o_EL s.vm h0 T27.vm h27 := CH25.trans hC27
    have SF27_a3 : Safe Z o_EL T27.vm h27 a3 := CHr.safe hC27 hT25.2.2.2.2.2.1.lt SF25_a3
    have pre28 : Goes p e below s1 F0 T27 (mkF m 16 #[oR xe] [(.ref sa27), (.ref b19)]) := fun t kt => pre26 t (st27 t kt)
    have nsb : b19 ≠ sa27 ∧ b19 ≠ sd27 := nS27 b19 (Safe.exa hZ.alike (hT25.1.ext E27) (by decide) (by decide))
    have nsa : a3 ≠ sa27 ∧ a3 ≠ sd27 := nS27 a3 SF27_a3
    obtain ⟨_, T29, L29, X29, hQ29, st29⟩ := o_cW (y := o_N29) (b := b19) (g := (mkF m 16 #[oR xe] [(.ref sa27), (.ref b19)])) (as := [(.ref sa27)]) (rest := []) 0 X27 hx hZ hml hown (oV hw 70 rfl) (oV hw 73 rfl) (oV hw 72 rfl) (oV hw 74 rfl) (oV hw 54 rfl) (o_bSUL l Z a0 hw [] b19 a3 k3 (o_Z32.take 0 ++ vs ++ o_Z32.drop (0 + 2 * ln)) ln sa27 sd27 ky27 cs fm h27 n0 (Nat.le_trans Z0 K27.1) (o_SB.ext hT25 E27) Es27 Fc27 Fv27 Vd27 (Ne.symm nsa.2) (Ne.symm nsb.2) (Ne.symm nsb.1) (by omega) hst ((((O0.ext E19).keep K21q (allS g_b19 all0)).keep K25q (allS g_b19 all0)).ext E27)) e27 (hT25.1.ext E27) o_pd34 (hb hby D56_16)
    obtain ⟨rfl, N29q, K29q, hT29⟩ := hQ29
    have N29 := Fr.app N25 N29q
    have KC29 : Keep h0 T29.heap [] := K27.trans K29q (allS (Or.inr sz_b19) (allS (Or.inr sz_a3) all0))
    have CH29 : CHr Z o_EL s.vm h0 T27.vm T29.heap := CH27.trans (CHr.keep K29q (allS (Safe.exa hZ.alike (hT25.1.ext E27) (by decide) (by decide)) (allS SF27_a3 all0)) CH27.1)
    have SF29_a3 : Safe Z o_EL T27.vm T29.heap a3 := Safe.keep K29q (allS (Safe.exa hZ.alike (hT25.1.ext E27) (by decide) (by decide)) (allS SF27_a3 all0)) CH27.1 SF27_a3
    have pre30 : Goes p e below s1 F0 T29 (mkF m 19 #[oR xe] [(.ref b19)]) := fun t kt => pre28 t (st29 t kt)
    obtain ⟨T31, X31, e31, st31⟩ := getF X29 hx hZ hown (host := "") (Or.inl (oV hw 45 rfl)) Via.refl rfl (((((F_port.ext E19).keep K21q (ninS (Nat.ne_of_lt (Nat.lt_of_lt_of_le E_xe.lt (Nat.le_of_eq g19.symm))) nin0)).keep K25q (ninS (Nat.ne_of_lt (Nat.lt_of_lt_of_le E_xe.lt (Nat.le_of_eq g19.symm))) nin0)).ext E27).keep K29q (ninS (Nat.ne_of_lt (Nat.lt_of_lt_of_le E_xe.lt (Nat.le_of_eq g19.symm))) (ninS nea3 nin0))) (g := (mkF m 20 #[oR xe] [(.ref xe), (.ref b19)])) rfl rfl (hb hby D56_20)
    have pre32 : Goes p e below s1 F0 T31 (mkF m 23 #[oR xe] [(.int pp), (.ref b19)]) := fun t kt => pre30 t (by
      refine o_al X29 hx hby D56_19 rfl ?_
      exact st31 t kt)
    obtain ⟨_, T33, L33, X33, hQ33, st33⟩ := o_cW (y := o_N40) (b := b19) (g := (mkF m 23 #[oR xe] [(.int pp), (.ref b19)])) (as := [(.int pp)]) (rest := []) 0 X31 hx hZ hml hown (oV hw 120 rfl) (oV hw 123 rfl) (oV hw 122 rfl) (oV hw 124 rfl) (oV hw 54 rfl) (o_bI1 l Z a0 hw [] b19 a3 k3 (o_P true (o_Z32.take 0 ++ vs ++ o_Z32.drop (0 + 2 * ln)) ln (58 : Int32)) (ln + 1) pp cs fm aO aT T29.heap n0 (Nat.le_trans Z0 KC29.1) hT29 (by omega) hst (((((O0.ext E19).keep K21q (allS g_b19 all0)).keep K25q (allS g_b19 all0)).ext E27).keep K29q (allS g_b19 (allS g_a3 all0))) hdg) e31 hT29.1 o_pd35 (hb hby D56_23)
    obtain ⟨rfl, N33q, K33q, uw, hT33, hDW⟩ := hQ33
    have N33 := Fr.app N29 N33q
    have KC33 : Keep h0 T33.heap [] := KC29.trans K33q (allS (Or.inr sz_b19) (allS (Or.inr sz_a3) all0))
    have CH33 : CHr Z o_EL s.vm h0 T27.vm T33.heap := CH29.trans (CHr.keep K33q (allS (Safe.exa hZ.alike hT29.1 (by decide) (by decide)) (allS SF29_a3 all0)) CH29.1)
    have SF33_a3 : Safe Z o_EL T27.vm T33.heap a3 := Safe.keep K33q (allS (Safe.exa hZ.alike hT29.1 (by decide) (by decide)) (allS SF29_a3 all0)) CH29.1 SF29_a3
    have pre34 : Goes p e below s1 F0 T33 (mkF m 26 #[oR xe] [(.ref b19)]) := fun t kt => pre32 t (st33 t kt)
    obtain ⟨_, T35, L35, X35, hQ35, st35⟩ := o_cW (y := o_N55) (b := b19) (g := (mkF m 26 #[oR xe] [(.ref b19)])) (as := []) (rest := []) 0 X33 hx hZ hml hown (oV hw 142 rfl) (oV hw 145 rfl) (oV hw 144 rfl) (oV hw 146 rfl) (oV hw 54 rfl) (o_ts1 l Z a0 hw [] b19 a3 k3 uw ((ln + 1) + o_pl pp) cs fm T33.heap n0 (Nat.le_trans Z0 KC33.1) hT33 (by omega) hst ((((((O0.ext E19).keep K21q (allS g_b19 all0)).keep K25q (allS g_b19 all0)).ext E27).keep K29q (allS g_b19 (allS g_a3 all0))).keep K33q (allS g_b19 (allS g_a3 all0)))) rfl hT33.1 o_pd36 (hb hby D56_26)
    obtain ⟨a2, y2, ky2, rfl, N35q, K35q, za2, Es, Fcs, Fvs, Vys⟩ := hQ35
    have N35 := Fr.app N33 N35q
    have KC35 : Keep h0 T35.heap [] := KC33.trans K35q all0
    have CH35 : CHr Z o_EL s.vm h0 T27.vm T35.heap := CH33.trans (CHr.keep K35q all0 CH33.1)
    have SF35_a3 : Safe Z o_EL T27.vm T35.heap a3 := Safe.keep K35q all0 CH33.1 SF33_a3
    have pre36 : Goes p e below s1 F0 T35 (mkF m 29 #[oR xe] [(.ref a2)]) := fun t kt => pre34 t (st35 t kt)
    obtain ⟨fs, hr, hrun, hended, hEnd⟩ := X35.leaveW hS27 (Nat.le_trans (Nat.le_trans (Nat.le_trans hk27 K29q.1) K33q.1) K35q.1) (v := some (.ref a2)) (fun h => by rw [Bd.returns] at h; cases h)
    rw [hF0] at pre36
    refine ⟨_, _, pre36 _ ?_, hrun, hended, _, _, rfl, ?_, ?_, hEnd.1, hEnd.2.1, hEnd.2.2.1, hEnd.2.2.2.mono (by decide) (by decide)⟩
    · show Steps p.tables e below (T35.setTop (mkF m 29 #[oR xe] [(.ref a2)])) _
      jvm_step X35.here [X35.here.top, hx, (hb hby D56_29), X35.method', Bd.returns, Value.isRef, FieldType.isReference]
      first | (intro acts; rw [hr _ acts rfl rfl rfl]) | rw [hr _ _ rfl rfl rfl]
      exact Steps.refl _
    · show Q_o_ets Z xe a1 cd y ky ln gg pp cs fm aO aT h0 n0 _ T35.heap _
      exact ⟨a2, _, y2, ky2, rfl, N35, KC35, Es, Fcs, Fvs, Or.inr ⟨rfl, o_resU rfl hlv hrd hln hDW Vys⟩, o_gR hgr⟩
    · show CHr Z o_EL s.vm s.heap T35.vm T35.heap
      rw [hh]
      exact CH35.trans (CHv.at (s := s) (vm0 := T27.vm) X35 hZ hEL CH35.1)
theorem D57_0 : decode oY0 0 = .ok (.lload_n 0, 1) := by decide +kernel
theorem D57_1 : decode oY0 1 = .ok (.lconst 0, 1) := by decide +kernel
theorem D57_2 : decode oY0 2 = .ok (.lcmp, 1) := by decide +kernel
theorem D57_3 : decode oY0 3 = .ok (.ifCond .ge 8, 3) := by decide +kernel
theorem D57_6 : decode oY0 6 = .ok (.lload_n 0, 1) := by decide +kernel
theorem D57_7 : decode oY0 7 = .ok (.lneg, 1) := by decide +kernel
theorem D57_8 : decode oY0 8 = .ok (.goto 4, 3) := by decide +kernel
theorem D57_11 : decode oY0 11 = .ok (.lload_n 0, 1) := by decide +kernel
theorem D57_12 : decode oY0 12 = .ok (.lreturn, 1) := by decide +kernel
def Q_o_abs (Z : State) (pp : Int32) (h0 : Heap) (n0 : Nat) (v : Option Value) (h : Heap) (L : List Loc) : Prop := ∃ z : Int64, v = some (.long z) ∧ z.toInt = (o_M pp : Int) ∧ Fr n0 L ∧ h = h0
theorem o_abs (l : Launch) (Z : State) (a0 : Array Value) (hw : ∀ d ∈ tables_1, d.before a0 Z = true) (ws : List Jvm.Cond) (pp : Int32) (h0 : Heap) (n0 : Nat) (Z0 : n0 ≤ h0.size) :
    o_MF l o_N57 oY0 2 (some .long) ws o_R2 #[(.long (pp.toInt64))] Z h0 (Q_o_abs Z pp h0 n0) := by
  refine o_start (C := "java/lang/Math") rfl (Jvm.Free.JP.mathPlain rfl (by decide +kernel)) fun p e s m below meth c s1 F0 Bd hx hby hml hown hnm hZ X0 e0 hF0 => ?_
  have N0 := Fr.nil n0
  have pre0 : Goes p e below s1 F0 s1 (mkF m 0 #[.val (.long (pp.toInt64)), .second] []) := fun t k => castTop (hF0.trans (by simp [entryFrame, mkF, argsToLocals, Value.category])) k
  have pre1 : Goes p e below s1 F0 s1 (mkF m 3 #[.val (.long (pp.toInt64)), .second] [(.int (lcmpW (pp.toInt64) (0 : Int64)))]) := fun t kt => pre0 t (by
    refine o_ll X0 hx hby D57_0 rfl ?_
    refine XS.lconst X0.here hx rfl (hb hby D57_1) ?_
    refine XS.lcmp X0.here hx rfl (hb hby D57_2) rfl ?_
    exact kt)
  by_cases hc3_2 : (lcmpW (pp.toInt64) (0 : Int64)) < (0 : Int32)
  · -- yes at pc 3: 
    have pre3 : Goes p e below s1 F0 s1 (mkF m 12 #[.val (.long (pp.toInt64)), .second] [(.long (-(pp.toInt64)))]) := fun t kt => pre1 t (by
      refine o_ifN X0 hx hby D57_3 ((if0 _ _).trans (tlt hc3_2).2.1) ?_
      refine o_ll X0 hx hby D57_6 rfl ?_
      refine XS.lneg X0.here hx rfl (hb hby D57_7) rfl ?_
      refine o_gt 8 12 X0 hx hby D57_8 ?_
      exact kt)
    refine o_eJ X0 Bd hx pre3 (hb hby D57_12) e0 ?_
    exact ⟨_, rfl, o_ab1 hc3_2, N0, rfl⟩
  · -- no at pc 3: 
    have pre4 : Goes p e below s1 F0 s1 (mkF m 12 #[.val (.long (pp.toInt64)), .second] [(.long (pp.toInt64))]) := fun t kt => pre1 t (by
      refine o_ifY 3 11 X0 hx hby D57_3 ((if0 _ _).trans (flt hc3_2).2.1) ?_
      refine o_ll X0 hx hby D57_11 rfl ?_
      exact kt)
    refine o_eJ X0 Bd hx pre4 (hb hby D57_12) e0 ?_
    exact ⟨_, rfl, o_ab0 hc3_2, N0, rfl⟩
theorem D58_0 : decode oY58 0 = .ok (.lload_n 0, 1) := by decide +kernel
theorem D58_1 : decode oY58 1 = .ok (.ldc2_w 50, 3) := by decide +kernel
theorem D58_4 : decode oY58 4 = .ok (.lcmp, 1) := by decide +kernel
theorem D58_5 : decode oY58 5 = .ok (.ifCond .ge 5, 3) := by decide +kernel
theorem D58_8 : decode oY58 8 = .ok (.iconst 1, 1) := by decide +kernel
theorem D58_9 : decode oY58 9 = .ok (.ireturn, 1) := by decide +kernel
theorem D58_10 : decode oY58 10 = .ok (.lload_n 0, 1) := by decide +kernel
theorem D58_11 : decode oY58 11 = .ok (.ldc2_w 52, 3) := by decide +kernel
theorem D58_14 : decode oY58 14 = .ok (.lcmp, 1) := by decide +kernel
theorem D58_15 : decode oY58 15 = .ok (.ifCond .ge 5, 3) := by decide +kernel
theorem D58_18 : decode oY58 18 = .ok (.iconst 2, 1) := by decide +kernel
theorem D58_19 : decode oY58 19 = .ok (.ireturn, 1) := by decide +kernel
theorem D58_20 : decode oY58 20 = .ok (.lload_n 0, 1) := by decide +kernel
theorem D58_21 : decode oY58 21 = .ok (.ldc2_w 54, 3) := by decide +kernel
theorem D58_24 : decode oY58 24 = .ok (.lcmp, 1) := by decide +kernel
theorem D58_25 : decode oY58 25 = .ok (.ifCond .ge 5, 3) := by decide +kernel
theorem D58_28 : decode oY58 28 = .ok (.iconst 3, 1) := by decide +kernel
theorem D58_29 : decode oY58 29 = .ok (.ireturn, 1) := by decide +kernel
theorem D58_30 : decode oY58 30 = .ok (.lload_n 0, 1) := by decide +kernel
theorem D58_31 : decode oY58 31 = .ok (.ldc2_w 56, 3) := by decide +kernel
theorem D58_34 : decode oY58 34 = .ok (.lcmp, 1) := by decide +kernel
theorem D58_35 : decode oY58 35 = .ok (.ifCond .ge 5, 3) := by decide +kernel
theorem D58_38 : decode oY58 38 = .ok (.iconst 4, 1) := by decide +kernel
theorem D58_39 : decode oY58 39 = .ok (.ireturn, 1) := by decide +kernel
theorem D58_40 : decode oY58 40 = .ok (.lload_n 0, 1) := by decide +kernel
theorem D58_41 : decode oY58 41 = .ok (.ldc2_w 58, 3) := by decide +kernel
theorem D58_44 : decode oY58 44 = .ok (.lcmp, 1) := by decide +kernel
theorem D58_45 : decode oY58 45 = .ok (.ifCond .ge 5, 3) := by decide +kernel
theorem D58_48 : decode oY58 48 = .ok (.iconst 5, 1) := by decide +kernel
theorem D58_49 : decode oY58 49 = .ok (.ireturn, 1) := by decide +kernel
theorem D58_50 : decode oY58 50 = .ok (.lload_n 0, 1) := by decide +kernel
theorem D58_51 : decode oY58 51 = .ok (.ldc2_w 60, 3) := by decide +kernel
theorem D58_54 : decode oY58 54 = .ok (.lcmp, 1) := by decide +kernel
theorem D58_55 : decode oY58 55 = .ok (.ifCond .ge 6, 3) := by decide +kernel
theorem D58_58 : decode oY58 58 = .ok (.bipush 6, 2) := by decide +kernel
theorem D58_60 : decode oY58 60 = .ok (.ireturn, 1) := by decide +kernel
theorem D58_61 : decode oY58 61 = .ok (.lload_n 0, 1) := by decide +kernel
theorem D58_62 : decode oY58 62 = .ok (.ldc2_w 62, 3) := by decide +kernel
theorem D58_65 : decode oY58 65 = .ok (.lcmp, 1) := by decide +kernel
theorem D58_66 : decode oY58 66 = .ok (.ifCond .ge 6, 3) := by decide +kernel
theorem D58_69 : decode oY58 69 = .ok (.bipush 7, 2) := by decide +kernel
theorem D58_71 : decode oY58 71 = .ok (.ireturn, 1) := by decide +kernel
theorem D58_72 : decode oY58 72 = .ok (.lload_n 0, 1) := by decide +kernel
theorem D58_73 : decode oY58 73 = .ok (.ldc2_w 64, 3) := by decide +kernel
theorem D58_76 : decode oY58 76 = .ok (.lcmp, 1) := by decide +kernel
theorem D58_77 : decode oY58 77 = .ok (.ifCond .ge 6, 3) := by decide +kernel
theorem D58_80 : decode oY58 80 = .ok (.bipush 8, 2) := by decide +kernel
theorem D58_82 : decode oY58 82 = .ok (.ireturn, 1) := by decide +kernel
theorem D58_83 : decode oY58 83 = .ok (.lload_n 0, 1) := by decide +kernel
theorem D58_84 : decode oY58 84 = .ok (.ldc2_w 66, 3) := by decide +kernel
theorem D58_87 : decode oY58 87 = .ok (.lcmp, 1) := by decide +kernel
theorem D58_88 : decode oY58 88 = .ok (.ifCond .ge 6, 3) := by decide +kernel
theorem D58_91 : decode oY58 91 = .ok (.bipush 9, 2) := by decide +kernel
theorem D58_93 : decode oY58 93 = .ok (.ireturn, 1) := by decide +kernel
theorem D58_94 : decode oY58 94 = .ok (.bipush 10, 2) := by decide +kernel
theorem D58_96 : decode oY58 96 = .ok (.ireturn, 1) := by decide +kernel
theorem o_pn_o_digs : plainName "com/example/ferry/ferry/EndpointToStringPinLaw" = true := by first | (simp [plainName, overriddenIn]; done) | decide +kernel
def Q_o_digs (Z : State) (mL : Int64) (mm : Nat) (h0 : Heap) (n0 : Nat) (v : Option Value) (h : Heap) (L : List Loc) : Prop := v = some (.int (Int32.ofNat (o_nd mm))) ∧ Fr n0 L ∧ h = h0
theorem o_digs (l : Launch) (Z : State) (a0 : Array Value) (hw : ∀ d ∈ tables_1, d.before a0 Z = true) (ws : List Jvm.Cond) (mL : Int64) (mm : Nat) (h0 : Heap) (n0 : Nat) (Z0 : n0 ≤ h0.size) (hm : mL.toInt = (mm : Int)) :
    o_MF l o_N58 oY58 2 (some .int) ws o_R2 #[(.long mL)] Z h0 (Q_o_digs Z mL mm h0 n0) := by
  refine o_start (C := "com/example/ferry/ferry/EndpointToStringPinLaw") rfl (plainFor_of_name o_pn_o_digs) fun p e s m below meth c s1 F0 Bd hx hby hml hown hnm hZ X0 e0 hF0 => ?_
  have N0 := Fr.nil n0
  have pre0 : Goes p e below s1 F0 s1 (mkF m 0 #[.val (.long mL), .second] []) := fun t k => castTop (hF0.trans (by simp [entryFrame, mkF, argsToLocals, Value.category])) k
  have pre1 : Goes p e below s1 F0 s1 (mkF m 5 #[.val (.long mL), .second] [(.int (lcmpW mL (10 : Int64)))]) := fun t kt => pre0 t (by
    refine o_ll X0 hx hby D58_0 rfl ?_
    refine X0.ldc2Long hx hown (oW hw hZ 190 rfl) (g := (mkF m 1 #[.val (.long mL), .second] [(.long mL)])) rfl (hb hby D58_1) _ ?_
    refine XS.lcmp X0.here hx rfl (hb hby D58_4) rfl ?_
    exact kt)
  by_cases hc5_2 : (lcmpW mL (10 : Int64)) < (0 : Int32)
  · -- yes at pc 5: 
    have pre3 : Goes p e below s1 F0 s1 (mkF m 9 #[.val (.long mL), .second] [(.int 1)]) := fun t kt => pre1 t (by
      refine o_ifN X0 hx hby D58_5 ((if0 _ _).trans (tlt hc5_2).2.1) ?_
      refine o_ic X0 hx hby D58_8 ?_
      exact kt)
    refine o_eI X0 Bd hx pre3 (hb hby D58_9) e0 ?_
    exact ⟨by rw [o_ndk1 hm hc5_2]; rfl, N0, rfl⟩
  · -- no at pc 5: 
    have pre4 : Goes p e below s1 F0 s1 (mkF m 15 #[.val (.long mL), .second] [(.int (lcmpW mL (100 : Int64)))]) := fun t kt => pre1 t (by
      refine o_ifY 5 10 X0 hx hby D58_5 ((if0 _ _).trans (flt hc5_2).2.1) ?_
      refine o_ll X0 hx hby D58_10 rfl ?_
      refine X0.ldc2Long hx hown (oW hw hZ 221 rfl) (g := (mkF m 11 #[.val (.long mL), .second] [(.long mL)])) rfl (hb hby D58_11) _ ?_
      refine XS.lcmp X0.here hx rfl (hb hby D58_14) rfl ?_
      exact kt)
    by_cases hc15_5 : (lcmpW mL (100 : Int64)) < (0 : Int32)
    · -- yes at pc 15: t
      have pre6 : Goes p e below s1 F0 s1 (mkF m 19 #[.val (.long mL), .second] [(.int 2)]) := fun t kt => pre4 t (by
        refine o_ifN X0 hx hby D58_15 ((if0 _ _).trans (tlt hc15_5).2.1) ?_
        refine o_ic X0 hx hby D58_18 ?_
        exact kt)
      refine o_eI X0 Bd hx pre6 (hb hby D58_19) e0 ?_
      exact ⟨by rw [o_ndk2 hm hc5_2 hc15_5]; rfl, N0, rfl⟩
    · -- no at pc 15: t
      have pre7 : Goes p e below s1 F0 s1 (mkF m 25 #[.val (.long mL), .second] [(.int (lcmpW mL (1000 : Int64)))]) := fun t kt => pre4 t (by
        refine o_ifY 15 20 X0 hx hby D58_15 ((if0 _ _).trans (flt hc15_5).2.1) ?_
        refine o_ll X0 hx hby D58_20 rfl ?_
        refine X0.ldc2Long hx hown (oW hw hZ 222 rfl) (g := (mkF m 21 #[.val (.long mL), .second] [(.long mL)])) rfl (hb hby D58_21) _ ?_
        refine XS.lcmp X0.here hx rfl (hb hby D58_24) rfl ?_
        exact kt)
      by_cases hc25_8 : (lcmpW mL (1000 : Int64)) < (0 : Int32)
      · -- yes at pc 25: tt
        have pre9 : Goes p e below s1 F0 s1 (mkF m 29 #[.val (.long mL), .second] [(.int 3)]) := fun t kt => pre7 t (by
          refine o_ifN X0 hx hby D58_25 ((if0 _ _).trans (tlt hc25_8).2.1) ?_
          refine o_ic X0 hx hby D58_28 ?_
          exact kt)
        refine o_eI X0 Bd hx pre9 (hb hby D58_29) e0 ?_
        exact ⟨by rw [o_ndk3 hm hc15_5 hc25_8]; rfl, N0, rfl⟩
      · -- no at pc 25: tt
        have pre10 : Goes p e below s1 F0 s1 (mkF m 35 #[.val (.long mL), .second] [(.int (lcmpW mL (10000 : Int64)))]) := fun t kt => pre7 t (by
          refine o_ifY 25 30 X0 hx hby D58_25 ((if0 _ _).trans (flt hc25_8).2.1) ?_
          refine o_ll X0 hx hby D58_30 rfl ?_
          refine X0.ldc2Long hx hown (oW hw hZ 223 rfl) (g := (mkF m 31 #[.val (.long mL), .second] [(.long mL)])) rfl (hb hby D58_31) _ ?_
          refine XS.lcmp X0.here hx rfl (hb hby D58_34) rfl ?_
          exact kt)
        by_cases hc35_11 : (lcmpW mL (10000 : Int64)) < (0 : Int32)
        · -- yes at pc 35: ttt
          have pre12 : Goes p e below s1 F0 s1 (mkF m 39 #[.val (.long mL), .second] [(.int 4)]) := fun t kt => pre10 t (by
            refine o_ifN X0 hx hby D58_35 ((if0 _ _).trans (tlt hc35_11).2.1) ?_
            refine o_ic X0 hx hby D58_38 ?_
            exact kt)
          refine o_eI X0 Bd hx pre12 (hb hby D58_39) e0 ?_
          exact ⟨by rw [o_ndk4 hm hc25_8 hc35_11]; rfl, N0, rfl⟩
        · -- no at pc 35: ttt
          have pre13 : Goes p e below s1 F0 s1 (mkF m 45 #[.val (.long mL), .second] [(.int (lcmpW mL (100000 : Int64)))]) := fun t kt => pre10 t (by
            refine o_ifY 35 40 X0 hx hby D58_35 ((if0 _ _).trans (flt hc35_11).2.1) ?_
            refine o_ll X0 hx hby D58_40 rfl ?_
            refine X0.ldc2Long hx hown (oW hw hZ 224 rfl) (g := (mkF m 41 #[.val (.long mL), .second] [(.long mL)])) rfl (hb hby D58_41) _ ?_
            refine XS.lcmp X0.here hx rfl (hb hby D58_44) rfl ?_
            exact kt)
          by_cases hc45_14 : (lcmpW mL (100000 : Int64)) < (0 : Int32)
          · -- yes at pc 45: tttt
            have pre15 : Goes p e below s1 F0 s1 (mkF m 49 #[.val (.long mL), .second] [(.int 5)]) := fun t kt => pre13 t (by
              refine o_ifN X0 hx hby D58_45 ((if0 _ _).trans (tlt hc45_14).2.1) ?_
              refine o_ic X0 hx hby D58_48 ?_
              exact kt)
            refine o_eI X0 Bd hx pre15 (hb hby D58_49) e0 ?_
            exact ⟨by rw [o_ndk5 hm hc35_11 hc45_14]; rfl, N0, rfl⟩
          · -- no at pc 45: tttt
            have pre16 : Goes p e below s1 F0 s1 (mkF m 55 #[.val (.long mL), .second] [(.int (lcmpW mL (1000000 : Int64)))]) := fun t kt => pre13 t (by
              refine o_ifY 45 50 X0 hx hby D58_45 ((if0 _ _).trans (flt hc45_14).2.1) ?_
              refine o_ll X0 hx hby D58_50 rfl ?_
              refine X0.ldc2Long hx hown (oW hw hZ 225 rfl) (g := (mkF m 51 #[.val (.long mL), .second] [(.long mL)])) rfl (hb hby D58_51) _ ?_
              refine XS.lcmp X0.here hx rfl (hb hby D58_54) rfl ?_
              exact kt)
            by_cases hc55_17 : (lcmpW mL (1000000 : Int64)) < (0 : Int32)
            · -- yes at pc 55: ttttt
              have pre18 : Goes p e below s1 F0 s1 (mkF m 60 #[.val (.long mL), .second] [(.int 6)]) := fun t kt => pre16 t (by
                refine o_ifN X0 hx hby D58_55 ((if0 _ _).trans (tlt hc55_17).2.1) ?_
                refine o_bp X0 hx hby D58_58 ?_
                exact kt)
              refine o_eI X0 Bd hx pre18 (hb hby D58_60) e0 ?_
              exact ⟨by rw [o_ndk6 hm hc45_14 hc55_17]; rfl, N0, rfl⟩
            · -- no at pc 55: ttttt
              have pre19 : Goes p e below s1 F0 s1 (mkF m 66 #[.val (.long mL), .second] [(.int (lcmpW mL (10000000 : Int64)))]) := fun t kt => pre16 t (by
                refine o_ifY 55 61 X0 hx hby D58_55 ((if0 _ _).trans (flt hc55_17).2.1) ?_
                refine o_ll X0 hx hby D58_61 rfl ?_
                refine X0.ldc2Long hx hown (oW hw hZ 226 rfl) (g := (mkF m 62 #[.val (.long mL), .second] [(.long mL)])) rfl (hb hby D58_62) _ ?_
                refine XS.lcmp X0.here hx rfl (hb hby D58_65) rfl ?_
                exact kt)
              by_cases hc66_20 : (lcmpW mL (10000000 : Int64)) < (0 : Int32)
              · -- yes at pc 66: tttttt
                have pre21 : Goes p e below s1 F0 s1 (mkF m 71 #[.val (.long mL), .second] [(.int 7)]) := fun t kt => pre19 t (by
                  refine o_ifN X0 hx hby D58_66 ((if0 _ _).trans (tlt hc66_20).2.1) ?_
                  refine o_bp X0 hx hby D58_69 ?_
                  exact kt)
                refine o_eI X0 Bd hx pre21 (hb hby D58_71) e0 ?_
                exact ⟨by rw [o_ndk7 hm hc55_17 hc66_20]; rfl, N0, rfl⟩
              · -- no at pc 66: tttttt
                have pre22 : Goes p e below s1 F0 s1 (mkF m 77 #[.val (.long mL), .second] [(.int (lcmpW mL (100000000 : Int64)))]) := fun t kt => pre19 t (by
                  refine o_ifY 66 72 X0 hx hby D58_66 ((if0 _ _).trans (flt hc66_20).2.1) ?_
                  refine o_ll X0 hx hby D58_72 rfl ?_
                  refine X0.ldc2Long hx hown (oW hw hZ 227 rfl) (g := (mkF m 73 #[.val (.long mL), .second] [(.long mL)])) rfl (hb hby D58_73) _ ?_
                  refine XS.lcmp X0.here hx rfl (hb hby D58_76) rfl ?_
                  exact kt)
                by_cases hc77_23 : (lcmpW mL (100000000 : Int64)) < (0 : Int32)
                · -- yes at pc 77: ttttttt
                  have pre24 : Goes p e below s1 F0 s1 (mkF m 82 #[.val (.long mL), .second] [(.int 8)]) := fun t kt => pre22 t (by
                    refine o_ifN X0 hx hby D58_77 ((if0 _ _).trans (tlt hc77_23).2.1) ?_
                    refine o_bp X0 hx hby D58_80 ?_
                    exact kt)
                  refine o_eI X0 Bd hx pre24 (hb hby D58_82) e0 ?_
                  exact ⟨by rw [o_ndk8 hm hc66_20 hc77_23]; rfl, N0, rfl⟩
                · -- no at pc 77: ttttttt
                  have pre25 : Goes p e below s1 F0 s1 (mkF m 88 #[.val (.long mL), .second] [(.int (lcmpW mL (1000000000 : Int64)))]) := fun t kt => pre22 t (by
                    refine o_ifY 77 83 X0 hx hby D58_77 ((if0 _ _).trans (flt hc77_23).2.1) ?_
                    refine o_ll X0 hx hby D58_83 rfl ?_
                    refine X0.ldc2Long hx hown (oW hw hZ 228 rfl) (g := (mkF m 84 #[.val (.long mL), .second] [(.long mL)])) rfl (hb hby D58_84) _ ?_
                    refine XS.lcmp X0.here hx rfl (hb hby D58_87) rfl ?_
                    exact kt)
                  by_cases hc88_26 : (lcmpW mL (1000000000 : Int64)) < (0 : Int32)
                  · -- yes at pc 88: tttttttt
                    have pre27 : Goes p e below s1 F0 s1 (mkF m 93 #[.val (.long mL), .second] [(.int 9)]) := fun t kt => pre25 t (by
                      refine o_ifN X0 hx hby D58_88 ((if0 _ _).trans (tlt hc88_26).2.1) ?_
                      refine o_bp X0 hx hby D58_91 ?_
                      exact kt)
                    refine o_eI X0 Bd hx pre27 (hb hby D58_93) e0 ?_
                    exact ⟨by rw [o_ndk9 hm hc77_23 hc88_26]; rfl, N0, rfl⟩
                  · -- no at pc 88: tttttttt
                    have pre28 : Goes p e below s1 F0 s1 (mkF m 96 #[.val (.long mL), .second] [(.int 10)]) := fun t kt => pre25 t (by
                      refine o_ifY 88 94 X0 hx hby D58_88 ((if0 _ _).trans (flt hc88_26).2.1) ?_
                      refine o_bp X0 hx hby D58_94 ?_
                      exact kt)
                    refine o_eI X0 Bd hx pre28 (hb hby D58_96) e0 ?_
                    exact ⟨by rw [o_ndk10 hm hc88_26]; rfl, N0, rfl⟩
theorem D59_0 : decode oY57 0 = .ok (.bipush 10, 2) := by decide +kernel
theorem D59_2 : decode oY57 2 = .ok (.newarray .long, 2) := by decide +kernel
theorem D59_4 : decode oY57 4 = .ok (.dup, 1) := by decide +kernel
theorem D59_5 : decode oY57 5 = .ok (.iconst 0, 1) := by decide +kernel
theorem D59_6 : decode oY57 6 = .ok (.lconst 1, 1) := by decide +kernel
theorem D59_7 : decode oY57 7 = .ok (.lastore, 1) := by decide +kernel
theorem D59_8 : decode oY57 8 = .ok (.dup, 1) := by decide +kernel
theorem D59_9 : decode oY57 9 = .ok (.iconst 1, 1) := by decide +kernel
theorem D59_10 : decode oY57 10 = .ok (.ldc2_w 50, 3) := by decide +kernel
theorem D59_13 : decode oY57 13 = .ok (.lastore, 1) := by decide +kernel
theorem D59_14 : decode oY57 14 = .ok (.dup, 1) := by decide +kernel
theorem D59_15 : decode oY57 15 = .ok (.iconst 2, 1) := by decide +kernel
theorem D59_16 : decode oY57 16 = .ok (.ldc2_w 52, 3) := by decide +kernel
theorem D59_19 : decode oY57 19 = .ok (.lastore, 1) := by decide +kernel
theorem D59_20 : decode oY57 20 = .ok (.dup, 1) := by decide +kernel
theorem D59_21 : decode oY57 21 = .ok (.iconst 3, 1) := by decide +kernel
theorem D59_22 : decode oY57 22 = .ok (.ldc2_w 54, 3) := by decide +kernel
theorem D59_25 : decode oY57 25 = .ok (.lastore, 1) := by decide +kernel
theorem D59_26 : decode oY57 26 = .ok (.dup, 1) := by decide +kernel
theorem D59_27 : decode oY57 27 = .ok (.iconst 4, 1) := by decide +kernel
theorem D59_28 : decode oY57 28 = .ok (.ldc2_w 56, 3) := by decide +kernel
theorem D59_31 : decode oY57 31 = .ok (.lastore, 1) := by decide +kernel
theorem D59_32 : decode oY57 32 = .ok (.dup, 1) := by decide +kernel
theorem D59_33 : decode oY57 33 = .ok (.iconst 5, 1) := by decide +kernel
theorem D59_34 : decode oY57 34 = .ok (.ldc2_w 58, 3) := by decide +kernel
theorem D59_37 : decode oY57 37 = .ok (.lastore, 1) := by decide +kernel
theorem D59_38 : decode oY57 38 = .ok (.dup, 1) := by decide +kernel
theorem D59_39 : decode oY57 39 = .ok (.bipush 6, 2) := by decide +kernel
theorem D59_41 : decode oY57 41 = .ok (.ldc2_w 60, 3) := by decide +kernel
theorem D59_44 : decode oY57 44 = .ok (.lastore, 1) := by decide +kernel
theorem D59_45 : decode oY57 45 = .ok (.dup, 1) := by decide +kernel
theorem D59_46 : decode oY57 46 = .ok (.bipush 7, 2) := by decide +kernel
theorem D59_48 : decode oY57 48 = .ok (.ldc2_w 62, 3) := by decide +kernel
theorem D59_51 : decode oY57 51 = .ok (.lastore, 1) := by decide +kernel
theorem D59_52 : decode oY57 52 = .ok (.dup, 1) := by decide +kernel
theorem D59_53 : decode oY57 53 = .ok (.bipush 8, 2) := by decide +kernel
theorem D59_55 : decode oY57 55 = .ok (.ldc2_w 64, 3) := by decide +kernel
theorem D59_58 : decode oY57 58 = .ok (.lastore, 1) := by decide +kernel
theorem D59_59 : decode oY57 59 = .ok (.dup, 1) := by decide +kernel
theorem D59_60 : decode oY57 60 = .ok (.bipush 9, 2) := by decide +kernel
theorem D59_62 : decode oY57 62 = .ok (.ldc2_w 66, 3) := by decide +kernel
theorem D59_65 : decode oY57 65 = .ok (.lastore, 1) := by decide +kernel
theorem D59_66 : decode oY57 66 = .ok (.astore_n 1, 1) := by decide +kernel
theorem D59_67 : decode oY57 67 = .ok (.aload_n 1, 1) := by decide +kernel
theorem D59_68 : decode oY57 68 = .ok (.iload_n 0, 1) := by decide +kernel
theorem D59_69 : decode oY57 69 = .ok (.laload, 1) := by decide +kernel
theorem D59_70 : decode oY57 70 = .ok (.lreturn, 1) := by decide +kernel
def Q_o_p10 (Z : State) (xx : Nat) (h0 : Heap) (n0 : Nat) (v : Option Value) (h : Heap) (L : List Loc) : Prop := ∃ z : Int64, v = some (.long z) ∧ Fr n0 L ∧ Keep h0 h [] ∧ z.toInt = ((10 ^ xx : Nat) : Int)
theorem o_p10 (l : Launch) (Z : State) (a0 : Array Value) (hw : ∀ d ∈ tables_1, d.before a0 Z = true) (ws : List Jvm.Cond) (xx : Nat) (h0 : Heap) (n0 : Nat) (Z0 : n0 ≤ h0.size) (hxx : xx < 10) :
    o_MF l o_N59 oY57 2 (some .long) ws o_R54 #[(.int (Int32.ofNat xx))] Z h0 (Q_o_p10 Z xx h0 n0) := by
  refine o_start (C := "com/example/ferry/ferry/EndpointToStringPinLaw") rfl (plainFor_of_name o_pn_o_digs) fun p e s m below meth c s1 F0 Bd hx hby hml hown hnm hZ X0 e0 hF0 => ?_
  have N0 := Fr.nil n0
  have pre0 : Goes p e below s1 F0 s1 (mkF m 0 #[oI (Int32.ofNat xx), oU] []) := fun t k => castTop (hF0.trans (by simp [entryFrame, mkF, argsToLocals, Value.category])) k
  obtain ⟨T1, h1, k1, X1, e1, E1, A1, st1⟩ := newP X0 hx hZ (oV hw 220 rfl) e0 (g := (mkF m 2 #[oI (Int32.ofNat xx), oU] [(.int 10)])) rfl (hb hby D59_2) rfl (by decide) (cap := 10) (by decide) (by decide) (by decide) (by decide)
  obtain ⟨b1, g1⟩ : ∃ z, z = h0.size := ⟨_, rfl⟩
  rw [← g1] at A1 st1
  have V_b1 : Arv Z h1 b1 k1 .long (10 : Int32) [(.long (0 : Int64)), (.long (0 : Int64)), (.long (0 : Int64)), (.long (0 : Int64)), (.long (0 : Int64)), (.long (0 : Int64)), (.long (0 : Int64)), (.long (0 : Int64)), (.long (0 : Int64)), (.long (0 : Int64))] (.long (0 : Int64)) := (Arv.new A1 (by decide)).pad (pad_rep [] (.long (0 : Int64)) 10)
  have g_b1 : n0 ≤ b1 := Nat.le_trans Z0 (Nat.le_of_eq g1.symm)
  have sz_b1 : h0.size ≤ b1 := (Nat.le_trans (Keep.refl h0 []).1 (Nat.le_of_eq g1.symm))
  have K1 : Keep h0 h1 [] := (Keep.refl h0 []).ext E1
  have pre2 : Goes p e below s1 F0 T1 (mkF m 4 #[oI (Int32.ofNat xx), oU] [(.ref b1)]) := fun t kt => pre0 t (by
    refine o_bp X0 hx hby D59_0 ?_
    exact st1 t kt)
  obtain ⟨cl3, Ar3, q3, S3, N_3, H3, G3⟩ := (id (V_b1))
  have hin3 : ¬ ((0 : Int32) < 0 ∨ cl3.slots.size ≤ ((0 : Int32)).toNatClampNeg) := inb_of S3 ⟨by decide, by decide⟩
  obtain ⟨T4, h4, X4, e4, W4, st4⟩ := stJ X1 hx hZ e1 Ar3 (j := (0 : Int32)) hin3 (g := (mkF m 7 #[oI (Int32.ofNat xx), oU] [(.long (1 : Int64)), (.int 0), (.ref b1), (.ref b1)])) rfl rfl (hb hby D59_7)
  have V4 : Arv Z h4 b1 k1 .long (10 : Int32) [(.long (1 : Int64)), (.long (0 : Int64)), (.long (0 : Int64)), (.long (0 : Int64)), (.long (0 : Int64)), (.long (0 : Int64)), (.long (0 : Int64)), (.long (0 : Int64)), (.long (0 : Int64)), (.long (0 : Int64))] (.long (0 : Int64)) := Arv.set Ar3 q3 S3 N_3 H3 G3 rfl W4 0 rfl (Nat.le_of_ble_eq_true rfl)
  have K4 : Keep h0 h4 [] := K1.wr W4 (Or.inr sz_b1)
  have N4 := Fr.snoc X4 N0 g_b1
  have pre5 : Goes p e below s1 F0 T4 (mkF m 8 #[oI (Int32.ofNat xx), oU] [(.ref b1)]) := fun t kt => pre2 t (by
    refine XS.dup X1.here hx rfl (hb hby D59_4) rfl rfl ?_
    refine o_ic X1 hx hby D59_5 ?_
    refine XS.lconst X1.here hx rfl (hb hby D59_6) ?_
    exact st4 t kt)
  obtain ⟨cl6, Ar6, q6, S6, N_6, H6, G6⟩ := (id (V4))
  have hin6 : ¬ ((1 : Int32) < 0 ∨ cl6.slots.size ≤ ((1 : Int32)).toNatClampNeg) := inb_of S6 ⟨by decide, by decide⟩
  obtain ⟨T7, h7, X7, e7, W7, st7⟩ := stJ X4 hx hZ e4 Ar6 (j := (1 : Int32)) hin6 (g := (mkF m 13 #[oI (Int32.ofNat xx), oU] [(.long (10 : Int64)), (.int 1), (.ref b1), (.ref b1)])) rfl rfl (hb hby D59_13)
  have V7 : Arv Z h7 b1 k1 .long (10 : Int32) [(.long (1 : Int64)), (.long (10 : Int64)), (.long (0 : Int64)), (.long (0 : Int64)), (.long (0 : Int64)), (.long (0 : Int64)), (.long (0 : Int64)), (.long (0 : Int64)), (.long (0 : Int64)), (.long (0 : Int64))] (.long (0 : Int64)) := Arv.set Ar6 q6 S6 N_6 H6 G6 rfl W7 1 rfl (Nat.le_of_ble_eq_true rfl)
  have K7 : Keep h0 h7 [] := K4.wr W7 (Or.inr sz_b1)
  have N7 := Fr.snoc X7 N4 g_b1
  have pre8 : Goes p e below s1 F0 T7 (mkF m 14 #[oI (Int32.ofNat xx), oU] [(.ref b1)]) := fun t kt => pre5 t (by
    refine XS.dup X4.here hx rfl (hb hby D59_8) rfl rfl ?_
    refine o_ic X4 hx hby D59_9 ?_
    refine X4.ldc2Long hx hown (oW hw hZ 190 rfl) (g := (mkF m 10 #[oI (Int32.ofNat xx), oU] [(.int 1), (.ref b1), (.ref b1)])) rfl (hb hby D59_10) _ ?_
    exact st7 t kt)
  obtain ⟨cl9, Ar9, q9, S9, N_9, H9, G9⟩ := (id (V7))
  have hin9 : ¬ ((2 : Int32) < 0 ∨ cl9.slots.size ≤ ((2 : Int32)).toNatClampNeg) := inb_of S9 ⟨by decide, by decide⟩
  obtain ⟨T10, h10, X10, e10, W10, st10⟩ := stJ X7 hx hZ e7 Ar9 (j := (2 : Int32)) hin9 (g := (mkF m 19 #[oI (Int32.ofNat xx), oU] [(.long (100 : Int64)), (.int 2), (.ref b1), (.ref b1)])) rfl rfl (hb hby D59_19)
  have V10 : Arv Z h10 b1 k1 .long (10 : Int32) [(.long (1 : Int64)), (.long (10 : Int64)), (.long (100 : Int64)), (.long (0 : Int64)), (.long (0 : Int64)), (.long (0 : Int64)), (.long (0 : Int64)), (.long (0 : Int64)), (.long (0 : Int64)), (.long (0 : Int64))] (.long (0 : Int64)) := Arv.set Ar9 q9 S9 N_9 H9 G9 rfl W10 2 rfl (Nat.le_of_ble_eq_true rfl)
  have K10 : Keep h0 h10 [] := K7.wr W10 (Or.inr sz_b1)
  have N10 := Fr.snoc X10 N7 g_b1
  have pre11 : Goes p e below s1 F0 T10 (mkF m 20 #[oI (Int32.ofNat xx), oU] [(.ref b1)]) := fun t kt => pre8 t (by
    refine XS.dup X7.here hx rfl (hb hby D59_14) rfl rfl ?_
    refine o_ic X7 hx hby D59_15 ?_
    refine X7.ldc2Long hx hown (oW hw hZ 221 rfl) (g := (mkF m 16 #[oI (Int32.ofNat xx), oU] [(.int 2), (.ref b1), (.ref b1)])) rfl (hb hby D59_16) _ ?_
    exact st10 t kt)
  obtain ⟨cl12, Ar12, q12, S12, N_12, H12, G12⟩ := (id (V10))
  have hin12 : ¬ ((3 : Int32) < 0 ∨ cl12.slots.size ≤ ((3 : Int32)).toNatClampNeg) := inb_of S12 ⟨by decide, by decide⟩
  obtain ⟨T13, h13, X13, e13, W13, st13⟩ := stJ X10 hx hZ e10 Ar12 (j := (3 : Int32)) hin12 (g := (mkF m 25 #[oI (Int32.ofNat xx), oU] [(.long (1000 : Int64)), (.int 3), (.ref b1), (.ref b1)])) rfl rfl (hb hby D59_25)
  have V13 : Arv Z h13 b1 k1 .long (10 : Int32) [(.long (1 : Int64)), (.long (10 : Int64)), (.long (100 : Int64)), (.long (1000 : Int64)), (.long (0 : Int64)), (.long (0 : Int64)), (.long (0 : Int64)), (.long (0 : Int64)), (.long (0 : Int64)), (.long (0 : Int64))] (.long (0 : Int64)) := Arv.set Ar12 q12 S12 N_12 H12 G12 rfl W13 3 rfl (Nat.le_of_ble_eq_true rfl)
  have K13 : Keep h0 h13 [] := K10.wr W13 (Or.inr sz_b1)
  have N13 := Fr.snoc X13 N10 g_b1
  have pre14 : Goes p e below s1 F0 T13 (mkF m 26 #[oI (Int32.ofNat xx), oU] [(.ref b1)]) := fun t kt => pre11 t (by
    refine XS.dup X10.here hx rfl (hb hby D59_20) rfl rfl ?_
    refine o_ic X10 hx hby D59_21 ?_
    refine X10.ldc2Long hx hown (oW hw hZ 222 rfl) (g := (mkF m 22 #[oI (Int32.ofNat xx), oU] [(.int 3), (.ref b1), (.ref b1)])) rfl (hb hby D59_22) _ ?_
    exact st13 t kt)
  obtain ⟨cl15, Ar15, q15, S15, N_15, H15, G15⟩ := (id (V13))
  have hin15 : ¬ ((4 : Int32) < 0 ∨ cl15.slots.size ≤ ((4 : Int32)).toNatClampNeg) := inb_of S15 ⟨by decide, by decide⟩
  obtain ⟨T16, h16, X16, e16, W16, st16⟩ := stJ X13 hx hZ e13 Ar15 (j := (4 : Int32)) hin15 (g := (mkF m 31 #[oI (Int32.ofNat xx), oU] [(.long (10000 : Int64)), (.int 4), (.ref b1), (.ref b1)])) rfl rfl (hb hby D59_31)
  have V16 : Arv Z h16 b1 k1 .long (10 : Int32) [(.long (1 : Int64)), (.long (10 : Int64)), (.long (100 : Int64)), (.long (1000 : Int64)), (.long (10000 : Int64)), (.long (0 : Int64)), (.long (0 : Int64)), (.long (0 : Int64)), (.long (0 : Int64)), (.long (0 : Int64))] (.long (0 : Int64)) := Arv.set Ar15 q15 S15 N_15 H15 G15 rfl W16 4 rfl (Nat.le_of_ble_eq_true rfl)
  have K16 : Keep h0 h16 [] := K13.wr W16 (Or.inr sz_b1)
  have N16 := Fr.snoc X16 N13 g_b1
  have pre17 : Goes p e below s1 F0 T16 (mkF m 32 #[oI (Int32.ofNat xx), oU] [(.ref b1)]) := fun t kt => pre14 t (by
    refine XS.dup X13.here hx rfl (hb hby D59_26) rfl rfl ?_
    refine o_ic X13 hx hby D59_27 ?_
    refine X13.ldc2Long hx hown (oW hw hZ 223 rfl) (g := (mkF m 28 #[oI (Int32.ofNat xx), oU] [(.int 4), (.ref b1), (.ref b1)])) rfl (hb hby D59_28) _ ?_
    exact st16 t kt)
  obtain ⟨cl18, Ar18, q18, S18, N_18, H18, G18⟩ := (id (V16))
  have hin18 : ¬ ((5 : Int32) < 0 ∨ cl18.slots.size ≤ ((5 : Int32)).toNatClampNeg) := inb_of S18 ⟨by decide, by decide⟩
  obtain ⟨T19, h19, X19, e19, W19, st19⟩ := stJ X16 hx hZ e16 Ar18 (j := (5 : Int32)) hin18 (g := (mkF m 37 #[oI (Int32.ofNat xx), oU] [(.long (100000 : Int64)), (.int 5), (.ref b1), (.ref b1)])) rfl rfl (hb hby D59_37)
  have V19 : Arv Z h19 b1 k1 .long (10 : Int32) [(.long (1 : Int64)), (.long (10 : Int64)), (.long (100 : Int64)), (.long (1000 : Int64)), (.long (10000 : Int64)), (.long (100000 : Int64)), (.long (0 : Int64)), (.long (0 : Int64)), (.long (0 : Int64)), (.long (0 : Int64))] (.long (0 : Int64)) := Arv.set Ar18 q18 S18 N_18 H18 G18 rfl W19 5 rfl (Nat.le_of_ble_eq_true rfl)
  have K19 : Keep h0 h19 [] := K16.wr W19 (Or.inr sz_b1)
  have N19 := Fr.snoc X19 N16 g_b1
  have pre20 : Goes p e below s1 F0 T19 (mkF m 38 #[oI (Int32.ofNat xx), oU] [(.ref b1)]) := fun t kt => pre17 t (by
    refine XS.dup X16.here hx rfl (hb hby D59_32) rfl rfl ?_
    refine o_ic X16 hx hby D59_33 ?_
    refine X16.ldc2Long hx hown (oW hw hZ 224 rfl) (g := (mkF m 34 #[oI (Int32.ofNat xx), oU] [(.int 5), (.ref b1), (.ref b1)])) rfl (hb hby D59_34) _ ?_
    exact st19 t kt)
  obtain ⟨cl21, Ar21, q21, S21, N_21, H21, G21⟩ := (id (V19))
  have hin21 : ¬ ((6 : Int32) < 0 ∨ cl21.slots.size ≤ ((6 : Int32)).toNatClampNeg) := inb_of S21 ⟨by decide, by decide⟩
  obtain ⟨T22, h22, X22, e22, W22, st22⟩ := stJ X19 hx hZ e19 Ar21 (j := (6 : Int32)) hin21 (g := (mkF m 44 #[oI (Int32.ofNat xx), oU] [(.long (1000000 : Int64)), (.int 6), (.ref b1), (.ref b1)])) rfl rfl (hb hby D59_44)
  have V22 : Arv Z h22 b1 k1 .long (10 : Int32) [(.long (1 : Int64)), (.long (10 : Int64)), (.long (100 : Int64)), (.long (1000 : Int64)), (.long (10000 : Int64)), (.long (100000 : Int64)), (.long (1000000 : Int64)), (.long (0 : Int64)), (.long (0 : Int64)), (.long (0 : Int64))] (.long (0 : Int64)) := Arv.set Ar21 q21 S21 N_21 H21 G21 rfl W22 6 rfl (Nat.le_of_ble_eq_true rfl)
  have K22 : Keep h0 h22 [] := K19.wr W22 (Or.inr sz_b1)
  have N22 := Fr.snoc X22 N19 g_b1
  have pre23 : Goes p e below s1 F0 T22 (mkF m 45 #[oI (Int32.ofNat xx), oU] [(.ref b1)]) := fun t kt => pre20 t (by
    refine XS.dup X19.here hx rfl (hb hby D59_38) rfl rfl ?_
    refine o_bp X19 hx hby D59_39 ?_
    refine X19.ldc2Long hx hown (oW hw hZ 225 rfl) (g := (mkF m 41 #[oI (Int32.ofNat xx), oU] [(.int 6), (.ref b1), (.ref b1)])) rfl (hb hby D59_41) _ ?_
    exact st22 t kt)
  obtain ⟨cl24, Ar24, q24, S24, N_24, H24, G24⟩ := (id (V22))
  have hin24 : ¬ ((7 : Int32) < 0 ∨ cl24.slots.size ≤ ((7 : Int32)).toNatClampNeg) := inb_of S24 ⟨by decide, by decide⟩
  obtain ⟨T25, h25, X25, e25, W25, st25⟩ := stJ X22 hx hZ e22 Ar24 (j := (7 : Int32)) hin24 (g := (mkF m 51 #[oI (Int32.ofNat xx), oU] [(.long (10000000 : Int64)), (.int 7), (.ref b1), (.ref b1)])) rfl rfl (hb hby D59_51)
  have V25 : Arv Z h25 b1 k1 .long (10 : Int32) [(.long (1 : Int64)), (.long (10 : Int64)), (.long (100 : Int64)), (.long (1000 : Int64)), (.long (10000 : Int64)), (.long (100000 : Int64)), (.long (1000000 : Int64)), (.long (10000000 : Int64)), (.long (0 : Int64)), (.long (0 : Int64))] (.long (0 : Int64)) := Arv.set Ar24 q24 S24 N_24 H24 G24 rfl W25 7 rfl (Nat.le_of_ble_eq_true rfl)
  have K25 : Keep h0 h25 [] := K22.wr W25 (Or.inr sz_b1)
  have N25 := Fr.snoc X25 N22 g_b1
  have pre26 : Goes p e below s1 F0 T25 (mkF m 52 #[oI (Int32.ofNat xx), oU] [(.ref b1)]) := fun t kt => pre23 t (by
    refine XS.dup X22.here hx rfl (hb hby D59_45) rfl rfl ?_
    refine o_bp X22 hx hby D59_46 ?_
    refine X22.ldc2Long hx hown (oW hw hZ 226 rfl) (g := (mkF m 48 #[oI (Int32.ofNat xx), oU] [(.int 7), (.ref b1), (.ref b1)])) rfl (hb hby D59_48) _ ?_
    exact st25 t kt)
  obtain ⟨cl27, Ar27, q27, S27, N_27, H27, G27⟩ := (id (V25))
  have hin27 : ¬ ((8 : Int32) < 0 ∨ cl27.slots.size ≤ ((8 : Int32)).toNatClampNeg) := inb_of S27 ⟨by decide, by decide⟩
  obtain ⟨T28, h28, X28, e28, W28, st28⟩ := stJ X25 hx hZ e25 Ar27 (j := (8 : Int32)) hin27 (g := (mkF m 58 #[oI (Int32.ofNat xx), oU] [(.long (100000000 : Int64)), (.int 8), (.ref b1), (.ref b1)])) rfl rfl (hb hby D59_58)
  have V28 : Arv Z h28 b1 k1 .long (10 : Int32) [(.long (1 : Int64)), (.long (10 : Int64)), (.long (100 : Int64)), (.long (1000 : Int64)), (.long (10000 : Int64)), (.long (100000 : Int64)), (.long (1000000 : Int64)), (.long (10000000 : Int64)), (.long (100000000 : Int64)), (.long (0 : Int64))] (.long (0 : Int64)) := Arv.set Ar27 q27 S27 N_27 H27 G27 rfl W28 8 rfl (Nat.le_of_ble_eq_true rfl)
  have K28 : Keep h0 h28 [] := K25.wr W28 (Or.inr sz_b1)
  have N28 := Fr.snoc X28 N25 g_b1
  have pre29 : Goes p e below s1 F0 T28 (mkF m 59 #[oI (Int32.ofNat xx), oU] [(.ref b1)]) := fun t kt => pre26 t (by
    refine XS.dup X25.here hx rfl (hb hby D59_52) rfl rfl ?_
    refine o_bp X25 hx hby D59_53 ?_
    refine X25.ldc2Long hx hown (oW hw hZ 227 rfl) (g := (mkF m 55 #[oI (Int32.ofNat xx), oU] [(.int 8), (.ref b1), (.ref b1)])) rfl (hb hby D59_55) _ ?_
    exact st28 t kt)
  obtain ⟨cl30, Ar30, q30, S30, N_30, H30, G30⟩ := (id (V28))
  have hin30 : ¬ ((9 : Int32) < 0 ∨ cl30.slots.size ≤ ((9 : Int32)).toNatClampNeg) := inb_of S30 ⟨by decide, by decide⟩
  obtain ⟨T31, h31, X31, e31, W31, st31⟩ := stJ X28 hx hZ e28 Ar30 (j := (9 : Int32)) hin30 (g := (mkF m 65 #[oI (Int32.ofNat xx), oU] [(.long (1000000000 : Int64)), (.int 9), (.ref b1), (.ref b1)])) rfl rfl (hb hby D59_65)
  have V31 : Arv Z h31 b1 k1 .long (10 : Int32) [(.long (1 : Int64)), (.long (10 : Int64)), (.long (100 : Int64)), (.long (1000 : Int64)), (.long (10000 : Int64)), (.long (100000 : Int64)), (.long (1000000 : Int64)), (.long (10000000 : Int64)), (.long (100000000 : Int64)), (.long (1000000000 : Int64))] (.long (0 : Int64)) := Arv.set Ar30 q30 S30 N_30 H30 G30 rfl W31 9 rfl (Nat.le_of_ble_eq_true rfl)
  have K31 : Keep h0 h31 [] := K28.wr W31 (Or.inr sz_b1)
  have N31 := Fr.snoc X31 N28 g_b1
  have pre32 : Goes p e below s1 F0 T31 (mkF m 66 #[oI (Int32.ofNat xx), oU] [(.ref b1)]) := fun t kt => pre29 t (by
    refine XS.dup X28.here hx rfl (hb hby D59_59) rfl rfl ?_
    refine o_bp X28 hx hby D59_60 ?_
    refine X28.ldc2Long hx hown (oW hw hZ 228 rfl) (g := (mkF m 62 #[oI (Int32.ofNat xx), oU] [(.int 9), (.ref b1), (.ref b1)])) rfl (hb hby D59_62) _ ?_
    exact st31 t kt)
  have pre33 : Goes p e below s1 F0 T31 (mkF m 69 #[oI (Int32.ofNat xx), oR b1] [(.int (Int32.ofNat xx)), (.ref b1)]) := fun t kt => pre32 t (by
    refine XS.astoreN X31.here hx rfl (hb hby D59_66) rfl rfl (l' := #[oI (Int32.ofNat xx), oR b1]) rfl ?_
    refine o_al X31 hx hby D59_67 rfl ?_
    refine o_il X31 hx hby D59_68 rfl ?_
    exact kt)
  obtain ⟨clq, Arq, qq, Sq, N_q, Hq, Gq⟩ := (id (V31))
  have hinq : ¬ ((Int32.ofNat xx) < 0 ∨ clq.slots.size ≤ ((Int32.ofNat xx)).toNatClampNeg) := inb_of Sq ⟨o_onn (by omega), o_olt (b := 10) hxx (by decide)⟩
  obtain ⟨pz, hpz, hp2⟩ := o_p10v Hq hinq hxx
  have pre34 : Goes p e below s1 F0 T31 (mkF m 70 #[oI (Int32.ofNat xx), oR b1] [(.long pz)]) := fun t kt => pre33 t (by
    refine X31.laload hx (j := (Int32.ofNat xx)) (v := (.long pz)) (by (try rw [e31]); exact Arq.1) (State.isArrayOf_alike hZ.alike Arq.2.1) Arq.2.2 hinq hpz (g := (mkF m 69 #[oI (Int32.ofNat xx), oR b1] [(.int (Int32.ofNat xx)), (.ref b1)])) rfl rfl (hb hby D59_69) _ ?_
    exact kt)
  refine o_eJ X31 Bd hx pre34 (hb hby D59_70) e31 ?_
  exact ⟨_, rfl, N31, K31, hp2⟩
theorem D60_0 : decode oY56 0 = .ok (.iload_n 2, 1) := by decide +kernel
theorem D60_1 : decode oY56 1 = .ok (.iload 7, 2) := by decide +kernel
theorem D60_3 : decode oY56 3 = .ok (.if_icmp .lt 5, 3) := by decide +kernel
theorem D60_6 : decode oY56 6 = .ok (.iconst 1, 1) := by decide +kernel
theorem D60_7 : decode oY56 7 = .ok (.ireturn, 1) := by decide +kernel
theorem D60_8 : decode oY56 8 = .ok (.iload_n 3, 1) := by decide +kernel
theorem D60_9 : decode oY56 9 = .ok (.ifCond .eq 14, 3) := by decide +kernel
theorem D60_12 : decode oY56 12 = .ok (.iload_n 2, 1) := by decide +kernel
theorem D60_13 : decode oY56 13 = .ok (.ifCond .ne 10, 3) := by decide +kernel
theorem D60_16 : decode oY56 16 = .ok (.bipush 45, 2) := by decide +kernel
theorem D60_18 : decode oY56 18 = .ok (.istore 8, 2) := by decide +kernel
theorem D60_20 : decode oY56 20 = .ok (.goto 44, 3) := by decide +kernel
theorem D60_23 : decode oY56 23 = .ok (.iload_n 2, 1) := by decide +kernel
theorem D60_24 : decode oY56 24 = .ok (.iload_n 3, 1) := by decide +kernel
theorem D60_25 : decode oY56 25 = .ok (.ifCond .eq 7, 3) := by decide +kernel
theorem D60_28 : decode oY56 28 = .ok (.iconst 1, 1) := by decide +kernel
theorem D60_29 : decode oY56 29 = .ok (.goto 4, 3) := by decide +kernel
theorem D60_32 : decode oY56 32 = .ok (.iconst 0, 1) := by decide +kernel
theorem D60_33 : decode oY56 33 = .ok (.isub, 1) := by decide +kernel
theorem D60_34 : decode oY56 34 = .ok (.istore 9, 2) := by decide +kernel
theorem D60_36 : decode oY56 36 = .ok (.iload 6, 2) := by decide +kernel
theorem D60_38 : decode oY56 38 = .ok (.iconst 1, 1) := by decide +kernel
theorem D60_39 : decode oY56 39 = .ok (.isub, 1) := by decide +kernel
theorem D60_40 : decode oY56 40 = .ok (.iload 9, 2) := by decide +kernel
theorem D60_42 : decode oY56 42 = .ok (.isub, 1) := by decide +kernel
theorem D60_43 : decode oY56 43 = .ok (.invokestatic 46, 3) := by decide +kernel
theorem D60_46 : decode oY56 46 = .ok (.lstore 10, 2) := by decide +kernel
theorem D60_48 : decode oY56 48 = .ok (.bipush 48, 2) := by decide +kernel
theorem D60_50 : decode oY56 50 = .ok (.lload 4, 2) := by decide +kernel
theorem D60_52 : decode oY56 52 = .ok (.lload 10, 2) := by decide +kernel
theorem D60_54 : decode oY56 54 = .ok (.ldiv, 1) := by decide +kernel
theorem D60_55 : decode oY56 55 = .ok (.ldc2_w 50, 3) := by decide +kernel
theorem D60_58 : decode oY56 58 = .ok (.lrem, 1) := by decide +kernel
theorem D60_59 : decode oY56 59 = .ok (.l2i, 1) := by decide +kernel
theorem D60_60 : decode oY56 60 = .ok (.iadd, 1) := by decide +kernel
theorem D60_61 : decode oY56 61 = .ok (.i2c, 1) := by decide +kernel
theorem D60_62 : decode oY56 62 = .ok (.istore 8, 2) := by decide +kernel
theorem D60_64 : decode oY56 64 = .ok (.aload_n 0, 1) := by decide +kernel
theorem D60_65 : decode oY56 65 = .ok (.iload_n 1, 1) := by decide +kernel
theorem D60_66 : decode oY56 66 = .ok (.iload_n 2, 1) := by decide +kernel
theorem D60_67 : decode oY56 67 = .ok (.iadd, 1) := by decide +kernel
theorem D60_68 : decode oY56 68 = .ok (.invokevirtual 38, 3) := by decide +kernel
theorem D60_71 : decode oY56 71 = .ok (.iload 8, 2) := by decide +kernel
theorem D60_73 : decode oY56 73 = .ok (.if_icmp .ne 7, 3) := by decide +kernel
theorem D60_76 : decode oY56 76 = .ok (.iconst 1, 1) := by decide +kernel
theorem D60_77 : decode oY56 77 = .ok (.goto 4, 3) := by decide +kernel
theorem D60_81 : decode oY56 81 = .ok (.ireturn, 1) := by decide +kernel
def Q_o_at (Z : State) (a1 : Addr) (cd : Int32) (y : Addr) (bs kk : Nat) (ng : Int32) (mL : Int64) (pp cs : Int32) (fm : Value) (h0 : Heap) (n0 : Nat) (v : Option Value) (h : Heap) (L : List Loc) : Prop := v = some (.int 1) ∧ Fr n0 L ∧ Keep h0 h []
theorem o_at (l : Launch) (Z : State) (a0 : Array Value) (hw : ∀ d ∈ tables_1, d.before a0 Z = true) (ws : List Jvm.Cond) (a1 : Addr) (cd : Int32) (y : Addr) (bs kk : Nat) (ng : Int32) (mL : Int64) (pp cs : Int32) (fm : Value) (h0 : Heap) (n0 : Nat) (Z0 : n0 ≤ h0.size) (E_a1 : Exa Z h0 a1 "java/lang/String") (Fc : Fld Z h0 a1 "java/lang/String" "coder" "B" (.int cd)) (Fv : Fld Z h0 a1 "java/lang/String" "value" "[B" (.ref y)) (hrd : kk < o_pl pp → o_RD Z h0 y cd (Int32.ofNat (bs + kk)) (o_pc pp kk)) (hng : ng = Int32.ofNat (o_sg pp)) (hm : mL.toInt = (o_M pp : Int)) (hbs : bs + kk ≤ 100) (hst : o_ST Z cs fm) (O0 : Old Z n0 h0) :
    o_MF l o_N60 oY56 12 (some .boolean) ws o_R55 #[(.ref a1), (.int (Int32.ofNat bs)), (.int (Int32.ofNat kk)), (.int ng), (.long mL), (.int (Int32.ofNat (o_nd (o_M pp)))), (.int (Int32.ofNat (o_pl pp)))] Z h0 (Q_o_at Z a1 cd y bs kk ng mL pp cs fm h0 n0) := by
  refine o_start (C := "com/example/ferry/ferry/EndpointToStringPinLaw") rfl (plainFor_of_name o_pn_o_digs) fun p e s m below meth c s1 F0 Bd hx hby hml hown hnm hZ X0 e0 hF0 => ?_
  have N0 := Fr.nil n0
  have pre0 : Goes p e below s1 F0 s1 (mkF m 0 #[oR a1, oI (Int32.ofNat bs), oI (Int32.ofNat kk), oI ng, .val (.long mL), .second, oI (Int32.ofNat (o_nd (o_M pp))), oI (Int32.ofNat (o_pl pp)), oU, oU, oU, oU] []) := fun t k => castTop (hF0.trans (by simp [entryFrame, mkF, argsToLocals, Value.category])) k
  have hnd1 := o_nd_pos (o_M pp)
  have hnd2 := o_nd_le (o_M pp)
  have hsg := o_sg_le pp
  have hplv : o_pl pp = o_nd (o_M pp) + o_sg pp := rfl
  have pre1 : Goes p e below s1 F0 s1 (mkF m 3 #[oR a1, oI (Int32.ofNat bs), oI (Int32.ofNat kk), oI ng, .val (.long mL), .second, oI (Int32.ofNat (o_nd (o_M pp))), oI (Int32.ofNat (o_pl pp)), oU, oU, oU, oU] [(.int (Int32.ofNat (o_pl pp))), (.int (Int32.ofNat kk))]) := fun t kt => pre0 t (by
    refine o_il X0 hx hby D60_0 rfl ?_
    refine o_iL X0 hx hby D60_1 rfl ?_
    exact kt)
  by_cases hc3_2 : (Int32.ofNat kk) < (Int32.ofNat (o_pl pp))
  · -- yes at pc 3: 
    have hkp : kk < o_pl pp := o_klt hc3_2 (by omega) (by omega)
    have pre3 : Goes p e below s1 F0 s1 (mkF m 9 #[oR a1, oI (Int32.ofNat bs), oI (Int32.ofNat kk), oI ng, .val (.long mL), .second, oI (Int32.ofNat (o_nd (o_M pp))), oI (Int32.ofNat (o_pl pp)), oU, oU, oU, oU] [(.int ng)]) := fun t kt => pre1 t (by
      refine o_icY 3 8 X0 hx hby D60_3 (tlt hc3_2).1 ?_
      refine o_il X0 hx hby D60_8 rfl ?_
      exact kt)
    by_cases hc9_4 : ng = (0 : Int32)
    · -- yes at pc 9: t
      have hs : o_sg pp = 0 := o_sz hng hc9_4
      have pre5 : Goes p e below s1 F0 s1 (mkF m 43 #[oR a1, oI (Int32.ofNat bs), oI (Int32.ofNat kk), oI ng, .val (.long mL), .second, oI (Int32.ofNat (o_nd (o_M pp))), oI (Int32.ofNat (o_pl pp)), oU, oI ((Int32.ofNat kk) - (0 : Int32)), oU, oU] [(.int (((Int32.ofNat (o_nd (o_M pp))) - (1 : Int32)) - ((Int32.ofNat kk) - (0 : Int32))))]) := fun t kt => pre3 t (by
        refine o_ifY 9 23 X0 hx hby D60_9 ((if0 _ _).trans (teq hc9_4).1) ?_
        refine o_il X0 hx hby D60_23 rfl ?_
        refine o_il X0 hx hby D60_24 rfl ?_
        refine o_ifY 25 32 X0 hx hby D60_25 ((if0 _ _).trans (teq hc9_4).1) ?_
        refine o_ic X0 hx hby D60_32 ?_
        refine XS.isub X0.here hx rfl (hb hby D60_33) rfl ?_
        refine XS.istore X0.here hx rfl (hb hby D60_34) rfl (l' := #[oR a1, oI (Int32.ofNat bs), oI (Int32.ofNat kk), oI ng, .val (.long mL), .second, oI (Int32.ofNat (o_nd (o_M pp))), oI (Int32.ofNat (o_pl pp)), oU, oI ((Int32.ofNat kk) - (0 : Int32)), oU, oU]) rfl ?_
        refine o_iL X0 hx hby D60_36 rfl ?_
        show Steps p.tables e below (s1.setTop (mkF m 38 #[oR a1, oI (Int32.ofNat bs), oI (Int32.ofNat kk), oI ng, .val (.long mL), .second, oI (Int32.ofNat (o_nd (o_M pp))), oI (Int32.ofNat (o_pl pp)), oU, oI ((Int32.ofNat kk) - (0 : Int32)), oU, oU] [(.int (Int32.ofNat (o_nd (o_M pp))))])) _
        refine o_ic X0 hx hby D60_38 ?_
        refine XS.isub X0.here hx rfl (hb hby D60_39) rfl ?_
        refine o_iL X0 hx hby D60_40 rfl ?_
        refine XS.isub X0.here hx rfl (hb hby D60_42) rfl ?_
        exact kt)
      rw [show (((Int32.ofNat (o_nd (o_M pp))) - (1 : Int32)) - ((Int32.ofNat kk) - (0 : Int32))) = (Int32.ofNat (o_nd (o_M pp) - 1 - (kk - o_sg pp))) from o_ix0 hs (by omega) (by omega)] at pre5
      obtain ⟨_, T6, L6, X6, hQ6, st6⟩ := o_cS (y := o_N59) (g := (mkF m 43 #[oR a1, oI (Int32.ofNat bs), oI (Int32.ofNat kk), oI ng, .val (.long mL), .second, oI (Int32.ofNat (o_nd (o_M pp))), oI (Int32.ofNat (o_pl pp)), oU, oI ((Int32.ofNat kk) - (0 : Int32)), oU, oU] [(.int (Int32.ofNat (o_nd (o_M pp) - 1 - (kk - o_sg pp))))])) (as := [(.int (Int32.ofNat (o_nd (o_M pp) - 1 - (kk - o_sg pp))))]) (rest := []) 0 X0 hx hZ hml hown (oV hw 217 rfl) (oV hw 218 rfl) (oV hw 188 rfl) (oV hw 219 rfl) (o_p10 l Z a0 hw [] (o_nd (o_M pp) - 1 - (kk - o_sg pp)) h0 n0 Z0 (by omega)) e0 o_pd37 (hb hby D60_43)
      obtain ⟨pz, rfl, N6q, K6q, hpz⟩ := hQ6
      have N6 := Fr.app N0 N6q
      have KC6 : Keep h0 T6.heap [] := (Keep.refl h0 []).trans K6q all0
      have pre7 : Goes p e below s1 F0 T6 (mkF m 46 #[oR a1, oI (Int32.ofNat bs), oI (Int32.ofNat kk), oI ng, .val (.long mL), .second, oI (Int32.ofNat (o_nd (o_M pp))), oI (Int32.ofNat (o_pl pp)), oU, oI ((Int32.ofNat kk) - (0 : Int32)), oU, oU] [(.long pz)]) := fun t kt => pre5 t (st6 t kt)
      have pre8 : Goes p e below s1 F0 T6 (mkF m 62 #[oR a1, oI (Int32.ofNat bs), oI (Int32.ofNat kk), oI ng, .val (.long mL), .second, oI (Int32.ofNat (o_nd (o_M pp))), oI (Int32.ofNat (o_pl pp)), oU, oI ((Int32.ofNat kk) - (0 : Int32)), .val (.long pz), .second] [(.int (((48 : Int32) + (((mL / pz) - ((mL / pz) / (10 : Int64)) * (10 : Int64)).toInt32)).toUInt32.toUInt16.toUInt32.toInt32))]) := fun t kt => pre7 t (by
        refine XS.lstore X6.here hx rfl (hb hby D60_46) rfl (l' := #[oR a1, oI (Int32.ofNat bs), oI (Int32.ofNat kk), oI ng, .val (.long mL), .second, oI (Int32.ofNat (o_nd (o_M pp))), oI (Int32.ofNat (o_pl pp)), oU, oI ((Int32.ofNat kk) - (0 : Int32)), .val (.long pz), .second]) rfl ?_
        refine o_bp X6 hx hby D60_48 ?_
        refine o_lL X6 hx hby D60_50 rfl ?_
        refine o_lL X6 hx hby D60_52 rfl ?_
        refine XS.ldiv X6.here hx rfl (hb hby D60_54) rfl (o_pz0 hpz) ?_
        refine X6.ldc2Long hx hown (oW hw hZ 190 rfl) (g := (mkF m 55 #[oR a1, oI (Int32.ofNat bs), oI (Int32.ofNat kk), oI ng, .val (.long mL), .second, oI (Int32.ofNat (o_nd (o_M pp))), oI (Int32.ofNat (o_pl pp)), oU, oI ((Int32.ofNat kk) - (0 : Int32)), .val (.long pz), .second] [(.long (mL / pz)), (.int 48)])) rfl (hb hby D60_55) _ ?_
        refine XS.lrem X6.here hx rfl (hb hby D60_58) rfl (by decide) ?_
        refine XS.l2i X6.here hx rfl (hb hby D60_59) rfl ?_
        show Steps p.tables e below (T6.setTop (mkF m 60 #[oR a1, oI (Int32.ofNat bs), oI (Int32.ofNat kk), oI ng, .val (.long mL), .second, oI (Int32.ofNat (o_nd (o_M pp))), oI (Int32.ofNat (o_pl pp)), oU, oI ((Int32.ofNat kk) - (0 : Int32)), .val (.long pz), .second] [(.int (((mL / pz) - ((mL / pz) / (10 : Int64)) * (10 : Int64)).toInt32)), (.int 48)])) _
        refine XS.iadd X6.here hx rfl (hb hby D60_60) rfl ?_
        refine XS.i2c X6.here hx rfl (hb hby D60_61) rfl ?_
        exact kt)
      rw [show (((48 : Int32) + (((mL / pz) - ((mL / pz) / (10 : Int64)) * (10 : Int64)).toInt32)).toUInt32.toUInt16.toUInt32.toInt32) = (o_pc pp kk) from (o_wnt hm hpz).trans (o_pcC hs)] at pre8
      have pre9 : Goes p e below s1 F0 T6 (mkF m 68 #[oR a1, oI (Int32.ofNat bs), oI (Int32.ofNat kk), oI ng, .val (.long mL), .second, oI (Int32.ofNat (o_nd (o_M pp))), oI (Int32.ofNat (o_pl pp)), oI (o_pc pp kk), oI ((Int32.ofNat kk) - (0 : Int32)), .val (.long pz), .second] [(.int ((Int32.ofNat bs) + (Int32.ofNat kk))), (.ref a1)]) := fun t kt => pre8 t (by
        refine XS.istore X6.here hx rfl (hb hby D60_62) rfl (l' := #[oR a1, oI (Int32.ofNat bs), oI (Int32.ofNat kk), oI ng, .val (.long mL), .second, oI (Int32.ofNat (o_nd (o_M pp))), oI (Int32.ofNat (o_pl pp)), oI (o_pc pp kk), oI ((Int32.ofNat kk) - (0 : Int32)), .val (.long pz), .second]) rfl ?_
        refine o_al X6 hx hby D60_64 rfl ?_
        refine o_il X6 hx hby D60_65 rfl ?_
        refine o_il X6 hx hby D60_66 rfl ?_
        refine XS.iadd X6.here hx rfl (hb hby D60_67) rfl ?_
        exact kt)
      rw [show ((Int32.ofNat bs) + (Int32.ofNat kk)) = (Int32.ofNat (bs + kk)) from o_oadd _ _] at pre9
      obtain ⟨_, T10, L10, X10, hQ10, st10⟩ := o_cW (y := o_N19) (b := a1) (g := (mkF m 68 #[oR a1, oI (Int32.ofNat bs), oI (Int32.ofNat kk), oI ng, .val (.long mL), .second, oI (Int32.ofNat (o_nd (o_M pp))), oI (Int32.ofNat (o_pl pp)), oI (o_pc pp kk), oI ((Int32.ofNat kk) - (0 : Int32)), .val (.long pz), .second] [(.int (Int32.ofNat (bs + kk))), (.ref a1)])) (as := [(.int (Int32.ofNat (bs + kk)))]) (rest := []) 0 X6 hx hZ hml hown (oV hw 192 rfl) (oV hw 195 rfl) (oV hw 194 rfl) (oV hw 196 rfl) (oV hw 4 rfl) (o_sch l Z a0 hw [] a1 cd y (Int32.ofNat (bs + kk)) (o_pc pp kk) cs fm T6.heap n0 (Nat.le_trans Z0 KC6.1) (E_a1.keep K6q) (Fc.keep K6q nin0) (Fv.keep K6q nin0) ((hrd hkp).keep KC6) (o_onn (by omega)) hst (O0.keep K6q all0)) rfl (E_a1.keep K6q) o_pd38 (hb hby D60_68)
      obtain ⟨rfl, N10q, e10⟩ := hQ10
      have N10 := Fr.app N6 N10q
      have pre11 : Goes p e below s1 F0 T10 (mkF m 71 #[oR a1, oI (Int32.ofNat bs), oI (Int32.ofNat kk), oI ng, .val (.long mL), .second, oI (Int32.ofNat (o_nd (o_M pp))), oI (Int32.ofNat (o_pl pp)), oI (o_pc pp kk), oI ((Int32.ofNat kk) - (0 : Int32)), .val (.long pz), .second] [(.int (o_pc pp kk))]) := fun t kt => pre9 t (st10 t kt)
      have pre12 : Goes p e below s1 F0 T10 (mkF m 81 #[oR a1, oI (Int32.ofNat bs), oI (Int32.ofNat kk), oI ng, .val (.long mL), .second, oI (Int32.ofNat (o_nd (o_M pp))), oI (Int32.ofNat (o_pl pp)), oI (o_pc pp kk), oI ((Int32.ofNat kk) - (0 : Int32)), .val (.long pz), .second] [(.int 1)]) := fun t kt => pre11 t (by
        refine o_iL X10 hx hby D60_71 rfl ?_
        refine o_icN X10 hx hby D60_73 (teq (rfl : (o_pc pp kk) = (o_pc pp kk))).2 ?_
        refine o_ic X10 hx hby D60_76 ?_
        refine o_gt 77 81 X10 hx hby D60_77 ?_
        exact kt)
      refine o_eN X10 Bd hx pre12 (hb hby D60_81) e10 ?_
      exact ⟨rfl, N10, KC6⟩
    · -- no at pc 9: t
      have hs : o_sg pp = 1 := o_sn hng hc9_4
      have pre13 : Goes p e below s1 F0 s1 (mkF m 13 #[oR a1, oI (Int32.ofNat bs), oI (Int32.ofNat kk), oI ng, .val (.long mL), .second, oI (Int32.ofNat (o_nd (o_M pp))), oI (Int32.ofNat (o_pl pp)), oU, oU, oU, oU] [(.int (Int32.ofNat kk))]) := fun t kt => pre3 t (by
        refine o_ifN X0 hx hby D60_9 ((if0 _ _).trans (feq hc9_4).1) ?_
        refine o_il X0 hx hby D60_12 rfl ?_
        exact kt)
      by_cases hc13_14 : (Int32.ofNat kk) = (0 : Int32)
      · -- yes at pc 13: tf
        have hk0 : kk = 0 := o_k0t (by omega) hc13_14
        have pre15 : Goes p e below s1 F0 s1 (mkF m 18 #[oR a1, oI (Int32.ofNat bs), oI (Int32.ofNat kk), oI ng, .val (.long mL), .second, oI (Int32.ofNat (o_nd (o_M pp))), oI (Int32.ofNat (o_pl pp)), oU, oU, oU, oU] [(.int 45)]) := fun t kt => pre13 t (by
          refine o_ifN X0 hx hby D60_13 ((if0 _ _).trans (teq hc13_14).2) ?_
          refine o_bp X0 hx hby D60_16 ?_
          exact kt)
        rw [show (45 : Int32) = (o_pc pp kk) from o_pcA hs hk0] at pre15
        have pre16 : Goes p e below s1 F0 s1 (mkF m 68 #[oR a1, oI (Int32.ofNat bs), oI (Int32.ofNat kk), oI ng, .val (.long mL), .second, oI (Int32.ofNat (o_nd (o_M pp))), oI (Int32.ofNat (o_pl pp)), oI (o_pc pp kk), oU, oU, oU] [(.int ((Int32.ofNat bs) + (Int32.ofNat kk))), (.ref a1)]) := fun t kt => pre15 t (by
          refine XS.istore X0.here hx rfl (hb hby D60_18) rfl (l' := #[oR a1, oI (Int32.ofNat bs), oI (Int32.ofNat kk), oI ng, .val (.long mL), .second, oI (Int32.ofNat (o_nd (o_M pp))), oI (Int32.ofNat (o_pl pp)), oI (o_pc pp kk), oU, oU, oU]) rfl ?_
          refine o_gt 20 64 X0 hx hby D60_20 ?_
          refine o_al X0 hx hby D60_64 rfl ?_
          refine o_il X0 hx hby D60_65 rfl ?_
          refine o_il X0 hx hby D60_66 rfl ?_
          refine XS.iadd X0.here hx rfl (hb hby D60_67) rfl ?_
          exact kt)
        rw [show ((Int32.ofNat bs) + (Int32.ofNat kk)) = (Int32.ofNat (bs + kk)) from o_oadd _ _] at pre16
        obtain ⟨_, T17, L17, X17, hQ17, st17⟩ := o_cW (y := o_N19) (b := a1) (g := (mkF m 68 #[oR a1, oI (Int32.ofNat bs), oI (Int32.ofNat kk), oI ng, .val (.long mL), .second, oI (Int32.ofNat (o_nd (o_M pp))), oI (Int32.ofNat (o_pl pp)), oI (o_pc pp kk), oU, oU, oU] [(.int (Int32.ofNat (bs + kk))), (.ref a1)])) (as := [(.int (Int32.ofNat (bs + kk)))]) (rest := []) 0 X0 hx hZ hml hown (oV hw 192 rfl) (oV hw 195 rfl) (oV hw 194 rfl) (oV hw 196 rfl) (oV hw 4 rfl) (o_sch l Z a0 hw [] a1 cd y (Int32.ofNat (bs + kk)) (o_pc pp kk) cs fm h0 n0 Z0 E_a1 Fc Fv (hrd hkp) (o_onn (by omega)) hst O0) e0 E_a1 o_pd38 (hb hby D60_68)
        obtain ⟨rfl, N17q, e17⟩ := hQ17
        have N17 := Fr.app N0 N17q
        have pre18 : Goes p e below s1 F0 T17 (mkF m 71 #[oR a1, oI (Int32.ofNat bs), oI (Int32.ofNat kk), oI ng, .val (.long mL), .second, oI (Int32.ofNat (o_nd (o_M pp))), oI (Int32.ofNat (o_pl pp)), oI (o_pc pp kk), oU, oU, oU] [(.int (o_pc pp kk))]) := fun t kt => pre16 t (st17 t kt)
        have pre19 : Goes p e below s1 F0 T17 (mkF m 81 #[oR a1, oI (Int32.ofNat bs), oI (Int32.ofNat kk), oI ng, .val (.long mL), .second, oI (Int32.ofNat (o_nd (o_M pp))), oI (Int32.ofNat (o_pl pp)), oI (o_pc pp kk), oU, oU, oU] [(.int 1)]) := fun t kt => pre18 t (by
          refine o_iL X17 hx hby D60_71 rfl ?_
          refine o_icN X17 hx hby D60_73 (teq (rfl : (o_pc pp kk) = (o_pc pp kk))).2 ?_
          refine o_ic X17 hx hby D60_76 ?_
          refine o_gt 77 81 X17 hx hby D60_77 ?_
          exact kt)
        refine o_eN X17 Bd hx pre19 (hb hby D60_81) e17 ?_
        exact ⟨rfl, N17, (Keep.refl _ _)⟩
      · -- no at pc 13: tf
        have hk0 : ¬ kk = 0 := o_k0f (by omega) hc13_14
        have pre20 : Goes p e below s1 F0 s1 (mkF m 43 #[oR a1, oI (Int32.ofNat bs), oI (Int32.ofNat kk), oI ng, .val (.long mL), .second, oI (Int32.ofNat (o_nd (o_M pp))), oI (Int32.ofNat (o_pl pp)), oU, oI ((Int32.ofNat kk) - (1 : Int32)), oU, oU] [(.int (((Int32.ofNat (o_nd (o_M pp))) - (1 : Int32)) - ((Int32.ofNat kk) - (1 : Int32))))]) := fun t kt => pre13 t (by
          refine o_ifY 13 23 X0 hx hby D60_13 ((if0 _ _).trans (feq hc13_14).2) ?_
          refine o_il X0 hx hby D60_23 rfl ?_
          refine o_il X0 hx hby D60_24 rfl ?_
          refine o_ifN X0 hx hby D60_25 ((if0 _ _).trans (feq hc9_4).1) ?_
          refine o_ic X0 hx hby D60_28 ?_
          refine o_gt 29 33 X0 hx hby D60_29 ?_
          refine XS.isub X0.here hx rfl (hb hby D60_33) rfl ?_
          refine XS.istore X0.here hx rfl (hb hby D60_34) rfl (l' := #[oR a1, oI (Int32.ofNat bs), oI (Int32.ofNat kk), oI ng, .val (.long mL), .second, oI (Int32.ofNat (o_nd (o_M pp))), oI (Int32.ofNat (o_pl pp)), oU, oI ((Int32.ofNat kk) - (1 : Int32)), oU, oU]) rfl ?_
          show Steps p.tables e below (s1.setTop (mkF m 36 #[oR a1, oI (Int32.ofNat bs), oI (Int32.ofNat kk), oI ng, .val (.long mL), .second, oI (Int32.ofNat (o_nd (o_M pp))), oI (Int32.ofNat (o_pl pp)), oU, oI ((Int32.ofNat kk) - (1 : Int32)), oU, oU] [])) _
          refine o_iL X0 hx hby D60_36 rfl ?_
          refine o_ic X0 hx hby D60_38 ?_
          refine XS.isub X0.here hx rfl (hb hby D60_39) rfl ?_
          refine o_iL X0 hx hby D60_40 rfl ?_
          refine XS.isub X0.here hx rfl (hb hby D60_42) rfl ?_
          exact kt)
        rw [show (((Int32.ofNat (o_nd (o_M pp))) - (1 : Int32)) - ((Int32.ofNat kk) - (1 : Int32))) = (Int32.ofNat (o_nd (o_M pp) - 1 - (kk - o_sg pp))) from o_ix1 hs hk0 (by omega) (by omega)] at pre20
        obtain ⟨_, T21, L21, X21, hQ21, st21⟩ := o_cS (y := o_N59) (g := (mkF m 43 #[oR a1, oI (Int32.ofNat bs), oI (Int32.ofNat kk), oI ng, .val (.long mL), .second, oI (Int32.ofNat (o_nd (o_M pp))), oI (Int32.ofNat (o_pl pp)), oU, oI ((Int32.ofNat kk) - (1 : Int32)), oU, oU] [(.int (Int32.ofNat (o_nd (o_M pp) - 1 - (kk - o_sg pp))))])) (as := [(.int (Int32.ofNat (o_nd (o_M pp) - 1 - (kk - o_sg pp))))]) (rest := []) 0 X0 hx hZ hml hown (oV hw 217 rfl) (oV hw 218 rfl) (oV hw 188 rfl) (oV hw 219 rfl) (o_p10 l Z a0 hw [] (o_nd (o_M pp) - 1 - (kk - o_sg pp)) h0 n0 Z0 (by omega)) e0 o_pd37 (hb hby D60_43)
        obtain ⟨pz, rfl, N21q, K21q, hpz⟩ := hQ21
        have N21 := Fr.app N0 N21q
        have KC21 : Keep h0 T21.heap [] := (Keep.refl h0 []).trans K21q all0
        have pre22 : Goes p e below s1 F0 T21 (mkF m 46 #[oR a1, oI (Int32.ofNat bs), oI (Int32.ofNat kk), oI ng, .val (.long mL), .second, oI (Int32.ofNat (o_nd (o_M pp))), oI (Int32.ofNat (o_pl pp)), oU, oI ((Int32.ofNat kk) - (1 : Int32)), oU, oU] [(.long pz)]) := fun t kt => pre20 t (st21 t kt)
        have pre23 : Goes p e below s1 F0 T21 (mkF m 62 #[oR a1, oI (Int32.ofNat bs), oI (Int32.ofNat kk), oI ng, .val (.long mL), .second, oI (Int32.ofNat (o_nd (o_M pp))), oI (Int32.ofNat (o_pl pp)), oU, oI ((Int32.ofNat kk) - (1 : Int32)), .val (.long pz), .second] [(.int (((48 : Int32) + (((mL / pz) - ((mL / pz) / (10 : Int64)) * (10 : Int64)).toInt32)).toUInt32.toUInt16.toUInt32.toInt32))]) := fun t kt => pre22 t (by
          refine XS.lstore X21.here hx rfl (hb hby D60_46) rfl (l' := #[oR a1, oI (Int32.ofNat bs), oI (Int32.ofNat kk), oI ng, .val (.long mL), .second, oI (Int32.ofNat (o_nd (o_M pp))), oI (Int32.ofNat (o_pl pp)), oU, oI ((Int32.ofNat kk) - (1 : Int32)), .val (.long pz), .second]) rfl ?_
          refine o_bp X21 hx hby D60_48 ?_
          refine o_lL X21 hx hby D60_50 rfl ?_
          refine o_lL X21 hx hby D60_52 rfl ?_
          refine XS.ldiv X21.here hx rfl (hb hby D60_54) rfl (o_pz0 hpz) ?_
          refine X21.ldc2Long hx hown (oW hw hZ 190 rfl) (g := (mkF m 55 #[oR a1, oI (Int32.ofNat bs), oI (Int32.ofNat kk), oI ng, .val (.long mL), .second, oI (Int32.ofNat (o_nd (o_M pp))), oI (Int32.ofNat (o_pl pp)), oU, oI ((Int32.ofNat kk) - (1 : Int32)), .val (.long pz), .second] [(.long (mL / pz)), (.int 48)])) rfl (hb hby D60_55) _ ?_
          refine XS.lrem X21.here hx rfl (hb hby D60_58) rfl (by decide) ?_
          refine XS.l2i X21.here hx rfl (hb hby D60_59) rfl ?_
          show Steps p.tables e below (T21.setTop (mkF m 60 #[oR a1, oI (Int32.ofNat bs), oI (Int32.ofNat kk), oI ng, .val (.long mL), .second, oI (Int32.ofNat (o_nd (o_M pp))), oI (Int32.ofNat (o_pl pp)), oU, oI ((Int32.ofNat kk) - (1 : Int32)), .val (.long pz), .second] [(.int (((mL / pz) - ((mL / pz) / (10 : Int64)) * (10 : Int64)).toInt32)), (.int 48)])) _
          refine XS.iadd X21.here hx rfl (hb hby D60_60) rfl ?_
          refine XS.i2c X21.here hx rfl (hb hby D60_61) rfl ?_
          exact kt)
        rw [show (((48 : Int32) + (((mL / pz) - ((mL / pz) / (10 : Int64)) * (10 : Int64)).toInt32)).toUInt32.toUInt16.toUInt32.toInt32) = (o_pc pp kk) from (o_wnt hm hpz).trans (o_pcB hs hk0)] at pre23
        have pre24 : Goes p e below s1 F0 T21 (mkF m 68 #[oR a1, oI (Int32.ofNat bs), oI (Int32.ofNat kk), oI ng, .val (.long mL), .second, oI (Int32.ofNat (o_nd (o_M pp))), oI (Int32.ofNat (o_pl pp)), oI (o_pc pp kk), oI ((Int32.ofNat kk) - (1 : Int32)), .val (.long pz), .second] [(.int ((Int32.ofNat bs) + (Int32.ofNat kk))), (.ref a1)]) := fun t kt => pre23 t (by
          refine XS.istore X21.here hx rfl (hb hby D60_62) rfl (l' := #[oR a1, oI (Int32.ofNat bs), oI (Int32.ofNat kk), oI ng, .val (.long mL), .second, oI (Int32.ofNat (o_nd (o_M pp))), oI (Int32.ofNat (o_pl pp)), oI (o_pc pp kk), oI ((Int32.ofNat kk) - (1 : Int32)), .val (.long pz), .second]) rfl ?_
          refine o_al X21 hx hby D60_64 rfl ?_
          refine o_il X21 hx hby D60_65 rfl ?_
          refine o_il X21 hx hby D60_66 rfl ?_
          refine XS.iadd X21.here hx rfl (hb hby D60_67) rfl ?_
          exact kt)
        rw [show ((Int32.ofNat bs) + (Int32.ofNat kk)) = (Int32.ofNat (bs + kk)) from o_oadd _ _] at pre24
        obtain ⟨_, T25, L25, X25, hQ25, st25⟩ := o_cW (y := o_N19) (b := a1) (g := (mkF m 68 #[oR a1, oI (Int32.ofNat bs), oI (Int32.ofNat kk), oI ng, .val (.long mL), .second, oI (Int32.ofNat (o_nd (o_M pp))), oI (Int32.ofNat (o_pl pp)), oI (o_pc pp kk), oI ((Int32.ofNat kk) - (1 : Int32)), .val (.long pz), .second] [(.int (Int32.ofNat (bs + kk))), (.ref a1)])) (as := [(.int (Int32.ofNat (bs + kk)))]) (rest := []) 0 X21 hx hZ hml hown (oV hw 192 rfl) (oV hw 195 rfl) (oV hw 194 rfl) (oV hw 196 rfl) (oV hw 4 rfl) (o_sch l Z a0 hw [] a1 cd y (Int32.ofNat (bs + kk)) (o_pc pp kk) cs fm T21.heap n0 (Nat.le_trans Z0 KC21.1) (E_a1.keep K21q) (Fc.keep K21q nin0) (Fv.keep K21q nin0) ((hrd hkp).keep KC21) (o_onn (by omega)) hst (O0.keep K21q all0)) rfl (E_a1.keep K21q) o_pd38 (hb hby D60_68)
        obtain ⟨rfl, N25q, e25⟩ := hQ25
        have N25 := Fr.app N21 N25q
        have pre26 : Goes p e below s1 F0 T25 (mkF m 71 #[oR a1, oI (Int32.ofNat bs), oI (Int32.ofNat kk), oI ng, .val (.long mL), .second, oI (Int32.ofNat (o_nd (o_M pp))), oI (Int32.ofNat (o_pl pp)), oI (o_pc pp kk), oI ((Int32.ofNat kk) - (1 : Int32)), .val (.long pz), .second] [(.int (o_pc pp kk))]) := fun t kt => pre24 t (st25 t kt)
        have pre27 : Goes p e below s1 F0 T25 (mkF m 81 #[oR a1, oI (Int32.ofNat bs), oI (Int32.ofNat kk), oI ng, .val (.long mL), .second, oI (Int32.ofNat (o_nd (o_M pp))), oI (Int32.ofNat (o_pl pp)), oI (o_pc pp kk), oI ((Int32.ofNat kk) - (1 : Int32)), .val (.long pz), .second] [(.int 1)]) := fun t kt => pre26 t (by
          refine o_iL X25 hx hby D60_71 rfl ?_
          refine o_icN X25 hx hby D60_73 (teq (rfl : (o_pc pp kk) = (o_pc pp kk))).2 ?_
          refine o_ic X25 hx hby D60_76 ?_
          refine o_gt 77 81 X25 hx hby D60_77 ?_
          exact kt)
        refine o_eN X25 Bd hx pre27 (hb hby D60_81) e25 ?_
        exact ⟨rfl, N25, KC21⟩
  · -- no at pc 3: 
    have pre28 : Goes p e below s1 F0 s1 (mkF m 7 #[oR a1, oI (Int32.ofNat bs), oI (Int32.ofNat kk), oI ng, .val (.long mL), .second, oI (Int32.ofNat (o_nd (o_M pp))), oI (Int32.ofNat (o_pl pp)), oU, oU, oU, oU] [(.int 1)]) := fun t kt => pre1 t (by
      refine o_icN X0 hx hby D60_3 (flt hc3_2).1 ?_
      refine o_ic X0 hx hby D60_6 ?_
      exact kt)
    refine o_eN X0 Bd hx pre28 (hb hby D60_7) e0 ?_
    exact ⟨rfl, N0, (Keep.refl _ _)⟩
theorem o_tail {p : Program} {l : Launch} {e : Env} {s : State} {m : MethodId} {args : Array Value} {below : List Frame} {meth : Method} {c : Code} {Z : State} {a0 : Array Value} {T0 : State} {h0 : Heap} {locs : List Loc} (qa qb qc qs pp va vb vc : Int32) (w9 w10 w11 w12 w13 w14 a1 : Addr) (cd : Int32) (y : Addr) (ky : ClassId) (nn : Nat) (gg : Nat → Int32) (n0 : Nat) (cs : Int32) (fm : Value) (hx : p.tables.exec = Jvm.exec) (hZ : Z.Warmed39 s.vm) (hw : ∀ d ∈ tables_1, d.before a0 Z = true) (hby : c.code = code) (hml : c.maxLocals = 22) (hown : s.vm.findClass "com/example/ferry/ferry/EndpointToStringPinLaw" = some m.cls) (X0 : Stand p l e room_1 s m args below meth c T0 locs 40 1500) (e0 : T0.heap = h0) (N0 : Fr n0 locs) (Z0 : n0 ≤ h0.size) (HS : o_HS Z h0 a1 cd y ky (nn + 1 + o_pl pp) (o_g gg nn pp)) (hn3 : nn ≤ 3) (hva : 0 < nn → gg 0 = va) (hvb : 1 < nn → gg 1 = vb) (hvc : 2 < nn → gg 2 = vc) (hst : o_ST Z cs fm) (O0 : Old Z n0 h0) :
    ∃ (T' : State) (h' : Heap) (locs' : List Loc) (ng : Int32) (mL : Int64), Stand p l e room_1 s m args below meth c T' locs' 51 1610 ∧ T'.heap = h' ∧ Fr n0 locs' ∧ Keep h0 h' [] ∧ Goes p e below T0 (mkF m 166 #[oI qa, oI qb, oI qc, oI qs, oI pp, oI (Int32.ofNat nn), oI va, oI vb, oI vc, oR w9, oR w10, oR w11, oR w12, oR w13, oR w14, oR a1, oU, oU, oU, oU, oU, oU] []) T' (mkF m 520 #[oI qa, oI qb, oI qc, oI qs, oI pp, oI (Int32.ofNat nn), oI va, oI vb, oI vc, oR w9, oR w10, oR w11, oR w12, oR w13, oR w14, oR a1, oI ng, .val (.long mL), .second, oI (Int32.ofNat (o_nd (o_M pp))), oI (Int32.ofNat (o_pl pp)), oI (Int32.ofNat (nn + 1))] [(.int 1)]) := by
  obtain ⟨F0, hF0⟩ : ∃ F, F = (mkF m 166 #[oI qa, oI qb, oI qc, oI qs, oI pp, oI (Int32.ofNat nn), oI va, oI vb, oI vc, oR w9, oR w10, oR w11, oR w12, oR w13, oR w14, oR a1, oU, oU, oU, oU, oU, oU] []) := ⟨_, rfl⟩
  have pre0 : Goes p e below T0 F0 T0 (mkF m 166 #[oI qa, oI qb, oI qc, oI qs, oI pp, oI (Int32.ofNat nn), oI va, oI vb, oI vc, oR w9, oR w10, oR w11, oR w12, oR w13, oR w14, oR a1, oU, oU, oU, oU, oU, oU] []) := by rw [hF0]; exact fun t k => k
  have hpl := o_pl_le pp
  have hpl1 := o_pl_pos pp
  obtain ⟨ng, hng, pre2⟩ : ∃ (ng : Int32), (ng = Int32.ofNat (o_sg pp)) ∧ Goes p e below T0 F0 T0 (mkF m 176 #[oI qa, oI qb, oI qc, oI qs, oI pp, oI (Int32.ofNat nn), oI va, oI vb, oI vc, oR w9, oR w10, oR w11, oR w12, oR w13, oR w14, oR a1, oU, oU, oU, oU, oU, oU] [(.int ng)]) := by
    have pre3 : Goes p e below T0 F0 T0 (mkF m 168 #[oI qa, oI qb, oI qc, oI qs, oI pp, oI (Int32.ofNat nn), oI va, oI vb, oI vc, oR w9, oR w10, oR w11, oR w12, oR w13, oR w14, oR a1, oU, oU, oU, oU, oU, oU] [(.int pp)]) := fun t kt => pre0 t (by
      refine o_iL X0 hx hby at_166 rfl ?_
      exact kt)
    by_cases hc168_4 : pp < (0 : Int32)
    · -- yes at pc 168: 
      have pre5 : Goes p e below T0 F0 T0 (mkF m 176 #[oI qa, oI qb, oI qc, oI qs, oI pp, oI (Int32.ofNat nn), oI va, oI vb, oI vc, oR w9, oR w10, oR w11, oR w12, oR w13, oR w14, oR a1, oU, oU, oU, oU, oU, oU] [(.int 1)]) := fun t kt => pre3 t (by
        refine o_ifN X0 hx hby at_168 ((if0 _ _).trans (tlt hc168_4).2.1) ?_
        refine o_ic X0 hx hby at_171 ?_
        refine o_gt 172 176 X0 hx hby at_172 ?_
        exact kt)
      exact ⟨(1 : Int32), o_dn1 hc168_4, pre5⟩
    · -- no at pc 168: 
      have pre6 : Goes p e below T0 F0 T0 (mkF m 176 #[oI qa, oI qb, oI qc, oI qs, oI pp, oI (Int32.ofNat nn), oI va, oI vb, oI vc, oR w9, oR w10, oR w11, oR w12, oR w13, oR w14, oR a1, oU, oU, oU, oU, oU, oU] [(.int 0)]) := fun t kt => pre3 t (by
        refine o_ifY 168 175 X0 hx hby at_168 ((if0 _ _).trans (flt hc168_4).2.1) ?_
        refine o_ic X0 hx hby at_175 ?_
        exact kt)
      exact ⟨(0 : Int32), o_dn0 hc168_4, pre6⟩
  obtain ⟨_, T7, L7, X7, hQ7, st7⟩ := o_cS (y := o_N57) (g := (mkF m 181 #[oI qa, oI qb, oI qc, oI qs, oI pp, oI (Int32.ofNat nn), oI va, oI vb, oI vc, oR w9, oR w10, oR w11, oR w12, oR w13, oR w14, oR a1, oI ng, oU, oU, oU, oU, oU] [(.long (pp.toInt64))])) (as := [(.long (pp.toInt64))]) (rest := []) 0 X0 hx hZ hml hown (oV hw 183 rfl) (oV hw 184 rfl) (oV hw 180 rfl) (oV hw 185 rfl) (o_abs l Z a0 hw [] pp h0 n0 Z0 ) e0 o_pd39 (hb hby at_181)
  obtain ⟨mL, rfl, hmL, N7q, e7⟩ := hQ7
  have N7 := Fr.app N0 N7q
  have pre8 : Goes p e below T0 F0 T7 (mkF m 184 #[oI qa, oI qb, oI qc, oI qs, oI pp, oI (Int32.ofNat nn), oI va, oI vb, oI vc, oR w9, oR w10, oR w11, oR w12, oR w13, oR w14, oR a1, oI ng, oU, oU, oU, oU, oU] [(.long mL)]) := fun t kt => pre2 t (by
    refine XS.istore X0.here hx rfl (hb hby at_176) rfl (l' := #[oI qa, oI qb, oI qc, oI qs, oI pp, oI (Int32.ofNat nn), oI va, oI vb, oI vc, oR w9, oR w10, oR w11, oR w12, oR w13, oR w14, oR a1, oI ng, oU, oU, oU, oU, oU]) rfl ?_
    refine o_iL X0 hx hby at_178 rfl ?_
    refine XS.i2l X0.here hx rfl (hb hby at_180) rfl ?_
    exact st7 t kt)
  obtain ⟨_, T9, L9, X9, hQ9, st9⟩ := o_cS (y := o_N58) (g := (mkF m 188 #[oI qa, oI qb, oI qc, oI qs, oI pp, oI (Int32.ofNat nn), oI va, oI vb, oI vc, oR w9, oR w10, oR w11, oR w12, oR w13, oR w14, oR a1, oI ng, .val (.long mL), .second, oU, oU, oU] [(.long mL)])) (as := [(.long mL)]) (rest := []) 0 X7 hx hZ hml hown (oV hw 186 rfl) (oV hw 187 rfl) (oV hw 188 rfl) (oV hw 189 rfl) (o_digs l Z a0 hw [] mL (o_M pp) h0 n0 Z0 hmL) e7 o_pd40 (hb hby at_188)
  obtain ⟨rfl, N9q, e9⟩ := hQ9
  have N9 := Fr.app N7 N9q
  have pre10 : Goes p e below T0 F0 T9 (mkF m 191 #[oI qa, oI qb, oI qc, oI qs, oI pp, oI (Int32.ofNat nn), oI va, oI vb, oI vc, oR w9, oR w10, oR w11, oR w12, oR w13, oR w14, oR a1, oI ng, .val (.long mL), .second, oU, oU, oU] [(.int (Int32.ofNat (o_nd (o_M pp))))]) := fun t kt => pre8 t (by
    refine XS.lstore X7.here hx rfl (hb hby at_184) rfl (l' := #[oI qa, oI qb, oI qc, oI qs, oI pp, oI (Int32.ofNat nn), oI va, oI vb, oI vc, oR w9, oR w10, oR w11, oR w12, oR w13, oR w14, oR a1, oI ng, .val (.long mL), .second, oU, oU, oU]) rfl ?_
    refine o_lL X7 hx hby at_186 rfl ?_
    exact st9 t kt)
  have pre11 : Goes p e below T0 F0 T9 (mkF m 195 #[oI qa, oI qb, oI qc, oI qs, oI pp, oI (Int32.ofNat nn), oI va, oI vb, oI vc, oR w9, oR w10, oR w11, oR w12, oR w13, oR w14, oR a1, oI ng, .val (.long mL), .second, oI (Int32.ofNat (o_nd (o_M pp))), oU, oU] [(.int (Int32.ofNat (o_nd (o_M pp))))]) := fun t kt => pre10 t (by
    refine XS.istore X9.here hx rfl (hb hby at_191) rfl (l' := #[oI qa, oI qb, oI qc, oI qs, oI pp, oI (Int32.ofNat nn), oI va, oI vb, oI vc, oR w9, oR w10, oR w11, oR w12, oR w13, oR w14, oR a1, oI ng, .val (.long mL), .second, oI (Int32.ofNat (o_nd (o_M pp))), oU, oU]) rfl ?_
    refine o_iL X9 hx hby at_193 rfl ?_
    exact kt)
  obtain ⟨pq, hpq, pre13⟩ : ∃ (pq : Int32), (pq = Int32.ofNat (o_pl pp)) ∧ Goes p e below T0 F0 T9 (mkF m 206 #[oI qa, oI qb, oI qc, oI qs, oI pp, oI (Int32.ofNat nn), oI va, oI vb, oI vc, oR w9, oR w10, oR w11, oR w12, oR w13, oR w14, oR a1, oI ng, .val (.long mL), .second, oI (Int32.ofNat (o_nd (o_M pp))), oU, oU] [(.int pq)]) := by
    have pre14 : Goes p e below T0 F0 T9 (mkF m 197 #[oI qa, oI qb, oI qc, oI qs, oI pp, oI (Int32.ofNat nn), oI va, oI vb, oI vc, oR w9, oR w10, oR w11, oR w12, oR w13, oR w14, oR a1, oI ng, .val (.long mL), .second, oI (Int32.ofNat (o_nd (o_M pp))), oU, oU] [(.int ng), (.int (Int32.ofNat (o_nd (o_M pp))))]) := fun t kt => pre11 t (by
      refine o_iL X9 hx hby at_195 rfl ?_
      exact kt)
    by_cases hc197_15 : ng = (0 : Int32)
    · -- yes at pc 197: 
      have pre16 : Goes p e below T0 F0 T9 (mkF m 206 #[oI qa, oI qb, oI qc, oI qs, oI pp, oI (Int32.ofNat nn), oI va, oI vb, oI vc, oR w9, oR w10, oR w11, oR w12, oR w13, oR w14, oR a1, oI ng, .val (.long mL), .second, oI (Int32.ofNat (o_nd (o_M pp))), oU, oU] [(.int ((Int32.ofNat (o_nd (o_M pp))) + (0 : Int32)))]) := fun t kt => pre14 t (by
        refine o_ifY 197 204 X9 hx hby at_197 ((if0 _ _).trans (teq hc197_15).1) ?_
        refine o_ic X9 hx hby at_204 ?_
        refine XS.iadd X9.here hx rfl (hb hby at_205) rfl ?_
        exact kt)
      exact ⟨((Int32.ofNat (o_nd (o_M pp))) + (0 : Int32)), o_pls0 hng hc197_15, pre16⟩
    · -- no at pc 197: 
      have pre17 : Goes p e below T0 F0 T9 (mkF m 206 #[oI qa, oI qb, oI qc, oI qs, oI pp, oI (Int32.ofNat nn), oI va, oI vb, oI vc, oR w9, oR w10, oR w11, oR w12, oR w13, oR w14, oR a1, oI ng, .val (.long mL), .second, oI (Int32.ofNat (o_nd (o_M pp))), oU, oU] [(.int ((Int32.ofNat (o_nd (o_M pp))) + (1 : Int32)))]) := fun t kt => pre14 t (by
        refine o_ifN X9 hx hby at_197 ((if0 _ _).trans (feq hc197_15).1) ?_
        refine o_ic X9 hx hby at_200 ?_
        refine o_gt 201 205 X9 hx hby at_201 ?_
        refine XS.iadd X9.here hx rfl (hb hby at_205) rfl ?_
        exact kt)
      exact ⟨((Int32.ofNat (o_nd (o_M pp))) + (1 : Int32)), o_pls1 hng hc197_15, pre17⟩
  subst hpq
  obtain ⟨_, T18, L18, X18, hQ18, st18⟩ := o_cW (y := o_N11) (b := a1) (g := (mkF m 210 #[oI qa, oI qb, oI qc, oI qs, oI pp, oI (Int32.ofNat nn), oI va, oI vb, oI vc, oR w9, oR w10, oR w11, oR w12, oR w13, oR w14, oR a1, oI ng, .val (.long mL), .second, oI (Int32.ofNat (o_nd (o_M pp))), oI (Int32.ofNat (o_pl pp)), oU] [(.ref a1)])) (as := []) (rest := []) 0 X9 hx hZ hml hown (oV hw 191 rfl) (oV hw 83 rfl) (oV hw 82 rfl) (oV hw 84 rfl) (oV hw 4 rfl) (o_sle l Z a0 hw [] a1 cd y (Int32.ofNat (nn + 1 + o_pl pp)) cs fm h0 n0 Z0 HS.1 HS.2.1 HS.2.2.1 (o_HSL HS (by omega)) hst O0) e9 HS.1 o_pd18 (hb hby at_210)
  obtain ⟨rfl, N18q, e18⟩ := hQ18
  have N18 := Fr.app N9 N18q
  have pre19 : Goes p e below T0 F0 T18 (mkF m 213 #[oI qa, oI qb, oI qc, oI qs, oI pp, oI (Int32.ofNat nn), oI va, oI vb, oI vc, oR w9, oR w10, oR w11, oR w12, oR w13, oR w14, oR a1, oI ng, .val (.long mL), .second, oI (Int32.ofNat (o_nd (o_M pp))), oI (Int32.ofNat (o_pl pp)), oU] [(.int (Int32.ofNat (nn + 1 + o_pl pp)))]) := fun t kt => pre13 t (by
    refine XS.istore X9.here hx rfl (hb hby at_206) rfl (l' := #[oI qa, oI qb, oI qc, oI qs, oI pp, oI (Int32.ofNat nn), oI va, oI vb, oI vc, oR w9, oR w10, oR w11, oR w12, oR w13, oR w14, oR a1, oI ng, .val (.long mL), .second, oI (Int32.ofNat (o_nd (o_M pp))), oI (Int32.ofNat (o_pl pp)), oU]) rfl ?_
    refine o_aL X9 hx hby at_208 rfl ?_
    exact st18 t kt)
  have pre20 : Goes p e below T0 F0 T18 (mkF m 220 #[oI qa, oI qb, oI qc, oI qs, oI pp, oI (Int32.ofNat nn), oI va, oI vb, oI vc, oR w9, oR w10, oR w11, oR w12, oR w13, oR w14, oR a1, oI ng, .val (.long mL), .second, oI (Int32.ofNat (o_nd (o_M pp))), oI (Int32.ofNat (o_pl pp)), oU] [(.int (((Int32.ofNat nn) + (1 : Int32)) + (Int32.ofNat (o_pl pp)))), (.int (Int32.ofNat (nn + 1 + o_pl pp)))]) := fun t kt => pre19 t (by
    refine o_iL X18 hx hby at_213 rfl ?_
    refine o_ic X18 hx hby at_215 ?_
    refine XS.iadd X18.here hx rfl (hb hby at_216) rfl ?_
    refine o_iL X18 hx hby at_217 rfl ?_
    refine XS.iadd X18.here hx rfl (hb hby at_219) rfl ?_
    exact kt)
  rw [show (((Int32.ofNat nn) + (1 : Int32)) + (Int32.ofNat (o_pl pp))) = (Int32.ofNat (nn + 1 + o_pl pp)) from o_add3 _ _] at pre20
  have pre21 : Goes p e below T0 F0 T18 (mkF m 225 #[oI qa, oI qb, oI qc, oI qs, oI pp, oI (Int32.ofNat nn), oI va, oI vb, oI vc, oR w9, oR w10, oR w11, oR w12, oR w13, oR w14, oR a1, oI ng, .val (.long mL), .second, oI (Int32.ofNat (o_nd (o_M pp))), oI (Int32.ofNat (o_pl pp)), oU] []) := fun t kt => pre20 t (by
    refine o_icY 220 225 X18 hx hby at_220 (teq (rfl : (Int32.ofNat (nn + 1 + o_pl pp)) = (Int32.ofNat (nn + 1 + o_pl pp)))).1 ?_
    exact kt)
  obtain ⟨T22, Lj22, X22, e22, NJ22, pre23⟩ : ∃  (T22 : State) (Lj22 : List Loc), Stand p l e room_1 s m args below meth c T22 Lj22 40 1500 ∧ T22.heap = h0 ∧ Fr n0 Lj22 ∧ Goes p e below T0 F0 T22 (mkF m 243 #[oI qa, oI qb, oI qc, oI qs, oI pp, oI (Int32.ofNat nn), oI va, oI vb, oI vc, oR w9, oR w10, oR w11, oR w12, oR w13, oR w14, oR a1, oI ng, .val (.long mL), .second, oI (Int32.ofNat (o_nd (o_M pp))), oI (Int32.ofNat (o_pl pp)), oU] []) := by
    have pre24 : Goes p e below T0 F0 T18 (mkF m 227 #[oI qa, oI qb, oI qc, oI qs, oI pp, oI (Int32.ofNat nn), oI va, oI vb, oI vc, oR w9, oR w10, oR w11, oR w12, oR w13, oR w14, oR a1, oI ng, .val (.long mL), .second, oI (Int32.ofNat (o_nd (o_M pp))), oI (Int32.ofNat (o_pl pp)), oU] [(.int (Int32.ofNat nn))]) := fun t kt => pre21 t (by
      refine o_iL X18 hx hby at_225 rfl ?_
      exact kt)
    by_cases hc227_25 : (0 : Int32) < (Int32.ofNat nn)
    · -- yes at pc 227: t
      have hj0 : 0 < nn := o_nlt (k := 0) hc227_25 (by omega) (by omega)
      obtain ⟨_, T26, L26, X26, hQ26, st26⟩ := o_cW (y := o_N19) (b := a1) (g := (mkF m 233 #[oI qa, oI qb, oI qc, oI qs, oI pp, oI (Int32.ofNat nn), oI va, oI vb, oI vc, oR w9, oR w10, oR w11, oR w12, oR w13, oR w14, oR a1, oI ng, .val (.long mL), .second, oI (Int32.ofNat (o_nd (o_M pp))), oI (Int32.ofNat (o_pl pp)), oU] [(.int 0), (.ref a1)])) (as := [(.int 0)]) (rest := []) 0 X18 hx hZ hml hown (oV hw 192 rfl) (oV hw 195 rfl) (oV hw 194 rfl) (oV hw 196 rfl) (oV hw 4 rfl) (o_sch l Z a0 hw [] a1 cd y (0 : Int32) va cs fm h0 n0 Z0 HS.1 HS.2.1 HS.2.2.1 (o_HSR (j := 0) HS (by omega) (by omega) (by rw [o_g0 hj0]; exact hva hj0)) (by decide) hst O0) e18 HS.1 o_pd38 (hb hby at_233)
      obtain ⟨rfl, N26q, e26⟩ := hQ26
      have N26 := Fr.app N18 N26q
      have pre27 : Goes p e below T0 F0 T26 (mkF m 236 #[oI qa, oI qb, oI qc, oI qs, oI pp, oI (Int32.ofNat nn), oI va, oI vb, oI vc, oR w9, oR w10, oR w11, oR w12, oR w13, oR w14, oR a1, oI ng, .val (.long mL), .second, oI (Int32.ofNat (o_nd (o_M pp))), oI (Int32.ofNat (o_pl pp)), oU] [(.int va)]) := fun t kt => pre24 t (by
        refine o_ifN X18 hx hby at_227 ((if0 _ _).trans (tlt hc227_25).2.2.2) ?_
        refine o_aL X18 hx hby at_230 rfl ?_
        refine o_ic X18 hx hby at_232 ?_
        exact st26 t kt)
      have pre28 : Goes p e below T0 F0 T26 (mkF m 243 #[oI qa, oI qb, oI qc, oI qs, oI pp, oI (Int32.ofNat nn), oI va, oI vb, oI vc, oR w9, oR w10, oR w11, oR w12, oR w13, oR w14, oR a1, oI ng, .val (.long mL), .second, oI (Int32.ofNat (o_nd (o_M pp))), oI (Int32.ofNat (o_pl pp)), oU] []) := fun t kt => pre27 t (by
        refine o_iL X26 hx hby at_236 rfl ?_
        refine o_icY 238 243 X26 hx hby at_238 (teq (rfl : va = va)).1 ?_
        exact kt)
      exact ⟨T26, _, X26, e26, N26, pre28⟩
    · -- no at pc 227: t
      have pre29 : Goes p e below T0 F0 T18 (mkF m 243 #[oI qa, oI qb, oI qc, oI qs, oI pp, oI (Int32.ofNat nn), oI va, oI vb, oI vc, oR w9, oR w10, oR w11, oR w12, oR w13, oR w14, oR a1, oI ng, .val (.long mL), .second, oI (Int32.ofNat (o_nd (o_M pp))), oI (Int32.ofNat (o_pl pp)), oU] []) := fun t kt => pre24 t (by
        refine o_ifY 227 243 X18 hx hby at_227 ((if0 _ _).trans (flt hc227_25).2.2.2) ?_
        exact kt)
      exact ⟨T18, _, X18, e18, N18, pre29⟩
  obtain ⟨T30, Lj30, X30, e30, NJ30, pre31⟩ : ∃  (T30 : State) (Lj30 : List Loc), Stand p l e room_1 s m args below meth c T30 Lj30 40 1500 ∧ T30.heap = h0 ∧ Fr n0 Lj30 ∧ Goes p e below T0 F0 T30 (mkF m 262 #[oI qa, oI qb, oI qc, oI qs, oI pp, oI (Int32.ofNat nn), oI va, oI vb, oI vc, oR w9, oR w10, oR w11, oR w12, oR w13, oR w14, oR a1, oI ng, .val (.long mL), .second, oI (Int32.ofNat (o_nd (o_M pp))), oI (Int32.ofNat (o_pl pp)), oU] []) := by
    have pre32 : Goes p e below T0 F0 T22 (mkF m 246 #[oI qa, oI qb, oI qc, oI qs, oI pp, oI (Int32.ofNat nn), oI va, oI vb, oI vc, oR w9, oR w10, oR w11, oR w12, oR w13, oR w14, oR a1, oI ng, .val (.long mL), .second, oI (Int32.ofNat (o_nd (o_M pp))), oI (Int32.ofNat (o_pl pp)), oU] [(.int 1), (.int (Int32.ofNat nn))]) := fun t kt => pre23 t (by
      refine o_iL X22 hx hby at_243 rfl ?_
      refine o_ic X22 hx hby at_245 ?_
      exact kt)
    by_cases hc246_33 : (1 : Int32) < (Int32.ofNat nn)
    · -- yes at pc 246: t
      have hj1 : 1 < nn := o_nlt (k := 1) hc246_33 (by omega) (by omega)
      obtain ⟨_, T34, L34, X34, hQ34, st34⟩ := o_cW (y := o_N19) (b := a1) (g := (mkF m 252 #[oI qa, oI qb, oI qc, oI qs, oI pp, oI (Int32.ofNat nn), oI va, oI vb, oI vc, oR w9, oR w10, oR w11, oR w12, oR w13, oR w14, oR a1, oI ng, .val (.long mL), .second, oI (Int32.ofNat (o_nd (o_M pp))), oI (Int32.ofNat (o_pl pp)), oU] [(.int 1), (.ref a1)])) (as := [(.int 1)]) (rest := []) 0 X22 hx hZ hml hown (oV hw 192 rfl) (oV hw 195 rfl) (oV hw 194 rfl) (oV hw 196 rfl) (oV hw 4 rfl) (o_sch l Z a0 hw [] a1 cd y (1 : Int32) vb cs fm h0 n0 Z0 HS.1 HS.2.1 HS.2.2.1 (o_HSR (j := 1) HS (by omega) (by omega) (by rw [o_g0 hj1]; exact hvb hj1)) (by decide) hst O0) e22 HS.1 o_pd38 (hb hby at_252)
      obtain ⟨rfl, N34q, e34⟩ := hQ34
      have N34 := Fr.app NJ22 N34q
      have pre35 : Goes p e below T0 F0 T34 (mkF m 255 #[oI qa, oI qb, oI qc, oI qs, oI pp, oI (Int32.ofNat nn), oI va, oI vb, oI vc, oR w9, oR w10, oR w11, oR w12, oR w13, oR w14, oR a1, oI ng, .val (.long mL), .second, oI (Int32.ofNat (o_nd (o_M pp))), oI (Int32.ofNat (o_pl pp)), oU] [(.int vb)]) := fun t kt => pre32 t (by
        refine o_icN X22 hx hby at_246 (tlt hc246_33).2.2.2 ?_
        refine o_aL X22 hx hby at_249 rfl ?_
        refine o_ic X22 hx hby at_251 ?_
        exact st34 t kt)
      have pre36 : Goes p e below T0 F0 T34 (mkF m 262 #[oI qa, oI qb, oI qc, oI qs, oI pp, oI (Int32.ofNat nn), oI va, oI vb, oI vc, oR w9, oR w10, oR w11, oR w12, oR w13, oR w14, oR a1, oI ng, .val (.long mL), .second, oI (Int32.ofNat (o_nd (o_M pp))), oI (Int32.ofNat (o_pl pp)), oU] []) := fun t kt => pre35 t (by
        refine o_iL X34 hx hby at_255 rfl ?_
        refine o_icY 257 262 X34 hx hby at_257 (teq (rfl : vb = vb)).1 ?_
        exact kt)
      exact ⟨T34, _, X34, e34, N34, pre36⟩
    · -- no at pc 246: t
      have pre37 : Goes p e below T0 F0 T22 (mkF m 262 #[oI qa, oI qb, oI qc, oI qs, oI pp, oI (Int32.ofNat nn), oI va, oI vb, oI vc, oR w9, oR w10, oR w11, oR w12, oR w13, oR w14, oR a1, oI ng, .val (.long mL), .second, oI (Int32.ofNat (o_nd (o_M pp))), oI (Int32.ofNat (o_pl pp)), oU] []) := fun t kt => pre32 t (by
        refine o_icY 246 262 X22 hx hby at_246 (flt hc246_33).2.2.2 ?_
        exact kt)
      exact ⟨T22, _, X22, e22, NJ22, pre37⟩
  obtain ⟨T38, Lj38, X38, e38, NJ38, pre39⟩ : ∃  (T38 : State) (Lj38 : List Loc), Stand p l e room_1 s m args below meth c T38 Lj38 40 1500 ∧ T38.heap = h0 ∧ Fr n0 Lj38 ∧ Goes p e below T0 F0 T38 (mkF m 281 #[oI qa, oI qb, oI qc, oI qs, oI pp, oI (Int32.ofNat nn), oI va, oI vb, oI vc, oR w9, oR w10, oR w11, oR w12, oR w13, oR w14, oR a1, oI ng, .val (.long mL), .second, oI (Int32.ofNat (o_nd (o_M pp))), oI (Int32.ofNat (o_pl pp)), oU] []) := by
    have pre40 : Goes p e below T0 F0 T30 (mkF m 265 #[oI qa, oI qb, oI qc, oI qs, oI pp, oI (Int32.ofNat nn), oI va, oI vb, oI vc, oR w9, oR w10, oR w11, oR w12, oR w13, oR w14, oR a1, oI ng, .val (.long mL), .second, oI (Int32.ofNat (o_nd (o_M pp))), oI (Int32.ofNat (o_pl pp)), oU] [(.int 2), (.int (Int32.ofNat nn))]) := fun t kt => pre31 t (by
      refine o_iL X30 hx hby at_262 rfl ?_
      refine o_ic X30 hx hby at_264 ?_
      exact kt)
    by_cases hc265_41 : (2 : Int32) < (Int32.ofNat nn)
    · -- yes at pc 265: t
      have hj2 : 2 < nn := o_nlt (k := 2) hc265_41 (by omega) (by omega)
      obtain ⟨_, T42, L42, X42, hQ42, st42⟩ := o_cW (y := o_N19) (b := a1) (g := (mkF m 271 #[oI qa, oI qb, oI qc, oI qs, oI pp, oI (Int32.ofNat nn), oI va, oI vb, oI vc, oR w9, oR w10, oR w11, oR w12, oR w13, oR w14, oR a1, oI ng, .val (.long mL), .second, oI (Int32.ofNat (o_nd (o_M pp))), oI (Int32.ofNat (o_pl pp)), oU] [(.int 2), (.ref a1)])) (as := [(.int 2)]) (rest := []) 0 X30 hx hZ hml hown (oV hw 192 rfl) (oV hw 195 rfl) (oV hw 194 rfl) (oV hw 196 rfl) (oV hw 4 rfl) (o_sch l Z a0 hw [] a1 cd y (2 : Int32) vc cs fm h0 n0 Z0 HS.1 HS.2.1 HS.2.2.1 (o_HSR (j := 2) HS (by omega) (by omega) (by rw [o_g0 hj2]; exact hvc hj2)) (by decide) hst O0) e30 HS.1 o_pd38 (hb hby at_271)
      obtain ⟨rfl, N42q, e42⟩ := hQ42
      have N42 := Fr.app NJ30 N42q
      have pre43 : Goes p e below T0 F0 T42 (mkF m 274 #[oI qa, oI qb, oI qc, oI qs, oI pp, oI (Int32.ofNat nn), oI va, oI vb, oI vc, oR w9, oR w10, oR w11, oR w12, oR w13, oR w14, oR a1, oI ng, .val (.long mL), .second, oI (Int32.ofNat (o_nd (o_M pp))), oI (Int32.ofNat (o_pl pp)), oU] [(.int vc)]) := fun t kt => pre40 t (by
        refine o_icN X30 hx hby at_265 (tlt hc265_41).2.2.2 ?_
        refine o_aL X30 hx hby at_268 rfl ?_
        refine o_ic X30 hx hby at_270 ?_
        exact st42 t kt)
      have pre44 : Goes p e below T0 F0 T42 (mkF m 281 #[oI qa, oI qb, oI qc, oI qs, oI pp, oI (Int32.ofNat nn), oI va, oI vb, oI vc, oR w9, oR w10, oR w11, oR w12, oR w13, oR w14, oR a1, oI ng, .val (.long mL), .second, oI (Int32.ofNat (o_nd (o_M pp))), oI (Int32.ofNat (o_pl pp)), oU] []) := fun t kt => pre43 t (by
        refine o_iL X42 hx hby at_274 rfl ?_
        refine o_icY 276 281 X42 hx hby at_276 (teq (rfl : vc = vc)).1 ?_
        exact kt)
      exact ⟨T42, _, X42, e42, N42, pre44⟩
    · -- no at pc 265: t
      have pre45 : Goes p e below T0 F0 T30 (mkF m 281 #[oI qa, oI qb, oI qc, oI qs, oI pp, oI (Int32.ofNat nn), oI va, oI vb, oI vc, oR w9, oR w10, oR w11, oR w12, oR w13, oR w14, oR a1, oI ng, .val (.long mL), .second, oI (Int32.ofNat (o_nd (o_M pp))), oI (Int32.ofNat (o_pl pp)), oU] []) := fun t kt => pre40 t (by
        refine o_icY 265 281 X30 hx hby at_265 (flt hc265_41).2.2.2 ?_
        exact kt)
      exact ⟨T30, _, X30, e30, NJ30, pre45⟩
  obtain ⟨_, T46, L46, X46, hQ46, st46⟩ := o_cW (y := o_N19) (b := a1) (g := (mkF m 285 #[oI qa, oI qb, oI qc, oI qs, oI pp, oI (Int32.ofNat nn), oI va, oI vb, oI vc, oR w9, oR w10, oR w11, oR w12, oR w13, oR w14, oR a1, oI ng, .val (.long mL), .second, oI (Int32.ofNat (o_nd (o_M pp))), oI (Int32.ofNat (o_pl pp)), oU] [(.int (Int32.ofNat nn)), (.ref a1)])) (as := [(.int (Int32.ofNat nn))]) (rest := []) 0 X38 hx hZ hml hown (oV hw 192 rfl) (oV hw 195 rfl) (oV hw 194 rfl) (oV hw 196 rfl) (oV hw 4 rfl) (o_sch l Z a0 hw [] a1 cd y (Int32.ofNat nn) (58 : Int32) cs fm h0 n0 Z0 HS.1 HS.2.1 HS.2.2.1 (o_HSR (j := nn) HS (by omega) (by omega) o_gn) (o_onn (by omega)) hst O0) e38 HS.1 o_pd38 (hb hby at_285)
  obtain ⟨rfl, N46q, e46⟩ := hQ46
  have N46 := Fr.app NJ38 N46q
  have pre47 : Goes p e below T0 F0 T46 (mkF m 288 #[oI qa, oI qb, oI qc, oI qs, oI pp, oI (Int32.ofNat nn), oI va, oI vb, oI vc, oR w9, oR w10, oR w11, oR w12, oR w13, oR w14, oR a1, oI ng, .val (.long mL), .second, oI (Int32.ofNat (o_nd (o_M pp))), oI (Int32.ofNat (o_pl pp)), oU] [(.int 58)]) := fun t kt => pre39 t (by
    refine o_aL X38 hx hby at_281 rfl ?_
    refine o_iL X38 hx hby at_283 rfl ?_
    exact st46 t kt)
  have pre48 : Goes p e below T0 F0 T46 (mkF m 299 #[oI qa, oI qb, oI qc, oI qs, oI pp, oI (Int32.ofNat nn), oI va, oI vb, oI vc, oR w9, oR w10, oR w11, oR w12, oR w13, oR w14, oR a1, oI ng, .val (.long mL), .second, oI (Int32.ofNat (o_nd (o_M pp))), oI (Int32.ofNat (o_pl pp)), oU] [(.int ((Int32.ofNat nn) + (1 : Int32)))]) := fun t kt => pre47 t (by
    refine o_bp X46 hx hby at_288 ?_
    refine o_icY 290 295 X46 hx hby at_290 (teq (by decide : (58 : Int32) = (58 : Int32))).1 ?_
    refine o_iL X46 hx hby at_295 rfl ?_
    refine o_ic X46 hx hby at_297 ?_
    refine XS.iadd X46.here hx rfl (hb hby at_298) rfl ?_
    exact kt)
  rw [show ((Int32.ofNat nn) + (1 : Int32)) = (Int32.ofNat (nn + 1)) from o_oadd nn 1] at pre48
  obtain ⟨_, T49, L49, X49, hQ49, st49⟩ := o_cS (y := o_N60) (g := (mkF m 314 #[oI qa, oI qb, oI qc, oI qs, oI pp, oI (Int32.ofNat nn), oI va, oI vb, oI vc, oR w9, oR w10, oR w11, oR w12, oR w13, oR w14, oR a1, oI ng, .val (.long mL), .second, oI (Int32.ofNat (o_nd (o_M pp))), oI (Int32.ofNat (o_pl pp)), oI (Int32.ofNat (nn + 1))] [(.int (Int32.ofNat (o_pl pp))), (.int (Int32.ofNat (o_nd (o_M pp)))), (.long mL), (.int ng), (.int 0), (.int (Int32.ofNat (nn + 1))), (.ref a1)])) (as := [(.ref a1), (.int (Int32.ofNat (nn + 1))), (.int 0), (.int ng), (.long mL), (.int (Int32.ofNat (o_nd (o_M pp)))), (.int (Int32.ofNat (o_pl pp)))]) (rest := []) 0 X46 hx hZ hml hown (oV hw 214 rfl) (oV hw 215 rfl) (oV hw 188 rfl) (oV hw 216 rfl) (o_at l Z a0 hw [] a1 cd y (nn + 1) 0 ng mL pp cs fm h0 n0 Z0 HS.1 HS.2.1 HS.2.2.1 (fun q => o_HSR (j := nn + 1 + 0) HS (by omega) (by omega) (o_gp (k := 0))) hng hmL (by omega) hst O0) e46 o_pd41 (hb hby at_314)
  obtain ⟨rfl, N49q, K49q⟩ := hQ49
  have N49 := Fr.app N46 N49q
  have KC49 : Keep h0 T49.heap [] := (Keep.refl h0 []).trans K49q all0
  have pre50 : Goes p e below T0 F0 T49 (mkF m 317 #[oI qa, oI qb, oI qc, oI qs, oI pp, oI (Int32.ofNat nn), oI va, oI vb, oI vc, oR w9, oR w10, oR w11, oR w12, oR w13, oR w14, oR a1, oI ng, .val (.long mL), .second, oI (Int32.ofNat (o_nd (o_M pp))), oI (Int32.ofNat (o_pl pp)), oI (Int32.ofNat (nn + 1))] [(.int 1)]) := fun t kt => pre48 t (by
    refine XS.istore X46.here hx rfl (hb hby at_299) rfl (l' := #[oI qa, oI qb, oI qc, oI qs, oI pp, oI (Int32.ofNat nn), oI va, oI vb, oI vc, oR w9, oR w10, oR w11, oR w12, oR w13, oR w14, oR a1, oI ng, .val (.long mL), .second, oI (Int32.ofNat (o_nd (o_M pp))), oI (Int32.ofNat (o_pl pp)), oI (Int32.ofNat (nn + 1))]) rfl ?_
    refine o_aL X46 hx hby at_301 rfl ?_
    refine o_iL X46 hx hby at_303 rfl ?_
    refine o_ic X46 hx hby at_305 ?_
    refine o_iL X46 hx hby at_306 rfl ?_
    refine o_lL X46 hx hby at_308 rfl ?_
    refine o_iL X46 hx hby at_310 rfl ?_
    refine o_iL X46 hx hby at_312 rfl ?_
    exact st49 t kt)
  obtain ⟨_, T51, L51, X51, hQ51, st51⟩ := o_cS (y := o_N60) (g := (mkF m 333 #[oI qa, oI qb, oI qc, oI qs, oI pp, oI (Int32.ofNat nn), oI va, oI vb, oI vc, oR w9, oR w10, oR w11, oR w12, oR w13, oR w14, oR a1, oI ng, .val (.long mL), .second, oI (Int32.ofNat (o_nd (o_M pp))), oI (Int32.ofNat (o_pl pp)), oI (Int32.ofNat (nn + 1))] [(.int (Int32.ofNat (o_pl pp))), (.int (Int32.ofNat (o_nd (o_M pp)))), (.long mL), (.int ng), (.int 1), (.int (Int32.ofNat (nn + 1))), (.ref a1)])) (as := [(.ref a1), (.int (Int32.ofNat (nn + 1))), (.int 1), (.int ng), (.long mL), (.int (Int32.ofNat (o_nd (o_M pp)))), (.int (Int32.ofNat (o_pl pp)))]) (rest := []) 0 X49 hx hZ hml hown (oV hw 214 rfl) (oV hw 215 rfl) (oV hw 188 rfl) (oV hw 216 rfl) (o_at l Z a0 hw [] a1 cd y (nn + 1) 1 ng mL pp cs fm T49.heap n0 (Nat.le_trans Z0 KC49.1) (HS.keep KC49).1 (HS.keep KC49).2.1 (HS.keep KC49).2.2.1 (fun q => o_HSR (j := nn + 1 + 1) (HS.keep KC49) (by omega) (by omega) (o_gp (k := 1))) hng hmL (by omega) hst (O0.keep K49q all0)) rfl o_pd41 (hb hby at_333)
  obtain ⟨rfl, N51q, K51q⟩ := hQ51
  have N51 := Fr.app N49 N51q
  have KC51 : Keep h0 T51.heap [] := KC49.trans K51q all0
  have pre52 : Goes p e below T0 F0 T51 (mkF m 336 #[oI qa, oI qb, oI qc, oI qs, oI pp, oI (Int32.ofNat nn), oI va, oI vb, oI vc, oR w9, oR w10, oR w11, oR w12, oR w13, oR w14, oR a1, oI ng, .val (.long mL), .second, oI (Int32.ofNat (o_nd (o_M pp))), oI (Int32.ofNat (o_pl pp)), oI (Int32.ofNat (nn + 1))] [(.int 1)]) := fun t kt => pre50 t (by
    refine o_ifN X49 hx hby at_317 ((if0 _ _).trans (feq (by decide : ¬ ((1 : Int32) = (0 : Int32)))).1) ?_
    refine o_aL X49 hx hby at_320 rfl ?_
    refine o_iL X49 hx hby at_322 rfl ?_
    refine o_ic X49 hx hby at_324 ?_
    refine o_iL X49 hx hby at_325 rfl ?_
    refine o_lL X49 hx hby at_327 rfl ?_
    refine o_iL X49 hx hby at_329 rfl ?_
    refine o_iL X49 hx hby at_331 rfl ?_
    exact st51 t kt)
  obtain ⟨_, T53, L53, X53, hQ53, st53⟩ := o_cS (y := o_N60) (g := (mkF m 352 #[oI qa, oI qb, oI qc, oI qs, oI pp, oI (Int32.ofNat nn), oI va, oI vb, oI vc, oR w9, oR w10, oR w11, oR w12, oR w13, oR w14, oR a1, oI ng, .val (.long mL), .second, oI (Int32.ofNat (o_nd (o_M pp))), oI (Int32.ofNat (o_pl pp)), oI (Int32.ofNat (nn + 1))] [(.int (Int32.ofNat (o_pl pp))), (.int (Int32.ofNat (o_nd (o_M pp)))), (.long mL), (.int ng), (.int 2), (.int (Int32.ofNat (nn + 1))), (.ref a1)])) (as := [(.ref a1), (.int (Int32.ofNat (nn + 1))), (.int 2), (.int ng), (.long mL), (.int (Int32.ofNat (o_nd (o_M pp)))), (.int (Int32.ofNat (o_pl pp)))]) (rest := []) 0 X51 hx hZ hml hown (oV hw 214 rfl) (oV hw 215 rfl) (oV hw 188 rfl) (oV hw 216 rfl) (o_at l Z a0 hw [] a1 cd y (nn + 1) 2 ng mL pp cs fm T51.heap n0 (Nat.le_trans Z0 KC51.1) (HS.keep KC51).1 (HS.keep KC51).2.1 (HS.keep KC51).2.2.1 (fun q => o_HSR (j := nn + 1 + 2) (HS.keep KC51) (by omega) (by omega) (o_gp (k := 2))) hng hmL (by omega) hst ((O0.keep K49q all0).keep K51q all0)) rfl o_pd41 (hb hby at_352)
  obtain ⟨rfl, N53q, K53q⟩ := hQ53
  have N53 := Fr.app N51 N53q
  have KC53 : Keep h0 T53.heap [] := KC51.trans K53q all0
  have pre54 : Goes p e below T0 F0 T53 (mkF m 355 #[oI qa, oI qb, oI qc, oI qs, oI pp, oI (Int32.ofNat nn), oI va, oI vb, oI vc, oR w9, oR w10, oR w11, oR w12, oR w13, oR w14, oR a1, oI ng, .val (.long mL), .second, oI (Int32.ofNat (o_nd (o_M pp))), oI (Int32.ofNat (o_pl pp)), oI (Int32.ofNat (nn + 1))] [(.int 1)]) := fun t kt => pre52 t (by
    refine o_ifN X51 hx hby at_336 ((if0 _ _).trans (feq (by decide : ¬ ((1 : Int32) = (0 : Int32)))).1) ?_
    refine o_aL X51 hx hby at_339 rfl ?_
    refine o_iL X51 hx hby at_341 rfl ?_
    refine o_ic X51 hx hby at_343 ?_
    refine o_iL X51 hx hby at_344 rfl ?_
    refine o_lL X51 hx hby at_346 rfl ?_
    refine o_iL X51 hx hby at_348 rfl ?_
    refine o_iL X51 hx hby at_350 rfl ?_
    exact st53 t kt)
  obtain ⟨_, T55, L55, X55, hQ55, st55⟩ := o_cS (y := o_N60) (g := (mkF m 371 #[oI qa, oI qb, oI qc, oI qs, oI pp, oI (Int32.ofNat nn), oI va, oI vb, oI vc, oR w9, oR w10, oR w11, oR w12, oR w13, oR w14, oR a1, oI ng, .val (.long mL), .second, oI (Int32.ofNat (o_nd (o_M pp))), oI (Int32.ofNat (o_pl pp)), oI (Int32.ofNat (nn + 1))] [(.int (Int32.ofNat (o_pl pp))), (.int (Int32.ofNat (o_nd (o_M pp)))), (.long mL), (.int ng), (.int 3), (.int (Int32.ofNat (nn + 1))), (.ref a1)])) (as := [(.ref a1), (.int (Int32.ofNat (nn + 1))), (.int 3), (.int ng), (.long mL), (.int (Int32.ofNat (o_nd (o_M pp)))), (.int (Int32.ofNat (o_pl pp)))]) (rest := []) 0 X53 hx hZ hml hown (oV hw 214 rfl) (oV hw 215 rfl) (oV hw 188 rfl) (oV hw 216 rfl) (o_at l Z a0 hw [] a1 cd y (nn + 1) 3 ng mL pp cs fm T53.heap n0 (Nat.le_trans Z0 KC53.1) (HS.keep KC53).1 (HS.keep KC53).2.1 (HS.keep KC53).2.2.1 (fun q => o_HSR (j := nn + 1 + 3) (HS.keep KC53) (by omega) (by omega) (o_gp (k := 3))) hng hmL (by omega) hst (((O0.keep K49q all0).keep K51q all0).keep K53q all0)) rfl o_pd41 (hb hby at_371)
  obtain ⟨rfl, N55q, K55q⟩ := hQ55
  have N55 := Fr.app N53 N55q
  have KC55 : Keep h0 T55.heap [] := KC53.trans K55q all0
  have pre56 : Goes p e below T0 F0 T55 (mkF m 374 #[oI qa, oI qb, oI qc, oI qs, oI pp, oI (Int32.ofNat nn), oI va, oI vb, oI vc, oR w9, oR w10, oR w11, oR w12, oR w13, oR w14, oR a1, oI ng, .val (.long mL), .second, oI (Int32.ofNat (o_nd (o_M pp))), oI (Int32.ofNat (o_pl pp)), oI (Int32.ofNat (nn + 1))] [(.int 1)]) := fun t kt => pre54 t (by
    refine o_ifN X53 hx hby at_355 ((if0 _ _).trans (feq (by decide : ¬ ((1 : Int32) = (0 : Int32)))).1) ?_
    refine o_aL X53 hx hby at_358 rfl ?_
    refine o_iL X53 hx hby at_360 rfl ?_
    refine o_ic X53 hx hby at_362 ?_
    refine o_iL X53 hx hby at_363 rfl ?_
    refine o_lL X53 hx hby at_365 rfl ?_
    refine o_iL X53 hx hby at_367 rfl ?_
    refine o_iL X53 hx hby at_369 rfl ?_
    exact st55 t kt)
  obtain ⟨_, T57, L57, X57, hQ57, st57⟩ := o_cS (y := o_N60) (g := (mkF m 390 #[oI qa, oI qb, oI qc, oI qs, oI pp, oI (Int32.ofNat nn), oI va, oI vb, oI vc, oR w9, oR w10, oR w11, oR w12, oR w13, oR w14, oR a1, oI ng, .val (.long mL), .second, oI (Int32.ofNat (o_nd (o_M pp))), oI (Int32.ofNat (o_pl pp)), oI (Int32.ofNat (nn + 1))] [(.int (Int32.ofNat (o_pl pp))), (.int (Int32.ofNat (o_nd (o_M pp)))), (.long mL), (.int ng), (.int 4), (.int (Int32.ofNat (nn + 1))), (.ref a1)])) (as := [(.ref a1), (.int (Int32.ofNat (nn + 1))), (.int 4), (.int ng), (.long mL), (.int (Int32.ofNat (o_nd (o_M pp)))), (.int (Int32.ofNat (o_pl pp)))]) (rest := []) 0 X55 hx hZ hml hown (oV hw 214 rfl) (oV hw 215 rfl) (oV hw 188 rfl) (oV hw 216 rfl) (o_at l Z a0 hw [] a1 cd y (nn + 1) 4 ng mL pp cs fm T55.heap n0 (Nat.le_trans Z0 KC55.1) (HS.keep KC55).1 (HS.keep KC55).2.1 (HS.keep KC55).2.2.1 (fun q => o_HSR (j := nn + 1 + 4) (HS.keep KC55) (by omega) (by omega) (o_gp (k := 4))) hng hmL (by omega) hst ((((O0.keep K49q all0).keep K51q all0).keep K53q all0).keep K55q all0)) rfl o_pd41 (hb hby at_390)
  obtain ⟨rfl, N57q, K57q⟩ := hQ57
  have N57 := Fr.app N55 N57q
  have KC57 : Keep h0 T57.heap [] := KC55.trans K57q all0
  have pre58 : Goes p e below T0 F0 T57 (mkF m 393 #[oI qa, oI qb, oI qc, oI qs, oI pp, oI (Int32.ofNat nn), oI va, oI vb, oI vc, oR w9, oR w10, oR w11, oR w12, oR w13, oR w14, oR a1, oI ng, .val (.long mL), .second, oI (Int32.ofNat (o_nd (o_M pp))), oI (Int32.ofNat (o_pl pp)), oI (Int32.ofNat (nn + 1))] [(.int 1)]) := fun t kt => pre56 t (by
    refine o_ifN X55 hx hby at_374 ((if0 _ _).trans (feq (by decide : ¬ ((1 : Int32) = (0 : Int32)))).1) ?_
    refine o_aL X55 hx hby at_377 rfl ?_
    refine o_iL X55 hx hby at_379 rfl ?_
    refine o_ic X55 hx hby at_381 ?_
    refine o_iL X55 hx hby at_382 rfl ?_
    refine o_lL X55 hx hby at_384 rfl ?_
    refine o_iL X55 hx hby at_386 rfl ?_
    refine o_iL X55 hx hby at_388 rfl ?_
    exact st57 t kt)
  obtain ⟨_, T59, L59, X59, hQ59, st59⟩ := o_cS (y := o_N60) (g := (mkF m 409 #[oI qa, oI qb, oI qc, oI qs, oI pp, oI (Int32.ofNat nn), oI va, oI vb, oI vc, oR w9, oR w10, oR w11, oR w12, oR w13, oR w14, oR a1, oI ng, .val (.long mL), .second, oI (Int32.ofNat (o_nd (o_M pp))), oI (Int32.ofNat (o_pl pp)), oI (Int32.ofNat (nn + 1))] [(.int (Int32.ofNat (o_pl pp))), (.int (Int32.ofNat (o_nd (o_M pp)))), (.long mL), (.int ng), (.int 5), (.int (Int32.ofNat (nn + 1))), (.ref a1)])) (as := [(.ref a1), (.int (Int32.ofNat (nn + 1))), (.int 5), (.int ng), (.long mL), (.int (Int32.ofNat (o_nd (o_M pp)))), (.int (Int32.ofNat (o_pl pp)))]) (rest := []) 0 X57 hx hZ hml hown (oV hw 214 rfl) (oV hw 215 rfl) (oV hw 188 rfl) (oV hw 216 rfl) (o_at l Z a0 hw [] a1 cd y (nn + 1) 5 ng mL pp cs fm T57.heap n0 (Nat.le_trans Z0 KC57.1) (HS.keep KC57).1 (HS.keep KC57).2.1 (HS.keep KC57).2.2.1 (fun q => o_HSR (j := nn + 1 + 5) (HS.keep KC57) (by omega) (by omega) (o_gp (k := 5))) hng hmL (by omega) hst (((((O0.keep K49q all0).keep K51q all0).keep K53q all0).keep K55q all0).keep K57q all0)) rfl o_pd41 (hb hby at_409)
  obtain ⟨rfl, N59q, K59q⟩ := hQ59
  have N59 := Fr.app N57 N59q
  have KC59 : Keep h0 T59.heap [] := KC57.trans K59q all0
  have pre60 : Goes p e below T0 F0 T59 (mkF m 412 #[oI qa, oI qb, oI qc, oI qs, oI pp, oI (Int32.ofNat nn), oI va, oI vb, oI vc, oR w9, oR w10, oR w11, oR w12, oR w13, oR w14, oR a1, oI ng, .val (.long mL), .second, oI (Int32.ofNat (o_nd (o_M pp))), oI (Int32.ofNat (o_pl pp)), oI (Int32.ofNat (nn + 1))] [(.int 1)]) := fun t kt => pre58 t (by
    refine o_ifN X57 hx hby at_393 ((if0 _ _).trans (feq (by decide : ¬ ((1 : Int32) = (0 : Int32)))).1) ?_
    refine o_aL X57 hx hby at_396 rfl ?_
    refine o_iL X57 hx hby at_398 rfl ?_
    refine o_ic X57 hx hby at_400 ?_
    refine o_iL X57 hx hby at_401 rfl ?_
    refine o_lL X57 hx hby at_403 rfl ?_
    refine o_iL X57 hx hby at_405 rfl ?_
    refine o_iL X57 hx hby at_407 rfl ?_
    exact st59 t kt)
  obtain ⟨_, T61, L61, X61, hQ61, st61⟩ := o_cS (y := o_N60) (g := (mkF m 429 #[oI qa, oI qb, oI qc, oI qs, oI pp, oI (Int32.ofNat nn), oI va, oI vb, oI vc, oR w9, oR w10, oR w11, oR w12, oR w13, oR w14, oR a1, oI ng, .val (.long mL), .second, oI (Int32.ofNat (o_nd (o_M pp))), oI (Int32.ofNat (o_pl pp)), oI (Int32.ofNat (nn + 1))] [(.int (Int32.ofNat (o_pl pp))), (.int (Int32.ofNat (o_nd (o_M pp)))), (.long mL), (.int ng), (.int 6), (.int (Int32.ofNat (nn + 1))), (.ref a1)])) (as := [(.ref a1), (.int (Int32.ofNat (nn + 1))), (.int 6), (.int ng), (.long mL), (.int (Int32.ofNat (o_nd (o_M pp)))), (.int (Int32.ofNat (o_pl pp)))]) (rest := []) 0 X59 hx hZ hml hown (oV hw 214 rfl) (oV hw 215 rfl) (oV hw 188 rfl) (oV hw 216 rfl) (o_at l Z a0 hw [] a1 cd y (nn + 1) 6 ng mL pp cs fm T59.heap n0 (Nat.le_trans Z0 KC59.1) (HS.keep KC59).1 (HS.keep KC59).2.1 (HS.keep KC59).2.2.1 (fun q => o_HSR (j := nn + 1 + 6) (HS.keep KC59) (by omega) (by omega) (o_gp (k := 6))) hng hmL (by omega) hst ((((((O0.keep K49q all0).keep K51q all0).keep K53q all0).keep K55q all0).keep K57q all0).keep K59q all0)) rfl o_pd41 (hb hby at_429)
  obtain ⟨rfl, N61q, K61q⟩ := hQ61
  have N61 := Fr.app N59 N61q
  have KC61 : Keep h0 T61.heap [] := KC59.trans K61q all0
  have pre62 : Goes p e below T0 F0 T61 (mkF m 432 #[oI qa, oI qb, oI qc, oI qs, oI pp, oI (Int32.ofNat nn), oI va, oI vb, oI vc, oR w9, oR w10, oR w11, oR w12, oR w13, oR w14, oR a1, oI ng, .val (.long mL), .second, oI (Int32.ofNat (o_nd (o_M pp))), oI (Int32.ofNat (o_pl pp)), oI (Int32.ofNat (nn + 1))] [(.int 1)]) := fun t kt => pre60 t (by
    refine o_ifN X59 hx hby at_412 ((if0 _ _).trans (feq (by decide : ¬ ((1 : Int32) = (0 : Int32)))).1) ?_
    refine o_aL X59 hx hby at_415 rfl ?_
    refine o_iL X59 hx hby at_417 rfl ?_
    refine o_bp X59 hx hby at_419 ?_
    refine o_iL X59 hx hby at_421 rfl ?_
    refine o_lL X59 hx hby at_423 rfl ?_
    refine o_iL X59 hx hby at_425 rfl ?_
    refine o_iL X59 hx hby at_427 rfl ?_
    exact st61 t kt)
  obtain ⟨_, T63, L63, X63, hQ63, st63⟩ := o_cS (y := o_N60) (g := (mkF m 449 #[oI qa, oI qb, oI qc, oI qs, oI pp, oI (Int32.ofNat nn), oI va, oI vb, oI vc, oR w9, oR w10, oR w11, oR w12, oR w13, oR w14, oR a1, oI ng, .val (.long mL), .second, oI (Int32.ofNat (o_nd (o_M pp))), oI (Int32.ofNat (o_pl pp)), oI (Int32.ofNat (nn + 1))] [(.int (Int32.ofNat (o_pl pp))), (.int (Int32.ofNat (o_nd (o_M pp)))), (.long mL), (.int ng), (.int 7), (.int (Int32.ofNat (nn + 1))), (.ref a1)])) (as := [(.ref a1), (.int (Int32.ofNat (nn + 1))), (.int 7), (.int ng), (.long mL), (.int (Int32.ofNat (o_nd (o_M pp)))), (.int (Int32.ofNat (o_pl pp)))]) (rest := []) 0 X61 hx hZ hml hown (oV hw 214 rfl) (oV hw 215 rfl) (oV hw 188 rfl) (oV hw 216 rfl) (o_at l Z a0 hw [] a1 cd y (nn + 1) 7 ng mL pp cs fm T61.heap n0 (Nat.le_trans Z0 KC61.1) (HS.keep KC61).1 (HS.keep KC61).2.1 (HS.keep KC61).2.2.1 (fun q => o_HSR (j := nn + 1 + 7) (HS.keep KC61) (by omega) (by omega) (o_gp (k := 7))) hng hmL (by omega) hst (((((((O0.keep K49q all0).keep K51q all0).keep K53q all0).keep K55q all0).keep K57q all0).keep K59q all0).keep K61q all0)) rfl o_pd41 (hb hby at_449)
  obtain ⟨rfl, N63q, K63q⟩ := hQ63
  have N63 := Fr.app N61 N63q
  have KC63 : Keep h0 T63.heap [] := KC61.trans K63q all0
  have pre64 : Goes p e below T0 F0 T63 (mkF m 452 #[oI qa, oI qb, oI qc, oI qs, oI pp, oI (Int32.ofNat nn), oI va, oI vb, oI vc, oR w9, oR w10, oR w11, oR w12, oR w13, oR w14, oR a1, oI ng, .val (.long mL), .second, oI (Int32.ofNat (o_nd (o_M pp))), oI (Int32.ofNat (o_pl pp)), oI (Int32.ofNat (nn + 1))] [(.int 1)]) := fun t kt => pre62 t (by
    refine o_ifN X61 hx hby at_432 ((if0 _ _).trans (feq (by decide : ¬ ((1 : Int32) = (0 : Int32)))).1) ?_
    refine o_aL X61 hx hby at_435 rfl ?_
    refine o_iL X61 hx hby at_437 rfl ?_
    refine o_bp X61 hx hby at_439 ?_
    refine o_iL X61 hx hby at_441 rfl ?_
    refine o_lL X61 hx hby at_443 rfl ?_
    refine o_iL X61 hx hby at_445 rfl ?_
    refine o_iL X61 hx hby at_447 rfl ?_
    exact st63 t kt)
  obtain ⟨_, T65, L65, X65, hQ65, st65⟩ := o_cS (y := o_N60) (g := (mkF m 469 #[oI qa, oI qb, oI qc, oI qs, oI pp, oI (Int32.ofNat nn), oI va, oI vb, oI vc, oR w9, oR w10, oR w11, oR w12, oR w13, oR w14, oR a1, oI ng, .val (.long mL), .second, oI (Int32.ofNat (o_nd (o_M pp))), oI (Int32.ofNat (o_pl pp)), oI (Int32.ofNat (nn + 1))] [(.int (Int32.ofNat (o_pl pp))), (.int (Int32.ofNat (o_nd (o_M pp)))), (.long mL), (.int ng), (.int 8), (.int (Int32.ofNat (nn + 1))), (.ref a1)])) (as := [(.ref a1), (.int (Int32.ofNat (nn + 1))), (.int 8), (.int ng), (.long mL), (.int (Int32.ofNat (o_nd (o_M pp)))), (.int (Int32.ofNat (o_pl pp)))]) (rest := []) 0 X63 hx hZ hml hown (oV hw 214 rfl) (oV hw 215 rfl) (oV hw 188 rfl) (oV hw 216 rfl) (o_at l Z a0 hw [] a1 cd y (nn + 1) 8 ng mL pp cs fm T63.heap n0 (Nat.le_trans Z0 KC63.1) (HS.keep KC63).1 (HS.keep KC63).2.1 (HS.keep KC63).2.2.1 (fun q => o_HSR (j := nn + 1 + 8) (HS.keep KC63) (by omega) (by omega) (o_gp (k := 8))) hng hmL (by omega) hst ((((((((O0.keep K49q all0).keep K51q all0).keep K53q all0).keep K55q all0).keep K57q all0).keep K59q all0).keep K61q all0).keep K63q all0)) rfl o_pd41 (hb hby at_469)
  obtain ⟨rfl, N65q, K65q⟩ := hQ65
  have N65 := Fr.app N63 N65q
  have KC65 : Keep h0 T65.heap [] := KC63.trans K65q all0
  have pre66 : Goes p e below T0 F0 T65 (mkF m 472 #[oI qa, oI qb, oI qc, oI qs, oI pp, oI (Int32.ofNat nn), oI va, oI vb, oI vc, oR w9, oR w10, oR w11, oR w12, oR w13, oR w14, oR a1, oI ng, .val (.long mL), .second, oI (Int32.ofNat (o_nd (o_M pp))), oI (Int32.ofNat (o_pl pp)), oI (Int32.ofNat (nn + 1))] [(.int 1)]) := fun t kt => pre64 t (by
    refine o_ifN X63 hx hby at_452 ((if0 _ _).trans (feq (by decide : ¬ ((1 : Int32) = (0 : Int32)))).1) ?_
    refine o_aL X63 hx hby at_455 rfl ?_
    refine o_iL X63 hx hby at_457 rfl ?_
    refine o_bp X63 hx hby at_459 ?_
    refine o_iL X63 hx hby at_461 rfl ?_
    refine o_lL X63 hx hby at_463 rfl ?_
    refine o_iL X63 hx hby at_465 rfl ?_
    refine o_iL X63 hx hby at_467 rfl ?_
    exact st65 t kt)
  obtain ⟨_, T67, L67, X67, hQ67, st67⟩ := o_cS (y := o_N60) (g := (mkF m 489 #[oI qa, oI qb, oI qc, oI qs, oI pp, oI (Int32.ofNat nn), oI va, oI vb, oI vc, oR w9, oR w10, oR w11, oR w12, oR w13, oR w14, oR a1, oI ng, .val (.long mL), .second, oI (Int32.ofNat (o_nd (o_M pp))), oI (Int32.ofNat (o_pl pp)), oI (Int32.ofNat (nn + 1))] [(.int (Int32.ofNat (o_pl pp))), (.int (Int32.ofNat (o_nd (o_M pp)))), (.long mL), (.int ng), (.int 9), (.int (Int32.ofNat (nn + 1))), (.ref a1)])) (as := [(.ref a1), (.int (Int32.ofNat (nn + 1))), (.int 9), (.int ng), (.long mL), (.int (Int32.ofNat (o_nd (o_M pp)))), (.int (Int32.ofNat (o_pl pp)))]) (rest := []) 0 X65 hx hZ hml hown (oV hw 214 rfl) (oV hw 215 rfl) (oV hw 188 rfl) (oV hw 216 rfl) (o_at l Z a0 hw [] a1 cd y (nn + 1) 9 ng mL pp cs fm T65.heap n0 (Nat.le_trans Z0 KC65.1) (HS.keep KC65).1 (HS.keep KC65).2.1 (HS.keep KC65).2.2.1 (fun q => o_HSR (j := nn + 1 + 9) (HS.keep KC65) (by omega) (by omega) (o_gp (k := 9))) hng hmL (by omega) hst (((((((((O0.keep K49q all0).keep K51q all0).keep K53q all0).keep K55q all0).keep K57q all0).keep K59q all0).keep K61q all0).keep K63q all0).keep K65q all0)) rfl o_pd41 (hb hby at_489)
  obtain ⟨rfl, N67q, K67q⟩ := hQ67
  have N67 := Fr.app N65 N67q
  have KC67 : Keep h0 T67.heap [] := KC65.trans K67q all0
  have pre68 : Goes p e below T0 F0 T67 (mkF m 492 #[oI qa, oI qb, oI qc, oI qs, oI pp, oI (Int32.ofNat nn), oI va, oI vb, oI vc, oR w9, oR w10, oR w11, oR w12, oR w13, oR w14, oR a1, oI ng, .val (.long mL), .second, oI (Int32.ofNat (o_nd (o_M pp))), oI (Int32.ofNat (o_pl pp)), oI (Int32.ofNat (nn + 1))] [(.int 1)]) := fun t kt => pre66 t (by
    refine o_ifN X65 hx hby at_472 ((if0 _ _).trans (feq (by decide : ¬ ((1 : Int32) = (0 : Int32)))).1) ?_
    refine o_aL X65 hx hby at_475 rfl ?_
    refine o_iL X65 hx hby at_477 rfl ?_
    refine o_bp X65 hx hby at_479 ?_
    refine o_iL X65 hx hby at_481 rfl ?_
    refine o_lL X65 hx hby at_483 rfl ?_
    refine o_iL X65 hx hby at_485 rfl ?_
    refine o_iL X65 hx hby at_487 rfl ?_
    exact st67 t kt)
  obtain ⟨_, T69, L69, X69, hQ69, st69⟩ := o_cS (y := o_N60) (g := (mkF m 509 #[oI qa, oI qb, oI qc, oI qs, oI pp, oI (Int32.ofNat nn), oI va, oI vb, oI vc, oR w9, oR w10, oR w11, oR w12, oR w13, oR w14, oR a1, oI ng, .val (.long mL), .second, oI (Int32.ofNat (o_nd (o_M pp))), oI (Int32.ofNat (o_pl pp)), oI (Int32.ofNat (nn + 1))] [(.int (Int32.ofNat (o_pl pp))), (.int (Int32.ofNat (o_nd (o_M pp)))), (.long mL), (.int ng), (.int 10), (.int (Int32.ofNat (nn + 1))), (.ref a1)])) (as := [(.ref a1), (.int (Int32.ofNat (nn + 1))), (.int 10), (.int ng), (.long mL), (.int (Int32.ofNat (o_nd (o_M pp)))), (.int (Int32.ofNat (o_pl pp)))]) (rest := []) 0 X67 hx hZ hml hown (oV hw 214 rfl) (oV hw 215 rfl) (oV hw 188 rfl) (oV hw 216 rfl) (o_at l Z a0 hw [] a1 cd y (nn + 1) 10 ng mL pp cs fm T67.heap n0 (Nat.le_trans Z0 KC67.1) (HS.keep KC67).1 (HS.keep KC67).2.1 (HS.keep KC67).2.2.1 (fun q => o_HSR (j := nn + 1 + 10) (HS.keep KC67) (by omega) (by omega) (o_gp (k := 10))) hng hmL (by omega) hst ((((((((((O0.keep K49q all0).keep K51q all0).keep K53q all0).keep K55q all0).keep K57q all0).keep K59q all0).keep K61q all0).keep K63q all0).keep K65q all0).keep K67q all0)) rfl o_pd41 (hb hby at_509)
  obtain ⟨rfl, N69q, K69q⟩ := hQ69
  have N69 := Fr.app N67 N69q
  have KC69 : Keep h0 T69.heap [] := KC67.trans K69q all0
  have pre70 : Goes p e below T0 F0 T69 (mkF m 512 #[oI qa, oI qb, oI qc, oI qs, oI pp, oI (Int32.ofNat nn), oI va, oI vb, oI vc, oR w9, oR w10, oR w11, oR w12, oR w13, oR w14, oR a1, oI ng, .val (.long mL), .second, oI (Int32.ofNat (o_nd (o_M pp))), oI (Int32.ofNat (o_pl pp)), oI (Int32.ofNat (nn + 1))] [(.int 1)]) := fun t kt => pre68 t (by
    refine o_ifN X67 hx hby at_492 ((if0 _ _).trans (feq (by decide : ¬ ((1 : Int32) = (0 : Int32)))).1) ?_
    refine o_aL X67 hx hby at_495 rfl ?_
    refine o_iL X67 hx hby at_497 rfl ?_
    refine o_bp X67 hx hby at_499 ?_
    refine o_iL X67 hx hby at_501 rfl ?_
    refine o_lL X67 hx hby at_503 rfl ?_
    refine o_iL X67 hx hby at_505 rfl ?_
    refine o_iL X67 hx hby at_507 rfl ?_
    exact st69 t kt)
  have pre71 : Goes p e below T0 F0 T69 (mkF m 520 #[oI qa, oI qb, oI qc, oI qs, oI pp, oI (Int32.ofNat nn), oI va, oI vb, oI vc, oR w9, oR w10, oR w11, oR w12, oR w13, oR w14, oR a1, oI ng, .val (.long mL), .second, oI (Int32.ofNat (o_nd (o_M pp))), oI (Int32.ofNat (o_pl pp)), oI (Int32.ofNat (nn + 1))] [(.int 1)]) := fun t kt => pre70 t (by
    refine o_ifN X69 hx hby at_512 ((if0 _ _).trans (feq (by decide : ¬ ((1 : Int32) = (0 : Int32)))).1) ?_
    refine o_ic X69 hx hby at_515 ?_
    refine o_gt 516 520 X69 hx hby at_516 ?_
    exact kt)
  rw [hF0] at pre71
  exact ⟨T69, _, _, ng, mL, X69, rfl, N69, KC69, pre71⟩
theorem o_ef_o_rm0 (m : MethodId) (x0 x1 : Int32) (x2 x3 x4 : Int32) : entryFrame m #[(.int x0), (.int x1), (.int x2), (.int x3), (.int x4)] maxLocals = mkF m 0 #[oI x0, oI x1, oI x2, oI x3, oI x4, oU, oU, oU, oU, oU, oU, oU, oU, oU, oU, oU, oU, oU, oU, oU, oU, oU] [] := by first | (simp [entryFrame, mkF, argsToLocals, Value.category, maxLocals]; done) | rfl
def Q_o_rm0 (Z : State) (qa qb : Int32) (qc qs : Int32) (pp cs : Int32) (fm : Value) (aO aT : Addr) (h0 : Heap) (n0 : Nat) (v : Option Value) (h : Heap) (L : List Loc) : Prop := v = some (.int 1) ∧ Fr n0 L
theorem o_rm0 (l : Launch) (Z : State) (a0 : Array Value) (hw : ∀ d ∈ tables_1, d.before a0 Z = true) (ws : List Jvm.Cond) (qa qb : Int32) (qc qs : Int32) (pp cs : Int32) (fm : Value) (aO aT : Addr) (h0 : Heap) (n0 : Nat) (Z0 : n0 ≤ h0.size) (hst : o_ST Z cs fm) (O0 : Old Z n0 h0) (hdg : o_DG Z aO aT) :
    MetFree l x (head1 (Jvm.Cond.code x code maxLocals ret :: ws) room_1) (fun a U => a = #[(.int qa), (.int qb), (.int qc), (.int qs), (.int pp)] ∧ Z.Warmed39 U.vm ∧ U.heap = h0 ∧ CHv Z o_EL U.vm h0) (fun _ _ _ _ _ => True) (fun _ U o U' => ∃ v L, o = .returned v ∧ Q_o_rm0 Z qa qb qc qs pp cs fm aO aT h0 n0 v U'.heap L ∧ CHr Z o_EL U.vm U.heap U'.vm U'.heap ∧ ReturnedEndW U o U' L room_1.cells room_1.slots) := by
  refine MetFree.of_bodySF (plainFor_of_name o_pn_o_digs) hisR ?_
  intro p e s m args below meth c s1 Bd hml0 hP hK
  obtain ⟨rfl, hZ, hh, hCH⟩ := hP
  have hx := Bd.exec
  have hby := Bd.bytes
  have hml : c.maxLocals = 22 := hml0
  have hown : s.vm.findClass "com/example/ferry/ferry/EndpointToStringPinLaw" = some m.cls := findClass_of_methodNamed Bd.named
  have hnm := (name_of_methodNamed Bd.named Bd.method).1
  have X0 : Stand p l e room_1 s m #[(.int qa), (.int qb), (.int qc), (.int qs), (.int pp)] below meth c s1 [] 0 0 := Stand.of_body Bd
  have e0 : s1.heap = h0 := by rw [← hh, Bd.state]; rfl
  have N0 := Fr.nil n0
  obtain ⟨F0, hF0⟩ : ∃ F, F = (entryFrame m #[(.int qa), (.int qb), (.int qc), (.int qs), (.int pp)] maxLocals) := ⟨_, rfl⟩
  have pre0 : Goes p e below s1 F0 s1 (mkF m 0 #[oI qa, oI qb, oI qc, oI qs, oI pp, oU, oU, oU, oU, oU, oU, oU, oU, oU, oU, oU, oU, oU, oU, oU, oU, oU] []) := fun t k => castTop (hF0.trans (o_ef_o_rm0 m qa qb qc qs pp)) k
  have hEL : EW Z a0 o_EL := (EW.cons (oV hw 117 rfl) (by simp) (EW.cons (oV hw 230 rfl) (by simp) EW.nil))
  have CH0 : CHr Z o_EL s.vm h0 s.vm h0 := CHr.refl hCH
  have pre1 : Goes p e below s1 F0 s1 (mkF m 10 #[oI qa, oI qb, oI qc, oI qs, oI pp, oI (qs &&& (3 : Int32)), oU, oU, oU, oU, oU, oU, oU, oU, oU, oU, oU, oU, oU, oU, oU, oU] [(.int ((qa &&& (65535 : Int32)).toUInt32.toUInt16.toUInt32.toInt32))]) := fun t kt => pre0 t (by
    refine o_il X0 hx hby at_0 rfl ?_
    refine o_ic X0 hx hby at_1 ?_
    refine XS.iand X0.here hx rfl (hb hby at_2) rfl ?_
    refine XS.istore X0.here hx rfl (hb hby at_3) rfl (l' := #[oI qa, oI qb, oI qc, oI qs, oI pp, oI (qs &&& (3 : Int32)), oU, oU, oU, oU, oU, oU, oU, oU, oU, oU, oU, oU, oU, oU, oU, oU]) rfl ?_
    refine o_il X0 hx hby at_5 rfl ?_
    refine X0.ldcInt hx hown (oW hw hZ 0 rfl) (g := (mkF m 6 #[oI qa, oI qb, oI qc, oI qs, oI pp, oI (qs &&& (3 : Int32)), oU, oU, oU, oU, oU, oU, oU, oU, oU, oU, oU, oU, oU, oU, oU, oU] [(.int qa)])) rfl (hb hby at_6) _ ?_
    refine XS.iand X0.here hx rfl (hb hby at_8) rfl ?_
    refine XS.i2c X0.here hx rfl (hb hby at_9) rfl ?_
    exact kt)
  obtain ⟨va, hEva, hRva⟩ : ∃ z : Int32, z = ((qa &&& (65535 : Int32)).toUInt32.toUInt16.toUInt32.toInt32) ∧ (0 ≤ z.toInt ∧ z.toInt < 65536) := ⟨_, rfl, o_i2r _⟩
  rw [show ((qa &&& (65535 : Int32)).toUInt32.toUInt16.toUInt32.toInt32) = va from hEva.symm] at pre1
  have pre2 : Goes p e below s1 F0 s1 (mkF m 17 #[oI qa, oI qb, oI qc, oI qs, oI pp, oI (qs &&& (3 : Int32)), oI va, oU, oU, oU, oU, oU, oU, oU, oU, oU, oU, oU, oU, oU, oU, oU] [(.int ((qb &&& (65535 : Int32)).toUInt32.toUInt16.toUInt32.toInt32))]) := fun t kt => pre1 t (by
    refine XS.istore X0.here hx rfl (hb hby at_10) rfl (l' := #[oI qa, oI qb, oI qc, oI qs, oI pp, oI (qs &&& (3 : Int32)), oI va, oU, oU, oU, oU, oU, oU, oU, oU, oU, oU, oU, oU, oU, oU, oU]) rfl ?_
    refine o_il X0 hx hby at_12 rfl ?_
    refine X0.ldcInt hx hown (oW hw hZ 0 rfl) (g := (mkF m 13 #[oI qa, oI qb, oI qc, oI qs, oI pp, oI (qs &&& (3 : Int32)), oI va, oU, oU, oU, oU, oU, oU, oU, oU, oU, oU, oU, oU, oU, oU, oU] [(.int qb)])) rfl (hb hby at_13) _ ?_
    refine XS.iand X0.here hx rfl (hb hby at_15) rfl ?_
    refine XS.i2c X0.here hx rfl (hb hby at_16) rfl ?_
    exact kt)
  obtain ⟨vb, hEvb, hRvb⟩ : ∃ z : Int32, z = ((qb &&& (65535 : Int32)).toUInt32.toUInt16.toUInt32.toInt32) ∧ (0 ≤ z.toInt ∧ z.toInt < 65536) := ⟨_, rfl, o_i2r _⟩
  rw [show ((qb &&& (65535 : Int32)).toUInt32.toUInt16.toUInt32.toInt32) = vb from hEvb.symm] at pre2
  have pre3 : Goes p e below s1 F0 s1 (mkF m 24 #[oI qa, oI qb, oI qc, oI qs, oI pp, oI (qs &&& (3 : Int32)), oI va, oI vb, oU, oU, oU, oU, oU, oU, oU, oU, oU, oU, oU, oU, oU, oU] [(.int ((qc &&& (65535 : Int32)).toUInt32.toUInt16.toUInt32.toInt32))]) := fun t kt => pre2 t (by
    refine XS.istore X0.here hx rfl (hb hby at_17) rfl (l' := #[oI qa, oI qb, oI qc, oI qs, oI pp, oI (qs &&& (3 : Int32)), oI va, oI vb, oU, oU, oU, oU, oU, oU, oU, oU, oU, oU, oU, oU, oU, oU]) rfl ?_
    refine o_il X0 hx hby at_19 rfl ?_
    refine X0.ldcInt hx hown (oW hw hZ 0 rfl) (g := (mkF m 20 #[oI qa, oI qb, oI qc, oI qs, oI pp, oI (qs &&& (3 : Int32)), oI va, oI vb, oU, oU, oU, oU, oU, oU, oU, oU, oU, oU, oU, oU, oU, oU] [(.int qc)])) rfl (hb hby at_20) _ ?_
    refine XS.iand X0.here hx rfl (hb hby at_22) rfl ?_
    refine XS.i2c X0.here hx rfl (hb hby at_23) rfl ?_
    exact kt)
  obtain ⟨vc, hEvc, hRvc⟩ : ∃ z : Int32, z = ((qc &&& (65535 : Int32)).toUInt32.toUInt16.toUInt32.toInt32) ∧ (0 ≤ z.toInt ∧ z.toInt < 65536) := ⟨_, rfl, o_i2r _⟩
  rw [show ((qc &&& (65535 : Int32)).toUInt32.toUInt16.toUInt32.toInt32) = vc from hEvc.symm] at pre3
  obtain ⟨T4, h4, k4, X4, e4, E4, A4, st4⟩ := newP X0 hx hZ (oV hw 1 rfl) e0 (g := (mkF m 27 #[oI qa, oI qb, oI qc, oI qs, oI pp, oI (qs &&& (3 : Int32)), oI va, oI vb, oI vc, oU, oU, oU, oU, oU, oU, oU, oU, oU, oU, oU, oU, oU] [(.int 0)])) rfl (hb hby at_27) rfl (by decide) (cap := 0) (by decide) (by decide) (by decide) (by decide)
  obtain ⟨b4, g4⟩ : ∃ z, z = h0.size := ⟨_, rfl⟩
  rw [← g4] at A4 st4
  have V_b4 : Arv Z h4 b4 k4 .char (0 : Int32) [] (.int 0) := Arv.new A4 (by decide)
  have g_b4 : n0 ≤ b4 := Nat.le_trans Z0 (Nat.le_of_eq g4.symm)
  have sz_b4 : h0.size ≤ b4 := (Nat.le_trans (Keep.refl h0 []).1 (Nat.le_of_eq g4.symm))
  have K4 : Keep h0 h4 [] := (Keep.refl h0 []).ext E4
  have CH4 : CHr Z o_EL s.vm h0 s.vm h4 := CH0.trans (CHr.ext E4 CH0.1)
  have pre5 : Goes p e below s1 F0 T4 (mkF m 29 #[oI qa, oI qb, oI qc, oI qs, oI pp, oI (qs &&& (3 : Int32)), oI va, oI vb, oI vc, oU, oU, oU, oU, oU, oU, oU, oU, oU, oU, oU, oU, oU] [(.ref b4)]) := fun t kt => pre3 t (by
    refine XS.istore X0.here hx rfl (hb hby at_24) rfl (l' := #[oI qa, oI qb, oI qc, oI qs, oI pp, oI (qs &&& (3 : Int32)), oI va, oI vb, oI vc, oU, oU, oU, oU, oU, oU, oU, oU, oU, oU, oU, oU, oU]) rfl ?_
    refine o_ic X0 hx hby at_26 ?_
    exact st4 t kt)
  obtain ⟨T6, h6, k6, X6, e6, E6, A6, st6⟩ := newP X4 hx hZ (oV hw 1 rfl) e4 (g := (mkF m 32 #[oI qa, oI qb, oI qc, oI qs, oI pp, oI (qs &&& (3 : Int32)), oI va, oI vb, oI vc, oR b4, oU, oU, oU, oU, oU, oU, oU, oU, oU, oU, oU, oU] [(.int 1)])) rfl (hb hby at_32) rfl (by decide) (cap := 1) (by decide) (by decide) (by decide) (by decide)
  obtain ⟨b6, g6⟩ : ∃ z, z = h4.size := ⟨_, rfl⟩
  rw [← g6] at A6 st6
  have V_b6 : Arv Z h6 b6 k6 .char (1 : Int32) [(.int 0)] (.int 0) := (Arv.new A6 (by decide)).pad (pad_rep [] (.int 0) 1)
  have g_b6 : n0 ≤ b6 := Nat.le_trans (Nat.le_trans Z0 K4.1) (Nat.le_of_eq g6.symm)
  have sz_b6 : h0.size ≤ b6 := (Nat.le_trans K4.1 (Nat.le_of_eq g6.symm))
  have K6 : Keep h0 h6 [] := K4.ext E6
  have CH6 : CHr Z o_EL s.vm h0 s.vm h6 := CH4.trans (CHr.ext E6 CH4.1)
  have pre7 : Goes p e below s1 F0 T6 (mkF m 34 #[oI qa, oI qb, oI qc, oI qs, oI pp, oI (qs &&& (3 : Int32)), oI va, oI vb, oI vc, oR b4, oU, oU, oU, oU, oU, oU, oU, oU, oU, oU, oU, oU] [(.ref b6)]) := fun t kt => pre5 t (by
    refine XS.astore X4.here hx rfl (hb hby at_29) rfl rfl (l' := #[oI qa, oI qb, oI qc, oI qs, oI pp, oI (qs &&& (3 : Int32)), oI va, oI vb, oI vc, oR b4, oU, oU, oU, oU, oU, oU, oU, oU, oU, oU, oU, oU]) rfl ?_
    refine o_ic X4 hx hby at_31 ?_
    exact st6 t kt)
  obtain ⟨cl8, Ar8, q8, S8, N_8, H8, G8⟩ := (id (V_b6))
  have hin8 : ¬ ((0 : Int32) < 0 ∨ cl8.slots.size ≤ ((0 : Int32)).toNatClampNeg) := inb_of S8 ⟨by decide, by decide⟩
  obtain ⟨T9, h9, X9, e9, W9, st9⟩ := stC X6 hx hZ e6 Ar8 (j := (0 : Int32)) hin8 (g := (mkF m 38 #[oI qa, oI qb, oI qc, oI qs, oI pp, oI (qs &&& (3 : Int32)), oI va, oI vb, oI vc, oR b4, oU, oU, oU, oU, oU, oU, oU, oU, oU, oU, oU, oU] [(.int va), (.int 0), (.ref b6), (.ref b6)])) rfl rfl (hb hby at_38)
  have V9 : Arv Z h9 b6 k6 .char (1 : Int32) [(.int (nar .char va))] (.int 0) := Arv.set Ar8 q8 S8 N_8 H8 G8 (fits_nar_char _) W9 0 rfl (Nat.le_of_ble_eq_true rfl)
  have K9 : Keep h0 h9 [] := K6.wr W9 (Or.inr sz_b6)
  have CH9 : CHr Z o_EL s.vm h0 s.vm h9 := CH6.trans (CHr.wr W9 (o_safeV hZ.alike V_b6 (by decide)) CH6.1)
  have N9 := Fr.snoc X9 N0 g_b6
  have pre10 : Goes p e below s1 F0 T9 (mkF m 39 #[oI qa, oI qb, oI qc, oI qs, oI pp, oI (qs &&& (3 : Int32)), oI va, oI vb, oI vc, oR b4, oU, oU, oU, oU, oU, oU, oU, oU, oU, oU, oU, oU] [(.ref b6)]) := fun t kt => pre7 t (by
    refine XS.dup X6.here hx rfl (hb hby at_34) rfl rfl ?_
    refine o_ic X6 hx hby at_35 ?_
    refine o_iL X6 hx hby at_36 rfl ?_
    exact st9 t kt)
  obtain ⟨T11, h11, k11, X11, e11, E11, A11, st11⟩ := newP X9 hx hZ (oV hw 1 rfl) e9 (g := (mkF m 42 #[oI qa, oI qb, oI qc, oI qs, oI pp, oI (qs &&& (3 : Int32)), oI va, oI vb, oI vc, oR b4, oR b6, oU, oU, oU, oU, oU, oU, oU, oU, oU, oU, oU] [(.int 2)])) rfl (hb hby at_42) rfl (by decide) (cap := 2) (by decide) (by decide) (by decide) (by decide)
  obtain ⟨b11, g11⟩ : ∃ z, z = h9.size := ⟨_, rfl⟩
  rw [← g11] at A11 st11
  have V_b11 : Arv Z h11 b11 k11 .char (2 : Int32) [(.int 0), (.int 0)] (.int 0) := (Arv.new A11 (by decide)).pad (pad_rep [] (.int 0) 2)
  have g_b11 : n0 ≤ b11 := Nat.le_trans (Nat.le_trans Z0 K9.1) (Nat.le_of_eq g11.symm)
  have sz_b11 : h0.size ≤ b11 := (Nat.le_trans K9.1 (Nat.le_of_eq g11.symm))
  have K11 : Keep h0 h11 [] := K9.ext E11
  have CH11 : CHr Z o_EL s.vm h0 s.vm h11 := CH9.trans (CHr.ext E11 CH9.1)
  have pre12 : Goes p e below s1 F0 T11 (mkF m 44 #[oI qa, oI qb, oI qc, oI qs, oI pp, oI (qs &&& (3 : Int32)), oI va, oI vb, oI vc, oR b4, oR b6, oU, oU, oU, oU, oU, oU, oU, oU, oU, oU, oU] [(.ref b11)]) := fun t kt => pre10 t (by
    refine XS.astore X9.here hx rfl (hb hby at_39) rfl rfl (l' := #[oI qa, oI qb, oI qc, oI qs, oI pp, oI (qs &&& (3 : Int32)), oI va, oI vb, oI vc, oR b4, oR b6, oU, oU, oU, oU, oU, oU, oU, oU, oU, oU, oU]) rfl ?_
    refine o_ic X9 hx hby at_41 ?_
    exact st11 t kt)
  obtain ⟨cl13, Ar13, q13, S13, N_13, H13, G13⟩ := (id (V_b11))
  have hin13 : ¬ ((0 : Int32) < 0 ∨ cl13.slots.size ≤ ((0 : Int32)).toNatClampNeg) := inb_of S13 ⟨by decide, by decide⟩
  obtain ⟨T14, h14, X14, e14, W14, st14⟩ := stC X11 hx hZ e11 Ar13 (j := (0 : Int32)) hin13 (g := (mkF m 48 #[oI qa, oI qb, oI qc, oI qs, oI pp, oI (qs &&& (3 : Int32)), oI va, oI vb, oI vc, oR b4, oR b6, oU, oU, oU, oU, oU, oU, oU, oU, oU, oU, oU] [(.int va), (.int 0), (.ref b11), (.ref b11)])) rfl rfl (hb hby at_48)
  have V14 : Arv Z h14 b11 k11 .char (2 : Int32) [(.int (nar .char va)), (.int 0)] (.int 0) := Arv.set Ar13 q13 S13 N_13 H13 G13 (fits_nar_char _) W14 0 rfl (Nat.le_of_ble_eq_true rfl)
  have K14 : Keep h0 h14 [] := K11.wr W14 (Or.inr sz_b11)
  have CH14 : CHr Z o_EL s.vm h0 s.vm h14 := CH11.trans (CHr.wr W14 (o_safeV hZ.alike V_b11 (by decide)) CH11.1)
  have N14 := Fr.snoc X14 N9 g_b11
  have pre15 : Goes p e below s1 F0 T14 (mkF m 49 #[oI qa, oI qb, oI qc, oI qs, oI pp, oI (qs &&& (3 : Int32)), oI va, oI vb, oI vc, oR b4, oR b6, oU, oU, oU, oU, oU, oU, oU, oU, oU, oU, oU] [(.ref b11)]) := fun t kt => pre12 t (by
    refine XS.dup X11.here hx rfl (hb hby at_44) rfl rfl ?_
    refine o_ic X11 hx hby at_45 ?_
    refine o_iL X11 hx hby at_46 rfl ?_
    exact st14 t kt)
  obtain ⟨cl16, Ar16, q16, S16, N_16, H16, G16⟩ := (id (V14))
  have hin16 : ¬ ((1 : Int32) < 0 ∨ cl16.slots.size ≤ ((1 : Int32)).toNatClampNeg) := inb_of S16 ⟨by decide, by decide⟩
  obtain ⟨T17, h17, X17, e17, W17, st17⟩ := stC X14 hx hZ e14 Ar16 (j := (1 : Int32)) hin16 (g := (mkF m 53 #[oI qa, oI qb, oI qc, oI qs, oI pp, oI (qs &&& (3 : Int32)), oI va, oI vb, oI vc, oR b4, oR b6, oU, oU, oU, oU, oU, oU, oU, oU, oU, oU, oU] [(.int vb), (.int 1), (.ref b11), (.ref b11)])) rfl rfl (hb hby at_53)
  have V17 : Arv Z h17 b11 k11 .char (2 : Int32) [(.int (nar .char va)), (.int (nar .char vb))] (.int 0) := Arv.set Ar16 q16 S16 N_16 H16 G16 (fits_nar_char _) W17 1 rfl (Nat.le_of_ble_eq_true rfl)
  have K17 : Keep h0 h17 [] := K14.wr W17 (Or.inr sz_b11)
  have CH17 : CHr Z o_EL s.vm h0 s.vm h17 := CH14.trans (CHr.wr W17 (o_safeV hZ.alike V14 (by decide)) CH14.1)
  have N17 := Fr.snoc X17 N14 g_b11
  have pre18 : Goes p e below s1 F0 T17 (mkF m 54 #[oI qa, oI qb, oI qc, oI qs, oI pp, oI (qs &&& (3 : Int32)), oI va, oI vb, oI vc, oR b4, oR b6, oU, oU, oU, oU, oU, oU, oU, oU, oU, oU, oU] [(.ref b11)]) := fun t kt => pre15 t (by
    refine XS.dup X14.here hx rfl (hb hby at_49) rfl rfl ?_
    refine o_ic X14 hx hby at_50 ?_
    refine o_iL X14 hx hby at_51 rfl ?_
    exact st17 t kt)
  obtain ⟨T19, h19, k19, X19, e19, E19, A19, st19⟩ := newP X17 hx hZ (oV hw 1 rfl) e17 (g := (mkF m 57 #[oI qa, oI qb, oI qc, oI qs, oI pp, oI (qs &&& (3 : Int32)), oI va, oI vb, oI vc, oR b4, oR b6, oR b11, oU, oU, oU, oU, oU, oU, oU, oU, oU, oU] [(.int 3)])) rfl (hb hby at_57) rfl (by decide) (cap := 3) (by decide) (by decide) (by decide) (by decide)
  obtain ⟨b19, g19⟩ : ∃ z, z = h17.size := ⟨_, rfl⟩
  rw [← g19] at A19 st19
  have V_b19 : Arv Z h19 b19 k19 .char (3 : Int32) [(.int 0), (.int 0), (.int 0)] (.int 0) := (Arv.new A19 (by decide)).pad (pad_rep [] (.int 0) 3)
  have g_b19 : n0 ≤ b19 := Nat.le_trans (Nat.le_trans Z0 K17.1) (Nat.le_of_eq g19.symm)
  have sz_b19 : h0.size ≤ b19 := (Nat.le_trans K17.1 (Nat.le_of_eq g19.symm))
  have K19 : Keep h0 h19 [] := K17.ext E19
  have CH19 : CHr Z o_EL s.vm h0 s.vm h19 := CH17.trans (CHr.ext E19 CH17.1)
  have pre20 : Goes p e below s1 F0 T19 (mkF m 59 #[oI qa, oI qb, oI qc, oI qs, oI pp, oI (qs &&& (3 : Int32)), oI va, oI vb, oI vc, oR b4, oR b6, oR b11, oU, oU, oU, oU, oU, oU, oU, oU, oU, oU] [(.ref b19)]) := fun t kt => pre18 t (by
    refine XS.astore X17.here hx rfl (hb hby at_54) rfl rfl (l' := #[oI qa, oI qb, oI qc, oI qs, oI pp, oI (qs &&& (3 : Int32)), oI va, oI vb, oI vc, oR b4, oR b6, oR b11, oU, oU, oU, oU, oU, oU, oU, oU, oU, oU]) rfl ?_
    refine o_ic X17 hx hby at_56 ?_
    exact st19 t kt)
  obtain ⟨cl21, Ar21, q21, S21, N_21, H21, G21⟩ := (id (V_b19))
  have hin21 : ¬ ((0 : Int32) < 0 ∨ cl21.slots.size ≤ ((0 : Int32)).toNatClampNeg) := inb_of S21 ⟨by decide, by decide⟩
  obtain ⟨T22, h22, X22, e22, W22, st22⟩ := stC X19 hx hZ e19 Ar21 (j := (0 : Int32)) hin21 (g := (mkF m 63 #[oI qa, oI qb, oI qc, oI qs, oI pp, oI (qs &&& (3 : Int32)), oI va, oI vb, oI vc, oR b4, oR b6, oR b11, oU, oU, oU, oU, oU, oU, oU, oU, oU, oU] [(.int va), (.int 0), (.ref b19), (.ref b19)])) rfl rfl (hb hby at_63)
  have V22 : Arv Z h22 b19 k19 .char (3 : Int32) [(.int (nar .char va)), (.int 0), (.int 0)] (.int 0) := Arv.set Ar21 q21 S21 N_21 H21 G21 (fits_nar_char _) W22 0 rfl (Nat.le_of_ble_eq_true rfl)
  have K22 : Keep h0 h22 [] := K19.wr W22 (Or.inr sz_b19)
  have CH22 : CHr Z o_EL s.vm h0 s.vm h22 := CH19.trans (CHr.wr W22 (o_safeV hZ.alike V_b19 (by decide)) CH19.1)
  have N22 := Fr.snoc X22 N17 g_b19
  have pre23 : Goes p e below s1 F0 T22 (mkF m 64 #[oI qa, oI qb, oI qc, oI qs, oI pp, oI (qs &&& (3 : Int32)), oI va, oI vb, oI vc, oR b4, oR b6, oR b11, oU, oU, oU, oU, oU, oU, oU, oU, oU, oU] [(.ref b19)]) := fun t kt => pre20 t (by
    refine XS.dup X19.here hx rfl (hb hby at_59) rfl rfl ?_
    refine o_ic X19 hx hby at_60 ?_
    refine o_iL X19 hx hby at_61 rfl ?_
    exact st22 t kt)
  obtain ⟨cl24, Ar24, q24, S24, N_24, H24, G24⟩ := (id (V22))
  have hin24 : ¬ ((1 : Int32) < 0 ∨ cl24.slots.size ≤ ((1 : Int32)).toNatClampNeg) := inb_of S24 ⟨by decide, by decide⟩
  obtain ⟨T25, h25, X25, e25, W25, st25⟩ := stC X22 hx hZ e22 Ar24 (j := (1 : Int32)) hin24 (g := (mkF m 68 #[oI qa, oI qb, oI qc, oI qs, oI pp, oI (qs &&& (3 : Int32)), oI va, oI vb, oI vc, oR b4, oR b6, oR b11, oU, oU, oU, oU, oU, oU, oU, oU, oU, oU] [(.int vb), (.int 1), (.ref b19), (.ref b19)])) rfl rfl (hb hby at_68)
  have V25 : Arv Z h25 b19 k19 .char (3 : Int32) [(.int (nar .char va)), (.int (nar .char vb)), (.int 0)] (.int 0) := Arv.set Ar24 q24 S24 N_24 H24 G24 (fits_nar_char _) W25 1 rfl (Nat.le_of_ble_eq_true rfl)
  have K25 : Keep h0 h25 [] := K22.wr W25 (Or.inr sz_b19)
  have CH25 : CHr Z o_EL s.vm h0 s.vm h25 := CH22.trans (CHr.wr W25 (o_safeV hZ.alike V22 (by decide)) CH22.1)
  have N25 := Fr.snoc X25 N22 g_b19
  have pre26 : Goes p e below s1 F0 T25 (mkF m 69 #[oI qa, oI qb, oI qc, oI qs, oI pp, oI (qs &&& (3 : Int32)), oI va, oI vb, oI vc, oR b4, oR b6, oR b11, oU, oU, oU, oU, oU, oU, oU, oU, oU, oU] [(.ref b19)]) := fun t kt => pre23 t (by
    refine XS.dup X22.here hx rfl (hb hby at_64) rfl rfl ?_
    refine o_ic X22 hx hby at_65 ?_
    refine o_iL X22 hx hby at_66 rfl ?_
    exact st25 t kt)
  obtain ⟨cl27, Ar27, q27, S27, N_27, H27, G27⟩ := (id (V25))
  have hin27 : ¬ ((2 : Int32) < 0 ∨ cl27.slots.size ≤ ((2 : Int32)).toNatClampNeg) := inb_of S27 ⟨by decide, by decide⟩
  obtain ⟨T28, h28, X28, e28, W28, st28⟩ := stC X25 hx hZ e25 Ar27 (j := (2 : Int32)) hin27 (g := (mkF m 73 #[oI qa, oI qb, oI qc, oI qs, oI pp, oI (qs &&& (3 : Int32)), oI va, oI vb, oI vc, oR b4, oR b6, oR b11, oU, oU, oU, oU, oU, oU, oU, oU, oU, oU] [(.int vc), (.int 2), (.ref b19), (.ref b19)])) rfl rfl (hb hby at_73)
  have V28 : Arv Z h28 b19 k19 .char (3 : Int32) [(.int (nar .char va)), (.int (nar .char vb)), (.int (nar .char vc))] (.int 0) := Arv.set Ar27 q27 S27 N_27 H27 G27 (fits_nar_char _) W28 2 rfl (Nat.le_of_ble_eq_true rfl)
  have K28 : Keep h0 h28 [] := K25.wr W28 (Or.inr sz_b19)
  have CH28 : CHr Z o_EL s.vm h0 s.vm h28 := CH25.trans (CHr.wr W28 (o_safeV hZ.alike V25 (by decide)) CH25.1)
  have N28 := Fr.snoc X28 N25 g_b19
  have pre29 : Goes p e below s1 F0 T28 (mkF m 74 #[oI qa, oI qb, oI qc, oI qs, oI pp, oI (qs &&& (3 : Int32)), oI va, oI vb, oI vc, oR b4, oR b6, oR b11, oU, oU, oU, oU, oU, oU, oU, oU, oU, oU] [(.ref b19)]) := fun t kt => pre26 t (by
    refine XS.dup X25.here hx rfl (hb hby at_69) rfl rfl ?_
    refine o_ic X25 hx hby at_70 ?_
    refine o_iL X25 hx hby at_71 rfl ?_
    exact st28 t kt)
  have pre30 : Goes p e below s1 F0 T28 (mkF m 76 #[oI qa, oI qb, oI qc, oI qs, oI pp, oI (qs &&& (3 : Int32)), oI va, oI vb, oI vc, oR b4, oR b6, oR b11, oR b19, oU, oU, oU, oU, oU, oU, oU, oU, oU] []) := fun t kt => pre29 t (by
    refine XS.astore X28.here hx rfl (hb hby at_74) rfl rfl (l' := #[oI qa, oI qb, oI qc, oI qs, oI pp, oI (qs &&& (3 : Int32)), oI va, oI vb, oI vc, oR b4, oR b6, oR b11, oR b19, oU, oU, oU, oU, oU, oU, oU, oU, oU]) rfl ?_
    exact kt)
  rcases (o_n1 qs) with hk | hk | hk | hk
  · -- n = 0
    rw [show (qs &&& (3 : Int32)) = (0 : Int32) from hk] at pre30
    obtain ⟨T31, h31, X31, e31, E31, A31, DD31, -, st31⟩ := newO X28 hx hZ hown (oV hw 2 rfl) (oV hw 3 rfl) (oV hw 4 rfl) e28 (g := (mkF m 81 #[oI qa, oI qb, oI qc, oI qs, oI pp, oI 0, oI va, oI vb, oI vc, oR b4, oR b6, oR b11, oR b19, oU, oU, oU, oU, oU, oU, oU, oU, oU] [])) rfl (hb hby at_81) (by decide) (by decide)
    obtain ⟨b31, g31⟩ : ∃ z, z = h28.size := ⟨_, rfl⟩
    rw [← g31] at A31 DD31 st31
    have F_coder_b31 : Fld Z h31 b31 "java/lang/String" "coder" "B" (.int 0) := DD31 (Or.inr (oV hw 28 rfl)) (ty := .byte) (by decide)
    have F_value_b31 : Fld Z h31 b31 "java/lang/String" "value" "[B" .null := DD31 (Or.inr (oV hw 30 rfl)) (ty := (.array .byte)) (by decide)
    have g_b31 : n0 ≤ b31 := Nat.le_trans (Nat.le_trans Z0 K28.1) (Nat.le_of_eq g31.symm)
    have sz_b31 : h0.size ≤ b31 := (Nat.le_trans K28.1 (Nat.le_of_eq g31.symm))
    have K31 : Keep h0 h31 [] := K28.ext E31
    have CH31 : CHr Z o_EL s.vm h0 s.vm h31 := CH28.trans (CHr.ext E31 CH28.1)
    have pre32 : Goes p e below s1 F0 T31 (mkF m 84 #[oI qa, oI qb, oI qc, oI qs, oI pp, oI 0, oI va, oI vb, oI vc, oR b4, oR b6, oR b11, oR b19, oU, oU, oU, oU, oU, oU, oU, oU, oU] [(.ref b31)]) := fun t kt => pre30 t (by
      refine o_iL X28 hx hby at_76 rfl ?_
      refine o_ifN X28 hx hby at_78 ((if0 _ _).trans (teq (by decide : (0 : Int32) = (0 : Int32))).2) ?_
      exact st31 t kt)
    have pre33 : Goes p e below s1 F0 T31 (mkF m 87 #[oI qa, oI qb, oI qc, oI qs, oI pp, oI 0, oI va, oI vb, oI vc, oR b4, oR b6, oR b11, oR b19, oU, oU, oU, oU, oU, oU, oU, oU, oU] [(.ref b4), (.ref b31), (.ref b31)]) := fun t kt => pre32 t (by
      refine XS.dup X31.here hx rfl (hb hby at_84) rfl rfl ?_
      refine o_aL X31 hx hby at_85 rfl ?_
      exact kt)
    obtain ⟨_, _, ⟨T34, L34, k34, n34⟩, -, XX34, hSS34, hGG34, ⟨Lc34, hQ34, l34, y34, z34, hCr34⟩, st34⟩ := X31.specialBackS hx (y := o_N1) rfl hown (oW hw hZ 5 rfl) (oW hw hZ 6 rfl) (oW hw hZ 7 rfl) (by decide) (backOfSH (s := s) (vm0 := s.vm) (W := 1) (o_sJ0 l Z a0 hw [] b31 b4 k4 _ h31 n0 (Nat.le_trans Z0 K31.1) A31 F_value_b31 F_coder_b31 g_b31 ((((((((((V_b4.ext E6).other W9 (Nat.ne_of_lt (Nat.lt_of_lt_of_le V_b4.lt (Nat.le_of_eq g6.symm)))).ext E11).other W14 (Nat.ne_of_lt (Nat.lt_of_lt_of_le ((V_b4.ext E6).other W9 (Nat.ne_of_lt (Nat.lt_of_lt_of_le V_b4.lt (Nat.le_of_eq g6.symm)))).lt (Nat.le_of_eq g11.symm)))).other W17 (Nat.ne_of_lt (Nat.lt_of_lt_of_le ((V_b4.ext E6).other W9 (Nat.ne_of_lt (Nat.lt_of_lt_of_le V_b4.lt (Nat.le_of_eq g6.symm)))).lt (Nat.le_of_eq g11.symm)))).ext E19).other W22 (Nat.ne_of_lt (Nat.lt_of_lt_of_le (((((V_b4.ext E6).other W9 (Nat.ne_of_lt (Nat.lt_of_lt_of_le V_b4.lt (Nat.le_of_eq g6.symm)))).ext E11).other W14 (Nat.ne_of_lt (Nat.lt_of_lt_of_le ((V_b4.ext E6).other W9 (Nat.ne_of_lt (Nat.lt_of_lt_of_le V_b4.lt (Nat.le_of_eq g6.symm)))).lt (Nat.le_of_eq g11.symm)))).other W17 (Nat.ne_of_lt (Nat.lt_of_lt_of_le ((V_b4.ext E6).other W9 (Nat.ne_of_lt (Nat.lt_of_lt_of_le V_b4.lt (Nat.le_of_eq g6.symm)))).lt (Nat.le_of_eq g11.symm)))).lt (Nat.le_of_eq g19.symm)))).other W25 (Nat.ne_of_lt (Nat.lt_of_lt_of_le (((((V_b4.ext E6).other W9 (Nat.ne_of_lt (Nat.lt_of_lt_of_le V_b4.lt (Nat.le_of_eq g6.symm)))).ext E11).other W14 (Nat.ne_of_lt (Nat.lt_of_lt_of_le ((V_b4.ext E6).other W9 (Nat.ne_of_lt (Nat.lt_of_lt_of_le V_b4.lt (Nat.le_of_eq g6.symm)))).lt (Nat.le_of_eq g11.symm)))).other W17 (Nat.ne_of_lt (Nat.lt_of_lt_of_le ((V_b4.ext E6).other W9 (Nat.ne_of_lt (Nat.lt_of_lt_of_le V_b4.lt (Nat.le_of_eq g6.symm)))).lt (Nat.le_of_eq g11.symm)))).lt (Nat.le_of_eq g19.symm)))).other W28 (Nat.ne_of_lt (Nat.lt_of_lt_of_le (((((V_b4.ext E6).other W9 (Nat.ne_of_lt (Nat.lt_of_lt_of_le V_b4.lt (Nat.le_of_eq g6.symm)))).ext E11).other W14 (Nat.ne_of_lt (Nat.lt_of_lt_of_le ((V_b4.ext E6).other W9 (Nat.ne_of_lt (Nat.lt_of_lt_of_le V_b4.lt (Nat.le_of_eq g6.symm)))).lt (Nat.le_of_eq g11.symm)))).other W17 (Nat.ne_of_lt (Nat.lt_of_lt_of_le ((V_b4.ext E6).other W9 (Nat.ne_of_lt (Nat.lt_of_lt_of_le V_b4.lt (Nat.le_of_eq g6.symm)))).lt (Nat.le_of_eq g11.symm)))).lt (Nat.le_of_eq g19.symm)))).ext E31)) hZ (oV hw 7 rfl) (oV hw 4 rfl) (by decide) (by decide) hEL CH31.1) (g := (mkF m 87 #[oI qa, oI qb, oI qc, oI qs, oI pp, oI 0, oI va, oI vb, oI vc, oR b4, oR b6, oR b11, oR b19, oU, oU, oU, oU, oU, oU, oU, oU, oU] [(.ref b4), (.ref b31), (.ref b31)])) rfl (by rw [hml]; rfl) (Steps.refl _) (a := b31) (argsL := [(.ref b4)]) (rest := [(.ref b31)]) (lenOf o_pd42 rfl) rfl (by show 2 * 0 + _ ≤ _; exact Nat.le_of_eq rfl) (hb hby at_87) (fun _ _ => ⟨rfl, e31, (by decide : 5 + 2 ≤ _), (by decide : 10 + 4 ≤ _)⟩)
    dsimp only [Pt.U, Pt.locs, Pt.cells, Pt.slots] at hCr34 hSS34 hGG34 XX34 l34 y34 z34 st34 hQ34
    subst l34 y34 z34
    obtain ⟨rfl, N34q, K34q, Es34, Fc34, y34, ky34, Fv34, ny34, Vy34⟩ := hQ34
    have N34 := Fr.app N28 N34q
    obtain ⟨X34, hS34, hZ, hown⟩ := rebS (s := s) (vm0 := s.vm) (State.WarmedH.since (State.WarmedH.refl s) 0) (by rw [e31]; exact (Nat.zero_le _)) XX34 hSS34 hGG34 hZ hown
    have KC34 : Keep h0 T34.heap [] := K31.trans K34q (allS (Or.inr sz_b31) all0)
    have CH34 : CHr Z o_EL s.vm h0 T34.vm T34.heap := CH31.trans hCr34
    have pre35 : Goes p e below s1 F0 T34 (mkF m 90 #[oI qa, oI qb, oI qc, oI qs, oI pp, oI 0, oI va, oI vb, oI vc, oR b4, oR b6, oR b11, oR b19, oU, oU, oU, oU, oU, oU, oU, oU, oU] [(.ref b31)]) := fun t kt => pre33 t (st34.trans kt)
    have SD34 : o_SD Z T34.heap y34 ky34 (0 : Int32) (0 : Int32) (0 : Int32) [] [] (True) := Or.inl ⟨rfl, trivial, Vy34⟩
    have HS34 : o_HS Z T34.heap b31 (0 : Int32) y34 ky34 0 (o_gl []) := o_HS0 Es34 Fc34 Fv34 SD34 
    obtain ⟨T36, h36, X36, e36, E36, A36, DD36, -, st36⟩ := newO X34 hx hZ hown (oV hw 31 rfl) (oV hw 32 rfl) (oV hw 33 rfl) rfl (g := (mkF m 146 #[oI qa, oI qb, oI qc, oI qs, oI pp, oI 0, oI va, oI vb, oI vc, oR b4, oR b6, oR b11, oR b19, oR b31, oU, oU, oU, oU, oU, oU, oU, oU] [])) rfl (hb hby at_146) (by decide) (by decide)
    obtain ⟨b36, g36⟩ : ∃ z, z = T34.heap.size := ⟨_, rfl⟩
    rw [← g36] at A36 DD36 st36
    have F_host_b36 : Fld Z h36 b36 "com/example/ferry/ferry/Endpoint" "host" "Ljava/lang/String;" .null := DD36 (Or.inr (oV hw 44 rfl)) (ty := (.object "java/lang/String")) (by decide)
    have F_port_b36 : Fld Z h36 b36 "com/example/ferry/ferry/Endpoint" "port" "I" (.int 0) := DD36 (Or.inr (oV hw 46 rfl)) (ty := .int) (by decide)
    have g_b36 : n0 ≤ b36 := Nat.le_trans (Nat.le_trans Z0 KC34.1) (Nat.le_of_eq g36.symm)
    have sz_b36 : h0.size ≤ b36 := (Nat.le_trans KC34.1 (Nat.le_of_eq g36.symm))
    have K36 : Keep h0 h36 [] := KC34.ext E36
    have CH36 : CHr Z o_EL s.vm h0 T34.vm h36 := CH34.trans (CHr.ext E36 CH34.1)
    have pre37 : Goes p e below s1 F0 T36 (mkF m 149 #[oI qa, oI qb, oI qc, oI qs, oI pp, oI 0, oI va, oI vb, oI vc, oR b4, oR b6, oR b11, oR b19, oR b31, oU, oU, oU, oU, oU, oU, oU, oU] [(.ref b36)]) := fun t kt => pre35 t (by
      refine XS.astore X34.here hx rfl (hb hby at_90) rfl rfl (l' := #[oI qa, oI qb, oI qc, oI qs, oI pp, oI 0, oI va, oI vb, oI vc, oR b4, oR b6, oR b11, oR b19, oR b31, oU, oU, oU, oU, oU, oU, oU, oU]) rfl ?_
      refine o_gt 92 146 X34 hx hby at_92 ?_
      exact st36 t kt)
    obtain ⟨_, T38, L38, X38, hQ38, st38⟩ := o_cI (y := o_N21) (b := b36) (g := (mkF m 154 #[oI qa, oI qb, oI qc, oI qs, oI pp, oI 0, oI va, oI vb, oI vc, oR b4, oR b6, oR b11, oR b19, oR b31, oU, oU, oU, oU, oU, oU, oU, oU] [(.int pp), (.ref b31), (.ref b36), (.ref b36)])) (as := [(.ref b31), (.int pp)]) (rest := [(.ref b36)]) 1 X36 hx hZ hml hown (oV hw 34 rfl) (oV hw 35 rfl) (oV hw 36 rfl) (oV hw 33 rfl) (o_epi l Z a0 hw [] b36 b31 pp h36 n0 (Nat.le_trans Z0 K36.1) A36 F_host_b36 F_port_b36 g_b36) e36 o_pd43 (hb hby at_154)
    obtain ⟨rfl, N38q, K38q, Ee38, Fh38, Fp38⟩ := hQ38
    have N38 := Fr.app N34 N38q
    have KC38 : Keep h0 T38.heap [] := K36.trans K38q (allS (Or.inr sz_b36) all0)
    have CH38 : CHr Z o_EL s.vm h0 T34.vm T38.heap := CH36.trans (CHr.keep K38q (allS (Safe.exa hZ.alike A36 (by decide) (by decide)) all0) CH36.1)
    have pre39 : Goes p e below s1 F0 T38 (mkF m 157 #[oI qa, oI qb, oI qc, oI qs, oI pp, oI 0, oI va, oI vb, oI vc, oR b4, oR b6, oR b11, oR b19, oR b31, oU, oU, oU, oU, oU, oU, oU, oU] [(.ref b36)]) := fun t kt => pre37 t (by
      refine XS.dup X36.here hx rfl (hb hby at_149) rfl rfl ?_
      refine o_aL X36 hx hby at_150 rfl ?_
      refine o_iL X36 hx hby at_152 rfl ?_
      exact st38 t kt)
    have HT38 := o_HS.keepW (o_HS.ext HS34 E36) K38q (ninS (Nat.ne_of_lt (Nat.lt_of_lt_of_le Es34.lt (Nat.le_of_eq g36.symm))) nin0) (ninS (Nat.ne_of_lt (Nat.lt_of_lt_of_le (o_HS.ylt HS34) (Nat.le_of_eq g36.symm))) nin0)
    have pre40 : Goes p e below s1 F0 T38 (mkF m 161 #[oI qa, oI qb, oI qc, oI qs, oI pp, oI 0, oI va, oI vb, oI vc, oR b4, oR b6, oR b11, oR b19, oR b31, oR b36, oU, oU, oU, oU, oU, oU, oU] [(.ref b36)]) := fun t kt => pre39 t (by
      refine XS.astore X38.here hx rfl (hb hby at_157) rfl rfl (l' := #[oI qa, oI qb, oI qc, oI qs, oI pp, oI 0, oI va, oI vb, oI vc, oR b4, oR b6, oR b11, oR b19, oR b31, oR b36, oU, oU, oU, oU, oU, oU, oU]) rfl ?_
      refine o_aL X38 hx hby at_159 rfl ?_
      exact kt)
    obtain ⟨cq41, kq41, q41a, q41b, q41c⟩ := isOf hZ rfl Ee38
    obtain ⟨_, _, ⟨T41, L41, k41, n41⟩, -, XX41, hSS41, hGG41, ⟨Lc41, hQ41, l41, y41, z41, hCr41⟩, st41⟩ := X38.virtualBackS hx (y := o_N56) (z := o_N56) hown (oW hw hZ 47 rfl) (oW hw hZ 48 rfl) (notFace_of_selects (args := #[]) (oW hw hZ 50 rfl)) (oW hw hZ 50 rfl) (oW hw hZ 49 rfl) (by decide) (backOfSH (s := s) (vm0 := T34.vm) (W := 0) (o_ets l Z a0 hw [] b36 b31 (0 : Int32) y34 ky34 0 (o_gl []) pp cs fm aO aT T38.heap n0 (Nat.le_trans Z0 KC38.1) Ee38 Fh38 Fp38 HT38 (by decide) hst ((((((((((((((O0.ext E4).ext E6).wr W9 g_b6).ext E11).wr W14 g_b11).wr W17 g_b11).ext E19).wr W22 g_b19).wr W25 g_b19).wr W28 g_b19).ext E31).keep K34q (allS g_b31 all0)).ext E36).keep K38q (allS g_b36 all0)) hdg) hZ (oV hw 51 rfl) (oV hw 33 rfl) (by decide) (by decide) hEL CH38.1) q41a q41c (g := (mkF m 161 #[oI qa, oI qb, oI qc, oI qs, oI pp, oI 0, oI va, oI vb, oI vc, oR b4, oR b6, oR b11, oR b19, oR b31, oR b36, oU, oU, oU, oU, oU, oU, oU] [(.ref b36)])) rfl (by rw [hml]; rfl) (Steps.refl _) (argsL := []) (rest := []) (lenOf o_pd36 rfl) rfl (by show 2 * 0 + _ ≤ _; exact Nat.le_of_eq rfl) (hb hby at_161) (fun _ _ => ⟨rfl, rfl, (by decide : 8 + 7 ≤ _), (by decide : 16 + 96 ≤ _)⟩)
    dsimp only [Pt.U, Pt.locs, Pt.cells, Pt.slots] at hCr41 hSS41 hGG41 XX41 l41 y41 z41 st41 hQ41
    subst l41 y41 z41
    obtain ⟨a2, cd2, y2, ky2, rfl, N41q, K41q, HR⟩ := hQ41
    have N41 := Fr.app N38 N41q
    obtain ⟨X41, hS41, hZ, hown⟩ := rebS (s := s) (vm0 := T34.vm) hS34 (Nat.le_trans (Nat.le_trans (Nat.le_refl _) E36.1) K38q.1) XX41 hSS41 hGG41 hZ hown
    have KC41 : Keep h0 T41.heap [] := KC38.trans K41q all0
    have CH41 : CHr Z o_EL s.vm h0 T41.vm T41.heap := CH38.trans hCr41
    have pre42 : Goes p e below s1 F0 T41 (mkF m 164 #[oI qa, oI qb, oI qc, oI qs, oI pp, oI 0, oI va, oI vb, oI vc, oR b4, oR b6, oR b11, oR b19, oR b31, oR b36, oU, oU, oU, oU, oU, oU, oU] [(.ref a2)]) := fun t kt => pre40 t (st41.trans kt)
    have pre43 : Goes p e below s1 F0 T41 (mkF m 166 #[oI qa, oI qb, oI qc, oI qs, oI pp, oI 0, oI va, oI vb, oI vc, oR b4, oR b6, oR b11, oR b19, oR b31, oR b36, oR a2, oU, oU, oU, oU, oU, oU] []) := fun t kt => pre42 t (by
      refine XS.astore X41.here hx rfl (hb hby at_164) rfl rfl (l' := #[oI qa, oI qb, oI qc, oI qs, oI pp, oI 0, oI va, oI vb, oI vc, oR b4, oR b6, oR b11, oR b19, oR b31, oR b36, oR a2, oU, oU, oU, oU, oU, oU]) rfl ?_
      exact kt)
    obtain ⟨T44, h44, Lc44, ng, mL, X44, e44, N44, K44q, st44⟩ := o_tail (s := s.setVm T41.vm) qa qb qc qs pp va vb vc b4 b6 b11 b19 b31 b36 a2 cd2 y2 ky2 0 (o_gl []) n0 cs fm hx hZ hw hby hml hown (X41.mono (by decide) (by decide)) rfl N41 (Nat.le_trans Z0 KC41.1) HR (by decide) (fun q => absurd q (by decide)) (fun q => absurd q (by decide)) (fun q => absurd q (by decide)) hst (((((((((((((((O0.ext E4).ext E6).wr W9 g_b6).ext E11).wr W14 g_b11).wr W17 g_b11).ext E19).wr W22 g_b19).wr W25 g_b19).wr W28 g_b19).ext E31).keep K34q (allS g_b31 all0)).ext E36).keep K38q (allS g_b36 all0)).keep K41q all0)
    have KC44 : Keep h0 h44 [] := KC41.trans K44q all0
    have CH44 : CHr Z o_EL s.vm h0 T41.vm h44 := CH41.trans (CHr.keep K44q all0 CH41.1)
    have pre45 : Goes p e below s1 F0 T44 (mkF m 520 #[oI qa, oI qb, oI qc, oI qs, oI pp, oI 0, oI va, oI vb, oI vc, oR b4, oR b6, oR b11, oR b19, oR b31, oR b36, oR a2, oI ng, .val (.long mL), .second, oI (Int32.ofNat (o_nd (o_M pp))), oI (Int32.ofNat (o_pl pp)), oI (Int32.ofNat (0 + 1))] [(.int 1)]) := fun t kt => pre43 t (st44 t kt)
    obtain ⟨fs, hr, hrun, hended, hEnd⟩ := X44.leaveW hS41 (by rw [e44]; exact (Nat.le_trans (Nat.le_refl _) K44q.1)) (v := some (.int 1)) (fun h => by rw [Bd.returns] at h; cases h)
    rw [hF0] at pre45
    refine ⟨_, _, pre45 _ ?_, hrun, hended, _, _, rfl, ?_, ?_, hEnd.1, hEnd.2.1, hEnd.2.2.1, hEnd.2.2.2.mono (by decide) (by decide)⟩
    · show Steps p.tables e below (T44.setTop (mkF m 520 #[oI qa, oI qb, oI qc, oI qs, oI pp, oI 0, oI va, oI vb, oI vc, oR b4, oR b6, oR b11, oR b19, oR b31, oR b36, oR a2, oI ng, .val (.long mL), .second, oI (Int32.ofNat (o_nd (o_M pp))), oI (Int32.ofNat (o_pl pp)), oI (Int32.ofNat (0 + 1))] [(.int 1)])) _
      exact retN X44 hx (t := .boolean) Bd.returns (by simp) (hb hby at_520) hr
    · show Q_o_rm0 Z qa qb qc qs pp cs fm aO aT h0 n0 _ T44.heap _
      rw [e44]
      exact ⟨rfl, N44⟩
    · show CHr Z o_EL s.vm s.heap T44.vm T44.heap
      rw [hh, e44]
      exact CH44.trans (CHv.at (s := s) (vm0 := T41.vm) X44 hZ hEL CH44.1)
  · -- n = 1
    rw [show (qs &&& (3 : Int32)) = (1 : Int32) from hk] at pre30
    obtain ⟨T46, h46, X46, e46, E46, A46, DD46, -, st46⟩ := newO X28 hx hZ hown (oV hw 2 rfl) (oV hw 3 rfl) (oV hw 4 rfl) e28 (g := (mkF m 101 #[oI qa, oI qb, oI qc, oI qs, oI pp, oI 1, oI va, oI vb, oI vc, oR b4, oR b6, oR b11, oR b19, oU, oU, oU, oU, oU, oU, oU, oU, oU] [])) rfl (hb hby at_101) (by decide) (by decide)
    obtain ⟨b46, g46⟩ : ∃ z, z = h28.size := ⟨_, rfl⟩
    rw [← g46] at A46 DD46 st46
    have F_coder_b46 : Fld Z h46 b46 "java/lang/String" "coder" "B" (.int 0) := DD46 (Or.inr (oV hw 28 rfl)) (ty := .byte) (by decide)
    have F_value_b46 : Fld Z h46 b46 "java/lang/String" "value" "[B" .null := DD46 (Or.inr (oV hw 30 rfl)) (ty := (.array .byte)) (by decide)
    have g_b46 : n0 ≤ b46 := Nat.le_trans (Nat.le_trans Z0 K28.1) (Nat.le_of_eq g46.symm)
    have sz_b46 : h0.size ≤ b46 := (Nat.le_trans K28.1 (Nat.le_of_eq g46.symm))
    have K46 : Keep h0 h46 [] := K28.ext E46
    have CH46 : CHr Z o_EL s.vm h0 s.vm h46 := CH28.trans (CHr.ext E46 CH28.1)
    have pre47 : Goes p e below s1 F0 T46 (mkF m 104 #[oI qa, oI qb, oI qc, oI qs, oI pp, oI 1, oI va, oI vb, oI vc, oR b4, oR b6, oR b11, oR b19, oU, oU, oU, oU, oU, oU, oU, oU, oU] [(.ref b46)]) := fun t kt => pre30 t (by
      refine o_iL X28 hx hby at_76 rfl ?_
      refine o_ifY 78 95 X28 hx hby at_78 ((if0 _ _).trans (feq (by decide : ¬ ((1 : Int32) = (0 : Int32)))).2) ?_
      refine o_iL X28 hx hby at_95 rfl ?_
      refine o_ic X28 hx hby at_97 ?_
      refine o_icN X28 hx hby at_98 (teq (by decide : (1 : Int32) = (1 : Int32))).2 ?_
      exact st46 t kt)
    have pre49 : Goes p e below s1 F0 T46 (mkF m 107 #[oI qa, oI qb, oI qc, oI qs, oI pp, oI 1, oI va, oI vb, oI vc, oR b4, oR b6, oR b11, oR b19, oU, oU, oU, oU, oU, oU, oU, oU, oU] [(.ref b6), (.ref b46), (.ref b46)]) := fun t kt => pre47 t (by
      refine XS.dup X46.here hx rfl (hb hby at_104) rfl rfl ?_
      refine o_aL X46 hx hby at_105 rfl ?_
      exact kt)
    have VV48 : Arv Z h46 b6 k6 .char (1 : Int32) [(.int va)] (.int 0) := by have q := ((((((((V9.ext E11).other W14 (Nat.ne_of_lt (Nat.lt_of_lt_of_le V9.lt (Nat.le_of_eq g11.symm)))).other W17 (Nat.ne_of_lt (Nat.lt_of_lt_of_le V9.lt (Nat.le_of_eq g11.symm)))).ext E19).other W22 (Nat.ne_of_lt (Nat.lt_of_lt_of_le (((V9.ext E11).other W14 (Nat.ne_of_lt (Nat.lt_of_lt_of_le V9.lt (Nat.le_of_eq g11.symm)))).other W17 (Nat.ne_of_lt (Nat.lt_of_lt_of_le V9.lt (Nat.le_of_eq g11.symm)))).lt (Nat.le_of_eq g19.symm)))).other W25 (Nat.ne_of_lt (Nat.lt_of_lt_of_le (((V9.ext E11).other W14 (Nat.ne_of_lt (Nat.lt_of_lt_of_le V9.lt (Nat.le_of_eq g11.symm)))).other W17 (Nat.ne_of_lt (Nat.lt_of_lt_of_le V9.lt (Nat.le_of_eq g11.symm)))).lt (Nat.le_of_eq g19.symm)))).other W28 (Nat.ne_of_lt (Nat.lt_of_lt_of_le (((V9.ext E11).other W14 (Nat.ne_of_lt (Nat.lt_of_lt_of_le V9.lt (Nat.le_of_eq g11.symm)))).other W17 (Nat.ne_of_lt (Nat.lt_of_lt_of_le V9.lt (Nat.le_of_eq g11.symm)))).lt (Nat.le_of_eq g19.symm)))).ext E46); simp only [o_nc va hRva] at q; exact q
    obtain ⟨_, T50, L50, X50, hQ50, st50⟩ := o_cI (y := o_N1) (b := b46) (g := (mkF m 107 #[oI qa, oI qb, oI qc, oI qs, oI pp, oI 1, oI va, oI vb, oI vc, oR b4, oR b6, oR b11, oR b19, oU, oU, oU, oU, oU, oU, oU, oU, oU] [(.ref b6), (.ref b46), (.ref b46)])) (as := [(.ref b6)]) (rest := [(.ref b46)]) 1 X46 hx hZ hml hown (oV hw 5 rfl) (oV hw 6 rfl) (oV hw 7 rfl) (oV hw 4 rfl) (o_sJ1 l Z a0 hw [] b46 b6 k6 _ _ va cs fm h46 n0 (Nat.le_trans Z0 K46.1) A46 F_value_b46 F_coder_b46 g_b46 VV48 hRva hst (((((((((((O0.ext E4).ext E6).wr W9 g_b6).ext E11).wr W14 g_b11).wr W17 g_b11).ext E19).wr W22 g_b19).wr W25 g_b19).wr W28 g_b19).ext E46)) e46 o_pd42 (hb hby at_107)
    obtain ⟨rfl, N50q, K50q, Es50, cd50, y50, ky50, Fc50, Fv50, SD50⟩ := hQ50
    have N50 := Fr.app N28 N50q
    have KC50 : Keep h0 T50.heap [] := K46.trans K50q (allS (Or.inr sz_b46) all0)
    have CH50 : CHr Z o_EL s.vm h0 s.vm T50.heap := CH46.trans (CHr.keep K50q (allS (o_safe hZ.alike A46 F_value_b46) all0) CH46.1)
    have pre51 : Goes p e below s1 F0 T50 (mkF m 110 #[oI qa, oI qb, oI qc, oI qs, oI pp, oI 1, oI va, oI vb, oI vc, oR b4, oR b6, oR b11, oR b19, oU, oU, oU, oU, oU, oU, oU, oU, oU] [(.ref b46)]) := fun t kt => pre49 t (st50 t kt)
    have HS50 : o_HS Z T50.heap b46 cd50 y50 ky50 1 (o_gl [va]) := o_HS1 Es50 Fc50 Fv50 SD50 hRva
    obtain ⟨T52, h52, X52, e52, E52, A52, DD52, -, st52⟩ := newO X50 hx hZ hown (oV hw 31 rfl) (oV hw 32 rfl) (oV hw 33 rfl) rfl (g := (mkF m 146 #[oI qa, oI qb, oI qc, oI qs, oI pp, oI 1, oI va, oI vb, oI vc, oR b4, oR b6, oR b11, oR b19, oR b46, oU, oU, oU, oU, oU, oU, oU, oU] [])) rfl (hb hby at_146) (by decide) (by decide)
    obtain ⟨b52, g52⟩ : ∃ z, z = T50.heap.size := ⟨_, rfl⟩
    rw [← g52] at A52 DD52 st52
    have F_host_b52 : Fld Z h52 b52 "com/example/ferry/ferry/Endpoint" "host" "Ljava/lang/String;" .null := DD52 (Or.inr (oV hw 44 rfl)) (ty := (.object "java/lang/String")) (by decide)
    have F_port_b52 : Fld Z h52 b52 "com/example/ferry/ferry/Endpoint" "port" "I" (.int 0) := DD52 (Or.inr (oV hw 46 rfl)) (ty := .int) (by decide)
    have g_b52 : n0 ≤ b52 := Nat.le_trans (Nat.le_trans Z0 KC50.1) (Nat.le_of_eq g52.symm)
    have sz_b52 : h0.size ≤ b52 := (Nat.le_trans KC50.1 (Nat.le_of_eq g52.symm))
    have K52 : Keep h0 h52 [] := KC50.ext E52
    have CH52 : CHr Z o_EL s.vm h0 s.vm h52 := CH50.trans (CHr.ext E52 CH50.1)
    have pre53 : Goes p e below s1 F0 T52 (mkF m 149 #[oI qa, oI qb, oI qc, oI qs, oI pp, oI 1, oI va, oI vb, oI vc, oR b4, oR b6, oR b11, oR b19, oR b46, oU, oU, oU, oU, oU, oU, oU, oU] [(.ref b52)]) := fun t kt => pre51 t (by
      refine XS.astore X50.here hx rfl (hb hby at_110) rfl rfl (l' := #[oI qa, oI qb, oI qc, oI qs, oI pp, oI 1, oI va, oI vb, oI vc, oR b4, oR b6, oR b11, oR b19, oR b46, oU, oU, oU, oU, oU, oU, oU, oU]) rfl ?_
      refine o_gt 112 146 X50 hx hby at_112 ?_
      exact st52 t kt)
    obtain ⟨_, T54, L54, X54, hQ54, st54⟩ := o_cI (y := o_N21) (b := b52) (g := (mkF m 154 #[oI qa, oI qb, oI qc, oI qs, oI pp, oI 1, oI va, oI vb, oI vc, oR b4, oR b6, oR b11, oR b19, oR b46, oU, oU, oU, oU, oU, oU, oU, oU] [(.int pp), (.ref b46), (.ref b52), (.ref b52)])) (as := [(.ref b46), (.int pp)]) (rest := [(.ref b52)]) 1 X52 hx hZ hml hown (oV hw 34 rfl) (oV hw 35 rfl) (oV hw 36 rfl) (oV hw 33 rfl) (o_epi l Z a0 hw [] b52 b46 pp h52 n0 (Nat.le_trans Z0 K52.1) A52 F_host_b52 F_port_b52 g_b52) e52 o_pd43 (hb hby at_154)
    obtain ⟨rfl, N54q, K54q, Ee54, Fh54, Fp54⟩ := hQ54
    have N54 := Fr.app N50 N54q
    have KC54 : Keep h0 T54.heap [] := K52.trans K54q (allS (Or.inr sz_b52) all0)
    have CH54 : CHr Z o_EL s.vm h0 s.vm T54.heap := CH52.trans (CHr.keep K54q (allS (Safe.exa hZ.alike A52 (by decide) (by decide)) all0) CH52.1)
    have pre55 : Goes p e below s1 F0 T54 (mkF m 157 #[oI qa, oI qb, oI qc, oI qs, oI pp, oI 1, oI va, oI vb, oI vc, oR b4, oR b6, oR b11, oR b19, oR b46, oU, oU, oU, oU, oU, oU, oU, oU] [(.ref b52)]) := fun t kt => pre53 t (by
      refine XS.dup X52.here hx rfl (hb hby at_149) rfl rfl ?_
      refine o_aL X52 hx hby at_150 rfl ?_
      refine o_iL X52 hx hby at_152 rfl ?_
      exact st54 t kt)
    have HT54 := o_HS.keepW (o_HS.ext HS50 E52) K54q (ninS (Nat.ne_of_lt (Nat.lt_of_lt_of_le Es50.lt (Nat.le_of_eq g52.symm))) nin0) (ninS (Nat.ne_of_lt (Nat.lt_of_lt_of_le (o_HS.ylt HS50) (Nat.le_of_eq g52.symm))) nin0)
    have pre56 : Goes p e below s1 F0 T54 (mkF m 161 #[oI qa, oI qb, oI qc, oI qs, oI pp, oI 1, oI va, oI vb, oI vc, oR b4, oR b6, oR b11, oR b19, oR b46, oR b52, oU, oU, oU, oU, oU, oU, oU] [(.ref b52)]) := fun t kt => pre55 t (by
      refine XS.astore X54.here hx rfl (hb hby at_157) rfl rfl (l' := #[oI qa, oI qb, oI qc, oI qs, oI pp, oI 1, oI va, oI vb, oI vc, oR b4, oR b6, oR b11, oR b19, oR b46, oR b52, oU, oU, oU, oU, oU, oU, oU]) rfl ?_
      refine o_aL X54 hx hby at_159 rfl ?_
      exact kt)
    obtain ⟨cq57, kq57, q57a, q57b, q57c⟩ := isOf hZ rfl Ee54
    obtain ⟨_, _, ⟨T57, L57, k57, n57⟩, -, XX57, hSS57, hGG57, ⟨Lc57, hQ57, l57, y57, z57, hCr57⟩, st57⟩ := X54.virtualBackS hx (y := o_N56) (z := o_N56) hown (oW hw hZ 47 rfl) (oW hw hZ 48 rfl) (notFace_of_selects (args := #[]) (oW hw hZ 50 rfl)) (oW hw hZ 50 rfl) (oW hw hZ 49 rfl) (by decide) (backOfSH (s := s) (vm0 := s.vm) (W := 0) (o_ets l Z a0 hw [] b52 b46 cd50 y50 ky50 1 (o_gl [va]) pp cs fm aO aT T54.heap n0 (Nat.le_trans Z0 KC54.1) Ee54 Fh54 Fp54 HT54 (by decide) hst ((((((((((((((O0.ext E4).ext E6).wr W9 g_b6).ext E11).wr W14 g_b11).wr W17 g_b11).ext E19).wr W22 g_b19).wr W25 g_b19).wr W28 g_b19).ext E46).keep K50q (allS g_b46 all0)).ext E52).keep K54q (allS g_b52 all0)) hdg) hZ (oV hw 51 rfl) (oV hw 33 rfl) (by decide) (by decide) hEL CH54.1) q57a q57c (g := (mkF m 161 #[oI qa, oI qb, oI qc, oI qs, oI pp, oI 1, oI va, oI vb, oI vc, oR b4, oR b6, oR b11, oR b19, oR b46, oR b52, oU, oU, oU, oU, oU, oU, oU] [(.ref b52)])) rfl (by rw [hml]; rfl) (Steps.refl _) (argsL := []) (rest := []) (lenOf o_pd36 rfl) rfl (by show 2 * 0 + _ ≤ _; exact Nat.le_of_eq rfl) (hb hby at_161) (fun _ _ => ⟨rfl, rfl, (by decide : 8 + 7 ≤ _), (by decide : 15 + 96 ≤ _)⟩)
    dsimp only [Pt.U, Pt.locs, Pt.cells, Pt.slots] at hCr57 hSS57 hGG57 XX57 l57 y57 z57 st57 hQ57
    subst l57 y57 z57
    obtain ⟨a2, cd2, y2, ky2, rfl, N57q, K57q, HR⟩ := hQ57
    have N57 := Fr.app N54 N57q
    obtain ⟨X57, hS57, hZ, hown⟩ := rebS (s := s) (vm0 := s.vm) (State.WarmedH.since (State.WarmedH.refl s) 0) (Nat.zero_le _) XX57 hSS57 hGG57 hZ hown
    have KC57 : Keep h0 T57.heap [] := KC54.trans K57q all0
    have CH57 : CHr Z o_EL s.vm h0 T57.vm T57.heap := CH54.trans hCr57
    have pre58 : Goes p e below s1 F0 T57 (mkF m 164 #[oI qa, oI qb, oI qc, oI qs, oI pp, oI 1, oI va, oI vb, oI vc, oR b4, oR b6, oR b11, oR b19, oR b46, oR b52, oU, oU, oU, oU, oU, oU, oU] [(.ref a2)]) := fun t kt => pre56 t (st57.trans kt)
    have pre59 : Goes p e below s1 F0 T57 (mkF m 166 #[oI qa, oI qb, oI qc, oI qs, oI pp, oI 1, oI va, oI vb, oI vc, oR b4, oR b6, oR b11, oR b19, oR b46, oR b52, oR a2, oU, oU, oU, oU, oU, oU] []) := fun t kt => pre58 t (by
      refine XS.astore X57.here hx rfl (hb hby at_164) rfl rfl (l' := #[oI qa, oI qb, oI qc, oI qs, oI pp, oI 1, oI va, oI vb, oI vc, oR b4, oR b6, oR b11, oR b19, oR b46, oR b52, oR a2, oU, oU, oU, oU, oU, oU]) rfl ?_
      exact kt)
    obtain ⟨T60, h60, Lc60, ng, mL, X60, e60, N60, K60q, st60⟩ := o_tail (s := s.setVm T57.vm) qa qb qc qs pp va vb vc b4 b6 b11 b19 b46 b52 a2 cd2 y2 ky2 1 (o_gl [va]) n0 cs fm hx hZ hw hby hml hown (X57.mono (by decide) (by decide)) rfl N57 (Nat.le_trans Z0 KC57.1) HR (by decide) (fun _ => rfl) (fun q => absurd q (by decide)) (fun q => absurd q (by decide)) hst (((((((((((((((O0.ext E4).ext E6).wr W9 g_b6).ext E11).wr W14 g_b11).wr W17 g_b11).ext E19).wr W22 g_b19).wr W25 g_b19).wr W28 g_b19).ext E46).keep K50q (allS g_b46 all0)).ext E52).keep K54q (allS g_b52 all0)).keep K57q all0)
    have KC60 : Keep h0 h60 [] := KC57.trans K60q all0
    have CH60 : CHr Z o_EL s.vm h0 T57.vm h60 := CH57.trans (CHr.keep K60q all0 CH57.1)
    have pre61 : Goes p e below s1 F0 T60 (mkF m 520 #[oI qa, oI qb, oI qc, oI qs, oI pp, oI 1, oI va, oI vb, oI vc, oR b4, oR b6, oR b11, oR b19, oR b46, oR b52, oR a2, oI ng, .val (.long mL), .second, oI (Int32.ofNat (o_nd (o_M pp))), oI (Int32.ofNat (o_pl pp)), oI (Int32.ofNat (1 + 1))] [(.int 1)]) := fun t kt => pre59 t (st60 t kt)
    obtain ⟨fs, hr, hrun, hended, hEnd⟩ := X60.leaveW hS57 (by rw [e60]; exact (Nat.le_trans (Nat.le_refl _) K60q.1)) (v := some (.int 1)) (fun h => by rw [Bd.returns] at h; cases h)
    rw [hF0] at pre61
    refine ⟨_, _, pre61 _ ?_, hrun, hended, _, _, rfl, ?_, ?_, hEnd.1, hEnd.2.1, hEnd.2.2.1, hEnd.2.2.2.mono (by decide) (by decide)⟩
    · show Steps p.tables e below (T60.setTop (mkF m 520 #[oI qa, oI qb, oI qc, oI qs, oI pp, oI 1, oI va, oI vb, oI vc, oR b4, oR b6, oR b11, oR b19, oR b46, oR b52, oR a2, oI ng, .val (.long mL), .second, oI (Int32.ofNat (o_nd (o_M pp))), oI (Int32.ofNat (o_pl pp)), oI (Int32.ofNat (1 + 1))] [(.int 1)])) _
      exact retN X60 hx (t := .boolean) Bd.returns (by simp) (hb hby at_520) hr
    · show Q_o_rm0 Z qa qb qc qs pp cs fm aO aT h0 n0 _ T60.heap _
      rw [e60]
      exact ⟨rfl, N60⟩
    · show CHr Z o_EL s.vm s.heap T60.vm T60.heap
      rw [hh, e60]
      exact CH60.trans (CHv.at (s := s) (vm0 := T57.vm) X60 hZ hEL CH60.1)
  · -- n = 2
    rw [show (qs &&& (3 : Int32)) = (2 : Int32) from hk] at pre30
    obtain ⟨T62, h62, X62, e62, E62, A62, DD62, -, st62⟩ := newO X28 hx hZ hown (oV hw 2 rfl) (oV hw 3 rfl) (oV hw 4 rfl) e28 (g := (mkF m 121 #[oI qa, oI qb, oI qc, oI qs, oI pp, oI 2, oI va, oI vb, oI vc, oR b4, oR b6, oR b11, oR b19, oU, oU, oU, oU, oU, oU, oU, oU, oU] [])) rfl (hb hby at_121) (by decide) (by decide)
    obtain ⟨b62, g62⟩ : ∃ z, z = h28.size := ⟨_, rfl⟩
    rw [← g62] at A62 DD62 st62
    have F_coder_b62 : Fld Z h62 b62 "java/lang/String" "coder" "B" (.int 0) := DD62 (Or.inr (oV hw 28 rfl)) (ty := .byte) (by decide)
    have F_value_b62 : Fld Z h62 b62 "java/lang/String" "value" "[B" .null := DD62 (Or.inr (oV hw 30 rfl)) (ty := (.array .byte)) (by decide)
    have g_b62 : n0 ≤ b62 := Nat.le_trans (Nat.le_trans Z0 K28.1) (Nat.le_of_eq g62.symm)
    have sz_b62 : h0.size ≤ b62 := (Nat.le_trans K28.1 (Nat.le_of_eq g62.symm))
    have K62 : Keep h0 h62 [] := K28.ext E62
    have CH62 : CHr Z o_EL s.vm h0 s.vm h62 := CH28.trans (CHr.ext E62 CH28.1)
    have pre63 : Goes p e below s1 F0 T62 (mkF m 124 #[oI qa, oI qb, oI qc, oI qs, oI pp, oI 2, oI va, oI vb, oI vc, oR b4, oR b6, oR b11, oR b19, oU, oU, oU, oU, oU, oU, oU, oU, oU] [(.ref b62)]) := fun t kt => pre30 t (by
      refine o_iL X28 hx hby at_76 rfl ?_
      refine o_ifY 78 95 X28 hx hby at_78 ((if0 _ _).trans (feq (by decide : ¬ ((2 : Int32) = (0 : Int32)))).2) ?_
      refine o_iL X28 hx hby at_95 rfl ?_
      refine o_ic X28 hx hby at_97 ?_
      refine o_icY 98 115 X28 hx hby at_98 (feq (by decide : ¬ ((2 : Int32) = (1 : Int32)))).2 ?_
      refine o_iL X28 hx hby at_115 rfl ?_
      refine o_ic X28 hx hby at_117 ?_
      refine o_icN X28 hx hby at_118 (teq (by decide : (2 : Int32) = (2 : Int32))).2 ?_
      exact st62 t kt)
    have pre65 : Goes p e below s1 F0 T62 (mkF m 127 #[oI qa, oI qb, oI qc, oI qs, oI pp, oI 2, oI va, oI vb, oI vc, oR b4, oR b6, oR b11, oR b19, oU, oU, oU, oU, oU, oU, oU, oU, oU] [(.ref b11), (.ref b62), (.ref b62)]) := fun t kt => pre63 t (by
      refine XS.dup X62.here hx rfl (hb hby at_124) rfl rfl ?_
      refine o_aL X62 hx hby at_125 rfl ?_
      exact kt)
    have VV64 : Arv Z h62 b11 k11 .char (2 : Int32) [(.int va), (.int vb)] (.int 0) := by have q := (((((V17.ext E19).other W22 (Nat.ne_of_lt (Nat.lt_of_lt_of_le V17.lt (Nat.le_of_eq g19.symm)))).other W25 (Nat.ne_of_lt (Nat.lt_of_lt_of_le V17.lt (Nat.le_of_eq g19.symm)))).other W28 (Nat.ne_of_lt (Nat.lt_of_lt_of_le V17.lt (Nat.le_of_eq g19.symm)))).ext E62); simp only [o_nc va hRva, o_nc vb hRvb] at q; exact q
    obtain ⟨_, T66, L66, X66, hQ66, st66⟩ := o_cI (y := o_N1) (b := b62) (g := (mkF m 127 #[oI qa, oI qb, oI qc, oI qs, oI pp, oI 2, oI va, oI vb, oI vc, oR b4, oR b6, oR b11, oR b19, oU, oU, oU, oU, oU, oU, oU, oU, oU] [(.ref b11), (.ref b62), (.ref b62)])) (as := [(.ref b11)]) (rest := [(.ref b62)]) 1 X62 hx hZ hml hown (oV hw 5 rfl) (oV hw 6 rfl) (oV hw 7 rfl) (oV hw 4 rfl) (o_sJ2 l Z a0 hw [] b62 b11 k11 _ _ va vb cs fm h62 n0 (Nat.le_trans Z0 K62.1) A62 F_value_b62 F_coder_b62 g_b62 VV64 hRva hRvb hst (((((((((((O0.ext E4).ext E6).wr W9 g_b6).ext E11).wr W14 g_b11).wr W17 g_b11).ext E19).wr W22 g_b19).wr W25 g_b19).wr W28 g_b19).ext E62)) e62 o_pd42 (hb hby at_127)
    obtain ⟨rfl, N66q, K66q, Es66, cd66, y66, ky66, Fc66, Fv66, SD66⟩ := hQ66
    have N66 := Fr.app N28 N66q
    have KC66 : Keep h0 T66.heap [] := K62.trans K66q (allS (Or.inr sz_b62) all0)
    have CH66 : CHr Z o_EL s.vm h0 s.vm T66.heap := CH62.trans (CHr.keep K66q (allS (o_safe hZ.alike A62 F_value_b62) all0) CH62.1)
    have pre67 : Goes p e below s1 F0 T66 (mkF m 130 #[oI qa, oI qb, oI qc, oI qs, oI pp, oI 2, oI va, oI vb, oI vc, oR b4, oR b6, oR b11, oR b19, oU, oU, oU, oU, oU, oU, oU, oU, oU] [(.ref b62)]) := fun t kt => pre65 t (st66 t kt)
    have HS66 : o_HS Z T66.heap b62 cd66 y66 ky66 2 (o_gl [va, vb]) := o_HS2 Es66 Fc66 Fv66 SD66 hRva hRvb
    obtain ⟨T68, h68, X68, e68, E68, A68, DD68, -, st68⟩ := newO X66 hx hZ hown (oV hw 31 rfl) (oV hw 32 rfl) (oV hw 33 rfl) rfl (g := (mkF m 146 #[oI qa, oI qb, oI qc, oI qs, oI pp, oI 2, oI va, oI vb, oI vc, oR b4, oR b6, oR b11, oR b19, oR b62, oU, oU, oU, oU, oU, oU, oU, oU] [])) rfl (hb hby at_146) (by decide) (by decide)
    obtain ⟨b68, g68⟩ : ∃ z, z = T66.heap.size := ⟨_, rfl⟩
    rw [← g68] at A68 DD68 st68
    have F_host_b68 : Fld Z h68 b68 "com/example/ferry/ferry/Endpoint" "host" "Ljava/lang/String;" .null := DD68 (Or.inr (oV hw 44 rfl)) (ty := (.object "java/lang/String")) (by decide)
    have F_port_b68 : Fld Z h68 b68 "com/example/ferry/ferry/Endpoint" "port" "I" (.int 0) := DD68 (Or.inr (oV hw 46 rfl)) (ty := .int) (by decide)
    have g_b68 : n0 ≤ b68 := Nat.le_trans (Nat.le_trans Z0 KC66.1) (Nat.le_of_eq g68.symm)
    have sz_b68 : h0.size ≤ b68 := (Nat.le_trans KC66.1 (Nat.le_of_eq g68.symm))
    have K68 : Keep h0 h68 [] := KC66.ext E68
    have CH68 : CHr Z o_EL s.vm h0 s.vm h68 := CH66.trans (CHr.ext E68 CH66.1)
    have pre69 : Goes p e below s1 F0 T68 (mkF m 149 #[oI qa, oI qb, oI qc, oI qs, oI pp, oI 2, oI va, oI vb, oI vc, oR b4, oR b6, oR b11, oR b19, oR b62, oU, oU, oU, oU, oU, oU, oU, oU] [(.ref b68)]) := fun t kt => pre67 t (by
      refine XS.astore X66.here hx rfl (hb hby at_130) rfl rfl (l' := #[oI qa, oI qb, oI qc, oI qs, oI pp, oI 2, oI va, oI vb, oI vc, oR b4, oR b6, oR b11, oR b19, oR b62, oU, oU, oU, oU, oU, oU, oU, oU]) rfl ?_
      refine o_gt 132 146 X66 hx hby at_132 ?_
      exact st68 t kt)
    obtain ⟨_, T70, L70, X70, hQ70, st70⟩ := o_cI (y := o_N21) (b := b68) (g := (mkF m 154 #[oI qa, oI qb, oI qc, oI qs, oI pp, oI 2, oI va, oI vb, oI vc, oR b4, oR b6, oR b11, oR b19, oR b62, oU, oU, oU, oU, oU, oU, oU, oU] [(.int pp), (.ref b62), (.ref b68), (.ref b68)])) (as := [(.ref b62), (.int pp)]) (rest := [(.ref b68)]) 1 X68 hx hZ hml hown (oV hw 34 rfl) (oV hw 35 rfl) (oV hw 36 rfl) (oV hw 33 rfl) (o_epi l Z a0 hw [] b68 b62 pp h68 n0 (Nat.le_trans Z0 K68.1) A68 F_host_b68 F_port_b68 g_b68) e68 o_pd43 (hb hby at_154)
    obtain ⟨rfl, N70q, K70q, Ee70, Fh70, Fp70⟩ := hQ70
    have N70 := Fr.app N66 N70q
    have KC70 : Keep h0 T70.heap [] := K68.trans K70q (allS (Or.inr sz_b68) all0)
    have CH70 : CHr Z o_EL s.vm h0 s.vm T70.heap := CH68.trans (CHr.keep K70q (allS (Safe.exa hZ.alike A68 (by decide) (by decide)) all0) CH68.1)
    have pre71 : Goes p e below s1 F0 T70 (mkF m 157 #[oI qa, oI qb, oI qc, oI qs, oI pp, oI 2, oI va, oI vb, oI vc, oR b4, oR b6, oR b11, oR b19, oR b62, oU, oU, oU, oU, oU, oU, oU, oU] [(.ref b68)]) := fun t kt => pre69 t (by
      refine XS.dup X68.here hx rfl (hb hby at_149) rfl rfl ?_
      refine o_aL X68 hx hby at_150 rfl ?_
      refine o_iL X68 hx hby at_152 rfl ?_
      exact st70 t kt)
    have HT70 := o_HS.keepW (o_HS.ext HS66 E68) K70q (ninS (Nat.ne_of_lt (Nat.lt_of_lt_of_le Es66.lt (Nat.le_of_eq g68.symm))) nin0) (ninS (Nat.ne_of_lt (Nat.lt_of_lt_of_le (o_HS.ylt HS66) (Nat.le_of_eq g68.symm))) nin0)
    have pre72 : Goes p e below s1 F0 T70 (mkF m 161 #[oI qa, oI qb, oI qc, oI qs, oI pp, oI 2, oI va, oI vb, oI vc, oR b4, oR b6, oR b11, oR b19, oR b62, oR b68, oU, oU, oU, oU, oU, oU, oU] [(.ref b68)]) := fun t kt => pre71 t (by
      refine XS.astore X70.here hx rfl (hb hby at_157) rfl rfl (l' := #[oI qa, oI qb, oI qc, oI qs, oI pp, oI 2, oI va, oI vb, oI vc, oR b4, oR b6, oR b11, oR b19, oR b62, oR b68, oU, oU, oU, oU, oU, oU, oU]) rfl ?_
      refine o_aL X70 hx hby at_159 rfl ?_
      exact kt)
    obtain ⟨cq73, kq73, q73a, q73b, q73c⟩ := isOf hZ rfl Ee70
    obtain ⟨_, _, ⟨T73, L73, k73, n73⟩, -, XX73, hSS73, hGG73, ⟨Lc73, hQ73, l73, y73, z73, hCr73⟩, st73⟩ := X70.virtualBackS hx (y := o_N56) (z := o_N56) hown (oW hw hZ 47 rfl) (oW hw hZ 48 rfl) (notFace_of_selects (args := #[]) (oW hw hZ 50 rfl)) (oW hw hZ 50 rfl) (oW hw hZ 49 rfl) (by decide) (backOfSH (s := s) (vm0 := s.vm) (W := 0) (o_ets l Z a0 hw [] b68 b62 cd66 y66 ky66 2 (o_gl [va, vb]) pp cs fm aO aT T70.heap n0 (Nat.le_trans Z0 KC70.1) Ee70 Fh70 Fp70 HT70 (by decide) hst ((((((((((((((O0.ext E4).ext E6).wr W9 g_b6).ext E11).wr W14 g_b11).wr W17 g_b11).ext E19).wr W22 g_b19).wr W25 g_b19).wr W28 g_b19).ext E62).keep K66q (allS g_b62 all0)).ext E68).keep K70q (allS g_b68 all0)) hdg) hZ (oV hw 51 rfl) (oV hw 33 rfl) (by decide) (by decide) hEL CH70.1) q73a q73c (g := (mkF m 161 #[oI qa, oI qb, oI qc, oI qs, oI pp, oI 2, oI va, oI vb, oI vc, oR b4, oR b6, oR b11, oR b19, oR b62, oR b68, oU, oU, oU, oU, oU, oU, oU] [(.ref b68)])) rfl (by rw [hml]; rfl) (Steps.refl _) (argsL := []) (rest := []) (lenOf o_pd36 rfl) rfl (by show 2 * 0 + _ ≤ _; exact Nat.le_of_eq rfl) (hb hby at_161) (fun _ _ => ⟨rfl, rfl, (by decide : 8 + 7 ≤ _), (by decide : 18 + 96 ≤ _)⟩)
    dsimp only [Pt.U, Pt.locs, Pt.cells, Pt.slots] at hCr73 hSS73 hGG73 XX73 l73 y73 z73 st73 hQ73
    subst l73 y73 z73
    obtain ⟨a2, cd2, y2, ky2, rfl, N73q, K73q, HR⟩ := hQ73
    have N73 := Fr.app N70 N73q
    obtain ⟨X73, hS73, hZ, hown⟩ := rebS (s := s) (vm0 := s.vm) (State.WarmedH.since (State.WarmedH.refl s) 0) (Nat.zero_le _) XX73 hSS73 hGG73 hZ hown
    have KC73 : Keep h0 T73.heap [] := KC70.trans K73q all0
    have CH73 : CHr Z o_EL s.vm h0 T73.vm T73.heap := CH70.trans hCr73
    have pre74 : Goes p e below s1 F0 T73 (mkF m 164 #[oI qa, oI qb, oI qc, oI qs, oI pp, oI 2, oI va, oI vb, oI vc, oR b4, oR b6, oR b11, oR b19, oR b62, oR b68, oU, oU, oU, oU, oU, oU, oU] [(.ref a2)]) := fun t kt => pre72 t (st73.trans kt)
    have pre75 : Goes p e below s1 F0 T73 (mkF m 166 #[oI qa, oI qb, oI qc, oI qs, oI pp, oI 2, oI va, oI vb, oI vc, oR b4, oR b6, oR b11, oR b19, oR b62, oR b68, oR a2, oU, oU, oU, oU, oU, oU] []) := fun t kt => pre74 t (by
      refine XS.astore X73.here hx rfl (hb hby at_164) rfl rfl (l' := #[oI qa, oI qb, oI qc, oI qs, oI pp, oI 2, oI va, oI vb, oI vc, oR b4, oR b6, oR b11, oR b19, oR b62, oR b68, oR a2, oU, oU, oU, oU, oU, oU]) rfl ?_
      exact kt)
    obtain ⟨T76, h76, Lc76, ng, mL, X76, e76, N76, K76q, st76⟩ := o_tail (s := s.setVm T73.vm) qa qb qc qs pp va vb vc b4 b6 b11 b19 b62 b68 a2 cd2 y2 ky2 2 (o_gl [va, vb]) n0 cs fm hx hZ hw hby hml hown (X73.mono (by decide) (by decide)) rfl N73 (Nat.le_trans Z0 KC73.1) HR (by decide) (fun _ => rfl) (fun _ => rfl) (fun q => absurd q (by decide)) hst (((((((((((((((O0.ext E4).ext E6).wr W9 g_b6).ext E11).wr W14 g_b11).wr W17 g_b11).ext E19).wr W22 g_b19).wr W25 g_b19).wr W28 g_b19).ext E62).keep K66q (allS g_b62 all0)).ext E68).keep K70q (allS g_b68 all0)).keep K73q all0)
    have KC76 : Keep h0 h76 [] := KC73.trans K76q all0
    have CH76 : CHr Z o_EL s.vm h0 T73.vm h76 := CH73.trans (CHr.keep K76q all0 CH73.1)
    have pre77 : Goes p e below s1 F0 T76 (mkF m 520 #[oI qa, oI qb, oI qc, oI qs, oI pp, oI 2, oI va, oI vb, oI vc, oR b4, oR b6, oR b11, oR b19, oR b62, oR b68, oR a2, oI ng, .val (.long mL), .second, oI (Int32.ofNat (o_nd (o_M pp))), oI (Int32.ofNat (o_pl pp)), oI (Int32.ofNat (2 + 1))] [(.int 1)]) := fun t kt => pre75 t (st76 t kt)
    obtain ⟨fs, hr, hrun, hended, hEnd⟩ := X76.leaveW hS73 (by rw [e76]; exact (Nat.le_trans (Nat.le_refl _) K76q.1)) (v := some (.int 1)) (fun h => by rw [Bd.returns] at h; cases h)
    rw [hF0] at pre77
    refine ⟨_, _, pre77 _ ?_, hrun, hended, _, _, rfl, ?_, ?_, hEnd.1, hEnd.2.1, hEnd.2.2.1, hEnd.2.2.2.mono (by decide) (by decide)⟩
    · show Steps p.tables e below (T76.setTop (mkF m 520 #[oI qa, oI qb, oI qc, oI qs, oI pp, oI 2, oI va, oI vb, oI vc, oR b4, oR b6, oR b11, oR b19, oR b62, oR b68, oR a2, oI ng, .val (.long mL), .second, oI (Int32.ofNat (o_nd (o_M pp))), oI (Int32.ofNat (o_pl pp)), oI (Int32.ofNat (2 + 1))] [(.int 1)])) _
      exact retN X76 hx (t := .boolean) Bd.returns (by simp) (hb hby at_520) hr
    · show Q_o_rm0 Z qa qb qc qs pp cs fm aO aT h0 n0 _ T76.heap _
      rw [e76]
      exact ⟨rfl, N76⟩
    · show CHr Z o_EL s.vm s.heap T76.vm T76.heap
      rw [hh, e76]
      exact CH76.trans (CHv.at (s := s) (vm0 := T73.vm) X76 hZ hEL CH76.1)
  · -- n = 3
    rw [show (qs &&& (3 : Int32)) = (3 : Int32) from hk] at pre30
    obtain ⟨T78, h78, X78, e78, E78, A78, DD78, -, st78⟩ := newO X28 hx hZ hown (oV hw 2 rfl) (oV hw 3 rfl) (oV hw 4 rfl) e28 (g := (mkF m 135 #[oI qa, oI qb, oI qc, oI qs, oI pp, oI 3, oI va, oI vb, oI vc, oR b4, oR b6, oR b11, oR b19, oU, oU, oU, oU, oU, oU, oU, oU, oU] [])) rfl (hb hby at_135) (by decide) (by decide)
    obtain ⟨b78, g78⟩ : ∃ z, z = h28.size := ⟨_, rfl⟩
    rw [← g78] at A78 DD78 st78
    have F_coder_b78 : Fld Z h78 b78 "java/lang/String" "coder" "B" (.int 0) := DD78 (Or.inr (oV hw 28 rfl)) (ty := .byte) (by decide)
    have F_value_b78 : Fld Z h78 b78 "java/lang/String" "value" "[B" .null := DD78 (Or.inr (oV hw 30 rfl)) (ty := (.array .byte)) (by decide)
    have g_b78 : n0 ≤ b78 := Nat.le_trans (Nat.le_trans Z0 K28.1) (Nat.le_of_eq g78.symm)
    have sz_b78 : h0.size ≤ b78 := (Nat.le_trans K28.1 (Nat.le_of_eq g78.symm))
    have K78 : Keep h0 h78 [] := K28.ext E78
    have CH78 : CHr Z o_EL s.vm h0 s.vm h78 := CH28.trans (CHr.ext E78 CH28.1)
    have pre79 : Goes p e below s1 F0 T78 (mkF m 138 #[oI qa, oI qb, oI qc, oI qs, oI pp, oI 3, oI va, oI vb, oI vc, oR b4, oR b6, oR b11, oR b19, oU, oU, oU, oU, oU, oU, oU, oU, oU] [(.ref b78)]) := fun t kt => pre30 t (by
      refine o_iL X28 hx hby at_76 rfl ?_
      refine o_ifY 78 95 X28 hx hby at_78 ((if0 _ _).trans (feq (by decide : ¬ ((3 : Int32) = (0 : Int32)))).2) ?_
      refine o_iL X28 hx hby at_95 rfl ?_
      refine o_ic X28 hx hby at_97 ?_
      refine o_icY 98 115 X28 hx hby at_98 (feq (by decide : ¬ ((3 : Int32) = (1 : Int32)))).2 ?_
      refine o_iL X28 hx hby at_115 rfl ?_
      refine o_ic X28 hx hby at_117 ?_
      refine o_icY 118 135 X28 hx hby at_118 (feq (by decide : ¬ ((3 : Int32) = (2 : Int32)))).2 ?_
      exact st78 t kt)
    have pre81 : Goes p e below s1 F0 T78 (mkF m 141 #[oI qa, oI qb, oI qc, oI qs, oI pp, oI 3, oI va, oI vb, oI vc, oR b4, oR b6, oR b11, oR b19, oU, oU, oU, oU, oU, oU, oU, oU, oU] [(.ref b19), (.ref b78), (.ref b78)]) := fun t kt => pre79 t (by
      refine XS.dup X78.here hx rfl (hb hby at_138) rfl rfl ?_
      refine o_aL X78 hx hby at_139 rfl ?_
      exact kt)
    have VV80 : Arv Z h78 b19 k19 .char (3 : Int32) [(.int va), (.int vb), (.int vc)] (.int 0) := by have q := (V28.ext E78); simp only [o_nc va hRva, o_nc vb hRvb, o_nc vc hRvc] at q; exact q
    obtain ⟨_, T82, L82, X82, hQ82, st82⟩ := o_cI (y := o_N1) (b := b78) (g := (mkF m 141 #[oI qa, oI qb, oI qc, oI qs, oI pp, oI 3, oI va, oI vb, oI vc, oR b4, oR b6, oR b11, oR b19, oU, oU, oU, oU, oU, oU, oU, oU, oU] [(.ref b19), (.ref b78), (.ref b78)])) (as := [(.ref b19)]) (rest := [(.ref b78)]) 1 X78 hx hZ hml hown (oV hw 5 rfl) (oV hw 6 rfl) (oV hw 7 rfl) (oV hw 4 rfl) (o_sJ3 l Z a0 hw [] b78 b19 k19 _ _ va vb vc cs fm h78 n0 (Nat.le_trans Z0 K78.1) A78 F_value_b78 F_coder_b78 g_b78 VV80 hRva hRvb hRvc hst (((((((((((O0.ext E4).ext E6).wr W9 g_b6).ext E11).wr W14 g_b11).wr W17 g_b11).ext E19).wr W22 g_b19).wr W25 g_b19).wr W28 g_b19).ext E78)) e78 o_pd42 (hb hby at_141)
    obtain ⟨rfl, N82q, K82q, Es82, cd82, y82, ky82, Fc82, Fv82, SD82⟩ := hQ82
    have N82 := Fr.app N28 N82q
    have KC82 : Keep h0 T82.heap [] := K78.trans K82q (allS (Or.inr sz_b78) all0)
    have CH82 : CHr Z o_EL s.vm h0 s.vm T82.heap := CH78.trans (CHr.keep K82q (allS (o_safe hZ.alike A78 F_value_b78) all0) CH78.1)
    have pre83 : Goes p e below s1 F0 T82 (mkF m 144 #[oI qa, oI qb, oI qc, oI qs, oI pp, oI 3, oI va, oI vb, oI vc, oR b4, oR b6, oR b11, oR b19, oU, oU, oU, oU, oU, oU, oU, oU, oU] [(.ref b78)]) := fun t kt => pre81 t (st82 t kt)
    have HS82 : o_HS Z T82.heap b78 cd82 y82 ky82 3 (o_gl [va, vb, vc]) := o_HS3 Es82 Fc82 Fv82 SD82 hRva hRvb hRvc
    obtain ⟨T84, h84, X84, e84, E84, A84, DD84, -, st84⟩ := newO X82 hx hZ hown (oV hw 31 rfl) (oV hw 32 rfl) (oV hw 33 rfl) rfl (g := (mkF m 146 #[oI qa, oI qb, oI qc, oI qs, oI pp, oI 3, oI va, oI vb, oI vc, oR b4, oR b6, oR b11, oR b19, oR b78, oU, oU, oU, oU, oU, oU, oU, oU] [])) rfl (hb hby at_146) (by decide) (by decide)
    obtain ⟨b84, g84⟩ : ∃ z, z = T82.heap.size := ⟨_, rfl⟩
    rw [← g84] at A84 DD84 st84
    have F_host_b84 : Fld Z h84 b84 "com/example/ferry/ferry/Endpoint" "host" "Ljava/lang/String;" .null := DD84 (Or.inr (oV hw 44 rfl)) (ty := (.object "java/lang/String")) (by decide)
    have F_port_b84 : Fld Z h84 b84 "com/example/ferry/ferry/Endpoint" "port" "I" (.int 0) := DD84 (Or.inr (oV hw 46 rfl)) (ty := .int) (by decide)
    have g_b84 : n0 ≤ b84 := Nat.le_trans (Nat.le_trans Z0 KC82.1) (Nat.le_of_eq g84.symm)
    have sz_b84 : h0.size ≤ b84 := (Nat.le_trans KC82.1 (Nat.le_of_eq g84.symm))
    have K84 : Keep h0 h84 [] := KC82.ext E84
    have CH84 : CHr Z o_EL s.vm h0 s.vm h84 := CH82.trans (CHr.ext E84 CH82.1)
    have pre85 : Goes p e below s1 F0 T84 (mkF m 149 #[oI qa, oI qb, oI qc, oI qs, oI pp, oI 3, oI va, oI vb, oI vc, oR b4, oR b6, oR b11, oR b19, oR b78, oU, oU, oU, oU, oU, oU, oU, oU] [(.ref b84)]) := fun t kt => pre83 t (by
      refine XS.astore X82.here hx rfl (hb hby at_144) rfl rfl (l' := #[oI qa, oI qb, oI qc, oI qs, oI pp, oI 3, oI va, oI vb, oI vc, oR b4, oR b6, oR b11, oR b19, oR b78, oU, oU, oU, oU, oU, oU, oU, oU]) rfl ?_
      exact st84 t kt)
    obtain ⟨_, T86, L86, X86, hQ86, st86⟩ := o_cI (y := o_N21) (b := b84) (g := (mkF m 154 #[oI qa, oI qb, oI qc, oI qs, oI pp, oI 3, oI va, oI vb, oI vc, oR b4, oR b6, oR b11, oR b19, oR b78, oU, oU, oU, oU, oU, oU, oU, oU] [(.int pp), (.ref b78), (.ref b84), (.ref b84)])) (as := [(.ref b78), (.int pp)]) (rest := [(.ref b84)]) 1 X84 hx hZ hml hown (oV hw 34 rfl) (oV hw 35 rfl) (oV hw 36 rfl) (oV hw 33 rfl) (o_epi l Z a0 hw [] b84 b78 pp h84 n0 (Nat.le_trans Z0 K84.1) A84 F_host_b84 F_port_b84 g_b84) e84 o_pd43 (hb hby at_154)
    obtain ⟨rfl, N86q, K86q, Ee86, Fh86, Fp86⟩ := hQ86
    have N86 := Fr.app N82 N86q
    have KC86 : Keep h0 T86.heap [] := K84.trans K86q (allS (Or.inr sz_b84) all0)
    have CH86 : CHr Z o_EL s.vm h0 s.vm T86.heap := CH84.trans (CHr.keep K86q (allS (Safe.exa hZ.alike A84 (by decide) (by decide)) all0) CH84.1)
    have pre87 : Goes p e below s1 F0 T86 (mkF m 157 #[oI qa, oI qb, oI qc, oI qs, oI pp, oI 3, oI va, oI vb, oI vc, oR b4, oR b6, oR b11, oR b19, oR b78, oU, oU, oU, oU, oU, oU, oU, oU] [(.ref b84)]) := fun t kt => pre85 t (by
      refine XS.dup X84.here hx rfl (hb hby at_149) rfl rfl ?_
      refine o_aL X84 hx hby at_150 rfl ?_
      refine o_iL X84 hx hby at_152 rfl ?_
      exact st86 t kt)
    have HT86 := o_HS.keepW (o_HS.ext HS82 E84) K86q (ninS (Nat.ne_of_lt (Nat.lt_of_lt_of_le Es82.lt (Nat.le_of_eq g84.symm))) nin0) (ninS (Nat.ne_of_lt (Nat.lt_of_lt_of_le (o_HS.ylt HS82) (Nat.le_of_eq g84.symm))) nin0)
    have pre88 : Goes p e below s1 F0 T86 (mkF m 161 #[oI qa, oI qb, oI qc, oI qs, oI pp, oI 3, oI va, oI vb, oI vc, oR b4, oR b6, oR b11, oR b19, oR b78, oR b84, oU, oU, oU, oU, oU, oU, oU] [(.ref b84)]) := fun t kt => pre87 t (by
      refine XS.astore X86.here hx rfl (hb hby at_157) rfl rfl (l' := #[oI qa, oI qb, oI qc, oI qs, oI pp, oI 3, oI va, oI vb, oI vc, oR b4, oR b6, oR b11, oR b19, oR b78, oR b84, oU, oU, oU, oU, oU, oU, oU]) rfl ?_
      refine o_aL X86 hx hby at_159 rfl ?_
      exact kt)
    obtain ⟨cq89, kq89, q89a, q89b, q89c⟩ := isOf hZ rfl Ee86
    obtain ⟨_, _, ⟨T89, L89, k89, n89⟩, -, XX89, hSS89, hGG89, ⟨Lc89, hQ89, l89, y89, z89, hCr89⟩, st89⟩ := X86.virtualBackS hx (y := o_N56) (z := o_N56) hown (oW hw hZ 47 rfl) (oW hw hZ 48 rfl) (notFace_of_selects (args := #[]) (oW hw hZ 50 rfl)) (oW hw hZ 50 rfl) (oW hw hZ 49 rfl) (by decide) (backOfSH (s := s) (vm0 := s.vm) (W := 0) (o_ets l Z a0 hw [] b84 b78 cd82 y82 ky82 3 (o_gl [va, vb, vc]) pp cs fm aO aT T86.heap n0 (Nat.le_trans Z0 KC86.1) Ee86 Fh86 Fp86 HT86 (by decide) hst ((((((((((((((O0.ext E4).ext E6).wr W9 g_b6).ext E11).wr W14 g_b11).wr W17 g_b11).ext E19).wr W22 g_b19).wr W25 g_b19).wr W28 g_b19).ext E78).keep K82q (allS g_b78 all0)).ext E84).keep K86q (allS g_b84 all0)) hdg) hZ (oV hw 51 rfl) (oV hw 33 rfl) (by decide) (by decide) hEL CH86.1) q89a q89c (g := (mkF m 161 #[oI qa, oI qb, oI qc, oI qs, oI pp, oI 3, oI va, oI vb, oI vc, oR b4, oR b6, oR b11, oR b19, oR b78, oR b84, oU, oU, oU, oU, oU, oU, oU] [(.ref b84)])) rfl (by rw [hml]; rfl) (Steps.refl _) (argsL := []) (rest := []) (lenOf o_pd36 rfl) rfl (by show 2 * 0 + _ ≤ _; exact Nat.le_of_eq rfl) (hb hby at_161) (fun _ _ => ⟨rfl, rfl, (by decide : 8 + 7 ≤ _), (by decide : 21 + 96 ≤ _)⟩)
    dsimp only [Pt.U, Pt.locs, Pt.cells, Pt.slots] at hCr89 hSS89 hGG89 XX89 l89 y89 z89 st89 hQ89
    subst l89 y89 z89
    obtain ⟨a2, cd2, y2, ky2, rfl, N89q, K89q, HR⟩ := hQ89
    have N89 := Fr.app N86 N89q
    obtain ⟨X89, hS89, hZ, hown⟩ := rebS (s := s) (vm0 := s.vm) (State.WarmedH.since (State.WarmedH.refl s) 0) (Nat.zero_le _) XX89 hSS89 hGG89 hZ hown
    have KC89 : Keep h0 T89.heap [] := KC86.trans K89q all0
    have CH89 : CHr Z o_EL s.vm h0 T89.vm T89.heap := CH86.trans hCr89
    have pre90 : Goes p e below s1 F0 T89 (mkF m 164 #[oI qa, oI qb, oI qc, oI qs, oI pp, oI 3, oI va, oI vb, oI vc, oR b4, oR b6, oR b11, oR b19, oR b78, oR b84, oU, oU, oU, oU, oU, oU, oU] [(.ref a2)]) := fun t kt => pre88 t (st89.trans kt)
    have pre91 : Goes p e below s1 F0 T89 (mkF m 166 #[oI qa, oI qb, oI qc, oI qs, oI pp, oI 3, oI va, oI vb, oI vc, oR b4, oR b6, oR b11, oR b19, oR b78, oR b84, oR a2, oU, oU, oU, oU, oU, oU] []) := fun t kt => pre90 t (by
      refine XS.astore X89.here hx rfl (hb hby at_164) rfl rfl (l' := #[oI qa, oI qb, oI qc, oI qs, oI pp, oI 3, oI va, oI vb, oI vc, oR b4, oR b6, oR b11, oR b19, oR b78, oR b84, oR a2, oU, oU, oU, oU, oU, oU]) rfl ?_
      exact kt)
    obtain ⟨T92, h92, Lc92, ng, mL, X92, e92, N92, K92q, st92⟩ := o_tail (s := s.setVm T89.vm) qa qb qc qs pp va vb vc b4 b6 b11 b19 b78 b84 a2 cd2 y2 ky2 3 (o_gl [va, vb, vc]) n0 cs fm hx hZ hw hby hml hown (X89.mono (by decide) (by decide)) rfl N89 (Nat.le_trans Z0 KC89.1) HR (by decide) (fun _ => rfl) (fun _ => rfl) (fun _ => rfl) hst (((((((((((((((O0.ext E4).ext E6).wr W9 g_b6).ext E11).wr W14 g_b11).wr W17 g_b11).ext E19).wr W22 g_b19).wr W25 g_b19).wr W28 g_b19).ext E78).keep K82q (allS g_b78 all0)).ext E84).keep K86q (allS g_b84 all0)).keep K89q all0)
    have KC92 : Keep h0 h92 [] := KC89.trans K92q all0
    have CH92 : CHr Z o_EL s.vm h0 T89.vm h92 := CH89.trans (CHr.keep K92q all0 CH89.1)
    have pre93 : Goes p e below s1 F0 T92 (mkF m 520 #[oI qa, oI qb, oI qc, oI qs, oI pp, oI 3, oI va, oI vb, oI vc, oR b4, oR b6, oR b11, oR b19, oR b78, oR b84, oR a2, oI ng, .val (.long mL), .second, oI (Int32.ofNat (o_nd (o_M pp))), oI (Int32.ofNat (o_pl pp)), oI (Int32.ofNat (3 + 1))] [(.int 1)]) := fun t kt => pre91 t (st92 t kt)
    obtain ⟨fs, hr, hrun, hended, hEnd⟩ := X92.leaveW hS89 (by rw [e92]; exact (Nat.le_trans (Nat.le_refl _) K92q.1)) (v := some (.int 1)) (fun h => by rw [Bd.returns] at h; cases h)
    rw [hF0] at pre93
    refine ⟨_, _, pre93 _ ?_, hrun, hended, _, _, rfl, ?_, ?_, hEnd.1, hEnd.2.1, hEnd.2.2.1, hEnd.2.2.2.mono (by decide) (by decide)⟩
    · show Steps p.tables e below (T92.setTop (mkF m 520 #[oI qa, oI qb, oI qc, oI qs, oI pp, oI 3, oI va, oI vb, oI vc, oR b4, oR b6, oR b11, oR b19, oR b78, oR b84, oR a2, oI ng, .val (.long mL), .second, oI (Int32.ofNat (o_nd (o_M pp))), oI (Int32.ofNat (o_pl pp)), oI (Int32.ofNat (3 + 1))] [(.int 1)])) _
      exact retN X92 hx (t := .boolean) Bd.returns (by simp) (hb hby at_520) hr
    · show Q_o_rm0 Z qa qb qc qs pp cs fm aO aT h0 n0 _ T92.heap _
      rw [e92]
      exact ⟨rfl, N92⟩
    · show CHr Z o_EL s.vm s.heap T92.vm T92.heap
      rw [hh, e92]
      exact CH92.trans (CHv.at (s := s) (vm0 := T89.vm) X92 hZ hEL CH92.1)
theorem comes_1 {Post : Tables → Env → Array Value → State → Outcome → State → Prop} (hpost : ∀ tb e args s v u, (limb_1_1.after args s (.returned v) u = true ∧ limb_1_2.after args s (.returned v) u = true ∧ True) → ReturnedEndW s (.returned v) u (Jvm.fieldLocs frame_1_writes args s ++ Jvm.arrayLocs frame_1_arrays args s ++ Jvm.staticLocs frame_1_statics s) 64 2560 → Post tb e args s (.returned v) u) :
    ArmFor flags0 classFile x code maxLocals ret World_1 tables_1 room_1 Calls_1 rest_1 Pre_1 Post := by
  intro l hfl _ _ p e ha hc hk s m args below hf hA hF happ hP
  obtain ⟨hcalls, hrest, hpre⟩ := hP
  obtain ⟨-, -, -, hnamed, -, -, -, hat⟩ := (Spec.applies_iff hf).mp happ
  obtain ⟨hg, hn⟩ := and_e (Cond.before_iff.mp (show (Jvm.Cond.and given_1 narrow_1).before args s = true from hpre))
  obtain ⟨g5, g6⟩ := and_e hg
  obtain ⟨g7, g8⟩ := and_e g6
  obtain ⟨g9, g10⟩ := and_e g8
  obtain ⟨g11, g12⟩ := and_e g10
  obtain ⟨g13, g14⟩ := and_e g12
  obtain ⟨w0, w1, w2, w3, w4, rfl⟩ : ∃ w0 w1 w2 w3 w4 : Value, args = #[w0, w1, w2, w3, w4] := by
    have hs : args.size = 5 := by simpa [Cond.value, given_1] using g5
    obtain ⟨L⟩ := args
    match L, hs with
    | [w0, w1, w2, w3, w4], _ => exact ⟨w0, w1, w2, w3, w4, rfl⟩
  have hw := fun d (hd : d ∈ tables_1) => atoms_spec (ws := Jvm.Cond.code x code maxLocals ret :: tables_1) hat d (List.mem_cons_of_mem _ hd)
  have hfit : Fit s := fun {y c} hc i hi => by
    obtain ⟨ha, rfl⟩ := Array.getElem?_eq_some_iff.mp hc
    have q := List.all_eq_true.mp ((Array.all_eq_true_iff_forall_mem.mp hF) _ (Array.getElem_mem ha)) i (List.mem_range.mpr hi)
    simpa [Array.getElem?_eq_getElem hi] using q
  obtain ⟨hsets, hown0⟩ := atoms_of _ (rest_1_c_eq ▸ (show rest_1_c.before _ s = true from hrest))
  have hr0 := Cond.before_iff.mp hown0
  obtain ⟨i0, ei0⟩ := is_v g7
  obtain rfl : w0 = (.int i0) := Option.some.inj ei0
  obtain ⟨i1, ei1⟩ := is_v g9
  obtain rfl : w1 = (.int i1) := Option.some.inj ei1
  obtain ⟨i2, ei2⟩ := is_v g11
  obtain rfl : w2 = (.int i2) := Option.some.inj ei2
  obtain ⟨i3, ei3⟩ := is_v g13
  obtain rfl : w3 = (.int i3) := Option.some.inj ei3
  obtain ⟨i4, ei4⟩ := is_v g14
  obtain rfl : w4 = (.int i4) := Option.some.inj ei4
  have n5 := not_v (Cond.before_iff.mp (hsets _ (o_mG (i := 2) rfl)))
  obtain ⟨ics, ecs⟩ := is_v (Cond.before_iff.mp (hsets _ (o_mG (i := 1) rfl)))
  have S_CS : Sta s s.heap "java/lang/String" "COMPACT_STRINGS" "Z" (.int ics) := Sta.start ecs (Or.inl (hsets _ (o_mG (i := 0) rfl)))
  have hcs : ¬ (ics = (0 : Int32)) := gotF (Cond.eq_ints ecs (Term.int_eval (0))) n5
  have xassertionsDisabled := Cond.before_iff.mp (hsets _ (o_mG (i := 23) rfl))
  have S_assertionsDisabled := o_sti xassertionsDisabled (Or.inl (hsets _ (o_mG (i := 22) rfl)))
  have xHI_BYTE_SHIFT := Cond.before_iff.mp (hsets _ (o_mG (i := 26) rfl))
  have S_HI_BYTE_SHIFT := o_sti xHI_BYTE_SHIFT (Or.inl (hsets _ (o_mG (i := 25) rfl)))
  have xLO_BYTE_SHIFT := Cond.before_iff.mp (hsets _ (o_mG (i := 29) rfl))
  have S_LO_BYTE_SHIFT := o_sti xLO_BYTE_SHIFT (Or.inl (hsets _ (o_mG (i := 28) rfl)))
  obtain ⟨fm, evFM, hFM⟩ := isR_v (Cond.before_iff.mp (hsets _ (o_mG (i := 8) rfl)))
  have S_FM := Sta.start evFM (Or.inl (hsets _ (o_mG (i := 7) rfl)))
  have xDigitOnes := Cond.before_iff.mp (hsets _ (o_mG (i := 12) rfl))
  obtain ⟨aDigitOnes, evDigitOnes⟩ := exa_v xDigitOnes
  have S_DigitOnes := Sta.start evDigitOnes (Or.inl (hsets _ (o_mG (i := 11) rfl)))
  have D_DigitOnes := o_tabO evDigitOnes xDigitOnes (Cond.before_iff.mp (hsets _ (o_mG (i := 13) rfl))) (oV hw 20 rfl) (Cond.before_iff.mp (hsets _ (o_mG (i := 14) rfl)))
  have xDigitTens := Cond.before_iff.mp (hsets _ (o_mG (i := 17) rfl))
  obtain ⟨aDigitTens, evDigitTens⟩ := exa_v xDigitTens
  have S_DigitTens := Sta.start evDigitTens (Or.inl (hsets _ (o_mG (i := 16) rfl)))
  have D_DigitTens := o_tabT evDigitTens xDigitTens (Cond.before_iff.mp (hsets _ (o_mG (i := 18) rfl))) (oV hw 20 rfl) (Cond.before_iff.mp (hsets _ (o_mG (i := 19) rfl)))
  have hEL : EW s _ o_EL := (EW.cons (oV hw 117 rfl) (by simp) (EW.cons (oV hw 230 rfl) (by simp) EW.nil))
  have hCH : CHv s o_EL s.vm s.heap := CHv.start hEL (show ∀ q ∈ o_EL, Jvm.Lit.constHeld s q.1 q.2 from hcalls.1) (hsets _ (o_mG (i := 2) rfl)) (oV hw 20 rfl) (oV hw 3 rfl)
  obtain ⟨n, o, h1, h2, h3, _, L, rfl, ⟨rfl, N⟩, -, hq⟩ := o_rm0 l s _ hw tables_1 i0 i1 i2 i3 i4 ics fm aDigitOnes aDigitTens s.heap s.heap.size (Nat.le_refl _) ⟨S_CS, hcs, S_assertionsDisabled, S_HI_BYTE_SHIFT, S_LO_BYTE_SHIFT, S_FM, o_Rf.of hFM⟩ (Old.start s) ⟨S_DigitOnes, S_DigitTens, fun r hr => ⟨D_DigitOnes r hr, D_DigitTens r hr⟩⟩ p e ha hc hk s m _ below hf ((Spec.applies_iff_loose hf).mp happ).1 ⟨rfl, State.Warmed39.refl s, rfl, hCH⟩ trivial
  refine ⟨n, _, h1, h2, h3, hpost _ _ _ _ _ _ ⟨Cond.after_iff.mpr rfl, Cond.after_iff.mpr (eq_i res_at (Term.int_eval (1)) rfl), trivial⟩ ⟨hq.1, hq.2.1, hq.2.2.1, (hq.2.2.2.sift fun y hy => Or.inr (N y hy)).mono (by decide) (by decide)⟩⟩
theorem main_1_1 : Claimed_1_1 := comes_1 fun _ _ _ _ _ _ h hF => ⟨h.1, hF⟩
theorem main_1_2 : Claimed_1_2 := comes_1 fun _ _ _ _ _ _ h hF => ⟨h.2.1, hF⟩
end Jvm.Pilot.@@N@@
namespace Jvm.Pilot.@@N@@
open Jvm Jvm.ClassFile Sem Op Lib Jvm.Free Jvm.Stand Jvm.Pilot.@@N@@.Jvm.D
/-! MADE BY PROGRAM (witnessworld.py) out of the Statement's table words and the real class files: 29 classes; the members and pool entries that the words name. The judged class is class 1, her method 1. -/
namespace start1
open Jvm.ClassFile
def u (s : String) : CpInfo := .utf8 (stringToUtf16 s)
/-- a pool by its gaps: so many unusable entries, then the entry; so many at the end -/
def gap : Nat → List CpInfo → List CpInfo
  | 0, r => r
  | n + 1, r => .unusable :: gap n r
def poolList (es : List (Nat × CpInfo)) (last : Nat) : List CpInfo := es.foldr (fun e r => gap e.1 (e.2 :: r)) (gap last [])
def pool (es : List (Nat × CpInfo)) (last : Nat) : Array CpInfo := ⟨poolList es last⟩
def fileOf (pool : Array CpInfo) (this : Nat) (attrs : Array Attribute := #[]) (ms : Array MethodInfo := #[]) (fl : Nat := 33) (sup : Nat := 0) (ifs : Array Nat := #[]) (fds : Array FieldInfo := #[]) : ClassFile where
  minorVersion := 0
  majorVersion := 65
  constantPool := pool
  accessFlags := fl
  thisClass := this
  superClass := sup
  interfaces := ifs
  fields := fds
  methods := ms
  attributes := attrs
def plain (name : String) (sup : Option ClassId) : Class where
  name := name
  kind := .ordinary
  loader := none
  accessFlags := 33
  super := sup
  interfaces := #[]
  cf := none
  fields := #[]
  methods := #[]
  instanceTypes := #[]
  staticTypes := #[]
  resolved := #[]
  callSites := []
  init := .initialized
  statics := none
  mirror := none

def pool0 : Array CpInfo := pool [(5, u "<init>"), (0, u "()V"), (1, .class_ 10), (1, u "java/lang/Object")] 113

def k0c0 : Code := { maxStack := 0, maxLocals := 1, code := object_method_1_code, exceptionTable := #[], attributes := #[] }
def k0m0 : Method := { name := "<init>", desc := "()V", sig := { parameters := [], returnType := none }, accessFlags := 1, code := some k0c0 }
/-- java/lang/Object -/
def k0 : Class := { plain "java/lang/Object" none with
  accessFlags := 33
  interfaces := #[]
  cf := some (fileOf pool0 8 #[] #[{ accessFlags := 1, nameIndex := 5, descriptorIndex := 6, attributes := #[] }] 33 0 #[] #[])
  fields := #[]
  methods := #[k0m0]
  instanceTypes := #[]
  staticTypes := #[]
  resolved := Array.replicate 124 none
  statics := none }

def pool1 : Array CpInfo := pool [(2, .class_ 4), (1, u "java/lang/Object"), (0, u "<init>"), (0, u "()V"), (0, .integer 65535), (0, .class_ 9), (0, u "java/lang/String"), (0, .methodref 8 11), (0, .nameAndType 5 12), (0, u "([C)V"), (0, .class_ 14), (0, u "com/example/ferry/ferry/Endpoint"), (0, .methodref 13 16), (0, .nameAndType 5 17), (0, u "(Ljava/lang/String;I)V"), (0, .methodref 13 19), (0, .nameAndType 20 21), (0, u "toString"), (0, u "()Ljava/lang/String;"), (0, .methodref 23 24), (0, .class_ 25), (0, .nameAndType 26 27), (0, u "java/lang/Math"), (0, u "abs"), (0, u "(J)J"), (0, .methodref 29 30), (0, .class_ 31), (0, .nameAndType 32 33), (0, u "com/example/ferry/ferry/EndpointToStringPinLaw"), (0, u "digits"), (0, u "(J)I"), (0, .methodref 8 35), (0, .nameAndType 36 37), (0, u "length"), (0, u "()I"), (0, .methodref 8 39), (0, .nameAndType 40 41), (0, u "charAt"), (0, u "(I)C"), (0, .methodref 29 43), (0, .nameAndType 44 45), (0, u "at"), (0, u "(Ljava/lang/String;IIZJII)Z"), (0, .methodref 29 47), (0, .nameAndType 48 49), (0, u "pow10"), (0, u "(I)J"), (0, .long 10), (1, .long 100), (1, .long 1000), (1, .long 10000), (1, .long 100000), (1, .long 1000000), (1, .long 10000000), (1, .long 100000000), (1, .long 1000000000), (3, u "law"), (0, u "(IIIII)Z")] 5

def k1m0 : Method := { name := "<init>", desc := "()V", sig := { parameters := [], returnType := none }, accessFlags := 1, code := none }
def k1c1 : Code := { maxStack := 8, maxLocals := 22, code := code, exceptionTable := #[], attributes := #[] }
def k1m1 : Method := { name := "law", desc := "(IIIII)Z", sig := { parameters := [.int, .int, .int, .int, .int], returnType := some .boolean }, accessFlags := 9, code := some k1c1 }
def k1c2 : Code := { maxStack := 5, maxLocals := 12, code := method_3_code, exceptionTable := #[], attributes := #[] }
def k1m2 : Method := { name := "at", desc := "(Ljava/lang/String;IIZJII)Z", sig := { parameters := [(.object "java/lang/String"), .int, .int, .boolean, .long, .int, .int], returnType := some .boolean }, accessFlags := 10, code := some k1c2 }
def k1c3 : Code := { maxStack := 5, maxLocals := 2, code := method_4_code, exceptionTable := #[], attributes := #[] }
def k1m3 : Method := { name := "pow10", desc := "(I)J", sig := { parameters := [.int], returnType := some .long }, accessFlags := 10, code := some k1c3 }
def k1c4 : Code := { maxStack := 4, maxLocals := 2, code := method_5_code, exceptionTable := #[], attributes := #[] }
def k1m4 : Method := { name := "digits", desc := "(J)I", sig := { parameters := [.long], returnType := some .int }, accessFlags := 10, code := some k1c4 }
/-- com/example/ferry/ferry/EndpointToStringPinLaw -/
def k1 : Class := { plain "com/example/ferry/ferry/EndpointToStringPinLaw" (some 0) with
  accessFlags := 49
  interfaces := #[]
  cf := some (fileOf pool1 29 #[] #[{ accessFlags := 1, nameIndex := 5, descriptorIndex := 6, attributes := #[] }, { accessFlags := 9, nameIndex := 70, descriptorIndex := 71, attributes := #[] }, { accessFlags := 10, nameIndex := 44, descriptorIndex := 45, attributes := #[] }, { accessFlags := 10, nameIndex := 48, descriptorIndex := 49, attributes := #[] }, { accessFlags := 10, nameIndex := 32, descriptorIndex := 33, attributes := #[] }] 49 2 #[] #[])
  fields := #[]
  methods := #[k1m0, k1m1, k1m2, k1m3, k1m4]
  instanceTypes := #[]
  staticTypes := #[]
  resolved := Array.replicate 77 none
  statics := none }

def pool2 : Array CpInfo := pool [(1, .class_ 2), (0, u "java/io/Serializable"), (0, .class_ 4), (0, u "java/lang/Object")] 2

/-- java/io/Serializable -/
def k2 : Class := { plain "java/io/Serializable" (some 0) with
  accessFlags := 1537
  interfaces := #[]
  cf := some (fileOf pool2 1 #[] #[] 1537 3 #[] #[])
  fields := #[]
  methods := #[]
  instanceTypes := #[]
  staticTypes := #[]
  resolved := Array.replicate 7 none
  statics := none }

def pool3 : Array CpInfo := pool [(1, .class_ 2), (0, u "java/lang/Comparable"), (0, .class_ 4), (0, u "java/lang/Object")] 7

/-- java/lang/Comparable -/
def k3 : Class := { plain "java/lang/Comparable" (some 0) with
  accessFlags := 1537
  interfaces := #[]
  cf := some (fileOf pool3 1 #[] #[] 1537 3 #[] #[])
  fields := #[]
  methods := #[]
  instanceTypes := #[]
  staticTypes := #[]
  resolved := Array.replicate 12 none
  statics := none }

def pool4 : Array CpInfo := pool [(2, .class_ 4), (1, u "java/lang/CharSequence"), (42, .class_ 48), (0, u "java/lang/CharSequence$1CodePointIterator"), (10, .class_ 60), (0, u "java/lang/CharSequence$1CharIterator"), (5, .class_ 67), (0, u "java/lang/Object")] 63

/-- java/lang/CharSequence -/
def k4 : Class := { plain "java/lang/CharSequence" (some 0) with
  accessFlags := 1537
  interfaces := #[]
  cf := some (fileOf pool4 2 #[.nestMembers #[47, 59]] #[] 1537 66 #[] #[])
  fields := #[]
  methods := #[]
  instanceTypes := #[]
  staticTypes := #[]
  resolved := Array.replicate 131 none
  statics := none }

def pool5 : Array CpInfo := pool [(1, .class_ 2), (0, u "java/lang/constant/Constable"), (0, .class_ 4), (0, u "java/lang/Object")] 6

/-- java/lang/constant/Constable -/
def k5 : Class := { plain "java/lang/constant/Constable" (some 0) with
  accessFlags := 1537
  interfaces := #[]
  cf := some (fileOf pool5 1 #[] #[] 1537 3 #[] #[])
  fields := #[]
  methods := #[]
  instanceTypes := #[]
  staticTypes := #[]
  resolved := Array.replicate 11 none
  statics := none }

def pool6 : Array CpInfo := pool [(1, .class_ 2), (0, u "java/lang/constant/ConstantDesc"), (0, .class_ 4), (0, u "java/lang/Object")] 32

/-- java/lang/constant/ConstantDesc -/
def k6 : Class := { plain "java/lang/constant/ConstantDesc" (some 0) with
  accessFlags := 1537
  interfaces := #[]
  cf := some (fileOf pool6 1 #[] #[] 1537 3 #[] #[])
  fields := #[]
  methods := #[]
  instanceTypes := #[]
  staticTypes := #[]
  resolved := Array.replicate 37 none
  statics := none }

def pool7 : Array CpInfo := pool [(1, .methodref 2 3), (0, .class_ 4), (0, .nameAndType 5 6), (0, u "java/lang/Object"), (0, u "<init>"), (0, u "()V"), (0, .string 8), (0, u ""), (0, .fieldref 10 11), (0, .class_ 12), (0, .nameAndType 13 14), (0, u "java/lang/String"), (0, u "value"), (0, u "[B"), (0, .fieldref 10 16), (0, .nameAndType 17 18), (0, u "coder"), (0, u "B"), (2, u "hash"), (0, u "I"), (2, u "hashIsZero"), (0, u "Z"), (0, .methodref 10 28), (0, .nameAndType 5 29), (0, u "([CIILjava/lang/Void;)V"), (6, u "checkBoundsOffCount"), (0, u "(III)I"), (0, .fieldref 10 39), (0, .nameAndType 40 26), (0, u "COMPACT_STRINGS"), (1, .class_ 44), (1, u "java/lang/StringUTF16"), (0, u "compress"), (1, .methodref 42 48), (0, .nameAndType 49 50), (0, u "coderFromArrayLen"), (0, u "([BI)B"), (3, .methodref 55 56), (0, .class_ 57), (0, .nameAndType 58 59), (0, u "java/util/Arrays"), (0, u "copyOfRange"), (0, u "([BII)[B"), (46, .methodref 107 108), (0, .class_ 109), (0, .nameAndType 110 111), (0, u "java/lang/StringLatin1"), (0, u "inflate"), (0, u "([BI[BII)V"), (30, u "()Z"), (34, .methodref 42 178), (0, .nameAndType 45 179), (0, u "([CII)[B"), (13, .class_ 195), (1, u "java/lang/System"), (16, .methodref 193 213), (0, .nameAndType 214 215), (0, u "arraycopy"), (0, u "(Ljava/lang/Object;ILjava/lang/Object;II)V"), (118, u "()I"), (0, .methodref 10 336), (0, .nameAndType 17 337), (0, u "()B"), (2, u "()[B"), (22, u "([BI)C"), (27, u "(II)V"), (35, u "(I)C"), (61, .methodref 10 490), (0, .nameAndType 5 491), (0, u "(Ljava/lang/AbstractStringBuilder;Ljava/lang/Void;)V"), (0, .methodref 10 493), (0, .nameAndType 494 142), (0, u "isLatin1"), (0, .methodref 107 496), (0, .nameAndType 497 363), (0, u "charAt"), (0, .methodref 42 496), (2, u "checkIndex"), (4, .nameAndType 507 334), (0, u "length"), (5, u "checkFromToIndex"), (9, u "checkBoundsBeginEnd"), (0, u "(III)V"), (7, u "getBytes"), (16, .methodref 550 506), (0, .class_ 551), (0, u "java/lang/AbstractStringBuilder"), (0, .methodref 550 553), (0, .nameAndType 554 340), (0, u "getValue"), (20, .class_ 576), (0, u "java/lang/CharSequence"), (22, u "CASE_INSENSITIVE_ORDER"), (0, u "Ljava/util/Comparator;"), (220, u "([BIB)V"), (188, u "([C)V"), (36, .methodref 550 493), (0, .fieldref 550 1049), (0, .nameAndType 1050 26), (0, u "maybeLatin1"), (2, .fieldref 1054 1055), (0, .class_ 1056), (0, .nameAndType 1057 1058), (0, u "jdk/internal/util/Preconditions"), (0, u "SIOOBE_FORMATTER"), (0, u "Ljava/util/function/BiFunction;"), (0, .methodref 1054 1060), (0, .nameAndType 501 1061), (0, u "(IILjava/util/function/BiFunction;)I"), (0, .methodref 1054 1063), (0, .nameAndType 513 1064), (0, u "(IIILjava/util/function/BiFunction;)I"), (0, .methodref 1054 1066), (0, .nameAndType 1067 1064), (0, u "checkFromIndexSize"), (33, u "serialPersistentFields"), (0, u "[Ljava/io/ObjectStreamField;"), (0, .class_ 1104), (0, u "java/lang/String$CaseInsensitiveComparator"), (1, .class_ 1107), (0, u "java/io/Serializable"), (0, .class_ 1109), (0, u "java/lang/Comparable"), (0, .class_ 1111), (0, u "java/lang/constant/Constable"), (0, .class_ 1113), (0, u "java/lang/constant/ConstantDesc"), (2, u "serialVersionUID"), (0, u "J"), (3, u "REPL"), (0, u "C"), (2, u "LATIN1"), (1, u "UTF16"), (105, u "(Ljava/lang/StringBuilder;)V")] 217

def k7m0 : Method := { name := "<init>", desc := "()V", sig := { parameters := [], returnType := none }, accessFlags := 1, code := none }
def k7c1 : Code := { maxStack := 5, maxLocals := 2, code := jdk_42_method_3_code, exceptionTable := #[], attributes := #[] }
def k7m1 : Method := { name := "<init>", desc := "([C)V", sig := { parameters := [(.array .char)], returnType := none }, accessFlags := 1, code := some k7c1 }
def k7c2 : Code := { maxStack := 3, maxLocals := 2, code := jdk_42_method_53_code, exceptionTable := #[], attributes := #[] }
def k7m2 : Method := { name := "<init>", desc := "(Ljava/lang/StringBuilder;)V", sig := { parameters := [(.object "java/lang/StringBuilder")], returnType := none }, accessFlags := 1, code := some k7c2 }
def k7c3 : Code := { maxStack := 2, maxLocals := 1, code := jdk_42_method_54_code, exceptionTable := #[], attributes := #[] }
def k7m3 : Method := { name := "length", desc := "()I", sig := { parameters := [], returnType := some .int }, accessFlags := 1, code := some k7c3 }
def k7c4 : Code := { maxStack := 2, maxLocals := 2, code := jdk_42_method_56_code, exceptionTable := #[], attributes := #[] }
def k7m4 : Method := { name := "charAt", desc := "(I)C", sig := { parameters := [.int], returnType := some .char }, accessFlags := 1, code := some k7c4 }
def k7c5 : Code := { maxStack := 5, maxLocals := 4, code := jdk_42_method_147_code, exceptionTable := #[], attributes := #[] }
def k7m5 : Method := { name := "getBytes", desc := "([BIB)V", sig := { parameters := [(.array .byte), .int, .byte], returnType := none }, accessFlags := 0, code := some k7c5 }
def k7c6 : Code := { maxStack := 4, maxLocals := 6, code := jdk_42_method_149_code, exceptionTable := #[], attributes := #[] }
def k7m6 : Method := { name := "<init>", desc := "([CIILjava/lang/Void;)V", sig := { parameters := [(.array .char), .int, .int, (.object "java/lang/Void")], returnType := none }, accessFlags := 2, code := some k7c6 }
def k7c7 : Code := { maxStack := 5, maxLocals := 5, code := jdk_42_method_150_code, exceptionTable := #[], attributes := #[] }
def k7m7 : Method := { name := "<init>", desc := "(Ljava/lang/AbstractStringBuilder;Ljava/lang/Void;)V", sig := { parameters := [(.object "java/lang/AbstractStringBuilder"), (.object "java/lang/Void")], returnType := none }, accessFlags := 0, code := some k7c7 }
def k7c8 : Code := { maxStack := 1, maxLocals := 1, code := jdk_42_method_152_code, exceptionTable := #[], attributes := #[] }
def k7m8 : Method := { name := "coder", desc := "()B", sig := { parameters := [], returnType := some .byte }, accessFlags := 0, code := some k7c8 }
def k7c9 : Code := { maxStack := 1, maxLocals := 1, code := jdk_42_method_154_code, exceptionTable := #[], attributes := #[] }
def k7m9 : Method := { name := "isLatin1", desc := "()Z", sig := { parameters := [], returnType := some .boolean }, accessFlags := 0, code := some k7c9 }
def k7c10 : Code := { maxStack := 3, maxLocals := 2, code := jdk_42_method_155_code, exceptionTable := #[], attributes := #[] }
def k7m10 : Method := { name := "checkIndex", desc := "(II)V", sig := { parameters := [.int, .int], returnType := none }, accessFlags := 8, code := some k7c10 }
def k7c11 : Code := { maxStack := 4, maxLocals := 3, code := jdk_42_method_157_code, exceptionTable := #[], attributes := #[] }
def k7m11 : Method := { name := "checkBoundsOffCount", desc := "(III)I", sig := { parameters := [.int, .int, .int], returnType := some .int }, accessFlags := 8, code := some k7c11 }
def k7c12 : Code := { maxStack := 4, maxLocals := 3, code := jdk_42_method_158_code, exceptionTable := #[], attributes := #[] }
def k7m12 : Method := { name := "checkBoundsBeginEnd", desc := "(III)V", sig := { parameters := [.int, .int, .int], returnType := none }, accessFlags := 8, code := some k7c12 }
/-- java/lang/String -/
def k7 : Class := { plain "java/lang/String" (some 0) with
  accessFlags := 49
  interfaces := #[2, 3, 4, 5, 6]
  cf := some (fileOf pool7 10 #[.nestMembers #[1103]] #[{ accessFlags := 1, nameIndex := 5, descriptorIndex := 6, attributes := #[] }, { accessFlags := 1, nameIndex := 5, descriptorIndex := 1010, attributes := #[] }, { accessFlags := 1, nameIndex := 5, descriptorIndex := 1233, attributes := #[] }, { accessFlags := 1, nameIndex := 507, descriptorIndex := 334, attributes := #[] }, { accessFlags := 1, nameIndex := 497, descriptorIndex := 427, attributes := #[] }, { accessFlags := 0, nameIndex := 532, descriptorIndex := 821, attributes := #[] }, { accessFlags := 2, nameIndex := 5, descriptorIndex := 29, attributes := #[] }, { accessFlags := 0, nameIndex := 5, descriptorIndex := 491, attributes := #[] }, { accessFlags := 0, nameIndex := 17, descriptorIndex := 337, attributes := #[] }, { accessFlags := 0, nameIndex := 494, descriptorIndex := 142, attributes := #[] }, { accessFlags := 8, nameIndex := 501, descriptorIndex := 391, attributes := #[] }, { accessFlags := 8, nameIndex := 36, descriptorIndex := 37, attributes := #[] }, { accessFlags := 8, nameIndex := 523, descriptorIndex := 524, attributes := #[] }] 49 2 #[1106, 1108, 575, 1110, 1112] #[{ accessFlags := 18, nameIndex := 13, descriptorIndex := 14, attributes := #[] }, { accessFlags := 18, nameIndex := 17, descriptorIndex := 18, attributes := #[] }, { accessFlags := 2, nameIndex := 21, descriptorIndex := 22, attributes := #[] }, { accessFlags := 2, nameIndex := 25, descriptorIndex := 26, attributes := #[] }, { accessFlags := 26, nameIndex := 1116, descriptorIndex := 1117, attributes := #[] }, { accessFlags := 24, nameIndex := 40, descriptorIndex := 26, attributes := #[] }, { accessFlags := 26, nameIndex := 1101, descriptorIndex := 1102, attributes := #[] }, { accessFlags := 26, nameIndex := 1121, descriptorIndex := 1122, attributes := #[] }, { accessFlags := 25, nameIndex := 599, descriptorIndex := 600, attributes := #[] }, { accessFlags := 24, nameIndex := 1125, descriptorIndex := 18, attributes := #[] }, { accessFlags := 24, nameIndex := 1127, descriptorIndex := 18, attributes := #[] }])
  fields := #[{ name := "value", type := (.array .byte), accessFlags := 18, slot := 0, constantValue := 0 }, { name := "coder", type := .byte, accessFlags := 18, slot := 1, constantValue := 0 }, { name := "hash", type := .int, accessFlags := 2, slot := 2, constantValue := 0 }, { name := "hashIsZero", type := .boolean, accessFlags := 2, slot := 3, constantValue := 0 }, { name := "serialVersionUID", type := .long, accessFlags := 26, slot := 0, constantValue := 0 }, { name := "COMPACT_STRINGS", type := .boolean, accessFlags := 24, slot := 1, constantValue := 0 }, { name := "serialPersistentFields", type := (.array (.object "java/io/ObjectStreamField")), accessFlags := 26, slot := 2, constantValue := 0 }, { name := "REPL", type := .char, accessFlags := 26, slot := 3, constantValue := 0 }, { name := "CASE_INSENSITIVE_ORDER", type := (.object "java/util/Comparator"), accessFlags := 25, slot := 4, constantValue := 0 }, { name := "LATIN1", type := .byte, accessFlags := 24, slot := 5, constantValue := 0 }, { name := "UTF16", type := .byte, accessFlags := 24, slot := 6, constantValue := 0 }]
  methods := #[k7m0, k7m1, k7m2, k7m3, k7m4, k7m5, k7m6, k7m7, k7m8, k7m9, k7m10, k7m11, k7m12]
  instanceTypes := #[(.array .byte), .byte, .int, .boolean]
  staticTypes := #[.long, .boolean, (.array (.object "java/io/ObjectStreamField")), .char, (.object "java/util/Comparator"), .byte, .byte]
  resolved := Array.replicate 1451 none
  statics := some 0 }

def pool8 : Array CpInfo := pool [(1, .class_ 2), (0, u "java/lang/Integer"), (0, .class_ 4), (0, u "java/lang/String"), (1, .class_ 8), (1, u "java/lang/Object"), (0, u "<init>"), (0, u "()V"), (0, .methodref 12 13), (0, .class_ 14), (0, .nameAndType 15 16), (0, u "java/lang/StringUTF16"), (0, u "newBytesLength"), (0, u "(I)I"), (3, .integer 1073741823), (23, .fieldref 12 45), (0, .nameAndType 46 47), (0, u "$assertionsDisabled"), (0, u "Z"), (0, .methodref 12 49), (0, .nameAndType 50 51), (0, u "length"), (0, u "([B)I"), (7, .fieldref 12 60), (0, .nameAndType 61 62), (0, u "HI_BYTE_SHIFT"), (0, u "I"), (0, .fieldref 12 64), (0, .nameAndType 65 62), (0, u "LO_BYTE_SHIFT"), (1, .methodref 12 68), (0, .nameAndType 69 70), (0, u "checkIndex"), (0, u "(I[B)V"), (0, .methodref 12 72), (0, .nameAndType 73 74), (0, u "getChar"), (0, u "([BI)C"), (21, .methodref 12 97), (0, .nameAndType 98 99), (0, u "checkBoundsBeginEnd"), (0, u "(II[B)V"), (5, u "getChars"), (1, .methodref 12 108), (0, .nameAndType 109 110), (0, u "newBytesFor"), (0, u "(I)[B"), (0, .methodref 12 112), (0, .nameAndType 113 114), (0, u "putChar"), (0, u "([BII)V"), (0, .methodref 12 116), (0, .nameAndType 117 118), (0, u "compress"), (0, u "([CI[BII)I"), (0, .methodref 12 120), (0, .nameAndType 121 122), (0, u "toBytes"), (0, u "([CII)[B"), (17, u "inflate"), (0, u "([BI[BII)V"), (31, .methodref 12 174), (0, .nameAndType 175 99), (0, u "checkBoundsOffCount"), (65, .methodref 3 242), (0, .nameAndType 98 243), (0, u "(III)V"), (17, u "coderFromArrayLen"), (0, u "([BI)B"), (18, u "(III)I"), (87, .class_ 371), (1, u "java/lang/StringUTF16$LinesSpliterator"), (20, u "charAt"), (0, .methodref 12 394), (0, .nameAndType 105 395), (0, u "(II[B)I"), (7, .fieldref 1 404), (0, .nameAndType 405 406), (0, u "DigitOnes"), (0, u "[B"), (0, .fieldref 1 408), (0, .nameAndType 409 406), (0, u "DigitTens"), (4, .methodref 3 415), (0, .nameAndType 69 416), (0, u "(II)V"), (2, .methodref 3 420), (0, .nameAndType 175 281), (9, u "MAX_LENGTH"), (164, u "(III[B)I"), (31, .class_ 628), (0, u "java/lang/StringUTF16$CodePointsSpliterator"), (0, .class_ 630), (0, u "java/lang/StringUTF16$CharsSpliterator")] 4

def k8m0 : Method := { name := "<init>", desc := "()V", sig := { parameters := [], returnType := none }, accessFlags := 0, code := none }
def k8c1 : Code := { maxStack := 1, maxLocals := 1, code := jdk_52_method_2_code, exceptionTable := #[], attributes := #[] }
def k8m1 : Method := { name := "newBytesFor", desc := "(I)[B", sig := { parameters := [.int], returnType := some (.array .byte) }, accessFlags := 9, code := some k8c1 }
def k8c2 : Code := { maxStack := 4, maxLocals := 1, code := jdk_52_method_3_code, exceptionTable := #[], attributes := #[] }
def k8m2 : Method := { name := "newBytesLength", desc := "(I)I", sig := { parameters := [.int], returnType := some .int }, accessFlags := 9, code := some k8c2 }
def k8c3 : Code := { maxStack := 4, maxLocals := 3, code := jdk_52_method_4_code, exceptionTable := #[], attributes := #[] }
def k8m3 : Method := { name := "putChar", desc := "([BII)V", sig := { parameters := [(.array .byte), .int, .int], returnType := none }, accessFlags := 8, code := some k8c3 }
def k8c4 : Code := { maxStack := 3, maxLocals := 2, code := jdk_52_method_5_code, exceptionTable := #[], attributes := #[] }
def k8m4 : Method := { name := "getChar", desc := "([BI)C", sig := { parameters := [(.array .byte), .int], returnType := some .char }, accessFlags := 8, code := some k8c4 }
def k8c5 : Code := { maxStack := 2, maxLocals := 1, code := jdk_52_method_6_code, exceptionTable := #[], attributes := #[] }
def k8m5 : Method := { name := "length", desc := "([B)I", sig := { parameters := [(.array .byte)], returnType := some .int }, accessFlags := 9, code := some k8c5 }
def k8c6 : Code := { maxStack := 4, maxLocals := 5, code := jdk_52_method_14_code, exceptionTable := #[], attributes := #[] }
def k8m6 : Method := { name := "toBytes", desc := "([CII)[B", sig := { parameters := [(.array .char), .int, .int], returnType := some (.array .byte) }, accessFlags := 9, code := some k8c6 }
def k8c7 : Code := { maxStack := 2, maxLocals := 2, code := jdk_52_method_15_code, exceptionTable := #[], attributes := #[] }
def k8m7 : Method := { name := "coderFromArrayLen", desc := "([BI)B", sig := { parameters := [(.array .byte), .int], returnType := some .byte }, accessFlags := 8, code := some k8c7 }
def k8c8 : Code := { maxStack := 5, maxLocals := 6, code := jdk_52_method_16_code, exceptionTable := #[], attributes := #[] }
def k8m8 : Method := { name := "compress", desc := "([CII)[B", sig := { parameters := [(.array .char), .int, .int], returnType := some (.array .byte) }, accessFlags := 9, code := some k8c8 }
def k8c9 : Code := { maxStack := 3, maxLocals := 7, code := jdk_52_method_21_code, exceptionTable := #[], attributes := #[] }
def k8m9 : Method := { name := "compress", desc := "([CI[BII)I", sig := { parameters := [(.array .char), .int, (.array .byte), .int, .int], returnType := some .int }, accessFlags := 9, code := some k8c9 }
def k8c10 : Code := { maxStack := 3, maxLocals := 5, code := jdk_52_method_77_code, exceptionTable := #[], attributes := #[] }
def k8m10 : Method := { name := "getChars", desc := "(III[B)I", sig := { parameters := [.int, .int, .int, (.array .byte)], returnType := some .int }, accessFlags := 9, code := some k8c10 }
def k8c11 : Code := { maxStack := 2, maxLocals := 2, code := jdk_52_method_83_code, exceptionTable := #[], attributes := #[] }
def k8m11 : Method := { name := "charAt", desc := "([BI)C", sig := { parameters := [(.array .byte), .int], returnType := some .char }, accessFlags := 9, code := some k8c11 }
def k8c12 : Code := { maxStack := 4, maxLocals := 6, code := jdk_52_method_86_code, exceptionTable := #[], attributes := #[] }
def k8m12 : Method := { name := "inflate", desc := "([BI[BII)V", sig := { parameters := [(.array .byte), .int, (.array .byte), .int, .int], returnType := none }, accessFlags := 9, code := some k8c12 }
def k8c13 : Code := { maxStack := 4, maxLocals := 7, code := jdk_52_method_89_code, exceptionTable := #[], attributes := #[] }
def k8m13 : Method := { name := "getChars", desc := "(II[B)I", sig := { parameters := [.int, .int, (.array .byte)], returnType := some .int }, accessFlags := 8, code := some k8c13 }
def k8c14 : Code := { maxStack := 2, maxLocals := 2, code := jdk_52_method_91_code, exceptionTable := #[], attributes := #[] }
def k8m14 : Method := { name := "checkIndex", desc := "(I[B)V", sig := { parameters := [.int, (.array .byte)], returnType := none }, accessFlags := 9, code := some k8c14 }
def k8c15 : Code := { maxStack := 3, maxLocals := 3, code := jdk_52_method_93_code, exceptionTable := #[], attributes := #[] }
def k8m15 : Method := { name := "checkBoundsBeginEnd", desc := "(II[B)V", sig := { parameters := [.int, .int, (.array .byte)], returnType := none }, accessFlags := 9, code := some k8c15 }
def k8c16 : Code := { maxStack := 3, maxLocals := 3, code := jdk_52_method_94_code, exceptionTable := #[], attributes := #[] }
def k8m16 : Method := { name := "checkBoundsOffCount", desc := "(II[B)V", sig := { parameters := [.int, .int, (.array .byte)], returnType := none }, accessFlags := 9, code := some k8c16 }
/-- java/lang/StringUTF16 -/
def k8 : Class := { plain "java/lang/StringUTF16" (some 0) with
  accessFlags := 48
  interfaces := #[]
  cf := some (fileOf pool8 12 #[.nestMembers #[627, 629, 369]] #[{ accessFlags := 0, nameIndex := 9, descriptorIndex := 10, attributes := #[] }, { accessFlags := 9, nameIndex := 109, descriptorIndex := 110, attributes := #[] }, { accessFlags := 9, nameIndex := 15, descriptorIndex := 16, attributes := #[] }, { accessFlags := 8, nameIndex := 113, descriptorIndex := 114, attributes := #[] }, { accessFlags := 8, nameIndex := 73, descriptorIndex := 74, attributes := #[] }, { accessFlags := 9, nameIndex := 50, descriptorIndex := 51, attributes := #[] }, { accessFlags := 9, nameIndex := 121, descriptorIndex := 122, attributes := #[] }, { accessFlags := 8, nameIndex := 261, descriptorIndex := 262, attributes := #[] }, { accessFlags := 9, nameIndex := 117, descriptorIndex := 122, attributes := #[] }, { accessFlags := 9, nameIndex := 117, descriptorIndex := 118, attributes := #[] }, { accessFlags := 9, nameIndex := 105, descriptorIndex := 595, attributes := #[] }, { accessFlags := 9, nameIndex := 392, descriptorIndex := 74, attributes := #[] }, { accessFlags := 9, nameIndex := 140, descriptorIndex := 141, attributes := #[] }, { accessFlags := 8, nameIndex := 105, descriptorIndex := 395, attributes := #[] }, { accessFlags := 9, nameIndex := 69, descriptorIndex := 70, attributes := #[] }, { accessFlags := 9, nameIndex := 98, descriptorIndex := 99, attributes := #[] }, { accessFlags := 9, nameIndex := 175, descriptorIndex := 99, attributes := #[] }] 48 6 #[] #[{ accessFlags := 26, nameIndex := 61, descriptorIndex := 62, attributes := #[] }, { accessFlags := 26, nameIndex := 65, descriptorIndex := 62, attributes := #[] }, { accessFlags := 24, nameIndex := 430, descriptorIndex := 62, attributes := #[] }, { accessFlags := 4120, nameIndex := 46, descriptorIndex := 47, attributes := #[] }])
  fields := #[{ name := "HI_BYTE_SHIFT", type := .int, accessFlags := 26, slot := 0, constantValue := 0 }, { name := "LO_BYTE_SHIFT", type := .int, accessFlags := 26, slot := 1, constantValue := 0 }, { name := "MAX_LENGTH", type := .int, accessFlags := 24, slot := 2, constantValue := 0 }, { name := "$assertionsDisabled", type := .boolean, accessFlags := 4120, slot := 3, constantValue := 0 }]
  methods := #[k8m0, k8m1, k8m2, k8m3, k8m4, k8m5, k8m6, k8m7, k8m8, k8m9, k8m10, k8m11, k8m12, k8m13, k8m14, k8m15, k8m16]
  instanceTypes := #[]
  staticTypes := #[.int, .int, .int, .boolean]
  resolved := Array.replicate 635 none
  statics := some 1 }

def pool9 : Array CpInfo := pool [(1, .methodref 2 3), (0, .class_ 4), (0, .nameAndType 5 6), (0, u "java/lang/Object"), (0, u "<init>"), (0, u "()V"), (0, .class_ 8), (0, u "java/lang/Record")] 13

def k9c0 : Code := { maxStack := 1, maxLocals := 1, code := jdk_30_method_1_code, exceptionTable := #[], attributes := #[] }
def k9m0 : Method := { name := "<init>", desc := "()V", sig := { parameters := [], returnType := none }, accessFlags := 4, code := some k9c0 }
/-- java/lang/Record -/
def k9 : Class := { plain "java/lang/Record" (some 0) with
  accessFlags := 1057
  interfaces := #[]
  cf := some (fileOf pool9 7 #[] #[{ accessFlags := 4, nameIndex := 5, descriptorIndex := 6, attributes := #[] }] 1057 2 #[] #[])
  fields := #[]
  methods := #[k9m0]
  instanceTypes := #[]
  staticTypes := #[]
  resolved := Array.replicate 22 none
  statics := none }

def pool10 : Array CpInfo := pool [(1, .methodref 2 3), (0, .class_ 4), (0, .nameAndType 5 6), (0, u "java/lang/Record"), (0, u "<init>"), (0, u "()V"), (0, .fieldref 8 9), (0, .class_ 10), (0, .nameAndType 11 12), (0, u "com/example/ferry/ferry/Endpoint"), (0, u "host"), (0, u "Ljava/lang/String;"), (0, .fieldref 8 14), (0, .nameAndType 15 16), (0, u "port"), (0, u "I"), (75, u "(Ljava/lang/String;I)V"), (44, u "()Ljava/lang/String;"), (8, .class_ 147), (0, u "java/lang/StringBuilder"), (0, .methodref 146 3), (0, .methodref 146 150), (0, .nameAndType 151 152), (0, u "append"), (0, u "(Ljava/lang/String;)Ljava/lang/StringBuilder;"), (2, .methodref 146 156), (0, .nameAndType 157 137), (0, u "toString"), (21, .string 180), (0, u ":"), (0, .methodref 146 182), (0, .nameAndType 151 183), (0, u "(I)Ljava/lang/StringBuilder;"), (8, u "MAX_PORT")] 46

def k10c0 : Code := { maxStack := 2, maxLocals := 3, code := prog_2_method_1_code, exceptionTable := #[], attributes := #[] }
def k10m0 : Method := { name := "<init>", desc := "(Ljava/lang/String;I)V", sig := { parameters := [(.object "java/lang/String"), .int], returnType := none }, accessFlags := 1, code := some k10c0 }
def k10c1 : Code := { maxStack := 2, maxLocals := 1, code := prog_2_method_9_code, exceptionTable := #[], attributes := #[] }
def k10m1 : Method := { name := "toString", desc := "()Ljava/lang/String;", sig := { parameters := [], returnType := some (.object "java/lang/String") }, accessFlags := 1, code := some k10c1 }
/-- com/example/ferry/ferry/Endpoint -/
def k10 : Class := { plain "com/example/ferry/ferry/Endpoint" (some 9) with
  accessFlags := 49
  interfaces := #[]
  cf := some (fileOf pool10 8 #[] #[{ accessFlags := 1, nameIndex := 5, descriptorIndex := 92, attributes := #[] }, { accessFlags := 1, nameIndex := 157, descriptorIndex := 137, attributes := #[] }] 49 2 #[] #[{ accessFlags := 18, nameIndex := 11, descriptorIndex := 12, attributes := #[] }, { accessFlags := 18, nameIndex := 15, descriptorIndex := 16, attributes := #[] }, { accessFlags := 26, nameIndex := 192, descriptorIndex := 16, attributes := #[] }])
  fields := #[{ name := "host", type := (.object "java/lang/String"), accessFlags := 18, slot := 0, constantValue := 0 }, { name := "port", type := .int, accessFlags := 18, slot := 1, constantValue := 0 }, { name := "MAX_PORT", type := .int, accessFlags := 26, slot := 0, constantValue := 0 }]
  methods := #[k10m0, k10m1]
  instanceTypes := #[(.object "java/lang/String"), .int]
  staticTypes := #[.int]
  resolved := Array.replicate 239 none
  statics := none }

def pool11 : Array CpInfo := pool [(1, .class_ 2), (0, u "java/lang/Appendable"), (0, .class_ 4), (0, u "java/lang/Object")] 9

/-- java/lang/Appendable -/
def k11 : Class := { plain "java/lang/Appendable" (some 0) with
  accessFlags := 1537
  interfaces := #[]
  cf := some (fileOf pool11 1 #[] #[] 1537 3 #[] #[])
  fields := #[]
  methods := #[]
  instanceTypes := #[]
  staticTypes := #[]
  resolved := Array.replicate 14 none
  statics := none }

def pool12 : Array CpInfo := pool [(1, .class_ 2), (0, u "java/lang/String"), (0, .methodref 4 5), (0, .class_ 6), (0, .nameAndType 7 8), (0, u "java/lang/Object"), (0, u "<init>"), (0, u "()V"), (1, .class_ 12), (1, u "java/lang/AbstractStringBuilder"), (0, u "EMPTYVALUE"), (0, u "[B"), (0, .fieldref 10 16), (0, .nameAndType 17 14), (0, u "value"), (0, .fieldref 1 19), (0, .nameAndType 20 21), (0, u "COMPACT_STRINGS"), (0, u "Z"), (0, .fieldref 10 23), (0, .nameAndType 24 25), (0, u "coder"), (0, u "B"), (0, .methodref 27 28), (0, .class_ 29), (0, .nameAndType 30 31), (0, u "java/lang/StringUTF16"), (0, u "newBytesFor"), (0, u "(I)[B"), (0, .methodref 1 33), (0, .nameAndType 34 35), (0, u "length"), (0, u "()I"), (0, .class_ 37), (0, u "java/lang/Integer"), (2, .methodref 1 41), (0, .nameAndType 24 42), (0, u "()B"), (2, u "append"), (0, u "(Ljava/lang/String;)Ljava/lang/AbstractStringBuilder;"), (1, .class_ 49), (0, u "java/lang/CharSequence"), (19, u "(Ljava/lang/String;)V"), (5, u "maybeLatin1"), (3, .fieldref 10 80), (0, .nameAndType 81 82), (0, u "count"), (0, u "I"), (0, .methodref 10 84), (0, .nameAndType 85 86), (0, u "isLatin1"), (0, u "()Z"), (1, .class_ 90), (1, u "java/lang/StringLatin1"), (9, .methodref 10 101), (0, .nameAndType 102 103), (0, u "ensureCapacityInternal"), (0, u "(I)V"), (3, u "(I)I"), (17, .methodref 88 126), (0, .nameAndType 127 128), (0, u "inflate"), (0, u "([BI[BII)V"), (59, u "getChars"), (6, .methodref 10 196), (0, .nameAndType 127 8), (11, .methodref 10 209), (0, .nameAndType 210 211), (0, u "putStringAt"), (0, u "(ILjava/lang/String;)V"), (5, u "inflateIfNeededFor"), (2, .nameAndType 221 222), (0, u "getBytes"), (0, u "([BIB)V"), (22, .methodref 36 246), (0, .nameAndType 247 107), (0, u "stringSize"), (0, .methodref 36 249), (0, .nameAndType 188 250), (0, u "(II[B)I"), (0, .methodref 27 252), (0, .nameAndType 188 253), (0, u "(III[B)I"), (143, .methodref 10 398), (0, .nameAndType 217 69), (0, .methodref 1 220), (3, u "()[B"), (40, .class_ 445), (0, u "java/lang/Appendable"), (65, u "(I)Ljava/lang/AbstractStringBuilder;"), (40, u "getValue")] 56

def k12m0 : Method := { name := "<init>", desc := "()V", sig := { parameters := [], returnType := none }, accessFlags := 0, code := none }
def k12c1 : Code := { maxStack := 2, maxLocals := 2, code := jdk_68_method_2_code, exceptionTable := #[], attributes := #[] }
def k12m1 : Method := { name := "<init>", desc := "(I)V", sig := { parameters := [.int], returnType := none }, accessFlags := 0, code := some k12c1 }
def k12c2 : Code := { maxStack := 1, maxLocals := 1, code := jdk_68_method_6_code, exceptionTable := #[], attributes := #[] }
def k12m2 : Method := { name := "length", desc := "()I", sig := { parameters := [], returnType := some .int }, accessFlags := 1, code := some k12c2 }
def k12c3 : Code := { maxStack := 4, maxLocals := 3, code := jdk_68_method_9_code, exceptionTable := #[], attributes := #[] }
def k12m3 : Method := { name := "ensureCapacityInternal", desc := "(I)V", sig := { parameters := [.int], returnType := none }, accessFlags := 2, code := some k12c3 }
def k12c4 : Code := { maxStack := 5, maxLocals := 2, code := jdk_68_method_11_code, exceptionTable := #[], attributes := #[] }
def k12m4 : Method := { name := "inflate", desc := "()V", sig := { parameters := [], returnType := none }, accessFlags := 2, code := some k12c4 }
def k12c5 : Code := { maxStack := 3, maxLocals := 3, code := jdk_68_method_22_code, exceptionTable := #[], attributes := #[] }
def k12m5 : Method := { name := "append", desc := "(Ljava/lang/String;)Ljava/lang/AbstractStringBuilder;", sig := { parameters := [(.object "java/lang/String")], returnType := some (.object "java/lang/AbstractStringBuilder") }, accessFlags := 1, code := some k12c5 }
def k12c6 : Code := { maxStack := 4, maxLocals := 4, code := jdk_68_method_32_code, exceptionTable := #[], attributes := #[] }
def k12m6 : Method := { name := "append", desc := "(I)Ljava/lang/AbstractStringBuilder;", sig := { parameters := [.int], returnType := some (.object "java/lang/AbstractStringBuilder") }, accessFlags := 1, code := some k12c6 }
def k12c7 : Code := { maxStack := 1, maxLocals := 1, code := jdk_68_method_64_code, exceptionTable := #[], attributes := #[] }
def k12m7 : Method := { name := "getValue", desc := "()[B", sig := { parameters := [], returnType := some (.array .byte) }, accessFlags := 16, code := some k12c7 }
def k12c8 : Code := { maxStack := 1, maxLocals := 1, code := jdk_68_method_68_code, exceptionTable := #[], attributes := #[] }
def k12m8 : Method := { name := "isLatin1", desc := "()Z", sig := { parameters := [], returnType := some .boolean }, accessFlags := 16, code := some k12c8 }
def k12c9 : Code := { maxStack := 2, maxLocals := 2, code := jdk_68_method_71_code, exceptionTable := #[], attributes := #[] }
def k12m9 : Method := { name := "inflateIfNeededFor", desc := "(Ljava/lang/String;)V", sig := { parameters := [(.object "java/lang/String")], returnType := none }, accessFlags := 2, code := some k12c9 }
def k12c10 : Code := { maxStack := 4, maxLocals := 3, code := jdk_68_method_73_code, exceptionTable := #[], attributes := #[] }
def k12m10 : Method := { name := "putStringAt", desc := "(ILjava/lang/String;)V", sig := { parameters := [.int, (.object "java/lang/String")], returnType := none }, accessFlags := 2, code := some k12c10 }
/-- java/lang/AbstractStringBuilder -/
def k12 : Class := { plain "java/lang/AbstractStringBuilder" (some 0) with
  accessFlags := 1056
  interfaces := #[11, 4]
  cf := some (fileOf pool12 10 #[] #[{ accessFlags := 0, nameIndex := 7, descriptorIndex := 8, attributes := #[] }, { accessFlags := 0, nameIndex := 7, descriptorIndex := 103, attributes := #[] }, { accessFlags := 1, nameIndex := 34, descriptorIndex := 35, attributes := #[] }, { accessFlags := 2, nameIndex := 102, descriptorIndex := 103, attributes := #[] }, { accessFlags := 2, nameIndex := 127, descriptorIndex := 8, attributes := #[] }, { accessFlags := 1, nameIndex := 45, descriptorIndex := 46, attributes := #[] }, { accessFlags := 1, nameIndex := 45, descriptorIndex := 511, attributes := #[] }, { accessFlags := 16, nameIndex := 552, descriptorIndex := 403, attributes := #[] }, { accessFlags := 16, nameIndex := 85, descriptorIndex := 86, attributes := #[] }, { accessFlags := 2, nameIndex := 217, descriptorIndex := 69, attributes := #[] }, { accessFlags := 2, nameIndex := 210, descriptorIndex := 211, attributes := #[] }] 1056 4 #[444, 48] #[{ accessFlags := 0, nameIndex := 17, descriptorIndex := 14, attributes := #[] }, { accessFlags := 0, nameIndex := 24, descriptorIndex := 25, attributes := #[] }, { accessFlags := 0, nameIndex := 75, descriptorIndex := 21, attributes := #[] }, { accessFlags := 0, nameIndex := 81, descriptorIndex := 82, attributes := #[] }, { accessFlags := 26, nameIndex := 13, descriptorIndex := 14, attributes := #[] }])
  fields := #[{ name := "value", type := (.array .byte), accessFlags := 0, slot := 0, constantValue := 0 }, { name := "coder", type := .byte, accessFlags := 0, slot := 1, constantValue := 0 }, { name := "maybeLatin1", type := .boolean, accessFlags := 0, slot := 2, constantValue := 0 }, { name := "count", type := .int, accessFlags := 0, slot := 3, constantValue := 0 }, { name := "EMPTYVALUE", type := (.array .byte), accessFlags := 26, slot := 0, constantValue := 0 }]
  methods := #[k12m0, k12m1, k12m2, k12m3, k12m4, k12m5, k12m6, k12m7, k12m8, k12m9, k12m10]
  instanceTypes := #[(.array .byte), .byte, .boolean, .int]
  staticTypes := #[(.array .byte)]
  resolved := Array.replicate 609 none
  statics := none }

def pool13 : Array CpInfo := pool [(1, .methodref 2 3), (0, .class_ 4), (0, .nameAndType 5 6), (0, u "java/lang/AbstractStringBuilder"), (0, u "<init>"), (0, u "(I)V"), (11, .class_ 20), (1, u "java/lang/String"), (3, .class_ 26), (1, u "java/lang/StringBuilder"), (0, u "append"), (0, u "(Ljava/lang/String;)Ljava/lang/StringBuilder;"), (0, .methodref 2 30), (0, .nameAndType 27 31), (0, u "(Ljava/lang/String;)Ljava/lang/AbstractStringBuilder;"), (21, .methodref 2 54), (0, .nameAndType 27 55), (0, u "(I)Ljava/lang/AbstractStringBuilder;"), (81, .methodref 18 138), (0, .nameAndType 5 139), (0, u "(Ljava/lang/StringBuilder;)V"), (5, u "()V"), (10, u "()I"), (111, u "(I)Ljava/lang/StringBuilder;"), (74, .methodref 2 344), (0, .nameAndType 345 156), (0, u "length"), (3, .class_ 350), (0, u "java/lang/Appendable"), (0, .class_ 352), (0, u "java/io/Serializable"), (0, .class_ 354), (0, u "java/lang/Comparable"), (0, .class_ 356), (0, u "java/lang/CharSequence"), (0, u "serialVersionUID"), (0, u "J"), (40, u "toString"), (0, u "()Ljava/lang/String;")] 21

def k13c0 : Code := { maxStack := 2, maxLocals := 1, code := jdk_67_method_1_code, exceptionTable := #[], attributes := #[] }
def k13m0 : Method := { name := "<init>", desc := "()V", sig := { parameters := [], returnType := none }, accessFlags := 1, code := some k13c0 }
def k13c1 : Code := { maxStack := 2, maxLocals := 2, code := jdk_67_method_7_code, exceptionTable := #[], attributes := #[] }
def k13m1 : Method := { name := "append", desc := "(Ljava/lang/String;)Ljava/lang/StringBuilder;", sig := { parameters := [(.object "java/lang/String")], returnType := some (.object "java/lang/StringBuilder") }, accessFlags := 1, code := some k13c1 }
def k13c2 : Code := { maxStack := 2, maxLocals := 2, code := jdk_67_method_15_code, exceptionTable := #[], attributes := #[] }
def k13m2 : Method := { name := "append", desc := "(I)Ljava/lang/StringBuilder;", sig := { parameters := [.int], returnType := some (.object "java/lang/StringBuilder") }, accessFlags := 1, code := some k13c2 }
def k13c3 : Code := { maxStack := 3, maxLocals := 1, code := jdk_67_method_42_code, exceptionTable := #[], attributes := #[] }
def k13m3 : Method := { name := "toString", desc := "()Ljava/lang/String;", sig := { parameters := [], returnType := some (.object "java/lang/String") }, accessFlags := 1, code := some k13c3 }
def k13c4 : Code := { maxStack := 1, maxLocals := 1, code := jdk_67_method_93_code, exceptionTable := #[], attributes := #[] }
def k13m4 : Method := { name := "length", desc := "()I", sig := { parameters := [], returnType := some .int }, accessFlags := 4161, code := some k13c4 }
/-- java/lang/StringBuilder -/
def k13 : Class := { plain "java/lang/StringBuilder" (some 12) with
  accessFlags := 49
  interfaces := #[11, 2, 3, 4]
  cf := some (fileOf pool13 24 #[] #[{ accessFlags := 1, nameIndex := 5, descriptorIndex := 145, attributes := #[] }, { accessFlags := 1, nameIndex := 27, descriptorIndex := 28, attributes := #[] }, { accessFlags := 1, nameIndex := 27, descriptorIndex := 268, attributes := #[] }, { accessFlags := 1, nameIndex := 399, descriptorIndex := 400, attributes := #[] }, { accessFlags := 4161, nameIndex := 345, descriptorIndex := 156, attributes := #[] }] 49 2 #[349, 351, 353, 355] #[{ accessFlags := 24, nameIndex := 357, descriptorIndex := 358, attributes := #[] }])
  fields := #[{ name := "serialVersionUID", type := .long, accessFlags := 24, slot := 0, constantValue := 0 }]
  methods := #[k13m0, k13m1, k13m2, k13m3, k13m4]
  instanceTypes := #[(.array .byte), .byte, .boolean, .int]
  staticTypes := #[.long]
  resolved := Array.replicate 422 none
  statics := none }

def pool14 : Array CpInfo := pool [(2, .class_ 4), (1, u "java/lang/Object"), (0, u "<init>"), (0, u "()V"), (1, .class_ 10), (1, u "java/lang/System"), (0, u "allowSecurityManager"), (0, u "I"), (16, u "cons"), (0, u "Ljava/io/Console;"), (77, .class_ 110), (1, u "java/lang/System$CallersHolder"), (43, u "initialErrStream"), (0, u "Ljava/io/PrintStream;"), (19, u "security"), (0, u "Ljava/lang/SecurityManager;"), (31, .class_ 209), (0, u "java/lang/System$1"), (7, u "props"), (0, u "Ljava/util/Properties;"), (2, u "lineSeparator"), (0, u "Ljava/lang/String;"), (96, .class_ 321), (1, u "java/lang/System$LoggerFinder"), (5, .class_ 328), (0, u "java/lang/System$Logger"), (67, u "err"), (2, u "out"), (91, u "notSupportedJnuEncoding"), (15, u "in"), (17, u "initialIn"), (0, u "Ljava/io/InputStream;"), (35, u "bootLayer"), (0, u "Ljava/lang/ModuleLayer;"), (99, .class_ 664), (0, u "java/lang/System$2"), (9, u "NEVER"), (2, u "MAYBE"), (49, u "arraycopy"), (0, u "(Ljava/lang/Object;ILjava/lang/Object;II)V"), (72, .class_ 802), (0, u "java/lang/System$Logger$Level")] 31

def k14m0 : Method := { name := "<init>", desc := "()V", sig := { parameters := [], returnType := none }, accessFlags := 2, code := none }
def k14m1 : Method := { name := "arraycopy", desc := "(Ljava/lang/Object;ILjava/lang/Object;II)V", sig := { parameters := [(.object "java/lang/Object"), .int, (.object "java/lang/Object"), .int, .int], returnType := none }, accessFlags := 265, code := none }
/-- java/lang/System -/
def k14 : Class := { plain "java/lang/System" (some 0) with
  accessFlags := 49
  interfaces := #[]
  cf := some (fileOf pool14 8 #[.nestMembers #[319, 327, 801, 108, 663, 208]] #[{ accessFlags := 2, nameIndex := 5, descriptorIndex := 6, attributes := #[] }, { accessFlags := 265, nameIndex := 727, descriptorIndex := 728, attributes := #[] }] 49 2 #[] #[{ accessFlags := 25, nameIndex := 507, descriptorIndex := 526, attributes := #[] }, { accessFlags := 25, nameIndex := 399, descriptorIndex := 155, attributes := #[] }, { accessFlags := 25, nameIndex := 396, descriptorIndex := 155, attributes := #[] }, { accessFlags := 10, nameIndex := 525, descriptorIndex := 526, attributes := #[] }, { accessFlags := 26, nameIndex := 674, descriptorIndex := 12, attributes := #[] }, { accessFlags := 26, nameIndex := 677, descriptorIndex := 12, attributes := #[] }, { accessFlags := 10, nameIndex := 11, descriptorIndex := 12, attributes := #[] }, { accessFlags := 74, nameIndex := 175, descriptorIndex := 176, attributes := #[] }, { accessFlags := 10, nameIndex := 491, descriptorIndex := 222, attributes := #[] }, { accessFlags := 74, nameIndex := 29, descriptorIndex := 30, attributes := #[] }, { accessFlags := 74, nameIndex := 154, descriptorIndex := 155, attributes := #[] }, { accessFlags := 10, nameIndex := 217, descriptorIndex := 218, attributes := #[] }, { accessFlags := 10, nameIndex := 221, descriptorIndex := 222, attributes := #[] }, { accessFlags := 8, nameIndex := 562, descriptorIndex := 563, attributes := #[] }])
  fields := #[{ name := "in", type := (.object "java/io/InputStream"), accessFlags := 25, slot := 0, constantValue := 0 }, { name := "out", type := (.object "java/io/PrintStream"), accessFlags := 25, slot := 1, constantValue := 0 }, { name := "err", type := (.object "java/io/PrintStream"), accessFlags := 25, slot := 2, constantValue := 0 }, { name := "initialIn", type := (.object "java/io/InputStream"), accessFlags := 10, slot := 3, constantValue := 0 }, { name := "NEVER", type := .int, accessFlags := 26, slot := 4, constantValue := 0 }, { name := "MAYBE", type := .int, accessFlags := 26, slot := 5, constantValue := 0 }, { name := "allowSecurityManager", type := .int, accessFlags := 10, slot := 6, constantValue := 0 }, { name := "security", type := (.object "java/lang/SecurityManager"), accessFlags := 74, slot := 7, constantValue := 0 }, { name := "notSupportedJnuEncoding", type := (.object "java/lang/String"), accessFlags := 10, slot := 8, constantValue := 0 }, { name := "cons", type := (.object "java/io/Console"), accessFlags := 74, slot := 9, constantValue := 0 }, { name := "initialErrStream", type := (.object "java/io/PrintStream"), accessFlags := 74, slot := 10, constantValue := 0 }, { name := "props", type := (.object "java/util/Properties"), accessFlags := 10, slot := 11, constantValue := 0 }, { name := "lineSeparator", type := (.object "java/lang/String"), accessFlags := 10, slot := 12, constantValue := 0 }, { name := "bootLayer", type := (.object "java/lang/ModuleLayer"), accessFlags := 8, slot := 13, constantValue := 0 }]
  methods := #[k14m0, k14m1]
  instanceTypes := #[]
  staticTypes := #[(.object "java/io/InputStream"), (.object "java/io/PrintStream"), (.object "java/io/PrintStream"), (.object "java/io/InputStream"), .int, .int, .int, (.object "java/lang/SecurityManager"), (.object "java/lang/String"), (.object "java/io/Console"), (.object "java/io/PrintStream"), (.object "java/util/Properties"), (.object "java/lang/String"), (.object "java/lang/ModuleLayer")]
  resolved := Array.replicate 834 none
  statics := none }

def pool15 : Array CpInfo := pool [(2, .class_ 4), (1, u "java/lang/Object"), (0, u "<init>"), (0, u "()V"), (1, .class_ 10), (1, u "java/lang/Number"), (2, .class_ 14), (0, u "java/io/Serializable"), (0, u "serialVersionUID"), (0, u "J")] 20

def k15m0 : Method := { name := "<init>", desc := "()V", sig := { parameters := [], returnType := none }, accessFlags := 1, code := none }
/-- java/lang/Number -/
def k15 : Class := { plain "java/lang/Number" (some 0) with
  accessFlags := 1057
  interfaces := #[2]
  cf := some (fileOf pool15 8 #[] #[{ accessFlags := 1, nameIndex := 5, descriptorIndex := 6, attributes := #[] }] 1057 2 #[13] #[{ accessFlags := 26, nameIndex := 15, descriptorIndex := 16, attributes := #[] }])
  fields := #[{ name := "serialVersionUID", type := .long, accessFlags := 26, slot := 0, constantValue := 0 }]
  methods := #[k15m0]
  instanceTypes := #[]
  staticTypes := #[.long]
  resolved := Array.replicate 37 none
  statics := none }

def pool16 : Array CpInfo := pool [(1, .class_ 2), (0, u "java/lang/Integer"), (16, u "digits"), (0, u "[C"), (33, u "(I)I"), (19, u "stringSize"), (2, u "getChars"), (0, u "(II[B)I"), (4, .fieldref 1 84), (0, .nameAndType 85 86), (0, u "DigitOnes"), (0, u "[B"), (0, .fieldref 1 88), (0, .nameAndType 89 86), (0, u "DigitTens"), (99, .class_ 190), (0, u "java/lang/Integer$IntegerCache"), (3, u "I"), (8, .class_ 204), (0, u "java/lang/Number"), (2, u "value"), (94, u "TYPE"), (0, u "Ljava/lang/Class;"), (0, .class_ 305), (0, u "java/lang/Comparable"), (0, .class_ 307), (0, u "java/lang/constant/Constable"), (0, .class_ 309), (0, u "java/lang/constant/ConstantDesc"), (0, u "MIN_VALUE"), (1, u "MAX_VALUE"), (3, u "SIZE"), (1, u "BYTES"), (1, u "serialVersionUID"), (0, u "J")] 131

def k16c0 : Code := { maxStack := 4, maxLocals := 7, code := jdk_33_method_12_code, exceptionTable := #[], attributes := #[] }
def k16m0 : Method := { name := "getChars", desc := "(II[B)I", sig := { parameters := [.int, .int, (.array .byte)], returnType := some .int }, accessFlags := 8, code := some k16c0 }
def k16c1 : Code := { maxStack := 2, maxLocals := 4, code := jdk_33_method_13_code, exceptionTable := #[], attributes := #[] }
def k16m1 : Method := { name := "stringSize", desc := "(I)I", sig := { parameters := [.int], returnType := some .int }, accessFlags := 8, code := some k16c1 }
/-- java/lang/Integer -/
def k16 : Class := { plain "java/lang/Integer" (some 15) with
  accessFlags := 49
  interfaces := #[3, 5, 6]
  cf := some (fileOf pool16 1 #[.nestMembers #[189]] #[{ accessFlags := 8, nameIndex := 77, descriptorIndex := 78, attributes := #[] }, { accessFlags := 8, nameIndex := 74, descriptorIndex := 54, attributes := #[] }] 49 203 #[304, 306, 308] #[{ accessFlags := 25, nameIndex := 310, descriptorIndex := 194, attributes := #[] }, { accessFlags := 25, nameIndex := 312, descriptorIndex := 194, attributes := #[] }, { accessFlags := 25, nameIndex := 302, descriptorIndex := 303, attributes := #[] }, { accessFlags := 24, nameIndex := 19, descriptorIndex := 20, attributes := #[] }, { accessFlags := 24, nameIndex := 89, descriptorIndex := 86, attributes := #[] }, { accessFlags := 24, nameIndex := 85, descriptorIndex := 86, attributes := #[] }, { accessFlags := 18, nameIndex := 207, descriptorIndex := 194, attributes := #[] }, { accessFlags := 25, nameIndex := 316, descriptorIndex := 194, attributes := #[] }, { accessFlags := 25, nameIndex := 318, descriptorIndex := 194, attributes := #[] }, { accessFlags := 26, nameIndex := 320, descriptorIndex := 321, attributes := #[] }])
  fields := #[{ name := "MIN_VALUE", type := .int, accessFlags := 25, slot := 0, constantValue := 0 }, { name := "MAX_VALUE", type := .int, accessFlags := 25, slot := 1, constantValue := 0 }, { name := "TYPE", type := (.object "java/lang/Class"), accessFlags := 25, slot := 2, constantValue := 0 }, { name := "digits", type := (.array .char), accessFlags := 24, slot := 3, constantValue := 0 }, { name := "DigitTens", type := (.array .byte), accessFlags := 24, slot := 4, constantValue := 0 }, { name := "DigitOnes", type := (.array .byte), accessFlags := 24, slot := 5, constantValue := 0 }, { name := "value", type := .int, accessFlags := 18, slot := 0, constantValue := 0 }, { name := "SIZE", type := .int, accessFlags := 25, slot := 6, constantValue := 0 }, { name := "BYTES", type := .int, accessFlags := 25, slot := 7, constantValue := 0 }, { name := "serialVersionUID", type := .long, accessFlags := 26, slot := 8, constantValue := 0 }]
  methods := #[k16m0, k16m1]
  instanceTypes := #[.int]
  staticTypes := #[.int, .int, (.object "java/lang/Class"), (.array .char), (.array .byte), (.array .byte), .int, .int, .long]
  resolved := Array.replicate 453 none
  statics := some 2 }

def pool17 : Array CpInfo := pool [(2, .class_ 4), (1, u "java/lang/Object"), (0, u "<init>"), (0, u "()V"), (7, .class_ 16), (1, u "java/util/Arrays"), (57, .class_ 76), (1, u "java/util/Arrays$NaturalOrder"), (36, .class_ 115), (1, u "java/util/Arrays$LegacyMergeSort"), (1, u "Z"), (21, u "copyOfRange"), (10, .methodref 151 152), (0, .class_ 153), (0, .nameAndType 154 155), (0, u "java/lang/System"), (0, u "arraycopy"), (0, u "(Ljava/lang/Object;ILjava/lang/Object;II)V"), (148, .methodref 305 306), (0, .class_ 307), (0, .nameAndType 308 309), (0, u "java/lang/Math"), (0, u "min"), (0, u "(II)I"), (29, .methodref 14 340), (0, .nameAndType 341 342), (0, u "copyOfRangeByte"), (0, u "([BII)[B"), (0, .methodref 14 344), (0, .nameAndType 345 346), (0, u "checkLength"), (0, u "(II)V"), (28, .class_ 376), (0, u "java/util/Arrays$ArrayList"), (68, u "$assertionsDisabled"), (269, u "MIN_ARRAY_SORT_GRAN"), (0, u "I"), (2, u "INSERTIONSORT_THRESHOLD"), (255, .class_ 976), (0, u "java/util/Arrays$ArrayItr")] 52

def k17m0 : Method := { name := "<init>", desc := "()V", sig := { parameters := [], returnType := none }, accessFlags := 2, code := none }
def k17c1 : Code := { maxStack := 4, maxLocals := 2, code := jdk_65_method_131_code, exceptionTable := #[], attributes := #[] }
def k17m1 : Method := { name := "checkLength", desc := "(II)V", sig := { parameters := [.int, .int], returnType := none }, accessFlags := 10, code := some k17c1 }
def k17c2 : Code := { maxStack := 3, maxLocals := 3, code := jdk_65_method_132_code, exceptionTable := #[], attributes := #[] }
def k17m2 : Method := { name := "copyOfRange", desc := "([BII)[B", sig := { parameters := [(.array .byte), .int, .int], returnType := some (.array .byte) }, accessFlags := 9, code := some k17c2 }
def k17c3 : Code := { maxStack := 6, maxLocals := 5, code := jdk_65_method_133_code, exceptionTable := #[], attributes := #[] }
def k17m3 : Method := { name := "copyOfRangeByte", desc := "([BII)[B", sig := { parameters := [(.array .byte), .int, .int], returnType := some (.array .byte) }, accessFlags := 10, code := some k17c3 }
/-- java/util/Arrays -/
def k17 : Class := { plain "java/util/Arrays" (some 0) with
  accessFlags := 49
  interfaces := #[]
  cf := some (fileOf pool17 14 #[.nestMembers #[975, 375, 113, 74]] #[{ accessFlags := 2, nameIndex := 5, descriptorIndex := 6, attributes := #[] }, { accessFlags := 10, nameIndex := 345, descriptorIndex := 346, attributes := #[] }, { accessFlags := 9, nameIndex := 139, descriptorIndex := 342, attributes := #[] }, { accessFlags := 10, nameIndex := 341, descriptorIndex := 342, attributes := #[] }] 49 2 #[] #[{ accessFlags := 26, nameIndex := 715, descriptorIndex := 716, attributes := #[] }, { accessFlags := 26, nameIndex := 719, descriptorIndex := 716, attributes := #[] }, { accessFlags := 4120, nameIndex := 445, descriptorIndex := 117, attributes := #[] }])
  fields := #[{ name := "MIN_ARRAY_SORT_GRAN", type := .int, accessFlags := 26, slot := 0, constantValue := 0 }, { name := "INSERTIONSORT_THRESHOLD", type := .int, accessFlags := 26, slot := 1, constantValue := 0 }, { name := "$assertionsDisabled", type := .boolean, accessFlags := 4120, slot := 2, constantValue := 0 }]
  methods := #[k17m0, k17m1, k17m2, k17m3]
  instanceTypes := #[]
  staticTypes := #[.int, .int, .boolean]
  resolved := Array.replicate 1029 none
  statics := none }

def pool18 : Array CpInfo := pool [(1, .class_ 2), (0, u "java/lang/Math"), (1, .class_ 6), (1, u "java/lang/Object"), (0, u "<init>"), (0, u "()V"), (89, .class_ 100), (1, u "java/lang/Math$RandomNumberGeneratorHolder"), (23, u "abs"), (0, u "(J)J"), (46, u "negativeZeroFloatBits"), (0, u "J"), (2, u "negativeZeroDoubleBits"), (24, u "min"), (43, u "$assertionsDisabled"), (0, u "Z"), (88, u "(II)I"), (2, u "twoToTheDoubleScaleDown"), (0, u "D"), (4, u "twoToTheDoubleScaleUp"), (9, u "E"), (3, u "PI"), (2, u "TAU"), (2, u "DEGREES_TO_RADIANS"), (0, u "RADIANS_TO_DEGREES")] 94

def k18m0 : Method := { name := "<init>", desc := "()V", sig := { parameters := [], returnType := none }, accessFlags := 2, code := none }
def k18c1 : Code := { maxStack := 4, maxLocals := 2, code := jdk_29_method_61_code, exceptionTable := #[], attributes := #[] }
def k18m1 : Method := { name := "abs", desc := "(J)J", sig := { parameters := [.long], returnType := some .long }, accessFlags := 9, code := some k18c1 }
def k18c2 : Code := { maxStack := 2, maxLocals := 2, code := jdk_29_method_69_code, exceptionTable := #[], attributes := #[] }
def k18m2 : Method := { name := "min", desc := "(II)I", sig := { parameters := [.int, .int], returnType := some .int }, accessFlags := 9, code := some k18c2 }
/-- java/lang/Math -/
def k18 : Class := { plain "java/lang/Math" (some 0) with
  accessFlags := 49
  interfaces := #[]
  cf := some (fileOf pool18 1 #[.nestMembers #[98]] #[{ accessFlags := 2, nameIndex := 7, descriptorIndex := 8, attributes := #[] }, { accessFlags := 9, nameIndex := 124, descriptorIndex := 125, attributes := #[] }, { accessFlags := 9, nameIndex := 201, descriptorIndex := 335, attributes := #[] }] 49 4 #[] #[{ accessFlags := 25, nameIndex := 354, descriptorIndex := 339, attributes := #[] }, { accessFlags := 25, nameIndex := 358, descriptorIndex := 339, attributes := #[] }, { accessFlags := 25, nameIndex := 361, descriptorIndex := 339, attributes := #[] }, { accessFlags := 26, nameIndex := 364, descriptorIndex := 339, attributes := #[] }, { accessFlags := 26, nameIndex := 365, descriptorIndex := 339, attributes := #[] }, { accessFlags := 26, nameIndex := 172, descriptorIndex := 173, attributes := #[] }, { accessFlags := 26, nameIndex := 176, descriptorIndex := 173, attributes := #[] }, { accessFlags := 8, nameIndex := 344, descriptorIndex := 339, attributes := #[] }, { accessFlags := 8, nameIndex := 338, descriptorIndex := 339, attributes := #[] }, { accessFlags := 4120, nameIndex := 245, descriptorIndex := 246, attributes := #[] }])
  fields := #[{ name := "E", type := .double, accessFlags := 25, slot := 0, constantValue := 0 }, { name := "PI", type := .double, accessFlags := 25, slot := 1, constantValue := 0 }, { name := "TAU", type := .double, accessFlags := 25, slot := 2, constantValue := 0 }, { name := "DEGREES_TO_RADIANS", type := .double, accessFlags := 26, slot := 3, constantValue := 0 }, { name := "RADIANS_TO_DEGREES", type := .double, accessFlags := 26, slot := 4, constantValue := 0 }, { name := "negativeZeroFloatBits", type := .long, accessFlags := 26, slot := 5, constantValue := 0 }, { name := "negativeZeroDoubleBits", type := .long, accessFlags := 26, slot := 6, constantValue := 0 }, { name := "twoToTheDoubleScaleUp", type := .double, accessFlags := 8, slot := 7, constantValue := 0 }, { name := "twoToTheDoubleScaleDown", type := .double, accessFlags := 8, slot := 8, constantValue := 0 }, { name := "$assertionsDisabled", type := .boolean, accessFlags := 4120, slot := 9, constantValue := 0 }]
  methods := #[k18m0, k18m1, k18m2]
  instanceTypes := #[]
  staticTypes := #[.double, .double, .double, .double, .double, .long, .long, .double, .double, .boolean]
  resolved := Array.replicate 460 none
  statics := none }

def pool19 : Array CpInfo := pool [(1, .class_ 2), (0, u "java/lang/String"), (1, .class_ 6), (1, u "java/lang/Object"), (0, u "<init>"), (0, u "()V"), (0, .methodref 1 10), (0, .nameAndType 11 12), (0, u "checkIndex"), (0, u "(II)V"), (1, .class_ 16), (1, u "java/lang/StringLatin1"), (0, u "inflate"), (2, .class_ 22), (1, u "java/lang/StringUTF16"), (3, .nameAndType 17 27), (0, u "([BI[BII)V"), (25, u "([BI)C"), (67, u "$assertionsDisabled"), (0, u "Z"), (98, .class_ 223), (1, u "java/lang/StringLatin1$LinesSpliterator"), (16, .methodref 20 26), (11, u "charAt"), (137, .class_ 391), (0, u "java/lang/StringLatin1$CharsSpliterator")] 3

def k19m0 : Method := { name := "<init>", desc := "()V", sig := { parameters := [], returnType := none }, accessFlags := 0, code := none }
def k19c1 : Code := { maxStack := 2, maxLocals := 2, code := jdk_43_method_2_code, exceptionTable := #[], attributes := #[] }
def k19m1 : Method := { name := "charAt", desc := "([BI)C", sig := { parameters := [(.array .byte), .int], returnType := some .char }, accessFlags := 9, code := some k19c1 }
def k19c2 : Code := { maxStack := 5, maxLocals := 5, code := jdk_43_method_50_code, exceptionTable := #[], attributes := #[] }
def k19m2 : Method := { name := "inflate", desc := "([BI[BII)V", sig := { parameters := [(.array .byte), .int, (.array .byte), .int, .int], returnType := none }, accessFlags := 9, code := some k19c2 }
/-- java/lang/StringLatin1 -/
def k19 : Class := { plain "java/lang/StringLatin1" (some 0) with
  accessFlags := 48
  interfaces := #[]
  cf := some (fileOf pool19 14 #[.nestMembers #[390, 221]] #[{ accessFlags := 0, nameIndex := 7, descriptorIndex := 8, attributes := #[] }, { accessFlags := 9, nameIndex := 252, descriptorIndex := 53, attributes := #[] }, { accessFlags := 9, nameIndex := 17, descriptorIndex := 27, attributes := #[] }] 48 4 #[] #[{ accessFlags := 4120, nameIndex := 121, descriptorIndex := 122, attributes := #[] }])
  fields := #[{ name := "$assertionsDisabled", type := .boolean, accessFlags := 4120, slot := 0, constantValue := 0 }]
  methods := #[k19m0, k19m1, k19m2]
  instanceTypes := #[]
  staticTypes := #[.boolean]
  resolved := Array.replicate 395 none
  statics := none }

def pool20 : Array CpInfo := pool [(2, .class_ 4), (1, u "java/lang/Object"), (0, u "<init>"), (0, u "()V"), (17, .class_ 26), (1, u "jdk/internal/util/Preconditions"), (6, u "checkIndex"), (13, u "checkFromToIndex"), (1, u "checkFromIndexSize"), (5, .class_ 56), (0, u "jdk/internal/util/Preconditions$4"), (57, .class_ 115), (0, u "jdk/internal/util/Preconditions$1"), (7, u "SIOOBE_FORMATTER"), (0, u "Ljava/util/function/BiFunction;"), (0, .class_ 126), (0, u "jdk/internal/util/Preconditions$2"), (3, u "AIOOBE_FORMATTER"), (0, .class_ 132), (0, u "jdk/internal/util/Preconditions$3"), (3, u "IOOBE_FORMATTER"), (41, u "(IILjava/util/function/BiFunction;)I"), (4, u "(IIILjava/util/function/BiFunction;)I")] 10

def k20m0 : Method := { name := "<init>", desc := "()V", sig := { parameters := [], returnType := none }, accessFlags := 1, code := none }
def k20c1 : Code := { maxStack := 3, maxLocals := 3, code := jdk_41_method_11_code, exceptionTable := #[], attributes := #[] }
def k20m1 : Method := { name := "checkIndex", desc := "(IILjava/util/function/BiFunction;)I", sig := { parameters := [.int, .int, (.object "java/util/function/BiFunction")], returnType := some .int }, accessFlags := 9, code := some k20c1 }
def k20c2 : Code := { maxStack := 4, maxLocals := 4, code := jdk_41_method_12_code, exceptionTable := #[], attributes := #[] }
def k20m2 : Method := { name := "checkFromToIndex", desc := "(IIILjava/util/function/BiFunction;)I", sig := { parameters := [.int, .int, .int, (.object "java/util/function/BiFunction")], returnType := some .int }, accessFlags := 9, code := some k20c2 }
def k20c3 : Code := { maxStack := 4, maxLocals := 4, code := jdk_41_method_13_code, exceptionTable := #[], attributes := #[] }
def k20m3 : Method := { name := "checkFromIndexSize", desc := "(IIILjava/util/function/BiFunction;)I", sig := { parameters := [.int, .int, .int, (.object "java/util/function/BiFunction")], returnType := some .int }, accessFlags := 9, code := some k20c3 }
/-- jdk/internal/util/Preconditions -/
def k20 : Class := { plain "jdk/internal/util/Preconditions" (some 0) with
  accessFlags := 33
  interfaces := #[]
  cf := some (fileOf pool20 24 #[.nestMembers #[55, 131, 125, 114]] #[{ accessFlags := 1, nameIndex := 5, descriptorIndex := 6, attributes := #[] }, { accessFlags := 9, nameIndex := 33, descriptorIndex := 178, attributes := #[] }, { accessFlags := 9, nameIndex := 47, descriptorIndex := 183, attributes := #[] }, { accessFlags := 9, nameIndex := 49, descriptorIndex := 183, attributes := #[] }] 33 2 #[] #[{ accessFlags := 25, nameIndex := 123, descriptorIndex := 124, attributes := #[] }, { accessFlags := 25, nameIndex := 130, descriptorIndex := 124, attributes := #[] }, { accessFlags := 25, nameIndex := 136, descriptorIndex := 124, attributes := #[] }])
  fields := #[{ name := "SIOOBE_FORMATTER", type := (.object "java/util/function/BiFunction"), accessFlags := 25, slot := 0, constantValue := 0 }, { name := "AIOOBE_FORMATTER", type := (.object "java/util/function/BiFunction"), accessFlags := 25, slot := 1, constantValue := 0 }, { name := "IOOBE_FORMATTER", type := (.object "java/util/function/BiFunction"), accessFlags := 25, slot := 2, constantValue := 0 }]
  methods := #[k20m0, k20m1, k20m2, k20m3]
  instanceTypes := #[]
  staticTypes := #[(.object "java/util/function/BiFunction"), (.object "java/util/function/BiFunction"), (.object "java/util/function/BiFunction")]
  resolved := Array.replicate 194 none
  statics := some 3 }

def pool21 : Array CpInfo := pool [(9, u "<init>"), (6, .class_ 18), (1, u "java/lang/Object"), (0, u "()V"), (1, .class_ 23), (1, u "jdk/internal/util/ArraysSupport"), (0, u "LOG2_ARRAY_LONG_INDEX_SCALE"), (0, u "I"), (2, u "U"), (0, u "Ljdk/internal/misc/Unsafe;"), (8, u "BIG_ENDIAN"), (0, u "Z"), (8, u "LOG2_BYTE_BIT_SIZE"), (4, u "LOG2_ARRAY_INT_INDEX_SCALE"), (54, u "JLA"), (0, u "Ljdk/internal/access/JavaLangAccess;"), (11, u "LOG2_ARRAY_BOOLEAN_INDEX_SCALE"), (9, u "LOG2_ARRAY_BYTE_INDEX_SCALE"), (5, u "LOG2_ARRAY_CHAR_INDEX_SCALE"), (5, u "LOG2_ARRAY_SHORT_INDEX_SCALE"), (18, u "LOG2_ARRAY_FLOAT_INDEX_SCALE"), (24, u "LOG2_ARRAY_DOUBLE_INDEX_SCALE"), (89, u "T_BOOLEAN"), (2, u "T_CHAR"), (1, u "T_FLOAT"), (1, u "T_DOUBLE"), (1, u "T_BYTE"), (1, u "T_SHORT"), (1, u "T_INT"), (1, u "T_LONG"), (1, u "SOFT_MAX_ARRAY_LENGTH")] 83

def k21m0 : Method := { name := "<init>", desc := "()V", sig := { parameters := [], returnType := none }, accessFlags := 2, code := none }
/-- jdk/internal/util/ArraysSupport -/
def k21 : Class := { plain "jdk/internal/util/ArraysSupport" (some 0) with
  accessFlags := 33
  interfaces := #[]
  cf := some (fileOf pool21 21 #[] #[{ accessFlags := 2, nameIndex := 9, descriptorIndex := 19, attributes := #[] }] 33 16 #[] #[{ accessFlags := 24, nameIndex := 28, descriptorIndex := 29, attributes := #[] }, { accessFlags := 26, nameIndex := 38, descriptorIndex := 39, attributes := #[] }, { accessFlags := 25, nameIndex := 121, descriptorIndex := 25, attributes := #[] }, { accessFlags := 25, nameIndex := 131, descriptorIndex := 25, attributes := #[] }, { accessFlags := 25, nameIndex := 137, descriptorIndex := 25, attributes := #[] }, { accessFlags := 25, nameIndex := 143, descriptorIndex := 25, attributes := #[] }, { accessFlags := 25, nameIndex := 53, descriptorIndex := 25, attributes := #[] }, { accessFlags := 25, nameIndex := 24, descriptorIndex := 25, attributes := #[] }, { accessFlags := 25, nameIndex := 162, descriptorIndex := 25, attributes := #[] }, { accessFlags := 25, nameIndex := 187, descriptorIndex := 25, attributes := #[] }, { accessFlags := 26, nameIndex := 48, descriptorIndex := 25, attributes := #[] }, { accessFlags := 25, nameIndex := 277, descriptorIndex := 25, attributes := #[] }, { accessFlags := 25, nameIndex := 280, descriptorIndex := 25, attributes := #[] }, { accessFlags := 25, nameIndex := 282, descriptorIndex := 25, attributes := #[] }, { accessFlags := 25, nameIndex := 284, descriptorIndex := 25, attributes := #[] }, { accessFlags := 25, nameIndex := 286, descriptorIndex := 25, attributes := #[] }, { accessFlags := 25, nameIndex := 288, descriptorIndex := 25, attributes := #[] }, { accessFlags := 25, nameIndex := 290, descriptorIndex := 25, attributes := #[] }, { accessFlags := 25, nameIndex := 292, descriptorIndex := 25, attributes := #[] }, { accessFlags := 26, nameIndex := 108, descriptorIndex := 109, attributes := #[] }, { accessFlags := 25, nameIndex := 294, descriptorIndex := 25, attributes := #[] }])
  fields := #[{ name := "U", type := (.object "jdk/internal/misc/Unsafe"), accessFlags := 24, slot := 0, constantValue := 0 }, { name := "BIG_ENDIAN", type := .boolean, accessFlags := 26, slot := 1, constantValue := 0 }, { name := "LOG2_ARRAY_BOOLEAN_INDEX_SCALE", type := .int, accessFlags := 25, slot := 2, constantValue := 0 }, { name := "LOG2_ARRAY_BYTE_INDEX_SCALE", type := .int, accessFlags := 25, slot := 3, constantValue := 0 }, { name := "LOG2_ARRAY_CHAR_INDEX_SCALE", type := .int, accessFlags := 25, slot := 4, constantValue := 0 }, { name := "LOG2_ARRAY_SHORT_INDEX_SCALE", type := .int, accessFlags := 25, slot := 5, constantValue := 0 }, { name := "LOG2_ARRAY_INT_INDEX_SCALE", type := .int, accessFlags := 25, slot := 6, constantValue := 0 }, { name := "LOG2_ARRAY_LONG_INDEX_SCALE", type := .int, accessFlags := 25, slot := 7, constantValue := 0 }, { name := "LOG2_ARRAY_FLOAT_INDEX_SCALE", type := .int, accessFlags := 25, slot := 8, constantValue := 0 }, { name := "LOG2_ARRAY_DOUBLE_INDEX_SCALE", type := .int, accessFlags := 25, slot := 9, constantValue := 0 }, { name := "LOG2_BYTE_BIT_SIZE", type := .int, accessFlags := 26, slot := 10, constantValue := 0 }, { name := "T_BOOLEAN", type := .int, accessFlags := 25, slot := 11, constantValue := 0 }, { name := "T_CHAR", type := .int, accessFlags := 25, slot := 12, constantValue := 0 }, { name := "T_FLOAT", type := .int, accessFlags := 25, slot := 13, constantValue := 0 }, { name := "T_DOUBLE", type := .int, accessFlags := 25, slot := 14, constantValue := 0 }, { name := "T_BYTE", type := .int, accessFlags := 25, slot := 15, constantValue := 0 }, { name := "T_SHORT", type := .int, accessFlags := 25, slot := 16, constantValue := 0 }, { name := "T_INT", type := .int, accessFlags := 25, slot := 17, constantValue := 0 }, { name := "T_LONG", type := .int, accessFlags := 25, slot := 18, constantValue := 0 }, { name := "JLA", type := (.object "jdk/internal/access/JavaLangAccess"), accessFlags := 26, slot := 19, constantValue := 0 }, { name := "SOFT_MAX_ARRAY_LENGTH", type := .int, accessFlags := 25, slot := 20, constantValue := 0 }]
  methods := #[k21m0]
  instanceTypes := #[]
  staticTypes := #[(.object "jdk/internal/misc/Unsafe"), .boolean, .int, .int, .int, .int, .int, .int, .int, .int, .int, .int, .int, .int, .int, .int, .int, .int, .int, (.object "jdk/internal/access/JavaLangAccess"), .int]
  resolved := Array.replicate 378 none
  statics := none }

def pool22 : Array CpInfo := pool [(1, u "java/lang/Cloneable"), (0, .class_ 1), (0, u "java/lang/Object"), (0, .class_ 3)] 3

/-- java/lang/Cloneable -/
def k22 : Class := { plain "java/lang/Cloneable" (some 0) with
  accessFlags := 1537
  interfaces := #[]
  cf := some (fileOf pool22 2 #[] #[] 1537 4 #[] #[])
  fields := #[]
  methods := #[]
  instanceTypes := #[]
  staticTypes := #[]
  resolved := Array.replicate 8 none
  statics := none }

/-- the primitive byte -/
def k23 : Class := { plain "byte" none with kind := .primitive 'B', accessFlags := 0x411 }
/-- [B -/
def k24 : Class := { plain "[B" (some 0) with kind := .array 23 .byte, interfaces := #[22, 2], accessFlags := 1041 }

/-- the primitive char -/
def k25 : Class := { plain "char" none with kind := .primitive 'C', accessFlags := 0x411 }
/-- [C -/
def k26 : Class := { plain "[C" (some 0) with kind := .array 25 .char, interfaces := #[22, 2], accessFlags := 1041 }

/-- the primitive long -/
def k27 : Class := { plain "long" none with kind := .primitive 'J', accessFlags := 0x411 }
/-- [J -/
def k28 : Class := { plain "[J" (some 0) with kind := .array 27 .long, interfaces := #[22, 2], accessFlags := 1041 }

def heap : Heap := #[{ cls := 7, slots := #[.long 0, .int 1, .null, .int 0, .null, .int 0, .int 0], vm := .statics 7 },
  { cls := 8, slots := #[.int 0, .int 8, .int 0, .int 1], vm := .statics 8 },
  { cls := 16, slots := #[.int 0, .int 0, .null, .null, .ref 5, .ref 4, .int 0, .int 0, .long 0], vm := .statics 16 },
  { cls := 20, slots := #[.null, .null, .null], vm := .statics 20 },
  { cls := 24, slots := #[.int 48, .int 49, .int 50, .int 51, .int 52, .int 53, .int 54, .int 55, .int 56, .int 57, .int 48, .int 49, .int 50, .int 51, .int 52, .int 53, .int 54, .int 55, .int 56, .int 57, .int 48, .int 49, .int 50, .int 51, .int 52, .int 53, .int 54, .int 55, .int 56, .int 57, .int 48, .int 49, .int 50, .int 51, .int 52, .int 53, .int 54, .int 55, .int 56, .int 57, .int 48, .int 49, .int 50, .int 51, .int 52, .int 53, .int 54, .int 55, .int 56, .int 57, .int 48, .int 49, .int 50, .int 51, .int 52, .int 53, .int 54, .int 55, .int 56, .int 57, .int 48, .int 49, .int 50, .int 51, .int 52, .int 53, .int 54, .int 55, .int 56, .int 57, .int 48, .int 49, .int 50, .int 51, .int 52, .int 53, .int 54, .int 55, .int 56, .int 57, .int 48, .int 49, .int 50, .int 51, .int 52, .int 53, .int 54, .int 55, .int 56, .int 57, .int 48, .int 49, .int 50, .int 51, .int 52, .int 53, .int 54, .int 55, .int 56, .int 57], vm := .none },
  { cls := 24, slots := #[.int 48, .int 48, .int 48, .int 48, .int 48, .int 48, .int 48, .int 48, .int 48, .int 48, .int 49, .int 49, .int 49, .int 49, .int 49, .int 49, .int 49, .int 49, .int 49, .int 49, .int 50, .int 50, .int 50, .int 50, .int 50, .int 50, .int 50, .int 50, .int 50, .int 50, .int 51, .int 51, .int 51, .int 51, .int 51, .int 51, .int 51, .int 51, .int 51, .int 51, .int 52, .int 52, .int 52, .int 52, .int 52, .int 52, .int 52, .int 52, .int 52, .int 52, .int 53, .int 53, .int 53, .int 53, .int 53, .int 53, .int 53, .int 53, .int 53, .int 53, .int 54, .int 54, .int 54, .int 54, .int 54, .int 54, .int 54, .int 54, .int 54, .int 54, .int 55, .int 55, .int 55, .int 55, .int 55, .int 55, .int 55, .int 55, .int 55, .int 55, .int 56, .int 56, .int 56, .int 56, .int 56, .int 56, .int 56, .int 56, .int 56, .int 56, .int 57, .int 57, .int 57, .int 57, .int 57, .int 57, .int 57, .int 57, .int 57, .int 57], vm := .none }]
def classes : Array Class := #[k0, k1, k2, k3, k4, k5, k6, k7, k8, k9, k10, k11, k12, k13, k14, k15, k16, k17, k18, k19, k20, k21, k22, k23, k24, k25, k26, k27, k28]
def interned : List (Array UInt16 × Addr) := []
def slotsUsed : Nat := 223
def theMethod : MethodId := ⟨1, 1⟩
def args0 : Array Value := #[.int 1, .int 5, .int 7, .int 9, .int 11]
def aboutOver (below : List Frame) : State where
  vm := { classes := classes, interned := interned.toArray }
  heap := heap
  slotsUsed := slotsUsed
  threads := #[{ frames := .invoking theMethod args0 :: below }]
def below0 : List Frame := [.native { method := ⟨0, 0⟩, args := #[] }]
def about1 : State := aboutOver below0
def p0 : Program := .bare "" "" ""
def e0 : Env := launch0.env 0 0 0
theorem w_frames : about1.frames = Frame.invoking theMethod args0 :: below0 := rfl
set_option maxRecDepth 65536 in
theorem w_args : argsFit about1.vm theMethod args0 = true := by decide +kernel
set_option maxRecDepth 65536 in
theorem w_heap : heapFits about1 = true := by decide +kernel
set_option maxRecDepth 65536 in
theorem w_runnable : about1.curStatus? = some .runnable := by decide +kernel
set_option maxRecDepth 65536 in
theorem w_alone : about1.alone = true := by decide +kernel
set_option maxRecDepth 65536 in
theorem w_named : about1.methodNamed? x = some theMethod := by decide +kernel
set_option maxRecDepth 65536 in
theorem w_hears : about1.hears theMethod below0 = true := by decide +kernel
set_option maxRecDepth 65536 in
theorem w_ripe : about1.ripe theMethod args0 below0 = true := by decide +kernel
theorem w_running : about1.status = .running := rfl
set_option maxRecDepth 65536 in
theorem w_room : about1.hasRoom e0.platform room_1 = true :=
  launch0.hasRoom_least _ room_1 (by decide +kernel) (by decide +kernel) (by decide +kernel) (by decide +kernel) (by decide +kernel) (by decide +kernel)
theorem allAtoms_all (ts : List Jvm.Cond) (a : Array Jvm.Value) (st : Jvm.State) : (allAtoms ts).before a st = ts.all (fun c => c.before a st) := by
  induction ts with
  | nil => rfl
  | cons c t ih =>
    show (Jvm.Cond.and c (allAtoms t)).before a st = _
    rw [Jvm.Cond.before_and, ih, List.all_cons]
def words1 : List Jvm.Cond := Jvm.Cond.code x code maxLocals ret :: tables_1
/-- a 'code' word, met by the world's own term for the bytes: nothing is compared byte by byte -/
theorem code_word {y : MethodName} {bytes : ByteArray} {mx : Nat} {rt : Option FieldType} {a : Array Value} {s : State} {m : MethodId} {meth : Method} {c : Code} (h1 : s.methodNamed? y = some m) (h2 : s.vm.method? m = some meth) (h3 : meth.code = some c) (h4 : c.code = bytes)
    (h5 : (c.maxLocals == mx && c.exceptionTable.isEmpty && decide (c.maxStack ≤ mostOperands) && decide (meth.sig.returnType = rt) && !meth.locks && decide (parseMethodDescriptor y.desc = some meth.sig)) = true) : (Jvm.Cond.code y bytes mx rt).before a s = true := by
  simp only [Bool.and_eq_true, beq_iff_eq, Bool.not_eq_true', decide_eq_true_eq] at h5
  obtain ⟨⟨⟨⟨⟨g1, g2⟩, g3⟩, g4⟩, g5⟩, g6⟩ := h5
  simp [Cond.before, Cond.holds, Cond.value, h1, h2, h3, h4, g1, g2, g3, g4, g5, g6]
def isCode : Jvm.Cond → Bool
  | .code _ _ _ _ => true
  | _ => false
theorem all_split {L : List Jvm.Cond} {P : Jvm.Cond → Bool} (h1 : L.all (fun c => isCode c || P c) = true) (h2 : ∀ c ∈ L.filter isCode, P c = true) : L.all P = true := by
  refine List.all_eq_true.mpr fun c hc => ?_
  have h := List.all_eq_true.mp h1 c hc
  rcases Bool.eq_false_or_eq_true (isCode c) with hi | hi
  · exact h2 c (List.mem_filter.mpr ⟨hc, hi⟩)
  · simpa [hi] using h
set_option maxRecDepth 65536 in
theorem w_c0 : (Jvm.Cond.code x code maxLocals ret).before args0 about1 = true := code_word (m := ⟨1, 1⟩) (meth := k1m1) (c := k1c1) (by decide +kernel) rfl rfl rfl (by decide +kernel)
set_option maxRecDepth 65536 in
theorem w_c1 : (Jvm.Cond.code ({ cls := "java/lang/String", name := "<init>", desc := "([C)V" } : Jvm.MethodName) jdk_42_method_3_code (2 : Nat) (Option.none : Option Jvm.ClassFile.FieldType)).before args0 about1 = true := code_word (m := ⟨7, 1⟩) (meth := k7m1) (c := k7c1) (by decide +kernel) rfl rfl rfl (by decide +kernel)
set_option maxRecDepth 65536 in
theorem w_c2 : (Jvm.Cond.code ({ cls := "java/lang/String", name := "<init>", desc := "([CIILjava/lang/Void;)V" } : Jvm.MethodName) jdk_42_method_149_code (6 : Nat) (Option.none : Option Jvm.ClassFile.FieldType)).before args0 about1 = true := code_word (m := ⟨7, 6⟩) (meth := k7m6) (c := k7c6) (by decide +kernel) rfl rfl rfl (by decide +kernel)
set_option maxRecDepth 65536 in
theorem w_c3 : (Jvm.Cond.code ({ cls := "java/lang/Object", name := "<init>", desc := "()V" } : Jvm.MethodName) object_method_1_code (1 : Nat) (Option.none : Option Jvm.ClassFile.FieldType)).before args0 about1 = true := code_word (m := ⟨0, 0⟩) (meth := k0m0) (c := k0c0) (by decide +kernel) rfl rfl rfl (by decide +kernel)
set_option maxRecDepth 65536 in
theorem w_c4 : (Jvm.Cond.code ({ cls := "java/lang/StringUTF16", name := "compress", desc := "([CII)[B" } : Jvm.MethodName) jdk_52_method_16_code (6 : Nat) (Option.some (Jvm.ClassFile.FieldType.array Jvm.ClassFile.FieldType.byte))).before args0 about1 = true := code_word (m := ⟨8, 8⟩) (meth := k8m8) (c := k8c8) (by decide +kernel) rfl rfl rfl (by decide +kernel)
set_option maxRecDepth 65536 in
theorem w_c5 : (Jvm.Cond.code ({ cls := "java/lang/StringUTF16", name := "compress", desc := "([CI[BII)I" } : Jvm.MethodName) jdk_52_method_21_code (7 : Nat) (Option.some Jvm.ClassFile.FieldType.int)).before args0 about1 = true := code_word (m := ⟨8, 9⟩) (meth := k8m9) (c := k8c9) (by decide +kernel) rfl rfl rfl (by decide +kernel)
set_option maxRecDepth 65536 in
theorem w_c6 : (Jvm.Cond.code ({ cls := "java/lang/StringUTF16", name := "coderFromArrayLen", desc := "([BI)B" } : Jvm.MethodName) jdk_52_method_15_code (2 : Nat) (Option.some Jvm.ClassFile.FieldType.byte)).before args0 about1 = true := code_word (m := ⟨8, 7⟩) (meth := k8m7) (c := k8c7) (by decide +kernel) rfl rfl rfl (by decide +kernel)
set_option maxRecDepth 65536 in
theorem w_c7 : (Jvm.Cond.code ({ cls := "com/example/ferry/ferry/Endpoint", name := "<init>", desc := "(Ljava/lang/String;I)V" } : Jvm.MethodName) prog_2_method_1_code (3 : Nat) (Option.none : Option Jvm.ClassFile.FieldType)).before args0 about1 = true := code_word (m := ⟨10, 0⟩) (meth := k10m0) (c := k10c0) (by decide +kernel) rfl rfl rfl (by decide +kernel)
set_option maxRecDepth 65536 in
theorem w_c8 : (Jvm.Cond.code ({ cls := "java/lang/Record", name := "<init>", desc := "()V" } : Jvm.MethodName) jdk_30_method_1_code (1 : Nat) (Option.none : Option Jvm.ClassFile.FieldType)).before args0 about1 = true := code_word (m := ⟨9, 0⟩) (meth := k9m0) (c := k9c0) (by decide +kernel) rfl rfl rfl (by decide +kernel)
set_option maxRecDepth 65536 in
theorem w_c9 : (Jvm.Cond.code ({ cls := "com/example/ferry/ferry/Endpoint", name := "toString", desc := "()Ljava/lang/String;" } : Jvm.MethodName) prog_2_method_9_code (1 : Nat) (Option.some (Jvm.ClassFile.FieldType.object "java/lang/String"))).before args0 about1 = true := code_word (m := ⟨10, 1⟩) (meth := k10m1) (c := k10c1) (by decide +kernel) rfl rfl rfl (by decide +kernel)
set_option maxRecDepth 65536 in
theorem w_c10 : (Jvm.Cond.code ({ cls := "java/lang/StringBuilder", name := "<init>", desc := "()V" } : Jvm.MethodName) jdk_67_method_1_code (1 : Nat) (Option.none : Option Jvm.ClassFile.FieldType)).before args0 about1 = true := code_word (m := ⟨13, 0⟩) (meth := k13m0) (c := k13c0) (by decide +kernel) rfl rfl rfl (by decide +kernel)
set_option maxRecDepth 65536 in
theorem w_c11 : (Jvm.Cond.code ({ cls := "java/lang/AbstractStringBuilder", name := "<init>", desc := "(I)V" } : Jvm.MethodName) jdk_68_method_2_code (2 : Nat) (Option.none : Option Jvm.ClassFile.FieldType)).before args0 about1 = true := code_word (m := ⟨12, 1⟩) (meth := k12m1) (c := k12c1) (by decide +kernel) rfl rfl rfl (by decide +kernel)
set_option maxRecDepth 65536 in
theorem w_c12 : (Jvm.Cond.code ({ cls := "java/lang/StringBuilder", name := "append", desc := "(Ljava/lang/String;)Ljava/lang/StringBuilder;" } : Jvm.MethodName) jdk_67_method_7_code (2 : Nat) (Option.some (Jvm.ClassFile.FieldType.object "java/lang/StringBuilder"))).before args0 about1 = true := code_word (m := ⟨13, 1⟩) (meth := k13m1) (c := k13c1) (by decide +kernel) rfl rfl rfl (by decide +kernel)
set_option maxRecDepth 65536 in
theorem w_c13 : (Jvm.Cond.code ({ cls := "java/lang/AbstractStringBuilder", name := "append", desc := "(Ljava/lang/String;)Ljava/lang/AbstractStringBuilder;" } : Jvm.MethodName) jdk_68_method_22_code (3 : Nat) (Option.some (Jvm.ClassFile.FieldType.object "java/lang/AbstractStringBuilder"))).before args0 about1 = true := code_word (m := ⟨12, 5⟩) (meth := k12m5) (c := k12c5) (by decide +kernel) rfl rfl rfl (by decide +kernel)
set_option maxRecDepth 65536 in
theorem w_c14 : (Jvm.Cond.code ({ cls := "java/lang/String", name := "length", desc := "()I" } : Jvm.MethodName) jdk_42_method_54_code (1 : Nat) (Option.some Jvm.ClassFile.FieldType.int)).before args0 about1 = true := code_word (m := ⟨7, 3⟩) (meth := k7m3) (c := k7c3) (by decide +kernel) rfl rfl rfl (by decide +kernel)
set_option maxRecDepth 65536 in
theorem w_c15 : (Jvm.Cond.code ({ cls := "java/lang/String", name := "coder", desc := "()B" } : Jvm.MethodName) jdk_42_method_152_code (1 : Nat) (Option.some Jvm.ClassFile.FieldType.byte)).before args0 about1 = true := code_word (m := ⟨7, 8⟩) (meth := k7m8) (c := k7c8) (by decide +kernel) rfl rfl rfl (by decide +kernel)
set_option maxRecDepth 65536 in
theorem w_c16 : (Jvm.Cond.code ({ cls := "java/lang/AbstractStringBuilder", name := "ensureCapacityInternal", desc := "(I)V" } : Jvm.MethodName) jdk_68_method_9_code (3 : Nat) (Option.none : Option Jvm.ClassFile.FieldType)).before args0 about1 = true := code_word (m := ⟨12, 3⟩) (meth := k12m3) (c := k12c3) (by decide +kernel) rfl rfl rfl (by decide +kernel)
set_option maxRecDepth 65536 in
theorem w_c17 : (Jvm.Cond.code ({ cls := "java/lang/AbstractStringBuilder", name := "putStringAt", desc := "(ILjava/lang/String;)V" } : Jvm.MethodName) jdk_68_method_73_code (3 : Nat) (Option.none : Option Jvm.ClassFile.FieldType)).before args0 about1 = true := code_word (m := ⟨12, 10⟩) (meth := k12m10) (c := k12c10) (by decide +kernel) rfl rfl rfl (by decide +kernel)
set_option maxRecDepth 65536 in
theorem w_c18 : (Jvm.Cond.code ({ cls := "java/lang/AbstractStringBuilder", name := "inflateIfNeededFor", desc := "(Ljava/lang/String;)V" } : Jvm.MethodName) jdk_68_method_71_code (2 : Nat) (Option.none : Option Jvm.ClassFile.FieldType)).before args0 about1 = true := code_word (m := ⟨12, 9⟩) (meth := k12m9) (c := k12c9) (by decide +kernel) rfl rfl rfl (by decide +kernel)
set_option maxRecDepth 65536 in
theorem w_c19 : (Jvm.Cond.code ({ cls := "java/lang/String", name := "getBytes", desc := "([BIB)V" } : Jvm.MethodName) jdk_42_method_147_code (4 : Nat) (Option.none : Option Jvm.ClassFile.FieldType)).before args0 about1 = true := code_word (m := ⟨7, 5⟩) (meth := k7m5) (c := k7c5) (by decide +kernel) rfl rfl rfl (by decide +kernel)
set_option maxRecDepth 65536 in
theorem w_c20 : (Jvm.Cond.code ({ cls := "java/lang/StringBuilder", name := "append", desc := "(I)Ljava/lang/StringBuilder;" } : Jvm.MethodName) jdk_67_method_15_code (2 : Nat) (Option.some (Jvm.ClassFile.FieldType.object "java/lang/StringBuilder"))).before args0 about1 = true := code_word (m := ⟨13, 2⟩) (meth := k13m2) (c := k13c2) (by decide +kernel) rfl rfl rfl (by decide +kernel)
set_option maxRecDepth 65536 in
theorem w_c21 : (Jvm.Cond.code ({ cls := "java/lang/AbstractStringBuilder", name := "append", desc := "(I)Ljava/lang/AbstractStringBuilder;" } : Jvm.MethodName) jdk_68_method_32_code (4 : Nat) (Option.some (Jvm.ClassFile.FieldType.object "java/lang/AbstractStringBuilder"))).before args0 about1 = true := code_word (m := ⟨12, 6⟩) (meth := k12m6) (c := k12c6) (by decide +kernel) rfl rfl rfl (by decide +kernel)
set_option maxRecDepth 65536 in
theorem w_c22 : (Jvm.Cond.code ({ cls := "java/lang/Integer", name := "stringSize", desc := "(I)I" } : Jvm.MethodName) jdk_33_method_13_code (4 : Nat) (Option.some Jvm.ClassFile.FieldType.int)).before args0 about1 = true := code_word (m := ⟨16, 1⟩) (meth := k16m1) (c := k16c1) (by decide +kernel) rfl rfl rfl (by decide +kernel)
set_option maxRecDepth 65536 in
theorem w_c23 : (Jvm.Cond.code ({ cls := "java/lang/AbstractStringBuilder", name := "isLatin1", desc := "()Z" } : Jvm.MethodName) jdk_68_method_68_code (1 : Nat) (Option.some Jvm.ClassFile.FieldType.boolean)).before args0 about1 = true := code_word (m := ⟨12, 8⟩) (meth := k12m8) (c := k12c8) (by decide +kernel) rfl rfl rfl (by decide +kernel)
set_option maxRecDepth 65536 in
theorem w_c24 : (Jvm.Cond.code ({ cls := "java/lang/Integer", name := "getChars", desc := "(II[B)I" } : Jvm.MethodName) jdk_33_method_12_code (7 : Nat) (Option.some Jvm.ClassFile.FieldType.int)).before args0 about1 = true := code_word (m := ⟨16, 0⟩) (meth := k16m0) (c := k16c0) (by decide +kernel) rfl rfl rfl (by decide +kernel)
set_option maxRecDepth 65536 in
theorem w_c25 : (Jvm.Cond.code ({ cls := "java/lang/StringBuilder", name := "toString", desc := "()Ljava/lang/String;" } : Jvm.MethodName) jdk_67_method_42_code (1 : Nat) (Option.some (Jvm.ClassFile.FieldType.object "java/lang/String"))).before args0 about1 = true := code_word (m := ⟨13, 3⟩) (meth := k13m3) (c := k13c3) (by decide +kernel) rfl rfl rfl (by decide +kernel)
set_option maxRecDepth 65536 in
theorem w_c26 : (Jvm.Cond.code ({ cls := "java/lang/String", name := "<init>", desc := "(Ljava/lang/StringBuilder;)V" } : Jvm.MethodName) jdk_42_method_53_code (2 : Nat) (Option.none : Option Jvm.ClassFile.FieldType)).before args0 about1 = true := code_word (m := ⟨7, 2⟩) (meth := k7m2) (c := k7c2) (by decide +kernel) rfl rfl rfl (by decide +kernel)
set_option maxRecDepth 65536 in
theorem w_c27 : (Jvm.Cond.code ({ cls := "java/lang/String", name := "<init>", desc := "(Ljava/lang/AbstractStringBuilder;Ljava/lang/Void;)V" } : Jvm.MethodName) jdk_42_method_150_code (5 : Nat) (Option.none : Option Jvm.ClassFile.FieldType)).before args0 about1 = true := code_word (m := ⟨7, 7⟩) (meth := k7m7) (c := k7c7) (by decide +kernel) rfl rfl rfl (by decide +kernel)
set_option maxRecDepth 65536 in
theorem w_c28 : (Jvm.Cond.code ({ cls := "java/lang/AbstractStringBuilder", name := "getValue", desc := "()[B" } : Jvm.MethodName) jdk_68_method_64_code (1 : Nat) (Option.some (Jvm.ClassFile.FieldType.array Jvm.ClassFile.FieldType.byte))).before args0 about1 = true := code_word (m := ⟨12, 7⟩) (meth := k12m7) (c := k12c7) (by decide +kernel) rfl rfl rfl (by decide +kernel)
set_option maxRecDepth 65536 in
theorem w_c29 : (Jvm.Cond.code ({ cls := "java/lang/StringBuilder", name := "length", desc := "()I" } : Jvm.MethodName) jdk_67_method_93_code (1 : Nat) (Option.some Jvm.ClassFile.FieldType.int)).before args0 about1 = true := code_word (m := ⟨13, 4⟩) (meth := k13m4) (c := k13c4) (by decide +kernel) rfl rfl rfl (by decide +kernel)
set_option maxRecDepth 65536 in
theorem w_c30 : (Jvm.Cond.code ({ cls := "java/lang/AbstractStringBuilder", name := "length", desc := "()I" } : Jvm.MethodName) jdk_68_method_6_code (1 : Nat) (Option.some Jvm.ClassFile.FieldType.int)).before args0 about1 = true := code_word (m := ⟨12, 2⟩) (meth := k12m2) (c := k12c2) (by decide +kernel) rfl rfl rfl (by decide +kernel)
set_option maxRecDepth 65536 in
theorem w_c31 : (Jvm.Cond.code ({ cls := "java/util/Arrays", name := "copyOfRange", desc := "([BII)[B" } : Jvm.MethodName) jdk_65_method_132_code (3 : Nat) (Option.some (Jvm.ClassFile.FieldType.array Jvm.ClassFile.FieldType.byte))).before args0 about1 = true := code_word (m := ⟨17, 2⟩) (meth := k17m2) (c := k17c2) (by decide +kernel) rfl rfl rfl (by decide +kernel)
set_option maxRecDepth 65536 in
theorem w_c32 : (Jvm.Cond.code ({ cls := "java/util/Arrays", name := "copyOfRangeByte", desc := "([BII)[B" } : Jvm.MethodName) jdk_65_method_133_code (5 : Nat) (Option.some (Jvm.ClassFile.FieldType.array Jvm.ClassFile.FieldType.byte))).before args0 about1 = true := code_word (m := ⟨17, 3⟩) (meth := k17m3) (c := k17c3) (by decide +kernel) rfl rfl rfl (by decide +kernel)
set_option maxRecDepth 65536 in
theorem w_c33 : (Jvm.Cond.code ({ cls := "java/util/Arrays", name := "checkLength", desc := "(II)V" } : Jvm.MethodName) jdk_65_method_131_code (2 : Nat) (Option.none : Option Jvm.ClassFile.FieldType)).before args0 about1 = true := code_word (m := ⟨17, 1⟩) (meth := k17m1) (c := k17c1) (by decide +kernel) rfl rfl rfl (by decide +kernel)
set_option maxRecDepth 65536 in
theorem w_c34 : (Jvm.Cond.code ({ cls := "java/lang/Math", name := "min", desc := "(II)I" } : Jvm.MethodName) jdk_29_method_69_code (2 : Nat) (Option.some Jvm.ClassFile.FieldType.int)).before args0 about1 = true := code_word (m := ⟨18, 2⟩) (meth := k18m2) (c := k18c2) (by decide +kernel) rfl rfl rfl (by decide +kernel)
set_option maxRecDepth 65536 in
theorem w_c35 : (Jvm.Cond.code ({ cls := "java/lang/Math", name := "abs", desc := "(J)J" } : Jvm.MethodName) jdk_29_method_61_code (2 : Nat) (Option.some Jvm.ClassFile.FieldType.long)).before args0 about1 = true := code_word (m := ⟨18, 1⟩) (meth := k18m1) (c := k18c1) (by decide +kernel) rfl rfl rfl (by decide +kernel)
set_option maxRecDepth 65536 in
theorem w_c36 : (Jvm.Cond.code ({ cls := "com/example/ferry/ferry/EndpointToStringPinLaw", name := "digits", desc := "(J)I" } : Jvm.MethodName) method_5_code (2 : Nat) (Option.some Jvm.ClassFile.FieldType.int)).before args0 about1 = true := code_word (m := ⟨1, 4⟩) (meth := k1m4) (c := k1c4) (by decide +kernel) rfl rfl rfl (by decide +kernel)
set_option maxRecDepth 65536 in
theorem w_c37 : (Jvm.Cond.code ({ cls := "java/lang/String", name := "charAt", desc := "(I)C" } : Jvm.MethodName) jdk_42_method_56_code (2 : Nat) (Option.some Jvm.ClassFile.FieldType.char)).before args0 about1 = true := code_word (m := ⟨7, 4⟩) (meth := k7m4) (c := k7c4) (by decide +kernel) rfl rfl rfl (by decide +kernel)
set_option maxRecDepth 65536 in
theorem w_c38 : (Jvm.Cond.code ({ cls := "java/lang/String", name := "isLatin1", desc := "()Z" } : Jvm.MethodName) jdk_42_method_154_code (1 : Nat) (Option.some Jvm.ClassFile.FieldType.boolean)).before args0 about1 = true := code_word (m := ⟨7, 9⟩) (meth := k7m9) (c := k7c9) (by decide +kernel) rfl rfl rfl (by decide +kernel)
set_option maxRecDepth 65536 in
theorem w_c39 : (Jvm.Cond.code ({ cls := "java/lang/StringLatin1", name := "charAt", desc := "([BI)C" } : Jvm.MethodName) jdk_43_method_2_code (2 : Nat) (Option.some Jvm.ClassFile.FieldType.char)).before args0 about1 = true := code_word (m := ⟨19, 1⟩) (meth := k19m1) (c := k19c1) (by decide +kernel) rfl rfl rfl (by decide +kernel)
set_option maxRecDepth 65536 in
theorem w_c40 : (Jvm.Cond.code ({ cls := "java/lang/String", name := "checkIndex", desc := "(II)V" } : Jvm.MethodName) jdk_42_method_155_code (2 : Nat) (Option.none : Option Jvm.ClassFile.FieldType)).before args0 about1 = true := code_word (m := ⟨7, 10⟩) (meth := k7m10) (c := k7c10) (by decide +kernel) rfl rfl rfl (by decide +kernel)
set_option maxRecDepth 65536 in
theorem w_c41 : (Jvm.Cond.code ({ cls := "jdk/internal/util/Preconditions", name := "checkIndex", desc := "(IILjava/util/function/BiFunction;)I" } : Jvm.MethodName) jdk_41_method_11_code (3 : Nat) (Option.some Jvm.ClassFile.FieldType.int)).before args0 about1 = true := code_word (m := ⟨20, 1⟩) (meth := k20m1) (c := k20c1) (by decide +kernel) rfl rfl rfl (by decide +kernel)
set_option maxRecDepth 65536 in
theorem w_c42 : (Jvm.Cond.code ({ cls := "com/example/ferry/ferry/EndpointToStringPinLaw", name := "at", desc := "(Ljava/lang/String;IIZJII)Z" } : Jvm.MethodName) method_3_code (12 : Nat) (Option.some Jvm.ClassFile.FieldType.boolean)).before args0 about1 = true := code_word (m := ⟨1, 2⟩) (meth := k1m2) (c := k1c2) (by decide +kernel) rfl rfl rfl (by decide +kernel)
set_option maxRecDepth 65536 in
theorem w_c43 : (Jvm.Cond.code ({ cls := "com/example/ferry/ferry/EndpointToStringPinLaw", name := "pow10", desc := "(I)J" } : Jvm.MethodName) method_4_code (2 : Nat) (Option.some Jvm.ClassFile.FieldType.long)).before args0 about1 = true := code_word (m := ⟨1, 3⟩) (meth := k1m3) (c := k1c3) (by decide +kernel) rfl rfl rfl (by decide +kernel)
set_option maxRecDepth 65536 in
theorem w_c44 : (Jvm.Cond.code ({ cls := "java/lang/StringUTF16", name := "toBytes", desc := "([CII)[B" } : Jvm.MethodName) jdk_52_method_14_code (5 : Nat) (Option.some (Jvm.ClassFile.FieldType.array Jvm.ClassFile.FieldType.byte))).before args0 about1 = true := code_word (m := ⟨8, 6⟩) (meth := k8m6) (c := k8c6) (by decide +kernel) rfl rfl rfl (by decide +kernel)
set_option maxRecDepth 65536 in
theorem w_c45 : (Jvm.Cond.code ({ cls := "java/lang/StringUTF16", name := "newBytesFor", desc := "(I)[B" } : Jvm.MethodName) jdk_52_method_2_code (1 : Nat) (Option.some (Jvm.ClassFile.FieldType.array Jvm.ClassFile.FieldType.byte))).before args0 about1 = true := code_word (m := ⟨8, 1⟩) (meth := k8m1) (c := k8c1) (by decide +kernel) rfl rfl rfl (by decide +kernel)
set_option maxRecDepth 65536 in
theorem w_c46 : (Jvm.Cond.code ({ cls := "java/lang/StringUTF16", name := "newBytesLength", desc := "(I)I" } : Jvm.MethodName) jdk_52_method_3_code (1 : Nat) (Option.some Jvm.ClassFile.FieldType.int)).before args0 about1 = true := code_word (m := ⟨8, 2⟩) (meth := k8m2) (c := k8c2) (by decide +kernel) rfl rfl rfl (by decide +kernel)
set_option maxRecDepth 65536 in
theorem w_c47 : (Jvm.Cond.code ({ cls := "java/lang/StringUTF16", name := "putChar", desc := "([BII)V" } : Jvm.MethodName) jdk_52_method_4_code (3 : Nat) (Option.none : Option Jvm.ClassFile.FieldType)).before args0 about1 = true := code_word (m := ⟨8, 3⟩) (meth := k8m3) (c := k8c3) (by decide +kernel) rfl rfl rfl (by decide +kernel)
set_option maxRecDepth 65536 in
theorem w_c48 : (Jvm.Cond.code ({ cls := "java/lang/StringUTF16", name := "getChar", desc := "([BI)C" } : Jvm.MethodName) jdk_52_method_5_code (2 : Nat) (Option.some Jvm.ClassFile.FieldType.char)).before args0 about1 = true := code_word (m := ⟨8, 4⟩) (meth := k8m4) (c := k8c4) (by decide +kernel) rfl rfl rfl (by decide +kernel)
set_option maxRecDepth 65536 in
theorem w_c49 : (Jvm.Cond.code ({ cls := "java/lang/AbstractStringBuilder", name := "inflate", desc := "()V" } : Jvm.MethodName) jdk_68_method_11_code (2 : Nat) (Option.none : Option Jvm.ClassFile.FieldType)).before args0 about1 = true := code_word (m := ⟨12, 4⟩) (meth := k12m4) (c := k12c4) (by decide +kernel) rfl rfl rfl (by decide +kernel)
set_option maxRecDepth 65536 in
theorem w_c50 : (Jvm.Cond.code ({ cls := "java/lang/StringLatin1", name := "inflate", desc := "([BI[BII)V" } : Jvm.MethodName) jdk_43_method_50_code (5 : Nat) (Option.none : Option Jvm.ClassFile.FieldType)).before args0 about1 = true := code_word (m := ⟨19, 2⟩) (meth := k19m2) (c := k19c2) (by decide +kernel) rfl rfl rfl (by decide +kernel)
set_option maxRecDepth 65536 in
theorem w_c51 : (Jvm.Cond.code ({ cls := "java/lang/StringUTF16", name := "inflate", desc := "([BI[BII)V" } : Jvm.MethodName) jdk_52_method_86_code (6 : Nat) (Option.none : Option Jvm.ClassFile.FieldType)).before args0 about1 = true := code_word (m := ⟨8, 12⟩) (meth := k8m12) (c := k8c12) (by decide +kernel) rfl rfl rfl (by decide +kernel)
set_option maxRecDepth 65536 in
theorem w_c52 : (Jvm.Cond.code ({ cls := "java/lang/StringUTF16", name := "checkBoundsOffCount", desc := "(II[B)V" } : Jvm.MethodName) jdk_52_method_94_code (3 : Nat) (Option.none : Option Jvm.ClassFile.FieldType)).before args0 about1 = true := code_word (m := ⟨8, 16⟩) (meth := k8m16) (c := k8c16) (by decide +kernel) rfl rfl rfl (by decide +kernel)
set_option maxRecDepth 65536 in
theorem w_c53 : (Jvm.Cond.code ({ cls := "java/lang/StringUTF16", name := "length", desc := "([B)I" } : Jvm.MethodName) jdk_52_method_6_code (1 : Nat) (Option.some Jvm.ClassFile.FieldType.int)).before args0 about1 = true := code_word (m := ⟨8, 5⟩) (meth := k8m5) (c := k8c5) (by decide +kernel) rfl rfl rfl (by decide +kernel)
set_option maxRecDepth 65536 in
theorem w_c54 : (Jvm.Cond.code ({ cls := "java/lang/String", name := "checkBoundsOffCount", desc := "(III)I" } : Jvm.MethodName) jdk_42_method_157_code (3 : Nat) (Option.some Jvm.ClassFile.FieldType.int)).before args0 about1 = true := code_word (m := ⟨7, 11⟩) (meth := k7m11) (c := k7c11) (by decide +kernel) rfl rfl rfl (by decide +kernel)
set_option maxRecDepth 65536 in
theorem w_c55 : (Jvm.Cond.code ({ cls := "jdk/internal/util/Preconditions", name := "checkFromIndexSize", desc := "(IIILjava/util/function/BiFunction;)I" } : Jvm.MethodName) jdk_41_method_13_code (4 : Nat) (Option.some Jvm.ClassFile.FieldType.int)).before args0 about1 = true := code_word (m := ⟨20, 3⟩) (meth := k20m3) (c := k20c3) (by decide +kernel) rfl rfl rfl (by decide +kernel)
set_option maxRecDepth 65536 in
theorem w_c56 : (Jvm.Cond.code ({ cls := "java/lang/StringUTF16", name := "getChars", desc := "(III[B)I" } : Jvm.MethodName) jdk_52_method_77_code (5 : Nat) (Option.some Jvm.ClassFile.FieldType.int)).before args0 about1 = true := code_word (m := ⟨8, 10⟩) (meth := k8m10) (c := k8c10) (by decide +kernel) rfl rfl rfl (by decide +kernel)
set_option maxRecDepth 65536 in
theorem w_c57 : (Jvm.Cond.code ({ cls := "java/lang/StringUTF16", name := "checkBoundsBeginEnd", desc := "(II[B)V" } : Jvm.MethodName) jdk_52_method_93_code (3 : Nat) (Option.none : Option Jvm.ClassFile.FieldType)).before args0 about1 = true := code_word (m := ⟨8, 15⟩) (meth := k8m15) (c := k8c15) (by decide +kernel) rfl rfl rfl (by decide +kernel)
set_option maxRecDepth 65536 in
theorem w_c58 : (Jvm.Cond.code ({ cls := "java/lang/String", name := "checkBoundsBeginEnd", desc := "(III)V" } : Jvm.MethodName) jdk_42_method_158_code (3 : Nat) (Option.none : Option Jvm.ClassFile.FieldType)).before args0 about1 = true := code_word (m := ⟨7, 12⟩) (meth := k7m12) (c := k7c12) (by decide +kernel) rfl rfl rfl (by decide +kernel)
set_option maxRecDepth 65536 in
theorem w_c59 : (Jvm.Cond.code ({ cls := "jdk/internal/util/Preconditions", name := "checkFromToIndex", desc := "(IIILjava/util/function/BiFunction;)I" } : Jvm.MethodName) jdk_41_method_12_code (4 : Nat) (Option.some Jvm.ClassFile.FieldType.int)).before args0 about1 = true := code_word (m := ⟨20, 2⟩) (meth := k20m2) (c := k20c2) (by decide +kernel) rfl rfl rfl (by decide +kernel)
set_option maxRecDepth 65536 in
theorem w_c60 : (Jvm.Cond.code ({ cls := "java/lang/StringUTF16", name := "getChars", desc := "(II[B)I" } : Jvm.MethodName) jdk_52_method_89_code (7 : Nat) (Option.some Jvm.ClassFile.FieldType.int)).before args0 about1 = true := code_word (m := ⟨8, 13⟩) (meth := k8m13) (c := k8c13) (by decide +kernel) rfl rfl rfl (by decide +kernel)
set_option maxRecDepth 65536 in
theorem w_c61 : (Jvm.Cond.code ({ cls := "java/lang/StringUTF16", name := "charAt", desc := "([BI)C" } : Jvm.MethodName) jdk_52_method_83_code (2 : Nat) (Option.some Jvm.ClassFile.FieldType.char)).before args0 about1 = true := code_word (m := ⟨8, 11⟩) (meth := k8m11) (c := k8c11) (by decide +kernel) rfl rfl rfl (by decide +kernel)
set_option maxRecDepth 65536 in
theorem w_c62 : (Jvm.Cond.code ({ cls := "java/lang/StringUTF16", name := "checkIndex", desc := "(I[B)V" } : Jvm.MethodName) jdk_52_method_91_code (2 : Nat) (Option.none : Option Jvm.ClassFile.FieldType)).before args0 about1 = true := code_word (m := ⟨8, 14⟩) (meth := k8m14) (c := k8c14) (by decide +kernel) rfl rfl rfl (by decide +kernel)
def codes1 : List Jvm.Cond := [Jvm.Cond.code x code maxLocals ret, Jvm.Cond.code ({ cls := "java/lang/String", name := "<init>", desc := "([C)V" } : Jvm.MethodName) jdk_42_method_3_code (2 : Nat) (Option.none : Option Jvm.ClassFile.FieldType), Jvm.Cond.code ({ cls := "java/lang/String", name := "<init>", desc := "([CIILjava/lang/Void;)V" } : Jvm.MethodName) jdk_42_method_149_code (6 : Nat) (Option.none : Option Jvm.ClassFile.FieldType), Jvm.Cond.code ({ cls := "java/lang/Object", name := "<init>", desc := "()V" } : Jvm.MethodName) object_method_1_code (1 : Nat) (Option.none : Option Jvm.ClassFile.FieldType), Jvm.Cond.code ({ cls := "java/lang/StringUTF16", name := "compress", desc := "([CII)[B" } : Jvm.MethodName) jdk_52_method_16_code (6 : Nat) (Option.some (Jvm.ClassFile.FieldType.array Jvm.ClassFile.FieldType.byte)), Jvm.Cond.code ({ cls := "java/lang/StringUTF16", name := "compress", desc := "([CI[BII)I" } : Jvm.MethodName) jdk_52_method_21_code (7 : Nat) (Option.some Jvm.ClassFile.FieldType.int), Jvm.Cond.code ({ cls := "java/lang/StringUTF16", name := "coderFromArrayLen", desc := "([BI)B" } : Jvm.MethodName) jdk_52_method_15_code (2 : Nat) (Option.some Jvm.ClassFile.FieldType.byte), Jvm.Cond.code ({ cls := "com/example/ferry/ferry/Endpoint", name := "<init>", desc := "(Ljava/lang/String;I)V" } : Jvm.MethodName) prog_2_method_1_code (3 : Nat) (Option.none : Option Jvm.ClassFile.FieldType), Jvm.Cond.code ({ cls := "java/lang/Record", name := "<init>", desc := "()V" } : Jvm.MethodName) jdk_30_method_1_code (1 : Nat) (Option.none : Option Jvm.ClassFile.FieldType), Jvm.Cond.code ({ cls := "com/example/ferry/ferry/Endpoint", name := "toString", desc := "()Ljava/lang/String;" } : Jvm.MethodName) prog_2_method_9_code (1 : Nat) (Option.some (Jvm.ClassFile.FieldType.object "java/lang/String")), Jvm.Cond.code ({ cls := "java/lang/StringBuilder", name := "<init>", desc := "()V" } : Jvm.MethodName) jdk_67_method_1_code (1 : Nat) (Option.none : Option Jvm.ClassFile.FieldType), Jvm.Cond.code ({ cls := "java/lang/AbstractStringBuilder", name := "<init>", desc := "(I)V" } : Jvm.MethodName) jdk_68_method_2_code (2 : Nat) (Option.none : Option Jvm.ClassFile.FieldType), Jvm.Cond.code ({ cls := "java/lang/StringBuilder", name := "append", desc := "(Ljava/lang/String;)Ljava/lang/StringBuilder;" } : Jvm.MethodName) jdk_67_method_7_code (2 : Nat) (Option.some (Jvm.ClassFile.FieldType.object "java/lang/StringBuilder")), Jvm.Cond.code ({ cls := "java/lang/AbstractStringBuilder", name := "append", desc := "(Ljava/lang/String;)Ljava/lang/AbstractStringBuilder;" } : Jvm.MethodName) jdk_68_method_22_code (3 : Nat) (Option.some (Jvm.ClassFile.FieldType.object "java/lang/AbstractStringBuilder")), Jvm.Cond.code ({ cls := "java/lang/String", name := "length", desc := "()I" } : Jvm.MethodName) jdk_42_method_54_code (1 : Nat) (Option.some Jvm.ClassFile.FieldType.int), Jvm.Cond.code ({ cls := "java/lang/String", name := "coder", desc := "()B" } : Jvm.MethodName) jdk_42_method_152_code (1 : Nat) (Option.some Jvm.ClassFile.FieldType.byte), Jvm.Cond.code ({ cls := "java/lang/AbstractStringBuilder", name := "ensureCapacityInternal", desc := "(I)V" } : Jvm.MethodName) jdk_68_method_9_code (3 : Nat) (Option.none : Option Jvm.ClassFile.FieldType), Jvm.Cond.code ({ cls := "java/lang/AbstractStringBuilder", name := "putStringAt", desc := "(ILjava/lang/String;)V" } : Jvm.MethodName) jdk_68_method_73_code (3 : Nat) (Option.none : Option Jvm.ClassFile.FieldType), Jvm.Cond.code ({ cls := "java/lang/AbstractStringBuilder", name := "inflateIfNeededFor", desc := "(Ljava/lang/String;)V" } : Jvm.MethodName) jdk_68_method_71_code (2 : Nat) (Option.none : Option Jvm.ClassFile.FieldType), Jvm.Cond.code ({ cls := "java/lang/String", name := "getBytes", desc := "([BIB)V" } : Jvm.MethodName) jdk_42_method_147_code (4 : Nat) (Option.none : Option Jvm.ClassFile.FieldType), Jvm.Cond.code ({ cls := "java/lang/StringBuilder", name := "append", desc := "(I)Ljava/lang/StringBuilder;" } : Jvm.MethodName) jdk_67_method_15_code (2 : Nat) (Option.some (Jvm.ClassFile.FieldType.object "java/lang/StringBuilder")), Jvm.Cond.code ({ cls := "java/lang/AbstractStringBuilder", name := "append", desc := "(I)Ljava/lang/AbstractStringBuilder;" } : Jvm.MethodName) jdk_68_method_32_code (4 : Nat) (Option.some (Jvm.ClassFile.FieldType.object "java/lang/AbstractStringBuilder")), Jvm.Cond.code ({ cls := "java/lang/Integer", name := "stringSize", desc := "(I)I" } : Jvm.MethodName) jdk_33_method_13_code (4 : Nat) (Option.some Jvm.ClassFile.FieldType.int), Jvm.Cond.code ({ cls := "java/lang/AbstractStringBuilder", name := "isLatin1", desc := "()Z" } : Jvm.MethodName) jdk_68_method_68_code (1 : Nat) (Option.some Jvm.ClassFile.FieldType.boolean), Jvm.Cond.code ({ cls := "java/lang/Integer", name := "getChars", desc := "(II[B)I" } : Jvm.MethodName) jdk_33_method_12_code (7 : Nat) (Option.some Jvm.ClassFile.FieldType.int), Jvm.Cond.code ({ cls := "java/lang/StringBuilder", name := "toString", desc := "()Ljava/lang/String;" } : Jvm.MethodName) jdk_67_method_42_code (1 : Nat) (Option.some (Jvm.ClassFile.FieldType.object "java/lang/String")), Jvm.Cond.code ({ cls := "java/lang/String", name := "<init>", desc := "(Ljava/lang/StringBuilder;)V" } : Jvm.MethodName) jdk_42_method_53_code (2 : Nat) (Option.none : Option Jvm.ClassFile.FieldType), Jvm.Cond.code ({ cls := "java/lang/String", name := "<init>", desc := "(Ljava/lang/AbstractStringBuilder;Ljava/lang/Void;)V" } : Jvm.MethodName) jdk_42_method_150_code (5 : Nat) (Option.none : Option Jvm.ClassFile.FieldType), Jvm.Cond.code ({ cls := "java/lang/AbstractStringBuilder", name := "getValue", desc := "()[B" } : Jvm.MethodName) jdk_68_method_64_code (1 : Nat) (Option.some (Jvm.ClassFile.FieldType.array Jvm.ClassFile.FieldType.byte)), Jvm.Cond.code ({ cls := "java/lang/StringBuilder", name := "length", desc := "()I" } : Jvm.MethodName) jdk_67_method_93_code (1 : Nat) (Option.some Jvm.ClassFile.FieldType.int), Jvm.Cond.code ({ cls := "java/lang/AbstractStringBuilder", name := "length", desc := "()I" } : Jvm.MethodName) jdk_68_method_6_code (1 : Nat) (Option.some Jvm.ClassFile.FieldType.int), Jvm.Cond.code ({ cls := "java/util/Arrays", name := "copyOfRange", desc := "([BII)[B" } : Jvm.MethodName) jdk_65_method_132_code (3 : Nat) (Option.some (Jvm.ClassFile.FieldType.array Jvm.ClassFile.FieldType.byte)), Jvm.Cond.code ({ cls := "java/util/Arrays", name := "copyOfRangeByte", desc := "([BII)[B" } : Jvm.MethodName) jdk_65_method_133_code (5 : Nat) (Option.some (Jvm.ClassFile.FieldType.array Jvm.ClassFile.FieldType.byte)), Jvm.Cond.code ({ cls := "java/util/Arrays", name := "checkLength", desc := "(II)V" } : Jvm.MethodName) jdk_65_method_131_code (2 : Nat) (Option.none : Option Jvm.ClassFile.FieldType), Jvm.Cond.code ({ cls := "java/lang/Math", name := "min", desc := "(II)I" } : Jvm.MethodName) jdk_29_method_69_code (2 : Nat) (Option.some Jvm.ClassFile.FieldType.int), Jvm.Cond.code ({ cls := "java/lang/Math", name := "abs", desc := "(J)J" } : Jvm.MethodName) jdk_29_method_61_code (2 : Nat) (Option.some Jvm.ClassFile.FieldType.long), Jvm.Cond.code ({ cls := "com/example/ferry/ferry/EndpointToStringPinLaw", name := "digits", desc := "(J)I" } : Jvm.MethodName) method_5_code (2 : Nat) (Option.some Jvm.ClassFile.FieldType.int), Jvm.Cond.code ({ cls := "java/lang/String", name := "charAt", desc := "(I)C" } : Jvm.MethodName) jdk_42_method_56_code (2 : Nat) (Option.some Jvm.ClassFile.FieldType.char), Jvm.Cond.code ({ cls := "java/lang/String", name := "isLatin1", desc := "()Z" } : Jvm.MethodName) jdk_42_method_154_code (1 : Nat) (Option.some Jvm.ClassFile.FieldType.boolean), Jvm.Cond.code ({ cls := "java/lang/StringLatin1", name := "charAt", desc := "([BI)C" } : Jvm.MethodName) jdk_43_method_2_code (2 : Nat) (Option.some Jvm.ClassFile.FieldType.char), Jvm.Cond.code ({ cls := "java/lang/String", name := "checkIndex", desc := "(II)V" } : Jvm.MethodName) jdk_42_method_155_code (2 : Nat) (Option.none : Option Jvm.ClassFile.FieldType), Jvm.Cond.code ({ cls := "jdk/internal/util/Preconditions", name := "checkIndex", desc := "(IILjava/util/function/BiFunction;)I" } : Jvm.MethodName) jdk_41_method_11_code (3 : Nat) (Option.some Jvm.ClassFile.FieldType.int), Jvm.Cond.code ({ cls := "com/example/ferry/ferry/EndpointToStringPinLaw", name := "at", desc := "(Ljava/lang/String;IIZJII)Z" } : Jvm.MethodName) method_3_code (12 : Nat) (Option.some Jvm.ClassFile.FieldType.boolean), Jvm.Cond.code ({ cls := "com/example/ferry/ferry/EndpointToStringPinLaw", name := "pow10", desc := "(I)J" } : Jvm.MethodName) method_4_code (2 : Nat) (Option.some Jvm.ClassFile.FieldType.long), Jvm.Cond.code ({ cls := "java/lang/StringUTF16", name := "toBytes", desc := "([CII)[B" } : Jvm.MethodName) jdk_52_method_14_code (5 : Nat) (Option.some (Jvm.ClassFile.FieldType.array Jvm.ClassFile.FieldType.byte)), Jvm.Cond.code ({ cls := "java/lang/StringUTF16", name := "newBytesFor", desc := "(I)[B" } : Jvm.MethodName) jdk_52_method_2_code (1 : Nat) (Option.some (Jvm.ClassFile.FieldType.array Jvm.ClassFile.FieldType.byte)), Jvm.Cond.code ({ cls := "java/lang/StringUTF16", name := "newBytesLength", desc := "(I)I" } : Jvm.MethodName) jdk_52_method_3_code (1 : Nat) (Option.some Jvm.ClassFile.FieldType.int), Jvm.Cond.code ({ cls := "java/lang/StringUTF16", name := "putChar", desc := "([BII)V" } : Jvm.MethodName) jdk_52_method_4_code (3 : Nat) (Option.none : Option Jvm.ClassFile.FieldType), Jvm.Cond.code ({ cls := "java/lang/StringUTF16", name := "getChar", desc := "([BI)C" } : Jvm.MethodName) jdk_52_method_5_code (2 : Nat) (Option.some Jvm.ClassFile.FieldType.char), Jvm.Cond.code ({ cls := "java/lang/AbstractStringBuilder", name := "inflate", desc := "()V" } : Jvm.MethodName) jdk_68_method_11_code (2 : Nat) (Option.none : Option Jvm.ClassFile.FieldType), Jvm.Cond.code ({ cls := "java/lang/StringLatin1", name := "inflate", desc := "([BI[BII)V" } : Jvm.MethodName) jdk_43_method_50_code (5 : Nat) (Option.none : Option Jvm.ClassFile.FieldType), Jvm.Cond.code ({ cls := "java/lang/StringUTF16", name := "inflate", desc := "([BI[BII)V" } : Jvm.MethodName) jdk_52_method_86_code (6 : Nat) (Option.none : Option Jvm.ClassFile.FieldType), Jvm.Cond.code ({ cls := "java/lang/StringUTF16", name := "checkBoundsOffCount", desc := "(II[B)V" } : Jvm.MethodName) jdk_52_method_94_code (3 : Nat) (Option.none : Option Jvm.ClassFile.FieldType), Jvm.Cond.code ({ cls := "java/lang/StringUTF16", name := "length", desc := "([B)I" } : Jvm.MethodName) jdk_52_method_6_code (1 : Nat) (Option.some Jvm.ClassFile.FieldType.int), Jvm.Cond.code ({ cls := "java/lang/String", name := "checkBoundsOffCount", desc := "(III)I" } : Jvm.MethodName) jdk_42_method_157_code (3 : Nat) (Option.some Jvm.ClassFile.FieldType.int), Jvm.Cond.code ({ cls := "jdk/internal/util/Preconditions", name := "checkFromIndexSize", desc := "(IIILjava/util/function/BiFunction;)I" } : Jvm.MethodName) jdk_41_method_13_code (4 : Nat) (Option.some Jvm.ClassFile.FieldType.int), Jvm.Cond.code ({ cls := "java/lang/StringUTF16", name := "getChars", desc := "(III[B)I" } : Jvm.MethodName) jdk_52_method_77_code (5 : Nat) (Option.some Jvm.ClassFile.FieldType.int), Jvm.Cond.code ({ cls := "java/lang/StringUTF16", name := "checkBoundsBeginEnd", desc := "(II[B)V" } : Jvm.MethodName) jdk_52_method_93_code (3 : Nat) (Option.none : Option Jvm.ClassFile.FieldType), Jvm.Cond.code ({ cls := "java/lang/String", name := "checkBoundsBeginEnd", desc := "(III)V" } : Jvm.MethodName) jdk_42_method_158_code (3 : Nat) (Option.none : Option Jvm.ClassFile.FieldType), Jvm.Cond.code ({ cls := "jdk/internal/util/Preconditions", name := "checkFromToIndex", desc := "(IIILjava/util/function/BiFunction;)I" } : Jvm.MethodName) jdk_41_method_12_code (4 : Nat) (Option.some Jvm.ClassFile.FieldType.int), Jvm.Cond.code ({ cls := "java/lang/StringUTF16", name := "getChars", desc := "(II[B)I" } : Jvm.MethodName) jdk_52_method_89_code (7 : Nat) (Option.some Jvm.ClassFile.FieldType.int), Jvm.Cond.code ({ cls := "java/lang/StringUTF16", name := "charAt", desc := "([BI)C" } : Jvm.MethodName) jdk_52_method_83_code (2 : Nat) (Option.some Jvm.ClassFile.FieldType.char), Jvm.Cond.code ({ cls := "java/lang/StringUTF16", name := "checkIndex", desc := "(I[B)V" } : Jvm.MethodName) jdk_52_method_91_code (2 : Nat) (Option.none : Option Jvm.ClassFile.FieldType)]
set_option maxRecDepth 65536 in
theorem codes_eq : words1.filter isCode = codes1 := rfl
theorem w_codes : ∀ c ∈ words1.filter isCode, c.before args0 about1 = true := by
  rw [codes_eq]
  intro c hc
  simp only [codes1, List.mem_cons, List.not_mem_nil, or_false] at hc
  rcases hc with rfl | rfl | rfl | rfl | rfl | rfl | rfl | rfl | rfl | rfl | rfl | rfl | rfl | rfl | rfl | rfl | rfl | rfl | rfl | rfl | rfl | rfl | rfl | rfl | rfl | rfl | rfl | rfl | rfl | rfl | rfl | rfl | rfl | rfl | rfl | rfl | rfl | rfl | rfl | rfl | rfl | rfl | rfl | rfl | rfl | rfl | rfl | rfl | rfl | rfl | rfl | rfl | rfl | rfl | rfl | rfl | rfl | rfl | rfl | rfl | rfl | rfl | rfl
  · exact w_c0
  · exact w_c1
  · exact w_c2
  · exact w_c3
  · exact w_c4
  · exact w_c5
  · exact w_c6
  · exact w_c7
  · exact w_c8
  · exact w_c9
  · exact w_c10
  · exact w_c11
  · exact w_c12
  · exact w_c13
  · exact w_c14
  · exact w_c15
  · exact w_c16
  · exact w_c17
  · exact w_c18
  · exact w_c19
  · exact w_c20
  · exact w_c21
  · exact w_c22
  · exact w_c23
  · exact w_c24
  · exact w_c25
  · exact w_c26
  · exact w_c27
  · exact w_c28
  · exact w_c29
  · exact w_c30
  · exact w_c31
  · exact w_c32
  · exact w_c33
  · exact w_c34
  · exact w_c35
  · exact w_c36
  · exact w_c37
  · exact w_c38
  · exact w_c39
  · exact w_c40
  · exact w_c41
  · exact w_c42
  · exact w_c43
  · exact w_c44
  · exact w_c45
  · exact w_c46
  · exact w_c47
  · exact w_c48
  · exact w_c49
  · exact w_c50
  · exact w_c51
  · exact w_c52
  · exact w_c53
  · exact w_c54
  · exact w_c55
  · exact w_c56
  · exact w_c57
  · exact w_c58
  · exact w_c59
  · exact w_c60
  · exact w_c61
  · exact w_c62
set_option maxRecDepth 65536 in
theorem w_t1 : (words1.take 24).all (fun c => isCode c || c.before args0 about1) = true := by decide +kernel
set_option maxRecDepth 65536 in
theorem w_t2 : ((words1.drop 24).take 24).all (fun c => isCode c || c.before args0 about1) = true := by decide +kernel
set_option maxRecDepth 65536 in
theorem w_t3 : (((words1.drop 24).drop 24).take 24).all (fun c => isCode c || c.before args0 about1) = true := by decide +kernel
set_option maxRecDepth 65536 in
theorem w_t4 : ((((words1.drop 24).drop 24).drop 24).take 24).all (fun c => isCode c || c.before args0 about1) = true := by decide +kernel
set_option maxRecDepth 65536 in
theorem w_t5 : (((((words1.drop 24).drop 24).drop 24).drop 24).take 24).all (fun c => isCode c || c.before args0 about1) = true := by decide +kernel
set_option maxRecDepth 65536 in
theorem w_t6 : ((((((words1.drop 24).drop 24).drop 24).drop 24).drop 24).take 24).all (fun c => isCode c || c.before args0 about1) = true := by decide +kernel
set_option maxRecDepth 65536 in
theorem w_t7 : (((((((words1.drop 24).drop 24).drop 24).drop 24).drop 24).drop 24).take 24).all (fun c => isCode c || c.before args0 about1) = true := by decide +kernel
set_option maxRecDepth 65536 in
theorem w_t8 : ((((((((words1.drop 24).drop 24).drop 24).drop 24).drop 24).drop 24).drop 24).take 24).all (fun c => isCode c || c.before args0 about1) = true := by decide +kernel
set_option maxRecDepth 65536 in
theorem w_t9 : (((((((((words1.drop 24).drop 24).drop 24).drop 24).drop 24).drop 24).drop 24).drop 24).take 24).all (fun c => isCode c || c.before args0 about1) = true := by decide +kernel
set_option maxRecDepth 65536 in
theorem w_t10 : ((((((((((words1.drop 24).drop 24).drop 24).drop 24).drop 24).drop 24).drop 24).drop 24).drop 24).take 24).all (fun c => isCode c || c.before args0 about1) = true := by decide +kernel
set_option maxRecDepth 65536 in
theorem w_t11 : (((((((((((words1.drop 24).drop 24).drop 24).drop 24).drop 24).drop 24).drop 24).drop 24).drop 24).drop 24).take 24).all (fun c => isCode c || c.before args0 about1) = true := by decide +kernel
set_option maxRecDepth 65536 in
theorem w_t12 : ((((((((((((words1.drop 24).drop 24).drop 24).drop 24).drop 24).drop 24).drop 24).drop 24).drop 24).drop 24).drop 24).take 24).all (fun c => isCode c || c.before args0 about1) = true := by decide +kernel
set_option maxRecDepth 65536 in
theorem w_t13 : ((((((((((((words1.drop 24).drop 24).drop 24).drop 24).drop 24).drop 24).drop 24).drop 24).drop 24).drop 24).drop 24).drop 24).all (fun c => isCode c || c.before args0 about1) = true := by decide +kernel
theorem w_tables : (allAtoms (Jvm.Cond.code x code maxLocals ret :: tables_1)).before args0 about1 = true := by
  rw [allAtoms_all]
  show words1.all (fun c => c.before args0 about1) = true
  refine all_split ?_ w_codes
  rw [← List.take_append_drop 24 words1, List.all_append, w_t1, ← List.take_append_drop 24 (words1.drop 24), List.all_append, w_t2, ← List.take_append_drop 24 ((words1.drop 24).drop 24), List.all_append, w_t3, ← List.take_append_drop 24 (((words1.drop 24).drop 24).drop 24), List.all_append, w_t4, ← List.take_append_drop 24 ((((words1.drop 24).drop 24).drop 24).drop 24), List.all_append, w_t5, ← List.take_append_drop 24 (((((words1.drop 24).drop 24).drop 24).drop 24).drop 24), List.all_append, w_t6, ← List.take_append_drop 24 ((((((words1.drop 24).drop 24).drop 24).drop 24).drop 24).drop 24), List.all_append, w_t7, ← List.take_append_drop 24 (((((((words1.drop 24).drop 24).drop 24).drop 24).drop 24).drop 24).drop 24), List.all_append, w_t8, ← List.take_append_drop 24 ((((((((words1.drop 24).drop 24).drop 24).drop 24).drop 24).drop 24).drop 24).drop 24), List.all_append, w_t9, ← List.take_append_drop 24 (((((((((words1.drop 24).drop 24).drop 24).drop 24).drop 24).drop 24).drop 24).drop 24).drop 24), List.all_append, w_t10, ← List.take_append_drop 24 ((((((((((words1.drop 24).drop 24).drop 24).drop 24).drop 24).drop 24).drop 24).drop 24).drop 24).drop 24), List.all_append, w_t11, ← List.take_append_drop 24 (((((((((((words1.drop 24).drop 24).drop 24).drop 24).drop 24).drop 24).drop 24).drop 24).drop 24).drop 24).drop 24), List.all_append, w_t12, w_t13]
  rfl
set_option maxRecDepth 65536 in
theorem w_rest : rest_1_c.before args0 about1 = true := by decide +kernel
set_option maxRecDepth 65536 in
theorem w_case : (Jvm.Cond.and given_1 narrow_1).before args0 about1 = true := by decide +kernel
set_option maxRecDepth 65536 in
theorem w_consts : constsHeld consts_1 about1 := Jvm.Lit.constsHeldB_iff.mp (by decide +kernel)
theorem w_applies : (headSpec (Jvm.Cond.code x code maxLocals ret :: tables_1) room_1).applies x e0.platform about1 = true :=
  (Spec.applies_iff w_frames).mpr ⟨w_running, w_runnable, w_alone, w_named, w_hears, w_ripe, w_room, w_tables⟩
theorem atStart : AtStart classFile x code maxLocals ret World_1 tables_1 room_1 Calls_1 rest_1 Pre_1 launch0 p0 e0 about1 theMethod args0 below0 :=
  ⟨lists_1, trivial, launch0.admits_env _ _ _, launch0.least_env, fairChoices_fair.cas, fairChoices_fair.clock, w_frames, w_args, w_heap, w_applies, ⟨w_consts, trivial⟩, w_rest, w_case⟩
end start1
theorem witness_1 : WitnessClaimed_1 := ⟨start1.p0, start1.e0, start1.about1, start1.theMethod, start1.args0, start1.below0, start1.atStart⟩
end Jvm.Pilot.@@N@@
