import JvmDerived
import JvmDerived.Pilot.@@N@@Statement
import JvmDerived.Pilot.@@N@@Code
set_option maxRecDepth 65536
set_option maxHeartbeats 40000000
set_option linter.unusedVariables false
set_option linter.unusedSimpArgs false
namespace Jvm.RoadKit
open Sem ClassFile Op Lib Jvm.Stand Jvm.Free Jvm.LawKit
section New
variable {p : Program} {l : Launch} {e : Env} {R : Room} {s : State} {m : MethodId} {args : Array Value} {below : List Frame} {meth : Method} {c : Code} {T : State} {locs : List Loc} {cells slots : Nat}
theorem retI (X : Stand p l e R s m args below meth c T locs cells slots) (hx : p.tables.exec = Jvm.exec) {pc : Nat} {Ls : Array Slot} {z : Int32} {rest : List Value} (hret : meth.sig.returnType = some .int) (hd : decode c.code pc = .ok (.ireturn, 1)) {fs : List Frame}
    (hl : ∀ (f : JFrame) (acts : List Action), f.method = m → f.locked = none → f.entered = [] → (doReturn e (T.setTop f) acts (some (.int z))).1 = T.setFrames fs) : Steps p.tables e below (T.setTop (mkF m pc Ls (.int z :: rest))) (T.setFrames fs) := by
  have hm' : T.vm.method? m = some meth := X.method'
  have hn : narrow .int (.int z) = .int z := rfl
  show Steps p.tables e below (T.setTop { method := m, pc := pc, locals := Ls, stack := _ :: rest, locked := none }) _
  jvm_step X.here [X.here.top, hx, hd, hm', hret, hn]
  first | (intro acts; rw [hl _ acts rfl rfl rfl]) | rw [hl _ _ rfl rfl rfl]
  exact Steps.refl _
end New
end Jvm.RoadKit
namespace Jvm.Pilot.@@N@@
open Jvm Jvm.ClassFile Sem Op Lib Jvm.Free Jvm.Stand Jvm.LawKit Jvm.RoadKit Bundle Jvm.Pilot.@@N@@.Jvm.D
abbrev Hw (a0 : Array Value) (Z : State) : Prop := ∀ d ∈ tables_1, d.before a0 Z = true
theorem tw {a0 : Array Value} {Z : State} (hw : Hw a0 Z) (i : Nat) {d : Jvm.Cond} (q : tables_1[i]? = some d) : d.before a0 Z = true := hw d (List.mem_of_getElem? q)
abbrev Met (l : Launch) (Z : State) (h0 : Heap) (ws : List Jvm.Cond) (y : MethodName) (b : ByteArray) (n : Nat) (r : Option FieldType) (rm : Room) (A : Array Value) (Q : Option Value → Heap → List Loc → Prop) : Prop := MetFree l y (head1 (Jvm.Cond.code y b n r :: ws) rm) (fun a U => a = A ∧ Z.Warmed39 U.vm ∧ U.heap = h0) (fun _ _ _ _ _ => True) (fun _ U o U' => ∃ v L, o = .returned v ∧ Q v U'.heap L ∧ FrameEnd U o U' L rm.cells rm.slots)
abbrev R_0 : Room := ({ frames := 0, cells := 0, slots := 0, locals := 0 } : Room)
abbrev R_1 : Room := ({ frames := 6, cells := 6, slots := 142, locals := 92 } : Room)
abbrev R_2 : Room := ({ frames := 2, cells := 2, slots := 4, locals := 29 } : Room)
abbrev R_3 : Room := ({ frames := 7, cells := 3, slots := 138, locals := 120 } : Room)
abbrev R_4 : Room := ({ frames := 12, cells := 15, slots := 882, locals := 180 } : Room)
abbrev R_5 : Room := ({ frames := 1, cells := 0, slots := 0, locals := 12 } : Room)
abbrev R_6 : Room := ({ frames := 0, cells := 2, slots := 4, locals := 0 } : Room)
abbrev R_7 : Room := ({ frames := 1, cells := 0, slots := 0, locals := 14 } : Room)
abbrev R_8 : Room := ({ frames := 1, cells := 0, slots := 0, locals := 13 } : Room)
abbrev R_9 : Room := ({ frames := 6, cells := 4, slots := 159, locals := 92 } : Room)
abbrev R_10 : Room := ({ frames := 2, cells := 0, slots := 0, locals := 29 } : Room)
abbrev R_11 : Room := ({ frames := 4, cells := 1, slots := 110, locals := 62 } : Room)
abbrev R_12 : Room := ({ frames := 3, cells := 0, slots := 0, locals := 53 } : Room)
abbrev R_13 : Room := ({ frames := 8, cells := 1, slots := 110, locals := 124 } : Room)
abbrev R_14 : Room := ({ frames := 6, cells := 3, slots := 138, locals := 104 } : Room)
abbrev R_15 : Room := ({ frames := 1, cells := 4, slots := 8, locals := 12 } : Room)
abbrev R_16 : Room := ({ frames := 2, cells := 4, slots := 8, locals := 29 } : Room)
abbrev R_17 : Room := ({ frames := 9, cells := 7, slots := 406, locals := 137 } : Room)
abbrev R_18 : Room := ({ frames := 1, cells := 0, slots := 0, locals := 15 } : Room)
abbrev R_19 : Room := ({ frames := 3, cells := 0, slots := 0, locals := 47 } : Room)
abbrev R_20 : Room := ({ frames := 2, cells := 1, slots := 110, locals := 28 } : Room)
abbrev R_21 : Room := ({ frames := 1, cells := 0, slots := 0, locals := 24 } : Room)
abbrev R_22 : Room := ({ frames := 5, cells := 0, slots := 0, locals := 77 } : Room)
abbrev R_23 : Room := ({ frames := 4, cells := 0, slots := 0, locals := 53 } : Room)
abbrev R_24 : Room := ({ frames := 5, cells := 2, slots := 134, locals := 78 } : Room)
abbrev R_25 : Room := ({ frames := 5, cells := 2, slots := 114, locals := 79 } : Room)
abbrev R_26 : Room := ({ frames := 3, cells := 0, slots := 0, locals := 55 } : Room)
abbrev R_27 : Room := ({ frames := 11, cells := 2, slots := 220, locals := 166 } : Room)
abbrev R_28 : Room := ({ frames := 5, cells := 1, slots := 110, locals := 77 } : Room)
abbrev R_29 : Room := ({ frames := 2, cells := 0, slots := 0, locals := 27 } : Room)
abbrev R_30 : Room := ({ frames := 1, cells := 1, slots := 110, locals := 18 } : Room)
abbrev R_31 : Room := ({ frames := 3, cells := 1, slots := 110, locals := 48 } : Room)
abbrev R_32 : Room := ({ frames := 1, cells := 0, slots := 0, locals := 18 } : Room)
abbrev R_33 : Room := ({ frames := 2, cells := 0, slots := 0, locals := 33 } : Room)
abbrev R_34 : Room := ({ frames := 3, cells := 1, slots := 110, locals := 49 } : Room)
abbrev R_35 : Room := ({ frames := 4, cells := 1, slots := 110, locals := 65 } : Room)
abbrev R_36 : Room := ({ frames := 9, cells := 1, slots := 110, locals := 137 } : Room)
abbrev R_37 : Room := ({ frames := 3, cells := 0, slots := 0, locals := 40 } : Room)
abbrev R_38 : Room := ({ frames := 1, cells := 1, slots := 110, locals := 12 } : Room)
abbrev R_39 : Room := ({ frames := 4, cells := 0, slots := 0, locals := 64 } : Room)
abbrev R_40 : Room := ({ frames := 1, cells := 1, slots := 24, locals := 18 } : Room)
abbrev R_41 : Room := ({ frames := 3, cells := 2, slots := 134, locals := 44 } : Room)
abbrev R_42 : Room := ({ frames := 2, cells := 1, slots := 24, locals := 35 } : Room)
abbrev R_43 : Room := ({ frames := 4, cells := 2, slots := 134, locals := 61 } : Room)
abbrev R_44 : Room := ({ frames := 2, cells := 0, slots := 0, locals := 25 } : Room)
abbrev R_45 : Room := ({ frames := 5, cells := 0, slots := 0, locals := 80 } : Room)
abbrev R_46 : Room := ({ frames := 6, cells := 0, slots := 0, locals := 95 } : Room)
abbrev R_47 : Room := ({ frames := 7, cells := 1, slots := 110, locals := 109 } : Room)
abbrev R_48 : Room := ({ frames := 2, cells := 1, slots := 110, locals := 34 } : Room)
abbrev R_49 : Room := ({ frames := 2, cells := 0, slots := 0, locals := 41 } : Room)
abbrev R_50 : Room := ({ frames := 6, cells := 0, slots := 0, locals := 94 } : Room)
abbrev R_51 : Room := ({ frames := 4, cells := 1, slots := 24, locals := 71 } : Room)
abbrev R_52 : Room := ({ frames := 4, cells := 2, slots := 134, locals := 71 } : Room)
abbrev R_53 : Room := ({ frames := 5, cells := 2, slots := 28, locals := 88 } : Room)
abbrev R_54 : Room := ({ frames := 5, cells := 3, slots := 138, locals := 88 } : Room)
abbrev R_55 : Room := ({ frames := 3, cells := 2, slots := 114, locals := 50 } : Room)
abbrev R_56 : Room := ({ frames := 10, cells := 2, slots := 130, locals := 150 } : Room)
abbrev R_57 : Room := ({ frames := 10, cells := 2, slots := 220, locals := 150 } : Room)
abbrev R_58 : Room := ({ frames := 3, cells := 0, slots := 0, locals := 43 } : Room)
abbrev Y_0 : MethodName := (⟨"java/lang/String", "length", "()I"⟩ : MethodName)
abbrev Y_1 : MethodName := (⟨"java/lang/String", "coder", "()B"⟩ : MethodName)
abbrev Y_2 : MethodName := (⟨"java/lang/String", "isLatin1", "()Z"⟩ : MethodName)
abbrev Y_3 : MethodName := (⟨"java/lang/AbstractStringBuilder", "isLatin1", "()Z"⟩ : MethodName)
abbrev Y_4 : MethodName := (⟨"java/lang/String", "<init>", "([C)V"⟩ : MethodName)
abbrev Y_5 : MethodName := (⟨"java/lang/String", "substring", "(II)Ljava/lang/String;"⟩ : MethodName)
abbrev Y_6 : MethodName := (⟨"com/example/downtally/downtally/cli/VisibleTextShortenedPinLaw", "text", "(ICCCC)Ljava/lang/String;"⟩ : MethodName)
abbrev Y_7 : MethodName := (⟨"java/lang/StringBuilder", "append", "(Ljava/lang/String;)Ljava/lang/StringBuilder;"⟩ : MethodName)
abbrev Y_8 : MethodName := (⟨"java/lang/String", "getBytes", "([BIB)V"⟩ : MethodName)
abbrev Y_9 : MethodName := (⟨"java/lang/StringUTF16", "getChar", "([BI)C"⟩ : MethodName)
abbrev Y_10 : MethodName := (⟨"java/lang/AbstractStringBuilder", "append", "(Ljava/lang/String;)Ljava/lang/AbstractStringBuilder;"⟩ : MethodName)
abbrev Y_11 : MethodName := (⟨"java/lang/String", "equals", "(Ljava/lang/Object;)Z"⟩ : MethodName)
abbrev Y_12 : MethodName := (⟨"java/lang/String", "<init>", "([CIILjava/lang/Void;)V"⟩ : MethodName)
abbrev Y_13 : MethodName := (⟨"java/lang/AbstractStringBuilder", "ensureCapacityInternal", "(I)V"⟩ : MethodName)
abbrev Y_14 : MethodName := (⟨"java/lang/String", "checkBoundsBeginEnd", "(III)V"⟩ : MethodName)
abbrev Y_15 : MethodName := (⟨"java/lang/String", "codePointCount", "(II)I"⟩ : MethodName)
abbrev Y_16 : MethodName := (⟨"java/lang/StringUTF16", "newString", "([BII)Ljava/lang/String;"⟩ : MethodName)
abbrev Y_17 : MethodName := (⟨"com/example/downtally/downtally/cli/VisibleText", "head", "(Ljava/lang/String;I)Ljava/lang/String;"⟩ : MethodName)
abbrev Y_18 : MethodName := (⟨"com/example/downtally/downtally/cli/VisibleText", "shortened", "(Ljava/lang/String;I)Ljava/lang/String;"⟩ : MethodName)
abbrev Y_19 : MethodName := (⟨"java/lang/StringUTF16", "coderFromArrayLen", "([BI)B"⟩ : MethodName)
abbrev Y_20 : MethodName := (⟨"java/lang/Math", "min", "(II)I"⟩ : MethodName)
abbrev Y_21 : MethodName := (⟨"java/lang/AbstractStringBuilder", "getValue", "()[B"⟩ : MethodName)
abbrev Y_22 : MethodName := (⟨"java/lang/AbstractStringBuilder", "length", "()I"⟩ : MethodName)
abbrev Y_23 : MethodName := (⟨"java/lang/AbstractStringBuilder", "inflateIfNeededFor", "(Ljava/lang/String;)V"⟩ : MethodName)
abbrev Y_24 : MethodName := (⟨"java/lang/AbstractStringBuilder", "putStringAt", "(ILjava/lang/String;)V"⟩ : MethodName)
abbrev Y_25 : MethodName := (⟨"com/example/downtally/downtally/cli/VisibleTextShortenedPinLaw", "expected", "(ICCCC)Ljava/lang/String;"⟩ : MethodName)
abbrev Y_26 : MethodName := (⟨"java/lang/String", "charAt", "(I)C"⟩ : MethodName)
abbrev Y_27 : MethodName := (⟨"java/lang/String", "<init>", "([BB)V"⟩ : MethodName)
abbrev Y_28 : MethodName := (⟨"java/util/Arrays", "copyOfRange", "([BII)[B"⟩ : MethodName)
abbrev Y_29 : MethodName := (⟨"java/lang/StringBuilder", "toString", "()Ljava/lang/String;"⟩ : MethodName)
abbrev Y_30 : MethodName := (⟨"com/example/downtally/downtally/cli/VisibleTextShortenedPinLaw", "ch", "(I)C"⟩ : MethodName)
abbrev Y_31 : MethodName := (⟨"java/lang/String", "offsetByCodePoints", "(II)I"⟩ : MethodName)
abbrev Y_32 : MethodName := (⟨"java/lang/StringLatin1", "newString", "([BII)Ljava/lang/String;"⟩ : MethodName)
abbrev Y_33 : MethodName := (⟨"java/lang/StringBuilder", "append", "(I)Ljava/lang/StringBuilder;"⟩ : MethodName)
abbrev Y_34 : MethodName := (⟨"java/lang/StringUTF16", "length", "([B)I"⟩ : MethodName)
abbrev Y_35 : MethodName := (⟨"java/lang/StringUTF16", "putChar", "([BII)V"⟩ : MethodName)
abbrev Y_36 : MethodName := (⟨"java/lang/StringUTF16", "checkBoundsOffCount", "(II[B)V"⟩ : MethodName)
abbrev Y_37 : MethodName := (⟨"java/lang/StringUTF16", "compress", "([CI[BII)I"⟩ : MethodName)
abbrev Y_38 : MethodName := (⟨"java/lang/StringUTF16", "compress", "([CII)[B"⟩ : MethodName)
abbrev Y_39 : MethodName := (⟨"java/lang/StringBuilder", "length", "()I"⟩ : MethodName)
abbrev Y_40 : MethodName := (⟨"java/lang/AbstractStringBuilder", "newCapacity", "(I)I"⟩ : MethodName)
abbrev Y_41 : MethodName := (⟨"java/lang/String", "<init>", "(Ljava/lang/AbstractStringBuilder;Ljava/lang/Void;)V"⟩ : MethodName)
abbrev Y_42 : MethodName := (⟨"java/lang/String", "<init>", "(Ljava/lang/StringBuilder;)V"⟩ : MethodName)
abbrev Y_43 : MethodName := (⟨"com/example/downtally/downtally/cli/VisibleTextShortenedPinLaw", "pair", "([CII)I"⟩ : MethodName)
abbrev Y_44 : MethodName := (⟨"com/example/downtally/downtally/cli/VisibleTextShortenedPinLaw", "step", "([CII)I"⟩ : MethodName)
abbrev Y_45 : MethodName := (⟨"jdk/internal/util/Preconditions", "checkFromToIndex", "(IIILjava/util/function/BiFunction;)I"⟩ : MethodName)
abbrev Y_46 : MethodName := (⟨"java/lang/StringUTF16", "compress", "([BI[BII)I"⟩ : MethodName)
abbrev Y_47 : MethodName := (⟨"java/lang/StringUTF16", "compress", "([BII)[B"⟩ : MethodName)
abbrev Y_48 : MethodName := (⟨"java/lang/StringBuilder", "append", "(Ljava/lang/String;)Ljava/lang/AbstractStringBuilder;"⟩ : MethodName)
abbrev Y_49 : MethodName := (⟨"java/lang/AbstractStringBuilder", "<init>", "(Ljava/lang/String;)V"⟩ : MethodName)
abbrev Y_50 : MethodName := (⟨"java/lang/StringBuilder", "<init>", "(Ljava/lang/String;)V"⟩ : MethodName)
abbrev Y_51 : MethodName := (⟨"java/lang/AbstractStringBuilder", "append", "(I)Ljava/lang/AbstractStringBuilder;"⟩ : MethodName)
abbrev Y_52 : MethodName := (⟨"java/lang/String", "checkIndex", "(II)V"⟩ : MethodName)
abbrev Y_53 : MethodName := (⟨"java/lang/StringUTF16", "newBytesLength", "(I)I"⟩ : MethodName)
abbrev Y_54 : MethodName := (⟨"java/lang/StringUTF16", "newBytesFor", "(I)[B"⟩ : MethodName)
abbrev Y_55 : MethodName := (⟨"java/lang/Math", "max", "(II)I"⟩ : MethodName)
abbrev Y_56 : MethodName := (⟨"jdk/internal/util/ArraysSupport", "newLength", "(III)I"⟩ : MethodName)
abbrev Y_57 : MethodName := (⟨"java/util/Arrays", "copyOf", "([BI)[B"⟩ : MethodName)
abbrev Y_58 : MethodName := (⟨"java/lang/Character", "isHighSurrogate", "(C)Z"⟩ : MethodName)
abbrev Y_59 : MethodName := (⟨"java/lang/Character", "isLowSurrogate", "(C)Z"⟩ : MethodName)
abbrev Y_60 : MethodName := (⟨"com/example/downtally/downtally/cli/VisibleTextShortenedPinLaw", "high", "(C)Z"⟩ : MethodName)
abbrev Y_61 : MethodName := (⟨"com/example/downtally/downtally/cli/VisibleTextShortenedPinLaw", "low", "(C)Z"⟩ : MethodName)
abbrev Y_62 : MethodName := (⟨"java/util/Objects", "checkFromToIndex", "(III)I"⟩ : MethodName)
abbrev Y_63 : MethodName := (⟨"java/lang/Integer", "stringSize", "(I)I"⟩ : MethodName)
abbrev Y_64 : MethodName := (⟨"java/lang/StringLatin1", "equals", "([B[B)Z"⟩ : MethodName)
abbrev Y_65 : MethodName := (⟨"com/example/downtally/downtally/cli/VisibleText", "appendLength", "(Ljava/lang/StringBuilder;I)Ljava/lang/StringBuilder;"⟩ : MethodName)
abbrev Y_66 : MethodName := (⟨"jdk/internal/util/Preconditions", "checkIndex", "(IILjava/util/function/BiFunction;)I"⟩ : MethodName)
abbrev Y_67 : MethodName := (⟨"java/lang/StringUTF16", "checkIndex", "(I[B)V"⟩ : MethodName)
abbrev Y_68 : MethodName := (⟨"java/lang/StringUTF16", "charAt", "([BI)C"⟩ : MethodName)
abbrev Y_69 : MethodName := (⟨"java/lang/StringLatin1", "charAt", "([BI)C"⟩ : MethodName)
abbrev Y_70 : MethodName := (⟨"jdk/internal/util/Preconditions", "checkFromIndexSize", "(IIILjava/util/function/BiFunction;)I"⟩ : MethodName)
abbrev Y_71 : MethodName := (⟨"java/lang/String", "checkBoundsOffCount", "(III)I"⟩ : MethodName)
abbrev Y_72 : MethodName := (⟨"java/lang/StringUTF16", "inflate", "([BI[BII)V"⟩ : MethodName)
abbrev Y_73 : MethodName := (⟨"java/lang/StringLatin1", "inflate", "([BI[BII)V"⟩ : MethodName)
abbrev Y_74 : MethodName := (⟨"java/lang/StringUTF16", "toBytes", "([CII)[B"⟩ : MethodName)
abbrev Y_75 : MethodName := (⟨"java/lang/AbstractStringBuilder", "inflate", "()V"⟩ : MethodName)
abbrev Y_76 : MethodName := (⟨"java/util/Arrays", "checkLength", "(II)V"⟩ : MethodName)
abbrev Y_77 : MethodName := (⟨"java/util/Arrays", "copyOfRangeByte", "([BII)[B"⟩ : MethodName)
abbrev Y_78 : MethodName := (⟨"java/lang/StringUTF16", "codePointCount", "([BIIZ)I"⟩ : MethodName)
abbrev Y_79 : MethodName := (⟨"java/lang/StringUTF16", "codePointCount", "([BII)I"⟩ : MethodName)
abbrev Y_80 : MethodName := (⟨"java/lang/CharSequence", "charAt", "(I)C"⟩ : MethodName)
abbrev Y_81 : MethodName := (⟨"java/lang/Character", "offsetByCodePoints", "(Ljava/lang/CharSequence;II)I"⟩ : MethodName)
abbrev Y_82 : MethodName := (⟨"java/lang/StringUTF16", "checkBoundsBeginEnd", "(II[B)V"⟩ : MethodName)
abbrev Y_83 : MethodName := (⟨"java/lang/Integer", "getChars", "(II[B)I"⟩ : MethodName)
abbrev Y_84 : MethodName := (⟨"java/lang/StringUTF16", "getChars", "(II[B)I"⟩ : MethodName)
abbrev Y_85 : MethodName := (⟨"java/lang/StringUTF16", "getChars", "(III[B)I"⟩ : MethodName)
abbrev cb0 : ByteArray := jdk_52_method_6_code
abbrev cb1 : ByteArray := jdk_41_method_11_code
abbrev cb2 : ByteArray := jdk_42_method_155_code
abbrev cb3 : ByteArray := jdk_52_method_91_code
abbrev cb4 : ByteArray := jdk_52_method_5_code
abbrev cb5 : ByteArray := jdk_52_method_83_code
abbrev cb6 : ByteArray := jdk_43_method_2_code
abbrev cb7 : ByteArray := jdk_42_method_152_code
abbrev cb8 : ByteArray := jdk_42_method_154_code
abbrev cb9 : ByteArray := jdk_42_method_54_code
abbrev cb10 : ByteArray := jdk_42_method_56_code
abbrev cb11 : ByteArray := jdk_52_method_4_code
abbrev cb12 : ByteArray := jdk_52_method_3_code
abbrev cb13 : ByteArray := jdk_52_method_2_code
abbrev cb14 : ByteArray := jdk_42_method_151_code
abbrev cb15 : ByteArray := jdk_41_method_13_code
abbrev cb16 : ByteArray := jdk_42_method_157_code
abbrev cb17 : ByteArray := jdk_52_method_94_code
abbrev cb18 : ByteArray := jdk_52_method_86_code
abbrev cb19 : ByteArray := jdk_43_method_50_code
abbrev cb20 : ByteArray := jdk_52_method_14_code
abbrev cb21 : ByteArray := jdk_52_method_21_code
abbrev cb22 : ByteArray := jdk_52_method_16_code
abbrev cb23 : ByteArray := jdk_52_method_15_code
abbrev cb24 : ByteArray := jdk_42_method_149_code
abbrev cb25 : ByteArray := jdk_42_method_3_code
abbrev cb26 : ByteArray := jdk_29_method_65_code
abbrev cb27 : ByteArray := jdk_29_method_69_code
abbrev cb28 : ByteArray := jdk_48_method_27_code
abbrev cb29 : ByteArray := jdk_65_method_121_code
abbrev cb30 : ByteArray := jdk_68_method_68_code
abbrev cb31 : ByteArray := jdk_68_method_64_code
abbrev cb32 : ByteArray := jdk_68_method_6_code
abbrev cb33 : ByteArray := jdk_67_method_93_code
abbrev cb34 : ByteArray := jdk_68_method_10_code
abbrev cb35 : ByteArray := jdk_68_method_9_code
abbrev cb36 : ByteArray := jdk_68_method_11_code
abbrev cb37 : ByteArray := jdk_68_method_71_code
abbrev cb38 : ByteArray := jdk_42_method_147_code
abbrev cb39 : ByteArray := jdk_68_method_73_code
abbrev cb40 : ByteArray := jdk_68_method_22_code
abbrev cb41 : ByteArray := jdk_67_method_7_code
abbrev cb42 : ByteArray := jdk_65_method_131_code
abbrev cb43 : ByteArray := jdk_65_method_133_code
abbrev cb44 : ByteArray := jdk_65_method_132_code
abbrev cb45 : ByteArray := jdk_42_method_150_code
abbrev cb46 : ByteArray := jdk_42_method_53_code
abbrev cb47 : ByteArray := jdk_67_method_42_code
abbrev cb48 : ByteArray := jdk_89_method_14_code
abbrev cb49 : ByteArray := jdk_89_method_15_code
abbrev cb50 : ByteArray := method_4_code
abbrev cb51 : ByteArray := method_5_code
abbrev cb52 : ByteArray := method_6_code
abbrev cb53 : ByteArray := method_7_code
abbrev cb54 : ByteArray := method_3_code
abbrev cb55 : ByteArray := jdk_41_method_12_code
abbrev cb56 : ByteArray := jdk_31_method_18_code
abbrev cb57 : ByteArray := jdk_42_method_158_code
abbrev cb58 : ByteArray := jdk_52_method_11_code
abbrev cb59 : ByteArray := jdk_52_method_12_code
abbrev cb60 : ByteArray := jdk_42_method_59_code
abbrev cb61 : ByteArray := jdk_89_method_36_code
abbrev cb62 : ByteArray := jdk_42_method_60_code
abbrev cb63 : ByteArray := jdk_52_method_22_code
abbrev cb64 : ByteArray := jdk_52_method_17_code
abbrev cb65 : ByteArray := jdk_52_method_69_code
abbrev cb66 : ByteArray := jdk_43_method_47_code
abbrev cb67 : ByteArray := jdk_42_method_92_code
abbrev cb68 : ByteArray := jdk_67_method_80_code
abbrev cb69 : ByteArray := jdk_68_method_3_code
abbrev cb70 : ByteArray := jdk_67_method_3_code
abbrev cb71 : ByteArray := jdk_33_method_13_code
abbrev cb72 : ByteArray := jdk_52_method_93_code
abbrev cb73 : ByteArray := jdk_33_method_12_code
abbrev cb74 : ByteArray := jdk_52_method_89_code
abbrev cb75 : ByteArray := jdk_52_method_77_code
abbrev cb76 : ByteArray := jdk_68_method_32_code
abbrev cb77 : ByteArray := jdk_67_method_15_code
abbrev cb78 : ByteArray := jdk_43_method_13_code
abbrev cb79 : ByteArray := jdk_42_method_66_code
abbrev cb80 : ByteArray := method_8_code
abbrev cb81 : ByteArray := method_9_code
abbrev cb82 : ByteArray := prog_21_method_5_code
abbrev cb83 : ByteArray := prog_21_method_6_code
abbrev cb84 : ByteArray := prog_21_method_4_code
abbrev Dl (b : ByteArray) (L : List (Nat × Instr × Nat)) : Prop := ∀ {c : Code}, c.code = b → ∀ (i : Nat) {p : Nat} {x : Instr} {n : Nat}, L[i]? = some (p, x, n) → decode c.code p = .ok (x, n)
theorem dlk {b : ByteArray} {L : List (Nat × Instr × Nat)} (h : L.all (fun q => decide (decode b q.1 = .ok q.2)) = true) : Dl b L := fun hc i p x n q => by
  have z := List.all_eq_true.mp h _ (List.mem_of_getElem? q)
  rw [decide_eq_true_iff] at z
  rw [hc]; exact z
abbrev vN (n : Nat) : Value := .int (Int32.ofNat n)
abbrev vL (i : Int32) : Value := .int i
abbrev nv (n : Nat) : Slot := .val (.int (Int32.ofNat n))
abbrev Go (p : Program) (e : Env) (b : List Frame) (T : State) (m : MethodId) (pc : Nat) (L : Array Slot) (S : List Value) (t : State) : Prop := Steps p.tables e b (T.setTop (mkF m pc L S)) t
section OwnSteps
variable {p : Program} {l : Launch} {e : Env} {R : Room} {s : State} {m : MethodId} {args : Array Value} {w_ : List Frame} {meth : Method} {c : Code} {T : State} {locs : List Loc} {cells slots : Nat} {pc : Nat} {Ls Ls' : Array Slot} {S : List Value} {t : State} {o : Int} {x y : Int32} {cd : ClassFile.Cond}
theorem zl (X : Stand p l e R s m args w_ meth c T locs cells slots) (hx : p.tables.exec = Jvm.exec) {k : Fin 4} (hd : decode c.code pc = .ok (.iload_n k, 1)) (hl : Ls[k.val]? = some (.val (.int x))) (h : Go p e w_ T m (pc + 1) Ls (.int x :: S) t) : Go p e w_ T m pc Ls S t := XS.iloadN X.here hx rfl hd hl h
theorem zm (X : Stand p l e R s m args w_ meth c T locs cells slots) (hx : p.tables.exec = Jvm.exec) {k : Nat} (hd : decode c.code pc = .ok (.iload k, 2)) (hl : Ls[k]? = some (.val (.int x))) (h : Go p e w_ T m (pc + 2) Ls (.int x :: S) t) : Go p e w_ T m pc Ls S t := XS.iload X.here hx rfl hd hl h
theorem za (X : Stand p l e R s m args w_ meth c T locs cells slots) (hx : p.tables.exec = Jvm.exec) {k : Fin 4} {v : Value} (hd : decode c.code pc = .ok (.aload_n k, 1)) (hl : Ls[k.val]? = some (.val v)) (hv : v.isRef = true) (h : Go p e w_ T m (pc + 1) Ls (v :: S) t) : Go p e w_ T m pc Ls S t := XS.aloadN X.here hx rfl hd hl hv h
theorem zc (X : Stand p l e R s m args w_ meth c T locs cells slots) (hx : p.tables.exec = Jvm.exec) {i : Int} (hd : decode c.code pc = .ok (.iconst i, 1)) (h : Go p e w_ T m (pc + 1) Ls (.int (Int32.ofInt i) :: S) t) : Go p e w_ T m pc Ls S t := XS.iconst X.here hx rfl hd h
theorem zn (X : Stand p l e R s m args w_ meth c T locs cells slots) (hx : p.tables.exec = Jvm.exec) (hd : decode c.code pc = .ok (.if_icmp cd o, 3)) (hc : if_icmp.holds cd x y = false) (h : Go p e w_ T m (pc + 3) Ls S t) : Go p e w_ T m pc Ls (.int y :: .int x :: S) t := XS.icmpNo X.here hx rfl hd rfl hc h
theorem zg (X : Stand p l e R s m args w_ meth c T locs cells slots) (hx : p.tables.exec = Jvm.exec) (hd : decode c.code pc = .ok (.ifCond cd o, 3)) (hc : ifCond.holds cd x = false) (h : Go p e w_ T m (pc + 3) Ls S t) : Go p e w_ T m pc Ls (.int x :: S) t := XS.ifNo X.here hx rfl hd rfl hc h
theorem zy (X : Stand p l e R s m args w_ meth c T locs cells slots) (hx : p.tables.exec = Jvm.exec) (pc q : Nat) (hd : decode c.code pc = .ok (.if_icmp cd o, 3)) (hc : if_icmp.holds cd x y = true) (h : Go p e w_ T m q Ls S t) (ho : 0 ≤ (pc : Int) + o := by decide) (hp : ((pc : Int) + o).toNat = q := by decide) : Go p e w_ T m pc Ls (.int y :: .int x :: S) t := XS.icmpYes X.here hx rfl rfl hd rfl hc ho hp h
theorem zf (X : Stand p l e R s m args w_ meth c T locs cells slots) (hx : p.tables.exec = Jvm.exec) (pc q : Nat) (hd : decode c.code pc = .ok (.ifCond cd o, 3)) (hc : ifCond.holds cd x = true) (h : Go p e w_ T m q Ls S t) (ho : 0 ≤ (pc : Int) + o := by decide) (hp : ((pc : Int) + o).toNat = q := by decide) : Go p e w_ T m pc Ls (.int x :: S) t := XS.ifYes X.here hx rfl rfl hd rfl hc ho hp h
theorem zo (X : Stand p l e R s m args w_ meth c T locs cells slots) (hx : p.tables.exec = Jvm.exec) (pc q : Nat) (hd : decode c.code pc = .ok (.goto o, 3)) (h : Go p e w_ T m q Ls S t) (ho : 0 ≤ (pc : Int) + o := by decide) (hp : ((pc : Int) + o).toNat = q := by decide) : Go p e w_ T m pc Ls S t := XS.goto X.here hx rfl rfl hd ho hp h
theorem zs (X : Stand p l e R s m args w_ meth c T locs cells slots) (hx : p.tables.exec = Jvm.exec) {k : Fin 4} (hd : decode c.code pc = .ok (.istore_n k, 1)) (hl : storeLocals Ls k.val (.int x) = some Ls') (h : Go p e w_ T m (pc + 1) Ls' S t) : Go p e w_ T m pc Ls (.int x :: S) t := XS.istoreN X.here hx rfl hd rfl hl h
theorem zt (X : Stand p l e R s m args w_ meth c T locs cells slots) (hx : p.tables.exec = Jvm.exec) {k : Nat} (hd : decode c.code pc = .ok (.istore k, 2)) (hl : storeLocals Ls k (.int x) = some Ls') (h : Go p e w_ T m (pc + 2) Ls' S t) : Go p e w_ T m pc Ls (.int x :: S) t := XS.istore X.here hx rfl hd rfl hl h
end OwnSteps
section OwnCalls
variable {p : Program} {l : Launch} {e : Env} {R : Room} {s : State} {m : MethodId} {args : Array Value} {w_ : List Frame} {meth : Method} {c : Code} {T : State} {locs : List Loc} {cells slots : Nat} {Z : State} {a0 : Array Value} {h : Heap}
theorem own_sc (X : Stand p l e R s m args w_ meth c T locs cells slots) (hx : p.tables.exec = Jvm.exec) (hZ : Z.Warmed39 s.vm) {own : String} {index : Nat} {y : MethodName} (hown : s.vm.findClass own = some m.cls) {nl : Nat} (hml : c.maxLocals = nl) (w1 : (Cond.methodLink own index y).before a0 Z = true) (w2 : (Cond.static y).before a0 Z = true)
    {bytes : ByteArray} {maxL : Nat} {ret : Option FieldType} {rm : Room} {as' : Array Value} {Q : Option Value → Heap → List Loc → Prop} (hM : Met l Z h [] y bytes maxL ret rm as' Q) (wc : (Cond.code y bytes maxL ret).before a0 Z = true) (wz : (Cond.initialized y.cls).before a0 Z = true) (eT : T.heap = h) {W : Nat}
    {pc : Nat} {Ls : Array Slot} {argsL rest : List Value} (hlen : ∀ sig, parseMethodDescriptor y.desc = some sig → argsL.length = sig.parameters.length) (hdg : decode c.code pc = .ok (.invokestatic index, 3)) (hy : y.cls ≠ "java/lang/invoke/MethodHandle" ∧ y.cls ≠ "java/lang/invoke/VarHandle" := by decide) (hf : rm.frames + 1 ≤ R.frames := by decide) (hlo : W + (maxL + 11) + rm.locals ≤ R.locals := by decide) (hz : Ls.size = nl := by rfl) (hW : (rest.map fun v => v.category).sum ≤ W := by exact Nat.le_of_eq rfl) (has : argsL.toArray = as' := by rfl) (hc : cells + rm.cells ≤ R.cells := by decide) (hs : slots + rm.slots ≤ R.slots := by decide) :
    ∃ (v : Option Value) (T' : State) (L : List Loc), Stand p l e R s m args w_ meth c T' (locs ++ L) (cells + rm.cells) (slots + rm.slots) ∧ Q v T'.heap L ∧ ∀ target, Go p e w_ T' m (pc + 3) Ls (v.toList ++ rest) target → Go p e w_ T m pc Ls (argsL.reverse ++ rest) target := by
  have hsize : Ls.size = c.maxLocals := hz.trans hml.symm
  obtain ⟨v, _, ⟨T', L', k', n'⟩, -, X', ⟨L, hQ, l1, l2, l3⟩, st⟩ := Jvm.LawKit.callS X hx (y := y) hown (mvT hZ w1) (mvT hZ w2) (mvT hZ wz) (mvT hZ wc) hy (backOf (W := W) hM hZ wc wz hf hlo) (g := mkF m pc Ls (argsL.reverse ++ rest)) rfl hsize (argsL := argsL) (rest := rest) hlen rfl (by show 2 * 0 + _ ≤ _; omega) hdg (fun _ _ => ⟨has, eT, hc, hs⟩)
  dsimp only [Pt.U, Pt.locs, Pt.cells, Pt.slots] at X' hQ l1 l2 l3 st
  subst l1 l2 l3
  exact ⟨v, T', L, X', hQ, st⟩
theorem own_vc (X : Stand p l e R s m args w_ meth c T locs cells slots) (hx : p.tables.exec = Jvm.exec) (hZ : Z.Warmed39 s.vm) {own C : String} {index : Nat} {y : MethodName} (hown : s.vm.findClass own = some m.cls) {nl : Nat} (hml : c.maxLocals = nl) (w1 : (Cond.methodLink own index y).before a0 Z = true) (w2 : (Cond.declares y).before a0 Z = true) (w3 : (Cond.selects C y y).before a0 Z = true) (w4 : (Cond.instanceMethod y).before a0 Z = true)
    {bytes : ByteArray} {maxL : Nat} {ret : Option FieldType} {rm : Room} {as' : Array Value} {Q : Option Value → Heap → List Loc → Prop} (hM : Met l Z h [] y bytes maxL ret rm as' Q) (wc : (Cond.code y bytes maxL ret).before a0 Z = true) (wz : (Cond.initialized y.cls).before a0 Z = true) (eT : T.heap = h) {b : Addr} (E : Exa Z h b C) {W : Nat}
    {pc : Nat} {Ls : Array Slot} {argsL rest : List Value} (hlen : ∀ sig, parseMethodDescriptor y.desc = some sig → argsL.length = sig.parameters.length) (hdg : decode c.code pc = .ok (.invokevirtual index, 3)) (hy : y.cls ≠ "java/lang/invoke/MethodHandle" ∧ y.cls ≠ "java/lang/invoke/VarHandle" := by decide) (hf : rm.frames + 1 ≤ R.frames := by decide) (hlo : W + (maxL + 11) + rm.locals ≤ R.locals := by decide) (hz : Ls.size = nl := by rfl) (hW : (rest.map fun v => v.category).sum ≤ W := by exact Nat.le_of_eq rfl) (has : (.ref b :: argsL).toArray = as' := by rfl) (hc : cells + rm.cells ≤ R.cells := by decide) (hs : slots + rm.slots ≤ R.slots := by decide) :
    ∃ (v : Option Value) (T' : State) (L : List Loc), Stand p l e R s m args w_ meth c T' (locs ++ L) (cells + rm.cells) (slots + rm.slots) ∧ Q v T'.heap L ∧ ∀ target, Go p e w_ T' m (pc + 3) Ls (v.toList ++ rest) target → Go p e w_ T m pc Ls (argsL.reverse ++ .ref b :: rest) target := by
  have hsize : Ls.size = c.maxLocals := hz.trans hml.symm
  obtain ⟨_, _, qa, -, qc⟩ := isOf hZ eT E
  obtain ⟨v, _, ⟨T', L', k', n'⟩, -, X', ⟨L, hQ, l1, l2, l3⟩, st⟩ := X.virtualBack hx (y := y) (z := y) hown (mvT hZ w1) (mvT hZ w2) (notFace_of_selects (args := args) (mvT hZ w3)) (mvT hZ w3) (mvT hZ w4) hy (backOf (W := W) hM hZ wc wz hf hlo) qa qc (g := mkF m pc Ls (argsL.reverse ++ .ref b :: rest)) rfl hsize (Steps.refl _) (argsL := argsL) (rest := rest) hlen rfl (by show 2 * 0 + _ ≤ _; omega) hdg (fun _ _ => ⟨has, eT, hc, hs⟩)
  dsimp only [Pt.U, Pt.locs, Pt.cells, Pt.slots] at X' hQ l1 l2 l3 st
  subst l1 l2 l3
  exact ⟨v, T', L, X', hQ, fun _ k => st.trans k⟩
theorem own_ic (X : Stand p l e R s m args w_ meth c T locs cells slots) (hx : p.tables.exec = Jvm.exec) (hZ : Z.Warmed39 s.vm) {own : String} {index : Nat} {y : MethodName} (hn : y.name = "<init>") (hown : s.vm.findClass own = some m.cls) {nl : Nat} (hml : c.maxLocals = nl) (w1 : (Cond.methodLink own index y).before a0 Z = true) (w2 : (Cond.instanceMethod y).before a0 Z = true)
    {bytes : ByteArray} {maxL : Nat} {rm : Room} {as' : Array Value} {Q : Option Value → Heap → List Loc → Prop} (hM : Met l Z h [] y bytes maxL none rm as' Q) (wc : (Cond.code y bytes maxL none).before a0 Z = true) (wz : (Cond.initialized y.cls).before a0 Z = true) (eT : T.heap = h) {W : Nat}
    {pc : Nat} {Ls : Array Slot} {b : Addr} {argsL rest : List Value} (hlen : ∀ sig, parseMethodDescriptor y.desc = some sig → argsL.length = sig.parameters.length) (hdg : decode c.code pc = .ok (.invokespecial index, 3)) (hy : y.cls ≠ "java/lang/invoke/MethodHandle" ∧ y.cls ≠ "java/lang/invoke/VarHandle" := by decide) (hf : rm.frames + 1 ≤ R.frames := by decide) (hlo : W + (maxL + 11) + rm.locals ≤ R.locals := by decide) (hz : Ls.size = nl := by rfl) (hW : (rest.map fun v => v.category).sum ≤ W := by exact Nat.le_of_eq rfl) (has : (.ref b :: argsL).toArray = as' := by rfl) (hc : cells + rm.cells ≤ R.cells := by decide) (hs : slots + rm.slots ≤ R.slots := by decide) :
    ∃ (v : Option Value) (T' : State) (L : List Loc), Stand p l e R s m args w_ meth c T' (locs ++ L) (cells + rm.cells) (slots + rm.slots) ∧ Q v T'.heap L ∧ ∀ target, Go p e w_ T' m (pc + 3) Ls (v.toList ++ rest) target → Go p e w_ T m pc Ls (argsL.reverse ++ .ref b :: rest) target := by
  have hsize : Ls.size = c.maxLocals := hz.trans hml.symm
  obtain ⟨v, _, ⟨T', L', k', n'⟩, -, X', ⟨L, hQ, l1, l2, l3⟩, st⟩ := X.specialBack hx (y := y) hn hown (mvT hZ w1) (mvT hZ w2) (mvT hZ wc) hy (backOf (W := W) hM hZ wc wz hf hlo) (g := mkF m pc Ls (argsL.reverse ++ .ref b :: rest)) rfl hsize (Steps.refl _) (a := b) (argsL := argsL) (rest := rest) hlen rfl (by show 2 * 0 + _ ≤ _; omega) hdg (fun _ _ => ⟨has, eT, hc, hs⟩)
  dsimp only [Pt.U, Pt.locs, Pt.cells, Pt.slots] at X' hQ l1 l2 l3 st
  subst l1 l2 l3
  exact ⟨v, T', L, X', hQ, fun _ k => st.trans k⟩
end OwnCalls

theorem own_toInt {n : Nat} (h : n < 2147483648) : (Int32.ofNat n).toInt = n := Int32.toInt_ofNat_of_lt h
theorem own_n {n : Nat} (h : n < 2147483648) : (Int32.ofNat n).toNatClampNeg = n := by
  show (Int32.ofNat n).toInt.toNat = n
  rw [own_toInt h]; rfl
theorem own_lt {a b : Nat} (ha : a < 2147483648) (hb : b < 2147483648) : Int32.ofNat a < Int32.ofNat b ↔ a < b := by
  rw [Int32.lt_iff_toInt_lt, own_toInt ha, own_toInt hb]; omega
theorem own_nn {n : Nat} (h : n < 2147483648) : ¬ Int32.ofNat n < 0 := fun q => absurd ((own_lt (b := 0) h (by decide)).mp q) (by omega)
theorem own_eq {a b : Nat} (ha : a < 2147483648) (hb : b < 2147483648) : Int32.ofNat a = Int32.ofNat b ↔ a = b := by
  constructor
  · intro q
    have := congrArg Int32.toInt q
    rw [own_toInt ha, own_toInt hb] at this; omega
  · rintro rfl; rfl
theorem own_add (a b : Nat) : Int32.ofNat a + Int32.ofNat b = Int32.ofNat (a + b) := (Int32.ofNat_add a b).symm
theorem own_sub {a b : Nat} (h : b ≤ a) : Int32.ofNat a - Int32.ofNat b = Int32.ofNat (a - b) := by
  have : Int32.ofNat a = Int32.ofNat (a - b) + Int32.ofNat b := by rw [own_add, Nat.sub_add_cancel h]
  rw [this]; simp
theorem own_shl0 (x : Int32) : x <<< ((0 : Int32) &&& 31) = x := by
  rw [show ((0 : Int32) &&& 31) = 0 by decide]; simp
theorem own_shr0 (x : Int32) : x >>> ((0 : Int32) &&& 31) = x := by
  rw [show ((0 : Int32) &&& 31) = 0 by decide]; simp
def cv (u : UInt16) : Int32 := u.toUInt32.toInt32
def cLo (u : UInt16) : Int32 := u.toUInt8.toInt8.toInt32
def cHi (u : UInt16) : Int32 := (u >>> 8).toUInt8.toInt8.toInt32
theorem own_shl1 (n : Nat) : Int32.ofNat n <<< ((1 : Int32) &&& 31) = Int32.ofNat (2 * n) := by
  rw [show ((1 : Int32) &&& 31) = 1 by decide]
  apply Int32.toBitVec_inj.mp
  apply BitVec.eq_of_toNat_eq
  rw [Int32.toBitVec_shiftLeft, show (Int32.toBitVec 1).smod 32 = 1#32 by decide]
  show (BitVec.ofNat 32 n <<< 1#32).toNat = (BitVec.ofNat 32 (2 * n)).toNat
  rw [BitVec.shiftLeft_eq', BitVec.toNat_shiftLeft]
  simp [Nat.shiftLeft_eq]
  omega
theorem own_shr1 {n : Nat} (h : n < 2147483648) : Int32.ofNat n >>> ((1 : Int32) &&& 31) = Int32.ofNat (n / 2) := by
  rw [show ((1 : Int32) &&& 31) = 1 by decide]
  apply Int32.toBitVec_inj.mp
  rw [Int32.toBitVec_shiftRight, show (Int32.toBitVec 1).smod 32 = 1#32 by decide]
  apply BitVec.eq_of_toInt_eq
  rw [BitVec.toInt_sshiftRight']
  show (Int32.ofNat n).toInt >>> _ = (Int32.ofNat (n / 2)).toInt
  rw [own_toInt h, own_toInt (by omega)]
  simp [Int.shiftRight_eq_div_pow]
theorem own_lo (u : UInt16) : (cv u).toInt8.toInt32 = cLo u := by
  unfold cv cLo
  congr 1
  apply Int8.toBitVec_inj.mp
  simp only [Int32.toBitVec_toInt8, UInt32.toBitVec_toInt32, UInt16.toBitVec_toUInt32, UInt8.toBitVec_toInt8, UInt16.toBitVec_toUInt8, Int8.toBitVec_toInt32, Int32.toBitVec_shiftRight, UInt16.toBitVec_shiftRight]
  apply BitVec.eq_of_toNat_eq
  rw [BitVec.signExtend_eq_setWidth_of_le _ (by decide)]
  simp
theorem own_cvc (u : UInt16) : (cv u).toUInt32.toUInt16.toUInt32.toInt32 = cv u := by simp [cv]
theorem own_b8 (x : Int32) : x.toInt8.toInt32.toInt8.toInt32 = x.toInt8.toInt32 := by simp
theorem own_lo8 (u : UInt16) : (cLo u).toInt8.toInt32 = cLo u := by simp [cLo]
theorem own_hi8 (u : UInt16) : (cHi u).toInt8.toInt32 = cHi u := by simp [cHi]
theorem own_hi (u : UInt16) : (cv u >>> ((8 : Int32) &&& 31)).toInt8.toInt32 = cHi u := by
  rw [show ((8 : Int32) &&& 31) = 8 by decide]
  unfold cv cHi
  congr 1
  apply Int8.toBitVec_inj.mp
  simp only [Int32.toBitVec_toInt8, UInt32.toBitVec_toInt32, UInt16.toBitVec_toUInt32, UInt8.toBitVec_toInt8, UInt16.toBitVec_toUInt8, Int8.toBitVec_toInt32, Int32.toBitVec_shiftRight, UInt16.toBitVec_shiftRight]
  rw [BitVec.signExtend_eq_setWidth_of_le _ (by decide), show (Int32.toBitVec 8).smod 32 = 8#32 by decide, show UInt16.toBitVec 8 % 16 = 8#16 by decide]
  ext i hi
  simp [BitVec.getLsbD_sshiftRight, show ¬ 32 ≤ i by omega, show 8 + i < 32 by omega]
theorem own_b32 (b : BitVec 8) : (b.signExtend 32 &&& 255#32) = b.setWidth 32 := by
  have q : ∀ i : Fin 256, ((BitVec.ofFin (w := 8) i).signExtend 32 &&& 255#32) = (BitVec.ofFin (w := 8) i).setWidth 32 := by decide +kernel
  exact q b.toFin
theorem own_rdb (u : UInt16) : (cLo u &&& (255 : Int32)).toBitVec = (u.toBitVec.setWidth 8).setWidth 32 := own_b32 (u.toBitVec.setWidth 8)
theorem own_rdh (u : UInt16) : (cHi u &&& (255 : Int32)).toBitVec = ((u.toBitVec >>> 8).setWidth 8).setWidth 32 := own_b32 ((u.toBitVec >>> 8).setWidth 8)
theorem own_rd {u : UInt16} (h : u < 256) : (cLo u &&& (255 : Int32)) = cv u := by
  apply Int32.toBitVec_inj.mp
  rw [own_rdb]
  show _ = u.toBitVec.setWidth 32
  apply BitVec.eq_of_toNat_eq
  have q : u.toNat < 256 := h
  simp
  omega
theorem own_rdc {u : UInt16} (h : u < 256) : (cLo u &&& (255 : Int32)).toUInt32.toUInt16.toUInt32.toInt32 = cv u := by rw [own_rd h, own_cvc]
theorem own_get (u : UInt16) : (((cLo u) &&& (255 : Int32)) ||| ((cHi u &&& (255 : Int32)) <<< ((8 : Int32) &&& 31))).toUInt32.toUInt16.toUInt32.toInt32 = cv u := by
  rw [show ((8 : Int32) &&& 31) = 8 by decide]
  apply Int32.toBitVec_inj.mp
  show (BitVec.setWidth 32 (BitVec.setWidth 16 ((cLo u &&& (255 : Int32)) ||| ((cHi u &&& (255 : Int32)) <<< (8 : Int32))).toBitVec)) = u.toBitVec.setWidth 32
  rw [Int32.toBitVec_or, Int32.toBitVec_shiftLeft, own_rdb, own_rdh, show (Int32.toBitVec 8).smod 32 = 8#32 by decide]
  ext i hi
  simp
  by_cases h8 : i < 8
  · simp [h8]
  · simp [h8]
    by_cases h16 : i < 16
    · have e8 : 8 + (i - 8) = i := by omega
      simp [h16, e8, show i - 8 < 16 by omega, show i - 8 < 8 by omega]
    · simp [h16]
      apply BitVec.getLsbD_of_ge; omega
theorem own_inb {cl : Cell} {N j : Int32} {i : Nat} {vs : List Int32} (S : cl.slots.size = N.toNatClampNeg) (hN : N.toNatClampNeg = vs.length) (h0 : ¬ j < 0) (hj : j.toNatClampNeg = i) (hi : i < vs.length) : ¬ (j < 0 ∨ cl.slots.size ≤ j.toNatClampNeg) := by
  rintro (q | q)
  · exact h0 q
  · omega
theorem own_at {Z : State} {h : Heap} {a : Addr} {k : ClassId} {ty : FieldType} {N j : Int32} {i : Nat} {vs : List Int32} (F : Arv Z h a k ty N (vs.map Value.int) (.int (0 : Int32))) (hN : N.toNatClampNeg = vs.length) (h0 : ¬ j < 0) (hj : j.toNatClampNeg = i) (hi : i < vs.length) :
    ∃ cl, Arr Z h a cl ty ∧ ¬ (j < 0 ∨ cl.slots.size ≤ j.toNatClampNeg) ∧ cl.slots[j.toNatClampNeg]? = some (.int (vs.getD i 0)) := by
  obtain ⟨cl, A, -, S, -, H, -⟩ := F
  have hb := own_inb S hN h0 hj hi
  refine ⟨cl, A, hb, Has.at H hb ?_⟩
  rw [hj]
  simp [List.getD_eq_getElem?_getD, hi]
theorem own_us {vs : List Int32} {sp nn : Int32} {a n : Nat} (h1 : sp.toNatClampNeg = a) (h2 : nn.toNatClampNeg = n) (h : a + n ≤ vs.length) : ((vs.drop a).take n).map Value.int = (List.range nn.toNatClampNeg).map fun i => (vs.map Value.int).getD (sp.toNatClampNeg + i) (.int (0 : Int32)) := by
  rw [h1, h2]
  apply List.ext_getElem
  · simp; omega
  · intro i q1 q2
    have : i < n := by simpa using q2
    simp [List.getD_eq_getElem?_getD, show a + i < vs.length by omega]
def enc1 : List UInt16 → List Int32
  | [] => []
  | u :: cs => cLo u :: cHi u :: enc1 cs
theorem enc1_len : ∀ cs : List UInt16, (enc1 cs).length = 2 * cs.length
  | [] => rfl
  | u :: cs => by simp [enc1, enc1_len cs]; omega
theorem enc1_app : ∀ a b : List UInt16, enc1 (a ++ b) = enc1 a ++ enc1 b
  | [], _ => rfl
  | u :: a, b => by simp [enc1, enc1_app a b]
theorem enc1_get : ∀ (cs : List UInt16) (i : Nat), i < cs.length → (enc1 cs).getD (2 * i) 0 = cLo (cs.getD i 0) ∧ (enc1 cs).getD (2 * i + 1) 0 = cHi (cs.getD i 0)
  | [], i, h => absurd h (by simp)
  | u :: cs, 0, _ => ⟨rfl, rfl⟩
  | u :: cs, i + 1, h => by
    have := enc1_get cs i (by simpa using h)
    simpa [enc1, Nat.mul_add] using this
def put (vs : List Int32) (i : Nat) (u : UInt16) : List Int32 := (vs.set (2 * i) (cLo u)).set (2 * i + 1) (cHi u)
def puts : List Int32 → Nat → List UInt16 → List Int32
  | vs, _, [] => vs
  | vs, i, u :: cs => puts (put vs i u) (i + 1) cs
theorem put_len (vs : List Int32) (i : Nat) (u : UInt16) : (put vs i u).length = vs.length := by simp [put]
theorem puts_len : ∀ (cs : List UInt16) (vs : List Int32) (i : Nat), (puts vs i cs).length = vs.length
  | [], _, _ => rfl
  | u :: cs, vs, i => by rw [puts, puts_len, put_len]
theorem puts_eq : ∀ (cs : List UInt16) (vs : List Int32) (i : Nat), 2 * (i + cs.length) ≤ vs.length → puts vs i cs = vs.take (2 * i) ++ enc1 cs ++ vs.drop (2 * (i + cs.length))
  | [], vs, i, _ => by simp [puts, enc1]
  | u :: cs, vs, i, h => by
    have h' : 2 * (i + cs.length + 1) ≤ vs.length := by simpa [Nat.add_assoc] using h
    rw [puts, puts_eq cs _ _ (by rw [put_len]; omega)]
    have e1 : (put vs i u).take (2 * (i + 1)) = vs.take (2 * i) ++ [cLo u, cHi u] := by
      apply List.ext_getElem?
      intro j
      unfold put
      by_cases q : j < 2 * i
      · simp [List.getElem?_append, List.getElem?_take, List.getElem?_set, show j < 2 * (i + 1) by omega, q, show min (2 * i) vs.length = 2 * i by omega, show ¬ 2 * i + 1 = j by omega, show ¬ 2 * i = j by omega]
      · by_cases q1 : j = 2 * i
        · subst q1
          simp [List.getElem?_append, List.getElem?_take, List.getElem?_set, show min (2 * i) vs.length = 2 * i by omega, show 2 * i < vs.length by omega, show 2 * i < 2 * (i + 1) by omega]
        · by_cases q2 : j = 2 * i + 1
          · subst q2
            simp [List.getElem?_append, List.getElem?_take, List.getElem?_set, show min (2 * i) vs.length = 2 * i by omega, show 2 * i + 1 < vs.length by omega, show 2 * i + 1 < 2 * (i + 1) by omega]
          · simp [List.getElem?_append, List.getElem?_take, show ¬ j < 2 * (i + 1) by omega, q, show min (2 * i) vs.length = 2 * i by omega]
            omega
    have e2 : (put vs i u).drop (2 * (i + 1 + cs.length)) = vs.drop (2 * (i + (u :: cs).length)) := by
      unfold put
      rw [show i + (u :: cs).length = i + 1 + cs.length by simp; omega]
      rw [List.drop_set, if_pos (by omega), List.drop_set, if_pos (by omega)]
    rw [e1, e2]
    simp [enc1]
theorem own_shr2 {n : Nat} (h : 2 * n < 2147483648) : Int32.ofNat (2 * n) >>> ((1 : Int32) &&& 31) = Int32.ofNat n := by
  rw [own_shr1 h]; congr 1; omega
theorem own_selQ {Z s : State} {a0 args : Array Value} {C : String} {y : MethodName} (hZ : Z.Warmed39 s.vm) (ws : (Jvm.Cond.selects C y y).before a0 Z = true) (wp : (Jvm.Cond.privateMethod y).before a0 Z = true) (wm : (Jvm.Cond.instanceMethod y).before a0 Z = true)
    (hy : y.cls ≠ "java/lang/invoke/MethodHandle" ∧ y.cls ≠ "java/lang/invoke/VarHandle" := by decide) : (Jvm.Cond.selects y.cls y y).before args s = true := by
  have w1 : (Jvm.Cond.selects C y y).before args s = true := mvT hZ ws
  obtain ⟨c2, r2, m2, q1, q2, q3, q4, kP, hkP, hkPi⟩ := Cond.selects_spec w1
  exact selects_self_of_private (findClass_of_methodNamed q3) hkP hkPi (Cond.privateMethod_at (mvP hZ wp (args := args))) (mvT hZ wm) hy
theorem own_same {Z : State} {a0 : Array Value} {C : String} {y z : MethodName} (wd : (Jvm.Cond.declares y).before a0 Z = true) (ws : (Jvm.Cond.selects C z z).before a0 Z = true) (hz : z.cls = y.cls := by rfl)
    (hy : y.cls ≠ "java/lang/invoke/MethodHandle" ∧ y.cls ≠ "java/lang/invoke/VarHandle" := by decide) : (Jvm.Cond.sameMethod y.cls y.cls y.name y.desc).before a0 Z = true := by
  obtain ⟨m, meth, h1, h2, -, -⟩ := Cond.declares_spec wd
  obtain ⟨c2, r2, m2, q1, q2, q3, q4, kP, hkP, hkPi⟩ := Cond.selects_spec ws
  have hc := findClass_of_methodNamed h1
  have hc2 := findClass_of_methodNamed q3
  rw [hz, hc] at hc2
  have e : m.cls = m2.cls := Option.some.inj hc2
  have hf := State.methodFound?_of_named h1 hy
  have h1' : Z.methodNamed? ⟨y.cls, y.name, y.desc⟩ = some m := h1
  have hkP' : Z.vm.classes[m.cls]? = some kP := by rw [e]; exact hkP
  simp [Cond.before, Cond.holds, Cond.value, hc, hf, h1', hkP', hkPi]
theorem own_len {Z : State} {h : Heap} {a : Addr} {k : ClassId} {ty : FieldType} {n m : Nat} {vs : List Value} {d : Value} (F : Arv Z h a k ty (Int32.ofNat n) vs d) (e : n = m) : Arv Z h a k ty (Int32.ofNat m) vs d := e ▸ F
theorem own_retN {p : Program} {l : Launch} {e : Env} {R : Room} {s : State} {m : MethodId} {args : Array Value} {w_ : List Frame} {meth : Method} {c : Code} {T : State} {locs : List Loc} {cells slots : Nat} (X : Stand p l e R s m args w_ meth c T locs cells slots) (hx : p.tables.exec = Jvm.exec) {pc : Nat} {Ls : Array Slot} {z : Int32} {t : FieldType} {rest : List Value} (hq : nar t z = z) (hret : meth.sig.returnType = some t) (ht : t = .boolean ∨ t = .byte ∨ t = .char ∨ t = .short)
    (hd : decode c.code pc = .ok (.ireturn, 1)) {fs : List Frame} (hl : ∀ (f : JFrame) (acts : List Action), f.method = m → f.locked = none → f.entered = [] → (doReturn e (T.setTop f) acts (some (.int z))).1 = T.setFrames fs) :
    Go p e w_ T m pc Ls (.int z :: rest) (T.setFrames fs) := retN X hx hret ht hd (by rw [hq]; exact hl)
theorem own_cvn (u : UInt16) : cv u = Int32.ofNat u.toNat := by
  apply Int32.toBitVec_inj.mp
  show u.toBitVec.setWidth 32 = BitVec.ofNat 32 u.toNat
  apply BitVec.eq_of_toNat_eq
  simp
theorem own_cvlt (u : UInt16) : (255 : Int32) < cv u ↔ ¬ u < 256 := by
  rw [own_cvn]
  have h := own_lt (a := 255) (b := u.toNat) (by decide) (by have := u.toNat_lt; omega)
  have h2 : u < 256 ↔ u.toNat < 256 := Iff.rfl
  constructor
  · intro q z; have := h.mp q; have := h2.mp z; omega
  · intro q; apply h.mpr; have : ¬ u.toNat < 256 := fun z => q (h2.mpr z); omega
theorem own_all1 {u : UInt16} (h : ¬ (255 : Int32) < cv u) : ∀ x ∈ [u], x < 256 := fun x hx => by
  cases List.mem_singleton.mp hx
  exact Decidable.of_not_not fun q => h ((own_cvlt u).mpr q)
theorem own_or (a b : Nat) : Int32.ofNat a ||| Int32.ofNat b = Int32.ofNat (a ||| b) := by
  apply Int32.toBitVec_inj.mp
  rw [Int32.toBitVec_or]
  show BitVec.ofNat 32 a ||| BitVec.ofNat 32 b = BitVec.ofNat 32 (a ||| b)
  apply BitVec.eq_of_toNat_eq
  simp [Nat.or_mod_two_pow]
theorem own_cvd {cs : List UInt16} {i : Nat} (hi : i < cs.length) : (cs.map cv).getD i 0 = cv (cs.getD i 0) := by simp [List.getD_eq_getElem?_getD, hi]
def sets : List Int32 → Nat → List UInt16 → List Int32
  | vs, _, [] => vs
  | vs, i, u :: cs => sets (vs.set i (cLo u)) (i + 1) cs
theorem sets_len : ∀ (cs : List UInt16) (vs : List Int32) (i : Nat), (sets vs i cs).length = vs.length
  | [], _, _ => rfl
  | u :: cs, vs, i => by rw [sets, sets_len, List.length_set]
theorem sets_eq : ∀ (cs : List UInt16) (vs : List Int32) (i : Nat), i + cs.length ≤ vs.length → sets vs i cs = vs.take i ++ cs.map cLo ++ vs.drop (i + cs.length)
  | [], vs, i, _ => by simp [sets]
  | u :: cs, vs, i, h => by
    have h' : i + cs.length + 1 ≤ vs.length := by simpa [Nat.add_assoc] using h
    rw [sets, sets_eq cs _ _ (by rw [List.length_set]; omega)]
    have e1 : (vs.set i (cLo u)).take (i + 1) = vs.take i ++ [cLo u] := by
      rw [List.take_add_one, List.take_set]
      rw [List.set_eq_of_length_le (by simp; omega)]
      simp [show i < vs.length by omega]
    have e2 : (vs.set i (cLo u)).drop (i + 1 + cs.length) = vs.drop (i + (u :: cs).length) := by
      rw [List.drop_set, if_pos (by omega)]; congr 1; simp; omega
    rw [e1, e2]
    simp
theorem own_first : ∀ cs : List UInt16, ¬ (∀ u ∈ cs, u < 256) → ∃ n, n < cs.length ∧ (∀ j, j < n → ¬ (255 : Int32) < cv (cs.getD j 0)) ∧ (255 : Int32) < cv (cs.getD n 0)
  | [], h => absurd (fun u hu => nomatch hu) h
  | u :: cs, h => by
    by_cases hu : u < 256
    · have h' : ¬ (∀ x ∈ cs, x < 256) := fun q => h fun x hx => by
        rcases List.mem_cons.mp hx with rfl | hx
        · exact hu
        · exact q x hx
      obtain ⟨n, h1, h2, h3⟩ := own_first cs h'
      refine ⟨n + 1, by simpa using h1, fun j hj => ?_, by simpa using h3⟩
      cases j with
      | zero => exact fun q => (own_cvlt u).mp q hu
      | succ j => simpa using h2 j (by omega)
    · exact ⟨0, by simp, fun j hj => absurd hj (by omega), (own_cvlt u).mpr hu⟩
theorem own_cf0 (i : Nat) : (((Int32.ofNat i) - (Int32.ofNat i)).toUInt32 >>> ((31 : Int32) &&& 31).toUInt32).toInt32.toInt8.toInt32 = 0 := by
  rw [own_sub (Nat.le_refl i), Nat.sub_self]; decide
theorem own_cf1 {i : Nat} (h1 : 1 ≤ i) (h2 : i < 1073741824) : (((Int32.ofNat i) - (Int32.ofNat (2 * i))).toUInt32 >>> ((31 : Int32) &&& 31).toUInt32).toInt32.toInt8.toInt32 = 1 := by
  have e : (((Int32.ofNat i) - (Int32.ofNat (2 * i))).toUInt32 >>> ((31 : Int32) &&& 31).toUInt32) = 1 := by
    apply UInt32.toNat_inj.mp
    rw [UInt32.toNat_shiftRight, show (((31 : Int32) &&& 31).toUInt32).toNat % 32 = 31 by decide]
    have e2 : ((Int32.ofNat i) - (Int32.ofNat (2 * i))).toUInt32.toNat = 4294967296 - i := by
      show (BitVec.ofNat 32 i - BitVec.ofNat 32 (2 * i)).toNat = _
      rw [BitVec.toNat_sub]
      simp
      omega
    rw [e2, Nat.shiftRight_eq_div_pow]
    show _ = 1
    omega
  rw [e]; decide
theorem own_sz {Z : State} {n0 : Nat} {h : Heap} (O : Old Z n0 h) : n0 ≤ h.size := O.1 ▸ O.2.1
theorem own_tkl {A tl : List Int32} {n : Nat} (h : A.length = n) : (A ++ tl).take n = A := by subst h; exact List.take_left
theorem own_nf {s : State} {args : Array Value} {C : String} {y z : MethodName} (ws : (Jvm.Cond.selects C z z).before args s = true) (hz : z.cls = y.cls := by rfl) : NotFace s y := fun r0 h0 => by
  obtain ⟨c2, r2, m2, q1, q2, q3, q4, kP, hkP, hkPi⟩ := Cond.selects_spec ws
  have e1 := findClass_of_methodNamed h0
  have e2 := findClass_of_methodNamed q3
  rw [hz, e1] at e2
  exact ⟨kP, by rw [Option.some.inj e2]; exact hkP, hkPi⟩
theorem own_wd {cs : List UInt16} {n : Nat} (h : n < cs.length) (g : (255 : Int32) < cv (cs.getD n 0)) : ¬ ∀ u ∈ cs, u < 256 := fun q => (own_cvlt _).mp g (q _ (by simp [List.getD_eq_getElem?_getD, h]))
def hiS (u : UInt16) : Bool := decide (55296 ≤ u.toNat ∧ u.toNat < 56320)
def loS (u : UInt16) : Bool := decide (56320 ≤ u.toNat ∧ u.toNat < 57344)
def bI (b : Bool) : Int32 := if b = true then 1 else 0
theorem own_bI {b : Bool} : bI b = 0 ↔ b = false := by cases b <;> decide
theorem own_cvu (u : UInt16) : cv u = Int32.ofNat u.toNat := by
  apply Int32.toBitVec_inj.mp
  apply BitVec.eq_of_toNat_eq
  show (u.toUInt32.toBitVec).toNat = (BitVec.ofNat 32 u.toNat).toNat
  have h : u.toNat < 65536 := u.toNat_lt
  rw [BitVec.toNat_ofNat, Nat.mod_eq_of_lt (by omega)]
  rfl
theorem own_cl {u : UInt16} {k : Nat} (hk : k < 2147483648) : cv u < Int32.ofNat k ↔ u.toNat < k := by rw [own_cvu]; exact own_lt (by have := u.toNat_lt; omega) hk
theorem own_cg {u : UInt16} {k : Nat} (hk : k < 2147483648) : Int32.ofNat k < cv u ↔ k < u.toNat := by rw [own_cvu]; exact own_lt hk (by have := u.toNat_lt; omega)
theorem own_hiF {u : UInt16} (h : cv u < (55296 : Int32) ∨ ¬ cv u < (56320 : Int32)) : hiS u = false := by
  have h1 : cv u < (55296 : Int32) ↔ u.toNat < 55296 := own_cl (k := 55296) (by decide)
  have h2 : cv u < (56320 : Int32) ↔ u.toNat < 56320 := own_cl (k := 56320) (by decide)
  rw [h1, h2] at h
  exact decide_eq_false (by omega)
theorem own_hiT {u : UInt16} (h1 : ¬ cv u < (55296 : Int32)) (h2 : cv u < (56320 : Int32)) : hiS u = true := by
  rw [show cv u < (55296 : Int32) ↔ u.toNat < 55296 from own_cl (k := 55296) (by decide)] at h1
  rw [show cv u < (56320 : Int32) ↔ u.toNat < 56320 from own_cl (k := 56320) (by decide)] at h2
  exact decide_eq_true (by omega)
theorem own_loF {u : UInt16} (h : cv u < (56320 : Int32) ∨ ¬ cv u < (57344 : Int32)) : loS u = false := by
  have h1 : cv u < (56320 : Int32) ↔ u.toNat < 56320 := own_cl (k := 56320) (by decide)
  have h2 : cv u < (57344 : Int32) ↔ u.toNat < 57344 := own_cl (k := 57344) (by decide)
  rw [h1, h2] at h
  exact decide_eq_false (by omega)
theorem own_loT {u : UInt16} (h1 : ¬ cv u < (56320 : Int32)) (h2 : cv u < (57344 : Int32)) : loS u = true := by
  rw [show cv u < (56320 : Int32) ↔ u.toNat < 56320 from own_cl (k := 56320) (by decide)] at h1
  rw [show cv u < (57344 : Int32) ↔ u.toNat < 57344 from own_cl (k := 57344) (by decide)] at h2
  exact decide_eq_true (by omega)
theorem own_ghi {u : UInt16} : (56319 : Int32) < cv u ↔ ¬ cv u < (56320 : Int32) := by
  rw [show (56319 : Int32) < cv u ↔ 56319 < u.toNat from own_cg (k := 56319) (by decide), show cv u < (56320 : Int32) ↔ u.toNat < 56320 from own_cl (k := 56320) (by decide)]; omega
theorem own_glo {u : UInt16} : (57343 : Int32) < cv u ↔ ¬ cv u < (57344 : Int32) := by
  rw [show (57343 : Int32) < cv u ↔ 57343 < u.toNat from own_cg (k := 57343) (by decide), show cv u < (57344 : Int32) ↔ u.toNat < 57344 from own_cl (k := 57344) (by decide)]; omega
/-- 1, if a pair of surrogates begins at i and ends ahead of n -/
def prd (us : List UInt16) (n i : Nat) : Nat := if i + 1 < n ∧ hiS (us.getD i 0) = true ∧ loS (us.getD (i + 1) 0) = true then 1 else 0
theorem own_pr0 {us : List UInt16} {n i : Nat} (h : ¬ i + 1 < n ∨ bI (hiS (us.getD i 0)) = 0 ∨ bI (loS (us.getD (i + 1) 0)) = 0) : prd us n i = 0 := by
  rw [own_bI, own_bI] at h
  rw [prd, if_neg]
  rintro ⟨a, b, c⟩
  rcases h with h | h | h
  · exact h a
  · rw [b] at h; cases h
  · rw [c] at h; cases h
theorem own_pr1 {us : List UInt16} {n i : Nat} (h1 : i + 1 < n) (h2 : ¬ bI (hiS (us.getD i 0)) = 0) (h3 : ¬ bI (loS (us.getD (i + 1) 0)) = 0) : prd us n i = 1 := by
  rw [own_bI] at h2 h3
  rw [prd, if_pos ⟨h1, by simpa using h2, by simpa using h3⟩]
theorem own_prle (us : List UInt16) (n i : Nat) : prd us n i ≤ 1 := by rw [prd]; split <;> omega
theorem own_mcd {us : List UInt16} {i : Nat} (h : i < us.length) : (us.map cv).getD i 0 = cv (us.getD i 0) := by simp [List.getD_eq_getElem?_getD, h]
theorem own_dec {n : Nat} (h : 1 ≤ n) : Int32.ofNat n + (-1 : Int32) = Int32.ofNat (n - 1) := (Int32.sub_eq_add_neg (Int32.ofNat n) 1).symm.trans (own_sub h)
/-- what codePointCount reckons from place j on, c being left of its count -/
def cpC (cs : List UInt16) : Nat → Nat → Nat → Nat
  | 0, _, c => c
  | f + 1, j, c => if j + 1 < cs.length then cpC cs f (j + 1 + prd cs cs.length j) (c - prd cs cs.length j) else c
theorem cpC_go {cs : List UInt16} {f j c : Nat} (h : j + 1 < cs.length) : cpC cs (f + 1) j c = cpC cs f (j + 1 + prd cs cs.length j) (c - prd cs cs.length j) := by rw [cpC, if_pos h]
theorem cpC_end {cs : List UInt16} {f j c : Nat} (h : ¬ j + 1 < cs.length) : cpC cs f j c = c := by
  cases f with
  | zero => rfl
  | succ f => rw [cpC, if_neg h]
theorem cpC_le (cs : List UInt16) : ∀ f j c, cpC cs f j c ≤ c
  | 0, _, _ => Nat.le_refl _
  | f + 1, j, c => by
    by_cases h : j + 1 < cs.length
    · rw [cpC_go h]; exact Nat.le_trans (cpC_le cs f _ _) (Nat.sub_le _ _)
    · rw [cpC_end h]; exact Nat.le_refl _
/-- k steps from place x on -/
def opS (cs : List UInt16) : Nat → Nat → Nat
  | 0, x => x
  | k + 1, x => opS cs k (x + 1 + prd cs cs.length x)
theorem own_enctk (cs : List UInt16) (n : Nat) (h : n ≤ cs.length) : (enc1 cs).take (2 * n) = enc1 (cs.take n) := by
  have e : enc1 cs = enc1 (cs.take n) ++ enc1 (cs.drop n) := by rw [← enc1_app, List.take_append_drop]
  rw [e]
  exact own_tkl (by rw [enc1_len, List.length_take]; omega)
theorem own_tkal {cs : List UInt16} {n : Nat} (h : ∀ u ∈ cs, u < 256) : ∀ u ∈ cs.take n, u < 256 := fun u q => h u (List.mem_of_mem_take q)
theorem own_tkg {cs : List UInt16} {n j : Nat} (h : j < n) (g : n ≤ cs.length) : (cs.take n).getD j 0 = cs.getD j 0 := by
  simp [List.getD_eq_getElem?_getD, List.getElem?_take, h]
theorem own_nw {cs : List UInt16} {n : Nat} (h : ∀ j, j < n → ¬ (255 : Int32) < cv (cs.getD j 0)) (g : n ≤ cs.length) : ∀ u ∈ cs.take n, u < 256 := fun u q => by
  obtain ⟨j, hj, rfl⟩ := List.mem_iff_getElem.mp q
  have hj' : j < n := by rw [List.length_take] at hj; omega
  have k := h j hj'
  rw [own_cvlt, Classical.not_not] at k
  have e : (cs.take n)[j] = cs.getD j 0 := by simp [List.getD_eq_getElem?_getD, show j < cs.length by omega]
  rw [e]; exact k
def dg (k : Nat) : UInt16 := UInt16.ofNat (48 + k)
def dgL : List Int32 := (List.range 100).map fun i => Int32.ofNat (48 + i % 10)
theorem own_k9 {P : Nat → Prop} {k : Nat} (h : k ≤ 9) (q : P 0 ∧ P 1 ∧ P 2 ∧ P 3 ∧ P 4 ∧ P 5 ∧ P 6 ∧ P 7 ∧ P 8 ∧ P 9) : P k := by
  obtain ⟨h0, h1, h2, h3, h4, h5, h6, h7, h8, h9⟩ := q
  rcases (by omega : k = 0 ∨ k = 1 ∨ k = 2 ∨ k = 3 ∨ k = 4 ∨ k = 5 ∨ k = 6 ∨ k = 7 ∨ k = 8 ∨ k = 9) with rfl | rfl | rfl | rfl | rfl | rfl | rfl | rfl | rfl | rfl <;> assumption
theorem own_dg {k : Nat} (h : k ≤ 9) : dgL.getD k 0 = cv (dg k) := own_k9 (P := fun k => dgL.getD k 0 = cv (dg k)) h (by decide +kernel)
theorem own_g10 {k : Nat} (h : k ≤ 9) : (-10 : Int32) < (-(Int32.ofNat k)) := own_k9 (P := fun k => (-10 : Int32) < (-(Int32.ofNat k))) h (by decide +kernel)
theorem own_g100 {k : Nat} (h : k ≤ 9) : (-100 : Int32) < (-(Int32.ofNat k)) := own_k9 (P := fun k => (-100 : Int32) < (-(Int32.ofNat k))) h (by decide +kernel)
theorem own_g9 {k : Nat} (h : k ≤ 9) : ¬ (-(Int32.ofNat k)) < (-9 : Int32) := own_k9 (P := fun k => ¬ (-(Int32.ofNat k)) < (-9 : Int32)) h (by decide +kernel)
theorem own_dgl {k : Nat} (h : k ≤ 9) : dg k < 256 := own_k9 (P := fun k => dg k < 256) h (by decide +kernel)
theorem own_sA {cs : List UInt16} {tl : List Int32} {u : UInt16} (h : 1 ≤ tl.length) : (cs.map cLo ++ tl).set cs.length (cLo u) = (cs ++ [u]).map cLo ++ tl.drop 1 := by
  cases tl with
  | nil => simp at h
  | cons t tl =>
    rw [List.set_append_right _ _ (by simp)]
    simp
abbrev Fin_ (p : Program) (e : Env) (w_ : List Frame) (s₁ : State) (m : MethodId) (A : Array Value) (n : Nat) (s : State) (rm : Room) (Q : Option Value → Heap → List Loc → Prop) : Prop := ∃ (U : State) (o : Outcome), Steps p.tables e w_ (s₁.setTop (entryFrame m A n)) U ∧ U.status = .running ∧ Ended U w_ o ∧ ∃ v L, o = .returned v ∧ Q v U.heap L ∧ FrameEnd s o U L rm.cells rm.slots
theorem own_met {l : Launch} {Z : State} {h0 : Heap} {ws : List Jvm.Cond} {y : MethodName} {b : ByteArray} {n : Nat} {r : Option FieldType} {rm : Room} {A : Array Value} {Q : Option Value → Heap → List Loc → Prop} (hp : plainFor y = true)
    (H : ∀ (p : Program) (e : Env) (s : State) (m : MethodId) (w_ : List Frame) (meth : Method) (c : Code) (s₁ : State), p.tables.exec = Jvm.exec → c.code = b → c.maxLocals = n → Z.Warmed39 s.vm → s.heap = h0 → s.vm.findClass y.cls = some m.cls → meth.name = y.name → meth.sig.returnType = r → meth.locks = false → Stand p l e rm s m A w_ meth c s₁ [] 0 0 → s₁.heap = h0 → Fin_ p e w_ s₁ m A n s rm Q) : Met l Z h0 ws y b n r rm A Q := by
  refine MetFree.of_bodySF hp hisR ?_
  intro p e s m args w_ meth c s₁ Bd hml hP _
  obtain ⟨rfl, hZ, hh⟩ := hP
  exact H p e s m w_ meth c s₁ Bd.exec Bd.bytes hml hZ hh (findClass_of_methodNamed Bd.named) (name_of_methodNamed Bd.named Bd.method).1 Bd.returns Bd.notSynchronized (Stand.of_body Bd) (by rw [← hh, Bd.state]; rfl)
section OwnLeaves
variable {p : Program} {l : Launch} {e : Env} {rm : Room} {s s₁ : State} {m : MethodId} {A : Array Value} {w_ : List Frame} {meth : Method} {c : Code} {T : State} {L : List Loc} {cells slots n : Nat} {Q : Option Value → Heap → List Loc → Prop}
theorem own_lv (X : Stand p l e rm s m A w_ meth c T L cells slots) (hlk : meth.locks = false) {v : Option Value} (hv : meth.sig.returnType = none → v = none) (hc : cells ≤ rm.cells) (hs : slots ≤ rm.slots)
    (k : ∀ fs, (∀ (f : JFrame) (acts : List Action), f.method = m → f.locked = none → f.entered = [] → (doReturn e (T.setTop f) acts v).1 = T.setFrames fs) → Steps p.tables e w_ (s₁.setTop (entryFrame m A n)) (T.setFrames fs)) (hq : Q v T.heap L) : Fin_ p e w_ s₁ m A n s rm Q := by
  obtain ⟨fs, hr, hrun, hended, hW, hsame⟩ := X.leave (v := v) hv hlk
  exact ⟨_, _, k fs hr, hrun, hended, _, _, rfl, hq, ⟨_, rfl⟩, hW, hsame.mono hc hs⟩
theorem own_lvV (X : Stand p l e rm s m A w_ meth c T L cells slots) (hx : p.tables.exec = Jvm.exec) (hlk : meth.locks = false) (hret : meth.sig.returnType = none) {pc : Nat} (hd : decode c.code pc = .ok (.return_, 1)) (hc : cells ≤ rm.cells) (hs : slots ≤ rm.slots) {Ls : Array Slot}
    (k : ∀ target, Go p e w_ T m pc Ls [] target → Steps p.tables e w_ (s₁.setTop (entryFrame m A n)) target) (hq : Q none T.heap L) : Fin_ p e w_ s₁ m A n s rm Q := own_lv X hlk (fun _ => rfl) hc hs (fun _ hr => k _ (X.returnOut hx hret hd hr)) hq
theorem own_lvA (X : Stand p l e rm s m A w_ meth c T L cells slots) (hx : p.tables.exec = Jvm.exec) (hlk : meth.locks = false) {t : FieldType} (hret : meth.sig.returnType = some t) (ht : t.isReference = true) {pc : Nat} (hd : decode c.code pc = .ok (.areturn, 1)) (hc : cells ≤ rm.cells) (hs : slots ≤ rm.slots) {w : Value} (hw : w.isRef = true) {Ls : Array Slot} {rest : List Value}
    (k : ∀ target, Go p e w_ T m pc Ls (w :: rest) target → Steps p.tables e w_ (s₁.setTop (entryFrame m A n)) target) (hq : Q (some w) T.heap L) : Fin_ p e w_ s₁ m A n s rm Q := own_lv X hlk (fun h => by rw [hret] at h; cases h) hc hs (fun _ hr => k _ (retOut X hx hret (narrow_isRef t hw) (Or.inr (Or.inr (Or.inr (Or.inr ⟨rfl, ht, hw⟩)))) hd hr)) hq
theorem own_lvI (X : Stand p l e rm s m A w_ meth c T L cells slots) (hx : p.tables.exec = Jvm.exec) (hlk : meth.locks = false) (hret : meth.sig.returnType = some .int) {pc : Nat} (hd : decode c.code pc = .ok (.ireturn, 1)) (hc : cells ≤ rm.cells) (hs : slots ≤ rm.slots) {z : Int32} {Ls : Array Slot} {rest : List Value}
    (k : ∀ target, Go p e w_ T m pc Ls (.int z :: rest) target → Steps p.tables e w_ (s₁.setTop (entryFrame m A n)) target) (hq : Q (some (.int z)) T.heap L) : Fin_ p e w_ s₁ m A n s rm Q := own_lv X hlk (fun h => by rw [hret] at h; cases h) hc hs (fun _ hr => k _ (retI X hx hret hd hr)) hq
theorem own_lvN (X : Stand p l e rm s m A w_ meth c T L cells slots) (hx : p.tables.exec = Jvm.exec) (hlk : meth.locks = false) {t : FieldType} (hret : meth.sig.returnType = some t) (ht : t = .boolean ∨ t = .byte ∨ t = .char ∨ t = .short) {pc : Nat} (hd : decode c.code pc = .ok (.ireturn, 1)) (hc : cells ≤ rm.cells) (hs : slots ≤ rm.slots) {z : Int32} (hn : nar t z = z) {Ls : Array Slot} {rest : List Value}
    (k : ∀ target, Go p e w_ T m pc Ls (.int z :: rest) target → Steps p.tables e w_ (s₁.setTop (entryFrame m A n)) target) (hq : Q (some (.int z)) T.heap L) : Fin_ p e w_ s₁ m A n s rm Q := own_lv X hlk (fun h => by rw [hret] at h; cases h) hc hs (fun _ hr => k _ (own_retN X hx hn hret ht hd hr)) hq
end OwnLeaves
theorem own_opS (rm : Room) {p : Program} {l : Launch} {x : MethodName} {S : Spec} {code : ByteArray} {n : Nat} {ret : Option FieldType} {e : Env} {s : State} {m : MethodId} {A : Array Value} {w_ : List Frame} {meth : Method} {c : Code} {s₁ : State} {Z : State} {h0 : Heap} {EL : List (String × Nat)} (Bd : BodyLoose p l x S code n ret e s m A w_ meth c s₁) (hml0 : c.maxLocals = n) (hZ : Z.Warmed39 s.vm) (hh : s.heap = h0) (H0 : CHv Z EL s.vm h0) (hr : S.room = rm := by rfl) :
    p.tables.exec = Jvm.exec ∧ c.code = code ∧ c.maxLocals = n ∧ (s.setVm s.vm).vm.findClass x.cls = some m.cls ∧ meth.name = x.name ∧ Stand p l e rm (s.setVm s.vm) m A w_ meth c s₁ [] 0 0 ∧ s₁.heap = h0 ∧ Z.Warmed39 (s.setVm s.vm).vm ∧ s.Since s.vm 0 ∧ 0 ≤ h0.size ∧ CHr Z EL s.vm h0 s.vm h0 :=
  ⟨Bd.exec, Bd.bytes, hml0, findClass_of_methodNamed Bd.named, (name_of_methodNamed Bd.named Bd.method).1, hr ▸ Stand.of_body Bd, by rw [← hh, Bd.state]; rfl, hZ, (State.WarmedH.refl s).since 0, Nat.zero_le _, CHr.refl H0⟩
theorem own_pc {p : Program} {l : Launch} {e : Env} {R : Room} {s : State} {m : MethodId} {args : Array Value} {w_ : List Frame} {meth : Method} {c : Code} {T : State} {locs : List Loc} {cells slots : Nat} {Z : State} {a0 : Array Value} {h : Heap} (X : Stand p l e R s m args w_ meth c T locs cells slots) (hx : p.tables.exec = Jvm.exec) (hZ : Z.Warmed39 s.vm) {own C D : String} {index : Nat} {y : MethodName} (hown : s.vm.findClass own = some m.cls) {nl : Nat} (hml : c.maxLocals = nl) (w1 : (Cond.methodLink own index y).before a0 Z = true) (w2 : (Cond.instanceMethod y).before a0 Z = true) (w3 : (Cond.selects C y y).before a0 Z = true) (w4 : (Cond.privateMethod y).before a0 Z = true)
    {bytes : ByteArray} {maxL : Nat} {ret : Option FieldType} {rm : Room} {as' : Array Value} {Q : Option Value → Heap → List Loc → Prop} (hM : Met l Z h [] y bytes maxL ret rm as' Q) (wc : (Cond.code y bytes maxL ret).before a0 Z = true) (wz : (Cond.initialized y.cls).before a0 Z = true) (eT : T.heap = h) {b : Addr} (E : Exa Z h b D) {W : Nat}
    {pc : Nat} {Ls : Array Slot} {argsL rest : List Value} (hlen : ∀ sig, parseMethodDescriptor y.desc = some sig → argsL.length = sig.parameters.length) (hdg : decode c.code pc = .ok (.invokevirtual index, 3)) (hy : y.cls ≠ "java/lang/invoke/MethodHandle" ∧ y.cls ≠ "java/lang/invoke/VarHandle" := by decide) (hf : rm.frames + 1 ≤ R.frames := by decide) (hlo : W + (maxL + 11) + rm.locals ≤ R.locals := by decide) (hz : Ls.size = nl := by rfl) (hW : (rest.map fun v => v.category).sum ≤ W := by exact Nat.le_of_eq rfl) (has : (.ref b :: argsL).toArray = as' := by rfl) (hc : cells + rm.cells ≤ R.cells := by decide) (hs : slots + rm.slots ≤ R.slots := by decide) :
    ∃ (v : Option Value) (T' : State) (L : List Loc), Stand p l e R s m args w_ meth c T' (locs ++ L) (cells + rm.cells) (slots + rm.slots) ∧ Q v T'.heap L ∧ ∀ target, Go p e w_ T' m (pc + 3) Ls (v.toList ++ rest) target → Go p e w_ T m pc Ls (argsL.reverse ++ .ref b :: rest) target := by
  have hsize : Ls.size = c.maxLocals := hz.trans hml.symm
  obtain ⟨_, qa, qb⟩ := E.cell
  obtain ⟨v, _, ⟨T', L', k', n'⟩, -, X', ⟨L, hQ, l1, l2, l3⟩, st⟩ := X.privateBack hx (y := y) hown (mvT hZ w1) (mvT hZ w2) (own_selQ hZ (C := C) w3 w4 w2 hy) (Cond.privateMethod_at (mvP hZ w4 (args := args))) (mvT hZ wc) hy (backOf (W := W) hM hZ wc wz hf hlo) (g := mkF m pc Ls (argsL.reverse ++ .ref b :: rest)) rfl hsize (Steps.refl _) (a := b) (by rw [eT]; exact qa) qb (argsL := argsL) (rest := rest) hlen rfl (by show 2 * 0 + _ ≤ _; omega) hdg (fun _ _ => ⟨has, eT, hc, hs⟩)
  dsimp only [Pt.U, Pt.locs, Pt.cells, Pt.slots] at X' hQ l1 l2 l3 st
  subst l1 l2 l3
  exact ⟨v, T', L, X', hQ, fun _ k => st.trans k⟩
abbrev q_0 (p0 : Addr) : Array Slot := #[rv p0]
abbrev q_1 (p0 : Addr) (p1 : Addr) : Array Slot := #[rv p0, rv p1]
abbrev q_2 (p0 : Addr) (p1 : Nat) : Array Slot := #[rv p0, nv p1]
abbrev q_3 (p0 : Addr) (p1 : Nat) (p2 : Nat) : Array Slot := #[rv p0, nv p1, nv p2]
abbrev q_4 (p0 : UInt16) : Array Slot := #[iv (cv p0)]
abbrev q_5 (p0 : Addr) (p1 : Addr) (p2 : List UInt16) : Array Slot := #[rv p0, rv p1, nv p2.length]
abbrev q_6 (p0 : Addr) (p1 : Addr) : Array Slot := #[rv p0, rv p1, .unset]
abbrev q_7 (p0 : Addr) (p1 : Addr) : Array Slot := #[rv p0, rv p1, rv p1]
abbrev q_8 (p0 : Addr) (p1 : List UInt16) (p2 : Addr) : Array Slot := #[rv p0, nv p1.length, rv p2]
abbrev q_9 (p0 : Addr) (p1 : Addr) (p2 : Addr) (p3 : List UInt16) : Array Slot := #[rv p0, rv p1, .val .null, rv p2, nv p3.length]
abbrev q_10 (p0 : Addr) (p1 : List UInt16) : Array Slot := #[rv p0, iv 0, nv p1.length]
abbrev q_11 (p0 : Addr) (p1 : Nat) (p2 : List UInt16) : Array Slot := #[rv p0, nv p1, nv p2.length, nv (p2.length + 1)]
abbrev q_12 (p0 : Addr) (p1 : Nat) : Array Slot := #[rv p0, iv 0, nv p1, .unset, .unset]
abbrev q_13 (p0 : Addr) (p1 : Nat) (p2 : List UInt16) : Array Slot := #[rv p0, iv 0, nv p1, nv p2.length, nv p1]
abbrev q_14 (p0 : Addr) (p1 : Nat) : Array Slot := #[rv p0, nv p1, .unset]
abbrev q_15 (p0 : Addr) (p1 : Addr) (p2 : Nat) : Array Slot := #[rv p0, rv p1, nv p2, iv 1]
abbrev q_16 (p0 : UInt16) (p1 : UInt16) (p2 : UInt16) (p3 : UInt16) : Array Slot := #[iv 2, iv (cv p0), iv (cv p1), iv (cv p2), iv (cv p3)]
abbrev q_17 (p0 : UInt16) (p1 : UInt16) (p2 : UInt16) (p3 : UInt16) : Array Slot := #[iv 3, iv (cv p0), iv (cv p1), iv (cv p2), iv (cv p3)]
abbrev q_18 (p0 : Nat) (p1 : Nat) (p2 : Addr) : Array Slot := #[iv (-(Int32.ofNat p0)), nv p1, rv p2, .unset, .unset, nv (p1 - 1), iv 0]
abbrev q_19 (p0 : Addr) (p1 : Nat) (p2 : List UInt16) : Array Slot := #[rv p0, iv 0, nv p1, nv p2.length, .unset]
abbrev q_20 (p0 : Addr) (p1 : List UInt16) : Array Slot := #[rv p0, iv 0, iv 0, nv p1.length, iv 0]
abbrev q_21 (p0 : Int32) : Array Slot := #[iv p0, iv (p0 &&& (3 : Int32)), iv ((p0.toUInt32 >>> ((2 : Int32) &&& 31).toUInt32).toInt32)]
abbrev q_22 (p0 : Addr) (p1 : Addr) (p2 : List UInt16) : Array Slot := #[rv p0, rv p1, iv 0, nv p2.length, .val .null, .unset]
abbrev q_23 (p0 : Addr) (p1 : Nat) : Array Slot := #[rv p0, iv 0, nv p1]
abbrev q_24 (p0 : Addr) (p1 : Nat) : Array Slot := #[rv p0, nv p1, .unset, .unset]
abbrev q_25 (p0 : UInt16) (p1 : UInt16) (p2 : UInt16) (p3 : UInt16) : Array Slot := #[iv 1, iv (cv p0), iv (cv p1), iv (cv p2), iv (cv p3)]
abbrev q_26 (p0 : UInt16) (p1 : UInt16) (p2 : UInt16) (p3 : UInt16) : Array Slot := #[iv 0, iv (cv p0), iv (cv p1), iv (cv p2), iv (cv p3)]
abbrev q_27 (p0 : Int32) (p1 : Int32) (p2 : Int32) (p3 : Int32) (p4 : Int32) (p5 : Int32) (p6 : Nat) (p7 : UInt16) (p8 : UInt16) (p9 : UInt16) (p10 : UInt16) (p11 : Addr) (p12 : Addr) (p13 : Nat) : Array Slot := #[iv p0, iv p1, iv p2, iv p3, iv p4, iv p5, nv p6, iv (cv p7), iv (cv p8), iv (cv p9), iv (cv p10), rv p11, rv p12, nv p13, .unset, .unset, .unset, .unset]
abbrev q_28 (p0 : Addr) (p1 : Addr) (p2 : Nat) : Array Slot := #[rv p0, rv p1, nv p2]
abbrev q_29 (p0 : Addr) (p1 : Addr) : Array Slot := #[rv p0, rv p1, iv 0, iv 0, .val .null, .unset]
abbrev q_30 (p0 : Addr) (p1 : Nat) (p2 : Nat) : Array Slot := #[rv p0, nv p1, nv (p2 / 2)]
abbrev q_31 (p0 : Addr) (p1 : Addr) (p2 : List UInt16) (p3 : Addr) : Array Slot := #[rv p0, rv p1, iv 0, nv p2.length, .val .null, rv p3]
abbrev q_32 (p0 : Addr) (p1 : Nat) (p2 : List UInt16) : Array Slot := #[rv p0, nv p1, nv (cpC p2 p2.length 0 p2.length), .unset]
abbrev q_33 (p0 : Addr) (p1 : Nat) (p2 : UInt16) : Array Slot := #[rv p0, nv (2 * p1 + 1), iv (cv p2)]
abbrev q_34 (p0 : Nat) (p1 : Nat) (p2 : Nat) (p3 : Value) : Array Slot := #[nv p0, nv p1, nv p2, .val p3]
abbrev q_35 (p0 : Nat) (p1 : Nat) (p2 : Nat) : Array Slot := #[nv p0, nv p1, nv p2]
abbrev q_36 (p0 : Addr) (p1 : Addr) (p2 : Nat) : Array Slot := #[rv p0, rv p1, nv p2, iv 0]
abbrev q_37 (p0 : Addr) (p1 : List UInt16) (p2 : Nat) (p3 : Nat) : Array Slot := #[rv p0, iv 0, nv p1.length, iv 0, nv p2, nv (p3 + 1)]
abbrev q_38 (p0 : Addr) (p1 : Nat) : Array Slot := #[rv p0, nv (2 * p1 + 1)]
abbrev q_39 (p0 : Addr) (p1 : Addr) : Array Slot := #[rv p0, rv p1, .val .null, .unset, .unset]
abbrev q_40 (p0 : Addr) (p1 : Nat) (p2 : List UInt16) (p3 : Nat) (p4 : Nat) : Array Slot := #[rv p0, iv 0, nv p1, nv p2.length, nv (p3 + 1), nv p4]
abbrev q_41 (p0 : Addr) (p1 : Addr) : Array Slot := #[rv p0, rv p1, .unset, .unset, .unset]
abbrev q_42 (p0 : Addr) (p1 : Addr) (p2 : List UInt16) : Array Slot := #[rv p0, rv p1, nv p2.length, .unset, .unset]
abbrev q_43 (p0 : Addr) (p1 : Addr) (p2 : List UInt16) : Array Slot := #[rv p0, rv p1, nv p2.length, nv (p2.length + 16), iv 0]
abbrev q_44 (p0 : Addr) : Array Slot := #[rv p0, iv 0, iv 0, .unset, .unset]
abbrev q_45 (p0 : Addr) (p1 : List UInt16) : Array Slot := #[rv p0, iv 0, iv 0, nv p1.length, .unset]
abbrev q_46 (p0 : Nat) (p1 : Nat) : Array Slot := #[nv p0, nv p1]
abbrev q_47 (p0 : Addr) (p1 : Nat) : Array Slot := #[rv p0, iv 0, nv p1, .unset, .unset, .unset]
abbrev q_48 (p0 : Addr) (p1 : Addr) (p2 : List UInt16) : Array Slot := #[rv p0, rv p1, nv p2.length, nv (p2.length + 16), iv 1]
abbrev q_49 (p0 : UInt16) (p1 : UInt16) (p2 : UInt16) (p3 : UInt16) : Array Slot := #[iv 4, iv (cv p0), iv (cv p1), iv (cv p2), iv (cv p3)]
abbrev q_50 (p0 : Int32) (p1 : Int32) (p2 : Int32) (p3 : Int32) (p4 : Int32) (p5 : Int32) (p6 : Nat) (p7 : UInt16) (p8 : UInt16) (p9 : UInt16) (p10 : UInt16) (p11 : Addr) (p12 : Addr) : Array Slot := #[iv p0, iv p1, iv p2, iv p3, iv p4, iv p5, nv p6, iv (cv p7), iv (cv p8), iv (cv p9), iv (cv p10), rv p11, rv p12, .unset, .unset, .unset, .unset, .unset]
abbrev q_51 (p0 : Addr) (p1 : Nat) : Array Slot := #[rv p0, nv p1, .unset, .unset, .unset, .unset]
abbrev q_52 (p0 : Int32) (p1 : Int32) (p2 : Int32) (p3 : Int32) (p4 : Int32) (p5 : Int32) (p6 : Nat) (p7 : UInt16) (p8 : UInt16) (p9 : UInt16) (p10 : UInt16) (p11 : Addr) (p12 : Addr) (p13 : Nat) (p14 : Nat) (p15 : Addr) : Array Slot := #[iv p0, iv p1, iv p2, iv p3, iv p4, iv p5, nv p6, iv (cv p7), iv (cv p8), iv (cv p9), iv (cv p10), rv p11, rv p12, nv p13, nv p14, rv p15, .unset, .unset]
abbrev q_53 (p0 : Nat) (p1 : Nat) (p2 : Addr) : Array Slot := #[nv p0, nv p1, rv p2]
abbrev q_54 (p0 : Nat) : Array Slot := #[nv p0]
abbrev q_55 (p0 : Addr) (p1 : Nat) (p2 : Nat) : Array Slot := #[rv p0, nv p1, nv p2, .unset, .unset, .unset]
abbrev q_56 (p0 : Addr) (p1 : Nat) (p2 : Addr) : Array Slot := #[rv p0, iv 0, nv p1, nv p1, rv p2]
abbrev q_57 (p0 : Nat) (p1 : Nat) (p2 : Addr) : Array Slot := #[nv p0, nv p1, rv p2, .unset, .unset, nv p1, iv 0]
abbrev q_58 (p0 : Addr) (p1 : Nat) (p2 : List UInt16) : Array Slot := #[rv p0, nv p1, nv p2.length, .unset]
abbrev q_59 (p0 : Addr) (p1 : Addr) : Array Slot := #[rv p0, rv p1, iv 0]
abbrev q_60 (p0 : Addr) (p1 : Nat) (p2 : Addr) (p3 : List UInt16) : Array Slot := #[rv p0, nv p1, rv p2, nv p1, nv p3.length, nv p1, iv (cv (p3.getD p1 0))]
abbrev q_61 (p0 : Addr) (p1 : Nat) (p2 : Addr) (p3 : Nat) (p4 : List UInt16) : Array Slot := #[rv p0, nv p1, rv p2, nv p1, nv p3, nv p1, iv (cv (p4.getD p1 0))]
abbrev q_62 (p0 : Addr) (p1 : Nat) (p2 : Addr) (p3 : Nat) : Array Slot := #[rv p0, iv 0, nv p1, rv p2, nv p3, .unset]
abbrev q_63 (p0 : Addr) (p1 : Addr) : Array Slot := #[rv p0, rv p1, iv 1]
abbrev q_64 (p0 : Addr) (p1 : List UInt16) : Array Slot := #[rv p0, iv 0, nv p1.length, .unset, .unset, .unset]
abbrev q_65 (p0 : Addr) (p1 : Nat) (p2 : Addr) : Array Slot := #[rv p0, nv p1, rv p2]
abbrev q_66 (p0 : Addr) (p1 : Nat) (p2 : Nat) : Array Slot := #[rv p0, nv p1, nv p2, nv p1, nv (p1 - p2), nv (p2 + max (p1 - p2) (p2 + 2))]
abbrev q_67 (p0 : Addr) (p1 : Nat) (p2 : Nat) : Array Slot := #[rv p0, nv p1, nv p2, nv (2 * p1), nv (2 * p1 - p2), nv (p2 + max (2 * p1 - p2) (p2 + 4))]
abbrev q_68 (p0 : Addr) (p1 : Nat) (p2 : List UInt16) : Array Slot := #[rv p0, iv 0, nv p1, nv p2.length, nv (opS p2 p1 0), nv p1]
abbrev q_69 (p0 : Addr) (p1 : Addr) (p2 : Nat) : Array Slot := #[rv p0, iv 0, rv p1, iv 0, nv p2, .unset, .unset]
abbrev q_70 (p0 : Addr) (p1 : Nat) (p2 : Nat) : Array Slot := #[rv p0, nv p1, nv p2, nv p1, nv (p1 - p2), .unset]
abbrev q_71 (p0 : Addr) (p1 : Nat) (p2 : Nat) : Array Slot := #[rv p0, nv p1, nv p2, nv (2 * p1), nv (2 * p1 - p2), .unset]
abbrev q_72 (p0 : Int32) (p1 : Int32) (p2 : Int32) (p3 : Int32) (p4 : Int32) (p5 : Int32) (p6 : Nat) (p7 : UInt16) (p8 : UInt16) (p9 : UInt16) (p10 : UInt16) (p11 : Addr) (p12 : Addr) (p13 : Nat) (p14 : Nat) (p15 : Addr) : Array Slot := #[iv p0, iv p1, iv p2, iv p3, iv p4, iv p5, nv p6, iv (cv p7), iv (cv p8), iv (cv p9), iv (cv p10), rv p11, rv p12, nv p13, nv p14, rv p15, nv (0 + 1 + prd [p7, p8, p9, p10] p6 0), .unset]
abbrev q_73 (p0 : Addr) (p1 : Nat) (p2 : List UInt16) (p3 : Addr) : Array Slot := #[rv p0, nv p1, nv p2.length, rv p3, nv p1]
abbrev q_74 (p0 : Addr) (p1 : List UInt16) (p2 : Addr) : Array Slot := #[rv p0, iv 0, nv p1.length, rv p2, .unset, .unset]
abbrev q_75 (p0 : Addr) (p1 : Addr) (p2 : Addr) : Array Slot := #[rv p0, rv p1, .val .null, rv p2, .unset]
abbrev q_76 (p0 : Addr) (p1 : List UInt16) (p2 : Nat) (p3 : Nat) : Array Slot := #[rv p0, iv 0, nv p1.length, iv 0, nv p2, nv p3]
abbrev q_77 (p0 : Addr) (p1 : Nat) (p2 : Addr) : Array Slot := #[rv p0, iv 0, nv p1, rv p2, .unset, .unset]
abbrev q_78 (p0 : Addr) (p1 : Nat) (p2 : Addr) : Array Slot := #[rv p0, iv 0, nv p1, rv p2, .unset]
abbrev q_79 (p0 : Addr) (p1 : Addr) (p2 : List UInt16) : Array Slot := #[rv p0, rv p1, nv p2.length, nv (p2.length + 16), .unset]
abbrev q_80 (p0 : Nat) (p1 : Nat) (p2 : Addr) : Array Slot := #[iv (-(Int32.ofNat p0)), nv p1, rv p2, .unset, .unset, nv p1, iv 0]
abbrev q_81 (p0 : Nat) (p1 : Nat) (p2 : Addr) : Array Slot := #[nv p0, nv (p1 - 1), nv p1, rv p2, .unset]
abbrev q_82 (p0 : Addr) : Array Slot := #[rv p0, iv 0]
abbrev q_83 (p0 : Int32) (p1 : Int32) (p2 : Int32) (p3 : Int32) (p4 : Int32) (p5 : Int32) (p6 : Nat) (p7 : UInt16) (p8 : UInt16) (p9 : UInt16) (p10 : UInt16) (p11 : Addr) (p12 : Addr) (p13 : Nat) (p14 : Nat) (p15 : Addr) : Array Slot := #[iv p0, iv p1, iv p2, iv p3, iv p4, iv p5, nv p6, iv (cv p7), iv (cv p8), iv (cv p9), iv (cv p10), rv p11, rv p12, nv p13, nv p14, rv p15, iv 0, .unset]
abbrev q_84 (p0 : Int32) (p1 : Int32) (p2 : Int32) (p3 : Int32) (p4 : Int32) (p5 : Int32) (p6 : Nat) (p7 : UInt16) (p8 : UInt16) (p9 : UInt16) (p10 : UInt16) (p11 : Addr) (p12 : Addr) (p13 : Nat) (p14 : Nat) (p15 : Addr) : Array Slot := #[iv p0, iv p1, iv p2, iv p3, iv p4, iv p5, nv p6, iv (cv p7), iv (cv p8), iv (cv p9), iv (cv p10), rv p11, rv p12, nv p13, nv p14, rv p15, nv (0 + 1 + prd [p7, p8, p9, p10] p6 0 + 1 + prd [p7, p8, p9, p10] p6 (0 + 1 + prd [p7, p8, p9, p10] p6 0)), .unset]
abbrev q_85 (p0 : Addr) (p1 : Nat) (p2 : Addr) (p3 : Nat) (p4 : List UInt16) : Array Slot := #[rv p0, nv (p1 + 1), rv p2, nv (p3 + p1 + 1), nv p4.length, nv p1]
abbrev q_86 (p0 : Addr) (p1 : Nat) (p2 : Addr) (p3 : List UInt16) (p4 : Slot) : Array Slot := #[rv p0, nv p1, rv p2, nv p1, nv p3.length, nv p1, p4]
abbrev q_87 (p0 : Addr) (p1 : List UInt16) (p2 : Addr) (p3 : Nat) : Array Slot := #[rv p0, iv 0, nv p1.length, rv p2, nv p3, .unset]
abbrev q_88 (p0 : Addr) (p1 : List UInt16) (p2 : Addr) (p3 : Nat) (p4 : Addr) : Array Slot := #[rv p0, iv 0, nv p1.length, rv p2, nv p3, rv p4]
abbrev q_89 (p0 : Nat) (p1 : Nat) (p2 : Nat) : Array Slot := #[nv p0, nv p1, nv p2, .unset]
abbrev q_90 (p0 : Nat) (p1 : Nat) (p2 : Nat) : Array Slot := #[nv p0, nv p1, nv p2, nv (p0 + max p1 p2)]
abbrev q_91 (p0 : Addr) (p1 : Nat) (p2 : List UInt16) (p3 : Nat) (p4 : Nat) : Array Slot := #[rv p0, iv 0, nv p1, nv p2.length, nv p3, nv p4]
abbrev q_92 (p0 : Addr) (p1 : Nat) (p2 : Addr) (p3 : Nat) (p4 : Slot) : Array Slot := #[rv p0, nv p1, rv p2, nv p1, nv p3, nv p1, p4]
abbrev q_93 (p0 : Addr) (p1 : Nat) (p2 : Addr) (p3 : Nat) (p4 : Addr) : Array Slot := #[rv p0, iv 0, nv p1, rv p2, nv p3, rv p4]
abbrev q_94 (p0 : Addr) (p1 : Nat) (p2 : Addr) : Array Slot := #[rv p0, iv 0, nv p1, rv p2, iv 0]
abbrev q_95 (p0 : Addr) (p1 : Nat) (p2 : Addr) : Array Slot := #[rv p0, iv 0, nv p1, rv p2, iv 1]
abbrev q_96 (p0 : Addr) (p1 : Nat) (p2 : List UInt16) (p3 : Addr) : Array Slot := #[rv p0, nv p1, nv (cpC p2 p2.length 0 p2.length), rv p3]
abbrev q_97 (p0 : Int32) (p1 : Int32) (p2 : Int32) (p3 : Int32) (p4 : Int32) (p5 : Int32) (p6 : Nat) (p7 : UInt16) (p8 : UInt16) (p9 : UInt16) (p10 : UInt16) (p11 : Addr) (p12 : Addr) (p13 : Nat) (p14 : Nat) (p15 : Addr) (p16 : Nat) : Array Slot := #[iv p0, iv p1, iv p2, iv p3, iv p4, iv p5, nv p6, iv (cv p7), iv (cv p8), iv (cv p9), iv (cv p10), rv p11, rv p12, nv p13, nv p14, rv p15, nv p16, .unset]
abbrev q_98 (p0 : Int32) (p1 : Int32) (p2 : Int32) (p3 : Int32) (p4 : Int32) (p5 : Int32) (p6 : Nat) (p7 : UInt16) (p8 : UInt16) (p9 : UInt16) (p10 : UInt16) : Array Slot := #[iv p0, iv p1, iv p2, iv p3, iv p4, iv p5, nv p6, iv (cv p7), iv (cv p8), iv (cv p9), iv (cv p10), .unset, .unset, .unset, .unset, .unset, .unset, .unset]
abbrev q_99 (p0 : Int32) (p1 : Int32) (p2 : Int32) (p3 : Int32) (p4 : Int32) (p5 : Int32) (p6 : Nat) (p7 : UInt16) (p8 : UInt16) (p9 : UInt16) (p10 : UInt16) (p11 : Addr) (p12 : Addr) (p13 : Nat) (p14 : Nat) : Array Slot := #[iv p0, iv p1, iv p2, iv p3, iv p4, iv p5, nv p6, iv (cv p7), iv (cv p8), iv (cv p9), iv (cv p10), rv p11, rv p12, nv p13, nv p14, .unset, .unset, .unset]
abbrev q_100 (p0 : Nat) (p1 : Addr) : Array Slot := #[nv p0, rv p1]
abbrev q_101 (p0 : Addr) (p1 : List UInt16) : Array Slot := #[rv p0, iv 0, nv p1.length, iv 0, .unset, .unset]
abbrev q_102 (p0 : Addr) (p1 : List UInt16) (p2 : Nat) : Array Slot := #[rv p0, iv 0, nv p1.length, iv 0, nv (cpC p1 p1.length 0 p1.length), nv p2]
abbrev q_103 (p0 : Addr) (p1 : Nat) (p2 : List UInt16) (p3 : Nat) (p4 : Nat) : Array Slot := #[rv p0, iv 0, nv p1, nv p2.length, nv (p3 + 1), nv (p4 + 1)]
abbrev q_104 (p0 : Nat) (p1 : Nat) (p2 : Addr) : Array Slot := #[nv p0, nv (p1 - 1), nv p1, rv p2, nv (p1 - 1)]
abbrev q_105 (p0 : Addr) : Array Slot := #[rv p0, iv 0, iv 0]
abbrev q_106 (p0 : Int32) (p1 : Int32) (p2 : Int32) (p3 : Int32) (p4 : Int32) (p5 : Int32) (p6 : Nat) (p7 : UInt16) (p8 : UInt16) (p9 : UInt16) (p10 : UInt16) (p11 : Addr) : Array Slot := #[iv p0, iv p1, iv p2, iv p3, iv p4, iv p5, nv p6, iv (cv p7), iv (cv p8), iv (cv p9), iv (cv p10), rv p11, .unset, .unset, .unset, .unset, .unset, .unset]
abbrev q_107 (p0 : Int32) (p1 : Int32) (p2 : Int32) (p3 : Int32) (p4 : Int32) (p5 : Int32) : Array Slot := #[iv p0, iv p1, iv p2, iv p3, iv p4, iv p5, .unset, .unset, .unset, .unset, .unset, .unset, .unset, .unset, .unset, .unset, .unset, .unset]
abbrev q_108 (p0 : Addr) (p1 : Nat) (p2 : UInt16) : Array Slot := #[rv p0, nv p1, iv (cv p2)]
abbrev q_109 (p0 : Addr) (p1 : List UInt16) (p2 : Addr) (p3 : Nat) : Array Slot := #[rv p0, nv p1.length, rv p2, nv (p3 + p1.length), nv p1.length, nv p1.length]
abbrev q_110 (p0 : Addr) (p1 : Addr) (p2 : Nat) (p3 : List UInt16) : Array Slot := #[rv p0, iv 0, rv p1, nv p2, nv p3.length, .unset]
abbrev q_111 (p0 : Addr) (p1 : List UInt16) (p2 : Addr) : Array Slot := #[rv p0, nv p1.length, nv p1.length, rv p2, nv p1.length]
abbrev q_112 (p0 : Addr) (p1 : List UInt16) : Array Slot := #[rv p0, iv 0, nv p1.length, .unset, .unset]
abbrev q_113 (p0 : Nat) (p1 : Nat) (p2 : Nat) : Array Slot := #[nv p0, nv p1, nv p2, .val .null]
abbrev q_114 (p0 : Addr) : Array Slot := #[rv p0, rv p0, .unset]
abbrev q_115 (p0 : Int32) (p1 : Int32) (p2 : Int32) (p3 : Int32) (p4 : Int32) (p5 : Int32) (p6 : Nat) : Array Slot := #[iv p0, iv p1, iv p2, iv p3, iv p4, iv p5, nv p6, .unset, .unset, .unset, .unset, .unset, .unset, .unset, .unset, .unset, .unset, .unset]
abbrev q_116 (p0 : Addr) (p1 : Addr) (p2 : Nat) (p3 : List UInt16) : Array Slot := #[rv p0, iv 0, rv p1, nv p2, nv p3.length]
abbrev q_117 (p0 : Addr) (p1 : Addr) (p2 : List UInt16) : Array Slot := #[rv p0, iv 0, rv p1, iv 0, nv p2.length, .unset, .unset]
abbrev q_118 (p0 : Addr) (p1 : List UInt16) (p2 : Addr) : Array Slot := #[rv p0, iv 0, nv p1.length, rv p2, nv p1.length, .unset]
abbrev q_119 (p0 : Addr) (p1 : Nat) : Array Slot := #[rv p0, iv 0, nv p1, nv p1, .unset]
abbrev q_120 (p0 : Addr) (p1 : List UInt16) : Array Slot := #[rv p0, iv 0, nv p1.length, iv 0, nv p1.length, iv 0]
abbrev q_121 (p0 : Addr) (p1 : Nat) (p2 : List UInt16) : Array Slot := #[rv p0, iv 0, nv p1, nv p2.length, .unset, .unset]
abbrev q_122 (p0 : Addr) (p1 : Nat) (p2 : Addr) : Array Slot := #[rv p0, iv 0, nv p1, rv p2, nv p1, .unset]
abbrev q_123 (p0 : Nat) : Array Slot := #[iv (-(Int32.ofNat p0)), iv 0, iv (-10), iv 1]
abbrev q_124 (p0 : Nat) (p1 : Nat) (p2 : Addr) : Array Slot := #[nv p0, nv p1, rv p2, .unset, .unset, .unset, .unset]
abbrev q_125 (p0 : Int32) (p1 : Int32) (p2 : Int32) (p3 : Int32) (p4 : Int32) (p5 : Int32) (p6 : Nat) (p7 : UInt16) : Array Slot := #[iv p0, iv p1, iv p2, iv p3, iv p4, iv p5, nv p6, iv (cv p7), .unset, .unset, .unset, .unset, .unset, .unset, .unset, .unset, .unset, .unset]
abbrev q_126 (p0 : Int32) (p1 : Int32) (p2 : Int32) (p3 : Int32) (p4 : Int32) (p5 : Int32) (p6 : Nat) (p7 : UInt16) (p8 : UInt16) : Array Slot := #[iv p0, iv p1, iv p2, iv p3, iv p4, iv p5, nv p6, iv (cv p7), iv (cv p8), .unset, .unset, .unset, .unset, .unset, .unset, .unset, .unset, .unset]
abbrev q_127 (p0 : Int32) (p1 : Int32) (p2 : Int32) (p3 : Int32) (p4 : Int32) (p5 : Int32) (p6 : Nat) (p7 : UInt16) (p8 : UInt16) (p9 : UInt16) : Array Slot := #[iv p0, iv p1, iv p2, iv p3, iv p4, iv p5, nv p6, iv (cv p7), iv (cv p8), iv (cv p9), .unset, .unset, .unset, .unset, .unset, .unset, .unset, .unset]
abbrev q_128 (p0 : Addr) (p1 : Nat) (p2 : Addr) (p3 : Nat) (p4 : List UInt16) : Array Slot := #[rv p0, nv p1, rv p2, nv (p3 + p1), nv p4.length, nv p1]
abbrev q_129 (p0 : Addr) (p1 : Nat) (p2 : List UInt16) (p3 : Addr) : Array Slot := #[rv p0, nv (p1 + 1), nv p2.length, rv p3, nv (p1 + 1)]
abbrev q_130 (p0 : Addr) (p1 : Nat) (p2 : Nat) : Array Slot := #[rv p0, nv p1, nv p2, nv p1, .unset, .unset]
abbrev q_131 (p0 : Addr) (p1 : Nat) (p2 : Nat) : Array Slot := #[rv p0, nv p1, nv p2, nv (2 * p1), .unset, .unset]
abbrev q_132 (p0 : Nat) : Array Slot := #[nv p0, iv 0, .unset, .unset]
abbrev q_133 (p0 : Addr) (p1 : Addr) (p2 : Nat) : Array Slot := #[rv p0, rv p1, nv (p2 + 1)]
abbrev q_134 (p0 : Addr) (p1 : Nat) (p2 : Addr) (p3 : Nat) (p4 : List UInt16) : Array Slot := #[rv p0, nv (p1 + 1), rv p2, nv (p3 + p1 + 1), nv p4.length, nv (p1 + 1)]
abbrev q_135 (p0 : Addr) (p1 : Nat) (p2 : Addr) (p3 : List UInt16) : Array Slot := #[rv p0, nv (p1 + 1), rv p2, nv (p1 + 1), nv p3.length, nv (p1 + 1), iv (cv (p3.getD p1 0))]
abbrev q_136 (p0 : Addr) (p1 : Addr) (p2 : List UInt16) : Array Slot := #[rv p0, iv 0, rv p1, iv 0, nv p2.length, iv 0, .unset]
abbrev q_137 (p0 : Addr) (p1 : List UInt16) (p2 : Nat) (p3 : Nat) : Array Slot := #[rv p0, iv 0, nv p1.length, iv 0, nv (p2 - 1), nv (p3 + 1 + 1)]
abbrev q_138 (p0 : Addr) (p1 : Nat) (p2 : List UInt16) (p3 : Nat) (p4 : Nat) : Array Slot := #[rv p0, iv 0, nv p1, nv p2.length, nv (p3 + 1 + 1), nv (p4 + 1)]
abbrev q_139 (p0 : Addr) (p1 : Nat) (p2 : List UInt16) : Array Slot := #[rv p0, iv 0, nv p1, nv p2.length, iv 0, iv 0]
abbrev q_140 (p0 : Addr) (p1 : Nat) (p2 : Addr) (p3 : Nat) (p4 : List UInt16) : Array Slot := #[rv p0, nv (p1 + 1), rv p2, nv (p1 + 1), nv p3, nv (p1 + 1), iv (cv (p4.getD p1 0))]
abbrev q_141 (p0 : Addr) (p1 : Addr) (p2 : Nat) : Array Slot := #[rv p0, iv 0, rv p1, iv 0, nv p2, iv 0, .unset]
abbrev q_142 (p0 : Nat) (p1 : Nat) (p2 : Addr) : Array Slot := #[nv p0, nv p1, rv p2, .unset, .unset, nv p1, .unset]
abbrev q_143 (p0 : Int32) (p1 : Int32) (p2 : Int32) (p3 : Int32) (p4 : Int32) (p5 : Int32) (p6 : Nat) (p7 : UInt16) (p8 : UInt16) (p9 : UInt16) (p10 : UInt16) (p11 : Addr) (p12 : Addr) (p13 : Nat) (p14 : Nat) (p15 : Addr) : Array Slot := #[iv p0, iv p1, iv p2, iv p3, iv p4, iv p5, nv p6, iv (cv p7), iv (cv p8), iv (cv p9), iv (cv p10), rv p11, rv p12, nv p13, nv p14, rv p15, nv (0 + 1 + prd [p7, p8, p9, p10] p6 0 + 1 + prd [p7, p8, p9, p10] p6 (0 + 1 + prd [p7, p8, p9, p10] p6 0) + 1 + prd [p7, p8, p9, p10] p6 (0 + 1 + prd [p7, p8, p9, p10] p6 0 + 1 + prd [p7, p8, p9, p10] p6 (0 + 1 + prd [p7, p8, p9, p10] p6 0))), .unset]
def Stc (Z : State) (G1 : Int32) (Fm : Value) : Prop := Sta Z Z.heap "java/lang/String" "COMPACT_STRINGS" "Z" (.int G1) ∧ ¬ G1 = 0 ∧ Sta Z Z.heap "jdk/internal/util/Preconditions" "SIOOBE_FORMATTER" "Ljava/util/function/BiFunction;" Fm ∧ Fm.isRef = true ∧ Sta Z Z.heap "java/lang/StringUTF16" "$assertionsDisabled" "Z" (.int (1 : Int32)) ∧ Sta Z Z.heap "java/lang/StringUTF16" "HI_BYTE_SHIFT" "I" (.int (0 : Int32)) ∧ Sta Z Z.heap "java/lang/StringUTF16" "LO_BYTE_SHIFT" "I" (.int (8 : Int32))
abbrev Mt {l : Launch} {Z : State} {a0 : Array Value} (hw : Hw a0 Z) {ws : List Jvm.Cond} {G1 : Int32} {Fm : Value} {h0 : Heap} {n0 : Nat} (O0 : Old Z n0 h0) (ST : Stc Z G1 Fm) (y : MethodName) (b : ByteArray) (n : Nat) (r : Option FieldType) (rm : Room) (A : Array Value) (Q : Option Value → Heap → List Loc → Prop) : Prop := Met l Z h0 ws y b n r rm A Q
variable {l : Launch} {Z : State} {a0 : Array Value} (hw : Hw a0 Z) {ws : List Jvm.Cond} {G1 : Int32} {Fm : Value} {h0 : Heap} {n0 : Nat} (O0 : Old Z n0 h0) (ST : Stc Z G1 Fm)
def Qpure (r : Option Value) (h0 : Heap) (n0 : Nat) (v : Option Value) (h : Heap) (L : List Loc) : Prop := v = r ∧ Fr n0 L ∧ h = h0
def Bar (Z : State) (h : Heap) (a : Addr) (k : ClassId) (L : Nat) (vs : List Int32) : Prop := Arv Z h a k .byte (Int32.ofNat L) (vs.map Value.int) (.int (0 : Int32)) ∧ vs.length = L
def Str0 (Z : State) (h : Heap) (a b : Addr) (k : ClassId) (cs : List UInt16) : Prop := Exa Z h a "java/lang/String" ∧ Fld Z h a "java/lang/String" "coder" "B" (.int (0 : Int32)) ∧ Fld Z h a "java/lang/String" "value" "[B" (.ref b) ∧ Bar Z h b k cs.length (cs.map cLo) ∧ ∀ u ∈ cs, u < 256
def Str1 (Z : State) (h : Heap) (a b : Addr) (k : ClassId) (cs : List UInt16) : Prop := Exa Z h a "java/lang/String" ∧ Fld Z h a "java/lang/String" "coder" "B" (.int (1 : Int32)) ∧ Fld Z h a "java/lang/String" "value" "[B" (.ref b) ∧ Bar Z h b k (2 * cs.length) (enc1 cs)
def Qar (Z : State) (L : Nat) (vs : List Int32) (h0 : Heap) (n0 : Nat) (v : Option Value) (h : Heap) (Lc : List Loc) : Prop := ∃ (b : Addr) (k : ClassId), v = some (.ref b) ∧ Fr n0 Lc ∧ Keep h0 h [] ∧ h0.size ≤ b ∧ Bar Z h b k L vs ∧ Exa Z h b "[B"
def Qwr (Z : State) (a : Addr) (k : ClassId) (L : Nat) (vs : List Int32) (h0 : Heap) (n0 : Nat) (v : Option Value) (h : Heap) (Lc : List Loc) : Prop := v = none ∧ Fr n0 Lc ∧ Keep h0 h [a] ∧ Bar Z h a k L vs
theorem own_up {cs : List UInt16} {i : Nat} (h : ∀ u ∈ cs, u < 256) (hi : i < cs.length) : cs.getD i 0 < 256 := by
  simp only [List.getD_eq_getElem?_getD, List.getElem?_eq_getElem hi, Option.getD_some]; exact h _ (List.getElem_mem hi)
theorem own_lod {cs : List UInt16} {i : Nat} (hi : i < cs.length) : (cs.map cLo).getD i 0 = cLo (cs.getD i 0) := by simp [List.getD_eq_getElem?_getD, hi]
theorem pn0 : plainName "java/lang/StringUTF16" = true := by first | (simp [plainName, overriddenIn]; done) | decide +kernel
theorem d33 : Dl cb0 [(0, .aload_n 0, 1), (1, .arraylength, 1), (2, .iconst 1, 1), (3, .ishr, 1), (4, .ireturn, 1)] := dlk (by decide +kernel)
theorem ef_ru_len (m : MethodId) (x0 : Addr) : entryFrame m #[(.ref x0)] 1 = mkF m 0 #[.val (.ref x0)] [] := by first | (simp [entryFrame, mkF, argsToLocals, Value.category]; done) | rfl
theorem ru_len (a1 : Addr) (kA : ClassId) (LA : Nat) (vs : List Int32) (B1 : Bar Z h0 a1 kA LA vs) (hB : LA ≤ 110) :
    Mt (l := l) hw (ws := ws) O0 ST Y_34 jdk_52_method_6_code 1 (some .int) R_0 #[(.ref a1)] (Qpure (some (vN (LA / 2))) h0 n0) := by
  refine own_met (plainFor_of_name pn0) fun p e s m w_ meth c s₁ hx hby hml hZ hh hown hnm hret hlk X0 e0 => ?_
  have N0 := Fr.nil n0
  have V_a1 := B1.1
  have l_a1 := B1.2
  have hN_a1 : (Int32.ofNat LA).toNatClampNeg = vs.length := by rw [l_a1]; exact own_n (by omega)
  have lt_a1 := V_a1.lt
  obtain ⟨cl1, Ar1, q1, Sz1, Nn1, Ha1, Gf1⟩ := id V_a1
  refine own_lvI X0 hx hlk hret (d33 hby 4 rfl) (by decide) (by decide) (z := (Int32.ofNat (LA / 2))) (Ls := (q_0 a1)) (rest := []) (fun _ k => castTop (ef_ru_len m a1) ?_) ?_
  · refine za X0 hx (d33 hby 0 rfl) rfl rfl ?_
    show Go p e w_ s₁ m 1 (q_0 a1) [(.ref a1)] _
    refine X0.arraylength hx (by rw [e0]; exact Ar1.1) (State.isArrayOf_alike hZ.alike Ar1.2.1) (g := (mkF m 1 (q_0 a1) [(.ref a1)])) rfl rfl (d33 hby 1 rfl) _ ?_
    rw [len_of Sz1 Nn1]
    refine zc X0 hx (d33 hby 2 rfl) <| XS.ishr X0.here hx rfl (d33 hby 3 rfl) rfl ?_
    show Go p e w_ s₁ m 4 (q_0 a1) [(.int ((Int32.ofNat LA) >>> ((1 : Int32) &&& 31)))] _
    rw [show ((Int32.ofNat LA) >>> ((1 : Int32) &&& 31)) = (Int32.ofNat (LA / 2)) from own_shr1 (n := LA) (by omega)]
    exact k
  · rw [e0]
    exact ⟨rfl, N0, rfl⟩
theorem pn1 : plainName "jdk/internal/util/Preconditions" = true := by first | (simp [plainName, overriddenIn]; done) | decide +kernel
theorem d35 : Dl cb1 [(0, .iload_n 0, 1), (1, .ifCond .lt 8, 3), (4, .iload_n 0, 1), (5, .iload_n 1, 1), (6, .if_icmp .lt 10, 3), (16, .iload_n 0, 1), (17, .ireturn, 1)] := dlk (by decide +kernel)
theorem ef_rp_ci (m : MethodId) (x0 : Int32) (x1 : Int32) (x2 : Value) (hr : x2.isRef = true) : entryFrame m #[(.int x0), (.int x1), x2] 3 = mkF m 0 #[.val (.int x0), .val (.int x1), .val x2] [] := by cases x2 <;> first | (simp [entryFrame, mkF, argsToLocals, Value.category]; done) | (simp [Value.isRef] at hr; done) | rfl
theorem rp_ci (i1 i2 : Nat) (hi : i1 < i2) (hB : i2 ≤ 110) :
    Mt (l := l) hw (ws := ws) O0 ST Y_66 jdk_41_method_11_code 3 (some .int) R_0 #[(vN i1), (vN i2), Fm] (Qpure (some (vN i1)) h0 n0) := by
  refine own_met (plainFor_of_name pn1) fun p e s m w_ meth c s₁ hx hby hml hZ hh hown hnm hret hlk X0 e0 => ?_
  have N0 := Fr.nil n0
  refine own_lvI X0 hx hlk hret (d35 hby 6 rfl) (by decide) (by decide) (z := (Int32.ofNat i1)) (Ls := #[nv i1, nv i2, .val Fm]) (rest := []) (fun _ k => castTop (ef_rp_ci m (Int32.ofNat i1) (Int32.ofNat i2) Fm ST.2.2.2.1) ?_) ?_
  · refine zl X0 hx (d35 hby 0 rfl) rfl <| zg X0 hx (d35 hby 1 rfl) ((if0 _ _).trans (flt (fun q => absurd ((own_lt (a := i1) (b := 0) (by omega) (by omega)).mp q) (by omega))).1) <| zl X0 hx (d35 hby 2 rfl) rfl <| zl X0 hx (d35 hby 3 rfl) rfl <| zy X0 hx 6 16 (d35 hby 4 rfl) (tlt ((own_lt (a := i1) (b := i2) (by omega) (by omega)).mpr (by omega))).1 <| zl X0 hx (d35 hby 5 rfl) rfl ?_
    exact k
  · rw [e0]
    exact ⟨rfl, N0, rfl⟩
theorem pn2 : plainName "java/lang/String" = true := by first | (simp [plainName, overriddenIn]; done) | decide +kernel
theorem d34 : Dl cb2 [(0, .iload_n 0, 1), (1, .iload_n 1, 1), (2, .getstatic 1053, 3), (5, .invokestatic 1059, 3), (8, .pop, 1), (9, .return_, 1)] := dlk (by decide +kernel)
theorem pd0 : parseMethodDescriptor "(IILjava/util/function/BiFunction;)I" = some ⟨[.int, .int, (.object "java/util/function/BiFunction")], some .int⟩ := by decide +kernel
theorem ef_rs_ci (m : MethodId) (x0 : Int32) (x1 : Int32) : entryFrame m #[(.int x0), (.int x1)] 2 = mkF m 0 #[.val (.int x0), .val (.int x1)] [] := by first | (simp [entryFrame, mkF, argsToLocals, Value.category]; done) | rfl
theorem rs_ci (i1 i2 : Nat) (hi : i1 < i2) (hB : i2 ≤ 110) :
    Mt (l := l) hw (ws := ws) O0 ST Y_52 jdk_42_method_155_code 2 none R_7 #[(vN i1), (vN i2)] (Qpure none h0 n0) := by
  refine own_met (plainFor_of_name pn2) fun p e s m w_ meth c s₁ hx hby hml hZ hh hown hnm hret hlk X0 e0 => ?_
  have N0 := Fr.nil n0
  obtain ⟨S_cs, hG, S_fm, hF, S_ad, S_hi, S_lo⟩ := id ST
  obtain ⟨T1, X1, e1, st1⟩ := getS2 X0 hx hZ hown (host := "") (Or.inl (tw hw 162 rfl)) Via.refl e0 (S_fm.ext O0.2) (g := (mkF m 2 (q_46 i1 i2) [(vN i2), (vN i1)])) rfl (d34 hby 2 rfl)
  obtain ⟨_, T2, Lc2, X2, hQ2, st2⟩ := own_sc X1 hx hZ (y := Y_66) hown hml (tw hw 163 rfl) (tw hw 164 rfl) (rp_ci hw O0 ST i1 i2 hi hB) (tw hw 165 rfl) (tw hw 64 rfl) e1 (W := 0) (Ls := (q_46 i1 i2)) (argsL := [(vN i1), (vN i2), Fm]) (rest := []) (lenOf pd0 rfl) (d34 hby 3 rfl)
  obtain ⟨rfl, Nq2, e2⟩ := hQ2
  have N2 := Fr.app N0 Nq2
  refine own_lvV X2 hx hlk hret (d34 hby 5 rfl) (by decide) (by decide) (Ls := (q_46 i1 i2)) (fun _ k => castTop (ef_rs_ci m (Int32.ofNat i1) (Int32.ofNat i2)) ?_) ?_
  · refine zl X0 hx (d34 hby 0 rfl) rfl <| zl X0 hx (d34 hby 1 rfl) rfl <| st1 _ <| st2 _ <| XS.pop X2.here hx rfl (d34 hby 4 rfl) rfl rfl ?_
    exact k
  · rw [e2]
    exact ⟨rfl, N2, rfl⟩
theorem d32 : Dl cb3 [(0, .iload_n 0, 1), (1, .aload_n 1, 1), (2, .invokestatic 48, 3), (5, .invokestatic 414, 3), (8, .return_, 1)] := dlk (by decide +kernel)
theorem pd1 : parseMethodDescriptor "([B)I" = some ⟨[(.array .byte)], some .int⟩ := by decide +kernel
theorem pd2 : parseMethodDescriptor "(II)V" = some ⟨[.int, .int], none⟩ := by decide +kernel
theorem ef_ru_ci (m : MethodId) (x0 : Int32) (x1 : Addr) : entryFrame m #[(.int x0), (.ref x1)] 2 = mkF m 0 #[.val (.int x0), .val (.ref x1)] [] := by first | (simp [entryFrame, mkF, argsToLocals, Value.category]; done) | rfl
theorem ru_ci (a1 : Addr) (kA : ClassId) (LA : Nat) (vs : List Int32) (i1 : Nat) (B1 : Bar Z h0 a1 kA LA vs) (hB : LA ≤ 110) (hi : 2 * i1 + 1 < LA) :
    Mt (l := l) hw (ws := ws) O0 ST Y_67 jdk_52_method_91_code 2 none R_29 #[(vN i1), (.ref a1)] (Qpure none h0 n0) := by
  refine own_met (plainFor_of_name pn0) fun p e s m w_ meth c s₁ hx hby hml hZ hh hown hnm hret hlk X0 e0 => ?_
  have N0 := Fr.nil n0
  have V_a1 := B1.1
  have l_a1 := B1.2
  have hN_a1 : (Int32.ofNat LA).toNatClampNeg = vs.length := by rw [l_a1]; exact own_n (by omega)
  have lt_a1 := V_a1.lt
  obtain ⟨_, T1, Lc1, X1, hQ1, st1⟩ := own_sc X0 hx hZ (y := Y_34) hown hml (tw hw 156 rfl) (tw hw 157 rfl) (ru_len hw O0 ST a1 kA LA vs B1 hB) (tw hw 158 rfl) (tw hw 78 rfl) e0 (W := 1) (Ls := (q_100 i1 a1)) (argsL := [(.ref a1)]) (rest := [(vN i1)]) (lenOf pd1 rfl) (d32 hby 2 rfl)
  obtain ⟨rfl, Nq1, e1⟩ := hQ1
  have N1 := Fr.app N0 Nq1
  obtain ⟨_, T2, Lc2, X2, hQ2, st2⟩ := own_sc X1 hx hZ (y := Y_52) hown hml (tw hw 159 rfl) (tw hw 160 rfl) (rs_ci hw O0 ST i1 (LA / 2) (by omega) (by omega)) (tw hw 161 rfl) (tw hw 14 rfl) e1 (W := 0) (Ls := (q_100 i1 a1)) (argsL := [(vN i1), (vN (LA / 2))]) (rest := []) (lenOf pd2 rfl) (d32 hby 3 rfl)
  obtain ⟨rfl, Nq2, e2⟩ := hQ2
  have N2 := Fr.app N1 Nq2
  refine own_lvV X2 hx hlk hret (d32 hby 4 rfl) (by decide) (by decide) (Ls := (q_100 i1 a1)) (fun _ k => castTop (ef_ru_ci m (Int32.ofNat i1) a1) ?_) ?_
  · refine zl X0 hx (d32 hby 0 rfl) rfl <| za X0 hx (d32 hby 1 rfl) rfl rfl <| st1 _ <| st2 _ ?_
    exact k
  · rw [e2]
    exact ⟨rfl, N2, rfl⟩
theorem d21 : Dl cb4 [(0, .getstatic 44, 3), (3, .ifCond .ne 25, 3), (28, .iload_n 1, 1), (29, .iconst 1, 1), (30, .ishl, 1), (31, .istore_n 1, 1), (32, .aload_n 0, 1), (33, .iload_n 1, 1), (34, .iinc 1 1, 3), (37, .baload, 1), (38, .sipush 255, 3), (41, .iand, 1), (42, .getstatic 59, 3), (45, .ishl, 1), (46, .aload_n 0, 1), (47, .iload_n 1, 1), (48, .baload, 1), (49, .sipush 255, 3), (52, .iand, 1), (53, .getstatic 63, 3), (56, .ishl, 1), (57, .ior, 1), (58, .i2c, 1), (59, .ireturn, 1)] := dlk (by decide +kernel)
theorem ef_ru_get (m : MethodId) (x0 : Addr) (x1 : Int32) : entryFrame m #[(.ref x0), (.int x1)] 2 = mkF m 0 #[.val (.ref x0), .val (.int x1)] [] := by first | (simp [entryFrame, mkF, argsToLocals, Value.category]; done) | rfl
theorem ru_get (a1 : Addr) (kA : ClassId) (LA : Nat) (vs : List Int32) (i1 : Nat) (u : UInt16) (B1 : Bar Z h0 a1 kA LA vs) (hB : LA ≤ 110) (hi : 2 * i1 + 1 < LA) (hlo : vs.getD (2 * i1) 0 = cLo u) (hhi : vs.getD (2 * i1 + 1) 0 = cHi u) :
    Mt (l := l) hw (ws := ws) O0 ST Y_9 jdk_52_method_5_code 2 (some .char) R_0 #[(.ref a1), (vN i1)] (Qpure (some (.int (cv u))) h0 n0) := by
  refine own_met (plainFor_of_name pn0) fun p e s m w_ meth c s₁ hx hby hml hZ hh hown hnm hret hlk X0 e0 => ?_
  have N0 := Fr.nil n0
  obtain ⟨S_cs, hG, S_fm, hF, S_ad, S_hi, S_lo⟩ := id ST
  have V_a1 := B1.1
  have l_a1 := B1.2
  have hN_a1 : (Int32.ofNat LA).toNatClampNeg = vs.length := by rw [l_a1]; exact own_n (by omega)
  have lt_a1 := V_a1.lt
  obtain ⟨T1, X1, e1, st1⟩ := getS2 X0 hx hZ hown (host := "") (Or.inl (tw hw 96 rfl)) Via.refl e0 (S_ad.ext O0.2) (g := (mkF m 0 (q_2 a1 i1) [])) rfl (d21 hby 0 rfl)
  obtain ⟨cl2, Ar2, hin2, hat2⟩ := own_at (j := (Int32.ofNat (2 * i1))) (i := 2 * i1) V_a1 hN_a1 (own_nn (n := 2 * i1) (by omega)) (own_n (n := 2 * i1) (by omega)) (by omega)
  rw [show (vs.getD (2 * i1) 0) = (cLo u) from hlo] at hat2
  obtain ⟨T3, X3, e3, st3⟩ := getS2 X1 hx hZ hown (host := "") (Or.inl (tw hw 97 rfl)) Via.refl e1 (S_hi.ext O0.2) (g := (mkF m 42 (q_38 a1 i1) [(.int ((cLo u) &&& (255 : Int32)))])) rfl (d21 hby 12 rfl)
  obtain ⟨cl4, Ar4, hin4, hat4⟩ := own_at (j := (Int32.ofNat (2 * i1 + 1))) (i := 2 * i1 + 1) V_a1 hN_a1 (own_nn (n := 2 * i1 + 1) (by omega)) (own_n (n := 2 * i1 + 1) (by omega)) (by omega)
  rw [show (vs.getD (2 * i1 + 1) 0) = (cHi u) from hhi] at hat4
  obtain ⟨T5, X5, e5, st5⟩ := getS2 X3 hx hZ hown (host := "") (Or.inl (tw hw 98 rfl)) Via.refl e3 (S_lo.ext O0.2) (g := (mkF m 53 (q_38 a1 i1) [(.int ((cHi u) &&& (255 : Int32))), (.int ((cLo u) &&& (255 : Int32)))])) rfl (d21 hby 19 rfl)
  refine own_lvN X5 hx hlk hret (by simp) (d21 hby 23 rfl) (by decide) (by decide) (z := (cv u)) (own_cvc _) (Ls := (q_38 a1 i1)) (rest := []) (fun _ k => castTop (ef_ru_get m a1 (Int32.ofNat i1)) ?_) ?_
  · refine st1 _ <| zf X1 hx 3 28 (d21 hby 1 rfl) ((if0 _ _).trans (feq (by decide)).2) <| zl X1 hx (d21 hby 2 rfl) rfl <| zc X1 hx (d21 hby 3 rfl) <| XS.ishl X1.here hx rfl (d21 hby 4 rfl) rfl ?_
    show Go p e w_ T1 m 31 (q_2 a1 i1) [(.int ((Int32.ofNat i1) <<< ((1 : Int32) &&& 31)))] _
    rw [show ((Int32.ofNat i1) <<< ((1 : Int32) &&& 31)) = (Int32.ofNat (2 * i1)) from own_shl1 i1]
    refine zs X1 hx (d21 hby 5 rfl) (Ls' := #[rv a1, nv (2 * i1)]) rfl <| za X1 hx (d21 hby 6 rfl) rfl rfl <| zl X1 hx (d21 hby 7 rfl) rfl <| XS.iinc X1.here hx rfl (d21 hby 8 rfl) rfl (l' := #[rv a1, iv ((Int32.ofNat (2 * i1)) + (1 : Int32))]) rfl ?_
    show Go p e w_ T1 m 37 #[.val (.ref a1), .val (.int ((Int32.ofNat (2 * i1)) + (1 : Int32)))] [(.int (Int32.ofNat (2 * i1))), (.ref a1)] _
    rw [show ((Int32.ofNat (2 * i1)) + (1 : Int32)) = (Int32.ofNat (2 * i1 + 1)) from own_add (2 * i1) 1]
    show Go p e w_ T1 m 37 (q_38 a1 i1) [(vN (2 * i1)), (.ref a1)] _
    refine X1.baloadBytes hx (j := (Int32.ofNat (2 * i1))) (v := (.int (cLo u))) (by rw [e1]; exact Ar2.1) (State.isArrayOf_alike hZ.alike Ar2.2.1) Ar2.2.2 hin2 hat2 (g := (mkF m 37 (q_38 a1 i1) [(vN (2 * i1)), (.ref a1)])) rfl rfl (d21 hby 9 rfl) _ <| XS.sipush X1.here hx rfl (d21 hby 10 rfl) <| XS.iand X1.here hx rfl (d21 hby 11 rfl) rfl <| st3 _ <| XS.ishl X3.here hx rfl (d21 hby 13 rfl) rfl ?_
    show Go p e w_ T3 m 46 (q_38 a1 i1) [(.int (((cLo u) &&& (255 : Int32)) <<< ((0 : Int32) &&& 31)))] _
    rw [show (((cLo u) &&& (255 : Int32)) <<< ((0 : Int32) &&& 31)) = ((cLo u) &&& (255 : Int32)) from own_shl0 _]
    refine za X3 hx (d21 hby 14 rfl) rfl rfl <| zl X3 hx (d21 hby 15 rfl) rfl ?_
    show Go p e w_ T3 m 48 (q_38 a1 i1) [(vN (2 * i1 + 1)), (.ref a1), (.int ((cLo u) &&& (255 : Int32)))] _
    refine X3.baloadBytes hx (j := (Int32.ofNat (2 * i1 + 1))) (v := (.int (cHi u))) (by rw [e3]; exact Ar4.1) (State.isArrayOf_alike hZ.alike Ar4.2.1) Ar4.2.2 hin4 hat4 (g := (mkF m 48 (q_38 a1 i1) [(vN (2 * i1 + 1)), (.ref a1), (.int ((cLo u) &&& (255 : Int32)))])) rfl rfl (d21 hby 16 rfl) _ <| XS.sipush X3.here hx rfl (d21 hby 17 rfl) <| XS.iand X3.here hx rfl (d21 hby 18 rfl) rfl <| st5 _ <| XS.ishl X5.here hx rfl (d21 hby 20 rfl) rfl <| XS.ior X5.here hx rfl (d21 hby 21 rfl) rfl <| XS.i2c X5.here hx rfl (d21 hby 22 rfl) rfl ?_
    show Go p e w_ T5 m 59 (q_38 a1 i1) [(.int ((((cLo u) &&& (255 : Int32)) ||| (((cHi u) &&& (255 : Int32)) <<< ((8 : Int32) &&& 31))).toUInt32.toUInt16.toUInt32.toInt32))] _
    rw [show ((((cLo u) &&& (255 : Int32)) ||| (((cHi u) &&& (255 : Int32)) <<< ((8 : Int32) &&& 31))).toUInt32.toUInt16.toUInt32.toInt32) = (cv u) from own_get u]
    exact k
  · rw [e5]
    exact ⟨rfl, N0, rfl⟩
theorem d31 : Dl cb5 [(0, .iload_n 1, 1), (1, .aload_n 0, 1), (2, .invokestatic 67, 3), (5, .aload_n 0, 1), (6, .iload_n 1, 1), (7, .invokestatic 71, 3), (10, .ireturn, 1)] := dlk (by decide +kernel)
theorem pd3 : parseMethodDescriptor "(I[B)V" = some ⟨[.int, (.array .byte)], none⟩ := by decide +kernel
theorem pd4 : parseMethodDescriptor "([BI)C" = some ⟨[(.array .byte), .int], some .char⟩ := by decide +kernel
theorem ru_ch (a1 : Addr) (kA : ClassId) (LA : Nat) (vs : List Int32) (i1 : Nat) (u : UInt16) (B1 : Bar Z h0 a1 kA LA vs) (hB : LA ≤ 110) (hi : 2 * i1 + 1 < LA) (hlo : vs.getD (2 * i1) 0 = cLo u) (hhi : vs.getD (2 * i1 + 1) 0 = cHi u) :
    Mt (l := l) hw (ws := ws) O0 ST Y_68 jdk_52_method_83_code 2 (some .char) R_37 #[(.ref a1), (vN i1)] (Qpure (some (.int (cv u))) h0 n0) := by
  refine own_met (plainFor_of_name pn0) fun p e s m w_ meth c s₁ hx hby hml hZ hh hown hnm hret hlk X0 e0 => ?_
  have N0 := Fr.nil n0
  have V_a1 := B1.1
  have l_a1 := B1.2
  have hN_a1 : (Int32.ofNat LA).toNatClampNeg = vs.length := by rw [l_a1]; exact own_n (by omega)
  have lt_a1 := V_a1.lt
  obtain ⟨_, T1, Lc1, X1, hQ1, st1⟩ := own_sc X0 hx hZ (y := Y_67) hown hml (tw hw 153 rfl) (tw hw 154 rfl) (ru_ci hw O0 ST a1 kA LA vs i1 B1 hB hi) (tw hw 155 rfl) (tw hw 78 rfl) e0 (W := 0) (Ls := (q_2 a1 i1)) (argsL := [(vN i1), (.ref a1)]) (rest := []) (lenOf pd3 rfl) (d31 hby 2 rfl)
  obtain ⟨rfl, Nq1, e1⟩ := hQ1
  have N1 := Fr.app N0 Nq1
  obtain ⟨_, T2, Lc2, X2, hQ2, st2⟩ := own_sc X1 hx hZ (y := Y_9) hown hml (tw hw 99 rfl) (tw hw 100 rfl) (ru_get hw O0 ST a1 kA LA vs i1 u B1 hB hi hlo hhi) (tw hw 101 rfl) (tw hw 78 rfl) e1 (W := 0) (Ls := (q_2 a1 i1)) (argsL := [(.ref a1), (vN i1)]) (rest := []) (lenOf pd4 rfl) (d31 hby 5 rfl)
  obtain ⟨rfl, Nq2, e2⟩ := hQ2
  have N2 := Fr.app N1 Nq2
  refine own_lvN X2 hx hlk hret (by simp) (d31 hby 6 rfl) (by decide) (by decide) (z := (cv u)) (own_cvc _) (Ls := (q_2 a1 i1)) (rest := []) (fun _ k => castTop (ef_ru_get m a1 (Int32.ofNat i1)) ?_) ?_
  · refine zl X0 hx (d31 hby 0 rfl) rfl <| za X0 hx (d31 hby 1 rfl) rfl rfl <| st1 _ <| za X1 hx (d31 hby 3 rfl) rfl rfl <| zl X1 hx (d31 hby 4 rfl) rfl <| st2 _ ?_
    exact k
  · rw [e2]
    exact ⟨rfl, N2, rfl⟩
theorem pn3 : plainName "java/lang/StringLatin1" = true := by first | (simp [plainName, overriddenIn]; done) | decide +kernel
theorem d85 : Dl cb6 [(0, .iload_n 1, 1), (1, .aload_n 0, 1), (2, .arraylength, 1), (3, .invokestatic 9, 3), (6, .aload_n 0, 1), (7, .iload_n 1, 1), (8, .baload, 1), (9, .sipush 255, 3), (12, .iand, 1), (13, .i2c, 1), (14, .ireturn, 1)] := dlk (by decide +kernel)
theorem rl_ch (a1 : Addr) (kA : ClassId) (LA : Nat) (vs : List Int32) (i1 : Nat) (u : UInt16) (B1 : Bar Z h0 a1 kA LA vs) (hB : LA ≤ 110) (hi : i1 < LA) (hlo : vs.getD i1 0 = cLo u) (hu : u < 256) :
    Mt (l := l) hw (ws := ws) O0 ST Y_69 jdk_43_method_2_code 2 (some .char) R_29 #[(.ref a1), (vN i1)] (Qpure (some (.int (cv u))) h0 n0) := by
  refine own_met (plainFor_of_name pn3) fun p e s m w_ meth c s₁ hx hby hml hZ hh hown hnm hret hlk X0 e0 => ?_
  have N0 := Fr.nil n0
  have V_a1 := B1.1
  have l_a1 := B1.2
  have hN_a1 : (Int32.ofNat LA).toNatClampNeg = vs.length := by rw [l_a1]; exact own_n (by omega)
  have lt_a1 := V_a1.lt
  obtain ⟨cl1, Ar1, q1, Sz1, Nn1, Ha1, Gf1⟩ := id V_a1
  obtain ⟨_, T2, Lc2, X2, hQ2, st2⟩ := own_sc X0 hx hZ (y := Y_52) hown hml (tw hw 394 rfl) (tw hw 160 rfl) (rs_ci hw O0 ST i1 LA hi hB) (tw hw 161 rfl) (tw hw 14 rfl) e0 (W := 0) (Ls := (q_2 a1 i1)) (argsL := [(vN i1), (vN LA)]) (rest := []) (lenOf pd2 rfl) (d85 hby 3 rfl)
  obtain ⟨rfl, Nq2, e2⟩ := hQ2
  have N2 := Fr.app N0 Nq2
  obtain ⟨cl3, Ar3, hin3, hat3⟩ := own_at (j := (Int32.ofNat i1)) (i := i1) V_a1 hN_a1 (own_nn (n := i1) (by omega)) (own_n (n := i1) (by omega)) (by omega)
  rw [show (vs.getD i1 0) = (cLo u) from hlo] at hat3
  refine own_lvN X2 hx hlk hret (by simp) (d85 hby 10 rfl) (by decide) (by decide) (z := (cv u)) (own_cvc _) (Ls := (q_2 a1 i1)) (rest := []) (fun _ k => castTop (ef_ru_get m a1 (Int32.ofNat i1)) ?_) ?_
  · refine zl X0 hx (d85 hby 0 rfl) rfl <| za X0 hx (d85 hby 1 rfl) rfl rfl ?_
    show Go p e w_ s₁ m 2 (q_2 a1 i1) [(.ref a1), (vN i1)] _
    refine X0.arraylength hx (by rw [e0]; exact Ar1.1) (State.isArrayOf_alike hZ.alike Ar1.2.1) (g := (mkF m 2 (q_2 a1 i1) [(.ref a1), (vN i1)])) rfl rfl (d85 hby 2 rfl) _ ?_
    rw [len_of Sz1 Nn1]
    refine st2 _ <| za X2 hx (d85 hby 4 rfl) rfl rfl <| zl X2 hx (d85 hby 5 rfl) rfl ?_
    show Go p e w_ T2 m 8 (q_2 a1 i1) [(vN i1), (.ref a1)] _
    refine X2.baloadBytes hx (j := (Int32.ofNat i1)) (v := (.int (cLo u))) (by rw [e2]; exact Ar3.1) (State.isArrayOf_alike hZ.alike Ar3.2.1) Ar3.2.2 hin3 hat3 (g := (mkF m 8 (q_2 a1 i1) [(vN i1), (.ref a1)])) rfl rfl (d85 hby 6 rfl) _ <| XS.sipush X2.here hx rfl (d85 hby 7 rfl) <| XS.iand X2.here hx rfl (d85 hby 8 rfl) rfl <| XS.i2c X2.here hx rfl (d85 hby 9 rfl) rfl ?_
    show Go p e w_ T2 m 14 (q_2 a1 i1) [(.int (((cLo u) &&& (255 : Int32)).toUInt32.toUInt16.toUInt32.toInt32))] _
    rw [show (((cLo u) &&& (255 : Int32)).toUInt32.toUInt16.toUInt32.toInt32) = (cv u) from own_rdc hu]
    exact k
  · rw [e2]
    exact ⟨rfl, N2, rfl⟩
theorem d9 : Dl cb7 [(0, .getstatic 38, 3), (3, .ifCond .eq 10, 3), (6, .aload_n 0, 1), (7, .getfield 15, 3), (10, .goto 4, 3), (14, .ireturn, 1)] := dlk (by decide +kernel)
theorem rs_cd0 (a1 bA : Addr) (kA : ClassId) (cs : List UInt16) (HS : Str0 Z h0 a1 bA kA cs) (hc : cs.length ≤ 24) :
    Mt (l := l) hw (ws := ws) O0 ST Y_1 jdk_42_method_152_code 1 (some .byte) R_0 #[(.ref a1)] (Qpure (some (vL 0)) h0 n0) := by
  refine own_met (plainFor_of_name pn2) fun p e s m w_ meth c s₁ hx hby hml hZ hh hown hnm hret hlk X0 e0 => ?_
  have N0 := Fr.nil n0
  obtain ⟨S_cs, hG, S_fm, hF, S_ad, S_hi, S_lo⟩ := id ST
  obtain ⟨E_a1, Fc_a1, Fv_a1, B_bA, hu_a1⟩ := id HS
  have lt_a1 := E_a1.lt
  have V_bA := B_bA.1
  have l_bA := B_bA.2
  have hN_bA : (Int32.ofNat cs.length).toNatClampNeg = (cs.map cLo).length := by rw [l_bA]; exact own_n (by omega)
  have lt_bA := V_bA.lt
  obtain ⟨T1, X1, e1, st1⟩ := getS2 X0 hx hZ hown (host := "") (Or.inl (tw hw 51 rfl)) Via.refl e0 (S_cs.ext O0.2) (g := (mkF m 0 (q_0 a1) [])) rfl (d9 hby 0 rfl)
  obtain ⟨T2, X2, e2, st2⟩ := getF X1 hx hZ hown (host := "") (Or.inl (tw hw 32 rfl)) Via.refl e1 Fc_a1 (g := (mkF m 7 (q_0 a1) [(.ref a1)])) rfl rfl (d9 hby 3 rfl)
  refine own_lvN X2 hx hlk hret (by simp) (d9 hby 5 rfl) (by decide) (by decide) (z := (0 : Int32)) rfl (Ls := (q_0 a1)) (rest := []) (fun _ k => castTop (ef_ru_len m a1) ?_) ?_
  · refine st1 _ <| zg X1 hx (d9 hby 1 rfl) ((if0 _ _).trans (feq hG).1) <| za X1 hx (d9 hby 2 rfl) rfl rfl <| st2 _ <| zo X2 hx 10 14 (d9 hby 4 rfl) ?_
    exact k
  · rw [e2]
    exact ⟨rfl, N0, rfl⟩
theorem d13 : Dl cb8 [(0, .getstatic 38, 3), (3, .ifCond .eq 14, 3), (6, .aload_n 0, 1), (7, .getfield 15, 3), (10, .ifCond .ne 7, 3), (13, .iconst 1, 1), (14, .goto 4, 3), (18, .ireturn, 1), (17, .iconst 0, 1)] := dlk (by decide +kernel)
theorem rs_il0 (a1 bA : Addr) (kA : ClassId) (cs : List UInt16) (HS : Str0 Z h0 a1 bA kA cs) (hc : cs.length ≤ 24) :
    Mt (l := l) hw (ws := ws) O0 ST Y_2 jdk_42_method_154_code 1 (some .boolean) R_0 #[(.ref a1)] (Qpure (some (vL 1)) h0 n0) := by
  refine own_met (plainFor_of_name pn2) fun p e s m w_ meth c s₁ hx hby hml hZ hh hown hnm hret hlk X0 e0 => ?_
  have N0 := Fr.nil n0
  obtain ⟨S_cs, hG, S_fm, hF, S_ad, S_hi, S_lo⟩ := id ST
  obtain ⟨E_a1, Fc_a1, Fv_a1, B_bA, hu_a1⟩ := id HS
  have lt_a1 := E_a1.lt
  have V_bA := B_bA.1
  have l_bA := B_bA.2
  have hN_bA : (Int32.ofNat cs.length).toNatClampNeg = (cs.map cLo).length := by rw [l_bA]; exact own_n (by omega)
  have lt_bA := V_bA.lt
  obtain ⟨T1, X1, e1, st1⟩ := getS2 X0 hx hZ hown (host := "") (Or.inl (tw hw 51 rfl)) Via.refl e0 (S_cs.ext O0.2) (g := (mkF m 0 (q_0 a1) [])) rfl (d13 hby 0 rfl)
  obtain ⟨T2, X2, e2, st2⟩ := getF X1 hx hZ hown (host := "") (Or.inl (tw hw 32 rfl)) Via.refl e1 Fc_a1 (g := (mkF m 7 (q_0 a1) [(.ref a1)])) rfl rfl (d13 hby 3 rfl)
  refine own_lvN X2 hx hlk hret (by simp) (d13 hby 7 rfl) (by decide) (by decide) (z := (1 : Int32)) rfl (Ls := (q_0 a1)) (rest := []) (fun _ k => castTop (ef_ru_len m a1) ?_) ?_
  · refine st1 _ <| zg X1 hx (d13 hby 1 rfl) ((if0 _ _).trans (feq hG).1) <| za X1 hx (d13 hby 2 rfl) rfl rfl <| st2 _ <| zg X2 hx (d13 hby 4 rfl) ((if0 _ _).trans (teq (by decide)).2) <| zc X2 hx (d13 hby 5 rfl) <| zo X2 hx 14 18 (d13 hby 6 rfl) ?_
    exact k
  · rw [e2]
    exact ⟨rfl, N0, rfl⟩
theorem d8 : Dl cb9 [(0, .aload_n 0, 1), (1, .getfield 9, 3), (4, .arraylength, 1), (5, .aload_n 0, 1), (6, .invokevirtual 335, 3), (9, .ishr, 1), (10, .ireturn, 1)] := dlk (by decide +kernel)
theorem pd5 : parseMethodDescriptor "()B" = some ⟨[], some .byte⟩ := by decide +kernel
theorem rs_len0 (a1 bA : Addr) (kA : ClassId) (cs : List UInt16) (HS : Str0 Z h0 a1 bA kA cs) (hc : cs.length ≤ 24) :
    Mt (l := l) hw (ws := ws) O0 ST Y_0 jdk_42_method_54_code 1 (some .int) R_8 #[(.ref a1)] (Qpure (some (vN cs.length)) h0 n0) := by
  refine own_met (plainFor_of_name pn2) fun p e s m w_ meth c s₁ hx hby hml hZ hh hown hnm hret hlk X0 e0 => ?_
  have N0 := Fr.nil n0
  obtain ⟨E_a1, Fc_a1, Fv_a1, B_bA, hu_a1⟩ := id HS
  have lt_a1 := E_a1.lt
  have V_bA := B_bA.1
  have l_bA := B_bA.2
  have hN_bA : (Int32.ofNat cs.length).toNatClampNeg = (cs.map cLo).length := by rw [l_bA]; exact own_n (by omega)
  have lt_bA := V_bA.lt
  obtain ⟨T1, X1, e1, st1⟩ := getF X0 hx hZ hown (host := "") (Or.inl (tw hw 31 rfl)) Via.refl e0 Fv_a1 (g := (mkF m 1 (q_0 a1) [(.ref a1)])) rfl rfl (d8 hby 1 rfl)
  obtain ⟨cl2, Ar2, q2, Sz2, Nn2, Ha2, Gf2⟩ := id V_bA
  obtain ⟨_, T3, Lc3, X3, hQ3, st3⟩ := own_vc X1 hx hZ (y := Y_1) hown hml (tw hw 46 rfl) (tw hw 47 rfl) (tw hw 49 rfl) (tw hw 48 rfl) (rs_cd0 hw O0 ST a1 bA kA cs HS hc) (tw hw 50 rfl) (tw hw 14 rfl) e1 E_a1 (W := 1) (Ls := (q_0 a1)) (argsL := []) (rest := [(vN cs.length)]) (lenOf pd5 rfl) (d8 hby 4 rfl)
  obtain ⟨rfl, Nq3, e3⟩ := hQ3
  have N3 := Fr.app N0 Nq3
  refine own_lvI X3 hx hlk hret (d8 hby 6 rfl) (by decide) (by decide) (z := (Int32.ofNat cs.length)) (Ls := (q_0 a1)) (rest := []) (fun _ k => castTop (ef_ru_len m a1) ?_) ?_
  · refine za X0 hx (d8 hby 0 rfl) rfl rfl <| st1 _ ?_
    show Go p e w_ T1 m 4 (q_0 a1) [(.ref bA)] _
    refine X1.arraylength hx (by rw [e1]; exact Ar2.1) (State.isArrayOf_alike hZ.alike Ar2.2.1) (g := (mkF m 4 (q_0 a1) [(.ref bA)])) rfl rfl (d8 hby 2 rfl) _ ?_
    rw [len_of Sz2 Nn2]
    refine za X1 hx (d8 hby 3 rfl) rfl rfl <| st3 _ <| XS.ishr X3.here hx rfl (d8 hby 5 rfl) rfl ?_
    show Go p e w_ T3 m 10 (q_0 a1) [(.int ((Int32.ofNat cs.length) >>> ((0 : Int32) &&& 31)))] _
    rw [show ((Int32.ofNat cs.length) >>> ((0 : Int32) &&& 31)) = (Int32.ofNat cs.length) from own_shr0 _]
    exact k
  · rw [e3]
    exact ⟨rfl, N3, rfl⟩
theorem d30 : Dl cb10 [(0, .aload_n 0, 1), (1, .invokevirtual 492, 3), (4, .ifCond .eq 12, 3), (7, .aload_n 0, 1), (8, .getfield 9, 3), (11, .iload_n 1, 1), (12, .invokestatic 495, 3), (15, .ireturn, 1), (16, .aload_n 0, 1), (17, .getfield 9, 3), (20, .iload_n 1, 1), (21, .invokestatic 498, 3), (24, .ireturn, 1)] := dlk (by decide +kernel)
theorem pd6 : parseMethodDescriptor "()Z" = some ⟨[], some .boolean⟩ := by decide +kernel
theorem rs_ch0 (a1 bA : Addr) (kA : ClassId) (cs : List UInt16) (i1 : Nat) (HS : Str0 Z h0 a1 bA kA cs) (hc : cs.length ≤ 24) (hi : i1 < cs.length) :
    Mt (l := l) hw (ws := ws) O0 ST Y_26 jdk_42_method_56_code 2 (some .char) R_23 #[(.ref a1), (vN i1)] (Qpure (some (.int (cv (cs.getD i1 0)))) h0 n0) := by
  refine own_met (plainFor_of_name pn2) fun p e s m w_ meth c s₁ hx hby hml hZ hh hown hnm hret hlk X0 e0 => ?_
  have N0 := Fr.nil n0
  obtain ⟨E_a1, Fc_a1, Fv_a1, B_bA, hu_a1⟩ := id HS
  have lt_a1 := E_a1.lt
  have V_bA := B_bA.1
  have l_bA := B_bA.2
  have hN_bA : (Int32.ofNat cs.length).toNatClampNeg = (cs.map cLo).length := by rw [l_bA]; exact own_n (by omega)
  have lt_bA := V_bA.lt
  obtain ⟨_, T1, Lc1, X1, hQ1, st1⟩ := own_vc X0 hx hZ (y := Y_2) hown hml (tw hw 66 rfl) (tw hw 67 rfl) (tw hw 69 rfl) (tw hw 68 rfl) (rs_il0 hw O0 ST a1 bA kA cs HS hc) (tw hw 70 rfl) (tw hw 14 rfl) e0 E_a1 (W := 0) (Ls := (q_2 a1 i1)) (argsL := []) (rest := []) (lenOf pd6 rfl) (d30 hby 1 rfl)
  obtain ⟨rfl, Nq1, e1⟩ := hQ1
  have N1 := Fr.app N0 Nq1
  obtain ⟨T2, X2, e2, st2⟩ := getF X1 hx hZ hown (host := "") (Or.inl (tw hw 31 rfl)) Via.refl e1 Fv_a1 (g := (mkF m 8 (q_2 a1 i1) [(.ref a1)])) rfl rfl (d30 hby 4 rfl)
  obtain ⟨_, T3, Lc3, X3, hQ3, st3⟩ := own_sc X2 hx hZ (y := Y_69) hown hml (tw hw 391 rfl) (tw hw 392 rfl) (rl_ch hw O0 ST bA kA cs.length (cs.map cLo) i1 (cs.getD i1 0) B_bA (by omega) hi (own_lod hi) (own_up hu_a1 hi)) (tw hw 393 rfl) (tw hw 291 rfl) e2 (W := 0) (Ls := (q_2 a1 i1)) (argsL := [(.ref bA), (vN i1)]) (rest := []) (lenOf pd4 rfl) (d30 hby 6 rfl)
  obtain ⟨rfl, Nq3, e3⟩ := hQ3
  have N3 := Fr.app N1 Nq3
  refine own_lvN X3 hx hlk hret (by simp) (d30 hby 7 rfl) (by decide) (by decide) (z := (cv (cs.getD i1 0))) (own_cvc _) (Ls := (q_2 a1 i1)) (rest := []) (fun _ k => castTop (ef_ru_get m a1 (Int32.ofNat i1)) ?_) ?_
  · refine za X0 hx (d30 hby 0 rfl) rfl rfl <| st1 _ <| zg X1 hx (d30 hby 2 rfl) ((if0 _ _).trans (feq (by decide)).1) <| za X1 hx (d30 hby 3 rfl) rfl rfl <| st2 _ <| zl X2 hx (d30 hby 5 rfl) rfl <| st3 _ ?_
    exact k
  · rw [e3]
    exact ⟨rfl, N3, rfl⟩
theorem rs_cd1 (a1 bA : Addr) (kA : ClassId) (cs : List UInt16) (HS : Str1 Z h0 a1 bA kA cs) (hc : cs.length ≤ 24) :
    Mt (l := l) hw (ws := ws) O0 ST Y_1 jdk_42_method_152_code 1 (some .byte) R_0 #[(.ref a1)] (Qpure (some (vL 1)) h0 n0) := by
  refine own_met (plainFor_of_name pn2) fun p e s m w_ meth c s₁ hx hby hml hZ hh hown hnm hret hlk X0 e0 => ?_
  have N0 := Fr.nil n0
  obtain ⟨S_cs, hG, S_fm, hF, S_ad, S_hi, S_lo⟩ := id ST
  obtain ⟨E_a1, Fc_a1, Fv_a1, B_bA⟩ := id HS
  have lt_a1 := E_a1.lt
  have V_bA := B_bA.1
  have l_bA := B_bA.2
  have hN_bA : (Int32.ofNat (2 * cs.length)).toNatClampNeg = (enc1 cs).length := by rw [l_bA]; exact own_n (by omega)
  have lt_bA := V_bA.lt
  obtain ⟨T1, X1, e1, st1⟩ := getS2 X0 hx hZ hown (host := "") (Or.inl (tw hw 51 rfl)) Via.refl e0 (S_cs.ext O0.2) (g := (mkF m 0 (q_0 a1) [])) rfl (d9 hby 0 rfl)
  obtain ⟨T2, X2, e2, st2⟩ := getF X1 hx hZ hown (host := "") (Or.inl (tw hw 32 rfl)) Via.refl e1 Fc_a1 (g := (mkF m 7 (q_0 a1) [(.ref a1)])) rfl rfl (d9 hby 3 rfl)
  refine own_lvN X2 hx hlk hret (by simp) (d9 hby 5 rfl) (by decide) (by decide) (z := (1 : Int32)) rfl (Ls := (q_0 a1)) (rest := []) (fun _ k => castTop (ef_ru_len m a1) ?_) ?_
  · refine st1 _ <| zg X1 hx (d9 hby 1 rfl) ((if0 _ _).trans (feq hG).1) <| za X1 hx (d9 hby 2 rfl) rfl rfl <| st2 _ <| zo X2 hx 10 14 (d9 hby 4 rfl) ?_
    exact k
  · rw [e2]
    exact ⟨rfl, N0, rfl⟩
theorem rs_il1 (a1 bA : Addr) (kA : ClassId) (cs : List UInt16) (HS : Str1 Z h0 a1 bA kA cs) (hc : cs.length ≤ 24) :
    Mt (l := l) hw (ws := ws) O0 ST Y_2 jdk_42_method_154_code 1 (some .boolean) R_0 #[(.ref a1)] (Qpure (some (vL 0)) h0 n0) := by
  refine own_met (plainFor_of_name pn2) fun p e s m w_ meth c s₁ hx hby hml hZ hh hown hnm hret hlk X0 e0 => ?_
  have N0 := Fr.nil n0
  obtain ⟨S_cs, hG, S_fm, hF, S_ad, S_hi, S_lo⟩ := id ST
  obtain ⟨E_a1, Fc_a1, Fv_a1, B_bA⟩ := id HS
  have lt_a1 := E_a1.lt
  have V_bA := B_bA.1
  have l_bA := B_bA.2
  have hN_bA : (Int32.ofNat (2 * cs.length)).toNatClampNeg = (enc1 cs).length := by rw [l_bA]; exact own_n (by omega)
  have lt_bA := V_bA.lt
  obtain ⟨T1, X1, e1, st1⟩ := getS2 X0 hx hZ hown (host := "") (Or.inl (tw hw 51 rfl)) Via.refl e0 (S_cs.ext O0.2) (g := (mkF m 0 (q_0 a1) [])) rfl (d13 hby 0 rfl)
  obtain ⟨T2, X2, e2, st2⟩ := getF X1 hx hZ hown (host := "") (Or.inl (tw hw 32 rfl)) Via.refl e1 Fc_a1 (g := (mkF m 7 (q_0 a1) [(.ref a1)])) rfl rfl (d13 hby 3 rfl)
  refine own_lvN X2 hx hlk hret (by simp) (d13 hby 7 rfl) (by decide) (by decide) (z := (0 : Int32)) rfl (Ls := (q_0 a1)) (rest := []) (fun _ k => castTop (ef_ru_len m a1) ?_) ?_
  · refine st1 _ <| zg X1 hx (d13 hby 1 rfl) ((if0 _ _).trans (feq hG).1) <| za X1 hx (d13 hby 2 rfl) rfl rfl <| st2 _ <| zf X2 hx 10 17 (d13 hby 4 rfl) ((if0 _ _).trans (feq (by decide)).2) <| zc X2 hx (d13 hby 8 rfl) ?_
    exact k
  · rw [e2]
    exact ⟨rfl, N0, rfl⟩
theorem rs_len1 (a1 bA : Addr) (kA : ClassId) (cs : List UInt16) (HS : Str1 Z h0 a1 bA kA cs) (hc : cs.length ≤ 24) :
    Mt (l := l) hw (ws := ws) O0 ST Y_0 jdk_42_method_54_code 1 (some .int) R_8 #[(.ref a1)] (Qpure (some (vN cs.length)) h0 n0) := by
  refine own_met (plainFor_of_name pn2) fun p e s m w_ meth c s₁ hx hby hml hZ hh hown hnm hret hlk X0 e0 => ?_
  have N0 := Fr.nil n0
  obtain ⟨E_a1, Fc_a1, Fv_a1, B_bA⟩ := id HS
  have lt_a1 := E_a1.lt
  have V_bA := B_bA.1
  have l_bA := B_bA.2
  have hN_bA : (Int32.ofNat (2 * cs.length)).toNatClampNeg = (enc1 cs).length := by rw [l_bA]; exact own_n (by omega)
  have lt_bA := V_bA.lt
  obtain ⟨T1, X1, e1, st1⟩ := getF X0 hx hZ hown (host := "") (Or.inl (tw hw 31 rfl)) Via.refl e0 Fv_a1 (g := (mkF m 1 (q_0 a1) [(.ref a1)])) rfl rfl (d8 hby 1 rfl)
  obtain ⟨cl2, Ar2, q2, Sz2, Nn2, Ha2, Gf2⟩ := id V_bA
  obtain ⟨_, T3, Lc3, X3, hQ3, st3⟩ := own_vc X1 hx hZ (y := Y_1) hown hml (tw hw 46 rfl) (tw hw 47 rfl) (tw hw 49 rfl) (tw hw 48 rfl) (rs_cd1 hw O0 ST a1 bA kA cs HS hc) (tw hw 50 rfl) (tw hw 14 rfl) e1 E_a1 (W := 1) (Ls := (q_0 a1)) (argsL := []) (rest := [(vN (2 * cs.length))]) (lenOf pd5 rfl) (d8 hby 4 rfl)
  obtain ⟨rfl, Nq3, e3⟩ := hQ3
  have N3 := Fr.app N0 Nq3
  refine own_lvI X3 hx hlk hret (d8 hby 6 rfl) (by decide) (by decide) (z := (Int32.ofNat cs.length)) (Ls := (q_0 a1)) (rest := []) (fun _ k => castTop (ef_ru_len m a1) ?_) ?_
  · refine za X0 hx (d8 hby 0 rfl) rfl rfl <| st1 _ ?_
    show Go p e w_ T1 m 4 (q_0 a1) [(.ref bA)] _
    refine X1.arraylength hx (by rw [e1]; exact Ar2.1) (State.isArrayOf_alike hZ.alike Ar2.2.1) (g := (mkF m 4 (q_0 a1) [(.ref bA)])) rfl rfl (d8 hby 2 rfl) _ ?_
    rw [len_of Sz2 Nn2]
    refine za X1 hx (d8 hby 3 rfl) rfl rfl <| st3 _ <| XS.ishr X3.here hx rfl (d8 hby 5 rfl) rfl ?_
    show Go p e w_ T3 m 10 (q_0 a1) [(.int ((Int32.ofNat (2 * cs.length)) >>> ((1 : Int32) &&& 31)))] _
    rw [show ((Int32.ofNat (2 * cs.length)) >>> ((1 : Int32) &&& 31)) = (Int32.ofNat cs.length) from own_shr2 (n := cs.length) (by omega)]
    exact k
  · rw [e3]
    exact ⟨rfl, N3, rfl⟩
theorem rs_ch1 (a1 bA : Addr) (kA : ClassId) (cs : List UInt16) (i1 : Nat) (HS : Str1 Z h0 a1 bA kA cs) (hc : cs.length ≤ 24) (hi : i1 < cs.length) :
    Mt (l := l) hw (ws := ws) O0 ST Y_26 jdk_42_method_56_code 2 (some .char) R_23 #[(.ref a1), (vN i1)] (Qpure (some (.int (cv (cs.getD i1 0)))) h0 n0) := by
  refine own_met (plainFor_of_name pn2) fun p e s m w_ meth c s₁ hx hby hml hZ hh hown hnm hret hlk X0 e0 => ?_
  have N0 := Fr.nil n0
  obtain ⟨E_a1, Fc_a1, Fv_a1, B_bA⟩ := id HS
  have lt_a1 := E_a1.lt
  have V_bA := B_bA.1
  have l_bA := B_bA.2
  have hN_bA : (Int32.ofNat (2 * cs.length)).toNatClampNeg = (enc1 cs).length := by rw [l_bA]; exact own_n (by omega)
  have lt_bA := V_bA.lt
  obtain ⟨_, T1, Lc1, X1, hQ1, st1⟩ := own_vc X0 hx hZ (y := Y_2) hown hml (tw hw 66 rfl) (tw hw 67 rfl) (tw hw 69 rfl) (tw hw 68 rfl) (rs_il1 hw O0 ST a1 bA kA cs HS hc) (tw hw 70 rfl) (tw hw 14 rfl) e0 E_a1 (W := 0) (Ls := (q_2 a1 i1)) (argsL := []) (rest := []) (lenOf pd6 rfl) (d30 hby 1 rfl)
  obtain ⟨rfl, Nq1, e1⟩ := hQ1
  have N1 := Fr.app N0 Nq1
  obtain ⟨T2, X2, e2, st2⟩ := getF X1 hx hZ hown (host := "") (Or.inl (tw hw 31 rfl)) Via.refl e1 Fv_a1 (g := (mkF m 17 (q_2 a1 i1) [(.ref a1)])) rfl rfl (d30 hby 9 rfl)
  obtain ⟨_, T3, Lc3, X3, hQ3, st3⟩ := own_sc X2 hx hZ (y := Y_68) hown hml (tw hw 150 rfl) (tw hw 151 rfl) (ru_ch hw O0 ST bA kA (2 * cs.length) (enc1 cs) i1 (cs.getD i1 0) B_bA (by omega) (by omega) (enc1_get cs i1 hi).1 (enc1_get cs i1 hi).2) (tw hw 152 rfl) (tw hw 78 rfl) e2 (W := 0) (Ls := (q_2 a1 i1)) (argsL := [(.ref bA), (vN i1)]) (rest := []) (lenOf pd4 rfl) (d30 hby 11 rfl)
  obtain ⟨rfl, Nq3, e3⟩ := hQ3
  have N3 := Fr.app N1 Nq3
  refine own_lvN X3 hx hlk hret (by simp) (d30 hby 12 rfl) (by decide) (by decide) (z := (cv (cs.getD i1 0))) (own_cvc _) (Ls := (q_2 a1 i1)) (rest := []) (fun _ k => castTop (ef_ru_get m a1 (Int32.ofNat i1)) ?_) ?_
  · refine za X0 hx (d30 hby 0 rfl) rfl rfl <| st1 _ <| zf X1 hx 4 16 (d30 hby 2 rfl) ((if0 _ _).trans (teq (by decide)).1) <| za X1 hx (d30 hby 8 rfl) rfl rfl <| st2 _ <| zl X2 hx (d30 hby 10 rfl) rfl <| st3 _ ?_
    exact k
  · rw [e3]
    exact ⟨rfl, N3, rfl⟩
def Car (Z : State) (h : Heap) (a : Addr) (k : ClassId) (L : Nat) (cs : List UInt16) : Prop := Arv Z h a k .char (Int32.ofNat L) ((cs.map cv).map Value.int) (.int (0 : Int32)) ∧ cs.length = L
def Qsi (Z : State) (a b : Addr) (d : Int32) (h0 : Heap) (n0 : Nat) (v : Option Value) (h : Heap) (Lc : List Loc) : Prop := v = none ∧ Fr n0 Lc ∧ Keep h0 h [a] ∧ Exa Z h a "java/lang/String" ∧ Fld Z h a "java/lang/String" "coder" "B" (.int d) ∧ Fld Z h a "java/lang/String" "value" "[B" (.ref b)
def Strx (Z : State) (h : Heap) (a b : Addr) (k : ClassId) (cs : List UInt16) : Prop := Str0 Z h a b k cs ∨ (Str1 Z h a b k cs ∧ ¬ ∀ u ∈ cs, u < 256)
def Qs (Z : State) (cs : List UInt16) (h0 : Heap) (n0 : Nat) (v : Option Value) (h : Heap) (Lc : List Loc) : Prop := ∃ (a b : Addr) (k : ClassId), v = some (.ref a) ∧ Fr n0 Lc ∧ Keep h0 h [] ∧ h0.size ≤ a ∧ h0.size ≤ b ∧ Strx Z h a b k cs
theorem own_drop {cs : List UInt16} {j : Nat} (h : j < cs.length) : cs.drop j = cs.getD j 0 :: cs.drop (j + 1) := by
  rw [List.drop_eq_getElem_cons h]; simp [List.getD_eq_getElem?_getD, h]
theorem own_p0 (d : Nat) (ds : List Int32) (cs : List UInt16) : puts ds (d + cs.length) (cs.drop cs.length) = ds := by rw [List.drop_length]; rfl
theorem own_p1 {d : Nat} {ds : List Int32} {cs : List UInt16} {j : Nat} (h : j < cs.length) : puts ds (d + j) (cs.drop j) = puts (put ds (d + j) (cs.getD j 0)) (d + (j + 1)) (cs.drop (j + 1)) := by rw [own_drop h]; rfl
theorem d20 : Dl cb11 [(0, .getstatic 44, 3), (3, .ifCond .ne 25, 3), (28, .iload_n 1, 1), (29, .iconst 1, 1), (30, .ishl, 1), (31, .istore_n 1, 1), (32, .aload_n 0, 1), (33, .iload_n 1, 1), (34, .iinc 1 1, 3), (37, .iload_n 2, 1), (38, .getstatic 59, 3), (41, .ishr, 1), (42, .i2b, 1), (43, .bastore, 1), (44, .aload_n 0, 1), (45, .iload_n 1, 1), (46, .iload_n 2, 1), (47, .getstatic 63, 3), (50, .ishr, 1), (51, .i2b, 1), (52, .bastore, 1), (53, .return_, 1)] := dlk (by decide +kernel)
theorem ef_ru_put (m : MethodId) (x0 : Addr) (x1 : Int32) (x2 : Int32) : entryFrame m #[(.ref x0), (.int x1), (.int x2)] 3 = mkF m 0 #[.val (.ref x0), .val (.int x1), .val (.int x2)] [] := by first | (simp [entryFrame, mkF, argsToLocals, Value.category]; done) | rfl
theorem ru_put (a1 : Addr) (kA : ClassId) (LA : Nat) (vs : List Int32) (i1 : Nat) (u : UInt16) (B1 : Bar Z h0 a1 kA LA vs) (hB : LA ≤ 110) (hi : 2 * i1 + 1 < LA) (g_a1 : n0 ≤ a1) :
    Mt (l := l) hw (ws := ws) O0 ST Y_35 jdk_52_method_4_code 3 none R_0 #[(.ref a1), (vN i1), (.int (cv u))] (Qwr Z a1 kA LA (put vs i1 u) h0 n0) := by
  refine own_met (plainFor_of_name pn0) fun p e s m w_ meth c s₁ hx hby hml hZ hh hown hnm hret hlk X0 e0 => ?_
  have N0 := Fr.nil n0
  obtain ⟨S_cs, hG, S_fm, hF, S_ad, S_hi, S_lo⟩ := id ST
  have V_a1 := B1.1
  have l_a1 := B1.2
  have hN_a1 : (Int32.ofNat LA).toNatClampNeg = vs.length := by rw [l_a1]; exact own_n (by omega)
  have lt_a1 := V_a1.lt
  obtain ⟨T1, X1, e1, st1⟩ := getS2 X0 hx hZ hown (host := "") (Or.inl (tw hw 96 rfl)) Via.refl e0 (S_ad.ext O0.2) (g := (mkF m 0 (q_108 a1 i1 u) [])) rfl (d20 hby 0 rfl)
  obtain ⟨T2, X2, e2, st2⟩ := getS2 X1 hx hZ hown (host := "") (Or.inl (tw hw 97 rfl)) Via.refl e1 (S_hi.ext O0.2) (g := (mkF m 38 (q_33 a1 i1 u) [(.int (cv u)), (vN (2 * i1)), (.ref a1)])) rfl (d20 hby 10 rfl)
  obtain ⟨cl3, Ar3, q3, Sz3, Nn3, Ha3, Gf3⟩ := id V_a1
  have hin3 : ¬ ((Int32.ofNat (2 * i1)) < 0 ∨ cl3.slots.size ≤ ((Int32.ofNat (2 * i1))).toNatClampNeg) := own_inb (i := 2 * i1) Sz3 hN_a1 (own_nn (n := 2 * i1) (by omega)) (own_n (n := 2 * i1) (by omega)) (by omega)
  obtain ⟨T4, h4, X4, e4, W4, st4⟩ := stB X2 hx hZ e2 Ar3 (j := (Int32.ofNat (2 * i1))) hin3 (g := (mkF m 43 (q_33 a1 i1 u) [(.int (cLo u)), (vN (2 * i1)), (.ref a1)])) rfl rfl (d20 hby 13 rfl)
  have Va4 := Arv.set Ar3 q3 Sz3 Nn3 Ha3 Gf3 (fits_nar_byte _) W4 (2 * i1) (own_n (n := 2 * i1) (by omega)) (by rw [List.length_map]; exact (by omega))
  have Vb4 : Arv Z h4 a1 kA .byte (Int32.ofNat LA) ((vs.set (2 * i1) (cLo u)).map Value.int) (vL 0) := by rw [List.map_set, ← (show (cLo u).toInt8.toInt32 = (cLo u) from own_lo8 u)]; exact Va4
  have hN4 : ((Int32.ofNat LA)).toNatClampNeg = (vs.set (2 * i1) (cLo u)).length := by rw [List.length_set]; exact hN_a1
  have O5 := O0.wr W4 g_a1
  have kp6 : Keep h0 h4 [a1] := (Keep.refl h0 [a1]).wr W4 (Or.inl (List.mem_of_getElem? (i := 0) rfl))
  have N4 := Fr.snoc X4 N0 g_a1
  obtain ⟨T7, X7, e7, st7⟩ := getS2 X4 hx hZ hown (host := "") (Or.inl (tw hw 98 rfl)) Via.refl e4 (S_lo.ext O5.2) (g := (mkF m 47 (q_33 a1 i1 u) [(.int (cv u)), (vN (2 * i1 + 1)), (.ref a1)])) rfl (d20 hby 17 rfl)
  obtain ⟨cl8, Ar8, q8, Sz8, Nn8, Ha8, Gf8⟩ := id Vb4
  have hin8 : ¬ ((Int32.ofNat (2 * i1 + 1)) < 0 ∨ cl8.slots.size ≤ ((Int32.ofNat (2 * i1 + 1))).toNatClampNeg) := own_inb (i := 2 * i1 + 1) Sz8 hN4 (own_nn (n := 2 * i1 + 1) (by omega)) (own_n (n := 2 * i1 + 1) (by omega)) (by simp only [List.length_set, List.length_replicate, List.length_map, put_len, enc1_len, List.length_append, List.length_take, List.length_drop]; omega)
  obtain ⟨T9, h9, X9, e9, W9, st9⟩ := stB X7 hx hZ e7 Ar8 (j := (Int32.ofNat (2 * i1 + 1))) hin8 (g := (mkF m 52 (q_33 a1 i1 u) [(.int (cHi u)), (vN (2 * i1 + 1)), (.ref a1)])) rfl rfl (d20 hby 20 rfl)
  have Va9 := Arv.set Ar8 q8 Sz8 Nn8 Ha8 Gf8 (fits_nar_byte _) W9 (2 * i1 + 1) (own_n (n := 2 * i1 + 1) (by omega)) (by rw [List.length_map]; exact (by simp only [List.length_set, List.length_replicate, List.length_map, put_len, enc1_len, List.length_append, List.length_take, List.length_drop]; omega))
  have Vb9 : Arv Z h9 a1 kA .byte (Int32.ofNat LA) (((vs.set (2 * i1) (cLo u)).set (2 * i1 + 1) (cHi u)).map Value.int) (vL 0) := by rw [List.map_set, ← (show (cHi u).toInt8.toInt32 = (cHi u) from own_hi8 u)]; exact Va9
  have hN9 : ((Int32.ofNat LA)).toNatClampNeg = ((vs.set (2 * i1) (cLo u)).set (2 * i1 + 1) (cHi u)).length := by rw [List.length_set]; exact hN4
  have O10 := O5.wr W9 g_a1
  have kp11 := kp6.wr W9 (Or.inl (List.mem_of_getElem? (i := 0) rfl))
  have N9 := Fr.snoc X9 N4 g_a1
  refine own_lvV X9 hx hlk hret (d20 hby 21 rfl) (by decide) (by decide) (Ls := (q_33 a1 i1 u)) (fun _ k => castTop (ef_ru_put m a1 (Int32.ofNat i1) (cv u)) ?_) ?_
  · refine st1 _ <| zf X1 hx 3 28 (d20 hby 1 rfl) ((if0 _ _).trans (feq (by decide)).2) <| zl X1 hx (d20 hby 2 rfl) rfl <| zc X1 hx (d20 hby 3 rfl) <| XS.ishl X1.here hx rfl (d20 hby 4 rfl) rfl ?_
    show Go p e w_ T1 m 31 (q_108 a1 i1 u) [(.int ((Int32.ofNat i1) <<< ((1 : Int32) &&& 31)))] _
    rw [show ((Int32.ofNat i1) <<< ((1 : Int32) &&& 31)) = (Int32.ofNat (2 * i1)) from own_shl1 i1]
    refine zs X1 hx (d20 hby 5 rfl) (Ls' := #[rv a1, nv (2 * i1), iv (cv u)]) rfl <| za X1 hx (d20 hby 6 rfl) rfl rfl <| zl X1 hx (d20 hby 7 rfl) rfl <| XS.iinc X1.here hx rfl (d20 hby 8 rfl) rfl (l' := #[rv a1, iv ((Int32.ofNat (2 * i1)) + (1 : Int32)), iv (cv u)]) rfl ?_
    show Go p e w_ T1 m 37 #[.val (.ref a1), .val (.int ((Int32.ofNat (2 * i1)) + (1 : Int32))), .val (.int (cv u))] [(.int (Int32.ofNat (2 * i1))), (.ref a1)] _
    rw [show ((Int32.ofNat (2 * i1)) + (1 : Int32)) = (Int32.ofNat (2 * i1 + 1)) from own_add (2 * i1) 1]
    refine zl X1 hx (d20 hby 9 rfl) rfl <| st2 _ <| XS.ishr X2.here hx rfl (d20 hby 11 rfl) rfl ?_
    show Go p e w_ T2 m 42 (q_33 a1 i1 u) [(.int ((cv u) >>> ((0 : Int32) &&& 31))), (.int (Int32.ofNat (2 * i1))), (.ref a1)] _
    rw [show ((cv u) >>> ((0 : Int32) &&& 31)) = (cv u) from own_shr0 _]
    refine XS.i2b X2.here hx rfl (d20 hby 12 rfl) rfl ?_
    show Go p e w_ T2 m 43 (q_33 a1 i1 u) [(.int ((cv u).toInt8.toInt32)), (.int (Int32.ofNat (2 * i1))), (.ref a1)] _
    rw [show ((cv u).toInt8.toInt32) = (cLo u) from own_lo u]
    refine st4 _ <| za X4 hx (d20 hby 14 rfl) rfl rfl <| zl X4 hx (d20 hby 15 rfl) rfl <| zl X4 hx (d20 hby 16 rfl) rfl <| st7 _ <| XS.ishr X7.here hx rfl (d20 hby 18 rfl) rfl <| XS.i2b X7.here hx rfl (d20 hby 19 rfl) rfl ?_
    show Go p e w_ T7 m 52 (q_33 a1 i1 u) [(.int (((cv u) >>> ((8 : Int32) &&& 31)).toInt8.toInt32)), (.int (Int32.ofNat (2 * i1 + 1))), (.ref a1)] _
    rw [show (((cv u) >>> ((8 : Int32) &&& 31)).toInt8.toInt32) = (cHi u) from own_hi u]
    refine st9 _ ?_
    exact k
  · rw [e9]
    exact ⟨rfl, N9, kp11, Vb9, by rw [put_len]; exact l_a1⟩
theorem d19 : Dl cb12 [(0, .iload_n 0, 1), (1, .ifCond .ge 11, 3), (12, .iload_n 0, 1), (13, .ldc 20, 2), (15, .if_icmp .lt 40, 3), (55, .iload_n 0, 1), (56, .iconst 1, 1), (57, .ishl, 1), (58, .ireturn, 1)] := dlk (by decide +kernel)
theorem ef_ru_nl (m : MethodId) (x0 : Int32) : entryFrame m #[(.int x0)] 1 = mkF m 0 #[.val (.int x0)] [] := by first | (simp [entryFrame, mkF, argsToLocals, Value.category]; done) | rfl
theorem ru_nl (i1 : Nat) (hi : 2 * i1 ≤ 110) :
    Mt (l := l) hw (ws := ws) O0 ST Y_53 jdk_52_method_3_code 1 (some .int) R_0 #[(vN i1)] (Qpure (some (vN (2 * i1))) h0 n0) := by
  refine own_met (plainFor_of_name pn0) fun p e s m w_ meth c s₁ hx hby hml hZ hh hown hnm hret hlk X0 e0 => ?_
  have N0 := Fr.nil n0
  refine own_lvI X0 hx hlk hret (d19 hby 8 rfl) (by decide) (by decide) (z := (Int32.ofNat (2 * i1))) (Ls := (q_54 i1)) (rest := []) (fun _ k => castTop (ef_ru_nl m (Int32.ofNat i1)) ?_) ?_
  · refine zl X0 hx (d19 hby 0 rfl) rfl <| zf X0 hx 1 12 (d19 hby 1 rfl) ((if0 _ _).trans (flt (fun q => absurd ((own_lt (a := i1) (b := 0) (by omega) (by omega)).mp q) (by omega))).2.1) <| zl X0 hx (d19 hby 2 rfl) rfl ?_
    show Go p e w_ s₁ m 13 (q_54 i1) [(vN i1)] _
    refine X0.ldcInt hx hown (mvT hZ (tw hw 92 rfl)) (g := (mkF m 13 (q_54 i1) [(vN i1)])) rfl (d19 hby 3 rfl) _ <| zy X0 hx 15 55 (d19 hby 4 rfl) (tlt ((own_lt (a := i1) (b := 1073741823) (by omega) (by omega)).mpr (by omega))).1 <| zl X0 hx (d19 hby 5 rfl) rfl <| zc X0 hx (d19 hby 6 rfl) <| XS.ishl X0.here hx rfl (d19 hby 7 rfl) rfl ?_
    show Go p e w_ s₁ m 58 (q_54 i1) [(.int ((Int32.ofNat i1) <<< ((1 : Int32) &&& 31)))] _
    rw [show ((Int32.ofNat i1) <<< ((1 : Int32) &&& 31)) = (Int32.ofNat (2 * i1)) from own_shl1 i1]
    exact k
  · rw [e0]
    exact ⟨rfl, N0, rfl⟩
theorem d18 : Dl cb13 [(0, .iload_n 0, 1), (1, .invokestatic 11, 3), (4, .newarray .byte, 2), (6, .areturn, 1)] := dlk (by decide +kernel)
theorem pd7 : parseMethodDescriptor "(I)I" = some ⟨[.int], some .int⟩ := by decide +kernel
theorem ru_nf (i1 : Nat) (hi : 2 * i1 ≤ 110) :
    Mt (l := l) hw (ws := ws) O0 ST Y_54 jdk_52_method_2_code 1 (some (.array .byte)) R_38 #[(vN i1)] (Qar Z (2 * i1) (List.replicate (2 * i1) 0) h0 n0) := by
  refine own_met (plainFor_of_name pn0) fun p e s m w_ meth c s₁ hx hby hml hZ hh hown hnm hret hlk X0 e0 => ?_
  have N0 := Fr.nil n0
  obtain ⟨_, T1, Lc1, X1, hQ1, st1⟩ := own_sc X0 hx hZ (y := Y_53) hown hml (tw hw 89 rfl) (tw hw 90 rfl) (ru_nl hw O0 ST i1 hi) (tw hw 91 rfl) (tw hw 78 rfl) e0 (W := 0) (Ls := (q_54 i1)) (argsL := [(vN i1)]) (rest := []) (lenOf pd7 rfl) (d18 hby 1 rfl)
  obtain ⟨rfl, Nq1, e1⟩ := hQ1
  have N1 := Fr.app N0 Nq1
  obtain ⟨T2, h2, k2, X2, e2, E2, A2, Ea2, st2⟩ := newPE X1 hx hZ (tw hw 26 rfl) e1 (g := (mkF m 4 (q_54 i1) [(vN (2 * i1))])) rfl (d18 hby 2 rfl) rfl (own_nn (n := 2 * i1) (by omega)) (cap := 110) (by rw [own_n (n := 2 * i1) (by omega)]; omega) (by decide) (by decide) (by decide) (ad := "[B") (by decide)
  obtain ⟨b2, g2⟩ : ∃ z, z = h0.size := ⟨_, rfl⟩
  rw [← g2] at A2 Ea2 st2
  have g_b2 : n0 ≤ b2 := by rw [g2]; exact Nat.le_trans (Nat.le_of_eq O0.1.symm) O0.2.1
  have sz_b2 : h0.size ≤ b2 := by rw [g2]; exact (Keep.refl h0 []).1
  have O3 := O0.ext E2
  have kp4 : Keep h0 h2 [] := (Keep.refl h0 []).ext E2
  have V_b2 : Arv Z h2 b2 k2 .byte (Int32.ofNat (2 * i1)) ((List.replicate (2 * i1) (0 : Int32)).map Value.int) (vL 0) := by rw [List.map_replicate]; exact (Arv.new A2 (own_nn (n := 2 * i1) (by omega))).pad (pad_rep [] (vL 0) (2 * i1))
  have hN_b2 : ((Int32.ofNat (2 * i1))).toNatClampNeg = (List.replicate (2 * i1) (0 : Int32)).length := by rw [List.length_replicate]; exact own_n (n := 2 * i1) (by omega)
  refine own_lvA X2 hx hlk hret rfl (d18 hby 3 rfl) (by decide) (by decide) (w := (.ref b2)) rfl (Ls := (q_54 i1)) (rest := []) (fun _ k => castTop (ef_ru_nl m (Int32.ofNat i1)) ?_) ?_
  · refine zl X0 hx (d18 hby 0 rfl) rfl <| st1 _ <| st2 _ ?_
    exact k
  · rw [e2]
    exact ⟨b2, _, rfl, N1, kp4, sz_b2, ⟨V_b2, by simp only [List.length_set, List.length_replicate]⟩, Ea2⟩
theorem d48 : Dl cb14 [(0, .aload_n 0, 1), (1, .invokespecial 1, 3), (4, .aload_n 0, 1), (5, .aload_n 1, 1), (6, .putfield 9, 3), (9, .aload_n 0, 1), (10, .iload_n 2, 1), (11, .putfield 15, 3), (14, .return_, 1)] := dlk (by decide +kernel)
theorem ef_rs_ib0 (m : MethodId) (x0 : Addr) (x1 : Addr) (x2 : Int32) : entryFrame m #[(.ref x0), (.ref x1), (.int x2)] 3 = mkF m 0 #[.val (.ref x0), .val (.ref x1), .val (.int x2)] [] := by first | (simp [entryFrame, mkF, argsToLocals, Value.category]; done) | rfl
theorem rs_ib0 (a1 bA : Addr) (E_a : Exa Z h0 a1 "java/lang/String") (F_v : Fld Z h0 a1 "java/lang/String" "value" "[B" .null) (F_c : Fld Z h0 a1 "java/lang/String" "coder" "B" (vL 0)) (g_a1 : n0 ≤ a1) :
    Mt (l := l) hw (ws := ws) O0 ST Y_27 jdk_42_method_151_code 3 none R_5 #[(.ref a1), (.ref bA), (vL 0)] (Qsi Z a1 bA (0 : Int32) h0 n0) := by
  refine own_met (plainFor_of_name pn2) fun p e s m w_ meth c s₁ hx hby hml hZ hh hown hnm hret hlk X0 e0 => ?_
  have N0 := Fr.nil n0
  have lt_a1 := E_a.lt
  obtain ⟨T1, X1, e1, st1⟩ := initO X0 hx hZ hown (tw hw 22 rfl) (tw hw 23 rfl) (tw hw 24 rfl) e0 (g := (mkF m 1 (q_59 a1 bA) [(.ref a1)])) rfl (by rw [hml]; rfl) rfl (d48 hby 1 rfl) (by decide) (W := 0) (by show 2 * 0 + _ ≤ _; exact Nat.le_of_eq rfl) (by decide)
  obtain ⟨T2, h2, X2, e2, W2, st2⟩ := putF X1 hx hZ hown (host := "") (Or.inl (tw hw 31 rfl)) Via.refl e1 F_v E_a (Or.inr ⟨(tw hw 27 rfl), rfl, hnm⟩) (tw hw 13 rfl) (ty := (.array .byte)) (by decide) rfl rfl (g := (mkF m 6 (q_59 a1 bA) [(.ref bA), (.ref a1)])) rfl rfl (d48 hby 4 rfl)
  have Fw2 := F_v.same W2
  have O3 := O0.wr W2 g_a1
  have kp4 : Keep h0 h2 [a1] := (Keep.refl h0 [a1]).wr W2 (Or.inl (List.mem_of_getElem? (i := 0) rfl))
  have N2 := Fr.snoc X2 N0 g_a1
  obtain ⟨T5, h5, X5, e5, W5, st5⟩ := putFN X2 hx hZ hown (tw hw 32 rfl) Via.refl e2 (F_c.other W2 (Or.inr (slot_ne (Or.inr (tw hw 28 rfl)) (Or.inr (tw hw 27 rfl)) (by decide) (t := .byte) (t' := (.array .byte)) (by decide) (by decide)))) (E_a.wr W2) (Or.inr ⟨(tw hw 28 rfl), rfl, hnm⟩) (tw hw 13 rfl) (ty := .byte) (v' := (vL 0)) (by decide) rfl rfl (g := (mkF m 11 (q_59 a1 bA) [(vL 0), (.ref a1)])) rfl rfl (d48 hby 7 rfl)
  have Fw5 := (F_c.other W2 (Or.inr (slot_ne (Or.inr (tw hw 28 rfl)) (Or.inr (tw hw 27 rfl)) (by decide) (t := .byte) (t' := (.array .byte)) (by decide) (by decide)))).same W5
  have O6 := O3.wr W5 g_a1
  have kp7 := kp4.wr W5 (Or.inl (List.mem_of_getElem? (i := 0) rfl))
  have N5 := Fr.snoc X5 N2 g_a1
  refine own_lvV X5 hx hlk hret (d48 hby 8 rfl) (by decide) (by decide) (Ls := (q_59 a1 bA)) (fun _ k => castTop (ef_rs_ib0 m a1 bA (0 : Int32)) ?_) ?_
  · refine za X0 hx (d48 hby 0 rfl) rfl rfl <| st1 _ <| za X1 hx (d48 hby 2 rfl) rfl rfl <| za X1 hx (d48 hby 3 rfl) rfl rfl <| st2 _ <| za X2 hx (d48 hby 5 rfl) rfl rfl <| zl X2 hx (d48 hby 6 rfl) rfl <| st5 _ ?_
    exact k
  · rw [e5]
    exact ⟨rfl, N5, kp7, ((E_a.wr W2).wr W5), Fw5, (Fw2.other W5 (Or.inr (slot_ne (Or.inr (tw hw 27 rfl)) (Or.inr (tw hw 28 rfl)) (by decide) (t := (.array .byte)) (t' := .byte) (by decide) (by decide))))⟩
theorem rs_ib1 (a1 bA : Addr) (E_a : Exa Z h0 a1 "java/lang/String") (F_v : Fld Z h0 a1 "java/lang/String" "value" "[B" .null) (F_c : Fld Z h0 a1 "java/lang/String" "coder" "B" (vL 0)) (g_a1 : n0 ≤ a1) :
    Mt (l := l) hw (ws := ws) O0 ST Y_27 jdk_42_method_151_code 3 none R_5 #[(.ref a1), (.ref bA), (vL 1)] (Qsi Z a1 bA (1 : Int32) h0 n0) := by
  refine own_met (plainFor_of_name pn2) fun p e s m w_ meth c s₁ hx hby hml hZ hh hown hnm hret hlk X0 e0 => ?_
  have N0 := Fr.nil n0
  have lt_a1 := E_a.lt
  obtain ⟨T1, X1, e1, st1⟩ := initO X0 hx hZ hown (tw hw 22 rfl) (tw hw 23 rfl) (tw hw 24 rfl) e0 (g := (mkF m 1 (q_63 a1 bA) [(.ref a1)])) rfl (by rw [hml]; rfl) rfl (d48 hby 1 rfl) (by decide) (W := 0) (by show 2 * 0 + _ ≤ _; exact Nat.le_of_eq rfl) (by decide)
  obtain ⟨T2, h2, X2, e2, W2, st2⟩ := putF X1 hx hZ hown (host := "") (Or.inl (tw hw 31 rfl)) Via.refl e1 F_v E_a (Or.inr ⟨(tw hw 27 rfl), rfl, hnm⟩) (tw hw 13 rfl) (ty := (.array .byte)) (by decide) rfl rfl (g := (mkF m 6 (q_63 a1 bA) [(.ref bA), (.ref a1)])) rfl rfl (d48 hby 4 rfl)
  have Fw2 := F_v.same W2
  have O3 := O0.wr W2 g_a1
  have kp4 : Keep h0 h2 [a1] := (Keep.refl h0 [a1]).wr W2 (Or.inl (List.mem_of_getElem? (i := 0) rfl))
  have N2 := Fr.snoc X2 N0 g_a1
  obtain ⟨T5, h5, X5, e5, W5, st5⟩ := putFN X2 hx hZ hown (tw hw 32 rfl) Via.refl e2 (F_c.other W2 (Or.inr (slot_ne (Or.inr (tw hw 28 rfl)) (Or.inr (tw hw 27 rfl)) (by decide) (t := .byte) (t' := (.array .byte)) (by decide) (by decide)))) (E_a.wr W2) (Or.inr ⟨(tw hw 28 rfl), rfl, hnm⟩) (tw hw 13 rfl) (ty := .byte) (v' := (vL 1)) (by decide) rfl rfl (g := (mkF m 11 (q_63 a1 bA) [(vL 1), (.ref a1)])) rfl rfl (d48 hby 7 rfl)
  have Fw5 := (F_c.other W2 (Or.inr (slot_ne (Or.inr (tw hw 28 rfl)) (Or.inr (tw hw 27 rfl)) (by decide) (t := .byte) (t' := (.array .byte)) (by decide) (by decide)))).same W5
  have O6 := O3.wr W5 g_a1
  have kp7 := kp4.wr W5 (Or.inl (List.mem_of_getElem? (i := 0) rfl))
  have N5 := Fr.snoc X5 N2 g_a1
  refine own_lvV X5 hx hlk hret (d48 hby 8 rfl) (by decide) (by decide) (Ls := (q_63 a1 bA)) (fun _ k => castTop (ef_rs_ib0 m a1 bA (1 : Int32)) ?_) ?_
  · refine za X0 hx (d48 hby 0 rfl) rfl rfl <| st1 _ <| za X1 hx (d48 hby 2 rfl) rfl rfl <| za X1 hx (d48 hby 3 rfl) rfl rfl <| st2 _ <| za X2 hx (d48 hby 5 rfl) rfl rfl <| zl X2 hx (d48 hby 6 rfl) rfl <| st5 _ ?_
    exact k
  · rw [e5]
    exact ⟨rfl, N5, kp7, ((E_a.wr W2).wr W5), Fw5, (Fw2.other W5 (Or.inr (slot_ne (Or.inr (tw hw 27 rfl)) (Or.inr (tw hw 28 rfl)) (by decide) (t := (.array .byte)) (t' := .byte) (by decide) (by decide))))⟩
def Qcm (Z : State) (a : Addr) (r : Int32) (P : Heap → Prop) (h0 : Heap) (n0 : Nat) (v : Option Value) (h : Heap) (Lc : List Loc) : Prop := v = some (.int r) ∧ Fr n0 Lc ∧ Keep h0 h [a] ∧ P h
theorem own_q0 (ds : List Int32) (cs : List UInt16) : puts ds cs.length (cs.drop cs.length) = ds := by rw [List.drop_length]; rfl
theorem own_q1 {ds : List Int32} {cs : List UInt16} {j : Nat} (h : j < cs.length) : puts ds j (cs.drop j) = puts (put ds j (cs.getD j 0)) (j + 1) (cs.drop (j + 1)) := by rw [own_drop h]; rfl
theorem own_s0 (ds : List Int32) (cs : List UInt16) : sets ds cs.length (cs.drop cs.length) = ds := by rw [List.drop_length]; rfl
theorem own_s1 {ds : List Int32} {cs : List UInt16} {j : Nat} (h : j < cs.length) : sets ds j (cs.drop j) = sets (ds.set j (cLo (cs.getD j 0))) (j + 1) (cs.drop (j + 1)) := by rw [own_drop h]; rfl
theorem own_putsz (cs : List UInt16) : puts (List.replicate (2 * cs.length) 0) 0 cs = enc1 cs := by
  rw [puts_eq _ _ _ (by simp)]; simp
theorem own_setsz (cs : List UInt16) : sets (List.replicate cs.length 0) 0 cs = cs.map cLo := by
  rw [sets_eq _ _ _ (by simp)]; simp
theorem d43 : Dl cb15 [(0, .iload_n 2, 1), (1, .iload_n 0, 1), (2, .ior, 1), (3, .iload_n 1, 1), (4, .ior, 1), (5, .ifCond .lt 10, 3), (8, .iload_n 1, 1), (9, .iload_n 2, 1), (10, .iload_n 0, 1), (11, .isub, 1), (12, .if_icmp .le 11, 3), (23, .iload_n 0, 1), (24, .ireturn, 1)] := dlk (by decide +kernel)
theorem ef_rp_fs (m : MethodId) (x0 : Int32) (x1 : Int32) (x2 : Int32) (x3 : Value) (hr : x3.isRef = true) : entryFrame m #[(.int x0), (.int x1), (.int x2), x3] 4 = mkF m 0 #[.val (.int x0), .val (.int x1), .val (.int x2), .val x3] [] := by cases x3 <;> first | (simp [entryFrame, mkF, argsToLocals, Value.category]; done) | (simp [Value.isRef] at hr; done) | rfl
theorem rp_fs (i1 i2 i3 : Nat) (hi : i1 + i2 ≤ i3) (hB : i3 ≤ 110) :
    Mt (l := l) hw (ws := ws) O0 ST Y_70 jdk_41_method_13_code 4 (some .int) R_0 #[(vN i1), (vN i2), (vN i3), Fm] (Qpure (some (vN i1)) h0 n0) := by
  refine own_met (plainFor_of_name pn1) fun p e s m w_ meth c s₁ hx hby hml hZ hh hown hnm hret hlk X0 e0 => ?_
  have N0 := Fr.nil n0
  have pf1 : ∀ target, Go p e w_ s₁ m 5 (q_34 i1 i2 i3 Fm) [(vN ((i3 ||| i1) ||| i2))] target → Go p e w_ s₁ m 0 (q_34 i1 i2 i3 Fm) [] target := by
    intro target k
    refine zl X0 hx (d43 hby 0 rfl) rfl <| zl X0 hx (d43 hby 1 rfl) rfl <| XS.ior X0.here hx rfl (d43 hby 2 rfl) rfl ?_
    show Go p e w_ s₁ m 3 (q_34 i1 i2 i3 Fm) [(.int ((Int32.ofNat i3) ||| (Int32.ofNat i1)))] _
    rw [show ((Int32.ofNat i3) ||| (Int32.ofNat i1)) = (Int32.ofNat (i3 ||| i1)) from own_or i3 i1]
    refine zl X0 hx (d43 hby 3 rfl) rfl <| XS.ior X0.here hx rfl (d43 hby 4 rfl) rfl ?_
    show Go p e w_ s₁ m 5 (q_34 i1 i2 i3 Fm) [(.int ((Int32.ofNat (i3 ||| i1)) ||| (Int32.ofNat i2)))] _
    rw [show ((Int32.ofNat (i3 ||| i1)) ||| (Int32.ofNat i2)) = (Int32.ofNat ((i3 ||| i1) ||| i2)) from own_or (i3 ||| i1) i2]
    exact k
  have pf2 : ∀ target, Go p e w_ s₁ m 12 (q_34 i1 i2 i3 Fm) [(vN (i3 - i1)), (vN i2)] target → Go p e w_ s₁ m 5 (q_34 i1 i2 i3 Fm) [(vN ((i3 ||| i1) ||| i2))] target := by
    intro target k
    refine zg X0 hx (d43 hby 5 rfl) ((if0 _ _).trans (flt (own_nn (Nat.or_lt_two_pow (n := 31) (Nat.or_lt_two_pow (n := 31) (by omega) (by omega)) (by omega)))).1) <| zl X0 hx (d43 hby 6 rfl) rfl <| zl X0 hx (d43 hby 7 rfl) rfl <| zl X0 hx (d43 hby 8 rfl) rfl <| XS.isub X0.here hx rfl (d43 hby 9 rfl) rfl ?_
    show Go p e w_ s₁ m 12 (q_34 i1 i2 i3 Fm) [(.int ((Int32.ofNat i3) - (Int32.ofNat i1))), (.int (Int32.ofNat i2))] _
    rw [show ((Int32.ofNat i3) - (Int32.ofNat i1)) = (Int32.ofNat (i3 - i1)) from own_sub (a := i3) (b := i1) (by omega)]
    exact k
  refine own_lvI X0 hx hlk hret (d43 hby 12 rfl) (by decide) (by decide) (z := (Int32.ofNat i1)) (Ls := (q_34 i1 i2 i3 Fm)) (rest := []) (fun _ k => castTop (ef_rp_fs m (Int32.ofNat i1) (Int32.ofNat i2) (Int32.ofNat i3) Fm ST.2.2.2.1) ?_) ?_
  · refine pf1 _ <| pf2 _ <| zy X0 hx 12 23 (d43 hby 10 rfl) (flt (fun q => absurd ((own_lt (a := i3 - i1) (b := i2) (by omega) (by omega)).mp q) (by omega))).2.2.2 <| zl X0 hx (d43 hby 11 rfl) rfl ?_
    exact k
  · rw [e0]
    exact ⟨rfl, N0, rfl⟩
theorem d42 : Dl cb16 [(0, .iload_n 0, 1), (1, .iload_n 1, 1), (2, .iload_n 2, 1), (3, .getstatic 1053, 3), (6, .invokestatic 1065, 3), (9, .ireturn, 1)] := dlk (by decide +kernel)
theorem pd8 : parseMethodDescriptor "(IIILjava/util/function/BiFunction;)I" = some ⟨[.int, .int, .int, (.object "java/util/function/BiFunction")], some .int⟩ := by decide +kernel
theorem ef_rs_bo (m : MethodId) (x0 : Int32) (x1 : Int32) (x2 : Int32) : entryFrame m #[(.int x0), (.int x1), (.int x2)] 3 = mkF m 0 #[.val (.int x0), .val (.int x1), .val (.int x2)] [] := by first | (simp [entryFrame, mkF, argsToLocals, Value.category]; done) | rfl
theorem rs_bo (i1 i2 i3 : Nat) (hi : i1 + i2 ≤ i3) (hB : i3 ≤ 110) :
    Mt (l := l) hw (ws := ws) O0 ST Y_71 jdk_42_method_157_code 3 (some .int) R_18 #[(vN i1), (vN i2), (vN i3)] (Qpure (some (vN i1)) h0 n0) := by
  refine own_met (plainFor_of_name pn2) fun p e s m w_ meth c s₁ hx hby hml hZ hh hown hnm hret hlk X0 e0 => ?_
  have N0 := Fr.nil n0
  obtain ⟨S_cs, hG, S_fm, hF, S_ad, S_hi, S_lo⟩ := id ST
  obtain ⟨T1, X1, e1, st1⟩ := getS2 X0 hx hZ hown (host := "") (Or.inl (tw hw 162 rfl)) Via.refl e0 (S_fm.ext O0.2) (g := (mkF m 3 (q_35 i1 i2 i3) [(vN i3), (vN i2), (vN i1)])) rfl (d42 hby 3 rfl)
  obtain ⟨_, T2, Lc2, X2, hQ2, st2⟩ := own_sc X1 hx hZ (y := Y_70) hown hml (tw hw 192 rfl) (tw hw 193 rfl) (rp_fs hw O0 ST i1 i2 i3 hi hB) (tw hw 194 rfl) (tw hw 64 rfl) e1 (W := 0) (Ls := (q_35 i1 i2 i3)) (argsL := [(vN i1), (vN i2), (vN i3), Fm]) (rest := []) (lenOf pd8 rfl) (d42 hby 4 rfl)
  obtain ⟨rfl, Nq2, e2⟩ := hQ2
  have N2 := Fr.app N0 Nq2
  refine own_lvI X2 hx hlk hret (d42 hby 5 rfl) (by decide) (by decide) (z := (Int32.ofNat i1)) (Ls := (q_35 i1 i2 i3)) (rest := []) (fun _ k => castTop (ef_rs_bo m (Int32.ofNat i1) (Int32.ofNat i2) (Int32.ofNat i3)) ?_) ?_
  · refine zl X0 hx (d42 hby 0 rfl) rfl <| zl X0 hx (d42 hby 1 rfl) rfl <| zl X0 hx (d42 hby 2 rfl) rfl <| st1 _ <| st2 _ ?_
    exact k
  · rw [e2]
    exact ⟨rfl, N2, rfl⟩
theorem d41 : Dl cb17 [(0, .iload_n 0, 1), (1, .iload_n 1, 1), (2, .aload_n 2, 1), (3, .invokestatic 48, 3), (6, .invokestatic 419, 3), (9, .pop, 1), (10, .return_, 1)] := dlk (by decide +kernel)
theorem pd9 : parseMethodDescriptor "(III)I" = some ⟨[.int, .int, .int], some .int⟩ := by decide +kernel
theorem ef_ru_bo (m : MethodId) (x0 : Int32) (x1 : Int32) (x2 : Addr) : entryFrame m #[(.int x0), (.int x1), (.ref x2)] 3 = mkF m 0 #[.val (.int x0), .val (.int x1), .val (.ref x2)] [] := by first | (simp [entryFrame, mkF, argsToLocals, Value.category]; done) | rfl
theorem ru_bo (a1 : Addr) (kA : ClassId) (LA : Nat) (vs : List Int32) (i1 i2 : Nat) (B1 : Bar Z h0 a1 kA LA vs) (hB : LA ≤ 110) (hi : 2 * (i1 + i2) ≤ LA) :
    Mt (l := l) hw (ws := ws) O0 ST Y_36 jdk_52_method_94_code 3 none R_10 #[(vN i1), (vN i2), (.ref a1)] (Qpure none h0 n0) := by
  refine own_met (plainFor_of_name pn0) fun p e s m w_ meth c s₁ hx hby hml hZ hh hown hnm hret hlk X0 e0 => ?_
  have N0 := Fr.nil n0
  have V_a1 := B1.1
  have l_a1 := B1.2
  have hN_a1 : (Int32.ofNat LA).toNatClampNeg = vs.length := by rw [l_a1]; exact own_n (by omega)
  have lt_a1 := V_a1.lt
  obtain ⟨_, T1, Lc1, X1, hQ1, st1⟩ := own_sc X0 hx hZ (y := Y_34) hown hml (tw hw 156 rfl) (tw hw 157 rfl) (ru_len hw O0 ST a1 kA LA vs B1 hB) (tw hw 158 rfl) (tw hw 78 rfl) e0 (W := 2) (Ls := (q_53 i1 i2 a1)) (argsL := [(.ref a1)]) (rest := [(vN i2), (vN i1)]) (lenOf pd1 rfl) (d41 hby 3 rfl)
  obtain ⟨rfl, Nq1, e1⟩ := hQ1
  have N1 := Fr.app N0 Nq1
  obtain ⟨_, T2, Lc2, X2, hQ2, st2⟩ := own_sc X1 hx hZ (y := Y_71) hown hml (tw hw 189 rfl) (tw hw 190 rfl) (rs_bo hw O0 ST i1 i2 (LA / 2) (by omega) (by omega)) (tw hw 191 rfl) (tw hw 14 rfl) e1 (W := 0) (Ls := (q_53 i1 i2 a1)) (argsL := [(vN i1), (vN i2), (vN (LA / 2))]) (rest := []) (lenOf pd9 rfl) (d41 hby 4 rfl)
  obtain ⟨rfl, Nq2, e2⟩ := hQ2
  have N2 := Fr.app N1 Nq2
  refine own_lvV X2 hx hlk hret (d41 hby 6 rfl) (by decide) (by decide) (Ls := (q_53 i1 i2 a1)) (fun _ k => castTop (ef_ru_bo m (Int32.ofNat i1) (Int32.ofNat i2) a1) ?_) ?_
  · refine zl X0 hx (d41 hby 0 rfl) rfl <| zl X0 hx (d41 hby 1 rfl) rfl <| za X0 hx (d41 hby 2 rfl) rfl rfl <| st1 _ <| st2 _ <| XS.pop X2.here hx rfl (d41 hby 5 rfl) rfl rfl ?_
    exact k
  · rw [e2]
    exact ⟨rfl, N2, rfl⟩
theorem d62 : Dl cb18 [(10, .iload 5, 2), (12, .iload 4, 2), (14, .if_icmp .ge 27, 3), (17, .aload_n 2, 1), (18, .iload_n 3, 1), (19, .iinc 3 1, 3), (22, .aload_n 0, 1), (23, .iload_n 1, 1), (24, .iinc 1 1, 3), (27, .baload, 1), (28, .sipush 255, 3), (31, .iand, 1), (32, .invokestatic 111, 3), (35, .iinc 5 1, 3), (38, .goto (-28), 3), (0, .iload_n 3, 1), (1, .iload 4, 2), (3, .aload_n 2, 1), (4, .invokestatic 173, 3), (7, .iconst 0, 1), (8, .istore 5, 2), (41, .return_, 1)] := dlk (by decide +kernel)
theorem pd10 : parseMethodDescriptor "([BII)V" = some ⟨[(.array .byte), .int, .int], none⟩ := by decide +kernel
theorem pi_inf {p : Program} {l : Launch} {e : Env} {s : State} {m : MethodId} {args : Array Value} {w_ : List Frame} {meth : Method} {c : Code} {T0 : State} {locs : List Loc} {Z : State} {a0 : Array Value} {n0 : Nat} {h0 : Heap} (hw : Hw a0 Z) (X0 : Stand p l e R_19 s m args w_ meth c T0 locs 0 0) (hx : p.tables.exec = Jvm.exec) (hby : c.code = jdk_52_method_86_code) (hml : c.maxLocals = 6) (hZ : Z.Warmed39 s.vm) (hown : s.vm.findClass "java/lang/StringUTF16" = some m.cls) (e0 : T0.heap = h0) (N0 : Fr n0 locs) (O0 : Old Z n0 h0) (G1 : Int32) (Fm : Value) (a1 : Addr) (kA : ClassId) (LA : Nat) (vs : List Int32) (a2 : Addr) (kD : ClassId) (LD : Nat) (ds : List Int32) (cs : List UInt16) (d : Nat) (j : Nat) (ST : Stc Z G1 Fm) (B1 : Bar Z h0 a1 kA LA vs) (B2 : Bar Z h0 a2 kD LD ds) (hA : LA ≤ 110) (hD : LD ≤ 110) (hn : cs.length ≤ LA) (hsrc : ∀ j, j < cs.length → vs.getD j 0 = cLo (cs.getD j 0)) (hu : ∀ u ∈ cs, u < 256) (hd : 2 * (d + cs.length) ≤ LD) (hne : a1 ≠ a2) (g_a2 : n0 ≤ a2) (hlt : j < cs.length) :
    ∃ T' h' L', Stand p l e R_19 s m args w_ meth c T' L' 0 0 ∧ T'.heap = h' ∧ Fr n0 L' ∧ Old Z n0 h' ∧ Keep h0 h' [a2] ∧ Bar Z h' a2 kD LD (put ds (d + j) (cs.getD j 0)) ∧ ∀ target, Go p e w_ T' m 10 #[rv a1, nv (j + 1), rv a2, nv (d + (j + 1)), nv cs.length, nv (j + 1)] [] target → Go p e w_ T0 m 10 (q_128 a1 j a2 d cs) [] target := by
  have V_a1 := B1.1
  have l_a1 := B1.2
  have hN_a1 : (Int32.ofNat LA).toNatClampNeg = vs.length := by rw [l_a1]; exact own_n (by omega)
  have lt_a1 := V_a1.lt
  have V_a2 := B2.1
  have l_a2 := B2.2
  have hN_a2 : (Int32.ofNat LD).toNatClampNeg = ds.length := by rw [l_a2]; exact own_n (by omega)
  have lt_a2 := V_a2.lt
  obtain ⟨cl1, Ar1, hin1, hat1⟩ := own_at (j := (Int32.ofNat j)) (i := j) V_a1 hN_a1 (own_nn (n := j) (by omega)) (own_n (n := j) (by omega)) (by omega)
  rw [show (vs.getD j 0) = (cLo (cs.getD j 0)) from hsrc j hlt] at hat1
  obtain ⟨_, T2, Lc2, X2, hQ2, st2⟩ := own_sc X0 hx hZ (y := Y_35) hown hml (tw hw 93 rfl) (tw hw 94 rfl) (ru_put hw O0 ST a2 kD LD ds (d + j) (cs.getD j 0) B2 hD (by omega) g_a2) (tw hw 95 rfl) (tw hw 78 rfl) e0 (W := 0) (Ls := (q_85 a1 j a2 d cs)) (argsL := [(.ref a2), (vN (d + j)), (.int (cv (cs.getD j 0)))]) (rest := []) (lenOf pd10 rfl) (d62 hby 12 rfl)
  obtain ⟨h2, e2⟩ : ∃ z, T2.heap = z := ⟨_, rfl⟩
  rw [e2] at hQ2
  obtain ⟨rfl, Nq2, K2, Bp2⟩ := hQ2
  have N2 := Fr.app N0 Nq2
  have O3 := O0.keep K2 (allS g_a2 all0)
  have kp4 : Keep h0 h2 [a2] := (Keep.refl h0 [a2]).trans K2 (allS (Or.inl (List.mem_of_getElem? (i := 0) rfl)) all0)
  refine ⟨T2, h2, _, X2, e2, N2, O3, kp4, Bp2, ?_⟩
  intro target k
  refine zm X0 hx (d62 hby 0 rfl) rfl <| zm X0 hx (d62 hby 1 rfl) rfl <| zn X0 hx (d62 hby 2 rfl) (tlt ((own_lt (a := j) (b := cs.length) (by omega) (by omega)).mpr (by omega))).2.1 <| za X0 hx (d62 hby 3 rfl) rfl rfl <| zl X0 hx (d62 hby 4 rfl) rfl <| XS.iinc X0.here hx rfl (d62 hby 5 rfl) rfl (l' := #[rv a1, nv j, rv a2, iv ((Int32.ofNat (d + j)) + (1 : Int32)), nv cs.length, nv j]) rfl ?_
  show Go p e w_ T0 m 22 #[.val (.ref a1), .val (.int (Int32.ofNat j)), .val (.ref a2), .val (.int ((Int32.ofNat (d + j)) + (1 : Int32))), .val (.int (Int32.ofNat cs.length)), .val (.int (Int32.ofNat j))] [(.int (Int32.ofNat (d + j))), (.ref a2)] _
  rw [show ((Int32.ofNat (d + j)) + (1 : Int32)) = (Int32.ofNat (d + j + 1)) from own_add (d + j) 1]
  refine za X0 hx (d62 hby 6 rfl) rfl rfl <| zl X0 hx (d62 hby 7 rfl) rfl <| XS.iinc X0.here hx rfl (d62 hby 8 rfl) rfl (l' := #[rv a1, iv ((Int32.ofNat j) + (1 : Int32)), rv a2, nv (d + j + 1), nv cs.length, nv j]) rfl ?_
  show Go p e w_ T0 m 27 #[.val (.ref a1), .val (.int ((Int32.ofNat j) + (1 : Int32))), .val (.ref a2), .val (.int (Int32.ofNat (d + j + 1))), .val (.int (Int32.ofNat cs.length)), .val (.int (Int32.ofNat j))] [(.int (Int32.ofNat j)), (.ref a1), (.int (Int32.ofNat (d + j))), (.ref a2)] _
  rw [show ((Int32.ofNat j) + (1 : Int32)) = (Int32.ofNat (j + 1)) from own_add j 1]
  show Go p e w_ T0 m 27 (q_85 a1 j a2 d cs) [(vN j), (.ref a1), (vN (d + j)), (.ref a2)] _
  refine X0.baloadBytes hx (j := (Int32.ofNat j)) (v := (.int (cLo (cs.getD j 0)))) (by rw [e0]; exact Ar1.1) (State.isArrayOf_alike hZ.alike Ar1.2.1) Ar1.2.2 hin1 hat1 (g := (mkF m 27 (q_85 a1 j a2 d cs) [(vN j), (.ref a1), (vN (d + j)), (.ref a2)])) rfl rfl (d62 hby 9 rfl) _ <| XS.sipush X0.here hx rfl (d62 hby 10 rfl) <| XS.iand X0.here hx rfl (d62 hby 11 rfl) rfl ?_
  show Go p e w_ T0 m 32 (q_85 a1 j a2 d cs) [(.int ((cLo (cs.getD j 0)) &&& (255 : Int32))), (.int (Int32.ofNat (d + j))), (.ref a2)] _
  rw [show ((cLo (cs.getD j 0)) &&& (255 : Int32)) = (cv (cs.getD j 0)) from own_rd (own_up hu hlt)]
  refine st2 _ <| XS.iinc X2.here hx rfl (d62 hby 13 rfl) rfl (l' := #[rv a1, nv (j + 1), rv a2, nv (d + j + 1), nv cs.length, iv ((Int32.ofNat j) + (1 : Int32))]) rfl ?_
  show Go p e w_ T2 m 38 #[.val (.ref a1), .val (.int (Int32.ofNat (j + 1))), .val (.ref a2), .val (.int (Int32.ofNat (d + j + 1))), .val (.int (Int32.ofNat cs.length)), .val (.int ((Int32.ofNat j) + (1 : Int32)))] [] _
  rw [show ((Int32.ofNat j) + (1 : Int32)) = (Int32.ofNat (j + 1)) from own_add j 1]
  refine zo X2 hx 38 10 (d62 hby 14 rfl) ?_
  exact k
theorem lp_inf {p : Program} {l : Launch} {e : Env} {s : State} {m : MethodId} {args : Array Value} {w_ : List Frame} {meth : Method} {c : Code} {Z : State} {a0 : Array Value} {n0 : Nat} (hw : Hw a0 Z) (hx : p.tables.exec = Jvm.exec) (hby : c.code = jdk_52_method_86_code) (hml : c.maxLocals = 6) (hZ : Z.Warmed39 s.vm) (hown : s.vm.findClass "java/lang/StringUTF16" = some m.cls) (G1 : Int32) (Fm : Value) (ST : Stc Z G1 Fm) {a1 a2 : Addr} {kA kD : ClassId} {LA LD : Nat} {vs : List Int32} {cs : List UInt16} {d : Nat} (hA : LA ≤ 110) (hD : LD ≤ 110) (hn : cs.length ≤ LA) (hsrc : ∀ j, j < cs.length → vs.getD j 0 = cLo (cs.getD j 0)) (hu : ∀ u ∈ cs, u < 256) (hd : 2 * (d + cs.length) ≤ LD) (hne : a1 ≠ a2) (g_a2 : n0 ≤ a2) :
    ∀ (f j : Nat) (ds : List Int32) (T0 : State) (h0 : Heap) (locs : List Loc) (X0 : Stand p l e R_19 s m args w_ meth c T0 locs 0 0) (e0 : T0.heap = h0) (N0 : Fr n0 locs) (O0 : Old Z n0 h0) (B1 : Bar Z h0 a1 kA LA vs) (BD : Bar Z h0 a2 kD LD ds) (hf : cs.length - j = f) (hj : j ≤ cs.length),
      ∃ (T' : State) (h' : Heap) (L' : List Loc), Stand p l e R_19 s m args w_ meth c T' L' 0 0 ∧ T'.heap = h' ∧ Fr n0 L' ∧ Old Z n0 h' ∧ Keep h0 h' [a2] ∧ Bar Z h' a2 kD LD (puts ds (d + j) (cs.drop j)) ∧
        ∀ target, Go p e w_ T' m 10 (q_109 a1 cs a2 d) [] target → Go p e w_ T0 m 10 (q_128 a1 j a2 d cs) [] target := by
  intro f
  induction f with
  | zero =>
    intro j ds T0 h0 locs X0 e0 N0 O0 B1 BD hf hj
    have q : j = cs.length := by omega
    subst q
    exact ⟨T0, h0, locs, X0, e0, N0, O0, Keep.refl _ _, by rw [own_p0]; exact BD, fun _ k => k⟩
  | succ f ih =>
    intro j ds T0 h0 locs X0 e0 N0 O0 B1 BD hf hj
    have hlt : j < cs.length := by omega
    obtain ⟨T2, h2, L2, X2, e2, N2, O2, K2, B2, st2⟩ := pi_inf hw X0 hx hby hml hZ hown e0 N0 O0 G1 Fm a1 kA LA vs a2 kD LD ds cs d j ST B1 BD hA hD hn hsrc hu hd hne g_a2 hlt
    obtain ⟨T3, h3, L3, X3, e3, N3, O3, K3, B3, st3⟩ := ih (j + 1) (put ds (d + j) (cs.getD j 0)) T2 h2 L2 X2 e2 N2 O2 ⟨B1.1.keep K2 (ninS hne nin0), B1.2⟩ B2 (by omega) (by omega)
    exact ⟨T3, h3, L3, X3, e3, N3, O3, K2.trans K3 (allS (Or.inl (List.mem_of_getElem? (i := 0) rfl)) all0), by rw [own_p1 hlt]; exact B3, fun target k => st2 target (st3 target k)⟩
theorem pd11 : parseMethodDescriptor "(II[B)V" = some ⟨[.int, .int, (.array .byte)], none⟩ := by decide +kernel
theorem ef_ru_inf (m : MethodId) (x0 : Addr) (x1 : Int32) (x2 : Addr) (x3 : Int32) (x4 : Int32) : entryFrame m #[(.ref x0), (.int x1), (.ref x2), (.int x3), (.int x4)] 6 = mkF m 0 #[.val (.ref x0), .val (.int x1), .val (.ref x2), .val (.int x3), .val (.int x4), .unset] [] := by first | (simp [entryFrame, mkF, argsToLocals, Value.category]; done) | rfl
theorem ru_inf (a1 : Addr) (kA : ClassId) (LA : Nat) (vs : List Int32) (a2 : Addr) (kD : ClassId) (LD : Nat) (ds : List Int32) (cs : List UInt16) (d : Nat) (B1 : Bar Z h0 a1 kA LA vs) (B2 : Bar Z h0 a2 kD LD ds) (hA : LA ≤ 110) (hD : LD ≤ 110) (hn : cs.length ≤ LA) (hsrc : ∀ j, j < cs.length → vs.getD j 0 = cLo (cs.getD j 0)) (hu : ∀ u ∈ cs, u < 256) (hd : 2 * (d + cs.length) ≤ LD) (hne : a1 ≠ a2) (g_a2 : n0 ≤ a2) :
    Mt (l := l) hw (ws := ws) O0 ST Y_72 jdk_52_method_86_code 6 none R_19 #[(.ref a1), (vL 0), (.ref a2), (vN d), (vN cs.length)] (Qwr Z a2 kD LD (puts ds d cs) h0 n0) := by
  refine own_met (plainFor_of_name pn0) fun p e s m w_ meth c s₁ hx hby hml hZ hh hown hnm hret hlk X0 e0 => ?_
  have N0 := Fr.nil n0
  have V_a1 := B1.1
  have l_a1 := B1.2
  have hN_a1 : (Int32.ofNat LA).toNatClampNeg = vs.length := by rw [l_a1]; exact own_n (by omega)
  have lt_a1 := V_a1.lt
  have V_a2 := B2.1
  have l_a2 := B2.2
  have hN_a2 : (Int32.ofNat LD).toNatClampNeg = ds.length := by rw [l_a2]; exact own_n (by omega)
  have lt_a2 := V_a2.lt
  obtain ⟨_, T1, Lc1, X1, hQ1, st1⟩ := own_sc X0 hx hZ (y := Y_36) hown hml (tw hw 186 rfl) (tw hw 187 rfl) (ru_bo hw O0 ST a2 kD LD ds d cs.length B2 hD hd) (tw hw 188 rfl) (tw hw 78 rfl) e0 (W := 0) (Ls := (q_110 a1 a2 d cs)) (argsL := [(vN d), (vN cs.length), (.ref a2)]) (rest := []) (lenOf pd11 rfl) (d62 hby 18 rfl)
  obtain ⟨rfl, Nq1, e1⟩ := hQ1
  have N1 := Fr.app N0 Nq1
  obtain ⟨T2, h2, L2, X2, e2, N2, Om2, K2, Bm2, st2⟩ := lp_inf hw hx hby hml hZ hown G1 Fm ST hA hD hn hsrc hu hd hne g_a2 cs.length 0 ds T1 h0 _ X1 e1 N1 O0 B1 B2 (by omega) (by omega)
  have O3 := O0.keep K2 (allS g_a2 all0)
  have kp4 : Keep h0 h2 [a2] := (Keep.refl h0 [a2]).trans K2 (allS (Or.inl (List.mem_of_getElem? (i := 0) rfl)) all0)
  have Vm2 := Bm2.1
  have hNm2 : (Int32.ofNat LD).toNatClampNeg = (puts ds (d + 0) (cs.drop 0)).length := by rw [Bm2.2]; exact own_n (by omega)
  have pf5 : ∀ target, Go p e w_ T2 m 14 (q_109 a1 cs a2 d) [(vN cs.length), (vN cs.length)] target → Go p e w_ s₁ m 0 (q_110 a1 a2 d cs) [] target := by
    intro target k
    refine zl X0 hx (d62 hby 15 rfl) rfl <| zm X0 hx (d62 hby 16 rfl) rfl <| za X0 hx (d62 hby 17 rfl) rfl rfl <| st1 _ <| zc X1 hx (d62 hby 19 rfl) <| zt X1 hx (d62 hby 20 rfl) (Ls' := #[rv a1, iv 0, rv a2, nv d, nv cs.length, iv 0]) rfl <| st2 _ <| zm X2 hx (d62 hby 0 rfl) rfl <| zm X2 hx (d62 hby 1 rfl) rfl ?_
    exact k
  refine own_lvV X2 hx hlk hret (d62 hby 21 rfl) (by decide) (by decide) (Ls := (q_109 a1 cs a2 d)) (fun _ k => castTop (ef_ru_inf m a1 (0 : Int32) a2 (Int32.ofNat d) (Int32.ofNat cs.length)) ?_) ?_
  · refine pf5 _ <| zy X2 hx 14 41 (d62 hby 2 rfl) (flt (fun q => absurd ((own_lt (a := cs.length) (b := cs.length) (by omega) (by omega)).mp q) (by omega))).2.1 ?_
    exact k
  · rw [e2]
    exact ⟨rfl, N2, kp4, Bm2⟩
theorem d61 : Dl cb19 [(0, .aload_n 0, 1), (1, .iload_n 1, 1), (2, .aload_n 2, 1), (3, .iload_n 3, 1), (4, .iload 4, 2), (6, .invokestatic 240, 3), (9, .return_, 1)] := dlk (by decide +kernel)
theorem pd12 : parseMethodDescriptor "([BI[BII)V" = some ⟨[(.array .byte), .int, (.array .byte), .int, .int], none⟩ := by decide +kernel
theorem ef_rl_inf (m : MethodId) (x0 : Addr) (x1 : Int32) (x2 : Addr) (x3 : Int32) (x4 : Int32) : entryFrame m #[(.ref x0), (.int x1), (.ref x2), (.int x3), (.int x4)] 5 = mkF m 0 #[.val (.ref x0), .val (.int x1), .val (.ref x2), .val (.int x3), .val (.int x4)] [] := by first | (simp [entryFrame, mkF, argsToLocals, Value.category]; done) | rfl
theorem rl_inf (a1 : Addr) (kA : ClassId) (LA : Nat) (vs : List Int32) (a2 : Addr) (kD : ClassId) (LD : Nat) (ds : List Int32) (cs : List UInt16) (d : Nat) (B1 : Bar Z h0 a1 kA LA vs) (B2 : Bar Z h0 a2 kD LD ds) (hA : LA ≤ 110) (hD : LD ≤ 110) (hn : cs.length ≤ LA) (hsrc : ∀ j, j < cs.length → vs.getD j 0 = cLo (cs.getD j 0)) (hu : ∀ u ∈ cs, u < 256) (hd : 2 * (d + cs.length) ≤ LD) (hne : a1 ≠ a2) (g_a2 : n0 ≤ a2) :
    Mt (l := l) hw (ws := ws) O0 ST Y_73 jdk_43_method_50_code 5 none R_39 #[(.ref a1), (vL 0), (.ref a2), (vN d), (vN cs.length)] (Qwr Z a2 kD LD (puts ds d cs) h0 n0) := by
  refine own_met (plainFor_of_name pn3) fun p e s m w_ meth c s₁ hx hby hml hZ hh hown hnm hret hlk X0 e0 => ?_
  have N0 := Fr.nil n0
  have V_a1 := B1.1
  have l_a1 := B1.2
  have hN_a1 : (Int32.ofNat LA).toNatClampNeg = vs.length := by rw [l_a1]; exact own_n (by omega)
  have lt_a1 := V_a1.lt
  have V_a2 := B2.1
  have l_a2 := B2.2
  have hN_a2 : (Int32.ofNat LD).toNatClampNeg = ds.length := by rw [l_a2]; exact own_n (by omega)
  have lt_a2 := V_a2.lt
  obtain ⟨_, T1, Lc1, X1, hQ1, st1⟩ := own_sc X0 hx hZ (y := Y_72) hown hml (tw hw 293 rfl) (tw hw 294 rfl) (ru_inf hw O0 ST a1 kA LA vs a2 kD LD ds cs d B1 B2 hA hD hn hsrc hu hd hne g_a2) (tw hw 295 rfl) (tw hw 78 rfl) e0 (W := 0) (Ls := (q_116 a1 a2 d cs)) (argsL := [(.ref a1), (vL 0), (.ref a2), (vN d), (vN cs.length)]) (rest := []) (lenOf pd12 rfl) (d61 hby 5 rfl)
  obtain ⟨h1, e1⟩ : ∃ z, T1.heap = z := ⟨_, rfl⟩
  rw [e1] at hQ1
  obtain ⟨rfl, Nq1, K1, Bi1⟩ := hQ1
  have N1 := Fr.app N0 Nq1
  have O2 := O0.keep K1 (allS g_a2 all0)
  have kp3 : Keep h0 h1 [a2] := (Keep.refl h0 [a2]).trans K1 (allS (Or.inl (List.mem_of_getElem? (i := 0) rfl)) all0)
  have BI := Bi1
  refine own_lvV X1 hx hlk hret (d61 hby 6 rfl) (by decide) (by decide) (Ls := (q_116 a1 a2 d cs)) (fun _ k => castTop (ef_rl_inf m a1 (0 : Int32) a2 (Int32.ofNat d) (Int32.ofNat cs.length)) ?_) ?_
  · refine za X0 hx (d61 hby 0 rfl) rfl rfl <| zl X0 hx (d61 hby 1 rfl) rfl <| za X0 hx (d61 hby 2 rfl) rfl rfl <| zl X0 hx (d61 hby 3 rfl) rfl <| zm X0 hx (d61 hby 4 rfl) rfl <| st1 _ ?_
    exact k
  · rw [e1]
    exact ⟨rfl, N1, kp3, BI⟩
theorem d17 : Dl cb20 [(8, .iload 4, 2), (10, .iload_n 2, 1), (11, .if_icmp .ge 21, 3), (14, .aload_n 3, 1), (15, .iload 4, 2), (17, .aload_n 0, 1), (18, .iload_n 1, 1), (19, .caload, 1), (20, .invokestatic 111, 3), (23, .iinc 1 1, 3), (26, .iinc 4 1, 3), (29, .goto (-21), 3), (0, .iload_n 2, 1), (1, .invokestatic 107, 3), (4, .astore_n 3, 1), (5, .iconst 0, 1), (6, .istore 4, 2), (32, .aload_n 3, 1), (33, .areturn, 1)] := dlk (by decide +kernel)
theorem pi_tb {p : Program} {l : Launch} {e : Env} {s : State} {m : MethodId} {args : Array Value} {w_ : List Frame} {meth : Method} {c : Code} {T0 : State} {locs : List Loc} {Z : State} {a0 : Array Value} {n0 : Nat} {h0 : Heap} (hw : Hw a0 Z) (X0 : Stand p l e R_20 s m args w_ meth c T0 locs 1 110) (hx : p.tables.exec = Jvm.exec) (hby : c.code = jdk_52_method_14_code) (hml : c.maxLocals = 5) (hZ : Z.Warmed39 s.vm) (hown : s.vm.findClass "java/lang/StringUTF16" = some m.cls) (e0 : T0.heap = h0) (N0 : Fr n0 locs) (O0 : Old Z n0 h0) (G1 : Int32) (Fm : Value) (a1 : Addr) (kA : ClassId) (cs : List UInt16) (a2 : Addr) (kD : ClassId) (ds : List Int32) (j : Nat) (ST : Stc Z G1 Fm) (C1 : Car Z h0 a1 kA cs.length cs) (B2 : Bar Z h0 a2 kD (2 * cs.length) ds) (hc : cs.length ≤ 24) (hne : a1 ≠ a2) (g_a2 : n0 ≤ a2) (hlt : j < cs.length) :
    ∃ T' h' L', Stand p l e R_20 s m args w_ meth c T' L' 1 110 ∧ T'.heap = h' ∧ Fr n0 L' ∧ Old Z n0 h' ∧ Keep h0 h' [a2] ∧ Bar Z h' a2 kD (2 * cs.length) (put ds j (cs.getD j 0)) ∧ ∀ target, Go p e w_ T' m 8 (q_129 a1 j cs a2) [] target → Go p e w_ T0 m 8 (q_73 a1 j cs a2) [] target := by
  have V_a1 := C1.1
  have hN_a1 : (Int32.ofNat cs.length).toNatClampNeg = (cs.map cv).length := by rw [List.length_map]; exact own_n (by omega)
  have lt_a1 := V_a1.lt
  have V_a2 := B2.1
  have l_a2 := B2.2
  have hN_a2 : (Int32.ofNat (2 * cs.length)).toNatClampNeg = ds.length := by rw [l_a2]; exact own_n (by omega)
  have lt_a2 := V_a2.lt
  obtain ⟨cl1, Ar1, hin1, hat1⟩ := own_at (j := (Int32.ofNat j)) (i := j) V_a1 hN_a1 (own_nn (n := j) (by omega)) (own_n (n := j) (by omega)) (by simp only [List.length_set, List.length_replicate, List.length_map, put_len, enc1_len, List.length_append, List.length_take, List.length_drop]; omega)
  rw [show ((cs.map cv).getD j 0) = (cv (cs.getD j 0)) from own_cvd hlt] at hat1
  obtain ⟨_, T2, Lc2, X2, hQ2, st2⟩ := own_sc X0 hx hZ (y := Y_35) hown hml (tw hw 93 rfl) (tw hw 94 rfl) (ru_put hw O0 ST a2 kD (2 * cs.length) ds j (cs.getD j 0) B2 (by omega) (by omega) g_a2) (tw hw 95 rfl) (tw hw 78 rfl) e0 (W := 0) (Ls := (q_73 a1 j cs a2)) (argsL := [(.ref a2), (vN j), (.int (cv (cs.getD j 0)))]) (rest := []) (lenOf pd10 rfl) (d17 hby 8 rfl)
  obtain ⟨h2, e2⟩ : ∃ z, T2.heap = z := ⟨_, rfl⟩
  rw [e2] at hQ2
  obtain ⟨rfl, Nq2, K2, Bp2⟩ := hQ2
  have N2 := Fr.app N0 Nq2
  have O3 := O0.keep K2 (allS g_a2 all0)
  have kp4 : Keep h0 h2 [a2] := (Keep.refl h0 [a2]).trans K2 (allS (Or.inl (List.mem_of_getElem? (i := 0) rfl)) all0)
  refine ⟨T2, h2, _, X2, e2, N2, O3, kp4, Bp2, ?_⟩
  intro target k
  refine zm X0 hx (d17 hby 0 rfl) rfl <| zl X0 hx (d17 hby 1 rfl) rfl <| zn X0 hx (d17 hby 2 rfl) (tlt ((own_lt (a := j) (b := cs.length) (by omega) (by omega)).mpr (by omega))).2.1 <| za X0 hx (d17 hby 3 rfl) rfl rfl <| zm X0 hx (d17 hby 4 rfl) rfl <| za X0 hx (d17 hby 5 rfl) rfl rfl <| zl X0 hx (d17 hby 6 rfl) rfl ?_
  show Go p e w_ T0 m 19 (q_73 a1 j cs a2) [(vN j), (.ref a1), (vN j), (.ref a2)] _
  refine X0.caload hx (j := (Int32.ofNat j)) (v := (.int (cv (cs.getD j 0)))) (by rw [e0]; exact Ar1.1) (State.isArrayOf_alike hZ.alike Ar1.2.1) Ar1.2.2 hin1 hat1 (g := (mkF m 19 (q_73 a1 j cs a2) [(vN j), (.ref a1), (vN j), (.ref a2)])) rfl rfl (d17 hby 7 rfl) _ <| st2 _ <| XS.iinc X2.here hx rfl (d17 hby 9 rfl) rfl (l' := #[rv a1, iv ((Int32.ofNat j) + (1 : Int32)), nv cs.length, rv a2, nv j]) rfl ?_
  show Go p e w_ T2 m 26 #[.val (.ref a1), .val (.int ((Int32.ofNat j) + (1 : Int32))), .val (.int (Int32.ofNat cs.length)), .val (.ref a2), .val (.int (Int32.ofNat j))] [] _
  rw [show ((Int32.ofNat j) + (1 : Int32)) = (Int32.ofNat (j + 1)) from own_add j 1]
  refine XS.iinc X2.here hx rfl (d17 hby 10 rfl) rfl (l' := #[rv a1, nv (j + 1), nv cs.length, rv a2, iv ((Int32.ofNat j) + (1 : Int32))]) rfl ?_
  show Go p e w_ T2 m 29 #[.val (.ref a1), .val (.int (Int32.ofNat (j + 1))), .val (.int (Int32.ofNat cs.length)), .val (.ref a2), .val (.int ((Int32.ofNat j) + (1 : Int32)))] [] _
  rw [show ((Int32.ofNat j) + (1 : Int32)) = (Int32.ofNat (j + 1)) from own_add j 1]
  refine zo X2 hx 29 8 (d17 hby 11 rfl) ?_
  exact k
theorem lp_tb {p : Program} {l : Launch} {e : Env} {s : State} {m : MethodId} {args : Array Value} {w_ : List Frame} {meth : Method} {c : Code} {Z : State} {a0 : Array Value} {n0 : Nat} (hw : Hw a0 Z) (hx : p.tables.exec = Jvm.exec) (hby : c.code = jdk_52_method_14_code) (hml : c.maxLocals = 5) (hZ : Z.Warmed39 s.vm) (hown : s.vm.findClass "java/lang/StringUTF16" = some m.cls) (G1 : Int32) (Fm : Value) (ST : Stc Z G1 Fm) {a1 a2 : Addr} {kA kD : ClassId} {cs : List UInt16} (hc : cs.length ≤ 24) (hne : a1 ≠ a2) (g_a2 : n0 ≤ a2) :
    ∀ (f j : Nat) (ds : List Int32) (T0 : State) (h0 : Heap) (locs : List Loc) (X0 : Stand p l e R_20 s m args w_ meth c T0 locs 1 110) (e0 : T0.heap = h0) (N0 : Fr n0 locs) (O0 : Old Z n0 h0) (C1 : Car Z h0 a1 kA cs.length cs) (BD : Bar Z h0 a2 kD (2 * cs.length) ds) (hf : cs.length - j = f) (hj : j ≤ cs.length),
      ∃ (T' : State) (h' : Heap) (L' : List Loc), Stand p l e R_20 s m args w_ meth c T' L' 1 110 ∧ T'.heap = h' ∧ Fr n0 L' ∧ Old Z n0 h' ∧ Keep h0 h' [a2] ∧ Bar Z h' a2 kD (2 * cs.length) (puts ds j (cs.drop j)) ∧
        ∀ target, Go p e w_ T' m 8 (q_111 a1 cs a2) [] target → Go p e w_ T0 m 8 (q_73 a1 j cs a2) [] target := by
  intro f
  induction f with
  | zero =>
    intro j ds T0 h0 locs X0 e0 N0 O0 C1 BD hf hj
    have q : j = cs.length := by omega
    subst q
    exact ⟨T0, h0, locs, X0, e0, N0, O0, Keep.refl _ _, by rw [own_q0]; exact BD, fun _ k => k⟩
  | succ f ih =>
    intro j ds T0 h0 locs X0 e0 N0 O0 C1 BD hf hj
    have hlt : j < cs.length := by omega
    obtain ⟨T2, h2, L2, X2, e2, N2, O2, K2, B2, st2⟩ := pi_tb hw X0 hx hby hml hZ hown e0 N0 O0 G1 Fm a1 kA cs a2 kD ds j ST C1 BD hc hne g_a2 hlt
    obtain ⟨T3, h3, L3, X3, e3, N3, O3, K3, B3, st3⟩ := ih (j + 1) (put ds j (cs.getD j 0)) T2 h2 L2 X2 e2 N2 O2 ⟨C1.1.keep K2 (ninS hne nin0), C1.2⟩ B2 (by omega) (by omega)
    exact ⟨T3, h3, L3, X3, e3, N3, O3, K2.trans K3 (allS (Or.inl (List.mem_of_getElem? (i := 0) rfl)) all0), by rw [own_q1 hlt]; exact B3, fun target k => st2 target (st3 target k)⟩
theorem pd13 : parseMethodDescriptor "(I)[B" = some ⟨[.int], some (.array .byte)⟩ := by decide +kernel
theorem ef_ru_tb (m : MethodId) (x0 : Addr) (x1 : Int32) (x2 : Int32) : entryFrame m #[(.ref x0), (.int x1), (.int x2)] 5 = mkF m 0 #[.val (.ref x0), .val (.int x1), .val (.int x2), .unset, .unset] [] := by first | (simp [entryFrame, mkF, argsToLocals, Value.category]; done) | rfl
theorem ru_tb (a1 : Addr) (kA : ClassId) (cs : List UInt16) (C1 : Car Z h0 a1 kA cs.length cs) (hc : cs.length ≤ 24) :
    Mt (l := l) hw (ws := ws) O0 ST Y_74 jdk_52_method_14_code 5 (some (.array .byte)) R_20 #[(.ref a1), (vL 0), (vN cs.length)] (Qar Z (2 * cs.length) (enc1 cs) h0 n0) := by
  refine own_met (plainFor_of_name pn0) fun p e s m w_ meth c s₁ hx hby hml hZ hh hown hnm hret hlk X0 e0 => ?_
  have N0 := Fr.nil n0
  have V_a1 := C1.1
  have hN_a1 : (Int32.ofNat cs.length).toNatClampNeg = (cs.map cv).length := by rw [List.length_map]; exact own_n (by omega)
  have lt_a1 := V_a1.lt
  obtain ⟨_, T1, Lc1, X1, hQ1, st1⟩ := own_sc X0 hx hZ (y := Y_54) hown hml (tw hw 86 rfl) (tw hw 87 rfl) (ru_nf hw O0 ST cs.length (by omega)) (tw hw 88 rfl) (tw hw 78 rfl) e0 (W := 0) (Ls := (q_112 a1 cs)) (argsL := [(vN cs.length)]) (rest := []) (lenOf pd13 rfl) (d17 hby 13 rfl)
  obtain ⟨h1, e1⟩ : ∃ z, T1.heap = z := ⟨_, rfl⟩
  rw [e1] at hQ1
  obtain ⟨t1, kt1, rfl, Nq1, K1, szt1, Bt1, Et1⟩ := hQ1
  have N1 := Fr.app N0 Nq1
  have O2 := O0.keep K1 all0
  have kp3 : Keep h0 h1 [] := (Keep.refl h0 []).trans K1 all0
  have sz_t1 : h0.size ≤ t1 := szt1
  have g_t1 : n0 ≤ t1 := Nat.le_trans (Nat.le_trans (Nat.le_of_eq O0.1.symm) O0.2.1) szt1
  have lt_a1_t1 : a1 < t1 := Nat.lt_of_lt_of_le lt_a1 szt1
  have V_t1 := Bt1.1
  obtain ⟨T4, h4, L4, X4, e4, N4, Om4, K4, Bm4, st4⟩ := lp_tb hw hx hby hml hZ hown G1 Fm ST hc (Nat.ne_of_lt lt_a1_t1) g_t1 cs.length 0 (List.replicate (2 * cs.length) 0) T1 h1 _ X1 e1 N1 O2 ⟨(V_a1.keep K1 nin0), C1.2⟩ Bt1 (by omega) (by omega)
  have O5 := O2.keep K4 (allS g_t1 all0)
  have kp6 := kp3.trans K4 (allS (Or.inr sz_t1) all0)
  have Vm4 := Bm4.1
  have hNm4 : (Int32.ofNat (2 * cs.length)).toNatClampNeg = (puts (List.replicate (2 * cs.length) 0) 0 (cs.drop 0)).length := by rw [Bm4.2]; exact own_n (by omega)
  have pf7 : ∀ target, Go p e w_ T4 m 11 (q_111 a1 cs t1) [(vN cs.length), (vN cs.length)] target → Go p e w_ s₁ m 0 (q_112 a1 cs) [] target := by
    intro target k
    refine zl X0 hx (d17 hby 12 rfl) rfl <| st1 _ <| XS.astoreN X1.here hx rfl (d17 hby 14 rfl) rfl rfl (l' := #[rv a1, iv 0, nv cs.length, rv t1, .unset]) rfl <| zc X1 hx (d17 hby 15 rfl) <| zt X1 hx (d17 hby 16 rfl) (Ls' := #[rv a1, iv 0, nv cs.length, rv t1, iv 0]) rfl <| st4 _ <| zm X4 hx (d17 hby 0 rfl) rfl <| zl X4 hx (d17 hby 1 rfl) rfl ?_
    exact k
  refine own_lvA X4 hx hlk hret rfl (d17 hby 18 rfl) (by decide) (by decide) (w := (.ref t1)) rfl (Ls := (q_111 a1 cs t1)) (rest := []) (fun _ k => castTop (ef_ru_tb m a1 (0 : Int32) (Int32.ofNat cs.length)) ?_) ?_
  · refine pf7 _ <| zy X4 hx 11 32 (d17 hby 2 rfl) (flt (fun q => absurd ((own_lt (a := cs.length) (b := cs.length) (by omega) (by omega)).mp q) (by omega))).2.1 <| za X4 hx (d17 hby 17 rfl) rfl rfl ?_
    exact k
  · rw [e4]
    exact ⟨t1, _, rfl, N4, kp6, sz_t1, by rw [← own_putsz cs]; exact Bm4, (Et1.keep K4)⟩
def Qst (Z : State) (a : Addr) (cs : List UInt16) (h0 : Heap) (n0 : Nat) (v : Option Value) (h : Heap) (Lc : List Loc) : Prop := v = none ∧ Fr n0 Lc ∧ Keep h0 h [a] ∧ ∃ (b : Addr) (k : ClassId), h0.size ≤ b ∧ Strx Z h a b k cs
theorem own_tk {cs : List UInt16} {n : Nat} (h : n ≤ cs.length) : ∀ j, j < (cs.take n).length → cs.getD j 0 = (cs.take n).getD j 0 := fun j hj => by
  have : j < n := by simpa using (List.length_take ▸ hj : j < min n cs.length) |> fun q => by omega
  simp [List.getD_eq_getElem?_getD, List.getElem?_take, this]
theorem own_nlt {cs : List UInt16} (h : ∀ u ∈ cs, u < 256) : ∀ j, j < cs.length → ¬ (255 : Int32) < cv (cs.getD j 0) := fun j hj q => (own_cvlt _).mp q (own_up h hj)
theorem d16 : Dl cb21 [(3, .iload 5, 2), (5, .iload 4, 2), (7, .if_icmp .ge 37, 3), (10, .aload_n 0, 1), (11, .iload_n 1, 1), (12, .caload, 1), (13, .istore 6, 2), (15, .iload 6, 2), (17, .sipush 255, 3), (20, .if_icmp .le 6, 3), (26, .aload_n 2, 1), (27, .iload_n 3, 1), (28, .iload 6, 2), (30, .i2b, 1), (31, .bastore, 1), (32, .iinc 1 1, 3), (35, .iinc 3 1, 3), (38, .iinc 5 1, 3), (41, .goto (-38), 3), (0, .iconst 0, 1), (1, .istore 5, 2), (44, .iload 4, 2), (46, .ireturn, 1), (23, .iload 5, 2), (25, .ireturn, 1)] := dlk (by decide +kernel)
theorem pi_cm {p : Program} {l : Launch} {e : Env} {s : State} {m : MethodId} {args : Array Value} {w_ : List Frame} {meth : Method} {c : Code} {T0 : State} {locs : List Loc} {Z : State} {a0 : Array Value} {n0 : Nat} {h0 : Heap} (hw : Hw a0 Z) (X0 : Stand p l e R_0 s m args w_ meth c T0 locs 0 0) (hx : p.tables.exec = Jvm.exec) (hby : c.code = jdk_52_method_21_code) (hml : c.maxLocals = 7) (hZ : Z.Warmed39 s.vm) (hown : s.vm.findClass "java/lang/StringUTF16" = some m.cls) (e0 : T0.heap = h0) (N0 : Fr n0 locs) (O0 : Old Z n0 h0) (G1 : Int32) (Fm : Value) (a1 : Addr) (kA : ClassId) (cs : List UInt16) (a2 : Addr) (kD : ClassId) (ds : List Int32) (j : Nat) (s6 : Slot) (ST : Stc Z G1 Fm) (C1 : Car Z h0 a1 kA cs.length cs) (B2 : Bar Z h0 a2 kD cs.length ds) (hc : cs.length ≤ 24) (hne : a1 ≠ a2) (g_a2 : n0 ≤ a2) (hs6 : One s6) (hlt : j < cs.length) (hu : ¬ (255 : Int32) < (cv (cs.getD j 0))) :
    ∃ T' h' L', Stand p l e R_0 s m args w_ meth c T' L' 0 0 ∧ T'.heap = h' ∧ Fr n0 L' ∧ Old Z n0 h' ∧ Keep h0 h' [a2] ∧ Bar Z h' a2 kD cs.length (ds.set j (cLo (cs.getD j 0))) ∧ ∀ target, Go p e w_ T' m 3 #[rv a1, nv (j + 1), rv a2, nv (j + 1), nv cs.length, nv (j + 1), (iv (cv (cs.getD j 0)))] [] target → Go p e w_ T0 m 3 (q_86 a1 j a2 cs s6) [] target := by
  have V_a1 := C1.1
  have hN_a1 : (Int32.ofNat cs.length).toNatClampNeg = (cs.map cv).length := by rw [List.length_map]; exact own_n (by omega)
  have lt_a1 := V_a1.lt
  have V_a2 := B2.1
  have l_a2 := B2.2
  have hN_a2 : (Int32.ofNat cs.length).toNatClampNeg = ds.length := by rw [l_a2]; exact own_n (by omega)
  have lt_a2 := V_a2.lt
  obtain ⟨cl1, Ar1, hin1, hat1⟩ := own_at (j := (Int32.ofNat j)) (i := j) V_a1 hN_a1 (own_nn (n := j) (by omega)) (own_n (n := j) (by omega)) (by simp only [List.length_set, List.length_replicate, List.length_map, put_len, enc1_len, List.length_append, List.length_take, List.length_drop]; omega)
  rw [show ((cs.map cv).getD j 0) = (cv (cs.getD j 0)) from own_cvd hlt] at hat1
  have pf2 : ∀ target, Go p e w_ T0 m 20 (q_60 a1 j a2 cs) [(vL 255), (.int (cv (cs.getD j 0)))] target → Go p e w_ T0 m 3 (q_86 a1 j a2 cs s6) [] target := by
    intro target k
    refine zm X0 hx (d16 hby 0 rfl) rfl <| zm X0 hx (d16 hby 1 rfl) rfl <| zn X0 hx (d16 hby 2 rfl) (tlt ((own_lt (a := j) (b := cs.length) (by omega) (by omega)).mpr (by omega))).2.1 <| za X0 hx (d16 hby 3 rfl) rfl rfl <| zl X0 hx (d16 hby 4 rfl) rfl ?_
    show Go p e w_ T0 m 12 (q_86 a1 j a2 cs s6) [(vN j), (.ref a1)] _
    refine X0.caload hx (j := (Int32.ofNat j)) (v := (.int (cv (cs.getD j 0)))) (by rw [e0]; exact Ar1.1) (State.isArrayOf_alike hZ.alike Ar1.2.1) Ar1.2.2 hin1 hat1 (g := (mkF m 12 (q_86 a1 j a2 cs s6) [(vN j), (.ref a1)])) rfl rfl (d16 hby 5 rfl) _ <| XS.istoreS X0.here hx rfl (d16 hby 6 rfl) rfl rfl hs6 <| zm X0 hx (d16 hby 7 rfl) rfl <| XS.sipush X0.here hx rfl (d16 hby 8 rfl) ?_
    exact k
  obtain ⟨cl3, Ar3, q3, Sz3, Nn3, Ha3, Gf3⟩ := id V_a2
  have hin3 : ¬ ((Int32.ofNat j) < 0 ∨ cl3.slots.size ≤ ((Int32.ofNat j)).toNatClampNeg) := own_inb (i := j) Sz3 hN_a2 (own_nn (n := j) (by omega)) (own_n (n := j) (by omega)) (by omega)
  obtain ⟨T4, h4, X4, e4, W4, st4⟩ := stB X0 hx hZ e0 Ar3 (j := (Int32.ofNat j)) hin3 (g := (mkF m 31 (q_60 a1 j a2 cs) [(.int (cLo (cs.getD j 0))), (vN j), (.ref a2)])) rfl rfl (d16 hby 14 rfl)
  have Va4 := Arv.set Ar3 q3 Sz3 Nn3 Ha3 Gf3 (fits_nar_byte _) W4 j (own_n (n := j) (by omega)) (by rw [List.length_map]; exact (by omega))
  have Vb4 : Arv Z h4 a2 kD .byte (Int32.ofNat cs.length) ((ds.set j (cLo (cs.getD j 0))).map Value.int) (vL 0) := by rw [List.map_set, ← (show (cLo (cs.getD j 0)).toInt8.toInt32 = (cLo (cs.getD j 0)) from own_lo8 _)]; exact Va4
  have hN4 : ((Int32.ofNat cs.length)).toNatClampNeg = (ds.set j (cLo (cs.getD j 0))).length := by rw [List.length_set]; exact hN_a2
  have O5 := O0.wr W4 g_a2
  have kp6 : Keep h0 h4 [a2] := (Keep.refl h0 [a2]).wr W4 (Or.inl (List.mem_of_getElem? (i := 0) rfl))
  have N4 := Fr.snoc X4 N0 g_a2
  refine ⟨T4, h4, _, X4, e4, N4, O5, kp6, ⟨Vb4, by rw [List.length_set]; exact l_a2⟩, ?_⟩
  intro target k
  refine pf2 _ <| zy X0 hx 20 26 (d16 hby 9 rfl) (flt hu).2.2.2 <| za X0 hx (d16 hby 10 rfl) rfl rfl <| zl X0 hx (d16 hby 11 rfl) rfl <| zm X0 hx (d16 hby 12 rfl) rfl <| XS.i2b X0.here hx rfl (d16 hby 13 rfl) rfl ?_
  show Go p e w_ T0 m 31 (q_60 a1 j a2 cs) [(.int ((cv (cs.getD j 0)).toInt8.toInt32)), (.int (Int32.ofNat j)), (.ref a2)] _
  rw [show ((cv (cs.getD j 0)).toInt8.toInt32) = (cLo (cs.getD j 0)) from own_lo _]
  refine st4 _ <| XS.iinc X4.here hx rfl (d16 hby 15 rfl) rfl (l' := #[rv a1, iv ((Int32.ofNat j) + (1 : Int32)), rv a2, nv j, nv cs.length, nv j, iv (cv (cs.getD j 0))]) rfl ?_
  show Go p e w_ T4 m 35 #[.val (.ref a1), .val (.int ((Int32.ofNat j) + (1 : Int32))), .val (.ref a2), .val (.int (Int32.ofNat j)), .val (.int (Int32.ofNat cs.length)), .val (.int (Int32.ofNat j)), .val (.int (cv (cs.getD j 0)))] [] _
  rw [show ((Int32.ofNat j) + (1 : Int32)) = (Int32.ofNat (j + 1)) from own_add j 1]
  refine XS.iinc X4.here hx rfl (d16 hby 16 rfl) rfl (l' := #[rv a1, nv (j + 1), rv a2, iv ((Int32.ofNat j) + (1 : Int32)), nv cs.length, nv j, iv (cv (cs.getD j 0))]) rfl ?_
  show Go p e w_ T4 m 38 #[.val (.ref a1), .val (.int (Int32.ofNat (j + 1))), .val (.ref a2), .val (.int ((Int32.ofNat j) + (1 : Int32))), .val (.int (Int32.ofNat cs.length)), .val (.int (Int32.ofNat j)), .val (.int (cv (cs.getD j 0)))] [] _
  rw [show ((Int32.ofNat j) + (1 : Int32)) = (Int32.ofNat (j + 1)) from own_add j 1]
  refine XS.iinc X4.here hx rfl (d16 hby 17 rfl) rfl (l' := #[rv a1, nv (j + 1), rv a2, nv (j + 1), nv cs.length, iv ((Int32.ofNat j) + (1 : Int32)), iv (cv (cs.getD j 0))]) rfl ?_
  show Go p e w_ T4 m 41 #[.val (.ref a1), .val (.int (Int32.ofNat (j + 1))), .val (.ref a2), .val (.int (Int32.ofNat (j + 1))), .val (.int (Int32.ofNat cs.length)), .val (.int ((Int32.ofNat j) + (1 : Int32))), .val (.int (cv (cs.getD j 0)))] [] _
  rw [show ((Int32.ofNat j) + (1 : Int32)) = (Int32.ofNat (j + 1)) from own_add j 1]
  refine zo X4 hx 41 3 (d16 hby 18 rfl) ?_
  exact k
theorem lp_cm {p : Program} {l : Launch} {e : Env} {s : State} {m : MethodId} {args : Array Value} {w_ : List Frame} {meth : Method} {c : Code} {Z : State} {a0 : Array Value} {n0 : Nat} (hw : Hw a0 Z) (hx : p.tables.exec = Jvm.exec) (hby : c.code = jdk_52_method_21_code) (hml : c.maxLocals = 7) (hZ : Z.Warmed39 s.vm) (hown : s.vm.findClass "java/lang/StringUTF16" = some m.cls) (G1 : Int32) (Fm : Value) (ST : Stc Z G1 Fm) {a1 a2 : Addr} {kA kD : ClassId} {cs ps : List UInt16} (hc : cs.length ≤ 24) (hne : a1 ≠ a2) (g_a2 : n0 ≤ a2) (hpl : ps.length ≤ cs.length) (hps : ∀ j, j < ps.length → cs.getD j 0 = ps.getD j 0) (hu : ∀ j, j < ps.length → ¬ (255 : Int32) < (cv (cs.getD j 0))) :
    ∀ (f j : Nat) (ds : List Int32) (s6 : Slot) (hs6 : One s6) (T0 : State) (h0 : Heap) (locs : List Loc) (X0 : Stand p l e R_0 s m args w_ meth c T0 locs 0 0) (e0 : T0.heap = h0) (N0 : Fr n0 locs) (O0 : Old Z n0 h0) (C1 : Car Z h0 a1 kA cs.length cs) (BD : Bar Z h0 a2 kD cs.length ds) (hf : ps.length - j = f) (hj : j ≤ ps.length),
      ∃ (T' : State) (h' : Heap) (L' : List Loc) (s6' : Slot), One s6' ∧ Stand p l e R_0 s m args w_ meth c T' L' 0 0 ∧ T'.heap = h' ∧ Fr n0 L' ∧ Old Z n0 h' ∧ Keep h0 h' [a2] ∧ Bar Z h' a2 kD cs.length (sets ds j (ps.drop j)) ∧
        ∀ target, Go p e w_ T' m 3 #[rv a1, nv ps.length, rv a2, nv ps.length, nv cs.length, nv ps.length, s6'] [] target → Go p e w_ T0 m 3 (q_86 a1 j a2 cs s6) [] target := by
  intro f
  induction f with
  | zero =>
    intro j ds s6 hs6 T0 h0 locs X0 e0 N0 O0 C1 BD hf hj
    have q : j = ps.length := by omega
    subst q
    exact ⟨T0, h0, locs, s6, hs6, X0, e0, N0, O0, Keep.refl _ _, by rw [own_s0]; exact BD, fun _ k => k⟩
  | succ f ih =>
    intro j ds s6 hs6 T0 h0 locs X0 e0 N0 O0 C1 BD hf hj
    have hlt : j < ps.length := by omega
    obtain ⟨T2, h2, L2, X2, e2, N2, O2, K2, B2, st2⟩ := pi_cm hw X0 hx hby hml hZ hown e0 N0 O0 G1 Fm a1 kA cs a2 kD ds j s6 ST C1 BD hc hne g_a2 hs6 (by omega) (hu j hlt)
    obtain ⟨T3, h3, L3, s3, hs3, X3, e3, N3, O3, K3, B3, st3⟩ := ih (j + 1) (ds.set j (cLo (cs.getD j 0))) (iv (cv (cs.getD j 0))) (One.val rfl) T2 h2 L2 X2 e2 N2 O2 ⟨C1.1.keep K2 (ninS hne nin0), C1.2⟩ B2 (by omega) (by omega)
    exact ⟨T3, h3, L3, s3, hs3, X3, e3, N3, O3, K2.trans K3 (allS (Or.inl (List.mem_of_getElem? (i := 0) rfl)) all0), by rw [own_s1 hlt, ← hps j hlt]; exact B3, fun target k => st2 target (st3 target k)⟩
theorem ef_ru_cmA (m : MethodId) (x0 : Addr) (x1 : Int32) (x2 : Addr) (x3 : Int32) (x4 : Int32) : entryFrame m #[(.ref x0), (.int x1), (.ref x2), (.int x3), (.int x4)] 7 = mkF m 0 #[.val (.ref x0), .val (.int x1), .val (.ref x2), .val (.int x3), .val (.int x4), .unset, .unset] [] := by first | (simp [entryFrame, mkF, argsToLocals, Value.category]; done) | rfl
theorem ru_cmA (a1 : Addr) (kA : ClassId) (cs : List UInt16) (a2 : Addr) (kD : ClassId) (ds : List Int32) (C1 : Car Z h0 a1 kA cs.length cs) (B2 : Bar Z h0 a2 kD cs.length ds) (hc : cs.length ≤ 24) (hne : a1 ≠ a2) (g_a2 : n0 ≤ a2) (hu : ∀ u ∈ cs, u < 256) :
    Mt (l := l) hw (ws := ws) O0 ST Y_37 jdk_52_method_21_code 7 (some .int) R_0 #[(.ref a1), (vL 0), (.ref a2), (vL 0), (vN cs.length)] (Qcm Z a2 (Int32.ofNat cs.length) (fun h => Bar Z h a2 kD cs.length (sets ds 0 cs)) h0 n0) := by
  refine own_met (plainFor_of_name pn0) fun p e s m w_ meth c s₁ hx hby hml hZ hh hown hnm hret hlk X0 e0 => ?_
  have N0 := Fr.nil n0
  have V_a1 := C1.1
  have hN_a1 : (Int32.ofNat cs.length).toNatClampNeg = (cs.map cv).length := by rw [List.length_map]; exact own_n (by omega)
  have lt_a1 := V_a1.lt
  have V_a2 := B2.1
  have l_a2 := B2.2
  have hN_a2 : (Int32.ofNat cs.length).toNatClampNeg = ds.length := by rw [l_a2]; exact own_n (by omega)
  have lt_a2 := V_a2.lt
  obtain ⟨T1, h1, L1, s6_1, hs6_1, X1, e1, N1, Om1, K1, Bm1, st1⟩ := lp_cm (ps := cs) hw hx hby hml hZ hown G1 Fm ST hc hne g_a2 (Nat.le_refl _) (fun _ _ => rfl) (own_nlt hu) cs.length 0 ds .unset One.u s₁ h0 _ X0 e0 N0 O0 C1 B2 (by omega) (by omega)
  have O2 := O0.keep K1 (allS g_a2 all0)
  have kp3 : Keep h0 h1 [a2] := (Keep.refl h0 [a2]).trans K1 (allS (Or.inl (List.mem_of_getElem? (i := 0) rfl)) all0)
  have Vm1 := Bm1.1
  have Bm := Bm1
  have hs6_1' := hs6_1
  have pf4 : ∀ target, Go p e w_ T1 m 7 #[rv a1, nv cs.length, rv a2, nv cs.length, nv cs.length, nv cs.length, s6_1] [(vN cs.length), (vN cs.length)] target → Go p e w_ s₁ m 0 (q_117 a1 a2 cs) [] target := by
    intro target k
    refine zc X0 hx (d16 hby 19 rfl) <| zt X0 hx (d16 hby 20 rfl) (Ls' := (q_136 a1 a2 cs)) rfl <| st1 _ <| zm X1 hx (d16 hby 0 rfl) rfl <| zm X1 hx (d16 hby 1 rfl) rfl ?_
    exact k
  refine own_lvI X1 hx hlk hret (d16 hby 22 rfl) (by decide) (by decide) (z := (Int32.ofNat cs.length)) (Ls := #[rv a1, nv cs.length, rv a2, nv cs.length, nv cs.length, nv cs.length, s6_1]) (rest := []) (fun _ k => castTop (ef_ru_cmA m a1 (0 : Int32) a2 (0 : Int32) (Int32.ofNat cs.length)) ?_) ?_
  · refine pf4 _ <| zy X1 hx 7 44 (d16 hby 2 rfl) (flt (fun q => absurd ((own_lt (a := cs.length) (b := cs.length) (by omega) (by omega)).mp q) (by omega))).2.1 <| zm X1 hx (d16 hby 21 rfl) rfl ?_
    exact k
  · rw [e1]
    exact ⟨rfl, N1, kp3, Bm⟩
theorem ru_cmB (a1 : Addr) (kA : ClassId) (cs : List UInt16) (a2 : Addr) (kD : ClassId) (ds : List Int32) (nF : Nat) (C1 : Car Z h0 a1 kA cs.length cs) (B2 : Bar Z h0 a2 kD cs.length ds) (hc : cs.length ≤ 24) (hne : a1 ≠ a2) (g_a2 : n0 ≤ a2) (hN : nF < cs.length) (hu1 : ∀ j, j < nF → ¬ (255 : Int32) < (cv (cs.getD j 0))) (hu2 : (255 : Int32) < (cv (cs.getD nF 0))) :
    Mt (l := l) hw (ws := ws) O0 ST Y_37 jdk_52_method_21_code 7 (some .int) R_0 #[(.ref a1), (vL 0), (.ref a2), (vL 0), (vN cs.length)] (Qcm Z a2 (Int32.ofNat nF) (fun _ => True) h0 n0) := by
  refine own_met (plainFor_of_name pn0) fun p e s m w_ meth c s₁ hx hby hml hZ hh hown hnm hret hlk X0 e0 => ?_
  have N0 := Fr.nil n0
  have V_a1 := C1.1
  have hN_a1 : (Int32.ofNat cs.length).toNatClampNeg = (cs.map cv).length := by rw [List.length_map]; exact own_n (by omega)
  have lt_a1 := V_a1.lt
  have V_a2 := B2.1
  have l_a2 := B2.2
  have hN_a2 : (Int32.ofNat cs.length).toNatClampNeg = ds.length := by rw [l_a2]; exact own_n (by omega)
  have lt_a2 := V_a2.lt
  have htk : (cs.take nF).length = nF := by rw [List.length_take]; omega
  obtain ⟨T1, h1, L1, s6_1, hs6_1, X1, e1, N1, Om1, K1, Bm1, st1⟩ := lp_cm (ps := (cs.take nF)) hw hx hby hml hZ hown G1 Fm ST hc hne g_a2 (by omega) (own_tk (by omega)) (fun j hj => hu1 j (by omega)) (cs.take nF).length 0 ds .unset One.u s₁ h0 _ X0 e0 N0 O0 C1 B2 (by omega) (by omega)
  rw [htk] at st1
  have O2 := O0.keep K1 (allS g_a2 all0)
  have kp3 : Keep h0 h1 [a2] := (Keep.refl h0 [a2]).trans K1 (allS (Or.inl (List.mem_of_getElem? (i := 0) rfl)) all0)
  have Vm1 := Bm1.1
  have Bm := Bm1
  have hs6_1' := hs6_1
  have pf4 : ∀ target, Go p e w_ T1 m 7 #[rv a1, nv nF, rv a2, nv nF, nv cs.length, nv nF, s6_1] [(vN cs.length), (vN nF)] target → Go p e w_ s₁ m 0 (q_117 a1 a2 cs) [] target := by
    intro target k
    refine zc X0 hx (d16 hby 19 rfl) <| zt X0 hx (d16 hby 20 rfl) (Ls' := (q_136 a1 a2 cs)) rfl <| st1 _ <| zm X1 hx (d16 hby 0 rfl) rfl <| zm X1 hx (d16 hby 1 rfl) rfl ?_
    exact k
  obtain ⟨cl5, Ar5, hin5, hat5⟩ := own_at (j := (Int32.ofNat nF)) (i := nF) (V_a1.keep K1 (ninS hne nin0)) hN_a1 (own_nn (n := nF) (by omega)) (own_n (n := nF) (by omega)) (by simp only [List.length_set, List.length_replicate, List.length_map, put_len, enc1_len, List.length_append, List.length_take, List.length_drop]; omega)
  rw [show ((cs.map cv).getD nF 0) = (cv (cs.getD nF 0)) from own_cvd hN] at hat5
  have pf6 : ∀ target, Go p e w_ T1 m 20 (q_60 a1 nF a2 cs) [(vL 255), (.int (cv (cs.getD nF 0)))] target → Go p e w_ T1 m 7 #[rv a1, nv nF, rv a2, nv nF, nv cs.length, nv nF, s6_1] [(vN cs.length), (vN nF)] target := by
    intro target k
    refine zn X1 hx (d16 hby 2 rfl) (tlt ((own_lt (a := nF) (b := cs.length) (by omega) (by omega)).mpr (by omega))).2.1 <| za X1 hx (d16 hby 3 rfl) rfl rfl <| zl X1 hx (d16 hby 4 rfl) rfl ?_
    show Go p e w_ T1 m 12 #[rv a1, nv nF, rv a2, nv nF, nv cs.length, nv nF, s6_1] [(vN nF), (.ref a1)] _
    refine X1.caload hx (j := (Int32.ofNat nF)) (v := (.int (cv (cs.getD nF 0)))) (by rw [e1]; exact Ar5.1) (State.isArrayOf_alike hZ.alike Ar5.2.1) Ar5.2.2 hin5 hat5 (g := (mkF m 12 #[rv a1, nv nF, rv a2, nv nF, nv cs.length, nv nF, s6_1] [(vN nF), (.ref a1)])) rfl rfl (d16 hby 5 rfl) _ <| XS.istoreS X1.here hx rfl (d16 hby 6 rfl) rfl rfl hs6_1 <| zm X1 hx (d16 hby 7 rfl) rfl <| XS.sipush X1.here hx rfl (d16 hby 8 rfl) ?_
    exact k
  refine own_lvI X1 hx hlk hret (d16 hby 24 rfl) (by decide) (by decide) (z := (Int32.ofNat nF)) (Ls := (q_60 a1 nF a2 cs)) (rest := []) (fun _ k => castTop (ef_ru_cmA m a1 (0 : Int32) a2 (0 : Int32) (Int32.ofNat cs.length)) ?_) ?_
  · refine pf4 _ <| pf6 _ <| zn X1 hx (d16 hby 9 rfl) (tlt hu2).2.2.2 <| zm X1 hx (d16 hby 23 rfl) rfl ?_
    exact k
  · rw [e1]
    exact ⟨rfl, N1, kp3, trivial⟩
theorem d15 : Dl cb22 [(0, .iload_n 2, 1), (1, .newarray .byte, 2), (3, .astore_n 3, 1), (4, .aload_n 0, 1), (5, .iload_n 1, 1), (6, .aload_n 3, 1), (7, .iconst 0, 1), (8, .iload_n 2, 1), (9, .invokestatic 115, 3), (12, .istore 4, 2), (14, .iload 4, 2), (16, .iload_n 2, 1), (17, .if_icmp .eq 40, 3), (57, .aload_n 3, 1), (58, .areturn, 1), (20, .aload_n 0, 1), (21, .iload_n 1, 1), (22, .iload_n 2, 1), (23, .invokestatic 119, 3), (26, .astore 5, 2), (28, .aload 5, 2), (30, .iload 4, 2), (32, .invokestatic 71, 3), (35, .sipush 255, 3), (38, .if_icmp .gt 16, 3), (54, .aload 5, 2), (56, .areturn, 1)] := dlk (by decide +kernel)
theorem pd14 : parseMethodDescriptor "([CI[BII)I" = some ⟨[(.array .char), .int, (.array .byte), .int, .int], some .int⟩ := by decide +kernel
theorem ef_ru_cA (m : MethodId) (x0 : Addr) (x1 : Int32) (x2 : Int32) : entryFrame m #[(.ref x0), (.int x1), (.int x2)] 6 = mkF m 0 #[.val (.ref x0), .val (.int x1), .val (.int x2), .unset, .unset, .unset] [] := by first | (simp [entryFrame, mkF, argsToLocals, Value.category]; done) | rfl
theorem ru_cA (a1 : Addr) (kA : ClassId) (cs : List UInt16) (C1 : Car Z h0 a1 kA cs.length cs) (hc : cs.length ≤ 24) (hu : ∀ u ∈ cs, u < 256) :
    Mt (l := l) hw (ws := ws) O0 ST Y_38 jdk_52_method_16_code 6 (some (.array .byte)) R_40 #[(.ref a1), (vL 0), (vN cs.length)] (Qar Z cs.length (cs.map cLo) h0 n0) := by
  refine own_met (plainFor_of_name pn0) fun p e s m w_ meth c s₁ hx hby hml hZ hh hown hnm hret hlk X0 e0 => ?_
  have N0 := Fr.nil n0
  have V_a1 := C1.1
  have hN_a1 : (Int32.ofNat cs.length).toNatClampNeg = (cs.map cv).length := by rw [List.length_map]; exact own_n (by omega)
  have lt_a1 := V_a1.lt
  obtain ⟨T1, h1, k1, X1, e1, E1, A1, Ea1, st1⟩ := newPE X0 hx hZ (tw hw 26 rfl) e0 (g := (mkF m 1 (q_64 a1 cs) [(vN cs.length)])) rfl (d15 hby 1 rfl) rfl (own_nn (n := cs.length) (by omega)) (cap := 24) (by rw [own_n (n := cs.length) (by omega)]; omega) (by decide) (by decide) (by decide) (ad := "[B") (by decide)
  obtain ⟨b1, g1⟩ : ∃ z, z = h0.size := ⟨_, rfl⟩
  rw [← g1] at A1 Ea1 st1
  have g_b1 : n0 ≤ b1 := by rw [g1]; exact Nat.le_trans (Nat.le_of_eq O0.1.symm) O0.2.1
  have sz_b1 : h0.size ≤ b1 := by rw [g1]; exact (Keep.refl h0 []).1
  have lt_a1_b1 : a1 < b1 := Nat.lt_of_lt_of_le lt_a1 sz_b1
  have O2 := O0.ext E1
  have kp3 : Keep h0 h1 [] := (Keep.refl h0 []).ext E1
  have V_b1 : Arv Z h1 b1 k1 .byte (Int32.ofNat cs.length) ((List.replicate cs.length (0 : Int32)).map Value.int) (vL 0) := by rw [List.map_replicate]; exact (Arv.new A1 (own_nn (n := cs.length) (by omega))).pad (pad_rep [] (vL 0) cs.length)
  have hN_b1 : ((Int32.ofNat cs.length)).toNatClampNeg = (List.replicate cs.length (0 : Int32)).length := by rw [List.length_replicate]; exact own_n (n := cs.length) (by omega)
  obtain ⟨_, T4, Lc4, X4, hQ4, st4⟩ := own_sc X1 hx hZ (y := Y_37) hown hml (tw hw 80 rfl) (tw hw 81 rfl) (ru_cmA hw O2 ST a1 kA cs b1 k1 (List.replicate cs.length 0) ⟨(V_a1.ext E1), C1.2⟩ ⟨V_b1, by rw [List.length_replicate]⟩ hc (Nat.ne_of_lt lt_a1_b1) g_b1 hu) (tw hw 82 rfl) (tw hw 78 rfl) e1 (W := 0) (Ls := (q_74 a1 cs b1)) (argsL := [(.ref a1), (vL 0), (.ref b1), (vL 0), (vN cs.length)]) (rest := []) (lenOf pd14 rfl) (d15 hby 8 rfl)
  obtain ⟨h4, e4⟩ : ∃ z, T4.heap = z := ⟨_, rfl⟩
  rw [e4] at hQ4
  obtain ⟨rfl, Nq4, K4, Bc4⟩ := hQ4
  have N4 := Fr.app N0 Nq4
  have O5 := O2.keep K4 (allS g_b1 all0)
  have kp6 := kp3.trans K4 (allS (Or.inr sz_b1) all0)
  have Vc := (own_setsz cs ▸ Bc4 : Bar Z h4 b1 k1 cs.length (cs.map cLo))
  have pf7 : ∀ target, Go p e w_ T4 m 17 (q_118 a1 cs b1) [(vN cs.length), (vN cs.length)] target → Go p e w_ s₁ m 0 (q_64 a1 cs) [] target := by
    intro target k
    refine zl X0 hx (d15 hby 0 rfl) rfl <| st1 _ <| XS.astoreN X1.here hx rfl (d15 hby 2 rfl) rfl rfl (l' := (q_74 a1 cs b1)) rfl <| za X1 hx (d15 hby 3 rfl) rfl rfl <| zl X1 hx (d15 hby 4 rfl) rfl <| za X1 hx (d15 hby 5 rfl) rfl rfl <| zc X1 hx (d15 hby 6 rfl) <| zl X1 hx (d15 hby 7 rfl) rfl <| st4 _ <| zt X4 hx (d15 hby 9 rfl) (Ls' := (q_118 a1 cs b1)) rfl <| zm X4 hx (d15 hby 10 rfl) rfl <| zl X4 hx (d15 hby 11 rfl) rfl ?_
    exact k
  refine own_lvA X4 hx hlk hret rfl (d15 hby 14 rfl) (by decide) (by decide) (w := (.ref b1)) rfl (Ls := (q_118 a1 cs b1)) (rest := []) (fun _ k => castTop (ef_ru_cA m a1 (0 : Int32) (Int32.ofNat cs.length)) ?_) ?_
  · refine pf7 _ <| zy X4 hx 17 57 (d15 hby 12 rfl) (teq ((own_eq (a := cs.length) (b := cs.length) (by omega) (by omega)).mpr (by omega))).1 <| za X4 hx (d15 hby 13 rfl) rfl rfl ?_
    exact k
  · rw [e4]
    exact ⟨b1, _, rfl, N4, kp6, sz_b1, ⟨Vc.1, by rw [List.length_map]⟩, (Ea1.keep K4)⟩
theorem pd15 : parseMethodDescriptor "([CII)[B" = some ⟨[(.array .char), .int, .int], some (.array .byte)⟩ := by decide +kernel
theorem ru_cB (a1 : Addr) (kA : ClassId) (cs : List UInt16) (nF : Nat) (C1 : Car Z h0 a1 kA cs.length cs) (hc : cs.length ≤ 24) (hN : nF < cs.length) (hu1 : ∀ j, j < nF → ¬ (255 : Int32) < (cv (cs.getD j 0))) (hu2 : (255 : Int32) < (cv (cs.getD nF 0))) :
    Mt (l := l) hw (ws := ws) O0 ST Y_38 jdk_52_method_16_code 6 (some (.array .byte)) R_41 #[(.ref a1), (vL 0), (vN cs.length)] (Qar Z (2 * cs.length) (enc1 cs) h0 n0) := by
  refine own_met (plainFor_of_name pn0) fun p e s m w_ meth c s₁ hx hby hml hZ hh hown hnm hret hlk X0 e0 => ?_
  have N0 := Fr.nil n0
  have V_a1 := C1.1
  have hN_a1 : (Int32.ofNat cs.length).toNatClampNeg = (cs.map cv).length := by rw [List.length_map]; exact own_n (by omega)
  have lt_a1 := V_a1.lt
  obtain ⟨T1, h1, k1, X1, e1, E1, A1, Ea1, st1⟩ := newPE X0 hx hZ (tw hw 26 rfl) e0 (g := (mkF m 1 (q_64 a1 cs) [(vN cs.length)])) rfl (d15 hby 1 rfl) rfl (own_nn (n := cs.length) (by omega)) (cap := 24) (by rw [own_n (n := cs.length) (by omega)]; omega) (by decide) (by decide) (by decide) (ad := "[B") (by decide)
  obtain ⟨b1, g1⟩ : ∃ z, z = h0.size := ⟨_, rfl⟩
  rw [← g1] at A1 Ea1 st1
  have g_b1 : n0 ≤ b1 := by rw [g1]; exact Nat.le_trans (Nat.le_of_eq O0.1.symm) O0.2.1
  have sz_b1 : h0.size ≤ b1 := by rw [g1]; exact (Keep.refl h0 []).1
  have lt_a1_b1 : a1 < b1 := Nat.lt_of_lt_of_le lt_a1 sz_b1
  have O2 := O0.ext E1
  have kp3 : Keep h0 h1 [] := (Keep.refl h0 []).ext E1
  have V_b1 : Arv Z h1 b1 k1 .byte (Int32.ofNat cs.length) ((List.replicate cs.length (0 : Int32)).map Value.int) (vL 0) := by rw [List.map_replicate]; exact (Arv.new A1 (own_nn (n := cs.length) (by omega))).pad (pad_rep [] (vL 0) cs.length)
  have hN_b1 : ((Int32.ofNat cs.length)).toNatClampNeg = (List.replicate cs.length (0 : Int32)).length := by rw [List.length_replicate]; exact own_n (n := cs.length) (by omega)
  obtain ⟨_, T4, Lc4, X4, hQ4, st4⟩ := own_sc X1 hx hZ (y := Y_37) hown hml (tw hw 80 rfl) (tw hw 81 rfl) (ru_cmB hw O2 ST a1 kA cs b1 k1 (List.replicate cs.length 0) nF ⟨(V_a1.ext E1), C1.2⟩ ⟨V_b1, by rw [List.length_replicate]⟩ hc (Nat.ne_of_lt lt_a1_b1) g_b1 hN hu1 hu2) (tw hw 82 rfl) (tw hw 78 rfl) e1 (W := 0) (Ls := (q_74 a1 cs b1)) (argsL := [(.ref a1), (vL 0), (.ref b1), (vL 0), (vN cs.length)]) (rest := []) (lenOf pd14 rfl) (d15 hby 8 rfl)
  obtain ⟨h4, e4⟩ : ∃ z, T4.heap = z := ⟨_, rfl⟩
  rw [e4] at hQ4
  obtain ⟨rfl, Nq4, K4, Bc4⟩ := hQ4
  have N4 := Fr.app N0 Nq4
  have O5 := O2.keep K4 (allS g_b1 all0)
  have kp6 := kp3.trans K4 (allS (Or.inr sz_b1) all0)
  have pf7 : ∀ target, Go p e w_ T4 m 17 (q_87 a1 cs b1 nF) [(vN cs.length), (vN nF)] target → Go p e w_ s₁ m 0 (q_64 a1 cs) [] target := by
    intro target k
    refine zl X0 hx (d15 hby 0 rfl) rfl <| st1 _ <| XS.astoreN X1.here hx rfl (d15 hby 2 rfl) rfl rfl (l' := (q_74 a1 cs b1)) rfl <| za X1 hx (d15 hby 3 rfl) rfl rfl <| zl X1 hx (d15 hby 4 rfl) rfl <| za X1 hx (d15 hby 5 rfl) rfl rfl <| zc X1 hx (d15 hby 6 rfl) <| zl X1 hx (d15 hby 7 rfl) rfl <| st4 _ <| zt X4 hx (d15 hby 9 rfl) (Ls' := (q_87 a1 cs b1 nF)) rfl <| zm X4 hx (d15 hby 10 rfl) rfl <| zl X4 hx (d15 hby 11 rfl) rfl ?_
    exact k
  obtain ⟨_, T8, Lc8, X8, hQ8, st8⟩ := own_sc X4 hx hZ (y := Y_74) hown hml (tw hw 83 rfl) (tw hw 84 rfl) (ru_tb hw O5 ST a1 kA cs ⟨((V_a1.ext E1).keep K4 (ninS (Nat.ne_of_lt lt_a1_b1) nin0)), C1.2⟩ hc) (tw hw 85 rfl) (tw hw 78 rfl) e4 (W := 0) (Ls := (q_87 a1 cs b1 nF)) (argsL := [(.ref a1), (vL 0), (vN cs.length)]) (rest := []) (lenOf pd15 rfl) (d15 hby 18 rfl)
  obtain ⟨h8, e8⟩ : ∃ z, T8.heap = z := ⟨_, rfl⟩
  rw [e8] at hQ8
  obtain ⟨t8, kt8, rfl, Nq8, K8, szt8, Bt8, Et8⟩ := hQ8
  have N8 := Fr.app N4 Nq8
  have O9 := O5.keep K8 all0
  have kp10 := kp6.trans K8 all0
  have sz_t8 := Nat.le_trans kp6.1 szt8
  have g_t8 : n0 ≤ t8 := Nat.le_trans (Nat.le_trans (Nat.le_of_eq O0.1.symm) O0.2.1) sz_t8
  have lt_b1_t8 : b1 < t8 := Nat.lt_of_lt_of_le (Ea1.keep K4).lt szt8
  have lt_a1_t8 : a1 < t8 := Nat.lt_of_lt_of_le lt_a1 sz_t8
  have V_t8 := Bt8.1
  obtain ⟨_, T11, Lc11, X11, hQ11, st11⟩ := own_sc X8 hx hZ (y := Y_9) hown hml (tw hw 99 rfl) (tw hw 100 rfl) (ru_get hw O9 ST t8 kt8 (2 * cs.length) (enc1 cs) nF (cs.getD nF 0) ⟨V_t8, Bt8.2⟩ (by omega) (by omega) (enc1_get cs nF hN).1 (enc1_get cs nF hN).2) (tw hw 101 rfl) (tw hw 78 rfl) e8 (W := 0) (Ls := (q_88 a1 cs b1 nF t8)) (argsL := [(.ref t8), (vN nF)]) (rest := []) (lenOf pd4 rfl) (d15 hby 22 rfl)
  obtain ⟨rfl, Nq11, e11⟩ := hQ11
  have N11 := Fr.app N8 Nq11
  have pf12 : ∀ target, Go p e w_ T11 m 38 (q_88 a1 cs b1 nF t8) [(vL 255), (.int (cv (cs.getD nF 0)))] target → Go p e w_ T4 m 17 (q_87 a1 cs b1 nF) [(vN cs.length), (vN nF)] target := by
    intro target k
    refine zn X4 hx (d15 hby 12 rfl) (feq (fun q => absurd ((own_eq (a := nF) (b := cs.length) (by omega) (by omega)).mp q) (by omega))).1 <| za X4 hx (d15 hby 15 rfl) rfl rfl <| zl X4 hx (d15 hby 16 rfl) rfl <| zl X4 hx (d15 hby 17 rfl) rfl <| st8 _ <| XS.astore X8.here hx rfl (d15 hby 19 rfl) rfl rfl (l' := (q_88 a1 cs b1 nF t8)) rfl <| XS.aload X8.here hx rfl (d15 hby 20 rfl) rfl rfl <| zm X8 hx (d15 hby 21 rfl) rfl <| st11 _ <| XS.sipush X11.here hx rfl (d15 hby 23 rfl) ?_
    exact k
  refine own_lvA X11 hx hlk hret rfl (d15 hby 26 rfl) (by decide) (by decide) (w := (.ref t8)) rfl (Ls := (q_88 a1 cs b1 nF t8)) (rest := []) (fun _ k => castTop (ef_ru_cA m a1 (0 : Int32) (Int32.ofNat cs.length)) ?_) ?_
  · refine pf7 _ <| pf12 _ <| zy X11 hx 38 54 (d15 hby 24 rfl) (tlt hu2).2.2.1 <| XS.aload X11.here hx rfl (d15 hby 25 rfl) rfl rfl ?_
    exact k
  · rw [e11]
    exact ⟨t8, _, rfl, N11, kp10, sz_t8, ⟨V_t8, enc1_len cs⟩, Et8⟩
theorem d22 : Dl cb23 [(0, .iload_n 1, 1), (1, .aload_n 0, 1), (2, .arraylength, 1), (3, .isub, 1), (4, .bipush 31, 2), (6, .iushr, 1), (7, .i2b, 1), (8, .ireturn, 1)] := dlk (by decide +kernel)
theorem ru_cf0 (a1 : Addr) (kA : ClassId) (vs : List Int32) (i1 : Nat) (B1 : Bar Z h0 a1 kA i1 vs) (h1 : 1 ≤ i1) (hB : i1 ≤ 24) :
    Mt (l := l) hw (ws := ws) O0 ST Y_19 jdk_52_method_15_code 2 (some .byte) R_0 #[(.ref a1), (vN i1)] (Qpure (some (vL 0)) h0 n0) := by
  refine own_met (plainFor_of_name pn0) fun p e s m w_ meth c s₁ hx hby hml hZ hh hown hnm hret hlk X0 e0 => ?_
  have N0 := Fr.nil n0
  have V_a1 := B1.1
  have l_a1 := B1.2
  have hN_a1 : (Int32.ofNat i1).toNatClampNeg = vs.length := by rw [l_a1]; exact own_n (by omega)
  have lt_a1 := V_a1.lt
  obtain ⟨cl1, Ar1, q1, Sz1, Nn1, Ha1, Gf1⟩ := id V_a1
  refine own_lvN X0 hx hlk hret (by simp) (d22 hby 7 rfl) (by decide) (by decide) (z := (0 : Int32)) rfl (Ls := (q_2 a1 i1)) (rest := []) (fun _ k => castTop (ef_ru_get m a1 (Int32.ofNat i1)) ?_) ?_
  · refine zl X0 hx (d22 hby 0 rfl) rfl <| za X0 hx (d22 hby 1 rfl) rfl rfl ?_
    show Go p e w_ s₁ m 2 (q_2 a1 i1) [(.ref a1), (vN i1)] _
    refine X0.arraylength hx (by rw [e0]; exact Ar1.1) (State.isArrayOf_alike hZ.alike Ar1.2.1) (g := (mkF m 2 (q_2 a1 i1) [(.ref a1), (vN i1)])) rfl rfl (d22 hby 2 rfl) _ ?_
    rw [len_of Sz1 Nn1]
    refine XS.isub X0.here hx rfl (d22 hby 3 rfl) rfl <| XS.bipush X0.here hx rfl (d22 hby 4 rfl) <| XS.iushr X0.here hx rfl (d22 hby 5 rfl) rfl <| XS.i2b X0.here hx rfl (d22 hby 6 rfl) rfl ?_
    show Go p e w_ s₁ m 8 (q_2 a1 i1) [(.int (((((Int32.ofNat i1) - (Int32.ofNat i1)).toUInt32 >>> ((31 : Int32) &&& 31).toUInt32).toInt32).toInt8.toInt32))] _
    rw [show (((((Int32.ofNat i1) - (Int32.ofNat i1)).toUInt32 >>> ((31 : Int32) &&& 31).toUInt32).toInt32).toInt8.toInt32) = (0 : Int32) from own_cf0 i1]
    exact k
  · rw [e0]
    exact ⟨rfl, N0, rfl⟩
theorem ru_cf1 (a1 : Addr) (kA : ClassId) (vs : List Int32) (i1 : Nat) (B1 : Bar Z h0 a1 kA (2 * i1) vs) (h1 : 1 ≤ i1) (hB : i1 ≤ 24) :
    Mt (l := l) hw (ws := ws) O0 ST Y_19 jdk_52_method_15_code 2 (some .byte) R_0 #[(.ref a1), (vN i1)] (Qpure (some (vL 1)) h0 n0) := by
  refine own_met (plainFor_of_name pn0) fun p e s m w_ meth c s₁ hx hby hml hZ hh hown hnm hret hlk X0 e0 => ?_
  have N0 := Fr.nil n0
  have V_a1 := B1.1
  have l_a1 := B1.2
  have hN_a1 : (Int32.ofNat (2 * i1)).toNatClampNeg = vs.length := by rw [l_a1]; exact own_n (by omega)
  have lt_a1 := V_a1.lt
  obtain ⟨cl1, Ar1, q1, Sz1, Nn1, Ha1, Gf1⟩ := id V_a1
  refine own_lvN X0 hx hlk hret (by simp) (d22 hby 7 rfl) (by decide) (by decide) (z := (1 : Int32)) rfl (Ls := (q_2 a1 i1)) (rest := []) (fun _ k => castTop (ef_ru_get m a1 (Int32.ofNat i1)) ?_) ?_
  · refine zl X0 hx (d22 hby 0 rfl) rfl <| za X0 hx (d22 hby 1 rfl) rfl rfl ?_
    show Go p e w_ s₁ m 2 (q_2 a1 i1) [(.ref a1), (vN i1)] _
    refine X0.arraylength hx (by rw [e0]; exact Ar1.1) (State.isArrayOf_alike hZ.alike Ar1.2.1) (g := (mkF m 2 (q_2 a1 i1) [(.ref a1), (vN i1)])) rfl rfl (d22 hby 2 rfl) _ ?_
    rw [len_of Sz1 Nn1]
    refine XS.isub X0.here hx rfl (d22 hby 3 rfl) rfl <| XS.bipush X0.here hx rfl (d22 hby 4 rfl) <| XS.iushr X0.here hx rfl (d22 hby 5 rfl) rfl <| XS.i2b X0.here hx rfl (d22 hby 6 rfl) rfl ?_
    show Go p e w_ s₁ m 8 (q_2 a1 i1) [(.int (((((Int32.ofNat i1) - (Int32.ofNat (2 * i1))).toUInt32 >>> ((31 : Int32) &&& 31).toUInt32).toInt32).toInt8.toInt32))] _
    rw [show (((((Int32.ofNat i1) - (Int32.ofNat (2 * i1))).toUInt32 >>> ((31 : Int32) &&& 31).toUInt32).toInt32).toInt8.toInt32) = (1 : Int32) from own_cf1 h1 (by omega)]
    exact k
  · rw [e0]
    exact ⟨rfl, N0, rfl⟩
theorem d4 : Dl cb24 [(0, .aload_n 0, 1), (1, .invokespecial 1, 3), (4, .iload_n 3, 1), (5, .ifCond .ne 22, 3), (27, .getstatic 38, 3), (30, .ifCond .eq 28, 3), (33, .aload_n 1, 1), (34, .iload_n 2, 1), (35, .iload_n 3, 1), (36, .invokestatic 177, 3), (39, .astore 5, 2), (41, .aload_n 0, 1), (42, .aload 5, 2), (44, .iload_n 3, 1), (45, .invokestatic 47, 3), (48, .putfield 15, 3), (51, .aload_n 0, 1), (52, .aload 5, 2), (54, .putfield 9, 3), (57, .return_, 1), (8, .aload_n 0, 1), (9, .ldc 7, 2), (11, .getfield 9, 3), (14, .putfield 9, 3), (17, .aload_n 0, 1), (18, .ldc 7, 2), (20, .getfield 15, 3), (23, .putfield 15, 3), (26, .return_, 1)] := dlk (by decide +kernel)
theorem pd16 : parseMethodDescriptor "([BI)B" = some ⟨[(.array .byte), .int], some .byte⟩ := by decide +kernel
theorem ef_rs_icA (m : MethodId) (x0 : Addr) (x1 : Addr) (x2 : Int32) (x3 : Int32) : entryFrame m #[(.ref x0), (.ref x1), (.int x2), (.int x3), .null] 6 = mkF m 0 #[.val (.ref x0), .val (.ref x1), .val (.int x2), .val (.int x3), .val .null, .unset] [] := by first | (simp [entryFrame, mkF, argsToLocals, Value.category]; done) | rfl
theorem rs_icA (a1 a2 : Addr) (kA : ClassId) (cs : List UInt16) (E_a : Exa Z h0 a1 "java/lang/String") (F_v : Fld Z h0 a1 "java/lang/String" "value" "[B" .null) (F_c : Fld Z h0 a1 "java/lang/String" "coder" "B" (vL 0)) (g_a1 : n0 ≤ a1) (C2 : Car Z h0 a2 kA cs.length cs) (hne : a1 ≠ a2) (hc : cs.length ≤ 24) (h1 : 1 ≤ cs.length) (hu : ∀ u ∈ cs, u < 256) :
    Mt (l := l) hw (ws := ws) O0 ST Y_12 jdk_42_method_149_code 6 none R_42 #[(.ref a1), (.ref a2), (vL 0), (vN cs.length), .null] (Qst Z a1 cs h0 n0) := by
  refine own_met (plainFor_of_name pn2) fun p e s m w_ meth c s₁ hx hby hml hZ hh hown hnm hret hlk X0 e0 => ?_
  have N0 := Fr.nil n0
  obtain ⟨S_cs, hG, S_fm, hF, S_ad, S_hi, S_lo⟩ := id ST
  have lt_a1 := E_a.lt
  have V_a2 := C2.1
  have lt_a2 := V_a2.lt
  obtain ⟨T1, X1, e1, st1⟩ := initO X0 hx hZ hown (tw hw 22 rfl) (tw hw 23 rfl) (tw hw 24 rfl) e0 (g := (mkF m 1 (q_22 a1 a2 cs) [(.ref a1)])) rfl (by rw [hml]; rfl) rfl (d4 hby 1 rfl) (by decide) (W := 0) (by show 2 * 0 + _ ≤ _; exact Nat.le_of_eq rfl) (by decide)
  obtain ⟨T2, X2, e2, st2⟩ := getS2 X1 hx hZ hown (host := "") (Or.inl (tw hw 51 rfl)) Via.refl e1 (S_cs.ext O0.2) (g := (mkF m 27 (q_22 a1 a2 cs) [])) rfl (d4 hby 4 rfl)
  have pf3 : ∀ target, Go p e w_ T2 m 30 (q_22 a1 a2 cs) [(.int G1)] target → Go p e w_ s₁ m 0 (q_22 a1 a2 cs) [] target := by
    intro target k
    refine za X0 hx (d4 hby 0 rfl) rfl rfl <| st1 _ <| zl X1 hx (d4 hby 2 rfl) rfl <| zf X1 hx 5 27 (d4 hby 3 rfl) ((if0 _ _).trans (feq (fun q => absurd ((own_eq (a := cs.length) (b := 0) (by omega) (by omega)).mp q) (by omega))).2) <| st2 _ ?_
    exact k
  obtain ⟨_, T4, Lc4, X4, hQ4, st4⟩ := own_sc X2 hx hZ (y := Y_38) hown hml (tw hw 76 rfl) (tw hw 77 rfl) (ru_cA hw O0 ST a2 kA cs ⟨V_a2, C2.2⟩ hc hu) (tw hw 79 rfl) (tw hw 78 rfl) e2 (W := 0) (Ls := (q_22 a1 a2 cs)) (argsL := [(.ref a2), (vL 0), (vN cs.length)]) (rest := []) (lenOf pd15 rfl) (d4 hby 9 rfl)
  obtain ⟨h4, e4⟩ : ∃ z, T4.heap = z := ⟨_, rfl⟩
  rw [e4] at hQ4
  obtain ⟨t4, kt4, rfl, Nq4, K4, szt4, Bt4, Et4⟩ := hQ4
  have N4 := Fr.app N0 Nq4
  have O5 := O0.keep K4 all0
  have kp6 : Keep h0 h4 [a1] := (Keep.refl h0 [a1]).trans K4 all0
  have sz_t4 := Nat.le_trans (Keep.refl h0 [a1]).1 szt4
  have g_t4 : n0 ≤ t4 := Nat.le_trans (Nat.le_trans (Nat.le_of_eq O0.1.symm) O0.2.1) sz_t4
  have lt_a1_t4 : a1 < t4 := Nat.lt_of_lt_of_le lt_a1 sz_t4
  have lt_a2_t4 : a2 < t4 := Nat.lt_of_lt_of_le lt_a2 sz_t4
  have V_t4 := Bt4.1
  obtain ⟨_, T7, Lc7, X7, hQ7, st7⟩ := own_sc X4 hx hZ (y := Y_19) hown hml (tw hw 102 rfl) (tw hw 103 rfl) (ru_cf0 hw O5 ST t4 kt4 (cs.map cLo) cs.length ⟨V_t4, Bt4.2⟩ h1 hc) (tw hw 104 rfl) (tw hw 78 rfl) e4 (W := 1) (Ls := (q_31 a1 a2 cs t4)) (argsL := [(.ref t4), (vN cs.length)]) (rest := [(.ref a1)]) (lenOf pd16 rfl) (d4 hby 14 rfl)
  obtain ⟨rfl, Nq7, e7⟩ := hQ7
  have N7 := Fr.app N4 Nq7
  obtain ⟨T8, h8, X8, e8, W8, st8⟩ := putFN X7 hx hZ hown (tw hw 32 rfl) Via.refl e7 (F_c.keep K4 nin0) (E_a.keep K4) (Or.inr ⟨(tw hw 28 rfl), rfl, hnm⟩) (tw hw 13 rfl) (ty := .byte) (v' := (vL 0)) (by decide) rfl rfl (g := (mkF m 48 (q_31 a1 a2 cs t4) [(vL 0), (.ref a1)])) rfl rfl (d4 hby 15 rfl)
  have Fw8 := (F_c.keep K4 nin0).same W8
  have O9 := O5.wr W8 g_a1
  have kp10 := kp6.wr W8 (Or.inl (List.mem_of_getElem? (i := 0) rfl))
  have N8 := Fr.snoc X8 N7 g_a1
  obtain ⟨T11, h11, X11, e11, W11, st11⟩ := putF X8 hx hZ hown (host := "") (Or.inl (tw hw 31 rfl)) Via.refl e8 ((F_v.keep K4 nin0).other W8 (Or.inr (slot_ne (Or.inr (tw hw 27 rfl)) (Or.inr (tw hw 28 rfl)) (by decide) (t := (.array .byte)) (t' := .byte) (by decide) (by decide)))) ((E_a.keep K4).wr W8) (Or.inr ⟨(tw hw 27 rfl), rfl, hnm⟩) (tw hw 13 rfl) (ty := (.array .byte)) (by decide) rfl rfl (g := (mkF m 54 (q_31 a1 a2 cs t4) [(.ref t4), (.ref a1)])) rfl rfl (d4 hby 18 rfl)
  have Fw11 := ((F_v.keep K4 nin0).other W8 (Or.inr (slot_ne (Or.inr (tw hw 27 rfl)) (Or.inr (tw hw 28 rfl)) (by decide) (t := (.array .byte)) (t' := .byte) (by decide) (by decide)))).same W11
  have O12 := O9.wr W11 g_a1
  have kp13 := kp10.wr W11 (Or.inl (List.mem_of_getElem? (i := 0) rfl))
  have N11 := Fr.snoc X11 N8 g_a1
  refine own_lvV X11 hx hlk hret (d4 hby 19 rfl) (by decide) (by decide) (Ls := (q_31 a1 a2 cs t4)) (fun _ k => castTop (ef_rs_icA m a1 a2 (0 : Int32) (Int32.ofNat cs.length)) ?_) ?_
  · refine pf3 _ <| zg X2 hx (d4 hby 5 rfl) ((if0 _ _).trans (feq hG).1) <| za X2 hx (d4 hby 6 rfl) rfl rfl <| zl X2 hx (d4 hby 7 rfl) rfl <| zl X2 hx (d4 hby 8 rfl) rfl <| st4 _ <| XS.astore X4.here hx rfl (d4 hby 10 rfl) rfl rfl (l' := (q_31 a1 a2 cs t4)) rfl <| za X4 hx (d4 hby 11 rfl) rfl rfl <| XS.aload X4.here hx rfl (d4 hby 12 rfl) rfl rfl <| zl X4 hx (d4 hby 13 rfl) rfl <| st7 _ <| st8 _ <| za X8 hx (d4 hby 16 rfl) rfl rfl <| XS.aload X8.here hx rfl (d4 hby 17 rfl) rfl rfl <| st11 _ ?_
    exact k
  · rw [e11]
    exact ⟨rfl, N11, kp13, t4, _, sz_t4, Or.inl ⟨(((E_a.keep K4).wr W8).wr W11), (Fw8.other W11 (Or.inr (slot_ne (Or.inr (tw hw 28 rfl)) (Or.inr (tw hw 27 rfl)) (by decide) (t := .byte) (t' := (.array .byte)) (by decide) (by decide)))), Fw11, ⟨((V_t4.other W8 (Ne.symm (Nat.ne_of_lt lt_a1_t4))).other W11 (Ne.symm (Nat.ne_of_lt lt_a1_t4))), Bt4.2⟩, hu⟩⟩
theorem d3 : Dl cb25 [(0, .aload_n 0, 1), (1, .aload_n 1, 1), (2, .iconst 0, 1), (3, .aload_n 1, 1), (4, .arraylength, 1), (5, .aconst_null, 1), (6, .invokespecial 27, 3), (9, .return_, 1)] := dlk (by decide +kernel)
theorem pd17 : parseMethodDescriptor "([CIILjava/lang/Void;)V" = some ⟨[(.array .char), .int, .int, (.object "java/lang/Void")], none⟩ := by decide +kernel
theorem ef_rs_iA (m : MethodId) (x0 : Addr) (x1 : Addr) : entryFrame m #[(.ref x0), (.ref x1)] 2 = mkF m 0 #[.val (.ref x0), .val (.ref x1)] [] := by first | (simp [entryFrame, mkF, argsToLocals, Value.category]; done) | rfl
theorem rs_iA (a1 a2 : Addr) (kA : ClassId) (cs : List UInt16) (E_a : Exa Z h0 a1 "java/lang/String") (F_v : Fld Z h0 a1 "java/lang/String" "value" "[B" .null) (F_c : Fld Z h0 a1 "java/lang/String" "coder" "B" (vL 0)) (g_a1 : n0 ≤ a1) (C2 : Car Z h0 a2 kA cs.length cs) (hne : a1 ≠ a2) (hc : cs.length ≤ 24) (h1 : 1 ≤ cs.length) (hu : ∀ u ∈ cs, u < 256) :
    Mt (l := l) hw (ws := ws) O0 ST Y_4 jdk_42_method_3_code 2 none R_24 #[(.ref a1), (.ref a2)] (Qst Z a1 cs h0 n0) := by
  refine own_met (plainFor_of_name pn2) fun p e s m w_ meth c s₁ hx hby hml hZ hh hown hnm hret hlk X0 e0 => ?_
  have N0 := Fr.nil n0
  have lt_a1 := E_a.lt
  have V_a2 := C2.1
  have lt_a2 := V_a2.lt
  obtain ⟨cl1, Ar1, q1, Sz1, Nn1, Ha1, Gf1⟩ := id V_a2
  obtain ⟨_, T2, Lc2, X2, hQ2, st2⟩ := own_ic X0 hx hZ (y := Y_12) rfl hown hml (tw hw 18 rfl) (tw hw 19 rfl) (rs_icA hw O0 ST a1 a2 kA cs E_a F_v F_c g_a1 C2 hne hc h1 hu) (tw hw 21 rfl) (tw hw 14 rfl) e0 (W := 0) (Ls := (q_1 a1 a2)) (b := a1) (argsL := [(.ref a2), (vL 0), (vN cs.length), .null]) (rest := []) (lenOf pd17 rfl) (d3 hby 6 rfl)
  obtain ⟨h2, e2⟩ : ∃ z, T2.heap = z := ⟨_, rfl⟩
  rw [e2] at hQ2
  obtain ⟨rfl, Nq2, K2, R2⟩ := hQ2
  have N2 := Fr.app N0 Nq2
  have O3 := O0.keep K2 (allS g_a1 all0)
  have kp4 : Keep h0 h2 [a1] := (Keep.refl h0 [a1]).trans K2 (allS (Or.inl (List.mem_of_getElem? (i := 0) rfl)) all0)
  have RR := R2
  refine own_lvV X2 hx hlk hret (d3 hby 7 rfl) (by decide) (by decide) (Ls := (q_1 a1 a2)) (fun _ k => castTop (ef_rs_iA m a1 a2) ?_) ?_
  · refine za X0 hx (d3 hby 0 rfl) rfl rfl <| za X0 hx (d3 hby 1 rfl) rfl rfl <| zc X0 hx (d3 hby 2 rfl) <| za X0 hx (d3 hby 3 rfl) rfl rfl ?_
    show Go p e w_ s₁ m 4 (q_1 a1 a2) [(.ref a2), (vL 0), (.ref a2), (.ref a1)] _
    refine X0.arraylength hx (by rw [e0]; exact Ar1.1) (State.isArrayOf_alike hZ.alike Ar1.2.1) (g := (mkF m 4 (q_1 a1 a2) [(.ref a2), (vL 0), (.ref a2), (.ref a1)])) rfl rfl (d3 hby 4 rfl) _ ?_
    rw [len_of Sz1 Nn1]
    refine XS.aconstNull X0.here hx rfl (d3 hby 5 rfl) <| st2 _ ?_
    exact k
  · rw [e2]
    exact ⟨rfl, N2, kp4, RR⟩
theorem rs_icB (a1 a2 : Addr) (kA : ClassId) (cs : List UInt16) (nF : Nat) (E_a : Exa Z h0 a1 "java/lang/String") (F_v : Fld Z h0 a1 "java/lang/String" "value" "[B" .null) (F_c : Fld Z h0 a1 "java/lang/String" "coder" "B" (vL 0)) (g_a1 : n0 ≤ a1) (C2 : Car Z h0 a2 kA cs.length cs) (hne : a1 ≠ a2) (hc : cs.length ≤ 24) (h1 : 1 ≤ cs.length) (hN : nF < cs.length) (hu1 : ∀ j, j < nF → ¬ (255 : Int32) < (cv (cs.getD j 0))) (hu2 : (255 : Int32) < (cv (cs.getD nF 0))) :
    Mt (l := l) hw (ws := ws) O0 ST Y_12 jdk_42_method_149_code 6 none R_43 #[(.ref a1), (.ref a2), (vL 0), (vN cs.length), .null] (Qst Z a1 cs h0 n0) := by
  refine own_met (plainFor_of_name pn2) fun p e s m w_ meth c s₁ hx hby hml hZ hh hown hnm hret hlk X0 e0 => ?_
  have N0 := Fr.nil n0
  obtain ⟨S_cs, hG, S_fm, hF, S_ad, S_hi, S_lo⟩ := id ST
  have lt_a1 := E_a.lt
  have V_a2 := C2.1
  have lt_a2 := V_a2.lt
  obtain ⟨T1, X1, e1, st1⟩ := initO X0 hx hZ hown (tw hw 22 rfl) (tw hw 23 rfl) (tw hw 24 rfl) e0 (g := (mkF m 1 (q_22 a1 a2 cs) [(.ref a1)])) rfl (by rw [hml]; rfl) rfl (d4 hby 1 rfl) (by decide) (W := 0) (by show 2 * 0 + _ ≤ _; exact Nat.le_of_eq rfl) (by decide)
  obtain ⟨T2, X2, e2, st2⟩ := getS2 X1 hx hZ hown (host := "") (Or.inl (tw hw 51 rfl)) Via.refl e1 (S_cs.ext O0.2) (g := (mkF m 27 (q_22 a1 a2 cs) [])) rfl (d4 hby 4 rfl)
  have pf3 : ∀ target, Go p e w_ T2 m 30 (q_22 a1 a2 cs) [(.int G1)] target → Go p e w_ s₁ m 0 (q_22 a1 a2 cs) [] target := by
    intro target k
    refine za X0 hx (d4 hby 0 rfl) rfl rfl <| st1 _ <| zl X1 hx (d4 hby 2 rfl) rfl <| zf X1 hx 5 27 (d4 hby 3 rfl) ((if0 _ _).trans (feq (fun q => absurd ((own_eq (a := cs.length) (b := 0) (by omega) (by omega)).mp q) (by omega))).2) <| st2 _ ?_
    exact k
  obtain ⟨_, T4, Lc4, X4, hQ4, st4⟩ := own_sc X2 hx hZ (y := Y_38) hown hml (tw hw 76 rfl) (tw hw 77 rfl) (ru_cB hw O0 ST a2 kA cs nF ⟨V_a2, C2.2⟩ hc hN hu1 hu2) (tw hw 79 rfl) (tw hw 78 rfl) e2 (W := 0) (Ls := (q_22 a1 a2 cs)) (argsL := [(.ref a2), (vL 0), (vN cs.length)]) (rest := []) (lenOf pd15 rfl) (d4 hby 9 rfl)
  obtain ⟨h4, e4⟩ : ∃ z, T4.heap = z := ⟨_, rfl⟩
  rw [e4] at hQ4
  obtain ⟨t4, kt4, rfl, Nq4, K4, szt4, Bt4, Et4⟩ := hQ4
  have N4 := Fr.app N0 Nq4
  have O5 := O0.keep K4 all0
  have kp6 : Keep h0 h4 [a1] := (Keep.refl h0 [a1]).trans K4 all0
  have sz_t4 := Nat.le_trans (Keep.refl h0 [a1]).1 szt4
  have g_t4 : n0 ≤ t4 := Nat.le_trans (Nat.le_trans (Nat.le_of_eq O0.1.symm) O0.2.1) sz_t4
  have lt_a1_t4 : a1 < t4 := Nat.lt_of_lt_of_le lt_a1 sz_t4
  have lt_a2_t4 : a2 < t4 := Nat.lt_of_lt_of_le lt_a2 sz_t4
  have V_t4 := Bt4.1
  obtain ⟨_, T7, Lc7, X7, hQ7, st7⟩ := own_sc X4 hx hZ (y := Y_19) hown hml (tw hw 102 rfl) (tw hw 103 rfl) (ru_cf1 hw O5 ST t4 kt4 (enc1 cs) cs.length ⟨V_t4, Bt4.2⟩ h1 hc) (tw hw 104 rfl) (tw hw 78 rfl) e4 (W := 1) (Ls := (q_31 a1 a2 cs t4)) (argsL := [(.ref t4), (vN cs.length)]) (rest := [(.ref a1)]) (lenOf pd16 rfl) (d4 hby 14 rfl)
  obtain ⟨rfl, Nq7, e7⟩ := hQ7
  have N7 := Fr.app N4 Nq7
  obtain ⟨T8, h8, X8, e8, W8, st8⟩ := putFN X7 hx hZ hown (tw hw 32 rfl) Via.refl e7 (F_c.keep K4 nin0) (E_a.keep K4) (Or.inr ⟨(tw hw 28 rfl), rfl, hnm⟩) (tw hw 13 rfl) (ty := .byte) (v' := (vL 1)) (by decide) rfl rfl (g := (mkF m 48 (q_31 a1 a2 cs t4) [(vL 1), (.ref a1)])) rfl rfl (d4 hby 15 rfl)
  have Fw8 := (F_c.keep K4 nin0).same W8
  have O9 := O5.wr W8 g_a1
  have kp10 := kp6.wr W8 (Or.inl (List.mem_of_getElem? (i := 0) rfl))
  have N8 := Fr.snoc X8 N7 g_a1
  obtain ⟨T11, h11, X11, e11, W11, st11⟩ := putF X8 hx hZ hown (host := "") (Or.inl (tw hw 31 rfl)) Via.refl e8 ((F_v.keep K4 nin0).other W8 (Or.inr (slot_ne (Or.inr (tw hw 27 rfl)) (Or.inr (tw hw 28 rfl)) (by decide) (t := (.array .byte)) (t' := .byte) (by decide) (by decide)))) ((E_a.keep K4).wr W8) (Or.inr ⟨(tw hw 27 rfl), rfl, hnm⟩) (tw hw 13 rfl) (ty := (.array .byte)) (by decide) rfl rfl (g := (mkF m 54 (q_31 a1 a2 cs t4) [(.ref t4), (.ref a1)])) rfl rfl (d4 hby 18 rfl)
  have Fw11 := ((F_v.keep K4 nin0).other W8 (Or.inr (slot_ne (Or.inr (tw hw 27 rfl)) (Or.inr (tw hw 28 rfl)) (by decide) (t := (.array .byte)) (t' := .byte) (by decide) (by decide)))).same W11
  have O12 := O9.wr W11 g_a1
  have kp13 := kp10.wr W11 (Or.inl (List.mem_of_getElem? (i := 0) rfl))
  have N11 := Fr.snoc X11 N8 g_a1
  refine own_lvV X11 hx hlk hret (d4 hby 19 rfl) (by decide) (by decide) (Ls := (q_31 a1 a2 cs t4)) (fun _ k => castTop (ef_rs_icA m a1 a2 (0 : Int32) (Int32.ofNat cs.length)) ?_) ?_
  · refine pf3 _ <| zg X2 hx (d4 hby 5 rfl) ((if0 _ _).trans (feq hG).1) <| za X2 hx (d4 hby 6 rfl) rfl rfl <| zl X2 hx (d4 hby 7 rfl) rfl <| zl X2 hx (d4 hby 8 rfl) rfl <| st4 _ <| XS.astore X4.here hx rfl (d4 hby 10 rfl) rfl rfl (l' := (q_31 a1 a2 cs t4)) rfl <| za X4 hx (d4 hby 11 rfl) rfl rfl <| XS.aload X4.here hx rfl (d4 hby 12 rfl) rfl rfl <| zl X4 hx (d4 hby 13 rfl) rfl <| st7 _ <| st8 _ <| za X8 hx (d4 hby 16 rfl) rfl rfl <| XS.aload X8.here hx rfl (d4 hby 17 rfl) rfl rfl <| st11 _ ?_
    exact k
  · rw [e11]
    exact ⟨rfl, N11, kp13, t4, _, sz_t4, Or.inr ⟨⟨(((E_a.keep K4).wr W8).wr W11), (Fw8.other W11 (Or.inr (slot_ne (Or.inr (tw hw 28 rfl)) (Or.inr (tw hw 27 rfl)) (by decide) (t := .byte) (t' := (.array .byte)) (by decide) (by decide)))), Fw11, ⟨((V_t4.other W8 (Ne.symm (Nat.ne_of_lt lt_a1_t4))).other W11 (Ne.symm (Nat.ne_of_lt lt_a1_t4))), Bt4.2⟩⟩, own_wd hN hu2⟩⟩
theorem rs_iB (a1 a2 : Addr) (kA : ClassId) (cs : List UInt16) (nF : Nat) (E_a : Exa Z h0 a1 "java/lang/String") (F_v : Fld Z h0 a1 "java/lang/String" "value" "[B" .null) (F_c : Fld Z h0 a1 "java/lang/String" "coder" "B" (vL 0)) (g_a1 : n0 ≤ a1) (C2 : Car Z h0 a2 kA cs.length cs) (hne : a1 ≠ a2) (hc : cs.length ≤ 24) (h1 : 1 ≤ cs.length) (hN : nF < cs.length) (hu1 : ∀ j, j < nF → ¬ (255 : Int32) < (cv (cs.getD j 0))) (hu2 : (255 : Int32) < (cv (cs.getD nF 0))) :
    Mt (l := l) hw (ws := ws) O0 ST Y_4 jdk_42_method_3_code 2 none R_24 #[(.ref a1), (.ref a2)] (Qst Z a1 cs h0 n0) := by
  refine own_met (plainFor_of_name pn2) fun p e s m w_ meth c s₁ hx hby hml hZ hh hown hnm hret hlk X0 e0 => ?_
  have N0 := Fr.nil n0
  have lt_a1 := E_a.lt
  have V_a2 := C2.1
  have lt_a2 := V_a2.lt
  obtain ⟨cl1, Ar1, q1, Sz1, Nn1, Ha1, Gf1⟩ := id V_a2
  obtain ⟨_, T2, Lc2, X2, hQ2, st2⟩ := own_ic X0 hx hZ (y := Y_12) rfl hown hml (tw hw 18 rfl) (tw hw 19 rfl) (rs_icB hw O0 ST a1 a2 kA cs nF E_a F_v F_c g_a1 C2 hne hc h1 hN hu1 hu2) (tw hw 21 rfl) (tw hw 14 rfl) e0 (W := 0) (Ls := (q_1 a1 a2)) (b := a1) (argsL := [(.ref a2), (vL 0), (vN cs.length), .null]) (rest := []) (lenOf pd17 rfl) (d3 hby 6 rfl)
  obtain ⟨h2, e2⟩ : ∃ z, T2.heap = z := ⟨_, rfl⟩
  rw [e2] at hQ2
  obtain ⟨rfl, Nq2, K2, R2⟩ := hQ2
  have N2 := Fr.app N0 Nq2
  have O3 := O0.keep K2 (allS g_a1 all0)
  have kp4 : Keep h0 h2 [a1] := (Keep.refl h0 [a1]).trans K2 (allS (Or.inl (List.mem_of_getElem? (i := 0) rfl)) all0)
  have RR := R2
  refine own_lvV X2 hx hlk hret (d3 hby 7 rfl) (by decide) (by decide) (Ls := (q_1 a1 a2)) (fun _ k => castTop (ef_rs_iA m a1 a2) ?_) ?_
  · refine za X0 hx (d3 hby 0 rfl) rfl rfl <| za X0 hx (d3 hby 1 rfl) rfl rfl <| zc X0 hx (d3 hby 2 rfl) <| za X0 hx (d3 hby 3 rfl) rfl rfl ?_
    show Go p e w_ s₁ m 4 (q_1 a1 a2) [(.ref a2), (vL 0), (.ref a2), (.ref a1)] _
    refine X0.arraylength hx (by rw [e0]; exact Ar1.1) (State.isArrayOf_alike hZ.alike Ar1.2.1) (g := (mkF m 4 (q_1 a1 a2) [(.ref a2), (vL 0), (.ref a2), (.ref a1)])) rfl rfl (d3 hby 4 rfl) _ ?_
    rw [len_of Sz1 Nn1]
    refine XS.aconstNull X0.here hx rfl (d3 hby 5 rfl) <| st2 _ ?_
    exact k
  · rw [e2]
    exact ⟨rfl, N2, kp4, RR⟩
def Sb0 (Z : State) (h : Heap) (a b : Addr) (k : ClassId) (LB n : Nat) (cs : List UInt16) : Prop := Exa Z h a "java/lang/StringBuilder" ∧ Fld Z h a "java/lang/AbstractStringBuilder" "value" "[B" (.ref b) ∧ Fld Z h a "java/lang/AbstractStringBuilder" "coder" "B" (.int (0 : Int32)) ∧ Fld Z h a "java/lang/AbstractStringBuilder" "count" "I" (.int (Int32.ofNat n)) ∧ Fld Z h a "java/lang/AbstractStringBuilder" "maybeLatin1" "Z" (.int (0 : Int32)) ∧ Exa Z h b "[B" ∧ (∀ u ∈ cs, u < 256) ∧ LB ≤ 55 ∧ ∃ tl, Bar Z h b k LB (cs.map cLo ++ tl)
def Sb1 (Z : State) (h : Heap) (a b : Addr) (k : ClassId) (LB n : Nat) (cs : List UInt16) : Prop := Exa Z h a "java/lang/StringBuilder" ∧ Fld Z h a "java/lang/AbstractStringBuilder" "value" "[B" (.ref b) ∧ Fld Z h a "java/lang/AbstractStringBuilder" "coder" "B" (.int (1 : Int32)) ∧ Fld Z h a "java/lang/AbstractStringBuilder" "count" "I" (.int (Int32.ofNat n)) ∧ Fld Z h a "java/lang/AbstractStringBuilder" "maybeLatin1" "Z" (.int (0 : Int32)) ∧ Exa Z h b "[B" ∧ LB ≤ 110 ∧ ∃ tl, Bar Z h b k LB (enc1 cs ++ tl)
def Qsb (P : Heap → Addr → ClassId → Nat → Prop) (a : Addr) (h0 : Heap) (n0 : Nat) (v : Option Value) (h : Heap) (Lc : List Loc) : Prop := v = none ∧ Fr n0 Lc ∧ Keep h0 h [a] ∧ ∃ (b : Addr) (k : ClassId) (LB : Nat), h0.size ≤ b ∧ P h b k LB
def Qsv (P : Heap → Addr → ClassId → Nat → Prop) (r : Option Value) (a b0 : Addr) (h0 : Heap) (n0 : Nat) (v : Option Value) (h : Heap) (Lc : List Loc) : Prop := v = r ∧ Fr n0 Lc ∧ Keep h0 h [a, b0] ∧ ∃ (b : Addr) (k : ClassId) (LB : Nat), (b = b0 ∨ h0.size ≤ b) ∧ P h b k LB
theorem own_ov (A X tl : List Int32) : (A ++ tl).take A.length ++ X ++ (A ++ tl).drop (A.length + X.length) = (A ++ X) ++ tl.drop X.length := by
  rw [List.take_left, List.drop_append]
  simp
theorem own_cpy {lst src : List Int32} {i n : Nat} (h : src.length = n) : (lst.map Value.int).take i ++ ((src.drop 0).take n).map Value.int ++ (lst.map Value.int).drop (i + n) = (lst.take i ++ src ++ lst.drop (i + n)).map Value.int := by
  subst h
  rw [List.drop_zero, List.take_length, List.map_append, List.map_append, List.map_take, List.map_drop]
theorem own_pinf {cs : List UInt16} {m : Nat} (h : 2 * cs.length ≤ m) : puts (List.replicate m 0) 0 cs = enc1 cs ++ (List.replicate m (0 : Int32)).drop (2 * cs.length) := by
  rw [puts_eq _ _ _ (by simpa using h)]; simp
theorem own_grow {vs : List Int32} {n : Nat} (h : vs.length ≤ n) : (List.replicate n (0 : Int32)).take 0 ++ vs ++ (List.replicate n (0 : Int32)).drop (0 + vs.length) = vs ++ List.replicate (n - vs.length) 0 := by simp
theorem own_subpos {a b : Nat} (ha : a < 2147483648) (hb : b < 2147483648) : (0 : Int32) < Int32.ofNat a - Int32.ofNat b ↔ b < a := by
  rcases Nat.lt_or_ge b a with h | h
  · rw [own_sub (Nat.le_of_lt h)]
    exact ⟨fun _ => h, fun _ => (own_lt (a := 0) (b := a - b) (by decide) (by omega)).mpr (by omega)⟩
  · refine ⟨fun q => ?_, fun q => absurd q (by omega)⟩
    exfalso
    rw [Int32.lt_iff_toInt_lt, Int32.toInt_sub, own_toInt ha, own_toInt hb] at q
    have : ((a : Int) - b).bmod (2 ^ 32) = a - b := by
      rw [Int.bmod_eq_of_le] <;> omega
    rw [this] at q
    have z : (0 : Int32).toInt = 0 := rfl
    omega
theorem d71 : Dl cb26 [(0, .iload_n 0, 1), (1, .iload_n 1, 1), (2, .if_icmp .lt 7, 3), (9, .iload_n 1, 1), (10, .ireturn, 1), (5, .iload_n 0, 1), (6, .goto 4, 3)] := dlk (by decide +kernel)
theorem pf_rm_max : plainFor Y_55 = true := Jvm.Free.JP.mathPlain rfl (by decide +kernel)
theorem rm_max (i1 i2 : Nat) (hi1 : i1 ≤ 440) (hi2 : i2 ≤ 440) :
    Mt (l := l) hw (ws := ws) O0 ST Y_55 jdk_29_method_65_code 2 (some .int) R_0 #[(vN i1), (vN i2)] (Qpure (some (vN (max i1 i2))) h0 n0) := by
  refine own_met pf_rm_max fun p e s m w_ meth c s₁ hx hby hml hZ hh hown hnm hret hlk X0 e0 => ?_
  have N0 := Fr.nil n0
  by_cases hc2 : (Int32.ofNat i1) < (Int32.ofNat i2)
  · refine own_lvI X0 hx hlk hret (d71 hby 4 rfl) (by decide) (by decide) (z := (Int32.ofNat i2)) (Ls := (q_46 i1 i2)) (rest := []) (fun _ k => castTop (ef_rs_ci m (Int32.ofNat i1) (Int32.ofNat i2)) ?_) ?_
    · refine zl X0 hx (d71 hby 0 rfl) rfl <| zl X0 hx (d71 hby 1 rfl) rfl <| zy X0 hx 2 9 (d71 hby 2 rfl) (tlt hc2).1 <| zl X0 hx (d71 hby 3 rfl) rfl ?_
      exact k
    · rw [e0]
      exact ⟨by rw [show max i1 i2 = i2 by have q : i1 < i2 := (own_lt (a := i1) (b := i2) (by omega) (by omega)).mp hc2; omega], N0, rfl⟩
  · refine own_lvI X0 hx hlk hret (d71 hby 4 rfl) (by decide) (by decide) (z := (Int32.ofNat i1)) (Ls := (q_46 i1 i2)) (rest := []) (fun _ k => castTop (ef_rs_ci m (Int32.ofNat i1) (Int32.ofNat i2)) ?_) ?_
    · refine zl X0 hx (d71 hby 0 rfl) rfl <| zl X0 hx (d71 hby 1 rfl) rfl <| zn X0 hx (d71 hby 2 rfl) (flt hc2).1 <| zl X0 hx (d71 hby 5 rfl) rfl <| zo X0 hx 6 10 (d71 hby 6 rfl) ?_
      exact k
    · rw [e0]
      exact ⟨by rw [show max i1 i2 = i1 by have q : ¬ i1 < i2 := fun z => hc2 ((own_lt (a := i1) (b := i2) (by omega) (by omega)).mpr z); omega], N0, rfl⟩
theorem d47 : Dl cb27 [(0, .iload_n 0, 1), (1, .iload_n 1, 1), (2, .if_icmp .gt 7, 3), (5, .iload_n 0, 1), (6, .goto 4, 3), (10, .ireturn, 1), (9, .iload_n 1, 1)] := dlk (by decide +kernel)
theorem pf_rm_minA : plainFor Y_20 = true := Jvm.Free.JP.mathPlain rfl (by decide +kernel)
theorem rm_minA (i1 i2 : Nat) (hi1 : i1 ≤ 440) (hi2 : i2 ≤ 440) (hle : i1 ≤ i2) :
    Mt (l := l) hw (ws := ws) O0 ST Y_20 jdk_29_method_69_code 2 (some .int) R_0 #[(vN i1), (vN i2)] (Qpure (some (vN i1)) h0 n0) := by
  refine own_met pf_rm_minA fun p e s m w_ meth c s₁ hx hby hml hZ hh hown hnm hret hlk X0 e0 => ?_
  have N0 := Fr.nil n0
  refine own_lvI X0 hx hlk hret (d47 hby 5 rfl) (by decide) (by decide) (z := (Int32.ofNat i1)) (Ls := (q_46 i1 i2)) (rest := []) (fun _ k => castTop (ef_rs_ci m (Int32.ofNat i1) (Int32.ofNat i2)) ?_) ?_
  · refine zl X0 hx (d47 hby 0 rfl) rfl <| zl X0 hx (d47 hby 1 rfl) rfl <| zn X0 hx (d47 hby 2 rfl) (flt (fun q => absurd ((own_lt (a := i2) (b := i1) (by omega) (by omega)).mp q) (by omega))).2.2.1 <| zl X0 hx (d47 hby 3 rfl) rfl <| zo X0 hx 6 10 (d47 hby 4 rfl) ?_
    exact k
  · rw [e0]
    exact ⟨rfl, N0, rfl⟩
theorem pf_rm_minB : plainFor Y_20 = true := Jvm.Free.JP.mathPlain rfl (by decide +kernel)
theorem rm_minB (i1 i2 : Nat) (hi1 : i1 ≤ 440) (hi2 : i2 ≤ 440) (hle : i2 < i1) :
    Mt (l := l) hw (ws := ws) O0 ST Y_20 jdk_29_method_69_code 2 (some .int) R_0 #[(vN i1), (vN i2)] (Qpure (some (vN i2)) h0 n0) := by
  refine own_met pf_rm_minB fun p e s m w_ meth c s₁ hx hby hml hZ hh hown hnm hret hlk X0 e0 => ?_
  have N0 := Fr.nil n0
  refine own_lvI X0 hx hlk hret (d47 hby 5 rfl) (by decide) (by decide) (z := (Int32.ofNat i2)) (Ls := (q_46 i1 i2)) (rest := []) (fun _ k => castTop (ef_rs_ci m (Int32.ofNat i1) (Int32.ofNat i2)) ?_) ?_
  · refine zl X0 hx (d47 hby 0 rfl) rfl <| zl X0 hx (d47 hby 1 rfl) rfl <| zy X0 hx 2 9 (d47 hby 2 rfl) (tlt ((own_lt (a := i2) (b := i1) (by omega) (by omega)).mpr (by omega))).2.2.1 <| zl X0 hx (d47 hby 6 rfl) rfl ?_
    exact k
  · rw [e0]
    exact ⟨rfl, N0, rfl⟩
theorem pn4 : plainName "jdk/internal/util/ArraysSupport" = true := by first | (simp [plainName, overriddenIn]; done) | decide +kernel
theorem d70 : Dl cb28 [(0, .iload_n 0, 1), (1, .iload_n 1, 1), (2, .iload_n 2, 1), (3, .invokestatic 194, 3), (6, .iadd, 1), (7, .istore_n 3, 1), (8, .iconst 0, 1), (9, .iload_n 3, 1), (10, .if_icmp .ge 11, 3), (13, .iload_n 3, 1), (14, .ldc 200, 2), (16, .if_icmp .gt 5, 3), (19, .iload_n 3, 1), (20, .ireturn, 1)] := dlk (by decide +kernel)
theorem pd18 : parseMethodDescriptor "(II)I" = some ⟨[.int, .int], some .int⟩ := by decide +kernel
theorem ef_rv_nl (m : MethodId) (x0 : Int32) (x1 : Int32) (x2 : Int32) : entryFrame m #[(.int x0), (.int x1), (.int x2)] 4 = mkF m 0 #[.val (.int x0), .val (.int x1), .val (.int x2), .unset] [] := by first | (simp [entryFrame, mkF, argsToLocals, Value.category]; done) | rfl
theorem rv_nl (i1 i2 i3 : Nat) (hi1 : i1 ≤ 110) (hi2 : i2 ≤ 110) (hi3 : i3 ≤ 220) (hp : 1 ≤ i3) :
    Mt (l := l) hw (ws := ws) O0 ST Y_56 jdk_48_method_27_code 4 (some .int) R_7 #[(vN i1), (vN i2), (vN i3)] (Qpure (some (vN (i1 + max i2 i3))) h0 n0) := by
  refine own_met (plainFor_of_name pn4) fun p e s m w_ meth c s₁ hx hby hml hZ hh hown hnm hret hlk X0 e0 => ?_
  have N0 := Fr.nil n0
  obtain ⟨_, T1, Lc1, X1, hQ1, st1⟩ := own_sc X0 hx hZ (y := Y_55) hown hml (tw hw 330 rfl) (tw hw 331 rfl) (rm_max hw O0 ST i2 i3 (by omega) (by omega)) (tw hw 332 rfl) (tw hw 207 rfl) e0 (W := 1) (Ls := (q_89 i1 i2 i3)) (argsL := [(vN i2), (vN i3)]) (rest := [(vN i1)]) (lenOf pd18 rfl) (d70 hby 3 rfl)
  obtain ⟨rfl, Nq1, e1⟩ := hQ1
  have N1 := Fr.app N0 Nq1
  have pf2 : ∀ target, Go p e w_ T1 m 10 (q_90 i1 i2 i3) [(vN (i1 + max i2 i3)), (vL 0)] target → Go p e w_ s₁ m 0 (q_89 i1 i2 i3) [] target := by
    intro target k
    refine zl X0 hx (d70 hby 0 rfl) rfl <| zl X0 hx (d70 hby 1 rfl) rfl <| zl X0 hx (d70 hby 2 rfl) rfl <| st1 _ <| XS.iadd X1.here hx rfl (d70 hby 4 rfl) rfl ?_
    show Go p e w_ T1 m 7 (q_89 i1 i2 i3) [(.int ((Int32.ofNat i1) + (Int32.ofNat (max i2 i3))))] _
    rw [show ((Int32.ofNat i1) + (Int32.ofNat (max i2 i3))) = (Int32.ofNat (i1 + max i2 i3)) from own_add i1 (max i2 i3)]
    refine zs X1 hx (d70 hby 5 rfl) (Ls' := (q_90 i1 i2 i3)) rfl <| zc X1 hx (d70 hby 6 rfl) <| zl X1 hx (d70 hby 7 rfl) rfl ?_
    exact k
  refine own_lvI X1 hx hlk hret (d70 hby 13 rfl) (by decide) (by decide) (z := (Int32.ofNat (i1 + max i2 i3))) (Ls := (q_90 i1 i2 i3)) (rest := []) (fun _ k => castTop (ef_rv_nl m (Int32.ofNat i1) (Int32.ofNat i2) (Int32.ofNat i3)) ?_) ?_
  · refine pf2 _ <| zn X1 hx (d70 hby 8 rfl) (tlt ((own_lt (a := 0) (b := i1 + max i2 i3) (by omega) (by omega)).mpr (by omega))).2.1 <| zl X1 hx (d70 hby 9 rfl) rfl ?_
    show Go p e w_ T1 m 14 (q_90 i1 i2 i3) [(vN (i1 + max i2 i3))] _
    refine X1.ldcInt hx hown (mvT hZ (tw hw 333 rfl)) (g := (mkF m 14 (q_90 i1 i2 i3) [(vN (i1 + max i2 i3))])) rfl (d70 hby 10 rfl) _ <| zn X1 hx (d70 hby 11 rfl) (flt (fun q => absurd ((own_lt (a := 2147483639) (b := i1 + max i2 i3) (by omega) (by omega)).mp q) (by omega))).2.2.1 <| zl X1 hx (d70 hby 12 rfl) rfl ?_
    exact k
  · rw [e1]
    exact ⟨rfl, N1, rfl⟩
theorem pn5 : plainName "java/util/Arrays" = true := by first | (simp [plainName, overriddenIn]; done) | decide +kernel
theorem d72 : Dl cb29 [(0, .iload_n 1, 1), (1, .aload_n 0, 1), (2, .arraylength, 1), (3, .if_icmp .ne 11, 3), (14, .iload_n 1, 1), (15, .newarray .byte, 2), (17, .astore_n 2, 1), (18, .aload_n 0, 1), (19, .iconst 0, 1), (20, .aload_n 2, 1), (21, .iconst 0, 1), (22, .aload_n 0, 1), (23, .arraylength, 1), (24, .iload_n 1, 1), (25, .invokestatic 304, 3), (28, .invokestatic 150, 3), (31, .aload_n 2, 1), (32, .areturn, 1)] := dlk (by decide +kernel)
theorem ef_ra_co (m : MethodId) (x0 : Addr) (x1 : Int32) : entryFrame m #[(.ref x0), (.int x1)] 3 = mkF m 0 #[.val (.ref x0), .val (.int x1), .unset] [] := by first | (simp [entryFrame, mkF, argsToLocals, Value.category]; done) | rfl
theorem ra_co (a1 : Addr) (kA : ClassId) (LA : Nat) (vs : List Int32) (i1 : Nat) (B1 : Bar Z h0 a1 kA LA vs) (hB : LA ≤ 110) (hi : LA < i1) (hi2 : i1 ≤ 110) :
    Mt (l := l) hw (ws := ws) O0 ST Y_57 jdk_65_method_121_code 3 (some (.array .byte)) R_30 #[(.ref a1), (vN i1)] (Qar Z i1 (vs ++ List.replicate (i1 - LA) 0) h0 n0) := by
  refine own_met (plainFor_of_name pn5) fun p e s m w_ meth c s₁ hx hby hml hZ hh hown hnm hret hlk X0 e0 => ?_
  have N0 := Fr.nil n0
  have V_a1 := B1.1
  have l_a1 := B1.2
  have hN_a1 : (Int32.ofNat LA).toNatClampNeg = vs.length := by rw [l_a1]; exact own_n (by omega)
  have lt_a1 := V_a1.lt
  obtain ⟨cl1, Ar1, q1, Sz1, Nn1, Ha1, Gf1⟩ := id V_a1
  obtain ⟨T2, h2, k2, X2, e2, E2, A2, Ea2, st2⟩ := newPE X0 hx hZ (tw hw 26 rfl) e0 (g := (mkF m 15 (q_14 a1 i1) [(vN i1)])) rfl (d72 hby 5 rfl) rfl (own_nn (n := i1) (by omega)) (cap := 110) (by rw [own_n (n := i1) (by omega)]; omega) (by decide) (by decide) (by decide) (ad := "[B") (by decide)
  obtain ⟨b2, g2⟩ : ∃ z, z = h0.size := ⟨_, rfl⟩
  rw [← g2] at A2 Ea2 st2
  have g_b2 : n0 ≤ b2 := by rw [g2]; exact Nat.le_trans (Nat.le_of_eq O0.1.symm) O0.2.1
  have sz_b2 : h0.size ≤ b2 := by rw [g2]; exact (Keep.refl h0 []).1
  have lt_a1_b2 : a1 < b2 := Nat.lt_of_lt_of_le lt_a1 sz_b2
  have O3 := O0.ext E2
  have kp4 : Keep h0 h2 [] := (Keep.refl h0 []).ext E2
  have V_b2 : Arv Z h2 b2 k2 .byte (Int32.ofNat i1) ((List.replicate i1 (0 : Int32)).map Value.int) (vL 0) := by rw [List.map_replicate]; exact (Arv.new A2 (own_nn (n := i1) (by omega))).pad (pad_rep [] (vL 0) i1)
  have hN_b2 : ((Int32.ofNat i1)).toNatClampNeg = (List.replicate i1 (0 : Int32)).length := by rw [List.length_replicate]; exact own_n (n := i1) (by omega)
  obtain ⟨cl5, Ar5, q5, Sz5, Nn5, Ha5, Gf5⟩ := id (V_a1.ext E2)
  obtain ⟨_, T6, Lc6, X6, hQ6, st6⟩ := own_sc X2 hx hZ (y := Y_20) hown hml (tw hw 205 rfl) (tw hw 206 rfl) (rm_minA hw O3 ST LA i1 (by omega) (by omega) (by omega)) (tw hw 208 rfl) (tw hw 207 rfl) e2 (W := 4) (Ls := (q_65 a1 i1 b2)) (argsL := [(vN LA), (vN i1)]) (rest := [(vL 0), (.ref b2), (vL 0), (.ref a1)]) (lenOf pd18 rfl) (d72 hby 14 rfl)
  obtain ⟨rfl, Nq6, e6⟩ := hQ6
  have N6 := Fr.app N0 Nq6
  obtain ⟨T7, h7, L7, X7, e7, N7, K7, Vr7, st7⟩ := cpA X6 hx hZ hown (tw hw 209 rfl) (tw hw 212 rfl) (tw hw 210 rfl) (tw hw 211 rfl) e6 (V_a1.ext E2) V_b2 (Or.inl ⟨rfl, rfl⟩) (sp := (0 : Int32)) (dp := (0 : Int32)) (nn := (Int32.ofNat LA)) (us := (((vs.drop 0).take LA).map Value.int)) (by decide) (by decide) (own_nn (n := LA) (by omega)) (by rw [own_n (n := LA) (by omega), show (0 : Int32).toNatClampNeg = 0 by decide]; omega) (by rw [own_n (n := LA) (by omega), own_n (n := i1) (by omega), show (0 : Int32).toNatClampNeg = 0 by decide]; omega) (own_us (by decide) (own_n (n := LA) (by omega)) (by omega)) (by rw [List.length_map, List.length_replicate, own_n (n := LA) (by omega), show (0 : Int32).toNatClampNeg = 0 by decide]; omega) N6 g_b2 (g := (mkF m 28 (q_65 a1 i1 b2) [(vN LA), (vL 0), (.ref b2), (vL 0), (.ref a1)])) rfl (by rw [hml]; rfl) rfl (d72 hby 15 rfl) (by decide) (W := 0) (by show 2 * 0 + _ ≤ _; exact Nat.le_of_eq rfl) (by decide)
  have O8 := O3.keep K7 (allS g_b2 all0)
  have kp9 := kp4.trans K7 (allS (Or.inr sz_b2) all0)
  have Vc7 : Arv Z h7 b2 k2 .byte (Int32.ofNat i1) ((vs ++ List.replicate (i1 - LA) 0).map Value.int) (vL 0) := by
    have q := Vr7
    rw [own_n (n := LA) (by omega), show (0 : Int32).toNatClampNeg = 0 by decide, own_cpy l_a1] at q
    subst l_a1
    rw [own_grow (by omega)] at q; exact q
  refine own_lvA X7 hx hlk hret rfl (d72 hby 17 rfl) (by decide) (by decide) (w := (.ref b2)) rfl (Ls := (q_65 a1 i1 b2)) (rest := []) (fun _ k => castTop (ef_ra_co m a1 (Int32.ofNat i1)) ?_) ?_
  · refine zl X0 hx (d72 hby 0 rfl) rfl <| za X0 hx (d72 hby 1 rfl) rfl rfl ?_
    show Go p e w_ s₁ m 2 (q_14 a1 i1) [(.ref a1), (vN i1)] _
    refine X0.arraylength hx (by rw [e0]; exact Ar1.1) (State.isArrayOf_alike hZ.alike Ar1.2.1) (g := (mkF m 2 (q_14 a1 i1) [(.ref a1), (vN i1)])) rfl rfl (d72 hby 2 rfl) _ ?_
    rw [len_of Sz1 Nn1]
    refine zy X0 hx 3 14 (d72 hby 3 rfl) (feq (fun q => absurd ((own_eq (a := i1) (b := LA) (by omega) (by omega)).mp q) (by omega))).2 <| zl X0 hx (d72 hby 4 rfl) rfl <| st2 _ <| XS.astoreN X2.here hx rfl (d72 hby 6 rfl) rfl rfl (l' := (q_65 a1 i1 b2)) rfl <| za X2 hx (d72 hby 7 rfl) rfl rfl <| zc X2 hx (d72 hby 8 rfl) <| za X2 hx (d72 hby 9 rfl) rfl rfl <| zc X2 hx (d72 hby 10 rfl) <| za X2 hx (d72 hby 11 rfl) rfl rfl ?_
    show Go p e w_ T2 m 23 (q_65 a1 i1 b2) [(.ref a1), (vL 0), (.ref b2), (vL 0), (.ref a1)] _
    refine X2.arraylength hx (by rw [e2]; exact Ar5.1) (State.isArrayOf_alike hZ.alike Ar5.2.1) (g := (mkF m 23 (q_65 a1 i1 b2) [(.ref a1), (vL 0), (.ref b2), (vL 0), (.ref a1)])) rfl rfl (d72 hby 12 rfl) _ ?_
    rw [len_of Sz5 Nn5]
    refine zl X2 hx (d72 hby 13 rfl) rfl <| st6 _ <| st7 _ <| za X7 hx (d72 hby 16 rfl) rfl rfl ?_
    exact k
  · rw [e7]
    exact ⟨b2, _, rfl, N7, kp9, sz_b2, ⟨Vc7, by rw [List.length_append, List.length_replicate]; omega⟩, (Ea2.keep K7)⟩
theorem pn6 : plainName "java/lang/AbstractStringBuilder" = true := by first | (simp [plainName, overriddenIn]; done) | decide +kernel
theorem d60 : Dl cb30 [(0, .getstatic 18, 3), (3, .ifCond .eq 14, 3), (6, .aload_n 0, 1), (7, .getfield 22, 3), (10, .ifCond .ne 7, 3), (13, .iconst 1, 1), (14, .goto 4, 3), (18, .ireturn, 1), (17, .iconst 0, 1)] := dlk (by decide +kernel)
theorem rb_il0 (a1 bA : Addr) (kA : ClassId) (LB nn : Nat) (cs : List UInt16) (HB : Sb0 Z h0 a1 bA kA LB nn cs) (hnn : nn ≤ 24) :
    Mt (l := l) hw (ws := ws) O0 ST Y_3 jdk_68_method_68_code 1 (some .boolean) R_0 #[(.ref a1)] (Qpure (some (vL 1)) h0 n0) := by
  refine own_met (plainFor_of_name pn6) fun p e s m w_ meth c s₁ hx hby hml hZ hh hown hnm hret hlk X0 e0 => ?_
  have N0 := Fr.nil n0
  obtain ⟨S_cs, hG, S_fm, hF, S_ad, S_hi, S_lo⟩ := id ST
  obtain ⟨Es, Fv, Fc, Fn, Fy, Eb, hu, hL, tl, Bs⟩ := id HB
  have Vs := Bs.1
  have ls := Bs.2
  have hNs : (Int32.ofNat LB).toNatClampNeg = (cs.map cLo ++ tl).length := by rw [ls]; exact own_n (by omega)
  have lq : cs.length + tl.length = LB := by rw [← ls]; simp only [List.length_append, List.length_map, enc1_len]
  have lt_a1 := Es.lt
  have lt_bA := Vs.lt
  have n_ab : a1 ≠ bA := Exa.neArv Es Vs (tw hw 122 rfl)
  obtain ⟨T1, X1, e1, st1⟩ := getS2 X0 hx hZ hown (host := "") (Or.inl (tw hw 267 rfl)) Via.refl e0 (S_cs.ext O0.2) (g := (mkF m 0 (q_0 a1) [])) rfl (d60 hby 0 rfl)
  obtain ⟨T2, X2, e2, st2⟩ := getF X1 hx hZ hown (host := "") (Or.inl (tw hw 231 rfl)) Via.refl e1 Fc (g := (mkF m 7 (q_0 a1) [(.ref a1)])) rfl rfl (d60 hby 3 rfl)
  refine own_lvN X2 hx hlk hret (by simp) (d60 hby 7 rfl) (by decide) (by decide) (z := (1 : Int32)) rfl (Ls := (q_0 a1)) (rest := []) (fun _ k => castTop (ef_ru_len m a1) ?_) ?_
  · refine st1 _ <| zg X1 hx (d60 hby 1 rfl) ((if0 _ _).trans (feq hG).1) <| za X1 hx (d60 hby 2 rfl) rfl rfl <| st2 _ <| zg X2 hx (d60 hby 4 rfl) ((if0 _ _).trans (teq (by decide)).2) <| zc X2 hx (d60 hby 5 rfl) <| zo X2 hx 14 18 (d60 hby 6 rfl) ?_
    exact k
  · rw [e2]
    exact ⟨rfl, N0, rfl⟩
theorem d76 : Dl cb31 [(0, .aload_n 0, 1), (1, .getfield 15, 3), (4, .areturn, 1)] := dlk (by decide +kernel)
theorem rb_gv0 (a1 bA : Addr) (kA : ClassId) (LB nn : Nat) (cs : List UInt16) (HB : Sb0 Z h0 a1 bA kA LB nn cs) (hnn : nn ≤ 24) :
    Mt (l := l) hw (ws := ws) O0 ST Y_21 jdk_68_method_64_code 1 (some (.array .byte)) R_0 #[(.ref a1)] (Qpure (some (.ref bA)) h0 n0) := by
  refine own_met (plainFor_of_name pn6) fun p e s m w_ meth c s₁ hx hby hml hZ hh hown hnm hret hlk X0 e0 => ?_
  have N0 := Fr.nil n0
  obtain ⟨Es, Fv, Fc, Fn, Fy, Eb, hu, hL, tl, Bs⟩ := id HB
  have Vs := Bs.1
  have ls := Bs.2
  have hNs : (Int32.ofNat LB).toNatClampNeg = (cs.map cLo ++ tl).length := by rw [ls]; exact own_n (by omega)
  have lq : cs.length + tl.length = LB := by rw [← ls]; simp only [List.length_append, List.length_map, enc1_len]
  have lt_a1 := Es.lt
  have lt_bA := Vs.lt
  have n_ab : a1 ≠ bA := Exa.neArv Es Vs (tw hw 122 rfl)
  obtain ⟨T1, X1, e1, st1⟩ := getF X0 hx hZ hown (host := "") (Or.inl (tw hw 234 rfl)) Via.refl e0 Fv (g := (mkF m 1 (q_0 a1) [(.ref a1)])) rfl rfl (d76 hby 1 rfl)
  refine own_lvA X1 hx hlk hret rfl (d76 hby 2 rfl) (by decide) (by decide) (w := (.ref bA)) rfl (Ls := (q_0 a1)) (rest := []) (fun _ k => castTop (ef_ru_len m a1) ?_) ?_
  · refine za X0 hx (d76 hby 0 rfl) rfl rfl <| st1 _ ?_
    exact k
  · rw [e1]
    exact ⟨rfl, N0, rfl⟩
theorem d78 : Dl cb32 [(0, .aload_n 0, 1), (1, .getfield 79, 3), (4, .ireturn, 1)] := dlk (by decide +kernel)
theorem rb_al0 (a1 bA : Addr) (kA : ClassId) (LB nn : Nat) (cs : List UInt16) (HB : Sb0 Z h0 a1 bA kA LB nn cs) (hnn : nn ≤ 24) :
    Mt (l := l) hw (ws := ws) O0 ST Y_22 jdk_68_method_6_code 1 (some .int) R_0 #[(.ref a1)] (Qpure (some (vN nn)) h0 n0) := by
  refine own_met (plainFor_of_name pn6) fun p e s m w_ meth c s₁ hx hby hml hZ hh hown hnm hret hlk X0 e0 => ?_
  have N0 := Fr.nil n0
  obtain ⟨Es, Fv, Fc, Fn, Fy, Eb, hu, hL, tl, Bs⟩ := id HB
  have Vs := Bs.1
  have ls := Bs.2
  have hNs : (Int32.ofNat LB).toNatClampNeg = (cs.map cLo ++ tl).length := by rw [ls]; exact own_n (by omega)
  have lq : cs.length + tl.length = LB := by rw [← ls]; simp only [List.length_append, List.length_map, enc1_len]
  have lt_a1 := Es.lt
  have lt_bA := Vs.lt
  have n_ab : a1 ≠ bA := Exa.neArv Es Vs (tw hw 122 rfl)
  obtain ⟨T1, X1, e1, st1⟩ := getF X0 hx hZ hown (host := "") (Or.inl (tw hw 250 rfl)) Via.refl e0 Fn (g := (mkF m 1 (q_0 a1) [(.ref a1)])) rfl rfl (d78 hby 1 rfl)
  refine own_lvI X1 hx hlk hret (d78 hby 2 rfl) (by decide) (by decide) (z := (Int32.ofNat nn)) (Ls := (q_0 a1)) (rest := []) (fun _ k => castTop (ef_ru_len m a1) ?_) ?_
  · refine za X0 hx (d78 hby 0 rfl) rfl rfl <| st1 _ ?_
    exact k
  · rw [e1]
    exact ⟨rfl, N0, rfl⟩
theorem pn7 : plainName "java/lang/StringBuilder" = true := by first | (simp [plainName, overriddenIn]; done) | decide +kernel
theorem d77 : Dl cb33 [(0, .aload_n 0, 1), (1, .invokespecial 343, 3), (4, .ireturn, 1)] := dlk (by decide +kernel)
theorem pd19 : parseMethodDescriptor "()I" = some ⟨[], some .int⟩ := by decide +kernel
theorem rb_len0 (a1 bA : Addr) (kA : ClassId) (LB nn : Nat) (cs : List UInt16) (HB : Sb0 Z h0 a1 bA kA LB nn cs) (hnn : nn ≤ 24) :
    Mt (l := l) hw (ws := ws) O0 ST Y_39 jdk_67_method_93_code 1 (some .int) R_5 #[(.ref a1)] (Qpure (some (vN nn)) h0 n0) := by
  refine own_met (plainFor_of_name pn7) fun p e s m w_ meth c s₁ hx hby hml hZ hh hown hnm hret hlk X0 e0 => ?_
  have N0 := Fr.nil n0
  obtain ⟨Es, Fv, Fc, Fn, Fy, Eb, hu, hL, tl, Bs⟩ := id HB
  have Vs := Bs.1
  have ls := Bs.2
  have hNs : (Int32.ofNat LB).toNatClampNeg = (cs.map cLo ++ tl).length := by rw [ls]; exact own_n (by omega)
  have lq : cs.length + tl.length = LB := by rw [← ls]; simp only [List.length_append, List.length_map, enc1_len]
  have lt_a1 := Es.lt
  have lt_bA := Vs.lt
  have n_ab : a1 ≠ bA := Exa.neArv Es Vs (tw hw 122 rfl)
  obtain ⟨_, _, ⟨T1, L1, k1, n1⟩, -, X1, ⟨Lc1, hQ1, l1, y1, z1⟩, st1⟩ := Jvm.RoadKit.superBack X0 hx hZ (y := Y_22) (K := "java/lang/AbstractStringBuilder") hown (tw hw 361 rfl) (own_same (C := "java/lang/StringBuilder") (tw hw 356 rfl) (tw hw 287 rfl)) (tw hw 357 rfl) (tw hw 248 rfl) (by decide) (backOf (W := 0) (rb_al0 hw O0 ST a1 bA kA LB nn cs HB hnn) hZ (tw hw 362 rfl) (tw hw 225 rfl) (by decide) (by decide)) e0 (Ins.of_exa Es (tw hw 224 rfl)) (g := (mkF m 1 (q_0 a1) [(.ref a1)])) rfl (by rw [hml]; rfl) (tw hw 362 rfl) (argsL := []) (rest := []) (lenOf pd19 rfl) rfl (by show 2 * 0 + _ ≤ _; exact Nat.le_of_eq rfl) (d77 hby 1 rfl) (fun _ _ => ⟨rfl, e0, (by decide : 0 + 0 ≤ _), (by decide : 0 + 0 ≤ _)⟩)
  dsimp only [Pt.U, Pt.locs, Pt.cells, Pt.slots] at X1 l1 y1 z1 st1 hQ1
  subst l1 y1 z1
  obtain ⟨rfl, Nq1, e1⟩ := hQ1
  have N1 := Fr.app N0 Nq1
  refine own_lvI X1 hx hlk hret (d77 hby 2 rfl) (by decide) (by decide) (z := (Int32.ofNat nn)) (Ls := (q_0 a1)) (rest := []) (fun _ k => castTop (ef_ru_len m a1) ?_) ?_
  · refine za X0 hx (d77 hby 0 rfl) rfl rfl <| st1.trans ?_
    exact k
  · rw [e1]
    exact ⟨rfl, N1, rfl⟩
theorem d69 : Dl cb34 [(0, .aload_n 0, 1), (1, .getfield 15, 3), (4, .arraylength, 1), (5, .istore_n 2, 1), (6, .iload_n 1, 1), (7, .aload_n 0, 1), (8, .getfield 22, 3), (11, .ishl, 1), (12, .istore_n 3, 1), (13, .iload_n 3, 1), (14, .iload_n 2, 1), (15, .isub, 1), (16, .istore 4, 2), (18, .iload_n 2, 1), (19, .iload 4, 2), (21, .iload_n 2, 1), (22, .iconst 2, 1), (23, .aload_n 0, 1), (24, .getfield 22, 3), (27, .ishl, 1), (28, .iadd, 1), (29, .invokestatic 114, 3), (32, .istore 5, 2), (34, .iload 5, 2), (36, .ldc 39, 2), (38, .if_icmp .ne 13, 3), (51, .iload 5, 2), (53, .aload_n 0, 1), (54, .getfield 22, 3), (57, .ishr, 1), (58, .ireturn, 1)] := dlk (by decide +kernel)
theorem ef_rb_nc0 (m : MethodId) (x0 : Addr) (x1 : Int32) : entryFrame m #[(.ref x0), (.int x1)] 6 = mkF m 0 #[.val (.ref x0), .val (.int x1), .unset, .unset, .unset, .unset] [] := by first | (simp [entryFrame, mkF, argsToLocals, Value.category]; done) | rfl
theorem rb_nc0 (a1 bA : Addr) (kA : ClassId) (LB nn : Nat) (cs : List UInt16) (i1 : Nat) (HB : Sb0 Z h0 a1 bA kA LB nn cs) (hnn : nn ≤ 24) (hg : LB < i1) (hi : i1 ≤ 24) :
    Mt (l := l) hw (ws := ws) O0 ST Y_40 jdk_68_method_10_code 6 (some .int) R_10 #[(.ref a1), (vN i1)] (Qpure (some (vN (LB + max (i1 - LB) (LB + 2)))) h0 n0) := by
  refine own_met (plainFor_of_name pn6) fun p e s m w_ meth c s₁ hx hby hml hZ hh hown hnm hret hlk X0 e0 => ?_
  have N0 := Fr.nil n0
  obtain ⟨Es, Fv, Fc, Fn, Fy, Eb, hu, hL, tl, Bs⟩ := id HB
  have Vs := Bs.1
  have ls := Bs.2
  have hNs : (Int32.ofNat LB).toNatClampNeg = (cs.map cLo ++ tl).length := by rw [ls]; exact own_n (by omega)
  have lq : cs.length + tl.length = LB := by rw [← ls]; simp only [List.length_append, List.length_map, enc1_len]
  have lt_a1 := Es.lt
  have lt_bA := Vs.lt
  have n_ab : a1 ≠ bA := Exa.neArv Es Vs (tw hw 122 rfl)
  obtain ⟨T1, X1, e1, st1⟩ := getF X0 hx hZ hown (host := "") (Or.inl (tw hw 234 rfl)) Via.refl e0 Fv (g := (mkF m 1 (q_51 a1 i1) [(.ref a1)])) rfl rfl (d69 hby 1 rfl)
  obtain ⟨cl2, Ar2, q2, Sz2, Nn2, Ha2, Gf2⟩ := id Vs
  obtain ⟨T3, X3, e3, st3⟩ := getF X1 hx hZ hown (host := "") (Or.inl (tw hw 231 rfl)) Via.refl e1 Fc (g := (mkF m 8 (q_55 a1 i1 LB) [(.ref a1), (vN i1)])) rfl rfl (d69 hby 6 rfl)
  obtain ⟨T4, X4, e4, st4⟩ := getF X3 hx hZ hown (host := "") (Or.inl (tw hw 231 rfl)) Via.refl e3 Fc (g := (mkF m 24 (q_70 a1 i1 LB) [(.ref a1), (vL 2), (vN LB), (vN (i1 - LB)), (vN LB)])) rfl rfl (d69 hby 18 rfl)
  obtain ⟨_, T5, Lc5, X5, hQ5, st5⟩ := own_sc X4 hx hZ (y := Y_56) hown hml (tw hw 326 rfl) (tw hw 327 rfl) (rv_nl hw O0 ST LB (i1 - LB) (LB + 2) (by omega) (by omega) (by omega) (by omega)) (tw hw 329 rfl) (tw hw 328 rfl) e4 (W := 0) (Ls := (q_70 a1 i1 LB)) (argsL := [(vN LB), (vN (i1 - LB)), (vN (LB + 2))]) (rest := []) (lenOf pd9 rfl) (d69 hby 21 rfl)
  obtain ⟨rfl, Nq5, e5⟩ := hQ5
  have N5 := Fr.app N0 Nq5
  have pf6 : ∀ target, Go p e w_ T5 m 38 (q_66 a1 i1 LB) [(vL 2147483647), (vN (LB + max (i1 - LB) (LB + 2)))] target → Go p e w_ s₁ m 0 (q_51 a1 i1) [] target := by
    intro target k
    refine za X0 hx (d69 hby 0 rfl) rfl rfl <| st1 _ ?_
    show Go p e w_ T1 m 4 (q_51 a1 i1) [(.ref bA)] _
    refine X1.arraylength hx (by rw [e1]; exact Ar2.1) (State.isArrayOf_alike hZ.alike Ar2.2.1) (g := (mkF m 4 (q_51 a1 i1) [(.ref bA)])) rfl rfl (d69 hby 2 rfl) _ ?_
    rw [len_of Sz2 Nn2]
    refine zs X1 hx (d69 hby 3 rfl) (Ls' := (q_55 a1 i1 LB)) rfl <| zl X1 hx (d69 hby 4 rfl) rfl <| za X1 hx (d69 hby 5 rfl) rfl rfl <| st3 _ <| XS.ishl X3.here hx rfl (d69 hby 7 rfl) rfl ?_
    show Go p e w_ T3 m 12 (q_55 a1 i1 LB) [(.int ((Int32.ofNat i1) <<< ((0 : Int32) &&& 31)))] _
    rw [show ((Int32.ofNat i1) <<< ((0 : Int32) &&& 31)) = (Int32.ofNat i1) from own_shl0 _]
    refine zs X3 hx (d69 hby 8 rfl) (Ls' := (q_130 a1 i1 LB)) rfl <| zl X3 hx (d69 hby 9 rfl) rfl <| zl X3 hx (d69 hby 10 rfl) rfl <| XS.isub X3.here hx rfl (d69 hby 11 rfl) rfl ?_
    show Go p e w_ T3 m 16 (q_130 a1 i1 LB) [(.int ((Int32.ofNat i1) - (Int32.ofNat LB)))] _
    rw [show ((Int32.ofNat i1) - (Int32.ofNat LB)) = (Int32.ofNat (i1 - LB)) from own_sub (a := i1) (b := LB) (by omega)]
    refine zt X3 hx (d69 hby 12 rfl) (Ls' := (q_70 a1 i1 LB)) rfl <| zl X3 hx (d69 hby 13 rfl) rfl <| zm X3 hx (d69 hby 14 rfl) rfl <| zl X3 hx (d69 hby 15 rfl) rfl <| zc X3 hx (d69 hby 16 rfl) <| za X3 hx (d69 hby 17 rfl) rfl rfl <| st4 _ <| XS.ishl X4.here hx rfl (d69 hby 19 rfl) rfl <| XS.iadd X4.here hx rfl (d69 hby 20 rfl) rfl ?_
    show Go p e w_ T4 m 29 (q_70 a1 i1 LB) [(.int ((Int32.ofNat LB) + (2 : Int32))), (.int (Int32.ofNat (i1 - LB))), (.int (Int32.ofNat LB))] _
    rw [show ((Int32.ofNat LB) + (2 : Int32)) = (Int32.ofNat (LB + 2)) from own_add LB 2]
    refine st5 _ <| zt X5 hx (d69 hby 22 rfl) (Ls' := (q_66 a1 i1 LB)) rfl <| zm X5 hx (d69 hby 23 rfl) rfl ?_
    show Go p e w_ T5 m 36 (q_66 a1 i1 LB) [(vN (LB + max (i1 - LB) (LB + 2)))] _
    refine X5.ldcInt hx hown (mvT hZ (tw hw 334 rfl)) (g := (mkF m 36 (q_66 a1 i1 LB) [(vN (LB + max (i1 - LB) (LB + 2)))])) rfl (d69 hby 24 rfl) _ ?_
    exact k
  obtain ⟨T7, X7, e7, st7⟩ := getF X5 hx hZ hown (host := "") (Or.inl (tw hw 231 rfl)) Via.refl e5 Fc (g := (mkF m 54 (q_66 a1 i1 LB) [(.ref a1), (vN (LB + max (i1 - LB) (LB + 2)))])) rfl rfl (d69 hby 28 rfl)
  refine own_lvI X7 hx hlk hret (d69 hby 30 rfl) (by decide) (by decide) (z := (Int32.ofNat (LB + max (i1 - LB) (LB + 2)))) (Ls := (q_66 a1 i1 LB)) (rest := []) (fun _ k => castTop (ef_rb_nc0 m a1 (Int32.ofNat i1)) ?_) ?_
  · refine pf6 _ <| zy X5 hx 38 51 (d69 hby 25 rfl) (feq (fun q => absurd ((own_eq (a := LB + max (i1 - LB) (LB + 2)) (b := 2147483647) (by omega) (by omega)).mp q) (by omega))).2 <| zm X5 hx (d69 hby 26 rfl) rfl <| za X5 hx (d69 hby 27 rfl) rfl rfl <| st7 _ <| XS.ishr X7.here hx rfl (d69 hby 29 rfl) rfl ?_
    show Go p e w_ T7 m 58 (q_66 a1 i1 LB) [(.int ((Int32.ofNat (LB + max (i1 - LB) (LB + 2))) >>> ((0 : Int32) &&& 31)))] _
    rw [show ((Int32.ofNat (LB + max (i1 - LB) (LB + 2))) >>> ((0 : Int32) &&& 31)) = (Int32.ofNat (LB + max (i1 - LB) (LB + 2))) from own_shr0 _]
    exact k
  · rw [e7]
    exact ⟨rfl, N5, rfl⟩
theorem rb_il1 (a1 bA : Addr) (kA : ClassId) (LB nn : Nat) (cs : List UInt16) (HB : Sb1 Z h0 a1 bA kA LB nn cs) (hnn : nn ≤ 24) :
    Mt (l := l) hw (ws := ws) O0 ST Y_3 jdk_68_method_68_code 1 (some .boolean) R_0 #[(.ref a1)] (Qpure (some (vL 0)) h0 n0) := by
  refine own_met (plainFor_of_name pn6) fun p e s m w_ meth c s₁ hx hby hml hZ hh hown hnm hret hlk X0 e0 => ?_
  have N0 := Fr.nil n0
  obtain ⟨S_cs, hG, S_fm, hF, S_ad, S_hi, S_lo⟩ := id ST
  obtain ⟨Es, Fv, Fc, Fn, Fy, Eb, hL, tl, Bs⟩ := id HB
  have Vs := Bs.1
  have ls := Bs.2
  have hNs : (Int32.ofNat LB).toNatClampNeg = (enc1 cs ++ tl).length := by rw [ls]; exact own_n (by omega)
  have lq : 2 * cs.length + tl.length = LB := by rw [← ls]; simp only [List.length_append, List.length_map, enc1_len]
  have lt_a1 := Es.lt
  have lt_bA := Vs.lt
  have n_ab : a1 ≠ bA := Exa.neArv Es Vs (tw hw 122 rfl)
  obtain ⟨T1, X1, e1, st1⟩ := getS2 X0 hx hZ hown (host := "") (Or.inl (tw hw 267 rfl)) Via.refl e0 (S_cs.ext O0.2) (g := (mkF m 0 (q_0 a1) [])) rfl (d60 hby 0 rfl)
  obtain ⟨T2, X2, e2, st2⟩ := getF X1 hx hZ hown (host := "") (Or.inl (tw hw 231 rfl)) Via.refl e1 Fc (g := (mkF m 7 (q_0 a1) [(.ref a1)])) rfl rfl (d60 hby 3 rfl)
  refine own_lvN X2 hx hlk hret (by simp) (d60 hby 7 rfl) (by decide) (by decide) (z := (0 : Int32)) rfl (Ls := (q_0 a1)) (rest := []) (fun _ k => castTop (ef_ru_len m a1) ?_) ?_
  · refine st1 _ <| zg X1 hx (d60 hby 1 rfl) ((if0 _ _).trans (feq hG).1) <| za X1 hx (d60 hby 2 rfl) rfl rfl <| st2 _ <| zf X2 hx 10 17 (d60 hby 4 rfl) ((if0 _ _).trans (feq (by decide)).2) <| zc X2 hx (d60 hby 8 rfl) ?_
    exact k
  · rw [e2]
    exact ⟨rfl, N0, rfl⟩
theorem rb_gv1 (a1 bA : Addr) (kA : ClassId) (LB nn : Nat) (cs : List UInt16) (HB : Sb1 Z h0 a1 bA kA LB nn cs) (hnn : nn ≤ 24) :
    Mt (l := l) hw (ws := ws) O0 ST Y_21 jdk_68_method_64_code 1 (some (.array .byte)) R_0 #[(.ref a1)] (Qpure (some (.ref bA)) h0 n0) := by
  refine own_met (plainFor_of_name pn6) fun p e s m w_ meth c s₁ hx hby hml hZ hh hown hnm hret hlk X0 e0 => ?_
  have N0 := Fr.nil n0
  obtain ⟨Es, Fv, Fc, Fn, Fy, Eb, hL, tl, Bs⟩ := id HB
  have Vs := Bs.1
  have ls := Bs.2
  have hNs : (Int32.ofNat LB).toNatClampNeg = (enc1 cs ++ tl).length := by rw [ls]; exact own_n (by omega)
  have lq : 2 * cs.length + tl.length = LB := by rw [← ls]; simp only [List.length_append, List.length_map, enc1_len]
  have lt_a1 := Es.lt
  have lt_bA := Vs.lt
  have n_ab : a1 ≠ bA := Exa.neArv Es Vs (tw hw 122 rfl)
  obtain ⟨T1, X1, e1, st1⟩ := getF X0 hx hZ hown (host := "") (Or.inl (tw hw 234 rfl)) Via.refl e0 Fv (g := (mkF m 1 (q_0 a1) [(.ref a1)])) rfl rfl (d76 hby 1 rfl)
  refine own_lvA X1 hx hlk hret rfl (d76 hby 2 rfl) (by decide) (by decide) (w := (.ref bA)) rfl (Ls := (q_0 a1)) (rest := []) (fun _ k => castTop (ef_ru_len m a1) ?_) ?_
  · refine za X0 hx (d76 hby 0 rfl) rfl rfl <| st1 _ ?_
    exact k
  · rw [e1]
    exact ⟨rfl, N0, rfl⟩
theorem rb_al1 (a1 bA : Addr) (kA : ClassId) (LB nn : Nat) (cs : List UInt16) (HB : Sb1 Z h0 a1 bA kA LB nn cs) (hnn : nn ≤ 24) :
    Mt (l := l) hw (ws := ws) O0 ST Y_22 jdk_68_method_6_code 1 (some .int) R_0 #[(.ref a1)] (Qpure (some (vN nn)) h0 n0) := by
  refine own_met (plainFor_of_name pn6) fun p e s m w_ meth c s₁ hx hby hml hZ hh hown hnm hret hlk X0 e0 => ?_
  have N0 := Fr.nil n0
  obtain ⟨Es, Fv, Fc, Fn, Fy, Eb, hL, tl, Bs⟩ := id HB
  have Vs := Bs.1
  have ls := Bs.2
  have hNs : (Int32.ofNat LB).toNatClampNeg = (enc1 cs ++ tl).length := by rw [ls]; exact own_n (by omega)
  have lq : 2 * cs.length + tl.length = LB := by rw [← ls]; simp only [List.length_append, List.length_map, enc1_len]
  have lt_a1 := Es.lt
  have lt_bA := Vs.lt
  have n_ab : a1 ≠ bA := Exa.neArv Es Vs (tw hw 122 rfl)
  obtain ⟨T1, X1, e1, st1⟩ := getF X0 hx hZ hown (host := "") (Or.inl (tw hw 250 rfl)) Via.refl e0 Fn (g := (mkF m 1 (q_0 a1) [(.ref a1)])) rfl rfl (d78 hby 1 rfl)
  refine own_lvI X1 hx hlk hret (d78 hby 2 rfl) (by decide) (by decide) (z := (Int32.ofNat nn)) (Ls := (q_0 a1)) (rest := []) (fun _ k => castTop (ef_ru_len m a1) ?_) ?_
  · refine za X0 hx (d78 hby 0 rfl) rfl rfl <| st1 _ ?_
    exact k
  · rw [e1]
    exact ⟨rfl, N0, rfl⟩
theorem rb_len1 (a1 bA : Addr) (kA : ClassId) (LB nn : Nat) (cs : List UInt16) (HB : Sb1 Z h0 a1 bA kA LB nn cs) (hnn : nn ≤ 24) :
    Mt (l := l) hw (ws := ws) O0 ST Y_39 jdk_67_method_93_code 1 (some .int) R_5 #[(.ref a1)] (Qpure (some (vN nn)) h0 n0) := by
  refine own_met (plainFor_of_name pn7) fun p e s m w_ meth c s₁ hx hby hml hZ hh hown hnm hret hlk X0 e0 => ?_
  have N0 := Fr.nil n0
  obtain ⟨Es, Fv, Fc, Fn, Fy, Eb, hL, tl, Bs⟩ := id HB
  have Vs := Bs.1
  have ls := Bs.2
  have hNs : (Int32.ofNat LB).toNatClampNeg = (enc1 cs ++ tl).length := by rw [ls]; exact own_n (by omega)
  have lq : 2 * cs.length + tl.length = LB := by rw [← ls]; simp only [List.length_append, List.length_map, enc1_len]
  have lt_a1 := Es.lt
  have lt_bA := Vs.lt
  have n_ab : a1 ≠ bA := Exa.neArv Es Vs (tw hw 122 rfl)
  obtain ⟨_, _, ⟨T1, L1, k1, n1⟩, -, X1, ⟨Lc1, hQ1, l1, y1, z1⟩, st1⟩ := Jvm.RoadKit.superBack X0 hx hZ (y := Y_22) (K := "java/lang/AbstractStringBuilder") hown (tw hw 361 rfl) (own_same (C := "java/lang/StringBuilder") (tw hw 356 rfl) (tw hw 287 rfl)) (tw hw 357 rfl) (tw hw 248 rfl) (by decide) (backOf (W := 0) (rb_al1 hw O0 ST a1 bA kA LB nn cs HB hnn) hZ (tw hw 362 rfl) (tw hw 225 rfl) (by decide) (by decide)) e0 (Ins.of_exa Es (tw hw 224 rfl)) (g := (mkF m 1 (q_0 a1) [(.ref a1)])) rfl (by rw [hml]; rfl) (tw hw 362 rfl) (argsL := []) (rest := []) (lenOf pd19 rfl) rfl (by show 2 * 0 + _ ≤ _; exact Nat.le_of_eq rfl) (d77 hby 1 rfl) (fun _ _ => ⟨rfl, e0, (by decide : 0 + 0 ≤ _), (by decide : 0 + 0 ≤ _)⟩)
  dsimp only [Pt.U, Pt.locs, Pt.cells, Pt.slots] at X1 l1 y1 z1 st1 hQ1
  subst l1 y1 z1
  obtain ⟨rfl, Nq1, e1⟩ := hQ1
  have N1 := Fr.app N0 Nq1
  refine own_lvI X1 hx hlk hret (d77 hby 2 rfl) (by decide) (by decide) (z := (Int32.ofNat nn)) (Ls := (q_0 a1)) (rest := []) (fun _ k => castTop (ef_ru_len m a1) ?_) ?_
  · refine za X0 hx (d77 hby 0 rfl) rfl rfl <| st1.trans ?_
    exact k
  · rw [e1]
    exact ⟨rfl, N1, rfl⟩
theorem rb_nc1 (a1 bA : Addr) (kA : ClassId) (LB nn : Nat) (cs : List UInt16) (i1 : Nat) (HB : Sb1 Z h0 a1 bA kA LB nn cs) (hnn : nn ≤ 24) (hg : LB < 2 * i1) (hi : i1 ≤ 24) :
    Mt (l := l) hw (ws := ws) O0 ST Y_40 jdk_68_method_10_code 6 (some .int) R_10 #[(.ref a1), (vN i1)] (Qpure (some (vN ((LB + max (2 * i1 - LB) (LB + 4)) / 2))) h0 n0) := by
  refine own_met (plainFor_of_name pn6) fun p e s m w_ meth c s₁ hx hby hml hZ hh hown hnm hret hlk X0 e0 => ?_
  have N0 := Fr.nil n0
  obtain ⟨Es, Fv, Fc, Fn, Fy, Eb, hL, tl, Bs⟩ := id HB
  have Vs := Bs.1
  have ls := Bs.2
  have hNs : (Int32.ofNat LB).toNatClampNeg = (enc1 cs ++ tl).length := by rw [ls]; exact own_n (by omega)
  have lq : 2 * cs.length + tl.length = LB := by rw [← ls]; simp only [List.length_append, List.length_map, enc1_len]
  have lt_a1 := Es.lt
  have lt_bA := Vs.lt
  have n_ab : a1 ≠ bA := Exa.neArv Es Vs (tw hw 122 rfl)
  obtain ⟨T1, X1, e1, st1⟩ := getF X0 hx hZ hown (host := "") (Or.inl (tw hw 234 rfl)) Via.refl e0 Fv (g := (mkF m 1 (q_51 a1 i1) [(.ref a1)])) rfl rfl (d69 hby 1 rfl)
  obtain ⟨cl2, Ar2, q2, Sz2, Nn2, Ha2, Gf2⟩ := id Vs
  obtain ⟨T3, X3, e3, st3⟩ := getF X1 hx hZ hown (host := "") (Or.inl (tw hw 231 rfl)) Via.refl e1 Fc (g := (mkF m 8 (q_55 a1 i1 LB) [(.ref a1), (vN i1)])) rfl rfl (d69 hby 6 rfl)
  obtain ⟨T4, X4, e4, st4⟩ := getF X3 hx hZ hown (host := "") (Or.inl (tw hw 231 rfl)) Via.refl e3 Fc (g := (mkF m 24 (q_71 a1 i1 LB) [(.ref a1), (vL 2), (vN LB), (vN (2 * i1 - LB)), (vN LB)])) rfl rfl (d69 hby 18 rfl)
  obtain ⟨_, T5, Lc5, X5, hQ5, st5⟩ := own_sc X4 hx hZ (y := Y_56) hown hml (tw hw 326 rfl) (tw hw 327 rfl) (rv_nl hw O0 ST LB (2 * i1 - LB) (LB + 4) (by omega) (by omega) (by omega) (by omega)) (tw hw 329 rfl) (tw hw 328 rfl) e4 (W := 0) (Ls := (q_71 a1 i1 LB)) (argsL := [(vN LB), (vN (2 * i1 - LB)), (vN (LB + 4))]) (rest := []) (lenOf pd9 rfl) (d69 hby 21 rfl)
  obtain ⟨rfl, Nq5, e5⟩ := hQ5
  have N5 := Fr.app N0 Nq5
  have pf6 : ∀ target, Go p e w_ T5 m 38 (q_67 a1 i1 LB) [(vL 2147483647), (vN (LB + max (2 * i1 - LB) (LB + 4)))] target → Go p e w_ s₁ m 0 (q_51 a1 i1) [] target := by
    intro target k
    refine za X0 hx (d69 hby 0 rfl) rfl rfl <| st1 _ ?_
    show Go p e w_ T1 m 4 (q_51 a1 i1) [(.ref bA)] _
    refine X1.arraylength hx (by rw [e1]; exact Ar2.1) (State.isArrayOf_alike hZ.alike Ar2.2.1) (g := (mkF m 4 (q_51 a1 i1) [(.ref bA)])) rfl rfl (d69 hby 2 rfl) _ ?_
    rw [len_of Sz2 Nn2]
    refine zs X1 hx (d69 hby 3 rfl) (Ls' := (q_55 a1 i1 LB)) rfl <| zl X1 hx (d69 hby 4 rfl) rfl <| za X1 hx (d69 hby 5 rfl) rfl rfl <| st3 _ <| XS.ishl X3.here hx rfl (d69 hby 7 rfl) rfl ?_
    show Go p e w_ T3 m 12 (q_55 a1 i1 LB) [(.int ((Int32.ofNat i1) <<< ((1 : Int32) &&& 31)))] _
    rw [show ((Int32.ofNat i1) <<< ((1 : Int32) &&& 31)) = (Int32.ofNat (2 * i1)) from own_shl1 i1]
    refine zs X3 hx (d69 hby 8 rfl) (Ls' := (q_131 a1 i1 LB)) rfl <| zl X3 hx (d69 hby 9 rfl) rfl <| zl X3 hx (d69 hby 10 rfl) rfl <| XS.isub X3.here hx rfl (d69 hby 11 rfl) rfl ?_
    show Go p e w_ T3 m 16 (q_131 a1 i1 LB) [(.int ((Int32.ofNat (2 * i1)) - (Int32.ofNat LB)))] _
    rw [show ((Int32.ofNat (2 * i1)) - (Int32.ofNat LB)) = (Int32.ofNat (2 * i1 - LB)) from own_sub (a := 2 * i1) (b := LB) (by omega)]
    refine zt X3 hx (d69 hby 12 rfl) (Ls' := (q_71 a1 i1 LB)) rfl <| zl X3 hx (d69 hby 13 rfl) rfl <| zm X3 hx (d69 hby 14 rfl) rfl <| zl X3 hx (d69 hby 15 rfl) rfl <| zc X3 hx (d69 hby 16 rfl) <| za X3 hx (d69 hby 17 rfl) rfl rfl <| st4 _ <| XS.ishl X4.here hx rfl (d69 hby 19 rfl) rfl <| XS.iadd X4.here hx rfl (d69 hby 20 rfl) rfl ?_
    show Go p e w_ T4 m 29 (q_71 a1 i1 LB) [(.int ((Int32.ofNat LB) + (4 : Int32))), (.int (Int32.ofNat (2 * i1 - LB))), (.int (Int32.ofNat LB))] _
    rw [show ((Int32.ofNat LB) + (4 : Int32)) = (Int32.ofNat (LB + 4)) from own_add LB 4]
    refine st5 _ <| zt X5 hx (d69 hby 22 rfl) (Ls' := (q_67 a1 i1 LB)) rfl <| zm X5 hx (d69 hby 23 rfl) rfl ?_
    show Go p e w_ T5 m 36 (q_67 a1 i1 LB) [(vN (LB + max (2 * i1 - LB) (LB + 4)))] _
    refine X5.ldcInt hx hown (mvT hZ (tw hw 334 rfl)) (g := (mkF m 36 (q_67 a1 i1 LB) [(vN (LB + max (2 * i1 - LB) (LB + 4)))])) rfl (d69 hby 24 rfl) _ ?_
    exact k
  obtain ⟨T7, X7, e7, st7⟩ := getF X5 hx hZ hown (host := "") (Or.inl (tw hw 231 rfl)) Via.refl e5 Fc (g := (mkF m 54 (q_67 a1 i1 LB) [(.ref a1), (vN (LB + max (2 * i1 - LB) (LB + 4)))])) rfl rfl (d69 hby 28 rfl)
  refine own_lvI X7 hx hlk hret (d69 hby 30 rfl) (by decide) (by decide) (z := (Int32.ofNat ((LB + max (2 * i1 - LB) (LB + 4)) / 2))) (Ls := (q_67 a1 i1 LB)) (rest := []) (fun _ k => castTop (ef_rb_nc0 m a1 (Int32.ofNat i1)) ?_) ?_
  · refine pf6 _ <| zy X5 hx 38 51 (d69 hby 25 rfl) (feq (fun q => absurd ((own_eq (a := LB + max (2 * i1 - LB) (LB + 4)) (b := 2147483647) (by omega) (by omega)).mp q) (by omega))).2 <| zm X5 hx (d69 hby 26 rfl) rfl <| za X5 hx (d69 hby 27 rfl) rfl rfl <| st7 _ <| XS.ishr X7.here hx rfl (d69 hby 29 rfl) rfl ?_
    show Go p e w_ T7 m 58 (q_67 a1 i1 LB) [(.int ((Int32.ofNat (LB + max (2 * i1 - LB) (LB + 4))) >>> ((1 : Int32) &&& 31)))] _
    rw [show ((Int32.ofNat (LB + max (2 * i1 - LB) (LB + 4))) >>> ((1 : Int32) &&& 31)) = (Int32.ofNat ((LB + max (2 * i1 - LB) (LB + 4)) / 2)) from own_shr1 (n := LB + max (2 * i1 - LB) (LB + 4)) (by omega)]
    exact k
  · rw [e7]
    exact ⟨rfl, N5, rfl⟩
def Sbx (Z : State) (h : Heap) (a b : Addr) (k : ClassId) (LB n : Nat) (cs : List UInt16) : Prop := Sb0 Z h a b k LB n cs ∨ Sb1 Z h a b k LB n cs
theorem own_srcA {cs : List UInt16} {tl : List Int32} : ∀ j, j < cs.length → (cs.map cLo ++ tl).getD j 0 = cLo (cs.getD j 0) := fun j hj => by simp [List.getD_eq_getElem?_getD, List.getElem?_append, hj]
theorem own_srcB {cs : List UInt16} : ∀ j, j < cs.length → (cs.map cLo).getD j 0 = cLo (cs.getD j 0) := fun j hj => own_lod hj
theorem own_pz {ds : List Int32} {d : Nat} (cs : List UInt16) : puts ds (d + 0) (cs.drop 0) = puts ds d cs := rfl
theorem own_w0 {cs ds : List UInt16} {tl : List Int32} : (cs.map cLo ++ tl).take cs.length ++ ds.map cLo ++ (cs.map cLo ++ tl).drop (cs.length + ds.length) = (cs ++ ds).map cLo ++ tl.drop ds.length := by
  have := own_ov (cs.map cLo) (ds.map cLo) tl
  simpa using this
theorem own_w1 {cs ds : List UInt16} {tl : List Int32} : (enc1 cs ++ tl).take (2 * cs.length) ++ enc1 ds ++ (enc1 cs ++ tl).drop (2 * cs.length + 2 * ds.length) = enc1 (cs ++ ds) ++ tl.drop (2 * ds.length) := by
  have := own_ov (enc1 cs) (enc1 ds) tl
  rw [enc1_len, enc1_len] at this
  rw [this, enc1_app]
theorem own_w2 {cs ds : List UInt16} {tl : List Int32} (h : 2 * ds.length ≤ tl.length) : puts (enc1 cs ++ tl) cs.length ds = enc1 (cs ++ ds) ++ tl.drop (2 * ds.length) := by
  rw [puts_eq _ _ _ (by rw [List.length_append, enc1_len]; omega), Nat.mul_add, own_w1]
theorem own_mem {x b : Addr} {a : Addr} {p : Prop} (h : x = b ∨ p) : x ∈ [a, b] ∨ p := by
  rcases h with rfl | h
  · exact Or.inl (by simp)
  · exact Or.inr h
theorem own_gor {x b n : Addr} {m : Nat} (h : x = b ∨ m ≤ x) (g : n ≤ b) (q : n ≤ m) : n ≤ x := h.elim (fun e => e ▸ g) (fun e => Nat.le_trans q e)
theorem own_nor {x b y : Addr} {m : Nat} (h : x = b ∨ m ≤ x) (g : y ≠ b) (q : y < m) : y ≠ x := h.elim (fun e => e ▸ g) (fun e => Nat.ne_of_lt (Nat.lt_of_lt_of_le q e))
theorem own_all {cs ds : List UInt16} (h : ∀ u ∈ cs, u < 256) (g : ∀ u ∈ ds, u < 256) : ∀ u ∈ cs ++ ds, u < 256 := fun u q => (List.mem_append.mp q).elim (h u) (g u)
theorem d54 : Dl cb35 [(0, .aload_n 0, 1), (1, .getfield 15, 3), (4, .arraylength, 1), (5, .aload_n 0, 1), (6, .getfield 22, 3), (9, .ishr, 1), (10, .istore_n 2, 1), (11, .iload_n 1, 1), (12, .iload_n 2, 1), (13, .isub, 1), (14, .ifCond .le 24, 3), (17, .aload_n 0, 1), (18, .aload_n 0, 1), (19, .getfield 15, 3), (22, .aload_n 0, 1), (23, .iload_n 1, 1), (24, .invokevirtual 104, 3), (27, .aload_n 0, 1), (28, .getfield 22, 3), (31, .ishl, 1), (32, .invokestatic 108, 3), (35, .putfield 15, 3), (38, .return_, 1)] := dlk (by decide +kernel)
theorem pd20 : parseMethodDescriptor "([BI)[B" = some ⟨[(.array .byte), .int], some (.array .byte)⟩ := by decide +kernel
theorem rb_ec0 (a1 bA : Addr) (kA : ClassId) (LB : Nat) (cs : List UInt16) (i1 : Nat) (HB : Sb0 Z h0 a1 bA kA LB cs.length cs) (hnn : cs.length ≤ 24) (g_a1 : n0 ≤ a1) (g_bA : n0 ≤ bA) (hi : i1 ≤ 24) :
    Mt (l := l) hw (ws := ws) O0 ST Y_13 jdk_68_method_9_code 3 none R_31 #[(.ref a1), (vN i1)] (Qsv (fun h b k LB' => Sb0 Z h a1 b k LB' cs.length cs ∧ i1 ≤ LB' ∧ (LB' = LB ∨ 2 * LB + 2 ≤ LB')) none a1 bA h0 n0) := by
  refine own_met (plainFor_of_name pn6) fun p e s m w_ meth c s₁ hx hby hml hZ hh hown hnm hret hlk X0 e0 => ?_
  have N0 := Fr.nil n0
  obtain ⟨Es, Fv, Fc, Fn, Fy, Eb, hu, hL, tl, Bs⟩ := id HB
  have Vs := Bs.1
  have ls := Bs.2
  have hNs : (Int32.ofNat LB).toNatClampNeg = (cs.map cLo ++ tl).length := by rw [ls]; exact own_n (by omega)
  have lq : cs.length + tl.length = LB := by rw [← ls]; simp only [List.length_append, List.length_map, enc1_len]
  have lt_a1 := Es.lt
  have lt_bA := Vs.lt
  have n_ab : a1 ≠ bA := Exa.neArv Es Vs (tw hw 122 rfl)
  obtain ⟨T1, X1, e1, st1⟩ := getF X0 hx hZ hown (host := "") (Or.inl (tw hw 234 rfl)) Via.refl e0 Fv (g := (mkF m 1 (q_14 a1 i1) [(.ref a1)])) rfl rfl (d54 hby 1 rfl)
  obtain ⟨cl2, Ar2, q2, Sz2, Nn2, Ha2, Gf2⟩ := id Vs
  obtain ⟨T3, X3, e3, st3⟩ := getF X1 hx hZ hown (host := "") (Or.inl (tw hw 231 rfl)) Via.refl e1 Fc (g := (mkF m 6 (q_14 a1 i1) [(.ref a1), (vN LB)])) rfl rfl (d54 hby 4 rfl)
  have pf4 : ∀ target, Go p e w_ T3 m 14 (q_3 a1 i1 LB) [(.int ((Int32.ofNat i1) - (Int32.ofNat LB)))] target → Go p e w_ s₁ m 0 (q_14 a1 i1) [] target := by
    intro target k
    refine za X0 hx (d54 hby 0 rfl) rfl rfl <| st1 _ ?_
    show Go p e w_ T1 m 4 (q_14 a1 i1) [(.ref bA)] _
    refine X1.arraylength hx (by rw [e1]; exact Ar2.1) (State.isArrayOf_alike hZ.alike Ar2.2.1) (g := (mkF m 4 (q_14 a1 i1) [(.ref bA)])) rfl rfl (d54 hby 2 rfl) _ ?_
    rw [len_of Sz2 Nn2]
    refine za X1 hx (d54 hby 3 rfl) rfl rfl <| st3 _ <| XS.ishr X3.here hx rfl (d54 hby 5 rfl) rfl ?_
    show Go p e w_ T3 m 10 (q_14 a1 i1) [(.int ((Int32.ofNat LB) >>> ((0 : Int32) &&& 31)))] _
    rw [show ((Int32.ofNat LB) >>> ((0 : Int32) &&& 31)) = (Int32.ofNat LB) from own_shr0 _]
    refine zs X3 hx (d54 hby 6 rfl) (Ls' := (q_3 a1 i1 LB)) rfl <| zl X3 hx (d54 hby 7 rfl) rfl <| zl X3 hx (d54 hby 8 rfl) rfl <| XS.isub X3.here hx rfl (d54 hby 9 rfl) rfl ?_
    exact k
  by_cases hc14 : (0 : Int32) < ((Int32.ofNat i1) - (Int32.ofNat LB))
  · have hg : LB < i1 := by have q := (own_subpos (a := i1) (b := LB) (by omega) (by omega)).mp hc14; omega
    obtain ⟨T5, X5, e5, st5⟩ := getF X3 hx hZ hown (host := "") (Or.inl (tw hw 234 rfl)) Via.refl e3 Fv (g := (mkF m 19 (q_3 a1 i1 LB) [(.ref a1), (.ref a1)])) rfl rfl (d54 hby 13 rfl)
    obtain ⟨_, T6, Lc6, X6, hQ6, st6⟩ := own_pc X5 hx hZ (y := Y_40) hown hml (tw hw 321 rfl) (tw hw 322 rfl) (tw hw 324 rfl) (tw hw 323 rfl) (rb_nc0 hw O0 ST a1 bA kA LB cs.length cs i1 HB hnn hg hi) (tw hw 325 rfl) (tw hw 225 rfl) e5 (Es) (W := 2) (Ls := (q_3 a1 i1 LB)) (argsL := [(vN i1)]) (rest := [(.ref bA), (.ref a1)]) (lenOf pd7 rfl) (d54 hby 16 rfl)
    obtain ⟨rfl, Nq6, e6⟩ := hQ6
    have N6 := Fr.app N0 Nq6
    obtain ⟨T7, X7, e7, st7⟩ := getF X6 hx hZ hown (host := "") (Or.inl (tw hw 231 rfl)) Via.refl e6 Fc (g := (mkF m 28 (q_3 a1 i1 LB) [(.ref a1), (vN (LB + max (i1 - LB) (LB + 2))), (.ref bA), (.ref a1)])) rfl rfl (d54 hby 18 rfl)
    obtain ⟨_, T8, Lc8, X8, hQ8, st8⟩ := own_sc X7 hx hZ (y := Y_57) hown hml (tw hw 335 rfl) (tw hw 336 rfl) (ra_co hw O0 ST bA kA LB (cs.map cLo ++ tl) (LB + max (i1 - LB) (LB + 2)) Bs (by omega) (by omega) (by omega)) (tw hw 337 rfl) (tw hw 197 rfl) e7 (W := 1) (Ls := (q_3 a1 i1 LB)) (argsL := [(.ref bA), (vN (LB + max (i1 - LB) (LB + 2)))]) (rest := [(.ref a1)]) (lenOf pd20 rfl) (d54 hby 20 rfl)
    obtain ⟨h8, e8⟩ : ∃ z, T8.heap = z := ⟨_, rfl⟩
    rw [e8] at hQ8
    obtain ⟨t8, kt8, rfl, Nq8, K8, szt8, Bt8, Et8⟩ := hQ8
    have N8 := Fr.app N6 Nq8
    have O9 := O0.keep K8 all0
    have kp10 : Keep h0 h8 [a1, bA] := (Keep.refl h0 [a1, bA]).trans K8 all0
    have sz_t8 := Nat.le_trans (Keep.refl h0 [a1, bA]).1 szt8
    have g_t8 : n0 ≤ t8 := Nat.le_trans (Nat.le_trans (Nat.le_of_eq O0.1.symm) O0.2.1) sz_t8
    have lt_a1_t8 : a1 < t8 := Nat.lt_of_lt_of_le lt_a1 sz_t8
    have lt_bA_t8 : bA < t8 := Nat.lt_of_lt_of_le lt_bA sz_t8
    have V_t8 : Arv Z h8 t8 kt8 .byte (Int32.ofNat (LB + max (i1 - LB) (LB + 2))) (((cs.map cLo ++ (tl ++ List.replicate ((LB + max (i1 - LB) (LB + 2)) - LB) 0)).map Value.int)) (vL 0) := by rw [← List.append_assoc]; exact Bt8.1
    obtain ⟨T11, h11, X11, e11, W11, st11⟩ := putF X8 hx hZ hown (host := "") (Or.inl (tw hw 234 rfl)) Via.refl e8 (Fv.keep K8 nin0) (Es.keep K8) (Or.inl (tw hw 235 rfl)) (tw hw 122 rfl) (ty := (.array .byte)) (by decide) rfl rfl (g := (mkF m 35 (q_3 a1 i1 LB) [(.ref t8), (.ref a1)])) rfl rfl (d54 hby 21 rfl)
    have Fw11 := (Fv.keep K8 nin0).same W11
    have O12 := O9.wr W11 g_a1
    have kp13 := kp10.wr W11 (Or.inl (List.mem_of_getElem? (i := 0) rfl))
    have N11 := Fr.snoc X11 N8 g_a1
    refine own_lvV X11 hx hlk hret (d54 hby 22 rfl) (by decide) (by decide) (Ls := (q_3 a1 i1 LB)) (fun _ k => castTop (ef_ra_co m a1 (Int32.ofNat i1)) ?_) ?_
    · refine pf4 _ <| zg X3 hx (d54 hby 10 rfl) ((if0 _ _).trans (tlt hc14).2.2.2) <| za X3 hx (d54 hby 11 rfl) rfl rfl <| za X3 hx (d54 hby 12 rfl) rfl rfl <| st5 _ <| za X5 hx (d54 hby 14 rfl) rfl rfl <| zl X5 hx (d54 hby 15 rfl) rfl <| st6 _ <| za X6 hx (d54 hby 17 rfl) rfl rfl <| st7 _ <| XS.ishl X7.here hx rfl (d54 hby 19 rfl) rfl ?_
      show Go p e w_ T7 m 32 (q_3 a1 i1 LB) [(.int ((Int32.ofNat (LB + max (i1 - LB) (LB + 2))) <<< ((0 : Int32) &&& 31))), (.ref bA), (.ref a1)] _
      rw [show ((Int32.ofNat (LB + max (i1 - LB) (LB + 2))) <<< ((0 : Int32) &&& 31)) = (Int32.ofNat (LB + max (i1 - LB) (LB + 2))) from own_shl0 _]
      refine st8 _ <| st11 _ ?_
      exact k
    · rw [e11]
      exact ⟨rfl, N11, kp13, t8, _, (LB + max (i1 - LB) (LB + 2)), Or.inr sz_t8, ⟨((Es.keep K8).wr W11), Fw11, ((Fc.keep K8 nin0).other W11 (Or.inr (slot_ne (Or.inl (tw hw 232 rfl)) (Or.inl (tw hw 235 rfl)) (by decide) (t := .byte) (t' := (.array .byte)) (by decide) (by decide)))), ((Fn.keep K8 nin0).other W11 (Or.inr (slot_ne (Or.inl (tw hw 251 rfl)) (Or.inl (tw hw 235 rfl)) (by decide) (t := .int) (t' := (.array .byte)) (by decide) (by decide)))), ((Fy.keep K8 nin0).other W11 (Or.inr (slot_ne (Or.inl (tw hw 365 rfl)) (Or.inl (tw hw 235 rfl)) (by decide) (t := .boolean) (t' := (.array .byte)) (by decide) (by decide)))), (Et8.wr W11), hu, (by omega), _, ⟨(V_t8.other W11 (Ne.symm (Nat.ne_of_lt lt_a1_t8))), by rw [← List.append_assoc]; exact Bt8.2⟩⟩, by omega, Or.inr (by omega)⟩
  · refine own_lvV X3 hx hlk hret (d54 hby 22 rfl) (by decide) (by decide) (Ls := (q_3 a1 i1 LB)) (fun _ k => castTop (ef_ra_co m a1 (Int32.ofNat i1)) ?_) ?_
    · refine pf4 _ <| zf X3 hx 14 38 (d54 hby 10 rfl) ((if0 _ _).trans (flt hc14).2.2.2) ?_
      exact k
    · rw [e3]
      exact ⟨rfl, N0, (Keep.refl h0 [a1, bA]), bA, kA, LB, Or.inl rfl, HB, by have q : ¬ LB < i1 := fun q => hc14 ((own_subpos (a := i1) (b := LB) (by omega) (by omega)).mpr q); omega, Or.inl rfl⟩
theorem rb_ec1 (a1 bA : Addr) (kA : ClassId) (LB : Nat) (cs : List UInt16) (i1 : Nat) (HB : Sb1 Z h0 a1 bA kA LB cs.length cs) (hnn : cs.length ≤ 24) (g_a1 : n0 ≤ a1) (g_bA : n0 ≤ bA) (hi : i1 ≤ 24) :
    Mt (l := l) hw (ws := ws) O0 ST Y_13 jdk_68_method_9_code 3 none R_31 #[(.ref a1), (vN i1)] (Qsv (fun h b k LB' => Sb1 Z h a1 b k LB' cs.length cs ∧ 2 * i1 ≤ LB' ∧ (LB' = LB ∨ 2 * LB + 2 ≤ LB')) none a1 bA h0 n0) := by
  refine own_met (plainFor_of_name pn6) fun p e s m w_ meth c s₁ hx hby hml hZ hh hown hnm hret hlk X0 e0 => ?_
  have N0 := Fr.nil n0
  obtain ⟨Es, Fv, Fc, Fn, Fy, Eb, hL, tl, Bs⟩ := id HB
  have Vs := Bs.1
  have ls := Bs.2
  have hNs : (Int32.ofNat LB).toNatClampNeg = (enc1 cs ++ tl).length := by rw [ls]; exact own_n (by omega)
  have lq : 2 * cs.length + tl.length = LB := by rw [← ls]; simp only [List.length_append, List.length_map, enc1_len]
  have lt_a1 := Es.lt
  have lt_bA := Vs.lt
  have n_ab : a1 ≠ bA := Exa.neArv Es Vs (tw hw 122 rfl)
  obtain ⟨T1, X1, e1, st1⟩ := getF X0 hx hZ hown (host := "") (Or.inl (tw hw 234 rfl)) Via.refl e0 Fv (g := (mkF m 1 (q_14 a1 i1) [(.ref a1)])) rfl rfl (d54 hby 1 rfl)
  obtain ⟨cl2, Ar2, q2, Sz2, Nn2, Ha2, Gf2⟩ := id Vs
  obtain ⟨T3, X3, e3, st3⟩ := getF X1 hx hZ hown (host := "") (Or.inl (tw hw 231 rfl)) Via.refl e1 Fc (g := (mkF m 6 (q_14 a1 i1) [(.ref a1), (vN LB)])) rfl rfl (d54 hby 4 rfl)
  have pf4 : ∀ target, Go p e w_ T3 m 14 (q_30 a1 i1 LB) [(.int ((Int32.ofNat i1) - (Int32.ofNat (LB / 2))))] target → Go p e w_ s₁ m 0 (q_14 a1 i1) [] target := by
    intro target k
    refine za X0 hx (d54 hby 0 rfl) rfl rfl <| st1 _ ?_
    show Go p e w_ T1 m 4 (q_14 a1 i1) [(.ref bA)] _
    refine X1.arraylength hx (by rw [e1]; exact Ar2.1) (State.isArrayOf_alike hZ.alike Ar2.2.1) (g := (mkF m 4 (q_14 a1 i1) [(.ref bA)])) rfl rfl (d54 hby 2 rfl) _ ?_
    rw [len_of Sz2 Nn2]
    refine za X1 hx (d54 hby 3 rfl) rfl rfl <| st3 _ <| XS.ishr X3.here hx rfl (d54 hby 5 rfl) rfl ?_
    show Go p e w_ T3 m 10 (q_14 a1 i1) [(.int ((Int32.ofNat LB) >>> ((1 : Int32) &&& 31)))] _
    rw [show ((Int32.ofNat LB) >>> ((1 : Int32) &&& 31)) = (Int32.ofNat (LB / 2)) from own_shr1 (n := LB) (by omega)]
    refine zs X3 hx (d54 hby 6 rfl) (Ls' := (q_30 a1 i1 LB)) rfl <| zl X3 hx (d54 hby 7 rfl) rfl <| zl X3 hx (d54 hby 8 rfl) rfl <| XS.isub X3.here hx rfl (d54 hby 9 rfl) rfl ?_
    exact k
  by_cases hc14 : (0 : Int32) < ((Int32.ofNat i1) - (Int32.ofNat (LB / 2)))
  · have hg : LB < 2 * i1 := by have q := (own_subpos (a := i1) (b := LB / 2) (by omega) (by omega)).mp hc14; omega
    obtain ⟨T5, X5, e5, st5⟩ := getF X3 hx hZ hown (host := "") (Or.inl (tw hw 234 rfl)) Via.refl e3 Fv (g := (mkF m 19 (q_30 a1 i1 LB) [(.ref a1), (.ref a1)])) rfl rfl (d54 hby 13 rfl)
    obtain ⟨_, T6, Lc6, X6, hQ6, st6⟩ := own_pc X5 hx hZ (y := Y_40) hown hml (tw hw 321 rfl) (tw hw 322 rfl) (tw hw 324 rfl) (tw hw 323 rfl) (rb_nc1 hw O0 ST a1 bA kA LB cs.length cs i1 HB hnn hg hi) (tw hw 325 rfl) (tw hw 225 rfl) e5 (Es) (W := 2) (Ls := (q_30 a1 i1 LB)) (argsL := [(vN i1)]) (rest := [(.ref bA), (.ref a1)]) (lenOf pd7 rfl) (d54 hby 16 rfl)
    obtain ⟨rfl, Nq6, e6⟩ := hQ6
    have N6 := Fr.app N0 Nq6
    obtain ⟨T7, X7, e7, st7⟩ := getF X6 hx hZ hown (host := "") (Or.inl (tw hw 231 rfl)) Via.refl e6 Fc (g := (mkF m 28 (q_30 a1 i1 LB) [(.ref a1), (vN ((LB + max (2 * i1 - LB) (LB + 4)) / 2)), (.ref bA), (.ref a1)])) rfl rfl (d54 hby 18 rfl)
    obtain ⟨_, T8, Lc8, X8, hQ8, st8⟩ := own_sc X7 hx hZ (y := Y_57) hown hml (tw hw 335 rfl) (tw hw 336 rfl) (ra_co hw O0 ST bA kA LB (enc1 cs ++ tl) (2 * ((LB + max (2 * i1 - LB) (LB + 4)) / 2)) Bs (by omega) (by omega) (by omega)) (tw hw 337 rfl) (tw hw 197 rfl) e7 (W := 1) (Ls := (q_30 a1 i1 LB)) (argsL := [(.ref bA), (vN (2 * ((LB + max (2 * i1 - LB) (LB + 4)) / 2)))]) (rest := [(.ref a1)]) (lenOf pd20 rfl) (d54 hby 20 rfl)
    obtain ⟨h8, e8⟩ : ∃ z, T8.heap = z := ⟨_, rfl⟩
    rw [e8] at hQ8
    obtain ⟨t8, kt8, rfl, Nq8, K8, szt8, Bt8, Et8⟩ := hQ8
    have N8 := Fr.app N6 Nq8
    have O9 := O0.keep K8 all0
    have kp10 : Keep h0 h8 [a1, bA] := (Keep.refl h0 [a1, bA]).trans K8 all0
    have sz_t8 := Nat.le_trans (Keep.refl h0 [a1, bA]).1 szt8
    have g_t8 : n0 ≤ t8 := Nat.le_trans (Nat.le_trans (Nat.le_of_eq O0.1.symm) O0.2.1) sz_t8
    have lt_a1_t8 : a1 < t8 := Nat.lt_of_lt_of_le lt_a1 sz_t8
    have lt_bA_t8 : bA < t8 := Nat.lt_of_lt_of_le lt_bA sz_t8
    have V_t8 : Arv Z h8 t8 kt8 .byte (Int32.ofNat (2 * ((LB + max (2 * i1 - LB) (LB + 4)) / 2))) (((enc1 cs ++ (tl ++ List.replicate ((2 * ((LB + max (2 * i1 - LB) (LB + 4)) / 2)) - LB) 0)).map Value.int)) (vL 0) := by rw [← List.append_assoc]; exact Bt8.1
    obtain ⟨T11, h11, X11, e11, W11, st11⟩ := putF X8 hx hZ hown (host := "") (Or.inl (tw hw 234 rfl)) Via.refl e8 (Fv.keep K8 nin0) (Es.keep K8) (Or.inl (tw hw 235 rfl)) (tw hw 122 rfl) (ty := (.array .byte)) (by decide) rfl rfl (g := (mkF m 35 (q_30 a1 i1 LB) [(.ref t8), (.ref a1)])) rfl rfl (d54 hby 21 rfl)
    have Fw11 := (Fv.keep K8 nin0).same W11
    have O12 := O9.wr W11 g_a1
    have kp13 := kp10.wr W11 (Or.inl (List.mem_of_getElem? (i := 0) rfl))
    have N11 := Fr.snoc X11 N8 g_a1
    refine own_lvV X11 hx hlk hret (d54 hby 22 rfl) (by decide) (by decide) (Ls := (q_30 a1 i1 LB)) (fun _ k => castTop (ef_ra_co m a1 (Int32.ofNat i1)) ?_) ?_
    · refine pf4 _ <| zg X3 hx (d54 hby 10 rfl) ((if0 _ _).trans (tlt hc14).2.2.2) <| za X3 hx (d54 hby 11 rfl) rfl rfl <| za X3 hx (d54 hby 12 rfl) rfl rfl <| st5 _ <| za X5 hx (d54 hby 14 rfl) rfl rfl <| zl X5 hx (d54 hby 15 rfl) rfl <| st6 _ <| za X6 hx (d54 hby 17 rfl) rfl rfl <| st7 _ <| XS.ishl X7.here hx rfl (d54 hby 19 rfl) rfl ?_
      show Go p e w_ T7 m 32 (q_30 a1 i1 LB) [(.int ((Int32.ofNat ((LB + max (2 * i1 - LB) (LB + 4)) / 2)) <<< ((1 : Int32) &&& 31))), (.ref bA), (.ref a1)] _
      rw [show ((Int32.ofNat ((LB + max (2 * i1 - LB) (LB + 4)) / 2)) <<< ((1 : Int32) &&& 31)) = (Int32.ofNat (2 * ((LB + max (2 * i1 - LB) (LB + 4)) / 2))) from own_shl1 ((LB + max (2 * i1 - LB) (LB + 4)) / 2)]
      refine st8 _ <| st11 _ ?_
      exact k
    · rw [e11]
      exact ⟨rfl, N11, kp13, t8, _, (2 * ((LB + max (2 * i1 - LB) (LB + 4)) / 2)), Or.inr sz_t8, ⟨((Es.keep K8).wr W11), Fw11, ((Fc.keep K8 nin0).other W11 (Or.inr (slot_ne (Or.inl (tw hw 232 rfl)) (Or.inl (tw hw 235 rfl)) (by decide) (t := .byte) (t' := (.array .byte)) (by decide) (by decide)))), ((Fn.keep K8 nin0).other W11 (Or.inr (slot_ne (Or.inl (tw hw 251 rfl)) (Or.inl (tw hw 235 rfl)) (by decide) (t := .int) (t' := (.array .byte)) (by decide) (by decide)))), ((Fy.keep K8 nin0).other W11 (Or.inr (slot_ne (Or.inl (tw hw 365 rfl)) (Or.inl (tw hw 235 rfl)) (by decide) (t := .boolean) (t' := (.array .byte)) (by decide) (by decide)))), (Et8.wr W11), (by omega), _, ⟨(V_t8.other W11 (Ne.symm (Nat.ne_of_lt lt_a1_t8))), by rw [← List.append_assoc]; exact Bt8.2⟩⟩, by omega, Or.inr (by omega)⟩
  · refine own_lvV X3 hx hlk hret (d54 hby 22 rfl) (by decide) (by decide) (Ls := (q_30 a1 i1 LB)) (fun _ k => castTop (ef_ra_co m a1 (Int32.ofNat i1)) ?_) ?_
    · refine pf4 _ <| zf X3 hx 14 38 (d54 hby 10 rfl) ((if0 _ _).trans (flt hc14).2.2.2) ?_
      exact k
    · rw [e3]
      exact ⟨rfl, N0, (Keep.refl h0 [a1, bA]), bA, kA, LB, Or.inl rfl, HB, by have q : ¬ LB / 2 < i1 := fun q => hc14 ((own_subpos (a := i1) (b := LB / 2) (by omega) (by omega)).mpr q); omega, Or.inl rfl⟩
theorem d59 : Dl cb36 [(0, .aload_n 0, 1), (1, .invokevirtual 83, 3), (4, .ifCond .ne 4, 3), (8, .aload_n 0, 1), (9, .getfield 15, 3), (12, .arraylength, 1), (13, .invokestatic 26, 3), (16, .astore_n 1, 1), (17, .aload_n 0, 1), (18, .getfield 15, 3), (21, .iconst 0, 1), (22, .aload_n 1, 1), (23, .iconst 0, 1), (24, .aload_n 0, 1), (25, .getfield 79, 3), (28, .invokestatic 125, 3), (7, .return_, 1)] := dlk (by decide +kernel)
theorem ef_rb_inf1 (m : MethodId) (x0 : Addr) : entryFrame m #[(.ref x0)] 2 = mkF m 0 #[.val (.ref x0), .unset] [] := by first | (simp [entryFrame, mkF, argsToLocals, Value.category]; done) | rfl
theorem rb_inf1 (a1 bA : Addr) (kA : ClassId) (LB : Nat) (cs : List UInt16) (HB : Sb1 Z h0 a1 bA kA LB cs.length cs) (hnn : cs.length ≤ 24) (g_a1 : n0 ≤ a1) (g_bA : n0 ≤ bA) :
    Mt (l := l) hw (ws := ws) O0 ST Y_75 jdk_68_method_11_code 2 none R_5 #[(.ref a1)] (Qpure none h0 n0) := by
  refine own_met (plainFor_of_name pn6) fun p e s m w_ meth c s₁ hx hby hml hZ hh hown hnm hret hlk X0 e0 => ?_
  have N0 := Fr.nil n0
  obtain ⟨Es, Fv, Fc, Fn, Fy, Eb, hL, tl, Bs⟩ := id HB
  have Vs := Bs.1
  have ls := Bs.2
  have hNs : (Int32.ofNat LB).toNatClampNeg = (enc1 cs ++ tl).length := by rw [ls]; exact own_n (by omega)
  have lq : 2 * cs.length + tl.length = LB := by rw [← ls]; simp only [List.length_append, List.length_map, enc1_len]
  have lt_a1 := Es.lt
  have lt_bA := Vs.lt
  have n_ab : a1 ≠ bA := Exa.neArv Es Vs (tw hw 122 rfl)
  obtain ⟨_, T1, Lc1, X1, hQ1, st1⟩ := own_vc X0 hx hZ (y := Y_3) hown hml (tw hw 284 rfl) (tw hw 285 rfl) (tw hw 287 rfl) (tw hw 286 rfl) (rb_il1 hw O0 ST a1 bA kA LB cs.length cs HB hnn) (tw hw 288 rfl) (tw hw 225 rfl) e0 Es (W := 0) (Ls := #[rv a1, .unset]) (argsL := []) (rest := []) (lenOf pd6 rfl) (d59 hby 1 rfl)
  obtain ⟨rfl, Nq1, e1⟩ := hQ1
  have N1 := Fr.app N0 Nq1
  refine own_lvV X1 hx hlk hret (d59 hby 16 rfl) (by decide) (by decide) (Ls := #[rv a1, .unset]) (fun _ k => castTop (ef_rb_inf1 m a1) ?_) ?_
  · refine za X0 hx (d59 hby 0 rfl) rfl rfl <| st1 _ <| zg X1 hx (d59 hby 2 rfl) ((if0 _ _).trans (teq (by decide)).2) ?_
    exact k
  · rw [e1]
    exact ⟨rfl, N1, rfl⟩
theorem d56 : Dl cb37 [(0, .getstatic 18, 3), (3, .ifCond .eq 18, 3), (6, .aload_n 0, 1), (7, .getfield 22, 3), (10, .aload_n 1, 1), (11, .invokevirtual 40, 3), (14, .if_icmp .eq 7, 3), (21, .return_, 1), (17, .aload_n 0, 1), (18, .invokevirtual 195, 3)] := dlk (by decide +kernel)
theorem rb_in00 (a1 bA : Addr) (kA : ClassId) (LB : Nat) (cs : List UInt16) (a2 bS : Addr) (kS : ClassId) (ds : List UInt16) (HB : Sb0 Z h0 a1 bA kA LB cs.length cs) (hnn : cs.length ≤ 24) (g_a1 : n0 ≤ a1) (g_bA : n0 ≤ bA) (HS : Str0 Z h0 a2 bS kS ds) (hds : ds.length ≤ 24) :
    Mt (l := l) hw (ws := ws) O0 ST Y_23 jdk_68_method_71_code 2 none R_8 #[(.ref a1), (.ref a2)] (Qpure none h0 n0) := by
  refine own_met (plainFor_of_name pn6) fun p e s m w_ meth c s₁ hx hby hml hZ hh hown hnm hret hlk X0 e0 => ?_
  have N0 := Fr.nil n0
  obtain ⟨S_cs, hG, S_fm, hF, S_ad, S_hi, S_lo⟩ := id ST
  obtain ⟨Es, Fv, Fc, Fn, Fy, Eb, hu, hL, tl, Bs⟩ := id HB
  have Vs := Bs.1
  have ls := Bs.2
  have hNs : (Int32.ofNat LB).toNatClampNeg = (cs.map cLo ++ tl).length := by rw [ls]; exact own_n (by omega)
  have lq : cs.length + tl.length = LB := by rw [← ls]; simp only [List.length_append, List.length_map, enc1_len]
  have lt_a1 := Es.lt
  have lt_bA := Vs.lt
  have n_ab : a1 ≠ bA := Exa.neArv Es Vs (tw hw 122 rfl)
  obtain ⟨E_a2, Fc_a2, Fv_a2, B_bS, hu_a2⟩ := id HS
  have lt_a2 := E_a2.lt
  have V_bS := B_bS.1
  have l_bS := B_bS.2
  have hN_bS : (Int32.ofNat ds.length).toNatClampNeg = (ds.map cLo).length := by rw [l_bS]; exact own_n (by omega)
  have lt_bS := V_bS.lt
  have n_21 : a2 ≠ a1 := Exa.ne E_a2 Es (by decide)
  have n_b1 : bS ≠ a1 := Ne.symm (Exa.neArv Es V_bS (tw hw 122 rfl))
  have n_2b : a2 ≠ bA := Exa.neArv E_a2 Vs (tw hw 13 rfl)
  have n_2s : a2 ≠ bS := Exa.neArv E_a2 V_bS (tw hw 13 rfl)
  obtain ⟨T1, X1, e1, st1⟩ := getS2 X0 hx hZ hown (host := "") (Or.inl (tw hw 267 rfl)) Via.refl e0 (S_cs.ext O0.2) (g := (mkF m 0 (q_1 a1 a2) [])) rfl (d56 hby 0 rfl)
  obtain ⟨T2, X2, e2, st2⟩ := getF X1 hx hZ hown (host := "") (Or.inl (tw hw 231 rfl)) Via.refl e1 Fc (g := (mkF m 7 (q_1 a1 a2) [(.ref a1)])) rfl rfl (d56 hby 3 rfl)
  obtain ⟨_, T3, Lc3, X3, hQ3, st3⟩ := own_vc X2 hx hZ (y := Y_1) hown hml (tw hw 230 rfl) (tw hw 47 rfl) (tw hw 49 rfl) (tw hw 48 rfl) (rs_cd0 hw O0 ST a2 bS kS ds HS hds) (tw hw 50 rfl) (tw hw 14 rfl) e2 E_a2 (W := 1) (Ls := (q_1 a1 a2)) (argsL := []) (rest := [(vL 0)]) (lenOf pd5 rfl) (d56 hby 5 rfl)
  obtain ⟨rfl, Nq3, e3⟩ := hQ3
  have N3 := Fr.app N0 Nq3
  have pf4 : ∀ target, Go p e w_ T3 m 14 (q_1 a1 a2) [(vL 0), (vL 0)] target → Go p e w_ s₁ m 0 (q_1 a1 a2) [] target := by
    intro target k
    refine st1 _ <| zg X1 hx (d56 hby 1 rfl) ((if0 _ _).trans (feq hG).1) <| za X1 hx (d56 hby 2 rfl) rfl rfl <| st2 _ <| za X2 hx (d56 hby 4 rfl) rfl rfl <| st3 _ ?_
    exact k
  refine own_lvV X3 hx hlk hret (d56 hby 7 rfl) (by decide) (by decide) (Ls := (q_1 a1 a2)) (fun _ k => castTop (ef_rs_iA m a1 a2) ?_) ?_
  · refine pf4 _ <| zy X3 hx 14 21 (d56 hby 6 rfl) (teq (by decide)).1 ?_
    exact k
  · rw [e3]
    exact ⟨rfl, N3, rfl⟩
theorem pd21 : parseMethodDescriptor "()V" = some ⟨[], none⟩ := by decide +kernel
theorem rb_in10 (a1 bA : Addr) (kA : ClassId) (LB : Nat) (cs : List UInt16) (a2 bS : Addr) (kS : ClassId) (ds : List UInt16) (HB : Sb1 Z h0 a1 bA kA LB cs.length cs) (hnn : cs.length ≤ 24) (g_a1 : n0 ≤ a1) (g_bA : n0 ≤ bA) (HS : Str0 Z h0 a2 bS kS ds) (hds : ds.length ≤ 24) :
    Mt (l := l) hw (ws := ws) O0 ST Y_23 jdk_68_method_71_code 2 none R_44 #[(.ref a1), (.ref a2)] (Qpure none h0 n0) := by
  refine own_met (plainFor_of_name pn6) fun p e s m w_ meth c s₁ hx hby hml hZ hh hown hnm hret hlk X0 e0 => ?_
  have N0 := Fr.nil n0
  obtain ⟨S_cs, hG, S_fm, hF, S_ad, S_hi, S_lo⟩ := id ST
  obtain ⟨Es, Fv, Fc, Fn, Fy, Eb, hL, tl, Bs⟩ := id HB
  have Vs := Bs.1
  have ls := Bs.2
  have hNs : (Int32.ofNat LB).toNatClampNeg = (enc1 cs ++ tl).length := by rw [ls]; exact own_n (by omega)
  have lq : 2 * cs.length + tl.length = LB := by rw [← ls]; simp only [List.length_append, List.length_map, enc1_len]
  have lt_a1 := Es.lt
  have lt_bA := Vs.lt
  have n_ab : a1 ≠ bA := Exa.neArv Es Vs (tw hw 122 rfl)
  obtain ⟨E_a2, Fc_a2, Fv_a2, B_bS, hu_a2⟩ := id HS
  have lt_a2 := E_a2.lt
  have V_bS := B_bS.1
  have l_bS := B_bS.2
  have hN_bS : (Int32.ofNat ds.length).toNatClampNeg = (ds.map cLo).length := by rw [l_bS]; exact own_n (by omega)
  have lt_bS := V_bS.lt
  have n_21 : a2 ≠ a1 := Exa.ne E_a2 Es (by decide)
  have n_b1 : bS ≠ a1 := Ne.symm (Exa.neArv Es V_bS (tw hw 122 rfl))
  have n_2b : a2 ≠ bA := Exa.neArv E_a2 Vs (tw hw 13 rfl)
  have n_2s : a2 ≠ bS := Exa.neArv E_a2 V_bS (tw hw 13 rfl)
  obtain ⟨T1, X1, e1, st1⟩ := getS2 X0 hx hZ hown (host := "") (Or.inl (tw hw 267 rfl)) Via.refl e0 (S_cs.ext O0.2) (g := (mkF m 0 (q_1 a1 a2) [])) rfl (d56 hby 0 rfl)
  obtain ⟨T2, X2, e2, st2⟩ := getF X1 hx hZ hown (host := "") (Or.inl (tw hw 231 rfl)) Via.refl e1 Fc (g := (mkF m 7 (q_1 a1 a2) [(.ref a1)])) rfl rfl (d56 hby 3 rfl)
  obtain ⟨_, T3, Lc3, X3, hQ3, st3⟩ := own_vc X2 hx hZ (y := Y_1) hown hml (tw hw 230 rfl) (tw hw 47 rfl) (tw hw 49 rfl) (tw hw 48 rfl) (rs_cd0 hw O0 ST a2 bS kS ds HS hds) (tw hw 50 rfl) (tw hw 14 rfl) e2 E_a2 (W := 1) (Ls := (q_1 a1 a2)) (argsL := []) (rest := [(vL 1)]) (lenOf pd5 rfl) (d56 hby 5 rfl)
  obtain ⟨rfl, Nq3, e3⟩ := hQ3
  have N3 := Fr.app N0 Nq3
  have pf4 : ∀ target, Go p e w_ T3 m 14 (q_1 a1 a2) [(vL 0), (vL 1)] target → Go p e w_ s₁ m 0 (q_1 a1 a2) [] target := by
    intro target k
    refine st1 _ <| zg X1 hx (d56 hby 1 rfl) ((if0 _ _).trans (feq hG).1) <| za X1 hx (d56 hby 2 rfl) rfl rfl <| st2 _ <| za X2 hx (d56 hby 4 rfl) rfl rfl <| st3 _ ?_
    exact k
  obtain ⟨_, T5, Lc5, X5, hQ5, st5⟩ := own_pc X3 hx hZ (y := Y_75) hown hml (tw hw 279 rfl) (tw hw 280 rfl) (tw hw 282 rfl) (tw hw 281 rfl) (rb_inf1 hw O0 ST a1 bA kA LB cs HB hnn g_a1 g_bA) (tw hw 283 rfl) (tw hw 225 rfl) e3 (Es) (W := 0) (Ls := (q_1 a1 a2)) (argsL := []) (rest := []) (lenOf pd21 rfl) (d56 hby 9 rfl)
  obtain ⟨rfl, Nq5, e5⟩ := hQ5
  have N5 := Fr.app N3 Nq5
  refine own_lvV X5 hx hlk hret (d56 hby 7 rfl) (by decide) (by decide) (Ls := (q_1 a1 a2)) (fun _ k => castTop (ef_rs_iA m a1 a2) ?_) ?_
  · refine pf4 _ <| zn X3 hx (d56 hby 6 rfl) (feq (by decide)).1 <| za X3 hx (d56 hby 8 rfl) rfl rfl <| st5 _ ?_
    exact k
  · rw [e5]
    exact ⟨rfl, N5, rfl⟩
theorem rb_in11 (a1 bA : Addr) (kA : ClassId) (LB : Nat) (cs : List UInt16) (a2 bS : Addr) (kS : ClassId) (ds : List UInt16) (HB : Sb1 Z h0 a1 bA kA LB cs.length cs) (hnn : cs.length ≤ 24) (g_a1 : n0 ≤ a1) (g_bA : n0 ≤ bA) (HS : Str1 Z h0 a2 bS kS ds) (hds : ds.length ≤ 24) :
    Mt (l := l) hw (ws := ws) O0 ST Y_23 jdk_68_method_71_code 2 none R_8 #[(.ref a1), (.ref a2)] (Qpure none h0 n0) := by
  refine own_met (plainFor_of_name pn6) fun p e s m w_ meth c s₁ hx hby hml hZ hh hown hnm hret hlk X0 e0 => ?_
  have N0 := Fr.nil n0
  obtain ⟨S_cs, hG, S_fm, hF, S_ad, S_hi, S_lo⟩ := id ST
  obtain ⟨Es, Fv, Fc, Fn, Fy, Eb, hL, tl, Bs⟩ := id HB
  have Vs := Bs.1
  have ls := Bs.2
  have hNs : (Int32.ofNat LB).toNatClampNeg = (enc1 cs ++ tl).length := by rw [ls]; exact own_n (by omega)
  have lq : 2 * cs.length + tl.length = LB := by rw [← ls]; simp only [List.length_append, List.length_map, enc1_len]
  have lt_a1 := Es.lt
  have lt_bA := Vs.lt
  have n_ab : a1 ≠ bA := Exa.neArv Es Vs (tw hw 122 rfl)
  obtain ⟨E_a2, Fc_a2, Fv_a2, B_bS⟩ := id HS
  have lt_a2 := E_a2.lt
  have V_bS := B_bS.1
  have l_bS := B_bS.2
  have hN_bS : (Int32.ofNat (2 * ds.length)).toNatClampNeg = (enc1 ds).length := by rw [l_bS]; exact own_n (by omega)
  have lt_bS := V_bS.lt
  have n_21 : a2 ≠ a1 := Exa.ne E_a2 Es (by decide)
  have n_b1 : bS ≠ a1 := Ne.symm (Exa.neArv Es V_bS (tw hw 122 rfl))
  have n_2b : a2 ≠ bA := Exa.neArv E_a2 Vs (tw hw 13 rfl)
  have n_2s : a2 ≠ bS := Exa.neArv E_a2 V_bS (tw hw 13 rfl)
  obtain ⟨T1, X1, e1, st1⟩ := getS2 X0 hx hZ hown (host := "") (Or.inl (tw hw 267 rfl)) Via.refl e0 (S_cs.ext O0.2) (g := (mkF m 0 (q_1 a1 a2) [])) rfl (d56 hby 0 rfl)
  obtain ⟨T2, X2, e2, st2⟩ := getF X1 hx hZ hown (host := "") (Or.inl (tw hw 231 rfl)) Via.refl e1 Fc (g := (mkF m 7 (q_1 a1 a2) [(.ref a1)])) rfl rfl (d56 hby 3 rfl)
  obtain ⟨_, T3, Lc3, X3, hQ3, st3⟩ := own_vc X2 hx hZ (y := Y_1) hown hml (tw hw 230 rfl) (tw hw 47 rfl) (tw hw 49 rfl) (tw hw 48 rfl) (rs_cd1 hw O0 ST a2 bS kS ds HS hds) (tw hw 50 rfl) (tw hw 14 rfl) e2 E_a2 (W := 1) (Ls := (q_1 a1 a2)) (argsL := []) (rest := [(vL 1)]) (lenOf pd5 rfl) (d56 hby 5 rfl)
  obtain ⟨rfl, Nq3, e3⟩ := hQ3
  have N3 := Fr.app N0 Nq3
  have pf4 : ∀ target, Go p e w_ T3 m 14 (q_1 a1 a2) [(vL 1), (vL 1)] target → Go p e w_ s₁ m 0 (q_1 a1 a2) [] target := by
    intro target k
    refine st1 _ <| zg X1 hx (d56 hby 1 rfl) ((if0 _ _).trans (feq hG).1) <| za X1 hx (d56 hby 2 rfl) rfl rfl <| st2 _ <| za X2 hx (d56 hby 4 rfl) rfl rfl <| st3 _ ?_
    exact k
  refine own_lvV X3 hx hlk hret (d56 hby 7 rfl) (by decide) (by decide) (Ls := (q_1 a1 a2)) (fun _ k => castTop (ef_rs_iA m a1 a2) ?_) ?_
  · refine pf4 _ <| zy X3 hx 14 21 (d56 hby 6 rfl) (teq (by decide)).1 ?_
    exact k
  · rw [e3]
    exact ⟨rfl, N3, rfl⟩
theorem d57 : Dl cb38 [(0, .aload_n 0, 1), (1, .invokevirtual 335, 3), (4, .iload_n 3, 1), (5, .if_icmp .ne 23, 3), (8, .aload_n 0, 1), (9, .getfield 9, 3), (12, .iconst 0, 1), (13, .aload_n 1, 1), (14, .iload_n 2, 1), (15, .iload_n 3, 1), (16, .ishl, 1), (17, .aload_n 0, 1), (18, .getfield 9, 3), (21, .arraylength, 1), (22, .invokestatic 212, 3), (25, .goto 18, 3), (43, .return_, 1), (28, .aload_n 0, 1), (29, .getfield 9, 3), (32, .iconst 0, 1), (33, .aload_n 1, 1), (34, .iload_n 2, 1), (35, .aload_n 0, 1), (36, .getfield 9, 3), (39, .arraylength, 1), (40, .invokestatic 106, 3)] := dlk (by decide +kernel)
theorem ef_rs_gb00 (m : MethodId) (x0 : Addr) (x1 : Addr) (x2 : Int32) (x3 : Int32) : entryFrame m #[(.ref x0), (.ref x1), (.int x2), (.int x3)] 4 = mkF m 0 #[.val (.ref x0), .val (.ref x1), .val (.int x2), .val (.int x3)] [] := by first | (simp [entryFrame, mkF, argsToLocals, Value.category]; done) | rfl
theorem rs_gb00 (a1 bA : Addr) (kA : ClassId) (ds : List UInt16) (a2 : Addr) (kD : ClassId) (LD : Nat) (lst : List Int32) (i1 : Nat) (HS : Str0 Z h0 a1 bA kA ds) (hds : ds.length ≤ 24) (B2 : Bar Z h0 a2 kD LD lst) (hD : LD ≤ 110) (hfit : (i1 + ds.length) ≤ LD) (n12 : a1 ≠ a2) (nb2 : bA ≠ a2) (g_a2 : n0 ≤ a2) :
    Mt (l := l) hw (ws := ws) O0 ST Y_8 jdk_42_method_147_code 4 none R_32 #[(.ref a1), (.ref a2), (vN i1), (vL 0)] (Qwr Z a2 kD LD (lst.take (i1) ++ (ds.map cLo) ++ lst.drop (i1 + ds.length)) h0 n0) := by
  refine own_met (plainFor_of_name pn2) fun p e s m w_ meth c s₁ hx hby hml hZ hh hown hnm hret hlk X0 e0 => ?_
  have N0 := Fr.nil n0
  obtain ⟨E_a1, Fc_a1, Fv_a1, B_bA, hu_a1⟩ := id HS
  have lt_a1 := E_a1.lt
  have V_bA := B_bA.1
  have l_bA := B_bA.2
  have hN_bA : (Int32.ofNat ds.length).toNatClampNeg = (ds.map cLo).length := by rw [l_bA]; exact own_n (by omega)
  have lt_bA := V_bA.lt
  have V_a2 := B2.1
  have l_a2 := B2.2
  have hN_a2 : (Int32.ofNat LD).toNatClampNeg = lst.length := by rw [l_a2]; exact own_n (by omega)
  have lt_a2 := V_a2.lt
  obtain ⟨_, T1, Lc1, X1, hQ1, st1⟩ := own_vc X0 hx hZ (y := Y_1) hown hml (tw hw 46 rfl) (tw hw 47 rfl) (tw hw 49 rfl) (tw hw 48 rfl) (rs_cd0 hw O0 ST a1 bA kA ds HS hds) (tw hw 50 rfl) (tw hw 14 rfl) e0 E_a1 (W := 0) (Ls := (q_36 a1 a2 i1)) (argsL := []) (rest := []) (lenOf pd5 rfl) (d57 hby 1 rfl)
  obtain ⟨rfl, Nq1, e1⟩ := hQ1
  have N1 := Fr.app N0 Nq1
  obtain ⟨T2, X2, e2, st2⟩ := getF X1 hx hZ hown (host := "") (Or.inl (tw hw 31 rfl)) Via.refl e1 Fv_a1 (g := (mkF m 9 (q_36 a1 a2 i1) [(.ref a1)])) rfl rfl (d57 hby 5 rfl)
  obtain ⟨T3, X3, e3, st3⟩ := getF X2 hx hZ hown (host := "") (Or.inl (tw hw 31 rfl)) Via.refl e2 Fv_a1 (g := (mkF m 18 (q_36 a1 a2 i1) [(.ref a1), (vN i1), (.ref a2), (vL 0), (.ref bA)])) rfl rfl (d57 hby 12 rfl)
  obtain ⟨cl4, Ar4, q4, Sz4, Nn4, Ha4, Gf4⟩ := id V_bA
  obtain ⟨T5, h5, L5, X5, e5, N5, K5, Vr5, st5⟩ := cpA X3 hx hZ hown (tw hw 273 rfl) (tw hw 212 rfl) (tw hw 210 rfl) (tw hw 211 rfl) e3 V_bA V_a2 (Or.inl ⟨rfl, rfl⟩) (sp := (0 : Int32)) (dp := (Int32.ofNat i1)) (nn := (Int32.ofNat ds.length)) (us := ((((ds.map cLo).drop 0).take (ds.length)).map Value.int)) (by decide) (own_nn (n := i1) (by omega)) (own_nn (n := ds.length) (by omega)) (by rw [own_n (n := ds.length) (by omega), show (0 : Int32).toNatClampNeg = 0 by decide]; omega) (by rw [own_n (n := ds.length) (by omega), own_n (n := i1) (by omega), own_n (n := LD) (by omega)]; omega) (own_us (by decide) (own_n (n := ds.length) (by omega)) (by rw [List.length_map]; omega)) (by rw [List.length_map, own_n (n := ds.length) (by omega), own_n (n := i1) (by omega)]; omega) N1 g_a2 (g := (mkF m 22 (q_36 a1 a2 i1) [(vN ds.length), (vN i1), (.ref a2), (vL 0), (.ref bA)])) rfl (by rw [hml]; rfl) rfl (d57 hby 14 rfl) (by decide) (W := 0) (by show 2 * 0 + _ ≤ _; exact Nat.le_of_eq rfl) (by decide)
  have O6 := O0.keep K5 (allS g_a2 all0)
  have kp7 : Keep h0 h5 [a2] := (Keep.refl h0 [a2]).trans K5 (allS (Or.inl (List.mem_of_getElem? (i := 0) rfl)) all0)
  have Bg : Bar Z h5 a2 kD LD (lst.take (i1) ++ (ds.map cLo) ++ lst.drop (i1 + ds.length)) := ⟨by have q := Vr5; rw [own_n (n := ds.length) (by omega), own_n (n := i1) (by omega), own_cpy (src := (ds.map cLo)) (by rw [List.length_map])] at q; exact q, by simp only [List.length_append, List.length_take, List.length_drop, List.length_map]; omega⟩
  refine own_lvV X5 hx hlk hret (d57 hby 16 rfl) (by decide) (by decide) (Ls := (q_36 a1 a2 i1)) (fun _ k => castTop (ef_rs_gb00 m a1 a2 (Int32.ofNat i1) (0 : Int32)) ?_) ?_
  · refine za X0 hx (d57 hby 0 rfl) rfl rfl <| st1 _ <| zl X1 hx (d57 hby 2 rfl) rfl <| zn X1 hx (d57 hby 3 rfl) (teq (by decide)).2 <| za X1 hx (d57 hby 4 rfl) rfl rfl <| st2 _ <| zc X2 hx (d57 hby 6 rfl) <| za X2 hx (d57 hby 7 rfl) rfl rfl <| zl X2 hx (d57 hby 8 rfl) rfl <| zl X2 hx (d57 hby 9 rfl) rfl <| XS.ishl X2.here hx rfl (d57 hby 10 rfl) rfl ?_
    show Go p e w_ T2 m 17 (q_36 a1 a2 i1) [(.int ((Int32.ofNat i1) <<< ((0 : Int32) &&& 31))), (.ref a2), (.int (0 : Int32)), (.ref bA)] _
    rw [show ((Int32.ofNat i1) <<< ((0 : Int32) &&& 31)) = (Int32.ofNat i1) from own_shl0 _]
    refine za X2 hx (d57 hby 11 rfl) rfl rfl <| st3 _ ?_
    show Go p e w_ T3 m 21 (q_36 a1 a2 i1) [(.ref bA), (vN i1), (.ref a2), (vL 0), (.ref bA)] _
    refine X3.arraylength hx (by rw [e3]; exact Ar4.1) (State.isArrayOf_alike hZ.alike Ar4.2.1) (g := (mkF m 21 (q_36 a1 a2 i1) [(.ref bA), (vN i1), (.ref a2), (vL 0), (.ref bA)])) rfl rfl (d57 hby 13 rfl) _ ?_
    rw [len_of Sz4 Nn4]
    refine st5 _ <| zo X5 hx 25 43 (d57 hby 15 rfl) ?_
    exact k
  · rw [e5]
    exact ⟨rfl, N5, kp7, Bg⟩
theorem rs_gb11 (a1 bA : Addr) (kA : ClassId) (ds : List UInt16) (a2 : Addr) (kD : ClassId) (LD : Nat) (lst : List Int32) (i1 : Nat) (HS : Str1 Z h0 a1 bA kA ds) (hds : ds.length ≤ 24) (B2 : Bar Z h0 a2 kD LD lst) (hD : LD ≤ 110) (hfit : 2 * (i1 + ds.length) ≤ LD) (n12 : a1 ≠ a2) (nb2 : bA ≠ a2) (g_a2 : n0 ≤ a2) :
    Mt (l := l) hw (ws := ws) O0 ST Y_8 jdk_42_method_147_code 4 none R_32 #[(.ref a1), (.ref a2), (vN i1), (vL 1)] (Qwr Z a2 kD LD (lst.take (2 * i1) ++ (enc1 ds) ++ lst.drop (2 * i1 + 2 * ds.length)) h0 n0) := by
  refine own_met (plainFor_of_name pn2) fun p e s m w_ meth c s₁ hx hby hml hZ hh hown hnm hret hlk X0 e0 => ?_
  have N0 := Fr.nil n0
  obtain ⟨E_a1, Fc_a1, Fv_a1, B_bA⟩ := id HS
  have lt_a1 := E_a1.lt
  have V_bA := B_bA.1
  have l_bA := B_bA.2
  have hN_bA : (Int32.ofNat (2 * ds.length)).toNatClampNeg = (enc1 ds).length := by rw [l_bA]; exact own_n (by omega)
  have lt_bA := V_bA.lt
  have V_a2 := B2.1
  have l_a2 := B2.2
  have hN_a2 : (Int32.ofNat LD).toNatClampNeg = lst.length := by rw [l_a2]; exact own_n (by omega)
  have lt_a2 := V_a2.lt
  obtain ⟨_, T1, Lc1, X1, hQ1, st1⟩ := own_vc X0 hx hZ (y := Y_1) hown hml (tw hw 46 rfl) (tw hw 47 rfl) (tw hw 49 rfl) (tw hw 48 rfl) (rs_cd1 hw O0 ST a1 bA kA ds HS hds) (tw hw 50 rfl) (tw hw 14 rfl) e0 E_a1 (W := 0) (Ls := (q_15 a1 a2 i1)) (argsL := []) (rest := []) (lenOf pd5 rfl) (d57 hby 1 rfl)
  obtain ⟨rfl, Nq1, e1⟩ := hQ1
  have N1 := Fr.app N0 Nq1
  obtain ⟨T2, X2, e2, st2⟩ := getF X1 hx hZ hown (host := "") (Or.inl (tw hw 31 rfl)) Via.refl e1 Fv_a1 (g := (mkF m 9 (q_15 a1 a2 i1) [(.ref a1)])) rfl rfl (d57 hby 5 rfl)
  obtain ⟨T3, X3, e3, st3⟩ := getF X2 hx hZ hown (host := "") (Or.inl (tw hw 31 rfl)) Via.refl e2 Fv_a1 (g := (mkF m 18 (q_15 a1 a2 i1) [(.ref a1), (vN (2 * i1)), (.ref a2), (vL 0), (.ref bA)])) rfl rfl (d57 hby 12 rfl)
  obtain ⟨cl4, Ar4, q4, Sz4, Nn4, Ha4, Gf4⟩ := id V_bA
  obtain ⟨T5, h5, L5, X5, e5, N5, K5, Vr5, st5⟩ := cpA X3 hx hZ hown (tw hw 273 rfl) (tw hw 212 rfl) (tw hw 210 rfl) (tw hw 211 rfl) e3 V_bA V_a2 (Or.inl ⟨rfl, rfl⟩) (sp := (0 : Int32)) (dp := (Int32.ofNat (2 * i1))) (nn := (Int32.ofNat (2 * ds.length))) (us := ((((enc1 ds).drop 0).take (2 * ds.length)).map Value.int)) (by decide) (own_nn (n := 2 * i1) (by omega)) (own_nn (n := 2 * ds.length) (by omega)) (by rw [own_n (n := 2 * ds.length) (by omega), show (0 : Int32).toNatClampNeg = 0 by decide]; omega) (by rw [own_n (n := 2 * ds.length) (by omega), own_n (n := 2 * i1) (by omega), own_n (n := LD) (by omega)]; omega) (own_us (by decide) (own_n (n := 2 * ds.length) (by omega)) (by rw [enc1_len]; omega)) (by rw [List.length_map, own_n (n := 2 * ds.length) (by omega), own_n (n := 2 * i1) (by omega)]; omega) N1 g_a2 (g := (mkF m 22 (q_15 a1 a2 i1) [(vN (2 * ds.length)), (vN (2 * i1)), (.ref a2), (vL 0), (.ref bA)])) rfl (by rw [hml]; rfl) rfl (d57 hby 14 rfl) (by decide) (W := 0) (by show 2 * 0 + _ ≤ _; exact Nat.le_of_eq rfl) (by decide)
  have O6 := O0.keep K5 (allS g_a2 all0)
  have kp7 : Keep h0 h5 [a2] := (Keep.refl h0 [a2]).trans K5 (allS (Or.inl (List.mem_of_getElem? (i := 0) rfl)) all0)
  have Bg : Bar Z h5 a2 kD LD (lst.take (2 * i1) ++ (enc1 ds) ++ lst.drop (2 * i1 + 2 * ds.length)) := ⟨by have q := Vr5; rw [own_n (n := 2 * ds.length) (by omega), own_n (n := 2 * i1) (by omega), own_cpy (src := (enc1 ds)) (by rw [enc1_len])] at q; exact q, by simp only [List.length_append, List.length_take, List.length_drop, enc1_len]; omega⟩
  refine own_lvV X5 hx hlk hret (d57 hby 16 rfl) (by decide) (by decide) (Ls := (q_15 a1 a2 i1)) (fun _ k => castTop (ef_rs_gb00 m a1 a2 (Int32.ofNat i1) (1 : Int32)) ?_) ?_
  · refine za X0 hx (d57 hby 0 rfl) rfl rfl <| st1 _ <| zl X1 hx (d57 hby 2 rfl) rfl <| zn X1 hx (d57 hby 3 rfl) (teq (by decide)).2 <| za X1 hx (d57 hby 4 rfl) rfl rfl <| st2 _ <| zc X2 hx (d57 hby 6 rfl) <| za X2 hx (d57 hby 7 rfl) rfl rfl <| zl X2 hx (d57 hby 8 rfl) rfl <| zl X2 hx (d57 hby 9 rfl) rfl <| XS.ishl X2.here hx rfl (d57 hby 10 rfl) rfl ?_
    show Go p e w_ T2 m 17 (q_15 a1 a2 i1) [(.int ((Int32.ofNat i1) <<< ((1 : Int32) &&& 31))), (.ref a2), (.int (0 : Int32)), (.ref bA)] _
    rw [show ((Int32.ofNat i1) <<< ((1 : Int32) &&& 31)) = (Int32.ofNat (2 * i1)) from own_shl1 i1]
    refine za X2 hx (d57 hby 11 rfl) rfl rfl <| st3 _ ?_
    show Go p e w_ T3 m 21 (q_15 a1 a2 i1) [(.ref bA), (vN (2 * i1)), (.ref a2), (vL 0), (.ref bA)] _
    refine X3.arraylength hx (by rw [e3]; exact Ar4.1) (State.isArrayOf_alike hZ.alike Ar4.2.1) (g := (mkF m 21 (q_15 a1 a2 i1) [(.ref bA), (vN (2 * i1)), (.ref a2), (vL 0), (.ref bA)])) rfl rfl (d57 hby 13 rfl) _ ?_
    rw [len_of Sz4 Nn4]
    refine st5 _ <| zo X5 hx 25 43 (d57 hby 15 rfl) ?_
    exact k
  · rw [e5]
    exact ⟨rfl, N5, kp7, Bg⟩
theorem rs_gb10 (a1 bA : Addr) (kA : ClassId) (ds : List UInt16) (a2 : Addr) (kD : ClassId) (LD : Nat) (lst : List Int32) (i1 : Nat) (HS : Str0 Z h0 a1 bA kA ds) (hds : ds.length ≤ 24) (B2 : Bar Z h0 a2 kD LD lst) (hD : LD ≤ 110) (hfit : 2 * (i1 + ds.length) ≤ LD) (n12 : a1 ≠ a2) (nb2 : bA ≠ a2) (g_a2 : n0 ≤ a2) :
    Mt (l := l) hw (ws := ws) O0 ST Y_8 jdk_42_method_147_code 4 none R_45 #[(.ref a1), (.ref a2), (vN i1), (vL 1)] (Qwr Z a2 kD LD (puts lst i1 ds) h0 n0) := by
  refine own_met (plainFor_of_name pn2) fun p e s m w_ meth c s₁ hx hby hml hZ hh hown hnm hret hlk X0 e0 => ?_
  have N0 := Fr.nil n0
  obtain ⟨E_a1, Fc_a1, Fv_a1, B_bA, hu_a1⟩ := id HS
  have lt_a1 := E_a1.lt
  have V_bA := B_bA.1
  have l_bA := B_bA.2
  have hN_bA : (Int32.ofNat ds.length).toNatClampNeg = (ds.map cLo).length := by rw [l_bA]; exact own_n (by omega)
  have lt_bA := V_bA.lt
  have V_a2 := B2.1
  have l_a2 := B2.2
  have hN_a2 : (Int32.ofNat LD).toNatClampNeg = lst.length := by rw [l_a2]; exact own_n (by omega)
  have lt_a2 := V_a2.lt
  obtain ⟨_, T1, Lc1, X1, hQ1, st1⟩ := own_vc X0 hx hZ (y := Y_1) hown hml (tw hw 46 rfl) (tw hw 47 rfl) (tw hw 49 rfl) (tw hw 48 rfl) (rs_cd0 hw O0 ST a1 bA kA ds HS hds) (tw hw 50 rfl) (tw hw 14 rfl) e0 E_a1 (W := 0) (Ls := (q_15 a1 a2 i1)) (argsL := []) (rest := []) (lenOf pd5 rfl) (d57 hby 1 rfl)
  obtain ⟨rfl, Nq1, e1⟩ := hQ1
  have N1 := Fr.app N0 Nq1
  obtain ⟨T2, X2, e2, st2⟩ := getF X1 hx hZ hown (host := "") (Or.inl (tw hw 31 rfl)) Via.refl e1 Fv_a1 (g := (mkF m 29 (q_15 a1 a2 i1) [(.ref a1)])) rfl rfl (d57 hby 18 rfl)
  obtain ⟨T3, X3, e3, st3⟩ := getF X2 hx hZ hown (host := "") (Or.inl (tw hw 31 rfl)) Via.refl e2 Fv_a1 (g := (mkF m 36 (q_15 a1 a2 i1) [(.ref a1), (vN i1), (.ref a2), (vL 0), (.ref bA)])) rfl rfl (d57 hby 23 rfl)
  obtain ⟨cl4, Ar4, q4, Sz4, Nn4, Ha4, Gf4⟩ := id V_bA
  obtain ⟨_, T5, Lc5, X5, hQ5, st5⟩ := own_sc X3 hx hZ (y := Y_73) hown hml (tw hw 289 rfl) (tw hw 290 rfl) (rl_inf hw O0 ST bA kA ds.length (ds.map cLo) a2 kD LD lst ds i1 B_bA B2 (by omega) hD (by omega) own_srcB hu_a1 hfit nb2 g_a2) (tw hw 292 rfl) (tw hw 291 rfl) e3 (W := 0) (Ls := (q_15 a1 a2 i1)) (argsL := [(.ref bA), (vL 0), (.ref a2), (vN i1), (vN ds.length)]) (rest := []) (lenOf pd12 rfl) (d57 hby 25 rfl)
  obtain ⟨h5, e5⟩ : ∃ z, T5.heap = z := ⟨_, rfl⟩
  rw [e5] at hQ5
  obtain ⟨rfl, Nq5, K5, Bi5⟩ := hQ5
  have N5 := Fr.app N1 Nq5
  have O6 := O0.keep K5 (allS g_a2 all0)
  have kp7 : Keep h0 h5 [a2] := (Keep.refl h0 [a2]).trans K5 (allS (Or.inl (List.mem_of_getElem? (i := 0) rfl)) all0)
  have Bg := Bi5
  refine own_lvV X5 hx hlk hret (d57 hby 16 rfl) (by decide) (by decide) (Ls := (q_15 a1 a2 i1)) (fun _ k => castTop (ef_rs_gb00 m a1 a2 (Int32.ofNat i1) (1 : Int32)) ?_) ?_
  · refine za X0 hx (d57 hby 0 rfl) rfl rfl <| st1 _ <| zl X1 hx (d57 hby 2 rfl) rfl <| zy X1 hx 5 28 (d57 hby 3 rfl) (feq (by decide)).2 <| za X1 hx (d57 hby 17 rfl) rfl rfl <| st2 _ <| zc X2 hx (d57 hby 19 rfl) <| za X2 hx (d57 hby 20 rfl) rfl rfl <| zl X2 hx (d57 hby 21 rfl) rfl <| za X2 hx (d57 hby 22 rfl) rfl rfl <| st3 _ ?_
    show Go p e w_ T3 m 39 (q_15 a1 a2 i1) [(.ref bA), (vN i1), (.ref a2), (vL 0), (.ref bA)] _
    refine X3.arraylength hx (by rw [e3]; exact Ar4.1) (State.isArrayOf_alike hZ.alike Ar4.2.1) (g := (mkF m 39 (q_15 a1 a2 i1) [(.ref bA), (vN i1), (.ref a2), (vL 0), (.ref bA)])) rfl rfl (d57 hby 24 rfl) _ ?_
    rw [len_of Sz4 Nn4]
    refine st5 _ ?_
    exact k
  · rw [e5]
    exact ⟨rfl, N5, kp7, Bg⟩
theorem d55 : Dl cb39 [(0, .aload_n 0, 1), (1, .aload_n 2, 1), (2, .invokevirtual 397, 3), (5, .aload_n 2, 1), (6, .aload_n 0, 1), (7, .getfield 15, 3), (10, .iload_n 1, 1), (11, .aload_n 0, 1), (12, .getfield 22, 3), (15, .invokevirtual 399, 3), (18, .return_, 1)] := dlk (by decide +kernel)
theorem pd22 : parseMethodDescriptor "(Ljava/lang/String;)V" = some ⟨[(.object "java/lang/String")], none⟩ := by decide +kernel
theorem pd23 : parseMethodDescriptor "([BIB)V" = some ⟨[(.array .byte), .int, .byte], none⟩ := by decide +kernel
theorem ef_rb_ps00 (m : MethodId) (x0 : Addr) (x1 : Int32) (x2 : Addr) : entryFrame m #[(.ref x0), (.int x1), (.ref x2)] 3 = mkF m 0 #[.val (.ref x0), .val (.int x1), .val (.ref x2)] [] := by first | (simp [entryFrame, mkF, argsToLocals, Value.category]; done) | rfl
theorem rb_ps00 (a1 bA : Addr) (kA : ClassId) (LB : Nat) (cs : List UInt16) (a2 bS : Addr) (kS : ClassId) (ds : List UInt16) (HB : Sb0 Z h0 a1 bA kA LB cs.length cs) (hnn : cs.length ≤ 24) (g_a1 : n0 ≤ a1) (g_bA : n0 ≤ bA) (HS : Str0 Z h0 a2 bS kS ds) (hds : ds.length ≤ 24) (hfit : (cs.length + ds.length) ≤ LB) (htot : cs.length + ds.length ≤ 24) (nSb : bS ≠ bA) :
    Mt (l := l) hw (ws := ws) O0 ST Y_24 jdk_68_method_73_code 3 none R_33 #[(.ref a1), (vN cs.length), (.ref a2)] (Qsv (fun h b k LB' => Sb0 Z h a1 b k LB' cs.length (cs ++ ds) ∧ LB' = LB) none a1 bA h0 n0) := by
  refine own_met (plainFor_of_name pn6) fun p e s m w_ meth c s₁ hx hby hml hZ hh hown hnm hret hlk X0 e0 => ?_
  have N0 := Fr.nil n0
  obtain ⟨Es, Fv, Fc, Fn, Fy, Eb, hu, hL, tl, Bs⟩ := id HB
  have Vs := Bs.1
  have ls := Bs.2
  have hNs : (Int32.ofNat LB).toNatClampNeg = (cs.map cLo ++ tl).length := by rw [ls]; exact own_n (by omega)
  have lq : cs.length + tl.length = LB := by rw [← ls]; simp only [List.length_append, List.length_map, enc1_len]
  have lt_a1 := Es.lt
  have lt_bA := Vs.lt
  have n_ab : a1 ≠ bA := Exa.neArv Es Vs (tw hw 122 rfl)
  obtain ⟨E_a2, Fc_a2, Fv_a2, B_bS, hu_a2⟩ := id HS
  have lt_a2 := E_a2.lt
  have V_bS := B_bS.1
  have l_bS := B_bS.2
  have hN_bS : (Int32.ofNat ds.length).toNatClampNeg = (ds.map cLo).length := by rw [l_bS]; exact own_n (by omega)
  have lt_bS := V_bS.lt
  have n_21 : a2 ≠ a1 := Exa.ne E_a2 Es (by decide)
  have n_b1 : bS ≠ a1 := Ne.symm (Exa.neArv Es V_bS (tw hw 122 rfl))
  have n_2b : a2 ≠ bA := Exa.neArv E_a2 Vs (tw hw 13 rfl)
  have n_2s : a2 ≠ bS := Exa.neArv E_a2 V_bS (tw hw 13 rfl)
  obtain ⟨_, T1, Lc1, X1, hQ1, st1⟩ := own_pc X0 hx hZ (y := Y_23) hown hml (tw hw 262 rfl) (tw hw 263 rfl) (tw hw 265 rfl) (tw hw 264 rfl) (rb_in00 hw O0 ST a1 bA kA LB cs a2 bS kS ds HB hnn g_a1 g_bA HS hds) (tw hw 266 rfl) (tw hw 225 rfl) e0 (Es) (W := 0) (Ls := (q_8 a1 cs a2)) (argsL := [(.ref a2)]) (rest := []) (lenOf pd22 rfl) (d55 hby 2 rfl)
  obtain ⟨rfl, Nq1, e1⟩ := hQ1
  have N1 := Fr.app N0 Nq1
  obtain ⟨T2, X2, e2, st2⟩ := getF X1 hx hZ hown (host := "") (Or.inl (tw hw 234 rfl)) Via.refl e1 Fv (g := (mkF m 7 (q_8 a1 cs a2) [(.ref a1), (.ref a2)])) rfl rfl (d55 hby 5 rfl)
  obtain ⟨T3, X3, e3, st3⟩ := getF X2 hx hZ hown (host := "") (Or.inl (tw hw 231 rfl)) Via.refl e2 Fc (g := (mkF m 12 (q_8 a1 cs a2) [(.ref a1), (vN cs.length), (.ref bA), (.ref a2)])) rfl rfl (d55 hby 8 rfl)
  obtain ⟨_, T4, Lc4, X4, hQ4, st4⟩ := own_vc X3 hx hZ (y := Y_8) hown hml (tw hw 268 rfl) (tw hw 269 rfl) (tw hw 271 rfl) (tw hw 270 rfl) (rs_gb00 hw O0 ST a2 bS kS ds bA kA LB (cs.map cLo ++ tl) cs.length ⟨E_a2, Fc_a2, Fv_a2, ⟨V_bS, B_bS.2⟩, hu_a2⟩ hds ⟨Vs, ls⟩ (by omega) (by omega) n_2b nSb g_bA) (tw hw 272 rfl) (tw hw 14 rfl) e3 E_a2 (W := 0) (Ls := (q_8 a1 cs a2)) (argsL := [(.ref bA), (vN cs.length), (vL 0)]) (rest := []) (lenOf pd23 rfl) (d55 hby 9 rfl)
  obtain ⟨h4, e4⟩ : ∃ z, T4.heap = z := ⟨_, rfl⟩
  rw [e4] at hQ4
  obtain ⟨rfl, Nq4, K4, Bi4⟩ := hQ4
  have N4 := Fr.app N1 Nq4
  have O5 := O0.keep K4 (allS g_bA all0)
  have kp6 : Keep h0 h4 [a1, bA] := (Keep.refl h0 [a1, bA]).trans K4 (allS (Or.inl (List.mem_of_getElem? (i := 1) rfl)) all0)
  have Bq : Bar Z h4 bA kA LB ((cs ++ ds).map cLo ++ tl.drop ds.length) := by rw [← own_w0]; exact Bi4
  refine own_lvV X4 hx hlk hret (d55 hby 10 rfl) (by decide) (by decide) (Ls := (q_8 a1 cs a2)) (fun _ k => castTop (ef_rb_ps00 m a1 (Int32.ofNat cs.length) a2) ?_) ?_
  · refine za X0 hx (d55 hby 0 rfl) rfl rfl <| za X0 hx (d55 hby 1 rfl) rfl rfl <| st1 _ <| za X1 hx (d55 hby 3 rfl) rfl rfl <| za X1 hx (d55 hby 4 rfl) rfl rfl <| st2 _ <| zl X2 hx (d55 hby 6 rfl) rfl <| za X2 hx (d55 hby 7 rfl) rfl rfl <| st3 _ <| st4 _ ?_
    exact k
  · rw [e4]
    exact ⟨rfl, N4, kp6, bA, _, LB, Or.inl rfl, ⟨(Es.keep K4), (Fv.keep K4 (ninS n_ab nin0)), (Fc.keep K4 (ninS n_ab nin0)), (Fn.keep K4 (ninS n_ab nin0)), (Fy.keep K4 (ninS n_ab nin0)), (Eb.keep K4), (own_all hu hu_a2), (by omega), _, ⟨Bq.1, Bq.2⟩⟩, rfl⟩
theorem rb_ps10 (a1 bA : Addr) (kA : ClassId) (LB : Nat) (cs : List UInt16) (a2 bS : Addr) (kS : ClassId) (ds : List UInt16) (HB : Sb1 Z h0 a1 bA kA LB cs.length cs) (hnn : cs.length ≤ 24) (g_a1 : n0 ≤ a1) (g_bA : n0 ≤ bA) (HS : Str0 Z h0 a2 bS kS ds) (hds : ds.length ≤ 24) (hfit : 2 * (cs.length + ds.length) ≤ LB) (htot : cs.length + ds.length ≤ 24) (nSb : bS ≠ bA) :
    Mt (l := l) hw (ws := ws) O0 ST Y_24 jdk_68_method_73_code 3 none R_46 #[(.ref a1), (vN cs.length), (.ref a2)] (Qsv (fun h b k LB' => Sb1 Z h a1 b k LB' cs.length (cs ++ ds) ∧ LB' = LB) none a1 bA h0 n0) := by
  refine own_met (plainFor_of_name pn6) fun p e s m w_ meth c s₁ hx hby hml hZ hh hown hnm hret hlk X0 e0 => ?_
  have N0 := Fr.nil n0
  obtain ⟨Es, Fv, Fc, Fn, Fy, Eb, hL, tl, Bs⟩ := id HB
  have Vs := Bs.1
  have ls := Bs.2
  have hNs : (Int32.ofNat LB).toNatClampNeg = (enc1 cs ++ tl).length := by rw [ls]; exact own_n (by omega)
  have lq : 2 * cs.length + tl.length = LB := by rw [← ls]; simp only [List.length_append, List.length_map, enc1_len]
  have lt_a1 := Es.lt
  have lt_bA := Vs.lt
  have n_ab : a1 ≠ bA := Exa.neArv Es Vs (tw hw 122 rfl)
  obtain ⟨E_a2, Fc_a2, Fv_a2, B_bS, hu_a2⟩ := id HS
  have lt_a2 := E_a2.lt
  have V_bS := B_bS.1
  have l_bS := B_bS.2
  have hN_bS : (Int32.ofNat ds.length).toNatClampNeg = (ds.map cLo).length := by rw [l_bS]; exact own_n (by omega)
  have lt_bS := V_bS.lt
  have n_21 : a2 ≠ a1 := Exa.ne E_a2 Es (by decide)
  have n_b1 : bS ≠ a1 := Ne.symm (Exa.neArv Es V_bS (tw hw 122 rfl))
  have n_2b : a2 ≠ bA := Exa.neArv E_a2 Vs (tw hw 13 rfl)
  have n_2s : a2 ≠ bS := Exa.neArv E_a2 V_bS (tw hw 13 rfl)
  obtain ⟨_, T1, Lc1, X1, hQ1, st1⟩ := own_pc X0 hx hZ (y := Y_23) hown hml (tw hw 262 rfl) (tw hw 263 rfl) (tw hw 265 rfl) (tw hw 264 rfl) (rb_in10 hw O0 ST a1 bA kA LB cs a2 bS kS ds HB hnn g_a1 g_bA HS hds) (tw hw 266 rfl) (tw hw 225 rfl) e0 (Es) (W := 0) (Ls := (q_8 a1 cs a2)) (argsL := [(.ref a2)]) (rest := []) (lenOf pd22 rfl) (d55 hby 2 rfl)
  obtain ⟨rfl, Nq1, e1⟩ := hQ1
  have N1 := Fr.app N0 Nq1
  obtain ⟨T2, X2, e2, st2⟩ := getF X1 hx hZ hown (host := "") (Or.inl (tw hw 234 rfl)) Via.refl e1 Fv (g := (mkF m 7 (q_8 a1 cs a2) [(.ref a1), (.ref a2)])) rfl rfl (d55 hby 5 rfl)
  obtain ⟨T3, X3, e3, st3⟩ := getF X2 hx hZ hown (host := "") (Or.inl (tw hw 231 rfl)) Via.refl e2 Fc (g := (mkF m 12 (q_8 a1 cs a2) [(.ref a1), (vN cs.length), (.ref bA), (.ref a2)])) rfl rfl (d55 hby 8 rfl)
  obtain ⟨_, T4, Lc4, X4, hQ4, st4⟩ := own_vc X3 hx hZ (y := Y_8) hown hml (tw hw 268 rfl) (tw hw 269 rfl) (tw hw 271 rfl) (tw hw 270 rfl) (rs_gb10 hw O0 ST a2 bS kS ds bA kA LB (enc1 cs ++ tl) cs.length ⟨E_a2, Fc_a2, Fv_a2, ⟨V_bS, B_bS.2⟩, hu_a2⟩ hds ⟨Vs, ls⟩ (by omega) (by omega) n_2b nSb g_bA) (tw hw 272 rfl) (tw hw 14 rfl) e3 E_a2 (W := 0) (Ls := (q_8 a1 cs a2)) (argsL := [(.ref bA), (vN cs.length), (vL 1)]) (rest := []) (lenOf pd23 rfl) (d55 hby 9 rfl)
  obtain ⟨h4, e4⟩ : ∃ z, T4.heap = z := ⟨_, rfl⟩
  rw [e4] at hQ4
  obtain ⟨rfl, Nq4, K4, Bi4⟩ := hQ4
  have N4 := Fr.app N1 Nq4
  have O5 := O0.keep K4 (allS g_bA all0)
  have kp6 : Keep h0 h4 [a1, bA] := (Keep.refl h0 [a1, bA]).trans K4 (allS (Or.inl (List.mem_of_getElem? (i := 1) rfl)) all0)
  have Bq : Bar Z h4 bA kA LB (enc1 (cs ++ ds) ++ tl.drop (2 * ds.length)) := by rw [← own_w2 (by omega)]; exact Bi4
  refine own_lvV X4 hx hlk hret (d55 hby 10 rfl) (by decide) (by decide) (Ls := (q_8 a1 cs a2)) (fun _ k => castTop (ef_rb_ps00 m a1 (Int32.ofNat cs.length) a2) ?_) ?_
  · refine za X0 hx (d55 hby 0 rfl) rfl rfl <| za X0 hx (d55 hby 1 rfl) rfl rfl <| st1 _ <| za X1 hx (d55 hby 3 rfl) rfl rfl <| za X1 hx (d55 hby 4 rfl) rfl rfl <| st2 _ <| zl X2 hx (d55 hby 6 rfl) rfl <| za X2 hx (d55 hby 7 rfl) rfl rfl <| st3 _ <| st4 _ ?_
    exact k
  · rw [e4]
    exact ⟨rfl, N4, kp6, bA, _, LB, Or.inl rfl, ⟨(Es.keep K4), (Fv.keep K4 (ninS n_ab nin0)), (Fc.keep K4 (ninS n_ab nin0)), (Fn.keep K4 (ninS n_ab nin0)), (Fy.keep K4 (ninS n_ab nin0)), (Eb.keep K4), (by omega), _, ⟨Bq.1, Bq.2⟩⟩, rfl⟩
theorem rb_ps11 (a1 bA : Addr) (kA : ClassId) (LB : Nat) (cs : List UInt16) (a2 bS : Addr) (kS : ClassId) (ds : List UInt16) (HB : Sb1 Z h0 a1 bA kA LB cs.length cs) (hnn : cs.length ≤ 24) (g_a1 : n0 ≤ a1) (g_bA : n0 ≤ bA) (HS : Str1 Z h0 a2 bS kS ds) (hds : ds.length ≤ 24) (hfit : 2 * (cs.length + ds.length) ≤ LB) (htot : cs.length + ds.length ≤ 24) (nSb : bS ≠ bA) :
    Mt (l := l) hw (ws := ws) O0 ST Y_24 jdk_68_method_73_code 3 none R_33 #[(.ref a1), (vN cs.length), (.ref a2)] (Qsv (fun h b k LB' => Sb1 Z h a1 b k LB' cs.length (cs ++ ds) ∧ LB' = LB) none a1 bA h0 n0) := by
  refine own_met (plainFor_of_name pn6) fun p e s m w_ meth c s₁ hx hby hml hZ hh hown hnm hret hlk X0 e0 => ?_
  have N0 := Fr.nil n0
  obtain ⟨Es, Fv, Fc, Fn, Fy, Eb, hL, tl, Bs⟩ := id HB
  have Vs := Bs.1
  have ls := Bs.2
  have hNs : (Int32.ofNat LB).toNatClampNeg = (enc1 cs ++ tl).length := by rw [ls]; exact own_n (by omega)
  have lq : 2 * cs.length + tl.length = LB := by rw [← ls]; simp only [List.length_append, List.length_map, enc1_len]
  have lt_a1 := Es.lt
  have lt_bA := Vs.lt
  have n_ab : a1 ≠ bA := Exa.neArv Es Vs (tw hw 122 rfl)
  obtain ⟨E_a2, Fc_a2, Fv_a2, B_bS⟩ := id HS
  have lt_a2 := E_a2.lt
  have V_bS := B_bS.1
  have l_bS := B_bS.2
  have hN_bS : (Int32.ofNat (2 * ds.length)).toNatClampNeg = (enc1 ds).length := by rw [l_bS]; exact own_n (by omega)
  have lt_bS := V_bS.lt
  have n_21 : a2 ≠ a1 := Exa.ne E_a2 Es (by decide)
  have n_b1 : bS ≠ a1 := Ne.symm (Exa.neArv Es V_bS (tw hw 122 rfl))
  have n_2b : a2 ≠ bA := Exa.neArv E_a2 Vs (tw hw 13 rfl)
  have n_2s : a2 ≠ bS := Exa.neArv E_a2 V_bS (tw hw 13 rfl)
  obtain ⟨_, T1, Lc1, X1, hQ1, st1⟩ := own_pc X0 hx hZ (y := Y_23) hown hml (tw hw 262 rfl) (tw hw 263 rfl) (tw hw 265 rfl) (tw hw 264 rfl) (rb_in11 hw O0 ST a1 bA kA LB cs a2 bS kS ds HB hnn g_a1 g_bA HS hds) (tw hw 266 rfl) (tw hw 225 rfl) e0 (Es) (W := 0) (Ls := (q_8 a1 cs a2)) (argsL := [(.ref a2)]) (rest := []) (lenOf pd22 rfl) (d55 hby 2 rfl)
  obtain ⟨rfl, Nq1, e1⟩ := hQ1
  have N1 := Fr.app N0 Nq1
  obtain ⟨T2, X2, e2, st2⟩ := getF X1 hx hZ hown (host := "") (Or.inl (tw hw 234 rfl)) Via.refl e1 Fv (g := (mkF m 7 (q_8 a1 cs a2) [(.ref a1), (.ref a2)])) rfl rfl (d55 hby 5 rfl)
  obtain ⟨T3, X3, e3, st3⟩ := getF X2 hx hZ hown (host := "") (Or.inl (tw hw 231 rfl)) Via.refl e2 Fc (g := (mkF m 12 (q_8 a1 cs a2) [(.ref a1), (vN cs.length), (.ref bA), (.ref a2)])) rfl rfl (d55 hby 8 rfl)
  obtain ⟨_, T4, Lc4, X4, hQ4, st4⟩ := own_vc X3 hx hZ (y := Y_8) hown hml (tw hw 268 rfl) (tw hw 269 rfl) (tw hw 271 rfl) (tw hw 270 rfl) (rs_gb11 hw O0 ST a2 bS kS ds bA kA LB (enc1 cs ++ tl) cs.length ⟨E_a2, Fc_a2, Fv_a2, ⟨V_bS, B_bS.2⟩⟩ hds ⟨Vs, ls⟩ (by omega) (by omega) n_2b nSb g_bA) (tw hw 272 rfl) (tw hw 14 rfl) e3 E_a2 (W := 0) (Ls := (q_8 a1 cs a2)) (argsL := [(.ref bA), (vN cs.length), (vL 1)]) (rest := []) (lenOf pd23 rfl) (d55 hby 9 rfl)
  obtain ⟨h4, e4⟩ : ∃ z, T4.heap = z := ⟨_, rfl⟩
  rw [e4] at hQ4
  obtain ⟨rfl, Nq4, K4, Bi4⟩ := hQ4
  have N4 := Fr.app N1 Nq4
  have O5 := O0.keep K4 (allS g_bA all0)
  have kp6 : Keep h0 h4 [a1, bA] := (Keep.refl h0 [a1, bA]).trans K4 (allS (Or.inl (List.mem_of_getElem? (i := 1) rfl)) all0)
  have Bq : Bar Z h4 bA kA LB (enc1 (cs ++ ds) ++ tl.drop (2 * ds.length)) := by rw [← own_w1]; exact Bi4
  refine own_lvV X4 hx hlk hret (d55 hby 10 rfl) (by decide) (by decide) (Ls := (q_8 a1 cs a2)) (fun _ k => castTop (ef_rb_ps00 m a1 (Int32.ofNat cs.length) a2) ?_) ?_
  · refine za X0 hx (d55 hby 0 rfl) rfl rfl <| za X0 hx (d55 hby 1 rfl) rfl rfl <| st1 _ <| za X1 hx (d55 hby 3 rfl) rfl rfl <| za X1 hx (d55 hby 4 rfl) rfl rfl <| st2 _ <| zl X2 hx (d55 hby 6 rfl) rfl <| za X2 hx (d55 hby 7 rfl) rfl rfl <| st3 _ <| st4 _ ?_
    exact k
  · rw [e4]
    exact ⟨rfl, N4, kp6, bA, _, LB, Or.inl rfl, ⟨(Es.keep K4), (Fv.keep K4 (ninS n_ab nin0)), (Fc.keep K4 (ninS n_ab nin0)), (Fn.keep K4 (ninS n_ab nin0)), (Fy.keep K4 (ninS n_ab nin0)), (Eb.keep K4), (by omega), _, ⟨Bq.1, Bq.2⟩⟩, rfl⟩
theorem d53 : Dl cb40 [(0, .aload_n 1, 1), (1, .ifnonnull 8, 3), (9, .aload_n 1, 1), (10, .invokevirtual 32, 3), (13, .istore_n 2, 1), (14, .aload_n 0, 1), (15, .aload_n 0, 1), (16, .getfield 79, 3), (19, .iload_n 2, 1), (20, .iadd, 1), (21, .invokevirtual 100, 3), (24, .aload_n 0, 1), (25, .aload_n 0, 1), (26, .getfield 79, 3), (29, .aload_n 1, 1), (30, .invokevirtual 208, 3), (33, .aload_n 0, 1), (34, .dup, 1), (35, .getfield 79, 3), (38, .iload_n 2, 1), (39, .iadd, 1), (40, .putfield 79, 3), (43, .aload_n 0, 1), (44, .areturn, 1)] := dlk (by decide +kernel)
theorem pd24 : parseMethodDescriptor "(I)V" = some ⟨[.int], none⟩ := by decide +kernel
theorem pd25 : parseMethodDescriptor "(ILjava/lang/String;)V" = some ⟨[.int, (.object "java/lang/String")], none⟩ := by decide +kernel
theorem ef_rb_aa00 (m : MethodId) (x0 : Addr) (x1 : Addr) : entryFrame m #[(.ref x0), (.ref x1)] 3 = mkF m 0 #[.val (.ref x0), .val (.ref x1), .unset] [] := by first | (simp [entryFrame, mkF, argsToLocals, Value.category]; done) | rfl
theorem rb_aa00 (a1 bA : Addr) (kA : ClassId) (LB : Nat) (cs : List UInt16) (a2 bS : Addr) (kS : ClassId) (ds : List UInt16) (HB : Sb0 Z h0 a1 bA kA LB cs.length cs) (hnn : cs.length ≤ 24) (g_a1 : n0 ≤ a1) (g_bA : n0 ≤ bA) (HS : Str0 Z h0 a2 bS kS ds) (hds : ds.length ≤ 24) (htot : cs.length + ds.length ≤ 24) (nSb : bS ≠ bA) :
    Mt (l := l) hw (ws := ws) O0 ST Y_10 jdk_68_method_22_code 3 (some (.object "java/lang/AbstractStringBuilder")) R_11 #[(.ref a1), (.ref a2)] (Qsv (fun h b k LB' => Sb0 Z h a1 b k LB' (cs ++ ds).length (cs ++ ds) ∧ (LB' = LB ∨ 2 * LB + 2 ≤ LB')) (some (.ref a1)) a1 bA h0 n0) := by
  refine own_met (plainFor_of_name pn6) fun p e s m w_ meth c s₁ hx hby hml hZ hh hown hnm hret hlk X0 e0 => ?_
  have N0 := Fr.nil n0
  obtain ⟨Es, Fv, Fc, Fn, Fy, Eb, hu, hL, tl, Bs⟩ := id HB
  have Vs := Bs.1
  have ls := Bs.2
  have hNs : (Int32.ofNat LB).toNatClampNeg = (cs.map cLo ++ tl).length := by rw [ls]; exact own_n (by omega)
  have lq : cs.length + tl.length = LB := by rw [← ls]; simp only [List.length_append, List.length_map, enc1_len]
  have lt_a1 := Es.lt
  have lt_bA := Vs.lt
  have n_ab : a1 ≠ bA := Exa.neArv Es Vs (tw hw 122 rfl)
  obtain ⟨E_a2, Fc_a2, Fv_a2, B_bS, hu_a2⟩ := id HS
  have lt_a2 := E_a2.lt
  have V_bS := B_bS.1
  have l_bS := B_bS.2
  have hN_bS : (Int32.ofNat ds.length).toNatClampNeg = (ds.map cLo).length := by rw [l_bS]; exact own_n (by omega)
  have lt_bS := V_bS.lt
  have n_21 : a2 ≠ a1 := Exa.ne E_a2 Es (by decide)
  have n_b1 : bS ≠ a1 := Ne.symm (Exa.neArv Es V_bS (tw hw 122 rfl))
  have n_2b : a2 ≠ bA := Exa.neArv E_a2 Vs (tw hw 13 rfl)
  have n_2s : a2 ≠ bS := Exa.neArv E_a2 V_bS (tw hw 13 rfl)
  obtain ⟨_, T1, Lc1, X1, hQ1, st1⟩ := own_vc X0 hx hZ (y := Y_0) hown hml (tw hw 228 rfl) (tw hw 42 rfl) (tw hw 44 rfl) (tw hw 43 rfl) (rs_len0 hw O0 ST a2 bS kS ds HS hds) (tw hw 45 rfl) (tw hw 14 rfl) e0 E_a2 (W := 0) (Ls := (q_6 a1 a2)) (argsL := []) (rest := []) (lenOf pd19 rfl) (d53 hby 3 rfl)
  obtain ⟨rfl, Nq1, e1⟩ := hQ1
  have N1 := Fr.app N0 Nq1
  obtain ⟨T2, X2, e2, st2⟩ := getF X1 hx hZ hown (host := "") (Or.inl (tw hw 250 rfl)) Via.refl e1 Fn (g := (mkF m 16 (q_5 a1 a2 ds) [(.ref a1), (.ref a1)])) rfl rfl (d53 hby 7 rfl)
  obtain ⟨_, T3, Lc3, X3, hQ3, st3⟩ := own_pc X2 hx hZ (y := Y_13) hown hml (tw hw 252 rfl) (tw hw 253 rfl) (tw hw 255 rfl) (tw hw 254 rfl) (rb_ec0 hw O0 ST a1 bA kA LB cs (cs.length + ds.length) HB hnn g_a1 g_bA htot) (tw hw 256 rfl) (tw hw 225 rfl) e2 (Es) (W := 0) (Ls := (q_5 a1 a2 ds)) (argsL := [(vN (cs.length + ds.length))]) (rest := []) (lenOf pd24 rfl) (d53 hby 10 rfl)
  obtain ⟨h3, e3⟩ : ∃ z, T3.heap = z := ⟨_, rfl⟩
  rw [e3] at hQ3
  obtain ⟨rfl, Nq3, K3, x3, kx3, LBx3, or3, HBx3, hcap3, hgr3⟩ := hQ3
  have N3 := Fr.app N1 Nq3
  have O4 := O0.keep K3 (allS g_a1 (allS g_bA all0))
  have kp5 : Keep h0 h3 [a1, bA] := (Keep.refl h0 [a1, bA]).trans K3 (allS (Or.inl (List.mem_of_getElem? (i := 0) rfl)) (allS (Or.inl (List.mem_of_getElem? (i := 1) rfl)) all0))
  have or_x3 : x3 = bA ∨ h0.size ≤ x3 := or3.imp id fun q => Nat.le_trans (Keep.refl h0 [a1, bA]).1 q
  have g_x3 : n0 ≤ x3 := own_gor or_x3 g_bA (own_sz O0)
  have wk_x3 : x3 ∈ [a1, bA] ∨ h0.size ≤ x3 := own_mem or_x3
  have n_a2_x3 : a2 ≠ x3 := own_nor or_x3 n_2b lt_a2
  have n_bS_x3 : bS ≠ x3 := own_nor or_x3 nSb lt_bS
  obtain ⟨Es_n, Fv_n, Fc_n, Fn_n, Fy_n, Eb_n, hu_n, hL_n, tl_n, Bs_n⟩ := id HBx3
  have Vs_n := Bs_n.1
  have ls_n := Bs_n.2
  have hNs_n : (Int32.ofNat LBx3).toNatClampNeg = (cs.map cLo ++ tl_n).length := by rw [ls_n]; exact own_n (by omega)
  have lq_n : cs.length + tl_n.length = LBx3 := by rw [← ls_n]; simp only [List.length_append, List.length_map, enc1_len]
  have n_a1_x3 : a1 ≠ x3 := Exa.neArv Es_n Vs_n (tw hw 122 rfl)
  obtain ⟨T6, X6, e6, st6⟩ := getF X3 hx hZ hown (host := "") (Or.inl (tw hw 250 rfl)) Via.refl e3 Fn_n (g := (mkF m 26 (q_5 a1 a2 ds) [(.ref a1), (.ref a1)])) rfl rfl (d53 hby 13 rfl)
  obtain ⟨_, T7, Lc7, X7, hQ7, st7⟩ := own_pc X6 hx hZ (y := Y_24) hown hml (tw hw 257 rfl) (tw hw 258 rfl) (tw hw 260 rfl) (tw hw 259 rfl) (rb_ps00 hw O4 ST a1 x3 kx3 LBx3 cs a2 bS kS ds HBx3 hnn g_a1 g_x3 ⟨(E_a2.keep K3), (Fc_a2.keep K3 (ninS n_21 (ninS n_2b nin0))), (Fv_a2.keep K3 (ninS n_21 (ninS n_2b nin0))), ⟨(V_bS.keep K3 (ninS n_b1 (ninS nSb nin0))), B_bS.2⟩, hu_a2⟩ hds (by omega) htot n_bS_x3) (tw hw 261 rfl) (tw hw 225 rfl) e6 (Es_n) (W := 0) (Ls := (q_5 a1 a2 ds)) (argsL := [(vN cs.length), (.ref a2)]) (rest := []) (lenOf pd25 rfl) (d53 hby 15 rfl)
  obtain ⟨h7, e7⟩ : ∃ z, T7.heap = z := ⟨_, rfl⟩
  rw [e7] at hQ7
  obtain ⟨rfl, Nq7, K7, w7, kx7, LBx7, or7, HBx7, hLq7⟩ := hQ7
  have N7 := Fr.app N3 Nq7
  have O8 := O4.keep K7 (allS g_a1 (allS g_x3 all0))
  have kp9 := kp5.trans K7 (allS (Or.inl (List.mem_of_getElem? (i := 0) rfl)) (allS wk_x3 all0))
  have or_w7 : w7 = bA ∨ h0.size ≤ w7 := or7.elim (fun q => q ▸ or_x3) (fun q => Or.inr (Nat.le_trans kp5.1 q))
  obtain ⟨Es_m, Fv_m, Fc_m, Fn_m, Fy_m, Eb_m, hu_m, hL_m, tl_m, Bs_m⟩ := id HBx7
  have Vs_m := Bs_m.1
  have ls_m := Bs_m.2
  have hNs_m : (Int32.ofNat LBx7).toNatClampNeg = ((cs ++ ds).map cLo ++ tl_m).length := by rw [ls_m]; exact own_n (by omega)
  have lq_m : (cs ++ ds).length + tl_m.length = LBx7 := by rw [← ls_m]; simp only [List.length_append, List.length_map, enc1_len]
  have n_a1_w7 : a1 ≠ w7 := Exa.neArv Es_m Vs_m (tw hw 122 rfl)
  obtain ⟨T10, X10, e10, st10⟩ := getF X7 hx hZ hown (host := "") (Or.inl (tw hw 250 rfl)) Via.refl e7 Fn_m (g := (mkF m 35 (q_5 a1 a2 ds) [(.ref a1), (.ref a1)])) rfl rfl (d53 hby 18 rfl)
  obtain ⟨T11, h11, X11, e11, W11, st11⟩ := putF X10 hx hZ hown (host := "") (Or.inl (tw hw 250 rfl)) Via.refl e10 Fn_m Es_m (Or.inl (tw hw 251 rfl)) (tw hw 122 rfl) (ty := .int) (by decide) rfl rfl (g := (mkF m 40 (q_5 a1 a2 ds) [(vN (cs.length + ds.length)), (.ref a1)])) rfl rfl (d53 hby 21 rfl)
  have Fw11 := Fn_m.same W11
  have O12 := O8.wr W11 g_a1
  have kp13 := kp9.wr W11 (Or.inl (List.mem_of_getElem? (i := 0) rfl))
  have N11 := Fr.snoc X11 N7 g_a1
  refine own_lvA X11 hx hlk hret rfl (d53 hby 23 rfl) (by decide) (by decide) (w := (.ref a1)) rfl (Ls := (q_5 a1 a2 ds)) (rest := []) (fun _ k => castTop (ef_rb_aa00 m a1 a2) ?_) ?_
  · refine za X0 hx (d53 hby 0 rfl) rfl rfl <| XS.ifnonnullYes X0.here hx rfl (pc0 := 1) (pc' := 9) rfl (d53 hby 1 rfl) rfl (by decide) (by decide) <| za X0 hx (d53 hby 2 rfl) rfl rfl <| st1 _ <| zs X1 hx (d53 hby 4 rfl) (Ls' := (q_5 a1 a2 ds)) rfl <| za X1 hx (d53 hby 5 rfl) rfl rfl <| za X1 hx (d53 hby 6 rfl) rfl rfl <| st2 _ <| zl X2 hx (d53 hby 8 rfl) rfl <| XS.iadd X2.here hx rfl (d53 hby 9 rfl) rfl ?_
    show Go p e w_ T2 m 21 (q_5 a1 a2 ds) [(.int ((Int32.ofNat cs.length) + (Int32.ofNat ds.length))), (.ref a1)] _
    rw [show ((Int32.ofNat cs.length) + (Int32.ofNat ds.length)) = (Int32.ofNat (cs.length + ds.length)) from own_add cs.length ds.length]
    refine st3 _ <| za X3 hx (d53 hby 11 rfl) rfl rfl <| za X3 hx (d53 hby 12 rfl) rfl rfl <| st6 _ <| za X6 hx (d53 hby 14 rfl) rfl rfl <| st7 _ <| za X7 hx (d53 hby 16 rfl) rfl rfl <| XS.dup X7.here hx rfl (d53 hby 17 rfl) rfl rfl <| st10 _ <| zl X10 hx (d53 hby 19 rfl) rfl <| XS.iadd X10.here hx rfl (d53 hby 20 rfl) rfl ?_
    show Go p e w_ T10 m 40 (q_5 a1 a2 ds) [(.int ((Int32.ofNat cs.length) + (Int32.ofNat ds.length))), (.ref a1)] _
    rw [show ((Int32.ofNat cs.length) + (Int32.ofNat ds.length)) = (Int32.ofNat (cs.length + ds.length)) from own_add cs.length ds.length]
    refine st11 _ <| za X11 hx (d53 hby 22 rfl) rfl rfl ?_
    exact k
  · rw [e11]
    exact ⟨rfl, N11, kp13, w7, _, _, or_w7, by rw [List.length_append]; exact ⟨(Es_m.wr W11), (Fv_m.other W11 (Or.inr (slot_ne (Or.inl (tw hw 235 rfl)) (Or.inl (tw hw 251 rfl)) (by decide) (t := (.array .byte)) (t' := .int) (by decide) (by decide)))), (Fc_m.other W11 (Or.inr (slot_ne (Or.inl (tw hw 232 rfl)) (Or.inl (tw hw 251 rfl)) (by decide) (t := .byte) (t' := .int) (by decide) (by decide)))), Fw11, (Fy_m.other W11 (Or.inr (slot_ne (Or.inl (tw hw 365 rfl)) (Or.inl (tw hw 251 rfl)) (by decide) (t := .boolean) (t' := .int) (by decide) (by decide)))), (Eb_m.wr W11), hu_m, hL_m, _, ⟨(Vs_m.other W11 (Ne.symm n_a1_w7)), ls_m⟩⟩, by rw [hLq7]; exact hgr3⟩
theorem d52 : Dl cb41 [(0, .aload_n 0, 1), (1, .aload_n 1, 1), (2, .invokespecial 29, 3), (5, .pop, 1), (6, .aload_n 0, 1), (7, .areturn, 1)] := dlk (by decide +kernel)
theorem pd26 : parseMethodDescriptor "(Ljava/lang/String;)Ljava/lang/AbstractStringBuilder;" = some ⟨[(.object "java/lang/String")], some (.object "java/lang/AbstractStringBuilder")⟩ := by decide +kernel
theorem rb_ap00 (a1 bA : Addr) (kA : ClassId) (LB : Nat) (cs : List UInt16) (a2 bS : Addr) (kS : ClassId) (ds : List UInt16) (HB : Sb0 Z h0 a1 bA kA LB cs.length cs) (hnn : cs.length ≤ 24) (g_a1 : n0 ≤ a1) (g_bA : n0 ≤ bA) (HS : Str0 Z h0 a2 bS kS ds) (hds : ds.length ≤ 24) (htot : cs.length + ds.length ≤ 24) (nSb : bS ≠ bA) :
    Mt (l := l) hw (ws := ws) O0 ST Y_7 jdk_67_method_7_code 2 (some (.object "java/lang/StringBuilder")) R_13 #[(.ref a1), (.ref a2)] (Qsv (fun h b k LB' => Sb0 Z h a1 b k LB' (cs ++ ds).length (cs ++ ds) ∧ (LB' = LB ∨ 2 * LB + 2 ≤ LB')) (some (.ref a1)) a1 bA h0 n0) := by
  refine own_met (plainFor_of_name pn7) fun p e s m w_ meth c s₁ hx hby hml hZ hh hown hnm hret hlk X0 e0 => ?_
  have N0 := Fr.nil n0
  obtain ⟨Es, Fv, Fc, Fn, Fy, Eb, hu, hL, tl, Bs⟩ := id HB
  have Vs := Bs.1
  have ls := Bs.2
  have hNs : (Int32.ofNat LB).toNatClampNeg = (cs.map cLo ++ tl).length := by rw [ls]; exact own_n (by omega)
  have lq : cs.length + tl.length = LB := by rw [← ls]; simp only [List.length_append, List.length_map, enc1_len]
  have lt_a1 := Es.lt
  have lt_bA := Vs.lt
  have n_ab : a1 ≠ bA := Exa.neArv Es Vs (tw hw 122 rfl)
  obtain ⟨E_a2, Fc_a2, Fv_a2, B_bS, hu_a2⟩ := id HS
  have lt_a2 := E_a2.lt
  have V_bS := B_bS.1
  have l_bS := B_bS.2
  have hN_bS : (Int32.ofNat ds.length).toNatClampNeg = (ds.map cLo).length := by rw [l_bS]; exact own_n (by omega)
  have lt_bS := V_bS.lt
  have n_21 : a2 ≠ a1 := Exa.ne E_a2 Es (by decide)
  have n_b1 : bS ≠ a1 := Ne.symm (Exa.neArv Es V_bS (tw hw 122 rfl))
  have n_2b : a2 ≠ bA := Exa.neArv E_a2 Vs (tw hw 13 rfl)
  have n_2s : a2 ≠ bS := Exa.neArv E_a2 V_bS (tw hw 13 rfl)
  obtain ⟨_, _, ⟨T1, L1, k1, n1⟩, -, X1, ⟨Lc1, hQ1, l1, y1, z1⟩, st1⟩ := Jvm.RoadKit.superBack X0 hx hZ (y := Y_10) (K := "java/lang/AbstractStringBuilder") hown (tw hw 247 rfl) (own_same (C := "java/lang/StringBuilder") (tw hw 237 rfl) (tw hw 287 rfl)) (tw hw 238 rfl) (tw hw 248 rfl) (by decide) (backOf (W := 0) (rb_aa00 hw O0 ST a1 bA kA LB cs a2 bS kS ds HB hnn g_a1 g_bA HS hds htot nSb) hZ (tw hw 249 rfl) (tw hw 225 rfl) (by decide) (by decide)) e0 (Ins.of_exa Es (tw hw 224 rfl)) (g := (mkF m 2 (q_1 a1 a2) [(.ref a2), (.ref a1)])) rfl (by rw [hml]; rfl) (tw hw 249 rfl) (argsL := [(.ref a2)]) (rest := []) (lenOf pd26 rfl) rfl (by show 2 * 0 + _ ≤ _; exact Nat.le_of_eq rfl) (d52 hby 2 rfl) (fun _ _ => ⟨rfl, e0, (by decide : 0 + 1 ≤ _), (by decide : 0 + 110 ≤ _)⟩)
  dsimp only [Pt.U, Pt.locs, Pt.cells, Pt.slots] at X1 l1 y1 z1 st1 hQ1
  subst l1 y1 z1
  obtain ⟨h1, e1⟩ : ∃ z, T1.heap = z := ⟨_, rfl⟩
  rw [e1] at hQ1
  obtain ⟨rfl, Nq1, K1, R1⟩ := hQ1
  have N1 := Fr.app N0 Nq1
  have O2 := O0.keep K1 (allS g_a1 (allS g_bA all0))
  have kp3 : Keep h0 h1 [a1, bA] := (Keep.refl h0 [a1, bA]).trans K1 (allS (Or.inl (List.mem_of_getElem? (i := 0) rfl)) (allS (Or.inl (List.mem_of_getElem? (i := 1) rfl)) all0))
  have RR := R1
  refine own_lvA X1 hx hlk hret rfl (d52 hby 5 rfl) (by decide) (by decide) (w := (.ref a1)) rfl (Ls := (q_1 a1 a2)) (rest := []) (fun _ k => castTop (ef_rs_iA m a1 a2) ?_) ?_
  · refine za X0 hx (d52 hby 0 rfl) rfl rfl <| za X0 hx (d52 hby 1 rfl) rfl rfl <| st1.trans <| XS.pop X1.here hx rfl (d52 hby 3 rfl) rfl rfl <| za X1 hx (d52 hby 4 rfl) rfl rfl ?_
    exact k
  · rw [e1]
    exact ⟨rfl, N1, kp3, RR⟩
theorem rb_aa10 (a1 bA : Addr) (kA : ClassId) (LB : Nat) (cs : List UInt16) (a2 bS : Addr) (kS : ClassId) (ds : List UInt16) (HB : Sb1 Z h0 a1 bA kA LB cs.length cs) (hnn : cs.length ≤ 24) (g_a1 : n0 ≤ a1) (g_bA : n0 ≤ bA) (HS : Str0 Z h0 a2 bS kS ds) (hds : ds.length ≤ 24) (htot : cs.length + ds.length ≤ 24) (nSb : bS ≠ bA) :
    Mt (l := l) hw (ws := ws) O0 ST Y_10 jdk_68_method_22_code 3 (some (.object "java/lang/AbstractStringBuilder")) R_47 #[(.ref a1), (.ref a2)] (Qsv (fun h b k LB' => Sb1 Z h a1 b k LB' (cs ++ ds).length (cs ++ ds) ∧ (LB' = LB ∨ 2 * LB + 2 ≤ LB')) (some (.ref a1)) a1 bA h0 n0) := by
  refine own_met (plainFor_of_name pn6) fun p e s m w_ meth c s₁ hx hby hml hZ hh hown hnm hret hlk X0 e0 => ?_
  have N0 := Fr.nil n0
  obtain ⟨Es, Fv, Fc, Fn, Fy, Eb, hL, tl, Bs⟩ := id HB
  have Vs := Bs.1
  have ls := Bs.2
  have hNs : (Int32.ofNat LB).toNatClampNeg = (enc1 cs ++ tl).length := by rw [ls]; exact own_n (by omega)
  have lq : 2 * cs.length + tl.length = LB := by rw [← ls]; simp only [List.length_append, List.length_map, enc1_len]
  have lt_a1 := Es.lt
  have lt_bA := Vs.lt
  have n_ab : a1 ≠ bA := Exa.neArv Es Vs (tw hw 122 rfl)
  obtain ⟨E_a2, Fc_a2, Fv_a2, B_bS, hu_a2⟩ := id HS
  have lt_a2 := E_a2.lt
  have V_bS := B_bS.1
  have l_bS := B_bS.2
  have hN_bS : (Int32.ofNat ds.length).toNatClampNeg = (ds.map cLo).length := by rw [l_bS]; exact own_n (by omega)
  have lt_bS := V_bS.lt
  have n_21 : a2 ≠ a1 := Exa.ne E_a2 Es (by decide)
  have n_b1 : bS ≠ a1 := Ne.symm (Exa.neArv Es V_bS (tw hw 122 rfl))
  have n_2b : a2 ≠ bA := Exa.neArv E_a2 Vs (tw hw 13 rfl)
  have n_2s : a2 ≠ bS := Exa.neArv E_a2 V_bS (tw hw 13 rfl)
  obtain ⟨_, T1, Lc1, X1, hQ1, st1⟩ := own_vc X0 hx hZ (y := Y_0) hown hml (tw hw 228 rfl) (tw hw 42 rfl) (tw hw 44 rfl) (tw hw 43 rfl) (rs_len0 hw O0 ST a2 bS kS ds HS hds) (tw hw 45 rfl) (tw hw 14 rfl) e0 E_a2 (W := 0) (Ls := (q_6 a1 a2)) (argsL := []) (rest := []) (lenOf pd19 rfl) (d53 hby 3 rfl)
  obtain ⟨rfl, Nq1, e1⟩ := hQ1
  have N1 := Fr.app N0 Nq1
  obtain ⟨T2, X2, e2, st2⟩ := getF X1 hx hZ hown (host := "") (Or.inl (tw hw 250 rfl)) Via.refl e1 Fn (g := (mkF m 16 (q_5 a1 a2 ds) [(.ref a1), (.ref a1)])) rfl rfl (d53 hby 7 rfl)
  obtain ⟨_, T3, Lc3, X3, hQ3, st3⟩ := own_pc X2 hx hZ (y := Y_13) hown hml (tw hw 252 rfl) (tw hw 253 rfl) (tw hw 255 rfl) (tw hw 254 rfl) (rb_ec1 hw O0 ST a1 bA kA LB cs (cs.length + ds.length) HB hnn g_a1 g_bA htot) (tw hw 256 rfl) (tw hw 225 rfl) e2 (Es) (W := 0) (Ls := (q_5 a1 a2 ds)) (argsL := [(vN (cs.length + ds.length))]) (rest := []) (lenOf pd24 rfl) (d53 hby 10 rfl)
  obtain ⟨h3, e3⟩ : ∃ z, T3.heap = z := ⟨_, rfl⟩
  rw [e3] at hQ3
  obtain ⟨rfl, Nq3, K3, x3, kx3, LBx3, or3, HBx3, hcap3, hgr3⟩ := hQ3
  have N3 := Fr.app N1 Nq3
  have O4 := O0.keep K3 (allS g_a1 (allS g_bA all0))
  have kp5 : Keep h0 h3 [a1, bA] := (Keep.refl h0 [a1, bA]).trans K3 (allS (Or.inl (List.mem_of_getElem? (i := 0) rfl)) (allS (Or.inl (List.mem_of_getElem? (i := 1) rfl)) all0))
  have or_x3 : x3 = bA ∨ h0.size ≤ x3 := or3.imp id fun q => Nat.le_trans (Keep.refl h0 [a1, bA]).1 q
  have g_x3 : n0 ≤ x3 := own_gor or_x3 g_bA (own_sz O0)
  have wk_x3 : x3 ∈ [a1, bA] ∨ h0.size ≤ x3 := own_mem or_x3
  have n_a2_x3 : a2 ≠ x3 := own_nor or_x3 n_2b lt_a2
  have n_bS_x3 : bS ≠ x3 := own_nor or_x3 nSb lt_bS
  obtain ⟨Es_n, Fv_n, Fc_n, Fn_n, Fy_n, Eb_n, hL_n, tl_n, Bs_n⟩ := id HBx3
  have Vs_n := Bs_n.1
  have ls_n := Bs_n.2
  have hNs_n : (Int32.ofNat LBx3).toNatClampNeg = (enc1 cs ++ tl_n).length := by rw [ls_n]; exact own_n (by omega)
  have lq_n : 2 * cs.length + tl_n.length = LBx3 := by rw [← ls_n]; simp only [List.length_append, List.length_map, enc1_len]
  have n_a1_x3 : a1 ≠ x3 := Exa.neArv Es_n Vs_n (tw hw 122 rfl)
  obtain ⟨T6, X6, e6, st6⟩ := getF X3 hx hZ hown (host := "") (Or.inl (tw hw 250 rfl)) Via.refl e3 Fn_n (g := (mkF m 26 (q_5 a1 a2 ds) [(.ref a1), (.ref a1)])) rfl rfl (d53 hby 13 rfl)
  obtain ⟨_, T7, Lc7, X7, hQ7, st7⟩ := own_pc X6 hx hZ (y := Y_24) hown hml (tw hw 257 rfl) (tw hw 258 rfl) (tw hw 260 rfl) (tw hw 259 rfl) (rb_ps10 hw O4 ST a1 x3 kx3 LBx3 cs a2 bS kS ds HBx3 hnn g_a1 g_x3 ⟨(E_a2.keep K3), (Fc_a2.keep K3 (ninS n_21 (ninS n_2b nin0))), (Fv_a2.keep K3 (ninS n_21 (ninS n_2b nin0))), ⟨(V_bS.keep K3 (ninS n_b1 (ninS nSb nin0))), B_bS.2⟩, hu_a2⟩ hds (by omega) htot n_bS_x3) (tw hw 261 rfl) (tw hw 225 rfl) e6 (Es_n) (W := 0) (Ls := (q_5 a1 a2 ds)) (argsL := [(vN cs.length), (.ref a2)]) (rest := []) (lenOf pd25 rfl) (d53 hby 15 rfl)
  obtain ⟨h7, e7⟩ : ∃ z, T7.heap = z := ⟨_, rfl⟩
  rw [e7] at hQ7
  obtain ⟨rfl, Nq7, K7, w7, kx7, LBx7, or7, HBx7, hLq7⟩ := hQ7
  have N7 := Fr.app N3 Nq7
  have O8 := O4.keep K7 (allS g_a1 (allS g_x3 all0))
  have kp9 := kp5.trans K7 (allS (Or.inl (List.mem_of_getElem? (i := 0) rfl)) (allS wk_x3 all0))
  have or_w7 : w7 = bA ∨ h0.size ≤ w7 := or7.elim (fun q => q ▸ or_x3) (fun q => Or.inr (Nat.le_trans kp5.1 q))
  obtain ⟨Es_m, Fv_m, Fc_m, Fn_m, Fy_m, Eb_m, hL_m, tl_m, Bs_m⟩ := id HBx7
  have Vs_m := Bs_m.1
  have ls_m := Bs_m.2
  have hNs_m : (Int32.ofNat LBx7).toNatClampNeg = (enc1 (cs ++ ds) ++ tl_m).length := by rw [ls_m]; exact own_n (by omega)
  have lq_m : 2 * (cs ++ ds).length + tl_m.length = LBx7 := by rw [← ls_m]; simp only [List.length_append, List.length_map, enc1_len]
  have n_a1_w7 : a1 ≠ w7 := Exa.neArv Es_m Vs_m (tw hw 122 rfl)
  obtain ⟨T10, X10, e10, st10⟩ := getF X7 hx hZ hown (host := "") (Or.inl (tw hw 250 rfl)) Via.refl e7 Fn_m (g := (mkF m 35 (q_5 a1 a2 ds) [(.ref a1), (.ref a1)])) rfl rfl (d53 hby 18 rfl)
  obtain ⟨T11, h11, X11, e11, W11, st11⟩ := putF X10 hx hZ hown (host := "") (Or.inl (tw hw 250 rfl)) Via.refl e10 Fn_m Es_m (Or.inl (tw hw 251 rfl)) (tw hw 122 rfl) (ty := .int) (by decide) rfl rfl (g := (mkF m 40 (q_5 a1 a2 ds) [(vN (cs.length + ds.length)), (.ref a1)])) rfl rfl (d53 hby 21 rfl)
  have Fw11 := Fn_m.same W11
  have O12 := O8.wr W11 g_a1
  have kp13 := kp9.wr W11 (Or.inl (List.mem_of_getElem? (i := 0) rfl))
  have N11 := Fr.snoc X11 N7 g_a1
  refine own_lvA X11 hx hlk hret rfl (d53 hby 23 rfl) (by decide) (by decide) (w := (.ref a1)) rfl (Ls := (q_5 a1 a2 ds)) (rest := []) (fun _ k => castTop (ef_rb_aa00 m a1 a2) ?_) ?_
  · refine za X0 hx (d53 hby 0 rfl) rfl rfl <| XS.ifnonnullYes X0.here hx rfl (pc0 := 1) (pc' := 9) rfl (d53 hby 1 rfl) rfl (by decide) (by decide) <| za X0 hx (d53 hby 2 rfl) rfl rfl <| st1 _ <| zs X1 hx (d53 hby 4 rfl) (Ls' := (q_5 a1 a2 ds)) rfl <| za X1 hx (d53 hby 5 rfl) rfl rfl <| za X1 hx (d53 hby 6 rfl) rfl rfl <| st2 _ <| zl X2 hx (d53 hby 8 rfl) rfl <| XS.iadd X2.here hx rfl (d53 hby 9 rfl) rfl ?_
    show Go p e w_ T2 m 21 (q_5 a1 a2 ds) [(.int ((Int32.ofNat cs.length) + (Int32.ofNat ds.length))), (.ref a1)] _
    rw [show ((Int32.ofNat cs.length) + (Int32.ofNat ds.length)) = (Int32.ofNat (cs.length + ds.length)) from own_add cs.length ds.length]
    refine st3 _ <| za X3 hx (d53 hby 11 rfl) rfl rfl <| za X3 hx (d53 hby 12 rfl) rfl rfl <| st6 _ <| za X6 hx (d53 hby 14 rfl) rfl rfl <| st7 _ <| za X7 hx (d53 hby 16 rfl) rfl rfl <| XS.dup X7.here hx rfl (d53 hby 17 rfl) rfl rfl <| st10 _ <| zl X10 hx (d53 hby 19 rfl) rfl <| XS.iadd X10.here hx rfl (d53 hby 20 rfl) rfl ?_
    show Go p e w_ T10 m 40 (q_5 a1 a2 ds) [(.int ((Int32.ofNat cs.length) + (Int32.ofNat ds.length))), (.ref a1)] _
    rw [show ((Int32.ofNat cs.length) + (Int32.ofNat ds.length)) = (Int32.ofNat (cs.length + ds.length)) from own_add cs.length ds.length]
    refine st11 _ <| za X11 hx (d53 hby 22 rfl) rfl rfl ?_
    exact k
  · rw [e11]
    exact ⟨rfl, N11, kp13, w7, _, _, or_w7, by rw [List.length_append]; exact ⟨(Es_m.wr W11), (Fv_m.other W11 (Or.inr (slot_ne (Or.inl (tw hw 235 rfl)) (Or.inl (tw hw 251 rfl)) (by decide) (t := (.array .byte)) (t' := .int) (by decide) (by decide)))), (Fc_m.other W11 (Or.inr (slot_ne (Or.inl (tw hw 232 rfl)) (Or.inl (tw hw 251 rfl)) (by decide) (t := .byte) (t' := .int) (by decide) (by decide)))), Fw11, (Fy_m.other W11 (Or.inr (slot_ne (Or.inl (tw hw 365 rfl)) (Or.inl (tw hw 251 rfl)) (by decide) (t := .boolean) (t' := .int) (by decide) (by decide)))), (Eb_m.wr W11), hL_m, _, ⟨(Vs_m.other W11 (Ne.symm n_a1_w7)), ls_m⟩⟩, by rw [hLq7]; exact hgr3⟩
theorem rb_ap10 (a1 bA : Addr) (kA : ClassId) (LB : Nat) (cs : List UInt16) (a2 bS : Addr) (kS : ClassId) (ds : List UInt16) (HB : Sb1 Z h0 a1 bA kA LB cs.length cs) (hnn : cs.length ≤ 24) (g_a1 : n0 ≤ a1) (g_bA : n0 ≤ bA) (HS : Str0 Z h0 a2 bS kS ds) (hds : ds.length ≤ 24) (htot : cs.length + ds.length ≤ 24) (nSb : bS ≠ bA) :
    Mt (l := l) hw (ws := ws) O0 ST Y_7 jdk_67_method_7_code 2 (some (.object "java/lang/StringBuilder")) R_13 #[(.ref a1), (.ref a2)] (Qsv (fun h b k LB' => Sb1 Z h a1 b k LB' (cs ++ ds).length (cs ++ ds) ∧ (LB' = LB ∨ 2 * LB + 2 ≤ LB')) (some (.ref a1)) a1 bA h0 n0) := by
  refine own_met (plainFor_of_name pn7) fun p e s m w_ meth c s₁ hx hby hml hZ hh hown hnm hret hlk X0 e0 => ?_
  have N0 := Fr.nil n0
  obtain ⟨Es, Fv, Fc, Fn, Fy, Eb, hL, tl, Bs⟩ := id HB
  have Vs := Bs.1
  have ls := Bs.2
  have hNs : (Int32.ofNat LB).toNatClampNeg = (enc1 cs ++ tl).length := by rw [ls]; exact own_n (by omega)
  have lq : 2 * cs.length + tl.length = LB := by rw [← ls]; simp only [List.length_append, List.length_map, enc1_len]
  have lt_a1 := Es.lt
  have lt_bA := Vs.lt
  have n_ab : a1 ≠ bA := Exa.neArv Es Vs (tw hw 122 rfl)
  obtain ⟨E_a2, Fc_a2, Fv_a2, B_bS, hu_a2⟩ := id HS
  have lt_a2 := E_a2.lt
  have V_bS := B_bS.1
  have l_bS := B_bS.2
  have hN_bS : (Int32.ofNat ds.length).toNatClampNeg = (ds.map cLo).length := by rw [l_bS]; exact own_n (by omega)
  have lt_bS := V_bS.lt
  have n_21 : a2 ≠ a1 := Exa.ne E_a2 Es (by decide)
  have n_b1 : bS ≠ a1 := Ne.symm (Exa.neArv Es V_bS (tw hw 122 rfl))
  have n_2b : a2 ≠ bA := Exa.neArv E_a2 Vs (tw hw 13 rfl)
  have n_2s : a2 ≠ bS := Exa.neArv E_a2 V_bS (tw hw 13 rfl)
  obtain ⟨_, _, ⟨T1, L1, k1, n1⟩, -, X1, ⟨Lc1, hQ1, l1, y1, z1⟩, st1⟩ := Jvm.RoadKit.superBack X0 hx hZ (y := Y_10) (K := "java/lang/AbstractStringBuilder") hown (tw hw 247 rfl) (own_same (C := "java/lang/StringBuilder") (tw hw 237 rfl) (tw hw 287 rfl)) (tw hw 238 rfl) (tw hw 248 rfl) (by decide) (backOf (W := 0) (rb_aa10 hw O0 ST a1 bA kA LB cs a2 bS kS ds HB hnn g_a1 g_bA HS hds htot nSb) hZ (tw hw 249 rfl) (tw hw 225 rfl) (by decide) (by decide)) e0 (Ins.of_exa Es (tw hw 224 rfl)) (g := (mkF m 2 (q_1 a1 a2) [(.ref a2), (.ref a1)])) rfl (by rw [hml]; rfl) (tw hw 249 rfl) (argsL := [(.ref a2)]) (rest := []) (lenOf pd26 rfl) rfl (by show 2 * 0 + _ ≤ _; exact Nat.le_of_eq rfl) (d52 hby 2 rfl) (fun _ _ => ⟨rfl, e0, (by decide : 0 + 1 ≤ _), (by decide : 0 + 110 ≤ _)⟩)
  dsimp only [Pt.U, Pt.locs, Pt.cells, Pt.slots] at X1 l1 y1 z1 st1 hQ1
  subst l1 y1 z1
  obtain ⟨h1, e1⟩ : ∃ z, T1.heap = z := ⟨_, rfl⟩
  rw [e1] at hQ1
  obtain ⟨rfl, Nq1, K1, R1⟩ := hQ1
  have N1 := Fr.app N0 Nq1
  have O2 := O0.keep K1 (allS g_a1 (allS g_bA all0))
  have kp3 : Keep h0 h1 [a1, bA] := (Keep.refl h0 [a1, bA]).trans K1 (allS (Or.inl (List.mem_of_getElem? (i := 0) rfl)) (allS (Or.inl (List.mem_of_getElem? (i := 1) rfl)) all0))
  have RR := R1
  refine own_lvA X1 hx hlk hret rfl (d52 hby 5 rfl) (by decide) (by decide) (w := (.ref a1)) rfl (Ls := (q_1 a1 a2)) (rest := []) (fun _ k => castTop (ef_rs_iA m a1 a2) ?_) ?_
  · refine za X0 hx (d52 hby 0 rfl) rfl rfl <| za X0 hx (d52 hby 1 rfl) rfl rfl <| st1.trans <| XS.pop X1.here hx rfl (d52 hby 3 rfl) rfl rfl <| za X1 hx (d52 hby 4 rfl) rfl rfl ?_
    exact k
  · rw [e1]
    exact ⟨rfl, N1, kp3, RR⟩
theorem rb_aa11 (a1 bA : Addr) (kA : ClassId) (LB : Nat) (cs : List UInt16) (a2 bS : Addr) (kS : ClassId) (ds : List UInt16) (HB : Sb1 Z h0 a1 bA kA LB cs.length cs) (hnn : cs.length ≤ 24) (g_a1 : n0 ≤ a1) (g_bA : n0 ≤ bA) (HS : Str1 Z h0 a2 bS kS ds) (hds : ds.length ≤ 24) (htot : cs.length + ds.length ≤ 24) (nSb : bS ≠ bA) :
    Mt (l := l) hw (ws := ws) O0 ST Y_10 jdk_68_method_22_code 3 (some (.object "java/lang/AbstractStringBuilder")) R_11 #[(.ref a1), (.ref a2)] (Qsv (fun h b k LB' => Sb1 Z h a1 b k LB' (cs ++ ds).length (cs ++ ds) ∧ (LB' = LB ∨ 2 * LB + 2 ≤ LB')) (some (.ref a1)) a1 bA h0 n0) := by
  refine own_met (plainFor_of_name pn6) fun p e s m w_ meth c s₁ hx hby hml hZ hh hown hnm hret hlk X0 e0 => ?_
  have N0 := Fr.nil n0
  obtain ⟨Es, Fv, Fc, Fn, Fy, Eb, hL, tl, Bs⟩ := id HB
  have Vs := Bs.1
  have ls := Bs.2
  have hNs : (Int32.ofNat LB).toNatClampNeg = (enc1 cs ++ tl).length := by rw [ls]; exact own_n (by omega)
  have lq : 2 * cs.length + tl.length = LB := by rw [← ls]; simp only [List.length_append, List.length_map, enc1_len]
  have lt_a1 := Es.lt
  have lt_bA := Vs.lt
  have n_ab : a1 ≠ bA := Exa.neArv Es Vs (tw hw 122 rfl)
  obtain ⟨E_a2, Fc_a2, Fv_a2, B_bS⟩ := id HS
  have lt_a2 := E_a2.lt
  have V_bS := B_bS.1
  have l_bS := B_bS.2
  have hN_bS : (Int32.ofNat (2 * ds.length)).toNatClampNeg = (enc1 ds).length := by rw [l_bS]; exact own_n (by omega)
  have lt_bS := V_bS.lt
  have n_21 : a2 ≠ a1 := Exa.ne E_a2 Es (by decide)
  have n_b1 : bS ≠ a1 := Ne.symm (Exa.neArv Es V_bS (tw hw 122 rfl))
  have n_2b : a2 ≠ bA := Exa.neArv E_a2 Vs (tw hw 13 rfl)
  have n_2s : a2 ≠ bS := Exa.neArv E_a2 V_bS (tw hw 13 rfl)
  obtain ⟨_, T1, Lc1, X1, hQ1, st1⟩ := own_vc X0 hx hZ (y := Y_0) hown hml (tw hw 228 rfl) (tw hw 42 rfl) (tw hw 44 rfl) (tw hw 43 rfl) (rs_len1 hw O0 ST a2 bS kS ds HS hds) (tw hw 45 rfl) (tw hw 14 rfl) e0 E_a2 (W := 0) (Ls := (q_6 a1 a2)) (argsL := []) (rest := []) (lenOf pd19 rfl) (d53 hby 3 rfl)
  obtain ⟨rfl, Nq1, e1⟩ := hQ1
  have N1 := Fr.app N0 Nq1
  obtain ⟨T2, X2, e2, st2⟩ := getF X1 hx hZ hown (host := "") (Or.inl (tw hw 250 rfl)) Via.refl e1 Fn (g := (mkF m 16 (q_5 a1 a2 ds) [(.ref a1), (.ref a1)])) rfl rfl (d53 hby 7 rfl)
  obtain ⟨_, T3, Lc3, X3, hQ3, st3⟩ := own_pc X2 hx hZ (y := Y_13) hown hml (tw hw 252 rfl) (tw hw 253 rfl) (tw hw 255 rfl) (tw hw 254 rfl) (rb_ec1 hw O0 ST a1 bA kA LB cs (cs.length + ds.length) HB hnn g_a1 g_bA htot) (tw hw 256 rfl) (tw hw 225 rfl) e2 (Es) (W := 0) (Ls := (q_5 a1 a2 ds)) (argsL := [(vN (cs.length + ds.length))]) (rest := []) (lenOf pd24 rfl) (d53 hby 10 rfl)
  obtain ⟨h3, e3⟩ : ∃ z, T3.heap = z := ⟨_, rfl⟩
  rw [e3] at hQ3
  obtain ⟨rfl, Nq3, K3, x3, kx3, LBx3, or3, HBx3, hcap3, hgr3⟩ := hQ3
  have N3 := Fr.app N1 Nq3
  have O4 := O0.keep K3 (allS g_a1 (allS g_bA all0))
  have kp5 : Keep h0 h3 [a1, bA] := (Keep.refl h0 [a1, bA]).trans K3 (allS (Or.inl (List.mem_of_getElem? (i := 0) rfl)) (allS (Or.inl (List.mem_of_getElem? (i := 1) rfl)) all0))
  have or_x3 : x3 = bA ∨ h0.size ≤ x3 := or3.imp id fun q => Nat.le_trans (Keep.refl h0 [a1, bA]).1 q
  have g_x3 : n0 ≤ x3 := own_gor or_x3 g_bA (own_sz O0)
  have wk_x3 : x3 ∈ [a1, bA] ∨ h0.size ≤ x3 := own_mem or_x3
  have n_a2_x3 : a2 ≠ x3 := own_nor or_x3 n_2b lt_a2
  have n_bS_x3 : bS ≠ x3 := own_nor or_x3 nSb lt_bS
  obtain ⟨Es_n, Fv_n, Fc_n, Fn_n, Fy_n, Eb_n, hL_n, tl_n, Bs_n⟩ := id HBx3
  have Vs_n := Bs_n.1
  have ls_n := Bs_n.2
  have hNs_n : (Int32.ofNat LBx3).toNatClampNeg = (enc1 cs ++ tl_n).length := by rw [ls_n]; exact own_n (by omega)
  have lq_n : 2 * cs.length + tl_n.length = LBx3 := by rw [← ls_n]; simp only [List.length_append, List.length_map, enc1_len]
  have n_a1_x3 : a1 ≠ x3 := Exa.neArv Es_n Vs_n (tw hw 122 rfl)
  obtain ⟨T6, X6, e6, st6⟩ := getF X3 hx hZ hown (host := "") (Or.inl (tw hw 250 rfl)) Via.refl e3 Fn_n (g := (mkF m 26 (q_5 a1 a2 ds) [(.ref a1), (.ref a1)])) rfl rfl (d53 hby 13 rfl)
  obtain ⟨_, T7, Lc7, X7, hQ7, st7⟩ := own_pc X6 hx hZ (y := Y_24) hown hml (tw hw 257 rfl) (tw hw 258 rfl) (tw hw 260 rfl) (tw hw 259 rfl) (rb_ps11 hw O4 ST a1 x3 kx3 LBx3 cs a2 bS kS ds HBx3 hnn g_a1 g_x3 ⟨(E_a2.keep K3), (Fc_a2.keep K3 (ninS n_21 (ninS n_2b nin0))), (Fv_a2.keep K3 (ninS n_21 (ninS n_2b nin0))), ⟨(V_bS.keep K3 (ninS n_b1 (ninS nSb nin0))), B_bS.2⟩⟩ hds (by omega) htot n_bS_x3) (tw hw 261 rfl) (tw hw 225 rfl) e6 (Es_n) (W := 0) (Ls := (q_5 a1 a2 ds)) (argsL := [(vN cs.length), (.ref a2)]) (rest := []) (lenOf pd25 rfl) (d53 hby 15 rfl)
  obtain ⟨h7, e7⟩ : ∃ z, T7.heap = z := ⟨_, rfl⟩
  rw [e7] at hQ7
  obtain ⟨rfl, Nq7, K7, w7, kx7, LBx7, or7, HBx7, hLq7⟩ := hQ7
  have N7 := Fr.app N3 Nq7
  have O8 := O4.keep K7 (allS g_a1 (allS g_x3 all0))
  have kp9 := kp5.trans K7 (allS (Or.inl (List.mem_of_getElem? (i := 0) rfl)) (allS wk_x3 all0))
  have or_w7 : w7 = bA ∨ h0.size ≤ w7 := or7.elim (fun q => q ▸ or_x3) (fun q => Or.inr (Nat.le_trans kp5.1 q))
  obtain ⟨Es_m, Fv_m, Fc_m, Fn_m, Fy_m, Eb_m, hL_m, tl_m, Bs_m⟩ := id HBx7
  have Vs_m := Bs_m.1
  have ls_m := Bs_m.2
  have hNs_m : (Int32.ofNat LBx7).toNatClampNeg = (enc1 (cs ++ ds) ++ tl_m).length := by rw [ls_m]; exact own_n (by omega)
  have lq_m : 2 * (cs ++ ds).length + tl_m.length = LBx7 := by rw [← ls_m]; simp only [List.length_append, List.length_map, enc1_len]
  have n_a1_w7 : a1 ≠ w7 := Exa.neArv Es_m Vs_m (tw hw 122 rfl)
  obtain ⟨T10, X10, e10, st10⟩ := getF X7 hx hZ hown (host := "") (Or.inl (tw hw 250 rfl)) Via.refl e7 Fn_m (g := (mkF m 35 (q_5 a1 a2 ds) [(.ref a1), (.ref a1)])) rfl rfl (d53 hby 18 rfl)
  obtain ⟨T11, h11, X11, e11, W11, st11⟩ := putF X10 hx hZ hown (host := "") (Or.inl (tw hw 250 rfl)) Via.refl e10 Fn_m Es_m (Or.inl (tw hw 251 rfl)) (tw hw 122 rfl) (ty := .int) (by decide) rfl rfl (g := (mkF m 40 (q_5 a1 a2 ds) [(vN (cs.length + ds.length)), (.ref a1)])) rfl rfl (d53 hby 21 rfl)
  have Fw11 := Fn_m.same W11
  have O12 := O8.wr W11 g_a1
  have kp13 := kp9.wr W11 (Or.inl (List.mem_of_getElem? (i := 0) rfl))
  have N11 := Fr.snoc X11 N7 g_a1
  refine own_lvA X11 hx hlk hret rfl (d53 hby 23 rfl) (by decide) (by decide) (w := (.ref a1)) rfl (Ls := (q_5 a1 a2 ds)) (rest := []) (fun _ k => castTop (ef_rb_aa00 m a1 a2) ?_) ?_
  · refine za X0 hx (d53 hby 0 rfl) rfl rfl <| XS.ifnonnullYes X0.here hx rfl (pc0 := 1) (pc' := 9) rfl (d53 hby 1 rfl) rfl (by decide) (by decide) <| za X0 hx (d53 hby 2 rfl) rfl rfl <| st1 _ <| zs X1 hx (d53 hby 4 rfl) (Ls' := (q_5 a1 a2 ds)) rfl <| za X1 hx (d53 hby 5 rfl) rfl rfl <| za X1 hx (d53 hby 6 rfl) rfl rfl <| st2 _ <| zl X2 hx (d53 hby 8 rfl) rfl <| XS.iadd X2.here hx rfl (d53 hby 9 rfl) rfl ?_
    show Go p e w_ T2 m 21 (q_5 a1 a2 ds) [(.int ((Int32.ofNat cs.length) + (Int32.ofNat ds.length))), (.ref a1)] _
    rw [show ((Int32.ofNat cs.length) + (Int32.ofNat ds.length)) = (Int32.ofNat (cs.length + ds.length)) from own_add cs.length ds.length]
    refine st3 _ <| za X3 hx (d53 hby 11 rfl) rfl rfl <| za X3 hx (d53 hby 12 rfl) rfl rfl <| st6 _ <| za X6 hx (d53 hby 14 rfl) rfl rfl <| st7 _ <| za X7 hx (d53 hby 16 rfl) rfl rfl <| XS.dup X7.here hx rfl (d53 hby 17 rfl) rfl rfl <| st10 _ <| zl X10 hx (d53 hby 19 rfl) rfl <| XS.iadd X10.here hx rfl (d53 hby 20 rfl) rfl ?_
    show Go p e w_ T10 m 40 (q_5 a1 a2 ds) [(.int ((Int32.ofNat cs.length) + (Int32.ofNat ds.length))), (.ref a1)] _
    rw [show ((Int32.ofNat cs.length) + (Int32.ofNat ds.length)) = (Int32.ofNat (cs.length + ds.length)) from own_add cs.length ds.length]
    refine st11 _ <| za X11 hx (d53 hby 22 rfl) rfl rfl ?_
    exact k
  · rw [e11]
    exact ⟨rfl, N11, kp13, w7, _, _, or_w7, by rw [List.length_append]; exact ⟨(Es_m.wr W11), (Fv_m.other W11 (Or.inr (slot_ne (Or.inl (tw hw 235 rfl)) (Or.inl (tw hw 251 rfl)) (by decide) (t := (.array .byte)) (t' := .int) (by decide) (by decide)))), (Fc_m.other W11 (Or.inr (slot_ne (Or.inl (tw hw 232 rfl)) (Or.inl (tw hw 251 rfl)) (by decide) (t := .byte) (t' := .int) (by decide) (by decide)))), Fw11, (Fy_m.other W11 (Or.inr (slot_ne (Or.inl (tw hw 365 rfl)) (Or.inl (tw hw 251 rfl)) (by decide) (t := .boolean) (t' := .int) (by decide) (by decide)))), (Eb_m.wr W11), hL_m, _, ⟨(Vs_m.other W11 (Ne.symm n_a1_w7)), ls_m⟩⟩, by rw [hLq7]; exact hgr3⟩
theorem rb_ap11 (a1 bA : Addr) (kA : ClassId) (LB : Nat) (cs : List UInt16) (a2 bS : Addr) (kS : ClassId) (ds : List UInt16) (HB : Sb1 Z h0 a1 bA kA LB cs.length cs) (hnn : cs.length ≤ 24) (g_a1 : n0 ≤ a1) (g_bA : n0 ≤ bA) (HS : Str1 Z h0 a2 bS kS ds) (hds : ds.length ≤ 24) (htot : cs.length + ds.length ≤ 24) (nSb : bS ≠ bA) :
    Mt (l := l) hw (ws := ws) O0 ST Y_7 jdk_67_method_7_code 2 (some (.object "java/lang/StringBuilder")) R_13 #[(.ref a1), (.ref a2)] (Qsv (fun h b k LB' => Sb1 Z h a1 b k LB' (cs ++ ds).length (cs ++ ds) ∧ (LB' = LB ∨ 2 * LB + 2 ≤ LB')) (some (.ref a1)) a1 bA h0 n0) := by
  refine own_met (plainFor_of_name pn7) fun p e s m w_ meth c s₁ hx hby hml hZ hh hown hnm hret hlk X0 e0 => ?_
  have N0 := Fr.nil n0
  obtain ⟨Es, Fv, Fc, Fn, Fy, Eb, hL, tl, Bs⟩ := id HB
  have Vs := Bs.1
  have ls := Bs.2
  have hNs : (Int32.ofNat LB).toNatClampNeg = (enc1 cs ++ tl).length := by rw [ls]; exact own_n (by omega)
  have lq : 2 * cs.length + tl.length = LB := by rw [← ls]; simp only [List.length_append, List.length_map, enc1_len]
  have lt_a1 := Es.lt
  have lt_bA := Vs.lt
  have n_ab : a1 ≠ bA := Exa.neArv Es Vs (tw hw 122 rfl)
  obtain ⟨E_a2, Fc_a2, Fv_a2, B_bS⟩ := id HS
  have lt_a2 := E_a2.lt
  have V_bS := B_bS.1
  have l_bS := B_bS.2
  have hN_bS : (Int32.ofNat (2 * ds.length)).toNatClampNeg = (enc1 ds).length := by rw [l_bS]; exact own_n (by omega)
  have lt_bS := V_bS.lt
  have n_21 : a2 ≠ a1 := Exa.ne E_a2 Es (by decide)
  have n_b1 : bS ≠ a1 := Ne.symm (Exa.neArv Es V_bS (tw hw 122 rfl))
  have n_2b : a2 ≠ bA := Exa.neArv E_a2 Vs (tw hw 13 rfl)
  have n_2s : a2 ≠ bS := Exa.neArv E_a2 V_bS (tw hw 13 rfl)
  obtain ⟨_, _, ⟨T1, L1, k1, n1⟩, -, X1, ⟨Lc1, hQ1, l1, y1, z1⟩, st1⟩ := Jvm.RoadKit.superBack X0 hx hZ (y := Y_10) (K := "java/lang/AbstractStringBuilder") hown (tw hw 247 rfl) (own_same (C := "java/lang/StringBuilder") (tw hw 237 rfl) (tw hw 287 rfl)) (tw hw 238 rfl) (tw hw 248 rfl) (by decide) (backOf (W := 0) (rb_aa11 hw O0 ST a1 bA kA LB cs a2 bS kS ds HB hnn g_a1 g_bA HS hds htot nSb) hZ (tw hw 249 rfl) (tw hw 225 rfl) (by decide) (by decide)) e0 (Ins.of_exa Es (tw hw 224 rfl)) (g := (mkF m 2 (q_1 a1 a2) [(.ref a2), (.ref a1)])) rfl (by rw [hml]; rfl) (tw hw 249 rfl) (argsL := [(.ref a2)]) (rest := []) (lenOf pd26 rfl) rfl (by show 2 * 0 + _ ≤ _; exact Nat.le_of_eq rfl) (d52 hby 2 rfl) (fun _ _ => ⟨rfl, e0, (by decide : 0 + 1 ≤ _), (by decide : 0 + 110 ≤ _)⟩)
  dsimp only [Pt.U, Pt.locs, Pt.cells, Pt.slots] at X1 l1 y1 z1 st1 hQ1
  subst l1 y1 z1
  obtain ⟨h1, e1⟩ : ∃ z, T1.heap = z := ⟨_, rfl⟩
  rw [e1] at hQ1
  obtain ⟨rfl, Nq1, K1, R1⟩ := hQ1
  have N1 := Fr.app N0 Nq1
  have O2 := O0.keep K1 (allS g_a1 (allS g_bA all0))
  have kp3 : Keep h0 h1 [a1, bA] := (Keep.refl h0 [a1, bA]).trans K1 (allS (Or.inl (List.mem_of_getElem? (i := 0) rfl)) (allS (Or.inl (List.mem_of_getElem? (i := 1) rfl)) all0))
  have RR := R1
  refine own_lvA X1 hx hlk hret rfl (d52 hby 5 rfl) (by decide) (by decide) (w := (.ref a1)) rfl (Ls := (q_1 a1 a2)) (rest := []) (fun _ k => castTop (ef_rs_iA m a1 a2) ?_) ?_
  · refine za X0 hx (d52 hby 0 rfl) rfl rfl <| za X0 hx (d52 hby 1 rfl) rfl rfl <| st1.trans <| XS.pop X1.here hx rfl (d52 hby 3 rfl) rfl rfl <| za X1 hx (d52 hby 4 rfl) rfl rfl ?_
    exact k
  · rw [e1]
    exact ⟨rfl, N1, kp3, RR⟩
theorem own_cut {vs : List Int32} {n : Nat} : (List.replicate n (0 : Int32)).take 0 ++ vs.take n ++ (List.replicate n (0 : Int32)).drop (0 + n) = vs.take n := by simp
theorem own_cpz {lst src : List Int32} {i n : Nat} : (lst.map Value.int).take i ++ ((src.drop 0).take n).map Value.int ++ (lst.map Value.int).drop (i + n) = (lst.take i ++ src.take n ++ lst.drop (i + n)).map Value.int := by
  rw [List.drop_zero, List.map_append, List.map_append, List.map_take, List.map_drop, List.map_take]
theorem d46 : Dl cb42 [(0, .iload_n 1, 1), (1, .iload_n 0, 1), (2, .if_icmp .ge 35, 3), (37, .return_, 1)] := dlk (by decide +kernel)
theorem ra_cl (i1 : Nat) (hi : i1 ≤ 110) :
    Mt (l := l) hw (ws := ws) O0 ST Y_76 jdk_65_method_131_code 2 none R_0 #[(vL 0), (vN i1)] (Qpure none h0 n0) := by
  refine own_met (plainFor_of_name pn5) fun p e s m w_ meth c s₁ hx hby hml hZ hh hown hnm hret hlk X0 e0 => ?_
  have N0 := Fr.nil n0
  refine own_lvV X0 hx hlk hret (d46 hby 3 rfl) (by decide) (by decide) (Ls := #[iv 0, nv i1]) (fun _ k => castTop (ef_rs_ci m (0 : Int32) (Int32.ofNat i1)) ?_) ?_
  · refine zl X0 hx (d46 hby 0 rfl) rfl <| zl X0 hx (d46 hby 1 rfl) rfl <| zy X0 hx 2 37 (d46 hby 2 rfl) (flt (fun q => absurd ((own_lt (a := i1) (b := 0) (by omega) (by omega)).mp q) (by omega))).2.1 ?_
    exact k
  · rw [e0]
    exact ⟨rfl, N0, rfl⟩
theorem d45 : Dl cb43 [(0, .iload_n 1, 1), (1, .iload_n 2, 1), (2, .invokestatic 343, 3), (5, .iload_n 2, 1), (6, .iload_n 1, 1), (7, .isub, 1), (8, .istore_n 3, 1), (9, .iload_n 3, 1), (10, .newarray .byte, 2), (12, .astore 4, 2), (14, .aload_n 0, 1), (15, .iload_n 1, 1), (16, .aload 4, 2), (18, .iconst 0, 1), (19, .aload_n 0, 1), (20, .arraylength, 1), (21, .iload_n 1, 1), (22, .isub, 1), (23, .iload_n 3, 1), (24, .invokestatic 304, 3), (27, .invokestatic 150, 3), (30, .aload 4, 2), (32, .areturn, 1)] := dlk (by decide +kernel)
theorem ra_cb (a1 : Addr) (kA : ClassId) (LA : Nat) (vs : List Int32) (i1 : Nat) (B1 : Bar Z h0 a1 kA LA vs) (hB : LA ≤ 110) (hi : i1 < LA) :
    Mt (l := l) hw (ws := ws) O0 ST Y_77 jdk_65_method_133_code 5 (some (.array .byte)) R_30 #[(.ref a1), (vL 0), (vN i1)] (Qar Z i1 (vs.take i1) h0 n0) := by
  refine own_met (plainFor_of_name pn5) fun p e s m w_ meth c s₁ hx hby hml hZ hh hown hnm hret hlk X0 e0 => ?_
  have N0 := Fr.nil n0
  have V_a1 := B1.1
  have l_a1 := B1.2
  have hN_a1 : (Int32.ofNat LA).toNatClampNeg = vs.length := by rw [l_a1]; exact own_n (by omega)
  have lt_a1 := V_a1.lt
  obtain ⟨_, T1, Lc1, X1, hQ1, st1⟩ := own_sc X0 hx hZ (y := Y_76) hown hml (tw hw 202 rfl) (tw hw 203 rfl) (ra_cl hw O0 ST i1 (by omega)) (tw hw 204 rfl) (tw hw 197 rfl) e0 (W := 0) (Ls := (q_12 a1 i1)) (argsL := [(vL 0), (vN i1)]) (rest := []) (lenOf pd2 rfl) (d45 hby 2 rfl)
  obtain ⟨rfl, Nq1, e1⟩ := hQ1
  have N1 := Fr.app N0 Nq1
  obtain ⟨T2, h2, k2, X2, e2, E2, A2, Ea2, st2⟩ := newPE X1 hx hZ (tw hw 26 rfl) e1 (g := (mkF m 10 (q_119 a1 i1) [(vN i1)])) rfl (d45 hby 8 rfl) rfl (own_nn (n := i1) (by omega)) (cap := 110) (by rw [own_n (n := i1) (by omega)]; omega) (by decide) (by decide) (by decide) (ad := "[B") (by decide)
  obtain ⟨b2, g2⟩ : ∃ z, z = h0.size := ⟨_, rfl⟩
  rw [← g2] at A2 Ea2 st2
  have g_b2 : n0 ≤ b2 := by rw [g2]; exact Nat.le_trans (Nat.le_of_eq O0.1.symm) O0.2.1
  have sz_b2 : h0.size ≤ b2 := by rw [g2]; exact (Keep.refl h0 []).1
  have lt_a1_b2 : a1 < b2 := Nat.lt_of_lt_of_le lt_a1 sz_b2
  have O3 := O0.ext E2
  have kp4 : Keep h0 h2 [] := (Keep.refl h0 []).ext E2
  have V_b2 : Arv Z h2 b2 k2 .byte (Int32.ofNat i1) ((List.replicate i1 (0 : Int32)).map Value.int) (vL 0) := by rw [List.map_replicate]; exact (Arv.new A2 (own_nn (n := i1) (by omega))).pad (pad_rep [] (vL 0) i1)
  have hN_b2 : ((Int32.ofNat i1)).toNatClampNeg = (List.replicate i1 (0 : Int32)).length := by rw [List.length_replicate]; exact own_n (n := i1) (by omega)
  obtain ⟨cl5, Ar5, q5, Sz5, Nn5, Ha5, Gf5⟩ := id (V_a1.ext E2)
  obtain ⟨_, T6, Lc6, X6, hQ6, st6⟩ := own_sc X2 hx hZ (y := Y_20) hown hml (tw hw 205 rfl) (tw hw 206 rfl) (rm_minB hw O3 ST LA i1 (by omega) (by omega) hi) (tw hw 208 rfl) (tw hw 207 rfl) e2 (W := 4) (Ls := (q_56 a1 i1 b2)) (argsL := [(vN LA), (vN i1)]) (rest := [(vL 0), (.ref b2), (vL 0), (.ref a1)]) (lenOf pd18 rfl) (d45 hby 19 rfl)
  obtain ⟨rfl, Nq6, e6⟩ := hQ6
  have N6 := Fr.app N1 Nq6
  obtain ⟨T7, h7, L7, X7, e7, N7, K7, Vr7, st7⟩ := cpA X6 hx hZ hown (tw hw 209 rfl) (tw hw 212 rfl) (tw hw 210 rfl) (tw hw 211 rfl) e6 (V_a1.ext E2) V_b2 (Or.inl ⟨rfl, rfl⟩) (sp := (0 : Int32)) (dp := (0 : Int32)) (nn := (Int32.ofNat i1)) (us := (((vs.drop 0).take i1).map Value.int)) (by decide) (by decide) (own_nn (n := i1) (by omega)) (by rw [own_n (n := i1) (by omega), own_n (n := LA) (by omega), show (0 : Int32).toNatClampNeg = 0 by decide]; omega) (by rw [own_n (n := i1) (by omega), show (0 : Int32).toNatClampNeg = 0 by decide]; omega) (own_us (by decide) (own_n (n := i1) (by omega)) (by omega)) (by rw [List.length_map, List.length_replicate, own_n (n := i1) (by omega), show (0 : Int32).toNatClampNeg = 0 by decide]; omega) N6 g_b2 (g := (mkF m 27 (q_56 a1 i1 b2) [(vN i1), (vL 0), (.ref b2), (vL 0), (.ref a1)])) rfl (by rw [hml]; rfl) rfl (d45 hby 20 rfl) (by decide) (W := 0) (by show 2 * 0 + _ ≤ _; exact Nat.le_of_eq rfl) (by decide)
  have O8 := O3.keep K7 (allS g_b2 all0)
  have kp9 := kp4.trans K7 (allS (Or.inr sz_b2) all0)
  have Vc7 : Arv Z h7 b2 k2 .byte (Int32.ofNat i1) ((vs.take i1).map Value.int) (vL 0) := by have q := Vr7; rw [own_n (n := i1) (by omega), show (0 : Int32).toNatClampNeg = 0 by decide, own_cpz, own_cut] at q; exact q
  refine own_lvA X7 hx hlk hret rfl (d45 hby 22 rfl) (by decide) (by decide) (w := (.ref b2)) rfl (Ls := (q_56 a1 i1 b2)) (rest := []) (fun _ k => castTop (ef_ru_tb m a1 (0 : Int32) (Int32.ofNat i1)) ?_) ?_
  · refine zl X0 hx (d45 hby 0 rfl) rfl <| zl X0 hx (d45 hby 1 rfl) rfl <| st1 _ <| zl X1 hx (d45 hby 3 rfl) rfl <| zl X1 hx (d45 hby 4 rfl) rfl <| XS.isub X1.here hx rfl (d45 hby 5 rfl) rfl ?_
    show Go p e w_ T1 m 8 (q_12 a1 i1) [(.int ((Int32.ofNat i1) - (0 : Int32)))] _
    rw [show ((Int32.ofNat i1) - (0 : Int32)) = (Int32.ofNat i1) from own_sub (a := i1) (b := 0) (Nat.zero_le _)]
    refine zs X1 hx (d45 hby 6 rfl) (Ls' := (q_119 a1 i1)) rfl <| zl X1 hx (d45 hby 7 rfl) rfl <| st2 _ <| XS.astore X2.here hx rfl (d45 hby 9 rfl) rfl rfl (l' := (q_56 a1 i1 b2)) rfl <| za X2 hx (d45 hby 10 rfl) rfl rfl <| zl X2 hx (d45 hby 11 rfl) rfl <| XS.aload X2.here hx rfl (d45 hby 12 rfl) rfl rfl <| zc X2 hx (d45 hby 13 rfl) <| za X2 hx (d45 hby 14 rfl) rfl rfl ?_
    show Go p e w_ T2 m 20 (q_56 a1 i1 b2) [(.ref a1), (vL 0), (.ref b2), (vL 0), (.ref a1)] _
    refine X2.arraylength hx (by rw [e2]; exact Ar5.1) (State.isArrayOf_alike hZ.alike Ar5.2.1) (g := (mkF m 20 (q_56 a1 i1 b2) [(.ref a1), (vL 0), (.ref b2), (vL 0), (.ref a1)])) rfl rfl (d45 hby 15 rfl) _ ?_
    rw [len_of Sz5 Nn5]
    refine zl X2 hx (d45 hby 16 rfl) rfl <| XS.isub X2.here hx rfl (d45 hby 17 rfl) rfl ?_
    show Go p e w_ T2 m 23 (q_56 a1 i1 b2) [(.int ((Int32.ofNat LA) - (0 : Int32))), (.int (0 : Int32)), (.ref b2), (.int (0 : Int32)), (.ref a1)] _
    rw [show ((Int32.ofNat LA) - (0 : Int32)) = (Int32.ofNat LA) from own_sub (a := LA) (b := 0) (Nat.zero_le _)]
    refine zl X2 hx (d45 hby 18 rfl) rfl <| st6 _ <| st7 _ <| XS.aload X7.here hx rfl (d45 hby 21 rfl) rfl rfl ?_
    exact k
  · rw [e7]
    exact ⟨b2, _, rfl, N7, kp9, sz_b2, ⟨Vc7, by rw [List.length_take]; omega⟩, (Ea2.keep K7)⟩
theorem d44 : Dl cb44 [(0, .iload_n 1, 1), (1, .ifCond .ne 9, 3), (4, .iload_n 2, 1), (5, .aload_n 0, 1), (6, .arraylength, 1), (7, .if_icmp .eq 10, 3), (10, .aload_n 0, 1), (11, .iload_n 1, 1), (12, .iload_n 2, 1), (13, .invokestatic 339, 3), (16, .areturn, 1), (17, .aload_n 0, 1), (18, .invokevirtual 310, 3)] := dlk (by decide +kernel)
theorem pd27 : parseMethodDescriptor "([BII)[B" = some ⟨[(.array .byte), .int, .int], some (.array .byte)⟩ := by decide +kernel
theorem ra_crA (a1 : Addr) (kA : ClassId) (LA : Nat) (vs : List Int32) (i1 : Nat) (B1 : Bar Z h0 a1 kA LA vs) (hB : LA ≤ 110) (hi : i1 < LA) :
    Mt (l := l) hw (ws := ws) O0 ST Y_28 jdk_65_method_132_code 3 (some (.array .byte)) R_48 #[(.ref a1), (vL 0), (vN i1)] (Qar Z i1 (vs.take i1) h0 n0) := by
  refine own_met (plainFor_of_name pn5) fun p e s m w_ meth c s₁ hx hby hml hZ hh hown hnm hret hlk X0 e0 => ?_
  have N0 := Fr.nil n0
  have V_a1 := B1.1
  have l_a1 := B1.2
  have hN_a1 : (Int32.ofNat LA).toNatClampNeg = vs.length := by rw [l_a1]; exact own_n (by omega)
  have lt_a1 := V_a1.lt
  obtain ⟨cl1, Ar1, q1, Sz1, Nn1, Ha1, Gf1⟩ := id V_a1
  have pf2 : ∀ target, Go p e w_ s₁ m 7 (q_23 a1 i1) [(vN LA), (vN i1)] target → Go p e w_ s₁ m 0 (q_23 a1 i1) [] target := by
    intro target k
    refine zl X0 hx (d44 hby 0 rfl) rfl <| zg X0 hx (d44 hby 1 rfl) ((if0 _ _).trans (teq (by decide)).2) <| zl X0 hx (d44 hby 2 rfl) rfl <| za X0 hx (d44 hby 3 rfl) rfl rfl ?_
    show Go p e w_ s₁ m 6 (q_23 a1 i1) [(.ref a1), (vN i1)] _
    refine X0.arraylength hx (by rw [e0]; exact Ar1.1) (State.isArrayOf_alike hZ.alike Ar1.2.1) (g := (mkF m 6 (q_23 a1 i1) [(.ref a1), (vN i1)])) rfl rfl (d44 hby 4 rfl) _ ?_
    rw [len_of Sz1 Nn1]
    exact k
  obtain ⟨_, T3, Lc3, X3, hQ3, st3⟩ := own_sc X0 hx hZ (y := Y_77) hown hml (tw hw 199 rfl) (tw hw 200 rfl) (ra_cb hw O0 ST a1 kA LA vs i1 B1 hB hi) (tw hw 201 rfl) (tw hw 197 rfl) e0 (W := 0) (Ls := (q_23 a1 i1)) (argsL := [(.ref a1), (vL 0), (vN i1)]) (rest := []) (lenOf pd27 rfl) (d44 hby 9 rfl)
  obtain ⟨h3, e3⟩ : ∃ z, T3.heap = z := ⟨_, rfl⟩
  rw [e3] at hQ3
  obtain ⟨t3, kt3, rfl, Nq3, K3, szt3, Bt3, Et3⟩ := hQ3
  have N3 := Fr.app N0 Nq3
  have O4 := O0.keep K3 all0
  have kp5 : Keep h0 h3 [] := (Keep.refl h0 []).trans K3 all0
  have sz_t3 := Nat.le_trans (Keep.refl h0 []).1 szt3
  have g_t3 : n0 ≤ t3 := Nat.le_trans (Nat.le_trans (Nat.le_of_eq O0.1.symm) O0.2.1) sz_t3
  have lt_a1_t3 : a1 < t3 := Nat.lt_of_lt_of_le lt_a1 sz_t3
  have V_t3 := Bt3.1
  refine own_lvA X3 hx hlk hret rfl (d44 hby 10 rfl) (by decide) (by decide) (w := (.ref t3)) rfl (Ls := (q_23 a1 i1)) (rest := []) (fun _ k => castTop (ef_ru_put m a1 (0 : Int32) (Int32.ofNat i1)) ?_) ?_
  · refine pf2 _ <| zn X0 hx (d44 hby 5 rfl) (feq (fun q => absurd ((own_eq (a := i1) (b := LA) (by omega) (by omega)).mp q) (by omega))).1 <| za X0 hx (d44 hby 6 rfl) rfl rfl <| zl X0 hx (d44 hby 7 rfl) rfl <| zl X0 hx (d44 hby 8 rfl) rfl <| st3 _ ?_
    exact k
  · rw [e3]
    exact ⟨t3, _, rfl, N3, kp5, sz_t3, ⟨V_t3, by rw [List.length_take]; omega⟩, Et3⟩
theorem d75 : Dl cb45 [(0, .aload_n 0, 1), (1, .invokespecial 1, 3), (4, .aload_n 1, 1), (5, .invokevirtual 552, 3), (8, .astore_n 3, 1), (9, .aload_n 1, 1), (10, .invokevirtual 549, 3), (13, .istore 4, 2), (15, .aload_n 1, 1), (16, .invokevirtual 1047, 3), (19, .ifCond .eq 22, 3), (22, .aload_n 0, 1), (23, .iconst 0, 1), (24, .putfield 15, 3), (27, .aload_n 0, 1), (28, .aload_n 3, 1), (29, .iconst 0, 1), (30, .iload 4, 2), (32, .invokestatic 54, 3), (35, .putfield 9, 3), (38, .goto 59, 3), (97, .return_, 1), (41, .getstatic 38, 3), (44, .ifCond .eq 35, 3), (47, .aload_n 1, 1), (48, .getfield 1048, 3), (51, .ifCond .eq 28, 3), (79, .aload_n 0, 1), (80, .iconst 1, 1), (81, .putfield 15, 3), (84, .aload_n 0, 1), (85, .aload_n 3, 1), (86, .iconst 0, 1), (87, .iload 4, 2), (89, .iconst 1, 1), (90, .ishl, 1), (91, .invokestatic 54, 3), (94, .putfield 9, 3)] := dlk (by decide +kernel)
theorem pd28 : parseMethodDescriptor "()[B" = some ⟨[], some (.array .byte)⟩ := by decide +kernel
theorem ef_rs_ix0 (m : MethodId) (x0 : Addr) (x1 : Addr) : entryFrame m #[(.ref x0), (.ref x1), .null] 5 = mkF m 0 #[.val (.ref x0), .val (.ref x1), .val .null, .unset, .unset] [] := by first | (simp [entryFrame, mkF, argsToLocals, Value.category]; done) | rfl
theorem rs_ix0 (a1 a2 bA : Addr) (kA : ClassId) (LB : Nat) (cs : List UInt16) (E_a : Exa Z h0 a1 "java/lang/String") (F_v : Fld Z h0 a1 "java/lang/String" "value" "[B" .null) (F_c : Fld Z h0 a1 "java/lang/String" "coder" "B" (vL 0)) (g_a1 : n0 ≤ a1) (HB : Sb0 Z h0 a2 bA kA LB cs.length cs) (hnn : cs.length ≤ 24) (hlt : cs.length < LB) :
    Mt (l := l) hw (ws := ws) O0 ST Y_41 jdk_42_method_150_code 5 none R_34 #[(.ref a1), (.ref a2), .null] (Qst Z a1 cs h0 n0) := by
  refine own_met (plainFor_of_name pn2) fun p e s m w_ meth c s₁ hx hby hml hZ hh hown hnm hret hlk X0 e0 => ?_
  have N0 := Fr.nil n0
  obtain ⟨Es, Fv, Fc, Fn, Fy, Eb, hu, hL, tl, Bs⟩ := id HB
  have Vs := Bs.1
  have ls := Bs.2
  have hNs : (Int32.ofNat LB).toNatClampNeg = (cs.map cLo ++ tl).length := by rw [ls]; exact own_n (by omega)
  have lq : cs.length + tl.length = LB := by rw [← ls]; simp only [List.length_append, List.length_map, enc1_len]
  have lt_a2 := Es.lt
  have lt_bA := Vs.lt
  have n_2b : a2 ≠ bA := Exa.neArv Es Vs (tw hw 122 rfl)
  have lt_a1 := E_a.lt
  have n_12 : a1 ≠ a2 := Exa.ne E_a Es (by decide)
  have n_1b : a1 ≠ bA := Exa.neArv E_a Vs (tw hw 13 rfl)
  obtain ⟨T1, X1, e1, st1⟩ := initO X0 hx hZ hown (tw hw 22 rfl) (tw hw 23 rfl) (tw hw 24 rfl) e0 (g := (mkF m 1 (q_39 a1 a2) [(.ref a1)])) rfl (by rw [hml]; rfl) rfl (d75 hby 1 rfl) (by decide) (W := 0) (by show 2 * 0 + _ ≤ _; exact Nat.le_of_eq rfl) (by decide)
  obtain ⟨_, T2, Lc2, X2, hQ2, st2⟩ := own_vc X1 hx hZ (y := Y_21) hown hml (tw hw 350 rfl) (tw hw 351 rfl) (tw hw 353 rfl) (tw hw 352 rfl) (rb_gv0 hw O0 ST a2 bA kA LB cs.length cs ⟨Es, Fv, Fc, Fn, Fy, Eb, hu, hL, tl, ⟨Vs, ls⟩⟩ hnn) (tw hw 354 rfl) (tw hw 225 rfl) e1 Es (W := 0) (Ls := (q_39 a1 a2)) (argsL := []) (rest := []) (lenOf pd28 rfl) (d75 hby 3 rfl)
  obtain ⟨rfl, Nq2, e2⟩ := hQ2
  have N2 := Fr.app N0 Nq2
  obtain ⟨cq3, kq3, qa3, qb3, qc3⟩ := isOf hZ e2 Es
  obtain ⟨_, _, ⟨T3, L3, k3, n3⟩, -, X3, ⟨Lc3, hQ3, l3, y3, z3⟩, st3⟩ := X2.virtualBack hx (y := Y_22) (z := Y_39) hown (mvT hZ (tw hw 355 rfl)) (mvT hZ (tw hw 356 rfl)) (own_nf (args := #[]) (z := Y_3) (mvT hZ (tw hw 287 rfl))) (mvT hZ (tw hw 358 rfl)) (mvT hZ (tw hw 359 rfl)) (by decide) (backOf (W := 0) (rb_len0 hw O0 ST a2 bA kA LB cs.length cs ⟨Es, Fv, Fc, Fn, Fy, Eb, hu, hL, tl, ⟨Vs, ls⟩⟩ hnn) hZ (tw hw 360 rfl) (tw hw 123 rfl) (by decide) (by decide)) qa3 qc3 (g := (mkF m 10 (q_75 a1 a2 bA) [(.ref a2)])) rfl (by rw [hml]; rfl) (Steps.refl _) (argsL := []) (rest := []) (lenOf pd19 rfl) rfl (by show 2 * 0 + _ ≤ _; exact Nat.le_of_eq rfl) (d75 hby 6 rfl) (fun _ _ => ⟨rfl, e2, (by decide : 0 + 0 ≤ _), (by decide : 0 + 0 ≤ _)⟩)
  dsimp only [Pt.U, Pt.locs, Pt.cells, Pt.slots] at X3 l3 y3 z3 st3 hQ3
  subst l3 y3 z3
  obtain ⟨rfl, Nq3, e3⟩ := hQ3
  have N3 := Fr.app N2 Nq3
  obtain ⟨_, T4, Lc4, X4, hQ4, st4⟩ := own_vc X3 hx hZ (y := Y_3) hown hml (tw hw 363 rfl) (tw hw 285 rfl) (tw hw 287 rfl) (tw hw 286 rfl) (rb_il0 hw O0 ST a2 bA kA LB cs.length cs ⟨Es, Fv, Fc, Fn, Fy, Eb, hu, hL, tl, ⟨Vs, ls⟩⟩ hnn) (tw hw 288 rfl) (tw hw 225 rfl) e3 Es (W := 0) (Ls := (q_9 a1 a2 bA cs)) (argsL := []) (rest := []) (lenOf pd6 rfl) (d75 hby 9 rfl)
  obtain ⟨rfl, Nq4, e4⟩ := hQ4
  have N4 := Fr.app N3 Nq4
  have pf5 : ∀ target, Go p e w_ T4 m 19 (q_9 a1 a2 bA cs) [(vL 1)] target → Go p e w_ s₁ m 0 (q_39 a1 a2) [] target := by
    intro target k
    refine za X0 hx (d75 hby 0 rfl) rfl rfl <| st1 _ <| za X1 hx (d75 hby 2 rfl) rfl rfl <| st2 _ <| XS.astoreN X2.here hx rfl (d75 hby 4 rfl) rfl rfl (l' := (q_75 a1 a2 bA)) rfl <| za X2 hx (d75 hby 5 rfl) rfl rfl <| st3.trans <| zt X3 hx (d75 hby 7 rfl) (Ls' := (q_9 a1 a2 bA cs)) rfl <| za X3 hx (d75 hby 8 rfl) rfl rfl <| st4 _ ?_
    exact k
  obtain ⟨T6, h6, X6, e6, W6, st6⟩ := putFN X4 hx hZ hown (tw hw 32 rfl) Via.refl e4 F_c E_a (Or.inr ⟨(tw hw 28 rfl), rfl, hnm⟩) (tw hw 13 rfl) (ty := .byte) (v' := (vL 0)) (by decide) rfl rfl (g := (mkF m 24 (q_9 a1 a2 bA cs) [(vL 0), (.ref a1)])) rfl rfl (d75 hby 13 rfl)
  have Fw6 := F_c.same W6
  have O7 := O0.wr W6 g_a1
  have kp8 : Keep h0 h6 [a1] := (Keep.refl h0 [a1]).wr W6 (Or.inl (List.mem_of_getElem? (i := 0) rfl))
  have N6 := Fr.snoc X6 N4 g_a1
  obtain ⟨_, T9, Lc9, X9, hQ9, st9⟩ := own_sc X6 hx hZ (y := Y_28) hown hml (tw hw 366 rfl) (tw hw 196 rfl) (ra_crA hw O7 ST bA kA LB (cs.map cLo ++ tl) cs.length ⟨(Vs.other W6 (Ne.symm n_1b)), ls⟩ (by omega) (by omega)) (tw hw 198 rfl) (tw hw 197 rfl) e6 (W := 1) (Ls := (q_9 a1 a2 bA cs)) (argsL := [(.ref bA), (vL 0), (vN cs.length)]) (rest := [(.ref a1)]) (lenOf pd27 rfl) (d75 hby 18 rfl)
  obtain ⟨h9, e9⟩ : ∃ z, T9.heap = z := ⟨_, rfl⟩
  rw [e9] at hQ9
  obtain ⟨t9, kt9, rfl, Nq9, K9, szt9, Bt9, Et9⟩ := hQ9
  have N9 := Fr.app N6 Nq9
  have O10 := O7.keep K9 all0
  have kp11 := kp8.trans K9 all0
  have sz_t9 := Nat.le_trans kp8.1 szt9
  have g_t9 : n0 ≤ t9 := Nat.le_trans (Nat.le_trans (Nat.le_of_eq O0.1.symm) O0.2.1) sz_t9
  have lt_a1_t9 : a1 < t9 := Nat.lt_of_lt_of_le lt_a1 sz_t9
  have lt_a2_t9 : a2 < t9 := Nat.lt_of_lt_of_le lt_a2 sz_t9
  have lt_bA_t9 : bA < t9 := Nat.lt_of_lt_of_le lt_bA sz_t9
  have Bw : Bar Z h9 t9 kt9 cs.length (cs.map cLo) := by have q := Bt9; rw [show (cs.map cLo ++ tl).take cs.length = (cs.map cLo) from own_tkl (by rw [List.length_map])] at q; exact q
  obtain ⟨T12, h12, X12, e12, W12, st12⟩ := putF X9 hx hZ hown (host := "") (Or.inl (tw hw 31 rfl)) Via.refl e9 ((F_v.other W6 (Or.inr (slot_ne (Or.inr (tw hw 27 rfl)) (Or.inr (tw hw 28 rfl)) (by decide) (t := (.array .byte)) (t' := .byte) (by decide) (by decide)))).keep K9 nin0) ((E_a.wr W6).keep K9) (Or.inr ⟨(tw hw 27 rfl), rfl, hnm⟩) (tw hw 13 rfl) (ty := (.array .byte)) (by decide) rfl rfl (g := (mkF m 35 (q_9 a1 a2 bA cs) [(.ref t9), (.ref a1)])) rfl rfl (d75 hby 19 rfl)
  have Fw12 := ((F_v.other W6 (Or.inr (slot_ne (Or.inr (tw hw 27 rfl)) (Or.inr (tw hw 28 rfl)) (by decide) (t := (.array .byte)) (t' := .byte) (by decide) (by decide)))).keep K9 nin0).same W12
  have O13 := O10.wr W12 g_a1
  have kp14 := kp11.wr W12 (Or.inl (List.mem_of_getElem? (i := 0) rfl))
  have N12 := Fr.snoc X12 N9 g_a1
  refine own_lvV X12 hx hlk hret (d75 hby 21 rfl) (by decide) (by decide) (Ls := (q_9 a1 a2 bA cs)) (fun _ k => castTop (ef_rs_ix0 m a1 a2) ?_) ?_
  · refine pf5 _ <| zg X4 hx (d75 hby 10 rfl) ((if0 _ _).trans (feq (by decide)).1) <| za X4 hx (d75 hby 11 rfl) rfl rfl <| zc X4 hx (d75 hby 12 rfl) <| st6 _ <| za X6 hx (d75 hby 14 rfl) rfl rfl <| za X6 hx (d75 hby 15 rfl) rfl rfl <| zc X6 hx (d75 hby 16 rfl) <| zm X6 hx (d75 hby 17 rfl) rfl <| st9 _ <| st12 _ <| zo X12 hx 38 97 (d75 hby 20 rfl) ?_
    exact k
  · rw [e12]
    exact ⟨rfl, N12, kp14, t9, _, sz_t9, Or.inl ⟨(((E_a.wr W6).keep K9).wr W12), ((Fw6.keep K9 nin0).other W12 (Or.inr (slot_ne (Or.inr (tw hw 28 rfl)) (Or.inr (tw hw 27 rfl)) (by decide) (t := .byte) (t' := (.array .byte)) (by decide) (by decide)))), Fw12, ⟨(Bw.1.other W12 (Ne.symm (Nat.ne_of_lt lt_a1_t9))), Bw.2⟩, hu⟩⟩
theorem d74 : Dl cb46 [(0, .aload_n 0, 1), (1, .aload_n 1, 1), (2, .aconst_null, 1), (3, .invokespecial 489, 3), (6, .return_, 1)] := dlk (by decide +kernel)
theorem pd29 : parseMethodDescriptor "(Ljava/lang/AbstractStringBuilder;Ljava/lang/Void;)V" = some ⟨[(.object "java/lang/AbstractStringBuilder"), (.object "java/lang/Void")], none⟩ := by decide +kernel
theorem rs_iy0 (a1 a2 bA : Addr) (kA : ClassId) (LB : Nat) (cs : List UInt16) (E_a : Exa Z h0 a1 "java/lang/String") (F_v : Fld Z h0 a1 "java/lang/String" "value" "[B" .null) (F_c : Fld Z h0 a1 "java/lang/String" "coder" "B" (vL 0)) (g_a1 : n0 ≤ a1) (HB : Sb0 Z h0 a2 bA kA LB cs.length cs) (hnn : cs.length ≤ 24) (hlt : cs.length < LB) :
    Mt (l := l) hw (ws := ws) O0 ST Y_42 jdk_42_method_53_code 2 none R_35 #[(.ref a1), (.ref a2)] (Qst Z a1 cs h0 n0) := by
  refine own_met (plainFor_of_name pn2) fun p e s m w_ meth c s₁ hx hby hml hZ hh hown hnm hret hlk X0 e0 => ?_
  have N0 := Fr.nil n0
  obtain ⟨Es, Fv, Fc, Fn, Fy, Eb, hu, hL, tl, Bs⟩ := id HB
  have Vs := Bs.1
  have ls := Bs.2
  have hNs : (Int32.ofNat LB).toNatClampNeg = (cs.map cLo ++ tl).length := by rw [ls]; exact own_n (by omega)
  have lq : cs.length + tl.length = LB := by rw [← ls]; simp only [List.length_append, List.length_map, enc1_len]
  have lt_a2 := Es.lt
  have lt_bA := Vs.lt
  have n_2b : a2 ≠ bA := Exa.neArv Es Vs (tw hw 122 rfl)
  have lt_a1 := E_a.lt
  have n_12 : a1 ≠ a2 := Exa.ne E_a Es (by decide)
  have n_1b : a1 ≠ bA := Exa.neArv E_a Vs (tw hw 13 rfl)
  obtain ⟨_, T1, Lc1, X1, hQ1, st1⟩ := own_ic X0 hx hZ (y := Y_41) rfl hown hml (tw hw 347 rfl) (tw hw 348 rfl) (rs_ix0 hw O0 ST a1 a2 bA kA LB cs E_a F_v F_c g_a1 HB hnn hlt) (tw hw 349 rfl) (tw hw 14 rfl) e0 (W := 0) (Ls := (q_1 a1 a2)) (b := a1) (argsL := [(.ref a2), .null]) (rest := []) (lenOf pd29 rfl) (d74 hby 3 rfl)
  obtain ⟨h1, e1⟩ : ∃ z, T1.heap = z := ⟨_, rfl⟩
  rw [e1] at hQ1
  obtain ⟨rfl, Nq1, K1, R1⟩ := hQ1
  have N1 := Fr.app N0 Nq1
  have O2 := O0.keep K1 (allS g_a1 all0)
  have kp3 : Keep h0 h1 [a1] := (Keep.refl h0 [a1]).trans K1 (allS (Or.inl (List.mem_of_getElem? (i := 0) rfl)) all0)
  have RR := R1
  refine own_lvV X1 hx hlk hret (d74 hby 4 rfl) (by decide) (by decide) (Ls := (q_1 a1 a2)) (fun _ k => castTop (ef_rs_iA m a1 a2) ?_) ?_
  · refine za X0 hx (d74 hby 0 rfl) rfl rfl <| za X0 hx (d74 hby 1 rfl) rfl rfl <| XS.aconstNull X0.here hx rfl (d74 hby 2 rfl) <| st1 _ ?_
    exact k
  · rw [e1]
    exact ⟨rfl, N1, kp3, RR⟩
theorem d73 : Dl cb47 [(0, .new 18, 3), (3, .dup, 1), (4, .aload_n 0, 1), (5, .invokespecial 137, 3), (8, .areturn, 1)] := dlk (by decide +kernel)
theorem pd30 : parseMethodDescriptor "(Ljava/lang/StringBuilder;)V" = some ⟨[(.object "java/lang/StringBuilder")], none⟩ := by decide +kernel
theorem rb_ts0 (a2 bA : Addr) (kA : ClassId) (LB : Nat) (cs : List UInt16) (HB : Sb0 Z h0 a2 bA kA LB cs.length cs) (hnn : cs.length ≤ 24) (hlt : cs.length < LB) :
    Mt (l := l) hw (ws := ws) O0 ST Y_29 jdk_67_method_42_code 1 (some (.object "java/lang/String")) R_25 #[(.ref a2)] (Qs Z cs h0 n0) := by
  refine own_met (plainFor_of_name pn7) fun p e s m w_ meth c s₁ hx hby hml hZ hh hown hnm hret hlk X0 e0 => ?_
  have N0 := Fr.nil n0
  obtain ⟨Es, Fv, Fc, Fn, Fy, Eb, hu, hL, tl, Bs⟩ := id HB
  have Vs := Bs.1
  have ls := Bs.2
  have hNs : (Int32.ofNat LB).toNatClampNeg = (cs.map cLo ++ tl).length := by rw [ls]; exact own_n (by omega)
  have lq : cs.length + tl.length = LB := by rw [← ls]; simp only [List.length_append, List.length_map, enc1_len]
  have lt_a2 := Es.lt
  have lt_bA := Vs.lt
  have n_2b : a2 ≠ bA := Exa.neArv Es Vs (tw hw 122 rfl)
  obtain ⟨T1, h1, X1, e1, E1, A1, D1, U1, st1⟩ := newO X0 hx hZ hown (tw hw 343 rfl) (tw hw 13 rfl) (tw hw 14 rfl) e0 (g := (mkF m 0 (q_0 a2) [])) rfl (d73 hby 0 rfl) (by decide) (by decide)
  obtain ⟨b1, g1⟩ : ∃ z, z = h0.size := ⟨_, rfl⟩
  rw [← g1] at A1 D1 U1 st1
  have g_b1 : n0 ≤ b1 := by rw [g1]; exact Nat.le_trans (Nat.le_of_eq O0.1.symm) O0.2.1
  have sz_b1 : h0.size ≤ b1 := by rw [g1]; exact (Keep.refl h0 []).1
  have lt_a2_b1 : a2 < b1 := Nat.lt_of_lt_of_le lt_a2 sz_b1
  have lt_bA_b1 : bA < b1 := Nat.lt_of_lt_of_le lt_bA sz_b1
  have O2 := O0.ext E1
  have kp3 : Keep h0 h1 [] := (Keep.refl h0 []).ext E1
  have F_value_b1 : Fld Z h1 b1 "java/lang/String" "value" "[B" .null := D1 (Or.inr (tw hw 27 rfl)) (ty := (.array .byte)) (by decide)
  have F_coder_b1 : Fld Z h1 b1 "java/lang/String" "coder" "B" (vL 0) := D1 (Or.inr (tw hw 28 rfl)) (ty := .byte) (by decide)
  obtain ⟨_, T4, Lc4, X4, hQ4, st4⟩ := own_ic X1 hx hZ (y := Y_42) rfl hown hml (tw hw 344 rfl) (tw hw 345 rfl) (rs_iy0 hw O2 ST b1 a2 bA kA LB cs A1 F_value_b1 F_coder_b1 g_b1 ⟨(Es.ext E1), (Fv.ext E1), (Fc.ext E1), (Fn.ext E1), (Fy.ext E1), (Eb.ext E1), hu, hL, tl, ⟨(Vs.ext E1), ls⟩⟩ hnn hlt) (tw hw 346 rfl) (tw hw 14 rfl) e1 (W := 1) (Ls := (q_0 a2)) (b := b1) (argsL := [(.ref a2)]) (rest := [(.ref b1)]) (lenOf pd30 rfl) (d73 hby 3 rfl)
  obtain ⟨h4, e4⟩ : ∃ z, T4.heap = z := ⟨_, rfl⟩
  rw [e4] at hQ4
  obtain ⟨rfl, Nq4, K4, bb, kb, szb, HX⟩ := hQ4
  have N4 := Fr.app N0 Nq4
  have O5 := O2.keep K4 (allS g_b1 all0)
  have kp6 := kp3.trans K4 (allS (Or.inr sz_b1) all0)
  have szb' := Nat.le_trans kp3.1 szb
  refine own_lvA X4 hx hlk hret rfl (d73 hby 4 rfl) (by decide) (by decide) (w := (.ref b1)) rfl (Ls := (q_0 a2)) (rest := []) (fun _ k => castTop (ef_ru_len m a2) ?_) ?_
  · refine st1 _ <| XS.dup X1.here hx rfl (d73 hby 1 rfl) rfl rfl <| za X1 hx (d73 hby 2 rfl) rfl rfl <| st4 _ ?_
    exact k
  · rw [e4]
    exact ⟨b1, bb, kb, rfl, N4, kp6, sz_b1, szb', HX⟩
theorem rs_ix1 (a1 a2 bA : Addr) (kA : ClassId) (LB : Nat) (cs : List UInt16) (E_a : Exa Z h0 a1 "java/lang/String") (F_v : Fld Z h0 a1 "java/lang/String" "value" "[B" .null) (F_c : Fld Z h0 a1 "java/lang/String" "coder" "B" (vL 0)) (g_a1 : n0 ≤ a1) (HB : Sb1 Z h0 a2 bA kA LB cs.length cs) (hnn : cs.length ≤ 24) (hlt : 2 * cs.length < LB) (hm : ¬ ∀ u ∈ cs, u < 256) :
    Mt (l := l) hw (ws := ws) O0 ST Y_41 jdk_42_method_150_code 5 none R_34 #[(.ref a1), (.ref a2), .null] (Qst Z a1 cs h0 n0) := by
  refine own_met (plainFor_of_name pn2) fun p e s m w_ meth c s₁ hx hby hml hZ hh hown hnm hret hlk X0 e0 => ?_
  have N0 := Fr.nil n0
  obtain ⟨S_cs, hG, S_fm, hF, S_ad, S_hi, S_lo⟩ := id ST
  obtain ⟨Es, Fv, Fc, Fn, Fy, Eb, hL, tl, Bs⟩ := id HB
  have Vs := Bs.1
  have ls := Bs.2
  have hNs : (Int32.ofNat LB).toNatClampNeg = (enc1 cs ++ tl).length := by rw [ls]; exact own_n (by omega)
  have lq : 2 * cs.length + tl.length = LB := by rw [← ls]; simp only [List.length_append, List.length_map, enc1_len]
  have lt_a2 := Es.lt
  have lt_bA := Vs.lt
  have n_2b : a2 ≠ bA := Exa.neArv Es Vs (tw hw 122 rfl)
  have lt_a1 := E_a.lt
  have n_12 : a1 ≠ a2 := Exa.ne E_a Es (by decide)
  have n_1b : a1 ≠ bA := Exa.neArv E_a Vs (tw hw 13 rfl)
  obtain ⟨T1, X1, e1, st1⟩ := initO X0 hx hZ hown (tw hw 22 rfl) (tw hw 23 rfl) (tw hw 24 rfl) e0 (g := (mkF m 1 (q_39 a1 a2) [(.ref a1)])) rfl (by rw [hml]; rfl) rfl (d75 hby 1 rfl) (by decide) (W := 0) (by show 2 * 0 + _ ≤ _; exact Nat.le_of_eq rfl) (by decide)
  obtain ⟨_, T2, Lc2, X2, hQ2, st2⟩ := own_vc X1 hx hZ (y := Y_21) hown hml (tw hw 350 rfl) (tw hw 351 rfl) (tw hw 353 rfl) (tw hw 352 rfl) (rb_gv1 hw O0 ST a2 bA kA LB cs.length cs ⟨Es, Fv, Fc, Fn, Fy, Eb, hL, tl, ⟨Vs, ls⟩⟩ hnn) (tw hw 354 rfl) (tw hw 225 rfl) e1 Es (W := 0) (Ls := (q_39 a1 a2)) (argsL := []) (rest := []) (lenOf pd28 rfl) (d75 hby 3 rfl)
  obtain ⟨rfl, Nq2, e2⟩ := hQ2
  have N2 := Fr.app N0 Nq2
  obtain ⟨cq3, kq3, qa3, qb3, qc3⟩ := isOf hZ e2 Es
  obtain ⟨_, _, ⟨T3, L3, k3, n3⟩, -, X3, ⟨Lc3, hQ3, l3, y3, z3⟩, st3⟩ := X2.virtualBack hx (y := Y_22) (z := Y_39) hown (mvT hZ (tw hw 355 rfl)) (mvT hZ (tw hw 356 rfl)) (own_nf (args := #[]) (z := Y_3) (mvT hZ (tw hw 287 rfl))) (mvT hZ (tw hw 358 rfl)) (mvT hZ (tw hw 359 rfl)) (by decide) (backOf (W := 0) (rb_len1 hw O0 ST a2 bA kA LB cs.length cs ⟨Es, Fv, Fc, Fn, Fy, Eb, hL, tl, ⟨Vs, ls⟩⟩ hnn) hZ (tw hw 360 rfl) (tw hw 123 rfl) (by decide) (by decide)) qa3 qc3 (g := (mkF m 10 (q_75 a1 a2 bA) [(.ref a2)])) rfl (by rw [hml]; rfl) (Steps.refl _) (argsL := []) (rest := []) (lenOf pd19 rfl) rfl (by show 2 * 0 + _ ≤ _; exact Nat.le_of_eq rfl) (d75 hby 6 rfl) (fun _ _ => ⟨rfl, e2, (by decide : 0 + 0 ≤ _), (by decide : 0 + 0 ≤ _)⟩)
  dsimp only [Pt.U, Pt.locs, Pt.cells, Pt.slots] at X3 l3 y3 z3 st3 hQ3
  subst l3 y3 z3
  obtain ⟨rfl, Nq3, e3⟩ := hQ3
  have N3 := Fr.app N2 Nq3
  obtain ⟨_, T4, Lc4, X4, hQ4, st4⟩ := own_vc X3 hx hZ (y := Y_3) hown hml (tw hw 363 rfl) (tw hw 285 rfl) (tw hw 287 rfl) (tw hw 286 rfl) (rb_il1 hw O0 ST a2 bA kA LB cs.length cs ⟨Es, Fv, Fc, Fn, Fy, Eb, hL, tl, ⟨Vs, ls⟩⟩ hnn) (tw hw 288 rfl) (tw hw 225 rfl) e3 Es (W := 0) (Ls := (q_9 a1 a2 bA cs)) (argsL := []) (rest := []) (lenOf pd6 rfl) (d75 hby 9 rfl)
  obtain ⟨rfl, Nq4, e4⟩ := hQ4
  have N4 := Fr.app N3 Nq4
  have pf5 : ∀ target, Go p e w_ T4 m 19 (q_9 a1 a2 bA cs) [(vL 0)] target → Go p e w_ s₁ m 0 (q_39 a1 a2) [] target := by
    intro target k
    refine za X0 hx (d75 hby 0 rfl) rfl rfl <| st1 _ <| za X1 hx (d75 hby 2 rfl) rfl rfl <| st2 _ <| XS.astoreN X2.here hx rfl (d75 hby 4 rfl) rfl rfl (l' := (q_75 a1 a2 bA)) rfl <| za X2 hx (d75 hby 5 rfl) rfl rfl <| st3.trans <| zt X3 hx (d75 hby 7 rfl) (Ls' := (q_9 a1 a2 bA cs)) rfl <| za X3 hx (d75 hby 8 rfl) rfl rfl <| st4 _ ?_
    exact k
  obtain ⟨T6, X6, e6, st6⟩ := getS2 X4 hx hZ hown (host := "") (Or.inl (tw hw 51 rfl)) Via.refl e4 (S_cs.ext O0.2) (g := (mkF m 41 (q_9 a1 a2 bA cs) [])) rfl (d75 hby 22 rfl)
  obtain ⟨T7, X7, e7, st7⟩ := getF X6 hx hZ hown (host := "") (Or.inl (tw hw 364 rfl)) Via.refl e6 Fy (g := (mkF m 48 (q_9 a1 a2 bA cs) [(.ref a2)])) rfl rfl (d75 hby 25 rfl)
  have pf8 : ∀ target, Go p e w_ T7 m 51 (q_9 a1 a2 bA cs) [(vL 0)] target → Go p e w_ T4 m 19 (q_9 a1 a2 bA cs) [(vL 0)] target := by
    intro target k
    refine zf X4 hx 19 41 (d75 hby 10 rfl) ((if0 _ _).trans (teq (by decide)).1) <| st6 _ <| zg X6 hx (d75 hby 23 rfl) ((if0 _ _).trans (feq hG).1) <| za X6 hx (d75 hby 24 rfl) rfl rfl <| st7 _ ?_
    exact k
  obtain ⟨T9, h9, X9, e9, W9, st9⟩ := putFN X7 hx hZ hown (tw hw 32 rfl) Via.refl e7 F_c E_a (Or.inr ⟨(tw hw 28 rfl), rfl, hnm⟩) (tw hw 13 rfl) (ty := .byte) (v' := (vL 1)) (by decide) rfl rfl (g := (mkF m 81 (q_9 a1 a2 bA cs) [(vL 1), (.ref a1)])) rfl rfl (d75 hby 29 rfl)
  have Fw9 := F_c.same W9
  have O10 := O0.wr W9 g_a1
  have kp11 : Keep h0 h9 [a1] := (Keep.refl h0 [a1]).wr W9 (Or.inl (List.mem_of_getElem? (i := 0) rfl))
  have N9 := Fr.snoc X9 N4 g_a1
  obtain ⟨_, T12, Lc12, X12, hQ12, st12⟩ := own_sc X9 hx hZ (y := Y_28) hown hml (tw hw 366 rfl) (tw hw 196 rfl) (ra_crA hw O10 ST bA kA LB (enc1 cs ++ tl) (2 * cs.length) ⟨(Vs.other W9 (Ne.symm n_1b)), ls⟩ (by omega) (by omega)) (tw hw 198 rfl) (tw hw 197 rfl) e9 (W := 1) (Ls := (q_9 a1 a2 bA cs)) (argsL := [(.ref bA), (vL 0), (vN (2 * cs.length))]) (rest := [(.ref a1)]) (lenOf pd27 rfl) (d75 hby 36 rfl)
  obtain ⟨h12, e12⟩ : ∃ z, T12.heap = z := ⟨_, rfl⟩
  rw [e12] at hQ12
  obtain ⟨t12, kt12, rfl, Nq12, K12, szt12, Bt12, Et12⟩ := hQ12
  have N12 := Fr.app N9 Nq12
  have O13 := O10.keep K12 all0
  have kp14 := kp11.trans K12 all0
  have sz_t12 := Nat.le_trans kp11.1 szt12
  have g_t12 : n0 ≤ t12 := Nat.le_trans (Nat.le_trans (Nat.le_of_eq O0.1.symm) O0.2.1) sz_t12
  have lt_a1_t12 : a1 < t12 := Nat.lt_of_lt_of_le lt_a1 sz_t12
  have lt_a2_t12 : a2 < t12 := Nat.lt_of_lt_of_le lt_a2 sz_t12
  have lt_bA_t12 : bA < t12 := Nat.lt_of_lt_of_le lt_bA sz_t12
  have Bw : Bar Z h12 t12 kt12 (2 * cs.length) (enc1 cs) := by have q := Bt12; rw [show (enc1 cs ++ tl).take (2 * cs.length) = (enc1 cs) from own_tkl (by rw [enc1_len])] at q; exact q
  obtain ⟨T15, h15, X15, e15, W15, st15⟩ := putF X12 hx hZ hown (host := "") (Or.inl (tw hw 31 rfl)) Via.refl e12 ((F_v.other W9 (Or.inr (slot_ne (Or.inr (tw hw 27 rfl)) (Or.inr (tw hw 28 rfl)) (by decide) (t := (.array .byte)) (t' := .byte) (by decide) (by decide)))).keep K12 nin0) ((E_a.wr W9).keep K12) (Or.inr ⟨(tw hw 27 rfl), rfl, hnm⟩) (tw hw 13 rfl) (ty := (.array .byte)) (by decide) rfl rfl (g := (mkF m 94 (q_9 a1 a2 bA cs) [(.ref t12), (.ref a1)])) rfl rfl (d75 hby 37 rfl)
  have Fw15 := ((F_v.other W9 (Or.inr (slot_ne (Or.inr (tw hw 27 rfl)) (Or.inr (tw hw 28 rfl)) (by decide) (t := (.array .byte)) (t' := .byte) (by decide) (by decide)))).keep K12 nin0).same W15
  have O16 := O13.wr W15 g_a1
  have kp17 := kp14.wr W15 (Or.inl (List.mem_of_getElem? (i := 0) rfl))
  have N15 := Fr.snoc X15 N12 g_a1
  refine own_lvV X15 hx hlk hret (d75 hby 21 rfl) (by decide) (by decide) (Ls := (q_9 a1 a2 bA cs)) (fun _ k => castTop (ef_rs_ix0 m a1 a2) ?_) ?_
  · refine pf5 _ <| pf8 _ <| zf X7 hx 51 79 (d75 hby 26 rfl) ((if0 _ _).trans (teq (by decide)).1) <| za X7 hx (d75 hby 27 rfl) rfl rfl <| zc X7 hx (d75 hby 28 rfl) <| st9 _ <| za X9 hx (d75 hby 30 rfl) rfl rfl <| za X9 hx (d75 hby 31 rfl) rfl rfl <| zc X9 hx (d75 hby 32 rfl) <| zm X9 hx (d75 hby 33 rfl) rfl <| zc X9 hx (d75 hby 34 rfl) <| XS.ishl X9.here hx rfl (d75 hby 35 rfl) rfl ?_
    show Go p e w_ T9 m 91 (q_9 a1 a2 bA cs) [(.int ((Int32.ofNat cs.length) <<< ((1 : Int32) &&& 31))), (.int (0 : Int32)), (.ref bA), (.ref a1)] _
    rw [show ((Int32.ofNat cs.length) <<< ((1 : Int32) &&& 31)) = (Int32.ofNat (2 * cs.length)) from own_shl1 cs.length]
    refine st12 _ <| st15 _ ?_
    exact k
  · rw [e15]
    exact ⟨rfl, N15, kp17, t12, _, sz_t12, Or.inr ⟨⟨(((E_a.wr W9).keep K12).wr W15), ((Fw9.keep K12 nin0).other W15 (Or.inr (slot_ne (Or.inr (tw hw 28 rfl)) (Or.inr (tw hw 27 rfl)) (by decide) (t := .byte) (t' := (.array .byte)) (by decide) (by decide)))), Fw15, ⟨(Bw.1.other W15 (Ne.symm (Nat.ne_of_lt lt_a1_t12))), Bw.2⟩⟩, hm⟩⟩
theorem rs_iy1 (a1 a2 bA : Addr) (kA : ClassId) (LB : Nat) (cs : List UInt16) (E_a : Exa Z h0 a1 "java/lang/String") (F_v : Fld Z h0 a1 "java/lang/String" "value" "[B" .null) (F_c : Fld Z h0 a1 "java/lang/String" "coder" "B" (vL 0)) (g_a1 : n0 ≤ a1) (HB : Sb1 Z h0 a2 bA kA LB cs.length cs) (hnn : cs.length ≤ 24) (hlt : 2 * cs.length < LB) (hm : ¬ ∀ u ∈ cs, u < 256) :
    Mt (l := l) hw (ws := ws) O0 ST Y_42 jdk_42_method_53_code 2 none R_35 #[(.ref a1), (.ref a2)] (Qst Z a1 cs h0 n0) := by
  refine own_met (plainFor_of_name pn2) fun p e s m w_ meth c s₁ hx hby hml hZ hh hown hnm hret hlk X0 e0 => ?_
  have N0 := Fr.nil n0
  obtain ⟨Es, Fv, Fc, Fn, Fy, Eb, hL, tl, Bs⟩ := id HB
  have Vs := Bs.1
  have ls := Bs.2
  have hNs : (Int32.ofNat LB).toNatClampNeg = (enc1 cs ++ tl).length := by rw [ls]; exact own_n (by omega)
  have lq : 2 * cs.length + tl.length = LB := by rw [← ls]; simp only [List.length_append, List.length_map, enc1_len]
  have lt_a2 := Es.lt
  have lt_bA := Vs.lt
  have n_2b : a2 ≠ bA := Exa.neArv Es Vs (tw hw 122 rfl)
  have lt_a1 := E_a.lt
  have n_12 : a1 ≠ a2 := Exa.ne E_a Es (by decide)
  have n_1b : a1 ≠ bA := Exa.neArv E_a Vs (tw hw 13 rfl)
  obtain ⟨_, T1, Lc1, X1, hQ1, st1⟩ := own_ic X0 hx hZ (y := Y_41) rfl hown hml (tw hw 347 rfl) (tw hw 348 rfl) (rs_ix1 hw O0 ST a1 a2 bA kA LB cs E_a F_v F_c g_a1 HB hnn hlt hm) (tw hw 349 rfl) (tw hw 14 rfl) e0 (W := 0) (Ls := (q_1 a1 a2)) (b := a1) (argsL := [(.ref a2), .null]) (rest := []) (lenOf pd29 rfl) (d74 hby 3 rfl)
  obtain ⟨h1, e1⟩ : ∃ z, T1.heap = z := ⟨_, rfl⟩
  rw [e1] at hQ1
  obtain ⟨rfl, Nq1, K1, R1⟩ := hQ1
  have N1 := Fr.app N0 Nq1
  have O2 := O0.keep K1 (allS g_a1 all0)
  have kp3 : Keep h0 h1 [a1] := (Keep.refl h0 [a1]).trans K1 (allS (Or.inl (List.mem_of_getElem? (i := 0) rfl)) all0)
  have RR := R1
  refine own_lvV X1 hx hlk hret (d74 hby 4 rfl) (by decide) (by decide) (Ls := (q_1 a1 a2)) (fun _ k => castTop (ef_rs_iA m a1 a2) ?_) ?_
  · refine za X0 hx (d74 hby 0 rfl) rfl rfl <| za X0 hx (d74 hby 1 rfl) rfl rfl <| XS.aconstNull X0.here hx rfl (d74 hby 2 rfl) <| st1 _ ?_
    exact k
  · rw [e1]
    exact ⟨rfl, N1, kp3, RR⟩
theorem rb_ts1 (a2 bA : Addr) (kA : ClassId) (LB : Nat) (cs : List UInt16) (HB : Sb1 Z h0 a2 bA kA LB cs.length cs) (hnn : cs.length ≤ 24) (hlt : 2 * cs.length < LB) (hm : ¬ ∀ u ∈ cs, u < 256) :
    Mt (l := l) hw (ws := ws) O0 ST Y_29 jdk_67_method_42_code 1 (some (.object "java/lang/String")) R_25 #[(.ref a2)] (Qs Z cs h0 n0) := by
  refine own_met (plainFor_of_name pn7) fun p e s m w_ meth c s₁ hx hby hml hZ hh hown hnm hret hlk X0 e0 => ?_
  have N0 := Fr.nil n0
  obtain ⟨Es, Fv, Fc, Fn, Fy, Eb, hL, tl, Bs⟩ := id HB
  have Vs := Bs.1
  have ls := Bs.2
  have hNs : (Int32.ofNat LB).toNatClampNeg = (enc1 cs ++ tl).length := by rw [ls]; exact own_n (by omega)
  have lq : 2 * cs.length + tl.length = LB := by rw [← ls]; simp only [List.length_append, List.length_map, enc1_len]
  have lt_a2 := Es.lt
  have lt_bA := Vs.lt
  have n_2b : a2 ≠ bA := Exa.neArv Es Vs (tw hw 122 rfl)
  obtain ⟨T1, h1, X1, e1, E1, A1, D1, U1, st1⟩ := newO X0 hx hZ hown (tw hw 343 rfl) (tw hw 13 rfl) (tw hw 14 rfl) e0 (g := (mkF m 0 (q_0 a2) [])) rfl (d73 hby 0 rfl) (by decide) (by decide)
  obtain ⟨b1, g1⟩ : ∃ z, z = h0.size := ⟨_, rfl⟩
  rw [← g1] at A1 D1 U1 st1
  have g_b1 : n0 ≤ b1 := by rw [g1]; exact Nat.le_trans (Nat.le_of_eq O0.1.symm) O0.2.1
  have sz_b1 : h0.size ≤ b1 := by rw [g1]; exact (Keep.refl h0 []).1
  have lt_a2_b1 : a2 < b1 := Nat.lt_of_lt_of_le lt_a2 sz_b1
  have lt_bA_b1 : bA < b1 := Nat.lt_of_lt_of_le lt_bA sz_b1
  have O2 := O0.ext E1
  have kp3 : Keep h0 h1 [] := (Keep.refl h0 []).ext E1
  have F_value_b1 : Fld Z h1 b1 "java/lang/String" "value" "[B" .null := D1 (Or.inr (tw hw 27 rfl)) (ty := (.array .byte)) (by decide)
  have F_coder_b1 : Fld Z h1 b1 "java/lang/String" "coder" "B" (vL 0) := D1 (Or.inr (tw hw 28 rfl)) (ty := .byte) (by decide)
  obtain ⟨_, T4, Lc4, X4, hQ4, st4⟩ := own_ic X1 hx hZ (y := Y_42) rfl hown hml (tw hw 344 rfl) (tw hw 345 rfl) (rs_iy1 hw O2 ST b1 a2 bA kA LB cs A1 F_value_b1 F_coder_b1 g_b1 ⟨(Es.ext E1), (Fv.ext E1), (Fc.ext E1), (Fn.ext E1), (Fy.ext E1), (Eb.ext E1), hL, tl, ⟨(Vs.ext E1), ls⟩⟩ hnn hlt hm) (tw hw 346 rfl) (tw hw 14 rfl) e1 (W := 1) (Ls := (q_0 a2)) (b := b1) (argsL := [(.ref a2)]) (rest := [(.ref b1)]) (lenOf pd30 rfl) (d73 hby 3 rfl)
  obtain ⟨h4, e4⟩ : ∃ z, T4.heap = z := ⟨_, rfl⟩
  rw [e4] at hQ4
  obtain ⟨rfl, Nq4, K4, bb, kb, szb, HX⟩ := hQ4
  have N4 := Fr.app N0 Nq4
  have O5 := O2.keep K4 (allS g_b1 all0)
  have kp6 := kp3.trans K4 (allS (Or.inr sz_b1) all0)
  have szb' := Nat.le_trans kp3.1 szb
  refine own_lvA X4 hx hlk hret rfl (d73 hby 4 rfl) (by decide) (by decide) (w := (.ref b1)) rfl (Ls := (q_0 a2)) (rest := []) (fun _ k => castTop (ef_ru_len m a2) ?_) ?_
  · refine st1 _ <| XS.dup X1.here hx rfl (d73 hby 1 rfl) rfl rfl <| za X1 hx (d73 hby 2 rfl) rfl rfl <| st4 _ ?_
    exact k
  · rw [e4]
    exact ⟨b1, bb, kb, rfl, N4, kp6, sz_b1, szb', HX⟩
theorem pn8 : plainName "java/lang/Character" = true := by first | (simp [plainName, overriddenIn]; done) | decide +kernel
theorem d26 : Dl cb48 [(0, .iload_n 0, 1), (1, .ldc 75, 2), (3, .if_icmp .lt 13, 3), (16, .iconst 0, 1), (17, .ireturn, 1), (6, .iload_n 0, 1), (7, .ldc 76, 2), (9, .if_icmp .ge 7, 3), (12, .iconst 1, 1), (13, .goto 4, 3)] := dlk (by decide +kernel)
theorem rc_hi (u : UInt16) :
    Mt (l := l) hw (ws := ws) O0 ST Y_58 jdk_89_method_14_code 1 (some .boolean) R_0 #[(.int (cv u))] (Qpure (some (.int (bI (hiS u)))) h0 n0) := by
  refine own_met (plainFor_of_name pn8) fun p e s m w_ meth c s₁ hx hby hml hZ hh hown hnm hret hlk X0 e0 => ?_
  have N0 := Fr.nil n0
  by_cases hc3 : (cv u) < (55296 : Int32)
  · refine own_lvN X0 hx hlk hret (by simp) (d26 hby 4 rfl) (by decide) (by decide) (z := (0 : Int32)) rfl (Ls := (q_4 u)) (rest := []) (fun _ k => castTop (ef_ru_nl m (cv u)) ?_) ?_
    · refine zl X0 hx (d26 hby 0 rfl) rfl ?_
      show Go p e w_ s₁ m 1 (q_4 u) [(.int (cv u))] _
      refine X0.ldcInt hx hown (mvT hZ (tw hw 119 rfl)) (g := (mkF m 1 (q_4 u) [(.int (cv u))])) rfl (d26 hby 1 rfl) _ <| zy X0 hx 3 16 (d26 hby 2 rfl) (tlt hc3).1 <| zc X0 hx (d26 hby 3 rfl) ?_
      exact k
    · rw [e0]
      exact ⟨by rw [own_hiF (Or.inl hc3)]; rfl, N0, rfl⟩
  · have pf1 : ∀ target, Go p e w_ s₁ m 9 (q_4 u) [(vL 56320), (.int (cv u))] target → Go p e w_ s₁ m 0 (q_4 u) [] target := by
      intro target k
      refine zl X0 hx (d26 hby 0 rfl) rfl ?_
      show Go p e w_ s₁ m 1 (q_4 u) [(.int (cv u))] _
      refine X0.ldcInt hx hown (mvT hZ (tw hw 119 rfl)) (g := (mkF m 1 (q_4 u) [(.int (cv u))])) rfl (d26 hby 1 rfl) _ <| zn X0 hx (d26 hby 2 rfl) (flt hc3).1 <| zl X0 hx (d26 hby 5 rfl) rfl ?_
      show Go p e w_ s₁ m 7 (q_4 u) [(.int (cv u))] _
      refine X0.ldcInt hx hown (mvT hZ (tw hw 120 rfl)) (g := (mkF m 7 (q_4 u) [(.int (cv u))])) rfl (d26 hby 6 rfl) _ ?_
      exact k
    by_cases hc9 : (cv u) < (56320 : Int32)
    · refine own_lvN X0 hx hlk hret (by simp) (d26 hby 4 rfl) (by decide) (by decide) (z := (1 : Int32)) rfl (Ls := (q_4 u)) (rest := []) (fun _ k => castTop (ef_ru_nl m (cv u)) ?_) ?_
      · refine pf1 _ <| zn X0 hx (d26 hby 7 rfl) (tlt hc9).2.1 <| zc X0 hx (d26 hby 8 rfl) <| zo X0 hx 13 17 (d26 hby 9 rfl) ?_
        exact k
      · rw [e0]
        exact ⟨by rw [own_hiT hc3 hc9]; rfl, N0, rfl⟩
    · refine own_lvN X0 hx hlk hret (by simp) (d26 hby 4 rfl) (by decide) (by decide) (z := (0 : Int32)) rfl (Ls := (q_4 u)) (rest := []) (fun _ k => castTop (ef_ru_nl m (cv u)) ?_) ?_
      · refine pf1 _ <| zy X0 hx 9 16 (d26 hby 7 rfl) (flt hc9).2.1 <| zc X0 hx (d26 hby 3 rfl) ?_
        exact k
      · rw [e0]
        exact ⟨by rw [own_hiF (Or.inr hc9)]; rfl, N0, rfl⟩
theorem d83 : Dl cb49 [(0, .iload_n 0, 1), (1, .ldc 76, 2), (3, .if_icmp .lt 13, 3), (16, .iconst 0, 1), (17, .ireturn, 1), (6, .iload_n 0, 1), (7, .ldc 77, 2), (9, .if_icmp .ge 7, 3), (12, .iconst 1, 1), (13, .goto 4, 3)] := dlk (by decide +kernel)
theorem rc_lo (u : UInt16) :
    Mt (l := l) hw (ws := ws) O0 ST Y_59 jdk_89_method_15_code 1 (some .boolean) R_0 #[(.int (cv u))] (Qpure (some (.int (bI (loS u)))) h0 n0) := by
  refine own_met (plainFor_of_name pn8) fun p e s m w_ meth c s₁ hx hby hml hZ hh hown hnm hret hlk X0 e0 => ?_
  have N0 := Fr.nil n0
  by_cases hc3 : (cv u) < (56320 : Int32)
  · refine own_lvN X0 hx hlk hret (by simp) (d83 hby 4 rfl) (by decide) (by decide) (z := (0 : Int32)) rfl (Ls := (q_4 u)) (rest := []) (fun _ k => castTop (ef_ru_nl m (cv u)) ?_) ?_
    · refine zl X0 hx (d83 hby 0 rfl) rfl ?_
      show Go p e w_ s₁ m 1 (q_4 u) [(.int (cv u))] _
      refine X0.ldcInt hx hown (mvT hZ (tw hw 120 rfl)) (g := (mkF m 1 (q_4 u) [(.int (cv u))])) rfl (d83 hby 1 rfl) _ <| zy X0 hx 3 16 (d83 hby 2 rfl) (tlt hc3).1 <| zc X0 hx (d83 hby 3 rfl) ?_
      exact k
    · rw [e0]
      exact ⟨by rw [own_loF (Or.inl hc3)]; rfl, N0, rfl⟩
  · have pf1 : ∀ target, Go p e w_ s₁ m 9 (q_4 u) [(vL 57344), (.int (cv u))] target → Go p e w_ s₁ m 0 (q_4 u) [] target := by
      intro target k
      refine zl X0 hx (d83 hby 0 rfl) rfl ?_
      show Go p e w_ s₁ m 1 (q_4 u) [(.int (cv u))] _
      refine X0.ldcInt hx hown (mvT hZ (tw hw 120 rfl)) (g := (mkF m 1 (q_4 u) [(.int (cv u))])) rfl (d83 hby 1 rfl) _ <| zn X0 hx (d83 hby 2 rfl) (flt hc3).1 <| zl X0 hx (d83 hby 5 rfl) rfl ?_
      show Go p e w_ s₁ m 7 (q_4 u) [(.int (cv u))] _
      refine X0.ldcInt hx hown (mvT hZ (tw hw 384 rfl)) (g := (mkF m 7 (q_4 u) [(.int (cv u))])) rfl (d83 hby 6 rfl) _ ?_
      exact k
    by_cases hc9 : (cv u) < (57344 : Int32)
    · refine own_lvN X0 hx hlk hret (by simp) (d83 hby 4 rfl) (by decide) (by decide) (z := (1 : Int32)) rfl (Ls := (q_4 u)) (rest := []) (fun _ k => castTop (ef_ru_nl m (cv u)) ?_) ?_
      · refine pf1 _ <| zn X0 hx (d83 hby 7 rfl) (tlt hc9).2.1 <| zc X0 hx (d83 hby 8 rfl) <| zo X0 hx 13 17 (d83 hby 9 rfl) ?_
        exact k
      · rw [e0]
        exact ⟨by rw [own_loT hc3 hc9]; rfl, N0, rfl⟩
    · refine own_lvN X0 hx hlk hret (by simp) (d83 hby 4 rfl) (by decide) (by decide) (z := (0 : Int32)) rfl (Ls := (q_4 u)) (rest := []) (fun _ k => castTop (ef_ru_nl m (cv u)) ?_) ?_
      · refine pf1 _ <| zy X0 hx 9 16 (d83 hby 7 rfl) (flt hc9).2.1 <| zc X0 hx (d83 hby 3 rfl) ?_
        exact k
      · rw [e0]
        exact ⟨by rw [own_loF (Or.inr hc9)]; rfl, N0, rfl⟩
theorem pn9 : plainName "com/example/downtally/downtally/cli/VisibleTextShortenedPinLaw" = true := by first | (simp [plainName, overriddenIn]; done) | decide +kernel
theorem d23 : Dl cb50 [(0, .iload_n 0, 1), (1, .ldc 41, 2), (3, .if_icmp .lt 13, 3), (16, .iconst 0, 1), (17, .ireturn, 1), (6, .iload_n 0, 1), (7, .ldc 44, 2), (9, .if_icmp .gt 7, 3), (12, .iconst 1, 1), (13, .goto 4, 3)] := dlk (by decide +kernel)
theorem rq_hi (u : UInt16) :
    Mt (l := l) hw (ws := ws) O0 ST Y_60 method_4_code 1 (some .boolean) R_0 #[(.int (cv u))] (Qpure (some (.int (bI (hiS u)))) h0 n0) := by
  refine own_met (plainFor_of_name pn9) fun p e s m w_ meth c s₁ hx hby hml hZ hh hown hnm hret hlk X0 e0 => ?_
  have N0 := Fr.nil n0
  by_cases hc3 : (cv u) < (55296 : Int32)
  · refine own_lvN X0 hx hlk hret (by simp) (d23 hby 4 rfl) (by decide) (by decide) (z := (0 : Int32)) rfl (Ls := (q_4 u)) (rest := []) (fun _ k => castTop (ef_ru_nl m (cv u)) ?_) ?_
    · refine zl X0 hx (d23 hby 0 rfl) rfl ?_
      show Go p e w_ s₁ m 1 (q_4 u) [(.int (cv u))] _
      refine X0.ldcInt hx hown (mvT hZ (tw hw 7 rfl)) (g := (mkF m 1 (q_4 u) [(.int (cv u))])) rfl (d23 hby 1 rfl) _ <| zy X0 hx 3 16 (d23 hby 2 rfl) (tlt hc3).1 <| zc X0 hx (d23 hby 3 rfl) ?_
      exact k
    · rw [e0]
      exact ⟨by rw [own_hiF (Or.inl hc3)]; rfl, N0, rfl⟩
  · have pf1 : ∀ target, Go p e w_ s₁ m 9 (q_4 u) [(vL 56319), (.int (cv u))] target → Go p e w_ s₁ m 0 (q_4 u) [] target := by
      intro target k
      refine zl X0 hx (d23 hby 0 rfl) rfl ?_
      show Go p e w_ s₁ m 1 (q_4 u) [(.int (cv u))] _
      refine X0.ldcInt hx hown (mvT hZ (tw hw 7 rfl)) (g := (mkF m 1 (q_4 u) [(.int (cv u))])) rfl (d23 hby 1 rfl) _ <| zn X0 hx (d23 hby 2 rfl) (flt hc3).1 <| zl X0 hx (d23 hby 5 rfl) rfl ?_
      show Go p e w_ s₁ m 7 (q_4 u) [(.int (cv u))] _
      refine X0.ldcInt hx hown (mvT hZ (tw hw 108 rfl)) (g := (mkF m 7 (q_4 u) [(.int (cv u))])) rfl (d23 hby 6 rfl) _ ?_
      exact k
    by_cases hc9 : (56319 : Int32) < (cv u)
    · refine own_lvN X0 hx hlk hret (by simp) (d23 hby 4 rfl) (by decide) (by decide) (z := (0 : Int32)) rfl (Ls := (q_4 u)) (rest := []) (fun _ k => castTop (ef_ru_nl m (cv u)) ?_) ?_
      · refine pf1 _ <| zy X0 hx 9 16 (d23 hby 7 rfl) (tlt hc9).2.2.1 <| zc X0 hx (d23 hby 3 rfl) ?_
        exact k
      · rw [e0]
        exact ⟨by rw [own_hiF (Or.inr (own_ghi.mp hc9))]; rfl, N0, rfl⟩
    · refine own_lvN X0 hx hlk hret (by simp) (d23 hby 4 rfl) (by decide) (by decide) (z := (1 : Int32)) rfl (Ls := (q_4 u)) (rest := []) (fun _ k => castTop (ef_ru_nl m (cv u)) ?_) ?_
      · refine pf1 _ <| zn X0 hx (d23 hby 7 rfl) (flt hc9).2.2.1 <| zc X0 hx (d23 hby 8 rfl) <| zo X0 hx 13 17 (d23 hby 9 rfl) ?_
        exact k
      · rw [e0]
        exact ⟨by rw [own_hiT hc3 (Classical.not_not.mp (fun z => hc9 (own_ghi.mpr z)))]; rfl, N0, rfl⟩
theorem d82 : Dl cb51 [(0, .iload_n 0, 1), (1, .ldc 42, 2), (3, .if_icmp .lt 13, 3), (16, .iconst 0, 1), (17, .ireturn, 1), (6, .iload_n 0, 1), (7, .ldc 45, 2), (9, .if_icmp .gt 7, 3), (12, .iconst 1, 1), (13, .goto 4, 3)] := dlk (by decide +kernel)
theorem rq_lo (u : UInt16) :
    Mt (l := l) hw (ws := ws) O0 ST Y_61 method_5_code 1 (some .boolean) R_0 #[(.int (cv u))] (Qpure (some (.int (bI (loS u)))) h0 n0) := by
  refine own_met (plainFor_of_name pn9) fun p e s m w_ meth c s₁ hx hby hml hZ hh hown hnm hret hlk X0 e0 => ?_
  have N0 := Fr.nil n0
  by_cases hc3 : (cv u) < (56320 : Int32)
  · refine own_lvN X0 hx hlk hret (by simp) (d82 hby 4 rfl) (by decide) (by decide) (z := (0 : Int32)) rfl (Ls := (q_4 u)) (rest := []) (fun _ k => castTop (ef_ru_nl m (cv u)) ?_) ?_
    · refine zl X0 hx (d82 hby 0 rfl) rfl ?_
      show Go p e w_ s₁ m 1 (q_4 u) [(.int (cv u))] _
      refine X0.ldcInt hx hown (mvT hZ (tw hw 6 rfl)) (g := (mkF m 1 (q_4 u) [(.int (cv u))])) rfl (d82 hby 1 rfl) _ <| zy X0 hx 3 16 (d82 hby 2 rfl) (tlt hc3).1 <| zc X0 hx (d82 hby 3 rfl) ?_
      exact k
    · rw [e0]
      exact ⟨by rw [own_loF (Or.inl hc3)]; rfl, N0, rfl⟩
  · have pf1 : ∀ target, Go p e w_ s₁ m 9 (q_4 u) [(vL 57343), (.int (cv u))] target → Go p e w_ s₁ m 0 (q_4 u) [] target := by
      intro target k
      refine zl X0 hx (d82 hby 0 rfl) rfl ?_
      show Go p e w_ s₁ m 1 (q_4 u) [(.int (cv u))] _
      refine X0.ldcInt hx hown (mvT hZ (tw hw 6 rfl)) (g := (mkF m 1 (q_4 u) [(.int (cv u))])) rfl (d82 hby 1 rfl) _ <| zn X0 hx (d82 hby 2 rfl) (flt hc3).1 <| zl X0 hx (d82 hby 5 rfl) rfl ?_
      show Go p e w_ s₁ m 7 (q_4 u) [(.int (cv u))] _
      refine X0.ldcInt hx hown (mvT hZ (tw hw 383 rfl)) (g := (mkF m 7 (q_4 u) [(.int (cv u))])) rfl (d82 hby 6 rfl) _ ?_
      exact k
    by_cases hc9 : (57343 : Int32) < (cv u)
    · refine own_lvN X0 hx hlk hret (by simp) (d82 hby 4 rfl) (by decide) (by decide) (z := (0 : Int32)) rfl (Ls := (q_4 u)) (rest := []) (fun _ k => castTop (ef_ru_nl m (cv u)) ?_) ?_
      · refine pf1 _ <| zy X0 hx 9 16 (d82 hby 7 rfl) (tlt hc9).2.2.1 <| zc X0 hx (d82 hby 3 rfl) ?_
        exact k
      · rw [e0]
        exact ⟨by rw [own_loF (Or.inr (own_glo.mp hc9))]; rfl, N0, rfl⟩
    · refine own_lvN X0 hx hlk hret (by simp) (d82 hby 4 rfl) (by decide) (by decide) (z := (1 : Int32)) rfl (Ls := (q_4 u)) (rest := []) (fun _ k => castTop (ef_ru_nl m (cv u)) ?_) ?_
      · refine pf1 _ <| zn X0 hx (d82 hby 7 rfl) (flt hc9).2.2.1 <| zc X0 hx (d82 hby 8 rfl) <| zo X0 hx 13 17 (d82 hby 9 rfl) ?_
        exact k
      · rw [e0]
        exact ⟨by rw [own_loT hc3 (Classical.not_not.mp (fun z => hc9 (own_glo.mpr z)))]; rfl, N0, rfl⟩
theorem d6 : Dl cb52 [(0, .iload_n 2, 1), (1, .iconst 1, 1), (2, .iadd, 1), (3, .iload_n 1, 1), (4, .if_icmp .ge 27, 3), (7, .aload_n 0, 1), (8, .iload_n 2, 1), (9, .caload, 1), (10, .invokestatic 46, 3), (13, .ifCond .eq 18, 3), (31, .iconst 0, 1), (32, .ireturn, 1), (16, .aload_n 0, 1), (17, .iload_n 2, 1), (18, .iconst 1, 1), (19, .iadd, 1), (20, .caload, 1), (21, .invokestatic 50, 3), (24, .ifCond .eq 7, 3), (27, .iconst 1, 1), (28, .goto 4, 3)] := dlk (by decide +kernel)
theorem pd31 : parseMethodDescriptor "(C)Z" = some ⟨[.char], some .boolean⟩ := by decide +kernel
theorem rq_pr (a1 : Addr) (kA : ClassId) (us : List UInt16) (nn i1 : Nat) (C1 : Car Z h0 a1 kA us.length us) (hus : us.length = 4) (hn : nn ≤ 4) (hi : i1 ≤ 8) :
    Mt (l := l) hw (ws := ws) O0 ST Y_43 method_6_code 3 (some .int) R_5 #[(.ref a1), (vN nn), (vN i1)] (Qpure (some (vN (prd us nn i1))) h0 n0) := by
  refine own_met (plainFor_of_name pn9) fun p e s m w_ meth c s₁ hx hby hml hZ hh hown hnm hret hlk X0 e0 => ?_
  have N0 := Fr.nil n0
  have V_a1 := C1.1
  have hN_a1 : (Int32.ofNat us.length).toNatClampNeg = (us.map cv).length := by rw [List.length_map]; exact own_n (by omega)
  have pf1 : ∀ target, Go p e w_ s₁ m 4 (q_3 a1 nn i1) [(vN nn), (vN (i1 + 1))] target → Go p e w_ s₁ m 0 (q_3 a1 nn i1) [] target := by
    intro target k
    refine zl X0 hx (d6 hby 0 rfl) rfl <| zc X0 hx (d6 hby 1 rfl) <| XS.iadd X0.here hx rfl (d6 hby 2 rfl) rfl ?_
    show Go p e w_ s₁ m 3 (q_3 a1 nn i1) [(.int ((Int32.ofNat i1) + (1 : Int32)))] _
    rw [show ((Int32.ofNat i1) + (1 : Int32)) = (Int32.ofNat (i1 + 1)) from own_add i1 1]
    refine zl X0 hx (d6 hby 3 rfl) rfl ?_
    exact k
  by_cases hc4 : (Int32.ofNat (i1 + 1)) < (Int32.ofNat nn)
  · have hlt : i1 + 1 < nn := (own_lt (a := i1 + 1) (b := nn) (by omega) (by omega)).mp hc4
    obtain ⟨cl2, Ar2, hin2, hat2⟩ := own_at (j := (Int32.ofNat i1)) (i := i1) V_a1 hN_a1 (own_nn (n := i1) (by omega)) (own_n (n := i1) (by omega)) (by simp only [List.length_set, List.length_replicate, List.length_map, put_len, enc1_len, List.length_append, List.length_take, List.length_drop]; omega)
    rw [show ((us.map cv).getD i1 0) = (cv (us.getD i1 0)) from own_mcd (by omega)] at hat2
    obtain ⟨_, T3, Lc3, X3, hQ3, st3⟩ := own_sc X0 hx hZ (y := Y_60) hown hml (tw hw 105 rfl) (tw hw 106 rfl) (rq_hi hw O0 ST (us.getD i1 0) ) (tw hw 107 rfl) (tw hw 3 rfl) e0 (W := 0) (Ls := (q_3 a1 nn i1)) (argsL := [(.int (cv (us.getD i1 0)))]) (rest := []) (lenOf pd31 rfl) (d6 hby 8 rfl)
    obtain ⟨rfl, Nq3, e3⟩ := hQ3
    have N3 := Fr.app N0 Nq3
    have pf4 : ∀ target, Go p e w_ T3 m 13 (q_3 a1 nn i1) [(.int (bI (hiS (us.getD i1 0))))] target → Go p e w_ s₁ m 4 (q_3 a1 nn i1) [(vN nn), (vN (i1 + 1))] target := by
      intro target k
      refine zn X0 hx (d6 hby 4 rfl) (tlt hc4).2.1 <| za X0 hx (d6 hby 5 rfl) rfl rfl <| zl X0 hx (d6 hby 6 rfl) rfl ?_
      show Go p e w_ s₁ m 9 (q_3 a1 nn i1) [(vN i1), (.ref a1)] _
      refine X0.caload hx (j := (Int32.ofNat i1)) (v := (.int (cv (us.getD i1 0)))) (by rw [e0]; exact Ar2.1) (State.isArrayOf_alike hZ.alike Ar2.2.1) Ar2.2.2 hin2 hat2 (g := (mkF m 9 (q_3 a1 nn i1) [(vN i1), (.ref a1)])) rfl rfl (d6 hby 7 rfl) _ <| st3 _ ?_
      exact k
    by_cases hc13 : (bI (hiS (us.getD i1 0))) = (0 : Int32)
    · refine own_lvI X3 hx hlk hret (d6 hby 11 rfl) (by decide) (by decide) (z := (0 : Int32)) (Ls := (q_3 a1 nn i1)) (rest := []) (fun _ k => castTop (ef_ru_put m a1 (Int32.ofNat nn) (Int32.ofNat i1)) ?_) ?_
      · refine pf1 _ <| pf4 _ <| zf X3 hx 13 31 (d6 hby 9 rfl) ((if0 _ _).trans (teq hc13).1) <| zc X3 hx (d6 hby 10 rfl) ?_
        exact k
      · rw [e3]
        exact ⟨by rw [own_pr0 (Or.inr (Or.inl hc13))]; rfl, N3, rfl⟩
    · obtain ⟨cl5, Ar5, hin5, hat5⟩ := own_at (j := (Int32.ofNat (i1 + 1))) (i := i1 + 1) V_a1 hN_a1 (own_nn (n := i1 + 1) (by omega)) (own_n (n := i1 + 1) (by omega)) (by simp only [List.length_set, List.length_replicate, List.length_map, put_len, enc1_len, List.length_append, List.length_take, List.length_drop]; omega)
      rw [show ((us.map cv).getD (i1 + 1) 0) = (cv (us.getD (i1 + 1) 0)) from own_mcd (by omega)] at hat5
      obtain ⟨_, T6, Lc6, X6, hQ6, st6⟩ := own_sc X3 hx hZ (y := Y_61) hown hml (tw hw 377 rfl) (tw hw 378 rfl) (rq_lo hw O0 ST (us.getD (i1 + 1) 0) ) (tw hw 379 rfl) (tw hw 3 rfl) e3 (W := 0) (Ls := (q_3 a1 nn i1)) (argsL := [(.int (cv (us.getD (i1 + 1) 0)))]) (rest := []) (lenOf pd31 rfl) (d6 hby 17 rfl)
      obtain ⟨rfl, Nq6, e6⟩ := hQ6
      have N6 := Fr.app N3 Nq6
      have pf7 : ∀ target, Go p e w_ T6 m 24 (q_3 a1 nn i1) [(.int (bI (loS (us.getD (i1 + 1) 0))))] target → Go p e w_ T3 m 13 (q_3 a1 nn i1) [(.int (bI (hiS (us.getD i1 0))))] target := by
        intro target k
        refine zg X3 hx (d6 hby 9 rfl) ((if0 _ _).trans (feq hc13).1) <| za X3 hx (d6 hby 12 rfl) rfl rfl <| zl X3 hx (d6 hby 13 rfl) rfl <| zc X3 hx (d6 hby 14 rfl) <| XS.iadd X3.here hx rfl (d6 hby 15 rfl) rfl ?_
        show Go p e w_ T3 m 20 (q_3 a1 nn i1) [(.int ((Int32.ofNat i1) + (1 : Int32))), (.ref a1)] _
        rw [show ((Int32.ofNat i1) + (1 : Int32)) = (Int32.ofNat (i1 + 1)) from own_add i1 1]
        show Go p e w_ T3 m 20 (q_3 a1 nn i1) [(vN (i1 + 1)), (.ref a1)] _
        refine X3.caload hx (j := (Int32.ofNat (i1 + 1))) (v := (.int (cv (us.getD (i1 + 1) 0)))) (by rw [e3]; exact Ar5.1) (State.isArrayOf_alike hZ.alike Ar5.2.1) Ar5.2.2 hin5 hat5 (g := (mkF m 20 (q_3 a1 nn i1) [(vN (i1 + 1)), (.ref a1)])) rfl rfl (d6 hby 16 rfl) _ <| st6 _ ?_
        exact k
      by_cases hc24 : (bI (loS (us.getD (i1 + 1) 0))) = (0 : Int32)
      · refine own_lvI X6 hx hlk hret (d6 hby 11 rfl) (by decide) (by decide) (z := (0 : Int32)) (Ls := (q_3 a1 nn i1)) (rest := []) (fun _ k => castTop (ef_ru_put m a1 (Int32.ofNat nn) (Int32.ofNat i1)) ?_) ?_
        · refine pf1 _ <| pf4 _ <| pf7 _ <| zf X6 hx 24 31 (d6 hby 18 rfl) ((if0 _ _).trans (teq hc24).1) <| zc X6 hx (d6 hby 10 rfl) ?_
          exact k
        · rw [e6]
          exact ⟨by rw [own_pr0 (Or.inr (Or.inr hc24))]; rfl, N6, rfl⟩
      · refine own_lvI X6 hx hlk hret (d6 hby 11 rfl) (by decide) (by decide) (z := (1 : Int32)) (Ls := (q_3 a1 nn i1)) (rest := []) (fun _ k => castTop (ef_ru_put m a1 (Int32.ofNat nn) (Int32.ofNat i1)) ?_) ?_
        · refine pf1 _ <| pf4 _ <| pf7 _ <| zg X6 hx (d6 hby 18 rfl) ((if0 _ _).trans (feq hc24).1) <| zc X6 hx (d6 hby 19 rfl) <| zo X6 hx 28 32 (d6 hby 20 rfl) ?_
          exact k
        · rw [e6]
          exact ⟨by rw [own_pr1 hlt hc13 hc24]; rfl, N6, rfl⟩
  · refine own_lvI X0 hx hlk hret (d6 hby 11 rfl) (by decide) (by decide) (z := (0 : Int32)) (Ls := (q_3 a1 nn i1)) (rest := []) (fun _ k => castTop (ef_ru_put m a1 (Int32.ofNat nn) (Int32.ofNat i1)) ?_) ?_
    · refine pf1 _ <| zy X0 hx 4 31 (d6 hby 4 rfl) (flt hc4).2.1 <| zc X0 hx (d6 hby 10 rfl) ?_
      exact k
    · rw [e0]
      exact ⟨by rw [own_pr0 (Or.inl (fun q => hc4 ((own_lt (a := i1 + 1) (b := nn) (by omega) (by omega)).mpr q)))]; rfl, N0, rfl⟩
theorem d79 : Dl cb53 [(0, .iload_n 2, 1), (1, .iconst 1, 1), (2, .iadd, 1), (3, .iload_n 1, 1), (4, .if_icmp .ge 27, 3), (7, .aload_n 0, 1), (8, .iload_n 2, 1), (9, .caload, 1), (10, .invokestatic 46, 3), (13, .ifCond .eq 18, 3), (31, .iload_n 2, 1), (32, .iconst 1, 1), (33, .iadd, 1), (34, .ireturn, 1), (16, .aload_n 0, 1), (17, .iload_n 2, 1), (18, .iconst 1, 1), (19, .iadd, 1), (20, .caload, 1), (21, .invokestatic 50, 3), (24, .ifCond .eq 7, 3), (27, .iload_n 2, 1), (28, .iconst 2, 1), (29, .iadd, 1), (30, .ireturn, 1)] := dlk (by decide +kernel)
theorem rq_st (a1 : Addr) (kA : ClassId) (us : List UInt16) (nn i1 : Nat) (C1 : Car Z h0 a1 kA us.length us) (hus : us.length = 4) (hn : nn ≤ 4) (hi : i1 ≤ 8) :
    Mt (l := l) hw (ws := ws) O0 ST Y_44 method_7_code 3 (some .int) R_5 #[(.ref a1), (vN nn), (vN i1)] (Qpure (some (vN (i1 + 1 + prd us nn i1))) h0 n0) := by
  refine own_met (plainFor_of_name pn9) fun p e s m w_ meth c s₁ hx hby hml hZ hh hown hnm hret hlk X0 e0 => ?_
  have N0 := Fr.nil n0
  have V_a1 := C1.1
  have hN_a1 : (Int32.ofNat us.length).toNatClampNeg = (us.map cv).length := by rw [List.length_map]; exact own_n (by omega)
  have pf1 : ∀ target, Go p e w_ s₁ m 4 (q_3 a1 nn i1) [(vN nn), (vN (i1 + 1))] target → Go p e w_ s₁ m 0 (q_3 a1 nn i1) [] target := by
    intro target k
    refine zl X0 hx (d79 hby 0 rfl) rfl <| zc X0 hx (d79 hby 1 rfl) <| XS.iadd X0.here hx rfl (d79 hby 2 rfl) rfl ?_
    show Go p e w_ s₁ m 3 (q_3 a1 nn i1) [(.int ((Int32.ofNat i1) + (1 : Int32)))] _
    rw [show ((Int32.ofNat i1) + (1 : Int32)) = (Int32.ofNat (i1 + 1)) from own_add i1 1]
    refine zl X0 hx (d79 hby 3 rfl) rfl ?_
    exact k
  by_cases hc4 : (Int32.ofNat (i1 + 1)) < (Int32.ofNat nn)
  · have hlt : i1 + 1 < nn := (own_lt (a := i1 + 1) (b := nn) (by omega) (by omega)).mp hc4
    obtain ⟨cl2, Ar2, hin2, hat2⟩ := own_at (j := (Int32.ofNat i1)) (i := i1) V_a1 hN_a1 (own_nn (n := i1) (by omega)) (own_n (n := i1) (by omega)) (by simp only [List.length_set, List.length_replicate, List.length_map, put_len, enc1_len, List.length_append, List.length_take, List.length_drop]; omega)
    rw [show ((us.map cv).getD i1 0) = (cv (us.getD i1 0)) from own_mcd (by omega)] at hat2
    obtain ⟨_, T3, Lc3, X3, hQ3, st3⟩ := own_sc X0 hx hZ (y := Y_60) hown hml (tw hw 105 rfl) (tw hw 106 rfl) (rq_hi hw O0 ST (us.getD i1 0) ) (tw hw 107 rfl) (tw hw 3 rfl) e0 (W := 0) (Ls := (q_3 a1 nn i1)) (argsL := [(.int (cv (us.getD i1 0)))]) (rest := []) (lenOf pd31 rfl) (d79 hby 8 rfl)
    obtain ⟨rfl, Nq3, e3⟩ := hQ3
    have N3 := Fr.app N0 Nq3
    have pf4 : ∀ target, Go p e w_ T3 m 13 (q_3 a1 nn i1) [(.int (bI (hiS (us.getD i1 0))))] target → Go p e w_ s₁ m 4 (q_3 a1 nn i1) [(vN nn), (vN (i1 + 1))] target := by
      intro target k
      refine zn X0 hx (d79 hby 4 rfl) (tlt hc4).2.1 <| za X0 hx (d79 hby 5 rfl) rfl rfl <| zl X0 hx (d79 hby 6 rfl) rfl ?_
      show Go p e w_ s₁ m 9 (q_3 a1 nn i1) [(vN i1), (.ref a1)] _
      refine X0.caload hx (j := (Int32.ofNat i1)) (v := (.int (cv (us.getD i1 0)))) (by rw [e0]; exact Ar2.1) (State.isArrayOf_alike hZ.alike Ar2.2.1) Ar2.2.2 hin2 hat2 (g := (mkF m 9 (q_3 a1 nn i1) [(vN i1), (.ref a1)])) rfl rfl (d79 hby 7 rfl) _ <| st3 _ ?_
      exact k
    by_cases hc13 : (bI (hiS (us.getD i1 0))) = (0 : Int32)
    · refine own_lvI X3 hx hlk hret (d79 hby 13 rfl) (by decide) (by decide) (z := (Int32.ofNat (i1 + 1))) (Ls := (q_3 a1 nn i1)) (rest := []) (fun _ k => castTop (ef_ru_put m a1 (Int32.ofNat nn) (Int32.ofNat i1)) ?_) ?_
      · refine pf1 _ <| pf4 _ <| zf X3 hx 13 31 (d79 hby 9 rfl) ((if0 _ _).trans (teq hc13).1) <| zl X3 hx (d79 hby 10 rfl) rfl <| zc X3 hx (d79 hby 11 rfl) <| XS.iadd X3.here hx rfl (d79 hby 12 rfl) rfl ?_
        show Go p e w_ T3 m 34 (q_3 a1 nn i1) [(.int ((Int32.ofNat i1) + (1 : Int32)))] _
        rw [show ((Int32.ofNat i1) + (1 : Int32)) = (Int32.ofNat (i1 + 1)) from own_add i1 1]
        exact k
      · rw [e3]
        exact ⟨by rw [own_pr0 (Or.inr (Or.inl hc13))], N3, rfl⟩
    · obtain ⟨cl5, Ar5, hin5, hat5⟩ := own_at (j := (Int32.ofNat (i1 + 1))) (i := i1 + 1) V_a1 hN_a1 (own_nn (n := i1 + 1) (by omega)) (own_n (n := i1 + 1) (by omega)) (by simp only [List.length_set, List.length_replicate, List.length_map, put_len, enc1_len, List.length_append, List.length_take, List.length_drop]; omega)
      rw [show ((us.map cv).getD (i1 + 1) 0) = (cv (us.getD (i1 + 1) 0)) from own_mcd (by omega)] at hat5
      obtain ⟨_, T6, Lc6, X6, hQ6, st6⟩ := own_sc X3 hx hZ (y := Y_61) hown hml (tw hw 377 rfl) (tw hw 378 rfl) (rq_lo hw O0 ST (us.getD (i1 + 1) 0) ) (tw hw 379 rfl) (tw hw 3 rfl) e3 (W := 0) (Ls := (q_3 a1 nn i1)) (argsL := [(.int (cv (us.getD (i1 + 1) 0)))]) (rest := []) (lenOf pd31 rfl) (d79 hby 19 rfl)
      obtain ⟨rfl, Nq6, e6⟩ := hQ6
      have N6 := Fr.app N3 Nq6
      have pf7 : ∀ target, Go p e w_ T6 m 24 (q_3 a1 nn i1) [(.int (bI (loS (us.getD (i1 + 1) 0))))] target → Go p e w_ T3 m 13 (q_3 a1 nn i1) [(.int (bI (hiS (us.getD i1 0))))] target := by
        intro target k
        refine zg X3 hx (d79 hby 9 rfl) ((if0 _ _).trans (feq hc13).1) <| za X3 hx (d79 hby 14 rfl) rfl rfl <| zl X3 hx (d79 hby 15 rfl) rfl <| zc X3 hx (d79 hby 16 rfl) <| XS.iadd X3.here hx rfl (d79 hby 17 rfl) rfl ?_
        show Go p e w_ T3 m 20 (q_3 a1 nn i1) [(.int ((Int32.ofNat i1) + (1 : Int32))), (.ref a1)] _
        rw [show ((Int32.ofNat i1) + (1 : Int32)) = (Int32.ofNat (i1 + 1)) from own_add i1 1]
        show Go p e w_ T3 m 20 (q_3 a1 nn i1) [(vN (i1 + 1)), (.ref a1)] _
        refine X3.caload hx (j := (Int32.ofNat (i1 + 1))) (v := (.int (cv (us.getD (i1 + 1) 0)))) (by rw [e3]; exact Ar5.1) (State.isArrayOf_alike hZ.alike Ar5.2.1) Ar5.2.2 hin5 hat5 (g := (mkF m 20 (q_3 a1 nn i1) [(vN (i1 + 1)), (.ref a1)])) rfl rfl (d79 hby 18 rfl) _ <| st6 _ ?_
        exact k
      by_cases hc24 : (bI (loS (us.getD (i1 + 1) 0))) = (0 : Int32)
      · refine own_lvI X6 hx hlk hret (d79 hby 13 rfl) (by decide) (by decide) (z := (Int32.ofNat (i1 + 1))) (Ls := (q_3 a1 nn i1)) (rest := []) (fun _ k => castTop (ef_ru_put m a1 (Int32.ofNat nn) (Int32.ofNat i1)) ?_) ?_
        · refine pf1 _ <| pf4 _ <| pf7 _ <| zf X6 hx 24 31 (d79 hby 20 rfl) ((if0 _ _).trans (teq hc24).1) <| zl X6 hx (d79 hby 10 rfl) rfl <| zc X6 hx (d79 hby 11 rfl) <| XS.iadd X6.here hx rfl (d79 hby 12 rfl) rfl ?_
          show Go p e w_ T6 m 34 (q_3 a1 nn i1) [(.int ((Int32.ofNat i1) + (1 : Int32)))] _
          rw [show ((Int32.ofNat i1) + (1 : Int32)) = (Int32.ofNat (i1 + 1)) from own_add i1 1]
          exact k
        · rw [e6]
          exact ⟨by rw [own_pr0 (Or.inr (Or.inr hc24))], N6, rfl⟩
      · refine own_lvI X6 hx hlk hret (d79 hby 24 rfl) (by decide) (by decide) (z := (Int32.ofNat (i1 + 2))) (Ls := (q_3 a1 nn i1)) (rest := []) (fun _ k => castTop (ef_ru_put m a1 (Int32.ofNat nn) (Int32.ofNat i1)) ?_) ?_
        · refine pf1 _ <| pf4 _ <| pf7 _ <| zg X6 hx (d79 hby 20 rfl) ((if0 _ _).trans (feq hc24).1) <| zl X6 hx (d79 hby 21 rfl) rfl <| zc X6 hx (d79 hby 22 rfl) <| XS.iadd X6.here hx rfl (d79 hby 23 rfl) rfl ?_
          show Go p e w_ T6 m 30 (q_3 a1 nn i1) [(.int ((Int32.ofNat i1) + (2 : Int32)))] _
          rw [show ((Int32.ofNat i1) + (2 : Int32)) = (Int32.ofNat (i1 + 2)) from own_add i1 2]
          exact k
        · rw [e6]
          exact ⟨by rw [own_pr1 hlt hc13 hc24], N6, rfl⟩
  · refine own_lvI X0 hx hlk hret (d79 hby 13 rfl) (by decide) (by decide) (z := (Int32.ofNat (i1 + 1))) (Ls := (q_3 a1 nn i1)) (rest := []) (fun _ k => castTop (ef_ru_put m a1 (Int32.ofNat nn) (Int32.ofNat i1)) ?_) ?_
    · refine pf1 _ <| zy X0 hx 4 31 (d79 hby 4 rfl) (flt hc4).2.1 <| zl X0 hx (d79 hby 10 rfl) rfl <| zc X0 hx (d79 hby 11 rfl) <| XS.iadd X0.here hx rfl (d79 hby 12 rfl) rfl ?_
      show Go p e w_ s₁ m 34 (q_3 a1 nn i1) [(.int ((Int32.ofNat i1) + (1 : Int32)))] _
      rw [show ((Int32.ofNat i1) + (1 : Int32)) = (Int32.ofNat (i1 + 1)) from own_add i1 1]
      exact k
    · rw [e0]
      exact ⟨by rw [own_pr0 (Or.inl (fun q => hc4 ((own_lt (a := i1 + 1) (b := nn) (by omega) (by omega)).mpr q)))], N0, rfl⟩
def Qch (h0 : Heap) (n0 : Nat) (v : Option Value) (h : Heap) (L : List Loc) : Prop := ∃ u : UInt16, v = some (.int (cv u)) ∧ Fr n0 L ∧ h = h0
theorem d1 : Dl cb54 [(0, .iload_n 0, 1), (1, .iconst 3, 1), (2, .iand, 1), (3, .istore_n 1, 1), (4, .iload_n 0, 1), (5, .iconst 2, 1), (6, .iushr, 1), (7, .istore_n 2, 1), (8, .iload_n 1, 1), (9, .ifCond .ne 10, 3), (12, .iload_n 2, 1), (13, .sipush 255, 3), (16, .iand, 1), (17, .i2c, 1), (18, .ireturn, 1), (19, .iload_n 1, 1), (20, .iconst 1, 1), (21, .if_icmp .ne 13, 3), (24, .ldc 41, 2), (26, .iload_n 2, 1), (27, .sipush 1023, 3), (30, .iand, 1), (31, .iadd, 1), (32, .i2c, 1), (33, .ireturn, 1), (34, .iload_n 1, 1), (35, .iconst 2, 1), (36, .if_icmp .ne 13, 3), (39, .ldc 42, 2), (41, .iload_n 2, 1), (42, .sipush 1023, 3), (45, .iand, 1), (46, .iadd, 1), (47, .i2c, 1), (48, .ireturn, 1), (49, .iload_n 2, 1), (50, .ldc 43, 2), (52, .iand, 1), (53, .i2c, 1), (54, .ireturn, 1)] := dlk (by decide +kernel)
theorem ef_rq_ch (m : MethodId) (x0 : Int32) : entryFrame m #[(.int x0)] 3 = mkF m 0 #[.val (.int x0), .unset, .unset] [] := by first | (simp [entryFrame, mkF, argsToLocals, Value.category]; done) | rfl
theorem rq_ch (i1 : Int32) :
    Mt (l := l) hw (ws := ws) O0 ST Y_30 method_3_code 3 (some .char) R_0 #[(.int i1)] (Qch h0 n0) := by
  refine own_met (plainFor_of_name pn9) fun p e s m w_ meth c s₁ hx hby hml hZ hh hown hnm hret hlk X0 e0 => ?_
  have N0 := Fr.nil n0
  have pf1 : ∀ target, Go p e w_ s₁ m 9 (q_21 i1) [(.int (i1 &&& (3 : Int32)))] target → Go p e w_ s₁ m 0 #[iv i1, .unset, .unset] [] target := by
    intro target k
    refine zl X0 hx (d1 hby 0 rfl) rfl <| zc X0 hx (d1 hby 1 rfl) <| XS.iand X0.here hx rfl (d1 hby 2 rfl) rfl <| zs X0 hx (d1 hby 3 rfl) (Ls' := #[iv i1, iv (i1 &&& (3 : Int32)), .unset]) rfl <| zl X0 hx (d1 hby 4 rfl) rfl <| zc X0 hx (d1 hby 5 rfl) <| XS.iushr X0.here hx rfl (d1 hby 6 rfl) rfl <| zs X0 hx (d1 hby 7 rfl) (Ls' := (q_21 i1)) rfl <| zl X0 hx (d1 hby 8 rfl) rfl ?_
    exact k
  by_cases hc9 : (i1 &&& (3 : Int32)) = (0 : Int32)
  · refine own_lvN X0 hx hlk hret (by simp) (d1 hby 14 rfl) (by decide) (by decide) (z := (cv ((((i1.toUInt32 >>> ((2 : Int32) &&& 31).toUInt32).toInt32) &&& (255 : Int32)).toUInt32.toUInt16))) (own_cvc _) (Ls := (q_21 i1)) (rest := []) (fun _ k => castTop (ef_rq_ch m i1) ?_) ?_
    · refine pf1 _ <| zg X0 hx (d1 hby 9 rfl) ((if0 _ _).trans (teq hc9).2) <| zl X0 hx (d1 hby 10 rfl) rfl <| XS.sipush X0.here hx rfl (d1 hby 11 rfl) <| XS.iand X0.here hx rfl (d1 hby 12 rfl) rfl <| XS.i2c X0.here hx rfl (d1 hby 13 rfl) rfl ?_
      show Go p e w_ s₁ m 18 (q_21 i1) [(.int ((((i1.toUInt32 >>> ((2 : Int32) &&& 31).toUInt32).toInt32) &&& (255 : Int32)).toUInt32.toUInt16.toUInt32.toInt32))] _
      rw [show ((((i1.toUInt32 >>> ((2 : Int32) &&& 31).toUInt32).toInt32) &&& (255 : Int32)).toUInt32.toUInt16.toUInt32.toInt32) = (cv ((((i1.toUInt32 >>> ((2 : Int32) &&& 31).toUInt32).toInt32) &&& (255 : Int32)).toUInt32.toUInt16)) from rfl]
      exact k
    · rw [e0]
      exact ⟨_, rfl, N0, rfl⟩
  · by_cases hc21 : (i1 &&& (3 : Int32)) = (1 : Int32)
    · refine own_lvN X0 hx hlk hret (by simp) (d1 hby 24 rfl) (by decide) (by decide) (z := (cv (((55296 : Int32) + (((i1.toUInt32 >>> ((2 : Int32) &&& 31).toUInt32).toInt32) &&& (1023 : Int32))).toUInt32.toUInt16))) (own_cvc _) (Ls := (q_21 i1)) (rest := []) (fun _ k => castTop (ef_rq_ch m i1) ?_) ?_
      · refine pf1 _ <| zf X0 hx 9 19 (d1 hby 9 rfl) ((if0 _ _).trans (feq hc9).2) <| zl X0 hx (d1 hby 15 rfl) rfl <| zc X0 hx (d1 hby 16 rfl) <| zn X0 hx (d1 hby 17 rfl) (teq hc21).2 ?_
        show Go p e w_ s₁ m 24 (q_21 i1) [] _
        refine X0.ldcInt hx hown (mvT hZ (tw hw 7 rfl)) (g := (mkF m 24 (q_21 i1) [])) rfl (d1 hby 18 rfl) _ <| zl X0 hx (d1 hby 19 rfl) rfl <| XS.sipush X0.here hx rfl (d1 hby 20 rfl) <| XS.iand X0.here hx rfl (d1 hby 21 rfl) rfl <| XS.iadd X0.here hx rfl (d1 hby 22 rfl) rfl <| XS.i2c X0.here hx rfl (d1 hby 23 rfl) rfl ?_
        show Go p e w_ s₁ m 33 (q_21 i1) [(.int (((55296 : Int32) + (((i1.toUInt32 >>> ((2 : Int32) &&& 31).toUInt32).toInt32) &&& (1023 : Int32))).toUInt32.toUInt16.toUInt32.toInt32))] _
        rw [show (((55296 : Int32) + (((i1.toUInt32 >>> ((2 : Int32) &&& 31).toUInt32).toInt32) &&& (1023 : Int32))).toUInt32.toUInt16.toUInt32.toInt32) = (cv (((55296 : Int32) + (((i1.toUInt32 >>> ((2 : Int32) &&& 31).toUInt32).toInt32) &&& (1023 : Int32))).toUInt32.toUInt16)) from rfl]
        exact k
      · rw [e0]
        exact ⟨_, rfl, N0, rfl⟩
    · have pf2 : ∀ target, Go p e w_ s₁ m 36 (q_21 i1) [(vL 2), (.int (i1 &&& (3 : Int32)))] target → Go p e w_ s₁ m 9 (q_21 i1) [(.int (i1 &&& (3 : Int32)))] target := by
        intro target k
        refine zf X0 hx 9 19 (d1 hby 9 rfl) ((if0 _ _).trans (feq hc9).2) <| zl X0 hx (d1 hby 15 rfl) rfl <| zc X0 hx (d1 hby 16 rfl) <| zy X0 hx 21 34 (d1 hby 17 rfl) (feq hc21).2 <| zl X0 hx (d1 hby 25 rfl) rfl <| zc X0 hx (d1 hby 26 rfl) ?_
        exact k
      by_cases hc36 : (i1 &&& (3 : Int32)) = (2 : Int32)
      · refine own_lvN X0 hx hlk hret (by simp) (d1 hby 34 rfl) (by decide) (by decide) (z := (cv (((56320 : Int32) + (((i1.toUInt32 >>> ((2 : Int32) &&& 31).toUInt32).toInt32) &&& (1023 : Int32))).toUInt32.toUInt16))) (own_cvc _) (Ls := (q_21 i1)) (rest := []) (fun _ k => castTop (ef_rq_ch m i1) ?_) ?_
        · refine pf1 _ <| pf2 _ <| zn X0 hx (d1 hby 27 rfl) (teq hc36).2 ?_
          show Go p e w_ s₁ m 39 (q_21 i1) [] _
          refine X0.ldcInt hx hown (mvT hZ (tw hw 6 rfl)) (g := (mkF m 39 (q_21 i1) [])) rfl (d1 hby 28 rfl) _ <| zl X0 hx (d1 hby 29 rfl) rfl <| XS.sipush X0.here hx rfl (d1 hby 30 rfl) <| XS.iand X0.here hx rfl (d1 hby 31 rfl) rfl <| XS.iadd X0.here hx rfl (d1 hby 32 rfl) rfl <| XS.i2c X0.here hx rfl (d1 hby 33 rfl) rfl ?_
          show Go p e w_ s₁ m 48 (q_21 i1) [(.int (((56320 : Int32) + (((i1.toUInt32 >>> ((2 : Int32) &&& 31).toUInt32).toInt32) &&& (1023 : Int32))).toUInt32.toUInt16.toUInt32.toInt32))] _
          rw [show (((56320 : Int32) + (((i1.toUInt32 >>> ((2 : Int32) &&& 31).toUInt32).toInt32) &&& (1023 : Int32))).toUInt32.toUInt16.toUInt32.toInt32) = (cv (((56320 : Int32) + (((i1.toUInt32 >>> ((2 : Int32) &&& 31).toUInt32).toInt32) &&& (1023 : Int32))).toUInt32.toUInt16)) from rfl]
          exact k
        · rw [e0]
          exact ⟨_, rfl, N0, rfl⟩
      · refine own_lvN X0 hx hlk hret (by simp) (d1 hby 39 rfl) (by decide) (by decide) (z := (cv ((((i1.toUInt32 >>> ((2 : Int32) &&& 31).toUInt32).toInt32) &&& (65535 : Int32)).toUInt32.toUInt16))) (own_cvc _) (Ls := (q_21 i1)) (rest := []) (fun _ k => castTop (ef_rq_ch m i1) ?_) ?_
        · refine pf1 _ <| pf2 _ <| zy X0 hx 36 49 (d1 hby 27 rfl) (feq hc36).2 <| zl X0 hx (d1 hby 35 rfl) rfl ?_
          show Go p e w_ s₁ m 50 (q_21 i1) [(.int ((i1.toUInt32 >>> ((2 : Int32) &&& 31).toUInt32).toInt32))] _
          refine X0.ldcInt hx hown (mvT hZ (tw hw 5 rfl)) (g := (mkF m 50 (q_21 i1) [(.int ((i1.toUInt32 >>> ((2 : Int32) &&& 31).toUInt32).toInt32))])) rfl (d1 hby 36 rfl) _ <| XS.iand X0.here hx rfl (d1 hby 37 rfl) rfl <| XS.i2c X0.here hx rfl (d1 hby 38 rfl) rfl ?_
          show Go p e w_ s₁ m 54 (q_21 i1) [(.int ((((i1.toUInt32 >>> ((2 : Int32) &&& 31).toUInt32).toInt32) &&& (65535 : Int32)).toUInt32.toUInt16.toUInt32.toInt32))] _
          rw [show ((((i1.toUInt32 >>> ((2 : Int32) &&& 31).toUInt32).toInt32) &&& (65535 : Int32)).toUInt32.toUInt16.toUInt32.toInt32) = (cv ((((i1.toUInt32 >>> ((2 : Int32) &&& 31).toUInt32).toInt32) &&& (65535 : Int32)).toUInt32.toUInt16)) from rfl]
          exact k
        · rw [e0]
          exact ⟨_, rfl, N0, rfl⟩
theorem Strx.ext {Z : State} {h h' : Heap} {a b : Addr} {k : ClassId} {cs : List UInt16} (F : Strx Z h a b k cs) (E : Ext h h') : Strx Z h' a b k cs :=
  F.imp (fun q => ⟨q.1.ext E, q.2.1.ext E, q.2.2.1.ext E, ⟨q.2.2.2.1.1.ext E, q.2.2.2.1.2⟩, q.2.2.2.2⟩) (fun ⟨q, r⟩ => ⟨⟨q.1.ext E, q.2.1.ext E, q.2.2.1.ext E, ⟨q.2.2.2.1.ext E, q.2.2.2.2⟩⟩, r⟩)
theorem Strx.keep {Z : State} {h h' : Heap} {a b : Addr} {k : ClassId} {cs : List UInt16} {ws : List Addr} (F : Strx Z h a b k cs) (K : Keep h h' ws) (n : a ∉ ws) (m : b ∉ ws) : Strx Z h' a b k cs :=
  F.imp (fun q => ⟨q.1.keep K, q.2.1.keep K n, q.2.2.1.keep K n, ⟨q.2.2.2.1.1.keep K m, q.2.2.2.1.2⟩, q.2.2.2.2⟩) (fun ⟨q, r⟩ => ⟨⟨q.1.keep K, q.2.1.keep K n, q.2.2.1.keep K n, ⟨q.2.2.2.1.keep K m, q.2.2.2.2⟩⟩, r⟩)
theorem Strx.lt {Z : State} {h : Heap} {a b : Addr} {k : ClassId} {cs : List UInt16} (F : Strx Z h a b k cs) : a < h.size ∧ b < h.size := F.elim (fun q => ⟨q.1.lt, q.2.2.2.1.1.lt⟩) (fun ⟨q, _⟩ => ⟨q.1.lt, q.2.2.2.1.lt⟩)
theorem Strx.exa {Z : State} {h : Heap} {a b : Addr} {k : ClassId} {cs : List UInt16} (F : Strx Z h a b k cs) : Exa Z h a "java/lang/String" := F.elim (fun q => q.1) (fun q => q.1.1)
theorem d12 : Dl cb55 [(0, .iload_n 0, 1), (1, .ifCond .lt 13, 3), (4, .iload_n 0, 1), (5, .iload_n 1, 1), (6, .if_icmp .gt 8, 3), (9, .iload_n 1, 1), (10, .iload_n 2, 1), (11, .if_icmp .le 11, 3), (22, .iload_n 0, 1), (23, .ireturn, 1)] := dlk (by decide +kernel)
theorem ef_rp_ctN (m : MethodId) (x0 : Int32) (x1 : Int32) (x2 : Int32) : entryFrame m #[(.int x0), (.int x1), (.int x2), .null] 4 = mkF m 0 #[.val (.int x0), .val (.int x1), .val (.int x2), .val .null] [] := by first | (simp [entryFrame, mkF, argsToLocals, Value.category]; done) | rfl
theorem rp_ctN (i1 i2 i3 : Nat) (h12 : i1 ≤ i2) (h23 : i2 ≤ i3) (hB : i3 ≤ 110) :
    Mt (l := l) hw (ws := ws) O0 ST Y_45 jdk_41_method_12_code 4 (some .int) R_0 #[(vN i1), (vN i2), (vN i3), .null] (Qpure (some (vN i1)) h0 n0) := by
  refine own_met (plainFor_of_name pn1) fun p e s m w_ meth c s₁ hx hby hml hZ hh hown hnm hret hlk X0 e0 => ?_
  have N0 := Fr.nil n0
  have pf1 : ∀ target, Go p e w_ s₁ m 11 (q_113 i1 i2 i3) [(vN i3), (vN i2)] target → Go p e w_ s₁ m 0 (q_113 i1 i2 i3) [] target := by
    intro target k
    refine zl X0 hx (d12 hby 0 rfl) rfl <| zg X0 hx (d12 hby 1 rfl) ((if0 _ _).trans (flt (fun q => absurd ((own_lt (a := i1) (b := 0) (by omega) (by omega)).mp q) (by omega))).1) <| zl X0 hx (d12 hby 2 rfl) rfl <| zl X0 hx (d12 hby 3 rfl) rfl <| zn X0 hx (d12 hby 4 rfl) (flt (fun q => absurd ((own_lt (a := i2) (b := i1) (by omega) (by omega)).mp q) (by omega))).2.2.1 <| zl X0 hx (d12 hby 5 rfl) rfl <| zl X0 hx (d12 hby 6 rfl) rfl ?_
    exact k
  refine own_lvI X0 hx hlk hret (d12 hby 9 rfl) (by decide) (by decide) (z := (Int32.ofNat i1)) (Ls := (q_113 i1 i2 i3)) (rest := []) (fun _ k => castTop (ef_rp_ctN m (Int32.ofNat i1) (Int32.ofNat i2) (Int32.ofNat i3)) ?_) ?_
  · refine pf1 _ <| zy X0 hx 11 22 (d12 hby 7 rfl) (flt (fun q => absurd ((own_lt (a := i3) (b := i2) (by omega) (by omega)).mp q) (by omega))).2.2.2 <| zl X0 hx (d12 hby 8 rfl) rfl ?_
    exact k
  · rw [e0]
    exact ⟨rfl, N0, rfl⟩
theorem rp_ctF (i1 i2 i3 : Nat) (h12 : i1 ≤ i2) (h23 : i2 ≤ i3) (hB : i3 ≤ 110) :
    Mt (l := l) hw (ws := ws) O0 ST Y_45 jdk_41_method_12_code 4 (some .int) R_0 #[(vN i1), (vN i2), (vN i3), Fm] (Qpure (some (vN i1)) h0 n0) := by
  refine own_met (plainFor_of_name pn1) fun p e s m w_ meth c s₁ hx hby hml hZ hh hown hnm hret hlk X0 e0 => ?_
  have N0 := Fr.nil n0
  have pf1 : ∀ target, Go p e w_ s₁ m 11 (q_34 i1 i2 i3 Fm) [(vN i3), (vN i2)] target → Go p e w_ s₁ m 0 (q_34 i1 i2 i3 Fm) [] target := by
    intro target k
    refine zl X0 hx (d12 hby 0 rfl) rfl <| zg X0 hx (d12 hby 1 rfl) ((if0 _ _).trans (flt (fun q => absurd ((own_lt (a := i1) (b := 0) (by omega) (by omega)).mp q) (by omega))).1) <| zl X0 hx (d12 hby 2 rfl) rfl <| zl X0 hx (d12 hby 3 rfl) rfl <| zn X0 hx (d12 hby 4 rfl) (flt (fun q => absurd ((own_lt (a := i2) (b := i1) (by omega) (by omega)).mp q) (by omega))).2.2.1 <| zl X0 hx (d12 hby 5 rfl) rfl <| zl X0 hx (d12 hby 6 rfl) rfl ?_
    exact k
  refine own_lvI X0 hx hlk hret (d12 hby 9 rfl) (by decide) (by decide) (z := (Int32.ofNat i1)) (Ls := (q_34 i1 i2 i3 Fm)) (rest := []) (fun _ k => castTop (ef_rp_fs m (Int32.ofNat i1) (Int32.ofNat i2) (Int32.ofNat i3) Fm ST.2.2.2.1) ?_) ?_
  · refine pf1 _ <| zy X0 hx 11 22 (d12 hby 7 rfl) (flt (fun q => absurd ((own_lt (a := i3) (b := i2) (by omega) (by omega)).mp q) (by omega))).2.2.2 <| zl X0 hx (d12 hby 8 rfl) rfl ?_
    exact k
  · rw [e0]
    exact ⟨rfl, N0, rfl⟩
theorem pn10 : plainName "java/util/Objects" = true := by first | (simp [plainName, overriddenIn]; done) | decide +kernel
theorem d11 : Dl cb56 [(0, .iload_n 0, 1), (1, .iload_n 1, 1), (2, .iload_n 2, 1), (3, .aconst_null, 1), (4, .invokestatic 111, 3), (7, .ireturn, 1)] := dlk (by decide +kernel)
theorem ro_ct (i1 i2 i3 : Nat) (h12 : i1 ≤ i2) (h23 : i2 ≤ i3) (hB : i3 ≤ 110) :
    Mt (l := l) hw (ws := ws) O0 ST Y_62 jdk_31_method_18_code 3 (some .int) R_18 #[(vN i1), (vN i2), (vN i3)] (Qpure (some (vN i1)) h0 n0) := by
  refine own_met (plainFor_of_name pn10) fun p e s m w_ meth c s₁ hx hby hml hZ hh hown hnm hret hlk X0 e0 => ?_
  have N0 := Fr.nil n0
  obtain ⟨_, T1, Lc1, X1, hQ1, st1⟩ := own_sc X0 hx hZ (y := Y_45) hown hml (tw hw 62 rfl) (tw hw 63 rfl) (rp_ctN hw O0 ST i1 i2 i3 h12 h23 hB) (tw hw 65 rfl) (tw hw 64 rfl) e0 (W := 0) (Ls := (q_35 i1 i2 i3)) (argsL := [(vN i1), (vN i2), (vN i3), .null]) (rest := []) (lenOf pd8 rfl) (d11 hby 4 rfl)
  obtain ⟨rfl, Nq1, e1⟩ := hQ1
  have N1 := Fr.app N0 Nq1
  refine own_lvI X1 hx hlk hret (d11 hby 5 rfl) (by decide) (by decide) (z := (Int32.ofNat i1)) (Ls := (q_35 i1 i2 i3)) (rest := []) (fun _ k => castTop (ef_rs_bo m (Int32.ofNat i1) (Int32.ofNat i2) (Int32.ofNat i3)) ?_) ?_
  · refine zl X0 hx (d11 hby 0 rfl) rfl <| zl X0 hx (d11 hby 1 rfl) rfl <| zl X0 hx (d11 hby 2 rfl) rfl <| XS.aconstNull X0.here hx rfl (d11 hby 3 rfl) <| st1 _ ?_
    exact k
  · rw [e1]
    exact ⟨rfl, N1, rfl⟩
theorem d37 : Dl cb57 [(0, .iload_n 0, 1), (1, .iload_n 1, 1), (2, .iload_n 2, 1), (3, .getstatic 1053, 3), (6, .invokestatic 1062, 3), (9, .pop, 1), (10, .return_, 1)] := dlk (by decide +kernel)
theorem rs_cbe (i1 i2 i3 : Nat) (h12 : i1 ≤ i2) (h23 : i2 ≤ i3) (hB : i3 ≤ 110) :
    Mt (l := l) hw (ws := ws) O0 ST Y_14 jdk_42_method_158_code 3 none R_18 #[(vN i1), (vN i2), (vN i3)] (Qpure none h0 n0) := by
  refine own_met (plainFor_of_name pn2) fun p e s m w_ meth c s₁ hx hby hml hZ hh hown hnm hret hlk X0 e0 => ?_
  have N0 := Fr.nil n0
  obtain ⟨S_cs, hG, S_fm, hF, S_ad, S_hi, S_lo⟩ := id ST
  obtain ⟨T1, X1, e1, st1⟩ := getS2 X0 hx hZ hown (host := "") (Or.inl (tw hw 162 rfl)) Via.refl e0 (S_fm.ext O0.2) (g := (mkF m 3 (q_35 i1 i2 i3) [(vN i3), (vN i2), (vN i1)])) rfl (d37 hby 3 rfl)
  obtain ⟨_, T2, Lc2, X2, hQ2, st2⟩ := own_sc X1 hx hZ (y := Y_45) hown hml (tw hw 175 rfl) (tw hw 63 rfl) (rp_ctF hw O0 ST i1 i2 i3 h12 h23 hB) (tw hw 65 rfl) (tw hw 64 rfl) e1 (W := 0) (Ls := (q_35 i1 i2 i3)) (argsL := [(vN i1), (vN i2), (vN i3), Fm]) (rest := []) (lenOf pd8 rfl) (d37 hby 4 rfl)
  obtain ⟨rfl, Nq2, e2⟩ := hQ2
  have N2 := Fr.app N0 Nq2
  refine own_lvV X2 hx hlk hret (d37 hby 6 rfl) (by decide) (by decide) (Ls := (q_35 i1 i2 i3)) (fun _ k => castTop (ef_rs_bo m (Int32.ofNat i1) (Int32.ofNat i2) (Int32.ofNat i3)) ?_) ?_
  · refine zl X0 hx (d37 hby 0 rfl) rfl <| zl X0 hx (d37 hby 1 rfl) rfl <| zl X0 hx (d37 hby 2 rfl) rfl <| st1 _ <| st2 _ <| XS.pop X2.here hx rfl (d37 hby 5 rfl) rfl rfl ?_
    exact k
  · rw [e2]
    exact ⟨rfl, N2, rfl⟩
theorem d25 : Dl cb58 [(44, .iload 5, 2), (46, .iload_n 2, 1), (47, .iconst 1, 1), (48, .isub, 1), (49, .if_icmp .ge 39, 3), (52, .aload_n 0, 1), (53, .iload 5, 2), (55, .iinc 5 1, 3), (58, .invokestatic 71, 3), (61, .invokestatic 75, 3), (64, .ifCond .eq (-20), 3), (67, .aload_n 0, 1), (68, .iload 5, 2), (70, .invokestatic 71, 3), (73, .invokestatic 81, 3), (76, .ifCond .eq (-32), 3), (79, .iinc 4 (-1), 3), (82, .iinc 5 1, 3), (85, .goto (-41), 3), (0, .getstatic 44, 3), (3, .ifCond .ne 16, 3), (19, .iload_n 2, 1), (20, .iload_n 1, 1), (21, .isub, 1), (22, .istore 4, 2), (24, .iload_n 1, 1), (25, .istore 5, 2), (27, .iload_n 3, 1), (28, .ifCond .eq 16, 3), (88, .iload 4, 2), (90, .ireturn, 1)] := dlk (by decide +kernel)
theorem pu_cp {p : Program} {l : Launch} {e : Env} {s : State} {m : MethodId} {args : Array Value} {w_ : List Frame} {meth : Method} {c : Code} {T0 : State} {locs : List Loc} {Z : State} {a0 : Array Value} {n0 : Nat} {h0 : Heap} (hw : Hw a0 Z) (X0 : Stand p l e R_21 s m args w_ meth c T0 locs 0 0) (hx : p.tables.exec = Jvm.exec) (hby : c.code = jdk_52_method_11_code) (hml : c.maxLocals = 6) (hZ : Z.Warmed39 s.vm) (hown : s.vm.findClass "java/lang/StringUTF16" = some m.cls) (e0 : T0.heap = h0) (N0 : Fr n0 locs) (O0 : Old Z n0 h0) (G1 : Int32) (Fm : Value) (a1 : Addr) (kA : ClassId) (cs : List UInt16) (j : Nat) (q : Nat) (ST : Stc Z G1 Fm) (B1 : Bar Z h0 a1 kA (2 * cs.length) (enc1 cs)) (hc : cs.length ≤ 24) (h1 : 1 ≤ cs.length) (hj : j + 1 < cs.length) (hq : cs.length ≤ q + j) (hq2 : q ≤ 24) :
    ∃ (T' : State) (L' : List Loc), Stand p l e R_21 s m args w_ meth c T' L' 0 0 ∧ T'.heap = h0 ∧ Fr n0 L' ∧ ∀ target, Go p e w_ T' m 44 #[rv a1, iv 0, nv cs.length, iv 0, nv (q - prd cs cs.length j), nv (j + 1 + prd cs cs.length j)] [] target → Go p e w_ T0 m 44 (q_76 a1 cs q j) [] target := by
  have V_a1 := B1.1
  have l_a1 := B1.2
  have hN_a1 : (Int32.ofNat (2 * cs.length)).toNatClampNeg = (enc1 cs).length := by rw [l_a1]; exact own_n (by omega)
  have lt_a1 := V_a1.lt
  have pf1 : ∀ target, Go p e w_ T0 m 49 (q_76 a1 cs q j) [(vN (cs.length - 1)), (vN j)] target → Go p e w_ T0 m 44 (q_76 a1 cs q j) [] target := by
    intro target k
    refine zm X0 hx (d25 hby 0 rfl) rfl <| zl X0 hx (d25 hby 1 rfl) rfl <| zc X0 hx (d25 hby 2 rfl) <| XS.isub X0.here hx rfl (d25 hby 3 rfl) rfl ?_
    show Go p e w_ T0 m 49 (q_76 a1 cs q j) [(.int ((Int32.ofNat cs.length) - (1 : Int32))), (.int (Int32.ofNat j))] _
    rw [show ((Int32.ofNat cs.length) - (1 : Int32)) = (Int32.ofNat (cs.length - 1)) from own_sub (a := cs.length) (b := 1) (by omega)]
    exact k
  obtain ⟨_, T2, Lc2, X2, hQ2, st2⟩ := own_sc X0 hx hZ (y := Y_9) hown hml (tw hw 99 rfl) (tw hw 100 rfl) (ru_get hw O0 ST a1 kA (2 * cs.length) (enc1 cs) j (cs.getD j 0) B1 (by omega) (by omega) (enc1_get cs j (by omega)).1 (enc1_get cs j (by omega)).2) (tw hw 101 rfl) (tw hw 78 rfl) e0 (W := 0) (Ls := (q_37 a1 cs q j)) (argsL := [(.ref a1), (vN j)]) (rest := []) (lenOf pd4 rfl) (d25 hby 8 rfl)
  obtain ⟨rfl, Nq2, e2⟩ := hQ2
  have N2 := Fr.app N0 Nq2
  obtain ⟨_, T3, Lc3, X3, hQ3, st3⟩ := own_sc X2 hx hZ (y := Y_58) hown hml (tw hw 115 rfl) (tw hw 116 rfl) (rc_hi hw O0 ST (cs.getD j 0) ) (tw hw 118 rfl) (tw hw 117 rfl) e2 (W := 0) (Ls := (q_37 a1 cs q j)) (argsL := [(.int (cv (cs.getD j 0)))]) (rest := []) (lenOf pd31 rfl) (d25 hby 9 rfl)
  obtain ⟨rfl, Nq3, e3⟩ := hQ3
  have N3 := Fr.app N2 Nq3
  have pf4 : ∀ target, Go p e w_ T3 m 64 (q_37 a1 cs q j) [(.int (bI (hiS (cs.getD j 0))))] target → Go p e w_ T0 m 49 (q_76 a1 cs q j) [(vN (cs.length - 1)), (vN j)] target := by
    intro target k
    refine zn X0 hx (d25 hby 4 rfl) (tlt ((own_lt (a := j) (b := cs.length - 1) (by omega) (by omega)).mpr (by omega))).2.1 <| za X0 hx (d25 hby 5 rfl) rfl rfl <| zm X0 hx (d25 hby 6 rfl) rfl <| XS.iinc X0.here hx rfl (d25 hby 7 rfl) rfl (l' := #[rv a1, iv 0, nv cs.length, iv 0, nv q, iv ((Int32.ofNat j) + (1 : Int32))]) rfl ?_
    show Go p e w_ T0 m 58 #[.val (.ref a1), .val (.int (0 : Int32)), .val (.int (Int32.ofNat cs.length)), .val (.int (0 : Int32)), .val (.int (Int32.ofNat q)), .val (.int ((Int32.ofNat j) + (1 : Int32)))] [(.int (Int32.ofNat j)), (.ref a1)] _
    rw [show ((Int32.ofNat j) + (1 : Int32)) = (Int32.ofNat (j + 1)) from own_add j 1]
    refine st2 _ <| st3 _ ?_
    exact k
  by_cases hc64 : (bI (hiS (cs.getD j 0))) = (0 : Int32)
  · rw [show prd cs cs.length j = _ from own_pr0 (Or.inr (Or.inl hc64))]
    refine ⟨T3, _, X3, e3, N3, ?_⟩
    intro target k
    refine pf1 _ <| pf4 _ <| zf X3 hx 64 44 (d25 hby 10 rfl) ((if0 _ _).trans (teq hc64).1) ?_
    exact k
  · obtain ⟨_, _, ⟨T5, L5, k5, n5⟩, -, X5, ⟨Lc5, hQ5, l5, y5, z5⟩, st5⟩ := Jvm.LawKit.callS X3 hx (y := Y_9) hown (mvT hZ (tw hw 99 rfl)) (mvT hZ (tw hw 100 rfl)) (mvT hZ (tw hw 78 rfl)) (mvT hZ (tw hw 101 rfl)) (by decide) (backOf (W := 0) (ru_get hw O0 ST a1 kA (2 * cs.length) (enc1 cs) (j + 1) (cs.getD (j + 1) 0) B1 (by omega) (by omega) (enc1_get cs (j + 1) (by omega)).1 (enc1_get cs (j + 1) (by omega)).2) hZ (tw hw 101 rfl) (tw hw 78 rfl) (by decide) (by decide)) (g := (mkF m 70 (q_37 a1 cs q j) [(vN (j + 1)), (.ref a1)])) rfl (by rw [hml]; rfl) (argsL := [(.ref a1), (vN (j + 1))]) (rest := []) (lenOf pd4 rfl) rfl (by show 2 * 0 + _ ≤ _; exact Nat.le_of_eq rfl) (d25 hby 13 rfl) (fun _ _ => ⟨rfl, e3, (by decide : 0 + 0 ≤ _), (by decide : 0 + 0 ≤ _)⟩)
    dsimp only [Pt.U, Pt.locs, Pt.cells, Pt.slots] at X5 l5 y5 z5 st5 hQ5
    subst l5 y5 z5
    obtain ⟨rfl, Nq5, e5⟩ := hQ5
    have N5 := Fr.app N3 Nq5
    obtain ⟨_, T6, Lc6, X6, hQ6, st6⟩ := own_sc X5 hx hZ (y := Y_59) hown hml (tw hw 380 rfl) (tw hw 381 rfl) (rc_lo hw O0 ST (cs.getD (j + 1) 0) ) (tw hw 382 rfl) (tw hw 117 rfl) e5 (W := 0) (Ls := (q_37 a1 cs q j)) (argsL := [(.int (cv (cs.getD (j + 1) 0)))]) (rest := []) (lenOf pd31 rfl) (d25 hby 14 rfl)
    obtain ⟨rfl, Nq6, e6⟩ := hQ6
    have N6 := Fr.app N5 Nq6
    have pf7 : ∀ target, Go p e w_ T6 m 76 (q_37 a1 cs q j) [(.int (bI (loS (cs.getD (j + 1) 0))))] target → Go p e w_ T3 m 64 (q_37 a1 cs q j) [(.int (bI (hiS (cs.getD j 0))))] target := by
      intro target k
      refine zg X3 hx (d25 hby 10 rfl) ((if0 _ _).trans (feq hc64).1) <| za X3 hx (d25 hby 11 rfl) rfl rfl <| zm X3 hx (d25 hby 12 rfl) rfl <| st5 _ <| st6 _ ?_
      exact k
    by_cases hc76 : (bI (loS (cs.getD (j + 1) 0))) = (0 : Int32)
    · rw [show prd cs cs.length j = _ from own_pr0 (Or.inr (Or.inr hc76))]
      refine ⟨T6, _, X6, e6, N6, ?_⟩
      intro target k
      refine pf1 _ <| pf4 _ <| pf7 _ <| zf X6 hx 76 44 (d25 hby 15 rfl) ((if0 _ _).trans (teq hc76).1) ?_
      exact k
    · rw [show prd cs cs.length j = _ from own_pr1 hj hc64 hc76]
      refine ⟨T6, _, X6, e6, N6, ?_⟩
      intro target k
      refine pf1 _ <| pf4 _ <| pf7 _ <| zg X6 hx (d25 hby 15 rfl) ((if0 _ _).trans (feq hc76).1) <| XS.iinc X6.here hx rfl (d25 hby 16 rfl) rfl (l' := #[rv a1, iv 0, nv cs.length, iv 0, iv ((Int32.ofNat q) + (-1 : Int32)), nv (j + 1)]) rfl ?_
      show Go p e w_ T6 m 82 #[.val (.ref a1), .val (.int (0 : Int32)), .val (.int (Int32.ofNat cs.length)), .val (.int (0 : Int32)), .val (.int ((Int32.ofNat q) + (-1 : Int32))), .val (.int (Int32.ofNat (j + 1)))] [] _
      rw [show ((Int32.ofNat q) + (-1 : Int32)) = (Int32.ofNat (q - 1)) from own_dec (n := q) (by omega)]
      refine XS.iinc X6.here hx rfl (d25 hby 17 rfl) rfl (l' := #[rv a1, iv 0, nv cs.length, iv 0, nv (q - 1), iv ((Int32.ofNat (j + 1)) + (1 : Int32))]) rfl ?_
      show Go p e w_ T6 m 85 #[.val (.ref a1), .val (.int (0 : Int32)), .val (.int (Int32.ofNat cs.length)), .val (.int (0 : Int32)), .val (.int (Int32.ofNat (q - 1))), .val (.int ((Int32.ofNat (j + 1)) + (1 : Int32)))] [] _
      rw [show ((Int32.ofNat (j + 1)) + (1 : Int32)) = (Int32.ofNat (j + 1 + 1)) from own_add (j + 1) 1]
      refine zo X6 hx 85 44 (d25 hby 18 rfl) ?_
      exact k
theorem lu_cp {p : Program} {l : Launch} {e : Env} {s : State} {m : MethodId} {args : Array Value} {w_ : List Frame} {meth : Method} {c : Code} {Z : State} {a0 : Array Value} {n0 : Nat} {h0 : Heap} (hw : Hw a0 Z) (hx : p.tables.exec = Jvm.exec) (hby : c.code = jdk_52_method_11_code) (hml : c.maxLocals = 6) (hZ : Z.Warmed39 s.vm) (hown : s.vm.findClass "java/lang/StringUTF16" = some m.cls) (O0 : Old Z n0 h0) (G1 : Int32) (Fm : Value) (ST : Stc Z G1 Fm) {a1 : Addr} {kA : ClassId} {cs : List UInt16} (B1 : Bar Z h0 a1 kA (2 * cs.length) (enc1 cs)) (hc : cs.length ≤ 24) (h1 : 1 ≤ cs.length) :
    ∀ (f j q : Nat) (T0 : State) (locs : List Loc) (X0 : Stand p l e R_21 s m args w_ meth c T0 locs 0 0) (e0 : T0.heap = h0) (N0 : Fr n0 locs) (hq : cs.length ≤ q + j) (hq2 : q ≤ 24) (hf : cs.length ≤ f + j) (hj : j ≤ cs.length + 1),
      ∃ (T' : State) (L' : List Loc) (j' : Nat), ¬ j' + 1 < cs.length ∧ j' ≤ cs.length + 1 ∧ Stand p l e R_21 s m args w_ meth c T' L' 0 0 ∧ T'.heap = h0 ∧ Fr n0 L' ∧ ∀ target, Go p e w_ T' m 44 #[rv a1, iv 0, nv cs.length, iv 0, nv (cpC cs f j q), nv (j')] [] target → Go p e w_ T0 m 44 (q_76 a1 cs q j) [] target := by
  intro f
  induction f with
  | zero =>
    intro j q T0 locs X0 e0 N0 hq hq2 hf hj
    exact ⟨T0, locs, j, by omega, hj, X0, e0, N0, fun _ k => k⟩
  | succ f ih =>
    intro j q T0 locs X0 e0 N0 hq hq2 hf hj
    by_cases h : j + 1 < cs.length
    · obtain ⟨T1, L1, X1, e1, N1, st1⟩ := pu_cp hw X0 hx hby hml hZ hown e0 N0 O0 G1 Fm a1 kA cs j q ST B1 hc h1 h hq hq2
      have hp := own_prle cs cs.length j
      obtain ⟨T2, L2, j', h1, h2, X2, e2, N2, st2⟩ := ih (j + 1 + prd cs cs.length j) (q - prd cs cs.length j) T1 L1 X1 e1 N1 (by omega) (by omega) (by omega) (by omega)
      exact ⟨T2, L2, j', h1, h2, X2, e2, N2, fun target k => by rw [cpC_go h] at k; exact st1 target (st2 target k)⟩
    · exact ⟨T0, locs, j, h, hj, X0, e0, N0, fun target k => by rw [cpC_end h] at k; exact k⟩
theorem ef_ru_cpz (m : MethodId) (x0 : Addr) (x1 : Int32) (x2 : Int32) (x3 : Int32) : entryFrame m #[(.ref x0), (.int x1), (.int x2), (.int x3)] 6 = mkF m 0 #[.val (.ref x0), .val (.int x1), .val (.int x2), .val (.int x3), .unset, .unset] [] := by first | (simp [entryFrame, mkF, argsToLocals, Value.category]; done) | rfl
theorem ru_cpz (a1 : Addr) (kA : ClassId) (cs : List UInt16) (B1 : Bar Z h0 a1 kA (2 * cs.length) (enc1 cs)) (hc : cs.length ≤ 24) (h1 : 1 ≤ cs.length) :
    Mt (l := l) hw (ws := ws) O0 ST Y_78 jdk_52_method_11_code 6 (some .int) R_21 #[(.ref a1), (vL 0), (vN cs.length), (vL 0)] (Qpure (some (vN (cpC cs cs.length 0 cs.length))) h0 n0) := by
  refine own_met (plainFor_of_name pn0) fun p e s m w_ meth c s₁ hx hby hml hZ hh hown hnm hret hlk X0 e0 => ?_
  have N0 := Fr.nil n0
  obtain ⟨S_cs, hG, S_fm, hF, S_ad, S_hi, S_lo⟩ := id ST
  have V_a1 := B1.1
  have l_a1 := B1.2
  have hN_a1 : (Int32.ofNat (2 * cs.length)).toNatClampNeg = (enc1 cs).length := by rw [l_a1]; exact own_n (by omega)
  have lt_a1 := V_a1.lt
  obtain ⟨T1, X1, e1, st1⟩ := getS2 X0 hx hZ hown (host := "") (Or.inl (tw hw 96 rfl)) Via.refl e0 (S_ad.ext O0.2) (g := (mkF m 0 (q_101 a1 cs) [])) rfl (d25 hby 19 rfl)
  have pf2 : ∀ target, Go p e w_ T1 m 28 (q_120 a1 cs) [(vL 0)] target → Go p e w_ s₁ m 0 (q_101 a1 cs) [] target := by
    intro target k
    refine st1 _ <| zf X1 hx 3 19 (d25 hby 20 rfl) ((if0 _ _).trans (feq (by decide)).2) <| zl X1 hx (d25 hby 21 rfl) rfl <| zl X1 hx (d25 hby 22 rfl) rfl <| XS.isub X1.here hx rfl (d25 hby 23 rfl) rfl ?_
    show Go p e w_ T1 m 22 (q_101 a1 cs) [(.int ((Int32.ofNat cs.length) - (0 : Int32)))] _
    rw [show ((Int32.ofNat cs.length) - (0 : Int32)) = (Int32.ofNat cs.length) from own_sub (a := cs.length) (b := 0) (Nat.zero_le _)]
    refine zt X1 hx (d25 hby 24 rfl) (Ls' := #[rv a1, iv 0, nv cs.length, iv 0, nv cs.length, .unset]) rfl <| zl X1 hx (d25 hby 25 rfl) rfl <| zt X1 hx (d25 hby 26 rfl) (Ls' := (q_120 a1 cs)) rfl <| zl X1 hx (d25 hby 27 rfl) rfl ?_
    exact k
  obtain ⟨T3, L3, jx, hx1, hx2, X3, e3, N3, st3⟩ := lu_cp hw hx hby hml hZ hown O0 G1 Fm ST B1 hc h1 cs.length 0 cs.length T1 _ X1 e1 N0 (by omega) (by omega) (by omega) (by omega)
  have hcl := cpC_le cs cs.length 0 cs.length
  have pf4 : ∀ target, Go p e w_ T3 m 49 (q_102 a1 cs jx) [(vN (cs.length - 1)), (vN jx)] target → Go p e w_ T1 m 28 (q_120 a1 cs) [(vL 0)] target := by
    intro target k
    refine zf X1 hx 28 44 (d25 hby 28 rfl) ((if0 _ _).trans (teq (by decide)).1) <| st3 _ <| zm X3 hx (d25 hby 0 rfl) rfl <| zl X3 hx (d25 hby 1 rfl) rfl <| zc X3 hx (d25 hby 2 rfl) <| XS.isub X3.here hx rfl (d25 hby 3 rfl) rfl ?_
    show Go p e w_ T3 m 49 (q_102 a1 cs jx) [(.int ((Int32.ofNat cs.length) - (1 : Int32))), (.int (Int32.ofNat jx))] _
    rw [show ((Int32.ofNat cs.length) - (1 : Int32)) = (Int32.ofNat (cs.length - 1)) from own_sub (a := cs.length) (b := 1) (by omega)]
    exact k
  refine own_lvI X3 hx hlk hret (d25 hby 30 rfl) (by decide) (by decide) (z := (Int32.ofNat (cpC cs cs.length 0 cs.length))) (Ls := (q_102 a1 cs jx)) (rest := []) (fun _ k => castTop (ef_ru_cpz m a1 (0 : Int32) (Int32.ofNat cs.length) (0 : Int32)) ?_) ?_
  · refine pf2 _ <| pf4 _ <| zy X3 hx 49 88 (d25 hby 4 rfl) (flt (fun q => absurd ((own_lt (a := jx) (b := cs.length - 1) (by omega) (by omega)).mp q) (by omega))).2.1 <| zm X3 hx (d25 hby 29 rfl) rfl ?_
    exact k
  · rw [e3]
    exact ⟨rfl, N3, rfl⟩
theorem d24 : Dl cb59 [(0, .aload_n 0, 1), (1, .iload_n 1, 1), (2, .iload_n 2, 1), (3, .iconst 0, 1), (4, .invokestatic 100, 3), (7, .ireturn, 1)] := dlk (by decide +kernel)
theorem pd32 : parseMethodDescriptor "([BIIZ)I" = some ⟨[(.array .byte), .int, .int, .boolean], some .int⟩ := by decide +kernel
theorem ru_cp (a1 : Addr) (kA : ClassId) (cs : List UInt16) (B1 : Bar Z h0 a1 kA (2 * cs.length) (enc1 cs)) (hc : cs.length ≤ 24) (h1 : 1 ≤ cs.length) :
    Mt (l := l) hw (ws := ws) O0 ST Y_79 jdk_52_method_12_code 3 (some .int) R_49 #[(.ref a1), (vL 0), (vN cs.length)] (Qpure (some (vN (cpC cs cs.length 0 cs.length))) h0 n0) := by
  refine own_met (plainFor_of_name pn0) fun p e s m w_ meth c s₁ hx hby hml hZ hh hown hnm hret hlk X0 e0 => ?_
  have N0 := Fr.nil n0
  obtain ⟨_, T1, Lc1, X1, hQ1, st1⟩ := own_sc X0 hx hZ (y := Y_78) hown hml (tw hw 112 rfl) (tw hw 113 rfl) (ru_cpz hw O0 ST a1 kA cs B1 hc h1) (tw hw 114 rfl) (tw hw 78 rfl) e0 (W := 0) (Ls := (q_10 a1 cs)) (argsL := [(.ref a1), (vL 0), (vN cs.length), (vL 0)]) (rest := []) (lenOf pd32 rfl) (d24 hby 4 rfl)
  obtain ⟨rfl, Nq1, e1⟩ := hQ1
  have N1 := Fr.app N0 Nq1
  refine own_lvI X1 hx hlk hret (d24 hby 5 rfl) (by decide) (by decide) (z := (Int32.ofNat (cpC cs cs.length 0 cs.length))) (Ls := (q_10 a1 cs)) (rest := []) (fun _ k => castTop (ef_ru_put m a1 (0 : Int32) (Int32.ofNat cs.length)) ?_) ?_
  · refine za X0 hx (d24 hby 0 rfl) rfl rfl <| zl X0 hx (d24 hby 1 rfl) rfl <| zl X0 hx (d24 hby 2 rfl) rfl <| zc X0 hx (d24 hby 3 rfl) <| st1 _ ?_
    exact k
  · rw [e1]
    exact ⟨rfl, N1, rfl⟩
theorem d10 : Dl cb60 [(0, .iload_n 1, 1), (1, .iload_n 2, 1), (2, .aload_n 0, 1), (3, .invokevirtual 505, 3), (6, .invokestatic 511, 3), (9, .pop, 1), (10, .aload_n 0, 1), (11, .invokevirtual 492, 3), (14, .ifCond .eq 7, 3), (17, .iload_n 2, 1), (18, .iload_n 1, 1), (19, .isub, 1), (20, .ireturn, 1), (21, .aload_n 0, 1), (22, .getfield 9, 3), (25, .iload_n 1, 1), (26, .iload_n 2, 1), (27, .invokestatic 514, 3), (30, .ireturn, 1)] := dlk (by decide +kernel)
theorem rs_cp0 (a1 bA : Addr) (kA : ClassId) (cs : List UInt16) (HS : Str0 Z h0 a1 bA kA cs) (hc : cs.length ≤ 24) :
    Mt (l := l) hw (ws := ws) O0 ST Y_15 jdk_42_method_59_code 3 (some .int) R_26 #[(.ref a1), (vL 0), (vN cs.length)] (Qpure (some (vN cs.length)) h0 n0) := by
  refine own_met (plainFor_of_name pn2) fun p e s m w_ meth c s₁ hx hby hml hZ hh hown hnm hret hlk X0 e0 => ?_
  have N0 := Fr.nil n0
  obtain ⟨E_a1, Fc_a1, Fv_a1, B_bA, hu_a1⟩ := id HS
  have lt_a1 := E_a1.lt
  have V_bA := B_bA.1
  have l_bA := B_bA.2
  have hN_bA : (Int32.ofNat cs.length).toNatClampNeg = (cs.map cLo).length := by rw [l_bA]; exact own_n (by omega)
  have lt_bA := V_bA.lt
  obtain ⟨_, T1, Lc1, X1, hQ1, st1⟩ := own_vc X0 hx hZ (y := Y_0) hown hml (tw hw 57 rfl) (tw hw 42 rfl) (tw hw 44 rfl) (tw hw 43 rfl) (rs_len0 hw O0 ST a1 bA kA cs HS hc) (tw hw 45 rfl) (tw hw 14 rfl) e0 E_a1 (W := 2) (Ls := (q_10 a1 cs)) (argsL := []) (rest := [(vN cs.length), (vL 0)]) (lenOf pd19 rfl) (d10 hby 3 rfl)
  obtain ⟨rfl, Nq1, e1⟩ := hQ1
  have N1 := Fr.app N0 Nq1
  obtain ⟨_, T2, Lc2, X2, hQ2, st2⟩ := own_sc X1 hx hZ (y := Y_62) hown hml (tw hw 58 rfl) (tw hw 59 rfl) (ro_ct hw O0 ST 0 cs.length cs.length (by omega) (by omega) (by omega)) (tw hw 61 rfl) (tw hw 60 rfl) e1 (W := 0) (Ls := (q_10 a1 cs)) (argsL := [(vL 0), (vN cs.length), (vN cs.length)]) (rest := []) (lenOf pd9 rfl) (d10 hby 4 rfl)
  obtain ⟨rfl, Nq2, e2⟩ := hQ2
  have N2 := Fr.app N1 Nq2
  obtain ⟨_, T3, Lc3, X3, hQ3, st3⟩ := own_vc X2 hx hZ (y := Y_2) hown hml (tw hw 66 rfl) (tw hw 67 rfl) (tw hw 69 rfl) (tw hw 68 rfl) (rs_il0 hw O0 ST a1 bA kA cs HS hc) (tw hw 70 rfl) (tw hw 14 rfl) e2 E_a1 (W := 0) (Ls := (q_10 a1 cs)) (argsL := []) (rest := []) (lenOf pd6 rfl) (d10 hby 7 rfl)
  obtain ⟨rfl, Nq3, e3⟩ := hQ3
  have N3 := Fr.app N2 Nq3
  have pf4 : ∀ target, Go p e w_ T3 m 14 (q_10 a1 cs) [(vL 1)] target → Go p e w_ s₁ m 0 (q_10 a1 cs) [] target := by
    intro target k
    refine zl X0 hx (d10 hby 0 rfl) rfl <| zl X0 hx (d10 hby 1 rfl) rfl <| za X0 hx (d10 hby 2 rfl) rfl rfl <| st1 _ <| st2 _ <| XS.pop X2.here hx rfl (d10 hby 5 rfl) rfl rfl <| za X2 hx (d10 hby 6 rfl) rfl rfl <| st3 _ ?_
    exact k
  refine own_lvI X3 hx hlk hret (d10 hby 12 rfl) (by decide) (by decide) (z := (Int32.ofNat cs.length)) (Ls := (q_10 a1 cs)) (rest := []) (fun _ k => castTop (ef_ru_put m a1 (0 : Int32) (Int32.ofNat cs.length)) ?_) ?_
  · refine pf4 _ <| zg X3 hx (d10 hby 8 rfl) ((if0 _ _).trans (feq (by decide)).1) <| zl X3 hx (d10 hby 9 rfl) rfl <| zl X3 hx (d10 hby 10 rfl) rfl <| XS.isub X3.here hx rfl (d10 hby 11 rfl) rfl ?_
    show Go p e w_ T3 m 20 (q_10 a1 cs) [(.int ((Int32.ofNat cs.length) - (0 : Int32)))] _
    rw [show ((Int32.ofNat cs.length) - (0 : Int32)) = (Int32.ofNat cs.length) from own_sub (a := cs.length) (b := 0) (Nat.zero_le _)]
    exact k
  · rw [e3]
    exact ⟨rfl, N3, rfl⟩
theorem pd33 : parseMethodDescriptor "([BII)I" = some ⟨[(.array .byte), .int, .int], some .int⟩ := by decide +kernel
theorem rs_cp1 (a1 bA : Addr) (kA : ClassId) (cs : List UInt16) (HS : Str1 Z h0 a1 bA kA cs) (hc : cs.length ≤ 24) (h1 : 1 ≤ cs.length) :
    Mt (l := l) hw (ws := ws) O0 ST Y_15 jdk_42_method_59_code 3 (some .int) R_26 #[(.ref a1), (vL 0), (vN cs.length)] (Qpure (some (vN (cpC cs cs.length 0 cs.length))) h0 n0) := by
  refine own_met (plainFor_of_name pn2) fun p e s m w_ meth c s₁ hx hby hml hZ hh hown hnm hret hlk X0 e0 => ?_
  have N0 := Fr.nil n0
  obtain ⟨E_a1, Fc_a1, Fv_a1, B_bA⟩ := id HS
  have lt_a1 := E_a1.lt
  have V_bA := B_bA.1
  have l_bA := B_bA.2
  have hN_bA : (Int32.ofNat (2 * cs.length)).toNatClampNeg = (enc1 cs).length := by rw [l_bA]; exact own_n (by omega)
  have lt_bA := V_bA.lt
  obtain ⟨_, T1, Lc1, X1, hQ1, st1⟩ := own_vc X0 hx hZ (y := Y_0) hown hml (tw hw 57 rfl) (tw hw 42 rfl) (tw hw 44 rfl) (tw hw 43 rfl) (rs_len1 hw O0 ST a1 bA kA cs HS hc) (tw hw 45 rfl) (tw hw 14 rfl) e0 E_a1 (W := 2) (Ls := (q_10 a1 cs)) (argsL := []) (rest := [(vN cs.length), (vL 0)]) (lenOf pd19 rfl) (d10 hby 3 rfl)
  obtain ⟨rfl, Nq1, e1⟩ := hQ1
  have N1 := Fr.app N0 Nq1
  obtain ⟨_, T2, Lc2, X2, hQ2, st2⟩ := own_sc X1 hx hZ (y := Y_62) hown hml (tw hw 58 rfl) (tw hw 59 rfl) (ro_ct hw O0 ST 0 cs.length cs.length (by omega) (by omega) (by omega)) (tw hw 61 rfl) (tw hw 60 rfl) e1 (W := 0) (Ls := (q_10 a1 cs)) (argsL := [(vL 0), (vN cs.length), (vN cs.length)]) (rest := []) (lenOf pd9 rfl) (d10 hby 4 rfl)
  obtain ⟨rfl, Nq2, e2⟩ := hQ2
  have N2 := Fr.app N1 Nq2
  obtain ⟨_, T3, Lc3, X3, hQ3, st3⟩ := own_vc X2 hx hZ (y := Y_2) hown hml (tw hw 66 rfl) (tw hw 67 rfl) (tw hw 69 rfl) (tw hw 68 rfl) (rs_il1 hw O0 ST a1 bA kA cs HS hc) (tw hw 70 rfl) (tw hw 14 rfl) e2 E_a1 (W := 0) (Ls := (q_10 a1 cs)) (argsL := []) (rest := []) (lenOf pd6 rfl) (d10 hby 7 rfl)
  obtain ⟨rfl, Nq3, e3⟩ := hQ3
  have N3 := Fr.app N2 Nq3
  have pf4 : ∀ target, Go p e w_ T3 m 14 (q_10 a1 cs) [(vL 0)] target → Go p e w_ s₁ m 0 (q_10 a1 cs) [] target := by
    intro target k
    refine zl X0 hx (d10 hby 0 rfl) rfl <| zl X0 hx (d10 hby 1 rfl) rfl <| za X0 hx (d10 hby 2 rfl) rfl rfl <| st1 _ <| st2 _ <| XS.pop X2.here hx rfl (d10 hby 5 rfl) rfl rfl <| za X2 hx (d10 hby 6 rfl) rfl rfl <| st3 _ ?_
    exact k
  obtain ⟨T5, X5, e5, st5⟩ := getF X3 hx hZ hown (host := "") (Or.inl (tw hw 31 rfl)) Via.refl e3 Fv_a1 (g := (mkF m 22 (q_10 a1 cs) [(.ref a1)])) rfl rfl (d10 hby 14 rfl)
  obtain ⟨_, T6, Lc6, X6, hQ6, st6⟩ := own_sc X5 hx hZ (y := Y_79) hown hml (tw hw 109 rfl) (tw hw 110 rfl) (ru_cp hw O0 ST bA kA cs B_bA hc h1) (tw hw 111 rfl) (tw hw 78 rfl) e5 (W := 0) (Ls := (q_10 a1 cs)) (argsL := [(.ref bA), (vL 0), (vN cs.length)]) (rest := []) (lenOf pd33 rfl) (d10 hby 17 rfl)
  obtain ⟨rfl, Nq6, e6⟩ := hQ6
  have N6 := Fr.app N3 Nq6
  refine own_lvI X6 hx hlk hret (d10 hby 18 rfl) (by decide) (by decide) (z := (Int32.ofNat (cpC cs cs.length 0 cs.length))) (Ls := (q_10 a1 cs)) (rest := []) (fun _ k => castTop (ef_ru_put m a1 (0 : Int32) (Int32.ofNat cs.length)) ?_) ?_
  · refine pf4 _ <| zf X3 hx 14 21 (d10 hby 8 rfl) ((if0 _ _).trans (teq (by decide)).1) <| za X3 hx (d10 hby 13 rfl) rfl rfl <| st5 _ <| zl X5 hx (d10 hby 15 rfl) rfl <| zl X5 hx (d10 hby 16 rfl) rfl <| st6 _ ?_
    exact k
  · rw [e6]
    exact ⟨rfl, N6, rfl⟩
theorem rs_len (a1 bA : Addr) (kA : ClassId) (cs : List UInt16) (HS : Strx Z h0 a1 bA kA cs) (hc : cs.length ≤ 24) :
    Mt (l := l) hw (ws := ws) O0 ST Y_0 jdk_42_method_54_code 1 (some .int) R_8 #[(.ref a1)] (Qpure (some (vN cs.length)) h0 n0) := by
  rcases HS with HS | HS
  · exact rs_len0 hw O0 ST a1 bA kA cs HS hc
  · exact rs_len1 hw O0 ST a1 bA kA cs HS.1 hc
theorem rs_ch (a1 bA : Addr) (kA : ClassId) (cs : List UInt16) (i1 : Nat) (HS : Strx Z h0 a1 bA kA cs) (hc : cs.length ≤ 24) (hi : i1 < cs.length) :
    Mt (l := l) hw (ws := ws) O0 ST Y_26 jdk_42_method_56_code 2 (some .char) R_23 #[(.ref a1), (vN i1)] (Qpure (some (.int (cv (cs.getD i1 0)))) h0 n0) := by
  rcases HS with HS | HS
  · exact rs_ch0 hw O0 ST a1 bA kA cs i1 HS hc hi
  · exact rs_ch1 hw O0 ST a1 bA kA cs i1 HS.1 hc hi
theorem d29 : Dl cb61 [(34, .iload 4, 2), (36, .iload_n 3, 1), (37, .if_icmp .ge 55, 3), (40, .iload 5, 2), (42, .iload_n 2, 1), (43, .if_icmp .ge 49, 3), (46, .aload_n 0, 1), (47, .iload 4, 2), (49, .iinc 4 1, 3), (52, .invokeinterface 86 2, 5), (57, .invokestatic 78, 3), (60, .ifCond .eq 26, 3), (86, .iinc 5 1, 3), (89, .goto (-55), 3), (63, .iload 4, 2), (65, .iload_n 3, 1), (66, .if_icmp .ge 20, 3), (69, .aload_n 0, 1), (70, .iload 4, 2), (72, .invokeinterface 86 2, 5), (77, .invokestatic 82, 3), (80, .ifCond .eq 6, 3), (83, .iinc 4 1, 3), (0, .aload_n 0, 1), (1, .invokeinterface 92 1, 5), (6, .istore_n 3, 1), (7, .iload_n 1, 1), (8, .ifCond .lt 8, 3), (11, .iload_n 1, 1), (12, .iload_n 3, 1), (13, .if_icmp .le 11, 3), (24, .iload_n 1, 1), (25, .istore 4, 2), (27, .iload_n 2, 1), (28, .ifCond .lt 81, 3), (31, .iconst 0, 1), (32, .istore 5, 2), (92, .iload 5, 2), (94, .iload_n 2, 1), (95, .if_icmp .ge 11, 3), (106, .goto 76, 3), (182, .iload 4, 2), (184, .ireturn, 1)] := dlk (by decide +kernel)
theorem pd34 : parseMethodDescriptor "(I)C" = some ⟨[.int], some .char⟩ := by decide +kernel
theorem pc_of {p : Program} {l : Launch} {e : Env} {s : State} {m : MethodId} {args : Array Value} {w_ : List Frame} {meth : Method} {c : Code} {T0 : State} {locs : List Loc} {Z : State} {a0 : Array Value} {n0 : Nat} {h0 : Heap} (hw : Hw a0 Z) (X0 : Stand p l e R_22 s m args w_ meth c T0 locs 0 0) (hx : p.tables.exec = Jvm.exec) (hby : c.code = jdk_89_method_36_code) (hml : c.maxLocals = 6) (hZ : Z.Warmed39 s.vm) (hown : s.vm.findClass "java/lang/Character" = some m.cls) (e0 : T0.heap = h0) (N0 : Fr n0 locs) (O0 : Old Z n0 h0) (G1 : Int32) (Fm : Value) (a1 : Addr) (bA : Addr) (kA : ClassId) (cs : List UInt16) (kk : Nat) (j : Nat) (i : Nat) (ST : Stc Z G1 Fm) (HS : Strx Z h0 a1 bA kA cs) (hc : cs.length ≤ 24) (hk4 : kk ≤ 8) (hj : j < cs.length) (hi : i < kk) :
    ∃ (T' : State) (L' : List Loc), Stand p l e R_22 s m args w_ meth c T' L' 0 0 ∧ T'.heap = h0 ∧ Fr n0 L' ∧ ∀ target, Go p e w_ T' m 34 #[rv a1, iv 0, nv kk, nv cs.length, nv (j + 1 + prd cs cs.length j), nv (i + 1)] [] target → Go p e w_ T0 m 34 (q_91 a1 kk cs j i) [] target := by
  have E_a1 := HS.exa
  have pf1 : ∀ target, Go p e w_ T0 m 43 (q_91 a1 kk cs j i) [(vN kk), (vN i)] target → Go p e w_ T0 m 34 (q_91 a1 kk cs j i) [] target := by
    intro target k
    refine zm X0 hx (d29 hby 0 rfl) rfl <| zl X0 hx (d29 hby 1 rfl) rfl <| zn X0 hx (d29 hby 2 rfl) (tlt ((own_lt (a := j) (b := cs.length) (by omega) (by omega)).mpr (by omega))).2.1 <| zm X0 hx (d29 hby 3 rfl) rfl <| zl X0 hx (d29 hby 4 rfl) rfl ?_
    exact k
  obtain ⟨cq2, kq2, qa2, qb2, qc2⟩ := isOf hZ e0 E_a1
  obtain ⟨_, _, ⟨T2, L2, k2, n2⟩, -, X2, ⟨Lc2, hQ2, l2, y2, z2⟩, st2⟩ := X0.interfaceBack hx (xi := Y_80) (y := Y_26) hown (mvT hZ (tw hw 142 rfl)) (mvT hZ (tw hw 143 rfl)) (mvT hZ (tw hw 144 rfl)) (mvT hZ (tw hw 145 rfl)) (mvT hZ (tw hw 146 rfl)) (mvT hZ (tw hw 147 rfl)) (mvT hZ (tw hw 148 rfl)) (mvT hZ (tw hw 141 rfl)) (by decide) (backOf (W := 0) (rs_ch hw O0 ST a1 bA kA cs j HS hc (by omega)) hZ (tw hw 149 rfl) (tw hw 14 rfl) (by decide) (by decide)) qa2 qb2 qc2 (g := (mkF m 52 (q_40 a1 kk cs j i) [(vN j), (.ref a1)])) rfl (by rw [hml]; rfl) (Steps.refl _) (argsL := [(vN j)]) (rest := []) (lenOf pd34 rfl) rfl (by show 2 * 0 + _ ≤ _; exact Nat.le_of_eq rfl) (d29 hby 9 rfl) (fun _ _ => ⟨rfl, e0, (by decide : 0 + 0 ≤ _), (by decide : 0 + 0 ≤ _)⟩)
  dsimp only [Pt.U, Pt.locs, Pt.cells, Pt.slots] at X2 l2 y2 z2 st2 hQ2
  subst l2 y2 z2
  obtain ⟨rfl, Nq2, e2⟩ := hQ2
  have N2 := Fr.app N0 Nq2
  obtain ⟨_, T3, Lc3, X3, hQ3, st3⟩ := own_sc X2 hx hZ (y := Y_58) hown hml (tw hw 166 rfl) (tw hw 116 rfl) (rc_hi hw O0 ST (cs.getD j 0) ) (tw hw 118 rfl) (tw hw 117 rfl) e2 (W := 0) (Ls := (q_40 a1 kk cs j i)) (argsL := [(.int (cv (cs.getD j 0)))]) (rest := []) (lenOf pd31 rfl) (d29 hby 10 rfl)
  obtain ⟨rfl, Nq3, e3⟩ := hQ3
  have N3 := Fr.app N2 Nq3
  have pf4 : ∀ target, Go p e w_ T3 m 60 (q_40 a1 kk cs j i) [(.int (bI (hiS (cs.getD j 0))))] target → Go p e w_ T0 m 43 (q_91 a1 kk cs j i) [(vN kk), (vN i)] target := by
    intro target k
    refine zn X0 hx (d29 hby 5 rfl) (tlt ((own_lt (a := i) (b := kk) (by omega) (by omega)).mpr (by omega))).2.1 <| za X0 hx (d29 hby 6 rfl) rfl rfl <| zm X0 hx (d29 hby 7 rfl) rfl <| XS.iinc X0.here hx rfl (d29 hby 8 rfl) rfl (l' := #[rv a1, iv 0, nv kk, nv cs.length, iv ((Int32.ofNat j) + (1 : Int32)), nv i]) rfl ?_
    show Go p e w_ T0 m 52 #[.val (.ref a1), .val (.int (0 : Int32)), .val (.int (Int32.ofNat kk)), .val (.int (Int32.ofNat cs.length)), .val (.int ((Int32.ofNat j) + (1 : Int32))), .val (.int (Int32.ofNat i))] [(.int (Int32.ofNat j)), (.ref a1)] _
    rw [show ((Int32.ofNat j) + (1 : Int32)) = (Int32.ofNat (j + 1)) from own_add j 1]
    refine st2.trans <| st3 _ ?_
    exact k
  by_cases hc60 : (bI (hiS (cs.getD j 0))) = (0 : Int32)
  · rw [show prd cs cs.length j = _ from own_pr0 (Or.inr (Or.inl hc60))]
    refine ⟨T3, _, X3, e3, N3, ?_⟩
    intro target k
    refine pf1 _ <| pf4 _ <| zf X3 hx 60 86 (d29 hby 11 rfl) ((if0 _ _).trans (teq hc60).1) <| XS.iinc X3.here hx rfl (d29 hby 12 rfl) rfl (l' := #[rv a1, iv 0, nv kk, nv cs.length, nv (j + 1), iv ((Int32.ofNat i) + (1 : Int32))]) rfl ?_
    show Go p e w_ T3 m 89 #[.val (.ref a1), .val (.int (0 : Int32)), .val (.int (Int32.ofNat kk)), .val (.int (Int32.ofNat cs.length)), .val (.int (Int32.ofNat (j + 1))), .val (.int ((Int32.ofNat i) + (1 : Int32)))] [] _
    rw [show ((Int32.ofNat i) + (1 : Int32)) = (Int32.ofNat (i + 1)) from own_add i 1]
    refine zo X3 hx 89 34 (d29 hby 13 rfl) ?_
    exact k
  · by_cases hc66 : (Int32.ofNat (j + 1)) < (Int32.ofNat cs.length)
    · have hlt : j + 1 < cs.length := (own_lt (a := j + 1) (b := cs.length) (by omega) (by omega)).mp hc66
      obtain ⟨cq5, kq5, qa5, qb5, qc5⟩ := isOf hZ e3 E_a1
      obtain ⟨_, _, ⟨T5, L5, k5, n5⟩, -, X5, ⟨Lc5, hQ5, l5, y5, z5⟩, st5⟩ := X3.interfaceBack hx (xi := Y_80) (y := Y_26) hown (mvT hZ (tw hw 142 rfl)) (mvT hZ (tw hw 143 rfl)) (mvT hZ (tw hw 144 rfl)) (mvT hZ (tw hw 145 rfl)) (mvT hZ (tw hw 146 rfl)) (mvT hZ (tw hw 147 rfl)) (mvT hZ (tw hw 148 rfl)) (mvT hZ (tw hw 141 rfl)) (by decide) (backOf (W := 0) (rs_ch hw O0 ST a1 bA kA cs (j + 1) HS hc (by omega)) hZ (tw hw 149 rfl) (tw hw 14 rfl) (by decide) (by decide)) qa5 qb5 qc5 (g := (mkF m 72 (q_40 a1 kk cs j i) [(vN (j + 1)), (.ref a1)])) rfl (by rw [hml]; rfl) (Steps.refl _) (argsL := [(vN (j + 1))]) (rest := []) (lenOf pd34 rfl) rfl (by show 2 * 0 + _ ≤ _; exact Nat.le_of_eq rfl) (d29 hby 19 rfl) (fun _ _ => ⟨rfl, e3, (by decide : 0 + 0 ≤ _), (by decide : 0 + 0 ≤ _)⟩)
      dsimp only [Pt.U, Pt.locs, Pt.cells, Pt.slots] at X5 l5 y5 z5 st5 hQ5
      subst l5 y5 z5
      obtain ⟨rfl, Nq5, e5⟩ := hQ5
      have N5 := Fr.app N3 Nq5
      obtain ⟨_, T6, Lc6, X6, hQ6, st6⟩ := own_sc X5 hx hZ (y := Y_59) hown hml (tw hw 390 rfl) (tw hw 381 rfl) (rc_lo hw O0 ST (cs.getD (j + 1) 0) ) (tw hw 382 rfl) (tw hw 117 rfl) e5 (W := 0) (Ls := (q_40 a1 kk cs j i)) (argsL := [(.int (cv (cs.getD (j + 1) 0)))]) (rest := []) (lenOf pd31 rfl) (d29 hby 20 rfl)
      obtain ⟨rfl, Nq6, e6⟩ := hQ6
      have N6 := Fr.app N5 Nq6
      have pf7 : ∀ target, Go p e w_ T6 m 80 (q_40 a1 kk cs j i) [(.int (bI (loS (cs.getD (j + 1) 0))))] target → Go p e w_ T3 m 60 (q_40 a1 kk cs j i) [(.int (bI (hiS (cs.getD j 0))))] target := by
        intro target k
        refine zg X3 hx (d29 hby 11 rfl) ((if0 _ _).trans (feq hc60).1) <| zm X3 hx (d29 hby 14 rfl) rfl <| zl X3 hx (d29 hby 15 rfl) rfl <| zn X3 hx (d29 hby 16 rfl) (tlt hc66).2.1 <| za X3 hx (d29 hby 17 rfl) rfl rfl <| zm X3 hx (d29 hby 18 rfl) rfl <| st5.trans <| st6 _ ?_
        exact k
      by_cases hc80 : (bI (loS (cs.getD (j + 1) 0))) = (0 : Int32)
      · rw [show prd cs cs.length j = _ from own_pr0 (Or.inr (Or.inr hc80))]
        refine ⟨T6, _, X6, e6, N6, ?_⟩
        intro target k
        refine pf1 _ <| pf4 _ <| pf7 _ <| zf X6 hx 80 86 (d29 hby 21 rfl) ((if0 _ _).trans (teq hc80).1) <| XS.iinc X6.here hx rfl (d29 hby 12 rfl) rfl (l' := #[rv a1, iv 0, nv kk, nv cs.length, nv (j + 1), iv ((Int32.ofNat i) + (1 : Int32))]) rfl ?_
        show Go p e w_ T6 m 89 #[.val (.ref a1), .val (.int (0 : Int32)), .val (.int (Int32.ofNat kk)), .val (.int (Int32.ofNat cs.length)), .val (.int (Int32.ofNat (j + 1))), .val (.int ((Int32.ofNat i) + (1 : Int32)))] [] _
        rw [show ((Int32.ofNat i) + (1 : Int32)) = (Int32.ofNat (i + 1)) from own_add i 1]
        refine zo X6 hx 89 34 (d29 hby 13 rfl) ?_
        exact k
      · rw [show prd cs cs.length j = _ from own_pr1 hlt hc60 hc80]
        refine ⟨T6, _, X6, e6, N6, ?_⟩
        intro target k
        refine pf1 _ <| pf4 _ <| pf7 _ <| zg X6 hx (d29 hby 21 rfl) ((if0 _ _).trans (feq hc80).1) <| XS.iinc X6.here hx rfl (d29 hby 22 rfl) rfl (l' := #[rv a1, iv 0, nv kk, nv cs.length, iv ((Int32.ofNat (j + 1)) + (1 : Int32)), nv i]) rfl ?_
        show Go p e w_ T6 m 86 #[.val (.ref a1), .val (.int (0 : Int32)), .val (.int (Int32.ofNat kk)), .val (.int (Int32.ofNat cs.length)), .val (.int ((Int32.ofNat (j + 1)) + (1 : Int32))), .val (.int (Int32.ofNat i))] [] _
        rw [show ((Int32.ofNat (j + 1)) + (1 : Int32)) = (Int32.ofNat (j + 1 + 1)) from own_add (j + 1) 1]
        refine XS.iinc X6.here hx rfl (d29 hby 12 rfl) rfl (l' := #[rv a1, iv 0, nv kk, nv cs.length, nv (j + 1 + 1), iv ((Int32.ofNat i) + (1 : Int32))]) rfl ?_
        show Go p e w_ T6 m 89 #[.val (.ref a1), .val (.int (0 : Int32)), .val (.int (Int32.ofNat kk)), .val (.int (Int32.ofNat cs.length)), .val (.int (Int32.ofNat (j + 1 + 1))), .val (.int ((Int32.ofNat i) + (1 : Int32)))] [] _
        rw [show ((Int32.ofNat i) + (1 : Int32)) = (Int32.ofNat (i + 1)) from own_add i 1]
        refine zo X6 hx 89 34 (d29 hby 13 rfl) ?_
        exact k
    · rw [show prd cs cs.length j = _ from own_pr0 (Or.inl (fun q => hc66 ((own_lt (a := j + 1) (b := cs.length) (by omega) (by omega)).mpr q)))]
      refine ⟨T3, _, X3, e3, N3, ?_⟩
      intro target k
      refine pf1 _ <| pf4 _ <| zg X3 hx (d29 hby 11 rfl) ((if0 _ _).trans (feq hc60).1) <| zm X3 hx (d29 hby 14 rfl) rfl <| zl X3 hx (d29 hby 15 rfl) rfl <| zy X3 hx 66 86 (d29 hby 16 rfl) (flt hc66).2.1 <| XS.iinc X3.here hx rfl (d29 hby 12 rfl) rfl (l' := #[rv a1, iv 0, nv kk, nv cs.length, nv (j + 1), iv ((Int32.ofNat i) + (1 : Int32))]) rfl ?_
      show Go p e w_ T3 m 89 #[.val (.ref a1), .val (.int (0 : Int32)), .val (.int (Int32.ofNat kk)), .val (.int (Int32.ofNat cs.length)), .val (.int (Int32.ofNat (j + 1))), .val (.int ((Int32.ofNat i) + (1 : Int32)))] [] _
      rw [show ((Int32.ofNat i) + (1 : Int32)) = (Int32.ofNat (i + 1)) from own_add i 1]
      refine zo X3 hx 89 34 (d29 hby 13 rfl) ?_
      exact k
theorem lc_of {p : Program} {l : Launch} {e : Env} {s : State} {m : MethodId} {args : Array Value} {w_ : List Frame} {meth : Method} {c : Code} {Z : State} {a0 : Array Value} {n0 : Nat} {h0 : Heap} (hw : Hw a0 Z) (hx : p.tables.exec = Jvm.exec) (hby : c.code = jdk_89_method_36_code) (hml : c.maxLocals = 6) (hZ : Z.Warmed39 s.vm) (hown : s.vm.findClass "java/lang/Character" = some m.cls) (O0 : Old Z n0 h0) (G1 : Int32) (Fm : Value) (ST : Stc Z G1 Fm) {a1 bA : Addr} {kA : ClassId} {cs : List UInt16} {kk : Nat} (HS : Strx Z h0 a1 bA kA cs) (hc : cs.length ≤ 24) (hk4 : kk ≤ 8) :
    ∀ (f j i : Nat) (T0 : State) (locs : List Loc) (X0 : Stand p l e R_22 s m args w_ meth c T0 locs 0 0) (e0 : T0.heap = h0) (N0 : Fr n0 locs) (hf : i + f = kk) (ho : ∀ f', f' < f → opS cs f' j < cs.length),
      ∃ (T' : State) (L' : List Loc), Stand p l e R_22 s m args w_ meth c T' L' 0 0 ∧ T'.heap = h0 ∧ Fr n0 L' ∧ ∀ target, Go p e w_ T' m 34 #[rv a1, iv 0, nv kk, nv cs.length, nv (opS cs f j), nv kk] [] target → Go p e w_ T0 m 34 (q_91 a1 kk cs j i) [] target := by
  intro f
  induction f with
  | zero =>
    intro j i T0 locs X0 e0 N0 hf ho
    have q : i = kk := by omega
    subst q
    exact ⟨T0, locs, X0, e0, N0, fun _ k => k⟩
  | succ f ih =>
    intro j i T0 locs X0 e0 N0 hf ho
    obtain ⟨T1, L1, X1, e1, N1, st1⟩ := pc_of hw X0 hx hby hml hZ hown e0 N0 O0 G1 Fm a1 bA kA cs kk j i ST HS hc hk4 (ho 0 (by omega)) (by omega)
    obtain ⟨T2, L2, X2, e2, N2, st2⟩ := ih (j + 1 + prd cs cs.length j) (i + 1) T1 L1 X1 e1 N1 (by omega) (fun f' h => ho (f' + 1) (by omega))
    exact ⟨T2, L2, X2, e2, N2, fun target k => st1 target (st2 target k)⟩
theorem rc_of (a1 bA : Addr) (kA : ClassId) (cs : List UInt16) (kk : Nat) (HS : Strx Z h0 a1 bA kA cs) (hc : cs.length ≤ 24) (hk4 : kk ≤ 8) (ho : ∀ f', f' < kk → opS cs f' 0 < cs.length) (hle : (opS cs kk 0) ≤ cs.length) :
    Mt (l := l) hw (ws := ws) O0 ST Y_81 jdk_89_method_36_code 6 (some .int) R_22 #[(.ref a1), (vL 0), (vN kk)] (Qpure (some (vN (opS cs kk 0))) h0 n0) := by
  refine own_met (plainFor_of_name pn8) fun p e s m w_ meth c s₁ hx hby hml hZ hh hown hnm hret hlk X0 e0 => ?_
  have N0 := Fr.nil n0
  have E_a1 := HS.exa
  obtain ⟨cq1, kq1, qa1, qb1, qc1⟩ := isOf hZ e0 E_a1
  obtain ⟨_, _, ⟨T1, L1, k1, n1⟩, -, X1, ⟨Lc1, hQ1, l1, y1, z1⟩, st1⟩ := X0.interfaceBack hx (xi := (⟨"java/lang/CharSequence", "length", "()I"⟩ : MethodName)) (y := Y_0) hown (mvT hZ (tw hw 135 rfl)) (mvT hZ (tw hw 136 rfl)) (mvT hZ (tw hw 137 rfl)) (mvT hZ (tw hw 138 rfl)) (mvT hZ (tw hw 43 rfl)) (mvT hZ (tw hw 139 rfl)) (mvT hZ (tw hw 140 rfl)) (mvT hZ (tw hw 141 rfl)) (by decide) (backOf (W := 0) (rs_len hw O0 ST a1 bA kA cs HS hc) hZ (tw hw 45 rfl) (tw hw 14 rfl) (by decide) (by decide)) qa1 qb1 qc1 (g := (mkF m 1 (q_47 a1 kk) [(.ref a1)])) rfl (by rw [hml]; rfl) (Steps.refl _) (argsL := []) (rest := []) (lenOf pd19 rfl) rfl (by show 2 * 0 + _ ≤ _; exact Nat.le_of_eq rfl) (d29 hby 24 rfl) (fun _ _ => ⟨rfl, e0, (by decide : 0 + 0 ≤ _), (by decide : 0 + 0 ≤ _)⟩)
  dsimp only [Pt.U, Pt.locs, Pt.cells, Pt.slots] at X1 l1 y1 z1 st1 hQ1
  subst l1 y1 z1
  obtain ⟨rfl, Nq1, e1⟩ := hQ1
  have N1 := Fr.app N0 Nq1
  have pf2 : ∀ target, Go p e w_ T1 m 13 (q_121 a1 kk cs) [(vN cs.length), (vL 0)] target → Go p e w_ s₁ m 0 (q_47 a1 kk) [] target := by
    intro target k
    refine za X0 hx (d29 hby 23 rfl) rfl rfl <| st1.trans <| zs X1 hx (d29 hby 25 rfl) (Ls' := (q_121 a1 kk cs)) rfl <| zl X1 hx (d29 hby 26 rfl) rfl <| zg X1 hx (d29 hby 27 rfl) ((if0 _ _).trans (flt (by decide)).1) <| zl X1 hx (d29 hby 28 rfl) rfl <| zl X1 hx (d29 hby 29 rfl) rfl ?_
    exact k
  obtain ⟨T3, L3, X3, e3, N3, st3⟩ := lc_of hw hx hby hml hZ hown O0 G1 Fm ST HS hc hk4 kk 0 0 T1 _ X1 e1 N1 (by omega) ho
  have pf4 : ∀ target, Go p e w_ T3 m 37 (q_68 a1 kk cs) [(vN cs.length), (vN (opS cs kk 0))] target → Go p e w_ T1 m 13 (q_121 a1 kk cs) [(vN cs.length), (vL 0)] target := by
    intro target k
    refine zy X1 hx 13 24 (d29 hby 30 rfl) (flt (fun q => absurd ((own_lt (a := cs.length) (b := 0) (by omega) (by omega)).mp q) (by omega))).2.2.2 <| zl X1 hx (d29 hby 31 rfl) rfl <| zt X1 hx (d29 hby 32 rfl) (Ls' := #[rv a1, iv 0, nv kk, nv cs.length, iv 0, .unset]) rfl <| zl X1 hx (d29 hby 33 rfl) rfl <| zg X1 hx (d29 hby 34 rfl) ((if0 _ _).trans (flt (own_nn (n := kk) (by omega))).1) <| zc X1 hx (d29 hby 35 rfl) <| zt X1 hx (d29 hby 36 rfl) (Ls' := (q_139 a1 kk cs)) rfl <| st3 _ <| zm X3 hx (d29 hby 0 rfl) rfl <| zl X3 hx (d29 hby 1 rfl) rfl ?_
    exact k
  by_cases hc37 : (Int32.ofNat (opS cs kk 0)) < (Int32.ofNat cs.length)
  · have pf5 : ∀ target, Go p e w_ T3 m 95 (q_68 a1 kk cs) [(vN kk), (vN kk)] target → Go p e w_ T3 m 37 (q_68 a1 kk cs) [(vN cs.length), (vN (opS cs kk 0))] target := by
      intro target k
      refine zn X3 hx (d29 hby 2 rfl) (tlt hc37).2.1 <| zm X3 hx (d29 hby 3 rfl) rfl <| zl X3 hx (d29 hby 4 rfl) rfl <| zy X3 hx 43 92 (d29 hby 5 rfl) (flt (fun q => absurd ((own_lt (a := kk) (b := kk) (by omega) (by omega)).mp q) (by omega))).2.1 <| zm X3 hx (d29 hby 37 rfl) rfl <| zl X3 hx (d29 hby 38 rfl) rfl ?_
      exact k
    refine own_lvI X3 hx hlk hret (d29 hby 42 rfl) (by decide) (by decide) (z := (Int32.ofNat (opS cs kk 0))) (Ls := (q_68 a1 kk cs)) (rest := []) (fun _ k => castTop (ef_ru_cA m a1 (0 : Int32) (Int32.ofNat kk)) ?_) ?_
    · refine pf2 _ <| pf4 _ <| pf5 _ <| zy X3 hx 95 106 (d29 hby 39 rfl) (flt (fun q => absurd ((own_lt (a := kk) (b := kk) (by omega) (by omega)).mp q) (by omega))).2.1 <| zo X3 hx 106 182 (d29 hby 40 rfl) <| zm X3 hx (d29 hby 41 rfl) rfl ?_
      exact k
    · rw [e3]
      exact ⟨rfl, N3, rfl⟩
  · refine own_lvI X3 hx hlk hret (d29 hby 42 rfl) (by decide) (by decide) (z := (Int32.ofNat (opS cs kk 0))) (Ls := (q_68 a1 kk cs)) (rest := []) (fun _ k => castTop (ef_ru_cA m a1 (0 : Int32) (Int32.ofNat kk)) ?_) ?_
    · refine pf2 _ <| pf4 _ <| zy X3 hx 37 92 (d29 hby 2 rfl) (flt hc37).2.1 <| zm X3 hx (d29 hby 37 rfl) rfl <| zl X3 hx (d29 hby 38 rfl) rfl <| zy X3 hx 95 106 (d29 hby 39 rfl) (flt (fun q => absurd ((own_lt (a := kk) (b := kk) (by omega) (by omega)).mp q) (by omega))).2.1 <| zo X3 hx 106 182 (d29 hby 40 rfl) <| zm X3 hx (d29 hby 41 rfl) rfl ?_
      exact k
    · rw [e3]
      exact ⟨rfl, N3, rfl⟩
theorem d28 : Dl cb62 [(0, .aload_n 0, 1), (1, .iload_n 1, 1), (2, .iload_n 2, 1), (3, .invokestatic 517, 3), (6, .ireturn, 1)] := dlk (by decide +kernel)
theorem pd35 : parseMethodDescriptor "(Ljava/lang/CharSequence;II)I" = some ⟨[(.object "java/lang/CharSequence"), .int, .int], some .int⟩ := by decide +kernel
theorem rs_of (a1 bA : Addr) (kA : ClassId) (cs : List UInt16) (kk : Nat) (HS : Strx Z h0 a1 bA kA cs) (hc : cs.length ≤ 24) (hk4 : kk ≤ 8) (ho : ∀ f', f' < kk → opS cs f' 0 < cs.length) (hle : (opS cs kk 0) ≤ cs.length) :
    Mt (l := l) hw (ws := ws) O0 ST Y_31 jdk_42_method_60_code 3 (some .int) R_50 #[(.ref a1), (vL 0), (vN kk)] (Qpure (some (vN (opS cs kk 0))) h0 n0) := by
  refine own_met (plainFor_of_name pn2) fun p e s m w_ meth c s₁ hx hby hml hZ hh hown hnm hret hlk X0 e0 => ?_
  have N0 := Fr.nil n0
  obtain ⟨_, T1, Lc1, X1, hQ1, st1⟩ := own_sc X0 hx hZ (y := Y_81) hown hml (tw hw 132 rfl) (tw hw 133 rfl) (rc_of hw O0 ST a1 bA kA cs kk HS hc hk4 ho hle) (tw hw 134 rfl) (tw hw 117 rfl) e0 (W := 0) (Ls := (q_23 a1 kk)) (argsL := [(.ref a1), (vL 0), (vN kk)]) (rest := []) (lenOf pd35 rfl) (d28 hby 3 rfl)
  obtain ⟨rfl, Nq1, e1⟩ := hQ1
  have N1 := Fr.app N0 Nq1
  refine own_lvI X1 hx hlk hret (d28 hby 4 rfl) (by decide) (by decide) (z := (Int32.ofNat (opS cs kk 0))) (Ls := (q_23 a1 kk)) (rest := []) (fun _ k => castTop (ef_ru_put m a1 (0 : Int32) (Int32.ofNat kk)) ?_) ?_
  · refine za X0 hx (d28 hby 0 rfl) rfl rfl <| zl X0 hx (d28 hby 1 rfl) rfl <| zl X0 hx (d28 hby 2 rfl) rfl <| st1 _ ?_
    exact k
  · rw [e1]
    exact ⟨rfl, N1, rfl⟩
theorem d40 : Dl cb63 [(10, .iload 5, 2), (12, .iload 4, 2), (14, .if_icmp .ge 39, 3), (17, .aload_n 0, 1), (18, .iload_n 1, 1), (19, .invokestatic 71, 3), (22, .istore 6, 2), (24, .iload 6, 2), (26, .sipush 255, 3), (29, .if_icmp .le 6, 3), (35, .aload_n 2, 1), (36, .iload_n 3, 1), (37, .iload 6, 2), (39, .i2b, 1), (40, .bastore, 1), (41, .iinc 1 1, 3), (44, .iinc 3 1, 3), (47, .iinc 5 1, 3), (50, .goto (-40), 3), (0, .iload_n 1, 1), (1, .iload 4, 2), (3, .aload_n 0, 1), (4, .invokestatic 173, 3), (7, .iconst 0, 1), (8, .istore 5, 2), (53, .iload 4, 2), (55, .ireturn, 1), (32, .iload 5, 2), (34, .ireturn, 1)] := dlk (by decide +kernel)
theorem pi_cb {p : Program} {l : Launch} {e : Env} {s : State} {m : MethodId} {args : Array Value} {w_ : List Frame} {meth : Method} {c : Code} {T0 : State} {locs : List Loc} {Z : State} {a0 : Array Value} {n0 : Nat} {h0 : Heap} (hw : Hw a0 Z) (X0 : Stand p l e R_12 s m args w_ meth c T0 locs 0 0) (hx : p.tables.exec = Jvm.exec) (hby : c.code = jdk_52_method_22_code) (hml : c.maxLocals = 7) (hZ : Z.Warmed39 s.vm) (hown : s.vm.findClass "java/lang/StringUTF16" = some m.cls) (e0 : T0.heap = h0) (N0 : Fr n0 locs) (O0 : Old Z n0 h0) (G1 : Int32) (Fm : Value) (a1 : Addr) (kA : ClassId) (cs : List UInt16) (a2 : Addr) (kD : ClassId) (ds : List Int32) (nx : Nat) (j : Nat) (s6 : Slot) (ST : Stc Z G1 Fm) (B1 : Bar Z h0 a1 kA (2 * cs.length) (enc1 cs)) (B2 : Bar Z h0 a2 kD nx ds) (hc : cs.length ≤ 24) (hnx : nx ≤ cs.length) (hne : a1 ≠ a2) (g_a2 : n0 ≤ a2) (hs6 : One s6) (hlt : j < nx) (hu : ¬ (255 : Int32) < (cv (cs.getD j 0))) :
    ∃ T' h' L', Stand p l e R_12 s m args w_ meth c T' L' 0 0 ∧ T'.heap = h' ∧ Fr n0 L' ∧ Old Z n0 h' ∧ Keep h0 h' [a2] ∧ Bar Z h' a2 kD nx (ds.set j (cLo (cs.getD j 0))) ∧ ∀ target, Go p e w_ T' m 10 #[rv a1, nv (j + 1), rv a2, nv (j + 1), nv nx, nv (j + 1), (iv (cv (cs.getD j 0)))] [] target → Go p e w_ T0 m 10 (q_92 a1 j a2 nx s6) [] target := by
  have V_a1 := B1.1
  have l_a1 := B1.2
  have hN_a1 : (Int32.ofNat (2 * cs.length)).toNatClampNeg = (enc1 cs).length := by rw [l_a1]; exact own_n (by omega)
  have lt_a1 := V_a1.lt
  have V_a2 := B2.1
  have l_a2 := B2.2
  have hN_a2 : (Int32.ofNat nx).toNatClampNeg = ds.length := by rw [l_a2]; exact own_n (by omega)
  have lt_a2 := V_a2.lt
  obtain ⟨_, T1, Lc1, X1, hQ1, st1⟩ := own_sc X0 hx hZ (y := Y_9) hown hml (tw hw 99 rfl) (tw hw 100 rfl) (ru_get hw O0 ST a1 kA (2 * cs.length) (enc1 cs) j (cs.getD j 0) ⟨V_a1, l_a1⟩ (by omega) (by omega) (enc1_get cs j (by omega)).1 (enc1_get cs j (by omega)).2) (tw hw 101 rfl) (tw hw 78 rfl) e0 (W := 0) (Ls := (q_92 a1 j a2 nx s6)) (argsL := [(.ref a1), (vN j)]) (rest := []) (lenOf pd4 rfl) (d40 hby 5 rfl)
  obtain ⟨rfl, Nq1, e1⟩ := hQ1
  have N1 := Fr.app N0 Nq1
  have pf2 : ∀ target, Go p e w_ T1 m 29 (q_61 a1 j a2 nx cs) [(vL 255), (.int (cv (cs.getD j 0)))] target → Go p e w_ T0 m 10 (q_92 a1 j a2 nx s6) [] target := by
    intro target k
    refine zm X0 hx (d40 hby 0 rfl) rfl <| zm X0 hx (d40 hby 1 rfl) rfl <| zn X0 hx (d40 hby 2 rfl) (tlt ((own_lt (a := j) (b := nx) (by omega) (by omega)).mpr (by omega))).2.1 <| za X0 hx (d40 hby 3 rfl) rfl rfl <| zl X0 hx (d40 hby 4 rfl) rfl <| st1 _ <| XS.istoreS X1.here hx rfl (d40 hby 6 rfl) rfl rfl hs6 <| zm X1 hx (d40 hby 7 rfl) rfl <| XS.sipush X1.here hx rfl (d40 hby 8 rfl) ?_
    exact k
  obtain ⟨cl3, Ar3, q3, Sz3, Nn3, Ha3, Gf3⟩ := id V_a2
  have hin3 : ¬ ((Int32.ofNat j) < 0 ∨ cl3.slots.size ≤ ((Int32.ofNat j)).toNatClampNeg) := own_inb (i := j) Sz3 hN_a2 (own_nn (n := j) (by omega)) (own_n (n := j) (by omega)) (by omega)
  obtain ⟨T4, h4, X4, e4, W4, st4⟩ := stB X1 hx hZ e1 Ar3 (j := (Int32.ofNat j)) hin3 (g := (mkF m 40 (q_61 a1 j a2 nx cs) [(.int (cLo (cs.getD j 0))), (vN j), (.ref a2)])) rfl rfl (d40 hby 14 rfl)
  have Va4 := Arv.set Ar3 q3 Sz3 Nn3 Ha3 Gf3 (fits_nar_byte _) W4 j (own_n (n := j) (by omega)) (by rw [List.length_map]; exact (by omega))
  have Vb4 : Arv Z h4 a2 kD .byte (Int32.ofNat nx) ((ds.set j (cLo (cs.getD j 0))).map Value.int) (vL 0) := by rw [List.map_set, ← (show (cLo (cs.getD j 0)).toInt8.toInt32 = (cLo (cs.getD j 0)) from own_lo8 _)]; exact Va4
  have hN4 : ((Int32.ofNat nx)).toNatClampNeg = (ds.set j (cLo (cs.getD j 0))).length := by rw [List.length_set]; exact hN_a2
  have O5 := O0.wr W4 g_a2
  have kp6 : Keep h0 h4 [a2] := (Keep.refl h0 [a2]).wr W4 (Or.inl (List.mem_of_getElem? (i := 0) rfl))
  have N4 := Fr.snoc X4 N1 g_a2
  refine ⟨T4, h4, _, X4, e4, N4, O5, kp6, ⟨Vb4, by rw [List.length_set]; exact l_a2⟩, ?_⟩
  intro target k
  refine pf2 _ <| zy X1 hx 29 35 (d40 hby 9 rfl) (flt hu).2.2.2 <| za X1 hx (d40 hby 10 rfl) rfl rfl <| zl X1 hx (d40 hby 11 rfl) rfl <| zm X1 hx (d40 hby 12 rfl) rfl <| XS.i2b X1.here hx rfl (d40 hby 13 rfl) rfl ?_
  show Go p e w_ T1 m 40 (q_61 a1 j a2 nx cs) [(.int ((cv (cs.getD j 0)).toInt8.toInt32)), (.int (Int32.ofNat j)), (.ref a2)] _
  rw [show ((cv (cs.getD j 0)).toInt8.toInt32) = (cLo (cs.getD j 0)) from own_lo _]
  refine st4 _ <| XS.iinc X4.here hx rfl (d40 hby 15 rfl) rfl (l' := #[rv a1, iv ((Int32.ofNat j) + (1 : Int32)), rv a2, nv j, nv nx, nv j, iv (cv (cs.getD j 0))]) rfl ?_
  show Go p e w_ T4 m 44 #[.val (.ref a1), .val (.int ((Int32.ofNat j) + (1 : Int32))), .val (.ref a2), .val (.int (Int32.ofNat j)), .val (.int (Int32.ofNat nx)), .val (.int (Int32.ofNat j)), .val (.int (cv (cs.getD j 0)))] [] _
  rw [show ((Int32.ofNat j) + (1 : Int32)) = (Int32.ofNat (j + 1)) from own_add j 1]
  refine XS.iinc X4.here hx rfl (d40 hby 16 rfl) rfl (l' := #[rv a1, nv (j + 1), rv a2, iv ((Int32.ofNat j) + (1 : Int32)), nv nx, nv j, iv (cv (cs.getD j 0))]) rfl ?_
  show Go p e w_ T4 m 47 #[.val (.ref a1), .val (.int (Int32.ofNat (j + 1))), .val (.ref a2), .val (.int ((Int32.ofNat j) + (1 : Int32))), .val (.int (Int32.ofNat nx)), .val (.int (Int32.ofNat j)), .val (.int (cv (cs.getD j 0)))] [] _
  rw [show ((Int32.ofNat j) + (1 : Int32)) = (Int32.ofNat (j + 1)) from own_add j 1]
  refine XS.iinc X4.here hx rfl (d40 hby 17 rfl) rfl (l' := #[rv a1, nv (j + 1), rv a2, nv (j + 1), nv nx, iv ((Int32.ofNat j) + (1 : Int32)), iv (cv (cs.getD j 0))]) rfl ?_
  show Go p e w_ T4 m 50 #[.val (.ref a1), .val (.int (Int32.ofNat (j + 1))), .val (.ref a2), .val (.int (Int32.ofNat (j + 1))), .val (.int (Int32.ofNat nx)), .val (.int ((Int32.ofNat j) + (1 : Int32))), .val (.int (cv (cs.getD j 0)))] [] _
  rw [show ((Int32.ofNat j) + (1 : Int32)) = (Int32.ofNat (j + 1)) from own_add j 1]
  refine zo X4 hx 50 10 (d40 hby 18 rfl) ?_
  exact k
theorem lp_cb {p : Program} {l : Launch} {e : Env} {s : State} {m : MethodId} {args : Array Value} {w_ : List Frame} {meth : Method} {c : Code} {Z : State} {a0 : Array Value} {n0 : Nat} (hw : Hw a0 Z) (hx : p.tables.exec = Jvm.exec) (hby : c.code = jdk_52_method_22_code) (hml : c.maxLocals = 7) (hZ : Z.Warmed39 s.vm) (hown : s.vm.findClass "java/lang/StringUTF16" = some m.cls) (G1 : Int32) (Fm : Value) (ST : Stc Z G1 Fm) {a1 a2 : Addr} {kA kD : ClassId} {cs ps : List UInt16} {nx : Nat} (hc : cs.length ≤ 24) (hnx : nx ≤ cs.length) (hne : a1 ≠ a2) (g_a2 : n0 ≤ a2) (hpl : ps.length ≤ nx) (hps : ∀ j, j < ps.length → cs.getD j 0 = ps.getD j 0) (hu : ∀ j, j < ps.length → ¬ (255 : Int32) < (cv (cs.getD j 0))) :
    ∀ (f j : Nat) (ds : List Int32) (s6 : Slot) (hs6 : One s6) (T0 : State) (h0 : Heap) (locs : List Loc) (X0 : Stand p l e R_12 s m args w_ meth c T0 locs 0 0) (e0 : T0.heap = h0) (N0 : Fr n0 locs) (O0 : Old Z n0 h0) (B1 : Bar Z h0 a1 kA (2 * cs.length) (enc1 cs)) (BD : Bar Z h0 a2 kD nx ds) (hf : ps.length - j = f) (hj : j ≤ ps.length),
      ∃ (T' : State) (h' : Heap) (L' : List Loc) (s6' : Slot), One s6' ∧ Stand p l e R_12 s m args w_ meth c T' L' 0 0 ∧ T'.heap = h' ∧ Fr n0 L' ∧ Old Z n0 h' ∧ Keep h0 h' [a2] ∧ Bar Z h' a2 kD nx (sets ds j (ps.drop j)) ∧
        ∀ target, Go p e w_ T' m 10 #[rv a1, nv ps.length, rv a2, nv ps.length, nv nx, nv ps.length, s6'] [] target → Go p e w_ T0 m 10 (q_92 a1 j a2 nx s6) [] target := by
  intro f
  induction f with
  | zero =>
    intro j ds s6 hs6 T0 h0 locs X0 e0 N0 O0 B1 BD hf hj
    have q : j = ps.length := by omega
    subst q
    exact ⟨T0, h0, locs, s6, hs6, X0, e0, N0, O0, Keep.refl _ _, by rw [own_s0]; exact BD, fun _ k => k⟩
  | succ f ih =>
    intro j ds s6 hs6 T0 h0 locs X0 e0 N0 O0 B1 BD hf hj
    have hlt : j < ps.length := by omega
    obtain ⟨T2, h2, L2, X2, e2, N2, O2, K2, B2, st2⟩ := pi_cb hw X0 hx hby hml hZ hown e0 N0 O0 G1 Fm a1 kA cs a2 kD ds nx j s6 ST B1 BD hc hnx hne g_a2 hs6 (by omega) (hu j hlt)
    obtain ⟨T3, h3, L3, s3, hs3, X3, e3, N3, O3, K3, B3, st3⟩ := ih (j + 1) (ds.set j (cLo (cs.getD j 0))) (iv (cv (cs.getD j 0))) (One.val rfl) T2 h2 L2 X2 e2 N2 O2 ⟨B1.1.keep K2 (ninS hne nin0), B1.2⟩ B2 (by omega) (by omega)
    exact ⟨T3, h3, L3, s3, hs3, X3, e3, N3, O3, K2.trans K3 (allS (Or.inl (List.mem_of_getElem? (i := 0) rfl)) all0), by rw [own_s1 hlt, ← hps j hlt]; exact B3, fun target k => st2 target (st3 target k)⟩
theorem ru_cbA (a1 : Addr) (kA : ClassId) (cs : List UInt16) (a2 : Addr) (kD : ClassId) (ds : List Int32) (nx : Nat) (B1 : Bar Z h0 a1 kA (2 * cs.length) (enc1 cs)) (B2 : Bar Z h0 a2 kD nx ds) (hc : cs.length ≤ 24) (hnx : nx ≤ cs.length) (hne : a1 ≠ a2) (g_a2 : n0 ≤ a2) (hu : ∀ j, j < nx → ¬ (255 : Int32) < (cv (cs.getD j 0))) :
    Mt (l := l) hw (ws := ws) O0 ST Y_46 jdk_52_method_22_code 7 (some .int) R_12 #[(.ref a1), (vL 0), (.ref a2), (vL 0), (vN nx)] (Qcm Z a2 (Int32.ofNat nx) (fun h => Bar Z h a2 kD nx (sets ds 0 (cs.take nx))) h0 n0) := by
  refine own_met (plainFor_of_name pn0) fun p e s m w_ meth c s₁ hx hby hml hZ hh hown hnm hret hlk X0 e0 => ?_
  have N0 := Fr.nil n0
  have V_a1 := B1.1
  have l_a1 := B1.2
  have hN_a1 : (Int32.ofNat (2 * cs.length)).toNatClampNeg = (enc1 cs).length := by rw [l_a1]; exact own_n (by omega)
  have lt_a1 := V_a1.lt
  have V_a2 := B2.1
  have l_a2 := B2.2
  have hN_a2 : (Int32.ofNat nx).toNatClampNeg = ds.length := by rw [l_a2]; exact own_n (by omega)
  have lt_a2 := V_a2.lt
  have htk : (cs.take nx).length = nx := by rw [List.length_take]; omega
  obtain ⟨_, T1, Lc1, X1, hQ1, st1⟩ := own_sc X0 hx hZ (y := Y_36) hown hml (tw hw 186 rfl) (tw hw 187 rfl) (ru_bo hw O0 ST a1 kA (2 * cs.length) (enc1 cs) 0 nx B1 (by omega) (by omega)) (tw hw 188 rfl) (tw hw 78 rfl) e0 (W := 0) (Ls := (q_69 a1 a2 nx)) (argsL := [(vL 0), (vN nx), (.ref a1)]) (rest := []) (lenOf pd11 rfl) (d40 hby 22 rfl)
  obtain ⟨rfl, Nq1, e1⟩ := hQ1
  have N1 := Fr.app N0 Nq1
  obtain ⟨T2, h2, L2, s6_2, hs6_2, X2, e2, N2, Om2, K2, Bm2, st2⟩ := lp_cb (ps := cs.take nx) hw hx hby hml hZ hown G1 Fm ST hc hnx hne g_a2 (by omega) (own_tk (by omega)) (fun j hj => hu j (by omega)) (cs.take nx).length 0 ds .unset One.u T1 h0 _ X1 e1 N1 O0 B1 B2 (by omega) (by omega)
  rw [htk] at st2
  have O3 := O0.keep K2 (allS g_a2 all0)
  have kp4 : Keep h0 h2 [a2] := (Keep.refl h0 [a2]).trans K2 (allS (Or.inl (List.mem_of_getElem? (i := 0) rfl)) all0)
  have Vm2 := Bm2.1
  have Bm := Bm2
  have hs6_2' := hs6_2
  have pf5 : ∀ target, Go p e w_ T2 m 14 #[rv a1, nv nx, rv a2, nv nx, nv nx, nv nx, s6_2] [(vN nx), (vN nx)] target → Go p e w_ s₁ m 0 (q_69 a1 a2 nx) [] target := by
    intro target k
    refine zl X0 hx (d40 hby 19 rfl) rfl <| zm X0 hx (d40 hby 20 rfl) rfl <| za X0 hx (d40 hby 21 rfl) rfl rfl <| st1 _ <| zc X1 hx (d40 hby 23 rfl) <| zt X1 hx (d40 hby 24 rfl) (Ls' := (q_141 a1 a2 nx)) rfl <| st2 _ <| zm X2 hx (d40 hby 0 rfl) rfl <| zm X2 hx (d40 hby 1 rfl) rfl ?_
    exact k
  refine own_lvI X2 hx hlk hret (d40 hby 26 rfl) (by decide) (by decide) (z := (Int32.ofNat nx)) (Ls := #[rv a1, nv nx, rv a2, nv nx, nv nx, nv nx, s6_2]) (rest := []) (fun _ k => castTop (ef_ru_cmA m a1 (0 : Int32) a2 (0 : Int32) (Int32.ofNat nx)) ?_) ?_
  · refine pf5 _ <| zy X2 hx 14 53 (d40 hby 2 rfl) (flt (fun q => absurd ((own_lt (a := nx) (b := nx) (by omega) (by omega)).mp q) (by omega))).2.1 <| zm X2 hx (d40 hby 25 rfl) rfl ?_
    exact k
  · rw [e2]
    exact ⟨rfl, N2, kp4, Bm⟩
theorem ru_cbB (a1 : Addr) (kA : ClassId) (cs : List UInt16) (a2 : Addr) (kD : ClassId) (ds : List Int32) (nx nF : Nat) (B1 : Bar Z h0 a1 kA (2 * cs.length) (enc1 cs)) (B2 : Bar Z h0 a2 kD nx ds) (hc : cs.length ≤ 24) (hnx : nx ≤ cs.length) (hne : a1 ≠ a2) (g_a2 : n0 ≤ a2) (hN : nF < nx) (hu1 : ∀ j, j < nF → ¬ (255 : Int32) < (cv (cs.getD j 0))) (hu2 : (255 : Int32) < (cv (cs.getD nF 0))) :
    Mt (l := l) hw (ws := ws) O0 ST Y_46 jdk_52_method_22_code 7 (some .int) R_12 #[(.ref a1), (vL 0), (.ref a2), (vL 0), (vN nx)] (Qcm Z a2 (Int32.ofNat nF) (fun _ => True) h0 n0) := by
  refine own_met (plainFor_of_name pn0) fun p e s m w_ meth c s₁ hx hby hml hZ hh hown hnm hret hlk X0 e0 => ?_
  have N0 := Fr.nil n0
  have V_a1 := B1.1
  have l_a1 := B1.2
  have hN_a1 : (Int32.ofNat (2 * cs.length)).toNatClampNeg = (enc1 cs).length := by rw [l_a1]; exact own_n (by omega)
  have lt_a1 := V_a1.lt
  have V_a2 := B2.1
  have l_a2 := B2.2
  have hN_a2 : (Int32.ofNat nx).toNatClampNeg = ds.length := by rw [l_a2]; exact own_n (by omega)
  have lt_a2 := V_a2.lt
  have htk : (cs.take nF).length = nF := by rw [List.length_take]; omega
  obtain ⟨_, T1, Lc1, X1, hQ1, st1⟩ := own_sc X0 hx hZ (y := Y_36) hown hml (tw hw 186 rfl) (tw hw 187 rfl) (ru_bo hw O0 ST a1 kA (2 * cs.length) (enc1 cs) 0 nx B1 (by omega) (by omega)) (tw hw 188 rfl) (tw hw 78 rfl) e0 (W := 0) (Ls := (q_69 a1 a2 nx)) (argsL := [(vL 0), (vN nx), (.ref a1)]) (rest := []) (lenOf pd11 rfl) (d40 hby 22 rfl)
  obtain ⟨rfl, Nq1, e1⟩ := hQ1
  have N1 := Fr.app N0 Nq1
  obtain ⟨T2, h2, L2, s6_2, hs6_2, X2, e2, N2, Om2, K2, Bm2, st2⟩ := lp_cb (ps := cs.take nF) hw hx hby hml hZ hown G1 Fm ST hc hnx hne g_a2 (by omega) (own_tk (by omega)) (fun j hj => hu1 j (by omega)) (cs.take nF).length 0 ds .unset One.u T1 h0 _ X1 e1 N1 O0 B1 B2 (by omega) (by omega)
  rw [htk] at st2
  have O3 := O0.keep K2 (allS g_a2 all0)
  have kp4 : Keep h0 h2 [a2] := (Keep.refl h0 [a2]).trans K2 (allS (Or.inl (List.mem_of_getElem? (i := 0) rfl)) all0)
  have Vm2 := Bm2.1
  have Bm := Bm2
  have hs6_2' := hs6_2
  have pf5 : ∀ target, Go p e w_ T2 m 14 #[rv a1, nv nF, rv a2, nv nF, nv nx, nv nF, s6_2] [(vN nx), (vN nF)] target → Go p e w_ s₁ m 0 (q_69 a1 a2 nx) [] target := by
    intro target k
    refine zl X0 hx (d40 hby 19 rfl) rfl <| zm X0 hx (d40 hby 20 rfl) rfl <| za X0 hx (d40 hby 21 rfl) rfl rfl <| st1 _ <| zc X1 hx (d40 hby 23 rfl) <| zt X1 hx (d40 hby 24 rfl) (Ls' := (q_141 a1 a2 nx)) rfl <| st2 _ <| zm X2 hx (d40 hby 0 rfl) rfl <| zm X2 hx (d40 hby 1 rfl) rfl ?_
    exact k
  obtain ⟨_, T6, Lc6, X6, hQ6, st6⟩ := own_sc X2 hx hZ (y := Y_9) hown hml (tw hw 99 rfl) (tw hw 100 rfl) (ru_get hw O3 ST a1 kA (2 * cs.length) (enc1 cs) nF (cs.getD nF 0) ⟨(V_a1.keep K2 (ninS hne nin0)), l_a1⟩ (by omega) (by omega) (enc1_get cs nF (by omega)).1 (enc1_get cs nF (by omega)).2) (tw hw 101 rfl) (tw hw 78 rfl) e2 (W := 0) (Ls := #[rv a1, nv nF, rv a2, nv nF, nv nx, nv nF, s6_2]) (argsL := [(.ref a1), (vN nF)]) (rest := []) (lenOf pd4 rfl) (d40 hby 5 rfl)
  obtain ⟨rfl, Nq6, e6⟩ := hQ6
  have N6 := Fr.app N2 Nq6
  have pf7 : ∀ target, Go p e w_ T6 m 29 (q_61 a1 nF a2 nx cs) [(vL 255), (.int (cv (cs.getD nF 0)))] target → Go p e w_ T2 m 14 #[rv a1, nv nF, rv a2, nv nF, nv nx, nv nF, s6_2] [(vN nx), (vN nF)] target := by
    intro target k
    refine zn X2 hx (d40 hby 2 rfl) (tlt ((own_lt (a := nF) (b := nx) (by omega) (by omega)).mpr (by omega))).2.1 <| za X2 hx (d40 hby 3 rfl) rfl rfl <| zl X2 hx (d40 hby 4 rfl) rfl <| st6 _ <| XS.istoreS X6.here hx rfl (d40 hby 6 rfl) rfl rfl hs6_2 <| zm X6 hx (d40 hby 7 rfl) rfl <| XS.sipush X6.here hx rfl (d40 hby 8 rfl) ?_
    exact k
  refine own_lvI X6 hx hlk hret (d40 hby 28 rfl) (by decide) (by decide) (z := (Int32.ofNat nF)) (Ls := (q_61 a1 nF a2 nx cs)) (rest := []) (fun _ k => castTop (ef_ru_cmA m a1 (0 : Int32) a2 (0 : Int32) (Int32.ofNat nx)) ?_) ?_
  · refine pf5 _ <| pf7 _ <| zn X6 hx (d40 hby 9 rfl) (tlt hu2).2.2.2 <| zm X6 hx (d40 hby 27 rfl) rfl ?_
    exact k
  · rw [e6]
    exact ⟨rfl, N6, kp4, trivial⟩
theorem d39 : Dl cb64 [(0, .iload_n 2, 1), (1, .newarray .byte, 2), (3, .astore_n 3, 1), (4, .aload_n 0, 1), (5, .iload_n 1, 1), (6, .aload_n 3, 1), (7, .iconst 0, 1), (8, .iload_n 2, 1), (9, .invokestatic 123, 3), (12, .istore 4, 2), (14, .iload 4, 2), (16, .iload_n 2, 1), (17, .if_icmp .eq 47, 3), (64, .aload_n 3, 1), (65, .areturn, 1), (20, .aload_n 0, 1), (21, .iload_n 1, 1), (22, .iconst 1, 1), (23, .ishl, 1), (24, .iload_n 1, 1), (25, .iload_n 2, 1), (26, .iadd, 1), (27, .invokestatic 11, 3), (30, .invokestatic 126, 3), (33, .astore 5, 2), (35, .aload 5, 2), (37, .iload 4, 2), (39, .invokestatic 71, 3), (42, .sipush 255, 3), (45, .if_icmp .gt 16, 3), (61, .aload 5, 2), (63, .areturn, 1)] := dlk (by decide +kernel)
theorem pd36 : parseMethodDescriptor "([BI[BII)I" = some ⟨[(.array .byte), .int, (.array .byte), .int, .int], some .int⟩ := by decide +kernel
theorem ru_kA (a1 : Addr) (kA : ClassId) (cs : List UInt16) (nx : Nat) (B1 : Bar Z h0 a1 kA (2 * cs.length) (enc1 cs)) (hc : cs.length ≤ 24) (h1 : 1 ≤ nx) (hnx : nx < cs.length) (hu : ∀ j, j < nx → ¬ (255 : Int32) < (cv (cs.getD j 0))) :
    Mt (l := l) hw (ws := ws) O0 ST Y_47 jdk_52_method_17_code 6 (some (.array .byte)) R_51 #[(.ref a1), (vL 0), (vN nx)] (Qar Z nx ((cs.take nx).map cLo) h0 n0) := by
  refine own_met (plainFor_of_name pn0) fun p e s m w_ meth c s₁ hx hby hml hZ hh hown hnm hret hlk X0 e0 => ?_
  have N0 := Fr.nil n0
  have V_a1 := B1.1
  have l_a1 := B1.2
  have hN_a1 : (Int32.ofNat (2 * cs.length)).toNatClampNeg = (enc1 cs).length := by rw [l_a1]; exact own_n (by omega)
  have lt_a1 := V_a1.lt
  have htk : (cs.take nx).length = nx := by rw [List.length_take]; omega
  obtain ⟨T1, h1, k1, X1, e1, E1, A1, Ea1, st1⟩ := newPE X0 hx hZ (tw hw 26 rfl) e0 (g := (mkF m 1 (q_47 a1 nx) [(vN nx)])) rfl (d39 hby 1 rfl) rfl (own_nn (n := nx) (by omega)) (cap := 24) (by rw [own_n (n := nx) (by omega)]; omega) (by decide) (by decide) (by decide) (ad := "[B") (by decide)
  obtain ⟨b1, g1⟩ : ∃ z, z = h0.size := ⟨_, rfl⟩
  rw [← g1] at A1 Ea1 st1
  have g_b1 : n0 ≤ b1 := by rw [g1]; exact Nat.le_trans (Nat.le_of_eq O0.1.symm) O0.2.1
  have sz_b1 : h0.size ≤ b1 := by rw [g1]; exact (Keep.refl h0 []).1
  have lt_a1_b1 : a1 < b1 := Nat.lt_of_lt_of_le lt_a1 sz_b1
  have O2 := O0.ext E1
  have kp3 : Keep h0 h1 [] := (Keep.refl h0 []).ext E1
  have V_b1 : Arv Z h1 b1 k1 .byte (Int32.ofNat nx) ((List.replicate nx (0 : Int32)).map Value.int) (vL 0) := by rw [List.map_replicate]; exact (Arv.new A1 (own_nn (n := nx) (by omega))).pad (pad_rep [] (vL 0) nx)
  have hN_b1 : ((Int32.ofNat nx)).toNatClampNeg = (List.replicate nx (0 : Int32)).length := by rw [List.length_replicate]; exact own_n (n := nx) (by omega)
  obtain ⟨_, T4, Lc4, X4, hQ4, st4⟩ := own_sc X1 hx hZ (y := Y_46) hown hml (tw hw 183 rfl) (tw hw 184 rfl) (ru_cbA hw O2 ST a1 kA cs b1 k1 (List.replicate nx 0) nx ⟨(V_a1.ext E1), l_a1⟩ ⟨V_b1, by rw [List.length_replicate]⟩ hc (by omega) (Nat.ne_of_lt lt_a1_b1) g_b1 hu) (tw hw 185 rfl) (tw hw 78 rfl) e1 (W := 0) (Ls := (q_77 a1 nx b1)) (argsL := [(.ref a1), (vL 0), (.ref b1), (vL 0), (vN nx)]) (rest := []) (lenOf pd36 rfl) (d39 hby 8 rfl)
  obtain ⟨h4, e4⟩ : ∃ z, T4.heap = z := ⟨_, rfl⟩
  rw [e4] at hQ4
  obtain ⟨rfl, Nq4, K4, Bc4⟩ := hQ4
  have N4 := Fr.app N0 Nq4
  have O5 := O2.keep K4 (allS g_b1 all0)
  have kp6 := kp3.trans K4 (allS (Or.inr sz_b1) all0)
  have Vc : Bar Z h4 b1 k1 nx ((cs.take nx).map cLo) := by have q := own_setsz (cs.take nx); rw [htk] at q; rw [← q]; exact Bc4
  have pf7 : ∀ target, Go p e w_ T4 m 17 (q_122 a1 nx b1) [(vN nx), (vN nx)] target → Go p e w_ s₁ m 0 (q_47 a1 nx) [] target := by
    intro target k
    refine zl X0 hx (d39 hby 0 rfl) rfl <| st1 _ <| XS.astoreN X1.here hx rfl (d39 hby 2 rfl) rfl rfl (l' := (q_77 a1 nx b1)) rfl <| za X1 hx (d39 hby 3 rfl) rfl rfl <| zl X1 hx (d39 hby 4 rfl) rfl <| za X1 hx (d39 hby 5 rfl) rfl rfl <| zc X1 hx (d39 hby 6 rfl) <| zl X1 hx (d39 hby 7 rfl) rfl <| st4 _ <| zt X4 hx (d39 hby 9 rfl) (Ls' := (q_122 a1 nx b1)) rfl <| zm X4 hx (d39 hby 10 rfl) rfl <| zl X4 hx (d39 hby 11 rfl) rfl ?_
    exact k
  refine own_lvA X4 hx hlk hret rfl (d39 hby 14 rfl) (by decide) (by decide) (w := (.ref b1)) rfl (Ls := (q_122 a1 nx b1)) (rest := []) (fun _ k => castTop (ef_ru_cA m a1 (0 : Int32) (Int32.ofNat nx)) ?_) ?_
  · refine pf7 _ <| zy X4 hx 17 64 (d39 hby 12 rfl) (teq rfl).1 <| za X4 hx (d39 hby 13 rfl) rfl rfl ?_
    exact k
  · rw [e4]
    exact ⟨b1, _, rfl, N4, kp6, sz_b1, ⟨Vc.1, by rw [List.length_map, htk]⟩, (Ea1.keep K4)⟩
theorem ru_kB (a1 : Addr) (kA : ClassId) (cs : List UInt16) (nx nF : Nat) (B1 : Bar Z h0 a1 kA (2 * cs.length) (enc1 cs)) (hc : cs.length ≤ 24) (h1 : 1 ≤ nx) (hnx : nx < cs.length) (hN : nF < nx) (hu1 : ∀ j, j < nF → ¬ (255 : Int32) < (cv (cs.getD j 0))) (hu2 : (255 : Int32) < (cv (cs.getD nF 0))) :
    Mt (l := l) hw (ws := ws) O0 ST Y_47 jdk_52_method_17_code 6 (some (.array .byte)) R_52 #[(.ref a1), (vL 0), (vN nx)] (Qar Z (2 * nx) (enc1 (cs.take nx)) h0 n0) := by
  refine own_met (plainFor_of_name pn0) fun p e s m w_ meth c s₁ hx hby hml hZ hh hown hnm hret hlk X0 e0 => ?_
  have N0 := Fr.nil n0
  have V_a1 := B1.1
  have l_a1 := B1.2
  have hN_a1 : (Int32.ofNat (2 * cs.length)).toNatClampNeg = (enc1 cs).length := by rw [l_a1]; exact own_n (by omega)
  have lt_a1 := V_a1.lt
  have htk : (cs.take nx).length = nx := by rw [List.length_take]; omega
  obtain ⟨T1, h1, k1, X1, e1, E1, A1, Ea1, st1⟩ := newPE X0 hx hZ (tw hw 26 rfl) e0 (g := (mkF m 1 (q_47 a1 nx) [(vN nx)])) rfl (d39 hby 1 rfl) rfl (own_nn (n := nx) (by omega)) (cap := 24) (by rw [own_n (n := nx) (by omega)]; omega) (by decide) (by decide) (by decide) (ad := "[B") (by decide)
  obtain ⟨b1, g1⟩ : ∃ z, z = h0.size := ⟨_, rfl⟩
  rw [← g1] at A1 Ea1 st1
  have g_b1 : n0 ≤ b1 := by rw [g1]; exact Nat.le_trans (Nat.le_of_eq O0.1.symm) O0.2.1
  have sz_b1 : h0.size ≤ b1 := by rw [g1]; exact (Keep.refl h0 []).1
  have lt_a1_b1 : a1 < b1 := Nat.lt_of_lt_of_le lt_a1 sz_b1
  have O2 := O0.ext E1
  have kp3 : Keep h0 h1 [] := (Keep.refl h0 []).ext E1
  have V_b1 : Arv Z h1 b1 k1 .byte (Int32.ofNat nx) ((List.replicate nx (0 : Int32)).map Value.int) (vL 0) := by rw [List.map_replicate]; exact (Arv.new A1 (own_nn (n := nx) (by omega))).pad (pad_rep [] (vL 0) nx)
  have hN_b1 : ((Int32.ofNat nx)).toNatClampNeg = (List.replicate nx (0 : Int32)).length := by rw [List.length_replicate]; exact own_n (n := nx) (by omega)
  obtain ⟨_, T4, Lc4, X4, hQ4, st4⟩ := own_sc X1 hx hZ (y := Y_46) hown hml (tw hw 183 rfl) (tw hw 184 rfl) (ru_cbB hw O2 ST a1 kA cs b1 k1 (List.replicate nx 0) nx nF ⟨(V_a1.ext E1), l_a1⟩ ⟨V_b1, by rw [List.length_replicate]⟩ hc (by omega) (Nat.ne_of_lt lt_a1_b1) g_b1 hN hu1 hu2) (tw hw 185 rfl) (tw hw 78 rfl) e1 (W := 0) (Ls := (q_77 a1 nx b1)) (argsL := [(.ref a1), (vL 0), (.ref b1), (vL 0), (vN nx)]) (rest := []) (lenOf pd36 rfl) (d39 hby 8 rfl)
  obtain ⟨h4, e4⟩ : ∃ z, T4.heap = z := ⟨_, rfl⟩
  rw [e4] at hQ4
  obtain ⟨rfl, Nq4, K4, Bc4⟩ := hQ4
  have N4 := Fr.app N0 Nq4
  have O5 := O2.keep K4 (allS g_b1 all0)
  have kp6 := kp3.trans K4 (allS (Or.inr sz_b1) all0)
  have pf7 : ∀ target, Go p e w_ T4 m 17 (q_62 a1 nx b1 nF) [(vN nx), (vN nF)] target → Go p e w_ s₁ m 0 (q_47 a1 nx) [] target := by
    intro target k
    refine zl X0 hx (d39 hby 0 rfl) rfl <| st1 _ <| XS.astoreN X1.here hx rfl (d39 hby 2 rfl) rfl rfl (l' := (q_77 a1 nx b1)) rfl <| za X1 hx (d39 hby 3 rfl) rfl rfl <| zl X1 hx (d39 hby 4 rfl) rfl <| za X1 hx (d39 hby 5 rfl) rfl rfl <| zc X1 hx (d39 hby 6 rfl) <| zl X1 hx (d39 hby 7 rfl) rfl <| st4 _ <| zt X4 hx (d39 hby 9 rfl) (Ls' := (q_62 a1 nx b1 nF)) rfl <| zm X4 hx (d39 hby 10 rfl) rfl <| zl X4 hx (d39 hby 11 rfl) rfl ?_
    exact k
  obtain ⟨_, T8, Lc8, X8, hQ8, st8⟩ := own_sc X4 hx hZ (y := Y_53) hown hml (tw hw 89 rfl) (tw hw 90 rfl) (ru_nl hw O5 ST nx (by omega)) (tw hw 91 rfl) (tw hw 78 rfl) e4 (W := 2) (Ls := (q_62 a1 nx b1 nF)) (argsL := [(vN nx)]) (rest := [(vL 0), (.ref a1)]) (lenOf pd7 rfl) (d39 hby 22 rfl)
  obtain ⟨rfl, Nq8, e8⟩ := hQ8
  have N8 := Fr.app N4 Nq8
  obtain ⟨_, T9, Lc9, X9, hQ9, st9⟩ := own_sc X8 hx hZ (y := Y_28) hown hml (tw hw 195 rfl) (tw hw 196 rfl) (ra_crA hw O5 ST a1 kA (2 * cs.length) (enc1 cs) (2 * nx) ⟨((V_a1.ext E1).keep K4 (ninS (Nat.ne_of_lt lt_a1_b1) nin0)), l_a1⟩ (by omega) (by omega)) (tw hw 198 rfl) (tw hw 197 rfl) e8 (W := 0) (Ls := (q_62 a1 nx b1 nF)) (argsL := [(.ref a1), (vL 0), (vN (2 * nx))]) (rest := []) (lenOf pd27 rfl) (d39 hby 23 rfl)
  obtain ⟨h9, e9⟩ : ∃ z, T9.heap = z := ⟨_, rfl⟩
  rw [e9] at hQ9
  obtain ⟨t9, kt9, rfl, Nq9, K9, szt9, Bt9, Et9⟩ := hQ9
  have N9 := Fr.app N8 Nq9
  have O10 := O5.keep K9 all0
  have kp11 := kp6.trans K9 all0
  have sz_t9 := Nat.le_trans kp6.1 szt9
  have g_t9 : n0 ≤ t9 := Nat.le_trans (Nat.le_trans (Nat.le_of_eq O0.1.symm) O0.2.1) sz_t9
  have lt_b1_t9 : b1 < t9 := Nat.lt_of_lt_of_le (Ea1.keep K4).lt szt9
  have lt_a1_t9 : a1 < t9 := Nat.lt_of_lt_of_le lt_a1 sz_t9
  have Bw : Bar Z h9 t9 kt9 (2 * nx) (enc1 (cs.take nx)) := by rw [← own_enctk cs nx (by omega)]; exact Bt9
  obtain ⟨_, T12, Lc12, X12, hQ12, st12⟩ := own_sc X9 hx hZ (y := Y_9) hown hml (tw hw 99 rfl) (tw hw 100 rfl) (ru_get hw O10 ST t9 kt9 (2 * nx) (enc1 (cs.take nx)) nF ((cs.take nx).getD nF 0) ⟨Bw.1, Bw.2⟩ (by omega) (by omega) (enc1_get (cs.take nx) nF (by omega)).1 (enc1_get (cs.take nx) nF (by omega)).2) (tw hw 101 rfl) (tw hw 78 rfl) e9 (W := 0) (Ls := (q_93 a1 nx b1 nF t9)) (argsL := [(.ref t9), (vN nF)]) (rest := []) (lenOf pd4 rfl) (d39 hby 27 rfl)
  obtain ⟨rfl, Nq12, e12⟩ := hQ12
  have N12 := Fr.app N9 Nq12
  have pf13 : ∀ target, Go p e w_ T12 m 45 (q_93 a1 nx b1 nF t9) [(vL 255), (.int (cv ((cs.take nx).getD nF 0)))] target → Go p e w_ T4 m 17 (q_62 a1 nx b1 nF) [(vN nx), (vN nF)] target := by
    intro target k
    refine zn X4 hx (d39 hby 12 rfl) (feq (fun q => absurd ((own_eq (a := nF) (b := nx) (by omega) (by omega)).mp q) (by omega))).1 <| za X4 hx (d39 hby 15 rfl) rfl rfl <| zl X4 hx (d39 hby 16 rfl) rfl <| zc X4 hx (d39 hby 17 rfl) <| XS.ishl X4.here hx rfl (d39 hby 18 rfl) rfl <| zl X4 hx (d39 hby 19 rfl) rfl <| zl X4 hx (d39 hby 20 rfl) rfl <| XS.iadd X4.here hx rfl (d39 hby 21 rfl) rfl ?_
    show Go p e w_ T4 m 27 (q_62 a1 nx b1 nF) [(.int ((0 : Int32) + (Int32.ofNat nx))), (.int (0 : Int32)), (.ref a1)] _
    rw [show ((0 : Int32) + (Int32.ofNat nx)) = (Int32.ofNat nx) from Int32.zero_add _]
    refine st8 _ <| st9 _ <| XS.astore X9.here hx rfl (d39 hby 24 rfl) rfl rfl (l' := (q_93 a1 nx b1 nF t9)) rfl <| XS.aload X9.here hx rfl (d39 hby 25 rfl) rfl rfl <| zm X9 hx (d39 hby 26 rfl) rfl <| st12 _ <| XS.sipush X12.here hx rfl (d39 hby 28 rfl) ?_
    exact k
  refine own_lvA X12 hx hlk hret rfl (d39 hby 31 rfl) (by decide) (by decide) (w := (.ref t9)) rfl (Ls := (q_93 a1 nx b1 nF t9)) (rest := []) (fun _ k => castTop (ef_ru_cA m a1 (0 : Int32) (Int32.ofNat nx)) ?_) ?_
  · refine pf7 _ <| pf13 _ <| zy X12 hx 45 61 (d39 hby 29 rfl) (tlt (by rw [own_tkg hN (by omega)]; exact hu2)).2.2.1 <| XS.aload X12.here hx rfl (d39 hby 30 rfl) rfl rfl ?_
    exact k
  · rw [e12]
    exact ⟨t9, _, rfl, N12, kp11, sz_t9, ⟨Bw.1, Bw.2⟩, Et9⟩
theorem d38 : Dl cb65 [(0, .iload_n 2, 1), (1, .ifCond .ne 7, 3), (8, .getstatic 251, 3), (11, .ifCond .eq 28, 3), (14, .aload_n 0, 1), (15, .iload_n 1, 1), (16, .iload_n 2, 1), (17, .invokestatic 257, 3), (20, .astore_n 3, 1), (21, .aload_n 3, 1), (22, .iload_n 2, 1), (23, .invokestatic 259, 3), (26, .istore 4, 2), (28, .new 3, 3), (31, .dup, 1), (32, .aload_n 3, 1), (33, .iload 4, 2), (35, .invokespecial 263, 3), (38, .areturn, 1), (4, .ldc_w 295, 3), (7, .areturn, 1)] := dlk (by decide +kernel)
theorem pd37 : parseMethodDescriptor "([BB)V" = some ⟨[(.array .byte), .byte], none⟩ := by decide +kernel
theorem ru_nsA (a1 : Addr) (kA : ClassId) (cs : List UInt16) (nx : Nat) (B1 : Bar Z h0 a1 kA (2 * cs.length) (enc1 cs)) (hc : cs.length ≤ 24) (h1 : 1 ≤ nx) (hnx : nx < cs.length) (hu : ∀ j, j < nx → ¬ (255 : Int32) < (cv (cs.getD j 0))) :
    Mt (l := l) hw (ws := ws) O0 ST Y_16 jdk_52_method_69_code 5 (some (.object "java/lang/String")) R_53 #[(.ref a1), (vL 0), (vN nx)] (Qs Z (cs.take nx) h0 n0) := by
  refine own_met (plainFor_of_name pn0) fun p e s m w_ meth c s₁ hx hby hml hZ hh hown hnm hret hlk X0 e0 => ?_
  have N0 := Fr.nil n0
  obtain ⟨S_cs, hG, S_fm, hF, S_ad, S_hi, S_lo⟩ := id ST
  have V_a1 := B1.1
  have l_a1 := B1.2
  have hN_a1 : (Int32.ofNat (2 * cs.length)).toNatClampNeg = (enc1 cs).length := by rw [l_a1]; exact own_n (by omega)
  have lt_a1 := V_a1.lt
  obtain ⟨T1, X1, e1, st1⟩ := getS2 X0 hx hZ hown (host := "") (Or.inl (tw hw 179 rfl)) Via.refl e0 (S_cs.ext O0.2) (g := (mkF m 8 (q_12 a1 nx) [])) rfl (d38 hby 2 rfl)
  obtain ⟨_, T2, Lc2, X2, hQ2, st2⟩ := own_sc X1 hx hZ (y := Y_47) hown hml (tw hw 180 rfl) (tw hw 181 rfl) (ru_kA hw O0 ST a1 kA cs nx ⟨V_a1, l_a1⟩ hc h1 hnx hu) (tw hw 182 rfl) (tw hw 78 rfl) e1 (W := 0) (Ls := (q_12 a1 nx)) (argsL := [(.ref a1), (vL 0), (vN nx)]) (rest := []) (lenOf pd27 rfl) (d38 hby 7 rfl)
  obtain ⟨h2, e2⟩ : ∃ z, T2.heap = z := ⟨_, rfl⟩
  rw [e2] at hQ2
  obtain ⟨t2, kt2, rfl, Nq2, K2, szt2, Bt2, Et2⟩ := hQ2
  have N2 := Fr.app N0 Nq2
  have O3 := O0.keep K2 all0
  have kp4 : Keep h0 h2 [] := (Keep.refl h0 []).trans K2 all0
  have sz_t2 := Nat.le_trans (Keep.refl h0 []).1 szt2
  have g_t2 : n0 ≤ t2 := Nat.le_trans (Nat.le_trans (Nat.le_of_eq O0.1.symm) O0.2.1) sz_t2
  have lt_a1_t2 : a1 < t2 := Nat.lt_of_lt_of_le lt_a1 sz_t2
  have htk : (cs.take nx).length = nx := by rw [List.length_take]; omega
  have Bu := Bt2
  have Bv : Bar Z h2 t2 kt2 (cs.take nx).length ((cs.take nx).map cLo) := by rw [htk]; exact Bu
  obtain ⟨_, T5, Lc5, X5, hQ5, st5⟩ := own_sc X2 hx hZ (y := Y_19) hown hml (tw hw 213 rfl) (tw hw 103 rfl) (ru_cf0 hw O3 ST t2 kt2 ((cs.take nx).map cLo) nx ⟨(by have q := Bv.1; rw [htk] at q; exact q), Bu.2⟩ h1 (by omega)) (tw hw 104 rfl) (tw hw 78 rfl) e2 (W := 0) (Ls := (q_78 a1 nx t2)) (argsL := [(.ref t2), (vN nx)]) (rest := []) (lenOf pd16 rfl) (d38 hby 11 rfl)
  obtain ⟨rfl, Nq5, e5⟩ := hQ5
  have N5 := Fr.app N2 Nq5
  obtain ⟨T6, h6, X6, e6, E6, A6, D6, U6, st6⟩ := newO X5 hx hZ hown (tw hw 214 rfl) (tw hw 13 rfl) (tw hw 14 rfl) e5 (g := (mkF m 28 (q_94 a1 nx t2) [])) rfl (d38 hby 13 rfl) (by decide) (by decide)
  obtain ⟨b6, g6⟩ : ∃ z, z = h2.size := ⟨_, rfl⟩
  rw [← g6] at A6 D6 U6 st6
  have g_b6 : n0 ≤ b6 := by rw [g6]; exact Nat.le_trans (Nat.le_of_eq O3.1.symm) O3.2.1
  have sz_b6 : h0.size ≤ b6 := by rw [g6]; exact kp4.1
  have lt_t2_b6 : t2 < b6 := by rw [g6]; exact Bv.1.lt
  have lt_a1_b6 : a1 < b6 := Nat.lt_of_lt_of_le lt_a1 sz_b6
  have O7 := O3.ext E6
  have kp8 := kp4.ext E6
  have F_value_b6 : Fld Z h6 b6 "java/lang/String" "value" "[B" .null := D6 (Or.inr (tw hw 27 rfl)) (ty := (.array .byte)) (by decide)
  have F_coder_b6 : Fld Z h6 b6 "java/lang/String" "coder" "B" (vL 0) := D6 (Or.inr (tw hw 28 rfl)) (ty := .byte) (by decide)
  obtain ⟨_, T9, Lc9, X9, hQ9, st9⟩ := own_ic X6 hx hZ (y := Y_27) rfl hown hml (tw hw 215 rfl) (tw hw 216 rfl) (rs_ib0 hw O7 ST b6 t2 A6 F_value_b6 F_coder_b6 g_b6) (tw hw 217 rfl) (tw hw 14 rfl) e6 (W := 1) (Ls := (q_94 a1 nx t2)) (b := b6) (argsL := [(.ref t2), (vL 0)]) (rest := [(.ref b6)]) (lenOf pd37 rfl) (d38 hby 17 rfl)
  obtain ⟨h9, e9⟩ : ∃ z, T9.heap = z := ⟨_, rfl⟩
  rw [e9] at hQ9
  obtain ⟨rfl, Nq9, K9, Ei9, Fc9, Fv9⟩ := hQ9
  have N9 := Fr.app N5 Nq9
  have O10 := O7.keep K9 (allS g_b6 all0)
  have kp11 := kp8.trans K9 (allS (Or.inr sz_b6) all0)
  refine own_lvA X9 hx hlk hret rfl (d38 hby 18 rfl) (by decide) (by decide) (w := (.ref b6)) rfl (Ls := (q_94 a1 nx t2)) (rest := []) (fun _ k => castTop (ef_ru_tb m a1 (0 : Int32) (Int32.ofNat nx)) ?_) ?_
  · refine zl X0 hx (d38 hby 0 rfl) rfl <| zf X0 hx 1 8 (d38 hby 1 rfl) ((if0 _ _).trans (feq (fun q => absurd ((own_eq (a := nx) (b := 0) (by omega) (by omega)).mp q) (by omega))).2) <| st1 _ <| zg X1 hx (d38 hby 3 rfl) ((if0 _ _).trans (feq hG).1) <| za X1 hx (d38 hby 4 rfl) rfl rfl <| zl X1 hx (d38 hby 5 rfl) rfl <| zl X1 hx (d38 hby 6 rfl) rfl <| st2 _ <| XS.astoreN X2.here hx rfl (d38 hby 8 rfl) rfl rfl (l' := (q_78 a1 nx t2)) rfl <| za X2 hx (d38 hby 9 rfl) rfl rfl <| zl X2 hx (d38 hby 10 rfl) rfl <| st5 _ <| zt X5 hx (d38 hby 12 rfl) (Ls' := (q_94 a1 nx t2)) rfl <| st6 _ <| XS.dup X6.here hx rfl (d38 hby 14 rfl) rfl rfl <| za X6 hx (d38 hby 15 rfl) rfl rfl <| zm X6 hx (d38 hby 16 rfl) rfl <| st9 _ ?_
    exact k
  · rw [e9]
    exact ⟨b6, t2, _, rfl, N9, kp11, sz_b6, sz_t2, Or.inl ⟨Ei9, Fc9, Fv9, ⟨((Bv.1.ext E6).keep K9 (ninS (Nat.ne_of_lt lt_t2_b6) nin0)), Bv.2⟩, own_nw (fun j hj => hu j (by omega)) (by omega)⟩⟩
theorem ru_nsB (a1 : Addr) (kA : ClassId) (cs : List UInt16) (nx nF : Nat) (B1 : Bar Z h0 a1 kA (2 * cs.length) (enc1 cs)) (hc : cs.length ≤ 24) (h1 : 1 ≤ nx) (hnx : nx < cs.length) (hN : nF < nx) (hu1 : ∀ j, j < nF → ¬ (255 : Int32) < (cv (cs.getD j 0))) (hu2 : (255 : Int32) < (cv (cs.getD nF 0))) :
    Mt (l := l) hw (ws := ws) O0 ST Y_16 jdk_52_method_69_code 5 (some (.object "java/lang/String")) R_54 #[(.ref a1), (vL 0), (vN nx)] (Qs Z (cs.take nx) h0 n0) := by
  refine own_met (plainFor_of_name pn0) fun p e s m w_ meth c s₁ hx hby hml hZ hh hown hnm hret hlk X0 e0 => ?_
  have N0 := Fr.nil n0
  obtain ⟨S_cs, hG, S_fm, hF, S_ad, S_hi, S_lo⟩ := id ST
  have V_a1 := B1.1
  have l_a1 := B1.2
  have hN_a1 : (Int32.ofNat (2 * cs.length)).toNatClampNeg = (enc1 cs).length := by rw [l_a1]; exact own_n (by omega)
  have lt_a1 := V_a1.lt
  obtain ⟨T1, X1, e1, st1⟩ := getS2 X0 hx hZ hown (host := "") (Or.inl (tw hw 179 rfl)) Via.refl e0 (S_cs.ext O0.2) (g := (mkF m 8 (q_12 a1 nx) [])) rfl (d38 hby 2 rfl)
  obtain ⟨_, T2, Lc2, X2, hQ2, st2⟩ := own_sc X1 hx hZ (y := Y_47) hown hml (tw hw 180 rfl) (tw hw 181 rfl) (ru_kB hw O0 ST a1 kA cs nx nF ⟨V_a1, l_a1⟩ hc h1 hnx hN hu1 hu2) (tw hw 182 rfl) (tw hw 78 rfl) e1 (W := 0) (Ls := (q_12 a1 nx)) (argsL := [(.ref a1), (vL 0), (vN nx)]) (rest := []) (lenOf pd27 rfl) (d38 hby 7 rfl)
  obtain ⟨h2, e2⟩ : ∃ z, T2.heap = z := ⟨_, rfl⟩
  rw [e2] at hQ2
  obtain ⟨t2, kt2, rfl, Nq2, K2, szt2, Bt2, Et2⟩ := hQ2
  have N2 := Fr.app N0 Nq2
  have O3 := O0.keep K2 all0
  have kp4 : Keep h0 h2 [] := (Keep.refl h0 []).trans K2 all0
  have sz_t2 := Nat.le_trans (Keep.refl h0 []).1 szt2
  have g_t2 : n0 ≤ t2 := Nat.le_trans (Nat.le_trans (Nat.le_of_eq O0.1.symm) O0.2.1) sz_t2
  have lt_a1_t2 : a1 < t2 := Nat.lt_of_lt_of_le lt_a1 sz_t2
  have htk : (cs.take nx).length = nx := by rw [List.length_take]; omega
  have Bu := Bt2
  have Bv : Bar Z h2 t2 kt2 (2 * (cs.take nx).length) (enc1 (cs.take nx)) := by rw [htk]; exact Bu
  obtain ⟨_, T5, Lc5, X5, hQ5, st5⟩ := own_sc X2 hx hZ (y := Y_19) hown hml (tw hw 213 rfl) (tw hw 103 rfl) (ru_cf1 hw O3 ST t2 kt2 (enc1 (cs.take nx)) nx ⟨(by have q := Bv.1; rw [htk] at q; exact q), Bu.2⟩ h1 (by omega)) (tw hw 104 rfl) (tw hw 78 rfl) e2 (W := 0) (Ls := (q_78 a1 nx t2)) (argsL := [(.ref t2), (vN nx)]) (rest := []) (lenOf pd16 rfl) (d38 hby 11 rfl)
  obtain ⟨rfl, Nq5, e5⟩ := hQ5
  have N5 := Fr.app N2 Nq5
  obtain ⟨T6, h6, X6, e6, E6, A6, D6, U6, st6⟩ := newO X5 hx hZ hown (tw hw 214 rfl) (tw hw 13 rfl) (tw hw 14 rfl) e5 (g := (mkF m 28 (q_95 a1 nx t2) [])) rfl (d38 hby 13 rfl) (by decide) (by decide)
  obtain ⟨b6, g6⟩ : ∃ z, z = h2.size := ⟨_, rfl⟩
  rw [← g6] at A6 D6 U6 st6
  have g_b6 : n0 ≤ b6 := by rw [g6]; exact Nat.le_trans (Nat.le_of_eq O3.1.symm) O3.2.1
  have sz_b6 : h0.size ≤ b6 := by rw [g6]; exact kp4.1
  have lt_t2_b6 : t2 < b6 := by rw [g6]; exact Bv.1.lt
  have lt_a1_b6 : a1 < b6 := Nat.lt_of_lt_of_le lt_a1 sz_b6
  have O7 := O3.ext E6
  have kp8 := kp4.ext E6
  have F_value_b6 : Fld Z h6 b6 "java/lang/String" "value" "[B" .null := D6 (Or.inr (tw hw 27 rfl)) (ty := (.array .byte)) (by decide)
  have F_coder_b6 : Fld Z h6 b6 "java/lang/String" "coder" "B" (vL 0) := D6 (Or.inr (tw hw 28 rfl)) (ty := .byte) (by decide)
  obtain ⟨_, T9, Lc9, X9, hQ9, st9⟩ := own_ic X6 hx hZ (y := Y_27) rfl hown hml (tw hw 215 rfl) (tw hw 216 rfl) (rs_ib1 hw O7 ST b6 t2 A6 F_value_b6 F_coder_b6 g_b6) (tw hw 217 rfl) (tw hw 14 rfl) e6 (W := 1) (Ls := (q_95 a1 nx t2)) (b := b6) (argsL := [(.ref t2), (vL 1)]) (rest := [(.ref b6)]) (lenOf pd37 rfl) (d38 hby 17 rfl)
  obtain ⟨h9, e9⟩ : ∃ z, T9.heap = z := ⟨_, rfl⟩
  rw [e9] at hQ9
  obtain ⟨rfl, Nq9, K9, Ei9, Fc9, Fv9⟩ := hQ9
  have N9 := Fr.app N5 Nq9
  have O10 := O7.keep K9 (allS g_b6 all0)
  have kp11 := kp8.trans K9 (allS (Or.inr sz_b6) all0)
  refine own_lvA X9 hx hlk hret rfl (d38 hby 18 rfl) (by decide) (by decide) (w := (.ref b6)) rfl (Ls := (q_95 a1 nx t2)) (rest := []) (fun _ k => castTop (ef_ru_tb m a1 (0 : Int32) (Int32.ofNat nx)) ?_) ?_
  · refine zl X0 hx (d38 hby 0 rfl) rfl <| zf X0 hx 1 8 (d38 hby 1 rfl) ((if0 _ _).trans (feq (fun q => absurd ((own_eq (a := nx) (b := 0) (by omega) (by omega)).mp q) (by omega))).2) <| st1 _ <| zg X1 hx (d38 hby 3 rfl) ((if0 _ _).trans (feq hG).1) <| za X1 hx (d38 hby 4 rfl) rfl rfl <| zl X1 hx (d38 hby 5 rfl) rfl <| zl X1 hx (d38 hby 6 rfl) rfl <| st2 _ <| XS.astoreN X2.here hx rfl (d38 hby 8 rfl) rfl rfl (l' := (q_78 a1 nx t2)) rfl <| za X2 hx (d38 hby 9 rfl) rfl rfl <| zl X2 hx (d38 hby 10 rfl) rfl <| st5 _ <| zt X5 hx (d38 hby 12 rfl) (Ls' := (q_95 a1 nx t2)) rfl <| st6 _ <| XS.dup X6.here hx rfl (d38 hby 14 rfl) rfl rfl <| za X6 hx (d38 hby 15 rfl) rfl rfl <| zm X6 hx (d38 hby 16 rfl) rfl <| st9 _ ?_
    exact k
  · rw [e9]
    exact ⟨b6, t2, _, rfl, N9, kp11, sz_b6, sz_t2, Or.inr ⟨⟨Ei9, Fc9, Fv9, ⟨((Bv.1.ext E6).keep K9 (ninS (Nat.ne_of_lt lt_t2_b6) nin0)), Bv.2⟩⟩, own_wd (n := nF) (by omega) (by rw [own_tkg hN (by omega)]; exact hu2)⟩⟩
theorem d86 : Dl cb66 [(0, .iload_n 2, 1), (1, .ifCond .ne 6, 3), (7, .new 1, 3), (10, .dup, 1), (11, .aload_n 0, 1), (12, .iload_n 1, 1), (13, .iload_n 1, 1), (14, .iload_n 2, 1), (15, .iadd, 1), (16, .invokestatic 232, 3), (19, .iconst 0, 1), (20, .invokespecial 112, 3), (23, .areturn, 1), (4, .ldc 151, 2), (6, .areturn, 1)] := dlk (by decide +kernel)
theorem rl_ns (a1 : Addr) (kA : ClassId) (cs : List UInt16) (nx : Nat) (B1 : Bar Z h0 a1 kA cs.length (cs.map cLo)) (hc : cs.length ≤ 24) (h1 : 1 ≤ nx) (hnx : nx < cs.length) (hu : ∀ u ∈ cs, u < 256) :
    Mt (l := l) hw (ws := ws) O0 ST Y_32 jdk_43_method_47_code 3 (some (.object "java/lang/String")) R_55 #[(.ref a1), (vL 0), (vN nx)] (Qs Z (cs.take nx) h0 n0) := by
  refine own_met (plainFor_of_name pn3) fun p e s m w_ meth c s₁ hx hby hml hZ hh hown hnm hret hlk X0 e0 => ?_
  have N0 := Fr.nil n0
  have V_a1 := B1.1
  have l_a1 := B1.2
  have hN_a1 : (Int32.ofNat cs.length).toNatClampNeg = (cs.map cLo).length := by rw [l_a1]; exact own_n (by omega)
  have lt_a1 := V_a1.lt
  obtain ⟨T1, h1, X1, e1, E1, A1, D1, U1, st1⟩ := newO X0 hx hZ hown (tw hw 398 rfl) (tw hw 13 rfl) (tw hw 14 rfl) e0 (g := (mkF m 7 (q_23 a1 nx) [])) rfl (d86 hby 2 rfl) (by decide) (by decide)
  obtain ⟨b1, g1⟩ : ∃ z, z = h0.size := ⟨_, rfl⟩
  rw [← g1] at A1 D1 U1 st1
  have g_b1 : n0 ≤ b1 := by rw [g1]; exact Nat.le_trans (Nat.le_of_eq O0.1.symm) O0.2.1
  have sz_b1 : h0.size ≤ b1 := by rw [g1]; exact (Keep.refl h0 []).1
  have lt_a1_b1 : a1 < b1 := Nat.lt_of_lt_of_le lt_a1 sz_b1
  have O2 := O0.ext E1
  have kp3 : Keep h0 h1 [] := (Keep.refl h0 []).ext E1
  have F_value_b1 : Fld Z h1 b1 "java/lang/String" "value" "[B" .null := D1 (Or.inr (tw hw 27 rfl)) (ty := (.array .byte)) (by decide)
  have F_coder_b1 : Fld Z h1 b1 "java/lang/String" "coder" "B" (vL 0) := D1 (Or.inr (tw hw 28 rfl)) (ty := .byte) (by decide)
  obtain ⟨_, T4, Lc4, X4, hQ4, st4⟩ := own_sc X1 hx hZ (y := Y_28) hown hml (tw hw 399 rfl) (tw hw 196 rfl) (ra_crA hw O2 ST a1 kA cs.length (cs.map cLo) nx ⟨(V_a1.ext E1), l_a1⟩ (by omega) hnx) (tw hw 198 rfl) (tw hw 197 rfl) e1 (W := 2) (Ls := (q_23 a1 nx)) (argsL := [(.ref a1), (vL 0), (vN nx)]) (rest := [(.ref b1), (.ref b1)]) (lenOf pd27 rfl) (d86 hby 9 rfl)
  obtain ⟨h4, e4⟩ : ∃ z, T4.heap = z := ⟨_, rfl⟩
  rw [e4] at hQ4
  obtain ⟨t4, kt4, rfl, Nq4, K4, szt4, Bt4, Et4⟩ := hQ4
  have N4 := Fr.app N0 Nq4
  have O5 := O2.keep K4 all0
  have kp6 := kp3.trans K4 all0
  have sz_t4 := Nat.le_trans kp3.1 szt4
  have g_t4 : n0 ≤ t4 := Nat.le_trans (Nat.le_trans (Nat.le_of_eq O0.1.symm) O0.2.1) sz_t4
  have lt_b1_t4 : b1 < t4 := Nat.lt_of_lt_of_le A1.lt szt4
  have lt_a1_t4 : a1 < t4 := Nat.lt_of_lt_of_le lt_a1 sz_t4
  have htk : (cs.take nx).length = nx := by rw [List.length_take]; omega
  have Bu : Bar Z h4 t4 kt4 nx ((cs.take nx).map cLo) := by rw [← List.map_take] at Bt4; exact Bt4
  have Bv : Bar Z h4 t4 kt4 (cs.take nx).length ((cs.take nx).map cLo) := by rw [htk]; exact Bu
  obtain ⟨_, T7, Lc7, X7, hQ7, st7⟩ := own_ic X4 hx hZ (y := Y_27) rfl hown hml (tw hw 400 rfl) (tw hw 216 rfl) (rs_ib0 hw O5 ST b1 t4 (A1.keep K4) (F_value_b1.keep K4 nin0) (F_coder_b1.keep K4 nin0) g_b1) (tw hw 217 rfl) (tw hw 14 rfl) e4 (W := 1) (Ls := (q_23 a1 nx)) (b := b1) (argsL := [(.ref t4), (vL 0)]) (rest := [(.ref b1)]) (lenOf pd37 rfl) (d86 hby 11 rfl)
  obtain ⟨h7, e7⟩ : ∃ z, T7.heap = z := ⟨_, rfl⟩
  rw [e7] at hQ7
  obtain ⟨rfl, Nq7, K7, Ei7, Fc7, Fv7⟩ := hQ7
  have N7 := Fr.app N4 Nq7
  have O8 := O5.keep K7 (allS g_b1 all0)
  have kp9 := kp6.trans K7 (allS (Or.inr sz_b1) all0)
  refine own_lvA X7 hx hlk hret rfl (d86 hby 12 rfl) (by decide) (by decide) (w := (.ref b1)) rfl (Ls := (q_23 a1 nx)) (rest := []) (fun _ k => castTop (ef_ru_put m a1 (0 : Int32) (Int32.ofNat nx)) ?_) ?_
  · refine zl X0 hx (d86 hby 0 rfl) rfl <| zf X0 hx 1 7 (d86 hby 1 rfl) ((if0 _ _).trans (feq (fun q => absurd ((own_eq (a := nx) (b := 0) (by omega) (by omega)).mp q) (by omega))).2) <| st1 _ <| XS.dup X1.here hx rfl (d86 hby 3 rfl) rfl rfl <| za X1 hx (d86 hby 4 rfl) rfl rfl <| zl X1 hx (d86 hby 5 rfl) rfl <| zl X1 hx (d86 hby 6 rfl) rfl <| zl X1 hx (d86 hby 7 rfl) rfl <| XS.iadd X1.here hx rfl (d86 hby 8 rfl) rfl ?_
    show Go p e w_ T1 m 16 (q_23 a1 nx) [(.int ((0 : Int32) + (Int32.ofNat nx))), (.int (0 : Int32)), (.ref a1), (.ref b1), (.ref b1)] _
    rw [show ((0 : Int32) + (Int32.ofNat nx)) = (Int32.ofNat nx) from Int32.zero_add _]
    refine st4 _ <| zc X4 hx (d86 hby 10 rfl) <| st7 _ ?_
    exact k
  · rw [e7]
    exact ⟨b1, t4, _, rfl, N7, kp9, sz_b1, sz_t4, Or.inl ⟨Ei7, Fc7, Fv7, ⟨(Bv.1.keep K7 (ninS (Ne.symm (Nat.ne_of_lt lt_b1_t4)) nin0)), Bv.2⟩, own_tkal hu⟩⟩
theorem d36 : Dl cb67 [(0, .aload_n 0, 1), (1, .invokevirtual 505, 3), (4, .istore_n 3, 1), (5, .iload_n 1, 1), (6, .iload_n 2, 1), (7, .iload_n 3, 1), (8, .invokestatic 521, 3), (11, .iload_n 1, 1), (12, .ifCond .ne 10, 3), (15, .iload_n 2, 1), (16, .iload_n 3, 1), (17, .if_icmp .ne 5, 3), (22, .iload_n 2, 1), (23, .iload_n 1, 1), (24, .isub, 1), (25, .istore 4, 2), (27, .aload_n 0, 1), (28, .invokevirtual 492, 3), (31, .ifCond .eq 16, 3), (34, .aload_n 0, 1), (35, .getfield 9, 3), (38, .iload_n 1, 1), (39, .iload 4, 2), (41, .invokestatic 685, 3), (44, .goto 13, 3), (57, .areturn, 1), (47, .aload_n 0, 1), (48, .getfield 9, 3), (51, .iload_n 1, 1), (52, .iload 4, 2), (54, .invokestatic 689, 3)] := dlk (by decide +kernel)
theorem pd38 : parseMethodDescriptor "(III)V" = some ⟨[.int, .int, .int], none⟩ := by decide +kernel
theorem pd39 : parseMethodDescriptor "([BII)Ljava/lang/String;" = some ⟨[(.array .byte), .int, .int], some (.object "java/lang/String")⟩ := by decide +kernel
theorem rs_sb0 (a1 bA : Addr) (kA : ClassId) (cs : List UInt16) (nx : Nat) (HS : Str0 Z h0 a1 bA kA cs) (hc : cs.length ≤ 24) (h1 : 1 ≤ nx) (hnx : nx < cs.length) :
    Mt (l := l) hw (ws := ws) O0 ST Y_5 jdk_42_method_92_code 5 (some (.object "java/lang/String")) R_14 #[(.ref a1), (vL 0), (vN nx)] (Qs Z (cs.take nx) h0 n0) := by
  refine own_met (plainFor_of_name pn2) fun p e s m w_ meth c s₁ hx hby hml hZ hh hown hnm hret hlk X0 e0 => ?_
  have N0 := Fr.nil n0
  obtain ⟨E_a1, Fc_a1, Fv_a1, B_bA, hu_a1⟩ := id HS
  have lt_a1 := E_a1.lt
  have V_bA := B_bA.1
  have l_bA := B_bA.2
  have hN_bA : (Int32.ofNat cs.length).toNatClampNeg = (cs.map cLo).length := by rw [l_bA]; exact own_n (by omega)
  have lt_bA := V_bA.lt
  obtain ⟨_, T1, Lc1, X1, hQ1, st1⟩ := own_vc X0 hx hZ (y := Y_0) hown hml (tw hw 57 rfl) (tw hw 42 rfl) (tw hw 44 rfl) (tw hw 43 rfl) (rs_len0 hw O0 ST a1 bA kA cs HS hc) (tw hw 45 rfl) (tw hw 14 rfl) e0 E_a1 (W := 0) (Ls := (q_12 a1 nx)) (argsL := []) (rest := []) (lenOf pd19 rfl) (d36 hby 1 rfl)
  obtain ⟨rfl, Nq1, e1⟩ := hQ1
  have N1 := Fr.app N0 Nq1
  obtain ⟨_, T2, Lc2, X2, hQ2, st2⟩ := own_sc X1 hx hZ (y := Y_14) hown hml (tw hw 172 rfl) (tw hw 173 rfl) (rs_cbe hw O0 ST 0 nx cs.length (by omega) (by omega) (by omega)) (tw hw 174 rfl) (tw hw 14 rfl) e1 (W := 0) (Ls := (q_19 a1 nx cs)) (argsL := [(vL 0), (vN nx), (vN cs.length)]) (rest := []) (lenOf pd38 rfl) (d36 hby 6 rfl)
  obtain ⟨rfl, Nq2, e2⟩ := hQ2
  have N2 := Fr.app N1 Nq2
  have pf3 : ∀ target, Go p e w_ T2 m 12 (q_19 a1 nx cs) [(vL 0)] target → Go p e w_ s₁ m 0 (q_12 a1 nx) [] target := by
    intro target k
    refine za X0 hx (d36 hby 0 rfl) rfl rfl <| st1 _ <| zs X1 hx (d36 hby 2 rfl) (Ls' := (q_19 a1 nx cs)) rfl <| zl X1 hx (d36 hby 3 rfl) rfl <| zl X1 hx (d36 hby 4 rfl) rfl <| zl X1 hx (d36 hby 5 rfl) rfl <| st2 _ <| zl X2 hx (d36 hby 7 rfl) rfl ?_
    exact k
  obtain ⟨_, T4, Lc4, X4, hQ4, st4⟩ := own_vc X2 hx hZ (y := Y_2) hown hml (tw hw 66 rfl) (tw hw 67 rfl) (tw hw 69 rfl) (tw hw 68 rfl) (rs_il0 hw O0 ST a1 bA kA cs HS hc) (tw hw 70 rfl) (tw hw 14 rfl) e2 E_a1 (W := 0) (Ls := (q_13 a1 nx cs)) (argsL := []) (rest := []) (lenOf pd6 rfl) (d36 hby 17 rfl)
  obtain ⟨rfl, Nq4, e4⟩ := hQ4
  have N4 := Fr.app N2 Nq4
  have pf5 : ∀ target, Go p e w_ T4 m 31 (q_13 a1 nx cs) [(vL 1)] target → Go p e w_ T2 m 12 (q_19 a1 nx cs) [(vL 0)] target := by
    intro target k
    refine zg X2 hx (d36 hby 8 rfl) ((if0 _ _).trans (teq (by decide)).2) <| zl X2 hx (d36 hby 9 rfl) rfl <| zl X2 hx (d36 hby 10 rfl) rfl <| zy X2 hx 17 22 (d36 hby 11 rfl) (feq (fun q => absurd ((own_eq (a := nx) (b := cs.length) (by omega) (by omega)).mp q) (by omega))).2 <| zl X2 hx (d36 hby 12 rfl) rfl <| zl X2 hx (d36 hby 13 rfl) rfl <| XS.isub X2.here hx rfl (d36 hby 14 rfl) rfl ?_
    show Go p e w_ T2 m 25 (q_19 a1 nx cs) [(.int ((Int32.ofNat nx) - (0 : Int32)))] _
    rw [show ((Int32.ofNat nx) - (0 : Int32)) = (Int32.ofNat nx) from own_sub (a := nx) (b := 0) (Nat.zero_le _)]
    refine zt X2 hx (d36 hby 15 rfl) (Ls' := (q_13 a1 nx cs)) rfl <| za X2 hx (d36 hby 16 rfl) rfl rfl <| st4 _ ?_
    exact k
  obtain ⟨T6, X6, e6, st6⟩ := getF X4 hx hZ hown (host := "") (Or.inl (tw hw 31 rfl)) Via.refl e4 Fv_a1 (g := (mkF m 35 (q_13 a1 nx cs) [(.ref a1)])) rfl rfl (d36 hby 20 rfl)
  obtain ⟨_, T7, Lc7, X7, hQ7, st7⟩ := own_sc X6 hx hZ (y := Y_32) hown hml (tw hw 395 rfl) (tw hw 396 rfl) (rl_ns hw O0 ST bA kA cs nx B_bA hc h1 hnx hu_a1) (tw hw 397 rfl) (tw hw 291 rfl) e6 (W := 0) (Ls := (q_13 a1 nx cs)) (argsL := [(.ref bA), (vL 0), (vN nx)]) (rest := []) (lenOf pd39 rfl) (d36 hby 23 rfl)
  obtain ⟨h7, e7⟩ : ∃ z, T7.heap = z := ⟨_, rfl⟩
  rw [e7] at hQ7
  obtain ⟨x7, bx7, kx7, rfl, Nq7, K7, sx7, sb7, Hx7⟩ := hQ7
  have N7 := Fr.app N4 Nq7
  have O8 := O0.keep K7 all0
  have kp9 : Keep h0 h7 [] := (Keep.refl h0 []).trans K7 all0
  have RR := Hx7
  refine own_lvA X7 hx hlk hret rfl (d36 hby 25 rfl) (by decide) (by decide) (w := (.ref x7)) rfl (Ls := (q_13 a1 nx cs)) (rest := []) (fun _ k => castTop (ef_ru_tb m a1 (0 : Int32) (Int32.ofNat nx)) ?_) ?_
  · refine pf3 _ <| pf5 _ <| zg X4 hx (d36 hby 18 rfl) ((if0 _ _).trans (feq (by decide)).1) <| za X4 hx (d36 hby 19 rfl) rfl rfl <| st6 _ <| zl X6 hx (d36 hby 21 rfl) rfl <| zm X6 hx (d36 hby 22 rfl) rfl <| st7 _ <| zo X7 hx 44 57 (d36 hby 24 rfl) ?_
    exact k
  · rw [e7]
    exact ⟨x7, bx7, _, rfl, N7, kp9, sx7, sb7, RR⟩
theorem rs_sbA (a1 bA : Addr) (kA : ClassId) (cs : List UInt16) (nx : Nat) (HS : Str1 Z h0 a1 bA kA cs) (hc : cs.length ≤ 24) (h1 : 1 ≤ nx) (hnx : nx < cs.length) (hu : ∀ j, j < nx → ¬ (255 : Int32) < (cv (cs.getD j 0))) :
    Mt (l := l) hw (ws := ws) O0 ST Y_5 jdk_42_method_92_code 5 (some (.object "java/lang/String")) R_14 #[(.ref a1), (vL 0), (vN nx)] (Qs Z (cs.take nx) h0 n0) := by
  refine own_met (plainFor_of_name pn2) fun p e s m w_ meth c s₁ hx hby hml hZ hh hown hnm hret hlk X0 e0 => ?_
  have N0 := Fr.nil n0
  obtain ⟨E_a1, Fc_a1, Fv_a1, B_bA⟩ := id HS
  have lt_a1 := E_a1.lt
  have V_bA := B_bA.1
  have l_bA := B_bA.2
  have hN_bA : (Int32.ofNat (2 * cs.length)).toNatClampNeg = (enc1 cs).length := by rw [l_bA]; exact own_n (by omega)
  have lt_bA := V_bA.lt
  obtain ⟨_, T1, Lc1, X1, hQ1, st1⟩ := own_vc X0 hx hZ (y := Y_0) hown hml (tw hw 57 rfl) (tw hw 42 rfl) (tw hw 44 rfl) (tw hw 43 rfl) (rs_len1 hw O0 ST a1 bA kA cs HS hc) (tw hw 45 rfl) (tw hw 14 rfl) e0 E_a1 (W := 0) (Ls := (q_12 a1 nx)) (argsL := []) (rest := []) (lenOf pd19 rfl) (d36 hby 1 rfl)
  obtain ⟨rfl, Nq1, e1⟩ := hQ1
  have N1 := Fr.app N0 Nq1
  obtain ⟨_, T2, Lc2, X2, hQ2, st2⟩ := own_sc X1 hx hZ (y := Y_14) hown hml (tw hw 172 rfl) (tw hw 173 rfl) (rs_cbe hw O0 ST 0 nx cs.length (by omega) (by omega) (by omega)) (tw hw 174 rfl) (tw hw 14 rfl) e1 (W := 0) (Ls := (q_19 a1 nx cs)) (argsL := [(vL 0), (vN nx), (vN cs.length)]) (rest := []) (lenOf pd38 rfl) (d36 hby 6 rfl)
  obtain ⟨rfl, Nq2, e2⟩ := hQ2
  have N2 := Fr.app N1 Nq2
  have pf3 : ∀ target, Go p e w_ T2 m 12 (q_19 a1 nx cs) [(vL 0)] target → Go p e w_ s₁ m 0 (q_12 a1 nx) [] target := by
    intro target k
    refine za X0 hx (d36 hby 0 rfl) rfl rfl <| st1 _ <| zs X1 hx (d36 hby 2 rfl) (Ls' := (q_19 a1 nx cs)) rfl <| zl X1 hx (d36 hby 3 rfl) rfl <| zl X1 hx (d36 hby 4 rfl) rfl <| zl X1 hx (d36 hby 5 rfl) rfl <| st2 _ <| zl X2 hx (d36 hby 7 rfl) rfl ?_
    exact k
  obtain ⟨_, T4, Lc4, X4, hQ4, st4⟩ := own_vc X2 hx hZ (y := Y_2) hown hml (tw hw 66 rfl) (tw hw 67 rfl) (tw hw 69 rfl) (tw hw 68 rfl) (rs_il1 hw O0 ST a1 bA kA cs HS hc) (tw hw 70 rfl) (tw hw 14 rfl) e2 E_a1 (W := 0) (Ls := (q_13 a1 nx cs)) (argsL := []) (rest := []) (lenOf pd6 rfl) (d36 hby 17 rfl)
  obtain ⟨rfl, Nq4, e4⟩ := hQ4
  have N4 := Fr.app N2 Nq4
  have pf5 : ∀ target, Go p e w_ T4 m 31 (q_13 a1 nx cs) [(vL 0)] target → Go p e w_ T2 m 12 (q_19 a1 nx cs) [(vL 0)] target := by
    intro target k
    refine zg X2 hx (d36 hby 8 rfl) ((if0 _ _).trans (teq (by decide)).2) <| zl X2 hx (d36 hby 9 rfl) rfl <| zl X2 hx (d36 hby 10 rfl) rfl <| zy X2 hx 17 22 (d36 hby 11 rfl) (feq (fun q => absurd ((own_eq (a := nx) (b := cs.length) (by omega) (by omega)).mp q) (by omega))).2 <| zl X2 hx (d36 hby 12 rfl) rfl <| zl X2 hx (d36 hby 13 rfl) rfl <| XS.isub X2.here hx rfl (d36 hby 14 rfl) rfl ?_
    show Go p e w_ T2 m 25 (q_19 a1 nx cs) [(.int ((Int32.ofNat nx) - (0 : Int32)))] _
    rw [show ((Int32.ofNat nx) - (0 : Int32)) = (Int32.ofNat nx) from own_sub (a := nx) (b := 0) (Nat.zero_le _)]
    refine zt X2 hx (d36 hby 15 rfl) (Ls' := (q_13 a1 nx cs)) rfl <| za X2 hx (d36 hby 16 rfl) rfl rfl <| st4 _ ?_
    exact k
  obtain ⟨T6, X6, e6, st6⟩ := getF X4 hx hZ hown (host := "") (Or.inl (tw hw 31 rfl)) Via.refl e4 Fv_a1 (g := (mkF m 48 (q_13 a1 nx cs) [(.ref a1)])) rfl rfl (d36 hby 27 rfl)
  obtain ⟨_, T7, Lc7, X7, hQ7, st7⟩ := own_sc X6 hx hZ (y := Y_16) hown hml (tw hw 176 rfl) (tw hw 177 rfl) (ru_nsA hw O0 ST bA kA cs nx B_bA hc h1 hnx hu) (tw hw 178 rfl) (tw hw 78 rfl) e6 (W := 0) (Ls := (q_13 a1 nx cs)) (argsL := [(.ref bA), (vL 0), (vN nx)]) (rest := []) (lenOf pd39 rfl) (d36 hby 30 rfl)
  obtain ⟨h7, e7⟩ : ∃ z, T7.heap = z := ⟨_, rfl⟩
  rw [e7] at hQ7
  obtain ⟨x7, bx7, kx7, rfl, Nq7, K7, sx7, sb7, Hx7⟩ := hQ7
  have N7 := Fr.app N4 Nq7
  have O8 := O0.keep K7 all0
  have kp9 : Keep h0 h7 [] := (Keep.refl h0 []).trans K7 all0
  have RR := Hx7
  refine own_lvA X7 hx hlk hret rfl (d36 hby 25 rfl) (by decide) (by decide) (w := (.ref x7)) rfl (Ls := (q_13 a1 nx cs)) (rest := []) (fun _ k => castTop (ef_ru_tb m a1 (0 : Int32) (Int32.ofNat nx)) ?_) ?_
  · refine pf3 _ <| pf5 _ <| zf X4 hx 31 47 (d36 hby 18 rfl) ((if0 _ _).trans (teq (by decide)).1) <| za X4 hx (d36 hby 26 rfl) rfl rfl <| st6 _ <| zl X6 hx (d36 hby 28 rfl) rfl <| zm X6 hx (d36 hby 29 rfl) rfl <| st7 _ ?_
    exact k
  · rw [e7]
    exact ⟨x7, bx7, _, rfl, N7, kp9, sx7, sb7, RR⟩
theorem rs_sbB (a1 bA : Addr) (kA : ClassId) (cs : List UInt16) (nx nF : Nat) (HS : Str1 Z h0 a1 bA kA cs) (hc : cs.length ≤ 24) (h1 : 1 ≤ nx) (hnx : nx < cs.length) (hN : nF < nx) (hu1 : ∀ j, j < nF → ¬ (255 : Int32) < (cv (cs.getD j 0))) (hu2 : (255 : Int32) < (cv (cs.getD nF 0))) :
    Mt (l := l) hw (ws := ws) O0 ST Y_5 jdk_42_method_92_code 5 (some (.object "java/lang/String")) R_14 #[(.ref a1), (vL 0), (vN nx)] (Qs Z (cs.take nx) h0 n0) := by
  refine own_met (plainFor_of_name pn2) fun p e s m w_ meth c s₁ hx hby hml hZ hh hown hnm hret hlk X0 e0 => ?_
  have N0 := Fr.nil n0
  obtain ⟨E_a1, Fc_a1, Fv_a1, B_bA⟩ := id HS
  have lt_a1 := E_a1.lt
  have V_bA := B_bA.1
  have l_bA := B_bA.2
  have hN_bA : (Int32.ofNat (2 * cs.length)).toNatClampNeg = (enc1 cs).length := by rw [l_bA]; exact own_n (by omega)
  have lt_bA := V_bA.lt
  obtain ⟨_, T1, Lc1, X1, hQ1, st1⟩ := own_vc X0 hx hZ (y := Y_0) hown hml (tw hw 57 rfl) (tw hw 42 rfl) (tw hw 44 rfl) (tw hw 43 rfl) (rs_len1 hw O0 ST a1 bA kA cs HS hc) (tw hw 45 rfl) (tw hw 14 rfl) e0 E_a1 (W := 0) (Ls := (q_12 a1 nx)) (argsL := []) (rest := []) (lenOf pd19 rfl) (d36 hby 1 rfl)
  obtain ⟨rfl, Nq1, e1⟩ := hQ1
  have N1 := Fr.app N0 Nq1
  obtain ⟨_, T2, Lc2, X2, hQ2, st2⟩ := own_sc X1 hx hZ (y := Y_14) hown hml (tw hw 172 rfl) (tw hw 173 rfl) (rs_cbe hw O0 ST 0 nx cs.length (by omega) (by omega) (by omega)) (tw hw 174 rfl) (tw hw 14 rfl) e1 (W := 0) (Ls := (q_19 a1 nx cs)) (argsL := [(vL 0), (vN nx), (vN cs.length)]) (rest := []) (lenOf pd38 rfl) (d36 hby 6 rfl)
  obtain ⟨rfl, Nq2, e2⟩ := hQ2
  have N2 := Fr.app N1 Nq2
  have pf3 : ∀ target, Go p e w_ T2 m 12 (q_19 a1 nx cs) [(vL 0)] target → Go p e w_ s₁ m 0 (q_12 a1 nx) [] target := by
    intro target k
    refine za X0 hx (d36 hby 0 rfl) rfl rfl <| st1 _ <| zs X1 hx (d36 hby 2 rfl) (Ls' := (q_19 a1 nx cs)) rfl <| zl X1 hx (d36 hby 3 rfl) rfl <| zl X1 hx (d36 hby 4 rfl) rfl <| zl X1 hx (d36 hby 5 rfl) rfl <| st2 _ <| zl X2 hx (d36 hby 7 rfl) rfl ?_
    exact k
  obtain ⟨_, T4, Lc4, X4, hQ4, st4⟩ := own_vc X2 hx hZ (y := Y_2) hown hml (tw hw 66 rfl) (tw hw 67 rfl) (tw hw 69 rfl) (tw hw 68 rfl) (rs_il1 hw O0 ST a1 bA kA cs HS hc) (tw hw 70 rfl) (tw hw 14 rfl) e2 E_a1 (W := 0) (Ls := (q_13 a1 nx cs)) (argsL := []) (rest := []) (lenOf pd6 rfl) (d36 hby 17 rfl)
  obtain ⟨rfl, Nq4, e4⟩ := hQ4
  have N4 := Fr.app N2 Nq4
  have pf5 : ∀ target, Go p e w_ T4 m 31 (q_13 a1 nx cs) [(vL 0)] target → Go p e w_ T2 m 12 (q_19 a1 nx cs) [(vL 0)] target := by
    intro target k
    refine zg X2 hx (d36 hby 8 rfl) ((if0 _ _).trans (teq (by decide)).2) <| zl X2 hx (d36 hby 9 rfl) rfl <| zl X2 hx (d36 hby 10 rfl) rfl <| zy X2 hx 17 22 (d36 hby 11 rfl) (feq (fun q => absurd ((own_eq (a := nx) (b := cs.length) (by omega) (by omega)).mp q) (by omega))).2 <| zl X2 hx (d36 hby 12 rfl) rfl <| zl X2 hx (d36 hby 13 rfl) rfl <| XS.isub X2.here hx rfl (d36 hby 14 rfl) rfl ?_
    show Go p e w_ T2 m 25 (q_19 a1 nx cs) [(.int ((Int32.ofNat nx) - (0 : Int32)))] _
    rw [show ((Int32.ofNat nx) - (0 : Int32)) = (Int32.ofNat nx) from own_sub (a := nx) (b := 0) (Nat.zero_le _)]
    refine zt X2 hx (d36 hby 15 rfl) (Ls' := (q_13 a1 nx cs)) rfl <| za X2 hx (d36 hby 16 rfl) rfl rfl <| st4 _ ?_
    exact k
  obtain ⟨T6, X6, e6, st6⟩ := getF X4 hx hZ hown (host := "") (Or.inl (tw hw 31 rfl)) Via.refl e4 Fv_a1 (g := (mkF m 48 (q_13 a1 nx cs) [(.ref a1)])) rfl rfl (d36 hby 27 rfl)
  obtain ⟨_, T7, Lc7, X7, hQ7, st7⟩ := own_sc X6 hx hZ (y := Y_16) hown hml (tw hw 176 rfl) (tw hw 177 rfl) (ru_nsB hw O0 ST bA kA cs nx nF B_bA hc h1 hnx hN hu1 hu2) (tw hw 178 rfl) (tw hw 78 rfl) e6 (W := 0) (Ls := (q_13 a1 nx cs)) (argsL := [(.ref bA), (vL 0), (vN nx)]) (rest := []) (lenOf pd39 rfl) (d36 hby 30 rfl)
  obtain ⟨h7, e7⟩ : ∃ z, T7.heap = z := ⟨_, rfl⟩
  rw [e7] at hQ7
  obtain ⟨x7, bx7, kx7, rfl, Nq7, K7, sx7, sb7, Hx7⟩ := hQ7
  have N7 := Fr.app N4 Nq7
  have O8 := O0.keep K7 all0
  have kp9 : Keep h0 h7 [] := (Keep.refl h0 []).trans K7 all0
  have RR := Hx7
  refine own_lvA X7 hx hlk hret rfl (d36 hby 25 rfl) (by decide) (by decide) (w := (.ref x7)) rfl (Ls := (q_13 a1 nx cs)) (rest := []) (fun _ k => castTop (ef_ru_tb m a1 (0 : Int32) (Int32.ofNat nx)) ?_) ?_
  · refine pf3 _ <| pf5 _ <| zf X4 hx 31 47 (d36 hby 18 rfl) ((if0 _ _).trans (teq (by decide)).1) <| za X4 hx (d36 hby 26 rfl) rfl rfl <| st6 _ <| zl X6 hx (d36 hby 28 rfl) rfl <| zm X6 hx (d36 hby 29 rfl) rfl <| st7 _ ?_
    exact k
  · rw [e7]
    exact ⟨x7, bx7, _, rfl, N7, kp9, sx7, sb7, RR⟩
theorem own_orle {x b : Addr} {m z : Nat} (h : x = b ∨ m ≤ x) (g : z ≤ b) (q : z ≤ m) : z ≤ x := h.elim (fun e => e ▸ g) (fun e => Nat.le_trans q e)
theorem own_orlt {x b y : Addr} {m : Nat} (h : x = b ∨ m ≤ x) (g : y < b) (q : y < m) : y < x := h.elim (fun e => e ▸ g) (fun e => Nat.lt_of_lt_of_le q e)
theorem own_orsf {Z : State} {EL : List (String × Nat)} {vm : Vm} {h : Heap} {x b : Addr} (o : x = b ∨ h.size ≤ x) (S : Safe Z EL vm h b) : Safe Z EL vm h x := o.elim (fun e => e ▸ S) (fun g => Safe.new g)
theorem own_sB {cs : List UInt16} {tl : List Int32} {u : UInt16} (h : 2 ≤ tl.length) : put (enc1 cs ++ tl) cs.length u = enc1 (cs ++ [u]) ++ tl.drop 2 := own_w2 (ds := [u]) h
def Dgt (Z : State) (dA : Addr) (kG : ClassId) : Prop := Sta Z Z.heap "java/lang/Integer" "DigitOnes" "[B" (.ref dA) ∧ Arv Z Z.heap dA kG .byte (Int32.ofNat 100) (dgL.map Value.int) (.int (0 : Int32))
theorem d51 : Dl cb68 [(0, .aload_n 0, 1), (1, .aload_n 1, 1), (2, .invokevirtual 23, 3), (5, .areturn, 1)] := dlk (by decide +kernel)
theorem pd40 : parseMethodDescriptor "(Ljava/lang/String;)Ljava/lang/StringBuilder;" = some ⟨[(.object "java/lang/String")], some (.object "java/lang/StringBuilder")⟩ := by decide +kernel
theorem rb_br0 (a1 bA : Addr) (kA : ClassId) (LB : Nat) (cs : List UInt16) (a2 bS : Addr) (kS : ClassId) (ds : List UInt16) (HB : Sb0 Z h0 a1 bA kA LB cs.length cs) (hnn : cs.length ≤ 24) (g_a1 : n0 ≤ a1) (g_bA : n0 ≤ bA) (HS : Str0 Z h0 a2 bS kS ds) (hds : ds.length ≤ 24) (htot : cs.length + ds.length ≤ 24) (nSb : bS ≠ bA) :
    Mt (l := l) hw (ws := ws) O0 ST Y_48 jdk_67_method_80_code 2 (some (.object "java/lang/AbstractStringBuilder")) R_36 #[(.ref a1), (.ref a2)] (Qsv (fun h b k LB' => Sb0 Z h a1 b k LB' (cs ++ ds).length (cs ++ ds) ∧ (LB' = LB ∨ 2 * LB + 2 ≤ LB')) (some (.ref a1)) a1 bA h0 n0) := by
  refine own_met (plainFor_of_name pn7) fun p e s m w_ meth c s₁ hx hby hml hZ hh hown hnm hret hlk X0 e0 => ?_
  have N0 := Fr.nil n0
  have Es := HB.1
  obtain ⟨_, T1, Lc1, X1, hQ1, st1⟩ := own_vc X0 hx hZ (y := Y_7) hown hml (tw hw 242 rfl) (tw hw 243 rfl) (tw hw 245 rfl) (tw hw 244 rfl) (rb_ap00 hw O0 ST a1 bA kA LB cs a2 bS kS ds HB hnn g_a1 g_bA HS hds htot nSb) (tw hw 246 rfl) (tw hw 123 rfl) e0 Es (W := 0) (Ls := (q_1 a1 a2)) (argsL := [(.ref a2)]) (rest := []) (lenOf pd40 rfl) (d51 hby 2 rfl)
  obtain ⟨h1, e1⟩ : ∃ z, T1.heap = z := ⟨_, rfl⟩
  rw [e1] at hQ1
  obtain ⟨rfl, Nq1, K1, R1⟩ := hQ1
  have N1 := Fr.app N0 Nq1
  have O2 := O0.keep K1 (allS g_a1 (allS g_bA all0))
  have kp3 : Keep h0 h1 [a1, bA] := (Keep.refl h0 [a1, bA]).trans K1 (allS (Or.inl (List.mem_of_getElem? (i := 0) rfl)) (allS (Or.inl (List.mem_of_getElem? (i := 1) rfl)) all0))
  have RR := R1
  refine own_lvA X1 hx hlk hret rfl (d51 hby 3 rfl) (by decide) (by decide) (w := (.ref a1)) rfl (Ls := (q_1 a1 a2)) (rest := []) (fun _ k => castTop (ef_rs_iA m a1 a2) ?_) ?_
  · refine za X0 hx (d51 hby 0 rfl) rfl rfl <| za X0 hx (d51 hby 1 rfl) rfl rfl <| st1 _ ?_
    exact k
  · rw [e1]
    exact ⟨rfl, N1, kp3, RR⟩
theorem rb_br1 (a1 bA : Addr) (kA : ClassId) (LB : Nat) (cs : List UInt16) (a2 bS : Addr) (kS : ClassId) (ds : List UInt16) (HB : Sb1 Z h0 a1 bA kA LB cs.length cs) (hnn : cs.length ≤ 24) (g_a1 : n0 ≤ a1) (g_bA : n0 ≤ bA) (HS : Str1 Z h0 a2 bS kS ds) (hds : ds.length ≤ 24) (htot : cs.length + ds.length ≤ 24) (nSb : bS ≠ bA) :
    Mt (l := l) hw (ws := ws) O0 ST Y_48 jdk_67_method_80_code 2 (some (.object "java/lang/AbstractStringBuilder")) R_36 #[(.ref a1), (.ref a2)] (Qsv (fun h b k LB' => Sb1 Z h a1 b k LB' (cs ++ ds).length (cs ++ ds) ∧ (LB' = LB ∨ 2 * LB + 2 ≤ LB')) (some (.ref a1)) a1 bA h0 n0) := by
  refine own_met (plainFor_of_name pn7) fun p e s m w_ meth c s₁ hx hby hml hZ hh hown hnm hret hlk X0 e0 => ?_
  have N0 := Fr.nil n0
  have Es := HB.1
  obtain ⟨_, T1, Lc1, X1, hQ1, st1⟩ := own_vc X0 hx hZ (y := Y_7) hown hml (tw hw 242 rfl) (tw hw 243 rfl) (tw hw 245 rfl) (tw hw 244 rfl) (rb_ap11 hw O0 ST a1 bA kA LB cs a2 bS kS ds HB hnn g_a1 g_bA HS hds htot nSb) (tw hw 246 rfl) (tw hw 123 rfl) e0 Es (W := 0) (Ls := (q_1 a1 a2)) (argsL := [(.ref a2)]) (rest := []) (lenOf pd40 rfl) (d51 hby 2 rfl)
  obtain ⟨h1, e1⟩ : ∃ z, T1.heap = z := ⟨_, rfl⟩
  rw [e1] at hQ1
  obtain ⟨rfl, Nq1, K1, R1⟩ := hQ1
  have N1 := Fr.app N0 Nq1
  have O2 := O0.keep K1 (allS g_a1 (allS g_bA all0))
  have kp3 : Keep h0 h1 [a1, bA] := (Keep.refl h0 [a1, bA]).trans K1 (allS (Or.inl (List.mem_of_getElem? (i := 0) rfl)) (allS (Or.inl (List.mem_of_getElem? (i := 1) rfl)) all0))
  have RR := R1
  refine own_lvA X1 hx hlk hret rfl (d51 hby 3 rfl) (by decide) (by decide) (w := (.ref a1)) rfl (Ls := (q_1 a1 a2)) (rest := []) (fun _ k => castTop (ef_rs_iA m a1 a2) ?_) ?_
  · refine za X0 hx (d51 hby 0 rfl) rfl rfl <| za X0 hx (d51 hby 1 rfl) rfl rfl <| st1 _ ?_
    exact k
  · rw [e1]
    exact ⟨rfl, N1, kp3, RR⟩
theorem d50 : Dl cb69 [(0, .aload_n 0, 1), (1, .invokespecial 3, 3), (4, .aload_n 1, 1), (5, .invokevirtual 32, 3), (8, .istore_n 2, 1), (9, .iload_n 2, 1), (10, .ldc 38, 2), (12, .if_icmp .ge 10, 3), (15, .iload_n 2, 1), (16, .bipush 16, 2), (18, .iadd, 1), (19, .goto 5, 3), (24, .istore_n 3, 1), (25, .aload_n 1, 1), (26, .invokevirtual 40, 3), (29, .istore 4, 2), (31, .aload_n 0, 1), (32, .iload 4, 2), (34, .putfield 22, 3), (37, .aload_n 0, 1), (38, .iload 4, 2), (40, .ifCond .ne 9, 3), (43, .iload_n 3, 1), (44, .newarray .byte, 2), (46, .goto 7, 3), (53, .putfield 15, 3), (56, .aload_n 0, 1), (57, .aload_n 1, 1), (58, .invokevirtual 43, 3), (61, .pop, 1), (62, .return_, 1), (49, .iload_n 3, 1), (50, .invokestatic 26, 3)] := dlk (by decide +kernel)
theorem ef_rb_as0 (m : MethodId) (x0 : Addr) (x1 : Addr) : entryFrame m #[(.ref x0), (.ref x1)] 5 = mkF m 0 #[.val (.ref x0), .val (.ref x1), .unset, .unset, .unset] [] := by first | (simp [entryFrame, mkF, argsToLocals, Value.category]; done) | rfl
theorem rb_as0 (a1 a2 bS : Addr) (kS : ClassId) (ds : List UInt16) (E_a : Exa Z h0 a1 "java/lang/StringBuilder") (F_v : Fld Z h0 a1 "java/lang/AbstractStringBuilder" "value" "[B" .null) (F_c : Fld Z h0 a1 "java/lang/AbstractStringBuilder" "coder" "B" (vL 0)) (F_n : Fld Z h0 a1 "java/lang/AbstractStringBuilder" "count" "I" (vL 0)) (F_m : Fld Z h0 a1 "java/lang/AbstractStringBuilder" "maybeLatin1" "Z" (vL 0)) (g_a1 : n0 ≤ a1) (HS : Str0 Z h0 a2 bS kS ds) (hds : ds.length ≤ 4) :
    Mt (l := l) hw (ws := ws) O0 ST Y_49 jdk_68_method_3_code 5 none R_56 #[(.ref a1), (.ref a2)] (Qsb (fun h b k LB' => Sb0 Z h a1 b k LB' ds.length ds ∧ (LB' = (ds.length + 16) ∨ 2 * (ds.length + 16) + 2 ≤ LB')) a1 h0 n0) := by
  refine own_met (plainFor_of_name pn6) fun p e s m w_ meth c s₁ hx hby hml hZ hh hown hnm hret hlk X0 e0 => ?_
  have N0 := Fr.nil n0
  have lt_a1 := E_a.lt
  obtain ⟨E_a2, Fc_a2, Fv_a2, B_bS, hu_a2⟩ := id HS
  have lt_a2 := E_a2.lt
  have V_bS := B_bS.1
  have l_bS := B_bS.2
  have hN_bS : (Int32.ofNat ds.length).toNatClampNeg = (ds.map cLo).length := by rw [l_bS]; exact own_n (by omega)
  have lt_bS := V_bS.lt
  have n_21 : a2 ≠ a1 := Exa.ne E_a2 E_a (by decide)
  have n_b1 : bS ≠ a1 := Ne.symm (Exa.neArv E_a V_bS (tw hw 122 rfl))
  obtain ⟨T1, X1, e1, st1⟩ := initO X0 hx hZ hown (tw hw 227 rfl) (tw hw 23 rfl) (tw hw 24 rfl) e0 (g := (mkF m 1 (q_41 a1 a2) [(.ref a1)])) rfl (by rw [hml]; rfl) rfl (d50 hby 1 rfl) (by decide) (W := 0) (by show 2 * 0 + _ ≤ _; exact Nat.le_of_eq rfl) (by decide)
  obtain ⟨_, T2, Lc2, X2, hQ2, st2⟩ := own_vc X1 hx hZ (y := Y_0) hown hml (tw hw 228 rfl) (tw hw 42 rfl) (tw hw 44 rfl) (tw hw 43 rfl) (rs_len0 hw O0 ST a2 bS kS ds ⟨E_a2, Fc_a2, Fv_a2, ⟨V_bS, B_bS.2⟩, hu_a2⟩ (by omega)) (tw hw 45 rfl) (tw hw 14 rfl) e1 E_a2 (W := 0) (Ls := (q_41 a1 a2)) (argsL := []) (rest := []) (lenOf pd19 rfl) (d50 hby 3 rfl)
  obtain ⟨rfl, Nq2, e2⟩ := hQ2
  have N2 := Fr.app N0 Nq2
  have pf3 : ∀ target, Go p e w_ T2 m 12 (q_42 a1 a2 ds) [(vL 2147483631), (vN ds.length)] target → Go p e w_ s₁ m 0 (q_41 a1 a2) [] target := by
    intro target k
    refine za X0 hx (d50 hby 0 rfl) rfl rfl <| st1 _ <| za X1 hx (d50 hby 2 rfl) rfl rfl <| st2 _ <| zs X2 hx (d50 hby 4 rfl) (Ls' := (q_42 a1 a2 ds)) rfl <| zl X2 hx (d50 hby 5 rfl) rfl ?_
    show Go p e w_ T2 m 10 (q_42 a1 a2 ds) [(vN ds.length)] _
    refine X2.ldcInt hx hown (mvT hZ (tw hw 229 rfl)) (g := (mkF m 10 (q_42 a1 a2 ds) [(vN ds.length)])) rfl (d50 hby 6 rfl) _ ?_
    exact k
  obtain ⟨_, T4, Lc4, X4, hQ4, st4⟩ := own_vc X2 hx hZ (y := Y_1) hown hml (tw hw 230 rfl) (tw hw 47 rfl) (tw hw 49 rfl) (tw hw 48 rfl) (rs_cd0 hw O0 ST a2 bS kS ds ⟨E_a2, Fc_a2, Fv_a2, ⟨V_bS, B_bS.2⟩, hu_a2⟩ (by omega)) (tw hw 50 rfl) (tw hw 14 rfl) e2 E_a2 (W := 0) (Ls := (q_79 a1 a2 ds)) (argsL := []) (rest := []) (lenOf pd5 rfl) (d50 hby 14 rfl)
  obtain ⟨rfl, Nq4, e4⟩ := hQ4
  have N4 := Fr.app N2 Nq4
  obtain ⟨T5, h5, X5, e5, W5, st5⟩ := putFN X4 hx hZ hown (tw hw 231 rfl) Via.refl e4 F_c E_a (Or.inl (tw hw 232 rfl)) (tw hw 122 rfl) (ty := .byte) (v' := (vL 0)) (by decide) rfl rfl (g := (mkF m 34 (q_43 a1 a2 ds) [(vL 0), (.ref a1)])) rfl rfl (d50 hby 18 rfl)
  have Fw5 := F_c.same W5
  have O6 := O0.wr W5 g_a1
  have kp7 : Keep h0 h5 [a1] := (Keep.refl h0 [a1]).wr W5 (Or.inl (List.mem_of_getElem? (i := 0) rfl))
  have N5 := Fr.snoc X5 N4 g_a1
  have pf8 : ∀ target, Go p e w_ T5 m 40 (q_43 a1 a2 ds) [(vL 0), (.ref a1)] target → Go p e w_ T2 m 12 (q_42 a1 a2 ds) [(vL 2147483631), (vN ds.length)] target := by
    intro target k
    refine zn X2 hx (d50 hby 7 rfl) (tlt ((own_lt (a := ds.length) (b := 2147483631) (by omega) (by omega)).mpr (by omega))).2.1 <| zl X2 hx (d50 hby 8 rfl) rfl <| XS.bipush X2.here hx rfl (d50 hby 9 rfl) <| XS.iadd X2.here hx rfl (d50 hby 10 rfl) rfl ?_
    show Go p e w_ T2 m 19 (q_42 a1 a2 ds) [(.int ((Int32.ofNat ds.length) + (16 : Int32)))] _
    rw [show ((Int32.ofNat ds.length) + (16 : Int32)) = (Int32.ofNat (ds.length + 16)) from own_add ds.length 16]
    refine zo X2 hx 19 24 (d50 hby 11 rfl) <| zs X2 hx (d50 hby 12 rfl) (Ls' := (q_79 a1 a2 ds)) rfl <| za X2 hx (d50 hby 13 rfl) rfl rfl <| st4 _ <| zt X4 hx (d50 hby 15 rfl) (Ls' := (q_43 a1 a2 ds)) rfl <| za X4 hx (d50 hby 16 rfl) rfl rfl <| zm X4 hx (d50 hby 17 rfl) rfl <| st5 _ <| za X5 hx (d50 hby 19 rfl) rfl rfl <| zm X5 hx (d50 hby 20 rfl) rfl ?_
    exact k
  obtain ⟨T9, h9, k9, X9, e9, E9, A9, Ea9, st9⟩ := newPE X5 hx hZ (tw hw 26 rfl) e5 (g := (mkF m 44 (q_43 a1 a2 ds) [(vN (ds.length + 16)), (.ref a1)])) rfl (d50 hby 23 rfl) rfl (own_nn (n := ds.length + 16) (by omega)) (cap := 20) (by rw [own_n (n := ds.length + 16) (by omega)]; omega) (by decide) (by decide) (by decide) (ad := "[B") (by decide)
  obtain ⟨b9, g9⟩ : ∃ z, z = h5.size := ⟨_, rfl⟩
  rw [← g9] at A9 Ea9 st9
  have g_b9 : n0 ≤ b9 := by rw [g9]; exact Nat.le_trans (Nat.le_of_eq O6.1.symm) O6.2.1
  have sz_b9 : h0.size ≤ b9 := by rw [g9]; exact kp7.1
  have lt_a1_b9 : a1 < b9 := Nat.lt_of_lt_of_le lt_a1 sz_b9
  have lt_a2_b9 : a2 < b9 := Nat.lt_of_lt_of_le lt_a2 sz_b9
  have lt_bS_b9 : bS < b9 := Nat.lt_of_lt_of_le lt_bS sz_b9
  have O10 := O6.ext E9
  have kp11 := kp7.ext E9
  have V_b9 : Arv Z h9 b9 k9 .byte (Int32.ofNat (ds.length + 16)) ((List.replicate (ds.length + 16) (0 : Int32)).map Value.int) (vL 0) := by rw [List.map_replicate]; exact (Arv.new A9 (own_nn (n := ds.length + 16) (by omega))).pad (pad_rep [] (vL 0) (ds.length + 16))
  have hN_b9 : ((Int32.ofNat (ds.length + 16))).toNatClampNeg = (List.replicate (ds.length + 16) (0 : Int32)).length := by rw [List.length_replicate]; exact own_n (n := ds.length + 16) (by omega)
  obtain ⟨T12, h12, X12, e12, W12, st12⟩ := putF X9 hx hZ hown (host := "") (Or.inl (tw hw 234 rfl)) Via.refl e9 ((F_v.other W5 (Or.inr (slot_ne (Or.inl (tw hw 235 rfl)) (Or.inl (tw hw 232 rfl)) (by decide) (t := (.array .byte)) (t' := .byte) (by decide) (by decide)))).ext E9) ((E_a.wr W5).ext E9) (Or.inl (tw hw 235 rfl)) (tw hw 122 rfl) (ty := (.array .byte)) (by decide) rfl rfl (g := (mkF m 53 (q_43 a1 a2 ds) [(.ref b9), (.ref a1)])) rfl rfl (d50 hby 25 rfl)
  have Fw12 := ((F_v.other W5 (Or.inr (slot_ne (Or.inl (tw hw 235 rfl)) (Or.inl (tw hw 232 rfl)) (by decide) (t := (.array .byte)) (t' := .byte) (by decide) (by decide)))).ext E9).same W12
  have O13 := O10.wr W12 g_a1
  have kp14 := kp11.wr W12 (Or.inl (List.mem_of_getElem? (i := 0) rfl))
  have N12 := Fr.snoc X12 N5 g_a1
  obtain ⟨cq15, kq15, qa15, qb15, qc15⟩ := isOf hZ e12 (((E_a.wr W5).ext E9).wr W12)
  obtain ⟨_, _, ⟨T15, L15, k15, n15⟩, -, X15, ⟨Lc15, hQ15, l15, y15, z15⟩, st15⟩ := X12.virtualBack hx (y := Y_10) (z := Y_48) hown (mvT hZ (tw hw 236 rfl)) (mvT hZ (tw hw 237 rfl)) (own_nf (args := #[]) (z := Y_3) (mvT hZ (tw hw 287 rfl))) (mvT hZ (tw hw 239 rfl)) (mvT hZ (tw hw 240 rfl)) (by decide) (backOf (W := 0) (rb_br0 hw O13 ST a1 b9 k9 (ds.length + 16) [] a2 bS kS ds ⟨(((E_a.wr W5).ext E9).wr W12), Fw12, ((Fw5.ext E9).other W12 (Or.inr (slot_ne (Or.inl (tw hw 232 rfl)) (Or.inl (tw hw 235 rfl)) (by decide) (t := .byte) (t' := (.array .byte)) (by decide) (by decide)))), (((F_n.other W5 (Or.inr (slot_ne (Or.inl (tw hw 251 rfl)) (Or.inl (tw hw 232 rfl)) (by decide) (t := .int) (t' := .byte) (by decide) (by decide)))).ext E9).other W12 (Or.inr (slot_ne (Or.inl (tw hw 251 rfl)) (Or.inl (tw hw 235 rfl)) (by decide) (t := .int) (t' := (.array .byte)) (by decide) (by decide)))), (((F_m.other W5 (Or.inr (slot_ne (Or.inl (tw hw 365 rfl)) (Or.inl (tw hw 232 rfl)) (by decide) (t := .boolean) (t' := .byte) (by decide) (by decide)))).ext E9).other W12 (Or.inr (slot_ne (Or.inl (tw hw 365 rfl)) (Or.inl (tw hw 235 rfl)) (by decide) (t := .boolean) (t' := (.array .byte)) (by decide) (by decide)))), (Ea9.wr W12), (fun _ q => nomatch q), (by omega), (List.replicate (ds.length + 16) 0), ⟨(V_b9.other W12 (Ne.symm (Nat.ne_of_lt lt_a1_b9))), List.length_replicate⟩⟩ (by decide) g_a1 g_b9 ⟨(((E_a2.wr W5).ext E9).wr W12), (((Fc_a2.other W5 (Or.inl n_21)).ext E9).other W12 (Or.inl n_21)), (((Fv_a2.other W5 (Or.inl n_21)).ext E9).other W12 (Or.inl n_21)), ⟨(((V_bS.other W5 n_b1).ext E9).other W12 n_b1), B_bS.2⟩, hu_a2⟩ (by omega) (by rw [List.length_nil]; omega) (Nat.ne_of_lt lt_bS_b9)) hZ (tw hw 241 rfl) (tw hw 123 rfl) (by decide) (by decide)) qa15 qc15 (g := (mkF m 58 (q_43 a1 a2 ds) [(.ref a2), (.ref a1)])) rfl (by rw [hml]; rfl) (Steps.refl _) (argsL := [(.ref a2)]) (rest := []) (lenOf pd26 rfl) rfl (by show 2 * 0 + _ ≤ _; exact Nat.le_of_eq rfl) (d50 hby 28 rfl) (fun _ _ => ⟨rfl, e12, (by decide : 1 + 1 ≤ _), (by decide : 20 + 110 ≤ _)⟩)
  dsimp only [Pt.U, Pt.locs, Pt.cells, Pt.slots] at X15 l15 y15 z15 st15 hQ15
  subst l15 y15 z15
  obtain ⟨h15, e15⟩ : ∃ z, T15.heap = z := ⟨_, rfl⟩
  rw [e15] at hQ15
  obtain ⟨rfl, Nq15, K15, R15⟩ := hQ15
  have N15 := Fr.app N12 Nq15
  have O16 := O13.keep K15 (allS g_a1 (allS g_b9 all0))
  have kp17 := kp14.trans K15 (allS (Or.inl (List.mem_of_getElem? (i := 0) rfl)) (allS (Or.inr sz_b9) all0))
  obtain ⟨bz_, kz_, Lz_, oz_, qz_, gz_⟩ := R15
  have szb : h0.size ≤ bz_ := own_orle oz_ sz_b9 kp14.1
  refine own_lvV X15 hx hlk hret (d50 hby 30 rfl) (by decide) (by decide) (Ls := (q_43 a1 a2 ds)) (fun _ k => castTop (ef_rb_as0 m a1 a2) ?_) ?_
  · refine pf3 _ <| pf8 _ <| zg X5 hx (d50 hby 21 rfl) ((if0 _ _).trans (teq (by decide)).2) <| zl X5 hx (d50 hby 22 rfl) rfl <| st9 _ <| zo X9 hx 46 53 (d50 hby 24 rfl) <| st12 _ <| za X12 hx (d50 hby 26 rfl) rfl rfl <| za X12 hx (d50 hby 27 rfl) rfl rfl <| st15.trans <| XS.pop X15.here hx rfl (d50 hby 29 rfl) rfl rfl ?_
    exact k
  · rw [e15]
    exact ⟨rfl, N15, kp17, bz_, kz_, Lz_, szb, qz_, gz_⟩
theorem d49 : Dl cb70 [(0, .aload_n 0, 1), (1, .aload_n 1, 1), (2, .invokespecial 7, 3), (5, .return_, 1)] := dlk (by decide +kernel)
theorem rb_is0 (a1 a2 bS : Addr) (kS : ClassId) (ds : List UInt16) (E_a : Exa Z h0 a1 "java/lang/StringBuilder") (F_v : Fld Z h0 a1 "java/lang/AbstractStringBuilder" "value" "[B" .null) (F_c : Fld Z h0 a1 "java/lang/AbstractStringBuilder" "coder" "B" (vL 0)) (F_n : Fld Z h0 a1 "java/lang/AbstractStringBuilder" "count" "I" (vL 0)) (F_m : Fld Z h0 a1 "java/lang/AbstractStringBuilder" "maybeLatin1" "Z" (vL 0)) (g_a1 : n0 ≤ a1) (HS : Str0 Z h0 a2 bS kS ds) (hds : ds.length ≤ 4) :
    Mt (l := l) hw (ws := ws) O0 ST Y_50 jdk_67_method_3_code 2 none R_27 #[(.ref a1), (.ref a2)] (Qsb (fun h b k LB' => Sb0 Z h a1 b k LB' ds.length ds ∧ (LB' = (ds.length + 16) ∨ 2 * (ds.length + 16) + 2 ≤ LB')) a1 h0 n0) := by
  refine own_met (plainFor_of_name pn7) fun p e s m w_ meth c s₁ hx hby hml hZ hh hown hnm hret hlk X0 e0 => ?_
  have N0 := Fr.nil n0
  obtain ⟨_, T1, Lc1, X1, hQ1, st1⟩ := own_ic X0 hx hZ (y := Y_49) rfl hown hml (tw hw 221 rfl) (tw hw 222 rfl) (rb_as0 hw O0 ST a1 a2 bS kS ds E_a F_v F_c F_n F_m g_a1 HS hds) (tw hw 226 rfl) (tw hw 225 rfl) e0 (W := 0) (Ls := (q_1 a1 a2)) (b := a1) (argsL := [(.ref a2)]) (rest := []) (lenOf pd22 rfl) (d49 hby 2 rfl)
  obtain ⟨h1, e1⟩ : ∃ z, T1.heap = z := ⟨_, rfl⟩
  rw [e1] at hQ1
  obtain ⟨rfl, Nq1, K1, R1⟩ := hQ1
  have N1 := Fr.app N0 Nq1
  have O2 := O0.keep K1 (allS g_a1 all0)
  have kp3 : Keep h0 h1 [a1] := (Keep.refl h0 [a1]).trans K1 (allS (Or.inl (List.mem_of_getElem? (i := 0) rfl)) all0)
  have RR := R1
  refine own_lvV X1 hx hlk hret (d49 hby 3 rfl) (by decide) (by decide) (Ls := (q_1 a1 a2)) (fun _ k => castTop (ef_rs_iA m a1 a2) ?_) ?_
  · refine za X0 hx (d49 hby 0 rfl) rfl rfl <| za X0 hx (d49 hby 1 rfl) rfl rfl <| st1 _ ?_
    exact k
  · rw [e1]
    exact ⟨rfl, N1, kp3, RR⟩
theorem rb_as1 (a1 a2 bS : Addr) (kS : ClassId) (ds : List UInt16) (E_a : Exa Z h0 a1 "java/lang/StringBuilder") (F_v : Fld Z h0 a1 "java/lang/AbstractStringBuilder" "value" "[B" .null) (F_c : Fld Z h0 a1 "java/lang/AbstractStringBuilder" "coder" "B" (vL 0)) (F_n : Fld Z h0 a1 "java/lang/AbstractStringBuilder" "count" "I" (vL 0)) (F_m : Fld Z h0 a1 "java/lang/AbstractStringBuilder" "maybeLatin1" "Z" (vL 0)) (g_a1 : n0 ≤ a1) (HS : Str1 Z h0 a2 bS kS ds) (hds : ds.length ≤ 4) :
    Mt (l := l) hw (ws := ws) O0 ST Y_49 jdk_68_method_3_code 5 none R_57 #[(.ref a1), (.ref a2)] (Qsb (fun h b k LB' => Sb1 Z h a1 b k LB' ds.length ds ∧ (LB' = (2 * (ds.length + 16)) ∨ 2 * (2 * (ds.length + 16)) + 2 ≤ LB')) a1 h0 n0) := by
  refine own_met (plainFor_of_name pn6) fun p e s m w_ meth c s₁ hx hby hml hZ hh hown hnm hret hlk X0 e0 => ?_
  have N0 := Fr.nil n0
  have lt_a1 := E_a.lt
  obtain ⟨E_a2, Fc_a2, Fv_a2, B_bS⟩ := id HS
  have lt_a2 := E_a2.lt
  have V_bS := B_bS.1
  have l_bS := B_bS.2
  have hN_bS : (Int32.ofNat (2 * ds.length)).toNatClampNeg = (enc1 ds).length := by rw [l_bS]; exact own_n (by omega)
  have lt_bS := V_bS.lt
  have n_21 : a2 ≠ a1 := Exa.ne E_a2 E_a (by decide)
  have n_b1 : bS ≠ a1 := Ne.symm (Exa.neArv E_a V_bS (tw hw 122 rfl))
  obtain ⟨T1, X1, e1, st1⟩ := initO X0 hx hZ hown (tw hw 227 rfl) (tw hw 23 rfl) (tw hw 24 rfl) e0 (g := (mkF m 1 (q_41 a1 a2) [(.ref a1)])) rfl (by rw [hml]; rfl) rfl (d50 hby 1 rfl) (by decide) (W := 0) (by show 2 * 0 + _ ≤ _; exact Nat.le_of_eq rfl) (by decide)
  obtain ⟨_, T2, Lc2, X2, hQ2, st2⟩ := own_vc X1 hx hZ (y := Y_0) hown hml (tw hw 228 rfl) (tw hw 42 rfl) (tw hw 44 rfl) (tw hw 43 rfl) (rs_len1 hw O0 ST a2 bS kS ds ⟨E_a2, Fc_a2, Fv_a2, ⟨V_bS, B_bS.2⟩⟩ (by omega)) (tw hw 45 rfl) (tw hw 14 rfl) e1 E_a2 (W := 0) (Ls := (q_41 a1 a2)) (argsL := []) (rest := []) (lenOf pd19 rfl) (d50 hby 3 rfl)
  obtain ⟨rfl, Nq2, e2⟩ := hQ2
  have N2 := Fr.app N0 Nq2
  have pf3 : ∀ target, Go p e w_ T2 m 12 (q_42 a1 a2 ds) [(vL 2147483631), (vN ds.length)] target → Go p e w_ s₁ m 0 (q_41 a1 a2) [] target := by
    intro target k
    refine za X0 hx (d50 hby 0 rfl) rfl rfl <| st1 _ <| za X1 hx (d50 hby 2 rfl) rfl rfl <| st2 _ <| zs X2 hx (d50 hby 4 rfl) (Ls' := (q_42 a1 a2 ds)) rfl <| zl X2 hx (d50 hby 5 rfl) rfl ?_
    show Go p e w_ T2 m 10 (q_42 a1 a2 ds) [(vN ds.length)] _
    refine X2.ldcInt hx hown (mvT hZ (tw hw 229 rfl)) (g := (mkF m 10 (q_42 a1 a2 ds) [(vN ds.length)])) rfl (d50 hby 6 rfl) _ ?_
    exact k
  obtain ⟨_, T4, Lc4, X4, hQ4, st4⟩ := own_vc X2 hx hZ (y := Y_1) hown hml (tw hw 230 rfl) (tw hw 47 rfl) (tw hw 49 rfl) (tw hw 48 rfl) (rs_cd1 hw O0 ST a2 bS kS ds ⟨E_a2, Fc_a2, Fv_a2, ⟨V_bS, B_bS.2⟩⟩ (by omega)) (tw hw 50 rfl) (tw hw 14 rfl) e2 E_a2 (W := 0) (Ls := (q_79 a1 a2 ds)) (argsL := []) (rest := []) (lenOf pd5 rfl) (d50 hby 14 rfl)
  obtain ⟨rfl, Nq4, e4⟩ := hQ4
  have N4 := Fr.app N2 Nq4
  obtain ⟨T5, h5, X5, e5, W5, st5⟩ := putFN X4 hx hZ hown (tw hw 231 rfl) Via.refl e4 F_c E_a (Or.inl (tw hw 232 rfl)) (tw hw 122 rfl) (ty := .byte) (v' := (vL 1)) (by decide) rfl rfl (g := (mkF m 34 (q_48 a1 a2 ds) [(vL 1), (.ref a1)])) rfl rfl (d50 hby 18 rfl)
  have Fw5 := F_c.same W5
  have O6 := O0.wr W5 g_a1
  have kp7 : Keep h0 h5 [a1] := (Keep.refl h0 [a1]).wr W5 (Or.inl (List.mem_of_getElem? (i := 0) rfl))
  have N5 := Fr.snoc X5 N4 g_a1
  have pf8 : ∀ target, Go p e w_ T5 m 40 (q_48 a1 a2 ds) [(vL 1), (.ref a1)] target → Go p e w_ T2 m 12 (q_42 a1 a2 ds) [(vL 2147483631), (vN ds.length)] target := by
    intro target k
    refine zn X2 hx (d50 hby 7 rfl) (tlt ((own_lt (a := ds.length) (b := 2147483631) (by omega) (by omega)).mpr (by omega))).2.1 <| zl X2 hx (d50 hby 8 rfl) rfl <| XS.bipush X2.here hx rfl (d50 hby 9 rfl) <| XS.iadd X2.here hx rfl (d50 hby 10 rfl) rfl ?_
    show Go p e w_ T2 m 19 (q_42 a1 a2 ds) [(.int ((Int32.ofNat ds.length) + (16 : Int32)))] _
    rw [show ((Int32.ofNat ds.length) + (16 : Int32)) = (Int32.ofNat (ds.length + 16)) from own_add ds.length 16]
    refine zo X2 hx 19 24 (d50 hby 11 rfl) <| zs X2 hx (d50 hby 12 rfl) (Ls' := (q_79 a1 a2 ds)) rfl <| za X2 hx (d50 hby 13 rfl) rfl rfl <| st4 _ <| zt X4 hx (d50 hby 15 rfl) (Ls' := (q_48 a1 a2 ds)) rfl <| za X4 hx (d50 hby 16 rfl) rfl rfl <| zm X4 hx (d50 hby 17 rfl) rfl <| st5 _ <| za X5 hx (d50 hby 19 rfl) rfl rfl <| zm X5 hx (d50 hby 20 rfl) rfl ?_
    exact k
  obtain ⟨_, T9, Lc9, X9, hQ9, st9⟩ := own_sc X5 hx hZ (y := Y_54) hown hml (tw hw 233 rfl) (tw hw 87 rfl) (ru_nf hw O6 ST (ds.length + 16) (by omega)) (tw hw 88 rfl) (tw hw 78 rfl) e5 (W := 1) (Ls := (q_48 a1 a2 ds)) (argsL := [(vN (ds.length + 16))]) (rest := [(.ref a1)]) (lenOf pd13 rfl) (d50 hby 32 rfl)
  obtain ⟨h9, e9⟩ : ∃ z, T9.heap = z := ⟨_, rfl⟩
  rw [e9] at hQ9
  obtain ⟨t9, kt9, rfl, Nq9, K9, szt9, Bt9, Et9⟩ := hQ9
  have N9 := Fr.app N5 Nq9
  have O10 := O6.keep K9 all0
  have kp11 := kp7.trans K9 all0
  have sz_t9 := Nat.le_trans kp7.1 szt9
  have g_t9 : n0 ≤ t9 := Nat.le_trans (Nat.le_trans (Nat.le_of_eq O0.1.symm) O0.2.1) sz_t9
  have lt_a1_t9 : a1 < t9 := Nat.lt_of_lt_of_le lt_a1 sz_t9
  have lt_a2_t9 : a2 < t9 := Nat.lt_of_lt_of_le lt_a2 sz_t9
  have lt_bS_t9 : bS < t9 := Nat.lt_of_lt_of_le lt_bS sz_t9
  have V_t9 := Bt9.1
  obtain ⟨T12, h12, X12, e12, W12, st12⟩ := putF X9 hx hZ hown (host := "") (Or.inl (tw hw 234 rfl)) Via.refl e9 ((F_v.other W5 (Or.inr (slot_ne (Or.inl (tw hw 235 rfl)) (Or.inl (tw hw 232 rfl)) (by decide) (t := (.array .byte)) (t' := .byte) (by decide) (by decide)))).keep K9 nin0) ((E_a.wr W5).keep K9) (Or.inl (tw hw 235 rfl)) (tw hw 122 rfl) (ty := (.array .byte)) (by decide) rfl rfl (g := (mkF m 53 (q_48 a1 a2 ds) [(.ref t9), (.ref a1)])) rfl rfl (d50 hby 25 rfl)
  have Fw12 := ((F_v.other W5 (Or.inr (slot_ne (Or.inl (tw hw 235 rfl)) (Or.inl (tw hw 232 rfl)) (by decide) (t := (.array .byte)) (t' := .byte) (by decide) (by decide)))).keep K9 nin0).same W12
  have O13 := O10.wr W12 g_a1
  have kp14 := kp11.wr W12 (Or.inl (List.mem_of_getElem? (i := 0) rfl))
  have N12 := Fr.snoc X12 N9 g_a1
  obtain ⟨cq15, kq15, qa15, qb15, qc15⟩ := isOf hZ e12 (((E_a.wr W5).keep K9).wr W12)
  obtain ⟨_, _, ⟨T15, L15, k15, n15⟩, -, X15, ⟨Lc15, hQ15, l15, y15, z15⟩, st15⟩ := X12.virtualBack hx (y := Y_10) (z := Y_48) hown (mvT hZ (tw hw 236 rfl)) (mvT hZ (tw hw 237 rfl)) (own_nf (args := #[]) (z := Y_3) (mvT hZ (tw hw 287 rfl))) (mvT hZ (tw hw 239 rfl)) (mvT hZ (tw hw 240 rfl)) (by decide) (backOf (W := 0) (rb_br1 hw O13 ST a1 t9 kt9 (2 * (ds.length + 16)) [] a2 bS kS ds ⟨(((E_a.wr W5).keep K9).wr W12), Fw12, ((Fw5.keep K9 nin0).other W12 (Or.inr (slot_ne (Or.inl (tw hw 232 rfl)) (Or.inl (tw hw 235 rfl)) (by decide) (t := .byte) (t' := (.array .byte)) (by decide) (by decide)))), (((F_n.other W5 (Or.inr (slot_ne (Or.inl (tw hw 251 rfl)) (Or.inl (tw hw 232 rfl)) (by decide) (t := .int) (t' := .byte) (by decide) (by decide)))).keep K9 nin0).other W12 (Or.inr (slot_ne (Or.inl (tw hw 251 rfl)) (Or.inl (tw hw 235 rfl)) (by decide) (t := .int) (t' := (.array .byte)) (by decide) (by decide)))), (((F_m.other W5 (Or.inr (slot_ne (Or.inl (tw hw 365 rfl)) (Or.inl (tw hw 232 rfl)) (by decide) (t := .boolean) (t' := .byte) (by decide) (by decide)))).keep K9 nin0).other W12 (Or.inr (slot_ne (Or.inl (tw hw 365 rfl)) (Or.inl (tw hw 235 rfl)) (by decide) (t := .boolean) (t' := (.array .byte)) (by decide) (by decide)))), (Et9.wr W12), (by omega), (List.replicate (2 * (ds.length + 16)) 0), ⟨(V_t9.other W12 (Ne.symm (Nat.ne_of_lt lt_a1_t9))), List.length_replicate⟩⟩ (by decide) g_a1 g_t9 ⟨(((E_a2.wr W5).keep K9).wr W12), (((Fc_a2.other W5 (Or.inl n_21)).keep K9 nin0).other W12 (Or.inl n_21)), (((Fv_a2.other W5 (Or.inl n_21)).keep K9 nin0).other W12 (Or.inl n_21)), ⟨(((V_bS.other W5 n_b1).keep K9 nin0).other W12 n_b1), B_bS.2⟩⟩ (by omega) (by rw [List.length_nil]; omega) (Nat.ne_of_lt lt_bS_t9)) hZ (tw hw 241 rfl) (tw hw 123 rfl) (by decide) (by decide)) qa15 qc15 (g := (mkF m 58 (q_48 a1 a2 ds) [(.ref a2), (.ref a1)])) rfl (by rw [hml]; rfl) (Steps.refl _) (argsL := [(.ref a2)]) (rest := []) (lenOf pd26 rfl) rfl (by show 2 * 0 + _ ≤ _; exact Nat.le_of_eq rfl) (d50 hby 28 rfl) (fun _ _ => ⟨rfl, e12, (by decide : 1 + 1 ≤ _), (by decide : 110 + 110 ≤ _)⟩)
  dsimp only [Pt.U, Pt.locs, Pt.cells, Pt.slots] at X15 l15 y15 z15 st15 hQ15
  subst l15 y15 z15
  obtain ⟨h15, e15⟩ : ∃ z, T15.heap = z := ⟨_, rfl⟩
  rw [e15] at hQ15
  obtain ⟨rfl, Nq15, K15, R15⟩ := hQ15
  have N15 := Fr.app N12 Nq15
  have O16 := O13.keep K15 (allS g_a1 (allS g_t9 all0))
  have kp17 := kp14.trans K15 (allS (Or.inl (List.mem_of_getElem? (i := 0) rfl)) (allS (Or.inr sz_t9) all0))
  obtain ⟨bz_, kz_, Lz_, oz_, qz_, gz_⟩ := R15
  have szb : h0.size ≤ bz_ := own_orle oz_ sz_t9 kp14.1
  refine own_lvV X15 hx hlk hret (d50 hby 30 rfl) (by decide) (by decide) (Ls := (q_48 a1 a2 ds)) (fun _ k => castTop (ef_rb_as0 m a1 a2) ?_) ?_
  · refine pf3 _ <| pf8 _ <| zf X5 hx 40 49 (d50 hby 21 rfl) ((if0 _ _).trans (feq (by decide)).2) <| zl X5 hx (d50 hby 31 rfl) rfl <| st9 _ <| st12 _ <| za X12 hx (d50 hby 26 rfl) rfl rfl <| za X12 hx (d50 hby 27 rfl) rfl rfl <| st15.trans <| XS.pop X15.here hx rfl (d50 hby 29 rfl) rfl rfl ?_
    exact k
  · rw [e15]
    exact ⟨rfl, N15, kp17, bz_, kz_, Lz_, szb, qz_, gz_⟩
theorem rb_is1 (a1 a2 bS : Addr) (kS : ClassId) (ds : List UInt16) (E_a : Exa Z h0 a1 "java/lang/StringBuilder") (F_v : Fld Z h0 a1 "java/lang/AbstractStringBuilder" "value" "[B" .null) (F_c : Fld Z h0 a1 "java/lang/AbstractStringBuilder" "coder" "B" (vL 0)) (F_n : Fld Z h0 a1 "java/lang/AbstractStringBuilder" "count" "I" (vL 0)) (F_m : Fld Z h0 a1 "java/lang/AbstractStringBuilder" "maybeLatin1" "Z" (vL 0)) (g_a1 : n0 ≤ a1) (HS : Str1 Z h0 a2 bS kS ds) (hds : ds.length ≤ 4) :
    Mt (l := l) hw (ws := ws) O0 ST Y_50 jdk_67_method_3_code 2 none R_27 #[(.ref a1), (.ref a2)] (Qsb (fun h b k LB' => Sb1 Z h a1 b k LB' ds.length ds ∧ (LB' = (2 * (ds.length + 16)) ∨ 2 * (2 * (ds.length + 16)) + 2 ≤ LB')) a1 h0 n0) := by
  refine own_met (plainFor_of_name pn7) fun p e s m w_ meth c s₁ hx hby hml hZ hh hown hnm hret hlk X0 e0 => ?_
  have N0 := Fr.nil n0
  obtain ⟨_, T1, Lc1, X1, hQ1, st1⟩ := own_ic X0 hx hZ (y := Y_49) rfl hown hml (tw hw 221 rfl) (tw hw 222 rfl) (rb_as1 hw O0 ST a1 a2 bS kS ds E_a F_v F_c F_n F_m g_a1 HS hds) (tw hw 226 rfl) (tw hw 225 rfl) e0 (W := 0) (Ls := (q_1 a1 a2)) (b := a1) (argsL := [(.ref a2)]) (rest := []) (lenOf pd22 rfl) (d49 hby 2 rfl)
  obtain ⟨h1, e1⟩ : ∃ z, T1.heap = z := ⟨_, rfl⟩
  rw [e1] at hQ1
  obtain ⟨rfl, Nq1, K1, R1⟩ := hQ1
  have N1 := Fr.app N0 Nq1
  have O2 := O0.keep K1 (allS g_a1 all0)
  have kp3 : Keep h0 h1 [a1] := (Keep.refl h0 [a1]).trans K1 (allS (Or.inl (List.mem_of_getElem? (i := 0) rfl)) all0)
  have RR := R1
  refine own_lvV X1 hx hlk hret (d49 hby 3 rfl) (by decide) (by decide) (Ls := (q_1 a1 a2)) (fun _ k => castTop (ef_rs_iA m a1 a2) ?_) ?_
  · refine za X0 hx (d49 hby 0 rfl) rfl rfl <| za X0 hx (d49 hby 1 rfl) rfl rfl <| st1 _ ?_
    exact k
  · rw [e1]
    exact ⟨rfl, N1, kp3, RR⟩
theorem pn11 : plainName "java/lang/Integer" = true := by first | (simp [plainName, overriddenIn]; done) | decide +kernel
theorem d65 : Dl cb71 [(0, .iconst 1, 1), (1, .istore_n 1, 1), (2, .iload_n 0, 1), (3, .ifCond .lt 8, 3), (6, .iconst 0, 1), (7, .istore_n 1, 1), (8, .iload_n 0, 1), (9, .ineg, 1), (10, .istore_n 0, 1), (11, .bipush (-10), 2), (13, .istore_n 2, 1), (14, .iconst 1, 1), (15, .istore_n 3, 1), (16, .iload_n 3, 1), (17, .bipush 10, 2), (19, .if_icmp .ge 23, 3), (22, .iload_n 0, 1), (23, .iload_n 2, 1), (24, .if_icmp .le 7, 3), (27, .iload_n 3, 1), (28, .iload_n 1, 1), (29, .iadd, 1), (30, .ireturn, 1)] := dlk (by decide +kernel)
theorem ef_ri_ss (m : MethodId) (x0 : Int32) : entryFrame m #[(.int x0)] 4 = mkF m 0 #[.val (.int x0), .unset, .unset, .unset] [] := by first | (simp [entryFrame, mkF, argsToLocals, Value.category]; done) | rfl
theorem ri_ss (kk : Nat) (hk : kk ≤ 9) :
    Mt (l := l) hw (ws := ws) O0 ST Y_63 jdk_33_method_13_code 4 (some .int) R_0 #[(vN kk)] (Qpure (some (vL 1)) h0 n0) := by
  refine own_met (plainFor_of_name pn11) fun p e s m w_ meth c s₁ hx hby hml hZ hh hown hnm hret hlk X0 e0 => ?_
  have N0 := Fr.nil n0
  have pf1 : ∀ target, Go p e w_ s₁ m 19 (q_123 kk) [(vL 10), (vL 1)] target → Go p e w_ s₁ m 0 #[nv kk, .unset, .unset, .unset] [] target := by
    intro target k
    refine zc X0 hx (d65 hby 0 rfl) <| zs X0 hx (d65 hby 1 rfl) (Ls' := #[nv kk, iv 1, .unset, .unset]) rfl <| zl X0 hx (d65 hby 2 rfl) rfl <| zg X0 hx (d65 hby 3 rfl) ((if0 _ _).trans (flt (own_nn (n := kk) (by omega))).1) <| zc X0 hx (d65 hby 4 rfl) <| zs X0 hx (d65 hby 5 rfl) (Ls' := (q_132 kk)) rfl <| zl X0 hx (d65 hby 6 rfl) rfl <| XS.ineg X0.here hx rfl (d65 hby 7 rfl) rfl <| zs X0 hx (d65 hby 8 rfl) (Ls' := #[iv (-(Int32.ofNat kk)), iv 0, .unset, .unset]) rfl <| XS.bipush X0.here hx rfl (d65 hby 9 rfl) <| zs X0 hx (d65 hby 10 rfl) (Ls' := #[iv (-(Int32.ofNat kk)), iv 0, iv (-10), .unset]) rfl <| zc X0 hx (d65 hby 11 rfl) <| zs X0 hx (d65 hby 12 rfl) (Ls' := (q_123 kk)) rfl <| zl X0 hx (d65 hby 13 rfl) rfl <| XS.bipush X0.here hx rfl (d65 hby 14 rfl) ?_
    exact k
  refine own_lvI X0 hx hlk hret (d65 hby 22 rfl) (by decide) (by decide) (z := (1 : Int32)) (Ls := (q_123 kk)) (rest := []) (fun _ k => castTop (ef_ri_ss m (Int32.ofNat kk)) ?_) ?_
  · refine pf1 _ <| zn X0 hx (d65 hby 15 rfl) (tlt (by decide)).2.1 <| zl X0 hx (d65 hby 16 rfl) rfl <| zl X0 hx (d65 hby 17 rfl) rfl <| zn X0 hx (d65 hby 18 rfl) (tlt (own_g10 hk)).2.2.2 <| zl X0 hx (d65 hby 19 rfl) rfl <| zl X0 hx (d65 hby 20 rfl) rfl <| XS.iadd X0.here hx rfl (d65 hby 21 rfl) rfl ?_
    exact k
  · rw [e0]
    exact ⟨rfl, N0, rfl⟩
theorem d67 : Dl cb72 [(0, .iload_n 0, 1), (1, .iload_n 1, 1), (2, .aload_n 2, 1), (3, .invokestatic 48, 3), (6, .invokestatic 241, 3), (9, .return_, 1)] := dlk (by decide +kernel)
theorem ru_cbe (a1 : Addr) (kA : ClassId) (LA : Nat) (vs : List Int32) (i1 i2 : Nat) (B1 : Bar Z h0 a1 kA LA vs) (hB : LA ≤ 110) (h12 : i1 ≤ i2) (h23 : 2 * i2 ≤ LA) :
    Mt (l := l) hw (ws := ws) O0 ST Y_82 jdk_52_method_93_code 3 none R_10 #[(vN i1), (vN i2), (.ref a1)] (Qpure none h0 n0) := by
  refine own_met (plainFor_of_name pn0) fun p e s m w_ meth c s₁ hx hby hml hZ hh hown hnm hret hlk X0 e0 => ?_
  have N0 := Fr.nil n0
  have V_a1 := B1.1
  have l_a1 := B1.2
  have hN_a1 : (Int32.ofNat LA).toNatClampNeg = vs.length := by rw [l_a1]; exact own_n (by omega)
  have lt_a1 := V_a1.lt
  obtain ⟨_, T1, Lc1, X1, hQ1, st1⟩ := own_sc X0 hx hZ (y := Y_34) hown hml (tw hw 156 rfl) (tw hw 157 rfl) (ru_len hw O0 ST a1 kA LA vs B1 hB) (tw hw 158 rfl) (tw hw 78 rfl) e0 (W := 2) (Ls := (q_53 i1 i2 a1)) (argsL := [(.ref a1)]) (rest := [(vN i2), (vN i1)]) (lenOf pd1 rfl) (d67 hby 3 rfl)
  obtain ⟨rfl, Nq1, e1⟩ := hQ1
  have N1 := Fr.app N0 Nq1
  obtain ⟨_, T2, Lc2, X2, hQ2, st2⟩ := own_sc X1 hx hZ (y := Y_14) hown hml (tw hw 315 rfl) (tw hw 173 rfl) (rs_cbe hw O0 ST i1 i2 (LA / 2) h12 (by omega) (by omega)) (tw hw 174 rfl) (tw hw 14 rfl) e1 (W := 0) (Ls := (q_53 i1 i2 a1)) (argsL := [(vN i1), (vN i2), (vN (LA / 2))]) (rest := []) (lenOf pd38 rfl) (d67 hby 4 rfl)
  obtain ⟨rfl, Nq2, e2⟩ := hQ2
  have N2 := Fr.app N1 Nq2
  refine own_lvV X2 hx hlk hret (d67 hby 5 rfl) (by decide) (by decide) (Ls := (q_53 i1 i2 a1)) (fun _ k => castTop (ef_ru_bo m (Int32.ofNat i1) (Int32.ofNat i2) a1) ?_) ?_
  · refine zl X0 hx (d67 hby 0 rfl) rfl <| zl X0 hx (d67 hby 1 rfl) rfl <| za X0 hx (d67 hby 2 rfl) rfl rfl <| st1 _ <| st2 _ ?_
    exact k
  · rw [e2]
    exact ⟨rfl, N2, rfl⟩
theorem d84 : Dl cb73 [(0, .iload_n 1, 1), (1, .istore 5, 2), (3, .iload_n 0, 1), (4, .ifCond .ge 7, 3), (11, .iconst 0, 1), (12, .istore 6, 2), (14, .iload 6, 2), (16, .ifCond .ne 6, 3), (19, .iload_n 0, 1), (20, .ineg, 1), (21, .istore_n 0, 1), (22, .iload_n 0, 1), (23, .bipush (-100), 2), (25, .if_icmp .gt 47, 3), (72, .aload_n 2, 1), (73, .iinc 5 (-1), 3), (76, .iload 5, 2), (78, .getstatic 83, 3), (81, .iload_n 0, 1), (82, .ineg, 1), (83, .baload, 1), (84, .bastore, 1), (85, .iload_n 0, 1), (86, .bipush (-9), 2), (88, .if_icmp .ge 16, 3), (104, .iload 6, 2), (106, .ifCond .eq 12, 3), (118, .iload 5, 2), (120, .ireturn, 1)] := dlk (by decide +kernel)
theorem ef_ri_gc (m : MethodId) (x0 : Int32) (x1 : Int32) (x2 : Addr) : entryFrame m #[(.int x0), (.int x1), (.ref x2)] 7 = mkF m 0 #[.val (.int x0), .val (.int x1), .val (.ref x2), .unset, .unset, .unset, .unset] [] := by first | (simp [entryFrame, mkF, argsToLocals, Value.category]; done) | rfl
theorem ri_gc (dA : Addr) (kG : ClassId) (a1 : Addr) (kA : ClassId) (LA : Nat) (vs : List Int32) (i1 kk : Nat) (DG : Dgt Z dA kG) (B1 : Bar Z h0 a1 kA LA vs) (hB : LA ≤ 110) (hk : kk ≤ 9) (g_a1 : n0 ≤ a1) (h1 : 1 ≤ i1) (hi : i1 ≤ LA) :
    Mt (l := l) hw (ws := ws) O0 ST Y_83 jdk_33_method_12_code 7 (some .int) R_0 #[(vN kk), (vN i1), (.ref a1)] (Qcm Z a1 (Int32.ofNat (i1 - 1)) (fun h => Bar Z h a1 kA LA (vs.set (i1 - 1) (cLo (dg kk)))) h0 n0) := by
  refine own_met (plainFor_of_name pn11) fun p e s m w_ meth c s₁ hx hby hml hZ hh hown hnm hret hlk X0 e0 => ?_
  have N0 := Fr.nil n0
  have V_a1 := B1.1
  have l_a1 := B1.2
  have hN_a1 : (Int32.ofNat LA).toNatClampNeg = vs.length := by rw [l_a1]; exact own_n (by omega)
  have lt_a1 := V_a1.lt
  obtain ⟨S_dg, V_dA⟩ := id DG
  have hN_dA : (Int32.ofNat 100).toNatClampNeg = dgL.length := by decide +kernel
  have pf1 : ∀ target, Go p e w_ s₁ m 16 (q_57 kk i1 a1) [(vL 0)] target → Go p e w_ s₁ m 0 (q_124 kk i1 a1) [] target := by
    intro target k
    refine zl X0 hx (d84 hby 0 rfl) rfl <| zt X0 hx (d84 hby 1 rfl) (Ls' := (q_142 kk i1 a1)) rfl <| zl X0 hx (d84 hby 2 rfl) rfl <| zf X0 hx 4 11 (d84 hby 3 rfl) ((if0 _ _).trans (flt (own_nn (n := kk) (by omega))).2.1) <| zc X0 hx (d84 hby 4 rfl) <| zt X0 hx (d84 hby 5 rfl) (Ls' := (q_57 kk i1 a1)) rfl <| zm X0 hx (d84 hby 6 rfl) rfl ?_
    exact k
  have pf2 : ∀ target, Go p e w_ s₁ m 25 (q_80 kk i1 a1) [(vL (-100)), (.int (-(Int32.ofNat kk)))] target → Go p e w_ s₁ m 16 (q_57 kk i1 a1) [(vL 0)] target := by
    intro target k
    refine zg X0 hx (d84 hby 7 rfl) ((if0 _ _).trans (teq (by decide)).2) <| zl X0 hx (d84 hby 8 rfl) rfl <| XS.ineg X0.here hx rfl (d84 hby 9 rfl) rfl <| zs X0 hx (d84 hby 10 rfl) (Ls' := (q_80 kk i1 a1)) rfl <| zl X0 hx (d84 hby 11 rfl) rfl <| XS.bipush X0.here hx rfl (d84 hby 12 rfl) ?_
    exact k
  obtain ⟨T3, X3, e3, st3⟩ := getS2 X0 hx hZ hown (host := "") (Or.inl (tw hw 389 rfl)) Via.refl e0 (S_dg.ext O0.2) (g := (mkF m 78 (q_18 kk i1 a1) [(vN (i1 - 1)), (.ref a1)])) rfl (d84 hby 17 rfl)
  obtain ⟨cl4, Ar4, hin4, hat4⟩ := own_at (j := (Int32.ofNat kk)) (i := kk) (V_dA.ext O0.2) hN_dA (own_nn (n := kk) (by omega)) (own_n (n := kk) (by omega)) (by show kk < 100; omega)
  rw [show (dgL.getD kk 0) = (cv (dg kk)) from own_dg hk] at hat4
  obtain ⟨cl5, Ar5, q5, Sz5, Nn5, Ha5, Gf5⟩ := id V_a1
  have hin5 : ¬ ((Int32.ofNat (i1 - 1)) < 0 ∨ cl5.slots.size ≤ ((Int32.ofNat (i1 - 1))).toNatClampNeg) := own_inb (i := i1 - 1) Sz5 hN_a1 (own_nn (n := i1 - 1) (by omega)) (own_n (n := i1 - 1) (by omega)) (by omega)
  obtain ⟨T6, h6, X6, e6, W6, st6⟩ := stB X3 hx hZ e3 Ar5 (j := (Int32.ofNat (i1 - 1))) hin5 (g := (mkF m 84 (q_18 kk i1 a1) [(.int (cv (dg kk))), (vN (i1 - 1)), (.ref a1)])) rfl rfl (d84 hby 21 rfl)
  have Va6 := Arv.set Ar5 q5 Sz5 Nn5 Ha5 Gf5 (fits_nar_byte _) W6 (i1 - 1) (own_n (n := i1 - 1) (by omega)) (by rw [List.length_map]; exact (by omega))
  have Vb6 : Arv Z h6 a1 kA .byte (Int32.ofNat LA) ((vs.set (i1 - 1) (cLo (dg kk))).map Value.int) (vL 0) := by rw [List.map_set, ← (show (cv (dg kk)).toInt8.toInt32 = (cLo (dg kk)) from own_lo _)]; exact Va6
  have hN6 : ((Int32.ofNat LA)).toNatClampNeg = (vs.set (i1 - 1) (cLo (dg kk))).length := by rw [List.length_set]; exact hN_a1
  have O7 := O0.wr W6 g_a1
  have kp8 : Keep h0 h6 [a1] := (Keep.refl h0 [a1]).wr W6 (Or.inl (List.mem_of_getElem? (i := 0) rfl))
  have N6 := Fr.snoc X6 N0 g_a1
  have pf9 : ∀ target, Go p e w_ T6 m 88 (q_18 kk i1 a1) [(vL (-9)), (.int (-(Int32.ofNat kk)))] target → Go p e w_ s₁ m 25 (q_80 kk i1 a1) [(vL (-100)), (.int (-(Int32.ofNat kk)))] target := by
    intro target k
    refine zy X0 hx 25 72 (d84 hby 13 rfl) (tlt (own_g100 hk)).2.2.1 <| za X0 hx (d84 hby 14 rfl) rfl rfl <| XS.iinc X0.here hx rfl (d84 hby 15 rfl) rfl (l' := #[iv (-(Int32.ofNat kk)), nv i1, rv a1, .unset, .unset, iv ((Int32.ofNat i1) + (-1 : Int32)), iv 0]) rfl ?_
    show Go p e w_ s₁ m 76 #[.val (.int (-(Int32.ofNat kk))), .val (.int (Int32.ofNat i1)), .val (.ref a1), .unset, .unset, .val (.int ((Int32.ofNat i1) + (-1 : Int32))), .val (.int (0 : Int32))] [(.ref a1)] _
    rw [show ((Int32.ofNat i1) + (-1 : Int32)) = (Int32.ofNat (i1 - 1)) from own_dec (n := i1) (by omega)]
    refine zm X0 hx (d84 hby 16 rfl) rfl <| st3 _ <| zl X3 hx (d84 hby 18 rfl) rfl <| XS.ineg X3.here hx rfl (d84 hby 19 rfl) rfl ?_
    show Go p e w_ T3 m 83 (q_18 kk i1 a1) [(.int (-(-(Int32.ofNat kk)))), (.ref dA), (vN (i1 - 1)), (.ref a1)] _
    show Go p e w_ T3 m 83 (q_18 kk i1 a1) [(.int (-(-(Int32.ofNat kk)))), (.ref dA), (.int (Int32.ofNat (i1 - 1))), (.ref a1)] _
    rw [show (-(-(Int32.ofNat kk))) = (Int32.ofNat kk) from Int32.neg_neg]
    refine X3.baloadBytes hx (j := (Int32.ofNat kk)) (v := (.int (cv (dg kk)))) (by rw [e3]; exact Ar4.1) (State.isArrayOf_alike hZ.alike Ar4.2.1) Ar4.2.2 hin4 hat4 (g := (mkF m 83 (q_18 kk i1 a1) [(vN kk), (.ref dA), (vN (i1 - 1)), (.ref a1)])) rfl rfl (d84 hby 20 rfl) _ <| st6 _ <| zl X6 hx (d84 hby 22 rfl) rfl <| XS.bipush X6.here hx rfl (d84 hby 23 rfl) ?_
    exact k
  refine own_lvI X6 hx hlk hret (d84 hby 28 rfl) (by decide) (by decide) (z := (Int32.ofNat (i1 - 1))) (Ls := (q_18 kk i1 a1)) (rest := []) (fun _ k => castTop (ef_ri_gc m (Int32.ofNat kk) (Int32.ofNat i1) a1) ?_) ?_
  · refine pf1 _ <| pf2 _ <| pf9 _ <| zy X6 hx 88 104 (d84 hby 24 rfl) (flt (own_g9 hk)).2.1 <| zm X6 hx (d84 hby 25 rfl) rfl <| zf X6 hx 106 118 (d84 hby 26 rfl) ((if0 _ _).trans (teq (by decide)).1) <| zm X6 hx (d84 hby 27 rfl) rfl ?_
    exact k
  · rw [e6]
    exact ⟨rfl, N6, kp8, ⟨Vb6, by rw [List.length_set]; exact l_a1⟩⟩
theorem d68 : Dl cb74 [(0, .iload_n 1, 1), (1, .istore 5, 2), (3, .iload_n 0, 1), (4, .ifCond .ge 7, 3), (11, .iconst 0, 1), (12, .istore 6, 2), (14, .iload 6, 2), (16, .ifCond .ne 6, 3), (19, .iload_n 0, 1), (20, .ineg, 1), (21, .istore_n 0, 1), (22, .iload_n 0, 1), (23, .bipush (-100), 2), (25, .if_icmp .gt 51, 3), (76, .aload_n 2, 1), (77, .iinc 5 (-1), 3), (80, .iload 5, 2), (82, .getstatic 403, 3), (85, .iload_n 0, 1), (86, .ineg, 1), (87, .baload, 1), (88, .invokestatic 111, 3), (91, .iload_n 0, 1), (92, .bipush (-9), 2), (94, .if_icmp .ge 18, 3), (112, .iload 6, 2), (114, .ifCond .eq 14, 3), (128, .iload 5, 2), (130, .ireturn, 1)] := dlk (by decide +kernel)
theorem ru_gc (dA : Addr) (kG : ClassId) (a1 : Addr) (kA : ClassId) (LA : Nat) (vs : List Int32) (i1 kk : Nat) (DG : Dgt Z dA kG) (B1 : Bar Z h0 a1 kA LA vs) (hB : LA ≤ 110) (hk : kk ≤ 9) (g_a1 : n0 ≤ a1) (h1 : 1 ≤ i1) (hi : 2 * i1 ≤ LA) :
    Mt (l := l) hw (ws := ws) O0 ST Y_84 jdk_52_method_89_code 7 (some .int) R_7 #[(vN kk), (vN i1), (.ref a1)] (Qcm Z a1 (Int32.ofNat (i1 - 1)) (fun h => Bar Z h a1 kA LA (put vs (i1 - 1) (dg kk))) h0 n0) := by
  refine own_met (plainFor_of_name pn0) fun p e s m w_ meth c s₁ hx hby hml hZ hh hown hnm hret hlk X0 e0 => ?_
  have N0 := Fr.nil n0
  have V_a1 := B1.1
  have l_a1 := B1.2
  have hN_a1 : (Int32.ofNat LA).toNatClampNeg = vs.length := by rw [l_a1]; exact own_n (by omega)
  have lt_a1 := V_a1.lt
  obtain ⟨S_dg, V_dA⟩ := id DG
  have hN_dA : (Int32.ofNat 100).toNatClampNeg = dgL.length := by decide +kernel
  have pf1 : ∀ target, Go p e w_ s₁ m 16 (q_57 kk i1 a1) [(vL 0)] target → Go p e w_ s₁ m 0 (q_124 kk i1 a1) [] target := by
    intro target k
    refine zl X0 hx (d68 hby 0 rfl) rfl <| zt X0 hx (d68 hby 1 rfl) (Ls' := (q_142 kk i1 a1)) rfl <| zl X0 hx (d68 hby 2 rfl) rfl <| zf X0 hx 4 11 (d68 hby 3 rfl) ((if0 _ _).trans (flt (own_nn (n := kk) (by omega))).2.1) <| zc X0 hx (d68 hby 4 rfl) <| zt X0 hx (d68 hby 5 rfl) (Ls' := (q_57 kk i1 a1)) rfl <| zm X0 hx (d68 hby 6 rfl) rfl ?_
    exact k
  have pf2 : ∀ target, Go p e w_ s₁ m 25 (q_80 kk i1 a1) [(vL (-100)), (.int (-(Int32.ofNat kk)))] target → Go p e w_ s₁ m 16 (q_57 kk i1 a1) [(vL 0)] target := by
    intro target k
    refine zg X0 hx (d68 hby 7 rfl) ((if0 _ _).trans (teq (by decide)).2) <| zl X0 hx (d68 hby 8 rfl) rfl <| XS.ineg X0.here hx rfl (d68 hby 9 rfl) rfl <| zs X0 hx (d68 hby 10 rfl) (Ls' := (q_80 kk i1 a1)) rfl <| zl X0 hx (d68 hby 11 rfl) rfl <| XS.bipush X0.here hx rfl (d68 hby 12 rfl) ?_
    exact k
  obtain ⟨T3, X3, e3, st3⟩ := getS2 X0 hx hZ hown (host := "") (Or.inl (tw hw 319 rfl)) Via.refl e0 (S_dg.ext O0.2) (g := (mkF m 82 (q_18 kk i1 a1) [(vN (i1 - 1)), (.ref a1)])) rfl (d68 hby 17 rfl)
  obtain ⟨cl4, Ar4, hin4, hat4⟩ := own_at (j := (Int32.ofNat kk)) (i := kk) (V_dA.ext O0.2) hN_dA (own_nn (n := kk) (by omega)) (own_n (n := kk) (by omega)) (by show kk < 100; omega)
  rw [show (dgL.getD kk 0) = (cv (dg kk)) from own_dg hk] at hat4
  obtain ⟨_, T5, Lc5, X5, hQ5, st5⟩ := own_sc X3 hx hZ (y := Y_35) hown hml (tw hw 93 rfl) (tw hw 94 rfl) (ru_put hw O0 ST a1 kA LA vs (i1 - 1) (dg kk) B1 hB (by omega) g_a1) (tw hw 95 rfl) (tw hw 78 rfl) e3 (W := 0) (Ls := (q_18 kk i1 a1)) (argsL := [(.ref a1), (vN (i1 - 1)), (.int (cv (dg kk)))]) (rest := []) (lenOf pd10 rfl) (d68 hby 21 rfl)
  obtain ⟨h5, e5⟩ : ∃ z, T5.heap = z := ⟨_, rfl⟩
  rw [e5] at hQ5
  obtain ⟨rfl, Nq5, K5, Bp5⟩ := hQ5
  have N5 := Fr.app N0 Nq5
  have O6 := O0.keep K5 (allS g_a1 all0)
  have kp7 : Keep h0 h5 [a1] := (Keep.refl h0 [a1]).trans K5 (allS (Or.inl (List.mem_of_getElem? (i := 0) rfl)) all0)
  have RR := Bp5
  have pf8 : ∀ target, Go p e w_ T5 m 94 (q_18 kk i1 a1) [(vL (-9)), (.int (-(Int32.ofNat kk)))] target → Go p e w_ s₁ m 25 (q_80 kk i1 a1) [(vL (-100)), (.int (-(Int32.ofNat kk)))] target := by
    intro target k
    refine zy X0 hx 25 76 (d68 hby 13 rfl) (tlt (own_g100 hk)).2.2.1 <| za X0 hx (d68 hby 14 rfl) rfl rfl <| XS.iinc X0.here hx rfl (d68 hby 15 rfl) rfl (l' := #[iv (-(Int32.ofNat kk)), nv i1, rv a1, .unset, .unset, iv ((Int32.ofNat i1) + (-1 : Int32)), iv 0]) rfl ?_
    show Go p e w_ s₁ m 80 #[.val (.int (-(Int32.ofNat kk))), .val (.int (Int32.ofNat i1)), .val (.ref a1), .unset, .unset, .val (.int ((Int32.ofNat i1) + (-1 : Int32))), .val (.int (0 : Int32))] [(.ref a1)] _
    rw [show ((Int32.ofNat i1) + (-1 : Int32)) = (Int32.ofNat (i1 - 1)) from own_dec (n := i1) (by omega)]
    refine zm X0 hx (d68 hby 16 rfl) rfl <| st3 _ <| zl X3 hx (d68 hby 18 rfl) rfl <| XS.ineg X3.here hx rfl (d68 hby 19 rfl) rfl ?_
    show Go p e w_ T3 m 87 (q_18 kk i1 a1) [(.int (-(-(Int32.ofNat kk)))), (.ref dA), (vN (i1 - 1)), (.ref a1)] _
    show Go p e w_ T3 m 87 (q_18 kk i1 a1) [(.int (-(-(Int32.ofNat kk)))), (.ref dA), (.int (Int32.ofNat (i1 - 1))), (.ref a1)] _
    rw [show (-(-(Int32.ofNat kk))) = (Int32.ofNat kk) from Int32.neg_neg]
    refine X3.baloadBytes hx (j := (Int32.ofNat kk)) (v := (.int (cv (dg kk)))) (by rw [e3]; exact Ar4.1) (State.isArrayOf_alike hZ.alike Ar4.2.1) Ar4.2.2 hin4 hat4 (g := (mkF m 87 (q_18 kk i1 a1) [(vN kk), (.ref dA), (vN (i1 - 1)), (.ref a1)])) rfl rfl (d68 hby 20 rfl) _ <| st5 _ <| zl X5 hx (d68 hby 22 rfl) rfl <| XS.bipush X5.here hx rfl (d68 hby 23 rfl) ?_
    exact k
  refine own_lvI X5 hx hlk hret (d68 hby 28 rfl) (by decide) (by decide) (z := (Int32.ofNat (i1 - 1))) (Ls := (q_18 kk i1 a1)) (rest := []) (fun _ k => castTop (ef_ri_gc m (Int32.ofNat kk) (Int32.ofNat i1) a1) ?_) ?_
  · refine pf1 _ <| pf2 _ <| pf8 _ <| zy X5 hx 94 112 (d68 hby 24 rfl) (flt (own_g9 hk)).2.1 <| zm X5 hx (d68 hby 25 rfl) rfl <| zf X5 hx 114 128 (d68 hby 26 rfl) ((if0 _ _).trans (teq (by decide)).1) <| zm X5 hx (d68 hby 27 rfl) rfl ?_
    exact k
  · rw [e5]
    exact ⟨rfl, N5, kp7, RR⟩
theorem d66 : Dl cb75 [(0, .iload_n 1, 1), (1, .iload_n 2, 1), (2, .aload_n 3, 1), (3, .invokestatic 96, 3), (6, .iload_n 0, 1), (7, .iload_n 2, 1), (8, .aload_n 3, 1), (9, .invokestatic 393, 3), (12, .istore 4, 2), (14, .getstatic 44, 3), (17, .ifCond .ne 17, 3), (34, .iload 4, 2), (36, .ireturn, 1)] := dlk (by decide +kernel)
theorem pd41 : parseMethodDescriptor "(II[B)I" = some ⟨[.int, .int, (.array .byte)], some .int⟩ := by decide +kernel
theorem ef_ru_gd (m : MethodId) (x0 : Int32) (x1 : Int32) (x2 : Int32) (x3 : Addr) : entryFrame m #[(.int x0), (.int x1), (.int x2), (.ref x3)] 5 = mkF m 0 #[.val (.int x0), .val (.int x1), .val (.int x2), .val (.ref x3), .unset] [] := by first | (simp [entryFrame, mkF, argsToLocals, Value.category]; done) | rfl
theorem ru_gd (dA : Addr) (kG : ClassId) (a1 : Addr) (kA : ClassId) (LA : Nat) (vs : List Int32) (i1 kk : Nat) (DG : Dgt Z dA kG) (B1 : Bar Z h0 a1 kA LA vs) (hB : LA ≤ 110) (hk : kk ≤ 9) (g_a1 : n0 ≤ a1) (h1 : 1 ≤ i1) (hi : 2 * i1 ≤ LA) :
    Mt (l := l) hw (ws := ws) O0 ST Y_85 jdk_52_method_77_code 5 (some .int) R_58 #[(vN kk), (vN (i1 - 1)), (vN i1), (.ref a1)] (Qcm Z a1 (Int32.ofNat (i1 - 1)) (fun h => Bar Z h a1 kA LA (put vs (i1 - 1) (dg kk))) h0 n0) := by
  refine own_met (plainFor_of_name pn0) fun p e s m w_ meth c s₁ hx hby hml hZ hh hown hnm hret hlk X0 e0 => ?_
  have N0 := Fr.nil n0
  obtain ⟨S_cs, hG, S_fm, hF, S_ad, S_hi, S_lo⟩ := id ST
  have V_a1 := B1.1
  have l_a1 := B1.2
  have hN_a1 : (Int32.ofNat LA).toNatClampNeg = vs.length := by rw [l_a1]; exact own_n (by omega)
  have lt_a1 := V_a1.lt
  obtain ⟨_, T1, Lc1, X1, hQ1, st1⟩ := own_sc X0 hx hZ (y := Y_82) hown hml (tw hw 312 rfl) (tw hw 313 rfl) (ru_cbe hw O0 ST a1 kA LA vs (i1 - 1) i1 B1 hB (by omega) hi) (tw hw 314 rfl) (tw hw 78 rfl) e0 (W := 0) (Ls := (q_81 kk i1 a1)) (argsL := [(vN (i1 - 1)), (vN i1), (.ref a1)]) (rest := []) (lenOf pd11 rfl) (d66 hby 3 rfl)
  obtain ⟨rfl, Nq1, e1⟩ := hQ1
  have N1 := Fr.app N0 Nq1
  obtain ⟨_, T2, Lc2, X2, hQ2, st2⟩ := own_sc X1 hx hZ (y := Y_84) hown hml (tw hw 316 rfl) (tw hw 317 rfl) (ru_gc hw O0 ST dA kG a1 kA LA vs i1 kk DG B1 hB hk g_a1 h1 hi) (tw hw 318 rfl) (tw hw 78 rfl) e1 (W := 0) (Ls := (q_81 kk i1 a1)) (argsL := [(vN kk), (vN i1), (.ref a1)]) (rest := []) (lenOf pd41 rfl) (d66 hby 7 rfl)
  obtain ⟨h2, e2⟩ : ∃ z, T2.heap = z := ⟨_, rfl⟩
  rw [e2] at hQ2
  obtain ⟨rfl, Nq2, K2, R2⟩ := hQ2
  have N2 := Fr.app N1 Nq2
  have O3 := O0.keep K2 (allS g_a1 all0)
  have kp4 : Keep h0 h2 [a1] := (Keep.refl h0 [a1]).trans K2 (allS (Or.inl (List.mem_of_getElem? (i := 0) rfl)) all0)
  have RR := R2
  obtain ⟨T5, X5, e5, st5⟩ := getS2 X2 hx hZ hown (host := "") (Or.inl (tw hw 96 rfl)) Via.refl e2 (S_ad.ext O3.2) (g := (mkF m 14 (q_104 kk i1 a1) [])) rfl (d66 hby 9 rfl)
  have pf6 : ∀ target, Go p e w_ T5 m 17 (q_104 kk i1 a1) [(vL 1)] target → Go p e w_ s₁ m 0 (q_81 kk i1 a1) [] target := by
    intro target k
    refine zl X0 hx (d66 hby 0 rfl) rfl <| zl X0 hx (d66 hby 1 rfl) rfl <| za X0 hx (d66 hby 2 rfl) rfl rfl <| st1 _ <| zl X1 hx (d66 hby 4 rfl) rfl <| zl X1 hx (d66 hby 5 rfl) rfl <| za X1 hx (d66 hby 6 rfl) rfl rfl <| st2 _ <| zt X2 hx (d66 hby 8 rfl) (Ls' := (q_104 kk i1 a1)) rfl <| st5 _ ?_
    exact k
  refine own_lvI X5 hx hlk hret (d66 hby 12 rfl) (by decide) (by decide) (z := (Int32.ofNat (i1 - 1))) (Ls := (q_104 kk i1 a1)) (rest := []) (fun _ k => castTop (ef_ru_gd m (Int32.ofNat kk) (Int32.ofNat (i1 - 1)) (Int32.ofNat i1) a1) ?_) ?_
  · refine pf6 _ <| zf X5 hx 17 34 (d66 hby 10 rfl) ((if0 _ _).trans (feq (by decide)).2) <| zm X5 hx (d66 hby 11 rfl) rfl ?_
    exact k
  · rw [e5]
    exact ⟨rfl, N2, kp4, RR⟩
theorem d64 : Dl cb76 [(0, .aload_n 0, 1), (1, .getfield 79, 3), (4, .istore_n 2, 1), (5, .iload_n 2, 1), (6, .iload_n 1, 1), (7, .invokestatic 245, 3), (10, .iadd, 1), (11, .istore_n 3, 1), (12, .aload_n 0, 1), (13, .iload_n 3, 1), (14, .invokevirtual 100, 3), (17, .aload_n 0, 1), (18, .invokevirtual 83, 3), (21, .ifCond .eq 16, 3), (24, .iload_n 1, 1), (25, .iload_n 3, 1), (26, .aload_n 0, 1), (27, .getfield 15, 3), (30, .invokestatic 248, 3), (33, .pop, 1), (34, .goto 14, 3), (48, .aload_n 0, 1), (49, .iload_n 3, 1), (50, .putfield 79, 3), (53, .aload_n 0, 1), (54, .areturn, 1), (37, .iload_n 1, 1), (38, .iload_n 2, 1), (39, .iload_n 3, 1), (40, .aload_n 0, 1), (41, .getfield 15, 3), (44, .invokestatic 251, 3), (47, .pop, 1)] := dlk (by decide +kernel)
theorem ef_rb_ai0 (m : MethodId) (x0 : Addr) (x1 : Int32) : entryFrame m #[(.ref x0), (.int x1)] 4 = mkF m 0 #[.val (.ref x0), .val (.int x1), .unset, .unset] [] := by first | (simp [entryFrame, mkF, argsToLocals, Value.category]; done) | rfl
theorem rb_ai0 (dA : Addr) (kG : ClassId) (a1 bA : Addr) (kA : ClassId) (LB : Nat) (cs : List UInt16) (kk : Nat) (DG : Dgt Z dA kG) (HB : Sb0 Z h0 a1 bA kA LB cs.length cs) (hnn : cs.length ≤ 24) (g_a1 : n0 ≤ a1) (g_bA : n0 ≤ bA) (hk : kk ≤ 9) (htot : cs.length + 1 ≤ 24) :
    Mt (l := l) hw (ws := ws) O0 ST Y_51 jdk_68_method_32_code 4 (some (.object "java/lang/AbstractStringBuilder")) R_11 #[(.ref a1), (vN kk)] (Qsv (fun h b k LB' => Sb0 Z h a1 b k LB' (cs ++ [dg kk]).length (cs ++ [dg kk]) ∧ (LB' = LB ∨ 2 * LB + 2 ≤ LB')) (some (.ref a1)) a1 bA h0 n0) := by
  refine own_met (plainFor_of_name pn6) fun p e s m w_ meth c s₁ hx hby hml hZ hh hown hnm hret hlk X0 e0 => ?_
  have N0 := Fr.nil n0
  obtain ⟨Es, Fv, Fc, Fn, Fy, Eb, hu, hL, tl, Bs⟩ := id HB
  have Vs := Bs.1
  have ls := Bs.2
  have hNs : (Int32.ofNat LB).toNatClampNeg = (cs.map cLo ++ tl).length := by rw [ls]; exact own_n (by omega)
  have lq : cs.length + tl.length = LB := by rw [← ls]; simp only [List.length_append, List.length_map, enc1_len]
  have lt_a1 := Es.lt
  have lt_bA := Vs.lt
  have n_ab : a1 ≠ bA := Exa.neArv Es Vs (tw hw 122 rfl)
  obtain ⟨T1, X1, e1, st1⟩ := getF X0 hx hZ hown (host := "") (Or.inl (tw hw 250 rfl)) Via.refl e0 Fn (g := (mkF m 1 (q_24 a1 kk) [(.ref a1)])) rfl rfl (d64 hby 1 rfl)
  obtain ⟨_, T2, Lc2, X2, hQ2, st2⟩ := own_sc X1 hx hZ (y := Y_63) hown hml (tw hw 305 rfl) (tw hw 306 rfl) (ri_ss hw O0 ST kk hk) (tw hw 308 rfl) (tw hw 307 rfl) e1 (W := 1) (Ls := (q_58 a1 kk cs)) (argsL := [(vN kk)]) (rest := [(vN cs.length)]) (lenOf pd7 rfl) (d64 hby 5 rfl)
  obtain ⟨rfl, Nq2, e2⟩ := hQ2
  have N2 := Fr.app N0 Nq2
  obtain ⟨_, T3, Lc3, X3, hQ3, st3⟩ := own_pc X2 hx hZ (y := Y_13) hown hml (tw hw 252 rfl) (tw hw 253 rfl) (tw hw 255 rfl) (tw hw 254 rfl) (rb_ec0 hw O0 ST a1 bA kA LB cs (cs.length + 1) HB hnn g_a1 g_bA htot) (tw hw 256 rfl) (tw hw 225 rfl) e2 (Es) (W := 0) (Ls := (q_11 a1 kk cs)) (argsL := [(vN (cs.length + 1))]) (rest := []) (lenOf pd24 rfl) (d64 hby 10 rfl)
  obtain ⟨h3, e3⟩ : ∃ z, T3.heap = z := ⟨_, rfl⟩
  rw [e3] at hQ3
  obtain ⟨rfl, Nq3, K3, x3, kx3, LBx3, or3, HBx3, hcap3, hgr3⟩ := hQ3
  have N3 := Fr.app N2 Nq3
  have O4 := O0.keep K3 (allS g_a1 (allS g_bA all0))
  have kp5 : Keep h0 h3 [a1, bA] := (Keep.refl h0 [a1, bA]).trans K3 (allS (Or.inl (List.mem_of_getElem? (i := 0) rfl)) (allS (Or.inl (List.mem_of_getElem? (i := 1) rfl)) all0))
  have or_x3 : x3 = bA ∨ h0.size ≤ x3 := or3.imp id fun q => Nat.le_trans (Keep.refl h0 [a1, bA]).1 q
  have g_x3 : n0 ≤ x3 := own_gor or_x3 g_bA (own_sz O0)
  have wk_x3 : x3 ∈ [a1, bA] ∨ h0.size ≤ x3 := own_mem or_x3
  obtain ⟨Es_n, Fv_n, Fc_n, Fn_n, Fy_n, Eb_n, hu_n, hL_n, tl_n, Bs_n⟩ := id HBx3
  have Vs_n := Bs_n.1
  have ls_n := Bs_n.2
  have hNs_n : (Int32.ofNat LBx3).toNatClampNeg = (cs.map cLo ++ tl_n).length := by rw [ls_n]; exact own_n (by omega)
  have lq_n : cs.length + tl_n.length = LBx3 := by rw [← ls_n]; simp only [List.length_append, List.length_map, enc1_len]
  have n_a1_x3 : a1 ≠ x3 := Exa.neArv Es_n Vs_n (tw hw 122 rfl)
  obtain ⟨_, T6, Lc6, X6, hQ6, st6⟩ := own_vc X3 hx hZ (y := Y_3) hown hml (tw hw 284 rfl) (tw hw 285 rfl) (tw hw 287 rfl) (tw hw 286 rfl) (rb_il0 hw O4 ST a1 x3 kx3 LBx3 cs.length cs HBx3 hnn) (tw hw 288 rfl) (tw hw 225 rfl) e3 Es_n (W := 0) (Ls := (q_11 a1 kk cs)) (argsL := []) (rest := []) (lenOf pd6 rfl) (d64 hby 12 rfl)
  obtain ⟨rfl, Nq6, e6⟩ := hQ6
  have N6 := Fr.app N3 Nq6
  have pf7 : ∀ target, Go p e w_ T6 m 21 (q_11 a1 kk cs) [(vL 1)] target → Go p e w_ s₁ m 0 (q_24 a1 kk) [] target := by
    intro target k
    refine za X0 hx (d64 hby 0 rfl) rfl rfl <| st1 _ <| zs X1 hx (d64 hby 2 rfl) (Ls' := (q_58 a1 kk cs)) rfl <| zl X1 hx (d64 hby 3 rfl) rfl <| zl X1 hx (d64 hby 4 rfl) rfl <| st2 _ <| XS.iadd X2.here hx rfl (d64 hby 6 rfl) rfl ?_
    show Go p e w_ T2 m 11 (q_58 a1 kk cs) [(.int ((Int32.ofNat cs.length) + (1 : Int32)))] _
    rw [show ((Int32.ofNat cs.length) + (1 : Int32)) = (Int32.ofNat (cs.length + 1)) from own_add cs.length 1]
    refine zs X2 hx (d64 hby 7 rfl) (Ls' := (q_11 a1 kk cs)) rfl <| za X2 hx (d64 hby 8 rfl) rfl rfl <| zl X2 hx (d64 hby 9 rfl) rfl <| st3 _ <| za X3 hx (d64 hby 11 rfl) rfl rfl <| st6 _ ?_
    exact k
  obtain ⟨T8, X8, e8, st8⟩ := getF X6 hx hZ hown (host := "") (Or.inl (tw hw 234 rfl)) Via.refl e6 Fv_n (g := (mkF m 27 (q_11 a1 kk cs) [(.ref a1), (vN (cs.length + 1)), (vN kk)])) rfl rfl (d64 hby 17 rfl)
  obtain ⟨_, T9, Lc9, X9, hQ9, st9⟩ := own_sc X8 hx hZ (y := Y_83) hown hml (tw hw 386 rfl) (tw hw 387 rfl) (ri_gc hw O4 ST dA kG x3 kx3 LBx3 (cs.map cLo ++ tl_n) (cs.length + 1) kk DG ⟨Vs_n, ls_n⟩ (by omega) hk g_x3 (by omega) (by omega)) (tw hw 388 rfl) (tw hw 307 rfl) e8 (W := 0) (Ls := (q_11 a1 kk cs)) (argsL := [(vN kk), (vN (cs.length + 1)), (.ref x3)]) (rest := []) (lenOf pd41 rfl) (d64 hby 18 rfl)
  obtain ⟨h9, e9⟩ : ∃ z, T9.heap = z := ⟨_, rfl⟩
  rw [e9] at hQ9
  obtain ⟨rfl, Nq9, K9, R9⟩ := hQ9
  have N9 := Fr.app N6 Nq9
  have O10 := O4.keep K9 (allS g_x3 all0)
  have kp11 := kp5.trans K9 (allS wk_x3 all0)
  have Bq : Bar Z h9 x3 kx3 LBx3 ((cs ++ [dg kk]).map cLo ++ tl_n.drop 1) := by rw [← own_sA (u := dg kk) (by omega)]; exact R9
  obtain ⟨T12, h12, X12, e12, W12, st12⟩ := putF X9 hx hZ hown (host := "") (Or.inl (tw hw 250 rfl)) Via.refl e9 (Fn_n.keep K9 (ninS n_a1_x3 nin0)) (Es_n.keep K9) (Or.inl (tw hw 251 rfl)) (tw hw 122 rfl) (ty := .int) (by decide) rfl rfl (g := (mkF m 50 (q_11 a1 kk cs) [(vN (cs.length + 1)), (.ref a1)])) rfl rfl (d64 hby 23 rfl)
  have Fw12 := (Fn_n.keep K9 (ninS n_a1_x3 nin0)).same W12
  have O13 := O10.wr W12 g_a1
  have kp14 := kp11.wr W12 (Or.inl (List.mem_of_getElem? (i := 0) rfl))
  have N12 := Fr.snoc X12 N9 g_a1
  refine own_lvA X12 hx hlk hret rfl (d64 hby 25 rfl) (by decide) (by decide) (w := (.ref a1)) rfl (Ls := (q_11 a1 kk cs)) (rest := []) (fun _ k => castTop (ef_rb_ai0 m a1 (Int32.ofNat kk)) ?_) ?_
  · refine pf7 _ <| zg X6 hx (d64 hby 13 rfl) ((if0 _ _).trans (feq (by decide)).1) <| zl X6 hx (d64 hby 14 rfl) rfl <| zl X6 hx (d64 hby 15 rfl) rfl <| za X6 hx (d64 hby 16 rfl) rfl rfl <| st8 _ <| st9 _ <| XS.pop X9.here hx rfl (d64 hby 19 rfl) rfl rfl <| zo X9 hx 34 48 (d64 hby 20 rfl) <| za X9 hx (d64 hby 21 rfl) rfl rfl <| zl X9 hx (d64 hby 22 rfl) rfl <| st12 _ <| za X12 hx (d64 hby 24 rfl) rfl rfl ?_
    exact k
  · rw [e12]
    exact ⟨rfl, N12, kp14, x3, _, _, or_x3, by rw [List.length_append]; exact ⟨((Es_n.keep K9).wr W12), ((Fv_n.keep K9 (ninS n_a1_x3 nin0)).other W12 (Or.inr (slot_ne (Or.inl (tw hw 235 rfl)) (Or.inl (tw hw 251 rfl)) (by decide) (t := (.array .byte)) (t' := .int) (by decide) (by decide)))), ((Fc_n.keep K9 (ninS n_a1_x3 nin0)).other W12 (Or.inr (slot_ne (Or.inl (tw hw 232 rfl)) (Or.inl (tw hw 251 rfl)) (by decide) (t := .byte) (t' := .int) (by decide) (by decide)))), Fw12, ((Fy_n.keep K9 (ninS n_a1_x3 nin0)).other W12 (Or.inr (slot_ne (Or.inl (tw hw 365 rfl)) (Or.inl (tw hw 251 rfl)) (by decide) (t := .boolean) (t' := .int) (by decide) (by decide)))), ((Eb_n.keep K9).wr W12), (own_all hu_n (fun u q => by rw [List.mem_singleton.mp q]; exact own_dgl hk)), hL_n, _, ⟨(Bq.1.other W12 (Ne.symm n_a1_x3)), Bq.2⟩⟩, hgr3⟩
theorem d63 : Dl cb77 [(0, .aload_n 0, 1), (1, .iload_n 1, 1), (2, .invokespecial 53, 3), (5, .pop, 1), (6, .aload_n 0, 1), (7, .areturn, 1)] := dlk (by decide +kernel)
theorem pd42 : parseMethodDescriptor "(I)Ljava/lang/AbstractStringBuilder;" = some ⟨[.int], some (.object "java/lang/AbstractStringBuilder")⟩ := by decide +kernel
theorem rb_aj0 (dA : Addr) (kG : ClassId) (a1 bA : Addr) (kA : ClassId) (LB : Nat) (cs : List UInt16) (kk : Nat) (DG : Dgt Z dA kG) (HB : Sb0 Z h0 a1 bA kA LB cs.length cs) (hnn : cs.length ≤ 24) (g_a1 : n0 ≤ a1) (g_bA : n0 ≤ bA) (hk : kk ≤ 9) (htot : cs.length + 1 ≤ 24) :
    Mt (l := l) hw (ws := ws) O0 ST Y_33 jdk_67_method_15_code 2 (some (.object "java/lang/StringBuilder")) R_28 #[(.ref a1), (vN kk)] (Qsv (fun h b k LB' => Sb0 Z h a1 b k LB' (cs ++ [dg kk]).length (cs ++ [dg kk]) ∧ (LB' = LB ∨ 2 * LB + 2 ≤ LB')) (some (.ref a1)) a1 bA h0 n0) := by
  refine own_met (plainFor_of_name pn7) fun p e s m w_ meth c s₁ hx hby hml hZ hh hown hnm hret hlk X0 e0 => ?_
  have N0 := Fr.nil n0
  have Es := HB.1
  obtain ⟨_, _, ⟨T1, L1, k1, n1⟩, -, X1, ⟨Lc1, hQ1, l1, y1, z1⟩, st1⟩ := Jvm.RoadKit.superBack X0 hx hZ (y := Y_51) (K := "java/lang/AbstractStringBuilder") hown (tw hw 301 rfl) (own_same (C := "java/lang/StringBuilder") (tw hw 303 rfl) (tw hw 287 rfl)) (tw hw 302 rfl) (tw hw 248 rfl) (by decide) (backOf (W := 0) (rb_ai0 hw O0 ST dA kG a1 bA kA LB cs kk DG HB hnn g_a1 g_bA hk htot) hZ (tw hw 304 rfl) (tw hw 225 rfl) (by decide) (by decide)) e0 (Ins.of_exa Es (tw hw 224 rfl)) (g := (mkF m 2 (q_2 a1 kk) [(vN kk), (.ref a1)])) rfl (by rw [hml]; rfl) (tw hw 304 rfl) (argsL := [(vN kk)]) (rest := []) (lenOf pd42 rfl) rfl (by show 2 * 0 + _ ≤ _; exact Nat.le_of_eq rfl) (d63 hby 2 rfl) (fun _ _ => ⟨rfl, e0, (by decide : 0 + 1 ≤ _), (by decide : 0 + 110 ≤ _)⟩)
  dsimp only [Pt.U, Pt.locs, Pt.cells, Pt.slots] at X1 l1 y1 z1 st1 hQ1
  subst l1 y1 z1
  obtain ⟨h1, e1⟩ : ∃ z, T1.heap = z := ⟨_, rfl⟩
  rw [e1] at hQ1
  obtain ⟨rfl, Nq1, K1, R1⟩ := hQ1
  have N1 := Fr.app N0 Nq1
  have O2 := O0.keep K1 (allS g_a1 (allS g_bA all0))
  have kp3 : Keep h0 h1 [a1, bA] := (Keep.refl h0 [a1, bA]).trans K1 (allS (Or.inl (List.mem_of_getElem? (i := 0) rfl)) (allS (Or.inl (List.mem_of_getElem? (i := 1) rfl)) all0))
  have RR := R1
  refine own_lvA X1 hx hlk hret rfl (d63 hby 5 rfl) (by decide) (by decide) (w := (.ref a1)) rfl (Ls := (q_2 a1 kk)) (rest := []) (fun _ k => castTop (ef_ru_get m a1 (Int32.ofNat kk)) ?_) ?_
  · refine za X0 hx (d63 hby 0 rfl) rfl rfl <| zl X0 hx (d63 hby 1 rfl) rfl <| st1.trans <| XS.pop X1.here hx rfl (d63 hby 3 rfl) rfl rfl <| za X1 hx (d63 hby 4 rfl) rfl rfl ?_
    exact k
  · rw [e1]
    exact ⟨rfl, N1, kp3, RR⟩
theorem pd43 : parseMethodDescriptor "(III[B)I" = some ⟨[.int, .int, .int, (.array .byte)], some .int⟩ := by decide +kernel
theorem rb_ai1 (dA : Addr) (kG : ClassId) (a1 bA : Addr) (kA : ClassId) (LB : Nat) (cs : List UInt16) (kk : Nat) (DG : Dgt Z dA kG) (HB : Sb1 Z h0 a1 bA kA LB cs.length cs) (hnn : cs.length ≤ 24) (g_a1 : n0 ≤ a1) (g_bA : n0 ≤ bA) (hk : kk ≤ 9) (htot : cs.length + 1 ≤ 24) :
    Mt (l := l) hw (ws := ws) O0 ST Y_51 jdk_68_method_32_code 4 (some (.object "java/lang/AbstractStringBuilder")) R_11 #[(.ref a1), (vN kk)] (Qsv (fun h b k LB' => Sb1 Z h a1 b k LB' (cs ++ [dg kk]).length (cs ++ [dg kk]) ∧ (LB' = LB ∨ 2 * LB + 2 ≤ LB')) (some (.ref a1)) a1 bA h0 n0) := by
  refine own_met (plainFor_of_name pn6) fun p e s m w_ meth c s₁ hx hby hml hZ hh hown hnm hret hlk X0 e0 => ?_
  have N0 := Fr.nil n0
  obtain ⟨Es, Fv, Fc, Fn, Fy, Eb, hL, tl, Bs⟩ := id HB
  have Vs := Bs.1
  have ls := Bs.2
  have hNs : (Int32.ofNat LB).toNatClampNeg = (enc1 cs ++ tl).length := by rw [ls]; exact own_n (by omega)
  have lq : 2 * cs.length + tl.length = LB := by rw [← ls]; simp only [List.length_append, List.length_map, enc1_len]
  have lt_a1 := Es.lt
  have lt_bA := Vs.lt
  have n_ab : a1 ≠ bA := Exa.neArv Es Vs (tw hw 122 rfl)
  obtain ⟨T1, X1, e1, st1⟩ := getF X0 hx hZ hown (host := "") (Or.inl (tw hw 250 rfl)) Via.refl e0 Fn (g := (mkF m 1 (q_24 a1 kk) [(.ref a1)])) rfl rfl (d64 hby 1 rfl)
  obtain ⟨_, T2, Lc2, X2, hQ2, st2⟩ := own_sc X1 hx hZ (y := Y_63) hown hml (tw hw 305 rfl) (tw hw 306 rfl) (ri_ss hw O0 ST kk hk) (tw hw 308 rfl) (tw hw 307 rfl) e1 (W := 1) (Ls := (q_58 a1 kk cs)) (argsL := [(vN kk)]) (rest := [(vN cs.length)]) (lenOf pd7 rfl) (d64 hby 5 rfl)
  obtain ⟨rfl, Nq2, e2⟩ := hQ2
  have N2 := Fr.app N0 Nq2
  obtain ⟨_, T3, Lc3, X3, hQ3, st3⟩ := own_pc X2 hx hZ (y := Y_13) hown hml (tw hw 252 rfl) (tw hw 253 rfl) (tw hw 255 rfl) (tw hw 254 rfl) (rb_ec1 hw O0 ST a1 bA kA LB cs (cs.length + 1) HB hnn g_a1 g_bA htot) (tw hw 256 rfl) (tw hw 225 rfl) e2 (Es) (W := 0) (Ls := (q_11 a1 kk cs)) (argsL := [(vN (cs.length + 1))]) (rest := []) (lenOf pd24 rfl) (d64 hby 10 rfl)
  obtain ⟨h3, e3⟩ : ∃ z, T3.heap = z := ⟨_, rfl⟩
  rw [e3] at hQ3
  obtain ⟨rfl, Nq3, K3, x3, kx3, LBx3, or3, HBx3, hcap3, hgr3⟩ := hQ3
  have N3 := Fr.app N2 Nq3
  have O4 := O0.keep K3 (allS g_a1 (allS g_bA all0))
  have kp5 : Keep h0 h3 [a1, bA] := (Keep.refl h0 [a1, bA]).trans K3 (allS (Or.inl (List.mem_of_getElem? (i := 0) rfl)) (allS (Or.inl (List.mem_of_getElem? (i := 1) rfl)) all0))
  have or_x3 : x3 = bA ∨ h0.size ≤ x3 := or3.imp id fun q => Nat.le_trans (Keep.refl h0 [a1, bA]).1 q
  have g_x3 : n0 ≤ x3 := own_gor or_x3 g_bA (own_sz O0)
  have wk_x3 : x3 ∈ [a1, bA] ∨ h0.size ≤ x3 := own_mem or_x3
  obtain ⟨Es_n, Fv_n, Fc_n, Fn_n, Fy_n, Eb_n, hL_n, tl_n, Bs_n⟩ := id HBx3
  have Vs_n := Bs_n.1
  have ls_n := Bs_n.2
  have hNs_n : (Int32.ofNat LBx3).toNatClampNeg = (enc1 cs ++ tl_n).length := by rw [ls_n]; exact own_n (by omega)
  have lq_n : 2 * cs.length + tl_n.length = LBx3 := by rw [← ls_n]; simp only [List.length_append, List.length_map, enc1_len]
  have n_a1_x3 : a1 ≠ x3 := Exa.neArv Es_n Vs_n (tw hw 122 rfl)
  obtain ⟨_, T6, Lc6, X6, hQ6, st6⟩ := own_vc X3 hx hZ (y := Y_3) hown hml (tw hw 284 rfl) (tw hw 285 rfl) (tw hw 287 rfl) (tw hw 286 rfl) (rb_il1 hw O4 ST a1 x3 kx3 LBx3 cs.length cs HBx3 hnn) (tw hw 288 rfl) (tw hw 225 rfl) e3 Es_n (W := 0) (Ls := (q_11 a1 kk cs)) (argsL := []) (rest := []) (lenOf pd6 rfl) (d64 hby 12 rfl)
  obtain ⟨rfl, Nq6, e6⟩ := hQ6
  have N6 := Fr.app N3 Nq6
  have pf7 : ∀ target, Go p e w_ T6 m 21 (q_11 a1 kk cs) [(vL 0)] target → Go p e w_ s₁ m 0 (q_24 a1 kk) [] target := by
    intro target k
    refine za X0 hx (d64 hby 0 rfl) rfl rfl <| st1 _ <| zs X1 hx (d64 hby 2 rfl) (Ls' := (q_58 a1 kk cs)) rfl <| zl X1 hx (d64 hby 3 rfl) rfl <| zl X1 hx (d64 hby 4 rfl) rfl <| st2 _ <| XS.iadd X2.here hx rfl (d64 hby 6 rfl) rfl ?_
    show Go p e w_ T2 m 11 (q_58 a1 kk cs) [(.int ((Int32.ofNat cs.length) + (1 : Int32)))] _
    rw [show ((Int32.ofNat cs.length) + (1 : Int32)) = (Int32.ofNat (cs.length + 1)) from own_add cs.length 1]
    refine zs X2 hx (d64 hby 7 rfl) (Ls' := (q_11 a1 kk cs)) rfl <| za X2 hx (d64 hby 8 rfl) rfl rfl <| zl X2 hx (d64 hby 9 rfl) rfl <| st3 _ <| za X3 hx (d64 hby 11 rfl) rfl rfl <| st6 _ ?_
    exact k
  obtain ⟨T8, X8, e8, st8⟩ := getF X6 hx hZ hown (host := "") (Or.inl (tw hw 234 rfl)) Via.refl e6 Fv_n (g := (mkF m 41 (q_11 a1 kk cs) [(.ref a1), (vN (cs.length + 1)), (vN cs.length), (vN kk)])) rfl rfl (d64 hby 30 rfl)
  obtain ⟨_, T9, Lc9, X9, hQ9, st9⟩ := own_sc X8 hx hZ (y := Y_85) hown hml (tw hw 309 rfl) (tw hw 310 rfl) (ru_gd hw O4 ST dA kG x3 kx3 LBx3 (enc1 cs ++ tl_n) (cs.length + 1) kk DG ⟨Vs_n, ls_n⟩ (by omega) hk g_x3 (by omega) (by omega)) (tw hw 311 rfl) (tw hw 78 rfl) e8 (W := 0) (Ls := (q_11 a1 kk cs)) (argsL := [(vN kk), (vN cs.length), (vN (cs.length + 1)), (.ref x3)]) (rest := []) (lenOf pd43 rfl) (d64 hby 31 rfl)
  obtain ⟨h9, e9⟩ : ∃ z, T9.heap = z := ⟨_, rfl⟩
  rw [e9] at hQ9
  obtain ⟨rfl, Nq9, K9, R9⟩ := hQ9
  have N9 := Fr.app N6 Nq9
  have O10 := O4.keep K9 (allS g_x3 all0)
  have kp11 := kp5.trans K9 (allS wk_x3 all0)
  have Bq : Bar Z h9 x3 kx3 LBx3 (enc1 (cs ++ [dg kk]) ++ tl_n.drop 2) := by rw [← own_sB (u := dg kk) (by omega)]; exact R9
  obtain ⟨T12, h12, X12, e12, W12, st12⟩ := putF X9 hx hZ hown (host := "") (Or.inl (tw hw 250 rfl)) Via.refl e9 (Fn_n.keep K9 (ninS n_a1_x3 nin0)) (Es_n.keep K9) (Or.inl (tw hw 251 rfl)) (tw hw 122 rfl) (ty := .int) (by decide) rfl rfl (g := (mkF m 50 (q_11 a1 kk cs) [(vN (cs.length + 1)), (.ref a1)])) rfl rfl (d64 hby 23 rfl)
  have Fw12 := (Fn_n.keep K9 (ninS n_a1_x3 nin0)).same W12
  have O13 := O10.wr W12 g_a1
  have kp14 := kp11.wr W12 (Or.inl (List.mem_of_getElem? (i := 0) rfl))
  have N12 := Fr.snoc X12 N9 g_a1
  refine own_lvA X12 hx hlk hret rfl (d64 hby 25 rfl) (by decide) (by decide) (w := (.ref a1)) rfl (Ls := (q_11 a1 kk cs)) (rest := []) (fun _ k => castTop (ef_rb_ai0 m a1 (Int32.ofNat kk)) ?_) ?_
  · refine pf7 _ <| zf X6 hx 21 37 (d64 hby 13 rfl) ((if0 _ _).trans (teq (by decide)).1) <| zl X6 hx (d64 hby 26 rfl) rfl <| zl X6 hx (d64 hby 27 rfl) rfl <| zl X6 hx (d64 hby 28 rfl) rfl <| za X6 hx (d64 hby 29 rfl) rfl rfl <| st8 _ <| st9 _ <| XS.pop X9.here hx rfl (d64 hby 32 rfl) rfl rfl <| za X9 hx (d64 hby 21 rfl) rfl rfl <| zl X9 hx (d64 hby 22 rfl) rfl <| st12 _ <| za X12 hx (d64 hby 24 rfl) rfl rfl ?_
    exact k
  · rw [e12]
    exact ⟨rfl, N12, kp14, x3, _, _, or_x3, by rw [List.length_append]; exact ⟨((Es_n.keep K9).wr W12), ((Fv_n.keep K9 (ninS n_a1_x3 nin0)).other W12 (Or.inr (slot_ne (Or.inl (tw hw 235 rfl)) (Or.inl (tw hw 251 rfl)) (by decide) (t := (.array .byte)) (t' := .int) (by decide) (by decide)))), ((Fc_n.keep K9 (ninS n_a1_x3 nin0)).other W12 (Or.inr (slot_ne (Or.inl (tw hw 232 rfl)) (Or.inl (tw hw 251 rfl)) (by decide) (t := .byte) (t' := .int) (by decide) (by decide)))), Fw12, ((Fy_n.keep K9 (ninS n_a1_x3 nin0)).other W12 (Or.inr (slot_ne (Or.inl (tw hw 365 rfl)) (Or.inl (tw hw 251 rfl)) (by decide) (t := .boolean) (t' := .int) (by decide) (by decide)))), ((Eb_n.keep K9).wr W12), hL_n, _, ⟨(Bq.1.other W12 (Ne.symm n_a1_x3)), Bq.2⟩⟩, hgr3⟩
theorem rb_aj1 (dA : Addr) (kG : ClassId) (a1 bA : Addr) (kA : ClassId) (LB : Nat) (cs : List UInt16) (kk : Nat) (DG : Dgt Z dA kG) (HB : Sb1 Z h0 a1 bA kA LB cs.length cs) (hnn : cs.length ≤ 24) (g_a1 : n0 ≤ a1) (g_bA : n0 ≤ bA) (hk : kk ≤ 9) (htot : cs.length + 1 ≤ 24) :
    Mt (l := l) hw (ws := ws) O0 ST Y_33 jdk_67_method_15_code 2 (some (.object "java/lang/StringBuilder")) R_28 #[(.ref a1), (vN kk)] (Qsv (fun h b k LB' => Sb1 Z h a1 b k LB' (cs ++ [dg kk]).length (cs ++ [dg kk]) ∧ (LB' = LB ∨ 2 * LB + 2 ≤ LB')) (some (.ref a1)) a1 bA h0 n0) := by
  refine own_met (plainFor_of_name pn7) fun p e s m w_ meth c s₁ hx hby hml hZ hh hown hnm hret hlk X0 e0 => ?_
  have N0 := Fr.nil n0
  have Es := HB.1
  obtain ⟨_, _, ⟨T1, L1, k1, n1⟩, -, X1, ⟨Lc1, hQ1, l1, y1, z1⟩, st1⟩ := Jvm.RoadKit.superBack X0 hx hZ (y := Y_51) (K := "java/lang/AbstractStringBuilder") hown (tw hw 301 rfl) (own_same (C := "java/lang/StringBuilder") (tw hw 303 rfl) (tw hw 287 rfl)) (tw hw 302 rfl) (tw hw 248 rfl) (by decide) (backOf (W := 0) (rb_ai1 hw O0 ST dA kG a1 bA kA LB cs kk DG HB hnn g_a1 g_bA hk htot) hZ (tw hw 304 rfl) (tw hw 225 rfl) (by decide) (by decide)) e0 (Ins.of_exa Es (tw hw 224 rfl)) (g := (mkF m 2 (q_2 a1 kk) [(vN kk), (.ref a1)])) rfl (by rw [hml]; rfl) (tw hw 304 rfl) (argsL := [(vN kk)]) (rest := []) (lenOf pd42 rfl) rfl (by show 2 * 0 + _ ≤ _; exact Nat.le_of_eq rfl) (d63 hby 2 rfl) (fun _ _ => ⟨rfl, e0, (by decide : 0 + 1 ≤ _), (by decide : 0 + 110 ≤ _)⟩)
  dsimp only [Pt.U, Pt.locs, Pt.cells, Pt.slots] at X1 l1 y1 z1 st1 hQ1
  subst l1 y1 z1
  obtain ⟨h1, e1⟩ : ∃ z, T1.heap = z := ⟨_, rfl⟩
  rw [e1] at hQ1
  obtain ⟨rfl, Nq1, K1, R1⟩ := hQ1
  have N1 := Fr.app N0 Nq1
  have O2 := O0.keep K1 (allS g_a1 (allS g_bA all0))
  have kp3 : Keep h0 h1 [a1, bA] := (Keep.refl h0 [a1, bA]).trans K1 (allS (Or.inl (List.mem_of_getElem? (i := 0) rfl)) (allS (Or.inl (List.mem_of_getElem? (i := 1) rfl)) all0))
  have RR := R1
  refine own_lvA X1 hx hlk hret rfl (d63 hby 5 rfl) (by decide) (by decide) (w := (.ref a1)) rfl (Ls := (q_2 a1 kk)) (rest := []) (fun _ k => castTop (ef_ru_get m a1 (Int32.ofNat kk)) ?_) ?_
  · refine za X0 hx (d63 hby 0 rfl) rfl rfl <| zl X0 hx (d63 hby 1 rfl) rfl <| st1.trans <| XS.pop X1.here hx rfl (d63 hby 3 rfl) rfl rfl <| za X1 hx (d63 hby 4 rfl) rfl rfl ?_
    exact k
  · rw [e1]
    exact ⟨rfl, N1, kp3, RR⟩
theorem own_cst {p : Program} {l : Launch} {e : Env} {R : Room} {s : State} {m : MethodId} {args : Array Value} {w_ : List Frame} {meth : Method} {c : Code} {T : State} {locs : List Loc} {cells slots : Nat} {Z : State} {h : Heap} {n0 : Nat} (X : Stand p l e R s m args w_ meth c T locs cells slots) (hx : p.tables.exec = Jvm.exec) (hZ : Z.Warmed39 s.vm) (eT : T.heap = h)
    {a : Addr} {k : ClassId} {L : Nat} {us : List UInt16} (V : Car Z h a k L us) (N : Fr n0 locs) (g : n0 ≤ a) {pc : Nat} (hd : decode c.code pc = .ok (.castore, 1)) {Ls : Array Slot} {rest : List Value} (i : Nat) (u : UInt16) {z : Int32} (hz : z = cv u := by rfl) (hL : L < 2147483648 := by decide) (hi : i < L := by decide) :
    ∃ (T' : State) (h' : Heap) (L' : List Loc), Stand p l e R s m args w_ meth c T' L' cells slots ∧ T'.heap = h' ∧ Keep h h' [a] ∧ Car Z h' a k L (us.set i u) ∧ Fr n0 L' ∧ ∀ target, Go p e w_ T' m (pc + 1) Ls rest target → Go p e w_ T m pc Ls (.int z :: .int (Int32.ofNat i) :: .ref a :: rest) target := by
  subst hz
  obtain ⟨V1, V2⟩ := V
  obtain ⟨cl, Ar, q, Sz, Nn, Ha, Gf⟩ := V1
  have hn := own_n (n := i) (by omega)
  have hN : (Int32.ofNat L).toNatClampNeg = (us.map cv).length := by rw [List.length_map, V2]; exact own_n hL
  obtain ⟨T', h', X', e', W', st⟩ := stC X hx hZ eT Ar (j := Int32.ofNat i) (x := cv u) (own_inb (i := i) Sz hN (own_nn (n := i) (by omega)) hn (by rw [List.length_map, V2]; exact hi)) (g := mkF m pc Ls (.int (cv u) :: .int (Int32.ofNat i) :: .ref a :: rest)) rfl rfl hd
  have Va := Arv.set Ar q Sz Nn Ha Gf (fits_nar_char _) W' i hn (by rw [List.length_map, List.length_map, V2]; exact hi)
  refine ⟨T', h', _, X', e', Keep.of_wr W', ⟨?_, by rw [List.length_set]; exact V2⟩, Fr.snoc X' N g, st⟩
  rw [List.map_set, List.map_set, ← (own_cvc u)]
  exact Va
theorem own_car0 {Z : State} {h : Heap} {a : Addr} {k : ClassId} {n : Nat} (V : Arv Z h a k .char (Int32.ofNat n) ((List.replicate n (0 : Int32)).map Value.int) (.int (0 : Int32))) : Car Z h a k n (List.replicate n 0) := ⟨by rw [List.map_replicate]; exact V, List.length_replicate⟩
theorem own_ceq {Z : State} {h : Heap} {a : Addr} {k : ClassId} {L : Nat} {us vs : List UInt16} (V : Car Z h a k L us) (e : us = vs) : Car Z h a k vs.length vs := by
  subst e; obtain ⟨q, rfl⟩ := V; exact ⟨q, rfl⟩
/-- an array of signs being filled: how the run at (T1, pc1) comes to pc with the signs us -/
def Fil (p : Program) (l : Launch) (e : Env) (R : Room) (s : State) (m : MethodId) (args : Array Value) (w_ : List Frame) (meth : Method) (c : Code) (cells slots : Nat) (Z : State) (n0 : Nat) (b : ByteArray) (a : Addr) (k : ClassId) (L : Nat) (Ls : Array Slot) (rest : List Value) (T1 : State) (pc1 : Nat) (h1 : Heap) (pc : Nat) (us : List UInt16) : Prop :=
  (p.tables.exec = Jvm.exec ∧ Z.Warmed39 s.vm ∧ n0 ≤ a ∧ c.code = b ∧ L < 100) ∧ ∃ (T : State) (h : Heap) (L' : List Loc), Stand p l e R s m args w_ meth c T L' cells slots ∧ T.heap = h ∧ Keep h1 h [a] ∧ Car Z h a k L us ∧ Fr n0 L' ∧ ∀ target, Go p e w_ T m pc Ls (.ref a :: rest) target → Go p e w_ T1 m pc1 Ls (.ref a :: rest) target
section OwnFill
variable {p : Program} {l : Launch} {e : Env} {R : Room} {s : State} {m : MethodId} {args : Array Value} {w_ : List Frame} {meth : Method} {c : Code} {T1 : State} {locs : List Loc} {cells slots : Nat} {Z : State} {h1 : Heap} {n0 : Nat} {b : ByteArray} {a : Addr} {k : ClassId} {L : Nat} {Ls : Array Slot} {rest : List Value} {pc1 pc : Nat} {us : List UInt16}
theorem own_f0 (X : Stand p l e R s m args w_ meth c T1 locs cells slots) (hx : p.tables.exec = Jvm.exec) (hZ : Z.Warmed39 s.vm) (eT : T1.heap = h1) (V : Car Z h1 a k L us) (N : Fr n0 locs) (g : n0 ≤ a) (hby : c.code = b) (Ls : Array Slot) (rest : List Value) (pc1 : Nat) (hL : L < 100 := by decide) : Fil p l e R s m args w_ meth c cells slots Z n0 b a k L Ls rest T1 pc1 h1 pc1 us := ⟨⟨hx, hZ, g, hby, hL⟩, T1, h1, locs, X, eT, Keep.refl _ _, V, N, fun _ k => k⟩
theorem Fil.put (F : Fil p l e R s m args w_ meth c cells slots Z n0 b a k L Ls rest T1 pc1 h1 pc us) (i : Nat) (u : UInt16) {pc' : Nat} (hd : decode b pc = .ok (.dup, 1)) (hp : ∀ T, At T m c w_ → ∀ S target, Go p e w_ T m pc' Ls (.int (cv u) :: .int (Int32.ofNat i) :: S) target → Go p e w_ T m (pc + 1) Ls S target) (hc : decode b pc' = .ok (.castore, 1)) (hi : i < L) : Fil p l e R s m args w_ meth c cells slots Z n0 b a k L Ls rest T1 pc1 h1 (pc' + 1) (us.set i u) := by
  obtain ⟨⟨hx, hZ, g, hby, hL⟩, T, h, L', X, eT, K, V, N, st⟩ := F
  obtain ⟨T', h', L2, X', e', K', V', N', st'⟩ := own_cst X hx hZ eT V N g (hb hby hc) (Ls := Ls) (rest := .ref a :: rest) i u rfl (by omega) hi
  refine ⟨⟨hx, hZ, g, hby, hL⟩, T', h', L2, X', e', K.trans K' (allS (Or.inl (List.mem_of_getElem? (i := 0) rfl)) all0), V', N', fun t k => st t ?_⟩
  refine XS.dup X.here hx rfl (hb hby hd) rfl rfl ?_
  exact hp T X.here _ _ (st' t k)
def ixl (i : Nat) : Nat := if i ≤ 5 then 1 else 2
def ixd (b : ByteArray) (pc i : Nat) : Bool := if i ≤ 5 then decide (decode b pc = .ok (.iconst i, 1)) else decide (decode b pc = .ok (.bipush i, 2))
theorem own_ix (hx : p.tables.exec = Jvm.exec) (hby : c.code = b) {pc i : Nat} (hi : i < 100) (h : ixd b pc i = true) {T : State} (A : At T m c w_) {S : List Value} {target : State} (k : Go p e w_ T m (pc + ixl i) Ls (.int (Int32.ofNat i) :: S) target) : Go p e w_ T m pc Ls S target := by
  by_cases q : i ≤ 5
  · rw [ixd, if_pos q, decide_eq_true_eq] at h
    rw [ixl, if_pos q] at k
    exact XS.iconst A hx rfl (hb hby h) k
  · rw [ixd, if_neg q, decide_eq_true_eq] at h
    rw [ixl, if_neg q] at k
    refine XS.bipush A hx rfl (hb hby h) ?_
    rw [show (Int8.ofInt (i : Int)).toInt32 = Int32.ofNat i from ?_]
    · exact k
    · have key : ∀ j : Fin 100, (Int8.ofInt ((j.val : Nat) : Int)).toInt32 = Int32.ofNat j.val := by decide +kernel
      exact key ⟨i, hi⟩
def fdl (b : ByteArray) (pc i j : Nat) : Bool := decide (decode b pc = .ok (.dup, 1)) && (ixd b (pc + 1) i && ((if h : j < 4 then decide (decode b (pc + 1 + ixl i) = .ok (.iload_n ⟨j, h⟩, 1)) else decide (decode b (pc + 1 + ixl i) = .ok (.iload j, 2))) && decide (decode b (pc + 1 + ixl i + (if j < 4 then 1 else 2)) = .ok (.castore, 1))))
/-- a local's sign -/
theorem Fil.loc (F : Fil p l e R s m args w_ meth c cells slots Z n0 b a k L Ls rest T1 pc1 h1 pc us) (i j : Nat) {u : UInt16} (hl : Ls[j]? = some (.val (.int (cv u)))) (hd : fdl b pc i j = true := by decide +kernel) (hi : i < L := by decide) : Fil p l e R s m args w_ meth c cells slots Z n0 b a k L Ls rest T1 pc1 h1 (pc + 1 + ixl i + (if j < 4 then 1 else 2) + 1) (us.set i u) := by
  rw [fdl, Bool.and_eq_true, Bool.and_eq_true, Bool.and_eq_true, decide_eq_true_eq, decide_eq_true_eq] at hd
  obtain ⟨d1, d2, d3, d4⟩ := hd
  obtain ⟨hx, -, -, hby, hL⟩ := F.1
  refine F.put i u d1 (fun T A S t k => own_ix hx hby (by omega) d2 A ?_) d4 hi
  by_cases q : j < 4
  · rw [dif_pos q, decide_eq_true_eq] at d3
    rw [if_pos q] at k
    exact XS.iloadN A hx rfl (hb hby d3) hl k
  · rw [dif_neg q, decide_eq_true_eq] at d3
    rw [if_neg q] at k
    exact XS.iload A hx rfl (hb hby d3) hl k
def setC (us : List UInt16) (i : Nat) : List UInt16 → List UInt16
  | [] => us
  | c :: cs => setC (us.set i c) (i + 1) cs
def fdc (b : ByteArray) (pc2 : Nat) : Nat → Nat → List UInt16 → Bool
  | pc, _, [] => pc == pc2
  | pc, i, u :: us => decide (decode b pc = .ok (.dup, 1)) && (ixd b (pc + 1) i && (decide (decode b (pc + 1 + ixl i) = .ok (.bipush u.toNat, 2)) && (decide (u.toNat < 128) && (decide (decode b (pc + 1 + ixl i + 2) = .ok (.castore, 1)) && fdc b pc2 (pc + 1 + ixl i + 2 + 1) (i + 1) us))))
theorem own_bp8 {u : UInt16} (h : u.toNat < 128) : (Int8.ofInt (u.toNat : Int)).toInt32 = cv u := by
  have key : ∀ j : Fin 128, (Int8.ofInt ((j.val : Nat) : Int)).toInt32 = Int32.ofNat j.val := by decide +kernel
  rw [own_cvu]
  exact key ⟨u.toNat, h⟩
/-- a run of constants -/
theorem Fil.con (cs : List UInt16) : ∀ {pc : Nat} {us : List UInt16}, Fil p l e R s m args w_ meth c cells slots Z n0 b a k L Ls rest T1 pc1 h1 pc us → ∀ (i pc2 : Nat), fdc b pc2 pc i cs = true → i + cs.length ≤ L → Fil p l e R s m args w_ meth c cells slots Z n0 b a k L Ls rest T1 pc1 h1 pc2 (setC us i cs) := by
  induction cs with
  | nil =>
    intro pc us F i pc2 h _
    rw [fdc, beq_iff_eq] at h
    subst h
    exact F
  | cons u cs ih =>
    intro pc us F i pc2 h hL
    rw [fdc, Bool.and_eq_true, Bool.and_eq_true, Bool.and_eq_true, Bool.and_eq_true, Bool.and_eq_true, decide_eq_true_eq, decide_eq_true_eq, decide_eq_true_eq, decide_eq_true_eq] at h
    obtain ⟨d1, d2, d3, d4, d5, d6⟩ := h
    rw [List.length_cons] at hL
    obtain ⟨hx, -, -, hby, hl⟩ := F.1
    refine ih (F.put i u d1 (fun T A S t k => own_ix hx hby (by omega) d2 A ?_) d5 (by omega)) (i + 1) pc2 d6 (by omega)
    refine XS.bipush A hx rfl (hb hby d3) ?_
    rw [own_bp8 d4]
    exact k
end OwnFill
theorem d81 : Dl cb78 [(9, .iload_n 2, 1), (10, .aload_n 0, 1), (11, .arraylength, 1), (12, .if_icmp .ge 20, 3), (15, .aload_n 0, 1), (16, .iload_n 2, 1), (17, .baload, 1), (18, .aload_n 1, 1), (19, .iload_n 2, 1), (20, .baload, 1), (21, .if_icmp .eq 5, 3), (26, .iinc 2 1, 3), (29, .goto (-20), 3), (0, .aload_n 0, 1), (1, .arraylength, 1), (2, .aload_n 1, 1), (3, .arraylength, 1), (4, .if_icmp .ne 30, 3), (7, .iconst 0, 1), (8, .istore_n 2, 1), (32, .iconst 1, 1), (33, .ireturn, 1)] := dlk (by decide +kernel)
theorem pl_eq {p : Program} {l : Launch} {e : Env} {s : State} {m : MethodId} {args : Array Value} {w_ : List Frame} {meth : Method} {c : Code} {T0 : State} {locs : List Loc} {Z : State} {a0 : Array Value} {n0 : Nat} {h0 : Heap} (hw : Hw a0 Z) (X0 : Stand p l e R_0 s m args w_ meth c T0 locs 0 0) (hx : p.tables.exec = Jvm.exec) (hby : c.code = jdk_43_method_13_code) (hml : c.maxLocals = 3) (hZ : Z.Warmed39 s.vm) (hown : s.vm.findClass "java/lang/StringLatin1" = some m.cls) (e0 : T0.heap = h0) (N0 : Fr n0 locs) (O0 : Old Z n0 h0) (G1 : Int32) (Fm : Value) (a1 : Addr) (kA : ClassId) (a2 : Addr) (kD : ClassId) (LA : Nat) (vs : List Int32) (j : Nat) (ST : Stc Z G1 Fm) (B1 : Bar Z h0 a1 kA LA vs) (B2 : Bar Z h0 a2 kD LA vs) (hB : LA ≤ 110) (hj : j < LA) :
    ∃ (T' : State) (L' : List Loc), Stand p l e R_0 s m args w_ meth c T' L' 0 0 ∧ T'.heap = h0 ∧ Fr n0 L' ∧ ∀ target, Go p e w_ T' m 9 (q_133 a1 a2 j) [] target → Go p e w_ T0 m 9 (q_28 a1 a2 j) [] target := by
  have V_a1 := B1.1
  have l_a1 := B1.2
  have hN_a1 : (Int32.ofNat LA).toNatClampNeg = vs.length := by rw [l_a1]; exact own_n (by omega)
  have lt_a1 := V_a1.lt
  have V_a2 := B2.1
  have l_a2 := B2.2
  have hN_a2 : (Int32.ofNat LA).toNatClampNeg = vs.length := by rw [l_a2]; exact own_n (by omega)
  have lt_a2 := V_a2.lt
  obtain ⟨cl1, Ar1, q1, Sz1, Nn1, Ha1, Gf1⟩ := id V_a1
  obtain ⟨cl2, Ar2, hin2, hat2⟩ := own_at (j := (Int32.ofNat j)) (i := j) V_a1 hN_a1 (own_nn (n := j) (by omega)) (own_n (n := j) (by omega)) (by omega)
  obtain ⟨cl3, Ar3, hin3, hat3⟩ := own_at (j := (Int32.ofNat j)) (i := j) V_a2 hN_a2 (own_nn (n := j) (by omega)) (own_n (n := j) (by omega)) (by omega)
  have pf4 : ∀ target, Go p e w_ T0 m 21 (q_28 a1 a2 j) [(.int (vs.getD j 0)), (.int (vs.getD j 0))] target → Go p e w_ T0 m 9 (q_28 a1 a2 j) [] target := by
    intro target k
    refine zl X0 hx (d81 hby 0 rfl) rfl <| za X0 hx (d81 hby 1 rfl) rfl rfl ?_
    show Go p e w_ T0 m 11 (q_28 a1 a2 j) [(.ref a1), (vN j)] _
    refine X0.arraylength hx (by rw [e0]; exact Ar1.1) (State.isArrayOf_alike hZ.alike Ar1.2.1) (g := (mkF m 11 (q_28 a1 a2 j) [(.ref a1), (vN j)])) rfl rfl (d81 hby 2 rfl) _ ?_
    rw [len_of Sz1 Nn1]
    refine zn X0 hx (d81 hby 3 rfl) (tlt ((own_lt (a := j) (b := LA) (by omega) (by omega)).mpr (by omega))).2.1 <| za X0 hx (d81 hby 4 rfl) rfl rfl <| zl X0 hx (d81 hby 5 rfl) rfl ?_
    show Go p e w_ T0 m 17 (q_28 a1 a2 j) [(vN j), (.ref a1)] _
    refine X0.baloadBytes hx (j := (Int32.ofNat j)) (v := (.int (vs.getD j 0))) (by rw [e0]; exact Ar2.1) (State.isArrayOf_alike hZ.alike Ar2.2.1) Ar2.2.2 hin2 hat2 (g := (mkF m 17 (q_28 a1 a2 j) [(vN j), (.ref a1)])) rfl rfl (d81 hby 6 rfl) _ <| za X0 hx (d81 hby 7 rfl) rfl rfl <| zl X0 hx (d81 hby 8 rfl) rfl ?_
    show Go p e w_ T0 m 20 (q_28 a1 a2 j) [(vN j), (.ref a2), (.int (vs.getD j 0))] _
    refine X0.baloadBytes hx (j := (Int32.ofNat j)) (v := (.int (vs.getD j 0))) (by rw [e0]; exact Ar3.1) (State.isArrayOf_alike hZ.alike Ar3.2.1) Ar3.2.2 hin3 hat3 (g := (mkF m 20 (q_28 a1 a2 j) [(vN j), (.ref a2), (.int (vs.getD j 0))])) rfl rfl (d81 hby 9 rfl) _ ?_
    exact k
  refine ⟨T0, _, X0, e0, N0, ?_⟩
  intro target k
  refine pf4 _ <| zy X0 hx 21 26 (d81 hby 10 rfl) (teq rfl).1 <| XS.iinc X0.here hx rfl (d81 hby 11 rfl) rfl (l' := #[rv a1, rv a2, iv ((Int32.ofNat j) + (1 : Int32))]) rfl ?_
  show Go p e w_ T0 m 29 #[.val (.ref a1), .val (.ref a2), .val (.int ((Int32.ofNat j) + (1 : Int32)))] [] _
  rw [show ((Int32.ofNat j) + (1 : Int32)) = (Int32.ofNat (j + 1)) from own_add j 1]
  refine zo X0 hx 29 9 (d81 hby 12 rfl) ?_
  exact k
theorem ll_eq {p : Program} {l : Launch} {e : Env} {s : State} {m : MethodId} {args : Array Value} {w_ : List Frame} {meth : Method} {c : Code} {Z : State} {a0 : Array Value} {n0 : Nat} {h0 : Heap} (hw : Hw a0 Z) (hx : p.tables.exec = Jvm.exec) (hby : c.code = jdk_43_method_13_code) (hml : c.maxLocals = 3) (hZ : Z.Warmed39 s.vm) (hown : s.vm.findClass "java/lang/StringLatin1" = some m.cls) (O0 : Old Z n0 h0) (G1 : Int32) (Fm : Value) (ST : Stc Z G1 Fm) {a1 a2 : Addr} {kA kD : ClassId} {LA : Nat} {vs : List Int32} (B1 : Bar Z h0 a1 kA LA vs) (B2 : Bar Z h0 a2 kD LA vs) (hB : LA ≤ 110) :
    ∀ (f j : Nat) (T0 : State) (locs : List Loc) (X0 : Stand p l e R_0 s m args w_ meth c T0 locs 0 0) (e0 : T0.heap = h0) (N0 : Fr n0 locs) (hf : j + f = LA),
      ∃ (T' : State) (L' : List Loc), Stand p l e R_0 s m args w_ meth c T' L' 0 0 ∧ T'.heap = h0 ∧ Fr n0 L' ∧ ∀ target, Go p e w_ T' m 9 (q_28 a1 a2 LA) [] target → Go p e w_ T0 m 9 (q_28 a1 a2 j) [] target := by
  intro f
  induction f with
  | zero =>
    intro j T0 locs X0 e0 N0 hf
    have q : j = LA := by omega
    subst q
    exact ⟨T0, locs, X0, e0, N0, fun _ k => k⟩
  | succ f ih =>
    intro j T0 locs X0 e0 N0 hf
    obtain ⟨T1, L1, X1, e1, N1, st1⟩ := pl_eq hw X0 hx hby hml hZ hown e0 N0 O0 G1 Fm a1 kA a2 kD LA vs j ST B1 B2 hB (by omega)
    obtain ⟨T2, L2, X2, e2, N2, st2⟩ := ih (j + 1) T1 L1 X1 e1 N1 (by omega)
    exact ⟨T2, L2, X2, e2, N2, fun target k => st1 target (st2 target k)⟩
theorem rl_eq (a1 : Addr) (kA : ClassId) (a2 : Addr) (kD : ClassId) (LA : Nat) (vs : List Int32) (B1 : Bar Z h0 a1 kA LA vs) (B2 : Bar Z h0 a2 kD LA vs) (hB : LA ≤ 110) :
    Mt (l := l) hw (ws := ws) O0 ST Y_64 jdk_43_method_13_code 3 (some .boolean) R_0 #[(.ref a1), (.ref a2)] (Qpure (some (vL 1)) h0 n0) := by
  refine own_met (plainFor_of_name pn3) fun p e s m w_ meth c s₁ hx hby hml hZ hh hown hnm hret hlk X0 e0 => ?_
  have N0 := Fr.nil n0
  have V_a1 := B1.1
  have l_a1 := B1.2
  have hN_a1 : (Int32.ofNat LA).toNatClampNeg = vs.length := by rw [l_a1]; exact own_n (by omega)
  have lt_a1 := V_a1.lt
  have V_a2 := B2.1
  have l_a2 := B2.2
  have hN_a2 : (Int32.ofNat LA).toNatClampNeg = vs.length := by rw [l_a2]; exact own_n (by omega)
  have lt_a2 := V_a2.lt
  obtain ⟨cl1, Ar1, q1, Sz1, Nn1, Ha1, Gf1⟩ := id V_a1
  obtain ⟨cl2, Ar2, q2, Sz2, Nn2, Ha2, Gf2⟩ := id V_a2
  have pf3 : ∀ target, Go p e w_ s₁ m 4 (q_6 a1 a2) [(vN LA), (vN LA)] target → Go p e w_ s₁ m 0 (q_6 a1 a2) [] target := by
    intro target k
    refine za X0 hx (d81 hby 13 rfl) rfl rfl ?_
    show Go p e w_ s₁ m 1 (q_6 a1 a2) [(.ref a1)] _
    refine X0.arraylength hx (by rw [e0]; exact Ar1.1) (State.isArrayOf_alike hZ.alike Ar1.2.1) (g := (mkF m 1 (q_6 a1 a2) [(.ref a1)])) rfl rfl (d81 hby 14 rfl) _ ?_
    rw [len_of Sz1 Nn1]
    refine za X0 hx (d81 hby 15 rfl) rfl rfl ?_
    show Go p e w_ s₁ m 3 (q_6 a1 a2) [(.ref a2), (vN LA)] _
    refine X0.arraylength hx (by rw [e0]; exact Ar2.1) (State.isArrayOf_alike hZ.alike Ar2.2.1) (g := (mkF m 3 (q_6 a1 a2) [(.ref a2), (vN LA)])) rfl rfl (d81 hby 16 rfl) _ ?_
    rw [len_of Sz2 Nn2]
    exact k
  obtain ⟨T4, L4, X4, e4, N4, st4⟩ := ll_eq hw hx hby hml hZ hown O0 G1 Fm ST B1 B2 hB LA 0 s₁ _ X0 e0 N0 (by omega)
  obtain ⟨cl5, Ar5, q5, Sz5, Nn5, Ha5, Gf5⟩ := id V_a1
  have pf6 : ∀ target, Go p e w_ T4 m 12 (q_28 a1 a2 LA) [(vN LA), (vN LA)] target → Go p e w_ s₁ m 4 (q_6 a1 a2) [(vN LA), (vN LA)] target := by
    intro target k
    refine zn X0 hx (d81 hby 17 rfl) (teq rfl).2 <| zc X0 hx (d81 hby 18 rfl) <| zs X0 hx (d81 hby 19 rfl) (Ls' := (q_59 a1 a2)) rfl <| st4 _ <| zl X4 hx (d81 hby 0 rfl) rfl <| za X4 hx (d81 hby 1 rfl) rfl rfl ?_
    show Go p e w_ T4 m 11 (q_28 a1 a2 LA) [(.ref a1), (vN LA)] _
    refine X4.arraylength hx (by rw [e4]; exact Ar5.1) (State.isArrayOf_alike hZ.alike Ar5.2.1) (g := (mkF m 11 (q_28 a1 a2 LA) [(.ref a1), (vN LA)])) rfl rfl (d81 hby 2 rfl) _ ?_
    rw [len_of Sz5 Nn5]
    exact k
  refine own_lvN X4 hx hlk hret (by simp) (d81 hby 21 rfl) (by decide) (by decide) (z := (1 : Int32)) rfl (Ls := (q_28 a1 a2 LA)) (rest := []) (fun _ k => castTop (ef_rb_aa00 m a1 a2) ?_) ?_
  · refine pf3 _ <| pf6 _ <| zy X4 hx 12 32 (d81 hby 3 rfl) (flt (fun q => absurd ((own_lt (a := LA) (b := LA) (by omega) (by omega)).mp q) (by omega))).2.1 <| zc X4 hx (d81 hby 20 rfl) ?_
    exact k
  · rw [e4]
    exact ⟨rfl, N4, rfl⟩
theorem d14 : Dl cb79 [(0, .aload_n 0, 1), (1, .aload_n 1, 1), (2, .if_acmp .ne 5, 3), (5, .iconst 1, 1), (6, .ireturn, 1), (7, .aload_n 1, 1), (8, .instanceof 10, 3), (11, .ifCond .eq 43, 3), (14, .aload_n 1, 1), (15, .checkcast 10, 3), (18, .astore_n 2, 1), (19, .getstatic 38, 3), (22, .ifCond .eq 14, 3), (25, .aload_n 0, 1), (26, .getfield 15, 3), (29, .aload_n 2, 1), (30, .getfield 15, 3), (33, .if_icmp .ne 21, 3), (36, .aload_n 0, 1), (37, .getfield 9, 3), (40, .aload_n 2, 1), (41, .getfield 9, 3), (44, .invokestatic 541, 3), (47, .ifCond .eq 7, 3), (50, .iconst 1, 1), (51, .goto 4, 3), (55, .ireturn, 1)] := dlk (by decide +kernel)
theorem rs_eqS (a1 : Addr) :
    Mt (l := l) hw (ws := ws) O0 ST Y_11 jdk_42_method_66_code 3 (some .boolean) R_7 #[(.ref a1), (.ref a1)] (Qpure (some (vL 1)) h0 n0) := by
  refine own_met (plainFor_of_name pn2) fun p e s m w_ meth c s₁ hx hby hml hZ hh hown hnm hret hlk X0 e0 => ?_
  have N0 := Fr.nil n0
  refine own_lvN X0 hx hlk hret (by simp) (d14 hby 4 rfl) (by decide) (by decide) (z := (1 : Int32)) rfl (Ls := (q_114 a1)) (rest := []) (fun _ k => castTop (ef_rb_aa00 m a1 a1) ?_) ?_
  · refine za X0 hx (d14 hby 0 rfl) rfl rfl <| za X0 hx (d14 hby 1 rfl) rfl rfl ?_
    show Go p e w_ s₁ m 2 (q_114 a1) [(.ref a1), (.ref a1)] _
    refine Jvm.RoadKit.acmp (g := (mkF m 2 (q_114 a1) [(.ref a1), (.ref a1)])) X0 hx rfl rfl rfl (pc0 := 2) (pc' := 5) (same := true) rfl (d14 hby 2 rfl) rfl (decide_eq_true rfl) (by decide) (by decide) <| zc X0 hx (d14 hby 3 rfl) ?_
    exact k
  · rw [e0]
    exact ⟨rfl, N0, rfl⟩
theorem pd44 : parseMethodDescriptor "([B[B)Z" = some ⟨[(.array .byte), (.array .byte)], some .boolean⟩ := by decide +kernel
theorem rs_eq0 (a1 bA : Addr) (kA : ClassId) (a2 bB : Addr) (kB : ClassId) (cs : List UInt16) (HS : Str0 Z h0 a1 bA kA cs) (HT : Str0 Z h0 a2 bB kB cs) (hc : cs.length ≤ 24) (hne : a1 ≠ a2) :
    Mt (l := l) hw (ws := ws) O0 ST Y_11 jdk_42_method_66_code 3 (some .boolean) R_7 #[(.ref a1), (.ref a2)] (Qpure (some (vL 1)) h0 n0) := by
  refine own_met (plainFor_of_name pn2) fun p e s m w_ meth c s₁ hx hby hml hZ hh hown hnm hret hlk X0 e0 => ?_
  have N0 := Fr.nil n0
  obtain ⟨S_cs, hG, S_fm, hF, S_ad, S_hi, S_lo⟩ := id ST
  obtain ⟨E_a1, Fc_a1, Fv_a1, B_bA, hu_a1⟩ := id HS
  have lt_a1 := E_a1.lt
  have V_bA := B_bA.1
  have l_bA := B_bA.2
  have hN_bA : (Int32.ofNat cs.length).toNatClampNeg = (cs.map cLo).length := by rw [l_bA]; exact own_n (by omega)
  have lt_bA := V_bA.lt
  obtain ⟨E_a2, Fc_a2, Fv_a2, B_bB, hu_a2⟩ := id HT
  have lt_a2 := E_a2.lt
  have V_bB := B_bB.1
  have l_bB := B_bB.2
  have hN_bB : (Int32.ofNat cs.length).toNatClampNeg = (cs.map cLo).length := by rw [l_bB]; exact own_n (by omega)
  have lt_bB := V_bB.lt
  by_cases hc2 : a1 = a2
  · refine own_lvN X0 hx hlk hret (by simp) (d14 hby 4 rfl) (by decide) (by decide) (z := (1 : Int32)) rfl (Ls := (q_6 a1 a2)) (rest := []) (fun _ k => castTop (ef_rb_aa00 m a1 a2) ?_) ?_
    · refine za X0 hx (d14 hby 0 rfl) rfl rfl <| za X0 hx (d14 hby 1 rfl) rfl rfl ?_
      show Go p e w_ s₁ m 2 (q_6 a1 a2) [(.ref a2), (.ref a1)] _
      refine Jvm.RoadKit.acmp (g := (mkF m 2 (q_6 a1 a2) [(.ref a2), (.ref a1)])) X0 hx rfl rfl rfl (pc0 := 2) (pc' := 5) (same := true) rfl (d14 hby 2 rfl) rfl (decide_eq_true (congrArg Value.ref hc2)) (by decide) (by decide) <| zc X0 hx (d14 hby 3 rfl) ?_
      exact k
    · rw [e0]
      exact ⟨rfl, N0, rfl⟩
  · obtain ⟨T1, X1, e1, st1⟩ := instY X0 hx hZ hown (tw hw 373 rfl) e0 (Ins.self E_a2) (g := (mkF m 8 (q_6 a1 a2) [(.ref a2)])) rfl rfl (d14 hby 6 rfl)
    have pf2 : ∀ target, Go p e w_ T1 m 11 (q_6 a1 a2) [(vL 1)] target → Go p e w_ s₁ m 0 (q_6 a1 a2) [] target := by
      intro target k
      refine za X0 hx (d14 hby 0 rfl) rfl rfl <| za X0 hx (d14 hby 1 rfl) rfl rfl ?_
      show Go p e w_ s₁ m 2 (q_6 a1 a2) [(.ref a2), (.ref a1)] _
      refine Jvm.RoadKit.acmp (g := (mkF m 2 (q_6 a1 a2) [(.ref a2), (.ref a1)])) X0 hx rfl rfl rfl (pc0 := 2) (pc' := 7) (same := false) rfl (d14 hby 2 rfl) rfl (decide_eq_false fun q => hc2 (Value.ref.inj q)) (by decide) (by decide) <| za X0 hx (d14 hby 5 rfl) rfl rfl <| st1 _ ?_
      exact k
    obtain ⟨T3, X3, e3, st3⟩ := castY X1 hx hZ hown (tw hw 373 rfl) e1 (Ins.self E_a2) (g := (mkF m 15 (q_6 a1 a2) [(.ref a2)])) rfl rfl (d14 hby 9 rfl)
    obtain ⟨T4, X4, e4, st4⟩ := getS2 X3 hx hZ hown (host := "") (Or.inl (tw hw 51 rfl)) Via.refl e3 (S_cs.ext O0.2) (g := (mkF m 19 (q_7 a1 a2) [])) rfl (d14 hby 11 rfl)
    have pf5 : ∀ target, Go p e w_ T4 m 22 (q_7 a1 a2) [(.int G1)] target → Go p e w_ T1 m 11 (q_6 a1 a2) [(vL 1)] target := by
      intro target k
      refine zg X1 hx (d14 hby 7 rfl) ((if0 _ _).trans (feq (by decide)).1) <| za X1 hx (d14 hby 8 rfl) rfl rfl <| st3 _ <| XS.astoreN X3.here hx rfl (d14 hby 10 rfl) rfl rfl (l' := (q_7 a1 a2)) rfl <| st4 _ ?_
      exact k
    obtain ⟨T6, X6, e6, st6⟩ := getF X4 hx hZ hown (host := "") (Or.inl (tw hw 32 rfl)) Via.refl e4 Fc_a1 (g := (mkF m 26 (q_7 a1 a2) [(.ref a1)])) rfl rfl (d14 hby 14 rfl)
    obtain ⟨T7, X7, e7, st7⟩ := getF X6 hx hZ hown (host := "") (Or.inl (tw hw 32 rfl)) Via.refl e6 Fc_a2 (g := (mkF m 30 (q_7 a1 a2) [(.ref a2), (vL 0)])) rfl rfl (d14 hby 16 rfl)
    have pf8 : ∀ target, Go p e w_ T7 m 33 (q_7 a1 a2) [(vL 0), (vL 0)] target → Go p e w_ T4 m 22 (q_7 a1 a2) [(.int G1)] target := by
      intro target k
      refine zg X4 hx (d14 hby 12 rfl) ((if0 _ _).trans (feq hG).1) <| za X4 hx (d14 hby 13 rfl) rfl rfl <| st6 _ <| za X6 hx (d14 hby 15 rfl) rfl rfl <| st7 _ ?_
      exact k
    obtain ⟨T9, X9, e9, st9⟩ := getF X7 hx hZ hown (host := "") (Or.inl (tw hw 31 rfl)) Via.refl e7 Fv_a1 (g := (mkF m 37 (q_7 a1 a2) [(.ref a1)])) rfl rfl (d14 hby 19 rfl)
    obtain ⟨T10, X10, e10, st10⟩ := getF X9 hx hZ hown (host := "") (Or.inl (tw hw 31 rfl)) Via.refl e9 Fv_a2 (g := (mkF m 41 (q_7 a1 a2) [(.ref a2), (.ref bA)])) rfl rfl (d14 hby 21 rfl)
    obtain ⟨_, T11, Lc11, X11, hQ11, st11⟩ := own_sc X10 hx hZ (y := Y_64) hown hml (tw hw 374 rfl) (tw hw 375 rfl) (rl_eq hw O0 ST bA kA bB kB cs.length (cs.map cLo) B_bA B_bB (by omega)) (tw hw 376 rfl) (tw hw 291 rfl) e10 (W := 0) (Ls := (q_7 a1 a2)) (argsL := [(.ref bA), (.ref bB)]) (rest := []) (lenOf pd44 rfl) (d14 hby 22 rfl)
    obtain ⟨rfl, Nq11, e11⟩ := hQ11
    have N11 := Fr.app N0 Nq11
    have pf12 : ∀ target, Go p e w_ T11 m 47 (q_7 a1 a2) [(vL 1)] target → Go p e w_ T7 m 33 (q_7 a1 a2) [(vL 0), (vL 0)] target := by
      intro target k
      refine zn X7 hx (d14 hby 17 rfl) (teq (by decide)).2 <| za X7 hx (d14 hby 18 rfl) rfl rfl <| st9 _ <| za X9 hx (d14 hby 20 rfl) rfl rfl <| st10 _ <| st11 _ ?_
      exact k
    refine own_lvN X11 hx hlk hret (by simp) (d14 hby 26 rfl) (by decide) (by decide) (z := (1 : Int32)) rfl (Ls := (q_7 a1 a2)) (rest := []) (fun _ k => castTop (ef_rb_aa00 m a1 a2) ?_) ?_
    · refine pf2 _ <| pf5 _ <| pf8 _ <| pf12 _ <| zg X11 hx (d14 hby 23 rfl) ((if0 _ _).trans (feq (by decide)).1) <| zc X11 hx (d14 hby 24 rfl) <| zo X11 hx 51 55 (d14 hby 25 rfl) ?_
      exact k
    · rw [e11]
      exact ⟨rfl, N11, rfl⟩
theorem rs_eq1 (a1 bA : Addr) (kA : ClassId) (a2 bB : Addr) (kB : ClassId) (cs : List UInt16) (HS : Str1 Z h0 a1 bA kA cs) (HT : Str1 Z h0 a2 bB kB cs) (hc : cs.length ≤ 24) (hne : a1 ≠ a2) :
    Mt (l := l) hw (ws := ws) O0 ST Y_11 jdk_42_method_66_code 3 (some .boolean) R_7 #[(.ref a1), (.ref a2)] (Qpure (some (vL 1)) h0 n0) := by
  refine own_met (plainFor_of_name pn2) fun p e s m w_ meth c s₁ hx hby hml hZ hh hown hnm hret hlk X0 e0 => ?_
  have N0 := Fr.nil n0
  obtain ⟨S_cs, hG, S_fm, hF, S_ad, S_hi, S_lo⟩ := id ST
  obtain ⟨E_a1, Fc_a1, Fv_a1, B_bA⟩ := id HS
  have lt_a1 := E_a1.lt
  have V_bA := B_bA.1
  have l_bA := B_bA.2
  have hN_bA : (Int32.ofNat (2 * cs.length)).toNatClampNeg = (enc1 cs).length := by rw [l_bA]; exact own_n (by omega)
  have lt_bA := V_bA.lt
  obtain ⟨E_a2, Fc_a2, Fv_a2, B_bB⟩ := id HT
  have lt_a2 := E_a2.lt
  have V_bB := B_bB.1
  have l_bB := B_bB.2
  have hN_bB : (Int32.ofNat (2 * cs.length)).toNatClampNeg = (enc1 cs).length := by rw [l_bB]; exact own_n (by omega)
  have lt_bB := V_bB.lt
  by_cases hc2 : a1 = a2
  · refine own_lvN X0 hx hlk hret (by simp) (d14 hby 4 rfl) (by decide) (by decide) (z := (1 : Int32)) rfl (Ls := (q_6 a1 a2)) (rest := []) (fun _ k => castTop (ef_rb_aa00 m a1 a2) ?_) ?_
    · refine za X0 hx (d14 hby 0 rfl) rfl rfl <| za X0 hx (d14 hby 1 rfl) rfl rfl ?_
      show Go p e w_ s₁ m 2 (q_6 a1 a2) [(.ref a2), (.ref a1)] _
      refine Jvm.RoadKit.acmp (g := (mkF m 2 (q_6 a1 a2) [(.ref a2), (.ref a1)])) X0 hx rfl rfl rfl (pc0 := 2) (pc' := 5) (same := true) rfl (d14 hby 2 rfl) rfl (decide_eq_true (congrArg Value.ref hc2)) (by decide) (by decide) <| zc X0 hx (d14 hby 3 rfl) ?_
      exact k
    · rw [e0]
      exact ⟨rfl, N0, rfl⟩
  · obtain ⟨T1, X1, e1, st1⟩ := instY X0 hx hZ hown (tw hw 373 rfl) e0 (Ins.self E_a2) (g := (mkF m 8 (q_6 a1 a2) [(.ref a2)])) rfl rfl (d14 hby 6 rfl)
    have pf2 : ∀ target, Go p e w_ T1 m 11 (q_6 a1 a2) [(vL 1)] target → Go p e w_ s₁ m 0 (q_6 a1 a2) [] target := by
      intro target k
      refine za X0 hx (d14 hby 0 rfl) rfl rfl <| za X0 hx (d14 hby 1 rfl) rfl rfl ?_
      show Go p e w_ s₁ m 2 (q_6 a1 a2) [(.ref a2), (.ref a1)] _
      refine Jvm.RoadKit.acmp (g := (mkF m 2 (q_6 a1 a2) [(.ref a2), (.ref a1)])) X0 hx rfl rfl rfl (pc0 := 2) (pc' := 7) (same := false) rfl (d14 hby 2 rfl) rfl (decide_eq_false fun q => hc2 (Value.ref.inj q)) (by decide) (by decide) <| za X0 hx (d14 hby 5 rfl) rfl rfl <| st1 _ ?_
      exact k
    obtain ⟨T3, X3, e3, st3⟩ := castY X1 hx hZ hown (tw hw 373 rfl) e1 (Ins.self E_a2) (g := (mkF m 15 (q_6 a1 a2) [(.ref a2)])) rfl rfl (d14 hby 9 rfl)
    obtain ⟨T4, X4, e4, st4⟩ := getS2 X3 hx hZ hown (host := "") (Or.inl (tw hw 51 rfl)) Via.refl e3 (S_cs.ext O0.2) (g := (mkF m 19 (q_7 a1 a2) [])) rfl (d14 hby 11 rfl)
    have pf5 : ∀ target, Go p e w_ T4 m 22 (q_7 a1 a2) [(.int G1)] target → Go p e w_ T1 m 11 (q_6 a1 a2) [(vL 1)] target := by
      intro target k
      refine zg X1 hx (d14 hby 7 rfl) ((if0 _ _).trans (feq (by decide)).1) <| za X1 hx (d14 hby 8 rfl) rfl rfl <| st3 _ <| XS.astoreN X3.here hx rfl (d14 hby 10 rfl) rfl rfl (l' := (q_7 a1 a2)) rfl <| st4 _ ?_
      exact k
    obtain ⟨T6, X6, e6, st6⟩ := getF X4 hx hZ hown (host := "") (Or.inl (tw hw 32 rfl)) Via.refl e4 Fc_a1 (g := (mkF m 26 (q_7 a1 a2) [(.ref a1)])) rfl rfl (d14 hby 14 rfl)
    obtain ⟨T7, X7, e7, st7⟩ := getF X6 hx hZ hown (host := "") (Or.inl (tw hw 32 rfl)) Via.refl e6 Fc_a2 (g := (mkF m 30 (q_7 a1 a2) [(.ref a2), (vL 1)])) rfl rfl (d14 hby 16 rfl)
    have pf8 : ∀ target, Go p e w_ T7 m 33 (q_7 a1 a2) [(vL 1), (vL 1)] target → Go p e w_ T4 m 22 (q_7 a1 a2) [(.int G1)] target := by
      intro target k
      refine zg X4 hx (d14 hby 12 rfl) ((if0 _ _).trans (feq hG).1) <| za X4 hx (d14 hby 13 rfl) rfl rfl <| st6 _ <| za X6 hx (d14 hby 15 rfl) rfl rfl <| st7 _ ?_
      exact k
    obtain ⟨T9, X9, e9, st9⟩ := getF X7 hx hZ hown (host := "") (Or.inl (tw hw 31 rfl)) Via.refl e7 Fv_a1 (g := (mkF m 37 (q_7 a1 a2) [(.ref a1)])) rfl rfl (d14 hby 19 rfl)
    obtain ⟨T10, X10, e10, st10⟩ := getF X9 hx hZ hown (host := "") (Or.inl (tw hw 31 rfl)) Via.refl e9 Fv_a2 (g := (mkF m 41 (q_7 a1 a2) [(.ref a2), (.ref bA)])) rfl rfl (d14 hby 21 rfl)
    obtain ⟨_, T11, Lc11, X11, hQ11, st11⟩ := own_sc X10 hx hZ (y := Y_64) hown hml (tw hw 374 rfl) (tw hw 375 rfl) (rl_eq hw O0 ST bA kA bB kB (2 * cs.length) (enc1 cs) B_bA B_bB (by omega)) (tw hw 376 rfl) (tw hw 291 rfl) e10 (W := 0) (Ls := (q_7 a1 a2)) (argsL := [(.ref bA), (.ref bB)]) (rest := []) (lenOf pd44 rfl) (d14 hby 22 rfl)
    obtain ⟨rfl, Nq11, e11⟩ := hQ11
    have N11 := Fr.app N0 Nq11
    have pf12 : ∀ target, Go p e w_ T11 m 47 (q_7 a1 a2) [(vL 1)] target → Go p e w_ T7 m 33 (q_7 a1 a2) [(vL 1), (vL 1)] target := by
      intro target k
      refine zn X7 hx (d14 hby 17 rfl) (teq (by decide)).2 <| za X7 hx (d14 hby 18 rfl) rfl rfl <| st9 _ <| za X9 hx (d14 hby 20 rfl) rfl rfl <| st10 _ <| st11 _ ?_
      exact k
    refine own_lvN X11 hx hlk hret (by simp) (d14 hby 26 rfl) (by decide) (by decide) (z := (1 : Int32)) rfl (Ls := (q_7 a1 a2)) (rest := []) (fun _ k => castTop (ef_rb_aa00 m a1 a2) ?_) ?_
    · refine pf2 _ <| pf5 _ <| pf8 _ <| pf12 _ <| zg X11 hx (d14 hby 23 rfl) ((if0 _ _).trans (feq (by decide)).1) <| zc X11 hx (d14 hby 24 rfl) <| zo X11 hx 51 55 (d14 hby 25 rfl) ?_
      exact k
    · rw [e11]
      exact ⟨rfl, N11, rfl⟩
theorem own_wk {l : Launch} {Z : State} {h0 : Heap} {ws : List Jvm.Cond} {y : MethodName} {b : ByteArray} {n : Nat} {r : Option FieldType} {rm : Room} {A : Array Value} {Q Q' : Option Value → Heap → List Loc → Prop} (h : Met l Z h0 ws y b n r rm A Q) (k : ∀ v h L, Q v h L → Q' v h L) : Met l Z h0 ws y b n r rm A Q' := fun p e a b c s m args w_ h1 h2 h3 h4 => by
  obtain ⟨n, o, r1, r2, r3, v, L, e, q, f⟩ := h p e a b c s m args w_ h1 h2 h3 h4
  exact ⟨n, o, r1, r2, r3, v, L, e, k _ _ _ q, f⟩
theorem own_hif {u : UInt16} (h : u < 256) : hiS u = false := by
  have q : u.toNat < 256 := UInt16.lt_iff_toNat_lt.mp h
  exact decide_eq_false (by omega)
theorem own_prn {cs : List UInt16} (h : ∀ u ∈ cs, u < 256) {n j : Nat} (hj : j < cs.length) : prd cs n j = 0 := by
  rw [prd, if_neg]
  rintro ⟨-, b, -⟩
  rw [own_hif (own_up h hj)] at b; cases b
theorem own_cpn {cs : List UInt16} (h : ∀ u ∈ cs, u < 256) : ∀ f j c, cpC cs f j c = c
  | 0, _, _ => rfl
  | f + 1, j, c => by
    by_cases q : j + 1 < cs.length
    · rw [cpC_go q, own_prn h (by omega)]; exact own_cpn h f _ _
    · exact cpC_end q
theorem own_ne1 {cs : List UInt16} (h : ¬ ∀ u ∈ cs, u < 256) : 1 ≤ cs.length := by
  cases cs with
  | nil => exact absurd (fun _ q => nomatch q) h
  | cons => simp
theorem own_nap {cs ds : List UInt16} (h : ¬ ∀ u ∈ cs, u < 256) : ¬ ∀ u ∈ cs ++ ds, u < 256 := fun q => h fun u hu => q u (List.mem_append_left _ hu)
def Sbj (Z : State) (h : Heap) (a b : Addr) (k : ClassId) (LB M : Nat) (cs : List UInt16) : Prop := (Sb0 Z h a b k LB cs.length cs ∧ (LB = M ∨ 2 * M + 2 ≤ LB)) ∨ (Sb1 Z h a b k LB cs.length cs ∧ (¬ ∀ u ∈ cs, u < 256) ∧ (LB = 2 * M ∨ 4 * M + 2 ≤ LB))
theorem own_sbl0 {Z : State} {h : Heap} {a b : Addr} {k : ClassId} {LB n : Nat} {cs : List UInt16} (H : Sb0 Z h a b k LB n cs) : cs.length ≤ LB := by
  obtain ⟨-, -, -, -, -, -, -, -, tl, -, q⟩ := H
  rw [← q, List.length_append, List.length_map]; omega
theorem own_sbl1 {Z : State} {h : Heap} {a b : Addr} {k : ClassId} {LB n : Nat} {cs : List UInt16} (H : Sb1 Z h a b k LB n cs) : 2 * cs.length ≤ LB := by
  obtain ⟨-, -, -, -, -, -, -, tl, -, q⟩ := H
  rw [← q, List.length_append, enc1_len]; omega
theorem rs_i (a1 a2 : Addr) (kA : ClassId) (cs : List UInt16) (E_a : Exa Z h0 a1 "java/lang/String") (F_v : Fld Z h0 a1 "java/lang/String" "value" "[B" .null) (F_c : Fld Z h0 a1 "java/lang/String" "coder" "B" (vL 0)) (g_a1 : n0 ≤ a1) (C2 : Car Z h0 a2 kA cs.length cs) (hne : a1 ≠ a2) (hc : cs.length ≤ 24) (h1 : 1 ≤ cs.length) :
    Mt (l := l) hw (ws := ws) O0 ST Y_4 jdk_42_method_3_code 2 none R_24 #[(.ref a1), (.ref a2)] (Qst Z a1 cs h0 n0) := by
  by_cases hu : ∀ u ∈ cs, u < 256
  · exact rs_iA hw O0 ST a1 a2 kA cs E_a F_v F_c g_a1 C2 hne hc h1 hu
  · obtain ⟨nF, hN, hu1, hu2⟩ := own_first cs hu
    exact rs_iB hw O0 ST a1 a2 kA cs nF E_a F_v F_c g_a1 C2 hne hc h1 hN hu1 hu2
theorem rs_cp (a1 bA : Addr) (kA : ClassId) (cs : List UInt16) (HS : Strx Z h0 a1 bA kA cs) (hc : cs.length ≤ 24) :
    Mt (l := l) hw (ws := ws) O0 ST Y_15 jdk_42_method_59_code 3 (some .int) R_26 #[(.ref a1), (vL 0), (vN cs.length)] (Qpure (some (vN (cpC cs cs.length 0 cs.length))) h0 n0) := by
  rcases HS with HS | HS
  · rw [own_cpn HS.2.2.2.2]; exact rs_cp0 hw O0 ST a1 bA kA cs HS hc
  · exact rs_cp1 hw O0 ST a1 bA kA cs HS.1 hc (own_ne1 HS.2)
theorem rs_sb (a1 bA : Addr) (kA : ClassId) (cs : List UInt16) (nx : Nat) (HS : Strx Z h0 a1 bA kA cs) (hc : cs.length ≤ 24) (h1 : 1 ≤ nx) (hnx : nx < cs.length) :
    Mt (l := l) hw (ws := ws) O0 ST Y_5 jdk_42_method_92_code 5 (some (.object "java/lang/String")) R_14 #[(.ref a1), (vL 0), (vN nx)] (Qs Z (cs.take nx) h0 n0) := by
  rcases HS with HS | ⟨HS, -⟩
  · exact rs_sb0 hw O0 ST a1 bA kA cs nx HS hc h1 hnx
  · by_cases hu : ∀ u ∈ cs.take nx, u < 256
    · refine rs_sbA hw O0 ST a1 bA kA cs nx HS hc h1 hnx fun j hj => ?_
      rw [own_cvlt, Classical.not_not, ← own_tkg hj (by omega)]; exact own_up hu (by rw [List.length_take]; omega)
    · obtain ⟨nF, hN, hu1, hu2⟩ := own_first _ hu
      have hN : nF < nx := by rw [List.length_take] at hN; omega
      exact rs_sbB hw O0 ST a1 bA kA cs nx nF HS hc h1 hnx hN (fun j hj => by rw [← own_tkg (n := nx) (by omega) (by omega)]; exact hu1 j hj) (by rw [← own_tkg hN (by omega)]; exact hu2)
theorem rs_eq (a1 bA : Addr) (kA : ClassId) (cs : List UInt16) (a2 bB : Addr) (kB : ClassId) (HS : Strx Z h0 a1 bA kA cs) (hc : cs.length ≤ 24) (HT : Strx Z h0 a2 bB kB cs) :
    Mt (l := l) hw (ws := ws) O0 ST Y_11 jdk_42_method_66_code 3 (some .boolean) R_7 #[(.ref a1), (.ref a2)] (Qpure (some (vL 1)) h0 n0) := by
  by_cases hne : a1 = a2
  · subst hne; exact rs_eqS hw O0 ST a1
  · rcases HS with HS | ⟨HS, q1⟩ <;> rcases HT with HT | ⟨HT, q2⟩
    · exact rs_eq0 hw O0 ST a1 bA kA a2 bB kB cs HS HT hc hne
    · exact absurd HS.2.2.2.2 q2
    · exact absurd HT.2.2.2.2 q1
    · exact rs_eq1 hw O0 ST a1 bA kA a2 bB kB cs HS HT hc hne
theorem rj_is (a1 a2 bS : Addr) (kS : ClassId) (ds : List UInt16) (E_a : Exa Z h0 a1 "java/lang/StringBuilder") (F_v : Fld Z h0 a1 "java/lang/AbstractStringBuilder" "value" "[B" .null) (F_c : Fld Z h0 a1 "java/lang/AbstractStringBuilder" "coder" "B" (vL 0)) (F_n : Fld Z h0 a1 "java/lang/AbstractStringBuilder" "count" "I" (vL 0)) (F_m : Fld Z h0 a1 "java/lang/AbstractStringBuilder" "maybeLatin1" "Z" (vL 0)) (g_a1 : n0 ≤ a1) (HS : Strx Z h0 a2 bS kS ds) (hds : ds.length ≤ 4) :
    Mt (l := l) hw (ws := ws) O0 ST Y_50 jdk_67_method_3_code 2 none R_27 #[(.ref a1), (.ref a2)] (Qsb (fun h b k LB' => Sbj Z h a1 b k LB' (ds.length + 16) ds) a1 h0 n0) := by
  rcases HS with HS | ⟨HS, q⟩
  · exact own_wk (rb_is0 hw O0 ST a1 a2 bS kS ds E_a F_v F_c F_n F_m g_a1 HS hds) fun _ _ _ ⟨r1, r2, r3, b, k, LB, r4, r5, r6⟩ => ⟨r1, r2, r3, b, k, LB, r4, Or.inl ⟨r5, r6⟩⟩
  · exact own_wk (rb_is1 hw O0 ST a1 a2 bS kS ds E_a F_v F_c F_n F_m g_a1 HS hds) fun _ _ _ ⟨r1, r2, r3, b, k, LB, r4, r5, r6⟩ => ⟨r1, r2, r3, b, k, LB, r4, Or.inr ⟨r5, q, by omega⟩⟩
theorem rj_ap (a1 bA : Addr) (kA : ClassId) (LB : Nat) (cs : List UInt16) (M : Nat) (a2 bS : Addr) (kS : ClassId) (ds : List UInt16) (HB : Sbj Z h0 a1 bA kA LB M cs) (hnn : cs.length ≤ 24) (g_a1 : n0 ≤ a1) (g_bA : n0 ≤ bA) (HS : Str0 Z h0 a2 bS kS ds) (hds : ds.length ≤ 24) (htot : cs.length + ds.length ≤ 24) (nSb : bS ≠ bA) :
    Mt (l := l) hw (ws := ws) O0 ST Y_7 jdk_67_method_7_code 2 (some (.object "java/lang/StringBuilder")) R_13 #[(.ref a1), (.ref a2)] (Qsv (fun h b k LB' => Sbj Z h a1 b k LB' M (cs ++ ds)) (some (.ref a1)) a1 bA h0 n0) := by
  rcases HB with ⟨HB, g⟩ | ⟨HB, w, g⟩
  · exact own_wk (rb_ap00 hw O0 ST a1 bA kA LB cs a2 bS kS ds HB hnn g_a1 g_bA HS hds htot nSb) fun _ _ _ ⟨r1, r2, r3, b, k, LB, r4, r5, r6⟩ => ⟨r1, r2, r3, b, k, LB, r4, Or.inl ⟨r5, by omega⟩⟩
  · exact own_wk (rb_ap10 hw O0 ST a1 bA kA LB cs a2 bS kS ds HB hnn g_a1 g_bA HS hds htot nSb) fun _ _ _ ⟨r1, r2, r3, b, k, LB, r4, r5, r6⟩ => ⟨r1, r2, r3, b, k, LB, r4, Or.inr ⟨r5, own_nap w, by omega⟩⟩
theorem rj_ai (dA : Addr) (kG : ClassId) (a1 bA : Addr) (kA : ClassId) (LB : Nat) (cs : List UInt16) (M kk : Nat) (DG : Dgt Z dA kG) (HB : Sbj Z h0 a1 bA kA LB M cs) (hnn : cs.length ≤ 24) (g_a1 : n0 ≤ a1) (g_bA : n0 ≤ bA) (hk : kk ≤ 9) (htot : cs.length + 1 ≤ 24) :
    Mt (l := l) hw (ws := ws) O0 ST Y_33 jdk_67_method_15_code 2 (some (.object "java/lang/StringBuilder")) R_28 #[(.ref a1), (vN kk)] (Qsv (fun h b k LB' => Sbj Z h a1 b k LB' M (cs ++ [dg kk])) (some (.ref a1)) a1 bA h0 n0) := by
  rcases HB with ⟨HB, g⟩ | ⟨HB, w, g⟩
  · exact own_wk (rb_aj0 hw O0 ST dA kG a1 bA kA LB cs kk DG HB hnn g_a1 g_bA hk htot) fun _ _ _ ⟨r1, r2, r3, b, k, LB, r4, r5, r6⟩ => ⟨r1, r2, r3, b, k, LB, r4, Or.inl ⟨r5, by omega⟩⟩
  · exact own_wk (rb_aj1 hw O0 ST dA kG a1 bA kA LB cs kk DG HB hnn g_a1 g_bA hk htot) fun _ _ _ ⟨r1, r2, r3, b, k, LB, r4, r5, r6⟩ => ⟨r1, r2, r3, b, k, LB, r4, Or.inr ⟨r5, own_nap w, by omega⟩⟩
theorem rj_ts (a1 bA : Addr) (kA : ClassId) (LB : Nat) (cs : List UInt16) (M : Nat) (HB : Sbj Z h0 a1 bA kA LB M cs) (hnn : cs.length ≤ 24) (hM : M < cs.length) (hM2 : cs.length ≤ 2 * M) :
    Mt (l := l) hw (ws := ws) O0 ST Y_29 jdk_67_method_42_code 1 (some (.object "java/lang/String")) R_25 #[(.ref a1)] (Qs Z cs h0 n0) := by
  rcases HB with ⟨HB, g⟩ | ⟨HB, w, g⟩
  · have q := own_sbl0 HB
    exact rb_ts0 hw O0 ST a1 bA kA LB cs HB hnn (by omega)
  · have q := own_sbl1 HB
    exact rb_ts1 hw O0 ST a1 bA kA LB cs HB hnn (by omega) w
theorem own_safeN {Z : State} {EL : List (String × Nat)} {vm : Vm} {h : Heap} {x : Addr} (hal : Z.vm.Alike vm) (E : Exa Z h x "java/lang/String") (F : Fld Z h x "java/lang/String" "value" "[B" .null) : Safe Z EL vm h x := fun B => by
  obtain ⟨p, -, u, a, -, q, -, G, rfl | rfl⟩ := B
  · obtain ⟨cell, cf, k, i, f, e1, e2, e3, e4, e5, e6, e7⟩ := F
    cases (show h[q.sa]? = some q.sC from G.ha).symm.trans e1
    obtain ⟨cS, ⟨⟨s1, s2, s3, ⟨cv, kv, iv, s4, s4'⟩, -, s6, s7, s8, -⟩, -⟩, -⟩ := G
    obtain ⟨kv', z4⟩ := ff_back (U := Wst Z vm h) hal s4
    have q4 := z4.symm.trans e2
    simp only [Option.some.injEq, Prod.mk.injEq] at q4
    obtain ⟨-, -, -, rfl⟩ := q4
    rw [s8] at e7
    cases e7
  · obtain ⟨cell, k, e1, e2, e3, -, -⟩ := E
    cases (show h[q.sd]? = some q.SA from G.hd).symm.trans e1
    obtain ⟨cS, -, -, f, -⟩ := G
    have f : vm.findClass "[B" = some q.SA.cls := f
    rw [hal.findClass] at f
    obtain ⟨k1, q1, q2⟩ := Vm.findClass_spec f
    obtain ⟨k2, q3, q4⟩ := Vm.findClass_spec e2
    cases q1.symm.trans q3
    exact absurd (q2.symm.trans q4) (by decide)
abbrev EL0 : List (String × Nat) := consts_1
abbrev Ms {l : Launch} {Z : State} {a0 : Array Value} (hw : Hw a0 Z) {ws : List Jvm.Cond} {G1 : Int32} {Fm : Value} {h0 : Heap} {n0 : Nat} (O0 : Old Z n0 h0) (ST : Stc Z G1 Fm) (y : MethodName) (b : ByteArray) (n : Nat) (r : Option FieldType) (rm : Room) (A : Array Value) (Q : Option Value → Heap → List Loc → Prop) : Prop := MetFree l y (head1 (Jvm.Cond.code y b n r :: ws) rm) (fun a U => a = A ∧ Z.Warmed39 U.vm ∧ U.heap = h0 ∧ CHv Z EL0 U.vm h0) (fun _ _ _ _ _ => True) (fun _ U o U' => ∃ v L, o = .returned v ∧ Q v U'.heap L ∧ CHr Z EL0 U.vm U.heap U'.vm U'.heap ∧ ReturnedEndW U o U' L rm.cells rm.slots)
def Qsu (Z : State) (a : Addr) (cs : List UInt16) (h0 : Heap) (n0 : Nat) (v : Option Value) (h : Heap) (Lc : List Loc) : Prop := v = none ∧ Fr n0 Lc ∧ Keep h0 h [a] ∧ ∃ (b : Addr) (k : ClassId), Strx Z h a b k cs
def Qt (Z : State) (cs : List UInt16) (h0 : Heap) (n0 : Nat) (v : Option Value) (h : Heap) (Lc : List Loc) : Prop := ∃ (a b : Addr) (k : ClassId), v = some (.ref a) ∧ Fr n0 Lc ∧ Keep h0 h [] ∧ h0.size ≤ a ∧ Strx Z h a b k cs
def TE : List UInt16 := []
def TD : List UInt16 := [46, 46, 46, 32, 40]
def TF : List UInt16 := [32, 99, 104, 97, 114, 97, 99, 116, 101, 114, 115, 41]
theorem own_wS {Z : State} {a0 : Array Value} (hw : Hw a0 Z) : ∀ d ∈ Bundle.stringAtoms, d.before a0 Z = true := by
  intro d hd
  simp only [Bundle.stringAtoms, List.mem_cons, List.not_mem_nil, or_false] at hd
  rcases hd with rfl | rfl | rfl | rfl | rfl | rfl | rfl
  · exact (tw hw 14 rfl)
  · exact (tw hw 13 rfl)
  · exact (tw hw 26 rfl)
  · exact (tw hw 27 rfl)
  · exact (tw hw 28 rfl)
  · exact (tw hw 29 rfl)
  · exact (tw hw 30 rfl)
theorem own_EW {Z : State} {a0 : Array Value} (hw : Hw a0 Z) : EW Z a0 EL0 := by
  unfold EL0 consts_1
  exact EW.cons (tw hw 277 rfl) (by decide) (EW.cons (tw hw 320 rfl) (by decide) (EW.cons (tw hw 25 rfl) (by decide) (EW.cons (tw hw 401 rfl) (by decide) (EW.cons (tw hw 385 rfl) (by decide) (EW.nil)))))
def exL (us : List UInt16) (p : Nat) (d : UInt16) : List UInt16 := ((us.take p ++ TD) ++ [d]) ++ TF
theorem rs_ic0 (a1 a2 : Addr) (kA : ClassId) (E_a : Exa Z h0 a1 "java/lang/String") (F_v : Fld Z h0 a1 "java/lang/String" "value" "[B" .null) (F_c : Fld Z h0 a1 "java/lang/String" "coder" "B" (vL 0)) (g_a1 : n0 ≤ a1) (C2 : Arv Z h0 a2 kA .char (0 : Int32) [] (vL 0)) :
    Ms (l := l) hw (ws := ws) O0 ST Y_12 jdk_42_method_149_code 6 none R_15 #[(.ref a1), (.ref a2), (vL 0), (vL 0), .null] (Qsu Z a1 [] h0 n0) := by
  refine MetFree.of_bodySF (plainFor_of_name pn2) hisR ?_
  intro p e s m args w_ meth c s₁ Bd hml0 hP hK
  obtain ⟨rfl, hZ, hh, H0⟩ := hP
  obtain ⟨hx, hby, hml, hown, hnm, X0, e0, hZ, hS, hk, CH0⟩ := own_opS R_15 Bd hml0 hZ hh H0
  have N0 := Fr.nil n0
  have lt_a1 := E_a.lt
  have n_12 : a1 ≠ a2 := Exa.neArv E_a C2 (tw hw 13 rfl)
  have sf_a1 : Safe Z EL0 s.vm h0 a1 := own_safeN hZ.alike E_a F_v
  obtain ⟨T1, X1, e1, st1⟩ := initO X0 hx hZ hown (tw hw 22 rfl) (tw hw 23 rfl) (tw hw 24 rfl) e0 (g := (mkF m 1 (q_29 a1 a2) [(.ref a1)])) rfl (by rw [hml]; rfl) rfl (d4 hby 1 rfl) (by decide) (W := 0) (by show 2 * 0 + _ ≤ _; exact Nat.le_of_eq rfl) (by decide)
  have pf2 : ∀ target, Go p e w_ T1 m 9 (q_29 a1 a2) [(.ref a1)] target → Go p e w_ s₁ m 0 (q_29 a1 a2) [] target := by
    intro target k
    refine za X0 hx (d4 hby 0 rfl) rfl rfl <| st1 _ <| zl X1 hx (d4 hby 2 rfl) rfl <| zg X1 hx (d4 hby 3 rfl) ((if0 _ _).trans (teq (by decide)).2) <| za X1 hx (d4 hby 20 rfl) rfl rfl ?_
    exact k
  obtain ⟨la3, T3, h3, k1_3, lc3, kc3, X3, e3, E3, hS, hk, hZ, hown, Ea3, Fc3, Fv3, Va3, lt_la3, lt_lc3, cs3, Li3, ne3, st3⟩ := ldcCH X1 hx hZ hown (tw hw 25 rfl) (own_wS hw) e1 hS hk (own_EW hw) (by decide) H0 (vs := ((TE.map cLo).map Value.int)) (z := Int32.ofNat TE.length) (by decide +kernel) (by decide) (by decide) (g := (mkF m 9 (q_29 a1 a2) [(.ref a1)])) rfl (d4 hby 21 rfl) (n := 0) (by decide) (by decide) (by decide) (by decide)
  have O4 := O0.ext E3
  have kp5 : Keep h0 h3 [a1] := (Keep.refl h0 [a1]).ext E3
  have ch6 := cs3
  have sf6_a1 := ch6.safe E_a.lt sf_a1
  have CH6 := CHr.trans CH0 ch6
  obtain ⟨T7, X7, e7, st7⟩ := getF X3 hx hZ hown (host := "") (Or.inl (tw hw 31 rfl)) Via.refl e3 Fv3 (g := (mkF m 11 (q_29 a1 a2) [(.ref la3), (.ref a1)])) rfl rfl (d4 hby 22 rfl)
  obtain ⟨T8, h8, X8, e8, W8, st8⟩ := putF X7 hx hZ hown (host := "") (Or.inl (tw hw 31 rfl)) Via.refl e7 (F_v.ext E3) (E_a.ext E3) (Or.inr ⟨(tw hw 27 rfl), rfl, hnm⟩) (tw hw 13 rfl) (ty := (.array .byte)) (by decide) rfl rfl (g := (mkF m 14 (q_29 a1 a2) [(.ref lc3), (.ref a1)])) rfl rfl (d4 hby 23 rfl)
  have Fw8 := (F_v.ext E3).same W8
  have O9 := O4.wr W8 g_a1
  have kp10 := kp5.wr W8 (Or.inl (List.mem_of_getElem? (i := 0) rfl))
  have ch11 := CHr.wr W8 sf6_a1 ch6.1
  have sf11_a1 := Safe.wr W8 sf6_a1 ch6.1 sf6_a1
  have CH11 := CHr.trans CH6 ch11
  have hk := Nat.le_trans hk ch11.2.1
  have N8 := Fr.snoc X8 N0 g_a1
  have pf12 : ∀ target, Go p e w_ T8 m 18 (q_29 a1 a2) [(.ref a1)] target → Go p e w_ T1 m 9 (q_29 a1 a2) [(.ref a1)] target := by
    intro target k
    refine st3 _ <| st7 _ <| st8 _ <| za X8 hx (d4 hby 24 rfl) rfl rfl ?_
    exact k
  obtain ⟨la13, T13, h13, k1_13, lc13, kc13, X13, e13, E13, hS, hk, hZ, hown, Ea13, Fc13, Fv13, Va13, lt_la13, lt_lc13, cs13, Li13, ne13, st13⟩ := ldcCH X8 hx hZ hown (tw hw 25 rfl) (own_wS hw) e8 hS hk (own_EW hw) (by decide) ch11.1 (vs := ((TE.map cLo).map Value.int)) (z := Int32.ofNat TE.length) (by decide +kernel) (by decide) (by decide) (g := (mkF m 18 (q_29 a1 a2) [(.ref a1)])) rfl (d4 hby 25 rfl) (n := 0) (by decide) (by decide) (by decide) (by decide)
  have O14 := O9.ext E13
  have kp15 := kp10.ext E13
  have ch16 := cs13
  have sf16_a1 := ch16.safe ((E_a.ext E3).wr W8).lt sf11_a1
  have CH16 := CHr.trans CH11 ch16
  obtain ⟨T17, X17, e17, st17⟩ := getF X13 hx hZ hown (host := "") (Or.inl (tw hw 32 rfl)) Via.refl e13 Fc13 (g := (mkF m 20 (q_29 a1 a2) [(.ref la13), (.ref a1)])) rfl rfl (d4 hby 26 rfl)
  obtain ⟨T18, h18, X18, e18, W18, st18⟩ := putFN X17 hx hZ hown (tw hw 32 rfl) Via.refl e17 (((F_c.ext E3).other W8 (Or.inr (slot_ne (Or.inr (tw hw 28 rfl)) (Or.inr (tw hw 27 rfl)) (by decide) (t := .byte) (t' := (.array .byte)) (by decide) (by decide)))).ext E13) (((E_a.ext E3).wr W8).ext E13) (Or.inr ⟨(tw hw 28 rfl), rfl, hnm⟩) (tw hw 13 rfl) (ty := .byte) (v' := (vL 0)) (by decide) rfl rfl (g := (mkF m 23 (q_29 a1 a2) [(vL 0), (.ref a1)])) rfl rfl (d4 hby 27 rfl)
  have Fw18 := (((F_c.ext E3).other W8 (Or.inr (slot_ne (Or.inr (tw hw 28 rfl)) (Or.inr (tw hw 27 rfl)) (by decide) (t := .byte) (t' := (.array .byte)) (by decide) (by decide)))).ext E13).same W18
  have O19 := O14.wr W18 g_a1
  have kp20 := kp15.wr W18 (Or.inl (List.mem_of_getElem? (i := 0) rfl))
  have ch21 := CHr.wr W18 sf16_a1 ch16.1
  have sf21_a1 := Safe.wr W18 sf16_a1 ch16.1 sf16_a1
  have CH21 := CHr.trans CH16 ch21
  have hk := Nat.le_trans hk ch21.2.1
  have N18 := Fr.snoc X18 N8 g_a1
  obtain ⟨fs, hr, hrun, hended, hEnd⟩ := (X18.mono (by decide : _ ≤ R_15.cells) (by decide : _ ≤ R_15.slots)).leaveW hS (by rw [e18]; exact hk) (v := none) (fun _ => rfl)
  have CE := CHr.trans CH21 (CHv.at X18 hZ (own_EW hw) ch21.1)
  refine ⟨_, _, castTop (ef_rs_icA m a1 a2 (0 : Int32) (0 : Int32)) ?_, hrun, hended, _, _, rfl, ?_, ?_, hEnd⟩
  · refine pf2 _ <| pf12 _ <| st13 _ <| st17 _ <| st18 _ ?_
    show Go p e w_ T18 m 26 (q_29 a1 a2) [] _
    exact X18.returnOut hx Bd.returns (d4 hby 28 rfl) hr
  · show Qsu Z a1 [] h0 n0 _ T18.heap _
    rw [e18]
    exact ⟨rfl, N18, kp20, lc3, _, Or.inl ⟨((((E_a.ext E3).wr W8).ext E13).wr W18), Fw18, ((Fw8.ext E13).other W18 (Or.inr (slot_ne (Or.inr (tw hw 27 rfl)) (Or.inr (tw hw 28 rfl)) (by decide) (t := (.array .byte)) (t' := .byte) (by decide) (by decide)))), ⟨(((Va3.other W8 (Ne.symm (ne3 _ sf6_a1).2)).ext E13).other W18 (Ne.symm (ne3 _ sf6_a1).2)), rfl⟩, fun _ q => nomatch q⟩⟩
  · show CHr Z EL0 s.vm s.heap T18.vm T18.heap
    rw [e18, hh]; exact CE
theorem rs_i0 (a1 a2 : Addr) (kA : ClassId) (E_a : Exa Z h0 a1 "java/lang/String") (F_v : Fld Z h0 a1 "java/lang/String" "value" "[B" .null) (F_c : Fld Z h0 a1 "java/lang/String" "coder" "B" (vL 0)) (g_a1 : n0 ≤ a1) (C2 : Arv Z h0 a2 kA .char (0 : Int32) [] (vL 0)) :
    Ms (l := l) hw (ws := ws) O0 ST Y_4 jdk_42_method_3_code 2 none R_16 #[(.ref a1), (.ref a2)] (Qsu Z a1 [] h0 n0) := by
  refine MetFree.of_bodySF (plainFor_of_name pn2) hisR ?_
  intro p e s m args w_ meth c s₁ Bd hml0 hP hK
  obtain ⟨rfl, hZ, hh, H0⟩ := hP
  obtain ⟨hx, hby, hml, hown, hnm, X0, e0, hZ, hS, hk, CH0⟩ := own_opS R_16 Bd hml0 hZ hh H0
  have N0 := Fr.nil n0
  have lt_a1 := E_a.lt
  have n_12 : a1 ≠ a2 := Exa.neArv E_a C2 (tw hw 13 rfl)
  have sf_a1 : Safe Z EL0 s.vm h0 a1 := own_safeN hZ.alike E_a F_v
  obtain ⟨cl1, Ar1, q1, Sz1, Nn1, Ha1, Gf1⟩ := id C2
  have pf2 : ∀ target, Go p e w_ s₁ m 6 (q_1 a1 a2) [.null, (vL 0), (vL 0), (.ref a2), (.ref a1)] target → Go p e w_ s₁ m 0 (q_1 a1 a2) [] target := by
    intro target k
    refine za X0 hx (d3 hby 0 rfl) rfl rfl <| za X0 hx (d3 hby 1 rfl) rfl rfl <| zc X0 hx (d3 hby 2 rfl) <| za X0 hx (d3 hby 3 rfl) rfl rfl ?_
    show Go p e w_ s₁ m 4 (q_1 a1 a2) [(.ref a2), (vL 0), (.ref a2), (.ref a1)] _
    refine X0.arraylength hx (by rw [e0]; exact Ar1.1) (State.isArrayOf_alike hZ.alike Ar1.2.1) (g := (mkF m 4 (q_1 a1 a2) [(.ref a2), (vL 0), (.ref a2), (.ref a1)])) rfl rfl (d3 hby 4 rfl) _ ?_
    rw [len_of Sz1 Nn1]
    refine XS.aconstNull X0.here hx rfl (d3 hby 5 rfl) ?_
    exact k
  obtain ⟨_, _, ⟨T3, L3, k3, n3⟩, -, X3, hS3, hg3, ⟨Lc3, hQ3, l3, y3, z3, cs3⟩, st3⟩ := X0.specialBackS hx (y := Y_12) rfl hown (mvT hZ (tw hw 18 rfl)) (mvT hZ (tw hw 19 rfl)) (mvT hZ (tw hw 21 rfl)) (by decide) (backOfSH (W := 0) (rs_ic0 hw O0 ST a1 a2 kA E_a F_v F_c g_a1 C2) hZ (tw hw 21 rfl) (tw hw 14 rfl) (by decide) (by decide) (own_EW hw) H0) (g := (mkF m 6 (q_1 a1 a2) [.null, (vL 0), (vL 0), (.ref a2), (.ref a1)])) rfl (by rw [hml]; rfl) (Steps.refl _) (a := a1) (argsL := [(.ref a2), (vL 0), (vL 0), .null]) (rest := []) (lenOf pd17 rfl) rfl (by show 2 * 0 + _ ≤ _; exact Nat.le_of_eq rfl) (d3 hby 6 rfl) (fun _ _ => ⟨rfl, e0, (by decide : 0 + 4 ≤ _), (by decide : 0 + 8 ≤ _)⟩)
  dsimp only [Pt.U, Pt.locs, Pt.cells, Pt.slots] at X3 l3 y3 z3 st3 hQ3 cs3 hS3 hg3
  subst l3 y3 z3
  obtain ⟨X3, hS, hZ, hown⟩ := rebS hS (by rw [e0]; exact hk) X3 hS3 hg3 hZ hown
  obtain ⟨h3, e3⟩ : ∃ z, T3.heap = z := ⟨_, rfl⟩
  rw [e3] at hQ3 cs3 hS
  have hk : h3.size ≤ h3.size := Nat.le_refl _
  obtain ⟨rfl, Nq3, K3, R3⟩ := hQ3
  have N3 := Fr.app N0 Nq3
  have O4 := O0.keep K3 (allS g_a1 all0)
  have kp5 : Keep h0 h3 [a1] := (Keep.refl h0 [a1]).trans K3 (allS (Or.inl (List.mem_of_getElem? (i := 0) rfl)) all0)
  have ch6 := cs3
  have sf6_a1 := ch6.safe E_a.lt sf_a1
  have CH6 := CHr.trans CH0 ch6
  have RR := R3
  obtain ⟨fs, hr, hrun, hended, hEnd⟩ := (X3.mono (by decide : _ ≤ R_16.cells) (by decide : _ ≤ R_16.slots)).leaveW hS (by rw [e3]; exact hk) (v := none) (fun _ => rfl)
  have CE := CHr.trans CH6 (CHv.at X3 hZ (own_EW hw) ch6.1)
  refine ⟨_, _, castTop (ef_rs_iA m a1 a2) ?_, hrun, hended, _, _, rfl, ?_, ?_, hEnd⟩
  · refine pf2 _ <| st3.trans ?_
    show Go p e w_ T3 m 9 (q_1 a1 a2) [] _
    exact X3.returnOut hx Bd.returns (d3 hby 7 rfl) hr
  · show Qsu Z a1 [] h0 n0 _ T3.heap _
    rw [e3]
    exact ⟨rfl, N3, kp5, RR⟩
  · show CHr Z EL0 s.vm s.heap T3.vm T3.heap
    rw [e3, hh]; exact CE
theorem d2 : Dl cb80 [(0, .iload_n 0, 1), (1, .ifCond .ne 14, 3), (4, .new 30, 3), (7, .dup, 1), (8, .iconst 0, 1), (9, .newarray .char, 2), (11, .invokespecial 53, 3), (14, .areturn, 1), (15, .iload_n 0, 1), (16, .iconst 1, 1), (17, .if_icmp .ne 18, 3), (20, .new 30, 3), (23, .dup, 1), (24, .iconst 1, 1), (25, .newarray .char, 2), (31, .invokespecial 53, 3), (34, .areturn, 1), (35, .iload_n 0, 1), (36, .iconst 2, 1), (37, .if_icmp .ne 22, 3), (40, .new 30, 3), (43, .dup, 1), (44, .iconst 2, 1), (45, .newarray .char, 2), (55, .invokespecial 53, 3), (58, .areturn, 1), (59, .iload_n 0, 1), (60, .iconst 3, 1), (61, .if_icmp .ne 26, 3), (64, .new 30, 3), (67, .dup, 1), (68, .iconst 3, 1), (69, .newarray .char, 2), (83, .invokespecial 53, 3), (86, .areturn, 1), (87, .new 30, 3), (90, .dup, 1), (91, .iconst 4, 1), (92, .newarray .char, 2), (111, .invokespecial 53, 3), (114, .areturn, 1)] := dlk (by decide +kernel)
theorem pd45 : parseMethodDescriptor "([C)V" = some ⟨[(.array .char)], none⟩ := by decide +kernel
theorem ef_rt_0 (m : MethodId) (x0 : Int32) (x1 : Int32) (x2 : Int32) (x3 : Int32) (x4 : Int32) : entryFrame m #[(.int x0), (.int x1), (.int x2), (.int x3), (.int x4)] 5 = mkF m 0 #[.val (.int x0), .val (.int x1), .val (.int x2), .val (.int x3), .val (.int x4)] [] := by first | (simp [entryFrame, mkF, argsToLocals, Value.category]; done) | rfl
theorem rt_0 (ua ub uc ud : UInt16) :
    Ms (l := l) hw (ws := ws) O0 ST Y_6 method_8_code 5 (some (.object "java/lang/String")) R_1 #[(vL 0), (.int (cv ua)), (.int (cv ub)), (.int (cv uc)), (.int (cv ud))] (Qt Z ([ua, ub, uc, ud].take 0) h0 n0) := by
  refine MetFree.of_bodySF (plainFor_of_name pn9) hisR ?_
  intro p e s m args w_ meth c s₁ Bd hml0 hP hK
  obtain ⟨rfl, hZ, hh, H0⟩ := hP
  obtain ⟨hx, hby, hml, hown, hnm, X0, e0, hZ, hS, hk, CH0⟩ := own_opS R_1 Bd hml0 hZ hh H0
  have N0 := Fr.nil n0
  obtain ⟨T1, h1, X1, e1, E1, A1, D1, U1, st1⟩ := newO X0 hx hZ hown (tw hw 12 rfl) (tw hw 13 rfl) (tw hw 14 rfl) e0 (g := (mkF m 4 (q_26 ua ub uc ud) [])) rfl (d2 hby 2 rfl) (by decide) (by decide)
  obtain ⟨b1, g1⟩ : ∃ z, z = h0.size := ⟨_, rfl⟩
  rw [← g1] at A1 D1 U1 st1
  have g_b1 : n0 ≤ b1 := by rw [g1]; exact Nat.le_trans (Nat.le_of_eq O0.1.symm) O0.2.1
  have sz_b1 : h0.size ≤ b1 := by rw [g1]; exact (Keep.refl h0 []).1
  have sf_b1 : Safe Z EL0 s.vm h0 b1 := Safe.new (Nat.le_of_eq g1.symm)
  have O2 := O0.ext E1
  have kp3 : Keep h0 h1 [] := (Keep.refl h0 []).ext E1
  have ch4 := CHr.ext E1 H0
  have sf4_b1 := Safe.ext E1 H0 sf_b1
  have CH4 := CHr.trans CH0 ch4
  have hk := Nat.le_trans hk ch4.2.1
  have F_value_b1 : Fld Z h1 b1 "java/lang/String" "value" "[B" .null := D1 (Or.inr (tw hw 27 rfl)) (ty := (.array .byte)) (by decide)
  have F_coder_b1 : Fld Z h1 b1 "java/lang/String" "coder" "B" (vL 0) := D1 (Or.inr (tw hw 28 rfl)) (ty := .byte) (by decide)
  obtain ⟨T5, h5, k5, X5, e5, E5, A5, st5⟩ := newP X1 hx hZ (tw hw 8 rfl) e1 (g := (mkF m 9 (q_26 ua ub uc ud) [(vL 0), (.ref b1), (.ref b1)])) rfl (d2 hby 5 rfl) rfl (by decide) (cap := 0) (by decide) (by decide) (by decide) (by decide)
  obtain ⟨b5, g5⟩ : ∃ z, z = h1.size := ⟨_, rfl⟩
  rw [← g5] at A5 st5
  have g_b5 : n0 ≤ b5 := by rw [g5]; exact Nat.le_trans (Nat.le_of_eq O2.1.symm) O2.2.1
  have sz_b5 : h0.size ≤ b5 := by rw [g5]; exact kp3.1
  have lt_b1_b5 : b1 < b5 := by rw [g5]; exact A1.lt
  have sf_b5 : Safe Z EL0 s.vm h1 b5 := Safe.new (Nat.le_of_eq g5.symm)
  have O6 := O2.ext E5
  have kp7 := kp3.ext E5
  have ch8 := CHr.ext E5 ch4.1
  have sf8_b1 := Safe.ext E5 ch4.1 sf4_b1
  have sf8_b5 := Safe.ext E5 ch4.1 sf_b5
  have CH8 := CHr.trans CH4 ch8
  have hk := Nat.le_trans hk ch8.2.1
  have V_b5 : Arv Z h5 b5 k5 .char (0 : Int32) [] (vL 0) := (Arv.new A5 (by decide)).pad (pad_rep [] (vL 0) 0)
  have pf9 : ∀ target, Go p e w_ T5 m 11 (q_26 ua ub uc ud) [(.ref b5), (.ref b1), (.ref b1)] target → Go p e w_ s₁ m 0 (q_26 ua ub uc ud) [] target := by
    intro target k
    refine zl X0 hx (d2 hby 0 rfl) rfl <| zg X0 hx (d2 hby 1 rfl) ((if0 _ _).trans (teq (by decide)).2) <| st1 _ <| XS.dup X1.here hx rfl (d2 hby 3 rfl) rfl rfl <| zc X1 hx (d2 hby 4 rfl) <| st5 _ ?_
    exact k
  obtain ⟨_, _, ⟨T10, L10, k10, n10⟩, -, X10, hS10, hg10, ⟨Lc10, hQ10, l10, y10, z10, cs10⟩, st10⟩ := X5.specialBackS hx (y := Y_4) rfl hown (mvT hZ (tw hw 15 rfl)) (mvT hZ (tw hw 16 rfl)) (mvT hZ (tw hw 17 rfl)) (by decide) (backOfSH (W := 1) (rs_i0 hw O6 ST b1 b5 k5 (A1.ext E5) (F_value_b1.ext E5) (F_coder_b1.ext E5) g_b1 V_b5) hZ (tw hw 17 rfl) (tw hw 14 rfl) (by decide) (by decide) (own_EW hw) ch8.1) (g := (mkF m 11 (q_26 ua ub uc ud) [(.ref b5), (.ref b1), (.ref b1)])) rfl (by rw [hml]; rfl) (Steps.refl _) (a := b1) (argsL := [(.ref b5)]) (rest := [(.ref b1)]) (lenOf pd45 rfl) rfl (by show 2 * 0 + _ ≤ _; exact Nat.le_of_eq rfl) (d2 hby 6 rfl) (fun _ _ => ⟨rfl, e5, (by decide : 2 + 4 ≤ _), (by decide : 4 + 8 ≤ _)⟩)
  dsimp only [Pt.U, Pt.locs, Pt.cells, Pt.slots] at X10 l10 y10 z10 st10 hQ10 cs10 hS10 hg10
  subst l10 y10 z10
  obtain ⟨X10, hS, hZ, hown⟩ := rebS hS (by rw [e5]; exact hk) X10 hS10 hg10 hZ hown
  obtain ⟨h10, e10⟩ : ∃ z, T10.heap = z := ⟨_, rfl⟩
  rw [e10] at hQ10 cs10 hS
  have hk : h10.size ≤ h10.size := Nat.le_refl _
  obtain ⟨rfl, Nq10, K10, R10⟩ := hQ10
  have N10 := Fr.app N0 Nq10
  have O11 := O6.keep K10 (allS g_b1 all0)
  have kp12 := kp7.trans K10 (allS (Or.inr sz_b1) all0)
  have ch13 := cs10
  have sf13_b1 := ch13.safe (A1.ext E5).lt sf8_b1
  have sf13_b5 := ch13.safe V_b5.lt sf8_b5
  have CH13 := CHr.trans CH8 ch13
  obtain ⟨bb, kb, HX⟩ := R10
  obtain ⟨fs, hr, hrun, hended, hEnd⟩ := (X10.mono (by decide : _ ≤ R_1.cells) (by decide : _ ≤ R_1.slots)).leaveW hS (by rw [e10]; exact hk) (v := some (.ref b1)) (fun h => by rw [Bd.returns] at h; cases h)
  have CE := CHr.trans CH13 (CHv.at X10 hZ (own_EW hw) ch13.1)
  refine ⟨_, _, castTop (ef_rt_0 m (0 : Int32) (cv ua) (cv ub) (cv uc) (cv ud)) ?_, hrun, hended, _, _, rfl, ?_, ?_, hEnd⟩
  · refine pf9 _ <| st10.trans ?_
    show Go p e w_ T10 m 14 (q_26 ua ub uc ud) [(.ref b1)] _
    exact retOut X10 hx Bd.returns rfl (Or.inr (Or.inr (Or.inr (Or.inr ⟨rfl, rfl, rfl⟩)))) (d2 hby 7 rfl) hr
  · show Qt Z ([ua, ub, uc, ud].take 0) h0 n0 _ T10.heap _
    rw [e10]
    exact ⟨b1, bb, kb, rfl, N10, kp12, sz_b1, HX⟩
  · show CHr Z EL0 s.vm s.heap T10.vm T10.heap
    rw [e10, hh]; exact CE
theorem rt_1 (ua ub uc ud : UInt16) :
    Ms (l := l) hw (ws := ws) O0 ST Y_6 method_8_code 5 (some (.object "java/lang/String")) R_1 #[(vL 1), (.int (cv ua)), (.int (cv ub)), (.int (cv uc)), (.int (cv ud))] (Qt Z ([ua, ub, uc, ud].take 1) h0 n0) := by
  refine MetFree.of_bodySF (plainFor_of_name pn9) hisR ?_
  intro p e s m args w_ meth c s₁ Bd hml0 hP hK
  obtain ⟨rfl, hZ, hh, H0⟩ := hP
  obtain ⟨hx, hby, hml, hown, hnm, X0, e0, hZ, hS, hk, CH0⟩ := own_opS R_1 Bd hml0 hZ hh H0
  have N0 := Fr.nil n0
  obtain ⟨T1, h1, X1, e1, E1, A1, D1, U1, st1⟩ := newO X0 hx hZ hown (tw hw 12 rfl) (tw hw 13 rfl) (tw hw 14 rfl) e0 (g := (mkF m 20 (q_25 ua ub uc ud) [])) rfl (d2 hby 11 rfl) (by decide) (by decide)
  obtain ⟨b1, g1⟩ : ∃ z, z = h0.size := ⟨_, rfl⟩
  rw [← g1] at A1 D1 U1 st1
  have g_b1 : n0 ≤ b1 := by rw [g1]; exact Nat.le_trans (Nat.le_of_eq O0.1.symm) O0.2.1
  have sz_b1 : h0.size ≤ b1 := by rw [g1]; exact (Keep.refl h0 []).1
  have sf_b1 : Safe Z EL0 s.vm h0 b1 := Safe.new (Nat.le_of_eq g1.symm)
  have O2 := O0.ext E1
  have kp3 : Keep h0 h1 [] := (Keep.refl h0 []).ext E1
  have ch4 := CHr.ext E1 H0
  have sf4_b1 := Safe.ext E1 H0 sf_b1
  have CH4 := CHr.trans CH0 ch4
  have hk := Nat.le_trans hk ch4.2.1
  have F_value_b1 : Fld Z h1 b1 "java/lang/String" "value" "[B" .null := D1 (Or.inr (tw hw 27 rfl)) (ty := (.array .byte)) (by decide)
  have F_coder_b1 : Fld Z h1 b1 "java/lang/String" "coder" "B" (vL 0) := D1 (Or.inr (tw hw 28 rfl)) (ty := .byte) (by decide)
  obtain ⟨T5, h5, k5, X5, e5, E5, A5, Ea5, st5⟩ := newPE X1 hx hZ (tw hw 8 rfl) e1 (g := (mkF m 25 (q_25 ua ub uc ud) [(vL 1), (.ref b1), (.ref b1)])) rfl (d2 hby 14 rfl) rfl (by decide) (cap := 1) (by decide) (by decide) (by decide) (by decide) (ad := "[C") (by decide)
  obtain ⟨b5, g5⟩ : ∃ z, z = h1.size := ⟨_, rfl⟩
  rw [← g5] at A5 Ea5 st5
  have g_b5 : n0 ≤ b5 := by rw [g5]; exact Nat.le_trans (Nat.le_of_eq O2.1.symm) O2.2.1
  have sz_b5 : h0.size ≤ b5 := by rw [g5]; exact kp3.1
  have lt_b1_b5 : b1 < b5 := by rw [g5]; exact A1.lt
  have sf_b5 : Safe Z EL0 s.vm h1 b5 := Safe.new (Nat.le_of_eq g5.symm)
  have O6 := O2.ext E5
  have kp7 := kp3.ext E5
  have ch8 := CHr.ext E5 ch4.1
  have sf8_b1 := Safe.ext E5 ch4.1 sf4_b1
  have sf8_b5 := Safe.ext E5 ch4.1 sf_b5
  have CH8 := CHr.trans CH4 ch8
  have hk := Nat.le_trans hk ch8.2.1
  have V_b5 : Arv Z h5 b5 k5 .char (1 : Int32) ((List.replicate 1 (0 : Int32)).map Value.int) (vL 0) := by rw [List.map_replicate]; exact (Arv.new A5 (by decide)).pad (pad_rep [] (vL 0) 1)
  have hN_b5 : ((1 : Int32)).toNatClampNeg = (List.replicate 1 (0 : Int32)).length := by rw [List.length_replicate]; exact by decide
  have V0_b5 := own_car0 (n := 1) V_b5
  obtain ⟨-, T9, h9, L9, X9, e9, K9, V9, N9, st9⟩ := (own_f0 X5 hx hZ e5 V0_b5 N0 g_b5 hby ((q_25 ua ub uc ud)) [(.ref b1), (.ref b1)] 27).loc 0 1 rfl
  have O10 := O6.keep K9 (allS g_b5 all0)
  have kp11 := kp7.trans K9 (allS (Or.inr sz_b5) all0)
  have ch12 := CHr.keep K9 (sfS sf8_b5 sf0) ch8.1
  have sf12_b1 := Safe.keep K9 (sfS sf8_b5 sf0) ch8.1 sf8_b1
  have sf12_b5 := Safe.keep K9 (sfS sf8_b5 sf0) ch8.1 sf8_b5
  have CH12 := CHr.trans CH8 ch12
  have hk := Nat.le_trans hk ch12.2.1
  have VC := own_ceq (vs := [ua, ub, uc, ud].take 1) V9 (by simp)
  obtain ⟨_, T13, Lc13, X13, hQ13, st13⟩ := own_ic X9 hx hZ (y := Y_4) rfl hown hml (tw hw 15 rfl) (tw hw 16 rfl) (rs_i hw O10 ST b1 b5 k5 ([ua, ub, uc, ud].take 1) ((A1.ext E5).keep K9) ((F_value_b1.ext E5).keep K9 (ninS (Nat.ne_of_lt lt_b1_b5) nin0)) ((F_coder_b1.ext E5).keep K9 (ninS (Nat.ne_of_lt lt_b1_b5) nin0)) g_b1 VC (Nat.ne_of_lt lt_b1_b5) (by simp) (by simp)) (tw hw 17 rfl) (tw hw 14 rfl) e9 (W := 1) (Ls := (q_25 ua ub uc ud)) (b := b1) (argsL := [(.ref b5)]) (rest := [(.ref b1)]) (lenOf pd45 rfl) (d2 hby 15 rfl)
  obtain ⟨h13, e13⟩ : ∃ z, T13.heap = z := ⟨_, rfl⟩
  rw [e13] at hQ13
  obtain ⟨rfl, Nq13, K13, R13⟩ := hQ13
  have N13 := Fr.app N9 Nq13
  have O14 := O10.keep K13 (allS g_b1 all0)
  have kp15 := kp11.trans K13 (allS (Or.inr sz_b1) all0)
  have ch16 := CHr.keep K13 (sfS sf12_b1 sf0) ch12.1
  have sf16_b1 := Safe.keep K13 (sfS sf12_b1 sf0) ch12.1 sf12_b1
  have sf16_b5 := Safe.keep K13 (sfS sf12_b1 sf0) ch12.1 sf12_b5
  have CH16 := CHr.trans CH12 ch16
  have hk := Nat.le_trans hk ch16.2.1
  obtain ⟨bb, kb, -, HX⟩ := R13
  obtain ⟨fs, hr, hrun, hended, hEnd⟩ := (X13.mono (by decide : _ ≤ R_1.cells) (by decide : _ ≤ R_1.slots)).leaveW hS (by rw [e13]; exact hk) (v := some (.ref b1)) (fun h => by rw [Bd.returns] at h; cases h)
  have CE := CHr.trans CH16 (CHv.at X13 hZ (own_EW hw) ch16.1)
  refine ⟨_, _, castTop (ef_rt_0 m (1 : Int32) (cv ua) (cv ub) (cv uc) (cv ud)) ?_, hrun, hended, _, _, rfl, ?_, ?_, hEnd⟩
  · refine zl X0 hx (d2 hby 0 rfl) rfl <| zf X0 hx 1 15 (d2 hby 1 rfl) ((if0 _ _).trans (feq (by decide)).2) <| zl X0 hx (d2 hby 8 rfl) rfl <| zc X0 hx (d2 hby 9 rfl) <| zn X0 hx (d2 hby 10 rfl) (teq (by decide)).2 <| st1 _ <| XS.dup X1.here hx rfl (d2 hby 12 rfl) rfl rfl <| zc X1 hx (d2 hby 13 rfl) <| st5 _ <| st9 _ ?_
    show Go p e w_ T9 m 31 (q_25 ua ub uc ud) [(.ref b5), (.ref b1), (.ref b1)] _
    refine st13 _ ?_
    show Go p e w_ T13 m 34 (q_25 ua ub uc ud) [(.ref b1)] _
    exact retOut X13 hx Bd.returns rfl (Or.inr (Or.inr (Or.inr (Or.inr ⟨rfl, rfl, rfl⟩)))) (d2 hby 16 rfl) hr
  · show Qt Z ([ua, ub, uc, ud].take 1) h0 n0 _ T13.heap _
    rw [e13]
    exact ⟨b1, bb, kb, rfl, N13, kp15, sz_b1, HX⟩
  · show CHr Z EL0 s.vm s.heap T13.vm T13.heap
    rw [e13, hh]; exact CE
theorem rt_2 (ua ub uc ud : UInt16) :
    Ms (l := l) hw (ws := ws) O0 ST Y_6 method_8_code 5 (some (.object "java/lang/String")) R_1 #[(vL 2), (.int (cv ua)), (.int (cv ub)), (.int (cv uc)), (.int (cv ud))] (Qt Z ([ua, ub, uc, ud].take 2) h0 n0) := by
  refine MetFree.of_bodySF (plainFor_of_name pn9) hisR ?_
  intro p e s m args w_ meth c s₁ Bd hml0 hP hK
  obtain ⟨rfl, hZ, hh, H0⟩ := hP
  obtain ⟨hx, hby, hml, hown, hnm, X0, e0, hZ, hS, hk, CH0⟩ := own_opS R_1 Bd hml0 hZ hh H0
  have N0 := Fr.nil n0
  have pf1 : ∀ target, Go p e w_ s₁ m 37 (q_16 ua ub uc ud) [(vL 2), (vL 2)] target → Go p e w_ s₁ m 0 (q_16 ua ub uc ud) [] target := by
    intro target k
    refine zl X0 hx (d2 hby 0 rfl) rfl <| zf X0 hx 1 15 (d2 hby 1 rfl) ((if0 _ _).trans (feq (by decide)).2) <| zl X0 hx (d2 hby 8 rfl) rfl <| zc X0 hx (d2 hby 9 rfl) <| zy X0 hx 17 35 (d2 hby 10 rfl) (feq (by decide)).2 <| zl X0 hx (d2 hby 17 rfl) rfl <| zc X0 hx (d2 hby 18 rfl) ?_
    exact k
  obtain ⟨T2, h2, X2, e2, E2, A2, D2, U2, st2⟩ := newO X0 hx hZ hown (tw hw 12 rfl) (tw hw 13 rfl) (tw hw 14 rfl) e0 (g := (mkF m 40 (q_16 ua ub uc ud) [])) rfl (d2 hby 20 rfl) (by decide) (by decide)
  obtain ⟨b2, g2⟩ : ∃ z, z = h0.size := ⟨_, rfl⟩
  rw [← g2] at A2 D2 U2 st2
  have g_b2 : n0 ≤ b2 := by rw [g2]; exact Nat.le_trans (Nat.le_of_eq O0.1.symm) O0.2.1
  have sz_b2 : h0.size ≤ b2 := by rw [g2]; exact (Keep.refl h0 []).1
  have sf_b2 : Safe Z EL0 s.vm h0 b2 := Safe.new (Nat.le_of_eq g2.symm)
  have O3 := O0.ext E2
  have kp4 : Keep h0 h2 [] := (Keep.refl h0 []).ext E2
  have ch5 := CHr.ext E2 H0
  have sf5_b2 := Safe.ext E2 H0 sf_b2
  have CH5 := CHr.trans CH0 ch5
  have hk := Nat.le_trans hk ch5.2.1
  have F_value_b2 : Fld Z h2 b2 "java/lang/String" "value" "[B" .null := D2 (Or.inr (tw hw 27 rfl)) (ty := (.array .byte)) (by decide)
  have F_coder_b2 : Fld Z h2 b2 "java/lang/String" "coder" "B" (vL 0) := D2 (Or.inr (tw hw 28 rfl)) (ty := .byte) (by decide)
  obtain ⟨T6, h6, k6, X6, e6, E6, A6, Ea6, st6⟩ := newPE X2 hx hZ (tw hw 8 rfl) e2 (g := (mkF m 45 (q_16 ua ub uc ud) [(vL 2), (.ref b2), (.ref b2)])) rfl (d2 hby 23 rfl) rfl (by decide) (cap := 2) (by decide) (by decide) (by decide) (by decide) (ad := "[C") (by decide)
  obtain ⟨b6, g6⟩ : ∃ z, z = h2.size := ⟨_, rfl⟩
  rw [← g6] at A6 Ea6 st6
  have g_b6 : n0 ≤ b6 := by rw [g6]; exact Nat.le_trans (Nat.le_of_eq O3.1.symm) O3.2.1
  have sz_b6 : h0.size ≤ b6 := by rw [g6]; exact kp4.1
  have lt_b2_b6 : b2 < b6 := by rw [g6]; exact A2.lt
  have sf_b6 : Safe Z EL0 s.vm h2 b6 := Safe.new (Nat.le_of_eq g6.symm)
  have O7 := O3.ext E6
  have kp8 := kp4.ext E6
  have ch9 := CHr.ext E6 ch5.1
  have sf9_b2 := Safe.ext E6 ch5.1 sf5_b2
  have sf9_b6 := Safe.ext E6 ch5.1 sf_b6
  have CH9 := CHr.trans CH5 ch9
  have hk := Nat.le_trans hk ch9.2.1
  have V_b6 : Arv Z h6 b6 k6 .char (2 : Int32) ((List.replicate 2 (0 : Int32)).map Value.int) (vL 0) := by rw [List.map_replicate]; exact (Arv.new A6 (by decide)).pad (pad_rep [] (vL 0) 2)
  have hN_b6 : ((2 : Int32)).toNatClampNeg = (List.replicate 2 (0 : Int32)).length := by rw [List.length_replicate]; exact by decide
  have V0_b6 := own_car0 (n := 2) V_b6
  obtain ⟨-, T10, h10, L10, X10, e10, K10, V10, N10, st10⟩ := ((own_f0 X6 hx hZ e6 V0_b6 N0 g_b6 hby ((q_16 ua ub uc ud)) [(.ref b2), (.ref b2)] 47).loc 0 1 rfl).loc 1 2 rfl
  have O11 := O7.keep K10 (allS g_b6 all0)
  have kp12 := kp8.trans K10 (allS (Or.inr sz_b6) all0)
  have ch13 := CHr.keep K10 (sfS sf9_b6 sf0) ch9.1
  have sf13_b2 := Safe.keep K10 (sfS sf9_b6 sf0) ch9.1 sf9_b2
  have sf13_b6 := Safe.keep K10 (sfS sf9_b6 sf0) ch9.1 sf9_b6
  have CH13 := CHr.trans CH9 ch13
  have hk := Nat.le_trans hk ch13.2.1
  have VC := own_ceq (vs := [ua, ub, uc, ud].take 2) V10 (by simp)
  obtain ⟨_, T14, Lc14, X14, hQ14, st14⟩ := own_ic X10 hx hZ (y := Y_4) rfl hown hml (tw hw 15 rfl) (tw hw 16 rfl) (rs_i hw O11 ST b2 b6 k6 ([ua, ub, uc, ud].take 2) ((A2.ext E6).keep K10) ((F_value_b2.ext E6).keep K10 (ninS (Nat.ne_of_lt lt_b2_b6) nin0)) ((F_coder_b2.ext E6).keep K10 (ninS (Nat.ne_of_lt lt_b2_b6) nin0)) g_b2 VC (Nat.ne_of_lt lt_b2_b6) (by simp) (by simp)) (tw hw 17 rfl) (tw hw 14 rfl) e10 (W := 1) (Ls := (q_16 ua ub uc ud)) (b := b2) (argsL := [(.ref b6)]) (rest := [(.ref b2)]) (lenOf pd45 rfl) (d2 hby 24 rfl)
  obtain ⟨h14, e14⟩ : ∃ z, T14.heap = z := ⟨_, rfl⟩
  rw [e14] at hQ14
  obtain ⟨rfl, Nq14, K14, R14⟩ := hQ14
  have N14 := Fr.app N10 Nq14
  have O15 := O11.keep K14 (allS g_b2 all0)
  have kp16 := kp12.trans K14 (allS (Or.inr sz_b2) all0)
  have ch17 := CHr.keep K14 (sfS sf13_b2 sf0) ch13.1
  have sf17_b2 := Safe.keep K14 (sfS sf13_b2 sf0) ch13.1 sf13_b2
  have sf17_b6 := Safe.keep K14 (sfS sf13_b2 sf0) ch13.1 sf13_b6
  have CH17 := CHr.trans CH13 ch17
  have hk := Nat.le_trans hk ch17.2.1
  obtain ⟨bb, kb, -, HX⟩ := R14
  obtain ⟨fs, hr, hrun, hended, hEnd⟩ := (X14.mono (by decide : _ ≤ R_1.cells) (by decide : _ ≤ R_1.slots)).leaveW hS (by rw [e14]; exact hk) (v := some (.ref b2)) (fun h => by rw [Bd.returns] at h; cases h)
  have CE := CHr.trans CH17 (CHv.at X14 hZ (own_EW hw) ch17.1)
  refine ⟨_, _, castTop (ef_rt_0 m (2 : Int32) (cv ua) (cv ub) (cv uc) (cv ud)) ?_, hrun, hended, _, _, rfl, ?_, ?_, hEnd⟩
  · refine pf1 _ <| zn X0 hx (d2 hby 19 rfl) (teq (by decide)).2 <| st2 _ <| XS.dup X2.here hx rfl (d2 hby 21 rfl) rfl rfl <| zc X2 hx (d2 hby 22 rfl) <| st6 _ <| st10 _ ?_
    show Go p e w_ T10 m 55 (q_16 ua ub uc ud) [(.ref b6), (.ref b2), (.ref b2)] _
    refine st14 _ ?_
    show Go p e w_ T14 m 58 (q_16 ua ub uc ud) [(.ref b2)] _
    exact retOut X14 hx Bd.returns rfl (Or.inr (Or.inr (Or.inr (Or.inr ⟨rfl, rfl, rfl⟩)))) (d2 hby 25 rfl) hr
  · show Qt Z ([ua, ub, uc, ud].take 2) h0 n0 _ T14.heap _
    rw [e14]
    exact ⟨b2, bb, kb, rfl, N14, kp16, sz_b2, HX⟩
  · show CHr Z EL0 s.vm s.heap T14.vm T14.heap
    rw [e14, hh]; exact CE
theorem rt_3 (ua ub uc ud : UInt16) :
    Ms (l := l) hw (ws := ws) O0 ST Y_6 method_8_code 5 (some (.object "java/lang/String")) R_1 #[(vL 3), (.int (cv ua)), (.int (cv ub)), (.int (cv uc)), (.int (cv ud))] (Qt Z ([ua, ub, uc, ud].take 3) h0 n0) := by
  refine MetFree.of_bodySF (plainFor_of_name pn9) hisR ?_
  intro p e s m args w_ meth c s₁ Bd hml0 hP hK
  obtain ⟨rfl, hZ, hh, H0⟩ := hP
  obtain ⟨hx, hby, hml, hown, hnm, X0, e0, hZ, hS, hk, CH0⟩ := own_opS R_1 Bd hml0 hZ hh H0
  have N0 := Fr.nil n0
  have pf1 : ∀ target, Go p e w_ s₁ m 37 (q_17 ua ub uc ud) [(vL 2), (vL 3)] target → Go p e w_ s₁ m 0 (q_17 ua ub uc ud) [] target := by
    intro target k
    refine zl X0 hx (d2 hby 0 rfl) rfl <| zf X0 hx 1 15 (d2 hby 1 rfl) ((if0 _ _).trans (feq (by decide)).2) <| zl X0 hx (d2 hby 8 rfl) rfl <| zc X0 hx (d2 hby 9 rfl) <| zy X0 hx 17 35 (d2 hby 10 rfl) (feq (by decide)).2 <| zl X0 hx (d2 hby 17 rfl) rfl <| zc X0 hx (d2 hby 18 rfl) ?_
    exact k
  obtain ⟨T2, h2, X2, e2, E2, A2, D2, U2, st2⟩ := newO X0 hx hZ hown (tw hw 12 rfl) (tw hw 13 rfl) (tw hw 14 rfl) e0 (g := (mkF m 64 (q_17 ua ub uc ud) [])) rfl (d2 hby 29 rfl) (by decide) (by decide)
  obtain ⟨b2, g2⟩ : ∃ z, z = h0.size := ⟨_, rfl⟩
  rw [← g2] at A2 D2 U2 st2
  have g_b2 : n0 ≤ b2 := by rw [g2]; exact Nat.le_trans (Nat.le_of_eq O0.1.symm) O0.2.1
  have sz_b2 : h0.size ≤ b2 := by rw [g2]; exact (Keep.refl h0 []).1
  have sf_b2 : Safe Z EL0 s.vm h0 b2 := Safe.new (Nat.le_of_eq g2.symm)
  have O3 := O0.ext E2
  have kp4 : Keep h0 h2 [] := (Keep.refl h0 []).ext E2
  have ch5 := CHr.ext E2 H0
  have sf5_b2 := Safe.ext E2 H0 sf_b2
  have CH5 := CHr.trans CH0 ch5
  have hk := Nat.le_trans hk ch5.2.1
  have F_value_b2 : Fld Z h2 b2 "java/lang/String" "value" "[B" .null := D2 (Or.inr (tw hw 27 rfl)) (ty := (.array .byte)) (by decide)
  have F_coder_b2 : Fld Z h2 b2 "java/lang/String" "coder" "B" (vL 0) := D2 (Or.inr (tw hw 28 rfl)) (ty := .byte) (by decide)
  obtain ⟨T6, h6, k6, X6, e6, E6, A6, Ea6, st6⟩ := newPE X2 hx hZ (tw hw 8 rfl) e2 (g := (mkF m 69 (q_17 ua ub uc ud) [(vL 3), (.ref b2), (.ref b2)])) rfl (d2 hby 32 rfl) rfl (by decide) (cap := 3) (by decide) (by decide) (by decide) (by decide) (ad := "[C") (by decide)
  obtain ⟨b6, g6⟩ : ∃ z, z = h2.size := ⟨_, rfl⟩
  rw [← g6] at A6 Ea6 st6
  have g_b6 : n0 ≤ b6 := by rw [g6]; exact Nat.le_trans (Nat.le_of_eq O3.1.symm) O3.2.1
  have sz_b6 : h0.size ≤ b6 := by rw [g6]; exact kp4.1
  have lt_b2_b6 : b2 < b6 := by rw [g6]; exact A2.lt
  have sf_b6 : Safe Z EL0 s.vm h2 b6 := Safe.new (Nat.le_of_eq g6.symm)
  have O7 := O3.ext E6
  have kp8 := kp4.ext E6
  have ch9 := CHr.ext E6 ch5.1
  have sf9_b2 := Safe.ext E6 ch5.1 sf5_b2
  have sf9_b6 := Safe.ext E6 ch5.1 sf_b6
  have CH9 := CHr.trans CH5 ch9
  have hk := Nat.le_trans hk ch9.2.1
  have V_b6 : Arv Z h6 b6 k6 .char (3 : Int32) ((List.replicate 3 (0 : Int32)).map Value.int) (vL 0) := by rw [List.map_replicate]; exact (Arv.new A6 (by decide)).pad (pad_rep [] (vL 0) 3)
  have hN_b6 : ((3 : Int32)).toNatClampNeg = (List.replicate 3 (0 : Int32)).length := by rw [List.length_replicate]; exact by decide
  have V0_b6 := own_car0 (n := 3) V_b6
  obtain ⟨-, T10, h10, L10, X10, e10, K10, V10, N10, st10⟩ := (((own_f0 X6 hx hZ e6 V0_b6 N0 g_b6 hby ((q_17 ua ub uc ud)) [(.ref b2), (.ref b2)] 71).loc 0 1 rfl).loc 1 2 rfl).loc 2 3 rfl
  have O11 := O7.keep K10 (allS g_b6 all0)
  have kp12 := kp8.trans K10 (allS (Or.inr sz_b6) all0)
  have ch13 := CHr.keep K10 (sfS sf9_b6 sf0) ch9.1
  have sf13_b2 := Safe.keep K10 (sfS sf9_b6 sf0) ch9.1 sf9_b2
  have sf13_b6 := Safe.keep K10 (sfS sf9_b6 sf0) ch9.1 sf9_b6
  have CH13 := CHr.trans CH9 ch13
  have hk := Nat.le_trans hk ch13.2.1
  have VC := own_ceq (vs := [ua, ub, uc, ud].take 3) V10 (by simp)
  obtain ⟨_, T14, Lc14, X14, hQ14, st14⟩ := own_ic X10 hx hZ (y := Y_4) rfl hown hml (tw hw 15 rfl) (tw hw 16 rfl) (rs_i hw O11 ST b2 b6 k6 ([ua, ub, uc, ud].take 3) ((A2.ext E6).keep K10) ((F_value_b2.ext E6).keep K10 (ninS (Nat.ne_of_lt lt_b2_b6) nin0)) ((F_coder_b2.ext E6).keep K10 (ninS (Nat.ne_of_lt lt_b2_b6) nin0)) g_b2 VC (Nat.ne_of_lt lt_b2_b6) (by simp) (by simp)) (tw hw 17 rfl) (tw hw 14 rfl) e10 (W := 1) (Ls := (q_17 ua ub uc ud)) (b := b2) (argsL := [(.ref b6)]) (rest := [(.ref b2)]) (lenOf pd45 rfl) (d2 hby 33 rfl)
  obtain ⟨h14, e14⟩ : ∃ z, T14.heap = z := ⟨_, rfl⟩
  rw [e14] at hQ14
  obtain ⟨rfl, Nq14, K14, R14⟩ := hQ14
  have N14 := Fr.app N10 Nq14
  have O15 := O11.keep K14 (allS g_b2 all0)
  have kp16 := kp12.trans K14 (allS (Or.inr sz_b2) all0)
  have ch17 := CHr.keep K14 (sfS sf13_b2 sf0) ch13.1
  have sf17_b2 := Safe.keep K14 (sfS sf13_b2 sf0) ch13.1 sf13_b2
  have sf17_b6 := Safe.keep K14 (sfS sf13_b2 sf0) ch13.1 sf13_b6
  have CH17 := CHr.trans CH13 ch17
  have hk := Nat.le_trans hk ch17.2.1
  obtain ⟨bb, kb, -, HX⟩ := R14
  obtain ⟨fs, hr, hrun, hended, hEnd⟩ := (X14.mono (by decide : _ ≤ R_1.cells) (by decide : _ ≤ R_1.slots)).leaveW hS (by rw [e14]; exact hk) (v := some (.ref b2)) (fun h => by rw [Bd.returns] at h; cases h)
  have CE := CHr.trans CH17 (CHv.at X14 hZ (own_EW hw) ch17.1)
  refine ⟨_, _, castTop (ef_rt_0 m (3 : Int32) (cv ua) (cv ub) (cv uc) (cv ud)) ?_, hrun, hended, _, _, rfl, ?_, ?_, hEnd⟩
  · refine pf1 _ <| zy X0 hx 37 59 (d2 hby 19 rfl) (feq (by decide)).2 <| zl X0 hx (d2 hby 26 rfl) rfl <| zc X0 hx (d2 hby 27 rfl) <| zn X0 hx (d2 hby 28 rfl) (teq (by decide)).2 <| st2 _ <| XS.dup X2.here hx rfl (d2 hby 30 rfl) rfl rfl <| zc X2 hx (d2 hby 31 rfl) <| st6 _ <| st10 _ ?_
    show Go p e w_ T10 m 83 (q_17 ua ub uc ud) [(.ref b6), (.ref b2), (.ref b2)] _
    refine st14 _ ?_
    show Go p e w_ T14 m 86 (q_17 ua ub uc ud) [(.ref b2)] _
    exact retOut X14 hx Bd.returns rfl (Or.inr (Or.inr (Or.inr (Or.inr ⟨rfl, rfl, rfl⟩)))) (d2 hby 34 rfl) hr
  · show Qt Z ([ua, ub, uc, ud].take 3) h0 n0 _ T14.heap _
    rw [e14]
    exact ⟨b2, bb, kb, rfl, N14, kp16, sz_b2, HX⟩
  · show CHr Z EL0 s.vm s.heap T14.vm T14.heap
    rw [e14, hh]; exact CE
theorem rt_4 (ua ub uc ud : UInt16) :
    Ms (l := l) hw (ws := ws) O0 ST Y_6 method_8_code 5 (some (.object "java/lang/String")) R_1 #[(vL 4), (.int (cv ua)), (.int (cv ub)), (.int (cv uc)), (.int (cv ud))] (Qt Z ([ua, ub, uc, ud].take 4) h0 n0) := by
  refine MetFree.of_bodySF (plainFor_of_name pn9) hisR ?_
  intro p e s m args w_ meth c s₁ Bd hml0 hP hK
  obtain ⟨rfl, hZ, hh, H0⟩ := hP
  obtain ⟨hx, hby, hml, hown, hnm, X0, e0, hZ, hS, hk, CH0⟩ := own_opS R_1 Bd hml0 hZ hh H0
  have N0 := Fr.nil n0
  have pf1 : ∀ target, Go p e w_ s₁ m 37 (q_49 ua ub uc ud) [(vL 2), (vL 4)] target → Go p e w_ s₁ m 0 (q_49 ua ub uc ud) [] target := by
    intro target k
    refine zl X0 hx (d2 hby 0 rfl) rfl <| zf X0 hx 1 15 (d2 hby 1 rfl) ((if0 _ _).trans (feq (by decide)).2) <| zl X0 hx (d2 hby 8 rfl) rfl <| zc X0 hx (d2 hby 9 rfl) <| zy X0 hx 17 35 (d2 hby 10 rfl) (feq (by decide)).2 <| zl X0 hx (d2 hby 17 rfl) rfl <| zc X0 hx (d2 hby 18 rfl) ?_
    exact k
  obtain ⟨T2, h2, X2, e2, E2, A2, D2, U2, st2⟩ := newO X0 hx hZ hown (tw hw 12 rfl) (tw hw 13 rfl) (tw hw 14 rfl) e0 (g := (mkF m 87 (q_49 ua ub uc ud) [])) rfl (d2 hby 35 rfl) (by decide) (by decide)
  obtain ⟨b2, g2⟩ : ∃ z, z = h0.size := ⟨_, rfl⟩
  rw [← g2] at A2 D2 U2 st2
  have g_b2 : n0 ≤ b2 := by rw [g2]; exact Nat.le_trans (Nat.le_of_eq O0.1.symm) O0.2.1
  have sz_b2 : h0.size ≤ b2 := by rw [g2]; exact (Keep.refl h0 []).1
  have sf_b2 : Safe Z EL0 s.vm h0 b2 := Safe.new (Nat.le_of_eq g2.symm)
  have O3 := O0.ext E2
  have kp4 : Keep h0 h2 [] := (Keep.refl h0 []).ext E2
  have ch5 := CHr.ext E2 H0
  have sf5_b2 := Safe.ext E2 H0 sf_b2
  have CH5 := CHr.trans CH0 ch5
  have hk := Nat.le_trans hk ch5.2.1
  have F_value_b2 : Fld Z h2 b2 "java/lang/String" "value" "[B" .null := D2 (Or.inr (tw hw 27 rfl)) (ty := (.array .byte)) (by decide)
  have F_coder_b2 : Fld Z h2 b2 "java/lang/String" "coder" "B" (vL 0) := D2 (Or.inr (tw hw 28 rfl)) (ty := .byte) (by decide)
  obtain ⟨T6, h6, k6, X6, e6, E6, A6, Ea6, st6⟩ := newPE X2 hx hZ (tw hw 8 rfl) e2 (g := (mkF m 92 (q_49 ua ub uc ud) [(vL 4), (.ref b2), (.ref b2)])) rfl (d2 hby 38 rfl) rfl (by decide) (cap := 4) (by decide) (by decide) (by decide) (by decide) (ad := "[C") (by decide)
  obtain ⟨b6, g6⟩ : ∃ z, z = h2.size := ⟨_, rfl⟩
  rw [← g6] at A6 Ea6 st6
  have g_b6 : n0 ≤ b6 := by rw [g6]; exact Nat.le_trans (Nat.le_of_eq O3.1.symm) O3.2.1
  have sz_b6 : h0.size ≤ b6 := by rw [g6]; exact kp4.1
  have lt_b2_b6 : b2 < b6 := by rw [g6]; exact A2.lt
  have sf_b6 : Safe Z EL0 s.vm h2 b6 := Safe.new (Nat.le_of_eq g6.symm)
  have O7 := O3.ext E6
  have kp8 := kp4.ext E6
  have ch9 := CHr.ext E6 ch5.1
  have sf9_b2 := Safe.ext E6 ch5.1 sf5_b2
  have sf9_b6 := Safe.ext E6 ch5.1 sf_b6
  have CH9 := CHr.trans CH5 ch9
  have hk := Nat.le_trans hk ch9.2.1
  have V_b6 : Arv Z h6 b6 k6 .char (4 : Int32) ((List.replicate 4 (0 : Int32)).map Value.int) (vL 0) := by rw [List.map_replicate]; exact (Arv.new A6 (by decide)).pad (pad_rep [] (vL 0) 4)
  have hN_b6 : ((4 : Int32)).toNatClampNeg = (List.replicate 4 (0 : Int32)).length := by rw [List.length_replicate]; exact by decide
  have V0_b6 := own_car0 (n := 4) V_b6
  obtain ⟨-, T10, h10, L10, X10, e10, K10, V10, N10, st10⟩ := ((((own_f0 X6 hx hZ e6 V0_b6 N0 g_b6 hby ((q_49 ua ub uc ud)) [(.ref b2), (.ref b2)] 94).loc 0 1 rfl).loc 1 2 rfl).loc 2 3 rfl).loc 3 4 rfl
  have O11 := O7.keep K10 (allS g_b6 all0)
  have kp12 := kp8.trans K10 (allS (Or.inr sz_b6) all0)
  have ch13 := CHr.keep K10 (sfS sf9_b6 sf0) ch9.1
  have sf13_b2 := Safe.keep K10 (sfS sf9_b6 sf0) ch9.1 sf9_b2
  have sf13_b6 := Safe.keep K10 (sfS sf9_b6 sf0) ch9.1 sf9_b6
  have CH13 := CHr.trans CH9 ch13
  have hk := Nat.le_trans hk ch13.2.1
  have VC := own_ceq (vs := [ua, ub, uc, ud].take 4) V10 (by simp)
  obtain ⟨_, T14, Lc14, X14, hQ14, st14⟩ := own_ic X10 hx hZ (y := Y_4) rfl hown hml (tw hw 15 rfl) (tw hw 16 rfl) (rs_i hw O11 ST b2 b6 k6 ([ua, ub, uc, ud].take 4) ((A2.ext E6).keep K10) ((F_value_b2.ext E6).keep K10 (ninS (Nat.ne_of_lt lt_b2_b6) nin0)) ((F_coder_b2.ext E6).keep K10 (ninS (Nat.ne_of_lt lt_b2_b6) nin0)) g_b2 VC (Nat.ne_of_lt lt_b2_b6) (by simp) (by simp)) (tw hw 17 rfl) (tw hw 14 rfl) e10 (W := 1) (Ls := (q_49 ua ub uc ud)) (b := b2) (argsL := [(.ref b6)]) (rest := [(.ref b2)]) (lenOf pd45 rfl) (d2 hby 39 rfl)
  obtain ⟨h14, e14⟩ : ∃ z, T14.heap = z := ⟨_, rfl⟩
  rw [e14] at hQ14
  obtain ⟨rfl, Nq14, K14, R14⟩ := hQ14
  have N14 := Fr.app N10 Nq14
  have O15 := O11.keep K14 (allS g_b2 all0)
  have kp16 := kp12.trans K14 (allS (Or.inr sz_b2) all0)
  have ch17 := CHr.keep K14 (sfS sf13_b2 sf0) ch13.1
  have sf17_b2 := Safe.keep K14 (sfS sf13_b2 sf0) ch13.1 sf13_b2
  have sf17_b6 := Safe.keep K14 (sfS sf13_b2 sf0) ch13.1 sf13_b6
  have CH17 := CHr.trans CH13 ch17
  have hk := Nat.le_trans hk ch17.2.1
  obtain ⟨bb, kb, -, HX⟩ := R14
  obtain ⟨fs, hr, hrun, hended, hEnd⟩ := (X14.mono (by decide : _ ≤ R_1.cells) (by decide : _ ≤ R_1.slots)).leaveW hS (by rw [e14]; exact hk) (v := some (.ref b2)) (fun h => by rw [Bd.returns] at h; cases h)
  have CE := CHr.trans CH17 (CHv.at X14 hZ (own_EW hw) ch17.1)
  refine ⟨_, _, castTop (ef_rt_0 m (4 : Int32) (cv ua) (cv ub) (cv uc) (cv ud)) ?_, hrun, hended, _, _, rfl, ?_, ?_, hEnd⟩
  · refine pf1 _ <| zy X0 hx 37 59 (d2 hby 19 rfl) (feq (by decide)).2 <| zl X0 hx (d2 hby 26 rfl) rfl <| zc X0 hx (d2 hby 27 rfl) <| zy X0 hx 61 87 (d2 hby 28 rfl) (feq (by decide)).2 <| st2 _ <| XS.dup X2.here hx rfl (d2 hby 36 rfl) rfl rfl <| zc X2 hx (d2 hby 37 rfl) <| st6 _ <| st10 _ ?_
    show Go p e w_ T10 m 111 (q_49 ua ub uc ud) [(.ref b6), (.ref b2), (.ref b2)] _
    refine st14 _ ?_
    show Go p e w_ T14 m 114 (q_49 ua ub uc ud) [(.ref b2)] _
    exact retOut X14 hx Bd.returns rfl (Or.inr (Or.inr (Or.inr (Or.inr ⟨rfl, rfl, rfl⟩)))) (d2 hby 40 rfl) hr
  · show Qt Z ([ua, ub, uc, ud].take 4) h0 n0 _ T14.heap _
    rw [e14]
    exact ⟨b2, bb, kb, rfl, N14, kp16, sz_b2, HX⟩
  · show CHr Z EL0 s.vm s.heap T14.vm T14.heap
    rw [e14, hh]; exact CE
theorem rt (nn : Nat) (ua ub uc ud : UInt16) (hn : nn ≤ 4) :
    Ms (l := l) hw (ws := ws) O0 ST Y_6 method_8_code 5 (some (.object "java/lang/String")) R_1 #[(vN nn), (.int (cv ua)), (.int (cv ub)), (.int (cv uc)), (.int (cv ud))] (Qt Z ([ua, ub, uc, ud].take nn) h0 n0) := by
  rcases (by omega : nn = 0 ∨ nn = 1 ∨ nn = 2 ∨ nn = 3 ∨ nn = 4) with rfl | rfl | rfl | rfl | rfl
  · exact rt_0 hw O0 ST ua ub uc ud
  · exact rt_1 hw O0 ST ua ub uc ud
  · exact rt_2 hw O0 ST ua ub uc ud
  · exact rt_3 hw O0 ST ua ub uc ud
  · exact rt_4 hw O0 ST ua ub uc ud
theorem d80 : Dl cb81 [(0, .iload_n 0, 1), (1, .ifCond .ne 117, 3), (4, .new 30, 3), (7, .dup, 1), (8, .bipush 18, 2), (10, .newarray .char, 2), (114, .invokespecial 53, 3), (117, .areturn, 1), (118, .iload_n 0, 1), (119, .iconst 1, 1), (120, .if_icmp .ne 122, 3), (123, .new 30, 3), (126, .dup, 1), (127, .bipush 19, 2), (129, .newarray .char, 2), (238, .invokespecial 53, 3), (241, .areturn, 1), (242, .iload_n 0, 1), (243, .iconst 2, 1), (244, .if_icmp .ne 127, 3), (247, .new 30, 3), (250, .dup, 1), (251, .bipush 20, 2), (253, .newarray .char, 2), (367, .invokespecial 53, 3), (370, .areturn, 1), (371, .new 30, 3), (374, .dup, 1), (375, .bipush 21, 2), (377, .newarray .char, 2), (496, .invokespecial 53, 3), (499, .areturn, 1)] := dlk (by decide +kernel)
theorem rx_0 (ua ub uc ud : UInt16) :
    Mt (l := l) hw (ws := ws) O0 ST Y_25 method_9_code 5 (some (.object "java/lang/String")) R_9 #[(vL 0), (.int (cv ua)), (.int (cv ub)), (.int (cv uc)), (.int (cv ud))] (Qt Z (exL [ua, ub, uc] 0 ud) h0 n0) := by
  refine own_met (plainFor_of_name pn9) fun p e s m w_ meth c s₁ hx hby hml hZ hh hown hnm hret hlk X0 e0 => ?_
  have N0 := Fr.nil n0
  obtain ⟨T1, h1, X1, e1, E1, A1, D1, U1, st1⟩ := newO X0 hx hZ hown (tw hw 12 rfl) (tw hw 13 rfl) (tw hw 14 rfl) e0 (g := (mkF m 4 (q_26 ua ub uc ud) [])) rfl (d80 hby 2 rfl) (by decide) (by decide)
  obtain ⟨b1, g1⟩ : ∃ z, z = h0.size := ⟨_, rfl⟩
  rw [← g1] at A1 D1 U1 st1
  have g_b1 : n0 ≤ b1 := by rw [g1]; exact Nat.le_trans (Nat.le_of_eq O0.1.symm) O0.2.1
  have sz_b1 : h0.size ≤ b1 := by rw [g1]; exact (Keep.refl h0 []).1
  have O2 := O0.ext E1
  have kp3 : Keep h0 h1 [] := (Keep.refl h0 []).ext E1
  have F_value_b1 : Fld Z h1 b1 "java/lang/String" "value" "[B" .null := D1 (Or.inr (tw hw 27 rfl)) (ty := (.array .byte)) (by decide)
  have F_coder_b1 : Fld Z h1 b1 "java/lang/String" "coder" "B" (vL 0) := D1 (Or.inr (tw hw 28 rfl)) (ty := .byte) (by decide)
  obtain ⟨T4, h4, k4, X4, e4, E4, A4, Ea4, st4⟩ := newPE X1 hx hZ (tw hw 8 rfl) e1 (g := (mkF m 10 (q_26 ua ub uc ud) [(vL 18), (.ref b1), (.ref b1)])) rfl (d80 hby 5 rfl) rfl (by decide) (cap := 18) (by decide) (by decide) (by decide) (by decide) (ad := "[C") (by decide)
  obtain ⟨b4, g4⟩ : ∃ z, z = h1.size := ⟨_, rfl⟩
  rw [← g4] at A4 Ea4 st4
  have g_b4 : n0 ≤ b4 := by rw [g4]; exact Nat.le_trans (Nat.le_of_eq O2.1.symm) O2.2.1
  have sz_b4 : h0.size ≤ b4 := by rw [g4]; exact kp3.1
  have lt_b1_b4 : b1 < b4 := by rw [g4]; exact A1.lt
  have O5 := O2.ext E4
  have kp6 := kp3.ext E4
  have V_b4 : Arv Z h4 b4 k4 .char (18 : Int32) ((List.replicate 18 (0 : Int32)).map Value.int) (vL 0) := by rw [List.map_replicate]; exact (Arv.new A4 (by decide)).pad (pad_rep [] (vL 0) 18)
  have hN_b4 : ((18 : Int32)).toNatClampNeg = (List.replicate 18 (0 : Int32)).length := by rw [List.length_replicate]; exact by decide
  have V0_b4 := own_car0 (n := 18) V_b4
  obtain ⟨-, T7, h7, L7, X7, e7, K7, V7, N7, st7⟩ := Fil.con TF ((Fil.con TD (own_f0 X4 hx hZ e4 V0_b4 N0 g_b4 hby ((q_26 ua ub uc ud)) [(.ref b1), (.ref b1)] 12) 0 37 (by decide +kernel) (by decide)).loc 5 4 rfl) 6 114 (by decide +kernel) (by decide)
  have O8 := O5.keep K7 (allS g_b4 all0)
  have kp9 := kp6.trans K7 (allS (Or.inr sz_b4) all0)
  have VC := own_ceq (vs := exL [ua, ub, uc] 0 ud) V7 (by simp [setC, exL, TD, TF])
  obtain ⟨_, T10, Lc10, X10, hQ10, st10⟩ := own_ic X7 hx hZ (y := Y_4) rfl hown hml (tw hw 15 rfl) (tw hw 16 rfl) (rs_i hw O8 ST b1 b4 k4 (exL [ua, ub, uc] 0 ud) ((A1.ext E4).keep K7) ((F_value_b1.ext E4).keep K7 (ninS (Nat.ne_of_lt lt_b1_b4) nin0)) ((F_coder_b1.ext E4).keep K7 (ninS (Nat.ne_of_lt lt_b1_b4) nin0)) g_b1 VC (Nat.ne_of_lt lt_b1_b4) (by simp [exL, TD, TF]) (by simp [exL, TD, TF])) (tw hw 17 rfl) (tw hw 14 rfl) e7 (W := 1) (Ls := (q_26 ua ub uc ud)) (b := b1) (argsL := [(.ref b4)]) (rest := [(.ref b1)]) (lenOf pd45 rfl) (d80 hby 6 rfl)
  obtain ⟨h10, e10⟩ : ∃ z, T10.heap = z := ⟨_, rfl⟩
  rw [e10] at hQ10
  obtain ⟨rfl, Nq10, K10, R10⟩ := hQ10
  have N10 := Fr.app N7 Nq10
  have O11 := O8.keep K10 (allS g_b1 all0)
  have kp12 := kp9.trans K10 (allS (Or.inr sz_b1) all0)
  obtain ⟨bb, kb, -, HX⟩ := R10
  refine own_lvA X10 hx hlk hret rfl (d80 hby 7 rfl) (by decide) (by decide) (w := (.ref b1)) rfl (Ls := (q_26 ua ub uc ud)) (rest := []) (fun _ k => castTop (ef_rt_0 m (0 : Int32) (cv ua) (cv ub) (cv uc) (cv ud)) ?_) ?_
  · refine zl X0 hx (d80 hby 0 rfl) rfl <| zg X0 hx (d80 hby 1 rfl) ((if0 _ _).trans (teq (by decide)).2) <| st1 _ <| XS.dup X1.here hx rfl (d80 hby 3 rfl) rfl rfl <| XS.bipush X1.here hx rfl (d80 hby 4 rfl) <| st4 _ <| st7 _ ?_
    show Go p e w_ T7 m 114 (q_26 ua ub uc ud) [(.ref b4), (.ref b1), (.ref b1)] _
    refine st10 _ ?_
    exact k
  · rw [e10]
    exact ⟨b1, bb, kb, rfl, N10, kp12, sz_b1, HX⟩
theorem rx_1 (ua ub uc ud : UInt16) :
    Mt (l := l) hw (ws := ws) O0 ST Y_25 method_9_code 5 (some (.object "java/lang/String")) R_9 #[(vL 1), (.int (cv ua)), (.int (cv ub)), (.int (cv uc)), (.int (cv ud))] (Qt Z (exL [ua, ub, uc] 1 ud) h0 n0) := by
  refine own_met (plainFor_of_name pn9) fun p e s m w_ meth c s₁ hx hby hml hZ hh hown hnm hret hlk X0 e0 => ?_
  have N0 := Fr.nil n0
  obtain ⟨T1, h1, X1, e1, E1, A1, D1, U1, st1⟩ := newO X0 hx hZ hown (tw hw 12 rfl) (tw hw 13 rfl) (tw hw 14 rfl) e0 (g := (mkF m 123 (q_25 ua ub uc ud) [])) rfl (d80 hby 11 rfl) (by decide) (by decide)
  obtain ⟨b1, g1⟩ : ∃ z, z = h0.size := ⟨_, rfl⟩
  rw [← g1] at A1 D1 U1 st1
  have g_b1 : n0 ≤ b1 := by rw [g1]; exact Nat.le_trans (Nat.le_of_eq O0.1.symm) O0.2.1
  have sz_b1 : h0.size ≤ b1 := by rw [g1]; exact (Keep.refl h0 []).1
  have O2 := O0.ext E1
  have kp3 : Keep h0 h1 [] := (Keep.refl h0 []).ext E1
  have F_value_b1 : Fld Z h1 b1 "java/lang/String" "value" "[B" .null := D1 (Or.inr (tw hw 27 rfl)) (ty := (.array .byte)) (by decide)
  have F_coder_b1 : Fld Z h1 b1 "java/lang/String" "coder" "B" (vL 0) := D1 (Or.inr (tw hw 28 rfl)) (ty := .byte) (by decide)
  obtain ⟨T4, h4, k4, X4, e4, E4, A4, Ea4, st4⟩ := newPE X1 hx hZ (tw hw 8 rfl) e1 (g := (mkF m 129 (q_25 ua ub uc ud) [(vL 19), (.ref b1), (.ref b1)])) rfl (d80 hby 14 rfl) rfl (by decide) (cap := 19) (by decide) (by decide) (by decide) (by decide) (ad := "[C") (by decide)
  obtain ⟨b4, g4⟩ : ∃ z, z = h1.size := ⟨_, rfl⟩
  rw [← g4] at A4 Ea4 st4
  have g_b4 : n0 ≤ b4 := by rw [g4]; exact Nat.le_trans (Nat.le_of_eq O2.1.symm) O2.2.1
  have sz_b4 : h0.size ≤ b4 := by rw [g4]; exact kp3.1
  have lt_b1_b4 : b1 < b4 := by rw [g4]; exact A1.lt
  have O5 := O2.ext E4
  have kp6 := kp3.ext E4
  have V_b4 : Arv Z h4 b4 k4 .char (19 : Int32) ((List.replicate 19 (0 : Int32)).map Value.int) (vL 0) := by rw [List.map_replicate]; exact (Arv.new A4 (by decide)).pad (pad_rep [] (vL 0) 19)
  have hN_b4 : ((19 : Int32)).toNatClampNeg = (List.replicate 19 (0 : Int32)).length := by rw [List.length_replicate]; exact by decide
  have V0_b4 := own_car0 (n := 19) V_b4
  obtain ⟨-, T7, h7, L7, X7, e7, K7, V7, N7, st7⟩ := Fil.con TF ((Fil.con TD ((own_f0 X4 hx hZ e4 V0_b4 N0 g_b4 hby ((q_25 ua ub uc ud)) [(.ref b1), (.ref b1)] 131).loc 0 1 rfl) 1 160 (by decide +kernel) (by decide)).loc 6 4 rfl) 7 238 (by decide +kernel) (by decide)
  have O8 := O5.keep K7 (allS g_b4 all0)
  have kp9 := kp6.trans K7 (allS (Or.inr sz_b4) all0)
  have VC := own_ceq (vs := exL [ua, ub, uc] 1 ud) V7 (by simp [setC, exL, TD, TF])
  obtain ⟨_, T10, Lc10, X10, hQ10, st10⟩ := own_ic X7 hx hZ (y := Y_4) rfl hown hml (tw hw 15 rfl) (tw hw 16 rfl) (rs_i hw O8 ST b1 b4 k4 (exL [ua, ub, uc] 1 ud) ((A1.ext E4).keep K7) ((F_value_b1.ext E4).keep K7 (ninS (Nat.ne_of_lt lt_b1_b4) nin0)) ((F_coder_b1.ext E4).keep K7 (ninS (Nat.ne_of_lt lt_b1_b4) nin0)) g_b1 VC (Nat.ne_of_lt lt_b1_b4) (by simp [exL, TD, TF]) (by simp [exL, TD, TF])) (tw hw 17 rfl) (tw hw 14 rfl) e7 (W := 1) (Ls := (q_25 ua ub uc ud)) (b := b1) (argsL := [(.ref b4)]) (rest := [(.ref b1)]) (lenOf pd45 rfl) (d80 hby 15 rfl)
  obtain ⟨h10, e10⟩ : ∃ z, T10.heap = z := ⟨_, rfl⟩
  rw [e10] at hQ10
  obtain ⟨rfl, Nq10, K10, R10⟩ := hQ10
  have N10 := Fr.app N7 Nq10
  have O11 := O8.keep K10 (allS g_b1 all0)
  have kp12 := kp9.trans K10 (allS (Or.inr sz_b1) all0)
  obtain ⟨bb, kb, -, HX⟩ := R10
  refine own_lvA X10 hx hlk hret rfl (d80 hby 16 rfl) (by decide) (by decide) (w := (.ref b1)) rfl (Ls := (q_25 ua ub uc ud)) (rest := []) (fun _ k => castTop (ef_rt_0 m (1 : Int32) (cv ua) (cv ub) (cv uc) (cv ud)) ?_) ?_
  · refine zl X0 hx (d80 hby 0 rfl) rfl <| zf X0 hx 1 118 (d80 hby 1 rfl) ((if0 _ _).trans (feq (by decide)).2) <| zl X0 hx (d80 hby 8 rfl) rfl <| zc X0 hx (d80 hby 9 rfl) <| zn X0 hx (d80 hby 10 rfl) (teq (by decide)).2 <| st1 _ <| XS.dup X1.here hx rfl (d80 hby 12 rfl) rfl rfl <| XS.bipush X1.here hx rfl (d80 hby 13 rfl) <| st4 _ <| st7 _ ?_
    show Go p e w_ T7 m 238 (q_25 ua ub uc ud) [(.ref b4), (.ref b1), (.ref b1)] _
    refine st10 _ ?_
    exact k
  · rw [e10]
    exact ⟨b1, bb, kb, rfl, N10, kp12, sz_b1, HX⟩
theorem rx_2 (ua ub uc ud : UInt16) :
    Mt (l := l) hw (ws := ws) O0 ST Y_25 method_9_code 5 (some (.object "java/lang/String")) R_9 #[(vL 2), (.int (cv ua)), (.int (cv ub)), (.int (cv uc)), (.int (cv ud))] (Qt Z (exL [ua, ub, uc] 2 ud) h0 n0) := by
  refine own_met (plainFor_of_name pn9) fun p e s m w_ meth c s₁ hx hby hml hZ hh hown hnm hret hlk X0 e0 => ?_
  have N0 := Fr.nil n0
  have pf1 : ∀ target, Go p e w_ s₁ m 244 (q_16 ua ub uc ud) [(vL 2), (vL 2)] target → Go p e w_ s₁ m 0 (q_16 ua ub uc ud) [] target := by
    intro target k
    refine zl X0 hx (d80 hby 0 rfl) rfl <| zf X0 hx 1 118 (d80 hby 1 rfl) ((if0 _ _).trans (feq (by decide)).2) <| zl X0 hx (d80 hby 8 rfl) rfl <| zc X0 hx (d80 hby 9 rfl) <| zy X0 hx 120 242 (d80 hby 10 rfl) (feq (by decide)).2 <| zl X0 hx (d80 hby 17 rfl) rfl <| zc X0 hx (d80 hby 18 rfl) ?_
    exact k
  obtain ⟨T2, h2, X2, e2, E2, A2, D2, U2, st2⟩ := newO X0 hx hZ hown (tw hw 12 rfl) (tw hw 13 rfl) (tw hw 14 rfl) e0 (g := (mkF m 247 (q_16 ua ub uc ud) [])) rfl (d80 hby 20 rfl) (by decide) (by decide)
  obtain ⟨b2, g2⟩ : ∃ z, z = h0.size := ⟨_, rfl⟩
  rw [← g2] at A2 D2 U2 st2
  have g_b2 : n0 ≤ b2 := by rw [g2]; exact Nat.le_trans (Nat.le_of_eq O0.1.symm) O0.2.1
  have sz_b2 : h0.size ≤ b2 := by rw [g2]; exact (Keep.refl h0 []).1
  have O3 := O0.ext E2
  have kp4 : Keep h0 h2 [] := (Keep.refl h0 []).ext E2
  have F_value_b2 : Fld Z h2 b2 "java/lang/String" "value" "[B" .null := D2 (Or.inr (tw hw 27 rfl)) (ty := (.array .byte)) (by decide)
  have F_coder_b2 : Fld Z h2 b2 "java/lang/String" "coder" "B" (vL 0) := D2 (Or.inr (tw hw 28 rfl)) (ty := .byte) (by decide)
  obtain ⟨T5, h5, k5, X5, e5, E5, A5, Ea5, st5⟩ := newPE X2 hx hZ (tw hw 8 rfl) e2 (g := (mkF m 253 (q_16 ua ub uc ud) [(vL 20), (.ref b2), (.ref b2)])) rfl (d80 hby 23 rfl) rfl (by decide) (cap := 20) (by decide) (by decide) (by decide) (by decide) (ad := "[C") (by decide)
  obtain ⟨b5, g5⟩ : ∃ z, z = h2.size := ⟨_, rfl⟩
  rw [← g5] at A5 Ea5 st5
  have g_b5 : n0 ≤ b5 := by rw [g5]; exact Nat.le_trans (Nat.le_of_eq O3.1.symm) O3.2.1
  have sz_b5 : h0.size ≤ b5 := by rw [g5]; exact kp4.1
  have lt_b2_b5 : b2 < b5 := by rw [g5]; exact A2.lt
  have O6 := O3.ext E5
  have kp7 := kp4.ext E5
  have V_b5 : Arv Z h5 b5 k5 .char (20 : Int32) ((List.replicate 20 (0 : Int32)).map Value.int) (vL 0) := by rw [List.map_replicate]; exact (Arv.new A5 (by decide)).pad (pad_rep [] (vL 0) 20)
  have hN_b5 : ((20 : Int32)).toNatClampNeg = (List.replicate 20 (0 : Int32)).length := by rw [List.length_replicate]; exact by decide
  have V0_b5 := own_car0 (n := 20) V_b5
  obtain ⟨-, T8, h8, L8, X8, e8, K8, V8, N8, st8⟩ := Fil.con TF ((Fil.con TD (((own_f0 X5 hx hZ e5 V0_b5 N0 g_b5 hby ((q_16 ua ub uc ud)) [(.ref b2), (.ref b2)] 255).loc 0 1 rfl).loc 1 2 rfl) 2 289 (by decide +kernel) (by decide)).loc 7 4 rfl) 8 367 (by decide +kernel) (by decide)
  have O9 := O6.keep K8 (allS g_b5 all0)
  have kp10 := kp7.trans K8 (allS (Or.inr sz_b5) all0)
  have VC := own_ceq (vs := exL [ua, ub, uc] 2 ud) V8 (by simp [setC, exL, TD, TF])
  obtain ⟨_, T11, Lc11, X11, hQ11, st11⟩ := own_ic X8 hx hZ (y := Y_4) rfl hown hml (tw hw 15 rfl) (tw hw 16 rfl) (rs_i hw O9 ST b2 b5 k5 (exL [ua, ub, uc] 2 ud) ((A2.ext E5).keep K8) ((F_value_b2.ext E5).keep K8 (ninS (Nat.ne_of_lt lt_b2_b5) nin0)) ((F_coder_b2.ext E5).keep K8 (ninS (Nat.ne_of_lt lt_b2_b5) nin0)) g_b2 VC (Nat.ne_of_lt lt_b2_b5) (by simp [exL, TD, TF]) (by simp [exL, TD, TF])) (tw hw 17 rfl) (tw hw 14 rfl) e8 (W := 1) (Ls := (q_16 ua ub uc ud)) (b := b2) (argsL := [(.ref b5)]) (rest := [(.ref b2)]) (lenOf pd45 rfl) (d80 hby 24 rfl)
  obtain ⟨h11, e11⟩ : ∃ z, T11.heap = z := ⟨_, rfl⟩
  rw [e11] at hQ11
  obtain ⟨rfl, Nq11, K11, R11⟩ := hQ11
  have N11 := Fr.app N8 Nq11
  have O12 := O9.keep K11 (allS g_b2 all0)
  have kp13 := kp10.trans K11 (allS (Or.inr sz_b2) all0)
  obtain ⟨bb, kb, -, HX⟩ := R11
  refine own_lvA X11 hx hlk hret rfl (d80 hby 25 rfl) (by decide) (by decide) (w := (.ref b2)) rfl (Ls := (q_16 ua ub uc ud)) (rest := []) (fun _ k => castTop (ef_rt_0 m (2 : Int32) (cv ua) (cv ub) (cv uc) (cv ud)) ?_) ?_
  · refine pf1 _ <| zn X0 hx (d80 hby 19 rfl) (teq (by decide)).2 <| st2 _ <| XS.dup X2.here hx rfl (d80 hby 21 rfl) rfl rfl <| XS.bipush X2.here hx rfl (d80 hby 22 rfl) <| st5 _ <| st8 _ ?_
    show Go p e w_ T8 m 367 (q_16 ua ub uc ud) [(.ref b5), (.ref b2), (.ref b2)] _
    refine st11 _ ?_
    exact k
  · rw [e11]
    exact ⟨b2, bb, kb, rfl, N11, kp13, sz_b2, HX⟩
theorem rx_3 (ua ub uc ud : UInt16) :
    Mt (l := l) hw (ws := ws) O0 ST Y_25 method_9_code 5 (some (.object "java/lang/String")) R_9 #[(vL 3), (.int (cv ua)), (.int (cv ub)), (.int (cv uc)), (.int (cv ud))] (Qt Z (exL [ua, ub, uc] 3 ud) h0 n0) := by
  refine own_met (plainFor_of_name pn9) fun p e s m w_ meth c s₁ hx hby hml hZ hh hown hnm hret hlk X0 e0 => ?_
  have N0 := Fr.nil n0
  have pf1 : ∀ target, Go p e w_ s₁ m 244 (q_17 ua ub uc ud) [(vL 2), (vL 3)] target → Go p e w_ s₁ m 0 (q_17 ua ub uc ud) [] target := by
    intro target k
    refine zl X0 hx (d80 hby 0 rfl) rfl <| zf X0 hx 1 118 (d80 hby 1 rfl) ((if0 _ _).trans (feq (by decide)).2) <| zl X0 hx (d80 hby 8 rfl) rfl <| zc X0 hx (d80 hby 9 rfl) <| zy X0 hx 120 242 (d80 hby 10 rfl) (feq (by decide)).2 <| zl X0 hx (d80 hby 17 rfl) rfl <| zc X0 hx (d80 hby 18 rfl) ?_
    exact k
  obtain ⟨T2, h2, X2, e2, E2, A2, D2, U2, st2⟩ := newO X0 hx hZ hown (tw hw 12 rfl) (tw hw 13 rfl) (tw hw 14 rfl) e0 (g := (mkF m 371 (q_17 ua ub uc ud) [])) rfl (d80 hby 26 rfl) (by decide) (by decide)
  obtain ⟨b2, g2⟩ : ∃ z, z = h0.size := ⟨_, rfl⟩
  rw [← g2] at A2 D2 U2 st2
  have g_b2 : n0 ≤ b2 := by rw [g2]; exact Nat.le_trans (Nat.le_of_eq O0.1.symm) O0.2.1
  have sz_b2 : h0.size ≤ b2 := by rw [g2]; exact (Keep.refl h0 []).1
  have O3 := O0.ext E2
  have kp4 : Keep h0 h2 [] := (Keep.refl h0 []).ext E2
  have F_value_b2 : Fld Z h2 b2 "java/lang/String" "value" "[B" .null := D2 (Or.inr (tw hw 27 rfl)) (ty := (.array .byte)) (by decide)
  have F_coder_b2 : Fld Z h2 b2 "java/lang/String" "coder" "B" (vL 0) := D2 (Or.inr (tw hw 28 rfl)) (ty := .byte) (by decide)
  obtain ⟨T5, h5, k5, X5, e5, E5, A5, Ea5, st5⟩ := newPE X2 hx hZ (tw hw 8 rfl) e2 (g := (mkF m 377 (q_17 ua ub uc ud) [(vL 21), (.ref b2), (.ref b2)])) rfl (d80 hby 29 rfl) rfl (by decide) (cap := 21) (by decide) (by decide) (by decide) (by decide) (ad := "[C") (by decide)
  obtain ⟨b5, g5⟩ : ∃ z, z = h2.size := ⟨_, rfl⟩
  rw [← g5] at A5 Ea5 st5
  have g_b5 : n0 ≤ b5 := by rw [g5]; exact Nat.le_trans (Nat.le_of_eq O3.1.symm) O3.2.1
  have sz_b5 : h0.size ≤ b5 := by rw [g5]; exact kp4.1
  have lt_b2_b5 : b2 < b5 := by rw [g5]; exact A2.lt
  have O6 := O3.ext E5
  have kp7 := kp4.ext E5
  have V_b5 : Arv Z h5 b5 k5 .char (21 : Int32) ((List.replicate 21 (0 : Int32)).map Value.int) (vL 0) := by rw [List.map_replicate]; exact (Arv.new A5 (by decide)).pad (pad_rep [] (vL 0) 21)
  have hN_b5 : ((21 : Int32)).toNatClampNeg = (List.replicate 21 (0 : Int32)).length := by rw [List.length_replicate]; exact by decide
  have V0_b5 := own_car0 (n := 21) V_b5
  obtain ⟨-, T8, h8, L8, X8, e8, K8, V8, N8, st8⟩ := Fil.con TF ((Fil.con TD ((((own_f0 X5 hx hZ e5 V0_b5 N0 g_b5 hby ((q_17 ua ub uc ud)) [(.ref b2), (.ref b2)] 379).loc 0 1 rfl).loc 1 2 rfl).loc 2 3 rfl) 3 418 (by decide +kernel) (by decide)).loc 8 4 rfl) 9 496 (by decide +kernel) (by decide)
  have O9 := O6.keep K8 (allS g_b5 all0)
  have kp10 := kp7.trans K8 (allS (Or.inr sz_b5) all0)
  have VC := own_ceq (vs := exL [ua, ub, uc] 3 ud) V8 (by simp [setC, exL, TD, TF])
  obtain ⟨_, T11, Lc11, X11, hQ11, st11⟩ := own_ic X8 hx hZ (y := Y_4) rfl hown hml (tw hw 15 rfl) (tw hw 16 rfl) (rs_i hw O9 ST b2 b5 k5 (exL [ua, ub, uc] 3 ud) ((A2.ext E5).keep K8) ((F_value_b2.ext E5).keep K8 (ninS (Nat.ne_of_lt lt_b2_b5) nin0)) ((F_coder_b2.ext E5).keep K8 (ninS (Nat.ne_of_lt lt_b2_b5) nin0)) g_b2 VC (Nat.ne_of_lt lt_b2_b5) (by simp [exL, TD, TF]) (by simp [exL, TD, TF])) (tw hw 17 rfl) (tw hw 14 rfl) e8 (W := 1) (Ls := (q_17 ua ub uc ud)) (b := b2) (argsL := [(.ref b5)]) (rest := [(.ref b2)]) (lenOf pd45 rfl) (d80 hby 30 rfl)
  obtain ⟨h11, e11⟩ : ∃ z, T11.heap = z := ⟨_, rfl⟩
  rw [e11] at hQ11
  obtain ⟨rfl, Nq11, K11, R11⟩ := hQ11
  have N11 := Fr.app N8 Nq11
  have O12 := O9.keep K11 (allS g_b2 all0)
  have kp13 := kp10.trans K11 (allS (Or.inr sz_b2) all0)
  obtain ⟨bb, kb, -, HX⟩ := R11
  refine own_lvA X11 hx hlk hret rfl (d80 hby 31 rfl) (by decide) (by decide) (w := (.ref b2)) rfl (Ls := (q_17 ua ub uc ud)) (rest := []) (fun _ k => castTop (ef_rt_0 m (3 : Int32) (cv ua) (cv ub) (cv uc) (cv ud)) ?_) ?_
  · refine pf1 _ <| zy X0 hx 244 371 (d80 hby 19 rfl) (feq (by decide)).2 <| st2 _ <| XS.dup X2.here hx rfl (d80 hby 27 rfl) rfl rfl <| XS.bipush X2.here hx rfl (d80 hby 28 rfl) <| st5 _ <| st8 _ ?_
    show Go p e w_ T8 m 496 (q_17 ua ub uc ud) [(.ref b5), (.ref b2), (.ref b2)] _
    refine st11 _ ?_
    exact k
  · rw [e11]
    exact ⟨b2, bb, kb, rfl, N11, kp13, sz_b2, HX⟩
theorem rx (nn : Nat) (ua ub uc ud : UInt16) (hn : nn ≤ 3) :
    Mt (l := l) hw (ws := ws) O0 ST Y_25 method_9_code 5 (some (.object "java/lang/String")) R_9 #[(vN nn), (.int (cv ua)), (.int (cv ub)), (.int (cv uc)), (.int (cv ud))] (Qt Z (exL [ua, ub, uc] nn ud) h0 n0) := by
  rcases (by omega : nn = 0 ∨ nn = 1 ∨ nn = 2 ∨ nn = 3) with rfl | rfl | rfl | rfl
  · exact rx_0 hw O0 ST ua ub uc ud
  · exact rx_1 hw O0 ST ua ub uc ud
  · exact rx_2 hw O0 ST ua ub uc ud
  · exact rx_3 hw O0 ST ua ub uc ud
section OwnWide
open Jvm.Free.SB Jvm.Free.SBG
theorem own_sb0 : (stringBytes #[]).size = 0 := by decide +kernel
/-- what a String of no signs, booked for a constant, holds -/
theorem own_sl0 {Z : State} {vm : Vm} {h : Heap} {a : Addr} (hal : Z.vm.Alike vm) (F : SlOf (Wst Z vm h) a #[]) : ∃ b k, Str0 Z h a b k [] := by
  obtain ⟨q, cS, rfl, ⟨⟨s1, s2, s3, ⟨cv1, kv, iv, s4, t4⟩, ⟨cc, kc, ic, s5, t5⟩, s6, s7, s8, s9, s10, ⟨hst, k9, hk9, comp, hkd⟩, s12, -⟩, hfS, hcS⟩, ⟨kS, k1, k2, k3⟩, hB, hby⟩ := F
  have z0 : q.SA.slots.size = 0 := by rw [hby]; decide +kernel
  obtain ⟨kv', z4⟩ := ff_back (U := Wst Z vm h) hal s4
  obtain ⟨kc', z5⟩ := ff_back (U := Wst Z vm h) hal s5
  have hfS : vm.findClass "java/lang/String" = some cS := hfS
  have hB : vm.findClass "[B" = some q.SA.cls := hB
  rw [hal.findClass] at hfS hB
  obtain ⟨kz, hkz, -⟩ := Vm.findClass_spec hfS
  obtain ⟨kz', hkz', ekz⟩ := hal.2.2 _ _ hkz
  obtain ⟨kb, hkb, -⟩ := Vm.findClass_spec hB
  obtain ⟨kb', hkb', ekb⟩ := hal.2.2 _ _ hkb
  cases (show vm.classes[cS]? = some kS from k1).symm.trans hkz'
  cases (show vm.classes[q.SA.cls]? = some k9 from hk9).symm.trans hkb'
  refine ⟨q.sd, q.SA.cls, ⟨q.sC, kz, s1, by rw [hcS]; exact hfS, by rw [hcS]; exact hkz, s3, fun _ => by rw [k3, ekz]⟩, ⟨q.sC, cc, kc', ic, q.fSC, s1, z5, s7, s2, s3, by rw [← hal.assignable]; exact t5, s9⟩, ⟨q.sC, cv1, kv', iv, q.fSV, s1, z4, s6, s2, s3, by rw [← hal.assignable]; exact t4, s8⟩, ⟨⟨q.SA, ⟨s10, ⟨hst, kb, hkb, comp, by rw [ekb] at hkd; exact hkd⟩, s12⟩, rfl, by rw [z0]; rfl, by decide, fun j hj => by omega, fun j hj => by omega⟩, rfl⟩, fun _ hu => nomatch hu⟩
theorem own_e0 {units : Array UInt16} (h : utf16ToString? units = some "") : units = #[] := by
  have q := Jvm.ClassFile.units_of_text h (fun c hc => nomatch hc)
  obtain ⟨L⟩ := units
  have q : L = [] := q
  rw [q]
variable {p : Program} {l : Launch} {e : Env} {R : Room} {s : State} {m : MethodId} {args : Array Value} {w_ : List Frame} {meth : Method} {c : Code} {T : State} {locs : List Loc} {cells slots : Nat} {Z : State} {a0 : Array Value} {EL : List (String × Nat)} {h : Heap} {vm0 : Vm} {own : String} {index : Nat}
/-- the wide load of the constant "": by the wide instruction's own three facts -/
theorem own_ldcW (X : Stand p l e R (s.setVm vm0) m args w_ meth c T locs cells slots) (hx : p.tables.exec = Jvm.exec) (hZ : Z.Warmed39 vm0) (hown : vm0.findClass own = some m.cls) (w : (Cond.stringLink own index "").before a0 Z = true) (wS : ∀ a ∈ Bundle.stringAtoms, a.before a0 Z = true)
    (eT : T.heap = h) {k0 : Nat} (hS : s.Since vm0 k0) (hk : k0 ≤ h.size) (hEL : EW Z a0 EL) (hmem : (own, index) ∈ EL) (H : CHv Z EL vm0 h) {g : JFrame} (hg : g.method = m) (hd : decode c.code g.pc = .ok (.ldc_w index, 3)) (hc : cells + 2 ≤ R.cells) (hl : slots + 4 ≤ R.slots) :
    ∃ (a : Addr) (T' : State) (h' : Heap) (k1 : Nat), Stand p l e R (s.setVm T'.vm) m args w_ meth c T' locs (cells + 2) (slots + 4) ∧ T'.heap = h' ∧ Ext h h' ∧ s.Since T'.vm k1 ∧ k1 ≤ h'.size ∧ Z.Warmed39 (s.setVm T'.vm).vm ∧ (s.setVm T'.vm).vm.findClass own = some m.cls ∧ (∃ b k, Str0 Z h' a b k []) ∧ CHr Z EL vm0 h T'.vm h' ∧
      ∀ target, Steps p.tables e w_ (T'.setTop { g with pc := g.pc + 3, stack := .ref a :: g.stack }) target → Steps p.tables e w_ (T.setTop g) target := by
  subst hg eT
  have hZT : Z.Warmed39 T.vm := wtrans (s := s.setVm vm0) hZ X.warmed
  have fT : T.vm.findClass own = some g.method.cls := by rw [X.warmed.alike.findClass]; exact hown
  obtain ⟨k', cf, i, units, hk', hcf, hp, hu, hnm, hdec, hres⟩ := Cond.stringLink_spec (s := T) fT (show (Cond.stringLink own index "").before a0 (T.setVm T.vm) = true from mvS hZT w)
  have r2 : k'.cf.bind (namesOf? ·.constantPool index) = some (.string "") := by rw [hcf]; exact hnm
  have r3 : k'.cf.bind (·.constantPool[index]?) = some (.string i) := by rw [hcf]; exact hp
  have r4 : k'.cf.bind (·.constantPool.utf8? i) = some units := by rw [hcf]; simp [ConstantPool.utf8?, hu]
  have A := CHv.at X hZ hEL H
  -- whatever the step leaves: what is owed follows from the tables' tale
  suffices G : ∃ (a : Addr) (T' : State), Stand p l e R (s.setVm T'.vm) g.method args w_ meth c T' locs (cells + 2) (slots + 4) ∧ T.Warmed39 T'.vm ∧ (∀ x, x < T.heap.size → T'.heap[x]? = T.heap[x]?) ∧ T.Interned1 T' ∧
      (T'.vm.interned = T.vm.interned ∨ ∃ (us : Array UInt16) (b : Addr), T'.vm.interned = T.vm.interned.push (us, b) ∧ T.vm.interned.find? (fun p => p.1 == us) = none ∧ (us.all (· < 256) = true → ∃ q : SQ, q.sa = b ∧ SlB (Wst Z T'.vm T'.heap) q us ∧ T.heap.size ≤ q.sa ∧ T.heap.size ≤ q.sd)) ∧
      (∃ k₂, T'.vm.classes[g.method.cls]? = some k₂ ∧ k₂.resolved[index]? = some (some (.string a))) ∧ ∀ target, Steps p.tables e w_ (T'.setTop { g with pc := g.pc + 3, stack := .ref a :: g.stack }) target → Steps p.tables e w_ (T.setTop g) target by
    obtain ⟨a, T', X', hTW, hb, hI, hint, ⟨k₂, q1, q2⟩, st⟩ := G
    have E := ext_of hb
    have hal : T.vm.Alike T'.vm := hTW.alike
    have hW : Z.Warmed39 T'.vm := State.Warmed39.trans (t := T) hZT hTW
    have B := CHv.later (vm := T.vm) (vm1 := T'.vm) hZT (show (Wst Z T.vm T.heap).Warmed39 T'.vm from hTW) hEL E hint A.1
    have hf : T'.vm.findClass own = some g.method.cls := by rw [hal.findClass]; exact fT
    obtain ⟨k₃, q3, q4⟩ := hal.2.2 _ _ hk'
    cases q1.symm.trans q3
    have bk : Booksv T'.vm own index units a := ⟨_, k₂, cf, i, hf, q1, by rw [q4]; exact hcf, hp, hu, Or.inl q2⟩
    have C := B.1 _ hmem units a bk
    rw [own_e0 hdec] at C
    have hSS : (s.setVm vm0).Since T'.vm T'.heap.size := ⟨State.Warmed39.trans (t := T) X.warmed.wide hTW, State.Booked.step (X.warmed.no_new_pair _) X.same.2.1 hI⟩
    exact ⟨a, T', _, _, X', rfl, E, hS.trans hSS (Nat.le_trans hk E.1), Nat.le_refl _, hW, hf, own_sl0 hW.alike C, A.trans ⟨B.1, E.1, B.2⟩, st⟩
  rcases hres with ho | ⟨a, hr⟩
  · cases hf : T.vm.interned.find? (fun p => p.1 == units) with
    | some pr =>
      obtain ⟨u', a⟩ := pr
      obtain rfl : u' = units := by simpa using Array.find?_some hf
      have hTW : T.Warmed39 (T.vm.noted g.method.cls index (.string a)) := (State.Warmed39.refl T).notedString hk' (Or.inl ho) r2 r3 r4 hf
      refine ⟨a, T.setVm (T.vm.noted g.method.cls index (.string a)), (X.mono (by omega) (by omega)).retabled (State.Warmed39.trans (t := T) X.warmed.wide hTW), hTW, fun _ _ => rfl, ⟨Nat.le_refl _, Or.inl rfl⟩, Or.inl rfl, ⟨_, Vm.classes_note_self index (.string a) hk', Class.resolved_note_self (.string a) ho⟩, fun target k => ?_⟩
      jvm_step X.here [hx, hd, ldc_w.wp_string_found (e := e) (s := T) (f := g) X.here.top hk' hcf hp hu ho hf]
      exact k
    | none =>
      have hWT : ∀ a ∈ Bundle.stringAtoms, a.before a0 T = true := fun d hd => by
        have q := wS d hd
        simp only [Bundle.stringAtoms, List.mem_cons, List.not_mem_nil, or_false] at hd
        rcases hd with rfl | rfl | rfl | rfl | rfl | rfl | rfl
        · exact mv hZT q
        · exact mv hZT q
        · exact mvA hZT q
        · exact mv hZT q
        · exact mv hZT q
        · exact mv hZT q
        · exact mv hZT q
      obtain ⟨Y, LY, hn4, fv, fc⟩ := StringT.of_atoms hWT
      obtain rfl := own_e0 hdec
      have hpush : ({ T.vm with interned := T.vm.interned.push (#[], T.heap.size + 1) } : Vm).interned.find? (fun p => p.1 == #[]) = some (#[], T.heap.size + 1) := by
        show (T.vm.interned.push (#[], T.heap.size + 1)).find? _ = _
        rw [Array.find?_push, hf]; simp
      obtain ⟨V, eV⟩ : ∃ V : Vm, V = ({ T.vm with interned := T.vm.interned.push (#[], T.heap.size + 1) } : Vm).noted g.method.cls index (.string (T.heap.size + 1)) := ⟨_, rfl⟩
      have hTW : T.Warmed39 V := by rw [eV]; exact ((State.Warmed39.refl T).interns #[] (T.heap.size + 1)).notedString hk' (Or.inl ho) r2 r3 r4 hpush
      obtain ⟨U, eU⟩ : ∃ U : State, U = (T.pushCell (bytesOf Y.cB #[])).pushCell (stringAt Y.cS Y.kS Y.fv Y.fc #[] T.heap.size) := ⟨_, rfl⟩
      have hU : U.heap = (T.heap.push (bytesOf Y.cB #[])).push (stringAt Y.cS Y.kS Y.fv Y.fc #[] T.heap.size) := by rw [eU]; rfl
      have hsz : U.heap.size = T.heap.size + 2 := by rw [hU]; simp
      have b1 : (bytesOf Y.cB #[]).slots.size = 0 := by rw [(Cell.writeAll_facts _ _).2.2]; simp [bytes0, own_sb0]
      have b2 : (stringAt Y.cS Y.kS Y.fv Y.fc #[] T.heap.size).slots.size = 4 := by simp [string0, Cell.setSlot, hn4]
      have X2 := (X.pushed (bytesOf Y.cB #[])).pushed (stringAt Y.cS Y.kS Y.fv Y.fc #[] T.heap.size)
      rw [← eU, b1, b2] at X2
      have hcb : (U.setVm V).heap[T.heap.size]? = some (bytesOf Y.cB #[]) := by show U.heap[T.heap.size]? = _; rw [hU, Array.getElem?_push, if_neg (by simp), Array.getElem?_push, if_pos rfl]
      have hcs : (U.setVm V).heap[T.heap.size + 1]? = some (stringAt Y.cS Y.kS Y.fv Y.fc #[] T.heap.size) := by show U.heap[T.heap.size + 1]? = _; rw [hU, Array.getElem?_push, if_pos (by simp)]
      refine ⟨T.heap.size + 1, U.setVm V, (X2.mono (Nat.le_refl _) (by omega)).retabled (State.Warmed39.trans (t := T) X.warmed.wide hTW), hTW, fun x q => ?_, ⟨by show T.heap.size ≤ U.heap.size; omega, Or.inr ⟨#[], T.heap.size + 1, by rw [eV]; rfl, by omega, by show T.heap.size + 1 < U.heap.size; omega⟩⟩,
        Or.inr ⟨#[], T.heap.size + 1, by rw [eV]; rfl, hf, fun hla => ?_⟩, ⟨_, by rw [eV]; exact Vm.classes_note_self (vm := { T.vm with interned := T.vm.interned.push (#[], T.heap.size + 1) }) index (.string (T.heap.size + 1)) hk', Class.resolved_note_self (.string (T.heap.size + 1)) ho⟩, fun target k => ?_⟩
      · show U.heap[x]? = _
        rw [hU, Array.getElem?_push, if_neg (by simp; omega), Array.getElem?_push, if_neg (by omega)]
      · obtain ⟨q, cS, e1, e2, e3, e4, e5, e6⟩ := made_sl hWT LY hn4 rfl hTW.alike hcb hcs hla (by rw [own_sb0]; decide) 0
        have F : SlB (U.setVm V) q #[] := ⟨cS, e2, e3, e4, e5⟩
        refine ⟨q, e1, F.carry (V := Wst Z V U.heap) (Vm.Alike.refl _) F.ha F.hd, ?_⟩
        rcases e6 with ⟨z, -⟩ | z
        · exact absurd z (Nat.not_lt_zero _)
        · exact z
      · rw [eV, eU, ← withString_eq] at k
        refine Steps.instr (c := _) (by simpa using X.here) ?_
        simp [jvm, wpRun, exec, X.here.top, hx, hd]
        refine ldc_w.wp_string_new (e := e) (s := T) (f := g) X.here.top hk' hcf hp hu ho hf LY.found LY.cls LY.initialized LY.ordinary LY.foundB LY.clsB LY.kindB LY.value LY.coder ?_ ?_ (X.cellsAbove hc) ?_ (stringBytes_fit LY.clsB LY.kindB #[]) LY.valueSlot LY.coderSlot (fv _) (fc _) (fun d' acts' => ?_)
        · rw [own_sb0]; exact Nat.not_lt_zero _
        · rw [own_sb0, Nat.zero_mul]; exact Nat.not_lt_zero _
        · have := X.slotsAbove hl
          rw [own_sb0, hn4]; omega
        · intro acts''
          have hs' : (withString T Y.cB Y.cS Y.kS Y.fv Y.fc #[]).topJava?.isSome := by simpa [withString] using X.here.top
          simp [jvm, afterInstr, hs']
          rw [State.modifyTopJava_setTop]
          exact k
  · refine ⟨a, T, (X.mono (by omega) (by omega)).retabled X.warmed.wide, State.Warmed39.refl T, fun _ _ => rfl, ⟨Nat.le_refl _, Or.inl rfl⟩, Or.inl rfl, ⟨k', hk', hr⟩, fun target k => ?_⟩
    jvm_step X.here [hx, hd, ldc_w.wp_string (e := e) (s := T) (f := g) X.here.top hk' hcf hp hr]
    exact k
end OwnWide
theorem own_EN {Z : State} {a0 : Array Value} (hw : Hw a0 Z) : ∀ p ∈ EL0, ∃ text : String, (Cond.stringLink p.1 p.2 text).before a0 Z = true ∧ (∀ c ∈ text.toList, c.toNat < 256) ∧ text.toList.length ≤ 12 := by
  unfold EL0 consts_1
  intro p hp
  simp only [List.mem_cons, List.not_mem_nil, or_false] at hp
  rcases hp with rfl | rfl | rfl | rfl | rfl
  · exact ⟨_, (tw hw 277 rfl), by decide, by decide⟩
  · exact ⟨_, (tw hw 320 rfl), by decide, by decide⟩
  · exact ⟨_, (tw hw 25 rfl), by decide, by decide⟩
  · exact ⟨_, (tw hw 401 rfl), by decide, by decide⟩
  · exact ⟨_, (tw hw 385 rfl), by decide, by decide⟩
open Jvm.Free.SB Jvm.Free.SBG in
theorem own_safeB {Z : State} {a0 : Array Value} {vm : Vm} {h : Heap} {x : Addr} {k : ClassId} {LB : Nat} {vs : List Int32} (hw : Hw a0 Z) (hZ : Z.Warmed39 vm) (E : Exa Z h x "[B") (H : Bar Z h x k LB vs) (hL : 13 ≤ LB) (hL2 : LB < 1000) : Safe Z EL0 vm h x := fun B => by
  obtain ⟨p, hp, u, a, hb, q, -, G, rfl | rfl⟩ := B
  · obtain ⟨cell, k, e1, e2, e3, -, -⟩ := E
    cases (show h[q.sa]? = some q.sC from G.ha).symm.trans e1
    obtain ⟨cS, ⟨-, f, e⟩, -⟩ := G
    subst e
    have f : vm.findClass "java/lang/String" = some q.sC.cls := f
    rw [hZ.alike.findClass] at f
    obtain ⟨k1, q1, q2⟩ := Vm.findClass_spec f
    obtain ⟨k2, q3, q4⟩ := Vm.findClass_spec e2
    cases q1.symm.trans q3
    exact absurd (q2.symm.trans q4) (by decide)
  · obtain ⟨text, w, h1, h2⟩ := own_EN hw p hp
    obtain ⟨c, k', cf, i, b1, b2, b3, b4, b5, -⟩ := hb
    obtain ⟨k2, cf2, i2, units, s1, s2, s3, s4, -, hdec, -⟩ := Cond.stringLink_spec (s := Z.setVm vm) b1 (show (Cond.stringLink p.1 p.2 text).before a0 (Z.setVm vm) = true from mvS hZ w)
    cases (show vm.classes[c]? = some k' from b2).symm.trans s1
    cases b3.symm.trans s2
    cases b4.symm.trans s3
    cases b5.symm.trans s4
    have hu := Jvm.ClassFile.units_of_text hdec h1
    have hsz : u.size = text.toList.length := by rw [← Array.length_toList, hu, List.length_map]
    have ha : u.all (· < 256) = true := by
      rw [← Array.all_toList, hu, List.all_eq_true]
      intro x hx
      obtain ⟨c, hc, rfl⟩ := List.mem_map.mp hx
      have := h1 c hc
      rw [decide_eq_true_eq, UInt16.lt_iff_toNat_lt]
      show (UInt16.ofNat c.toNat).toNat < 256
      rw [UInt16.toNat_ofNat']; omega
    obtain ⟨⟨cl, Ar, -, Sz, -⟩, -⟩ := H
    cases (show h[q.sd]? = some q.SA from G.hd).symm.trans Ar.1
    obtain ⟨cS, -, -, -, hs⟩ := G
    rw [hs, own_n (by omega), stringBytes, if_pos ha, Array.size_map, hsz] at Sz
    omega
theorem own_oro {x y b : Addr} {m n : Nat} (h : x = y ∨ m ≤ x) (g : y = b ∨ n ≤ y) (q : n ≤ m) : x = b ∨ n ≤ x := h.elim (fun e => e ▸ g) (fun e => Or.inr (Nat.le_trans q e))
theorem Sbj.ext {Z : State} {h h' : Heap} {a b : Addr} {k : ClassId} {LB M : Nat} {cs : List UInt16} (F : Sbj Z h a b k LB M cs) (E : Ext h h') : Sbj Z h' a b k LB M cs :=
  F.imp (fun ⟨⟨q1, q2, q3, q4, q5, q6, q7, q8, tl, q9⟩, r⟩ => ⟨⟨q1.ext E, q2.ext E, q3.ext E, q4.ext E, q5.ext E, q6.ext E, q7, q8, tl, q9.1.ext E, q9.2⟩, r⟩) (fun ⟨⟨q1, q2, q3, q4, q5, q6, q8, tl, q9⟩, r⟩ => ⟨⟨q1.ext E, q2.ext E, q3.ext E, q4.ext E, q5.ext E, q6.ext E, q8, tl, q9.1.ext E, q9.2⟩, r⟩)
theorem Sbj.ea {Z : State} {h : Heap} {a b : Addr} {k : ClassId} {LB M : Nat} {cs : List UInt16} (F : Sbj Z h a b k LB M cs) : Exa Z h a "java/lang/StringBuilder" := F.elim (fun q => q.1.1) (fun q => q.1.1)
theorem Sbj.eb {Z : State} {h : Heap} {a b : Addr} {k : ClassId} {LB M : Nat} {cs : List UInt16} (F : Sbj Z h a b k LB M cs) : Exa Z h b "[B" := F.elim (fun q => q.1.2.2.2.2.2.1) (fun q => q.1.2.2.2.2.2.1)
theorem Sbj.safe {Z : State} {a0 : Array Value} {vm : Vm} {h : Heap} {a b : Addr} {k : ClassId} {LB M : Nat} {cs : List UInt16} (F : Sbj Z h a b k LB M cs) (hw : Hw a0 Z) (hZ : Z.Warmed39 vm) (hM : 16 ≤ M) : Safe Z EL0 vm h b := by
  rcases F with ⟨⟨-, -, -, -, -, q6, -, q8, tl, q9⟩, r⟩ | ⟨⟨-, -, -, -, -, q6, q8, tl, q9⟩, -, r⟩
  · exact own_safeB hw hZ q6 q9 (by omega) (by omega)
  · exact own_safeB hw hZ q6 q9 (by omega) (by omega)
def Qh (Z : State) (cs : List UInt16) (h0 : Heap) (n0 : Nat) (v : Option Value) (h : Heap) (Lc : List Loc) : Prop := ∃ (a b : Addr) (k : ClassId), v = some (.ref a) ∧ Fr n0 Lc ∧ Keep h0 h [] ∧ Strx Z h a b k cs
theorem own_opge (cs : List UInt16) : ∀ k x, x ≤ opS cs k x
  | 0, _ => Nat.le_refl _
  | k + 1, x => Nat.le_trans (by omega) (own_opge cs k (x + 1 + prd cs cs.length x))
theorem own_op1 (cs : List UInt16) {k : Nat} (h : 1 ≤ k) : 1 ≤ opS cs k 0 := by
  cases k with
  | zero => omega
  | succ k => exact Nat.le_trans (by omega) (own_opge cs k _)
theorem rl_n0 (a1 : Addr) :
    Ms (l := l) hw (ws := ws) O0 ST Y_32 jdk_43_method_47_code 3 (some (.object "java/lang/String")) R_6 #[(.ref a1), (vL 0), (vL 0)] (Qh Z [] h0 n0) := by
  refine MetFree.of_bodySF (plainFor_of_name pn3) hisR ?_
  intro p e s m args w_ meth c s₁ Bd hml0 hP hK
  obtain ⟨rfl, hZ, hh, H0⟩ := hP
  obtain ⟨hx, hby, hml, hown, hnm, X0, e0, hZ, hS, hk, CH0⟩ := own_opS R_6 Bd hml0 hZ hh H0
  have N0 := Fr.nil n0
  have pf1 : ∀ target, Go p e w_ s₁ m 4 (q_105 a1) [] target → Go p e w_ s₁ m 0 (q_105 a1) [] target := by
    intro target k
    refine zl X0 hx (d86 hby 0 rfl) rfl <| zg X0 hx (d86 hby 1 rfl) ((if0 _ _).trans (teq (by decide)).2) ?_
    exact k
  obtain ⟨la2, T2, h2, k1_2, lc2, kc2, X2, e2, E2, hS, hk, hZ, hown, Ea2, Fc2, Fv2, Va2, lt_la2, lt_lc2, cs2, Li2, ne2, st2⟩ := ldcCH X0 hx hZ hown (tw hw 401 rfl) (own_wS hw) e0 hS hk (own_EW hw) (by decide) H0 (vs := ((TE.map cLo).map Value.int)) (z := Int32.ofNat TE.length) (by decide +kernel) (by decide) (by decide) (g := (mkF m 4 (q_105 a1) [])) rfl (d86 hby 13 rfl) (n := 0) (by decide) (by decide) (by decide) (by decide)
  have O3 := O0.ext E2
  have kp4 : Keep h0 h2 [] := (Keep.refl h0 []).ext E2
  have ch5 := cs2
  have CH5 := CHr.trans CH0 ch5
  obtain ⟨fs, hr, hrun, hended, hEnd⟩ := (X2.mono (by decide : _ ≤ R_6.cells) (by decide : _ ≤ R_6.slots)).leaveW hS (by rw [e2]; exact hk) (v := some (.ref la2)) (fun h => by rw [Bd.returns] at h; cases h)
  have CE := CHr.trans CH5 (CHv.at X2 hZ (own_EW hw) ch5.1)
  refine ⟨_, _, castTop (ef_ru_put m a1 (0 : Int32) (0 : Int32)) ?_, hrun, hended, _, _, rfl, ?_, ?_, hEnd⟩
  · refine pf1 _ <| st2 _ ?_
    show Go p e w_ T2 m 6 (q_105 a1) [(.ref la2)] _
    exact retOut X2 hx Bd.returns rfl (Or.inr (Or.inr (Or.inr (Or.inr ⟨rfl, rfl, rfl⟩)))) (d86 hby 14 rfl) hr
  · show Qh Z [] h0 n0 _ T2.heap _
    rw [e2]
    exact ⟨la2, lc2, _, rfl, N0, kp4, Or.inl ⟨Ea2, Fc2, Fv2, ⟨Va2, rfl⟩, fun _ q => nomatch q⟩⟩
  · show CHr Z EL0 s.vm s.heap T2.vm T2.heap
    rw [e2, hh]; exact CE
theorem ru_n0 (a1 : Addr) :
    Ms (l := l) hw (ws := ws) O0 ST Y_16 jdk_52_method_69_code 5 (some (.object "java/lang/String")) R_6 #[(.ref a1), (vL 0), (vL 0)] (Qh Z [] h0 n0) := by
  refine MetFree.of_bodySF (plainFor_of_name pn0) hisR ?_
  intro p e s m args w_ meth c s₁ Bd hml0 hP hK
  obtain ⟨rfl, hZ, hh, H0⟩ := hP
  obtain ⟨hx, hby, hml, hown, hnm, X0, e0, hZ, hS, hk, CH0⟩ := own_opS R_6 Bd hml0 hZ hh H0
  have N0 := Fr.nil n0
  have pf1 : ∀ target, Go p e w_ s₁ m 4 (q_44 a1) [] target → Go p e w_ s₁ m 0 (q_44 a1) [] target := by
    intro target k
    refine zl X0 hx (d38 hby 0 rfl) rfl <| zg X0 hx (d38 hby 1 rfl) ((if0 _ _).trans (teq (by decide)).2) ?_
    exact k
  obtain ⟨la2, T2, h2, k1_2, X2, e2, E2, hS, hk, hZ, hown, ⟨lc2, kc2, Sx2⟩, cs2, st2⟩ := own_ldcW X0 hx hZ hown (tw hw 385 rfl) (own_wS hw) e0 hS hk (own_EW hw) (by decide) H0 (g := (mkF m 4 (q_44 a1) [])) rfl (d38 hby 19 rfl) (by decide) (by decide)
  have O3 := O0.ext E2
  have kp4 : Keep h0 h2 [] := (Keep.refl h0 []).ext E2
  have ch5 := cs2
  have CH5 := CHr.trans CH0 ch5
  obtain ⟨fs, hr, hrun, hended, hEnd⟩ := (X2.mono (by decide : _ ≤ R_6.cells) (by decide : _ ≤ R_6.slots)).leaveW hS (by rw [e2]; exact hk) (v := some (.ref la2)) (fun h => by rw [Bd.returns] at h; cases h)
  have CE := CHr.trans CH5 (CHv.at X2 hZ (own_EW hw) ch5.1)
  refine ⟨_, _, castTop (ef_ru_tb m a1 (0 : Int32) (0 : Int32)) ?_, hrun, hended, _, _, rfl, ?_, ?_, hEnd⟩
  · refine pf1 _ <| st2 _ ?_
    show Go p e w_ T2 m 7 (q_44 a1) [(.ref la2)] _
    exact retOut X2 hx Bd.returns rfl (Or.inr (Or.inr (Or.inr (Or.inr ⟨rfl, rfl, rfl⟩)))) (d38 hby 20 rfl) hr
  · show Qh Z [] h0 n0 _ T2.heap _
    rw [e2]
    exact ⟨la2, lc2, kc2, rfl, N0, kp4, Or.inl Sx2⟩
  · show CHr Z EL0 s.vm s.heap T2.vm T2.heap
    rw [e2, hh]; exact CE
theorem rs_z0 (a1 bA : Addr) (kA : ClassId) (cs : List UInt16) (HS : Str0 Z h0 a1 bA kA cs) (hc : cs.length ≤ 4) (h1 : 1 ≤ cs.length) :
    Ms (l := l) hw (ws := ws) O0 ST Y_5 jdk_42_method_92_code 5 (some (.object "java/lang/String")) R_2 #[(.ref a1), (vL 0), (vL 0)] (Qh Z [] h0 n0) := by
  refine MetFree.of_bodySF (plainFor_of_name pn2) hisR ?_
  intro p e s m args w_ meth c s₁ Bd hml0 hP hK
  obtain ⟨rfl, hZ, hh, H0⟩ := hP
  obtain ⟨hx, hby, hml, hown, hnm, X0, e0, hZ, hS, hk, CH0⟩ := own_opS R_2 Bd hml0 hZ hh H0
  have N0 := Fr.nil n0
  obtain ⟨E_a1, Fc_a1, Fv_a1, B_bA, hu_a1⟩ := id HS
  have lt_a1 := E_a1.lt
  have V_bA := B_bA.1
  have l_bA := B_bA.2
  have hN_bA : (Int32.ofNat cs.length).toNatClampNeg = (cs.map cLo).length := by rw [l_bA]; exact own_n (by omega)
  have lt_bA := V_bA.lt
  obtain ⟨_, T1, Lc1, X1, hQ1, st1⟩ := own_vc X0 hx hZ (y := Y_0) hown hml (tw hw 57 rfl) (tw hw 42 rfl) (tw hw 44 rfl) (tw hw 43 rfl) (rs_len0 hw O0 ST a1 bA kA cs HS (by omega)) (tw hw 45 rfl) (tw hw 14 rfl) e0 E_a1 (W := 0) (Ls := (q_44 a1)) (argsL := []) (rest := []) (lenOf pd19 rfl) (d36 hby 1 rfl)
  obtain ⟨rfl, Nq1, e1⟩ := hQ1
  have N1 := Fr.app N0 Nq1
  obtain ⟨_, T2, Lc2, X2, hQ2, st2⟩ := own_sc X1 hx hZ (y := Y_14) hown hml (tw hw 172 rfl) (tw hw 173 rfl) (rs_cbe hw O0 ST 0 0 cs.length (by omega) (by omega) (by omega)) (tw hw 174 rfl) (tw hw 14 rfl) e1 (W := 0) (Ls := (q_45 a1 cs)) (argsL := [(vL 0), (vL 0), (vN cs.length)]) (rest := []) (lenOf pd38 rfl) (d36 hby 6 rfl)
  obtain ⟨rfl, Nq2, e2⟩ := hQ2
  have N2 := Fr.app N1 Nq2
  have pf3 : ∀ target, Go p e w_ T2 m 12 (q_45 a1 cs) [(vL 0)] target → Go p e w_ s₁ m 0 (q_44 a1) [] target := by
    intro target k
    refine za X0 hx (d36 hby 0 rfl) rfl rfl <| st1 _ <| zs X1 hx (d36 hby 2 rfl) (Ls' := (q_45 a1 cs)) rfl <| zl X1 hx (d36 hby 3 rfl) rfl <| zl X1 hx (d36 hby 4 rfl) rfl <| zl X1 hx (d36 hby 5 rfl) rfl <| st2 _ <| zl X2 hx (d36 hby 7 rfl) rfl ?_
    exact k
  obtain ⟨_, T4, Lc4, X4, hQ4, st4⟩ := own_vc X2 hx hZ (y := Y_2) hown hml (tw hw 66 rfl) (tw hw 67 rfl) (tw hw 69 rfl) (tw hw 68 rfl) (rs_il0 hw O0 ST a1 bA kA cs HS (by omega)) (tw hw 70 rfl) (tw hw 14 rfl) e2 E_a1 (W := 0) (Ls := (q_20 a1 cs)) (argsL := []) (rest := []) (lenOf pd6 rfl) (d36 hby 17 rfl)
  obtain ⟨rfl, Nq4, e4⟩ := hQ4
  have N4 := Fr.app N2 Nq4
  have pf5 : ∀ target, Go p e w_ T4 m 31 (q_20 a1 cs) [(vL 1)] target → Go p e w_ T2 m 12 (q_45 a1 cs) [(vL 0)] target := by
    intro target k
    refine zg X2 hx (d36 hby 8 rfl) ((if0 _ _).trans (teq (by decide)).2) <| zl X2 hx (d36 hby 9 rfl) rfl <| zl X2 hx (d36 hby 10 rfl) rfl <| zy X2 hx 17 22 (d36 hby 11 rfl) (feq (fun q => absurd ((own_eq (a := 0) (b := cs.length) (by omega) (by omega)).mp q) (by omega))).2 <| zl X2 hx (d36 hby 12 rfl) rfl <| zl X2 hx (d36 hby 13 rfl) rfl <| XS.isub X2.here hx rfl (d36 hby 14 rfl) rfl <| zt X2 hx (d36 hby 15 rfl) (Ls' := (q_20 a1 cs)) rfl <| za X2 hx (d36 hby 16 rfl) rfl rfl <| st4 _ ?_
    exact k
  obtain ⟨T6, X6, e6, st6⟩ := getF X4 hx hZ hown (host := "") (Or.inl (tw hw 31 rfl)) Via.refl e4 Fv_a1 (g := (mkF m 35 (q_20 a1 cs) [(.ref a1)])) rfl rfl (d36 hby 20 rfl)
  have pf7 : ∀ target, Go p e w_ T6 m 41 (q_20 a1 cs) [(vL 0), (vL 0), (.ref bA)] target → Go p e w_ T4 m 31 (q_20 a1 cs) [(vL 1)] target := by
    intro target k
    refine zg X4 hx (d36 hby 18 rfl) ((if0 _ _).trans (feq (by decide)).1) <| za X4 hx (d36 hby 19 rfl) rfl rfl <| st6 _ <| zl X6 hx (d36 hby 21 rfl) rfl <| zm X6 hx (d36 hby 22 rfl) rfl ?_
    exact k
  obtain ⟨_, _, ⟨T8, L8, k8, n8⟩, -, X8, hS8, hg8, ⟨Lc8, hQ8, l8, y8, z8, cs8⟩, st8⟩ := Jvm.RoadKit.callSS X6 hx (y := Y_32) hown (mvT hZ (tw hw 395 rfl)) (mvT hZ (tw hw 396 rfl)) (mvT hZ (tw hw 291 rfl)) (mvT hZ (tw hw 397 rfl)) (by decide) (backOfSH (W := 0) (rl_n0 hw O0 ST bA ) hZ (tw hw 397 rfl) (tw hw 291 rfl) (by decide) (by decide) (own_EW hw) H0) (g := (mkF m 41 (q_20 a1 cs) [(vL 0), (vL 0), (.ref bA)])) rfl (by rw [hml]; rfl) (argsL := [(.ref bA), (vL 0), (vL 0)]) (rest := []) (lenOf pd39 rfl) rfl (by show 2 * 0 + _ ≤ _; exact Nat.le_of_eq rfl) (d36 hby 23 rfl) (fun _ _ => ⟨rfl, e6, (by decide : 0 + 2 ≤ _), (by decide : 0 + 4 ≤ _)⟩)
  dsimp only [Pt.U, Pt.locs, Pt.cells, Pt.slots] at X8 l8 y8 z8 st8 hQ8 cs8 hS8 hg8
  subst l8 y8 z8
  obtain ⟨X8, hS, hZ, hown⟩ := rebS hS (by rw [e6]; exact hk) X8 hS8 hg8 hZ hown
  obtain ⟨h8, e8⟩ : ∃ z, T8.heap = z := ⟨_, rfl⟩
  rw [e8] at hQ8 cs8 hS
  have hk : h8.size ≤ h8.size := Nat.le_refl _
  obtain ⟨x8, bx8, kx8, rfl, Nq8, K8, R8⟩ := hQ8
  have N8 := Fr.app N4 Nq8
  have O9 := O0.keep K8 all0
  have kp10 : Keep h0 h8 [] := (Keep.refl h0 []).trans K8 all0
  have ch11 := cs8
  have CH11 := CHr.trans CH0 ch11
  have RR := R8
  obtain ⟨fs, hr, hrun, hended, hEnd⟩ := (X8.mono (by decide : _ ≤ R_2.cells) (by decide : _ ≤ R_2.slots)).leaveW hS (by rw [e8]; exact hk) (v := some (.ref x8)) (fun h => by rw [Bd.returns] at h; cases h)
  have CE := CHr.trans CH11 (CHv.at X8 hZ (own_EW hw) ch11.1)
  refine ⟨_, _, castTop (ef_ru_tb m a1 (0 : Int32) (0 : Int32)) ?_, hrun, hended, _, _, rfl, ?_, ?_, hEnd⟩
  · refine pf3 _ <| pf5 _ <| pf7 _ <| st8.trans <| zo X8 hx 44 57 (d36 hby 24 rfl) ?_
    show Go p e w_ T8 m 57 (q_20 a1 cs) [(.ref x8)] _
    exact retOut X8 hx Bd.returns rfl (Or.inr (Or.inr (Or.inr (Or.inr ⟨rfl, rfl, rfl⟩)))) (d36 hby 25 rfl) hr
  · show Qh Z [] h0 n0 _ T8.heap _
    rw [e8]
    exact ⟨_, _, _, rfl, N8, kp10, RR⟩
  · show CHr Z EL0 s.vm s.heap T8.vm T8.heap
    rw [e8, hh]; exact CE
theorem rs_z1 (a1 bA : Addr) (kA : ClassId) (cs : List UInt16) (HS : Str1 Z h0 a1 bA kA cs) (hc : cs.length ≤ 4) (h1 : 1 ≤ cs.length) :
    Ms (l := l) hw (ws := ws) O0 ST Y_5 jdk_42_method_92_code 5 (some (.object "java/lang/String")) R_2 #[(.ref a1), (vL 0), (vL 0)] (Qh Z [] h0 n0) := by
  refine MetFree.of_bodySF (plainFor_of_name pn2) hisR ?_
  intro p e s m args w_ meth c s₁ Bd hml0 hP hK
  obtain ⟨rfl, hZ, hh, H0⟩ := hP
  obtain ⟨hx, hby, hml, hown, hnm, X0, e0, hZ, hS, hk, CH0⟩ := own_opS R_2 Bd hml0 hZ hh H0
  have N0 := Fr.nil n0
  obtain ⟨E_a1, Fc_a1, Fv_a1, B_bA⟩ := id HS
  have lt_a1 := E_a1.lt
  have V_bA := B_bA.1
  have l_bA := B_bA.2
  have hN_bA : (Int32.ofNat (2 * cs.length)).toNatClampNeg = (enc1 cs).length := by rw [l_bA]; exact own_n (by omega)
  have lt_bA := V_bA.lt
  obtain ⟨_, T1, Lc1, X1, hQ1, st1⟩ := own_vc X0 hx hZ (y := Y_0) hown hml (tw hw 57 rfl) (tw hw 42 rfl) (tw hw 44 rfl) (tw hw 43 rfl) (rs_len1 hw O0 ST a1 bA kA cs HS (by omega)) (tw hw 45 rfl) (tw hw 14 rfl) e0 E_a1 (W := 0) (Ls := (q_44 a1)) (argsL := []) (rest := []) (lenOf pd19 rfl) (d36 hby 1 rfl)
  obtain ⟨rfl, Nq1, e1⟩ := hQ1
  have N1 := Fr.app N0 Nq1
  obtain ⟨_, T2, Lc2, X2, hQ2, st2⟩ := own_sc X1 hx hZ (y := Y_14) hown hml (tw hw 172 rfl) (tw hw 173 rfl) (rs_cbe hw O0 ST 0 0 cs.length (by omega) (by omega) (by omega)) (tw hw 174 rfl) (tw hw 14 rfl) e1 (W := 0) (Ls := (q_45 a1 cs)) (argsL := [(vL 0), (vL 0), (vN cs.length)]) (rest := []) (lenOf pd38 rfl) (d36 hby 6 rfl)
  obtain ⟨rfl, Nq2, e2⟩ := hQ2
  have N2 := Fr.app N1 Nq2
  have pf3 : ∀ target, Go p e w_ T2 m 12 (q_45 a1 cs) [(vL 0)] target → Go p e w_ s₁ m 0 (q_44 a1) [] target := by
    intro target k
    refine za X0 hx (d36 hby 0 rfl) rfl rfl <| st1 _ <| zs X1 hx (d36 hby 2 rfl) (Ls' := (q_45 a1 cs)) rfl <| zl X1 hx (d36 hby 3 rfl) rfl <| zl X1 hx (d36 hby 4 rfl) rfl <| zl X1 hx (d36 hby 5 rfl) rfl <| st2 _ <| zl X2 hx (d36 hby 7 rfl) rfl ?_
    exact k
  obtain ⟨_, T4, Lc4, X4, hQ4, st4⟩ := own_vc X2 hx hZ (y := Y_2) hown hml (tw hw 66 rfl) (tw hw 67 rfl) (tw hw 69 rfl) (tw hw 68 rfl) (rs_il1 hw O0 ST a1 bA kA cs HS (by omega)) (tw hw 70 rfl) (tw hw 14 rfl) e2 E_a1 (W := 0) (Ls := (q_20 a1 cs)) (argsL := []) (rest := []) (lenOf pd6 rfl) (d36 hby 17 rfl)
  obtain ⟨rfl, Nq4, e4⟩ := hQ4
  have N4 := Fr.app N2 Nq4
  have pf5 : ∀ target, Go p e w_ T4 m 31 (q_20 a1 cs) [(vL 0)] target → Go p e w_ T2 m 12 (q_45 a1 cs) [(vL 0)] target := by
    intro target k
    refine zg X2 hx (d36 hby 8 rfl) ((if0 _ _).trans (teq (by decide)).2) <| zl X2 hx (d36 hby 9 rfl) rfl <| zl X2 hx (d36 hby 10 rfl) rfl <| zy X2 hx 17 22 (d36 hby 11 rfl) (feq (fun q => absurd ((own_eq (a := 0) (b := cs.length) (by omega) (by omega)).mp q) (by omega))).2 <| zl X2 hx (d36 hby 12 rfl) rfl <| zl X2 hx (d36 hby 13 rfl) rfl <| XS.isub X2.here hx rfl (d36 hby 14 rfl) rfl <| zt X2 hx (d36 hby 15 rfl) (Ls' := (q_20 a1 cs)) rfl <| za X2 hx (d36 hby 16 rfl) rfl rfl <| st4 _ ?_
    exact k
  obtain ⟨T6, X6, e6, st6⟩ := getF X4 hx hZ hown (host := "") (Or.inl (tw hw 31 rfl)) Via.refl e4 Fv_a1 (g := (mkF m 48 (q_20 a1 cs) [(.ref a1)])) rfl rfl (d36 hby 27 rfl)
  have pf7 : ∀ target, Go p e w_ T6 m 54 (q_20 a1 cs) [(vL 0), (vL 0), (.ref bA)] target → Go p e w_ T4 m 31 (q_20 a1 cs) [(vL 0)] target := by
    intro target k
    refine zf X4 hx 31 47 (d36 hby 18 rfl) ((if0 _ _).trans (teq (by decide)).1) <| za X4 hx (d36 hby 26 rfl) rfl rfl <| st6 _ <| zl X6 hx (d36 hby 28 rfl) rfl <| zm X6 hx (d36 hby 29 rfl) rfl ?_
    exact k
  obtain ⟨_, _, ⟨T8, L8, k8, n8⟩, -, X8, hS8, hg8, ⟨Lc8, hQ8, l8, y8, z8, cs8⟩, st8⟩ := Jvm.RoadKit.callSS X6 hx (y := Y_16) hown (mvT hZ (tw hw 176 rfl)) (mvT hZ (tw hw 177 rfl)) (mvT hZ (tw hw 78 rfl)) (mvT hZ (tw hw 178 rfl)) (by decide) (backOfSH (W := 0) (ru_n0 hw O0 ST bA ) hZ (tw hw 178 rfl) (tw hw 78 rfl) (by decide) (by decide) (own_EW hw) H0) (g := (mkF m 54 (q_20 a1 cs) [(vL 0), (vL 0), (.ref bA)])) rfl (by rw [hml]; rfl) (argsL := [(.ref bA), (vL 0), (vL 0)]) (rest := []) (lenOf pd39 rfl) rfl (by show 2 * 0 + _ ≤ _; exact Nat.le_of_eq rfl) (d36 hby 30 rfl) (fun _ _ => ⟨rfl, e6, (by decide : 0 + 2 ≤ _), (by decide : 0 + 4 ≤ _)⟩)
  dsimp only [Pt.U, Pt.locs, Pt.cells, Pt.slots] at X8 l8 y8 z8 st8 hQ8 cs8 hS8 hg8
  subst l8 y8 z8
  obtain ⟨X8, hS, hZ, hown⟩ := rebS hS (by rw [e6]; exact hk) X8 hS8 hg8 hZ hown
  obtain ⟨h8, e8⟩ : ∃ z, T8.heap = z := ⟨_, rfl⟩
  rw [e8] at hQ8 cs8 hS
  have hk : h8.size ≤ h8.size := Nat.le_refl _
  obtain ⟨x8, bx8, kx8, rfl, Nq8, K8, R8⟩ := hQ8
  have N8 := Fr.app N4 Nq8
  have O9 := O0.keep K8 all0
  have kp10 : Keep h0 h8 [] := (Keep.refl h0 []).trans K8 all0
  have ch11 := cs8
  have CH11 := CHr.trans CH0 ch11
  have RR := R8
  obtain ⟨fs, hr, hrun, hended, hEnd⟩ := (X8.mono (by decide : _ ≤ R_2.cells) (by decide : _ ≤ R_2.slots)).leaveW hS (by rw [e8]; exact hk) (v := some (.ref x8)) (fun h => by rw [Bd.returns] at h; cases h)
  have CE := CHr.trans CH11 (CHv.at X8 hZ (own_EW hw) ch11.1)
  refine ⟨_, _, castTop (ef_ru_tb m a1 (0 : Int32) (0 : Int32)) ?_, hrun, hended, _, _, rfl, ?_, ?_, hEnd⟩
  · refine pf3 _ <| pf5 _ <| pf7 _ <| st8.trans ?_
    show Go p e w_ T8 m 57 (q_20 a1 cs) [(.ref x8)] _
    exact retOut X8 hx Bd.returns rfl (Or.inr (Or.inr (Or.inr (Or.inr ⟨rfl, rfl, rfl⟩)))) (d36 hby 25 rfl) hr
  · show Qh Z [] h0 n0 _ T8.heap _
    rw [e8]
    exact ⟨_, _, _, rfl, N8, kp10, RR⟩
  · show CHr Z EL0 s.vm s.heap T8.vm T8.heap
    rw [e8, hh]; exact CE
theorem rs_z (a1 bA : Addr) (kA : ClassId) (cs : List UInt16) (HS : Strx Z h0 a1 bA kA cs) (hc : cs.length ≤ 4) (h1 : 1 ≤ cs.length) :
    Ms (l := l) hw (ws := ws) O0 ST Y_5 jdk_42_method_92_code 5 (some (.object "java/lang/String")) R_2 #[(.ref a1), (vL 0), (vL 0)] (Qh Z [] h0 n0) := by
  rcases HS with HS | ⟨HS, -⟩
  · exact rs_z0 hw O0 ST a1 bA kA cs HS hc h1
  · exact rs_z1 hw O0 ST a1 bA kA cs HS hc h1
theorem pn12 : plainName "com/example/downtally/downtally/cli/VisibleText" = true := by first | (simp [plainName, overriddenIn]; done) | decide +kernel
theorem d27 : Dl cb82 [(0, .aload_n 0, 1), (1, .iconst 0, 1), (2, .aload_n 0, 1), (3, .iconst 0, 1), (4, .iload_n 1, 1), (5, .invokevirtual 47, 3), (8, .invokevirtual 50, 3), (11, .areturn, 1)] := dlk (by decide +kernel)
theorem pd46 : parseMethodDescriptor "(II)Ljava/lang/String;" = some ⟨[.int, .int], some (.object "java/lang/String")⟩ := by decide +kernel
theorem rh_0 (a1 bA : Addr) (kA : ClassId) (cs : List UInt16) (HS : Strx Z h0 a1 bA kA cs) (hc : cs.length ≤ 4) (h1 : 1 ≤ cs.length) :
    Ms (l := l) hw (ws := ws) O0 ST Y_17 prog_21_method_5_code 2 (some (.object "java/lang/String")) R_3 #[(.ref a1), (vL 0)] (Qh Z [] h0 n0) := by
  refine MetFree.of_bodySF (plainFor_of_name pn12) hisR ?_
  intro p e s m args w_ meth c s₁ Bd hml0 hP hK
  obtain ⟨rfl, hZ, hh, H0⟩ := hP
  obtain ⟨hx, hby, hml, hown, hnm, X0, e0, hZ, hS, hk, CH0⟩ := own_opS R_3 Bd hml0 hZ hh H0
  have N0 := Fr.nil n0
  have E_a1 := HS.exa
  obtain ⟨_, T1, Lc1, X1, hQ1, st1⟩ := own_vc X0 hx hZ (y := Y_31) hown hml (tw hw 127 rfl) (tw hw 128 rfl) (tw hw 130 rfl) (tw hw 129 rfl) (rs_of hw O0 ST a1 bA kA cs 0 HS (by omega) (by decide) (fun _ q => absurd q (Nat.not_lt_zero _)) (Nat.zero_le _)) (tw hw 131 rfl) (tw hw 14 rfl) e0 E_a1 (W := 2) (Ls := (q_82 a1)) (argsL := [(vL 0), (vL 0)]) (rest := [(vL 0), (.ref a1)]) (lenOf pd18 rfl) (d27 hby 5 rfl)
  obtain ⟨rfl, Nq1, e1⟩ := hQ1
  have N1 := Fr.app N0 Nq1
  have pf2 : ∀ target, Go p e w_ T1 m 8 (q_82 a1) [(vL 0), (vL 0), (.ref a1)] target → Go p e w_ s₁ m 0 (q_82 a1) [] target := by
    intro target k
    refine za X0 hx (d27 hby 0 rfl) rfl rfl <| zc X0 hx (d27 hby 1 rfl) <| za X0 hx (d27 hby 2 rfl) rfl rfl <| zc X0 hx (d27 hby 3 rfl) <| zl X0 hx (d27 hby 4 rfl) rfl <| st1 _ ?_
    exact k
  obtain ⟨cq3, kq3, qa3, qb3, qc3⟩ := isOf hZ e1 E_a1
  obtain ⟨_, _, ⟨T3, L3, k3, n3⟩, -, X3, hS3, hg3, ⟨Lc3, hQ3, l3, y3, z3, cs3⟩, st3⟩ := X1.virtualBackS hx (y := Y_5) (z := Y_5) hown (mvT hZ (tw hw 167 rfl)) (mvT hZ (tw hw 168 rfl)) (notFace_of_selects (args := #[]) (mvT hZ (tw hw 170 rfl))) (mvT hZ (tw hw 170 rfl)) (mvT hZ (tw hw 169 rfl)) (by decide) (backOfSH (W := 0) (rs_z hw O0 ST a1 bA kA cs HS hc h1) hZ (tw hw 171 rfl) (tw hw 14 rfl) (by decide) (by decide) (own_EW hw) H0) qa3 qc3 (g := (mkF m 8 (q_82 a1) [(vL 0), (vL 0), (.ref a1)])) rfl (by rw [hml]; rfl) (Steps.refl _) (argsL := [(vL 0), (vL 0)]) (rest := []) (lenOf pd46 rfl) rfl (by show 2 * 0 + _ ≤ _; exact Nat.le_of_eq rfl) (d27 hby 6 rfl) (fun _ _ => ⟨rfl, e1, (by decide : 0 + 2 ≤ _), (by decide : 0 + 4 ≤ _)⟩)
  dsimp only [Pt.U, Pt.locs, Pt.cells, Pt.slots] at X3 l3 y3 z3 st3 hQ3 cs3 hS3 hg3
  subst l3 y3 z3
  obtain ⟨X3, hS, hZ, hown⟩ := rebS hS (by rw [e1]; exact hk) X3 hS3 hg3 hZ hown
  obtain ⟨h3, e3⟩ : ∃ z, T3.heap = z := ⟨_, rfl⟩
  rw [e3] at hQ3 cs3 hS
  have hk : h3.size ≤ h3.size := Nat.le_refl _
  obtain ⟨x3, bx3, kx3, rfl, Nq3, K3, R3⟩ := hQ3
  have N3 := Fr.app N1 Nq3
  have O4 := O0.keep K3 all0
  have kp5 : Keep h0 h3 [] := (Keep.refl h0 []).trans K3 all0
  have ch6 := cs3
  have CH6 := CHr.trans CH0 ch6
  have RR := R3
  obtain ⟨fs, hr, hrun, hended, hEnd⟩ := (X3.mono (by decide : _ ≤ R_3.cells) (by decide : _ ≤ R_3.slots)).leaveW hS (by rw [e3]; exact hk) (v := some (.ref x3)) (fun h => by rw [Bd.returns] at h; cases h)
  have CE := CHr.trans CH6 (CHv.at X3 hZ (own_EW hw) ch6.1)
  refine ⟨_, _, castTop (ef_ru_get m a1 (0 : Int32)) ?_, hrun, hended, _, _, rfl, ?_, ?_, hEnd⟩
  · refine pf2 _ <| st3.trans ?_
    show Go p e w_ T3 m 11 (q_82 a1) [(.ref x3)] _
    exact retOut X3 hx Bd.returns rfl (Or.inr (Or.inr (Or.inr (Or.inr ⟨rfl, rfl, rfl⟩)))) (d27 hby 7 rfl) hr
  · show Qh Z [] h0 n0 _ T3.heap _
    rw [e3]
    exact ⟨_, _, _, rfl, N3, kp5, RR⟩
  · show CHr Z EL0 s.vm s.heap T3.vm T3.heap
    rw [e3, hh]; exact CE
theorem rh_1 (a1 bA : Addr) (kA : ClassId) (cs : List UInt16) (kk : Nat) (HS : Strx Z h0 a1 bA kA cs) (hc : cs.length ≤ 4) (hkk : kk ≤ 3) (h1 : 1 ≤ kk) (ho : ∀ f', f' ≤ kk → opS cs f' 0 < cs.length) :
    Ms (l := l) hw (ws := ws) O0 ST Y_17 prog_21_method_5_code 2 (some (.object "java/lang/String")) R_3 #[(.ref a1), (vN kk)] (Qh Z (cs.take (opS cs kk 0)) h0 n0) := by
  refine MetFree.of_bodySF (plainFor_of_name pn12) hisR ?_
  intro p e s m args w_ meth c s₁ Bd hml0 hP hK
  obtain ⟨rfl, hZ, hh, H0⟩ := hP
  obtain ⟨hx, hby, hml, hown, hnm, X0, e0, hZ, hS, hk, CH0⟩ := own_opS R_3 Bd hml0 hZ hh H0
  have N0 := Fr.nil n0
  have E_a1 := HS.exa
  obtain ⟨_, T1, Lc1, X1, hQ1, st1⟩ := own_vc X0 hx hZ (y := Y_31) hown hml (tw hw 127 rfl) (tw hw 128 rfl) (tw hw 130 rfl) (tw hw 129 rfl) (rs_of hw O0 ST a1 bA kA cs kk HS (by omega) (by omega) (fun f q => ho f (by omega)) (Nat.le_of_lt (ho kk (Nat.le_refl _)))) (tw hw 131 rfl) (tw hw 14 rfl) e0 E_a1 (W := 2) (Ls := (q_2 a1 kk)) (argsL := [(vL 0), (vN kk)]) (rest := [(vL 0), (.ref a1)]) (lenOf pd18 rfl) (d27 hby 5 rfl)
  obtain ⟨rfl, Nq1, e1⟩ := hQ1
  have N1 := Fr.app N0 Nq1
  obtain ⟨_, T2, Lc2, X2, hQ2, st2⟩ := own_vc X1 hx hZ (y := Y_5) hown hml (tw hw 167 rfl) (tw hw 168 rfl) (tw hw 170 rfl) (tw hw 169 rfl) (rs_sb hw O0 ST a1 bA kA cs (opS cs kk 0) HS (by omega) (own_op1 cs h1) (ho kk (Nat.le_refl _))) (tw hw 171 rfl) (tw hw 14 rfl) e1 E_a1 (W := 0) (Ls := (q_2 a1 kk)) (argsL := [(vL 0), (vN (opS cs kk 0))]) (rest := []) (lenOf pd46 rfl) (d27 hby 6 rfl)
  obtain ⟨h2, e2⟩ : ∃ z, T2.heap = z := ⟨_, rfl⟩
  rw [e2] at hQ2
  obtain ⟨x2, bx2, kx2, rfl, Nq2, K2, sx2, sb2, R2⟩ := hQ2
  have N2 := Fr.app N1 Nq2
  have O3 := O0.keep K2 all0
  have kp4 : Keep h0 h2 [] := (Keep.refl h0 []).trans K2 all0
  have ch5 := CHr.keep K2 sf0 H0
  have CH5 := CHr.trans CH0 ch5
  have hk := Nat.le_trans hk ch5.2.1
  have RR := R2
  obtain ⟨fs, hr, hrun, hended, hEnd⟩ := (X2.mono (by decide : _ ≤ R_3.cells) (by decide : _ ≤ R_3.slots)).leaveW hS (by rw [e2]; exact hk) (v := some (.ref x2)) (fun h => by rw [Bd.returns] at h; cases h)
  have CE := CHr.trans CH5 (CHv.at X2 hZ (own_EW hw) ch5.1)
  refine ⟨_, _, castTop (ef_ru_get m a1 (Int32.ofNat kk)) ?_, hrun, hended, _, _, rfl, ?_, ?_, hEnd⟩
  · refine za X0 hx (d27 hby 0 rfl) rfl rfl <| zc X0 hx (d27 hby 1 rfl) <| za X0 hx (d27 hby 2 rfl) rfl rfl <| zc X0 hx (d27 hby 3 rfl) <| zl X0 hx (d27 hby 4 rfl) rfl <| st1 _ <| st2 _ ?_
    show Go p e w_ T2 m 11 (q_2 a1 kk) [(.ref x2)] _
    exact retOut X2 hx Bd.returns rfl (Or.inr (Or.inr (Or.inr (Or.inr ⟨rfl, rfl, rfl⟩)))) (d27 hby 7 rfl) hr
  · show Qh Z (cs.take (opS cs kk 0)) h0 n0 _ T2.heap _
    rw [e2]
    exact ⟨_, _, _, rfl, N2, kp4, RR⟩
  · show CHr Z EL0 s.vm s.heap T2.vm T2.heap
    rw [e2, hh]; exact CE
theorem rh (a1 bA : Addr) (kA : ClassId) (cs : List UInt16) (kk : Nat) (HS : Strx Z h0 a1 bA kA cs) (hc : cs.length ≤ 4) (hkk : kk ≤ 3) (ho : ∀ f', f' ≤ kk → opS cs f' 0 < cs.length) :
    Ms (l := l) hw (ws := ws) O0 ST Y_17 prog_21_method_5_code 2 (some (.object "java/lang/String")) R_3 #[(.ref a1), (vN kk)] (Qh Z (cs.take (opS cs kk 0)) h0 n0) := by
  cases kk with
  | zero => exact rh_0 hw O0 ST a1 bA kA cs HS hc (ho 0 (Nat.le_refl _))
  | succ kk => exact rh_1 hw O0 ST a1 bA kA cs (kk + 1) HS hc hkk (by omega) ho
theorem d58 : Dl cb83 [(0, .aload_n 0, 1), (1, .ldc 54, 2), (3, .invokevirtual 56, 3), (6, .iload_n 1, 1), (7, .invokevirtual 59, 3), (10, .ldc 62, 2), (12, .invokevirtual 56, 3), (15, .areturn, 1)] := dlk (by decide +kernel)
theorem pd47 : parseMethodDescriptor "(I)Ljava/lang/StringBuilder;" = some ⟨[.int], some (.object "java/lang/StringBuilder")⟩ := by decide +kernel
theorem rd_al (dA : Addr) (kG : ClassId) (a1 bA : Addr) (kA : ClassId) (LB : Nat) (cs : List UInt16) (M kk : Nat) (DG : Dgt Z dA kG) (HB : Sbj Z h0 a1 bA kA LB M cs) (hc : cs.length ≤ 4) (g_a1 : n0 ≤ a1) (g_bA : n0 ≤ bA) (hk9 : kk ≤ 9) (hM : 16 ≤ M) :
    Ms (l := l) hw (ws := ws) O0 ST Y_65 prog_21_method_6_code 2 (some (.object "java/lang/StringBuilder")) R_17 #[(.ref a1), (vN kk)] (Qsv (fun h b k LB' => Sbj Z h a1 b k LB' M (((cs ++ TD) ++ [dg kk]) ++ TF)) (some (.ref a1)) a1 bA h0 n0) := by
  refine MetFree.of_bodySF (plainFor_of_name pn12) hisR ?_
  intro p e s m args w_ meth c s₁ Bd hml0 hP hK
  obtain ⟨rfl, hZ, hh, H0⟩ := hP
  obtain ⟨hx, hby, hml, hown, hnm, X0, e0, hZ, hS, hk, CH0⟩ := own_opS R_17 Bd hml0 hZ hh H0
  have N0 := Fr.nil n0
  have E_a1 := HB.ea
  have E_bA := HB.eb
  have or_bA : bA = bA ∨ h0.size ≤ bA := Or.inl rfl
  have sf_a1 : Safe Z EL0 s.vm h0 a1 := Safe.exa hZ.alike E_a1 (by decide) (by decide)
  have sf_bA : Safe Z EL0 s.vm h0 bA := HB.safe hw hZ hM
  have lTD : TD.length = 5 := by decide
  have lTF : TF.length = 12 := by decide
  have pf1 : ∀ target, Go p e w_ s₁ m 1 (q_2 a1 kk) [(.ref a1)] target → Go p e w_ s₁ m 0 (q_2 a1 kk) [] target := by
    intro target k
    refine za X0 hx (d58 hby 0 rfl) rfl rfl ?_
    exact k
  obtain ⟨la2, T2, h2, k1_2, lc2, kc2, X2, e2, E2, hS, hk, hZ, hown, Ea2, Fc2, Fv2, Va2, lt_la2, lt_lc2, cs2, Li2, ne2, st2⟩ := ldcCH X0 hx hZ hown (tw hw 277 rfl) (own_wS hw) e0 hS hk (own_EW hw) (by decide) H0 (vs := ((TD.map cLo).map Value.int)) (z := Int32.ofNat TD.length) (by decide +kernel) (by decide) (by decide) (g := (mkF m 1 (q_2 a1 kk) [(.ref a1)])) rfl (d58 hby 1 rfl) (n := 20) (by decide) (by decide) (by decide) (by decide)
  have O3 := O0.ext E2
  have kp4 : Keep h0 h2 [a1, bA] := (Keep.refl h0 [a1, bA]).ext E2
  have ch5 := cs2
  have sf5_a1 := ch5.safe E_a1.lt sf_a1
  have sf5_bA := ch5.safe E_bA.lt sf_bA
  have CH5 := CHr.trans CH0 ch5
  obtain ⟨_, T6, Lc6, X6, hQ6, st6⟩ := own_vc X2 hx hZ (y := Y_7) hown hml (tw hw 278 rfl) (tw hw 243 rfl) (tw hw 245 rfl) (tw hw 244 rfl) (rj_ap hw O3 ST a1 bA kA LB cs M la2 lc2 kc2 TD (HB.ext E2) (by first | omega | (simp only [List.length_append, List.length_cons, List.length_nil, lTD, lTF]; omega)) g_a1 g_bA ⟨Ea2, Fc2, Fv2, ⟨Va2, rfl⟩, by decide⟩ (by decide) (by first | omega | (simp only [List.length_append, List.length_cons, List.length_nil, lTD, lTF]; omega)) (Ne.symm (ne2 _ sf5_bA).2)) (tw hw 246 rfl) (tw hw 123 rfl) e2 (E_a1.ext E2) (W := 0) (Ls := (q_2 a1 kk)) (argsL := [(.ref la2)]) (rest := []) (lenOf pd40 rfl) (d58 hby 2 rfl)
  obtain ⟨h6, e6⟩ : ∃ z, T6.heap = z := ⟨_, rfl⟩
  rw [e6] at hQ6
  obtain ⟨rfl, Nq6, K6, br6, kr6, lb6, or6, HB6⟩ := hQ6
  have N6 := Fr.app N0 Nq6
  have or_br6 := own_oro or6 or_bA kp4.1
  have g_br6 := own_gor or_br6 g_bA (own_sz O0)
  have wk_br6 : br6 ∈ [a1, bA] ∨ h0.size ≤ br6 := own_mem or_br6
  have sf_br6 : Safe Z EL0 T2.vm h2 br6 := own_orsf or6 sf5_bA
  have O7 := O3.keep K6 (allS g_a1 (allS g_bA all0))
  have kp8 := kp4.trans K6 (allS (Or.inl (List.mem_of_getElem? (i := 0) rfl)) (allS (Or.inl (List.mem_of_getElem? (i := 1) rfl)) all0))
  have ch9 := CHr.keep K6 (sfS sf5_a1 (sfS sf5_bA sf0)) ch5.1
  have sf9_a1 := Safe.keep K6 (sfS sf5_a1 (sfS sf5_bA sf0)) ch5.1 sf5_a1
  have sf9_bA := Safe.keep K6 (sfS sf5_a1 (sfS sf5_bA sf0)) ch5.1 sf5_bA
  have sf9_br6 := Safe.keep K6 (sfS sf5_a1 (sfS sf5_bA sf0)) ch5.1 sf_br6
  have CH9 := CHr.trans CH5 ch9
  have hk := Nat.le_trans hk ch9.2.1
  obtain ⟨_, T10, Lc10, X10, hQ10, st10⟩ := own_vc X6 hx hZ (y := Y_33) hown hml (tw hw 296 rfl) (tw hw 297 rfl) (tw hw 299 rfl) (tw hw 298 rfl) (rj_ai hw O7 ST dA kG a1 br6 kr6 lb6 (cs ++ TD) M kk DG HB6 (by first | omega | (simp only [List.length_append, List.length_cons, List.length_nil, lTD, lTF]; omega)) g_a1 g_br6 hk9 (by first | omega | (simp only [List.length_append, List.length_cons, List.length_nil, lTD, lTF]; omega))) (tw hw 300 rfl) (tw hw 123 rfl) e6 HB6.ea (W := 0) (Ls := (q_2 a1 kk)) (argsL := [(vN kk)]) (rest := []) (lenOf pd47 rfl) (d58 hby 4 rfl)
  obtain ⟨h10, e10⟩ : ∃ z, T10.heap = z := ⟨_, rfl⟩
  rw [e10] at hQ10
  obtain ⟨rfl, Nq10, K10, br10, kr10, lb10, or10, HB10⟩ := hQ10
  have N10 := Fr.app N6 Nq10
  have or_br10 := own_oro or10 or_br6 kp8.1
  have g_br10 := own_gor or_br10 g_bA (own_sz O0)
  have wk_br10 : br10 ∈ [a1, bA] ∨ h0.size ≤ br10 := own_mem or_br10
  have sf_br10 : Safe Z EL0 T2.vm h6 br10 := own_orsf or10 sf9_br6
  have O11 := O7.keep K10 (allS g_a1 (allS g_br6 all0))
  have kp12 := kp8.trans K10 (allS (Or.inl (List.mem_of_getElem? (i := 0) rfl)) (allS wk_br6 all0))
  have ch13 := CHr.keep K10 (sfS sf9_a1 (sfS sf9_br6 sf0)) ch9.1
  have sf13_a1 := Safe.keep K10 (sfS sf9_a1 (sfS sf9_br6 sf0)) ch9.1 sf9_a1
  have sf13_br6 := Safe.keep K10 (sfS sf9_a1 (sfS sf9_br6 sf0)) ch9.1 sf9_br6
  have sf13_br10 := Safe.keep K10 (sfS sf9_a1 (sfS sf9_br6 sf0)) ch9.1 sf_br10
  have CH13 := CHr.trans CH9 ch13
  have hk := Nat.le_trans hk ch13.2.1
  have pf14 : ∀ target, Go p e w_ T10 m 10 (q_2 a1 kk) [(.ref a1)] target → Go p e w_ s₁ m 1 (q_2 a1 kk) [(.ref a1)] target := by
    intro target k
    refine st2 _ <| st6 _ <| zl X6 hx (d58 hby 3 rfl) rfl <| st10 _ ?_
    exact k
  obtain ⟨la15, T15, h15, k1_15, lc15, kc15, X15, e15, E15, hS, hk, hZ, hown, Ea15, Fc15, Fv15, Va15, lt_la15, lt_lc15, cs15, Li15, ne15, st15⟩ := ldcCH X10 hx hZ hown (tw hw 320 rfl) (own_wS hw) e10 hS hk (own_EW hw) (by decide) ch13.1 (vs := ((TF.map cLo).map Value.int)) (z := Int32.ofNat TF.length) (by decide +kernel) (by decide) (by decide) (g := (mkF m 10 (q_2 a1 kk) [(.ref a1)])) rfl (d58 hby 5 rfl) (n := 48) (by decide) (by decide) (by decide) (by decide)
  have O16 := O11.ext E15
  have kp17 := kp12.ext E15
  have ch18 := cs15
  have sf18_a1 := ch18.safe HB10.ea.lt sf13_a1
  have sf18_br10 := ch18.safe HB10.eb.lt sf13_br10
  have CH18 := CHr.trans CH13 ch18
  obtain ⟨_, T19, Lc19, X19, hQ19, st19⟩ := own_vc X15 hx hZ (y := Y_7) hown hml (tw hw 278 rfl) (tw hw 243 rfl) (tw hw 245 rfl) (tw hw 244 rfl) (rj_ap hw O16 ST a1 br10 kr10 lb10 ((cs ++ TD) ++ [dg kk]) M la15 lc15 kc15 TF (HB10.ext E15) (by first | omega | (simp only [List.length_append, List.length_cons, List.length_nil, lTD, lTF]; omega)) g_a1 g_br10 ⟨Ea15, Fc15, Fv15, ⟨Va15, rfl⟩, by decide⟩ (by decide) (by first | omega | (simp only [List.length_append, List.length_cons, List.length_nil, lTD, lTF]; omega)) (Ne.symm (ne15 _ sf18_br10).2)) (tw hw 246 rfl) (tw hw 123 rfl) e15 (HB10.ea.ext E15) (W := 0) (Ls := (q_2 a1 kk)) (argsL := [(.ref la15)]) (rest := []) (lenOf pd40 rfl) (d58 hby 6 rfl)
  obtain ⟨h19, e19⟩ : ∃ z, T19.heap = z := ⟨_, rfl⟩
  rw [e19] at hQ19
  obtain ⟨rfl, Nq19, K19, br19, kr19, lb19, or19, HB19⟩ := hQ19
  have N19 := Fr.app N10 Nq19
  have or_br19 := own_oro or19 or_br10 kp17.1
  have g_br19 := own_gor or_br19 g_bA (own_sz O0)
  have wk_br19 : br19 ∈ [a1, bA] ∨ h0.size ≤ br19 := own_mem or_br19
  have sf_br19 : Safe Z EL0 T15.vm h15 br19 := own_orsf or19 sf18_br10
  have O20 := O16.keep K19 (allS g_a1 (allS g_br10 all0))
  have kp21 := kp17.trans K19 (allS (Or.inl (List.mem_of_getElem? (i := 0) rfl)) (allS wk_br10 all0))
  have ch22 := CHr.keep K19 (sfS sf18_a1 (sfS sf18_br10 sf0)) ch18.1
  have sf22_a1 := Safe.keep K19 (sfS sf18_a1 (sfS sf18_br10 sf0)) ch18.1 sf18_a1
  have sf22_br10 := Safe.keep K19 (sfS sf18_a1 (sfS sf18_br10 sf0)) ch18.1 sf18_br10
  have sf22_br19 := Safe.keep K19 (sfS sf18_a1 (sfS sf18_br10 sf0)) ch18.1 sf_br19
  have CH22 := CHr.trans CH18 ch22
  have hk := Nat.le_trans hk ch22.2.1
  obtain ⟨fs, hr, hrun, hended, hEnd⟩ := (X19.mono (by decide : _ ≤ R_17.cells) (by decide : _ ≤ R_17.slots)).leaveW hS (by rw [e19]; exact hk) (v := some (.ref a1)) (fun h => by rw [Bd.returns] at h; cases h)
  have CE := CHr.trans CH22 (CHv.at X19 hZ (own_EW hw) ch22.1)
  refine ⟨_, _, castTop (ef_ru_get m a1 (Int32.ofNat kk)) ?_, hrun, hended, _, _, rfl, ?_, ?_, hEnd⟩
  · refine pf1 _ <| pf14 _ <| st15 _ <| st19 _ ?_
    show Go p e w_ T19 m 15 (q_2 a1 kk) [(.ref a1)] _
    exact retOut X19 hx Bd.returns rfl (Or.inr (Or.inr (Or.inr (Or.inr ⟨rfl, rfl, rfl⟩)))) (d58 hby 7 rfl) hr
  · show Qsv (fun h b k LB' => Sbj Z h a1 b k LB' M (((cs ++ TD) ++ [dg kk]) ++ TF)) (some (.ref a1)) a1 bA h0 n0 _ T19.heap _
    rw [e19]
    exact ⟨rfl, N19, kp21, br19, _, _, or_br19, HB19⟩
  · show CHr Z EL0 s.vm s.heap T19.vm T19.heap
    rw [e19, hh]; exact CE
theorem own_andN (i : Int32) (k : Nat) (hk : k < 2147483648) : ∃ n : Nat, n < 2147483648 ∧ i &&& Int32.ofNat k = Int32.ofNat n := by
  refine ⟨(i.toBitVec &&& BitVec.ofNat 32 k).toNat, ?_, ?_⟩
  · rw [BitVec.toNat_and, BitVec.toNat_ofNat, Nat.mod_eq_of_lt (by omega)]; exact Nat.lt_of_le_of_lt Nat.and_le_right hk
  · apply Int32.toBitVec_inj.mp
    rw [Int32.toBitVec_and]
    show i.toBitVec &&& BitVec.ofNat 32 k = BitVec.ofNat 32 (i.toBitVec &&& BitVec.ofNat 32 k).toNat
    exact ((BitVec.ofNat_toNat _ _).trans (BitVec.setWidth_eq _)).symm
theorem own_sel5 (i : Int32) : ∃ n : Nat, n ≤ 4 ∧ (i &&& (2147483647 : Int32)) % (5 : Int32) = Int32.ofNat n := by
  obtain ⟨n, h, e⟩ := own_andN i 2147483647 (by decide)
  refine ⟨n % 5, by omega, ?_⟩
  rw [show (i &&& (2147483647 : Int32)) = Int32.ofNat n from e]
  apply Int32.toInt_inj.mp
  rw [Int32.toInt_mod, Int32.toInt_ofNat_of_lt h, Int32.toInt_ofNat_of_lt (by omega)]
  exact (Int.ofNat_tmod n 5).symm
theorem own_prx {us : List UInt16} {n : Nat} (hn : n ≤ us.length) (i : Nat) : prd (us.take n) (us.take n).length i = prd us n i := by
  have hl : (us.take n).length = n := by rw [List.length_take]; omega
  rw [hl]
  by_cases q : i + 1 < n
  · rw [prd, prd, own_tkg (by omega) hn, own_tkg (by omega) hn]
  · rw [prd, prd, if_neg (fun z => q z.1), if_neg (fun z => q z.1)]
theorem own_pr01 (us : List UInt16) (n i : Nat) : prd us n i = 0 ∨ (prd us n i = 1 ∧ i + 1 < n ∧ prd us n (i + 1) = 0) := by
  by_cases h : i + 1 < n ∧ hiS (us.getD i 0) = true ∧ loS (us.getD (i + 1) 0) = true
  · refine Or.inr ⟨by rw [prd, if_pos h], h.1, ?_⟩
    rw [prd, if_neg]
    rintro ⟨-, q, -⟩
    have a := of_decide_eq_true h.2.2
    have b := of_decide_eq_true q
    omega
  · exact Or.inl (by rw [prd, if_neg h])
theorem own_pln {us : List UInt16} {nn : Nat} (hl : us.length = 4) (hn : nn ≤ 4) :
    cpC (us.take nn) (us.take nn).length 0 (us.take nn).length = nn - prd us nn 0 - prd us nn 1 - prd us nn 2 ∧ ∀ mx, mx < nn - prd us nn 0 - prd us nn 1 - prd us nn 2 → mx ≤ 3 ∧ ∀ f, f ≤ mx → opS (us.take nn) f 0 < nn := by
  have hL : (us.take nn).length = nn := by rw [List.length_take]; omega
  have hP : ∀ i, prd (us.take nn) nn i = prd us nn i := fun i => by have q := own_prx (us := us) (n := nn) (by omega) i; rw [hL] at q; exact q
  have h3 : prd us nn 3 = 0 := (own_pr01 us nn 3).elim id (fun q => absurd q.2.1 (by omega))
  have hop : ∀ k x, opS (us.take nn) (k + 1) x = opS (us.take nn) k (x + 1 + prd us nn x) := fun k x => by rw [opS, hL, hP]
  have hz : ∀ x, opS (us.take nn) 0 x = x := fun _ => rfl
  have hcp : ∀ f j c, cpC (us.take nn) (f + 1) j c = if j + 1 < nn then cpC (us.take nn) f (j + 1 + prd us nn j) (c - prd us nn j) else c := fun f j c => by rw [cpC, hL, hP]
  have hc0 : ∀ j c, cpC (us.take nn) 0 j c = c := fun _ _ => rfl
  rw [hL]
  rcases own_pr01 us nn 0 with h0 | ⟨h0, g0, (k0 : prd us nn 1 = 0)⟩ <;> rcases own_pr01 us nn 1 with h1 | ⟨h1, g1, (k1 : prd us nn 2 = 0)⟩ <;> rcases own_pr01 us nn 2 with h2 | ⟨h2, g2, k2⟩ <;> try omega
  all_goals
    rw [h0, h1, h2]
    refine ⟨?_, fun mx hm => ⟨by omega, fun f hf => ?_⟩⟩
    · rcases (by omega : nn = 0 ∨ nn = 1 ∨ nn = 2 ∨ nn = 3 ∨ nn = 4) with rfl | rfl | rfl | rfl | rfl <;> first | omega | (simp [hcp, hc0, h0, h1, h2, h3]; done) | rfl
    · rcases (by omega : f = 0 ∨ f = 1 ∨ f = 2 ∨ f = 3) with rfl | rfl | rfl | rfl <;> simp only [hop, hz, h0, h1, h2, h3, Nat.zero_add, Nat.add_zero, Nat.reduceAdd] <;> omega
theorem own_exl {ua ub uc ud d : UInt16} {nn p : Nat} (h : p ≤ nn) (h3 : p ≤ 3) : exL ([ua, ub, uc, ud].take nn) p d = exL [ua, ub, uc] p d := by
  rw [exL, exL, List.take_take, Nat.min_eq_left h]
  rcases (by omega : p = 0 ∨ p = 1 ∨ p = 2 ∨ p = 3) with rfl | rfl | rfl | rfl <;> rfl
theorem own_dgv {k : Nat} (h : k ≤ 9) : cv ((Int32.ofNat (48 + k)).toUInt32.toUInt16) = cv (dg k) := own_k9 (P := fun k => cv ((Int32.ofNat (48 + k)).toUInt32.toUInt16) = cv (dg k)) h (by decide +kernel)
theorem d7 : Dl cb84 [(0, .aload_n 0, 1), (1, .iconst 0, 1), (2, .aload_n 0, 1), (3, .invokevirtual 9, 3), (6, .invokevirtual 28, 3), (9, .istore_n 2, 1), (10, .iload_n 2, 1), (11, .iload_n 1, 1), (12, .if_icmp .gt 5, 3), (15, .aload_n 0, 1), (16, .areturn, 1), (17, .new 7, 3), (20, .dup, 1), (21, .aload_n 0, 1), (22, .iload_n 1, 1), (23, .invokestatic 32, 3), (26, .invokespecial 44, 3), (29, .astore_n 3, 1), (30, .aload_n 3, 1), (31, .iload_n 2, 1), (32, .invokestatic 40, 3), (35, .invokevirtual 24, 3), (38, .areturn, 1)] := dlk (by decide +kernel)
theorem pd48 : parseMethodDescriptor "(Ljava/lang/String;I)Ljava/lang/String;" = some ⟨[(.object "java/lang/String"), .int], some (.object "java/lang/String")⟩ := by decide +kernel
theorem pd49 : parseMethodDescriptor "(Ljava/lang/StringBuilder;I)Ljava/lang/StringBuilder;" = some ⟨[(.object "java/lang/StringBuilder"), .int], some (.object "java/lang/StringBuilder")⟩ := by decide +kernel
theorem pd50 : parseMethodDescriptor "()Ljava/lang/String;" = some ⟨[], some (.object "java/lang/String")⟩ := by decide +kernel
theorem rv_a (dA : Addr) (kG : ClassId) (a1 bA : Addr) (kA : ClassId) (cs : List UInt16) (mx : Nat) (DG : Dgt Z dA kG) (HS : Strx Z h0 a1 bA kA cs) (hc : cs.length ≤ 4) (hmx : mx < 2147483648) (hle : cpC cs cs.length 0 cs.length ≤ mx) :
    Ms (l := l) hw (ws := ws) O0 ST Y_18 prog_21_method_4_code 4 (some (.object "java/lang/String")) R_4 #[(.ref a1), (vN mx)] (Qh Z cs h0 n0) := by
  refine MetFree.of_bodySF (plainFor_of_name pn12) hisR ?_
  intro p e s m args w_ meth c s₁ Bd hml0 hP hK
  obtain ⟨rfl, hZ, hh, H0⟩ := hP
  obtain ⟨hx, hby, hml, hown, hnm, X0, e0, hZ, hS, hk, CH0⟩ := own_opS R_4 Bd hml0 hZ hh H0
  have N0 := Fr.nil n0
  have E_a1 := HS.exa
  obtain ⟨lt_a1, lt_bA⟩ := HS.lt
  have hcl := cpC_le cs cs.length 0 cs.length
  have htl : (cs.take (opS cs mx 0)).length ≤ 4 := by rw [List.length_take]; omega
  have lTD : TD.length = 5 := by decide
  have lTF : TF.length = 12 := by decide
  obtain ⟨_, T1, Lc1, X1, hQ1, st1⟩ := own_vc X0 hx hZ (y := Y_0) hown hml (tw hw 41 rfl) (tw hw 42 rfl) (tw hw 44 rfl) (tw hw 43 rfl) (rs_len hw O0 ST a1 bA kA cs HS (by omega)) (tw hw 45 rfl) (tw hw 14 rfl) e0 E_a1 (W := 2) (Ls := (q_24 a1 mx)) (argsL := []) (rest := [(vL 0), (.ref a1)]) (lenOf pd19 rfl) (d7 hby 3 rfl)
  obtain ⟨rfl, Nq1, e1⟩ := hQ1
  have N1 := Fr.app N0 Nq1
  obtain ⟨_, T2, Lc2, X2, hQ2, st2⟩ := own_vc X1 hx hZ (y := Y_15) hown hml (tw hw 52 rfl) (tw hw 53 rfl) (tw hw 55 rfl) (tw hw 54 rfl) (rs_cp hw O0 ST a1 bA kA cs HS (by omega)) (tw hw 56 rfl) (tw hw 14 rfl) e1 E_a1 (W := 0) (Ls := (q_24 a1 mx)) (argsL := [(vL 0), (vN cs.length)]) (rest := []) (lenOf pd18 rfl) (d7 hby 4 rfl)
  obtain ⟨rfl, Nq2, e2⟩ := hQ2
  have N2 := Fr.app N1 Nq2
  have pf3 : ∀ target, Go p e w_ T2 m 12 (q_32 a1 mx cs) [(vN mx), (vN (cpC cs cs.length 0 cs.length))] target → Go p e w_ s₁ m 0 (q_24 a1 mx) [] target := by
    intro target k
    refine za X0 hx (d7 hby 0 rfl) rfl rfl <| zc X0 hx (d7 hby 1 rfl) <| za X0 hx (d7 hby 2 rfl) rfl rfl <| st1 _ <| st2 _ <| zs X2 hx (d7 hby 5 rfl) (Ls' := (q_32 a1 mx cs)) rfl <| zl X2 hx (d7 hby 6 rfl) rfl <| zl X2 hx (d7 hby 7 rfl) rfl ?_
    exact k
  obtain ⟨fs, hr, hrun, hended, hEnd⟩ := (X2.mono (by decide : _ ≤ R_4.cells) (by decide : _ ≤ R_4.slots)).leaveW hS (by rw [e2]; exact hk) (v := some (.ref a1)) (fun h => by rw [Bd.returns] at h; cases h)
  have CE := CHr.trans CH0 (CHv.at X2 hZ (own_EW hw) H0)
  refine ⟨_, _, castTop (ef_rb_ai0 m a1 (Int32.ofNat mx)) ?_, hrun, hended, _, _, rfl, ?_, ?_, hEnd⟩
  · refine pf3 _ <| zn X2 hx (d7 hby 8 rfl) (flt (fun q => absurd ((own_lt (a := mx) (b := cpC cs cs.length 0 cs.length) (by omega) (by omega)).mp q) (by omega))).2.2.1 <| za X2 hx (d7 hby 9 rfl) rfl rfl ?_
    show Go p e w_ T2 m 16 (q_32 a1 mx cs) [(.ref a1)] _
    exact retOut X2 hx Bd.returns rfl (Or.inr (Or.inr (Or.inr (Or.inr ⟨rfl, rfl, rfl⟩)))) (d7 hby 10 rfl) hr
  · show Qh Z cs h0 n0 _ T2.heap _
    rw [e2]
    exact ⟨a1, bA, kA, rfl, N2, (Keep.refl h0 []), HS⟩
  · show CHr Z EL0 s.vm s.heap T2.vm T2.heap
    rw [e2, hh]; exact CE
theorem rv_b (dA : Addr) (kG : ClassId) (a1 bA : Addr) (kA : ClassId) (cs : List UInt16) (mx : Nat) (DG : Dgt Z dA kG) (HS : Strx Z h0 a1 bA kA cs) (hc : cs.length ≤ 4) (hmx : mx < 2147483648) (hgt : mx < cpC cs cs.length 0 cs.length) (hk3 : mx ≤ 3) (ho : ∀ f, f ≤ mx → opS cs f 0 < cs.length) :
    Ms (l := l) hw (ws := ws) O0 ST Y_18 prog_21_method_4_code 4 (some (.object "java/lang/String")) R_4 #[(.ref a1), (vN mx)] (Qh Z (exL cs (opS cs mx 0) (dg (cpC cs cs.length 0 cs.length))) h0 n0) := by
  refine MetFree.of_bodySF (plainFor_of_name pn12) hisR ?_
  intro p e s m args w_ meth c s₁ Bd hml0 hP hK
  obtain ⟨rfl, hZ, hh, H0⟩ := hP
  obtain ⟨hx, hby, hml, hown, hnm, X0, e0, hZ, hS, hk, CH0⟩ := own_opS R_4 Bd hml0 hZ hh H0
  have N0 := Fr.nil n0
  have E_a1 := HS.exa
  obtain ⟨lt_a1, lt_bA⟩ := HS.lt
  have hcl := cpC_le cs cs.length 0 cs.length
  have htl : (cs.take (opS cs mx 0)).length ≤ 4 := by rw [List.length_take]; omega
  have lTD : TD.length = 5 := by decide
  have lTF : TF.length = 12 := by decide
  obtain ⟨_, T1, Lc1, X1, hQ1, st1⟩ := own_vc X0 hx hZ (y := Y_0) hown hml (tw hw 41 rfl) (tw hw 42 rfl) (tw hw 44 rfl) (tw hw 43 rfl) (rs_len hw O0 ST a1 bA kA cs HS (by omega)) (tw hw 45 rfl) (tw hw 14 rfl) e0 E_a1 (W := 2) (Ls := (q_24 a1 mx)) (argsL := []) (rest := [(vL 0), (.ref a1)]) (lenOf pd19 rfl) (d7 hby 3 rfl)
  obtain ⟨rfl, Nq1, e1⟩ := hQ1
  have N1 := Fr.app N0 Nq1
  obtain ⟨_, T2, Lc2, X2, hQ2, st2⟩ := own_vc X1 hx hZ (y := Y_15) hown hml (tw hw 52 rfl) (tw hw 53 rfl) (tw hw 55 rfl) (tw hw 54 rfl) (rs_cp hw O0 ST a1 bA kA cs HS (by omega)) (tw hw 56 rfl) (tw hw 14 rfl) e1 E_a1 (W := 0) (Ls := (q_24 a1 mx)) (argsL := [(vL 0), (vN cs.length)]) (rest := []) (lenOf pd18 rfl) (d7 hby 4 rfl)
  obtain ⟨rfl, Nq2, e2⟩ := hQ2
  have N2 := Fr.app N1 Nq2
  have pf3 : ∀ target, Go p e w_ T2 m 12 (q_32 a1 mx cs) [(vN mx), (vN (cpC cs cs.length 0 cs.length))] target → Go p e w_ s₁ m 0 (q_24 a1 mx) [] target := by
    intro target k
    refine za X0 hx (d7 hby 0 rfl) rfl rfl <| zc X0 hx (d7 hby 1 rfl) <| za X0 hx (d7 hby 2 rfl) rfl rfl <| st1 _ <| st2 _ <| zs X2 hx (d7 hby 5 rfl) (Ls' := (q_32 a1 mx cs)) rfl <| zl X2 hx (d7 hby 6 rfl) rfl <| zl X2 hx (d7 hby 7 rfl) rfl ?_
    exact k
  obtain ⟨T4, h4, X4, e4, E4, A4, D4, U4, st4⟩ := newO X2 hx hZ hown (tw hw 121 rfl) (tw hw 122 rfl) (tw hw 123 rfl) e2 (g := (mkF m 17 (q_32 a1 mx cs) [])) rfl (d7 hby 11 rfl) (by decide) (by decide)
  obtain ⟨b4, g4⟩ : ∃ z, z = h0.size := ⟨_, rfl⟩
  rw [← g4] at A4 D4 U4 st4
  have g_b4 : n0 ≤ b4 := by rw [g4]; exact Nat.le_trans (Nat.le_of_eq O0.1.symm) O0.2.1
  have sz_b4 : h0.size ≤ b4 := by rw [g4]; exact (Keep.refl h0 []).1
  have sf_b4 : Safe Z EL0 s.vm h0 b4 := Safe.new (Nat.le_of_eq g4.symm)
  have O5 := O0.ext E4
  have kp6 : Keep h0 h4 [] := (Keep.refl h0 []).ext E4
  have ch7 := CHr.ext E4 H0
  have sf7_b4 := Safe.ext E4 H0 sf_b4
  have CH7 := CHr.trans CH0 ch7
  have hk := Nat.le_trans hk ch7.2.1
  have F_coder_b4 : Fld Z h4 b4 "java/lang/AbstractStringBuilder" "coder" "B" (vL 0) := D4 (Or.inl (tw hw 232 rfl)) (ty := .byte) (by decide)
  have F_value_b4 : Fld Z h4 b4 "java/lang/AbstractStringBuilder" "value" "[B" .null := D4 (Or.inl (tw hw 235 rfl)) (ty := (.array .byte)) (by decide)
  have F_count_b4 : Fld Z h4 b4 "java/lang/AbstractStringBuilder" "count" "I" (vL 0) := D4 (Or.inl (tw hw 251 rfl)) (ty := .int) (by decide)
  have F_maybeLatin1_b4 : Fld Z h4 b4 "java/lang/AbstractStringBuilder" "maybeLatin1" "Z" (vL 0) := D4 (Or.inl (tw hw 365 rfl)) (ty := .boolean) (by decide)
  have pf8 : ∀ target, Go p e w_ T4 m 23 (q_32 a1 mx cs) [(vN mx), (.ref a1), (.ref b4), (.ref b4)] target → Go p e w_ T2 m 12 (q_32 a1 mx cs) [(vN mx), (vN (cpC cs cs.length 0 cs.length))] target := by
    intro target k
    refine zy X2 hx 12 17 (d7 hby 8 rfl) (tlt ((own_lt (a := mx) (b := cpC cs cs.length 0 cs.length) (by omega) (by omega)).mpr (by omega))).2.2.1 <| st4 _ <| XS.dup X4.here hx rfl (d7 hby 12 rfl) rfl rfl <| za X4 hx (d7 hby 13 rfl) rfl rfl <| zl X4 hx (d7 hby 14 rfl) rfl ?_
    exact k
  obtain ⟨_, _, ⟨T9, L9, k9, n9⟩, -, X9, hS9, hg9, ⟨Lc9, hQ9, l9, y9, z9, cs9⟩, st9⟩ := Jvm.RoadKit.callSS X4 hx (y := Y_17) hown (mvT hZ (tw hw 124 rfl)) (mvT hZ (tw hw 125 rfl)) (mvT hZ (tw hw 39 rfl)) (mvT hZ (tw hw 126 rfl)) (by decide) (backOfSH (W := 2) (rh hw O5 ST a1 bA kA cs mx (HS.ext E4) hc hk3 ho) hZ (tw hw 126 rfl) (tw hw 39 rfl) (by decide) (by decide) (own_EW hw) ch7.1) (g := (mkF m 23 (q_32 a1 mx cs) [(vN mx), (.ref a1), (.ref b4), (.ref b4)])) rfl (by rw [hml]; rfl) (argsL := [(.ref a1), (vN mx)]) (rest := [(.ref b4), (.ref b4)]) (lenOf pd48 rfl) rfl (by show 2 * 0 + _ ≤ _; exact Nat.le_of_eq rfl) (d7 hby 15 rfl) (fun _ _ => ⟨rfl, e4, (by decide : 1 + 3 ≤ _), (by decide : 4 + 138 ≤ _)⟩)
  dsimp only [Pt.U, Pt.locs, Pt.cells, Pt.slots] at X9 l9 y9 z9 st9 hQ9 cs9 hS9 hg9
  subst l9 y9 z9
  obtain ⟨X9, hS, hZ, hown⟩ := rebS hS (by rw [e4]; exact hk) X9 hS9 hg9 hZ hown
  obtain ⟨h9, e9⟩ : ∃ z, T9.heap = z := ⟨_, rfl⟩
  rw [e9] at hQ9 cs9 hS
  have hk : h9.size ≤ h9.size := Nat.le_refl _
  obtain ⟨xh9, bh9, kh9, rfl, Nq9, K9, HT9⟩ := hQ9
  have N9 := Fr.app N2 Nq9
  have O10 := O5.keep K9 all0
  have kp11 := kp6.trans K9 all0
  have ch12 := cs9
  have sf12_b4 := ch12.safe A4.lt sf7_b4
  have CH12 := CHr.trans CH7 ch12
  obtain ⟨_, T13, Lc13, X13, hQ13, st13⟩ := own_ic X9 hx hZ (y := Y_50) rfl hown hml (tw hw 218 rfl) (tw hw 219 rfl) (rj_is hw O10 ST b4 xh9 bh9 kh9 (cs.take (opS cs mx 0)) (A4.keep K9) (F_value_b4.keep K9 nin0) (F_coder_b4.keep K9 nin0) (F_count_b4.keep K9 nin0) (F_maybeLatin1_b4.keep K9 nin0) g_b4 HT9 htl) (tw hw 220 rfl) (tw hw 123 rfl) e9 (W := 1) (Ls := (q_32 a1 mx cs)) (b := b4) (argsL := [(.ref xh9)]) (rest := [(.ref b4)]) (lenOf pd22 rfl) (d7 hby 16 rfl)
  obtain ⟨h13, e13⟩ : ∃ z, T13.heap = z := ⟨_, rfl⟩
  rw [e13] at hQ13
  obtain ⟨rfl, Nq13, K13, br13, kr13, lb13, or13, HB13⟩ := hQ13
  have N13 := Fr.app N9 Nq13
  have sz_br13 := Nat.le_trans kp11.1 or13
  have g_br13 := Nat.le_trans (own_sz O0) sz_br13
  have sf_br13 : Safe Z EL0 T9.vm h9 br13 := Safe.new or13
  have O14 := O10.keep K13 (allS g_b4 all0)
  have kp15 := kp11.trans K13 (allS (Or.inr sz_b4) all0)
  have ch16 := CHr.keep K13 (sfS sf12_b4 sf0) ch12.1
  have sf16_b4 := Safe.keep K13 (sfS sf12_b4 sf0) ch12.1 sf12_b4
  have sf16_br13 := Safe.keep K13 (sfS sf12_b4 sf0) ch12.1 sf_br13
  have CH16 := CHr.trans CH12 ch16
  have hk := Nat.le_trans hk ch16.2.1
  have pf17 : ∀ target, Go p e w_ T13 m 32 (q_96 a1 mx cs b4) [(vN (cpC cs cs.length 0 cs.length)), (.ref b4)] target → Go p e w_ T4 m 23 (q_32 a1 mx cs) [(vN mx), (.ref a1), (.ref b4), (.ref b4)] target := by
    intro target k
    refine st9.trans <| st13 _ <| XS.astoreN X13.here hx rfl (d7 hby 17 rfl) rfl rfl (l' := (q_96 a1 mx cs b4)) rfl <| za X13 hx (d7 hby 18 rfl) rfl rfl <| zl X13 hx (d7 hby 19 rfl) rfl ?_
    exact k
  obtain ⟨_, _, ⟨T18, L18, k18, n18⟩, -, X18, hS18, hg18, ⟨Lc18, hQ18, l18, y18, z18, cs18⟩, st18⟩ := Jvm.RoadKit.callSS X13 hx (y := Y_65) hown (mvT hZ (tw hw 274 rfl)) (mvT hZ (tw hw 275 rfl)) (mvT hZ (tw hw 39 rfl)) (mvT hZ (tw hw 276 rfl)) (by decide) (backOfSH (W := 0) (rd_al hw O14 ST dA kG b4 br13 kr13 lb13 (cs.take (opS cs mx 0)) ((cs.take (opS cs mx 0)).length + 16) (cpC cs cs.length 0 cs.length) DG HB13 htl g_b4 g_br13 (by omega) (by omega)) hZ (tw hw 276 rfl) (tw hw 39 rfl) (by decide) (by decide) (own_EW hw) ch16.1) (g := (mkF m 32 (q_96 a1 mx cs b4) [(vN (cpC cs cs.length 0 cs.length)), (.ref b4)])) rfl (by rw [hml]; rfl) (argsL := [(.ref b4), (vN (cpC cs cs.length 0 cs.length))]) (rest := []) (lenOf pd49 rfl) rfl (by show 2 * 0 + _ ≤ _; exact Nat.le_of_eq rfl) (d7 hby 20 rfl) (fun _ _ => ⟨rfl, e13, (by decide : 6 + 7 ≤ _), (by decide : 362 + 406 ≤ _)⟩)
  dsimp only [Pt.U, Pt.locs, Pt.cells, Pt.slots] at X18 l18 y18 z18 st18 hQ18 cs18 hS18 hg18
  subst l18 y18 z18
  obtain ⟨X18, hS, hZ, hown⟩ := rebS hS (by rw [e13]; exact hk) X18 hS18 hg18 hZ hown
  obtain ⟨h18, e18⟩ : ∃ z, T18.heap = z := ⟨_, rfl⟩
  rw [e18] at hQ18 cs18 hS
  have hk : h18.size ≤ h18.size := Nat.le_refl _
  obtain ⟨rfl, Nq18, K18, br18, kr18, lb18, or18, HB18⟩ := hQ18
  have N18 := Fr.app N13 Nq18
  have O19 := O14.keep K18 (allS g_b4 (allS g_br13 all0))
  have kp20 := kp15.trans K18 (allS (Or.inr sz_b4) (allS (Or.inr sz_br13) all0))
  have ch21 := cs18
  have sf21_b4 := ch21.safe HB13.ea.lt sf16_b4
  have sf21_br13 := ch21.safe HB13.eb.lt sf16_br13
  have CH21 := CHr.trans CH16 ch21
  obtain ⟨_, T22, Lc22, X22, hQ22, st22⟩ := own_vc X18 hx hZ (y := Y_29) hown hml (tw hw 338 rfl) (tw hw 339 rfl) (tw hw 341 rfl) (tw hw 340 rfl) (rj_ts hw O19 ST b4 br18 kr18 lb18 ((((cs.take (opS cs mx 0)) ++ TD) ++ [dg (cpC cs cs.length 0 cs.length)]) ++ TF) ((cs.take (opS cs mx 0)).length + 16) HB18 (by simp only [List.length_append, List.length_cons, List.length_nil, lTD, lTF]; omega) (by simp only [List.length_append, List.length_cons, List.length_nil, lTD, lTF]; omega) (by simp only [List.length_append, List.length_cons, List.length_nil, lTD, lTF]; omega)) (tw hw 342 rfl) (tw hw 123 rfl) e18 HB18.ea (W := 0) (Ls := (q_96 a1 mx cs b4)) (argsL := []) (rest := []) (lenOf pd50 rfl) (d7 hby 21 rfl)
  obtain ⟨h22, e22⟩ : ∃ z, T22.heap = z := ⟨_, rfl⟩
  rw [e22] at hQ22
  obtain ⟨xr22, bx22, kx22, rfl, Nq22, K22, s1_22, s2_22, HR22⟩ := hQ22
  have N22 := Fr.app N18 Nq22
  have O23 := O19.keep K22 all0
  have kp24 := kp20.trans K22 all0
  have ch25 := CHr.keep K22 sf0 ch21.1
  have sf25_b4 := Safe.keep K22 sf0 ch21.1 sf21_b4
  have sf25_br13 := Safe.keep K22 sf0 ch21.1 sf21_br13
  have CH25 := CHr.trans CH21 ch25
  have hk := Nat.le_trans hk ch25.2.1
  have RR := HR22
  obtain ⟨fs, hr, hrun, hended, hEnd⟩ := (X22.mono (by decide : _ ≤ R_4.cells) (by decide : _ ≤ R_4.slots)).leaveW hS (by rw [e22]; exact hk) (v := some (.ref xr22)) (fun h => by rw [Bd.returns] at h; cases h)
  have CE := CHr.trans CH25 (CHv.at X22 hZ (own_EW hw) ch25.1)
  refine ⟨_, _, castTop (ef_rb_ai0 m a1 (Int32.ofNat mx)) ?_, hrun, hended, _, _, rfl, ?_, ?_, hEnd⟩
  · refine pf3 _ <| pf8 _ <| pf17 _ <| st18.trans <| st22 _ ?_
    show Go p e w_ T22 m 38 (q_96 a1 mx cs b4) [(.ref xr22)] _
    exact retOut X22 hx Bd.returns rfl (Or.inr (Or.inr (Or.inr (Or.inr ⟨rfl, rfl, rfl⟩)))) (d7 hby 22 rfl) hr
  · show Qh Z (exL cs (opS cs mx 0) (dg (cpC cs cs.length 0 cs.length))) h0 n0 _ T22.heap _
    rw [e22]
    exact ⟨_, _, _, rfl, N22, kp24, RR⟩
  · show CHr Z EL0 s.vm s.heap T22.vm T22.heap
    rw [e22, hh]; exact CE
theorem rvx (dA : Addr) (kG : ClassId) (a1 bA : Addr) (kA : ClassId) (cs : List UInt16) (mx : Nat) (DG : Dgt Z dA kG) (HS : Strx Z h0 a1 bA kA cs) (hc : cs.length ≤ 4) (hmx : mx < 2147483648) (hop : mx < cpC cs cs.length 0 cs.length → mx ≤ 3 ∧ ∀ f, f ≤ mx → opS cs f 0 < cs.length) :
    Ms (l := l) hw (ws := ws) O0 ST Y_18 prog_21_method_4_code 4 (some (.object "java/lang/String")) R_4 #[(.ref a1), (vN mx)] (Qh Z (if cpC cs cs.length 0 cs.length ≤ mx then cs else exL cs (opS cs mx 0) (dg (cpC cs cs.length 0 cs.length))) h0 n0) := by
  by_cases h : cpC cs cs.length 0 cs.length ≤ mx
  · rw [if_pos h]; exact rv_a hw O0 ST dA kG a1 bA kA cs mx DG HS hc hmx h
  · rw [if_neg h]; exact rv_b hw O0 ST dA kG a1 bA kA cs mx DG HS hc hmx (by omega) (hop (by omega)).1 (hop (by omega)).2
def Ql (h0 : Heap) (n0 : Nat) (v : Option Value) (h : Heap) (L : List Loc) : Prop := v = some (.int (1 : Int32)) ∧ Fr n0 L
theorem own_exn {us : List UInt16} {p : Nat} {d : UInt16} (h : us.length ≤ 6) : (exL us p d).length ≤ 24 := by rw [exL]; simp [TD, TF]; omega
theorem rw_a {p : Program} {l : Launch} {e : Env} {s : State} {m : MethodId} {args : Array Value} {w_ : List Frame} {meth : Method} {c : Code} {T0 : State} {locs : List Loc} {Z : State} {a0 : Array Value} {n0 : Nat} {h0 : Heap} (hw : Hw a0 Z) (X0 : Stand p l e room_1 s m args w_ meth c T0 locs 7 146) (hx : p.tables.exec = Jvm.exec) (hby : c.code = code) (hml : c.maxLocals = 18) (hZ : Z.Warmed39 s.vm) (hown : s.vm.findClass "com/example/downtally/downtally/cli/VisibleTextShortenedPinLaw" = some m.cls) (e0 : T0.heap = h0) (N0 : Fr n0 locs) (O0 : Old Z n0 h0) (G1 : Int32) (Fm : Value) (i0 : Int32) (i1 : Int32) (i2 : Int32) (i3 : Int32) (i4 : Int32) (i5 : Int32) (nn : Nat) (ua : UInt16) (ub : UInt16) (uc : UInt16) (ud : UInt16) (xa : Addr) (xt : Addr) (ST : Stc Z G1 Fm) :
    ∃ (mx : Nat) (T' : State) (L' : List Loc), mx < 2147483648 ∧ Stand p l e room_1 s m args w_ meth c T' L' 7 146 ∧ T'.heap = h0 ∧ Fr n0 L' ∧ ∀ target, Go p e w_ T' m 96 (q_27 i0 i1 i2 i3 i4 i5 nn ua ub uc ud xa xt mx) [] target → Go p e w_ T0 m 73 (q_50 i0 i1 i2 i3 i4 i5 nn ua ub uc ud xa xt) [] target := by
  by_cases hc78 : (i5 &&& (1073741824 : Int32)) = (0 : Int32)
  · obtain ⟨mx, hmx, emx⟩ := own_andN i5 7 (by decide)
    refine ⟨mx, T0, _, hmx, X0, e0, N0, ?_⟩
    intro target k
    refine zm X0 hx (hb hby at_73) rfl ?_
    show Go p e w_ T0 m 75 (q_50 i0 i1 i2 i3 i4 i5 nn ua ub uc ud xa xt) [(.int i5)] _
    refine X0.ldcInt hx hown (mvT hZ (tw hw 33 rfl)) (g := (mkF m 75 (q_50 i0 i1 i2 i3 i4 i5 nn ua ub uc ud xa xt) [(.int i5)])) rfl (hb hby at_75) _ <| XS.iand X0.here hx rfl (hb hby at_77) rfl <| zf X0 hx 78 89 (hb hby at_78) ((if0 _ _).trans (teq hc78).1) <| zm X0 hx (hb hby at_89) rfl <| XS.bipush X0.here hx rfl (hb hby at_91) <| XS.iand X0.here hx rfl (hb hby at_93) rfl ?_
    show Go p e w_ T0 m 94 (q_50 i0 i1 i2 i3 i4 i5 nn ua ub uc ud xa xt) [(.int (i5 &&& (7 : Int32)))] _
    rw [show (i5 &&& (7 : Int32)) = (Int32.ofNat mx) from emx]
    refine zt X0 hx (hb hby at_94) (Ls' := (q_27 i0 i1 i2 i3 i4 i5 nn ua ub uc ud xa xt mx)) rfl ?_
    exact k
  · obtain ⟨mx, hmx, emx⟩ := own_andN i5 2147483647 (by decide)
    refine ⟨mx, T0, _, hmx, X0, e0, N0, ?_⟩
    intro target k
    refine zm X0 hx (hb hby at_73) rfl ?_
    show Go p e w_ T0 m 75 (q_50 i0 i1 i2 i3 i4 i5 nn ua ub uc ud xa xt) [(.int i5)] _
    refine X0.ldcInt hx hown (mvT hZ (tw hw 33 rfl)) (g := (mkF m 75 (q_50 i0 i1 i2 i3 i4 i5 nn ua ub uc ud xa xt) [(.int i5)])) rfl (hb hby at_75) _ <| XS.iand X0.here hx rfl (hb hby at_77) rfl <| zg X0 hx (hb hby at_78) ((if0 _ _).trans (feq hc78).1) <| zm X0 hx (hb hby at_81) rfl ?_
    show Go p e w_ T0 m 83 (q_50 i0 i1 i2 i3 i4 i5 nn ua ub uc ud xa xt) [(.int i5)] _
    refine X0.ldcInt hx hown (mvT hZ (tw hw 0 rfl)) (g := (mkF m 83 (q_50 i0 i1 i2 i3 i4 i5 nn ua ub uc ud xa xt) [(.int i5)])) rfl (hb hby at_83) _ <| XS.iand X0.here hx rfl (hb hby at_85) rfl <| zo X0 hx 86 94 (hb hby at_86) ?_
    show Go p e w_ T0 m 94 (q_50 i0 i1 i2 i3 i4 i5 nn ua ub uc ud xa xt) [(.int (i5 &&& (2147483647 : Int32)))] _
    rw [show (i5 &&& (2147483647 : Int32)) = (Int32.ofNat mx) from emx]
    refine zt X0 hx (hb hby at_94) (Ls' := (q_27 i0 i1 i2 i3 i4 i5 nn ua ub uc ud xa xt mx)) rfl ?_
    exact k
theorem pd51 : parseMethodDescriptor "([CII)I" = some ⟨[(.array .char), .int, .int], some .int⟩ := by decide +kernel
theorem rw_b {p : Program} {l : Launch} {e : Env} {s : State} {m : MethodId} {args : Array Value} {w_ : List Frame} {meth : Method} {c : Code} {T0 : State} {locs : List Loc} {Z : State} {a0 : Array Value} {n0 : Nat} {h0 : Heap} (hw : Hw a0 Z) (X0 : Stand p l e room_1 s m args w_ meth c T0 locs 22 1028) (hx : p.tables.exec = Jvm.exec) (hby : c.code = code) (hml : c.maxLocals = 18) (hZ : Z.Warmed39 s.vm) (hown : s.vm.findClass "com/example/downtally/downtally/cli/VisibleTextShortenedPinLaw" = some m.cls) (e0 : T0.heap = h0) (N0 : Fr n0 locs) (O0 : Old Z n0 h0) (G1 : Int32) (Fm : Value) (i0 : Int32) (i1 : Int32) (i2 : Int32) (i3 : Int32) (i4 : Int32) (i5 : Int32) (nn : Nat) (ua : UInt16) (ub : UInt16) (uc : UInt16) (ud : UInt16) (xa : Addr) (xt : Addr) (kx : ClassId) (mx : Nat) (cp : Nat) (xr : Addr) (ps : Nat) (ST : Stc Z G1 Fm) (C1 : Car Z h0 xa kx [ua, ub, uc, ud].length [ua, ub, uc, ud]) (hnn : nn ≤ 4) (hm3 : mx ≤ 3) (hps : opS ([ua, ub, uc, ud].take nn) mx 0 = ps) :
    ∃ (T' : State) (L' : List Loc), Stand p l e room_1 s m args w_ meth c T' L' 22 1028 ∧ T'.heap = h0 ∧ Fr n0 L' ∧ ∀ target, Go p e w_ T' m 211 (q_97 i0 i1 i2 i3 i4 i5 nn ua ub uc ud xa xt mx cp xr ps) [] target → Go p e w_ T0 m 158 (q_52 i0 i1 i2 i3 i4 i5 nn ua ub uc ud xa xt mx cp xr) [] target := by
  have V_xa := C1.1
  by_cases hc163 : (0 : Int32) < (Int32.ofNat mx)
  · have hs_1 := own_prle [ua, ub, uc, ud] nn 0
    obtain ⟨_, T2, Lc2, X2, hQ2, st2⟩ := own_sc X0 hx hZ (y := Y_44) hown hml (tw hw 367 rfl) (tw hw 368 rfl) (rq_st hw O0 ST xa kx [ua, ub, uc, ud] nn 0 C1 rfl hnn (by omega)) (tw hw 369 rfl) (tw hw 3 rfl) e0 (W := 0) (Ls := (q_83 i0 i1 i2 i3 i4 i5 nn ua ub uc ud xa xt mx cp xr)) (argsL := [(.ref xa), (vN nn), (vL 0)]) (rest := []) (lenOf pd51 rfl) (hb hby at_172)
    obtain ⟨rfl, Nq2, e2⟩ := hQ2
    have N2 := Fr.app N0 Nq2
    have m0 : 0 < mx := (own_lt (a := 0) (b := mx) (by omega) (by omega)).mp hc163
    have pf3 : ∀ target, Go p e w_ T2 m 180 (q_72 i0 i1 i2 i3 i4 i5 nn ua ub uc ud xa xt mx cp xr) [(vL 1), (vN mx)] target → Go p e w_ T0 m 158 (q_52 i0 i1 i2 i3 i4 i5 nn ua ub uc ud xa xt mx cp xr) [] target := by
      intro target k
      refine zc X0 hx (hb hby at_158) <| zt X0 hx (hb hby at_159) (Ls' := (q_83 i0 i1 i2 i3 i4 i5 nn ua ub uc ud xa xt mx cp xr)) rfl <| zm X0 hx (hb hby at_161) rfl <| zg X0 hx (hb hby at_163) ((if0 _ _).trans (tlt hc163).2.2.2) <| XS.aload X0.here hx rfl (hb hby at_166) rfl rfl <| zm X0 hx (hb hby at_168) rfl <| zm X0 hx (hb hby at_170) rfl <| st2 _ <| zt X2 hx (hb hby at_175) (Ls' := (q_72 i0 i1 i2 i3 i4 i5 nn ua ub uc ud xa xt mx cp xr)) rfl <| zm X2 hx (hb hby at_177) rfl <| zc X2 hx (hb hby at_179) ?_
      exact k
    by_cases hc180 : (1 : Int32) < (Int32.ofNat mx)
    · have hs_4 := own_prle [ua, ub, uc, ud] nn (0 + 1 + prd [ua, ub, uc, ud] nn 0)
      obtain ⟨_, T5, Lc5, X5, hQ5, st5⟩ := own_sc X2 hx hZ (y := Y_44) hown hml (tw hw 367 rfl) (tw hw 368 rfl) (rq_st hw O0 ST xa kx [ua, ub, uc, ud] nn (0 + 1 + prd [ua, ub, uc, ud] nn 0) C1 rfl hnn (by omega)) (tw hw 369 rfl) (tw hw 3 rfl) e2 (W := 0) (Ls := (q_72 i0 i1 i2 i3 i4 i5 nn ua ub uc ud xa xt mx cp xr)) (argsL := [(.ref xa), (vN nn), (vN (0 + 1 + prd [ua, ub, uc, ud] nn 0))]) (rest := []) (lenOf pd51 rfl) (hb hby at_189)
      obtain ⟨rfl, Nq5, e5⟩ := hQ5
      have N5 := Fr.app N2 Nq5
      have m1 : 1 < mx := (own_lt (a := 1) (b := mx) (by omega) (by omega)).mp hc180
      have pf6 : ∀ target, Go p e w_ T5 m 197 (q_84 i0 i1 i2 i3 i4 i5 nn ua ub uc ud xa xt mx cp xr) [(vL 2), (vN mx)] target → Go p e w_ T2 m 180 (q_72 i0 i1 i2 i3 i4 i5 nn ua ub uc ud xa xt mx cp xr) [(vL 1), (vN mx)] target := by
        intro target k
        refine zn X2 hx (hb hby at_180) (tlt hc180).2.2.2 <| XS.aload X2.here hx rfl (hb hby at_183) rfl rfl <| zm X2 hx (hb hby at_185) rfl <| zm X2 hx (hb hby at_187) rfl <| st5 _ <| zt X5 hx (hb hby at_192) (Ls' := (q_84 i0 i1 i2 i3 i4 i5 nn ua ub uc ud xa xt mx cp xr)) rfl <| zm X5 hx (hb hby at_194) rfl <| zc X5 hx (hb hby at_196) ?_
        exact k
      by_cases hc197 : (2 : Int32) < (Int32.ofNat mx)
      · have hs_7 := own_prle [ua, ub, uc, ud] nn (0 + 1 + prd [ua, ub, uc, ud] nn 0 + 1 + prd [ua, ub, uc, ud] nn (0 + 1 + prd [ua, ub, uc, ud] nn 0))
        obtain ⟨_, T8, Lc8, X8, hQ8, st8⟩ := own_sc X5 hx hZ (y := Y_44) hown hml (tw hw 367 rfl) (tw hw 368 rfl) (rq_st hw O0 ST xa kx [ua, ub, uc, ud] nn (0 + 1 + prd [ua, ub, uc, ud] nn 0 + 1 + prd [ua, ub, uc, ud] nn (0 + 1 + prd [ua, ub, uc, ud] nn 0)) C1 rfl hnn (by omega)) (tw hw 369 rfl) (tw hw 3 rfl) e5 (W := 0) (Ls := (q_84 i0 i1 i2 i3 i4 i5 nn ua ub uc ud xa xt mx cp xr)) (argsL := [(.ref xa), (vN nn), (vN (0 + 1 + prd [ua, ub, uc, ud] nn 0 + 1 + prd [ua, ub, uc, ud] nn (0 + 1 + prd [ua, ub, uc, ud] nn 0)))]) (rest := []) (lenOf pd51 rfl) (hb hby at_206)
        obtain ⟨rfl, Nq8, e8⟩ := hQ8
        have N8 := Fr.app N5 Nq8
        have m2 : 2 < mx := (own_lt (a := 2) (b := mx) (by omega) (by omega)).mp hc197
        have hm : mx = 3 := by omega
        rw [hm] at hps
        have eps : ps = 0 + 1 + prd [ua, ub, uc, ud] nn 0 + 1 + prd [ua, ub, uc, ud] nn (0 + 1 + prd [ua, ub, uc, ud] nn 0) + 1 + prd [ua, ub, uc, ud] nn (0 + 1 + prd [ua, ub, uc, ud] nn 0 + 1 + prd [ua, ub, uc, ud] nn (0 + 1 + prd [ua, ub, uc, ud] nn 0)) := by rw [← hps]; simp only [opS, own_prx (us := [ua, ub, uc, ud]) (n := nn) hnn]
        rw [eps]
        refine ⟨T8, _, X8, e8, N8, ?_⟩
        intro target k
        refine pf3 _ <| pf6 _ <| zn X5 hx (hb hby at_197) (tlt hc197).2.2.2 <| XS.aload X5.here hx rfl (hb hby at_200) rfl rfl <| zm X5 hx (hb hby at_202) rfl <| zm X5 hx (hb hby at_204) rfl <| st8 _ <| zt X8 hx (hb hby at_209) (Ls' := (q_143 i0 i1 i2 i3 i4 i5 nn ua ub uc ud xa xt mx cp xr)) rfl ?_
        exact k
      · have m2 : ¬ 2 < mx := fun z => hc197 ((own_lt (a := 2) (b := mx) (by omega) (by omega)).mpr z)
        have hm : mx = 2 := by omega
        rw [hm] at hps
        have eps : ps = 0 + 1 + prd [ua, ub, uc, ud] nn 0 + 1 + prd [ua, ub, uc, ud] nn (0 + 1 + prd [ua, ub, uc, ud] nn 0) := by rw [← hps]; simp only [opS, own_prx (us := [ua, ub, uc, ud]) (n := nn) hnn]
        rw [eps]
        refine ⟨T5, _, X5, e5, N5, ?_⟩
        intro target k
        refine pf3 _ <| pf6 _ <| zy X5 hx 197 211 (hb hby at_197) (flt hc197).2.2.2 ?_
        exact k
    · have m1 : ¬ 1 < mx := fun z => hc180 ((own_lt (a := 1) (b := mx) (by omega) (by omega)).mpr z)
      have hm : mx = 1 := by omega
      rw [hm] at hps
      have eps : ps = 0 + 1 + prd [ua, ub, uc, ud] nn 0 := by rw [← hps]; simp only [opS, own_prx (us := [ua, ub, uc, ud]) (n := nn) hnn]
      rw [eps]
      refine ⟨T2, _, X2, e2, N2, ?_⟩
      intro target k
      refine pf3 _ <| zy X2 hx 180 194 (hb hby at_180) (flt hc180).2.2.2 <| zm X2 hx (hb hby at_194) rfl <| zc X2 hx (hb hby at_196) <| zy X2 hx 197 211 (hb hby at_197) (flt (fun q => absurd ((own_lt (a := 2) (b := mx) (by omega) (by omega)).mp q) (by omega))).2.2.2 ?_
      exact k
  · have m0 : ¬ 0 < mx := fun z => hc163 ((own_lt (a := 0) (b := mx) (by omega) (by omega)).mpr z)
    have pf9 : ∀ target, Go p e w_ T0 m 180 (q_83 i0 i1 i2 i3 i4 i5 nn ua ub uc ud xa xt mx cp xr) [(vL 1), (vN mx)] target → Go p e w_ T0 m 158 (q_52 i0 i1 i2 i3 i4 i5 nn ua ub uc ud xa xt mx cp xr) [] target := by
      intro target k
      refine zc X0 hx (hb hby at_158) <| zt X0 hx (hb hby at_159) (Ls' := (q_83 i0 i1 i2 i3 i4 i5 nn ua ub uc ud xa xt mx cp xr)) rfl <| zm X0 hx (hb hby at_161) rfl <| zf X0 hx 163 177 (hb hby at_163) ((if0 _ _).trans (flt hc163).2.2.2) <| zm X0 hx (hb hby at_177) rfl <| zc X0 hx (hb hby at_179) ?_
      exact k
    have hm : mx = 0 := by omega
    rw [hm] at hps
    have eps : ps = 0 := by rw [← hps]; simp only [opS, own_prx (us := [ua, ub, uc, ud]) (n := nn) hnn]
    rw [eps]
    refine ⟨T0, _, X0, e0, N0, ?_⟩
    intro target k
    refine pf9 _ <| zy X0 hx 180 194 (hb hby at_180) (flt (fun q => absurd ((own_lt (a := 1) (b := mx) (by omega) (by omega)).mp q) (by omega))).2.2.2 <| zm X0 hx (hb hby at_194) rfl <| zc X0 hx (hb hby at_196) <| zy X0 hx 197 211 (hb hby at_197) (flt (fun q => absurd ((own_lt (a := 2) (b := mx) (by omega) (by omega)).mp q) (by omega))).2.2.2 ?_
    exact k
theorem pd52 : parseMethodDescriptor "(ICCCC)Ljava/lang/String;" = some ⟨[.int, .char, .char, .char, .char], some (.object "java/lang/String")⟩ := by decide +kernel
theorem pd53 : parseMethodDescriptor "(Ljava/lang/Object;)Z" = some ⟨[(.object "java/lang/Object")], some .boolean⟩ := by decide +kernel
theorem ef_rw_l (m : MethodId) (x0 : Int32) (x1 : Int32) (x2 : Int32) (x3 : Int32) (x4 : Int32) (x5 : Int32) : entryFrame m #[(.int x0), (.int x1), (.int x2), (.int x3), (.int x4), (.int x5)] maxLocals = mkF m 0 #[.val (.int x0), .val (.int x1), .val (.int x2), .val (.int x3), .val (.int x4), .val (.int x5), .unset, .unset, .unset, .unset, .unset, .unset, .unset, .unset, .unset, .unset, .unset, .unset] [] := by first | (simp [entryFrame, mkF, argsToLocals, Value.category, maxLocals]; done) | rfl
theorem rw_l (dA : Addr) (kG : ClassId) (i0 i1 i2 i3 i4 i5 : Int32) (DG : Dgt Z dA kG) :
    Ms (l := l) hw (ws := ws) O0 ST x code maxLocals ret room_1 #[(.int i0), (.int i1), (.int i2), (.int i3), (.int i4), (.int i5)] (Ql h0 n0) := by
  refine MetFree.of_bodySF (plainFor_of_name pn9) hisR ?_
  intro p e s m args w_ meth c s₁ Bd hml0 hP hK
  obtain ⟨rfl, hZ, hh, H0⟩ := hP
  obtain ⟨hx, hby, hml, hown, hnm, X0, e0, hZ, hS, hk, CH0⟩ := own_opS room_1 Bd hml0 hZ hh H0
  have N0 := Fr.nil n0
  obtain ⟨nn, hnn, en⟩ := own_sel5 i0
  obtain ⟨_, T1, Lc1, X1, hQ1, st1⟩ := own_sc X0 hx hZ (y := Y_30) hown hml (tw hw 1 rfl) (tw hw 2 rfl) (rq_ch hw O0 ST i1 ) (tw hw 4 rfl) (tw hw 3 rfl) e0 (W := 0) (Ls := (q_115 i0 i1 i2 i3 i4 i5 nn)) (argsL := [(.int i1)]) (rest := []) (lenOf pd34 rfl) (hb hby at_9)
  obtain ⟨ua, rfl, Nq1, e1⟩ := hQ1
  have N1 := Fr.app N0 Nq1
  obtain ⟨_, T2, Lc2, X2, hQ2, st2⟩ := own_sc X1 hx hZ (y := Y_30) hown hml (tw hw 1 rfl) (tw hw 2 rfl) (rq_ch hw O0 ST i2 ) (tw hw 4 rfl) (tw hw 3 rfl) e1 (W := 0) (Ls := (q_125 i0 i1 i2 i3 i4 i5 nn ua)) (argsL := [(.int i2)]) (rest := []) (lenOf pd34 rfl) (hb hby at_15)
  obtain ⟨ub, rfl, Nq2, e2⟩ := hQ2
  have N2 := Fr.app N1 Nq2
  obtain ⟨_, T3, Lc3, X3, hQ3, st3⟩ := own_sc X2 hx hZ (y := Y_30) hown hml (tw hw 1 rfl) (tw hw 2 rfl) (rq_ch hw O0 ST i3 ) (tw hw 4 rfl) (tw hw 3 rfl) e2 (W := 0) (Ls := (q_126 i0 i1 i2 i3 i4 i5 nn ua ub)) (argsL := [(.int i3)]) (rest := []) (lenOf pd34 rfl) (hb hby at_21)
  obtain ⟨uc, rfl, Nq3, e3⟩ := hQ3
  have N3 := Fr.app N2 Nq3
  obtain ⟨_, T4, Lc4, X4, hQ4, st4⟩ := own_sc X3 hx hZ (y := Y_30) hown hml (tw hw 1 rfl) (tw hw 2 rfl) (rq_ch hw O0 ST i4 ) (tw hw 4 rfl) (tw hw 3 rfl) e3 (W := 0) (Ls := (q_127 i0 i1 i2 i3 i4 i5 nn ua ub uc)) (argsL := [(.int i4)]) (rest := []) (lenOf pd34 rfl) (hb hby at_28)
  obtain ⟨ud, rfl, Nq4, e4⟩ := hQ4
  have N4 := Fr.app N3 Nq4
  obtain ⟨T5, h5, k5, X5, e5, E5, A5, Ea5, st5⟩ := newPE X4 hx hZ (tw hw 8 rfl) e4 (g := (mkF m 34 (q_98 i0 i1 i2 i3 i4 i5 nn ua ub uc ud) [(vL 4)])) rfl (hb hby at_34) rfl (by decide) (cap := 4) (by decide) (by decide) (by decide) (by decide) (ad := "[C") (by decide)
  obtain ⟨b5, g5⟩ : ∃ z, z = h0.size := ⟨_, rfl⟩
  rw [← g5] at A5 Ea5 st5
  have g_b5 : n0 ≤ b5 := by rw [g5]; exact Nat.le_trans (Nat.le_of_eq O0.1.symm) O0.2.1
  have sz_b5 : h0.size ≤ b5 := by rw [g5]; exact (Keep.refl h0 []).1
  have sf_b5 : Safe Z EL0 s.vm h0 b5 := Safe.new (Nat.le_of_eq g5.symm)
  have O6 := O0.ext E5
  have kp7 : Keep h0 h5 [] := (Keep.refl h0 []).ext E5
  have ch8 := CHr.ext E5 H0
  have sf8_b5 := Safe.ext E5 H0 sf_b5
  have CH8 := CHr.trans CH0 ch8
  have hk := Nat.le_trans hk ch8.2.1
  have V_b5 : Arv Z h5 b5 k5 .char (4 : Int32) ((List.replicate 4 (0 : Int32)).map Value.int) (vL 0) := by rw [List.map_replicate]; exact (Arv.new A5 (by decide)).pad (pad_rep [] (vL 0) 4)
  have hN_b5 : ((4 : Int32)).toNatClampNeg = (List.replicate 4 (0 : Int32)).length := by rw [List.length_replicate]; exact by decide
  have V0_b5 := own_car0 (n := 4) V_b5
  obtain ⟨-, T9, h9, L9, X9, e9, K9, V9, N9, st9⟩ := ((((own_f0 X5 hx hZ e5 V0_b5 N4 g_b5 hby ((q_98 i0 i1 i2 i3 i4 i5 nn ua ub uc ud)) [] 36).loc 0 7 rfl).loc 1 8 rfl).loc 2 9 rfl).loc 3 10 rfl
  have O10 := O6.keep K9 (allS g_b5 all0)
  have kp11 := kp7.trans K9 (allS (Or.inr sz_b5) all0)
  have ch12 := CHr.keep K9 (sfS sf8_b5 sf0) ch8.1
  have sf12_b5 := Safe.keep K9 (sfS sf8_b5 sf0) ch8.1 sf8_b5
  have CH12 := CHr.trans CH8 ch12
  have hk := Nat.le_trans hk ch12.2.1
  have C1 := own_ceq (vs := [ua, ub, uc, ud]) V9 (by simp)
  have pf13 : ∀ target, Go p e w_ T9 m 68 (q_106 i0 i1 i2 i3 i4 i5 nn ua ub uc ud b5) [(.int (cv ud)), (.int (cv uc)), (.int (cv ub)), (.int (cv ua)), (vN nn)] target → Go p e w_ s₁ m 0 (q_107 i0 i1 i2 i3 i4 i5) [] target := by
    intro target k
    refine zl X0 hx (hb hby at_0) rfl ?_
    show Go p e w_ s₁ m 1 (q_107 i0 i1 i2 i3 i4 i5) [(.int i0)] _
    refine X0.ldcInt hx hown (mvT hZ (tw hw 0 rfl)) (g := (mkF m 1 (q_107 i0 i1 i2 i3 i4 i5) [(.int i0)])) rfl (hb hby at_1) _ <| XS.iand X0.here hx rfl (hb hby at_3) rfl <| zc X0 hx (hb hby at_4) <| iremM X0 hx rfl (hb hby at_5) rfl (by decide) ?_
    show Go p e w_ s₁ m 6 (q_107 i0 i1 i2 i3 i4 i5) [(.int ((i0 &&& (2147483647 : Int32)) % (5 : Int32)))] _
    rw [show ((i0 &&& (2147483647 : Int32)) % (5 : Int32)) = (Int32.ofNat nn) from en]
    refine zt X0 hx (hb hby at_6) (Ls' := (q_115 i0 i1 i2 i3 i4 i5 nn)) rfl <| zl X0 hx (hb hby at_8) rfl <| st1 _ <| zt X1 hx (hb hby at_12) (Ls' := (q_125 i0 i1 i2 i3 i4 i5 nn ua)) rfl <| zl X1 hx (hb hby at_14) rfl <| st2 _ <| zt X2 hx (hb hby at_18) (Ls' := (q_126 i0 i1 i2 i3 i4 i5 nn ua ub)) rfl <| zl X2 hx (hb hby at_20) rfl <| st3 _ <| zt X3 hx (hb hby at_24) (Ls' := (q_127 i0 i1 i2 i3 i4 i5 nn ua ub uc)) rfl <| zm X3 hx (hb hby at_26) rfl <| st4 _ <| zt X4 hx (hb hby at_31) (Ls' := (q_98 i0 i1 i2 i3 i4 i5 nn ua ub uc ud)) rfl <| zc X4 hx (hb hby at_33) <| st5 _ <| st9 _ ?_
    show Go p e w_ T9 m 56 (q_98 i0 i1 i2 i3 i4 i5 nn ua ub uc ud) [(.ref b5)] _
    refine XS.astore X9.here hx rfl (hb hby at_56) rfl rfl (l' := (q_106 i0 i1 i2 i3 i4 i5 nn ua ub uc ud b5)) rfl <| zm X9 hx (hb hby at_58) rfl <| zm X9 hx (hb hby at_60) rfl <| zm X9 hx (hb hby at_62) rfl <| zm X9 hx (hb hby at_64) rfl <| zm X9 hx (hb hby at_66) rfl ?_
    exact k
  obtain ⟨_, _, ⟨T14, L14, k14, n14⟩, -, X14, hS14, hg14, ⟨Lc14, hQ14, l14, y14, z14, cs14⟩, st14⟩ := Jvm.RoadKit.callSS X9 hx (y := Y_6) hown (mvT hZ (tw hw 9 rfl)) (mvT hZ (tw hw 10 rfl)) (mvT hZ (tw hw 3 rfl)) (mvT hZ (tw hw 11 rfl)) (by decide) (backOfSH (W := 0) (rt hw O10 ST nn ua ub uc ud hnn) hZ (tw hw 11 rfl) (tw hw 3 rfl) (by decide) (by decide) (own_EW hw) ch12.1) (g := (mkF m 68 (q_106 i0 i1 i2 i3 i4 i5 nn ua ub uc ud b5) [(.int (cv ud)), (.int (cv uc)), (.int (cv ub)), (.int (cv ua)), (vN nn)])) rfl (by rw [hml]; rfl) (argsL := [(vN nn), (.int (cv ua)), (.int (cv ub)), (.int (cv uc)), (.int (cv ud))]) (rest := []) (lenOf pd52 rfl) rfl (by show 2 * 0 + _ ≤ _; exact Nat.le_of_eq rfl) (hb hby at_68) (fun _ _ => ⟨rfl, e9, (by decide : 1 + 6 ≤ _), (by decide : 4 + 142 ≤ _)⟩)
  dsimp only [Pt.U, Pt.locs, Pt.cells, Pt.slots] at X14 l14 y14 z14 st14 hQ14 cs14 hS14 hg14
  subst l14 y14 z14
  obtain ⟨X14, hS, hZ, hown⟩ := rebS hS (by rw [e9]; exact hk) X14 hS14 hg14 hZ hown
  obtain ⟨h14, e14⟩ : ∃ z, T14.heap = z := ⟨_, rfl⟩
  rw [e14] at hQ14 cs14 hS
  have hk : h14.size ≤ h14.size := Nat.le_refl _
  obtain ⟨xt, bt, kt, rfl, Nq14, K14, sxt, HT⟩ := hQ14
  have N14 := Fr.app N9 Nq14
  have O15 := O10.keep K14 all0
  have kp16 := kp11.trans K14 all0
  have ch17 := cs14
  have sf17_b5 := ch17.safe C1.1.lt sf12_b5
  have CH17 := CHr.trans CH12 ch17
  obtain ⟨mx, T18, L18, hmx, X18, e18, N18, st18⟩ := rw_a hw X14 hx hby hml hZ hown e14 N14 O15 G1 Fm i0 i1 i2 i3 i4 i5 nn ua ub uc ud b5 xt ST
  have hp0 := own_pr01 [ua, ub, uc, ud] nn 0
  obtain ⟨_, T19, Lc19, X19, hQ19, st19⟩ := own_sc X18 hx hZ (y := Y_43) hown hml (tw hw 34 rfl) (tw hw 35 rfl) (rq_pr hw O15 ST b5 k5 [ua, ub, uc, ud] nn 0 ⟨(C1.1.keep K14 nin0), rfl⟩ rfl hnn (by decide)) (tw hw 36 rfl) (tw hw 3 rfl) e18 (W := 1) (Ls := (q_27 i0 i1 i2 i3 i4 i5 nn ua ub uc ud b5 xt mx)) (argsL := [(.ref b5), (vN nn), (vL 0)]) (rest := [(vN nn)]) (lenOf pd51 rfl) (hb hby at_103)
  obtain ⟨rfl, Nq19, e19⟩ := hQ19
  have N19 := Fr.app N18 Nq19
  have hp1 := own_pr01 [ua, ub, uc, ud] nn 1
  obtain ⟨_, T20, Lc20, X20, hQ20, st20⟩ := own_sc X19 hx hZ (y := Y_43) hown hml (tw hw 34 rfl) (tw hw 35 rfl) (rq_pr hw O15 ST b5 k5 [ua, ub, uc, ud] nn 1 ⟨(C1.1.keep K14 nin0), rfl⟩ rfl hnn (by decide)) (tw hw 36 rfl) (tw hw 3 rfl) e19 (W := 1) (Ls := (q_27 i0 i1 i2 i3 i4 i5 nn ua ub uc ud b5 xt mx)) (argsL := [(.ref b5), (vN nn), (vL 1)]) (rest := [(vN (nn - prd [ua, ub, uc, ud] nn 0))]) (lenOf pd51 rfl) (hb hby at_112)
  obtain ⟨rfl, Nq20, e20⟩ := hQ20
  have N20 := Fr.app N19 Nq20
  have hp2 := own_pr01 [ua, ub, uc, ud] nn 2
  obtain ⟨_, T21, Lc21, X21, hQ21, st21⟩ := own_sc X20 hx hZ (y := Y_43) hown hml (tw hw 34 rfl) (tw hw 35 rfl) (rq_pr hw O15 ST b5 k5 [ua, ub, uc, ud] nn 2 ⟨(C1.1.keep K14 nin0), rfl⟩ rfl hnn (by decide)) (tw hw 36 rfl) (tw hw 3 rfl) e20 (W := 1) (Ls := (q_27 i0 i1 i2 i3 i4 i5 nn ua ub uc ud b5 xt mx)) (argsL := [(.ref b5), (vN nn), (vL 2)]) (rest := [(vN (nn - prd [ua, ub, uc, ud] nn 0 - prd [ua, ub, uc, ud] nn 1))]) (lenOf pd51 rfl) (hb hby at_121)
  obtain ⟨rfl, Nq21, e21⟩ := hQ21
  have N21 := Fr.app N20 Nq21
  obtain ⟨cp, hcp⟩ : ∃ c, c = nn - prd [ua, ub, uc, ud] nn 0 - prd [ua, ub, uc, ud] nn 1 - prd [ua, ub, uc, ud] nn 2 := ⟨_, rfl⟩
  obtain ⟨hq1, hq2⟩ := own_pln (us := [ua, ub, uc, ud]) (nn := nn) rfl hnn
  rw [← hcp] at hq1 hq2
  have hL : ([ua, ub, uc, ud].take nn).length = nn := by rw [List.length_take]; exact Nat.min_eq_left hnn
  have hcp4 : cp ≤ 4 := by omega
  have pf22 : ∀ target, Go p e w_ T21 m 131 (q_99 i0 i1 i2 i3 i4 i5 nn ua ub uc ud b5 xt mx cp) [(vN mx), (.ref xt)] target → Go p e w_ T9 m 68 (q_106 i0 i1 i2 i3 i4 i5 nn ua ub uc ud b5) [(.int (cv ud)), (.int (cv uc)), (.int (cv ub)), (.int (cv ua)), (vN nn)] target := by
    intro target k
    refine st14.trans <| XS.astore X14.here hx rfl (hb hby at_71) rfl rfl (l' := (q_50 i0 i1 i2 i3 i4 i5 nn ua ub uc ud b5 xt)) rfl <| st18 _ <| zm X18 hx (hb hby at_96) rfl <| XS.aload X18.here hx rfl (hb hby at_98) rfl rfl <| zm X18 hx (hb hby at_100) rfl <| zc X18 hx (hb hby at_102) <| st19 _ <| XS.isub X19.here hx rfl (hb hby at_106) rfl ?_
    show Go p e w_ T19 m 107 (q_27 i0 i1 i2 i3 i4 i5 nn ua ub uc ud b5 xt mx) [(.int ((Int32.ofNat nn) - (Int32.ofNat (prd [ua, ub, uc, ud] nn 0))))] _
    rw [show ((Int32.ofNat nn) - (Int32.ofNat (prd [ua, ub, uc, ud] nn 0))) = (Int32.ofNat (nn - prd [ua, ub, uc, ud] nn 0)) from own_sub (a := nn) (b := prd [ua, ub, uc, ud] nn 0) (by omega)]
    refine XS.aload X19.here hx rfl (hb hby at_107) rfl rfl <| zm X19 hx (hb hby at_109) rfl <| zc X19 hx (hb hby at_111) <| st20 _ <| XS.isub X20.here hx rfl (hb hby at_115) rfl ?_
    show Go p e w_ T20 m 116 (q_27 i0 i1 i2 i3 i4 i5 nn ua ub uc ud b5 xt mx) [(.int ((Int32.ofNat (nn - prd [ua, ub, uc, ud] nn 0)) - (Int32.ofNat (prd [ua, ub, uc, ud] nn 1))))] _
    rw [show ((Int32.ofNat (nn - prd [ua, ub, uc, ud] nn 0)) - (Int32.ofNat (prd [ua, ub, uc, ud] nn 1))) = (Int32.ofNat (nn - prd [ua, ub, uc, ud] nn 0 - prd [ua, ub, uc, ud] nn 1)) from own_sub (a := nn - prd [ua, ub, uc, ud] nn 0) (b := prd [ua, ub, uc, ud] nn 1) (by omega)]
    refine XS.aload X20.here hx rfl (hb hby at_116) rfl rfl <| zm X20 hx (hb hby at_118) rfl <| zc X20 hx (hb hby at_120) <| st21 _ <| XS.isub X21.here hx rfl (hb hby at_124) rfl ?_
    show Go p e w_ T21 m 125 (q_27 i0 i1 i2 i3 i4 i5 nn ua ub uc ud b5 xt mx) [(.int ((Int32.ofNat (nn - prd [ua, ub, uc, ud] nn 0 - prd [ua, ub, uc, ud] nn 1)) - (Int32.ofNat (prd [ua, ub, uc, ud] nn 2))))] _
    rw [show ((Int32.ofNat (nn - prd [ua, ub, uc, ud] nn 0 - prd [ua, ub, uc, ud] nn 1)) - (Int32.ofNat (prd [ua, ub, uc, ud] nn 2))) = (Int32.ofNat (nn - prd [ua, ub, uc, ud] nn 0 - prd [ua, ub, uc, ud] nn 1 - prd [ua, ub, uc, ud] nn 2)) from own_sub (a := nn - prd [ua, ub, uc, ud] nn 0 - prd [ua, ub, uc, ud] nn 1) (b := prd [ua, ub, uc, ud] nn 2) (by omega)]
    show Go p e w_ T21 m 125 (q_27 i0 i1 i2 i3 i4 i5 nn ua ub uc ud b5 xt mx) [(vN (nn - prd [ua, ub, uc, ud] nn 0 - prd [ua, ub, uc, ud] nn 1 - prd [ua, ub, uc, ud] nn 2))] _
    show Go p e w_ T21 m 125 (q_27 i0 i1 i2 i3 i4 i5 nn ua ub uc ud b5 xt mx) [(.int (Int32.ofNat (nn - prd [ua, ub, uc, ud] nn 0 - prd [ua, ub, uc, ud] nn 1 - prd [ua, ub, uc, ud] nn 2)))] _
    rw [show (Int32.ofNat (nn - prd [ua, ub, uc, ud] nn 0 - prd [ua, ub, uc, ud] nn 1 - prd [ua, ub, uc, ud] nn 2)) = (Int32.ofNat cp) from by rw [hcp]]
    refine zt X21 hx (hb hby at_125) (Ls' := (q_99 i0 i1 i2 i3 i4 i5 nn ua ub uc ud b5 xt mx cp)) rfl <| XS.aload X21.here hx rfl (hb hby at_127) rfl rfl <| zm X21 hx (hb hby at_129) rfl ?_
    exact k
  obtain ⟨_, _, ⟨T23, L23, k23, n23⟩, -, X23, hS23, hg23, ⟨Lc23, hQ23, l23, y23, z23, cs23⟩, st23⟩ := Jvm.RoadKit.callSS X21 hx (y := Y_18) hown (mvT hZ (tw hw 37 rfl)) (mvT hZ (tw hw 38 rfl)) (mvT hZ (tw hw 39 rfl)) (mvT hZ (tw hw 40 rfl)) (by decide) (backOfSH (W := 0) (rvx hw O15 ST dA kG xt bt kt ([ua, ub, uc, ud].take nn) mx DG HT (by omega) hmx (by rw [hq1, hL]; exact hq2 mx)) hZ (tw hw 40 rfl) (tw hw 39 rfl) (by decide) (by decide) (own_EW hw) ch17.1) (g := (mkF m 131 (q_99 i0 i1 i2 i3 i4 i5 nn ua ub uc ud b5 xt mx cp) [(vN mx), (.ref xt)])) rfl (by rw [hml]; rfl) (argsL := [(.ref xt), (vN mx)]) (rest := []) (lenOf pd48 rfl) rfl (by show 2 * 0 + _ ≤ _; exact Nat.le_of_eq rfl) (hb hby at_131) (fun _ _ => ⟨rfl, e21, (by decide : 7 + 15 ≤ _), (by decide : 146 + 882 ≤ _)⟩)
  dsimp only [Pt.U, Pt.locs, Pt.cells, Pt.slots] at X23 l23 y23 z23 st23 hQ23 cs23 hS23 hg23
  subst l23 y23 z23
  obtain ⟨X23, hS, hZ, hown⟩ := rebS hS (by rw [e21]; exact hk) X23 hS23 hg23 hZ hown
  obtain ⟨h23, e23⟩ : ∃ z, T23.heap = z := ⟨_, rfl⟩
  rw [e23] at hQ23 cs23 hS
  have hk : h23.size ≤ h23.size := Nat.le_refl _
  obtain ⟨xr, br, kr, rfl, Nq23, K23, HR⟩ := hQ23
  have N23 := Fr.app N21 Nq23
  have O24 := O15.keep K23 all0
  have kp25 := kp16.trans K23 all0
  have ch26 := cs23
  have sf26_b5 := ch26.safe (C1.1.keep K14 nin0).lt sf17_b5
  have CH26 := CHr.trans CH17 ch26
  rw [hq1] at HR
  have E_xr := HR.exa
  have pf27 : ∀ target, Go p e w_ T23 m 147 (q_52 i0 i1 i2 i3 i4 i5 nn ua ub uc ud b5 xt mx cp xr) [(vN mx), (vN cp)] target → Go p e w_ T21 m 131 (q_99 i0 i1 i2 i3 i4 i5 nn ua ub uc ud b5 xt mx cp) [(vN mx), (.ref xt)] target := by
    intro target k
    refine st23.trans <| XS.astore X23.here hx rfl (hb hby at_134) rfl rfl (l' := (q_52 i0 i1 i2 i3 i4 i5 nn ua ub uc ud b5 xt mx cp xr)) rfl <| XS.aload X23.here hx rfl (hb hby at_136) rfl rfl <| XS.ifnonnullYes X23.here hx rfl (pc0 := 138) (pc' := 143) rfl (hb hby at_138) rfl (by decide) (by decide) <| zm X23 hx (hb hby at_143) rfl <| zm X23 hx (hb hby at_145) rfl ?_
    exact k
  by_cases hc147 : (Int32.ofNat mx) < (Int32.ofNat cp)
  · have hgt : mx < cp := (own_lt (a := mx) (b := cp) (by omega) (by omega)).mp hc147
    obtain ⟨hm3, ho⟩ := hq2 mx hgt
    have hpl := ho mx (Nat.le_refl _)
    obtain ⟨ps, hps⟩ : ∃ z, opS ([ua, ub, uc, ud].take nn) mx 0 = z := ⟨_, rfl⟩
    rw [hps] at hpl
    rw [if_neg (by omega), hps, own_exl (by omega) (by omega)] at HR
    obtain ⟨T28, L28, X28, e28, N28, st28⟩ := rw_b hw X23 hx hby hml hZ hown e23 N23 O24 G1 Fm i0 i1 i2 i3 i4 i5 nn ua ub uc ud b5 xt k5 mx cp xr ps ST ⟨((C1.1.keep K14 nin0).keep K23 nin0), rfl⟩ hnn hm3 hps
    obtain ⟨_, T29, Lc29, X29, hQ29, st29⟩ := own_sc X28 hx hZ (y := Y_25) hown hml (tw hw 370 rfl) (tw hw 371 rfl) (rx hw O24 ST ps ua ub uc (dg cp) (by omega)) (tw hw 372 rfl) (tw hw 3 rfl) e28 (W := 1) (Ls := #[iv i0, iv i1, iv i2, iv i3, iv i4, iv i5, nv nn, iv (cv ua), iv (cv ub), iv (cv uc), iv (cv ud), rv b5, rv xt, nv mx, nv cp, rv xr, nv ps, iv (cv (dg cp))]) (argsL := [(vN ps), (.int (cv ua)), (.int (cv ub)), (.int (cv uc)), (.int (cv (dg cp)))]) (rest := [(.ref xr)]) (lenOf pd52 rfl) (hb hby at_231)
    obtain ⟨h29, e29⟩ : ∃ z, T29.heap = z := ⟨_, rfl⟩
    rw [e29] at hQ29
    obtain ⟨xe, be, ke, rfl, Nq29, K29, sxe, HE⟩ := hQ29
    have N29 := Fr.app N28 Nq29
    have O30 := O24.keep K29 all0
    have kp31 := kp25.trans K29 all0
    have ch32 := CHr.keep K29 sf0 ch26.1
    have sf32_b5 := Safe.keep K29 sf0 ch26.1 sf26_b5
    have CH32 := CHr.trans CH26 ch32
    have hk := Nat.le_trans hk ch32.2.1
    obtain ⟨_, T33, Lc33, X33, hQ33, st33⟩ := own_vc X29 hx hZ (y := Y_11) hown hml (tw hw 71 rfl) (tw hw 72 rfl) (tw hw 74 rfl) (tw hw 73 rfl) (rs_eq hw O30 ST xr br kr (exL [ua, ub, uc] ps (dg cp)) xe be ke (HR.keep K29 nin0 nin0) (own_exn (by simp)) HE) (tw hw 75 rfl) (tw hw 14 rfl) e29 (E_xr.keep K29) (W := 0) (Ls := #[iv i0, iv i1, iv i2, iv i3, iv i4, iv i5, nv nn, iv (cv ua), iv (cv ub), iv (cv uc), iv (cv ud), rv b5, rv xt, nv mx, nv cp, rv xr, nv ps, iv (cv (dg cp))]) (argsL := [(.ref xe)]) (rest := []) (lenOf pd53 rfl) (hb hby at_234)
    obtain ⟨rfl, Nq33, e33⟩ := hQ33
    have N33 := Fr.app N29 Nq33
    obtain ⟨fs, hr, hrun, hended, hEnd⟩ := (X33.mono (by decide : _ ≤ room_1.cells) (by decide : _ ≤ room_1.slots)).leaveW hS (by rw [e33]; exact hk) (v := some (vL 1)) (fun h => by rw [Bd.returns] at h; cases h)
    have CE := CHr.trans CH32 (CHv.at X33 hZ (own_EW hw) ch32.1)
    refine ⟨_, _, castTop (ef_rw_l m i0 i1 i2 i3 i4 i5) ?_, hrun, hended, _, _, rfl, ?_, ?_, hEnd⟩
    · refine pf13 _ <| pf22 _ <| pf27 _ <| zy X23 hx 147 158 (hb hby at_147) (tlt hc147).2.2.1 <| st28 _ <| XS.bipush X28.here hx rfl (hb hby at_211) <| zm X28 hx (hb hby at_213) rfl <| XS.iadd X28.here hx rfl (hb hby at_215) rfl ?_
      show Go p e w_ T28 m 216 (q_97 i0 i1 i2 i3 i4 i5 nn ua ub uc ud b5 xt mx cp xr ps) [(.int ((48 : Int32) + (Int32.ofNat cp)))] _
      rw [show ((48 : Int32) + (Int32.ofNat cp)) = (Int32.ofNat (48 + cp)) from own_add 48 cp]
      refine XS.i2c X28.here hx rfl (hb hby at_216) rfl ?_
      show Go p e w_ T28 m 217 (q_97 i0 i1 i2 i3 i4 i5 nn ua ub uc ud b5 xt mx cp xr ps) [(.int ((Int32.ofNat (48 + cp)).toUInt32.toUInt16.toUInt32.toInt32))] _
      rw [show ((Int32.ofNat (48 + cp)).toUInt32.toUInt16.toUInt32.toInt32) = (cv (dg cp)) from own_dgv (k := cp) (by omega)]
      refine zt X28 hx (hb hby at_217) (Ls' := #[iv i0, iv i1, iv i2, iv i3, iv i4, iv i5, nv nn, iv (cv ua), iv (cv ub), iv (cv uc), iv (cv ud), rv b5, rv xt, nv mx, nv cp, rv xr, nv ps, iv (cv (dg cp))]) rfl <| XS.aload X28.here hx rfl (hb hby at_219) rfl rfl <| zm X28 hx (hb hby at_221) rfl <| zm X28 hx (hb hby at_223) rfl <| zm X28 hx (hb hby at_225) rfl <| zm X28 hx (hb hby at_227) rfl <| zm X28 hx (hb hby at_229) rfl <| st29 _ <| st33 _ ?_
      show Go p e w_ T33 m 237 #[iv i0, iv i1, iv i2, iv i3, iv i4, iv i5, nv nn, iv (cv ua), iv (cv ub), iv (cv uc), iv (cv ud), rv b5, rv xt, nv mx, nv cp, rv xr, nv ps, iv (cv (dg cp))] [(vL 1)] _
      exact retN X33 hx (t := .boolean) Bd.returns (by simp) (hb hby at_237) hr
    · show Ql h0 n0 _ T33.heap _
      rw [e33]
      exact ⟨rfl, N33⟩
    · show CHr Z EL0 s.vm s.heap T33.vm T33.heap
      rw [e33, hh]; exact CE
  · have hle : cp ≤ mx := Nat.le_of_not_lt fun q => hc147 ((own_lt (a := mx) (b := cp) (by omega) (by omega)).mpr q)
    rw [if_pos hle] at HR
    obtain ⟨_, T34, Lc34, X34, hQ34, st34⟩ := own_vc X23 hx hZ (y := Y_11) hown hml (tw hw 71 rfl) (tw hw 72 rfl) (tw hw 74 rfl) (tw hw 73 rfl) (rs_eq hw O24 ST xr br kr ([ua, ub, uc, ud].take nn) xt bt kt HR (by omega) (HT.keep K23 nin0 nin0)) (tw hw 75 rfl) (tw hw 14 rfl) e23 E_xr (W := 0) (Ls := (q_52 i0 i1 i2 i3 i4 i5 nn ua ub uc ud b5 xt mx cp xr)) (argsL := [(.ref xt)]) (rest := []) (lenOf pd53 rfl) (hb hby at_154)
    obtain ⟨rfl, Nq34, e34⟩ := hQ34
    have N34 := Fr.app N23 Nq34
    obtain ⟨fs, hr, hrun, hended, hEnd⟩ := (X34.mono (by decide : _ ≤ room_1.cells) (by decide : _ ≤ room_1.slots)).leaveW hS (by rw [e34]; exact hk) (v := some (vL 1)) (fun h => by rw [Bd.returns] at h; cases h)
    have CE := CHr.trans CH26 (CHv.at X34 hZ (own_EW hw) ch26.1)
    refine ⟨_, _, castTop (ef_rw_l m i0 i1 i2 i3 i4 i5) ?_, hrun, hended, _, _, rfl, ?_, ?_, hEnd⟩
    · refine pf13 _ <| pf22 _ <| pf27 _ <| zn X23 hx (hb hby at_147) (flt hc147).2.2.1 <| XS.aload X23.here hx rfl (hb hby at_150) rfl rfl <| XS.aload X23.here hx rfl (hb hby at_152) rfl rfl <| st34 _ ?_
      show Go p e w_ T34 m 157 (q_52 i0 i1 i2 i3 i4 i5 nn ua ub uc ud b5 xt mx cp xr) [(vL 1)] _
      exact retN X34 hx (t := .boolean) Bd.returns (by simp) (hb hby at_157) hr
    · show Ql h0 n0 _ T34.heap _
      rw [e34]
      exact ⟨rfl, N34⟩
    · show CHr Z EL0 s.vm s.heap T34.vm T34.heap
      rw [e34, hh]; exact CE
theorem own_dgt {a : Array Value} {s : State} (w1 : (Cond.exactly (.static "java/lang/Integer" "DigitOnes" "[B") "[B").before a s = true) (w2 : (Cond.eq (.length (.static "java/lang/Integer" "DigitOnes" "[B")) (.int 100)).before a s = true) (w3 : (Cond.all (.static "java/lang/Integer" "DigitOnes" "[B") (.eq (.elem (.static "java/lang/Integer" "DigitOnes" "[B") (.index 0)) (.add (.int 48) (.rem (.index 0) (.int 10))))).before a s = true) (wi : (Cond.initializedFor "java/lang/Integer" "DigitOnes" "[B").before a s = true) (wa : (Cond.arrayClass .byte).before a s = true) : ∃ dA kG, Dgt s dA kG := by
  obtain ⟨d, cB, D, kB, hev, hfcB, hcellD, hkB, hstatD, hclsD, -⟩ := Cond.exactly_spec w1
  have hl := Cond.eq_int w2 rfl
  obtain ⟨d', D', hev', harrAt, hlen⟩ := Term.length_spec hl
  cases hev.symm.trans hev'
  obtain ⟨hcellD', hknD, -, -⟩ := State.arrayAt?_spec harrAt
  cases hcellD.symm.trans hcellD'
  have h31 := Jvm.Free.SBG.length_lt hev harrAt hl
  have hsz : D.slots.size = 100 := by
    have q := congrArg Int32.toInt (Value.int.inj hlen)
    have q2 : (Nat.toInt32 D.slots.size).toInt = D.slots.size := Int32.toInt_ofNat_small h31
    rw [q2] at q
    have q3 : (100 : Int32).toInt = 100 := by decide
    rw [q3] at q; omega
  obtain ⟨cB', kB', comp, hnameB, hkB', hkindB⟩ := Cond.arrayClass_spec wa
  rw [show ("[" ++ FieldType.toString .byte) = "[B" by decide] at hnameB
  cases hfcB.symm.trans hnameB
  cases hkB.symm.trans hkB'
  have key : ∀ j : Fin 100, dgL.getD j.val 0 = (48 : Int32) + Int32.ofNat j.val % 10 ∧ fits .byte (.int (dgL.getD j.val 0)) = true := by decide +kernel
  have hg : ∀ r, r < 100 → (dgL.map Value.int).getD r (.int (0 : Int32)) = .int (dgL.getD r 0) := fun r hr => by
    have hr' : r < dgL.length := hr
    simp [List.getD_eq_getElem?_getD, hr']
  have hE : ∀ r, r < 100 → D.slots[r]? = some (.int (dgL.getD r 0)) := fun r hr => by
    have h := Cond.all_elim hev harrAt (show (Cond.all (.static "java/lang/Integer" "DigitOnes" "[B") (.eq (.elem (.static "java/lang/Integer" "DigitOnes" "[B") (.index 0)) (.add (.int 48) (.rem (.index 0) (.int 10))))).value a s none s [] = some true from Cond.before_iff.mp w3) r (by omega)
    have q := eqv_i (show (Term.add (.int 48) (.rem (.index 0) (.int 10))).eval a s none [r] s = some (.int ((48 : Int32) + Int32.ofNat r % 10)) from rfl) h
    obtain ⟨a', j', cell, ha', hj', hat, hin, hv⟩ := Term.elem_spec q
    have e1 : (Term.static "java/lang/Integer" "DigitOnes" "[B").eval a s none [r] s = (Term.static "java/lang/Integer" "DigitOnes" "[B").eval a s none [] s := by simp only [Term.eval]
    rw [e1] at ha'
    cases hev.symm.trans ha'
    cases harrAt.symm.trans hat
    cases (show (Term.index 0).eval a s none [r] s = some (.int (Int32.ofNat r)) from rfl).symm.trans hj'
    rw [own_n (by omega)] at hv
    rw [hv, (key ⟨r, hr⟩).1]
  refine ⟨d, D.cls, Sta.start hev (Or.inl wi), D, ⟨hcellD, ⟨(fun q h => by rw [h] at hstatD; cases hstatD), kB, (by rw [hclsD]; exact hkB), comp, hkindB⟩, hknD⟩, rfl, by rw [hsz]; decide, by decide, fun j hj => ?_, fun j hj => ?_⟩
  · rw [hsz] at hj; rw [hE j hj, hg j hj]
  · rw [hsz] at hj; rw [hg j hj]; exact (key ⟨j, hj⟩).2
theorem comes_1 {Post : Tables → Env → Array Value → State → Outcome → State → Prop} (hpost : ∀ tb e args s v u, (limb_1_1.after args s (.returned v) u = true ∧ limb_1_2.after args s (.returned v) u = true ∧ True) → ReturnedEndW s (.returned v) u (Jvm.fieldLocs frame_1_writes args s ++ Jvm.arrayLocs frame_1_arrays args s ++ Jvm.staticLocs frame_1_statics s) 56 5824 → Post tb e args s (.returned v) u) :
    ArmFor flags0 classFile x code maxLocals ret World_1 tables_1 room_1 Calls_1 rest_1 Pre_1 Post := by
  intro l hfl _ _ p e ha hc hk s m args w_ hf hA hF happ hP
  obtain ⟨hcalls, hrest, hpre⟩ := hP
  obtain ⟨-, -, -, hnamed, -, -, -, hat⟩ := (Spec.applies_iff hf).mp happ
  obtain ⟨hg, hn⟩ := and_e (Cond.before_iff.mp (show (Jvm.Cond.and given_1 narrow_1).before args s = true from hpre))
  obtain ⟨hcnt, hg⟩ := and_e hg
  obtain ⟨hg0, hg⟩ := and_e hg
  obtain ⟨hg1, hg⟩ := and_e hg
  obtain ⟨hg2, hg⟩ := and_e hg
  obtain ⟨hg3, hg⟩ := and_e hg
  obtain ⟨hg4, hg⟩ := and_e hg
  obtain ⟨w0, w1, w2, w3, w4, w5, rfl⟩ : ∃ w0 w1 w2 w3 w4 w5 : Value, args = #[w0, w1, w2, w3, w4, w5] := by
    have hs : args.size = 6 := by simpa [Cond.value, given_1] using hcnt
    obtain ⟨L⟩ := args
    match L, hs with
    | [w0, w1, w2, w3, w4, w5], _ => exact ⟨w0, w1, w2, w3, w4, w5, rfl⟩
  have hw := fun d (hd : d ∈ tables_1) => atoms_spec (ws := Jvm.Cond.code x code maxLocals ret :: tables_1) hat d (List.mem_cons_of_mem _ hd)
  obtain ⟨hsets, -⟩ := atoms_of _ (rest_1_c_eq ▸ (show rest_1_c.before _ s = true from hrest))
  obtain ⟨i0, ei0⟩ := is_v hg0
  obtain rfl : w0 = (.int i0) := Option.some.inj ei0
  obtain ⟨i1, ei1⟩ := is_v hg1
  obtain rfl : w1 = (.int i1) := Option.some.inj ei1
  obtain ⟨i2, ei2⟩ := is_v hg2
  obtain rfl : w2 = (.int i2) := Option.some.inj ei2
  obtain ⟨i3, ei3⟩ := is_v hg3
  obtain rfl : w3 = (.int i3) := Option.some.inj ei3
  obtain ⟨i4, ei4⟩ := is_v hg4
  obtain rfl : w4 = (.int i4) := Option.some.inj ei4
  obtain ⟨i5, ei5⟩ := is_v hg
  obtain rfl : w5 = (.int i5) := Option.some.inj ei5
  obtain ⟨G1, evG⟩ := is_v (Cond.before_iff.mp (hsets _ (List.mem_of_getElem? (i := 1) rfl)))
  have SG := Sta.start evG (Or.inl (hsets _ (List.mem_of_getElem? (i := 0) rfl)))
  have wcp := (hsets _ (List.mem_of_getElem? (i := 2) rfl))
  have hG : ¬ G1 = 0 := gotF (Cond.eq_ints evG (Term.int_eval _)) (not_v (Cond.before_iff.mp wcp))
  obtain ⟨Fm, evF, hFm⟩ := isR_v (Cond.before_iff.mp (hsets _ (List.mem_of_getElem? (i := 8) rfl)))
  have SF := Sta.start evF (Or.inl (hsets _ (List.mem_of_getElem? (i := 7) rfl)))
  have SA := Sta.start (eqv_i (Term.int_eval _) (Cond.before_iff.mp (hsets _ (List.mem_of_getElem? (i := 12) rfl)))) (Or.inl (hsets _ (List.mem_of_getElem? (i := 11) rfl)))
  have SH := Sta.start (eqv_i (Term.int_eval _) (Cond.before_iff.mp (hsets _ (List.mem_of_getElem? (i := 15) rfl)))) (Or.inl (hsets _ (List.mem_of_getElem? (i := 14) rfl)))
  have SL := Sta.start (eqv_i (Term.int_eval _) (Cond.before_iff.mp (hsets _ (List.mem_of_getElem? (i := 18) rfl)))) (Or.inl (hsets _ (List.mem_of_getElem? (i := 17) rfl)))
  obtain ⟨dA, kG, DG⟩ := own_dgt (hsets _ (List.mem_of_getElem? (i := 22) rfl)) (hsets _ (List.mem_of_getElem? (i := 23) rfl)) (hsets _ (List.mem_of_getElem? (i := 24) rfl)) (hsets _ (List.mem_of_getElem? (i := 21) rfl)) (tw hw 26 rfl)
  have CV : CHv s EL0 s.vm s.heap := CHv.start (own_EW hw) (fun p hp => hcalls.1 p hp) wcp (tw hw 26 rfl) (tw hw 13 rfl)
  obtain ⟨n, o, h1, h2, h3, _, L, rfl, ⟨rfl, N⟩, -, hq⟩ := rw_l (l := l) (ws := tables_1) hw (Old.start s) ⟨SG, hG, SF, hFm, SA, SH, SL⟩ dA kG i0 i1 i2 i3 i4 i5 DG p e ha hc hk s m _ w_ hf ((Spec.applies_iff_loose hf).mp happ).1 ⟨rfl, State.Warmed39.refl s, rfl, CV⟩ trivial
  refine ⟨n, _, h1, h2, h3, hpost _ _ _ _ _ _ ⟨Cond.after_iff.mpr rfl, Cond.after_iff.mpr (eq_i res_at (Term.int_eval (1)) rfl), trivial⟩ ⟨hq.1, hq.2.1, hq.2.2.1, (hq.2.2.2.sift fun y hy => Or.inr (N y hy)).mono (by decide) (by decide)⟩⟩
theorem main_1_1 : Claimed_1_1 := comes_1 fun _ _ _ _ _ _ h hF => ⟨h.1, hF⟩
theorem main_1_2 : Claimed_1_2 := comes_1 fun _ _ _ _ _ _ h hF => ⟨h.2.1, hF⟩
end Jvm.Pilot.@@N@@
namespace Jvm.Pilot.@@N@@
open Jvm Jvm.ClassFile Sem Op Lib Jvm.Free Jvm.Stand Jvm.Pilot.@@N@@.Jvm.D
/-! MADE BY PROGRAM (witnessworld.py) out of the Statement's table words and the real class files: 30 classes; the members and pool entries that the words name. The judged class is class 1, her method 1. -/
namespace start1
open Jvm.ClassFile
def u (s : String) : CpInfo := .utf8 (stringToUtf16 s)
/-- a pool by its gaps: so many unusable entries, then the entry; so many at the end -/
def gap : Nat → List CpInfo → List CpInfo
  | 0, r => r
  | n + 1, r => .unusable :: gap n r
def poolList (es : List (Nat × CpInfo)) (last : Nat) : List CpInfo := es.foldr (fun e r => gap e.1 (e.2 :: r)) (gap last [])
def pool (es : List (Nat × CpInfo)) (last : Nat) : Array CpInfo := ⟨poolList es last⟩
def fileOf (pool : Array CpInfo) (this : Nat) (attrs : Array Attribute := #[]) (ms : Array MethodInfo := #[]) (fl : Nat := 33) (sup : Nat := 0) (ifs : Array Nat := #[]) (fds : Array FieldInfo := #[]) : ClassFile where
  minorVersion := 0
  majorVersion := 65
  constantPool := pool
  accessFlags := fl
  thisClass := this
  superClass := sup
  interfaces := ifs
  fields := fds
  methods := ms
  attributes := attrs
def plain (name : String) (sup : Option ClassId) : Class where
  name := name
  kind := .ordinary
  loader := none
  accessFlags := 33
  super := sup
  interfaces := #[]
  cf := none
  fields := #[]
  methods := #[]
  instanceTypes := #[]
  staticTypes := #[]
  resolved := #[]
  callSites := []
  init := .initialized
  statics := none
  mirror := none

def pool0 : Array CpInfo := pool [(5, u "<init>"), (0, u "()V"), (1, .class_ 10), (1, u "java/lang/Object")] 113

def k0c0 : Code := { maxStack := 0, maxLocals := 1, code := object_method_1_code, exceptionTable := #[], attributes := #[] }
def k0m0 : Method := { name := "<init>", desc := "()V", sig := { parameters := [], returnType := none }, accessFlags := 1, code := some k0c0 }
/-- java/lang/Object -/
def k0 : Class := { plain "java/lang/Object" none with
  accessFlags := 33
  interfaces := #[]
  cf := some (fileOf pool0 8 #[] #[{ accessFlags := 1, nameIndex := 5, descriptorIndex := 6, attributes := #[] }] 33 0 #[] #[])
  fields := #[]
  methods := #[k0m0]
  instanceTypes := #[]
  staticTypes := #[]
  resolved := Array.replicate 124 none
  statics := none }

def pool1 : Array CpInfo := pool [(2, .class_ 4), (1, u "java/lang/Object"), (0, u "<init>"), (0, u "()V"), (0, .integer 2147483647), (0, .methodref 9 10), (0, .class_ 11), (0, .nameAndType 12 13), (0, u "com/example/downtally/downtally/cli/VisibleTextShortenedPinLaw"), (0, u "ch"), (0, u "(I)C"), (0, .methodref 9 15), (0, .nameAndType 16 17), (0, u "text"), (0, u "(ICCCC)Ljava/lang/String;"), (0, .integer 1073741824), (0, .methodref 9 20), (0, .nameAndType 21 22), (0, u "pair"), (0, u "([CII)I"), (0, .methodref 24 25), (0, .class_ 26), (0, .nameAndType 27 28), (0, u "com/example/downtally/downtally/cli/VisibleText"), (0, u "shortened"), (0, u "(Ljava/lang/String;I)Ljava/lang/String;"), (0, .methodref 30 31), (0, .class_ 32), (0, .nameAndType 33 34), (0, u "java/lang/String"), (0, u "equals"), (0, u "(Ljava/lang/Object;)Z"), (0, .methodref 9 36), (0, .nameAndType 37 22), (0, u "step"), (0, .methodref 9 39), (0, .nameAndType 40 17), (0, u "expected"), (0, .integer 55296), (0, .integer 56320), (0, .integer 65535), (0, .integer 56319), (0, .integer 57343), (0, .methodref 9 47), (0, .nameAndType 48 49), (0, u "high"), (0, u "(C)Z"), (0, .methodref 9 51), (0, .nameAndType 52 49), (0, u "low"), (0, .methodref 30 54), (0, .nameAndType 5 55), (0, u "([C)V"), (2, u "law"), (0, u "(IIIIII)Z")] 5

def k1m0 : Method := { name := "<init>", desc := "()V", sig := { parameters := [], returnType := none }, accessFlags := 1, code := none }
def k1c1 : Code := { maxStack := 6, maxLocals := 18, code := code, exceptionTable := #[], attributes := #[] }
def k1m1 : Method := { name := "law", desc := "(IIIIII)Z", sig := { parameters := [.int, .int, .int, .int, .int, .int], returnType := some .boolean }, accessFlags := 9, code := some k1c1 }
def k1c2 : Code := { maxStack := 3, maxLocals := 3, code := method_3_code, exceptionTable := #[], attributes := #[] }
def k1m2 : Method := { name := "ch", desc := "(I)C", sig := { parameters := [.int], returnType := some .char }, accessFlags := 10, code := some k1c2 }
def k1c3 : Code := { maxStack := 2, maxLocals := 1, code := method_4_code, exceptionTable := #[], attributes := #[] }
def k1m3 : Method := { name := "high", desc := "(C)Z", sig := { parameters := [.char], returnType := some .boolean }, accessFlags := 10, code := some k1c3 }
def k1c4 : Code := { maxStack := 2, maxLocals := 1, code := method_5_code, exceptionTable := #[], attributes := #[] }
def k1m4 : Method := { name := "low", desc := "(C)Z", sig := { parameters := [.char], returnType := some .boolean }, accessFlags := 10, code := some k1c4 }
def k1c5 : Code := { maxStack := 3, maxLocals := 3, code := method_6_code, exceptionTable := #[], attributes := #[] }
def k1m5 : Method := { name := "pair", desc := "([CII)I", sig := { parameters := [(.array .char), .int, .int], returnType := some .int }, accessFlags := 10, code := some k1c5 }
def k1c6 : Code := { maxStack := 3, maxLocals := 3, code := method_7_code, exceptionTable := #[], attributes := #[] }
def k1m6 : Method := { name := "step", desc := "([CII)I", sig := { parameters := [(.array .char), .int, .int], returnType := some .int }, accessFlags := 10, code := some k1c6 }
def k1c7 : Code := { maxStack := 6, maxLocals := 5, code := method_8_code, exceptionTable := #[], attributes := #[] }
def k1m7 : Method := { name := "text", desc := "(ICCCC)Ljava/lang/String;", sig := { parameters := [.int, .char, .char, .char, .char], returnType := some (.object "java/lang/String") }, accessFlags := 10, code := some k1c7 }
def k1c8 : Code := { maxStack := 6, maxLocals := 5, code := method_9_code, exceptionTable := #[], attributes := #[] }
def k1m8 : Method := { name := "expected", desc := "(ICCCC)Ljava/lang/String;", sig := { parameters := [.int, .char, .char, .char, .char], returnType := some (.object "java/lang/String") }, accessFlags := 10, code := some k1c8 }
/-- com/example/downtally/downtally/cli/VisibleTextShortenedPinLaw -/
def k1 : Class := { plain "com/example/downtally/downtally/cli/VisibleTextShortenedPinLaw" (some 0) with
  accessFlags := 49
  interfaces := #[]
  cf := some (fileOf pool1 9 #[] #[{ accessFlags := 1, nameIndex := 5, descriptorIndex := 6, attributes := #[] }, { accessFlags := 9, nameIndex := 58, descriptorIndex := 59, attributes := #[] }, { accessFlags := 10, nameIndex := 12, descriptorIndex := 13, attributes := #[] }, { accessFlags := 10, nameIndex := 48, descriptorIndex := 49, attributes := #[] }, { accessFlags := 10, nameIndex := 52, descriptorIndex := 49, attributes := #[] }, { accessFlags := 10, nameIndex := 21, descriptorIndex := 22, attributes := #[] }, { accessFlags := 10, nameIndex := 37, descriptorIndex := 22, attributes := #[] }, { accessFlags := 10, nameIndex := 16, descriptorIndex := 17, attributes := #[] }, { accessFlags := 10, nameIndex := 40, descriptorIndex := 17, attributes := #[] }] 49 2 #[] #[])
  fields := #[]
  methods := #[k1m0, k1m1, k1m2, k1m3, k1m4, k1m5, k1m6, k1m7, k1m8]
  instanceTypes := #[]
  staticTypes := #[]
  resolved := Array.replicate 65 none
  statics := none }

def pool2 : Array CpInfo := pool [(1, .class_ 2), (0, u "java/io/Serializable"), (0, .class_ 4), (0, u "java/lang/Object")] 2

/-- java/io/Serializable -/
def k2 : Class := { plain "java/io/Serializable" (some 0) with
  accessFlags := 1537
  interfaces := #[]
  cf := some (fileOf pool2 1 #[] #[] 1537 3 #[] #[])
  fields := #[]
  methods := #[]
  instanceTypes := #[]
  staticTypes := #[]
  resolved := Array.replicate 7 none
  statics := none }

def pool3 : Array CpInfo := pool [(1, .class_ 2), (0, u "java/lang/Comparable"), (0, .class_ 4), (0, u "java/lang/Object")] 7

/-- java/lang/Comparable -/
def k3 : Class := { plain "java/lang/Comparable" (some 0) with
  accessFlags := 1537
  interfaces := #[]
  cf := some (fileOf pool3 1 #[] #[] 1537 3 #[] #[])
  fields := #[]
  methods := #[]
  instanceTypes := #[]
  staticTypes := #[]
  resolved := Array.replicate 12 none
  statics := none }

def pool4 : Array CpInfo := pool [(2, .class_ 4), (1, u "java/lang/CharSequence"), (0, u "length"), (0, u "()I"), (38, u "charAt"), (0, u "(I)C"), (0, .class_ 48), (0, u "java/lang/CharSequence$1CodePointIterator"), (10, .class_ 60), (0, u "java/lang/CharSequence$1CharIterator"), (5, .class_ 67), (0, u "java/lang/Object")] 63

def k4m0 : Method := { name := "length", desc := "()I", sig := { parameters := [], returnType := some .int }, accessFlags := 1025, code := none }
def k4m1 : Method := { name := "charAt", desc := "(I)C", sig := { parameters := [.int], returnType := some .char }, accessFlags := 1025, code := none }
/-- java/lang/CharSequence -/
def k4 : Class := { plain "java/lang/CharSequence" (some 0) with
  accessFlags := 1537
  interfaces := #[]
  cf := some (fileOf pool4 2 #[.nestMembers #[47, 59]] #[{ accessFlags := 1025, nameIndex := 5, descriptorIndex := 6, attributes := #[] }, { accessFlags := 1025, nameIndex := 45, descriptorIndex := 46, attributes := #[] }] 1537 66 #[] #[])
  fields := #[]
  methods := #[k4m0, k4m1]
  instanceTypes := #[]
  staticTypes := #[]
  resolved := Array.replicate 131 none
  statics := none }

def pool5 : Array CpInfo := pool [(1, .class_ 2), (0, u "java/lang/constant/Constable"), (0, .class_ 4), (0, u "java/lang/Object")] 6

/-- java/lang/constant/Constable -/
def k5 : Class := { plain "java/lang/constant/Constable" (some 0) with
  accessFlags := 1537
  interfaces := #[]
  cf := some (fileOf pool5 1 #[] #[] 1537 3 #[] #[])
  fields := #[]
  methods := #[]
  instanceTypes := #[]
  staticTypes := #[]
  resolved := Array.replicate 11 none
  statics := none }

def pool6 : Array CpInfo := pool [(1, .class_ 2), (0, u "java/lang/constant/ConstantDesc"), (0, .class_ 4), (0, u "java/lang/Object")] 32

/-- java/lang/constant/ConstantDesc -/
def k6 : Class := { plain "java/lang/constant/ConstantDesc" (some 0) with
  accessFlags := 1537
  interfaces := #[]
  cf := some (fileOf pool6 1 #[] #[] 1537 3 #[] #[])
  fields := #[]
  methods := #[]
  instanceTypes := #[]
  staticTypes := #[]
  resolved := Array.replicate 37 none
  statics := none }

def pool7 : Array CpInfo := pool [(1, .methodref 2 3), (0, .class_ 4), (0, .nameAndType 5 6), (0, u "java/lang/Object"), (0, u "<init>"), (0, u "()V"), (0, .string 8), (0, u ""), (0, .fieldref 10 11), (0, .class_ 12), (0, .nameAndType 13 14), (0, u "java/lang/String"), (0, u "value"), (0, u "[B"), (0, .fieldref 10 16), (0, .nameAndType 17 18), (0, u "coder"), (0, u "B"), (2, u "hash"), (0, u "I"), (2, u "hashIsZero"), (0, u "Z"), (0, .methodref 10 28), (0, .nameAndType 5 29), (0, u "([CIILjava/lang/Void;)V"), (6, u "checkBoundsOffCount"), (0, u "(III)I"), (0, .fieldref 10 39), (0, .nameAndType 40 26), (0, u "COMPACT_STRINGS"), (1, .class_ 44), (1, u "java/lang/StringUTF16"), (0, u "compress"), (1, .methodref 42 48), (0, .nameAndType 49 50), (0, u "coderFromArrayLen"), (0, u "([BI)B"), (3, .methodref 55 56), (0, .class_ 57), (0, .nameAndType 58 59), (0, u "java/util/Arrays"), (0, u "copyOfRange"), (0, u "([BII)[B"), (19, .class_ 81), (1, u "java/util/Objects"), (15, u "([BII)I"), (8, .methodref 107 108), (0, .class_ 109), (0, .nameAndType 110 111), (0, u "java/lang/StringLatin1"), (0, u "inflate"), (0, u "([BI[BII)V"), (30, u "()Z"), (34, .methodref 42 178), (0, .nameAndType 45 179), (0, u "([CII)[B"), (13, .class_ 195), (1, u "java/lang/System"), (15, u "([BB)V"), (0, .methodref 193 213), (0, .nameAndType 214 215), (0, u "arraycopy"), (0, u "(Ljava/lang/Object;ILjava/lang/Object;II)V"), (118, u "()I"), (0, .methodref 10 336), (0, .nameAndType 17 337), (0, u "()B"), (2, u "()[B"), (22, u "([BI)C"), (1, .class_ 367), (1, u "java/lang/Character"), (23, u "(II)V"), (35, u "(I)C"), (61, .methodref 10 490), (0, .nameAndType 5 491), (0, u "(Ljava/lang/AbstractStringBuilder;Ljava/lang/Void;)V"), (0, .methodref 10 493), (0, .nameAndType 494 142), (0, u "isLatin1"), (0, .methodref 107 496), (0, .nameAndType 497 363), (0, u "charAt"), (0, .methodref 42 496), (2, u "checkIndex"), (3, .methodref 10 506), (0, .nameAndType 507 334), (0, u "length"), (3, .methodref 79 512), (0, .nameAndType 513 37), (0, u "checkFromToIndex"), (0, .methodref 42 515), (0, .nameAndType 516 97), (0, u "codePointCount"), (0, .methodref 365 518), (0, .nameAndType 519 520), (0, u "offsetByCodePoints"), (0, u "(Ljava/lang/CharSequence;II)I"), (0, .methodref 10 522), (0, .nameAndType 523 524), (0, u "checkBoundsBeginEnd"), (0, u "(III)V"), (7, u "getBytes"), (8, .methodref 107 542), (0, .nameAndType 543 544), (0, u "equals"), (0, u "([B[B)Z"), (4, .methodref 550 506), (0, .class_ 551), (0, u "java/lang/AbstractStringBuilder"), (0, .methodref 550 553), (0, .nameAndType 554 340), (0, u "getValue"), (18, u "(Ljava/lang/Object;)Z"), (1, .class_ 576), (0, u "java/lang/CharSequence"), (22, u "CASE_INSENSITIVE_ORDER"), (0, u "Ljava/util/Comparator;"), (35, u "(II)I"), (46, u "substring"), (0, u "(II)Ljava/lang/String;"), (0, .methodref 107 686), (0, .nameAndType 687 688), (0, u "newString"), (0, u "([BII)Ljava/lang/String;"), (0, .methodref 42 686), (131, u "([BIB)V"), (188, u "([C)V"), (36, .methodref 550 493), (0, .fieldref 550 1049), (0, .nameAndType 1050 26), (0, u "maybeLatin1"), (2, .fieldref 1054 1055), (0, .class_ 1056), (0, .nameAndType 1057 1058), (0, u "jdk/internal/util/Preconditions"), (0, u "SIOOBE_FORMATTER"), (0, u "Ljava/util/function/BiFunction;"), (0, .methodref 1054 1060), (0, .nameAndType 501 1061), (0, u "(IILjava/util/function/BiFunction;)I"), (0, .methodref 1054 1063), (0, .nameAndType 513 1064), (0, u "(IIILjava/util/function/BiFunction;)I"), (0, .methodref 1054 1066), (0, .nameAndType 1067 1064), (0, u "checkFromIndexSize"), (33, u "serialPersistentFields"), (0, u "[Ljava/io/ObjectStreamField;"), (0, .class_ 1104), (0, u "java/lang/String$CaseInsensitiveComparator"), (1, .class_ 1107), (0, u "java/io/Serializable"), (0, .class_ 1109), (0, u "java/lang/Comparable"), (0, .class_ 1111), (0, u "java/lang/constant/Constable"), (0, .class_ 1113), (0, u "java/lang/constant/ConstantDesc"), (2, u "serialVersionUID"), (0, u "J"), (3, u "REPL"), (0, u "C"), (2, u "LATIN1"), (1, u "UTF16"), (105, u "(Ljava/lang/StringBuilder;)V")] 217

def k7m0 : Method := { name := "<init>", desc := "()V", sig := { parameters := [], returnType := none }, accessFlags := 1, code := none }
def k7c1 : Code := { maxStack := 5, maxLocals := 2, code := jdk_42_method_3_code, exceptionTable := #[], attributes := #[] }
def k7m1 : Method := { name := "<init>", desc := "([C)V", sig := { parameters := [(.array .char)], returnType := none }, accessFlags := 1, code := some k7c1 }
def k7c2 : Code := { maxStack := 3, maxLocals := 2, code := jdk_42_method_53_code, exceptionTable := #[], attributes := #[] }
def k7m2 : Method := { name := "<init>", desc := "(Ljava/lang/StringBuilder;)V", sig := { parameters := [(.object "java/lang/StringBuilder")], returnType := none }, accessFlags := 1, code := some k7c2 }
def k7c3 : Code := { maxStack := 2, maxLocals := 1, code := jdk_42_method_54_code, exceptionTable := #[], attributes := #[] }
def k7m3 : Method := { name := "length", desc := "()I", sig := { parameters := [], returnType := some .int }, accessFlags := 1, code := some k7c3 }
def k7c4 : Code := { maxStack := 2, maxLocals := 2, code := jdk_42_method_56_code, exceptionTable := #[], attributes := #[] }
def k7m4 : Method := { name := "charAt", desc := "(I)C", sig := { parameters := [.int], returnType := some .char }, accessFlags := 1, code := some k7c4 }
def k7c5 : Code := { maxStack := 3, maxLocals := 3, code := jdk_42_method_59_code, exceptionTable := #[], attributes := #[] }
def k7m5 : Method := { name := "codePointCount", desc := "(II)I", sig := { parameters := [.int, .int], returnType := some .int }, accessFlags := 1, code := some k7c5 }
def k7c6 : Code := { maxStack := 3, maxLocals := 3, code := jdk_42_method_60_code, exceptionTable := #[], attributes := #[] }
def k7m6 : Method := { name := "offsetByCodePoints", desc := "(II)I", sig := { parameters := [.int, .int], returnType := some .int }, accessFlags := 1, code := some k7c6 }
def k7c7 : Code := { maxStack := 2, maxLocals := 3, code := jdk_42_method_66_code, exceptionTable := #[], attributes := #[] }
def k7m7 : Method := { name := "equals", desc := "(Ljava/lang/Object;)Z", sig := { parameters := [(.object "java/lang/Object")], returnType := some .boolean }, accessFlags := 1, code := some k7c7 }
def k7c8 : Code := { maxStack := 3, maxLocals := 5, code := jdk_42_method_92_code, exceptionTable := #[], attributes := #[] }
def k7m8 : Method := { name := "substring", desc := "(II)Ljava/lang/String;", sig := { parameters := [.int, .int], returnType := some (.object "java/lang/String") }, accessFlags := 1, code := some k7c8 }
def k7c9 : Code := { maxStack := 5, maxLocals := 4, code := jdk_42_method_147_code, exceptionTable := #[], attributes := #[] }
def k7m9 : Method := { name := "getBytes", desc := "([BIB)V", sig := { parameters := [(.array .byte), .int, .byte], returnType := none }, accessFlags := 0, code := some k7c9 }
def k7c10 : Code := { maxStack := 4, maxLocals := 6, code := jdk_42_method_149_code, exceptionTable := #[], attributes := #[] }
def k7m10 : Method := { name := "<init>", desc := "([CIILjava/lang/Void;)V", sig := { parameters := [(.array .char), .int, .int, (.object "java/lang/Void")], returnType := none }, accessFlags := 2, code := some k7c10 }
def k7c11 : Code := { maxStack := 5, maxLocals := 5, code := jdk_42_method_150_code, exceptionTable := #[], attributes := #[] }
def k7m11 : Method := { name := "<init>", desc := "(Ljava/lang/AbstractStringBuilder;Ljava/lang/Void;)V", sig := { parameters := [(.object "java/lang/AbstractStringBuilder"), (.object "java/lang/Void")], returnType := none }, accessFlags := 0, code := some k7c11 }
def k7c12 : Code := { maxStack := 2, maxLocals := 3, code := jdk_42_method_151_code, exceptionTable := #[], attributes := #[] }
def k7m12 : Method := { name := "<init>", desc := "([BB)V", sig := { parameters := [(.array .byte), .byte], returnType := none }, accessFlags := 0, code := some k7c12 }
def k7c13 : Code := { maxStack := 1, maxLocals := 1, code := jdk_42_method_152_code, exceptionTable := #[], attributes := #[] }
def k7m13 : Method := { name := "coder", desc := "()B", sig := { parameters := [], returnType := some .byte }, accessFlags := 0, code := some k7c13 }
def k7c14 : Code := { maxStack := 1, maxLocals := 1, code := jdk_42_method_154_code, exceptionTable := #[], attributes := #[] }
def k7m14 : Method := { name := "isLatin1", desc := "()Z", sig := { parameters := [], returnType := some .boolean }, accessFlags := 0, code := some k7c14 }
def k7c15 : Code := { maxStack := 3, maxLocals := 2, code := jdk_42_method_155_code, exceptionTable := #[], attributes := #[] }
def k7m15 : Method := { name := "checkIndex", desc := "(II)V", sig := { parameters := [.int, .int], returnType := none }, accessFlags := 8, code := some k7c15 }
def k7c16 : Code := { maxStack := 4, maxLocals := 3, code := jdk_42_method_157_code, exceptionTable := #[], attributes := #[] }
def k7m16 : Method := { name := "checkBoundsOffCount", desc := "(III)I", sig := { parameters := [.int, .int, .int], returnType := some .int }, accessFlags := 8, code := some k7c16 }
def k7c17 : Code := { maxStack := 4, maxLocals := 3, code := jdk_42_method_158_code, exceptionTable := #[], attributes := #[] }
def k7m17 : Method := { name := "checkBoundsBeginEnd", desc := "(III)V", sig := { parameters := [.int, .int, .int], returnType := none }, accessFlags := 8, code := some k7c17 }
/-- java/lang/String -/
def k7 : Class := { plain "java/lang/String" (some 0) with
  accessFlags := 49
  interfaces := #[2, 3, 4, 5, 6]
  cf := some (fileOf pool7 10 #[.nestMembers #[1103]] #[{ accessFlags := 1, nameIndex := 5, descriptorIndex := 6, attributes := #[] }, { accessFlags := 1, nameIndex := 5, descriptorIndex := 1010, attributes := #[] }, { accessFlags := 1, nameIndex := 5, descriptorIndex := 1233, attributes := #[] }, { accessFlags := 1, nameIndex := 507, descriptorIndex := 334, attributes := #[] }, { accessFlags := 1, nameIndex := 497, descriptorIndex := 427, attributes := #[] }, { accessFlags := 1, nameIndex := 516, descriptorIndex := 636, attributes := #[] }, { accessFlags := 1, nameIndex := 519, descriptorIndex := 636, attributes := #[] }, { accessFlags := 1, nameIndex := 543, descriptorIndex := 573, attributes := #[] }, { accessFlags := 1, nameIndex := 683, descriptorIndex := 684, attributes := #[] }, { accessFlags := 0, nameIndex := 532, descriptorIndex := 821, attributes := #[] }, { accessFlags := 2, nameIndex := 5, descriptorIndex := 29, attributes := #[] }, { accessFlags := 0, nameIndex := 5, descriptorIndex := 491, attributes := #[] }, { accessFlags := 0, nameIndex := 5, descriptorIndex := 211, attributes := #[] }, { accessFlags := 0, nameIndex := 17, descriptorIndex := 337, attributes := #[] }, { accessFlags := 0, nameIndex := 494, descriptorIndex := 142, attributes := #[] }, { accessFlags := 8, nameIndex := 501, descriptorIndex := 391, attributes := #[] }, { accessFlags := 8, nameIndex := 36, descriptorIndex := 37, attributes := #[] }, { accessFlags := 8, nameIndex := 523, descriptorIndex := 524, attributes := #[] }] 49 2 #[1106, 1108, 575, 1110, 1112] #[{ accessFlags := 18, nameIndex := 13, descriptorIndex := 14, attributes := #[] }, { accessFlags := 18, nameIndex := 17, descriptorIndex := 18, attributes := #[] }, { accessFlags := 2, nameIndex := 21, descriptorIndex := 22, attributes := #[] }, { accessFlags := 2, nameIndex := 25, descriptorIndex := 26, attributes := #[] }, { accessFlags := 26, nameIndex := 1116, descriptorIndex := 1117, attributes := #[] }, { accessFlags := 24, nameIndex := 40, descriptorIndex := 26, attributes := #[] }, { accessFlags := 26, nameIndex := 1101, descriptorIndex := 1102, attributes := #[] }, { accessFlags := 26, nameIndex := 1121, descriptorIndex := 1122, attributes := #[] }, { accessFlags := 25, nameIndex := 599, descriptorIndex := 600, attributes := #[] }, { accessFlags := 24, nameIndex := 1125, descriptorIndex := 18, attributes := #[] }, { accessFlags := 24, nameIndex := 1127, descriptorIndex := 18, attributes := #[] }])
  fields := #[{ name := "value", type := (.array .byte), accessFlags := 18, slot := 0, constantValue := 0 }, { name := "coder", type := .byte, accessFlags := 18, slot := 1, constantValue := 0 }, { name := "hash", type := .int, accessFlags := 2, slot := 2, constantValue := 0 }, { name := "hashIsZero", type := .boolean, accessFlags := 2, slot := 3, constantValue := 0 }, { name := "serialVersionUID", type := .long, accessFlags := 26, slot := 0, constantValue := 0 }, { name := "COMPACT_STRINGS", type := .boolean, accessFlags := 24, slot := 1, constantValue := 0 }, { name := "serialPersistentFields", type := (.array (.object "java/io/ObjectStreamField")), accessFlags := 26, slot := 2, constantValue := 0 }, { name := "REPL", type := .char, accessFlags := 26, slot := 3, constantValue := 0 }, { name := "CASE_INSENSITIVE_ORDER", type := (.object "java/util/Comparator"), accessFlags := 25, slot := 4, constantValue := 0 }, { name := "LATIN1", type := .byte, accessFlags := 24, slot := 5, constantValue := 0 }, { name := "UTF16", type := .byte, accessFlags := 24, slot := 6, constantValue := 0 }]
  methods := #[k7m0, k7m1, k7m2, k7m3, k7m4, k7m5, k7m6, k7m7, k7m8, k7m9, k7m10, k7m11, k7m12, k7m13, k7m14, k7m15, k7m16, k7m17]
  instanceTypes := #[(.array .byte), .byte, .int, .boolean]
  staticTypes := #[.long, .boolean, (.array (.object "java/io/ObjectStreamField")), .char, (.object "java/util/Comparator"), .byte, .byte]
  resolved := Array.replicate 1451 none
  statics := some 0 }

def pool8 : Array CpInfo := pool [(2, .class_ 4), (1, u "java/lang/Object"), (0, u "<init>"), (0, u "()V"), (0, .class_ 8), (0, u "java/lang/StringBuilder"), (0, .methodref 10 11), (0, .class_ 12), (0, .nameAndType 13 14), (0, u "java/lang/String"), (0, u "length"), (0, u "()I"), (4, .class_ 21), (1, u "com/example/downtally/downtally/cli/VisibleText"), (2, .methodref 7 25), (0, .nameAndType 26 27), (0, u "toString"), (0, u "()Ljava/lang/String;"), (0, .methodref 10 29), (0, .nameAndType 30 31), (0, u "codePointCount"), (0, u "(II)I"), (0, .methodref 19 33), (0, .nameAndType 34 35), (0, u "head"), (0, u "(Ljava/lang/String;I)Ljava/lang/String;"), (2, u "append"), (1, .methodref 19 41), (0, .nameAndType 42 43), (0, u "appendLength"), (0, u "(Ljava/lang/StringBuilder;I)Ljava/lang/StringBuilder;"), (0, .methodref 7 45), (0, .nameAndType 5 46), (0, u "(Ljava/lang/String;)V"), (0, .methodref 10 48), (0, .nameAndType 49 31), (0, u "offsetByCodePoints"), (0, .methodref 10 51), (0, .nameAndType 52 53), (0, u "substring"), (0, u "(II)Ljava/lang/String;"), (0, .string 55), (0, u "... ("), (0, .methodref 7 57), (0, .nameAndType 38 58), (0, u "(Ljava/lang/String;)Ljava/lang/StringBuilder;"), (0, .methodref 7 60), (0, .nameAndType 38 61), (0, u "(I)Ljava/lang/StringBuilder;"), (0, .string 63), (0, u " characters)"), (30, u "HEX"), (0, u "Ljava/util/HexFormat;"), (16, u "MAX_QUOTED"), (0, u "I"), (2, u "QUOTED_HEAD"), (7, u "shortened")] 5

def k8m0 : Method := { name := "<init>", desc := "()V", sig := { parameters := [], returnType := none }, accessFlags := 2, code := none }
def k8c1 : Code := { maxStack := 4, maxLocals := 4, code := prog_21_method_4_code, exceptionTable := #[], attributes := #[] }
def k8m1 : Method := { name := "shortened", desc := "(Ljava/lang/String;I)Ljava/lang/String;", sig := { parameters := [(.object "java/lang/String"), .int], returnType := some (.object "java/lang/String") }, accessFlags := 8, code := some k8c1 }
def k8c2 : Code := { maxStack := 5, maxLocals := 2, code := prog_21_method_5_code, exceptionTable := #[], attributes := #[] }
def k8m2 : Method := { name := "head", desc := "(Ljava/lang/String;I)Ljava/lang/String;", sig := { parameters := [(.object "java/lang/String"), .int], returnType := some (.object "java/lang/String") }, accessFlags := 10, code := some k8c2 }
def k8c3 : Code := { maxStack := 2, maxLocals := 2, code := prog_21_method_6_code, exceptionTable := #[], attributes := #[] }
def k8m3 : Method := { name := "appendLength", desc := "(Ljava/lang/StringBuilder;I)Ljava/lang/StringBuilder;", sig := { parameters := [(.object "java/lang/StringBuilder"), .int], returnType := some (.object "java/lang/StringBuilder") }, accessFlags := 10, code := some k8c3 }
/-- com/example/downtally/downtally/cli/VisibleText -/
def k8 : Class := { plain "com/example/downtally/downtally/cli/VisibleText" (some 0) with
  accessFlags := 48
  interfaces := #[]
  cf := some (fileOf pool8 19 #[] #[{ accessFlags := 2, nameIndex := 5, descriptorIndex := 6, attributes := #[] }, { accessFlags := 8, nameIndex := 124, descriptorIndex := 35, attributes := #[] }, { accessFlags := 10, nameIndex := 34, descriptorIndex := 35, attributes := #[] }, { accessFlags := 10, nameIndex := 42, descriptorIndex := 43, attributes := #[] }] 48 2 #[] #[{ accessFlags := 26, nameIndex := 112, descriptorIndex := 113, attributes := #[] }, { accessFlags := 26, nameIndex := 116, descriptorIndex := 113, attributes := #[] }, { accessFlags := 26, nameIndex := 94, descriptorIndex := 95, attributes := #[] }])
  fields := #[{ name := "MAX_QUOTED", type := .int, accessFlags := 26, slot := 0, constantValue := 0 }, { name := "QUOTED_HEAD", type := .int, accessFlags := 26, slot := 1, constantValue := 0 }, { name := "HEX", type := (.object "java/util/HexFormat"), accessFlags := 26, slot := 2, constantValue := 0 }]
  methods := #[k8m0, k8m1, k8m2, k8m3]
  instanceTypes := #[]
  staticTypes := #[.int, .int, (.object "java/util/HexFormat")]
  resolved := Array.replicate 130 none
  statics := none }

def pool9 : Array CpInfo := pool [(2, .class_ 4), (1, u "java/lang/Object"), (0, u "<init>"), (0, u "()V"), (35, .class_ 44), (1, u "java/util/Objects"), (61, .class_ 108), (1, u "jdk/internal/util/Preconditions"), (2, .methodref 106 112), (0, .nameAndType 113 114), (0, u "checkFromToIndex"), (0, u "(IIILjava/util/function/BiFunction;)I"), (60, u "(III)I")] 8

def k9m0 : Method := { name := "<init>", desc := "()V", sig := { parameters := [], returnType := none }, accessFlags := 2, code := none }
def k9c1 : Code := { maxStack := 4, maxLocals := 3, code := jdk_31_method_18_code, exceptionTable := #[], attributes := #[] }
def k9m1 : Method := { name := "checkFromToIndex", desc := "(III)I", sig := { parameters := [.int, .int, .int], returnType := some .int }, accessFlags := 9, code := some k9c1 }
/-- java/util/Objects -/
def k9 : Class := { plain "java/util/Objects" (some 0) with
  accessFlags := 49
  interfaces := #[]
  cf := some (fileOf pool9 42 #[] #[{ accessFlags := 2, nameIndex := 5, descriptorIndex := 6, attributes := #[] }, { accessFlags := 9, nameIndex := 113, descriptorIndex := 175, attributes := #[] }] 49 2 #[] #[])
  fields := #[]
  methods := #[k9m0, k9m1]
  instanceTypes := #[]
  staticTypes := #[]
  resolved := Array.replicate 184 none
  statics := none }

def pool10 : Array CpInfo := pool [(2, .class_ 4), (1, u "java/lang/Object"), (0, u "<init>"), (0, u "()V"), (17, .class_ 26), (1, u "jdk/internal/util/Preconditions"), (6, u "checkIndex"), (13, u "checkFromToIndex"), (1, u "checkFromIndexSize"), (5, .class_ 56), (0, u "jdk/internal/util/Preconditions$4"), (57, .class_ 115), (0, u "jdk/internal/util/Preconditions$1"), (7, u "SIOOBE_FORMATTER"), (0, u "Ljava/util/function/BiFunction;"), (0, .class_ 126), (0, u "jdk/internal/util/Preconditions$2"), (3, u "AIOOBE_FORMATTER"), (0, .class_ 132), (0, u "jdk/internal/util/Preconditions$3"), (3, u "IOOBE_FORMATTER"), (41, u "(IILjava/util/function/BiFunction;)I"), (4, u "(IIILjava/util/function/BiFunction;)I")] 10

def k10m0 : Method := { name := "<init>", desc := "()V", sig := { parameters := [], returnType := none }, accessFlags := 1, code := none }
def k10c1 : Code := { maxStack := 3, maxLocals := 3, code := jdk_41_method_11_code, exceptionTable := #[], attributes := #[] }
def k10m1 : Method := { name := "checkIndex", desc := "(IILjava/util/function/BiFunction;)I", sig := { parameters := [.int, .int, (.object "java/util/function/BiFunction")], returnType := some .int }, accessFlags := 9, code := some k10c1 }
def k10c2 : Code := { maxStack := 4, maxLocals := 4, code := jdk_41_method_12_code, exceptionTable := #[], attributes := #[] }
def k10m2 : Method := { name := "checkFromToIndex", desc := "(IIILjava/util/function/BiFunction;)I", sig := { parameters := [.int, .int, .int, (.object "java/util/function/BiFunction")], returnType := some .int }, accessFlags := 9, code := some k10c2 }
def k10c3 : Code := { maxStack := 4, maxLocals := 4, code := jdk_41_method_13_code, exceptionTable := #[], attributes := #[] }
def k10m3 : Method := { name := "checkFromIndexSize", desc := "(IIILjava/util/function/BiFunction;)I", sig := { parameters := [.int, .int, .int, (.object "java/util/function/BiFunction")], returnType := some .int }, accessFlags := 9, code := some k10c3 }
/-- jdk/internal/util/Preconditions -/
def k10 : Class := { plain "jdk/internal/util/Preconditions" (some 0) with
  accessFlags := 33
  interfaces := #[]
  cf := some (fileOf pool10 24 #[.nestMembers #[55, 131, 125, 114]] #[{ accessFlags := 1, nameIndex := 5, descriptorIndex := 6, attributes := #[] }, { accessFlags := 9, nameIndex := 33, descriptorIndex := 178, attributes := #[] }, { accessFlags := 9, nameIndex := 47, descriptorIndex := 183, attributes := #[] }, { accessFlags := 9, nameIndex := 49, descriptorIndex := 183, attributes := #[] }] 33 2 #[] #[{ accessFlags := 25, nameIndex := 123, descriptorIndex := 124, attributes := #[] }, { accessFlags := 25, nameIndex := 130, descriptorIndex := 124, attributes := #[] }, { accessFlags := 25, nameIndex := 136, descriptorIndex := 124, attributes := #[] }])
  fields := #[{ name := "SIOOBE_FORMATTER", type := (.object "java/util/function/BiFunction"), accessFlags := 25, slot := 0, constantValue := 0 }, { name := "AIOOBE_FORMATTER", type := (.object "java/util/function/BiFunction"), accessFlags := 25, slot := 1, constantValue := 0 }, { name := "IOOBE_FORMATTER", type := (.object "java/util/function/BiFunction"), accessFlags := 25, slot := 2, constantValue := 0 }]
  methods := #[k10m0, k10m1, k10m2, k10m3]
  instanceTypes := #[]
  staticTypes := #[(.object "java/util/function/BiFunction"), (.object "java/util/function/BiFunction"), (.object "java/util/function/BiFunction")]
  resolved := Array.replicate 194 none
  statics := some 1 }

def pool11 : Array CpInfo := pool [(1, .class_ 2), (0, u "java/lang/Integer"), (0, .class_ 4), (0, u "java/lang/String"), (1, .class_ 8), (1, u "java/lang/Object"), (0, u "<init>"), (0, u "()V"), (0, .methodref 12 13), (0, .class_ 14), (0, .nameAndType 15 16), (0, u "java/lang/StringUTF16"), (0, u "newBytesLength"), (0, u "(I)I"), (3, .integer 1073741823), (23, .fieldref 12 45), (0, .nameAndType 46 47), (0, u "$assertionsDisabled"), (0, u "Z"), (0, .methodref 12 49), (0, .nameAndType 50 51), (0, u "length"), (0, u "([B)I"), (7, .fieldref 12 60), (0, .nameAndType 61 62), (0, u "HI_BYTE_SHIFT"), (0, u "I"), (0, .fieldref 12 64), (0, .nameAndType 65 62), (0, u "LO_BYTE_SHIFT"), (1, .methodref 12 68), (0, .nameAndType 69 70), (0, u "checkIndex"), (0, u "(I[B)V"), (0, .methodref 12 72), (0, .nameAndType 73 74), (0, u "getChar"), (0, u "([BI)C"), (0, .methodref 76 77), (0, .class_ 78), (0, .nameAndType 79 80), (0, u "java/lang/Character"), (0, u "isHighSurrogate"), (0, u "(C)Z"), (0, .methodref 76 82), (0, .nameAndType 83 80), (0, u "isLowSurrogate"), (7, u "([BIIZ)I"), (4, .methodref 12 97), (0, .nameAndType 98 99), (0, u "checkBoundsBeginEnd"), (0, u "(II[B)V"), (0, .methodref 12 101), (0, .nameAndType 102 91), (0, u "codePointCount"), (2, u "getChars"), (1, .methodref 12 108), (0, .nameAndType 109 110), (0, u "newBytesFor"), (0, u "(I)[B"), (0, .methodref 12 112), (0, .nameAndType 113 114), (0, u "putChar"), (0, u "([BII)V"), (0, .methodref 12 116), (0, .nameAndType 117 118), (0, u "compress"), (0, u "([CI[BII)I"), (0, .methodref 12 120), (0, .nameAndType 121 122), (0, u "toBytes"), (0, u "([CII)[B"), (0, .methodref 12 124), (0, .nameAndType 117 125), (0, u "([BI[BII)I"), (0, .methodref 127 128), (0, .class_ 129), (0, .nameAndType 130 131), (0, u "java/util/Arrays"), (0, u "copyOfRange"), (0, u "([BII)[B"), (8, u "inflate"), (0, u "([BI[BII)V"), (31, .methodref 12 174), (0, .nameAndType 175 99), (0, u "checkBoundsOffCount"), (65, .methodref 3 242), (0, .nameAndType 98 243), (0, u "(III)V"), (6, u "([BII)I"), (0, .fieldref 3 252), (0, .nameAndType 253 47), (0, u "COMPACT_STRINGS"), (3, .methodref 12 258), (0, .nameAndType 117 131), (0, .methodref 12 260), (0, .nameAndType 261 262), (0, u "coderFromArrayLen"), (0, u "([BI)B"), (0, .methodref 3 264), (0, .nameAndType 9 265), (0, u "([BB)V"), (15, u "(III)I"), (13, .string 296), (0, u ""), (30, u "newString"), (0, u "([BII)Ljava/lang/String;"), (40, .class_ 371), (1, u "java/lang/StringUTF16$LinesSpliterator"), (20, u "charAt"), (0, .methodref 12 394), (0, .nameAndType 105 395), (0, u "(II[B)I"), (7, .fieldref 1 404), (0, .nameAndType 405 406), (0, u "DigitOnes"), (0, u "[B"), (7, .methodref 3 415), (0, .nameAndType 69 416), (0, u "(II)V"), (2, .methodref 3 420), (0, .nameAndType 175 281), (9, u "MAX_LENGTH"), (164, u "(III[B)I"), (31, .class_ 628), (0, u "java/lang/StringUTF16$CodePointsSpliterator"), (0, .class_ 630), (0, u "java/lang/StringUTF16$CharsSpliterator")] 4

def k11m0 : Method := { name := "<init>", desc := "()V", sig := { parameters := [], returnType := none }, accessFlags := 0, code := none }
def k11c1 : Code := { maxStack := 1, maxLocals := 1, code := jdk_52_method_2_code, exceptionTable := #[], attributes := #[] }
def k11m1 : Method := { name := "newBytesFor", desc := "(I)[B", sig := { parameters := [.int], returnType := some (.array .byte) }, accessFlags := 9, code := some k11c1 }
def k11c2 : Code := { maxStack := 4, maxLocals := 1, code := jdk_52_method_3_code, exceptionTable := #[], attributes := #[] }
def k11m2 : Method := { name := "newBytesLength", desc := "(I)I", sig := { parameters := [.int], returnType := some .int }, accessFlags := 9, code := some k11c2 }
def k11c3 : Code := { maxStack := 4, maxLocals := 3, code := jdk_52_method_4_code, exceptionTable := #[], attributes := #[] }
def k11m3 : Method := { name := "putChar", desc := "([BII)V", sig := { parameters := [(.array .byte), .int, .int], returnType := none }, accessFlags := 8, code := some k11c3 }
def k11c4 : Code := { maxStack := 3, maxLocals := 2, code := jdk_52_method_5_code, exceptionTable := #[], attributes := #[] }
def k11m4 : Method := { name := "getChar", desc := "([BI)C", sig := { parameters := [(.array .byte), .int], returnType := some .char }, accessFlags := 8, code := some k11c4 }
def k11c5 : Code := { maxStack := 2, maxLocals := 1, code := jdk_52_method_6_code, exceptionTable := #[], attributes := #[] }
def k11m5 : Method := { name := "length", desc := "([B)I", sig := { parameters := [(.array .byte)], returnType := some .int }, accessFlags := 9, code := some k11c5 }
def k11c6 : Code := { maxStack := 3, maxLocals := 6, code := jdk_52_method_11_code, exceptionTable := #[], attributes := #[] }
def k11m6 : Method := { name := "codePointCount", desc := "([BIIZ)I", sig := { parameters := [(.array .byte), .int, .int, .boolean], returnType := some .int }, accessFlags := 10, code := some k11c6 }
def k11c7 : Code := { maxStack := 4, maxLocals := 3, code := jdk_52_method_12_code, exceptionTable := #[], attributes := #[] }
def k11m7 : Method := { name := "codePointCount", desc := "([BII)I", sig := { parameters := [(.array .byte), .int, .int], returnType := some .int }, accessFlags := 9, code := some k11c7 }
def k11c8 : Code := { maxStack := 4, maxLocals := 5, code := jdk_52_method_14_code, exceptionTable := #[], attributes := #[] }
def k11m8 : Method := { name := "toBytes", desc := "([CII)[B", sig := { parameters := [(.array .char), .int, .int], returnType := some (.array .byte) }, accessFlags := 9, code := some k11c8 }
def k11c9 : Code := { maxStack := 2, maxLocals := 2, code := jdk_52_method_15_code, exceptionTable := #[], attributes := #[] }
def k11m9 : Method := { name := "coderFromArrayLen", desc := "([BI)B", sig := { parameters := [(.array .byte), .int], returnType := some .byte }, accessFlags := 8, code := some k11c9 }
def k11c10 : Code := { maxStack := 5, maxLocals := 6, code := jdk_52_method_16_code, exceptionTable := #[], attributes := #[] }
def k11m10 : Method := { name := "compress", desc := "([CII)[B", sig := { parameters := [(.array .char), .int, .int], returnType := some (.array .byte) }, accessFlags := 9, code := some k11c10 }
def k11c11 : Code := { maxStack := 5, maxLocals := 6, code := jdk_52_method_17_code, exceptionTable := #[], attributes := #[] }
def k11m11 : Method := { name := "compress", desc := "([BII)[B", sig := { parameters := [(.array .byte), .int, .int], returnType := some (.array .byte) }, accessFlags := 9, code := some k11c11 }
def k11c12 : Code := { maxStack := 3, maxLocals := 7, code := jdk_52_method_21_code, exceptionTable := #[], attributes := #[] }
def k11m12 : Method := { name := "compress", desc := "([CI[BII)I", sig := { parameters := [(.array .char), .int, (.array .byte), .int, .int], returnType := some .int }, accessFlags := 9, code := some k11c12 }
def k11c13 : Code := { maxStack := 3, maxLocals := 7, code := jdk_52_method_22_code, exceptionTable := #[], attributes := #[] }
def k11m13 : Method := { name := "compress", desc := "([BI[BII)I", sig := { parameters := [(.array .byte), .int, (.array .byte), .int, .int], returnType := some .int }, accessFlags := 9, code := some k11c13 }
def k11c14 : Code := { maxStack := 6, maxLocals := 5, code := jdk_52_method_69_code, exceptionTable := #[], attributes := #[] }
def k11m14 : Method := { name := "newString", desc := "([BII)Ljava/lang/String;", sig := { parameters := [(.array .byte), .int, .int], returnType := some (.object "java/lang/String") }, accessFlags := 9, code := some k11c14 }
def k11c15 : Code := { maxStack := 3, maxLocals := 5, code := jdk_52_method_77_code, exceptionTable := #[], attributes := #[] }
def k11m15 : Method := { name := "getChars", desc := "(III[B)I", sig := { parameters := [.int, .int, .int, (.array .byte)], returnType := some .int }, accessFlags := 9, code := some k11c15 }
def k11c16 : Code := { maxStack := 2, maxLocals := 2, code := jdk_52_method_83_code, exceptionTable := #[], attributes := #[] }
def k11m16 : Method := { name := "charAt", desc := "([BI)C", sig := { parameters := [(.array .byte), .int], returnType := some .char }, accessFlags := 9, code := some k11c16 }
def k11c17 : Code := { maxStack := 4, maxLocals := 6, code := jdk_52_method_86_code, exceptionTable := #[], attributes := #[] }
def k11m17 : Method := { name := "inflate", desc := "([BI[BII)V", sig := { parameters := [(.array .byte), .int, (.array .byte), .int, .int], returnType := none }, accessFlags := 9, code := some k11c17 }
def k11c18 : Code := { maxStack := 4, maxLocals := 7, code := jdk_52_method_89_code, exceptionTable := #[], attributes := #[] }
def k11m18 : Method := { name := "getChars", desc := "(II[B)I", sig := { parameters := [.int, .int, (.array .byte)], returnType := some .int }, accessFlags := 8, code := some k11c18 }
def k11c19 : Code := { maxStack := 2, maxLocals := 2, code := jdk_52_method_91_code, exceptionTable := #[], attributes := #[] }
def k11m19 : Method := { name := "checkIndex", desc := "(I[B)V", sig := { parameters := [.int, (.array .byte)], returnType := none }, accessFlags := 9, code := some k11c19 }
def k11c20 : Code := { maxStack := 3, maxLocals := 3, code := jdk_52_method_93_code, exceptionTable := #[], attributes := #[] }
def k11m20 : Method := { name := "checkBoundsBeginEnd", desc := "(II[B)V", sig := { parameters := [.int, .int, (.array .byte)], returnType := none }, accessFlags := 9, code := some k11c20 }
def k11c21 : Code := { maxStack := 3, maxLocals := 3, code := jdk_52_method_94_code, exceptionTable := #[], attributes := #[] }
def k11m21 : Method := { name := "checkBoundsOffCount", desc := "(II[B)V", sig := { parameters := [.int, .int, (.array .byte)], returnType := none }, accessFlags := 9, code := some k11c21 }
/-- java/lang/StringUTF16 -/
def k11 : Class := { plain "java/lang/StringUTF16" (some 0) with
  accessFlags := 48
  interfaces := #[]
  cf := some (fileOf pool11 12 #[.nestMembers #[627, 629, 369]] #[{ accessFlags := 0, nameIndex := 9, descriptorIndex := 10, attributes := #[] }, { accessFlags := 9, nameIndex := 109, descriptorIndex := 110, attributes := #[] }, { accessFlags := 9, nameIndex := 15, descriptorIndex := 16, attributes := #[] }, { accessFlags := 8, nameIndex := 113, descriptorIndex := 114, attributes := #[] }, { accessFlags := 8, nameIndex := 73, descriptorIndex := 74, attributes := #[] }, { accessFlags := 9, nameIndex := 50, descriptorIndex := 51, attributes := #[] }, { accessFlags := 10, nameIndex := 102, descriptorIndex := 91, attributes := #[] }, { accessFlags := 9, nameIndex := 102, descriptorIndex := 250, attributes := #[] }, { accessFlags := 9, nameIndex := 121, descriptorIndex := 122, attributes := #[] }, { accessFlags := 8, nameIndex := 261, descriptorIndex := 262, attributes := #[] }, { accessFlags := 9, nameIndex := 117, descriptorIndex := 122, attributes := #[] }, { accessFlags := 9, nameIndex := 117, descriptorIndex := 131, attributes := #[] }, { accessFlags := 9, nameIndex := 117, descriptorIndex := 118, attributes := #[] }, { accessFlags := 9, nameIndex := 117, descriptorIndex := 125, attributes := #[] }, { accessFlags := 9, nameIndex := 327, descriptorIndex := 328, attributes := #[] }, { accessFlags := 9, nameIndex := 105, descriptorIndex := 595, attributes := #[] }, { accessFlags := 9, nameIndex := 392, descriptorIndex := 74, attributes := #[] }, { accessFlags := 9, nameIndex := 140, descriptorIndex := 141, attributes := #[] }, { accessFlags := 8, nameIndex := 105, descriptorIndex := 395, attributes := #[] }, { accessFlags := 9, nameIndex := 69, descriptorIndex := 70, attributes := #[] }, { accessFlags := 9, nameIndex := 98, descriptorIndex := 99, attributes := #[] }, { accessFlags := 9, nameIndex := 175, descriptorIndex := 99, attributes := #[] }] 48 6 #[] #[{ accessFlags := 26, nameIndex := 61, descriptorIndex := 62, attributes := #[] }, { accessFlags := 26, nameIndex := 65, descriptorIndex := 62, attributes := #[] }, { accessFlags := 24, nameIndex := 430, descriptorIndex := 62, attributes := #[] }, { accessFlags := 4120, nameIndex := 46, descriptorIndex := 47, attributes := #[] }])
  fields := #[{ name := "HI_BYTE_SHIFT", type := .int, accessFlags := 26, slot := 0, constantValue := 0 }, { name := "LO_BYTE_SHIFT", type := .int, accessFlags := 26, slot := 1, constantValue := 0 }, { name := "MAX_LENGTH", type := .int, accessFlags := 24, slot := 2, constantValue := 0 }, { name := "$assertionsDisabled", type := .boolean, accessFlags := 4120, slot := 3, constantValue := 0 }]
  methods := #[k11m0, k11m1, k11m2, k11m3, k11m4, k11m5, k11m6, k11m7, k11m8, k11m9, k11m10, k11m11, k11m12, k11m13, k11m14, k11m15, k11m16, k11m17, k11m18, k11m19, k11m20, k11m21]
  instanceTypes := #[]
  staticTypes := #[.int, .int, .int, .boolean]
  resolved := Array.replicate 635 none
  statics := some 2 }

def pool12 : Array CpInfo := pool [(1, .class_ 2), (0, u "java/lang/Character"), (18, u "value"), (0, u "C"), (19, .class_ 44), (1, u "java/lang/Object"), (3, .class_ 50), (1, u "java/lang/Character$CharacterCache"), (24, .integer 55296), (0, .integer 56320), (0, .integer 57344), (0, .methodref 1 79), (0, .nameAndType 80 81), (0, u "isHighSurrogate"), (0, u "(C)Z"), (0, .methodref 1 83), (0, .nameAndType 84 81), (0, u "isLowSurrogate"), (1, .interfaceMethodref 87 88), (0, .class_ 89), (0, .nameAndType 90 91), (0, u "java/lang/CharSequence"), (0, u "charAt"), (0, u "(I)C"), (0, .interfaceMethodref 87 93), (0, .nameAndType 94 95), (0, u "length"), (0, u "()I"), (188, u "$assertionsDisabled"), (0, u "Z"), (21, .class_ 309), (1, u "java/lang/Character$UnicodeBlock"), (73, u "TYPE"), (0, u "Ljava/lang/Class;"), (0, .class_ 386), (0, u "java/io/Serializable"), (0, .class_ 388), (0, u "java/lang/Comparable"), (0, .class_ 390), (0, u "java/lang/constant/Constable"), (0, u "MIN_RADIX"), (0, u "I"), (2, u "MAX_RADIX"), (1, u "MIN_VALUE"), (1, u "MAX_VALUE"), (3, u "UNASSIGNED"), (0, u "B"), (0, u "UPPERCASE_LETTER"), (1, u "LOWERCASE_LETTER"), (0, u "TITLECASE_LETTER"), (1, u "MODIFIER_LETTER"), (1, u "OTHER_LETTER"), (1, u "NON_SPACING_MARK"), (1, u "ENCLOSING_MARK"), (1, u "COMBINING_SPACING_MARK"), (1, u "DECIMAL_DIGIT_NUMBER"), (1, u "LETTER_NUMBER"), (1, u "OTHER_NUMBER"), (1, u "SPACE_SEPARATOR"), (1, u "LINE_SEPARATOR"), (1, u "PARAGRAPH_SEPARATOR"), (1, u "CONTROL"), (1, u "FORMAT"), (1, u "PRIVATE_USE"), (1, u "SURROGATE"), (1, u "DASH_PUNCTUATION"), (1, u "START_PUNCTUATION"), (1, u "END_PUNCTUATION"), (1, u "CONNECTOR_PUNCTUATION"), (1, u "OTHER_PUNCTUATION"), (1, u "MATH_SYMBOL"), (1, u "CURRENCY_SYMBOL"), (1, u "MODIFIER_SYMBOL"), (1, u "OTHER_SYMBOL"), (1, u "INITIAL_QUOTE_PUNCTUATION"), (1, u "FINAL_QUOTE_PUNCTUATION"), (1, u "ERROR"), (1, u "DIRECTIONALITY_UNDEFINED"), (0, u "DIRECTIONALITY_LEFT_TO_RIGHT"), (0, u "DIRECTIONALITY_RIGHT_TO_LEFT"), (0, u "DIRECTIONALITY_RIGHT_TO_LEFT_ARABIC"), (0, u "DIRECTIONALITY_EUROPEAN_NUMBER"), (0, u "DIRECTIONALITY_EUROPEAN_NUMBER_SEPARATOR"), (0, u "DIRECTIONALITY_EUROPEAN_NUMBER_TERMINATOR"), (0, u "DIRECTIONALITY_ARABIC_NUMBER"), (0, u "DIRECTIONALITY_COMMON_NUMBER_SEPARATOR"), (0, u "DIRECTIONALITY_NONSPACING_MARK"), (0, u "DIRECTIONALITY_BOUNDARY_NEUTRAL"), (0, u "DIRECTIONALITY_PARAGRAPH_SEPARATOR"), (0, u "DIRECTIONALITY_SEGMENT_SEPARATOR"), (0, u "DIRECTIONALITY_WHITESPACE"), (0, u "DIRECTIONALITY_OTHER_NEUTRALS"), (0, u "DIRECTIONALITY_LEFT_TO_RIGHT_EMBEDDING"), (0, u "DIRECTIONALITY_LEFT_TO_RIGHT_OVERRIDE"), (0, u "DIRECTIONALITY_RIGHT_TO_LEFT_EMBEDDING"), (0, u "DIRECTIONALITY_RIGHT_TO_LEFT_OVERRIDE"), (1, u "DIRECTIONALITY_POP_DIRECTIONAL_FORMAT"), (0, u "DIRECTIONALITY_LEFT_TO_RIGHT_ISOLATE"), (0, u "DIRECTIONALITY_RIGHT_TO_LEFT_ISOLATE"), (0, u "DIRECTIONALITY_FIRST_STRONG_ISOLATE"), (0, u "DIRECTIONALITY_POP_DIRECTIONAL_ISOLATE"), (0, u "MIN_HIGH_SURROGATE"), (0, u "MAX_HIGH_SURROGATE"), (1, u "MIN_LOW_SURROGATE"), (0, u "MAX_LOW_SURROGATE"), (1, u "MIN_SURROGATE"), (0, u "MAX_SURROGATE"), (0, u "MIN_SUPPLEMENTARY_CODE_POINT"), (0, u "MIN_CODE_POINT"), (0, u "MAX_CODE_POINT"), (1, u "serialVersionUID"), (0, u "J"), (2, u "SIZE"), (0, u "BYTES"), (49, u "(Ljava/lang/CharSequence;II)I"), (6, u "offsetByCodePoints"), (31, .class_ 596), (0, u "java/lang/Character$UnicodeScript"), (0, .class_ 598), (0, u "java/lang/Character$Subset")] 5

def k12c0 : Code := { maxStack := 2, maxLocals := 1, code := jdk_89_method_14_code, exceptionTable := #[], attributes := #[] }
def k12m0 : Method := { name := "isHighSurrogate", desc := "(C)Z", sig := { parameters := [.char], returnType := some .boolean }, accessFlags := 9, code := some k12c0 }
def k12c1 : Code := { maxStack := 2, maxLocals := 1, code := jdk_89_method_15_code, exceptionTable := #[], attributes := #[] }
def k12m1 : Method := { name := "isLowSurrogate", desc := "(C)Z", sig := { parameters := [.char], returnType := some .boolean }, accessFlags := 9, code := some k12c1 }
def k12c2 : Code := { maxStack := 3, maxLocals := 6, code := jdk_89_method_36_code, exceptionTable := #[], attributes := #[] }
def k12m2 : Method := { name := "offsetByCodePoints", desc := "(Ljava/lang/CharSequence;II)I", sig := { parameters := [(.object "java/lang/CharSequence"), .int, .int], returnType := some .int }, accessFlags := 9, code := some k12c2 }
/-- java/lang/Character -/
def k12 : Class := { plain "java/lang/Character" (some 0) with
  accessFlags := 49
  interfaces := #[2, 3, 5]
  cf := some (fileOf pool12 1 #[.nestMembers #[48, 595, 307, 597]] #[{ accessFlags := 9, nameIndex := 80, descriptorIndex := 81, attributes := #[] }, { accessFlags := 9, nameIndex := 84, descriptorIndex := 81, attributes := #[] }, { accessFlags := 9, nameIndex := 563, descriptorIndex := 556, attributes := #[] }] 49 42 #[385, 387, 389] #[{ accessFlags := 25, nameIndex := 391, descriptorIndex := 392, attributes := #[] }, { accessFlags := 25, nameIndex := 395, descriptorIndex := 392, attributes := #[] }, { accessFlags := 25, nameIndex := 397, descriptorIndex := 22, attributes := #[] }, { accessFlags := 25, nameIndex := 399, descriptorIndex := 22, attributes := #[] }, { accessFlags := 25, nameIndex := 383, descriptorIndex := 384, attributes := #[] }, { accessFlags := 25, nameIndex := 403, descriptorIndex := 404, attributes := #[] }, { accessFlags := 25, nameIndex := 405, descriptorIndex := 404, attributes := #[] }, { accessFlags := 25, nameIndex := 407, descriptorIndex := 404, attributes := #[] }, { accessFlags := 25, nameIndex := 408, descriptorIndex := 404, attributes := #[] }, { accessFlags := 25, nameIndex := 410, descriptorIndex := 404, attributes := #[] }, { accessFlags := 25, nameIndex := 412, descriptorIndex := 404, attributes := #[] }, { accessFlags := 25, nameIndex := 414, descriptorIndex := 404, attributes := #[] }, { accessFlags := 25, nameIndex := 416, descriptorIndex := 404, attributes := #[] }, { accessFlags := 25, nameIndex := 418, descriptorIndex := 404, attributes := #[] }, { accessFlags := 25, nameIndex := 420, descriptorIndex := 404, attributes := #[] }, { accessFlags := 25, nameIndex := 422, descriptorIndex := 404, attributes := #[] }, { accessFlags := 25, nameIndex := 424, descriptorIndex := 404, attributes := #[] }, { accessFlags := 25, nameIndex := 426, descriptorIndex := 404, attributes := #[] }, { accessFlags := 25, nameIndex := 428, descriptorIndex := 404, attributes := #[] }, { accessFlags := 25, nameIndex := 430, descriptorIndex := 404, attributes := #[] }, { accessFlags := 25, nameIndex := 432, descriptorIndex := 404, attributes := #[] }, { accessFlags := 25, nameIndex := 434, descriptorIndex := 404, attributes := #[] }, { accessFlags := 25, nameIndex := 436, descriptorIndex := 404, attributes := #[] }, { accessFlags := 25, nameIndex := 438, descriptorIndex := 404, attributes := #[] }, { accessFlags := 25, nameIndex := 440, descriptorIndex := 404, attributes := #[] }, { accessFlags := 25, nameIndex := 442, descriptorIndex := 404, attributes := #[] }, { accessFlags := 25, nameIndex := 444, descriptorIndex := 404, attributes := #[] }, { accessFlags := 25, nameIndex := 446, descriptorIndex := 404, attributes := #[] }, { accessFlags := 25, nameIndex := 448, descriptorIndex := 404, attributes := #[] }, { accessFlags := 25, nameIndex := 450, descriptorIndex := 404, attributes := #[] }, { accessFlags := 25, nameIndex := 452, descriptorIndex := 404, attributes := #[] }, { accessFlags := 25, nameIndex := 454, descriptorIndex := 404, attributes := #[] }, { accessFlags := 25, nameIndex := 456, descriptorIndex := 404, attributes := #[] }, { accessFlags := 25, nameIndex := 458, descriptorIndex := 404, attributes := #[] }, { accessFlags := 25, nameIndex := 460, descriptorIndex := 404, attributes := #[] }, { accessFlags := 24, nameIndex := 462, descriptorIndex := 392, attributes := #[] }, { accessFlags := 25, nameIndex := 464, descriptorIndex := 404, attributes := #[] }, { accessFlags := 25, nameIndex := 465, descriptorIndex := 404, attributes := #[] }, { accessFlags := 25, nameIndex := 466, descriptorIndex := 404, attributes := #[] }, { accessFlags := 25, nameIndex := 467, descriptorIndex := 404, attributes := #[] }, { accessFlags := 25, nameIndex := 468, descriptorIndex := 404, attributes := #[] }, { accessFlags := 25, nameIndex := 469, descriptorIndex := 404, attributes := #[] }, { accessFlags := 25, nameIndex := 470, descriptorIndex := 404, attributes := #[] }, { accessFlags := 25, nameIndex := 471, descriptorIndex := 404, attributes := #[] }, { accessFlags := 25, nameIndex := 472, descriptorIndex := 404, attributes := #[] }, { accessFlags := 25, nameIndex := 473, descriptorIndex := 404, attributes := #[] }, { accessFlags := 25, nameIndex := 474, descriptorIndex := 404, attributes := #[] }, { accessFlags := 25, nameIndex := 475, descriptorIndex := 404, attributes := #[] }, { accessFlags := 25, nameIndex := 476, descriptorIndex := 404, attributes := #[] }, { accessFlags := 25, nameIndex := 477, descriptorIndex := 404, attributes := #[] }, { accessFlags := 25, nameIndex := 478, descriptorIndex := 404, attributes := #[] }, { accessFlags := 25, nameIndex := 479, descriptorIndex := 404, attributes := #[] }, { accessFlags := 25, nameIndex := 480, descriptorIndex := 404, attributes := #[] }, { accessFlags := 25, nameIndex := 481, descriptorIndex := 404, attributes := #[] }, { accessFlags := 25, nameIndex := 482, descriptorIndex := 404, attributes := #[] }, { accessFlags := 25, nameIndex := 484, descriptorIndex := 404, attributes := #[] }, { accessFlags := 25, nameIndex := 485, descriptorIndex := 404, attributes := #[] }, { accessFlags := 25, nameIndex := 486, descriptorIndex := 404, attributes := #[] }, { accessFlags := 25, nameIndex := 487, descriptorIndex := 404, attributes := #[] }, { accessFlags := 25, nameIndex := 488, descriptorIndex := 404, attributes := #[] }, { accessFlags := 25, nameIndex := 489, descriptorIndex := 22, attributes := #[] }, { accessFlags := 25, nameIndex := 490, descriptorIndex := 22, attributes := #[] }, { accessFlags := 25, nameIndex := 492, descriptorIndex := 22, attributes := #[] }, { accessFlags := 25, nameIndex := 493, descriptorIndex := 22, attributes := #[] }, { accessFlags := 25, nameIndex := 495, descriptorIndex := 22, attributes := #[] }, { accessFlags := 25, nameIndex := 496, descriptorIndex := 22, attributes := #[] }, { accessFlags := 25, nameIndex := 497, descriptorIndex := 392, attributes := #[] }, { accessFlags := 25, nameIndex := 498, descriptorIndex := 392, attributes := #[] }, { accessFlags := 25, nameIndex := 499, descriptorIndex := 392, attributes := #[] }, { accessFlags := 18, nameIndex := 21, descriptorIndex := 22, attributes := #[] }, { accessFlags := 26, nameIndex := 501, descriptorIndex := 502, attributes := #[] }, { accessFlags := 25, nameIndex := 505, descriptorIndex := 392, attributes := #[] }, { accessFlags := 25, nameIndex := 506, descriptorIndex := 392, attributes := #[] }, { accessFlags := 4120, nameIndex := 284, descriptorIndex := 285, attributes := #[] }])
  fields := #[{ name := "MIN_RADIX", type := .int, accessFlags := 25, slot := 0, constantValue := 0 }, { name := "MAX_RADIX", type := .int, accessFlags := 25, slot := 1, constantValue := 0 }, { name := "MIN_VALUE", type := .char, accessFlags := 25, slot := 2, constantValue := 0 }, { name := "MAX_VALUE", type := .char, accessFlags := 25, slot := 3, constantValue := 0 }, { name := "TYPE", type := (.object "java/lang/Class"), accessFlags := 25, slot := 4, constantValue := 0 }, { name := "UNASSIGNED", type := .byte, accessFlags := 25, slot := 5, constantValue := 0 }, { name := "UPPERCASE_LETTER", type := .byte, accessFlags := 25, slot := 6, constantValue := 0 }, { name := "LOWERCASE_LETTER", type := .byte, accessFlags := 25, slot := 7, constantValue := 0 }, { name := "TITLECASE_LETTER", type := .byte, accessFlags := 25, slot := 8, constantValue := 0 }, { name := "MODIFIER_LETTER", type := .byte, accessFlags := 25, slot := 9, constantValue := 0 }, { name := "OTHER_LETTER", type := .byte, accessFlags := 25, slot := 10, constantValue := 0 }, { name := "NON_SPACING_MARK", type := .byte, accessFlags := 25, slot := 11, constantValue := 0 }, { name := "ENCLOSING_MARK", type := .byte, accessFlags := 25, slot := 12, constantValue := 0 }, { name := "COMBINING_SPACING_MARK", type := .byte, accessFlags := 25, slot := 13, constantValue := 0 }, { name := "DECIMAL_DIGIT_NUMBER", type := .byte, accessFlags := 25, slot := 14, constantValue := 0 }, { name := "LETTER_NUMBER", type := .byte, accessFlags := 25, slot := 15, constantValue := 0 }, { name := "OTHER_NUMBER", type := .byte, accessFlags := 25, slot := 16, constantValue := 0 }, { name := "SPACE_SEPARATOR", type := .byte, accessFlags := 25, slot := 17, constantValue := 0 }, { name := "LINE_SEPARATOR", type := .byte, accessFlags := 25, slot := 18, constantValue := 0 }, { name := "PARAGRAPH_SEPARATOR", type := .byte, accessFlags := 25, slot := 19, constantValue := 0 }, { name := "CONTROL", type := .byte, accessFlags := 25, slot := 20, constantValue := 0 }, { name := "FORMAT", type := .byte, accessFlags := 25, slot := 21, constantValue := 0 }, { name := "PRIVATE_USE", type := .byte, accessFlags := 25, slot := 22, constantValue := 0 }, { name := "SURROGATE", type := .byte, accessFlags := 25, slot := 23, constantValue := 0 }, { name := "DASH_PUNCTUATION", type := .byte, accessFlags := 25, slot := 24, constantValue := 0 }, { name := "START_PUNCTUATION", type := .byte, accessFlags := 25, slot := 25, constantValue := 0 }, { name := "END_PUNCTUATION", type := .byte, accessFlags := 25, slot := 26, constantValue := 0 }, { name := "CONNECTOR_PUNCTUATION", type := .byte, accessFlags := 25, slot := 27, constantValue := 0 }, { name := "OTHER_PUNCTUATION", type := .byte, accessFlags := 25, slot := 28, constantValue := 0 }, { name := "MATH_SYMBOL", type := .byte, accessFlags := 25, slot := 29, constantValue := 0 }, { name := "CURRENCY_SYMBOL", type := .byte, accessFlags := 25, slot := 30, constantValue := 0 }, { name := "MODIFIER_SYMBOL", type := .byte, accessFlags := 25, slot := 31, constantValue := 0 }, { name := "OTHER_SYMBOL", type := .byte, accessFlags := 25, slot := 32, constantValue := 0 }, { name := "INITIAL_QUOTE_PUNCTUATION", type := .byte, accessFlags := 25, slot := 33, constantValue := 0 }, { name := "FINAL_QUOTE_PUNCTUATION", type := .byte, accessFlags := 25, slot := 34, constantValue := 0 }, { name := "ERROR", type := .int, accessFlags := 24, slot := 35, constantValue := 0 }, { name := "DIRECTIONALITY_UNDEFINED", type := .byte, accessFlags := 25, slot := 36, constantValue := 0 }, { name := "DIRECTIONALITY_LEFT_TO_RIGHT", type := .byte, accessFlags := 25, slot := 37, constantValue := 0 }, { name := "DIRECTIONALITY_RIGHT_TO_LEFT", type := .byte, accessFlags := 25, slot := 38, constantValue := 0 }, { name := "DIRECTIONALITY_RIGHT_TO_LEFT_ARABIC", type := .byte, accessFlags := 25, slot := 39, constantValue := 0 }, { name := "DIRECTIONALITY_EUROPEAN_NUMBER", type := .byte, accessFlags := 25, slot := 40, constantValue := 0 }, { name := "DIRECTIONALITY_EUROPEAN_NUMBER_SEPARATOR", type := .byte, accessFlags := 25, slot := 41, constantValue := 0 }, { name := "DIRECTIONALITY_EUROPEAN_NUMBER_TERMINATOR", type := .byte, accessFlags := 25, slot := 42, constantValue := 0 }, { name := "DIRECTIONALITY_ARABIC_NUMBER", type := .byte, accessFlags := 25, slot := 43, constantValue := 0 }, { name := "DIRECTIONALITY_COMMON_NUMBER_SEPARATOR", type := .byte, accessFlags := 25, slot := 44, constantValue := 0 }, { name := "DIRECTIONALITY_NONSPACING_MARK", type := .byte, accessFlags := 25, slot := 45, constantValue := 0 }, { name := "DIRECTIONALITY_BOUNDARY_NEUTRAL", type := .byte, accessFlags := 25, slot := 46, constantValue := 0 }, { name := "DIRECTIONALITY_PARAGRAPH_SEPARATOR", type := .byte, accessFlags := 25, slot := 47, constantValue := 0 }, { name := "DIRECTIONALITY_SEGMENT_SEPARATOR", type := .byte, accessFlags := 25, slot := 48, constantValue := 0 }, { name := "DIRECTIONALITY_WHITESPACE", type := .byte, accessFlags := 25, slot := 49, constantValue := 0 }, { name := "DIRECTIONALITY_OTHER_NEUTRALS", type := .byte, accessFlags := 25, slot := 50, constantValue := 0 }, { name := "DIRECTIONALITY_LEFT_TO_RIGHT_EMBEDDING", type := .byte, accessFlags := 25, slot := 51, constantValue := 0 }, { name := "DIRECTIONALITY_LEFT_TO_RIGHT_OVERRIDE", type := .byte, accessFlags := 25, slot := 52, constantValue := 0 }, { name := "DIRECTIONALITY_RIGHT_TO_LEFT_EMBEDDING", type := .byte, accessFlags := 25, slot := 53, constantValue := 0 }, { name := "DIRECTIONALITY_RIGHT_TO_LEFT_OVERRIDE", type := .byte, accessFlags := 25, slot := 54, constantValue := 0 }, { name := "DIRECTIONALITY_POP_DIRECTIONAL_FORMAT", type := .byte, accessFlags := 25, slot := 55, constantValue := 0 }, { name := "DIRECTIONALITY_LEFT_TO_RIGHT_ISOLATE", type := .byte, accessFlags := 25, slot := 56, constantValue := 0 }, { name := "DIRECTIONALITY_RIGHT_TO_LEFT_ISOLATE", type := .byte, accessFlags := 25, slot := 57, constantValue := 0 }, { name := "DIRECTIONALITY_FIRST_STRONG_ISOLATE", type := .byte, accessFlags := 25, slot := 58, constantValue := 0 }, { name := "DIRECTIONALITY_POP_DIRECTIONAL_ISOLATE", type := .byte, accessFlags := 25, slot := 59, constantValue := 0 }, { name := "MIN_HIGH_SURROGATE", type := .char, accessFlags := 25, slot := 60, constantValue := 0 }, { name := "MAX_HIGH_SURROGATE", type := .char, accessFlags := 25, slot := 61, constantValue := 0 }, { name := "MIN_LOW_SURROGATE", type := .char, accessFlags := 25, slot := 62, constantValue := 0 }, { name := "MAX_LOW_SURROGATE", type := .char, accessFlags := 25, slot := 63, constantValue := 0 }, { name := "MIN_SURROGATE", type := .char, accessFlags := 25, slot := 64, constantValue := 0 }, { name := "MAX_SURROGATE", type := .char, accessFlags := 25, slot := 65, constantValue := 0 }, { name := "MIN_SUPPLEMENTARY_CODE_POINT", type := .int, accessFlags := 25, slot := 66, constantValue := 0 }, { name := "MIN_CODE_POINT", type := .int, accessFlags := 25, slot := 67, constantValue := 0 }, { name := "MAX_CODE_POINT", type := .int, accessFlags := 25, slot := 68, constantValue := 0 }, { name := "value", type := .char, accessFlags := 18, slot := 0, constantValue := 0 }, { name := "serialVersionUID", type := .long, accessFlags := 26, slot := 69, constantValue := 0 }, { name := "SIZE", type := .int, accessFlags := 25, slot := 70, constantValue := 0 }, { name := "BYTES", type := .int, accessFlags := 25, slot := 71, constantValue := 0 }, { name := "$assertionsDisabled", type := .boolean, accessFlags := 4120, slot := 72, constantValue := 0 }]
  methods := #[k12m0, k12m1, k12m2]
  instanceTypes := #[.char]
  staticTypes := #[.int, .int, .char, .char, (.object "java/lang/Class"), .byte, .byte, .byte, .byte, .byte, .byte, .byte, .byte, .byte, .byte, .byte, .byte, .byte, .byte, .byte, .byte, .byte, .byte, .byte, .byte, .byte, .byte, .byte, .byte, .byte, .byte, .byte, .byte, .byte, .byte, .int, .byte, .byte, .byte, .byte, .byte, .byte, .byte, .byte, .byte, .byte, .byte, .byte, .byte, .byte, .byte, .byte, .byte, .byte, .byte, .byte, .byte, .byte, .byte, .byte, .char, .char, .char, .char, .char, .char, .int, .int, .int, .long, .int, .int, .boolean]
  resolved := Array.replicate 604 none
  statics := none }

def pool13 : Array CpInfo := pool [(1, .class_ 2), (0, u "java/lang/Appendable"), (0, .class_ 4), (0, u "java/lang/Object")] 9

/-- java/lang/Appendable -/
def k13 : Class := { plain "java/lang/Appendable" (some 0) with
  accessFlags := 1537
  interfaces := #[]
  cf := some (fileOf pool13 1 #[] #[] 1537 3 #[] #[])
  fields := #[]
  methods := #[]
  instanceTypes := #[]
  staticTypes := #[]
  resolved := Array.replicate 14 none
  statics := none }

def pool14 : Array CpInfo := pool [(1, .class_ 2), (0, u "java/lang/String"), (0, .methodref 4 5), (0, .class_ 6), (0, .nameAndType 7 8), (0, u "java/lang/Object"), (0, u "<init>"), (0, u "()V"), (1, .class_ 12), (1, u "java/lang/AbstractStringBuilder"), (0, u "EMPTYVALUE"), (0, u "[B"), (0, .fieldref 10 16), (0, .nameAndType 17 14), (0, u "value"), (0, .fieldref 1 19), (0, .nameAndType 20 21), (0, u "COMPACT_STRINGS"), (0, u "Z"), (0, .fieldref 10 23), (0, .nameAndType 24 25), (0, u "coder"), (0, u "B"), (0, .methodref 27 28), (0, .class_ 29), (0, .nameAndType 30 31), (0, u "java/lang/StringUTF16"), (0, u "newBytesFor"), (0, u "(I)[B"), (0, .methodref 1 33), (0, .nameAndType 34 35), (0, u "length"), (0, u "()I"), (0, .class_ 37), (0, u "java/lang/Integer"), (0, .integer 2147483631), (0, .integer 2147483647), (0, .methodref 1 41), (0, .nameAndType 24 42), (0, u "()B"), (0, .methodref 10 44), (0, .nameAndType 45 46), (0, u "append"), (0, u "(Ljava/lang/String;)Ljava/lang/AbstractStringBuilder;"), (1, .class_ 49), (0, u "java/lang/CharSequence"), (19, u "(Ljava/lang/String;)V"), (5, u "maybeLatin1"), (3, .fieldref 10 80), (0, .nameAndType 81 82), (0, u "count"), (0, u "I"), (0, .methodref 10 84), (0, .nameAndType 85 86), (0, u "isLatin1"), (0, u "()Z"), (13, .methodref 10 101), (0, .nameAndType 102 103), (0, u "ensureCapacityInternal"), (0, u "(I)V"), (0, .methodref 10 105), (0, .nameAndType 106 107), (0, u "newCapacity"), (0, u "(I)I"), (0, .methodref 109 110), (0, .class_ 111), (0, .nameAndType 112 113), (0, u "java/util/Arrays"), (0, u "copyOf"), (0, u "([BI)[B"), (0, .methodref 115 116), (0, .class_ 117), (0, .nameAndType 118 119), (0, u "jdk/internal/util/ArraysSupport"), (0, u "newLength"), (0, u "(III)I"), (7, u "inflate"), (60, u "getChars"), (6, .methodref 10 196), (0, .nameAndType 127 8), (11, .methodref 10 209), (0, .nameAndType 210 211), (0, u "putStringAt"), (0, u "(ILjava/lang/String;)V"), (5, u "inflateIfNeededFor"), (2, .nameAndType 221 222), (0, u "getBytes"), (0, u "([BIB)V"), (22, .methodref 36 246), (0, .nameAndType 247 107), (0, u "stringSize"), (0, .methodref 36 249), (0, .nameAndType 188 250), (0, u "(II[B)I"), (0, .methodref 27 252), (0, .nameAndType 188 253), (0, u "(III[B)I"), (143, .methodref 10 398), (0, .nameAndType 217 69), (0, .methodref 1 220), (3, u "()[B"), (40, .class_ 445), (0, u "java/lang/Appendable"), (65, u "(I)Ljava/lang/AbstractStringBuilder;"), (40, u "getValue")] 56

def k14m0 : Method := { name := "<init>", desc := "()V", sig := { parameters := [], returnType := none }, accessFlags := 0, code := none }
def k14c1 : Code := { maxStack := 2, maxLocals := 5, code := jdk_68_method_3_code, exceptionTable := #[], attributes := #[] }
def k14m1 : Method := { name := "<init>", desc := "(Ljava/lang/String;)V", sig := { parameters := [(.object "java/lang/String")], returnType := none }, accessFlags := 0, code := some k14c1 }
def k14c2 : Code := { maxStack := 1, maxLocals := 1, code := jdk_68_method_6_code, exceptionTable := #[], attributes := #[] }
def k14m2 : Method := { name := "length", desc := "()I", sig := { parameters := [], returnType := some .int }, accessFlags := 1, code := some k14c2 }
def k14c3 : Code := { maxStack := 4, maxLocals := 3, code := jdk_68_method_9_code, exceptionTable := #[], attributes := #[] }
def k14m3 : Method := { name := "ensureCapacityInternal", desc := "(I)V", sig := { parameters := [.int], returnType := none }, accessFlags := 2, code := some k14c3 }
def k14c4 : Code := { maxStack := 5, maxLocals := 6, code := jdk_68_method_10_code, exceptionTable := #[], attributes := #[] }
def k14m4 : Method := { name := "newCapacity", desc := "(I)I", sig := { parameters := [.int], returnType := some .int }, accessFlags := 2, code := some k14c4 }
def k14c5 : Code := { maxStack := 5, maxLocals := 2, code := jdk_68_method_11_code, exceptionTable := #[], attributes := #[] }
def k14m5 : Method := { name := "inflate", desc := "()V", sig := { parameters := [], returnType := none }, accessFlags := 2, code := some k14c5 }
def k14c6 : Code := { maxStack := 3, maxLocals := 3, code := jdk_68_method_22_code, exceptionTable := #[], attributes := #[] }
def k14m6 : Method := { name := "append", desc := "(Ljava/lang/String;)Ljava/lang/AbstractStringBuilder;", sig := { parameters := [(.object "java/lang/String")], returnType := some (.object "java/lang/AbstractStringBuilder") }, accessFlags := 1, code := some k14c6 }
def k14c7 : Code := { maxStack := 4, maxLocals := 4, code := jdk_68_method_32_code, exceptionTable := #[], attributes := #[] }
def k14m7 : Method := { name := "append", desc := "(I)Ljava/lang/AbstractStringBuilder;", sig := { parameters := [.int], returnType := some (.object "java/lang/AbstractStringBuilder") }, accessFlags := 1, code := some k14c7 }
def k14c8 : Code := { maxStack := 1, maxLocals := 1, code := jdk_68_method_64_code, exceptionTable := #[], attributes := #[] }
def k14m8 : Method := { name := "getValue", desc := "()[B", sig := { parameters := [], returnType := some (.array .byte) }, accessFlags := 16, code := some k14c8 }
def k14c9 : Code := { maxStack := 1, maxLocals := 1, code := jdk_68_method_68_code, exceptionTable := #[], attributes := #[] }
def k14m9 : Method := { name := "isLatin1", desc := "()Z", sig := { parameters := [], returnType := some .boolean }, accessFlags := 16, code := some k14c9 }
def k14c10 : Code := { maxStack := 2, maxLocals := 2, code := jdk_68_method_71_code, exceptionTable := #[], attributes := #[] }
def k14m10 : Method := { name := "inflateIfNeededFor", desc := "(Ljava/lang/String;)V", sig := { parameters := [(.object "java/lang/String")], returnType := none }, accessFlags := 2, code := some k14c10 }
def k14c11 : Code := { maxStack := 4, maxLocals := 3, code := jdk_68_method_73_code, exceptionTable := #[], attributes := #[] }
def k14m11 : Method := { name := "putStringAt", desc := "(ILjava/lang/String;)V", sig := { parameters := [.int, (.object "java/lang/String")], returnType := none }, accessFlags := 2, code := some k14c11 }
/-- java/lang/AbstractStringBuilder -/
def k14 : Class := { plain "java/lang/AbstractStringBuilder" (some 0) with
  accessFlags := 1056
  interfaces := #[13, 4]
  cf := some (fileOf pool14 10 #[] #[{ accessFlags := 0, nameIndex := 7, descriptorIndex := 8, attributes := #[] }, { accessFlags := 0, nameIndex := 7, descriptorIndex := 69, attributes := #[] }, { accessFlags := 1, nameIndex := 34, descriptorIndex := 35, attributes := #[] }, { accessFlags := 2, nameIndex := 102, descriptorIndex := 103, attributes := #[] }, { accessFlags := 2, nameIndex := 106, descriptorIndex := 107, attributes := #[] }, { accessFlags := 2, nameIndex := 127, descriptorIndex := 8, attributes := #[] }, { accessFlags := 1, nameIndex := 45, descriptorIndex := 46, attributes := #[] }, { accessFlags := 1, nameIndex := 45, descriptorIndex := 511, attributes := #[] }, { accessFlags := 16, nameIndex := 552, descriptorIndex := 403, attributes := #[] }, { accessFlags := 16, nameIndex := 85, descriptorIndex := 86, attributes := #[] }, { accessFlags := 2, nameIndex := 217, descriptorIndex := 69, attributes := #[] }, { accessFlags := 2, nameIndex := 210, descriptorIndex := 211, attributes := #[] }] 1056 4 #[444, 48] #[{ accessFlags := 0, nameIndex := 17, descriptorIndex := 14, attributes := #[] }, { accessFlags := 0, nameIndex := 24, descriptorIndex := 25, attributes := #[] }, { accessFlags := 0, nameIndex := 75, descriptorIndex := 21, attributes := #[] }, { accessFlags := 0, nameIndex := 81, descriptorIndex := 82, attributes := #[] }, { accessFlags := 26, nameIndex := 13, descriptorIndex := 14, attributes := #[] }])
  fields := #[{ name := "value", type := (.array .byte), accessFlags := 0, slot := 0, constantValue := 0 }, { name := "coder", type := .byte, accessFlags := 0, slot := 1, constantValue := 0 }, { name := "maybeLatin1", type := .boolean, accessFlags := 0, slot := 2, constantValue := 0 }, { name := "count", type := .int, accessFlags := 0, slot := 3, constantValue := 0 }, { name := "EMPTYVALUE", type := (.array .byte), accessFlags := 26, slot := 0, constantValue := 0 }]
  methods := #[k14m0, k14m1, k14m2, k14m3, k14m4, k14m5, k14m6, k14m7, k14m8, k14m9, k14m10, k14m11]
  instanceTypes := #[(.array .byte), .byte, .boolean, .int]
  staticTypes := #[(.array .byte)]
  resolved := Array.replicate 609 none
  statics := none }

def pool15 : Array CpInfo := pool [(2, .class_ 4), (1, u "java/lang/AbstractStringBuilder"), (0, u "<init>"), (1, .methodref 2 8), (0, .nameAndType 5 9), (0, u "(Ljava/lang/String;)V"), (8, .class_ 20), (1, u "java/lang/String"), (2, .methodref 24 25), (0, .class_ 26), (0, .nameAndType 27 28), (0, u "java/lang/StringBuilder"), (0, u "append"), (0, u "(Ljava/lang/String;)Ljava/lang/StringBuilder;"), (0, .methodref 2 30), (0, .nameAndType 27 31), (0, u "(Ljava/lang/String;)Ljava/lang/AbstractStringBuilder;"), (21, .methodref 2 54), (0, .nameAndType 27 55), (0, u "(I)Ljava/lang/AbstractStringBuilder;"), (81, .methodref 18 138), (0, .nameAndType 5 139), (0, u "(Ljava/lang/StringBuilder;)V"), (5, u "()V"), (10, u "()I"), (111, u "(I)Ljava/lang/StringBuilder;"), (74, .methodref 2 344), (0, .nameAndType 345 156), (0, u "length"), (3, .class_ 350), (0, u "java/lang/Appendable"), (0, .class_ 352), (0, u "java/io/Serializable"), (0, .class_ 354), (0, u "java/lang/Comparable"), (0, .class_ 356), (0, u "java/lang/CharSequence"), (0, u "serialVersionUID"), (0, u "J"), (40, u "toString"), (0, u "()Ljava/lang/String;")] 21

def k15m0 : Method := { name := "<init>", desc := "()V", sig := { parameters := [], returnType := none }, accessFlags := 1, code := none }
def k15c1 : Code := { maxStack := 2, maxLocals := 2, code := jdk_67_method_3_code, exceptionTable := #[], attributes := #[] }
def k15m1 : Method := { name := "<init>", desc := "(Ljava/lang/String;)V", sig := { parameters := [(.object "java/lang/String")], returnType := none }, accessFlags := 1, code := some k15c1 }
def k15c2 : Code := { maxStack := 2, maxLocals := 2, code := jdk_67_method_7_code, exceptionTable := #[], attributes := #[] }
def k15m2 : Method := { name := "append", desc := "(Ljava/lang/String;)Ljava/lang/StringBuilder;", sig := { parameters := [(.object "java/lang/String")], returnType := some (.object "java/lang/StringBuilder") }, accessFlags := 1, code := some k15c2 }
def k15c3 : Code := { maxStack := 2, maxLocals := 2, code := jdk_67_method_15_code, exceptionTable := #[], attributes := #[] }
def k15m3 : Method := { name := "append", desc := "(I)Ljava/lang/StringBuilder;", sig := { parameters := [.int], returnType := some (.object "java/lang/StringBuilder") }, accessFlags := 1, code := some k15c3 }
def k15c4 : Code := { maxStack := 3, maxLocals := 1, code := jdk_67_method_42_code, exceptionTable := #[], attributes := #[] }
def k15m4 : Method := { name := "toString", desc := "()Ljava/lang/String;", sig := { parameters := [], returnType := some (.object "java/lang/String") }, accessFlags := 1, code := some k15c4 }
def k15c5 : Code := { maxStack := 2, maxLocals := 2, code := jdk_67_method_80_code, exceptionTable := #[], attributes := #[] }
def k15m5 : Method := { name := "append", desc := "(Ljava/lang/String;)Ljava/lang/AbstractStringBuilder;", sig := { parameters := [(.object "java/lang/String")], returnType := some (.object "java/lang/AbstractStringBuilder") }, accessFlags := 4161, code := some k15c5 }
def k15c6 : Code := { maxStack := 1, maxLocals := 1, code := jdk_67_method_93_code, exceptionTable := #[], attributes := #[] }
def k15m6 : Method := { name := "length", desc := "()I", sig := { parameters := [], returnType := some .int }, accessFlags := 4161, code := some k15c6 }
/-- java/lang/StringBuilder -/
def k15 : Class := { plain "java/lang/StringBuilder" (some 14) with
  accessFlags := 49
  interfaces := #[13, 2, 3, 4]
  cf := some (fileOf pool15 24 #[] #[{ accessFlags := 1, nameIndex := 5, descriptorIndex := 145, attributes := #[] }, { accessFlags := 1, nameIndex := 5, descriptorIndex := 9, attributes := #[] }, { accessFlags := 1, nameIndex := 27, descriptorIndex := 28, attributes := #[] }, { accessFlags := 1, nameIndex := 27, descriptorIndex := 268, attributes := #[] }, { accessFlags := 1, nameIndex := 399, descriptorIndex := 400, attributes := #[] }, { accessFlags := 4161, nameIndex := 27, descriptorIndex := 31, attributes := #[] }, { accessFlags := 4161, nameIndex := 345, descriptorIndex := 156, attributes := #[] }] 49 2 #[349, 351, 353, 355] #[{ accessFlags := 24, nameIndex := 357, descriptorIndex := 358, attributes := #[] }])
  fields := #[{ name := "serialVersionUID", type := .long, accessFlags := 24, slot := 0, constantValue := 0 }]
  methods := #[k15m0, k15m1, k15m2, k15m3, k15m4, k15m5, k15m6]
  instanceTypes := #[(.array .byte), .byte, .boolean, .int]
  staticTypes := #[.long]
  resolved := Array.replicate 422 none
  statics := none }

def pool16 : Array CpInfo := pool [(2, .class_ 4), (1, u "java/lang/Object"), (0, u "<init>"), (0, u "()V"), (7, .class_ 16), (1, u "java/util/Arrays"), (57, .class_ 76), (1, u "java/util/Arrays$NaturalOrder"), (36, .class_ 115), (1, u "java/util/Arrays$LegacyMergeSort"), (1, u "Z"), (21, u "copyOfRange"), (10, .methodref 151 152), (0, .class_ 153), (0, .nameAndType 154 155), (0, u "java/lang/System"), (0, u "arraycopy"), (0, u "(Ljava/lang/Object;ILjava/lang/Object;II)V"), (146, u "copyOf"), (1, .methodref 305 306), (0, .class_ 307), (0, .nameAndType 308 309), (0, u "java/lang/Math"), (0, u "min"), (0, u "(II)I"), (29, .methodref 14 340), (0, .nameAndType 341 342), (0, u "copyOfRangeByte"), (0, u "([BII)[B"), (0, .methodref 14 344), (0, .nameAndType 345 346), (0, u "checkLength"), (0, u "(II)V"), (28, .class_ 376), (0, u "java/util/Arrays$ArrayList"), (68, u "$assertionsDisabled"), (269, u "MIN_ARRAY_SORT_GRAN"), (0, u "I"), (2, u "INSERTIONSORT_THRESHOLD"), (149, u "([BI)[B"), (105, .class_ 976), (0, u "java/util/Arrays$ArrayItr")] 52

def k16m0 : Method := { name := "<init>", desc := "()V", sig := { parameters := [], returnType := none }, accessFlags := 2, code := none }
def k16c1 : Code := { maxStack := 6, maxLocals := 3, code := jdk_65_method_121_code, exceptionTable := #[], attributes := #[] }
def k16m1 : Method := { name := "copyOf", desc := "([BI)[B", sig := { parameters := [(.array .byte), .int], returnType := some (.array .byte) }, accessFlags := 9, code := some k16c1 }
def k16c2 : Code := { maxStack := 4, maxLocals := 2, code := jdk_65_method_131_code, exceptionTable := #[], attributes := #[] }
def k16m2 : Method := { name := "checkLength", desc := "(II)V", sig := { parameters := [.int, .int], returnType := none }, accessFlags := 10, code := some k16c2 }
def k16c3 : Code := { maxStack := 3, maxLocals := 3, code := jdk_65_method_132_code, exceptionTable := #[], attributes := #[] }
def k16m3 : Method := { name := "copyOfRange", desc := "([BII)[B", sig := { parameters := [(.array .byte), .int, .int], returnType := some (.array .byte) }, accessFlags := 9, code := some k16c3 }
def k16c4 : Code := { maxStack := 6, maxLocals := 5, code := jdk_65_method_133_code, exceptionTable := #[], attributes := #[] }
def k16m4 : Method := { name := "copyOfRangeByte", desc := "([BII)[B", sig := { parameters := [(.array .byte), .int, .int], returnType := some (.array .byte) }, accessFlags := 10, code := some k16c4 }
/-- java/util/Arrays -/
def k16 : Class := { plain "java/util/Arrays" (some 0) with
  accessFlags := 49
  interfaces := #[]
  cf := some (fileOf pool16 14 #[.nestMembers #[975, 375, 113, 74]] #[{ accessFlags := 2, nameIndex := 5, descriptorIndex := 6, attributes := #[] }, { accessFlags := 9, nameIndex := 302, descriptorIndex := 869, attributes := #[] }, { accessFlags := 10, nameIndex := 345, descriptorIndex := 346, attributes := #[] }, { accessFlags := 9, nameIndex := 139, descriptorIndex := 342, attributes := #[] }, { accessFlags := 10, nameIndex := 341, descriptorIndex := 342, attributes := #[] }] 49 2 #[] #[{ accessFlags := 26, nameIndex := 715, descriptorIndex := 716, attributes := #[] }, { accessFlags := 26, nameIndex := 719, descriptorIndex := 716, attributes := #[] }, { accessFlags := 4120, nameIndex := 445, descriptorIndex := 117, attributes := #[] }])
  fields := #[{ name := "MIN_ARRAY_SORT_GRAN", type := .int, accessFlags := 26, slot := 0, constantValue := 0 }, { name := "INSERTIONSORT_THRESHOLD", type := .int, accessFlags := 26, slot := 1, constantValue := 0 }, { name := "$assertionsDisabled", type := .boolean, accessFlags := 4120, slot := 2, constantValue := 0 }]
  methods := #[k16m0, k16m1, k16m2, k16m3, k16m4]
  instanceTypes := #[]
  staticTypes := #[.int, .int, .boolean]
  resolved := Array.replicate 1029 none
  statics := none }

def pool17 : Array CpInfo := pool [(1, .class_ 2), (0, u "java/lang/Math"), (1, .class_ 6), (1, u "java/lang/Object"), (0, u "<init>"), (0, u "()V"), (89, .class_ 100), (1, u "java/lang/Math$RandomNumberGeneratorHolder"), (71, u "negativeZeroFloatBits"), (0, u "J"), (2, u "negativeZeroDoubleBits"), (21, u "max"), (2, u "min"), (43, u "$assertionsDisabled"), (0, u "Z"), (88, u "(II)I"), (2, u "twoToTheDoubleScaleDown"), (0, u "D"), (4, u "twoToTheDoubleScaleUp"), (9, u "E"), (3, u "PI"), (2, u "TAU"), (2, u "DEGREES_TO_RADIANS"), (0, u "RADIANS_TO_DEGREES")] 94

def k17m0 : Method := { name := "<init>", desc := "()V", sig := { parameters := [], returnType := none }, accessFlags := 2, code := none }
def k17c1 : Code := { maxStack := 2, maxLocals := 2, code := jdk_29_method_65_code, exceptionTable := #[], attributes := #[] }
def k17m1 : Method := { name := "max", desc := "(II)I", sig := { parameters := [.int, .int], returnType := some .int }, accessFlags := 9, code := some k17c1 }
def k17c2 : Code := { maxStack := 2, maxLocals := 2, code := jdk_29_method_69_code, exceptionTable := #[], attributes := #[] }
def k17m2 : Method := { name := "min", desc := "(II)I", sig := { parameters := [.int, .int], returnType := some .int }, accessFlags := 9, code := some k17c2 }
/-- java/lang/Math -/
def k17 : Class := { plain "java/lang/Math" (some 0) with
  accessFlags := 49
  interfaces := #[]
  cf := some (fileOf pool17 1 #[.nestMembers #[98]] #[{ accessFlags := 2, nameIndex := 7, descriptorIndex := 8, attributes := #[] }, { accessFlags := 9, nameIndex := 198, descriptorIndex := 335, attributes := #[] }, { accessFlags := 9, nameIndex := 201, descriptorIndex := 335, attributes := #[] }] 49 4 #[] #[{ accessFlags := 25, nameIndex := 354, descriptorIndex := 339, attributes := #[] }, { accessFlags := 25, nameIndex := 358, descriptorIndex := 339, attributes := #[] }, { accessFlags := 25, nameIndex := 361, descriptorIndex := 339, attributes := #[] }, { accessFlags := 26, nameIndex := 364, descriptorIndex := 339, attributes := #[] }, { accessFlags := 26, nameIndex := 365, descriptorIndex := 339, attributes := #[] }, { accessFlags := 26, nameIndex := 172, descriptorIndex := 173, attributes := #[] }, { accessFlags := 26, nameIndex := 176, descriptorIndex := 173, attributes := #[] }, { accessFlags := 8, nameIndex := 344, descriptorIndex := 339, attributes := #[] }, { accessFlags := 8, nameIndex := 338, descriptorIndex := 339, attributes := #[] }, { accessFlags := 4120, nameIndex := 245, descriptorIndex := 246, attributes := #[] }])
  fields := #[{ name := "E", type := .double, accessFlags := 25, slot := 0, constantValue := 0 }, { name := "PI", type := .double, accessFlags := 25, slot := 1, constantValue := 0 }, { name := "TAU", type := .double, accessFlags := 25, slot := 2, constantValue := 0 }, { name := "DEGREES_TO_RADIANS", type := .double, accessFlags := 26, slot := 3, constantValue := 0 }, { name := "RADIANS_TO_DEGREES", type := .double, accessFlags := 26, slot := 4, constantValue := 0 }, { name := "negativeZeroFloatBits", type := .long, accessFlags := 26, slot := 5, constantValue := 0 }, { name := "negativeZeroDoubleBits", type := .long, accessFlags := 26, slot := 6, constantValue := 0 }, { name := "twoToTheDoubleScaleUp", type := .double, accessFlags := 8, slot := 7, constantValue := 0 }, { name := "twoToTheDoubleScaleDown", type := .double, accessFlags := 8, slot := 8, constantValue := 0 }, { name := "$assertionsDisabled", type := .boolean, accessFlags := 4120, slot := 9, constantValue := 0 }]
  methods := #[k17m0, k17m1, k17m2]
  instanceTypes := #[]
  staticTypes := #[.double, .double, .double, .double, .double, .long, .long, .double, .double, .boolean]
  resolved := Array.replicate 460 none
  statics := none }

def pool18 : Array CpInfo := pool [(2, .class_ 4), (1, u "java/lang/Object"), (0, u "<init>"), (0, u "()V"), (1, .class_ 10), (1, u "java/lang/System"), (0, u "allowSecurityManager"), (0, u "I"), (16, u "cons"), (0, u "Ljava/io/Console;"), (77, .class_ 110), (1, u "java/lang/System$CallersHolder"), (43, u "initialErrStream"), (0, u "Ljava/io/PrintStream;"), (19, u "security"), (0, u "Ljava/lang/SecurityManager;"), (31, .class_ 209), (0, u "java/lang/System$1"), (7, u "props"), (0, u "Ljava/util/Properties;"), (2, u "lineSeparator"), (0, u "Ljava/lang/String;"), (96, .class_ 321), (1, u "java/lang/System$LoggerFinder"), (5, .class_ 328), (0, u "java/lang/System$Logger"), (67, u "err"), (2, u "out"), (91, u "notSupportedJnuEncoding"), (15, u "in"), (17, u "initialIn"), (0, u "Ljava/io/InputStream;"), (35, u "bootLayer"), (0, u "Ljava/lang/ModuleLayer;"), (99, .class_ 664), (0, u "java/lang/System$2"), (9, u "NEVER"), (2, u "MAYBE"), (49, u "arraycopy"), (0, u "(Ljava/lang/Object;ILjava/lang/Object;II)V"), (72, .class_ 802), (0, u "java/lang/System$Logger$Level")] 31

def k18m0 : Method := { name := "<init>", desc := "()V", sig := { parameters := [], returnType := none }, accessFlags := 2, code := none }
def k18m1 : Method := { name := "arraycopy", desc := "(Ljava/lang/Object;ILjava/lang/Object;II)V", sig := { parameters := [(.object "java/lang/Object"), .int, (.object "java/lang/Object"), .int, .int], returnType := none }, accessFlags := 265, code := none }
/-- java/lang/System -/
def k18 : Class := { plain "java/lang/System" (some 0) with
  accessFlags := 49
  interfaces := #[]
  cf := some (fileOf pool18 8 #[.nestMembers #[319, 327, 801, 108, 663, 208]] #[{ accessFlags := 2, nameIndex := 5, descriptorIndex := 6, attributes := #[] }, { accessFlags := 265, nameIndex := 727, descriptorIndex := 728, attributes := #[] }] 49 2 #[] #[{ accessFlags := 25, nameIndex := 507, descriptorIndex := 526, attributes := #[] }, { accessFlags := 25, nameIndex := 399, descriptorIndex := 155, attributes := #[] }, { accessFlags := 25, nameIndex := 396, descriptorIndex := 155, attributes := #[] }, { accessFlags := 10, nameIndex := 525, descriptorIndex := 526, attributes := #[] }, { accessFlags := 26, nameIndex := 674, descriptorIndex := 12, attributes := #[] }, { accessFlags := 26, nameIndex := 677, descriptorIndex := 12, attributes := #[] }, { accessFlags := 10, nameIndex := 11, descriptorIndex := 12, attributes := #[] }, { accessFlags := 74, nameIndex := 175, descriptorIndex := 176, attributes := #[] }, { accessFlags := 10, nameIndex := 491, descriptorIndex := 222, attributes := #[] }, { accessFlags := 74, nameIndex := 29, descriptorIndex := 30, attributes := #[] }, { accessFlags := 74, nameIndex := 154, descriptorIndex := 155, attributes := #[] }, { accessFlags := 10, nameIndex := 217, descriptorIndex := 218, attributes := #[] }, { accessFlags := 10, nameIndex := 221, descriptorIndex := 222, attributes := #[] }, { accessFlags := 8, nameIndex := 562, descriptorIndex := 563, attributes := #[] }])
  fields := #[{ name := "in", type := (.object "java/io/InputStream"), accessFlags := 25, slot := 0, constantValue := 0 }, { name := "out", type := (.object "java/io/PrintStream"), accessFlags := 25, slot := 1, constantValue := 0 }, { name := "err", type := (.object "java/io/PrintStream"), accessFlags := 25, slot := 2, constantValue := 0 }, { name := "initialIn", type := (.object "java/io/InputStream"), accessFlags := 10, slot := 3, constantValue := 0 }, { name := "NEVER", type := .int, accessFlags := 26, slot := 4, constantValue := 0 }, { name := "MAYBE", type := .int, accessFlags := 26, slot := 5, constantValue := 0 }, { name := "allowSecurityManager", type := .int, accessFlags := 10, slot := 6, constantValue := 0 }, { name := "security", type := (.object "java/lang/SecurityManager"), accessFlags := 74, slot := 7, constantValue := 0 }, { name := "notSupportedJnuEncoding", type := (.object "java/lang/String"), accessFlags := 10, slot := 8, constantValue := 0 }, { name := "cons", type := (.object "java/io/Console"), accessFlags := 74, slot := 9, constantValue := 0 }, { name := "initialErrStream", type := (.object "java/io/PrintStream"), accessFlags := 74, slot := 10, constantValue := 0 }, { name := "props", type := (.object "java/util/Properties"), accessFlags := 10, slot := 11, constantValue := 0 }, { name := "lineSeparator", type := (.object "java/lang/String"), accessFlags := 10, slot := 12, constantValue := 0 }, { name := "bootLayer", type := (.object "java/lang/ModuleLayer"), accessFlags := 8, slot := 13, constantValue := 0 }]
  methods := #[k18m0, k18m1]
  instanceTypes := #[]
  staticTypes := #[(.object "java/io/InputStream"), (.object "java/io/PrintStream"), (.object "java/io/PrintStream"), (.object "java/io/InputStream"), .int, .int, .int, (.object "java/lang/SecurityManager"), (.object "java/lang/String"), (.object "java/io/Console"), (.object "java/io/PrintStream"), (.object "java/util/Properties"), (.object "java/lang/String"), (.object "java/lang/ModuleLayer")]
  resolved := Array.replicate 834 none
  statics := none }

def pool19 : Array CpInfo := pool [(1, .class_ 2), (0, u "java/lang/String"), (1, .class_ 6), (1, u "java/lang/Object"), (0, u "<init>"), (0, u "()V"), (0, .methodref 1 10), (0, .nameAndType 11 12), (0, u "checkIndex"), (0, u "(II)V"), (1, .class_ 16), (1, u "java/lang/StringLatin1"), (0, u "inflate"), (2, .class_ 22), (1, u "java/lang/StringUTF16"), (3, .nameAndType 17 27), (0, u "([BI[BII)V"), (25, u "([BI)C"), (58, .methodref 1 113), (0, .nameAndType 7 114), (0, u "([BB)V"), (6, u "$assertionsDisabled"), (0, u "Z"), (8, .class_ 133), (1, u "java/util/Arrays"), (17, .string 152), (0, u ""), (43, u "newString"), (0, u "([BII)Ljava/lang/String;"), (23, .class_ 223), (1, u "java/lang/StringLatin1$LinesSpliterator"), (8, .methodref 131 233), (0, .nameAndType 234 235), (0, u "copyOfRange"), (0, u "([BII)[B"), (4, .methodref 20 26), (11, u "charAt"), (28, u "equals"), (0, u "([B[B)Z"), (107, .class_ 391), (0, u "java/lang/StringLatin1$CharsSpliterator")] 3

def k19m0 : Method := { name := "<init>", desc := "()V", sig := { parameters := [], returnType := none }, accessFlags := 0, code := none }
def k19c1 : Code := { maxStack := 2, maxLocals := 2, code := jdk_43_method_2_code, exceptionTable := #[], attributes := #[] }
def k19m1 : Method := { name := "charAt", desc := "([BI)C", sig := { parameters := [(.array .byte), .int], returnType := some .char }, accessFlags := 9, code := some k19c1 }
def k19c2 : Code := { maxStack := 3, maxLocals := 3, code := jdk_43_method_13_code, exceptionTable := #[], attributes := #[] }
def k19m2 : Method := { name := "equals", desc := "([B[B)Z", sig := { parameters := [(.array .byte), (.array .byte)], returnType := some .boolean }, accessFlags := 9, code := some k19c2 }
def k19c3 : Code := { maxStack := 6, maxLocals := 3, code := jdk_43_method_47_code, exceptionTable := #[], attributes := #[] }
def k19m3 : Method := { name := "newString", desc := "([BII)Ljava/lang/String;", sig := { parameters := [(.array .byte), .int, .int], returnType := some (.object "java/lang/String") }, accessFlags := 9, code := some k19c3 }
def k19c4 : Code := { maxStack := 5, maxLocals := 5, code := jdk_43_method_50_code, exceptionTable := #[], attributes := #[] }
def k19m4 : Method := { name := "inflate", desc := "([BI[BII)V", sig := { parameters := [(.array .byte), .int, (.array .byte), .int, .int], returnType := none }, accessFlags := 9, code := some k19c4 }
/-- java/lang/StringLatin1 -/
def k19 : Class := { plain "java/lang/StringLatin1" (some 0) with
  accessFlags := 48
  interfaces := #[]
  cf := some (fileOf pool19 14 #[.nestMembers #[390, 221]] #[{ accessFlags := 0, nameIndex := 7, descriptorIndex := 8, attributes := #[] }, { accessFlags := 9, nameIndex := 252, descriptorIndex := 53, attributes := #[] }, { accessFlags := 9, nameIndex := 281, descriptorIndex := 282, attributes := #[] }, { accessFlags := 9, nameIndex := 196, descriptorIndex := 197, attributes := #[] }, { accessFlags := 9, nameIndex := 17, descriptorIndex := 27, attributes := #[] }] 48 4 #[] #[{ accessFlags := 4120, nameIndex := 121, descriptorIndex := 122, attributes := #[] }])
  fields := #[{ name := "$assertionsDisabled", type := .boolean, accessFlags := 4120, slot := 0, constantValue := 0 }]
  methods := #[k19m0, k19m1, k19m2, k19m3, k19m4]
  instanceTypes := #[]
  staticTypes := #[.boolean]
  resolved := Array.replicate 395 none
  statics := none }

def pool20 : Array CpInfo := pool [(2, .class_ 4), (1, u "java/lang/Object"), (0, u "<init>"), (0, u "()V"), (1, .class_ 10), (1, u "java/lang/Number"), (2, .class_ 14), (0, u "java/io/Serializable"), (0, u "serialVersionUID"), (0, u "J")] 20

def k20m0 : Method := { name := "<init>", desc := "()V", sig := { parameters := [], returnType := none }, accessFlags := 1, code := none }
/-- java/lang/Number -/
def k20 : Class := { plain "java/lang/Number" (some 0) with
  accessFlags := 1057
  interfaces := #[2]
  cf := some (fileOf pool20 8 #[] #[{ accessFlags := 1, nameIndex := 5, descriptorIndex := 6, attributes := #[] }] 1057 2 #[13] #[{ accessFlags := 26, nameIndex := 15, descriptorIndex := 16, attributes := #[] }])
  fields := #[{ name := "serialVersionUID", type := .long, accessFlags := 26, slot := 0, constantValue := 0 }]
  methods := #[k20m0]
  instanceTypes := #[]
  staticTypes := #[.long]
  resolved := Array.replicate 37 none
  statics := none }

def pool21 : Array CpInfo := pool [(1, .class_ 2), (0, u "java/lang/Integer"), (16, u "digits"), (0, u "[C"), (33, u "(I)I"), (19, u "stringSize"), (2, u "getChars"), (0, u "(II[B)I"), (4, .fieldref 1 84), (0, .nameAndType 85 86), (0, u "DigitOnes"), (0, u "[B"), (2, u "DigitTens"), (99, .class_ 190), (0, u "java/lang/Integer$IntegerCache"), (3, u "I"), (8, .class_ 204), (0, u "java/lang/Number"), (2, u "value"), (94, u "TYPE"), (0, u "Ljava/lang/Class;"), (0, .class_ 305), (0, u "java/lang/Comparable"), (0, .class_ 307), (0, u "java/lang/constant/Constable"), (0, .class_ 309), (0, u "java/lang/constant/ConstantDesc"), (0, u "MIN_VALUE"), (1, u "MAX_VALUE"), (3, u "SIZE"), (1, u "BYTES"), (1, u "serialVersionUID"), (0, u "J")] 131

def k21c0 : Code := { maxStack := 4, maxLocals := 7, code := jdk_33_method_12_code, exceptionTable := #[], attributes := #[] }
def k21m0 : Method := { name := "getChars", desc := "(II[B)I", sig := { parameters := [.int, .int, (.array .byte)], returnType := some .int }, accessFlags := 8, code := some k21c0 }
def k21c1 : Code := { maxStack := 2, maxLocals := 4, code := jdk_33_method_13_code, exceptionTable := #[], attributes := #[] }
def k21m1 : Method := { name := "stringSize", desc := "(I)I", sig := { parameters := [.int], returnType := some .int }, accessFlags := 8, code := some k21c1 }
/-- java/lang/Integer -/
def k21 : Class := { plain "java/lang/Integer" (some 20) with
  accessFlags := 49
  interfaces := #[3, 5, 6]
  cf := some (fileOf pool21 1 #[.nestMembers #[189]] #[{ accessFlags := 8, nameIndex := 77, descriptorIndex := 78, attributes := #[] }, { accessFlags := 8, nameIndex := 74, descriptorIndex := 54, attributes := #[] }] 49 203 #[304, 306, 308] #[{ accessFlags := 25, nameIndex := 310, descriptorIndex := 194, attributes := #[] }, { accessFlags := 25, nameIndex := 312, descriptorIndex := 194, attributes := #[] }, { accessFlags := 25, nameIndex := 302, descriptorIndex := 303, attributes := #[] }, { accessFlags := 24, nameIndex := 19, descriptorIndex := 20, attributes := #[] }, { accessFlags := 24, nameIndex := 89, descriptorIndex := 86, attributes := #[] }, { accessFlags := 24, nameIndex := 85, descriptorIndex := 86, attributes := #[] }, { accessFlags := 18, nameIndex := 207, descriptorIndex := 194, attributes := #[] }, { accessFlags := 25, nameIndex := 316, descriptorIndex := 194, attributes := #[] }, { accessFlags := 25, nameIndex := 318, descriptorIndex := 194, attributes := #[] }, { accessFlags := 26, nameIndex := 320, descriptorIndex := 321, attributes := #[] }])
  fields := #[{ name := "MIN_VALUE", type := .int, accessFlags := 25, slot := 0, constantValue := 0 }, { name := "MAX_VALUE", type := .int, accessFlags := 25, slot := 1, constantValue := 0 }, { name := "TYPE", type := (.object "java/lang/Class"), accessFlags := 25, slot := 2, constantValue := 0 }, { name := "digits", type := (.array .char), accessFlags := 24, slot := 3, constantValue := 0 }, { name := "DigitTens", type := (.array .byte), accessFlags := 24, slot := 4, constantValue := 0 }, { name := "DigitOnes", type := (.array .byte), accessFlags := 24, slot := 5, constantValue := 0 }, { name := "value", type := .int, accessFlags := 18, slot := 0, constantValue := 0 }, { name := "SIZE", type := .int, accessFlags := 25, slot := 6, constantValue := 0 }, { name := "BYTES", type := .int, accessFlags := 25, slot := 7, constantValue := 0 }, { name := "serialVersionUID", type := .long, accessFlags := 26, slot := 8, constantValue := 0 }]
  methods := #[k21m0, k21m1]
  instanceTypes := #[.int]
  staticTypes := #[.int, .int, (.object "java/lang/Class"), (.array .char), (.array .byte), (.array .byte), .int, .int, .long]
  resolved := Array.replicate 453 none
  statics := some 3 }

def pool22 : Array CpInfo := pool [(9, u "<init>"), (6, .class_ 18), (1, u "java/lang/Object"), (0, u "()V"), (1, .class_ 23), (1, u "jdk/internal/util/ArraysSupport"), (0, u "LOG2_ARRAY_LONG_INDEX_SCALE"), (0, u "I"), (2, u "U"), (0, u "Ljdk/internal/misc/Unsafe;"), (8, u "BIG_ENDIAN"), (0, u "Z"), (8, u "LOG2_BYTE_BIT_SIZE"), (4, u "LOG2_ARRAY_INT_INDEX_SCALE"), (54, u "JLA"), (0, u "Ljdk/internal/access/JavaLangAccess;"), (11, u "LOG2_ARRAY_BOOLEAN_INDEX_SCALE"), (9, u "LOG2_ARRAY_BYTE_INDEX_SCALE"), (5, u "LOG2_ARRAY_CHAR_INDEX_SCALE"), (5, u "LOG2_ARRAY_SHORT_INDEX_SCALE"), (18, u "LOG2_ARRAY_FLOAT_INDEX_SCALE"), (24, u "LOG2_ARRAY_DOUBLE_INDEX_SCALE"), (6, .methodref 195 196), (0, .class_ 197), (0, .nameAndType 198 199), (0, u "java/lang/Math"), (0, u "max"), (0, u "(II)I"), (0, .integer 2147483639), (76, u "T_BOOLEAN"), (2, u "T_CHAR"), (1, u "T_FLOAT"), (1, u "T_DOUBLE"), (1, u "T_BYTE"), (1, u "T_SHORT"), (1, u "T_INT"), (1, u "T_LONG"), (1, u "SOFT_MAX_ARRAY_LENGTH"), (56, u "newLength"), (0, u "(III)I")] 25

def k22m0 : Method := { name := "<init>", desc := "()V", sig := { parameters := [], returnType := none }, accessFlags := 2, code := none }
def k22c1 : Code := { maxStack := 3, maxLocals := 4, code := jdk_48_method_27_code, exceptionTable := #[], attributes := #[] }
def k22m1 : Method := { name := "newLength", desc := "(III)I", sig := { parameters := [.int, .int, .int], returnType := some .int }, accessFlags := 9, code := some k22c1 }
/-- jdk/internal/util/ArraysSupport -/
def k22 : Class := { plain "jdk/internal/util/ArraysSupport" (some 0) with
  accessFlags := 33
  interfaces := #[]
  cf := some (fileOf pool22 21 #[] #[{ accessFlags := 2, nameIndex := 9, descriptorIndex := 19, attributes := #[] }, { accessFlags := 9, nameIndex := 351, descriptorIndex := 352, attributes := #[] }] 33 16 #[] #[{ accessFlags := 24, nameIndex := 28, descriptorIndex := 29, attributes := #[] }, { accessFlags := 26, nameIndex := 38, descriptorIndex := 39, attributes := #[] }, { accessFlags := 25, nameIndex := 121, descriptorIndex := 25, attributes := #[] }, { accessFlags := 25, nameIndex := 131, descriptorIndex := 25, attributes := #[] }, { accessFlags := 25, nameIndex := 137, descriptorIndex := 25, attributes := #[] }, { accessFlags := 25, nameIndex := 143, descriptorIndex := 25, attributes := #[] }, { accessFlags := 25, nameIndex := 53, descriptorIndex := 25, attributes := #[] }, { accessFlags := 25, nameIndex := 24, descriptorIndex := 25, attributes := #[] }, { accessFlags := 25, nameIndex := 162, descriptorIndex := 25, attributes := #[] }, { accessFlags := 25, nameIndex := 187, descriptorIndex := 25, attributes := #[] }, { accessFlags := 26, nameIndex := 48, descriptorIndex := 25, attributes := #[] }, { accessFlags := 25, nameIndex := 277, descriptorIndex := 25, attributes := #[] }, { accessFlags := 25, nameIndex := 280, descriptorIndex := 25, attributes := #[] }, { accessFlags := 25, nameIndex := 282, descriptorIndex := 25, attributes := #[] }, { accessFlags := 25, nameIndex := 284, descriptorIndex := 25, attributes := #[] }, { accessFlags := 25, nameIndex := 286, descriptorIndex := 25, attributes := #[] }, { accessFlags := 25, nameIndex := 288, descriptorIndex := 25, attributes := #[] }, { accessFlags := 25, nameIndex := 290, descriptorIndex := 25, attributes := #[] }, { accessFlags := 25, nameIndex := 292, descriptorIndex := 25, attributes := #[] }, { accessFlags := 26, nameIndex := 108, descriptorIndex := 109, attributes := #[] }, { accessFlags := 25, nameIndex := 294, descriptorIndex := 25, attributes := #[] }])
  fields := #[{ name := "U", type := (.object "jdk/internal/misc/Unsafe"), accessFlags := 24, slot := 0, constantValue := 0 }, { name := "BIG_ENDIAN", type := .boolean, accessFlags := 26, slot := 1, constantValue := 0 }, { name := "LOG2_ARRAY_BOOLEAN_INDEX_SCALE", type := .int, accessFlags := 25, slot := 2, constantValue := 0 }, { name := "LOG2_ARRAY_BYTE_INDEX_SCALE", type := .int, accessFlags := 25, slot := 3, constantValue := 0 }, { name := "LOG2_ARRAY_CHAR_INDEX_SCALE", type := .int, accessFlags := 25, slot := 4, constantValue := 0 }, { name := "LOG2_ARRAY_SHORT_INDEX_SCALE", type := .int, accessFlags := 25, slot := 5, constantValue := 0 }, { name := "LOG2_ARRAY_INT_INDEX_SCALE", type := .int, accessFlags := 25, slot := 6, constantValue := 0 }, { name := "LOG2_ARRAY_LONG_INDEX_SCALE", type := .int, accessFlags := 25, slot := 7, constantValue := 0 }, { name := "LOG2_ARRAY_FLOAT_INDEX_SCALE", type := .int, accessFlags := 25, slot := 8, constantValue := 0 }, { name := "LOG2_ARRAY_DOUBLE_INDEX_SCALE", type := .int, accessFlags := 25, slot := 9, constantValue := 0 }, { name := "LOG2_BYTE_BIT_SIZE", type := .int, accessFlags := 26, slot := 10, constantValue := 0 }, { name := "T_BOOLEAN", type := .int, accessFlags := 25, slot := 11, constantValue := 0 }, { name := "T_CHAR", type := .int, accessFlags := 25, slot := 12, constantValue := 0 }, { name := "T_FLOAT", type := .int, accessFlags := 25, slot := 13, constantValue := 0 }, { name := "T_DOUBLE", type := .int, accessFlags := 25, slot := 14, constantValue := 0 }, { name := "T_BYTE", type := .int, accessFlags := 25, slot := 15, constantValue := 0 }, { name := "T_SHORT", type := .int, accessFlags := 25, slot := 16, constantValue := 0 }, { name := "T_INT", type := .int, accessFlags := 25, slot := 17, constantValue := 0 }, { name := "T_LONG", type := .int, accessFlags := 25, slot := 18, constantValue := 0 }, { name := "JLA", type := (.object "jdk/internal/access/JavaLangAccess"), accessFlags := 26, slot := 19, constantValue := 0 }, { name := "SOFT_MAX_ARRAY_LENGTH", type := .int, accessFlags := 25, slot := 20, constantValue := 0 }]
  methods := #[k22m0, k22m1]
  instanceTypes := #[]
  staticTypes := #[(.object "jdk/internal/misc/Unsafe"), .boolean, .int, .int, .int, .int, .int, .int, .int, .int, .int, .int, .int, .int, .int, .int, .int, .int, .int, (.object "jdk/internal/access/JavaLangAccess"), .int]
  resolved := Array.replicate 378 none
  statics := none }

def pool23 : Array CpInfo := pool [(1, u "java/lang/Cloneable"), (0, .class_ 1), (0, u "java/lang/Object"), (0, .class_ 3)] 3

/-- java/lang/Cloneable -/
def k23 : Class := { plain "java/lang/Cloneable" (some 0) with
  accessFlags := 1537
  interfaces := #[]
  cf := some (fileOf pool23 2 #[] #[] 1537 4 #[] #[])
  fields := #[]
  methods := #[]
  instanceTypes := #[]
  staticTypes := #[]
  resolved := Array.replicate 8 none
  statics := none }

/-- the primitive byte -/
def k24 : Class := { plain "byte" none with kind := .primitive 'B', accessFlags := 0x411 }
/-- [B -/
def k25 : Class := { plain "[B" (some 0) with kind := .array 24 .byte, interfaces := #[23, 2], accessFlags := 1041 }

/-- the primitive char -/
def k26 : Class := { plain "char" none with kind := .primitive 'C', accessFlags := 0x411 }
/-- [C -/
def k27 : Class := { plain "[C" (some 0) with kind := .array 26 .char, interfaces := #[23, 2], accessFlags := 1041 }

/-- the primitive int -/
def k28 : Class := { plain "int" none with kind := .primitive 'I', accessFlags := 0x411 }
/-- [I -/
def k29 : Class := { plain "[I" (some 0) with kind := .array 28 .int, interfaces := #[23, 2], accessFlags := 1041 }

def heap : Heap := #[{ cls := 7, slots := #[.long 0, .int 1, .null, .int 0, .null, .int 0, .int 0], vm := .statics 7 },
  { cls := 10, slots := #[.null, .null, .null], vm := .statics 10 },
  { cls := 11, slots := #[.int 0, .int 8, .int 0, .int 1], vm := .statics 11 },
  { cls := 21, slots := #[.int 0, .int 0, .null, .null, .ref 5, .ref 4, .int 0, .int 0, .long 0], vm := .statics 21 },
  { cls := 25, slots := #[.int 48, .int 49, .int 50, .int 51, .int 52, .int 53, .int 54, .int 55, .int 56, .int 57, .int 48, .int 49, .int 50, .int 51, .int 52, .int 53, .int 54, .int 55, .int 56, .int 57, .int 48, .int 49, .int 50, .int 51, .int 52, .int 53, .int 54, .int 55, .int 56, .int 57, .int 48, .int 49, .int 50, .int 51, .int 52, .int 53, .int 54, .int 55, .int 56, .int 57, .int 48, .int 49, .int 50, .int 51, .int 52, .int 53, .int 54, .int 55, .int 56, .int 57, .int 48, .int 49, .int 50, .int 51, .int 52, .int 53, .int 54, .int 55, .int 56, .int 57, .int 48, .int 49, .int 50, .int 51, .int 52, .int 53, .int 54, .int 55, .int 56, .int 57, .int 48, .int 49, .int 50, .int 51, .int 52, .int 53, .int 54, .int 55, .int 56, .int 57, .int 48, .int 49, .int 50, .int 51, .int 52, .int 53, .int 54, .int 55, .int 56, .int 57, .int 48, .int 49, .int 50, .int 51, .int 52, .int 53, .int 54, .int 55, .int 56, .int 57], vm := .none },
  { cls := 25, slots := #[.int 48, .int 48, .int 48, .int 48, .int 48, .int 48, .int 48, .int 48, .int 48, .int 48, .int 49, .int 49, .int 49, .int 49, .int 49, .int 49, .int 49, .int 49, .int 49, .int 49, .int 50, .int 50, .int 50, .int 50, .int 50, .int 50, .int 50, .int 50, .int 50, .int 50, .int 51, .int 51, .int 51, .int 51, .int 51, .int 51, .int 51, .int 51, .int 51, .int 51, .int 52, .int 52, .int 52, .int 52, .int 52, .int 52, .int 52, .int 52, .int 52, .int 52, .int 53, .int 53, .int 53, .int 53, .int 53, .int 53, .int 53, .int 53, .int 53, .int 53, .int 54, .int 54, .int 54, .int 54, .int 54, .int 54, .int 54, .int 54, .int 54, .int 54, .int 55, .int 55, .int 55, .int 55, .int 55, .int 55, .int 55, .int 55, .int 55, .int 55, .int 56, .int 56, .int 56, .int 56, .int 56, .int 56, .int 56, .int 56, .int 56, .int 56, .int 57, .int 57, .int 57, .int 57, .int 57, .int 57, .int 57, .int 57, .int 57, .int 57], vm := .none }]
def classes : Array Class := #[k0, k1, k2, k3, k4, k5, k6, k7, k8, k9, k10, k11, k12, k13, k14, k15, k16, k17, k18, k19, k20, k21, k22, k23, k24, k25, k26, k27, k28, k29]
def interned : List (Array UInt16 × Addr) := []
def slotsUsed : Nat := 223
def theMethod : MethodId := ⟨1, 1⟩
def args0 : Array Value := #[.int 3, .int 388, .int 392, .int 396, .int 400, .int 2]
def aboutOver (below : List Frame) : State where
  vm := { classes := classes, interned := interned.toArray }
  heap := heap
  slotsUsed := slotsUsed
  threads := #[{ frames := .invoking theMethod args0 :: below }]
def below0 : List Frame := [.native { method := ⟨0, 0⟩, args := #[] }]
def about1 : State := aboutOver below0
def p0 : Program := .bare "" "" ""
def e0 : Env := launch0.env 0 0 0
theorem w_frames : about1.frames = Frame.invoking theMethod args0 :: below0 := rfl
set_option maxRecDepth 65536 in
theorem w_args : argsFit about1.vm theMethod args0 = true := by decide +kernel
set_option maxRecDepth 65536 in
theorem w_heap : heapFits about1 = true := by decide +kernel
set_option maxRecDepth 65536 in
theorem w_runnable : about1.curStatus? = some .runnable := by decide +kernel
set_option maxRecDepth 65536 in
theorem w_alone : about1.alone = true := by decide +kernel
set_option maxRecDepth 65536 in
theorem w_named : about1.methodNamed? x = some theMethod := by decide +kernel
set_option maxRecDepth 65536 in
theorem w_hears : about1.hears theMethod below0 = true := by decide +kernel
set_option maxRecDepth 65536 in
theorem w_ripe : about1.ripe theMethod args0 below0 = true := by decide +kernel
theorem w_running : about1.status = .running := rfl
set_option maxRecDepth 65536 in
theorem w_room : about1.hasRoom e0.platform room_1 = true :=
  launch0.hasRoom_least _ room_1 (by decide +kernel) (by decide +kernel) (by decide +kernel) (by decide +kernel) (by decide +kernel) (by decide +kernel)
theorem allAtoms_all (ts : List Jvm.Cond) (a : Array Jvm.Value) (st : Jvm.State) : (allAtoms ts).before a st = ts.all (fun c => c.before a st) := by
  induction ts with
  | nil => rfl
  | cons c t ih =>
    show (Jvm.Cond.and c (allAtoms t)).before a st = _
    rw [Jvm.Cond.before_and, ih, List.all_cons]
def words1 : List Jvm.Cond := Jvm.Cond.code x code maxLocals ret :: tables_1
/-- a 'code' word, met by the world's own term for the bytes: nothing is compared byte by byte -/
theorem code_word {y : MethodName} {bytes : ByteArray} {mx : Nat} {rt : Option FieldType} {a : Array Value} {s : State} {m : MethodId} {meth : Method} {c : Code} (h1 : s.methodNamed? y = some m) (h2 : s.vm.method? m = some meth) (h3 : meth.code = some c) (h4 : c.code = bytes)
    (h5 : (c.maxLocals == mx && c.exceptionTable.isEmpty && decide (c.maxStack ≤ mostOperands) && decide (meth.sig.returnType = rt) && !meth.locks && decide (parseMethodDescriptor y.desc = some meth.sig)) = true) : (Jvm.Cond.code y bytes mx rt).before a s = true := by
  simp only [Bool.and_eq_true, beq_iff_eq, Bool.not_eq_true', decide_eq_true_eq] at h5
  obtain ⟨⟨⟨⟨⟨g1, g2⟩, g3⟩, g4⟩, g5⟩, g6⟩ := h5
  simp [Cond.before, Cond.holds, Cond.value, h1, h2, h3, h4, g1, g2, g3, g4, g5, g6]
def isCode : Jvm.Cond → Bool
  | .code _ _ _ _ => true
  | _ => false
theorem all_split {L : List Jvm.Cond} {P : Jvm.Cond → Bool} (h1 : L.all (fun c => isCode c || P c) = true) (h2 : ∀ c ∈ L.filter isCode, P c = true) : L.all P = true := by
  refine List.all_eq_true.mpr fun c hc => ?_
  have h := List.all_eq_true.mp h1 c hc
  rcases Bool.eq_false_or_eq_true (isCode c) with hi | hi
  · exact h2 c (List.mem_filter.mpr ⟨hc, hi⟩)
  · simpa [hi] using h
set_option maxRecDepth 65536 in
theorem w_c0 : (Jvm.Cond.code x code maxLocals ret).before args0 about1 = true := code_word (m := ⟨1, 1⟩) (meth := k1m1) (c := k1c1) (by decide +kernel) rfl rfl rfl (by decide +kernel)
set_option maxRecDepth 65536 in
theorem w_c1 : (Jvm.Cond.code ({ cls := "com/example/downtally/downtally/cli/VisibleTextShortenedPinLaw", name := "ch", desc := "(I)C" } : Jvm.MethodName) method_3_code (3 : Nat) (Option.some Jvm.ClassFile.FieldType.char)).before args0 about1 = true := code_word (m := ⟨1, 2⟩) (meth := k1m2) (c := k1c2) (by decide +kernel) rfl rfl rfl (by decide +kernel)
set_option maxRecDepth 65536 in
theorem w_c2 : (Jvm.Cond.code ({ cls := "com/example/downtally/downtally/cli/VisibleTextShortenedPinLaw", name := "text", desc := "(ICCCC)Ljava/lang/String;" } : Jvm.MethodName) method_8_code (5 : Nat) (Option.some (Jvm.ClassFile.FieldType.object "java/lang/String"))).before args0 about1 = true := code_word (m := ⟨1, 7⟩) (meth := k1m7) (c := k1c7) (by decide +kernel) rfl rfl rfl (by decide +kernel)
set_option maxRecDepth 65536 in
theorem w_c3 : (Jvm.Cond.code ({ cls := "java/lang/String", name := "<init>", desc := "([C)V" } : Jvm.MethodName) jdk_42_method_3_code (2 : Nat) (Option.none : Option Jvm.ClassFile.FieldType)).before args0 about1 = true := code_word (m := ⟨7, 1⟩) (meth := k7m1) (c := k7c1) (by decide +kernel) rfl rfl rfl (by decide +kernel)
set_option maxRecDepth 65536 in
theorem w_c4 : (Jvm.Cond.code ({ cls := "java/lang/String", name := "<init>", desc := "([CIILjava/lang/Void;)V" } : Jvm.MethodName) jdk_42_method_149_code (6 : Nat) (Option.none : Option Jvm.ClassFile.FieldType)).before args0 about1 = true := code_word (m := ⟨7, 10⟩) (meth := k7m10) (c := k7c10) (by decide +kernel) rfl rfl rfl (by decide +kernel)
set_option maxRecDepth 65536 in
theorem w_c5 : (Jvm.Cond.code ({ cls := "java/lang/Object", name := "<init>", desc := "()V" } : Jvm.MethodName) object_method_1_code (1 : Nat) (Option.none : Option Jvm.ClassFile.FieldType)).before args0 about1 = true := code_word (m := ⟨0, 0⟩) (meth := k0m0) (c := k0c0) (by decide +kernel) rfl rfl rfl (by decide +kernel)
set_option maxRecDepth 65536 in
theorem w_c6 : (Jvm.Cond.code ({ cls := "com/example/downtally/downtally/cli/VisibleTextShortenedPinLaw", name := "pair", desc := "([CII)I" } : Jvm.MethodName) method_6_code (3 : Nat) (Option.some Jvm.ClassFile.FieldType.int)).before args0 about1 = true := code_word (m := ⟨1, 5⟩) (meth := k1m5) (c := k1c5) (by decide +kernel) rfl rfl rfl (by decide +kernel)
set_option maxRecDepth 65536 in
theorem w_c7 : (Jvm.Cond.code ({ cls := "com/example/downtally/downtally/cli/VisibleText", name := "shortened", desc := "(Ljava/lang/String;I)Ljava/lang/String;" } : Jvm.MethodName) prog_21_method_4_code (4 : Nat) (Option.some (Jvm.ClassFile.FieldType.object "java/lang/String"))).before args0 about1 = true := code_word (m := ⟨8, 1⟩) (meth := k8m1) (c := k8c1) (by decide +kernel) rfl rfl rfl (by decide +kernel)
set_option maxRecDepth 65536 in
theorem w_c8 : (Jvm.Cond.code ({ cls := "java/lang/String", name := "length", desc := "()I" } : Jvm.MethodName) jdk_42_method_54_code (1 : Nat) (Option.some Jvm.ClassFile.FieldType.int)).before args0 about1 = true := code_word (m := ⟨7, 3⟩) (meth := k7m3) (c := k7c3) (by decide +kernel) rfl rfl rfl (by decide +kernel)
set_option maxRecDepth 65536 in
theorem w_c9 : (Jvm.Cond.code ({ cls := "java/lang/String", name := "coder", desc := "()B" } : Jvm.MethodName) jdk_42_method_152_code (1 : Nat) (Option.some Jvm.ClassFile.FieldType.byte)).before args0 about1 = true := code_word (m := ⟨7, 13⟩) (meth := k7m13) (c := k7c13) (by decide +kernel) rfl rfl rfl (by decide +kernel)
set_option maxRecDepth 65536 in
theorem w_c10 : (Jvm.Cond.code ({ cls := "java/lang/String", name := "codePointCount", desc := "(II)I" } : Jvm.MethodName) jdk_42_method_59_code (3 : Nat) (Option.some Jvm.ClassFile.FieldType.int)).before args0 about1 = true := code_word (m := ⟨7, 5⟩) (meth := k7m5) (c := k7c5) (by decide +kernel) rfl rfl rfl (by decide +kernel)
set_option maxRecDepth 65536 in
theorem w_c11 : (Jvm.Cond.code ({ cls := "java/util/Objects", name := "checkFromToIndex", desc := "(III)I" } : Jvm.MethodName) jdk_31_method_18_code (3 : Nat) (Option.some Jvm.ClassFile.FieldType.int)).before args0 about1 = true := code_word (m := ⟨9, 1⟩) (meth := k9m1) (c := k9c1) (by decide +kernel) rfl rfl rfl (by decide +kernel)
set_option maxRecDepth 65536 in
theorem w_c12 : (Jvm.Cond.code ({ cls := "jdk/internal/util/Preconditions", name := "checkFromToIndex", desc := "(IIILjava/util/function/BiFunction;)I" } : Jvm.MethodName) jdk_41_method_12_code (4 : Nat) (Option.some Jvm.ClassFile.FieldType.int)).before args0 about1 = true := code_word (m := ⟨10, 2⟩) (meth := k10m2) (c := k10c2) (by decide +kernel) rfl rfl rfl (by decide +kernel)
set_option maxRecDepth 65536 in
theorem w_c13 : (Jvm.Cond.code ({ cls := "java/lang/String", name := "isLatin1", desc := "()Z" } : Jvm.MethodName) jdk_42_method_154_code (1 : Nat) (Option.some Jvm.ClassFile.FieldType.boolean)).before args0 about1 = true := code_word (m := ⟨7, 14⟩) (meth := k7m14) (c := k7c14) (by decide +kernel) rfl rfl rfl (by decide +kernel)
set_option maxRecDepth 65536 in
theorem w_c14 : (Jvm.Cond.code ({ cls := "java/lang/String", name := "equals", desc := "(Ljava/lang/Object;)Z" } : Jvm.MethodName) jdk_42_method_66_code (3 : Nat) (Option.some Jvm.ClassFile.FieldType.boolean)).before args0 about1 = true := code_word (m := ⟨7, 7⟩) (meth := k7m7) (c := k7c7) (by decide +kernel) rfl rfl rfl (by decide +kernel)
set_option maxRecDepth 65536 in
theorem w_c15 : (Jvm.Cond.code ({ cls := "java/lang/StringUTF16", name := "compress", desc := "([CII)[B" } : Jvm.MethodName) jdk_52_method_16_code (6 : Nat) (Option.some (Jvm.ClassFile.FieldType.array Jvm.ClassFile.FieldType.byte))).before args0 about1 = true := code_word (m := ⟨11, 10⟩) (meth := k11m10) (c := k11c10) (by decide +kernel) rfl rfl rfl (by decide +kernel)
set_option maxRecDepth 65536 in
theorem w_c16 : (Jvm.Cond.code ({ cls := "java/lang/StringUTF16", name := "compress", desc := "([CI[BII)I" } : Jvm.MethodName) jdk_52_method_21_code (7 : Nat) (Option.some Jvm.ClassFile.FieldType.int)).before args0 about1 = true := code_word (m := ⟨11, 12⟩) (meth := k11m12) (c := k11c12) (by decide +kernel) rfl rfl rfl (by decide +kernel)
set_option maxRecDepth 65536 in
theorem w_c17 : (Jvm.Cond.code ({ cls := "java/lang/StringUTF16", name := "toBytes", desc := "([CII)[B" } : Jvm.MethodName) jdk_52_method_14_code (5 : Nat) (Option.some (Jvm.ClassFile.FieldType.array Jvm.ClassFile.FieldType.byte))).before args0 about1 = true := code_word (m := ⟨11, 8⟩) (meth := k11m8) (c := k11c8) (by decide +kernel) rfl rfl rfl (by decide +kernel)
set_option maxRecDepth 65536 in
theorem w_c18 : (Jvm.Cond.code ({ cls := "java/lang/StringUTF16", name := "newBytesFor", desc := "(I)[B" } : Jvm.MethodName) jdk_52_method_2_code (1 : Nat) (Option.some (Jvm.ClassFile.FieldType.array Jvm.ClassFile.FieldType.byte))).before args0 about1 = true := code_word (m := ⟨11, 1⟩) (meth := k11m1) (c := k11c1) (by decide +kernel) rfl rfl rfl (by decide +kernel)
set_option maxRecDepth 65536 in
theorem w_c19 : (Jvm.Cond.code ({ cls := "java/lang/StringUTF16", name := "newBytesLength", desc := "(I)I" } : Jvm.MethodName) jdk_52_method_3_code (1 : Nat) (Option.some Jvm.ClassFile.FieldType.int)).before args0 about1 = true := code_word (m := ⟨11, 2⟩) (meth := k11m2) (c := k11c2) (by decide +kernel) rfl rfl rfl (by decide +kernel)
set_option maxRecDepth 65536 in
theorem w_c20 : (Jvm.Cond.code ({ cls := "java/lang/StringUTF16", name := "putChar", desc := "([BII)V" } : Jvm.MethodName) jdk_52_method_4_code (3 : Nat) (Option.none : Option Jvm.ClassFile.FieldType)).before args0 about1 = true := code_word (m := ⟨11, 3⟩) (meth := k11m3) (c := k11c3) (by decide +kernel) rfl rfl rfl (by decide +kernel)
set_option maxRecDepth 65536 in
theorem w_c21 : (Jvm.Cond.code ({ cls := "java/lang/StringUTF16", name := "getChar", desc := "([BI)C" } : Jvm.MethodName) jdk_52_method_5_code (2 : Nat) (Option.some Jvm.ClassFile.FieldType.char)).before args0 about1 = true := code_word (m := ⟨11, 4⟩) (meth := k11m4) (c := k11c4) (by decide +kernel) rfl rfl rfl (by decide +kernel)
set_option maxRecDepth 65536 in
theorem w_c22 : (Jvm.Cond.code ({ cls := "java/lang/StringUTF16", name := "coderFromArrayLen", desc := "([BI)B" } : Jvm.MethodName) jdk_52_method_15_code (2 : Nat) (Option.some Jvm.ClassFile.FieldType.byte)).before args0 about1 = true := code_word (m := ⟨11, 9⟩) (meth := k11m9) (c := k11c9) (by decide +kernel) rfl rfl rfl (by decide +kernel)
set_option maxRecDepth 65536 in
theorem w_c23 : (Jvm.Cond.code ({ cls := "com/example/downtally/downtally/cli/VisibleTextShortenedPinLaw", name := "high", desc := "(C)Z" } : Jvm.MethodName) method_4_code (1 : Nat) (Option.some Jvm.ClassFile.FieldType.boolean)).before args0 about1 = true := code_word (m := ⟨1, 3⟩) (meth := k1m3) (c := k1c3) (by decide +kernel) rfl rfl rfl (by decide +kernel)
set_option maxRecDepth 65536 in
theorem w_c24 : (Jvm.Cond.code ({ cls := "java/lang/StringUTF16", name := "codePointCount", desc := "([BII)I" } : Jvm.MethodName) jdk_52_method_12_code (3 : Nat) (Option.some Jvm.ClassFile.FieldType.int)).before args0 about1 = true := code_word (m := ⟨11, 7⟩) (meth := k11m7) (c := k11c7) (by decide +kernel) rfl rfl rfl (by decide +kernel)
set_option maxRecDepth 65536 in
theorem w_c25 : (Jvm.Cond.code ({ cls := "java/lang/StringUTF16", name := "codePointCount", desc := "([BIIZ)I" } : Jvm.MethodName) jdk_52_method_11_code (6 : Nat) (Option.some Jvm.ClassFile.FieldType.int)).before args0 about1 = true := code_word (m := ⟨11, 6⟩) (meth := k11m6) (c := k11c6) (by decide +kernel) rfl rfl rfl (by decide +kernel)
set_option maxRecDepth 65536 in
theorem w_c26 : (Jvm.Cond.code ({ cls := "java/lang/Character", name := "isHighSurrogate", desc := "(C)Z" } : Jvm.MethodName) jdk_89_method_14_code (1 : Nat) (Option.some Jvm.ClassFile.FieldType.boolean)).before args0 about1 = true := code_word (m := ⟨12, 0⟩) (meth := k12m0) (c := k12c0) (by decide +kernel) rfl rfl rfl (by decide +kernel)
set_option maxRecDepth 65536 in
theorem w_c27 : (Jvm.Cond.code ({ cls := "com/example/downtally/downtally/cli/VisibleText", name := "head", desc := "(Ljava/lang/String;I)Ljava/lang/String;" } : Jvm.MethodName) prog_21_method_5_code (2 : Nat) (Option.some (Jvm.ClassFile.FieldType.object "java/lang/String"))).before args0 about1 = true := code_word (m := ⟨8, 2⟩) (meth := k8m2) (c := k8c2) (by decide +kernel) rfl rfl rfl (by decide +kernel)
set_option maxRecDepth 65536 in
theorem w_c28 : (Jvm.Cond.code ({ cls := "java/lang/String", name := "offsetByCodePoints", desc := "(II)I" } : Jvm.MethodName) jdk_42_method_60_code (3 : Nat) (Option.some Jvm.ClassFile.FieldType.int)).before args0 about1 = true := code_word (m := ⟨7, 6⟩) (meth := k7m6) (c := k7c6) (by decide +kernel) rfl rfl rfl (by decide +kernel)
set_option maxRecDepth 65536 in
theorem w_c29 : (Jvm.Cond.code ({ cls := "java/lang/Character", name := "offsetByCodePoints", desc := "(Ljava/lang/CharSequence;II)I" } : Jvm.MethodName) jdk_89_method_36_code (6 : Nat) (Option.some Jvm.ClassFile.FieldType.int)).before args0 about1 = true := code_word (m := ⟨12, 2⟩) (meth := k12m2) (c := k12c2) (by decide +kernel) rfl rfl rfl (by decide +kernel)
set_option maxRecDepth 65536 in
theorem w_c30 : (Jvm.Cond.code ({ cls := "java/lang/String", name := "charAt", desc := "(I)C" } : Jvm.MethodName) jdk_42_method_56_code (2 : Nat) (Option.some Jvm.ClassFile.FieldType.char)).before args0 about1 = true := code_word (m := ⟨7, 4⟩) (meth := k7m4) (c := k7c4) (by decide +kernel) rfl rfl rfl (by decide +kernel)
set_option maxRecDepth 65536 in
theorem w_c31 : (Jvm.Cond.code ({ cls := "java/lang/StringUTF16", name := "charAt", desc := "([BI)C" } : Jvm.MethodName) jdk_52_method_83_code (2 : Nat) (Option.some Jvm.ClassFile.FieldType.char)).before args0 about1 = true := code_word (m := ⟨11, 16⟩) (meth := k11m16) (c := k11c16) (by decide +kernel) rfl rfl rfl (by decide +kernel)
set_option maxRecDepth 65536 in
theorem w_c32 : (Jvm.Cond.code ({ cls := "java/lang/StringUTF16", name := "checkIndex", desc := "(I[B)V" } : Jvm.MethodName) jdk_52_method_91_code (2 : Nat) (Option.none : Option Jvm.ClassFile.FieldType)).before args0 about1 = true := code_word (m := ⟨11, 19⟩) (meth := k11m19) (c := k11c19) (by decide +kernel) rfl rfl rfl (by decide +kernel)
set_option maxRecDepth 65536 in
theorem w_c33 : (Jvm.Cond.code ({ cls := "java/lang/StringUTF16", name := "length", desc := "([B)I" } : Jvm.MethodName) jdk_52_method_6_code (1 : Nat) (Option.some Jvm.ClassFile.FieldType.int)).before args0 about1 = true := code_word (m := ⟨11, 5⟩) (meth := k11m5) (c := k11c5) (by decide +kernel) rfl rfl rfl (by decide +kernel)
set_option maxRecDepth 65536 in
theorem w_c34 : (Jvm.Cond.code ({ cls := "java/lang/String", name := "checkIndex", desc := "(II)V" } : Jvm.MethodName) jdk_42_method_155_code (2 : Nat) (Option.none : Option Jvm.ClassFile.FieldType)).before args0 about1 = true := code_word (m := ⟨7, 15⟩) (meth := k7m15) (c := k7c15) (by decide +kernel) rfl rfl rfl (by decide +kernel)
set_option maxRecDepth 65536 in
theorem w_c35 : (Jvm.Cond.code ({ cls := "jdk/internal/util/Preconditions", name := "checkIndex", desc := "(IILjava/util/function/BiFunction;)I" } : Jvm.MethodName) jdk_41_method_11_code (3 : Nat) (Option.some Jvm.ClassFile.FieldType.int)).before args0 about1 = true := code_word (m := ⟨10, 1⟩) (meth := k10m1) (c := k10c1) (by decide +kernel) rfl rfl rfl (by decide +kernel)
set_option maxRecDepth 65536 in
theorem w_c36 : (Jvm.Cond.code ({ cls := "java/lang/String", name := "substring", desc := "(II)Ljava/lang/String;" } : Jvm.MethodName) jdk_42_method_92_code (5 : Nat) (Option.some (Jvm.ClassFile.FieldType.object "java/lang/String"))).before args0 about1 = true := code_word (m := ⟨7, 8⟩) (meth := k7m8) (c := k7c8) (by decide +kernel) rfl rfl rfl (by decide +kernel)
set_option maxRecDepth 65536 in
theorem w_c37 : (Jvm.Cond.code ({ cls := "java/lang/String", name := "checkBoundsBeginEnd", desc := "(III)V" } : Jvm.MethodName) jdk_42_method_158_code (3 : Nat) (Option.none : Option Jvm.ClassFile.FieldType)).before args0 about1 = true := code_word (m := ⟨7, 17⟩) (meth := k7m17) (c := k7c17) (by decide +kernel) rfl rfl rfl (by decide +kernel)
set_option maxRecDepth 65536 in
theorem w_c38 : (Jvm.Cond.code ({ cls := "java/lang/StringUTF16", name := "newString", desc := "([BII)Ljava/lang/String;" } : Jvm.MethodName) jdk_52_method_69_code (5 : Nat) (Option.some (Jvm.ClassFile.FieldType.object "java/lang/String"))).before args0 about1 = true := code_word (m := ⟨11, 14⟩) (meth := k11m14) (c := k11c14) (by decide +kernel) rfl rfl rfl (by decide +kernel)
set_option maxRecDepth 65536 in
theorem w_c39 : (Jvm.Cond.code ({ cls := "java/lang/StringUTF16", name := "compress", desc := "([BII)[B" } : Jvm.MethodName) jdk_52_method_17_code (6 : Nat) (Option.some (Jvm.ClassFile.FieldType.array Jvm.ClassFile.FieldType.byte))).before args0 about1 = true := code_word (m := ⟨11, 11⟩) (meth := k11m11) (c := k11c11) (by decide +kernel) rfl rfl rfl (by decide +kernel)
set_option maxRecDepth 65536 in
theorem w_c40 : (Jvm.Cond.code ({ cls := "java/lang/StringUTF16", name := "compress", desc := "([BI[BII)I" } : Jvm.MethodName) jdk_52_method_22_code (7 : Nat) (Option.some Jvm.ClassFile.FieldType.int)).before args0 about1 = true := code_word (m := ⟨11, 13⟩) (meth := k11m13) (c := k11c13) (by decide +kernel) rfl rfl rfl (by decide +kernel)
set_option maxRecDepth 65536 in
theorem w_c41 : (Jvm.Cond.code ({ cls := "java/lang/StringUTF16", name := "checkBoundsOffCount", desc := "(II[B)V" } : Jvm.MethodName) jdk_52_method_94_code (3 : Nat) (Option.none : Option Jvm.ClassFile.FieldType)).before args0 about1 = true := code_word (m := ⟨11, 21⟩) (meth := k11m21) (c := k11c21) (by decide +kernel) rfl rfl rfl (by decide +kernel)
set_option maxRecDepth 65536 in
theorem w_c42 : (Jvm.Cond.code ({ cls := "java/lang/String", name := "checkBoundsOffCount", desc := "(III)I" } : Jvm.MethodName) jdk_42_method_157_code (3 : Nat) (Option.some Jvm.ClassFile.FieldType.int)).before args0 about1 = true := code_word (m := ⟨7, 16⟩) (meth := k7m16) (c := k7c16) (by decide +kernel) rfl rfl rfl (by decide +kernel)
set_option maxRecDepth 65536 in
theorem w_c43 : (Jvm.Cond.code ({ cls := "jdk/internal/util/Preconditions", name := "checkFromIndexSize", desc := "(IIILjava/util/function/BiFunction;)I" } : Jvm.MethodName) jdk_41_method_13_code (4 : Nat) (Option.some Jvm.ClassFile.FieldType.int)).before args0 about1 = true := code_word (m := ⟨10, 3⟩) (meth := k10m3) (c := k10c3) (by decide +kernel) rfl rfl rfl (by decide +kernel)
set_option maxRecDepth 65536 in
theorem w_c44 : (Jvm.Cond.code ({ cls := "java/util/Arrays", name := "copyOfRange", desc := "([BII)[B" } : Jvm.MethodName) jdk_65_method_132_code (3 : Nat) (Option.some (Jvm.ClassFile.FieldType.array Jvm.ClassFile.FieldType.byte))).before args0 about1 = true := code_word (m := ⟨16, 3⟩) (meth := k16m3) (c := k16c3) (by decide +kernel) rfl rfl rfl (by decide +kernel)
set_option maxRecDepth 65536 in
theorem w_c45 : (Jvm.Cond.code ({ cls := "java/util/Arrays", name := "copyOfRangeByte", desc := "([BII)[B" } : Jvm.MethodName) jdk_65_method_133_code (5 : Nat) (Option.some (Jvm.ClassFile.FieldType.array Jvm.ClassFile.FieldType.byte))).before args0 about1 = true := code_word (m := ⟨16, 4⟩) (meth := k16m4) (c := k16c4) (by decide +kernel) rfl rfl rfl (by decide +kernel)
set_option maxRecDepth 65536 in
theorem w_c46 : (Jvm.Cond.code ({ cls := "java/util/Arrays", name := "checkLength", desc := "(II)V" } : Jvm.MethodName) jdk_65_method_131_code (2 : Nat) (Option.none : Option Jvm.ClassFile.FieldType)).before args0 about1 = true := code_word (m := ⟨16, 2⟩) (meth := k16m2) (c := k16c2) (by decide +kernel) rfl rfl rfl (by decide +kernel)
set_option maxRecDepth 65536 in
theorem w_c47 : (Jvm.Cond.code ({ cls := "java/lang/Math", name := "min", desc := "(II)I" } : Jvm.MethodName) jdk_29_method_69_code (2 : Nat) (Option.some Jvm.ClassFile.FieldType.int)).before args0 about1 = true := code_word (m := ⟨17, 2⟩) (meth := k17m2) (c := k17c2) (by decide +kernel) rfl rfl rfl (by decide +kernel)
set_option maxRecDepth 65536 in
theorem w_c48 : (Jvm.Cond.code ({ cls := "java/lang/String", name := "<init>", desc := "([BB)V" } : Jvm.MethodName) jdk_42_method_151_code (3 : Nat) (Option.none : Option Jvm.ClassFile.FieldType)).before args0 about1 = true := code_word (m := ⟨7, 12⟩) (meth := k7m12) (c := k7c12) (by decide +kernel) rfl rfl rfl (by decide +kernel)
set_option maxRecDepth 65536 in
theorem w_c49 : (Jvm.Cond.code ({ cls := "java/lang/StringBuilder", name := "<init>", desc := "(Ljava/lang/String;)V" } : Jvm.MethodName) jdk_67_method_3_code (2 : Nat) (Option.none : Option Jvm.ClassFile.FieldType)).before args0 about1 = true := code_word (m := ⟨15, 1⟩) (meth := k15m1) (c := k15c1) (by decide +kernel) rfl rfl rfl (by decide +kernel)
set_option maxRecDepth 65536 in
theorem w_c50 : (Jvm.Cond.code ({ cls := "java/lang/AbstractStringBuilder", name := "<init>", desc := "(Ljava/lang/String;)V" } : Jvm.MethodName) jdk_68_method_3_code (5 : Nat) (Option.none : Option Jvm.ClassFile.FieldType)).before args0 about1 = true := code_word (m := ⟨14, 1⟩) (meth := k14m1) (c := k14c1) (by decide +kernel) rfl rfl rfl (by decide +kernel)
set_option maxRecDepth 65536 in
theorem w_c51 : (Jvm.Cond.code ({ cls := "java/lang/StringBuilder", name := "append", desc := "(Ljava/lang/String;)Ljava/lang/AbstractStringBuilder;" } : Jvm.MethodName) jdk_67_method_80_code (2 : Nat) (Option.some (Jvm.ClassFile.FieldType.object "java/lang/AbstractStringBuilder"))).before args0 about1 = true := code_word (m := ⟨15, 5⟩) (meth := k15m5) (c := k15c5) (by decide +kernel) rfl rfl rfl (by decide +kernel)
set_option maxRecDepth 65536 in
theorem w_c52 : (Jvm.Cond.code ({ cls := "java/lang/StringBuilder", name := "append", desc := "(Ljava/lang/String;)Ljava/lang/StringBuilder;" } : Jvm.MethodName) jdk_67_method_7_code (2 : Nat) (Option.some (Jvm.ClassFile.FieldType.object "java/lang/StringBuilder"))).before args0 about1 = true := code_word (m := ⟨15, 2⟩) (meth := k15m2) (c := k15c2) (by decide +kernel) rfl rfl rfl (by decide +kernel)
set_option maxRecDepth 65536 in
theorem w_c53 : (Jvm.Cond.code ({ cls := "java/lang/AbstractStringBuilder", name := "append", desc := "(Ljava/lang/String;)Ljava/lang/AbstractStringBuilder;" } : Jvm.MethodName) jdk_68_method_22_code (3 : Nat) (Option.some (Jvm.ClassFile.FieldType.object "java/lang/AbstractStringBuilder"))).before args0 about1 = true := code_word (m := ⟨14, 6⟩) (meth := k14m6) (c := k14c6) (by decide +kernel) rfl rfl rfl (by decide +kernel)
set_option maxRecDepth 65536 in
theorem w_c54 : (Jvm.Cond.code ({ cls := "java/lang/AbstractStringBuilder", name := "ensureCapacityInternal", desc := "(I)V" } : Jvm.MethodName) jdk_68_method_9_code (3 : Nat) (Option.none : Option Jvm.ClassFile.FieldType)).before args0 about1 = true := code_word (m := ⟨14, 3⟩) (meth := k14m3) (c := k14c3) (by decide +kernel) rfl rfl rfl (by decide +kernel)
set_option maxRecDepth 65536 in
theorem w_c55 : (Jvm.Cond.code ({ cls := "java/lang/AbstractStringBuilder", name := "putStringAt", desc := "(ILjava/lang/String;)V" } : Jvm.MethodName) jdk_68_method_73_code (3 : Nat) (Option.none : Option Jvm.ClassFile.FieldType)).before args0 about1 = true := code_word (m := ⟨14, 11⟩) (meth := k14m11) (c := k14c11) (by decide +kernel) rfl rfl rfl (by decide +kernel)
set_option maxRecDepth 65536 in
theorem w_c56 : (Jvm.Cond.code ({ cls := "java/lang/AbstractStringBuilder", name := "inflateIfNeededFor", desc := "(Ljava/lang/String;)V" } : Jvm.MethodName) jdk_68_method_71_code (2 : Nat) (Option.none : Option Jvm.ClassFile.FieldType)).before args0 about1 = true := code_word (m := ⟨14, 10⟩) (meth := k14m10) (c := k14c10) (by decide +kernel) rfl rfl rfl (by decide +kernel)
set_option maxRecDepth 65536 in
theorem w_c57 : (Jvm.Cond.code ({ cls := "java/lang/String", name := "getBytes", desc := "([BIB)V" } : Jvm.MethodName) jdk_42_method_147_code (4 : Nat) (Option.none : Option Jvm.ClassFile.FieldType)).before args0 about1 = true := code_word (m := ⟨7, 9⟩) (meth := k7m9) (c := k7c9) (by decide +kernel) rfl rfl rfl (by decide +kernel)
set_option maxRecDepth 65536 in
theorem w_c58 : (Jvm.Cond.code ({ cls := "com/example/downtally/downtally/cli/VisibleText", name := "appendLength", desc := "(Ljava/lang/StringBuilder;I)Ljava/lang/StringBuilder;" } : Jvm.MethodName) prog_21_method_6_code (2 : Nat) (Option.some (Jvm.ClassFile.FieldType.object "java/lang/StringBuilder"))).before args0 about1 = true := code_word (m := ⟨8, 3⟩) (meth := k8m3) (c := k8c3) (by decide +kernel) rfl rfl rfl (by decide +kernel)
set_option maxRecDepth 65536 in
theorem w_c59 : (Jvm.Cond.code ({ cls := "java/lang/AbstractStringBuilder", name := "inflate", desc := "()V" } : Jvm.MethodName) jdk_68_method_11_code (2 : Nat) (Option.none : Option Jvm.ClassFile.FieldType)).before args0 about1 = true := code_word (m := ⟨14, 5⟩) (meth := k14m5) (c := k14c5) (by decide +kernel) rfl rfl rfl (by decide +kernel)
set_option maxRecDepth 65536 in
theorem w_c60 : (Jvm.Cond.code ({ cls := "java/lang/AbstractStringBuilder", name := "isLatin1", desc := "()Z" } : Jvm.MethodName) jdk_68_method_68_code (1 : Nat) (Option.some Jvm.ClassFile.FieldType.boolean)).before args0 about1 = true := code_word (m := ⟨14, 9⟩) (meth := k14m9) (c := k14c9) (by decide +kernel) rfl rfl rfl (by decide +kernel)
set_option maxRecDepth 65536 in
theorem w_c61 : (Jvm.Cond.code ({ cls := "java/lang/StringLatin1", name := "inflate", desc := "([BI[BII)V" } : Jvm.MethodName) jdk_43_method_50_code (5 : Nat) (Option.none : Option Jvm.ClassFile.FieldType)).before args0 about1 = true := code_word (m := ⟨19, 4⟩) (meth := k19m4) (c := k19c4) (by decide +kernel) rfl rfl rfl (by decide +kernel)
set_option maxRecDepth 65536 in
theorem w_c62 : (Jvm.Cond.code ({ cls := "java/lang/StringUTF16", name := "inflate", desc := "([BI[BII)V" } : Jvm.MethodName) jdk_52_method_86_code (6 : Nat) (Option.none : Option Jvm.ClassFile.FieldType)).before args0 about1 = true := code_word (m := ⟨11, 17⟩) (meth := k11m17) (c := k11c17) (by decide +kernel) rfl rfl rfl (by decide +kernel)
set_option maxRecDepth 65536 in
theorem w_c63 : (Jvm.Cond.code ({ cls := "java/lang/StringBuilder", name := "append", desc := "(I)Ljava/lang/StringBuilder;" } : Jvm.MethodName) jdk_67_method_15_code (2 : Nat) (Option.some (Jvm.ClassFile.FieldType.object "java/lang/StringBuilder"))).before args0 about1 = true := code_word (m := ⟨15, 3⟩) (meth := k15m3) (c := k15c3) (by decide +kernel) rfl rfl rfl (by decide +kernel)
set_option maxRecDepth 65536 in
theorem w_c64 : (Jvm.Cond.code ({ cls := "java/lang/AbstractStringBuilder", name := "append", desc := "(I)Ljava/lang/AbstractStringBuilder;" } : Jvm.MethodName) jdk_68_method_32_code (4 : Nat) (Option.some (Jvm.ClassFile.FieldType.object "java/lang/AbstractStringBuilder"))).before args0 about1 = true := code_word (m := ⟨14, 7⟩) (meth := k14m7) (c := k14c7) (by decide +kernel) rfl rfl rfl (by decide +kernel)
set_option maxRecDepth 65536 in
theorem w_c65 : (Jvm.Cond.code ({ cls := "java/lang/Integer", name := "stringSize", desc := "(I)I" } : Jvm.MethodName) jdk_33_method_13_code (4 : Nat) (Option.some Jvm.ClassFile.FieldType.int)).before args0 about1 = true := code_word (m := ⟨21, 1⟩) (meth := k21m1) (c := k21c1) (by decide +kernel) rfl rfl rfl (by decide +kernel)
set_option maxRecDepth 65536 in
theorem w_c66 : (Jvm.Cond.code ({ cls := "java/lang/StringUTF16", name := "getChars", desc := "(III[B)I" } : Jvm.MethodName) jdk_52_method_77_code (5 : Nat) (Option.some Jvm.ClassFile.FieldType.int)).before args0 about1 = true := code_word (m := ⟨11, 15⟩) (meth := k11m15) (c := k11c15) (by decide +kernel) rfl rfl rfl (by decide +kernel)
set_option maxRecDepth 65536 in
theorem w_c67 : (Jvm.Cond.code ({ cls := "java/lang/StringUTF16", name := "checkBoundsBeginEnd", desc := "(II[B)V" } : Jvm.MethodName) jdk_52_method_93_code (3 : Nat) (Option.none : Option Jvm.ClassFile.FieldType)).before args0 about1 = true := code_word (m := ⟨11, 20⟩) (meth := k11m20) (c := k11c20) (by decide +kernel) rfl rfl rfl (by decide +kernel)
set_option maxRecDepth 65536 in
theorem w_c68 : (Jvm.Cond.code ({ cls := "java/lang/StringUTF16", name := "getChars", desc := "(II[B)I" } : Jvm.MethodName) jdk_52_method_89_code (7 : Nat) (Option.some Jvm.ClassFile.FieldType.int)).before args0 about1 = true := code_word (m := ⟨11, 18⟩) (meth := k11m18) (c := k11c18) (by decide +kernel) rfl rfl rfl (by decide +kernel)
set_option maxRecDepth 65536 in
theorem w_c69 : (Jvm.Cond.code ({ cls := "java/lang/AbstractStringBuilder", name := "newCapacity", desc := "(I)I" } : Jvm.MethodName) jdk_68_method_10_code (6 : Nat) (Option.some Jvm.ClassFile.FieldType.int)).before args0 about1 = true := code_word (m := ⟨14, 4⟩) (meth := k14m4) (c := k14c4) (by decide +kernel) rfl rfl rfl (by decide +kernel)
set_option maxRecDepth 65536 in
theorem w_c70 : (Jvm.Cond.code ({ cls := "jdk/internal/util/ArraysSupport", name := "newLength", desc := "(III)I" } : Jvm.MethodName) jdk_48_method_27_code (4 : Nat) (Option.some Jvm.ClassFile.FieldType.int)).before args0 about1 = true := code_word (m := ⟨22, 1⟩) (meth := k22m1) (c := k22c1) (by decide +kernel) rfl rfl rfl (by decide +kernel)
set_option maxRecDepth 65536 in
theorem w_c71 : (Jvm.Cond.code ({ cls := "java/lang/Math", name := "max", desc := "(II)I" } : Jvm.MethodName) jdk_29_method_65_code (2 : Nat) (Option.some Jvm.ClassFile.FieldType.int)).before args0 about1 = true := code_word (m := ⟨17, 1⟩) (meth := k17m1) (c := k17c1) (by decide +kernel) rfl rfl rfl (by decide +kernel)
set_option maxRecDepth 65536 in
theorem w_c72 : (Jvm.Cond.code ({ cls := "java/util/Arrays", name := "copyOf", desc := "([BI)[B" } : Jvm.MethodName) jdk_65_method_121_code (3 : Nat) (Option.some (Jvm.ClassFile.FieldType.array Jvm.ClassFile.FieldType.byte))).before args0 about1 = true := code_word (m := ⟨16, 1⟩) (meth := k16m1) (c := k16c1) (by decide +kernel) rfl rfl rfl (by decide +kernel)
set_option maxRecDepth 65536 in
theorem w_c73 : (Jvm.Cond.code ({ cls := "java/lang/StringBuilder", name := "toString", desc := "()Ljava/lang/String;" } : Jvm.MethodName) jdk_67_method_42_code (1 : Nat) (Option.some (Jvm.ClassFile.FieldType.object "java/lang/String"))).before args0 about1 = true := code_word (m := ⟨15, 4⟩) (meth := k15m4) (c := k15c4) (by decide +kernel) rfl rfl rfl (by decide +kernel)
set_option maxRecDepth 65536 in
theorem w_c74 : (Jvm.Cond.code ({ cls := "java/lang/String", name := "<init>", desc := "(Ljava/lang/StringBuilder;)V" } : Jvm.MethodName) jdk_42_method_53_code (2 : Nat) (Option.none : Option Jvm.ClassFile.FieldType)).before args0 about1 = true := code_word (m := ⟨7, 2⟩) (meth := k7m2) (c := k7c2) (by decide +kernel) rfl rfl rfl (by decide +kernel)
set_option maxRecDepth 65536 in
theorem w_c75 : (Jvm.Cond.code ({ cls := "java/lang/String", name := "<init>", desc := "(Ljava/lang/AbstractStringBuilder;Ljava/lang/Void;)V" } : Jvm.MethodName) jdk_42_method_150_code (5 : Nat) (Option.none : Option Jvm.ClassFile.FieldType)).before args0 about1 = true := code_word (m := ⟨7, 11⟩) (meth := k7m11) (c := k7c11) (by decide +kernel) rfl rfl rfl (by decide +kernel)
set_option maxRecDepth 65536 in
theorem w_c76 : (Jvm.Cond.code ({ cls := "java/lang/AbstractStringBuilder", name := "getValue", desc := "()[B" } : Jvm.MethodName) jdk_68_method_64_code (1 : Nat) (Option.some (Jvm.ClassFile.FieldType.array Jvm.ClassFile.FieldType.byte))).before args0 about1 = true := code_word (m := ⟨14, 8⟩) (meth := k14m8) (c := k14c8) (by decide +kernel) rfl rfl rfl (by decide +kernel)
set_option maxRecDepth 65536 in
theorem w_c77 : (Jvm.Cond.code ({ cls := "java/lang/StringBuilder", name := "length", desc := "()I" } : Jvm.MethodName) jdk_67_method_93_code (1 : Nat) (Option.some Jvm.ClassFile.FieldType.int)).before args0 about1 = true := code_word (m := ⟨15, 6⟩) (meth := k15m6) (c := k15c6) (by decide +kernel) rfl rfl rfl (by decide +kernel)
set_option maxRecDepth 65536 in
theorem w_c78 : (Jvm.Cond.code ({ cls := "java/lang/AbstractStringBuilder", name := "length", desc := "()I" } : Jvm.MethodName) jdk_68_method_6_code (1 : Nat) (Option.some Jvm.ClassFile.FieldType.int)).before args0 about1 = true := code_word (m := ⟨14, 2⟩) (meth := k14m2) (c := k14c2) (by decide +kernel) rfl rfl rfl (by decide +kernel)
set_option maxRecDepth 65536 in
theorem w_c79 : (Jvm.Cond.code ({ cls := "com/example/downtally/downtally/cli/VisibleTextShortenedPinLaw", name := "step", desc := "([CII)I" } : Jvm.MethodName) method_7_code (3 : Nat) (Option.some Jvm.ClassFile.FieldType.int)).before args0 about1 = true := code_word (m := ⟨1, 6⟩) (meth := k1m6) (c := k1c6) (by decide +kernel) rfl rfl rfl (by decide +kernel)
set_option maxRecDepth 65536 in
theorem w_c80 : (Jvm.Cond.code ({ cls := "com/example/downtally/downtally/cli/VisibleTextShortenedPinLaw", name := "expected", desc := "(ICCCC)Ljava/lang/String;" } : Jvm.MethodName) method_9_code (5 : Nat) (Option.some (Jvm.ClassFile.FieldType.object "java/lang/String"))).before args0 about1 = true := code_word (m := ⟨1, 8⟩) (meth := k1m8) (c := k1c8) (by decide +kernel) rfl rfl rfl (by decide +kernel)
set_option maxRecDepth 65536 in
theorem w_c81 : (Jvm.Cond.code ({ cls := "java/lang/StringLatin1", name := "equals", desc := "([B[B)Z" } : Jvm.MethodName) jdk_43_method_13_code (3 : Nat) (Option.some Jvm.ClassFile.FieldType.boolean)).before args0 about1 = true := code_word (m := ⟨19, 2⟩) (meth := k19m2) (c := k19c2) (by decide +kernel) rfl rfl rfl (by decide +kernel)
set_option maxRecDepth 65536 in
theorem w_c82 : (Jvm.Cond.code ({ cls := "com/example/downtally/downtally/cli/VisibleTextShortenedPinLaw", name := "low", desc := "(C)Z" } : Jvm.MethodName) method_5_code (1 : Nat) (Option.some Jvm.ClassFile.FieldType.boolean)).before args0 about1 = true := code_word (m := ⟨1, 4⟩) (meth := k1m4) (c := k1c4) (by decide +kernel) rfl rfl rfl (by decide +kernel)
set_option maxRecDepth 65536 in
theorem w_c83 : (Jvm.Cond.code ({ cls := "java/lang/Character", name := "isLowSurrogate", desc := "(C)Z" } : Jvm.MethodName) jdk_89_method_15_code (1 : Nat) (Option.some Jvm.ClassFile.FieldType.boolean)).before args0 about1 = true := code_word (m := ⟨12, 1⟩) (meth := k12m1) (c := k12c1) (by decide +kernel) rfl rfl rfl (by decide +kernel)
set_option maxRecDepth 65536 in
theorem w_c84 : (Jvm.Cond.code ({ cls := "java/lang/Integer", name := "getChars", desc := "(II[B)I" } : Jvm.MethodName) jdk_33_method_12_code (7 : Nat) (Option.some Jvm.ClassFile.FieldType.int)).before args0 about1 = true := code_word (m := ⟨21, 0⟩) (meth := k21m0) (c := k21c0) (by decide +kernel) rfl rfl rfl (by decide +kernel)
set_option maxRecDepth 65536 in
theorem w_c85 : (Jvm.Cond.code ({ cls := "java/lang/StringLatin1", name := "charAt", desc := "([BI)C" } : Jvm.MethodName) jdk_43_method_2_code (2 : Nat) (Option.some Jvm.ClassFile.FieldType.char)).before args0 about1 = true := code_word (m := ⟨19, 1⟩) (meth := k19m1) (c := k19c1) (by decide +kernel) rfl rfl rfl (by decide +kernel)
set_option maxRecDepth 65536 in
theorem w_c86 : (Jvm.Cond.code ({ cls := "java/lang/StringLatin1", name := "newString", desc := "([BII)Ljava/lang/String;" } : Jvm.MethodName) jdk_43_method_47_code (3 : Nat) (Option.some (Jvm.ClassFile.FieldType.object "java/lang/String"))).before args0 about1 = true := code_word (m := ⟨19, 3⟩) (meth := k19m3) (c := k19c3) (by decide +kernel) rfl rfl rfl (by decide +kernel)
def codes1 : List Jvm.Cond := [Jvm.Cond.code x code maxLocals ret, Jvm.Cond.code ({ cls := "com/example/downtally/downtally/cli/VisibleTextShortenedPinLaw", name := "ch", desc := "(I)C" } : Jvm.MethodName) method_3_code (3 : Nat) (Option.some Jvm.ClassFile.FieldType.char), Jvm.Cond.code ({ cls := "com/example/downtally/downtally/cli/VisibleTextShortenedPinLaw", name := "text", desc := "(ICCCC)Ljava/lang/String;" } : Jvm.MethodName) method_8_code (5 : Nat) (Option.some (Jvm.ClassFile.FieldType.object "java/lang/String")), Jvm.Cond.code ({ cls := "java/lang/String", name := "<init>", desc := "([C)V" } : Jvm.MethodName) jdk_42_method_3_code (2 : Nat) (Option.none : Option Jvm.ClassFile.FieldType), Jvm.Cond.code ({ cls := "java/lang/String", name := "<init>", desc := "([CIILjava/lang/Void;)V" } : Jvm.MethodName) jdk_42_method_149_code (6 : Nat) (Option.none : Option Jvm.ClassFile.FieldType), Jvm.Cond.code ({ cls := "java/lang/Object", name := "<init>", desc := "()V" } : Jvm.MethodName) object_method_1_code (1 : Nat) (Option.none : Option Jvm.ClassFile.FieldType), Jvm.Cond.code ({ cls := "com/example/downtally/downtally/cli/VisibleTextShortenedPinLaw", name := "pair", desc := "([CII)I" } : Jvm.MethodName) method_6_code (3 : Nat) (Option.some Jvm.ClassFile.FieldType.int), Jvm.Cond.code ({ cls := "com/example/downtally/downtally/cli/VisibleText", name := "shortened", desc := "(Ljava/lang/String;I)Ljava/lang/String;" } : Jvm.MethodName) prog_21_method_4_code (4 : Nat) (Option.some (Jvm.ClassFile.FieldType.object "java/lang/String")), Jvm.Cond.code ({ cls := "java/lang/String", name := "length", desc := "()I" } : Jvm.MethodName) jdk_42_method_54_code (1 : Nat) (Option.some Jvm.ClassFile.FieldType.int), Jvm.Cond.code ({ cls := "java/lang/String", name := "coder", desc := "()B" } : Jvm.MethodName) jdk_42_method_152_code (1 : Nat) (Option.some Jvm.ClassFile.FieldType.byte), Jvm.Cond.code ({ cls := "java/lang/String", name := "codePointCount", desc := "(II)I" } : Jvm.MethodName) jdk_42_method_59_code (3 : Nat) (Option.some Jvm.ClassFile.FieldType.int), Jvm.Cond.code ({ cls := "java/util/Objects", name := "checkFromToIndex", desc := "(III)I" } : Jvm.MethodName) jdk_31_method_18_code (3 : Nat) (Option.some Jvm.ClassFile.FieldType.int), Jvm.Cond.code ({ cls := "jdk/internal/util/Preconditions", name := "checkFromToIndex", desc := "(IIILjava/util/function/BiFunction;)I" } : Jvm.MethodName) jdk_41_method_12_code (4 : Nat) (Option.some Jvm.ClassFile.FieldType.int), Jvm.Cond.code ({ cls := "java/lang/String", name := "isLatin1", desc := "()Z" } : Jvm.MethodName) jdk_42_method_154_code (1 : Nat) (Option.some Jvm.ClassFile.FieldType.boolean), Jvm.Cond.code ({ cls := "java/lang/String", name := "equals", desc := "(Ljava/lang/Object;)Z" } : Jvm.MethodName) jdk_42_method_66_code (3 : Nat) (Option.some Jvm.ClassFile.FieldType.boolean), Jvm.Cond.code ({ cls := "java/lang/StringUTF16", name := "compress", desc := "([CII)[B" } : Jvm.MethodName) jdk_52_method_16_code (6 : Nat) (Option.some (Jvm.ClassFile.FieldType.array Jvm.ClassFile.FieldType.byte)), Jvm.Cond.code ({ cls := "java/lang/StringUTF16", name := "compress", desc := "([CI[BII)I" } : Jvm.MethodName) jdk_52_method_21_code (7 : Nat) (Option.some Jvm.ClassFile.FieldType.int), Jvm.Cond.code ({ cls := "java/lang/StringUTF16", name := "toBytes", desc := "([CII)[B" } : Jvm.MethodName) jdk_52_method_14_code (5 : Nat) (Option.some (Jvm.ClassFile.FieldType.array Jvm.ClassFile.FieldType.byte)), Jvm.Cond.code ({ cls := "java/lang/StringUTF16", name := "newBytesFor", desc := "(I)[B" } : Jvm.MethodName) jdk_52_method_2_code (1 : Nat) (Option.some (Jvm.ClassFile.FieldType.array Jvm.ClassFile.FieldType.byte)), Jvm.Cond.code ({ cls := "java/lang/StringUTF16", name := "newBytesLength", desc := "(I)I" } : Jvm.MethodName) jdk_52_method_3_code (1 : Nat) (Option.some Jvm.ClassFile.FieldType.int), Jvm.Cond.code ({ cls := "java/lang/StringUTF16", name := "putChar", desc := "([BII)V" } : Jvm.MethodName) jdk_52_method_4_code (3 : Nat) (Option.none : Option Jvm.ClassFile.FieldType), Jvm.Cond.code ({ cls := "java/lang/StringUTF16", name := "getChar", desc := "([BI)C" } : Jvm.MethodName) jdk_52_method_5_code (2 : Nat) (Option.some Jvm.ClassFile.FieldType.char), Jvm.Cond.code ({ cls := "java/lang/StringUTF16", name := "coderFromArrayLen", desc := "([BI)B" } : Jvm.MethodName) jdk_52_method_15_code (2 : Nat) (Option.some Jvm.ClassFile.FieldType.byte), Jvm.Cond.code ({ cls := "com/example/downtally/downtally/cli/VisibleTextShortenedPinLaw", name := "high", desc := "(C)Z" } : Jvm.MethodName) method_4_code (1 : Nat) (Option.some Jvm.ClassFile.FieldType.boolean), Jvm.Cond.code ({ cls := "java/lang/StringUTF16", name := "codePointCount", desc := "([BII)I" } : Jvm.MethodName) jdk_52_method_12_code (3 : Nat) (Option.some Jvm.ClassFile.FieldType.int), Jvm.Cond.code ({ cls := "java/lang/StringUTF16", name := "codePointCount", desc := "([BIIZ)I" } : Jvm.MethodName) jdk_52_method_11_code (6 : Nat) (Option.some Jvm.ClassFile.FieldType.int), Jvm.Cond.code ({ cls := "java/lang/Character", name := "isHighSurrogate", desc := "(C)Z" } : Jvm.MethodName) jdk_89_method_14_code (1 : Nat) (Option.some Jvm.ClassFile.FieldType.boolean), Jvm.Cond.code ({ cls := "com/example/downtally/downtally/cli/VisibleText", name := "head", desc := "(Ljava/lang/String;I)Ljava/lang/String;" } : Jvm.MethodName) prog_21_method_5_code (2 : Nat) (Option.some (Jvm.ClassFile.FieldType.object "java/lang/String")), Jvm.Cond.code ({ cls := "java/lang/String", name := "offsetByCodePoints", desc := "(II)I" } : Jvm.MethodName) jdk_42_method_60_code (3 : Nat) (Option.some Jvm.ClassFile.FieldType.int), Jvm.Cond.code ({ cls := "java/lang/Character", name := "offsetByCodePoints", desc := "(Ljava/lang/CharSequence;II)I" } : Jvm.MethodName) jdk_89_method_36_code (6 : Nat) (Option.some Jvm.ClassFile.FieldType.int), Jvm.Cond.code ({ cls := "java/lang/String", name := "charAt", desc := "(I)C" } : Jvm.MethodName) jdk_42_method_56_code (2 : Nat) (Option.some Jvm.ClassFile.FieldType.char), Jvm.Cond.code ({ cls := "java/lang/StringUTF16", name := "charAt", desc := "([BI)C" } : Jvm.MethodName) jdk_52_method_83_code (2 : Nat) (Option.some Jvm.ClassFile.FieldType.char), Jvm.Cond.code ({ cls := "java/lang/StringUTF16", name := "checkIndex", desc := "(I[B)V" } : Jvm.MethodName) jdk_52_method_91_code (2 : Nat) (Option.none : Option Jvm.ClassFile.FieldType), Jvm.Cond.code ({ cls := "java/lang/StringUTF16", name := "length", desc := "([B)I" } : Jvm.MethodName) jdk_52_method_6_code (1 : Nat) (Option.some Jvm.ClassFile.FieldType.int), Jvm.Cond.code ({ cls := "java/lang/String", name := "checkIndex", desc := "(II)V" } : Jvm.MethodName) jdk_42_method_155_code (2 : Nat) (Option.none : Option Jvm.ClassFile.FieldType), Jvm.Cond.code ({ cls := "jdk/internal/util/Preconditions", name := "checkIndex", desc := "(IILjava/util/function/BiFunction;)I" } : Jvm.MethodName) jdk_41_method_11_code (3 : Nat) (Option.some Jvm.ClassFile.FieldType.int), Jvm.Cond.code ({ cls := "java/lang/String", name := "substring", desc := "(II)Ljava/lang/String;" } : Jvm.MethodName) jdk_42_method_92_code (5 : Nat) (Option.some (Jvm.ClassFile.FieldType.object "java/lang/String")), Jvm.Cond.code ({ cls := "java/lang/String", name := "checkBoundsBeginEnd", desc := "(III)V" } : Jvm.MethodName) jdk_42_method_158_code (3 : Nat) (Option.none : Option Jvm.ClassFile.FieldType), Jvm.Cond.code ({ cls := "java/lang/StringUTF16", name := "newString", desc := "([BII)Ljava/lang/String;" } : Jvm.MethodName) jdk_52_method_69_code (5 : Nat) (Option.some (Jvm.ClassFile.FieldType.object "java/lang/String")), Jvm.Cond.code ({ cls := "java/lang/StringUTF16", name := "compress", desc := "([BII)[B" } : Jvm.MethodName) jdk_52_method_17_code (6 : Nat) (Option.some (Jvm.ClassFile.FieldType.array Jvm.ClassFile.FieldType.byte)), Jvm.Cond.code ({ cls := "java/lang/StringUTF16", name := "compress", desc := "([BI[BII)I" } : Jvm.MethodName) jdk_52_method_22_code (7 : Nat) (Option.some Jvm.ClassFile.FieldType.int), Jvm.Cond.code ({ cls := "java/lang/StringUTF16", name := "checkBoundsOffCount", desc := "(II[B)V" } : Jvm.MethodName) jdk_52_method_94_code (3 : Nat) (Option.none : Option Jvm.ClassFile.FieldType), Jvm.Cond.code ({ cls := "java/lang/String", name := "checkBoundsOffCount", desc := "(III)I" } : Jvm.MethodName) jdk_42_method_157_code (3 : Nat) (Option.some Jvm.ClassFile.FieldType.int), Jvm.Cond.code ({ cls := "jdk/internal/util/Preconditions", name := "checkFromIndexSize", desc := "(IIILjava/util/function/BiFunction;)I" } : Jvm.MethodName) jdk_41_method_13_code (4 : Nat) (Option.some Jvm.ClassFile.FieldType.int), Jvm.Cond.code ({ cls := "java/util/Arrays", name := "copyOfRange", desc := "([BII)[B" } : Jvm.MethodName) jdk_65_method_132_code (3 : Nat) (Option.some (Jvm.ClassFile.FieldType.array Jvm.ClassFile.FieldType.byte)), Jvm.Cond.code ({ cls := "java/util/Arrays", name := "copyOfRangeByte", desc := "([BII)[B" } : Jvm.MethodName) jdk_65_method_133_code (5 : Nat) (Option.some (Jvm.ClassFile.FieldType.array Jvm.ClassFile.FieldType.byte)), Jvm.Cond.code ({ cls := "java/util/Arrays", name := "checkLength", desc := "(II)V" } : Jvm.MethodName) jdk_65_method_131_code (2 : Nat) (Option.none : Option Jvm.ClassFile.FieldType), Jvm.Cond.code ({ cls := "java/lang/Math", name := "min", desc := "(II)I" } : Jvm.MethodName) jdk_29_method_69_code (2 : Nat) (Option.some Jvm.ClassFile.FieldType.int), Jvm.Cond.code ({ cls := "java/lang/String", name := "<init>", desc := "([BB)V" } : Jvm.MethodName) jdk_42_method_151_code (3 : Nat) (Option.none : Option Jvm.ClassFile.FieldType), Jvm.Cond.code ({ cls := "java/lang/StringBuilder", name := "<init>", desc := "(Ljava/lang/String;)V" } : Jvm.MethodName) jdk_67_method_3_code (2 : Nat) (Option.none : Option Jvm.ClassFile.FieldType), Jvm.Cond.code ({ cls := "java/lang/AbstractStringBuilder", name := "<init>", desc := "(Ljava/lang/String;)V" } : Jvm.MethodName) jdk_68_method_3_code (5 : Nat) (Option.none : Option Jvm.ClassFile.FieldType), Jvm.Cond.code ({ cls := "java/lang/StringBuilder", name := "append", desc := "(Ljava/lang/String;)Ljava/lang/AbstractStringBuilder;" } : Jvm.MethodName) jdk_67_method_80_code (2 : Nat) (Option.some (Jvm.ClassFile.FieldType.object "java/lang/AbstractStringBuilder")), Jvm.Cond.code ({ cls := "java/lang/StringBuilder", name := "append", desc := "(Ljava/lang/String;)Ljava/lang/StringBuilder;" } : Jvm.MethodName) jdk_67_method_7_code (2 : Nat) (Option.some (Jvm.ClassFile.FieldType.object "java/lang/StringBuilder")), Jvm.Cond.code ({ cls := "java/lang/AbstractStringBuilder", name := "append", desc := "(Ljava/lang/String;)Ljava/lang/AbstractStringBuilder;" } : Jvm.MethodName) jdk_68_method_22_code (3 : Nat) (Option.some (Jvm.ClassFile.FieldType.object "java/lang/AbstractStringBuilder")), Jvm.Cond.code ({ cls := "java/lang/AbstractStringBuilder", name := "ensureCapacityInternal", desc := "(I)V" } : Jvm.MethodName) jdk_68_method_9_code (3 : Nat) (Option.none : Option Jvm.ClassFile.FieldType), Jvm.Cond.code ({ cls := "java/lang/AbstractStringBuilder", name := "putStringAt", desc := "(ILjava/lang/String;)V" } : Jvm.MethodName) jdk_68_method_73_code (3 : Nat) (Option.none : Option Jvm.ClassFile.FieldType), Jvm.Cond.code ({ cls := "java/lang/AbstractStringBuilder", name := "inflateIfNeededFor", desc := "(Ljava/lang/String;)V" } : Jvm.MethodName) jdk_68_method_71_code (2 : Nat) (Option.none : Option Jvm.ClassFile.FieldType), Jvm.Cond.code ({ cls := "java/lang/String", name := "getBytes", desc := "([BIB)V" } : Jvm.MethodName) jdk_42_method_147_code (4 : Nat) (Option.none : Option Jvm.ClassFile.FieldType), Jvm.Cond.code ({ cls := "com/example/downtally/downtally/cli/VisibleText", name := "appendLength", desc := "(Ljava/lang/StringBuilder;I)Ljava/lang/StringBuilder;" } : Jvm.MethodName) prog_21_method_6_code (2 : Nat) (Option.some (Jvm.ClassFile.FieldType.object "java/lang/StringBuilder")), Jvm.Cond.code ({ cls := "java/lang/AbstractStringBuilder", name := "inflate", desc := "()V" } : Jvm.MethodName) jdk_68_method_11_code (2 : Nat) (Option.none : Option Jvm.ClassFile.FieldType), Jvm.Cond.code ({ cls := "java/lang/AbstractStringBuilder", name := "isLatin1", desc := "()Z" } : Jvm.MethodName) jdk_68_method_68_code (1 : Nat) (Option.some Jvm.ClassFile.FieldType.boolean), Jvm.Cond.code ({ cls := "java/lang/StringLatin1", name := "inflate", desc := "([BI[BII)V" } : Jvm.MethodName) jdk_43_method_50_code (5 : Nat) (Option.none : Option Jvm.ClassFile.FieldType), Jvm.Cond.code ({ cls := "java/lang/StringUTF16", name := "inflate", desc := "([BI[BII)V" } : Jvm.MethodName) jdk_52_method_86_code (6 : Nat) (Option.none : Option Jvm.ClassFile.FieldType), Jvm.Cond.code ({ cls := "java/lang/StringBuilder", name := "append", desc := "(I)Ljava/lang/StringBuilder;" } : Jvm.MethodName) jdk_67_method_15_code (2 : Nat) (Option.some (Jvm.ClassFile.FieldType.object "java/lang/StringBuilder")), Jvm.Cond.code ({ cls := "java/lang/AbstractStringBuilder", name := "append", desc := "(I)Ljava/lang/AbstractStringBuilder;" } : Jvm.MethodName) jdk_68_method_32_code (4 : Nat) (Option.some (Jvm.ClassFile.FieldType.object "java/lang/AbstractStringBuilder")), Jvm.Cond.code ({ cls := "java/lang/Integer", name := "stringSize", desc := "(I)I" } : Jvm.MethodName) jdk_33_method_13_code (4 : Nat) (Option.some Jvm.ClassFile.FieldType.int), Jvm.Cond.code ({ cls := "java/lang/StringUTF16", name := "getChars", desc := "(III[B)I" } : Jvm.MethodName) jdk_52_method_77_code (5 : Nat) (Option.some Jvm.ClassFile.FieldType.int), Jvm.Cond.code ({ cls := "java/lang/StringUTF16", name := "checkBoundsBeginEnd", desc := "(II[B)V" } : Jvm.MethodName) jdk_52_method_93_code (3 : Nat) (Option.none : Option Jvm.ClassFile.FieldType), Jvm.Cond.code ({ cls := "java/lang/StringUTF16", name := "getChars", desc := "(II[B)I" } : Jvm.MethodName) jdk_52_method_89_code (7 : Nat) (Option.some Jvm.ClassFile.FieldType.int), Jvm.Cond.code ({ cls := "java/lang/AbstractStringBuilder", name := "newCapacity", desc := "(I)I" } : Jvm.MethodName) jdk_68_method_10_code (6 : Nat) (Option.some Jvm.ClassFile.FieldType.int), Jvm.Cond.code ({ cls := "jdk/internal/util/ArraysSupport", name := "newLength", desc := "(III)I" } : Jvm.MethodName) jdk_48_method_27_code (4 : Nat) (Option.some Jvm.ClassFile.FieldType.int), Jvm.Cond.code ({ cls := "java/lang/Math", name := "max", desc := "(II)I" } : Jvm.MethodName) jdk_29_method_65_code (2 : Nat) (Option.some Jvm.ClassFile.FieldType.int), Jvm.Cond.code ({ cls := "java/util/Arrays", name := "copyOf", desc := "([BI)[B" } : Jvm.MethodName) jdk_65_method_121_code (3 : Nat) (Option.some (Jvm.ClassFile.FieldType.array Jvm.ClassFile.FieldType.byte)), Jvm.Cond.code ({ cls := "java/lang/StringBuilder", name := "toString", desc := "()Ljava/lang/String;" } : Jvm.MethodName) jdk_67_method_42_code (1 : Nat) (Option.some (Jvm.ClassFile.FieldType.object "java/lang/String")), Jvm.Cond.code ({ cls := "java/lang/String", name := "<init>", desc := "(Ljava/lang/StringBuilder;)V" } : Jvm.MethodName) jdk_42_method_53_code (2 : Nat) (Option.none : Option Jvm.ClassFile.FieldType), Jvm.Cond.code ({ cls := "java/lang/String", name := "<init>", desc := "(Ljava/lang/AbstractStringBuilder;Ljava/lang/Void;)V" } : Jvm.MethodName) jdk_42_method_150_code (5 : Nat) (Option.none : Option Jvm.ClassFile.FieldType), Jvm.Cond.code ({ cls := "java/lang/AbstractStringBuilder", name := "getValue", desc := "()[B" } : Jvm.MethodName) jdk_68_method_64_code (1 : Nat) (Option.some (Jvm.ClassFile.FieldType.array Jvm.ClassFile.FieldType.byte)), Jvm.Cond.code ({ cls := "java/lang/StringBuilder", name := "length", desc := "()I" } : Jvm.MethodName) jdk_67_method_93_code (1 : Nat) (Option.some Jvm.ClassFile.FieldType.int), Jvm.Cond.code ({ cls := "java/lang/AbstractStringBuilder", name := "length", desc := "()I" } : Jvm.MethodName) jdk_68_method_6_code (1 : Nat) (Option.some Jvm.ClassFile.FieldType.int), Jvm.Cond.code ({ cls := "com/example/downtally/downtally/cli/VisibleTextShortenedPinLaw", name := "step", desc := "([CII)I" } : Jvm.MethodName) method_7_code (3 : Nat) (Option.some Jvm.ClassFile.FieldType.int), Jvm.Cond.code ({ cls := "com/example/downtally/downtally/cli/VisibleTextShortenedPinLaw", name := "expected", desc := "(ICCCC)Ljava/lang/String;" } : Jvm.MethodName) method_9_code (5 : Nat) (Option.some (Jvm.ClassFile.FieldType.object "java/lang/String")), Jvm.Cond.code ({ cls := "java/lang/StringLatin1", name := "equals", desc := "([B[B)Z" } : Jvm.MethodName) jdk_43_method_13_code (3 : Nat) (Option.some Jvm.ClassFile.FieldType.boolean), Jvm.Cond.code ({ cls := "com/example/downtally/downtally/cli/VisibleTextShortenedPinLaw", name := "low", desc := "(C)Z" } : Jvm.MethodName) method_5_code (1 : Nat) (Option.some Jvm.ClassFile.FieldType.boolean), Jvm.Cond.code ({ cls := "java/lang/Character", name := "isLowSurrogate", desc := "(C)Z" } : Jvm.MethodName) jdk_89_method_15_code (1 : Nat) (Option.some Jvm.ClassFile.FieldType.boolean), Jvm.Cond.code ({ cls := "java/lang/Integer", name := "getChars", desc := "(II[B)I" } : Jvm.MethodName) jdk_33_method_12_code (7 : Nat) (Option.some Jvm.ClassFile.FieldType.int), Jvm.Cond.code ({ cls := "java/lang/StringLatin1", name := "charAt", desc := "([BI)C" } : Jvm.MethodName) jdk_43_method_2_code (2 : Nat) (Option.some Jvm.ClassFile.FieldType.char), Jvm.Cond.code ({ cls := "java/lang/StringLatin1", name := "newString", desc := "([BII)Ljava/lang/String;" } : Jvm.MethodName) jdk_43_method_47_code (3 : Nat) (Option.some (Jvm.ClassFile.FieldType.object "java/lang/String"))]
set_option maxRecDepth 65536 in
theorem codes_eq : words1.filter isCode = codes1 := rfl
theorem w_codes : ∀ c ∈ words1.filter isCode, c.before args0 about1 = true := by
  rw [codes_eq]
  intro c hc
  simp only [codes1, List.mem_cons, List.not_mem_nil, or_false] at hc
  rcases hc with rfl | rfl | rfl | rfl | rfl | rfl | rfl | rfl | rfl | rfl | rfl | rfl | rfl | rfl | rfl | rfl | rfl | rfl | rfl | rfl | rfl | rfl | rfl | rfl | rfl | rfl | rfl | rfl | rfl | rfl | rfl | rfl | rfl | rfl | rfl | rfl | rfl | rfl | rfl | rfl | rfl | rfl | rfl | rfl | rfl | rfl | rfl | rfl | rfl | rfl | rfl | rfl | rfl | rfl | rfl | rfl | rfl | rfl | rfl | rfl | rfl | rfl | rfl | rfl | rfl | rfl | rfl | rfl | rfl | rfl | rfl | rfl | rfl | rfl | rfl | rfl | rfl | rfl | rfl | rfl | rfl | rfl | rfl | rfl | rfl | rfl | rfl
  · exact w_c0
  · exact w_c1
  · exact w_c2
  · exact w_c3
  · exact w_c4
  · exact w_c5
  · exact w_c6
  · exact w_c7
  · exact w_c8
  · exact w_c9
  · exact w_c10
  · exact w_c11
  · exact w_c12
  · exact w_c13
  · exact w_c14
  · exact w_c15
  · exact w_c16
  · exact w_c17
  · exact w_c18
  · exact w_c19
  · exact w_c20
  · exact w_c21
  · exact w_c22
  · exact w_c23
  · exact w_c24
  · exact w_c25
  · exact w_c26
  · exact w_c27
  · exact w_c28
  · exact w_c29
  · exact w_c30
  · exact w_c31
  · exact w_c32
  · exact w_c33
  · exact w_c34
  · exact w_c35
  · exact w_c36
  · exact w_c37
  · exact w_c38
  · exact w_c39
  · exact w_c40
  · exact w_c41
  · exact w_c42
  · exact w_c43
  · exact w_c44
  · exact w_c45
  · exact w_c46
  · exact w_c47
  · exact w_c48
  · exact w_c49
  · exact w_c50
  · exact w_c51
  · exact w_c52
  · exact w_c53
  · exact w_c54
  · exact w_c55
  · exact w_c56
  · exact w_c57
  · exact w_c58
  · exact w_c59
  · exact w_c60
  · exact w_c61
  · exact w_c62
  · exact w_c63
  · exact w_c64
  · exact w_c65
  · exact w_c66
  · exact w_c67
  · exact w_c68
  · exact w_c69
  · exact w_c70
  · exact w_c71
  · exact w_c72
  · exact w_c73
  · exact w_c74
  · exact w_c75
  · exact w_c76
  · exact w_c77
  · exact w_c78
  · exact w_c79
  · exact w_c80
  · exact w_c81
  · exact w_c82
  · exact w_c83
  · exact w_c84
  · exact w_c85
  · exact w_c86
set_option maxRecDepth 65536 in
theorem w_t1 : (words1.take 24).all (fun c => isCode c || c.before args0 about1) = true := by decide +kernel
set_option maxRecDepth 65536 in
theorem w_t2 : ((words1.drop 24).take 24).all (fun c => isCode c || c.before args0 about1) = true := by decide +kernel
set_option maxRecDepth 65536 in
theorem w_t3 : (((words1.drop 24).drop 24).take 24).all (fun c => isCode c || c.before args0 about1) = true := by decide +kernel
set_option maxRecDepth 65536 in
theorem w_t4 : ((((words1.drop 24).drop 24).drop 24).take 24).all (fun c => isCode c || c.before args0 about1) = true := by decide +kernel
set_option maxRecDepth 65536 in
theorem w_t5 : (((((words1.drop 24).drop 24).drop 24).drop 24).take 24).all (fun c => isCode c || c.before args0 about1) = true := by decide +kernel
set_option maxRecDepth 65536 in
theorem w_t6 : ((((((words1.drop 24).drop 24).drop 24).drop 24).drop 24).take 24).all (fun c => isCode c || c.before args0 about1) = true := by decide +kernel
set_option maxRecDepth 65536 in
theorem w_t7 : (((((((words1.drop 24).drop 24).drop 24).drop 24).drop 24).drop 24).take 24).all (fun c => isCode c || c.before args0 about1) = true := by decide +kernel
set_option maxRecDepth 65536 in
theorem w_t8 : ((((((((words1.drop 24).drop 24).drop 24).drop 24).drop 24).drop 24).drop 24).take 24).all (fun c => isCode c || c.before args0 about1) = true := by decide +kernel
set_option maxRecDepth 65536 in
theorem w_t9 : (((((((((words1.drop 24).drop 24).drop 24).drop 24).drop 24).drop 24).drop 24).drop 24).take 24).all (fun c => isCode c || c.before args0 about1) = true := by decide +kernel
set_option maxRecDepth 65536 in
theorem w_t10 : ((((((((((words1.drop 24).drop 24).drop 24).drop 24).drop 24).drop 24).drop 24).drop 24).drop 24).take 24).all (fun c => isCode c || c.before args0 about1) = true := by decide +kernel
set_option maxRecDepth 65536 in
theorem w_t11 : (((((((((((words1.drop 24).drop 24).drop 24).drop 24).drop 24).drop 24).drop 24).drop 24).drop 24).drop 24).take 24).all (fun c => isCode c || c.before args0 about1) = true := by decide +kernel
set_option maxRecDepth 65536 in
theorem w_t12 : ((((((((((((words1.drop 24).drop 24).drop 24).drop 24).drop 24).drop 24).drop 24).drop 24).drop 24).drop 24).drop 24).take 24).all (fun c => isCode c || c.before args0 about1) = true := by decide +kernel
set_option maxRecDepth 65536 in
theorem w_t13 : (((((((((((((words1.drop 24).drop 24).drop 24).drop 24).drop 24).drop 24).drop 24).drop 24).drop 24).drop 24).drop 24).drop 24).take 24).all (fun c => isCode c || c.before args0 about1) = true := by decide +kernel
set_option maxRecDepth 65536 in
theorem w_t14 : ((((((((((((((words1.drop 24).drop 24).drop 24).drop 24).drop 24).drop 24).drop 24).drop 24).drop 24).drop 24).drop 24).drop 24).drop 24).take 24).all (fun c => isCode c || c.before args0 about1) = true := by decide +kernel
set_option maxRecDepth 65536 in
theorem w_t15 : (((((((((((((((words1.drop 24).drop 24).drop 24).drop 24).drop 24).drop 24).drop 24).drop 24).drop 24).drop 24).drop 24).drop 24).drop 24).drop 24).take 24).all (fun c => isCode c || c.before args0 about1) = true := by decide +kernel
set_option maxRecDepth 65536 in
theorem w_t16 : ((((((((((((((((words1.drop 24).drop 24).drop 24).drop 24).drop 24).drop 24).drop 24).drop 24).drop 24).drop 24).drop 24).drop 24).drop 24).drop 24).drop 24).take 24).all (fun c => isCode c || c.before args0 about1) = true := by decide +kernel
set_option maxRecDepth 65536 in
theorem w_t17 : ((((((((((((((((words1.drop 24).drop 24).drop 24).drop 24).drop 24).drop 24).drop 24).drop 24).drop 24).drop 24).drop 24).drop 24).drop 24).drop 24).drop 24).drop 24).all (fun c => isCode c || c.before args0 about1) = true := by decide +kernel
theorem w_tables : (allAtoms (Jvm.Cond.code x code maxLocals ret :: tables_1)).before args0 about1 = true := by
  rw [allAtoms_all]
  show words1.all (fun c => c.before args0 about1) = true
  refine all_split ?_ w_codes
  rw [← List.take_append_drop 24 words1, List.all_append, w_t1, ← List.take_append_drop 24 (words1.drop 24), List.all_append, w_t2, ← List.take_append_drop 24 ((words1.drop 24).drop 24), List.all_append, w_t3, ← List.take_append_drop 24 (((words1.drop 24).drop 24).drop 24), List.all_append, w_t4, ← List.take_append_drop 24 ((((words1.drop 24).drop 24).drop 24).drop 24), List.all_append, w_t5, ← List.take_append_drop 24 (((((words1.drop 24).drop 24).drop 24).drop 24).drop 24), List.all_append, w_t6, ← List.take_append_drop 24 ((((((words1.drop 24).drop 24).drop 24).drop 24).drop 24).drop 24), List.all_append, w_t7, ← List.take_append_drop 24 (((((((words1.drop 24).drop 24).drop 24).drop 24).drop 24).drop 24).drop 24), List.all_append, w_t8, ← List.take_append_drop 24 ((((((((words1.drop 24).drop 24).drop 24).drop 24).drop 24).drop 24).drop 24).drop 24), List.all_append, w_t9, ← List.take_append_drop 24 (((((((((words1.drop 24).drop 24).drop 24).drop 24).drop 24).drop 24).drop 24).drop 24).drop 24), List.all_append, w_t10, ← List.take_append_drop 24 ((((((((((words1.drop 24).drop 24).drop 24).drop 24).drop 24).drop 24).drop 24).drop 24).drop 24).drop 24), List.all_append, w_t11, ← List.take_append_drop 24 (((((((((((words1.drop 24).drop 24).drop 24).drop 24).drop 24).drop 24).drop 24).drop 24).drop 24).drop 24).drop 24), List.all_append, w_t12, ← List.take_append_drop 24 ((((((((((((words1.drop 24).drop 24).drop 24).drop 24).drop 24).drop 24).drop 24).drop 24).drop 24).drop 24).drop 24).drop 24), List.all_append, w_t13, ← List.take_append_drop 24 (((((((((((((words1.drop 24).drop 24).drop 24).drop 24).drop 24).drop 24).drop 24).drop 24).drop 24).drop 24).drop 24).drop 24).drop 24), List.all_append, w_t14, ← List.take_append_drop 24 ((((((((((((((words1.drop 24).drop 24).drop 24).drop 24).drop 24).drop 24).drop 24).drop 24).drop 24).drop 24).drop 24).drop 24).drop 24).drop 24), List.all_append, w_t15, ← List.take_append_drop 24 (((((((((((((((words1.drop 24).drop 24).drop 24).drop 24).drop 24).drop 24).drop 24).drop 24).drop 24).drop 24).drop 24).drop 24).drop 24).drop 24).drop 24), List.all_append, w_t16, w_t17]
  rfl
set_option maxRecDepth 65536 in
theorem w_rest : rest_1_c.before args0 about1 = true := by decide +kernel
set_option maxRecDepth 65536 in
theorem w_case : (Jvm.Cond.and given_1 narrow_1).before args0 about1 = true := by decide +kernel
set_option maxRecDepth 65536 in
theorem w_consts : constsHeld consts_1 about1 := Jvm.Lit.constsHeldB_iff.mp (by decide +kernel)
theorem w_applies : (headSpec (Jvm.Cond.code x code maxLocals ret :: tables_1) room_1).applies x e0.platform about1 = true :=
  (Spec.applies_iff w_frames).mpr ⟨w_running, w_runnable, w_alone, w_named, w_hears, w_ripe, w_room, w_tables⟩
theorem atStart : AtStart classFile x code maxLocals ret World_1 tables_1 room_1 Calls_1 rest_1 Pre_1 launch0 p0 e0 about1 theMethod args0 below0 :=
  ⟨lists_1, trivial, launch0.admits_env _ _ _, launch0.least_env, fairChoices_fair.cas, fairChoices_fair.clock, w_frames, w_args, w_heap, w_applies, ⟨w_consts, trivial⟩, w_rest, w_case⟩
end start1
theorem witness_1 : WitnessClaimed_1 := ⟨start1.p0, start1.e0, start1.about1, start1.theMethod, start1.args0, start1.below0, start1.atStart⟩
end Jvm.Pilot.@@N@@
