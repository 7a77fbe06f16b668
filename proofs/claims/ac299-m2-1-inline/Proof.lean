import JvmDerived
import JvmDerived.Pilot.@@N@@Statement
import JvmDerived.Pilot.@@N@@Code
@@BLOCK:TracedD.lean.txt@@
set_option linter.unusedVariables false
set_option linter.unusedSimpArgs false
namespace Jvm.RoadKit
open Sem ClassFile Op Lib Jvm.Stand Jvm.Free Jvm.LawKit
section New
variable {p : Program} {l : Launch} {e : Env} {R : Room} {s : State} {m : MethodId} {args : Array Value} {below : List Frame} {meth : Method} {c : Code} {T : State} {locs : List Loc} {cells slots : Nat}
theorem retI (X : Stand p l e R s m args below meth c T locs cells slots) (hx : p.tables.exec = Jvm.exec) {pc : Nat} {Ls : Array Slot} {z : Int32} {rest : List Value} (hret : meth.sig.returnType = some .int) (hd : decode c.code pc = .ok (.ireturn, 1)) {fs : List Frame}
    (hl : ∀ (f : JFrame) (acts : List Action), f.method = m → f.locked = none → f.entered = [] → (doReturn e (T.setTop f) acts (some (.int z))).1 = T.setFrames fs) : Steps p.tables e below (T.setTop (mkF m pc Ls (.int z :: rest))) (T.setFrames fs) := by
  have hm' : T.vm.method? m = some meth := X.method'
  have hn : narrow .int (.int z) = .int z := rfl
  show Steps p.tables e below (T.setTop { method := m, pc := pc, locals := Ls, stack := _ :: rest, locked := none }) _
  jvm_step X.here [X.here.top, hx, hd, hm', hret, hn]
  first | (intro acts; rw [hl _ acts rfl rfl rfl]) | rw [hl _ _ rfl rfl rfl]
  exact Steps.refl _
end New
end Jvm.RoadKit
namespace Jvm.Pilot.@@N@@
open Jvm Jvm.ClassFile Sem Op Lib Jvm.Free Jvm.Stand Jvm.LawKit Jvm.RoadKit Bundle Jvm.Pilot.@@N@@.Jvm.D
abbrev Hw (a0 : Array Value) (Z : State) : Prop := ∀ d ∈ tables_1, d.before a0 Z = true
theorem tw {a0 : Array Value} {Z : State} (hw : Hw a0 Z) (i : Nat) {d : Jvm.Cond} (q : tables_1[i]? = some d) : d.before a0 Z = true := hw d (List.mem_of_getElem? q)
abbrev Met (l : Launch) (Z : State) (h0 : Heap) (ws : List Jvm.Cond) (y : MethodName) (b : ByteArray) (n : Nat) (r : Option FieldType) (rm : Room) (A : Array Value) (Q : Option Value → Heap → List Loc → Prop) : Prop := MetFree l y (head1 (Jvm.Cond.code y b n r :: ws) rm) (fun a U => a = A ∧ Z.Warmed39 U.vm ∧ U.heap = h0) (fun _ _ _ _ _ => True) (fun _ U o U' => ∃ v L, o = .returned v ∧ Q v U'.heap L ∧ FrameEnd U o U' L rm.cells rm.slots)
abbrev R_0 : Room := ({ frames := 0, cells := 0, slots := 0, locals := 0 } : Room)
abbrev R_1 : Room := ({ frames := 6, cells := 6, slots := 626, locals := 92 } : Room)
abbrev R_2 : Room := ({ frames := 1, cells := 0, slots := 0, locals := 12 } : Room)
abbrev R_3 : Room := ({ frames := 1, cells := 0, slots := 0, locals := 13 } : Room)
abbrev R_4 : Room := ({ frames := 9, cells := 2, slots := 1000, locals := 134 } : Room)
abbrev R_5 : Room := ({ frames := 1, cells := 4, slots := 8, locals := 12 } : Room)
abbrev R_6 : Room := ({ frames := 2, cells := 4, slots := 8, locals := 29 } : Room)
abbrev R_7 : Room := ({ frames := 10, cells := 22, slots := 8742, locals := 149 } : Room)
abbrev R_8 : Room := ({ frames := 2, cells := 0, slots := 0, locals := 29 } : Room)
abbrev R_9 : Room := ({ frames := 3, cells := 0, slots := 0, locals := 47 } : Room)
abbrev R_10 : Room := ({ frames := 2, cells := 1, slots := 500, locals := 28 } : Room)
abbrev R_11 : Room := ({ frames := 4, cells := 0, slots := 0, locals := 53 } : Room)
abbrev R_12 : Room := ({ frames := 2, cells := 2, slots := 6, locals := 29 } : Room)
abbrev R_13 : Room := ({ frames := 5, cells := 2, slots := 620, locals := 78 } : Room)
abbrev R_14 : Room := ({ frames := 2, cells := 1, slots := 500, locals := 34 } : Room)
abbrev R_15 : Room := ({ frames := 5, cells := 2, slots := 504, locals := 79 } : Room)
abbrev R_16 : Room := ({ frames := 1, cells := 0, slots := 0, locals := 14 } : Room)
abbrev R_17 : Room := ({ frames := 2, cells := 0, slots := 0, locals := 27 } : Room)
abbrev R_18 : Room := ({ frames := 1, cells := 1, slots := 500, locals := 18 } : Room)
abbrev R_19 : Room := ({ frames := 3, cells := 1, slots := 500, locals := 48 } : Room)
abbrev R_20 : Room := ({ frames := 1, cells := 0, slots := 0, locals := 18 } : Room)
abbrev R_21 : Room := ({ frames := 2, cells := 0, slots := 0, locals := 33 } : Room)
abbrev R_22 : Room := ({ frames := 4, cells := 1, slots := 500, locals := 62 } : Room)
abbrev R_23 : Room := ({ frames := 3, cells := 1, slots := 500, locals := 49 } : Room)
abbrev R_24 : Room := ({ frames := 4, cells := 1, slots := 500, locals := 65 } : Room)
abbrev R_25 : Room := ({ frames := 3, cells := 1, slots := 2752, locals := 42 } : Room)
abbrev R_26 : Room := ({ frames := 4, cells := 1, slots := 2752, locals := 55 } : Room)
abbrev R_27 : Room := ({ frames := 5, cells := 1, slots := 2752, locals := 68 } : Room)
abbrev R_28 : Room := ({ frames := 6, cells := 1, slots := 2752, locals := 81 } : Room)
abbrev R_29 : Room := ({ frames := 7, cells := 1, slots := 2752, locals := 94 } : Room)
abbrev R_30 : Room := ({ frames := 3, cells := 0, slots := 0, locals := 40 } : Room)
abbrev R_31 : Room := ({ frames := 1, cells := 1, slots := 500, locals := 12 } : Room)
abbrev R_32 : Room := ({ frames := 1, cells := 1, slots := 2, locals := 14 } : Room)
abbrev R_33 : Room := ({ frames := 0, cells := 1, slots := 1, locals := 0 } : Room)
abbrev R_34 : Room := ({ frames := 1, cells := 0, slots := 0, locals := 15 } : Room)
abbrev R_35 : Room := ({ frames := 4, cells := 0, slots := 0, locals := 64 } : Room)
abbrev R_36 : Room := ({ frames := 1, cells := 1, slots := 120, locals := 18 } : Room)
abbrev R_37 : Room := ({ frames := 3, cells := 2, slots := 620, locals := 44 } : Room)
abbrev R_38 : Room := ({ frames := 2, cells := 1, slots := 120, locals := 35 } : Room)
abbrev R_39 : Room := ({ frames := 4, cells := 2, slots := 620, locals := 61 } : Room)
abbrev R_40 : Room := ({ frames := 1, cells := 1, slots := 16, locals := 12 } : Room)
abbrev R_41 : Room := ({ frames := 2, cells := 1, slots := 16, locals := 25 } : Room)
abbrev R_42 : Room := ({ frames := 5, cells := 1, slots := 500, locals := 80 } : Room)
abbrev R_43 : Room := ({ frames := 6, cells := 1, slots := 500, locals := 93 } : Room)
abbrev R_44 : Room := ({ frames := 2, cells := 0, slots := 0, locals := 25 } : Room)
abbrev R_45 : Room := ({ frames := 5, cells := 0, slots := 0, locals := 80 } : Room)
abbrev R_46 : Room := ({ frames := 7, cells := 1, slots := 500, locals := 106 } : Room)
abbrev R_47 : Room := ({ frames := 6, cells := 0, slots := 0, locals := 95 } : Room)
abbrev R_48 : Room := ({ frames := 8, cells := 2, slots := 1000, locals := 120 } : Room)
abbrev R_49 : Room := ({ frames := 7, cells := 1, slots := 500, locals := 109 } : Room)
abbrev R_50 : Room := ({ frames := 1, cells := 1, slots := 500, locals := 14 } : Room)
abbrev Y_0 : MethodName := (⟨"java/lang/String", "charAt", "(I)C"⟩ : MethodName)
abbrev Y_1 : MethodName := (⟨"java/lang/String", "coder", "()B"⟩ : MethodName)
abbrev Y_2 : MethodName := (⟨"java/lang/String", "length", "()I"⟩ : MethodName)
abbrev Y_3 : MethodName := (⟨"java/lang/StringBuilder", "append", "(Ljava/lang/String;)Ljava/lang/StringBuilder;"⟩ : MethodName)
abbrev Y_4 : MethodName := (⟨"java/lang/AbstractStringBuilder", "isLatin1", "()Z"⟩ : MethodName)
abbrev Y_5 : MethodName := (⟨"java/lang/String", "getBytes", "([BIB)V"⟩ : MethodName)
abbrev Y_6 : MethodName := (⟨"com/example/narrow_lease/narrowlease/LeaseLostExceptionRecordLostPinLaw", "mk", "(ICC)Ljava/lang/String;"⟩ : MethodName)
abbrev Y_7 : MethodName := (⟨"java/lang/AbstractStringBuilder", "inflateIfNeededFor", "(Ljava/lang/String;)V"⟩ : MethodName)
abbrev Y_8 : MethodName := (⟨"java/lang/AbstractStringBuilder", "putStringAt", "(ILjava/lang/String;)V"⟩ : MethodName)
abbrev Y_9 : MethodName := (⟨"java/lang/AbstractStringBuilder", "append", "(Ljava/lang/String;)Ljava/lang/AbstractStringBuilder;"⟩ : MethodName)
abbrev Y_10 : MethodName := (⟨"java/lang/String", "<init>", "([CIILjava/lang/Void;)V"⟩ : MethodName)
abbrev Y_11 : MethodName := (⟨"java/lang/String", "<init>", "([C)V"⟩ : MethodName)
abbrev Y_12 : MethodName := (⟨"java/lang/String", "isLatin1", "()Z"⟩ : MethodName)
abbrev Y_13 : MethodName := (⟨"java/lang/Math", "min", "(II)I"⟩ : MethodName)
abbrev Y_14 : MethodName := (⟨"java/lang/AbstractStringBuilder", "getValue", "()[B"⟩ : MethodName)
abbrev Y_15 : MethodName := (⟨"java/lang/AbstractStringBuilder", "length", "()I"⟩ : MethodName)
abbrev Y_16 : MethodName := (⟨"java/lang/AbstractStringBuilder", "ensureCapacityInternal", "(I)V"⟩ : MethodName)
abbrev Y_17 : MethodName := (⟨"java/util/Arrays", "copyOfRange", "([BII)[B"⟩ : MethodName)
abbrev Y_18 : MethodName := (⟨"java/lang/StringBuilder", "toString", "()Ljava/lang/String;"⟩ : MethodName)
abbrev Y_19 : MethodName := (⟨"java/lang/StringUTF16", "putChar", "([BII)V"⟩ : MethodName)
abbrev Y_20 : MethodName := (⟨"java/lang/StringLatin1", "canEncode", "(C)Z"⟩ : MethodName)
abbrev Y_21 : MethodName := (⟨"java/lang/String", "<init>", "([BB)V"⟩ : MethodName)
abbrev Y_22 : MethodName := (⟨"java/lang/String", "valueOf", "(C)Ljava/lang/String;"⟩ : MethodName)
abbrev Y_23 : MethodName := (⟨"java/lang/StringUTF16", "compress", "([CI[BII)I"⟩ : MethodName)
abbrev Y_24 : MethodName := (⟨"java/lang/StringUTF16", "compress", "([CII)[B"⟩ : MethodName)
abbrev Y_25 : MethodName := (⟨"java/lang/StringUTF16", "coderFromArrayLen", "([BI)B"⟩ : MethodName)
abbrev Y_26 : MethodName := (⟨"java/lang/StringBuilder", "length", "()I"⟩ : MethodName)
abbrev Y_27 : MethodName := (⟨"java/lang/AbstractStringBuilder", "newCapacity", "(I)I"⟩ : MethodName)
abbrev Y_28 : MethodName := (⟨"java/lang/AbstractStringBuilder", "inflate", "()V"⟩ : MethodName)
abbrev Y_29 : MethodName := (⟨"java/lang/String", "<init>", "(Ljava/lang/AbstractStringBuilder;Ljava/lang/Void;)V"⟩ : MethodName)
abbrev Y_30 : MethodName := (⟨"java/lang/String", "<init>", "(Ljava/lang/StringBuilder;)V"⟩ : MethodName)
abbrev Y_31 : MethodName := (⟨"java/lang/StringUTF16", "length", "([B)I"⟩ : MethodName)
abbrev Y_32 : MethodName := (⟨"java/lang/String", "checkIndex", "(II)V"⟩ : MethodName)
abbrev Y_33 : MethodName := (⟨"java/lang/StringUTF16", "getChar", "([BI)C"⟩ : MethodName)
abbrev Y_34 : MethodName := (⟨"java/lang/StringUTF16", "newBytesFor", "(I)[B"⟩ : MethodName)
abbrev Y_35 : MethodName := (⟨"java/lang/StringLatin1", "inflate", "([BI[BII)V"⟩ : MethodName)
abbrev Y_36 : MethodName := (⟨"java/lang/Math", "max", "(II)I"⟩ : MethodName)
abbrev Y_37 : MethodName := (⟨"jdk/internal/util/ArraysSupport", "newLength", "(III)I"⟩ : MethodName)
abbrev Y_38 : MethodName := (⟨"java/util/Arrays", "copyOf", "([BI)[B"⟩ : MethodName)
abbrev Y_39 : MethodName := (⟨"java/lang/Throwable", "<init>", "(Ljava/lang/String;)V"⟩ : MethodName)
abbrev Y_40 : MethodName := (⟨"java/lang/Exception", "<init>", "(Ljava/lang/String;)V"⟩ : MethodName)
abbrev Y_41 : MethodName := (⟨"java/lang/RuntimeException", "<init>", "(Ljava/lang/String;)V"⟩ : MethodName)
abbrev Y_42 : MethodName := (⟨"java/lang/IllegalMonitorStateException", "<init>", "(Ljava/lang/String;)V"⟩ : MethodName)
abbrev Y_43 : MethodName := (⟨"com/example/narrow_lease/narrowlease/LeaseLostException", "<init>", "(Ljava/lang/String;)V"⟩ : MethodName)
abbrev Y_44 : MethodName := (⟨"com/example/narrow_lease/narrowlease/LeaseLostException", "recordLost", "(Ljava/lang/String;Ljava/lang/String;)Lcom/example/narrow_lease/narrowlease/LeaseLostException;"⟩ : MethodName)
abbrev Y_45 : MethodName := (⟨"jdk/internal/util/Preconditions", "checkIndex", "(IILjava/util/function/BiFunction;)I"⟩ : MethodName)
abbrev Y_46 : MethodName := (⟨"java/lang/StringUTF16", "checkIndex", "(I[B)V"⟩ : MethodName)
abbrev Y_47 : MethodName := (⟨"java/lang/StringUTF16", "charAt", "([BI)C"⟩ : MethodName)
abbrev Y_48 : MethodName := (⟨"java/lang/StringLatin1", "charAt", "([BI)C"⟩ : MethodName)
abbrev Y_49 : MethodName := (⟨"java/lang/StringUTF16", "newBytesLength", "(I)I"⟩ : MethodName)
abbrev Y_50 : MethodName := (⟨"java/lang/StringUTF16", "toBytes", "(C)[B"⟩ : MethodName)
abbrev Y_51 : MethodName := (⟨"java/lang/StringLatin1", "toBytes", "(C)[B"⟩ : MethodName)
abbrev Y_52 : MethodName := (⟨"jdk/internal/util/Preconditions", "checkFromIndexSize", "(IIILjava/util/function/BiFunction;)I"⟩ : MethodName)
abbrev Y_53 : MethodName := (⟨"java/lang/String", "checkBoundsOffCount", "(III)I"⟩ : MethodName)
abbrev Y_54 : MethodName := (⟨"java/lang/StringUTF16", "checkBoundsOffCount", "(II[B)V"⟩ : MethodName)
abbrev Y_55 : MethodName := (⟨"java/lang/StringUTF16", "inflate", "([BI[BII)V"⟩ : MethodName)
abbrev Y_56 : MethodName := (⟨"java/lang/StringUTF16", "toBytes", "([CII)[B"⟩ : MethodName)
abbrev Y_57 : MethodName := (⟨"java/lang/AbstractStringBuilder", "<init>", "(I)V"⟩ : MethodName)
abbrev Y_58 : MethodName := (⟨"java/lang/StringBuilder", "<init>", "()V"⟩ : MethodName)
abbrev Y_59 : MethodName := (⟨"java/util/Arrays", "checkLength", "(II)V"⟩ : MethodName)
abbrev Y_60 : MethodName := (⟨"java/util/Arrays", "copyOfRangeByte", "([BII)[B"⟩ : MethodName)
abbrev Y_61 : MethodName := (⟨"java/lang/Throwable", "getMessage", "()Ljava/lang/String;"⟩ : MethodName)
abbrev cb0 : ByteArray := jdk_52_method_6_code
abbrev cb1 : ByteArray := jdk_41_method_11_code
abbrev cb2 : ByteArray := jdk_42_method_155_code
abbrev cb3 : ByteArray := jdk_52_method_91_code
abbrev cb4 : ByteArray := jdk_52_method_5_code
abbrev cb5 : ByteArray := jdk_52_method_83_code
abbrev cb6 : ByteArray := jdk_43_method_2_code
abbrev cb7 : ByteArray := jdk_42_method_152_code
abbrev cb8 : ByteArray := jdk_42_method_154_code
abbrev cb9 : ByteArray := jdk_42_method_54_code
abbrev cb10 : ByteArray := jdk_42_method_56_code
abbrev cb11 : ByteArray := jdk_52_method_4_code
abbrev cb12 : ByteArray := jdk_52_method_3_code
abbrev cb13 : ByteArray := jdk_52_method_2_code
abbrev cb14 : ByteArray := jdk_52_method_24_code
abbrev cb15 : ByteArray := jdk_43_method_46_code
abbrev cb16 : ByteArray := jdk_43_method_3_code
abbrev cb17 : ByteArray := jdk_42_method_151_code
abbrev cb18 : ByteArray := jdk_42_method_139_code
abbrev cb19 : ByteArray := jdk_41_method_13_code
abbrev cb20 : ByteArray := jdk_42_method_157_code
abbrev cb21 : ByteArray := jdk_52_method_94_code
abbrev cb22 : ByteArray := jdk_52_method_86_code
abbrev cb23 : ByteArray := jdk_43_method_50_code
abbrev cb24 : ByteArray := jdk_52_method_14_code
abbrev cb25 : ByteArray := jdk_52_method_21_code
abbrev cb26 : ByteArray := jdk_52_method_16_code
abbrev cb27 : ByteArray := jdk_52_method_15_code
abbrev cb28 : ByteArray := jdk_42_method_149_code
abbrev cb29 : ByteArray := jdk_42_method_3_code
abbrev cb30 : ByteArray := jdk_29_method_65_code
abbrev cb31 : ByteArray := jdk_29_method_69_code
abbrev cb32 : ByteArray := jdk_48_method_27_code
abbrev cb33 : ByteArray := jdk_65_method_121_code
abbrev cb34 : ByteArray := jdk_68_method_2_code
abbrev cb35 : ByteArray := jdk_67_method_1_code
abbrev cb36 : ByteArray := jdk_68_method_68_code
abbrev cb37 : ByteArray := jdk_68_method_64_code
abbrev cb38 : ByteArray := jdk_68_method_6_code
abbrev cb39 : ByteArray := jdk_67_method_93_code
abbrev cb40 : ByteArray := jdk_68_method_10_code
abbrev cb41 : ByteArray := jdk_68_method_9_code
abbrev cb42 : ByteArray := jdk_68_method_11_code
abbrev cb43 : ByteArray := jdk_68_method_71_code
abbrev cb44 : ByteArray := jdk_42_method_147_code
abbrev cb45 : ByteArray := jdk_68_method_73_code
abbrev cb46 : ByteArray := jdk_68_method_22_code
abbrev cb47 : ByteArray := jdk_67_method_7_code
abbrev cb48 : ByteArray := jdk_65_method_131_code
abbrev cb49 : ByteArray := jdk_65_method_133_code
abbrev cb50 : ByteArray := jdk_65_method_132_code
abbrev cb51 : ByteArray := jdk_42_method_150_code
abbrev cb52 : ByteArray := jdk_42_method_53_code
abbrev cb53 : ByteArray := jdk_67_method_42_code
abbrev cb54 : ByteArray := method_2_code
abbrev cb55 : ByteArray := jdk_78_method_2_code
abbrev cb56 : ByteArray := jdk_59_method_2_code
abbrev cb57 : ByteArray := jdk_58_method_2_code
abbrev cb58 : ByteArray := jdk_2065_method_2_code
abbrev cb59 : ByteArray := prog_9_method_1_code
abbrev cb60 : ByteArray := prog_9_method_3_code
abbrev cb61 : ByteArray := jdk_78_method_6_code
abbrev Dc (b : ByteArray) (p : Nat) (i : Instr) (n : Nat) : Prop := decode b p = .ok (i, n)
abbrev Go (p : Program) (e : Env) (b : List Frame) (T : State) (m : MethodId) (pc : Nat) (L : Array Slot) (S : List Value) (t : State) : Prop := Steps p.tables e b (T.setTop (mkF m pc L S)) t
section OwnCalls
variable {p : Program} {l : Launch} {e : Env} {R : Room} {s : State} {m : MethodId} {args : Array Value} {below : List Frame} {meth : Method} {c : Code} {T : State} {locs : List Loc} {cells slots : Nat} {Z : State} {a0 : Array Value} {h : Heap}
theorem own_sc (X : Stand p l e R s m args below meth c T locs cells slots) (hx : p.tables.exec = Jvm.exec) (hZ : Z.Warmed39 s.vm) {own : String} {index : Nat} {y : MethodName} (hown : s.vm.findClass own = some m.cls) (w1 : (Cond.methodLink own index y).before a0 Z = true) (w2 : (Cond.static y).before a0 Z = true) (hy : y.cls ≠ "java/lang/invoke/MethodHandle" ∧ y.cls ≠ "java/lang/invoke/VarHandle")
    {bytes : ByteArray} {maxL : Nat} {ret : Option FieldType} {rm : Room} {as' : Array Value} {Q : Option Value → Heap → List Loc → Prop} (hM : Met l Z h [] y bytes maxL ret rm as' Q) (wc : (Cond.code y bytes maxL ret).before a0 Z = true) (wz : (Cond.initialized y.cls).before a0 Z = true) (eT : T.heap = h) {W : Nat} (hf : rm.frames + 1 ≤ R.frames) (hlo : W + (maxL + 11) + rm.locals ≤ R.locals)
    {pc : Nat} {Ls : Array Slot} (hsize : Ls.size = c.maxLocals) {argsL rest : List Value} (hlen : ∀ sig, parseMethodDescriptor y.desc = some sig → argsL.length = sig.parameters.length) (hW : (rest.map fun v => v.category).sum ≤ W) (hdg : decode c.code pc = .ok (.invokestatic index, 3)) (has : argsL.toArray = as') (hc : cells + rm.cells ≤ R.cells) (hs : slots + rm.slots ≤ R.slots) :
    ∃ (v : Option Value) (T' : State) (L : List Loc), Stand p l e R s m args below meth c T' (locs ++ L) (cells + rm.cells) (slots + rm.slots) ∧ Q v T'.heap L ∧ ∀ target, Go p e below T' m (pc + 3) Ls (v.toList ++ rest) target → Go p e below T m pc Ls (argsL.reverse ++ rest) target := by
  obtain ⟨v, _, ⟨T', L', k', n'⟩, -, X', ⟨L, hQ, l1, l2, l3⟩, st⟩ := Jvm.LawKit.callS X hx (y := y) hown (mvT hZ w1) (mvT hZ w2) (mvT hZ wz) (mvT hZ wc) hy (backOf (W := W) hM hZ wc wz hf hlo) (g := mkF m pc Ls (argsL.reverse ++ rest)) rfl hsize (argsL := argsL) (rest := rest) hlen rfl (by show 2 * 0 + _ ≤ _; omega) hdg (fun _ _ => ⟨has, eT, hc, hs⟩)
  dsimp only [Pt.U, Pt.locs, Pt.cells, Pt.slots] at X' hQ l1 l2 l3 st
  subst l1 l2 l3
  exact ⟨v, T', L, X', hQ, st⟩
theorem own_vc (X : Stand p l e R s m args below meth c T locs cells slots) (hx : p.tables.exec = Jvm.exec) (hZ : Z.Warmed39 s.vm) {own C : String} {index : Nat} {y : MethodName} (hown : s.vm.findClass own = some m.cls) (w1 : (Cond.methodLink own index y).before a0 Z = true) (w2 : (Cond.declares y).before a0 Z = true) (w3 : (Cond.selects C y y).before a0 Z = true) (w4 : (Cond.instanceMethod y).before a0 Z = true) (hy : y.cls ≠ "java/lang/invoke/MethodHandle" ∧ y.cls ≠ "java/lang/invoke/VarHandle")
    {bytes : ByteArray} {maxL : Nat} {ret : Option FieldType} {rm : Room} {as' : Array Value} {Q : Option Value → Heap → List Loc → Prop} (hM : Met l Z h [] y bytes maxL ret rm as' Q) (wc : (Cond.code y bytes maxL ret).before a0 Z = true) (wz : (Cond.initialized y.cls).before a0 Z = true) (eT : T.heap = h) {b : Addr} (E : Exa Z h b C) {W : Nat} (hf : rm.frames + 1 ≤ R.frames) (hlo : W + (maxL + 11) + rm.locals ≤ R.locals)
    {pc : Nat} {Ls : Array Slot} (hsize : Ls.size = c.maxLocals) {argsL rest : List Value} (hlen : ∀ sig, parseMethodDescriptor y.desc = some sig → argsL.length = sig.parameters.length) (hW : (rest.map fun v => v.category).sum ≤ W) (hdg : decode c.code pc = .ok (.invokevirtual index, 3)) (has : (.ref b :: argsL).toArray = as') (hc : cells + rm.cells ≤ R.cells) (hs : slots + rm.slots ≤ R.slots) :
    ∃ (v : Option Value) (T' : State) (L : List Loc), Stand p l e R s m args below meth c T' (locs ++ L) (cells + rm.cells) (slots + rm.slots) ∧ Q v T'.heap L ∧ ∀ target, Go p e below T' m (pc + 3) Ls (v.toList ++ rest) target → Go p e below T m pc Ls (argsL.reverse ++ .ref b :: rest) target := by
  obtain ⟨_, _, qa, -, qc⟩ := isOf hZ eT E
  obtain ⟨v, _, ⟨T', L', k', n'⟩, -, X', ⟨L, hQ, l1, l2, l3⟩, st⟩ := X.virtualBack hx (y := y) (z := y) hown (mvT hZ w1) (mvT hZ w2) (notFace_of_selects (args := args) (mvT hZ w3)) (mvT hZ w3) (mvT hZ w4) hy (backOf (W := W) hM hZ wc wz hf hlo) qa qc (g := mkF m pc Ls (argsL.reverse ++ .ref b :: rest)) rfl hsize (Steps.refl _) (argsL := argsL) (rest := rest) hlen rfl (by show 2 * 0 + _ ≤ _; omega) hdg (fun _ _ => ⟨has, eT, hc, hs⟩)
  dsimp only [Pt.U, Pt.locs, Pt.cells, Pt.slots] at X' hQ l1 l2 l3 st
  subst l1 l2 l3
  exact ⟨v, T', L, X', hQ, fun _ k => st.trans k⟩
theorem own_ic (X : Stand p l e R s m args below meth c T locs cells slots) (hx : p.tables.exec = Jvm.exec) (hZ : Z.Warmed39 s.vm) {own : String} {index : Nat} {y : MethodName} (hn : y.name = "<init>") (hown : s.vm.findClass own = some m.cls) (w1 : (Cond.methodLink own index y).before a0 Z = true) (w2 : (Cond.instanceMethod y).before a0 Z = true) (hy : y.cls ≠ "java/lang/invoke/MethodHandle" ∧ y.cls ≠ "java/lang/invoke/VarHandle")
    {bytes : ByteArray} {maxL : Nat} {rm : Room} {as' : Array Value} {Q : Option Value → Heap → List Loc → Prop} (hM : Met l Z h [] y bytes maxL none rm as' Q) (wc : (Cond.code y bytes maxL none).before a0 Z = true) (wz : (Cond.initialized y.cls).before a0 Z = true) (eT : T.heap = h) {W : Nat} (hf : rm.frames + 1 ≤ R.frames) (hlo : W + (maxL + 11) + rm.locals ≤ R.locals)
    {pc : Nat} {Ls : Array Slot} (hsize : Ls.size = c.maxLocals) {b : Addr} {argsL rest : List Value} (hlen : ∀ sig, parseMethodDescriptor y.desc = some sig → argsL.length = sig.parameters.length) (hW : (rest.map fun v => v.category).sum ≤ W) (hdg : decode c.code pc = .ok (.invokespecial index, 3)) (has : (.ref b :: argsL).toArray = as') (hc : cells + rm.cells ≤ R.cells) (hs : slots + rm.slots ≤ R.slots) :
    ∃ (v : Option Value) (T' : State) (L : List Loc), Stand p l e R s m args below meth c T' (locs ++ L) (cells + rm.cells) (slots + rm.slots) ∧ Q v T'.heap L ∧ ∀ target, Go p e below T' m (pc + 3) Ls (v.toList ++ rest) target → Go p e below T m pc Ls (argsL.reverse ++ .ref b :: rest) target := by
  obtain ⟨v, _, ⟨T', L', k', n'⟩, -, X', ⟨L, hQ, l1, l2, l3⟩, st⟩ := X.specialBack hx (y := y) hn hown (mvT hZ w1) (mvT hZ w2) (mvT hZ wc) hy (backOf (W := W) hM hZ wc wz hf hlo) (g := mkF m pc Ls (argsL.reverse ++ .ref b :: rest)) rfl hsize (Steps.refl _) (a := b) (argsL := argsL) (rest := rest) hlen rfl (by show 2 * 0 + _ ≤ _; omega) hdg (fun _ _ => ⟨has, eT, hc, hs⟩)
  dsimp only [Pt.U, Pt.locs, Pt.cells, Pt.slots] at X' hQ l1 l2 l3 st
  subst l1 l2 l3
  exact ⟨v, T', L, X', hQ, fun _ k => st.trans k⟩
end OwnCalls

theorem own_toInt {n : Nat} (h : n < 2147483648) : (Int32.ofNat n).toInt = n := Int32.toInt_ofNat_of_lt h
theorem own_n {n : Nat} (h : n < 2147483648) : (Int32.ofNat n).toNatClampNeg = n := by
  show (Int32.ofNat n).toInt.toNat = n
  rw [own_toInt h]; rfl
theorem own_lt {a b : Nat} (ha : a < 2147483648) (hb : b < 2147483648) : Int32.ofNat a < Int32.ofNat b ↔ a < b := by
  rw [Int32.lt_iff_toInt_lt, own_toInt ha, own_toInt hb]; omega
theorem own_nn {n : Nat} (h : n < 2147483648) : ¬ Int32.ofNat n < 0 := fun q => absurd ((own_lt (b := 0) h (by decide)).mp q) (by omega)
theorem own_eq {a b : Nat} (ha : a < 2147483648) (hb : b < 2147483648) : Int32.ofNat a = Int32.ofNat b ↔ a = b := by
  constructor
  · intro q
    have := congrArg Int32.toInt q
    rw [own_toInt ha, own_toInt hb] at this; omega
  · rintro rfl; rfl
theorem own_add (a b : Nat) : Int32.ofNat a + Int32.ofNat b = Int32.ofNat (a + b) := (Int32.ofNat_add a b).symm
theorem own_sub {a b : Nat} (h : b ≤ a) : Int32.ofNat a - Int32.ofNat b = Int32.ofNat (a - b) := by
  have : Int32.ofNat a = Int32.ofNat (a - b) + Int32.ofNat b := by rw [own_add, Nat.sub_add_cancel h]
  rw [this]; simp
theorem own_shl0 (x : Int32) : x <<< ((0 : Int32) &&& 31) = x := by
  rw [show ((0 : Int32) &&& 31) = 0 by decide]; simp
theorem own_shr0 (x : Int32) : x >>> ((0 : Int32) &&& 31) = x := by
  rw [show ((0 : Int32) &&& 31) = 0 by decide]; simp
def cv (u : UInt16) : Int32 := u.toUInt32.toInt32
def cLo (u : UInt16) : Int32 := u.toUInt8.toInt8.toInt32
def cHi (u : UInt16) : Int32 := (u >>> 8).toUInt8.toInt8.toInt32
theorem own_shl1 (n : Nat) : Int32.ofNat n <<< ((1 : Int32) &&& 31) = Int32.ofNat (2 * n) := by
  rw [show ((1 : Int32) &&& 31) = 1 by decide]
  apply Int32.toBitVec_inj.mp
  apply BitVec.eq_of_toNat_eq
  rw [Int32.toBitVec_shiftLeft, show (Int32.toBitVec 1).smod 32 = 1#32 by decide]
  show (BitVec.ofNat 32 n <<< 1#32).toNat = (BitVec.ofNat 32 (2 * n)).toNat
  rw [BitVec.shiftLeft_eq', BitVec.toNat_shiftLeft]
  simp [Nat.shiftLeft_eq]
  omega
theorem own_shr1 {n : Nat} (h : n < 2147483648) : Int32.ofNat n >>> ((1 : Int32) &&& 31) = Int32.ofNat (n / 2) := by
  rw [show ((1 : Int32) &&& 31) = 1 by decide]
  apply Int32.toBitVec_inj.mp
  rw [Int32.toBitVec_shiftRight, show (Int32.toBitVec 1).smod 32 = 1#32 by decide]
  apply BitVec.eq_of_toInt_eq
  rw [BitVec.toInt_sshiftRight']
  show (Int32.ofNat n).toInt >>> _ = (Int32.ofNat (n / 2)).toInt
  rw [own_toInt h, own_toInt (by omega)]
  simp [Int.shiftRight_eq_div_pow]
theorem own_lo (u : UInt16) : (cv u).toInt8.toInt32 = cLo u := by
  unfold cv cLo
  congr 1
  apply Int8.toBitVec_inj.mp
  simp only [Int32.toBitVec_toInt8, UInt32.toBitVec_toInt32, UInt16.toBitVec_toUInt32, UInt8.toBitVec_toInt8, UInt16.toBitVec_toUInt8, Int8.toBitVec_toInt32, Int32.toBitVec_shiftRight, UInt16.toBitVec_shiftRight]
  apply BitVec.eq_of_toNat_eq
  rw [BitVec.signExtend_eq_setWidth_of_le _ (by decide)]
  simp
theorem own_cvc (u : UInt16) : (cv u).toUInt32.toUInt16.toUInt32.toInt32 = cv u := by simp [cv]
theorem own_b8 (x : Int32) : x.toInt8.toInt32.toInt8.toInt32 = x.toInt8.toInt32 := by simp
theorem own_lo8 (u : UInt16) : (cLo u).toInt8.toInt32 = cLo u := by simp [cLo]
theorem own_hi8 (u : UInt16) : (cHi u).toInt8.toInt32 = cHi u := by simp [cHi]
theorem own_hi (u : UInt16) : (cv u >>> ((8 : Int32) &&& 31)).toInt8.toInt32 = cHi u := by
  rw [show ((8 : Int32) &&& 31) = 8 by decide]
  unfold cv cHi
  congr 1
  apply Int8.toBitVec_inj.mp
  simp only [Int32.toBitVec_toInt8, UInt32.toBitVec_toInt32, UInt16.toBitVec_toUInt32, UInt8.toBitVec_toInt8, UInt16.toBitVec_toUInt8, Int8.toBitVec_toInt32, Int32.toBitVec_shiftRight, UInt16.toBitVec_shiftRight]
  rw [BitVec.signExtend_eq_setWidth_of_le _ (by decide), show (Int32.toBitVec 8).smod 32 = 8#32 by decide, show UInt16.toBitVec 8 % 16 = 8#16 by decide]
  ext i hi
  simp [BitVec.getLsbD_sshiftRight, show ¬ 32 ≤ i by omega, show 8 + i < 32 by omega]
theorem own_b32 (b : BitVec 8) : (b.signExtend 32 &&& 255#32) = b.setWidth 32 := by
  have q : ∀ i : Fin 256, ((BitVec.ofFin (w := 8) i).signExtend 32 &&& 255#32) = (BitVec.ofFin (w := 8) i).setWidth 32 := by decide +kernel
  exact q b.toFin
theorem own_rdb (u : UInt16) : (cLo u &&& (255 : Int32)).toBitVec = (u.toBitVec.setWidth 8).setWidth 32 := own_b32 (u.toBitVec.setWidth 8)
theorem own_rdh (u : UInt16) : (cHi u &&& (255 : Int32)).toBitVec = ((u.toBitVec >>> 8).setWidth 8).setWidth 32 := own_b32 ((u.toBitVec >>> 8).setWidth 8)
theorem own_rd {u : UInt16} (h : u < 256) : (cLo u &&& (255 : Int32)) = cv u := by
  apply Int32.toBitVec_inj.mp
  rw [own_rdb]
  show _ = u.toBitVec.setWidth 32
  apply BitVec.eq_of_toNat_eq
  have q : u.toNat < 256 := h
  simp
  omega
theorem own_rdc {u : UInt16} (h : u < 256) : (cLo u &&& (255 : Int32)).toUInt32.toUInt16.toUInt32.toInt32 = cv u := by rw [own_rd h, own_cvc]
theorem own_get (u : UInt16) : (((cLo u) &&& (255 : Int32)) ||| ((cHi u &&& (255 : Int32)) <<< ((8 : Int32) &&& 31))).toUInt32.toUInt16.toUInt32.toInt32 = cv u := by
  rw [show ((8 : Int32) &&& 31) = 8 by decide]
  apply Int32.toBitVec_inj.mp
  show (BitVec.setWidth 32 (BitVec.setWidth 16 ((cLo u &&& (255 : Int32)) ||| ((cHi u &&& (255 : Int32)) <<< (8 : Int32))).toBitVec)) = u.toBitVec.setWidth 32
  rw [Int32.toBitVec_or, Int32.toBitVec_shiftLeft, own_rdb, own_rdh, show (Int32.toBitVec 8).smod 32 = 8#32 by decide]
  ext i hi
  simp
  by_cases h8 : i < 8
  · simp [h8]
  · simp [h8]
    by_cases h16 : i < 16
    · have e8 : 8 + (i - 8) = i := by omega
      simp [h16, e8, show i - 8 < 16 by omega, show i - 8 < 8 by omega]
    · simp [h16]
      apply BitVec.getLsbD_of_ge; omega
theorem own_inb {cl : Cell} {N j : Int32} {i : Nat} {vs : List Int32} (S : cl.slots.size = N.toNatClampNeg) (hN : N.toNatClampNeg = vs.length) (h0 : ¬ j < 0) (hj : j.toNatClampNeg = i) (hi : i < vs.length) : ¬ (j < 0 ∨ cl.slots.size ≤ j.toNatClampNeg) := by
  rintro (q | q)
  · exact h0 q
  · omega
theorem own_at {Z : State} {h : Heap} {a : Addr} {k : ClassId} {ty : FieldType} {N j : Int32} {i : Nat} {vs : List Int32} (F : Arv Z h a k ty N (vs.map Value.int) (.int (0 : Int32))) (hN : N.toNatClampNeg = vs.length) (h0 : ¬ j < 0) (hj : j.toNatClampNeg = i) (hi : i < vs.length) :
    ∃ cl, Arr Z h a cl ty ∧ ¬ (j < 0 ∨ cl.slots.size ≤ j.toNatClampNeg) ∧ cl.slots[j.toNatClampNeg]? = some (.int (vs.getD i 0)) := by
  obtain ⟨cl, A, -, S, -, H, -⟩ := F
  have hb := own_inb S hN h0 hj hi
  refine ⟨cl, A, hb, Has.at H hb ?_⟩
  rw [hj]
  simp [List.getD_eq_getElem?_getD, hi]
theorem own_us {vs : List Int32} {sp nn : Int32} {a n : Nat} (h1 : sp.toNatClampNeg = a) (h2 : nn.toNatClampNeg = n) (h : a + n ≤ vs.length) : ((vs.drop a).take n).map Value.int = (List.range nn.toNatClampNeg).map fun i => (vs.map Value.int).getD (sp.toNatClampNeg + i) (.int (0 : Int32)) := by
  rw [h1, h2]
  apply List.ext_getElem
  · simp; omega
  · intro i q1 q2
    have : i < n := by simpa using q2
    simp [List.getD_eq_getElem?_getD, show a + i < vs.length by omega]
def enc1 : List UInt16 → List Int32
  | [] => []
  | u :: cs => cLo u :: cHi u :: enc1 cs
theorem enc1_len : ∀ cs : List UInt16, (enc1 cs).length = 2 * cs.length
  | [] => rfl
  | u :: cs => by simp [enc1, enc1_len cs]; omega
theorem enc1_app : ∀ a b : List UInt16, enc1 (a ++ b) = enc1 a ++ enc1 b
  | [], _ => rfl
  | u :: a, b => by simp [enc1, enc1_app a b]
theorem enc1_get : ∀ (cs : List UInt16) (i : Nat), i < cs.length → (enc1 cs).getD (2 * i) 0 = cLo (cs.getD i 0) ∧ (enc1 cs).getD (2 * i + 1) 0 = cHi (cs.getD i 0)
  | [], i, h => absurd h (by simp)
  | u :: cs, 0, _ => ⟨rfl, rfl⟩
  | u :: cs, i + 1, h => by
    have := enc1_get cs i (by simpa using h)
    simpa [enc1, Nat.mul_add] using this
def put (vs : List Int32) (i : Nat) (u : UInt16) : List Int32 := (vs.set (2 * i) (cLo u)).set (2 * i + 1) (cHi u)
def puts : List Int32 → Nat → List UInt16 → List Int32
  | vs, _, [] => vs
  | vs, i, u :: cs => puts (put vs i u) (i + 1) cs
theorem put_len (vs : List Int32) (i : Nat) (u : UInt16) : (put vs i u).length = vs.length := by simp [put]
theorem puts_len : ∀ (cs : List UInt16) (vs : List Int32) (i : Nat), (puts vs i cs).length = vs.length
  | [], _, _ => rfl
  | u :: cs, vs, i => by rw [puts, puts_len, put_len]
theorem puts_eq : ∀ (cs : List UInt16) (vs : List Int32) (i : Nat), 2 * (i + cs.length) ≤ vs.length → puts vs i cs = vs.take (2 * i) ++ enc1 cs ++ vs.drop (2 * (i + cs.length))
  | [], vs, i, _ => by simp [puts, enc1]
  | u :: cs, vs, i, h => by
    have h' : 2 * (i + cs.length + 1) ≤ vs.length := by simpa [Nat.add_assoc] using h
    rw [puts, puts_eq cs _ _ (by rw [put_len]; omega)]
    have e1 : (put vs i u).take (2 * (i + 1)) = vs.take (2 * i) ++ [cLo u, cHi u] := by
      apply List.ext_getElem?
      intro j
      unfold put
      by_cases q : j < 2 * i
      · simp [List.getElem?_append, List.getElem?_take, List.getElem?_set, show j < 2 * (i + 1) by omega, q, show min (2 * i) vs.length = 2 * i by omega, show ¬ 2 * i + 1 = j by omega, show ¬ 2 * i = j by omega]
      · by_cases q1 : j = 2 * i
        · subst q1
          simp [List.getElem?_append, List.getElem?_take, List.getElem?_set, show min (2 * i) vs.length = 2 * i by omega, show 2 * i < vs.length by omega, show 2 * i < 2 * (i + 1) by omega]
        · by_cases q2 : j = 2 * i + 1
          · subst q2
            simp [List.getElem?_append, List.getElem?_take, List.getElem?_set, show min (2 * i) vs.length = 2 * i by omega, show 2 * i + 1 < vs.length by omega, show 2 * i + 1 < 2 * (i + 1) by omega]
          · simp [List.getElem?_append, List.getElem?_take, show ¬ j < 2 * (i + 1) by omega, q, show min (2 * i) vs.length = 2 * i by omega]
            omega
    have e2 : (put vs i u).drop (2 * (i + 1 + cs.length)) = vs.drop (2 * (i + (u :: cs).length)) := by
      unfold put
      rw [show i + (u :: cs).length = i + 1 + cs.length by simp; omega]
      rw [List.drop_set, if_pos (by omega), List.drop_set, if_pos (by omega)]
    rw [e1, e2]
    simp [enc1]
theorem own_shr2 {n : Nat} (h : 2 * n < 2147483648) : Int32.ofNat (2 * n) >>> ((1 : Int32) &&& 31) = Int32.ofNat n := by
  rw [own_shr1 h]; congr 1; omega
theorem own_selQ {Z s : State} {a0 args : Array Value} {C : String} {y : MethodName} (hZ : Z.Warmed39 s.vm) (ws : (Jvm.Cond.selects C y y).before a0 Z = true) (wp : (Jvm.Cond.privateMethod y).before a0 Z = true) (wm : (Jvm.Cond.instanceMethod y).before a0 Z = true)
    (hy : y.cls ≠ "java/lang/invoke/MethodHandle" ∧ y.cls ≠ "java/lang/invoke/VarHandle" := by decide) : (Jvm.Cond.selects y.cls y y).before args s = true := by
  have w1 : (Jvm.Cond.selects C y y).before args s = true := mvT hZ ws
  obtain ⟨c2, r2, m2, q1, q2, q3, q4, kP, hkP, hkPi⟩ := Cond.selects_spec w1
  exact selects_self_of_private (findClass_of_methodNamed q3) hkP hkPi (Cond.privateMethod_at (mvP hZ wp (args := args))) (mvT hZ wm) hy
theorem own_same {Z : State} {a0 : Array Value} {C : String} {y z : MethodName} (wd : (Jvm.Cond.declares y).before a0 Z = true) (ws : (Jvm.Cond.selects C z z).before a0 Z = true) (hz : z.cls = y.cls := by rfl)
    (hy : y.cls ≠ "java/lang/invoke/MethodHandle" ∧ y.cls ≠ "java/lang/invoke/VarHandle" := by decide) : (Jvm.Cond.sameMethod y.cls y.cls y.name y.desc).before a0 Z = true := by
  obtain ⟨m, meth, h1, h2, -, -⟩ := Cond.declares_spec wd
  obtain ⟨c2, r2, m2, q1, q2, q3, q4, kP, hkP, hkPi⟩ := Cond.selects_spec ws
  have hc := findClass_of_methodNamed h1
  have hc2 := findClass_of_methodNamed q3
  rw [hz, hc] at hc2
  have e : m.cls = m2.cls := Option.some.inj hc2
  have hf := State.methodFound?_of_named h1 hy
  have h1' : Z.methodNamed? ⟨y.cls, y.name, y.desc⟩ = some m := h1
  have hkP' : Z.vm.classes[m.cls]? = some kP := by rw [e]; exact hkP
  simp [Cond.before, Cond.holds, Cond.value, hc, hf, h1', hkP', hkPi]
theorem own_len {Z : State} {h : Heap} {a : Addr} {k : ClassId} {ty : FieldType} {n m : Nat} {vs : List Value} {d : Value} (F : Arv Z h a k ty (Int32.ofNat n) vs d) (e : n = m) : Arv Z h a k ty (Int32.ofNat m) vs d := e ▸ F
theorem own_retN {p : Program} {l : Launch} {e : Env} {R : Room} {s : State} {m : MethodId} {args : Array Value} {below : List Frame} {meth : Method} {c : Code} {T : State} {locs : List Loc} {cells slots : Nat} (X : Stand p l e R s m args below meth c T locs cells slots) (hx : p.tables.exec = Jvm.exec) {pc : Nat} {Ls : Array Slot} {z : Int32} {t : FieldType} {rest : List Value} (hq : nar t z = z) (hret : meth.sig.returnType = some t) (ht : t = .boolean ∨ t = .byte ∨ t = .char ∨ t = .short)
    (hd : decode c.code pc = .ok (.ireturn, 1)) {fs : List Frame} (hl : ∀ (f : JFrame) (acts : List Action), f.method = m → f.locked = none → f.entered = [] → (doReturn e (T.setTop f) acts (some (.int z))).1 = T.setFrames fs) :
    Go p e below T m pc Ls (.int z :: rest) (T.setFrames fs) := retN X hx hret ht hd (by rw [hq]; exact hl)
theorem own_cvn (u : UInt16) : cv u = Int32.ofNat u.toNat := by
  apply Int32.toBitVec_inj.mp
  show u.toBitVec.setWidth 32 = BitVec.ofNat 32 u.toNat
  apply BitVec.eq_of_toNat_eq
  simp
theorem own_cvlt (u : UInt16) : (255 : Int32) < cv u ↔ ¬ u < 256 := by
  rw [own_cvn]
  have h := own_lt (a := 255) (b := u.toNat) (by decide) (by have := u.toNat_lt; omega)
  have h2 : u < 256 ↔ u.toNat < 256 := Iff.rfl
  constructor
  · intro q z; have := h.mp q; have := h2.mp z; omega
  · intro q; apply h.mpr; have : ¬ u.toNat < 256 := fun z => q (h2.mpr z); omega
theorem own_all1 {u : UInt16} (h : ¬ (255 : Int32) < cv u) : ∀ x ∈ [u], x < 256 := fun x hx => by
  cases List.mem_singleton.mp hx
  exact Decidable.of_not_not fun q => h ((own_cvlt u).mpr q)
theorem own_or (a b : Nat) : Int32.ofNat a ||| Int32.ofNat b = Int32.ofNat (a ||| b) := by
  apply Int32.toBitVec_inj.mp
  rw [Int32.toBitVec_or]
  show BitVec.ofNat 32 a ||| BitVec.ofNat 32 b = BitVec.ofNat 32 (a ||| b)
  apply BitVec.eq_of_toNat_eq
  simp [Nat.or_mod_two_pow]
theorem own_cvd {cs : List UInt16} {i : Nat} (hi : i < cs.length) : (cs.map cv).getD i 0 = cv (cs.getD i 0) := by simp [List.getD_eq_getElem?_getD, hi]
def sets : List Int32 → Nat → List UInt16 → List Int32
  | vs, _, [] => vs
  | vs, i, u :: cs => sets (vs.set i (cLo u)) (i + 1) cs
theorem sets_len : ∀ (cs : List UInt16) (vs : List Int32) (i : Nat), (sets vs i cs).length = vs.length
  | [], _, _ => rfl
  | u :: cs, vs, i => by rw [sets, sets_len, List.length_set]
theorem sets_eq : ∀ (cs : List UInt16) (vs : List Int32) (i : Nat), i + cs.length ≤ vs.length → sets vs i cs = vs.take i ++ cs.map cLo ++ vs.drop (i + cs.length)
  | [], vs, i, _ => by simp [sets]
  | u :: cs, vs, i, h => by
    have h' : i + cs.length + 1 ≤ vs.length := by simpa [Nat.add_assoc] using h
    rw [sets, sets_eq cs _ _ (by rw [List.length_set]; omega)]
    have e1 : (vs.set i (cLo u)).take (i + 1) = vs.take i ++ [cLo u] := by
      rw [List.take_add_one, List.take_set]
      rw [List.set_eq_of_length_le (by simp; omega)]
      simp [show i < vs.length by omega]
    have e2 : (vs.set i (cLo u)).drop (i + 1 + cs.length) = vs.drop (i + (u :: cs).length) := by
      rw [List.drop_set, if_pos (by omega)]; congr 1; simp; omega
    rw [e1, e2]
    simp
theorem own_first : ∀ cs : List UInt16, ¬ (∀ u ∈ cs, u < 256) → ∃ n, n < cs.length ∧ (∀ j, j < n → ¬ (255 : Int32) < cv (cs.getD j 0)) ∧ (255 : Int32) < cv (cs.getD n 0)
  | [], h => absurd (fun u hu => nomatch hu) h
  | u :: cs, h => by
    by_cases hu : u < 256
    · have h' : ¬ (∀ x ∈ cs, x < 256) := fun q => h fun x hx => by
        rcases List.mem_cons.mp hx with rfl | hx
        · exact hu
        · exact q x hx
      obtain ⟨n, h1, h2, h3⟩ := own_first cs h'
      refine ⟨n + 1, by simpa using h1, fun j hj => ?_, by simpa using h3⟩
      cases j with
      | zero => exact fun q => (own_cvlt u).mp q hu
      | succ j => simpa using h2 j (by omega)
    · exact ⟨0, by simp, fun j hj => absurd hj (by omega), (own_cvlt u).mpr hu⟩
theorem own_cf0 (i : Nat) : (((Int32.ofNat i) - (Int32.ofNat i)).toUInt32 >>> ((31 : Int32) &&& 31).toUInt32).toInt32.toInt8.toInt32 = 0 := by
  rw [own_sub (Nat.le_refl i), Nat.sub_self]; decide
theorem own_cf1 {i : Nat} (h1 : 1 ≤ i) (h2 : i < 1073741824) : (((Int32.ofNat i) - (Int32.ofNat (2 * i))).toUInt32 >>> ((31 : Int32) &&& 31).toUInt32).toInt32.toInt8.toInt32 = 1 := by
  have e : (((Int32.ofNat i) - (Int32.ofNat (2 * i))).toUInt32 >>> ((31 : Int32) &&& 31).toUInt32) = 1 := by
    apply UInt32.toNat_inj.mp
    rw [UInt32.toNat_shiftRight, show (((31 : Int32) &&& 31).toUInt32).toNat % 32 = 31 by decide]
    have e2 : ((Int32.ofNat i) - (Int32.ofNat (2 * i))).toUInt32.toNat = 4294967296 - i := by
      show (BitVec.ofNat 32 i - BitVec.ofNat 32 (2 * i)).toNat = _
      rw [BitVec.toNat_sub]
      simp
      omega
    rw [e2, Nat.shiftRight_eq_div_pow]
    show _ = 1
    omega
  rw [e]; decide
theorem own_sz {Z : State} {n0 : Nat} {h : Heap} (O : Old Z n0 h) : n0 ≤ h.size := O.1 ▸ O.2.1
theorem own_tkl {A tl : List Int32} {n : Nat} (h : A.length = n) : (A ++ tl).take n = A := by subst h; exact List.take_left
theorem own_nf {s : State} {args : Array Value} {C : String} {y z : MethodName} (ws : (Jvm.Cond.selects C z z).before args s = true) (hz : z.cls = y.cls := by rfl) : NotFace s y := fun r0 h0 => by
  obtain ⟨c2, r2, m2, q1, q2, q3, q4, kP, hkP, hkPi⟩ := Cond.selects_spec ws
  have e1 := findClass_of_methodNamed h0
  have e2 := findClass_of_methodNamed q3
  rw [hz, e1] at e2
  exact ⟨kP, by rw [Option.some.inj e2]; exact hkP, hkPi⟩
abbrev q_0 (p0 : Addr) (p1 : Addr) : Array Slot := #[.val (.ref p0), .val (.ref p1)]
abbrev q_1 (p0 : Addr) : Array Slot := #[.val (.ref p0)]
abbrev q_2 (p0 : Addr) (p1 : Addr) (p2 : List UInt16) : Array Slot := #[.val (.ref p0), .val (.ref p1), .val (.int (Int32.ofNat p2.length))]
abbrev q_3 (p0 : Addr) (p1 : Nat) : Array Slot := #[.val (.ref p0), .val (.int (Int32.ofNat p1))]
abbrev q_4 (p0 : Int32) (p1 : Int32) (p2 : Int32) (p3 : Int32) (p4 : Int32) (p5 : Nat) (p6 : Nat) (p7 : UInt16) (p8 : UInt16) (p9 : UInt16) (p10 : UInt16) (p11 : Addr) (p12 : Addr) (p13 : Addr) (p14 : Addr) : Array Slot := #[.val (.int p0), .val (.int p1), .val (.int p2), .val (.int p3), .val (.int p4), .val (.int (Int32.ofNat p5)), .val (.int (Int32.ofNat p6)), .val (.int (cv p7)), .val (.int (cv p8)), .val (.int (cv p9)), .val (.int (cv p10)), .val (.ref p11), .val (.ref p12), .val (.int (14 : Int32)), .val (.int (38 : Int32)), .val (.int (60 : Int32)), .val (.ref p13), .val (.ref p14), .val (.int (Int32.ofNat (14 + p5 + 38 + p6 + 60))), .unset, .unset, .unset]
abbrev q_5 (p0 : Addr) (p1 : List UInt16) (p2 : Addr) : Array Slot := #[.val (.ref p0), .val (.int (Int32.ofNat p1.length)), .val (.ref p2)]
abbrev q_6 (p0 : UInt16) : Array Slot := #[.val (.int (cv p0))]
abbrev q_7 (p0 : Addr) (p1 : Addr) (p2 : Addr) (p3 : List UInt16) : Array Slot := #[.val (.ref p0), .val (.ref p1), .val .null, .val (.ref p2), .val (.int (Int32.ofNat p3.length))]
abbrev q_8 (p0 : Int32) (p1 : Int32) (p2 : Int32) (p3 : Int32) (p4 : Int32) (p5 : Nat) (p6 : Nat) (p7 : UInt16) (p8 : UInt16) (p9 : UInt16) (p10 : UInt16) (p11 : Addr) (p12 : Addr) (p13 : Addr) (p14 : Addr) : Array Slot := #[.val (.int p0), .val (.int p1), .val (.int p2), .val (.int p3), .val (.int p4), .val (.int (Int32.ofNat p5)), .val (.int (Int32.ofNat p6)), .val (.int (cv p7)), .val (.int (cv p8)), .val (.int (cv p9)), .val (.int (cv p10)), .val (.ref p11), .val (.ref p12), .val (.int (14 : Int32)), .val (.int (38 : Int32)), .val (.int (60 : Int32)), .val (.ref p13), .val (.ref p14), .val (.int (Int32.ofNat (14 + p5 + 38 + p6 + 60))), .val (.int (Int32.ofNat (14 + p5))), .val (.int (Int32.ofNat (14 + p5 + 38))), .unset]
abbrev q_9 (p0 : Addr) (p1 : Nat) : Array Slot := #[.val (.ref p0), .val (.int (Int32.ofNat p1)), .unset]
abbrev q_10 (p0 : Addr) (p1 : Addr) (p2 : Nat) : Array Slot := #[.val (.ref p0), .val (.ref p1), .val (.int (Int32.ofNat p2)), .val (.int (1 : Int32))]
abbrev q_11 (p0 : Addr) (p1 : Nat) : Array Slot := #[.val (.ref p0), .val (.int (0 : Int32)), .val (.int (Int32.ofNat p1))]
abbrev q_12 (p0 : Addr) (p1 : Addr) (p2 : List UInt16) : Array Slot := #[.val (.ref p0), .val (.ref p1), .val (.int (0 : Int32)), .val (.int (Int32.ofNat p2.length)), .val .null, .unset]
abbrev q_13 (p0 : Addr) (p1 : Addr) : Array Slot := #[.val (.ref p0), .val (.ref p1), .unset]
abbrev q_14 (p0 : Int32) (p1 : Int32) (p2 : Int32) (p3 : Int32) (p4 : Int32) (p5 : Nat) (p6 : Nat) (p7 : UInt16) (p8 : UInt16) (p9 : UInt16) (p10 : UInt16) (p11 : Addr) (p12 : Addr) (p13 : Addr) (p14 : Addr) : Array Slot := #[.val (.int p0), .val (.int p1), .val (.int p2), .val (.int p3), .val (.int p4), .val (.int (Int32.ofNat p5)), .val (.int (Int32.ofNat p6)), .val (.int (cv p7)), .val (.int (cv p8)), .val (.int (cv p9)), .val (.int (cv p10)), .val (.ref p11), .val (.ref p12), .val (.int (14 : Int32)), .val (.int (38 : Int32)), .val (.int (60 : Int32)), .val (.ref p13), .val (.ref p14), .val (.int (Int32.ofNat (14 + p5 + 38 + p6 + 60))), .val (.int (Int32.ofNat (14 + p5))), .unset, .unset]
abbrev q_15 (p0 : Addr) (p1 : Addr) : Array Slot := #[.val (.ref p0), .val (.ref p1), .val (.int (0 : Int32)), .val (.int (0 : Int32)), .val .null, .unset]
abbrev q_16 (p0 : Int32) (p1 : Int32) (p2 : Int32) (p3 : Int32) (p4 : Int32) (p5 : Nat) (p6 : Nat) (p7 : UInt16) (p8 : UInt16) (p9 : UInt16) (p10 : UInt16) (p11 : Addr) (p12 : Addr) (p13 : Addr) (p14 : Addr) : Array Slot := #[.val (.int p0), .val (.int p1), .val (.int p2), .val (.int p3), .val (.int p4), .val (.int (Int32.ofNat p5)), .val (.int (Int32.ofNat p6)), .val (.int (cv p7)), .val (.int (cv p8)), .val (.int (cv p9)), .val (.int (cv p10)), .val (.ref p11), .val (.ref p12), .val (.int (14 : Int32)), .val (.int (38 : Int32)), .val (.int (60 : Int32)), .val (.ref p13), .val (.ref p14), .val (.int (Int32.ofNat (14 + p5 + 38 + p6 + 60))), .val (.int (Int32.ofNat (14 + p5))), .val (.int (Int32.ofNat (14 + p5 + 38))), .val (.int (Int32.ofNat (14 + p5 + 38 + p6)))]
abbrev q_17 (p0 : Addr) (p1 : Nat) (p2 : Nat) : Array Slot := #[.val (.ref p0), .val (.int (Int32.ofNat p1)), .val (.int (Int32.ofNat p2))]
abbrev q_18 (p0 : Addr) (p1 : Nat) (p2 : Nat) : Array Slot := #[.val (.ref p0), .val (.int (Int32.ofNat p1)), .val (.int (Int32.ofNat (p2 / 2)))]
abbrev q_19 (p0 : Addr) (p1 : Addr) (p2 : List UInt16) (p3 : Addr) : Array Slot := #[.val (.ref p0), .val (.ref p1), .val (.int (0 : Int32)), .val (.int (Int32.ofNat p2.length)), .val .null, .val (.ref p3)]
abbrev q_20 (p0 : Addr) (p1 : Nat) (p2 : UInt16) : Array Slot := #[.val (.ref p0), .val (.int (Int32.ofNat (2 * p1 + 1))), .val (.int (cv p2))]
abbrev q_21 (p0 : Addr) (p1 : Addr) (p2 : Nat) : Array Slot := #[.val (.ref p0), .val (.ref p1), .val (.int (Int32.ofNat p2)), .val (.int (0 : Int32))]
abbrev q_22 (p0 : Addr) (p1 : Nat) : Array Slot := #[.val (.ref p0), .val (.int (Int32.ofNat (2 * p1 + 1)))]
abbrev q_23 (p0 : Addr) : Array Slot := #[.val (.ref p0), .unset]
abbrev q_24 (p0 : Addr) (p1 : Addr) : Array Slot := #[.val (.ref p0), .val (.ref p1), .val .null, .unset, .unset]
abbrev q_25 (p0 : Nat) (p1 : Nat) : Array Slot := #[.val (.int (Int32.ofNat p0)), .val (.int (Int32.ofNat p1))]
abbrev q_26 (p0 : Addr) : Array Slot := #[.val (.ref p0), .val (.int (16 : Int32))]
abbrev q_27 (p0 : UInt16) (p1 : UInt16) : Array Slot := #[.val (.int (2 : Int32)), .val (.int (cv p0)), .val (.int (cv p1))]
abbrev q_28 (p0 : Addr) (p1 : Nat) : Array Slot := #[.val (.ref p0), .val (.int (Int32.ofNat p1)), .unset, .unset, .unset, .unset]
abbrev q_29 (p0 : Nat) : Array Slot := #[.val (.int (Int32.ofNat p0))]
abbrev q_30 (p0 : Nat) (p1 : Nat) (p2 : Nat) (p3 : Value) : Array Slot := #[.val (.int (Int32.ofNat p0)), .val (.int (Int32.ofNat p1)), .val (.int (Int32.ofNat p2)), .val p3]
abbrev q_31 (p0 : Addr) (p1 : Nat) (p2 : Nat) : Array Slot := #[.val (.ref p0), .val (.int (Int32.ofNat p1)), .val (.int (Int32.ofNat p2)), .unset, .unset, .unset]
abbrev q_32 (p0 : Addr) (p1 : Nat) (p2 : Addr) : Array Slot := #[.val (.ref p0), .val (.int (0 : Int32)), .val (.int (Int32.ofNat p1)), .val (.int (Int32.ofNat p1)), .val (.ref p2)]
abbrev q_33 (p0 : Addr) (p1 : Nat) (p2 : Addr) (p3 : List UInt16) : Array Slot := #[.val (.ref p0), .val (.int (Int32.ofNat p1)), .val (.ref p2), .val (.int (Int32.ofNat p1)), .val (.int (Int32.ofNat p3.length)), .val (.int (Int32.ofNat p1)), .val (.int (cv (p3.getD p1 0)))]
abbrev q_34 (p0 : UInt16) (p1 : UInt16) : Array Slot := #[.val (.int (0 : Int32)), .val (.int (cv p0)), .val (.int (cv p1))]
abbrev q_35 (p0 : Int32) (p1 : Int32) (p2 : Int32) (p3 : Int32) (p4 : Int32) (p5 : Nat) (p6 : Nat) (p7 : UInt16) (p8 : UInt16) (p9 : UInt16) (p10 : UInt16) (p11 : Addr) (p12 : Addr) (p13 : Addr) (p14 : Addr) : Array Slot := #[.val (.int p0), .val (.int p1), .val (.int p2), .val (.int p3), .val (.int p4), .val (.int (Int32.ofNat p5)), .val (.int (Int32.ofNat p6)), .val (.int (cv p7)), .val (.int (cv p8)), .val (.int (cv p9)), .val (.int (cv p10)), .val (.ref p11), .val (.ref p12), .val (.int (14 : Int32)), .val (.int (38 : Int32)), .val (.int (60 : Int32)), .val (.ref p13), .val (.ref p14), .unset, .unset, .unset, .unset]
abbrev q_36 (p0 : Addr) (p1 : Addr) : Array Slot := #[.val (.ref p0), .val (.ref p1), .val (.int (0 : Int32))]
abbrev q_37 (p0 : Addr) (p1 : Addr) : Array Slot := #[.val (.ref p0), .val (.ref p1), .val (.int (1 : Int32))]
abbrev q_38 (p0 : Addr) (p1 : List UInt16) : Array Slot := #[.val (.ref p0), .val (.int (0 : Int32)), .val (.int (Int32.ofNat p1.length)), .unset, .unset, .unset]
abbrev q_39 (p0 : Addr) (p1 : Nat) (p2 : Addr) : Array Slot := #[.val (.ref p0), .val (.int (Int32.ofNat p1)), .val (.ref p2)]
abbrev q_40 (p0 : Addr) (p1 : Nat) (p2 : Nat) : Array Slot := #[.val (.ref p0), .val (.int (Int32.ofNat p1)), .val (.int (Int32.ofNat p2)), .val (.int (Int32.ofNat p1)), .val (.int (Int32.ofNat (p1 - p2))), .val (.int (Int32.ofNat (p2 + max (p1 - p2) (p2 + 2))))]
abbrev q_41 (p0 : Addr) (p1 : Nat) (p2 : Nat) : Array Slot := #[.val (.ref p0), .val (.int (Int32.ofNat p1)), .val (.int (Int32.ofNat p2)), .val (.int (Int32.ofNat (2 * p1))), .val (.int (Int32.ofNat (2 * p1 - p2))), .val (.int (Int32.ofNat (p2 + max (2 * p1 - p2) (p2 + 4))))]
abbrev q_42 (p0 : Int32) (p1 : Int32) (p2 : Int32) (p3 : Int32) (p4 : Int32) (p5 : Nat) (p6 : Nat) (p7 : UInt16) (p8 : UInt16) (p9 : UInt16) (p10 : UInt16) (p11 : Addr) (p12 : Addr) (p13 : Addr) : Array Slot := #[.val (.int p0), .val (.int p1), .val (.int p2), .val (.int p3), .val (.int p4), .val (.int (Int32.ofNat p5)), .val (.int (Int32.ofNat p6)), .val (.int (cv p7)), .val (.int (cv p8)), .val (.int (cv p9)), .val (.int (cv p10)), .val (.ref p11), .val (.ref p12), .val (.int (14 : Int32)), .val (.int (38 : Int32)), .val (.int (60 : Int32)), .val (.ref p13), .unset, .unset, .unset, .unset, .unset]
abbrev q_43 (p0 : Addr) (p1 : Nat) (p2 : Nat) : Array Slot := #[.val (.ref p0), .val (.int (Int32.ofNat p1)), .val (.int (Int32.ofNat p2)), .val (.int (Int32.ofNat p1)), .val (.int (Int32.ofNat (p1 - p2))), .unset]
abbrev q_44 (p0 : Addr) (p1 : Nat) (p2 : Nat) : Array Slot := #[.val (.ref p0), .val (.int (Int32.ofNat p1)), .val (.int (Int32.ofNat p2)), .val (.int (Int32.ofNat (2 * p1))), .val (.int (Int32.ofNat (2 * p1 - p2))), .unset]
abbrev q_45 (p0 : Int32) (p1 : Int32) (p2 : Int32) (p3 : Int32) (p4 : Int32) (p5 : Nat) (p6 : Nat) (p7 : UInt16) (p8 : UInt16) (p9 : UInt16) (p10 : UInt16) (p11 : Addr) (p12 : Addr) : Array Slot := #[.val (.int p0), .val (.int p1), .val (.int p2), .val (.int p3), .val (.int p4), .val (.int (Int32.ofNat p5)), .val (.int (Int32.ofNat p6)), .val (.int (cv p7)), .val (.int (cv p8)), .val (.int (cv p9)), .val (.int (cv p10)), .val (.ref p11), .val (.ref p12), .unset, .unset, .unset, .unset, .unset, .unset, .unset, .unset, .unset]
abbrev q_46 (p0 : Int32) (p1 : Int32) (p2 : Int32) (p3 : Int32) (p4 : Int32) (p5 : Nat) (p6 : Nat) (p7 : UInt16) (p8 : UInt16) (p9 : UInt16) (p10 : UInt16) (p11 : Addr) (p12 : Addr) : Array Slot := #[.val (.int p0), .val (.int p1), .val (.int p2), .val (.int p3), .val (.int p4), .val (.int (Int32.ofNat p5)), .val (.int (Int32.ofNat p6)), .val (.int (cv p7)), .val (.int (cv p8)), .val (.int (cv p9)), .val (.int (cv p10)), .val (.ref p11), .val (.ref p12), .val (.int (14 : Int32)), .unset, .unset, .unset, .unset, .unset, .unset, .unset, .unset]
abbrev q_47 (p0 : Int32) (p1 : Int32) (p2 : Int32) (p3 : Int32) (p4 : Int32) (p5 : Nat) (p6 : Nat) (p7 : UInt16) (p8 : UInt16) (p9 : UInt16) (p10 : UInt16) (p11 : Addr) (p12 : Addr) : Array Slot := #[.val (.int p0), .val (.int p1), .val (.int p2), .val (.int p3), .val (.int p4), .val (.int (Int32.ofNat p5)), .val (.int (Int32.ofNat p6)), .val (.int (cv p7)), .val (.int (cv p8)), .val (.int (cv p9)), .val (.int (cv p10)), .val (.ref p11), .val (.ref p12), .val (.int (14 : Int32)), .val (.int (38 : Int32)), .unset, .unset, .unset, .unset, .unset, .unset, .unset]
abbrev q_48 (p0 : Addr) (p1 : Nat) (p2 : List UInt16) (p3 : Addr) : Array Slot := #[.val (.ref p0), .val (.int (Int32.ofNat p1)), .val (.int (Int32.ofNat p2.length)), .val (.ref p3), .val (.int (Int32.ofNat p1))]
abbrev q_49 (p0 : Addr) (p1 : List UInt16) (p2 : Addr) : Array Slot := #[.val (.ref p0), .val (.int (0 : Int32)), .val (.int (Int32.ofNat p1.length)), .val (.ref p2), .unset, .unset]
abbrev q_50 (p0 : Addr) (p1 : Addr) (p2 : Addr) : Array Slot := #[.val (.ref p0), .val (.ref p1), .val .null, .val (.ref p2), .unset]
abbrev q_51 (p0 : Nat) (p1 : Nat) (p2 : Addr) : Array Slot := #[.val (.int (Int32.ofNat p0)), .val (.int (Int32.ofNat p1)), .val (.ref p2)]
abbrev q_52 (p0 : Addr) (p1 : Nat) (p2 : Addr) (p3 : Nat) (p4 : List UInt16) : Array Slot := #[.val (.ref p0), .val (.int (Int32.ofNat (p1 + 1))), .val (.ref p2), .val (.int (Int32.ofNat (p3 + p1 + 1))), .val (.int (Int32.ofNat p4.length)), .val (.int (Int32.ofNat p1))]
abbrev q_53 (p0 : Addr) (p1 : Nat) (p2 : Addr) (p3 : List UInt16) (p4 : Slot) : Array Slot := #[.val (.ref p0), .val (.int (Int32.ofNat p1)), .val (.ref p2), .val (.int (Int32.ofNat p1)), .val (.int (Int32.ofNat p3.length)), .val (.int (Int32.ofNat p1)), p4]
abbrev q_54 (p0 : Addr) (p1 : List UInt16) (p2 : Addr) (p3 : Nat) : Array Slot := #[.val (.ref p0), .val (.int (0 : Int32)), .val (.int (Int32.ofNat p1.length)), .val (.ref p2), .val (.int (Int32.ofNat p3)), .unset]
abbrev q_55 (p0 : Addr) (p1 : List UInt16) (p2 : Addr) (p3 : Nat) (p4 : Addr) : Array Slot := #[.val (.ref p0), .val (.int (0 : Int32)), .val (.int (Int32.ofNat p1.length)), .val (.ref p2), .val (.int (Int32.ofNat p3)), .val (.ref p4)]
abbrev q_56 (p0 : Nat) (p1 : Nat) (p2 : Nat) : Array Slot := #[.val (.int (Int32.ofNat p0)), .val (.int (Int32.ofNat p1)), .val (.int (Int32.ofNat p2)), .unset]
abbrev q_57 (p0 : Nat) (p1 : Nat) (p2 : Nat) : Array Slot := #[.val (.int (Int32.ofNat p0)), .val (.int (Int32.ofNat p1)), .val (.int (Int32.ofNat p2)), .val (.int (Int32.ofNat (p0 + max p1 p2)))]
abbrev q_58 (p0 : Int32) (p1 : Int32) (p2 : Int32) (p3 : Int32) (p4 : Int32) (p5 : Nat) (p6 : Nat) : Array Slot := #[.val (.int p0), .val (.int p1), .val (.int p2), .val (.int p3), .val (.int p4), .val (.int (Int32.ofNat p5)), .val (.int (Int32.ofNat p6)), .unset, .unset, .unset, .unset, .unset, .unset, .unset, .unset, .unset, .unset, .unset, .unset, .unset, .unset, .unset]
abbrev q_59 (p0 : Int32) (p1 : Int32) (p2 : Int32) (p3 : Int32) (p4 : Int32) (p5 : Nat) (p6 : Nat) (p7 : UInt16) (p8 : UInt16) (p9 : UInt16) (p10 : UInt16) (p11 : Addr) (p12 : Addr) : Array Slot := #[.val (.int p0), .val (.int p1), .val (.int p2), .val (.int p3), .val (.int p4), .val (.int (Int32.ofNat p5)), .val (.int (Int32.ofNat p6)), .val (.int (cv p7)), .val (.int (cv p8)), .val (.int (cv p9)), .val (.int (cv p10)), .val (.ref p11), .val (.ref p12), .val (.int (14 : Int32)), .val (.int (38 : Int32)), .val (.int (60 : Int32)), .unset, .unset, .unset, .unset, .unset, .unset]
abbrev q_60 (p0 : Nat) (p1 : Addr) : Array Slot := #[.val (.int (Int32.ofNat p0)), .val (.ref p1)]
abbrev q_61 (p0 : Nat) (p1 : Nat) (p2 : Nat) : Array Slot := #[.val (.int (Int32.ofNat p0)), .val (.int (Int32.ofNat p1)), .val (.int (Int32.ofNat p2))]
abbrev q_62 (p0 : Addr) (p1 : Nat) : Array Slot := #[.val (.ref p0), .val (.int (0 : Int32)), .val (.int (Int32.ofNat p1)), .unset, .unset]
abbrev q_63 (p0 : Int32) (p1 : Int32) (p2 : Int32) (p3 : Int32) (p4 : Int32) (p5 : Nat) (p6 : Nat) (p7 : UInt16) (p8 : UInt16) (p9 : UInt16) (p10 : UInt16) : Array Slot := #[.val (.int p0), .val (.int p1), .val (.int p2), .val (.int p3), .val (.int p4), .val (.int (Int32.ofNat p5)), .val (.int (Int32.ofNat p6)), .val (.int (cv p7)), .val (.int (cv p8)), .val (.int (cv p9)), .val (.int (cv p10)), .unset, .unset, .unset, .unset, .unset, .unset, .unset, .unset, .unset, .unset, .unset]
abbrev q_64 (p0 : Int32) (p1 : Int32) (p2 : Int32) (p3 : Int32) (p4 : Int32) (p5 : Nat) (p6 : Nat) (p7 : UInt16) : Array Slot := #[.val (.int p0), .val (.int p1), .val (.int p2), .val (.int p3), .val (.int p4), .val (.int (Int32.ofNat p5)), .val (.int (Int32.ofNat p6)), .val (.int (cv p7)), .unset, .unset, .unset, .unset, .unset, .unset, .unset, .unset, .unset, .unset, .unset, .unset, .unset, .unset]
abbrev q_65 (p0 : Int32) (p1 : Int32) (p2 : Int32) (p3 : Int32) (p4 : Int32) (p5 : Nat) (p6 : Nat) (p7 : UInt16) (p8 : UInt16) : Array Slot := #[.val (.int p0), .val (.int p1), .val (.int p2), .val (.int p3), .val (.int p4), .val (.int (Int32.ofNat p5)), .val (.int (Int32.ofNat p6)), .val (.int (cv p7)), .val (.int (cv p8)), .unset, .unset, .unset, .unset, .unset, .unset, .unset, .unset, .unset, .unset, .unset, .unset, .unset]
abbrev q_66 (p0 : Int32) (p1 : Int32) (p2 : Int32) (p3 : Int32) (p4 : Int32) (p5 : Nat) (p6 : Nat) (p7 : UInt16) (p8 : UInt16) (p9 : UInt16) : Array Slot := #[.val (.int p0), .val (.int p1), .val (.int p2), .val (.int p3), .val (.int p4), .val (.int (Int32.ofNat p5)), .val (.int (Int32.ofNat p6)), .val (.int (cv p7)), .val (.int (cv p8)), .val (.int (cv p9)), .unset, .unset, .unset, .unset, .unset, .unset, .unset, .unset, .unset, .unset, .unset, .unset]
abbrev q_67 (p0 : Int32) (p1 : Int32) (p2 : Int32) (p3 : Int32) (p4 : Int32) (p5 : Nat) (p6 : Nat) (p7 : UInt16) (p8 : UInt16) (p9 : UInt16) (p10 : UInt16) (p11 : Addr) : Array Slot := #[.val (.int p0), .val (.int p1), .val (.int p2), .val (.int p3), .val (.int p4), .val (.int (Int32.ofNat p5)), .val (.int (Int32.ofNat p6)), .val (.int (cv p7)), .val (.int (cv p8)), .val (.int (cv p9)), .val (.int (cv p10)), .val (.ref p11), .unset, .unset, .unset, .unset, .unset, .unset, .unset, .unset, .unset, .unset]
abbrev q_68 (p0 : Addr) (p1 : Nat) (p2 : UInt16) : Array Slot := #[.val (.ref p0), .val (.int (Int32.ofNat p1)), .val (.int (cv p2))]
abbrev q_69 (p0 : UInt16) (p1 : Addr) : Array Slot := #[.val (.int (cv p0)), .val (.ref p1)]
abbrev q_70 (p0 : Addr) (p1 : List UInt16) (p2 : Addr) (p3 : Nat) : Array Slot := #[.val (.ref p0), .val (.int (Int32.ofNat p1.length)), .val (.ref p2), .val (.int (Int32.ofNat (p3 + p1.length))), .val (.int (Int32.ofNat p1.length)), .val (.int (Int32.ofNat p1.length))]
abbrev q_71 (p0 : Addr) (p1 : Addr) (p2 : Nat) (p3 : List UInt16) : Array Slot := #[.val (.ref p0), .val (.int (0 : Int32)), .val (.ref p1), .val (.int (Int32.ofNat p2)), .val (.int (Int32.ofNat p3.length)), .unset]
abbrev q_72 (p0 : Addr) (p1 : List UInt16) (p2 : Addr) : Array Slot := #[.val (.ref p0), .val (.int (Int32.ofNat p1.length)), .val (.int (Int32.ofNat p1.length)), .val (.ref p2), .val (.int (Int32.ofNat p1.length))]
abbrev q_73 (p0 : Addr) (p1 : List UInt16) : Array Slot := #[.val (.ref p0), .val (.int (0 : Int32)), .val (.int (Int32.ofNat p1.length)), .unset, .unset]
abbrev q_74 (p0 : Addr) (p1 : Addr) (p2 : Nat) (p3 : List UInt16) : Array Slot := #[.val (.ref p0), .val (.int (0 : Int32)), .val (.ref p1), .val (.int (Int32.ofNat p2)), .val (.int (Int32.ofNat p3.length))]
abbrev q_75 (p0 : Addr) (p1 : Addr) (p2 : List UInt16) : Array Slot := #[.val (.ref p0), .val (.int (0 : Int32)), .val (.ref p1), .val (.int (0 : Int32)), .val (.int (Int32.ofNat p2.length)), .unset, .unset]
abbrev q_76 (p0 : Addr) (p1 : List UInt16) (p2 : Addr) : Array Slot := #[.val (.ref p0), .val (.int (0 : Int32)), .val (.int (Int32.ofNat p1.length)), .val (.ref p2), .val (.int (Int32.ofNat p1.length)), .unset]
abbrev q_77 (p0 : Addr) (p1 : Nat) : Array Slot := #[.val (.ref p0), .val (.int (0 : Int32)), .val (.int (Int32.ofNat p1)), .val (.int (Int32.ofNat p1)), .unset]
abbrev q_78 (p0 : UInt16) (p1 : UInt16) : Array Slot := #[.val (.int (1 : Int32)), .val (.int (cv p0)), .val (.int (cv p1))]
abbrev q_79 (p0 : Int32) (p1 : Int32) (p2 : Int32) (p3 : Int32) (p4 : Int32) (p5 : Nat) : Array Slot := #[.val (.int p0), .val (.int p1), .val (.int p2), .val (.int p3), .val (.int p4), .val (.int (Int32.ofNat p5)), .unset, .unset, .unset, .unset, .unset, .unset, .unset, .unset, .unset, .unset, .unset, .unset, .unset, .unset, .unset, .unset]
abbrev q_80 (p0 : Addr) (p1 : Nat) (p2 : Addr) (p3 : Nat) (p4 : List UInt16) : Array Slot := #[.val (.ref p0), .val (.int (Int32.ofNat p1)), .val (.ref p2), .val (.int (Int32.ofNat (p3 + p1))), .val (.int (Int32.ofNat p4.length)), .val (.int (Int32.ofNat p1))]
abbrev q_81 (p0 : Addr) (p1 : Nat) (p2 : List UInt16) (p3 : Addr) : Array Slot := #[.val (.ref p0), .val (.int (Int32.ofNat (p1 + 1))), .val (.int (Int32.ofNat p2.length)), .val (.ref p3), .val (.int (Int32.ofNat (p1 + 1)))]
abbrev q_82 (p0 : Addr) (p1 : Nat) (p2 : Nat) : Array Slot := #[.val (.ref p0), .val (.int (Int32.ofNat p1)), .val (.int (Int32.ofNat p2)), .val (.int (Int32.ofNat p1)), .unset, .unset]
abbrev q_83 (p0 : Addr) (p1 : Nat) (p2 : Nat) : Array Slot := #[.val (.ref p0), .val (.int (Int32.ofNat p1)), .val (.int (Int32.ofNat p2)), .val (.int (Int32.ofNat (2 * p1))), .unset, .unset]
abbrev q_84 (p0 : Int32) (p1 : Int32) (p2 : Int32) (p3 : Int32) (p4 : Int32) : Array Slot := #[.val (.int p0), .val (.int p1), .val (.int p2), .val (.int p3), .val (.int p4), .unset, .unset, .unset, .unset, .unset, .unset, .unset, .unset, .unset, .unset, .unset, .unset, .unset, .unset, .unset, .unset, .unset]
abbrev q_85 (p0 : Addr) (p1 : Nat) (p2 : Addr) (p3 : Nat) (p4 : List UInt16) : Array Slot := #[.val (.ref p0), .val (.int (Int32.ofNat (p1 + 1))), .val (.ref p2), .val (.int (Int32.ofNat (p3 + p1 + 1))), .val (.int (Int32.ofNat p4.length)), .val (.int (Int32.ofNat (p1 + 1)))]
abbrev q_86 (p0 : Addr) (p1 : Nat) (p2 : Addr) (p3 : List UInt16) : Array Slot := #[.val (.ref p0), .val (.int (Int32.ofNat (p1 + 1))), .val (.ref p2), .val (.int (Int32.ofNat (p1 + 1))), .val (.int (Int32.ofNat p3.length)), .val (.int (Int32.ofNat (p1 + 1))), .val (.int (cv (p3.getD p1 0)))]
abbrev q_87 (p0 : Addr) (p1 : Addr) (p2 : List UInt16) : Array Slot := #[.val (.ref p0), .val (.int (0 : Int32)), .val (.ref p1), .val (.int (0 : Int32)), .val (.int (Int32.ofNat p2.length)), .val (.int (0 : Int32)), .unset]
def Stc (Z : State) (G1 : Int32) (Fm : Value) : Prop := Sta Z Z.heap "java/lang/String" "COMPACT_STRINGS" "Z" (.int G1) ∧ ¬ G1 = 0 ∧ Sta Z Z.heap "jdk/internal/util/Preconditions" "SIOOBE_FORMATTER" "Ljava/util/function/BiFunction;" Fm ∧ Fm.isRef = true ∧ Sta Z Z.heap "java/lang/StringUTF16" "$assertionsDisabled" "Z" (.int (1 : Int32)) ∧ Sta Z Z.heap "java/lang/StringUTF16" "HI_BYTE_SHIFT" "I" (.int (0 : Int32)) ∧ Sta Z Z.heap "java/lang/StringUTF16" "LO_BYTE_SHIFT" "I" (.int (8 : Int32))
def Qpure (r : Option Value) (h0 : Heap) (n0 : Nat) (v : Option Value) (h : Heap) (L : List Loc) : Prop := v = r ∧ Fr n0 L ∧ h = h0
def Bar (Z : State) (h : Heap) (a : Addr) (k : ClassId) (L : Nat) (vs : List Int32) : Prop := Arv Z h a k .byte (Int32.ofNat L) (vs.map Value.int) (.int (0 : Int32)) ∧ vs.length = L
def Str0 (Z : State) (h : Heap) (a b : Addr) (k : ClassId) (cs : List UInt16) : Prop := Exa Z h a "java/lang/String" ∧ Fld Z h a "java/lang/String" "coder" "B" (.int (0 : Int32)) ∧ Fld Z h a "java/lang/String" "value" "[B" (.ref b) ∧ Bar Z h b k cs.length (cs.map cLo) ∧ ∀ u ∈ cs, u < 256
def Str1 (Z : State) (h : Heap) (a b : Addr) (k : ClassId) (cs : List UInt16) : Prop := Exa Z h a "java/lang/String" ∧ Fld Z h a "java/lang/String" "coder" "B" (.int (1 : Int32)) ∧ Fld Z h a "java/lang/String" "value" "[B" (.ref b) ∧ Bar Z h b k (2 * cs.length) (enc1 cs)
def Qar (Z : State) (L : Nat) (vs : List Int32) (h0 : Heap) (n0 : Nat) (v : Option Value) (h : Heap) (Lc : List Loc) : Prop := ∃ (b : Addr) (k : ClassId), v = some (.ref b) ∧ Fr n0 Lc ∧ Keep h0 h [] ∧ h0.size ≤ b ∧ Bar Z h b k L vs ∧ Exa Z h b "[B"
def Qwr (Z : State) (a : Addr) (k : ClassId) (L : Nat) (vs : List Int32) (h0 : Heap) (n0 : Nat) (v : Option Value) (h : Heap) (Lc : List Loc) : Prop := v = none ∧ Fr n0 Lc ∧ Keep h0 h [a] ∧ Bar Z h a k L vs
theorem own_up {cs : List UInt16} {i : Nat} (h : ∀ u ∈ cs, u < 256) (hi : i < cs.length) : cs.getD i 0 < 256 := by
  simp only [List.getD_eq_getElem?_getD, List.getElem?_eq_getElem hi, Option.getD_some]; exact h _ (List.getElem_mem hi)
theorem own_lod {cs : List UInt16} {i : Nat} (hi : i < cs.length) : (cs.map cLo).getD i 0 = cLo (cs.getD i 0) := by simp [List.getD_eq_getElem?_getD, hi]
theorem pn0 : plainName "java/lang/StringUTF16" = true := by first | (simp [plainName, overriddenIn]; done) | decide +kernel
theorem d59_0 : Dc cb0 0 (.aload_n 0) 1 := by decide +kernel
theorem d59_1 : Dc cb0 1 .arraylength 1 := by decide +kernel
theorem d59_2 : Dc cb0 2 (.iconst 1) 1 := by decide +kernel
theorem d59_3 : Dc cb0 3 .ishr 1 := by decide +kernel
theorem d59_4 : Dc cb0 4 .ireturn 1 := by decide +kernel
theorem ef_ru_len (m : MethodId) (x0 : Addr) : entryFrame m #[(.ref x0)] 1 = mkF m 0 #[.val (.ref x0)] [] := by first | (simp [entryFrame, mkF, argsToLocals, Value.category]; done) | rfl
set_option maxRecDepth 65536 in
set_option maxHeartbeats 40000000 in
theorem ru_len (l : Launch) (Z : State) (a0 : Array Value) (hw : Hw a0 Z) (ws : List Jvm.Cond) (G1 : Int32) (Fm : Value) (a1 : Addr) (kA : ClassId) (LA : Nat) (vs : List Int32) (h0 : Heap) (n0 : Nat) (O0 : Old Z n0 h0) (ST : Stc Z G1 Fm) (B1 : Bar Z h0 a1 kA LA vs) (hB : LA ≤ 500) :
    Met l Z h0 ws Y_31 jdk_52_method_6_code 1 (some .int) R_0 #[(.ref a1)] (Qpure (some (.int (Int32.ofNat (LA / 2)))) h0 n0) := by
  refine MetFree.of_bodySF (plainFor_of_name pn0) hisR ?_
  intro p e s m args below meth c s₁ Bd hml0 hP hK
  obtain ⟨rfl, hZ, hh⟩ := hP
  have hx := Bd.exec
  have hby := Bd.bytes
  have hml : c.maxLocals = 1 := hml0
  have hown : s.vm.findClass "java/lang/StringUTF16" = some m.cls := findClass_of_methodNamed Bd.named
  have hnm := (name_of_methodNamed Bd.named Bd.method).1
  have X0 : Stand p l e R_0 s m #[(.ref a1)] below meth c s₁ [] 0 0 := Stand.of_body Bd
  have e0 : s₁.heap = h0 := by rw [← hh, Bd.state]; rfl
  have N0 := Fr.nil n0
  obtain ⟨S_cs, hG, S_fm, hF, S_ad, S_hi, S_lo⟩ := id ST
  have V_a1 := B1.1
  have l_a1 := B1.2
  have hN_a1 : (Int32.ofNat LA).toNatClampNeg = vs.length := by rw [l_a1]; exact own_n (by omega)
  have lt_a1 := V_a1.lt
  obtain ⟨cl1, Ar1, q1, Sz1, Nn1, Ha1, Gf1⟩ := id V_a1
  obtain ⟨fs, hr, hrun, hended, hW, hsame⟩ := X0.leave (v := some (.int (Int32.ofNat (LA / 2)))) (fun h => by rw [Bd.returns] at h; cases h)
  refine ⟨_, _, castTop (ef_ru_len m a1) ?_, hrun, hended, _, _, rfl, ?_, ⟨_, rfl⟩, hW, hsame.mono (by decide) (by decide)⟩
  · show Go p e below s₁ m 0 (q_1 a1) [] _
    refine XS.aloadN X0.here hx rfl (hb hby d59_0) rfl rfl ?_
    show Go p e below s₁ m 1 (q_1 a1) [(.ref a1)] _
    refine X0.arraylength hx (by rw [e0]; exact Ar1.1) (State.isArrayOf_alike hZ.alike Ar1.2.1) (g := (mkF m 1 (q_1 a1) [(.ref a1)])) rfl rfl (hb hby d59_1) _ ?_
    rw [len_of Sz1 Nn1]
    show Go p e below s₁ m 2 (q_1 a1) [(.int (Int32.ofNat LA))] _
    refine XS.iconst X0.here hx rfl (hb hby d59_2) ?_
    refine XS.ishr X0.here hx rfl (hb hby d59_3) rfl ?_
    show Go p e below s₁ m 4 (q_1 a1) [(.int ((Int32.ofNat LA) >>> ((1 : Int32) &&& 31)))] _
    rw [show ((Int32.ofNat LA) >>> ((1 : Int32) &&& 31)) = (Int32.ofNat (LA / 2)) from own_shr1 (n := LA) (by omega)]
    show Go p e below s₁ m 4 (q_1 a1) [(.int (Int32.ofNat (LA / 2)))] _
    exact retI X0 hx Bd.returns (hb hby d59_4) hr
  · show Qpure (some (.int (Int32.ofNat (LA / 2)))) h0 n0 _ s₁.heap _
    rw [e0]
    exact ⟨rfl, N0, rfl⟩
theorem pn1 : plainName "jdk/internal/util/Preconditions" = true := by first | (simp [plainName, overriddenIn]; done) | decide +kernel
theorem d42_0 : Dc cb1 0 (.iload_n 0) 1 := by decide +kernel
theorem d42_1 : Dc cb1 1 (.ifCond .lt 8) 3 := by decide +kernel
theorem d42_4 : Dc cb1 4 (.iload_n 0) 1 := by decide +kernel
theorem d42_5 : Dc cb1 5 (.iload_n 1) 1 := by decide +kernel
theorem d42_6 : Dc cb1 6 (.if_icmp .lt 10) 3 := by decide +kernel
theorem d42_16 : Dc cb1 16 (.iload_n 0) 1 := by decide +kernel
theorem d42_17 : Dc cb1 17 .ireturn 1 := by decide +kernel
theorem ef_rp_ci (m : MethodId) (x0 : Int32) (x1 : Int32) (x2 : Value) (hr : x2.isRef = true) : entryFrame m #[(.int x0), (.int x1), x2] 3 = mkF m 0 #[.val (.int x0), .val (.int x1), .val x2] [] := by cases x2 <;> first | (simp [entryFrame, mkF, argsToLocals, Value.category]; done) | (simp [Value.isRef] at hr; done) | rfl
set_option maxRecDepth 65536 in
set_option maxHeartbeats 40000000 in
theorem rp_ci (l : Launch) (Z : State) (a0 : Array Value) (hw : Hw a0 Z) (ws : List Jvm.Cond) (G1 : Int32) (Fm : Value) (i1 : Nat) (i2 : Nat) (h0 : Heap) (n0 : Nat) (O0 : Old Z n0 h0) (ST : Stc Z G1 Fm) (hi : i1 < i2) (hB : i2 ≤ 500) :
    Met l Z h0 ws Y_45 jdk_41_method_11_code 3 (some .int) R_0 #[(.int (Int32.ofNat i1)), (.int (Int32.ofNat i2)), Fm] (Qpure (some (.int (Int32.ofNat i1))) h0 n0) := by
  refine MetFree.of_bodySF (plainFor_of_name pn1) hisR ?_
  intro p e s m args below meth c s₁ Bd hml0 hP hK
  obtain ⟨rfl, hZ, hh⟩ := hP
  have hx := Bd.exec
  have hby := Bd.bytes
  have hml : c.maxLocals = 3 := hml0
  have hown : s.vm.findClass "jdk/internal/util/Preconditions" = some m.cls := findClass_of_methodNamed Bd.named
  have hnm := (name_of_methodNamed Bd.named Bd.method).1
  have X0 : Stand p l e R_0 s m #[(.int (Int32.ofNat i1)), (.int (Int32.ofNat i2)), Fm] below meth c s₁ [] 0 0 := Stand.of_body Bd
  have e0 : s₁.heap = h0 := by rw [← hh, Bd.state]; rfl
  have N0 := Fr.nil n0
  obtain ⟨S_cs, hG, S_fm, hF, S_ad, S_hi, S_lo⟩ := id ST
  obtain ⟨fs, hr, hrun, hended, hW, hsame⟩ := X0.leave (v := some (.int (Int32.ofNat i1))) (fun h => by rw [Bd.returns] at h; cases h)
  refine ⟨_, _, castTop (ef_rp_ci m (Int32.ofNat i1) (Int32.ofNat i2) Fm ST.2.2.2.1) ?_, hrun, hended, _, _, rfl, ?_, ⟨_, rfl⟩, hW, hsame.mono (by decide) (by decide)⟩
  · show Go p e below s₁ m 0 #[.val (.int (Int32.ofNat i1)), .val (.int (Int32.ofNat i2)), .val Fm] [] _
    refine XS.iloadN X0.here hx rfl (hb hby d42_0) rfl ?_
    refine XS.ifNo X0.here hx rfl (hb hby d42_1) rfl ((if0 _ _).trans (flt (fun q => absurd ((own_lt (a := i1) (b := 0) (by omega) (by omega)).mp q) (by omega))).1) ?_
    refine XS.iloadN X0.here hx rfl (hb hby d42_4) rfl ?_
    refine XS.iloadN X0.here hx rfl (hb hby d42_5) rfl ?_
    refine XS.icmpYes X0.here hx rfl (pc0 := 6) (pc' := 16) rfl (hb hby d42_6) rfl (tlt ((own_lt (a := i1) (b := i2) (by omega) (by omega)).mpr (by omega))).1 (by decide) (by decide) ?_
    refine XS.iloadN X0.here hx rfl (hb hby d42_16) rfl ?_
    show Go p e below s₁ m 17 #[.val (.int (Int32.ofNat i1)), .val (.int (Int32.ofNat i2)), .val Fm] [(.int (Int32.ofNat i1))] _
    exact retI X0 hx Bd.returns (hb hby d42_17) hr
  · show Qpure (some (.int (Int32.ofNat i1))) h0 n0 _ s₁.heap _
    rw [e0]
    exact ⟨rfl, N0, rfl⟩
theorem pn2 : plainName "java/lang/String" = true := by first | (simp [plainName, overriddenIn]; done) | decide +kernel
theorem d41_0 : Dc cb2 0 (.iload_n 0) 1 := by decide +kernel
theorem d41_1 : Dc cb2 1 (.iload_n 1) 1 := by decide +kernel
theorem d41_2 : Dc cb2 2 (.getstatic 1053) 3 := by decide +kernel
theorem d41_5 : Dc cb2 5 (.invokestatic 1059) 3 := by decide +kernel
theorem pd0 : parseMethodDescriptor "(IILjava/util/function/BiFunction;)I" = some ⟨[.int, .int, (.object "java/util/function/BiFunction")], some .int⟩ := by decide +kernel
theorem d41_8 : Dc cb2 8 .pop 1 := by decide +kernel
theorem d41_9 : Dc cb2 9 .return_ 1 := by decide +kernel
theorem ef_rs_ci (m : MethodId) (x0 : Int32) (x1 : Int32) : entryFrame m #[(.int x0), (.int x1)] 2 = mkF m 0 #[.val (.int x0), .val (.int x1)] [] := by first | (simp [entryFrame, mkF, argsToLocals, Value.category]; done) | rfl
set_option maxRecDepth 65536 in
set_option maxHeartbeats 40000000 in
theorem rs_ci (l : Launch) (Z : State) (a0 : Array Value) (hw : Hw a0 Z) (ws : List Jvm.Cond) (G1 : Int32) (Fm : Value) (i1 : Nat) (i2 : Nat) (h0 : Heap) (n0 : Nat) (O0 : Old Z n0 h0) (ST : Stc Z G1 Fm) (hi : i1 < i2) (hB : i2 ≤ 500) :
    Met l Z h0 ws Y_32 jdk_42_method_155_code 2 none R_16 #[(.int (Int32.ofNat i1)), (.int (Int32.ofNat i2))] (Qpure none h0 n0) := by
  refine MetFree.of_bodySF (plainFor_of_name pn2) hisR ?_
  intro p e s m args below meth c s₁ Bd hml0 hP hK
  obtain ⟨rfl, hZ, hh⟩ := hP
  have hx := Bd.exec
  have hby := Bd.bytes
  have hml : c.maxLocals = 2 := hml0
  have hown : s.vm.findClass "java/lang/String" = some m.cls := findClass_of_methodNamed Bd.named
  have hnm := (name_of_methodNamed Bd.named Bd.method).1
  have X0 : Stand p l e R_16 s m #[(.int (Int32.ofNat i1)), (.int (Int32.ofNat i2))] below meth c s₁ [] 0 0 := Stand.of_body Bd
  have e0 : s₁.heap = h0 := by rw [← hh, Bd.state]; rfl
  have N0 := Fr.nil n0
  obtain ⟨S_cs, hG, S_fm, hF, S_ad, S_hi, S_lo⟩ := id ST
  obtain ⟨T1, X1, e1, st1⟩ := getS2 X0 hx hZ hown (host := "") (Or.inl (tw hw 263 rfl)) Via.refl e0 (S_fm.ext O0.2) (g := (mkF m 2 (q_25 i1 i2) [(.int (Int32.ofNat i2)), (.int (Int32.ofNat i1))])) rfl (hb hby d41_2)
  obtain ⟨_, T2, Lc2, X2, hQ2, st2⟩ := own_sc X1 hx hZ (y := Y_45) hown (tw hw 265 rfl) (tw hw 266 rfl) (by decide) (rp_ci l Z a0 hw [] G1 Fm i1 i2 h0 n0 O0 ST hi hB) (tw hw 267 rfl) (tw hw 264 rfl) e1 (W := 0) (by decide) (by decide) (Ls := (q_25 i1 i2)) (by rw [hml]; rfl) (argsL := [(.int (Int32.ofNat i1)), (.int (Int32.ofNat i2)), Fm]) (rest := []) (lenOf pd0 rfl) (Nat.le_of_eq rfl) (hb hby d41_5) rfl (by decide) (by decide)
  obtain ⟨rfl, Nq2, e2⟩ := hQ2
  have N2 := Fr.app N0 Nq2
  obtain ⟨fs, hr, hrun, hended, hW, hsame⟩ := X2.leave (v := none) (fun _ => rfl)
  refine ⟨_, _, castTop (ef_rs_ci m (Int32.ofNat i1) (Int32.ofNat i2)) ?_, hrun, hended, _, _, rfl, ?_, ⟨_, rfl⟩, hW, hsame.mono (by decide) (by decide)⟩
  · show Go p e below s₁ m 0 (q_25 i1 i2) [] _
    refine XS.iloadN X0.here hx rfl (hb hby d41_0) rfl ?_
    refine XS.iloadN X0.here hx rfl (hb hby d41_1) rfl ?_
    refine st1 _ ?_
    refine st2 _ ?_
    show Go p e below T2 m 8 (q_25 i1 i2) [(.int (Int32.ofNat i1))] _
    refine XS.pop X2.here hx rfl (hb hby d41_8) rfl rfl ?_
    show Go p e below T2 m 9 (q_25 i1 i2) [] _
    exact X2.returnOut hx Bd.returns (hb hby d41_9) hr
  · show Qpure none h0 n0 _ T2.heap _
    rw [e2]
    exact ⟨rfl, N2, rfl⟩
theorem d63_0 : Dc cb3 0 (.iload_n 0) 1 := by decide +kernel
theorem d63_1 : Dc cb3 1 (.aload_n 1) 1 := by decide +kernel
theorem d63_2 : Dc cb3 2 (.invokestatic 48) 3 := by decide +kernel
theorem pd1 : parseMethodDescriptor "([B)I" = some ⟨[(.array .byte)], some .int⟩ := by decide +kernel
theorem d63_5 : Dc cb3 5 (.invokestatic 414) 3 := by decide +kernel
theorem pd2 : parseMethodDescriptor "(II)V" = some ⟨[.int, .int], none⟩ := by decide +kernel
theorem d63_8 : Dc cb3 8 .return_ 1 := by decide +kernel
theorem ef_ru_ci (m : MethodId) (x0 : Int32) (x1 : Addr) : entryFrame m #[(.int x0), (.ref x1)] 2 = mkF m 0 #[.val (.int x0), .val (.ref x1)] [] := by first | (simp [entryFrame, mkF, argsToLocals, Value.category]; done) | rfl
set_option maxRecDepth 65536 in
set_option maxHeartbeats 40000000 in
theorem ru_ci (l : Launch) (Z : State) (a0 : Array Value) (hw : Hw a0 Z) (ws : List Jvm.Cond) (G1 : Int32) (Fm : Value) (a1 : Addr) (kA : ClassId) (LA : Nat) (vs : List Int32) (i1 : Nat) (h0 : Heap) (n0 : Nat) (O0 : Old Z n0 h0) (ST : Stc Z G1 Fm) (B1 : Bar Z h0 a1 kA LA vs) (hB : LA ≤ 500) (hi : 2 * i1 + 1 < LA) :
    Met l Z h0 ws Y_46 jdk_52_method_91_code 2 none R_17 #[(.int (Int32.ofNat i1)), (.ref a1)] (Qpure none h0 n0) := by
  refine MetFree.of_bodySF (plainFor_of_name pn0) hisR ?_
  intro p e s m args below meth c s₁ Bd hml0 hP hK
  obtain ⟨rfl, hZ, hh⟩ := hP
  have hx := Bd.exec
  have hby := Bd.bytes
  have hml : c.maxLocals = 2 := hml0
  have hown : s.vm.findClass "java/lang/StringUTF16" = some m.cls := findClass_of_methodNamed Bd.named
  have hnm := (name_of_methodNamed Bd.named Bd.method).1
  have X0 : Stand p l e R_17 s m #[(.int (Int32.ofNat i1)), (.ref a1)] below meth c s₁ [] 0 0 := Stand.of_body Bd
  have e0 : s₁.heap = h0 := by rw [← hh, Bd.state]; rfl
  have N0 := Fr.nil n0
  obtain ⟨S_cs, hG, S_fm, hF, S_ad, S_hi, S_lo⟩ := id ST
  have V_a1 := B1.1
  have l_a1 := B1.2
  have hN_a1 : (Int32.ofNat LA).toNatClampNeg = vs.length := by rw [l_a1]; exact own_n (by omega)
  have lt_a1 := V_a1.lt
  obtain ⟨_, T1, Lc1, X1, hQ1, st1⟩ := own_sc X0 hx hZ (y := Y_31) hown (tw hw 325 rfl) (tw hw 326 rfl) (by decide) (ru_len l Z a0 hw [] G1 Fm a1 kA LA vs h0 n0 O0 ST B1 hB) (tw hw 327 rfl) (tw hw 270 rfl) e0 (W := 1) (by decide) (by decide) (Ls := (q_60 i1 a1)) (by rw [hml]; rfl) (argsL := [(.ref a1)]) (rest := [(.int (Int32.ofNat i1))]) (lenOf pd1 rfl) (Nat.le_of_eq rfl) (hb hby d63_2) rfl (by decide) (by decide)
  obtain ⟨rfl, Nq1, e1⟩ := hQ1
  have N1 := Fr.app N0 Nq1
  obtain ⟨_, T2, Lc2, X2, hQ2, st2⟩ := own_sc X1 hx hZ (y := Y_32) hown (tw hw 343 rfl) (tw hw 261 rfl) (by decide) (rs_ci l Z a0 hw [] G1 Fm i1 (LA / 2) h0 n0 O0 ST (by omega) (by omega)) (tw hw 262 rfl) (tw hw 7 rfl) e1 (W := 0) (by decide) (by decide) (Ls := (q_60 i1 a1)) (by rw [hml]; rfl) (argsL := [(.int (Int32.ofNat i1)), (.int (Int32.ofNat (LA / 2)))]) (rest := []) (lenOf pd2 rfl) (Nat.le_of_eq rfl) (hb hby d63_5) rfl (by decide) (by decide)
  obtain ⟨rfl, Nq2, e2⟩ := hQ2
  have N2 := Fr.app N1 Nq2
  obtain ⟨fs, hr, hrun, hended, hW, hsame⟩ := X2.leave (v := none) (fun _ => rfl)
  refine ⟨_, _, castTop (ef_ru_ci m (Int32.ofNat i1) a1) ?_, hrun, hended, _, _, rfl, ?_, ⟨_, rfl⟩, hW, hsame.mono (by decide) (by decide)⟩
  · show Go p e below s₁ m 0 (q_60 i1 a1) [] _
    refine XS.iloadN X0.here hx rfl (hb hby d63_0) rfl ?_
    refine XS.aloadN X0.here hx rfl (hb hby d63_1) rfl rfl ?_
    refine st1 _ ?_
    refine st2 _ ?_
    show Go p e below T2 m 8 (q_60 i1 a1) [] _
    exact X2.returnOut hx Bd.returns (hb hby d63_8) hr
  · show Qpure none h0 n0 _ T2.heap _
    rw [e2]
    exact ⟨rfl, N2, rfl⟩
theorem d64_0 : Dc cb4 0 (.getstatic 44) 3 := by decide +kernel
theorem d64_3 : Dc cb4 3 (.ifCond .ne 25) 3 := by decide +kernel
theorem d64_28 : Dc cb4 28 (.iload_n 1) 1 := by decide +kernel
theorem d64_29 : Dc cb4 29 (.iconst 1) 1 := by decide +kernel
theorem d64_30 : Dc cb4 30 .ishl 1 := by decide +kernel
theorem d64_31 : Dc cb4 31 (.istore_n 1) 1 := by decide +kernel
theorem d64_32 : Dc cb4 32 (.aload_n 0) 1 := by decide +kernel
theorem d64_33 : Dc cb4 33 (.iload_n 1) 1 := by decide +kernel
theorem d64_34 : Dc cb4 34 (.iinc 1 1) 3 := by decide +kernel
theorem d64_37 : Dc cb4 37 .baload 1 := by decide +kernel
theorem d64_38 : Dc cb4 38 (.sipush 255) 3 := by decide +kernel
theorem d64_41 : Dc cb4 41 .iand 1 := by decide +kernel
theorem d64_42 : Dc cb4 42 (.getstatic 59) 3 := by decide +kernel
theorem d64_45 : Dc cb4 45 .ishl 1 := by decide +kernel
theorem d64_46 : Dc cb4 46 (.aload_n 0) 1 := by decide +kernel
theorem d64_47 : Dc cb4 47 (.iload_n 1) 1 := by decide +kernel
theorem d64_48 : Dc cb4 48 .baload 1 := by decide +kernel
theorem d64_49 : Dc cb4 49 (.sipush 255) 3 := by decide +kernel
theorem d64_52 : Dc cb4 52 .iand 1 := by decide +kernel
theorem d64_53 : Dc cb4 53 (.getstatic 63) 3 := by decide +kernel
theorem d64_56 : Dc cb4 56 .ishl 1 := by decide +kernel
theorem d64_57 : Dc cb4 57 .ior 1 := by decide +kernel
theorem d64_58 : Dc cb4 58 .i2c 1 := by decide +kernel
theorem d64_59 : Dc cb4 59 .ireturn 1 := by decide +kernel
theorem ef_ru_get (m : MethodId) (x0 : Addr) (x1 : Int32) : entryFrame m #[(.ref x0), (.int x1)] 2 = mkF m 0 #[.val (.ref x0), .val (.int x1)] [] := by first | (simp [entryFrame, mkF, argsToLocals, Value.category]; done) | rfl
set_option maxRecDepth 65536 in
set_option maxHeartbeats 40000000 in
theorem ru_get (l : Launch) (Z : State) (a0 : Array Value) (hw : Hw a0 Z) (ws : List Jvm.Cond) (G1 : Int32) (Fm : Value) (a1 : Addr) (kA : ClassId) (LA : Nat) (vs : List Int32) (i1 : Nat) (u : UInt16) (h0 : Heap) (n0 : Nat) (O0 : Old Z n0 h0) (ST : Stc Z G1 Fm) (B1 : Bar Z h0 a1 kA LA vs) (hB : LA ≤ 500) (hi : 2 * i1 + 1 < LA) (hlo : vs.getD (2 * i1) 0 = cLo u) (hhi : vs.getD (2 * i1 + 1) 0 = cHi u) :
    Met l Z h0 ws Y_33 jdk_52_method_5_code 2 (some .char) R_0 #[(.ref a1), (.int (Int32.ofNat i1))] (Qpure (some (.int (cv u))) h0 n0) := by
  refine MetFree.of_bodySF (plainFor_of_name pn0) hisR ?_
  intro p e s m args below meth c s₁ Bd hml0 hP hK
  obtain ⟨rfl, hZ, hh⟩ := hP
  have hx := Bd.exec
  have hby := Bd.bytes
  have hml : c.maxLocals = 2 := hml0
  have hown : s.vm.findClass "java/lang/StringUTF16" = some m.cls := findClass_of_methodNamed Bd.named
  have hnm := (name_of_methodNamed Bd.named Bd.method).1
  have X0 : Stand p l e R_0 s m #[(.ref a1), (.int (Int32.ofNat i1))] below meth c s₁ [] 0 0 := Stand.of_body Bd
  have e0 : s₁.heap = h0 := by rw [← hh, Bd.state]; rfl
  have N0 := Fr.nil n0
  obtain ⟨S_cs, hG, S_fm, hF, S_ad, S_hi, S_lo⟩ := id ST
  have V_a1 := B1.1
  have l_a1 := B1.2
  have hN_a1 : (Int32.ofNat LA).toNatClampNeg = vs.length := by rw [l_a1]; exact own_n (by omega)
  have lt_a1 := V_a1.lt
  obtain ⟨T1, X1, e1, st1⟩ := getS2 X0 hx hZ hown (host := "") (Or.inl (tw hw 297 rfl)) Via.refl e0 (S_ad.ext O0.2) (g := (mkF m 0 (q_3 a1 i1) [])) rfl (hb hby d64_0)
  obtain ⟨cl2, Ar2, hin2, hat2⟩ := own_at (j := (Int32.ofNat (2 * i1))) (i := 2 * i1) V_a1 hN_a1 (own_nn (n := 2 * i1) (by omega)) (own_n (n := 2 * i1) (by omega)) (by omega)
  rw [show (vs.getD (2 * i1) 0) = (cLo u) from hlo] at hat2
  obtain ⟨T3, X3, e3, st3⟩ := getS2 X1 hx hZ hown (host := "") (Or.inl (tw hw 298 rfl)) Via.refl e1 (S_hi.ext O0.2) (g := (mkF m 42 (q_22 a1 i1) [(.int ((cLo u) &&& (255 : Int32)))])) rfl (hb hby d64_42)
  obtain ⟨cl4, Ar4, hin4, hat4⟩ := own_at (j := (Int32.ofNat (2 * i1 + 1))) (i := 2 * i1 + 1) V_a1 hN_a1 (own_nn (n := 2 * i1 + 1) (by omega)) (own_n (n := 2 * i1 + 1) (by omega)) (by omega)
  rw [show (vs.getD (2 * i1 + 1) 0) = (cHi u) from hhi] at hat4
  obtain ⟨T5, X5, e5, st5⟩ := getS2 X3 hx hZ hown (host := "") (Or.inl (tw hw 299 rfl)) Via.refl e3 (S_lo.ext O0.2) (g := (mkF m 53 (q_22 a1 i1) [(.int ((cHi u) &&& (255 : Int32))), (.int ((cLo u) &&& (255 : Int32)))])) rfl (hb hby d64_53)
  obtain ⟨fs, hr, hrun, hended, hW, hsame⟩ := X5.leave (v := some (.int (cv u))) (fun h => by rw [Bd.returns] at h; cases h)
  refine ⟨_, _, castTop (ef_ru_get m a1 (Int32.ofNat i1)) ?_, hrun, hended, _, _, rfl, ?_, ⟨_, rfl⟩, hW, hsame.mono (by decide) (by decide)⟩
  · refine st1 _ ?_
    show Go p e below T1 m 3 (q_3 a1 i1) [(.int (1 : Int32))] _
    refine XS.ifYes X1.here hx rfl (pc0 := 3) (pc' := 28) rfl (hb hby d64_3) rfl ((if0 _ _).trans (feq (by decide)).2) (by decide) (by decide) ?_
    refine XS.iloadN X1.here hx rfl (hb hby d64_28) rfl ?_
    refine XS.iconst X1.here hx rfl (hb hby d64_29) ?_
    refine XS.ishl X1.here hx rfl (hb hby d64_30) rfl ?_
    show Go p e below T1 m 31 (q_3 a1 i1) [(.int ((Int32.ofNat i1) <<< ((1 : Int32) &&& 31)))] _
    rw [show ((Int32.ofNat i1) <<< ((1 : Int32) &&& 31)) = (Int32.ofNat (2 * i1)) from own_shl1 i1]
    show Go p e below T1 m 31 (q_3 a1 i1) [(.int (Int32.ofNat (2 * i1)))] _
    refine XS.istoreN X1.here hx rfl (hb hby d64_31) rfl (l' := #[.val (.ref a1), .val (.int (Int32.ofNat (2 * i1)))]) rfl ?_
    refine XS.aloadN X1.here hx rfl (hb hby d64_32) rfl rfl ?_
    refine XS.iloadN X1.here hx rfl (hb hby d64_33) rfl ?_
    refine XS.iinc X1.here hx rfl (hb hby d64_34) rfl (l' := #[.val (.ref a1), .val (.int ((Int32.ofNat (2 * i1)) + (1 : Int32)))]) rfl ?_
    show Go p e below T1 m 37 #[.val (.ref a1), .val (.int ((Int32.ofNat (2 * i1)) + (1 : Int32)))] [(.int (Int32.ofNat (2 * i1))), (.ref a1)] _
    rw [show ((Int32.ofNat (2 * i1)) + (1 : Int32)) = (Int32.ofNat (2 * i1 + 1)) from own_add (2 * i1) 1]
    show Go p e below T1 m 37 (q_22 a1 i1) [(.int (Int32.ofNat (2 * i1))), (.ref a1)] _
    refine X1.baloadBytes hx (j := (Int32.ofNat (2 * i1))) (v := (.int (cLo u))) (by rw [e1]; exact Ar2.1) (State.isArrayOf_alike hZ.alike Ar2.2.1) Ar2.2.2 hin2 hat2 (g := (mkF m 37 (q_22 a1 i1) [(.int (Int32.ofNat (2 * i1))), (.ref a1)])) rfl rfl (hb hby d64_37) _ ?_
    show Go p e below T1 m 38 (q_22 a1 i1) [(.int (cLo u))] _
    refine XS.sipush X1.here hx rfl (hb hby d64_38) ?_
    refine XS.iand X1.here hx rfl (hb hby d64_41) rfl ?_
    refine st3 _ ?_
    show Go p e below T3 m 45 (q_22 a1 i1) [(.int (0 : Int32)), (.int ((cLo u) &&& (255 : Int32)))] _
    refine XS.ishl X3.here hx rfl (hb hby d64_45) rfl ?_
    show Go p e below T3 m 46 (q_22 a1 i1) [(.int (((cLo u) &&& (255 : Int32)) <<< ((0 : Int32) &&& 31)))] _
    rw [show (((cLo u) &&& (255 : Int32)) <<< ((0 : Int32) &&& 31)) = ((cLo u) &&& (255 : Int32)) from own_shl0 _]
    show Go p e below T3 m 46 (q_22 a1 i1) [(.int ((cLo u) &&& (255 : Int32)))] _
    refine XS.aloadN X3.here hx rfl (hb hby d64_46) rfl rfl ?_
    refine XS.iloadN X3.here hx rfl (hb hby d64_47) rfl ?_
    show Go p e below T3 m 48 (q_22 a1 i1) [(.int (Int32.ofNat (2 * i1 + 1))), (.ref a1), (.int ((cLo u) &&& (255 : Int32)))] _
    refine X3.baloadBytes hx (j := (Int32.ofNat (2 * i1 + 1))) (v := (.int (cHi u))) (by rw [e3]; exact Ar4.1) (State.isArrayOf_alike hZ.alike Ar4.2.1) Ar4.2.2 hin4 hat4 (g := (mkF m 48 (q_22 a1 i1) [(.int (Int32.ofNat (2 * i1 + 1))), (.ref a1), (.int ((cLo u) &&& (255 : Int32)))])) rfl rfl (hb hby d64_48) _ ?_
    show Go p e below T3 m 49 (q_22 a1 i1) [(.int (cHi u)), (.int ((cLo u) &&& (255 : Int32)))] _
    refine XS.sipush X3.here hx rfl (hb hby d64_49) ?_
    refine XS.iand X3.here hx rfl (hb hby d64_52) rfl ?_
    refine st5 _ ?_
    show Go p e below T5 m 56 (q_22 a1 i1) [(.int (8 : Int32)), (.int ((cHi u) &&& (255 : Int32))), (.int ((cLo u) &&& (255 : Int32)))] _
    refine XS.ishl X5.here hx rfl (hb hby d64_56) rfl ?_
    refine XS.ior X5.here hx rfl (hb hby d64_57) rfl ?_
    refine XS.i2c X5.here hx rfl (hb hby d64_58) rfl ?_
    show Go p e below T5 m 59 (q_22 a1 i1) [(.int ((((cLo u) &&& (255 : Int32)) ||| (((cHi u) &&& (255 : Int32)) <<< ((8 : Int32) &&& 31))).toUInt32.toUInt16.toUInt32.toInt32))] _
    rw [show ((((cLo u) &&& (255 : Int32)) ||| (((cHi u) &&& (255 : Int32)) <<< ((8 : Int32) &&& 31))).toUInt32.toUInt16.toUInt32.toInt32) = (cv u) from own_get u]
    show Go p e below T5 m 59 (q_22 a1 i1) [(.int (cv u))] _
    exact own_retN X5 hx (own_cvc _) (t := .char) Bd.returns (by simp) (hb hby d64_59) hr
  · show Qpure (some (.int (cv u))) h0 n0 _ T5.heap _
    rw [e5]
    exact ⟨rfl, N0, rfl⟩
theorem d62_0 : Dc cb5 0 (.iload_n 1) 1 := by decide +kernel
theorem d62_1 : Dc cb5 1 (.aload_n 0) 1 := by decide +kernel
theorem d62_2 : Dc cb5 2 (.invokestatic 67) 3 := by decide +kernel
theorem pd3 : parseMethodDescriptor "(I[B)V" = some ⟨[.int, (.array .byte)], none⟩ := by decide +kernel
theorem d62_5 : Dc cb5 5 (.aload_n 0) 1 := by decide +kernel
theorem d62_6 : Dc cb5 6 (.iload_n 1) 1 := by decide +kernel
theorem d62_7 : Dc cb5 7 (.invokestatic 71) 3 := by decide +kernel
theorem pd4 : parseMethodDescriptor "([BI)C" = some ⟨[(.array .byte), .int], some .char⟩ := by decide +kernel
theorem d62_10 : Dc cb5 10 .ireturn 1 := by decide +kernel
theorem ef_ru_ch (m : MethodId) (x0 : Addr) (x1 : Int32) : entryFrame m #[(.ref x0), (.int x1)] 2 = mkF m 0 #[.val (.ref x0), .val (.int x1)] [] := by first | (simp [entryFrame, mkF, argsToLocals, Value.category]; done) | rfl
set_option maxRecDepth 65536 in
set_option maxHeartbeats 40000000 in
theorem ru_ch (l : Launch) (Z : State) (a0 : Array Value) (hw : Hw a0 Z) (ws : List Jvm.Cond) (G1 : Int32) (Fm : Value) (a1 : Addr) (kA : ClassId) (LA : Nat) (vs : List Int32) (i1 : Nat) (u : UInt16) (h0 : Heap) (n0 : Nat) (O0 : Old Z n0 h0) (ST : Stc Z G1 Fm) (B1 : Bar Z h0 a1 kA LA vs) (hB : LA ≤ 500) (hi : 2 * i1 + 1 < LA) (hlo : vs.getD (2 * i1) 0 = cLo u) (hhi : vs.getD (2 * i1 + 1) 0 = cHi u) :
    Met l Z h0 ws Y_47 jdk_52_method_83_code 2 (some .char) R_30 #[(.ref a1), (.int (Int32.ofNat i1))] (Qpure (some (.int (cv u))) h0 n0) := by
  refine MetFree.of_bodySF (plainFor_of_name pn0) hisR ?_
  intro p e s m args below meth c s₁ Bd hml0 hP hK
  obtain ⟨rfl, hZ, hh⟩ := hP
  have hx := Bd.exec
  have hby := Bd.bytes
  have hml : c.maxLocals = 2 := hml0
  have hown : s.vm.findClass "java/lang/StringUTF16" = some m.cls := findClass_of_methodNamed Bd.named
  have hnm := (name_of_methodNamed Bd.named Bd.method).1
  have X0 : Stand p l e R_30 s m #[(.ref a1), (.int (Int32.ofNat i1))] below meth c s₁ [] 0 0 := Stand.of_body Bd
  have e0 : s₁.heap = h0 := by rw [← hh, Bd.state]; rfl
  have N0 := Fr.nil n0
  obtain ⟨S_cs, hG, S_fm, hF, S_ad, S_hi, S_lo⟩ := id ST
  have V_a1 := B1.1
  have l_a1 := B1.2
  have hN_a1 : (Int32.ofNat LA).toNatClampNeg = vs.length := by rw [l_a1]; exact own_n (by omega)
  have lt_a1 := V_a1.lt
  obtain ⟨_, T1, Lc1, X1, hQ1, st1⟩ := own_sc X0 hx hZ (y := Y_46) hown (tw hw 340 rfl) (tw hw 341 rfl) (by decide) (ru_ci l Z a0 hw [] G1 Fm a1 kA LA vs i1 h0 n0 O0 ST B1 hB hi) (tw hw 342 rfl) (tw hw 270 rfl) e0 (W := 0) (by decide) (by decide) (Ls := (q_3 a1 i1)) (by rw [hml]; rfl) (argsL := [(.int (Int32.ofNat i1)), (.ref a1)]) (rest := []) (lenOf pd3 rfl) (Nat.le_of_eq rfl) (hb hby d62_2) rfl (by decide) (by decide)
  obtain ⟨rfl, Nq1, e1⟩ := hQ1
  have N1 := Fr.app N0 Nq1
  obtain ⟨_, T2, Lc2, X2, hQ2, st2⟩ := own_sc X1 hx hZ (y := Y_33) hown (tw hw 344 rfl) (tw hw 345 rfl) (by decide) (ru_get l Z a0 hw [] G1 Fm a1 kA LA vs i1 u h0 n0 O0 ST B1 hB hi hlo hhi) (tw hw 346 rfl) (tw hw 270 rfl) e1 (W := 0) (by decide) (by decide) (Ls := (q_3 a1 i1)) (by rw [hml]; rfl) (argsL := [(.ref a1), (.int (Int32.ofNat i1))]) (rest := []) (lenOf pd4 rfl) (Nat.le_of_eq rfl) (hb hby d62_7) rfl (by decide) (by decide)
  obtain ⟨rfl, Nq2, e2⟩ := hQ2
  have N2 := Fr.app N1 Nq2
  obtain ⟨fs, hr, hrun, hended, hW, hsame⟩ := X2.leave (v := some (.int (cv u))) (fun h => by rw [Bd.returns] at h; cases h)
  refine ⟨_, _, castTop (ef_ru_ch m a1 (Int32.ofNat i1)) ?_, hrun, hended, _, _, rfl, ?_, ⟨_, rfl⟩, hW, hsame.mono (by decide) (by decide)⟩
  · show Go p e below s₁ m 0 (q_3 a1 i1) [] _
    refine XS.iloadN X0.here hx rfl (hb hby d62_0) rfl ?_
    refine XS.aloadN X0.here hx rfl (hb hby d62_1) rfl rfl ?_
    refine st1 _ ?_
    show Go p e below T1 m 5 (q_3 a1 i1) [] _
    refine XS.aloadN X1.here hx rfl (hb hby d62_5) rfl rfl ?_
    refine XS.iloadN X1.here hx rfl (hb hby d62_6) rfl ?_
    refine st2 _ ?_
    show Go p e below T2 m 10 (q_3 a1 i1) [(.int (cv u))] _
    exact own_retN X2 hx (own_cvc _) (t := .char) Bd.returns (by simp) (hb hby d62_10) hr
  · show Qpure (some (.int (cv u))) h0 n0 _ T2.heap _
    rw [e2]
    exact ⟨rfl, N2, rfl⟩
theorem pn3 : plainName "java/lang/StringLatin1" = true := by first | (simp [plainName, overriddenIn]; done) | decide +kernel
theorem d40_0 : Dc cb6 0 (.iload_n 1) 1 := by decide +kernel
theorem d40_1 : Dc cb6 1 (.aload_n 0) 1 := by decide +kernel
theorem d40_2 : Dc cb6 2 .arraylength 1 := by decide +kernel
theorem d40_3 : Dc cb6 3 (.invokestatic 9) 3 := by decide +kernel
theorem d40_6 : Dc cb6 6 (.aload_n 0) 1 := by decide +kernel
theorem d40_7 : Dc cb6 7 (.iload_n 1) 1 := by decide +kernel
theorem d40_8 : Dc cb6 8 .baload 1 := by decide +kernel
theorem d40_9 : Dc cb6 9 (.sipush 255) 3 := by decide +kernel
theorem d40_12 : Dc cb6 12 .iand 1 := by decide +kernel
theorem d40_13 : Dc cb6 13 .i2c 1 := by decide +kernel
theorem d40_14 : Dc cb6 14 .ireturn 1 := by decide +kernel
theorem ef_rl_ch (m : MethodId) (x0 : Addr) (x1 : Int32) : entryFrame m #[(.ref x0), (.int x1)] 2 = mkF m 0 #[.val (.ref x0), .val (.int x1)] [] := by first | (simp [entryFrame, mkF, argsToLocals, Value.category]; done) | rfl
set_option maxRecDepth 65536 in
set_option maxHeartbeats 40000000 in
theorem rl_ch (l : Launch) (Z : State) (a0 : Array Value) (hw : Hw a0 Z) (ws : List Jvm.Cond) (G1 : Int32) (Fm : Value) (a1 : Addr) (kA : ClassId) (LA : Nat) (vs : List Int32) (i1 : Nat) (u : UInt16) (h0 : Heap) (n0 : Nat) (O0 : Old Z n0 h0) (ST : Stc Z G1 Fm) (B1 : Bar Z h0 a1 kA LA vs) (hB : LA ≤ 500) (hi : i1 < LA) (hlo : vs.getD i1 0 = cLo u) (hu : u < 256) :
    Met l Z h0 ws Y_48 jdk_43_method_2_code 2 (some .char) R_17 #[(.ref a1), (.int (Int32.ofNat i1))] (Qpure (some (.int (cv u))) h0 n0) := by
  refine MetFree.of_bodySF (plainFor_of_name pn3) hisR ?_
  intro p e s m args below meth c s₁ Bd hml0 hP hK
  obtain ⟨rfl, hZ, hh⟩ := hP
  have hx := Bd.exec
  have hby := Bd.bytes
  have hml : c.maxLocals = 2 := hml0
  have hown : s.vm.findClass "java/lang/StringLatin1" = some m.cls := findClass_of_methodNamed Bd.named
  have hnm := (name_of_methodNamed Bd.named Bd.method).1
  have X0 : Stand p l e R_17 s m #[(.ref a1), (.int (Int32.ofNat i1))] below meth c s₁ [] 0 0 := Stand.of_body Bd
  have e0 : s₁.heap = h0 := by rw [← hh, Bd.state]; rfl
  have N0 := Fr.nil n0
  obtain ⟨S_cs, hG, S_fm, hF, S_ad, S_hi, S_lo⟩ := id ST
  have V_a1 := B1.1
  have l_a1 := B1.2
  have hN_a1 : (Int32.ofNat LA).toNatClampNeg = vs.length := by rw [l_a1]; exact own_n (by omega)
  have lt_a1 := V_a1.lt
  obtain ⟨cl1, Ar1, q1, Sz1, Nn1, Ha1, Gf1⟩ := id V_a1
  obtain ⟨_, T2, Lc2, X2, hQ2, st2⟩ := own_sc X0 hx hZ (y := Y_32) hown (tw hw 260 rfl) (tw hw 261 rfl) (by decide) (rs_ci l Z a0 hw [] G1 Fm i1 LA h0 n0 O0 ST hi hB) (tw hw 262 rfl) (tw hw 7 rfl) e0 (W := 0) (by decide) (by decide) (Ls := (q_3 a1 i1)) (by rw [hml]; rfl) (argsL := [(.int (Int32.ofNat i1)), (.int (Int32.ofNat LA))]) (rest := []) (lenOf pd2 rfl) (Nat.le_of_eq rfl) (hb hby d40_3) rfl (by decide) (by decide)
  obtain ⟨rfl, Nq2, e2⟩ := hQ2
  have N2 := Fr.app N0 Nq2
  obtain ⟨cl3, Ar3, hin3, hat3⟩ := own_at (j := (Int32.ofNat i1)) (i := i1) V_a1 hN_a1 (own_nn (n := i1) (by omega)) (own_n (n := i1) (by omega)) (by omega)
  rw [show (vs.getD i1 0) = (cLo u) from hlo] at hat3
  obtain ⟨fs, hr, hrun, hended, hW, hsame⟩ := X2.leave (v := some (.int (cv u))) (fun h => by rw [Bd.returns] at h; cases h)
  refine ⟨_, _, castTop (ef_rl_ch m a1 (Int32.ofNat i1)) ?_, hrun, hended, _, _, rfl, ?_, ⟨_, rfl⟩, hW, hsame.mono (by decide) (by decide)⟩
  · show Go p e below s₁ m 0 (q_3 a1 i1) [] _
    refine XS.iloadN X0.here hx rfl (hb hby d40_0) rfl ?_
    refine XS.aloadN X0.here hx rfl (hb hby d40_1) rfl rfl ?_
    show Go p e below s₁ m 2 (q_3 a1 i1) [(.ref a1), (.int (Int32.ofNat i1))] _
    refine X0.arraylength hx (by rw [e0]; exact Ar1.1) (State.isArrayOf_alike hZ.alike Ar1.2.1) (g := (mkF m 2 (q_3 a1 i1) [(.ref a1), (.int (Int32.ofNat i1))])) rfl rfl (hb hby d40_2) _ ?_
    rw [len_of Sz1 Nn1]
    refine st2 _ ?_
    show Go p e below T2 m 6 (q_3 a1 i1) [] _
    refine XS.aloadN X2.here hx rfl (hb hby d40_6) rfl rfl ?_
    refine XS.iloadN X2.here hx rfl (hb hby d40_7) rfl ?_
    show Go p e below T2 m 8 (q_3 a1 i1) [(.int (Int32.ofNat i1)), (.ref a1)] _
    refine X2.baloadBytes hx (j := (Int32.ofNat i1)) (v := (.int (cLo u))) (by rw [e2]; exact Ar3.1) (State.isArrayOf_alike hZ.alike Ar3.2.1) Ar3.2.2 hin3 hat3 (g := (mkF m 8 (q_3 a1 i1) [(.int (Int32.ofNat i1)), (.ref a1)])) rfl rfl (hb hby d40_8) _ ?_
    show Go p e below T2 m 9 (q_3 a1 i1) [(.int (cLo u))] _
    refine XS.sipush X2.here hx rfl (hb hby d40_9) ?_
    refine XS.iand X2.here hx rfl (hb hby d40_12) rfl ?_
    refine XS.i2c X2.here hx rfl (hb hby d40_13) rfl ?_
    show Go p e below T2 m 14 (q_3 a1 i1) [(.int (((cLo u) &&& (255 : Int32)).toUInt32.toUInt16.toUInt32.toInt32))] _
    rw [show (((cLo u) &&& (255 : Int32)).toUInt32.toUInt16.toUInt32.toInt32) = (cv u) from own_rdc hu]
    show Go p e below T2 m 14 (q_3 a1 i1) [(.int (cv u))] _
    exact own_retN X2 hx (own_cvc _) (t := .char) Bd.returns (by simp) (hb hby d40_14) hr
  · show Qpure (some (.int (cv u))) h0 n0 _ T2.heap _
    rw [e2]
    exact ⟨rfl, N2, rfl⟩
theorem d6_0 : Dc cb7 0 (.getstatic 38) 3 := by decide +kernel
theorem d6_3 : Dc cb7 3 (.ifCond .eq 10) 3 := by decide +kernel
theorem d6_6 : Dc cb7 6 (.aload_n 0) 1 := by decide +kernel
theorem d6_7 : Dc cb7 7 (.getfield 15) 3 := by decide +kernel
theorem d6_10 : Dc cb7 10 (.goto 4) 3 := by decide +kernel
theorem d6_14 : Dc cb7 14 .ireturn 1 := by decide +kernel
theorem ef_rs_cd0 (m : MethodId) (x0 : Addr) : entryFrame m #[(.ref x0)] 1 = mkF m 0 #[.val (.ref x0)] [] := by first | (simp [entryFrame, mkF, argsToLocals, Value.category]; done) | rfl
set_option maxRecDepth 65536 in
set_option maxHeartbeats 40000000 in
theorem rs_cd0 (l : Launch) (Z : State) (a0 : Array Value) (hw : Hw a0 Z) (ws : List Jvm.Cond) (G1 : Int32) (Fm : Value) (a1 : Addr) (bA : Addr) (kA : ClassId) (cs : List UInt16) (h0 : Heap) (n0 : Nat) (O0 : Old Z n0 h0) (ST : Stc Z G1 Fm) (HS : Str0 Z h0 a1 bA kA cs) (hc : cs.length ≤ 120) :
    Met l Z h0 ws Y_1 jdk_42_method_152_code 1 (some .byte) R_0 #[(.ref a1)] (Qpure (some (.int (0 : Int32))) h0 n0) := by
  refine MetFree.of_bodySF (plainFor_of_name pn2) hisR ?_
  intro p e s m args below meth c s₁ Bd hml0 hP hK
  obtain ⟨rfl, hZ, hh⟩ := hP
  have hx := Bd.exec
  have hby := Bd.bytes
  have hml : c.maxLocals = 1 := hml0
  have hown : s.vm.findClass "java/lang/String" = some m.cls := findClass_of_methodNamed Bd.named
  have hnm := (name_of_methodNamed Bd.named Bd.method).1
  have X0 : Stand p l e R_0 s m #[(.ref a1)] below meth c s₁ [] 0 0 := Stand.of_body Bd
  have e0 : s₁.heap = h0 := by rw [← hh, Bd.state]; rfl
  have N0 := Fr.nil n0
  obtain ⟨S_cs, hG, S_fm, hF, S_ad, S_hi, S_lo⟩ := id ST
  obtain ⟨E_a1, Fc_a1, Fv_a1, B_bA, hu_a1⟩ := id HS
  have lt_a1 := E_a1.lt
  have V_bA := B_bA.1
  have l_bA := B_bA.2
  have hN_bA : (Int32.ofNat cs.length).toNatClampNeg = (cs.map cLo).length := by rw [l_bA]; exact own_n (by omega)
  have lt_bA := V_bA.lt
  obtain ⟨T1, X1, e1, st1⟩ := getS2 X0 hx hZ hown (host := "") (Or.inl (tw hw 38 rfl)) Via.refl e0 (S_cs.ext O0.2) (g := (mkF m 0 (q_1 a1) [])) rfl (hb hby d6_0)
  obtain ⟨T2, X2, e2, st2⟩ := getF X1 hx hZ hown (host := "") (Or.inl (tw hw 26 rfl)) Via.refl e1 Fc_a1 (g := (mkF m 7 (q_1 a1) [(.ref a1)])) rfl rfl (hb hby d6_7)
  obtain ⟨fs, hr, hrun, hended, hW, hsame⟩ := X2.leave (v := some (.int (0 : Int32))) (fun h => by rw [Bd.returns] at h; cases h)
  refine ⟨_, _, castTop (ef_rs_cd0 m a1) ?_, hrun, hended, _, _, rfl, ?_, ⟨_, rfl⟩, hW, hsame.mono (by decide) (by decide)⟩
  · refine st1 _ ?_
    show Go p e below T1 m 3 (q_1 a1) [(.int G1)] _
    refine XS.ifNo X1.here hx rfl (hb hby d6_3) rfl ((if0 _ _).trans (feq hG).1) ?_
    refine XS.aloadN X1.here hx rfl (hb hby d6_6) rfl rfl ?_
    refine st2 _ ?_
    show Go p e below T2 m 10 (q_1 a1) [(.int (0 : Int32))] _
    refine XS.goto X2.here hx rfl (pc0 := 10) (pc' := 14) rfl (hb hby d6_10) (by decide) (by decide) ?_
    show Go p e below T2 m 14 (q_1 a1) [(.int (0 : Int32))] _
    exact retN X2 hx (t := .byte) Bd.returns (by simp) (hb hby d6_14) hr
  · show Qpure (some (.int (0 : Int32))) h0 n0 _ T2.heap _
    rw [e2]
    exact ⟨rfl, N0, rfl⟩
theorem d39_0 : Dc cb8 0 (.getstatic 38) 3 := by decide +kernel
theorem d39_3 : Dc cb8 3 (.ifCond .eq 14) 3 := by decide +kernel
theorem d39_6 : Dc cb8 6 (.aload_n 0) 1 := by decide +kernel
theorem d39_7 : Dc cb8 7 (.getfield 15) 3 := by decide +kernel
theorem d39_10 : Dc cb8 10 (.ifCond .ne 7) 3 := by decide +kernel
theorem d39_13 : Dc cb8 13 (.iconst 1) 1 := by decide +kernel
theorem d39_14 : Dc cb8 14 (.goto 4) 3 := by decide +kernel
theorem d39_18 : Dc cb8 18 .ireturn 1 := by decide +kernel
theorem ef_rs_il0 (m : MethodId) (x0 : Addr) : entryFrame m #[(.ref x0)] 1 = mkF m 0 #[.val (.ref x0)] [] := by first | (simp [entryFrame, mkF, argsToLocals, Value.category]; done) | rfl
set_option maxRecDepth 65536 in
set_option maxHeartbeats 40000000 in
theorem rs_il0 (l : Launch) (Z : State) (a0 : Array Value) (hw : Hw a0 Z) (ws : List Jvm.Cond) (G1 : Int32) (Fm : Value) (a1 : Addr) (bA : Addr) (kA : ClassId) (cs : List UInt16) (h0 : Heap) (n0 : Nat) (O0 : Old Z n0 h0) (ST : Stc Z G1 Fm) (HS : Str0 Z h0 a1 bA kA cs) (hc : cs.length ≤ 120) :
    Met l Z h0 ws Y_12 jdk_42_method_154_code 1 (some .boolean) R_0 #[(.ref a1)] (Qpure (some (.int (1 : Int32))) h0 n0) := by
  refine MetFree.of_bodySF (plainFor_of_name pn2) hisR ?_
  intro p e s m args below meth c s₁ Bd hml0 hP hK
  obtain ⟨rfl, hZ, hh⟩ := hP
  have hx := Bd.exec
  have hby := Bd.bytes
  have hml : c.maxLocals = 1 := hml0
  have hown : s.vm.findClass "java/lang/String" = some m.cls := findClass_of_methodNamed Bd.named
  have hnm := (name_of_methodNamed Bd.named Bd.method).1
  have X0 : Stand p l e R_0 s m #[(.ref a1)] below meth c s₁ [] 0 0 := Stand.of_body Bd
  have e0 : s₁.heap = h0 := by rw [← hh, Bd.state]; rfl
  have N0 := Fr.nil n0
  obtain ⟨S_cs, hG, S_fm, hF, S_ad, S_hi, S_lo⟩ := id ST
  obtain ⟨E_a1, Fc_a1, Fv_a1, B_bA, hu_a1⟩ := id HS
  have lt_a1 := E_a1.lt
  have V_bA := B_bA.1
  have l_bA := B_bA.2
  have hN_bA : (Int32.ofNat cs.length).toNatClampNeg = (cs.map cLo).length := by rw [l_bA]; exact own_n (by omega)
  have lt_bA := V_bA.lt
  obtain ⟨T1, X1, e1, st1⟩ := getS2 X0 hx hZ hown (host := "") (Or.inl (tw hw 38 rfl)) Via.refl e0 (S_cs.ext O0.2) (g := (mkF m 0 (q_1 a1) [])) rfl (hb hby d39_0)
  obtain ⟨T2, X2, e2, st2⟩ := getF X1 hx hZ hown (host := "") (Or.inl (tw hw 26 rfl)) Via.refl e1 Fc_a1 (g := (mkF m 7 (q_1 a1) [(.ref a1)])) rfl rfl (hb hby d39_7)
  obtain ⟨fs, hr, hrun, hended, hW, hsame⟩ := X2.leave (v := some (.int (1 : Int32))) (fun h => by rw [Bd.returns] at h; cases h)
  refine ⟨_, _, castTop (ef_rs_il0 m a1) ?_, hrun, hended, _, _, rfl, ?_, ⟨_, rfl⟩, hW, hsame.mono (by decide) (by decide)⟩
  · refine st1 _ ?_
    show Go p e below T1 m 3 (q_1 a1) [(.int G1)] _
    refine XS.ifNo X1.here hx rfl (hb hby d39_3) rfl ((if0 _ _).trans (feq hG).1) ?_
    refine XS.aloadN X1.here hx rfl (hb hby d39_6) rfl rfl ?_
    refine st2 _ ?_
    show Go p e below T2 m 10 (q_1 a1) [(.int (0 : Int32))] _
    refine XS.ifNo X2.here hx rfl (hb hby d39_10) rfl ((if0 _ _).trans (teq (by decide)).2) ?_
    refine XS.iconst X2.here hx rfl (hb hby d39_13) ?_
    refine XS.goto X2.here hx rfl (pc0 := 14) (pc' := 18) rfl (hb hby d39_14) (by decide) (by decide) ?_
    show Go p e below T2 m 18 (q_1 a1) [(.int (1 : Int32))] _
    exact retN X2 hx (t := .boolean) Bd.returns (by simp) (hb hby d39_18) hr
  · show Qpure (some (.int (1 : Int32))) h0 n0 _ T2.heap _
    rw [e2]
    exact ⟨rfl, N0, rfl⟩
theorem d5_0 : Dc cb9 0 (.aload_n 0) 1 := by decide +kernel
theorem d5_1 : Dc cb9 1 (.getfield 9) 3 := by decide +kernel
theorem d5_4 : Dc cb9 4 .arraylength 1 := by decide +kernel
theorem d5_5 : Dc cb9 5 (.aload_n 0) 1 := by decide +kernel
theorem d5_6 : Dc cb9 6 (.invokevirtual 335) 3 := by decide +kernel
theorem pd5 : parseMethodDescriptor "()B" = some ⟨[], some .byte⟩ := by decide +kernel
theorem d5_9 : Dc cb9 9 .ishr 1 := by decide +kernel
theorem d5_10 : Dc cb9 10 .ireturn 1 := by decide +kernel
theorem ef_rs_len0 (m : MethodId) (x0 : Addr) : entryFrame m #[(.ref x0)] 1 = mkF m 0 #[.val (.ref x0)] [] := by first | (simp [entryFrame, mkF, argsToLocals, Value.category]; done) | rfl
set_option maxRecDepth 65536 in
set_option maxHeartbeats 40000000 in
theorem rs_len0 (l : Launch) (Z : State) (a0 : Array Value) (hw : Hw a0 Z) (ws : List Jvm.Cond) (G1 : Int32) (Fm : Value) (a1 : Addr) (bA : Addr) (kA : ClassId) (cs : List UInt16) (h0 : Heap) (n0 : Nat) (O0 : Old Z n0 h0) (ST : Stc Z G1 Fm) (HS : Str0 Z h0 a1 bA kA cs) (hc : cs.length ≤ 120) :
    Met l Z h0 ws Y_2 jdk_42_method_54_code 1 (some .int) R_3 #[(.ref a1)] (Qpure (some (.int (Int32.ofNat cs.length))) h0 n0) := by
  refine MetFree.of_bodySF (plainFor_of_name pn2) hisR ?_
  intro p e s m args below meth c s₁ Bd hml0 hP hK
  obtain ⟨rfl, hZ, hh⟩ := hP
  have hx := Bd.exec
  have hby := Bd.bytes
  have hml : c.maxLocals = 1 := hml0
  have hown : s.vm.findClass "java/lang/String" = some m.cls := findClass_of_methodNamed Bd.named
  have hnm := (name_of_methodNamed Bd.named Bd.method).1
  have X0 : Stand p l e R_3 s m #[(.ref a1)] below meth c s₁ [] 0 0 := Stand.of_body Bd
  have e0 : s₁.heap = h0 := by rw [← hh, Bd.state]; rfl
  have N0 := Fr.nil n0
  obtain ⟨S_cs, hG, S_fm, hF, S_ad, S_hi, S_lo⟩ := id ST
  obtain ⟨E_a1, Fc_a1, Fv_a1, B_bA, hu_a1⟩ := id HS
  have lt_a1 := E_a1.lt
  have V_bA := B_bA.1
  have l_bA := B_bA.2
  have hN_bA : (Int32.ofNat cs.length).toNatClampNeg = (cs.map cLo).length := by rw [l_bA]; exact own_n (by omega)
  have lt_bA := V_bA.lt
  obtain ⟨T1, X1, e1, st1⟩ := getF X0 hx hZ hown (host := "") (Or.inl (tw hw 25 rfl)) Via.refl e0 Fv_a1 (g := (mkF m 1 (q_1 a1) [(.ref a1)])) rfl rfl (hb hby d5_1)
  obtain ⟨cl2, Ar2, q2, Sz2, Nn2, Ha2, Gf2⟩ := id V_bA
  obtain ⟨_, T3, Lc3, X3, hQ3, st3⟩ := own_vc X1 hx hZ (y := Y_1) hown (tw hw 33 rfl) (tw hw 34 rfl) (tw hw 36 rfl) (tw hw 35 rfl) (by decide) (rs_cd0 l Z a0 hw [] G1 Fm a1 bA kA cs h0 n0 O0 ST HS hc) (tw hw 37 rfl) (tw hw 7 rfl) e1 E_a1 (W := 1) (by decide) (by decide) (Ls := (q_1 a1)) (by rw [hml]; rfl) (argsL := []) (rest := [(.int (Int32.ofNat cs.length))]) (lenOf pd5 rfl) (Nat.le_of_eq rfl) (hb hby d5_6) rfl (by decide) (by decide)
  obtain ⟨rfl, Nq3, e3⟩ := hQ3
  have N3 := Fr.app N0 Nq3
  obtain ⟨fs, hr, hrun, hended, hW, hsame⟩ := X3.leave (v := some (.int (Int32.ofNat cs.length))) (fun h => by rw [Bd.returns] at h; cases h)
  refine ⟨_, _, castTop (ef_rs_len0 m a1) ?_, hrun, hended, _, _, rfl, ?_, ⟨_, rfl⟩, hW, hsame.mono (by decide) (by decide)⟩
  · show Go p e below s₁ m 0 (q_1 a1) [] _
    refine XS.aloadN X0.here hx rfl (hb hby d5_0) rfl rfl ?_
    refine st1 _ ?_
    show Go p e below T1 m 4 (q_1 a1) [(.ref bA)] _
    refine X1.arraylength hx (by rw [e1]; exact Ar2.1) (State.isArrayOf_alike hZ.alike Ar2.2.1) (g := (mkF m 4 (q_1 a1) [(.ref bA)])) rfl rfl (hb hby d5_4) _ ?_
    rw [len_of Sz2 Nn2]
    show Go p e below T1 m 5 (q_1 a1) [(.int (Int32.ofNat cs.length))] _
    refine XS.aloadN X1.here hx rfl (hb hby d5_5) rfl rfl ?_
    refine st3 _ ?_
    show Go p e below T3 m 9 (q_1 a1) [(.int (0 : Int32)), (.int (Int32.ofNat cs.length))] _
    refine XS.ishr X3.here hx rfl (hb hby d5_9) rfl ?_
    show Go p e below T3 m 10 (q_1 a1) [(.int ((Int32.ofNat cs.length) >>> ((0 : Int32) &&& 31)))] _
    rw [show ((Int32.ofNat cs.length) >>> ((0 : Int32) &&& 31)) = (Int32.ofNat cs.length) from own_shr0 _]
    show Go p e below T3 m 10 (q_1 a1) [(.int (Int32.ofNat cs.length))] _
    exact retI X3 hx Bd.returns (hb hby d5_10) hr
  · show Qpure (some (.int (Int32.ofNat cs.length))) h0 n0 _ T3.heap _
    rw [e3]
    exact ⟨rfl, N3, rfl⟩
theorem d38_0 : Dc cb10 0 (.aload_n 0) 1 := by decide +kernel
theorem d38_1 : Dc cb10 1 (.invokevirtual 492) 3 := by decide +kernel
theorem pd6 : parseMethodDescriptor "()Z" = some ⟨[], some .boolean⟩ := by decide +kernel
theorem d38_4 : Dc cb10 4 (.ifCond .eq 12) 3 := by decide +kernel
theorem d38_7 : Dc cb10 7 (.aload_n 0) 1 := by decide +kernel
theorem d38_8 : Dc cb10 8 (.getfield 9) 3 := by decide +kernel
theorem d38_11 : Dc cb10 11 (.iload_n 1) 1 := by decide +kernel
theorem d38_12 : Dc cb10 12 (.invokestatic 495) 3 := by decide +kernel
theorem d38_15 : Dc cb10 15 .ireturn 1 := by decide +kernel
theorem ef_rs_ch0 (m : MethodId) (x0 : Addr) (x1 : Int32) : entryFrame m #[(.ref x0), (.int x1)] 2 = mkF m 0 #[.val (.ref x0), .val (.int x1)] [] := by first | (simp [entryFrame, mkF, argsToLocals, Value.category]; done) | rfl
set_option maxRecDepth 65536 in
set_option maxHeartbeats 40000000 in
theorem rs_ch0 (l : Launch) (Z : State) (a0 : Array Value) (hw : Hw a0 Z) (ws : List Jvm.Cond) (G1 : Int32) (Fm : Value) (a1 : Addr) (bA : Addr) (kA : ClassId) (cs : List UInt16) (i1 : Nat) (h0 : Heap) (n0 : Nat) (O0 : Old Z n0 h0) (ST : Stc Z G1 Fm) (HS : Str0 Z h0 a1 bA kA cs) (hc : cs.length ≤ 120) (hi : i1 < cs.length) :
    Met l Z h0 ws Y_0 jdk_42_method_56_code 2 (some .char) R_11 #[(.ref a1), (.int (Int32.ofNat i1))] (Qpure (some (.int (cv (cs.getD i1 0)))) h0 n0) := by
  refine MetFree.of_bodySF (plainFor_of_name pn2) hisR ?_
  intro p e s m args below meth c s₁ Bd hml0 hP hK
  obtain ⟨rfl, hZ, hh⟩ := hP
  have hx := Bd.exec
  have hby := Bd.bytes
  have hml : c.maxLocals = 2 := hml0
  have hown : s.vm.findClass "java/lang/String" = some m.cls := findClass_of_methodNamed Bd.named
  have hnm := (name_of_methodNamed Bd.named Bd.method).1
  have X0 : Stand p l e R_11 s m #[(.ref a1), (.int (Int32.ofNat i1))] below meth c s₁ [] 0 0 := Stand.of_body Bd
  have e0 : s₁.heap = h0 := by rw [← hh, Bd.state]; rfl
  have N0 := Fr.nil n0
  obtain ⟨S_cs, hG, S_fm, hF, S_ad, S_hi, S_lo⟩ := id ST
  obtain ⟨E_a1, Fc_a1, Fv_a1, B_bA, hu_a1⟩ := id HS
  have lt_a1 := E_a1.lt
  have V_bA := B_bA.1
  have l_bA := B_bA.2
  have hN_bA : (Int32.ofNat cs.length).toNatClampNeg = (cs.map cLo).length := by rw [l_bA]; exact own_n (by omega)
  have lt_bA := V_bA.lt
  obtain ⟨_, T1, Lc1, X1, hQ1, st1⟩ := own_vc X0 hx hZ (y := Y_12) hown (tw hw 251 rfl) (tw hw 252 rfl) (tw hw 254 rfl) (tw hw 253 rfl) (by decide) (rs_il0 l Z a0 hw [] G1 Fm a1 bA kA cs h0 n0 O0 ST HS hc) (tw hw 255 rfl) (tw hw 7 rfl) e0 E_a1 (W := 0) (by decide) (by decide) (Ls := (q_3 a1 i1)) (by rw [hml]; rfl) (argsL := []) (rest := []) (lenOf pd6 rfl) (Nat.le_of_eq rfl) (hb hby d38_1) rfl (by decide) (by decide)
  obtain ⟨rfl, Nq1, e1⟩ := hQ1
  have N1 := Fr.app N0 Nq1
  obtain ⟨T2, X2, e2, st2⟩ := getF X1 hx hZ hown (host := "") (Or.inl (tw hw 25 rfl)) Via.refl e1 Fv_a1 (g := (mkF m 8 (q_3 a1 i1) [(.ref a1)])) rfl rfl (hb hby d38_8)
  obtain ⟨_, T3, Lc3, X3, hQ3, st3⟩ := own_sc X2 hx hZ (y := Y_48) hown (tw hw 256 rfl) (tw hw 257 rfl) (by decide) (rl_ch l Z a0 hw [] G1 Fm bA kA cs.length (cs.map cLo) i1 (cs.getD i1 0) h0 n0 O0 ST B_bA (by omega) hi (own_lod hi) (own_up hu_a1 hi)) (tw hw 259 rfl) (tw hw 258 rfl) e2 (W := 0) (by decide) (by decide) (Ls := (q_3 a1 i1)) (by rw [hml]; rfl) (argsL := [(.ref bA), (.int (Int32.ofNat i1))]) (rest := []) (lenOf pd4 rfl) (Nat.le_of_eq rfl) (hb hby d38_12) rfl (by decide) (by decide)
  obtain ⟨rfl, Nq3, e3⟩ := hQ3
  have N3 := Fr.app N1 Nq3
  obtain ⟨fs, hr, hrun, hended, hW, hsame⟩ := X3.leave (v := some (.int (cv (cs.getD i1 0)))) (fun h => by rw [Bd.returns] at h; cases h)
  refine ⟨_, _, castTop (ef_rs_ch0 m a1 (Int32.ofNat i1)) ?_, hrun, hended, _, _, rfl, ?_, ⟨_, rfl⟩, hW, hsame.mono (by decide) (by decide)⟩
  · show Go p e below s₁ m 0 (q_3 a1 i1) [] _
    refine XS.aloadN X0.here hx rfl (hb hby d38_0) rfl rfl ?_
    refine st1 _ ?_
    show Go p e below T1 m 4 (q_3 a1 i1) [(.int (1 : Int32))] _
    refine XS.ifNo X1.here hx rfl (hb hby d38_4) rfl ((if0 _ _).trans (feq (by decide)).1) ?_
    refine XS.aloadN X1.here hx rfl (hb hby d38_7) rfl rfl ?_
    refine st2 _ ?_
    show Go p e below T2 m 11 (q_3 a1 i1) [(.ref bA)] _
    refine XS.iloadN X2.here hx rfl (hb hby d38_11) rfl ?_
    refine st3 _ ?_
    show Go p e below T3 m 15 (q_3 a1 i1) [(.int (cv (cs.getD i1 0)))] _
    exact own_retN X3 hx (own_cvc _) (t := .char) Bd.returns (by simp) (hb hby d38_15) hr
  · show Qpure (some (.int (cv (cs.getD i1 0)))) h0 n0 _ T3.heap _
    rw [e3]
    exact ⟨rfl, N3, rfl⟩
theorem ef_rs_cd1 (m : MethodId) (x0 : Addr) : entryFrame m #[(.ref x0)] 1 = mkF m 0 #[.val (.ref x0)] [] := by first | (simp [entryFrame, mkF, argsToLocals, Value.category]; done) | rfl
set_option maxRecDepth 65536 in
set_option maxHeartbeats 40000000 in
theorem rs_cd1 (l : Launch) (Z : State) (a0 : Array Value) (hw : Hw a0 Z) (ws : List Jvm.Cond) (G1 : Int32) (Fm : Value) (a1 : Addr) (bA : Addr) (kA : ClassId) (cs : List UInt16) (h0 : Heap) (n0 : Nat) (O0 : Old Z n0 h0) (ST : Stc Z G1 Fm) (HS : Str1 Z h0 a1 bA kA cs) (hc : cs.length ≤ 120) :
    Met l Z h0 ws Y_1 jdk_42_method_152_code 1 (some .byte) R_0 #[(.ref a1)] (Qpure (some (.int (1 : Int32))) h0 n0) := by
  refine MetFree.of_bodySF (plainFor_of_name pn2) hisR ?_
  intro p e s m args below meth c s₁ Bd hml0 hP hK
  obtain ⟨rfl, hZ, hh⟩ := hP
  have hx := Bd.exec
  have hby := Bd.bytes
  have hml : c.maxLocals = 1 := hml0
  have hown : s.vm.findClass "java/lang/String" = some m.cls := findClass_of_methodNamed Bd.named
  have hnm := (name_of_methodNamed Bd.named Bd.method).1
  have X0 : Stand p l e R_0 s m #[(.ref a1)] below meth c s₁ [] 0 0 := Stand.of_body Bd
  have e0 : s₁.heap = h0 := by rw [← hh, Bd.state]; rfl
  have N0 := Fr.nil n0
  obtain ⟨S_cs, hG, S_fm, hF, S_ad, S_hi, S_lo⟩ := id ST
  obtain ⟨E_a1, Fc_a1, Fv_a1, B_bA⟩ := id HS
  have lt_a1 := E_a1.lt
  have V_bA := B_bA.1
  have l_bA := B_bA.2
  have hN_bA : (Int32.ofNat (2 * cs.length)).toNatClampNeg = (enc1 cs).length := by rw [l_bA]; exact own_n (by omega)
  have lt_bA := V_bA.lt
  obtain ⟨T1, X1, e1, st1⟩ := getS2 X0 hx hZ hown (host := "") (Or.inl (tw hw 38 rfl)) Via.refl e0 (S_cs.ext O0.2) (g := (mkF m 0 (q_1 a1) [])) rfl (hb hby d6_0)
  obtain ⟨T2, X2, e2, st2⟩ := getF X1 hx hZ hown (host := "") (Or.inl (tw hw 26 rfl)) Via.refl e1 Fc_a1 (g := (mkF m 7 (q_1 a1) [(.ref a1)])) rfl rfl (hb hby d6_7)
  obtain ⟨fs, hr, hrun, hended, hW, hsame⟩ := X2.leave (v := some (.int (1 : Int32))) (fun h => by rw [Bd.returns] at h; cases h)
  refine ⟨_, _, castTop (ef_rs_cd1 m a1) ?_, hrun, hended, _, _, rfl, ?_, ⟨_, rfl⟩, hW, hsame.mono (by decide) (by decide)⟩
  · refine st1 _ ?_
    show Go p e below T1 m 3 (q_1 a1) [(.int G1)] _
    refine XS.ifNo X1.here hx rfl (hb hby d6_3) rfl ((if0 _ _).trans (feq hG).1) ?_
    refine XS.aloadN X1.here hx rfl (hb hby d6_6) rfl rfl ?_
    refine st2 _ ?_
    show Go p e below T2 m 10 (q_1 a1) [(.int (1 : Int32))] _
    refine XS.goto X2.here hx rfl (pc0 := 10) (pc' := 14) rfl (hb hby d6_10) (by decide) (by decide) ?_
    show Go p e below T2 m 14 (q_1 a1) [(.int (1 : Int32))] _
    exact retN X2 hx (t := .byte) Bd.returns (by simp) (hb hby d6_14) hr
  · show Qpure (some (.int (1 : Int32))) h0 n0 _ T2.heap _
    rw [e2]
    exact ⟨rfl, N0, rfl⟩
theorem d39_17 : Dc cb8 17 (.iconst 0) 1 := by decide +kernel
theorem ef_rs_il1 (m : MethodId) (x0 : Addr) : entryFrame m #[(.ref x0)] 1 = mkF m 0 #[.val (.ref x0)] [] := by first | (simp [entryFrame, mkF, argsToLocals, Value.category]; done) | rfl
set_option maxRecDepth 65536 in
set_option maxHeartbeats 40000000 in
theorem rs_il1 (l : Launch) (Z : State) (a0 : Array Value) (hw : Hw a0 Z) (ws : List Jvm.Cond) (G1 : Int32) (Fm : Value) (a1 : Addr) (bA : Addr) (kA : ClassId) (cs : List UInt16) (h0 : Heap) (n0 : Nat) (O0 : Old Z n0 h0) (ST : Stc Z G1 Fm) (HS : Str1 Z h0 a1 bA kA cs) (hc : cs.length ≤ 120) :
    Met l Z h0 ws Y_12 jdk_42_method_154_code 1 (some .boolean) R_0 #[(.ref a1)] (Qpure (some (.int (0 : Int32))) h0 n0) := by
  refine MetFree.of_bodySF (plainFor_of_name pn2) hisR ?_
  intro p e s m args below meth c s₁ Bd hml0 hP hK
  obtain ⟨rfl, hZ, hh⟩ := hP
  have hx := Bd.exec
  have hby := Bd.bytes
  have hml : c.maxLocals = 1 := hml0
  have hown : s.vm.findClass "java/lang/String" = some m.cls := findClass_of_methodNamed Bd.named
  have hnm := (name_of_methodNamed Bd.named Bd.method).1
  have X0 : Stand p l e R_0 s m #[(.ref a1)] below meth c s₁ [] 0 0 := Stand.of_body Bd
  have e0 : s₁.heap = h0 := by rw [← hh, Bd.state]; rfl
  have N0 := Fr.nil n0
  obtain ⟨S_cs, hG, S_fm, hF, S_ad, S_hi, S_lo⟩ := id ST
  obtain ⟨E_a1, Fc_a1, Fv_a1, B_bA⟩ := id HS
  have lt_a1 := E_a1.lt
  have V_bA := B_bA.1
  have l_bA := B_bA.2
  have hN_bA : (Int32.ofNat (2 * cs.length)).toNatClampNeg = (enc1 cs).length := by rw [l_bA]; exact own_n (by omega)
  have lt_bA := V_bA.lt
  obtain ⟨T1, X1, e1, st1⟩ := getS2 X0 hx hZ hown (host := "") (Or.inl (tw hw 38 rfl)) Via.refl e0 (S_cs.ext O0.2) (g := (mkF m 0 (q_1 a1) [])) rfl (hb hby d39_0)
  obtain ⟨T2, X2, e2, st2⟩ := getF X1 hx hZ hown (host := "") (Or.inl (tw hw 26 rfl)) Via.refl e1 Fc_a1 (g := (mkF m 7 (q_1 a1) [(.ref a1)])) rfl rfl (hb hby d39_7)
  obtain ⟨fs, hr, hrun, hended, hW, hsame⟩ := X2.leave (v := some (.int (0 : Int32))) (fun h => by rw [Bd.returns] at h; cases h)
  refine ⟨_, _, castTop (ef_rs_il1 m a1) ?_, hrun, hended, _, _, rfl, ?_, ⟨_, rfl⟩, hW, hsame.mono (by decide) (by decide)⟩
  · refine st1 _ ?_
    show Go p e below T1 m 3 (q_1 a1) [(.int G1)] _
    refine XS.ifNo X1.here hx rfl (hb hby d39_3) rfl ((if0 _ _).trans (feq hG).1) ?_
    refine XS.aloadN X1.here hx rfl (hb hby d39_6) rfl rfl ?_
    refine st2 _ ?_
    show Go p e below T2 m 10 (q_1 a1) [(.int (1 : Int32))] _
    refine XS.ifYes X2.here hx rfl (pc0 := 10) (pc' := 17) rfl (hb hby d39_10) rfl ((if0 _ _).trans (feq (by decide)).2) (by decide) (by decide) ?_
    refine XS.iconst X2.here hx rfl (hb hby d39_17) ?_
    show Go p e below T2 m 18 (q_1 a1) [(.int (0 : Int32))] _
    exact retN X2 hx (t := .boolean) Bd.returns (by simp) (hb hby d39_18) hr
  · show Qpure (some (.int (0 : Int32))) h0 n0 _ T2.heap _
    rw [e2]
    exact ⟨rfl, N0, rfl⟩
theorem ef_rs_len1 (m : MethodId) (x0 : Addr) : entryFrame m #[(.ref x0)] 1 = mkF m 0 #[.val (.ref x0)] [] := by first | (simp [entryFrame, mkF, argsToLocals, Value.category]; done) | rfl
set_option maxRecDepth 65536 in
set_option maxHeartbeats 40000000 in
theorem rs_len1 (l : Launch) (Z : State) (a0 : Array Value) (hw : Hw a0 Z) (ws : List Jvm.Cond) (G1 : Int32) (Fm : Value) (a1 : Addr) (bA : Addr) (kA : ClassId) (cs : List UInt16) (h0 : Heap) (n0 : Nat) (O0 : Old Z n0 h0) (ST : Stc Z G1 Fm) (HS : Str1 Z h0 a1 bA kA cs) (hc : cs.length ≤ 120) :
    Met l Z h0 ws Y_2 jdk_42_method_54_code 1 (some .int) R_3 #[(.ref a1)] (Qpure (some (.int (Int32.ofNat cs.length))) h0 n0) := by
  refine MetFree.of_bodySF (plainFor_of_name pn2) hisR ?_
  intro p e s m args below meth c s₁ Bd hml0 hP hK
  obtain ⟨rfl, hZ, hh⟩ := hP
  have hx := Bd.exec
  have hby := Bd.bytes
  have hml : c.maxLocals = 1 := hml0
  have hown : s.vm.findClass "java/lang/String" = some m.cls := findClass_of_methodNamed Bd.named
  have hnm := (name_of_methodNamed Bd.named Bd.method).1
  have X0 : Stand p l e R_3 s m #[(.ref a1)] below meth c s₁ [] 0 0 := Stand.of_body Bd
  have e0 : s₁.heap = h0 := by rw [← hh, Bd.state]; rfl
  have N0 := Fr.nil n0
  obtain ⟨S_cs, hG, S_fm, hF, S_ad, S_hi, S_lo⟩ := id ST
  obtain ⟨E_a1, Fc_a1, Fv_a1, B_bA⟩ := id HS
  have lt_a1 := E_a1.lt
  have V_bA := B_bA.1
  have l_bA := B_bA.2
  have hN_bA : (Int32.ofNat (2 * cs.length)).toNatClampNeg = (enc1 cs).length := by rw [l_bA]; exact own_n (by omega)
  have lt_bA := V_bA.lt
  obtain ⟨T1, X1, e1, st1⟩ := getF X0 hx hZ hown (host := "") (Or.inl (tw hw 25 rfl)) Via.refl e0 Fv_a1 (g := (mkF m 1 (q_1 a1) [(.ref a1)])) rfl rfl (hb hby d5_1)
  obtain ⟨cl2, Ar2, q2, Sz2, Nn2, Ha2, Gf2⟩ := id V_bA
  obtain ⟨_, T3, Lc3, X3, hQ3, st3⟩ := own_vc X1 hx hZ (y := Y_1) hown (tw hw 33 rfl) (tw hw 34 rfl) (tw hw 36 rfl) (tw hw 35 rfl) (by decide) (rs_cd1 l Z a0 hw [] G1 Fm a1 bA kA cs h0 n0 O0 ST HS hc) (tw hw 37 rfl) (tw hw 7 rfl) e1 E_a1 (W := 1) (by decide) (by decide) (Ls := (q_1 a1)) (by rw [hml]; rfl) (argsL := []) (rest := [(.int (Int32.ofNat (2 * cs.length)))]) (lenOf pd5 rfl) (Nat.le_of_eq rfl) (hb hby d5_6) rfl (by decide) (by decide)
  obtain ⟨rfl, Nq3, e3⟩ := hQ3
  have N3 := Fr.app N0 Nq3
  obtain ⟨fs, hr, hrun, hended, hW, hsame⟩ := X3.leave (v := some (.int (Int32.ofNat cs.length))) (fun h => by rw [Bd.returns] at h; cases h)
  refine ⟨_, _, castTop (ef_rs_len1 m a1) ?_, hrun, hended, _, _, rfl, ?_, ⟨_, rfl⟩, hW, hsame.mono (by decide) (by decide)⟩
  · show Go p e below s₁ m 0 (q_1 a1) [] _
    refine XS.aloadN X0.here hx rfl (hb hby d5_0) rfl rfl ?_
    refine st1 _ ?_
    show Go p e below T1 m 4 (q_1 a1) [(.ref bA)] _
    refine X1.arraylength hx (by rw [e1]; exact Ar2.1) (State.isArrayOf_alike hZ.alike Ar2.2.1) (g := (mkF m 4 (q_1 a1) [(.ref bA)])) rfl rfl (hb hby d5_4) _ ?_
    rw [len_of Sz2 Nn2]
    show Go p e below T1 m 5 (q_1 a1) [(.int (Int32.ofNat (2 * cs.length)))] _
    refine XS.aloadN X1.here hx rfl (hb hby d5_5) rfl rfl ?_
    refine st3 _ ?_
    show Go p e below T3 m 9 (q_1 a1) [(.int (1 : Int32)), (.int (Int32.ofNat (2 * cs.length)))] _
    refine XS.ishr X3.here hx rfl (hb hby d5_9) rfl ?_
    show Go p e below T3 m 10 (q_1 a1) [(.int ((Int32.ofNat (2 * cs.length)) >>> ((1 : Int32) &&& 31)))] _
    rw [show ((Int32.ofNat (2 * cs.length)) >>> ((1 : Int32) &&& 31)) = (Int32.ofNat cs.length) from own_shr2 (n := cs.length) (by omega)]
    show Go p e below T3 m 10 (q_1 a1) [(.int (Int32.ofNat cs.length))] _
    exact retI X3 hx Bd.returns (hb hby d5_10) hr
  · show Qpure (some (.int (Int32.ofNat cs.length))) h0 n0 _ T3.heap _
    rw [e3]
    exact ⟨rfl, N3, rfl⟩
theorem d38_16 : Dc cb10 16 (.aload_n 0) 1 := by decide +kernel
theorem d38_17 : Dc cb10 17 (.getfield 9) 3 := by decide +kernel
theorem d38_20 : Dc cb10 20 (.iload_n 1) 1 := by decide +kernel
theorem d38_21 : Dc cb10 21 (.invokestatic 498) 3 := by decide +kernel
theorem d38_24 : Dc cb10 24 .ireturn 1 := by decide +kernel
theorem ef_rs_ch1 (m : MethodId) (x0 : Addr) (x1 : Int32) : entryFrame m #[(.ref x0), (.int x1)] 2 = mkF m 0 #[.val (.ref x0), .val (.int x1)] [] := by first | (simp [entryFrame, mkF, argsToLocals, Value.category]; done) | rfl
set_option maxRecDepth 65536 in
set_option maxHeartbeats 40000000 in
theorem rs_ch1 (l : Launch) (Z : State) (a0 : Array Value) (hw : Hw a0 Z) (ws : List Jvm.Cond) (G1 : Int32) (Fm : Value) (a1 : Addr) (bA : Addr) (kA : ClassId) (cs : List UInt16) (i1 : Nat) (h0 : Heap) (n0 : Nat) (O0 : Old Z n0 h0) (ST : Stc Z G1 Fm) (HS : Str1 Z h0 a1 bA kA cs) (hc : cs.length ≤ 120) (hi : i1 < cs.length) :
    Met l Z h0 ws Y_0 jdk_42_method_56_code 2 (some .char) R_11 #[(.ref a1), (.int (Int32.ofNat i1))] (Qpure (some (.int (cv (cs.getD i1 0)))) h0 n0) := by
  refine MetFree.of_bodySF (plainFor_of_name pn2) hisR ?_
  intro p e s m args below meth c s₁ Bd hml0 hP hK
  obtain ⟨rfl, hZ, hh⟩ := hP
  have hx := Bd.exec
  have hby := Bd.bytes
  have hml : c.maxLocals = 2 := hml0
  have hown : s.vm.findClass "java/lang/String" = some m.cls := findClass_of_methodNamed Bd.named
  have hnm := (name_of_methodNamed Bd.named Bd.method).1
  have X0 : Stand p l e R_11 s m #[(.ref a1), (.int (Int32.ofNat i1))] below meth c s₁ [] 0 0 := Stand.of_body Bd
  have e0 : s₁.heap = h0 := by rw [← hh, Bd.state]; rfl
  have N0 := Fr.nil n0
  obtain ⟨S_cs, hG, S_fm, hF, S_ad, S_hi, S_lo⟩ := id ST
  obtain ⟨E_a1, Fc_a1, Fv_a1, B_bA⟩ := id HS
  have lt_a1 := E_a1.lt
  have V_bA := B_bA.1
  have l_bA := B_bA.2
  have hN_bA : (Int32.ofNat (2 * cs.length)).toNatClampNeg = (enc1 cs).length := by rw [l_bA]; exact own_n (by omega)
  have lt_bA := V_bA.lt
  obtain ⟨_, T1, Lc1, X1, hQ1, st1⟩ := own_vc X0 hx hZ (y := Y_12) hown (tw hw 251 rfl) (tw hw 252 rfl) (tw hw 254 rfl) (tw hw 253 rfl) (by decide) (rs_il1 l Z a0 hw [] G1 Fm a1 bA kA cs h0 n0 O0 ST HS hc) (tw hw 255 rfl) (tw hw 7 rfl) e0 E_a1 (W := 0) (by decide) (by decide) (Ls := (q_3 a1 i1)) (by rw [hml]; rfl) (argsL := []) (rest := []) (lenOf pd6 rfl) (Nat.le_of_eq rfl) (hb hby d38_1) rfl (by decide) (by decide)
  obtain ⟨rfl, Nq1, e1⟩ := hQ1
  have N1 := Fr.app N0 Nq1
  obtain ⟨T2, X2, e2, st2⟩ := getF X1 hx hZ hown (host := "") (Or.inl (tw hw 25 rfl)) Via.refl e1 Fv_a1 (g := (mkF m 17 (q_3 a1 i1) [(.ref a1)])) rfl rfl (hb hby d38_17)
  obtain ⟨_, T3, Lc3, X3, hQ3, st3⟩ := own_sc X2 hx hZ (y := Y_47) hown (tw hw 337 rfl) (tw hw 338 rfl) (by decide) (ru_ch l Z a0 hw [] G1 Fm bA kA (2 * cs.length) (enc1 cs) i1 (cs.getD i1 0) h0 n0 O0 ST B_bA (by omega) (by omega) (enc1_get cs i1 hi).1 (enc1_get cs i1 hi).2) (tw hw 339 rfl) (tw hw 270 rfl) e2 (W := 0) (by decide) (by decide) (Ls := (q_3 a1 i1)) (by rw [hml]; rfl) (argsL := [(.ref bA), (.int (Int32.ofNat i1))]) (rest := []) (lenOf pd4 rfl) (Nat.le_of_eq rfl) (hb hby d38_21) rfl (by decide) (by decide)
  obtain ⟨rfl, Nq3, e3⟩ := hQ3
  have N3 := Fr.app N1 Nq3
  obtain ⟨fs, hr, hrun, hended, hW, hsame⟩ := X3.leave (v := some (.int (cv (cs.getD i1 0)))) (fun h => by rw [Bd.returns] at h; cases h)
  refine ⟨_, _, castTop (ef_rs_ch1 m a1 (Int32.ofNat i1)) ?_, hrun, hended, _, _, rfl, ?_, ⟨_, rfl⟩, hW, hsame.mono (by decide) (by decide)⟩
  · show Go p e below s₁ m 0 (q_3 a1 i1) [] _
    refine XS.aloadN X0.here hx rfl (hb hby d38_0) rfl rfl ?_
    refine st1 _ ?_
    show Go p e below T1 m 4 (q_3 a1 i1) [(.int (0 : Int32))] _
    refine XS.ifYes X1.here hx rfl (pc0 := 4) (pc' := 16) rfl (hb hby d38_4) rfl ((if0 _ _).trans (teq (by decide)).1) (by decide) (by decide) ?_
    refine XS.aloadN X1.here hx rfl (hb hby d38_16) rfl rfl ?_
    refine st2 _ ?_
    show Go p e below T2 m 20 (q_3 a1 i1) [(.ref bA)] _
    refine XS.iloadN X2.here hx rfl (hb hby d38_20) rfl ?_
    refine st3 _ ?_
    show Go p e below T3 m 24 (q_3 a1 i1) [(.int (cv (cs.getD i1 0)))] _
    exact own_retN X3 hx (own_cvc _) (t := .char) Bd.returns (by simp) (hb hby d38_24) hr
  · show Qpure (some (.int (cv (cs.getD i1 0)))) h0 n0 _ T3.heap _
    rw [e3]
    exact ⟨rfl, N3, rfl⟩
def Car (Z : State) (h : Heap) (a : Addr) (k : ClassId) (L : Nat) (cs : List UInt16) : Prop := Arv Z h a k .char (Int32.ofNat L) ((cs.map cv).map Value.int) (.int (0 : Int32)) ∧ cs.length = L
def Qsi (Z : State) (a b : Addr) (d : Int32) (h0 : Heap) (n0 : Nat) (v : Option Value) (h : Heap) (Lc : List Loc) : Prop := v = none ∧ Fr n0 Lc ∧ Keep h0 h [a] ∧ Exa Z h a "java/lang/String" ∧ Fld Z h a "java/lang/String" "coder" "B" (.int d) ∧ Fld Z h a "java/lang/String" "value" "[B" (.ref b)
def Strx (Z : State) (h : Heap) (a b : Addr) (k : ClassId) (cs : List UInt16) : Prop := Str0 Z h a b k cs ∨ Str1 Z h a b k cs
def Qs (Z : State) (cs : List UInt16) (h0 : Heap) (n0 : Nat) (v : Option Value) (h : Heap) (Lc : List Loc) : Prop := ∃ (a b : Addr) (k : ClassId), v = some (.ref a) ∧ Fr n0 Lc ∧ Keep h0 h [] ∧ h0.size ≤ a ∧ h0.size ≤ b ∧ Strx Z h a b k cs
theorem own_drop {cs : List UInt16} {j : Nat} (h : j < cs.length) : cs.drop j = cs.getD j 0 :: cs.drop (j + 1) := by
  rw [List.drop_eq_getElem_cons h]; simp [List.getD_eq_getElem?_getD, h]
theorem own_p0 (d : Nat) (ds : List Int32) (cs : List UInt16) : puts ds (d + cs.length) (cs.drop cs.length) = ds := by rw [List.drop_length]; rfl
theorem own_p1 {d : Nat} {ds : List Int32} {cs : List UInt16} {j : Nat} (h : j < cs.length) : puts ds (d + j) (cs.drop j) = puts (put ds (d + j) (cs.getD j 0)) (d + (j + 1)) (cs.drop (j + 1)) := by rw [own_drop h]; rfl
theorem d51_0 : Dc cb11 0 (.getstatic 44) 3 := by decide +kernel
theorem d51_3 : Dc cb11 3 (.ifCond .ne 25) 3 := by decide +kernel
theorem d51_28 : Dc cb11 28 (.iload_n 1) 1 := by decide +kernel
theorem d51_29 : Dc cb11 29 (.iconst 1) 1 := by decide +kernel
theorem d51_30 : Dc cb11 30 .ishl 1 := by decide +kernel
theorem d51_31 : Dc cb11 31 (.istore_n 1) 1 := by decide +kernel
theorem d51_32 : Dc cb11 32 (.aload_n 0) 1 := by decide +kernel
theorem d51_33 : Dc cb11 33 (.iload_n 1) 1 := by decide +kernel
theorem d51_34 : Dc cb11 34 (.iinc 1 1) 3 := by decide +kernel
theorem d51_37 : Dc cb11 37 (.iload_n 2) 1 := by decide +kernel
theorem d51_38 : Dc cb11 38 (.getstatic 59) 3 := by decide +kernel
theorem d51_41 : Dc cb11 41 .ishr 1 := by decide +kernel
theorem d51_42 : Dc cb11 42 .i2b 1 := by decide +kernel
theorem d51_43 : Dc cb11 43 .bastore 1 := by decide +kernel
theorem d51_44 : Dc cb11 44 (.aload_n 0) 1 := by decide +kernel
theorem d51_45 : Dc cb11 45 (.iload_n 1) 1 := by decide +kernel
theorem d51_46 : Dc cb11 46 (.iload_n 2) 1 := by decide +kernel
theorem d51_47 : Dc cb11 47 (.getstatic 63) 3 := by decide +kernel
theorem d51_50 : Dc cb11 50 .ishr 1 := by decide +kernel
theorem d51_51 : Dc cb11 51 .i2b 1 := by decide +kernel
theorem d51_52 : Dc cb11 52 .bastore 1 := by decide +kernel
theorem d51_53 : Dc cb11 53 .return_ 1 := by decide +kernel
theorem ef_ru_put (m : MethodId) (x0 : Addr) (x1 : Int32) (x2 : Int32) : entryFrame m #[(.ref x0), (.int x1), (.int x2)] 3 = mkF m 0 #[.val (.ref x0), .val (.int x1), .val (.int x2)] [] := by first | (simp [entryFrame, mkF, argsToLocals, Value.category]; done) | rfl
set_option maxRecDepth 65536 in
set_option maxHeartbeats 40000000 in
theorem ru_put (l : Launch) (Z : State) (a0 : Array Value) (hw : Hw a0 Z) (ws : List Jvm.Cond) (G1 : Int32) (Fm : Value) (a1 : Addr) (kA : ClassId) (LA : Nat) (vs : List Int32) (i1 : Nat) (u : UInt16) (h0 : Heap) (n0 : Nat) (O0 : Old Z n0 h0) (ST : Stc Z G1 Fm) (B1 : Bar Z h0 a1 kA LA vs) (hB : LA ≤ 500) (hi : 2 * i1 + 1 < LA) (g_a1 : n0 ≤ a1) :
    Met l Z h0 ws Y_19 jdk_52_method_4_code 3 none R_0 #[(.ref a1), (.int (Int32.ofNat i1)), (.int (cv u))] (Qwr Z a1 kA LA (put vs i1 u) h0 n0) := by
  refine MetFree.of_bodySF (plainFor_of_name pn0) hisR ?_
  intro p e s m args below meth c s₁ Bd hml0 hP hK
  obtain ⟨rfl, hZ, hh⟩ := hP
  have hx := Bd.exec
  have hby := Bd.bytes
  have hml : c.maxLocals = 3 := hml0
  have hown : s.vm.findClass "java/lang/StringUTF16" = some m.cls := findClass_of_methodNamed Bd.named
  have hnm := (name_of_methodNamed Bd.named Bd.method).1
  have X0 : Stand p l e R_0 s m #[(.ref a1), (.int (Int32.ofNat i1)), (.int (cv u))] below meth c s₁ [] 0 0 := Stand.of_body Bd
  have e0 : s₁.heap = h0 := by rw [← hh, Bd.state]; rfl
  have N0 := Fr.nil n0
  obtain ⟨S_cs, hG, S_fm, hF, S_ad, S_hi, S_lo⟩ := id ST
  have V_a1 := B1.1
  have l_a1 := B1.2
  have hN_a1 : (Int32.ofNat LA).toNatClampNeg = vs.length := by rw [l_a1]; exact own_n (by omega)
  have lt_a1 := V_a1.lt
  obtain ⟨T1, X1, e1, st1⟩ := getS2 X0 hx hZ hown (host := "") (Or.inl (tw hw 297 rfl)) Via.refl e0 (S_ad.ext O0.2) (g := (mkF m 0 (q_68 a1 i1 u) [])) rfl (hb hby d51_0)
  obtain ⟨T2, X2, e2, st2⟩ := getS2 X1 hx hZ hown (host := "") (Or.inl (tw hw 298 rfl)) Via.refl e1 (S_hi.ext O0.2) (g := (mkF m 38 (q_20 a1 i1 u) [(.int (cv u)), (.int (Int32.ofNat (2 * i1))), (.ref a1)])) rfl (hb hby d51_38)
  obtain ⟨cl3, Ar3, q3, Sz3, Nn3, Ha3, Gf3⟩ := id V_a1
  have hin3 : ¬ ((Int32.ofNat (2 * i1)) < 0 ∨ cl3.slots.size ≤ ((Int32.ofNat (2 * i1))).toNatClampNeg) := own_inb (i := 2 * i1) Sz3 hN_a1 (own_nn (n := 2 * i1) (by omega)) (own_n (n := 2 * i1) (by omega)) (by omega)
  obtain ⟨T4, h4, X4, e4, W4, st4⟩ := stB X2 hx hZ e2 Ar3 (j := (Int32.ofNat (2 * i1))) hin3 (g := (mkF m 43 (q_20 a1 i1 u) [(.int (cLo u)), (.int (Int32.ofNat (2 * i1))), (.ref a1)])) rfl rfl (hb hby d51_43)
  have Va4 := Arv.set Ar3 q3 Sz3 Nn3 Ha3 Gf3 (fits_nar_byte _) W4 (2 * i1) (own_n (n := 2 * i1) (by omega)) (by rw [List.length_map]; exact (by omega))
  have Vb4 : Arv Z h4 a1 kA .byte (Int32.ofNat LA) ((vs.set (2 * i1) (cLo u)).map Value.int) (.int (0 : Int32)) := by rw [List.map_set, ← (show (cLo u).toInt8.toInt32 = (cLo u) from own_lo8 u)]; exact Va4
  have hN4 : ((Int32.ofNat LA)).toNatClampNeg = (vs.set (2 * i1) (cLo u)).length := by rw [List.length_set]; exact hN_a1
  have O5 := O0.wr W4 g_a1
  have kp6 : Keep h0 h4 [a1] := (Keep.refl h0 [a1]).wr W4 (Or.inl (List.mem_of_getElem? (i := 0) rfl))
  have N4 := Fr.snoc X4 N0 g_a1
  obtain ⟨T7, X7, e7, st7⟩ := getS2 X4 hx hZ hown (host := "") (Or.inl (tw hw 299 rfl)) Via.refl e4 (S_lo.ext O5.2) (g := (mkF m 47 (q_20 a1 i1 u) [(.int (cv u)), (.int (Int32.ofNat (2 * i1 + 1))), (.ref a1)])) rfl (hb hby d51_47)
  obtain ⟨cl8, Ar8, q8, Sz8, Nn8, Ha8, Gf8⟩ := id Vb4
  have hin8 : ¬ ((Int32.ofNat (2 * i1 + 1)) < 0 ∨ cl8.slots.size ≤ ((Int32.ofNat (2 * i1 + 1))).toNatClampNeg) := own_inb (i := 2 * i1 + 1) Sz8 hN4 (own_nn (n := 2 * i1 + 1) (by omega)) (own_n (n := 2 * i1 + 1) (by omega)) (by simp only [List.length_set, List.length_replicate, List.length_map, put_len, enc1_len, List.length_append, List.length_take, List.length_drop]; omega)
  obtain ⟨T9, h9, X9, e9, W9, st9⟩ := stB X7 hx hZ e7 Ar8 (j := (Int32.ofNat (2 * i1 + 1))) hin8 (g := (mkF m 52 (q_20 a1 i1 u) [(.int (cHi u)), (.int (Int32.ofNat (2 * i1 + 1))), (.ref a1)])) rfl rfl (hb hby d51_52)
  have Va9 := Arv.set Ar8 q8 Sz8 Nn8 Ha8 Gf8 (fits_nar_byte _) W9 (2 * i1 + 1) (own_n (n := 2 * i1 + 1) (by omega)) (by rw [List.length_map]; exact (by simp only [List.length_set, List.length_replicate, List.length_map, put_len, enc1_len, List.length_append, List.length_take, List.length_drop]; omega))
  have Vb9 : Arv Z h9 a1 kA .byte (Int32.ofNat LA) (((vs.set (2 * i1) (cLo u)).set (2 * i1 + 1) (cHi u)).map Value.int) (.int (0 : Int32)) := by rw [List.map_set, ← (show (cHi u).toInt8.toInt32 = (cHi u) from own_hi8 u)]; exact Va9
  have hN9 : ((Int32.ofNat LA)).toNatClampNeg = ((vs.set (2 * i1) (cLo u)).set (2 * i1 + 1) (cHi u)).length := by rw [List.length_set]; exact hN4
  have O10 := O5.wr W9 g_a1
  have kp11 : Keep h0 h9 [a1] := kp6.wr W9 (Or.inl (List.mem_of_getElem? (i := 0) rfl))
  have N9 := Fr.snoc X9 N4 g_a1
  obtain ⟨fs, hr, hrun, hended, hW, hsame⟩ := X9.leave (v := none) (fun _ => rfl)
  refine ⟨_, _, castTop (ef_ru_put m a1 (Int32.ofNat i1) (cv u)) ?_, hrun, hended, _, _, rfl, ?_, ⟨_, rfl⟩, hW, hsame.mono (by decide) (by decide)⟩
  · refine st1 _ ?_
    show Go p e below T1 m 3 (q_68 a1 i1 u) [(.int (1 : Int32))] _
    refine XS.ifYes X1.here hx rfl (pc0 := 3) (pc' := 28) rfl (hb hby d51_3) rfl ((if0 _ _).trans (feq (by decide)).2) (by decide) (by decide) ?_
    refine XS.iloadN X1.here hx rfl (hb hby d51_28) rfl ?_
    refine XS.iconst X1.here hx rfl (hb hby d51_29) ?_
    refine XS.ishl X1.here hx rfl (hb hby d51_30) rfl ?_
    show Go p e below T1 m 31 (q_68 a1 i1 u) [(.int ((Int32.ofNat i1) <<< ((1 : Int32) &&& 31)))] _
    rw [show ((Int32.ofNat i1) <<< ((1 : Int32) &&& 31)) = (Int32.ofNat (2 * i1)) from own_shl1 i1]
    show Go p e below T1 m 31 (q_68 a1 i1 u) [(.int (Int32.ofNat (2 * i1)))] _
    refine XS.istoreN X1.here hx rfl (hb hby d51_31) rfl (l' := #[.val (.ref a1), .val (.int (Int32.ofNat (2 * i1))), .val (.int (cv u))]) rfl ?_
    refine XS.aloadN X1.here hx rfl (hb hby d51_32) rfl rfl ?_
    refine XS.iloadN X1.here hx rfl (hb hby d51_33) rfl ?_
    refine XS.iinc X1.here hx rfl (hb hby d51_34) rfl (l' := #[.val (.ref a1), .val (.int ((Int32.ofNat (2 * i1)) + (1 : Int32))), .val (.int (cv u))]) rfl ?_
    show Go p e below T1 m 37 #[.val (.ref a1), .val (.int ((Int32.ofNat (2 * i1)) + (1 : Int32))), .val (.int (cv u))] [(.int (Int32.ofNat (2 * i1))), (.ref a1)] _
    rw [show ((Int32.ofNat (2 * i1)) + (1 : Int32)) = (Int32.ofNat (2 * i1 + 1)) from own_add (2 * i1) 1]
    show Go p e below T1 m 37 (q_20 a1 i1 u) [(.int (Int32.ofNat (2 * i1))), (.ref a1)] _
    refine XS.iloadN X1.here hx rfl (hb hby d51_37) rfl ?_
    refine st2 _ ?_
    show Go p e below T2 m 41 (q_20 a1 i1 u) [(.int (0 : Int32)), (.int (cv u)), (.int (Int32.ofNat (2 * i1))), (.ref a1)] _
    refine XS.ishr X2.here hx rfl (hb hby d51_41) rfl ?_
    show Go p e below T2 m 42 (q_20 a1 i1 u) [(.int ((cv u) >>> ((0 : Int32) &&& 31))), (.int (Int32.ofNat (2 * i1))), (.ref a1)] _
    rw [show ((cv u) >>> ((0 : Int32) &&& 31)) = (cv u) from own_shr0 _]
    show Go p e below T2 m 42 (q_20 a1 i1 u) [(.int (cv u)), (.int (Int32.ofNat (2 * i1))), (.ref a1)] _
    refine XS.i2b X2.here hx rfl (hb hby d51_42) rfl ?_
    show Go p e below T2 m 43 (q_20 a1 i1 u) [(.int ((cv u).toInt8.toInt32)), (.int (Int32.ofNat (2 * i1))), (.ref a1)] _
    rw [show ((cv u).toInt8.toInt32) = (cLo u) from own_lo u]
    refine st4 _ ?_
    show Go p e below T4 m 44 (q_20 a1 i1 u) [] _
    refine XS.aloadN X4.here hx rfl (hb hby d51_44) rfl rfl ?_
    refine XS.iloadN X4.here hx rfl (hb hby d51_45) rfl ?_
    refine XS.iloadN X4.here hx rfl (hb hby d51_46) rfl ?_
    refine st7 _ ?_
    show Go p e below T7 m 50 (q_20 a1 i1 u) [(.int (8 : Int32)), (.int (cv u)), (.int (Int32.ofNat (2 * i1 + 1))), (.ref a1)] _
    refine XS.ishr X7.here hx rfl (hb hby d51_50) rfl ?_
    refine XS.i2b X7.here hx rfl (hb hby d51_51) rfl ?_
    show Go p e below T7 m 52 (q_20 a1 i1 u) [(.int (((cv u) >>> ((8 : Int32) &&& 31)).toInt8.toInt32)), (.int (Int32.ofNat (2 * i1 + 1))), (.ref a1)] _
    rw [show (((cv u) >>> ((8 : Int32) &&& 31)).toInt8.toInt32) = (cHi u) from own_hi u]
    refine st9 _ ?_
    show Go p e below T9 m 53 (q_20 a1 i1 u) [] _
    exact X9.returnOut hx Bd.returns (hb hby d51_53) hr
  · show Qwr Z a1 kA LA (put vs i1 u) h0 n0 _ T9.heap _
    rw [e9]
    exact ⟨rfl, N9, kp11, Vb9, by rw [put_len]; exact l_a1⟩
theorem d55_0 : Dc cb12 0 (.iload_n 0) 1 := by decide +kernel
theorem d55_1 : Dc cb12 1 (.ifCond .ge 11) 3 := by decide +kernel
theorem d55_12 : Dc cb12 12 (.iload_n 0) 1 := by decide +kernel
theorem d55_13 : Dc cb12 13 (.ldc 20) 2 := by decide +kernel
theorem d55_15 : Dc cb12 15 (.if_icmp .lt 40) 3 := by decide +kernel
theorem d55_55 : Dc cb12 55 (.iload_n 0) 1 := by decide +kernel
theorem d55_56 : Dc cb12 56 (.iconst 1) 1 := by decide +kernel
theorem d55_57 : Dc cb12 57 .ishl 1 := by decide +kernel
theorem d55_58 : Dc cb12 58 .ireturn 1 := by decide +kernel
theorem ef_ru_nl (m : MethodId) (x0 : Int32) : entryFrame m #[(.int x0)] 1 = mkF m 0 #[.val (.int x0)] [] := by first | (simp [entryFrame, mkF, argsToLocals, Value.category]; done) | rfl
set_option maxRecDepth 65536 in
set_option maxHeartbeats 40000000 in
theorem ru_nl (l : Launch) (Z : State) (a0 : Array Value) (hw : Hw a0 Z) (ws : List Jvm.Cond) (G1 : Int32) (Fm : Value) (i1 : Nat) (h0 : Heap) (n0 : Nat) (O0 : Old Z n0 h0) (ST : Stc Z G1 Fm) (hi : 2 * i1 ≤ 500) :
    Met l Z h0 ws Y_49 jdk_52_method_3_code 1 (some .int) R_0 #[(.int (Int32.ofNat i1))] (Qpure (some (.int (Int32.ofNat (2 * i1)))) h0 n0) := by
  refine MetFree.of_bodySF (plainFor_of_name pn0) hisR ?_
  intro p e s m args below meth c s₁ Bd hml0 hP hK
  obtain ⟨rfl, hZ, hh⟩ := hP
  have hx := Bd.exec
  have hby := Bd.bytes
  have hml : c.maxLocals = 1 := hml0
  have hown : s.vm.findClass "java/lang/StringUTF16" = some m.cls := findClass_of_methodNamed Bd.named
  have hnm := (name_of_methodNamed Bd.named Bd.method).1
  have X0 : Stand p l e R_0 s m #[(.int (Int32.ofNat i1))] below meth c s₁ [] 0 0 := Stand.of_body Bd
  have e0 : s₁.heap = h0 := by rw [← hh, Bd.state]; rfl
  have N0 := Fr.nil n0
  obtain ⟨S_cs, hG, S_fm, hF, S_ad, S_hi, S_lo⟩ := id ST
  obtain ⟨fs, hr, hrun, hended, hW, hsame⟩ := X0.leave (v := some (.int (Int32.ofNat (2 * i1)))) (fun h => by rw [Bd.returns] at h; cases h)
  refine ⟨_, _, castTop (ef_ru_nl m (Int32.ofNat i1)) ?_, hrun, hended, _, _, rfl, ?_, ⟨_, rfl⟩, hW, hsame.mono (by decide) (by decide)⟩
  · show Go p e below s₁ m 0 (q_29 i1) [] _
    refine XS.iloadN X0.here hx rfl (hb hby d55_0) rfl ?_
    refine XS.ifYes X0.here hx rfl (pc0 := 1) (pc' := 12) rfl (hb hby d55_1) rfl ((if0 _ _).trans (flt (fun q => absurd ((own_lt (a := i1) (b := 0) (by omega) (by omega)).mp q) (by omega))).2.1) (by decide) (by decide) ?_
    refine XS.iloadN X0.here hx rfl (hb hby d55_12) rfl ?_
    show Go p e below s₁ m 13 (q_29 i1) [(.int (Int32.ofNat i1))] _
    refine X0.ldcInt hx hown (mvT hZ (tw hw 315 rfl)) (g := (mkF m 13 (q_29 i1) [(.int (Int32.ofNat i1))])) rfl (hb hby d55_13) _ ?_
    show Go p e below s₁ m 15 (q_29 i1) [(.int (1073741823 : Int32)), (.int (Int32.ofNat i1))] _
    refine XS.icmpYes X0.here hx rfl (pc0 := 15) (pc' := 55) rfl (hb hby d55_15) rfl (tlt ((own_lt (a := i1) (b := 1073741823) (by omega) (by omega)).mpr (by omega))).1 (by decide) (by decide) ?_
    refine XS.iloadN X0.here hx rfl (hb hby d55_55) rfl ?_
    refine XS.iconst X0.here hx rfl (hb hby d55_56) ?_
    refine XS.ishl X0.here hx rfl (hb hby d55_57) rfl ?_
    show Go p e below s₁ m 58 (q_29 i1) [(.int ((Int32.ofNat i1) <<< ((1 : Int32) &&& 31)))] _
    rw [show ((Int32.ofNat i1) <<< ((1 : Int32) &&& 31)) = (Int32.ofNat (2 * i1)) from own_shl1 i1]
    show Go p e below s₁ m 58 (q_29 i1) [(.int (Int32.ofNat (2 * i1)))] _
    exact retI X0 hx Bd.returns (hb hby d55_58) hr
  · show Qpure (some (.int (Int32.ofNat (2 * i1)))) h0 n0 _ s₁.heap _
    rw [e0]
    exact ⟨rfl, N0, rfl⟩
theorem d54_0 : Dc cb13 0 (.iload_n 0) 1 := by decide +kernel
theorem d54_1 : Dc cb13 1 (.invokestatic 11) 3 := by decide +kernel
theorem pd7 : parseMethodDescriptor "(I)I" = some ⟨[.int], some .int⟩ := by decide +kernel
theorem d54_4 : Dc cb13 4 (.newarray .byte) 2 := by decide +kernel
theorem d54_6 : Dc cb13 6 .areturn 1 := by decide +kernel
theorem ef_ru_nf (m : MethodId) (x0 : Int32) : entryFrame m #[(.int x0)] 1 = mkF m 0 #[.val (.int x0)] [] := by first | (simp [entryFrame, mkF, argsToLocals, Value.category]; done) | rfl
set_option maxRecDepth 65536 in
set_option maxHeartbeats 40000000 in
theorem ru_nf (l : Launch) (Z : State) (a0 : Array Value) (hw : Hw a0 Z) (ws : List Jvm.Cond) (G1 : Int32) (Fm : Value) (i1 : Nat) (h0 : Heap) (n0 : Nat) (O0 : Old Z n0 h0) (ST : Stc Z G1 Fm) (hi : 2 * i1 ≤ 500) :
    Met l Z h0 ws Y_34 jdk_52_method_2_code 1 (some (.array .byte)) R_31 #[(.int (Int32.ofNat i1))] (Qar Z (2 * i1) (List.replicate (2 * i1) 0) h0 n0) := by
  refine MetFree.of_bodySF (plainFor_of_name pn0) hisR ?_
  intro p e s m args below meth c s₁ Bd hml0 hP hK
  obtain ⟨rfl, hZ, hh⟩ := hP
  have hx := Bd.exec
  have hby := Bd.bytes
  have hml : c.maxLocals = 1 := hml0
  have hown : s.vm.findClass "java/lang/StringUTF16" = some m.cls := findClass_of_methodNamed Bd.named
  have hnm := (name_of_methodNamed Bd.named Bd.method).1
  have X0 : Stand p l e R_31 s m #[(.int (Int32.ofNat i1))] below meth c s₁ [] 0 0 := Stand.of_body Bd
  have e0 : s₁.heap = h0 := by rw [← hh, Bd.state]; rfl
  have N0 := Fr.nil n0
  obtain ⟨S_cs, hG, S_fm, hF, S_ad, S_hi, S_lo⟩ := id ST
  obtain ⟨_, T1, Lc1, X1, hQ1, st1⟩ := own_sc X0 hx hZ (y := Y_49) hown (tw hw 312 rfl) (tw hw 313 rfl) (by decide) (ru_nl l Z a0 hw [] G1 Fm i1 h0 n0 O0 ST hi) (tw hw 314 rfl) (tw hw 270 rfl) e0 (W := 0) (by decide) (by decide) (Ls := (q_29 i1)) (by rw [hml]; rfl) (argsL := [(.int (Int32.ofNat i1))]) (rest := []) (lenOf pd7 rfl) (Nat.le_of_eq rfl) (hb hby d54_1) rfl (by decide) (by decide)
  obtain ⟨rfl, Nq1, e1⟩ := hQ1
  have N1 := Fr.app N0 Nq1
  obtain ⟨T2, h2, k2, X2, e2, E2, A2, Ea2, st2⟩ := newPE X1 hx hZ (tw hw 20 rfl) e1 (g := (mkF m 4 (q_29 i1) [(.int (Int32.ofNat (2 * i1)))])) rfl (hb hby d54_4) rfl (own_nn (n := 2 * i1) (by omega)) (cap := 500) (by rw [own_n (n := 2 * i1) (by omega)]; omega) (by decide) (by decide) (by decide) (ad := "[B") (by decide)
  obtain ⟨b2, g2⟩ : ∃ z, z = h0.size := ⟨_, rfl⟩
  rw [← g2] at A2 Ea2 st2
  have g_b2 : n0 ≤ b2 := by rw [g2]; exact Nat.le_trans (Nat.le_of_eq O0.1.symm) O0.2.1
  have sz_b2 : h0.size ≤ b2 := by rw [g2]; exact (Keep.refl h0 []).1
  have O3 := O0.ext E2
  have kp4 : Keep h0 h2 [] := (Keep.refl h0 []).ext E2
  have V_b2 : Arv Z h2 b2 k2 .byte (Int32.ofNat (2 * i1)) ((List.replicate (2 * i1) (0 : Int32)).map Value.int) (.int (0 : Int32)) := by rw [List.map_replicate]; exact (Arv.new A2 (own_nn (n := 2 * i1) (by omega))).pad (pad_rep [] (.int (0 : Int32)) (2 * i1))
  have hN_b2 : ((Int32.ofNat (2 * i1))).toNatClampNeg = (List.replicate (2 * i1) (0 : Int32)).length := by rw [List.length_replicate]; exact own_n (n := 2 * i1) (by omega)
  obtain ⟨fs, hr, hrun, hended, hW, hsame⟩ := X2.leave (v := some (.ref b2)) (fun h => by rw [Bd.returns] at h; cases h)
  refine ⟨_, _, castTop (ef_ru_nf m (Int32.ofNat i1)) ?_, hrun, hended, _, _, rfl, ?_, ⟨_, rfl⟩, hW, hsame.mono (by decide) (by decide)⟩
  · show Go p e below s₁ m 0 (q_29 i1) [] _
    refine XS.iloadN X0.here hx rfl (hb hby d54_0) rfl ?_
    refine st1 _ ?_
    refine st2 _ ?_
    show Go p e below T2 m 6 (q_29 i1) [(.ref b2)] _
    exact retOut X2 hx Bd.returns rfl (Or.inr (Or.inr (Or.inr (Or.inr ⟨rfl, rfl, rfl⟩)))) (hb hby d54_6) hr
  · show Qar Z (2 * i1) (List.replicate (2 * i1) 0) h0 n0 _ T2.heap _
    rw [e2]
    exact ⟨b2, _, rfl, N1, kp4, sz_b2, ⟨V_b2, by simp only [List.length_set, List.length_replicate]⟩, Ea2⟩
theorem d50_0 : Dc cb14 0 (.iconst 2) 1 := by decide +kernel
theorem d50_1 : Dc cb14 1 (.newarray .byte) 2 := by decide +kernel
theorem d50_3 : Dc cb14 3 (.astore_n 1) 1 := by decide +kernel
theorem d50_4 : Dc cb14 4 (.aload_n 1) 1 := by decide +kernel
theorem d50_5 : Dc cb14 5 (.iconst 0) 1 := by decide +kernel
theorem d50_6 : Dc cb14 6 (.iload_n 0) 1 := by decide +kernel
theorem d50_7 : Dc cb14 7 (.invokestatic 111) 3 := by decide +kernel
theorem pd8 : parseMethodDescriptor "([BII)V" = some ⟨[(.array .byte), .int, .int], none⟩ := by decide +kernel
theorem d50_10 : Dc cb14 10 (.aload_n 1) 1 := by decide +kernel
theorem d50_11 : Dc cb14 11 .areturn 1 := by decide +kernel
theorem ef_ru_tbc (m : MethodId) (x0 : Int32) : entryFrame m #[(.int x0)] 2 = mkF m 0 #[.val (.int x0), .unset] [] := by first | (simp [entryFrame, mkF, argsToLocals, Value.category]; done) | rfl
set_option maxRecDepth 65536 in
set_option maxHeartbeats 40000000 in
theorem ru_tbc (l : Launch) (Z : State) (a0 : Array Value) (hw : Hw a0 Z) (ws : List Jvm.Cond) (G1 : Int32) (Fm : Value) (u : UInt16) (h0 : Heap) (n0 : Nat) (O0 : Old Z n0 h0) (ST : Stc Z G1 Fm) :
    Met l Z h0 ws Y_50 jdk_52_method_24_code 2 (some (.array .byte)) R_32 #[(.int (cv u))] (Qar Z 2 (enc1 [u]) h0 n0) := by
  refine MetFree.of_bodySF (plainFor_of_name pn0) hisR ?_
  intro p e s m args below meth c s₁ Bd hml0 hP hK
  obtain ⟨rfl, hZ, hh⟩ := hP
  have hx := Bd.exec
  have hby := Bd.bytes
  have hml : c.maxLocals = 2 := hml0
  have hown : s.vm.findClass "java/lang/StringUTF16" = some m.cls := findClass_of_methodNamed Bd.named
  have hnm := (name_of_methodNamed Bd.named Bd.method).1
  have X0 : Stand p l e R_32 s m #[(.int (cv u))] below meth c s₁ [] 0 0 := Stand.of_body Bd
  have e0 : s₁.heap = h0 := by rw [← hh, Bd.state]; rfl
  have N0 := Fr.nil n0
  obtain ⟨S_cs, hG, S_fm, hF, S_ad, S_hi, S_lo⟩ := id ST
  obtain ⟨T1, h1, k1, X1, e1, E1, A1, Ea1, st1⟩ := newPE X0 hx hZ (tw hw 20 rfl) e0 (g := (mkF m 1 #[.val (.int (cv u)), .unset] [(.int (2 : Int32))])) rfl (hb hby d50_1) rfl (by decide) (cap := 2) (by decide) (by decide) (by decide) (by decide) (ad := "[B") (by decide)
  obtain ⟨b1, g1⟩ : ∃ z, z = h0.size := ⟨_, rfl⟩
  rw [← g1] at A1 Ea1 st1
  have g_b1 : n0 ≤ b1 := by rw [g1]; exact Nat.le_trans (Nat.le_of_eq O0.1.symm) O0.2.1
  have sz_b1 : h0.size ≤ b1 := by rw [g1]; exact (Keep.refl h0 []).1
  have O2 := O0.ext E1
  have kp3 : Keep h0 h1 [] := (Keep.refl h0 []).ext E1
  have V_b1 : Arv Z h1 b1 k1 .byte (2 : Int32) ((List.replicate 2 (0 : Int32)).map Value.int) (.int (0 : Int32)) := by rw [List.map_replicate]; exact (Arv.new A1 (by decide)).pad (pad_rep [] (.int (0 : Int32)) 2)
  have hN_b1 : ((2 : Int32)).toNatClampNeg = (List.replicate 2 (0 : Int32)).length := by rw [List.length_replicate]; exact by decide
  obtain ⟨_, T4, Lc4, X4, hQ4, st4⟩ := own_sc X1 hx hZ (y := Y_19) hown (tw hw 294 rfl) (tw hw 295 rfl) (by decide) (ru_put l Z a0 hw [] G1 Fm b1 k1 2 (List.replicate 2 (0 : Int32)) 0 u h1 n0 O2 ST ⟨V_b1, by rw [List.length_replicate]⟩ (by decide) (by decide) g_b1) (tw hw 296 rfl) (tw hw 270 rfl) e1 (W := 0) (by decide) (by decide) (Ls := (q_69 u b1)) (by rw [hml]; rfl) (argsL := [(.ref b1), (.int (0 : Int32)), (.int (cv u))]) (rest := []) (lenOf pd8 rfl) (Nat.le_of_eq rfl) (hb hby d50_7) rfl (by decide) (by decide)
  obtain ⟨h4, e4⟩ : ∃ z, T4.heap = z := ⟨_, rfl⟩
  rw [e4] at hQ4
  obtain ⟨rfl, Nq4, K4, Bp4⟩ := hQ4
  have N4 := Fr.app N0 Nq4
  have O5 := O2.keep K4 (allS g_b1 all0)
  have kp6 : Keep h0 h4 [] := kp3.trans K4 (allS (Or.inr sz_b1) all0)
  have Vp4 := Bp4.1
  obtain ⟨fs, hr, hrun, hended, hW, hsame⟩ := X4.leave (v := some (.ref b1)) (fun h => by rw [Bd.returns] at h; cases h)
  refine ⟨_, _, castTop (ef_ru_tbc m (cv u)) ?_, hrun, hended, _, _, rfl, ?_, ⟨_, rfl⟩, hW, hsame.mono (by decide) (by decide)⟩
  · show Go p e below s₁ m 0 #[.val (.int (cv u)), .unset] [] _
    refine XS.iconst X0.here hx rfl (hb hby d50_0) ?_
    refine st1 _ ?_
    show Go p e below T1 m 3 #[.val (.int (cv u)), .unset] [(.ref b1)] _
    refine XS.astoreN X1.here hx rfl (hb hby d50_3) rfl rfl (l' := (q_69 u b1)) rfl ?_
    refine XS.aloadN X1.here hx rfl (hb hby d50_4) rfl rfl ?_
    refine XS.iconst X1.here hx rfl (hb hby d50_5) ?_
    refine XS.iloadN X1.here hx rfl (hb hby d50_6) rfl ?_
    refine st4 _ ?_
    show Go p e below T4 m 10 (q_69 u b1) [] _
    refine XS.aloadN X4.here hx rfl (hb hby d50_10) rfl rfl ?_
    show Go p e below T4 m 11 (q_69 u b1) [(.ref b1)] _
    exact retOut X4 hx Bd.returns rfl (Or.inr (Or.inr (Or.inr (Or.inr ⟨rfl, rfl, rfl⟩)))) (hb hby d50_11) hr
  · show Qar Z 2 (enc1 [u]) h0 n0 _ T4.heap _
    rw [e4]
    exact ⟨b1, _, rfl, N4, kp6, sz_b1, ⟨Vp4, rfl⟩, (Ea1.keep K4)⟩
theorem d66_0 : Dc cb15 0 (.iconst 1) 1 := by decide +kernel
theorem d66_1 : Dc cb15 1 (.newarray .byte) 2 := by decide +kernel
theorem d66_3 : Dc cb15 3 .dup 1 := by decide +kernel
theorem d66_4 : Dc cb15 4 (.iconst 0) 1 := by decide +kernel
theorem d66_5 : Dc cb15 5 (.iload_n 0) 1 := by decide +kernel
theorem d66_6 : Dc cb15 6 .i2b 1 := by decide +kernel
theorem d66_7 : Dc cb15 7 .bastore 1 := by decide +kernel
theorem d66_8 : Dc cb15 8 .areturn 1 := by decide +kernel
theorem ef_rl_tb (m : MethodId) (x0 : Int32) : entryFrame m #[(.int x0)] 1 = mkF m 0 #[.val (.int x0)] [] := by first | (simp [entryFrame, mkF, argsToLocals, Value.category]; done) | rfl
set_option maxRecDepth 65536 in
set_option maxHeartbeats 40000000 in
theorem rl_tb (l : Launch) (Z : State) (a0 : Array Value) (hw : Hw a0 Z) (ws : List Jvm.Cond) (G1 : Int32) (Fm : Value) (u : UInt16) (h0 : Heap) (n0 : Nat) (O0 : Old Z n0 h0) (ST : Stc Z G1 Fm) :
    Met l Z h0 ws Y_51 jdk_43_method_46_code 1 (some (.array .byte)) R_33 #[(.int (cv u))] (Qar Z 1 [cLo u] h0 n0) := by
  refine MetFree.of_bodySF (plainFor_of_name pn3) hisR ?_
  intro p e s m args below meth c s₁ Bd hml0 hP hK
  obtain ⟨rfl, hZ, hh⟩ := hP
  have hx := Bd.exec
  have hby := Bd.bytes
  have hml : c.maxLocals = 1 := hml0
  have hown : s.vm.findClass "java/lang/StringLatin1" = some m.cls := findClass_of_methodNamed Bd.named
  have hnm := (name_of_methodNamed Bd.named Bd.method).1
  have X0 : Stand p l e R_33 s m #[(.int (cv u))] below meth c s₁ [] 0 0 := Stand.of_body Bd
  have e0 : s₁.heap = h0 := by rw [← hh, Bd.state]; rfl
  have N0 := Fr.nil n0
  obtain ⟨S_cs, hG, S_fm, hF, S_ad, S_hi, S_lo⟩ := id ST
  obtain ⟨T1, h1, k1, X1, e1, E1, A1, Ea1, st1⟩ := newPE X0 hx hZ (tw hw 20 rfl) e0 (g := (mkF m 1 (q_6 u) [(.int (1 : Int32))])) rfl (hb hby d66_1) rfl (by decide) (cap := 1) (by decide) (by decide) (by decide) (by decide) (ad := "[B") (by decide)
  obtain ⟨b1, g1⟩ : ∃ z, z = h0.size := ⟨_, rfl⟩
  rw [← g1] at A1 Ea1 st1
  have g_b1 : n0 ≤ b1 := by rw [g1]; exact Nat.le_trans (Nat.le_of_eq O0.1.symm) O0.2.1
  have sz_b1 : h0.size ≤ b1 := by rw [g1]; exact (Keep.refl h0 []).1
  have O2 := O0.ext E1
  have kp3 : Keep h0 h1 [] := (Keep.refl h0 []).ext E1
  have V_b1 : Arv Z h1 b1 k1 .byte (1 : Int32) ((List.replicate 1 (0 : Int32)).map Value.int) (.int (0 : Int32)) := by rw [List.map_replicate]; exact (Arv.new A1 (by decide)).pad (pad_rep [] (.int (0 : Int32)) 1)
  have hN_b1 : ((1 : Int32)).toNatClampNeg = (List.replicate 1 (0 : Int32)).length := by rw [List.length_replicate]; exact by decide
  obtain ⟨cl4, Ar4, q4, Sz4, Nn4, Ha4, Gf4⟩ := id V_b1
  have hin4 : ¬ ((0 : Int32) < 0 ∨ cl4.slots.size ≤ ((0 : Int32)).toNatClampNeg) := own_inb (i := 0) Sz4 hN_b1 (by decide) (by decide) (by simp only [List.length_set, List.length_replicate, List.length_map, put_len, enc1_len, List.length_append, List.length_take, List.length_drop]; omega)
  obtain ⟨T5, h5, X5, e5, W5, st5⟩ := stB X1 hx hZ e1 Ar4 (j := (0 : Int32)) hin4 (g := (mkF m 7 (q_6 u) [(.int (cLo u)), (.int (0 : Int32)), (.ref b1), (.ref b1)])) rfl rfl (hb hby d66_7)
  have Va5 := Arv.set Ar4 q4 Sz4 Nn4 Ha4 Gf4 (fits_nar_byte _) W5 0 (by decide) (by rw [List.length_map]; exact (by simp only [List.length_set, List.length_replicate, List.length_map, put_len, enc1_len, List.length_append, List.length_take, List.length_drop]; omega))
  have Vb5 : Arv Z h5 b1 k1 .byte (1 : Int32) (((List.replicate 1 (0 : Int32)).set 0 (cLo u)).map Value.int) (.int (0 : Int32)) := by rw [List.map_set, ← (show (cLo u).toInt8.toInt32 = (cLo u) from own_lo8 u)]; exact Va5
  have hN5 : ((1 : Int32)).toNatClampNeg = ((List.replicate 1 (0 : Int32)).set 0 (cLo u)).length := by rw [List.length_set]; exact hN_b1
  have O6 := O2.wr W5 g_b1
  have kp7 : Keep h0 h5 [] := kp3.wr W5 (Or.inr sz_b1)
  have N5 := Fr.snoc X5 N0 g_b1
  obtain ⟨fs, hr, hrun, hended, hW, hsame⟩ := X5.leave (v := some (.ref b1)) (fun h => by rw [Bd.returns] at h; cases h)
  refine ⟨_, _, castTop (ef_rl_tb m (cv u)) ?_, hrun, hended, _, _, rfl, ?_, ⟨_, rfl⟩, hW, hsame.mono (by decide) (by decide)⟩
  · show Go p e below s₁ m 0 (q_6 u) [] _
    refine XS.iconst X0.here hx rfl (hb hby d66_0) ?_
    refine st1 _ ?_
    show Go p e below T1 m 3 (q_6 u) [(.ref b1)] _
    refine XS.dup X1.here hx rfl (hb hby d66_3) rfl rfl ?_
    refine XS.iconst X1.here hx rfl (hb hby d66_4) ?_
    refine XS.iloadN X1.here hx rfl (hb hby d66_5) rfl ?_
    refine XS.i2b X1.here hx rfl (hb hby d66_6) rfl ?_
    show Go p e below T1 m 7 (q_6 u) [(.int ((cv u).toInt8.toInt32)), (.int (0 : Int32)), (.ref b1), (.ref b1)] _
    rw [show ((cv u).toInt8.toInt32) = (cLo u) from own_lo u]
    refine st5 _ ?_
    show Go p e below T5 m 8 (q_6 u) [(.ref b1)] _
    exact retOut X5 hx Bd.returns rfl (Or.inr (Or.inr (Or.inr (Or.inr ⟨rfl, rfl, rfl⟩)))) (hb hby d66_8) hr
  · show Qar Z 1 [cLo u] h0 n0 _ T5.heap _
    rw [e5]
    exact ⟨b1, _, rfl, N5, kp7, sz_b1, ⟨Vb5, rfl⟩, (Ea1.wr W5)⟩
theorem d49_0 : Dc cb16 0 (.iload_n 0) 1 := by decide +kernel
theorem d49_1 : Dc cb16 1 (.sipush 255) 3 := by decide +kernel
theorem d49_4 : Dc cb16 4 (.if_icmp .gt 7) 3 := by decide +kernel
theorem d49_7 : Dc cb16 7 (.iconst 1) 1 := by decide +kernel
theorem d49_8 : Dc cb16 8 (.goto 4) 3 := by decide +kernel
theorem d49_12 : Dc cb16 12 .ireturn 1 := by decide +kernel
theorem ef_rl_ce1 (m : MethodId) (x0 : Int32) : entryFrame m #[(.int x0)] 1 = mkF m 0 #[.val (.int x0)] [] := by first | (simp [entryFrame, mkF, argsToLocals, Value.category]; done) | rfl
set_option maxRecDepth 65536 in
set_option maxHeartbeats 40000000 in
theorem rl_ce1 (l : Launch) (Z : State) (a0 : Array Value) (hw : Hw a0 Z) (ws : List Jvm.Cond) (G1 : Int32) (Fm : Value) (u : UInt16) (h0 : Heap) (n0 : Nat) (O0 : Old Z n0 h0) (ST : Stc Z G1 Fm) (hu : ¬ (255 : Int32) < (cv u)) :
    Met l Z h0 ws Y_20 jdk_43_method_3_code 1 (some .boolean) R_0 #[(.int (cv u))] (Qpure (some (.int (1 : Int32))) h0 n0) := by
  refine MetFree.of_bodySF (plainFor_of_name pn3) hisR ?_
  intro p e s m args below meth c s₁ Bd hml0 hP hK
  obtain ⟨rfl, hZ, hh⟩ := hP
  have hx := Bd.exec
  have hby := Bd.bytes
  have hml : c.maxLocals = 1 := hml0
  have hown : s.vm.findClass "java/lang/StringLatin1" = some m.cls := findClass_of_methodNamed Bd.named
  have hnm := (name_of_methodNamed Bd.named Bd.method).1
  have X0 : Stand p l e R_0 s m #[(.int (cv u))] below meth c s₁ [] 0 0 := Stand.of_body Bd
  have e0 : s₁.heap = h0 := by rw [← hh, Bd.state]; rfl
  have N0 := Fr.nil n0
  obtain ⟨S_cs, hG, S_fm, hF, S_ad, S_hi, S_lo⟩ := id ST
  obtain ⟨fs, hr, hrun, hended, hW, hsame⟩ := X0.leave (v := some (.int (1 : Int32))) (fun h => by rw [Bd.returns] at h; cases h)
  refine ⟨_, _, castTop (ef_rl_ce1 m (cv u)) ?_, hrun, hended, _, _, rfl, ?_, ⟨_, rfl⟩, hW, hsame.mono (by decide) (by decide)⟩
  · show Go p e below s₁ m 0 (q_6 u) [] _
    refine XS.iloadN X0.here hx rfl (hb hby d49_0) rfl ?_
    refine XS.sipush X0.here hx rfl (hb hby d49_1) ?_
    refine XS.icmpNo X0.here hx rfl (hb hby d49_4) rfl (flt hu).2.2.1 ?_
    refine XS.iconst X0.here hx rfl (hb hby d49_7) ?_
    refine XS.goto X0.here hx rfl (pc0 := 8) (pc' := 12) rfl (hb hby d49_8) (by decide) (by decide) ?_
    show Go p e below s₁ m 12 (q_6 u) [(.int (1 : Int32))] _
    exact retN X0 hx (t := .boolean) Bd.returns (by simp) (hb hby d49_12) hr
  · show Qpure (some (.int (1 : Int32))) h0 n0 _ s₁.heap _
    rw [e0]
    exact ⟨rfl, N0, rfl⟩
theorem d49_11 : Dc cb16 11 (.iconst 0) 1 := by decide +kernel
theorem ef_rl_ce0 (m : MethodId) (x0 : Int32) : entryFrame m #[(.int x0)] 1 = mkF m 0 #[.val (.int x0)] [] := by first | (simp [entryFrame, mkF, argsToLocals, Value.category]; done) | rfl
set_option maxRecDepth 65536 in
set_option maxHeartbeats 40000000 in
theorem rl_ce0 (l : Launch) (Z : State) (a0 : Array Value) (hw : Hw a0 Z) (ws : List Jvm.Cond) (G1 : Int32) (Fm : Value) (u : UInt16) (h0 : Heap) (n0 : Nat) (O0 : Old Z n0 h0) (ST : Stc Z G1 Fm) (hu : (255 : Int32) < (cv u)) :
    Met l Z h0 ws Y_20 jdk_43_method_3_code 1 (some .boolean) R_0 #[(.int (cv u))] (Qpure (some (.int (0 : Int32))) h0 n0) := by
  refine MetFree.of_bodySF (plainFor_of_name pn3) hisR ?_
  intro p e s m args below meth c s₁ Bd hml0 hP hK
  obtain ⟨rfl, hZ, hh⟩ := hP
  have hx := Bd.exec
  have hby := Bd.bytes
  have hml : c.maxLocals = 1 := hml0
  have hown : s.vm.findClass "java/lang/StringLatin1" = some m.cls := findClass_of_methodNamed Bd.named
  have hnm := (name_of_methodNamed Bd.named Bd.method).1
  have X0 : Stand p l e R_0 s m #[(.int (cv u))] below meth c s₁ [] 0 0 := Stand.of_body Bd
  have e0 : s₁.heap = h0 := by rw [← hh, Bd.state]; rfl
  have N0 := Fr.nil n0
  obtain ⟨S_cs, hG, S_fm, hF, S_ad, S_hi, S_lo⟩ := id ST
  obtain ⟨fs, hr, hrun, hended, hW, hsame⟩ := X0.leave (v := some (.int (0 : Int32))) (fun h => by rw [Bd.returns] at h; cases h)
  refine ⟨_, _, castTop (ef_rl_ce0 m (cv u)) ?_, hrun, hended, _, _, rfl, ?_, ⟨_, rfl⟩, hW, hsame.mono (by decide) (by decide)⟩
  · show Go p e below s₁ m 0 (q_6 u) [] _
    refine XS.iloadN X0.here hx rfl (hb hby d49_0) rfl ?_
    refine XS.sipush X0.here hx rfl (hb hby d49_1) ?_
    refine XS.icmpYes X0.here hx rfl (pc0 := 4) (pc' := 11) rfl (hb hby d49_4) rfl (tlt hu).2.2.1 (by decide) (by decide) ?_
    refine XS.iconst X0.here hx rfl (hb hby d49_11) ?_
    show Go p e below s₁ m 12 (q_6 u) [(.int (0 : Int32))] _
    exact retN X0 hx (t := .boolean) Bd.returns (by simp) (hb hby d49_12) hr
  · show Qpure (some (.int (0 : Int32))) h0 n0 _ s₁.heap _
    rw [e0]
    exact ⟨rfl, N0, rfl⟩
theorem d52_0 : Dc cb17 0 (.aload_n 0) 1 := by decide +kernel
theorem d52_1 : Dc cb17 1 (.invokespecial 1) 3 := by decide +kernel
theorem d52_4 : Dc cb17 4 (.aload_n 0) 1 := by decide +kernel
theorem d52_5 : Dc cb17 5 (.aload_n 1) 1 := by decide +kernel
theorem d52_6 : Dc cb17 6 (.putfield 9) 3 := by decide +kernel
theorem d52_9 : Dc cb17 9 (.aload_n 0) 1 := by decide +kernel
theorem d52_10 : Dc cb17 10 (.iload_n 2) 1 := by decide +kernel
theorem d52_11 : Dc cb17 11 (.putfield 15) 3 := by decide +kernel
theorem d52_14 : Dc cb17 14 .return_ 1 := by decide +kernel
theorem ef_rs_ib0 (m : MethodId) (x0 : Addr) (x1 : Addr) (x2 : Int32) : entryFrame m #[(.ref x0), (.ref x1), (.int x2)] 3 = mkF m 0 #[.val (.ref x0), .val (.ref x1), .val (.int x2)] [] := by first | (simp [entryFrame, mkF, argsToLocals, Value.category]; done) | rfl
set_option maxRecDepth 65536 in
set_option maxHeartbeats 40000000 in
theorem rs_ib0 (l : Launch) (Z : State) (a0 : Array Value) (hw : Hw a0 Z) (ws : List Jvm.Cond) (G1 : Int32) (Fm : Value) (a1 : Addr) (bA : Addr) (h0 : Heap) (n0 : Nat) (O0 : Old Z n0 h0) (ST : Stc Z G1 Fm) (E_a : Exa Z h0 a1 "java/lang/String") (F_v : Fld Z h0 a1 "java/lang/String" "value" "[B" .null) (F_c : Fld Z h0 a1 "java/lang/String" "coder" "B" (.int (0 : Int32))) (g_a1 : n0 ≤ a1) :
    Met l Z h0 ws Y_21 jdk_42_method_151_code 3 none R_2 #[(.ref a1), (.ref bA), (.int (0 : Int32))] (Qsi Z a1 bA (0 : Int32) h0 n0) := by
  refine MetFree.of_bodySF (plainFor_of_name pn2) hisR ?_
  intro p e s m args below meth c s₁ Bd hml0 hP hK
  obtain ⟨rfl, hZ, hh⟩ := hP
  have hx := Bd.exec
  have hby := Bd.bytes
  have hml : c.maxLocals = 3 := hml0
  have hown : s.vm.findClass "java/lang/String" = some m.cls := findClass_of_methodNamed Bd.named
  have hnm := (name_of_methodNamed Bd.named Bd.method).1
  have X0 : Stand p l e R_2 s m #[(.ref a1), (.ref bA), (.int (0 : Int32))] below meth c s₁ [] 0 0 := Stand.of_body Bd
  have e0 : s₁.heap = h0 := by rw [← hh, Bd.state]; rfl
  have N0 := Fr.nil n0
  obtain ⟨S_cs, hG, S_fm, hF, S_ad, S_hi, S_lo⟩ := id ST
  have lt_a1 := E_a.lt
  obtain ⟨T1, X1, e1, st1⟩ := initO X0 hx hZ hown (tw hw 16 rfl) (tw hw 17 rfl) (tw hw 18 rfl) e0 (g := (mkF m 1 (q_36 a1 bA) [(.ref a1)])) rfl (by rw [hml]; rfl) rfl (hb hby d52_1) (by decide) (W := 0) (by show 2 * 0 + _ ≤ _; exact Nat.le_of_eq rfl) (by decide)
  obtain ⟨T2, h2, X2, e2, W2, st2⟩ := putF X1 hx hZ hown (host := "") (Or.inl (tw hw 25 rfl)) Via.refl e1 F_v E_a (Or.inr ⟨(tw hw 21 rfl), rfl, hnm⟩) (tw hw 6 rfl) (ty := (.array .byte)) (by decide) rfl rfl (g := (mkF m 6 (q_36 a1 bA) [(.ref bA), (.ref a1)])) rfl rfl (hb hby d52_6)
  have Fw2 := F_v.same W2
  have O3 := O0.wr W2 g_a1
  have kp4 : Keep h0 h2 [a1] := (Keep.refl h0 [a1]).wr W2 (Or.inl (List.mem_of_getElem? (i := 0) rfl))
  have N2 := Fr.snoc X2 N0 g_a1
  obtain ⟨T5, h5, X5, e5, W5, st5⟩ := putFN X2 hx hZ hown (tw hw 26 rfl) Via.refl e2 (F_c.other W2 (Or.inr (slot_ne (Or.inr (tw hw 22 rfl)) (Or.inr (tw hw 21 rfl)) (by decide) (t := .byte) (t' := (.array .byte)) (by decide) (by decide)))) (E_a.wr W2) (Or.inr ⟨(tw hw 22 rfl), rfl, hnm⟩) (tw hw 6 rfl) (ty := .byte) (v' := (.int (0 : Int32))) (by decide) rfl rfl (g := (mkF m 11 (q_36 a1 bA) [(.int (0 : Int32)), (.ref a1)])) rfl rfl (hb hby d52_11)
  have Fw5 := (F_c.other W2 (Or.inr (slot_ne (Or.inr (tw hw 22 rfl)) (Or.inr (tw hw 21 rfl)) (by decide) (t := .byte) (t' := (.array .byte)) (by decide) (by decide)))).same W5
  have O6 := O3.wr W5 g_a1
  have kp7 : Keep h0 h5 [a1] := kp4.wr W5 (Or.inl (List.mem_of_getElem? (i := 0) rfl))
  have N5 := Fr.snoc X5 N2 g_a1
  obtain ⟨fs, hr, hrun, hended, hW, hsame⟩ := X5.leave (v := none) (fun _ => rfl)
  refine ⟨_, _, castTop (ef_rs_ib0 m a1 bA (0 : Int32)) ?_, hrun, hended, _, _, rfl, ?_, ⟨_, rfl⟩, hW, hsame.mono (by decide) (by decide)⟩
  · show Go p e below s₁ m 0 (q_36 a1 bA) [] _
    refine XS.aloadN X0.here hx rfl (hb hby d52_0) rfl rfl ?_
    refine st1 _ ?_
    show Go p e below T1 m 4 (q_36 a1 bA) [] _
    refine XS.aloadN X1.here hx rfl (hb hby d52_4) rfl rfl ?_
    refine XS.aloadN X1.here hx rfl (hb hby d52_5) rfl rfl ?_
    refine st2 _ ?_
    show Go p e below T2 m 9 (q_36 a1 bA) [] _
    refine XS.aloadN X2.here hx rfl (hb hby d52_9) rfl rfl ?_
    refine XS.iloadN X2.here hx rfl (hb hby d52_10) rfl ?_
    refine st5 _ ?_
    show Go p e below T5 m 14 (q_36 a1 bA) [] _
    exact X5.returnOut hx Bd.returns (hb hby d52_14) hr
  · show Qsi Z a1 bA (0 : Int32) h0 n0 _ T5.heap _
    rw [e5]
    exact ⟨rfl, N5, kp7, ((E_a.wr W2).wr W5), Fw5, (Fw2.other W5 (Or.inr (slot_ne (Or.inr (tw hw 21 rfl)) (Or.inr (tw hw 22 rfl)) (by decide) (t := (.array .byte)) (t' := .byte) (by decide) (by decide))))⟩
theorem ef_rs_ib1 (m : MethodId) (x0 : Addr) (x1 : Addr) (x2 : Int32) : entryFrame m #[(.ref x0), (.ref x1), (.int x2)] 3 = mkF m 0 #[.val (.ref x0), .val (.ref x1), .val (.int x2)] [] := by first | (simp [entryFrame, mkF, argsToLocals, Value.category]; done) | rfl
set_option maxRecDepth 65536 in
set_option maxHeartbeats 40000000 in
theorem rs_ib1 (l : Launch) (Z : State) (a0 : Array Value) (hw : Hw a0 Z) (ws : List Jvm.Cond) (G1 : Int32) (Fm : Value) (a1 : Addr) (bA : Addr) (h0 : Heap) (n0 : Nat) (O0 : Old Z n0 h0) (ST : Stc Z G1 Fm) (E_a : Exa Z h0 a1 "java/lang/String") (F_v : Fld Z h0 a1 "java/lang/String" "value" "[B" .null) (F_c : Fld Z h0 a1 "java/lang/String" "coder" "B" (.int (0 : Int32))) (g_a1 : n0 ≤ a1) :
    Met l Z h0 ws Y_21 jdk_42_method_151_code 3 none R_2 #[(.ref a1), (.ref bA), (.int (1 : Int32))] (Qsi Z a1 bA (1 : Int32) h0 n0) := by
  refine MetFree.of_bodySF (plainFor_of_name pn2) hisR ?_
  intro p e s m args below meth c s₁ Bd hml0 hP hK
  obtain ⟨rfl, hZ, hh⟩ := hP
  have hx := Bd.exec
  have hby := Bd.bytes
  have hml : c.maxLocals = 3 := hml0
  have hown : s.vm.findClass "java/lang/String" = some m.cls := findClass_of_methodNamed Bd.named
  have hnm := (name_of_methodNamed Bd.named Bd.method).1
  have X0 : Stand p l e R_2 s m #[(.ref a1), (.ref bA), (.int (1 : Int32))] below meth c s₁ [] 0 0 := Stand.of_body Bd
  have e0 : s₁.heap = h0 := by rw [← hh, Bd.state]; rfl
  have N0 := Fr.nil n0
  obtain ⟨S_cs, hG, S_fm, hF, S_ad, S_hi, S_lo⟩ := id ST
  have lt_a1 := E_a.lt
  obtain ⟨T1, X1, e1, st1⟩ := initO X0 hx hZ hown (tw hw 16 rfl) (tw hw 17 rfl) (tw hw 18 rfl) e0 (g := (mkF m 1 (q_37 a1 bA) [(.ref a1)])) rfl (by rw [hml]; rfl) rfl (hb hby d52_1) (by decide) (W := 0) (by show 2 * 0 + _ ≤ _; exact Nat.le_of_eq rfl) (by decide)
  obtain ⟨T2, h2, X2, e2, W2, st2⟩ := putF X1 hx hZ hown (host := "") (Or.inl (tw hw 25 rfl)) Via.refl e1 F_v E_a (Or.inr ⟨(tw hw 21 rfl), rfl, hnm⟩) (tw hw 6 rfl) (ty := (.array .byte)) (by decide) rfl rfl (g := (mkF m 6 (q_37 a1 bA) [(.ref bA), (.ref a1)])) rfl rfl (hb hby d52_6)
  have Fw2 := F_v.same W2
  have O3 := O0.wr W2 g_a1
  have kp4 : Keep h0 h2 [a1] := (Keep.refl h0 [a1]).wr W2 (Or.inl (List.mem_of_getElem? (i := 0) rfl))
  have N2 := Fr.snoc X2 N0 g_a1
  obtain ⟨T5, h5, X5, e5, W5, st5⟩ := putFN X2 hx hZ hown (tw hw 26 rfl) Via.refl e2 (F_c.other W2 (Or.inr (slot_ne (Or.inr (tw hw 22 rfl)) (Or.inr (tw hw 21 rfl)) (by decide) (t := .byte) (t' := (.array .byte)) (by decide) (by decide)))) (E_a.wr W2) (Or.inr ⟨(tw hw 22 rfl), rfl, hnm⟩) (tw hw 6 rfl) (ty := .byte) (v' := (.int (1 : Int32))) (by decide) rfl rfl (g := (mkF m 11 (q_37 a1 bA) [(.int (1 : Int32)), (.ref a1)])) rfl rfl (hb hby d52_11)
  have Fw5 := (F_c.other W2 (Or.inr (slot_ne (Or.inr (tw hw 22 rfl)) (Or.inr (tw hw 21 rfl)) (by decide) (t := .byte) (t' := (.array .byte)) (by decide) (by decide)))).same W5
  have O6 := O3.wr W5 g_a1
  have kp7 : Keep h0 h5 [a1] := kp4.wr W5 (Or.inl (List.mem_of_getElem? (i := 0) rfl))
  have N5 := Fr.snoc X5 N2 g_a1
  obtain ⟨fs, hr, hrun, hended, hW, hsame⟩ := X5.leave (v := none) (fun _ => rfl)
  refine ⟨_, _, castTop (ef_rs_ib1 m a1 bA (1 : Int32)) ?_, hrun, hended, _, _, rfl, ?_, ⟨_, rfl⟩, hW, hsame.mono (by decide) (by decide)⟩
  · show Go p e below s₁ m 0 (q_37 a1 bA) [] _
    refine XS.aloadN X0.here hx rfl (hb hby d52_0) rfl rfl ?_
    refine st1 _ ?_
    show Go p e below T1 m 4 (q_37 a1 bA) [] _
    refine XS.aloadN X1.here hx rfl (hb hby d52_4) rfl rfl ?_
    refine XS.aloadN X1.here hx rfl (hb hby d52_5) rfl rfl ?_
    refine st2 _ ?_
    show Go p e below T2 m 9 (q_37 a1 bA) [] _
    refine XS.aloadN X2.here hx rfl (hb hby d52_9) rfl rfl ?_
    refine XS.iloadN X2.here hx rfl (hb hby d52_10) rfl ?_
    refine st5 _ ?_
    show Go p e below T5 m 14 (q_37 a1 bA) [] _
    exact X5.returnOut hx Bd.returns (hb hby d52_14) hr
  · show Qsi Z a1 bA (1 : Int32) h0 n0 _ T5.heap _
    rw [e5]
    exact ⟨rfl, N5, kp7, ((E_a.wr W2).wr W5), Fw5, (Fw2.other W5 (Or.inr (slot_ne (Or.inr (tw hw 21 rfl)) (Or.inr (tw hw 22 rfl)) (by decide) (t := (.array .byte)) (t' := .byte) (by decide) (by decide))))⟩
theorem d48_0 : Dc cb18 0 (.getstatic 38) 3 := by decide +kernel
theorem d48_3 : Dc cb18 3 (.ifCond .eq 23) 3 := by decide +kernel
theorem d48_6 : Dc cb18 6 (.iload_n 0) 1 := by decide +kernel
theorem d48_7 : Dc cb18 7 (.invokestatic 1015) 3 := by decide +kernel
theorem pd9 : parseMethodDescriptor "(C)Z" = some ⟨[.char], some .boolean⟩ := by decide +kernel
theorem d48_10 : Dc cb18 10 (.ifCond .eq 16) 3 := by decide +kernel
theorem d48_13 : Dc cb18 13 (.new 10) 3 := by decide +kernel
theorem d48_16 : Dc cb18 16 .dup 1 := by decide +kernel
theorem d48_17 : Dc cb18 17 (.iload_n 0) 1 := by decide +kernel
theorem d48_18 : Dc cb18 18 (.invokestatic 1018) 3 := by decide +kernel
theorem pd10 : parseMethodDescriptor "(C)[B" = some ⟨[.char], some (.array .byte)⟩ := by decide +kernel
theorem d48_21 : Dc cb18 21 (.iconst 0) 1 := by decide +kernel
theorem d48_22 : Dc cb18 22 (.invokespecial 209) 3 := by decide +kernel
theorem pd11 : parseMethodDescriptor "([BB)V" = some ⟨[(.array .byte), .byte], none⟩ := by decide +kernel
theorem d48_25 : Dc cb18 25 .areturn 1 := by decide +kernel
theorem ef_rs_vo0 (m : MethodId) (x0 : Int32) : entryFrame m #[(.int x0)] 1 = mkF m 0 #[.val (.int x0)] [] := by first | (simp [entryFrame, mkF, argsToLocals, Value.category]; done) | rfl
set_option maxRecDepth 65536 in
set_option maxHeartbeats 40000000 in
theorem rs_vo0 (l : Launch) (Z : State) (a0 : Array Value) (hw : Hw a0 Z) (ws : List Jvm.Cond) (G1 : Int32) (Fm : Value) (u : UInt16) (h0 : Heap) (n0 : Nat) (O0 : Old Z n0 h0) (ST : Stc Z G1 Fm) (hu : ¬ (255 : Int32) < (cv u)) :
    Met l Z h0 ws Y_22 jdk_42_method_139_code 1 (some (.object "java/lang/String")) R_12 #[(.int (cv u))] (Qs Z [u] h0 n0) := by
  refine MetFree.of_bodySF (plainFor_of_name pn2) hisR ?_
  intro p e s m args below meth c s₁ Bd hml0 hP hK
  obtain ⟨rfl, hZ, hh⟩ := hP
  have hx := Bd.exec
  have hby := Bd.bytes
  have hml : c.maxLocals = 1 := hml0
  have hown : s.vm.findClass "java/lang/String" = some m.cls := findClass_of_methodNamed Bd.named
  have hnm := (name_of_methodNamed Bd.named Bd.method).1
  have X0 : Stand p l e R_12 s m #[(.int (cv u))] below meth c s₁ [] 0 0 := Stand.of_body Bd
  have e0 : s₁.heap = h0 := by rw [← hh, Bd.state]; rfl
  have N0 := Fr.nil n0
  obtain ⟨S_cs, hG, S_fm, hF, S_ad, S_hi, S_lo⟩ := id ST
  obtain ⟨T1, X1, e1, st1⟩ := getS2 X0 hx hZ hown (host := "") (Or.inl (tw hw 38 rfl)) Via.refl e0 (S_cs.ext O0.2) (g := (mkF m 0 (q_6 u) [])) rfl (hb hby d48_0)
  obtain ⟨_, T2, Lc2, X2, hQ2, st2⟩ := own_sc X1 hx hZ (y := Y_20) hown (tw hw 287 rfl) (tw hw 288 rfl) (by decide) (rl_ce1 l Z a0 hw [] G1 Fm u h0 n0 O0 ST hu) (tw hw 289 rfl) (tw hw 258 rfl) e1 (W := 0) (by decide) (by decide) (Ls := (q_6 u)) (by rw [hml]; rfl) (argsL := [(.int (cv u))]) (rest := []) (lenOf pd9 rfl) (Nat.le_of_eq rfl) (hb hby d48_7) rfl (by decide) (by decide)
  obtain ⟨rfl, Nq2, e2⟩ := hQ2
  have N2 := Fr.app N0 Nq2
  obtain ⟨T3, h3, X3, e3, E3, A3, D3, U3, st3⟩ := newO X2 hx hZ hown (tw hw 290 rfl) (tw hw 6 rfl) (tw hw 7 rfl) e2 (g := (mkF m 13 (q_6 u) [])) rfl (hb hby d48_13) (by decide) (by decide)
  obtain ⟨b3, g3⟩ : ∃ z, z = h0.size := ⟨_, rfl⟩
  rw [← g3] at A3 D3 U3 st3
  have g_b3 : n0 ≤ b3 := by rw [g3]; exact Nat.le_trans (Nat.le_of_eq O0.1.symm) O0.2.1
  have sz_b3 : h0.size ≤ b3 := by rw [g3]; exact (Keep.refl h0 []).1
  have O4 := O0.ext E3
  have kp5 : Keep h0 h3 [] := (Keep.refl h0 []).ext E3
  have F_value_b3 : Fld Z h3 b3 "java/lang/String" "value" "[B" .null := D3 (Or.inr (tw hw 21 rfl)) (ty := (.array .byte)) (by decide)
  have F_coder_b3 : Fld Z h3 b3 "java/lang/String" "coder" "B" (.int (0 : Int32)) := D3 (Or.inr (tw hw 22 rfl)) (ty := .byte) (by decide)
  obtain ⟨_, T6, Lc6, X6, hQ6, st6⟩ := own_sc X3 hx hZ (y := Y_51) hown (tw hw 351 rfl) (tw hw 352 rfl) (by decide) (rl_tb l Z a0 hw [] G1 Fm u h3 n0 O4 ST ) (tw hw 353 rfl) (tw hw 258 rfl) e3 (W := 2) (by decide) (by decide) (Ls := (q_6 u)) (by rw [hml]; rfl) (argsL := [(.int (cv u))]) (rest := [(.ref b3), (.ref b3)]) (lenOf pd10 rfl) (Nat.le_of_eq rfl) (hb hby d48_18) rfl (by decide) (by decide)
  obtain ⟨h6, e6⟩ : ∃ z, T6.heap = z := ⟨_, rfl⟩
  rw [e6] at hQ6
  obtain ⟨t6, kt6, rfl, Nq6, K6, szt6, Bt6, Et6⟩ := hQ6
  have N6 := Fr.app N2 Nq6
  have O7 := O4.keep K6 all0
  have kp8 : Keep h0 h6 [] := kp5.trans K6 all0
  have V_t6 := Bt6.1
  have lt_t6 := V_t6.lt
  have lt_b3_t6 : b3 < t6 := Nat.lt_of_lt_of_le A3.lt szt6
  have sz_t6 := Nat.le_trans kp5.1 szt6
  obtain ⟨_, T9, Lc9, X9, hQ9, st9⟩ := own_ic X6 hx hZ (y := Y_21) rfl hown (tw hw 300 rfl) (tw hw 301 rfl) (by decide) (rs_ib0 l Z a0 hw [] G1 Fm b3 t6 h6 n0 O7 ST (A3.keep K6) (F_value_b3.keep K6 nin0) (F_coder_b3.keep K6 nin0) g_b3) (tw hw 302 rfl) (tw hw 7 rfl) e6 (W := 1) (by decide) (by decide) (Ls := (q_6 u)) (by rw [hml]; rfl) (b := b3) (argsL := [(.ref t6), (.int (0 : Int32))]) (rest := [(.ref b3)]) (lenOf pd11 rfl) (Nat.le_of_eq rfl) (hb hby d48_22) rfl (by decide) (by decide)
  obtain ⟨h9, e9⟩ : ∃ z, T9.heap = z := ⟨_, rfl⟩
  rw [e9] at hQ9
  obtain ⟨rfl, Nq9, K9, Ei9, Fc9, Fv9⟩ := hQ9
  have N9 := Fr.app N6 Nq9
  have O10 := O7.keep K9 (allS g_b3 all0)
  have kp11 : Keep h0 h9 [] := kp8.trans K9 (allS (Or.inr sz_b3) all0)
  obtain ⟨fs, hr, hrun, hended, hW, hsame⟩ := X9.leave (v := some (.ref b3)) (fun h => by rw [Bd.returns] at h; cases h)
  refine ⟨_, _, castTop (ef_rs_vo0 m (cv u)) ?_, hrun, hended, _, _, rfl, ?_, ⟨_, rfl⟩, hW, hsame.mono (by decide) (by decide)⟩
  · refine st1 _ ?_
    show Go p e below T1 m 3 (q_6 u) [(.int G1)] _
    refine XS.ifNo X1.here hx rfl (hb hby d48_3) rfl ((if0 _ _).trans (feq hG).1) ?_
    refine XS.iloadN X1.here hx rfl (hb hby d48_6) rfl ?_
    refine st2 _ ?_
    show Go p e below T2 m 10 (q_6 u) [(.int (1 : Int32))] _
    refine XS.ifNo X2.here hx rfl (hb hby d48_10) rfl ((if0 _ _).trans (feq (by decide)).1) ?_
    refine st3 _ ?_
    show Go p e below T3 m 16 (q_6 u) [(.ref b3)] _
    refine XS.dup X3.here hx rfl (hb hby d48_16) rfl rfl ?_
    refine XS.iloadN X3.here hx rfl (hb hby d48_17) rfl ?_
    refine st6 _ ?_
    show Go p e below T6 m 21 (q_6 u) [(.ref t6), (.ref b3), (.ref b3)] _
    refine XS.iconst X6.here hx rfl (hb hby d48_21) ?_
    refine st9 _ ?_
    show Go p e below T9 m 25 (q_6 u) [(.ref b3)] _
    exact retOut X9 hx Bd.returns rfl (Or.inr (Or.inr (Or.inr (Or.inr ⟨rfl, rfl, rfl⟩)))) (hb hby d48_25) hr
  · show Qs Z [u] h0 n0 _ T9.heap _
    rw [e9]
    exact ⟨b3, t6, _, rfl, N9, kp11, sz_b3, sz_t6, Or.inl ⟨Ei9, Fc9, Fv9, ⟨(V_t6.keep K9 (ninS (Ne.symm (Nat.ne_of_lt lt_b3_t6)) nin0)), rfl⟩, own_all1 hu⟩⟩
theorem d48_26 : Dc cb18 26 (.new 10) 3 := by decide +kernel
theorem d48_29 : Dc cb18 29 .dup 1 := by decide +kernel
theorem d48_30 : Dc cb18 30 (.iload_n 0) 1 := by decide +kernel
theorem d48_31 : Dc cb18 31 (.invokestatic 1021) 3 := by decide +kernel
theorem d48_34 : Dc cb18 34 (.iconst 1) 1 := by decide +kernel
theorem d48_35 : Dc cb18 35 (.invokespecial 209) 3 := by decide +kernel
theorem d48_38 : Dc cb18 38 .areturn 1 := by decide +kernel
theorem ef_rs_vo1 (m : MethodId) (x0 : Int32) : entryFrame m #[(.int x0)] 1 = mkF m 0 #[.val (.int x0)] [] := by first | (simp [entryFrame, mkF, argsToLocals, Value.category]; done) | rfl
set_option maxRecDepth 65536 in
set_option maxHeartbeats 40000000 in
theorem rs_vo1 (l : Launch) (Z : State) (a0 : Array Value) (hw : Hw a0 Z) (ws : List Jvm.Cond) (G1 : Int32) (Fm : Value) (u : UInt16) (h0 : Heap) (n0 : Nat) (O0 : Old Z n0 h0) (ST : Stc Z G1 Fm) (hu : (255 : Int32) < (cv u)) :
    Met l Z h0 ws Y_22 jdk_42_method_139_code 1 (some (.object "java/lang/String")) R_12 #[(.int (cv u))] (Qs Z [u] h0 n0) := by
  refine MetFree.of_bodySF (plainFor_of_name pn2) hisR ?_
  intro p e s m args below meth c s₁ Bd hml0 hP hK
  obtain ⟨rfl, hZ, hh⟩ := hP
  have hx := Bd.exec
  have hby := Bd.bytes
  have hml : c.maxLocals = 1 := hml0
  have hown : s.vm.findClass "java/lang/String" = some m.cls := findClass_of_methodNamed Bd.named
  have hnm := (name_of_methodNamed Bd.named Bd.method).1
  have X0 : Stand p l e R_12 s m #[(.int (cv u))] below meth c s₁ [] 0 0 := Stand.of_body Bd
  have e0 : s₁.heap = h0 := by rw [← hh, Bd.state]; rfl
  have N0 := Fr.nil n0
  obtain ⟨S_cs, hG, S_fm, hF, S_ad, S_hi, S_lo⟩ := id ST
  obtain ⟨T1, X1, e1, st1⟩ := getS2 X0 hx hZ hown (host := "") (Or.inl (tw hw 38 rfl)) Via.refl e0 (S_cs.ext O0.2) (g := (mkF m 0 (q_6 u) [])) rfl (hb hby d48_0)
  obtain ⟨_, T2, Lc2, X2, hQ2, st2⟩ := own_sc X1 hx hZ (y := Y_20) hown (tw hw 287 rfl) (tw hw 288 rfl) (by decide) (rl_ce0 l Z a0 hw [] G1 Fm u h0 n0 O0 ST hu) (tw hw 289 rfl) (tw hw 258 rfl) e1 (W := 0) (by decide) (by decide) (Ls := (q_6 u)) (by rw [hml]; rfl) (argsL := [(.int (cv u))]) (rest := []) (lenOf pd9 rfl) (Nat.le_of_eq rfl) (hb hby d48_7) rfl (by decide) (by decide)
  obtain ⟨rfl, Nq2, e2⟩ := hQ2
  have N2 := Fr.app N0 Nq2
  obtain ⟨T3, h3, X3, e3, E3, A3, D3, U3, st3⟩ := newO X2 hx hZ hown (tw hw 290 rfl) (tw hw 6 rfl) (tw hw 7 rfl) e2 (g := (mkF m 26 (q_6 u) [])) rfl (hb hby d48_26) (by decide) (by decide)
  obtain ⟨b3, g3⟩ : ∃ z, z = h0.size := ⟨_, rfl⟩
  rw [← g3] at A3 D3 U3 st3
  have g_b3 : n0 ≤ b3 := by rw [g3]; exact Nat.le_trans (Nat.le_of_eq O0.1.symm) O0.2.1
  have sz_b3 : h0.size ≤ b3 := by rw [g3]; exact (Keep.refl h0 []).1
  have O4 := O0.ext E3
  have kp5 : Keep h0 h3 [] := (Keep.refl h0 []).ext E3
  have F_value_b3 : Fld Z h3 b3 "java/lang/String" "value" "[B" .null := D3 (Or.inr (tw hw 21 rfl)) (ty := (.array .byte)) (by decide)
  have F_coder_b3 : Fld Z h3 b3 "java/lang/String" "coder" "B" (.int (0 : Int32)) := D3 (Or.inr (tw hw 22 rfl)) (ty := .byte) (by decide)
  obtain ⟨_, T6, Lc6, X6, hQ6, st6⟩ := own_sc X3 hx hZ (y := Y_50) hown (tw hw 291 rfl) (tw hw 292 rfl) (by decide) (ru_tbc l Z a0 hw [] G1 Fm u h3 n0 O4 ST ) (tw hw 293 rfl) (tw hw 270 rfl) e3 (W := 2) (by decide) (by decide) (Ls := (q_6 u)) (by rw [hml]; rfl) (argsL := [(.int (cv u))]) (rest := [(.ref b3), (.ref b3)]) (lenOf pd10 rfl) (Nat.le_of_eq rfl) (hb hby d48_31) rfl (by decide) (by decide)
  obtain ⟨h6, e6⟩ : ∃ z, T6.heap = z := ⟨_, rfl⟩
  rw [e6] at hQ6
  obtain ⟨t6, kt6, rfl, Nq6, K6, szt6, Bt6, Et6⟩ := hQ6
  have N6 := Fr.app N2 Nq6
  have O7 := O4.keep K6 all0
  have kp8 : Keep h0 h6 [] := kp5.trans K6 all0
  have V_t6 := Bt6.1
  have lt_t6 := V_t6.lt
  have lt_b3_t6 : b3 < t6 := Nat.lt_of_lt_of_le A3.lt szt6
  have sz_t6 := Nat.le_trans kp5.1 szt6
  obtain ⟨_, T9, Lc9, X9, hQ9, st9⟩ := own_ic X6 hx hZ (y := Y_21) rfl hown (tw hw 300 rfl) (tw hw 301 rfl) (by decide) (rs_ib1 l Z a0 hw [] G1 Fm b3 t6 h6 n0 O7 ST (A3.keep K6) (F_value_b3.keep K6 nin0) (F_coder_b3.keep K6 nin0) g_b3) (tw hw 302 rfl) (tw hw 7 rfl) e6 (W := 1) (by decide) (by decide) (Ls := (q_6 u)) (by rw [hml]; rfl) (b := b3) (argsL := [(.ref t6), (.int (1 : Int32))]) (rest := [(.ref b3)]) (lenOf pd11 rfl) (Nat.le_of_eq rfl) (hb hby d48_35) rfl (by decide) (by decide)
  obtain ⟨h9, e9⟩ : ∃ z, T9.heap = z := ⟨_, rfl⟩
  rw [e9] at hQ9
  obtain ⟨rfl, Nq9, K9, Ei9, Fc9, Fv9⟩ := hQ9
  have N9 := Fr.app N6 Nq9
  have O10 := O7.keep K9 (allS g_b3 all0)
  have kp11 : Keep h0 h9 [] := kp8.trans K9 (allS (Or.inr sz_b3) all0)
  obtain ⟨fs, hr, hrun, hended, hW, hsame⟩ := X9.leave (v := some (.ref b3)) (fun h => by rw [Bd.returns] at h; cases h)
  refine ⟨_, _, castTop (ef_rs_vo1 m (cv u)) ?_, hrun, hended, _, _, rfl, ?_, ⟨_, rfl⟩, hW, hsame.mono (by decide) (by decide)⟩
  · refine st1 _ ?_
    show Go p e below T1 m 3 (q_6 u) [(.int G1)] _
    refine XS.ifNo X1.here hx rfl (hb hby d48_3) rfl ((if0 _ _).trans (feq hG).1) ?_
    refine XS.iloadN X1.here hx rfl (hb hby d48_6) rfl ?_
    refine st2 _ ?_
    show Go p e below T2 m 10 (q_6 u) [(.int (0 : Int32))] _
    refine XS.ifYes X2.here hx rfl (pc0 := 10) (pc' := 26) rfl (hb hby d48_10) rfl ((if0 _ _).trans (teq (by decide)).1) (by decide) (by decide) ?_
    refine st3 _ ?_
    show Go p e below T3 m 29 (q_6 u) [(.ref b3)] _
    refine XS.dup X3.here hx rfl (hb hby d48_29) rfl rfl ?_
    refine XS.iloadN X3.here hx rfl (hb hby d48_30) rfl ?_
    refine st6 _ ?_
    show Go p e below T6 m 34 (q_6 u) [(.ref t6), (.ref b3), (.ref b3)] _
    refine XS.iconst X6.here hx rfl (hb hby d48_34) ?_
    refine st9 _ ?_
    show Go p e below T9 m 38 (q_6 u) [(.ref b3)] _
    exact retOut X9 hx Bd.returns rfl (Or.inr (Or.inr (Or.inr (Or.inr ⟨rfl, rfl, rfl⟩)))) (hb hby d48_38) hr
  · show Qs Z [u] h0 n0 _ T9.heap _
    rw [e9]
    exact ⟨b3, t6, _, rfl, N9, kp11, sz_b3, sz_t6, Or.inr ⟨Ei9, Fc9, Fv9, ⟨(V_t6.keep K9 (ninS (Ne.symm (Nat.ne_of_lt lt_b3_t6)) nin0)), rfl⟩⟩⟩
def Qcm (Z : State) (a : Addr) (r : Int32) (P : Heap → Prop) (h0 : Heap) (n0 : Nat) (v : Option Value) (h : Heap) (Lc : List Loc) : Prop := v = some (.int r) ∧ Fr n0 Lc ∧ Keep h0 h [a] ∧ P h
theorem own_q0 (ds : List Int32) (cs : List UInt16) : puts ds cs.length (cs.drop cs.length) = ds := by rw [List.drop_length]; rfl
theorem own_q1 {ds : List Int32} {cs : List UInt16} {j : Nat} (h : j < cs.length) : puts ds j (cs.drop j) = puts (put ds j (cs.getD j 0)) (j + 1) (cs.drop (j + 1)) := by rw [own_drop h]; rfl
theorem own_s0 (ds : List Int32) (cs : List UInt16) : sets ds cs.length (cs.drop cs.length) = ds := by rw [List.drop_length]; rfl
theorem own_s1 {ds : List Int32} {cs : List UInt16} {j : Nat} (h : j < cs.length) : sets ds j (cs.drop j) = sets (ds.set j (cLo (cs.getD j 0))) (j + 1) (cs.drop (j + 1)) := by rw [own_drop h]; rfl
theorem own_putsz (cs : List UInt16) : puts (List.replicate (2 * cs.length) 0) 0 cs = enc1 cs := by
  rw [puts_eq _ _ _ (by simp)]; simp
theorem own_setsz (cs : List UInt16) : sets (List.replicate cs.length 0) 0 cs = cs.map cLo := by
  rw [sets_eq _ _ _ (by simp)]; simp
theorem d61_0 : Dc cb19 0 (.iload_n 2) 1 := by decide +kernel
theorem d61_1 : Dc cb19 1 (.iload_n 0) 1 := by decide +kernel
theorem d61_2 : Dc cb19 2 .ior 1 := by decide +kernel
theorem d61_3 : Dc cb19 3 (.iload_n 1) 1 := by decide +kernel
theorem d61_4 : Dc cb19 4 .ior 1 := by decide +kernel
theorem d61_5 : Dc cb19 5 (.ifCond .lt 10) 3 := by decide +kernel
theorem d61_8 : Dc cb19 8 (.iload_n 1) 1 := by decide +kernel
theorem d61_9 : Dc cb19 9 (.iload_n 2) 1 := by decide +kernel
theorem d61_10 : Dc cb19 10 (.iload_n 0) 1 := by decide +kernel
theorem d61_11 : Dc cb19 11 .isub 1 := by decide +kernel
theorem d61_12 : Dc cb19 12 (.if_icmp .le 11) 3 := by decide +kernel
theorem d61_23 : Dc cb19 23 (.iload_n 0) 1 := by decide +kernel
theorem d61_24 : Dc cb19 24 .ireturn 1 := by decide +kernel
theorem ef_rp_fs (m : MethodId) (x0 : Int32) (x1 : Int32) (x2 : Int32) (x3 : Value) (hr : x3.isRef = true) : entryFrame m #[(.int x0), (.int x1), (.int x2), x3] 4 = mkF m 0 #[.val (.int x0), .val (.int x1), .val (.int x2), .val x3] [] := by cases x3 <;> first | (simp [entryFrame, mkF, argsToLocals, Value.category]; done) | (simp [Value.isRef] at hr; done) | rfl
set_option maxRecDepth 65536 in
set_option maxHeartbeats 40000000 in
theorem rp_fs (l : Launch) (Z : State) (a0 : Array Value) (hw : Hw a0 Z) (ws : List Jvm.Cond) (G1 : Int32) (Fm : Value) (i1 : Nat) (i2 : Nat) (i3 : Nat) (h0 : Heap) (n0 : Nat) (O0 : Old Z n0 h0) (ST : Stc Z G1 Fm) (hi : i1 + i2 ≤ i3) (hB : i3 ≤ 500) :
    Met l Z h0 ws Y_52 jdk_41_method_13_code 4 (some .int) R_0 #[(.int (Int32.ofNat i1)), (.int (Int32.ofNat i2)), (.int (Int32.ofNat i3)), Fm] (Qpure (some (.int (Int32.ofNat i1))) h0 n0) := by
  refine MetFree.of_bodySF (plainFor_of_name pn1) hisR ?_
  intro p e s m args below meth c s₁ Bd hml0 hP hK
  obtain ⟨rfl, hZ, hh⟩ := hP
  have hx := Bd.exec
  have hby := Bd.bytes
  have hml : c.maxLocals = 4 := hml0
  have hown : s.vm.findClass "jdk/internal/util/Preconditions" = some m.cls := findClass_of_methodNamed Bd.named
  have hnm := (name_of_methodNamed Bd.named Bd.method).1
  have X0 : Stand p l e R_0 s m #[(.int (Int32.ofNat i1)), (.int (Int32.ofNat i2)), (.int (Int32.ofNat i3)), Fm] below meth c s₁ [] 0 0 := Stand.of_body Bd
  have e0 : s₁.heap = h0 := by rw [← hh, Bd.state]; rfl
  have N0 := Fr.nil n0
  obtain ⟨S_cs, hG, S_fm, hF, S_ad, S_hi, S_lo⟩ := id ST
  have pf1 : ∀ target, Go p e below s₁ m 5 (q_30 i1 i2 i3 Fm) [(.int (Int32.ofNat ((i3 ||| i1) ||| i2)))] target → Go p e below s₁ m 0 (q_30 i1 i2 i3 Fm) [] target := by
    intro target k
    show Go p e below s₁ m 0 (q_30 i1 i2 i3 Fm) [] _
    refine XS.iloadN X0.here hx rfl (hb hby d61_0) rfl ?_
    refine XS.iloadN X0.here hx rfl (hb hby d61_1) rfl ?_
    refine XS.ior X0.here hx rfl (hb hby d61_2) rfl ?_
    show Go p e below s₁ m 3 (q_30 i1 i2 i3 Fm) [(.int ((Int32.ofNat i3) ||| (Int32.ofNat i1)))] _
    rw [show ((Int32.ofNat i3) ||| (Int32.ofNat i1)) = (Int32.ofNat (i3 ||| i1)) from own_or i3 i1]
    show Go p e below s₁ m 3 (q_30 i1 i2 i3 Fm) [(.int (Int32.ofNat (i3 ||| i1)))] _
    refine XS.iloadN X0.here hx rfl (hb hby d61_3) rfl ?_
    refine XS.ior X0.here hx rfl (hb hby d61_4) rfl ?_
    show Go p e below s₁ m 5 (q_30 i1 i2 i3 Fm) [(.int ((Int32.ofNat (i3 ||| i1)) ||| (Int32.ofNat i2)))] _
    rw [show ((Int32.ofNat (i3 ||| i1)) ||| (Int32.ofNat i2)) = (Int32.ofNat ((i3 ||| i1) ||| i2)) from own_or (i3 ||| i1) i2]
    exact k
  have pf2 : ∀ target, Go p e below s₁ m 12 (q_30 i1 i2 i3 Fm) [(.int (Int32.ofNat (i3 - i1))), (.int (Int32.ofNat i2))] target → Go p e below s₁ m 5 (q_30 i1 i2 i3 Fm) [(.int (Int32.ofNat ((i3 ||| i1) ||| i2)))] target := by
    intro target k
    show Go p e below s₁ m 5 (q_30 i1 i2 i3 Fm) [(.int (Int32.ofNat ((i3 ||| i1) ||| i2)))] _
    refine XS.ifNo X0.here hx rfl (hb hby d61_5) rfl ((if0 _ _).trans (flt (own_nn (Nat.or_lt_two_pow (n := 31) (Nat.or_lt_two_pow (n := 31) (by omega) (by omega)) (by omega)))).1) ?_
    refine XS.iloadN X0.here hx rfl (hb hby d61_8) rfl ?_
    refine XS.iloadN X0.here hx rfl (hb hby d61_9) rfl ?_
    refine XS.iloadN X0.here hx rfl (hb hby d61_10) rfl ?_
    refine XS.isub X0.here hx rfl (hb hby d61_11) rfl ?_
    show Go p e below s₁ m 12 (q_30 i1 i2 i3 Fm) [(.int ((Int32.ofNat i3) - (Int32.ofNat i1))), (.int (Int32.ofNat i2))] _
    rw [show ((Int32.ofNat i3) - (Int32.ofNat i1)) = (Int32.ofNat (i3 - i1)) from own_sub (a := i3) (b := i1) (by omega)]
    exact k
  obtain ⟨fs, hr, hrun, hended, hW, hsame⟩ := X0.leave (v := some (.int (Int32.ofNat i1))) (fun h => by rw [Bd.returns] at h; cases h)
  refine ⟨_, _, castTop (ef_rp_fs m (Int32.ofNat i1) (Int32.ofNat i2) (Int32.ofNat i3) Fm ST.2.2.2.1) ?_, hrun, hended, _, _, rfl, ?_, ⟨_, rfl⟩, hW, hsame.mono (by decide) (by decide)⟩
  · refine pf1 _ ?_
    refine pf2 _ ?_
    show Go p e below s₁ m 12 (q_30 i1 i2 i3 Fm) [(.int (Int32.ofNat (i3 - i1))), (.int (Int32.ofNat i2))] _
    refine XS.icmpYes X0.here hx rfl (pc0 := 12) (pc' := 23) rfl (hb hby d61_12) rfl (flt (fun q => absurd ((own_lt (a := i3 - i1) (b := i2) (by omega) (by omega)).mp q) (by omega))).2.2.2 (by decide) (by decide) ?_
    refine XS.iloadN X0.here hx rfl (hb hby d61_23) rfl ?_
    show Go p e below s₁ m 24 (q_30 i1 i2 i3 Fm) [(.int (Int32.ofNat i1))] _
    exact retI X0 hx Bd.returns (hb hby d61_24) hr
  · show Qpure (some (.int (Int32.ofNat i1))) h0 n0 _ s₁.heap _
    rw [e0]
    exact ⟨rfl, N0, rfl⟩
theorem d60_0 : Dc cb20 0 (.iload_n 0) 1 := by decide +kernel
theorem d60_1 : Dc cb20 1 (.iload_n 1) 1 := by decide +kernel
theorem d60_2 : Dc cb20 2 (.iload_n 2) 1 := by decide +kernel
theorem d60_3 : Dc cb20 3 (.getstatic 1053) 3 := by decide +kernel
theorem d60_6 : Dc cb20 6 (.invokestatic 1065) 3 := by decide +kernel
theorem pd12 : parseMethodDescriptor "(IIILjava/util/function/BiFunction;)I" = some ⟨[.int, .int, .int, (.object "java/util/function/BiFunction")], some .int⟩ := by decide +kernel
theorem d60_9 : Dc cb20 9 .ireturn 1 := by decide +kernel
theorem ef_rs_bo (m : MethodId) (x0 : Int32) (x1 : Int32) (x2 : Int32) : entryFrame m #[(.int x0), (.int x1), (.int x2)] 3 = mkF m 0 #[.val (.int x0), .val (.int x1), .val (.int x2)] [] := by first | (simp [entryFrame, mkF, argsToLocals, Value.category]; done) | rfl
set_option maxRecDepth 65536 in
set_option maxHeartbeats 40000000 in
theorem rs_bo (l : Launch) (Z : State) (a0 : Array Value) (hw : Hw a0 Z) (ws : List Jvm.Cond) (G1 : Int32) (Fm : Value) (i1 : Nat) (i2 : Nat) (i3 : Nat) (h0 : Heap) (n0 : Nat) (O0 : Old Z n0 h0) (ST : Stc Z G1 Fm) (hi : i1 + i2 ≤ i3) (hB : i3 ≤ 500) :
    Met l Z h0 ws Y_53 jdk_42_method_157_code 3 (some .int) R_34 #[(.int (Int32.ofNat i1)), (.int (Int32.ofNat i2)), (.int (Int32.ofNat i3))] (Qpure (some (.int (Int32.ofNat i1))) h0 n0) := by
  refine MetFree.of_bodySF (plainFor_of_name pn2) hisR ?_
  intro p e s m args below meth c s₁ Bd hml0 hP hK
  obtain ⟨rfl, hZ, hh⟩ := hP
  have hx := Bd.exec
  have hby := Bd.bytes
  have hml : c.maxLocals = 3 := hml0
  have hown : s.vm.findClass "java/lang/String" = some m.cls := findClass_of_methodNamed Bd.named
  have hnm := (name_of_methodNamed Bd.named Bd.method).1
  have X0 : Stand p l e R_34 s m #[(.int (Int32.ofNat i1)), (.int (Int32.ofNat i2)), (.int (Int32.ofNat i3))] below meth c s₁ [] 0 0 := Stand.of_body Bd
  have e0 : s₁.heap = h0 := by rw [← hh, Bd.state]; rfl
  have N0 := Fr.nil n0
  obtain ⟨S_cs, hG, S_fm, hF, S_ad, S_hi, S_lo⟩ := id ST
  obtain ⟨T1, X1, e1, st1⟩ := getS2 X0 hx hZ hown (host := "") (Or.inl (tw hw 263 rfl)) Via.refl e0 (S_fm.ext O0.2) (g := (mkF m 3 (q_61 i1 i2 i3) [(.int (Int32.ofNat i3)), (.int (Int32.ofNat i2)), (.int (Int32.ofNat i1))])) rfl (hb hby d60_3)
  obtain ⟨_, T2, Lc2, X2, hQ2, st2⟩ := own_sc X1 hx hZ (y := Y_52) hown (tw hw 331 rfl) (tw hw 332 rfl) (by decide) (rp_fs l Z a0 hw [] G1 Fm i1 i2 i3 h0 n0 O0 ST hi hB) (tw hw 333 rfl) (tw hw 264 rfl) e1 (W := 0) (by decide) (by decide) (Ls := (q_61 i1 i2 i3)) (by rw [hml]; rfl) (argsL := [(.int (Int32.ofNat i1)), (.int (Int32.ofNat i2)), (.int (Int32.ofNat i3)), Fm]) (rest := []) (lenOf pd12 rfl) (Nat.le_of_eq rfl) (hb hby d60_6) rfl (by decide) (by decide)
  obtain ⟨rfl, Nq2, e2⟩ := hQ2
  have N2 := Fr.app N0 Nq2
  obtain ⟨fs, hr, hrun, hended, hW, hsame⟩ := X2.leave (v := some (.int (Int32.ofNat i1))) (fun h => by rw [Bd.returns] at h; cases h)
  refine ⟨_, _, castTop (ef_rs_bo m (Int32.ofNat i1) (Int32.ofNat i2) (Int32.ofNat i3)) ?_, hrun, hended, _, _, rfl, ?_, ⟨_, rfl⟩, hW, hsame.mono (by decide) (by decide)⟩
  · show Go p e below s₁ m 0 (q_61 i1 i2 i3) [] _
    refine XS.iloadN X0.here hx rfl (hb hby d60_0) rfl ?_
    refine XS.iloadN X0.here hx rfl (hb hby d60_1) rfl ?_
    refine XS.iloadN X0.here hx rfl (hb hby d60_2) rfl ?_
    refine st1 _ ?_
    refine st2 _ ?_
    show Go p e below T2 m 9 (q_61 i1 i2 i3) [(.int (Int32.ofNat i1))] _
    exact retI X2 hx Bd.returns (hb hby d60_9) hr
  · show Qpure (some (.int (Int32.ofNat i1))) h0 n0 _ T2.heap _
    rw [e2]
    exact ⟨rfl, N2, rfl⟩
theorem d58_0 : Dc cb21 0 (.iload_n 0) 1 := by decide +kernel
theorem d58_1 : Dc cb21 1 (.iload_n 1) 1 := by decide +kernel
theorem d58_2 : Dc cb21 2 (.aload_n 2) 1 := by decide +kernel
theorem d58_3 : Dc cb21 3 (.invokestatic 48) 3 := by decide +kernel
theorem d58_6 : Dc cb21 6 (.invokestatic 419) 3 := by decide +kernel
theorem pd13 : parseMethodDescriptor "(III)I" = some ⟨[.int, .int, .int], some .int⟩ := by decide +kernel
theorem d58_9 : Dc cb21 9 .pop 1 := by decide +kernel
theorem d58_10 : Dc cb21 10 .return_ 1 := by decide +kernel
theorem ef_ru_bo (m : MethodId) (x0 : Int32) (x1 : Int32) (x2 : Addr) : entryFrame m #[(.int x0), (.int x1), (.ref x2)] 3 = mkF m 0 #[.val (.int x0), .val (.int x1), .val (.ref x2)] [] := by first | (simp [entryFrame, mkF, argsToLocals, Value.category]; done) | rfl
set_option maxRecDepth 65536 in
set_option maxHeartbeats 40000000 in
theorem ru_bo (l : Launch) (Z : State) (a0 : Array Value) (hw : Hw a0 Z) (ws : List Jvm.Cond) (G1 : Int32) (Fm : Value) (a1 : Addr) (kA : ClassId) (LA : Nat) (vs : List Int32) (i1 : Nat) (i2 : Nat) (h0 : Heap) (n0 : Nat) (O0 : Old Z n0 h0) (ST : Stc Z G1 Fm) (B1 : Bar Z h0 a1 kA LA vs) (hB : LA ≤ 500) (hi : 2 * (i1 + i2) ≤ LA) :
    Met l Z h0 ws Y_54 jdk_52_method_94_code 3 none R_8 #[(.int (Int32.ofNat i1)), (.int (Int32.ofNat i2)), (.ref a1)] (Qpure none h0 n0) := by
  refine MetFree.of_bodySF (plainFor_of_name pn0) hisR ?_
  intro p e s m args below meth c s₁ Bd hml0 hP hK
  obtain ⟨rfl, hZ, hh⟩ := hP
  have hx := Bd.exec
  have hby := Bd.bytes
  have hml : c.maxLocals = 3 := hml0
  have hown : s.vm.findClass "java/lang/StringUTF16" = some m.cls := findClass_of_methodNamed Bd.named
  have hnm := (name_of_methodNamed Bd.named Bd.method).1
  have X0 : Stand p l e R_8 s m #[(.int (Int32.ofNat i1)), (.int (Int32.ofNat i2)), (.ref a1)] below meth c s₁ [] 0 0 := Stand.of_body Bd
  have e0 : s₁.heap = h0 := by rw [← hh, Bd.state]; rfl
  have N0 := Fr.nil n0
  obtain ⟨S_cs, hG, S_fm, hF, S_ad, S_hi, S_lo⟩ := id ST
  have V_a1 := B1.1
  have l_a1 := B1.2
  have hN_a1 : (Int32.ofNat LA).toNatClampNeg = vs.length := by rw [l_a1]; exact own_n (by omega)
  have lt_a1 := V_a1.lt
  obtain ⟨_, T1, Lc1, X1, hQ1, st1⟩ := own_sc X0 hx hZ (y := Y_31) hown (tw hw 325 rfl) (tw hw 326 rfl) (by decide) (ru_len l Z a0 hw [] G1 Fm a1 kA LA vs h0 n0 O0 ST B1 hB) (tw hw 327 rfl) (tw hw 270 rfl) e0 (W := 2) (by decide) (by decide) (Ls := (q_51 i1 i2 a1)) (by rw [hml]; rfl) (argsL := [(.ref a1)]) (rest := [(.int (Int32.ofNat i2)), (.int (Int32.ofNat i1))]) (lenOf pd1 rfl) (Nat.le_of_eq rfl) (hb hby d58_3) rfl (by decide) (by decide)
  obtain ⟨rfl, Nq1, e1⟩ := hQ1
  have N1 := Fr.app N0 Nq1
  obtain ⟨_, T2, Lc2, X2, hQ2, st2⟩ := own_sc X1 hx hZ (y := Y_53) hown (tw hw 328 rfl) (tw hw 329 rfl) (by decide) (rs_bo l Z a0 hw [] G1 Fm i1 i2 (LA / 2) h0 n0 O0 ST (by omega) (by omega)) (tw hw 330 rfl) (tw hw 7 rfl) e1 (W := 0) (by decide) (by decide) (Ls := (q_51 i1 i2 a1)) (by rw [hml]; rfl) (argsL := [(.int (Int32.ofNat i1)), (.int (Int32.ofNat i2)), (.int (Int32.ofNat (LA / 2)))]) (rest := []) (lenOf pd13 rfl) (Nat.le_of_eq rfl) (hb hby d58_6) rfl (by decide) (by decide)
  obtain ⟨rfl, Nq2, e2⟩ := hQ2
  have N2 := Fr.app N1 Nq2
  obtain ⟨fs, hr, hrun, hended, hW, hsame⟩ := X2.leave (v := none) (fun _ => rfl)
  refine ⟨_, _, castTop (ef_ru_bo m (Int32.ofNat i1) (Int32.ofNat i2) a1) ?_, hrun, hended, _, _, rfl, ?_, ⟨_, rfl⟩, hW, hsame.mono (by decide) (by decide)⟩
  · show Go p e below s₁ m 0 (q_51 i1 i2 a1) [] _
    refine XS.iloadN X0.here hx rfl (hb hby d58_0) rfl ?_
    refine XS.iloadN X0.here hx rfl (hb hby d58_1) rfl ?_
    refine XS.aloadN X0.here hx rfl (hb hby d58_2) rfl rfl ?_
    refine st1 _ ?_
    refine st2 _ ?_
    show Go p e below T2 m 9 (q_51 i1 i2 a1) [(.int (Int32.ofNat i1))] _
    refine XS.pop X2.here hx rfl (hb hby d58_9) rfl rfl ?_
    show Go p e below T2 m 10 (q_51 i1 i2 a1) [] _
    exact X2.returnOut hx Bd.returns (hb hby d58_10) hr
  · show Qpure none h0 n0 _ T2.heap _
    rw [e2]
    exact ⟨rfl, N2, rfl⟩
theorem d57_10 : Dc cb22 10 (.iload 5) 2 := by decide +kernel
theorem d57_12 : Dc cb22 12 (.iload 4) 2 := by decide +kernel
theorem d57_14 : Dc cb22 14 (.if_icmp .ge 27) 3 := by decide +kernel
theorem d57_17 : Dc cb22 17 (.aload_n 2) 1 := by decide +kernel
theorem d57_18 : Dc cb22 18 (.iload_n 3) 1 := by decide +kernel
theorem d57_19 : Dc cb22 19 (.iinc 3 1) 3 := by decide +kernel
theorem d57_22 : Dc cb22 22 (.aload_n 0) 1 := by decide +kernel
theorem d57_23 : Dc cb22 23 (.iload_n 1) 1 := by decide +kernel
theorem d57_24 : Dc cb22 24 (.iinc 1 1) 3 := by decide +kernel
theorem d57_27 : Dc cb22 27 .baload 1 := by decide +kernel
theorem d57_28 : Dc cb22 28 (.sipush 255) 3 := by decide +kernel
theorem d57_31 : Dc cb22 31 .iand 1 := by decide +kernel
theorem d57_32 : Dc cb22 32 (.invokestatic 111) 3 := by decide +kernel
theorem d57_35 : Dc cb22 35 (.iinc 5 1) 3 := by decide +kernel
theorem d57_38 : Dc cb22 38 (.goto (-28)) 3 := by decide +kernel
set_option maxRecDepth 65536 in
set_option maxHeartbeats 40000000 in
theorem pi_inf {p : Program} {l : Launch} {e : Env} {s : State} {m : MethodId} {args : Array Value} {below : List Frame} {meth : Method} {c : Code} {T0 : State} {locs : List Loc} {Z : State} {a0 : Array Value} {n0 : Nat} {h0 : Heap} (hw : Hw a0 Z) (X0 : Stand p l e R_9 s m args below meth c T0 locs 0 0) (hx : p.tables.exec = Jvm.exec) (hby : c.code = jdk_52_method_86_code) (hml : c.maxLocals = 6) (hZ : Z.Warmed39 s.vm) (hown : s.vm.findClass "java/lang/StringUTF16" = some m.cls) (e0 : T0.heap = h0) (N0 : Fr n0 locs) (O0 : Old Z n0 h0) (G1 : Int32) (Fm : Value) (a1 : Addr) (kA : ClassId) (LA : Nat) (vs : List Int32) (a2 : Addr) (kD : ClassId) (LD : Nat) (ds : List Int32) (cs : List UInt16) (d : Nat) (j : Nat) (ST : Stc Z G1 Fm) (B1 : Bar Z h0 a1 kA LA vs) (B2 : Bar Z h0 a2 kD LD ds) (hA : LA ≤ 500) (hD : LD ≤ 500) (hn : cs.length ≤ LA) (hsrc : ∀ j, j < cs.length → vs.getD j 0 = cLo (cs.getD j 0)) (hu : ∀ u ∈ cs, u < 256) (hd : 2 * (d + cs.length) ≤ LD) (hne : a1 ≠ a2) (g_a2 : n0 ≤ a2) (hlt : j < cs.length) :
    ∃ T' h' L', Stand p l e R_9 s m args below meth c T' L' 0 0 ∧ T'.heap = h' ∧ Fr n0 L' ∧ Old Z n0 h' ∧ Keep h0 h' [a2] ∧ Bar Z h' a2 kD LD (put ds (d + j) (cs.getD j 0)) ∧ ∀ target, Go p e below T' m 10 #[.val (.ref a1), .val (.int (Int32.ofNat (j + 1))), .val (.ref a2), .val (.int (Int32.ofNat (d + (j + 1)))), .val (.int (Int32.ofNat cs.length)), .val (.int (Int32.ofNat (j + 1)))] [] target → Go p e below T0 m 10 (q_80 a1 j a2 d cs) [] target := by
  obtain ⟨S_cs, hG, S_fm, hF, S_ad, S_hi, S_lo⟩ := id ST
  have V_a1 := B1.1
  have l_a1 := B1.2
  have hN_a1 : (Int32.ofNat LA).toNatClampNeg = vs.length := by rw [l_a1]; exact own_n (by omega)
  have lt_a1 := V_a1.lt
  have V_a2 := B2.1
  have l_a2 := B2.2
  have hN_a2 : (Int32.ofNat LD).toNatClampNeg = ds.length := by rw [l_a2]; exact own_n (by omega)
  have lt_a2 := V_a2.lt
  obtain ⟨cl1, Ar1, hin1, hat1⟩ := own_at (j := (Int32.ofNat j)) (i := j) V_a1 hN_a1 (own_nn (n := j) (by omega)) (own_n (n := j) (by omega)) (by omega)
  rw [show (vs.getD j 0) = (cLo (cs.getD j 0)) from hsrc j hlt] at hat1
  obtain ⟨_, T2, Lc2, X2, hQ2, st2⟩ := own_sc X0 hx hZ (y := Y_19) hown (tw hw 294 rfl) (tw hw 295 rfl) (by decide) (ru_put l Z a0 hw [] G1 Fm a2 kD LD ds (d + j) (cs.getD j 0) h0 n0 O0 ST B2 hD (by omega) g_a2) (tw hw 296 rfl) (tw hw 270 rfl) e0 (W := 0) (by decide) (by decide) (Ls := (q_52 a1 j a2 d cs)) (by rw [hml]; rfl) (argsL := [(.ref a2), (.int (Int32.ofNat (d + j))), (.int (cv (cs.getD j 0)))]) (rest := []) (lenOf pd8 rfl) (Nat.le_of_eq rfl) (hb hby d57_32) rfl (by decide) (by decide)
  obtain ⟨h2, e2⟩ : ∃ z, T2.heap = z := ⟨_, rfl⟩
  rw [e2] at hQ2
  obtain ⟨rfl, Nq2, K2, Bp2⟩ := hQ2
  have N2 := Fr.app N0 Nq2
  have O3 := O0.keep K2 (allS g_a2 all0)
  have kp4 : Keep h0 h2 [a2] := (Keep.refl h0 [a2]).trans K2 (allS (Or.inl (List.mem_of_getElem? (i := 0) rfl)) all0)
  refine ⟨T2, h2, _, X2, e2, N2, O3, kp4, Bp2, ?_⟩
  intro target k
  show Go p e below T0 m 10 (q_80 a1 j a2 d cs) [] _
  refine XS.iload X0.here hx rfl (hb hby d57_10) rfl ?_
  refine XS.iload X0.here hx rfl (hb hby d57_12) rfl ?_
  refine XS.icmpNo X0.here hx rfl (hb hby d57_14) rfl (tlt ((own_lt (a := j) (b := cs.length) (by omega) (by omega)).mpr (by omega))).2.1 ?_
  refine XS.aloadN X0.here hx rfl (hb hby d57_17) rfl rfl ?_
  refine XS.iloadN X0.here hx rfl (hb hby d57_18) rfl ?_
  refine XS.iinc X0.here hx rfl (hb hby d57_19) rfl (l' := #[.val (.ref a1), .val (.int (Int32.ofNat j)), .val (.ref a2), .val (.int ((Int32.ofNat (d + j)) + (1 : Int32))), .val (.int (Int32.ofNat cs.length)), .val (.int (Int32.ofNat j))]) rfl ?_
  show Go p e below T0 m 22 #[.val (.ref a1), .val (.int (Int32.ofNat j)), .val (.ref a2), .val (.int ((Int32.ofNat (d + j)) + (1 : Int32))), .val (.int (Int32.ofNat cs.length)), .val (.int (Int32.ofNat j))] [(.int (Int32.ofNat (d + j))), (.ref a2)] _
  rw [show ((Int32.ofNat (d + j)) + (1 : Int32)) = (Int32.ofNat (d + j + 1)) from own_add (d + j) 1]
  show Go p e below T0 m 22 #[.val (.ref a1), .val (.int (Int32.ofNat j)), .val (.ref a2), .val (.int (Int32.ofNat (d + j + 1))), .val (.int (Int32.ofNat cs.length)), .val (.int (Int32.ofNat j))] [(.int (Int32.ofNat (d + j))), (.ref a2)] _
  refine XS.aloadN X0.here hx rfl (hb hby d57_22) rfl rfl ?_
  refine XS.iloadN X0.here hx rfl (hb hby d57_23) rfl ?_
  refine XS.iinc X0.here hx rfl (hb hby d57_24) rfl (l' := #[.val (.ref a1), .val (.int ((Int32.ofNat j) + (1 : Int32))), .val (.ref a2), .val (.int (Int32.ofNat (d + j + 1))), .val (.int (Int32.ofNat cs.length)), .val (.int (Int32.ofNat j))]) rfl ?_
  show Go p e below T0 m 27 #[.val (.ref a1), .val (.int ((Int32.ofNat j) + (1 : Int32))), .val (.ref a2), .val (.int (Int32.ofNat (d + j + 1))), .val (.int (Int32.ofNat cs.length)), .val (.int (Int32.ofNat j))] [(.int (Int32.ofNat j)), (.ref a1), (.int (Int32.ofNat (d + j))), (.ref a2)] _
  rw [show ((Int32.ofNat j) + (1 : Int32)) = (Int32.ofNat (j + 1)) from own_add j 1]
  show Go p e below T0 m 27 (q_52 a1 j a2 d cs) [(.int (Int32.ofNat j)), (.ref a1), (.int (Int32.ofNat (d + j))), (.ref a2)] _
  refine X0.baloadBytes hx (j := (Int32.ofNat j)) (v := (.int (cLo (cs.getD j 0)))) (by rw [e0]; exact Ar1.1) (State.isArrayOf_alike hZ.alike Ar1.2.1) Ar1.2.2 hin1 hat1 (g := (mkF m 27 (q_52 a1 j a2 d cs) [(.int (Int32.ofNat j)), (.ref a1), (.int (Int32.ofNat (d + j))), (.ref a2)])) rfl rfl (hb hby d57_27) _ ?_
  show Go p e below T0 m 28 (q_52 a1 j a2 d cs) [(.int (cLo (cs.getD j 0))), (.int (Int32.ofNat (d + j))), (.ref a2)] _
  refine XS.sipush X0.here hx rfl (hb hby d57_28) ?_
  refine XS.iand X0.here hx rfl (hb hby d57_31) rfl ?_
  show Go p e below T0 m 32 (q_52 a1 j a2 d cs) [(.int ((cLo (cs.getD j 0)) &&& (255 : Int32))), (.int (Int32.ofNat (d + j))), (.ref a2)] _
  rw [show ((cLo (cs.getD j 0)) &&& (255 : Int32)) = (cv (cs.getD j 0)) from own_rd (own_up hu hlt)]
  refine st2 _ ?_
  show Go p e below T2 m 35 (q_52 a1 j a2 d cs) [] _
  refine XS.iinc X2.here hx rfl (hb hby d57_35) rfl (l' := #[.val (.ref a1), .val (.int (Int32.ofNat (j + 1))), .val (.ref a2), .val (.int (Int32.ofNat (d + j + 1))), .val (.int (Int32.ofNat cs.length)), .val (.int ((Int32.ofNat j) + (1 : Int32)))]) rfl ?_
  show Go p e below T2 m 38 #[.val (.ref a1), .val (.int (Int32.ofNat (j + 1))), .val (.ref a2), .val (.int (Int32.ofNat (d + j + 1))), .val (.int (Int32.ofNat cs.length)), .val (.int ((Int32.ofNat j) + (1 : Int32)))] [] _
  rw [show ((Int32.ofNat j) + (1 : Int32)) = (Int32.ofNat (j + 1)) from own_add j 1]
  show Go p e below T2 m 38 (q_85 a1 j a2 d cs) [] _
  refine XS.goto X2.here hx rfl (pc0 := 38) (pc' := 10) rfl (hb hby d57_38) (by decide) (by decide) ?_
  exact k
set_option maxHeartbeats 40000000 in
theorem lp_inf {p : Program} {l : Launch} {e : Env} {s : State} {m : MethodId} {args : Array Value} {below : List Frame} {meth : Method} {c : Code} {Z : State} {a0 : Array Value} {n0 : Nat} (hw : Hw a0 Z) (hx : p.tables.exec = Jvm.exec) (hby : c.code = jdk_52_method_86_code) (hml : c.maxLocals = 6) (hZ : Z.Warmed39 s.vm) (hown : s.vm.findClass "java/lang/StringUTF16" = some m.cls) (G1 : Int32) (Fm : Value) (ST : Stc Z G1 Fm) {a1 a2 : Addr} {kA kD : ClassId} {LA LD : Nat} {vs : List Int32} {cs : List UInt16} {d : Nat} (hA : LA ≤ 500) (hD : LD ≤ 500) (hn : cs.length ≤ LA) (hsrc : ∀ j, j < cs.length → vs.getD j 0 = cLo (cs.getD j 0)) (hu : ∀ u ∈ cs, u < 256) (hd : 2 * (d + cs.length) ≤ LD) (hne : a1 ≠ a2) (g_a2 : n0 ≤ a2) :
    ∀ (f j : Nat) (ds : List Int32) (T0 : State) (h0 : Heap) (locs : List Loc) (X0 : Stand p l e R_9 s m args below meth c T0 locs 0 0) (e0 : T0.heap = h0) (N0 : Fr n0 locs) (O0 : Old Z n0 h0) (B1 : Bar Z h0 a1 kA LA vs) (BD : Bar Z h0 a2 kD LD ds) (hf : cs.length - j = f) (hj : j ≤ cs.length),
      ∃ (T' : State) (h' : Heap) (L' : List Loc), Stand p l e R_9 s m args below meth c T' L' 0 0 ∧ T'.heap = h' ∧ Fr n0 L' ∧ Old Z n0 h' ∧ Keep h0 h' [a2] ∧ Bar Z h' a2 kD LD (puts ds (d + j) (cs.drop j)) ∧
        ∀ target, Go p e below T' m 10 (q_70 a1 cs a2 d) [] target → Go p e below T0 m 10 (q_80 a1 j a2 d cs) [] target := by
  intro f
  induction f with
  | zero =>
    intro j ds T0 h0 locs X0 e0 N0 O0 B1 BD hf hj
    have q : j = cs.length := by omega
    subst q
    exact ⟨T0, h0, locs, X0, e0, N0, O0, Keep.refl _ _, by rw [own_p0]; exact BD, fun _ k => k⟩
  | succ f ih =>
    intro j ds T0 h0 locs X0 e0 N0 O0 B1 BD hf hj
    have hlt : j < cs.length := by omega
    obtain ⟨T2, h2, L2, X2, e2, N2, O2, K2, B2, st2⟩ := pi_inf hw X0 hx hby hml hZ hown e0 N0 O0 G1 Fm a1 kA LA vs a2 kD LD ds cs d j ST B1 BD hA hD hn hsrc hu hd hne g_a2 hlt
    obtain ⟨T3, h3, L3, X3, e3, N3, O3, K3, B3, st3⟩ := ih (j + 1) (put ds (d + j) (cs.getD j 0)) T2 h2 L2 X2 e2 N2 O2 ⟨B1.1.keep K2 (ninS hne nin0), B1.2⟩ B2 (by omega) (by omega)
    exact ⟨T3, h3, L3, X3, e3, N3, O3, K2.trans K3 (allS (Or.inl (List.mem_of_getElem? (i := 0) rfl)) all0), by rw [own_p1 hlt]; exact B3, fun target k => st2 target (st3 target k)⟩
theorem d57_0 : Dc cb22 0 (.iload_n 3) 1 := by decide +kernel
theorem d57_1 : Dc cb22 1 (.iload 4) 2 := by decide +kernel
theorem d57_3 : Dc cb22 3 (.aload_n 2) 1 := by decide +kernel
theorem d57_4 : Dc cb22 4 (.invokestatic 173) 3 := by decide +kernel
theorem pd14 : parseMethodDescriptor "(II[B)V" = some ⟨[.int, .int, (.array .byte)], none⟩ := by decide +kernel
theorem d57_7 : Dc cb22 7 (.iconst 0) 1 := by decide +kernel
theorem d57_8 : Dc cb22 8 (.istore 5) 2 := by decide +kernel
theorem d57_41 : Dc cb22 41 .return_ 1 := by decide +kernel
theorem ef_ru_inf (m : MethodId) (x0 : Addr) (x1 : Int32) (x2 : Addr) (x3 : Int32) (x4 : Int32) : entryFrame m #[(.ref x0), (.int x1), (.ref x2), (.int x3), (.int x4)] 6 = mkF m 0 #[.val (.ref x0), .val (.int x1), .val (.ref x2), .val (.int x3), .val (.int x4), .unset] [] := by first | (simp [entryFrame, mkF, argsToLocals, Value.category]; done) | rfl
set_option maxRecDepth 65536 in
set_option maxHeartbeats 40000000 in
theorem ru_inf (l : Launch) (Z : State) (a0 : Array Value) (hw : Hw a0 Z) (ws : List Jvm.Cond) (G1 : Int32) (Fm : Value) (a1 : Addr) (kA : ClassId) (LA : Nat) (vs : List Int32) (a2 : Addr) (kD : ClassId) (LD : Nat) (ds : List Int32) (cs : List UInt16) (d : Nat) (h0 : Heap) (n0 : Nat) (O0 : Old Z n0 h0) (ST : Stc Z G1 Fm) (B1 : Bar Z h0 a1 kA LA vs) (B2 : Bar Z h0 a2 kD LD ds) (hA : LA ≤ 500) (hD : LD ≤ 500) (hn : cs.length ≤ LA) (hsrc : ∀ j, j < cs.length → vs.getD j 0 = cLo (cs.getD j 0)) (hu : ∀ u ∈ cs, u < 256) (hd : 2 * (d + cs.length) ≤ LD) (hne : a1 ≠ a2) (g_a2 : n0 ≤ a2) :
    Met l Z h0 ws Y_55 jdk_52_method_86_code 6 none R_9 #[(.ref a1), (.int (0 : Int32)), (.ref a2), (.int (Int32.ofNat d)), (.int (Int32.ofNat cs.length))] (Qwr Z a2 kD LD (puts ds d cs) h0 n0) := by
  refine MetFree.of_bodySF (plainFor_of_name pn0) hisR ?_
  intro p e s m args below meth c s₁ Bd hml0 hP hK
  obtain ⟨rfl, hZ, hh⟩ := hP
  have hx := Bd.exec
  have hby := Bd.bytes
  have hml : c.maxLocals = 6 := hml0
  have hown : s.vm.findClass "java/lang/StringUTF16" = some m.cls := findClass_of_methodNamed Bd.named
  have hnm := (name_of_methodNamed Bd.named Bd.method).1
  have X0 : Stand p l e R_9 s m #[(.ref a1), (.int (0 : Int32)), (.ref a2), (.int (Int32.ofNat d)), (.int (Int32.ofNat cs.length))] below meth c s₁ [] 0 0 := Stand.of_body Bd
  have e0 : s₁.heap = h0 := by rw [← hh, Bd.state]; rfl
  have N0 := Fr.nil n0
  obtain ⟨S_cs, hG, S_fm, hF, S_ad, S_hi, S_lo⟩ := id ST
  have V_a1 := B1.1
  have l_a1 := B1.2
  have hN_a1 : (Int32.ofNat LA).toNatClampNeg = vs.length := by rw [l_a1]; exact own_n (by omega)
  have lt_a1 := V_a1.lt
  have V_a2 := B2.1
  have l_a2 := B2.2
  have hN_a2 : (Int32.ofNat LD).toNatClampNeg = ds.length := by rw [l_a2]; exact own_n (by omega)
  have lt_a2 := V_a2.lt
  obtain ⟨_, T1, Lc1, X1, hQ1, st1⟩ := own_sc X0 hx hZ (y := Y_54) hown (tw hw 322 rfl) (tw hw 323 rfl) (by decide) (ru_bo l Z a0 hw [] G1 Fm a2 kD LD ds d cs.length h0 n0 O0 ST B2 hD hd) (tw hw 324 rfl) (tw hw 270 rfl) e0 (W := 0) (by decide) (by decide) (Ls := (q_71 a1 a2 d cs)) (by rw [hml]; rfl) (argsL := [(.int (Int32.ofNat d)), (.int (Int32.ofNat cs.length)), (.ref a2)]) (rest := []) (lenOf pd14 rfl) (Nat.le_of_eq rfl) (hb hby d57_4) rfl (by decide) (by decide)
  obtain ⟨rfl, Nq1, e1⟩ := hQ1
  have N1 := Fr.app N0 Nq1
  obtain ⟨T2, h2, L2, X2, e2, N2, Om2, K2, Bm2, st2⟩ := lp_inf hw hx hby hml hZ hown G1 Fm ST hA hD hn hsrc hu hd hne g_a2 cs.length 0 ds T1 h0 _ X1 e1 N1 O0 B1 B2 (by omega) (by omega)
  have O3 := O0.keep K2 (allS g_a2 all0)
  have kp4 : Keep h0 h2 [a2] := (Keep.refl h0 [a2]).trans K2 (allS (Or.inl (List.mem_of_getElem? (i := 0) rfl)) all0)
  have Vm2 := Bm2.1
  have hNm2 : (Int32.ofNat LD).toNatClampNeg = (puts ds (d + 0) (cs.drop 0)).length := by rw [Bm2.2]; exact own_n (by omega)
  have pf5 : ∀ target, Go p e below T2 m 14 (q_70 a1 cs a2 d) [(.int (Int32.ofNat cs.length)), (.int (Int32.ofNat cs.length))] target → Go p e below s₁ m 0 (q_71 a1 a2 d cs) [] target := by
    intro target k
    show Go p e below s₁ m 0 (q_71 a1 a2 d cs) [] _
    refine XS.iloadN X0.here hx rfl (hb hby d57_0) rfl ?_
    refine XS.iload X0.here hx rfl (hb hby d57_1) rfl ?_
    refine XS.aloadN X0.here hx rfl (hb hby d57_3) rfl rfl ?_
    refine st1 _ ?_
    show Go p e below T1 m 7 (q_71 a1 a2 d cs) [] _
    refine XS.iconst X1.here hx rfl (hb hby d57_7) ?_
    refine XS.istore X1.here hx rfl (hb hby d57_8) rfl (l' := #[.val (.ref a1), .val (.int (0 : Int32)), .val (.ref a2), .val (.int (Int32.ofNat d)), .val (.int (Int32.ofNat cs.length)), .val (.int (0 : Int32))]) rfl ?_
    refine st2 _ ?_
    show Go p e below T2 m 10 (q_70 a1 cs a2 d) [] _
    refine XS.iload X2.here hx rfl (hb hby d57_10) rfl ?_
    refine XS.iload X2.here hx rfl (hb hby d57_12) rfl ?_
    exact k
  obtain ⟨fs, hr, hrun, hended, hW, hsame⟩ := X2.leave (v := none) (fun _ => rfl)
  refine ⟨_, _, castTop (ef_ru_inf m a1 (0 : Int32) a2 (Int32.ofNat d) (Int32.ofNat cs.length)) ?_, hrun, hended, _, _, rfl, ?_, ⟨_, rfl⟩, hW, hsame.mono (by decide) (by decide)⟩
  · refine pf5 _ ?_
    show Go p e below T2 m 14 (q_70 a1 cs a2 d) [(.int (Int32.ofNat cs.length)), (.int (Int32.ofNat cs.length))] _
    refine XS.icmpYes X2.here hx rfl (pc0 := 14) (pc' := 41) rfl (hb hby d57_14) rfl (flt (fun q => absurd ((own_lt (a := cs.length) (b := cs.length) (by omega) (by omega)).mp q) (by omega))).2.1 (by decide) (by decide) ?_
    show Go p e below T2 m 41 (q_70 a1 cs a2 d) [] _
    exact X2.returnOut hx Bd.returns (hb hby d57_41) hr
  · show Qwr Z a2 kD LD (puts ds d cs) h0 n0 _ T2.heap _
    rw [e2]
    exact ⟨rfl, N2, kp4, Bm2⟩
theorem d56_0 : Dc cb23 0 (.aload_n 0) 1 := by decide +kernel
theorem d56_1 : Dc cb23 1 (.iload_n 1) 1 := by decide +kernel
theorem d56_2 : Dc cb23 2 (.aload_n 2) 1 := by decide +kernel
theorem d56_3 : Dc cb23 3 (.iload_n 3) 1 := by decide +kernel
theorem d56_4 : Dc cb23 4 (.iload 4) 2 := by decide +kernel
theorem d56_6 : Dc cb23 6 (.invokestatic 240) 3 := by decide +kernel
theorem pd15 : parseMethodDescriptor "([BI[BII)V" = some ⟨[(.array .byte), .int, (.array .byte), .int, .int], none⟩ := by decide +kernel
theorem d56_9 : Dc cb23 9 .return_ 1 := by decide +kernel
theorem ef_rl_inf (m : MethodId) (x0 : Addr) (x1 : Int32) (x2 : Addr) (x3 : Int32) (x4 : Int32) : entryFrame m #[(.ref x0), (.int x1), (.ref x2), (.int x3), (.int x4)] 5 = mkF m 0 #[.val (.ref x0), .val (.int x1), .val (.ref x2), .val (.int x3), .val (.int x4)] [] := by first | (simp [entryFrame, mkF, argsToLocals, Value.category]; done) | rfl
set_option maxRecDepth 65536 in
set_option maxHeartbeats 40000000 in
theorem rl_inf (l : Launch) (Z : State) (a0 : Array Value) (hw : Hw a0 Z) (ws : List Jvm.Cond) (G1 : Int32) (Fm : Value) (a1 : Addr) (kA : ClassId) (LA : Nat) (vs : List Int32) (a2 : Addr) (kD : ClassId) (LD : Nat) (ds : List Int32) (cs : List UInt16) (d : Nat) (h0 : Heap) (n0 : Nat) (O0 : Old Z n0 h0) (ST : Stc Z G1 Fm) (B1 : Bar Z h0 a1 kA LA vs) (B2 : Bar Z h0 a2 kD LD ds) (hA : LA ≤ 500) (hD : LD ≤ 500) (hn : cs.length ≤ LA) (hsrc : ∀ j, j < cs.length → vs.getD j 0 = cLo (cs.getD j 0)) (hu : ∀ u ∈ cs, u < 256) (hd : 2 * (d + cs.length) ≤ LD) (hne : a1 ≠ a2) (g_a2 : n0 ≤ a2) :
    Met l Z h0 ws Y_35 jdk_43_method_50_code 5 none R_35 #[(.ref a1), (.int (0 : Int32)), (.ref a2), (.int (Int32.ofNat d)), (.int (Int32.ofNat cs.length))] (Qwr Z a2 kD LD (puts ds d cs) h0 n0) := by
  refine MetFree.of_bodySF (plainFor_of_name pn3) hisR ?_
  intro p e s m args below meth c s₁ Bd hml0 hP hK
  obtain ⟨rfl, hZ, hh⟩ := hP
  have hx := Bd.exec
  have hby := Bd.bytes
  have hml : c.maxLocals = 5 := hml0
  have hown : s.vm.findClass "java/lang/StringLatin1" = some m.cls := findClass_of_methodNamed Bd.named
  have hnm := (name_of_methodNamed Bd.named Bd.method).1
  have X0 : Stand p l e R_35 s m #[(.ref a1), (.int (0 : Int32)), (.ref a2), (.int (Int32.ofNat d)), (.int (Int32.ofNat cs.length))] below meth c s₁ [] 0 0 := Stand.of_body Bd
  have e0 : s₁.heap = h0 := by rw [← hh, Bd.state]; rfl
  have N0 := Fr.nil n0
  obtain ⟨S_cs, hG, S_fm, hF, S_ad, S_hi, S_lo⟩ := id ST
  have V_a1 := B1.1
  have l_a1 := B1.2
  have hN_a1 : (Int32.ofNat LA).toNatClampNeg = vs.length := by rw [l_a1]; exact own_n (by omega)
  have lt_a1 := V_a1.lt
  have V_a2 := B2.1
  have l_a2 := B2.2
  have hN_a2 : (Int32.ofNat LD).toNatClampNeg = ds.length := by rw [l_a2]; exact own_n (by omega)
  have lt_a2 := V_a2.lt
  obtain ⟨_, T1, Lc1, X1, hQ1, st1⟩ := own_sc X0 hx hZ (y := Y_55) hown (tw hw 319 rfl) (tw hw 320 rfl) (by decide) (ru_inf l Z a0 hw [] G1 Fm a1 kA LA vs a2 kD LD ds cs d h0 n0 O0 ST B1 B2 hA hD hn hsrc hu hd hne g_a2) (tw hw 321 rfl) (tw hw 270 rfl) e0 (W := 0) (by decide) (by decide) (Ls := (q_74 a1 a2 d cs)) (by rw [hml]; rfl) (argsL := [(.ref a1), (.int (0 : Int32)), (.ref a2), (.int (Int32.ofNat d)), (.int (Int32.ofNat cs.length))]) (rest := []) (lenOf pd15 rfl) (Nat.le_of_eq rfl) (hb hby d56_6) rfl (by decide) (by decide)
  obtain ⟨h1, e1⟩ : ∃ z, T1.heap = z := ⟨_, rfl⟩
  rw [e1] at hQ1
  obtain ⟨rfl, Nq1, K1, Bi1⟩ := hQ1
  have N1 := Fr.app N0 Nq1
  have O2 := O0.keep K1 (allS g_a2 all0)
  have kp3 : Keep h0 h1 [a2] := (Keep.refl h0 [a2]).trans K1 (allS (Or.inl (List.mem_of_getElem? (i := 0) rfl)) all0)
  have BI := Bi1
  obtain ⟨fs, hr, hrun, hended, hW, hsame⟩ := X1.leave (v := none) (fun _ => rfl)
  refine ⟨_, _, castTop (ef_rl_inf m a1 (0 : Int32) a2 (Int32.ofNat d) (Int32.ofNat cs.length)) ?_, hrun, hended, _, _, rfl, ?_, ⟨_, rfl⟩, hW, hsame.mono (by decide) (by decide)⟩
  · show Go p e below s₁ m 0 (q_74 a1 a2 d cs) [] _
    refine XS.aloadN X0.here hx rfl (hb hby d56_0) rfl rfl ?_
    refine XS.iloadN X0.here hx rfl (hb hby d56_1) rfl ?_
    refine XS.aloadN X0.here hx rfl (hb hby d56_2) rfl rfl ?_
    refine XS.iloadN X0.here hx rfl (hb hby d56_3) rfl ?_
    refine XS.iload X0.here hx rfl (hb hby d56_4) rfl ?_
    refine st1 _ ?_
    show Go p e below T1 m 9 (q_74 a1 a2 d cs) [] _
    exact X1.returnOut hx Bd.returns (hb hby d56_9) hr
  · show Qwr Z a2 kD LD (puts ds d cs) h0 n0 _ T1.heap _
    rw [e1]
    exact ⟨rfl, N1, kp3, BI⟩
theorem d65_8 : Dc cb24 8 (.iload 4) 2 := by decide +kernel
theorem d65_10 : Dc cb24 10 (.iload_n 2) 1 := by decide +kernel
theorem d65_11 : Dc cb24 11 (.if_icmp .ge 21) 3 := by decide +kernel
theorem d65_14 : Dc cb24 14 (.aload_n 3) 1 := by decide +kernel
theorem d65_15 : Dc cb24 15 (.iload 4) 2 := by decide +kernel
theorem d65_17 : Dc cb24 17 (.aload_n 0) 1 := by decide +kernel
theorem d65_18 : Dc cb24 18 (.iload_n 1) 1 := by decide +kernel
theorem d65_19 : Dc cb24 19 .caload 1 := by decide +kernel
theorem d65_20 : Dc cb24 20 (.invokestatic 111) 3 := by decide +kernel
theorem d65_23 : Dc cb24 23 (.iinc 1 1) 3 := by decide +kernel
theorem d65_26 : Dc cb24 26 (.iinc 4 1) 3 := by decide +kernel
theorem d65_29 : Dc cb24 29 (.goto (-21)) 3 := by decide +kernel
set_option maxRecDepth 65536 in
set_option maxHeartbeats 40000000 in
theorem pi_tb {p : Program} {l : Launch} {e : Env} {s : State} {m : MethodId} {args : Array Value} {below : List Frame} {meth : Method} {c : Code} {T0 : State} {locs : List Loc} {Z : State} {a0 : Array Value} {n0 : Nat} {h0 : Heap} (hw : Hw a0 Z) (X0 : Stand p l e R_10 s m args below meth c T0 locs 1 500) (hx : p.tables.exec = Jvm.exec) (hby : c.code = jdk_52_method_14_code) (hml : c.maxLocals = 5) (hZ : Z.Warmed39 s.vm) (hown : s.vm.findClass "java/lang/StringUTF16" = some m.cls) (e0 : T0.heap = h0) (N0 : Fr n0 locs) (O0 : Old Z n0 h0) (G1 : Int32) (Fm : Value) (a1 : Addr) (kA : ClassId) (cs : List UInt16) (a2 : Addr) (kD : ClassId) (ds : List Int32) (j : Nat) (ST : Stc Z G1 Fm) (C1 : Car Z h0 a1 kA cs.length cs) (B2 : Bar Z h0 a2 kD (2 * cs.length) ds) (hc : cs.length ≤ 120) (hne : a1 ≠ a2) (g_a2 : n0 ≤ a2) (hlt : j < cs.length) :
    ∃ T' h' L', Stand p l e R_10 s m args below meth c T' L' 1 500 ∧ T'.heap = h' ∧ Fr n0 L' ∧ Old Z n0 h' ∧ Keep h0 h' [a2] ∧ Bar Z h' a2 kD (2 * cs.length) (put ds j (cs.getD j 0)) ∧ ∀ target, Go p e below T' m 8 (q_81 a1 j cs a2) [] target → Go p e below T0 m 8 (q_48 a1 j cs a2) [] target := by
  obtain ⟨S_cs, hG, S_fm, hF, S_ad, S_hi, S_lo⟩ := id ST
  have V_a1 := C1.1
  have hN_a1 : (Int32.ofNat cs.length).toNatClampNeg = (cs.map cv).length := by rw [List.length_map]; exact own_n (by omega)
  have lt_a1 := V_a1.lt
  have V_a2 := B2.1
  have l_a2 := B2.2
  have hN_a2 : (Int32.ofNat (2 * cs.length)).toNatClampNeg = ds.length := by rw [l_a2]; exact own_n (by omega)
  have lt_a2 := V_a2.lt
  obtain ⟨cl1, Ar1, hin1, hat1⟩ := own_at (j := (Int32.ofNat j)) (i := j) V_a1 hN_a1 (own_nn (n := j) (by omega)) (own_n (n := j) (by omega)) (by simp only [List.length_set, List.length_replicate, List.length_map, put_len, enc1_len, List.length_append, List.length_take, List.length_drop]; omega)
  rw [show ((cs.map cv).getD j 0) = (cv (cs.getD j 0)) from own_cvd hlt] at hat1
  obtain ⟨_, T2, Lc2, X2, hQ2, st2⟩ := own_sc X0 hx hZ (y := Y_19) hown (tw hw 294 rfl) (tw hw 295 rfl) (by decide) (ru_put l Z a0 hw [] G1 Fm a2 kD (2 * cs.length) ds j (cs.getD j 0) h0 n0 O0 ST B2 (by omega) (by omega) g_a2) (tw hw 296 rfl) (tw hw 270 rfl) e0 (W := 0) (by decide) (by decide) (Ls := (q_48 a1 j cs a2)) (by rw [hml]; rfl) (argsL := [(.ref a2), (.int (Int32.ofNat j)), (.int (cv (cs.getD j 0)))]) (rest := []) (lenOf pd8 rfl) (Nat.le_of_eq rfl) (hb hby d65_20) rfl (by decide) (by decide)
  obtain ⟨h2, e2⟩ : ∃ z, T2.heap = z := ⟨_, rfl⟩
  rw [e2] at hQ2
  obtain ⟨rfl, Nq2, K2, Bp2⟩ := hQ2
  have N2 := Fr.app N0 Nq2
  have O3 := O0.keep K2 (allS g_a2 all0)
  have kp4 : Keep h0 h2 [a2] := (Keep.refl h0 [a2]).trans K2 (allS (Or.inl (List.mem_of_getElem? (i := 0) rfl)) all0)
  refine ⟨T2, h2, _, X2, e2, N2, O3, kp4, Bp2, ?_⟩
  intro target k
  show Go p e below T0 m 8 (q_48 a1 j cs a2) [] _
  refine XS.iload X0.here hx rfl (hb hby d65_8) rfl ?_
  refine XS.iloadN X0.here hx rfl (hb hby d65_10) rfl ?_
  refine XS.icmpNo X0.here hx rfl (hb hby d65_11) rfl (tlt ((own_lt (a := j) (b := cs.length) (by omega) (by omega)).mpr (by omega))).2.1 ?_
  refine XS.aloadN X0.here hx rfl (hb hby d65_14) rfl rfl ?_
  refine XS.iload X0.here hx rfl (hb hby d65_15) rfl ?_
  refine XS.aloadN X0.here hx rfl (hb hby d65_17) rfl rfl ?_
  refine XS.iloadN X0.here hx rfl (hb hby d65_18) rfl ?_
  show Go p e below T0 m 19 (q_48 a1 j cs a2) [(.int (Int32.ofNat j)), (.ref a1), (.int (Int32.ofNat j)), (.ref a2)] _
  refine X0.caload hx (j := (Int32.ofNat j)) (v := (.int (cv (cs.getD j 0)))) (by rw [e0]; exact Ar1.1) (State.isArrayOf_alike hZ.alike Ar1.2.1) Ar1.2.2 hin1 hat1 (g := (mkF m 19 (q_48 a1 j cs a2) [(.int (Int32.ofNat j)), (.ref a1), (.int (Int32.ofNat j)), (.ref a2)])) rfl rfl (hb hby d65_19) _ ?_
  refine st2 _ ?_
  show Go p e below T2 m 23 (q_48 a1 j cs a2) [] _
  refine XS.iinc X2.here hx rfl (hb hby d65_23) rfl (l' := #[.val (.ref a1), .val (.int ((Int32.ofNat j) + (1 : Int32))), .val (.int (Int32.ofNat cs.length)), .val (.ref a2), .val (.int (Int32.ofNat j))]) rfl ?_
  show Go p e below T2 m 26 #[.val (.ref a1), .val (.int ((Int32.ofNat j) + (1 : Int32))), .val (.int (Int32.ofNat cs.length)), .val (.ref a2), .val (.int (Int32.ofNat j))] [] _
  rw [show ((Int32.ofNat j) + (1 : Int32)) = (Int32.ofNat (j + 1)) from own_add j 1]
  show Go p e below T2 m 26 #[.val (.ref a1), .val (.int (Int32.ofNat (j + 1))), .val (.int (Int32.ofNat cs.length)), .val (.ref a2), .val (.int (Int32.ofNat j))] [] _
  refine XS.iinc X2.here hx rfl (hb hby d65_26) rfl (l' := #[.val (.ref a1), .val (.int (Int32.ofNat (j + 1))), .val (.int (Int32.ofNat cs.length)), .val (.ref a2), .val (.int ((Int32.ofNat j) + (1 : Int32)))]) rfl ?_
  show Go p e below T2 m 29 #[.val (.ref a1), .val (.int (Int32.ofNat (j + 1))), .val (.int (Int32.ofNat cs.length)), .val (.ref a2), .val (.int ((Int32.ofNat j) + (1 : Int32)))] [] _
  rw [show ((Int32.ofNat j) + (1 : Int32)) = (Int32.ofNat (j + 1)) from own_add j 1]
  show Go p e below T2 m 29 (q_81 a1 j cs a2) [] _
  refine XS.goto X2.here hx rfl (pc0 := 29) (pc' := 8) rfl (hb hby d65_29) (by decide) (by decide) ?_
  exact k
set_option maxHeartbeats 40000000 in
theorem lp_tb {p : Program} {l : Launch} {e : Env} {s : State} {m : MethodId} {args : Array Value} {below : List Frame} {meth : Method} {c : Code} {Z : State} {a0 : Array Value} {n0 : Nat} (hw : Hw a0 Z) (hx : p.tables.exec = Jvm.exec) (hby : c.code = jdk_52_method_14_code) (hml : c.maxLocals = 5) (hZ : Z.Warmed39 s.vm) (hown : s.vm.findClass "java/lang/StringUTF16" = some m.cls) (G1 : Int32) (Fm : Value) (ST : Stc Z G1 Fm) {a1 a2 : Addr} {kA kD : ClassId} {cs : List UInt16} (hc : cs.length ≤ 120) (hne : a1 ≠ a2) (g_a2 : n0 ≤ a2) :
    ∀ (f j : Nat) (ds : List Int32) (T0 : State) (h0 : Heap) (locs : List Loc) (X0 : Stand p l e R_10 s m args below meth c T0 locs 1 500) (e0 : T0.heap = h0) (N0 : Fr n0 locs) (O0 : Old Z n0 h0) (C1 : Car Z h0 a1 kA cs.length cs) (BD : Bar Z h0 a2 kD (2 * cs.length) ds) (hf : cs.length - j = f) (hj : j ≤ cs.length),
      ∃ (T' : State) (h' : Heap) (L' : List Loc), Stand p l e R_10 s m args below meth c T' L' 1 500 ∧ T'.heap = h' ∧ Fr n0 L' ∧ Old Z n0 h' ∧ Keep h0 h' [a2] ∧ Bar Z h' a2 kD (2 * cs.length) (puts ds j (cs.drop j)) ∧
        ∀ target, Go p e below T' m 8 (q_72 a1 cs a2) [] target → Go p e below T0 m 8 (q_48 a1 j cs a2) [] target := by
  intro f
  induction f with
  | zero =>
    intro j ds T0 h0 locs X0 e0 N0 O0 C1 BD hf hj
    have q : j = cs.length := by omega
    subst q
    exact ⟨T0, h0, locs, X0, e0, N0, O0, Keep.refl _ _, by rw [own_q0]; exact BD, fun _ k => k⟩
  | succ f ih =>
    intro j ds T0 h0 locs X0 e0 N0 O0 C1 BD hf hj
    have hlt : j < cs.length := by omega
    obtain ⟨T2, h2, L2, X2, e2, N2, O2, K2, B2, st2⟩ := pi_tb hw X0 hx hby hml hZ hown e0 N0 O0 G1 Fm a1 kA cs a2 kD ds j ST C1 BD hc hne g_a2 hlt
    obtain ⟨T3, h3, L3, X3, e3, N3, O3, K3, B3, st3⟩ := ih (j + 1) (put ds j (cs.getD j 0)) T2 h2 L2 X2 e2 N2 O2 ⟨C1.1.keep K2 (ninS hne nin0), C1.2⟩ B2 (by omega) (by omega)
    exact ⟨T3, h3, L3, X3, e3, N3, O3, K2.trans K3 (allS (Or.inl (List.mem_of_getElem? (i := 0) rfl)) all0), by rw [own_q1 hlt]; exact B3, fun target k => st2 target (st3 target k)⟩
theorem d65_0 : Dc cb24 0 (.iload_n 2) 1 := by decide +kernel
theorem d65_1 : Dc cb24 1 (.invokestatic 107) 3 := by decide +kernel
theorem pd16 : parseMethodDescriptor "(I)[B" = some ⟨[.int], some (.array .byte)⟩ := by decide +kernel
theorem d65_4 : Dc cb24 4 (.astore_n 3) 1 := by decide +kernel
theorem d65_5 : Dc cb24 5 (.iconst 0) 1 := by decide +kernel
theorem d65_6 : Dc cb24 6 (.istore 4) 2 := by decide +kernel
theorem d65_32 : Dc cb24 32 (.aload_n 3) 1 := by decide +kernel
theorem d65_33 : Dc cb24 33 .areturn 1 := by decide +kernel
theorem ef_ru_tb (m : MethodId) (x0 : Addr) (x1 : Int32) (x2 : Int32) : entryFrame m #[(.ref x0), (.int x1), (.int x2)] 5 = mkF m 0 #[.val (.ref x0), .val (.int x1), .val (.int x2), .unset, .unset] [] := by first | (simp [entryFrame, mkF, argsToLocals, Value.category]; done) | rfl
set_option maxRecDepth 65536 in
set_option maxHeartbeats 40000000 in
theorem ru_tb (l : Launch) (Z : State) (a0 : Array Value) (hw : Hw a0 Z) (ws : List Jvm.Cond) (G1 : Int32) (Fm : Value) (a1 : Addr) (kA : ClassId) (cs : List UInt16) (h0 : Heap) (n0 : Nat) (O0 : Old Z n0 h0) (ST : Stc Z G1 Fm) (C1 : Car Z h0 a1 kA cs.length cs) (hc : cs.length ≤ 120) :
    Met l Z h0 ws Y_56 jdk_52_method_14_code 5 (some (.array .byte)) R_10 #[(.ref a1), (.int (0 : Int32)), (.int (Int32.ofNat cs.length))] (Qar Z (2 * cs.length) (enc1 cs) h0 n0) := by
  refine MetFree.of_bodySF (plainFor_of_name pn0) hisR ?_
  intro p e s m args below meth c s₁ Bd hml0 hP hK
  obtain ⟨rfl, hZ, hh⟩ := hP
  have hx := Bd.exec
  have hby := Bd.bytes
  have hml : c.maxLocals = 5 := hml0
  have hown : s.vm.findClass "java/lang/StringUTF16" = some m.cls := findClass_of_methodNamed Bd.named
  have hnm := (name_of_methodNamed Bd.named Bd.method).1
  have X0 : Stand p l e R_10 s m #[(.ref a1), (.int (0 : Int32)), (.int (Int32.ofNat cs.length))] below meth c s₁ [] 0 0 := Stand.of_body Bd
  have e0 : s₁.heap = h0 := by rw [← hh, Bd.state]; rfl
  have N0 := Fr.nil n0
  obtain ⟨S_cs, hG, S_fm, hF, S_ad, S_hi, S_lo⟩ := id ST
  have V_a1 := C1.1
  have hN_a1 : (Int32.ofNat cs.length).toNatClampNeg = (cs.map cv).length := by rw [List.length_map]; exact own_n (by omega)
  have lt_a1 := V_a1.lt
  obtain ⟨_, T1, Lc1, X1, hQ1, st1⟩ := own_sc X0 hx hZ (y := Y_34) hown (tw hw 350 rfl) (tw hw 310 rfl) (by decide) (ru_nf l Z a0 hw [] G1 Fm cs.length h0 n0 O0 ST (by omega)) (tw hw 311 rfl) (tw hw 270 rfl) e0 (W := 0) (by decide) (by decide) (Ls := (q_73 a1 cs)) (by rw [hml]; rfl) (argsL := [(.int (Int32.ofNat cs.length))]) (rest := []) (lenOf pd16 rfl) (Nat.le_of_eq rfl) (hb hby d65_1) rfl (by decide) (by decide)
  obtain ⟨h1, e1⟩ : ∃ z, T1.heap = z := ⟨_, rfl⟩
  rw [e1] at hQ1
  obtain ⟨t1, kt1, rfl, Nq1, K1, szt1, Bt1, Et1⟩ := hQ1
  have N1 := Fr.app N0 Nq1
  have O2 := O0.keep K1 all0
  have kp3 : Keep h0 h1 [] := (Keep.refl h0 []).trans K1 all0
  have sz_t1 : h0.size ≤ t1 := szt1
  have g_t1 : n0 ≤ t1 := Nat.le_trans (Nat.le_trans (Nat.le_of_eq O0.1.symm) O0.2.1) szt1
  have lt_a1_t1 : a1 < t1 := Nat.lt_of_lt_of_le lt_a1 szt1
  have V_t1 := Bt1.1
  obtain ⟨T4, h4, L4, X4, e4, N4, Om4, K4, Bm4, st4⟩ := lp_tb hw hx hby hml hZ hown G1 Fm ST hc (Nat.ne_of_lt lt_a1_t1) g_t1 cs.length 0 (List.replicate (2 * cs.length) 0) T1 h1 _ X1 e1 N1 O2 ⟨(V_a1.keep K1 nin0), C1.2⟩ Bt1 (by omega) (by omega)
  have O5 := O2.keep K4 (allS g_t1 all0)
  have kp6 : Keep h0 h4 [] := kp3.trans K4 (allS (Or.inr sz_t1) all0)
  have Vm4 := Bm4.1
  have hNm4 : (Int32.ofNat (2 * cs.length)).toNatClampNeg = (puts (List.replicate (2 * cs.length) 0) 0 (cs.drop 0)).length := by rw [Bm4.2]; exact own_n (by omega)
  have pf7 : ∀ target, Go p e below T4 m 11 (q_72 a1 cs t1) [(.int (Int32.ofNat cs.length)), (.int (Int32.ofNat cs.length))] target → Go p e below s₁ m 0 (q_73 a1 cs) [] target := by
    intro target k
    show Go p e below s₁ m 0 (q_73 a1 cs) [] _
    refine XS.iloadN X0.here hx rfl (hb hby d65_0) rfl ?_
    refine st1 _ ?_
    show Go p e below T1 m 4 (q_73 a1 cs) [(.ref t1)] _
    refine XS.astoreN X1.here hx rfl (hb hby d65_4) rfl rfl (l' := #[.val (.ref a1), .val (.int (0 : Int32)), .val (.int (Int32.ofNat cs.length)), .val (.ref t1), .unset]) rfl ?_
    refine XS.iconst X1.here hx rfl (hb hby d65_5) ?_
    refine XS.istore X1.here hx rfl (hb hby d65_6) rfl (l' := #[.val (.ref a1), .val (.int (0 : Int32)), .val (.int (Int32.ofNat cs.length)), .val (.ref t1), .val (.int (0 : Int32))]) rfl ?_
    refine st4 _ ?_
    show Go p e below T4 m 8 (q_72 a1 cs t1) [] _
    refine XS.iload X4.here hx rfl (hb hby d65_8) rfl ?_
    refine XS.iloadN X4.here hx rfl (hb hby d65_10) rfl ?_
    exact k
  obtain ⟨fs, hr, hrun, hended, hW, hsame⟩ := X4.leave (v := some (.ref t1)) (fun h => by rw [Bd.returns] at h; cases h)
  refine ⟨_, _, castTop (ef_ru_tb m a1 (0 : Int32) (Int32.ofNat cs.length)) ?_, hrun, hended, _, _, rfl, ?_, ⟨_, rfl⟩, hW, hsame.mono (by decide) (by decide)⟩
  · refine pf7 _ ?_
    show Go p e below T4 m 11 (q_72 a1 cs t1) [(.int (Int32.ofNat cs.length)), (.int (Int32.ofNat cs.length))] _
    refine XS.icmpYes X4.here hx rfl (pc0 := 11) (pc' := 32) rfl (hb hby d65_11) rfl (flt (fun q => absurd ((own_lt (a := cs.length) (b := cs.length) (by omega) (by omega)).mp q) (by omega))).2.1 (by decide) (by decide) ?_
    refine XS.aloadN X4.here hx rfl (hb hby d65_32) rfl rfl ?_
    show Go p e below T4 m 33 (q_72 a1 cs t1) [(.ref t1)] _
    exact retOut X4 hx Bd.returns rfl (Or.inr (Or.inr (Or.inr (Or.inr ⟨rfl, rfl, rfl⟩)))) (hb hby d65_33) hr
  · show Qar Z (2 * cs.length) (enc1 cs) h0 n0 _ T4.heap _
    rw [e4]
    exact ⟨t1, _, rfl, N4, kp6, sz_t1, by rw [← own_putsz cs]; exact Bm4, (Et1.keep K4)⟩
def Qst (Z : State) (a : Addr) (cs : List UInt16) (h0 : Heap) (n0 : Nat) (v : Option Value) (h : Heap) (Lc : List Loc) : Prop := v = none ∧ Fr n0 Lc ∧ Keep h0 h [a] ∧ ∃ (b : Addr) (k : ClassId), h0.size ≤ b ∧ Strx Z h a b k cs
theorem own_tk {cs : List UInt16} {n : Nat} (h : n ≤ cs.length) : ∀ j, j < (cs.take n).length → cs.getD j 0 = (cs.take n).getD j 0 := fun j hj => by
  have : j < n := by simpa using (List.length_take ▸ hj : j < min n cs.length) |> fun q => by omega
  simp [List.getD_eq_getElem?_getD, List.getElem?_take, this]
theorem own_nlt {cs : List UInt16} (h : ∀ u ∈ cs, u < 256) : ∀ j, j < cs.length → ¬ (255 : Int32) < cv (cs.getD j 0) := fun j hj q => (own_cvlt _).mp q (own_up h hj)
theorem d44_3 : Dc cb25 3 (.iload 5) 2 := by decide +kernel
theorem d44_5 : Dc cb25 5 (.iload 4) 2 := by decide +kernel
theorem d44_7 : Dc cb25 7 (.if_icmp .ge 37) 3 := by decide +kernel
theorem d44_10 : Dc cb25 10 (.aload_n 0) 1 := by decide +kernel
theorem d44_11 : Dc cb25 11 (.iload_n 1) 1 := by decide +kernel
theorem d44_12 : Dc cb25 12 .caload 1 := by decide +kernel
theorem d44_13 : Dc cb25 13 (.istore 6) 2 := by decide +kernel
theorem d44_15 : Dc cb25 15 (.iload 6) 2 := by decide +kernel
theorem d44_17 : Dc cb25 17 (.sipush 255) 3 := by decide +kernel
theorem d44_20 : Dc cb25 20 (.if_icmp .le 6) 3 := by decide +kernel
theorem d44_26 : Dc cb25 26 (.aload_n 2) 1 := by decide +kernel
theorem d44_27 : Dc cb25 27 (.iload_n 3) 1 := by decide +kernel
theorem d44_28 : Dc cb25 28 (.iload 6) 2 := by decide +kernel
theorem d44_30 : Dc cb25 30 .i2b 1 := by decide +kernel
theorem d44_31 : Dc cb25 31 .bastore 1 := by decide +kernel
theorem d44_32 : Dc cb25 32 (.iinc 1 1) 3 := by decide +kernel
theorem d44_35 : Dc cb25 35 (.iinc 3 1) 3 := by decide +kernel
theorem d44_38 : Dc cb25 38 (.iinc 5 1) 3 := by decide +kernel
theorem d44_41 : Dc cb25 41 (.goto (-38)) 3 := by decide +kernel
set_option maxRecDepth 65536 in
set_option maxHeartbeats 40000000 in
theorem pi_cm {p : Program} {l : Launch} {e : Env} {s : State} {m : MethodId} {args : Array Value} {below : List Frame} {meth : Method} {c : Code} {T0 : State} {locs : List Loc} {Z : State} {a0 : Array Value} {n0 : Nat} {h0 : Heap} (hw : Hw a0 Z) (X0 : Stand p l e R_0 s m args below meth c T0 locs 0 0) (hx : p.tables.exec = Jvm.exec) (hby : c.code = jdk_52_method_21_code) (hml : c.maxLocals = 7) (hZ : Z.Warmed39 s.vm) (hown : s.vm.findClass "java/lang/StringUTF16" = some m.cls) (e0 : T0.heap = h0) (N0 : Fr n0 locs) (O0 : Old Z n0 h0) (G1 : Int32) (Fm : Value) (a1 : Addr) (kA : ClassId) (cs : List UInt16) (a2 : Addr) (kD : ClassId) (ds : List Int32) (j : Nat) (s6 : Slot) (ST : Stc Z G1 Fm) (C1 : Car Z h0 a1 kA cs.length cs) (B2 : Bar Z h0 a2 kD cs.length ds) (hc : cs.length ≤ 120) (hne : a1 ≠ a2) (g_a2 : n0 ≤ a2) (hs6 : One s6) (hlt : j < cs.length) (hu : ¬ (255 : Int32) < (cv (cs.getD j 0))) :
    ∃ T' h' L', Stand p l e R_0 s m args below meth c T' L' 0 0 ∧ T'.heap = h' ∧ Fr n0 L' ∧ Old Z n0 h' ∧ Keep h0 h' [a2] ∧ Bar Z h' a2 kD cs.length (ds.set j (cLo (cs.getD j 0))) ∧ ∀ target, Go p e below T' m 3 #[.val (.ref a1), .val (.int (Int32.ofNat (j + 1))), .val (.ref a2), .val (.int (Int32.ofNat (j + 1))), .val (.int (Int32.ofNat cs.length)), .val (.int (Int32.ofNat (j + 1))), (.val (.int (cv (cs.getD j 0))))] [] target → Go p e below T0 m 3 (q_53 a1 j a2 cs s6) [] target := by
  obtain ⟨S_cs, hG, S_fm, hF, S_ad, S_hi, S_lo⟩ := id ST
  have V_a1 := C1.1
  have hN_a1 : (Int32.ofNat cs.length).toNatClampNeg = (cs.map cv).length := by rw [List.length_map]; exact own_n (by omega)
  have lt_a1 := V_a1.lt
  have V_a2 := B2.1
  have l_a2 := B2.2
  have hN_a2 : (Int32.ofNat cs.length).toNatClampNeg = ds.length := by rw [l_a2]; exact own_n (by omega)
  have lt_a2 := V_a2.lt
  obtain ⟨cl1, Ar1, hin1, hat1⟩ := own_at (j := (Int32.ofNat j)) (i := j) V_a1 hN_a1 (own_nn (n := j) (by omega)) (own_n (n := j) (by omega)) (by simp only [List.length_set, List.length_replicate, List.length_map, put_len, enc1_len, List.length_append, List.length_take, List.length_drop]; omega)
  rw [show ((cs.map cv).getD j 0) = (cv (cs.getD j 0)) from own_cvd hlt] at hat1
  have pf2 : ∀ target, Go p e below T0 m 20 (q_33 a1 j a2 cs) [(.int (255 : Int32)), (.int (cv (cs.getD j 0)))] target → Go p e below T0 m 3 (q_53 a1 j a2 cs s6) [] target := by
    intro target k
    show Go p e below T0 m 3 (q_53 a1 j a2 cs s6) [] _
    refine XS.iload X0.here hx rfl (hb hby d44_3) rfl ?_
    refine XS.iload X0.here hx rfl (hb hby d44_5) rfl ?_
    refine XS.icmpNo X0.here hx rfl (hb hby d44_7) rfl (tlt ((own_lt (a := j) (b := cs.length) (by omega) (by omega)).mpr (by omega))).2.1 ?_
    refine XS.aloadN X0.here hx rfl (hb hby d44_10) rfl rfl ?_
    refine XS.iloadN X0.here hx rfl (hb hby d44_11) rfl ?_
    show Go p e below T0 m 12 (q_53 a1 j a2 cs s6) [(.int (Int32.ofNat j)), (.ref a1)] _
    refine X0.caload hx (j := (Int32.ofNat j)) (v := (.int (cv (cs.getD j 0)))) (by rw [e0]; exact Ar1.1) (State.isArrayOf_alike hZ.alike Ar1.2.1) Ar1.2.2 hin1 hat1 (g := (mkF m 12 (q_53 a1 j a2 cs s6) [(.int (Int32.ofNat j)), (.ref a1)])) rfl rfl (hb hby d44_12) _ ?_
    show Go p e below T0 m 13 (q_53 a1 j a2 cs s6) [(.int (cv (cs.getD j 0)))] _
    refine XS.istoreS X0.here hx rfl (hb hby d44_13) rfl rfl hs6 ?_
    show Go p e below T0 m 15 (q_33 a1 j a2 cs) [] _
    refine XS.iload X0.here hx rfl (hb hby d44_15) rfl ?_
    refine XS.sipush X0.here hx rfl (hb hby d44_17) ?_
    exact k
  obtain ⟨cl3, Ar3, q3, Sz3, Nn3, Ha3, Gf3⟩ := id V_a2
  have hin3 : ¬ ((Int32.ofNat j) < 0 ∨ cl3.slots.size ≤ ((Int32.ofNat j)).toNatClampNeg) := own_inb (i := j) Sz3 hN_a2 (own_nn (n := j) (by omega)) (own_n (n := j) (by omega)) (by omega)
  obtain ⟨T4, h4, X4, e4, W4, st4⟩ := stB X0 hx hZ e0 Ar3 (j := (Int32.ofNat j)) hin3 (g := (mkF m 31 (q_33 a1 j a2 cs) [(.int (cLo (cs.getD j 0))), (.int (Int32.ofNat j)), (.ref a2)])) rfl rfl (hb hby d44_31)
  have Va4 := Arv.set Ar3 q3 Sz3 Nn3 Ha3 Gf3 (fits_nar_byte _) W4 j (own_n (n := j) (by omega)) (by rw [List.length_map]; exact (by omega))
  have Vb4 : Arv Z h4 a2 kD .byte (Int32.ofNat cs.length) ((ds.set j (cLo (cs.getD j 0))).map Value.int) (.int (0 : Int32)) := by rw [List.map_set, ← (show (cLo (cs.getD j 0)).toInt8.toInt32 = (cLo (cs.getD j 0)) from own_lo8 _)]; exact Va4
  have hN4 : ((Int32.ofNat cs.length)).toNatClampNeg = (ds.set j (cLo (cs.getD j 0))).length := by rw [List.length_set]; exact hN_a2
  have O5 := O0.wr W4 g_a2
  have kp6 : Keep h0 h4 [a2] := (Keep.refl h0 [a2]).wr W4 (Or.inl (List.mem_of_getElem? (i := 0) rfl))
  have N4 := Fr.snoc X4 N0 g_a2
  refine ⟨T4, h4, _, X4, e4, N4, O5, kp6, ⟨Vb4, by rw [List.length_set]; exact l_a2⟩, ?_⟩
  intro target k
  refine pf2 _ ?_
  show Go p e below T0 m 20 (q_33 a1 j a2 cs) [(.int (255 : Int32)), (.int (cv (cs.getD j 0)))] _
  refine XS.icmpYes X0.here hx rfl (pc0 := 20) (pc' := 26) rfl (hb hby d44_20) rfl (flt hu).2.2.2 (by decide) (by decide) ?_
  refine XS.aloadN X0.here hx rfl (hb hby d44_26) rfl rfl ?_
  refine XS.iloadN X0.here hx rfl (hb hby d44_27) rfl ?_
  refine XS.iload X0.here hx rfl (hb hby d44_28) rfl ?_
  refine XS.i2b X0.here hx rfl (hb hby d44_30) rfl ?_
  show Go p e below T0 m 31 (q_33 a1 j a2 cs) [(.int ((cv (cs.getD j 0)).toInt8.toInt32)), (.int (Int32.ofNat j)), (.ref a2)] _
  rw [show ((cv (cs.getD j 0)).toInt8.toInt32) = (cLo (cs.getD j 0)) from own_lo _]
  refine st4 _ ?_
  show Go p e below T4 m 32 (q_33 a1 j a2 cs) [] _
  refine XS.iinc X4.here hx rfl (hb hby d44_32) rfl (l' := #[.val (.ref a1), .val (.int ((Int32.ofNat j) + (1 : Int32))), .val (.ref a2), .val (.int (Int32.ofNat j)), .val (.int (Int32.ofNat cs.length)), .val (.int (Int32.ofNat j)), .val (.int (cv (cs.getD j 0)))]) rfl ?_
  show Go p e below T4 m 35 #[.val (.ref a1), .val (.int ((Int32.ofNat j) + (1 : Int32))), .val (.ref a2), .val (.int (Int32.ofNat j)), .val (.int (Int32.ofNat cs.length)), .val (.int (Int32.ofNat j)), .val (.int (cv (cs.getD j 0)))] [] _
  rw [show ((Int32.ofNat j) + (1 : Int32)) = (Int32.ofNat (j + 1)) from own_add j 1]
  show Go p e below T4 m 35 #[.val (.ref a1), .val (.int (Int32.ofNat (j + 1))), .val (.ref a2), .val (.int (Int32.ofNat j)), .val (.int (Int32.ofNat cs.length)), .val (.int (Int32.ofNat j)), .val (.int (cv (cs.getD j 0)))] [] _
  refine XS.iinc X4.here hx rfl (hb hby d44_35) rfl (l' := #[.val (.ref a1), .val (.int (Int32.ofNat (j + 1))), .val (.ref a2), .val (.int ((Int32.ofNat j) + (1 : Int32))), .val (.int (Int32.ofNat cs.length)), .val (.int (Int32.ofNat j)), .val (.int (cv (cs.getD j 0)))]) rfl ?_
  show Go p e below T4 m 38 #[.val (.ref a1), .val (.int (Int32.ofNat (j + 1))), .val (.ref a2), .val (.int ((Int32.ofNat j) + (1 : Int32))), .val (.int (Int32.ofNat cs.length)), .val (.int (Int32.ofNat j)), .val (.int (cv (cs.getD j 0)))] [] _
  rw [show ((Int32.ofNat j) + (1 : Int32)) = (Int32.ofNat (j + 1)) from own_add j 1]
  show Go p e below T4 m 38 #[.val (.ref a1), .val (.int (Int32.ofNat (j + 1))), .val (.ref a2), .val (.int (Int32.ofNat (j + 1))), .val (.int (Int32.ofNat cs.length)), .val (.int (Int32.ofNat j)), .val (.int (cv (cs.getD j 0)))] [] _
  refine XS.iinc X4.here hx rfl (hb hby d44_38) rfl (l' := #[.val (.ref a1), .val (.int (Int32.ofNat (j + 1))), .val (.ref a2), .val (.int (Int32.ofNat (j + 1))), .val (.int (Int32.ofNat cs.length)), .val (.int ((Int32.ofNat j) + (1 : Int32))), .val (.int (cv (cs.getD j 0)))]) rfl ?_
  show Go p e below T4 m 41 #[.val (.ref a1), .val (.int (Int32.ofNat (j + 1))), .val (.ref a2), .val (.int (Int32.ofNat (j + 1))), .val (.int (Int32.ofNat cs.length)), .val (.int ((Int32.ofNat j) + (1 : Int32))), .val (.int (cv (cs.getD j 0)))] [] _
  rw [show ((Int32.ofNat j) + (1 : Int32)) = (Int32.ofNat (j + 1)) from own_add j 1]
  show Go p e below T4 m 41 (q_86 a1 j a2 cs) [] _
  refine XS.goto X4.here hx rfl (pc0 := 41) (pc' := 3) rfl (hb hby d44_41) (by decide) (by decide) ?_
  exact k
set_option maxHeartbeats 40000000 in
theorem lp_cm {p : Program} {l : Launch} {e : Env} {s : State} {m : MethodId} {args : Array Value} {below : List Frame} {meth : Method} {c : Code} {Z : State} {a0 : Array Value} {n0 : Nat} (hw : Hw a0 Z) (hx : p.tables.exec = Jvm.exec) (hby : c.code = jdk_52_method_21_code) (hml : c.maxLocals = 7) (hZ : Z.Warmed39 s.vm) (hown : s.vm.findClass "java/lang/StringUTF16" = some m.cls) (G1 : Int32) (Fm : Value) (ST : Stc Z G1 Fm) {a1 a2 : Addr} {kA kD : ClassId} {cs ps : List UInt16} (hc : cs.length ≤ 120) (hne : a1 ≠ a2) (g_a2 : n0 ≤ a2) (hpl : ps.length ≤ cs.length) (hps : ∀ j, j < ps.length → cs.getD j 0 = ps.getD j 0) (hu : ∀ j, j < ps.length → ¬ (255 : Int32) < (cv (cs.getD j 0))) :
    ∀ (f j : Nat) (ds : List Int32) (s6 : Slot) (hs6 : One s6) (T0 : State) (h0 : Heap) (locs : List Loc) (X0 : Stand p l e R_0 s m args below meth c T0 locs 0 0) (e0 : T0.heap = h0) (N0 : Fr n0 locs) (O0 : Old Z n0 h0) (C1 : Car Z h0 a1 kA cs.length cs) (BD : Bar Z h0 a2 kD cs.length ds) (hf : ps.length - j = f) (hj : j ≤ ps.length),
      ∃ (T' : State) (h' : Heap) (L' : List Loc) (s6' : Slot), One s6' ∧ Stand p l e R_0 s m args below meth c T' L' 0 0 ∧ T'.heap = h' ∧ Fr n0 L' ∧ Old Z n0 h' ∧ Keep h0 h' [a2] ∧ Bar Z h' a2 kD cs.length (sets ds j (ps.drop j)) ∧
        ∀ target, Go p e below T' m 3 #[.val (.ref a1), .val (.int (Int32.ofNat ps.length)), .val (.ref a2), .val (.int (Int32.ofNat ps.length)), .val (.int (Int32.ofNat cs.length)), .val (.int (Int32.ofNat ps.length)), s6'] [] target → Go p e below T0 m 3 (q_53 a1 j a2 cs s6) [] target := by
  intro f
  induction f with
  | zero =>
    intro j ds s6 hs6 T0 h0 locs X0 e0 N0 O0 C1 BD hf hj
    have q : j = ps.length := by omega
    subst q
    exact ⟨T0, h0, locs, s6, hs6, X0, e0, N0, O0, Keep.refl _ _, by rw [own_s0]; exact BD, fun _ k => k⟩
  | succ f ih =>
    intro j ds s6 hs6 T0 h0 locs X0 e0 N0 O0 C1 BD hf hj
    have hlt : j < ps.length := by omega
    obtain ⟨T2, h2, L2, X2, e2, N2, O2, K2, B2, st2⟩ := pi_cm hw X0 hx hby hml hZ hown e0 N0 O0 G1 Fm a1 kA cs a2 kD ds j s6 ST C1 BD hc hne g_a2 hs6 (by omega) (hu j hlt)
    obtain ⟨T3, h3, L3, s3, hs3, X3, e3, N3, O3, K3, B3, st3⟩ := ih (j + 1) (ds.set j (cLo (cs.getD j 0))) (.val (.int (cv (cs.getD j 0)))) (One.val rfl) T2 h2 L2 X2 e2 N2 O2 ⟨C1.1.keep K2 (ninS hne nin0), C1.2⟩ B2 (by omega) (by omega)
    exact ⟨T3, h3, L3, s3, hs3, X3, e3, N3, O3, K2.trans K3 (allS (Or.inl (List.mem_of_getElem? (i := 0) rfl)) all0), by rw [own_s1 hlt, ← hps j hlt]; exact B3, fun target k => st2 target (st3 target k)⟩
theorem d44_0 : Dc cb25 0 (.iconst 0) 1 := by decide +kernel
theorem d44_1 : Dc cb25 1 (.istore 5) 2 := by decide +kernel
theorem d44_44 : Dc cb25 44 (.iload 4) 2 := by decide +kernel
theorem d44_46 : Dc cb25 46 .ireturn 1 := by decide +kernel
theorem ef_ru_cmA (m : MethodId) (x0 : Addr) (x1 : Int32) (x2 : Addr) (x3 : Int32) (x4 : Int32) : entryFrame m #[(.ref x0), (.int x1), (.ref x2), (.int x3), (.int x4)] 7 = mkF m 0 #[.val (.ref x0), .val (.int x1), .val (.ref x2), .val (.int x3), .val (.int x4), .unset, .unset] [] := by first | (simp [entryFrame, mkF, argsToLocals, Value.category]; done) | rfl
set_option maxRecDepth 65536 in
set_option maxHeartbeats 40000000 in
theorem ru_cmA (l : Launch) (Z : State) (a0 : Array Value) (hw : Hw a0 Z) (ws : List Jvm.Cond) (G1 : Int32) (Fm : Value) (a1 : Addr) (kA : ClassId) (cs : List UInt16) (a2 : Addr) (kD : ClassId) (ds : List Int32) (h0 : Heap) (n0 : Nat) (O0 : Old Z n0 h0) (ST : Stc Z G1 Fm) (C1 : Car Z h0 a1 kA cs.length cs) (B2 : Bar Z h0 a2 kD cs.length ds) (hc : cs.length ≤ 120) (hne : a1 ≠ a2) (g_a2 : n0 ≤ a2) (hu : ∀ u ∈ cs, u < 256) :
    Met l Z h0 ws Y_23 jdk_52_method_21_code 7 (some .int) R_0 #[(.ref a1), (.int (0 : Int32)), (.ref a2), (.int (0 : Int32)), (.int (Int32.ofNat cs.length))] (Qcm Z a2 (Int32.ofNat cs.length) (fun h => Bar Z h a2 kD cs.length (sets ds 0 cs)) h0 n0) := by
  refine MetFree.of_bodySF (plainFor_of_name pn0) hisR ?_
  intro p e s m args below meth c s₁ Bd hml0 hP hK
  obtain ⟨rfl, hZ, hh⟩ := hP
  have hx := Bd.exec
  have hby := Bd.bytes
  have hml : c.maxLocals = 7 := hml0
  have hown : s.vm.findClass "java/lang/StringUTF16" = some m.cls := findClass_of_methodNamed Bd.named
  have hnm := (name_of_methodNamed Bd.named Bd.method).1
  have X0 : Stand p l e R_0 s m #[(.ref a1), (.int (0 : Int32)), (.ref a2), (.int (0 : Int32)), (.int (Int32.ofNat cs.length))] below meth c s₁ [] 0 0 := Stand.of_body Bd
  have e0 : s₁.heap = h0 := by rw [← hh, Bd.state]; rfl
  have N0 := Fr.nil n0
  obtain ⟨S_cs, hG, S_fm, hF, S_ad, S_hi, S_lo⟩ := id ST
  have V_a1 := C1.1
  have hN_a1 : (Int32.ofNat cs.length).toNatClampNeg = (cs.map cv).length := by rw [List.length_map]; exact own_n (by omega)
  have lt_a1 := V_a1.lt
  have V_a2 := B2.1
  have l_a2 := B2.2
  have hN_a2 : (Int32.ofNat cs.length).toNatClampNeg = ds.length := by rw [l_a2]; exact own_n (by omega)
  have lt_a2 := V_a2.lt
  obtain ⟨T1, h1, L1, s6_1, hs6_1, X1, e1, N1, Om1, K1, Bm1, st1⟩ := lp_cm (ps := cs) hw hx hby hml hZ hown G1 Fm ST hc hne g_a2 (Nat.le_refl _) (fun _ _ => rfl) (own_nlt hu) cs.length 0 ds .unset One.u s₁ h0 _ X0 e0 N0 O0 C1 B2 (by omega) (by omega)
  have O2 := O0.keep K1 (allS g_a2 all0)
  have kp3 : Keep h0 h1 [a2] := (Keep.refl h0 [a2]).trans K1 (allS (Or.inl (List.mem_of_getElem? (i := 0) rfl)) all0)
  have Vm1 := Bm1.1
  have Bm := Bm1
  have hs6_1' := hs6_1
  have pf4 : ∀ target, Go p e below T1 m 7 #[.val (.ref a1), .val (.int (Int32.ofNat cs.length)), .val (.ref a2), .val (.int (Int32.ofNat cs.length)), .val (.int (Int32.ofNat cs.length)), .val (.int (Int32.ofNat cs.length)), s6_1] [(.int (Int32.ofNat cs.length)), (.int (Int32.ofNat cs.length))] target → Go p e below s₁ m 0 (q_75 a1 a2 cs) [] target := by
    intro target k
    show Go p e below s₁ m 0 (q_75 a1 a2 cs) [] _
    refine XS.iconst X0.here hx rfl (hb hby d44_0) ?_
    refine XS.istore X0.here hx rfl (hb hby d44_1) rfl (l' := (q_87 a1 a2 cs)) rfl ?_
    refine st1 _ ?_
    show Go p e below T1 m 3 #[.val (.ref a1), .val (.int (Int32.ofNat cs.length)), .val (.ref a2), .val (.int (Int32.ofNat cs.length)), .val (.int (Int32.ofNat cs.length)), .val (.int (Int32.ofNat cs.length)), s6_1] [] _
    refine XS.iload X1.here hx rfl (hb hby d44_3) rfl ?_
    refine XS.iload X1.here hx rfl (hb hby d44_5) rfl ?_
    exact k
  obtain ⟨fs, hr, hrun, hended, hW, hsame⟩ := X1.leave (v := some (.int (Int32.ofNat cs.length))) (fun h => by rw [Bd.returns] at h; cases h)
  refine ⟨_, _, castTop (ef_ru_cmA m a1 (0 : Int32) a2 (0 : Int32) (Int32.ofNat cs.length)) ?_, hrun, hended, _, _, rfl, ?_, ⟨_, rfl⟩, hW, hsame.mono (by decide) (by decide)⟩
  · refine pf4 _ ?_
    show Go p e below T1 m 7 #[.val (.ref a1), .val (.int (Int32.ofNat cs.length)), .val (.ref a2), .val (.int (Int32.ofNat cs.length)), .val (.int (Int32.ofNat cs.length)), .val (.int (Int32.ofNat cs.length)), s6_1] [(.int (Int32.ofNat cs.length)), (.int (Int32.ofNat cs.length))] _
    refine XS.icmpYes X1.here hx rfl (pc0 := 7) (pc' := 44) rfl (hb hby d44_7) rfl (flt (fun q => absurd ((own_lt (a := cs.length) (b := cs.length) (by omega) (by omega)).mp q) (by omega))).2.1 (by decide) (by decide) ?_
    refine XS.iload X1.here hx rfl (hb hby d44_44) rfl ?_
    show Go p e below T1 m 46 #[.val (.ref a1), .val (.int (Int32.ofNat cs.length)), .val (.ref a2), .val (.int (Int32.ofNat cs.length)), .val (.int (Int32.ofNat cs.length)), .val (.int (Int32.ofNat cs.length)), s6_1] [(.int (Int32.ofNat cs.length))] _
    exact retI X1 hx Bd.returns (hb hby d44_46) hr
  · show Qcm Z a2 (Int32.ofNat cs.length) (fun h => Bar Z h a2 kD cs.length (sets ds 0 cs)) h0 n0 _ T1.heap _
    rw [e1]
    exact ⟨rfl, N1, kp3, Bm⟩
theorem d44_23 : Dc cb25 23 (.iload 5) 2 := by decide +kernel
theorem d44_25 : Dc cb25 25 .ireturn 1 := by decide +kernel
theorem ef_ru_cmB (m : MethodId) (x0 : Addr) (x1 : Int32) (x2 : Addr) (x3 : Int32) (x4 : Int32) : entryFrame m #[(.ref x0), (.int x1), (.ref x2), (.int x3), (.int x4)] 7 = mkF m 0 #[.val (.ref x0), .val (.int x1), .val (.ref x2), .val (.int x3), .val (.int x4), .unset, .unset] [] := by first | (simp [entryFrame, mkF, argsToLocals, Value.category]; done) | rfl
set_option maxRecDepth 65536 in
set_option maxHeartbeats 40000000 in
theorem ru_cmB (l : Launch) (Z : State) (a0 : Array Value) (hw : Hw a0 Z) (ws : List Jvm.Cond) (G1 : Int32) (Fm : Value) (a1 : Addr) (kA : ClassId) (cs : List UInt16) (a2 : Addr) (kD : ClassId) (ds : List Int32) (nF : Nat) (h0 : Heap) (n0 : Nat) (O0 : Old Z n0 h0) (ST : Stc Z G1 Fm) (C1 : Car Z h0 a1 kA cs.length cs) (B2 : Bar Z h0 a2 kD cs.length ds) (hc : cs.length ≤ 120) (hne : a1 ≠ a2) (g_a2 : n0 ≤ a2) (hN : nF < cs.length) (hu1 : ∀ j, j < nF → ¬ (255 : Int32) < (cv (cs.getD j 0))) (hu2 : (255 : Int32) < (cv (cs.getD nF 0))) :
    Met l Z h0 ws Y_23 jdk_52_method_21_code 7 (some .int) R_0 #[(.ref a1), (.int (0 : Int32)), (.ref a2), (.int (0 : Int32)), (.int (Int32.ofNat cs.length))] (Qcm Z a2 (Int32.ofNat nF) (fun _ => True) h0 n0) := by
  refine MetFree.of_bodySF (plainFor_of_name pn0) hisR ?_
  intro p e s m args below meth c s₁ Bd hml0 hP hK
  obtain ⟨rfl, hZ, hh⟩ := hP
  have hx := Bd.exec
  have hby := Bd.bytes
  have hml : c.maxLocals = 7 := hml0
  have hown : s.vm.findClass "java/lang/StringUTF16" = some m.cls := findClass_of_methodNamed Bd.named
  have hnm := (name_of_methodNamed Bd.named Bd.method).1
  have X0 : Stand p l e R_0 s m #[(.ref a1), (.int (0 : Int32)), (.ref a2), (.int (0 : Int32)), (.int (Int32.ofNat cs.length))] below meth c s₁ [] 0 0 := Stand.of_body Bd
  have e0 : s₁.heap = h0 := by rw [← hh, Bd.state]; rfl
  have N0 := Fr.nil n0
  obtain ⟨S_cs, hG, S_fm, hF, S_ad, S_hi, S_lo⟩ := id ST
  have V_a1 := C1.1
  have hN_a1 : (Int32.ofNat cs.length).toNatClampNeg = (cs.map cv).length := by rw [List.length_map]; exact own_n (by omega)
  have lt_a1 := V_a1.lt
  have V_a2 := B2.1
  have l_a2 := B2.2
  have hN_a2 : (Int32.ofNat cs.length).toNatClampNeg = ds.length := by rw [l_a2]; exact own_n (by omega)
  have lt_a2 := V_a2.lt
  have htk : (cs.take nF).length = nF := by rw [List.length_take]; omega
  obtain ⟨T1, h1, L1, s6_1, hs6_1, X1, e1, N1, Om1, K1, Bm1, st1⟩ := lp_cm (ps := (cs.take nF)) hw hx hby hml hZ hown G1 Fm ST hc hne g_a2 (by omega) (own_tk (by omega)) (fun j hj => hu1 j (by omega)) (cs.take nF).length 0 ds .unset One.u s₁ h0 _ X0 e0 N0 O0 C1 B2 (by omega) (by omega)
  rw [htk] at st1
  have O2 := O0.keep K1 (allS g_a2 all0)
  have kp3 : Keep h0 h1 [a2] := (Keep.refl h0 [a2]).trans K1 (allS (Or.inl (List.mem_of_getElem? (i := 0) rfl)) all0)
  have Vm1 := Bm1.1
  have Bm := Bm1
  have hs6_1' := hs6_1
  have pf4 : ∀ target, Go p e below T1 m 7 #[.val (.ref a1), .val (.int (Int32.ofNat nF)), .val (.ref a2), .val (.int (Int32.ofNat nF)), .val (.int (Int32.ofNat cs.length)), .val (.int (Int32.ofNat nF)), s6_1] [(.int (Int32.ofNat cs.length)), (.int (Int32.ofNat nF))] target → Go p e below s₁ m 0 (q_75 a1 a2 cs) [] target := by
    intro target k
    show Go p e below s₁ m 0 (q_75 a1 a2 cs) [] _
    refine XS.iconst X0.here hx rfl (hb hby d44_0) ?_
    refine XS.istore X0.here hx rfl (hb hby d44_1) rfl (l' := (q_87 a1 a2 cs)) rfl ?_
    refine st1 _ ?_
    show Go p e below T1 m 3 #[.val (.ref a1), .val (.int (Int32.ofNat nF)), .val (.ref a2), .val (.int (Int32.ofNat nF)), .val (.int (Int32.ofNat cs.length)), .val (.int (Int32.ofNat nF)), s6_1] [] _
    refine XS.iload X1.here hx rfl (hb hby d44_3) rfl ?_
    refine XS.iload X1.here hx rfl (hb hby d44_5) rfl ?_
    exact k
  obtain ⟨cl5, Ar5, hin5, hat5⟩ := own_at (j := (Int32.ofNat nF)) (i := nF) (V_a1.keep K1 (ninS hne nin0)) hN_a1 (own_nn (n := nF) (by omega)) (own_n (n := nF) (by omega)) (by simp only [List.length_set, List.length_replicate, List.length_map, put_len, enc1_len, List.length_append, List.length_take, List.length_drop]; omega)
  rw [show ((cs.map cv).getD nF 0) = (cv (cs.getD nF 0)) from own_cvd hN] at hat5
  have pf6 : ∀ target, Go p e below T1 m 20 (q_33 a1 nF a2 cs) [(.int (255 : Int32)), (.int (cv (cs.getD nF 0)))] target → Go p e below T1 m 7 #[.val (.ref a1), .val (.int (Int32.ofNat nF)), .val (.ref a2), .val (.int (Int32.ofNat nF)), .val (.int (Int32.ofNat cs.length)), .val (.int (Int32.ofNat nF)), s6_1] [(.int (Int32.ofNat cs.length)), (.int (Int32.ofNat nF))] target := by
    intro target k
    show Go p e below T1 m 7 #[.val (.ref a1), .val (.int (Int32.ofNat nF)), .val (.ref a2), .val (.int (Int32.ofNat nF)), .val (.int (Int32.ofNat cs.length)), .val (.int (Int32.ofNat nF)), s6_1] [(.int (Int32.ofNat cs.length)), (.int (Int32.ofNat nF))] _
    refine XS.icmpNo X1.here hx rfl (hb hby d44_7) rfl (tlt ((own_lt (a := nF) (b := cs.length) (by omega) (by omega)).mpr (by omega))).2.1 ?_
    refine XS.aloadN X1.here hx rfl (hb hby d44_10) rfl rfl ?_
    refine XS.iloadN X1.here hx rfl (hb hby d44_11) rfl ?_
    show Go p e below T1 m 12 #[.val (.ref a1), .val (.int (Int32.ofNat nF)), .val (.ref a2), .val (.int (Int32.ofNat nF)), .val (.int (Int32.ofNat cs.length)), .val (.int (Int32.ofNat nF)), s6_1] [(.int (Int32.ofNat nF)), (.ref a1)] _
    refine X1.caload hx (j := (Int32.ofNat nF)) (v := (.int (cv (cs.getD nF 0)))) (by rw [e1]; exact Ar5.1) (State.isArrayOf_alike hZ.alike Ar5.2.1) Ar5.2.2 hin5 hat5 (g := (mkF m 12 #[.val (.ref a1), .val (.int (Int32.ofNat nF)), .val (.ref a2), .val (.int (Int32.ofNat nF)), .val (.int (Int32.ofNat cs.length)), .val (.int (Int32.ofNat nF)), s6_1] [(.int (Int32.ofNat nF)), (.ref a1)])) rfl rfl (hb hby d44_12) _ ?_
    show Go p e below T1 m 13 #[.val (.ref a1), .val (.int (Int32.ofNat nF)), .val (.ref a2), .val (.int (Int32.ofNat nF)), .val (.int (Int32.ofNat cs.length)), .val (.int (Int32.ofNat nF)), s6_1] [(.int (cv (cs.getD nF 0)))] _
    refine XS.istoreS X1.here hx rfl (hb hby d44_13) rfl rfl hs6_1 ?_
    show Go p e below T1 m 15 (q_33 a1 nF a2 cs) [] _
    refine XS.iload X1.here hx rfl (hb hby d44_15) rfl ?_
    refine XS.sipush X1.here hx rfl (hb hby d44_17) ?_
    exact k
  obtain ⟨fs, hr, hrun, hended, hW, hsame⟩ := X1.leave (v := some (.int (Int32.ofNat nF))) (fun h => by rw [Bd.returns] at h; cases h)
  refine ⟨_, _, castTop (ef_ru_cmB m a1 (0 : Int32) a2 (0 : Int32) (Int32.ofNat cs.length)) ?_, hrun, hended, _, _, rfl, ?_, ⟨_, rfl⟩, hW, hsame.mono (by decide) (by decide)⟩
  · refine pf4 _ ?_
    refine pf6 _ ?_
    show Go p e below T1 m 20 (q_33 a1 nF a2 cs) [(.int (255 : Int32)), (.int (cv (cs.getD nF 0)))] _
    refine XS.icmpNo X1.here hx rfl (hb hby d44_20) rfl (tlt hu2).2.2.2 ?_
    refine XS.iload X1.here hx rfl (hb hby d44_23) rfl ?_
    show Go p e below T1 m 25 (q_33 a1 nF a2 cs) [(.int (Int32.ofNat nF))] _
    exact retI X1 hx Bd.returns (hb hby d44_25) hr
  · show Qcm Z a2 (Int32.ofNat nF) (fun _ => True) h0 n0 _ T1.heap _
    rw [e1]
    exact ⟨rfl, N1, kp3, trivial⟩
theorem d43_0 : Dc cb26 0 (.iload_n 2) 1 := by decide +kernel
theorem d43_1 : Dc cb26 1 (.newarray .byte) 2 := by decide +kernel
theorem d43_3 : Dc cb26 3 (.astore_n 3) 1 := by decide +kernel
theorem d43_4 : Dc cb26 4 (.aload_n 0) 1 := by decide +kernel
theorem d43_5 : Dc cb26 5 (.iload_n 1) 1 := by decide +kernel
theorem d43_6 : Dc cb26 6 (.aload_n 3) 1 := by decide +kernel
theorem d43_7 : Dc cb26 7 (.iconst 0) 1 := by decide +kernel
theorem d43_8 : Dc cb26 8 (.iload_n 2) 1 := by decide +kernel
theorem d43_9 : Dc cb26 9 (.invokestatic 115) 3 := by decide +kernel
theorem pd17 : parseMethodDescriptor "([CI[BII)I" = some ⟨[(.array .char), .int, (.array .byte), .int, .int], some .int⟩ := by decide +kernel
theorem d43_12 : Dc cb26 12 (.istore 4) 2 := by decide +kernel
theorem d43_14 : Dc cb26 14 (.iload 4) 2 := by decide +kernel
theorem d43_16 : Dc cb26 16 (.iload_n 2) 1 := by decide +kernel
theorem d43_17 : Dc cb26 17 (.if_icmp .eq 40) 3 := by decide +kernel
theorem d43_57 : Dc cb26 57 (.aload_n 3) 1 := by decide +kernel
theorem d43_58 : Dc cb26 58 .areturn 1 := by decide +kernel
theorem ef_ru_cA (m : MethodId) (x0 : Addr) (x1 : Int32) (x2 : Int32) : entryFrame m #[(.ref x0), (.int x1), (.int x2)] 6 = mkF m 0 #[.val (.ref x0), .val (.int x1), .val (.int x2), .unset, .unset, .unset] [] := by first | (simp [entryFrame, mkF, argsToLocals, Value.category]; done) | rfl
set_option maxRecDepth 65536 in
set_option maxHeartbeats 40000000 in
theorem ru_cA (l : Launch) (Z : State) (a0 : Array Value) (hw : Hw a0 Z) (ws : List Jvm.Cond) (G1 : Int32) (Fm : Value) (a1 : Addr) (kA : ClassId) (cs : List UInt16) (h0 : Heap) (n0 : Nat) (O0 : Old Z n0 h0) (ST : Stc Z G1 Fm) (C1 : Car Z h0 a1 kA cs.length cs) (hc : cs.length ≤ 120) (hu : ∀ u ∈ cs, u < 256) :
    Met l Z h0 ws Y_24 jdk_52_method_16_code 6 (some (.array .byte)) R_36 #[(.ref a1), (.int (0 : Int32)), (.int (Int32.ofNat cs.length))] (Qar Z cs.length (cs.map cLo) h0 n0) := by
  refine MetFree.of_bodySF (plainFor_of_name pn0) hisR ?_
  intro p e s m args below meth c s₁ Bd hml0 hP hK
  obtain ⟨rfl, hZ, hh⟩ := hP
  have hx := Bd.exec
  have hby := Bd.bytes
  have hml : c.maxLocals = 6 := hml0
  have hown : s.vm.findClass "java/lang/StringUTF16" = some m.cls := findClass_of_methodNamed Bd.named
  have hnm := (name_of_methodNamed Bd.named Bd.method).1
  have X0 : Stand p l e R_36 s m #[(.ref a1), (.int (0 : Int32)), (.int (Int32.ofNat cs.length))] below meth c s₁ [] 0 0 := Stand.of_body Bd
  have e0 : s₁.heap = h0 := by rw [← hh, Bd.state]; rfl
  have N0 := Fr.nil n0
  obtain ⟨S_cs, hG, S_fm, hF, S_ad, S_hi, S_lo⟩ := id ST
  have V_a1 := C1.1
  have hN_a1 : (Int32.ofNat cs.length).toNatClampNeg = (cs.map cv).length := by rw [List.length_map]; exact own_n (by omega)
  have lt_a1 := V_a1.lt
  obtain ⟨T1, h1, k1, X1, e1, E1, A1, Ea1, st1⟩ := newPE X0 hx hZ (tw hw 20 rfl) e0 (g := (mkF m 1 (q_38 a1 cs) [(.int (Int32.ofNat cs.length))])) rfl (hb hby d43_1) rfl (own_nn (n := cs.length) (by omega)) (cap := 120) (by rw [own_n (n := cs.length) (by omega)]; omega) (by decide) (by decide) (by decide) (ad := "[B") (by decide)
  obtain ⟨b1, g1⟩ : ∃ z, z = h0.size := ⟨_, rfl⟩
  rw [← g1] at A1 Ea1 st1
  have g_b1 : n0 ≤ b1 := by rw [g1]; exact Nat.le_trans (Nat.le_of_eq O0.1.symm) O0.2.1
  have sz_b1 : h0.size ≤ b1 := by rw [g1]; exact (Keep.refl h0 []).1
  have lt_a1_b1 : a1 < b1 := Nat.lt_of_lt_of_le lt_a1 sz_b1
  have O2 := O0.ext E1
  have kp3 : Keep h0 h1 [] := (Keep.refl h0 []).ext E1
  have V_b1 : Arv Z h1 b1 k1 .byte (Int32.ofNat cs.length) ((List.replicate cs.length (0 : Int32)).map Value.int) (.int (0 : Int32)) := by rw [List.map_replicate]; exact (Arv.new A1 (own_nn (n := cs.length) (by omega))).pad (pad_rep [] (.int (0 : Int32)) cs.length)
  have hN_b1 : ((Int32.ofNat cs.length)).toNatClampNeg = (List.replicate cs.length (0 : Int32)).length := by rw [List.length_replicate]; exact own_n (n := cs.length) (by omega)
  obtain ⟨_, T4, Lc4, X4, hQ4, st4⟩ := own_sc X1 hx hZ (y := Y_23) hown (tw hw 272 rfl) (tw hw 273 rfl) (by decide) (ru_cmA l Z a0 hw [] G1 Fm a1 kA cs b1 k1 (List.replicate cs.length 0) h1 n0 O2 ST ⟨(V_a1.ext E1), C1.2⟩ ⟨V_b1, by rw [List.length_replicate]⟩ hc (Nat.ne_of_lt lt_a1_b1) g_b1 hu) (tw hw 274 rfl) (tw hw 270 rfl) e1 (W := 0) (by decide) (by decide) (Ls := (q_49 a1 cs b1)) (by rw [hml]; rfl) (argsL := [(.ref a1), (.int (0 : Int32)), (.ref b1), (.int (0 : Int32)), (.int (Int32.ofNat cs.length))]) (rest := []) (lenOf pd17 rfl) (Nat.le_of_eq rfl) (hb hby d43_9) rfl (by decide) (by decide)
  obtain ⟨h4, e4⟩ : ∃ z, T4.heap = z := ⟨_, rfl⟩
  rw [e4] at hQ4
  obtain ⟨rfl, Nq4, K4, Bc4⟩ := hQ4
  have N4 := Fr.app N0 Nq4
  have O5 := O2.keep K4 (allS g_b1 all0)
  have kp6 : Keep h0 h4 [] := kp3.trans K4 (allS (Or.inr sz_b1) all0)
  have Vc := (own_setsz cs ▸ Bc4 : Bar Z h4 b1 k1 cs.length (cs.map cLo))
  have pf7 : ∀ target, Go p e below T4 m 17 (q_76 a1 cs b1) [(.int (Int32.ofNat cs.length)), (.int (Int32.ofNat cs.length))] target → Go p e below s₁ m 0 (q_38 a1 cs) [] target := by
    intro target k
    show Go p e below s₁ m 0 (q_38 a1 cs) [] _
    refine XS.iloadN X0.here hx rfl (hb hby d43_0) rfl ?_
    refine st1 _ ?_
    show Go p e below T1 m 3 (q_38 a1 cs) [(.ref b1)] _
    refine XS.astoreN X1.here hx rfl (hb hby d43_3) rfl rfl (l' := (q_49 a1 cs b1)) rfl ?_
    refine XS.aloadN X1.here hx rfl (hb hby d43_4) rfl rfl ?_
    refine XS.iloadN X1.here hx rfl (hb hby d43_5) rfl ?_
    refine XS.aloadN X1.here hx rfl (hb hby d43_6) rfl rfl ?_
    refine XS.iconst X1.here hx rfl (hb hby d43_7) ?_
    refine XS.iloadN X1.here hx rfl (hb hby d43_8) rfl ?_
    refine st4 _ ?_
    show Go p e below T4 m 12 (q_49 a1 cs b1) [(.int (Int32.ofNat cs.length))] _
    refine XS.istore X4.here hx rfl (hb hby d43_12) rfl (l' := (q_76 a1 cs b1)) rfl ?_
    refine XS.iload X4.here hx rfl (hb hby d43_14) rfl ?_
    refine XS.iloadN X4.here hx rfl (hb hby d43_16) rfl ?_
    exact k
  obtain ⟨fs, hr, hrun, hended, hW, hsame⟩ := X4.leave (v := some (.ref b1)) (fun h => by rw [Bd.returns] at h; cases h)
  refine ⟨_, _, castTop (ef_ru_cA m a1 (0 : Int32) (Int32.ofNat cs.length)) ?_, hrun, hended, _, _, rfl, ?_, ⟨_, rfl⟩, hW, hsame.mono (by decide) (by decide)⟩
  · refine pf7 _ ?_
    show Go p e below T4 m 17 (q_76 a1 cs b1) [(.int (Int32.ofNat cs.length)), (.int (Int32.ofNat cs.length))] _
    refine XS.icmpYes X4.here hx rfl (pc0 := 17) (pc' := 57) rfl (hb hby d43_17) rfl (teq ((own_eq (a := cs.length) (b := cs.length) (by omega) (by omega)).mpr (by omega))).1 (by decide) (by decide) ?_
    refine XS.aloadN X4.here hx rfl (hb hby d43_57) rfl rfl ?_
    show Go p e below T4 m 58 (q_76 a1 cs b1) [(.ref b1)] _
    exact retOut X4 hx Bd.returns rfl (Or.inr (Or.inr (Or.inr (Or.inr ⟨rfl, rfl, rfl⟩)))) (hb hby d43_58) hr
  · show Qar Z cs.length (cs.map cLo) h0 n0 _ T4.heap _
    rw [e4]
    exact ⟨b1, _, rfl, N4, kp6, sz_b1, ⟨Vc.1, by rw [List.length_map]⟩, (Ea1.keep K4)⟩
theorem d43_20 : Dc cb26 20 (.aload_n 0) 1 := by decide +kernel
theorem d43_21 : Dc cb26 21 (.iload_n 1) 1 := by decide +kernel
theorem d43_22 : Dc cb26 22 (.iload_n 2) 1 := by decide +kernel
theorem d43_23 : Dc cb26 23 (.invokestatic 119) 3 := by decide +kernel
theorem pd18 : parseMethodDescriptor "([CII)[B" = some ⟨[(.array .char), .int, .int], some (.array .byte)⟩ := by decide +kernel
theorem d43_26 : Dc cb26 26 (.astore 5) 2 := by decide +kernel
theorem d43_28 : Dc cb26 28 (.aload 5) 2 := by decide +kernel
theorem d43_30 : Dc cb26 30 (.iload 4) 2 := by decide +kernel
theorem d43_32 : Dc cb26 32 (.invokestatic 71) 3 := by decide +kernel
theorem d43_35 : Dc cb26 35 (.sipush 255) 3 := by decide +kernel
theorem d43_38 : Dc cb26 38 (.if_icmp .gt 16) 3 := by decide +kernel
theorem d43_54 : Dc cb26 54 (.aload 5) 2 := by decide +kernel
theorem d43_56 : Dc cb26 56 .areturn 1 := by decide +kernel
theorem ef_ru_cB (m : MethodId) (x0 : Addr) (x1 : Int32) (x2 : Int32) : entryFrame m #[(.ref x0), (.int x1), (.int x2)] 6 = mkF m 0 #[.val (.ref x0), .val (.int x1), .val (.int x2), .unset, .unset, .unset] [] := by first | (simp [entryFrame, mkF, argsToLocals, Value.category]; done) | rfl
set_option maxRecDepth 65536 in
set_option maxHeartbeats 40000000 in
theorem ru_cB (l : Launch) (Z : State) (a0 : Array Value) (hw : Hw a0 Z) (ws : List Jvm.Cond) (G1 : Int32) (Fm : Value) (a1 : Addr) (kA : ClassId) (cs : List UInt16) (nF : Nat) (h0 : Heap) (n0 : Nat) (O0 : Old Z n0 h0) (ST : Stc Z G1 Fm) (C1 : Car Z h0 a1 kA cs.length cs) (hc : cs.length ≤ 120) (hN : nF < cs.length) (hu1 : ∀ j, j < nF → ¬ (255 : Int32) < (cv (cs.getD j 0))) (hu2 : (255 : Int32) < (cv (cs.getD nF 0))) :
    Met l Z h0 ws Y_24 jdk_52_method_16_code 6 (some (.array .byte)) R_37 #[(.ref a1), (.int (0 : Int32)), (.int (Int32.ofNat cs.length))] (Qar Z (2 * cs.length) (enc1 cs) h0 n0) := by
  refine MetFree.of_bodySF (plainFor_of_name pn0) hisR ?_
  intro p e s m args below meth c s₁ Bd hml0 hP hK
  obtain ⟨rfl, hZ, hh⟩ := hP
  have hx := Bd.exec
  have hby := Bd.bytes
  have hml : c.maxLocals = 6 := hml0
  have hown : s.vm.findClass "java/lang/StringUTF16" = some m.cls := findClass_of_methodNamed Bd.named
  have hnm := (name_of_methodNamed Bd.named Bd.method).1
  have X0 : Stand p l e R_37 s m #[(.ref a1), (.int (0 : Int32)), (.int (Int32.ofNat cs.length))] below meth c s₁ [] 0 0 := Stand.of_body Bd
  have e0 : s₁.heap = h0 := by rw [← hh, Bd.state]; rfl
  have N0 := Fr.nil n0
  obtain ⟨S_cs, hG, S_fm, hF, S_ad, S_hi, S_lo⟩ := id ST
  have V_a1 := C1.1
  have hN_a1 : (Int32.ofNat cs.length).toNatClampNeg = (cs.map cv).length := by rw [List.length_map]; exact own_n (by omega)
  have lt_a1 := V_a1.lt
  obtain ⟨T1, h1, k1, X1, e1, E1, A1, Ea1, st1⟩ := newPE X0 hx hZ (tw hw 20 rfl) e0 (g := (mkF m 1 (q_38 a1 cs) [(.int (Int32.ofNat cs.length))])) rfl (hb hby d43_1) rfl (own_nn (n := cs.length) (by omega)) (cap := 120) (by rw [own_n (n := cs.length) (by omega)]; omega) (by decide) (by decide) (by decide) (ad := "[B") (by decide)
  obtain ⟨b1, g1⟩ : ∃ z, z = h0.size := ⟨_, rfl⟩
  rw [← g1] at A1 Ea1 st1
  have g_b1 : n0 ≤ b1 := by rw [g1]; exact Nat.le_trans (Nat.le_of_eq O0.1.symm) O0.2.1
  have sz_b1 : h0.size ≤ b1 := by rw [g1]; exact (Keep.refl h0 []).1
  have lt_a1_b1 : a1 < b1 := Nat.lt_of_lt_of_le lt_a1 sz_b1
  have O2 := O0.ext E1
  have kp3 : Keep h0 h1 [] := (Keep.refl h0 []).ext E1
  have V_b1 : Arv Z h1 b1 k1 .byte (Int32.ofNat cs.length) ((List.replicate cs.length (0 : Int32)).map Value.int) (.int (0 : Int32)) := by rw [List.map_replicate]; exact (Arv.new A1 (own_nn (n := cs.length) (by omega))).pad (pad_rep [] (.int (0 : Int32)) cs.length)
  have hN_b1 : ((Int32.ofNat cs.length)).toNatClampNeg = (List.replicate cs.length (0 : Int32)).length := by rw [List.length_replicate]; exact own_n (n := cs.length) (by omega)
  obtain ⟨_, T4, Lc4, X4, hQ4, st4⟩ := own_sc X1 hx hZ (y := Y_23) hown (tw hw 272 rfl) (tw hw 273 rfl) (by decide) (ru_cmB l Z a0 hw [] G1 Fm a1 kA cs b1 k1 (List.replicate cs.length 0) nF h1 n0 O2 ST ⟨(V_a1.ext E1), C1.2⟩ ⟨V_b1, by rw [List.length_replicate]⟩ hc (Nat.ne_of_lt lt_a1_b1) g_b1 hN hu1 hu2) (tw hw 274 rfl) (tw hw 270 rfl) e1 (W := 0) (by decide) (by decide) (Ls := (q_49 a1 cs b1)) (by rw [hml]; rfl) (argsL := [(.ref a1), (.int (0 : Int32)), (.ref b1), (.int (0 : Int32)), (.int (Int32.ofNat cs.length))]) (rest := []) (lenOf pd17 rfl) (Nat.le_of_eq rfl) (hb hby d43_9) rfl (by decide) (by decide)
  obtain ⟨h4, e4⟩ : ∃ z, T4.heap = z := ⟨_, rfl⟩
  rw [e4] at hQ4
  obtain ⟨rfl, Nq4, K4, Bc4⟩ := hQ4
  have N4 := Fr.app N0 Nq4
  have O5 := O2.keep K4 (allS g_b1 all0)
  have kp6 : Keep h0 h4 [] := kp3.trans K4 (allS (Or.inr sz_b1) all0)
  have pf7 : ∀ target, Go p e below T4 m 17 (q_54 a1 cs b1 nF) [(.int (Int32.ofNat cs.length)), (.int (Int32.ofNat nF))] target → Go p e below s₁ m 0 (q_38 a1 cs) [] target := by
    intro target k
    show Go p e below s₁ m 0 (q_38 a1 cs) [] _
    refine XS.iloadN X0.here hx rfl (hb hby d43_0) rfl ?_
    refine st1 _ ?_
    show Go p e below T1 m 3 (q_38 a1 cs) [(.ref b1)] _
    refine XS.astoreN X1.here hx rfl (hb hby d43_3) rfl rfl (l' := (q_49 a1 cs b1)) rfl ?_
    refine XS.aloadN X1.here hx rfl (hb hby d43_4) rfl rfl ?_
    refine XS.iloadN X1.here hx rfl (hb hby d43_5) rfl ?_
    refine XS.aloadN X1.here hx rfl (hb hby d43_6) rfl rfl ?_
    refine XS.iconst X1.here hx rfl (hb hby d43_7) ?_
    refine XS.iloadN X1.here hx rfl (hb hby d43_8) rfl ?_
    refine st4 _ ?_
    show Go p e below T4 m 12 (q_49 a1 cs b1) [(.int (Int32.ofNat nF))] _
    refine XS.istore X4.here hx rfl (hb hby d43_12) rfl (l' := (q_54 a1 cs b1 nF)) rfl ?_
    refine XS.iload X4.here hx rfl (hb hby d43_14) rfl ?_
    refine XS.iloadN X4.here hx rfl (hb hby d43_16) rfl ?_
    exact k
  obtain ⟨_, T8, Lc8, X8, hQ8, st8⟩ := own_sc X4 hx hZ (y := Y_56) hown (tw hw 347 rfl) (tw hw 348 rfl) (by decide) (ru_tb l Z a0 hw [] G1 Fm a1 kA cs h4 n0 O5 ST ⟨((V_a1.ext E1).keep K4 (ninS (Nat.ne_of_lt lt_a1_b1) nin0)), C1.2⟩ hc) (tw hw 349 rfl) (tw hw 270 rfl) e4 (W := 0) (by decide) (by decide) (Ls := (q_54 a1 cs b1 nF)) (by rw [hml]; rfl) (argsL := [(.ref a1), (.int (0 : Int32)), (.int (Int32.ofNat cs.length))]) (rest := []) (lenOf pd18 rfl) (Nat.le_of_eq rfl) (hb hby d43_23) rfl (by decide) (by decide)
  obtain ⟨h8, e8⟩ : ∃ z, T8.heap = z := ⟨_, rfl⟩
  rw [e8] at hQ8
  obtain ⟨t8, kt8, rfl, Nq8, K8, szt8, Bt8, Et8⟩ := hQ8
  have N8 := Fr.app N4 Nq8
  have O9 := O5.keep K8 all0
  have kp10 : Keep h0 h8 [] := kp6.trans K8 all0
  have sz_t8 := Nat.le_trans kp6.1 szt8
  have g_t8 : n0 ≤ t8 := Nat.le_trans (Nat.le_trans (Nat.le_of_eq O0.1.symm) O0.2.1) sz_t8
  have lt_b1_t8 : b1 < t8 := Nat.lt_of_lt_of_le (Ea1.keep K4).lt szt8
  have lt_a1_t8 : a1 < t8 := Nat.lt_of_lt_of_le lt_a1 sz_t8
  have V_t8 := Bt8.1
  obtain ⟨_, T11, Lc11, X11, hQ11, st11⟩ := own_sc X8 hx hZ (y := Y_33) hown (tw hw 344 rfl) (tw hw 345 rfl) (by decide) (ru_get l Z a0 hw [] G1 Fm t8 kt8 (2 * cs.length) (enc1 cs) nF (cs.getD nF 0) h8 n0 O9 ST ⟨V_t8, Bt8.2⟩ (by omega) (by omega) (enc1_get cs nF hN).1 (enc1_get cs nF hN).2) (tw hw 346 rfl) (tw hw 270 rfl) e8 (W := 0) (by decide) (by decide) (Ls := (q_55 a1 cs b1 nF t8)) (by rw [hml]; rfl) (argsL := [(.ref t8), (.int (Int32.ofNat nF))]) (rest := []) (lenOf pd4 rfl) (Nat.le_of_eq rfl) (hb hby d43_32) rfl (by decide) (by decide)
  obtain ⟨rfl, Nq11, e11⟩ := hQ11
  have N11 := Fr.app N8 Nq11
  have pf12 : ∀ target, Go p e below T11 m 38 (q_55 a1 cs b1 nF t8) [(.int (255 : Int32)), (.int (cv (cs.getD nF 0)))] target → Go p e below T4 m 17 (q_54 a1 cs b1 nF) [(.int (Int32.ofNat cs.length)), (.int (Int32.ofNat nF))] target := by
    intro target k
    show Go p e below T4 m 17 (q_54 a1 cs b1 nF) [(.int (Int32.ofNat cs.length)), (.int (Int32.ofNat nF))] _
    refine XS.icmpNo X4.here hx rfl (hb hby d43_17) rfl (feq (fun q => absurd ((own_eq (a := nF) (b := cs.length) (by omega) (by omega)).mp q) (by omega))).1 ?_
    refine XS.aloadN X4.here hx rfl (hb hby d43_20) rfl rfl ?_
    refine XS.iloadN X4.here hx rfl (hb hby d43_21) rfl ?_
    refine XS.iloadN X4.here hx rfl (hb hby d43_22) rfl ?_
    refine st8 _ ?_
    show Go p e below T8 m 26 (q_54 a1 cs b1 nF) [(.ref t8)] _
    refine XS.astore X8.here hx rfl (hb hby d43_26) rfl rfl (l' := (q_55 a1 cs b1 nF t8)) rfl ?_
    refine XS.aload X8.here hx rfl (hb hby d43_28) rfl rfl ?_
    refine XS.iload X8.here hx rfl (hb hby d43_30) rfl ?_
    refine st11 _ ?_
    show Go p e below T11 m 35 (q_55 a1 cs b1 nF t8) [(.int (cv (cs.getD nF 0)))] _
    refine XS.sipush X11.here hx rfl (hb hby d43_35) ?_
    exact k
  obtain ⟨fs, hr, hrun, hended, hW, hsame⟩ := X11.leave (v := some (.ref t8)) (fun h => by rw [Bd.returns] at h; cases h)
  refine ⟨_, _, castTop (ef_ru_cB m a1 (0 : Int32) (Int32.ofNat cs.length)) ?_, hrun, hended, _, _, rfl, ?_, ⟨_, rfl⟩, hW, hsame.mono (by decide) (by decide)⟩
  · refine pf7 _ ?_
    refine pf12 _ ?_
    show Go p e below T11 m 38 (q_55 a1 cs b1 nF t8) [(.int (255 : Int32)), (.int (cv (cs.getD nF 0)))] _
    refine XS.icmpYes X11.here hx rfl (pc0 := 38) (pc' := 54) rfl (hb hby d43_38) rfl (tlt hu2).2.2.1 (by decide) (by decide) ?_
    refine XS.aload X11.here hx rfl (hb hby d43_54) rfl rfl ?_
    show Go p e below T11 m 56 (q_55 a1 cs b1 nF t8) [(.ref t8)] _
    exact retOut X11 hx Bd.returns rfl (Or.inr (Or.inr (Or.inr (Or.inr ⟨rfl, rfl, rfl⟩)))) (hb hby d43_56) hr
  · show Qar Z (2 * cs.length) (enc1 cs) h0 n0 _ T11.heap _
    rw [e11]
    exact ⟨t8, _, rfl, N11, kp10, sz_t8, ⟨V_t8, enc1_len cs⟩, Et8⟩
theorem d45_0 : Dc cb27 0 (.iload_n 1) 1 := by decide +kernel
theorem d45_1 : Dc cb27 1 (.aload_n 0) 1 := by decide +kernel
theorem d45_2 : Dc cb27 2 .arraylength 1 := by decide +kernel
theorem d45_3 : Dc cb27 3 .isub 1 := by decide +kernel
theorem d45_4 : Dc cb27 4 (.bipush 31) 2 := by decide +kernel
theorem d45_6 : Dc cb27 6 .iushr 1 := by decide +kernel
theorem d45_7 : Dc cb27 7 .i2b 1 := by decide +kernel
theorem d45_8 : Dc cb27 8 .ireturn 1 := by decide +kernel
theorem ef_ru_cf0 (m : MethodId) (x0 : Addr) (x1 : Int32) : entryFrame m #[(.ref x0), (.int x1)] 2 = mkF m 0 #[.val (.ref x0), .val (.int x1)] [] := by first | (simp [entryFrame, mkF, argsToLocals, Value.category]; done) | rfl
set_option maxRecDepth 65536 in
set_option maxHeartbeats 40000000 in
theorem ru_cf0 (l : Launch) (Z : State) (a0 : Array Value) (hw : Hw a0 Z) (ws : List Jvm.Cond) (G1 : Int32) (Fm : Value) (a1 : Addr) (kA : ClassId) (vs : List Int32) (i1 : Nat) (h0 : Heap) (n0 : Nat) (O0 : Old Z n0 h0) (ST : Stc Z G1 Fm) (B1 : Bar Z h0 a1 kA i1 vs) (h1 : 1 ≤ i1) (hB : i1 ≤ 120) :
    Met l Z h0 ws Y_25 jdk_52_method_15_code 2 (some .byte) R_0 #[(.ref a1), (.int (Int32.ofNat i1))] (Qpure (some (.int (0 : Int32))) h0 n0) := by
  refine MetFree.of_bodySF (plainFor_of_name pn0) hisR ?_
  intro p e s m args below meth c s₁ Bd hml0 hP hK
  obtain ⟨rfl, hZ, hh⟩ := hP
  have hx := Bd.exec
  have hby := Bd.bytes
  have hml : c.maxLocals = 2 := hml0
  have hown : s.vm.findClass "java/lang/StringUTF16" = some m.cls := findClass_of_methodNamed Bd.named
  have hnm := (name_of_methodNamed Bd.named Bd.method).1
  have X0 : Stand p l e R_0 s m #[(.ref a1), (.int (Int32.ofNat i1))] below meth c s₁ [] 0 0 := Stand.of_body Bd
  have e0 : s₁.heap = h0 := by rw [← hh, Bd.state]; rfl
  have N0 := Fr.nil n0
  obtain ⟨S_cs, hG, S_fm, hF, S_ad, S_hi, S_lo⟩ := id ST
  have V_a1 := B1.1
  have l_a1 := B1.2
  have hN_a1 : (Int32.ofNat i1).toNatClampNeg = vs.length := by rw [l_a1]; exact own_n (by omega)
  have lt_a1 := V_a1.lt
  obtain ⟨cl1, Ar1, q1, Sz1, Nn1, Ha1, Gf1⟩ := id V_a1
  obtain ⟨fs, hr, hrun, hended, hW, hsame⟩ := X0.leave (v := some (.int (0 : Int32))) (fun h => by rw [Bd.returns] at h; cases h)
  refine ⟨_, _, castTop (ef_ru_cf0 m a1 (Int32.ofNat i1)) ?_, hrun, hended, _, _, rfl, ?_, ⟨_, rfl⟩, hW, hsame.mono (by decide) (by decide)⟩
  · show Go p e below s₁ m 0 (q_3 a1 i1) [] _
    refine XS.iloadN X0.here hx rfl (hb hby d45_0) rfl ?_
    refine XS.aloadN X0.here hx rfl (hb hby d45_1) rfl rfl ?_
    show Go p e below s₁ m 2 (q_3 a1 i1) [(.ref a1), (.int (Int32.ofNat i1))] _
    refine X0.arraylength hx (by rw [e0]; exact Ar1.1) (State.isArrayOf_alike hZ.alike Ar1.2.1) (g := (mkF m 2 (q_3 a1 i1) [(.ref a1), (.int (Int32.ofNat i1))])) rfl rfl (hb hby d45_2) _ ?_
    rw [len_of Sz1 Nn1]
    show Go p e below s₁ m 3 (q_3 a1 i1) [(.int (Int32.ofNat i1)), (.int (Int32.ofNat i1))] _
    refine XS.isub X0.here hx rfl (hb hby d45_3) rfl ?_
    refine XS.bipush X0.here hx rfl (hb hby d45_4) ?_
    refine XS.iushr X0.here hx rfl (hb hby d45_6) rfl ?_
    refine XS.i2b X0.here hx rfl (hb hby d45_7) rfl ?_
    show Go p e below s₁ m 8 (q_3 a1 i1) [(.int (((((Int32.ofNat i1) - (Int32.ofNat i1)).toUInt32 >>> ((31 : Int32) &&& 31).toUInt32).toInt32).toInt8.toInt32))] _
    rw [show (((((Int32.ofNat i1) - (Int32.ofNat i1)).toUInt32 >>> ((31 : Int32) &&& 31).toUInt32).toInt32).toInt8.toInt32) = (0 : Int32) from own_cf0 i1]
    show Go p e below s₁ m 8 (q_3 a1 i1) [(.int (0 : Int32))] _
    exact retN X0 hx (t := .byte) Bd.returns (by simp) (hb hby d45_8) hr
  · show Qpure (some (.int (0 : Int32))) h0 n0 _ s₁.heap _
    rw [e0]
    exact ⟨rfl, N0, rfl⟩
theorem ef_ru_cf1 (m : MethodId) (x0 : Addr) (x1 : Int32) : entryFrame m #[(.ref x0), (.int x1)] 2 = mkF m 0 #[.val (.ref x0), .val (.int x1)] [] := by first | (simp [entryFrame, mkF, argsToLocals, Value.category]; done) | rfl
set_option maxRecDepth 65536 in
set_option maxHeartbeats 40000000 in
theorem ru_cf1 (l : Launch) (Z : State) (a0 : Array Value) (hw : Hw a0 Z) (ws : List Jvm.Cond) (G1 : Int32) (Fm : Value) (a1 : Addr) (kA : ClassId) (vs : List Int32) (i1 : Nat) (h0 : Heap) (n0 : Nat) (O0 : Old Z n0 h0) (ST : Stc Z G1 Fm) (B1 : Bar Z h0 a1 kA (2 * i1) vs) (h1 : 1 ≤ i1) (hB : i1 ≤ 120) :
    Met l Z h0 ws Y_25 jdk_52_method_15_code 2 (some .byte) R_0 #[(.ref a1), (.int (Int32.ofNat i1))] (Qpure (some (.int (1 : Int32))) h0 n0) := by
  refine MetFree.of_bodySF (plainFor_of_name pn0) hisR ?_
  intro p e s m args below meth c s₁ Bd hml0 hP hK
  obtain ⟨rfl, hZ, hh⟩ := hP
  have hx := Bd.exec
  have hby := Bd.bytes
  have hml : c.maxLocals = 2 := hml0
  have hown : s.vm.findClass "java/lang/StringUTF16" = some m.cls := findClass_of_methodNamed Bd.named
  have hnm := (name_of_methodNamed Bd.named Bd.method).1
  have X0 : Stand p l e R_0 s m #[(.ref a1), (.int (Int32.ofNat i1))] below meth c s₁ [] 0 0 := Stand.of_body Bd
  have e0 : s₁.heap = h0 := by rw [← hh, Bd.state]; rfl
  have N0 := Fr.nil n0
  obtain ⟨S_cs, hG, S_fm, hF, S_ad, S_hi, S_lo⟩ := id ST
  have V_a1 := B1.1
  have l_a1 := B1.2
  have hN_a1 : (Int32.ofNat (2 * i1)).toNatClampNeg = vs.length := by rw [l_a1]; exact own_n (by omega)
  have lt_a1 := V_a1.lt
  obtain ⟨cl1, Ar1, q1, Sz1, Nn1, Ha1, Gf1⟩ := id V_a1
  obtain ⟨fs, hr, hrun, hended, hW, hsame⟩ := X0.leave (v := some (.int (1 : Int32))) (fun h => by rw [Bd.returns] at h; cases h)
  refine ⟨_, _, castTop (ef_ru_cf1 m a1 (Int32.ofNat i1)) ?_, hrun, hended, _, _, rfl, ?_, ⟨_, rfl⟩, hW, hsame.mono (by decide) (by decide)⟩
  · show Go p e below s₁ m 0 (q_3 a1 i1) [] _
    refine XS.iloadN X0.here hx rfl (hb hby d45_0) rfl ?_
    refine XS.aloadN X0.here hx rfl (hb hby d45_1) rfl rfl ?_
    show Go p e below s₁ m 2 (q_3 a1 i1) [(.ref a1), (.int (Int32.ofNat i1))] _
    refine X0.arraylength hx (by rw [e0]; exact Ar1.1) (State.isArrayOf_alike hZ.alike Ar1.2.1) (g := (mkF m 2 (q_3 a1 i1) [(.ref a1), (.int (Int32.ofNat i1))])) rfl rfl (hb hby d45_2) _ ?_
    rw [len_of Sz1 Nn1]
    show Go p e below s₁ m 3 (q_3 a1 i1) [(.int (Int32.ofNat (2 * i1))), (.int (Int32.ofNat i1))] _
    refine XS.isub X0.here hx rfl (hb hby d45_3) rfl ?_
    refine XS.bipush X0.here hx rfl (hb hby d45_4) ?_
    refine XS.iushr X0.here hx rfl (hb hby d45_6) rfl ?_
    refine XS.i2b X0.here hx rfl (hb hby d45_7) rfl ?_
    show Go p e below s₁ m 8 (q_3 a1 i1) [(.int (((((Int32.ofNat i1) - (Int32.ofNat (2 * i1))).toUInt32 >>> ((31 : Int32) &&& 31).toUInt32).toInt32).toInt8.toInt32))] _
    rw [show (((((Int32.ofNat i1) - (Int32.ofNat (2 * i1))).toUInt32 >>> ((31 : Int32) &&& 31).toUInt32).toInt32).toInt8.toInt32) = (1 : Int32) from own_cf1 h1 (by omega)]
    show Go p e below s₁ m 8 (q_3 a1 i1) [(.int (1 : Int32))] _
    exact retN X0 hx (t := .byte) Bd.returns (by simp) (hb hby d45_8) hr
  · show Qpure (some (.int (1 : Int32))) h0 n0 _ s₁.heap _
    rw [e0]
    exact ⟨rfl, N0, rfl⟩
theorem d3_0 : Dc cb28 0 (.aload_n 0) 1 := by decide +kernel
theorem d3_1 : Dc cb28 1 (.invokespecial 1) 3 := by decide +kernel
theorem d3_4 : Dc cb28 4 (.iload_n 3) 1 := by decide +kernel
theorem d3_5 : Dc cb28 5 (.ifCond .ne 22) 3 := by decide +kernel
theorem d3_27 : Dc cb28 27 (.getstatic 38) 3 := by decide +kernel
theorem d3_30 : Dc cb28 30 (.ifCond .eq 28) 3 := by decide +kernel
theorem d3_33 : Dc cb28 33 (.aload_n 1) 1 := by decide +kernel
theorem d3_34 : Dc cb28 34 (.iload_n 2) 1 := by decide +kernel
theorem d3_35 : Dc cb28 35 (.iload_n 3) 1 := by decide +kernel
theorem d3_36 : Dc cb28 36 (.invokestatic 177) 3 := by decide +kernel
theorem d3_39 : Dc cb28 39 (.astore 5) 2 := by decide +kernel
theorem d3_41 : Dc cb28 41 (.aload_n 0) 1 := by decide +kernel
theorem d3_42 : Dc cb28 42 (.aload 5) 2 := by decide +kernel
theorem d3_44 : Dc cb28 44 (.iload_n 3) 1 := by decide +kernel
theorem d3_45 : Dc cb28 45 (.invokestatic 47) 3 := by decide +kernel
theorem pd19 : parseMethodDescriptor "([BI)B" = some ⟨[(.array .byte), .int], some .byte⟩ := by decide +kernel
theorem d3_48 : Dc cb28 48 (.putfield 15) 3 := by decide +kernel
theorem d3_51 : Dc cb28 51 (.aload_n 0) 1 := by decide +kernel
theorem d3_52 : Dc cb28 52 (.aload 5) 2 := by decide +kernel
theorem d3_54 : Dc cb28 54 (.putfield 9) 3 := by decide +kernel
theorem d3_57 : Dc cb28 57 .return_ 1 := by decide +kernel
theorem ef_rs_icA (m : MethodId) (x0 : Addr) (x1 : Addr) (x2 : Int32) (x3 : Int32) : entryFrame m #[(.ref x0), (.ref x1), (.int x2), (.int x3), .null] 6 = mkF m 0 #[.val (.ref x0), .val (.ref x1), .val (.int x2), .val (.int x3), .val .null, .unset] [] := by first | (simp [entryFrame, mkF, argsToLocals, Value.category]; done) | rfl
set_option maxRecDepth 65536 in
set_option maxHeartbeats 40000000 in
theorem rs_icA (l : Launch) (Z : State) (a0 : Array Value) (hw : Hw a0 Z) (ws : List Jvm.Cond) (G1 : Int32) (Fm : Value) (a1 : Addr) (a2 : Addr) (kA : ClassId) (cs : List UInt16) (h0 : Heap) (n0 : Nat) (O0 : Old Z n0 h0) (ST : Stc Z G1 Fm) (E_a : Exa Z h0 a1 "java/lang/String") (F_v : Fld Z h0 a1 "java/lang/String" "value" "[B" .null) (F_c : Fld Z h0 a1 "java/lang/String" "coder" "B" (.int (0 : Int32))) (g_a1 : n0 ≤ a1) (C2 : Car Z h0 a2 kA cs.length cs) (hne : a1 ≠ a2) (hc : cs.length ≤ 120) (h1 : 1 ≤ cs.length) (hu : ∀ u ∈ cs, u < 256) :
    Met l Z h0 ws Y_10 jdk_42_method_149_code 6 none R_38 #[(.ref a1), (.ref a2), (.int (0 : Int32)), (.int (Int32.ofNat cs.length)), .null] (Qst Z a1 cs h0 n0) := by
  refine MetFree.of_bodySF (plainFor_of_name pn2) hisR ?_
  intro p e s m args below meth c s₁ Bd hml0 hP hK
  obtain ⟨rfl, hZ, hh⟩ := hP
  have hx := Bd.exec
  have hby := Bd.bytes
  have hml : c.maxLocals = 6 := hml0
  have hown : s.vm.findClass "java/lang/String" = some m.cls := findClass_of_methodNamed Bd.named
  have hnm := (name_of_methodNamed Bd.named Bd.method).1
  have X0 : Stand p l e R_38 s m #[(.ref a1), (.ref a2), (.int (0 : Int32)), (.int (Int32.ofNat cs.length)), .null] below meth c s₁ [] 0 0 := Stand.of_body Bd
  have e0 : s₁.heap = h0 := by rw [← hh, Bd.state]; rfl
  have N0 := Fr.nil n0
  obtain ⟨S_cs, hG, S_fm, hF, S_ad, S_hi, S_lo⟩ := id ST
  have lt_a1 := E_a.lt
  have V_a2 := C2.1
  have lt_a2 := V_a2.lt
  obtain ⟨T1, X1, e1, st1⟩ := initO X0 hx hZ hown (tw hw 16 rfl) (tw hw 17 rfl) (tw hw 18 rfl) e0 (g := (mkF m 1 (q_12 a1 a2 cs) [(.ref a1)])) rfl (by rw [hml]; rfl) rfl (hb hby d3_1) (by decide) (W := 0) (by show 2 * 0 + _ ≤ _; exact Nat.le_of_eq rfl) (by decide)
  obtain ⟨T2, X2, e2, st2⟩ := getS2 X1 hx hZ hown (host := "") (Or.inl (tw hw 38 rfl)) Via.refl e1 (S_cs.ext O0.2) (g := (mkF m 27 (q_12 a1 a2 cs) [])) rfl (hb hby d3_27)
  have pf3 : ∀ target, Go p e below T2 m 30 (q_12 a1 a2 cs) [(.int G1)] target → Go p e below s₁ m 0 (q_12 a1 a2 cs) [] target := by
    intro target k
    show Go p e below s₁ m 0 (q_12 a1 a2 cs) [] _
    refine XS.aloadN X0.here hx rfl (hb hby d3_0) rfl rfl ?_
    refine st1 _ ?_
    show Go p e below T1 m 4 (q_12 a1 a2 cs) [] _
    refine XS.iloadN X1.here hx rfl (hb hby d3_4) rfl ?_
    refine XS.ifYes X1.here hx rfl (pc0 := 5) (pc' := 27) rfl (hb hby d3_5) rfl ((if0 _ _).trans (feq (fun q => absurd ((own_eq (a := cs.length) (b := 0) (by omega) (by omega)).mp q) (by omega))).2) (by decide) (by decide) ?_
    refine st2 _ ?_
    exact k
  obtain ⟨_, T4, Lc4, X4, hQ4, st4⟩ := own_sc X2 hx hZ (y := Y_24) hown (tw hw 268 rfl) (tw hw 269 rfl) (by decide) (ru_cA l Z a0 hw [] G1 Fm a2 kA cs h0 n0 O0 ST ⟨V_a2, C2.2⟩ hc hu) (tw hw 271 rfl) (tw hw 270 rfl) e2 (W := 0) (by decide) (by decide) (Ls := (q_12 a1 a2 cs)) (by rw [hml]; rfl) (argsL := [(.ref a2), (.int (0 : Int32)), (.int (Int32.ofNat cs.length))]) (rest := []) (lenOf pd18 rfl) (Nat.le_of_eq rfl) (hb hby d3_36) rfl (by decide) (by decide)
  obtain ⟨h4, e4⟩ : ∃ z, T4.heap = z := ⟨_, rfl⟩
  rw [e4] at hQ4
  obtain ⟨t4, kt4, rfl, Nq4, K4, szt4, Bt4, Et4⟩ := hQ4
  have N4 := Fr.app N0 Nq4
  have O5 := O0.keep K4 all0
  have kp6 : Keep h0 h4 [a1] := (Keep.refl h0 [a1]).trans K4 all0
  have sz_t4 := Nat.le_trans (Keep.refl h0 [a1]).1 szt4
  have g_t4 : n0 ≤ t4 := Nat.le_trans (Nat.le_trans (Nat.le_of_eq O0.1.symm) O0.2.1) sz_t4
  have lt_a1_t4 : a1 < t4 := Nat.lt_of_lt_of_le lt_a1 sz_t4
  have lt_a2_t4 : a2 < t4 := Nat.lt_of_lt_of_le lt_a2 sz_t4
  have V_t4 := Bt4.1
  obtain ⟨_, T7, Lc7, X7, hQ7, st7⟩ := own_sc X4 hx hZ (y := Y_25) hown (tw hw 275 rfl) (tw hw 276 rfl) (by decide) (ru_cf0 l Z a0 hw [] G1 Fm t4 kt4 (cs.map cLo) cs.length h4 n0 O5 ST ⟨V_t4, Bt4.2⟩ h1 hc) (tw hw 277 rfl) (tw hw 270 rfl) e4 (W := 1) (by decide) (by decide) (Ls := (q_19 a1 a2 cs t4)) (by rw [hml]; rfl) (argsL := [(.ref t4), (.int (Int32.ofNat cs.length))]) (rest := [(.ref a1)]) (lenOf pd19 rfl) (Nat.le_of_eq rfl) (hb hby d3_45) rfl (by decide) (by decide)
  obtain ⟨rfl, Nq7, e7⟩ := hQ7
  have N7 := Fr.app N4 Nq7
  obtain ⟨T8, h8, X8, e8, W8, st8⟩ := putFN X7 hx hZ hown (tw hw 26 rfl) Via.refl e7 (F_c.keep K4 nin0) (E_a.keep K4) (Or.inr ⟨(tw hw 22 rfl), rfl, hnm⟩) (tw hw 6 rfl) (ty := .byte) (v' := (.int (0 : Int32))) (by decide) rfl rfl (g := (mkF m 48 (q_19 a1 a2 cs t4) [(.int (0 : Int32)), (.ref a1)])) rfl rfl (hb hby d3_48)
  have Fw8 := (F_c.keep K4 nin0).same W8
  have O9 := O5.wr W8 g_a1
  have kp10 : Keep h0 h8 [a1] := kp6.wr W8 (Or.inl (List.mem_of_getElem? (i := 0) rfl))
  have N8 := Fr.snoc X8 N7 g_a1
  obtain ⟨T11, h11, X11, e11, W11, st11⟩ := putF X8 hx hZ hown (host := "") (Or.inl (tw hw 25 rfl)) Via.refl e8 ((F_v.keep K4 nin0).other W8 (Or.inr (slot_ne (Or.inr (tw hw 21 rfl)) (Or.inr (tw hw 22 rfl)) (by decide) (t := (.array .byte)) (t' := .byte) (by decide) (by decide)))) ((E_a.keep K4).wr W8) (Or.inr ⟨(tw hw 21 rfl), rfl, hnm⟩) (tw hw 6 rfl) (ty := (.array .byte)) (by decide) rfl rfl (g := (mkF m 54 (q_19 a1 a2 cs t4) [(.ref t4), (.ref a1)])) rfl rfl (hb hby d3_54)
  have Fw11 := ((F_v.keep K4 nin0).other W8 (Or.inr (slot_ne (Or.inr (tw hw 21 rfl)) (Or.inr (tw hw 22 rfl)) (by decide) (t := (.array .byte)) (t' := .byte) (by decide) (by decide)))).same W11
  have O12 := O9.wr W11 g_a1
  have kp13 : Keep h0 h11 [a1] := kp10.wr W11 (Or.inl (List.mem_of_getElem? (i := 0) rfl))
  have N11 := Fr.snoc X11 N8 g_a1
  obtain ⟨fs, hr, hrun, hended, hW, hsame⟩ := X11.leave (v := none) (fun _ => rfl)
  refine ⟨_, _, castTop (ef_rs_icA m a1 a2 (0 : Int32) (Int32.ofNat cs.length)) ?_, hrun, hended, _, _, rfl, ?_, ⟨_, rfl⟩, hW, hsame.mono (by decide) (by decide)⟩
  · refine pf3 _ ?_
    show Go p e below T2 m 30 (q_12 a1 a2 cs) [(.int G1)] _
    refine XS.ifNo X2.here hx rfl (hb hby d3_30) rfl ((if0 _ _).trans (feq hG).1) ?_
    refine XS.aloadN X2.here hx rfl (hb hby d3_33) rfl rfl ?_
    refine XS.iloadN X2.here hx rfl (hb hby d3_34) rfl ?_
    refine XS.iloadN X2.here hx rfl (hb hby d3_35) rfl ?_
    refine st4 _ ?_
    show Go p e below T4 m 39 (q_12 a1 a2 cs) [(.ref t4)] _
    refine XS.astore X4.here hx rfl (hb hby d3_39) rfl rfl (l' := (q_19 a1 a2 cs t4)) rfl ?_
    refine XS.aloadN X4.here hx rfl (hb hby d3_41) rfl rfl ?_
    refine XS.aload X4.here hx rfl (hb hby d3_42) rfl rfl ?_
    refine XS.iloadN X4.here hx rfl (hb hby d3_44) rfl ?_
    refine st7 _ ?_
    refine st8 _ ?_
    show Go p e below T8 m 51 (q_19 a1 a2 cs t4) [] _
    refine XS.aloadN X8.here hx rfl (hb hby d3_51) rfl rfl ?_
    refine XS.aload X8.here hx rfl (hb hby d3_52) rfl rfl ?_
    refine st11 _ ?_
    show Go p e below T11 m 57 (q_19 a1 a2 cs t4) [] _
    exact X11.returnOut hx Bd.returns (hb hby d3_57) hr
  · show Qst Z a1 cs h0 n0 _ T11.heap _
    rw [e11]
    exact ⟨rfl, N11, kp13, t4, _, sz_t4, Or.inl ⟨(((E_a.keep K4).wr W8).wr W11), (Fw8.other W11 (Or.inr (slot_ne (Or.inr (tw hw 22 rfl)) (Or.inr (tw hw 21 rfl)) (by decide) (t := .byte) (t' := (.array .byte)) (by decide) (by decide)))), Fw11, ⟨((V_t4.other W8 (Ne.symm (Nat.ne_of_lt lt_a1_t4))).other W11 (Ne.symm (Nat.ne_of_lt lt_a1_t4))), Bt4.2⟩, hu⟩⟩
theorem d2_0 : Dc cb29 0 (.aload_n 0) 1 := by decide +kernel
theorem d2_1 : Dc cb29 1 (.aload_n 1) 1 := by decide +kernel
theorem d2_2 : Dc cb29 2 (.iconst 0) 1 := by decide +kernel
theorem d2_3 : Dc cb29 3 (.aload_n 1) 1 := by decide +kernel
theorem d2_4 : Dc cb29 4 .arraylength 1 := by decide +kernel
theorem d2_5 : Dc cb29 5 .aconst_null 1 := by decide +kernel
theorem d2_6 : Dc cb29 6 (.invokespecial 27) 3 := by decide +kernel
theorem pd20 : parseMethodDescriptor "([CIILjava/lang/Void;)V" = some ⟨[(.array .char), .int, .int, (.object "java/lang/Void")], none⟩ := by decide +kernel
theorem d2_9 : Dc cb29 9 .return_ 1 := by decide +kernel
theorem ef_rs_iA (m : MethodId) (x0 : Addr) (x1 : Addr) : entryFrame m #[(.ref x0), (.ref x1)] 2 = mkF m 0 #[.val (.ref x0), .val (.ref x1)] [] := by first | (simp [entryFrame, mkF, argsToLocals, Value.category]; done) | rfl
set_option maxRecDepth 65536 in
set_option maxHeartbeats 40000000 in
theorem rs_iA (l : Launch) (Z : State) (a0 : Array Value) (hw : Hw a0 Z) (ws : List Jvm.Cond) (G1 : Int32) (Fm : Value) (a1 : Addr) (a2 : Addr) (kA : ClassId) (cs : List UInt16) (h0 : Heap) (n0 : Nat) (O0 : Old Z n0 h0) (ST : Stc Z G1 Fm) (E_a : Exa Z h0 a1 "java/lang/String") (F_v : Fld Z h0 a1 "java/lang/String" "value" "[B" .null) (F_c : Fld Z h0 a1 "java/lang/String" "coder" "B" (.int (0 : Int32))) (g_a1 : n0 ≤ a1) (C2 : Car Z h0 a2 kA cs.length cs) (hne : a1 ≠ a2) (hc : cs.length ≤ 120) (h1 : 1 ≤ cs.length) (hu : ∀ u ∈ cs, u < 256) :
    Met l Z h0 ws Y_11 jdk_42_method_3_code 2 none R_13 #[(.ref a1), (.ref a2)] (Qst Z a1 cs h0 n0) := by
  refine MetFree.of_bodySF (plainFor_of_name pn2) hisR ?_
  intro p e s m args below meth c s₁ Bd hml0 hP hK
  obtain ⟨rfl, hZ, hh⟩ := hP
  have hx := Bd.exec
  have hby := Bd.bytes
  have hml : c.maxLocals = 2 := hml0
  have hown : s.vm.findClass "java/lang/String" = some m.cls := findClass_of_methodNamed Bd.named
  have hnm := (name_of_methodNamed Bd.named Bd.method).1
  have X0 : Stand p l e R_13 s m #[(.ref a1), (.ref a2)] below meth c s₁ [] 0 0 := Stand.of_body Bd
  have e0 : s₁.heap = h0 := by rw [← hh, Bd.state]; rfl
  have N0 := Fr.nil n0
  obtain ⟨S_cs, hG, S_fm, hF, S_ad, S_hi, S_lo⟩ := id ST
  have lt_a1 := E_a.lt
  have V_a2 := C2.1
  have lt_a2 := V_a2.lt
  obtain ⟨cl1, Ar1, q1, Sz1, Nn1, Ha1, Gf1⟩ := id V_a2
  obtain ⟨_, T2, Lc2, X2, hQ2, st2⟩ := own_ic X0 hx hZ (y := Y_10) rfl hown (tw hw 12 rfl) (tw hw 13 rfl) (by decide) (rs_icA l Z a0 hw [] G1 Fm a1 a2 kA cs h0 n0 O0 ST E_a F_v F_c g_a1 C2 hne hc h1 hu) (tw hw 15 rfl) (tw hw 7 rfl) e0 (W := 0) (by decide) (by decide) (Ls := (q_0 a1 a2)) (by rw [hml]; rfl) (b := a1) (argsL := [(.ref a2), (.int (0 : Int32)), (.int (Int32.ofNat cs.length)), .null]) (rest := []) (lenOf pd20 rfl) (Nat.le_of_eq rfl) (hb hby d2_6) rfl (by decide) (by decide)
  obtain ⟨h2, e2⟩ : ∃ z, T2.heap = z := ⟨_, rfl⟩
  rw [e2] at hQ2
  obtain ⟨rfl, Nq2, K2, R2⟩ := hQ2
  have N2 := Fr.app N0 Nq2
  have O3 := O0.keep K2 (allS g_a1 all0)
  have kp4 : Keep h0 h2 [a1] := (Keep.refl h0 [a1]).trans K2 (allS (Or.inl (List.mem_of_getElem? (i := 0) rfl)) all0)
  have RR := R2
  obtain ⟨fs, hr, hrun, hended, hW, hsame⟩ := X2.leave (v := none) (fun _ => rfl)
  refine ⟨_, _, castTop (ef_rs_iA m a1 a2) ?_, hrun, hended, _, _, rfl, ?_, ⟨_, rfl⟩, hW, hsame.mono (by decide) (by decide)⟩
  · show Go p e below s₁ m 0 (q_0 a1 a2) [] _
    refine XS.aloadN X0.here hx rfl (hb hby d2_0) rfl rfl ?_
    refine XS.aloadN X0.here hx rfl (hb hby d2_1) rfl rfl ?_
    refine XS.iconst X0.here hx rfl (hb hby d2_2) ?_
    refine XS.aloadN X0.here hx rfl (hb hby d2_3) rfl rfl ?_
    show Go p e below s₁ m 4 (q_0 a1 a2) [(.ref a2), (.int (0 : Int32)), (.ref a2), (.ref a1)] _
    refine X0.arraylength hx (by rw [e0]; exact Ar1.1) (State.isArrayOf_alike hZ.alike Ar1.2.1) (g := (mkF m 4 (q_0 a1 a2) [(.ref a2), (.int (0 : Int32)), (.ref a2), (.ref a1)])) rfl rfl (hb hby d2_4) _ ?_
    rw [len_of Sz1 Nn1]
    show Go p e below s₁ m 5 (q_0 a1 a2) [(.int (Int32.ofNat cs.length)), (.int (0 : Int32)), (.ref a2), (.ref a1)] _
    refine XS.aconstNull X0.here hx rfl (hb hby d2_5) ?_
    refine st2 _ ?_
    show Go p e below T2 m 9 (q_0 a1 a2) [] _
    exact X2.returnOut hx Bd.returns (hb hby d2_9) hr
  · show Qst Z a1 cs h0 n0 _ T2.heap _
    rw [e2]
    exact ⟨rfl, N2, kp4, RR⟩
theorem ef_rs_icB (m : MethodId) (x0 : Addr) (x1 : Addr) (x2 : Int32) (x3 : Int32) : entryFrame m #[(.ref x0), (.ref x1), (.int x2), (.int x3), .null] 6 = mkF m 0 #[.val (.ref x0), .val (.ref x1), .val (.int x2), .val (.int x3), .val .null, .unset] [] := by first | (simp [entryFrame, mkF, argsToLocals, Value.category]; done) | rfl
set_option maxRecDepth 65536 in
set_option maxHeartbeats 40000000 in
theorem rs_icB (l : Launch) (Z : State) (a0 : Array Value) (hw : Hw a0 Z) (ws : List Jvm.Cond) (G1 : Int32) (Fm : Value) (a1 : Addr) (a2 : Addr) (kA : ClassId) (cs : List UInt16) (nF : Nat) (h0 : Heap) (n0 : Nat) (O0 : Old Z n0 h0) (ST : Stc Z G1 Fm) (E_a : Exa Z h0 a1 "java/lang/String") (F_v : Fld Z h0 a1 "java/lang/String" "value" "[B" .null) (F_c : Fld Z h0 a1 "java/lang/String" "coder" "B" (.int (0 : Int32))) (g_a1 : n0 ≤ a1) (C2 : Car Z h0 a2 kA cs.length cs) (hne : a1 ≠ a2) (hc : cs.length ≤ 120) (h1 : 1 ≤ cs.length) (hN : nF < cs.length) (hu1 : ∀ j, j < nF → ¬ (255 : Int32) < (cv (cs.getD j 0))) (hu2 : (255 : Int32) < (cv (cs.getD nF 0))) :
    Met l Z h0 ws Y_10 jdk_42_method_149_code 6 none R_39 #[(.ref a1), (.ref a2), (.int (0 : Int32)), (.int (Int32.ofNat cs.length)), .null] (Qst Z a1 cs h0 n0) := by
  refine MetFree.of_bodySF (plainFor_of_name pn2) hisR ?_
  intro p e s m args below meth c s₁ Bd hml0 hP hK
  obtain ⟨rfl, hZ, hh⟩ := hP
  have hx := Bd.exec
  have hby := Bd.bytes
  have hml : c.maxLocals = 6 := hml0
  have hown : s.vm.findClass "java/lang/String" = some m.cls := findClass_of_methodNamed Bd.named
  have hnm := (name_of_methodNamed Bd.named Bd.method).1
  have X0 : Stand p l e R_39 s m #[(.ref a1), (.ref a2), (.int (0 : Int32)), (.int (Int32.ofNat cs.length)), .null] below meth c s₁ [] 0 0 := Stand.of_body Bd
  have e0 : s₁.heap = h0 := by rw [← hh, Bd.state]; rfl
  have N0 := Fr.nil n0
  obtain ⟨S_cs, hG, S_fm, hF, S_ad, S_hi, S_lo⟩ := id ST
  have lt_a1 := E_a.lt
  have V_a2 := C2.1
  have lt_a2 := V_a2.lt
  obtain ⟨T1, X1, e1, st1⟩ := initO X0 hx hZ hown (tw hw 16 rfl) (tw hw 17 rfl) (tw hw 18 rfl) e0 (g := (mkF m 1 (q_12 a1 a2 cs) [(.ref a1)])) rfl (by rw [hml]; rfl) rfl (hb hby d3_1) (by decide) (W := 0) (by show 2 * 0 + _ ≤ _; exact Nat.le_of_eq rfl) (by decide)
  obtain ⟨T2, X2, e2, st2⟩ := getS2 X1 hx hZ hown (host := "") (Or.inl (tw hw 38 rfl)) Via.refl e1 (S_cs.ext O0.2) (g := (mkF m 27 (q_12 a1 a2 cs) [])) rfl (hb hby d3_27)
  have pf3 : ∀ target, Go p e below T2 m 30 (q_12 a1 a2 cs) [(.int G1)] target → Go p e below s₁ m 0 (q_12 a1 a2 cs) [] target := by
    intro target k
    show Go p e below s₁ m 0 (q_12 a1 a2 cs) [] _
    refine XS.aloadN X0.here hx rfl (hb hby d3_0) rfl rfl ?_
    refine st1 _ ?_
    show Go p e below T1 m 4 (q_12 a1 a2 cs) [] _
    refine XS.iloadN X1.here hx rfl (hb hby d3_4) rfl ?_
    refine XS.ifYes X1.here hx rfl (pc0 := 5) (pc' := 27) rfl (hb hby d3_5) rfl ((if0 _ _).trans (feq (fun q => absurd ((own_eq (a := cs.length) (b := 0) (by omega) (by omega)).mp q) (by omega))).2) (by decide) (by decide) ?_
    refine st2 _ ?_
    exact k
  obtain ⟨_, T4, Lc4, X4, hQ4, st4⟩ := own_sc X2 hx hZ (y := Y_24) hown (tw hw 268 rfl) (tw hw 269 rfl) (by decide) (ru_cB l Z a0 hw [] G1 Fm a2 kA cs nF h0 n0 O0 ST ⟨V_a2, C2.2⟩ hc hN hu1 hu2) (tw hw 271 rfl) (tw hw 270 rfl) e2 (W := 0) (by decide) (by decide) (Ls := (q_12 a1 a2 cs)) (by rw [hml]; rfl) (argsL := [(.ref a2), (.int (0 : Int32)), (.int (Int32.ofNat cs.length))]) (rest := []) (lenOf pd18 rfl) (Nat.le_of_eq rfl) (hb hby d3_36) rfl (by decide) (by decide)
  obtain ⟨h4, e4⟩ : ∃ z, T4.heap = z := ⟨_, rfl⟩
  rw [e4] at hQ4
  obtain ⟨t4, kt4, rfl, Nq4, K4, szt4, Bt4, Et4⟩ := hQ4
  have N4 := Fr.app N0 Nq4
  have O5 := O0.keep K4 all0
  have kp6 : Keep h0 h4 [a1] := (Keep.refl h0 [a1]).trans K4 all0
  have sz_t4 := Nat.le_trans (Keep.refl h0 [a1]).1 szt4
  have g_t4 : n0 ≤ t4 := Nat.le_trans (Nat.le_trans (Nat.le_of_eq O0.1.symm) O0.2.1) sz_t4
  have lt_a1_t4 : a1 < t4 := Nat.lt_of_lt_of_le lt_a1 sz_t4
  have lt_a2_t4 : a2 < t4 := Nat.lt_of_lt_of_le lt_a2 sz_t4
  have V_t4 := Bt4.1
  obtain ⟨_, T7, Lc7, X7, hQ7, st7⟩ := own_sc X4 hx hZ (y := Y_25) hown (tw hw 275 rfl) (tw hw 276 rfl) (by decide) (ru_cf1 l Z a0 hw [] G1 Fm t4 kt4 (enc1 cs) cs.length h4 n0 O5 ST ⟨V_t4, Bt4.2⟩ h1 hc) (tw hw 277 rfl) (tw hw 270 rfl) e4 (W := 1) (by decide) (by decide) (Ls := (q_19 a1 a2 cs t4)) (by rw [hml]; rfl) (argsL := [(.ref t4), (.int (Int32.ofNat cs.length))]) (rest := [(.ref a1)]) (lenOf pd19 rfl) (Nat.le_of_eq rfl) (hb hby d3_45) rfl (by decide) (by decide)
  obtain ⟨rfl, Nq7, e7⟩ := hQ7
  have N7 := Fr.app N4 Nq7
  obtain ⟨T8, h8, X8, e8, W8, st8⟩ := putFN X7 hx hZ hown (tw hw 26 rfl) Via.refl e7 (F_c.keep K4 nin0) (E_a.keep K4) (Or.inr ⟨(tw hw 22 rfl), rfl, hnm⟩) (tw hw 6 rfl) (ty := .byte) (v' := (.int (1 : Int32))) (by decide) rfl rfl (g := (mkF m 48 (q_19 a1 a2 cs t4) [(.int (1 : Int32)), (.ref a1)])) rfl rfl (hb hby d3_48)
  have Fw8 := (F_c.keep K4 nin0).same W8
  have O9 := O5.wr W8 g_a1
  have kp10 : Keep h0 h8 [a1] := kp6.wr W8 (Or.inl (List.mem_of_getElem? (i := 0) rfl))
  have N8 := Fr.snoc X8 N7 g_a1
  obtain ⟨T11, h11, X11, e11, W11, st11⟩ := putF X8 hx hZ hown (host := "") (Or.inl (tw hw 25 rfl)) Via.refl e8 ((F_v.keep K4 nin0).other W8 (Or.inr (slot_ne (Or.inr (tw hw 21 rfl)) (Or.inr (tw hw 22 rfl)) (by decide) (t := (.array .byte)) (t' := .byte) (by decide) (by decide)))) ((E_a.keep K4).wr W8) (Or.inr ⟨(tw hw 21 rfl), rfl, hnm⟩) (tw hw 6 rfl) (ty := (.array .byte)) (by decide) rfl rfl (g := (mkF m 54 (q_19 a1 a2 cs t4) [(.ref t4), (.ref a1)])) rfl rfl (hb hby d3_54)
  have Fw11 := ((F_v.keep K4 nin0).other W8 (Or.inr (slot_ne (Or.inr (tw hw 21 rfl)) (Or.inr (tw hw 22 rfl)) (by decide) (t := (.array .byte)) (t' := .byte) (by decide) (by decide)))).same W11
  have O12 := O9.wr W11 g_a1
  have kp13 : Keep h0 h11 [a1] := kp10.wr W11 (Or.inl (List.mem_of_getElem? (i := 0) rfl))
  have N11 := Fr.snoc X11 N8 g_a1
  obtain ⟨fs, hr, hrun, hended, hW, hsame⟩ := X11.leave (v := none) (fun _ => rfl)
  refine ⟨_, _, castTop (ef_rs_icB m a1 a2 (0 : Int32) (Int32.ofNat cs.length)) ?_, hrun, hended, _, _, rfl, ?_, ⟨_, rfl⟩, hW, hsame.mono (by decide) (by decide)⟩
  · refine pf3 _ ?_
    show Go p e below T2 m 30 (q_12 a1 a2 cs) [(.int G1)] _
    refine XS.ifNo X2.here hx rfl (hb hby d3_30) rfl ((if0 _ _).trans (feq hG).1) ?_
    refine XS.aloadN X2.here hx rfl (hb hby d3_33) rfl rfl ?_
    refine XS.iloadN X2.here hx rfl (hb hby d3_34) rfl ?_
    refine XS.iloadN X2.here hx rfl (hb hby d3_35) rfl ?_
    refine st4 _ ?_
    show Go p e below T4 m 39 (q_12 a1 a2 cs) [(.ref t4)] _
    refine XS.astore X4.here hx rfl (hb hby d3_39) rfl rfl (l' := (q_19 a1 a2 cs t4)) rfl ?_
    refine XS.aloadN X4.here hx rfl (hb hby d3_41) rfl rfl ?_
    refine XS.aload X4.here hx rfl (hb hby d3_42) rfl rfl ?_
    refine XS.iloadN X4.here hx rfl (hb hby d3_44) rfl ?_
    refine st7 _ ?_
    refine st8 _ ?_
    show Go p e below T8 m 51 (q_19 a1 a2 cs t4) [] _
    refine XS.aloadN X8.here hx rfl (hb hby d3_51) rfl rfl ?_
    refine XS.aload X8.here hx rfl (hb hby d3_52) rfl rfl ?_
    refine st11 _ ?_
    show Go p e below T11 m 57 (q_19 a1 a2 cs t4) [] _
    exact X11.returnOut hx Bd.returns (hb hby d3_57) hr
  · show Qst Z a1 cs h0 n0 _ T11.heap _
    rw [e11]
    exact ⟨rfl, N11, kp13, t4, _, sz_t4, Or.inr ⟨(((E_a.keep K4).wr W8).wr W11), (Fw8.other W11 (Or.inr (slot_ne (Or.inr (tw hw 22 rfl)) (Or.inr (tw hw 21 rfl)) (by decide) (t := .byte) (t' := (.array .byte)) (by decide) (by decide)))), Fw11, ⟨((V_t4.other W8 (Ne.symm (Nat.ne_of_lt lt_a1_t4))).other W11 (Ne.symm (Nat.ne_of_lt lt_a1_t4))), Bt4.2⟩⟩⟩
theorem ef_rs_iB (m : MethodId) (x0 : Addr) (x1 : Addr) : entryFrame m #[(.ref x0), (.ref x1)] 2 = mkF m 0 #[.val (.ref x0), .val (.ref x1)] [] := by first | (simp [entryFrame, mkF, argsToLocals, Value.category]; done) | rfl
set_option maxRecDepth 65536 in
set_option maxHeartbeats 40000000 in
theorem rs_iB (l : Launch) (Z : State) (a0 : Array Value) (hw : Hw a0 Z) (ws : List Jvm.Cond) (G1 : Int32) (Fm : Value) (a1 : Addr) (a2 : Addr) (kA : ClassId) (cs : List UInt16) (nF : Nat) (h0 : Heap) (n0 : Nat) (O0 : Old Z n0 h0) (ST : Stc Z G1 Fm) (E_a : Exa Z h0 a1 "java/lang/String") (F_v : Fld Z h0 a1 "java/lang/String" "value" "[B" .null) (F_c : Fld Z h0 a1 "java/lang/String" "coder" "B" (.int (0 : Int32))) (g_a1 : n0 ≤ a1) (C2 : Car Z h0 a2 kA cs.length cs) (hne : a1 ≠ a2) (hc : cs.length ≤ 120) (h1 : 1 ≤ cs.length) (hN : nF < cs.length) (hu1 : ∀ j, j < nF → ¬ (255 : Int32) < (cv (cs.getD j 0))) (hu2 : (255 : Int32) < (cv (cs.getD nF 0))) :
    Met l Z h0 ws Y_11 jdk_42_method_3_code 2 none R_13 #[(.ref a1), (.ref a2)] (Qst Z a1 cs h0 n0) := by
  refine MetFree.of_bodySF (plainFor_of_name pn2) hisR ?_
  intro p e s m args below meth c s₁ Bd hml0 hP hK
  obtain ⟨rfl, hZ, hh⟩ := hP
  have hx := Bd.exec
  have hby := Bd.bytes
  have hml : c.maxLocals = 2 := hml0
  have hown : s.vm.findClass "java/lang/String" = some m.cls := findClass_of_methodNamed Bd.named
  have hnm := (name_of_methodNamed Bd.named Bd.method).1
  have X0 : Stand p l e R_13 s m #[(.ref a1), (.ref a2)] below meth c s₁ [] 0 0 := Stand.of_body Bd
  have e0 : s₁.heap = h0 := by rw [← hh, Bd.state]; rfl
  have N0 := Fr.nil n0
  obtain ⟨S_cs, hG, S_fm, hF, S_ad, S_hi, S_lo⟩ := id ST
  have lt_a1 := E_a.lt
  have V_a2 := C2.1
  have lt_a2 := V_a2.lt
  obtain ⟨cl1, Ar1, q1, Sz1, Nn1, Ha1, Gf1⟩ := id V_a2
  obtain ⟨_, T2, Lc2, X2, hQ2, st2⟩ := own_ic X0 hx hZ (y := Y_10) rfl hown (tw hw 12 rfl) (tw hw 13 rfl) (by decide) (rs_icB l Z a0 hw [] G1 Fm a1 a2 kA cs nF h0 n0 O0 ST E_a F_v F_c g_a1 C2 hne hc h1 hN hu1 hu2) (tw hw 15 rfl) (tw hw 7 rfl) e0 (W := 0) (by decide) (by decide) (Ls := (q_0 a1 a2)) (by rw [hml]; rfl) (b := a1) (argsL := [(.ref a2), (.int (0 : Int32)), (.int (Int32.ofNat cs.length)), .null]) (rest := []) (lenOf pd20 rfl) (Nat.le_of_eq rfl) (hb hby d2_6) rfl (by decide) (by decide)
  obtain ⟨h2, e2⟩ : ∃ z, T2.heap = z := ⟨_, rfl⟩
  rw [e2] at hQ2
  obtain ⟨rfl, Nq2, K2, R2⟩ := hQ2
  have N2 := Fr.app N0 Nq2
  have O3 := O0.keep K2 (allS g_a1 all0)
  have kp4 : Keep h0 h2 [a1] := (Keep.refl h0 [a1]).trans K2 (allS (Or.inl (List.mem_of_getElem? (i := 0) rfl)) all0)
  have RR := R2
  obtain ⟨fs, hr, hrun, hended, hW, hsame⟩ := X2.leave (v := none) (fun _ => rfl)
  refine ⟨_, _, castTop (ef_rs_iB m a1 a2) ?_, hrun, hended, _, _, rfl, ?_, ⟨_, rfl⟩, hW, hsame.mono (by decide) (by decide)⟩
  · show Go p e below s₁ m 0 (q_0 a1 a2) [] _
    refine XS.aloadN X0.here hx rfl (hb hby d2_0) rfl rfl ?_
    refine XS.aloadN X0.here hx rfl (hb hby d2_1) rfl rfl ?_
    refine XS.iconst X0.here hx rfl (hb hby d2_2) ?_
    refine XS.aloadN X0.here hx rfl (hb hby d2_3) rfl rfl ?_
    show Go p e below s₁ m 4 (q_0 a1 a2) [(.ref a2), (.int (0 : Int32)), (.ref a2), (.ref a1)] _
    refine X0.arraylength hx (by rw [e0]; exact Ar1.1) (State.isArrayOf_alike hZ.alike Ar1.2.1) (g := (mkF m 4 (q_0 a1 a2) [(.ref a2), (.int (0 : Int32)), (.ref a2), (.ref a1)])) rfl rfl (hb hby d2_4) _ ?_
    rw [len_of Sz1 Nn1]
    show Go p e below s₁ m 5 (q_0 a1 a2) [(.int (Int32.ofNat cs.length)), (.int (0 : Int32)), (.ref a2), (.ref a1)] _
    refine XS.aconstNull X0.here hx rfl (hb hby d2_5) ?_
    refine st2 _ ?_
    show Go p e below T2 m 9 (q_0 a1 a2) [] _
    exact X2.returnOut hx Bd.returns (hb hby d2_9) hr
  · show Qst Z a1 cs h0 n0 _ T2.heap _
    rw [e2]
    exact ⟨rfl, N2, kp4, RR⟩
def Sb0 (Z : State) (h : Heap) (a b : Addr) (k : ClassId) (LB n : Nat) (cs : List UInt16) : Prop := Exa Z h a "java/lang/StringBuilder" ∧ Fld Z h a "java/lang/AbstractStringBuilder" "value" "[B" (.ref b) ∧ Fld Z h a "java/lang/AbstractStringBuilder" "coder" "B" (.int (0 : Int32)) ∧ Fld Z h a "java/lang/AbstractStringBuilder" "count" "I" (.int (Int32.ofNat n)) ∧ Fld Z h a "java/lang/AbstractStringBuilder" "maybeLatin1" "Z" (.int (0 : Int32)) ∧ Exa Z h b "[B" ∧ (∀ u ∈ cs, u < 256) ∧ LB ≤ 250 ∧ ∃ tl, Bar Z h b k LB (cs.map cLo ++ tl)
def Sb1 (Z : State) (h : Heap) (a b : Addr) (k : ClassId) (LB n : Nat) (cs : List UInt16) : Prop := Exa Z h a "java/lang/StringBuilder" ∧ Fld Z h a "java/lang/AbstractStringBuilder" "value" "[B" (.ref b) ∧ Fld Z h a "java/lang/AbstractStringBuilder" "coder" "B" (.int (1 : Int32)) ∧ Fld Z h a "java/lang/AbstractStringBuilder" "count" "I" (.int (Int32.ofNat n)) ∧ Fld Z h a "java/lang/AbstractStringBuilder" "maybeLatin1" "Z" (.int (0 : Int32)) ∧ Exa Z h b "[B" ∧ LB ≤ 500 ∧ ∃ tl, Bar Z h b k LB (enc1 cs ++ tl)
def Qsb (P : Heap → Addr → ClassId → Nat → Prop) (a : Addr) (h0 : Heap) (n0 : Nat) (v : Option Value) (h : Heap) (Lc : List Loc) : Prop := v = none ∧ Fr n0 Lc ∧ Keep h0 h [a] ∧ ∃ (b : Addr) (k : ClassId) (LB : Nat), h0.size ≤ b ∧ P h b k LB
def Qsv (P : Heap → Addr → ClassId → Nat → Prop) (r : Option Value) (a b0 : Addr) (h0 : Heap) (n0 : Nat) (v : Option Value) (h : Heap) (Lc : List Loc) : Prop := v = r ∧ Fr n0 Lc ∧ Keep h0 h [a, b0] ∧ ∃ (b : Addr) (k : ClassId) (LB : Nat), (b = b0 ∨ h0.size ≤ b) ∧ P h b k LB
theorem own_ov (A X tl : List Int32) : (A ++ tl).take A.length ++ X ++ (A ++ tl).drop (A.length + X.length) = (A ++ X) ++ tl.drop X.length := by
  rw [List.take_left, List.drop_append]
  simp
theorem own_cpy {lst src : List Int32} {i n : Nat} (h : src.length = n) : (lst.map Value.int).take i ++ ((src.drop 0).take n).map Value.int ++ (lst.map Value.int).drop (i + n) = (lst.take i ++ src ++ lst.drop (i + n)).map Value.int := by
  subst h
  rw [List.drop_zero, List.take_length, List.map_append, List.map_append, List.map_take, List.map_drop]
theorem own_pinf {cs : List UInt16} {m : Nat} (h : 2 * cs.length ≤ m) : puts (List.replicate m 0) 0 cs = enc1 cs ++ (List.replicate m (0 : Int32)).drop (2 * cs.length) := by
  rw [puts_eq _ _ _ (by simpa using h)]; simp
theorem own_grow {vs : List Int32} {n : Nat} (h : vs.length ≤ n) : (List.replicate n (0 : Int32)).take 0 ++ vs ++ (List.replicate n (0 : Int32)).drop (0 + vs.length) = vs ++ List.replicate (n - vs.length) 0 := by simp
theorem own_subpos {a b : Nat} (ha : a < 2147483648) (hb : b < 2147483648) : (0 : Int32) < Int32.ofNat a - Int32.ofNat b ↔ b < a := by
  rcases Nat.lt_or_ge b a with h | h
  · rw [own_sub (Nat.le_of_lt h)]
    exact ⟨fun _ => h, fun _ => (own_lt (a := 0) (b := a - b) (by decide) (by omega)).mpr (by omega)⟩
  · refine ⟨fun q => ?_, fun q => absurd q (by omega)⟩
    exfalso
    rw [Int32.lt_iff_toInt_lt, Int32.toInt_sub, own_toInt ha, own_toInt hb] at q
    have : ((a : Int) - b).bmod (2 ^ 32) = a - b := by
      rw [Int.bmod_eq_of_le] <;> omega
    rw [this] at q
    have z : (0 : Int32).toInt = 0 := rfl
    omega
theorem d18_0 : Dc cb30 0 (.iload_n 0) 1 := by decide +kernel
theorem d18_1 : Dc cb30 1 (.iload_n 1) 1 := by decide +kernel
theorem d18_2 : Dc cb30 2 (.if_icmp .lt 7) 3 := by decide +kernel
theorem d18_9 : Dc cb30 9 (.iload_n 1) 1 := by decide +kernel
theorem d18_10 : Dc cb30 10 .ireturn 1 := by decide +kernel
theorem d18_5 : Dc cb30 5 (.iload_n 0) 1 := by decide +kernel
theorem d18_6 : Dc cb30 6 (.goto 4) 3 := by decide +kernel
theorem ef_rm_max (m : MethodId) (x0 : Int32) (x1 : Int32) : entryFrame m #[(.int x0), (.int x1)] 2 = mkF m 0 #[.val (.int x0), .val (.int x1)] [] := by first | (simp [entryFrame, mkF, argsToLocals, Value.category]; done) | rfl
theorem pf_rm_max : plainFor Y_36 = true := Jvm.Free.JP.mathPlain rfl (by decide +kernel)
set_option maxRecDepth 65536 in
set_option maxHeartbeats 40000000 in
theorem rm_max (l : Launch) (Z : State) (a0 : Array Value) (hw : Hw a0 Z) (ws : List Jvm.Cond) (G1 : Int32) (Fm : Value) (i1 : Nat) (i2 : Nat) (h0 : Heap) (n0 : Nat) (O0 : Old Z n0 h0) (ST : Stc Z G1 Fm) (hi1 : i1 ≤ 2000) (hi2 : i2 ≤ 2000) :
    Met l Z h0 ws Y_36 jdk_29_method_65_code 2 (some .int) R_0 #[(.int (Int32.ofNat i1)), (.int (Int32.ofNat i2))] (Qpure (some (.int (Int32.ofNat (max i1 i2)))) h0 n0) := by
  refine MetFree.of_bodySF pf_rm_max hisR ?_
  intro p e s m args below meth c s₁ Bd hml0 hP hK
  obtain ⟨rfl, hZ, hh⟩ := hP
  have hx := Bd.exec
  have hby := Bd.bytes
  have hml : c.maxLocals = 2 := hml0
  have hown : s.vm.findClass "java/lang/Math" = some m.cls := findClass_of_methodNamed Bd.named
  have hnm := (name_of_methodNamed Bd.named Bd.method).1
  have X0 : Stand p l e R_0 s m #[(.int (Int32.ofNat i1)), (.int (Int32.ofNat i2))] below meth c s₁ [] 0 0 := Stand.of_body Bd
  have e0 : s₁.heap = h0 := by rw [← hh, Bd.state]; rfl
  have N0 := Fr.nil n0
  obtain ⟨S_cs, hG, S_fm, hF, S_ad, S_hi, S_lo⟩ := id ST
  by_cases hc2 : (Int32.ofNat i1) < (Int32.ofNat i2)
  · obtain ⟨fs, hr, hrun, hended, hW, hsame⟩ := X0.leave (v := some (.int (Int32.ofNat i2))) (fun h => by rw [Bd.returns] at h; cases h)
    refine ⟨_, _, castTop (ef_rm_max m (Int32.ofNat i1) (Int32.ofNat i2)) ?_, hrun, hended, _, _, rfl, ?_, ⟨_, rfl⟩, hW, hsame.mono (by decide) (by decide)⟩
    · show Go p e below s₁ m 0 (q_25 i1 i2) [] _
      refine XS.iloadN X0.here hx rfl (hb hby d18_0) rfl ?_
      refine XS.iloadN X0.here hx rfl (hb hby d18_1) rfl ?_
      refine XS.icmpYes X0.here hx rfl (pc0 := 2) (pc' := 9) rfl (hb hby d18_2) rfl (tlt hc2).1 (by decide) (by decide) ?_
      refine XS.iloadN X0.here hx rfl (hb hby d18_9) rfl ?_
      show Go p e below s₁ m 10 (q_25 i1 i2) [(.int (Int32.ofNat i2))] _
      exact retI X0 hx Bd.returns (hb hby d18_10) hr
    · show Qpure (some (.int (Int32.ofNat (max i1 i2)))) h0 n0 _ s₁.heap _
      rw [e0]
      exact ⟨by rw [show max i1 i2 = i2 by have q : i1 < i2 := (own_lt (a := i1) (b := i2) (by omega) (by omega)).mp hc2; omega], N0, rfl⟩
  · obtain ⟨fs, hr, hrun, hended, hW, hsame⟩ := X0.leave (v := some (.int (Int32.ofNat i1))) (fun h => by rw [Bd.returns] at h; cases h)
    refine ⟨_, _, castTop (ef_rm_max m (Int32.ofNat i1) (Int32.ofNat i2)) ?_, hrun, hended, _, _, rfl, ?_, ⟨_, rfl⟩, hW, hsame.mono (by decide) (by decide)⟩
    · show Go p e below s₁ m 0 (q_25 i1 i2) [] _
      refine XS.iloadN X0.here hx rfl (hb hby d18_0) rfl ?_
      refine XS.iloadN X0.here hx rfl (hb hby d18_1) rfl ?_
      refine XS.icmpNo X0.here hx rfl (hb hby d18_2) rfl (flt hc2).1 ?_
      refine XS.iloadN X0.here hx rfl (hb hby d18_5) rfl ?_
      refine XS.goto X0.here hx rfl (pc0 := 6) (pc' := 10) rfl (hb hby d18_6) (by decide) (by decide) ?_
      show Go p e below s₁ m 10 (q_25 i1 i2) [(.int (Int32.ofNat i1))] _
      exact retI X0 hx Bd.returns (hb hby d18_10) hr
    · show Qpure (some (.int (Int32.ofNat (max i1 i2)))) h0 n0 _ s₁.heap _
      rw [e0]
      exact ⟨by rw [show max i1 i2 = i1 by have q : ¬ i1 < i2 := fun z => hc2 ((own_lt (a := i1) (b := i2) (by omega) (by omega)).mpr z); omega], N0, rfl⟩
theorem d20_0 : Dc cb31 0 (.iload_n 0) 1 := by decide +kernel
theorem d20_1 : Dc cb31 1 (.iload_n 1) 1 := by decide +kernel
theorem d20_2 : Dc cb31 2 (.if_icmp .gt 7) 3 := by decide +kernel
theorem d20_5 : Dc cb31 5 (.iload_n 0) 1 := by decide +kernel
theorem d20_6 : Dc cb31 6 (.goto 4) 3 := by decide +kernel
theorem d20_10 : Dc cb31 10 .ireturn 1 := by decide +kernel
theorem ef_rm_minA (m : MethodId) (x0 : Int32) (x1 : Int32) : entryFrame m #[(.int x0), (.int x1)] 2 = mkF m 0 #[.val (.int x0), .val (.int x1)] [] := by first | (simp [entryFrame, mkF, argsToLocals, Value.category]; done) | rfl
theorem pf_rm_minA : plainFor Y_13 = true := Jvm.Free.JP.mathPlain rfl (by decide +kernel)
set_option maxRecDepth 65536 in
set_option maxHeartbeats 40000000 in
theorem rm_minA (l : Launch) (Z : State) (a0 : Array Value) (hw : Hw a0 Z) (ws : List Jvm.Cond) (G1 : Int32) (Fm : Value) (i1 : Nat) (i2 : Nat) (h0 : Heap) (n0 : Nat) (O0 : Old Z n0 h0) (ST : Stc Z G1 Fm) (hi1 : i1 ≤ 2000) (hi2 : i2 ≤ 2000) (hle : i1 ≤ i2) :
    Met l Z h0 ws Y_13 jdk_29_method_69_code 2 (some .int) R_0 #[(.int (Int32.ofNat i1)), (.int (Int32.ofNat i2))] (Qpure (some (.int (Int32.ofNat i1))) h0 n0) := by
  refine MetFree.of_bodySF pf_rm_minA hisR ?_
  intro p e s m args below meth c s₁ Bd hml0 hP hK
  obtain ⟨rfl, hZ, hh⟩ := hP
  have hx := Bd.exec
  have hby := Bd.bytes
  have hml : c.maxLocals = 2 := hml0
  have hown : s.vm.findClass "java/lang/Math" = some m.cls := findClass_of_methodNamed Bd.named
  have hnm := (name_of_methodNamed Bd.named Bd.method).1
  have X0 : Stand p l e R_0 s m #[(.int (Int32.ofNat i1)), (.int (Int32.ofNat i2))] below meth c s₁ [] 0 0 := Stand.of_body Bd
  have e0 : s₁.heap = h0 := by rw [← hh, Bd.state]; rfl
  have N0 := Fr.nil n0
  obtain ⟨S_cs, hG, S_fm, hF, S_ad, S_hi, S_lo⟩ := id ST
  obtain ⟨fs, hr, hrun, hended, hW, hsame⟩ := X0.leave (v := some (.int (Int32.ofNat i1))) (fun h => by rw [Bd.returns] at h; cases h)
  refine ⟨_, _, castTop (ef_rm_minA m (Int32.ofNat i1) (Int32.ofNat i2)) ?_, hrun, hended, _, _, rfl, ?_, ⟨_, rfl⟩, hW, hsame.mono (by decide) (by decide)⟩
  · show Go p e below s₁ m 0 (q_25 i1 i2) [] _
    refine XS.iloadN X0.here hx rfl (hb hby d20_0) rfl ?_
    refine XS.iloadN X0.here hx rfl (hb hby d20_1) rfl ?_
    refine XS.icmpNo X0.here hx rfl (hb hby d20_2) rfl (flt (fun q => absurd ((own_lt (a := i2) (b := i1) (by omega) (by omega)).mp q) (by omega))).2.2.1 ?_
    refine XS.iloadN X0.here hx rfl (hb hby d20_5) rfl ?_
    refine XS.goto X0.here hx rfl (pc0 := 6) (pc' := 10) rfl (hb hby d20_6) (by decide) (by decide) ?_
    show Go p e below s₁ m 10 (q_25 i1 i2) [(.int (Int32.ofNat i1))] _
    exact retI X0 hx Bd.returns (hb hby d20_10) hr
  · show Qpure (some (.int (Int32.ofNat i1))) h0 n0 _ s₁.heap _
    rw [e0]
    exact ⟨rfl, N0, rfl⟩
theorem d20_9 : Dc cb31 9 (.iload_n 1) 1 := by decide +kernel
theorem ef_rm_minB (m : MethodId) (x0 : Int32) (x1 : Int32) : entryFrame m #[(.int x0), (.int x1)] 2 = mkF m 0 #[.val (.int x0), .val (.int x1)] [] := by first | (simp [entryFrame, mkF, argsToLocals, Value.category]; done) | rfl
theorem pf_rm_minB : plainFor Y_13 = true := Jvm.Free.JP.mathPlain rfl (by decide +kernel)
set_option maxRecDepth 65536 in
set_option maxHeartbeats 40000000 in
theorem rm_minB (l : Launch) (Z : State) (a0 : Array Value) (hw : Hw a0 Z) (ws : List Jvm.Cond) (G1 : Int32) (Fm : Value) (i1 : Nat) (i2 : Nat) (h0 : Heap) (n0 : Nat) (O0 : Old Z n0 h0) (ST : Stc Z G1 Fm) (hi1 : i1 ≤ 2000) (hi2 : i2 ≤ 2000) (hle : i2 < i1) :
    Met l Z h0 ws Y_13 jdk_29_method_69_code 2 (some .int) R_0 #[(.int (Int32.ofNat i1)), (.int (Int32.ofNat i2))] (Qpure (some (.int (Int32.ofNat i2))) h0 n0) := by
  refine MetFree.of_bodySF pf_rm_minB hisR ?_
  intro p e s m args below meth c s₁ Bd hml0 hP hK
  obtain ⟨rfl, hZ, hh⟩ := hP
  have hx := Bd.exec
  have hby := Bd.bytes
  have hml : c.maxLocals = 2 := hml0
  have hown : s.vm.findClass "java/lang/Math" = some m.cls := findClass_of_methodNamed Bd.named
  have hnm := (name_of_methodNamed Bd.named Bd.method).1
  have X0 : Stand p l e R_0 s m #[(.int (Int32.ofNat i1)), (.int (Int32.ofNat i2))] below meth c s₁ [] 0 0 := Stand.of_body Bd
  have e0 : s₁.heap = h0 := by rw [← hh, Bd.state]; rfl
  have N0 := Fr.nil n0
  obtain ⟨S_cs, hG, S_fm, hF, S_ad, S_hi, S_lo⟩ := id ST
  obtain ⟨fs, hr, hrun, hended, hW, hsame⟩ := X0.leave (v := some (.int (Int32.ofNat i2))) (fun h => by rw [Bd.returns] at h; cases h)
  refine ⟨_, _, castTop (ef_rm_minB m (Int32.ofNat i1) (Int32.ofNat i2)) ?_, hrun, hended, _, _, rfl, ?_, ⟨_, rfl⟩, hW, hsame.mono (by decide) (by decide)⟩
  · show Go p e below s₁ m 0 (q_25 i1 i2) [] _
    refine XS.iloadN X0.here hx rfl (hb hby d20_0) rfl ?_
    refine XS.iloadN X0.here hx rfl (hb hby d20_1) rfl ?_
    refine XS.icmpYes X0.here hx rfl (pc0 := 2) (pc' := 9) rfl (hb hby d20_2) rfl (tlt ((own_lt (a := i2) (b := i1) (by omega) (by omega)).mpr (by omega))).2.2.1 (by decide) (by decide) ?_
    refine XS.iloadN X0.here hx rfl (hb hby d20_9) rfl ?_
    show Go p e below s₁ m 10 (q_25 i1 i2) [(.int (Int32.ofNat i2))] _
    exact retI X0 hx Bd.returns (hb hby d20_10) hr
  · show Qpure (some (.int (Int32.ofNat i2))) h0 n0 _ s₁.heap _
    rw [e0]
    exact ⟨rfl, N0, rfl⟩
theorem pn4 : plainName "jdk/internal/util/ArraysSupport" = true := by first | (simp [plainName, overriddenIn]; done) | decide +kernel
theorem d17_0 : Dc cb32 0 (.iload_n 0) 1 := by decide +kernel
theorem d17_1 : Dc cb32 1 (.iload_n 1) 1 := by decide +kernel
theorem d17_2 : Dc cb32 2 (.iload_n 2) 1 := by decide +kernel
theorem d17_3 : Dc cb32 3 (.invokestatic 194) 3 := by decide +kernel
theorem pd21 : parseMethodDescriptor "(II)I" = some ⟨[.int, .int], some .int⟩ := by decide +kernel
theorem d17_6 : Dc cb32 6 .iadd 1 := by decide +kernel
theorem d17_7 : Dc cb32 7 (.istore_n 3) 1 := by decide +kernel
theorem d17_8 : Dc cb32 8 (.iconst 0) 1 := by decide +kernel
theorem d17_9 : Dc cb32 9 (.iload_n 3) 1 := by decide +kernel
theorem d17_10 : Dc cb32 10 (.if_icmp .ge 11) 3 := by decide +kernel
theorem d17_13 : Dc cb32 13 (.iload_n 3) 1 := by decide +kernel
theorem d17_14 : Dc cb32 14 (.ldc 200) 2 := by decide +kernel
theorem d17_16 : Dc cb32 16 (.if_icmp .gt 5) 3 := by decide +kernel
theorem d17_19 : Dc cb32 19 (.iload_n 3) 1 := by decide +kernel
theorem d17_20 : Dc cb32 20 .ireturn 1 := by decide +kernel
theorem ef_rv_nl (m : MethodId) (x0 : Int32) (x1 : Int32) (x2 : Int32) : entryFrame m #[(.int x0), (.int x1), (.int x2)] 4 = mkF m 0 #[.val (.int x0), .val (.int x1), .val (.int x2), .unset] [] := by first | (simp [entryFrame, mkF, argsToLocals, Value.category]; done) | rfl
set_option maxRecDepth 65536 in
set_option maxHeartbeats 40000000 in
theorem rv_nl (l : Launch) (Z : State) (a0 : Array Value) (hw : Hw a0 Z) (ws : List Jvm.Cond) (G1 : Int32) (Fm : Value) (i1 : Nat) (i2 : Nat) (i3 : Nat) (h0 : Heap) (n0 : Nat) (O0 : Old Z n0 h0) (ST : Stc Z G1 Fm) (hi1 : i1 ≤ 500) (hi2 : i2 ≤ 500) (hi3 : i3 ≤ 1000) (hp : 1 ≤ i3) :
    Met l Z h0 ws Y_37 jdk_48_method_27_code 4 (some .int) R_16 #[(.int (Int32.ofNat i1)), (.int (Int32.ofNat i2)), (.int (Int32.ofNat i3))] (Qpure (some (.int (Int32.ofNat (i1 + max i2 i3)))) h0 n0) := by
  refine MetFree.of_bodySF (plainFor_of_name pn4) hisR ?_
  intro p e s m args below meth c s₁ Bd hml0 hP hK
  obtain ⟨rfl, hZ, hh⟩ := hP
  have hx := Bd.exec
  have hby := Bd.bytes
  have hml : c.maxLocals = 4 := hml0
  have hown : s.vm.findClass "jdk/internal/util/ArraysSupport" = some m.cls := findClass_of_methodNamed Bd.named
  have hnm := (name_of_methodNamed Bd.named Bd.method).1
  have X0 : Stand p l e R_16 s m #[(.int (Int32.ofNat i1)), (.int (Int32.ofNat i2)), (.int (Int32.ofNat i3))] below meth c s₁ [] 0 0 := Stand.of_body Bd
  have e0 : s₁.heap = h0 := by rw [← hh, Bd.state]; rfl
  have N0 := Fr.nil n0
  obtain ⟨S_cs, hG, S_fm, hF, S_ad, S_hi, S_lo⟩ := id ST
  obtain ⟨_, T1, Lc1, X1, hQ1, st1⟩ := own_sc X0 hx hZ (y := Y_36) hown (tw hw 114 rfl) (tw hw 115 rfl) (by decide) (rm_max l Z a0 hw [] G1 Fm i2 i3 h0 n0 O0 ST (by omega) (by omega)) (tw hw 117 rfl) (tw hw 116 rfl) e0 (W := 1) (by decide) (by decide) (Ls := (q_56 i1 i2 i3)) (by rw [hml]; rfl) (argsL := [(.int (Int32.ofNat i2)), (.int (Int32.ofNat i3))]) (rest := [(.int (Int32.ofNat i1))]) (lenOf pd21 rfl) (Nat.le_of_eq rfl) (hb hby d17_3) rfl (by decide) (by decide)
  obtain ⟨rfl, Nq1, e1⟩ := hQ1
  have N1 := Fr.app N0 Nq1
  have pf2 : ∀ target, Go p e below T1 m 10 (q_57 i1 i2 i3) [(.int (Int32.ofNat (i1 + max i2 i3))), (.int (0 : Int32))] target → Go p e below s₁ m 0 (q_56 i1 i2 i3) [] target := by
    intro target k
    show Go p e below s₁ m 0 (q_56 i1 i2 i3) [] _
    refine XS.iloadN X0.here hx rfl (hb hby d17_0) rfl ?_
    refine XS.iloadN X0.here hx rfl (hb hby d17_1) rfl ?_
    refine XS.iloadN X0.here hx rfl (hb hby d17_2) rfl ?_
    refine st1 _ ?_
    show Go p e below T1 m 6 (q_56 i1 i2 i3) [(.int (Int32.ofNat (max i2 i3))), (.int (Int32.ofNat i1))] _
    refine XS.iadd X1.here hx rfl (hb hby d17_6) rfl ?_
    show Go p e below T1 m 7 (q_56 i1 i2 i3) [(.int ((Int32.ofNat i1) + (Int32.ofNat (max i2 i3))))] _
    rw [show ((Int32.ofNat i1) + (Int32.ofNat (max i2 i3))) = (Int32.ofNat (i1 + max i2 i3)) from own_add i1 (max i2 i3)]
    show Go p e below T1 m 7 (q_56 i1 i2 i3) [(.int (Int32.ofNat (i1 + max i2 i3)))] _
    refine XS.istoreN X1.here hx rfl (hb hby d17_7) rfl (l' := (q_57 i1 i2 i3)) rfl ?_
    refine XS.iconst X1.here hx rfl (hb hby d17_8) ?_
    refine XS.iloadN X1.here hx rfl (hb hby d17_9) rfl ?_
    exact k
  obtain ⟨fs, hr, hrun, hended, hW, hsame⟩ := X1.leave (v := some (.int (Int32.ofNat (i1 + max i2 i3)))) (fun h => by rw [Bd.returns] at h; cases h)
  refine ⟨_, _, castTop (ef_rv_nl m (Int32.ofNat i1) (Int32.ofNat i2) (Int32.ofNat i3)) ?_, hrun, hended, _, _, rfl, ?_, ⟨_, rfl⟩, hW, hsame.mono (by decide) (by decide)⟩
  · refine pf2 _ ?_
    show Go p e below T1 m 10 (q_57 i1 i2 i3) [(.int (Int32.ofNat (i1 + max i2 i3))), (.int (0 : Int32))] _
    refine XS.icmpNo X1.here hx rfl (hb hby d17_10) rfl (tlt ((own_lt (a := 0) (b := i1 + max i2 i3) (by omega) (by omega)).mpr (by omega))).2.1 ?_
    refine XS.iloadN X1.here hx rfl (hb hby d17_13) rfl ?_
    show Go p e below T1 m 14 (q_57 i1 i2 i3) [(.int (Int32.ofNat (i1 + max i2 i3)))] _
    refine X1.ldcInt hx hown (mvT hZ (tw hw 118 rfl)) (g := (mkF m 14 (q_57 i1 i2 i3) [(.int (Int32.ofNat (i1 + max i2 i3)))])) rfl (hb hby d17_14) _ ?_
    show Go p e below T1 m 16 (q_57 i1 i2 i3) [(.int (2147483639 : Int32)), (.int (Int32.ofNat (i1 + max i2 i3)))] _
    refine XS.icmpNo X1.here hx rfl (hb hby d17_16) rfl (flt (fun q => absurd ((own_lt (a := 2147483639) (b := i1 + max i2 i3) (by omega) (by omega)).mp q) (by omega))).2.2.1 ?_
    refine XS.iloadN X1.here hx rfl (hb hby d17_19) rfl ?_
    show Go p e below T1 m 20 (q_57 i1 i2 i3) [(.int (Int32.ofNat (i1 + max i2 i3)))] _
    exact retI X1 hx Bd.returns (hb hby d17_20) hr
  · show Qpure (some (.int (Int32.ofNat (i1 + max i2 i3)))) h0 n0 _ T1.heap _
    rw [e1]
    exact ⟨rfl, N1, rfl⟩
theorem pn5 : plainName "java/util/Arrays" = true := by first | (simp [plainName, overriddenIn]; done) | decide +kernel
theorem d19_0 : Dc cb33 0 (.iload_n 1) 1 := by decide +kernel
theorem d19_1 : Dc cb33 1 (.aload_n 0) 1 := by decide +kernel
theorem d19_2 : Dc cb33 2 .arraylength 1 := by decide +kernel
theorem d19_3 : Dc cb33 3 (.if_icmp .ne 11) 3 := by decide +kernel
theorem d19_14 : Dc cb33 14 (.iload_n 1) 1 := by decide +kernel
theorem d19_15 : Dc cb33 15 (.newarray .byte) 2 := by decide +kernel
theorem d19_17 : Dc cb33 17 (.astore_n 2) 1 := by decide +kernel
theorem d19_18 : Dc cb33 18 (.aload_n 0) 1 := by decide +kernel
theorem d19_19 : Dc cb33 19 (.iconst 0) 1 := by decide +kernel
theorem d19_20 : Dc cb33 20 (.aload_n 2) 1 := by decide +kernel
theorem d19_21 : Dc cb33 21 (.iconst 0) 1 := by decide +kernel
theorem d19_22 : Dc cb33 22 (.aload_n 0) 1 := by decide +kernel
theorem d19_23 : Dc cb33 23 .arraylength 1 := by decide +kernel
theorem d19_24 : Dc cb33 24 (.iload_n 1) 1 := by decide +kernel
theorem d19_25 : Dc cb33 25 (.invokestatic 304) 3 := by decide +kernel
theorem d19_28 : Dc cb33 28 (.invokestatic 150) 3 := by decide +kernel
theorem d19_31 : Dc cb33 31 (.aload_n 2) 1 := by decide +kernel
theorem d19_32 : Dc cb33 32 .areturn 1 := by decide +kernel
theorem ef_ra_co (m : MethodId) (x0 : Addr) (x1 : Int32) : entryFrame m #[(.ref x0), (.int x1)] 3 = mkF m 0 #[.val (.ref x0), .val (.int x1), .unset] [] := by first | (simp [entryFrame, mkF, argsToLocals, Value.category]; done) | rfl
set_option maxRecDepth 65536 in
set_option maxHeartbeats 40000000 in
theorem ra_co (l : Launch) (Z : State) (a0 : Array Value) (hw : Hw a0 Z) (ws : List Jvm.Cond) (G1 : Int32) (Fm : Value) (a1 : Addr) (kA : ClassId) (LA : Nat) (vs : List Int32) (i1 : Nat) (h0 : Heap) (n0 : Nat) (O0 : Old Z n0 h0) (ST : Stc Z G1 Fm) (B1 : Bar Z h0 a1 kA LA vs) (hB : LA ≤ 500) (hi : LA < i1) (hi2 : i1 ≤ 500) :
    Met l Z h0 ws Y_38 jdk_65_method_121_code 3 (some (.array .byte)) R_18 #[(.ref a1), (.int (Int32.ofNat i1))] (Qar Z i1 (vs ++ List.replicate (i1 - LA) 0) h0 n0) := by
  refine MetFree.of_bodySF (plainFor_of_name pn5) hisR ?_
  intro p e s m args below meth c s₁ Bd hml0 hP hK
  obtain ⟨rfl, hZ, hh⟩ := hP
  have hx := Bd.exec
  have hby := Bd.bytes
  have hml : c.maxLocals = 3 := hml0
  have hown : s.vm.findClass "java/util/Arrays" = some m.cls := findClass_of_methodNamed Bd.named
  have hnm := (name_of_methodNamed Bd.named Bd.method).1
  have X0 : Stand p l e R_18 s m #[(.ref a1), (.int (Int32.ofNat i1))] below meth c s₁ [] 0 0 := Stand.of_body Bd
  have e0 : s₁.heap = h0 := by rw [← hh, Bd.state]; rfl
  have N0 := Fr.nil n0
  obtain ⟨S_cs, hG, S_fm, hF, S_ad, S_hi, S_lo⟩ := id ST
  have V_a1 := B1.1
  have l_a1 := B1.2
  have hN_a1 : (Int32.ofNat LA).toNatClampNeg = vs.length := by rw [l_a1]; exact own_n (by omega)
  have lt_a1 := V_a1.lt
  obtain ⟨cl1, Ar1, q1, Sz1, Nn1, Ha1, Gf1⟩ := id V_a1
  obtain ⟨T2, h2, k2, X2, e2, E2, A2, Ea2, st2⟩ := newPE X0 hx hZ (tw hw 20 rfl) e0 (g := (mkF m 15 (q_9 a1 i1) [(.int (Int32.ofNat i1))])) rfl (hb hby d19_15) rfl (own_nn (n := i1) (by omega)) (cap := 500) (by rw [own_n (n := i1) (by omega)]; omega) (by decide) (by decide) (by decide) (ad := "[B") (by decide)
  obtain ⟨b2, g2⟩ : ∃ z, z = h0.size := ⟨_, rfl⟩
  rw [← g2] at A2 Ea2 st2
  have g_b2 : n0 ≤ b2 := by rw [g2]; exact Nat.le_trans (Nat.le_of_eq O0.1.symm) O0.2.1
  have sz_b2 : h0.size ≤ b2 := by rw [g2]; exact (Keep.refl h0 []).1
  have lt_a1_b2 : a1 < b2 := Nat.lt_of_lt_of_le lt_a1 sz_b2
  have O3 := O0.ext E2
  have kp4 : Keep h0 h2 [] := (Keep.refl h0 []).ext E2
  have V_b2 : Arv Z h2 b2 k2 .byte (Int32.ofNat i1) ((List.replicate i1 (0 : Int32)).map Value.int) (.int (0 : Int32)) := by rw [List.map_replicate]; exact (Arv.new A2 (own_nn (n := i1) (by omega))).pad (pad_rep [] (.int (0 : Int32)) i1)
  have hN_b2 : ((Int32.ofNat i1)).toNatClampNeg = (List.replicate i1 (0 : Int32)).length := by rw [List.length_replicate]; exact own_n (n := i1) (by omega)
  obtain ⟨cl5, Ar5, q5, Sz5, Nn5, Ha5, Gf5⟩ := id (V_a1.ext E2)
  obtain ⟨_, T6, Lc6, X6, hQ6, st6⟩ := own_sc X2 hx hZ (y := Y_13) hown (tw hw 124 rfl) (tw hw 125 rfl) (by decide) (rm_minA l Z a0 hw [] G1 Fm LA i1 h2 n0 O3 ST (by omega) (by omega) (by omega)) (tw hw 126 rfl) (tw hw 116 rfl) e2 (W := 4) (by decide) (by decide) (Ls := (q_39 a1 i1 b2)) (by rw [hml]; rfl) (argsL := [(.int (Int32.ofNat LA)), (.int (Int32.ofNat i1))]) (rest := [(.int (0 : Int32)), (.ref b2), (.int (0 : Int32)), (.ref a1)]) (lenOf pd21 rfl) (Nat.le_of_eq rfl) (hb hby d19_25) rfl (by decide) (by decide)
  obtain ⟨rfl, Nq6, e6⟩ := hQ6
  have N6 := Fr.app N0 Nq6
  obtain ⟨T7, h7, L7, X7, e7, N7, K7, Vr7, st7⟩ := cpA X6 hx hZ hown (tw hw 127 rfl) (tw hw 103 rfl) (tw hw 101 rfl) (tw hw 102 rfl) e6 (V_a1.ext E2) V_b2 (Or.inl ⟨rfl, rfl⟩) (sp := (0 : Int32)) (dp := (0 : Int32)) (nn := (Int32.ofNat LA)) (us := (((vs.drop 0).take LA).map Value.int)) (by decide) (by decide) (own_nn (n := LA) (by omega)) (by rw [own_n (n := LA) (by omega), show (0 : Int32).toNatClampNeg = 0 by decide]; omega) (by rw [own_n (n := LA) (by omega), own_n (n := i1) (by omega), show (0 : Int32).toNatClampNeg = 0 by decide]; omega) (own_us (by decide) (own_n (n := LA) (by omega)) (by omega)) (by rw [List.length_map, List.length_replicate, own_n (n := LA) (by omega), show (0 : Int32).toNatClampNeg = 0 by decide]; omega) N6 g_b2 (g := (mkF m 28 (q_39 a1 i1 b2) [(.int (Int32.ofNat LA)), (.int (0 : Int32)), (.ref b2), (.int (0 : Int32)), (.ref a1)])) rfl (by rw [hml]; rfl) rfl (hb hby d19_28) (by decide) (W := 0) (by show 2 * 0 + _ ≤ _; exact Nat.le_of_eq rfl) (by decide)
  have O8 := O3.keep K7 (allS g_b2 all0)
  have kp9 : Keep h0 h7 [] := kp4.trans K7 (allS (Or.inr sz_b2) all0)
  have Vc7 : Arv Z h7 b2 k2 .byte (Int32.ofNat i1) ((vs ++ List.replicate (i1 - LA) 0).map Value.int) (.int (0 : Int32)) := by
    have q := Vr7
    rw [own_n (n := LA) (by omega), show (0 : Int32).toNatClampNeg = 0 by decide, own_cpy l_a1] at q
    subst l_a1
    rw [own_grow (by omega)] at q; exact q
  obtain ⟨fs, hr, hrun, hended, hW, hsame⟩ := X7.leave (v := some (.ref b2)) (fun h => by rw [Bd.returns] at h; cases h)
  refine ⟨_, _, castTop (ef_ra_co m a1 (Int32.ofNat i1)) ?_, hrun, hended, _, _, rfl, ?_, ⟨_, rfl⟩, hW, hsame.mono (by decide) (by decide)⟩
  · show Go p e below s₁ m 0 (q_9 a1 i1) [] _
    refine XS.iloadN X0.here hx rfl (hb hby d19_0) rfl ?_
    refine XS.aloadN X0.here hx rfl (hb hby d19_1) rfl rfl ?_
    show Go p e below s₁ m 2 (q_9 a1 i1) [(.ref a1), (.int (Int32.ofNat i1))] _
    refine X0.arraylength hx (by rw [e0]; exact Ar1.1) (State.isArrayOf_alike hZ.alike Ar1.2.1) (g := (mkF m 2 (q_9 a1 i1) [(.ref a1), (.int (Int32.ofNat i1))])) rfl rfl (hb hby d19_2) _ ?_
    rw [len_of Sz1 Nn1]
    show Go p e below s₁ m 3 (q_9 a1 i1) [(.int (Int32.ofNat LA)), (.int (Int32.ofNat i1))] _
    refine XS.icmpYes X0.here hx rfl (pc0 := 3) (pc' := 14) rfl (hb hby d19_3) rfl (feq (fun q => absurd ((own_eq (a := i1) (b := LA) (by omega) (by omega)).mp q) (by omega))).2 (by decide) (by decide) ?_
    refine XS.iloadN X0.here hx rfl (hb hby d19_14) rfl ?_
    refine st2 _ ?_
    show Go p e below T2 m 17 (q_9 a1 i1) [(.ref b2)] _
    refine XS.astoreN X2.here hx rfl (hb hby d19_17) rfl rfl (l' := (q_39 a1 i1 b2)) rfl ?_
    refine XS.aloadN X2.here hx rfl (hb hby d19_18) rfl rfl ?_
    refine XS.iconst X2.here hx rfl (hb hby d19_19) ?_
    refine XS.aloadN X2.here hx rfl (hb hby d19_20) rfl rfl ?_
    refine XS.iconst X2.here hx rfl (hb hby d19_21) ?_
    refine XS.aloadN X2.here hx rfl (hb hby d19_22) rfl rfl ?_
    show Go p e below T2 m 23 (q_39 a1 i1 b2) [(.ref a1), (.int (0 : Int32)), (.ref b2), (.int (0 : Int32)), (.ref a1)] _
    refine X2.arraylength hx (by rw [e2]; exact Ar5.1) (State.isArrayOf_alike hZ.alike Ar5.2.1) (g := (mkF m 23 (q_39 a1 i1 b2) [(.ref a1), (.int (0 : Int32)), (.ref b2), (.int (0 : Int32)), (.ref a1)])) rfl rfl (hb hby d19_23) _ ?_
    rw [len_of Sz5 Nn5]
    show Go p e below T2 m 24 (q_39 a1 i1 b2) [(.int (Int32.ofNat LA)), (.int (0 : Int32)), (.ref b2), (.int (0 : Int32)), (.ref a1)] _
    refine XS.iloadN X2.here hx rfl (hb hby d19_24) rfl ?_
    refine st6 _ ?_
    refine st7 _ ?_
    show Go p e below T7 m 31 (q_39 a1 i1 b2) [] _
    refine XS.aloadN X7.here hx rfl (hb hby d19_31) rfl rfl ?_
    show Go p e below T7 m 32 (q_39 a1 i1 b2) [(.ref b2)] _
    exact retOut X7 hx Bd.returns rfl (Or.inr (Or.inr (Or.inr (Or.inr ⟨rfl, rfl, rfl⟩)))) (hb hby d19_32) hr
  · show Qar Z i1 (vs ++ List.replicate (i1 - LA) 0) h0 n0 _ T7.heap _
    rw [e7]
    exact ⟨b2, _, rfl, N7, kp9, sz_b2, ⟨Vc7, by rw [List.length_append, List.length_replicate]; omega⟩, (Ea2.keep K7)⟩
theorem pn6 : plainName "java/lang/AbstractStringBuilder" = true := by first | (simp [plainName, overriddenIn]; done) | decide +kernel
theorem d9_0 : Dc cb34 0 (.aload_n 0) 1 := by decide +kernel
theorem d9_1 : Dc cb34 1 (.invokespecial 3) 3 := by decide +kernel
theorem d9_4 : Dc cb34 4 (.getstatic 18) 3 := by decide +kernel
theorem d9_7 : Dc cb34 7 (.ifCond .eq 18) 3 := by decide +kernel
theorem d9_10 : Dc cb34 10 (.aload_n 0) 1 := by decide +kernel
theorem d9_11 : Dc cb34 11 (.iload_n 1) 1 := by decide +kernel
theorem d9_12 : Dc cb34 12 (.newarray .byte) 2 := by decide +kernel
theorem d9_14 : Dc cb34 14 (.putfield 15) 3 := by decide +kernel
theorem d9_17 : Dc cb34 17 (.aload_n 0) 1 := by decide +kernel
theorem d9_18 : Dc cb34 18 (.iconst 0) 1 := by decide +kernel
theorem d9_19 : Dc cb34 19 (.putfield 22) 3 := by decide +kernel
theorem d9_22 : Dc cb34 22 (.goto 16) 3 := by decide +kernel
theorem d9_38 : Dc cb34 38 .return_ 1 := by decide +kernel
theorem ef_rb_i16 (m : MethodId) (x0 : Addr) (x1 : Int32) : entryFrame m #[(.ref x0), (.int x1)] 2 = mkF m 0 #[.val (.ref x0), .val (.int x1)] [] := by first | (simp [entryFrame, mkF, argsToLocals, Value.category]; done) | rfl
set_option maxRecDepth 65536 in
set_option maxHeartbeats 40000000 in
theorem rb_i16 (l : Launch) (Z : State) (a0 : Array Value) (hw : Hw a0 Z) (ws : List Jvm.Cond) (G1 : Int32) (Fm : Value) (a1 : Addr) (h0 : Heap) (n0 : Nat) (O0 : Old Z n0 h0) (ST : Stc Z G1 Fm) (E_a : Exa Z h0 a1 "java/lang/StringBuilder") (F_v : Fld Z h0 a1 "java/lang/AbstractStringBuilder" "value" "[B" .null) (F_c : Fld Z h0 a1 "java/lang/AbstractStringBuilder" "coder" "B" (.int (0 : Int32))) (F_n : Fld Z h0 a1 "java/lang/AbstractStringBuilder" "count" "I" (.int (0 : Int32))) (F_m : Fld Z h0 a1 "java/lang/AbstractStringBuilder" "maybeLatin1" "Z" (.int (0 : Int32))) (g_a1 : n0 ≤ a1) :
    Met l Z h0 ws Y_57 jdk_68_method_2_code 2 none R_40 #[(.ref a1), (.int (16 : Int32))] (Qsb (fun h b k LB => Sb0 Z h a1 b k LB 0 []) a1 h0 n0) := by
  refine MetFree.of_bodySF (plainFor_of_name pn6) hisR ?_
  intro p e s m args below meth c s₁ Bd hml0 hP hK
  obtain ⟨rfl, hZ, hh⟩ := hP
  have hx := Bd.exec
  have hby := Bd.bytes
  have hml : c.maxLocals = 2 := hml0
  have hown : s.vm.findClass "java/lang/AbstractStringBuilder" = some m.cls := findClass_of_methodNamed Bd.named
  have hnm := (name_of_methodNamed Bd.named Bd.method).1
  have X0 : Stand p l e R_40 s m #[(.ref a1), (.int (16 : Int32))] below meth c s₁ [] 0 0 := Stand.of_body Bd
  have e0 : s₁.heap = h0 := by rw [← hh, Bd.state]; rfl
  have N0 := Fr.nil n0
  obtain ⟨S_cs, hG, S_fm, hF, S_ad, S_hi, S_lo⟩ := id ST
  have lt_a1 := E_a.lt
  obtain ⟨T1, X1, e1, st1⟩ := initO X0 hx hZ hown (tw hw 59 rfl) (tw hw 17 rfl) (tw hw 18 rfl) e0 (g := (mkF m 1 (q_26 a1) [(.ref a1)])) rfl (by rw [hml]; rfl) rfl (hb hby d9_1) (by decide) (W := 0) (by show 2 * 0 + _ ≤ _; exact Nat.le_of_eq rfl) (by decide)
  obtain ⟨T2, X2, e2, st2⟩ := getS2 X1 hx hZ hown (host := "") (Or.inl (tw hw 60 rfl)) Via.refl e1 (S_cs.ext O0.2) (g := (mkF m 4 (q_26 a1) [])) rfl (hb hby d9_4)
  obtain ⟨T3, h3, k3, X3, e3, E3, A3, Ea3, st3⟩ := newPE X2 hx hZ (tw hw 20 rfl) e2 (g := (mkF m 12 (q_26 a1) [(.int (16 : Int32)), (.ref a1)])) rfl (hb hby d9_12) rfl (by decide) (cap := 16) (by decide) (by decide) (by decide) (by decide) (ad := "[B") (by decide)
  obtain ⟨b3, g3⟩ : ∃ z, z = h0.size := ⟨_, rfl⟩
  rw [← g3] at A3 Ea3 st3
  have g_b3 : n0 ≤ b3 := by rw [g3]; exact Nat.le_trans (Nat.le_of_eq O0.1.symm) O0.2.1
  have sz_b3 : h0.size ≤ b3 := by rw [g3]; exact (Keep.refl h0 [a1]).1
  have lt_a1_b3 : a1 < b3 := Nat.lt_of_lt_of_le lt_a1 sz_b3
  have O4 := O0.ext E3
  have kp5 : Keep h0 h3 [a1] := (Keep.refl h0 [a1]).ext E3
  have V_b3 : Arv Z h3 b3 k3 .byte (16 : Int32) ((List.replicate 16 (0 : Int32)).map Value.int) (.int (0 : Int32)) := by rw [List.map_replicate]; exact (Arv.new A3 (by decide)).pad (pad_rep [] (.int (0 : Int32)) 16)
  have hN_b3 : ((16 : Int32)).toNatClampNeg = (List.replicate 16 (0 : Int32)).length := by rw [List.length_replicate]; exact by decide
  obtain ⟨T6, h6, X6, e6, W6, st6⟩ := putF X3 hx hZ hown (host := "") (Or.inl (tw hw 61 rfl)) Via.refl e3 (F_v.ext E3) (E_a.ext E3) (Or.inl (tw hw 62 rfl)) (tw hw 48 rfl) (ty := (.array .byte)) (by decide) rfl rfl (g := (mkF m 14 (q_26 a1) [(.ref b3), (.ref a1)])) rfl rfl (hb hby d9_14)
  have Fw6 := (F_v.ext E3).same W6
  have O7 := O4.wr W6 g_a1
  have kp8 : Keep h0 h6 [a1] := kp5.wr W6 (Or.inl (List.mem_of_getElem? (i := 0) rfl))
  have N6 := Fr.snoc X6 N0 g_a1
  obtain ⟨T9, h9, X9, e9, W9, st9⟩ := putFN X6 hx hZ hown (tw hw 63 rfl) Via.refl e6 ((F_c.ext E3).other W6 (Or.inr (slot_ne (Or.inl (tw hw 64 rfl)) (Or.inl (tw hw 62 rfl)) (by decide) (t := .byte) (t' := (.array .byte)) (by decide) (by decide)))) ((E_a.ext E3).wr W6) (Or.inl (tw hw 64 rfl)) (tw hw 48 rfl) (ty := .byte) (v' := (.int (0 : Int32))) (by decide) rfl rfl (g := (mkF m 19 (q_26 a1) [(.int (0 : Int32)), (.ref a1)])) rfl rfl (hb hby d9_19)
  have Fw9 := ((F_c.ext E3).other W6 (Or.inr (slot_ne (Or.inl (tw hw 64 rfl)) (Or.inl (tw hw 62 rfl)) (by decide) (t := .byte) (t' := (.array .byte)) (by decide) (by decide)))).same W9
  have O10 := O7.wr W9 g_a1
  have kp11 : Keep h0 h9 [a1] := kp8.wr W9 (Or.inl (List.mem_of_getElem? (i := 0) rfl))
  have N9 := Fr.snoc X9 N6 g_a1
  obtain ⟨fs, hr, hrun, hended, hW, hsame⟩ := X9.leave (v := none) (fun _ => rfl)
  refine ⟨_, _, castTop (ef_rb_i16 m a1 (16 : Int32)) ?_, hrun, hended, _, _, rfl, ?_, ⟨_, rfl⟩, hW, hsame.mono (by decide) (by decide)⟩
  · show Go p e below s₁ m 0 (q_26 a1) [] _
    refine XS.aloadN X0.here hx rfl (hb hby d9_0) rfl rfl ?_
    refine st1 _ ?_
    refine st2 _ ?_
    show Go p e below T2 m 7 (q_26 a1) [(.int G1)] _
    refine XS.ifNo X2.here hx rfl (hb hby d9_7) rfl ((if0 _ _).trans (feq hG).1) ?_
    refine XS.aloadN X2.here hx rfl (hb hby d9_10) rfl rfl ?_
    refine XS.iloadN X2.here hx rfl (hb hby d9_11) rfl ?_
    refine st3 _ ?_
    refine st6 _ ?_
    show Go p e below T6 m 17 (q_26 a1) [] _
    refine XS.aloadN X6.here hx rfl (hb hby d9_17) rfl rfl ?_
    refine XS.iconst X6.here hx rfl (hb hby d9_18) ?_
    refine st9 _ ?_
    show Go p e below T9 m 22 (q_26 a1) [] _
    refine XS.goto X9.here hx rfl (pc0 := 22) (pc' := 38) rfl (hb hby d9_22) (by decide) (by decide) ?_
    show Go p e below T9 m 38 (q_26 a1) [] _
    exact X9.returnOut hx Bd.returns (hb hby d9_38) hr
  · show Qsb (fun h b k LB => Sb0 Z h a1 b k LB 0 []) a1 h0 n0 _ T9.heap _
    rw [e9]
    exact ⟨rfl, N9, kp11, b3, _, 16, sz_b3, ⟨(((E_a.ext E3).wr W6).wr W9), (Fw6.other W9 (Or.inr (slot_ne (Or.inl (tw hw 62 rfl)) (Or.inl (tw hw 64 rfl)) (by decide) (t := (.array .byte)) (t' := .byte) (by decide) (by decide)))), Fw9, (((F_n.ext E3).other W6 (Or.inr (slot_ne (Or.inl (tw hw 78 rfl)) (Or.inl (tw hw 62 rfl)) (by decide) (t := .int) (t' := (.array .byte)) (by decide) (by decide)))).other W9 (Or.inr (slot_ne (Or.inl (tw hw 78 rfl)) (Or.inl (tw hw 64 rfl)) (by decide) (t := .int) (t' := .byte) (by decide) (by decide)))), (((F_m.ext E3).other W6 (Or.inr (slot_ne (Or.inl (tw hw 336 rfl)) (Or.inl (tw hw 62 rfl)) (by decide) (t := .boolean) (t' := (.array .byte)) (by decide) (by decide)))).other W9 (Or.inr (slot_ne (Or.inl (tw hw 336 rfl)) (Or.inl (tw hw 64 rfl)) (by decide) (t := .boolean) (t' := .byte) (by decide) (by decide)))), ((Ea3.wr W6).wr W9), (fun _ q => nomatch q), (by decide), _, ⟨((V_b3.other W6 (Ne.symm (Nat.ne_of_lt lt_a1_b3))).other W9 (Ne.symm (Nat.ne_of_lt lt_a1_b3))), rfl⟩⟩⟩
theorem pn7 : plainName "java/lang/StringBuilder" = true := by first | (simp [plainName, overriddenIn]; done) | decide +kernel
theorem d8_0 : Dc cb35 0 (.aload_n 0) 1 := by decide +kernel
theorem d8_1 : Dc cb35 1 (.bipush 16) 2 := by decide +kernel
theorem d8_3 : Dc cb35 3 (.invokespecial 1) 3 := by decide +kernel
theorem pd22 : parseMethodDescriptor "(I)V" = some ⟨[.int], none⟩ := by decide +kernel
theorem d8_6 : Dc cb35 6 .return_ 1 := by decide +kernel
theorem ef_rb_i (m : MethodId) (x0 : Addr) : entryFrame m #[(.ref x0)] 1 = mkF m 0 #[.val (.ref x0)] [] := by first | (simp [entryFrame, mkF, argsToLocals, Value.category]; done) | rfl
set_option maxRecDepth 65536 in
set_option maxHeartbeats 40000000 in
theorem rb_i (l : Launch) (Z : State) (a0 : Array Value) (hw : Hw a0 Z) (ws : List Jvm.Cond) (G1 : Int32) (Fm : Value) (a1 : Addr) (h0 : Heap) (n0 : Nat) (O0 : Old Z n0 h0) (ST : Stc Z G1 Fm) (E_a : Exa Z h0 a1 "java/lang/StringBuilder") (F_v : Fld Z h0 a1 "java/lang/AbstractStringBuilder" "value" "[B" .null) (F_c : Fld Z h0 a1 "java/lang/AbstractStringBuilder" "coder" "B" (.int (0 : Int32))) (F_n : Fld Z h0 a1 "java/lang/AbstractStringBuilder" "count" "I" (.int (0 : Int32))) (F_m : Fld Z h0 a1 "java/lang/AbstractStringBuilder" "maybeLatin1" "Z" (.int (0 : Int32))) (g_a1 : n0 ≤ a1) :
    Met l Z h0 ws Y_58 jdk_67_method_1_code 1 none R_41 #[(.ref a1)] (Qsb (fun h b k LB => Sb0 Z h a1 b k LB 0 []) a1 h0 n0) := by
  refine MetFree.of_bodySF (plainFor_of_name pn7) hisR ?_
  intro p e s m args below meth c s₁ Bd hml0 hP hK
  obtain ⟨rfl, hZ, hh⟩ := hP
  have hx := Bd.exec
  have hby := Bd.bytes
  have hml : c.maxLocals = 1 := hml0
  have hown : s.vm.findClass "java/lang/StringBuilder" = some m.cls := findClass_of_methodNamed Bd.named
  have hnm := (name_of_methodNamed Bd.named Bd.method).1
  have X0 : Stand p l e R_41 s m #[(.ref a1)] below meth c s₁ [] 0 0 := Stand.of_body Bd
  have e0 : s₁.heap = h0 := by rw [← hh, Bd.state]; rfl
  have N0 := Fr.nil n0
  obtain ⟨S_cs, hG, S_fm, hF, S_ad, S_hi, S_lo⟩ := id ST
  have lt_a1 := E_a.lt
  obtain ⟨_, T1, Lc1, X1, hQ1, st1⟩ := own_ic X0 hx hZ (y := Y_57) rfl hown (tw hw 53 rfl) (tw hw 54 rfl) (by decide) (rb_i16 l Z a0 hw [] G1 Fm a1 h0 n0 O0 ST E_a F_v F_c F_n F_m g_a1) (tw hw 58 rfl) (tw hw 57 rfl) e0 (W := 0) (by decide) (by decide) (Ls := (q_1 a1)) (by rw [hml]; rfl) (b := a1) (argsL := [(.int (16 : Int32))]) (rest := []) (lenOf pd22 rfl) (Nat.le_of_eq rfl) (hb hby d8_3) rfl (by decide) (by decide)
  obtain ⟨h1, e1⟩ : ∃ z, T1.heap = z := ⟨_, rfl⟩
  rw [e1] at hQ1
  obtain ⟨rfl, Nq1, K1, R1⟩ := hQ1
  have N1 := Fr.app N0 Nq1
  have O2 := O0.keep K1 (allS g_a1 all0)
  have kp3 : Keep h0 h1 [a1] := (Keep.refl h0 [a1]).trans K1 (allS (Or.inl (List.mem_of_getElem? (i := 0) rfl)) all0)
  have RR := R1
  obtain ⟨fs, hr, hrun, hended, hW, hsame⟩ := X1.leave (v := none) (fun _ => rfl)
  refine ⟨_, _, castTop (ef_rb_i m a1) ?_, hrun, hended, _, _, rfl, ?_, ⟨_, rfl⟩, hW, hsame.mono (by decide) (by decide)⟩
  · show Go p e below s₁ m 0 (q_1 a1) [] _
    refine XS.aloadN X0.here hx rfl (hb hby d8_0) rfl rfl ?_
    refine XS.bipush X0.here hx rfl (hb hby d8_1) ?_
    refine st1 _ ?_
    show Go p e below T1 m 6 (q_1 a1) [] _
    exact X1.returnOut hx Bd.returns (hb hby d8_6) hr
  · show Qsb (fun h b k LB => Sb0 Z h a1 b k LB 0 []) a1 h0 n0 _ T1.heap _
    rw [e1]
    exact ⟨rfl, N1, kp3, RR⟩
theorem d27_0 : Dc cb36 0 (.getstatic 18) 3 := by decide +kernel
theorem d27_3 : Dc cb36 3 (.ifCond .eq 14) 3 := by decide +kernel
theorem d27_6 : Dc cb36 6 (.aload_n 0) 1 := by decide +kernel
theorem d27_7 : Dc cb36 7 (.getfield 22) 3 := by decide +kernel
theorem d27_10 : Dc cb36 10 (.ifCond .ne 7) 3 := by decide +kernel
theorem d27_13 : Dc cb36 13 (.iconst 1) 1 := by decide +kernel
theorem d27_14 : Dc cb36 14 (.goto 4) 3 := by decide +kernel
theorem d27_18 : Dc cb36 18 .ireturn 1 := by decide +kernel
theorem ef_rb_il0 (m : MethodId) (x0 : Addr) : entryFrame m #[(.ref x0)] 1 = mkF m 0 #[.val (.ref x0)] [] := by first | (simp [entryFrame, mkF, argsToLocals, Value.category]; done) | rfl
set_option maxRecDepth 65536 in
set_option maxHeartbeats 40000000 in
theorem rb_il0 (l : Launch) (Z : State) (a0 : Array Value) (hw : Hw a0 Z) (ws : List Jvm.Cond) (G1 : Int32) (Fm : Value) (a1 : Addr) (bA : Addr) (kA : ClassId) (LB : Nat) (nn : Nat) (cs : List UInt16) (h0 : Heap) (n0 : Nat) (O0 : Old Z n0 h0) (ST : Stc Z G1 Fm) (HB : Sb0 Z h0 a1 bA kA LB nn cs) (hnn : nn ≤ 120) :
    Met l Z h0 ws Y_4 jdk_68_method_68_code 1 (some .boolean) R_0 #[(.ref a1)] (Qpure (some (.int (1 : Int32))) h0 n0) := by
  refine MetFree.of_bodySF (plainFor_of_name pn6) hisR ?_
  intro p e s m args below meth c s₁ Bd hml0 hP hK
  obtain ⟨rfl, hZ, hh⟩ := hP
  have hx := Bd.exec
  have hby := Bd.bytes
  have hml : c.maxLocals = 1 := hml0
  have hown : s.vm.findClass "java/lang/AbstractStringBuilder" = some m.cls := findClass_of_methodNamed Bd.named
  have hnm := (name_of_methodNamed Bd.named Bd.method).1
  have X0 : Stand p l e R_0 s m #[(.ref a1)] below meth c s₁ [] 0 0 := Stand.of_body Bd
  have e0 : s₁.heap = h0 := by rw [← hh, Bd.state]; rfl
  have N0 := Fr.nil n0
  obtain ⟨S_cs, hG, S_fm, hF, S_ad, S_hi, S_lo⟩ := id ST
  obtain ⟨Es, Fv, Fc, Fn, Fy, Eb, hu, hL, tl, Bs⟩ := id HB
  have Vs := Bs.1
  have ls := Bs.2
  have hNs : (Int32.ofNat LB).toNatClampNeg = (cs.map cLo ++ tl).length := by rw [ls]; exact own_n (by omega)
  have lq : cs.length + tl.length = LB := by rw [← ls]; simp only [List.length_append, List.length_map, enc1_len]
  have lt_a1 := Es.lt
  have lt_bA := Vs.lt
  have n_ab : a1 ≠ bA := Exa.neArv Es Vs (tw hw 48 rfl)
  obtain ⟨T1, X1, e1, st1⟩ := getS2 X0 hx hZ hown (host := "") (Or.inl (tw hw 60 rfl)) Via.refl e0 (S_cs.ext O0.2) (g := (mkF m 0 (q_1 a1) [])) rfl (hb hby d27_0)
  obtain ⟨T2, X2, e2, st2⟩ := getF X1 hx hZ hown (host := "") (Or.inl (tw hw 63 rfl)) Via.refl e1 Fc (g := (mkF m 7 (q_1 a1) [(.ref a1)])) rfl rfl (hb hby d27_7)
  obtain ⟨fs, hr, hrun, hended, hW, hsame⟩ := X2.leave (v := some (.int (1 : Int32))) (fun h => by rw [Bd.returns] at h; cases h)
  refine ⟨_, _, castTop (ef_rb_il0 m a1) ?_, hrun, hended, _, _, rfl, ?_, ⟨_, rfl⟩, hW, hsame.mono (by decide) (by decide)⟩
  · refine st1 _ ?_
    show Go p e below T1 m 3 (q_1 a1) [(.int G1)] _
    refine XS.ifNo X1.here hx rfl (hb hby d27_3) rfl ((if0 _ _).trans (feq hG).1) ?_
    refine XS.aloadN X1.here hx rfl (hb hby d27_6) rfl rfl ?_
    refine st2 _ ?_
    show Go p e below T2 m 10 (q_1 a1) [(.int (0 : Int32))] _
    refine XS.ifNo X2.here hx rfl (hb hby d27_10) rfl ((if0 _ _).trans (teq (by decide)).2) ?_
    refine XS.iconst X2.here hx rfl (hb hby d27_13) ?_
    refine XS.goto X2.here hx rfl (pc0 := 14) (pc' := 18) rfl (hb hby d27_14) (by decide) (by decide) ?_
    show Go p e below T2 m 18 (q_1 a1) [(.int (1 : Int32))] _
    exact retN X2 hx (t := .boolean) Bd.returns (by simp) (hb hby d27_18) hr
  · show Qpure (some (.int (1 : Int32))) h0 n0 _ T2.heap _
    rw [e2]
    exact ⟨rfl, N0, rfl⟩
theorem d24_0 : Dc cb37 0 (.aload_n 0) 1 := by decide +kernel
theorem d24_1 : Dc cb37 1 (.getfield 15) 3 := by decide +kernel
theorem d24_4 : Dc cb37 4 .areturn 1 := by decide +kernel
theorem ef_rb_gv0 (m : MethodId) (x0 : Addr) : entryFrame m #[(.ref x0)] 1 = mkF m 0 #[.val (.ref x0)] [] := by first | (simp [entryFrame, mkF, argsToLocals, Value.category]; done) | rfl
set_option maxRecDepth 65536 in
set_option maxHeartbeats 40000000 in
theorem rb_gv0 (l : Launch) (Z : State) (a0 : Array Value) (hw : Hw a0 Z) (ws : List Jvm.Cond) (G1 : Int32) (Fm : Value) (a1 : Addr) (bA : Addr) (kA : ClassId) (LB : Nat) (nn : Nat) (cs : List UInt16) (h0 : Heap) (n0 : Nat) (O0 : Old Z n0 h0) (ST : Stc Z G1 Fm) (HB : Sb0 Z h0 a1 bA kA LB nn cs) (hnn : nn ≤ 120) :
    Met l Z h0 ws Y_14 jdk_68_method_64_code 1 (some (.array .byte)) R_0 #[(.ref a1)] (Qpure (some (.ref bA)) h0 n0) := by
  refine MetFree.of_bodySF (plainFor_of_name pn6) hisR ?_
  intro p e s m args below meth c s₁ Bd hml0 hP hK
  obtain ⟨rfl, hZ, hh⟩ := hP
  have hx := Bd.exec
  have hby := Bd.bytes
  have hml : c.maxLocals = 1 := hml0
  have hown : s.vm.findClass "java/lang/AbstractStringBuilder" = some m.cls := findClass_of_methodNamed Bd.named
  have hnm := (name_of_methodNamed Bd.named Bd.method).1
  have X0 : Stand p l e R_0 s m #[(.ref a1)] below meth c s₁ [] 0 0 := Stand.of_body Bd
  have e0 : s₁.heap = h0 := by rw [← hh, Bd.state]; rfl
  have N0 := Fr.nil n0
  obtain ⟨S_cs, hG, S_fm, hF, S_ad, S_hi, S_lo⟩ := id ST
  obtain ⟨Es, Fv, Fc, Fn, Fy, Eb, hu, hL, tl, Bs⟩ := id HB
  have Vs := Bs.1
  have ls := Bs.2
  have hNs : (Int32.ofNat LB).toNatClampNeg = (cs.map cLo ++ tl).length := by rw [ls]; exact own_n (by omega)
  have lq : cs.length + tl.length = LB := by rw [← ls]; simp only [List.length_append, List.length_map, enc1_len]
  have lt_a1 := Es.lt
  have lt_bA := Vs.lt
  have n_ab : a1 ≠ bA := Exa.neArv Es Vs (tw hw 48 rfl)
  obtain ⟨T1, X1, e1, st1⟩ := getF X0 hx hZ hown (host := "") (Or.inl (tw hw 61 rfl)) Via.refl e0 Fv (g := (mkF m 1 (q_1 a1) [(.ref a1)])) rfl rfl (hb hby d24_1)
  obtain ⟨fs, hr, hrun, hended, hW, hsame⟩ := X1.leave (v := some (.ref bA)) (fun h => by rw [Bd.returns] at h; cases h)
  refine ⟨_, _, castTop (ef_rb_gv0 m a1) ?_, hrun, hended, _, _, rfl, ?_, ⟨_, rfl⟩, hW, hsame.mono (by decide) (by decide)⟩
  · show Go p e below s₁ m 0 (q_1 a1) [] _
    refine XS.aloadN X0.here hx rfl (hb hby d24_0) rfl rfl ?_
    refine st1 _ ?_
    show Go p e below T1 m 4 (q_1 a1) [(.ref bA)] _
    exact retOut X1 hx Bd.returns rfl (Or.inr (Or.inr (Or.inr (Or.inr ⟨rfl, rfl, rfl⟩)))) (hb hby d24_4) hr
  · show Qpure (some (.ref bA)) h0 n0 _ T1.heap _
    rw [e1]
    exact ⟨rfl, N0, rfl⟩
theorem d26_0 : Dc cb38 0 (.aload_n 0) 1 := by decide +kernel
theorem d26_1 : Dc cb38 1 (.getfield 79) 3 := by decide +kernel
theorem d26_4 : Dc cb38 4 .ireturn 1 := by decide +kernel
theorem ef_rb_al0 (m : MethodId) (x0 : Addr) : entryFrame m #[(.ref x0)] 1 = mkF m 0 #[.val (.ref x0)] [] := by first | (simp [entryFrame, mkF, argsToLocals, Value.category]; done) | rfl
set_option maxRecDepth 65536 in
set_option maxHeartbeats 40000000 in
theorem rb_al0 (l : Launch) (Z : State) (a0 : Array Value) (hw : Hw a0 Z) (ws : List Jvm.Cond) (G1 : Int32) (Fm : Value) (a1 : Addr) (bA : Addr) (kA : ClassId) (LB : Nat) (nn : Nat) (cs : List UInt16) (h0 : Heap) (n0 : Nat) (O0 : Old Z n0 h0) (ST : Stc Z G1 Fm) (HB : Sb0 Z h0 a1 bA kA LB nn cs) (hnn : nn ≤ 120) :
    Met l Z h0 ws Y_15 jdk_68_method_6_code 1 (some .int) R_0 #[(.ref a1)] (Qpure (some (.int (Int32.ofNat nn))) h0 n0) := by
  refine MetFree.of_bodySF (plainFor_of_name pn6) hisR ?_
  intro p e s m args below meth c s₁ Bd hml0 hP hK
  obtain ⟨rfl, hZ, hh⟩ := hP
  have hx := Bd.exec
  have hby := Bd.bytes
  have hml : c.maxLocals = 1 := hml0
  have hown : s.vm.findClass "java/lang/AbstractStringBuilder" = some m.cls := findClass_of_methodNamed Bd.named
  have hnm := (name_of_methodNamed Bd.named Bd.method).1
  have X0 : Stand p l e R_0 s m #[(.ref a1)] below meth c s₁ [] 0 0 := Stand.of_body Bd
  have e0 : s₁.heap = h0 := by rw [← hh, Bd.state]; rfl
  have N0 := Fr.nil n0
  obtain ⟨S_cs, hG, S_fm, hF, S_ad, S_hi, S_lo⟩ := id ST
  obtain ⟨Es, Fv, Fc, Fn, Fy, Eb, hu, hL, tl, Bs⟩ := id HB
  have Vs := Bs.1
  have ls := Bs.2
  have hNs : (Int32.ofNat LB).toNatClampNeg = (cs.map cLo ++ tl).length := by rw [ls]; exact own_n (by omega)
  have lq : cs.length + tl.length = LB := by rw [← ls]; simp only [List.length_append, List.length_map, enc1_len]
  have lt_a1 := Es.lt
  have lt_bA := Vs.lt
  have n_ab : a1 ≠ bA := Exa.neArv Es Vs (tw hw 48 rfl)
  obtain ⟨T1, X1, e1, st1⟩ := getF X0 hx hZ hown (host := "") (Or.inl (tw hw 77 rfl)) Via.refl e0 Fn (g := (mkF m 1 (q_1 a1) [(.ref a1)])) rfl rfl (hb hby d26_1)
  obtain ⟨fs, hr, hrun, hended, hW, hsame⟩ := X1.leave (v := some (.int (Int32.ofNat nn))) (fun h => by rw [Bd.returns] at h; cases h)
  refine ⟨_, _, castTop (ef_rb_al0 m a1) ?_, hrun, hended, _, _, rfl, ?_, ⟨_, rfl⟩, hW, hsame.mono (by decide) (by decide)⟩
  · show Go p e below s₁ m 0 (q_1 a1) [] _
    refine XS.aloadN X0.here hx rfl (hb hby d26_0) rfl rfl ?_
    refine st1 _ ?_
    show Go p e below T1 m 4 (q_1 a1) [(.int (Int32.ofNat nn))] _
    exact retI X1 hx Bd.returns (hb hby d26_4) hr
  · show Qpure (some (.int (Int32.ofNat nn))) h0 n0 _ T1.heap _
    rw [e1]
    exact ⟨rfl, N0, rfl⟩
theorem d25_0 : Dc cb39 0 (.aload_n 0) 1 := by decide +kernel
theorem d25_1 : Dc cb39 1 (.invokespecial 343) 3 := by decide +kernel
theorem pd23 : parseMethodDescriptor "()I" = some ⟨[], some .int⟩ := by decide +kernel
theorem d25_4 : Dc cb39 4 .ireturn 1 := by decide +kernel
theorem ef_rb_len0 (m : MethodId) (x0 : Addr) : entryFrame m #[(.ref x0)] 1 = mkF m 0 #[.val (.ref x0)] [] := by first | (simp [entryFrame, mkF, argsToLocals, Value.category]; done) | rfl
set_option maxRecDepth 65536 in
set_option maxHeartbeats 40000000 in
theorem rb_len0 (l : Launch) (Z : State) (a0 : Array Value) (hw : Hw a0 Z) (ws : List Jvm.Cond) (G1 : Int32) (Fm : Value) (a1 : Addr) (bA : Addr) (kA : ClassId) (LB : Nat) (nn : Nat) (cs : List UInt16) (h0 : Heap) (n0 : Nat) (O0 : Old Z n0 h0) (ST : Stc Z G1 Fm) (HB : Sb0 Z h0 a1 bA kA LB nn cs) (hnn : nn ≤ 120) :
    Met l Z h0 ws Y_26 jdk_67_method_93_code 1 (some .int) R_2 #[(.ref a1)] (Qpure (some (.int (Int32.ofNat nn))) h0 n0) := by
  refine MetFree.of_bodySF (plainFor_of_name pn7) hisR ?_
  intro p e s m args below meth c s₁ Bd hml0 hP hK
  obtain ⟨rfl, hZ, hh⟩ := hP
  have hx := Bd.exec
  have hby := Bd.bytes
  have hml : c.maxLocals = 1 := hml0
  have hown : s.vm.findClass "java/lang/StringBuilder" = some m.cls := findClass_of_methodNamed Bd.named
  have hnm := (name_of_methodNamed Bd.named Bd.method).1
  have X0 : Stand p l e R_2 s m #[(.ref a1)] below meth c s₁ [] 0 0 := Stand.of_body Bd
  have e0 : s₁.heap = h0 := by rw [← hh, Bd.state]; rfl
  have N0 := Fr.nil n0
  obtain ⟨S_cs, hG, S_fm, hF, S_ad, S_hi, S_lo⟩ := id ST
  obtain ⟨Es, Fv, Fc, Fn, Fy, Eb, hu, hL, tl, Bs⟩ := id HB
  have Vs := Bs.1
  have ls := Bs.2
  have hNs : (Int32.ofNat LB).toNatClampNeg = (cs.map cLo ++ tl).length := by rw [ls]; exact own_n (by omega)
  have lq : cs.length + tl.length = LB := by rw [← ls]; simp only [List.length_append, List.length_map, enc1_len]
  have lt_a1 := Es.lt
  have lt_bA := Vs.lt
  have n_ab : a1 ≠ bA := Exa.neArv Es Vs (tw hw 48 rfl)
  obtain ⟨_, _, ⟨T1, L1, k1, n1⟩, -, X1, ⟨Lc1, hQ1, l1, y1, z1⟩, st1⟩ := Jvm.RoadKit.superBack X0 hx hZ (y := Y_15) (K := "java/lang/AbstractStringBuilder") hown (tw hw 152 rfl) (own_same (C := "java/lang/StringBuilder") (tw hw 147 rfl) (tw hw 157 rfl)) (tw hw 148 rfl) (tw hw 73 rfl) (by decide) (backOf (W := 0) (rb_al0 l Z a0 hw [] G1 Fm a1 bA kA LB nn cs h0 n0 O0 ST HB hnn) hZ (tw hw 153 rfl) (tw hw 57 rfl) (by decide) (by decide)) e0 (Ins.of_exa Es (tw hw 56 rfl)) (g := (mkF m 1 (q_1 a1) [(.ref a1)])) rfl (by rw [hml]; rfl) (tw hw 153 rfl) (argsL := []) (rest := []) (lenOf pd23 rfl) rfl (by show 2 * 0 + _ ≤ _; exact Nat.le_of_eq rfl) (hb hby d25_1) (fun _ _ => ⟨rfl, e0, (by decide : 0 + 0 ≤ _), (by decide : 0 + 0 ≤ _)⟩)
  dsimp only [Pt.U, Pt.locs, Pt.cells, Pt.slots] at X1 l1 y1 z1 st1 hQ1
  subst l1 y1 z1
  obtain ⟨rfl, Nq1, e1⟩ := hQ1
  have N1 := Fr.app N0 Nq1
  obtain ⟨fs, hr, hrun, hended, hW, hsame⟩ := X1.leave (v := some (.int (Int32.ofNat nn))) (fun h => by rw [Bd.returns] at h; cases h)
  refine ⟨_, _, castTop (ef_rb_len0 m a1) ?_, hrun, hended, _, _, rfl, ?_, ⟨_, rfl⟩, hW, hsame.mono (by decide) (by decide)⟩
  · show Go p e below s₁ m 0 (q_1 a1) [] _
    refine XS.aloadN X0.here hx rfl (hb hby d25_0) rfl rfl ?_
    refine st1.trans ?_
    show Go p e below T1 m 4 (q_1 a1) [(.int (Int32.ofNat nn))] _
    exact retI X1 hx Bd.returns (hb hby d25_4) hr
  · show Qpure (some (.int (Int32.ofNat nn))) h0 n0 _ T1.heap _
    rw [e1]
    exact ⟨rfl, N1, rfl⟩
theorem d16_0 : Dc cb40 0 (.aload_n 0) 1 := by decide +kernel
theorem d16_1 : Dc cb40 1 (.getfield 15) 3 := by decide +kernel
theorem d16_4 : Dc cb40 4 .arraylength 1 := by decide +kernel
theorem d16_5 : Dc cb40 5 (.istore_n 2) 1 := by decide +kernel
theorem d16_6 : Dc cb40 6 (.iload_n 1) 1 := by decide +kernel
theorem d16_7 : Dc cb40 7 (.aload_n 0) 1 := by decide +kernel
theorem d16_8 : Dc cb40 8 (.getfield 22) 3 := by decide +kernel
theorem d16_11 : Dc cb40 11 .ishl 1 := by decide +kernel
theorem d16_12 : Dc cb40 12 (.istore_n 3) 1 := by decide +kernel
theorem d16_13 : Dc cb40 13 (.iload_n 3) 1 := by decide +kernel
theorem d16_14 : Dc cb40 14 (.iload_n 2) 1 := by decide +kernel
theorem d16_15 : Dc cb40 15 .isub 1 := by decide +kernel
theorem d16_16 : Dc cb40 16 (.istore 4) 2 := by decide +kernel
theorem d16_18 : Dc cb40 18 (.iload_n 2) 1 := by decide +kernel
theorem d16_19 : Dc cb40 19 (.iload 4) 2 := by decide +kernel
theorem d16_21 : Dc cb40 21 (.iload_n 2) 1 := by decide +kernel
theorem d16_22 : Dc cb40 22 (.iconst 2) 1 := by decide +kernel
theorem d16_23 : Dc cb40 23 (.aload_n 0) 1 := by decide +kernel
theorem d16_24 : Dc cb40 24 (.getfield 22) 3 := by decide +kernel
theorem d16_27 : Dc cb40 27 .ishl 1 := by decide +kernel
theorem d16_28 : Dc cb40 28 .iadd 1 := by decide +kernel
theorem d16_29 : Dc cb40 29 (.invokestatic 114) 3 := by decide +kernel
theorem d16_32 : Dc cb40 32 (.istore 5) 2 := by decide +kernel
theorem d16_34 : Dc cb40 34 (.iload 5) 2 := by decide +kernel
theorem d16_36 : Dc cb40 36 (.ldc 39) 2 := by decide +kernel
theorem d16_38 : Dc cb40 38 (.if_icmp .ne 13) 3 := by decide +kernel
theorem d16_51 : Dc cb40 51 (.iload 5) 2 := by decide +kernel
theorem d16_53 : Dc cb40 53 (.aload_n 0) 1 := by decide +kernel
theorem d16_54 : Dc cb40 54 (.getfield 22) 3 := by decide +kernel
theorem d16_57 : Dc cb40 57 .ishr 1 := by decide +kernel
theorem d16_58 : Dc cb40 58 .ireturn 1 := by decide +kernel
theorem ef_rb_nc0 (m : MethodId) (x0 : Addr) (x1 : Int32) : entryFrame m #[(.ref x0), (.int x1)] 6 = mkF m 0 #[.val (.ref x0), .val (.int x1), .unset, .unset, .unset, .unset] [] := by first | (simp [entryFrame, mkF, argsToLocals, Value.category]; done) | rfl
set_option maxRecDepth 65536 in
set_option maxHeartbeats 40000000 in
theorem rb_nc0 (l : Launch) (Z : State) (a0 : Array Value) (hw : Hw a0 Z) (ws : List Jvm.Cond) (G1 : Int32) (Fm : Value) (a1 : Addr) (bA : Addr) (kA : ClassId) (LB : Nat) (nn : Nat) (cs : List UInt16) (i1 : Nat) (h0 : Heap) (n0 : Nat) (O0 : Old Z n0 h0) (ST : Stc Z G1 Fm) (HB : Sb0 Z h0 a1 bA kA LB nn cs) (hnn : nn ≤ 120) (hg : LB < i1) (hi : i1 ≤ 120) :
    Met l Z h0 ws Y_27 jdk_68_method_10_code 6 (some .int) R_8 #[(.ref a1), (.int (Int32.ofNat i1))] (Qpure (some (.int (Int32.ofNat (LB + max (i1 - LB) (LB + 2))))) h0 n0) := by
  refine MetFree.of_bodySF (plainFor_of_name pn6) hisR ?_
  intro p e s m args below meth c s₁ Bd hml0 hP hK
  obtain ⟨rfl, hZ, hh⟩ := hP
  have hx := Bd.exec
  have hby := Bd.bytes
  have hml : c.maxLocals = 6 := hml0
  have hown : s.vm.findClass "java/lang/AbstractStringBuilder" = some m.cls := findClass_of_methodNamed Bd.named
  have hnm := (name_of_methodNamed Bd.named Bd.method).1
  have X0 : Stand p l e R_8 s m #[(.ref a1), (.int (Int32.ofNat i1))] below meth c s₁ [] 0 0 := Stand.of_body Bd
  have e0 : s₁.heap = h0 := by rw [← hh, Bd.state]; rfl
  have N0 := Fr.nil n0
  obtain ⟨S_cs, hG, S_fm, hF, S_ad, S_hi, S_lo⟩ := id ST
  obtain ⟨Es, Fv, Fc, Fn, Fy, Eb, hu, hL, tl, Bs⟩ := id HB
  have Vs := Bs.1
  have ls := Bs.2
  have hNs : (Int32.ofNat LB).toNatClampNeg = (cs.map cLo ++ tl).length := by rw [ls]; exact own_n (by omega)
  have lq : cs.length + tl.length = LB := by rw [← ls]; simp only [List.length_append, List.length_map, enc1_len]
  have lt_a1 := Es.lt
  have lt_bA := Vs.lt
  have n_ab : a1 ≠ bA := Exa.neArv Es Vs (tw hw 48 rfl)
  obtain ⟨T1, X1, e1, st1⟩ := getF X0 hx hZ hown (host := "") (Or.inl (tw hw 61 rfl)) Via.refl e0 Fv (g := (mkF m 1 (q_28 a1 i1) [(.ref a1)])) rfl rfl (hb hby d16_1)
  obtain ⟨cl2, Ar2, q2, Sz2, Nn2, Ha2, Gf2⟩ := id Vs
  obtain ⟨T3, X3, e3, st3⟩ := getF X1 hx hZ hown (host := "") (Or.inl (tw hw 63 rfl)) Via.refl e1 Fc (g := (mkF m 8 (q_31 a1 i1 LB) [(.ref a1), (.int (Int32.ofNat i1))])) rfl rfl (hb hby d16_8)
  obtain ⟨T4, X4, e4, st4⟩ := getF X3 hx hZ hown (host := "") (Or.inl (tw hw 63 rfl)) Via.refl e3 Fc (g := (mkF m 24 (q_43 a1 i1 LB) [(.ref a1), (.int (2 : Int32)), (.int (Int32.ofNat LB)), (.int (Int32.ofNat (i1 - LB))), (.int (Int32.ofNat LB))])) rfl rfl (hb hby d16_24)
  obtain ⟨_, T5, Lc5, X5, hQ5, st5⟩ := own_sc X4 hx hZ (y := Y_37) hown (tw hw 110 rfl) (tw hw 111 rfl) (by decide) (rv_nl l Z a0 hw [] G1 Fm LB (i1 - LB) (LB + 2) h0 n0 O0 ST (by omega) (by omega) (by omega) (by omega)) (tw hw 113 rfl) (tw hw 112 rfl) e4 (W := 0) (by decide) (by decide) (Ls := (q_43 a1 i1 LB)) (by rw [hml]; rfl) (argsL := [(.int (Int32.ofNat LB)), (.int (Int32.ofNat (i1 - LB))), (.int (Int32.ofNat (LB + 2)))]) (rest := []) (lenOf pd13 rfl) (Nat.le_of_eq rfl) (hb hby d16_29) rfl (by decide) (by decide)
  obtain ⟨rfl, Nq5, e5⟩ := hQ5
  have N5 := Fr.app N0 Nq5
  have pf6 : ∀ target, Go p e below T5 m 38 (q_40 a1 i1 LB) [(.int (2147483647 : Int32)), (.int (Int32.ofNat (LB + max (i1 - LB) (LB + 2))))] target → Go p e below s₁ m 0 (q_28 a1 i1) [] target := by
    intro target k
    show Go p e below s₁ m 0 (q_28 a1 i1) [] _
    refine XS.aloadN X0.here hx rfl (hb hby d16_0) rfl rfl ?_
    refine st1 _ ?_
    show Go p e below T1 m 4 (q_28 a1 i1) [(.ref bA)] _
    refine X1.arraylength hx (by rw [e1]; exact Ar2.1) (State.isArrayOf_alike hZ.alike Ar2.2.1) (g := (mkF m 4 (q_28 a1 i1) [(.ref bA)])) rfl rfl (hb hby d16_4) _ ?_
    rw [len_of Sz2 Nn2]
    show Go p e below T1 m 5 (q_28 a1 i1) [(.int (Int32.ofNat LB))] _
    refine XS.istoreN X1.here hx rfl (hb hby d16_5) rfl (l' := (q_31 a1 i1 LB)) rfl ?_
    refine XS.iloadN X1.here hx rfl (hb hby d16_6) rfl ?_
    refine XS.aloadN X1.here hx rfl (hb hby d16_7) rfl rfl ?_
    refine st3 _ ?_
    show Go p e below T3 m 11 (q_31 a1 i1 LB) [(.int (0 : Int32)), (.int (Int32.ofNat i1))] _
    refine XS.ishl X3.here hx rfl (hb hby d16_11) rfl ?_
    show Go p e below T3 m 12 (q_31 a1 i1 LB) [(.int ((Int32.ofNat i1) <<< ((0 : Int32) &&& 31)))] _
    rw [show ((Int32.ofNat i1) <<< ((0 : Int32) &&& 31)) = (Int32.ofNat i1) from own_shl0 _]
    show Go p e below T3 m 12 (q_31 a1 i1 LB) [(.int (Int32.ofNat i1))] _
    refine XS.istoreN X3.here hx rfl (hb hby d16_12) rfl (l' := (q_82 a1 i1 LB)) rfl ?_
    refine XS.iloadN X3.here hx rfl (hb hby d16_13) rfl ?_
    refine XS.iloadN X3.here hx rfl (hb hby d16_14) rfl ?_
    refine XS.isub X3.here hx rfl (hb hby d16_15) rfl ?_
    show Go p e below T3 m 16 (q_82 a1 i1 LB) [(.int ((Int32.ofNat i1) - (Int32.ofNat LB)))] _
    rw [show ((Int32.ofNat i1) - (Int32.ofNat LB)) = (Int32.ofNat (i1 - LB)) from own_sub (a := i1) (b := LB) (by omega)]
    show Go p e below T3 m 16 (q_82 a1 i1 LB) [(.int (Int32.ofNat (i1 - LB)))] _
    refine XS.istore X3.here hx rfl (hb hby d16_16) rfl (l' := (q_43 a1 i1 LB)) rfl ?_
    refine XS.iloadN X3.here hx rfl (hb hby d16_18) rfl ?_
    refine XS.iload X3.here hx rfl (hb hby d16_19) rfl ?_
    refine XS.iloadN X3.here hx rfl (hb hby d16_21) rfl ?_
    refine XS.iconst X3.here hx rfl (hb hby d16_22) ?_
    refine XS.aloadN X3.here hx rfl (hb hby d16_23) rfl rfl ?_
    refine st4 _ ?_
    show Go p e below T4 m 27 (q_43 a1 i1 LB) [(.int (0 : Int32)), (.int (2 : Int32)), (.int (Int32.ofNat LB)), (.int (Int32.ofNat (i1 - LB))), (.int (Int32.ofNat LB))] _
    refine XS.ishl X4.here hx rfl (hb hby d16_27) rfl ?_
    show Go p e below T4 m 28 (q_43 a1 i1 LB) [(.int (2 : Int32)), (.int (Int32.ofNat LB)), (.int (Int32.ofNat (i1 - LB))), (.int (Int32.ofNat LB))] _
    refine XS.iadd X4.here hx rfl (hb hby d16_28) rfl ?_
    show Go p e below T4 m 29 (q_43 a1 i1 LB) [(.int ((Int32.ofNat LB) + (2 : Int32))), (.int (Int32.ofNat (i1 - LB))), (.int (Int32.ofNat LB))] _
    rw [show ((Int32.ofNat LB) + (2 : Int32)) = (Int32.ofNat (LB + 2)) from own_add LB 2]
    refine st5 _ ?_
    show Go p e below T5 m 32 (q_43 a1 i1 LB) [(.int (Int32.ofNat (LB + max (i1 - LB) (LB + 2))))] _
    refine XS.istore X5.here hx rfl (hb hby d16_32) rfl (l' := (q_40 a1 i1 LB)) rfl ?_
    refine XS.iload X5.here hx rfl (hb hby d16_34) rfl ?_
    show Go p e below T5 m 36 (q_40 a1 i1 LB) [(.int (Int32.ofNat (LB + max (i1 - LB) (LB + 2))))] _
    refine X5.ldcInt hx hown (mvT hZ (tw hw 119 rfl)) (g := (mkF m 36 (q_40 a1 i1 LB) [(.int (Int32.ofNat (LB + max (i1 - LB) (LB + 2))))])) rfl (hb hby d16_36) _ ?_
    exact k
  obtain ⟨T7, X7, e7, st7⟩ := getF X5 hx hZ hown (host := "") (Or.inl (tw hw 63 rfl)) Via.refl e5 Fc (g := (mkF m 54 (q_40 a1 i1 LB) [(.ref a1), (.int (Int32.ofNat (LB + max (i1 - LB) (LB + 2))))])) rfl rfl (hb hby d16_54)
  obtain ⟨fs, hr, hrun, hended, hW, hsame⟩ := X7.leave (v := some (.int (Int32.ofNat (LB + max (i1 - LB) (LB + 2))))) (fun h => by rw [Bd.returns] at h; cases h)
  refine ⟨_, _, castTop (ef_rb_nc0 m a1 (Int32.ofNat i1)) ?_, hrun, hended, _, _, rfl, ?_, ⟨_, rfl⟩, hW, hsame.mono (by decide) (by decide)⟩
  · refine pf6 _ ?_
    show Go p e below T5 m 38 (q_40 a1 i1 LB) [(.int (2147483647 : Int32)), (.int (Int32.ofNat (LB + max (i1 - LB) (LB + 2))))] _
    refine XS.icmpYes X5.here hx rfl (pc0 := 38) (pc' := 51) rfl (hb hby d16_38) rfl (feq (fun q => absurd ((own_eq (a := LB + max (i1 - LB) (LB + 2)) (b := 2147483647) (by omega) (by omega)).mp q) (by omega))).2 (by decide) (by decide) ?_
    refine XS.iload X5.here hx rfl (hb hby d16_51) rfl ?_
    refine XS.aloadN X5.here hx rfl (hb hby d16_53) rfl rfl ?_
    refine st7 _ ?_
    show Go p e below T7 m 57 (q_40 a1 i1 LB) [(.int (0 : Int32)), (.int (Int32.ofNat (LB + max (i1 - LB) (LB + 2))))] _
    refine XS.ishr X7.here hx rfl (hb hby d16_57) rfl ?_
    show Go p e below T7 m 58 (q_40 a1 i1 LB) [(.int ((Int32.ofNat (LB + max (i1 - LB) (LB + 2))) >>> ((0 : Int32) &&& 31)))] _
    rw [show ((Int32.ofNat (LB + max (i1 - LB) (LB + 2))) >>> ((0 : Int32) &&& 31)) = (Int32.ofNat (LB + max (i1 - LB) (LB + 2))) from own_shr0 _]
    show Go p e below T7 m 58 (q_40 a1 i1 LB) [(.int (Int32.ofNat (LB + max (i1 - LB) (LB + 2))))] _
    exact retI X7 hx Bd.returns (hb hby d16_58) hr
  · show Qpure (some (.int (Int32.ofNat (LB + max (i1 - LB) (LB + 2))))) h0 n0 _ T7.heap _
    rw [e7]
    exact ⟨rfl, N5, rfl⟩
theorem d27_17 : Dc cb36 17 (.iconst 0) 1 := by decide +kernel
theorem ef_rb_il1 (m : MethodId) (x0 : Addr) : entryFrame m #[(.ref x0)] 1 = mkF m 0 #[.val (.ref x0)] [] := by first | (simp [entryFrame, mkF, argsToLocals, Value.category]; done) | rfl
set_option maxRecDepth 65536 in
set_option maxHeartbeats 40000000 in
theorem rb_il1 (l : Launch) (Z : State) (a0 : Array Value) (hw : Hw a0 Z) (ws : List Jvm.Cond) (G1 : Int32) (Fm : Value) (a1 : Addr) (bA : Addr) (kA : ClassId) (LB : Nat) (nn : Nat) (cs : List UInt16) (h0 : Heap) (n0 : Nat) (O0 : Old Z n0 h0) (ST : Stc Z G1 Fm) (HB : Sb1 Z h0 a1 bA kA LB nn cs) (hnn : nn ≤ 120) :
    Met l Z h0 ws Y_4 jdk_68_method_68_code 1 (some .boolean) R_0 #[(.ref a1)] (Qpure (some (.int (0 : Int32))) h0 n0) := by
  refine MetFree.of_bodySF (plainFor_of_name pn6) hisR ?_
  intro p e s m args below meth c s₁ Bd hml0 hP hK
  obtain ⟨rfl, hZ, hh⟩ := hP
  have hx := Bd.exec
  have hby := Bd.bytes
  have hml : c.maxLocals = 1 := hml0
  have hown : s.vm.findClass "java/lang/AbstractStringBuilder" = some m.cls := findClass_of_methodNamed Bd.named
  have hnm := (name_of_methodNamed Bd.named Bd.method).1
  have X0 : Stand p l e R_0 s m #[(.ref a1)] below meth c s₁ [] 0 0 := Stand.of_body Bd
  have e0 : s₁.heap = h0 := by rw [← hh, Bd.state]; rfl
  have N0 := Fr.nil n0
  obtain ⟨S_cs, hG, S_fm, hF, S_ad, S_hi, S_lo⟩ := id ST
  obtain ⟨Es, Fv, Fc, Fn, Fy, Eb, hL, tl, Bs⟩ := id HB
  have Vs := Bs.1
  have ls := Bs.2
  have hNs : (Int32.ofNat LB).toNatClampNeg = (enc1 cs ++ tl).length := by rw [ls]; exact own_n (by omega)
  have lq : 2 * cs.length + tl.length = LB := by rw [← ls]; simp only [List.length_append, List.length_map, enc1_len]
  have lt_a1 := Es.lt
  have lt_bA := Vs.lt
  have n_ab : a1 ≠ bA := Exa.neArv Es Vs (tw hw 48 rfl)
  obtain ⟨T1, X1, e1, st1⟩ := getS2 X0 hx hZ hown (host := "") (Or.inl (tw hw 60 rfl)) Via.refl e0 (S_cs.ext O0.2) (g := (mkF m 0 (q_1 a1) [])) rfl (hb hby d27_0)
  obtain ⟨T2, X2, e2, st2⟩ := getF X1 hx hZ hown (host := "") (Or.inl (tw hw 63 rfl)) Via.refl e1 Fc (g := (mkF m 7 (q_1 a1) [(.ref a1)])) rfl rfl (hb hby d27_7)
  obtain ⟨fs, hr, hrun, hended, hW, hsame⟩ := X2.leave (v := some (.int (0 : Int32))) (fun h => by rw [Bd.returns] at h; cases h)
  refine ⟨_, _, castTop (ef_rb_il1 m a1) ?_, hrun, hended, _, _, rfl, ?_, ⟨_, rfl⟩, hW, hsame.mono (by decide) (by decide)⟩
  · refine st1 _ ?_
    show Go p e below T1 m 3 (q_1 a1) [(.int G1)] _
    refine XS.ifNo X1.here hx rfl (hb hby d27_3) rfl ((if0 _ _).trans (feq hG).1) ?_
    refine XS.aloadN X1.here hx rfl (hb hby d27_6) rfl rfl ?_
    refine st2 _ ?_
    show Go p e below T2 m 10 (q_1 a1) [(.int (1 : Int32))] _
    refine XS.ifYes X2.here hx rfl (pc0 := 10) (pc' := 17) rfl (hb hby d27_10) rfl ((if0 _ _).trans (feq (by decide)).2) (by decide) (by decide) ?_
    refine XS.iconst X2.here hx rfl (hb hby d27_17) ?_
    show Go p e below T2 m 18 (q_1 a1) [(.int (0 : Int32))] _
    exact retN X2 hx (t := .boolean) Bd.returns (by simp) (hb hby d27_18) hr
  · show Qpure (some (.int (0 : Int32))) h0 n0 _ T2.heap _
    rw [e2]
    exact ⟨rfl, N0, rfl⟩
theorem ef_rb_gv1 (m : MethodId) (x0 : Addr) : entryFrame m #[(.ref x0)] 1 = mkF m 0 #[.val (.ref x0)] [] := by first | (simp [entryFrame, mkF, argsToLocals, Value.category]; done) | rfl
set_option maxRecDepth 65536 in
set_option maxHeartbeats 40000000 in
theorem rb_gv1 (l : Launch) (Z : State) (a0 : Array Value) (hw : Hw a0 Z) (ws : List Jvm.Cond) (G1 : Int32) (Fm : Value) (a1 : Addr) (bA : Addr) (kA : ClassId) (LB : Nat) (nn : Nat) (cs : List UInt16) (h0 : Heap) (n0 : Nat) (O0 : Old Z n0 h0) (ST : Stc Z G1 Fm) (HB : Sb1 Z h0 a1 bA kA LB nn cs) (hnn : nn ≤ 120) :
    Met l Z h0 ws Y_14 jdk_68_method_64_code 1 (some (.array .byte)) R_0 #[(.ref a1)] (Qpure (some (.ref bA)) h0 n0) := by
  refine MetFree.of_bodySF (plainFor_of_name pn6) hisR ?_
  intro p e s m args below meth c s₁ Bd hml0 hP hK
  obtain ⟨rfl, hZ, hh⟩ := hP
  have hx := Bd.exec
  have hby := Bd.bytes
  have hml : c.maxLocals = 1 := hml0
  have hown : s.vm.findClass "java/lang/AbstractStringBuilder" = some m.cls := findClass_of_methodNamed Bd.named
  have hnm := (name_of_methodNamed Bd.named Bd.method).1
  have X0 : Stand p l e R_0 s m #[(.ref a1)] below meth c s₁ [] 0 0 := Stand.of_body Bd
  have e0 : s₁.heap = h0 := by rw [← hh, Bd.state]; rfl
  have N0 := Fr.nil n0
  obtain ⟨S_cs, hG, S_fm, hF, S_ad, S_hi, S_lo⟩ := id ST
  obtain ⟨Es, Fv, Fc, Fn, Fy, Eb, hL, tl, Bs⟩ := id HB
  have Vs := Bs.1
  have ls := Bs.2
  have hNs : (Int32.ofNat LB).toNatClampNeg = (enc1 cs ++ tl).length := by rw [ls]; exact own_n (by omega)
  have lq : 2 * cs.length + tl.length = LB := by rw [← ls]; simp only [List.length_append, List.length_map, enc1_len]
  have lt_a1 := Es.lt
  have lt_bA := Vs.lt
  have n_ab : a1 ≠ bA := Exa.neArv Es Vs (tw hw 48 rfl)
  obtain ⟨T1, X1, e1, st1⟩ := getF X0 hx hZ hown (host := "") (Or.inl (tw hw 61 rfl)) Via.refl e0 Fv (g := (mkF m 1 (q_1 a1) [(.ref a1)])) rfl rfl (hb hby d24_1)
  obtain ⟨fs, hr, hrun, hended, hW, hsame⟩ := X1.leave (v := some (.ref bA)) (fun h => by rw [Bd.returns] at h; cases h)
  refine ⟨_, _, castTop (ef_rb_gv1 m a1) ?_, hrun, hended, _, _, rfl, ?_, ⟨_, rfl⟩, hW, hsame.mono (by decide) (by decide)⟩
  · show Go p e below s₁ m 0 (q_1 a1) [] _
    refine XS.aloadN X0.here hx rfl (hb hby d24_0) rfl rfl ?_
    refine st1 _ ?_
    show Go p e below T1 m 4 (q_1 a1) [(.ref bA)] _
    exact retOut X1 hx Bd.returns rfl (Or.inr (Or.inr (Or.inr (Or.inr ⟨rfl, rfl, rfl⟩)))) (hb hby d24_4) hr
  · show Qpure (some (.ref bA)) h0 n0 _ T1.heap _
    rw [e1]
    exact ⟨rfl, N0, rfl⟩
theorem ef_rb_al1 (m : MethodId) (x0 : Addr) : entryFrame m #[(.ref x0)] 1 = mkF m 0 #[.val (.ref x0)] [] := by first | (simp [entryFrame, mkF, argsToLocals, Value.category]; done) | rfl
set_option maxRecDepth 65536 in
set_option maxHeartbeats 40000000 in
theorem rb_al1 (l : Launch) (Z : State) (a0 : Array Value) (hw : Hw a0 Z) (ws : List Jvm.Cond) (G1 : Int32) (Fm : Value) (a1 : Addr) (bA : Addr) (kA : ClassId) (LB : Nat) (nn : Nat) (cs : List UInt16) (h0 : Heap) (n0 : Nat) (O0 : Old Z n0 h0) (ST : Stc Z G1 Fm) (HB : Sb1 Z h0 a1 bA kA LB nn cs) (hnn : nn ≤ 120) :
    Met l Z h0 ws Y_15 jdk_68_method_6_code 1 (some .int) R_0 #[(.ref a1)] (Qpure (some (.int (Int32.ofNat nn))) h0 n0) := by
  refine MetFree.of_bodySF (plainFor_of_name pn6) hisR ?_
  intro p e s m args below meth c s₁ Bd hml0 hP hK
  obtain ⟨rfl, hZ, hh⟩ := hP
  have hx := Bd.exec
  have hby := Bd.bytes
  have hml : c.maxLocals = 1 := hml0
  have hown : s.vm.findClass "java/lang/AbstractStringBuilder" = some m.cls := findClass_of_methodNamed Bd.named
  have hnm := (name_of_methodNamed Bd.named Bd.method).1
  have X0 : Stand p l e R_0 s m #[(.ref a1)] below meth c s₁ [] 0 0 := Stand.of_body Bd
  have e0 : s₁.heap = h0 := by rw [← hh, Bd.state]; rfl
  have N0 := Fr.nil n0
  obtain ⟨S_cs, hG, S_fm, hF, S_ad, S_hi, S_lo⟩ := id ST
  obtain ⟨Es, Fv, Fc, Fn, Fy, Eb, hL, tl, Bs⟩ := id HB
  have Vs := Bs.1
  have ls := Bs.2
  have hNs : (Int32.ofNat LB).toNatClampNeg = (enc1 cs ++ tl).length := by rw [ls]; exact own_n (by omega)
  have lq : 2 * cs.length + tl.length = LB := by rw [← ls]; simp only [List.length_append, List.length_map, enc1_len]
  have lt_a1 := Es.lt
  have lt_bA := Vs.lt
  have n_ab : a1 ≠ bA := Exa.neArv Es Vs (tw hw 48 rfl)
  obtain ⟨T1, X1, e1, st1⟩ := getF X0 hx hZ hown (host := "") (Or.inl (tw hw 77 rfl)) Via.refl e0 Fn (g := (mkF m 1 (q_1 a1) [(.ref a1)])) rfl rfl (hb hby d26_1)
  obtain ⟨fs, hr, hrun, hended, hW, hsame⟩ := X1.leave (v := some (.int (Int32.ofNat nn))) (fun h => by rw [Bd.returns] at h; cases h)
  refine ⟨_, _, castTop (ef_rb_al1 m a1) ?_, hrun, hended, _, _, rfl, ?_, ⟨_, rfl⟩, hW, hsame.mono (by decide) (by decide)⟩
  · show Go p e below s₁ m 0 (q_1 a1) [] _
    refine XS.aloadN X0.here hx rfl (hb hby d26_0) rfl rfl ?_
    refine st1 _ ?_
    show Go p e below T1 m 4 (q_1 a1) [(.int (Int32.ofNat nn))] _
    exact retI X1 hx Bd.returns (hb hby d26_4) hr
  · show Qpure (some (.int (Int32.ofNat nn))) h0 n0 _ T1.heap _
    rw [e1]
    exact ⟨rfl, N0, rfl⟩
theorem ef_rb_len1 (m : MethodId) (x0 : Addr) : entryFrame m #[(.ref x0)] 1 = mkF m 0 #[.val (.ref x0)] [] := by first | (simp [entryFrame, mkF, argsToLocals, Value.category]; done) | rfl
set_option maxRecDepth 65536 in
set_option maxHeartbeats 40000000 in
theorem rb_len1 (l : Launch) (Z : State) (a0 : Array Value) (hw : Hw a0 Z) (ws : List Jvm.Cond) (G1 : Int32) (Fm : Value) (a1 : Addr) (bA : Addr) (kA : ClassId) (LB : Nat) (nn : Nat) (cs : List UInt16) (h0 : Heap) (n0 : Nat) (O0 : Old Z n0 h0) (ST : Stc Z G1 Fm) (HB : Sb1 Z h0 a1 bA kA LB nn cs) (hnn : nn ≤ 120) :
    Met l Z h0 ws Y_26 jdk_67_method_93_code 1 (some .int) R_2 #[(.ref a1)] (Qpure (some (.int (Int32.ofNat nn))) h0 n0) := by
  refine MetFree.of_bodySF (plainFor_of_name pn7) hisR ?_
  intro p e s m args below meth c s₁ Bd hml0 hP hK
  obtain ⟨rfl, hZ, hh⟩ := hP
  have hx := Bd.exec
  have hby := Bd.bytes
  have hml : c.maxLocals = 1 := hml0
  have hown : s.vm.findClass "java/lang/StringBuilder" = some m.cls := findClass_of_methodNamed Bd.named
  have hnm := (name_of_methodNamed Bd.named Bd.method).1
  have X0 : Stand p l e R_2 s m #[(.ref a1)] below meth c s₁ [] 0 0 := Stand.of_body Bd
  have e0 : s₁.heap = h0 := by rw [← hh, Bd.state]; rfl
  have N0 := Fr.nil n0
  obtain ⟨S_cs, hG, S_fm, hF, S_ad, S_hi, S_lo⟩ := id ST
  obtain ⟨Es, Fv, Fc, Fn, Fy, Eb, hL, tl, Bs⟩ := id HB
  have Vs := Bs.1
  have ls := Bs.2
  have hNs : (Int32.ofNat LB).toNatClampNeg = (enc1 cs ++ tl).length := by rw [ls]; exact own_n (by omega)
  have lq : 2 * cs.length + tl.length = LB := by rw [← ls]; simp only [List.length_append, List.length_map, enc1_len]
  have lt_a1 := Es.lt
  have lt_bA := Vs.lt
  have n_ab : a1 ≠ bA := Exa.neArv Es Vs (tw hw 48 rfl)
  obtain ⟨_, _, ⟨T1, L1, k1, n1⟩, -, X1, ⟨Lc1, hQ1, l1, y1, z1⟩, st1⟩ := Jvm.RoadKit.superBack X0 hx hZ (y := Y_15) (K := "java/lang/AbstractStringBuilder") hown (tw hw 152 rfl) (own_same (C := "java/lang/StringBuilder") (tw hw 147 rfl) (tw hw 157 rfl)) (tw hw 148 rfl) (tw hw 73 rfl) (by decide) (backOf (W := 0) (rb_al1 l Z a0 hw [] G1 Fm a1 bA kA LB nn cs h0 n0 O0 ST HB hnn) hZ (tw hw 153 rfl) (tw hw 57 rfl) (by decide) (by decide)) e0 (Ins.of_exa Es (tw hw 56 rfl)) (g := (mkF m 1 (q_1 a1) [(.ref a1)])) rfl (by rw [hml]; rfl) (tw hw 153 rfl) (argsL := []) (rest := []) (lenOf pd23 rfl) rfl (by show 2 * 0 + _ ≤ _; exact Nat.le_of_eq rfl) (hb hby d25_1) (fun _ _ => ⟨rfl, e0, (by decide : 0 + 0 ≤ _), (by decide : 0 + 0 ≤ _)⟩)
  dsimp only [Pt.U, Pt.locs, Pt.cells, Pt.slots] at X1 l1 y1 z1 st1 hQ1
  subst l1 y1 z1
  obtain ⟨rfl, Nq1, e1⟩ := hQ1
  have N1 := Fr.app N0 Nq1
  obtain ⟨fs, hr, hrun, hended, hW, hsame⟩ := X1.leave (v := some (.int (Int32.ofNat nn))) (fun h => by rw [Bd.returns] at h; cases h)
  refine ⟨_, _, castTop (ef_rb_len1 m a1) ?_, hrun, hended, _, _, rfl, ?_, ⟨_, rfl⟩, hW, hsame.mono (by decide) (by decide)⟩
  · show Go p e below s₁ m 0 (q_1 a1) [] _
    refine XS.aloadN X0.here hx rfl (hb hby d25_0) rfl rfl ?_
    refine st1.trans ?_
    show Go p e below T1 m 4 (q_1 a1) [(.int (Int32.ofNat nn))] _
    exact retI X1 hx Bd.returns (hb hby d25_4) hr
  · show Qpure (some (.int (Int32.ofNat nn))) h0 n0 _ T1.heap _
    rw [e1]
    exact ⟨rfl, N1, rfl⟩
theorem ef_rb_nc1 (m : MethodId) (x0 : Addr) (x1 : Int32) : entryFrame m #[(.ref x0), (.int x1)] 6 = mkF m 0 #[.val (.ref x0), .val (.int x1), .unset, .unset, .unset, .unset] [] := by first | (simp [entryFrame, mkF, argsToLocals, Value.category]; done) | rfl
set_option maxRecDepth 65536 in
set_option maxHeartbeats 40000000 in
theorem rb_nc1 (l : Launch) (Z : State) (a0 : Array Value) (hw : Hw a0 Z) (ws : List Jvm.Cond) (G1 : Int32) (Fm : Value) (a1 : Addr) (bA : Addr) (kA : ClassId) (LB : Nat) (nn : Nat) (cs : List UInt16) (i1 : Nat) (h0 : Heap) (n0 : Nat) (O0 : Old Z n0 h0) (ST : Stc Z G1 Fm) (HB : Sb1 Z h0 a1 bA kA LB nn cs) (hnn : nn ≤ 120) (hg : LB < 2 * i1) (hi : i1 ≤ 120) :
    Met l Z h0 ws Y_27 jdk_68_method_10_code 6 (some .int) R_8 #[(.ref a1), (.int (Int32.ofNat i1))] (Qpure (some (.int (Int32.ofNat ((LB + max (2 * i1 - LB) (LB + 4)) / 2)))) h0 n0) := by
  refine MetFree.of_bodySF (plainFor_of_name pn6) hisR ?_
  intro p e s m args below meth c s₁ Bd hml0 hP hK
  obtain ⟨rfl, hZ, hh⟩ := hP
  have hx := Bd.exec
  have hby := Bd.bytes
  have hml : c.maxLocals = 6 := hml0
  have hown : s.vm.findClass "java/lang/AbstractStringBuilder" = some m.cls := findClass_of_methodNamed Bd.named
  have hnm := (name_of_methodNamed Bd.named Bd.method).1
  have X0 : Stand p l e R_8 s m #[(.ref a1), (.int (Int32.ofNat i1))] below meth c s₁ [] 0 0 := Stand.of_body Bd
  have e0 : s₁.heap = h0 := by rw [← hh, Bd.state]; rfl
  have N0 := Fr.nil n0
  obtain ⟨S_cs, hG, S_fm, hF, S_ad, S_hi, S_lo⟩ := id ST
  obtain ⟨Es, Fv, Fc, Fn, Fy, Eb, hL, tl, Bs⟩ := id HB
  have Vs := Bs.1
  have ls := Bs.2
  have hNs : (Int32.ofNat LB).toNatClampNeg = (enc1 cs ++ tl).length := by rw [ls]; exact own_n (by omega)
  have lq : 2 * cs.length + tl.length = LB := by rw [← ls]; simp only [List.length_append, List.length_map, enc1_len]
  have lt_a1 := Es.lt
  have lt_bA := Vs.lt
  have n_ab : a1 ≠ bA := Exa.neArv Es Vs (tw hw 48 rfl)
  obtain ⟨T1, X1, e1, st1⟩ := getF X0 hx hZ hown (host := "") (Or.inl (tw hw 61 rfl)) Via.refl e0 Fv (g := (mkF m 1 (q_28 a1 i1) [(.ref a1)])) rfl rfl (hb hby d16_1)
  obtain ⟨cl2, Ar2, q2, Sz2, Nn2, Ha2, Gf2⟩ := id Vs
  obtain ⟨T3, X3, e3, st3⟩ := getF X1 hx hZ hown (host := "") (Or.inl (tw hw 63 rfl)) Via.refl e1 Fc (g := (mkF m 8 (q_31 a1 i1 LB) [(.ref a1), (.int (Int32.ofNat i1))])) rfl rfl (hb hby d16_8)
  obtain ⟨T4, X4, e4, st4⟩ := getF X3 hx hZ hown (host := "") (Or.inl (tw hw 63 rfl)) Via.refl e3 Fc (g := (mkF m 24 (q_44 a1 i1 LB) [(.ref a1), (.int (2 : Int32)), (.int (Int32.ofNat LB)), (.int (Int32.ofNat (2 * i1 - LB))), (.int (Int32.ofNat LB))])) rfl rfl (hb hby d16_24)
  obtain ⟨_, T5, Lc5, X5, hQ5, st5⟩ := own_sc X4 hx hZ (y := Y_37) hown (tw hw 110 rfl) (tw hw 111 rfl) (by decide) (rv_nl l Z a0 hw [] G1 Fm LB (2 * i1 - LB) (LB + 4) h0 n0 O0 ST (by omega) (by omega) (by omega) (by omega)) (tw hw 113 rfl) (tw hw 112 rfl) e4 (W := 0) (by decide) (by decide) (Ls := (q_44 a1 i1 LB)) (by rw [hml]; rfl) (argsL := [(.int (Int32.ofNat LB)), (.int (Int32.ofNat (2 * i1 - LB))), (.int (Int32.ofNat (LB + 4)))]) (rest := []) (lenOf pd13 rfl) (Nat.le_of_eq rfl) (hb hby d16_29) rfl (by decide) (by decide)
  obtain ⟨rfl, Nq5, e5⟩ := hQ5
  have N5 := Fr.app N0 Nq5
  have pf6 : ∀ target, Go p e below T5 m 38 (q_41 a1 i1 LB) [(.int (2147483647 : Int32)), (.int (Int32.ofNat (LB + max (2 * i1 - LB) (LB + 4))))] target → Go p e below s₁ m 0 (q_28 a1 i1) [] target := by
    intro target k
    show Go p e below s₁ m 0 (q_28 a1 i1) [] _
    refine XS.aloadN X0.here hx rfl (hb hby d16_0) rfl rfl ?_
    refine st1 _ ?_
    show Go p e below T1 m 4 (q_28 a1 i1) [(.ref bA)] _
    refine X1.arraylength hx (by rw [e1]; exact Ar2.1) (State.isArrayOf_alike hZ.alike Ar2.2.1) (g := (mkF m 4 (q_28 a1 i1) [(.ref bA)])) rfl rfl (hb hby d16_4) _ ?_
    rw [len_of Sz2 Nn2]
    show Go p e below T1 m 5 (q_28 a1 i1) [(.int (Int32.ofNat LB))] _
    refine XS.istoreN X1.here hx rfl (hb hby d16_5) rfl (l' := (q_31 a1 i1 LB)) rfl ?_
    refine XS.iloadN X1.here hx rfl (hb hby d16_6) rfl ?_
    refine XS.aloadN X1.here hx rfl (hb hby d16_7) rfl rfl ?_
    refine st3 _ ?_
    show Go p e below T3 m 11 (q_31 a1 i1 LB) [(.int (1 : Int32)), (.int (Int32.ofNat i1))] _
    refine XS.ishl X3.here hx rfl (hb hby d16_11) rfl ?_
    show Go p e below T3 m 12 (q_31 a1 i1 LB) [(.int ((Int32.ofNat i1) <<< ((1 : Int32) &&& 31)))] _
    rw [show ((Int32.ofNat i1) <<< ((1 : Int32) &&& 31)) = (Int32.ofNat (2 * i1)) from own_shl1 i1]
    show Go p e below T3 m 12 (q_31 a1 i1 LB) [(.int (Int32.ofNat (2 * i1)))] _
    refine XS.istoreN X3.here hx rfl (hb hby d16_12) rfl (l' := (q_83 a1 i1 LB)) rfl ?_
    refine XS.iloadN X3.here hx rfl (hb hby d16_13) rfl ?_
    refine XS.iloadN X3.here hx rfl (hb hby d16_14) rfl ?_
    refine XS.isub X3.here hx rfl (hb hby d16_15) rfl ?_
    show Go p e below T3 m 16 (q_83 a1 i1 LB) [(.int ((Int32.ofNat (2 * i1)) - (Int32.ofNat LB)))] _
    rw [show ((Int32.ofNat (2 * i1)) - (Int32.ofNat LB)) = (Int32.ofNat (2 * i1 - LB)) from own_sub (a := 2 * i1) (b := LB) (by omega)]
    show Go p e below T3 m 16 (q_83 a1 i1 LB) [(.int (Int32.ofNat (2 * i1 - LB)))] _
    refine XS.istore X3.here hx rfl (hb hby d16_16) rfl (l' := (q_44 a1 i1 LB)) rfl ?_
    refine XS.iloadN X3.here hx rfl (hb hby d16_18) rfl ?_
    refine XS.iload X3.here hx rfl (hb hby d16_19) rfl ?_
    refine XS.iloadN X3.here hx rfl (hb hby d16_21) rfl ?_
    refine XS.iconst X3.here hx rfl (hb hby d16_22) ?_
    refine XS.aloadN X3.here hx rfl (hb hby d16_23) rfl rfl ?_
    refine st4 _ ?_
    show Go p e below T4 m 27 (q_44 a1 i1 LB) [(.int (1 : Int32)), (.int (2 : Int32)), (.int (Int32.ofNat LB)), (.int (Int32.ofNat (2 * i1 - LB))), (.int (Int32.ofNat LB))] _
    refine XS.ishl X4.here hx rfl (hb hby d16_27) rfl ?_
    show Go p e below T4 m 28 (q_44 a1 i1 LB) [(.int (4 : Int32)), (.int (Int32.ofNat LB)), (.int (Int32.ofNat (2 * i1 - LB))), (.int (Int32.ofNat LB))] _
    refine XS.iadd X4.here hx rfl (hb hby d16_28) rfl ?_
    show Go p e below T4 m 29 (q_44 a1 i1 LB) [(.int ((Int32.ofNat LB) + (4 : Int32))), (.int (Int32.ofNat (2 * i1 - LB))), (.int (Int32.ofNat LB))] _
    rw [show ((Int32.ofNat LB) + (4 : Int32)) = (Int32.ofNat (LB + 4)) from own_add LB 4]
    refine st5 _ ?_
    show Go p e below T5 m 32 (q_44 a1 i1 LB) [(.int (Int32.ofNat (LB + max (2 * i1 - LB) (LB + 4))))] _
    refine XS.istore X5.here hx rfl (hb hby d16_32) rfl (l' := (q_41 a1 i1 LB)) rfl ?_
    refine XS.iload X5.here hx rfl (hb hby d16_34) rfl ?_
    show Go p e below T5 m 36 (q_41 a1 i1 LB) [(.int (Int32.ofNat (LB + max (2 * i1 - LB) (LB + 4))))] _
    refine X5.ldcInt hx hown (mvT hZ (tw hw 119 rfl)) (g := (mkF m 36 (q_41 a1 i1 LB) [(.int (Int32.ofNat (LB + max (2 * i1 - LB) (LB + 4))))])) rfl (hb hby d16_36) _ ?_
    exact k
  obtain ⟨T7, X7, e7, st7⟩ := getF X5 hx hZ hown (host := "") (Or.inl (tw hw 63 rfl)) Via.refl e5 Fc (g := (mkF m 54 (q_41 a1 i1 LB) [(.ref a1), (.int (Int32.ofNat (LB + max (2 * i1 - LB) (LB + 4))))])) rfl rfl (hb hby d16_54)
  obtain ⟨fs, hr, hrun, hended, hW, hsame⟩ := X7.leave (v := some (.int (Int32.ofNat ((LB + max (2 * i1 - LB) (LB + 4)) / 2)))) (fun h => by rw [Bd.returns] at h; cases h)
  refine ⟨_, _, castTop (ef_rb_nc1 m a1 (Int32.ofNat i1)) ?_, hrun, hended, _, _, rfl, ?_, ⟨_, rfl⟩, hW, hsame.mono (by decide) (by decide)⟩
  · refine pf6 _ ?_
    show Go p e below T5 m 38 (q_41 a1 i1 LB) [(.int (2147483647 : Int32)), (.int (Int32.ofNat (LB + max (2 * i1 - LB) (LB + 4))))] _
    refine XS.icmpYes X5.here hx rfl (pc0 := 38) (pc' := 51) rfl (hb hby d16_38) rfl (feq (fun q => absurd ((own_eq (a := LB + max (2 * i1 - LB) (LB + 4)) (b := 2147483647) (by omega) (by omega)).mp q) (by omega))).2 (by decide) (by decide) ?_
    refine XS.iload X5.here hx rfl (hb hby d16_51) rfl ?_
    refine XS.aloadN X5.here hx rfl (hb hby d16_53) rfl rfl ?_
    refine st7 _ ?_
    show Go p e below T7 m 57 (q_41 a1 i1 LB) [(.int (1 : Int32)), (.int (Int32.ofNat (LB + max (2 * i1 - LB) (LB + 4))))] _
    refine XS.ishr X7.here hx rfl (hb hby d16_57) rfl ?_
    show Go p e below T7 m 58 (q_41 a1 i1 LB) [(.int ((Int32.ofNat (LB + max (2 * i1 - LB) (LB + 4))) >>> ((1 : Int32) &&& 31)))] _
    rw [show ((Int32.ofNat (LB + max (2 * i1 - LB) (LB + 4))) >>> ((1 : Int32) &&& 31)) = (Int32.ofNat ((LB + max (2 * i1 - LB) (LB + 4)) / 2)) from own_shr1 (n := LB + max (2 * i1 - LB) (LB + 4)) (by omega)]
    show Go p e below T7 m 58 (q_41 a1 i1 LB) [(.int (Int32.ofNat ((LB + max (2 * i1 - LB) (LB + 4)) / 2)))] _
    exact retI X7 hx Bd.returns (hb hby d16_58) hr
  · show Qpure (some (.int (Int32.ofNat ((LB + max (2 * i1 - LB) (LB + 4)) / 2)))) h0 n0 _ T7.heap _
    rw [e7]
    exact ⟨rfl, N5, rfl⟩
def Sbx (Z : State) (h : Heap) (a b : Addr) (k : ClassId) (LB n : Nat) (cs : List UInt16) : Prop := Sb0 Z h a b k LB n cs ∨ Sb1 Z h a b k LB n cs
theorem own_srcA {cs : List UInt16} {tl : List Int32} : ∀ j, j < cs.length → (cs.map cLo ++ tl).getD j 0 = cLo (cs.getD j 0) := fun j hj => by simp [List.getD_eq_getElem?_getD, List.getElem?_append, hj]
theorem own_srcB {cs : List UInt16} : ∀ j, j < cs.length → (cs.map cLo).getD j 0 = cLo (cs.getD j 0) := fun j hj => own_lod hj
theorem own_pz {ds : List Int32} {d : Nat} (cs : List UInt16) : puts ds (d + 0) (cs.drop 0) = puts ds d cs := rfl
theorem own_w0 {cs ds : List UInt16} {tl : List Int32} : (cs.map cLo ++ tl).take cs.length ++ ds.map cLo ++ (cs.map cLo ++ tl).drop (cs.length + ds.length) = (cs ++ ds).map cLo ++ tl.drop ds.length := by
  have := own_ov (cs.map cLo) (ds.map cLo) tl
  simpa using this
theorem own_w1 {cs ds : List UInt16} {tl : List Int32} : (enc1 cs ++ tl).take (2 * cs.length) ++ enc1 ds ++ (enc1 cs ++ tl).drop (2 * cs.length + 2 * ds.length) = enc1 (cs ++ ds) ++ tl.drop (2 * ds.length) := by
  have := own_ov (enc1 cs) (enc1 ds) tl
  rw [enc1_len, enc1_len] at this
  rw [this, enc1_app]
theorem own_w2 {cs ds : List UInt16} {tl : List Int32} (h : 2 * ds.length ≤ tl.length) : puts (enc1 cs ++ tl) cs.length ds = enc1 (cs ++ ds) ++ tl.drop (2 * ds.length) := by
  rw [puts_eq _ _ _ (by rw [List.length_append, enc1_len]; omega), Nat.mul_add, own_w1]
theorem own_mem {x b : Addr} {a : Addr} {p : Prop} (h : x = b ∨ p) : x ∈ [a, b] ∨ p := by
  rcases h with rfl | h
  · exact Or.inl (by simp)
  · exact Or.inr h
theorem own_gor {x b n : Addr} {m : Nat} (h : x = b ∨ m ≤ x) (g : n ≤ b) (q : n ≤ m) : n ≤ x := h.elim (fun e => e ▸ g) (fun e => Nat.le_trans q e)
theorem own_nor {x b y : Addr} {m : Nat} (h : x = b ∨ m ≤ x) (g : y ≠ b) (q : y < m) : y ≠ x := h.elim (fun e => e ▸ g) (fun e => Nat.ne_of_lt (Nat.lt_of_lt_of_le q e))
theorem own_all {cs ds : List UInt16} (h : ∀ u ∈ cs, u < 256) (g : ∀ u ∈ ds, u < 256) : ∀ u ∈ cs ++ ds, u < 256 := fun u q => (List.mem_append.mp q).elim (h u) (g u)
theorem d12_0 : Dc cb41 0 (.aload_n 0) 1 := by decide +kernel
theorem d12_1 : Dc cb41 1 (.getfield 15) 3 := by decide +kernel
theorem d12_4 : Dc cb41 4 .arraylength 1 := by decide +kernel
theorem d12_5 : Dc cb41 5 (.aload_n 0) 1 := by decide +kernel
theorem d12_6 : Dc cb41 6 (.getfield 22) 3 := by decide +kernel
theorem d12_9 : Dc cb41 9 .ishr 1 := by decide +kernel
theorem d12_10 : Dc cb41 10 (.istore_n 2) 1 := by decide +kernel
theorem d12_11 : Dc cb41 11 (.iload_n 1) 1 := by decide +kernel
theorem d12_12 : Dc cb41 12 (.iload_n 2) 1 := by decide +kernel
theorem d12_13 : Dc cb41 13 .isub 1 := by decide +kernel
theorem d12_14 : Dc cb41 14 (.ifCond .le 24) 3 := by decide +kernel
theorem d12_17 : Dc cb41 17 (.aload_n 0) 1 := by decide +kernel
theorem d12_18 : Dc cb41 18 (.aload_n 0) 1 := by decide +kernel
theorem d12_19 : Dc cb41 19 (.getfield 15) 3 := by decide +kernel
theorem d12_22 : Dc cb41 22 (.aload_n 0) 1 := by decide +kernel
theorem d12_23 : Dc cb41 23 (.iload_n 1) 1 := by decide +kernel
theorem d12_24 : Dc cb41 24 (.invokevirtual 104) 3 := by decide +kernel
theorem d12_27 : Dc cb41 27 (.aload_n 0) 1 := by decide +kernel
theorem d12_28 : Dc cb41 28 (.getfield 22) 3 := by decide +kernel
theorem d12_31 : Dc cb41 31 .ishl 1 := by decide +kernel
theorem d12_32 : Dc cb41 32 (.invokestatic 108) 3 := by decide +kernel
theorem pd24 : parseMethodDescriptor "([BI)[B" = some ⟨[(.array .byte), .int], some (.array .byte)⟩ := by decide +kernel
theorem d12_35 : Dc cb41 35 (.putfield 15) 3 := by decide +kernel
theorem d12_38 : Dc cb41 38 .return_ 1 := by decide +kernel
theorem ef_rb_ec0 (m : MethodId) (x0 : Addr) (x1 : Int32) : entryFrame m #[(.ref x0), (.int x1)] 3 = mkF m 0 #[.val (.ref x0), .val (.int x1), .unset] [] := by first | (simp [entryFrame, mkF, argsToLocals, Value.category]; done) | rfl
set_option maxRecDepth 65536 in
set_option maxHeartbeats 40000000 in
theorem rb_ec0 (l : Launch) (Z : State) (a0 : Array Value) (hw : Hw a0 Z) (ws : List Jvm.Cond) (G1 : Int32) (Fm : Value) (a1 : Addr) (bA : Addr) (kA : ClassId) (LB : Nat) (cs : List UInt16) (i1 : Nat) (h0 : Heap) (n0 : Nat) (O0 : Old Z n0 h0) (ST : Stc Z G1 Fm) (HB : Sb0 Z h0 a1 bA kA LB cs.length cs) (hnn : cs.length ≤ 120) (g_a1 : n0 ≤ a1) (g_bA : n0 ≤ bA) (hi : i1 ≤ 120) :
    Met l Z h0 ws Y_16 jdk_68_method_9_code 3 none R_19 #[(.ref a1), (.int (Int32.ofNat i1))] (Qsv (fun h b k LB' => Sb0 Z h a1 b k LB' cs.length cs ∧ i1 ≤ LB') none a1 bA h0 n0) := by
  refine MetFree.of_bodySF (plainFor_of_name pn6) hisR ?_
  intro p e s m args below meth c s₁ Bd hml0 hP hK
  obtain ⟨rfl, hZ, hh⟩ := hP
  have hx := Bd.exec
  have hby := Bd.bytes
  have hml : c.maxLocals = 3 := hml0
  have hown : s.vm.findClass "java/lang/AbstractStringBuilder" = some m.cls := findClass_of_methodNamed Bd.named
  have hnm := (name_of_methodNamed Bd.named Bd.method).1
  have X0 : Stand p l e R_19 s m #[(.ref a1), (.int (Int32.ofNat i1))] below meth c s₁ [] 0 0 := Stand.of_body Bd
  have e0 : s₁.heap = h0 := by rw [← hh, Bd.state]; rfl
  have N0 := Fr.nil n0
  obtain ⟨S_cs, hG, S_fm, hF, S_ad, S_hi, S_lo⟩ := id ST
  obtain ⟨Es, Fv, Fc, Fn, Fy, Eb, hu, hL, tl, Bs⟩ := id HB
  have Vs := Bs.1
  have ls := Bs.2
  have hNs : (Int32.ofNat LB).toNatClampNeg = (cs.map cLo ++ tl).length := by rw [ls]; exact own_n (by omega)
  have lq : cs.length + tl.length = LB := by rw [← ls]; simp only [List.length_append, List.length_map, enc1_len]
  have lt_a1 := Es.lt
  have lt_bA := Vs.lt
  have n_ab : a1 ≠ bA := Exa.neArv Es Vs (tw hw 48 rfl)
  obtain ⟨T1, X1, e1, st1⟩ := getF X0 hx hZ hown (host := "") (Or.inl (tw hw 61 rfl)) Via.refl e0 Fv (g := (mkF m 1 (q_9 a1 i1) [(.ref a1)])) rfl rfl (hb hby d12_1)
  obtain ⟨cl2, Ar2, q2, Sz2, Nn2, Ha2, Gf2⟩ := id Vs
  obtain ⟨T3, X3, e3, st3⟩ := getF X1 hx hZ hown (host := "") (Or.inl (tw hw 63 rfl)) Via.refl e1 Fc (g := (mkF m 6 (q_9 a1 i1) [(.ref a1), (.int (Int32.ofNat LB))])) rfl rfl (hb hby d12_6)
  have pf4 : ∀ target, Go p e below T3 m 14 (q_17 a1 i1 LB) [(.int ((Int32.ofNat i1) - (Int32.ofNat LB)))] target → Go p e below s₁ m 0 (q_9 a1 i1) [] target := by
    intro target k
    show Go p e below s₁ m 0 (q_9 a1 i1) [] _
    refine XS.aloadN X0.here hx rfl (hb hby d12_0) rfl rfl ?_
    refine st1 _ ?_
    show Go p e below T1 m 4 (q_9 a1 i1) [(.ref bA)] _
    refine X1.arraylength hx (by rw [e1]; exact Ar2.1) (State.isArrayOf_alike hZ.alike Ar2.2.1) (g := (mkF m 4 (q_9 a1 i1) [(.ref bA)])) rfl rfl (hb hby d12_4) _ ?_
    rw [len_of Sz2 Nn2]
    show Go p e below T1 m 5 (q_9 a1 i1) [(.int (Int32.ofNat LB))] _
    refine XS.aloadN X1.here hx rfl (hb hby d12_5) rfl rfl ?_
    refine st3 _ ?_
    show Go p e below T3 m 9 (q_9 a1 i1) [(.int (0 : Int32)), (.int (Int32.ofNat LB))] _
    refine XS.ishr X3.here hx rfl (hb hby d12_9) rfl ?_
    show Go p e below T3 m 10 (q_9 a1 i1) [(.int ((Int32.ofNat LB) >>> ((0 : Int32) &&& 31)))] _
    rw [show ((Int32.ofNat LB) >>> ((0 : Int32) &&& 31)) = (Int32.ofNat LB) from own_shr0 _]
    show Go p e below T3 m 10 (q_9 a1 i1) [(.int (Int32.ofNat LB))] _
    refine XS.istoreN X3.here hx rfl (hb hby d12_10) rfl (l' := (q_17 a1 i1 LB)) rfl ?_
    refine XS.iloadN X3.here hx rfl (hb hby d12_11) rfl ?_
    refine XS.iloadN X3.here hx rfl (hb hby d12_12) rfl ?_
    refine XS.isub X3.here hx rfl (hb hby d12_13) rfl ?_
    exact k
  by_cases hc14 : (0 : Int32) < ((Int32.ofNat i1) - (Int32.ofNat LB))
  · have hg : LB < i1 := by have q := (own_subpos (a := i1) (b := LB) (by omega) (by omega)).mp hc14; omega
    obtain ⟨T5, X5, e5, st5⟩ := getF X3 hx hZ hown (host := "") (Or.inl (tw hw 61 rfl)) Via.refl e3 Fv (g := (mkF m 19 (q_17 a1 i1 LB) [(.ref a1), (.ref a1)])) rfl rfl (hb hby d12_19)
    obtain ⟨cq6, qa6, qb6⟩ := (Es).cell
    obtain ⟨_, _, ⟨T6, L6, k6, n6⟩, -, X6, ⟨Lc6, hQ6, l6, y6, z6⟩, st6⟩ := X5.privateBack hx (y := Y_27) hown (mvT hZ (tw hw 105 rfl)) (mvT hZ (tw hw 106 rfl)) (own_selQ hZ (C := "java/lang/StringBuilder") (tw hw 108 rfl) (tw hw 107 rfl) (tw hw 106 rfl)) (Cond.privateMethod_at (mvP hZ (tw hw 107 rfl) (args := #[]))) (mvT hZ (tw hw 109 rfl)) (by decide) (backOf (W := 2) (rb_nc0 l Z a0 hw [] G1 Fm a1 bA kA LB cs.length cs i1 h0 n0 O0 ST HB hnn hg hi) hZ (tw hw 109 rfl) (tw hw 57 rfl) (by decide) (by decide)) (g := (mkF m 24 (q_17 a1 i1 LB) [(.int (Int32.ofNat i1)), (.ref a1), (.ref bA), (.ref a1)])) rfl (by rw [hml]; rfl) (Steps.refl _) (a := a1) (by rw [e5]; exact qa6) qb6 (argsL := [(.int (Int32.ofNat i1))]) (rest := [(.ref bA), (.ref a1)]) (lenOf pd7 rfl) rfl (by show 2 * 0 + _ ≤ _; exact Nat.le_of_eq rfl) (hb hby d12_24) (fun _ _ => ⟨rfl, e5, (by decide : 0 + 0 ≤ _), (by decide : 0 + 0 ≤ _)⟩)
    dsimp only [Pt.U, Pt.locs, Pt.cells, Pt.slots] at X6 l6 y6 z6 st6 hQ6
    subst l6 y6 z6
    obtain ⟨rfl, Nq6, e6⟩ := hQ6
    have N6 := Fr.app N0 Nq6
    obtain ⟨T7, X7, e7, st7⟩ := getF X6 hx hZ hown (host := "") (Or.inl (tw hw 63 rfl)) Via.refl e6 Fc (g := (mkF m 28 (q_17 a1 i1 LB) [(.ref a1), (.int (Int32.ofNat (LB + max (i1 - LB) (LB + 2)))), (.ref bA), (.ref a1)])) rfl rfl (hb hby d12_28)
    obtain ⟨_, T8, Lc8, X8, hQ8, st8⟩ := own_sc X7 hx hZ (y := Y_38) hown (tw hw 120 rfl) (tw hw 121 rfl) (by decide) (ra_co l Z a0 hw [] G1 Fm bA kA LB (cs.map cLo ++ tl) (LB + max (i1 - LB) (LB + 2)) h0 n0 O0 ST Bs (by omega) (by omega) (by omega)) (tw hw 123 rfl) (tw hw 122 rfl) e7 (W := 1) (by decide) (by decide) (Ls := (q_17 a1 i1 LB)) (by rw [hml]; rfl) (argsL := [(.ref bA), (.int (Int32.ofNat (LB + max (i1 - LB) (LB + 2))))]) (rest := [(.ref a1)]) (lenOf pd24 rfl) (Nat.le_of_eq rfl) (hb hby d12_32) rfl (by decide) (by decide)
    obtain ⟨h8, e8⟩ : ∃ z, T8.heap = z := ⟨_, rfl⟩
    rw [e8] at hQ8
    obtain ⟨t8, kt8, rfl, Nq8, K8, szt8, Bt8, Et8⟩ := hQ8
    have N8 := Fr.app N6 Nq8
    have O9 := O0.keep K8 all0
    have kp10 : Keep h0 h8 [a1, bA] := (Keep.refl h0 [a1, bA]).trans K8 all0
    have sz_t8 := Nat.le_trans (Keep.refl h0 [a1, bA]).1 szt8
    have g_t8 : n0 ≤ t8 := Nat.le_trans (Nat.le_trans (Nat.le_of_eq O0.1.symm) O0.2.1) sz_t8
    have lt_a1_t8 : a1 < t8 := Nat.lt_of_lt_of_le lt_a1 sz_t8
    have lt_bA_t8 : bA < t8 := Nat.lt_of_lt_of_le lt_bA sz_t8
    have V_t8 : Arv Z h8 t8 kt8 .byte (Int32.ofNat (LB + max (i1 - LB) (LB + 2))) (((cs.map cLo ++ (tl ++ List.replicate ((LB + max (i1 - LB) (LB + 2)) - LB) 0)).map Value.int)) (.int (0 : Int32)) := by rw [← List.append_assoc]; exact Bt8.1
    obtain ⟨T11, h11, X11, e11, W11, st11⟩ := putF X8 hx hZ hown (host := "") (Or.inl (tw hw 61 rfl)) Via.refl e8 (Fv.keep K8 nin0) (Es.keep K8) (Or.inl (tw hw 62 rfl)) (tw hw 48 rfl) (ty := (.array .byte)) (by decide) rfl rfl (g := (mkF m 35 (q_17 a1 i1 LB) [(.ref t8), (.ref a1)])) rfl rfl (hb hby d12_35)
    have Fw11 := (Fv.keep K8 nin0).same W11
    have O12 := O9.wr W11 g_a1
    have kp13 : Keep h0 h11 [a1, bA] := kp10.wr W11 (Or.inl (List.mem_of_getElem? (i := 0) rfl))
    have N11 := Fr.snoc X11 N8 g_a1
    obtain ⟨fs, hr, hrun, hended, hW, hsame⟩ := X11.leave (v := none) (fun _ => rfl)
    refine ⟨_, _, castTop (ef_rb_ec0 m a1 (Int32.ofNat i1)) ?_, hrun, hended, _, _, rfl, ?_, ⟨_, rfl⟩, hW, hsame.mono (by decide) (by decide)⟩
    · refine pf4 _ ?_
      show Go p e below T3 m 14 (q_17 a1 i1 LB) [(.int ((Int32.ofNat i1) - (Int32.ofNat LB)))] _
      refine XS.ifNo X3.here hx rfl (hb hby d12_14) rfl ((if0 _ _).trans (tlt hc14).2.2.2) ?_
      refine XS.aloadN X3.here hx rfl (hb hby d12_17) rfl rfl ?_
      refine XS.aloadN X3.here hx rfl (hb hby d12_18) rfl rfl ?_
      refine st5 _ ?_
      show Go p e below T5 m 22 (q_17 a1 i1 LB) [(.ref bA), (.ref a1)] _
      refine XS.aloadN X5.here hx rfl (hb hby d12_22) rfl rfl ?_
      refine XS.iloadN X5.here hx rfl (hb hby d12_23) rfl ?_
      refine st6.trans ?_
      show Go p e below T6 m 27 (q_17 a1 i1 LB) [(.int (Int32.ofNat (LB + max (i1 - LB) (LB + 2)))), (.ref bA), (.ref a1)] _
      refine XS.aloadN X6.here hx rfl (hb hby d12_27) rfl rfl ?_
      refine st7 _ ?_
      show Go p e below T7 m 31 (q_17 a1 i1 LB) [(.int (0 : Int32)), (.int (Int32.ofNat (LB + max (i1 - LB) (LB + 2)))), (.ref bA), (.ref a1)] _
      refine XS.ishl X7.here hx rfl (hb hby d12_31) rfl ?_
      show Go p e below T7 m 32 (q_17 a1 i1 LB) [(.int ((Int32.ofNat (LB + max (i1 - LB) (LB + 2))) <<< ((0 : Int32) &&& 31))), (.ref bA), (.ref a1)] _
      rw [show ((Int32.ofNat (LB + max (i1 - LB) (LB + 2))) <<< ((0 : Int32) &&& 31)) = (Int32.ofNat (LB + max (i1 - LB) (LB + 2))) from own_shl0 _]
      refine st8 _ ?_
      refine st11 _ ?_
      show Go p e below T11 m 38 (q_17 a1 i1 LB) [] _
      exact X11.returnOut hx Bd.returns (hb hby d12_38) hr
    · show Qsv (fun h b k LB' => Sb0 Z h a1 b k LB' cs.length cs ∧ i1 ≤ LB') none a1 bA h0 n0 _ T11.heap _
      rw [e11]
      exact ⟨rfl, N11, kp13, t8, _, (LB + max (i1 - LB) (LB + 2)), Or.inr sz_t8, ⟨((Es.keep K8).wr W11), Fw11, ((Fc.keep K8 nin0).other W11 (Or.inr (slot_ne (Or.inl (tw hw 64 rfl)) (Or.inl (tw hw 62 rfl)) (by decide) (t := .byte) (t' := (.array .byte)) (by decide) (by decide)))), ((Fn.keep K8 nin0).other W11 (Or.inr (slot_ne (Or.inl (tw hw 78 rfl)) (Or.inl (tw hw 62 rfl)) (by decide) (t := .int) (t' := (.array .byte)) (by decide) (by decide)))), ((Fy.keep K8 nin0).other W11 (Or.inr (slot_ne (Or.inl (tw hw 336 rfl)) (Or.inl (tw hw 62 rfl)) (by decide) (t := .boolean) (t' := (.array .byte)) (by decide) (by decide)))), (Et8.wr W11), hu, (by omega), _, ⟨(V_t8.other W11 (Ne.symm (Nat.ne_of_lt lt_a1_t8))), by rw [← List.append_assoc]; exact Bt8.2⟩⟩, by omega⟩
  · obtain ⟨fs, hr, hrun, hended, hW, hsame⟩ := X3.leave (v := none) (fun _ => rfl)
    refine ⟨_, _, castTop (ef_rb_ec0 m a1 (Int32.ofNat i1)) ?_, hrun, hended, _, _, rfl, ?_, ⟨_, rfl⟩, hW, hsame.mono (by decide) (by decide)⟩
    · refine pf4 _ ?_
      show Go p e below T3 m 14 (q_17 a1 i1 LB) [(.int ((Int32.ofNat i1) - (Int32.ofNat LB)))] _
      refine XS.ifYes X3.here hx rfl (pc0 := 14) (pc' := 38) rfl (hb hby d12_14) rfl ((if0 _ _).trans (flt hc14).2.2.2) (by decide) (by decide) ?_
      show Go p e below T3 m 38 (q_17 a1 i1 LB) [] _
      exact X3.returnOut hx Bd.returns (hb hby d12_38) hr
    · show Qsv (fun h b k LB' => Sb0 Z h a1 b k LB' cs.length cs ∧ i1 ≤ LB') none a1 bA h0 n0 _ T3.heap _
      rw [e3]
      exact ⟨rfl, N0, (Keep.refl h0 [a1, bA]), bA, kA, LB, Or.inl rfl, HB, by have q : ¬ LB < i1 := fun q => hc14 ((own_subpos (a := i1) (b := LB) (by omega) (by omega)).mpr q); omega⟩
theorem ef_rb_ec1 (m : MethodId) (x0 : Addr) (x1 : Int32) : entryFrame m #[(.ref x0), (.int x1)] 3 = mkF m 0 #[.val (.ref x0), .val (.int x1), .unset] [] := by first | (simp [entryFrame, mkF, argsToLocals, Value.category]; done) | rfl
set_option maxRecDepth 65536 in
set_option maxHeartbeats 40000000 in
theorem rb_ec1 (l : Launch) (Z : State) (a0 : Array Value) (hw : Hw a0 Z) (ws : List Jvm.Cond) (G1 : Int32) (Fm : Value) (a1 : Addr) (bA : Addr) (kA : ClassId) (LB : Nat) (cs : List UInt16) (i1 : Nat) (h0 : Heap) (n0 : Nat) (O0 : Old Z n0 h0) (ST : Stc Z G1 Fm) (HB : Sb1 Z h0 a1 bA kA LB cs.length cs) (hnn : cs.length ≤ 120) (g_a1 : n0 ≤ a1) (g_bA : n0 ≤ bA) (hi : i1 ≤ 120) :
    Met l Z h0 ws Y_16 jdk_68_method_9_code 3 none R_19 #[(.ref a1), (.int (Int32.ofNat i1))] (Qsv (fun h b k LB' => Sb1 Z h a1 b k LB' cs.length cs ∧ 2 * i1 ≤ LB') none a1 bA h0 n0) := by
  refine MetFree.of_bodySF (plainFor_of_name pn6) hisR ?_
  intro p e s m args below meth c s₁ Bd hml0 hP hK
  obtain ⟨rfl, hZ, hh⟩ := hP
  have hx := Bd.exec
  have hby := Bd.bytes
  have hml : c.maxLocals = 3 := hml0
  have hown : s.vm.findClass "java/lang/AbstractStringBuilder" = some m.cls := findClass_of_methodNamed Bd.named
  have hnm := (name_of_methodNamed Bd.named Bd.method).1
  have X0 : Stand p l e R_19 s m #[(.ref a1), (.int (Int32.ofNat i1))] below meth c s₁ [] 0 0 := Stand.of_body Bd
  have e0 : s₁.heap = h0 := by rw [← hh, Bd.state]; rfl
  have N0 := Fr.nil n0
  obtain ⟨S_cs, hG, S_fm, hF, S_ad, S_hi, S_lo⟩ := id ST
  obtain ⟨Es, Fv, Fc, Fn, Fy, Eb, hL, tl, Bs⟩ := id HB
  have Vs := Bs.1
  have ls := Bs.2
  have hNs : (Int32.ofNat LB).toNatClampNeg = (enc1 cs ++ tl).length := by rw [ls]; exact own_n (by omega)
  have lq : 2 * cs.length + tl.length = LB := by rw [← ls]; simp only [List.length_append, List.length_map, enc1_len]
  have lt_a1 := Es.lt
  have lt_bA := Vs.lt
  have n_ab : a1 ≠ bA := Exa.neArv Es Vs (tw hw 48 rfl)
  obtain ⟨T1, X1, e1, st1⟩ := getF X0 hx hZ hown (host := "") (Or.inl (tw hw 61 rfl)) Via.refl e0 Fv (g := (mkF m 1 (q_9 a1 i1) [(.ref a1)])) rfl rfl (hb hby d12_1)
  obtain ⟨cl2, Ar2, q2, Sz2, Nn2, Ha2, Gf2⟩ := id Vs
  obtain ⟨T3, X3, e3, st3⟩ := getF X1 hx hZ hown (host := "") (Or.inl (tw hw 63 rfl)) Via.refl e1 Fc (g := (mkF m 6 (q_9 a1 i1) [(.ref a1), (.int (Int32.ofNat LB))])) rfl rfl (hb hby d12_6)
  have pf4 : ∀ target, Go p e below T3 m 14 (q_18 a1 i1 LB) [(.int ((Int32.ofNat i1) - (Int32.ofNat (LB / 2))))] target → Go p e below s₁ m 0 (q_9 a1 i1) [] target := by
    intro target k
    show Go p e below s₁ m 0 (q_9 a1 i1) [] _
    refine XS.aloadN X0.here hx rfl (hb hby d12_0) rfl rfl ?_
    refine st1 _ ?_
    show Go p e below T1 m 4 (q_9 a1 i1) [(.ref bA)] _
    refine X1.arraylength hx (by rw [e1]; exact Ar2.1) (State.isArrayOf_alike hZ.alike Ar2.2.1) (g := (mkF m 4 (q_9 a1 i1) [(.ref bA)])) rfl rfl (hb hby d12_4) _ ?_
    rw [len_of Sz2 Nn2]
    show Go p e below T1 m 5 (q_9 a1 i1) [(.int (Int32.ofNat LB))] _
    refine XS.aloadN X1.here hx rfl (hb hby d12_5) rfl rfl ?_
    refine st3 _ ?_
    show Go p e below T3 m 9 (q_9 a1 i1) [(.int (1 : Int32)), (.int (Int32.ofNat LB))] _
    refine XS.ishr X3.here hx rfl (hb hby d12_9) rfl ?_
    show Go p e below T3 m 10 (q_9 a1 i1) [(.int ((Int32.ofNat LB) >>> ((1 : Int32) &&& 31)))] _
    rw [show ((Int32.ofNat LB) >>> ((1 : Int32) &&& 31)) = (Int32.ofNat (LB / 2)) from own_shr1 (n := LB) (by omega)]
    show Go p e below T3 m 10 (q_9 a1 i1) [(.int (Int32.ofNat (LB / 2)))] _
    refine XS.istoreN X3.here hx rfl (hb hby d12_10) rfl (l' := (q_18 a1 i1 LB)) rfl ?_
    refine XS.iloadN X3.here hx rfl (hb hby d12_11) rfl ?_
    refine XS.iloadN X3.here hx rfl (hb hby d12_12) rfl ?_
    refine XS.isub X3.here hx rfl (hb hby d12_13) rfl ?_
    exact k
  by_cases hc14 : (0 : Int32) < ((Int32.ofNat i1) - (Int32.ofNat (LB / 2)))
  · have hg : LB < 2 * i1 := by have q := (own_subpos (a := i1) (b := LB / 2) (by omega) (by omega)).mp hc14; omega
    obtain ⟨T5, X5, e5, st5⟩ := getF X3 hx hZ hown (host := "") (Or.inl (tw hw 61 rfl)) Via.refl e3 Fv (g := (mkF m 19 (q_18 a1 i1 LB) [(.ref a1), (.ref a1)])) rfl rfl (hb hby d12_19)
    obtain ⟨cq6, qa6, qb6⟩ := (Es).cell
    obtain ⟨_, _, ⟨T6, L6, k6, n6⟩, -, X6, ⟨Lc6, hQ6, l6, y6, z6⟩, st6⟩ := X5.privateBack hx (y := Y_27) hown (mvT hZ (tw hw 105 rfl)) (mvT hZ (tw hw 106 rfl)) (own_selQ hZ (C := "java/lang/StringBuilder") (tw hw 108 rfl) (tw hw 107 rfl) (tw hw 106 rfl)) (Cond.privateMethod_at (mvP hZ (tw hw 107 rfl) (args := #[]))) (mvT hZ (tw hw 109 rfl)) (by decide) (backOf (W := 2) (rb_nc1 l Z a0 hw [] G1 Fm a1 bA kA LB cs.length cs i1 h0 n0 O0 ST HB hnn hg hi) hZ (tw hw 109 rfl) (tw hw 57 rfl) (by decide) (by decide)) (g := (mkF m 24 (q_18 a1 i1 LB) [(.int (Int32.ofNat i1)), (.ref a1), (.ref bA), (.ref a1)])) rfl (by rw [hml]; rfl) (Steps.refl _) (a := a1) (by rw [e5]; exact qa6) qb6 (argsL := [(.int (Int32.ofNat i1))]) (rest := [(.ref bA), (.ref a1)]) (lenOf pd7 rfl) rfl (by show 2 * 0 + _ ≤ _; exact Nat.le_of_eq rfl) (hb hby d12_24) (fun _ _ => ⟨rfl, e5, (by decide : 0 + 0 ≤ _), (by decide : 0 + 0 ≤ _)⟩)
    dsimp only [Pt.U, Pt.locs, Pt.cells, Pt.slots] at X6 l6 y6 z6 st6 hQ6
    subst l6 y6 z6
    obtain ⟨rfl, Nq6, e6⟩ := hQ6
    have N6 := Fr.app N0 Nq6
    obtain ⟨T7, X7, e7, st7⟩ := getF X6 hx hZ hown (host := "") (Or.inl (tw hw 63 rfl)) Via.refl e6 Fc (g := (mkF m 28 (q_18 a1 i1 LB) [(.ref a1), (.int (Int32.ofNat ((LB + max (2 * i1 - LB) (LB + 4)) / 2))), (.ref bA), (.ref a1)])) rfl rfl (hb hby d12_28)
    obtain ⟨_, T8, Lc8, X8, hQ8, st8⟩ := own_sc X7 hx hZ (y := Y_38) hown (tw hw 120 rfl) (tw hw 121 rfl) (by decide) (ra_co l Z a0 hw [] G1 Fm bA kA LB (enc1 cs ++ tl) (2 * ((LB + max (2 * i1 - LB) (LB + 4)) / 2)) h0 n0 O0 ST Bs (by omega) (by omega) (by omega)) (tw hw 123 rfl) (tw hw 122 rfl) e7 (W := 1) (by decide) (by decide) (Ls := (q_18 a1 i1 LB)) (by rw [hml]; rfl) (argsL := [(.ref bA), (.int (Int32.ofNat (2 * ((LB + max (2 * i1 - LB) (LB + 4)) / 2))))]) (rest := [(.ref a1)]) (lenOf pd24 rfl) (Nat.le_of_eq rfl) (hb hby d12_32) rfl (by decide) (by decide)
    obtain ⟨h8, e8⟩ : ∃ z, T8.heap = z := ⟨_, rfl⟩
    rw [e8] at hQ8
    obtain ⟨t8, kt8, rfl, Nq8, K8, szt8, Bt8, Et8⟩ := hQ8
    have N8 := Fr.app N6 Nq8
    have O9 := O0.keep K8 all0
    have kp10 : Keep h0 h8 [a1, bA] := (Keep.refl h0 [a1, bA]).trans K8 all0
    have sz_t8 := Nat.le_trans (Keep.refl h0 [a1, bA]).1 szt8
    have g_t8 : n0 ≤ t8 := Nat.le_trans (Nat.le_trans (Nat.le_of_eq O0.1.symm) O0.2.1) sz_t8
    have lt_a1_t8 : a1 < t8 := Nat.lt_of_lt_of_le lt_a1 sz_t8
    have lt_bA_t8 : bA < t8 := Nat.lt_of_lt_of_le lt_bA sz_t8
    have V_t8 : Arv Z h8 t8 kt8 .byte (Int32.ofNat (2 * ((LB + max (2 * i1 - LB) (LB + 4)) / 2))) (((enc1 cs ++ (tl ++ List.replicate ((2 * ((LB + max (2 * i1 - LB) (LB + 4)) / 2)) - LB) 0)).map Value.int)) (.int (0 : Int32)) := by rw [← List.append_assoc]; exact Bt8.1
    obtain ⟨T11, h11, X11, e11, W11, st11⟩ := putF X8 hx hZ hown (host := "") (Or.inl (tw hw 61 rfl)) Via.refl e8 (Fv.keep K8 nin0) (Es.keep K8) (Or.inl (tw hw 62 rfl)) (tw hw 48 rfl) (ty := (.array .byte)) (by decide) rfl rfl (g := (mkF m 35 (q_18 a1 i1 LB) [(.ref t8), (.ref a1)])) rfl rfl (hb hby d12_35)
    have Fw11 := (Fv.keep K8 nin0).same W11
    have O12 := O9.wr W11 g_a1
    have kp13 : Keep h0 h11 [a1, bA] := kp10.wr W11 (Or.inl (List.mem_of_getElem? (i := 0) rfl))
    have N11 := Fr.snoc X11 N8 g_a1
    obtain ⟨fs, hr, hrun, hended, hW, hsame⟩ := X11.leave (v := none) (fun _ => rfl)
    refine ⟨_, _, castTop (ef_rb_ec1 m a1 (Int32.ofNat i1)) ?_, hrun, hended, _, _, rfl, ?_, ⟨_, rfl⟩, hW, hsame.mono (by decide) (by decide)⟩
    · refine pf4 _ ?_
      show Go p e below T3 m 14 (q_18 a1 i1 LB) [(.int ((Int32.ofNat i1) - (Int32.ofNat (LB / 2))))] _
      refine XS.ifNo X3.here hx rfl (hb hby d12_14) rfl ((if0 _ _).trans (tlt hc14).2.2.2) ?_
      refine XS.aloadN X3.here hx rfl (hb hby d12_17) rfl rfl ?_
      refine XS.aloadN X3.here hx rfl (hb hby d12_18) rfl rfl ?_
      refine st5 _ ?_
      show Go p e below T5 m 22 (q_18 a1 i1 LB) [(.ref bA), (.ref a1)] _
      refine XS.aloadN X5.here hx rfl (hb hby d12_22) rfl rfl ?_
      refine XS.iloadN X5.here hx rfl (hb hby d12_23) rfl ?_
      refine st6.trans ?_
      show Go p e below T6 m 27 (q_18 a1 i1 LB) [(.int (Int32.ofNat ((LB + max (2 * i1 - LB) (LB + 4)) / 2))), (.ref bA), (.ref a1)] _
      refine XS.aloadN X6.here hx rfl (hb hby d12_27) rfl rfl ?_
      refine st7 _ ?_
      show Go p e below T7 m 31 (q_18 a1 i1 LB) [(.int (1 : Int32)), (.int (Int32.ofNat ((LB + max (2 * i1 - LB) (LB + 4)) / 2))), (.ref bA), (.ref a1)] _
      refine XS.ishl X7.here hx rfl (hb hby d12_31) rfl ?_
      show Go p e below T7 m 32 (q_18 a1 i1 LB) [(.int ((Int32.ofNat ((LB + max (2 * i1 - LB) (LB + 4)) / 2)) <<< ((1 : Int32) &&& 31))), (.ref bA), (.ref a1)] _
      rw [show ((Int32.ofNat ((LB + max (2 * i1 - LB) (LB + 4)) / 2)) <<< ((1 : Int32) &&& 31)) = (Int32.ofNat (2 * ((LB + max (2 * i1 - LB) (LB + 4)) / 2))) from own_shl1 ((LB + max (2 * i1 - LB) (LB + 4)) / 2)]
      refine st8 _ ?_
      refine st11 _ ?_
      show Go p e below T11 m 38 (q_18 a1 i1 LB) [] _
      exact X11.returnOut hx Bd.returns (hb hby d12_38) hr
    · show Qsv (fun h b k LB' => Sb1 Z h a1 b k LB' cs.length cs ∧ 2 * i1 ≤ LB') none a1 bA h0 n0 _ T11.heap _
      rw [e11]
      exact ⟨rfl, N11, kp13, t8, _, (2 * ((LB + max (2 * i1 - LB) (LB + 4)) / 2)), Or.inr sz_t8, ⟨((Es.keep K8).wr W11), Fw11, ((Fc.keep K8 nin0).other W11 (Or.inr (slot_ne (Or.inl (tw hw 64 rfl)) (Or.inl (tw hw 62 rfl)) (by decide) (t := .byte) (t' := (.array .byte)) (by decide) (by decide)))), ((Fn.keep K8 nin0).other W11 (Or.inr (slot_ne (Or.inl (tw hw 78 rfl)) (Or.inl (tw hw 62 rfl)) (by decide) (t := .int) (t' := (.array .byte)) (by decide) (by decide)))), ((Fy.keep K8 nin0).other W11 (Or.inr (slot_ne (Or.inl (tw hw 336 rfl)) (Or.inl (tw hw 62 rfl)) (by decide) (t := .boolean) (t' := (.array .byte)) (by decide) (by decide)))), (Et8.wr W11), (by omega), _, ⟨(V_t8.other W11 (Ne.symm (Nat.ne_of_lt lt_a1_t8))), by rw [← List.append_assoc]; exact Bt8.2⟩⟩, by omega⟩
  · obtain ⟨fs, hr, hrun, hended, hW, hsame⟩ := X3.leave (v := none) (fun _ => rfl)
    refine ⟨_, _, castTop (ef_rb_ec1 m a1 (Int32.ofNat i1)) ?_, hrun, hended, _, _, rfl, ?_, ⟨_, rfl⟩, hW, hsame.mono (by decide) (by decide)⟩
    · refine pf4 _ ?_
      show Go p e below T3 m 14 (q_18 a1 i1 LB) [(.int ((Int32.ofNat i1) - (Int32.ofNat (LB / 2))))] _
      refine XS.ifYes X3.here hx rfl (pc0 := 14) (pc' := 38) rfl (hb hby d12_14) rfl ((if0 _ _).trans (flt hc14).2.2.2) (by decide) (by decide) ?_
      show Go p e below T3 m 38 (q_18 a1 i1 LB) [] _
      exact X3.returnOut hx Bd.returns (hb hby d12_38) hr
    · show Qsv (fun h b k LB' => Sb1 Z h a1 b k LB' cs.length cs ∧ 2 * i1 ≤ LB') none a1 bA h0 n0 _ T3.heap _
      rw [e3]
      exact ⟨rfl, N0, (Keep.refl h0 [a1, bA]), bA, kA, LB, Or.inl rfl, HB, by have q : ¬ LB / 2 < i1 := fun q => hc14 ((own_subpos (a := i1) (b := LB / 2) (by omega) (by omega)).mpr q); omega⟩
theorem d53_0 : Dc cb42 0 (.aload_n 0) 1 := by decide +kernel
theorem d53_1 : Dc cb42 1 (.invokevirtual 83) 3 := by decide +kernel
theorem d53_4 : Dc cb42 4 (.ifCond .ne 4) 3 := by decide +kernel
theorem d53_8 : Dc cb42 8 (.aload_n 0) 1 := by decide +kernel
theorem d53_9 : Dc cb42 9 (.getfield 15) 3 := by decide +kernel
theorem d53_12 : Dc cb42 12 .arraylength 1 := by decide +kernel
theorem d53_13 : Dc cb42 13 (.invokestatic 26) 3 := by decide +kernel
theorem d53_16 : Dc cb42 16 (.astore_n 1) 1 := by decide +kernel
theorem d53_17 : Dc cb42 17 (.aload_n 0) 1 := by decide +kernel
theorem d53_18 : Dc cb42 18 (.getfield 15) 3 := by decide +kernel
theorem d53_21 : Dc cb42 21 (.iconst 0) 1 := by decide +kernel
theorem d53_22 : Dc cb42 22 (.aload_n 1) 1 := by decide +kernel
theorem d53_23 : Dc cb42 23 (.iconst 0) 1 := by decide +kernel
theorem d53_24 : Dc cb42 24 (.aload_n 0) 1 := by decide +kernel
theorem d53_25 : Dc cb42 25 (.getfield 79) 3 := by decide +kernel
theorem d53_28 : Dc cb42 28 (.invokestatic 125) 3 := by decide +kernel
theorem d53_31 : Dc cb42 31 (.aload_n 0) 1 := by decide +kernel
theorem d53_32 : Dc cb42 32 (.aload_n 1) 1 := by decide +kernel
theorem d53_33 : Dc cb42 33 (.putfield 15) 3 := by decide +kernel
theorem d53_36 : Dc cb42 36 (.aload_n 0) 1 := by decide +kernel
theorem d53_37 : Dc cb42 37 (.iconst 1) 1 := by decide +kernel
theorem d53_38 : Dc cb42 38 (.putfield 22) 3 := by decide +kernel
theorem d53_41 : Dc cb42 41 .return_ 1 := by decide +kernel
theorem ef_rb_inf0 (m : MethodId) (x0 : Addr) : entryFrame m #[(.ref x0)] 2 = mkF m 0 #[.val (.ref x0), .unset] [] := by first | (simp [entryFrame, mkF, argsToLocals, Value.category]; done) | rfl
set_option maxRecDepth 65536 in
set_option maxHeartbeats 40000000 in
theorem rb_inf0 (l : Launch) (Z : State) (a0 : Array Value) (hw : Hw a0 Z) (ws : List Jvm.Cond) (G1 : Int32) (Fm : Value) (a1 : Addr) (bA : Addr) (kA : ClassId) (LB : Nat) (cs : List UInt16) (h0 : Heap) (n0 : Nat) (O0 : Old Z n0 h0) (ST : Stc Z G1 Fm) (HB : Sb0 Z h0 a1 bA kA LB cs.length cs) (hnn : cs.length ≤ 120) (g_a1 : n0 ≤ a1) (g_bA : n0 ≤ bA) :
    Met l Z h0 ws Y_28 jdk_68_method_11_code 2 none R_42 #[(.ref a1)] (Qsb (fun h b k LB' => Sb1 Z h a1 b k LB' cs.length cs ∧ LB' = 2 * LB) a1 h0 n0) := by
  refine MetFree.of_bodySF (plainFor_of_name pn6) hisR ?_
  intro p e s m args below meth c s₁ Bd hml0 hP hK
  obtain ⟨rfl, hZ, hh⟩ := hP
  have hx := Bd.exec
  have hby := Bd.bytes
  have hml : c.maxLocals = 2 := hml0
  have hown : s.vm.findClass "java/lang/AbstractStringBuilder" = some m.cls := findClass_of_methodNamed Bd.named
  have hnm := (name_of_methodNamed Bd.named Bd.method).1
  have X0 : Stand p l e R_42 s m #[(.ref a1)] below meth c s₁ [] 0 0 := Stand.of_body Bd
  have e0 : s₁.heap = h0 := by rw [← hh, Bd.state]; rfl
  have N0 := Fr.nil n0
  obtain ⟨S_cs, hG, S_fm, hF, S_ad, S_hi, S_lo⟩ := id ST
  obtain ⟨Es, Fv, Fc, Fn, Fy, Eb, hu, hL, tl, Bs⟩ := id HB
  have Vs := Bs.1
  have ls := Bs.2
  have hNs : (Int32.ofNat LB).toNatClampNeg = (cs.map cLo ++ tl).length := by rw [ls]; exact own_n (by omega)
  have lq : cs.length + tl.length = LB := by rw [← ls]; simp only [List.length_append, List.length_map, enc1_len]
  have lt_a1 := Es.lt
  have lt_bA := Vs.lt
  have n_ab : a1 ≠ bA := Exa.neArv Es Vs (tw hw 48 rfl)
  obtain ⟨_, T1, Lc1, X1, hQ1, st1⟩ := own_vc X0 hx hZ (y := Y_4) hown (tw hw 308 rfl) (tw hw 155 rfl) (tw hw 157 rfl) (tw hw 156 rfl) (by decide) (rb_il0 l Z a0 hw [] G1 Fm a1 bA kA LB cs.length cs h0 n0 O0 ST HB hnn) (tw hw 158 rfl) (tw hw 57 rfl) e0 Es (W := 0) (by decide) (by decide) (Ls := (q_23 a1)) (by rw [hml]; rfl) (argsL := []) (rest := []) (lenOf pd6 rfl) (Nat.le_of_eq rfl) (hb hby d53_1) rfl (by decide) (by decide)
  obtain ⟨rfl, Nq1, e1⟩ := hQ1
  have N1 := Fr.app N0 Nq1
  obtain ⟨T2, X2, e2, st2⟩ := getF X1 hx hZ hown (host := "") (Or.inl (tw hw 61 rfl)) Via.refl e1 Fv (g := (mkF m 9 (q_23 a1) [(.ref a1)])) rfl rfl (hb hby d53_9)
  obtain ⟨cl3, Ar3, q3, Sz3, Nn3, Ha3, Gf3⟩ := id Vs
  obtain ⟨_, T4, Lc4, X4, hQ4, st4⟩ := own_sc X2 hx hZ (y := Y_34) hown (tw hw 309 rfl) (tw hw 310 rfl) (by decide) (ru_nf l Z a0 hw [] G1 Fm LB h0 n0 O0 ST (by omega)) (tw hw 311 rfl) (tw hw 270 rfl) e2 (W := 0) (by decide) (by decide) (Ls := (q_23 a1)) (by rw [hml]; rfl) (argsL := [(.int (Int32.ofNat LB))]) (rest := []) (lenOf pd16 rfl) (Nat.le_of_eq rfl) (hb hby d53_13) rfl (by decide) (by decide)
  obtain ⟨h4, e4⟩ : ∃ z, T4.heap = z := ⟨_, rfl⟩
  rw [e4] at hQ4
  obtain ⟨t4, kt4, rfl, Nq4, K4, szt4, Bt4, Et4⟩ := hQ4
  have N4 := Fr.app N1 Nq4
  have O5 := O0.keep K4 all0
  have kp6 : Keep h0 h4 [a1] := (Keep.refl h0 [a1]).trans K4 all0
  have sz_t4 := Nat.le_trans (Keep.refl h0 [a1]).1 szt4
  have g_t4 : n0 ≤ t4 := Nat.le_trans (Nat.le_trans (Nat.le_of_eq O0.1.symm) O0.2.1) sz_t4
  have lt_a1_t4 : a1 < t4 := Nat.lt_of_lt_of_le lt_a1 sz_t4
  have lt_bA_t4 : bA < t4 := Nat.lt_of_lt_of_le lt_bA sz_t4
  have V_t4 := Bt4.1
  obtain ⟨T7, X7, e7, st7⟩ := getF X4 hx hZ hown (host := "") (Or.inl (tw hw 61 rfl)) Via.refl e4 (Fv.keep K4 nin0) (g := (mkF m 18 (q_0 a1 t4) [(.ref a1)])) rfl rfl (hb hby d53_18)
  obtain ⟨T8, X8, e8, st8⟩ := getF X7 hx hZ hown (host := "") (Or.inl (tw hw 77 rfl)) Via.refl e7 (Fn.keep K4 nin0) (g := (mkF m 25 (q_0 a1 t4) [(.ref a1), (.int (0 : Int32)), (.ref t4), (.int (0 : Int32)), (.ref bA)])) rfl rfl (hb hby d53_25)
  obtain ⟨_, T9, Lc9, X9, hQ9, st9⟩ := own_sc X8 hx hZ (y := Y_35) hown (tw hw 316 rfl) (tw hw 317 rfl) (by decide) (rl_inf l Z a0 hw [] G1 Fm bA kA LB (cs.map cLo ++ tl) t4 kt4 (2 * LB) (List.replicate (2 * LB) 0) cs 0 h4 n0 O5 ST ⟨(Vs.keep K4 nin0), ls⟩ Bt4 (by omega) (by omega) (by omega) own_srcA hu (by omega) (Nat.ne_of_lt lt_bA_t4) g_t4) (tw hw 318 rfl) (tw hw 258 rfl) e8 (W := 0) (by decide) (by decide) (Ls := (q_0 a1 t4)) (by rw [hml]; rfl) (argsL := [(.ref bA), (.int (0 : Int32)), (.ref t4), (.int (0 : Int32)), (.int (Int32.ofNat cs.length))]) (rest := []) (lenOf pd15 rfl) (Nat.le_of_eq rfl) (hb hby d53_28) rfl (by decide) (by decide)
  obtain ⟨h9, e9⟩ : ∃ z, T9.heap = z := ⟨_, rfl⟩
  rw [e9] at hQ9
  obtain ⟨rfl, Nq9, K9, Bi9⟩ := hQ9
  have N9 := Fr.app N4 Nq9
  have O10 := O5.keep K9 (allS g_t4 all0)
  have kp11 : Keep h0 h9 [a1] := kp6.trans K9 (allS (Or.inr sz_t4) all0)
  have Bz := (own_pinf (cs := cs) (m := 2 * LB) (by omega)) ▸ Bi9
  obtain ⟨T12, h12, X12, e12, W12, st12⟩ := putF X9 hx hZ hown (host := "") (Or.inl (tw hw 61 rfl)) Via.refl e9 ((Fv.keep K4 nin0).keep K9 (ninS (Nat.ne_of_lt lt_a1_t4) nin0)) ((Es.keep K4).keep K9) (Or.inl (tw hw 62 rfl)) (tw hw 48 rfl) (ty := (.array .byte)) (by decide) rfl rfl (g := (mkF m 33 (q_0 a1 t4) [(.ref t4), (.ref a1)])) rfl rfl (hb hby d53_33)
  have Fw12 := ((Fv.keep K4 nin0).keep K9 (ninS (Nat.ne_of_lt lt_a1_t4) nin0)).same W12
  have O13 := O10.wr W12 g_a1
  have kp14 : Keep h0 h12 [a1] := kp11.wr W12 (Or.inl (List.mem_of_getElem? (i := 0) rfl))
  have N12 := Fr.snoc X12 N9 g_a1
  obtain ⟨T15, h15, X15, e15, W15, st15⟩ := putFN X12 hx hZ hown (tw hw 63 rfl) Via.refl e12 (((Fc.keep K4 nin0).keep K9 (ninS (Nat.ne_of_lt lt_a1_t4) nin0)).other W12 (Or.inr (slot_ne (Or.inl (tw hw 64 rfl)) (Or.inl (tw hw 62 rfl)) (by decide) (t := .byte) (t' := (.array .byte)) (by decide) (by decide)))) (((Es.keep K4).keep K9).wr W12) (Or.inl (tw hw 64 rfl)) (tw hw 48 rfl) (ty := .byte) (v' := (.int (1 : Int32))) (by decide) rfl rfl (g := (mkF m 38 (q_0 a1 t4) [(.int (1 : Int32)), (.ref a1)])) rfl rfl (hb hby d53_38)
  have Fw15 := (((Fc.keep K4 nin0).keep K9 (ninS (Nat.ne_of_lt lt_a1_t4) nin0)).other W12 (Or.inr (slot_ne (Or.inl (tw hw 64 rfl)) (Or.inl (tw hw 62 rfl)) (by decide) (t := .byte) (t' := (.array .byte)) (by decide) (by decide)))).same W15
  have O16 := O13.wr W15 g_a1
  have kp17 : Keep h0 h15 [a1] := kp14.wr W15 (Or.inl (List.mem_of_getElem? (i := 0) rfl))
  have N15 := Fr.snoc X15 N12 g_a1
  obtain ⟨fs, hr, hrun, hended, hW, hsame⟩ := X15.leave (v := none) (fun _ => rfl)
  refine ⟨_, _, castTop (ef_rb_inf0 m a1) ?_, hrun, hended, _, _, rfl, ?_, ⟨_, rfl⟩, hW, hsame.mono (by decide) (by decide)⟩
  · show Go p e below s₁ m 0 (q_23 a1) [] _
    refine XS.aloadN X0.here hx rfl (hb hby d53_0) rfl rfl ?_
    refine st1 _ ?_
    show Go p e below T1 m 4 (q_23 a1) [(.int (1 : Int32))] _
    refine XS.ifYes X1.here hx rfl (pc0 := 4) (pc' := 8) rfl (hb hby d53_4) rfl ((if0 _ _).trans (feq (by decide)).2) (by decide) (by decide) ?_
    refine XS.aloadN X1.here hx rfl (hb hby d53_8) rfl rfl ?_
    refine st2 _ ?_
    show Go p e below T2 m 12 (q_23 a1) [(.ref bA)] _
    refine X2.arraylength hx (by rw [e2]; exact Ar3.1) (State.isArrayOf_alike hZ.alike Ar3.2.1) (g := (mkF m 12 (q_23 a1) [(.ref bA)])) rfl rfl (hb hby d53_12) _ ?_
    rw [len_of Sz3 Nn3]
    refine st4 _ ?_
    show Go p e below T4 m 16 (q_23 a1) [(.ref t4)] _
    refine XS.astoreN X4.here hx rfl (hb hby d53_16) rfl rfl (l' := (q_0 a1 t4)) rfl ?_
    refine XS.aloadN X4.here hx rfl (hb hby d53_17) rfl rfl ?_
    refine st7 _ ?_
    show Go p e below T7 m 21 (q_0 a1 t4) [(.ref bA)] _
    refine XS.iconst X7.here hx rfl (hb hby d53_21) ?_
    refine XS.aloadN X7.here hx rfl (hb hby d53_22) rfl rfl ?_
    refine XS.iconst X7.here hx rfl (hb hby d53_23) ?_
    refine XS.aloadN X7.here hx rfl (hb hby d53_24) rfl rfl ?_
    refine st8 _ ?_
    refine st9 _ ?_
    show Go p e below T9 m 31 (q_0 a1 t4) [] _
    refine XS.aloadN X9.here hx rfl (hb hby d53_31) rfl rfl ?_
    refine XS.aloadN X9.here hx rfl (hb hby d53_32) rfl rfl ?_
    refine st12 _ ?_
    show Go p e below T12 m 36 (q_0 a1 t4) [] _
    refine XS.aloadN X12.here hx rfl (hb hby d53_36) rfl rfl ?_
    refine XS.iconst X12.here hx rfl (hb hby d53_37) ?_
    refine st15 _ ?_
    show Go p e below T15 m 41 (q_0 a1 t4) [] _
    exact X15.returnOut hx Bd.returns (hb hby d53_41) hr
  · show Qsb (fun h b k LB' => Sb1 Z h a1 b k LB' cs.length cs ∧ LB' = 2 * LB) a1 h0 n0 _ T15.heap _
    rw [e15]
    exact ⟨rfl, N15, kp17, t4, _, (2 * LB), sz_t4, ⟨((((Es.keep K4).keep K9).wr W12).wr W15), (Fw12.other W15 (Or.inr (slot_ne (Or.inl (tw hw 62 rfl)) (Or.inl (tw hw 64 rfl)) (by decide) (t := (.array .byte)) (t' := .byte) (by decide) (by decide)))), Fw15, ((((Fn.keep K4 nin0).keep K9 (ninS (Nat.ne_of_lt lt_a1_t4) nin0)).other W12 (Or.inr (slot_ne (Or.inl (tw hw 78 rfl)) (Or.inl (tw hw 62 rfl)) (by decide) (t := .int) (t' := (.array .byte)) (by decide) (by decide)))).other W15 (Or.inr (slot_ne (Or.inl (tw hw 78 rfl)) (Or.inl (tw hw 64 rfl)) (by decide) (t := .int) (t' := .byte) (by decide) (by decide)))), ((((Fy.keep K4 nin0).keep K9 (ninS (Nat.ne_of_lt lt_a1_t4) nin0)).other W12 (Or.inr (slot_ne (Or.inl (tw hw 336 rfl)) (Or.inl (tw hw 62 rfl)) (by decide) (t := .boolean) (t' := (.array .byte)) (by decide) (by decide)))).other W15 (Or.inr (slot_ne (Or.inl (tw hw 336 rfl)) (Or.inl (tw hw 64 rfl)) (by decide) (t := .boolean) (t' := .byte) (by decide) (by decide)))), (((Et4.keep K9).wr W12).wr W15), (by omega), _, ⟨((Bz.1.other W12 (Ne.symm (Nat.ne_of_lt lt_a1_t4))).other W15 (Ne.symm (Nat.ne_of_lt lt_a1_t4))), Bz.2⟩⟩, rfl⟩
theorem d53_7 : Dc cb42 7 .return_ 1 := by decide +kernel
theorem ef_rb_inf1 (m : MethodId) (x0 : Addr) : entryFrame m #[(.ref x0)] 2 = mkF m 0 #[.val (.ref x0), .unset] [] := by first | (simp [entryFrame, mkF, argsToLocals, Value.category]; done) | rfl
set_option maxRecDepth 65536 in
set_option maxHeartbeats 40000000 in
theorem rb_inf1 (l : Launch) (Z : State) (a0 : Array Value) (hw : Hw a0 Z) (ws : List Jvm.Cond) (G1 : Int32) (Fm : Value) (a1 : Addr) (bA : Addr) (kA : ClassId) (LB : Nat) (cs : List UInt16) (h0 : Heap) (n0 : Nat) (O0 : Old Z n0 h0) (ST : Stc Z G1 Fm) (HB : Sb1 Z h0 a1 bA kA LB cs.length cs) (hnn : cs.length ≤ 120) (g_a1 : n0 ≤ a1) (g_bA : n0 ≤ bA) :
    Met l Z h0 ws Y_28 jdk_68_method_11_code 2 none R_2 #[(.ref a1)] (Qpure none h0 n0) := by
  refine MetFree.of_bodySF (plainFor_of_name pn6) hisR ?_
  intro p e s m args below meth c s₁ Bd hml0 hP hK
  obtain ⟨rfl, hZ, hh⟩ := hP
  have hx := Bd.exec
  have hby := Bd.bytes
  have hml : c.maxLocals = 2 := hml0
  have hown : s.vm.findClass "java/lang/AbstractStringBuilder" = some m.cls := findClass_of_methodNamed Bd.named
  have hnm := (name_of_methodNamed Bd.named Bd.method).1
  have X0 : Stand p l e R_2 s m #[(.ref a1)] below meth c s₁ [] 0 0 := Stand.of_body Bd
  have e0 : s₁.heap = h0 := by rw [← hh, Bd.state]; rfl
  have N0 := Fr.nil n0
  obtain ⟨S_cs, hG, S_fm, hF, S_ad, S_hi, S_lo⟩ := id ST
  obtain ⟨Es, Fv, Fc, Fn, Fy, Eb, hL, tl, Bs⟩ := id HB
  have Vs := Bs.1
  have ls := Bs.2
  have hNs : (Int32.ofNat LB).toNatClampNeg = (enc1 cs ++ tl).length := by rw [ls]; exact own_n (by omega)
  have lq : 2 * cs.length + tl.length = LB := by rw [← ls]; simp only [List.length_append, List.length_map, enc1_len]
  have lt_a1 := Es.lt
  have lt_bA := Vs.lt
  have n_ab : a1 ≠ bA := Exa.neArv Es Vs (tw hw 48 rfl)
  obtain ⟨_, T1, Lc1, X1, hQ1, st1⟩ := own_vc X0 hx hZ (y := Y_4) hown (tw hw 308 rfl) (tw hw 155 rfl) (tw hw 157 rfl) (tw hw 156 rfl) (by decide) (rb_il1 l Z a0 hw [] G1 Fm a1 bA kA LB cs.length cs h0 n0 O0 ST HB hnn) (tw hw 158 rfl) (tw hw 57 rfl) e0 Es (W := 0) (by decide) (by decide) (Ls := (q_23 a1)) (by rw [hml]; rfl) (argsL := []) (rest := []) (lenOf pd6 rfl) (Nat.le_of_eq rfl) (hb hby d53_1) rfl (by decide) (by decide)
  obtain ⟨rfl, Nq1, e1⟩ := hQ1
  have N1 := Fr.app N0 Nq1
  obtain ⟨fs, hr, hrun, hended, hW, hsame⟩ := X1.leave (v := none) (fun _ => rfl)
  refine ⟨_, _, castTop (ef_rb_inf1 m a1) ?_, hrun, hended, _, _, rfl, ?_, ⟨_, rfl⟩, hW, hsame.mono (by decide) (by decide)⟩
  · show Go p e below s₁ m 0 (q_23 a1) [] _
    refine XS.aloadN X0.here hx rfl (hb hby d53_0) rfl rfl ?_
    refine st1 _ ?_
    show Go p e below T1 m 4 (q_23 a1) [(.int (0 : Int32))] _
    refine XS.ifNo X1.here hx rfl (hb hby d53_4) rfl ((if0 _ _).trans (teq (by decide)).2) ?_
    show Go p e below T1 m 7 (q_23 a1) [] _
    exact X1.returnOut hx Bd.returns (hb hby d53_7) hr
  · show Qpure none h0 n0 _ T1.heap _
    rw [e1]
    exact ⟨rfl, N1, rfl⟩
theorem d14_0 : Dc cb43 0 (.getstatic 18) 3 := by decide +kernel
theorem d14_3 : Dc cb43 3 (.ifCond .eq 18) 3 := by decide +kernel
theorem d14_6 : Dc cb43 6 (.aload_n 0) 1 := by decide +kernel
theorem d14_7 : Dc cb43 7 (.getfield 22) 3 := by decide +kernel
theorem d14_10 : Dc cb43 10 (.aload_n 1) 1 := by decide +kernel
theorem d14_11 : Dc cb43 11 (.invokevirtual 40) 3 := by decide +kernel
theorem d14_14 : Dc cb43 14 (.if_icmp .eq 7) 3 := by decide +kernel
theorem d14_21 : Dc cb43 21 .return_ 1 := by decide +kernel
theorem ef_rb_in00 (m : MethodId) (x0 : Addr) (x1 : Addr) : entryFrame m #[(.ref x0), (.ref x1)] 2 = mkF m 0 #[.val (.ref x0), .val (.ref x1)] [] := by first | (simp [entryFrame, mkF, argsToLocals, Value.category]; done) | rfl
set_option maxRecDepth 65536 in
set_option maxHeartbeats 40000000 in
theorem rb_in00 (l : Launch) (Z : State) (a0 : Array Value) (hw : Hw a0 Z) (ws : List Jvm.Cond) (G1 : Int32) (Fm : Value) (a1 : Addr) (bA : Addr) (kA : ClassId) (LB : Nat) (cs : List UInt16) (a2 : Addr) (bS : Addr) (kS : ClassId) (ds : List UInt16) (h0 : Heap) (n0 : Nat) (O0 : Old Z n0 h0) (ST : Stc Z G1 Fm) (HB : Sb0 Z h0 a1 bA kA LB cs.length cs) (hnn : cs.length ≤ 120) (g_a1 : n0 ≤ a1) (g_bA : n0 ≤ bA) (HS : Str0 Z h0 a2 bS kS ds) (hds : ds.length ≤ 120) :
    Met l Z h0 ws Y_7 jdk_68_method_71_code 2 none R_3 #[(.ref a1), (.ref a2)] (Qpure none h0 n0) := by
  refine MetFree.of_bodySF (plainFor_of_name pn6) hisR ?_
  intro p e s m args below meth c s₁ Bd hml0 hP hK
  obtain ⟨rfl, hZ, hh⟩ := hP
  have hx := Bd.exec
  have hby := Bd.bytes
  have hml : c.maxLocals = 2 := hml0
  have hown : s.vm.findClass "java/lang/AbstractStringBuilder" = some m.cls := findClass_of_methodNamed Bd.named
  have hnm := (name_of_methodNamed Bd.named Bd.method).1
  have X0 : Stand p l e R_3 s m #[(.ref a1), (.ref a2)] below meth c s₁ [] 0 0 := Stand.of_body Bd
  have e0 : s₁.heap = h0 := by rw [← hh, Bd.state]; rfl
  have N0 := Fr.nil n0
  obtain ⟨S_cs, hG, S_fm, hF, S_ad, S_hi, S_lo⟩ := id ST
  obtain ⟨Es, Fv, Fc, Fn, Fy, Eb, hu, hL, tl, Bs⟩ := id HB
  have Vs := Bs.1
  have ls := Bs.2
  have hNs : (Int32.ofNat LB).toNatClampNeg = (cs.map cLo ++ tl).length := by rw [ls]; exact own_n (by omega)
  have lq : cs.length + tl.length = LB := by rw [← ls]; simp only [List.length_append, List.length_map, enc1_len]
  have lt_a1 := Es.lt
  have lt_bA := Vs.lt
  have n_ab : a1 ≠ bA := Exa.neArv Es Vs (tw hw 48 rfl)
  obtain ⟨E_a2, Fc_a2, Fv_a2, B_bS, hu_a2⟩ := id HS
  have lt_a2 := E_a2.lt
  have V_bS := B_bS.1
  have l_bS := B_bS.2
  have hN_bS : (Int32.ofNat ds.length).toNatClampNeg = (ds.map cLo).length := by rw [l_bS]; exact own_n (by omega)
  have lt_bS := V_bS.lt
  have n_21 : a2 ≠ a1 := Exa.ne E_a2 Es (by decide)
  have n_b1 : bS ≠ a1 := Ne.symm (Exa.neArv Es V_bS (tw hw 48 rfl))
  have n_2b : a2 ≠ bA := Exa.neArv E_a2 Vs (tw hw 6 rfl)
  have n_2s : a2 ≠ bS := Exa.neArv E_a2 V_bS (tw hw 6 rfl)
  obtain ⟨T1, X1, e1, st1⟩ := getS2 X0 hx hZ hown (host := "") (Or.inl (tw hw 60 rfl)) Via.refl e0 (S_cs.ext O0.2) (g := (mkF m 0 (q_0 a1 a2) [])) rfl (hb hby d14_0)
  obtain ⟨T2, X2, e2, st2⟩ := getF X1 hx hZ hown (host := "") (Or.inl (tw hw 63 rfl)) Via.refl e1 Fc (g := (mkF m 7 (q_0 a1 a2) [(.ref a1)])) rfl rfl (hb hby d14_7)
  obtain ⟨_, T3, Lc3, X3, hQ3, st3⟩ := own_vc X2 hx hZ (y := Y_1) hown (tw hw 94 rfl) (tw hw 34 rfl) (tw hw 36 rfl) (tw hw 35 rfl) (by decide) (rs_cd0 l Z a0 hw [] G1 Fm a2 bS kS ds h0 n0 O0 ST HS hds) (tw hw 37 rfl) (tw hw 7 rfl) e2 E_a2 (W := 1) (by decide) (by decide) (Ls := (q_0 a1 a2)) (by rw [hml]; rfl) (argsL := []) (rest := [(.int (0 : Int32))]) (lenOf pd5 rfl) (Nat.le_of_eq rfl) (hb hby d14_11) rfl (by decide) (by decide)
  obtain ⟨rfl, Nq3, e3⟩ := hQ3
  have N3 := Fr.app N0 Nq3
  have pf4 : ∀ target, Go p e below T3 m 14 (q_0 a1 a2) [(.int (0 : Int32)), (.int (0 : Int32))] target → Go p e below s₁ m 0 (q_0 a1 a2) [] target := by
    intro target k
    refine st1 _ ?_
    show Go p e below T1 m 3 (q_0 a1 a2) [(.int G1)] _
    refine XS.ifNo X1.here hx rfl (hb hby d14_3) rfl ((if0 _ _).trans (feq hG).1) ?_
    refine XS.aloadN X1.here hx rfl (hb hby d14_6) rfl rfl ?_
    refine st2 _ ?_
    show Go p e below T2 m 10 (q_0 a1 a2) [(.int (0 : Int32))] _
    refine XS.aloadN X2.here hx rfl (hb hby d14_10) rfl rfl ?_
    refine st3 _ ?_
    exact k
  obtain ⟨fs, hr, hrun, hended, hW, hsame⟩ := X3.leave (v := none) (fun _ => rfl)
  refine ⟨_, _, castTop (ef_rb_in00 m a1 a2) ?_, hrun, hended, _, _, rfl, ?_, ⟨_, rfl⟩, hW, hsame.mono (by decide) (by decide)⟩
  · refine pf4 _ ?_
    show Go p e below T3 m 14 (q_0 a1 a2) [(.int (0 : Int32)), (.int (0 : Int32))] _
    refine XS.icmpYes X3.here hx rfl (pc0 := 14) (pc' := 21) rfl (hb hby d14_14) rfl (teq (by decide)).1 (by decide) (by decide) ?_
    show Go p e below T3 m 21 (q_0 a1 a2) [] _
    exact X3.returnOut hx Bd.returns (hb hby d14_21) hr
  · show Qpure none h0 n0 _ T3.heap _
    rw [e3]
    exact ⟨rfl, N3, rfl⟩
theorem d14_17 : Dc cb43 17 (.aload_n 0) 1 := by decide +kernel
theorem d14_18 : Dc cb43 18 (.invokevirtual 195) 3 := by decide +kernel
theorem pd25 : parseMethodDescriptor "()V" = some ⟨[], none⟩ := by decide +kernel
theorem ef_rb_in01 (m : MethodId) (x0 : Addr) (x1 : Addr) : entryFrame m #[(.ref x0), (.ref x1)] 2 = mkF m 0 #[.val (.ref x0), .val (.ref x1)] [] := by first | (simp [entryFrame, mkF, argsToLocals, Value.category]; done) | rfl
set_option maxRecDepth 65536 in
set_option maxHeartbeats 40000000 in
theorem rb_in01 (l : Launch) (Z : State) (a0 : Array Value) (hw : Hw a0 Z) (ws : List Jvm.Cond) (G1 : Int32) (Fm : Value) (a1 : Addr) (bA : Addr) (kA : ClassId) (LB : Nat) (cs : List UInt16) (a2 : Addr) (bS : Addr) (kS : ClassId) (ds : List UInt16) (h0 : Heap) (n0 : Nat) (O0 : Old Z n0 h0) (ST : Stc Z G1 Fm) (HB : Sb0 Z h0 a1 bA kA LB cs.length cs) (hnn : cs.length ≤ 120) (g_a1 : n0 ≤ a1) (g_bA : n0 ≤ bA) (HS : Str1 Z h0 a2 bS kS ds) (hds : ds.length ≤ 120) :
    Met l Z h0 ws Y_7 jdk_68_method_71_code 2 none R_43 #[(.ref a1), (.ref a2)] (Qsb (fun h b k LB' => Sb1 Z h a1 b k LB' cs.length cs ∧ LB' = 2 * LB) a1 h0 n0) := by
  refine MetFree.of_bodySF (plainFor_of_name pn6) hisR ?_
  intro p e s m args below meth c s₁ Bd hml0 hP hK
  obtain ⟨rfl, hZ, hh⟩ := hP
  have hx := Bd.exec
  have hby := Bd.bytes
  have hml : c.maxLocals = 2 := hml0
  have hown : s.vm.findClass "java/lang/AbstractStringBuilder" = some m.cls := findClass_of_methodNamed Bd.named
  have hnm := (name_of_methodNamed Bd.named Bd.method).1
  have X0 : Stand p l e R_43 s m #[(.ref a1), (.ref a2)] below meth c s₁ [] 0 0 := Stand.of_body Bd
  have e0 : s₁.heap = h0 := by rw [← hh, Bd.state]; rfl
  have N0 := Fr.nil n0
  obtain ⟨S_cs, hG, S_fm, hF, S_ad, S_hi, S_lo⟩ := id ST
  obtain ⟨Es, Fv, Fc, Fn, Fy, Eb, hu, hL, tl, Bs⟩ := id HB
  have Vs := Bs.1
  have ls := Bs.2
  have hNs : (Int32.ofNat LB).toNatClampNeg = (cs.map cLo ++ tl).length := by rw [ls]; exact own_n (by omega)
  have lq : cs.length + tl.length = LB := by rw [← ls]; simp only [List.length_append, List.length_map, enc1_len]
  have lt_a1 := Es.lt
  have lt_bA := Vs.lt
  have n_ab : a1 ≠ bA := Exa.neArv Es Vs (tw hw 48 rfl)
  obtain ⟨E_a2, Fc_a2, Fv_a2, B_bS⟩ := id HS
  have lt_a2 := E_a2.lt
  have V_bS := B_bS.1
  have l_bS := B_bS.2
  have hN_bS : (Int32.ofNat (2 * ds.length)).toNatClampNeg = (enc1 ds).length := by rw [l_bS]; exact own_n (by omega)
  have lt_bS := V_bS.lt
  have n_21 : a2 ≠ a1 := Exa.ne E_a2 Es (by decide)
  have n_b1 : bS ≠ a1 := Ne.symm (Exa.neArv Es V_bS (tw hw 48 rfl))
  have n_2b : a2 ≠ bA := Exa.neArv E_a2 Vs (tw hw 6 rfl)
  have n_2s : a2 ≠ bS := Exa.neArv E_a2 V_bS (tw hw 6 rfl)
  obtain ⟨T1, X1, e1, st1⟩ := getS2 X0 hx hZ hown (host := "") (Or.inl (tw hw 60 rfl)) Via.refl e0 (S_cs.ext O0.2) (g := (mkF m 0 (q_0 a1 a2) [])) rfl (hb hby d14_0)
  obtain ⟨T2, X2, e2, st2⟩ := getF X1 hx hZ hown (host := "") (Or.inl (tw hw 63 rfl)) Via.refl e1 Fc (g := (mkF m 7 (q_0 a1 a2) [(.ref a1)])) rfl rfl (hb hby d14_7)
  obtain ⟨_, T3, Lc3, X3, hQ3, st3⟩ := own_vc X2 hx hZ (y := Y_1) hown (tw hw 94 rfl) (tw hw 34 rfl) (tw hw 36 rfl) (tw hw 35 rfl) (by decide) (rs_cd1 l Z a0 hw [] G1 Fm a2 bS kS ds h0 n0 O0 ST HS hds) (tw hw 37 rfl) (tw hw 7 rfl) e2 E_a2 (W := 1) (by decide) (by decide) (Ls := (q_0 a1 a2)) (by rw [hml]; rfl) (argsL := []) (rest := [(.int (0 : Int32))]) (lenOf pd5 rfl) (Nat.le_of_eq rfl) (hb hby d14_11) rfl (by decide) (by decide)
  obtain ⟨rfl, Nq3, e3⟩ := hQ3
  have N3 := Fr.app N0 Nq3
  have pf4 : ∀ target, Go p e below T3 m 14 (q_0 a1 a2) [(.int (1 : Int32)), (.int (0 : Int32))] target → Go p e below s₁ m 0 (q_0 a1 a2) [] target := by
    intro target k
    refine st1 _ ?_
    show Go p e below T1 m 3 (q_0 a1 a2) [(.int G1)] _
    refine XS.ifNo X1.here hx rfl (hb hby d14_3) rfl ((if0 _ _).trans (feq hG).1) ?_
    refine XS.aloadN X1.here hx rfl (hb hby d14_6) rfl rfl ?_
    refine st2 _ ?_
    show Go p e below T2 m 10 (q_0 a1 a2) [(.int (0 : Int32))] _
    refine XS.aloadN X2.here hx rfl (hb hby d14_10) rfl rfl ?_
    refine st3 _ ?_
    exact k
  obtain ⟨cq5, qa5, qb5⟩ := (Es).cell
  obtain ⟨_, _, ⟨T5, L5, k5, n5⟩, -, X5, ⟨Lc5, hQ5, l5, y5, z5⟩, st5⟩ := X3.privateBack hx (y := Y_28) hown (mvT hZ (tw hw 303 rfl)) (mvT hZ (tw hw 304 rfl)) (own_selQ hZ (C := "java/lang/StringBuilder") (tw hw 306 rfl) (tw hw 305 rfl) (tw hw 304 rfl)) (Cond.privateMethod_at (mvP hZ (tw hw 305 rfl) (args := #[]))) (mvT hZ (tw hw 307 rfl)) (by decide) (backOf (W := 0) (rb_inf0 l Z a0 hw [] G1 Fm a1 bA kA LB cs h0 n0 O0 ST HB hnn g_a1 g_bA) hZ (tw hw 307 rfl) (tw hw 57 rfl) (by decide) (by decide)) (g := (mkF m 18 (q_0 a1 a2) [(.ref a1)])) rfl (by rw [hml]; rfl) (Steps.refl _) (a := a1) (by rw [e3]; exact qa5) qb5 (argsL := []) (rest := []) (lenOf pd25 rfl) rfl (by show 2 * 0 + _ ≤ _; exact Nat.le_of_eq rfl) (hb hby d14_18) (fun _ _ => ⟨rfl, e3, (by decide : 0 + 1 ≤ _), (by decide : 0 + 500 ≤ _)⟩)
  dsimp only [Pt.U, Pt.locs, Pt.cells, Pt.slots] at X5 l5 y5 z5 st5 hQ5
  subst l5 y5 z5
  obtain ⟨h5, e5⟩ : ∃ z, T5.heap = z := ⟨_, rfl⟩
  rw [e5] at hQ5
  obtain ⟨rfl, Nq5, K5, R5⟩ := hQ5
  have N5 := Fr.app N3 Nq5
  have O6 := O0.keep K5 (allS g_a1 all0)
  have kp7 : Keep h0 h5 [a1] := (Keep.refl h0 [a1]).trans K5 (allS (Or.inl (List.mem_of_getElem? (i := 0) rfl)) all0)
  have RR := R5
  obtain ⟨fs, hr, hrun, hended, hW, hsame⟩ := X5.leave (v := none) (fun _ => rfl)
  refine ⟨_, _, castTop (ef_rb_in01 m a1 a2) ?_, hrun, hended, _, _, rfl, ?_, ⟨_, rfl⟩, hW, hsame.mono (by decide) (by decide)⟩
  · refine pf4 _ ?_
    show Go p e below T3 m 14 (q_0 a1 a2) [(.int (1 : Int32)), (.int (0 : Int32))] _
    refine XS.icmpNo X3.here hx rfl (hb hby d14_14) rfl (feq (by decide)).1 ?_
    refine XS.aloadN X3.here hx rfl (hb hby d14_17) rfl rfl ?_
    refine st5.trans ?_
    show Go p e below T5 m 21 (q_0 a1 a2) [] _
    exact X5.returnOut hx Bd.returns (hb hby d14_21) hr
  · show Qsb (fun h b k LB' => Sb1 Z h a1 b k LB' cs.length cs ∧ LB' = 2 * LB) a1 h0 n0 _ T5.heap _
    rw [e5]
    exact ⟨rfl, N5, kp7, RR⟩
theorem ef_rb_in10 (m : MethodId) (x0 : Addr) (x1 : Addr) : entryFrame m #[(.ref x0), (.ref x1)] 2 = mkF m 0 #[.val (.ref x0), .val (.ref x1)] [] := by first | (simp [entryFrame, mkF, argsToLocals, Value.category]; done) | rfl
set_option maxRecDepth 65536 in
set_option maxHeartbeats 40000000 in
theorem rb_in10 (l : Launch) (Z : State) (a0 : Array Value) (hw : Hw a0 Z) (ws : List Jvm.Cond) (G1 : Int32) (Fm : Value) (a1 : Addr) (bA : Addr) (kA : ClassId) (LB : Nat) (cs : List UInt16) (a2 : Addr) (bS : Addr) (kS : ClassId) (ds : List UInt16) (h0 : Heap) (n0 : Nat) (O0 : Old Z n0 h0) (ST : Stc Z G1 Fm) (HB : Sb1 Z h0 a1 bA kA LB cs.length cs) (hnn : cs.length ≤ 120) (g_a1 : n0 ≤ a1) (g_bA : n0 ≤ bA) (HS : Str0 Z h0 a2 bS kS ds) (hds : ds.length ≤ 120) :
    Met l Z h0 ws Y_7 jdk_68_method_71_code 2 none R_44 #[(.ref a1), (.ref a2)] (Qpure none h0 n0) := by
  refine MetFree.of_bodySF (plainFor_of_name pn6) hisR ?_
  intro p e s m args below meth c s₁ Bd hml0 hP hK
  obtain ⟨rfl, hZ, hh⟩ := hP
  have hx := Bd.exec
  have hby := Bd.bytes
  have hml : c.maxLocals = 2 := hml0
  have hown : s.vm.findClass "java/lang/AbstractStringBuilder" = some m.cls := findClass_of_methodNamed Bd.named
  have hnm := (name_of_methodNamed Bd.named Bd.method).1
  have X0 : Stand p l e R_44 s m #[(.ref a1), (.ref a2)] below meth c s₁ [] 0 0 := Stand.of_body Bd
  have e0 : s₁.heap = h0 := by rw [← hh, Bd.state]; rfl
  have N0 := Fr.nil n0
  obtain ⟨S_cs, hG, S_fm, hF, S_ad, S_hi, S_lo⟩ := id ST
  obtain ⟨Es, Fv, Fc, Fn, Fy, Eb, hL, tl, Bs⟩ := id HB
  have Vs := Bs.1
  have ls := Bs.2
  have hNs : (Int32.ofNat LB).toNatClampNeg = (enc1 cs ++ tl).length := by rw [ls]; exact own_n (by omega)
  have lq : 2 * cs.length + tl.length = LB := by rw [← ls]; simp only [List.length_append, List.length_map, enc1_len]
  have lt_a1 := Es.lt
  have lt_bA := Vs.lt
  have n_ab : a1 ≠ bA := Exa.neArv Es Vs (tw hw 48 rfl)
  obtain ⟨E_a2, Fc_a2, Fv_a2, B_bS, hu_a2⟩ := id HS
  have lt_a2 := E_a2.lt
  have V_bS := B_bS.1
  have l_bS := B_bS.2
  have hN_bS : (Int32.ofNat ds.length).toNatClampNeg = (ds.map cLo).length := by rw [l_bS]; exact own_n (by omega)
  have lt_bS := V_bS.lt
  have n_21 : a2 ≠ a1 := Exa.ne E_a2 Es (by decide)
  have n_b1 : bS ≠ a1 := Ne.symm (Exa.neArv Es V_bS (tw hw 48 rfl))
  have n_2b : a2 ≠ bA := Exa.neArv E_a2 Vs (tw hw 6 rfl)
  have n_2s : a2 ≠ bS := Exa.neArv E_a2 V_bS (tw hw 6 rfl)
  obtain ⟨T1, X1, e1, st1⟩ := getS2 X0 hx hZ hown (host := "") (Or.inl (tw hw 60 rfl)) Via.refl e0 (S_cs.ext O0.2) (g := (mkF m 0 (q_0 a1 a2) [])) rfl (hb hby d14_0)
  obtain ⟨T2, X2, e2, st2⟩ := getF X1 hx hZ hown (host := "") (Or.inl (tw hw 63 rfl)) Via.refl e1 Fc (g := (mkF m 7 (q_0 a1 a2) [(.ref a1)])) rfl rfl (hb hby d14_7)
  obtain ⟨_, T3, Lc3, X3, hQ3, st3⟩ := own_vc X2 hx hZ (y := Y_1) hown (tw hw 94 rfl) (tw hw 34 rfl) (tw hw 36 rfl) (tw hw 35 rfl) (by decide) (rs_cd0 l Z a0 hw [] G1 Fm a2 bS kS ds h0 n0 O0 ST HS hds) (tw hw 37 rfl) (tw hw 7 rfl) e2 E_a2 (W := 1) (by decide) (by decide) (Ls := (q_0 a1 a2)) (by rw [hml]; rfl) (argsL := []) (rest := [(.int (1 : Int32))]) (lenOf pd5 rfl) (Nat.le_of_eq rfl) (hb hby d14_11) rfl (by decide) (by decide)
  obtain ⟨rfl, Nq3, e3⟩ := hQ3
  have N3 := Fr.app N0 Nq3
  have pf4 : ∀ target, Go p e below T3 m 14 (q_0 a1 a2) [(.int (0 : Int32)), (.int (1 : Int32))] target → Go p e below s₁ m 0 (q_0 a1 a2) [] target := by
    intro target k
    refine st1 _ ?_
    show Go p e below T1 m 3 (q_0 a1 a2) [(.int G1)] _
    refine XS.ifNo X1.here hx rfl (hb hby d14_3) rfl ((if0 _ _).trans (feq hG).1) ?_
    refine XS.aloadN X1.here hx rfl (hb hby d14_6) rfl rfl ?_
    refine st2 _ ?_
    show Go p e below T2 m 10 (q_0 a1 a2) [(.int (1 : Int32))] _
    refine XS.aloadN X2.here hx rfl (hb hby d14_10) rfl rfl ?_
    refine st3 _ ?_
    exact k
  obtain ⟨cq5, qa5, qb5⟩ := (Es).cell
  obtain ⟨_, _, ⟨T5, L5, k5, n5⟩, -, X5, ⟨Lc5, hQ5, l5, y5, z5⟩, st5⟩ := X3.privateBack hx (y := Y_28) hown (mvT hZ (tw hw 303 rfl)) (mvT hZ (tw hw 304 rfl)) (own_selQ hZ (C := "java/lang/StringBuilder") (tw hw 306 rfl) (tw hw 305 rfl) (tw hw 304 rfl)) (Cond.privateMethod_at (mvP hZ (tw hw 305 rfl) (args := #[]))) (mvT hZ (tw hw 307 rfl)) (by decide) (backOf (W := 0) (rb_inf1 l Z a0 hw [] G1 Fm a1 bA kA LB cs h0 n0 O0 ST HB hnn g_a1 g_bA) hZ (tw hw 307 rfl) (tw hw 57 rfl) (by decide) (by decide)) (g := (mkF m 18 (q_0 a1 a2) [(.ref a1)])) rfl (by rw [hml]; rfl) (Steps.refl _) (a := a1) (by rw [e3]; exact qa5) qb5 (argsL := []) (rest := []) (lenOf pd25 rfl) rfl (by show 2 * 0 + _ ≤ _; exact Nat.le_of_eq rfl) (hb hby d14_18) (fun _ _ => ⟨rfl, e3, (by decide : 0 + 0 ≤ _), (by decide : 0 + 0 ≤ _)⟩)
  dsimp only [Pt.U, Pt.locs, Pt.cells, Pt.slots] at X5 l5 y5 z5 st5 hQ5
  subst l5 y5 z5
  obtain ⟨rfl, Nq5, e5⟩ := hQ5
  have N5 := Fr.app N3 Nq5
  obtain ⟨fs, hr, hrun, hended, hW, hsame⟩ := X5.leave (v := none) (fun _ => rfl)
  refine ⟨_, _, castTop (ef_rb_in10 m a1 a2) ?_, hrun, hended, _, _, rfl, ?_, ⟨_, rfl⟩, hW, hsame.mono (by decide) (by decide)⟩
  · refine pf4 _ ?_
    show Go p e below T3 m 14 (q_0 a1 a2) [(.int (0 : Int32)), (.int (1 : Int32))] _
    refine XS.icmpNo X3.here hx rfl (hb hby d14_14) rfl (feq (by decide)).1 ?_
    refine XS.aloadN X3.here hx rfl (hb hby d14_17) rfl rfl ?_
    refine st5.trans ?_
    show Go p e below T5 m 21 (q_0 a1 a2) [] _
    exact X5.returnOut hx Bd.returns (hb hby d14_21) hr
  · show Qpure none h0 n0 _ T5.heap _
    rw [e5]
    exact ⟨rfl, N5, rfl⟩
theorem ef_rb_in11 (m : MethodId) (x0 : Addr) (x1 : Addr) : entryFrame m #[(.ref x0), (.ref x1)] 2 = mkF m 0 #[.val (.ref x0), .val (.ref x1)] [] := by first | (simp [entryFrame, mkF, argsToLocals, Value.category]; done) | rfl
set_option maxRecDepth 65536 in
set_option maxHeartbeats 40000000 in
theorem rb_in11 (l : Launch) (Z : State) (a0 : Array Value) (hw : Hw a0 Z) (ws : List Jvm.Cond) (G1 : Int32) (Fm : Value) (a1 : Addr) (bA : Addr) (kA : ClassId) (LB : Nat) (cs : List UInt16) (a2 : Addr) (bS : Addr) (kS : ClassId) (ds : List UInt16) (h0 : Heap) (n0 : Nat) (O0 : Old Z n0 h0) (ST : Stc Z G1 Fm) (HB : Sb1 Z h0 a1 bA kA LB cs.length cs) (hnn : cs.length ≤ 120) (g_a1 : n0 ≤ a1) (g_bA : n0 ≤ bA) (HS : Str1 Z h0 a2 bS kS ds) (hds : ds.length ≤ 120) :
    Met l Z h0 ws Y_7 jdk_68_method_71_code 2 none R_3 #[(.ref a1), (.ref a2)] (Qpure none h0 n0) := by
  refine MetFree.of_bodySF (plainFor_of_name pn6) hisR ?_
  intro p e s m args below meth c s₁ Bd hml0 hP hK
  obtain ⟨rfl, hZ, hh⟩ := hP
  have hx := Bd.exec
  have hby := Bd.bytes
  have hml : c.maxLocals = 2 := hml0
  have hown : s.vm.findClass "java/lang/AbstractStringBuilder" = some m.cls := findClass_of_methodNamed Bd.named
  have hnm := (name_of_methodNamed Bd.named Bd.method).1
  have X0 : Stand p l e R_3 s m #[(.ref a1), (.ref a2)] below meth c s₁ [] 0 0 := Stand.of_body Bd
  have e0 : s₁.heap = h0 := by rw [← hh, Bd.state]; rfl
  have N0 := Fr.nil n0
  obtain ⟨S_cs, hG, S_fm, hF, S_ad, S_hi, S_lo⟩ := id ST
  obtain ⟨Es, Fv, Fc, Fn, Fy, Eb, hL, tl, Bs⟩ := id HB
  have Vs := Bs.1
  have ls := Bs.2
  have hNs : (Int32.ofNat LB).toNatClampNeg = (enc1 cs ++ tl).length := by rw [ls]; exact own_n (by omega)
  have lq : 2 * cs.length + tl.length = LB := by rw [← ls]; simp only [List.length_append, List.length_map, enc1_len]
  have lt_a1 := Es.lt
  have lt_bA := Vs.lt
  have n_ab : a1 ≠ bA := Exa.neArv Es Vs (tw hw 48 rfl)
  obtain ⟨E_a2, Fc_a2, Fv_a2, B_bS⟩ := id HS
  have lt_a2 := E_a2.lt
  have V_bS := B_bS.1
  have l_bS := B_bS.2
  have hN_bS : (Int32.ofNat (2 * ds.length)).toNatClampNeg = (enc1 ds).length := by rw [l_bS]; exact own_n (by omega)
  have lt_bS := V_bS.lt
  have n_21 : a2 ≠ a1 := Exa.ne E_a2 Es (by decide)
  have n_b1 : bS ≠ a1 := Ne.symm (Exa.neArv Es V_bS (tw hw 48 rfl))
  have n_2b : a2 ≠ bA := Exa.neArv E_a2 Vs (tw hw 6 rfl)
  have n_2s : a2 ≠ bS := Exa.neArv E_a2 V_bS (tw hw 6 rfl)
  obtain ⟨T1, X1, e1, st1⟩ := getS2 X0 hx hZ hown (host := "") (Or.inl (tw hw 60 rfl)) Via.refl e0 (S_cs.ext O0.2) (g := (mkF m 0 (q_0 a1 a2) [])) rfl (hb hby d14_0)
  obtain ⟨T2, X2, e2, st2⟩ := getF X1 hx hZ hown (host := "") (Or.inl (tw hw 63 rfl)) Via.refl e1 Fc (g := (mkF m 7 (q_0 a1 a2) [(.ref a1)])) rfl rfl (hb hby d14_7)
  obtain ⟨_, T3, Lc3, X3, hQ3, st3⟩ := own_vc X2 hx hZ (y := Y_1) hown (tw hw 94 rfl) (tw hw 34 rfl) (tw hw 36 rfl) (tw hw 35 rfl) (by decide) (rs_cd1 l Z a0 hw [] G1 Fm a2 bS kS ds h0 n0 O0 ST HS hds) (tw hw 37 rfl) (tw hw 7 rfl) e2 E_a2 (W := 1) (by decide) (by decide) (Ls := (q_0 a1 a2)) (by rw [hml]; rfl) (argsL := []) (rest := [(.int (1 : Int32))]) (lenOf pd5 rfl) (Nat.le_of_eq rfl) (hb hby d14_11) rfl (by decide) (by decide)
  obtain ⟨rfl, Nq3, e3⟩ := hQ3
  have N3 := Fr.app N0 Nq3
  have pf4 : ∀ target, Go p e below T3 m 14 (q_0 a1 a2) [(.int (1 : Int32)), (.int (1 : Int32))] target → Go p e below s₁ m 0 (q_0 a1 a2) [] target := by
    intro target k
    refine st1 _ ?_
    show Go p e below T1 m 3 (q_0 a1 a2) [(.int G1)] _
    refine XS.ifNo X1.here hx rfl (hb hby d14_3) rfl ((if0 _ _).trans (feq hG).1) ?_
    refine XS.aloadN X1.here hx rfl (hb hby d14_6) rfl rfl ?_
    refine st2 _ ?_
    show Go p e below T2 m 10 (q_0 a1 a2) [(.int (1 : Int32))] _
    refine XS.aloadN X2.here hx rfl (hb hby d14_10) rfl rfl ?_
    refine st3 _ ?_
    exact k
  obtain ⟨fs, hr, hrun, hended, hW, hsame⟩ := X3.leave (v := none) (fun _ => rfl)
  refine ⟨_, _, castTop (ef_rb_in11 m a1 a2) ?_, hrun, hended, _, _, rfl, ?_, ⟨_, rfl⟩, hW, hsame.mono (by decide) (by decide)⟩
  · refine pf4 _ ?_
    show Go p e below T3 m 14 (q_0 a1 a2) [(.int (1 : Int32)), (.int (1 : Int32))] _
    refine XS.icmpYes X3.here hx rfl (pc0 := 14) (pc' := 21) rfl (hb hby d14_14) rfl (teq (by decide)).1 (by decide) (by decide) ?_
    show Go p e below T3 m 21 (q_0 a1 a2) [] _
    exact X3.returnOut hx Bd.returns (hb hby d14_21) hr
  · show Qpure none h0 n0 _ T3.heap _
    rw [e3]
    exact ⟨rfl, N3, rfl⟩
theorem d15_0 : Dc cb44 0 (.aload_n 0) 1 := by decide +kernel
theorem d15_1 : Dc cb44 1 (.invokevirtual 335) 3 := by decide +kernel
theorem d15_4 : Dc cb44 4 (.iload_n 3) 1 := by decide +kernel
theorem d15_5 : Dc cb44 5 (.if_icmp .ne 23) 3 := by decide +kernel
theorem d15_8 : Dc cb44 8 (.aload_n 0) 1 := by decide +kernel
theorem d15_9 : Dc cb44 9 (.getfield 9) 3 := by decide +kernel
theorem d15_12 : Dc cb44 12 (.iconst 0) 1 := by decide +kernel
theorem d15_13 : Dc cb44 13 (.aload_n 1) 1 := by decide +kernel
theorem d15_14 : Dc cb44 14 (.iload_n 2) 1 := by decide +kernel
theorem d15_15 : Dc cb44 15 (.iload_n 3) 1 := by decide +kernel
theorem d15_16 : Dc cb44 16 .ishl 1 := by decide +kernel
theorem d15_17 : Dc cb44 17 (.aload_n 0) 1 := by decide +kernel
theorem d15_18 : Dc cb44 18 (.getfield 9) 3 := by decide +kernel
theorem d15_21 : Dc cb44 21 .arraylength 1 := by decide +kernel
theorem d15_22 : Dc cb44 22 (.invokestatic 212) 3 := by decide +kernel
theorem d15_25 : Dc cb44 25 (.goto 18) 3 := by decide +kernel
theorem d15_43 : Dc cb44 43 .return_ 1 := by decide +kernel
theorem ef_rs_gb00 (m : MethodId) (x0 : Addr) (x1 : Addr) (x2 : Int32) (x3 : Int32) : entryFrame m #[(.ref x0), (.ref x1), (.int x2), (.int x3)] 4 = mkF m 0 #[.val (.ref x0), .val (.ref x1), .val (.int x2), .val (.int x3)] [] := by first | (simp [entryFrame, mkF, argsToLocals, Value.category]; done) | rfl
set_option maxRecDepth 65536 in
set_option maxHeartbeats 40000000 in
theorem rs_gb00 (l : Launch) (Z : State) (a0 : Array Value) (hw : Hw a0 Z) (ws : List Jvm.Cond) (G1 : Int32) (Fm : Value) (a1 : Addr) (bA : Addr) (kA : ClassId) (ds : List UInt16) (a2 : Addr) (kD : ClassId) (LD : Nat) (lst : List Int32) (i1 : Nat) (h0 : Heap) (n0 : Nat) (O0 : Old Z n0 h0) (ST : Stc Z G1 Fm) (HS : Str0 Z h0 a1 bA kA ds) (hds : ds.length ≤ 120) (B2 : Bar Z h0 a2 kD LD lst) (hD : LD ≤ 500) (hfit : (i1 + ds.length) ≤ LD) (n12 : a1 ≠ a2) (nb2 : bA ≠ a2) (g_a2 : n0 ≤ a2) :
    Met l Z h0 ws Y_5 jdk_42_method_147_code 4 none R_20 #[(.ref a1), (.ref a2), (.int (Int32.ofNat i1)), (.int (0 : Int32))] (Qwr Z a2 kD LD (lst.take (i1) ++ (ds.map cLo) ++ lst.drop (i1 + ds.length)) h0 n0) := by
  refine MetFree.of_bodySF (plainFor_of_name pn2) hisR ?_
  intro p e s m args below meth c s₁ Bd hml0 hP hK
  obtain ⟨rfl, hZ, hh⟩ := hP
  have hx := Bd.exec
  have hby := Bd.bytes
  have hml : c.maxLocals = 4 := hml0
  have hown : s.vm.findClass "java/lang/String" = some m.cls := findClass_of_methodNamed Bd.named
  have hnm := (name_of_methodNamed Bd.named Bd.method).1
  have X0 : Stand p l e R_20 s m #[(.ref a1), (.ref a2), (.int (Int32.ofNat i1)), (.int (0 : Int32))] below meth c s₁ [] 0 0 := Stand.of_body Bd
  have e0 : s₁.heap = h0 := by rw [← hh, Bd.state]; rfl
  have N0 := Fr.nil n0
  obtain ⟨S_cs, hG, S_fm, hF, S_ad, S_hi, S_lo⟩ := id ST
  obtain ⟨E_a1, Fc_a1, Fv_a1, B_bA, hu_a1⟩ := id HS
  have lt_a1 := E_a1.lt
  have V_bA := B_bA.1
  have l_bA := B_bA.2
  have hN_bA : (Int32.ofNat ds.length).toNatClampNeg = (ds.map cLo).length := by rw [l_bA]; exact own_n (by omega)
  have lt_bA := V_bA.lt
  have V_a2 := B2.1
  have l_a2 := B2.2
  have hN_a2 : (Int32.ofNat LD).toNatClampNeg = lst.length := by rw [l_a2]; exact own_n (by omega)
  have lt_a2 := V_a2.lt
  obtain ⟨_, T1, Lc1, X1, hQ1, st1⟩ := own_vc X0 hx hZ (y := Y_1) hown (tw hw 33 rfl) (tw hw 34 rfl) (tw hw 36 rfl) (tw hw 35 rfl) (by decide) (rs_cd0 l Z a0 hw [] G1 Fm a1 bA kA ds h0 n0 O0 ST HS hds) (tw hw 37 rfl) (tw hw 7 rfl) e0 E_a1 (W := 0) (by decide) (by decide) (Ls := (q_21 a1 a2 i1)) (by rw [hml]; rfl) (argsL := []) (rest := []) (lenOf pd5 rfl) (Nat.le_of_eq rfl) (hb hby d15_1) rfl (by decide) (by decide)
  obtain ⟨rfl, Nq1, e1⟩ := hQ1
  have N1 := Fr.app N0 Nq1
  obtain ⟨T2, X2, e2, st2⟩ := getF X1 hx hZ hown (host := "") (Or.inl (tw hw 25 rfl)) Via.refl e1 Fv_a1 (g := (mkF m 9 (q_21 a1 a2 i1) [(.ref a1)])) rfl rfl (hb hby d15_9)
  obtain ⟨T3, X3, e3, st3⟩ := getF X2 hx hZ hown (host := "") (Or.inl (tw hw 25 rfl)) Via.refl e2 Fv_a1 (g := (mkF m 18 (q_21 a1 a2 i1) [(.ref a1), (.int (Int32.ofNat i1)), (.ref a2), (.int (0 : Int32)), (.ref bA)])) rfl rfl (hb hby d15_18)
  obtain ⟨cl4, Ar4, q4, Sz4, Nn4, Ha4, Gf4⟩ := id V_bA
  obtain ⟨T5, h5, L5, X5, e5, N5, K5, Vr5, st5⟩ := cpA X3 hx hZ hown (tw hw 100 rfl) (tw hw 103 rfl) (tw hw 101 rfl) (tw hw 102 rfl) e3 V_bA V_a2 (Or.inl ⟨rfl, rfl⟩) (sp := (0 : Int32)) (dp := (Int32.ofNat i1)) (nn := (Int32.ofNat ds.length)) (us := ((((ds.map cLo).drop 0).take (ds.length)).map Value.int)) (by decide) (own_nn (n := i1) (by omega)) (own_nn (n := ds.length) (by omega)) (by rw [own_n (n := ds.length) (by omega), show (0 : Int32).toNatClampNeg = 0 by decide]; omega) (by rw [own_n (n := ds.length) (by omega), own_n (n := i1) (by omega), own_n (n := LD) (by omega)]; omega) (own_us (by decide) (own_n (n := ds.length) (by omega)) (by rw [List.length_map]; omega)) (by rw [List.length_map, own_n (n := ds.length) (by omega), own_n (n := i1) (by omega)]; omega) N1 g_a2 (g := (mkF m 22 (q_21 a1 a2 i1) [(.int (Int32.ofNat ds.length)), (.int (Int32.ofNat i1)), (.ref a2), (.int (0 : Int32)), (.ref bA)])) rfl (by rw [hml]; rfl) rfl (hb hby d15_22) (by decide) (W := 0) (by show 2 * 0 + _ ≤ _; exact Nat.le_of_eq rfl) (by decide)
  have O6 := O0.keep K5 (allS g_a2 all0)
  have kp7 : Keep h0 h5 [a2] := (Keep.refl h0 [a2]).trans K5 (allS (Or.inl (List.mem_of_getElem? (i := 0) rfl)) all0)
  have Bg : Bar Z h5 a2 kD LD (lst.take (i1) ++ (ds.map cLo) ++ lst.drop (i1 + ds.length)) := ⟨by have q := Vr5; rw [own_n (n := ds.length) (by omega), own_n (n := i1) (by omega), own_cpy (src := (ds.map cLo)) (by rw [List.length_map])] at q; exact q, by simp only [List.length_append, List.length_take, List.length_drop, List.length_map]; omega⟩
  obtain ⟨fs, hr, hrun, hended, hW, hsame⟩ := X5.leave (v := none) (fun _ => rfl)
  refine ⟨_, _, castTop (ef_rs_gb00 m a1 a2 (Int32.ofNat i1) (0 : Int32)) ?_, hrun, hended, _, _, rfl, ?_, ⟨_, rfl⟩, hW, hsame.mono (by decide) (by decide)⟩
  · show Go p e below s₁ m 0 (q_21 a1 a2 i1) [] _
    refine XS.aloadN X0.here hx rfl (hb hby d15_0) rfl rfl ?_
    refine st1 _ ?_
    show Go p e below T1 m 4 (q_21 a1 a2 i1) [(.int (0 : Int32))] _
    refine XS.iloadN X1.here hx rfl (hb hby d15_4) rfl ?_
    refine XS.icmpNo X1.here hx rfl (hb hby d15_5) rfl (teq (by decide)).2 ?_
    refine XS.aloadN X1.here hx rfl (hb hby d15_8) rfl rfl ?_
    refine st2 _ ?_
    show Go p e below T2 m 12 (q_21 a1 a2 i1) [(.ref bA)] _
    refine XS.iconst X2.here hx rfl (hb hby d15_12) ?_
    refine XS.aloadN X2.here hx rfl (hb hby d15_13) rfl rfl ?_
    refine XS.iloadN X2.here hx rfl (hb hby d15_14) rfl ?_
    refine XS.iloadN X2.here hx rfl (hb hby d15_15) rfl ?_
    refine XS.ishl X2.here hx rfl (hb hby d15_16) rfl ?_
    show Go p e below T2 m 17 (q_21 a1 a2 i1) [(.int ((Int32.ofNat i1) <<< ((0 : Int32) &&& 31))), (.ref a2), (.int (0 : Int32)), (.ref bA)] _
    rw [show ((Int32.ofNat i1) <<< ((0 : Int32) &&& 31)) = (Int32.ofNat i1) from own_shl0 _]
    show Go p e below T2 m 17 (q_21 a1 a2 i1) [(.int (Int32.ofNat i1)), (.ref a2), (.int (0 : Int32)), (.ref bA)] _
    refine XS.aloadN X2.here hx rfl (hb hby d15_17) rfl rfl ?_
    refine st3 _ ?_
    show Go p e below T3 m 21 (q_21 a1 a2 i1) [(.ref bA), (.int (Int32.ofNat i1)), (.ref a2), (.int (0 : Int32)), (.ref bA)] _
    refine X3.arraylength hx (by rw [e3]; exact Ar4.1) (State.isArrayOf_alike hZ.alike Ar4.2.1) (g := (mkF m 21 (q_21 a1 a2 i1) [(.ref bA), (.int (Int32.ofNat i1)), (.ref a2), (.int (0 : Int32)), (.ref bA)])) rfl rfl (hb hby d15_21) _ ?_
    rw [len_of Sz4 Nn4]
    refine st5 _ ?_
    show Go p e below T5 m 25 (q_21 a1 a2 i1) [] _
    refine XS.goto X5.here hx rfl (pc0 := 25) (pc' := 43) rfl (hb hby d15_25) (by decide) (by decide) ?_
    show Go p e below T5 m 43 (q_21 a1 a2 i1) [] _
    exact X5.returnOut hx Bd.returns (hb hby d15_43) hr
  · show Qwr Z a2 kD LD (lst.take (i1) ++ (ds.map cLo) ++ lst.drop (i1 + ds.length)) h0 n0 _ T5.heap _
    rw [e5]
    exact ⟨rfl, N5, kp7, Bg⟩
theorem ef_rs_gb11 (m : MethodId) (x0 : Addr) (x1 : Addr) (x2 : Int32) (x3 : Int32) : entryFrame m #[(.ref x0), (.ref x1), (.int x2), (.int x3)] 4 = mkF m 0 #[.val (.ref x0), .val (.ref x1), .val (.int x2), .val (.int x3)] [] := by first | (simp [entryFrame, mkF, argsToLocals, Value.category]; done) | rfl
set_option maxRecDepth 65536 in
set_option maxHeartbeats 40000000 in
theorem rs_gb11 (l : Launch) (Z : State) (a0 : Array Value) (hw : Hw a0 Z) (ws : List Jvm.Cond) (G1 : Int32) (Fm : Value) (a1 : Addr) (bA : Addr) (kA : ClassId) (ds : List UInt16) (a2 : Addr) (kD : ClassId) (LD : Nat) (lst : List Int32) (i1 : Nat) (h0 : Heap) (n0 : Nat) (O0 : Old Z n0 h0) (ST : Stc Z G1 Fm) (HS : Str1 Z h0 a1 bA kA ds) (hds : ds.length ≤ 120) (B2 : Bar Z h0 a2 kD LD lst) (hD : LD ≤ 500) (hfit : 2 * (i1 + ds.length) ≤ LD) (n12 : a1 ≠ a2) (nb2 : bA ≠ a2) (g_a2 : n0 ≤ a2) :
    Met l Z h0 ws Y_5 jdk_42_method_147_code 4 none R_20 #[(.ref a1), (.ref a2), (.int (Int32.ofNat i1)), (.int (1 : Int32))] (Qwr Z a2 kD LD (lst.take (2 * i1) ++ (enc1 ds) ++ lst.drop (2 * i1 + 2 * ds.length)) h0 n0) := by
  refine MetFree.of_bodySF (plainFor_of_name pn2) hisR ?_
  intro p e s m args below meth c s₁ Bd hml0 hP hK
  obtain ⟨rfl, hZ, hh⟩ := hP
  have hx := Bd.exec
  have hby := Bd.bytes
  have hml : c.maxLocals = 4 := hml0
  have hown : s.vm.findClass "java/lang/String" = some m.cls := findClass_of_methodNamed Bd.named
  have hnm := (name_of_methodNamed Bd.named Bd.method).1
  have X0 : Stand p l e R_20 s m #[(.ref a1), (.ref a2), (.int (Int32.ofNat i1)), (.int (1 : Int32))] below meth c s₁ [] 0 0 := Stand.of_body Bd
  have e0 : s₁.heap = h0 := by rw [← hh, Bd.state]; rfl
  have N0 := Fr.nil n0
  obtain ⟨S_cs, hG, S_fm, hF, S_ad, S_hi, S_lo⟩ := id ST
  obtain ⟨E_a1, Fc_a1, Fv_a1, B_bA⟩ := id HS
  have lt_a1 := E_a1.lt
  have V_bA := B_bA.1
  have l_bA := B_bA.2
  have hN_bA : (Int32.ofNat (2 * ds.length)).toNatClampNeg = (enc1 ds).length := by rw [l_bA]; exact own_n (by omega)
  have lt_bA := V_bA.lt
  have V_a2 := B2.1
  have l_a2 := B2.2
  have hN_a2 : (Int32.ofNat LD).toNatClampNeg = lst.length := by rw [l_a2]; exact own_n (by omega)
  have lt_a2 := V_a2.lt
  obtain ⟨_, T1, Lc1, X1, hQ1, st1⟩ := own_vc X0 hx hZ (y := Y_1) hown (tw hw 33 rfl) (tw hw 34 rfl) (tw hw 36 rfl) (tw hw 35 rfl) (by decide) (rs_cd1 l Z a0 hw [] G1 Fm a1 bA kA ds h0 n0 O0 ST HS hds) (tw hw 37 rfl) (tw hw 7 rfl) e0 E_a1 (W := 0) (by decide) (by decide) (Ls := (q_10 a1 a2 i1)) (by rw [hml]; rfl) (argsL := []) (rest := []) (lenOf pd5 rfl) (Nat.le_of_eq rfl) (hb hby d15_1) rfl (by decide) (by decide)
  obtain ⟨rfl, Nq1, e1⟩ := hQ1
  have N1 := Fr.app N0 Nq1
  obtain ⟨T2, X2, e2, st2⟩ := getF X1 hx hZ hown (host := "") (Or.inl (tw hw 25 rfl)) Via.refl e1 Fv_a1 (g := (mkF m 9 (q_10 a1 a2 i1) [(.ref a1)])) rfl rfl (hb hby d15_9)
  obtain ⟨T3, X3, e3, st3⟩ := getF X2 hx hZ hown (host := "") (Or.inl (tw hw 25 rfl)) Via.refl e2 Fv_a1 (g := (mkF m 18 (q_10 a1 a2 i1) [(.ref a1), (.int (Int32.ofNat (2 * i1))), (.ref a2), (.int (0 : Int32)), (.ref bA)])) rfl rfl (hb hby d15_18)
  obtain ⟨cl4, Ar4, q4, Sz4, Nn4, Ha4, Gf4⟩ := id V_bA
  obtain ⟨T5, h5, L5, X5, e5, N5, K5, Vr5, st5⟩ := cpA X3 hx hZ hown (tw hw 100 rfl) (tw hw 103 rfl) (tw hw 101 rfl) (tw hw 102 rfl) e3 V_bA V_a2 (Or.inl ⟨rfl, rfl⟩) (sp := (0 : Int32)) (dp := (Int32.ofNat (2 * i1))) (nn := (Int32.ofNat (2 * ds.length))) (us := ((((enc1 ds).drop 0).take (2 * ds.length)).map Value.int)) (by decide) (own_nn (n := 2 * i1) (by omega)) (own_nn (n := 2 * ds.length) (by omega)) (by rw [own_n (n := 2 * ds.length) (by omega), show (0 : Int32).toNatClampNeg = 0 by decide]; omega) (by rw [own_n (n := 2 * ds.length) (by omega), own_n (n := 2 * i1) (by omega), own_n (n := LD) (by omega)]; omega) (own_us (by decide) (own_n (n := 2 * ds.length) (by omega)) (by rw [enc1_len]; omega)) (by rw [List.length_map, own_n (n := 2 * ds.length) (by omega), own_n (n := 2 * i1) (by omega)]; omega) N1 g_a2 (g := (mkF m 22 (q_10 a1 a2 i1) [(.int (Int32.ofNat (2 * ds.length))), (.int (Int32.ofNat (2 * i1))), (.ref a2), (.int (0 : Int32)), (.ref bA)])) rfl (by rw [hml]; rfl) rfl (hb hby d15_22) (by decide) (W := 0) (by show 2 * 0 + _ ≤ _; exact Nat.le_of_eq rfl) (by decide)
  have O6 := O0.keep K5 (allS g_a2 all0)
  have kp7 : Keep h0 h5 [a2] := (Keep.refl h0 [a2]).trans K5 (allS (Or.inl (List.mem_of_getElem? (i := 0) rfl)) all0)
  have Bg : Bar Z h5 a2 kD LD (lst.take (2 * i1) ++ (enc1 ds) ++ lst.drop (2 * i1 + 2 * ds.length)) := ⟨by have q := Vr5; rw [own_n (n := 2 * ds.length) (by omega), own_n (n := 2 * i1) (by omega), own_cpy (src := (enc1 ds)) (by rw [enc1_len])] at q; exact q, by simp only [List.length_append, List.length_take, List.length_drop, enc1_len]; omega⟩
  obtain ⟨fs, hr, hrun, hended, hW, hsame⟩ := X5.leave (v := none) (fun _ => rfl)
  refine ⟨_, _, castTop (ef_rs_gb11 m a1 a2 (Int32.ofNat i1) (1 : Int32)) ?_, hrun, hended, _, _, rfl, ?_, ⟨_, rfl⟩, hW, hsame.mono (by decide) (by decide)⟩
  · show Go p e below s₁ m 0 (q_10 a1 a2 i1) [] _
    refine XS.aloadN X0.here hx rfl (hb hby d15_0) rfl rfl ?_
    refine st1 _ ?_
    show Go p e below T1 m 4 (q_10 a1 a2 i1) [(.int (1 : Int32))] _
    refine XS.iloadN X1.here hx rfl (hb hby d15_4) rfl ?_
    refine XS.icmpNo X1.here hx rfl (hb hby d15_5) rfl (teq (by decide)).2 ?_
    refine XS.aloadN X1.here hx rfl (hb hby d15_8) rfl rfl ?_
    refine st2 _ ?_
    show Go p e below T2 m 12 (q_10 a1 a2 i1) [(.ref bA)] _
    refine XS.iconst X2.here hx rfl (hb hby d15_12) ?_
    refine XS.aloadN X2.here hx rfl (hb hby d15_13) rfl rfl ?_
    refine XS.iloadN X2.here hx rfl (hb hby d15_14) rfl ?_
    refine XS.iloadN X2.here hx rfl (hb hby d15_15) rfl ?_
    refine XS.ishl X2.here hx rfl (hb hby d15_16) rfl ?_
    show Go p e below T2 m 17 (q_10 a1 a2 i1) [(.int ((Int32.ofNat i1) <<< ((1 : Int32) &&& 31))), (.ref a2), (.int (0 : Int32)), (.ref bA)] _
    rw [show ((Int32.ofNat i1) <<< ((1 : Int32) &&& 31)) = (Int32.ofNat (2 * i1)) from own_shl1 i1]
    show Go p e below T2 m 17 (q_10 a1 a2 i1) [(.int (Int32.ofNat (2 * i1))), (.ref a2), (.int (0 : Int32)), (.ref bA)] _
    refine XS.aloadN X2.here hx rfl (hb hby d15_17) rfl rfl ?_
    refine st3 _ ?_
    show Go p e below T3 m 21 (q_10 a1 a2 i1) [(.ref bA), (.int (Int32.ofNat (2 * i1))), (.ref a2), (.int (0 : Int32)), (.ref bA)] _
    refine X3.arraylength hx (by rw [e3]; exact Ar4.1) (State.isArrayOf_alike hZ.alike Ar4.2.1) (g := (mkF m 21 (q_10 a1 a2 i1) [(.ref bA), (.int (Int32.ofNat (2 * i1))), (.ref a2), (.int (0 : Int32)), (.ref bA)])) rfl rfl (hb hby d15_21) _ ?_
    rw [len_of Sz4 Nn4]
    refine st5 _ ?_
    show Go p e below T5 m 25 (q_10 a1 a2 i1) [] _
    refine XS.goto X5.here hx rfl (pc0 := 25) (pc' := 43) rfl (hb hby d15_25) (by decide) (by decide) ?_
    show Go p e below T5 m 43 (q_10 a1 a2 i1) [] _
    exact X5.returnOut hx Bd.returns (hb hby d15_43) hr
  · show Qwr Z a2 kD LD (lst.take (2 * i1) ++ (enc1 ds) ++ lst.drop (2 * i1 + 2 * ds.length)) h0 n0 _ T5.heap _
    rw [e5]
    exact ⟨rfl, N5, kp7, Bg⟩
theorem d15_28 : Dc cb44 28 (.aload_n 0) 1 := by decide +kernel
theorem d15_29 : Dc cb44 29 (.getfield 9) 3 := by decide +kernel
theorem d15_32 : Dc cb44 32 (.iconst 0) 1 := by decide +kernel
theorem d15_33 : Dc cb44 33 (.aload_n 1) 1 := by decide +kernel
theorem d15_34 : Dc cb44 34 (.iload_n 2) 1 := by decide +kernel
theorem d15_35 : Dc cb44 35 (.aload_n 0) 1 := by decide +kernel
theorem d15_36 : Dc cb44 36 (.getfield 9) 3 := by decide +kernel
theorem d15_39 : Dc cb44 39 .arraylength 1 := by decide +kernel
theorem d15_40 : Dc cb44 40 (.invokestatic 106) 3 := by decide +kernel
theorem ef_rs_gb10 (m : MethodId) (x0 : Addr) (x1 : Addr) (x2 : Int32) (x3 : Int32) : entryFrame m #[(.ref x0), (.ref x1), (.int x2), (.int x3)] 4 = mkF m 0 #[.val (.ref x0), .val (.ref x1), .val (.int x2), .val (.int x3)] [] := by first | (simp [entryFrame, mkF, argsToLocals, Value.category]; done) | rfl
set_option maxRecDepth 65536 in
set_option maxHeartbeats 40000000 in
theorem rs_gb10 (l : Launch) (Z : State) (a0 : Array Value) (hw : Hw a0 Z) (ws : List Jvm.Cond) (G1 : Int32) (Fm : Value) (a1 : Addr) (bA : Addr) (kA : ClassId) (ds : List UInt16) (a2 : Addr) (kD : ClassId) (LD : Nat) (lst : List Int32) (i1 : Nat) (h0 : Heap) (n0 : Nat) (O0 : Old Z n0 h0) (ST : Stc Z G1 Fm) (HS : Str0 Z h0 a1 bA kA ds) (hds : ds.length ≤ 120) (B2 : Bar Z h0 a2 kD LD lst) (hD : LD ≤ 500) (hfit : 2 * (i1 + ds.length) ≤ LD) (n12 : a1 ≠ a2) (nb2 : bA ≠ a2) (g_a2 : n0 ≤ a2) :
    Met l Z h0 ws Y_5 jdk_42_method_147_code 4 none R_45 #[(.ref a1), (.ref a2), (.int (Int32.ofNat i1)), (.int (1 : Int32))] (Qwr Z a2 kD LD (puts lst i1 ds) h0 n0) := by
  refine MetFree.of_bodySF (plainFor_of_name pn2) hisR ?_
  intro p e s m args below meth c s₁ Bd hml0 hP hK
  obtain ⟨rfl, hZ, hh⟩ := hP
  have hx := Bd.exec
  have hby := Bd.bytes
  have hml : c.maxLocals = 4 := hml0
  have hown : s.vm.findClass "java/lang/String" = some m.cls := findClass_of_methodNamed Bd.named
  have hnm := (name_of_methodNamed Bd.named Bd.method).1
  have X0 : Stand p l e R_45 s m #[(.ref a1), (.ref a2), (.int (Int32.ofNat i1)), (.int (1 : Int32))] below meth c s₁ [] 0 0 := Stand.of_body Bd
  have e0 : s₁.heap = h0 := by rw [← hh, Bd.state]; rfl
  have N0 := Fr.nil n0
  obtain ⟨S_cs, hG, S_fm, hF, S_ad, S_hi, S_lo⟩ := id ST
  obtain ⟨E_a1, Fc_a1, Fv_a1, B_bA, hu_a1⟩ := id HS
  have lt_a1 := E_a1.lt
  have V_bA := B_bA.1
  have l_bA := B_bA.2
  have hN_bA : (Int32.ofNat ds.length).toNatClampNeg = (ds.map cLo).length := by rw [l_bA]; exact own_n (by omega)
  have lt_bA := V_bA.lt
  have V_a2 := B2.1
  have l_a2 := B2.2
  have hN_a2 : (Int32.ofNat LD).toNatClampNeg = lst.length := by rw [l_a2]; exact own_n (by omega)
  have lt_a2 := V_a2.lt
  obtain ⟨_, T1, Lc1, X1, hQ1, st1⟩ := own_vc X0 hx hZ (y := Y_1) hown (tw hw 33 rfl) (tw hw 34 rfl) (tw hw 36 rfl) (tw hw 35 rfl) (by decide) (rs_cd0 l Z a0 hw [] G1 Fm a1 bA kA ds h0 n0 O0 ST HS hds) (tw hw 37 rfl) (tw hw 7 rfl) e0 E_a1 (W := 0) (by decide) (by decide) (Ls := (q_10 a1 a2 i1)) (by rw [hml]; rfl) (argsL := []) (rest := []) (lenOf pd5 rfl) (Nat.le_of_eq rfl) (hb hby d15_1) rfl (by decide) (by decide)
  obtain ⟨rfl, Nq1, e1⟩ := hQ1
  have N1 := Fr.app N0 Nq1
  obtain ⟨T2, X2, e2, st2⟩ := getF X1 hx hZ hown (host := "") (Or.inl (tw hw 25 rfl)) Via.refl e1 Fv_a1 (g := (mkF m 29 (q_10 a1 a2 i1) [(.ref a1)])) rfl rfl (hb hby d15_29)
  obtain ⟨T3, X3, e3, st3⟩ := getF X2 hx hZ hown (host := "") (Or.inl (tw hw 25 rfl)) Via.refl e2 Fv_a1 (g := (mkF m 36 (q_10 a1 a2 i1) [(.ref a1), (.int (Int32.ofNat i1)), (.ref a2), (.int (0 : Int32)), (.ref bA)])) rfl rfl (hb hby d15_36)
  obtain ⟨cl4, Ar4, q4, Sz4, Nn4, Ha4, Gf4⟩ := id V_bA
  obtain ⟨_, T5, Lc5, X5, hQ5, st5⟩ := own_sc X3 hx hZ (y := Y_35) hown (tw hw 334 rfl) (tw hw 317 rfl) (by decide) (rl_inf l Z a0 hw [] G1 Fm bA kA ds.length (ds.map cLo) a2 kD LD lst ds i1 h0 n0 O0 ST B_bA B2 (by omega) hD (by omega) own_srcB hu_a1 hfit nb2 g_a2) (tw hw 318 rfl) (tw hw 258 rfl) e3 (W := 0) (by decide) (by decide) (Ls := (q_10 a1 a2 i1)) (by rw [hml]; rfl) (argsL := [(.ref bA), (.int (0 : Int32)), (.ref a2), (.int (Int32.ofNat i1)), (.int (Int32.ofNat ds.length))]) (rest := []) (lenOf pd15 rfl) (Nat.le_of_eq rfl) (hb hby d15_40) rfl (by decide) (by decide)
  obtain ⟨h5, e5⟩ : ∃ z, T5.heap = z := ⟨_, rfl⟩
  rw [e5] at hQ5
  obtain ⟨rfl, Nq5, K5, Bi5⟩ := hQ5
  have N5 := Fr.app N1 Nq5
  have O6 := O0.keep K5 (allS g_a2 all0)
  have kp7 : Keep h0 h5 [a2] := (Keep.refl h0 [a2]).trans K5 (allS (Or.inl (List.mem_of_getElem? (i := 0) rfl)) all0)
  have Bg := Bi5
  obtain ⟨fs, hr, hrun, hended, hW, hsame⟩ := X5.leave (v := none) (fun _ => rfl)
  refine ⟨_, _, castTop (ef_rs_gb10 m a1 a2 (Int32.ofNat i1) (1 : Int32)) ?_, hrun, hended, _, _, rfl, ?_, ⟨_, rfl⟩, hW, hsame.mono (by decide) (by decide)⟩
  · show Go p e below s₁ m 0 (q_10 a1 a2 i1) [] _
    refine XS.aloadN X0.here hx rfl (hb hby d15_0) rfl rfl ?_
    refine st1 _ ?_
    show Go p e below T1 m 4 (q_10 a1 a2 i1) [(.int (0 : Int32))] _
    refine XS.iloadN X1.here hx rfl (hb hby d15_4) rfl ?_
    refine XS.icmpYes X1.here hx rfl (pc0 := 5) (pc' := 28) rfl (hb hby d15_5) rfl (feq (by decide)).2 (by decide) (by decide) ?_
    refine XS.aloadN X1.here hx rfl (hb hby d15_28) rfl rfl ?_
    refine st2 _ ?_
    show Go p e below T2 m 32 (q_10 a1 a2 i1) [(.ref bA)] _
    refine XS.iconst X2.here hx rfl (hb hby d15_32) ?_
    refine XS.aloadN X2.here hx rfl (hb hby d15_33) rfl rfl ?_
    refine XS.iloadN X2.here hx rfl (hb hby d15_34) rfl ?_
    refine XS.aloadN X2.here hx rfl (hb hby d15_35) rfl rfl ?_
    refine st3 _ ?_
    show Go p e below T3 m 39 (q_10 a1 a2 i1) [(.ref bA), (.int (Int32.ofNat i1)), (.ref a2), (.int (0 : Int32)), (.ref bA)] _
    refine X3.arraylength hx (by rw [e3]; exact Ar4.1) (State.isArrayOf_alike hZ.alike Ar4.2.1) (g := (mkF m 39 (q_10 a1 a2 i1) [(.ref bA), (.int (Int32.ofNat i1)), (.ref a2), (.int (0 : Int32)), (.ref bA)])) rfl rfl (hb hby d15_39) _ ?_
    rw [len_of Sz4 Nn4]
    refine st5 _ ?_
    show Go p e below T5 m 43 (q_10 a1 a2 i1) [] _
    exact X5.returnOut hx Bd.returns (hb hby d15_43) hr
  · show Qwr Z a2 kD LD (puts lst i1 ds) h0 n0 _ T5.heap _
    rw [e5]
    exact ⟨rfl, N5, kp7, Bg⟩
theorem d13_0 : Dc cb45 0 (.aload_n 0) 1 := by decide +kernel
theorem d13_1 : Dc cb45 1 (.aload_n 2) 1 := by decide +kernel
theorem d13_2 : Dc cb45 2 (.invokevirtual 397) 3 := by decide +kernel
theorem pd26 : parseMethodDescriptor "(Ljava/lang/String;)V" = some ⟨[(.object "java/lang/String")], none⟩ := by decide +kernel
theorem d13_5 : Dc cb45 5 (.aload_n 2) 1 := by decide +kernel
theorem d13_6 : Dc cb45 6 (.aload_n 0) 1 := by decide +kernel
theorem d13_7 : Dc cb45 7 (.getfield 15) 3 := by decide +kernel
theorem d13_10 : Dc cb45 10 (.iload_n 1) 1 := by decide +kernel
theorem d13_11 : Dc cb45 11 (.aload_n 0) 1 := by decide +kernel
theorem d13_12 : Dc cb45 12 (.getfield 22) 3 := by decide +kernel
theorem d13_15 : Dc cb45 15 (.invokevirtual 399) 3 := by decide +kernel
theorem pd27 : parseMethodDescriptor "([BIB)V" = some ⟨[(.array .byte), .int, .byte], none⟩ := by decide +kernel
theorem d13_18 : Dc cb45 18 .return_ 1 := by decide +kernel
theorem ef_rb_ps00 (m : MethodId) (x0 : Addr) (x1 : Int32) (x2 : Addr) : entryFrame m #[(.ref x0), (.int x1), (.ref x2)] 3 = mkF m 0 #[.val (.ref x0), .val (.int x1), .val (.ref x2)] [] := by first | (simp [entryFrame, mkF, argsToLocals, Value.category]; done) | rfl
set_option maxRecDepth 65536 in
set_option maxHeartbeats 40000000 in
theorem rb_ps00 (l : Launch) (Z : State) (a0 : Array Value) (hw : Hw a0 Z) (ws : List Jvm.Cond) (G1 : Int32) (Fm : Value) (a1 : Addr) (bA : Addr) (kA : ClassId) (LB : Nat) (cs : List UInt16) (a2 : Addr) (bS : Addr) (kS : ClassId) (ds : List UInt16) (h0 : Heap) (n0 : Nat) (O0 : Old Z n0 h0) (ST : Stc Z G1 Fm) (HB : Sb0 Z h0 a1 bA kA LB cs.length cs) (hnn : cs.length ≤ 120) (g_a1 : n0 ≤ a1) (g_bA : n0 ≤ bA) (HS : Str0 Z h0 a2 bS kS ds) (hds : ds.length ≤ 120) (hfit : (cs.length + ds.length) ≤ LB) (htot : cs.length + ds.length ≤ 120) (nSb : bS ≠ bA) :
    Met l Z h0 ws Y_8 jdk_68_method_73_code 3 none R_21 #[(.ref a1), (.int (Int32.ofNat cs.length)), (.ref a2)] (Qsv (fun h b k LB' => Sb0 Z h a1 b k LB' cs.length (cs ++ ds)) none a1 bA h0 n0) := by
  refine MetFree.of_bodySF (plainFor_of_name pn6) hisR ?_
  intro p e s m args below meth c s₁ Bd hml0 hP hK
  obtain ⟨rfl, hZ, hh⟩ := hP
  have hx := Bd.exec
  have hby := Bd.bytes
  have hml : c.maxLocals = 3 := hml0
  have hown : s.vm.findClass "java/lang/AbstractStringBuilder" = some m.cls := findClass_of_methodNamed Bd.named
  have hnm := (name_of_methodNamed Bd.named Bd.method).1
  have X0 : Stand p l e R_21 s m #[(.ref a1), (.int (Int32.ofNat cs.length)), (.ref a2)] below meth c s₁ [] 0 0 := Stand.of_body Bd
  have e0 : s₁.heap = h0 := by rw [← hh, Bd.state]; rfl
  have N0 := Fr.nil n0
  obtain ⟨S_cs, hG, S_fm, hF, S_ad, S_hi, S_lo⟩ := id ST
  obtain ⟨Es, Fv, Fc, Fn, Fy, Eb, hu, hL, tl, Bs⟩ := id HB
  have Vs := Bs.1
  have ls := Bs.2
  have hNs : (Int32.ofNat LB).toNatClampNeg = (cs.map cLo ++ tl).length := by rw [ls]; exact own_n (by omega)
  have lq : cs.length + tl.length = LB := by rw [← ls]; simp only [List.length_append, List.length_map, enc1_len]
  have lt_a1 := Es.lt
  have lt_bA := Vs.lt
  have n_ab : a1 ≠ bA := Exa.neArv Es Vs (tw hw 48 rfl)
  obtain ⟨E_a2, Fc_a2, Fv_a2, B_bS, hu_a2⟩ := id HS
  have lt_a2 := E_a2.lt
  have V_bS := B_bS.1
  have l_bS := B_bS.2
  have hN_bS : (Int32.ofNat ds.length).toNatClampNeg = (ds.map cLo).length := by rw [l_bS]; exact own_n (by omega)
  have lt_bS := V_bS.lt
  have n_21 : a2 ≠ a1 := Exa.ne E_a2 Es (by decide)
  have n_b1 : bS ≠ a1 := Ne.symm (Exa.neArv Es V_bS (tw hw 48 rfl))
  have n_2b : a2 ≠ bA := Exa.neArv E_a2 Vs (tw hw 6 rfl)
  have n_2s : a2 ≠ bS := Exa.neArv E_a2 V_bS (tw hw 6 rfl)
  obtain ⟨cq1, qa1, qb1⟩ := (Es).cell
  obtain ⟨_, _, ⟨T1, L1, k1, n1⟩, -, X1, ⟨Lc1, hQ1, l1, y1, z1⟩, st1⟩ := X0.privateBack hx (y := Y_7) hown (mvT hZ (tw hw 89 rfl)) (mvT hZ (tw hw 90 rfl)) (own_selQ hZ (C := "java/lang/StringBuilder") (tw hw 92 rfl) (tw hw 91 rfl) (tw hw 90 rfl)) (Cond.privateMethod_at (mvP hZ (tw hw 91 rfl) (args := #[]))) (mvT hZ (tw hw 93 rfl)) (by decide) (backOf (W := 0) (rb_in00 l Z a0 hw [] G1 Fm a1 bA kA LB cs a2 bS kS ds h0 n0 O0 ST HB hnn g_a1 g_bA HS hds) hZ (tw hw 93 rfl) (tw hw 57 rfl) (by decide) (by decide)) (g := (mkF m 2 (q_5 a1 cs a2) [(.ref a2), (.ref a1)])) rfl (by rw [hml]; rfl) (Steps.refl _) (a := a1) (by rw [e0]; exact qa1) qb1 (argsL := [(.ref a2)]) (rest := []) (lenOf pd26 rfl) rfl (by show 2 * 0 + _ ≤ _; exact Nat.le_of_eq rfl) (hb hby d13_2) (fun _ _ => ⟨rfl, e0, (by decide : 0 + 0 ≤ _), (by decide : 0 + 0 ≤ _)⟩)
  dsimp only [Pt.U, Pt.locs, Pt.cells, Pt.slots] at X1 l1 y1 z1 st1 hQ1
  subst l1 y1 z1
  obtain ⟨rfl, Nq1, e1⟩ := hQ1
  have N1 := Fr.app N0 Nq1
  obtain ⟨T2, X2, e2, st2⟩ := getF X1 hx hZ hown (host := "") (Or.inl (tw hw 61 rfl)) Via.refl e1 Fv (g := (mkF m 7 (q_5 a1 cs a2) [(.ref a1), (.ref a2)])) rfl rfl (hb hby d13_7)
  obtain ⟨T3, X3, e3, st3⟩ := getF X2 hx hZ hown (host := "") (Or.inl (tw hw 63 rfl)) Via.refl e2 Fc (g := (mkF m 12 (q_5 a1 cs a2) [(.ref a1), (.int (Int32.ofNat cs.length)), (.ref bA), (.ref a2)])) rfl rfl (hb hby d13_12)
  obtain ⟨_, T4, Lc4, X4, hQ4, st4⟩ := own_vc X3 hx hZ (y := Y_5) hown (tw hw 95 rfl) (tw hw 96 rfl) (tw hw 98 rfl) (tw hw 97 rfl) (by decide) (rs_gb00 l Z a0 hw [] G1 Fm a2 bS kS ds bA kA LB (cs.map cLo ++ tl) cs.length h0 n0 O0 ST ⟨E_a2, Fc_a2, Fv_a2, ⟨V_bS, B_bS.2⟩, hu_a2⟩ hds ⟨Vs, ls⟩ (by omega) (by omega) n_2b nSb g_bA) (tw hw 99 rfl) (tw hw 7 rfl) e3 E_a2 (W := 0) (by decide) (by decide) (Ls := (q_5 a1 cs a2)) (by rw [hml]; rfl) (argsL := [(.ref bA), (.int (Int32.ofNat cs.length)), (.int (0 : Int32))]) (rest := []) (lenOf pd27 rfl) (Nat.le_of_eq rfl) (hb hby d13_15) rfl (by decide) (by decide)
  obtain ⟨h4, e4⟩ : ∃ z, T4.heap = z := ⟨_, rfl⟩
  rw [e4] at hQ4
  obtain ⟨rfl, Nq4, K4, Bi4⟩ := hQ4
  have N4 := Fr.app N1 Nq4
  have O5 := O0.keep K4 (allS g_bA all0)
  have kp6 : Keep h0 h4 [a1, bA] := (Keep.refl h0 [a1, bA]).trans K4 (allS (Or.inl (List.mem_of_getElem? (i := 1) rfl)) all0)
  have Bq : Bar Z h4 bA kA LB ((cs ++ ds).map cLo ++ tl.drop ds.length) := by rw [← own_w0]; exact Bi4
  obtain ⟨fs, hr, hrun, hended, hW, hsame⟩ := X4.leave (v := none) (fun _ => rfl)
  refine ⟨_, _, castTop (ef_rb_ps00 m a1 (Int32.ofNat cs.length) a2) ?_, hrun, hended, _, _, rfl, ?_, ⟨_, rfl⟩, hW, hsame.mono (by decide) (by decide)⟩
  · show Go p e below s₁ m 0 (q_5 a1 cs a2) [] _
    refine XS.aloadN X0.here hx rfl (hb hby d13_0) rfl rfl ?_
    refine XS.aloadN X0.here hx rfl (hb hby d13_1) rfl rfl ?_
    refine st1.trans ?_
    show Go p e below T1 m 5 (q_5 a1 cs a2) [] _
    refine XS.aloadN X1.here hx rfl (hb hby d13_5) rfl rfl ?_
    refine XS.aloadN X1.here hx rfl (hb hby d13_6) rfl rfl ?_
    refine st2 _ ?_
    show Go p e below T2 m 10 (q_5 a1 cs a2) [(.ref bA), (.ref a2)] _
    refine XS.iloadN X2.here hx rfl (hb hby d13_10) rfl ?_
    refine XS.aloadN X2.here hx rfl (hb hby d13_11) rfl rfl ?_
    refine st3 _ ?_
    refine st4 _ ?_
    show Go p e below T4 m 18 (q_5 a1 cs a2) [] _
    exact X4.returnOut hx Bd.returns (hb hby d13_18) hr
  · show Qsv (fun h b k LB' => Sb0 Z h a1 b k LB' cs.length (cs ++ ds)) none a1 bA h0 n0 _ T4.heap _
    rw [e4]
    exact ⟨rfl, N4, kp6, bA, _, LB, Or.inl rfl, ⟨(Es.keep K4), (Fv.keep K4 (ninS n_ab nin0)), (Fc.keep K4 (ninS n_ab nin0)), (Fn.keep K4 (ninS n_ab nin0)), (Fy.keep K4 (ninS n_ab nin0)), (Eb.keep K4), (own_all hu hu_a2), (by omega), _, ⟨Bq.1, Bq.2⟩⟩⟩
theorem ef_rb_ps01 (m : MethodId) (x0 : Addr) (x1 : Int32) (x2 : Addr) : entryFrame m #[(.ref x0), (.int x1), (.ref x2)] 3 = mkF m 0 #[.val (.ref x0), .val (.int x1), .val (.ref x2)] [] := by first | (simp [entryFrame, mkF, argsToLocals, Value.category]; done) | rfl
set_option maxRecDepth 65536 in
set_option maxHeartbeats 40000000 in
theorem rb_ps01 (l : Launch) (Z : State) (a0 : Array Value) (hw : Hw a0 Z) (ws : List Jvm.Cond) (G1 : Int32) (Fm : Value) (a1 : Addr) (bA : Addr) (kA : ClassId) (LB : Nat) (cs : List UInt16) (a2 : Addr) (bS : Addr) (kS : ClassId) (ds : List UInt16) (h0 : Heap) (n0 : Nat) (O0 : Old Z n0 h0) (ST : Stc Z G1 Fm) (HB : Sb0 Z h0 a1 bA kA LB cs.length cs) (hnn : cs.length ≤ 120) (g_a1 : n0 ≤ a1) (g_bA : n0 ≤ bA) (HS : Str1 Z h0 a2 bS kS ds) (hds : ds.length ≤ 120) (hfit : (cs.length + ds.length) ≤ LB) (htot : cs.length + ds.length ≤ 120) (nSb : bS ≠ bA) :
    Met l Z h0 ws Y_8 jdk_68_method_73_code 3 none R_46 #[(.ref a1), (.int (Int32.ofNat cs.length)), (.ref a2)] (Qsv (fun h b k LB' => Sb1 Z h a1 b k LB' cs.length (cs ++ ds)) none a1 bA h0 n0) := by
  refine MetFree.of_bodySF (plainFor_of_name pn6) hisR ?_
  intro p e s m args below meth c s₁ Bd hml0 hP hK
  obtain ⟨rfl, hZ, hh⟩ := hP
  have hx := Bd.exec
  have hby := Bd.bytes
  have hml : c.maxLocals = 3 := hml0
  have hown : s.vm.findClass "java/lang/AbstractStringBuilder" = some m.cls := findClass_of_methodNamed Bd.named
  have hnm := (name_of_methodNamed Bd.named Bd.method).1
  have X0 : Stand p l e R_46 s m #[(.ref a1), (.int (Int32.ofNat cs.length)), (.ref a2)] below meth c s₁ [] 0 0 := Stand.of_body Bd
  have e0 : s₁.heap = h0 := by rw [← hh, Bd.state]; rfl
  have N0 := Fr.nil n0
  obtain ⟨S_cs, hG, S_fm, hF, S_ad, S_hi, S_lo⟩ := id ST
  obtain ⟨Es, Fv, Fc, Fn, Fy, Eb, hu, hL, tl, Bs⟩ := id HB
  have Vs := Bs.1
  have ls := Bs.2
  have hNs : (Int32.ofNat LB).toNatClampNeg = (cs.map cLo ++ tl).length := by rw [ls]; exact own_n (by omega)
  have lq : cs.length + tl.length = LB := by rw [← ls]; simp only [List.length_append, List.length_map, enc1_len]
  have lt_a1 := Es.lt
  have lt_bA := Vs.lt
  have n_ab : a1 ≠ bA := Exa.neArv Es Vs (tw hw 48 rfl)
  obtain ⟨E_a2, Fc_a2, Fv_a2, B_bS⟩ := id HS
  have lt_a2 := E_a2.lt
  have V_bS := B_bS.1
  have l_bS := B_bS.2
  have hN_bS : (Int32.ofNat (2 * ds.length)).toNatClampNeg = (enc1 ds).length := by rw [l_bS]; exact own_n (by omega)
  have lt_bS := V_bS.lt
  have n_21 : a2 ≠ a1 := Exa.ne E_a2 Es (by decide)
  have n_b1 : bS ≠ a1 := Ne.symm (Exa.neArv Es V_bS (tw hw 48 rfl))
  have n_2b : a2 ≠ bA := Exa.neArv E_a2 Vs (tw hw 6 rfl)
  have n_2s : a2 ≠ bS := Exa.neArv E_a2 V_bS (tw hw 6 rfl)
  obtain ⟨cq1, qa1, qb1⟩ := (Es).cell
  obtain ⟨_, _, ⟨T1, L1, k1, n1⟩, -, X1, ⟨Lc1, hQ1, l1, y1, z1⟩, st1⟩ := X0.privateBack hx (y := Y_7) hown (mvT hZ (tw hw 89 rfl)) (mvT hZ (tw hw 90 rfl)) (own_selQ hZ (C := "java/lang/StringBuilder") (tw hw 92 rfl) (tw hw 91 rfl) (tw hw 90 rfl)) (Cond.privateMethod_at (mvP hZ (tw hw 91 rfl) (args := #[]))) (mvT hZ (tw hw 93 rfl)) (by decide) (backOf (W := 0) (rb_in01 l Z a0 hw [] G1 Fm a1 bA kA LB cs a2 bS kS ds h0 n0 O0 ST HB hnn g_a1 g_bA HS hds) hZ (tw hw 93 rfl) (tw hw 57 rfl) (by decide) (by decide)) (g := (mkF m 2 (q_5 a1 cs a2) [(.ref a2), (.ref a1)])) rfl (by rw [hml]; rfl) (Steps.refl _) (a := a1) (by rw [e0]; exact qa1) qb1 (argsL := [(.ref a2)]) (rest := []) (lenOf pd26 rfl) rfl (by show 2 * 0 + _ ≤ _; exact Nat.le_of_eq rfl) (hb hby d13_2) (fun _ _ => ⟨rfl, e0, (by decide : 0 + 1 ≤ _), (by decide : 0 + 500 ≤ _)⟩)
  dsimp only [Pt.U, Pt.locs, Pt.cells, Pt.slots] at X1 l1 y1 z1 st1 hQ1
  subst l1 y1 z1
  obtain ⟨h1, e1⟩ : ∃ z, T1.heap = z := ⟨_, rfl⟩
  rw [e1] at hQ1
  obtain ⟨rfl, Nq1, K1, x1, kx1, LBx1, szt1, HBx1, hLx1⟩ := hQ1
  have N1 := Fr.app N0 Nq1
  have O2 := O0.keep K1 (allS g_a1 all0)
  have kp3 : Keep h0 h1 [a1, bA] := (Keep.refl h0 [a1, bA]).trans K1 (allS (Or.inl (List.mem_of_getElem? (i := 0) rfl)) all0)
  have sz_x1 := Nat.le_trans (Keep.refl h0 [a1, bA]).1 szt1
  have g_x1 : n0 ≤ x1 := Nat.le_trans (Nat.le_trans (Nat.le_of_eq O0.1.symm) O0.2.1) sz_x1
  have lt_a1_x1 : a1 < x1 := Nat.lt_of_lt_of_le lt_a1 sz_x1
  have lt_bA_x1 : bA < x1 := Nat.lt_of_lt_of_le lt_bA sz_x1
  have lt_a2_x1 : a2 < x1 := Nat.lt_of_lt_of_le lt_a2 sz_x1
  have lt_bS_x1 : bS < x1 := Nat.lt_of_lt_of_le lt_bS sz_x1
  obtain ⟨Es_n, Fv_n, Fc_n, Fn_n, Fy_n, Eb_n, hL_n, tl_n, Bs_n⟩ := id HBx1
  have Vs_n := Bs_n.1
  have ls_n := Bs_n.2
  have hNs_n : (Int32.ofNat LBx1).toNatClampNeg = (enc1 cs ++ tl_n).length := by rw [ls_n]; exact own_n (by omega)
  have lq_n : 2 * cs.length + tl_n.length = LBx1 := by rw [← ls_n]; simp only [List.length_append, List.length_map, enc1_len]
  obtain ⟨T4, X4, e4, st4⟩ := getF X1 hx hZ hown (host := "") (Or.inl (tw hw 61 rfl)) Via.refl e1 Fv_n (g := (mkF m 7 (q_5 a1 cs a2) [(.ref a1), (.ref a2)])) rfl rfl (hb hby d13_7)
  obtain ⟨T5, X5, e5, st5⟩ := getF X4 hx hZ hown (host := "") (Or.inl (tw hw 63 rfl)) Via.refl e4 Fc_n (g := (mkF m 12 (q_5 a1 cs a2) [(.ref a1), (.int (Int32.ofNat cs.length)), (.ref x1), (.ref a2)])) rfl rfl (hb hby d13_12)
  obtain ⟨_, T6, Lc6, X6, hQ6, st6⟩ := own_vc X5 hx hZ (y := Y_5) hown (tw hw 95 rfl) (tw hw 96 rfl) (tw hw 98 rfl) (tw hw 97 rfl) (by decide) (rs_gb11 l Z a0 hw [] G1 Fm a2 bS kS ds x1 kx1 LBx1 (enc1 cs ++ tl_n) cs.length h1 n0 O2 ST ⟨(E_a2.keep K1), (Fc_a2.keep K1 (ninS n_21 nin0)), (Fv_a2.keep K1 (ninS n_21 nin0)), ⟨(V_bS.keep K1 (ninS n_b1 nin0)), B_bS.2⟩⟩ hds ⟨Vs_n, ls_n⟩ (by omega) (by omega) (Nat.ne_of_lt lt_a2_x1) (Nat.ne_of_lt lt_bS_x1) g_x1) (tw hw 99 rfl) (tw hw 7 rfl) e5 (E_a2.keep K1) (W := 0) (by decide) (by decide) (Ls := (q_5 a1 cs a2)) (by rw [hml]; rfl) (argsL := [(.ref x1), (.int (Int32.ofNat cs.length)), (.int (1 : Int32))]) (rest := []) (lenOf pd27 rfl) (Nat.le_of_eq rfl) (hb hby d13_15) rfl (by decide) (by decide)
  obtain ⟨h6, e6⟩ : ∃ z, T6.heap = z := ⟨_, rfl⟩
  rw [e6] at hQ6
  obtain ⟨rfl, Nq6, K6, Bi6⟩ := hQ6
  have N6 := Fr.app N1 Nq6
  have O7 := O2.keep K6 (allS g_x1 all0)
  have kp8 : Keep h0 h6 [a1, bA] := kp3.trans K6 (allS (Or.inr sz_x1) all0)
  have Bq : Bar Z h6 x1 kx1 LBx1 (enc1 (cs ++ ds) ++ tl_n.drop (2 * ds.length)) := by rw [← own_w1]; exact Bi6
  obtain ⟨fs, hr, hrun, hended, hW, hsame⟩ := X6.leave (v := none) (fun _ => rfl)
  refine ⟨_, _, castTop (ef_rb_ps01 m a1 (Int32.ofNat cs.length) a2) ?_, hrun, hended, _, _, rfl, ?_, ⟨_, rfl⟩, hW, hsame.mono (by decide) (by decide)⟩
  · show Go p e below s₁ m 0 (q_5 a1 cs a2) [] _
    refine XS.aloadN X0.here hx rfl (hb hby d13_0) rfl rfl ?_
    refine XS.aloadN X0.here hx rfl (hb hby d13_1) rfl rfl ?_
    refine st1.trans ?_
    show Go p e below T1 m 5 (q_5 a1 cs a2) [] _
    refine XS.aloadN X1.here hx rfl (hb hby d13_5) rfl rfl ?_
    refine XS.aloadN X1.here hx rfl (hb hby d13_6) rfl rfl ?_
    refine st4 _ ?_
    show Go p e below T4 m 10 (q_5 a1 cs a2) [(.ref x1), (.ref a2)] _
    refine XS.iloadN X4.here hx rfl (hb hby d13_10) rfl ?_
    refine XS.aloadN X4.here hx rfl (hb hby d13_11) rfl rfl ?_
    refine st5 _ ?_
    refine st6 _ ?_
    show Go p e below T6 m 18 (q_5 a1 cs a2) [] _
    exact X6.returnOut hx Bd.returns (hb hby d13_18) hr
  · show Qsv (fun h b k LB' => Sb1 Z h a1 b k LB' cs.length (cs ++ ds)) none a1 bA h0 n0 _ T6.heap _
    rw [e6]
    exact ⟨rfl, N6, kp8, x1, _, LBx1, Or.inr sz_x1, ⟨(Es_n.keep K6), (Fv_n.keep K6 (ninS (Nat.ne_of_lt lt_a1_x1) nin0)), (Fc_n.keep K6 (ninS (Nat.ne_of_lt lt_a1_x1) nin0)), (Fn_n.keep K6 (ninS (Nat.ne_of_lt lt_a1_x1) nin0)), (Fy_n.keep K6 (ninS (Nat.ne_of_lt lt_a1_x1) nin0)), (Eb_n.keep K6), (by omega), _, ⟨Bq.1, Bq.2⟩⟩⟩
theorem ef_rb_ps10 (m : MethodId) (x0 : Addr) (x1 : Int32) (x2 : Addr) : entryFrame m #[(.ref x0), (.int x1), (.ref x2)] 3 = mkF m 0 #[.val (.ref x0), .val (.int x1), .val (.ref x2)] [] := by first | (simp [entryFrame, mkF, argsToLocals, Value.category]; done) | rfl
set_option maxRecDepth 65536 in
set_option maxHeartbeats 40000000 in
theorem rb_ps10 (l : Launch) (Z : State) (a0 : Array Value) (hw : Hw a0 Z) (ws : List Jvm.Cond) (G1 : Int32) (Fm : Value) (a1 : Addr) (bA : Addr) (kA : ClassId) (LB : Nat) (cs : List UInt16) (a2 : Addr) (bS : Addr) (kS : ClassId) (ds : List UInt16) (h0 : Heap) (n0 : Nat) (O0 : Old Z n0 h0) (ST : Stc Z G1 Fm) (HB : Sb1 Z h0 a1 bA kA LB cs.length cs) (hnn : cs.length ≤ 120) (g_a1 : n0 ≤ a1) (g_bA : n0 ≤ bA) (HS : Str0 Z h0 a2 bS kS ds) (hds : ds.length ≤ 120) (hfit : 2 * (cs.length + ds.length) ≤ LB) (htot : cs.length + ds.length ≤ 120) (nSb : bS ≠ bA) :
    Met l Z h0 ws Y_8 jdk_68_method_73_code 3 none R_47 #[(.ref a1), (.int (Int32.ofNat cs.length)), (.ref a2)] (Qsv (fun h b k LB' => Sb1 Z h a1 b k LB' cs.length (cs ++ ds)) none a1 bA h0 n0) := by
  refine MetFree.of_bodySF (plainFor_of_name pn6) hisR ?_
  intro p e s m args below meth c s₁ Bd hml0 hP hK
  obtain ⟨rfl, hZ, hh⟩ := hP
  have hx := Bd.exec
  have hby := Bd.bytes
  have hml : c.maxLocals = 3 := hml0
  have hown : s.vm.findClass "java/lang/AbstractStringBuilder" = some m.cls := findClass_of_methodNamed Bd.named
  have hnm := (name_of_methodNamed Bd.named Bd.method).1
  have X0 : Stand p l e R_47 s m #[(.ref a1), (.int (Int32.ofNat cs.length)), (.ref a2)] below meth c s₁ [] 0 0 := Stand.of_body Bd
  have e0 : s₁.heap = h0 := by rw [← hh, Bd.state]; rfl
  have N0 := Fr.nil n0
  obtain ⟨S_cs, hG, S_fm, hF, S_ad, S_hi, S_lo⟩ := id ST
  obtain ⟨Es, Fv, Fc, Fn, Fy, Eb, hL, tl, Bs⟩ := id HB
  have Vs := Bs.1
  have ls := Bs.2
  have hNs : (Int32.ofNat LB).toNatClampNeg = (enc1 cs ++ tl).length := by rw [ls]; exact own_n (by omega)
  have lq : 2 * cs.length + tl.length = LB := by rw [← ls]; simp only [List.length_append, List.length_map, enc1_len]
  have lt_a1 := Es.lt
  have lt_bA := Vs.lt
  have n_ab : a1 ≠ bA := Exa.neArv Es Vs (tw hw 48 rfl)
  obtain ⟨E_a2, Fc_a2, Fv_a2, B_bS, hu_a2⟩ := id HS
  have lt_a2 := E_a2.lt
  have V_bS := B_bS.1
  have l_bS := B_bS.2
  have hN_bS : (Int32.ofNat ds.length).toNatClampNeg = (ds.map cLo).length := by rw [l_bS]; exact own_n (by omega)
  have lt_bS := V_bS.lt
  have n_21 : a2 ≠ a1 := Exa.ne E_a2 Es (by decide)
  have n_b1 : bS ≠ a1 := Ne.symm (Exa.neArv Es V_bS (tw hw 48 rfl))
  have n_2b : a2 ≠ bA := Exa.neArv E_a2 Vs (tw hw 6 rfl)
  have n_2s : a2 ≠ bS := Exa.neArv E_a2 V_bS (tw hw 6 rfl)
  obtain ⟨cq1, qa1, qb1⟩ := (Es).cell
  obtain ⟨_, _, ⟨T1, L1, k1, n1⟩, -, X1, ⟨Lc1, hQ1, l1, y1, z1⟩, st1⟩ := X0.privateBack hx (y := Y_7) hown (mvT hZ (tw hw 89 rfl)) (mvT hZ (tw hw 90 rfl)) (own_selQ hZ (C := "java/lang/StringBuilder") (tw hw 92 rfl) (tw hw 91 rfl) (tw hw 90 rfl)) (Cond.privateMethod_at (mvP hZ (tw hw 91 rfl) (args := #[]))) (mvT hZ (tw hw 93 rfl)) (by decide) (backOf (W := 0) (rb_in10 l Z a0 hw [] G1 Fm a1 bA kA LB cs a2 bS kS ds h0 n0 O0 ST HB hnn g_a1 g_bA HS hds) hZ (tw hw 93 rfl) (tw hw 57 rfl) (by decide) (by decide)) (g := (mkF m 2 (q_5 a1 cs a2) [(.ref a2), (.ref a1)])) rfl (by rw [hml]; rfl) (Steps.refl _) (a := a1) (by rw [e0]; exact qa1) qb1 (argsL := [(.ref a2)]) (rest := []) (lenOf pd26 rfl) rfl (by show 2 * 0 + _ ≤ _; exact Nat.le_of_eq rfl) (hb hby d13_2) (fun _ _ => ⟨rfl, e0, (by decide : 0 + 0 ≤ _), (by decide : 0 + 0 ≤ _)⟩)
  dsimp only [Pt.U, Pt.locs, Pt.cells, Pt.slots] at X1 l1 y1 z1 st1 hQ1
  subst l1 y1 z1
  obtain ⟨rfl, Nq1, e1⟩ := hQ1
  have N1 := Fr.app N0 Nq1
  obtain ⟨T2, X2, e2, st2⟩ := getF X1 hx hZ hown (host := "") (Or.inl (tw hw 61 rfl)) Via.refl e1 Fv (g := (mkF m 7 (q_5 a1 cs a2) [(.ref a1), (.ref a2)])) rfl rfl (hb hby d13_7)
  obtain ⟨T3, X3, e3, st3⟩ := getF X2 hx hZ hown (host := "") (Or.inl (tw hw 63 rfl)) Via.refl e2 Fc (g := (mkF m 12 (q_5 a1 cs a2) [(.ref a1), (.int (Int32.ofNat cs.length)), (.ref bA), (.ref a2)])) rfl rfl (hb hby d13_12)
  obtain ⟨_, T4, Lc4, X4, hQ4, st4⟩ := own_vc X3 hx hZ (y := Y_5) hown (tw hw 95 rfl) (tw hw 96 rfl) (tw hw 98 rfl) (tw hw 97 rfl) (by decide) (rs_gb10 l Z a0 hw [] G1 Fm a2 bS kS ds bA kA LB (enc1 cs ++ tl) cs.length h0 n0 O0 ST ⟨E_a2, Fc_a2, Fv_a2, ⟨V_bS, B_bS.2⟩, hu_a2⟩ hds ⟨Vs, ls⟩ (by omega) (by omega) n_2b nSb g_bA) (tw hw 99 rfl) (tw hw 7 rfl) e3 E_a2 (W := 0) (by decide) (by decide) (Ls := (q_5 a1 cs a2)) (by rw [hml]; rfl) (argsL := [(.ref bA), (.int (Int32.ofNat cs.length)), (.int (1 : Int32))]) (rest := []) (lenOf pd27 rfl) (Nat.le_of_eq rfl) (hb hby d13_15) rfl (by decide) (by decide)
  obtain ⟨h4, e4⟩ : ∃ z, T4.heap = z := ⟨_, rfl⟩
  rw [e4] at hQ4
  obtain ⟨rfl, Nq4, K4, Bi4⟩ := hQ4
  have N4 := Fr.app N1 Nq4
  have O5 := O0.keep K4 (allS g_bA all0)
  have kp6 : Keep h0 h4 [a1, bA] := (Keep.refl h0 [a1, bA]).trans K4 (allS (Or.inl (List.mem_of_getElem? (i := 1) rfl)) all0)
  have Bq : Bar Z h4 bA kA LB (enc1 (cs ++ ds) ++ tl.drop (2 * ds.length)) := by rw [← own_w2 (by omega)]; exact Bi4
  obtain ⟨fs, hr, hrun, hended, hW, hsame⟩ := X4.leave (v := none) (fun _ => rfl)
  refine ⟨_, _, castTop (ef_rb_ps10 m a1 (Int32.ofNat cs.length) a2) ?_, hrun, hended, _, _, rfl, ?_, ⟨_, rfl⟩, hW, hsame.mono (by decide) (by decide)⟩
  · show Go p e below s₁ m 0 (q_5 a1 cs a2) [] _
    refine XS.aloadN X0.here hx rfl (hb hby d13_0) rfl rfl ?_
    refine XS.aloadN X0.here hx rfl (hb hby d13_1) rfl rfl ?_
    refine st1.trans ?_
    show Go p e below T1 m 5 (q_5 a1 cs a2) [] _
    refine XS.aloadN X1.here hx rfl (hb hby d13_5) rfl rfl ?_
    refine XS.aloadN X1.here hx rfl (hb hby d13_6) rfl rfl ?_
    refine st2 _ ?_
    show Go p e below T2 m 10 (q_5 a1 cs a2) [(.ref bA), (.ref a2)] _
    refine XS.iloadN X2.here hx rfl (hb hby d13_10) rfl ?_
    refine XS.aloadN X2.here hx rfl (hb hby d13_11) rfl rfl ?_
    refine st3 _ ?_
    refine st4 _ ?_
    show Go p e below T4 m 18 (q_5 a1 cs a2) [] _
    exact X4.returnOut hx Bd.returns (hb hby d13_18) hr
  · show Qsv (fun h b k LB' => Sb1 Z h a1 b k LB' cs.length (cs ++ ds)) none a1 bA h0 n0 _ T4.heap _
    rw [e4]
    exact ⟨rfl, N4, kp6, bA, _, LB, Or.inl rfl, ⟨(Es.keep K4), (Fv.keep K4 (ninS n_ab nin0)), (Fc.keep K4 (ninS n_ab nin0)), (Fn.keep K4 (ninS n_ab nin0)), (Fy.keep K4 (ninS n_ab nin0)), (Eb.keep K4), (by omega), _, ⟨Bq.1, Bq.2⟩⟩⟩
theorem ef_rb_ps11 (m : MethodId) (x0 : Addr) (x1 : Int32) (x2 : Addr) : entryFrame m #[(.ref x0), (.int x1), (.ref x2)] 3 = mkF m 0 #[.val (.ref x0), .val (.int x1), .val (.ref x2)] [] := by first | (simp [entryFrame, mkF, argsToLocals, Value.category]; done) | rfl
set_option maxRecDepth 65536 in
set_option maxHeartbeats 40000000 in
theorem rb_ps11 (l : Launch) (Z : State) (a0 : Array Value) (hw : Hw a0 Z) (ws : List Jvm.Cond) (G1 : Int32) (Fm : Value) (a1 : Addr) (bA : Addr) (kA : ClassId) (LB : Nat) (cs : List UInt16) (a2 : Addr) (bS : Addr) (kS : ClassId) (ds : List UInt16) (h0 : Heap) (n0 : Nat) (O0 : Old Z n0 h0) (ST : Stc Z G1 Fm) (HB : Sb1 Z h0 a1 bA kA LB cs.length cs) (hnn : cs.length ≤ 120) (g_a1 : n0 ≤ a1) (g_bA : n0 ≤ bA) (HS : Str1 Z h0 a2 bS kS ds) (hds : ds.length ≤ 120) (hfit : 2 * (cs.length + ds.length) ≤ LB) (htot : cs.length + ds.length ≤ 120) (nSb : bS ≠ bA) :
    Met l Z h0 ws Y_8 jdk_68_method_73_code 3 none R_21 #[(.ref a1), (.int (Int32.ofNat cs.length)), (.ref a2)] (Qsv (fun h b k LB' => Sb1 Z h a1 b k LB' cs.length (cs ++ ds)) none a1 bA h0 n0) := by
  refine MetFree.of_bodySF (plainFor_of_name pn6) hisR ?_
  intro p e s m args below meth c s₁ Bd hml0 hP hK
  obtain ⟨rfl, hZ, hh⟩ := hP
  have hx := Bd.exec
  have hby := Bd.bytes
  have hml : c.maxLocals = 3 := hml0
  have hown : s.vm.findClass "java/lang/AbstractStringBuilder" = some m.cls := findClass_of_methodNamed Bd.named
  have hnm := (name_of_methodNamed Bd.named Bd.method).1
  have X0 : Stand p l e R_21 s m #[(.ref a1), (.int (Int32.ofNat cs.length)), (.ref a2)] below meth c s₁ [] 0 0 := Stand.of_body Bd
  have e0 : s₁.heap = h0 := by rw [← hh, Bd.state]; rfl
  have N0 := Fr.nil n0
  obtain ⟨S_cs, hG, S_fm, hF, S_ad, S_hi, S_lo⟩ := id ST
  obtain ⟨Es, Fv, Fc, Fn, Fy, Eb, hL, tl, Bs⟩ := id HB
  have Vs := Bs.1
  have ls := Bs.2
  have hNs : (Int32.ofNat LB).toNatClampNeg = (enc1 cs ++ tl).length := by rw [ls]; exact own_n (by omega)
  have lq : 2 * cs.length + tl.length = LB := by rw [← ls]; simp only [List.length_append, List.length_map, enc1_len]
  have lt_a1 := Es.lt
  have lt_bA := Vs.lt
  have n_ab : a1 ≠ bA := Exa.neArv Es Vs (tw hw 48 rfl)
  obtain ⟨E_a2, Fc_a2, Fv_a2, B_bS⟩ := id HS
  have lt_a2 := E_a2.lt
  have V_bS := B_bS.1
  have l_bS := B_bS.2
  have hN_bS : (Int32.ofNat (2 * ds.length)).toNatClampNeg = (enc1 ds).length := by rw [l_bS]; exact own_n (by omega)
  have lt_bS := V_bS.lt
  have n_21 : a2 ≠ a1 := Exa.ne E_a2 Es (by decide)
  have n_b1 : bS ≠ a1 := Ne.symm (Exa.neArv Es V_bS (tw hw 48 rfl))
  have n_2b : a2 ≠ bA := Exa.neArv E_a2 Vs (tw hw 6 rfl)
  have n_2s : a2 ≠ bS := Exa.neArv E_a2 V_bS (tw hw 6 rfl)
  obtain ⟨cq1, qa1, qb1⟩ := (Es).cell
  obtain ⟨_, _, ⟨T1, L1, k1, n1⟩, -, X1, ⟨Lc1, hQ1, l1, y1, z1⟩, st1⟩ := X0.privateBack hx (y := Y_7) hown (mvT hZ (tw hw 89 rfl)) (mvT hZ (tw hw 90 rfl)) (own_selQ hZ (C := "java/lang/StringBuilder") (tw hw 92 rfl) (tw hw 91 rfl) (tw hw 90 rfl)) (Cond.privateMethod_at (mvP hZ (tw hw 91 rfl) (args := #[]))) (mvT hZ (tw hw 93 rfl)) (by decide) (backOf (W := 0) (rb_in11 l Z a0 hw [] G1 Fm a1 bA kA LB cs a2 bS kS ds h0 n0 O0 ST HB hnn g_a1 g_bA HS hds) hZ (tw hw 93 rfl) (tw hw 57 rfl) (by decide) (by decide)) (g := (mkF m 2 (q_5 a1 cs a2) [(.ref a2), (.ref a1)])) rfl (by rw [hml]; rfl) (Steps.refl _) (a := a1) (by rw [e0]; exact qa1) qb1 (argsL := [(.ref a2)]) (rest := []) (lenOf pd26 rfl) rfl (by show 2 * 0 + _ ≤ _; exact Nat.le_of_eq rfl) (hb hby d13_2) (fun _ _ => ⟨rfl, e0, (by decide : 0 + 0 ≤ _), (by decide : 0 + 0 ≤ _)⟩)
  dsimp only [Pt.U, Pt.locs, Pt.cells, Pt.slots] at X1 l1 y1 z1 st1 hQ1
  subst l1 y1 z1
  obtain ⟨rfl, Nq1, e1⟩ := hQ1
  have N1 := Fr.app N0 Nq1
  obtain ⟨T2, X2, e2, st2⟩ := getF X1 hx hZ hown (host := "") (Or.inl (tw hw 61 rfl)) Via.refl e1 Fv (g := (mkF m 7 (q_5 a1 cs a2) [(.ref a1), (.ref a2)])) rfl rfl (hb hby d13_7)
  obtain ⟨T3, X3, e3, st3⟩ := getF X2 hx hZ hown (host := "") (Or.inl (tw hw 63 rfl)) Via.refl e2 Fc (g := (mkF m 12 (q_5 a1 cs a2) [(.ref a1), (.int (Int32.ofNat cs.length)), (.ref bA), (.ref a2)])) rfl rfl (hb hby d13_12)
  obtain ⟨_, T4, Lc4, X4, hQ4, st4⟩ := own_vc X3 hx hZ (y := Y_5) hown (tw hw 95 rfl) (tw hw 96 rfl) (tw hw 98 rfl) (tw hw 97 rfl) (by decide) (rs_gb11 l Z a0 hw [] G1 Fm a2 bS kS ds bA kA LB (enc1 cs ++ tl) cs.length h0 n0 O0 ST ⟨E_a2, Fc_a2, Fv_a2, ⟨V_bS, B_bS.2⟩⟩ hds ⟨Vs, ls⟩ (by omega) (by omega) n_2b nSb g_bA) (tw hw 99 rfl) (tw hw 7 rfl) e3 E_a2 (W := 0) (by decide) (by decide) (Ls := (q_5 a1 cs a2)) (by rw [hml]; rfl) (argsL := [(.ref bA), (.int (Int32.ofNat cs.length)), (.int (1 : Int32))]) (rest := []) (lenOf pd27 rfl) (Nat.le_of_eq rfl) (hb hby d13_15) rfl (by decide) (by decide)
  obtain ⟨h4, e4⟩ : ∃ z, T4.heap = z := ⟨_, rfl⟩
  rw [e4] at hQ4
  obtain ⟨rfl, Nq4, K4, Bi4⟩ := hQ4
  have N4 := Fr.app N1 Nq4
  have O5 := O0.keep K4 (allS g_bA all0)
  have kp6 : Keep h0 h4 [a1, bA] := (Keep.refl h0 [a1, bA]).trans K4 (allS (Or.inl (List.mem_of_getElem? (i := 1) rfl)) all0)
  have Bq : Bar Z h4 bA kA LB (enc1 (cs ++ ds) ++ tl.drop (2 * ds.length)) := by rw [← own_w1]; exact Bi4
  obtain ⟨fs, hr, hrun, hended, hW, hsame⟩ := X4.leave (v := none) (fun _ => rfl)
  refine ⟨_, _, castTop (ef_rb_ps11 m a1 (Int32.ofNat cs.length) a2) ?_, hrun, hended, _, _, rfl, ?_, ⟨_, rfl⟩, hW, hsame.mono (by decide) (by decide)⟩
  · show Go p e below s₁ m 0 (q_5 a1 cs a2) [] _
    refine XS.aloadN X0.here hx rfl (hb hby d13_0) rfl rfl ?_
    refine XS.aloadN X0.here hx rfl (hb hby d13_1) rfl rfl ?_
    refine st1.trans ?_
    show Go p e below T1 m 5 (q_5 a1 cs a2) [] _
    refine XS.aloadN X1.here hx rfl (hb hby d13_5) rfl rfl ?_
    refine XS.aloadN X1.here hx rfl (hb hby d13_6) rfl rfl ?_
    refine st2 _ ?_
    show Go p e below T2 m 10 (q_5 a1 cs a2) [(.ref bA), (.ref a2)] _
    refine XS.iloadN X2.here hx rfl (hb hby d13_10) rfl ?_
    refine XS.aloadN X2.here hx rfl (hb hby d13_11) rfl rfl ?_
    refine st3 _ ?_
    refine st4 _ ?_
    show Go p e below T4 m 18 (q_5 a1 cs a2) [] _
    exact X4.returnOut hx Bd.returns (hb hby d13_18) hr
  · show Qsv (fun h b k LB' => Sb1 Z h a1 b k LB' cs.length (cs ++ ds)) none a1 bA h0 n0 _ T4.heap _
    rw [e4]
    exact ⟨rfl, N4, kp6, bA, _, LB, Or.inl rfl, ⟨(Es.keep K4), (Fv.keep K4 (ninS n_ab nin0)), (Fc.keep K4 (ninS n_ab nin0)), (Fn.keep K4 (ninS n_ab nin0)), (Fy.keep K4 (ninS n_ab nin0)), (Eb.keep K4), (by omega), _, ⟨Bq.1, Bq.2⟩⟩⟩
theorem d11_0 : Dc cb46 0 (.aload_n 1) 1 := by decide +kernel
theorem d11_1 : Dc cb46 1 (.ifnonnull 8) 3 := by decide +kernel
theorem d11_9 : Dc cb46 9 (.aload_n 1) 1 := by decide +kernel
theorem d11_10 : Dc cb46 10 (.invokevirtual 32) 3 := by decide +kernel
theorem d11_13 : Dc cb46 13 (.istore_n 2) 1 := by decide +kernel
theorem d11_14 : Dc cb46 14 (.aload_n 0) 1 := by decide +kernel
theorem d11_15 : Dc cb46 15 (.aload_n 0) 1 := by decide +kernel
theorem d11_16 : Dc cb46 16 (.getfield 79) 3 := by decide +kernel
theorem d11_19 : Dc cb46 19 (.iload_n 2) 1 := by decide +kernel
theorem d11_20 : Dc cb46 20 .iadd 1 := by decide +kernel
theorem d11_21 : Dc cb46 21 (.invokevirtual 100) 3 := by decide +kernel
theorem d11_24 : Dc cb46 24 (.aload_n 0) 1 := by decide +kernel
theorem d11_25 : Dc cb46 25 (.aload_n 0) 1 := by decide +kernel
theorem d11_26 : Dc cb46 26 (.getfield 79) 3 := by decide +kernel
theorem d11_29 : Dc cb46 29 (.aload_n 1) 1 := by decide +kernel
theorem d11_30 : Dc cb46 30 (.invokevirtual 208) 3 := by decide +kernel
theorem pd28 : parseMethodDescriptor "(ILjava/lang/String;)V" = some ⟨[.int, (.object "java/lang/String")], none⟩ := by decide +kernel
theorem d11_33 : Dc cb46 33 (.aload_n 0) 1 := by decide +kernel
theorem d11_34 : Dc cb46 34 .dup 1 := by decide +kernel
theorem d11_35 : Dc cb46 35 (.getfield 79) 3 := by decide +kernel
theorem d11_38 : Dc cb46 38 (.iload_n 2) 1 := by decide +kernel
theorem d11_39 : Dc cb46 39 .iadd 1 := by decide +kernel
theorem d11_40 : Dc cb46 40 (.putfield 79) 3 := by decide +kernel
theorem d11_43 : Dc cb46 43 (.aload_n 0) 1 := by decide +kernel
theorem d11_44 : Dc cb46 44 .areturn 1 := by decide +kernel
theorem ef_rb_aa00 (m : MethodId) (x0 : Addr) (x1 : Addr) : entryFrame m #[(.ref x0), (.ref x1)] 3 = mkF m 0 #[.val (.ref x0), .val (.ref x1), .unset] [] := by first | (simp [entryFrame, mkF, argsToLocals, Value.category]; done) | rfl
set_option maxRecDepth 65536 in
set_option maxHeartbeats 40000000 in
theorem rb_aa00 (l : Launch) (Z : State) (a0 : Array Value) (hw : Hw a0 Z) (ws : List Jvm.Cond) (G1 : Int32) (Fm : Value) (a1 : Addr) (bA : Addr) (kA : ClassId) (LB : Nat) (cs : List UInt16) (a2 : Addr) (bS : Addr) (kS : ClassId) (ds : List UInt16) (h0 : Heap) (n0 : Nat) (O0 : Old Z n0 h0) (ST : Stc Z G1 Fm) (HB : Sb0 Z h0 a1 bA kA LB cs.length cs) (hnn : cs.length ≤ 120) (g_a1 : n0 ≤ a1) (g_bA : n0 ≤ bA) (HS : Str0 Z h0 a2 bS kS ds) (hds : ds.length ≤ 120) (htot : cs.length + ds.length ≤ 120) (nSb : bS ≠ bA) :
    Met l Z h0 ws Y_9 jdk_68_method_22_code 3 (some (.object "java/lang/AbstractStringBuilder")) R_22 #[(.ref a1), (.ref a2)] (Qsv (fun h b k LB' => Sb0 Z h a1 b k LB' (cs ++ ds).length (cs ++ ds)) (some (.ref a1)) a1 bA h0 n0) := by
  refine MetFree.of_bodySF (plainFor_of_name pn6) hisR ?_
  intro p e s m args below meth c s₁ Bd hml0 hP hK
  obtain ⟨rfl, hZ, hh⟩ := hP
  have hx := Bd.exec
  have hby := Bd.bytes
  have hml : c.maxLocals = 3 := hml0
  have hown : s.vm.findClass "java/lang/AbstractStringBuilder" = some m.cls := findClass_of_methodNamed Bd.named
  have hnm := (name_of_methodNamed Bd.named Bd.method).1
  have X0 : Stand p l e R_22 s m #[(.ref a1), (.ref a2)] below meth c s₁ [] 0 0 := Stand.of_body Bd
  have e0 : s₁.heap = h0 := by rw [← hh, Bd.state]; rfl
  have N0 := Fr.nil n0
  obtain ⟨S_cs, hG, S_fm, hF, S_ad, S_hi, S_lo⟩ := id ST
  obtain ⟨Es, Fv, Fc, Fn, Fy, Eb, hu, hL, tl, Bs⟩ := id HB
  have Vs := Bs.1
  have ls := Bs.2
  have hNs : (Int32.ofNat LB).toNatClampNeg = (cs.map cLo ++ tl).length := by rw [ls]; exact own_n (by omega)
  have lq : cs.length + tl.length = LB := by rw [← ls]; simp only [List.length_append, List.length_map, enc1_len]
  have lt_a1 := Es.lt
  have lt_bA := Vs.lt
  have n_ab : a1 ≠ bA := Exa.neArv Es Vs (tw hw 48 rfl)
  obtain ⟨E_a2, Fc_a2, Fv_a2, B_bS, hu_a2⟩ := id HS
  have lt_a2 := E_a2.lt
  have V_bS := B_bS.1
  have l_bS := B_bS.2
  have hN_bS : (Int32.ofNat ds.length).toNatClampNeg = (ds.map cLo).length := by rw [l_bS]; exact own_n (by omega)
  have lt_bS := V_bS.lt
  have n_21 : a2 ≠ a1 := Exa.ne E_a2 Es (by decide)
  have n_b1 : bS ≠ a1 := Ne.symm (Exa.neArv Es V_bS (tw hw 48 rfl))
  have n_2b : a2 ≠ bA := Exa.neArv E_a2 Vs (tw hw 6 rfl)
  have n_2s : a2 ≠ bS := Exa.neArv E_a2 V_bS (tw hw 6 rfl)
  obtain ⟨_, T1, Lc1, X1, hQ1, st1⟩ := own_vc X0 hx hZ (y := Y_2) hown (tw hw 76 rfl) (tw hw 29 rfl) (tw hw 31 rfl) (tw hw 30 rfl) (by decide) (rs_len0 l Z a0 hw [] G1 Fm a2 bS kS ds h0 n0 O0 ST HS hds) (tw hw 32 rfl) (tw hw 7 rfl) e0 E_a2 (W := 0) (by decide) (by decide) (Ls := (q_13 a1 a2)) (by rw [hml]; rfl) (argsL := []) (rest := []) (lenOf pd23 rfl) (Nat.le_of_eq rfl) (hb hby d11_10) rfl (by decide) (by decide)
  obtain ⟨rfl, Nq1, e1⟩ := hQ1
  have N1 := Fr.app N0 Nq1
  obtain ⟨T2, X2, e2, st2⟩ := getF X1 hx hZ hown (host := "") (Or.inl (tw hw 77 rfl)) Via.refl e1 Fn (g := (mkF m 16 (q_2 a1 a2 ds) [(.ref a1), (.ref a1)])) rfl rfl (hb hby d11_16)
  obtain ⟨cq3, qa3, qb3⟩ := (Es).cell
  obtain ⟨_, _, ⟨T3, L3, k3, n3⟩, -, X3, ⟨Lc3, hQ3, l3, y3, z3⟩, st3⟩ := X2.privateBack hx (y := Y_16) hown (mvT hZ (tw hw 79 rfl)) (mvT hZ (tw hw 80 rfl)) (own_selQ hZ (C := "java/lang/StringBuilder") (tw hw 82 rfl) (tw hw 81 rfl) (tw hw 80 rfl)) (Cond.privateMethod_at (mvP hZ (tw hw 81 rfl) (args := #[]))) (mvT hZ (tw hw 83 rfl)) (by decide) (backOf (W := 0) (rb_ec0 l Z a0 hw [] G1 Fm a1 bA kA LB cs (cs.length + ds.length) h0 n0 O0 ST HB hnn g_a1 g_bA htot) hZ (tw hw 83 rfl) (tw hw 57 rfl) (by decide) (by decide)) (g := (mkF m 21 (q_2 a1 a2 ds) [(.int (Int32.ofNat (cs.length + ds.length))), (.ref a1)])) rfl (by rw [hml]; rfl) (Steps.refl _) (a := a1) (by rw [e2]; exact qa3) qb3 (argsL := [(.int (Int32.ofNat (cs.length + ds.length)))]) (rest := []) (lenOf pd22 rfl) rfl (by show 2 * 0 + _ ≤ _; exact Nat.le_of_eq rfl) (hb hby d11_21) (fun _ _ => ⟨rfl, e2, (by decide : 0 + 1 ≤ _), (by decide : 0 + 500 ≤ _)⟩)
  dsimp only [Pt.U, Pt.locs, Pt.cells, Pt.slots] at X3 l3 y3 z3 st3 hQ3
  subst l3 y3 z3
  obtain ⟨h3, e3⟩ : ∃ z, T3.heap = z := ⟨_, rfl⟩
  rw [e3] at hQ3
  obtain ⟨rfl, Nq3, K3, x3, kx3, LBx3, or3, HBx3, hcap3⟩ := hQ3
  have N3 := Fr.app N1 Nq3
  have O4 := O0.keep K3 (allS g_a1 (allS g_bA all0))
  have kp5 : Keep h0 h3 [a1, bA] := (Keep.refl h0 [a1, bA]).trans K3 (allS (Or.inl (List.mem_of_getElem? (i := 0) rfl)) (allS (Or.inl (List.mem_of_getElem? (i := 1) rfl)) all0))
  have or_x3 : x3 = bA ∨ h0.size ≤ x3 := or3.imp id fun q => Nat.le_trans (Keep.refl h0 [a1, bA]).1 q
  have g_x3 : n0 ≤ x3 := own_gor or_x3 g_bA (own_sz O0)
  have wk_x3 : x3 ∈ [a1, bA] ∨ h0.size ≤ x3 := own_mem or_x3
  have n_a2_x3 : a2 ≠ x3 := own_nor or_x3 n_2b lt_a2
  have n_bS_x3 : bS ≠ x3 := own_nor or_x3 nSb lt_bS
  obtain ⟨Es_n, Fv_n, Fc_n, Fn_n, Fy_n, Eb_n, hu_n, hL_n, tl_n, Bs_n⟩ := id HBx3
  have Vs_n := Bs_n.1
  have ls_n := Bs_n.2
  have hNs_n : (Int32.ofNat LBx3).toNatClampNeg = (cs.map cLo ++ tl_n).length := by rw [ls_n]; exact own_n (by omega)
  have lq_n : cs.length + tl_n.length = LBx3 := by rw [← ls_n]; simp only [List.length_append, List.length_map, enc1_len]
  have n_a1_x3 : a1 ≠ x3 := Exa.neArv Es_n Vs_n (tw hw 48 rfl)
  obtain ⟨T6, X6, e6, st6⟩ := getF X3 hx hZ hown (host := "") (Or.inl (tw hw 77 rfl)) Via.refl e3 Fn_n (g := (mkF m 26 (q_2 a1 a2 ds) [(.ref a1), (.ref a1)])) rfl rfl (hb hby d11_26)
  obtain ⟨cq7, qa7, qb7⟩ := (Es_n).cell
  obtain ⟨_, _, ⟨T7, L7, k7, n7⟩, -, X7, ⟨Lc7, hQ7, l7, y7, z7⟩, st7⟩ := X6.privateBack hx (y := Y_8) hown (mvT hZ (tw hw 84 rfl)) (mvT hZ (tw hw 85 rfl)) (own_selQ hZ (C := "java/lang/StringBuilder") (tw hw 87 rfl) (tw hw 86 rfl) (tw hw 85 rfl)) (Cond.privateMethod_at (mvP hZ (tw hw 86 rfl) (args := #[]))) (mvT hZ (tw hw 88 rfl)) (by decide) (backOf (W := 0) (rb_ps00 l Z a0 hw [] G1 Fm a1 x3 kx3 LBx3 cs a2 bS kS ds h3 n0 O4 ST HBx3 hnn g_a1 g_x3 ⟨(E_a2.keep K3), (Fc_a2.keep K3 (ninS n_21 (ninS n_2b nin0))), (Fv_a2.keep K3 (ninS n_21 (ninS n_2b nin0))), ⟨(V_bS.keep K3 (ninS n_b1 (ninS nSb nin0))), B_bS.2⟩, hu_a2⟩ hds (by omega) htot n_bS_x3) hZ (tw hw 88 rfl) (tw hw 57 rfl) (by decide) (by decide)) (g := (mkF m 30 (q_2 a1 a2 ds) [(.ref a2), (.int (Int32.ofNat cs.length)), (.ref a1)])) rfl (by rw [hml]; rfl) (Steps.refl _) (a := a1) (by rw [e6]; exact qa7) qb7 (argsL := [(.int (Int32.ofNat cs.length)), (.ref a2)]) (rest := []) (lenOf pd28 rfl) rfl (by show 2 * 0 + _ ≤ _; exact Nat.le_of_eq rfl) (hb hby d11_30) (fun _ _ => ⟨rfl, e6, (by decide : 1 + 0 ≤ _), (by decide : 500 + 0 ≤ _)⟩)
  dsimp only [Pt.U, Pt.locs, Pt.cells, Pt.slots] at X7 l7 y7 z7 st7 hQ7
  subst l7 y7 z7
  obtain ⟨h7, e7⟩ : ∃ z, T7.heap = z := ⟨_, rfl⟩
  rw [e7] at hQ7
  obtain ⟨rfl, Nq7, K7, w7, kx7, LBx7, or7, HBx7⟩ := hQ7
  have N7 := Fr.app N3 Nq7
  have O8 := O4.keep K7 (allS g_a1 (allS g_x3 all0))
  have kp9 : Keep h0 h7 [a1, bA] := kp5.trans K7 (allS (Or.inl (List.mem_of_getElem? (i := 0) rfl)) (allS wk_x3 all0))
  have or_w7 : w7 = bA ∨ h0.size ≤ w7 := or7.elim (fun q => q ▸ or_x3) (fun q => Or.inr (Nat.le_trans kp5.1 q))
  obtain ⟨Es_m, Fv_m, Fc_m, Fn_m, Fy_m, Eb_m, hu_m, hL_m, tl_m, Bs_m⟩ := id HBx7
  have Vs_m := Bs_m.1
  have ls_m := Bs_m.2
  have hNs_m : (Int32.ofNat LBx7).toNatClampNeg = ((cs ++ ds).map cLo ++ tl_m).length := by rw [ls_m]; exact own_n (by omega)
  have lq_m : (cs ++ ds).length + tl_m.length = LBx7 := by rw [← ls_m]; simp only [List.length_append, List.length_map, enc1_len]
  have n_a1_w7 : a1 ≠ w7 := Exa.neArv Es_m Vs_m (tw hw 48 rfl)
  obtain ⟨T10, X10, e10, st10⟩ := getF X7 hx hZ hown (host := "") (Or.inl (tw hw 77 rfl)) Via.refl e7 Fn_m (g := (mkF m 35 (q_2 a1 a2 ds) [(.ref a1), (.ref a1)])) rfl rfl (hb hby d11_35)
  obtain ⟨T11, h11, X11, e11, W11, st11⟩ := putF X10 hx hZ hown (host := "") (Or.inl (tw hw 77 rfl)) Via.refl e10 Fn_m Es_m (Or.inl (tw hw 78 rfl)) (tw hw 48 rfl) (ty := .int) (by decide) rfl rfl (g := (mkF m 40 (q_2 a1 a2 ds) [(.int (Int32.ofNat (cs.length + ds.length))), (.ref a1)])) rfl rfl (hb hby d11_40)
  have Fw11 := Fn_m.same W11
  have O12 := O8.wr W11 g_a1
  have kp13 : Keep h0 h11 [a1, bA] := kp9.wr W11 (Or.inl (List.mem_of_getElem? (i := 0) rfl))
  have N11 := Fr.snoc X11 N7 g_a1
  obtain ⟨fs, hr, hrun, hended, hW, hsame⟩ := X11.leave (v := some (.ref a1)) (fun h => by rw [Bd.returns] at h; cases h)
  refine ⟨_, _, castTop (ef_rb_aa00 m a1 a2) ?_, hrun, hended, _, _, rfl, ?_, ⟨_, rfl⟩, hW, hsame.mono (by decide) (by decide)⟩
  · show Go p e below s₁ m 0 (q_13 a1 a2) [] _
    refine XS.aloadN X0.here hx rfl (hb hby d11_0) rfl rfl ?_
    show Go p e below s₁ m 1 (q_13 a1 a2) [(.ref a2)] _
    refine XS.ifnonnullYes X0.here hx rfl (pc0 := 1) (pc' := 9) rfl (hb hby d11_1) rfl (by decide) (by decide) ?_
    show Go p e below s₁ m 9 (q_13 a1 a2) [] _
    refine XS.aloadN X0.here hx rfl (hb hby d11_9) rfl rfl ?_
    refine st1 _ ?_
    show Go p e below T1 m 13 (q_13 a1 a2) [(.int (Int32.ofNat ds.length))] _
    refine XS.istoreN X1.here hx rfl (hb hby d11_13) rfl (l' := (q_2 a1 a2 ds)) rfl ?_
    refine XS.aloadN X1.here hx rfl (hb hby d11_14) rfl rfl ?_
    refine XS.aloadN X1.here hx rfl (hb hby d11_15) rfl rfl ?_
    refine st2 _ ?_
    show Go p e below T2 m 19 (q_2 a1 a2 ds) [(.int (Int32.ofNat cs.length)), (.ref a1)] _
    refine XS.iloadN X2.here hx rfl (hb hby d11_19) rfl ?_
    refine XS.iadd X2.here hx rfl (hb hby d11_20) rfl ?_
    show Go p e below T2 m 21 (q_2 a1 a2 ds) [(.int ((Int32.ofNat cs.length) + (Int32.ofNat ds.length))), (.ref a1)] _
    rw [show ((Int32.ofNat cs.length) + (Int32.ofNat ds.length)) = (Int32.ofNat (cs.length + ds.length)) from own_add cs.length ds.length]
    refine st3.trans ?_
    show Go p e below T3 m 24 (q_2 a1 a2 ds) [] _
    refine XS.aloadN X3.here hx rfl (hb hby d11_24) rfl rfl ?_
    refine XS.aloadN X3.here hx rfl (hb hby d11_25) rfl rfl ?_
    refine st6 _ ?_
    show Go p e below T6 m 29 (q_2 a1 a2 ds) [(.int (Int32.ofNat cs.length)), (.ref a1)] _
    refine XS.aloadN X6.here hx rfl (hb hby d11_29) rfl rfl ?_
    refine st7.trans ?_
    show Go p e below T7 m 33 (q_2 a1 a2 ds) [] _
    refine XS.aloadN X7.here hx rfl (hb hby d11_33) rfl rfl ?_
    refine XS.dup X7.here hx rfl (hb hby d11_34) rfl rfl ?_
    refine st10 _ ?_
    show Go p e below T10 m 38 (q_2 a1 a2 ds) [(.int (Int32.ofNat cs.length)), (.ref a1)] _
    refine XS.iloadN X10.here hx rfl (hb hby d11_38) rfl ?_
    refine XS.iadd X10.here hx rfl (hb hby d11_39) rfl ?_
    show Go p e below T10 m 40 (q_2 a1 a2 ds) [(.int ((Int32.ofNat cs.length) + (Int32.ofNat ds.length))), (.ref a1)] _
    rw [show ((Int32.ofNat cs.length) + (Int32.ofNat ds.length)) = (Int32.ofNat (cs.length + ds.length)) from own_add cs.length ds.length]
    refine st11 _ ?_
    show Go p e below T11 m 43 (q_2 a1 a2 ds) [] _
    refine XS.aloadN X11.here hx rfl (hb hby d11_43) rfl rfl ?_
    show Go p e below T11 m 44 (q_2 a1 a2 ds) [(.ref a1)] _
    exact retOut X11 hx Bd.returns rfl (Or.inr (Or.inr (Or.inr (Or.inr ⟨rfl, rfl, rfl⟩)))) (hb hby d11_44) hr
  · show Qsv (fun h b k LB' => Sb0 Z h a1 b k LB' (cs ++ ds).length (cs ++ ds)) (some (.ref a1)) a1 bA h0 n0 _ T11.heap _
    rw [e11]
    exact ⟨rfl, N11, kp13, w7, _, _, or_w7, by rw [List.length_append]; exact ⟨(Es_m.wr W11), (Fv_m.other W11 (Or.inr (slot_ne (Or.inl (tw hw 62 rfl)) (Or.inl (tw hw 78 rfl)) (by decide) (t := (.array .byte)) (t' := .int) (by decide) (by decide)))), (Fc_m.other W11 (Or.inr (slot_ne (Or.inl (tw hw 64 rfl)) (Or.inl (tw hw 78 rfl)) (by decide) (t := .byte) (t' := .int) (by decide) (by decide)))), Fw11, (Fy_m.other W11 (Or.inr (slot_ne (Or.inl (tw hw 336 rfl)) (Or.inl (tw hw 78 rfl)) (by decide) (t := .boolean) (t' := .int) (by decide) (by decide)))), (Eb_m.wr W11), hu_m, hL_m, _, ⟨(Vs_m.other W11 (Ne.symm n_a1_w7)), ls_m⟩⟩⟩
theorem d10_0 : Dc cb47 0 (.aload_n 0) 1 := by decide +kernel
theorem d10_1 : Dc cb47 1 (.aload_n 1) 1 := by decide +kernel
theorem d10_2 : Dc cb47 2 (.invokespecial 29) 3 := by decide +kernel
theorem pd29 : parseMethodDescriptor "(Ljava/lang/String;)Ljava/lang/AbstractStringBuilder;" = some ⟨[(.object "java/lang/String")], some (.object "java/lang/AbstractStringBuilder")⟩ := by decide +kernel
theorem d10_5 : Dc cb47 5 .pop 1 := by decide +kernel
theorem d10_6 : Dc cb47 6 (.aload_n 0) 1 := by decide +kernel
theorem d10_7 : Dc cb47 7 .areturn 1 := by decide +kernel
theorem ef_rb_ap00 (m : MethodId) (x0 : Addr) (x1 : Addr) : entryFrame m #[(.ref x0), (.ref x1)] 2 = mkF m 0 #[.val (.ref x0), .val (.ref x1)] [] := by first | (simp [entryFrame, mkF, argsToLocals, Value.category]; done) | rfl
set_option maxRecDepth 65536 in
set_option maxHeartbeats 40000000 in
theorem rb_ap00 (l : Launch) (Z : State) (a0 : Array Value) (hw : Hw a0 Z) (ws : List Jvm.Cond) (G1 : Int32) (Fm : Value) (a1 : Addr) (bA : Addr) (kA : ClassId) (LB : Nat) (cs : List UInt16) (a2 : Addr) (bS : Addr) (kS : ClassId) (ds : List UInt16) (h0 : Heap) (n0 : Nat) (O0 : Old Z n0 h0) (ST : Stc Z G1 Fm) (HB : Sb0 Z h0 a1 bA kA LB cs.length cs) (hnn : cs.length ≤ 120) (g_a1 : n0 ≤ a1) (g_bA : n0 ≤ bA) (HS : Str0 Z h0 a2 bS kS ds) (hds : ds.length ≤ 120) (htot : cs.length + ds.length ≤ 120) (nSb : bS ≠ bA) :
    Met l Z h0 ws Y_3 jdk_67_method_7_code 2 (some (.object "java/lang/StringBuilder")) R_4 #[(.ref a1), (.ref a2)] (Qsv (fun h b k LB' => Sbx Z h a1 b k LB' (cs ++ ds).length (cs ++ ds)) (some (.ref a1)) a1 bA h0 n0) := by
  refine MetFree.of_bodySF (plainFor_of_name pn7) hisR ?_
  intro p e s m args below meth c s₁ Bd hml0 hP hK
  obtain ⟨rfl, hZ, hh⟩ := hP
  have hx := Bd.exec
  have hby := Bd.bytes
  have hml : c.maxLocals = 2 := hml0
  have hown : s.vm.findClass "java/lang/StringBuilder" = some m.cls := findClass_of_methodNamed Bd.named
  have hnm := (name_of_methodNamed Bd.named Bd.method).1
  have X0 : Stand p l e R_4 s m #[(.ref a1), (.ref a2)] below meth c s₁ [] 0 0 := Stand.of_body Bd
  have e0 : s₁.heap = h0 := by rw [← hh, Bd.state]; rfl
  have N0 := Fr.nil n0
  obtain ⟨S_cs, hG, S_fm, hF, S_ad, S_hi, S_lo⟩ := id ST
  obtain ⟨Es, Fv, Fc, Fn, Fy, Eb, hu, hL, tl, Bs⟩ := id HB
  have Vs := Bs.1
  have ls := Bs.2
  have hNs : (Int32.ofNat LB).toNatClampNeg = (cs.map cLo ++ tl).length := by rw [ls]; exact own_n (by omega)
  have lq : cs.length + tl.length = LB := by rw [← ls]; simp only [List.length_append, List.length_map, enc1_len]
  have lt_a1 := Es.lt
  have lt_bA := Vs.lt
  have n_ab : a1 ≠ bA := Exa.neArv Es Vs (tw hw 48 rfl)
  obtain ⟨E_a2, Fc_a2, Fv_a2, B_bS, hu_a2⟩ := id HS
  have lt_a2 := E_a2.lt
  have V_bS := B_bS.1
  have l_bS := B_bS.2
  have hN_bS : (Int32.ofNat ds.length).toNatClampNeg = (ds.map cLo).length := by rw [l_bS]; exact own_n (by omega)
  have lt_bS := V_bS.lt
  have n_21 : a2 ≠ a1 := Exa.ne E_a2 Es (by decide)
  have n_b1 : bS ≠ a1 := Ne.symm (Exa.neArv Es V_bS (tw hw 48 rfl))
  have n_2b : a2 ≠ bA := Exa.neArv E_a2 Vs (tw hw 6 rfl)
  have n_2s : a2 ≠ bS := Exa.neArv E_a2 V_bS (tw hw 6 rfl)
  obtain ⟨_, _, ⟨T1, L1, k1, n1⟩, -, X1, ⟨Lc1, hQ1, l1, y1, z1⟩, st1⟩ := Jvm.RoadKit.superBack X0 hx hZ (y := Y_9) (K := "java/lang/AbstractStringBuilder") hown (tw hw 71 rfl) (own_same (C := "java/lang/StringBuilder") (tw hw 74 rfl) (tw hw 157 rfl)) (tw hw 72 rfl) (tw hw 73 rfl) (by decide) (backOf (W := 0) (rb_aa00 l Z a0 hw [] G1 Fm a1 bA kA LB cs a2 bS kS ds h0 n0 O0 ST HB hnn g_a1 g_bA HS hds htot nSb) hZ (tw hw 75 rfl) (tw hw 57 rfl) (by decide) (by decide)) e0 (Ins.of_exa Es (tw hw 56 rfl)) (g := (mkF m 2 (q_0 a1 a2) [(.ref a2), (.ref a1)])) rfl (by rw [hml]; rfl) (tw hw 75 rfl) (argsL := [(.ref a2)]) (rest := []) (lenOf pd29 rfl) rfl (by show 2 * 0 + _ ≤ _; exact Nat.le_of_eq rfl) (hb hby d10_2) (fun _ _ => ⟨rfl, e0, (by decide : 0 + 1 ≤ _), (by decide : 0 + 500 ≤ _)⟩)
  dsimp only [Pt.U, Pt.locs, Pt.cells, Pt.slots] at X1 l1 y1 z1 st1 hQ1
  subst l1 y1 z1
  obtain ⟨h1, e1⟩ : ∃ z, T1.heap = z := ⟨_, rfl⟩
  rw [e1] at hQ1
  obtain ⟨rfl, Nq1, K1, R1⟩ := hQ1
  have N1 := Fr.app N0 Nq1
  have O2 := O0.keep K1 (allS g_a1 (allS g_bA all0))
  have kp3 : Keep h0 h1 [a1, bA] := (Keep.refl h0 [a1, bA]).trans K1 (allS (Or.inl (List.mem_of_getElem? (i := 0) rfl)) (allS (Or.inl (List.mem_of_getElem? (i := 1) rfl)) all0))
  have RR := R1
  obtain ⟨fs, hr, hrun, hended, hW, hsame⟩ := X1.leave (v := some (.ref a1)) (fun h => by rw [Bd.returns] at h; cases h)
  refine ⟨_, _, castTop (ef_rb_ap00 m a1 a2) ?_, hrun, hended, _, _, rfl, ?_, ⟨_, rfl⟩, hW, hsame.mono (by decide) (by decide)⟩
  · show Go p e below s₁ m 0 (q_0 a1 a2) [] _
    refine XS.aloadN X0.here hx rfl (hb hby d10_0) rfl rfl ?_
    refine XS.aloadN X0.here hx rfl (hb hby d10_1) rfl rfl ?_
    refine st1.trans ?_
    show Go p e below T1 m 5 (q_0 a1 a2) [(.ref a1)] _
    refine XS.pop X1.here hx rfl (hb hby d10_5) rfl rfl ?_
    show Go p e below T1 m 6 (q_0 a1 a2) [] _
    refine XS.aloadN X1.here hx rfl (hb hby d10_6) rfl rfl ?_
    show Go p e below T1 m 7 (q_0 a1 a2) [(.ref a1)] _
    exact retOut X1 hx Bd.returns rfl (Or.inr (Or.inr (Or.inr (Or.inr ⟨rfl, rfl, rfl⟩)))) (hb hby d10_7) hr
  · show Qsv (fun h b k LB' => Sbx Z h a1 b k LB' (cs ++ ds).length (cs ++ ds)) (some (.ref a1)) a1 bA h0 n0 _ T1.heap _
    rw [e1]
    obtain ⟨b9, k9, L9, o9, q9⟩ := RR; exact ⟨rfl, N1, kp3, b9, k9, L9, o9, Or.inl q9⟩
theorem ef_rb_aa01 (m : MethodId) (x0 : Addr) (x1 : Addr) : entryFrame m #[(.ref x0), (.ref x1)] 3 = mkF m 0 #[.val (.ref x0), .val (.ref x1), .unset] [] := by first | (simp [entryFrame, mkF, argsToLocals, Value.category]; done) | rfl
set_option maxRecDepth 65536 in
set_option maxHeartbeats 40000000 in
theorem rb_aa01 (l : Launch) (Z : State) (a0 : Array Value) (hw : Hw a0 Z) (ws : List Jvm.Cond) (G1 : Int32) (Fm : Value) (a1 : Addr) (bA : Addr) (kA : ClassId) (LB : Nat) (cs : List UInt16) (a2 : Addr) (bS : Addr) (kS : ClassId) (ds : List UInt16) (h0 : Heap) (n0 : Nat) (O0 : Old Z n0 h0) (ST : Stc Z G1 Fm) (HB : Sb0 Z h0 a1 bA kA LB cs.length cs) (hnn : cs.length ≤ 120) (g_a1 : n0 ≤ a1) (g_bA : n0 ≤ bA) (HS : Str1 Z h0 a2 bS kS ds) (hds : ds.length ≤ 120) (htot : cs.length + ds.length ≤ 120) (nSb : bS ≠ bA) :
    Met l Z h0 ws Y_9 jdk_68_method_22_code 3 (some (.object "java/lang/AbstractStringBuilder")) R_48 #[(.ref a1), (.ref a2)] (Qsv (fun h b k LB' => Sb1 Z h a1 b k LB' (cs ++ ds).length (cs ++ ds)) (some (.ref a1)) a1 bA h0 n0) := by
  refine MetFree.of_bodySF (plainFor_of_name pn6) hisR ?_
  intro p e s m args below meth c s₁ Bd hml0 hP hK
  obtain ⟨rfl, hZ, hh⟩ := hP
  have hx := Bd.exec
  have hby := Bd.bytes
  have hml : c.maxLocals = 3 := hml0
  have hown : s.vm.findClass "java/lang/AbstractStringBuilder" = some m.cls := findClass_of_methodNamed Bd.named
  have hnm := (name_of_methodNamed Bd.named Bd.method).1
  have X0 : Stand p l e R_48 s m #[(.ref a1), (.ref a2)] below meth c s₁ [] 0 0 := Stand.of_body Bd
  have e0 : s₁.heap = h0 := by rw [← hh, Bd.state]; rfl
  have N0 := Fr.nil n0
  obtain ⟨S_cs, hG, S_fm, hF, S_ad, S_hi, S_lo⟩ := id ST
  obtain ⟨Es, Fv, Fc, Fn, Fy, Eb, hu, hL, tl, Bs⟩ := id HB
  have Vs := Bs.1
  have ls := Bs.2
  have hNs : (Int32.ofNat LB).toNatClampNeg = (cs.map cLo ++ tl).length := by rw [ls]; exact own_n (by omega)
  have lq : cs.length + tl.length = LB := by rw [← ls]; simp only [List.length_append, List.length_map, enc1_len]
  have lt_a1 := Es.lt
  have lt_bA := Vs.lt
  have n_ab : a1 ≠ bA := Exa.neArv Es Vs (tw hw 48 rfl)
  obtain ⟨E_a2, Fc_a2, Fv_a2, B_bS⟩ := id HS
  have lt_a2 := E_a2.lt
  have V_bS := B_bS.1
  have l_bS := B_bS.2
  have hN_bS : (Int32.ofNat (2 * ds.length)).toNatClampNeg = (enc1 ds).length := by rw [l_bS]; exact own_n (by omega)
  have lt_bS := V_bS.lt
  have n_21 : a2 ≠ a1 := Exa.ne E_a2 Es (by decide)
  have n_b1 : bS ≠ a1 := Ne.symm (Exa.neArv Es V_bS (tw hw 48 rfl))
  have n_2b : a2 ≠ bA := Exa.neArv E_a2 Vs (tw hw 6 rfl)
  have n_2s : a2 ≠ bS := Exa.neArv E_a2 V_bS (tw hw 6 rfl)
  obtain ⟨_, T1, Lc1, X1, hQ1, st1⟩ := own_vc X0 hx hZ (y := Y_2) hown (tw hw 76 rfl) (tw hw 29 rfl) (tw hw 31 rfl) (tw hw 30 rfl) (by decide) (rs_len1 l Z a0 hw [] G1 Fm a2 bS kS ds h0 n0 O0 ST HS hds) (tw hw 32 rfl) (tw hw 7 rfl) e0 E_a2 (W := 0) (by decide) (by decide) (Ls := (q_13 a1 a2)) (by rw [hml]; rfl) (argsL := []) (rest := []) (lenOf pd23 rfl) (Nat.le_of_eq rfl) (hb hby d11_10) rfl (by decide) (by decide)
  obtain ⟨rfl, Nq1, e1⟩ := hQ1
  have N1 := Fr.app N0 Nq1
  obtain ⟨T2, X2, e2, st2⟩ := getF X1 hx hZ hown (host := "") (Or.inl (tw hw 77 rfl)) Via.refl e1 Fn (g := (mkF m 16 (q_2 a1 a2 ds) [(.ref a1), (.ref a1)])) rfl rfl (hb hby d11_16)
  obtain ⟨cq3, qa3, qb3⟩ := (Es).cell
  obtain ⟨_, _, ⟨T3, L3, k3, n3⟩, -, X3, ⟨Lc3, hQ3, l3, y3, z3⟩, st3⟩ := X2.privateBack hx (y := Y_16) hown (mvT hZ (tw hw 79 rfl)) (mvT hZ (tw hw 80 rfl)) (own_selQ hZ (C := "java/lang/StringBuilder") (tw hw 82 rfl) (tw hw 81 rfl) (tw hw 80 rfl)) (Cond.privateMethod_at (mvP hZ (tw hw 81 rfl) (args := #[]))) (mvT hZ (tw hw 83 rfl)) (by decide) (backOf (W := 0) (rb_ec0 l Z a0 hw [] G1 Fm a1 bA kA LB cs (cs.length + ds.length) h0 n0 O0 ST HB hnn g_a1 g_bA htot) hZ (tw hw 83 rfl) (tw hw 57 rfl) (by decide) (by decide)) (g := (mkF m 21 (q_2 a1 a2 ds) [(.int (Int32.ofNat (cs.length + ds.length))), (.ref a1)])) rfl (by rw [hml]; rfl) (Steps.refl _) (a := a1) (by rw [e2]; exact qa3) qb3 (argsL := [(.int (Int32.ofNat (cs.length + ds.length)))]) (rest := []) (lenOf pd22 rfl) rfl (by show 2 * 0 + _ ≤ _; exact Nat.le_of_eq rfl) (hb hby d11_21) (fun _ _ => ⟨rfl, e2, (by decide : 0 + 1 ≤ _), (by decide : 0 + 500 ≤ _)⟩)
  dsimp only [Pt.U, Pt.locs, Pt.cells, Pt.slots] at X3 l3 y3 z3 st3 hQ3
  subst l3 y3 z3
  obtain ⟨h3, e3⟩ : ∃ z, T3.heap = z := ⟨_, rfl⟩
  rw [e3] at hQ3
  obtain ⟨rfl, Nq3, K3, x3, kx3, LBx3, or3, HBx3, hcap3⟩ := hQ3
  have N3 := Fr.app N1 Nq3
  have O4 := O0.keep K3 (allS g_a1 (allS g_bA all0))
  have kp5 : Keep h0 h3 [a1, bA] := (Keep.refl h0 [a1, bA]).trans K3 (allS (Or.inl (List.mem_of_getElem? (i := 0) rfl)) (allS (Or.inl (List.mem_of_getElem? (i := 1) rfl)) all0))
  have or_x3 : x3 = bA ∨ h0.size ≤ x3 := or3.imp id fun q => Nat.le_trans (Keep.refl h0 [a1, bA]).1 q
  have g_x3 : n0 ≤ x3 := own_gor or_x3 g_bA (own_sz O0)
  have wk_x3 : x3 ∈ [a1, bA] ∨ h0.size ≤ x3 := own_mem or_x3
  have n_a2_x3 : a2 ≠ x3 := own_nor or_x3 n_2b lt_a2
  have n_bS_x3 : bS ≠ x3 := own_nor or_x3 nSb lt_bS
  obtain ⟨Es_n, Fv_n, Fc_n, Fn_n, Fy_n, Eb_n, hu_n, hL_n, tl_n, Bs_n⟩ := id HBx3
  have Vs_n := Bs_n.1
  have ls_n := Bs_n.2
  have hNs_n : (Int32.ofNat LBx3).toNatClampNeg = (cs.map cLo ++ tl_n).length := by rw [ls_n]; exact own_n (by omega)
  have lq_n : cs.length + tl_n.length = LBx3 := by rw [← ls_n]; simp only [List.length_append, List.length_map, enc1_len]
  have n_a1_x3 : a1 ≠ x3 := Exa.neArv Es_n Vs_n (tw hw 48 rfl)
  obtain ⟨T6, X6, e6, st6⟩ := getF X3 hx hZ hown (host := "") (Or.inl (tw hw 77 rfl)) Via.refl e3 Fn_n (g := (mkF m 26 (q_2 a1 a2 ds) [(.ref a1), (.ref a1)])) rfl rfl (hb hby d11_26)
  obtain ⟨cq7, qa7, qb7⟩ := (Es_n).cell
  obtain ⟨_, _, ⟨T7, L7, k7, n7⟩, -, X7, ⟨Lc7, hQ7, l7, y7, z7⟩, st7⟩ := X6.privateBack hx (y := Y_8) hown (mvT hZ (tw hw 84 rfl)) (mvT hZ (tw hw 85 rfl)) (own_selQ hZ (C := "java/lang/StringBuilder") (tw hw 87 rfl) (tw hw 86 rfl) (tw hw 85 rfl)) (Cond.privateMethod_at (mvP hZ (tw hw 86 rfl) (args := #[]))) (mvT hZ (tw hw 88 rfl)) (by decide) (backOf (W := 0) (rb_ps01 l Z a0 hw [] G1 Fm a1 x3 kx3 LBx3 cs a2 bS kS ds h3 n0 O4 ST HBx3 hnn g_a1 g_x3 ⟨(E_a2.keep K3), (Fc_a2.keep K3 (ninS n_21 (ninS n_2b nin0))), (Fv_a2.keep K3 (ninS n_21 (ninS n_2b nin0))), ⟨(V_bS.keep K3 (ninS n_b1 (ninS nSb nin0))), B_bS.2⟩⟩ hds (by omega) htot n_bS_x3) hZ (tw hw 88 rfl) (tw hw 57 rfl) (by decide) (by decide)) (g := (mkF m 30 (q_2 a1 a2 ds) [(.ref a2), (.int (Int32.ofNat cs.length)), (.ref a1)])) rfl (by rw [hml]; rfl) (Steps.refl _) (a := a1) (by rw [e6]; exact qa7) qb7 (argsL := [(.int (Int32.ofNat cs.length)), (.ref a2)]) (rest := []) (lenOf pd28 rfl) rfl (by show 2 * 0 + _ ≤ _; exact Nat.le_of_eq rfl) (hb hby d11_30) (fun _ _ => ⟨rfl, e6, (by decide : 1 + 1 ≤ _), (by decide : 500 + 500 ≤ _)⟩)
  dsimp only [Pt.U, Pt.locs, Pt.cells, Pt.slots] at X7 l7 y7 z7 st7 hQ7
  subst l7 y7 z7
  obtain ⟨h7, e7⟩ : ∃ z, T7.heap = z := ⟨_, rfl⟩
  rw [e7] at hQ7
  obtain ⟨rfl, Nq7, K7, w7, kx7, LBx7, or7, HBx7⟩ := hQ7
  have N7 := Fr.app N3 Nq7
  have O8 := O4.keep K7 (allS g_a1 (allS g_x3 all0))
  have kp9 : Keep h0 h7 [a1, bA] := kp5.trans K7 (allS (Or.inl (List.mem_of_getElem? (i := 0) rfl)) (allS wk_x3 all0))
  have or_w7 : w7 = bA ∨ h0.size ≤ w7 := or7.elim (fun q => q ▸ or_x3) (fun q => Or.inr (Nat.le_trans kp5.1 q))
  obtain ⟨Es_m, Fv_m, Fc_m, Fn_m, Fy_m, Eb_m, hL_m, tl_m, Bs_m⟩ := id HBx7
  have Vs_m := Bs_m.1
  have ls_m := Bs_m.2
  have hNs_m : (Int32.ofNat LBx7).toNatClampNeg = (enc1 (cs ++ ds) ++ tl_m).length := by rw [ls_m]; exact own_n (by omega)
  have lq_m : 2 * (cs ++ ds).length + tl_m.length = LBx7 := by rw [← ls_m]; simp only [List.length_append, List.length_map, enc1_len]
  have n_a1_w7 : a1 ≠ w7 := Exa.neArv Es_m Vs_m (tw hw 48 rfl)
  obtain ⟨T10, X10, e10, st10⟩ := getF X7 hx hZ hown (host := "") (Or.inl (tw hw 77 rfl)) Via.refl e7 Fn_m (g := (mkF m 35 (q_2 a1 a2 ds) [(.ref a1), (.ref a1)])) rfl rfl (hb hby d11_35)
  obtain ⟨T11, h11, X11, e11, W11, st11⟩ := putF X10 hx hZ hown (host := "") (Or.inl (tw hw 77 rfl)) Via.refl e10 Fn_m Es_m (Or.inl (tw hw 78 rfl)) (tw hw 48 rfl) (ty := .int) (by decide) rfl rfl (g := (mkF m 40 (q_2 a1 a2 ds) [(.int (Int32.ofNat (cs.length + ds.length))), (.ref a1)])) rfl rfl (hb hby d11_40)
  have Fw11 := Fn_m.same W11
  have O12 := O8.wr W11 g_a1
  have kp13 : Keep h0 h11 [a1, bA] := kp9.wr W11 (Or.inl (List.mem_of_getElem? (i := 0) rfl))
  have N11 := Fr.snoc X11 N7 g_a1
  obtain ⟨fs, hr, hrun, hended, hW, hsame⟩ := X11.leave (v := some (.ref a1)) (fun h => by rw [Bd.returns] at h; cases h)
  refine ⟨_, _, castTop (ef_rb_aa01 m a1 a2) ?_, hrun, hended, _, _, rfl, ?_, ⟨_, rfl⟩, hW, hsame.mono (by decide) (by decide)⟩
  · show Go p e below s₁ m 0 (q_13 a1 a2) [] _
    refine XS.aloadN X0.here hx rfl (hb hby d11_0) rfl rfl ?_
    show Go p e below s₁ m 1 (q_13 a1 a2) [(.ref a2)] _
    refine XS.ifnonnullYes X0.here hx rfl (pc0 := 1) (pc' := 9) rfl (hb hby d11_1) rfl (by decide) (by decide) ?_
    show Go p e below s₁ m 9 (q_13 a1 a2) [] _
    refine XS.aloadN X0.here hx rfl (hb hby d11_9) rfl rfl ?_
    refine st1 _ ?_
    show Go p e below T1 m 13 (q_13 a1 a2) [(.int (Int32.ofNat ds.length))] _
    refine XS.istoreN X1.here hx rfl (hb hby d11_13) rfl (l' := (q_2 a1 a2 ds)) rfl ?_
    refine XS.aloadN X1.here hx rfl (hb hby d11_14) rfl rfl ?_
    refine XS.aloadN X1.here hx rfl (hb hby d11_15) rfl rfl ?_
    refine st2 _ ?_
    show Go p e below T2 m 19 (q_2 a1 a2 ds) [(.int (Int32.ofNat cs.length)), (.ref a1)] _
    refine XS.iloadN X2.here hx rfl (hb hby d11_19) rfl ?_
    refine XS.iadd X2.here hx rfl (hb hby d11_20) rfl ?_
    show Go p e below T2 m 21 (q_2 a1 a2 ds) [(.int ((Int32.ofNat cs.length) + (Int32.ofNat ds.length))), (.ref a1)] _
    rw [show ((Int32.ofNat cs.length) + (Int32.ofNat ds.length)) = (Int32.ofNat (cs.length + ds.length)) from own_add cs.length ds.length]
    refine st3.trans ?_
    show Go p e below T3 m 24 (q_2 a1 a2 ds) [] _
    refine XS.aloadN X3.here hx rfl (hb hby d11_24) rfl rfl ?_
    refine XS.aloadN X3.here hx rfl (hb hby d11_25) rfl rfl ?_
    refine st6 _ ?_
    show Go p e below T6 m 29 (q_2 a1 a2 ds) [(.int (Int32.ofNat cs.length)), (.ref a1)] _
    refine XS.aloadN X6.here hx rfl (hb hby d11_29) rfl rfl ?_
    refine st7.trans ?_
    show Go p e below T7 m 33 (q_2 a1 a2 ds) [] _
    refine XS.aloadN X7.here hx rfl (hb hby d11_33) rfl rfl ?_
    refine XS.dup X7.here hx rfl (hb hby d11_34) rfl rfl ?_
    refine st10 _ ?_
    show Go p e below T10 m 38 (q_2 a1 a2 ds) [(.int (Int32.ofNat cs.length)), (.ref a1)] _
    refine XS.iloadN X10.here hx rfl (hb hby d11_38) rfl ?_
    refine XS.iadd X10.here hx rfl (hb hby d11_39) rfl ?_
    show Go p e below T10 m 40 (q_2 a1 a2 ds) [(.int ((Int32.ofNat cs.length) + (Int32.ofNat ds.length))), (.ref a1)] _
    rw [show ((Int32.ofNat cs.length) + (Int32.ofNat ds.length)) = (Int32.ofNat (cs.length + ds.length)) from own_add cs.length ds.length]
    refine st11 _ ?_
    show Go p e below T11 m 43 (q_2 a1 a2 ds) [] _
    refine XS.aloadN X11.here hx rfl (hb hby d11_43) rfl rfl ?_
    show Go p e below T11 m 44 (q_2 a1 a2 ds) [(.ref a1)] _
    exact retOut X11 hx Bd.returns rfl (Or.inr (Or.inr (Or.inr (Or.inr ⟨rfl, rfl, rfl⟩)))) (hb hby d11_44) hr
  · show Qsv (fun h b k LB' => Sb1 Z h a1 b k LB' (cs ++ ds).length (cs ++ ds)) (some (.ref a1)) a1 bA h0 n0 _ T11.heap _
    rw [e11]
    exact ⟨rfl, N11, kp13, w7, _, _, or_w7, by rw [List.length_append]; exact ⟨(Es_m.wr W11), (Fv_m.other W11 (Or.inr (slot_ne (Or.inl (tw hw 62 rfl)) (Or.inl (tw hw 78 rfl)) (by decide) (t := (.array .byte)) (t' := .int) (by decide) (by decide)))), (Fc_m.other W11 (Or.inr (slot_ne (Or.inl (tw hw 64 rfl)) (Or.inl (tw hw 78 rfl)) (by decide) (t := .byte) (t' := .int) (by decide) (by decide)))), Fw11, (Fy_m.other W11 (Or.inr (slot_ne (Or.inl (tw hw 336 rfl)) (Or.inl (tw hw 78 rfl)) (by decide) (t := .boolean) (t' := .int) (by decide) (by decide)))), (Eb_m.wr W11), hL_m, _, ⟨(Vs_m.other W11 (Ne.symm n_a1_w7)), ls_m⟩⟩⟩
theorem ef_rb_ap01 (m : MethodId) (x0 : Addr) (x1 : Addr) : entryFrame m #[(.ref x0), (.ref x1)] 2 = mkF m 0 #[.val (.ref x0), .val (.ref x1)] [] := by first | (simp [entryFrame, mkF, argsToLocals, Value.category]; done) | rfl
set_option maxRecDepth 65536 in
set_option maxHeartbeats 40000000 in
theorem rb_ap01 (l : Launch) (Z : State) (a0 : Array Value) (hw : Hw a0 Z) (ws : List Jvm.Cond) (G1 : Int32) (Fm : Value) (a1 : Addr) (bA : Addr) (kA : ClassId) (LB : Nat) (cs : List UInt16) (a2 : Addr) (bS : Addr) (kS : ClassId) (ds : List UInt16) (h0 : Heap) (n0 : Nat) (O0 : Old Z n0 h0) (ST : Stc Z G1 Fm) (HB : Sb0 Z h0 a1 bA kA LB cs.length cs) (hnn : cs.length ≤ 120) (g_a1 : n0 ≤ a1) (g_bA : n0 ≤ bA) (HS : Str1 Z h0 a2 bS kS ds) (hds : ds.length ≤ 120) (htot : cs.length + ds.length ≤ 120) (nSb : bS ≠ bA) :
    Met l Z h0 ws Y_3 jdk_67_method_7_code 2 (some (.object "java/lang/StringBuilder")) R_4 #[(.ref a1), (.ref a2)] (Qsv (fun h b k LB' => Sbx Z h a1 b k LB' (cs ++ ds).length (cs ++ ds)) (some (.ref a1)) a1 bA h0 n0) := by
  refine MetFree.of_bodySF (plainFor_of_name pn7) hisR ?_
  intro p e s m args below meth c s₁ Bd hml0 hP hK
  obtain ⟨rfl, hZ, hh⟩ := hP
  have hx := Bd.exec
  have hby := Bd.bytes
  have hml : c.maxLocals = 2 := hml0
  have hown : s.vm.findClass "java/lang/StringBuilder" = some m.cls := findClass_of_methodNamed Bd.named
  have hnm := (name_of_methodNamed Bd.named Bd.method).1
  have X0 : Stand p l e R_4 s m #[(.ref a1), (.ref a2)] below meth c s₁ [] 0 0 := Stand.of_body Bd
  have e0 : s₁.heap = h0 := by rw [← hh, Bd.state]; rfl
  have N0 := Fr.nil n0
  obtain ⟨S_cs, hG, S_fm, hF, S_ad, S_hi, S_lo⟩ := id ST
  obtain ⟨Es, Fv, Fc, Fn, Fy, Eb, hu, hL, tl, Bs⟩ := id HB
  have Vs := Bs.1
  have ls := Bs.2
  have hNs : (Int32.ofNat LB).toNatClampNeg = (cs.map cLo ++ tl).length := by rw [ls]; exact own_n (by omega)
  have lq : cs.length + tl.length = LB := by rw [← ls]; simp only [List.length_append, List.length_map, enc1_len]
  have lt_a1 := Es.lt
  have lt_bA := Vs.lt
  have n_ab : a1 ≠ bA := Exa.neArv Es Vs (tw hw 48 rfl)
  obtain ⟨E_a2, Fc_a2, Fv_a2, B_bS⟩ := id HS
  have lt_a2 := E_a2.lt
  have V_bS := B_bS.1
  have l_bS := B_bS.2
  have hN_bS : (Int32.ofNat (2 * ds.length)).toNatClampNeg = (enc1 ds).length := by rw [l_bS]; exact own_n (by omega)
  have lt_bS := V_bS.lt
  have n_21 : a2 ≠ a1 := Exa.ne E_a2 Es (by decide)
  have n_b1 : bS ≠ a1 := Ne.symm (Exa.neArv Es V_bS (tw hw 48 rfl))
  have n_2b : a2 ≠ bA := Exa.neArv E_a2 Vs (tw hw 6 rfl)
  have n_2s : a2 ≠ bS := Exa.neArv E_a2 V_bS (tw hw 6 rfl)
  obtain ⟨_, _, ⟨T1, L1, k1, n1⟩, -, X1, ⟨Lc1, hQ1, l1, y1, z1⟩, st1⟩ := Jvm.RoadKit.superBack X0 hx hZ (y := Y_9) (K := "java/lang/AbstractStringBuilder") hown (tw hw 71 rfl) (own_same (C := "java/lang/StringBuilder") (tw hw 74 rfl) (tw hw 157 rfl)) (tw hw 72 rfl) (tw hw 73 rfl) (by decide) (backOf (W := 0) (rb_aa01 l Z a0 hw [] G1 Fm a1 bA kA LB cs a2 bS kS ds h0 n0 O0 ST HB hnn g_a1 g_bA HS hds htot nSb) hZ (tw hw 75 rfl) (tw hw 57 rfl) (by decide) (by decide)) e0 (Ins.of_exa Es (tw hw 56 rfl)) (g := (mkF m 2 (q_0 a1 a2) [(.ref a2), (.ref a1)])) rfl (by rw [hml]; rfl) (tw hw 75 rfl) (argsL := [(.ref a2)]) (rest := []) (lenOf pd29 rfl) rfl (by show 2 * 0 + _ ≤ _; exact Nat.le_of_eq rfl) (hb hby d10_2) (fun _ _ => ⟨rfl, e0, (by decide : 0 + 2 ≤ _), (by decide : 0 + 1000 ≤ _)⟩)
  dsimp only [Pt.U, Pt.locs, Pt.cells, Pt.slots] at X1 l1 y1 z1 st1 hQ1
  subst l1 y1 z1
  obtain ⟨h1, e1⟩ : ∃ z, T1.heap = z := ⟨_, rfl⟩
  rw [e1] at hQ1
  obtain ⟨rfl, Nq1, K1, R1⟩ := hQ1
  have N1 := Fr.app N0 Nq1
  have O2 := O0.keep K1 (allS g_a1 (allS g_bA all0))
  have kp3 : Keep h0 h1 [a1, bA] := (Keep.refl h0 [a1, bA]).trans K1 (allS (Or.inl (List.mem_of_getElem? (i := 0) rfl)) (allS (Or.inl (List.mem_of_getElem? (i := 1) rfl)) all0))
  have RR := R1
  obtain ⟨fs, hr, hrun, hended, hW, hsame⟩ := X1.leave (v := some (.ref a1)) (fun h => by rw [Bd.returns] at h; cases h)
  refine ⟨_, _, castTop (ef_rb_ap01 m a1 a2) ?_, hrun, hended, _, _, rfl, ?_, ⟨_, rfl⟩, hW, hsame.mono (by decide) (by decide)⟩
  · show Go p e below s₁ m 0 (q_0 a1 a2) [] _
    refine XS.aloadN X0.here hx rfl (hb hby d10_0) rfl rfl ?_
    refine XS.aloadN X0.here hx rfl (hb hby d10_1) rfl rfl ?_
    refine st1.trans ?_
    show Go p e below T1 m 5 (q_0 a1 a2) [(.ref a1)] _
    refine XS.pop X1.here hx rfl (hb hby d10_5) rfl rfl ?_
    show Go p e below T1 m 6 (q_0 a1 a2) [] _
    refine XS.aloadN X1.here hx rfl (hb hby d10_6) rfl rfl ?_
    show Go p e below T1 m 7 (q_0 a1 a2) [(.ref a1)] _
    exact retOut X1 hx Bd.returns rfl (Or.inr (Or.inr (Or.inr (Or.inr ⟨rfl, rfl, rfl⟩)))) (hb hby d10_7) hr
  · show Qsv (fun h b k LB' => Sbx Z h a1 b k LB' (cs ++ ds).length (cs ++ ds)) (some (.ref a1)) a1 bA h0 n0 _ T1.heap _
    rw [e1]
    obtain ⟨b9, k9, L9, o9, q9⟩ := RR; exact ⟨rfl, N1, kp3, b9, k9, L9, o9, Or.inr q9⟩
theorem ef_rb_aa10 (m : MethodId) (x0 : Addr) (x1 : Addr) : entryFrame m #[(.ref x0), (.ref x1)] 3 = mkF m 0 #[.val (.ref x0), .val (.ref x1), .unset] [] := by first | (simp [entryFrame, mkF, argsToLocals, Value.category]; done) | rfl
set_option maxRecDepth 65536 in
set_option maxHeartbeats 40000000 in
theorem rb_aa10 (l : Launch) (Z : State) (a0 : Array Value) (hw : Hw a0 Z) (ws : List Jvm.Cond) (G1 : Int32) (Fm : Value) (a1 : Addr) (bA : Addr) (kA : ClassId) (LB : Nat) (cs : List UInt16) (a2 : Addr) (bS : Addr) (kS : ClassId) (ds : List UInt16) (h0 : Heap) (n0 : Nat) (O0 : Old Z n0 h0) (ST : Stc Z G1 Fm) (HB : Sb1 Z h0 a1 bA kA LB cs.length cs) (hnn : cs.length ≤ 120) (g_a1 : n0 ≤ a1) (g_bA : n0 ≤ bA) (HS : Str0 Z h0 a2 bS kS ds) (hds : ds.length ≤ 120) (htot : cs.length + ds.length ≤ 120) (nSb : bS ≠ bA) :
    Met l Z h0 ws Y_9 jdk_68_method_22_code 3 (some (.object "java/lang/AbstractStringBuilder")) R_49 #[(.ref a1), (.ref a2)] (Qsv (fun h b k LB' => Sb1 Z h a1 b k LB' (cs ++ ds).length (cs ++ ds)) (some (.ref a1)) a1 bA h0 n0) := by
  refine MetFree.of_bodySF (plainFor_of_name pn6) hisR ?_
  intro p e s m args below meth c s₁ Bd hml0 hP hK
  obtain ⟨rfl, hZ, hh⟩ := hP
  have hx := Bd.exec
  have hby := Bd.bytes
  have hml : c.maxLocals = 3 := hml0
  have hown : s.vm.findClass "java/lang/AbstractStringBuilder" = some m.cls := findClass_of_methodNamed Bd.named
  have hnm := (name_of_methodNamed Bd.named Bd.method).1
  have X0 : Stand p l e R_49 s m #[(.ref a1), (.ref a2)] below meth c s₁ [] 0 0 := Stand.of_body Bd
  have e0 : s₁.heap = h0 := by rw [← hh, Bd.state]; rfl
  have N0 := Fr.nil n0
  obtain ⟨S_cs, hG, S_fm, hF, S_ad, S_hi, S_lo⟩ := id ST
  obtain ⟨Es, Fv, Fc, Fn, Fy, Eb, hL, tl, Bs⟩ := id HB
  have Vs := Bs.1
  have ls := Bs.2
  have hNs : (Int32.ofNat LB).toNatClampNeg = (enc1 cs ++ tl).length := by rw [ls]; exact own_n (by omega)
  have lq : 2 * cs.length + tl.length = LB := by rw [← ls]; simp only [List.length_append, List.length_map, enc1_len]
  have lt_a1 := Es.lt
  have lt_bA := Vs.lt
  have n_ab : a1 ≠ bA := Exa.neArv Es Vs (tw hw 48 rfl)
  obtain ⟨E_a2, Fc_a2, Fv_a2, B_bS, hu_a2⟩ := id HS
  have lt_a2 := E_a2.lt
  have V_bS := B_bS.1
  have l_bS := B_bS.2
  have hN_bS : (Int32.ofNat ds.length).toNatClampNeg = (ds.map cLo).length := by rw [l_bS]; exact own_n (by omega)
  have lt_bS := V_bS.lt
  have n_21 : a2 ≠ a1 := Exa.ne E_a2 Es (by decide)
  have n_b1 : bS ≠ a1 := Ne.symm (Exa.neArv Es V_bS (tw hw 48 rfl))
  have n_2b : a2 ≠ bA := Exa.neArv E_a2 Vs (tw hw 6 rfl)
  have n_2s : a2 ≠ bS := Exa.neArv E_a2 V_bS (tw hw 6 rfl)
  obtain ⟨_, T1, Lc1, X1, hQ1, st1⟩ := own_vc X0 hx hZ (y := Y_2) hown (tw hw 76 rfl) (tw hw 29 rfl) (tw hw 31 rfl) (tw hw 30 rfl) (by decide) (rs_len0 l Z a0 hw [] G1 Fm a2 bS kS ds h0 n0 O0 ST HS hds) (tw hw 32 rfl) (tw hw 7 rfl) e0 E_a2 (W := 0) (by decide) (by decide) (Ls := (q_13 a1 a2)) (by rw [hml]; rfl) (argsL := []) (rest := []) (lenOf pd23 rfl) (Nat.le_of_eq rfl) (hb hby d11_10) rfl (by decide) (by decide)
  obtain ⟨rfl, Nq1, e1⟩ := hQ1
  have N1 := Fr.app N0 Nq1
  obtain ⟨T2, X2, e2, st2⟩ := getF X1 hx hZ hown (host := "") (Or.inl (tw hw 77 rfl)) Via.refl e1 Fn (g := (mkF m 16 (q_2 a1 a2 ds) [(.ref a1), (.ref a1)])) rfl rfl (hb hby d11_16)
  obtain ⟨cq3, qa3, qb3⟩ := (Es).cell
  obtain ⟨_, _, ⟨T3, L3, k3, n3⟩, -, X3, ⟨Lc3, hQ3, l3, y3, z3⟩, st3⟩ := X2.privateBack hx (y := Y_16) hown (mvT hZ (tw hw 79 rfl)) (mvT hZ (tw hw 80 rfl)) (own_selQ hZ (C := "java/lang/StringBuilder") (tw hw 82 rfl) (tw hw 81 rfl) (tw hw 80 rfl)) (Cond.privateMethod_at (mvP hZ (tw hw 81 rfl) (args := #[]))) (mvT hZ (tw hw 83 rfl)) (by decide) (backOf (W := 0) (rb_ec1 l Z a0 hw [] G1 Fm a1 bA kA LB cs (cs.length + ds.length) h0 n0 O0 ST HB hnn g_a1 g_bA htot) hZ (tw hw 83 rfl) (tw hw 57 rfl) (by decide) (by decide)) (g := (mkF m 21 (q_2 a1 a2 ds) [(.int (Int32.ofNat (cs.length + ds.length))), (.ref a1)])) rfl (by rw [hml]; rfl) (Steps.refl _) (a := a1) (by rw [e2]; exact qa3) qb3 (argsL := [(.int (Int32.ofNat (cs.length + ds.length)))]) (rest := []) (lenOf pd22 rfl) rfl (by show 2 * 0 + _ ≤ _; exact Nat.le_of_eq rfl) (hb hby d11_21) (fun _ _ => ⟨rfl, e2, (by decide : 0 + 1 ≤ _), (by decide : 0 + 500 ≤ _)⟩)
  dsimp only [Pt.U, Pt.locs, Pt.cells, Pt.slots] at X3 l3 y3 z3 st3 hQ3
  subst l3 y3 z3
  obtain ⟨h3, e3⟩ : ∃ z, T3.heap = z := ⟨_, rfl⟩
  rw [e3] at hQ3
  obtain ⟨rfl, Nq3, K3, x3, kx3, LBx3, or3, HBx3, hcap3⟩ := hQ3
  have N3 := Fr.app N1 Nq3
  have O4 := O0.keep K3 (allS g_a1 (allS g_bA all0))
  have kp5 : Keep h0 h3 [a1, bA] := (Keep.refl h0 [a1, bA]).trans K3 (allS (Or.inl (List.mem_of_getElem? (i := 0) rfl)) (allS (Or.inl (List.mem_of_getElem? (i := 1) rfl)) all0))
  have or_x3 : x3 = bA ∨ h0.size ≤ x3 := or3.imp id fun q => Nat.le_trans (Keep.refl h0 [a1, bA]).1 q
  have g_x3 : n0 ≤ x3 := own_gor or_x3 g_bA (own_sz O0)
  have wk_x3 : x3 ∈ [a1, bA] ∨ h0.size ≤ x3 := own_mem or_x3
  have n_a2_x3 : a2 ≠ x3 := own_nor or_x3 n_2b lt_a2
  have n_bS_x3 : bS ≠ x3 := own_nor or_x3 nSb lt_bS
  obtain ⟨Es_n, Fv_n, Fc_n, Fn_n, Fy_n, Eb_n, hL_n, tl_n, Bs_n⟩ := id HBx3
  have Vs_n := Bs_n.1
  have ls_n := Bs_n.2
  have hNs_n : (Int32.ofNat LBx3).toNatClampNeg = (enc1 cs ++ tl_n).length := by rw [ls_n]; exact own_n (by omega)
  have lq_n : 2 * cs.length + tl_n.length = LBx3 := by rw [← ls_n]; simp only [List.length_append, List.length_map, enc1_len]
  have n_a1_x3 : a1 ≠ x3 := Exa.neArv Es_n Vs_n (tw hw 48 rfl)
  obtain ⟨T6, X6, e6, st6⟩ := getF X3 hx hZ hown (host := "") (Or.inl (tw hw 77 rfl)) Via.refl e3 Fn_n (g := (mkF m 26 (q_2 a1 a2 ds) [(.ref a1), (.ref a1)])) rfl rfl (hb hby d11_26)
  obtain ⟨cq7, qa7, qb7⟩ := (Es_n).cell
  obtain ⟨_, _, ⟨T7, L7, k7, n7⟩, -, X7, ⟨Lc7, hQ7, l7, y7, z7⟩, st7⟩ := X6.privateBack hx (y := Y_8) hown (mvT hZ (tw hw 84 rfl)) (mvT hZ (tw hw 85 rfl)) (own_selQ hZ (C := "java/lang/StringBuilder") (tw hw 87 rfl) (tw hw 86 rfl) (tw hw 85 rfl)) (Cond.privateMethod_at (mvP hZ (tw hw 86 rfl) (args := #[]))) (mvT hZ (tw hw 88 rfl)) (by decide) (backOf (W := 0) (rb_ps10 l Z a0 hw [] G1 Fm a1 x3 kx3 LBx3 cs a2 bS kS ds h3 n0 O4 ST HBx3 hnn g_a1 g_x3 ⟨(E_a2.keep K3), (Fc_a2.keep K3 (ninS n_21 (ninS n_2b nin0))), (Fv_a2.keep K3 (ninS n_21 (ninS n_2b nin0))), ⟨(V_bS.keep K3 (ninS n_b1 (ninS nSb nin0))), B_bS.2⟩, hu_a2⟩ hds (by omega) htot n_bS_x3) hZ (tw hw 88 rfl) (tw hw 57 rfl) (by decide) (by decide)) (g := (mkF m 30 (q_2 a1 a2 ds) [(.ref a2), (.int (Int32.ofNat cs.length)), (.ref a1)])) rfl (by rw [hml]; rfl) (Steps.refl _) (a := a1) (by rw [e6]; exact qa7) qb7 (argsL := [(.int (Int32.ofNat cs.length)), (.ref a2)]) (rest := []) (lenOf pd28 rfl) rfl (by show 2 * 0 + _ ≤ _; exact Nat.le_of_eq rfl) (hb hby d11_30) (fun _ _ => ⟨rfl, e6, (by decide : 1 + 0 ≤ _), (by decide : 500 + 0 ≤ _)⟩)
  dsimp only [Pt.U, Pt.locs, Pt.cells, Pt.slots] at X7 l7 y7 z7 st7 hQ7
  subst l7 y7 z7
  obtain ⟨h7, e7⟩ : ∃ z, T7.heap = z := ⟨_, rfl⟩
  rw [e7] at hQ7
  obtain ⟨rfl, Nq7, K7, w7, kx7, LBx7, or7, HBx7⟩ := hQ7
  have N7 := Fr.app N3 Nq7
  have O8 := O4.keep K7 (allS g_a1 (allS g_x3 all0))
  have kp9 : Keep h0 h7 [a1, bA] := kp5.trans K7 (allS (Or.inl (List.mem_of_getElem? (i := 0) rfl)) (allS wk_x3 all0))
  have or_w7 : w7 = bA ∨ h0.size ≤ w7 := or7.elim (fun q => q ▸ or_x3) (fun q => Or.inr (Nat.le_trans kp5.1 q))
  obtain ⟨Es_m, Fv_m, Fc_m, Fn_m, Fy_m, Eb_m, hL_m, tl_m, Bs_m⟩ := id HBx7
  have Vs_m := Bs_m.1
  have ls_m := Bs_m.2
  have hNs_m : (Int32.ofNat LBx7).toNatClampNeg = (enc1 (cs ++ ds) ++ tl_m).length := by rw [ls_m]; exact own_n (by omega)
  have lq_m : 2 * (cs ++ ds).length + tl_m.length = LBx7 := by rw [← ls_m]; simp only [List.length_append, List.length_map, enc1_len]
  have n_a1_w7 : a1 ≠ w7 := Exa.neArv Es_m Vs_m (tw hw 48 rfl)
  obtain ⟨T10, X10, e10, st10⟩ := getF X7 hx hZ hown (host := "") (Or.inl (tw hw 77 rfl)) Via.refl e7 Fn_m (g := (mkF m 35 (q_2 a1 a2 ds) [(.ref a1), (.ref a1)])) rfl rfl (hb hby d11_35)
  obtain ⟨T11, h11, X11, e11, W11, st11⟩ := putF X10 hx hZ hown (host := "") (Or.inl (tw hw 77 rfl)) Via.refl e10 Fn_m Es_m (Or.inl (tw hw 78 rfl)) (tw hw 48 rfl) (ty := .int) (by decide) rfl rfl (g := (mkF m 40 (q_2 a1 a2 ds) [(.int (Int32.ofNat (cs.length + ds.length))), (.ref a1)])) rfl rfl (hb hby d11_40)
  have Fw11 := Fn_m.same W11
  have O12 := O8.wr W11 g_a1
  have kp13 : Keep h0 h11 [a1, bA] := kp9.wr W11 (Or.inl (List.mem_of_getElem? (i := 0) rfl))
  have N11 := Fr.snoc X11 N7 g_a1
  obtain ⟨fs, hr, hrun, hended, hW, hsame⟩ := X11.leave (v := some (.ref a1)) (fun h => by rw [Bd.returns] at h; cases h)
  refine ⟨_, _, castTop (ef_rb_aa10 m a1 a2) ?_, hrun, hended, _, _, rfl, ?_, ⟨_, rfl⟩, hW, hsame.mono (by decide) (by decide)⟩
  · show Go p e below s₁ m 0 (q_13 a1 a2) [] _
    refine XS.aloadN X0.here hx rfl (hb hby d11_0) rfl rfl ?_
    show Go p e below s₁ m 1 (q_13 a1 a2) [(.ref a2)] _
    refine XS.ifnonnullYes X0.here hx rfl (pc0 := 1) (pc' := 9) rfl (hb hby d11_1) rfl (by decide) (by decide) ?_
    show Go p e below s₁ m 9 (q_13 a1 a2) [] _
    refine XS.aloadN X0.here hx rfl (hb hby d11_9) rfl rfl ?_
    refine st1 _ ?_
    show Go p e below T1 m 13 (q_13 a1 a2) [(.int (Int32.ofNat ds.length))] _
    refine XS.istoreN X1.here hx rfl (hb hby d11_13) rfl (l' := (q_2 a1 a2 ds)) rfl ?_
    refine XS.aloadN X1.here hx rfl (hb hby d11_14) rfl rfl ?_
    refine XS.aloadN X1.here hx rfl (hb hby d11_15) rfl rfl ?_
    refine st2 _ ?_
    show Go p e below T2 m 19 (q_2 a1 a2 ds) [(.int (Int32.ofNat cs.length)), (.ref a1)] _
    refine XS.iloadN X2.here hx rfl (hb hby d11_19) rfl ?_
    refine XS.iadd X2.here hx rfl (hb hby d11_20) rfl ?_
    show Go p e below T2 m 21 (q_2 a1 a2 ds) [(.int ((Int32.ofNat cs.length) + (Int32.ofNat ds.length))), (.ref a1)] _
    rw [show ((Int32.ofNat cs.length) + (Int32.ofNat ds.length)) = (Int32.ofNat (cs.length + ds.length)) from own_add cs.length ds.length]
    refine st3.trans ?_
    show Go p e below T3 m 24 (q_2 a1 a2 ds) [] _
    refine XS.aloadN X3.here hx rfl (hb hby d11_24) rfl rfl ?_
    refine XS.aloadN X3.here hx rfl (hb hby d11_25) rfl rfl ?_
    refine st6 _ ?_
    show Go p e below T6 m 29 (q_2 a1 a2 ds) [(.int (Int32.ofNat cs.length)), (.ref a1)] _
    refine XS.aloadN X6.here hx rfl (hb hby d11_29) rfl rfl ?_
    refine st7.trans ?_
    show Go p e below T7 m 33 (q_2 a1 a2 ds) [] _
    refine XS.aloadN X7.here hx rfl (hb hby d11_33) rfl rfl ?_
    refine XS.dup X7.here hx rfl (hb hby d11_34) rfl rfl ?_
    refine st10 _ ?_
    show Go p e below T10 m 38 (q_2 a1 a2 ds) [(.int (Int32.ofNat cs.length)), (.ref a1)] _
    refine XS.iloadN X10.here hx rfl (hb hby d11_38) rfl ?_
    refine XS.iadd X10.here hx rfl (hb hby d11_39) rfl ?_
    show Go p e below T10 m 40 (q_2 a1 a2 ds) [(.int ((Int32.ofNat cs.length) + (Int32.ofNat ds.length))), (.ref a1)] _
    rw [show ((Int32.ofNat cs.length) + (Int32.ofNat ds.length)) = (Int32.ofNat (cs.length + ds.length)) from own_add cs.length ds.length]
    refine st11 _ ?_
    show Go p e below T11 m 43 (q_2 a1 a2 ds) [] _
    refine XS.aloadN X11.here hx rfl (hb hby d11_43) rfl rfl ?_
    show Go p e below T11 m 44 (q_2 a1 a2 ds) [(.ref a1)] _
    exact retOut X11 hx Bd.returns rfl (Or.inr (Or.inr (Or.inr (Or.inr ⟨rfl, rfl, rfl⟩)))) (hb hby d11_44) hr
  · show Qsv (fun h b k LB' => Sb1 Z h a1 b k LB' (cs ++ ds).length (cs ++ ds)) (some (.ref a1)) a1 bA h0 n0 _ T11.heap _
    rw [e11]
    exact ⟨rfl, N11, kp13, w7, _, _, or_w7, by rw [List.length_append]; exact ⟨(Es_m.wr W11), (Fv_m.other W11 (Or.inr (slot_ne (Or.inl (tw hw 62 rfl)) (Or.inl (tw hw 78 rfl)) (by decide) (t := (.array .byte)) (t' := .int) (by decide) (by decide)))), (Fc_m.other W11 (Or.inr (slot_ne (Or.inl (tw hw 64 rfl)) (Or.inl (tw hw 78 rfl)) (by decide) (t := .byte) (t' := .int) (by decide) (by decide)))), Fw11, (Fy_m.other W11 (Or.inr (slot_ne (Or.inl (tw hw 336 rfl)) (Or.inl (tw hw 78 rfl)) (by decide) (t := .boolean) (t' := .int) (by decide) (by decide)))), (Eb_m.wr W11), hL_m, _, ⟨(Vs_m.other W11 (Ne.symm n_a1_w7)), ls_m⟩⟩⟩
theorem ef_rb_ap10 (m : MethodId) (x0 : Addr) (x1 : Addr) : entryFrame m #[(.ref x0), (.ref x1)] 2 = mkF m 0 #[.val (.ref x0), .val (.ref x1)] [] := by first | (simp [entryFrame, mkF, argsToLocals, Value.category]; done) | rfl
set_option maxRecDepth 65536 in
set_option maxHeartbeats 40000000 in
theorem rb_ap10 (l : Launch) (Z : State) (a0 : Array Value) (hw : Hw a0 Z) (ws : List Jvm.Cond) (G1 : Int32) (Fm : Value) (a1 : Addr) (bA : Addr) (kA : ClassId) (LB : Nat) (cs : List UInt16) (a2 : Addr) (bS : Addr) (kS : ClassId) (ds : List UInt16) (h0 : Heap) (n0 : Nat) (O0 : Old Z n0 h0) (ST : Stc Z G1 Fm) (HB : Sb1 Z h0 a1 bA kA LB cs.length cs) (hnn : cs.length ≤ 120) (g_a1 : n0 ≤ a1) (g_bA : n0 ≤ bA) (HS : Str0 Z h0 a2 bS kS ds) (hds : ds.length ≤ 120) (htot : cs.length + ds.length ≤ 120) (nSb : bS ≠ bA) :
    Met l Z h0 ws Y_3 jdk_67_method_7_code 2 (some (.object "java/lang/StringBuilder")) R_4 #[(.ref a1), (.ref a2)] (Qsv (fun h b k LB' => Sbx Z h a1 b k LB' (cs ++ ds).length (cs ++ ds)) (some (.ref a1)) a1 bA h0 n0) := by
  refine MetFree.of_bodySF (plainFor_of_name pn7) hisR ?_
  intro p e s m args below meth c s₁ Bd hml0 hP hK
  obtain ⟨rfl, hZ, hh⟩ := hP
  have hx := Bd.exec
  have hby := Bd.bytes
  have hml : c.maxLocals = 2 := hml0
  have hown : s.vm.findClass "java/lang/StringBuilder" = some m.cls := findClass_of_methodNamed Bd.named
  have hnm := (name_of_methodNamed Bd.named Bd.method).1
  have X0 : Stand p l e R_4 s m #[(.ref a1), (.ref a2)] below meth c s₁ [] 0 0 := Stand.of_body Bd
  have e0 : s₁.heap = h0 := by rw [← hh, Bd.state]; rfl
  have N0 := Fr.nil n0
  obtain ⟨S_cs, hG, S_fm, hF, S_ad, S_hi, S_lo⟩ := id ST
  obtain ⟨Es, Fv, Fc, Fn, Fy, Eb, hL, tl, Bs⟩ := id HB
  have Vs := Bs.1
  have ls := Bs.2
  have hNs : (Int32.ofNat LB).toNatClampNeg = (enc1 cs ++ tl).length := by rw [ls]; exact own_n (by omega)
  have lq : 2 * cs.length + tl.length = LB := by rw [← ls]; simp only [List.length_append, List.length_map, enc1_len]
  have lt_a1 := Es.lt
  have lt_bA := Vs.lt
  have n_ab : a1 ≠ bA := Exa.neArv Es Vs (tw hw 48 rfl)
  obtain ⟨E_a2, Fc_a2, Fv_a2, B_bS, hu_a2⟩ := id HS
  have lt_a2 := E_a2.lt
  have V_bS := B_bS.1
  have l_bS := B_bS.2
  have hN_bS : (Int32.ofNat ds.length).toNatClampNeg = (ds.map cLo).length := by rw [l_bS]; exact own_n (by omega)
  have lt_bS := V_bS.lt
  have n_21 : a2 ≠ a1 := Exa.ne E_a2 Es (by decide)
  have n_b1 : bS ≠ a1 := Ne.symm (Exa.neArv Es V_bS (tw hw 48 rfl))
  have n_2b : a2 ≠ bA := Exa.neArv E_a2 Vs (tw hw 6 rfl)
  have n_2s : a2 ≠ bS := Exa.neArv E_a2 V_bS (tw hw 6 rfl)
  obtain ⟨_, _, ⟨T1, L1, k1, n1⟩, -, X1, ⟨Lc1, hQ1, l1, y1, z1⟩, st1⟩ := Jvm.RoadKit.superBack X0 hx hZ (y := Y_9) (K := "java/lang/AbstractStringBuilder") hown (tw hw 71 rfl) (own_same (C := "java/lang/StringBuilder") (tw hw 74 rfl) (tw hw 157 rfl)) (tw hw 72 rfl) (tw hw 73 rfl) (by decide) (backOf (W := 0) (rb_aa10 l Z a0 hw [] G1 Fm a1 bA kA LB cs a2 bS kS ds h0 n0 O0 ST HB hnn g_a1 g_bA HS hds htot nSb) hZ (tw hw 75 rfl) (tw hw 57 rfl) (by decide) (by decide)) e0 (Ins.of_exa Es (tw hw 56 rfl)) (g := (mkF m 2 (q_0 a1 a2) [(.ref a2), (.ref a1)])) rfl (by rw [hml]; rfl) (tw hw 75 rfl) (argsL := [(.ref a2)]) (rest := []) (lenOf pd29 rfl) rfl (by show 2 * 0 + _ ≤ _; exact Nat.le_of_eq rfl) (hb hby d10_2) (fun _ _ => ⟨rfl, e0, (by decide : 0 + 1 ≤ _), (by decide : 0 + 500 ≤ _)⟩)
  dsimp only [Pt.U, Pt.locs, Pt.cells, Pt.slots] at X1 l1 y1 z1 st1 hQ1
  subst l1 y1 z1
  obtain ⟨h1, e1⟩ : ∃ z, T1.heap = z := ⟨_, rfl⟩
  rw [e1] at hQ1
  obtain ⟨rfl, Nq1, K1, R1⟩ := hQ1
  have N1 := Fr.app N0 Nq1
  have O2 := O0.keep K1 (allS g_a1 (allS g_bA all0))
  have kp3 : Keep h0 h1 [a1, bA] := (Keep.refl h0 [a1, bA]).trans K1 (allS (Or.inl (List.mem_of_getElem? (i := 0) rfl)) (allS (Or.inl (List.mem_of_getElem? (i := 1) rfl)) all0))
  have RR := R1
  obtain ⟨fs, hr, hrun, hended, hW, hsame⟩ := X1.leave (v := some (.ref a1)) (fun h => by rw [Bd.returns] at h; cases h)
  refine ⟨_, _, castTop (ef_rb_ap10 m a1 a2) ?_, hrun, hended, _, _, rfl, ?_, ⟨_, rfl⟩, hW, hsame.mono (by decide) (by decide)⟩
  · show Go p e below s₁ m 0 (q_0 a1 a2) [] _
    refine XS.aloadN X0.here hx rfl (hb hby d10_0) rfl rfl ?_
    refine XS.aloadN X0.here hx rfl (hb hby d10_1) rfl rfl ?_
    refine st1.trans ?_
    show Go p e below T1 m 5 (q_0 a1 a2) [(.ref a1)] _
    refine XS.pop X1.here hx rfl (hb hby d10_5) rfl rfl ?_
    show Go p e below T1 m 6 (q_0 a1 a2) [] _
    refine XS.aloadN X1.here hx rfl (hb hby d10_6) rfl rfl ?_
    show Go p e below T1 m 7 (q_0 a1 a2) [(.ref a1)] _
    exact retOut X1 hx Bd.returns rfl (Or.inr (Or.inr (Or.inr (Or.inr ⟨rfl, rfl, rfl⟩)))) (hb hby d10_7) hr
  · show Qsv (fun h b k LB' => Sbx Z h a1 b k LB' (cs ++ ds).length (cs ++ ds)) (some (.ref a1)) a1 bA h0 n0 _ T1.heap _
    rw [e1]
    obtain ⟨b9, k9, L9, o9, q9⟩ := RR; exact ⟨rfl, N1, kp3, b9, k9, L9, o9, Or.inr q9⟩
theorem ef_rb_aa11 (m : MethodId) (x0 : Addr) (x1 : Addr) : entryFrame m #[(.ref x0), (.ref x1)] 3 = mkF m 0 #[.val (.ref x0), .val (.ref x1), .unset] [] := by first | (simp [entryFrame, mkF, argsToLocals, Value.category]; done) | rfl
set_option maxRecDepth 65536 in
set_option maxHeartbeats 40000000 in
theorem rb_aa11 (l : Launch) (Z : State) (a0 : Array Value) (hw : Hw a0 Z) (ws : List Jvm.Cond) (G1 : Int32) (Fm : Value) (a1 : Addr) (bA : Addr) (kA : ClassId) (LB : Nat) (cs : List UInt16) (a2 : Addr) (bS : Addr) (kS : ClassId) (ds : List UInt16) (h0 : Heap) (n0 : Nat) (O0 : Old Z n0 h0) (ST : Stc Z G1 Fm) (HB : Sb1 Z h0 a1 bA kA LB cs.length cs) (hnn : cs.length ≤ 120) (g_a1 : n0 ≤ a1) (g_bA : n0 ≤ bA) (HS : Str1 Z h0 a2 bS kS ds) (hds : ds.length ≤ 120) (htot : cs.length + ds.length ≤ 120) (nSb : bS ≠ bA) :
    Met l Z h0 ws Y_9 jdk_68_method_22_code 3 (some (.object "java/lang/AbstractStringBuilder")) R_22 #[(.ref a1), (.ref a2)] (Qsv (fun h b k LB' => Sb1 Z h a1 b k LB' (cs ++ ds).length (cs ++ ds)) (some (.ref a1)) a1 bA h0 n0) := by
  refine MetFree.of_bodySF (plainFor_of_name pn6) hisR ?_
  intro p e s m args below meth c s₁ Bd hml0 hP hK
  obtain ⟨rfl, hZ, hh⟩ := hP
  have hx := Bd.exec
  have hby := Bd.bytes
  have hml : c.maxLocals = 3 := hml0
  have hown : s.vm.findClass "java/lang/AbstractStringBuilder" = some m.cls := findClass_of_methodNamed Bd.named
  have hnm := (name_of_methodNamed Bd.named Bd.method).1
  have X0 : Stand p l e R_22 s m #[(.ref a1), (.ref a2)] below meth c s₁ [] 0 0 := Stand.of_body Bd
  have e0 : s₁.heap = h0 := by rw [← hh, Bd.state]; rfl
  have N0 := Fr.nil n0
  obtain ⟨S_cs, hG, S_fm, hF, S_ad, S_hi, S_lo⟩ := id ST
  obtain ⟨Es, Fv, Fc, Fn, Fy, Eb, hL, tl, Bs⟩ := id HB
  have Vs := Bs.1
  have ls := Bs.2
  have hNs : (Int32.ofNat LB).toNatClampNeg = (enc1 cs ++ tl).length := by rw [ls]; exact own_n (by omega)
  have lq : 2 * cs.length + tl.length = LB := by rw [← ls]; simp only [List.length_append, List.length_map, enc1_len]
  have lt_a1 := Es.lt
  have lt_bA := Vs.lt
  have n_ab : a1 ≠ bA := Exa.neArv Es Vs (tw hw 48 rfl)
  obtain ⟨E_a2, Fc_a2, Fv_a2, B_bS⟩ := id HS
  have lt_a2 := E_a2.lt
  have V_bS := B_bS.1
  have l_bS := B_bS.2
  have hN_bS : (Int32.ofNat (2 * ds.length)).toNatClampNeg = (enc1 ds).length := by rw [l_bS]; exact own_n (by omega)
  have lt_bS := V_bS.lt
  have n_21 : a2 ≠ a1 := Exa.ne E_a2 Es (by decide)
  have n_b1 : bS ≠ a1 := Ne.symm (Exa.neArv Es V_bS (tw hw 48 rfl))
  have n_2b : a2 ≠ bA := Exa.neArv E_a2 Vs (tw hw 6 rfl)
  have n_2s : a2 ≠ bS := Exa.neArv E_a2 V_bS (tw hw 6 rfl)
  obtain ⟨_, T1, Lc1, X1, hQ1, st1⟩ := own_vc X0 hx hZ (y := Y_2) hown (tw hw 76 rfl) (tw hw 29 rfl) (tw hw 31 rfl) (tw hw 30 rfl) (by decide) (rs_len1 l Z a0 hw [] G1 Fm a2 bS kS ds h0 n0 O0 ST HS hds) (tw hw 32 rfl) (tw hw 7 rfl) e0 E_a2 (W := 0) (by decide) (by decide) (Ls := (q_13 a1 a2)) (by rw [hml]; rfl) (argsL := []) (rest := []) (lenOf pd23 rfl) (Nat.le_of_eq rfl) (hb hby d11_10) rfl (by decide) (by decide)
  obtain ⟨rfl, Nq1, e1⟩ := hQ1
  have N1 := Fr.app N0 Nq1
  obtain ⟨T2, X2, e2, st2⟩ := getF X1 hx hZ hown (host := "") (Or.inl (tw hw 77 rfl)) Via.refl e1 Fn (g := (mkF m 16 (q_2 a1 a2 ds) [(.ref a1), (.ref a1)])) rfl rfl (hb hby d11_16)
  obtain ⟨cq3, qa3, qb3⟩ := (Es).cell
  obtain ⟨_, _, ⟨T3, L3, k3, n3⟩, -, X3, ⟨Lc3, hQ3, l3, y3, z3⟩, st3⟩ := X2.privateBack hx (y := Y_16) hown (mvT hZ (tw hw 79 rfl)) (mvT hZ (tw hw 80 rfl)) (own_selQ hZ (C := "java/lang/StringBuilder") (tw hw 82 rfl) (tw hw 81 rfl) (tw hw 80 rfl)) (Cond.privateMethod_at (mvP hZ (tw hw 81 rfl) (args := #[]))) (mvT hZ (tw hw 83 rfl)) (by decide) (backOf (W := 0) (rb_ec1 l Z a0 hw [] G1 Fm a1 bA kA LB cs (cs.length + ds.length) h0 n0 O0 ST HB hnn g_a1 g_bA htot) hZ (tw hw 83 rfl) (tw hw 57 rfl) (by decide) (by decide)) (g := (mkF m 21 (q_2 a1 a2 ds) [(.int (Int32.ofNat (cs.length + ds.length))), (.ref a1)])) rfl (by rw [hml]; rfl) (Steps.refl _) (a := a1) (by rw [e2]; exact qa3) qb3 (argsL := [(.int (Int32.ofNat (cs.length + ds.length)))]) (rest := []) (lenOf pd22 rfl) rfl (by show 2 * 0 + _ ≤ _; exact Nat.le_of_eq rfl) (hb hby d11_21) (fun _ _ => ⟨rfl, e2, (by decide : 0 + 1 ≤ _), (by decide : 0 + 500 ≤ _)⟩)
  dsimp only [Pt.U, Pt.locs, Pt.cells, Pt.slots] at X3 l3 y3 z3 st3 hQ3
  subst l3 y3 z3
  obtain ⟨h3, e3⟩ : ∃ z, T3.heap = z := ⟨_, rfl⟩
  rw [e3] at hQ3
  obtain ⟨rfl, Nq3, K3, x3, kx3, LBx3, or3, HBx3, hcap3⟩ := hQ3
  have N3 := Fr.app N1 Nq3
  have O4 := O0.keep K3 (allS g_a1 (allS g_bA all0))
  have kp5 : Keep h0 h3 [a1, bA] := (Keep.refl h0 [a1, bA]).trans K3 (allS (Or.inl (List.mem_of_getElem? (i := 0) rfl)) (allS (Or.inl (List.mem_of_getElem? (i := 1) rfl)) all0))
  have or_x3 : x3 = bA ∨ h0.size ≤ x3 := or3.imp id fun q => Nat.le_trans (Keep.refl h0 [a1, bA]).1 q
  have g_x3 : n0 ≤ x3 := own_gor or_x3 g_bA (own_sz O0)
  have wk_x3 : x3 ∈ [a1, bA] ∨ h0.size ≤ x3 := own_mem or_x3
  have n_a2_x3 : a2 ≠ x3 := own_nor or_x3 n_2b lt_a2
  have n_bS_x3 : bS ≠ x3 := own_nor or_x3 nSb lt_bS
  obtain ⟨Es_n, Fv_n, Fc_n, Fn_n, Fy_n, Eb_n, hL_n, tl_n, Bs_n⟩ := id HBx3
  have Vs_n := Bs_n.1
  have ls_n := Bs_n.2
  have hNs_n : (Int32.ofNat LBx3).toNatClampNeg = (enc1 cs ++ tl_n).length := by rw [ls_n]; exact own_n (by omega)
  have lq_n : 2 * cs.length + tl_n.length = LBx3 := by rw [← ls_n]; simp only [List.length_append, List.length_map, enc1_len]
  have n_a1_x3 : a1 ≠ x3 := Exa.neArv Es_n Vs_n (tw hw 48 rfl)
  obtain ⟨T6, X6, e6, st6⟩ := getF X3 hx hZ hown (host := "") (Or.inl (tw hw 77 rfl)) Via.refl e3 Fn_n (g := (mkF m 26 (q_2 a1 a2 ds) [(.ref a1), (.ref a1)])) rfl rfl (hb hby d11_26)
  obtain ⟨cq7, qa7, qb7⟩ := (Es_n).cell
  obtain ⟨_, _, ⟨T7, L7, k7, n7⟩, -, X7, ⟨Lc7, hQ7, l7, y7, z7⟩, st7⟩ := X6.privateBack hx (y := Y_8) hown (mvT hZ (tw hw 84 rfl)) (mvT hZ (tw hw 85 rfl)) (own_selQ hZ (C := "java/lang/StringBuilder") (tw hw 87 rfl) (tw hw 86 rfl) (tw hw 85 rfl)) (Cond.privateMethod_at (mvP hZ (tw hw 86 rfl) (args := #[]))) (mvT hZ (tw hw 88 rfl)) (by decide) (backOf (W := 0) (rb_ps11 l Z a0 hw [] G1 Fm a1 x3 kx3 LBx3 cs a2 bS kS ds h3 n0 O4 ST HBx3 hnn g_a1 g_x3 ⟨(E_a2.keep K3), (Fc_a2.keep K3 (ninS n_21 (ninS n_2b nin0))), (Fv_a2.keep K3 (ninS n_21 (ninS n_2b nin0))), ⟨(V_bS.keep K3 (ninS n_b1 (ninS nSb nin0))), B_bS.2⟩⟩ hds (by omega) htot n_bS_x3) hZ (tw hw 88 rfl) (tw hw 57 rfl) (by decide) (by decide)) (g := (mkF m 30 (q_2 a1 a2 ds) [(.ref a2), (.int (Int32.ofNat cs.length)), (.ref a1)])) rfl (by rw [hml]; rfl) (Steps.refl _) (a := a1) (by rw [e6]; exact qa7) qb7 (argsL := [(.int (Int32.ofNat cs.length)), (.ref a2)]) (rest := []) (lenOf pd28 rfl) rfl (by show 2 * 0 + _ ≤ _; exact Nat.le_of_eq rfl) (hb hby d11_30) (fun _ _ => ⟨rfl, e6, (by decide : 1 + 0 ≤ _), (by decide : 500 + 0 ≤ _)⟩)
  dsimp only [Pt.U, Pt.locs, Pt.cells, Pt.slots] at X7 l7 y7 z7 st7 hQ7
  subst l7 y7 z7
  obtain ⟨h7, e7⟩ : ∃ z, T7.heap = z := ⟨_, rfl⟩
  rw [e7] at hQ7
  obtain ⟨rfl, Nq7, K7, w7, kx7, LBx7, or7, HBx7⟩ := hQ7
  have N7 := Fr.app N3 Nq7
  have O8 := O4.keep K7 (allS g_a1 (allS g_x3 all0))
  have kp9 : Keep h0 h7 [a1, bA] := kp5.trans K7 (allS (Or.inl (List.mem_of_getElem? (i := 0) rfl)) (allS wk_x3 all0))
  have or_w7 : w7 = bA ∨ h0.size ≤ w7 := or7.elim (fun q => q ▸ or_x3) (fun q => Or.inr (Nat.le_trans kp5.1 q))
  obtain ⟨Es_m, Fv_m, Fc_m, Fn_m, Fy_m, Eb_m, hL_m, tl_m, Bs_m⟩ := id HBx7
  have Vs_m := Bs_m.1
  have ls_m := Bs_m.2
  have hNs_m : (Int32.ofNat LBx7).toNatClampNeg = (enc1 (cs ++ ds) ++ tl_m).length := by rw [ls_m]; exact own_n (by omega)
  have lq_m : 2 * (cs ++ ds).length + tl_m.length = LBx7 := by rw [← ls_m]; simp only [List.length_append, List.length_map, enc1_len]
  have n_a1_w7 : a1 ≠ w7 := Exa.neArv Es_m Vs_m (tw hw 48 rfl)
  obtain ⟨T10, X10, e10, st10⟩ := getF X7 hx hZ hown (host := "") (Or.inl (tw hw 77 rfl)) Via.refl e7 Fn_m (g := (mkF m 35 (q_2 a1 a2 ds) [(.ref a1), (.ref a1)])) rfl rfl (hb hby d11_35)
  obtain ⟨T11, h11, X11, e11, W11, st11⟩ := putF X10 hx hZ hown (host := "") (Or.inl (tw hw 77 rfl)) Via.refl e10 Fn_m Es_m (Or.inl (tw hw 78 rfl)) (tw hw 48 rfl) (ty := .int) (by decide) rfl rfl (g := (mkF m 40 (q_2 a1 a2 ds) [(.int (Int32.ofNat (cs.length + ds.length))), (.ref a1)])) rfl rfl (hb hby d11_40)
  have Fw11 := Fn_m.same W11
  have O12 := O8.wr W11 g_a1
  have kp13 : Keep h0 h11 [a1, bA] := kp9.wr W11 (Or.inl (List.mem_of_getElem? (i := 0) rfl))
  have N11 := Fr.snoc X11 N7 g_a1
  obtain ⟨fs, hr, hrun, hended, hW, hsame⟩ := X11.leave (v := some (.ref a1)) (fun h => by rw [Bd.returns] at h; cases h)
  refine ⟨_, _, castTop (ef_rb_aa11 m a1 a2) ?_, hrun, hended, _, _, rfl, ?_, ⟨_, rfl⟩, hW, hsame.mono (by decide) (by decide)⟩
  · show Go p e below s₁ m 0 (q_13 a1 a2) [] _
    refine XS.aloadN X0.here hx rfl (hb hby d11_0) rfl rfl ?_
    show Go p e below s₁ m 1 (q_13 a1 a2) [(.ref a2)] _
    refine XS.ifnonnullYes X0.here hx rfl (pc0 := 1) (pc' := 9) rfl (hb hby d11_1) rfl (by decide) (by decide) ?_
    show Go p e below s₁ m 9 (q_13 a1 a2) [] _
    refine XS.aloadN X0.here hx rfl (hb hby d11_9) rfl rfl ?_
    refine st1 _ ?_
    show Go p e below T1 m 13 (q_13 a1 a2) [(.int (Int32.ofNat ds.length))] _
    refine XS.istoreN X1.here hx rfl (hb hby d11_13) rfl (l' := (q_2 a1 a2 ds)) rfl ?_
    refine XS.aloadN X1.here hx rfl (hb hby d11_14) rfl rfl ?_
    refine XS.aloadN X1.here hx rfl (hb hby d11_15) rfl rfl ?_
    refine st2 _ ?_
    show Go p e below T2 m 19 (q_2 a1 a2 ds) [(.int (Int32.ofNat cs.length)), (.ref a1)] _
    refine XS.iloadN X2.here hx rfl (hb hby d11_19) rfl ?_
    refine XS.iadd X2.here hx rfl (hb hby d11_20) rfl ?_
    show Go p e below T2 m 21 (q_2 a1 a2 ds) [(.int ((Int32.ofNat cs.length) + (Int32.ofNat ds.length))), (.ref a1)] _
    rw [show ((Int32.ofNat cs.length) + (Int32.ofNat ds.length)) = (Int32.ofNat (cs.length + ds.length)) from own_add cs.length ds.length]
    refine st3.trans ?_
    show Go p e below T3 m 24 (q_2 a1 a2 ds) [] _
    refine XS.aloadN X3.here hx rfl (hb hby d11_24) rfl rfl ?_
    refine XS.aloadN X3.here hx rfl (hb hby d11_25) rfl rfl ?_
    refine st6 _ ?_
    show Go p e below T6 m 29 (q_2 a1 a2 ds) [(.int (Int32.ofNat cs.length)), (.ref a1)] _
    refine XS.aloadN X6.here hx rfl (hb hby d11_29) rfl rfl ?_
    refine st7.trans ?_
    show Go p e below T7 m 33 (q_2 a1 a2 ds) [] _
    refine XS.aloadN X7.here hx rfl (hb hby d11_33) rfl rfl ?_
    refine XS.dup X7.here hx rfl (hb hby d11_34) rfl rfl ?_
    refine st10 _ ?_
    show Go p e below T10 m 38 (q_2 a1 a2 ds) [(.int (Int32.ofNat cs.length)), (.ref a1)] _
    refine XS.iloadN X10.here hx rfl (hb hby d11_38) rfl ?_
    refine XS.iadd X10.here hx rfl (hb hby d11_39) rfl ?_
    show Go p e below T10 m 40 (q_2 a1 a2 ds) [(.int ((Int32.ofNat cs.length) + (Int32.ofNat ds.length))), (.ref a1)] _
    rw [show ((Int32.ofNat cs.length) + (Int32.ofNat ds.length)) = (Int32.ofNat (cs.length + ds.length)) from own_add cs.length ds.length]
    refine st11 _ ?_
    show Go p e below T11 m 43 (q_2 a1 a2 ds) [] _
    refine XS.aloadN X11.here hx rfl (hb hby d11_43) rfl rfl ?_
    show Go p e below T11 m 44 (q_2 a1 a2 ds) [(.ref a1)] _
    exact retOut X11 hx Bd.returns rfl (Or.inr (Or.inr (Or.inr (Or.inr ⟨rfl, rfl, rfl⟩)))) (hb hby d11_44) hr
  · show Qsv (fun h b k LB' => Sb1 Z h a1 b k LB' (cs ++ ds).length (cs ++ ds)) (some (.ref a1)) a1 bA h0 n0 _ T11.heap _
    rw [e11]
    exact ⟨rfl, N11, kp13, w7, _, _, or_w7, by rw [List.length_append]; exact ⟨(Es_m.wr W11), (Fv_m.other W11 (Or.inr (slot_ne (Or.inl (tw hw 62 rfl)) (Or.inl (tw hw 78 rfl)) (by decide) (t := (.array .byte)) (t' := .int) (by decide) (by decide)))), (Fc_m.other W11 (Or.inr (slot_ne (Or.inl (tw hw 64 rfl)) (Or.inl (tw hw 78 rfl)) (by decide) (t := .byte) (t' := .int) (by decide) (by decide)))), Fw11, (Fy_m.other W11 (Or.inr (slot_ne (Or.inl (tw hw 336 rfl)) (Or.inl (tw hw 78 rfl)) (by decide) (t := .boolean) (t' := .int) (by decide) (by decide)))), (Eb_m.wr W11), hL_m, _, ⟨(Vs_m.other W11 (Ne.symm n_a1_w7)), ls_m⟩⟩⟩
theorem ef_rb_ap11 (m : MethodId) (x0 : Addr) (x1 : Addr) : entryFrame m #[(.ref x0), (.ref x1)] 2 = mkF m 0 #[.val (.ref x0), .val (.ref x1)] [] := by first | (simp [entryFrame, mkF, argsToLocals, Value.category]; done) | rfl
set_option maxRecDepth 65536 in
set_option maxHeartbeats 40000000 in
theorem rb_ap11 (l : Launch) (Z : State) (a0 : Array Value) (hw : Hw a0 Z) (ws : List Jvm.Cond) (G1 : Int32) (Fm : Value) (a1 : Addr) (bA : Addr) (kA : ClassId) (LB : Nat) (cs : List UInt16) (a2 : Addr) (bS : Addr) (kS : ClassId) (ds : List UInt16) (h0 : Heap) (n0 : Nat) (O0 : Old Z n0 h0) (ST : Stc Z G1 Fm) (HB : Sb1 Z h0 a1 bA kA LB cs.length cs) (hnn : cs.length ≤ 120) (g_a1 : n0 ≤ a1) (g_bA : n0 ≤ bA) (HS : Str1 Z h0 a2 bS kS ds) (hds : ds.length ≤ 120) (htot : cs.length + ds.length ≤ 120) (nSb : bS ≠ bA) :
    Met l Z h0 ws Y_3 jdk_67_method_7_code 2 (some (.object "java/lang/StringBuilder")) R_4 #[(.ref a1), (.ref a2)] (Qsv (fun h b k LB' => Sbx Z h a1 b k LB' (cs ++ ds).length (cs ++ ds)) (some (.ref a1)) a1 bA h0 n0) := by
  refine MetFree.of_bodySF (plainFor_of_name pn7) hisR ?_
  intro p e s m args below meth c s₁ Bd hml0 hP hK
  obtain ⟨rfl, hZ, hh⟩ := hP
  have hx := Bd.exec
  have hby := Bd.bytes
  have hml : c.maxLocals = 2 := hml0
  have hown : s.vm.findClass "java/lang/StringBuilder" = some m.cls := findClass_of_methodNamed Bd.named
  have hnm := (name_of_methodNamed Bd.named Bd.method).1
  have X0 : Stand p l e R_4 s m #[(.ref a1), (.ref a2)] below meth c s₁ [] 0 0 := Stand.of_body Bd
  have e0 : s₁.heap = h0 := by rw [← hh, Bd.state]; rfl
  have N0 := Fr.nil n0
  obtain ⟨S_cs, hG, S_fm, hF, S_ad, S_hi, S_lo⟩ := id ST
  obtain ⟨Es, Fv, Fc, Fn, Fy, Eb, hL, tl, Bs⟩ := id HB
  have Vs := Bs.1
  have ls := Bs.2
  have hNs : (Int32.ofNat LB).toNatClampNeg = (enc1 cs ++ tl).length := by rw [ls]; exact own_n (by omega)
  have lq : 2 * cs.length + tl.length = LB := by rw [← ls]; simp only [List.length_append, List.length_map, enc1_len]
  have lt_a1 := Es.lt
  have lt_bA := Vs.lt
  have n_ab : a1 ≠ bA := Exa.neArv Es Vs (tw hw 48 rfl)
  obtain ⟨E_a2, Fc_a2, Fv_a2, B_bS⟩ := id HS
  have lt_a2 := E_a2.lt
  have V_bS := B_bS.1
  have l_bS := B_bS.2
  have hN_bS : (Int32.ofNat (2 * ds.length)).toNatClampNeg = (enc1 ds).length := by rw [l_bS]; exact own_n (by omega)
  have lt_bS := V_bS.lt
  have n_21 : a2 ≠ a1 := Exa.ne E_a2 Es (by decide)
  have n_b1 : bS ≠ a1 := Ne.symm (Exa.neArv Es V_bS (tw hw 48 rfl))
  have n_2b : a2 ≠ bA := Exa.neArv E_a2 Vs (tw hw 6 rfl)
  have n_2s : a2 ≠ bS := Exa.neArv E_a2 V_bS (tw hw 6 rfl)
  obtain ⟨_, _, ⟨T1, L1, k1, n1⟩, -, X1, ⟨Lc1, hQ1, l1, y1, z1⟩, st1⟩ := Jvm.RoadKit.superBack X0 hx hZ (y := Y_9) (K := "java/lang/AbstractStringBuilder") hown (tw hw 71 rfl) (own_same (C := "java/lang/StringBuilder") (tw hw 74 rfl) (tw hw 157 rfl)) (tw hw 72 rfl) (tw hw 73 rfl) (by decide) (backOf (W := 0) (rb_aa11 l Z a0 hw [] G1 Fm a1 bA kA LB cs a2 bS kS ds h0 n0 O0 ST HB hnn g_a1 g_bA HS hds htot nSb) hZ (tw hw 75 rfl) (tw hw 57 rfl) (by decide) (by decide)) e0 (Ins.of_exa Es (tw hw 56 rfl)) (g := (mkF m 2 (q_0 a1 a2) [(.ref a2), (.ref a1)])) rfl (by rw [hml]; rfl) (tw hw 75 rfl) (argsL := [(.ref a2)]) (rest := []) (lenOf pd29 rfl) rfl (by show 2 * 0 + _ ≤ _; exact Nat.le_of_eq rfl) (hb hby d10_2) (fun _ _ => ⟨rfl, e0, (by decide : 0 + 1 ≤ _), (by decide : 0 + 500 ≤ _)⟩)
  dsimp only [Pt.U, Pt.locs, Pt.cells, Pt.slots] at X1 l1 y1 z1 st1 hQ1
  subst l1 y1 z1
  obtain ⟨h1, e1⟩ : ∃ z, T1.heap = z := ⟨_, rfl⟩
  rw [e1] at hQ1
  obtain ⟨rfl, Nq1, K1, R1⟩ := hQ1
  have N1 := Fr.app N0 Nq1
  have O2 := O0.keep K1 (allS g_a1 (allS g_bA all0))
  have kp3 : Keep h0 h1 [a1, bA] := (Keep.refl h0 [a1, bA]).trans K1 (allS (Or.inl (List.mem_of_getElem? (i := 0) rfl)) (allS (Or.inl (List.mem_of_getElem? (i := 1) rfl)) all0))
  have RR := R1
  obtain ⟨fs, hr, hrun, hended, hW, hsame⟩ := X1.leave (v := some (.ref a1)) (fun h => by rw [Bd.returns] at h; cases h)
  refine ⟨_, _, castTop (ef_rb_ap11 m a1 a2) ?_, hrun, hended, _, _, rfl, ?_, ⟨_, rfl⟩, hW, hsame.mono (by decide) (by decide)⟩
  · show Go p e below s₁ m 0 (q_0 a1 a2) [] _
    refine XS.aloadN X0.here hx rfl (hb hby d10_0) rfl rfl ?_
    refine XS.aloadN X0.here hx rfl (hb hby d10_1) rfl rfl ?_
    refine st1.trans ?_
    show Go p e below T1 m 5 (q_0 a1 a2) [(.ref a1)] _
    refine XS.pop X1.here hx rfl (hb hby d10_5) rfl rfl ?_
    show Go p e below T1 m 6 (q_0 a1 a2) [] _
    refine XS.aloadN X1.here hx rfl (hb hby d10_6) rfl rfl ?_
    show Go p e below T1 m 7 (q_0 a1 a2) [(.ref a1)] _
    exact retOut X1 hx Bd.returns rfl (Or.inr (Or.inr (Or.inr (Or.inr ⟨rfl, rfl, rfl⟩)))) (hb hby d10_7) hr
  · show Qsv (fun h b k LB' => Sbx Z h a1 b k LB' (cs ++ ds).length (cs ++ ds)) (some (.ref a1)) a1 bA h0 n0 _ T1.heap _
    rw [e1]
    obtain ⟨b9, k9, L9, o9, q9⟩ := RR; exact ⟨rfl, N1, kp3, b9, k9, L9, o9, Or.inr q9⟩
theorem own_cut {vs : List Int32} {n : Nat} : (List.replicate n (0 : Int32)).take 0 ++ vs.take n ++ (List.replicate n (0 : Int32)).drop (0 + n) = vs.take n := by simp
theorem own_cpz {lst src : List Int32} {i n : Nat} : (lst.map Value.int).take i ++ ((src.drop 0).take n).map Value.int ++ (lst.map Value.int).drop (i + n) = (lst.take i ++ src.take n ++ lst.drop (i + n)).map Value.int := by
  rw [List.drop_zero, List.map_append, List.map_append, List.map_take, List.map_drop, List.map_take]
theorem d47_0 : Dc cb48 0 (.iload_n 1) 1 := by decide +kernel
theorem d47_1 : Dc cb48 1 (.iload_n 0) 1 := by decide +kernel
theorem d47_2 : Dc cb48 2 (.if_icmp .ge 35) 3 := by decide +kernel
theorem d47_37 : Dc cb48 37 .return_ 1 := by decide +kernel
theorem ef_ra_cl (m : MethodId) (x0 : Int32) (x1 : Int32) : entryFrame m #[(.int x0), (.int x1)] 2 = mkF m 0 #[.val (.int x0), .val (.int x1)] [] := by first | (simp [entryFrame, mkF, argsToLocals, Value.category]; done) | rfl
set_option maxRecDepth 65536 in
set_option maxHeartbeats 40000000 in
theorem ra_cl (l : Launch) (Z : State) (a0 : Array Value) (hw : Hw a0 Z) (ws : List Jvm.Cond) (G1 : Int32) (Fm : Value) (i1 : Nat) (h0 : Heap) (n0 : Nat) (O0 : Old Z n0 h0) (ST : Stc Z G1 Fm) (hi : i1 ≤ 500) :
    Met l Z h0 ws Y_59 jdk_65_method_131_code 2 none R_0 #[(.int (0 : Int32)), (.int (Int32.ofNat i1))] (Qpure none h0 n0) := by
  refine MetFree.of_bodySF (plainFor_of_name pn5) hisR ?_
  intro p e s m args below meth c s₁ Bd hml0 hP hK
  obtain ⟨rfl, hZ, hh⟩ := hP
  have hx := Bd.exec
  have hby := Bd.bytes
  have hml : c.maxLocals = 2 := hml0
  have hown : s.vm.findClass "java/util/Arrays" = some m.cls := findClass_of_methodNamed Bd.named
  have hnm := (name_of_methodNamed Bd.named Bd.method).1
  have X0 : Stand p l e R_0 s m #[(.int (0 : Int32)), (.int (Int32.ofNat i1))] below meth c s₁ [] 0 0 := Stand.of_body Bd
  have e0 : s₁.heap = h0 := by rw [← hh, Bd.state]; rfl
  have N0 := Fr.nil n0
  obtain ⟨S_cs, hG, S_fm, hF, S_ad, S_hi, S_lo⟩ := id ST
  obtain ⟨fs, hr, hrun, hended, hW, hsame⟩ := X0.leave (v := none) (fun _ => rfl)
  refine ⟨_, _, castTop (ef_ra_cl m (0 : Int32) (Int32.ofNat i1)) ?_, hrun, hended, _, _, rfl, ?_, ⟨_, rfl⟩, hW, hsame.mono (by decide) (by decide)⟩
  · show Go p e below s₁ m 0 #[.val (.int (0 : Int32)), .val (.int (Int32.ofNat i1))] [] _
    refine XS.iloadN X0.here hx rfl (hb hby d47_0) rfl ?_
    refine XS.iloadN X0.here hx rfl (hb hby d47_1) rfl ?_
    refine XS.icmpYes X0.here hx rfl (pc0 := 2) (pc' := 37) rfl (hb hby d47_2) rfl (flt (fun q => absurd ((own_lt (a := i1) (b := 0) (by omega) (by omega)).mp q) (by omega))).2.1 (by decide) (by decide) ?_
    show Go p e below s₁ m 37 #[.val (.int (0 : Int32)), .val (.int (Int32.ofNat i1))] [] _
    exact X0.returnOut hx Bd.returns (hb hby d47_37) hr
  · show Qpure none h0 n0 _ s₁.heap _
    rw [e0]
    exact ⟨rfl, N0, rfl⟩
theorem d46_0 : Dc cb49 0 (.iload_n 1) 1 := by decide +kernel
theorem d46_1 : Dc cb49 1 (.iload_n 2) 1 := by decide +kernel
theorem d46_2 : Dc cb49 2 (.invokestatic 343) 3 := by decide +kernel
theorem d46_5 : Dc cb49 5 (.iload_n 2) 1 := by decide +kernel
theorem d46_6 : Dc cb49 6 (.iload_n 1) 1 := by decide +kernel
theorem d46_7 : Dc cb49 7 .isub 1 := by decide +kernel
theorem d46_8 : Dc cb49 8 (.istore_n 3) 1 := by decide +kernel
theorem d46_9 : Dc cb49 9 (.iload_n 3) 1 := by decide +kernel
theorem d46_10 : Dc cb49 10 (.newarray .byte) 2 := by decide +kernel
theorem d46_12 : Dc cb49 12 (.astore 4) 2 := by decide +kernel
theorem d46_14 : Dc cb49 14 (.aload_n 0) 1 := by decide +kernel
theorem d46_15 : Dc cb49 15 (.iload_n 1) 1 := by decide +kernel
theorem d46_16 : Dc cb49 16 (.aload 4) 2 := by decide +kernel
theorem d46_18 : Dc cb49 18 (.iconst 0) 1 := by decide +kernel
theorem d46_19 : Dc cb49 19 (.aload_n 0) 1 := by decide +kernel
theorem d46_20 : Dc cb49 20 .arraylength 1 := by decide +kernel
theorem d46_21 : Dc cb49 21 (.iload_n 1) 1 := by decide +kernel
theorem d46_22 : Dc cb49 22 .isub 1 := by decide +kernel
theorem d46_23 : Dc cb49 23 (.iload_n 3) 1 := by decide +kernel
theorem d46_24 : Dc cb49 24 (.invokestatic 304) 3 := by decide +kernel
theorem d46_27 : Dc cb49 27 (.invokestatic 150) 3 := by decide +kernel
theorem d46_30 : Dc cb49 30 (.aload 4) 2 := by decide +kernel
theorem d46_32 : Dc cb49 32 .areturn 1 := by decide +kernel
theorem ef_ra_cb (m : MethodId) (x0 : Addr) (x1 : Int32) (x2 : Int32) : entryFrame m #[(.ref x0), (.int x1), (.int x2)] 5 = mkF m 0 #[.val (.ref x0), .val (.int x1), .val (.int x2), .unset, .unset] [] := by first | (simp [entryFrame, mkF, argsToLocals, Value.category]; done) | rfl
set_option maxRecDepth 65536 in
set_option maxHeartbeats 40000000 in
theorem ra_cb (l : Launch) (Z : State) (a0 : Array Value) (hw : Hw a0 Z) (ws : List Jvm.Cond) (G1 : Int32) (Fm : Value) (a1 : Addr) (kA : ClassId) (LA : Nat) (vs : List Int32) (i1 : Nat) (h0 : Heap) (n0 : Nat) (O0 : Old Z n0 h0) (ST : Stc Z G1 Fm) (B1 : Bar Z h0 a1 kA LA vs) (hB : LA ≤ 500) (hi : i1 < LA) :
    Met l Z h0 ws Y_60 jdk_65_method_133_code 5 (some (.array .byte)) R_18 #[(.ref a1), (.int (0 : Int32)), (.int (Int32.ofNat i1))] (Qar Z i1 (vs.take i1) h0 n0) := by
  refine MetFree.of_bodySF (plainFor_of_name pn5) hisR ?_
  intro p e s m args below meth c s₁ Bd hml0 hP hK
  obtain ⟨rfl, hZ, hh⟩ := hP
  have hx := Bd.exec
  have hby := Bd.bytes
  have hml : c.maxLocals = 5 := hml0
  have hown : s.vm.findClass "java/util/Arrays" = some m.cls := findClass_of_methodNamed Bd.named
  have hnm := (name_of_methodNamed Bd.named Bd.method).1
  have X0 : Stand p l e R_18 s m #[(.ref a1), (.int (0 : Int32)), (.int (Int32.ofNat i1))] below meth c s₁ [] 0 0 := Stand.of_body Bd
  have e0 : s₁.heap = h0 := by rw [← hh, Bd.state]; rfl
  have N0 := Fr.nil n0
  obtain ⟨S_cs, hG, S_fm, hF, S_ad, S_hi, S_lo⟩ := id ST
  have V_a1 := B1.1
  have l_a1 := B1.2
  have hN_a1 : (Int32.ofNat LA).toNatClampNeg = vs.length := by rw [l_a1]; exact own_n (by omega)
  have lt_a1 := V_a1.lt
  obtain ⟨_, T1, Lc1, X1, hQ1, st1⟩ := own_sc X0 hx hZ (y := Y_59) hown (tw hw 281 rfl) (tw hw 282 rfl) (by decide) (ra_cl l Z a0 hw [] G1 Fm i1 h0 n0 O0 ST (by omega)) (tw hw 283 rfl) (tw hw 122 rfl) e0 (W := 0) (by decide) (by decide) (Ls := (q_62 a1 i1)) (by rw [hml]; rfl) (argsL := [(.int (0 : Int32)), (.int (Int32.ofNat i1))]) (rest := []) (lenOf pd2 rfl) (Nat.le_of_eq rfl) (hb hby d46_2) rfl (by decide) (by decide)
  obtain ⟨rfl, Nq1, e1⟩ := hQ1
  have N1 := Fr.app N0 Nq1
  obtain ⟨T2, h2, k2, X2, e2, E2, A2, Ea2, st2⟩ := newPE X1 hx hZ (tw hw 20 rfl) e1 (g := (mkF m 10 (q_77 a1 i1) [(.int (Int32.ofNat i1))])) rfl (hb hby d46_10) rfl (own_nn (n := i1) (by omega)) (cap := 500) (by rw [own_n (n := i1) (by omega)]; omega) (by decide) (by decide) (by decide) (ad := "[B") (by decide)
  obtain ⟨b2, g2⟩ : ∃ z, z = h0.size := ⟨_, rfl⟩
  rw [← g2] at A2 Ea2 st2
  have g_b2 : n0 ≤ b2 := by rw [g2]; exact Nat.le_trans (Nat.le_of_eq O0.1.symm) O0.2.1
  have sz_b2 : h0.size ≤ b2 := by rw [g2]; exact (Keep.refl h0 []).1
  have lt_a1_b2 : a1 < b2 := Nat.lt_of_lt_of_le lt_a1 sz_b2
  have O3 := O0.ext E2
  have kp4 : Keep h0 h2 [] := (Keep.refl h0 []).ext E2
  have V_b2 : Arv Z h2 b2 k2 .byte (Int32.ofNat i1) ((List.replicate i1 (0 : Int32)).map Value.int) (.int (0 : Int32)) := by rw [List.map_replicate]; exact (Arv.new A2 (own_nn (n := i1) (by omega))).pad (pad_rep [] (.int (0 : Int32)) i1)
  have hN_b2 : ((Int32.ofNat i1)).toNatClampNeg = (List.replicate i1 (0 : Int32)).length := by rw [List.length_replicate]; exact own_n (n := i1) (by omega)
  obtain ⟨cl5, Ar5, q5, Sz5, Nn5, Ha5, Gf5⟩ := id (V_a1.ext E2)
  obtain ⟨_, T6, Lc6, X6, hQ6, st6⟩ := own_sc X2 hx hZ (y := Y_13) hown (tw hw 124 rfl) (tw hw 125 rfl) (by decide) (rm_minB l Z a0 hw [] G1 Fm LA i1 h2 n0 O3 ST (by omega) (by omega) hi) (tw hw 126 rfl) (tw hw 116 rfl) e2 (W := 4) (by decide) (by decide) (Ls := (q_32 a1 i1 b2)) (by rw [hml]; rfl) (argsL := [(.int (Int32.ofNat LA)), (.int (Int32.ofNat i1))]) (rest := [(.int (0 : Int32)), (.ref b2), (.int (0 : Int32)), (.ref a1)]) (lenOf pd21 rfl) (Nat.le_of_eq rfl) (hb hby d46_24) rfl (by decide) (by decide)
  obtain ⟨rfl, Nq6, e6⟩ := hQ6
  have N6 := Fr.app N1 Nq6
  obtain ⟨T7, h7, L7, X7, e7, N7, K7, Vr7, st7⟩ := cpA X6 hx hZ hown (tw hw 127 rfl) (tw hw 103 rfl) (tw hw 101 rfl) (tw hw 102 rfl) e6 (V_a1.ext E2) V_b2 (Or.inl ⟨rfl, rfl⟩) (sp := (0 : Int32)) (dp := (0 : Int32)) (nn := (Int32.ofNat i1)) (us := (((vs.drop 0).take i1).map Value.int)) (by decide) (by decide) (own_nn (n := i1) (by omega)) (by rw [own_n (n := i1) (by omega), own_n (n := LA) (by omega), show (0 : Int32).toNatClampNeg = 0 by decide]; omega) (by rw [own_n (n := i1) (by omega), show (0 : Int32).toNatClampNeg = 0 by decide]; omega) (own_us (by decide) (own_n (n := i1) (by omega)) (by omega)) (by rw [List.length_map, List.length_replicate, own_n (n := i1) (by omega), show (0 : Int32).toNatClampNeg = 0 by decide]; omega) N6 g_b2 (g := (mkF m 27 (q_32 a1 i1 b2) [(.int (Int32.ofNat i1)), (.int (0 : Int32)), (.ref b2), (.int (0 : Int32)), (.ref a1)])) rfl (by rw [hml]; rfl) rfl (hb hby d46_27) (by decide) (W := 0) (by show 2 * 0 + _ ≤ _; exact Nat.le_of_eq rfl) (by decide)
  have O8 := O3.keep K7 (allS g_b2 all0)
  have kp9 : Keep h0 h7 [] := kp4.trans K7 (allS (Or.inr sz_b2) all0)
  have Vc7 : Arv Z h7 b2 k2 .byte (Int32.ofNat i1) ((vs.take i1).map Value.int) (.int (0 : Int32)) := by have q := Vr7; rw [own_n (n := i1) (by omega), show (0 : Int32).toNatClampNeg = 0 by decide, own_cpz, own_cut] at q; exact q
  obtain ⟨fs, hr, hrun, hended, hW, hsame⟩ := X7.leave (v := some (.ref b2)) (fun h => by rw [Bd.returns] at h; cases h)
  refine ⟨_, _, castTop (ef_ra_cb m a1 (0 : Int32) (Int32.ofNat i1)) ?_, hrun, hended, _, _, rfl, ?_, ⟨_, rfl⟩, hW, hsame.mono (by decide) (by decide)⟩
  · show Go p e below s₁ m 0 (q_62 a1 i1) [] _
    refine XS.iloadN X0.here hx rfl (hb hby d46_0) rfl ?_
    refine XS.iloadN X0.here hx rfl (hb hby d46_1) rfl ?_
    refine st1 _ ?_
    show Go p e below T1 m 5 (q_62 a1 i1) [] _
    refine XS.iloadN X1.here hx rfl (hb hby d46_5) rfl ?_
    refine XS.iloadN X1.here hx rfl (hb hby d46_6) rfl ?_
    refine XS.isub X1.here hx rfl (hb hby d46_7) rfl ?_
    show Go p e below T1 m 8 (q_62 a1 i1) [(.int ((Int32.ofNat i1) - (0 : Int32)))] _
    rw [show ((Int32.ofNat i1) - (0 : Int32)) = (Int32.ofNat i1) from own_sub (a := i1) (b := 0) (Nat.zero_le _)]
    show Go p e below T1 m 8 (q_62 a1 i1) [(.int (Int32.ofNat i1))] _
    refine XS.istoreN X1.here hx rfl (hb hby d46_8) rfl (l' := (q_77 a1 i1)) rfl ?_
    refine XS.iloadN X1.here hx rfl (hb hby d46_9) rfl ?_
    refine st2 _ ?_
    show Go p e below T2 m 12 (q_77 a1 i1) [(.ref b2)] _
    refine XS.astore X2.here hx rfl (hb hby d46_12) rfl rfl (l' := (q_32 a1 i1 b2)) rfl ?_
    refine XS.aloadN X2.here hx rfl (hb hby d46_14) rfl rfl ?_
    refine XS.iloadN X2.here hx rfl (hb hby d46_15) rfl ?_
    refine XS.aload X2.here hx rfl (hb hby d46_16) rfl rfl ?_
    refine XS.iconst X2.here hx rfl (hb hby d46_18) ?_
    refine XS.aloadN X2.here hx rfl (hb hby d46_19) rfl rfl ?_
    show Go p e below T2 m 20 (q_32 a1 i1 b2) [(.ref a1), (.int (0 : Int32)), (.ref b2), (.int (0 : Int32)), (.ref a1)] _
    refine X2.arraylength hx (by rw [e2]; exact Ar5.1) (State.isArrayOf_alike hZ.alike Ar5.2.1) (g := (mkF m 20 (q_32 a1 i1 b2) [(.ref a1), (.int (0 : Int32)), (.ref b2), (.int (0 : Int32)), (.ref a1)])) rfl rfl (hb hby d46_20) _ ?_
    rw [len_of Sz5 Nn5]
    show Go p e below T2 m 21 (q_32 a1 i1 b2) [(.int (Int32.ofNat LA)), (.int (0 : Int32)), (.ref b2), (.int (0 : Int32)), (.ref a1)] _
    refine XS.iloadN X2.here hx rfl (hb hby d46_21) rfl ?_
    refine XS.isub X2.here hx rfl (hb hby d46_22) rfl ?_
    show Go p e below T2 m 23 (q_32 a1 i1 b2) [(.int ((Int32.ofNat LA) - (0 : Int32))), (.int (0 : Int32)), (.ref b2), (.int (0 : Int32)), (.ref a1)] _
    rw [show ((Int32.ofNat LA) - (0 : Int32)) = (Int32.ofNat LA) from own_sub (a := LA) (b := 0) (Nat.zero_le _)]
    show Go p e below T2 m 23 (q_32 a1 i1 b2) [(.int (Int32.ofNat LA)), (.int (0 : Int32)), (.ref b2), (.int (0 : Int32)), (.ref a1)] _
    refine XS.iloadN X2.here hx rfl (hb hby d46_23) rfl ?_
    refine st6 _ ?_
    refine st7 _ ?_
    show Go p e below T7 m 30 (q_32 a1 i1 b2) [] _
    refine XS.aload X7.here hx rfl (hb hby d46_30) rfl rfl ?_
    show Go p e below T7 m 32 (q_32 a1 i1 b2) [(.ref b2)] _
    exact retOut X7 hx Bd.returns rfl (Or.inr (Or.inr (Or.inr (Or.inr ⟨rfl, rfl, rfl⟩)))) (hb hby d46_32) hr
  · show Qar Z i1 (vs.take i1) h0 n0 _ T7.heap _
    rw [e7]
    exact ⟨b2, _, rfl, N7, kp9, sz_b2, ⟨Vc7, by rw [List.length_take]; omega⟩, (Ea2.keep K7)⟩
theorem d28_0 : Dc cb50 0 (.iload_n 1) 1 := by decide +kernel
theorem d28_1 : Dc cb50 1 (.ifCond .ne 9) 3 := by decide +kernel
theorem d28_4 : Dc cb50 4 (.iload_n 2) 1 := by decide +kernel
theorem d28_5 : Dc cb50 5 (.aload_n 0) 1 := by decide +kernel
theorem d28_6 : Dc cb50 6 .arraylength 1 := by decide +kernel
theorem d28_7 : Dc cb50 7 (.if_icmp .eq 10) 3 := by decide +kernel
theorem d28_10 : Dc cb50 10 (.aload_n 0) 1 := by decide +kernel
theorem d28_11 : Dc cb50 11 (.iload_n 1) 1 := by decide +kernel
theorem d28_12 : Dc cb50 12 (.iload_n 2) 1 := by decide +kernel
theorem d28_13 : Dc cb50 13 (.invokestatic 339) 3 := by decide +kernel
theorem pd30 : parseMethodDescriptor "([BII)[B" = some ⟨[(.array .byte), .int, .int], some (.array .byte)⟩ := by decide +kernel
theorem d28_16 : Dc cb50 16 .areturn 1 := by decide +kernel
theorem ef_ra_crA (m : MethodId) (x0 : Addr) (x1 : Int32) (x2 : Int32) : entryFrame m #[(.ref x0), (.int x1), (.int x2)] 3 = mkF m 0 #[.val (.ref x0), .val (.int x1), .val (.int x2)] [] := by first | (simp [entryFrame, mkF, argsToLocals, Value.category]; done) | rfl
set_option maxRecDepth 65536 in
set_option maxHeartbeats 40000000 in
theorem ra_crA (l : Launch) (Z : State) (a0 : Array Value) (hw : Hw a0 Z) (ws : List Jvm.Cond) (G1 : Int32) (Fm : Value) (a1 : Addr) (kA : ClassId) (LA : Nat) (vs : List Int32) (i1 : Nat) (h0 : Heap) (n0 : Nat) (O0 : Old Z n0 h0) (ST : Stc Z G1 Fm) (B1 : Bar Z h0 a1 kA LA vs) (hB : LA ≤ 500) (hi : i1 < LA) :
    Met l Z h0 ws Y_17 jdk_65_method_132_code 3 (some (.array .byte)) R_14 #[(.ref a1), (.int (0 : Int32)), (.int (Int32.ofNat i1))] (Qar Z i1 (vs.take i1) h0 n0) := by
  refine MetFree.of_bodySF (plainFor_of_name pn5) hisR ?_
  intro p e s m args below meth c s₁ Bd hml0 hP hK
  obtain ⟨rfl, hZ, hh⟩ := hP
  have hx := Bd.exec
  have hby := Bd.bytes
  have hml : c.maxLocals = 3 := hml0
  have hown : s.vm.findClass "java/util/Arrays" = some m.cls := findClass_of_methodNamed Bd.named
  have hnm := (name_of_methodNamed Bd.named Bd.method).1
  have X0 : Stand p l e R_14 s m #[(.ref a1), (.int (0 : Int32)), (.int (Int32.ofNat i1))] below meth c s₁ [] 0 0 := Stand.of_body Bd
  have e0 : s₁.heap = h0 := by rw [← hh, Bd.state]; rfl
  have N0 := Fr.nil n0
  obtain ⟨S_cs, hG, S_fm, hF, S_ad, S_hi, S_lo⟩ := id ST
  have V_a1 := B1.1
  have l_a1 := B1.2
  have hN_a1 : (Int32.ofNat LA).toNatClampNeg = vs.length := by rw [l_a1]; exact own_n (by omega)
  have lt_a1 := V_a1.lt
  obtain ⟨cl1, Ar1, q1, Sz1, Nn1, Ha1, Gf1⟩ := id V_a1
  have pf2 : ∀ target, Go p e below s₁ m 7 (q_11 a1 i1) [(.int (Int32.ofNat LA)), (.int (Int32.ofNat i1))] target → Go p e below s₁ m 0 (q_11 a1 i1) [] target := by
    intro target k
    show Go p e below s₁ m 0 (q_11 a1 i1) [] _
    refine XS.iloadN X0.here hx rfl (hb hby d28_0) rfl ?_
    refine XS.ifNo X0.here hx rfl (hb hby d28_1) rfl ((if0 _ _).trans (teq (by decide)).2) ?_
    refine XS.iloadN X0.here hx rfl (hb hby d28_4) rfl ?_
    refine XS.aloadN X0.here hx rfl (hb hby d28_5) rfl rfl ?_
    show Go p e below s₁ m 6 (q_11 a1 i1) [(.ref a1), (.int (Int32.ofNat i1))] _
    refine X0.arraylength hx (by rw [e0]; exact Ar1.1) (State.isArrayOf_alike hZ.alike Ar1.2.1) (g := (mkF m 6 (q_11 a1 i1) [(.ref a1), (.int (Int32.ofNat i1))])) rfl rfl (hb hby d28_6) _ ?_
    rw [len_of Sz1 Nn1]
    exact k
  obtain ⟨_, T3, Lc3, X3, hQ3, st3⟩ := own_sc X0 hx hZ (y := Y_60) hown (tw hw 278 rfl) (tw hw 279 rfl) (by decide) (ra_cb l Z a0 hw [] G1 Fm a1 kA LA vs i1 h0 n0 O0 ST B1 hB hi) (tw hw 280 rfl) (tw hw 122 rfl) e0 (W := 0) (by decide) (by decide) (Ls := (q_11 a1 i1)) (by rw [hml]; rfl) (argsL := [(.ref a1), (.int (0 : Int32)), (.int (Int32.ofNat i1))]) (rest := []) (lenOf pd30 rfl) (Nat.le_of_eq rfl) (hb hby d28_13) rfl (by decide) (by decide)
  obtain ⟨h3, e3⟩ : ∃ z, T3.heap = z := ⟨_, rfl⟩
  rw [e3] at hQ3
  obtain ⟨t3, kt3, rfl, Nq3, K3, szt3, Bt3, Et3⟩ := hQ3
  have N3 := Fr.app N0 Nq3
  have O4 := O0.keep K3 all0
  have kp5 : Keep h0 h3 [] := (Keep.refl h0 []).trans K3 all0
  have sz_t3 := Nat.le_trans (Keep.refl h0 []).1 szt3
  have g_t3 : n0 ≤ t3 := Nat.le_trans (Nat.le_trans (Nat.le_of_eq O0.1.symm) O0.2.1) sz_t3
  have lt_a1_t3 : a1 < t3 := Nat.lt_of_lt_of_le lt_a1 sz_t3
  have V_t3 := Bt3.1
  obtain ⟨fs, hr, hrun, hended, hW, hsame⟩ := X3.leave (v := some (.ref t3)) (fun h => by rw [Bd.returns] at h; cases h)
  refine ⟨_, _, castTop (ef_ra_crA m a1 (0 : Int32) (Int32.ofNat i1)) ?_, hrun, hended, _, _, rfl, ?_, ⟨_, rfl⟩, hW, hsame.mono (by decide) (by decide)⟩
  · refine pf2 _ ?_
    show Go p e below s₁ m 7 (q_11 a1 i1) [(.int (Int32.ofNat LA)), (.int (Int32.ofNat i1))] _
    refine XS.icmpNo X0.here hx rfl (hb hby d28_7) rfl (feq (fun q => absurd ((own_eq (a := i1) (b := LA) (by omega) (by omega)).mp q) (by omega))).1 ?_
    refine XS.aloadN X0.here hx rfl (hb hby d28_10) rfl rfl ?_
    refine XS.iloadN X0.here hx rfl (hb hby d28_11) rfl ?_
    refine XS.iloadN X0.here hx rfl (hb hby d28_12) rfl ?_
    refine st3 _ ?_
    show Go p e below T3 m 16 (q_11 a1 i1) [(.ref t3)] _
    exact retOut X3 hx Bd.returns rfl (Or.inr (Or.inr (Or.inr (Or.inr ⟨rfl, rfl, rfl⟩)))) (hb hby d28_16) hr
  · show Qar Z i1 (vs.take i1) h0 n0 _ T3.heap _
    rw [e3]
    exact ⟨t3, _, rfl, N3, kp5, sz_t3, ⟨V_t3, by rw [List.length_take]; omega⟩, Et3⟩
theorem d28_17 : Dc cb50 17 (.aload_n 0) 1 := by decide +kernel
theorem d28_18 : Dc cb50 18 (.invokevirtual 310) 3 := by decide +kernel
theorem d28_21 : Dc cb50 21 (.checkcast 311) 3 := by decide +kernel
theorem d28_24 : Dc cb50 24 .areturn 1 := by decide +kernel
theorem ef_ra_crB (m : MethodId) (x0 : Addr) (x1 : Int32) (x2 : Int32) : entryFrame m #[(.ref x0), (.int x1), (.int x2)] 3 = mkF m 0 #[.val (.ref x0), .val (.int x1), .val (.int x2)] [] := by first | (simp [entryFrame, mkF, argsToLocals, Value.category]; done) | rfl
set_option maxRecDepth 65536 in
set_option maxHeartbeats 40000000 in
theorem ra_crB (l : Launch) (Z : State) (a0 : Array Value) (hw : Hw a0 Z) (ws : List Jvm.Cond) (G1 : Int32) (Fm : Value) (a1 : Addr) (kA : ClassId) (LA : Nat) (vs : List Int32) (h0 : Heap) (n0 : Nat) (O0 : Old Z n0 h0) (ST : Stc Z G1 Fm) (B1 : Bar Z h0 a1 kA LA vs) (hB : LA ≤ 500) (EA : Exa Z h0 a1 "[B") :
    Met l Z h0 ws Y_17 jdk_65_method_132_code 3 (some (.array .byte)) R_50 #[(.ref a1), (.int (0 : Int32)), (.int (Int32.ofNat LA))] (Qar Z LA vs h0 n0) := by
  refine MetFree.of_bodySF (plainFor_of_name pn5) hisR ?_
  intro p e s m args below meth c s₁ Bd hml0 hP hK
  obtain ⟨rfl, hZ, hh⟩ := hP
  have hx := Bd.exec
  have hby := Bd.bytes
  have hml : c.maxLocals = 3 := hml0
  have hown : s.vm.findClass "java/util/Arrays" = some m.cls := findClass_of_methodNamed Bd.named
  have hnm := (name_of_methodNamed Bd.named Bd.method).1
  have X0 : Stand p l e R_50 s m #[(.ref a1), (.int (0 : Int32)), (.int (Int32.ofNat LA))] below meth c s₁ [] 0 0 := Stand.of_body Bd
  have e0 : s₁.heap = h0 := by rw [← hh, Bd.state]; rfl
  have N0 := Fr.nil n0
  obtain ⟨S_cs, hG, S_fm, hF, S_ad, S_hi, S_lo⟩ := id ST
  have V_a1 := B1.1
  have l_a1 := B1.2
  have hN_a1 : (Int32.ofNat LA).toNatClampNeg = vs.length := by rw [l_a1]; exact own_n (by omega)
  have lt_a1 := V_a1.lt
  obtain ⟨cl1, Ar1, q1, Sz1, Nn1, Ha1, Gf1⟩ := id V_a1
  have pf2 : ∀ target, Go p e below s₁ m 7 (q_11 a1 LA) [(.int (Int32.ofNat LA)), (.int (Int32.ofNat LA))] target → Go p e below s₁ m 0 (q_11 a1 LA) [] target := by
    intro target k
    show Go p e below s₁ m 0 (q_11 a1 LA) [] _
    refine XS.iloadN X0.here hx rfl (hb hby d28_0) rfl ?_
    refine XS.ifNo X0.here hx rfl (hb hby d28_1) rfl ((if0 _ _).trans (teq (by decide)).2) ?_
    refine XS.iloadN X0.here hx rfl (hb hby d28_4) rfl ?_
    refine XS.aloadN X0.here hx rfl (hb hby d28_5) rfl rfl ?_
    show Go p e below s₁ m 6 (q_11 a1 LA) [(.ref a1), (.int (Int32.ofNat LA))] _
    refine X0.arraylength hx (by rw [e0]; exact Ar1.1) (State.isArrayOf_alike hZ.alike Ar1.2.1) (g := (mkF m 6 (q_11 a1 LA) [(.ref a1), (.int (Int32.ofNat LA))])) rfl rfl (hb hby d28_6) _ ?_
    rw [len_of Sz1 Nn1]
    exact k
  obtain ⟨T3, h3, X3, e3, E3, V3, Ea3, st3⟩ := cloneH X0 hx hZ hown (tw hw 162 rfl) (tw hw 163 rfl) (tw hw 167 rfl) (tw hw 165 rfl) (tw hw 166 rfl) (tw hw 168 rfl) e0 (Arv.arh V_a1) EA (g := (mkF m 18 (q_11 a1 LA) [(.ref a1)])) rfl (by rw [hml]; rfl) rfl (hb hby d28_18) (by decide) (W := 0) (cap := 500) (by show 2 * 0 + _ ≤ _; exact Nat.le_of_eq rfl) (by decide) (by rw [own_n (n := LA) (by omega)]; omega) (by decide) (by decide)
  obtain ⟨b3, g3⟩ : ∃ z, z = h0.size := ⟨_, rfl⟩
  rw [← g3] at V3 Ea3 st3
  have g_b3 : n0 ≤ b3 := by rw [g3]; exact Nat.le_trans (Nat.le_of_eq O0.1.symm) O0.2.1
  have sz_b3 : h0.size ≤ b3 := by rw [g3]; exact (Keep.refl h0 []).1
  have lt_a1_b3 : a1 < b3 := Nat.lt_of_lt_of_le lt_a1 sz_b3
  have O4 := O0.ext E3
  have kp5 : Keep h0 h3 [] := (Keep.refl h0 []).ext E3
  have V_b3 : Arv Z h3 b3 kA .byte (Int32.ofNat LA) (vs.map Value.int) (.int (0 : Int32)) := V3
  obtain ⟨T6, X6, e6, st6⟩ := castY X3 hx hZ hown (tw hw 169 rfl) e3 (Ins.self Ea3) (g := (mkF m 21 (q_11 a1 LA) [(.ref b3)])) rfl rfl (hb hby d28_21)
  obtain ⟨fs, hr, hrun, hended, hW, hsame⟩ := X6.leave (v := some (.ref b3)) (fun h => by rw [Bd.returns] at h; cases h)
  refine ⟨_, _, castTop (ef_ra_crB m a1 (0 : Int32) (Int32.ofNat LA)) ?_, hrun, hended, _, _, rfl, ?_, ⟨_, rfl⟩, hW, hsame.mono (by decide) (by decide)⟩
  · refine pf2 _ ?_
    show Go p e below s₁ m 7 (q_11 a1 LA) [(.int (Int32.ofNat LA)), (.int (Int32.ofNat LA))] _
    refine XS.icmpYes X0.here hx rfl (pc0 := 7) (pc' := 17) rfl (hb hby d28_7) rfl (teq ((own_eq (a := LA) (b := LA) (by omega) (by omega)).mpr (by omega))).1 (by decide) (by decide) ?_
    refine XS.aloadN X0.here hx rfl (hb hby d28_17) rfl rfl ?_
    refine st3 _ ?_
    refine st6 _ ?_
    show Go p e below T6 m 24 (q_11 a1 LA) [(.ref b3)] _
    exact retOut X6 hx Bd.returns rfl (Or.inr (Or.inr (Or.inr (Or.inr ⟨rfl, rfl, rfl⟩)))) (hb hby d28_24) hr
  · show Qar Z LA vs h0 n0 _ T6.heap _
    rw [e6]
    exact ⟨b3, _, rfl, N0, kp5, sz_b3, ⟨V_b3, l_a1⟩, Ea3⟩
theorem ef_ra_crD (m : MethodId) (x0 : Addr) (x1 : Int32) (x2 : Int32) : entryFrame m #[(.ref x0), (.int x1), (.int x2)] 3 = mkF m 0 #[.val (.ref x0), .val (.int x1), .val (.int x2)] [] := by first | (simp [entryFrame, mkF, argsToLocals, Value.category]; done) | rfl
set_option maxRecDepth 65536 in
set_option maxHeartbeats 40000000 in
theorem ra_crD (l : Launch) (Z : State) (a0 : Array Value) (hw : Hw a0 Z) (ws : List Jvm.Cond) (G1 : Int32) (Fm : Value) (a1 : Addr) (kA : ClassId) (LA : Nat) (vs : List Int32) (h0 : Heap) (n0 : Nat) (O0 : Old Z n0 h0) (ST : Stc Z G1 Fm) (B1 : Bar Z h0 a1 kA LA vs) (hB : LA ≤ 500) (EA : Exa Z h0 a1 "[B") :
    Met l Z h0 ws Y_17 jdk_65_method_132_code 3 (some (.array .byte)) R_14 #[(.ref a1), (.int (0 : Int32)), (.int (Int32.ofNat LA))] (Qar Z LA vs h0 n0) := by
  refine MetFree.of_bodySF (plainFor_of_name pn5) hisR ?_
  intro p e s m args below meth c s₁ Bd hml0 hP hK
  obtain ⟨rfl, hZ, hh⟩ := hP
  have hx := Bd.exec
  have hby := Bd.bytes
  have hml : c.maxLocals = 3 := hml0
  have hown : s.vm.findClass "java/util/Arrays" = some m.cls := findClass_of_methodNamed Bd.named
  have hnm := (name_of_methodNamed Bd.named Bd.method).1
  have X0 : Stand p l e R_14 s m #[(.ref a1), (.int (0 : Int32)), (.int (Int32.ofNat LA))] below meth c s₁ [] 0 0 := Stand.of_body Bd
  have e0 : s₁.heap = h0 := by rw [← hh, Bd.state]; rfl
  have N0 := Fr.nil n0
  obtain ⟨S_cs, hG, S_fm, hF, S_ad, S_hi, S_lo⟩ := id ST
  have V_a1 := B1.1
  have l_a1 := B1.2
  have hN_a1 : (Int32.ofNat LA).toNatClampNeg = vs.length := by rw [l_a1]; exact own_n (by omega)
  have lt_a1 := V_a1.lt
  obtain ⟨cl1, Ar1, q1, Sz1, Nn1, Ha1, Gf1⟩ := id V_a1
  have pf2 : ∀ target, Go p e below s₁ m 7 (q_11 a1 LA) [(.int (Int32.ofNat LA)), (.int (Int32.ofNat LA))] target → Go p e below s₁ m 0 (q_11 a1 LA) [] target := by
    intro target k
    show Go p e below s₁ m 0 (q_11 a1 LA) [] _
    refine XS.iloadN X0.here hx rfl (hb hby d28_0) rfl ?_
    refine XS.ifNo X0.here hx rfl (hb hby d28_1) rfl ((if0 _ _).trans (teq (by decide)).2) ?_
    refine XS.iloadN X0.here hx rfl (hb hby d28_4) rfl ?_
    refine XS.aloadN X0.here hx rfl (hb hby d28_5) rfl rfl ?_
    show Go p e below s₁ m 6 (q_11 a1 LA) [(.ref a1), (.int (Int32.ofNat LA))] _
    refine X0.arraylength hx (by rw [e0]; exact Ar1.1) (State.isArrayOf_alike hZ.alike Ar1.2.1) (g := (mkF m 6 (q_11 a1 LA) [(.ref a1), (.int (Int32.ofNat LA))])) rfl rfl (hb hby d28_6) _ ?_
    rw [len_of Sz1 Nn1]
    exact k
  obtain ⟨T3, h3, X3, e3, E3, V3, Ea3, st3⟩ := cloneH X0 hx hZ hown (tw hw 162 rfl) (tw hw 163 rfl) (tw hw 167 rfl) (tw hw 165 rfl) (tw hw 166 rfl) (tw hw 168 rfl) e0 (Arv.arh V_a1) EA (g := (mkF m 18 (q_11 a1 LA) [(.ref a1)])) rfl (by rw [hml]; rfl) rfl (hb hby d28_18) (by decide) (W := 0) (cap := 500) (by show 2 * 0 + _ ≤ _; exact Nat.le_of_eq rfl) (by decide) (by rw [own_n (n := LA) (by omega)]; omega) (by decide) (by decide)
  obtain ⟨b3, g3⟩ : ∃ z, z = h0.size := ⟨_, rfl⟩
  rw [← g3] at V3 Ea3 st3
  have g_b3 : n0 ≤ b3 := by rw [g3]; exact Nat.le_trans (Nat.le_of_eq O0.1.symm) O0.2.1
  have sz_b3 : h0.size ≤ b3 := by rw [g3]; exact (Keep.refl h0 []).1
  have lt_a1_b3 : a1 < b3 := Nat.lt_of_lt_of_le lt_a1 sz_b3
  have O4 := O0.ext E3
  have kp5 : Keep h0 h3 [] := (Keep.refl h0 []).ext E3
  have V_b3 : Arv Z h3 b3 kA .byte (Int32.ofNat LA) (vs.map Value.int) (.int (0 : Int32)) := V3
  obtain ⟨T6, X6, e6, st6⟩ := castY X3 hx hZ hown (tw hw 169 rfl) e3 (Ins.self Ea3) (g := (mkF m 21 (q_11 a1 LA) [(.ref b3)])) rfl rfl (hb hby d28_21)
  obtain ⟨fs, hr, hrun, hended, hW, hsame⟩ := X6.leave (v := some (.ref b3)) (fun h => by rw [Bd.returns] at h; cases h)
  refine ⟨_, _, castTop (ef_ra_crD m a1 (0 : Int32) (Int32.ofNat LA)) ?_, hrun, hended, _, _, rfl, ?_, ⟨_, rfl⟩, hW, hsame.mono (by decide) (by decide)⟩
  · refine pf2 _ ?_
    show Go p e below s₁ m 7 (q_11 a1 LA) [(.int (Int32.ofNat LA)), (.int (Int32.ofNat LA))] _
    refine XS.icmpYes X0.here hx rfl (pc0 := 7) (pc' := 17) rfl (hb hby d28_7) rfl (teq ((own_eq (a := LA) (b := LA) (by omega) (by omega)).mpr (by omega))).1 (by decide) (by decide) ?_
    refine XS.aloadN X0.here hx rfl (hb hby d28_17) rfl rfl ?_
    refine st3 _ ?_
    refine st6 _ ?_
    show Go p e below T6 m 24 (q_11 a1 LA) [(.ref b3)] _
    exact retOut X6 hx Bd.returns rfl (Or.inr (Or.inr (Or.inr (Or.inr ⟨rfl, rfl, rfl⟩)))) (hb hby d28_24) hr
  · show Qar Z LA vs h0 n0 _ T6.heap _
    rw [e6]
    exact ⟨b3, _, rfl, N0, kp5, sz_b3, ⟨V_b3, l_a1⟩, Ea3⟩
theorem ra_cr (l : Launch) (Z : State) (a0 : Array Value) (hw : Hw a0 Z) (ws : List Jvm.Cond) (G1 : Int32) (Fm : Value) (a1 : Addr) (kA : ClassId) (LA : Nat) (vs : List Int32) (i1 : Nat) (h0 : Heap) (n0 : Nat) (O0 : Old Z n0 h0) (ST : Stc Z G1 Fm) (B1 : Bar Z h0 a1 kA LA vs) (hB : LA ≤ 500) (EA : Exa Z h0 a1 "[B") (hi : i1 ≤ LA) :
    Met l Z h0 ws Y_17 jdk_65_method_132_code 3 (some (.array .byte)) R_14 #[(.ref a1), (.int (0 : Int32)), (.int (Int32.ofNat i1))] (Qar Z i1 (vs.take i1) h0 n0) := by
  rcases Nat.lt_or_ge i1 LA with q | q
  · exact ra_crA l Z a0 hw ws G1 Fm a1 kA LA vs i1 h0 n0 O0 ST B1 hB q
  · have e : i1 = LA := Nat.le_antisymm hi q
    subst e
    rw [show vs.take i1 = vs by rw [← B1.2, List.take_length]]
    exact ra_crD l Z a0 hw ws G1 Fm a1 kA i1 vs h0 n0 O0 ST B1 hB EA
theorem d23_0 : Dc cb51 0 (.aload_n 0) 1 := by decide +kernel
theorem d23_1 : Dc cb51 1 (.invokespecial 1) 3 := by decide +kernel
theorem d23_4 : Dc cb51 4 (.aload_n 1) 1 := by decide +kernel
theorem d23_5 : Dc cb51 5 (.invokevirtual 552) 3 := by decide +kernel
theorem pd31 : parseMethodDescriptor "()[B" = some ⟨[], some (.array .byte)⟩ := by decide +kernel
theorem d23_8 : Dc cb51 8 (.astore_n 3) 1 := by decide +kernel
theorem d23_9 : Dc cb51 9 (.aload_n 1) 1 := by decide +kernel
theorem d23_10 : Dc cb51 10 (.invokevirtual 549) 3 := by decide +kernel
theorem d23_13 : Dc cb51 13 (.istore 4) 2 := by decide +kernel
theorem d23_15 : Dc cb51 15 (.aload_n 1) 1 := by decide +kernel
theorem d23_16 : Dc cb51 16 (.invokevirtual 1047) 3 := by decide +kernel
theorem d23_19 : Dc cb51 19 (.ifCond .eq 22) 3 := by decide +kernel
theorem d23_22 : Dc cb51 22 (.aload_n 0) 1 := by decide +kernel
theorem d23_23 : Dc cb51 23 (.iconst 0) 1 := by decide +kernel
theorem d23_24 : Dc cb51 24 (.putfield 15) 3 := by decide +kernel
theorem d23_27 : Dc cb51 27 (.aload_n 0) 1 := by decide +kernel
theorem d23_28 : Dc cb51 28 (.aload_n 3) 1 := by decide +kernel
theorem d23_29 : Dc cb51 29 (.iconst 0) 1 := by decide +kernel
theorem d23_30 : Dc cb51 30 (.iload 4) 2 := by decide +kernel
theorem d23_32 : Dc cb51 32 (.invokestatic 54) 3 := by decide +kernel
theorem d23_35 : Dc cb51 35 (.putfield 9) 3 := by decide +kernel
theorem d23_38 : Dc cb51 38 (.goto 59) 3 := by decide +kernel
theorem d23_97 : Dc cb51 97 .return_ 1 := by decide +kernel
theorem ef_rs_ix0 (m : MethodId) (x0 : Addr) (x1 : Addr) : entryFrame m #[(.ref x0), (.ref x1), .null] 5 = mkF m 0 #[.val (.ref x0), .val (.ref x1), .val .null, .unset, .unset] [] := by first | (simp [entryFrame, mkF, argsToLocals, Value.category]; done) | rfl
set_option maxRecDepth 65536 in
set_option maxHeartbeats 40000000 in
theorem rs_ix0 (l : Launch) (Z : State) (a0 : Array Value) (hw : Hw a0 Z) (ws : List Jvm.Cond) (G1 : Int32) (Fm : Value) (a1 : Addr) (a2 : Addr) (bA : Addr) (kA : ClassId) (LB : Nat) (cs : List UInt16) (h0 : Heap) (n0 : Nat) (O0 : Old Z n0 h0) (ST : Stc Z G1 Fm) (E_a : Exa Z h0 a1 "java/lang/String") (F_v : Fld Z h0 a1 "java/lang/String" "value" "[B" .null) (F_c : Fld Z h0 a1 "java/lang/String" "coder" "B" (.int (0 : Int32))) (g_a1 : n0 ≤ a1) (HB : Sb0 Z h0 a2 bA kA LB cs.length cs) (hnn : cs.length ≤ 120) :
    Met l Z h0 ws Y_29 jdk_42_method_150_code 5 none R_23 #[(.ref a1), (.ref a2), .null] (Qst Z a1 cs h0 n0) := by
  refine MetFree.of_bodySF (plainFor_of_name pn2) hisR ?_
  intro p e s m args below meth c s₁ Bd hml0 hP hK
  obtain ⟨rfl, hZ, hh⟩ := hP
  have hx := Bd.exec
  have hby := Bd.bytes
  have hml : c.maxLocals = 5 := hml0
  have hown : s.vm.findClass "java/lang/String" = some m.cls := findClass_of_methodNamed Bd.named
  have hnm := (name_of_methodNamed Bd.named Bd.method).1
  have X0 : Stand p l e R_23 s m #[(.ref a1), (.ref a2), .null] below meth c s₁ [] 0 0 := Stand.of_body Bd
  have e0 : s₁.heap = h0 := by rw [← hh, Bd.state]; rfl
  have N0 := Fr.nil n0
  obtain ⟨S_cs, hG, S_fm, hF, S_ad, S_hi, S_lo⟩ := id ST
  obtain ⟨Es, Fv, Fc, Fn, Fy, Eb, hu, hL, tl, Bs⟩ := id HB
  have Vs := Bs.1
  have ls := Bs.2
  have hNs : (Int32.ofNat LB).toNatClampNeg = (cs.map cLo ++ tl).length := by rw [ls]; exact own_n (by omega)
  have lq : cs.length + tl.length = LB := by rw [← ls]; simp only [List.length_append, List.length_map, enc1_len]
  have lt_a2 := Es.lt
  have lt_bA := Vs.lt
  have n_2b : a2 ≠ bA := Exa.neArv Es Vs (tw hw 48 rfl)
  have lt_a1 := E_a.lt
  have n_12 : a1 ≠ a2 := Exa.ne E_a Es (by decide)
  have n_1b : a1 ≠ bA := Exa.neArv E_a Vs (tw hw 6 rfl)
  obtain ⟨T1, X1, e1, st1⟩ := initO X0 hx hZ hown (tw hw 16 rfl) (tw hw 17 rfl) (tw hw 18 rfl) e0 (g := (mkF m 1 (q_24 a1 a2) [(.ref a1)])) rfl (by rw [hml]; rfl) rfl (hb hby d23_1) (by decide) (W := 0) (by show 2 * 0 + _ ≤ _; exact Nat.le_of_eq rfl) (by decide)
  obtain ⟨_, T2, Lc2, X2, hQ2, st2⟩ := own_vc X1 hx hZ (y := Y_14) hown (tw hw 141 rfl) (tw hw 142 rfl) (tw hw 144 rfl) (tw hw 143 rfl) (by decide) (rb_gv0 l Z a0 hw [] G1 Fm a2 bA kA LB cs.length cs h0 n0 O0 ST ⟨Es, Fv, Fc, Fn, Fy, Eb, hu, hL, tl, ⟨Vs, ls⟩⟩ hnn) (tw hw 145 rfl) (tw hw 57 rfl) e1 Es (W := 0) (by decide) (by decide) (Ls := (q_24 a1 a2)) (by rw [hml]; rfl) (argsL := []) (rest := []) (lenOf pd31 rfl) (Nat.le_of_eq rfl) (hb hby d23_5) rfl (by decide) (by decide)
  obtain ⟨rfl, Nq2, e2⟩ := hQ2
  have N2 := Fr.app N0 Nq2
  obtain ⟨cq3, kq3, qa3, qb3, qc3⟩ := isOf hZ e2 Es
  obtain ⟨_, _, ⟨T3, L3, k3, n3⟩, -, X3, ⟨Lc3, hQ3, l3, y3, z3⟩, st3⟩ := X2.virtualBack hx (y := Y_15) (z := Y_26) hown (mvT hZ (tw hw 146 rfl)) (mvT hZ (tw hw 147 rfl)) (own_nf (args := #[]) (z := Y_4) (mvT hZ (tw hw 157 rfl))) (mvT hZ (tw hw 149 rfl)) (mvT hZ (tw hw 150 rfl)) (by decide) (backOf (W := 0) (rb_len0 l Z a0 hw [] G1 Fm a2 bA kA LB cs.length cs h0 n0 O0 ST ⟨Es, Fv, Fc, Fn, Fy, Eb, hu, hL, tl, ⟨Vs, ls⟩⟩ hnn) hZ (tw hw 151 rfl) (tw hw 49 rfl) (by decide) (by decide)) qa3 qc3 (g := (mkF m 10 (q_50 a1 a2 bA) [(.ref a2)])) rfl (by rw [hml]; rfl) (Steps.refl _) (argsL := []) (rest := []) (lenOf pd23 rfl) rfl (by show 2 * 0 + _ ≤ _; exact Nat.le_of_eq rfl) (hb hby d23_10) (fun _ _ => ⟨rfl, e2, (by decide : 0 + 0 ≤ _), (by decide : 0 + 0 ≤ _)⟩)
  dsimp only [Pt.U, Pt.locs, Pt.cells, Pt.slots] at X3 l3 y3 z3 st3 hQ3
  subst l3 y3 z3
  obtain ⟨rfl, Nq3, e3⟩ := hQ3
  have N3 := Fr.app N2 Nq3
  obtain ⟨_, T4, Lc4, X4, hQ4, st4⟩ := own_vc X3 hx hZ (y := Y_4) hown (tw hw 154 rfl) (tw hw 155 rfl) (tw hw 157 rfl) (tw hw 156 rfl) (by decide) (rb_il0 l Z a0 hw [] G1 Fm a2 bA kA LB cs.length cs h0 n0 O0 ST ⟨Es, Fv, Fc, Fn, Fy, Eb, hu, hL, tl, ⟨Vs, ls⟩⟩ hnn) (tw hw 158 rfl) (tw hw 57 rfl) e3 Es (W := 0) (by decide) (by decide) (Ls := (q_7 a1 a2 bA cs)) (by rw [hml]; rfl) (argsL := []) (rest := []) (lenOf pd6 rfl) (Nat.le_of_eq rfl) (hb hby d23_16) rfl (by decide) (by decide)
  obtain ⟨rfl, Nq4, e4⟩ := hQ4
  have N4 := Fr.app N3 Nq4
  have pf5 : ∀ target, Go p e below T4 m 19 (q_7 a1 a2 bA cs) [(.int (1 : Int32))] target → Go p e below s₁ m 0 (q_24 a1 a2) [] target := by
    intro target k
    show Go p e below s₁ m 0 (q_24 a1 a2) [] _
    refine XS.aloadN X0.here hx rfl (hb hby d23_0) rfl rfl ?_
    refine st1 _ ?_
    show Go p e below T1 m 4 (q_24 a1 a2) [] _
    refine XS.aloadN X1.here hx rfl (hb hby d23_4) rfl rfl ?_
    refine st2 _ ?_
    show Go p e below T2 m 8 (q_24 a1 a2) [(.ref bA)] _
    refine XS.astoreN X2.here hx rfl (hb hby d23_8) rfl rfl (l' := (q_50 a1 a2 bA)) rfl ?_
    refine XS.aloadN X2.here hx rfl (hb hby d23_9) rfl rfl ?_
    refine st3.trans ?_
    show Go p e below T3 m 13 (q_50 a1 a2 bA) [(.int (Int32.ofNat cs.length))] _
    refine XS.istore X3.here hx rfl (hb hby d23_13) rfl (l' := (q_7 a1 a2 bA cs)) rfl ?_
    refine XS.aloadN X3.here hx rfl (hb hby d23_15) rfl rfl ?_
    refine st4 _ ?_
    exact k
  obtain ⟨T6, h6, X6, e6, W6, st6⟩ := putFN X4 hx hZ hown (tw hw 26 rfl) Via.refl e4 F_c E_a (Or.inr ⟨(tw hw 22 rfl), rfl, hnm⟩) (tw hw 6 rfl) (ty := .byte) (v' := (.int (0 : Int32))) (by decide) rfl rfl (g := (mkF m 24 (q_7 a1 a2 bA cs) [(.int (0 : Int32)), (.ref a1)])) rfl rfl (hb hby d23_24)
  have Fw6 := F_c.same W6
  have O7 := O0.wr W6 g_a1
  have kp8 : Keep h0 h6 [a1] := (Keep.refl h0 [a1]).wr W6 (Or.inl (List.mem_of_getElem? (i := 0) rfl))
  have N6 := Fr.snoc X6 N4 g_a1
  obtain ⟨_, T9, Lc9, X9, hQ9, st9⟩ := own_sc X6 hx hZ (y := Y_17) hown (tw hw 159 rfl) (tw hw 160 rfl) (by decide) (ra_cr l Z a0 hw [] G1 Fm bA kA LB (cs.map cLo ++ tl) cs.length h6 n0 O7 ST ⟨(Vs.other W6 (Ne.symm n_1b)), ls⟩ (by omega) (Eb.wr W6) (by omega)) (tw hw 161 rfl) (tw hw 122 rfl) e6 (W := 1) (by decide) (by decide) (Ls := (q_7 a1 a2 bA cs)) (by rw [hml]; rfl) (argsL := [(.ref bA), (.int (0 : Int32)), (.int (Int32.ofNat cs.length))]) (rest := [(.ref a1)]) (lenOf pd30 rfl) (Nat.le_of_eq rfl) (hb hby d23_32) rfl (by decide) (by decide)
  obtain ⟨h9, e9⟩ : ∃ z, T9.heap = z := ⟨_, rfl⟩
  rw [e9] at hQ9
  obtain ⟨t9, kt9, rfl, Nq9, K9, szt9, Bt9, Et9⟩ := hQ9
  have N9 := Fr.app N6 Nq9
  have O10 := O7.keep K9 all0
  have kp11 : Keep h0 h9 [a1] := kp8.trans K9 all0
  have sz_t9 := Nat.le_trans kp8.1 szt9
  have g_t9 : n0 ≤ t9 := Nat.le_trans (Nat.le_trans (Nat.le_of_eq O0.1.symm) O0.2.1) sz_t9
  have lt_a1_t9 : a1 < t9 := Nat.lt_of_lt_of_le lt_a1 sz_t9
  have lt_a2_t9 : a2 < t9 := Nat.lt_of_lt_of_le lt_a2 sz_t9
  have lt_bA_t9 : bA < t9 := Nat.lt_of_lt_of_le lt_bA sz_t9
  have Bw : Bar Z h9 t9 kt9 cs.length (cs.map cLo) := by have q := Bt9; rw [show (cs.map cLo ++ tl).take cs.length = (cs.map cLo) from own_tkl (by rw [List.length_map])] at q; exact q
  obtain ⟨T12, h12, X12, e12, W12, st12⟩ := putF X9 hx hZ hown (host := "") (Or.inl (tw hw 25 rfl)) Via.refl e9 ((F_v.other W6 (Or.inr (slot_ne (Or.inr (tw hw 21 rfl)) (Or.inr (tw hw 22 rfl)) (by decide) (t := (.array .byte)) (t' := .byte) (by decide) (by decide)))).keep K9 nin0) ((E_a.wr W6).keep K9) (Or.inr ⟨(tw hw 21 rfl), rfl, hnm⟩) (tw hw 6 rfl) (ty := (.array .byte)) (by decide) rfl rfl (g := (mkF m 35 (q_7 a1 a2 bA cs) [(.ref t9), (.ref a1)])) rfl rfl (hb hby d23_35)
  have Fw12 := ((F_v.other W6 (Or.inr (slot_ne (Or.inr (tw hw 21 rfl)) (Or.inr (tw hw 22 rfl)) (by decide) (t := (.array .byte)) (t' := .byte) (by decide) (by decide)))).keep K9 nin0).same W12
  have O13 := O10.wr W12 g_a1
  have kp14 : Keep h0 h12 [a1] := kp11.wr W12 (Or.inl (List.mem_of_getElem? (i := 0) rfl))
  have N12 := Fr.snoc X12 N9 g_a1
  obtain ⟨fs, hr, hrun, hended, hW, hsame⟩ := X12.leave (v := none) (fun _ => rfl)
  refine ⟨_, _, castTop (ef_rs_ix0 m a1 a2) ?_, hrun, hended, _, _, rfl, ?_, ⟨_, rfl⟩, hW, hsame.mono (by decide) (by decide)⟩
  · refine pf5 _ ?_
    show Go p e below T4 m 19 (q_7 a1 a2 bA cs) [(.int (1 : Int32))] _
    refine XS.ifNo X4.here hx rfl (hb hby d23_19) rfl ((if0 _ _).trans (feq (by decide)).1) ?_
    refine XS.aloadN X4.here hx rfl (hb hby d23_22) rfl rfl ?_
    refine XS.iconst X4.here hx rfl (hb hby d23_23) ?_
    refine st6 _ ?_
    show Go p e below T6 m 27 (q_7 a1 a2 bA cs) [] _
    refine XS.aloadN X6.here hx rfl (hb hby d23_27) rfl rfl ?_
    refine XS.aloadN X6.here hx rfl (hb hby d23_28) rfl rfl ?_
    refine XS.iconst X6.here hx rfl (hb hby d23_29) ?_
    refine XS.iload X6.here hx rfl (hb hby d23_30) rfl ?_
    refine st9 _ ?_
    refine st12 _ ?_
    show Go p e below T12 m 38 (q_7 a1 a2 bA cs) [] _
    refine XS.goto X12.here hx rfl (pc0 := 38) (pc' := 97) rfl (hb hby d23_38) (by decide) (by decide) ?_
    show Go p e below T12 m 97 (q_7 a1 a2 bA cs) [] _
    exact X12.returnOut hx Bd.returns (hb hby d23_97) hr
  · show Qst Z a1 cs h0 n0 _ T12.heap _
    rw [e12]
    exact ⟨rfl, N12, kp14, t9, _, sz_t9, Or.inl ⟨(((E_a.wr W6).keep K9).wr W12), ((Fw6.keep K9 nin0).other W12 (Or.inr (slot_ne (Or.inr (tw hw 22 rfl)) (Or.inr (tw hw 21 rfl)) (by decide) (t := .byte) (t' := (.array .byte)) (by decide) (by decide)))), Fw12, ⟨(Bw.1.other W12 (Ne.symm (Nat.ne_of_lt lt_a1_t9))), Bw.2⟩, hu⟩⟩
theorem d22_0 : Dc cb52 0 (.aload_n 0) 1 := by decide +kernel
theorem d22_1 : Dc cb52 1 (.aload_n 1) 1 := by decide +kernel
theorem d22_2 : Dc cb52 2 .aconst_null 1 := by decide +kernel
theorem d22_3 : Dc cb52 3 (.invokespecial 489) 3 := by decide +kernel
theorem pd32 : parseMethodDescriptor "(Ljava/lang/AbstractStringBuilder;Ljava/lang/Void;)V" = some ⟨[(.object "java/lang/AbstractStringBuilder"), (.object "java/lang/Void")], none⟩ := by decide +kernel
theorem d22_6 : Dc cb52 6 .return_ 1 := by decide +kernel
theorem ef_rs_iy0 (m : MethodId) (x0 : Addr) (x1 : Addr) : entryFrame m #[(.ref x0), (.ref x1)] 2 = mkF m 0 #[.val (.ref x0), .val (.ref x1)] [] := by first | (simp [entryFrame, mkF, argsToLocals, Value.category]; done) | rfl
set_option maxRecDepth 65536 in
set_option maxHeartbeats 40000000 in
theorem rs_iy0 (l : Launch) (Z : State) (a0 : Array Value) (hw : Hw a0 Z) (ws : List Jvm.Cond) (G1 : Int32) (Fm : Value) (a1 : Addr) (a2 : Addr) (bA : Addr) (kA : ClassId) (LB : Nat) (cs : List UInt16) (h0 : Heap) (n0 : Nat) (O0 : Old Z n0 h0) (ST : Stc Z G1 Fm) (E_a : Exa Z h0 a1 "java/lang/String") (F_v : Fld Z h0 a1 "java/lang/String" "value" "[B" .null) (F_c : Fld Z h0 a1 "java/lang/String" "coder" "B" (.int (0 : Int32))) (g_a1 : n0 ≤ a1) (HB : Sb0 Z h0 a2 bA kA LB cs.length cs) (hnn : cs.length ≤ 120) :
    Met l Z h0 ws Y_30 jdk_42_method_53_code 2 none R_24 #[(.ref a1), (.ref a2)] (Qst Z a1 cs h0 n0) := by
  refine MetFree.of_bodySF (plainFor_of_name pn2) hisR ?_
  intro p e s m args below meth c s₁ Bd hml0 hP hK
  obtain ⟨rfl, hZ, hh⟩ := hP
  have hx := Bd.exec
  have hby := Bd.bytes
  have hml : c.maxLocals = 2 := hml0
  have hown : s.vm.findClass "java/lang/String" = some m.cls := findClass_of_methodNamed Bd.named
  have hnm := (name_of_methodNamed Bd.named Bd.method).1
  have X0 : Stand p l e R_24 s m #[(.ref a1), (.ref a2)] below meth c s₁ [] 0 0 := Stand.of_body Bd
  have e0 : s₁.heap = h0 := by rw [← hh, Bd.state]; rfl
  have N0 := Fr.nil n0
  obtain ⟨S_cs, hG, S_fm, hF, S_ad, S_hi, S_lo⟩ := id ST
  obtain ⟨Es, Fv, Fc, Fn, Fy, Eb, hu, hL, tl, Bs⟩ := id HB
  have Vs := Bs.1
  have ls := Bs.2
  have hNs : (Int32.ofNat LB).toNatClampNeg = (cs.map cLo ++ tl).length := by rw [ls]; exact own_n (by omega)
  have lq : cs.length + tl.length = LB := by rw [← ls]; simp only [List.length_append, List.length_map, enc1_len]
  have lt_a2 := Es.lt
  have lt_bA := Vs.lt
  have n_2b : a2 ≠ bA := Exa.neArv Es Vs (tw hw 48 rfl)
  have lt_a1 := E_a.lt
  have n_12 : a1 ≠ a2 := Exa.ne E_a Es (by decide)
  have n_1b : a1 ≠ bA := Exa.neArv E_a Vs (tw hw 6 rfl)
  obtain ⟨_, T1, Lc1, X1, hQ1, st1⟩ := own_ic X0 hx hZ (y := Y_29) rfl hown (tw hw 138 rfl) (tw hw 139 rfl) (by decide) (rs_ix0 l Z a0 hw [] G1 Fm a1 a2 bA kA LB cs h0 n0 O0 ST E_a F_v F_c g_a1 HB hnn) (tw hw 140 rfl) (tw hw 7 rfl) e0 (W := 0) (by decide) (by decide) (Ls := (q_0 a1 a2)) (by rw [hml]; rfl) (b := a1) (argsL := [(.ref a2), .null]) (rest := []) (lenOf pd32 rfl) (Nat.le_of_eq rfl) (hb hby d22_3) rfl (by decide) (by decide)
  obtain ⟨h1, e1⟩ : ∃ z, T1.heap = z := ⟨_, rfl⟩
  rw [e1] at hQ1
  obtain ⟨rfl, Nq1, K1, R1⟩ := hQ1
  have N1 := Fr.app N0 Nq1
  have O2 := O0.keep K1 (allS g_a1 all0)
  have kp3 : Keep h0 h1 [a1] := (Keep.refl h0 [a1]).trans K1 (allS (Or.inl (List.mem_of_getElem? (i := 0) rfl)) all0)
  have RR := R1
  obtain ⟨fs, hr, hrun, hended, hW, hsame⟩ := X1.leave (v := none) (fun _ => rfl)
  refine ⟨_, _, castTop (ef_rs_iy0 m a1 a2) ?_, hrun, hended, _, _, rfl, ?_, ⟨_, rfl⟩, hW, hsame.mono (by decide) (by decide)⟩
  · show Go p e below s₁ m 0 (q_0 a1 a2) [] _
    refine XS.aloadN X0.here hx rfl (hb hby d22_0) rfl rfl ?_
    refine XS.aloadN X0.here hx rfl (hb hby d22_1) rfl rfl ?_
    refine XS.aconstNull X0.here hx rfl (hb hby d22_2) ?_
    refine st1 _ ?_
    show Go p e below T1 m 6 (q_0 a1 a2) [] _
    exact X1.returnOut hx Bd.returns (hb hby d22_6) hr
  · show Qst Z a1 cs h0 n0 _ T1.heap _
    rw [e1]
    exact ⟨rfl, N1, kp3, RR⟩
theorem d21_0 : Dc cb53 0 (.new 18) 3 := by decide +kernel
theorem d21_3 : Dc cb53 3 .dup 1 := by decide +kernel
theorem d21_4 : Dc cb53 4 (.aload_n 0) 1 := by decide +kernel
theorem d21_5 : Dc cb53 5 (.invokespecial 137) 3 := by decide +kernel
theorem pd33 : parseMethodDescriptor "(Ljava/lang/StringBuilder;)V" = some ⟨[(.object "java/lang/StringBuilder")], none⟩ := by decide +kernel
theorem d21_8 : Dc cb53 8 .areturn 1 := by decide +kernel
theorem ef_rb_ts0 (m : MethodId) (x0 : Addr) : entryFrame m #[(.ref x0)] 1 = mkF m 0 #[.val (.ref x0)] [] := by first | (simp [entryFrame, mkF, argsToLocals, Value.category]; done) | rfl
set_option maxRecDepth 65536 in
set_option maxHeartbeats 40000000 in
theorem rb_ts0 (l : Launch) (Z : State) (a0 : Array Value) (hw : Hw a0 Z) (ws : List Jvm.Cond) (G1 : Int32) (Fm : Value) (a2 : Addr) (bA : Addr) (kA : ClassId) (LB : Nat) (cs : List UInt16) (h0 : Heap) (n0 : Nat) (O0 : Old Z n0 h0) (ST : Stc Z G1 Fm) (HB : Sb0 Z h0 a2 bA kA LB cs.length cs) (hnn : cs.length ≤ 120) :
    Met l Z h0 ws Y_18 jdk_67_method_42_code 1 (some (.object "java/lang/String")) R_15 #[(.ref a2)] (Qs Z cs h0 n0) := by
  refine MetFree.of_bodySF (plainFor_of_name pn7) hisR ?_
  intro p e s m args below meth c s₁ Bd hml0 hP hK
  obtain ⟨rfl, hZ, hh⟩ := hP
  have hx := Bd.exec
  have hby := Bd.bytes
  have hml : c.maxLocals = 1 := hml0
  have hown : s.vm.findClass "java/lang/StringBuilder" = some m.cls := findClass_of_methodNamed Bd.named
  have hnm := (name_of_methodNamed Bd.named Bd.method).1
  have X0 : Stand p l e R_15 s m #[(.ref a2)] below meth c s₁ [] 0 0 := Stand.of_body Bd
  have e0 : s₁.heap = h0 := by rw [← hh, Bd.state]; rfl
  have N0 := Fr.nil n0
  obtain ⟨S_cs, hG, S_fm, hF, S_ad, S_hi, S_lo⟩ := id ST
  obtain ⟨Es, Fv, Fc, Fn, Fy, Eb, hu, hL, tl, Bs⟩ := id HB
  have Vs := Bs.1
  have ls := Bs.2
  have hNs : (Int32.ofNat LB).toNatClampNeg = (cs.map cLo ++ tl).length := by rw [ls]; exact own_n (by omega)
  have lq : cs.length + tl.length = LB := by rw [← ls]; simp only [List.length_append, List.length_map, enc1_len]
  have lt_a2 := Es.lt
  have lt_bA := Vs.lt
  have n_2b : a2 ≠ bA := Exa.neArv Es Vs (tw hw 48 rfl)
  obtain ⟨T1, h1, X1, e1, E1, A1, D1, U1, st1⟩ := newO X0 hx hZ hown (tw hw 134 rfl) (tw hw 6 rfl) (tw hw 7 rfl) e0 (g := (mkF m 0 (q_1 a2) [])) rfl (hb hby d21_0) (by decide) (by decide)
  obtain ⟨b1, g1⟩ : ∃ z, z = h0.size := ⟨_, rfl⟩
  rw [← g1] at A1 D1 U1 st1
  have g_b1 : n0 ≤ b1 := by rw [g1]; exact Nat.le_trans (Nat.le_of_eq O0.1.symm) O0.2.1
  have sz_b1 : h0.size ≤ b1 := by rw [g1]; exact (Keep.refl h0 []).1
  have lt_a2_b1 : a2 < b1 := Nat.lt_of_lt_of_le lt_a2 sz_b1
  have lt_bA_b1 : bA < b1 := Nat.lt_of_lt_of_le lt_bA sz_b1
  have O2 := O0.ext E1
  have kp3 : Keep h0 h1 [] := (Keep.refl h0 []).ext E1
  have F_value_b1 : Fld Z h1 b1 "java/lang/String" "value" "[B" .null := D1 (Or.inr (tw hw 21 rfl)) (ty := (.array .byte)) (by decide)
  have F_coder_b1 : Fld Z h1 b1 "java/lang/String" "coder" "B" (.int (0 : Int32)) := D1 (Or.inr (tw hw 22 rfl)) (ty := .byte) (by decide)
  obtain ⟨_, T4, Lc4, X4, hQ4, st4⟩ := own_ic X1 hx hZ (y := Y_30) rfl hown (tw hw 135 rfl) (tw hw 136 rfl) (by decide) (rs_iy0 l Z a0 hw [] G1 Fm b1 a2 bA kA LB cs h1 n0 O2 ST A1 F_value_b1 F_coder_b1 g_b1 ⟨(Es.ext E1), (Fv.ext E1), (Fc.ext E1), (Fn.ext E1), (Fy.ext E1), (Eb.ext E1), hu, hL, tl, ⟨(Vs.ext E1), ls⟩⟩ hnn) (tw hw 137 rfl) (tw hw 7 rfl) e1 (W := 1) (by decide) (by decide) (Ls := (q_1 a2)) (by rw [hml]; rfl) (b := b1) (argsL := [(.ref a2)]) (rest := [(.ref b1)]) (lenOf pd33 rfl) (Nat.le_of_eq rfl) (hb hby d21_5) rfl (by decide) (by decide)
  obtain ⟨h4, e4⟩ : ∃ z, T4.heap = z := ⟨_, rfl⟩
  rw [e4] at hQ4
  obtain ⟨rfl, Nq4, K4, bb, kb, szb, HX⟩ := hQ4
  have N4 := Fr.app N0 Nq4
  have O5 := O2.keep K4 (allS g_b1 all0)
  have kp6 : Keep h0 h4 [] := kp3.trans K4 (allS (Or.inr sz_b1) all0)
  have szb' := Nat.le_trans kp3.1 szb
  obtain ⟨fs, hr, hrun, hended, hW, hsame⟩ := X4.leave (v := some (.ref b1)) (fun h => by rw [Bd.returns] at h; cases h)
  refine ⟨_, _, castTop (ef_rb_ts0 m a2) ?_, hrun, hended, _, _, rfl, ?_, ⟨_, rfl⟩, hW, hsame.mono (by decide) (by decide)⟩
  · refine st1 _ ?_
    show Go p e below T1 m 3 (q_1 a2) [(.ref b1)] _
    refine XS.dup X1.here hx rfl (hb hby d21_3) rfl rfl ?_
    refine XS.aloadN X1.here hx rfl (hb hby d21_4) rfl rfl ?_
    refine st4 _ ?_
    show Go p e below T4 m 8 (q_1 a2) [(.ref b1)] _
    exact retOut X4 hx Bd.returns rfl (Or.inr (Or.inr (Or.inr (Or.inr ⟨rfl, rfl, rfl⟩)))) (hb hby d21_8) hr
  · show Qs Z cs h0 n0 _ T4.heap _
    rw [e4]
    exact ⟨b1, bb, kb, rfl, N4, kp6, sz_b1, szb', HX⟩
theorem d23_41 : Dc cb51 41 (.getstatic 38) 3 := by decide +kernel
theorem d23_44 : Dc cb51 44 (.ifCond .eq 35) 3 := by decide +kernel
theorem d23_47 : Dc cb51 47 (.aload_n 1) 1 := by decide +kernel
theorem d23_48 : Dc cb51 48 (.getfield 1048) 3 := by decide +kernel
theorem d23_51 : Dc cb51 51 (.ifCond .eq 28) 3 := by decide +kernel
theorem d23_79 : Dc cb51 79 (.aload_n 0) 1 := by decide +kernel
theorem d23_80 : Dc cb51 80 (.iconst 1) 1 := by decide +kernel
theorem d23_81 : Dc cb51 81 (.putfield 15) 3 := by decide +kernel
theorem d23_84 : Dc cb51 84 (.aload_n 0) 1 := by decide +kernel
theorem d23_85 : Dc cb51 85 (.aload_n 3) 1 := by decide +kernel
theorem d23_86 : Dc cb51 86 (.iconst 0) 1 := by decide +kernel
theorem d23_87 : Dc cb51 87 (.iload 4) 2 := by decide +kernel
theorem d23_89 : Dc cb51 89 (.iconst 1) 1 := by decide +kernel
theorem d23_90 : Dc cb51 90 .ishl 1 := by decide +kernel
theorem d23_91 : Dc cb51 91 (.invokestatic 54) 3 := by decide +kernel
theorem d23_94 : Dc cb51 94 (.putfield 9) 3 := by decide +kernel
theorem ef_rs_ix1 (m : MethodId) (x0 : Addr) (x1 : Addr) : entryFrame m #[(.ref x0), (.ref x1), .null] 5 = mkF m 0 #[.val (.ref x0), .val (.ref x1), .val .null, .unset, .unset] [] := by first | (simp [entryFrame, mkF, argsToLocals, Value.category]; done) | rfl
set_option maxRecDepth 65536 in
set_option maxHeartbeats 40000000 in
theorem rs_ix1 (l : Launch) (Z : State) (a0 : Array Value) (hw : Hw a0 Z) (ws : List Jvm.Cond) (G1 : Int32) (Fm : Value) (a1 : Addr) (a2 : Addr) (bA : Addr) (kA : ClassId) (LB : Nat) (cs : List UInt16) (h0 : Heap) (n0 : Nat) (O0 : Old Z n0 h0) (ST : Stc Z G1 Fm) (E_a : Exa Z h0 a1 "java/lang/String") (F_v : Fld Z h0 a1 "java/lang/String" "value" "[B" .null) (F_c : Fld Z h0 a1 "java/lang/String" "coder" "B" (.int (0 : Int32))) (g_a1 : n0 ≤ a1) (HB : Sb1 Z h0 a2 bA kA LB cs.length cs) (hnn : cs.length ≤ 120) :
    Met l Z h0 ws Y_29 jdk_42_method_150_code 5 none R_23 #[(.ref a1), (.ref a2), .null] (Qst Z a1 cs h0 n0) := by
  refine MetFree.of_bodySF (plainFor_of_name pn2) hisR ?_
  intro p e s m args below meth c s₁ Bd hml0 hP hK
  obtain ⟨rfl, hZ, hh⟩ := hP
  have hx := Bd.exec
  have hby := Bd.bytes
  have hml : c.maxLocals = 5 := hml0
  have hown : s.vm.findClass "java/lang/String" = some m.cls := findClass_of_methodNamed Bd.named
  have hnm := (name_of_methodNamed Bd.named Bd.method).1
  have X0 : Stand p l e R_23 s m #[(.ref a1), (.ref a2), .null] below meth c s₁ [] 0 0 := Stand.of_body Bd
  have e0 : s₁.heap = h0 := by rw [← hh, Bd.state]; rfl
  have N0 := Fr.nil n0
  obtain ⟨S_cs, hG, S_fm, hF, S_ad, S_hi, S_lo⟩ := id ST
  obtain ⟨Es, Fv, Fc, Fn, Fy, Eb, hL, tl, Bs⟩ := id HB
  have Vs := Bs.1
  have ls := Bs.2
  have hNs : (Int32.ofNat LB).toNatClampNeg = (enc1 cs ++ tl).length := by rw [ls]; exact own_n (by omega)
  have lq : 2 * cs.length + tl.length = LB := by rw [← ls]; simp only [List.length_append, List.length_map, enc1_len]
  have lt_a2 := Es.lt
  have lt_bA := Vs.lt
  have n_2b : a2 ≠ bA := Exa.neArv Es Vs (tw hw 48 rfl)
  have lt_a1 := E_a.lt
  have n_12 : a1 ≠ a2 := Exa.ne E_a Es (by decide)
  have n_1b : a1 ≠ bA := Exa.neArv E_a Vs (tw hw 6 rfl)
  obtain ⟨T1, X1, e1, st1⟩ := initO X0 hx hZ hown (tw hw 16 rfl) (tw hw 17 rfl) (tw hw 18 rfl) e0 (g := (mkF m 1 (q_24 a1 a2) [(.ref a1)])) rfl (by rw [hml]; rfl) rfl (hb hby d23_1) (by decide) (W := 0) (by show 2 * 0 + _ ≤ _; exact Nat.le_of_eq rfl) (by decide)
  obtain ⟨_, T2, Lc2, X2, hQ2, st2⟩ := own_vc X1 hx hZ (y := Y_14) hown (tw hw 141 rfl) (tw hw 142 rfl) (tw hw 144 rfl) (tw hw 143 rfl) (by decide) (rb_gv1 l Z a0 hw [] G1 Fm a2 bA kA LB cs.length cs h0 n0 O0 ST ⟨Es, Fv, Fc, Fn, Fy, Eb, hL, tl, ⟨Vs, ls⟩⟩ hnn) (tw hw 145 rfl) (tw hw 57 rfl) e1 Es (W := 0) (by decide) (by decide) (Ls := (q_24 a1 a2)) (by rw [hml]; rfl) (argsL := []) (rest := []) (lenOf pd31 rfl) (Nat.le_of_eq rfl) (hb hby d23_5) rfl (by decide) (by decide)
  obtain ⟨rfl, Nq2, e2⟩ := hQ2
  have N2 := Fr.app N0 Nq2
  obtain ⟨cq3, kq3, qa3, qb3, qc3⟩ := isOf hZ e2 Es
  obtain ⟨_, _, ⟨T3, L3, k3, n3⟩, -, X3, ⟨Lc3, hQ3, l3, y3, z3⟩, st3⟩ := X2.virtualBack hx (y := Y_15) (z := Y_26) hown (mvT hZ (tw hw 146 rfl)) (mvT hZ (tw hw 147 rfl)) (own_nf (args := #[]) (z := Y_4) (mvT hZ (tw hw 157 rfl))) (mvT hZ (tw hw 149 rfl)) (mvT hZ (tw hw 150 rfl)) (by decide) (backOf (W := 0) (rb_len1 l Z a0 hw [] G1 Fm a2 bA kA LB cs.length cs h0 n0 O0 ST ⟨Es, Fv, Fc, Fn, Fy, Eb, hL, tl, ⟨Vs, ls⟩⟩ hnn) hZ (tw hw 151 rfl) (tw hw 49 rfl) (by decide) (by decide)) qa3 qc3 (g := (mkF m 10 (q_50 a1 a2 bA) [(.ref a2)])) rfl (by rw [hml]; rfl) (Steps.refl _) (argsL := []) (rest := []) (lenOf pd23 rfl) rfl (by show 2 * 0 + _ ≤ _; exact Nat.le_of_eq rfl) (hb hby d23_10) (fun _ _ => ⟨rfl, e2, (by decide : 0 + 0 ≤ _), (by decide : 0 + 0 ≤ _)⟩)
  dsimp only [Pt.U, Pt.locs, Pt.cells, Pt.slots] at X3 l3 y3 z3 st3 hQ3
  subst l3 y3 z3
  obtain ⟨rfl, Nq3, e3⟩ := hQ3
  have N3 := Fr.app N2 Nq3
  obtain ⟨_, T4, Lc4, X4, hQ4, st4⟩ := own_vc X3 hx hZ (y := Y_4) hown (tw hw 154 rfl) (tw hw 155 rfl) (tw hw 157 rfl) (tw hw 156 rfl) (by decide) (rb_il1 l Z a0 hw [] G1 Fm a2 bA kA LB cs.length cs h0 n0 O0 ST ⟨Es, Fv, Fc, Fn, Fy, Eb, hL, tl, ⟨Vs, ls⟩⟩ hnn) (tw hw 158 rfl) (tw hw 57 rfl) e3 Es (W := 0) (by decide) (by decide) (Ls := (q_7 a1 a2 bA cs)) (by rw [hml]; rfl) (argsL := []) (rest := []) (lenOf pd6 rfl) (Nat.le_of_eq rfl) (hb hby d23_16) rfl (by decide) (by decide)
  obtain ⟨rfl, Nq4, e4⟩ := hQ4
  have N4 := Fr.app N3 Nq4
  have pf5 : ∀ target, Go p e below T4 m 19 (q_7 a1 a2 bA cs) [(.int (0 : Int32))] target → Go p e below s₁ m 0 (q_24 a1 a2) [] target := by
    intro target k
    show Go p e below s₁ m 0 (q_24 a1 a2) [] _
    refine XS.aloadN X0.here hx rfl (hb hby d23_0) rfl rfl ?_
    refine st1 _ ?_
    show Go p e below T1 m 4 (q_24 a1 a2) [] _
    refine XS.aloadN X1.here hx rfl (hb hby d23_4) rfl rfl ?_
    refine st2 _ ?_
    show Go p e below T2 m 8 (q_24 a1 a2) [(.ref bA)] _
    refine XS.astoreN X2.here hx rfl (hb hby d23_8) rfl rfl (l' := (q_50 a1 a2 bA)) rfl ?_
    refine XS.aloadN X2.here hx rfl (hb hby d23_9) rfl rfl ?_
    refine st3.trans ?_
    show Go p e below T3 m 13 (q_50 a1 a2 bA) [(.int (Int32.ofNat cs.length))] _
    refine XS.istore X3.here hx rfl (hb hby d23_13) rfl (l' := (q_7 a1 a2 bA cs)) rfl ?_
    refine XS.aloadN X3.here hx rfl (hb hby d23_15) rfl rfl ?_
    refine st4 _ ?_
    exact k
  obtain ⟨T6, X6, e6, st6⟩ := getS2 X4 hx hZ hown (host := "") (Or.inl (tw hw 38 rfl)) Via.refl e4 (S_cs.ext O0.2) (g := (mkF m 41 (q_7 a1 a2 bA cs) [])) rfl (hb hby d23_41)
  obtain ⟨T7, X7, e7, st7⟩ := getF X6 hx hZ hown (host := "") (Or.inl (tw hw 335 rfl)) Via.refl e6 Fy (g := (mkF m 48 (q_7 a1 a2 bA cs) [(.ref a2)])) rfl rfl (hb hby d23_48)
  have pf8 : ∀ target, Go p e below T7 m 51 (q_7 a1 a2 bA cs) [(.int (0 : Int32))] target → Go p e below T4 m 19 (q_7 a1 a2 bA cs) [(.int (0 : Int32))] target := by
    intro target k
    show Go p e below T4 m 19 (q_7 a1 a2 bA cs) [(.int (0 : Int32))] _
    refine XS.ifYes X4.here hx rfl (pc0 := 19) (pc' := 41) rfl (hb hby d23_19) rfl ((if0 _ _).trans (teq (by decide)).1) (by decide) (by decide) ?_
    refine st6 _ ?_
    show Go p e below T6 m 44 (q_7 a1 a2 bA cs) [(.int G1)] _
    refine XS.ifNo X6.here hx rfl (hb hby d23_44) rfl ((if0 _ _).trans (feq hG).1) ?_
    refine XS.aloadN X6.here hx rfl (hb hby d23_47) rfl rfl ?_
    refine st7 _ ?_
    exact k
  obtain ⟨T9, h9, X9, e9, W9, st9⟩ := putFN X7 hx hZ hown (tw hw 26 rfl) Via.refl e7 F_c E_a (Or.inr ⟨(tw hw 22 rfl), rfl, hnm⟩) (tw hw 6 rfl) (ty := .byte) (v' := (.int (1 : Int32))) (by decide) rfl rfl (g := (mkF m 81 (q_7 a1 a2 bA cs) [(.int (1 : Int32)), (.ref a1)])) rfl rfl (hb hby d23_81)
  have Fw9 := F_c.same W9
  have O10 := O0.wr W9 g_a1
  have kp11 : Keep h0 h9 [a1] := (Keep.refl h0 [a1]).wr W9 (Or.inl (List.mem_of_getElem? (i := 0) rfl))
  have N9 := Fr.snoc X9 N4 g_a1
  obtain ⟨_, T12, Lc12, X12, hQ12, st12⟩ := own_sc X9 hx hZ (y := Y_17) hown (tw hw 159 rfl) (tw hw 160 rfl) (by decide) (ra_cr l Z a0 hw [] G1 Fm bA kA LB (enc1 cs ++ tl) (2 * cs.length) h9 n0 O10 ST ⟨(Vs.other W9 (Ne.symm n_1b)), ls⟩ (by omega) (Eb.wr W9) (by omega)) (tw hw 161 rfl) (tw hw 122 rfl) e9 (W := 1) (by decide) (by decide) (Ls := (q_7 a1 a2 bA cs)) (by rw [hml]; rfl) (argsL := [(.ref bA), (.int (0 : Int32)), (.int (Int32.ofNat (2 * cs.length)))]) (rest := [(.ref a1)]) (lenOf pd30 rfl) (Nat.le_of_eq rfl) (hb hby d23_91) rfl (by decide) (by decide)
  obtain ⟨h12, e12⟩ : ∃ z, T12.heap = z := ⟨_, rfl⟩
  rw [e12] at hQ12
  obtain ⟨t12, kt12, rfl, Nq12, K12, szt12, Bt12, Et12⟩ := hQ12
  have N12 := Fr.app N9 Nq12
  have O13 := O10.keep K12 all0
  have kp14 : Keep h0 h12 [a1] := kp11.trans K12 all0
  have sz_t12 := Nat.le_trans kp11.1 szt12
  have g_t12 : n0 ≤ t12 := Nat.le_trans (Nat.le_trans (Nat.le_of_eq O0.1.symm) O0.2.1) sz_t12
  have lt_a1_t12 : a1 < t12 := Nat.lt_of_lt_of_le lt_a1 sz_t12
  have lt_a2_t12 : a2 < t12 := Nat.lt_of_lt_of_le lt_a2 sz_t12
  have lt_bA_t12 : bA < t12 := Nat.lt_of_lt_of_le lt_bA sz_t12
  have Bw : Bar Z h12 t12 kt12 (2 * cs.length) (enc1 cs) := by have q := Bt12; rw [show (enc1 cs ++ tl).take (2 * cs.length) = (enc1 cs) from own_tkl (by rw [enc1_len])] at q; exact q
  obtain ⟨T15, h15, X15, e15, W15, st15⟩ := putF X12 hx hZ hown (host := "") (Or.inl (tw hw 25 rfl)) Via.refl e12 ((F_v.other W9 (Or.inr (slot_ne (Or.inr (tw hw 21 rfl)) (Or.inr (tw hw 22 rfl)) (by decide) (t := (.array .byte)) (t' := .byte) (by decide) (by decide)))).keep K12 nin0) ((E_a.wr W9).keep K12) (Or.inr ⟨(tw hw 21 rfl), rfl, hnm⟩) (tw hw 6 rfl) (ty := (.array .byte)) (by decide) rfl rfl (g := (mkF m 94 (q_7 a1 a2 bA cs) [(.ref t12), (.ref a1)])) rfl rfl (hb hby d23_94)
  have Fw15 := ((F_v.other W9 (Or.inr (slot_ne (Or.inr (tw hw 21 rfl)) (Or.inr (tw hw 22 rfl)) (by decide) (t := (.array .byte)) (t' := .byte) (by decide) (by decide)))).keep K12 nin0).same W15
  have O16 := O13.wr W15 g_a1
  have kp17 : Keep h0 h15 [a1] := kp14.wr W15 (Or.inl (List.mem_of_getElem? (i := 0) rfl))
  have N15 := Fr.snoc X15 N12 g_a1
  obtain ⟨fs, hr, hrun, hended, hW, hsame⟩ := X15.leave (v := none) (fun _ => rfl)
  refine ⟨_, _, castTop (ef_rs_ix1 m a1 a2) ?_, hrun, hended, _, _, rfl, ?_, ⟨_, rfl⟩, hW, hsame.mono (by decide) (by decide)⟩
  · refine pf5 _ ?_
    refine pf8 _ ?_
    show Go p e below T7 m 51 (q_7 a1 a2 bA cs) [(.int (0 : Int32))] _
    refine XS.ifYes X7.here hx rfl (pc0 := 51) (pc' := 79) rfl (hb hby d23_51) rfl ((if0 _ _).trans (teq (by decide)).1) (by decide) (by decide) ?_
    refine XS.aloadN X7.here hx rfl (hb hby d23_79) rfl rfl ?_
    refine XS.iconst X7.here hx rfl (hb hby d23_80) ?_
    refine st9 _ ?_
    show Go p e below T9 m 84 (q_7 a1 a2 bA cs) [] _
    refine XS.aloadN X9.here hx rfl (hb hby d23_84) rfl rfl ?_
    refine XS.aloadN X9.here hx rfl (hb hby d23_85) rfl rfl ?_
    refine XS.iconst X9.here hx rfl (hb hby d23_86) ?_
    refine XS.iload X9.here hx rfl (hb hby d23_87) rfl ?_
    refine XS.iconst X9.here hx rfl (hb hby d23_89) ?_
    refine XS.ishl X9.here hx rfl (hb hby d23_90) rfl ?_
    show Go p e below T9 m 91 (q_7 a1 a2 bA cs) [(.int ((Int32.ofNat cs.length) <<< ((1 : Int32) &&& 31))), (.int (0 : Int32)), (.ref bA), (.ref a1)] _
    rw [show ((Int32.ofNat cs.length) <<< ((1 : Int32) &&& 31)) = (Int32.ofNat (2 * cs.length)) from own_shl1 cs.length]
    refine st12 _ ?_
    refine st15 _ ?_
    show Go p e below T15 m 97 (q_7 a1 a2 bA cs) [] _
    exact X15.returnOut hx Bd.returns (hb hby d23_97) hr
  · show Qst Z a1 cs h0 n0 _ T15.heap _
    rw [e15]
    exact ⟨rfl, N15, kp17, t12, _, sz_t12, Or.inr ⟨(((E_a.wr W9).keep K12).wr W15), ((Fw9.keep K12 nin0).other W15 (Or.inr (slot_ne (Or.inr (tw hw 22 rfl)) (Or.inr (tw hw 21 rfl)) (by decide) (t := .byte) (t' := (.array .byte)) (by decide) (by decide)))), Fw15, ⟨(Bw.1.other W15 (Ne.symm (Nat.ne_of_lt lt_a1_t12))), Bw.2⟩⟩⟩
theorem ef_rs_iy1 (m : MethodId) (x0 : Addr) (x1 : Addr) : entryFrame m #[(.ref x0), (.ref x1)] 2 = mkF m 0 #[.val (.ref x0), .val (.ref x1)] [] := by first | (simp [entryFrame, mkF, argsToLocals, Value.category]; done) | rfl
set_option maxRecDepth 65536 in
set_option maxHeartbeats 40000000 in
theorem rs_iy1 (l : Launch) (Z : State) (a0 : Array Value) (hw : Hw a0 Z) (ws : List Jvm.Cond) (G1 : Int32) (Fm : Value) (a1 : Addr) (a2 : Addr) (bA : Addr) (kA : ClassId) (LB : Nat) (cs : List UInt16) (h0 : Heap) (n0 : Nat) (O0 : Old Z n0 h0) (ST : Stc Z G1 Fm) (E_a : Exa Z h0 a1 "java/lang/String") (F_v : Fld Z h0 a1 "java/lang/String" "value" "[B" .null) (F_c : Fld Z h0 a1 "java/lang/String" "coder" "B" (.int (0 : Int32))) (g_a1 : n0 ≤ a1) (HB : Sb1 Z h0 a2 bA kA LB cs.length cs) (hnn : cs.length ≤ 120) :
    Met l Z h0 ws Y_30 jdk_42_method_53_code 2 none R_24 #[(.ref a1), (.ref a2)] (Qst Z a1 cs h0 n0) := by
  refine MetFree.of_bodySF (plainFor_of_name pn2) hisR ?_
  intro p e s m args below meth c s₁ Bd hml0 hP hK
  obtain ⟨rfl, hZ, hh⟩ := hP
  have hx := Bd.exec
  have hby := Bd.bytes
  have hml : c.maxLocals = 2 := hml0
  have hown : s.vm.findClass "java/lang/String" = some m.cls := findClass_of_methodNamed Bd.named
  have hnm := (name_of_methodNamed Bd.named Bd.method).1
  have X0 : Stand p l e R_24 s m #[(.ref a1), (.ref a2)] below meth c s₁ [] 0 0 := Stand.of_body Bd
  have e0 : s₁.heap = h0 := by rw [← hh, Bd.state]; rfl
  have N0 := Fr.nil n0
  obtain ⟨S_cs, hG, S_fm, hF, S_ad, S_hi, S_lo⟩ := id ST
  obtain ⟨Es, Fv, Fc, Fn, Fy, Eb, hL, tl, Bs⟩ := id HB
  have Vs := Bs.1
  have ls := Bs.2
  have hNs : (Int32.ofNat LB).toNatClampNeg = (enc1 cs ++ tl).length := by rw [ls]; exact own_n (by omega)
  have lq : 2 * cs.length + tl.length = LB := by rw [← ls]; simp only [List.length_append, List.length_map, enc1_len]
  have lt_a2 := Es.lt
  have lt_bA := Vs.lt
  have n_2b : a2 ≠ bA := Exa.neArv Es Vs (tw hw 48 rfl)
  have lt_a1 := E_a.lt
  have n_12 : a1 ≠ a2 := Exa.ne E_a Es (by decide)
  have n_1b : a1 ≠ bA := Exa.neArv E_a Vs (tw hw 6 rfl)
  obtain ⟨_, T1, Lc1, X1, hQ1, st1⟩ := own_ic X0 hx hZ (y := Y_29) rfl hown (tw hw 138 rfl) (tw hw 139 rfl) (by decide) (rs_ix1 l Z a0 hw [] G1 Fm a1 a2 bA kA LB cs h0 n0 O0 ST E_a F_v F_c g_a1 HB hnn) (tw hw 140 rfl) (tw hw 7 rfl) e0 (W := 0) (by decide) (by decide) (Ls := (q_0 a1 a2)) (by rw [hml]; rfl) (b := a1) (argsL := [(.ref a2), .null]) (rest := []) (lenOf pd32 rfl) (Nat.le_of_eq rfl) (hb hby d22_3) rfl (by decide) (by decide)
  obtain ⟨h1, e1⟩ : ∃ z, T1.heap = z := ⟨_, rfl⟩
  rw [e1] at hQ1
  obtain ⟨rfl, Nq1, K1, R1⟩ := hQ1
  have N1 := Fr.app N0 Nq1
  have O2 := O0.keep K1 (allS g_a1 all0)
  have kp3 : Keep h0 h1 [a1] := (Keep.refl h0 [a1]).trans K1 (allS (Or.inl (List.mem_of_getElem? (i := 0) rfl)) all0)
  have RR := R1
  obtain ⟨fs, hr, hrun, hended, hW, hsame⟩ := X1.leave (v := none) (fun _ => rfl)
  refine ⟨_, _, castTop (ef_rs_iy1 m a1 a2) ?_, hrun, hended, _, _, rfl, ?_, ⟨_, rfl⟩, hW, hsame.mono (by decide) (by decide)⟩
  · show Go p e below s₁ m 0 (q_0 a1 a2) [] _
    refine XS.aloadN X0.here hx rfl (hb hby d22_0) rfl rfl ?_
    refine XS.aloadN X0.here hx rfl (hb hby d22_1) rfl rfl ?_
    refine XS.aconstNull X0.here hx rfl (hb hby d22_2) ?_
    refine st1 _ ?_
    show Go p e below T1 m 6 (q_0 a1 a2) [] _
    exact X1.returnOut hx Bd.returns (hb hby d22_6) hr
  · show Qst Z a1 cs h0 n0 _ T1.heap _
    rw [e1]
    exact ⟨rfl, N1, kp3, RR⟩
theorem ef_rb_ts1 (m : MethodId) (x0 : Addr) : entryFrame m #[(.ref x0)] 1 = mkF m 0 #[.val (.ref x0)] [] := by first | (simp [entryFrame, mkF, argsToLocals, Value.category]; done) | rfl
set_option maxRecDepth 65536 in
set_option maxHeartbeats 40000000 in
theorem rb_ts1 (l : Launch) (Z : State) (a0 : Array Value) (hw : Hw a0 Z) (ws : List Jvm.Cond) (G1 : Int32) (Fm : Value) (a2 : Addr) (bA : Addr) (kA : ClassId) (LB : Nat) (cs : List UInt16) (h0 : Heap) (n0 : Nat) (O0 : Old Z n0 h0) (ST : Stc Z G1 Fm) (HB : Sb1 Z h0 a2 bA kA LB cs.length cs) (hnn : cs.length ≤ 120) :
    Met l Z h0 ws Y_18 jdk_67_method_42_code 1 (some (.object "java/lang/String")) R_15 #[(.ref a2)] (Qs Z cs h0 n0) := by
  refine MetFree.of_bodySF (plainFor_of_name pn7) hisR ?_
  intro p e s m args below meth c s₁ Bd hml0 hP hK
  obtain ⟨rfl, hZ, hh⟩ := hP
  have hx := Bd.exec
  have hby := Bd.bytes
  have hml : c.maxLocals = 1 := hml0
  have hown : s.vm.findClass "java/lang/StringBuilder" = some m.cls := findClass_of_methodNamed Bd.named
  have hnm := (name_of_methodNamed Bd.named Bd.method).1
  have X0 : Stand p l e R_15 s m #[(.ref a2)] below meth c s₁ [] 0 0 := Stand.of_body Bd
  have e0 : s₁.heap = h0 := by rw [← hh, Bd.state]; rfl
  have N0 := Fr.nil n0
  obtain ⟨S_cs, hG, S_fm, hF, S_ad, S_hi, S_lo⟩ := id ST
  obtain ⟨Es, Fv, Fc, Fn, Fy, Eb, hL, tl, Bs⟩ := id HB
  have Vs := Bs.1
  have ls := Bs.2
  have hNs : (Int32.ofNat LB).toNatClampNeg = (enc1 cs ++ tl).length := by rw [ls]; exact own_n (by omega)
  have lq : 2 * cs.length + tl.length = LB := by rw [← ls]; simp only [List.length_append, List.length_map, enc1_len]
  have lt_a2 := Es.lt
  have lt_bA := Vs.lt
  have n_2b : a2 ≠ bA := Exa.neArv Es Vs (tw hw 48 rfl)
  obtain ⟨T1, h1, X1, e1, E1, A1, D1, U1, st1⟩ := newO X0 hx hZ hown (tw hw 134 rfl) (tw hw 6 rfl) (tw hw 7 rfl) e0 (g := (mkF m 0 (q_1 a2) [])) rfl (hb hby d21_0) (by decide) (by decide)
  obtain ⟨b1, g1⟩ : ∃ z, z = h0.size := ⟨_, rfl⟩
  rw [← g1] at A1 D1 U1 st1
  have g_b1 : n0 ≤ b1 := by rw [g1]; exact Nat.le_trans (Nat.le_of_eq O0.1.symm) O0.2.1
  have sz_b1 : h0.size ≤ b1 := by rw [g1]; exact (Keep.refl h0 []).1
  have lt_a2_b1 : a2 < b1 := Nat.lt_of_lt_of_le lt_a2 sz_b1
  have lt_bA_b1 : bA < b1 := Nat.lt_of_lt_of_le lt_bA sz_b1
  have O2 := O0.ext E1
  have kp3 : Keep h0 h1 [] := (Keep.refl h0 []).ext E1
  have F_value_b1 : Fld Z h1 b1 "java/lang/String" "value" "[B" .null := D1 (Or.inr (tw hw 21 rfl)) (ty := (.array .byte)) (by decide)
  have F_coder_b1 : Fld Z h1 b1 "java/lang/String" "coder" "B" (.int (0 : Int32)) := D1 (Or.inr (tw hw 22 rfl)) (ty := .byte) (by decide)
  obtain ⟨_, T4, Lc4, X4, hQ4, st4⟩ := own_ic X1 hx hZ (y := Y_30) rfl hown (tw hw 135 rfl) (tw hw 136 rfl) (by decide) (rs_iy1 l Z a0 hw [] G1 Fm b1 a2 bA kA LB cs h1 n0 O2 ST A1 F_value_b1 F_coder_b1 g_b1 ⟨(Es.ext E1), (Fv.ext E1), (Fc.ext E1), (Fn.ext E1), (Fy.ext E1), (Eb.ext E1), hL, tl, ⟨(Vs.ext E1), ls⟩⟩ hnn) (tw hw 137 rfl) (tw hw 7 rfl) e1 (W := 1) (by decide) (by decide) (Ls := (q_1 a2)) (by rw [hml]; rfl) (b := b1) (argsL := [(.ref a2)]) (rest := [(.ref b1)]) (lenOf pd33 rfl) (Nat.le_of_eq rfl) (hb hby d21_5) rfl (by decide) (by decide)
  obtain ⟨h4, e4⟩ : ∃ z, T4.heap = z := ⟨_, rfl⟩
  rw [e4] at hQ4
  obtain ⟨rfl, Nq4, K4, bb, kb, szb, HX⟩ := hQ4
  have N4 := Fr.app N0 Nq4
  have O5 := O2.keep K4 (allS g_b1 all0)
  have kp6 : Keep h0 h4 [] := kp3.trans K4 (allS (Or.inr sz_b1) all0)
  have szb' := Nat.le_trans kp3.1 szb
  obtain ⟨fs, hr, hrun, hended, hW, hsame⟩ := X4.leave (v := some (.ref b1)) (fun h => by rw [Bd.returns] at h; cases h)
  refine ⟨_, _, castTop (ef_rb_ts1 m a2) ?_, hrun, hended, _, _, rfl, ?_, ⟨_, rfl⟩, hW, hsame.mono (by decide) (by decide)⟩
  · refine st1 _ ?_
    show Go p e below T1 m 3 (q_1 a2) [(.ref b1)] _
    refine XS.dup X1.here hx rfl (hb hby d21_3) rfl rfl ?_
    refine XS.aloadN X1.here hx rfl (hb hby d21_4) rfl rfl ?_
    refine st4 _ ?_
    show Go p e below T4 m 8 (q_1 a2) [(.ref b1)] _
    exact retOut X4 hx Bd.returns rfl (Or.inr (Or.inr (Or.inr (Or.inr ⟨rfl, rfl, rfl⟩)))) (hb hby d21_8) hr
  · show Qs Z cs h0 n0 _ T4.heap _
    rw [e4]
    exact ⟨b1, bb, kb, rfl, N4, kp6, sz_b1, szb', HX⟩
theorem rs_len (l : Launch) (Z : State) (a0 : Array Value) (hw : Hw a0 Z) (ws : List Jvm.Cond) (G1 : Int32) (Fm : Value) (a1 : Addr) (bA : Addr) (kA : ClassId) (cs : List UInt16) (h0 : Heap) (n0 : Nat) (O0 : Old Z n0 h0) (ST : Stc Z G1 Fm) (HS : Strx Z h0 a1 bA kA cs) (hc : cs.length ≤ 120) :
    Met l Z h0 ws Y_2 jdk_42_method_54_code 1 (some .int) R_3 #[(.ref a1)] (Qpure (some (.int (Int32.ofNat cs.length))) h0 n0) := by
  rcases HS with HS | HS
  · exact rs_len0 l Z a0 hw ws G1 Fm a1 bA kA cs h0 n0 O0 ST HS hc
  · exact rs_len1 l Z a0 hw ws G1 Fm a1 bA kA cs h0 n0 O0 ST HS hc
theorem rs_ch (l : Launch) (Z : State) (a0 : Array Value) (hw : Hw a0 Z) (ws : List Jvm.Cond) (G1 : Int32) (Fm : Value) (a1 : Addr) (bA : Addr) (kA : ClassId) (cs : List UInt16) (i1 : Nat) (h0 : Heap) (n0 : Nat) (O0 : Old Z n0 h0) (ST : Stc Z G1 Fm) (HS : Strx Z h0 a1 bA kA cs) (hc : cs.length ≤ 120) (hi : i1 < cs.length) :
    Met l Z h0 ws Y_0 jdk_42_method_56_code 2 (some .char) R_11 #[(.ref a1), (.int (Int32.ofNat i1))] (Qpure (some (.int (cv (cs.getD i1 0)))) h0 n0) := by
  rcases HS with HS | HS
  · exact rs_ch0 l Z a0 hw ws G1 Fm a1 bA kA cs i1 h0 n0 O0 ST HS hc hi
  · exact rs_ch1 l Z a0 hw ws G1 Fm a1 bA kA cs i1 h0 n0 O0 ST HS hc hi
theorem rs_vo (l : Launch) (Z : State) (a0 : Array Value) (hw : Hw a0 Z) (ws : List Jvm.Cond) (G1 : Int32) (Fm : Value) (u : UInt16) (h0 : Heap) (n0 : Nat) (O0 : Old Z n0 h0) (ST : Stc Z G1 Fm) :
    Met l Z h0 ws Y_22 jdk_42_method_139_code 1 (some (.object "java/lang/String")) R_12 #[(.int (cv u))] (Qs Z [u] h0 n0) := by
  by_cases hu : (255 : Int32) < cv u
  · exact rs_vo1 l Z a0 hw ws G1 Fm u h0 n0 O0 ST hu
  · exact rs_vo0 l Z a0 hw ws G1 Fm u h0 n0 O0 ST hu
theorem rs_i (l : Launch) (Z : State) (a0 : Array Value) (hw : Hw a0 Z) (ws : List Jvm.Cond) (G1 : Int32) (Fm : Value) (a1 : Addr) (a2 : Addr) (kA : ClassId) (cs : List UInt16) (h0 : Heap) (n0 : Nat) (O0 : Old Z n0 h0) (ST : Stc Z G1 Fm) (E_a : Exa Z h0 a1 "java/lang/String") (F_v : Fld Z h0 a1 "java/lang/String" "value" "[B" .null) (F_c : Fld Z h0 a1 "java/lang/String" "coder" "B" (.int (0 : Int32))) (g_a1 : n0 ≤ a1) (C2 : Car Z h0 a2 kA cs.length cs) (hne : a1 ≠ a2) (hc : cs.length ≤ 120) (h1 : 1 ≤ cs.length) :
    Met l Z h0 ws Y_11 jdk_42_method_3_code 2 none R_13 #[(.ref a1), (.ref a2)] (Qst Z a1 cs h0 n0) := by
  by_cases hu : ∀ u ∈ cs, u < 256
  · exact rs_iA l Z a0 hw ws G1 Fm a1 a2 kA cs h0 n0 O0 ST E_a F_v F_c g_a1 C2 hne hc h1 hu
  · obtain ⟨nF, hN, hu1, hu2⟩ := own_first cs hu
    exact rs_iB l Z a0 hw ws G1 Fm a1 a2 kA cs nF h0 n0 O0 ST E_a F_v F_c g_a1 C2 hne hc h1 hN hu1 hu2
theorem rb_ap (l : Launch) (Z : State) (a0 : Array Value) (hw : Hw a0 Z) (ws : List Jvm.Cond) (G1 : Int32) (Fm : Value) (a1 : Addr) (bA : Addr) (kA : ClassId) (LB : Nat) (cs : List UInt16) (a2 : Addr) (bS : Addr) (kS : ClassId) (ds : List UInt16) (h0 : Heap) (n0 : Nat) (O0 : Old Z n0 h0) (ST : Stc Z G1 Fm) (HB : Sbx Z h0 a1 bA kA LB cs.length cs) (hnn : cs.length ≤ 120) (g_a1 : n0 ≤ a1) (g_bA : n0 ≤ bA) (HS : Strx Z h0 a2 bS kS ds) (hds : ds.length ≤ 120) (htot : cs.length + ds.length ≤ 120) (nSb : bS ≠ bA) :
    Met l Z h0 ws Y_3 jdk_67_method_7_code 2 (some (.object "java/lang/StringBuilder")) R_4 #[(.ref a1), (.ref a2)] (Qsv (fun h b k LB' => Sbx Z h a1 b k LB' (cs ++ ds).length (cs ++ ds)) (some (.ref a1)) a1 bA h0 n0) := by
  rcases HB with HB | HB <;> rcases HS with HS | HS
  · exact rb_ap00 l Z a0 hw ws G1 Fm a1 bA kA LB cs a2 bS kS ds h0 n0 O0 ST HB hnn g_a1 g_bA HS hds htot nSb
  · exact rb_ap01 l Z a0 hw ws G1 Fm a1 bA kA LB cs a2 bS kS ds h0 n0 O0 ST HB hnn g_a1 g_bA HS hds htot nSb
  · exact rb_ap10 l Z a0 hw ws G1 Fm a1 bA kA LB cs a2 bS kS ds h0 n0 O0 ST HB hnn g_a1 g_bA HS hds htot nSb
  · exact rb_ap11 l Z a0 hw ws G1 Fm a1 bA kA LB cs a2 bS kS ds h0 n0 O0 ST HB hnn g_a1 g_bA HS hds htot nSb
theorem rb_ts (l : Launch) (Z : State) (a0 : Array Value) (hw : Hw a0 Z) (ws : List Jvm.Cond) (G1 : Int32) (Fm : Value) (a2 : Addr) (bA : Addr) (kA : ClassId) (LB : Nat) (cs : List UInt16) (h0 : Heap) (n0 : Nat) (O0 : Old Z n0 h0) (ST : Stc Z G1 Fm) (HB : Sbx Z h0 a2 bA kA LB cs.length cs) (hnn : cs.length ≤ 120) :
    Met l Z h0 ws Y_18 jdk_67_method_42_code 1 (some (.object "java/lang/String")) R_15 #[(.ref a2)] (Qs Z cs h0 n0) := by
  rcases HB with HB | HB
  · exact rb_ts0 l Z a0 hw ws G1 Fm a2 bA kA LB cs h0 n0 O0 ST HB hnn
  · exact rb_ts1 l Z a0 hw ws G1 Fm a2 bA kA LB cs h0 n0 O0 ST HB hnn
theorem own_safeN {Z : State} {EL : List (String × Nat)} {vm : Vm} {h : Heap} {x : Addr} (hal : Z.vm.Alike vm) (E : Exa Z h x "java/lang/String") (F : Fld Z h x "java/lang/String" "value" "[B" .null) : Safe Z EL vm h x := fun B => by
  obtain ⟨p, -, u, a, -, q, -, G, rfl | rfl⟩ := B
  · obtain ⟨cell, cf, k, i, f, e1, e2, e3, e4, e5, e6, e7⟩ := F
    cases (show h[q.sa]? = some q.sC from G.ha).symm.trans e1
    obtain ⟨cS, ⟨⟨s1, s2, s3, ⟨cv, kv, iv, s4, s4'⟩, -, s6, s7, s8, -⟩, -⟩, -⟩ := G
    obtain ⟨kv', z4⟩ := ff_back (U := Wst Z vm h) hal s4
    have q4 := z4.symm.trans e2
    simp only [Option.some.injEq, Prod.mk.injEq] at q4
    obtain ⟨-, -, -, rfl⟩ := q4
    rw [s8] at e7
    cases e7
  · obtain ⟨cell, k, e1, e2, e3, -, -⟩ := E
    cases (show h[q.sd]? = some q.SA from G.hd).symm.trans e1
    obtain ⟨cS, -, -, f, -⟩ := G
    have f : vm.findClass "[B" = some q.SA.cls := f
    rw [hal.findClass] at f
    obtain ⟨k1, q1, q2⟩ := Vm.findClass_spec f
    obtain ⟨k2, q3, q4⟩ := Vm.findClass_spec e2
    cases q1.symm.trans q3
    exact absurd (q2.symm.trans q4) (by decide)
abbrev EL0 : List (String × Nat) := consts_1
def Qsu (Z : State) (a : Addr) (cs : List UInt16) (h0 : Heap) (n0 : Nat) (v : Option Value) (h : Heap) (Lc : List Loc) : Prop := v = none ∧ Fr n0 Lc ∧ Keep h0 h [a] ∧ ∃ (b : Addr) (k : ClassId), Strx Z h a b k cs
def Qt (Z : State) (cs : List UInt16) (h0 : Heap) (n0 : Nat) (v : Option Value) (h : Heap) (Lc : List Loc) : Prop := ∃ (a b : Addr) (k : ClassId), v = some (.ref a) ∧ Fr n0 Lc ∧ Keep h0 h [] ∧ h0.size ≤ a ∧ Strx Z h a b k cs
def TE : List UInt16 := []
def TA : List UInt16 := [116, 104, 101, 32, 114, 101, 99, 111, 114, 100, 32, 111, 102, 32]
def TB : List UInt16 := [32, 105, 110, 32, 82, 101, 100, 105, 115, 32, 119, 97, 115, 32, 110, 111, 32, 108, 111, 110, 103, 101, 114, 32, 116, 104, 105, 115, 32, 104, 111, 108, 100, 101, 114, 39, 115, 32]
def TC : List UInt16 := [58, 32, 105, 116, 32, 104, 97, 100, 32, 101, 120, 112, 105, 114, 101, 100, 44, 32, 111, 114, 32, 119, 97, 115, 32, 100, 101, 108, 101, 116, 101, 100, 32, 111, 114, 32, 114, 101, 112, 108, 97, 99, 101, 100, 32, 98, 121, 32, 115, 111, 109, 101, 111, 110, 101, 32, 101, 108, 115, 101]
theorem own_wS {Z : State} {a0 : Array Value} (hw : Hw a0 Z) : ∀ d ∈ Bundle.stringAtoms, d.before a0 Z = true := by
  intro d hd
  simp only [Bundle.stringAtoms, List.mem_cons, List.not_mem_nil, or_false] at hd
  rcases hd with rfl | rfl | rfl | rfl | rfl | rfl | rfl
  · exact (tw hw 7 rfl)
  · exact (tw hw 6 rfl)
  · exact (tw hw 20 rfl)
  · exact (tw hw 21 rfl)
  · exact (tw hw 22 rfl)
  · exact (tw hw 23 rfl)
  · exact (tw hw 24 rfl)
theorem own_EW {Z : State} {a0 : Array Value} (hw : Hw a0 Z) : EW Z a0 EL0 := by
  unfold EL0 consts_1
  exact EW.cons (tw hw 65 rfl) (by decide) (EW.cons (tw hw 104 rfl) (by decide) (EW.cons (tw hw 128 rfl) (by decide) (EW.cons (tw hw 27 rfl) (by decide) (EW.cons (tw hw 39 rfl) (by decide) (EW.cons (tw hw 40 rfl) (by decide) (EW.cons (tw hw 19 rfl) (by decide) (EW.nil)))))))
theorem d3_8 : Dc cb28 8 (.aload_n 0) 1 := by decide +kernel
theorem d3_9 : Dc cb28 9 (.ldc 7) 2 := by decide +kernel
theorem d3_11 : Dc cb28 11 (.getfield 9) 3 := by decide +kernel
theorem d3_14 : Dc cb28 14 (.putfield 9) 3 := by decide +kernel
theorem d3_17 : Dc cb28 17 (.aload_n 0) 1 := by decide +kernel
theorem d3_18 : Dc cb28 18 (.ldc 7) 2 := by decide +kernel
theorem d3_20 : Dc cb28 20 (.getfield 15) 3 := by decide +kernel
theorem d3_23 : Dc cb28 23 (.putfield 15) 3 := by decide +kernel
theorem d3_26 : Dc cb28 26 .return_ 1 := by decide +kernel
theorem ef_rs_ic0 (m : MethodId) (x0 : Addr) (x1 : Addr) (x2 : Int32) (x3 : Int32) : entryFrame m #[(.ref x0), (.ref x1), (.int x2), (.int x3), .null] 6 = mkF m 0 #[.val (.ref x0), .val (.ref x1), .val (.int x2), .val (.int x3), .val .null, .unset] [] := by first | (simp [entryFrame, mkF, argsToLocals, Value.category]; done) | rfl
set_option maxRecDepth 65536 in
set_option maxHeartbeats 40000000 in
theorem rs_ic0 (l : Launch) (Z : State) (a0 : Array Value) (hw : Hw a0 Z) (ws : List Jvm.Cond) (G1 : Int32) (Fm : Value) (a1 : Addr) (a2 : Addr) (kA : ClassId) (h0 : Heap) (n0 : Nat) (O0 : Old Z n0 h0) (ST : Stc Z G1 Fm) (E_a : Exa Z h0 a1 "java/lang/String") (F_v : Fld Z h0 a1 "java/lang/String" "value" "[B" .null) (F_c : Fld Z h0 a1 "java/lang/String" "coder" "B" (.int (0 : Int32))) (g_a1 : n0 ≤ a1) (C2 : Arv Z h0 a2 kA .char (0 : Int32) [] (.int (0 : Int32))) :
    MetFree l Y_10 (head1 (Jvm.Cond.code Y_10 jdk_42_method_149_code 6 none :: ws) R_5) (fun a U => a = #[(.ref a1), (.ref a2), (.int (0 : Int32)), (.int (0 : Int32)), .null] ∧ Z.Warmed39 U.vm ∧ U.heap = h0 ∧ CHv Z EL0 U.vm h0) (fun _ _ _ _ _ => True) (fun _ U o U' => ∃ v L, o = .returned v ∧ Qsu Z a1 [] h0 n0 v U'.heap L ∧ CHr Z EL0 U.vm U.heap U'.vm U'.heap ∧ ReturnedEndW U o U' L R_5.cells R_5.slots) := by
  refine MetFree.of_bodySF (plainFor_of_name pn2) hisR ?_
  intro p e s m args below meth c s₁ Bd hml0 hP hK
  obtain ⟨rfl, hZ, hh, H0⟩ := hP
  have hx := Bd.exec
  have hby := Bd.bytes
  have hml : c.maxLocals = 6 := hml0
  have hown : s.vm.findClass "java/lang/String" = some m.cls := findClass_of_methodNamed Bd.named
  have hnm := (name_of_methodNamed Bd.named Bd.method).1
  have X0 : Stand p l e R_5 s m #[(.ref a1), (.ref a2), (.int (0 : Int32)), (.int (0 : Int32)), .null] below meth c s₁ [] 0 0 := Stand.of_body Bd
  have e0 : s₁.heap = h0 := by rw [← hh, Bd.state]; rfl
  have N0 := Fr.nil n0
  have X0 : Stand p l e R_5 (s.setVm s.vm) m #[(.ref a1), (.ref a2), (.int (0 : Int32)), (.int (0 : Int32)), .null] below meth c s₁ [] 0 0 := X0
  have hZ : Z.Warmed39 (s.setVm s.vm).vm := hZ
  have hown : (s.setVm s.vm).vm.findClass "java/lang/String" = some m.cls := hown
  have hS : s.Since s.vm 0 := (State.WarmedH.refl s).since 0
  have hk : 0 ≤ h0.size := Nat.zero_le _
  have CH0 := CHr.refl H0
  obtain ⟨S_cs, hG, S_fm, hF, S_ad, S_hi, S_lo⟩ := id ST
  have lt_a1 := E_a.lt
  have n_12 : a1 ≠ a2 := Exa.neArv E_a C2 (tw hw 6 rfl)
  have sf_a1 : Safe Z EL0 s.vm h0 a1 := own_safeN hZ.alike E_a F_v
  obtain ⟨T1, X1, e1, st1⟩ := initO X0 hx hZ hown (tw hw 16 rfl) (tw hw 17 rfl) (tw hw 18 rfl) e0 (g := (mkF m 1 (q_15 a1 a2) [(.ref a1)])) rfl (by rw [hml]; rfl) rfl (hb hby d3_1) (by decide) (W := 0) (by show 2 * 0 + _ ≤ _; exact Nat.le_of_eq rfl) (by decide)
  have pf2 : ∀ target, Go p e below T1 m 9 (q_15 a1 a2) [(.ref a1)] target → Go p e below s₁ m 0 (q_15 a1 a2) [] target := by
    intro target k
    show Go p e below s₁ m 0 (q_15 a1 a2) [] _
    refine XS.aloadN X0.here hx rfl (hb hby d3_0) rfl rfl ?_
    refine st1 _ ?_
    show Go p e below T1 m 4 (q_15 a1 a2) [] _
    refine XS.iloadN X1.here hx rfl (hb hby d3_4) rfl ?_
    refine XS.ifNo X1.here hx rfl (hb hby d3_5) rfl ((if0 _ _).trans (teq (by decide)).2) ?_
    refine XS.aloadN X1.here hx rfl (hb hby d3_8) rfl rfl ?_
    exact k
  obtain ⟨la3, T3, h3, k1_3, lc3, kc3, X3, e3, E3, hS, hk, hZ, hown, Ea3, Fc3, Fv3, Va3, lt_la3, lt_lc3, cs3, Li3, ne3, st3⟩ := ldcCH X1 hx hZ hown (tw hw 19 rfl) (own_wS hw) e1 hS hk (own_EW hw) (by decide) H0 (vs := ((TE.map cLo).map Value.int)) (z := Int32.ofNat TE.length) (by decide +kernel) (by decide) (by decide) (g := (mkF m 9 (q_15 a1 a2) [(.ref a1)])) rfl (hb hby d3_9) (n := 0) (by decide) (by decide) (by decide) (by decide)
  have O4 := O0.ext E3
  have kp5 : Keep h0 h3 [a1] := (Keep.refl h0 [a1]).ext E3
  have ch6 := cs3
  have sf6_a1 := ch6.safe E_a.lt sf_a1
  have CH6 := CHr.trans CH0 ch6
  obtain ⟨T7, X7, e7, st7⟩ := getF X3 hx hZ hown (host := "") (Or.inl (tw hw 25 rfl)) Via.refl e3 Fv3 (g := (mkF m 11 (q_15 a1 a2) [(.ref la3), (.ref a1)])) rfl rfl (hb hby d3_11)
  obtain ⟨T8, h8, X8, e8, W8, st8⟩ := putF X7 hx hZ hown (host := "") (Or.inl (tw hw 25 rfl)) Via.refl e7 (F_v.ext E3) (E_a.ext E3) (Or.inr ⟨(tw hw 21 rfl), rfl, hnm⟩) (tw hw 6 rfl) (ty := (.array .byte)) (by decide) rfl rfl (g := (mkF m 14 (q_15 a1 a2) [(.ref lc3), (.ref a1)])) rfl rfl (hb hby d3_14)
  have Fw8 := (F_v.ext E3).same W8
  have O9 := O4.wr W8 g_a1
  have kp10 : Keep h0 h8 [a1] := kp5.wr W8 (Or.inl (List.mem_of_getElem? (i := 0) rfl))
  have ch11 := CHr.wr W8 sf6_a1 ch6.1
  have sf11_a1 := Safe.wr W8 sf6_a1 ch6.1 sf6_a1
  have CH11 := CHr.trans CH6 ch11
  have hk := Nat.le_trans hk ch11.2.1
  have N8 := Fr.snoc X8 N0 g_a1
  have pf12 : ∀ target, Go p e below T8 m 18 (q_15 a1 a2) [(.ref a1)] target → Go p e below T1 m 9 (q_15 a1 a2) [(.ref a1)] target := by
    intro target k
    refine st3 _ ?_
    refine st7 _ ?_
    refine st8 _ ?_
    show Go p e below T8 m 17 (q_15 a1 a2) [] _
    refine XS.aloadN X8.here hx rfl (hb hby d3_17) rfl rfl ?_
    exact k
  obtain ⟨la13, T13, h13, k1_13, lc13, kc13, X13, e13, E13, hS, hk, hZ, hown, Ea13, Fc13, Fv13, Va13, lt_la13, lt_lc13, cs13, Li13, ne13, st13⟩ := ldcCH X8 hx hZ hown (tw hw 19 rfl) (own_wS hw) e8 hS hk (own_EW hw) (by decide) ch11.1 (vs := ((TE.map cLo).map Value.int)) (z := Int32.ofNat TE.length) (by decide +kernel) (by decide) (by decide) (g := (mkF m 18 (q_15 a1 a2) [(.ref a1)])) rfl (hb hby d3_18) (n := 0) (by decide) (by decide) (by decide) (by decide)
  have O14 := O9.ext E13
  have kp15 : Keep h0 h13 [a1] := kp10.ext E13
  have ch16 := cs13
  have sf16_a1 := ch16.safe ((E_a.ext E3).wr W8).lt sf11_a1
  have CH16 := CHr.trans CH11 ch16
  obtain ⟨T17, X17, e17, st17⟩ := getF X13 hx hZ hown (host := "") (Or.inl (tw hw 26 rfl)) Via.refl e13 Fc13 (g := (mkF m 20 (q_15 a1 a2) [(.ref la13), (.ref a1)])) rfl rfl (hb hby d3_20)
  obtain ⟨T18, h18, X18, e18, W18, st18⟩ := putFN X17 hx hZ hown (tw hw 26 rfl) Via.refl e17 (((F_c.ext E3).other W8 (Or.inr (slot_ne (Or.inr (tw hw 22 rfl)) (Or.inr (tw hw 21 rfl)) (by decide) (t := .byte) (t' := (.array .byte)) (by decide) (by decide)))).ext E13) (((E_a.ext E3).wr W8).ext E13) (Or.inr ⟨(tw hw 22 rfl), rfl, hnm⟩) (tw hw 6 rfl) (ty := .byte) (v' := (.int (0 : Int32))) (by decide) rfl rfl (g := (mkF m 23 (q_15 a1 a2) [(.int (0 : Int32)), (.ref a1)])) rfl rfl (hb hby d3_23)
  have Fw18 := (((F_c.ext E3).other W8 (Or.inr (slot_ne (Or.inr (tw hw 22 rfl)) (Or.inr (tw hw 21 rfl)) (by decide) (t := .byte) (t' := (.array .byte)) (by decide) (by decide)))).ext E13).same W18
  have O19 := O14.wr W18 g_a1
  have kp20 : Keep h0 h18 [a1] := kp15.wr W18 (Or.inl (List.mem_of_getElem? (i := 0) rfl))
  have ch21 := CHr.wr W18 sf16_a1 ch16.1
  have sf21_a1 := Safe.wr W18 sf16_a1 ch16.1 sf16_a1
  have CH21 := CHr.trans CH16 ch21
  have hk := Nat.le_trans hk ch21.2.1
  have N18 := Fr.snoc X18 N8 g_a1
  obtain ⟨fs, hr, hrun, hended, hEnd⟩ := (X18.mono (by decide : _ ≤ R_5.cells) (by decide : _ ≤ R_5.slots)).leaveW hS (by rw [e18]; exact hk) (v := none) (fun _ => rfl)
  have CE := CHr.trans CH21 (CHv.at X18 hZ (own_EW hw) ch21.1)
  refine ⟨_, _, castTop (ef_rs_ic0 m a1 a2 (0 : Int32) (0 : Int32)) ?_, hrun, hended, _, _, rfl, ?_, ?_, hEnd⟩
  · refine pf2 _ ?_
    refine pf12 _ ?_
    refine st13 _ ?_
    refine st17 _ ?_
    refine st18 _ ?_
    show Go p e below T18 m 26 (q_15 a1 a2) [] _
    exact X18.returnOut hx Bd.returns (hb hby d3_26) hr
  · show Qsu Z a1 [] h0 n0 _ T18.heap _
    rw [e18]
    exact ⟨rfl, N18, kp20, lc3, _, Or.inl ⟨((((E_a.ext E3).wr W8).ext E13).wr W18), Fw18, ((Fw8.ext E13).other W18 (Or.inr (slot_ne (Or.inr (tw hw 21 rfl)) (Or.inr (tw hw 22 rfl)) (by decide) (t := (.array .byte)) (t' := .byte) (by decide) (by decide)))), ⟨(((Va3.other W8 (Ne.symm (ne3 _ sf6_a1).2)).ext E13).other W18 (Ne.symm (ne3 _ sf6_a1).2)), rfl⟩, fun _ q => nomatch q⟩⟩
  · show CHr Z EL0 s.vm s.heap T18.vm T18.heap
    rw [e18, hh]; exact CE
theorem ef_rs_i0 (m : MethodId) (x0 : Addr) (x1 : Addr) : entryFrame m #[(.ref x0), (.ref x1)] 2 = mkF m 0 #[.val (.ref x0), .val (.ref x1)] [] := by first | (simp [entryFrame, mkF, argsToLocals, Value.category]; done) | rfl
set_option maxRecDepth 65536 in
set_option maxHeartbeats 40000000 in
theorem rs_i0 (l : Launch) (Z : State) (a0 : Array Value) (hw : Hw a0 Z) (ws : List Jvm.Cond) (G1 : Int32) (Fm : Value) (a1 : Addr) (a2 : Addr) (kA : ClassId) (h0 : Heap) (n0 : Nat) (O0 : Old Z n0 h0) (ST : Stc Z G1 Fm) (E_a : Exa Z h0 a1 "java/lang/String") (F_v : Fld Z h0 a1 "java/lang/String" "value" "[B" .null) (F_c : Fld Z h0 a1 "java/lang/String" "coder" "B" (.int (0 : Int32))) (g_a1 : n0 ≤ a1) (C2 : Arv Z h0 a2 kA .char (0 : Int32) [] (.int (0 : Int32))) :
    MetFree l Y_11 (head1 (Jvm.Cond.code Y_11 jdk_42_method_3_code 2 none :: ws) R_6) (fun a U => a = #[(.ref a1), (.ref a2)] ∧ Z.Warmed39 U.vm ∧ U.heap = h0 ∧ CHv Z EL0 U.vm h0) (fun _ _ _ _ _ => True) (fun _ U o U' => ∃ v L, o = .returned v ∧ Qsu Z a1 [] h0 n0 v U'.heap L ∧ CHr Z EL0 U.vm U.heap U'.vm U'.heap ∧ ReturnedEndW U o U' L R_6.cells R_6.slots) := by
  refine MetFree.of_bodySF (plainFor_of_name pn2) hisR ?_
  intro p e s m args below meth c s₁ Bd hml0 hP hK
  obtain ⟨rfl, hZ, hh, H0⟩ := hP
  have hx := Bd.exec
  have hby := Bd.bytes
  have hml : c.maxLocals = 2 := hml0
  have hown : s.vm.findClass "java/lang/String" = some m.cls := findClass_of_methodNamed Bd.named
  have hnm := (name_of_methodNamed Bd.named Bd.method).1
  have X0 : Stand p l e R_6 s m #[(.ref a1), (.ref a2)] below meth c s₁ [] 0 0 := Stand.of_body Bd
  have e0 : s₁.heap = h0 := by rw [← hh, Bd.state]; rfl
  have N0 := Fr.nil n0
  have X0 : Stand p l e R_6 (s.setVm s.vm) m #[(.ref a1), (.ref a2)] below meth c s₁ [] 0 0 := X0
  have hZ : Z.Warmed39 (s.setVm s.vm).vm := hZ
  have hown : (s.setVm s.vm).vm.findClass "java/lang/String" = some m.cls := hown
  have hS : s.Since s.vm 0 := (State.WarmedH.refl s).since 0
  have hk : 0 ≤ h0.size := Nat.zero_le _
  have CH0 := CHr.refl H0
  obtain ⟨S_cs, hG, S_fm, hF, S_ad, S_hi, S_lo⟩ := id ST
  have lt_a1 := E_a.lt
  have n_12 : a1 ≠ a2 := Exa.neArv E_a C2 (tw hw 6 rfl)
  have sf_a1 : Safe Z EL0 s.vm h0 a1 := own_safeN hZ.alike E_a F_v
  obtain ⟨cl1, Ar1, q1, Sz1, Nn1, Ha1, Gf1⟩ := id C2
  have pf2 : ∀ target, Go p e below s₁ m 6 (q_0 a1 a2) [.null, (.int (0 : Int32)), (.int (0 : Int32)), (.ref a2), (.ref a1)] target → Go p e below s₁ m 0 (q_0 a1 a2) [] target := by
    intro target k
    show Go p e below s₁ m 0 (q_0 a1 a2) [] _
    refine XS.aloadN X0.here hx rfl (hb hby d2_0) rfl rfl ?_
    refine XS.aloadN X0.here hx rfl (hb hby d2_1) rfl rfl ?_
    refine XS.iconst X0.here hx rfl (hb hby d2_2) ?_
    refine XS.aloadN X0.here hx rfl (hb hby d2_3) rfl rfl ?_
    show Go p e below s₁ m 4 (q_0 a1 a2) [(.ref a2), (.int (0 : Int32)), (.ref a2), (.ref a1)] _
    refine X0.arraylength hx (by rw [e0]; exact Ar1.1) (State.isArrayOf_alike hZ.alike Ar1.2.1) (g := (mkF m 4 (q_0 a1 a2) [(.ref a2), (.int (0 : Int32)), (.ref a2), (.ref a1)])) rfl rfl (hb hby d2_4) _ ?_
    rw [len_of Sz1 Nn1]
    show Go p e below s₁ m 5 (q_0 a1 a2) [(.int (0 : Int32)), (.int (0 : Int32)), (.ref a2), (.ref a1)] _
    refine XS.aconstNull X0.here hx rfl (hb hby d2_5) ?_
    exact k
  obtain ⟨_, _, ⟨T3, L3, k3, n3⟩, -, X3, hS3, hg3, ⟨Lc3, hQ3, l3, y3, z3, cs3⟩, st3⟩ := X0.specialBackS hx (y := Y_10) rfl hown (mvT hZ (tw hw 12 rfl)) (mvT hZ (tw hw 13 rfl)) (mvT hZ (tw hw 15 rfl)) (by decide) (backOfSH (W := 0) (rs_ic0 l Z a0 hw [] G1 Fm a1 a2 kA h0 n0 O0 ST E_a F_v F_c g_a1 C2) hZ (tw hw 15 rfl) (tw hw 7 rfl) (by decide) (by decide) (own_EW hw) H0) (g := (mkF m 6 (q_0 a1 a2) [.null, (.int (0 : Int32)), (.int (0 : Int32)), (.ref a2), (.ref a1)])) rfl (by rw [hml]; rfl) (Steps.refl _) (a := a1) (argsL := [(.ref a2), (.int (0 : Int32)), (.int (0 : Int32)), .null]) (rest := []) (lenOf pd20 rfl) rfl (by show 2 * 0 + _ ≤ _; exact Nat.le_of_eq rfl) (hb hby d2_6) (fun _ _ => ⟨rfl, e0, (by decide : 0 + 4 ≤ _), (by decide : 0 + 8 ≤ _)⟩)
  dsimp only [Pt.U, Pt.locs, Pt.cells, Pt.slots] at X3 l3 y3 z3 st3 hQ3 cs3 hS3 hg3
  subst l3 y3 z3
  obtain ⟨X3, hS, hZ, hown⟩ := rebS hS (by rw [e0]; exact hk) X3 hS3 hg3 hZ hown
  obtain ⟨h3, e3⟩ : ∃ z, T3.heap = z := ⟨_, rfl⟩
  rw [e3] at hQ3 cs3 hS
  have hk : h3.size ≤ h3.size := Nat.le_refl _
  obtain ⟨rfl, Nq3, K3, R3⟩ := hQ3
  have N3 := Fr.app N0 Nq3
  have O4 := O0.keep K3 (allS g_a1 all0)
  have kp5 : Keep h0 h3 [a1] := (Keep.refl h0 [a1]).trans K3 (allS (Or.inl (List.mem_of_getElem? (i := 0) rfl)) all0)
  have ch6 := cs3
  have sf6_a1 := ch6.safe E_a.lt sf_a1
  have CH6 := CHr.trans CH0 ch6
  have RR := R3
  obtain ⟨fs, hr, hrun, hended, hEnd⟩ := (X3.mono (by decide : _ ≤ R_6.cells) (by decide : _ ≤ R_6.slots)).leaveW hS (by rw [e3]; exact hk) (v := none) (fun _ => rfl)
  have CE := CHr.trans CH6 (CHv.at X3 hZ (own_EW hw) ch6.1)
  refine ⟨_, _, castTop (ef_rs_i0 m a1 a2) ?_, hrun, hended, _, _, rfl, ?_, ?_, hEnd⟩
  · refine pf2 _ ?_
    refine st3.trans ?_
    show Go p e below T3 m 9 (q_0 a1 a2) [] _
    exact X3.returnOut hx Bd.returns (hb hby d2_9) hr
  · show Qsu Z a1 [] h0 n0 _ T3.heap _
    rw [e3]
    exact ⟨rfl, N3, kp5, RR⟩
  · show CHr Z EL0 s.vm s.heap T3.vm T3.heap
    rw [e3, hh]; exact CE
def mkL : Nat → UInt16 → UInt16 → List UInt16
  | 0, _, _ => []
  | 1, u, _ => [u]
  | _, u, w => [u, w]
theorem pn8 : plainName "com/example/narrow_lease/narrowlease/LeaseLostExceptionRecordLostPinLaw" = true := by first | (simp [plainName, overriddenIn]; done) | decide +kernel
theorem d1_0 : Dc cb54 0 (.iload_n 0) 1 := by decide +kernel
theorem d1_1 : Dc cb54 1 (.ifCond .ne 14) 3 := by decide +kernel
theorem d1_4 : Dc cb54 4 (.new 7) 3 := by decide +kernel
theorem d1_7 : Dc cb54 7 .dup 1 := by decide +kernel
theorem d1_8 : Dc cb54 8 (.iconst 0) 1 := by decide +kernel
theorem d1_9 : Dc cb54 9 (.newarray .char) 2 := by decide +kernel
theorem d1_11 : Dc cb54 11 (.invokespecial 9) 3 := by decide +kernel
theorem pd34 : parseMethodDescriptor "([C)V" = some ⟨[(.array .char)], none⟩ := by decide +kernel
theorem d1_14 : Dc cb54 14 .areturn 1 := by decide +kernel
theorem d1_15 : Dc cb54 15 (.iload_n 0) 1 := by decide +kernel
theorem d1_16 : Dc cb54 16 (.iconst 1) 1 := by decide +kernel
theorem d1_17 : Dc cb54 17 (.if_icmp .ne 8) 3 := by decide +kernel
theorem d1_20 : Dc cb54 20 (.iload_n 1) 1 := by decide +kernel
theorem d1_21 : Dc cb54 21 (.invokestatic 12) 3 := by decide +kernel
theorem pd35 : parseMethodDescriptor "(C)Ljava/lang/String;" = some ⟨[.char], some (.object "java/lang/String")⟩ := by decide +kernel
theorem d1_24 : Dc cb54 24 .areturn 1 := by decide +kernel
theorem d1_25 : Dc cb54 25 (.new 7) 3 := by decide +kernel
theorem d1_28 : Dc cb54 28 .dup 1 := by decide +kernel
theorem d1_29 : Dc cb54 29 (.iconst 2) 1 := by decide +kernel
theorem d1_30 : Dc cb54 30 (.newarray .char) 2 := by decide +kernel
theorem d1_32 : Dc cb54 32 .dup 1 := by decide +kernel
theorem d1_33 : Dc cb54 33 (.iconst 0) 1 := by decide +kernel
theorem d1_34 : Dc cb54 34 (.iload_n 1) 1 := by decide +kernel
theorem d1_35 : Dc cb54 35 .castore 1 := by decide +kernel
theorem d1_36 : Dc cb54 36 .dup 1 := by decide +kernel
theorem d1_37 : Dc cb54 37 (.iconst 1) 1 := by decide +kernel
theorem d1_38 : Dc cb54 38 (.iload_n 2) 1 := by decide +kernel
theorem d1_39 : Dc cb54 39 .castore 1 := by decide +kernel
theorem d1_40 : Dc cb54 40 (.invokespecial 9) 3 := by decide +kernel
theorem d1_43 : Dc cb54 43 .areturn 1 := by decide +kernel
theorem ef_rk_0 (m : MethodId) (x0 : Int32) (x1 : Int32) (x2 : Int32) : entryFrame m #[(.int x0), (.int x1), (.int x2)] 3 = mkF m 0 #[.val (.int x0), .val (.int x1), .val (.int x2)] [] := by first | (simp [entryFrame, mkF, argsToLocals, Value.category]; done) | rfl
set_option maxRecDepth 65536 in
set_option maxHeartbeats 40000000 in
theorem rk_0 (l : Launch) (Z : State) (a0 : Array Value) (hw : Hw a0 Z) (ws : List Jvm.Cond) (G1 : Int32) (Fm : Value) (u : UInt16) (w : UInt16) (h0 : Heap) (n0 : Nat) (O0 : Old Z n0 h0) (ST : Stc Z G1 Fm) :
    MetFree l Y_6 (head1 (Jvm.Cond.code Y_6 method_2_code 3 (some (.object "java/lang/String")) :: ws) R_1) (fun a U => a = #[(.int (0 : Int32)), (.int (cv u)), (.int (cv w))] ∧ Z.Warmed39 U.vm ∧ U.heap = h0 ∧ CHv Z EL0 U.vm h0) (fun _ _ _ _ _ => True) (fun _ U o U' => ∃ v L, o = .returned v ∧ Qt Z (mkL 0 u w) h0 n0 v U'.heap L ∧ CHr Z EL0 U.vm U.heap U'.vm U'.heap ∧ ReturnedEndW U o U' L R_1.cells R_1.slots) := by
  refine MetFree.of_bodySF (plainFor_of_name pn8) hisR ?_
  intro p e s m args below meth c s₁ Bd hml0 hP hK
  obtain ⟨rfl, hZ, hh, H0⟩ := hP
  have hx := Bd.exec
  have hby := Bd.bytes
  have hml : c.maxLocals = 3 := hml0
  have hown : s.vm.findClass "com/example/narrow_lease/narrowlease/LeaseLostExceptionRecordLostPinLaw" = some m.cls := findClass_of_methodNamed Bd.named
  have hnm := (name_of_methodNamed Bd.named Bd.method).1
  have X0 : Stand p l e R_1 s m #[(.int (0 : Int32)), (.int (cv u)), (.int (cv w))] below meth c s₁ [] 0 0 := Stand.of_body Bd
  have e0 : s₁.heap = h0 := by rw [← hh, Bd.state]; rfl
  have N0 := Fr.nil n0
  have X0 : Stand p l e R_1 (s.setVm s.vm) m #[(.int (0 : Int32)), (.int (cv u)), (.int (cv w))] below meth c s₁ [] 0 0 := X0
  have hZ : Z.Warmed39 (s.setVm s.vm).vm := hZ
  have hown : (s.setVm s.vm).vm.findClass "com/example/narrow_lease/narrowlease/LeaseLostExceptionRecordLostPinLaw" = some m.cls := hown
  have hS : s.Since s.vm 0 := (State.WarmedH.refl s).since 0
  have hk : 0 ≤ h0.size := Nat.zero_le _
  have CH0 := CHr.refl H0
  obtain ⟨S_cs, hG, S_fm, hF, S_ad, S_hi, S_lo⟩ := id ST
  obtain ⟨T1, h1, X1, e1, E1, A1, D1, U1, st1⟩ := newO X0 hx hZ hown (tw hw 5 rfl) (tw hw 6 rfl) (tw hw 7 rfl) e0 (g := (mkF m 4 (q_34 u w) [])) rfl (hb hby d1_4) (by decide) (by decide)
  obtain ⟨b1, g1⟩ : ∃ z, z = h0.size := ⟨_, rfl⟩
  rw [← g1] at A1 D1 U1 st1
  have g_b1 : n0 ≤ b1 := by rw [g1]; exact Nat.le_trans (Nat.le_of_eq O0.1.symm) O0.2.1
  have sz_b1 : h0.size ≤ b1 := by rw [g1]; exact (Keep.refl h0 []).1
  have sf_b1 : Safe Z EL0 s.vm h0 b1 := Safe.new (Nat.le_of_eq g1.symm)
  have O2 := O0.ext E1
  have kp3 : Keep h0 h1 [] := (Keep.refl h0 []).ext E1
  have ch4 := CHr.ext E1 H0
  have sf4_b1 := Safe.ext E1 H0 sf_b1
  have CH4 := CHr.trans CH0 ch4
  have hk := Nat.le_trans hk ch4.2.1
  have F_value_b1 : Fld Z h1 b1 "java/lang/String" "value" "[B" .null := D1 (Or.inr (tw hw 21 rfl)) (ty := (.array .byte)) (by decide)
  have F_coder_b1 : Fld Z h1 b1 "java/lang/String" "coder" "B" (.int (0 : Int32)) := D1 (Or.inr (tw hw 22 rfl)) (ty := .byte) (by decide)
  obtain ⟨T5, h5, k5, X5, e5, E5, A5, st5⟩ := newP X1 hx hZ (tw hw 8 rfl) e1 (g := (mkF m 9 (q_34 u w) [(.int (0 : Int32)), (.ref b1), (.ref b1)])) rfl (hb hby d1_9) rfl (by decide) (cap := 0) (by decide) (by decide) (by decide) (by decide)
  obtain ⟨b5, g5⟩ : ∃ z, z = h1.size := ⟨_, rfl⟩
  rw [← g5] at A5 st5
  have g_b5 : n0 ≤ b5 := by rw [g5]; exact Nat.le_trans (Nat.le_of_eq O2.1.symm) O2.2.1
  have sz_b5 : h0.size ≤ b5 := by rw [g5]; exact kp3.1
  have lt_b1_b5 : b1 < b5 := by rw [g5]; exact A1.lt
  have sf_b5 : Safe Z EL0 s.vm h1 b5 := Safe.new (Nat.le_of_eq g5.symm)
  have O6 := O2.ext E5
  have kp7 : Keep h0 h5 [] := kp3.ext E5
  have ch8 := CHr.ext E5 ch4.1
  have sf8_b1 := Safe.ext E5 ch4.1 sf4_b1
  have sf8_b5 := Safe.ext E5 ch4.1 sf_b5
  have CH8 := CHr.trans CH4 ch8
  have hk := Nat.le_trans hk ch8.2.1
  have V_b5 : Arv Z h5 b5 k5 .char (0 : Int32) [] (.int (0 : Int32)) := (Arv.new A5 (by decide)).pad (pad_rep [] (.int (0 : Int32)) 0)
  have pf9 : ∀ target, Go p e below T5 m 11 (q_34 u w) [(.ref b5), (.ref b1), (.ref b1)] target → Go p e below s₁ m 0 (q_34 u w) [] target := by
    intro target k
    show Go p e below s₁ m 0 (q_34 u w) [] _
    refine XS.iloadN X0.here hx rfl (hb hby d1_0) rfl ?_
    refine XS.ifNo X0.here hx rfl (hb hby d1_1) rfl ((if0 _ _).trans (teq (by decide)).2) ?_
    refine st1 _ ?_
    show Go p e below T1 m 7 (q_34 u w) [(.ref b1)] _
    refine XS.dup X1.here hx rfl (hb hby d1_7) rfl rfl ?_
    refine XS.iconst X1.here hx rfl (hb hby d1_8) ?_
    refine st5 _ ?_
    exact k
  obtain ⟨_, _, ⟨T10, L10, k10, n10⟩, -, X10, hS10, hg10, ⟨Lc10, hQ10, l10, y10, z10, cs10⟩, st10⟩ := X5.specialBackS hx (y := Y_11) rfl hown (mvT hZ (tw hw 9 rfl)) (mvT hZ (tw hw 10 rfl)) (mvT hZ (tw hw 11 rfl)) (by decide) (backOfSH (W := 1) (rs_i0 l Z a0 hw [] G1 Fm b1 b5 k5 h5 n0 O6 ST (A1.ext E5) (F_value_b1.ext E5) (F_coder_b1.ext E5) g_b1 V_b5) hZ (tw hw 11 rfl) (tw hw 7 rfl) (by decide) (by decide) (own_EW hw) ch8.1) (g := (mkF m 11 (q_34 u w) [(.ref b5), (.ref b1), (.ref b1)])) rfl (by rw [hml]; rfl) (Steps.refl _) (a := b1) (argsL := [(.ref b5)]) (rest := [(.ref b1)]) (lenOf pd34 rfl) rfl (by show 2 * 0 + _ ≤ _; exact Nat.le_of_eq rfl) (hb hby d1_11) (fun _ _ => ⟨rfl, e5, (by decide : 2 + 4 ≤ _), (by decide : 4 + 8 ≤ _)⟩)
  dsimp only [Pt.U, Pt.locs, Pt.cells, Pt.slots] at X10 l10 y10 z10 st10 hQ10 cs10 hS10 hg10
  subst l10 y10 z10
  obtain ⟨X10, hS, hZ, hown⟩ := rebS hS (by rw [e5]; exact hk) X10 hS10 hg10 hZ hown
  obtain ⟨h10, e10⟩ : ∃ z, T10.heap = z := ⟨_, rfl⟩
  rw [e10] at hQ10 cs10 hS
  have hk : h10.size ≤ h10.size := Nat.le_refl _
  obtain ⟨rfl, Nq10, K10, R10⟩ := hQ10
  have N10 := Fr.app N0 Nq10
  have O11 := O6.keep K10 (allS g_b1 all0)
  have kp12 : Keep h0 h10 [] := kp7.trans K10 (allS (Or.inr sz_b1) all0)
  have ch13 := cs10
  have sf13_b1 := ch13.safe (A1.ext E5).lt sf8_b1
  have sf13_b5 := ch13.safe V_b5.lt sf8_b5
  have CH13 := CHr.trans CH8 ch13
  obtain ⟨bb, kb, HX⟩ := R10
  obtain ⟨fs, hr, hrun, hended, hEnd⟩ := (X10.mono (by decide : _ ≤ R_1.cells) (by decide : _ ≤ R_1.slots)).leaveW hS (by rw [e10]; exact hk) (v := some (.ref b1)) (fun h => by rw [Bd.returns] at h; cases h)
  have CE := CHr.trans CH13 (CHv.at X10 hZ (own_EW hw) ch13.1)
  refine ⟨_, _, castTop (ef_rk_0 m (0 : Int32) (cv u) (cv w)) ?_, hrun, hended, _, _, rfl, ?_, ?_, hEnd⟩
  · refine pf9 _ ?_
    refine st10.trans ?_
    show Go p e below T10 m 14 (q_34 u w) [(.ref b1)] _
    exact retOut X10 hx Bd.returns rfl (Or.inr (Or.inr (Or.inr (Or.inr ⟨rfl, rfl, rfl⟩)))) (hb hby d1_14) hr
  · show Qt Z (mkL 0 u w) h0 n0 _ T10.heap _
    rw [e10]
    exact ⟨b1, bb, kb, rfl, N10, kp12, sz_b1, HX⟩
  · show CHr Z EL0 s.vm s.heap T10.vm T10.heap
    rw [e10, hh]; exact CE
theorem ef_rk_1 (m : MethodId) (x0 : Int32) (x1 : Int32) (x2 : Int32) : entryFrame m #[(.int x0), (.int x1), (.int x2)] 3 = mkF m 0 #[.val (.int x0), .val (.int x1), .val (.int x2)] [] := by first | (simp [entryFrame, mkF, argsToLocals, Value.category]; done) | rfl
set_option maxRecDepth 65536 in
set_option maxHeartbeats 40000000 in
theorem rk_1 (l : Launch) (Z : State) (a0 : Array Value) (hw : Hw a0 Z) (ws : List Jvm.Cond) (G1 : Int32) (Fm : Value) (u : UInt16) (w : UInt16) (h0 : Heap) (n0 : Nat) (O0 : Old Z n0 h0) (ST : Stc Z G1 Fm) :
    MetFree l Y_6 (head1 (Jvm.Cond.code Y_6 method_2_code 3 (some (.object "java/lang/String")) :: ws) R_1) (fun a U => a = #[(.int (1 : Int32)), (.int (cv u)), (.int (cv w))] ∧ Z.Warmed39 U.vm ∧ U.heap = h0 ∧ CHv Z EL0 U.vm h0) (fun _ _ _ _ _ => True) (fun _ U o U' => ∃ v L, o = .returned v ∧ Qt Z (mkL 1 u w) h0 n0 v U'.heap L ∧ CHr Z EL0 U.vm U.heap U'.vm U'.heap ∧ ReturnedEndW U o U' L R_1.cells R_1.slots) := by
  refine MetFree.of_bodySF (plainFor_of_name pn8) hisR ?_
  intro p e s m args below meth c s₁ Bd hml0 hP hK
  obtain ⟨rfl, hZ, hh, H0⟩ := hP
  have hx := Bd.exec
  have hby := Bd.bytes
  have hml : c.maxLocals = 3 := hml0
  have hown : s.vm.findClass "com/example/narrow_lease/narrowlease/LeaseLostExceptionRecordLostPinLaw" = some m.cls := findClass_of_methodNamed Bd.named
  have hnm := (name_of_methodNamed Bd.named Bd.method).1
  have X0 : Stand p l e R_1 s m #[(.int (1 : Int32)), (.int (cv u)), (.int (cv w))] below meth c s₁ [] 0 0 := Stand.of_body Bd
  have e0 : s₁.heap = h0 := by rw [← hh, Bd.state]; rfl
  have N0 := Fr.nil n0
  have X0 : Stand p l e R_1 (s.setVm s.vm) m #[(.int (1 : Int32)), (.int (cv u)), (.int (cv w))] below meth c s₁ [] 0 0 := X0
  have hZ : Z.Warmed39 (s.setVm s.vm).vm := hZ
  have hown : (s.setVm s.vm).vm.findClass "com/example/narrow_lease/narrowlease/LeaseLostExceptionRecordLostPinLaw" = some m.cls := hown
  have hS : s.Since s.vm 0 := (State.WarmedH.refl s).since 0
  have hk : 0 ≤ h0.size := Nat.zero_le _
  have CH0 := CHr.refl H0
  obtain ⟨S_cs, hG, S_fm, hF, S_ad, S_hi, S_lo⟩ := id ST
  obtain ⟨_, T1, Lc1, X1, hQ1, st1⟩ := own_sc X0 hx hZ (y := Y_22) hown (tw hw 284 rfl) (tw hw 285 rfl) (by decide) (rs_vo l Z a0 hw [] G1 Fm u h0 n0 O0 ST ) (tw hw 286 rfl) (tw hw 7 rfl) e0 (W := 0) (by decide) (by decide) (Ls := (q_78 u w)) (by rw [hml]; rfl) (argsL := [(.int (cv u))]) (rest := []) (lenOf pd35 rfl) (Nat.le_of_eq rfl) (hb hby d1_21) rfl (by decide) (by decide)
  obtain ⟨h1, e1⟩ : ∃ z, T1.heap = z := ⟨_, rfl⟩
  rw [e1] at hQ1
  obtain ⟨x1, bx1, kx1, rfl, Nq1, K1, sx1, sb1, Hx1⟩ := hQ1
  have N1 := Fr.app N0 Nq1
  have O2 := O0.keep K1 all0
  have kp3 : Keep h0 h1 [] := (Keep.refl h0 []).trans K1 all0
  have ch4 := CHr.keep K1 sf0 H0
  have CH4 := CHr.trans CH0 ch4
  have hk := Nat.le_trans hk ch4.2.1
  have szx := sx1
  have HX := Hx1
  obtain ⟨fs, hr, hrun, hended, hEnd⟩ := (X1.mono (by decide : _ ≤ R_1.cells) (by decide : _ ≤ R_1.slots)).leaveW hS (by rw [e1]; exact hk) (v := some (.ref x1)) (fun h => by rw [Bd.returns] at h; cases h)
  have CE := CHr.trans CH4 (CHv.at X1 hZ (own_EW hw) ch4.1)
  refine ⟨_, _, castTop (ef_rk_1 m (1 : Int32) (cv u) (cv w)) ?_, hrun, hended, _, _, rfl, ?_, ?_, hEnd⟩
  · show Go p e below s₁ m 0 (q_78 u w) [] _
    refine XS.iloadN X0.here hx rfl (hb hby d1_0) rfl ?_
    refine XS.ifYes X0.here hx rfl (pc0 := 1) (pc' := 15) rfl (hb hby d1_1) rfl ((if0 _ _).trans (feq (by decide)).2) (by decide) (by decide) ?_
    refine XS.iloadN X0.here hx rfl (hb hby d1_15) rfl ?_
    refine XS.iconst X0.here hx rfl (hb hby d1_16) ?_
    refine XS.icmpNo X0.here hx rfl (hb hby d1_17) rfl (teq (by decide)).2 ?_
    refine XS.iloadN X0.here hx rfl (hb hby d1_20) rfl ?_
    refine st1 _ ?_
    show Go p e below T1 m 24 (q_78 u w) [(.ref x1)] _
    exact retOut X1 hx Bd.returns rfl (Or.inr (Or.inr (Or.inr (Or.inr ⟨rfl, rfl, rfl⟩)))) (hb hby d1_24) hr
  · show Qt Z (mkL 1 u w) h0 n0 _ T1.heap _
    rw [e1]
    exact ⟨_, _, _, rfl, N1, kp3, szx, HX⟩
  · show CHr Z EL0 s.vm s.heap T1.vm T1.heap
    rw [e1, hh]; exact CE
theorem ef_rk_2 (m : MethodId) (x0 : Int32) (x1 : Int32) (x2 : Int32) : entryFrame m #[(.int x0), (.int x1), (.int x2)] 3 = mkF m 0 #[.val (.int x0), .val (.int x1), .val (.int x2)] [] := by first | (simp [entryFrame, mkF, argsToLocals, Value.category]; done) | rfl
set_option maxRecDepth 65536 in
set_option maxHeartbeats 40000000 in
theorem rk_2 (l : Launch) (Z : State) (a0 : Array Value) (hw : Hw a0 Z) (ws : List Jvm.Cond) (G1 : Int32) (Fm : Value) (u : UInt16) (w : UInt16) (h0 : Heap) (n0 : Nat) (O0 : Old Z n0 h0) (ST : Stc Z G1 Fm) :
    MetFree l Y_6 (head1 (Jvm.Cond.code Y_6 method_2_code 3 (some (.object "java/lang/String")) :: ws) R_1) (fun a U => a = #[(.int (2 : Int32)), (.int (cv u)), (.int (cv w))] ∧ Z.Warmed39 U.vm ∧ U.heap = h0 ∧ CHv Z EL0 U.vm h0) (fun _ _ _ _ _ => True) (fun _ U o U' => ∃ v L, o = .returned v ∧ Qt Z (mkL 2 u w) h0 n0 v U'.heap L ∧ CHr Z EL0 U.vm U.heap U'.vm U'.heap ∧ ReturnedEndW U o U' L R_1.cells R_1.slots) := by
  refine MetFree.of_bodySF (plainFor_of_name pn8) hisR ?_
  intro p e s m args below meth c s₁ Bd hml0 hP hK
  obtain ⟨rfl, hZ, hh, H0⟩ := hP
  have hx := Bd.exec
  have hby := Bd.bytes
  have hml : c.maxLocals = 3 := hml0
  have hown : s.vm.findClass "com/example/narrow_lease/narrowlease/LeaseLostExceptionRecordLostPinLaw" = some m.cls := findClass_of_methodNamed Bd.named
  have hnm := (name_of_methodNamed Bd.named Bd.method).1
  have X0 : Stand p l e R_1 s m #[(.int (2 : Int32)), (.int (cv u)), (.int (cv w))] below meth c s₁ [] 0 0 := Stand.of_body Bd
  have e0 : s₁.heap = h0 := by rw [← hh, Bd.state]; rfl
  have N0 := Fr.nil n0
  have X0 : Stand p l e R_1 (s.setVm s.vm) m #[(.int (2 : Int32)), (.int (cv u)), (.int (cv w))] below meth c s₁ [] 0 0 := X0
  have hZ : Z.Warmed39 (s.setVm s.vm).vm := hZ
  have hown : (s.setVm s.vm).vm.findClass "com/example/narrow_lease/narrowlease/LeaseLostExceptionRecordLostPinLaw" = some m.cls := hown
  have hS : s.Since s.vm 0 := (State.WarmedH.refl s).since 0
  have hk : 0 ≤ h0.size := Nat.zero_le _
  have CH0 := CHr.refl H0
  obtain ⟨S_cs, hG, S_fm, hF, S_ad, S_hi, S_lo⟩ := id ST
  obtain ⟨T1, h1, X1, e1, E1, A1, D1, U1, st1⟩ := newO X0 hx hZ hown (tw hw 5 rfl) (tw hw 6 rfl) (tw hw 7 rfl) e0 (g := (mkF m 25 (q_27 u w) [])) rfl (hb hby d1_25) (by decide) (by decide)
  obtain ⟨b1, g1⟩ : ∃ z, z = h0.size := ⟨_, rfl⟩
  rw [← g1] at A1 D1 U1 st1
  have g_b1 : n0 ≤ b1 := by rw [g1]; exact Nat.le_trans (Nat.le_of_eq O0.1.symm) O0.2.1
  have sz_b1 : h0.size ≤ b1 := by rw [g1]; exact (Keep.refl h0 []).1
  have sf_b1 : Safe Z EL0 s.vm h0 b1 := Safe.new (Nat.le_of_eq g1.symm)
  have O2 := O0.ext E1
  have kp3 : Keep h0 h1 [] := (Keep.refl h0 []).ext E1
  have ch4 := CHr.ext E1 H0
  have sf4_b1 := Safe.ext E1 H0 sf_b1
  have CH4 := CHr.trans CH0 ch4
  have hk := Nat.le_trans hk ch4.2.1
  have F_value_b1 : Fld Z h1 b1 "java/lang/String" "value" "[B" .null := D1 (Or.inr (tw hw 21 rfl)) (ty := (.array .byte)) (by decide)
  have F_coder_b1 : Fld Z h1 b1 "java/lang/String" "coder" "B" (.int (0 : Int32)) := D1 (Or.inr (tw hw 22 rfl)) (ty := .byte) (by decide)
  obtain ⟨T5, h5, k5, X5, e5, E5, A5, st5⟩ := newP X1 hx hZ (tw hw 8 rfl) e1 (g := (mkF m 30 (q_27 u w) [(.int (2 : Int32)), (.ref b1), (.ref b1)])) rfl (hb hby d1_30) rfl (by decide) (cap := 2) (by decide) (by decide) (by decide) (by decide)
  obtain ⟨b5, g5⟩ : ∃ z, z = h1.size := ⟨_, rfl⟩
  rw [← g5] at A5 st5
  have g_b5 : n0 ≤ b5 := by rw [g5]; exact Nat.le_trans (Nat.le_of_eq O2.1.symm) O2.2.1
  have sz_b5 : h0.size ≤ b5 := by rw [g5]; exact kp3.1
  have lt_b1_b5 : b1 < b5 := by rw [g5]; exact A1.lt
  have sf_b5 : Safe Z EL0 s.vm h1 b5 := Safe.new (Nat.le_of_eq g5.symm)
  have O6 := O2.ext E5
  have kp7 : Keep h0 h5 [] := kp3.ext E5
  have ch8 := CHr.ext E5 ch4.1
  have sf8_b1 := Safe.ext E5 ch4.1 sf4_b1
  have sf8_b5 := Safe.ext E5 ch4.1 sf_b5
  have CH8 := CHr.trans CH4 ch8
  have hk := Nat.le_trans hk ch8.2.1
  have V_b5 : Arv Z h5 b5 k5 .char (2 : Int32) [(.int (0 : Int32)), (.int (0 : Int32))] (.int (0 : Int32)) := (Arv.new A5 (by decide)).pad (pad_rep [] (.int (0 : Int32)) 2)
  obtain ⟨cl9, Ar9, q9, Sz9, Nn9, Ha9, Gf9⟩ := V_b5
  have hin9 : ¬ ((0 : Int32) < 0 ∨ cl9.slots.size ≤ ((0 : Int32)).toNatClampNeg) := inb_of Sz9 ⟨by decide, by decide⟩
  obtain ⟨T10, h10, X10, e10, W10, st10⟩ := stC X5 hx hZ e5 Ar9 (j := (0 : Int32)) hin9 (g := (mkF m 35 (q_27 u w) [(.int (cv u)), (.int (0 : Int32)), (.ref b5), (.ref b5), (.ref b1), (.ref b1)])) rfl rfl (hb hby d1_35)
  have Va10 := Arv.set Ar9 q9 Sz9 Nn9 Ha9 Gf9 (fits_nar_char _) W10 0 rfl (Nat.le_of_ble_eq_true rfl)
  have Vb10 : Arv Z h10 b5 k5 .char (2 : Int32) [(.int ((cv u).toUInt32.toUInt16.toUInt32.toInt32)), (.int (0 : Int32))] (.int (0 : Int32)) := Va10
  have O11 := O6.wr W10 g_b5
  have kp12 : Keep h0 h10 [] := kp7.wr W10 (Or.inr sz_b5)
  have ch13 := CHr.wr W10 sf8_b5 ch8.1
  have sf13_b1 := Safe.wr W10 sf8_b5 ch8.1 sf8_b1
  have sf13_b5 := Safe.wr W10 sf8_b5 ch8.1 sf8_b5
  have CH13 := CHr.trans CH8 ch13
  have hk := Nat.le_trans hk ch13.2.1
  have N10 := Fr.snoc X10 N0 g_b5
  obtain ⟨cl14, Ar14, q14, Sz14, Nn14, Ha14, Gf14⟩ := Vb10
  have hin14 : ¬ ((1 : Int32) < 0 ∨ cl14.slots.size ≤ ((1 : Int32)).toNatClampNeg) := inb_of Sz14 ⟨by decide, by decide⟩
  obtain ⟨T15, h15, X15, e15, W15, st15⟩ := stC X10 hx hZ e10 Ar14 (j := (1 : Int32)) hin14 (g := (mkF m 39 (q_27 u w) [(.int (cv w)), (.int (1 : Int32)), (.ref b5), (.ref b5), (.ref b1), (.ref b1)])) rfl rfl (hb hby d1_39)
  have Va15 := Arv.set Ar14 q14 Sz14 Nn14 Ha14 Gf14 (fits_nar_char _) W15 1 rfl (Nat.le_of_ble_eq_true rfl)
  have Vb15 : Arv Z h15 b5 k5 .char (2 : Int32) [(.int ((cv u).toUInt32.toUInt16.toUInt32.toInt32)), (.int ((cv w).toUInt32.toUInt16.toUInt32.toInt32))] (.int (0 : Int32)) := Va15
  have O16 := O11.wr W15 g_b5
  have kp17 : Keep h0 h15 [] := kp12.wr W15 (Or.inr sz_b5)
  have ch18 := CHr.wr W15 sf13_b5 ch13.1
  have sf18_b1 := Safe.wr W15 sf13_b5 ch13.1 sf13_b1
  have sf18_b5 := Safe.wr W15 sf13_b5 ch13.1 sf13_b5
  have CH18 := CHr.trans CH13 ch18
  have hk := Nat.le_trans hk ch18.2.1
  have N15 := Fr.snoc X15 N10 g_b5
  have VC : Car Z h15 b5 k5 [u, w].length [u, w] := ⟨by have q := Vb15; rw [own_cvc, own_cvc] at q; exact q, rfl⟩
  obtain ⟨_, T19, Lc19, X19, hQ19, st19⟩ := own_ic X15 hx hZ (y := Y_11) rfl hown (tw hw 9 rfl) (tw hw 10 rfl) (by decide) (rs_i l Z a0 hw [] G1 Fm b1 b5 k5 [u, w] h15 n0 O16 ST (((A1.ext E5).wr W10).wr W15) (((F_value_b1.ext E5).other W10 (Or.inl (Nat.ne_of_lt lt_b1_b5))).other W15 (Or.inl (Nat.ne_of_lt lt_b1_b5))) (((F_coder_b1.ext E5).other W10 (Or.inl (Nat.ne_of_lt lt_b1_b5))).other W15 (Or.inl (Nat.ne_of_lt lt_b1_b5))) g_b1 VC (Nat.ne_of_lt lt_b1_b5) (by simp) (by simp)) (tw hw 11 rfl) (tw hw 7 rfl) e15 (W := 1) (by decide) (by decide) (Ls := (q_27 u w)) (by rw [hml]; rfl) (b := b1) (argsL := [(.ref b5)]) (rest := [(.ref b1)]) (lenOf pd34 rfl) (Nat.le_of_eq rfl) (hb hby d1_40) rfl (by decide) (by decide)
  obtain ⟨h19, e19⟩ : ∃ z, T19.heap = z := ⟨_, rfl⟩
  rw [e19] at hQ19
  obtain ⟨rfl, Nq19, K19, R19⟩ := hQ19
  have N19 := Fr.app N15 Nq19
  have O20 := O16.keep K19 (allS g_b1 all0)
  have kp21 : Keep h0 h19 [] := kp17.trans K19 (allS (Or.inr sz_b1) all0)
  have ch22 := CHr.keep K19 (sfS sf18_b1 sf0) ch18.1
  have sf22_b1 := Safe.keep K19 (sfS sf18_b1 sf0) ch18.1 sf18_b1
  have sf22_b5 := Safe.keep K19 (sfS sf18_b1 sf0) ch18.1 sf18_b5
  have CH22 := CHr.trans CH18 ch22
  have hk := Nat.le_trans hk ch22.2.1
  obtain ⟨bb, kb, -, HX⟩ := R19
  obtain ⟨fs, hr, hrun, hended, hEnd⟩ := (X19.mono (by decide : _ ≤ R_1.cells) (by decide : _ ≤ R_1.slots)).leaveW hS (by rw [e19]; exact hk) (v := some (.ref b1)) (fun h => by rw [Bd.returns] at h; cases h)
  have CE := CHr.trans CH22 (CHv.at X19 hZ (own_EW hw) ch22.1)
  refine ⟨_, _, castTop (ef_rk_2 m (2 : Int32) (cv u) (cv w)) ?_, hrun, hended, _, _, rfl, ?_, ?_, hEnd⟩
  · show Go p e below s₁ m 0 (q_27 u w) [] _
    refine XS.iloadN X0.here hx rfl (hb hby d1_0) rfl ?_
    refine XS.ifYes X0.here hx rfl (pc0 := 1) (pc' := 15) rfl (hb hby d1_1) rfl ((if0 _ _).trans (feq (by decide)).2) (by decide) (by decide) ?_
    refine XS.iloadN X0.here hx rfl (hb hby d1_15) rfl ?_
    refine XS.iconst X0.here hx rfl (hb hby d1_16) ?_
    refine XS.icmpYes X0.here hx rfl (pc0 := 17) (pc' := 25) rfl (hb hby d1_17) rfl (feq (by decide)).2 (by decide) (by decide) ?_
    refine st1 _ ?_
    show Go p e below T1 m 28 (q_27 u w) [(.ref b1)] _
    refine XS.dup X1.here hx rfl (hb hby d1_28) rfl rfl ?_
    refine XS.iconst X1.here hx rfl (hb hby d1_29) ?_
    refine st5 _ ?_
    show Go p e below T5 m 32 (q_27 u w) [(.ref b5), (.ref b1), (.ref b1)] _
    refine XS.dup X5.here hx rfl (hb hby d1_32) rfl rfl ?_
    refine XS.iconst X5.here hx rfl (hb hby d1_33) ?_
    refine XS.iloadN X5.here hx rfl (hb hby d1_34) rfl ?_
    refine st10 _ ?_
    show Go p e below T10 m 36 (q_27 u w) [(.ref b5), (.ref b1), (.ref b1)] _
    refine XS.dup X10.here hx rfl (hb hby d1_36) rfl rfl ?_
    refine XS.iconst X10.here hx rfl (hb hby d1_37) ?_
    refine XS.iloadN X10.here hx rfl (hb hby d1_38) rfl ?_
    refine st15 _ ?_
    refine st19 _ ?_
    show Go p e below T19 m 43 (q_27 u w) [(.ref b1)] _
    exact retOut X19 hx Bd.returns rfl (Or.inr (Or.inr (Or.inr (Or.inr ⟨rfl, rfl, rfl⟩)))) (hb hby d1_43) hr
  · show Qt Z (mkL 2 u w) h0 n0 _ T19.heap _
    rw [e19]
    exact ⟨b1, bb, kb, rfl, N19, kp21, sz_b1, HX⟩
  · show CHr Z EL0 s.vm s.heap T19.vm T19.heap
    rw [e19, hh]; exact CE
theorem rk_mk (l : Launch) (Z : State) (a0 : Array Value) (hw : Hw a0 Z) (ws : List Jvm.Cond) (G1 : Int32) (Fm : Value) (nn : Nat) (u : UInt16) (w : UInt16) (h0 : Heap) (n0 : Nat) (O0 : Old Z n0 h0) (ST : Stc Z G1 Fm) (hn : nn ≤ 2) :
    MetFree l Y_6 (head1 (Jvm.Cond.code Y_6 method_2_code 3 (some (.object "java/lang/String")) :: ws) R_1) (fun a U => a = #[(.int (Int32.ofNat nn)), (.int (cv u)), (.int (cv w))] ∧ Z.Warmed39 U.vm ∧ U.heap = h0 ∧ CHv Z EL0 U.vm h0) (fun _ _ _ _ _ => True) (fun _ U o U' => ∃ v L, o = .returned v ∧ Qt Z (mkL nn u w) h0 n0 v U'.heap L ∧ CHr Z EL0 U.vm U.heap U'.vm U'.heap ∧ ReturnedEndW U o U' L R_1.cells R_1.slots) := by
  rcases (by omega : nn = 0 ∨ nn = 1 ∨ nn = 2) with rfl | rfl | rfl
  · exact rk_0 l Z a0 hw ws G1 Fm u w h0 n0 O0 ST
  · exact rk_1 l Z a0 hw ws G1 Fm u w h0 n0 O0 ST
  · exact rk_2 l Z a0 hw ws G1 Fm u w h0 n0 O0 ST
abbrev own_rc : String := "com/example/narrow_lease/narrowlease/LeaseLostException"
def own_thrW : List Jvm.Cond := [.initialized tN, .superclass tN "java/lang/Object", .instanceMethod tFill, .codeSync tFill LibCode.Throwable.Fill.code 1 (some (.object tN)), .instanceMethod tFill0, .native tFill0, .instanceMethod oInit, .code oInit ⟨#[0xb1]⟩ 1 none, .methodLink tN 1 oInit, .methodLink tN 27 tFill, .methodLink tN 202 tFill0, .fieldLink tN 7 tN "cause" Jvm.Free.Exc.thD, .lays tN tN "cause" Jvm.Free.Exc.thD, .fieldLink tN 17 tN "stackTrace" steD, .lays tN tN "stackTrace" steD, .fieldLink tN 24 tN "suppressedExceptions" listD, .lays own_rc tN "suppressedExceptions" listD, .fieldLink tN 13 tN "UNASSIGNED_STACK" steD, .laysStatic tN "UNASSIGNED_STACK" steD, .fieldLink tN 20 tN "SUPPRESSED_SENTINEL" listD, .laysStatic tN "SUPPRESSED_SENTINEL" listD, .lays tN tN "detailMessage" Jvm.Free.Exc.msgD, .lays own_rc tN "stackTrace" steD, .fieldLink tN 198 tN "backtrace" Jvm.Free.Exc.obD, .lays own_rc tN "backtrace" Jvm.Free.Exc.obD, .arrayOver (.object "java/lang/Object"), .soleField tN "backtrace", .soleField tN "depth", .lays own_rc tN "depth" "I", .declares tFill, .selects own_rc tFill0 tFill0, .selects own_rc tFill tFill, .lays own_rc tN "cause" Jvm.Free.Exc.thD, .lays own_rc tN "detailMessage" Jvm.Free.Exc.msgD]
theorem own_thrT {Z : State} {a0 : Array Value} (hw : Hw a0 Z) : ∀ d ∈ own_thrW, d.before a0 Z = true := by
  intro d hd
  simp only [own_thrW, List.mem_cons, List.not_mem_nil, or_false] at hd
  rcases hd with rfl | rfl | rfl | rfl | rfl | rfl | rfl | rfl | rfl | rfl | rfl | rfl | rfl | rfl | rfl | rfl | rfl | rfl | rfl | rfl | rfl | rfl | rfl | rfl | rfl | rfl | rfl | rfl | rfl | rfl | rfl | rfl | rfl | rfl
  · exact (tw hw 195 rfl)
  · exact (tw hw 213 rfl)
  · exact (tw hw 208 rfl)
  · exact (tw hw 214 rfl)
  · exact (tw hw 215 rfl)
  · exact (tw hw 216 rfl)
  · exact (tw hw 17 rfl)
  · exact (tw hw 18 rfl)
  · exact (tw hw 197 rfl)
  · exact (tw hw 206 rfl)
  · exact (tw hw 219 rfl)
  · exact (tw hw 198 rfl)
  · exact (tw hw 220 rfl)
  · exact (tw hw 201 rfl)
  · exact (tw hw 221 rfl)
  · exact (tw hw 204 rfl)
  · exact (tw hw 205 rfl)
  · exact (tw hw 200 rfl)
  · exact (tw hw 226 rfl)
  · exact (tw hw 203 rfl)
  · exact (tw hw 227 rfl)
  · exact (tw hw 222 rfl)
  · exact (tw hw 202 rfl)
  · exact (tw hw 224 rfl)
  · exact (tw hw 230 rfl)
  · exact (tw hw 210 rfl)
  · exact (tw hw 211 rfl)
  · exact (tw hw 212 rfl)
  · exact (tw hw 231 rfl)
  · exact (tw hw 207 rfl)
  · exact (tw hw 228 rfl)
  · exact (tw hw 209 rfl)
  · exact (tw hw 199 rfl)
  · exact (tw hw 229 rfl)
theorem own_thrOk : own_thrW.all xOk = true := rfl
theorem own_thr {args : Array Value} {s : State} {pl : Platform} (howns : pl.frameOwnsMonitors = true) (hfin : pl.finalization = false) (hpl : pl.magicAccessors = ({} : Platform).magicAccessors) (W : ∀ d ∈ own_thrW, d.before args s = true) :
    ∃ T : ThrowableC, T.Links pl s ∧ s.vm.findClass tN = some T.cT ∧ s.methodNamed? tFill = some T.fill ∧ s.methodNamed? tFill0 = some T.fill0 ∧ s.fieldFound? tN "stackTrace" steD = some (T.cT, T.kT, T.i17, T.fStack) ∧ s.fieldFound? tN "UNASSIGNED_STACK" steD = some (T.cT, T.kT, T.i13, T.fUnassigned) ∧ T.fStack.type = .array (.object "java/lang/StackTraceElement") ∧ T.fStack.name = "stackTrace" := by
  have w : ∀ (n : Nat) {d : Jvm.Cond}, own_thrW[n]? = some d → d.holds args s none s [] = true := fun n d h => W d (List.mem_of_getElem? h)
  obtain ⟨⟨c, i0⟩, me0, hn0, hm0, hnat, hcd0, hlk0, hsg0⟩ := Cond.native_spec (x := tFill0) (w 5 rfl)
  have hc : s.vm.findClass tN = some c := findClass_of_methodNamed hn0
  obtain ⟨k, hk, hkn⟩ := Vm.findClass_spec hc
  obtain ⟨_, k1, _, _, hk1, _, _, -, _, hni⟩ := Cond.superclass_spec hc (w 1 rfl)
  cases hk.symm.trans hk1
  obtain ⟨iF, meF, hnF, hmF, hatF, hstF, habF, -, -⟩ := Cond.ownMethod (x := tFill) hc hk (w 2 rfl)
  obtain ⟨_, cF, hmF', hcF, hbF, hlF, hrF, hlkF, -, hsF⟩ := Cond.codeSync_spec (bytes := LibCode.Throwable.Fill.code) hnF (w 3 rfl)
  cases hmF.symm.trans hmF'
  obtain ⟨_, _, hn0', hm0', hat0, hst0, hab0, hnm0, hds0⟩ := Cond.ownMethod (x := tFill0) hc hk (w 4 rfl)
  cases hn0.symm.trans hn0'
  cases hm0.symm.trans hm0'
  obtain ⟨mO, meO, hnO, hmO, hstO, habO⟩ := Cond.instanceMethod_spec (x := oInit) (w 6 rfl)
  obtain ⟨_, cO, hmO', hcO, hbO, hlO, -, hlkO, -, hsO⟩ := Cond.code_spec (bytes := ⟨#[0xb1]⟩) hnO (w 7 rfl)
  cases hmO.symm.trans hmO'
  obtain ⟨kO, hkO, hkOn⟩ := Vm.findClass_spec (findClass_of_methodNamed hnO)
  obtain ⟨hnmO, hdsO⟩ := name_of_methodNamed hnO hmO
  obtain ⟨ci1, n1, cf, hl1, hr1, hcf, hp1⟩ := Cond.linkedMethod hc hk hnO (w 8 rfl) pl hpl
  obtain ⟨ci27, n27, _, hl27, hr27, hcf2, hp27⟩ := Cond.linkedMethod hc hk hnF (w 9 rfl) pl hpl
  cases hcf.symm.trans hcf2
  obtain ⟨ci202, n202, _, hl202, hr202, hcf3, hp202⟩ := Cond.linkedMethod hc hk hn0 (w 10 rfl) pl hpl
  cases hcf.symm.trans hcf3
  obtain ⟨ci7, i7, f7, k7, g7, a7, s7, v7, -, -, -⟩ := Cond.ownField (C' := tN) (t := .object tN) hc hk (by decide +kernel) (w 11 rfl) (w 12 rfl) pl hpl
  obtain ⟨ci17, i17, f17, k17, g17, a17, s17, v17, b17, t17, ff17⟩ := Cond.ownField (C' := tN) (t := .array (.object "java/lang/StackTraceElement")) hc hk (by decide +kernel) (w 13 rfl) (w 14 rfl) pl hpl
  obtain ⟨ci24, i24, f24, k24, g24, a24, s24, v24, b24, -, ff24⟩ := Cond.ownField (C' := own_rc) (t := .object "java/util/List") hc hk (by decide +kernel) (w 15 rfl) (w 16 rfl) pl hpl
  obtain ⟨ci13, i13, f13, aS, _, k13, g13, a13, s13, -, -, hsta, -, -, -, -, ff13⟩ := Cond.ownStatic (t := .array (.object "java/lang/StackTraceElement")) hc hk (by decide +kernel) (w 17 rfl) (w 18 rfl) pl hpl
  obtain ⟨ci20, i20, f20, _, _, k20, g20, a20, s20, -⟩ := Cond.ownStatic (t := .object "java/util/List") hc hk (by decide +kernel) (w 19 rfl) (w 20 rfl) pl hpl
  obtain ⟨_, _, _, _, _, fM, _, _, -, sM, vM, -⟩ := Cond.lays_spec (cls := tN) (owner := tN) (name := "detailMessage") (w 21 rfl)
  have pF : meF.sig.parameters = [] := by
    rw [show parseMethodDescriptor tFill.desc = some ⟨[], some (.object tN)⟩ from by decide +kernel] at hsF; rw [← Option.some.inj hsF]
  have p0 : me0.sig.parameters = [.int] := by
    rw [show parseMethodDescriptor tFill0.desc = some ⟨[.int], some (.object tN)⟩ from by decide +kernel] at hsg0; rw [← Option.some.inj hsg0]
  have pO : meO.sig.parameters.length = 0 := by
    rw [show parseMethodDescriptor oInit.desc = some ⟨[], none⟩ from by decide +kernel] at hsO; rw [← Option.some.inj hsO]; rfl
  let T : ThrowableC := { cT := c, kT := k, cO := c, aS := aS, fillIdx := iF, fill0Idx := i0, initSIdx := iF, obj := mO, kObj := kO, methFill := meF, methFill0 := me0, methInitS := meF, methObj := meO, codeFill := cF, codeInitS := cF, codeObj := cO, fBack := f17, fDepth := f17, fStack := f17, fCause := f7, fSupp := f24, fMsg := fM, fUnassigned := f13, fSentinel := f20, cfT := cf, ci1 := ci1, n1 := n1, ci27 := ci27, n27 := n27, ci202 := ci202, n202 := n202, ci7 := ci7, i7 := i7, ci13 := ci13, i13 := i13, ci17 := ci17, i17 := i17, ci20 := ci20, i20 := i20, ci24 := ci24, i24 := i24 }
  have LL : T.Links pl s :=
    { owns := howns, noFinalization := hfin, cls := hk, name := hkn, boot := Vm.findClass_boot hc hk, notInterface := hni, initialized := Cond.initialized_spec hc hk (w 0 rfl), statics := hsta, fillAt := hatF, fillCode := hcF, fillBytes := hbF, fillLocals := hlF, fillLocks := hlkF, fillStatic := hstF, fillAbstract := habF, fillReturns := hrF, fillParams := pF, fill0At := hat0, fill0Name := hnm0, fill0Desc := hds0, fill0Params := p0, fill0Static := hst0, fill0Native := hnat, fill0Code := hcd0, fill0Locks := hlk0, fill0Abstract := hab0, stackInstance := s17, stackNotFinal := v17, unassignedStatic := s13, objClass := hkO, objClassName := hkOn, objMethod := hmO, objName := hnmO, objStatic := hstO, objAbstract := habO, objFound := (by show lookupSpecial s.vm mO.cls "<init>" meO.desc = _; rw [hdsO]; exact lookupSpecial_of_named hnO hmO hstO), objParams := pO, objCode := hcO, objBytes := hbO, objLocks := hlkO, causeInstance := s7, causeNotFinal := v7, sentinelStatic := s20, suppInstance := s24, suppNotFinal := v24, msgInstance := sM, msgNotFinal := vM, stackApartSupp := Cond.lays_apart (cls := own_rc) (w 22 rfl) (w 16 rfl) ff17 ff24 (by rw [b17, b24]; decide), file := hcf, mlink1 := hl1, mright1 := hr1, pool1 := hp1, mlink27 := hl27, mright27 := hr27, pool27 := hp27, mlink202 := hl202, mright202 := hr202, pool202 := hp202, link7 := k7, right7 := g7, at7 := a7, link13 := k13, right13 := g13, at13 := a13, link17 := k17, right17 := g17, at17 := a17, link20 := k20, right20 := g20, at20 := a20, link24 := k24, right24 := g24, at24 := a24 }
  exact ⟨T, LL, hc, hnF, hn0, ff17, ff13, t17, b17⟩
theorem own_b0 {a : Addr} : ∀ x ∈ ([] : List Loc), x.base = a := fun _ q => nomatch q
theorem own_bS {a : Addr} {L : List Loc} {i : Nat} (q : ∀ x ∈ L, x.base = a) : ∀ x ∈ L ++ [(⟨a, i⟩ : Loc)], x.base = a := fun x hx => (List.mem_append.mp hx).elim (q x) fun z => by cases List.mem_singleton.mp z; rfl
theorem own_bA {a : Addr} {L M : List Loc} (q : ∀ x ∈ L, x.base = a) (r : ∀ x ∈ M, x.base = a) : ∀ x ∈ L ++ M, x.base = a := fun x hx => (List.mem_append.mp hx).elim (q x) (r x)
theorem own_keepX {p : Program} {l : Launch} {e : Env} {R : Room} {s : State} {m : MethodId} {args : Array Value} {below : List Frame} {meth : Method} {c : Code} {T : State} {locs : List Loc} {cells slots : Nat} (X : Stand p l e R s m args below meth c T locs cells slots) {a : Addr} (hb : ∀ x ∈ locs, x.base = a) : Keep s.heap T.heap [a] ∧ (Unt s.heap a → Unt T.heap a) := by
  obtain ⟨-, h1, -, -, -, h2⟩ := X.same
  have h2 : ∀ (x : Addr) (cl : Cell), s.heap[x]? = some cl → ∃ c' : Cell, T.heap[x]? = some c' ∧ c' = { cl with slots := c'.slots } ∧ c'.slots.size = cl.slots.size ∧ ∀ i, (⟨x, i⟩ : Loc) ∉ locs → c'.slots[i]? = cl.slots[i]? := h2
  refine ⟨⟨h1, fun x cl q r => ?_, fun x cl q => ?_⟩, fun ⟨cl, q, u1, u2⟩ => ?_⟩
  · obtain ⟨c', q1, q2, -, q4⟩ := h2 x cl q
    have e : c'.slots = cl.slots := Array.ext_getElem? fun i => q4 i fun hm => r (List.mem_singleton.mpr (hb _ hm))
    rw [q1, q2, e]
  · obtain ⟨c', q1, q2, q3, -⟩ := h2 x cl q
    exact ⟨c', q1, by rw [q2], by rw [q2], q3⟩
  · obtain ⟨c', q1, q2, -, -⟩ := h2 _ cl q
    exact ⟨c', q1, by rw [q2]; exact u1, by rw [q2]; exact u2⟩
theorem own_keep2 {h0 h h' : Heap} {ws : List Addr} (K : Keep h0 h ws) (K' : Keep h0 h' ws) (hs : h.size = h0.size) : Keep h h' ws := by
  have at0 : ∀ (x : Addr) (cl : Cell), h[x]? = some cl → ∃ c0 : Cell, h0[x]? = some c0 := fun x cl q => ⟨_, Array.getElem?_eq_getElem (by rw [← hs]; exact (Array.getElem?_eq_some_iff.mp q).1)⟩
  refine ⟨by rw [hs]; exact K'.1, fun x cl q r => ?_, fun x cl q => ?_⟩
  · obtain ⟨c0, q0⟩ := at0 x cl q
    cases (K.2.1 x c0 q0 r).symm.trans q
    exact K'.2.1 x _ q0 r
  · obtain ⟨c0, q0⟩ := at0 x cl q
    obtain ⟨c1, a1, a2, a3, a4⟩ := K.2.2 x c0 q0
    obtain ⟨c2, b1, b2, b3, b4⟩ := K'.2.2 x c0 q0
    cases a1.symm.trans q
    exact ⟨c2, b1, b2.trans a2.symm, b3.trans a3.symm, b4.trans a4.symm⟩
set_option maxHeartbeats 4000000 in
theorem own_fill {p : Program} {l : Launch} {e : Env} {R : Room} {s : State} {m : MethodId} {args : Array Value} {below : List Frame} {meth : Method} {c : Code} {T : State} {locs : List Loc} {cells slots : Nat} {Z : State} {a0 : Array Value} {h : Heap} {n : Nat}
    (X : Stand p l e R s m args below meth c T locs cells slots) (hx : p.tables.exec = Jvm.exec) (hl : l.stackTraces = true) (hZ : Z.Warmed39 s.vm) (hown : s.vm.findClass tN = some m.cls) (hw : ∀ d ∈ own_thrW, d.before a0 Z = true) (wi : (Cond.instantiable own_rc n).before a0 Z = true) (hT0 : ThS Z s.heap) (hTK : s.vm.MethodsKnown) (hBelow : s.vm.FramesKnown below) (eT : T.heap = h)
    {a : Addr} (E : Exa Z h a own_rc) (B : Fld Z h a tN "backtrace" Jvm.Free.Exc.obD .null) {u : RefV} (FS : Fld Z h a tN "stackTrace" steD u.v) (SU : Sta Z h tN "UNASSIGNED_STACK" steD u.v) (hb : ∀ x ∈ locs, x.base = a) (hz : cells = 0) (NU : Unt s.heap a)
    {g : JFrame} (hg : g.method = m) (hsize : g.locals.size = c.maxLocals) {rest : List Value} (hst : g.stack = .ref a :: rest) (hd : decode c.code g.pc = .ok (.invokevirtual 27, 3)) {W0 : Nat} (hW : 2 * g.monitorRoom + (rest.map fun v => v.category).sum ≤ W0) (hf : 2 < R.frames) (hlo : W0 + 42 ≤ R.locals) (hc : cells + 1 ≤ R.cells) (hsl : slots + 2752 ≤ R.slots) :
    ∃ (T' : State) (h' : Heap) (L : List Loc), Stand p l e R s m args below meth c T' (locs ++ L) (cells + 1) (slots + 2752) ∧ T'.heap = h' ∧ (∀ x ∈ L, x.base = a) ∧ Keep h h' [a] ∧ Unt h' a ∧ Exa Z h' a own_rc ∧ (∀ v, Fld Z h a tN "cause" Jvm.Free.Exc.thD v → Fld Z h' a tN "cause" Jvm.Free.Exc.thD v) ∧ (∀ v, Fld Z h a tN "detailMessage" Jvm.Free.Exc.msgD v → Fld Z h' a tN "detailMessage" Jvm.Free.Exc.msgD v) ∧
      ∀ target, Steps p.tables e below (T'.setTop { g with pc := g.pc + 3, stack := .ref a :: rest }) target → Steps p.tables e below (T.setTop g) target := by
  have htr : e.platform.stackTraces = true := by rw [X.admits.platform]; exact hl
  have hpl : e.platform.magicAccessors = ({} : Platform).magicAccessors := by rw [X.admits.platform]
  have Ws : ∀ {as : Array Value} (d : Jvm.Cond), d ∈ own_thrW → d.before as s = true := fun d hd => mvX hT0 hZ (List.all_eq_true.mp own_thrOk d hd) (hw d hd)
  have w : ∀ (n : Nat) {d : Jvm.Cond}, own_thrW[n]? = some d → d.before args s = true := fun n d q => Ws d (List.mem_of_getElem? q)
  obtain ⟨TT, L, hTc, hTf, hTf0, hTs, hTu, hTst, hTsn⟩ := own_thr (args := args) (pl := e.platform) (by rw [X.admits.platform]) (by rw [X.admits.platform]) hpl (fun d hd => Ws d hd)
  obtain ⟨hK, hN⟩ := own_keepX X hb
  rw [eT] at hK hN
  have N : Unt h a := hN NU
  have hsz : h.size = s.heap.size := by
    obtain ⟨-, q1, q2, -⟩ := X.same
    have q1 : s.heap.size ≤ T.heap.size := q1
    have q2 : T.heap.size ≤ s.heap.size + cells := q2
    rw [eT] at q1 q2; omega
  obtain ⟨C5, kc, x1, x2, x3, x4, x5⟩ := E
  obtain ⟨_, u1, u2, u3⟩ := N
  cases x1.symm.trans u1
  obtain ⟨_, kk, i1, i2, i3, -⟩ := Cond.instantiable_spec wi
  cases x2.symm.trans i1
  cases x3.symm.trans i2
  obtain ⟨kX, hkX, ekX⟩ := hZ.alike.2.2 _ _ x3
  have hfound : s.vm.findClass own_rc = some C5.cls := by rw [hZ.alike.findClass]; exact x2
  have hord : kX.kind = .ordinary := by rw [ekX]; exact i3
  have hsl5 : C5.slots.size = kX.instanceTypes.size := by rw [ekX]; exact x5 i3
  -- a field of Throwable that the receiver lays, at s
  have fat : ∀ {nm d : String} {v : Value}, Fld Z h a tN nm d v → ∃ cf k i f, s.fieldFound? tN nm d = some (cf, k, i, f) ∧ C5.slots[f.slot]? = some v := fun {nm d v} F => by
    obtain ⟨_, cf, k, i, f, y1, y2, -, -, -, -, y7⟩ := F
    cases x1.symm.trans y1
    obtain ⟨k', q, -⟩ := State.fieldFound?_setVm (s := Z) hZ.alike y2
    exact ⟨cf, k', i, f, q, y7⟩
  have tk : ∀ {f : Field} {v : Value}, kX.instanceTypes[f.slot]? = some f.type → fits f.type v = true → Jvm.Takes s C5 f v := fun {f v} h1 h2 => by
    obtain ⟨q1, q2⟩ := Takes.of_laid (v := v) hkX hord h1 h2
    exact ⟨by rw [hsl5]; simpa using q1, by rw [u2]; exact q2⟩
  obtain ⟨_, _, _, fS, hfS, vS⟩ := fat FS
  cases hfS.symm.trans hTs
  obtain ⟨_, _, _, fB0, hfB, vB⟩ := fat B
  have hsel0 : selectMethod e.platform s.vm C5.cls TT.fill0 = .method TT.fill0 := by
    obtain ⟨_, _, _, q1, q2, q3, q4, -⟩ := Cond.selects_spec (cls := own_rc) (x := tFill0) (y := tFill0) (w 30 rfl)
    cases hfound.symm.trans q1
    cases (State.methodFound?_of_named hTf0 (by decide)).symm.trans q2
    cases hTf0.symm.trans q3
    rw [Launch.admits_selectMethod X.admits]; exact q4
  obtain ⟨_, _, _, _, st, cellS, z1, z2, z3, z4, z5, z6, z7⟩ := SU
  obtain ⟨k', q, ek⟩ := State.fieldFound?_setVm (s := Z) hZ.alike z1
  have z4' : k'.statics = some st := by rw [ek]; exact z4
  cases (show s.fieldFound? tN "UNASSIGNED_STACK" steD = _ from q).symm.trans hTu
  cases z4'.symm.trans L.statics
  have hneS : TT.aS ≠ a := fun z => by
    rw [z, x1] at z5; rw [← Option.some.inj z5, u2] at z6; cases z6
  obtain ⟨ci198, i198, fB, k198, g198, a198, sB, -, nB, tB, ffB⟩ := Cond.ownField (C' := own_rc) (t := .object "java/lang/Object") hTc L.cls (by decide +kernel) (w 23 rfl) (w 24 rfl) e.platform hpl
  have eB : fB0 = fB := by
    have q := Option.some.inj (hfB.symm.trans ffB)
    simp only [Prod.mk.injEq] at q
    exact q.2.2.2
  rw [eB] at vB
  obtain ⟨_, _, cD, kD, iD, fD, -, -, ffD, sD, -⟩ := Cond.lays_spec (cls := own_rc) (owner := tN) (name := "depth") (desc := "I") (w 28 rfl)
  cases (Cond.lays_declared (w 28 rfl) ffD).symm.trans hTc
  obtain ⟨hkD, atD⟩ := State.fieldFound?_spec ffD
  cases hkD.symm.trans L.cls
  obtain ⟨nD, tD⟩ := State.fieldFound?_type ffD (t := .int) (by decide +kernel)
  have hfb := Cond.soleField_find hTc L.cls (w 26 rfl) a198 nB sB
  have hfd := Cond.soleField_find hTc L.cls (w 27 rfl) atD nD sD
  obtain ⟨comp, cO, kO, -, -, hkO, hkindO, hO⟩ := Cond.arrayOver_spec (n := "java/lang/Object") (w 25 rfl)
  obtain ⟨tyS, -⟩ := Cond.laysAt hfound hkX hTs (w 22 rfl)
  obtain ⟨tyB, -⟩ := Cond.laysAt hfound hkX ffB (w 24 rfl)
  obtain ⟨tyD, -⟩ := Cond.laysAt hfound hkX ffD (w 28 rfl)
  obtain ⟨v6, vm6, ⟨T6, L6, c6, n6⟩, -, X6, ⟨hv6, C6, n', hn', hD6, q1, q2, q3, q4, hL6, hc6, hn6⟩, come⟩ := X.virtualBack hx (own := tN) (C := own_rc) (index := 27) (y := tFill) (z := tFill) hown (w 9 rfl) (w 29 rfl) (notFace_of_selects (args := args) (w 31 rfl)) (w 31 rfl) (w 2 rfl) (by decide)
    (Jvm.Free.Exc.fillPaysAny (l := l) (W := W0) hx htr TT L hTf (u0 := u) (self := a) (cell := C5) (cellS := cellS) (fun _ => by rw [u2]; simp) (by rw [u2]; simp) (by rw [u3]) (by rw [u3]) vS hsel0 hneS (fun q => by rw [q] at z6; cases z6) z7 (tk tyS (by rw [hTst]; exact fits_refV_array _ u))
      ⟨{ ci198 := ci198, i198 := i198, fBack := fB }, ⟨k198, g198, a198, sB⟩, vB⟩ hTK hBelow hTc hO hkO hkindO hfb hfd (fun x => tk tyB (by rw [tB]; rfl)) (fun x => tk tyD (by rw [tD]; rfl)) hf hlo)
    (b := a) (cB := C5.cls) hfound ⟨C5, by rw [eT]; exact x1, rfl, x4⟩ (g := g) hg hsize (Steps.refl _) (argsL := []) (rest := rest)
    (fun sig q => by rw [show parseMethodDescriptor tFill.desc = some ⟨[], some (.object tN)⟩ from by decide +kernel] at q; rw [← Option.some.inj q]; rfl) hst hW hd
    (fun vmx _ => ⟨rfl, hc, hsl, by show T.heap[a]? = _; rw [eT]; exact x1, by show T.heap[TT.aS]? = _; rw [eT]; exact z5⟩)
  dsimp only [Pt.U, Pt.locs, Pt.cells, Pt.slots] at X6 hD6 hL6 hc6 hn6 come
  subst hv6 hL6 hc6 hn6
  have hbL : ∀ x ∈ [(⟨a, fB.slot⟩ : Loc), ⟨a, fD.slot⟩, ⟨a, TT.fStack.slot⟩], x.base = a := fun x hx => by
    simp only [List.mem_cons, List.not_mem_nil, or_false] at hx
    rcases hx with rfl | rfl | rfl <;> rfl
  obtain ⟨KX, NX⟩ := own_keepX X6 (a := a) (fun x hx => (List.mem_append.mp hx).elim (hb x) (hbL x))
  have kf : ∀ {nm d : String} {t : FieldType} {v : Value}, (Cond.lays own_rc tN nm d).before args s = true → parseFieldDescriptor d = some t → nm ≠ "backtrace" → nm ≠ "depth" → nm ≠ "stackTrace" → Fld Z h a tN nm d v → Fld Z T6.heap a tN nm d v := fun {nm d t v} wl ht e1 e2 e3 F => by
    obtain ⟨_, cf, k, i, f, y1, y2, y3, y4, y5, y6, y7⟩ := F
    cases x1.symm.trans y1
    obtain ⟨k', q, -⟩ := State.fieldFound?_setVm (s := Z) hZ.alike y2
    have q : s.fieldFound? tN nm d = some (cf, k', i, f) := q
    have nf := (State.fieldFound?_type q ht).1
    have ap : ∀ {nm' d' : String} {c' : ClassId} {k'' : Class} {i' : Nat} {f' : Field}, (Cond.lays own_rc tN nm' d').before args s = true → s.fieldFound? tN nm' d' = some (c', k'', i', f') → f'.name = nm' → nm ≠ nm' → f.slot ≠ f'.slot := fun wl' hf' n' ne => Cond.lays_apart wl wl' q hf' (by rw [nf, n']; exact ne)
    exact ⟨C6, cf, k, i, f, hD6, y2, y3, by rw [q2]; exact y4, by rw [q2]; exact y5, by rw [q1]; exact y6, (q4 f.slot (ap (w 24 rfl) ffB nB e1) (ap (w 28 rfl) ffD nD e2) (ap (w 22 rfl) hTs hTsn e3)).trans y7⟩
  refine ⟨T6, T6.heap, _, X6.mono (Nat.le_refl _) (Nat.add_le_add_left hn' _), rfl, hbL, own_keep2 hK KX hsz, NX NU, ⟨C6, kc, hD6, by rw [q1]; exact x2, by rw [q1]; exact x3, by rw [q2]; exact x4, fun z => by rw [q3]; exact x5 z⟩,
    fun v => kf (t := .object tN) (w 32 rfl) (by decide +kernel) (by decide) (by decide) (by decide), fun v => kf (t := .object "java/lang/String") (w 33 rfl) (by decide +kernel) (by decide) (by decide) (by decide), fun target k => come.trans k⟩
def Tst (Z : State) (u1 u2 : RefV) : Prop := Sta Z Z.heap "java/lang/Throwable" "UNASSIGNED_STACK" "[Ljava/lang/StackTraceElement;" u1.v ∧ Sta Z Z.heap "java/lang/Throwable" "SUPPRESSED_SENTINEL" "Ljava/util/List;" u2.v
def Xfr (Z : State) (h : Heap) (a : Addr) : Prop := Exa Z h a "com/example/narrow_lease/narrowlease/LeaseLostException" ∧ Unt h a ∧ Fld Z h a "java/lang/Throwable" "cause" "Ljava/lang/Throwable;" .null ∧ Fld Z h a "java/lang/Throwable" "stackTrace" "[Ljava/lang/StackTraceElement;" .null ∧ Fld Z h a "java/lang/Throwable" "suppressedExceptions" "Ljava/util/List;" .null ∧ Fld Z h a "java/lang/Throwable" "detailMessage" "Ljava/lang/String;" .null ∧ Fld Z h a "java/lang/Throwable" "backtrace" "Ljava/lang/Object;" .null
theorem Xfr.ext {Z : State} {h h' : Heap} {a : Addr} (F : Xfr Z h a) (E : Ext h h') : Xfr Z h' a := ⟨F.1.ext E, F.2.1.ext E, F.2.2.1.ext E, F.2.2.2.1.ext E, F.2.2.2.2.1.ext E, F.2.2.2.2.2.1.ext E, F.2.2.2.2.2.2.ext E⟩
theorem Xfr.keep {Z : State} {h h' : Heap} {a : Addr} {ws : List Addr} (F : Xfr Z h a) (K : Keep h h' ws) (q : a ∉ ws) : Xfr Z h' a := ⟨F.1.keep K, Unt.keep K q F.2.1, F.2.2.1.keep K q, F.2.2.2.1.keep K q, F.2.2.2.2.1.keep K q, F.2.2.2.2.2.1.keep K q, F.2.2.2.2.2.2.keep K q⟩
def Xcd (Z : State) (h : Heap) (a b : Addr) : Prop := Exa Z h a "com/example/narrow_lease/narrowlease/LeaseLostException" ∧ Unt h a ∧ Fld Z h a "java/lang/Throwable" "cause" "Ljava/lang/Throwable;" (.ref a) ∧ Fld Z h a "java/lang/Throwable" "detailMessage" "Ljava/lang/String;" (.ref b)
def Qx (Z : State) (a b : Addr) (h0 : Heap) (n0 : Nat) (v : Option Value) (h : Heap) (Lc : List Loc) : Prop := v = none ∧ Fr n0 Lc ∧ Keep h0 h [a] ∧ Xcd Z h a b
theorem pn9 : plainName "java/lang/Throwable" = true := by first | (simp [plainName, overriddenIn]; done) | decide +kernel
theorem d33_0 : Dc cb55 0 (.aload_n 0) 1 := by decide +kernel
theorem d33_1 : Dc cb55 1 (.invokespecial 1) 3 := by decide +kernel
theorem d33_4 : Dc cb55 4 (.aload_n 0) 1 := by decide +kernel
theorem d33_5 : Dc cb55 5 (.aload_n 0) 1 := by decide +kernel
theorem d33_6 : Dc cb55 6 (.putfield 7) 3 := by decide +kernel
theorem d33_9 : Dc cb55 9 (.aload_n 0) 1 := by decide +kernel
theorem d33_10 : Dc cb55 10 (.getstatic 13) 3 := by decide +kernel
theorem d33_13 : Dc cb55 13 (.putfield 17) 3 := by decide +kernel
theorem d33_16 : Dc cb55 16 (.aload_n 0) 1 := by decide +kernel
theorem d33_17 : Dc cb55 17 (.getstatic 20) 3 := by decide +kernel
theorem d33_20 : Dc cb55 20 (.putfield 24) 3 := by decide +kernel
theorem d33_23 : Dc cb55 23 (.aload_n 0) 1 := by decide +kernel
theorem d33_24 : Dc cb55 24 (.invokevirtual 27) 3 := by decide +kernel
theorem d33_27 : Dc cb55 27 .pop 1 := by decide +kernel
theorem d33_28 : Dc cb55 28 (.aload_n 0) 1 := by decide +kernel
theorem d33_29 : Dc cb55 29 (.aload_n 1) 1 := by decide +kernel
theorem d33_30 : Dc cb55 30 (.putfield 31) 3 := by decide +kernel
theorem d33_33 : Dc cb55 33 .return_ 1 := by decide +kernel
theorem ef_rx_t (m : MethodId) (x0 : Addr) (x1 : Addr) : entryFrame m #[(.ref x0), (.ref x1)] 2 = mkF m 0 #[.val (.ref x0), .val (.ref x1)] [] := by first | (simp [entryFrame, mkF, argsToLocals, Value.category]; done) | rfl
set_option maxRecDepth 65536 in
set_option maxHeartbeats 40000000 in
theorem rx_t (l : Launch) (Z : State) (a0 : Array Value) (hw : Hw a0 Z) (ws : List Jvm.Cond) (G1 : Int32) (Fm : Value) (u1 : RefV) (u2 : RefV) (a1 : Addr) (a2 : Addr) (h0 : Heap) (n0 : Nat) (O0 : Old Z n0 h0) (ST : Stc Z G1 Fm) (hl : l.stackTraces = true) (TS : Tst Z u1 u2) (HX : Xfr Z h0 a1) (g_a1 : n0 ≤ a1) :
    MetFree l Y_39 (head1 (Jvm.Cond.code Y_39 jdk_78_method_2_code 2 none :: ws) R_25) (fun a U => a = #[(.ref a1), (.ref a2)] ∧ Z.Warmed39 U.vm ∧ U.heap = h0) (fun _ _ bl s _ => s.vm.MethodsKnown ∧ s.vm.FramesKnown bl) (fun _ U o U' => ∃ v L, o = .returned v ∧ Qx Z a1 a2 h0 n0 v U'.heap L ∧ FrameEnd U o U' L R_25.cells R_25.slots) := by
  refine MetFree.of_bodySF (plainFor_of_name pn9) hisR ?_
  intro p e s m args below meth c s₁ Bd hml0 hP hK
  obtain ⟨rfl, hZ, hh⟩ := hP
  have hx := Bd.exec
  have hby := Bd.bytes
  have hml : c.maxLocals = 2 := hml0
  have hown : s.vm.findClass "java/lang/Throwable" = some m.cls := findClass_of_methodNamed Bd.named
  have hnm := (name_of_methodNamed Bd.named Bd.method).1
  have X0 : Stand p l e R_25 s m #[(.ref a1), (.ref a2)] below meth c s₁ [] 0 0 := Stand.of_body Bd
  have e0 : s₁.heap = h0 := by rw [← hh, Bd.state]; rfl
  have N0 := Fr.nil n0
  obtain ⟨S_cs, hG, S_fm, hF, S_ad, S_hi, S_lo⟩ := id ST
  obtain ⟨S_us, S_ss⟩ := id TS
  obtain ⟨E_a, NU, F_cause, F_stackTrace, F_suppressedExceptions, F_detailMessage, F_backtrace⟩ := id HX
  obtain ⟨T1, X1, e1, st1⟩ := initO X0 hx hZ hown (tw hw 197 rfl) (tw hw 17 rfl) (tw hw 18 rfl) e0 (g := (mkF m 1 (q_0 a1 a2) [(.ref a1)])) rfl (by rw [hml]; rfl) rfl (hb hby d33_1) (by decide) (W := 0) (by show 2 * 0 + _ ≤ _; exact Nat.le_of_eq rfl) (by decide)
  obtain ⟨T2, h2, X2, e2, W2, st2⟩ := putF X1 hx hZ hown (host := "") (Or.inl (tw hw 198 rfl)) Via.refl e1 F_cause E_a (Or.inl (tw hw 199 rfl)) (tw hw 46 rfl) (ty := (.object "java/lang/Throwable")) (by decide) rfl rfl (g := (mkF m 6 (q_0 a1 a2) [(.ref a1), (.ref a1)])) rfl rfl (hb hby d33_6)
  have Fw2 := F_cause.same W2
  have O3 := O0.wr W2 g_a1
  have kp4 : Keep h0 h2 [a1] := (Keep.refl h0 [a1]).wr W2 (Or.inl (List.mem_of_getElem? (i := 0) rfl))
  have N2 := Fr.snoc X2 N0 g_a1
  obtain ⟨T5, X5, e5, st5⟩ := getS2 X2 hx hZ hown (host := "") (Or.inl (tw hw 200 rfl)) Via.refl e2 (S_us.ext O3.2) (g := (mkF m 10 (q_0 a1 a2) [(.ref a1)])) rfl (hb hby d33_10)
  obtain ⟨T6, h6, X6, e6, W6, st6⟩ := putF X5 hx hZ hown (host := "") (Or.inl (tw hw 201 rfl)) Via.refl e5 (F_stackTrace.other W2 (Or.inr (slot_ne (Or.inl (tw hw 202 rfl)) (Or.inl (tw hw 199 rfl)) (by decide) (t := (.array (.object "java/lang/StackTraceElement"))) (t' := (.object "java/lang/Throwable")) (by decide) (by decide)))) (E_a.wr W2) (Or.inl (tw hw 202 rfl)) (tw hw 46 rfl) (ty := (.array (.object "java/lang/StackTraceElement"))) (by decide) (narrow_refV _ u1) (fits_refV_array _ u1) (g := (mkF m 13 (q_0 a1 a2) [u1.v, (.ref a1)])) rfl rfl (hb hby d33_13)
  have Fw6 := (F_stackTrace.other W2 (Or.inr (slot_ne (Or.inl (tw hw 202 rfl)) (Or.inl (tw hw 199 rfl)) (by decide) (t := (.array (.object "java/lang/StackTraceElement"))) (t' := (.object "java/lang/Throwable")) (by decide) (by decide)))).same W6
  have O7 := O3.wr W6 g_a1
  have kp8 : Keep h0 h6 [a1] := kp4.wr W6 (Or.inl (List.mem_of_getElem? (i := 0) rfl))
  have N6 := Fr.snoc X6 N2 g_a1
  obtain ⟨T9, X9, e9, st9⟩ := getS2 X6 hx hZ hown (host := "") (Or.inl (tw hw 203 rfl)) Via.refl e6 (S_ss.ext O7.2) (g := (mkF m 17 (q_0 a1 a2) [(.ref a1)])) rfl (hb hby d33_17)
  obtain ⟨T10, h10, X10, e10, W10, st10⟩ := putF X9 hx hZ hown (host := "") (Or.inl (tw hw 204 rfl)) Via.refl e9 ((F_suppressedExceptions.other W2 (Or.inr (slot_ne (Or.inl (tw hw 205 rfl)) (Or.inl (tw hw 199 rfl)) (by decide) (t := (.object "java/util/List")) (t' := (.object "java/lang/Throwable")) (by decide) (by decide)))).other W6 (Or.inr (slot_ne (Or.inl (tw hw 205 rfl)) (Or.inl (tw hw 202 rfl)) (by decide) (t := (.object "java/util/List")) (t' := (.array (.object "java/lang/StackTraceElement"))) (by decide) (by decide)))) ((E_a.wr W2).wr W6) (Or.inl (tw hw 205 rfl)) (tw hw 46 rfl) (ty := (.object "java/util/List")) (by decide) (narrow_refV _ u2) (fits_refV_object _ u2) (g := (mkF m 20 (q_0 a1 a2) [u2.v, (.ref a1)])) rfl rfl (hb hby d33_20)
  have Fw10 := ((F_suppressedExceptions.other W2 (Or.inr (slot_ne (Or.inl (tw hw 205 rfl)) (Or.inl (tw hw 199 rfl)) (by decide) (t := (.object "java/util/List")) (t' := (.object "java/lang/Throwable")) (by decide) (by decide)))).other W6 (Or.inr (slot_ne (Or.inl (tw hw 205 rfl)) (Or.inl (tw hw 202 rfl)) (by decide) (t := (.object "java/util/List")) (t' := (.array (.object "java/lang/StackTraceElement"))) (by decide) (by decide)))).same W10
  have O11 := O7.wr W10 g_a1
  have kp12 : Keep h0 h10 [a1] := kp8.wr W10 (Or.inl (List.mem_of_getElem? (i := 0) rfl))
  have N10 := Fr.snoc X10 N6 g_a1
  obtain ⟨T13, h13, L13, X13, e13, bL13, K13, NU13, Ea13, kc13, km13, st13⟩ := own_fill X10 hx hl hZ hown (own_thrT hw) (tw hw 46 rfl) (by rw [hh]; exact ThS.ext O0.2 ThS.start) hK.1 hK.2 e10 (((E_a.wr W2).wr W6).wr W10) (((F_backtrace.other W2 (Or.inr (slot_ne (Or.inl (tw hw 230 rfl)) (Or.inl (tw hw 199 rfl)) (by decide) (t := (.object "java/lang/Object")) (t' := (.object "java/lang/Throwable")) (by decide) (by decide)))).other W6 (Or.inr (slot_ne (Or.inl (tw hw 230 rfl)) (Or.inl (tw hw 202 rfl)) (by decide) (t := (.object "java/lang/Object")) (t' := (.array (.object "java/lang/StackTraceElement"))) (by decide) (by decide)))).other W10 (Or.inr (slot_ne (Or.inl (tw hw 230 rfl)) (Or.inl (tw hw 205 rfl)) (by decide) (t := (.object "java/lang/Object")) (t' := (.object "java/util/List")) (by decide) (by decide)))) (u := u1) (Fw6.other W10 (Or.inr (slot_ne (Or.inl (tw hw 202 rfl)) (Or.inl (tw hw 205 rfl)) (by decide) (t := (.array (.object "java/lang/StackTraceElement"))) (t' := (.object "java/util/List")) (by decide) (by decide)))) (S_us.ext O11.2) (own_bS (own_bS (own_bS own_b0))) rfl (by rw [hh]; exact NU) (g := (mkF m 24 (q_0 a1 a2) [(.ref a1)])) rfl (by rw [hml]; rfl) rfl (hb hby d33_24) (W0 := 0) (by show 2 * 0 + _ ≤ _; exact Nat.le_of_eq rfl) (by decide) (by decide) (by decide) (by decide)
  have N13 := Fr.app N10 (fun y hy => by rw [bL13 y hy]; exact g_a1)
  have O14 := O11.keep K13 (allS g_a1 all0)
  have kp15 : Keep h0 h13 [a1] := kp12.trans K13 (allS (Or.inl (List.mem_of_getElem? (i := 0) rfl)) all0)
  obtain ⟨T16, h16, X16, e16, W16, st16⟩ := putF X13 hx hZ hown (host := "") (Or.inl (tw hw 233 rfl)) Via.refl e13 (km13 _ (((F_detailMessage.other W2 (Or.inr (slot_ne (Or.inl (tw hw 229 rfl)) (Or.inl (tw hw 199 rfl)) (by decide) (t := (.object "java/lang/String")) (t' := (.object "java/lang/Throwable")) (by decide) (by decide)))).other W6 (Or.inr (slot_ne (Or.inl (tw hw 229 rfl)) (Or.inl (tw hw 202 rfl)) (by decide) (t := (.object "java/lang/String")) (t' := (.array (.object "java/lang/StackTraceElement"))) (by decide) (by decide)))).other W10 (Or.inr (slot_ne (Or.inl (tw hw 229 rfl)) (Or.inl (tw hw 205 rfl)) (by decide) (t := (.object "java/lang/String")) (t' := (.object "java/util/List")) (by decide) (by decide))))) Ea13 (Or.inl (tw hw 229 rfl)) (tw hw 46 rfl) (ty := (.object "java/lang/String")) (by decide) rfl rfl (g := (mkF m 30 (q_0 a1 a2) [(.ref a2), (.ref a1)])) rfl rfl (hb hby d33_30)
  have Fw16 := (km13 _ (((F_detailMessage.other W2 (Or.inr (slot_ne (Or.inl (tw hw 229 rfl)) (Or.inl (tw hw 199 rfl)) (by decide) (t := (.object "java/lang/String")) (t' := (.object "java/lang/Throwable")) (by decide) (by decide)))).other W6 (Or.inr (slot_ne (Or.inl (tw hw 229 rfl)) (Or.inl (tw hw 202 rfl)) (by decide) (t := (.object "java/lang/String")) (t' := (.array (.object "java/lang/StackTraceElement"))) (by decide) (by decide)))).other W10 (Or.inr (slot_ne (Or.inl (tw hw 229 rfl)) (Or.inl (tw hw 205 rfl)) (by decide) (t := (.object "java/lang/String")) (t' := (.object "java/util/List")) (by decide) (by decide))))).same W16
  have O17 := O14.wr W16 g_a1
  have kp18 : Keep h0 h16 [a1] := kp15.wr W16 (Or.inl (List.mem_of_getElem? (i := 0) rfl))
  have N16 := Fr.snoc X16 N13 g_a1
  obtain ⟨fs, hr, hrun, hended, hW, hsame⟩ := X16.leave (v := none) (fun _ => rfl)
  refine ⟨_, _, castTop (ef_rx_t m a1 a2) ?_, hrun, hended, _, _, rfl, ?_, ⟨_, rfl⟩, hW, hsame.mono (by decide) (by decide)⟩
  · show Go p e below s₁ m 0 (q_0 a1 a2) [] _
    refine XS.aloadN X0.here hx rfl (hb hby d33_0) rfl rfl ?_
    refine st1 _ ?_
    show Go p e below T1 m 4 (q_0 a1 a2) [] _
    refine XS.aloadN X1.here hx rfl (hb hby d33_4) rfl rfl ?_
    refine XS.aloadN X1.here hx rfl (hb hby d33_5) rfl rfl ?_
    refine st2 _ ?_
    show Go p e below T2 m 9 (q_0 a1 a2) [] _
    refine XS.aloadN X2.here hx rfl (hb hby d33_9) rfl rfl ?_
    refine st5 _ ?_
    refine st6 _ ?_
    show Go p e below T6 m 16 (q_0 a1 a2) [] _
    refine XS.aloadN X6.here hx rfl (hb hby d33_16) rfl rfl ?_
    refine st9 _ ?_
    refine st10 _ ?_
    show Go p e below T10 m 23 (q_0 a1 a2) [] _
    refine XS.aloadN X10.here hx rfl (hb hby d33_23) rfl rfl ?_
    refine st13 _ ?_
    show Go p e below T13 m 27 (q_0 a1 a2) [(.ref a1)] _
    refine XS.pop X13.here hx rfl (hb hby d33_27) rfl rfl ?_
    show Go p e below T13 m 28 (q_0 a1 a2) [] _
    refine XS.aloadN X13.here hx rfl (hb hby d33_28) rfl rfl ?_
    refine XS.aloadN X13.here hx rfl (hb hby d33_29) rfl rfl ?_
    refine st16 _ ?_
    show Go p e below T16 m 33 (q_0 a1 a2) [] _
    exact X16.returnOut hx Bd.returns (hb hby d33_33) hr
  · show Qx Z a1 a2 h0 n0 _ T16.heap _
    rw [e16]
    exact ⟨rfl, N16, kp18, (Ea13.wr W16), by rw [← e16]; exact (own_keepX X16 (own_bS (own_bA (own_bS (own_bS (own_bS own_b0))) bL13))).2 (by rw [hh]; exact NU), ((kc13 _ ((Fw2.other W6 (Or.inr (slot_ne (Or.inl (tw hw 199 rfl)) (Or.inl (tw hw 202 rfl)) (by decide) (t := (.object "java/lang/Throwable")) (t' := (.array (.object "java/lang/StackTraceElement"))) (by decide) (by decide)))).other W10 (Or.inr (slot_ne (Or.inl (tw hw 199 rfl)) (Or.inl (tw hw 205 rfl)) (by decide) (t := (.object "java/lang/Throwable")) (t' := (.object "java/util/List")) (by decide) (by decide))))).other W16 (Or.inr (slot_ne (Or.inl (tw hw 199 rfl)) (Or.inl (tw hw 229 rfl)) (by decide) (t := (.object "java/lang/Throwable")) (t' := (.object "java/lang/String")) (by decide) (by decide)))), Fw16⟩
theorem pn10 : plainName "java/lang/Exception" = true := by first | (simp [plainName, overriddenIn]; done) | decide +kernel
theorem d32_0 : Dc cb56 0 (.aload_n 0) 1 := by decide +kernel
theorem d32_1 : Dc cb56 1 (.aload_n 1) 1 := by decide +kernel
theorem d32_2 : Dc cb56 2 (.invokespecial 7) 3 := by decide +kernel
theorem d32_5 : Dc cb56 5 .return_ 1 := by decide +kernel
theorem ef_rx_e (m : MethodId) (x0 : Addr) (x1 : Addr) : entryFrame m #[(.ref x0), (.ref x1)] 2 = mkF m 0 #[.val (.ref x0), .val (.ref x1)] [] := by first | (simp [entryFrame, mkF, argsToLocals, Value.category]; done) | rfl
set_option maxRecDepth 65536 in
set_option maxHeartbeats 40000000 in
theorem rx_e (l : Launch) (Z : State) (a0 : Array Value) (hw : Hw a0 Z) (ws : List Jvm.Cond) (G1 : Int32) (Fm : Value) (u1 : RefV) (u2 : RefV) (a1 : Addr) (a2 : Addr) (h0 : Heap) (n0 : Nat) (O0 : Old Z n0 h0) (ST : Stc Z G1 Fm) (hl : l.stackTraces = true) (TS : Tst Z u1 u2) (HX : Xfr Z h0 a1) (g_a1 : n0 ≤ a1) :
    MetFree l Y_40 (head1 (Jvm.Cond.code Y_40 jdk_59_method_2_code 2 none :: ws) R_26) (fun a U => a = #[(.ref a1), (.ref a2)] ∧ Z.Warmed39 U.vm ∧ U.heap = h0) (fun _ _ bl s _ => s.vm.MethodsKnown ∧ s.vm.FramesKnown bl) (fun _ U o U' => ∃ v L, o = .returned v ∧ Qx Z a1 a2 h0 n0 v U'.heap L ∧ FrameEnd U o U' L R_26.cells R_26.slots) := by
  refine MetFree.of_bodySF (plainFor_of_name pn10) hisR ?_
  intro p e s m args below meth c s₁ Bd hml0 hP hK
  obtain ⟨rfl, hZ, hh⟩ := hP
  have hx := Bd.exec
  have hby := Bd.bytes
  have hml : c.maxLocals = 2 := hml0
  have hown : s.vm.findClass "java/lang/Exception" = some m.cls := findClass_of_methodNamed Bd.named
  have hnm := (name_of_methodNamed Bd.named Bd.method).1
  have X0 : Stand p l e R_26 s m #[(.ref a1), (.ref a2)] below meth c s₁ [] 0 0 := Stand.of_body Bd
  have e0 : s₁.heap = h0 := by rw [← hh, Bd.state]; rfl
  have N0 := Fr.nil n0
  obtain ⟨S_cs, hG, S_fm, hF, S_ad, S_hi, S_lo⟩ := id ST
  obtain ⟨_, _, ⟨T1, L1, k1, n1⟩, -, X1, ⟨Lc1, hQ1, l1, y1, z1⟩, st1⟩ := X0.specialBack hx (y := Y_39) rfl hown (mvT hZ (tw hw 191 rfl)) (mvT hZ (tw hw 192 rfl)) (mvT hZ (tw hw 196 rfl)) (by decide) (backOfKL (W := 0) (rx_t l Z a0 hw [] G1 Fm u1 u2 a1 a2 h0 n0 O0 ST hl TS HX g_a1) hZ (tw hw 196 rfl) (tw hw 195 rfl) (by decide) (by decide) hK.1 hK.2) (g := (mkF m 2 (q_0 a1 a2) [(.ref a2), (.ref a1)])) rfl (by rw [hml]; rfl) (Steps.refl _) (a := a1) (argsL := [(.ref a2)]) (rest := []) (lenOf pd26 rfl) rfl (by show 2 * 0 + _ ≤ _; exact Nat.le_of_eq rfl) (hb hby d32_2) (fun _ _ => ⟨rfl, e0, (by decide : 0 + 1 ≤ _), (by decide : 0 + 2752 ≤ _)⟩)
  dsimp only [Pt.U, Pt.locs, Pt.cells, Pt.slots] at X1 l1 y1 z1 st1 hQ1
  subst l1 y1 z1
  obtain ⟨h1, e1⟩ : ∃ z, T1.heap = z := ⟨_, rfl⟩
  rw [e1] at hQ1
  obtain ⟨rfl, Nq1, K1, R1⟩ := hQ1
  have N1 := Fr.app N0 Nq1
  have O2 := O0.keep K1 (allS g_a1 all0)
  have kp3 : Keep h0 h1 [a1] := (Keep.refl h0 [a1]).trans K1 (allS (Or.inl (List.mem_of_getElem? (i := 0) rfl)) all0)
  have RR := R1
  obtain ⟨fs, hr, hrun, hended, hW, hsame⟩ := X1.leave (v := none) (fun _ => rfl)
  refine ⟨_, _, castTop (ef_rx_e m a1 a2) ?_, hrun, hended, _, _, rfl, ?_, ⟨_, rfl⟩, hW, hsame.mono (by decide) (by decide)⟩
  · show Go p e below s₁ m 0 (q_0 a1 a2) [] _
    refine XS.aloadN X0.here hx rfl (hb hby d32_0) rfl rfl ?_
    refine XS.aloadN X0.here hx rfl (hb hby d32_1) rfl rfl ?_
    refine st1.trans ?_
    show Go p e below T1 m 5 (q_0 a1 a2) [] _
    exact X1.returnOut hx Bd.returns (hb hby d32_5) hr
  · show Qx Z a1 a2 h0 n0 _ T1.heap _
    rw [e1]
    exact ⟨rfl, N1, kp3, RR⟩
theorem pn11 : plainName "java/lang/RuntimeException" = true := by first | (simp [plainName, overriddenIn]; done) | decide +kernel
theorem d31_0 : Dc cb57 0 (.aload_n 0) 1 := by decide +kernel
theorem d31_1 : Dc cb57 1 (.aload_n 1) 1 := by decide +kernel
theorem d31_2 : Dc cb57 2 (.invokespecial 7) 3 := by decide +kernel
theorem d31_5 : Dc cb57 5 .return_ 1 := by decide +kernel
theorem ef_rx_r (m : MethodId) (x0 : Addr) (x1 : Addr) : entryFrame m #[(.ref x0), (.ref x1)] 2 = mkF m 0 #[.val (.ref x0), .val (.ref x1)] [] := by first | (simp [entryFrame, mkF, argsToLocals, Value.category]; done) | rfl
set_option maxRecDepth 65536 in
set_option maxHeartbeats 40000000 in
theorem rx_r (l : Launch) (Z : State) (a0 : Array Value) (hw : Hw a0 Z) (ws : List Jvm.Cond) (G1 : Int32) (Fm : Value) (u1 : RefV) (u2 : RefV) (a1 : Addr) (a2 : Addr) (h0 : Heap) (n0 : Nat) (O0 : Old Z n0 h0) (ST : Stc Z G1 Fm) (hl : l.stackTraces = true) (TS : Tst Z u1 u2) (HX : Xfr Z h0 a1) (g_a1 : n0 ≤ a1) :
    MetFree l Y_41 (head1 (Jvm.Cond.code Y_41 jdk_58_method_2_code 2 none :: ws) R_27) (fun a U => a = #[(.ref a1), (.ref a2)] ∧ Z.Warmed39 U.vm ∧ U.heap = h0) (fun _ _ bl s _ => s.vm.MethodsKnown ∧ s.vm.FramesKnown bl) (fun _ U o U' => ∃ v L, o = .returned v ∧ Qx Z a1 a2 h0 n0 v U'.heap L ∧ FrameEnd U o U' L R_27.cells R_27.slots) := by
  refine MetFree.of_bodySF (plainFor_of_name pn11) hisR ?_
  intro p e s m args below meth c s₁ Bd hml0 hP hK
  obtain ⟨rfl, hZ, hh⟩ := hP
  have hx := Bd.exec
  have hby := Bd.bytes
  have hml : c.maxLocals = 2 := hml0
  have hown : s.vm.findClass "java/lang/RuntimeException" = some m.cls := findClass_of_methodNamed Bd.named
  have hnm := (name_of_methodNamed Bd.named Bd.method).1
  have X0 : Stand p l e R_27 s m #[(.ref a1), (.ref a2)] below meth c s₁ [] 0 0 := Stand.of_body Bd
  have e0 : s₁.heap = h0 := by rw [← hh, Bd.state]; rfl
  have N0 := Fr.nil n0
  obtain ⟨S_cs, hG, S_fm, hF, S_ad, S_hi, S_lo⟩ := id ST
  obtain ⟨_, _, ⟨T1, L1, k1, n1⟩, -, X1, ⟨Lc1, hQ1, l1, y1, z1⟩, st1⟩ := X0.specialBack hx (y := Y_40) rfl hown (mvT hZ (tw hw 185 rfl)) (mvT hZ (tw hw 186 rfl)) (mvT hZ (tw hw 190 rfl)) (by decide) (backOfKL (W := 0) (rx_e l Z a0 hw [] G1 Fm u1 u2 a1 a2 h0 n0 O0 ST hl TS HX g_a1) hZ (tw hw 190 rfl) (tw hw 189 rfl) (by decide) (by decide) hK.1 hK.2) (g := (mkF m 2 (q_0 a1 a2) [(.ref a2), (.ref a1)])) rfl (by rw [hml]; rfl) (Steps.refl _) (a := a1) (argsL := [(.ref a2)]) (rest := []) (lenOf pd26 rfl) rfl (by show 2 * 0 + _ ≤ _; exact Nat.le_of_eq rfl) (hb hby d31_2) (fun _ _ => ⟨rfl, e0, (by decide : 0 + 1 ≤ _), (by decide : 0 + 2752 ≤ _)⟩)
  dsimp only [Pt.U, Pt.locs, Pt.cells, Pt.slots] at X1 l1 y1 z1 st1 hQ1
  subst l1 y1 z1
  obtain ⟨h1, e1⟩ : ∃ z, T1.heap = z := ⟨_, rfl⟩
  rw [e1] at hQ1
  obtain ⟨rfl, Nq1, K1, R1⟩ := hQ1
  have N1 := Fr.app N0 Nq1
  have O2 := O0.keep K1 (allS g_a1 all0)
  have kp3 : Keep h0 h1 [a1] := (Keep.refl h0 [a1]).trans K1 (allS (Or.inl (List.mem_of_getElem? (i := 0) rfl)) all0)
  have RR := R1
  obtain ⟨fs, hr, hrun, hended, hW, hsame⟩ := X1.leave (v := none) (fun _ => rfl)
  refine ⟨_, _, castTop (ef_rx_r m a1 a2) ?_, hrun, hended, _, _, rfl, ?_, ⟨_, rfl⟩, hW, hsame.mono (by decide) (by decide)⟩
  · show Go p e below s₁ m 0 (q_0 a1 a2) [] _
    refine XS.aloadN X0.here hx rfl (hb hby d31_0) rfl rfl ?_
    refine XS.aloadN X0.here hx rfl (hb hby d31_1) rfl rfl ?_
    refine st1.trans ?_
    show Go p e below T1 m 5 (q_0 a1 a2) [] _
    exact X1.returnOut hx Bd.returns (hb hby d31_5) hr
  · show Qx Z a1 a2 h0 n0 _ T1.heap _
    rw [e1]
    exact ⟨rfl, N1, kp3, RR⟩
theorem pn12 : plainName "java/lang/IllegalMonitorStateException" = true := by first | (simp [plainName, overriddenIn]; done) | decide +kernel
theorem d30_0 : Dc cb58 0 (.aload_n 0) 1 := by decide +kernel
theorem d30_1 : Dc cb58 1 (.aload_n 1) 1 := by decide +kernel
theorem d30_2 : Dc cb58 2 (.invokespecial 7) 3 := by decide +kernel
theorem d30_5 : Dc cb58 5 .return_ 1 := by decide +kernel
theorem ef_rx_m (m : MethodId) (x0 : Addr) (x1 : Addr) : entryFrame m #[(.ref x0), (.ref x1)] 2 = mkF m 0 #[.val (.ref x0), .val (.ref x1)] [] := by first | (simp [entryFrame, mkF, argsToLocals, Value.category]; done) | rfl
set_option maxRecDepth 65536 in
set_option maxHeartbeats 40000000 in
theorem rx_m (l : Launch) (Z : State) (a0 : Array Value) (hw : Hw a0 Z) (ws : List Jvm.Cond) (G1 : Int32) (Fm : Value) (u1 : RefV) (u2 : RefV) (a1 : Addr) (a2 : Addr) (h0 : Heap) (n0 : Nat) (O0 : Old Z n0 h0) (ST : Stc Z G1 Fm) (hl : l.stackTraces = true) (TS : Tst Z u1 u2) (HX : Xfr Z h0 a1) (g_a1 : n0 ≤ a1) :
    MetFree l Y_42 (head1 (Jvm.Cond.code Y_42 jdk_2065_method_2_code 2 none :: ws) R_28) (fun a U => a = #[(.ref a1), (.ref a2)] ∧ Z.Warmed39 U.vm ∧ U.heap = h0) (fun _ _ bl s _ => s.vm.MethodsKnown ∧ s.vm.FramesKnown bl) (fun _ U o U' => ∃ v L, o = .returned v ∧ Qx Z a1 a2 h0 n0 v U'.heap L ∧ FrameEnd U o U' L R_28.cells R_28.slots) := by
  refine MetFree.of_bodySF (plainFor_of_name pn12) hisR ?_
  intro p e s m args below meth c s₁ Bd hml0 hP hK
  obtain ⟨rfl, hZ, hh⟩ := hP
  have hx := Bd.exec
  have hby := Bd.bytes
  have hml : c.maxLocals = 2 := hml0
  have hown : s.vm.findClass "java/lang/IllegalMonitorStateException" = some m.cls := findClass_of_methodNamed Bd.named
  have hnm := (name_of_methodNamed Bd.named Bd.method).1
  have X0 : Stand p l e R_28 s m #[(.ref a1), (.ref a2)] below meth c s₁ [] 0 0 := Stand.of_body Bd
  have e0 : s₁.heap = h0 := by rw [← hh, Bd.state]; rfl
  have N0 := Fr.nil n0
  obtain ⟨S_cs, hG, S_fm, hF, S_ad, S_hi, S_lo⟩ := id ST
  obtain ⟨_, _, ⟨T1, L1, k1, n1⟩, -, X1, ⟨Lc1, hQ1, l1, y1, z1⟩, st1⟩ := X0.specialBack hx (y := Y_41) rfl hown (mvT hZ (tw hw 179 rfl)) (mvT hZ (tw hw 180 rfl)) (mvT hZ (tw hw 184 rfl)) (by decide) (backOfKL (W := 0) (rx_r l Z a0 hw [] G1 Fm u1 u2 a1 a2 h0 n0 O0 ST hl TS HX g_a1) hZ (tw hw 184 rfl) (tw hw 183 rfl) (by decide) (by decide) hK.1 hK.2) (g := (mkF m 2 (q_0 a1 a2) [(.ref a2), (.ref a1)])) rfl (by rw [hml]; rfl) (Steps.refl _) (a := a1) (argsL := [(.ref a2)]) (rest := []) (lenOf pd26 rfl) rfl (by show 2 * 0 + _ ≤ _; exact Nat.le_of_eq rfl) (hb hby d30_2) (fun _ _ => ⟨rfl, e0, (by decide : 0 + 1 ≤ _), (by decide : 0 + 2752 ≤ _)⟩)
  dsimp only [Pt.U, Pt.locs, Pt.cells, Pt.slots] at X1 l1 y1 z1 st1 hQ1
  subst l1 y1 z1
  obtain ⟨h1, e1⟩ : ∃ z, T1.heap = z := ⟨_, rfl⟩
  rw [e1] at hQ1
  obtain ⟨rfl, Nq1, K1, R1⟩ := hQ1
  have N1 := Fr.app N0 Nq1
  have O2 := O0.keep K1 (allS g_a1 all0)
  have kp3 : Keep h0 h1 [a1] := (Keep.refl h0 [a1]).trans K1 (allS (Or.inl (List.mem_of_getElem? (i := 0) rfl)) all0)
  have RR := R1
  obtain ⟨fs, hr, hrun, hended, hW, hsame⟩ := X1.leave (v := none) (fun _ => rfl)
  refine ⟨_, _, castTop (ef_rx_m m a1 a2) ?_, hrun, hended, _, _, rfl, ?_, ⟨_, rfl⟩, hW, hsame.mono (by decide) (by decide)⟩
  · show Go p e below s₁ m 0 (q_0 a1 a2) [] _
    refine XS.aloadN X0.here hx rfl (hb hby d30_0) rfl rfl ?_
    refine XS.aloadN X0.here hx rfl (hb hby d30_1) rfl rfl ?_
    refine st1.trans ?_
    show Go p e below T1 m 5 (q_0 a1 a2) [] _
    exact X1.returnOut hx Bd.returns (hb hby d30_5) hr
  · show Qx Z a1 a2 h0 n0 _ T1.heap _
    rw [e1]
    exact ⟨rfl, N1, kp3, RR⟩
theorem pn13 : plainName "com/example/narrow_lease/narrowlease/LeaseLostException" = true := by first | (simp [plainName, overriddenIn]; done) | decide +kernel
theorem d29_0 : Dc cb59 0 (.aload_n 0) 1 := by decide +kernel
theorem d29_1 : Dc cb59 1 (.aload_n 1) 1 := by decide +kernel
theorem d29_2 : Dc cb59 2 (.invokespecial 1) 3 := by decide +kernel
theorem d29_5 : Dc cb59 5 .return_ 1 := by decide +kernel
theorem ef_rx_l (m : MethodId) (x0 : Addr) (x1 : Addr) : entryFrame m #[(.ref x0), (.ref x1)] 2 = mkF m 0 #[.val (.ref x0), .val (.ref x1)] [] := by first | (simp [entryFrame, mkF, argsToLocals, Value.category]; done) | rfl
set_option maxRecDepth 65536 in
set_option maxHeartbeats 40000000 in
theorem rx_l (l : Launch) (Z : State) (a0 : Array Value) (hw : Hw a0 Z) (ws : List Jvm.Cond) (G1 : Int32) (Fm : Value) (u1 : RefV) (u2 : RefV) (a1 : Addr) (a2 : Addr) (h0 : Heap) (n0 : Nat) (O0 : Old Z n0 h0) (ST : Stc Z G1 Fm) (hl : l.stackTraces = true) (TS : Tst Z u1 u2) (HX : Xfr Z h0 a1) (g_a1 : n0 ≤ a1) :
    MetFree l Y_43 (head1 (Jvm.Cond.code Y_43 prog_9_method_1_code 2 none :: ws) R_29) (fun a U => a = #[(.ref a1), (.ref a2)] ∧ Z.Warmed39 U.vm ∧ U.heap = h0) (fun _ _ bl s _ => s.vm.MethodsKnown ∧ s.vm.FramesKnown bl) (fun _ U o U' => ∃ v L, o = .returned v ∧ Qx Z a1 a2 h0 n0 v U'.heap L ∧ FrameEnd U o U' L R_29.cells R_29.slots) := by
  refine MetFree.of_bodySF (plainFor_of_name pn13) hisR ?_
  intro p e s m args below meth c s₁ Bd hml0 hP hK
  obtain ⟨rfl, hZ, hh⟩ := hP
  have hx := Bd.exec
  have hby := Bd.bytes
  have hml : c.maxLocals = 2 := hml0
  have hown : s.vm.findClass "com/example/narrow_lease/narrowlease/LeaseLostException" = some m.cls := findClass_of_methodNamed Bd.named
  have hnm := (name_of_methodNamed Bd.named Bd.method).1
  have X0 : Stand p l e R_29 s m #[(.ref a1), (.ref a2)] below meth c s₁ [] 0 0 := Stand.of_body Bd
  have e0 : s₁.heap = h0 := by rw [← hh, Bd.state]; rfl
  have N0 := Fr.nil n0
  obtain ⟨S_cs, hG, S_fm, hF, S_ad, S_hi, S_lo⟩ := id ST
  obtain ⟨_, _, ⟨T1, L1, k1, n1⟩, -, X1, ⟨Lc1, hQ1, l1, y1, z1⟩, st1⟩ := X0.specialBack hx (y := Y_42) rfl hown (mvT hZ (tw hw 174 rfl)) (mvT hZ (tw hw 175 rfl)) (mvT hZ (tw hw 178 rfl)) (by decide) (backOfKL (W := 0) (rx_m l Z a0 hw [] G1 Fm u1 u2 a1 a2 h0 n0 O0 ST hl TS HX g_a1) hZ (tw hw 178 rfl) (tw hw 177 rfl) (by decide) (by decide) hK.1 hK.2) (g := (mkF m 2 (q_0 a1 a2) [(.ref a2), (.ref a1)])) rfl (by rw [hml]; rfl) (Steps.refl _) (a := a1) (argsL := [(.ref a2)]) (rest := []) (lenOf pd26 rfl) rfl (by show 2 * 0 + _ ≤ _; exact Nat.le_of_eq rfl) (hb hby d29_2) (fun _ _ => ⟨rfl, e0, (by decide : 0 + 1 ≤ _), (by decide : 0 + 2752 ≤ _)⟩)
  dsimp only [Pt.U, Pt.locs, Pt.cells, Pt.slots] at X1 l1 y1 z1 st1 hQ1
  subst l1 y1 z1
  obtain ⟨h1, e1⟩ : ∃ z, T1.heap = z := ⟨_, rfl⟩
  rw [e1] at hQ1
  obtain ⟨rfl, Nq1, K1, R1⟩ := hQ1
  have N1 := Fr.app N0 Nq1
  have O2 := O0.keep K1 (allS g_a1 all0)
  have kp3 : Keep h0 h1 [a1] := (Keep.refl h0 [a1]).trans K1 (allS (Or.inl (List.mem_of_getElem? (i := 0) rfl)) all0)
  have RR := R1
  obtain ⟨fs, hr, hrun, hended, hW, hsame⟩ := X1.leave (v := none) (fun _ => rfl)
  refine ⟨_, _, castTop (ef_rx_l m a1 a2) ?_, hrun, hended, _, _, rfl, ?_, ⟨_, rfl⟩, hW, hsame.mono (by decide) (by decide)⟩
  · show Go p e below s₁ m 0 (q_0 a1 a2) [] _
    refine XS.aloadN X0.here hx rfl (hb hby d29_0) rfl rfl ?_
    refine XS.aloadN X0.here hx rfl (hb hby d29_1) rfl rfl ?_
    refine st1.trans ?_
    show Go p e below T1 m 5 (q_0 a1 a2) [] _
    exact X1.returnOut hx Bd.returns (hb hby d29_5) hr
  · show Qx Z a1 a2 h0 n0 _ T1.heap _
    rw [e1]
    exact ⟨rfl, N1, kp3, RR⟩
theorem Strx.ext {Z : State} {h h' : Heap} {a b : Addr} {k : ClassId} {cs : List UInt16} (F : Strx Z h a b k cs) (E : Ext h h') : Strx Z h' a b k cs :=
  F.imp (fun q => ⟨q.1.ext E, q.2.1.ext E, q.2.2.1.ext E, ⟨q.2.2.2.1.1.ext E, q.2.2.2.1.2⟩, q.2.2.2.2⟩) (fun q => ⟨q.1.ext E, q.2.1.ext E, q.2.2.1.ext E, ⟨q.2.2.2.1.ext E, q.2.2.2.2⟩⟩)
theorem Strx.keep {Z : State} {h h' : Heap} {a b : Addr} {k : ClassId} {cs : List UInt16} {ws : List Addr} (F : Strx Z h a b k cs) (K : Keep h h' ws) (n : a ∉ ws) (m : b ∉ ws) : Strx Z h' a b k cs :=
  F.imp (fun q => ⟨q.1.keep K, q.2.1.keep K n, q.2.2.1.keep K n, ⟨q.2.2.2.1.1.keep K m, q.2.2.2.1.2⟩, q.2.2.2.2⟩) (fun q => ⟨q.1.keep K, q.2.1.keep K n, q.2.2.1.keep K n, ⟨q.2.2.2.1.keep K m, q.2.2.2.2⟩⟩)
theorem Strx.lt {Z : State} {h : Heap} {a b : Addr} {k : ClassId} {cs : List UInt16} (F : Strx Z h a b k cs) : a < h.size ∧ b < h.size := F.elim (fun q => ⟨q.1.lt, q.2.2.2.1.1.lt⟩) (fun q => ⟨q.1.lt, q.2.2.2.1.lt⟩)
theorem Strx.exa {Z : State} {h : Heap} {a b : Addr} {k : ClassId} {cs : List UInt16} (F : Strx Z h a b k cs) : Exa Z h a "java/lang/String" := F.elim (fun q => q.1) (fun q => q.1)
theorem Sbx.ext {Z : State} {h h' : Heap} {a b : Addr} {k : ClassId} {LB n : Nat} {cs : List UInt16} (F : Sbx Z h a b k LB n cs) (E : Ext h h') : Sbx Z h' a b k LB n cs :=
  F.imp (fun ⟨q1, q2, q3, q4, q5, q6, q7, q8, tl, q9⟩ => ⟨q1.ext E, q2.ext E, q3.ext E, q4.ext E, q5.ext E, q6.ext E, q7, q8, tl, q9.1.ext E, q9.2⟩) (fun ⟨q1, q2, q3, q4, q5, q6, q8, tl, q9⟩ => ⟨q1.ext E, q2.ext E, q3.ext E, q4.ext E, q5.ext E, q6.ext E, q8, tl, q9.1.ext E, q9.2⟩)
theorem Sbx.eb {Z : State} {h : Heap} {a b : Addr} {k : ClassId} {LB n : Nat} {cs : List UInt16} (F : Sbx Z h a b k LB n cs) : Exa Z h b "[B" := F.elim (fun q => q.2.2.2.2.2.1) (fun q => q.2.2.2.2.2.1)
theorem own_orle {x b : Addr} {m z : Nat} (h : x = b ∨ m ≤ x) (g : z ≤ b) (q : z ≤ m) : z ≤ x := h.elim (fun e => e ▸ g) (fun e => Nat.le_trans q e)
theorem own_orlt {x b y : Addr} {m : Nat} (h : x = b ∨ m ≤ x) (g : y < b) (q : y < m) : y < x := h.elim (fun e => e ▸ g) (fun e => Nat.lt_of_lt_of_le q e)
theorem own_orsf {Z : State} {EL : List (String × Nat)} {vm : Vm} {h : Heap} {x b : Addr} (o : x = b ∨ h.size ≤ x) (S : Safe Z EL vm h b) : Safe Z EL vm h x := o.elim (fun e => e ▸ S) (fun g => Safe.new g)
def Qe (Z : State) (t : List UInt16) (h0 : Heap) (n0 : Nat) (v : Option Value) (h : Heap) (Lc : List Loc) : Prop := ∃ (x s b : Addr) (k : ClassId), v = some (.ref x) ∧ Fr n0 Lc ∧ Keep h0 h [] ∧ h0.size ≤ x ∧ Xcd Z h x s ∧ Strx Z h s b k t
theorem d7_0 : Dc cb60 0 (.new 8) 3 := by decide +kernel
theorem d7_3 : Dc cb60 3 .dup 1 := by decide +kernel
theorem d7_4 : Dc cb60 4 (.new 13) 3 := by decide +kernel
theorem d7_7 : Dc cb60 7 .dup 1 := by decide +kernel
theorem d7_8 : Dc cb60 8 (.invokespecial 15) 3 := by decide +kernel
theorem d7_11 : Dc cb60 11 (.ldc 18) 2 := by decide +kernel
theorem d7_13 : Dc cb60 13 (.invokevirtual 20) 3 := by decide +kernel
theorem pd36 : parseMethodDescriptor "(Ljava/lang/String;)Ljava/lang/StringBuilder;" = some ⟨[(.object "java/lang/String")], some (.object "java/lang/StringBuilder")⟩ := by decide +kernel
theorem d7_16 : Dc cb60 16 (.aload_n 0) 1 := by decide +kernel
theorem d7_17 : Dc cb60 17 (.invokevirtual 20) 3 := by decide +kernel
theorem d7_20 : Dc cb60 20 (.ldc 24) 2 := by decide +kernel
theorem d7_22 : Dc cb60 22 (.invokevirtual 20) 3 := by decide +kernel
theorem d7_25 : Dc cb60 25 (.aload_n 1) 1 := by decide +kernel
theorem d7_26 : Dc cb60 26 (.invokevirtual 20) 3 := by decide +kernel
theorem d7_29 : Dc cb60 29 (.ldc 26) 2 := by decide +kernel
theorem d7_31 : Dc cb60 31 (.invokevirtual 20) 3 := by decide +kernel
theorem d7_34 : Dc cb60 34 (.invokevirtual 28) 3 := by decide +kernel
theorem pd37 : parseMethodDescriptor "()Ljava/lang/String;" = some ⟨[], some (.object "java/lang/String")⟩ := by decide +kernel
theorem d7_37 : Dc cb60 37 (.invokespecial 32) 3 := by decide +kernel
theorem d7_40 : Dc cb60 40 .areturn 1 := by decide +kernel
theorem ef_rr_l (m : MethodId) (x0 : Addr) (x1 : Addr) : entryFrame m #[(.ref x0), (.ref x1)] 2 = mkF m 0 #[.val (.ref x0), .val (.ref x1)] [] := by first | (simp [entryFrame, mkF, argsToLocals, Value.category]; done) | rfl
set_option maxRecDepth 65536 in
set_option maxHeartbeats 40000000 in
theorem rr_l (l : Launch) (Z : State) (a0 : Array Value) (hw : Hw a0 Z) (ws : List Jvm.Cond) (G1 : Int32) (Fm : Value) (u1 : RefV) (u2 : RefV) (a1 : Addr) (bM : Addr) (kM : ClassId) (cs : List UInt16) (a2 : Addr) (bN : Addr) (kN : ClassId) (ds : List UInt16) (h0 : Heap) (n0 : Nat) (O0 : Old Z n0 h0) (ST : Stc Z G1 Fm) (hl : l.stackTraces = true) (TS : Tst Z u1 u2) (HM : Strx Z h0 a1 bM kM cs) (HN : Strx Z h0 a2 bN kN ds) (hcs : cs.length ≤ 2) (hds : ds.length ≤ 2) :
    MetFree l Y_44 (head1 (Jvm.Cond.code Y_44 prog_9_method_3_code 2 (some (.object "com/example/narrow_lease/narrowlease/LeaseLostException")) :: ws) R_7) (fun a U => a = #[(.ref a1), (.ref a2)] ∧ Z.Warmed39 U.vm ∧ U.heap = h0 ∧ CHv Z EL0 U.vm h0) (fun _ _ bl s _ => s.vm.MethodsKnown ∧ s.vm.FramesKnown bl) (fun _ U o U' => ∃ v L, o = .returned v ∧ Qe Z ((((([] ++ TA) ++ cs) ++ TB) ++ ds) ++ TC) h0 n0 v U'.heap L ∧ CHr Z EL0 U.vm U.heap U'.vm U'.heap ∧ ReturnedEndW U o U' L R_7.cells R_7.slots) := by
  refine MetFree.of_bodySF (plainFor_of_name pn13) hisR ?_
  intro p e s m args below meth c s₁ Bd hml0 hP hK
  obtain ⟨rfl, hZ, hh, H0⟩ := hP
  have hx := Bd.exec
  have hby := Bd.bytes
  have hml : c.maxLocals = 2 := hml0
  have hown : s.vm.findClass "com/example/narrow_lease/narrowlease/LeaseLostException" = some m.cls := findClass_of_methodNamed Bd.named
  have hnm := (name_of_methodNamed Bd.named Bd.method).1
  have X0 : Stand p l e R_7 s m #[(.ref a1), (.ref a2)] below meth c s₁ [] 0 0 := Stand.of_body Bd
  have e0 : s₁.heap = h0 := by rw [← hh, Bd.state]; rfl
  have N0 := Fr.nil n0
  have X0 : Stand p l e R_7 (s.setVm s.vm) m #[(.ref a1), (.ref a2)] below meth c s₁ [] 0 0 := X0
  have hZ : Z.Warmed39 (s.setVm s.vm).vm := hZ
  have hown : (s.setVm s.vm).vm.findClass "com/example/narrow_lease/narrowlease/LeaseLostException" = some m.cls := hown
  have hS : s.Since s.vm 0 := (State.WarmedH.refl s).since 0
  have hk : 0 ≤ h0.size := Nat.zero_le _
  have CH0 := CHr.refl H0
  obtain ⟨S_cs, hG, S_fm, hF, S_ad, S_hi, S_lo⟩ := id ST
  have hA0 := hZ.alike
  obtain ⟨lt_a1, lt_bM⟩ := HM.lt
  obtain ⟨lt_a2, lt_bN⟩ := HN.lt
  have lA : TA.length = 14 := by decide
  have lB : TB.length = 38 := by decide
  have lC : TC.length = 60 := by decide
  obtain ⟨T1, h1, X1, e1, E1, A1, D1, U1, st1⟩ := newO X0 hx hZ hown (tw hw 45 rfl) (tw hw 46 rfl) (tw hw 43 rfl) e0 (g := (mkF m 0 (q_0 a1 a2) [])) rfl (hb hby d7_0) (by decide) (by decide)
  obtain ⟨b1, g1⟩ : ∃ z, z = h0.size := ⟨_, rfl⟩
  rw [← g1] at A1 D1 U1 st1
  have g_b1 : n0 ≤ b1 := by rw [g1]; exact Nat.le_trans (Nat.le_of_eq O0.1.symm) O0.2.1
  have sz_b1 : h0.size ≤ b1 := by rw [g1]; exact (Keep.refl h0 []).1
  have sf_b1 : Safe Z EL0 s.vm h0 b1 := Safe.new (Nat.le_of_eq g1.symm)
  have O2 := O0.ext E1
  have kp3 : Keep h0 h1 [] := (Keep.refl h0 []).ext E1
  have ch4 := CHr.ext E1 H0
  have sf4_b1 := Safe.ext E1 H0 sf_b1
  have CH4 := CHr.trans CH0 ch4
  have hk := Nat.le_trans hk ch4.2.1
  have F_cause_b1 : Fld Z h1 b1 "java/lang/Throwable" "cause" "Ljava/lang/Throwable;" .null := D1 (Or.inl (tw hw 199 rfl)) (ty := (.object "java/lang/Throwable")) (by decide)
  have F_stackTrace_b1 : Fld Z h1 b1 "java/lang/Throwable" "stackTrace" "[Ljava/lang/StackTraceElement;" .null := D1 (Or.inl (tw hw 202 rfl)) (ty := (.array (.object "java/lang/StackTraceElement"))) (by decide)
  have F_suppressedExceptions_b1 : Fld Z h1 b1 "java/lang/Throwable" "suppressedExceptions" "Ljava/util/List;" .null := D1 (Or.inl (tw hw 205 rfl)) (ty := (.object "java/util/List")) (by decide)
  have F_detailMessage_b1 : Fld Z h1 b1 "java/lang/Throwable" "detailMessage" "Ljava/lang/String;" .null := D1 (Or.inl (tw hw 229 rfl)) (ty := (.object "java/lang/String")) (by decide)
  have F_backtrace_b1 : Fld Z h1 b1 "java/lang/Throwable" "backtrace" "Ljava/lang/Object;" .null := D1 (Or.inl (tw hw 230 rfl)) (ty := (.object "java/lang/Object")) (by decide)
  have F_depth_b1 : Fld Z h1 b1 "java/lang/Throwable" "depth" "I" (.int (0 : Int32)) := D1 (Or.inl (tw hw 231 rfl)) (ty := .int) (by decide)
  have HX : Xfr Z h1 b1 := ⟨A1, U1, F_cause_b1, F_stackTrace_b1, F_suppressedExceptions_b1, F_detailMessage_b1, F_backtrace_b1⟩
  obtain ⟨T5, h5, X5, e5, E5, A5, D5, U5, st5⟩ := newO X1 hx hZ hown (tw hw 47 rfl) (tw hw 48 rfl) (tw hw 49 rfl) e1 (g := (mkF m 4 (q_0 a1 a2) [(.ref b1), (.ref b1)])) rfl (hb hby d7_4) (by decide) (by decide)
  obtain ⟨b5, g5⟩ : ∃ z, z = h1.size := ⟨_, rfl⟩
  rw [← g5] at A5 D5 U5 st5
  have g_b5 : n0 ≤ b5 := by rw [g5]; exact Nat.le_trans (Nat.le_of_eq O2.1.symm) O2.2.1
  have sz_b5 : h0.size ≤ b5 := by rw [g5]; exact kp3.1
  have lt_b1_b5 : b1 < b5 := by rw [g5]; exact A1.lt
  have sf_b5 : Safe Z EL0 s.vm h1 b5 := Safe.new (Nat.le_of_eq g5.symm)
  have O6 := O2.ext E5
  have kp7 : Keep h0 h5 [] := kp3.ext E5
  have ch8 := CHr.ext E5 ch4.1
  have sf8_b1 := Safe.ext E5 ch4.1 sf4_b1
  have sf8_b5 := Safe.ext E5 ch4.1 sf_b5
  have CH8 := CHr.trans CH4 ch8
  have hk := Nat.le_trans hk ch8.2.1
  have F_value_b5 : Fld Z h5 b5 "java/lang/AbstractStringBuilder" "value" "[B" .null := D5 (Or.inl (tw hw 62 rfl)) (ty := (.array .byte)) (by decide)
  have F_coder_b5 : Fld Z h5 b5 "java/lang/AbstractStringBuilder" "coder" "B" (.int (0 : Int32)) := D5 (Or.inl (tw hw 64 rfl)) (ty := .byte) (by decide)
  have F_count_b5 : Fld Z h5 b5 "java/lang/AbstractStringBuilder" "count" "I" (.int (0 : Int32)) := D5 (Or.inl (tw hw 78 rfl)) (ty := .int) (by decide)
  have F_maybeLatin1_b5 : Fld Z h5 b5 "java/lang/AbstractStringBuilder" "maybeLatin1" "Z" (.int (0 : Int32)) := D5 (Or.inl (tw hw 336 rfl)) (ty := .boolean) (by decide)
  obtain ⟨_, T9, Lc9, X9, hQ9, st9⟩ := own_ic X5 hx hZ (y := Y_58) rfl hown (tw hw 50 rfl) (tw hw 51 rfl) (by decide) (rb_i l Z a0 hw [] G1 Fm b5 h5 n0 O6 ST A5 F_value_b5 F_coder_b5 F_count_b5 F_maybeLatin1_b5 g_b5) (tw hw 52 rfl) (tw hw 49 rfl) e5 (W := 3) (by decide) (by decide) (Ls := (q_0 a1 a2)) (by rw [hml]; rfl) (b := b5) (argsL := []) (rest := [(.ref b5), (.ref b1), (.ref b1)]) (lenOf pd25 rfl) (Nat.le_of_eq rfl) (hb hby d7_8) rfl (by decide) (by decide)
  obtain ⟨h9, e9⟩ : ∃ z, T9.heap = z := ⟨_, rfl⟩
  rw [e9] at hQ9
  obtain ⟨rfl, Nq9, K9, br9, kr9, lb9, or9, Hr9⟩ := hQ9
  have N9 := Fr.app N0 Nq9
  have HB9 : Sbx Z h9 b5 br9 kr9 lb9 ([] : List UInt16).length [] := Or.inl Hr9
  have sz_br9 := Nat.le_trans kp7.1 or9
  have lt_b1_br9 := Nat.lt_of_lt_of_le (A1.ext E5).lt or9
  have sf_br9 : Safe Z EL0 s.vm h5 br9 := Safe.new or9
  have g_br9 := Nat.le_trans (own_sz O0) sz_br9
  have O10 := O6.keep K9 (allS g_b5 all0)
  have kp11 : Keep h0 h9 [] := kp7.trans K9 (allS (Or.inr sz_b5) all0)
  have ch12 := CHr.keep K9 (sfS sf8_b5 sf0) ch8.1
  have sf12_b1 := Safe.keep K9 (sfS sf8_b5 sf0) ch8.1 sf8_b1
  have sf12_b5 := Safe.keep K9 (sfS sf8_b5 sf0) ch8.1 sf8_b5
  have sf12_br9 := Safe.keep K9 (sfS sf8_b5 sf0) ch8.1 sf_br9
  have CH12 := CHr.trans CH8 ch12
  have hk := Nat.le_trans hk ch12.2.1
  have pf13 : ∀ target, Go p e below T9 m 11 (q_0 a1 a2) [(.ref b5), (.ref b1), (.ref b1)] target → Go p e below s₁ m 0 (q_0 a1 a2) [] target := by
    intro target k
    refine st1 _ ?_
    show Go p e below T1 m 3 (q_0 a1 a2) [(.ref b1)] _
    refine XS.dup X1.here hx rfl (hb hby d7_3) rfl rfl ?_
    refine st5 _ ?_
    show Go p e below T5 m 7 (q_0 a1 a2) [(.ref b5), (.ref b1), (.ref b1)] _
    refine XS.dup X5.here hx rfl (hb hby d7_7) rfl rfl ?_
    refine st9 _ ?_
    exact k
  obtain ⟨la14, T14, h14, k1_14, lc14, kc14, X14, e14, E14, hS, hk, hZ, hown, Ea14, Fc14, Fv14, Va14, lt_la14, lt_lc14, cs14, Li14, ne14, st14⟩ := ldcCH X9 hx hZ hown (tw hw 65 rfl) (own_wS hw) e9 hS hk (own_EW hw) (by decide) ch12.1 (vs := ((TA.map cLo).map Value.int)) (z := Int32.ofNat TA.length) (by decide +kernel) (by decide) (by decide) (g := (mkF m 11 (q_0 a1 a2) [(.ref b5), (.ref b1), (.ref b1)])) rfl (hb hby d7_11) (n := 56) (by decide) (by decide) (by decide) (by decide)
  have O15 := O10.ext E14
  have kp16 : Keep h0 h14 [] := kp11.ext E14
  have ch17 := cs14
  have sf17_b1 := ch17.safe ((A1.ext E5).keep K9).lt sf12_b1
  have sf17_b5 := ch17.safe (A5.keep K9).lt sf12_b5
  have sf17_br9 := ch17.safe HB9.eb.lt sf12_br9
  have CH17 := CHr.trans CH12 ch17
  obtain ⟨_, T18, Lc18, X18, hQ18, st18⟩ := own_vc X14 hx hZ (y := Y_3) hown (tw hw 66 rfl) (tw hw 67 rfl) (tw hw 69 rfl) (tw hw 68 rfl) (by decide) (rb_ap l Z a0 hw [] G1 Fm b5 br9 kr9 lb9 [] la14 lc14 kc14 TA h14 n0 O15 ST (HB9.ext E14) (by first | omega | (simp only [List.length_append, List.length_nil, lA, lB, lC]; omega)) g_b5 g_br9 (Or.inl ⟨Ea14, Fc14, Fv14, ⟨Va14, rfl⟩, by decide⟩) (by first | omega | (simp only [List.length_append, List.length_nil, lA, lB, lC]; omega)) (by first | omega | (simp only [List.length_append, List.length_nil, lA, lB, lC]; omega)) (Ne.symm (ne14 _ sf17_br9).2)) (tw hw 70 rfl) (tw hw 49 rfl) e14 ((A5.keep K9).ext E14) (W := 2) (by decide) (by decide) (Ls := (q_0 a1 a2)) (by rw [hml]; rfl) (argsL := [(.ref la14)]) (rest := [(.ref b1), (.ref b1)]) (lenOf pd36 rfl) (Nat.le_of_eq rfl) (hb hby d7_13) rfl (by decide) (by decide)
  obtain ⟨h18, e18⟩ : ∃ z, T18.heap = z := ⟨_, rfl⟩
  rw [e18] at hQ18
  obtain ⟨rfl, Nq18, K18, br18, kr18, lb18, or18, Hr18⟩ := hQ18
  have N18 := Fr.app N9 Nq18
  have HB18 := Hr18
  have sz_br18 := own_orle or18 sz_br9 kp16.1
  have lt_b1_br18 := own_orlt or18 lt_b1_br9 (((A1.ext E5).keep K9).ext E14).lt
  have sf_br18 : Safe Z EL0 T14.vm h14 br18 := own_orsf or18 sf17_br9
  have g_br18 := Nat.le_trans (own_sz O0) sz_br18
  have O19 := O15.keep K18 (allS g_b5 (allS g_br9 all0))
  have kp20 : Keep h0 h18 [] := kp16.trans K18 (allS (Or.inr sz_b5) (allS (Or.inr sz_br9) all0))
  have ch21 := CHr.keep K18 (sfS sf17_b5 (sfS sf17_br9 sf0)) ch17.1
  have sf21_b1 := Safe.keep K18 (sfS sf17_b5 (sfS sf17_br9 sf0)) ch17.1 sf17_b1
  have sf21_b5 := Safe.keep K18 (sfS sf17_b5 (sfS sf17_br9 sf0)) ch17.1 sf17_b5
  have sf21_br9 := Safe.keep K18 (sfS sf17_b5 (sfS sf17_br9 sf0)) ch17.1 sf17_br9
  have sf21_br18 := Safe.keep K18 (sfS sf17_b5 (sfS sf17_br9 sf0)) ch17.1 sf_br18
  have CH21 := CHr.trans CH17 ch21
  have hk := Nat.le_trans hk ch21.2.1
  obtain ⟨_, T22, Lc22, X22, hQ22, st22⟩ := own_vc X18 hx hZ (y := Y_3) hown (tw hw 66 rfl) (tw hw 67 rfl) (tw hw 69 rfl) (tw hw 68 rfl) (by decide) (rb_ap l Z a0 hw [] G1 Fm b5 br18 kr18 lb18 ([] ++ TA) a1 bM kM cs h18 n0 O19 ST HB18 (by first | omega | (simp only [List.length_append, List.length_nil, lA, lB, lC]; omega)) g_b5 g_br18 (((((HM.ext E1).ext E5).keep K9 (ninS (Nat.ne_of_lt (Nat.lt_of_lt_of_le lt_a1 sz_b5)) nin0) (ninS (Nat.ne_of_lt (Nat.lt_of_lt_of_le lt_bM sz_b5)) nin0)).ext E14).keep K18 (ninS (Nat.ne_of_lt (Nat.lt_of_lt_of_le lt_a1 sz_b5)) (ninS (Nat.ne_of_lt (Nat.lt_of_lt_of_le lt_a1 sz_br9)) nin0)) (ninS (Nat.ne_of_lt (Nat.lt_of_lt_of_le lt_bM sz_b5)) (ninS (Nat.ne_of_lt (Nat.lt_of_lt_of_le lt_bM sz_br9)) nin0))) (by first | omega | (simp only [List.length_append, List.length_nil, lA, lB, lC]; omega)) (by first | omega | (simp only [List.length_append, List.length_nil, lA, lB, lC]; omega)) (Nat.ne_of_lt (Nat.lt_of_lt_of_le lt_bM sz_br18))) (tw hw 70 rfl) (tw hw 49 rfl) e18 (((A5.keep K9).ext E14).keep K18) (W := 2) (by decide) (by decide) (Ls := (q_0 a1 a2)) (by rw [hml]; rfl) (argsL := [(.ref a1)]) (rest := [(.ref b1), (.ref b1)]) (lenOf pd36 rfl) (Nat.le_of_eq rfl) (hb hby d7_17) rfl (by decide) (by decide)
  obtain ⟨h22, e22⟩ : ∃ z, T22.heap = z := ⟨_, rfl⟩
  rw [e22] at hQ22
  obtain ⟨rfl, Nq22, K22, br22, kr22, lb22, or22, Hr22⟩ := hQ22
  have N22 := Fr.app N18 Nq22
  have HB22 := Hr22
  have sz_br22 := own_orle or22 sz_br18 kp20.1
  have lt_b1_br22 := own_orlt or22 lt_b1_br18 ((((A1.ext E5).keep K9).ext E14).keep K18).lt
  have sf_br22 : Safe Z EL0 T14.vm h18 br22 := own_orsf or22 sf21_br18
  have g_br22 := Nat.le_trans (own_sz O0) sz_br22
  have O23 := O19.keep K22 (allS g_b5 (allS g_br18 all0))
  have kp24 : Keep h0 h22 [] := kp20.trans K22 (allS (Or.inr sz_b5) (allS (Or.inr sz_br18) all0))
  have ch25 := CHr.keep K22 (sfS sf21_b5 (sfS sf21_br18 sf0)) ch21.1
  have sf25_b1 := Safe.keep K22 (sfS sf21_b5 (sfS sf21_br18 sf0)) ch21.1 sf21_b1
  have sf25_b5 := Safe.keep K22 (sfS sf21_b5 (sfS sf21_br18 sf0)) ch21.1 sf21_b5
  have sf25_br18 := Safe.keep K22 (sfS sf21_b5 (sfS sf21_br18 sf0)) ch21.1 sf21_br18
  have sf25_br22 := Safe.keep K22 (sfS sf21_b5 (sfS sf21_br18 sf0)) ch21.1 sf_br22
  have CH25 := CHr.trans CH21 ch25
  have hk := Nat.le_trans hk ch25.2.1
  have pf26 : ∀ target, Go p e below T22 m 20 (q_0 a1 a2) [(.ref b5), (.ref b1), (.ref b1)] target → Go p e below T9 m 11 (q_0 a1 a2) [(.ref b5), (.ref b1), (.ref b1)] target := by
    intro target k
    refine st14 _ ?_
    refine st18 _ ?_
    show Go p e below T18 m 16 (q_0 a1 a2) [(.ref b5), (.ref b1), (.ref b1)] _
    refine XS.aloadN X18.here hx rfl (hb hby d7_16) rfl rfl ?_
    refine st22 _ ?_
    exact k
  obtain ⟨la27, T27, h27, k1_27, lc27, kc27, X27, e27, E27, hS, hk, hZ, hown, Ea27, Fc27, Fv27, Va27, lt_la27, lt_lc27, cs27, Li27, ne27, st27⟩ := ldcCH X22 hx hZ hown (tw hw 104 rfl) (own_wS hw) e22 hS hk (own_EW hw) (by decide) ch25.1 (vs := ((TB.map cLo).map Value.int)) (z := Int32.ofNat TB.length) (by decide +kernel) (by decide) (by decide) (g := (mkF m 20 (q_0 a1 a2) [(.ref b5), (.ref b1), (.ref b1)])) rfl (hb hby d7_20) (n := 152) (by decide) (by decide) (by decide) (by decide)
  have O28 := O23.ext E27
  have kp29 : Keep h0 h27 [] := kp24.ext E27
  have ch30 := cs27
  have sf30_b1 := ch30.safe (((((A1.ext E5).keep K9).ext E14).keep K18).keep K22).lt sf25_b1
  have sf30_b5 := ch30.safe ((((A5.keep K9).ext E14).keep K18).keep K22).lt sf25_b5
  have sf30_br22 := ch30.safe HB22.eb.lt sf25_br22
  have CH30 := CHr.trans CH25 ch30
  obtain ⟨_, T31, Lc31, X31, hQ31, st31⟩ := own_vc X27 hx hZ (y := Y_3) hown (tw hw 66 rfl) (tw hw 67 rfl) (tw hw 69 rfl) (tw hw 68 rfl) (by decide) (rb_ap l Z a0 hw [] G1 Fm b5 br22 kr22 lb22 (([] ++ TA) ++ cs) la27 lc27 kc27 TB h27 n0 O28 ST (HB22.ext E27) (by first | omega | (simp only [List.length_append, List.length_nil, lA, lB, lC]; omega)) g_b5 g_br22 (Or.inl ⟨Ea27, Fc27, Fv27, ⟨Va27, rfl⟩, by decide⟩) (by first | omega | (simp only [List.length_append, List.length_nil, lA, lB, lC]; omega)) (by first | omega | (simp only [List.length_append, List.length_nil, lA, lB, lC]; omega)) (Ne.symm (ne27 _ sf30_br22).2)) (tw hw 70 rfl) (tw hw 49 rfl) e27 (((((A5.keep K9).ext E14).keep K18).keep K22).ext E27) (W := 2) (by decide) (by decide) (Ls := (q_0 a1 a2)) (by rw [hml]; rfl) (argsL := [(.ref la27)]) (rest := [(.ref b1), (.ref b1)]) (lenOf pd36 rfl) (Nat.le_of_eq rfl) (hb hby d7_22) rfl (by decide) (by decide)
  obtain ⟨h31, e31⟩ : ∃ z, T31.heap = z := ⟨_, rfl⟩
  rw [e31] at hQ31
  obtain ⟨rfl, Nq31, K31, br31, kr31, lb31, or31, Hr31⟩ := hQ31
  have N31 := Fr.app N22 Nq31
  have HB31 := Hr31
  have sz_br31 := own_orle or31 sz_br22 kp29.1
  have lt_b1_br31 := own_orlt or31 lt_b1_br22 ((((((A1.ext E5).keep K9).ext E14).keep K18).keep K22).ext E27).lt
  have sf_br31 : Safe Z EL0 T27.vm h27 br31 := own_orsf or31 sf30_br22
  have g_br31 := Nat.le_trans (own_sz O0) sz_br31
  have O32 := O28.keep K31 (allS g_b5 (allS g_br22 all0))
  have kp33 : Keep h0 h31 [] := kp29.trans K31 (allS (Or.inr sz_b5) (allS (Or.inr sz_br22) all0))
  have ch34 := CHr.keep K31 (sfS sf30_b5 (sfS sf30_br22 sf0)) ch30.1
  have sf34_b1 := Safe.keep K31 (sfS sf30_b5 (sfS sf30_br22 sf0)) ch30.1 sf30_b1
  have sf34_b5 := Safe.keep K31 (sfS sf30_b5 (sfS sf30_br22 sf0)) ch30.1 sf30_b5
  have sf34_br22 := Safe.keep K31 (sfS sf30_b5 (sfS sf30_br22 sf0)) ch30.1 sf30_br22
  have sf34_br31 := Safe.keep K31 (sfS sf30_b5 (sfS sf30_br22 sf0)) ch30.1 sf_br31
  have CH34 := CHr.trans CH30 ch34
  have hk := Nat.le_trans hk ch34.2.1
  obtain ⟨_, T35, Lc35, X35, hQ35, st35⟩ := own_vc X31 hx hZ (y := Y_3) hown (tw hw 66 rfl) (tw hw 67 rfl) (tw hw 69 rfl) (tw hw 68 rfl) (by decide) (rb_ap l Z a0 hw [] G1 Fm b5 br31 kr31 lb31 ((([] ++ TA) ++ cs) ++ TB) a2 bN kN ds h31 n0 O32 ST HB31 (by first | omega | (simp only [List.length_append, List.length_nil, lA, lB, lC]; omega)) g_b5 g_br31 ((((((((HN.ext E1).ext E5).keep K9 (ninS (Nat.ne_of_lt (Nat.lt_of_lt_of_le lt_a2 sz_b5)) nin0) (ninS (Nat.ne_of_lt (Nat.lt_of_lt_of_le lt_bN sz_b5)) nin0)).ext E14).keep K18 (ninS (Nat.ne_of_lt (Nat.lt_of_lt_of_le lt_a2 sz_b5)) (ninS (Nat.ne_of_lt (Nat.lt_of_lt_of_le lt_a2 sz_br9)) nin0)) (ninS (Nat.ne_of_lt (Nat.lt_of_lt_of_le lt_bN sz_b5)) (ninS (Nat.ne_of_lt (Nat.lt_of_lt_of_le lt_bN sz_br9)) nin0))).keep K22 (ninS (Nat.ne_of_lt (Nat.lt_of_lt_of_le lt_a2 sz_b5)) (ninS (Nat.ne_of_lt (Nat.lt_of_lt_of_le lt_a2 sz_br18)) nin0)) (ninS (Nat.ne_of_lt (Nat.lt_of_lt_of_le lt_bN sz_b5)) (ninS (Nat.ne_of_lt (Nat.lt_of_lt_of_le lt_bN sz_br18)) nin0))).ext E27).keep K31 (ninS (Nat.ne_of_lt (Nat.lt_of_lt_of_le lt_a2 sz_b5)) (ninS (Nat.ne_of_lt (Nat.lt_of_lt_of_le lt_a2 sz_br22)) nin0)) (ninS (Nat.ne_of_lt (Nat.lt_of_lt_of_le lt_bN sz_b5)) (ninS (Nat.ne_of_lt (Nat.lt_of_lt_of_le lt_bN sz_br22)) nin0))) (by first | omega | (simp only [List.length_append, List.length_nil, lA, lB, lC]; omega)) (by first | omega | (simp only [List.length_append, List.length_nil, lA, lB, lC]; omega)) (Nat.ne_of_lt (Nat.lt_of_lt_of_le lt_bN sz_br31))) (tw hw 70 rfl) (tw hw 49 rfl) e31 ((((((A5.keep K9).ext E14).keep K18).keep K22).ext E27).keep K31) (W := 2) (by decide) (by decide) (Ls := (q_0 a1 a2)) (by rw [hml]; rfl) (argsL := [(.ref a2)]) (rest := [(.ref b1), (.ref b1)]) (lenOf pd36 rfl) (Nat.le_of_eq rfl) (hb hby d7_26) rfl (by decide) (by decide)
  obtain ⟨h35, e35⟩ : ∃ z, T35.heap = z := ⟨_, rfl⟩
  rw [e35] at hQ35
  obtain ⟨rfl, Nq35, K35, br35, kr35, lb35, or35, Hr35⟩ := hQ35
  have N35 := Fr.app N31 Nq35
  have HB35 := Hr35
  have sz_br35 := own_orle or35 sz_br31 kp33.1
  have lt_b1_br35 := own_orlt or35 lt_b1_br31 (((((((A1.ext E5).keep K9).ext E14).keep K18).keep K22).ext E27).keep K31).lt
  have sf_br35 : Safe Z EL0 T27.vm h31 br35 := own_orsf or35 sf34_br31
  have g_br35 := Nat.le_trans (own_sz O0) sz_br35
  have O36 := O32.keep K35 (allS g_b5 (allS g_br31 all0))
  have kp37 : Keep h0 h35 [] := kp33.trans K35 (allS (Or.inr sz_b5) (allS (Or.inr sz_br31) all0))
  have ch38 := CHr.keep K35 (sfS sf34_b5 (sfS sf34_br31 sf0)) ch34.1
  have sf38_b1 := Safe.keep K35 (sfS sf34_b5 (sfS sf34_br31 sf0)) ch34.1 sf34_b1
  have sf38_b5 := Safe.keep K35 (sfS sf34_b5 (sfS sf34_br31 sf0)) ch34.1 sf34_b5
  have sf38_br31 := Safe.keep K35 (sfS sf34_b5 (sfS sf34_br31 sf0)) ch34.1 sf34_br31
  have sf38_br35 := Safe.keep K35 (sfS sf34_b5 (sfS sf34_br31 sf0)) ch34.1 sf_br35
  have CH38 := CHr.trans CH34 ch38
  have hk := Nat.le_trans hk ch38.2.1
  have pf39 : ∀ target, Go p e below T35 m 29 (q_0 a1 a2) [(.ref b5), (.ref b1), (.ref b1)] target → Go p e below T22 m 20 (q_0 a1 a2) [(.ref b5), (.ref b1), (.ref b1)] target := by
    intro target k
    refine st27 _ ?_
    refine st31 _ ?_
    show Go p e below T31 m 25 (q_0 a1 a2) [(.ref b5), (.ref b1), (.ref b1)] _
    refine XS.aloadN X31.here hx rfl (hb hby d7_25) rfl rfl ?_
    refine st35 _ ?_
    exact k
  obtain ⟨la40, T40, h40, k1_40, lc40, kc40, X40, e40, E40, hS, hk, hZ, hown, Ea40, Fc40, Fv40, Va40, lt_la40, lt_lc40, cs40, Li40, ne40, st40⟩ := ldcCH X35 hx hZ hown (tw hw 128 rfl) (own_wS hw) e35 hS hk (own_EW hw) (by decide) ch38.1 (vs := ((TC.map cLo).map Value.int)) (z := Int32.ofNat TC.length) (by decide +kernel) (by decide) (by decide) (g := (mkF m 29 (q_0 a1 a2) [(.ref b5), (.ref b1), (.ref b1)])) rfl (hb hby d7_29) (n := 240) (by decide) (by decide) (by decide) (by decide)
  have O41 := O36.ext E40
  have kp42 : Keep h0 h40 [] := kp37.ext E40
  have ch43 := cs40
  have sf43_b1 := ch43.safe ((((((((A1.ext E5).keep K9).ext E14).keep K18).keep K22).ext E27).keep K31).keep K35).lt sf38_b1
  have sf43_b5 := ch43.safe (((((((A5.keep K9).ext E14).keep K18).keep K22).ext E27).keep K31).keep K35).lt sf38_b5
  have sf43_br35 := ch43.safe HB35.eb.lt sf38_br35
  have CH43 := CHr.trans CH38 ch43
  obtain ⟨_, T44, Lc44, X44, hQ44, st44⟩ := own_vc X40 hx hZ (y := Y_3) hown (tw hw 66 rfl) (tw hw 67 rfl) (tw hw 69 rfl) (tw hw 68 rfl) (by decide) (rb_ap l Z a0 hw [] G1 Fm b5 br35 kr35 lb35 (((([] ++ TA) ++ cs) ++ TB) ++ ds) la40 lc40 kc40 TC h40 n0 O41 ST (HB35.ext E40) (by first | omega | (simp only [List.length_append, List.length_nil, lA, lB, lC]; omega)) g_b5 g_br35 (Or.inl ⟨Ea40, Fc40, Fv40, ⟨Va40, rfl⟩, by decide⟩) (by first | omega | (simp only [List.length_append, List.length_nil, lA, lB, lC]; omega)) (by first | omega | (simp only [List.length_append, List.length_nil, lA, lB, lC]; omega)) (Ne.symm (ne40 _ sf43_br35).2)) (tw hw 70 rfl) (tw hw 49 rfl) e40 ((((((((A5.keep K9).ext E14).keep K18).keep K22).ext E27).keep K31).keep K35).ext E40) (W := 2) (by decide) (by decide) (Ls := (q_0 a1 a2)) (by rw [hml]; rfl) (argsL := [(.ref la40)]) (rest := [(.ref b1), (.ref b1)]) (lenOf pd36 rfl) (Nat.le_of_eq rfl) (hb hby d7_31) rfl (by decide) (by decide)
  obtain ⟨h44, e44⟩ : ∃ z, T44.heap = z := ⟨_, rfl⟩
  rw [e44] at hQ44
  obtain ⟨rfl, Nq44, K44, br44, kr44, lb44, or44, Hr44⟩ := hQ44
  have N44 := Fr.app N35 Nq44
  have HB44 := Hr44
  have sz_br44 := own_orle or44 sz_br35 kp42.1
  have lt_b1_br44 := own_orlt or44 lt_b1_br35 (((((((((A1.ext E5).keep K9).ext E14).keep K18).keep K22).ext E27).keep K31).keep K35).ext E40).lt
  have sf_br44 : Safe Z EL0 T40.vm h40 br44 := own_orsf or44 sf43_br35
  have g_br44 := Nat.le_trans (own_sz O0) sz_br44
  have O45 := O41.keep K44 (allS g_b5 (allS g_br35 all0))
  have kp46 : Keep h0 h44 [] := kp42.trans K44 (allS (Or.inr sz_b5) (allS (Or.inr sz_br35) all0))
  have ch47 := CHr.keep K44 (sfS sf43_b5 (sfS sf43_br35 sf0)) ch43.1
  have sf47_b1 := Safe.keep K44 (sfS sf43_b5 (sfS sf43_br35 sf0)) ch43.1 sf43_b1
  have sf47_b5 := Safe.keep K44 (sfS sf43_b5 (sfS sf43_br35 sf0)) ch43.1 sf43_b5
  have sf47_br35 := Safe.keep K44 (sfS sf43_b5 (sfS sf43_br35 sf0)) ch43.1 sf43_br35
  have sf47_br44 := Safe.keep K44 (sfS sf43_b5 (sfS sf43_br35 sf0)) ch43.1 sf_br44
  have CH47 := CHr.trans CH43 ch47
  have hk := Nat.le_trans hk ch47.2.1
  obtain ⟨_, T48, Lc48, X48, hQ48, st48⟩ := own_vc X44 hx hZ (y := Y_18) hown (tw hw 129 rfl) (tw hw 130 rfl) (tw hw 132 rfl) (tw hw 131 rfl) (by decide) (rb_ts l Z a0 hw [] G1 Fm b5 br44 kr44 lb44 ((((([] ++ TA) ++ cs) ++ TB) ++ ds) ++ TC) h44 n0 O45 ST HB44 (by first | omega | (simp only [List.length_append, List.length_nil, lA, lB, lC]; omega))) (tw hw 133 rfl) (tw hw 49 rfl) e44 (((((((((A5.keep K9).ext E14).keep K18).keep K22).ext E27).keep K31).keep K35).ext E40).keep K44) (W := 2) (by decide) (by decide) (Ls := (q_0 a1 a2)) (by rw [hml]; rfl) (argsL := []) (rest := [(.ref b1), (.ref b1)]) (lenOf pd37 rfl) (Nat.le_of_eq rfl) (hb hby d7_34) rfl (by decide) (by decide)
  obtain ⟨h48, e48⟩ : ∃ z, T48.heap = z := ⟨_, rfl⟩
  rw [e48] at hQ48
  obtain ⟨ms, mb, mk, rfl, Nq48, K48, sm48, sn48, HT48⟩ := hQ48
  have N48 := Fr.app N44 Nq48
  have lm := Nat.lt_of_lt_of_le ((((((((((A1.ext E5).keep K9).ext E14).keep K18).keep K22).ext E27).keep K31).keep K35).ext E40).keep K44).lt sm48
  have ln := Nat.lt_of_lt_of_le ((((((((((A1.ext E5).keep K9).ext E14).keep K18).keep K22).ext E27).keep K31).keep K35).ext E40).keep K44).lt sn48
  have O49 := O45.keep K48 all0
  have kp50 : Keep h0 h48 [] := kp46.trans K48 all0
  have ch51 := CHr.keep K48 sf0 ch47.1
  have sf51_b1 := Safe.keep K48 sf0 ch47.1 sf47_b1
  have sf51_b5 := Safe.keep K48 sf0 ch47.1 sf47_b5
  have sf51_br44 := Safe.keep K48 sf0 ch47.1 sf47_br44
  have CH51 := CHr.trans CH47 ch51
  have hk := Nat.le_trans hk ch51.2.1
  obtain ⟨_, _, ⟨T52, L52, k52, n52⟩, -, X52, ⟨Lc52, hQ52, l52, y52, z52⟩, st52⟩ := X48.specialBack hx (y := Y_43) rfl hown (mvT hZ (tw hw 171 rfl)) (mvT hZ (tw hw 172 rfl)) (mvT hZ (tw hw 173 rfl)) (by decide) (backOfKL (W := 1) (rx_l l Z a0 hw [] G1 Fm u1 u2 b1 ms h48 n0 O49 ST hl TS (((((((((((HX.ext E5).keep K9 (ninS (Nat.ne_of_lt lt_b1_b5) nin0)).ext E14).keep K18 (ninS (Nat.ne_of_lt lt_b1_b5) (ninS (Nat.ne_of_lt lt_b1_br9) nin0))).keep K22 (ninS (Nat.ne_of_lt lt_b1_b5) (ninS (Nat.ne_of_lt lt_b1_br18) nin0))).ext E27).keep K31 (ninS (Nat.ne_of_lt lt_b1_b5) (ninS (Nat.ne_of_lt lt_b1_br22) nin0))).keep K35 (ninS (Nat.ne_of_lt lt_b1_b5) (ninS (Nat.ne_of_lt lt_b1_br31) nin0))).ext E40).keep K44 (ninS (Nat.ne_of_lt lt_b1_b5) (ninS (Nat.ne_of_lt lt_b1_br35) nin0))).keep K48 nin0) g_b1) hZ (tw hw 173 rfl) (tw hw 43 rfl) (by decide) (by decide) (Vm.MethodsKnown.alikeC (hA0.symm.trans hZ.alike) hK.1) (Vm.FramesKnown.alikeC (hA0.symm.trans hZ.alike) hK.2)) (g := (mkF m 37 (q_0 a1 a2) [(.ref ms), (.ref b1), (.ref b1)])) rfl (by rw [hml]; rfl) (Steps.refl _) (a := b1) (argsL := [(.ref ms)]) (rest := [(.ref b1)]) (lenOf pd26 rfl) rfl (by show 2 * 0 + _ ≤ _; exact Nat.le_of_eq rfl) (hb hby d7_37) (fun _ _ => ⟨rfl, e48, (by decide : 21 + 1 ≤ _), (by decide : 5990 + 2752 ≤ _)⟩)
  dsimp only [Pt.U, Pt.locs, Pt.cells, Pt.slots] at X52 l52 y52 z52 st52 hQ52
  subst l52 y52 z52
  obtain ⟨h52, e52⟩ : ∃ z, T52.heap = z := ⟨_, rfl⟩
  rw [e52] at hQ52
  obtain ⟨rfl, Nq52, K52, R52⟩ := hQ52
  have N52 := Fr.app N48 Nq52
  have O53 := O49.keep K52 (allS g_b1 all0)
  have kp54 : Keep h0 h52 [] := kp50.trans K52 (allS (Or.inr sz_b1) all0)
  have ch55 := CHr.keep K52 (sfS sf51_b1 sf0) ch51.1
  have sf55_b1 := Safe.keep K52 (sfS sf51_b1 sf0) ch51.1 sf51_b1
  have sf55_b5 := Safe.keep K52 (sfS sf51_b1 sf0) ch51.1 sf51_b5
  have sf55_br44 := Safe.keep K52 (sfS sf51_b1 sf0) ch51.1 sf51_br44
  have CH55 := CHr.trans CH51 ch55
  have hk := Nat.le_trans hk ch55.2.1
  have XC := R52
  obtain ⟨fs, hr, hrun, hended, hEnd⟩ := (X52.mono (by decide : _ ≤ R_7.cells) (by decide : _ ≤ R_7.slots)).leaveW hS (by rw [e52]; exact hk) (v := some (.ref b1)) (fun h => by rw [Bd.returns] at h; cases h)
  have CE := CHr.trans CH55 (CHv.at X52 hZ (own_EW hw) ch55.1)
  refine ⟨_, _, castTop (ef_rr_l m a1 a2) ?_, hrun, hended, _, _, rfl, ?_, ?_, hEnd⟩
  · refine pf13 _ ?_
    refine pf26 _ ?_
    refine pf39 _ ?_
    refine st40 _ ?_
    refine st44 _ ?_
    refine st48 _ ?_
    refine st52.trans ?_
    show Go p e below T52 m 40 (q_0 a1 a2) [(.ref b1)] _
    exact retOut X52 hx Bd.returns rfl (Or.inr (Or.inr (Or.inr (Or.inr ⟨rfl, rfl, rfl⟩)))) (hb hby d7_40) hr
  · show Qe Z ((((([] ++ TA) ++ cs) ++ TB) ++ ds) ++ TC) h0 n0 _ T52.heap _
    rw [e52]
    exact ⟨b1, ms, mb, mk, rfl, N52, kp54, sz_b1, XC, (HT48.keep K52 (ninS (Nat.ne_of_gt lm) nin0) (ninS (Nat.ne_of_gt ln) nin0))⟩
  · show CHr Z EL0 s.vm s.heap T52.vm T52.heap
    rw [e52, hh]; exact CE
theorem own_and3 (i : Int32) : ∃ n : Nat, n < 4 ∧ i &&& 3 = Int32.ofNat n := by
  refine ⟨(i.toBitVec &&& 3#32).toNat, ?_, ?_⟩
  · rw [BitVec.toNat_and]; exact Nat.lt_of_le_of_lt Nat.and_le_right (by decide)
  · apply Int32.toBitVec_inj.mp
    rw [Int32.toBitVec_and]
    show i.toBitVec &&& 3#32 = BitVec.ofNat 32 (i.toBitVec &&& 3#32).toNat
    simp
theorem own_sel (i : Int32) : ∃ n : Nat, n ≤ 2 ∧ (i &&& (3 : Int32)) % (3 : Int32) = Int32.ofNat n := by
  obtain ⟨n, h, e⟩ := own_and3 i
  rw [e]
  rcases (by omega : n = 0 ∨ n = 1 ∨ n = 2 ∨ n = 3) with rfl | rfl | rfl | rfl
  · exact ⟨0, by decide, by decide⟩
  · exact ⟨1, by decide, by decide⟩
  · exact ⟨2, by decide, by decide⟩
  · exact ⟨0, by decide, by decide⟩
theorem own_mkl (n : Nat) (u w : UInt16) : (mkL n u w).length ≤ 2 := by
  match n with
  | 0 => exact Nat.zero_le _
  | 1 => exact (by decide : 1 ≤ 2)
  | _ + 2 => exact Nat.le_refl 2
def Chk (t : List UInt16) (nl fl : Nat) (na nb fa fb : UInt16) : Prop :=
  cv (t.getD 0 0) = 116 ∧ cv (t.getD 13 0) = 32 ∧ (1 ≤ nl → cv (t.getD 14 0) = cv na) ∧ (2 ≤ nl → cv (t.getD 15 0) = cv nb) ∧ cv (t.getD (14 + nl) 0) = 32 ∧ cv (t.getD (14 + nl + 1) 0) = 105 ∧ cv (t.getD (14 + nl + 38 - 1) 0) = 32 ∧ (1 ≤ fl → cv (t.getD (14 + nl + 38) 0) = cv fa) ∧ (2 ≤ fl → cv (t.getD (14 + nl + 38 + 1) 0) = cv fb) ∧ cv (t.getD (14 + nl + 38 + fl) 0) = 58 ∧ cv (t.getD (14 + nl + 38 + fl + 1) 0) = 32 ∧ cv (t.getD (14 + nl + 38 + fl + 60 - 1) 0) = 101 ∧ t.length = 14 + nl + 38 + fl + 60
theorem own_chk {nl fl : Nat} (hn : nl ≤ 2) (hf : fl ≤ 2) (na nb fa fb : UInt16) : Chk ((((([] ++ TA) ++ mkL nl na nb) ++ TB) ++ mkL fl fa fb) ++ TC) nl fl na nb fa fb := by
  rcases (by omega : nl = 0 ∨ nl = 1 ∨ nl = 2) with rfl | rfl | rfl <;> rcases (by omega : fl = 0 ∨ fl = 1 ∨ fl = 2) with rfl | rfl | rfl <;>
    exact ⟨rfl, rfl, fun h => by first | rfl | (exact absurd h (by decide)), fun h => by first | rfl | (exact absurd h (by decide)), rfl, rfl, rfl, fun h => by first | rfl | (exact absurd h (by decide)), fun h => by first | rfl | (exact absurd h (by decide)), rfl, rfl, rfl, rfl⟩
def Ql (h0 : Heap) (n0 : Nat) (v : Option Value) (h : Heap) (L : List Loc) : Prop := v = some (.int (1 : Int32)) ∧ Fr n0 L
theorem d37_0 : Dc cb61 0 (.aload_n 0) 1 := by decide +kernel
theorem d37_1 : Dc cb61 1 (.getfield 31) 3 := by decide +kernel
theorem d37_4 : Dc cb61 4 .areturn 1 := by decide +kernel
theorem ef_rg_m (m : MethodId) (x0 : Addr) : entryFrame m #[(.ref x0)] 1 = mkF m 0 #[.val (.ref x0)] [] := by first | (simp [entryFrame, mkF, argsToLocals, Value.category]; done) | rfl
set_option maxRecDepth 65536 in
set_option maxHeartbeats 40000000 in
theorem rg_m (l : Launch) (Z : State) (a0 : Array Value) (hw : Hw a0 Z) (ws : List Jvm.Cond) (G1 : Int32) (Fm : Value) (a1 : Addr) (a2 : Addr) (h0 : Heap) (n0 : Nat) (O0 : Old Z n0 h0) (ST : Stc Z G1 Fm) (HX : Xcd Z h0 a1 a2) :
    Met l Z h0 ws Y_61 jdk_78_method_6_code 1 (some (.object "java/lang/String")) R_0 #[(.ref a1)] (Qpure (some (.ref a2)) h0 n0) := by
  refine MetFree.of_bodySF (plainFor_of_name pn9) hisR ?_
  intro p e s m args below meth c s₁ Bd hml0 hP hK
  obtain ⟨rfl, hZ, hh⟩ := hP
  have hx := Bd.exec
  have hby := Bd.bytes
  have hml : c.maxLocals = 1 := hml0
  have hown : s.vm.findClass "java/lang/Throwable" = some m.cls := findClass_of_methodNamed Bd.named
  have hnm := (name_of_methodNamed Bd.named Bd.method).1
  have X0 : Stand p l e R_0 s m #[(.ref a1)] below meth c s₁ [] 0 0 := Stand.of_body Bd
  have e0 : s₁.heap = h0 := by rw [← hh, Bd.state]; rfl
  have N0 := Fr.nil n0
  obtain ⟨S_cs, hG, S_fm, hF, S_ad, S_hi, S_lo⟩ := id ST
  obtain ⟨E_a, NU, F_c, F_m⟩ := id HX
  obtain ⟨T1, X1, e1, st1⟩ := getF X0 hx hZ hown (host := "") (Or.inl (tw hw 233 rfl)) Via.refl e0 F_m (g := (mkF m 1 (q_1 a1) [(.ref a1)])) rfl rfl (hb hby d37_1)
  obtain ⟨fs, hr, hrun, hended, hW, hsame⟩ := X1.leave (v := some (.ref a2)) (fun h => by rw [Bd.returns] at h; cases h)
  refine ⟨_, _, castTop (ef_rg_m m a1) ?_, hrun, hended, _, _, rfl, ?_, ⟨_, rfl⟩, hW, hsame.mono (by decide) (by decide)⟩
  · show Go p e below s₁ m 0 (q_1 a1) [] _
    refine XS.aloadN X0.here hx rfl (hb hby d37_0) rfl rfl ?_
    refine st1 _ ?_
    show Go p e below T1 m 4 (q_1 a1) [(.ref a2)] _
    exact retOut X1 hx Bd.returns rfl (Or.inr (Or.inr (Or.inr (Or.inr ⟨rfl, rfl, rfl⟩)))) (hb hby d37_4) hr
  · show Qpure (some (.ref a2)) h0 n0 _ T1.heap _
    rw [e1]
    exact ⟨rfl, N0, rfl⟩
theorem pd38 : parseMethodDescriptor "(I)C" = some ⟨[.int], some .char⟩ := by decide +kernel
set_option maxRecDepth 65536 in
set_option maxHeartbeats 40000000 in
theorem rw_a {p : Program} {l : Launch} {e : Env} {s : State} {m : MethodId} {args : Array Value} {below : List Frame} {meth : Method} {c : Code} {T0 : State} {locs : List Loc} {Z : State} {a0 : Array Value} {n0 : Nat} {h0 : Heap} (hw : Hw a0 Z) (X0 : Stand p l e room_1 s m args below meth c T0 locs 40 10454) (hx : p.tables.exec = Jvm.exec) (hby : c.code = code) (hml : c.maxLocals = 22) (hZ : Z.Warmed39 s.vm) (hown : s.vm.findClass "com/example/narrow_lease/narrowlease/LeaseLostExceptionRecordLostPinLaw" = some m.cls) (e0 : T0.heap = h0) (N0 : Fr n0 locs) (O0 : Old Z n0 h0) (G1 : Int32) (Fm : Value) (i0 : Int32) (i1 : Int32) (i2 : Int32) (i3 : Int32) (i4 : Int32) (nl : Nat) (fl : Nat) (na : UInt16) (nb : UInt16) (fa : UInt16) (fb : UInt16) (xn : Addr) (xf : Addr) (ex : Addr) (ms : Addr) (mb : Addr) (mk : ClassId) (tx : List UInt16) (ST : Stc Z G1 Fm) (HS : Strx Z h0 ms mb mk tx) (hn2 : nl ≤ 2) (hf2 : fl ≤ 2) (Ck : Chk tx nl fl na nb fa fb) :
    ∃ (T' : State) (L' : List Loc), Stand p l e room_1 s m args below meth c T' L' 40 10454 ∧ T'.heap = h0 ∧ Fr n0 L' ∧ ∀ target, Go p e below T' m 183 (q_4 i0 i1 i2 i3 i4 nl fl na nb fa fb xn xf ex ms) [] target → Go p e below T0 m 144 (q_4 i0 i1 i2 i3 i4 nl fl na nb fa fb xn xf ex ms) [] target := by
  obtain ⟨S_cs, hG, S_fm, hF, S_ad, S_hi, S_lo⟩ := id ST
  obtain ⟨ckA, ckB, ckC, ckD, ckE, ckF, ckG, ckH, ckI, ckJ, ckK, ckL, hLen⟩ := id Ck
  have E_ms := HS.exa
  obtain ⟨_, T1, Lc1, X1, hQ1, st1⟩ := own_vc X0 hx hZ (y := Y_2) hown (tw hw 28 rfl) (tw hw 29 rfl) (tw hw 31 rfl) (tw hw 30 rfl) (by decide) (rs_len l Z a0 hw [] G1 Fm ms mb mk tx h0 n0 O0 ST HS (by omega)) (tw hw 32 rfl) (tw hw 7 rfl) e0 E_ms (W := 0) (by decide) (by decide) (Ls := (q_4 i0 i1 i2 i3 i4 nl fl na nb fa fb xn xf ex ms)) (by rw [hml]; rfl) (argsL := []) (rest := []) (lenOf pd23 rfl) (Nat.le_of_eq rfl) (hb hby at_146) rfl (by decide) (by decide)
  obtain ⟨rfl, Nq1, e1⟩ := hQ1
  have N1 := Fr.app N0 Nq1
  obtain ⟨_, T2, Lc2, X2, hQ2, st2⟩ := own_vc X1 hx hZ (y := Y_0) hown (tw hw 246 rfl) (tw hw 247 rfl) (tw hw 249 rfl) (tw hw 248 rfl) (by decide) (rs_ch l Z a0 hw [] G1 Fm ms mb mk tx 0 h0 n0 O0 ST HS (by omega) (by omega)) (tw hw 250 rfl) (tw hw 7 rfl) e1 E_ms (W := 0) (by decide) (by decide) (Ls := (q_4 i0 i1 i2 i3 i4 nl fl na nb fa fb xn xf ex ms)) (by rw [hml]; rfl) (argsL := [(.int (0 : Int32))]) (rest := []) (lenOf pd38 rfl) (Nat.le_of_eq rfl) (hb hby at_159) rfl (by decide) (by decide)
  obtain ⟨rfl, Nq2, e2⟩ := hQ2
  have N2 := Fr.app N1 Nq2
  have pf3 : ∀ target, Go p e below T2 m 164 (q_4 i0 i1 i2 i3 i4 nl fl na nb fa fb xn xf ex ms) [(.int (116 : Int32)), (.int (cv (tx.getD 0 0)))] target → Go p e below T0 m 144 (q_4 i0 i1 i2 i3 i4 nl fl na nb fa fb xn xf ex ms) [] target := by
    intro target k
    show Go p e below T0 m 144 (q_4 i0 i1 i2 i3 i4 nl fl na nb fa fb xn xf ex ms) [] _
    refine XS.aload X0.here hx rfl (hb hby at_144) rfl rfl ?_
    refine st1 _ ?_
    show Go p e below T1 m 149 (q_4 i0 i1 i2 i3 i4 nl fl na nb fa fb xn xf ex ms) [(.int (Int32.ofNat tx.length))] _
    refine XS.iload X1.here hx rfl (hb hby at_149) rfl ?_
    refine XS.icmpYes X1.here hx rfl (pc0 := 151) (pc' := 156) rfl (hb hby at_151) rfl (teq (by rw [hLen])).1 (by decide) (by decide) ?_
    refine XS.aload X1.here hx rfl (hb hby at_156) rfl rfl ?_
    refine XS.iconst X1.here hx rfl (hb hby at_158) ?_
    refine st2 _ ?_
    show Go p e below T2 m 162 (q_4 i0 i1 i2 i3 i4 nl fl na nb fa fb xn xf ex ms) [(.int (cv (tx.getD 0 0)))] _
    refine XS.bipush X2.here hx rfl (hb hby at_162) ?_
    exact k
  obtain ⟨_, T4, Lc4, X4, hQ4, st4⟩ := own_vc X2 hx hZ (y := Y_0) hown (tw hw 246 rfl) (tw hw 247 rfl) (tw hw 249 rfl) (tw hw 248 rfl) (by decide) (rs_ch l Z a0 hw [] G1 Fm ms mb mk tx 13 h0 n0 O0 ST HS (by omega) (by omega)) (tw hw 250 rfl) (tw hw 7 rfl) e2 E_ms (W := 0) (by decide) (by decide) (Ls := (q_4 i0 i1 i2 i3 i4 nl fl na nb fa fb xn xf ex ms)) (by rw [hml]; rfl) (argsL := [(.int (13 : Int32))]) (rest := []) (lenOf pd38 rfl) (Nat.le_of_eq rfl) (hb hby at_173) rfl (by decide) (by decide)
  obtain ⟨rfl, Nq4, e4⟩ := hQ4
  have N4 := Fr.app N2 Nq4
  have pf5 : ∀ target, Go p e below T4 m 178 (q_4 i0 i1 i2 i3 i4 nl fl na nb fa fb xn xf ex ms) [(.int (32 : Int32)), (.int (cv (tx.getD 13 0)))] target → Go p e below T2 m 164 (q_4 i0 i1 i2 i3 i4 nl fl na nb fa fb xn xf ex ms) [(.int (116 : Int32)), (.int (cv (tx.getD 0 0)))] target := by
    intro target k
    show Go p e below T2 m 164 (q_4 i0 i1 i2 i3 i4 nl fl na nb fa fb xn xf ex ms) [(.int (116 : Int32)), (.int (cv (tx.getD 0 0)))] _
    refine XS.icmpNo X2.here hx rfl (hb hby at_164) rfl (teq ckA).2 ?_
    refine XS.aload X2.here hx rfl (hb hby at_167) rfl rfl ?_
    refine XS.iload X2.here hx rfl (hb hby at_169) rfl ?_
    refine XS.iconst X2.here hx rfl (hb hby at_171) ?_
    refine XS.isub X2.here hx rfl (hb hby at_172) rfl ?_
    refine st4 _ ?_
    show Go p e below T4 m 176 (q_4 i0 i1 i2 i3 i4 nl fl na nb fa fb xn xf ex ms) [(.int (cv (tx.getD 13 0)))] _
    refine XS.bipush X4.here hx rfl (hb hby at_176) ?_
    exact k
  refine ⟨T4, _, X4, e4, N4, ?_⟩
  intro target k
  refine pf3 _ ?_
  refine pf5 _ ?_
  show Go p e below T4 m 178 (q_4 i0 i1 i2 i3 i4 nl fl na nb fa fb xn xf ex ms) [(.int (32 : Int32)), (.int (cv (tx.getD 13 0)))] _
  refine XS.icmpYes X4.here hx rfl (pc0 := 178) (pc' := 183) rfl (hb hby at_178) rfl (teq ckB).1 (by decide) (by decide) ?_
  exact k
set_option maxRecDepth 65536 in
set_option maxHeartbeats 40000000 in
theorem rw_b {p : Program} {l : Launch} {e : Env} {s : State} {m : MethodId} {args : Array Value} {below : List Frame} {meth : Method} {c : Code} {T0 : State} {locs : List Loc} {Z : State} {a0 : Array Value} {n0 : Nat} {h0 : Heap} (hw : Hw a0 Z) (X0 : Stand p l e room_1 s m args below meth c T0 locs 40 10454) (hx : p.tables.exec = Jvm.exec) (hby : c.code = code) (hml : c.maxLocals = 22) (hZ : Z.Warmed39 s.vm) (hown : s.vm.findClass "com/example/narrow_lease/narrowlease/LeaseLostExceptionRecordLostPinLaw" = some m.cls) (e0 : T0.heap = h0) (N0 : Fr n0 locs) (O0 : Old Z n0 h0) (G1 : Int32) (Fm : Value) (i0 : Int32) (i1 : Int32) (i2 : Int32) (i3 : Int32) (i4 : Int32) (nl : Nat) (fl : Nat) (na : UInt16) (nb : UInt16) (fa : UInt16) (fb : UInt16) (xn : Addr) (xf : Addr) (ex : Addr) (ms : Addr) (mb : Addr) (mk : ClassId) (tx : List UInt16) (ST : Stc Z G1 Fm) (HS : Strx Z h0 ms mb mk tx) (hn2 : nl ≤ 2) (hf2 : fl ≤ 2) (Ck : Chk tx nl fl na nb fa fb) :
    ∃ (T' : State) (L' : List Loc), Stand p l e room_1 s m args below meth c T' L' 40 10454 ∧ T'.heap = h0 ∧ Fr n0 L' ∧ ∀ target, Go p e below T' m 225 (q_4 i0 i1 i2 i3 i4 nl fl na nb fa fb xn xf ex ms) [] target → Go p e below T0 m 183 (q_4 i0 i1 i2 i3 i4 nl fl na nb fa fb xn xf ex ms) [] target := by
  obtain ⟨S_cs, hG, S_fm, hF, S_ad, S_hi, S_lo⟩ := id ST
  obtain ⟨ckA, ckB, ckC, ckD, ckE, ckF, ckG, ckH, ckI, ckJ, ckK, ckL, hLen⟩ := id Ck
  have E_ms := HS.exa
  by_cases hc186 : (Int32.ofNat nl) < (1 : Int32)
  · have pf1 : ∀ target, Go p e below T0 m 206 (q_4 i0 i1 i2 i3 i4 nl fl na nb fa fb xn xf ex ms) [(.int (2 : Int32)), (.int (Int32.ofNat nl))] target → Go p e below T0 m 183 (q_4 i0 i1 i2 i3 i4 nl fl na nb fa fb xn xf ex ms) [] target := by
      intro target k
      show Go p e below T0 m 183 (q_4 i0 i1 i2 i3 i4 nl fl na nb fa fb xn xf ex ms) [] _
      refine XS.iload X0.here hx rfl (hb hby at_183) rfl ?_
      refine XS.iconst X0.here hx rfl (hb hby at_185) ?_
      refine XS.icmpYes X0.here hx rfl (pc0 := 186) (pc' := 203) rfl (hb hby at_186) rfl (tlt hc186).1 (by decide) (by decide) ?_
      refine XS.iload X0.here hx rfl (hb hby at_203) rfl ?_
      refine XS.iconst X0.here hx rfl (hb hby at_205) ?_
      exact k
    refine ⟨T0, _, X0, e0, N0, ?_⟩
    intro target k
    refine pf1 _ ?_
    show Go p e below T0 m 206 (q_4 i0 i1 i2 i3 i4 nl fl na nb fa fb xn xf ex ms) [(.int (2 : Int32)), (.int (Int32.ofNat nl))] _
    refine XS.icmpYes X0.here hx rfl (pc0 := 206) (pc' := 225) rfl (hb hby at_206) rfl (tlt ((own_lt (a := nl) (b := 2) (by omega) (by omega)).mpr (by have q := (own_lt (a := nl) (b := 1) (by omega) (by omega)).mp hc186; omega))).1 (by decide) (by decide) ?_
    exact k
  · obtain ⟨cq2, kq2, qa2, qb2, qc2⟩ := isOf hZ e0 E_ms
    obtain ⟨_, _, ⟨T2, L2, k2, n2⟩, -, X2, ⟨Lc2, hQ2, l2, y2, z2⟩, st2⟩ := X0.virtualBack hx (y := Y_0) (z := Y_0) hown (mvT hZ (tw hw 246 rfl)) (mvT hZ (tw hw 247 rfl)) (notFace_of_selects (args := #[]) (mvT hZ (tw hw 249 rfl))) (mvT hZ (tw hw 249 rfl)) (mvT hZ (tw hw 248 rfl)) (by decide) (backOf (W := 0) (rs_ch l Z a0 hw [] G1 Fm ms mb mk tx 14 h0 n0 O0 ST HS (by omega) (by omega)) hZ (tw hw 250 rfl) (tw hw 7 rfl) (by decide) (by decide)) qa2 qc2 (g := (mkF m 193 (q_4 i0 i1 i2 i3 i4 nl fl na nb fa fb xn xf ex ms) [(.int (14 : Int32)), (.ref ms)])) rfl (by rw [hml]; rfl) (Steps.refl _) (argsL := [(.int (14 : Int32))]) (rest := []) (lenOf pd38 rfl) rfl (by show 2 * 0 + _ ≤ _; exact Nat.le_of_eq rfl) (hb hby at_193) (fun _ _ => ⟨rfl, e0, (by decide : 40 + 0 ≤ _), (by decide : 10454 + 0 ≤ _)⟩)
    dsimp only [Pt.U, Pt.locs, Pt.cells, Pt.slots] at X2 l2 y2 z2 st2 hQ2
    subst l2 y2 z2
    obtain ⟨rfl, Nq2, e2⟩ := hQ2
    have N2 := Fr.app N0 Nq2
    have pf3 : ∀ target, Go p e below T2 m 198 (q_4 i0 i1 i2 i3 i4 nl fl na nb fa fb xn xf ex ms) [(.int (cv na)), (.int (cv (tx.getD 14 0)))] target → Go p e below T0 m 183 (q_4 i0 i1 i2 i3 i4 nl fl na nb fa fb xn xf ex ms) [] target := by
      intro target k
      show Go p e below T0 m 183 (q_4 i0 i1 i2 i3 i4 nl fl na nb fa fb xn xf ex ms) [] _
      refine XS.iload X0.here hx rfl (hb hby at_183) rfl ?_
      refine XS.iconst X0.here hx rfl (hb hby at_185) ?_
      refine XS.icmpNo X0.here hx rfl (hb hby at_186) rfl (flt hc186).1 ?_
      refine XS.aload X0.here hx rfl (hb hby at_189) rfl rfl ?_
      refine XS.iload X0.here hx rfl (hb hby at_191) rfl ?_
      refine st2.trans ?_
      show Go p e below T2 m 196 (q_4 i0 i1 i2 i3 i4 nl fl na nb fa fb xn xf ex ms) [(.int (cv (tx.getD 14 0)))] _
      refine XS.iload X2.here hx rfl (hb hby at_196) rfl ?_
      exact k
    by_cases hc206 : (Int32.ofNat nl) < (2 : Int32)
    · refine ⟨T2, _, X2, e2, N2, ?_⟩
      intro target k
      refine pf3 _ ?_
      show Go p e below T2 m 198 (q_4 i0 i1 i2 i3 i4 nl fl na nb fa fb xn xf ex ms) [(.int (cv na)), (.int (cv (tx.getD 14 0)))] _
      refine XS.icmpYes X2.here hx rfl (pc0 := 198) (pc' := 203) rfl (hb hby at_198) rfl (teq (ckC (Nat.le_of_not_lt (fun q => hc186 ((own_lt (a := nl) (b := 1) (by omega) (by omega)).mpr q))))).1 (by decide) (by decide) ?_
      refine XS.iload X2.here hx rfl (hb hby at_203) rfl ?_
      refine XS.iconst X2.here hx rfl (hb hby at_205) ?_
      refine XS.icmpYes X2.here hx rfl (pc0 := 206) (pc' := 225) rfl (hb hby at_206) rfl (tlt hc206).1 (by decide) (by decide) ?_
      exact k
    · obtain ⟨cq4, kq4, qa4, qb4, qc4⟩ := isOf hZ e2 E_ms
      obtain ⟨_, _, ⟨T4, L4, k4, n4⟩, -, X4, ⟨Lc4, hQ4, l4, y4, z4⟩, st4⟩ := X2.virtualBack hx (y := Y_0) (z := Y_0) hown (mvT hZ (tw hw 246 rfl)) (mvT hZ (tw hw 247 rfl)) (notFace_of_selects (args := #[]) (mvT hZ (tw hw 249 rfl))) (mvT hZ (tw hw 249 rfl)) (mvT hZ (tw hw 248 rfl)) (by decide) (backOf (W := 0) (rs_ch l Z a0 hw [] G1 Fm ms mb mk tx 15 h0 n0 O0 ST HS (by omega) (by omega)) hZ (tw hw 250 rfl) (tw hw 7 rfl) (by decide) (by decide)) qa4 qc4 (g := (mkF m 215 (q_4 i0 i1 i2 i3 i4 nl fl na nb fa fb xn xf ex ms) [(.int (15 : Int32)), (.ref ms)])) rfl (by rw [hml]; rfl) (Steps.refl _) (argsL := [(.int (15 : Int32))]) (rest := []) (lenOf pd38 rfl) rfl (by show 2 * 0 + _ ≤ _; exact Nat.le_of_eq rfl) (hb hby at_215) (fun _ _ => ⟨rfl, e2, (by decide : 40 + 0 ≤ _), (by decide : 10454 + 0 ≤ _)⟩)
      dsimp only [Pt.U, Pt.locs, Pt.cells, Pt.slots] at X4 l4 y4 z4 st4 hQ4
      subst l4 y4 z4
      obtain ⟨rfl, Nq4, e4⟩ := hQ4
      have N4 := Fr.app N2 Nq4
      have pf5 : ∀ target, Go p e below T4 m 220 (q_4 i0 i1 i2 i3 i4 nl fl na nb fa fb xn xf ex ms) [(.int (cv nb)), (.int (cv (tx.getD 15 0)))] target → Go p e below T2 m 198 (q_4 i0 i1 i2 i3 i4 nl fl na nb fa fb xn xf ex ms) [(.int (cv na)), (.int (cv (tx.getD 14 0)))] target := by
        intro target k
        show Go p e below T2 m 198 (q_4 i0 i1 i2 i3 i4 nl fl na nb fa fb xn xf ex ms) [(.int (cv na)), (.int (cv (tx.getD 14 0)))] _
        refine XS.icmpYes X2.here hx rfl (pc0 := 198) (pc' := 203) rfl (hb hby at_198) rfl (teq (ckC (Nat.le_of_not_lt (fun q => hc186 ((own_lt (a := nl) (b := 1) (by omega) (by omega)).mpr q))))).1 (by decide) (by decide) ?_
        refine XS.iload X2.here hx rfl (hb hby at_203) rfl ?_
        refine XS.iconst X2.here hx rfl (hb hby at_205) ?_
        refine XS.icmpNo X2.here hx rfl (hb hby at_206) rfl (flt hc206).1 ?_
        refine XS.aload X2.here hx rfl (hb hby at_209) rfl rfl ?_
        refine XS.iload X2.here hx rfl (hb hby at_211) rfl ?_
        refine XS.iconst X2.here hx rfl (hb hby at_213) ?_
        show Go p e below T2 m 214 (q_4 i0 i1 i2 i3 i4 nl fl na nb fa fb xn xf ex ms) [(.int (1 : Int32)), (.int (14 : Int32)), (.ref ms)] _
        refine XS.iadd X2.here hx rfl (hb hby at_214) rfl ?_
        refine st4.trans ?_
        show Go p e below T4 m 218 (q_4 i0 i1 i2 i3 i4 nl fl na nb fa fb xn xf ex ms) [(.int (cv (tx.getD 15 0)))] _
        refine XS.iload X4.here hx rfl (hb hby at_218) rfl ?_
        exact k
      refine ⟨T4, _, X4, e4, N4, ?_⟩
      intro target k
      refine pf3 _ ?_
      refine pf5 _ ?_
      show Go p e below T4 m 220 (q_4 i0 i1 i2 i3 i4 nl fl na nb fa fb xn xf ex ms) [(.int (cv nb)), (.int (cv (tx.getD 15 0)))] _
      refine XS.icmpYes X4.here hx rfl (pc0 := 220) (pc' := 225) rfl (hb hby at_220) rfl (teq (ckD (Nat.le_of_not_lt (fun q => hc206 ((own_lt (a := nl) (b := 2) (by omega) (by omega)).mpr q))))).1 (by decide) (by decide) ?_
      exact k
set_option maxRecDepth 65536 in
set_option maxHeartbeats 40000000 in
theorem rw_c {p : Program} {l : Launch} {e : Env} {s : State} {m : MethodId} {args : Array Value} {below : List Frame} {meth : Method} {c : Code} {T0 : State} {locs : List Loc} {Z : State} {a0 : Array Value} {n0 : Nat} {h0 : Heap} (hw : Hw a0 Z) (X0 : Stand p l e room_1 s m args below meth c T0 locs 40 10454) (hx : p.tables.exec = Jvm.exec) (hby : c.code = code) (hml : c.maxLocals = 22) (hZ : Z.Warmed39 s.vm) (hown : s.vm.findClass "com/example/narrow_lease/narrowlease/LeaseLostExceptionRecordLostPinLaw" = some m.cls) (e0 : T0.heap = h0) (N0 : Fr n0 locs) (O0 : Old Z n0 h0) (G1 : Int32) (Fm : Value) (i0 : Int32) (i1 : Int32) (i2 : Int32) (i3 : Int32) (i4 : Int32) (nl : Nat) (fl : Nat) (na : UInt16) (nb : UInt16) (fa : UInt16) (fb : UInt16) (xn : Addr) (xf : Addr) (ex : Addr) (ms : Addr) (mb : Addr) (mk : ClassId) (tx : List UInt16) (ST : Stc Z G1 Fm) (HS : Strx Z h0 ms mb mk tx) (hn2 : nl ≤ 2) (hf2 : fl ≤ 2) (Ck : Chk tx nl fl na nb fa fb) :
    ∃ (T' : State) (L' : List Loc), Stand p l e room_1 s m args below meth c T' L' 40 10454 ∧ T'.heap = h0 ∧ Fr n0 L' ∧ ∀ target, Go p e below T' m 284 (q_8 i0 i1 i2 i3 i4 nl fl na nb fa fb xn xf ex ms) [] target → Go p e below T0 m 225 (q_4 i0 i1 i2 i3 i4 nl fl na nb fa fb xn xf ex ms) [] target := by
  obtain ⟨S_cs, hG, S_fm, hF, S_ad, S_hi, S_lo⟩ := id ST
  obtain ⟨ckA, ckB, ckC, ckD, ckE, ckF, ckG, ckH, ckI, ckJ, ckK, ckL, hLen⟩ := id Ck
  have E_ms := HS.exa
  obtain ⟨_, T1, Lc1, X1, hQ1, st1⟩ := own_vc X0 hx hZ (y := Y_0) hown (tw hw 246 rfl) (tw hw 247 rfl) (tw hw 249 rfl) (tw hw 248 rfl) (by decide) (rs_ch l Z a0 hw [] G1 Fm ms mb mk tx (14 + nl) h0 n0 O0 ST HS (by omega) (by omega)) (tw hw 250 rfl) (tw hw 7 rfl) e0 E_ms (W := 0) (by decide) (by decide) (Ls := (q_14 i0 i1 i2 i3 i4 nl fl na nb fa fb xn xf ex ms)) (by rw [hml]; rfl) (argsL := [(.int (Int32.ofNat (14 + nl)))]) (rest := []) (lenOf pd38 rfl) (Nat.le_of_eq rfl) (hb hby at_236) rfl (by decide) (by decide)
  obtain ⟨rfl, Nq1, e1⟩ := hQ1
  have N1 := Fr.app N0 Nq1
  have pf2 : ∀ target, Go p e below T1 m 241 (q_14 i0 i1 i2 i3 i4 nl fl na nb fa fb xn xf ex ms) [(.int (32 : Int32)), (.int (cv (tx.getD (14 + nl) 0)))] target → Go p e below T0 m 225 (q_4 i0 i1 i2 i3 i4 nl fl na nb fa fb xn xf ex ms) [] target := by
    intro target k
    show Go p e below T0 m 225 (q_4 i0 i1 i2 i3 i4 nl fl na nb fa fb xn xf ex ms) [] _
    refine XS.iload X0.here hx rfl (hb hby at_225) rfl ?_
    refine XS.iload X0.here hx rfl (hb hby at_227) rfl ?_
    refine XS.iadd X0.here hx rfl (hb hby at_229) rfl ?_
    show Go p e below T0 m 230 (q_4 i0 i1 i2 i3 i4 nl fl na nb fa fb xn xf ex ms) [(.int ((14 : Int32) + (Int32.ofNat nl)))] _
    rw [show ((14 : Int32) + (Int32.ofNat nl)) = (Int32.ofNat (14 + nl)) from own_add 14 nl]
    show Go p e below T0 m 230 (q_4 i0 i1 i2 i3 i4 nl fl na nb fa fb xn xf ex ms) [(.int (Int32.ofNat (14 + nl)))] _
    refine XS.istore X0.here hx rfl (hb hby at_230) rfl (l' := (q_14 i0 i1 i2 i3 i4 nl fl na nb fa fb xn xf ex ms)) rfl ?_
    refine XS.aload X0.here hx rfl (hb hby at_232) rfl rfl ?_
    refine XS.iload X0.here hx rfl (hb hby at_234) rfl ?_
    refine st1 _ ?_
    show Go p e below T1 m 239 (q_14 i0 i1 i2 i3 i4 nl fl na nb fa fb xn xf ex ms) [(.int (cv (tx.getD (14 + nl) 0)))] _
    refine XS.bipush X1.here hx rfl (hb hby at_239) ?_
    exact k
  obtain ⟨_, T3, Lc3, X3, hQ3, st3⟩ := own_vc X1 hx hZ (y := Y_0) hown (tw hw 246 rfl) (tw hw 247 rfl) (tw hw 249 rfl) (tw hw 248 rfl) (by decide) (rs_ch l Z a0 hw [] G1 Fm ms mb mk tx (14 + nl + 1) h0 n0 O0 ST HS (by omega) (by omega)) (tw hw 250 rfl) (tw hw 7 rfl) e1 E_ms (W := 0) (by decide) (by decide) (Ls := (q_14 i0 i1 i2 i3 i4 nl fl na nb fa fb xn xf ex ms)) (by rw [hml]; rfl) (argsL := [(.int (Int32.ofNat (14 + nl + 1)))]) (rest := []) (lenOf pd38 rfl) (Nat.le_of_eq rfl) (hb hby at_250) rfl (by decide) (by decide)
  obtain ⟨rfl, Nq3, e3⟩ := hQ3
  have N3 := Fr.app N1 Nq3
  have pf4 : ∀ target, Go p e below T3 m 255 (q_14 i0 i1 i2 i3 i4 nl fl na nb fa fb xn xf ex ms) [(.int (105 : Int32)), (.int (cv (tx.getD (14 + nl + 1) 0)))] target → Go p e below T1 m 241 (q_14 i0 i1 i2 i3 i4 nl fl na nb fa fb xn xf ex ms) [(.int (32 : Int32)), (.int (cv (tx.getD (14 + nl) 0)))] target := by
    intro target k
    show Go p e below T1 m 241 (q_14 i0 i1 i2 i3 i4 nl fl na nb fa fb xn xf ex ms) [(.int (32 : Int32)), (.int (cv (tx.getD (14 + nl) 0)))] _
    refine XS.icmpNo X1.here hx rfl (hb hby at_241) rfl (teq ckE).2 ?_
    refine XS.aload X1.here hx rfl (hb hby at_244) rfl rfl ?_
    refine XS.iload X1.here hx rfl (hb hby at_246) rfl ?_
    refine XS.iconst X1.here hx rfl (hb hby at_248) ?_
    refine XS.iadd X1.here hx rfl (hb hby at_249) rfl ?_
    show Go p e below T1 m 250 (q_14 i0 i1 i2 i3 i4 nl fl na nb fa fb xn xf ex ms) [(.int ((Int32.ofNat (14 + nl)) + (1 : Int32))), (.ref ms)] _
    rw [show ((Int32.ofNat (14 + nl)) + (1 : Int32)) = (Int32.ofNat (14 + nl + 1)) from own_add (14 + nl) 1]
    refine st3 _ ?_
    show Go p e below T3 m 253 (q_14 i0 i1 i2 i3 i4 nl fl na nb fa fb xn xf ex ms) [(.int (cv (tx.getD (14 + nl + 1) 0)))] _
    refine XS.bipush X3.here hx rfl (hb hby at_253) ?_
    exact k
  obtain ⟨_, T5, Lc5, X5, hQ5, st5⟩ := own_vc X3 hx hZ (y := Y_0) hown (tw hw 246 rfl) (tw hw 247 rfl) (tw hw 249 rfl) (tw hw 248 rfl) (by decide) (rs_ch l Z a0 hw [] G1 Fm ms mb mk tx (14 + nl + 38 - 1) h0 n0 O0 ST HS (by omega) (by omega)) (tw hw 250 rfl) (tw hw 7 rfl) e3 E_ms (W := 0) (by decide) (by decide) (Ls := (q_14 i0 i1 i2 i3 i4 nl fl na nb fa fb xn xf ex ms)) (by rw [hml]; rfl) (argsL := [(.int (Int32.ofNat (14 + nl + 38 - 1)))]) (rest := []) (lenOf pd38 rfl) (Nat.le_of_eq rfl) (hb hby at_267) rfl (by decide) (by decide)
  obtain ⟨rfl, Nq5, e5⟩ := hQ5
  have N5 := Fr.app N3 Nq5
  have pf6 : ∀ target, Go p e below T5 m 272 (q_14 i0 i1 i2 i3 i4 nl fl na nb fa fb xn xf ex ms) [(.int (32 : Int32)), (.int (cv (tx.getD (14 + nl + 38 - 1) 0)))] target → Go p e below T3 m 255 (q_14 i0 i1 i2 i3 i4 nl fl na nb fa fb xn xf ex ms) [(.int (105 : Int32)), (.int (cv (tx.getD (14 + nl + 1) 0)))] target := by
    intro target k
    show Go p e below T3 m 255 (q_14 i0 i1 i2 i3 i4 nl fl na nb fa fb xn xf ex ms) [(.int (105 : Int32)), (.int (cv (tx.getD (14 + nl + 1) 0)))] _
    refine XS.icmpNo X3.here hx rfl (hb hby at_255) rfl (teq ckF).2 ?_
    refine XS.aload X3.here hx rfl (hb hby at_258) rfl rfl ?_
    refine XS.iload X3.here hx rfl (hb hby at_260) rfl ?_
    refine XS.iload X3.here hx rfl (hb hby at_262) rfl ?_
    refine XS.iadd X3.here hx rfl (hb hby at_264) rfl ?_
    show Go p e below T3 m 265 (q_14 i0 i1 i2 i3 i4 nl fl na nb fa fb xn xf ex ms) [(.int ((Int32.ofNat (14 + nl)) + (38 : Int32))), (.ref ms)] _
    rw [show ((Int32.ofNat (14 + nl)) + (38 : Int32)) = (Int32.ofNat (14 + nl + 38)) from own_add (14 + nl) 38]
    show Go p e below T3 m 265 (q_14 i0 i1 i2 i3 i4 nl fl na nb fa fb xn xf ex ms) [(.int (Int32.ofNat (14 + nl + 38))), (.ref ms)] _
    refine XS.iconst X3.here hx rfl (hb hby at_265) ?_
    refine XS.isub X3.here hx rfl (hb hby at_266) rfl ?_
    show Go p e below T3 m 267 (q_14 i0 i1 i2 i3 i4 nl fl na nb fa fb xn xf ex ms) [(.int ((Int32.ofNat (14 + nl + 38)) - (1 : Int32))), (.ref ms)] _
    rw [show ((Int32.ofNat (14 + nl + 38)) - (1 : Int32)) = (Int32.ofNat (14 + nl + 38 - 1)) from own_sub (a := 14 + nl + 38) (b := 1) (by omega)]
    refine st5 _ ?_
    show Go p e below T5 m 270 (q_14 i0 i1 i2 i3 i4 nl fl na nb fa fb xn xf ex ms) [(.int (cv (tx.getD (14 + nl + 38 - 1) 0)))] _
    refine XS.bipush X5.here hx rfl (hb hby at_270) ?_
    exact k
  refine ⟨T5, _, X5, e5, N5, ?_⟩
  intro target k
  refine pf2 _ ?_
  refine pf4 _ ?_
  refine pf6 _ ?_
  show Go p e below T5 m 272 (q_14 i0 i1 i2 i3 i4 nl fl na nb fa fb xn xf ex ms) [(.int (32 : Int32)), (.int (cv (tx.getD (14 + nl + 38 - 1) 0)))] _
  refine XS.icmpYes X5.here hx rfl (pc0 := 272) (pc' := 277) rfl (hb hby at_272) rfl (teq ckG).1 (by decide) (by decide) ?_
  refine XS.iload X5.here hx rfl (hb hby at_277) rfl ?_
  refine XS.iload X5.here hx rfl (hb hby at_279) rfl ?_
  refine XS.iadd X5.here hx rfl (hb hby at_281) rfl ?_
  show Go p e below T5 m 282 (q_14 i0 i1 i2 i3 i4 nl fl na nb fa fb xn xf ex ms) [(.int ((Int32.ofNat (14 + nl)) + (38 : Int32)))] _
  rw [show ((Int32.ofNat (14 + nl)) + (38 : Int32)) = (Int32.ofNat (14 + nl + 38)) from own_add (14 + nl) 38]
  show Go p e below T5 m 282 (q_14 i0 i1 i2 i3 i4 nl fl na nb fa fb xn xf ex ms) [(.int (Int32.ofNat (14 + nl + 38)))] _
  refine XS.istore X5.here hx rfl (hb hby at_282) rfl (l' := (q_8 i0 i1 i2 i3 i4 nl fl na nb fa fb xn xf ex ms)) rfl ?_
  exact k
set_option maxRecDepth 65536 in
set_option maxHeartbeats 40000000 in
theorem rw_d {p : Program} {l : Launch} {e : Env} {s : State} {m : MethodId} {args : Array Value} {below : List Frame} {meth : Method} {c : Code} {T0 : State} {locs : List Loc} {Z : State} {a0 : Array Value} {n0 : Nat} {h0 : Heap} (hw : Hw a0 Z) (X0 : Stand p l e room_1 s m args below meth c T0 locs 40 10454) (hx : p.tables.exec = Jvm.exec) (hby : c.code = code) (hml : c.maxLocals = 22) (hZ : Z.Warmed39 s.vm) (hown : s.vm.findClass "com/example/narrow_lease/narrowlease/LeaseLostExceptionRecordLostPinLaw" = some m.cls) (e0 : T0.heap = h0) (N0 : Fr n0 locs) (O0 : Old Z n0 h0) (G1 : Int32) (Fm : Value) (i0 : Int32) (i1 : Int32) (i2 : Int32) (i3 : Int32) (i4 : Int32) (nl : Nat) (fl : Nat) (na : UInt16) (nb : UInt16) (fa : UInt16) (fb : UInt16) (xn : Addr) (xf : Addr) (ex : Addr) (ms : Addr) (mb : Addr) (mk : ClassId) (tx : List UInt16) (ST : Stc Z G1 Fm) (HS : Strx Z h0 ms mb mk tx) (hn2 : nl ≤ 2) (hf2 : fl ≤ 2) (Ck : Chk tx nl fl na nb fa fb) :
    ∃ (T' : State) (L' : List Loc), Stand p l e room_1 s m args below meth c T' L' 40 10454 ∧ T'.heap = h0 ∧ Fr n0 L' ∧ ∀ target, Go p e below T' m 326 (q_8 i0 i1 i2 i3 i4 nl fl na nb fa fb xn xf ex ms) [] target → Go p e below T0 m 284 (q_8 i0 i1 i2 i3 i4 nl fl na nb fa fb xn xf ex ms) [] target := by
  obtain ⟨S_cs, hG, S_fm, hF, S_ad, S_hi, S_lo⟩ := id ST
  obtain ⟨ckA, ckB, ckC, ckD, ckE, ckF, ckG, ckH, ckI, ckJ, ckK, ckL, hLen⟩ := id Ck
  have E_ms := HS.exa
  by_cases hc287 : (Int32.ofNat fl) < (1 : Int32)
  · have pf1 : ∀ target, Go p e below T0 m 307 (q_8 i0 i1 i2 i3 i4 nl fl na nb fa fb xn xf ex ms) [(.int (2 : Int32)), (.int (Int32.ofNat fl))] target → Go p e below T0 m 284 (q_8 i0 i1 i2 i3 i4 nl fl na nb fa fb xn xf ex ms) [] target := by
      intro target k
      show Go p e below T0 m 284 (q_8 i0 i1 i2 i3 i4 nl fl na nb fa fb xn xf ex ms) [] _
      refine XS.iload X0.here hx rfl (hb hby at_284) rfl ?_
      refine XS.iconst X0.here hx rfl (hb hby at_286) ?_
      refine XS.icmpYes X0.here hx rfl (pc0 := 287) (pc' := 304) rfl (hb hby at_287) rfl (tlt hc287).1 (by decide) (by decide) ?_
      refine XS.iload X0.here hx rfl (hb hby at_304) rfl ?_
      refine XS.iconst X0.here hx rfl (hb hby at_306) ?_
      exact k
    refine ⟨T0, _, X0, e0, N0, ?_⟩
    intro target k
    refine pf1 _ ?_
    show Go p e below T0 m 307 (q_8 i0 i1 i2 i3 i4 nl fl na nb fa fb xn xf ex ms) [(.int (2 : Int32)), (.int (Int32.ofNat fl))] _
    refine XS.icmpYes X0.here hx rfl (pc0 := 307) (pc' := 326) rfl (hb hby at_307) rfl (tlt ((own_lt (a := fl) (b := 2) (by omega) (by omega)).mpr (by have q := (own_lt (a := fl) (b := 1) (by omega) (by omega)).mp hc287; omega))).1 (by decide) (by decide) ?_
    exact k
  · obtain ⟨cq2, kq2, qa2, qb2, qc2⟩ := isOf hZ e0 E_ms
    obtain ⟨_, _, ⟨T2, L2, k2, n2⟩, -, X2, ⟨Lc2, hQ2, l2, y2, z2⟩, st2⟩ := X0.virtualBack hx (y := Y_0) (z := Y_0) hown (mvT hZ (tw hw 246 rfl)) (mvT hZ (tw hw 247 rfl)) (notFace_of_selects (args := #[]) (mvT hZ (tw hw 249 rfl))) (mvT hZ (tw hw 249 rfl)) (mvT hZ (tw hw 248 rfl)) (by decide) (backOf (W := 0) (rs_ch l Z a0 hw [] G1 Fm ms mb mk tx (14 + nl + 38) h0 n0 O0 ST HS (by omega) (by omega)) hZ (tw hw 250 rfl) (tw hw 7 rfl) (by decide) (by decide)) qa2 qc2 (g := (mkF m 294 (q_8 i0 i1 i2 i3 i4 nl fl na nb fa fb xn xf ex ms) [(.int (Int32.ofNat (14 + nl + 38))), (.ref ms)])) rfl (by rw [hml]; rfl) (Steps.refl _) (argsL := [(.int (Int32.ofNat (14 + nl + 38)))]) (rest := []) (lenOf pd38 rfl) rfl (by show 2 * 0 + _ ≤ _; exact Nat.le_of_eq rfl) (hb hby at_294) (fun _ _ => ⟨rfl, e0, (by decide : 40 + 0 ≤ _), (by decide : 10454 + 0 ≤ _)⟩)
    dsimp only [Pt.U, Pt.locs, Pt.cells, Pt.slots] at X2 l2 y2 z2 st2 hQ2
    subst l2 y2 z2
    obtain ⟨rfl, Nq2, e2⟩ := hQ2
    have N2 := Fr.app N0 Nq2
    have pf3 : ∀ target, Go p e below T2 m 299 (q_8 i0 i1 i2 i3 i4 nl fl na nb fa fb xn xf ex ms) [(.int (cv fa)), (.int (cv (tx.getD (14 + nl + 38) 0)))] target → Go p e below T0 m 284 (q_8 i0 i1 i2 i3 i4 nl fl na nb fa fb xn xf ex ms) [] target := by
      intro target k
      show Go p e below T0 m 284 (q_8 i0 i1 i2 i3 i4 nl fl na nb fa fb xn xf ex ms) [] _
      refine XS.iload X0.here hx rfl (hb hby at_284) rfl ?_
      refine XS.iconst X0.here hx rfl (hb hby at_286) ?_
      refine XS.icmpNo X0.here hx rfl (hb hby at_287) rfl (flt hc287).1 ?_
      refine XS.aload X0.here hx rfl (hb hby at_290) rfl rfl ?_
      refine XS.iload X0.here hx rfl (hb hby at_292) rfl ?_
      refine st2.trans ?_
      show Go p e below T2 m 297 (q_8 i0 i1 i2 i3 i4 nl fl na nb fa fb xn xf ex ms) [(.int (cv (tx.getD (14 + nl + 38) 0)))] _
      refine XS.iload X2.here hx rfl (hb hby at_297) rfl ?_
      exact k
    by_cases hc307 : (Int32.ofNat fl) < (2 : Int32)
    · refine ⟨T2, _, X2, e2, N2, ?_⟩
      intro target k
      refine pf3 _ ?_
      show Go p e below T2 m 299 (q_8 i0 i1 i2 i3 i4 nl fl na nb fa fb xn xf ex ms) [(.int (cv fa)), (.int (cv (tx.getD (14 + nl + 38) 0)))] _
      refine XS.icmpYes X2.here hx rfl (pc0 := 299) (pc' := 304) rfl (hb hby at_299) rfl (teq (ckH (Nat.le_of_not_lt (fun q => hc287 ((own_lt (a := fl) (b := 1) (by omega) (by omega)).mpr q))))).1 (by decide) (by decide) ?_
      refine XS.iload X2.here hx rfl (hb hby at_304) rfl ?_
      refine XS.iconst X2.here hx rfl (hb hby at_306) ?_
      refine XS.icmpYes X2.here hx rfl (pc0 := 307) (pc' := 326) rfl (hb hby at_307) rfl (tlt hc307).1 (by decide) (by decide) ?_
      exact k
    · obtain ⟨cq4, kq4, qa4, qb4, qc4⟩ := isOf hZ e2 E_ms
      obtain ⟨_, _, ⟨T4, L4, k4, n4⟩, -, X4, ⟨Lc4, hQ4, l4, y4, z4⟩, st4⟩ := X2.virtualBack hx (y := Y_0) (z := Y_0) hown (mvT hZ (tw hw 246 rfl)) (mvT hZ (tw hw 247 rfl)) (notFace_of_selects (args := #[]) (mvT hZ (tw hw 249 rfl))) (mvT hZ (tw hw 249 rfl)) (mvT hZ (tw hw 248 rfl)) (by decide) (backOf (W := 0) (rs_ch l Z a0 hw [] G1 Fm ms mb mk tx (14 + nl + 38 + 1) h0 n0 O0 ST HS (by omega) (by omega)) hZ (tw hw 250 rfl) (tw hw 7 rfl) (by decide) (by decide)) qa4 qc4 (g := (mkF m 316 (q_8 i0 i1 i2 i3 i4 nl fl na nb fa fb xn xf ex ms) [(.int (Int32.ofNat (14 + nl + 38 + 1))), (.ref ms)])) rfl (by rw [hml]; rfl) (Steps.refl _) (argsL := [(.int (Int32.ofNat (14 + nl + 38 + 1)))]) (rest := []) (lenOf pd38 rfl) rfl (by show 2 * 0 + _ ≤ _; exact Nat.le_of_eq rfl) (hb hby at_316) (fun _ _ => ⟨rfl, e2, (by decide : 40 + 0 ≤ _), (by decide : 10454 + 0 ≤ _)⟩)
      dsimp only [Pt.U, Pt.locs, Pt.cells, Pt.slots] at X4 l4 y4 z4 st4 hQ4
      subst l4 y4 z4
      obtain ⟨rfl, Nq4, e4⟩ := hQ4
      have N4 := Fr.app N2 Nq4
      have pf5 : ∀ target, Go p e below T4 m 321 (q_8 i0 i1 i2 i3 i4 nl fl na nb fa fb xn xf ex ms) [(.int (cv fb)), (.int (cv (tx.getD (14 + nl + 38 + 1) 0)))] target → Go p e below T2 m 299 (q_8 i0 i1 i2 i3 i4 nl fl na nb fa fb xn xf ex ms) [(.int (cv fa)), (.int (cv (tx.getD (14 + nl + 38) 0)))] target := by
        intro target k
        show Go p e below T2 m 299 (q_8 i0 i1 i2 i3 i4 nl fl na nb fa fb xn xf ex ms) [(.int (cv fa)), (.int (cv (tx.getD (14 + nl + 38) 0)))] _
        refine XS.icmpYes X2.here hx rfl (pc0 := 299) (pc' := 304) rfl (hb hby at_299) rfl (teq (ckH (Nat.le_of_not_lt (fun q => hc287 ((own_lt (a := fl) (b := 1) (by omega) (by omega)).mpr q))))).1 (by decide) (by decide) ?_
        refine XS.iload X2.here hx rfl (hb hby at_304) rfl ?_
        refine XS.iconst X2.here hx rfl (hb hby at_306) ?_
        refine XS.icmpNo X2.here hx rfl (hb hby at_307) rfl (flt hc307).1 ?_
        refine XS.aload X2.here hx rfl (hb hby at_310) rfl rfl ?_
        refine XS.iload X2.here hx rfl (hb hby at_312) rfl ?_
        refine XS.iconst X2.here hx rfl (hb hby at_314) ?_
        show Go p e below T2 m 315 (q_8 i0 i1 i2 i3 i4 nl fl na nb fa fb xn xf ex ms) [(.int (1 : Int32)), (.int (Int32.ofNat (14 + nl + 38))), (.ref ms)] _
        refine XS.iadd X2.here hx rfl (hb hby at_315) rfl ?_
        show Go p e below T2 m 316 (q_8 i0 i1 i2 i3 i4 nl fl na nb fa fb xn xf ex ms) [(.int ((Int32.ofNat (14 + nl + 38)) + (1 : Int32))), (.ref ms)] _
        rw [show ((Int32.ofNat (14 + nl + 38)) + (1 : Int32)) = (Int32.ofNat (14 + nl + 38 + 1)) from own_add (14 + nl + 38) 1]
        refine st4.trans ?_
        show Go p e below T4 m 319 (q_8 i0 i1 i2 i3 i4 nl fl na nb fa fb xn xf ex ms) [(.int (cv (tx.getD (14 + nl + 38 + 1) 0)))] _
        refine XS.iload X4.here hx rfl (hb hby at_319) rfl ?_
        exact k
      refine ⟨T4, _, X4, e4, N4, ?_⟩
      intro target k
      refine pf3 _ ?_
      refine pf5 _ ?_
      show Go p e below T4 m 321 (q_8 i0 i1 i2 i3 i4 nl fl na nb fa fb xn xf ex ms) [(.int (cv fb)), (.int (cv (tx.getD (14 + nl + 38 + 1) 0)))] _
      refine XS.icmpYes X4.here hx rfl (pc0 := 321) (pc' := 326) rfl (hb hby at_321) rfl (teq (ckI (Nat.le_of_not_lt (fun q => hc307 ((own_lt (a := fl) (b := 2) (by omega) (by omega)).mpr q))))).1 (by decide) (by decide) ?_
      exact k
theorem pd39 : parseMethodDescriptor "(ICC)Ljava/lang/String;" = some ⟨[.int, .char, .char], some (.object "java/lang/String")⟩ := by decide +kernel
theorem pd40 : parseMethodDescriptor "(Ljava/lang/String;Ljava/lang/String;)Lcom/example/narrow_lease/narrowlease/LeaseLostException;" = some ⟨[(.object "java/lang/String"), (.object "java/lang/String")], some (.object "com/example/narrow_lease/narrowlease/LeaseLostException")⟩ := by decide +kernel
theorem pd41 : parseMethodDescriptor "()Ljava/lang/Throwable;" = some ⟨[], some (.object "java/lang/Throwable")⟩ := by decide +kernel
theorem ef_rw_l (m : MethodId) (x0 : Int32) (x1 : Int32) (x2 : Int32) (x3 : Int32) (x4 : Int32) : entryFrame m #[(.int x0), (.int x1), (.int x2), (.int x3), (.int x4)] maxLocals = mkF m 0 #[.val (.int x0), .val (.int x1), .val (.int x2), .val (.int x3), .val (.int x4), .unset, .unset, .unset, .unset, .unset, .unset, .unset, .unset, .unset, .unset, .unset, .unset, .unset, .unset, .unset, .unset, .unset] [] := by first | (simp [entryFrame, mkF, argsToLocals, Value.category, maxLocals]; done) | rfl
set_option maxRecDepth 65536 in
set_option maxHeartbeats 40000000 in
theorem rw_l (l : Launch) (Z : State) (a0 : Array Value) (hw : Hw a0 Z) (ws : List Jvm.Cond) (G1 : Int32) (Fm : Value) (u1 : RefV) (u2 : RefV) (i0 : Int32) (i1 : Int32) (i2 : Int32) (i3 : Int32) (i4 : Int32) (h0 : Heap) (n0 : Nat) (O0 : Old Z n0 h0) (ST : Stc Z G1 Fm) (hl : l.stackTraces = true) (TS : Tst Z u1 u2) :
    MetFree l x (head1 (Jvm.Cond.code x code maxLocals ret :: ws) room_1) (fun a U => a = #[(.int i0), (.int i1), (.int i2), (.int i3), (.int i4)] ∧ Z.Warmed39 U.vm ∧ U.heap = h0 ∧ CHv Z EL0 U.vm h0) (fun _ _ bl s _ => s.vm.MethodsKnown ∧ s.vm.FramesKnown bl) (fun _ U o U' => ∃ v L, o = .returned v ∧ Ql h0 n0 v U'.heap L ∧ CHr Z EL0 U.vm U.heap U'.vm U'.heap ∧ ReturnedEndW U o U' L room_1.cells room_1.slots) := by
  refine MetFree.of_bodySF (plainFor_of_name pn8) hisR ?_
  intro p e s m args below meth c s₁ Bd hml0 hP hK
  obtain ⟨rfl, hZ, hh, H0⟩ := hP
  have hx := Bd.exec
  have hby := Bd.bytes
  have hml : c.maxLocals = 22 := hml0
  have hown : s.vm.findClass "com/example/narrow_lease/narrowlease/LeaseLostExceptionRecordLostPinLaw" = some m.cls := findClass_of_methodNamed Bd.named
  have hnm := (name_of_methodNamed Bd.named Bd.method).1
  have X0 : Stand p l e room_1 s m #[(.int i0), (.int i1), (.int i2), (.int i3), (.int i4)] below meth c s₁ [] 0 0 := Stand.of_body Bd
  have e0 : s₁.heap = h0 := by rw [← hh, Bd.state]; rfl
  have N0 := Fr.nil n0
  have X0 : Stand p l e room_1 (s.setVm s.vm) m #[(.int i0), (.int i1), (.int i2), (.int i3), (.int i4)] below meth c s₁ [] 0 0 := X0
  have hZ : Z.Warmed39 (s.setVm s.vm).vm := hZ
  have hown : (s.setVm s.vm).vm.findClass "com/example/narrow_lease/narrowlease/LeaseLostExceptionRecordLostPinLaw" = some m.cls := hown
  have hS : s.Since s.vm 0 := (State.WarmedH.refl s).since 0
  have hk : 0 ≤ h0.size := Nat.zero_le _
  have CH0 := CHr.refl H0
  obtain ⟨S_cs, hG, S_fm, hF, S_ad, S_hi, S_lo⟩ := id ST
  have hA0 := hZ.alike
  obtain ⟨nl, hn2, hnl⟩ := own_sel i0
  obtain ⟨fl, hf2, hfl⟩ := own_sel ((i0.toUInt32 >>> ((2 : Int32) &&& 31).toUInt32).toInt32)
  obtain ⟨na, hna⟩ : ∃ u : UInt16, (i1 &&& (65535 : Int32)).toUInt32.toUInt16 = u := ⟨_, rfl⟩
  obtain ⟨nb, hnb⟩ : ∃ u : UInt16, (i2 &&& (65535 : Int32)).toUInt32.toUInt16 = u := ⟨_, rfl⟩
  obtain ⟨fa, hfa⟩ : ∃ u : UInt16, (i3 &&& (65535 : Int32)).toUInt32.toUInt16 = u := ⟨_, rfl⟩
  obtain ⟨fb, hfb⟩ : ∃ u : UInt16, (i4 &&& (65535 : Int32)).toUInt32.toUInt16 = u := ⟨_, rfl⟩
  have pf1 : ∀ target, Go p e below s₁ m 51 (q_63 i0 i1 i2 i3 i4 nl fl na nb fa fb) [(.int (cv nb)), (.int (cv na)), (.int (Int32.ofNat nl))] target → Go p e below s₁ m 0 (q_84 i0 i1 i2 i3 i4) [] target := by
    intro target k
    show Go p e below s₁ m 0 (q_84 i0 i1 i2 i3 i4) [] _
    refine XS.iloadN X0.here hx rfl (hb hby at_0) rfl ?_
    refine XS.iconst X0.here hx rfl (hb hby at_1) ?_
    refine XS.iand X0.here hx rfl (hb hby at_2) rfl ?_
    refine XS.iconst X0.here hx rfl (hb hby at_3) ?_
    refine iremM X0 hx rfl (hb hby at_4) rfl (by decide) ?_
    show Go p e below s₁ m 5 (q_84 i0 i1 i2 i3 i4) [(.int ((i0 &&& (3 : Int32)) % (3 : Int32)))] _
    rw [show ((i0 &&& (3 : Int32)) % (3 : Int32)) = (Int32.ofNat nl) from hnl]
    refine XS.istore X0.here hx rfl (hb hby at_5) rfl (l' := (q_79 i0 i1 i2 i3 i4 nl)) rfl ?_
    show Go p e below s₁ m 7 (q_79 i0 i1 i2 i3 i4 nl) [] _
    refine XS.iloadN X0.here hx rfl (hb hby at_7) rfl ?_
    refine XS.iconst X0.here hx rfl (hb hby at_8) ?_
    refine XS.iushr X0.here hx rfl (hb hby at_9) rfl ?_
    refine XS.iconst X0.here hx rfl (hb hby at_10) ?_
    refine XS.iand X0.here hx rfl (hb hby at_11) rfl ?_
    refine XS.iconst X0.here hx rfl (hb hby at_12) ?_
    refine iremM X0 hx rfl (hb hby at_13) rfl (by decide) ?_
    show Go p e below s₁ m 14 (q_79 i0 i1 i2 i3 i4 nl) [(.int ((((i0.toUInt32 >>> ((2 : Int32) &&& 31).toUInt32).toInt32) &&& (3 : Int32)) % (3 : Int32)))] _
    show Go p e below s₁ m 14 (q_79 i0 i1 i2 i3 i4 nl) [(.int ((((i0.toUInt32 >>> ((2 : Int32) &&& 31).toUInt32).toInt32) &&& (3 : Int32)) % (3 : Int32)))] _
    rw [show ((((i0.toUInt32 >>> ((2 : Int32) &&& 31).toUInt32).toInt32) &&& (3 : Int32)) % (3 : Int32)) = (Int32.ofNat fl) from hfl]
    refine XS.istore X0.here hx rfl (hb hby at_14) rfl (l' := (q_58 i0 i1 i2 i3 i4 nl fl)) rfl ?_
    show Go p e below s₁ m 16 (q_58 i0 i1 i2 i3 i4 nl fl) [] _
    refine XS.iloadN X0.here hx rfl (hb hby at_16) rfl ?_
    show Go p e below s₁ m 17 (q_58 i0 i1 i2 i3 i4 nl fl) [(.int i1)] _
    refine X0.ldcInt hx hown (mvT hZ (tw hw 0 rfl)) (g := (mkF m 17 (q_58 i0 i1 i2 i3 i4 nl fl) [(.int i1)])) rfl (hb hby at_17) _ ?_
    show Go p e below s₁ m 19 (q_58 i0 i1 i2 i3 i4 nl fl) [(.int (65535 : Int32)), (.int i1)] _
    refine XS.iand X0.here hx rfl (hb hby at_19) rfl ?_
    refine XS.i2c X0.here hx rfl (hb hby at_20) rfl ?_
    show Go p e below s₁ m 21 (q_58 i0 i1 i2 i3 i4 nl fl) [(.int ((i1 &&& (65535 : Int32)).toUInt32.toUInt16.toUInt32.toInt32))] _
    rw [show ((i1 &&& (65535 : Int32)).toUInt32.toUInt16.toUInt32.toInt32) = (cv na) from congrArg cv hna]
    show Go p e below s₁ m 21 (q_58 i0 i1 i2 i3 i4 nl fl) [(.int (cv na))] _
    refine XS.istore X0.here hx rfl (hb hby at_21) rfl (l' := (q_64 i0 i1 i2 i3 i4 nl fl na)) rfl ?_
    refine XS.iloadN X0.here hx rfl (hb hby at_23) rfl ?_
    show Go p e below s₁ m 24 (q_64 i0 i1 i2 i3 i4 nl fl na) [(.int i2)] _
    refine X0.ldcInt hx hown (mvT hZ (tw hw 0 rfl)) (g := (mkF m 24 (q_64 i0 i1 i2 i3 i4 nl fl na) [(.int i2)])) rfl (hb hby at_24) _ ?_
    show Go p e below s₁ m 26 (q_64 i0 i1 i2 i3 i4 nl fl na) [(.int (65535 : Int32)), (.int i2)] _
    refine XS.iand X0.here hx rfl (hb hby at_26) rfl ?_
    refine XS.i2c X0.here hx rfl (hb hby at_27) rfl ?_
    show Go p e below s₁ m 28 (q_64 i0 i1 i2 i3 i4 nl fl na) [(.int ((i2 &&& (65535 : Int32)).toUInt32.toUInt16.toUInt32.toInt32))] _
    rw [show ((i2 &&& (65535 : Int32)).toUInt32.toUInt16.toUInt32.toInt32) = (cv nb) from congrArg cv hnb]
    show Go p e below s₁ m 28 (q_64 i0 i1 i2 i3 i4 nl fl na) [(.int (cv nb))] _
    refine XS.istore X0.here hx rfl (hb hby at_28) rfl (l' := (q_65 i0 i1 i2 i3 i4 nl fl na nb)) rfl ?_
    refine XS.iloadN X0.here hx rfl (hb hby at_30) rfl ?_
    show Go p e below s₁ m 31 (q_65 i0 i1 i2 i3 i4 nl fl na nb) [(.int i3)] _
    refine X0.ldcInt hx hown (mvT hZ (tw hw 0 rfl)) (g := (mkF m 31 (q_65 i0 i1 i2 i3 i4 nl fl na nb) [(.int i3)])) rfl (hb hby at_31) _ ?_
    show Go p e below s₁ m 33 (q_65 i0 i1 i2 i3 i4 nl fl na nb) [(.int (65535 : Int32)), (.int i3)] _
    refine XS.iand X0.here hx rfl (hb hby at_33) rfl ?_
    refine XS.i2c X0.here hx rfl (hb hby at_34) rfl ?_
    show Go p e below s₁ m 35 (q_65 i0 i1 i2 i3 i4 nl fl na nb) [(.int ((i3 &&& (65535 : Int32)).toUInt32.toUInt16.toUInt32.toInt32))] _
    rw [show ((i3 &&& (65535 : Int32)).toUInt32.toUInt16.toUInt32.toInt32) = (cv fa) from congrArg cv hfa]
    show Go p e below s₁ m 35 (q_65 i0 i1 i2 i3 i4 nl fl na nb) [(.int (cv fa))] _
    refine XS.istore X0.here hx rfl (hb hby at_35) rfl (l' := (q_66 i0 i1 i2 i3 i4 nl fl na nb fa)) rfl ?_
    refine XS.iload X0.here hx rfl (hb hby at_37) rfl ?_
    show Go p e below s₁ m 39 (q_66 i0 i1 i2 i3 i4 nl fl na nb fa) [(.int i4)] _
    refine X0.ldcInt hx hown (mvT hZ (tw hw 0 rfl)) (g := (mkF m 39 (q_66 i0 i1 i2 i3 i4 nl fl na nb fa) [(.int i4)])) rfl (hb hby at_39) _ ?_
    show Go p e below s₁ m 41 (q_66 i0 i1 i2 i3 i4 nl fl na nb fa) [(.int (65535 : Int32)), (.int i4)] _
    refine XS.iand X0.here hx rfl (hb hby at_41) rfl ?_
    refine XS.i2c X0.here hx rfl (hb hby at_42) rfl ?_
    show Go p e below s₁ m 43 (q_66 i0 i1 i2 i3 i4 nl fl na nb fa) [(.int ((i4 &&& (65535 : Int32)).toUInt32.toUInt16.toUInt32.toInt32))] _
    rw [show ((i4 &&& (65535 : Int32)).toUInt32.toUInt16.toUInt32.toInt32) = (cv fb) from congrArg cv hfb]
    show Go p e below s₁ m 43 (q_66 i0 i1 i2 i3 i4 nl fl na nb fa) [(.int (cv fb))] _
    refine XS.istore X0.here hx rfl (hb hby at_43) rfl (l' := (q_63 i0 i1 i2 i3 i4 nl fl na nb fa fb)) rfl ?_
    refine XS.iload X0.here hx rfl (hb hby at_45) rfl ?_
    refine XS.iload X0.here hx rfl (hb hby at_47) rfl ?_
    refine XS.iload X0.here hx rfl (hb hby at_49) rfl ?_
    exact k
  obtain ⟨_, _, ⟨T2, L2, k2, n2⟩, -, X2, hS2, hg2, ⟨Lc2, hQ2, l2, y2, z2, cs2⟩, st2⟩ := Jvm.RoadKit.callSS X0 hx (y := Y_6) hown (mvT hZ (tw hw 1 rfl)) (mvT hZ (tw hw 2 rfl)) (mvT hZ (tw hw 3 rfl)) (mvT hZ (tw hw 4 rfl)) (by decide) (backOfSH (W := 0) (rk_mk l Z a0 hw [] G1 Fm nl na nb h0 n0 O0 ST hn2) hZ (tw hw 4 rfl) (tw hw 3 rfl) (by decide) (by decide) (own_EW hw) H0) (g := (mkF m 51 (q_63 i0 i1 i2 i3 i4 nl fl na nb fa fb) [(.int (cv nb)), (.int (cv na)), (.int (Int32.ofNat nl))])) rfl (by rw [hml]; rfl) (argsL := [(.int (Int32.ofNat nl)), (.int (cv na)), (.int (cv nb))]) (rest := []) (lenOf pd39 rfl) rfl (by show 2 * 0 + _ ≤ _; exact Nat.le_of_eq rfl) (hb hby at_51) (fun _ _ => ⟨rfl, e0, (by decide : 0 + 6 ≤ _), (by decide : 0 + 626 ≤ _)⟩)
  dsimp only [Pt.U, Pt.locs, Pt.cells, Pt.slots] at X2 l2 y2 z2 st2 hQ2 cs2 hS2 hg2
  subst l2 y2 z2
  obtain ⟨X2, hS, hZ, hown⟩ := rebS hS (by rw [e0]; exact hk) X2 hS2 hg2 hZ hown
  obtain ⟨h2, e2⟩ : ∃ z, T2.heap = z := ⟨_, rfl⟩
  rw [e2] at hQ2 cs2 hS
  have hk : h2.size ≤ h2.size := Nat.le_refl _
  obtain ⟨xn, mn, kn, rfl, Nq2, K2, sxn, Hn⟩ := hQ2
  have N2 := Fr.app N0 Nq2
  have O3 := O0.keep K2 all0
  have kp4 : Keep h0 h2 [] := (Keep.refl h0 []).trans K2 all0
  have ch5 := cs2
  have CH5 := CHr.trans CH0 ch5
  have pf6 : ∀ target, Go p e below T2 m 62 (q_67 i0 i1 i2 i3 i4 nl fl na nb fa fb xn) [(.int (cv fb)), (.int (cv fa)), (.int (Int32.ofNat fl))] target → Go p e below s₁ m 51 (q_63 i0 i1 i2 i3 i4 nl fl na nb fa fb) [(.int (cv nb)), (.int (cv na)), (.int (Int32.ofNat nl))] target := by
    intro target k
    refine st2.trans ?_
    show Go p e below T2 m 54 (q_63 i0 i1 i2 i3 i4 nl fl na nb fa fb) [(.ref xn)] _
    refine XS.astore X2.here hx rfl (hb hby at_54) rfl rfl (l' := (q_67 i0 i1 i2 i3 i4 nl fl na nb fa fb xn)) rfl ?_
    refine XS.iload X2.here hx rfl (hb hby at_56) rfl ?_
    refine XS.iload X2.here hx rfl (hb hby at_58) rfl ?_
    refine XS.iload X2.here hx rfl (hb hby at_60) rfl ?_
    exact k
  obtain ⟨_, _, ⟨T7, L7, k7, n7⟩, -, X7, hS7, hg7, ⟨Lc7, hQ7, l7, y7, z7, cs7⟩, st7⟩ := Jvm.RoadKit.callSS X2 hx (y := Y_6) hown (mvT hZ (tw hw 1 rfl)) (mvT hZ (tw hw 2 rfl)) (mvT hZ (tw hw 3 rfl)) (mvT hZ (tw hw 4 rfl)) (by decide) (backOfSH (W := 0) (rk_mk l Z a0 hw [] G1 Fm fl fa fb h2 n0 O3 ST hf2) hZ (tw hw 4 rfl) (tw hw 3 rfl) (by decide) (by decide) (own_EW hw) ch5.1) (g := (mkF m 62 (q_67 i0 i1 i2 i3 i4 nl fl na nb fa fb xn) [(.int (cv fb)), (.int (cv fa)), (.int (Int32.ofNat fl))])) rfl (by rw [hml]; rfl) (argsL := [(.int (Int32.ofNat fl)), (.int (cv fa)), (.int (cv fb))]) (rest := []) (lenOf pd39 rfl) rfl (by show 2 * 0 + _ ≤ _; exact Nat.le_of_eq rfl) (hb hby at_62) (fun _ _ => ⟨rfl, e2, (by decide : 6 + 6 ≤ _), (by decide : 626 + 626 ≤ _)⟩)
  dsimp only [Pt.U, Pt.locs, Pt.cells, Pt.slots] at X7 l7 y7 z7 st7 hQ7 cs7 hS7 hg7
  subst l7 y7 z7
  obtain ⟨X7, hS, hZ, hown⟩ := rebS hS (by rw [e2]; exact hk) X7 hS7 hg7 hZ hown
  obtain ⟨h7, e7⟩ : ∃ z, T7.heap = z := ⟨_, rfl⟩
  rw [e7] at hQ7 cs7 hS
  have hk : h7.size ≤ h7.size := Nat.le_refl _
  obtain ⟨xf, mf, kf, rfl, Nq7, K7, sxf, Hf⟩ := hQ7
  have N7 := Fr.app N2 Nq7
  have O8 := O3.keep K7 all0
  have kp9 : Keep h0 h7 [] := kp4.trans K7 all0
  have ch10 := cs7
  have CH10 := CHr.trans CH5 ch10
  have pf11 : ∀ target, Go p e below T7 m 67 (q_45 i0 i1 i2 i3 i4 nl fl na nb fa fb xn xf) [] target → Go p e below T2 m 62 (q_67 i0 i1 i2 i3 i4 nl fl na nb fa fb xn) [(.int (cv fb)), (.int (cv fa)), (.int (Int32.ofNat fl))] target := by
    intro target k
    refine st7.trans ?_
    show Go p e below T7 m 65 (q_67 i0 i1 i2 i3 i4 nl fl na nb fa fb xn) [(.ref xf)] _
    refine XS.astore X7.here hx rfl (hb hby at_65) rfl rfl (l' := (q_45 i0 i1 i2 i3 i4 nl fl na nb fa fb xn xf)) rfl ?_
    exact k
  obtain ⟨la12, T12, h12, k1_12, lc12, kc12, X12, e12, E12, hS, hk, hZ, hown, Ea12, Fc12, Fv12, Va12, lt_la12, lt_lc12, cs12, Li12, ne12, st12⟩ := ldcCH X7 hx hZ hown (tw hw 27 rfl) (own_wS hw) e7 hS hk (own_EW hw) (by decide) ch10.1 (vs := ((TA.map cLo).map Value.int)) (z := Int32.ofNat TA.length) (by decide +kernel) (by decide) (by decide) (g := (mkF m 67 (q_45 i0 i1 i2 i3 i4 nl fl na nb fa fb xn xf) [])) rfl (hb hby at_67) (n := 56) (by decide) (by decide) (by decide) (by decide)
  have O13 := O8.ext E12
  have kp14 : Keep h0 h12 [] := kp9.ext E12
  have ch15 := cs12
  have CH15 := CHr.trans CH10 ch15
  obtain ⟨_, T16, Lc16, X16, hQ16, st16⟩ := own_vc X12 hx hZ (y := Y_2) hown (tw hw 28 rfl) (tw hw 29 rfl) (tw hw 31 rfl) (tw hw 30 rfl) (by decide) (rs_len l Z a0 hw [] G1 Fm la12 lc12 kc12 TA h12 n0 O13 ST (Or.inl ⟨Ea12, Fc12, Fv12, ⟨Va12, rfl⟩, by decide⟩) (by decide)) (tw hw 32 rfl) (tw hw 7 rfl) e12 Ea12 (W := 0) (by decide) (by decide) (Ls := (q_45 i0 i1 i2 i3 i4 nl fl na nb fa fb xn xf)) (by rw [hml]; rfl) (argsL := []) (rest := []) (lenOf pd23 rfl) (Nat.le_of_eq rfl) (hb hby at_69) rfl (by decide) (by decide)
  obtain ⟨rfl, Nq16, e16⟩ := hQ16
  have N16 := Fr.app N7 Nq16
  have pf17 : ∀ target, Go p e below T16 m 74 (q_46 i0 i1 i2 i3 i4 nl fl na nb fa fb xn xf) [] target → Go p e below T7 m 67 (q_45 i0 i1 i2 i3 i4 nl fl na nb fa fb xn xf) [] target := by
    intro target k
    refine st12 _ ?_
    refine st16 _ ?_
    show Go p e below T16 m 72 (q_45 i0 i1 i2 i3 i4 nl fl na nb fa fb xn xf) [(.int (Int32.ofNat TA.length))] _
    show Go p e below T16 m 72 (q_45 i0 i1 i2 i3 i4 nl fl na nb fa fb xn xf) [(.int (Int32.ofNat TA.length))] _
    rw [show (Int32.ofNat TA.length) = (14 : Int32) from by decide]
    refine XS.istore X16.here hx rfl (hb hby at_72) rfl (l' := (q_46 i0 i1 i2 i3 i4 nl fl na nb fa fb xn xf)) rfl ?_
    exact k
  obtain ⟨la18, T18, h18, k1_18, lc18, kc18, X18, e18, E18, hS, hk, hZ, hown, Ea18, Fc18, Fv18, Va18, lt_la18, lt_lc18, cs18, Li18, ne18, st18⟩ := ldcCH X16 hx hZ hown (tw hw 39 rfl) (own_wS hw) e16 hS hk (own_EW hw) (by decide) ch15.1 (vs := ((TB.map cLo).map Value.int)) (z := Int32.ofNat TB.length) (by decide +kernel) (by decide) (by decide) (g := (mkF m 74 (q_46 i0 i1 i2 i3 i4 nl fl na nb fa fb xn xf) [])) rfl (hb hby at_74) (n := 152) (by decide) (by decide) (by decide) (by decide)
  have O19 := O13.ext E18
  have kp20 : Keep h0 h18 [] := kp14.ext E18
  have ch21 := cs18
  have CH21 := CHr.trans CH15 ch21
  obtain ⟨_, T22, Lc22, X22, hQ22, st22⟩ := own_vc X18 hx hZ (y := Y_2) hown (tw hw 28 rfl) (tw hw 29 rfl) (tw hw 31 rfl) (tw hw 30 rfl) (by decide) (rs_len l Z a0 hw [] G1 Fm la18 lc18 kc18 TB h18 n0 O19 ST (Or.inl ⟨Ea18, Fc18, Fv18, ⟨Va18, rfl⟩, by decide⟩) (by decide)) (tw hw 32 rfl) (tw hw 7 rfl) e18 Ea18 (W := 0) (by decide) (by decide) (Ls := (q_46 i0 i1 i2 i3 i4 nl fl na nb fa fb xn xf)) (by rw [hml]; rfl) (argsL := []) (rest := []) (lenOf pd23 rfl) (Nat.le_of_eq rfl) (hb hby at_76) rfl (by decide) (by decide)
  obtain ⟨rfl, Nq22, e22⟩ := hQ22
  have N22 := Fr.app N16 Nq22
  have pf23 : ∀ target, Go p e below T22 m 81 (q_47 i0 i1 i2 i3 i4 nl fl na nb fa fb xn xf) [] target → Go p e below T16 m 74 (q_46 i0 i1 i2 i3 i4 nl fl na nb fa fb xn xf) [] target := by
    intro target k
    refine st18 _ ?_
    refine st22 _ ?_
    show Go p e below T22 m 79 (q_46 i0 i1 i2 i3 i4 nl fl na nb fa fb xn xf) [(.int (Int32.ofNat TB.length))] _
    show Go p e below T22 m 79 (q_46 i0 i1 i2 i3 i4 nl fl na nb fa fb xn xf) [(.int (Int32.ofNat TB.length))] _
    rw [show (Int32.ofNat TB.length) = (38 : Int32) from by decide]
    refine XS.istore X22.here hx rfl (hb hby at_79) rfl (l' := (q_47 i0 i1 i2 i3 i4 nl fl na nb fa fb xn xf)) rfl ?_
    exact k
  obtain ⟨la24, T24, h24, k1_24, lc24, kc24, X24, e24, E24, hS, hk, hZ, hown, Ea24, Fc24, Fv24, Va24, lt_la24, lt_lc24, cs24, Li24, ne24, st24⟩ := ldcCH X22 hx hZ hown (tw hw 40 rfl) (own_wS hw) e22 hS hk (own_EW hw) (by decide) ch21.1 (vs := ((TC.map cLo).map Value.int)) (z := Int32.ofNat TC.length) (by decide +kernel) (by decide) (by decide) (g := (mkF m 81 (q_47 i0 i1 i2 i3 i4 nl fl na nb fa fb xn xf) [])) rfl (hb hby at_81) (n := 240) (by decide) (by decide) (by decide) (by decide)
  have O25 := O19.ext E24
  have kp26 : Keep h0 h24 [] := kp20.ext E24
  have ch27 := cs24
  have CH27 := CHr.trans CH21 ch27
  obtain ⟨_, T28, Lc28, X28, hQ28, st28⟩ := own_vc X24 hx hZ (y := Y_2) hown (tw hw 28 rfl) (tw hw 29 rfl) (tw hw 31 rfl) (tw hw 30 rfl) (by decide) (rs_len l Z a0 hw [] G1 Fm la24 lc24 kc24 TC h24 n0 O25 ST (Or.inl ⟨Ea24, Fc24, Fv24, ⟨Va24, rfl⟩, by decide⟩) (by decide)) (tw hw 32 rfl) (tw hw 7 rfl) e24 Ea24 (W := 0) (by decide) (by decide) (Ls := (q_47 i0 i1 i2 i3 i4 nl fl na nb fa fb xn xf)) (by rw [hml]; rfl) (argsL := []) (rest := []) (lenOf pd23 rfl) (Nat.le_of_eq rfl) (hb hby at_83) rfl (by decide) (by decide)
  obtain ⟨rfl, Nq28, e28⟩ := hQ28
  have N28 := Fr.app N22 Nq28
  have pf29 : ∀ target, Go p e below T28 m 92 (q_59 i0 i1 i2 i3 i4 nl fl na nb fa fb xn xf) [(.ref xf), (.ref xn)] target → Go p e below T22 m 81 (q_47 i0 i1 i2 i3 i4 nl fl na nb fa fb xn xf) [] target := by
    intro target k
    refine st24 _ ?_
    refine st28 _ ?_
    show Go p e below T28 m 86 (q_47 i0 i1 i2 i3 i4 nl fl na nb fa fb xn xf) [(.int (Int32.ofNat TC.length))] _
    show Go p e below T28 m 86 (q_47 i0 i1 i2 i3 i4 nl fl na nb fa fb xn xf) [(.int (Int32.ofNat TC.length))] _
    rw [show (Int32.ofNat TC.length) = (60 : Int32) from by decide]
    refine XS.istore X28.here hx rfl (hb hby at_86) rfl (l' := (q_59 i0 i1 i2 i3 i4 nl fl na nb fa fb xn xf)) rfl ?_
    show Go p e below T28 m 88 (q_59 i0 i1 i2 i3 i4 nl fl na nb fa fb xn xf) [] _
    refine XS.aload X28.here hx rfl (hb hby at_88) rfl rfl ?_
    refine XS.aload X28.here hx rfl (hb hby at_90) rfl rfl ?_
    exact k
  obtain ⟨_, _, ⟨T30, L30, k30, n30⟩, -, X30, hS30, hg30, ⟨Lc30, hQ30, l30, y30, z30, cs30⟩, st30⟩ := Jvm.RoadKit.callSS X28 hx (y := Y_44) hown (mvT hZ (tw hw 41 rfl)) (mvT hZ (tw hw 42 rfl)) (mvT hZ (tw hw 43 rfl)) (mvT hZ (tw hw 44 rfl)) (by decide) (backOfSKH (W := 0) (rr_l l Z a0 hw [] G1 Fm u1 u2 xn mn kn (mkL nl na nb) xf mf kf (mkL fl fa fb) h24 n0 O25 ST hl TS ((((Hn.keep K7 nin0 nin0).ext E12).ext E18).ext E24) (((Hf.ext E12).ext E18).ext E24) (own_mkl _ _ _) (own_mkl _ _ _)) hZ (tw hw 44 rfl) (tw hw 43 rfl) (by decide) (by decide) (own_EW hw) ch27.1 (Vm.MethodsKnown.alikeC (hA0.symm.trans hZ.alike) hK.1) (Vm.FramesKnown.alikeC (hA0.symm.trans hZ.alike) hK.2)) (g := (mkF m 92 (q_59 i0 i1 i2 i3 i4 nl fl na nb fa fb xn xf) [(.ref xf), (.ref xn)])) rfl (by rw [hml]; rfl) (argsL := [(.ref xn), (.ref xf)]) (rest := []) (lenOf pd40 rfl) rfl (by show 2 * 0 + _ ≤ _; exact Nat.le_of_eq rfl) (hb hby at_92) (fun _ _ => ⟨rfl, e28, (by decide : 18 + 22 ≤ _), (by decide : 1712 + 8742 ≤ _)⟩)
  dsimp only [Pt.U, Pt.locs, Pt.cells, Pt.slots] at X30 l30 y30 z30 st30 hQ30 cs30 hS30 hg30
  subst l30 y30 z30
  obtain ⟨X30, hS, hZ, hown⟩ := rebS hS (by rw [e28]; exact hk) X30 hS30 hg30 hZ hown
  obtain ⟨h30, e30⟩ : ∃ z, T30.heap = z := ⟨_, rfl⟩
  rw [e30] at hQ30 cs30 hS
  have hk : h30.size ≤ h30.size := Nat.le_refl _
  obtain ⟨ex, ms, mb, mk, rfl, Nq30, K30, szx, XC, HS⟩ := hQ30
  have N30 := Fr.app N28 Nq30
  have O31 := O25.keep K30 all0
  have kp32 : Keep h0 h30 [] := kp26.trans K30 all0
  have ch33 := cs30
  have CH33 := CHr.trans CH27 ch33
  have Ck := own_chk hn2 hf2 na nb fa fb
  obtain ⟨tx, htx⟩ : ∃ t, t = (((([] ++ TA) ++ mkL nl na nb) ++ TB) ++ mkL fl fa fb) ++ TC := ⟨_, rfl⟩
  rw [← htx] at HS Ck
  have E_ex := XC.1
  obtain ⟨ckA, ckB, ckC, ckD, ckE, ckF, ckG, ckH, ckI, ckJ, ckK, ckL, hLen⟩ := id Ck
  have E_ms := HS.exa
  obtain ⟨cq34, kq34, qa34, qb34, qc34⟩ := isOf hZ e30 E_ex
  obtain ⟨_, _, ⟨T34, L34, k34, n34⟩, -, X34, ⟨rfl, e34, l34, y34, z34⟩, st34⟩ := X30.virtualBackUp hx (x := (⟨"com/example/narrow_lease/narrowlease/LeaseLostException", "getCause", "()Ljava/lang/Throwable;"⟩ : MethodName)) (y := (⟨"java/lang/Throwable", "getCause", "()Ljava/lang/Throwable;"⟩ : MethodName)) (owner := "java/lang/Throwable") hown (mvT hZ (tw hw 234 rfl)) (mvT hZ (tw hw 235 rfl)) (mvT hZ (tw hw 236 rfl)) (by decide) (mvT hZ (tw hw 238 rfl)) (mvT hZ (tw hw 237 rfl)) (gcBackPure (rm := R_0) (W := 0) hZ (tw hw 239 rfl) (tw hw 237 rfl) (tw hw 195 rfl) (tw hw 198 rfl) XC.2.1 XC.2.2.1 rfl (by decide) (by decide)) qa34 qc34 (g := (mkF m 106 (q_42 i0 i1 i2 i3 i4 nl fl na nb fa fb xn xf ex) [(.ref ex)])) rfl (by rw [hml]; rfl) (Steps.refl _) (argsL := []) (rest := []) (lenOf pd41 rfl) rfl (by show 2 * 0 + _ ≤ _; exact Nat.le_of_eq rfl) (hb hby at_106) (fun _ _ => ⟨rfl, e30, (by decide : 40 + 0 ≤ _), (by decide : 10454 + 0 ≤ _)⟩)
  dsimp only [Pt.U, Pt.locs, Pt.cells, Pt.slots] at X34 e34 l34 y34 z34 st34
  subst l34 y34 z34
  rw [show gcV ex (.ref ex) = .null from if_pos rfl] at st34
  obtain ⟨cq35, kq35, qa35, qb35, qc35⟩ := isOf hZ e34 E_ex
  obtain ⟨_, _, ⟨T35, L35, k35, n35⟩, -, X35, ⟨Lc35, hQ35, l35, y35, z35⟩, st35⟩ := X34.virtualBackUp hx (x := (⟨"com/example/narrow_lease/narrowlease/LeaseLostException", "getMessage", "()Ljava/lang/String;"⟩ : MethodName)) (y := Y_61) (owner := "java/lang/Throwable") hown (mvT hZ (tw hw 240 rfl)) (mvT hZ (tw hw 241 rfl)) (mvT hZ (tw hw 242 rfl)) (by decide) (mvT hZ (tw hw 244 rfl)) (mvT hZ (tw hw 243 rfl)) (backOf (W := 0) (rg_m l Z a0 hw [] G1 Fm ex ms h30 n0 O31 ST XC) hZ (tw hw 245 rfl) (tw hw 195 rfl) (by decide) (by decide)) qa35 qc35 (g := (mkF m 116 (q_42 i0 i1 i2 i3 i4 nl fl na nb fa fb xn xf ex) [(.ref ex)])) rfl (by rw [hml]; rfl) (Steps.refl _) (argsL := []) (rest := []) (lenOf pd37 rfl) rfl (by show 2 * 0 + _ ≤ _; exact Nat.le_of_eq rfl) (hb hby at_116) (fun _ _ => ⟨rfl, e34, (by decide : 40 + 0 ≤ _), (by decide : 10454 + 0 ≤ _)⟩)
  dsimp only [Pt.U, Pt.locs, Pt.cells, Pt.slots] at X35 l35 y35 z35 st35 hQ35
  subst l35 y35 z35
  obtain ⟨rfl, Nq35, e35⟩ := hQ35
  have N35 := Fr.app N30 Nq35
  obtain ⟨T36, L36, X36, e36, N36, st36⟩ := rw_a hw X35 hx hby hml hZ hown e35 N35 O31 G1 Fm i0 i1 i2 i3 i4 nl fl na nb fa fb xn xf ex ms mb mk tx ST HS hn2 hf2 Ck
  obtain ⟨T37, L37, X37, e37, N37, st37⟩ := rw_b hw X36 hx hby hml hZ hown e36 N36 O31 G1 Fm i0 i1 i2 i3 i4 nl fl na nb fa fb xn xf ex ms mb mk tx ST HS hn2 hf2 Ck
  obtain ⟨T38, L38, X38, e38, N38, st38⟩ := rw_c hw X37 hx hby hml hZ hown e37 N37 O31 G1 Fm i0 i1 i2 i3 i4 nl fl na nb fa fb xn xf ex ms mb mk tx ST HS hn2 hf2 Ck
  obtain ⟨T39, L39, X39, e39, N39, st39⟩ := rw_d hw X38 hx hby hml hZ hown e38 N38 O31 G1 Fm i0 i1 i2 i3 i4 nl fl na nb fa fb xn xf ex ms mb mk tx ST HS hn2 hf2 Ck
  obtain ⟨_, T40, Lc40, X40, hQ40, st40⟩ := own_vc X39 hx hZ (y := Y_0) hown (tw hw 246 rfl) (tw hw 247 rfl) (tw hw 249 rfl) (tw hw 248 rfl) (by decide) (rs_ch l Z a0 hw [] G1 Fm ms mb mk tx (14 + nl + 38 + fl) h30 n0 O31 ST HS (by omega) (by omega)) (tw hw 250 rfl) (tw hw 7 rfl) e39 E_ms (W := 0) (by decide) (by decide) (Ls := (q_16 i0 i1 i2 i3 i4 nl fl na nb fa fb xn xf ex ms)) (by rw [hml]; rfl) (argsL := [(.int (Int32.ofNat (14 + nl + 38 + fl)))]) (rest := []) (lenOf pd38 rfl) (Nat.le_of_eq rfl) (hb hby at_337) rfl (by decide) (by decide)
  obtain ⟨rfl, Nq40, e40⟩ := hQ40
  have N40 := Fr.app N39 Nq40
  have pf41 : ∀ target, Go p e below T40 m 342 (q_16 i0 i1 i2 i3 i4 nl fl na nb fa fb xn xf ex ms) [(.int (58 : Int32)), (.int (cv (tx.getD (14 + nl + 38 + fl) 0)))] target → Go p e below T28 m 92 (q_59 i0 i1 i2 i3 i4 nl fl na nb fa fb xn xf) [(.ref xf), (.ref xn)] target := by
    intro target k
    refine st30.trans ?_
    show Go p e below T30 m 95 (q_59 i0 i1 i2 i3 i4 nl fl na nb fa fb xn xf) [(.ref ex)] _
    refine XS.astore X30.here hx rfl (hb hby at_95) rfl rfl (l' := (q_42 i0 i1 i2 i3 i4 nl fl na nb fa fb xn xf ex)) rfl ?_
    refine XS.aload X30.here hx rfl (hb hby at_97) rfl rfl ?_
    show Go p e below T30 m 99 (q_42 i0 i1 i2 i3 i4 nl fl na nb fa fb xn xf ex) [(.ref ex)] _
    refine XS.ifnonnullYes X30.here hx rfl (pc0 := 99) (pc' := 104) rfl (hb hby at_99) rfl (by decide) (by decide) ?_
    show Go p e below T30 m 104 (q_42 i0 i1 i2 i3 i4 nl fl na nb fa fb xn xf ex) [] _
    refine XS.aload X30.here hx rfl (hb hby at_104) rfl rfl ?_
    refine st34.trans ?_
    show Go p e below T34 m 109 (q_42 i0 i1 i2 i3 i4 nl fl na nb fa fb xn xf ex) [.null] _
    refine XS.ifnullYes X34.here hx rfl (pc0 := 109) (pc' := 114) rfl (hb hby at_109) rfl (by decide) (by decide) ?_
    show Go p e below T34 m 114 (q_42 i0 i1 i2 i3 i4 nl fl na nb fa fb xn xf ex) [] _
    refine XS.aload X34.here hx rfl (hb hby at_114) rfl rfl ?_
    refine st35.trans ?_
    show Go p e below T35 m 119 (q_42 i0 i1 i2 i3 i4 nl fl na nb fa fb xn xf ex) [(.ref ms)] _
    refine XS.astore X35.here hx rfl (hb hby at_119) rfl rfl (l' := (q_35 i0 i1 i2 i3 i4 nl fl na nb fa fb xn xf ex ms)) rfl ?_
    refine XS.aload X35.here hx rfl (hb hby at_121) rfl rfl ?_
    show Go p e below T35 m 123 (q_35 i0 i1 i2 i3 i4 nl fl na nb fa fb xn xf ex ms) [(.ref ms)] _
    refine XS.ifnonnullYes X35.here hx rfl (pc0 := 123) (pc' := 128) rfl (hb hby at_123) rfl (by decide) (by decide) ?_
    show Go p e below T35 m 128 (q_35 i0 i1 i2 i3 i4 nl fl na nb fa fb xn xf ex ms) [] _
    refine XS.iload X35.here hx rfl (hb hby at_128) rfl ?_
    refine XS.iload X35.here hx rfl (hb hby at_130) rfl ?_
    refine XS.iadd X35.here hx rfl (hb hby at_132) rfl ?_
    show Go p e below T35 m 133 (q_35 i0 i1 i2 i3 i4 nl fl na nb fa fb xn xf ex ms) [(.int ((14 : Int32) + (Int32.ofNat nl)))] _
    rw [show ((14 : Int32) + (Int32.ofNat nl)) = (Int32.ofNat (14 + nl)) from own_add 14 nl]
    show Go p e below T35 m 133 (q_35 i0 i1 i2 i3 i4 nl fl na nb fa fb xn xf ex ms) [(.int (Int32.ofNat (14 + nl)))] _
    refine XS.iload X35.here hx rfl (hb hby at_133) rfl ?_
    refine XS.iadd X35.here hx rfl (hb hby at_135) rfl ?_
    show Go p e below T35 m 136 (q_35 i0 i1 i2 i3 i4 nl fl na nb fa fb xn xf ex ms) [(.int ((Int32.ofNat (14 + nl)) + (38 : Int32)))] _
    rw [show ((Int32.ofNat (14 + nl)) + (38 : Int32)) = (Int32.ofNat (14 + nl + 38)) from own_add (14 + nl) 38]
    show Go p e below T35 m 136 (q_35 i0 i1 i2 i3 i4 nl fl na nb fa fb xn xf ex ms) [(.int (Int32.ofNat (14 + nl + 38)))] _
    refine XS.iload X35.here hx rfl (hb hby at_136) rfl ?_
    refine XS.iadd X35.here hx rfl (hb hby at_138) rfl ?_
    show Go p e below T35 m 139 (q_35 i0 i1 i2 i3 i4 nl fl na nb fa fb xn xf ex ms) [(.int ((Int32.ofNat (14 + nl + 38)) + (Int32.ofNat fl)))] _
    rw [show ((Int32.ofNat (14 + nl + 38)) + (Int32.ofNat fl)) = (Int32.ofNat (14 + nl + 38 + fl)) from own_add (14 + nl + 38) fl]
    show Go p e below T35 m 139 (q_35 i0 i1 i2 i3 i4 nl fl na nb fa fb xn xf ex ms) [(.int (Int32.ofNat (14 + nl + 38 + fl)))] _
    refine XS.iload X35.here hx rfl (hb hby at_139) rfl ?_
    refine XS.iadd X35.here hx rfl (hb hby at_141) rfl ?_
    show Go p e below T35 m 142 (q_35 i0 i1 i2 i3 i4 nl fl na nb fa fb xn xf ex ms) [(.int ((Int32.ofNat (14 + nl + 38 + fl)) + (60 : Int32)))] _
    rw [show ((Int32.ofNat (14 + nl + 38 + fl)) + (60 : Int32)) = (Int32.ofNat (14 + nl + 38 + fl + 60)) from own_add (14 + nl + 38 + fl) 60]
    show Go p e below T35 m 142 (q_35 i0 i1 i2 i3 i4 nl fl na nb fa fb xn xf ex ms) [(.int (Int32.ofNat (14 + nl + 38 + fl + 60)))] _
    refine XS.istore X35.here hx rfl (hb hby at_142) rfl (l' := (q_4 i0 i1 i2 i3 i4 nl fl na nb fa fb xn xf ex ms)) rfl ?_
    refine st36 _ ?_
    refine st37 _ ?_
    refine st38 _ ?_
    refine st39 _ ?_
    show Go p e below T39 m 326 (q_8 i0 i1 i2 i3 i4 nl fl na nb fa fb xn xf ex ms) [] _
    refine XS.iload X39.here hx rfl (hb hby at_326) rfl ?_
    show Go p e below T39 m 328 (q_8 i0 i1 i2 i3 i4 nl fl na nb fa fb xn xf ex ms) [(.int (Int32.ofNat (14 + nl + 38)))] _
    refine XS.iload X39.here hx rfl (hb hby at_328) rfl ?_
    refine XS.iadd X39.here hx rfl (hb hby at_330) rfl ?_
    show Go p e below T39 m 331 (q_8 i0 i1 i2 i3 i4 nl fl na nb fa fb xn xf ex ms) [(.int ((Int32.ofNat (14 + nl + 38)) + (Int32.ofNat fl)))] _
    rw [show ((Int32.ofNat (14 + nl + 38)) + (Int32.ofNat fl)) = (Int32.ofNat (14 + nl + 38 + fl)) from own_add (14 + nl + 38) fl]
    show Go p e below T39 m 331 (q_8 i0 i1 i2 i3 i4 nl fl na nb fa fb xn xf ex ms) [(.int (Int32.ofNat (14 + nl + 38 + fl)))] _
    refine XS.istore X39.here hx rfl (hb hby at_331) rfl (l' := (q_16 i0 i1 i2 i3 i4 nl fl na nb fa fb xn xf ex ms)) rfl ?_
    refine XS.aload X39.here hx rfl (hb hby at_333) rfl rfl ?_
    refine XS.iload X39.here hx rfl (hb hby at_335) rfl ?_
    refine st40 _ ?_
    show Go p e below T40 m 340 (q_16 i0 i1 i2 i3 i4 nl fl na nb fa fb xn xf ex ms) [(.int (cv (tx.getD (14 + nl + 38 + fl) 0)))] _
    refine XS.bipush X40.here hx rfl (hb hby at_340) ?_
    exact k
  obtain ⟨_, T42, Lc42, X42, hQ42, st42⟩ := own_vc X40 hx hZ (y := Y_0) hown (tw hw 246 rfl) (tw hw 247 rfl) (tw hw 249 rfl) (tw hw 248 rfl) (by decide) (rs_ch l Z a0 hw [] G1 Fm ms mb mk tx (14 + nl + 38 + fl + 1) h30 n0 O31 ST HS (by omega) (by omega)) (tw hw 250 rfl) (tw hw 7 rfl) e40 E_ms (W := 0) (by decide) (by decide) (Ls := (q_16 i0 i1 i2 i3 i4 nl fl na nb fa fb xn xf ex ms)) (by rw [hml]; rfl) (argsL := [(.int (Int32.ofNat (14 + nl + 38 + fl + 1)))]) (rest := []) (lenOf pd38 rfl) (Nat.le_of_eq rfl) (hb hby at_351) rfl (by decide) (by decide)
  obtain ⟨rfl, Nq42, e42⟩ := hQ42
  have N42 := Fr.app N40 Nq42
  have pf43 : ∀ target, Go p e below T42 m 356 (q_16 i0 i1 i2 i3 i4 nl fl na nb fa fb xn xf ex ms) [(.int (32 : Int32)), (.int (cv (tx.getD (14 + nl + 38 + fl + 1) 0)))] target → Go p e below T40 m 342 (q_16 i0 i1 i2 i3 i4 nl fl na nb fa fb xn xf ex ms) [(.int (58 : Int32)), (.int (cv (tx.getD (14 + nl + 38 + fl) 0)))] target := by
    intro target k
    show Go p e below T40 m 342 (q_16 i0 i1 i2 i3 i4 nl fl na nb fa fb xn xf ex ms) [(.int (58 : Int32)), (.int (cv (tx.getD (14 + nl + 38 + fl) 0)))] _
    refine XS.icmpNo X40.here hx rfl (hb hby at_342) rfl (teq ckJ).2 ?_
    refine XS.aload X40.here hx rfl (hb hby at_345) rfl rfl ?_
    refine XS.iload X40.here hx rfl (hb hby at_347) rfl ?_
    refine XS.iconst X40.here hx rfl (hb hby at_349) ?_
    refine XS.iadd X40.here hx rfl (hb hby at_350) rfl ?_
    show Go p e below T40 m 351 (q_16 i0 i1 i2 i3 i4 nl fl na nb fa fb xn xf ex ms) [(.int ((Int32.ofNat (14 + nl + 38 + fl)) + (1 : Int32))), (.ref ms)] _
    rw [show ((Int32.ofNat (14 + nl + 38 + fl)) + (1 : Int32)) = (Int32.ofNat (14 + nl + 38 + fl + 1)) from own_add (14 + nl + 38 + fl) 1]
    refine st42 _ ?_
    show Go p e below T42 m 354 (q_16 i0 i1 i2 i3 i4 nl fl na nb fa fb xn xf ex ms) [(.int (cv (tx.getD (14 + nl + 38 + fl + 1) 0)))] _
    refine XS.bipush X42.here hx rfl (hb hby at_354) ?_
    exact k
  obtain ⟨_, T44, Lc44, X44, hQ44, st44⟩ := own_vc X42 hx hZ (y := Y_0) hown (tw hw 246 rfl) (tw hw 247 rfl) (tw hw 249 rfl) (tw hw 248 rfl) (by decide) (rs_ch l Z a0 hw [] G1 Fm ms mb mk tx (14 + nl + 38 + fl + 60 - 1) h30 n0 O31 ST HS (by omega) (by omega)) (tw hw 250 rfl) (tw hw 7 rfl) e42 E_ms (W := 0) (by decide) (by decide) (Ls := (q_16 i0 i1 i2 i3 i4 nl fl na nb fa fb xn xf ex ms)) (by rw [hml]; rfl) (argsL := [(.int (Int32.ofNat (14 + nl + 38 + fl + 60 - 1)))]) (rest := []) (lenOf pd38 rfl) (Nat.le_of_eq rfl) (hb hby at_365) rfl (by decide) (by decide)
  obtain ⟨rfl, Nq44, e44⟩ := hQ44
  have N44 := Fr.app N42 Nq44
  have pf45 : ∀ target, Go p e below T44 m 370 (q_16 i0 i1 i2 i3 i4 nl fl na nb fa fb xn xf ex ms) [(.int (101 : Int32)), (.int (cv (tx.getD (14 + nl + 38 + fl + 60 - 1) 0)))] target → Go p e below T42 m 356 (q_16 i0 i1 i2 i3 i4 nl fl na nb fa fb xn xf ex ms) [(.int (32 : Int32)), (.int (cv (tx.getD (14 + nl + 38 + fl + 1) 0)))] target := by
    intro target k
    show Go p e below T42 m 356 (q_16 i0 i1 i2 i3 i4 nl fl na nb fa fb xn xf ex ms) [(.int (32 : Int32)), (.int (cv (tx.getD (14 + nl + 38 + fl + 1) 0)))] _
    refine XS.icmpNo X42.here hx rfl (hb hby at_356) rfl (teq ckK).2 ?_
    refine XS.aload X42.here hx rfl (hb hby at_359) rfl rfl ?_
    refine XS.iload X42.here hx rfl (hb hby at_361) rfl ?_
    refine XS.iconst X42.here hx rfl (hb hby at_363) ?_
    refine XS.isub X42.here hx rfl (hb hby at_364) rfl ?_
    show Go p e below T42 m 365 (q_16 i0 i1 i2 i3 i4 nl fl na nb fa fb xn xf ex ms) [(.int ((Int32.ofNat (14 + nl + 38 + fl + 60)) - (1 : Int32))), (.ref ms)] _
    rw [show ((Int32.ofNat (14 + nl + 38 + fl + 60)) - (1 : Int32)) = (Int32.ofNat (14 + nl + 38 + fl + 60 - 1)) from own_sub (a := 14 + nl + 38 + fl + 60) (b := 1) (by omega)]
    refine st44 _ ?_
    show Go p e below T44 m 368 (q_16 i0 i1 i2 i3 i4 nl fl na nb fa fb xn xf ex ms) [(.int (cv (tx.getD (14 + nl + 38 + fl + 60 - 1) 0)))] _
    refine XS.bipush X44.here hx rfl (hb hby at_368) ?_
    exact k
  obtain ⟨fs, hr, hrun, hended, hEnd⟩ := (X44.mono (by decide : _ ≤ room_1.cells) (by decide : _ ≤ room_1.slots)).leaveW hS (by rw [e44]; exact hk) (v := some (.int (1 : Int32))) (fun h => by rw [Bd.returns] at h; cases h)
  have CE := CHr.trans CH33 (CHv.at X44 hZ (own_EW hw) ch33.1)
  refine ⟨_, _, castTop (ef_rw_l m i0 i1 i2 i3 i4) ?_, hrun, hended, _, _, rfl, ?_, ?_, hEnd⟩
  · refine pf1 _ ?_
    refine pf6 _ ?_
    refine pf11 _ ?_
    refine pf17 _ ?_
    refine pf23 _ ?_
    refine pf29 _ ?_
    refine pf41 _ ?_
    refine pf43 _ ?_
    refine pf45 _ ?_
    show Go p e below T44 m 370 (q_16 i0 i1 i2 i3 i4 nl fl na nb fa fb xn xf ex ms) [(.int (101 : Int32)), (.int (cv (tx.getD (14 + nl + 38 + fl + 60 - 1) 0)))] _
    refine XS.icmpYes X44.here hx rfl (pc0 := 370) (pc' := 375) rfl (hb hby at_370) rfl (teq ckL).1 (by decide) (by decide) ?_
    refine XS.iconst X44.here hx rfl (hb hby at_375) ?_
    show Go p e below T44 m 376 (q_16 i0 i1 i2 i3 i4 nl fl na nb fa fb xn xf ex ms) [(.int (1 : Int32))] _
    exact retN X44 hx (t := .boolean) Bd.returns (by simp) (hb hby at_376) hr
  · show Ql h0 n0 _ T44.heap _
    rw [e44]
    exact ⟨rfl, N44⟩
  · show CHr Z EL0 s.vm s.heap T44.vm T44.heap
    rw [e44, hh]; exact CE
set_option maxRecDepth 65536 in
set_option maxHeartbeats 40000000 in
theorem comes_1 {Post : Tables → Env → Array Value → State → Outcome → State → Prop} (hpost : ∀ tb e args s v u, (limb_1_1.after args s (.returned v) u = true ∧ limb_1_2.after args s (.returned v) u = true ∧ True) → ReturnedEndW s (.returned v) u (Jvm.fieldLocs frame_1_writes args s ++ Jvm.arrayLocs frame_1_arrays args s ++ Jvm.staticLocs frame_1_statics s) 64 15040 → Post tb e args s (.returned v) u) :
    ArmFor flags0 classFile x code maxLocals ret World_1 tables_1 room_1 Calls_1 rest_1 Pre_1 Post := by
  intro l hfl _ _ p e ha hc hk s m args below hf hA hF happ hP
  obtain ⟨hcalls, hrest, hpre⟩ := hP
  obtain ⟨-, -, -, hnamed, -, -, -, hat⟩ := (Spec.applies_iff hf).mp happ
  obtain ⟨hg, hn⟩ := and_e (Cond.before_iff.mp (show (Jvm.Cond.and given_1 narrow_1).before args s = true from hpre))
  obtain ⟨hcnt, hg⟩ := and_e hg
  obtain ⟨hg0, hg⟩ := and_e hg
  obtain ⟨hg1, hg⟩ := and_e hg
  obtain ⟨hg2, hg⟩ := and_e hg
  obtain ⟨hg3, hg⟩ := and_e hg
  obtain ⟨w0, w1, w2, w3, w4, rfl⟩ : ∃ w0 w1 w2 w3 w4 : Value, args = #[w0, w1, w2, w3, w4] := by
    have hs : args.size = 5 := by simpa [Cond.value, given_1] using hcnt
    obtain ⟨L⟩ := args
    match L, hs with
    | [w0, w1, w2, w3, w4], _ => exact ⟨w0, w1, w2, w3, w4, rfl⟩
  have hw := fun d (hd : d ∈ tables_1) => atoms_spec (ws := Jvm.Cond.code x code maxLocals ret :: tables_1) hat d (List.mem_cons_of_mem _ hd)
  obtain ⟨hsets, -⟩ := atoms_of _ (rest_1_c_eq ▸ (show rest_1_c.before _ s = true from hrest))
  obtain ⟨i0, ei0⟩ := is_v hg0
  obtain rfl : w0 = (.int i0) := Option.some.inj ei0
  obtain ⟨i1, ei1⟩ := is_v hg1
  obtain rfl : w1 = (.int i1) := Option.some.inj ei1
  obtain ⟨i2, ei2⟩ := is_v hg2
  obtain rfl : w2 = (.int i2) := Option.some.inj ei2
  obtain ⟨i3, ei3⟩ := is_v hg3
  obtain rfl : w3 = (.int i3) := Option.some.inj ei3
  obtain ⟨i4, ei4⟩ := is_v hg
  obtain rfl : w4 = (.int i4) := Option.some.inj ei4
  obtain ⟨G1, evG⟩ := is_v (Cond.before_iff.mp (hsets _ (List.mem_of_getElem? (i := 1) rfl)))
  have SG := Sta.start evG (Or.inl (hsets _ (List.mem_of_getElem? (i := 0) rfl)))
  have wcp := (hsets _ (List.mem_of_getElem? (i := 2) rfl))
  have hG : ¬ G1 = 0 := gotF (Cond.eq_ints evG (Term.int_eval _)) (not_v (Cond.before_iff.mp wcp))
  obtain ⟨Fm, evF, hFm⟩ := isR_v (Cond.before_iff.mp (hsets _ (List.mem_of_getElem? (i := 8) rfl)))
  have SF := Sta.start evF (Or.inl (hsets _ (List.mem_of_getElem? (i := 7) rfl)))
  have SA := Sta.start (eqv_i (Term.int_eval _) (Cond.before_iff.mp (hsets _ (List.mem_of_getElem? (i := 32) rfl)))) (Or.inl (hsets _ (List.mem_of_getElem? (i := 31) rfl)))
  have SH := Sta.start (eqv_i (Term.int_eval _) (Cond.before_iff.mp (hsets _ (List.mem_of_getElem? (i := 35) rfl)))) (Or.inl (hsets _ (List.mem_of_getElem? (i := 34) rfl)))
  have SL := Sta.start (eqv_i (Term.int_eval _) (Cond.before_iff.mp (hsets _ (List.mem_of_getElem? (i := 38) rfl)))) (Or.inl (hsets _ (List.mem_of_getElem? (i := 37) rfl)))
  obtain ⟨v1, ev1, hv1⟩ := isR_v (Cond.before_iff.mp (hsets _ (List.mem_of_getElem? (i := 16) rfl)))
  have ST1 := Sta.start ev1 (Or.inl (hsets _ (List.mem_of_getElem? (i := 15) rfl)))
  obtain ⟨v2, ev2, hv2⟩ := isR_v (Cond.before_iff.mp (hsets _ (List.mem_of_getElem? (i := 21) rfl)))
  have ST2 := Sta.start ev2 (Or.inl (hsets _ (List.mem_of_getElem? (i := 20) rfl)))
  have hl : l.stackTraces = true := by
    show (!l.flags.contains noTraceFlag) = true
    rw [hfl]; decide
  have CV : CHv s EL0 s.vm s.heap := CHv.start (own_EW hw) (fun p hp => hcalls.2.2.1 p hp) wcp (tw hw 20 rfl) (tw hw 6 rfl)
  obtain ⟨n, o, h1, h2, h3, _, L, rfl, ⟨rfl, N⟩, -, hq⟩ := rw_l l s _ hw tables_1 G1 Fm ⟨v1, hv1⟩ ⟨v2, hv2⟩ i0 i1 i2 i3 i4 s.heap s.heap.size (Old.start s) ⟨SG, hG, SF, hFm, SA, SH, SL⟩ hl ⟨ST1, ST2⟩ p e ha hc hk s m _ below hf ((Spec.applies_iff_loose hf).mp happ).1 ⟨rfl, State.Warmed39.refl s, rfl, CV⟩ ⟨MethodsKnown_of_tablesKnown hcalls.2.1, FramesKnown_of_framesKnown hcalls.1 hf⟩
  refine ⟨n, _, h1, h2, h3, hpost _ _ _ _ _ _ ⟨Cond.after_iff.mpr rfl, Cond.after_iff.mpr (eq_i res_at (Term.int_eval (1)) rfl), trivial⟩ ⟨hq.1, hq.2.1, hq.2.2.1, (hq.2.2.2.sift fun y hy => Or.inr (N y hy)).mono (by decide) (by decide)⟩⟩
theorem main_1_1 : Claimed_1_1 := comes_1 fun _ _ _ _ _ _ h hF => ⟨h.1, hF⟩
theorem main_1_2 : Claimed_1_2 := comes_1 fun _ _ _ _ _ _ h hF => ⟨h.2.1, hF⟩
end Jvm.Pilot.@@N@@
namespace Jvm.Pilot.@@N@@
open Jvm Jvm.ClassFile Sem Op Lib Jvm.Free Jvm.Stand Jvm.Pilot.@@N@@.Jvm.D
/-! MADE BY PROGRAM (witnessworld.py) out of the Statement's table words and the real class files: 43 classes; the members and pool entries that the words name. The judged class is class 1, her method 2. -/
namespace start1
open Jvm.ClassFile
def u (s : String) : CpInfo := .utf8 (stringToUtf16 s)
/-- a pool by its gaps: so many unusable entries, then the entry; so many at the end -/
def gap : Nat → List CpInfo → List CpInfo
  | 0, r => r
  | n + 1, r => .unusable :: gap n r
def poolList (es : List (Nat × CpInfo)) (last : Nat) : List CpInfo := es.foldr (fun e r => gap e.1 (e.2 :: r)) (gap last [])
def pool (es : List (Nat × CpInfo)) (last : Nat) : Array CpInfo := ⟨poolList es last⟩
def fileOf (pool : Array CpInfo) (this : Nat) (attrs : Array Attribute := #[]) (ms : Array MethodInfo := #[]) (fl : Nat := 33) (sup : Nat := 0) (ifs : Array Nat := #[]) (fds : Array FieldInfo := #[]) : ClassFile where
  minorVersion := 0
  majorVersion := 65
  constantPool := pool
  accessFlags := fl
  thisClass := this
  superClass := sup
  interfaces := ifs
  fields := fds
  methods := ms
  attributes := attrs
def plain (name : String) (sup : Option ClassId) : Class where
  name := name
  kind := .ordinary
  loader := none
  accessFlags := 33
  super := sup
  interfaces := #[]
  cf := none
  fields := #[]
  methods := #[]
  instanceTypes := #[]
  staticTypes := #[]
  resolved := #[]
  callSites := []
  init := .initialized
  statics := none
  mirror := none

def pool0 : Array CpInfo := pool [(5, u "<init>"), (0, u "()V"), (1, .class_ 10), (1, u "java/lang/Object"), (85, u "clone"), (0, u "()Ljava/lang/Object;")] 26

def k0c0 : Code := { maxStack := 0, maxLocals := 1, code := object_method_1_code, exceptionTable := #[], attributes := #[] }
def k0m0 : Method := { name := "<init>", desc := "()V", sig := { parameters := [], returnType := none }, accessFlags := 1, code := some k0c0 }
def k0m1 : Method := { name := "clone", desc := "()Ljava/lang/Object;", sig := { parameters := [], returnType := some (.object "java/lang/Object") }, accessFlags := 260, code := none }
/-- java/lang/Object -/
def k0 : Class := { plain "java/lang/Object" none with
  accessFlags := 33
  interfaces := #[]
  cf := some (fileOf pool0 8 #[] #[{ accessFlags := 1, nameIndex := 5, descriptorIndex := 6, attributes := #[] }, { accessFlags := 260, nameIndex := 96, descriptorIndex := 97, attributes := #[] }] 33 0 #[] #[])
  fields := #[]
  methods := #[k0m0, k0m1]
  instanceTypes := #[]
  staticTypes := #[]
  resolved := Array.replicate 124 none
  statics := none }

def pool1 : Array CpInfo := pool [(2, .class_ 4), (1, u "java/lang/Object"), (0, u "<init>"), (0, u "()V"), (0, .class_ 8), (0, u "java/lang/String"), (0, .methodref 7 10), (0, .nameAndType 5 11), (0, u "([C)V"), (0, .methodref 7 13), (0, .nameAndType 14 15), (0, u "valueOf"), (0, u "(C)Ljava/lang/String;"), (0, .integer 65535), (0, .methodref 18 19), (0, .class_ 20), (0, .nameAndType 21 22), (0, u "com/example/narrow_lease/narrowlease/LeaseLostExceptionRecordLostPinLaw"), (0, u "mk"), (0, u "(ICC)Ljava/lang/String;"), (0, .string 24), (0, u "the record of "), (0, .methodref 7 26), (0, .nameAndType 27 28), (0, u "length"), (0, u "()I"), (0, .string 30), (0, u " in Redis was no longer this holder's "), (0, .string 32), (0, u ": it had expired, or was deleted or replaced by someone else"), (0, .methodref 34 35), (0, .class_ 36), (0, .nameAndType 37 38), (0, u "com/example/narrow_lease/narrowlease/LeaseLostException"), (0, u "recordLost"), (0, u "(Ljava/lang/String;Ljava/lang/String;)Lcom/example/narrow_lease/narrowlease/LeaseLostException;"), (0, .methodref 34 40), (0, .nameAndType 41 42), (0, u "getCause"), (0, u "()Ljava/lang/Throwable;"), (0, .methodref 34 44), (0, .nameAndType 45 46), (0, u "getMessage"), (0, u "()Ljava/lang/String;"), (0, .methodref 7 48), (0, .nameAndType 49 50), (0, u "charAt"), (0, u "(I)C"), (3, u "law"), (0, u "(IIIII)Z")] 2

def k1m0 : Method := { name := "<init>", desc := "()V", sig := { parameters := [], returnType := none }, accessFlags := 1, code := none }
def k1c1 : Code := { maxStack := 6, maxLocals := 3, code := method_2_code, exceptionTable := #[], attributes := #[] }
def k1m1 : Method := { name := "mk", desc := "(ICC)Ljava/lang/String;", sig := { parameters := [.int, .char, .char], returnType := some (.object "java/lang/String") }, accessFlags := 10, code := some k1c1 }
def k1c2 : Code := { maxStack := 3, maxLocals := 22, code := code, exceptionTable := #[], attributes := #[] }
def k1m2 : Method := { name := "law", desc := "(IIIII)Z", sig := { parameters := [.int, .int, .int, .int, .int], returnType := some .boolean }, accessFlags := 9, code := some k1c2 }
/-- com/example/narrow_lease/narrowlease/LeaseLostExceptionRecordLostPinLaw -/
def k1 : Class := { plain "com/example/narrow_lease/narrowlease/LeaseLostExceptionRecordLostPinLaw" (some 0) with
  accessFlags := 49
  interfaces := #[]
  cf := some (fileOf pool1 18 #[] #[{ accessFlags := 1, nameIndex := 5, descriptorIndex := 6, attributes := #[] }, { accessFlags := 10, nameIndex := 21, descriptorIndex := 22, attributes := #[] }, { accessFlags := 9, nameIndex := 54, descriptorIndex := 55, attributes := #[] }] 49 2 #[] #[])
  fields := #[]
  methods := #[k1m0, k1m1, k1m2]
  instanceTypes := #[]
  staticTypes := #[]
  resolved := Array.replicate 58 none
  statics := none }

def pool2 : Array CpInfo := pool [(1, .class_ 2), (0, u "java/io/Serializable"), (0, .class_ 4), (0, u "java/lang/Object")] 2

/-- java/io/Serializable -/
def k2 : Class := { plain "java/io/Serializable" (some 0) with
  accessFlags := 1537
  interfaces := #[]
  cf := some (fileOf pool2 1 #[] #[] 1537 3 #[] #[])
  fields := #[]
  methods := #[]
  instanceTypes := #[]
  staticTypes := #[]
  resolved := Array.replicate 7 none
  statics := none }

def pool3 : Array CpInfo := pool [(1, .class_ 2), (0, u "java/lang/Comparable"), (0, .class_ 4), (0, u "java/lang/Object")] 7

/-- java/lang/Comparable -/
def k3 : Class := { plain "java/lang/Comparable" (some 0) with
  accessFlags := 1537
  interfaces := #[]
  cf := some (fileOf pool3 1 #[] #[] 1537 3 #[] #[])
  fields := #[]
  methods := #[]
  instanceTypes := #[]
  staticTypes := #[]
  resolved := Array.replicate 12 none
  statics := none }

def pool4 : Array CpInfo := pool [(2, .class_ 4), (1, u "java/lang/CharSequence"), (42, .class_ 48), (0, u "java/lang/CharSequence$1CodePointIterator"), (10, .class_ 60), (0, u "java/lang/CharSequence$1CharIterator"), (5, .class_ 67), (0, u "java/lang/Object")] 63

/-- java/lang/CharSequence -/
def k4 : Class := { plain "java/lang/CharSequence" (some 0) with
  accessFlags := 1537
  interfaces := #[]
  cf := some (fileOf pool4 2 #[.nestMembers #[47, 59]] #[] 1537 66 #[] #[])
  fields := #[]
  methods := #[]
  instanceTypes := #[]
  staticTypes := #[]
  resolved := Array.replicate 131 none
  statics := none }

def pool5 : Array CpInfo := pool [(1, .class_ 2), (0, u "java/lang/constant/Constable"), (0, .class_ 4), (0, u "java/lang/Object")] 6

/-- java/lang/constant/Constable -/
def k5 : Class := { plain "java/lang/constant/Constable" (some 0) with
  accessFlags := 1537
  interfaces := #[]
  cf := some (fileOf pool5 1 #[] #[] 1537 3 #[] #[])
  fields := #[]
  methods := #[]
  instanceTypes := #[]
  staticTypes := #[]
  resolved := Array.replicate 11 none
  statics := none }

def pool6 : Array CpInfo := pool [(1, .class_ 2), (0, u "java/lang/constant/ConstantDesc"), (0, .class_ 4), (0, u "java/lang/Object")] 32

/-- java/lang/constant/ConstantDesc -/
def k6 : Class := { plain "java/lang/constant/ConstantDesc" (some 0) with
  accessFlags := 1537
  interfaces := #[]
  cf := some (fileOf pool6 1 #[] #[] 1537 3 #[] #[])
  fields := #[]
  methods := #[]
  instanceTypes := #[]
  staticTypes := #[]
  resolved := Array.replicate 37 none
  statics := none }

def pool7 : Array CpInfo := pool [(1, .methodref 2 3), (0, .class_ 4), (0, .nameAndType 5 6), (0, u "java/lang/Object"), (0, u "<init>"), (0, u "()V"), (0, .string 8), (0, u ""), (0, .fieldref 10 11), (0, .class_ 12), (0, .nameAndType 13 14), (0, u "java/lang/String"), (0, u "value"), (0, u "[B"), (0, .fieldref 10 16), (0, .nameAndType 17 18), (0, u "coder"), (0, u "B"), (2, u "hash"), (0, u "I"), (2, u "hashIsZero"), (0, u "Z"), (0, .methodref 10 28), (0, .nameAndType 5 29), (0, u "([CIILjava/lang/Void;)V"), (6, u "checkBoundsOffCount"), (0, u "(III)I"), (0, .fieldref 10 39), (0, .nameAndType 40 26), (0, u "COMPACT_STRINGS"), (1, .class_ 44), (1, u "java/lang/StringUTF16"), (0, u "compress"), (1, .methodref 42 48), (0, .nameAndType 49 50), (0, u "coderFromArrayLen"), (0, u "([BI)B"), (2, u "toBytes"), (0, .methodref 55 56), (0, .class_ 57), (0, .nameAndType 58 59), (0, u "java/util/Arrays"), (0, u "copyOfRange"), (0, u "([BII)[B"), (46, .methodref 107 108), (0, .class_ 109), (0, .nameAndType 110 111), (0, u "java/lang/StringLatin1"), (0, u "inflate"), (0, u "([BI[BII)V"), (30, u "()Z"), (34, .methodref 42 178), (0, .nameAndType 45 179), (0, u "([CII)[B"), (13, .class_ 195), (1, u "java/lang/System"), (13, .methodref 10 210), (0, .nameAndType 5 211), (0, u "([BB)V"), (0, .methodref 193 213), (0, .nameAndType 214 215), (0, u "arraycopy"), (0, u "(Ljava/lang/Object;ILjava/lang/Object;II)V"), (118, u "()I"), (0, .methodref 10 336), (0, .nameAndType 17 337), (0, u "()B"), (2, u "()[B"), (22, u "([BI)C"), (5, u "(C)Z"), (21, u "(II)V"), (35, u "(I)C"), (61, .methodref 10 490), (0, .nameAndType 5 491), (0, u "(Ljava/lang/AbstractStringBuilder;Ljava/lang/Void;)V"), (0, .methodref 10 493), (0, .nameAndType 494 142), (0, u "isLatin1"), (0, .methodref 107 496), (0, .nameAndType 497 363), (0, u "charAt"), (0, .methodref 42 496), (2, u "checkIndex"), (4, .nameAndType 507 334), (0, u "length"), (24, u "getBytes"), (16, .methodref 550 506), (0, .class_ 551), (0, u "java/lang/AbstractStringBuilder"), (0, .methodref 550 553), (0, .nameAndType 554 340), (0, u "getValue"), (20, .class_ 576), (0, u "java/lang/CharSequence"), (22, u "CASE_INSENSITIVE_ORDER"), (0, u "Ljava/util/Comparator;"), (181, u "valueOf"), (0, u "(C)Ljava/lang/String;"), (37, u "([BIB)V"), (188, u "([C)V"), (4, .methodref 107 1016), (0, .nameAndType 1017 369), (0, u "canEncode"), (0, .methodref 107 1019), (0, .nameAndType 53 1020), (0, u "(C)[B"), (0, .methodref 42 1019), (25, .methodref 550 493), (0, .fieldref 550 1049), (0, .nameAndType 1050 26), (0, u "maybeLatin1"), (2, .fieldref 1054 1055), (0, .class_ 1056), (0, .nameAndType 1057 1058), (0, u "jdk/internal/util/Preconditions"), (0, u "SIOOBE_FORMATTER"), (0, u "Ljava/util/function/BiFunction;"), (0, .methodref 1054 1060), (0, .nameAndType 501 1061), (0, u "(IILjava/util/function/BiFunction;)I"), (2, u "(IIILjava/util/function/BiFunction;)I"), (0, .methodref 1054 1066), (0, .nameAndType 1067 1064), (0, u "checkFromIndexSize"), (33, u "serialPersistentFields"), (0, u "[Ljava/io/ObjectStreamField;"), (0, .class_ 1104), (0, u "java/lang/String$CaseInsensitiveComparator"), (1, .class_ 1107), (0, u "java/io/Serializable"), (0, .class_ 1109), (0, u "java/lang/Comparable"), (0, .class_ 1111), (0, u "java/lang/constant/Constable"), (0, .class_ 1113), (0, u "java/lang/constant/ConstantDesc"), (2, u "serialVersionUID"), (0, u "J"), (3, u "REPL"), (0, u "C"), (2, u "LATIN1"), (1, u "UTF16"), (105, u "(Ljava/lang/StringBuilder;)V")] 217

def k7m0 : Method := { name := "<init>", desc := "()V", sig := { parameters := [], returnType := none }, accessFlags := 1, code := none }
def k7c1 : Code := { maxStack := 5, maxLocals := 2, code := jdk_42_method_3_code, exceptionTable := #[], attributes := #[] }
def k7m1 : Method := { name := "<init>", desc := "([C)V", sig := { parameters := [(.array .char)], returnType := none }, accessFlags := 1, code := some k7c1 }
def k7c2 : Code := { maxStack := 3, maxLocals := 2, code := jdk_42_method_53_code, exceptionTable := #[], attributes := #[] }
def k7m2 : Method := { name := "<init>", desc := "(Ljava/lang/StringBuilder;)V", sig := { parameters := [(.object "java/lang/StringBuilder")], returnType := none }, accessFlags := 1, code := some k7c2 }
def k7c3 : Code := { maxStack := 2, maxLocals := 1, code := jdk_42_method_54_code, exceptionTable := #[], attributes := #[] }
def k7m3 : Method := { name := "length", desc := "()I", sig := { parameters := [], returnType := some .int }, accessFlags := 1, code := some k7c3 }
def k7c4 : Code := { maxStack := 2, maxLocals := 2, code := jdk_42_method_56_code, exceptionTable := #[], attributes := #[] }
def k7m4 : Method := { name := "charAt", desc := "(I)C", sig := { parameters := [.int], returnType := some .char }, accessFlags := 1, code := some k7c4 }
def k7c5 : Code := { maxStack := 4, maxLocals := 1, code := jdk_42_method_139_code, exceptionTable := #[], attributes := #[] }
def k7m5 : Method := { name := "valueOf", desc := "(C)Ljava/lang/String;", sig := { parameters := [.char], returnType := some (.object "java/lang/String") }, accessFlags := 9, code := some k7c5 }
def k7c6 : Code := { maxStack := 5, maxLocals := 4, code := jdk_42_method_147_code, exceptionTable := #[], attributes := #[] }
def k7m6 : Method := { name := "getBytes", desc := "([BIB)V", sig := { parameters := [(.array .byte), .int, .byte], returnType := none }, accessFlags := 0, code := some k7c6 }
def k7c7 : Code := { maxStack := 4, maxLocals := 6, code := jdk_42_method_149_code, exceptionTable := #[], attributes := #[] }
def k7m7 : Method := { name := "<init>", desc := "([CIILjava/lang/Void;)V", sig := { parameters := [(.array .char), .int, .int, (.object "java/lang/Void")], returnType := none }, accessFlags := 2, code := some k7c7 }
def k7c8 : Code := { maxStack := 5, maxLocals := 5, code := jdk_42_method_150_code, exceptionTable := #[], attributes := #[] }
def k7m8 : Method := { name := "<init>", desc := "(Ljava/lang/AbstractStringBuilder;Ljava/lang/Void;)V", sig := { parameters := [(.object "java/lang/AbstractStringBuilder"), (.object "java/lang/Void")], returnType := none }, accessFlags := 0, code := some k7c8 }
def k7c9 : Code := { maxStack := 2, maxLocals := 3, code := jdk_42_method_151_code, exceptionTable := #[], attributes := #[] }
def k7m9 : Method := { name := "<init>", desc := "([BB)V", sig := { parameters := [(.array .byte), .byte], returnType := none }, accessFlags := 0, code := some k7c9 }
def k7c10 : Code := { maxStack := 1, maxLocals := 1, code := jdk_42_method_152_code, exceptionTable := #[], attributes := #[] }
def k7m10 : Method := { name := "coder", desc := "()B", sig := { parameters := [], returnType := some .byte }, accessFlags := 0, code := some k7c10 }
def k7c11 : Code := { maxStack := 1, maxLocals := 1, code := jdk_42_method_154_code, exceptionTable := #[], attributes := #[] }
def k7m11 : Method := { name := "isLatin1", desc := "()Z", sig := { parameters := [], returnType := some .boolean }, accessFlags := 0, code := some k7c11 }
def k7c12 : Code := { maxStack := 3, maxLocals := 2, code := jdk_42_method_155_code, exceptionTable := #[], attributes := #[] }
def k7m12 : Method := { name := "checkIndex", desc := "(II)V", sig := { parameters := [.int, .int], returnType := none }, accessFlags := 8, code := some k7c12 }
def k7c13 : Code := { maxStack := 4, maxLocals := 3, code := jdk_42_method_157_code, exceptionTable := #[], attributes := #[] }
def k7m13 : Method := { name := "checkBoundsOffCount", desc := "(III)I", sig := { parameters := [.int, .int, .int], returnType := some .int }, accessFlags := 8, code := some k7c13 }
/-- java/lang/String -/
def k7 : Class := { plain "java/lang/String" (some 0) with
  accessFlags := 49
  interfaces := #[2, 3, 4, 5, 6]
  cf := some (fileOf pool7 10 #[.nestMembers #[1103]] #[{ accessFlags := 1, nameIndex := 5, descriptorIndex := 6, attributes := #[] }, { accessFlags := 1, nameIndex := 5, descriptorIndex := 1010, attributes := #[] }, { accessFlags := 1, nameIndex := 5, descriptorIndex := 1233, attributes := #[] }, { accessFlags := 1, nameIndex := 507, descriptorIndex := 334, attributes := #[] }, { accessFlags := 1, nameIndex := 497, descriptorIndex := 427, attributes := #[] }, { accessFlags := 9, nameIndex := 782, descriptorIndex := 783, attributes := #[] }, { accessFlags := 0, nameIndex := 532, descriptorIndex := 821, attributes := #[] }, { accessFlags := 2, nameIndex := 5, descriptorIndex := 29, attributes := #[] }, { accessFlags := 0, nameIndex := 5, descriptorIndex := 491, attributes := #[] }, { accessFlags := 0, nameIndex := 5, descriptorIndex := 211, attributes := #[] }, { accessFlags := 0, nameIndex := 17, descriptorIndex := 337, attributes := #[] }, { accessFlags := 0, nameIndex := 494, descriptorIndex := 142, attributes := #[] }, { accessFlags := 8, nameIndex := 501, descriptorIndex := 391, attributes := #[] }, { accessFlags := 8, nameIndex := 36, descriptorIndex := 37, attributes := #[] }] 49 2 #[1106, 1108, 575, 1110, 1112] #[{ accessFlags := 18, nameIndex := 13, descriptorIndex := 14, attributes := #[] }, { accessFlags := 18, nameIndex := 17, descriptorIndex := 18, attributes := #[] }, { accessFlags := 2, nameIndex := 21, descriptorIndex := 22, attributes := #[] }, { accessFlags := 2, nameIndex := 25, descriptorIndex := 26, attributes := #[] }, { accessFlags := 26, nameIndex := 1116, descriptorIndex := 1117, attributes := #[] }, { accessFlags := 24, nameIndex := 40, descriptorIndex := 26, attributes := #[] }, { accessFlags := 26, nameIndex := 1101, descriptorIndex := 1102, attributes := #[] }, { accessFlags := 26, nameIndex := 1121, descriptorIndex := 1122, attributes := #[] }, { accessFlags := 25, nameIndex := 599, descriptorIndex := 600, attributes := #[] }, { accessFlags := 24, nameIndex := 1125, descriptorIndex := 18, attributes := #[] }, { accessFlags := 24, nameIndex := 1127, descriptorIndex := 18, attributes := #[] }])
  fields := #[{ name := "value", type := (.array .byte), accessFlags := 18, slot := 0, constantValue := 0 }, { name := "coder", type := .byte, accessFlags := 18, slot := 1, constantValue := 0 }, { name := "hash", type := .int, accessFlags := 2, slot := 2, constantValue := 0 }, { name := "hashIsZero", type := .boolean, accessFlags := 2, slot := 3, constantValue := 0 }, { name := "serialVersionUID", type := .long, accessFlags := 26, slot := 0, constantValue := 0 }, { name := "COMPACT_STRINGS", type := .boolean, accessFlags := 24, slot := 1, constantValue := 0 }, { name := "serialPersistentFields", type := (.array (.object "java/io/ObjectStreamField")), accessFlags := 26, slot := 2, constantValue := 0 }, { name := "REPL", type := .char, accessFlags := 26, slot := 3, constantValue := 0 }, { name := "CASE_INSENSITIVE_ORDER", type := (.object "java/util/Comparator"), accessFlags := 25, slot := 4, constantValue := 0 }, { name := "LATIN1", type := .byte, accessFlags := 24, slot := 5, constantValue := 0 }, { name := "UTF16", type := .byte, accessFlags := 24, slot := 6, constantValue := 0 }]
  methods := #[k7m0, k7m1, k7m2, k7m3, k7m4, k7m5, k7m6, k7m7, k7m8, k7m9, k7m10, k7m11, k7m12, k7m13]
  instanceTypes := #[(.array .byte), .byte, .int, .boolean]
  staticTypes := #[.long, .boolean, (.array (.object "java/io/ObjectStreamField")), .char, (.object "java/util/Comparator"), .byte, .byte]
  resolved := Array.replicate 1451 none
  statics := some 0 }

def pool8 : Array CpInfo := pool [(1, .methodref 2 3), (0, .class_ 4), (0, .nameAndType 5 6), (0, u "java/lang/Object"), (0, u "<init>"), (0, u "()V"), (0, .fieldref 8 9), (0, .class_ 10), (0, .nameAndType 11 12), (0, u "java/lang/Throwable"), (0, u "cause"), (0, u "Ljava/lang/Throwable;"), (0, .fieldref 8 14), (0, .nameAndType 15 16), (0, u "UNASSIGNED_STACK"), (0, u "[Ljava/lang/StackTraceElement;"), (0, .fieldref 8 18), (0, .nameAndType 19 16), (0, u "stackTrace"), (0, .fieldref 8 21), (0, .nameAndType 22 23), (0, u "SUPPRESSED_SENTINEL"), (0, u "Ljava/util/List;"), (0, .fieldref 8 25), (0, .nameAndType 26 23), (0, u "suppressedExceptions"), (0, .methodref 8 28), (0, .nameAndType 29 30), (0, u "fillInStackTrace"), (0, u "()Ljava/lang/Throwable;"), (0, .fieldref 8 32), (0, .nameAndType 33 34), (0, u "detailMessage"), (0, u "Ljava/lang/String;"), (3, u "()Ljava/lang/String;"), (2, u "getMessage"), (51, .class_ 94), (0, u "java/lang/Throwable$WrappedPrintStream"), (6, .class_ 103), (1, u "java/lang/Throwable$PrintStreamOrWriter"), (54, u "getCause"), (6, u "$assertionsDisabled"), (0, u "Z"), (26, .class_ 194), (0, u "java/lang/Throwable$WrappedPrintWriter"), (3, .fieldref 8 199), (0, .nameAndType 200 201), (0, u "backtrace"), (0, u "Ljava/lang/Object;"), (0, .methodref 8 203), (0, .nameAndType 29 204), (0, u "(I)Ljava/lang/Throwable;"), (6, u "depth"), (0, u "I"), (10, u "(Ljava/lang/String;)V"), (45, .class_ 271), (1, u "java/lang/Throwable$SentinelHolder"), (32, u "EMPTY_THROWABLE_ARRAY"), (0, u "[Ljava/lang/Throwable;"), (12, .class_ 319), (0, u "java/io/Serializable"), (0, u "serialVersionUID"), (0, u "J"), (5, u "NULL_CAUSE_MESSAGE"), (0, u "SELF_SUPPRESSION_MESSAGE"), (0, u "CAUSE_CAPTION"), (0, u "SUPPRESSED_CAPTION")] 73

def k8c0 : Code := { maxStack := 2, maxLocals := 1, code := jdk_78_method_1_code, exceptionTable := #[], attributes := #[] }
def k8m0 : Method := { name := "<init>", desc := "()V", sig := { parameters := [], returnType := none }, accessFlags := 1, code := some k8c0 }
def k8c1 : Code := { maxStack := 2, maxLocals := 2, code := jdk_78_method_2_code, exceptionTable := #[], attributes := #[] }
def k8m1 : Method := { name := "<init>", desc := "(Ljava/lang/String;)V", sig := { parameters := [(.object "java/lang/String")], returnType := none }, accessFlags := 1, code := some k8c1 }
def k8c2 : Code := { maxStack := 1, maxLocals := 1, code := jdk_78_method_6_code, exceptionTable := #[], attributes := #[] }
def k8m2 : Method := { name := "getMessage", desc := "()Ljava/lang/String;", sig := { parameters := [], returnType := some (.object "java/lang/String") }, accessFlags := 1, code := some k8c2 }
def k8c3 : Code := { maxStack := 2, maxLocals := 1, code := ⟨#[0x2a, 0xb4, 0x00, 0x07, 0x2a, 0xa6, 0x00, 0x07, 0x01, 0xa7, 0x00, 0x07, 0x2a, 0xb4, 0x00, 0x07, 0xb0]⟩, exceptionTable := #[], attributes := #[] }
def k8m3 : Method := { name := "getCause", desc := "()Ljava/lang/Throwable;", sig := { parameters := [], returnType := some (.object "java/lang/Throwable") }, accessFlags := 33, code := some k8c3 }
def k8c4 : Code := { maxStack := 2, maxLocals := 1, code := ⟨#[0x2a, 0xb4, 0x00, 0x11, 0xc7, 0x00, 0x0a, 0x2a, 0xb4, 0x00, 0xc6, 0xc6, 0x00, 0x10, 0x2a, 0x03, 0xb6, 0x00, 0xca, 0x57, 0x2a, 0xb2, 0x00, 0x0d, 0xb5, 0x00, 0x11, 0x2a, 0xb0]⟩, exceptionTable := #[], attributes := #[] }
def k8m4 : Method := { name := "fillInStackTrace", desc := "()Ljava/lang/Throwable;", sig := { parameters := [], returnType := some (.object "java/lang/Throwable") }, accessFlags := 33, code := some k8c4 }
def k8m5 : Method := { name := "fillInStackTrace", desc := "(I)Ljava/lang/Throwable;", sig := { parameters := [.int], returnType := some (.object "java/lang/Throwable") }, accessFlags := 258, code := none }
/-- java/lang/Throwable -/
def k8 : Class := { plain "java/lang/Throwable" (some 0) with
  accessFlags := 33
  interfaces := #[2]
  cf := some (fileOf pool8 8 #[.nestMembers #[193, 93, 101, 269]] #[{ accessFlags := 1, nameIndex := 5, descriptorIndex := 6, attributes := #[] }, { accessFlags := 1, nameIndex := 5, descriptorIndex := 223, attributes := #[] }, { accessFlags := 1, nameIndex := 41, descriptorIndex := 38, attributes := #[] }, { accessFlags := 33, nameIndex := 158, descriptorIndex := 30, attributes := #[] }, { accessFlags := 33, nameIndex := 29, descriptorIndex := 30, attributes := #[] }, { accessFlags := 258, nameIndex := 29, descriptorIndex := 204, attributes := #[] }] 33 2 #[318] #[{ accessFlags := 26, nameIndex := 320, descriptorIndex := 321, attributes := #[] }, { accessFlags := 130, nameIndex := 200, descriptorIndex := 201, attributes := #[] }, { accessFlags := 2, nameIndex := 33, descriptorIndex := 34, attributes := #[] }, { accessFlags := 26, nameIndex := 15, descriptorIndex := 16, attributes := #[] }, { accessFlags := 2, nameIndex := 11, descriptorIndex := 12, attributes := #[] }, { accessFlags := 2, nameIndex := 19, descriptorIndex := 16, attributes := #[] }, { accessFlags := 130, nameIndex := 211, descriptorIndex := 212, attributes := #[] }, { accessFlags := 26, nameIndex := 22, descriptorIndex := 23, attributes := #[] }, { accessFlags := 2, nameIndex := 26, descriptorIndex := 23, attributes := #[] }, { accessFlags := 26, nameIndex := 327, descriptorIndex := 34, attributes := #[] }, { accessFlags := 26, nameIndex := 328, descriptorIndex := 34, attributes := #[] }, { accessFlags := 26, nameIndex := 329, descriptorIndex := 34, attributes := #[] }, { accessFlags := 26, nameIndex := 330, descriptorIndex := 34, attributes := #[] }, { accessFlags := 26, nameIndex := 304, descriptorIndex := 305, attributes := #[] }, { accessFlags := 4120, nameIndex := 165, descriptorIndex := 166, attributes := #[] }])
  fields := #[{ name := "serialVersionUID", type := .long, accessFlags := 26, slot := 0, constantValue := 0 }, { name := "backtrace", type := (.object "java/lang/Object"), accessFlags := 130, slot := 0, constantValue := 0 }, { name := "detailMessage", type := (.object "java/lang/String"), accessFlags := 2, slot := 1, constantValue := 0 }, { name := "UNASSIGNED_STACK", type := (.array (.object "java/lang/StackTraceElement")), accessFlags := 26, slot := 1, constantValue := 0 }, { name := "cause", type := (.object "java/lang/Throwable"), accessFlags := 2, slot := 2, constantValue := 0 }, { name := "stackTrace", type := (.array (.object "java/lang/StackTraceElement")), accessFlags := 2, slot := 3, constantValue := 0 }, { name := "depth", type := .int, accessFlags := 130, slot := 4, constantValue := 0 }, { name := "SUPPRESSED_SENTINEL", type := (.object "java/util/List"), accessFlags := 26, slot := 2, constantValue := 0 }, { name := "suppressedExceptions", type := (.object "java/util/List"), accessFlags := 2, slot := 5, constantValue := 0 }, { name := "NULL_CAUSE_MESSAGE", type := (.object "java/lang/String"), accessFlags := 26, slot := 3, constantValue := 0 }, { name := "SELF_SUPPRESSION_MESSAGE", type := (.object "java/lang/String"), accessFlags := 26, slot := 4, constantValue := 0 }, { name := "CAUSE_CAPTION", type := (.object "java/lang/String"), accessFlags := 26, slot := 5, constantValue := 0 }, { name := "SUPPRESSED_CAPTION", type := (.object "java/lang/String"), accessFlags := 26, slot := 6, constantValue := 0 }, { name := "EMPTY_THROWABLE_ARRAY", type := (.array (.object "java/lang/Throwable")), accessFlags := 26, slot := 7, constantValue := 0 }, { name := "$assertionsDisabled", type := .boolean, accessFlags := 4120, slot := 8, constantValue := 0 }]
  methods := #[k8m0, k8m1, k8m2, k8m3, k8m4, k8m5]
  instanceTypes := #[(.object "java/lang/Object"), (.object "java/lang/String"), (.object "java/lang/Throwable"), (.array (.object "java/lang/StackTraceElement")), .int, (.object "java/util/List")]
  staticTypes := #[.long, (.array (.object "java/lang/StackTraceElement")), (.object "java/util/List"), (.object "java/lang/String"), (.object "java/lang/String"), (.object "java/lang/String"), (.object "java/lang/String"), (.array (.object "java/lang/Throwable")), .boolean]
  resolved := Array.replicate 404 none
  statics := some 1 }

def pool9 : Array CpInfo := pool [(2, .class_ 4), (1, u "java/lang/Throwable"), (0, u "<init>"), (0, u "()V"), (0, .methodref 2 8), (0, .nameAndType 5 9), (0, u "(Ljava/lang/String;)V"), (9, .class_ 20), (0, u "java/lang/Exception"), (0, u "serialVersionUID"), (0, u "J")] 17

def k9m0 : Method := { name := "<init>", desc := "()V", sig := { parameters := [], returnType := none }, accessFlags := 1, code := none }
def k9c1 : Code := { maxStack := 2, maxLocals := 2, code := jdk_59_method_2_code, exceptionTable := #[], attributes := #[] }
def k9m1 : Method := { name := "<init>", desc := "(Ljava/lang/String;)V", sig := { parameters := [(.object "java/lang/String")], returnType := none }, accessFlags := 1, code := some k9c1 }
/-- java/lang/Exception -/
def k9 : Class := { plain "java/lang/Exception" (some 8) with
  accessFlags := 33
  interfaces := #[]
  cf := some (fileOf pool9 19 #[] #[{ accessFlags := 1, nameIndex := 5, descriptorIndex := 6, attributes := #[] }, { accessFlags := 1, nameIndex := 5, descriptorIndex := 9, attributes := #[] }] 33 2 #[] #[{ accessFlags := 24, nameIndex := 21, descriptorIndex := 22, attributes := #[] }])
  fields := #[{ name := "serialVersionUID", type := .long, accessFlags := 24, slot := 0, constantValue := 0 }]
  methods := #[k9m0, k9m1]
  instanceTypes := #[(.object "java/lang/Object"), (.object "java/lang/String"), (.object "java/lang/Throwable"), (.array (.object "java/lang/StackTraceElement")), .int, (.object "java/util/List")]
  staticTypes := #[.long]
  resolved := Array.replicate 40 none
  statics := none }

def pool10 : Array CpInfo := pool [(2, .class_ 4), (1, u "java/lang/Exception"), (0, u "<init>"), (0, u "()V"), (0, .methodref 2 8), (0, .nameAndType 5 9), (0, u "(Ljava/lang/String;)V"), (9, .class_ 20), (0, u "java/lang/RuntimeException"), (0, u "serialVersionUID"), (0, u "J")] 17

def k10m0 : Method := { name := "<init>", desc := "()V", sig := { parameters := [], returnType := none }, accessFlags := 1, code := none }
def k10c1 : Code := { maxStack := 2, maxLocals := 2, code := jdk_58_method_2_code, exceptionTable := #[], attributes := #[] }
def k10m1 : Method := { name := "<init>", desc := "(Ljava/lang/String;)V", sig := { parameters := [(.object "java/lang/String")], returnType := none }, accessFlags := 1, code := some k10c1 }
/-- java/lang/RuntimeException -/
def k10 : Class := { plain "java/lang/RuntimeException" (some 9) with
  accessFlags := 33
  interfaces := #[]
  cf := some (fileOf pool10 19 #[] #[{ accessFlags := 1, nameIndex := 5, descriptorIndex := 6, attributes := #[] }, { accessFlags := 1, nameIndex := 5, descriptorIndex := 9, attributes := #[] }] 33 2 #[] #[{ accessFlags := 24, nameIndex := 21, descriptorIndex := 22, attributes := #[] }])
  fields := #[{ name := "serialVersionUID", type := .long, accessFlags := 24, slot := 0, constantValue := 0 }]
  methods := #[k10m0, k10m1]
  instanceTypes := #[(.object "java/lang/Object"), (.object "java/lang/String"), (.object "java/lang/Throwable"), (.array (.object "java/lang/StackTraceElement")), .int, (.object "java/util/List")]
  staticTypes := #[.long]
  resolved := Array.replicate 40 none
  statics := none }

def pool11 : Array CpInfo := pool [(2, .class_ 4), (1, u "java/lang/RuntimeException"), (0, u "<init>"), (0, u "()V"), (0, .methodref 2 8), (0, .nameAndType 5 9), (0, u "(Ljava/lang/String;)V"), (0, .class_ 11), (0, u "java/lang/IllegalMonitorStateException"), (0, u "serialVersionUID"), (0, u "J")] 12

def k11m0 : Method := { name := "<init>", desc := "()V", sig := { parameters := [], returnType := none }, accessFlags := 1, code := none }
def k11c1 : Code := { maxStack := 2, maxLocals := 2, code := jdk_2065_method_2_code, exceptionTable := #[], attributes := #[] }
def k11m1 : Method := { name := "<init>", desc := "(Ljava/lang/String;)V", sig := { parameters := [(.object "java/lang/String")], returnType := none }, accessFlags := 1, code := some k11c1 }
/-- java/lang/IllegalMonitorStateException -/
def k11 : Class := { plain "java/lang/IllegalMonitorStateException" (some 10) with
  accessFlags := 33
  interfaces := #[]
  cf := some (fileOf pool11 10 #[] #[{ accessFlags := 1, nameIndex := 5, descriptorIndex := 6, attributes := #[] }, { accessFlags := 1, nameIndex := 5, descriptorIndex := 9, attributes := #[] }] 33 2 #[] #[{ accessFlags := 26, nameIndex := 12, descriptorIndex := 13, attributes := #[] }])
  fields := #[{ name := "serialVersionUID", type := .long, accessFlags := 26, slot := 0, constantValue := 0 }]
  methods := #[k11m0, k11m1]
  instanceTypes := #[(.object "java/lang/Object"), (.object "java/lang/String"), (.object "java/lang/Throwable"), (.array (.object "java/lang/StackTraceElement")), .int, (.object "java/util/List")]
  staticTypes := #[.long]
  resolved := Array.replicate 26 none
  statics := none }

def pool12 : Array CpInfo := pool [(1, .methodref 2 3), (0, .class_ 4), (0, .nameAndType 5 6), (0, u "java/lang/IllegalMonitorStateException"), (0, u "<init>"), (0, u "(Ljava/lang/String;)V"), (1, .class_ 10), (1, u "com/example/narrow_lease/narrowlease/LeaseLostException"), (2, .class_ 14), (0, u "java/lang/StringBuilder"), (0, .methodref 13 16), (0, .nameAndType 5 17), (0, u "()V"), (0, .string 19), (0, u "the record of "), (0, .methodref 13 21), (0, .nameAndType 22 23), (0, u "append"), (0, u "(Ljava/lang/String;)Ljava/lang/StringBuilder;"), (0, .string 25), (0, u " in Redis was no longer this holder's "), (0, .string 27), (0, u ": it had expired, or was deleted or replaced by someone else"), (0, .methodref 13 29), (0, .nameAndType 30 31), (0, u "toString"), (0, u "()Ljava/lang/String;"), (0, .methodref 8 3), (0, u "serialVersionUID"), (0, u "J"), (6, u "recordLost"), (0, u "(Ljava/lang/String;Ljava/lang/String;)Lcom/example/narrow_lease/narrowlease/LeaseLostException;")] 2

def k12c0 : Code := { maxStack := 2, maxLocals := 2, code := prog_9_method_1_code, exceptionTable := #[], attributes := #[] }
def k12m0 : Method := { name := "<init>", desc := "(Ljava/lang/String;)V", sig := { parameters := [(.object "java/lang/String")], returnType := none }, accessFlags := 1, code := some k12c0 }
def k12c1 : Code := { maxStack := 4, maxLocals := 2, code := prog_9_method_3_code, exceptionTable := #[], attributes := #[] }
def k12m1 : Method := { name := "recordLost", desc := "(Ljava/lang/String;Ljava/lang/String;)Lcom/example/narrow_lease/narrowlease/LeaseLostException;", sig := { parameters := [(.object "java/lang/String"), (.object "java/lang/String")], returnType := some (.object "com/example/narrow_lease/narrowlease/LeaseLostException") }, accessFlags := 8, code := some k12c1 }
/-- com/example/narrow_lease/narrowlease/LeaseLostException -/
def k12 : Class := { plain "com/example/narrow_lease/narrowlease/LeaseLostException" (some 11) with
  accessFlags := 49
  interfaces := #[]
  cf := some (fileOf pool12 8 #[] #[{ accessFlags := 1, nameIndex := 5, descriptorIndex := 6, attributes := #[] }, { accessFlags := 8, nameIndex := 41, descriptorIndex := 42, attributes := #[] }] 49 2 #[] #[{ accessFlags := 26, nameIndex := 33, descriptorIndex := 34, attributes := #[] }])
  fields := #[{ name := "serialVersionUID", type := .long, accessFlags := 26, slot := 0, constantValue := 0 }]
  methods := #[k12m0, k12m1]
  instanceTypes := #[(.object "java/lang/Object"), (.object "java/lang/String"), (.object "java/lang/Throwable"), (.array (.object "java/lang/StackTraceElement")), .int, (.object "java/util/List")]
  staticTypes := #[.long]
  resolved := Array.replicate 45 none
  statics := none }

def pool13 : Array CpInfo := pool [(1, .class_ 2), (0, u "java/lang/Appendable"), (0, .class_ 4), (0, u "java/lang/Object")] 9

/-- java/lang/Appendable -/
def k13 : Class := { plain "java/lang/Appendable" (some 0) with
  accessFlags := 1537
  interfaces := #[]
  cf := some (fileOf pool13 1 #[] #[] 1537 3 #[] #[])
  fields := #[]
  methods := #[]
  instanceTypes := #[]
  staticTypes := #[]
  resolved := Array.replicate 14 none
  statics := none }

def pool14 : Array CpInfo := pool [(1, .class_ 2), (0, u "java/lang/String"), (0, .methodref 4 5), (0, .class_ 6), (0, .nameAndType 7 8), (0, u "java/lang/Object"), (0, u "<init>"), (0, u "()V"), (1, .class_ 12), (1, u "java/lang/AbstractStringBuilder"), (0, u "EMPTYVALUE"), (0, u "[B"), (0, .fieldref 10 16), (0, .nameAndType 17 14), (0, u "value"), (0, .fieldref 1 19), (0, .nameAndType 20 21), (0, u "COMPACT_STRINGS"), (0, u "Z"), (0, .fieldref 10 23), (0, .nameAndType 24 25), (0, u "coder"), (0, u "B"), (0, .methodref 27 28), (0, .class_ 29), (0, .nameAndType 30 31), (0, u "java/lang/StringUTF16"), (0, u "newBytesFor"), (0, u "(I)[B"), (0, .methodref 1 33), (0, .nameAndType 34 35), (0, u "length"), (0, u "()I"), (3, .integer 2147483647), (0, .methodref 1 41), (0, .nameAndType 24 42), (0, u "()B"), (2, u "append"), (0, u "(Ljava/lang/String;)Ljava/lang/AbstractStringBuilder;"), (1, .class_ 49), (0, u "java/lang/CharSequence"), (19, u "(Ljava/lang/String;)V"), (5, u "maybeLatin1"), (3, .fieldref 10 80), (0, .nameAndType 81 82), (0, u "count"), (0, u "I"), (0, .methodref 10 84), (0, .nameAndType 85 86), (0, u "isLatin1"), (0, u "()Z"), (1, .class_ 90), (1, u "java/lang/StringLatin1"), (9, .methodref 10 101), (0, .nameAndType 102 103), (0, u "ensureCapacityInternal"), (0, u "(I)V"), (0, .methodref 10 105), (0, .nameAndType 106 107), (0, u "newCapacity"), (0, u "(I)I"), (0, .methodref 109 110), (0, .class_ 111), (0, .nameAndType 112 113), (0, u "java/util/Arrays"), (0, u "copyOf"), (0, u "([BI)[B"), (0, .methodref 115 116), (0, .class_ 117), (0, .nameAndType 118 119), (0, u "jdk/internal/util/ArraysSupport"), (0, u "newLength"), (0, u "(III)I"), (5, .methodref 88 126), (0, .nameAndType 127 128), (0, u "inflate"), (0, u "([BI[BII)V"), (66, .methodref 10 196), (0, .nameAndType 127 8), (11, .methodref 10 209), (0, .nameAndType 210 211), (0, u "putStringAt"), (0, u "(ILjava/lang/String;)V"), (5, u "inflateIfNeededFor"), (2, .nameAndType 221 222), (0, u "getBytes"), (0, u "([BIB)V"), (174, .methodref 10 398), (0, .nameAndType 217 69), (0, .methodref 1 220), (3, u "()[B"), (40, .class_ 445), (0, u "java/lang/Appendable"), (106, u "getValue")] 56

def k14m0 : Method := { name := "<init>", desc := "()V", sig := { parameters := [], returnType := none }, accessFlags := 0, code := none }
def k14c1 : Code := { maxStack := 2, maxLocals := 2, code := jdk_68_method_2_code, exceptionTable := #[], attributes := #[] }
def k14m1 : Method := { name := "<init>", desc := "(I)V", sig := { parameters := [.int], returnType := none }, accessFlags := 0, code := some k14c1 }
def k14c2 : Code := { maxStack := 1, maxLocals := 1, code := jdk_68_method_6_code, exceptionTable := #[], attributes := #[] }
def k14m2 : Method := { name := "length", desc := "()I", sig := { parameters := [], returnType := some .int }, accessFlags := 1, code := some k14c2 }
def k14c3 : Code := { maxStack := 4, maxLocals := 3, code := jdk_68_method_9_code, exceptionTable := #[], attributes := #[] }
def k14m3 : Method := { name := "ensureCapacityInternal", desc := "(I)V", sig := { parameters := [.int], returnType := none }, accessFlags := 2, code := some k14c3 }
def k14c4 : Code := { maxStack := 5, maxLocals := 6, code := jdk_68_method_10_code, exceptionTable := #[], attributes := #[] }
def k14m4 : Method := { name := "newCapacity", desc := "(I)I", sig := { parameters := [.int], returnType := some .int }, accessFlags := 2, code := some k14c4 }
def k14c5 : Code := { maxStack := 5, maxLocals := 2, code := jdk_68_method_11_code, exceptionTable := #[], attributes := #[] }
def k14m5 : Method := { name := "inflate", desc := "()V", sig := { parameters := [], returnType := none }, accessFlags := 2, code := some k14c5 }
def k14c6 : Code := { maxStack := 3, maxLocals := 3, code := jdk_68_method_22_code, exceptionTable := #[], attributes := #[] }
def k14m6 : Method := { name := "append", desc := "(Ljava/lang/String;)Ljava/lang/AbstractStringBuilder;", sig := { parameters := [(.object "java/lang/String")], returnType := some (.object "java/lang/AbstractStringBuilder") }, accessFlags := 1, code := some k14c6 }
def k14c7 : Code := { maxStack := 1, maxLocals := 1, code := jdk_68_method_64_code, exceptionTable := #[], attributes := #[] }
def k14m7 : Method := { name := "getValue", desc := "()[B", sig := { parameters := [], returnType := some (.array .byte) }, accessFlags := 16, code := some k14c7 }
def k14c8 : Code := { maxStack := 1, maxLocals := 1, code := jdk_68_method_68_code, exceptionTable := #[], attributes := #[] }
def k14m8 : Method := { name := "isLatin1", desc := "()Z", sig := { parameters := [], returnType := some .boolean }, accessFlags := 16, code := some k14c8 }
def k14c9 : Code := { maxStack := 2, maxLocals := 2, code := jdk_68_method_71_code, exceptionTable := #[], attributes := #[] }
def k14m9 : Method := { name := "inflateIfNeededFor", desc := "(Ljava/lang/String;)V", sig := { parameters := [(.object "java/lang/String")], returnType := none }, accessFlags := 2, code := some k14c9 }
def k14c10 : Code := { maxStack := 4, maxLocals := 3, code := jdk_68_method_73_code, exceptionTable := #[], attributes := #[] }
def k14m10 : Method := { name := "putStringAt", desc := "(ILjava/lang/String;)V", sig := { parameters := [.int, (.object "java/lang/String")], returnType := none }, accessFlags := 2, code := some k14c10 }
/-- java/lang/AbstractStringBuilder -/
def k14 : Class := { plain "java/lang/AbstractStringBuilder" (some 0) with
  accessFlags := 1056
  interfaces := #[13, 4]
  cf := some (fileOf pool14 10 #[] #[{ accessFlags := 0, nameIndex := 7, descriptorIndex := 8, attributes := #[] }, { accessFlags := 0, nameIndex := 7, descriptorIndex := 103, attributes := #[] }, { accessFlags := 1, nameIndex := 34, descriptorIndex := 35, attributes := #[] }, { accessFlags := 2, nameIndex := 102, descriptorIndex := 103, attributes := #[] }, { accessFlags := 2, nameIndex := 106, descriptorIndex := 107, attributes := #[] }, { accessFlags := 2, nameIndex := 127, descriptorIndex := 8, attributes := #[] }, { accessFlags := 1, nameIndex := 45, descriptorIndex := 46, attributes := #[] }, { accessFlags := 16, nameIndex := 552, descriptorIndex := 403, attributes := #[] }, { accessFlags := 16, nameIndex := 85, descriptorIndex := 86, attributes := #[] }, { accessFlags := 2, nameIndex := 217, descriptorIndex := 69, attributes := #[] }, { accessFlags := 2, nameIndex := 210, descriptorIndex := 211, attributes := #[] }] 1056 4 #[444, 48] #[{ accessFlags := 0, nameIndex := 17, descriptorIndex := 14, attributes := #[] }, { accessFlags := 0, nameIndex := 24, descriptorIndex := 25, attributes := #[] }, { accessFlags := 0, nameIndex := 75, descriptorIndex := 21, attributes := #[] }, { accessFlags := 0, nameIndex := 81, descriptorIndex := 82, attributes := #[] }, { accessFlags := 26, nameIndex := 13, descriptorIndex := 14, attributes := #[] }])
  fields := #[{ name := "value", type := (.array .byte), accessFlags := 0, slot := 0, constantValue := 0 }, { name := "coder", type := .byte, accessFlags := 0, slot := 1, constantValue := 0 }, { name := "maybeLatin1", type := .boolean, accessFlags := 0, slot := 2, constantValue := 0 }, { name := "count", type := .int, accessFlags := 0, slot := 3, constantValue := 0 }, { name := "EMPTYVALUE", type := (.array .byte), accessFlags := 26, slot := 0, constantValue := 0 }]
  methods := #[k14m0, k14m1, k14m2, k14m3, k14m4, k14m5, k14m6, k14m7, k14m8, k14m9, k14m10]
  instanceTypes := #[(.array .byte), .byte, .boolean, .int]
  staticTypes := #[(.array .byte)]
  resolved := Array.replicate 609 none
  statics := none }

def pool15 : Array CpInfo := pool [(1, .methodref 2 3), (0, .class_ 4), (0, .nameAndType 5 6), (0, u "java/lang/AbstractStringBuilder"), (0, u "<init>"), (0, u "(I)V"), (11, .class_ 20), (1, u "java/lang/String"), (3, .class_ 26), (1, u "java/lang/StringBuilder"), (0, u "append"), (0, u "(Ljava/lang/String;)Ljava/lang/StringBuilder;"), (0, .methodref 2 30), (0, .nameAndType 27 31), (0, u "(Ljava/lang/String;)Ljava/lang/AbstractStringBuilder;"), (105, .methodref 18 138), (0, .nameAndType 5 139), (0, u "(Ljava/lang/StringBuilder;)V"), (5, u "()V"), (10, u "()I"), (186, .methodref 2 344), (0, .nameAndType 345 156), (0, u "length"), (3, .class_ 350), (0, u "java/lang/Appendable"), (0, .class_ 352), (0, u "java/io/Serializable"), (0, .class_ 354), (0, u "java/lang/Comparable"), (0, .class_ 356), (0, u "java/lang/CharSequence"), (0, u "serialVersionUID"), (0, u "J"), (40, u "toString"), (0, u "()Ljava/lang/String;")] 21

def k15c0 : Code := { maxStack := 2, maxLocals := 1, code := jdk_67_method_1_code, exceptionTable := #[], attributes := #[] }
def k15m0 : Method := { name := "<init>", desc := "()V", sig := { parameters := [], returnType := none }, accessFlags := 1, code := some k15c0 }
def k15c1 : Code := { maxStack := 2, maxLocals := 2, code := jdk_67_method_7_code, exceptionTable := #[], attributes := #[] }
def k15m1 : Method := { name := "append", desc := "(Ljava/lang/String;)Ljava/lang/StringBuilder;", sig := { parameters := [(.object "java/lang/String")], returnType := some (.object "java/lang/StringBuilder") }, accessFlags := 1, code := some k15c1 }
def k15c2 : Code := { maxStack := 3, maxLocals := 1, code := jdk_67_method_42_code, exceptionTable := #[], attributes := #[] }
def k15m2 : Method := { name := "toString", desc := "()Ljava/lang/String;", sig := { parameters := [], returnType := some (.object "java/lang/String") }, accessFlags := 1, code := some k15c2 }
def k15c3 : Code := { maxStack := 1, maxLocals := 1, code := jdk_67_method_93_code, exceptionTable := #[], attributes := #[] }
def k15m3 : Method := { name := "length", desc := "()I", sig := { parameters := [], returnType := some .int }, accessFlags := 4161, code := some k15c3 }
/-- java/lang/StringBuilder -/
def k15 : Class := { plain "java/lang/StringBuilder" (some 14) with
  accessFlags := 49
  interfaces := #[13, 2, 3, 4]
  cf := some (fileOf pool15 24 #[] #[{ accessFlags := 1, nameIndex := 5, descriptorIndex := 145, attributes := #[] }, { accessFlags := 1, nameIndex := 27, descriptorIndex := 28, attributes := #[] }, { accessFlags := 1, nameIndex := 399, descriptorIndex := 400, attributes := #[] }, { accessFlags := 4161, nameIndex := 345, descriptorIndex := 156, attributes := #[] }] 49 2 #[349, 351, 353, 355] #[{ accessFlags := 24, nameIndex := 357, descriptorIndex := 358, attributes := #[] }])
  fields := #[{ name := "serialVersionUID", type := .long, accessFlags := 24, slot := 0, constantValue := 0 }]
  methods := #[k15m0, k15m1, k15m2, k15m3]
  instanceTypes := #[(.array .byte), .byte, .boolean, .int]
  staticTypes := #[.long]
  resolved := Array.replicate 422 none
  statics := none }

def pool16 : Array CpInfo := pool [(2, .class_ 4), (1, u "java/lang/Object"), (0, u "<init>"), (0, u "()V"), (1, .class_ 10), (1, u "java/lang/System"), (0, u "allowSecurityManager"), (0, u "I"), (16, u "cons"), (0, u "Ljava/io/Console;"), (77, .class_ 110), (1, u "java/lang/System$CallersHolder"), (43, u "initialErrStream"), (0, u "Ljava/io/PrintStream;"), (19, u "security"), (0, u "Ljava/lang/SecurityManager;"), (31, .class_ 209), (0, u "java/lang/System$1"), (7, u "props"), (0, u "Ljava/util/Properties;"), (2, u "lineSeparator"), (0, u "Ljava/lang/String;"), (96, .class_ 321), (1, u "java/lang/System$LoggerFinder"), (5, .class_ 328), (0, u "java/lang/System$Logger"), (67, u "err"), (2, u "out"), (91, u "notSupportedJnuEncoding"), (15, u "in"), (17, u "initialIn"), (0, u "Ljava/io/InputStream;"), (35, u "bootLayer"), (0, u "Ljava/lang/ModuleLayer;"), (99, .class_ 664), (0, u "java/lang/System$2"), (9, u "NEVER"), (2, u "MAYBE"), (49, u "arraycopy"), (0, u "(Ljava/lang/Object;ILjava/lang/Object;II)V"), (72, .class_ 802), (0, u "java/lang/System$Logger$Level")] 31

def k16m0 : Method := { name := "<init>", desc := "()V", sig := { parameters := [], returnType := none }, accessFlags := 2, code := none }
def k16m1 : Method := { name := "arraycopy", desc := "(Ljava/lang/Object;ILjava/lang/Object;II)V", sig := { parameters := [(.object "java/lang/Object"), .int, (.object "java/lang/Object"), .int, .int], returnType := none }, accessFlags := 265, code := none }
/-- java/lang/System -/
def k16 : Class := { plain "java/lang/System" (some 0) with
  accessFlags := 49
  interfaces := #[]
  cf := some (fileOf pool16 8 #[.nestMembers #[319, 327, 801, 108, 663, 208]] #[{ accessFlags := 2, nameIndex := 5, descriptorIndex := 6, attributes := #[] }, { accessFlags := 265, nameIndex := 727, descriptorIndex := 728, attributes := #[] }] 49 2 #[] #[{ accessFlags := 25, nameIndex := 507, descriptorIndex := 526, attributes := #[] }, { accessFlags := 25, nameIndex := 399, descriptorIndex := 155, attributes := #[] }, { accessFlags := 25, nameIndex := 396, descriptorIndex := 155, attributes := #[] }, { accessFlags := 10, nameIndex := 525, descriptorIndex := 526, attributes := #[] }, { accessFlags := 26, nameIndex := 674, descriptorIndex := 12, attributes := #[] }, { accessFlags := 26, nameIndex := 677, descriptorIndex := 12, attributes := #[] }, { accessFlags := 10, nameIndex := 11, descriptorIndex := 12, attributes := #[] }, { accessFlags := 74, nameIndex := 175, descriptorIndex := 176, attributes := #[] }, { accessFlags := 10, nameIndex := 491, descriptorIndex := 222, attributes := #[] }, { accessFlags := 74, nameIndex := 29, descriptorIndex := 30, attributes := #[] }, { accessFlags := 74, nameIndex := 154, descriptorIndex := 155, attributes := #[] }, { accessFlags := 10, nameIndex := 217, descriptorIndex := 218, attributes := #[] }, { accessFlags := 10, nameIndex := 221, descriptorIndex := 222, attributes := #[] }, { accessFlags := 8, nameIndex := 562, descriptorIndex := 563, attributes := #[] }])
  fields := #[{ name := "in", type := (.object "java/io/InputStream"), accessFlags := 25, slot := 0, constantValue := 0 }, { name := "out", type := (.object "java/io/PrintStream"), accessFlags := 25, slot := 1, constantValue := 0 }, { name := "err", type := (.object "java/io/PrintStream"), accessFlags := 25, slot := 2, constantValue := 0 }, { name := "initialIn", type := (.object "java/io/InputStream"), accessFlags := 10, slot := 3, constantValue := 0 }, { name := "NEVER", type := .int, accessFlags := 26, slot := 4, constantValue := 0 }, { name := "MAYBE", type := .int, accessFlags := 26, slot := 5, constantValue := 0 }, { name := "allowSecurityManager", type := .int, accessFlags := 10, slot := 6, constantValue := 0 }, { name := "security", type := (.object "java/lang/SecurityManager"), accessFlags := 74, slot := 7, constantValue := 0 }, { name := "notSupportedJnuEncoding", type := (.object "java/lang/String"), accessFlags := 10, slot := 8, constantValue := 0 }, { name := "cons", type := (.object "java/io/Console"), accessFlags := 74, slot := 9, constantValue := 0 }, { name := "initialErrStream", type := (.object "java/io/PrintStream"), accessFlags := 74, slot := 10, constantValue := 0 }, { name := "props", type := (.object "java/util/Properties"), accessFlags := 10, slot := 11, constantValue := 0 }, { name := "lineSeparator", type := (.object "java/lang/String"), accessFlags := 10, slot := 12, constantValue := 0 }, { name := "bootLayer", type := (.object "java/lang/ModuleLayer"), accessFlags := 8, slot := 13, constantValue := 0 }]
  methods := #[k16m0, k16m1]
  instanceTypes := #[]
  staticTypes := #[(.object "java/io/InputStream"), (.object "java/io/PrintStream"), (.object "java/io/PrintStream"), (.object "java/io/InputStream"), .int, .int, .int, (.object "java/lang/SecurityManager"), (.object "java/lang/String"), (.object "java/io/Console"), (.object "java/io/PrintStream"), (.object "java/util/Properties"), (.object "java/lang/String"), (.object "java/lang/ModuleLayer")]
  resolved := Array.replicate 834 none
  statics := none }

def pool17 : Array CpInfo := pool [(9, u "<init>"), (6, .class_ 18), (1, u "java/lang/Object"), (0, u "()V"), (1, .class_ 23), (1, u "jdk/internal/util/ArraysSupport"), (0, u "LOG2_ARRAY_LONG_INDEX_SCALE"), (0, u "I"), (2, u "U"), (0, u "Ljdk/internal/misc/Unsafe;"), (8, u "BIG_ENDIAN"), (0, u "Z"), (8, u "LOG2_BYTE_BIT_SIZE"), (4, u "LOG2_ARRAY_INT_INDEX_SCALE"), (54, u "JLA"), (0, u "Ljdk/internal/access/JavaLangAccess;"), (11, u "LOG2_ARRAY_BOOLEAN_INDEX_SCALE"), (9, u "LOG2_ARRAY_BYTE_INDEX_SCALE"), (5, u "LOG2_ARRAY_CHAR_INDEX_SCALE"), (5, u "LOG2_ARRAY_SHORT_INDEX_SCALE"), (18, u "LOG2_ARRAY_FLOAT_INDEX_SCALE"), (24, u "LOG2_ARRAY_DOUBLE_INDEX_SCALE"), (6, .methodref 195 196), (0, .class_ 197), (0, .nameAndType 198 199), (0, u "java/lang/Math"), (0, u "max"), (0, u "(II)I"), (0, .integer 2147483639), (76, u "T_BOOLEAN"), (2, u "T_CHAR"), (1, u "T_FLOAT"), (1, u "T_DOUBLE"), (1, u "T_BYTE"), (1, u "T_SHORT"), (1, u "T_INT"), (1, u "T_LONG"), (1, u "SOFT_MAX_ARRAY_LENGTH"), (56, u "newLength"), (0, u "(III)I")] 25

def k17m0 : Method := { name := "<init>", desc := "()V", sig := { parameters := [], returnType := none }, accessFlags := 2, code := none }
def k17c1 : Code := { maxStack := 3, maxLocals := 4, code := jdk_48_method_27_code, exceptionTable := #[], attributes := #[] }
def k17m1 : Method := { name := "newLength", desc := "(III)I", sig := { parameters := [.int, .int, .int], returnType := some .int }, accessFlags := 9, code := some k17c1 }
/-- jdk/internal/util/ArraysSupport -/
def k17 : Class := { plain "jdk/internal/util/ArraysSupport" (some 0) with
  accessFlags := 33
  interfaces := #[]
  cf := some (fileOf pool17 21 #[] #[{ accessFlags := 2, nameIndex := 9, descriptorIndex := 19, attributes := #[] }, { accessFlags := 9, nameIndex := 351, descriptorIndex := 352, attributes := #[] }] 33 16 #[] #[{ accessFlags := 24, nameIndex := 28, descriptorIndex := 29, attributes := #[] }, { accessFlags := 26, nameIndex := 38, descriptorIndex := 39, attributes := #[] }, { accessFlags := 25, nameIndex := 121, descriptorIndex := 25, attributes := #[] }, { accessFlags := 25, nameIndex := 131, descriptorIndex := 25, attributes := #[] }, { accessFlags := 25, nameIndex := 137, descriptorIndex := 25, attributes := #[] }, { accessFlags := 25, nameIndex := 143, descriptorIndex := 25, attributes := #[] }, { accessFlags := 25, nameIndex := 53, descriptorIndex := 25, attributes := #[] }, { accessFlags := 25, nameIndex := 24, descriptorIndex := 25, attributes := #[] }, { accessFlags := 25, nameIndex := 162, descriptorIndex := 25, attributes := #[] }, { accessFlags := 25, nameIndex := 187, descriptorIndex := 25, attributes := #[] }, { accessFlags := 26, nameIndex := 48, descriptorIndex := 25, attributes := #[] }, { accessFlags := 25, nameIndex := 277, descriptorIndex := 25, attributes := #[] }, { accessFlags := 25, nameIndex := 280, descriptorIndex := 25, attributes := #[] }, { accessFlags := 25, nameIndex := 282, descriptorIndex := 25, attributes := #[] }, { accessFlags := 25, nameIndex := 284, descriptorIndex := 25, attributes := #[] }, { accessFlags := 25, nameIndex := 286, descriptorIndex := 25, attributes := #[] }, { accessFlags := 25, nameIndex := 288, descriptorIndex := 25, attributes := #[] }, { accessFlags := 25, nameIndex := 290, descriptorIndex := 25, attributes := #[] }, { accessFlags := 25, nameIndex := 292, descriptorIndex := 25, attributes := #[] }, { accessFlags := 26, nameIndex := 108, descriptorIndex := 109, attributes := #[] }, { accessFlags := 25, nameIndex := 294, descriptorIndex := 25, attributes := #[] }])
  fields := #[{ name := "U", type := (.object "jdk/internal/misc/Unsafe"), accessFlags := 24, slot := 0, constantValue := 0 }, { name := "BIG_ENDIAN", type := .boolean, accessFlags := 26, slot := 1, constantValue := 0 }, { name := "LOG2_ARRAY_BOOLEAN_INDEX_SCALE", type := .int, accessFlags := 25, slot := 2, constantValue := 0 }, { name := "LOG2_ARRAY_BYTE_INDEX_SCALE", type := .int, accessFlags := 25, slot := 3, constantValue := 0 }, { name := "LOG2_ARRAY_CHAR_INDEX_SCALE", type := .int, accessFlags := 25, slot := 4, constantValue := 0 }, { name := "LOG2_ARRAY_SHORT_INDEX_SCALE", type := .int, accessFlags := 25, slot := 5, constantValue := 0 }, { name := "LOG2_ARRAY_INT_INDEX_SCALE", type := .int, accessFlags := 25, slot := 6, constantValue := 0 }, { name := "LOG2_ARRAY_LONG_INDEX_SCALE", type := .int, accessFlags := 25, slot := 7, constantValue := 0 }, { name := "LOG2_ARRAY_FLOAT_INDEX_SCALE", type := .int, accessFlags := 25, slot := 8, constantValue := 0 }, { name := "LOG2_ARRAY_DOUBLE_INDEX_SCALE", type := .int, accessFlags := 25, slot := 9, constantValue := 0 }, { name := "LOG2_BYTE_BIT_SIZE", type := .int, accessFlags := 26, slot := 10, constantValue := 0 }, { name := "T_BOOLEAN", type := .int, accessFlags := 25, slot := 11, constantValue := 0 }, { name := "T_CHAR", type := .int, accessFlags := 25, slot := 12, constantValue := 0 }, { name := "T_FLOAT", type := .int, accessFlags := 25, slot := 13, constantValue := 0 }, { name := "T_DOUBLE", type := .int, accessFlags := 25, slot := 14, constantValue := 0 }, { name := "T_BYTE", type := .int, accessFlags := 25, slot := 15, constantValue := 0 }, { name := "T_SHORT", type := .int, accessFlags := 25, slot := 16, constantValue := 0 }, { name := "T_INT", type := .int, accessFlags := 25, slot := 17, constantValue := 0 }, { name := "T_LONG", type := .int, accessFlags := 25, slot := 18, constantValue := 0 }, { name := "JLA", type := (.object "jdk/internal/access/JavaLangAccess"), accessFlags := 26, slot := 19, constantValue := 0 }, { name := "SOFT_MAX_ARRAY_LENGTH", type := .int, accessFlags := 25, slot := 20, constantValue := 0 }]
  methods := #[k17m0, k17m1]
  instanceTypes := #[]
  staticTypes := #[(.object "jdk/internal/misc/Unsafe"), .boolean, .int, .int, .int, .int, .int, .int, .int, .int, .int, .int, .int, .int, .int, .int, .int, .int, .int, (.object "jdk/internal/access/JavaLangAccess"), .int]
  resolved := Array.replicate 378 none
  statics := none }

def pool18 : Array CpInfo := pool [(1, .class_ 2), (0, u "java/lang/Math"), (1, .class_ 6), (1, u "java/lang/Object"), (0, u "<init>"), (0, u "()V"), (89, .class_ 100), (1, u "java/lang/Math$RandomNumberGeneratorHolder"), (71, u "negativeZeroFloatBits"), (0, u "J"), (2, u "negativeZeroDoubleBits"), (21, u "max"), (2, u "min"), (43, u "$assertionsDisabled"), (0, u "Z"), (88, u "(II)I"), (2, u "twoToTheDoubleScaleDown"), (0, u "D"), (4, u "twoToTheDoubleScaleUp"), (9, u "E"), (3, u "PI"), (2, u "TAU"), (2, u "DEGREES_TO_RADIANS"), (0, u "RADIANS_TO_DEGREES")] 94

def k18m0 : Method := { name := "<init>", desc := "()V", sig := { parameters := [], returnType := none }, accessFlags := 2, code := none }
def k18c1 : Code := { maxStack := 2, maxLocals := 2, code := jdk_29_method_65_code, exceptionTable := #[], attributes := #[] }
def k18m1 : Method := { name := "max", desc := "(II)I", sig := { parameters := [.int, .int], returnType := some .int }, accessFlags := 9, code := some k18c1 }
def k18c2 : Code := { maxStack := 2, maxLocals := 2, code := jdk_29_method_69_code, exceptionTable := #[], attributes := #[] }
def k18m2 : Method := { name := "min", desc := "(II)I", sig := { parameters := [.int, .int], returnType := some .int }, accessFlags := 9, code := some k18c2 }
/-- java/lang/Math -/
def k18 : Class := { plain "java/lang/Math" (some 0) with
  accessFlags := 49
  interfaces := #[]
  cf := some (fileOf pool18 1 #[.nestMembers #[98]] #[{ accessFlags := 2, nameIndex := 7, descriptorIndex := 8, attributes := #[] }, { accessFlags := 9, nameIndex := 198, descriptorIndex := 335, attributes := #[] }, { accessFlags := 9, nameIndex := 201, descriptorIndex := 335, attributes := #[] }] 49 4 #[] #[{ accessFlags := 25, nameIndex := 354, descriptorIndex := 339, attributes := #[] }, { accessFlags := 25, nameIndex := 358, descriptorIndex := 339, attributes := #[] }, { accessFlags := 25, nameIndex := 361, descriptorIndex := 339, attributes := #[] }, { accessFlags := 26, nameIndex := 364, descriptorIndex := 339, attributes := #[] }, { accessFlags := 26, nameIndex := 365, descriptorIndex := 339, attributes := #[] }, { accessFlags := 26, nameIndex := 172, descriptorIndex := 173, attributes := #[] }, { accessFlags := 26, nameIndex := 176, descriptorIndex := 173, attributes := #[] }, { accessFlags := 8, nameIndex := 344, descriptorIndex := 339, attributes := #[] }, { accessFlags := 8, nameIndex := 338, descriptorIndex := 339, attributes := #[] }, { accessFlags := 4120, nameIndex := 245, descriptorIndex := 246, attributes := #[] }])
  fields := #[{ name := "E", type := .double, accessFlags := 25, slot := 0, constantValue := 0 }, { name := "PI", type := .double, accessFlags := 25, slot := 1, constantValue := 0 }, { name := "TAU", type := .double, accessFlags := 25, slot := 2, constantValue := 0 }, { name := "DEGREES_TO_RADIANS", type := .double, accessFlags := 26, slot := 3, constantValue := 0 }, { name := "RADIANS_TO_DEGREES", type := .double, accessFlags := 26, slot := 4, constantValue := 0 }, { name := "negativeZeroFloatBits", type := .long, accessFlags := 26, slot := 5, constantValue := 0 }, { name := "negativeZeroDoubleBits", type := .long, accessFlags := 26, slot := 6, constantValue := 0 }, { name := "twoToTheDoubleScaleUp", type := .double, accessFlags := 8, slot := 7, constantValue := 0 }, { name := "twoToTheDoubleScaleDown", type := .double, accessFlags := 8, slot := 8, constantValue := 0 }, { name := "$assertionsDisabled", type := .boolean, accessFlags := 4120, slot := 9, constantValue := 0 }]
  methods := #[k18m0, k18m1, k18m2]
  instanceTypes := #[]
  staticTypes := #[.double, .double, .double, .double, .double, .long, .long, .double, .double, .boolean]
  resolved := Array.replicate 460 none
  statics := none }

def pool19 : Array CpInfo := pool [(2, .class_ 4), (1, u "java/lang/Object"), (0, u "<init>"), (0, u "()V"), (7, .class_ 16), (1, u "java/util/Arrays"), (57, .class_ 76), (1, u "java/util/Arrays$NaturalOrder"), (32, u "()Ljava/lang/Object;"), (3, .class_ 115), (1, u "java/util/Arrays$LegacyMergeSort"), (1, u "Z"), (10, .nameAndType 129 109), (0, u "clone"), (9, u "copyOfRange"), (10, .methodref 151 152), (0, .class_ 153), (0, .nameAndType 154 155), (0, u "java/lang/System"), (0, u "arraycopy"), (0, u "(Ljava/lang/Object;ILjava/lang/Object;II)V"), (146, u "copyOf"), (1, .methodref 305 306), (0, .class_ 307), (0, .nameAndType 308 309), (0, u "java/lang/Math"), (0, u "min"), (0, u "(II)I"), (0, .methodref 311 128), (0, .class_ 312), (0, u "[B"), (26, .methodref 14 340), (0, .nameAndType 341 342), (0, u "copyOfRangeByte"), (0, u "([BII)[B"), (0, .methodref 14 344), (0, .nameAndType 345 346), (0, u "checkLength"), (0, u "(II)V"), (28, .class_ 376), (0, u "java/util/Arrays$ArrayList"), (68, u "$assertionsDisabled"), (269, u "MIN_ARRAY_SORT_GRAN"), (0, u "I"), (2, u "INSERTIONSORT_THRESHOLD"), (149, u "([BI)[B"), (105, .class_ 976), (0, u "java/util/Arrays$ArrayItr")] 52

def k19m0 : Method := { name := "<init>", desc := "()V", sig := { parameters := [], returnType := none }, accessFlags := 2, code := none }
def k19c1 : Code := { maxStack := 6, maxLocals := 3, code := jdk_65_method_121_code, exceptionTable := #[], attributes := #[] }
def k19m1 : Method := { name := "copyOf", desc := "([BI)[B", sig := { parameters := [(.array .byte), .int], returnType := some (.array .byte) }, accessFlags := 9, code := some k19c1 }
def k19c2 : Code := { maxStack := 4, maxLocals := 2, code := jdk_65_method_131_code, exceptionTable := #[], attributes := #[] }
def k19m2 : Method := { name := "checkLength", desc := "(II)V", sig := { parameters := [.int, .int], returnType := none }, accessFlags := 10, code := some k19c2 }
def k19c3 : Code := { maxStack := 3, maxLocals := 3, code := jdk_65_method_132_code, exceptionTable := #[], attributes := #[] }
def k19m3 : Method := { name := "copyOfRange", desc := "([BII)[B", sig := { parameters := [(.array .byte), .int, .int], returnType := some (.array .byte) }, accessFlags := 9, code := some k19c3 }
def k19c4 : Code := { maxStack := 6, maxLocals := 5, code := jdk_65_method_133_code, exceptionTable := #[], attributes := #[] }
def k19m4 : Method := { name := "copyOfRangeByte", desc := "([BII)[B", sig := { parameters := [(.array .byte), .int, .int], returnType := some (.array .byte) }, accessFlags := 10, code := some k19c4 }
/-- java/util/Arrays -/
def k19 : Class := { plain "java/util/Arrays" (some 0) with
  accessFlags := 49
  interfaces := #[]
  cf := some (fileOf pool19 14 #[.nestMembers #[975, 375, 113, 74]] #[{ accessFlags := 2, nameIndex := 5, descriptorIndex := 6, attributes := #[] }, { accessFlags := 9, nameIndex := 302, descriptorIndex := 869, attributes := #[] }, { accessFlags := 10, nameIndex := 345, descriptorIndex := 346, attributes := #[] }, { accessFlags := 9, nameIndex := 139, descriptorIndex := 342, attributes := #[] }, { accessFlags := 10, nameIndex := 341, descriptorIndex := 342, attributes := #[] }] 49 2 #[] #[{ accessFlags := 26, nameIndex := 715, descriptorIndex := 716, attributes := #[] }, { accessFlags := 26, nameIndex := 719, descriptorIndex := 716, attributes := #[] }, { accessFlags := 4120, nameIndex := 445, descriptorIndex := 117, attributes := #[] }])
  fields := #[{ name := "MIN_ARRAY_SORT_GRAN", type := .int, accessFlags := 26, slot := 0, constantValue := 0 }, { name := "INSERTIONSORT_THRESHOLD", type := .int, accessFlags := 26, slot := 1, constantValue := 0 }, { name := "$assertionsDisabled", type := .boolean, accessFlags := 4120, slot := 2, constantValue := 0 }]
  methods := #[k19m0, k19m1, k19m2, k19m3, k19m4]
  instanceTypes := #[]
  staticTypes := #[.int, .int, .boolean]
  resolved := Array.replicate 1029 none
  statics := none }

def pool20 : Array CpInfo := pool [(1, .class_ 2), (0, u "java/lang/Cloneable"), (0, .class_ 4), (0, u "java/lang/Object")] 2

/-- java/lang/Cloneable -/
def k20 : Class := { plain "java/lang/Cloneable" (some 0) with
  accessFlags := 1537
  interfaces := #[]
  cf := some (fileOf pool20 1 #[] #[] 1537 3 #[] #[])
  fields := #[]
  methods := #[]
  instanceTypes := #[]
  staticTypes := #[]
  resolved := Array.replicate 7 none
  statics := none }

def pool21 : Array CpInfo := pool [(1, .class_ 2), (0, u "java/lang/String"), (1, .class_ 6), (1, u "java/lang/Object"), (0, u "<init>"), (0, u "()V"), (0, .methodref 1 10), (0, .nameAndType 11 12), (0, u "checkIndex"), (0, u "(II)V"), (1, .class_ 16), (1, u "java/lang/StringLatin1"), (0, u "inflate"), (2, .class_ 22), (1, u "java/lang/StringUTF16"), (3, .nameAndType 17 27), (0, u "([BI[BII)V"), (25, u "([BI)C"), (36, u "canEncode"), (14, u "(C)Z"), (15, u "$assertionsDisabled"), (0, u "Z"), (98, .class_ 223), (1, u "java/lang/StringLatin1$LinesSpliterator"), (16, .methodref 20 26), (11, u "charAt"), (127, u "toBytes"), (1, u "(C)[B"), (7, .class_ 391), (0, u "java/lang/StringLatin1$CharsSpliterator")] 3

def k21m0 : Method := { name := "<init>", desc := "()V", sig := { parameters := [], returnType := none }, accessFlags := 0, code := none }
def k21c1 : Code := { maxStack := 2, maxLocals := 2, code := jdk_43_method_2_code, exceptionTable := #[], attributes := #[] }
def k21m1 : Method := { name := "charAt", desc := "([BI)C", sig := { parameters := [(.array .byte), .int], returnType := some .char }, accessFlags := 9, code := some k21c1 }
def k21c2 : Code := { maxStack := 2, maxLocals := 1, code := jdk_43_method_3_code, exceptionTable := #[], attributes := #[] }
def k21m2 : Method := { name := "canEncode", desc := "(C)Z", sig := { parameters := [.char], returnType := some .boolean }, accessFlags := 9, code := some k21c2 }
def k21c3 : Code := { maxStack := 4, maxLocals := 1, code := jdk_43_method_46_code, exceptionTable := #[], attributes := #[] }
def k21m3 : Method := { name := "toBytes", desc := "(C)[B", sig := { parameters := [.char], returnType := some (.array .byte) }, accessFlags := 9, code := some k21c3 }
def k21c4 : Code := { maxStack := 5, maxLocals := 5, code := jdk_43_method_50_code, exceptionTable := #[], attributes := #[] }
def k21m4 : Method := { name := "inflate", desc := "([BI[BII)V", sig := { parameters := [(.array .byte), .int, (.array .byte), .int, .int], returnType := none }, accessFlags := 9, code := some k21c4 }
/-- java/lang/StringLatin1 -/
def k21 : Class := { plain "java/lang/StringLatin1" (some 0) with
  accessFlags := 48
  interfaces := #[]
  cf := some (fileOf pool21 14 #[.nestMembers #[390, 221]] #[{ accessFlags := 0, nameIndex := 7, descriptorIndex := 8, attributes := #[] }, { accessFlags := 9, nameIndex := 252, descriptorIndex := 53, attributes := #[] }, { accessFlags := 9, nameIndex := 90, descriptorIndex := 105, attributes := #[] }, { accessFlags := 9, nameIndex := 380, descriptorIndex := 382, attributes := #[] }, { accessFlags := 9, nameIndex := 17, descriptorIndex := 27, attributes := #[] }] 48 4 #[] #[{ accessFlags := 4120, nameIndex := 121, descriptorIndex := 122, attributes := #[] }])
  fields := #[{ name := "$assertionsDisabled", type := .boolean, accessFlags := 4120, slot := 0, constantValue := 0 }]
  methods := #[k21m0, k21m1, k21m2, k21m3, k21m4]
  instanceTypes := #[]
  staticTypes := #[.boolean]
  resolved := Array.replicate 395 none
  statics := none }

def pool22 : Array CpInfo := pool [(2, .class_ 4), (1, u "java/lang/Object"), (0, u "<init>"), (0, u "()V"), (17, .class_ 26), (1, u "jdk/internal/util/Preconditions"), (6, u "checkIndex"), (15, u "checkFromIndexSize"), (5, .class_ 56), (0, u "jdk/internal/util/Preconditions$4"), (57, .class_ 115), (0, u "jdk/internal/util/Preconditions$1"), (7, u "SIOOBE_FORMATTER"), (0, u "Ljava/util/function/BiFunction;"), (0, .class_ 126), (0, u "jdk/internal/util/Preconditions$2"), (3, u "AIOOBE_FORMATTER"), (0, .class_ 132), (0, u "jdk/internal/util/Preconditions$3"), (3, u "IOOBE_FORMATTER"), (41, u "(IILjava/util/function/BiFunction;)I"), (4, u "(IIILjava/util/function/BiFunction;)I")] 10

def k22m0 : Method := { name := "<init>", desc := "()V", sig := { parameters := [], returnType := none }, accessFlags := 1, code := none }
def k22c1 : Code := { maxStack := 3, maxLocals := 3, code := jdk_41_method_11_code, exceptionTable := #[], attributes := #[] }
def k22m1 : Method := { name := "checkIndex", desc := "(IILjava/util/function/BiFunction;)I", sig := { parameters := [.int, .int, (.object "java/util/function/BiFunction")], returnType := some .int }, accessFlags := 9, code := some k22c1 }
def k22c2 : Code := { maxStack := 4, maxLocals := 4, code := jdk_41_method_13_code, exceptionTable := #[], attributes := #[] }
def k22m2 : Method := { name := "checkFromIndexSize", desc := "(IIILjava/util/function/BiFunction;)I", sig := { parameters := [.int, .int, .int, (.object "java/util/function/BiFunction")], returnType := some .int }, accessFlags := 9, code := some k22c2 }
/-- jdk/internal/util/Preconditions -/
def k22 : Class := { plain "jdk/internal/util/Preconditions" (some 0) with
  accessFlags := 33
  interfaces := #[]
  cf := some (fileOf pool22 24 #[.nestMembers #[55, 131, 125, 114]] #[{ accessFlags := 1, nameIndex := 5, descriptorIndex := 6, attributes := #[] }, { accessFlags := 9, nameIndex := 33, descriptorIndex := 178, attributes := #[] }, { accessFlags := 9, nameIndex := 49, descriptorIndex := 183, attributes := #[] }] 33 2 #[] #[{ accessFlags := 25, nameIndex := 123, descriptorIndex := 124, attributes := #[] }, { accessFlags := 25, nameIndex := 130, descriptorIndex := 124, attributes := #[] }, { accessFlags := 25, nameIndex := 136, descriptorIndex := 124, attributes := #[] }])
  fields := #[{ name := "SIOOBE_FORMATTER", type := (.object "java/util/function/BiFunction"), accessFlags := 25, slot := 0, constantValue := 0 }, { name := "AIOOBE_FORMATTER", type := (.object "java/util/function/BiFunction"), accessFlags := 25, slot := 1, constantValue := 0 }, { name := "IOOBE_FORMATTER", type := (.object "java/util/function/BiFunction"), accessFlags := 25, slot := 2, constantValue := 0 }]
  methods := #[k22m0, k22m1, k22m2]
  instanceTypes := #[]
  staticTypes := #[(.object "java/util/function/BiFunction"), (.object "java/util/function/BiFunction"), (.object "java/util/function/BiFunction")]
  resolved := Array.replicate 194 none
  statics := some 2 }

def pool23 : Array CpInfo := pool [(3, .class_ 4), (0, u "java/lang/String"), (1, .class_ 8), (1, u "java/lang/Object"), (0, u "<init>"), (0, u "()V"), (0, .methodref 12 13), (0, .class_ 14), (0, .nameAndType 15 16), (0, u "java/lang/StringUTF16"), (0, u "newBytesLength"), (0, u "(I)I"), (3, .integer 1073741823), (23, .fieldref 12 45), (0, .nameAndType 46 47), (0, u "$assertionsDisabled"), (0, u "Z"), (0, .methodref 12 49), (0, .nameAndType 50 51), (0, u "length"), (0, u "([B)I"), (7, .fieldref 12 60), (0, .nameAndType 61 62), (0, u "HI_BYTE_SHIFT"), (0, u "I"), (0, .fieldref 12 64), (0, .nameAndType 65 62), (0, u "LO_BYTE_SHIFT"), (1, .methodref 12 68), (0, .nameAndType 69 70), (0, u "checkIndex"), (0, u "(I[B)V"), (0, .methodref 12 72), (0, .nameAndType 73 74), (0, u "getChar"), (0, u "([BI)C"), (24, u "(II[B)V"), (7, .methodref 12 108), (0, .nameAndType 109 110), (0, u "newBytesFor"), (0, u "(I)[B"), (0, .methodref 12 112), (0, .nameAndType 113 114), (0, u "putChar"), (0, u "([BII)V"), (0, .methodref 12 116), (0, .nameAndType 117 118), (0, u "compress"), (0, u "([CI[BII)I"), (0, .methodref 12 120), (0, .nameAndType 121 122), (0, u "toBytes"), (0, u "([CII)[B"), (17, u "inflate"), (0, u "([BI[BII)V"), (31, .methodref 12 174), (0, .nameAndType 175 99), (0, u "checkBoundsOffCount"), (85, u "coderFromArrayLen"), (0, u "([BI)B"), (18, u "(III)I"), (87, .class_ 371), (1, u "java/lang/StringUTF16$LinesSpliterator"), (20, u "charAt"), (21, .methodref 3 415), (0, .nameAndType 69 416), (0, u "(II)V"), (2, .methodref 3 420), (0, .nameAndType 175 281), (9, u "MAX_LENGTH"), (44, u "(C)[B"), (151, .class_ 628), (0, u "java/lang/StringUTF16$CodePointsSpliterator"), (0, .class_ 630), (0, u "java/lang/StringUTF16$CharsSpliterator")] 4

def k23m0 : Method := { name := "<init>", desc := "()V", sig := { parameters := [], returnType := none }, accessFlags := 0, code := none }
def k23c1 : Code := { maxStack := 1, maxLocals := 1, code := jdk_52_method_2_code, exceptionTable := #[], attributes := #[] }
def k23m1 : Method := { name := "newBytesFor", desc := "(I)[B", sig := { parameters := [.int], returnType := some (.array .byte) }, accessFlags := 9, code := some k23c1 }
def k23c2 : Code := { maxStack := 4, maxLocals := 1, code := jdk_52_method_3_code, exceptionTable := #[], attributes := #[] }
def k23m2 : Method := { name := "newBytesLength", desc := "(I)I", sig := { parameters := [.int], returnType := some .int }, accessFlags := 9, code := some k23c2 }
def k23c3 : Code := { maxStack := 4, maxLocals := 3, code := jdk_52_method_4_code, exceptionTable := #[], attributes := #[] }
def k23m3 : Method := { name := "putChar", desc := "([BII)V", sig := { parameters := [(.array .byte), .int, .int], returnType := none }, accessFlags := 8, code := some k23c3 }
def k23c4 : Code := { maxStack := 3, maxLocals := 2, code := jdk_52_method_5_code, exceptionTable := #[], attributes := #[] }
def k23m4 : Method := { name := "getChar", desc := "([BI)C", sig := { parameters := [(.array .byte), .int], returnType := some .char }, accessFlags := 8, code := some k23c4 }
def k23c5 : Code := { maxStack := 2, maxLocals := 1, code := jdk_52_method_6_code, exceptionTable := #[], attributes := #[] }
def k23m5 : Method := { name := "length", desc := "([B)I", sig := { parameters := [(.array .byte)], returnType := some .int }, accessFlags := 9, code := some k23c5 }
def k23c6 : Code := { maxStack := 4, maxLocals := 5, code := jdk_52_method_14_code, exceptionTable := #[], attributes := #[] }
def k23m6 : Method := { name := "toBytes", desc := "([CII)[B", sig := { parameters := [(.array .char), .int, .int], returnType := some (.array .byte) }, accessFlags := 9, code := some k23c6 }
def k23c7 : Code := { maxStack := 2, maxLocals := 2, code := jdk_52_method_15_code, exceptionTable := #[], attributes := #[] }
def k23m7 : Method := { name := "coderFromArrayLen", desc := "([BI)B", sig := { parameters := [(.array .byte), .int], returnType := some .byte }, accessFlags := 8, code := some k23c7 }
def k23c8 : Code := { maxStack := 5, maxLocals := 6, code := jdk_52_method_16_code, exceptionTable := #[], attributes := #[] }
def k23m8 : Method := { name := "compress", desc := "([CII)[B", sig := { parameters := [(.array .char), .int, .int], returnType := some (.array .byte) }, accessFlags := 9, code := some k23c8 }
def k23c9 : Code := { maxStack := 3, maxLocals := 7, code := jdk_52_method_21_code, exceptionTable := #[], attributes := #[] }
def k23m9 : Method := { name := "compress", desc := "([CI[BII)I", sig := { parameters := [(.array .char), .int, (.array .byte), .int, .int], returnType := some .int }, accessFlags := 9, code := some k23c9 }
def k23c10 : Code := { maxStack := 3, maxLocals := 2, code := jdk_52_method_24_code, exceptionTable := #[], attributes := #[] }
def k23m10 : Method := { name := "toBytes", desc := "(C)[B", sig := { parameters := [.char], returnType := some (.array .byte) }, accessFlags := 9, code := some k23c10 }
def k23c11 : Code := { maxStack := 2, maxLocals := 2, code := jdk_52_method_83_code, exceptionTable := #[], attributes := #[] }
def k23m11 : Method := { name := "charAt", desc := "([BI)C", sig := { parameters := [(.array .byte), .int], returnType := some .char }, accessFlags := 9, code := some k23c11 }
def k23c12 : Code := { maxStack := 4, maxLocals := 6, code := jdk_52_method_86_code, exceptionTable := #[], attributes := #[] }
def k23m12 : Method := { name := "inflate", desc := "([BI[BII)V", sig := { parameters := [(.array .byte), .int, (.array .byte), .int, .int], returnType := none }, accessFlags := 9, code := some k23c12 }
def k23c13 : Code := { maxStack := 2, maxLocals := 2, code := jdk_52_method_91_code, exceptionTable := #[], attributes := #[] }
def k23m13 : Method := { name := "checkIndex", desc := "(I[B)V", sig := { parameters := [.int, (.array .byte)], returnType := none }, accessFlags := 9, code := some k23c13 }
def k23c14 : Code := { maxStack := 3, maxLocals := 3, code := jdk_52_method_94_code, exceptionTable := #[], attributes := #[] }
def k23m14 : Method := { name := "checkBoundsOffCount", desc := "(II[B)V", sig := { parameters := [.int, .int, (.array .byte)], returnType := none }, accessFlags := 9, code := some k23c14 }
/-- java/lang/StringUTF16 -/
def k23 : Class := { plain "java/lang/StringUTF16" (some 0) with
  accessFlags := 48
  interfaces := #[]
  cf := some (fileOf pool23 12 #[.nestMembers #[627, 629, 369]] #[{ accessFlags := 0, nameIndex := 9, descriptorIndex := 10, attributes := #[] }, { accessFlags := 9, nameIndex := 109, descriptorIndex := 110, attributes := #[] }, { accessFlags := 9, nameIndex := 15, descriptorIndex := 16, attributes := #[] }, { accessFlags := 8, nameIndex := 113, descriptorIndex := 114, attributes := #[] }, { accessFlags := 8, nameIndex := 73, descriptorIndex := 74, attributes := #[] }, { accessFlags := 9, nameIndex := 50, descriptorIndex := 51, attributes := #[] }, { accessFlags := 9, nameIndex := 121, descriptorIndex := 122, attributes := #[] }, { accessFlags := 8, nameIndex := 261, descriptorIndex := 262, attributes := #[] }, { accessFlags := 9, nameIndex := 117, descriptorIndex := 122, attributes := #[] }, { accessFlags := 9, nameIndex := 117, descriptorIndex := 118, attributes := #[] }, { accessFlags := 9, nameIndex := 121, descriptorIndex := 475, attributes := #[] }, { accessFlags := 9, nameIndex := 392, descriptorIndex := 74, attributes := #[] }, { accessFlags := 9, nameIndex := 140, descriptorIndex := 141, attributes := #[] }, { accessFlags := 9, nameIndex := 69, descriptorIndex := 70, attributes := #[] }, { accessFlags := 9, nameIndex := 175, descriptorIndex := 99, attributes := #[] }] 48 6 #[] #[{ accessFlags := 26, nameIndex := 61, descriptorIndex := 62, attributes := #[] }, { accessFlags := 26, nameIndex := 65, descriptorIndex := 62, attributes := #[] }, { accessFlags := 24, nameIndex := 430, descriptorIndex := 62, attributes := #[] }, { accessFlags := 4120, nameIndex := 46, descriptorIndex := 47, attributes := #[] }])
  fields := #[{ name := "HI_BYTE_SHIFT", type := .int, accessFlags := 26, slot := 0, constantValue := 0 }, { name := "LO_BYTE_SHIFT", type := .int, accessFlags := 26, slot := 1, constantValue := 0 }, { name := "MAX_LENGTH", type := .int, accessFlags := 24, slot := 2, constantValue := 0 }, { name := "$assertionsDisabled", type := .boolean, accessFlags := 4120, slot := 3, constantValue := 0 }]
  methods := #[k23m0, k23m1, k23m2, k23m3, k23m4, k23m5, k23m6, k23m7, k23m8, k23m9, k23m10, k23m11, k23m12, k23m13, k23m14]
  instanceTypes := #[]
  staticTypes := #[.int, .int, .int, .boolean]
  resolved := Array.replicate 635 none
  statics := some 3 }

def pool24 : Array CpInfo := pool [(2, .class_ 4), (1, u "java/lang/Object"), (0, u "<init>"), (0, u "()V"), (12, .class_ 20), (0, u "java/util/Collections"), (63, u "r"), (0, u "Ljava/util/Random;"), (80, .class_ 167), (0, u "java/util/Collections$UnmodifiableCollection"), (6, .class_ 175), (0, u "java/util/Collections$UnmodifiableSequencedCollection"), (6, .class_ 183), (0, u "java/util/Collections$UnmodifiableSet"), (6, .class_ 191), (0, u "java/util/Collections$UnmodifiableSequencedSet"), (6, .class_ 199), (0, u "java/util/Collections$UnmodifiableSortedSet"), (6, .class_ 207), (0, u "java/util/Collections$UnmodifiableNavigableSet"), (4, .class_ 213), (0, u "java/util/Collections$UnmodifiableList"), (1, .class_ 216), (0, u "java/util/Collections$UnmodifiableRandomAccessList"), (6, .class_ 224), (0, u "java/util/Collections$UnmodifiableMap"), (6, .class_ 232), (0, u "java/util/Collections$UnmodifiableSequencedMap"), (4, .class_ 238), (0, u "java/util/Collections$UnmodifiableSortedMap"), (6, .class_ 246), (0, u "java/util/Collections$UnmodifiableNavigableMap"), (3, .class_ 251), (0, u "java/util/Collections$SynchronizedCollection"), (4, .class_ 257), (0, u "java/util/Collections$SynchronizedSet"), (4, .class_ 263), (0, u "java/util/Collections$SynchronizedSortedSet"), (1, .class_ 266), (0, u "java/util/Collections$SynchronizedNavigableSet"), (1, .class_ 269), (0, u "java/util/Collections$SynchronizedRandomAccessList"), (1, .class_ 272), (0, u "java/util/Collections$SynchronizedList"), (5, .class_ 279), (0, u "java/util/Collections$SynchronizedMap"), (1, .class_ 282), (0, u "java/util/Collections$SynchronizedSortedMap"), (1, .class_ 285), (0, u "java/util/Collections$SynchronizedNavigableMap"), (1, .class_ 288), (0, u "java/util/Collections$CheckedCollection"), (11, .class_ 301), (0, u "java/util/Collections$CheckedQueue"), (3, .class_ 306), (0, u "java/util/Collections$CheckedSet"), (3, .class_ 311), (0, u "java/util/Collections$CheckedSortedSet"), (3, .class_ 316), (0, u "java/util/Collections$CheckedNavigableSet"), (3, .class_ 321), (0, u "java/util/Collections$CheckedRandomAccessList"), (3, .class_ 326), (0, u "java/util/Collections$CheckedList"), (1, .class_ 329), (0, u "java/util/Collections$CheckedMap"), (3, .class_ 334), (0, u "java/util/Collections$CheckedSortedMap"), (3, .class_ 339), (0, u "java/util/Collections$CheckedNavigableMap"), (4, .class_ 346), (1, u "java/util/Collections$EmptyIterator"), (3, .class_ 352), (1, u "java/util/Collections$EmptyListIterator"), (2, .class_ 357), (1, u "java/util/Collections$EmptyEnumeration"), (4, u "EMPTY_SET"), (0, u "Ljava/util/Set;"), (6, u "EMPTY_LIST"), (0, u "Ljava/util/List;"), (2, u "EMPTY_MAP"), (0, u "Ljava/util/Map;"), (4, .class_ 381), (0, u "java/util/Collections$SingletonSet"), (2, .class_ 385), (0, u "java/util/Collections$1"), (1, .class_ 388), (0, u "java/util/Collections$2"), (1, .class_ 391), (0, u "java/util/Collections$SingletonList"), (1, .class_ 394), (0, u "java/util/Collections$SingletonMap"), (22, .class_ 418), (0, u "java/util/Collections$CopiesList"), (4, .class_ 425), (1, u "java/util/Collections$ReverseComparator"), (8, .class_ 435), (0, u "java/util/Collections$ReverseComparator2"), (6, .class_ 443), (0, u "java/util/Collections$3"), (25, .class_ 470), (0, u "java/util/Collections$SetFromMap"), (2, .class_ 474), (0, u "java/util/Collections$SequencedSetFromMap"), (3, .class_ 479), (0, u "java/util/Collections$AsLIFOQueue"), (11, .class_ 492), (0, u "java/util/Collections$EmptySet"), (1, .class_ 495), (0, u "java/util/Collections$EmptyList"), (1, .class_ 498), (0, u "java/util/Collections$EmptyMap"), (1, u "BINARYSEARCH_THRESHOLD"), (0, u "I"), (2, u "REVERSE_THRESHOLD"), (1, u "SHUFFLE_THRESHOLD"), (1, u "FILL_THRESHOLD"), (1, u "ROTATE_THRESHOLD"), (1, u "COPY_THRESHOLD"), (1, u "REPLACEALL_THRESHOLD"), (1, u "INDEXOFSUBLIST_THRESHOLD"), (333, .class_ 851), (0, u "java/util/Collections$CheckedMap$CheckedEntrySet"), (0, .class_ 853), (0, u "java/util/Collections$CheckedMap$CheckedEntrySet$CheckedEntry"), (0, .class_ 855), (0, u "java/util/Collections$CheckedMap$CheckedEntrySet$1"), (0, .class_ 857), (0, u "java/util/Collections$CheckedList$1"), (0, .class_ 859), (0, u "java/util/Collections$CheckedCollection$1"), (0, .class_ 861), (0, u "java/util/Collections$UnmodifiableNavigableMap$EmptyNavigableMap"), (0, .class_ 863), (0, u "java/util/Collections$UnmodifiableMap$UnmodifiableEntrySet"), (0, .class_ 865), (0, u "java/util/Collections$UnmodifiableMap$UnmodifiableEntrySet$UnmodifiableEntry"), (0, .class_ 867), (0, u "java/util/Collections$UnmodifiableMap$UnmodifiableEntrySet$UnmodifiableEntrySetSpliterator"), (0, .class_ 869), (0, u "java/util/Collections$UnmodifiableMap$UnmodifiableEntrySet$1"), (0, .class_ 871), (0, u "java/util/Collections$UnmodifiableList$1"), (0, .class_ 873), (0, u "java/util/Collections$UnmodifiableNavigableSet$EmptyNavigableSet"), (0, .class_ 875), (0, u "java/util/Collections$UnmodifiableCollection$1")] 57

def k24m0 : Method := { name := "<init>", desc := "()V", sig := { parameters := [], returnType := none }, accessFlags := 2, code := none }
/-- java/util/Collections -/
def k24 : Class := { plain "java/util/Collections" (some 0) with
  accessFlags := 33
  interfaces := #[]
  cf := some (fileOf pool24 19 #[.nestMembers #[478, 473, 469, 434, 423, 417, 393, 390, 380, 497, 494, 491, 355, 350, 344, 338, 333, 328, 850, 852, 854, 320, 325, 856, 315, 310, 305, 300, 287, 858, 284, 281, 278, 268, 271, 265, 262, 256, 250, 245, 860, 237, 231, 223, 862, 864, 866, 868, 215, 212, 870, 206, 872, 198, 190, 182, 174, 166, 874, 442, 387, 384]] #[{ accessFlags := 2, nameIndex := 5, descriptorIndex := 6, attributes := #[] }] 33 2 #[] #[{ accessFlags := 26, nameIndex := 500, descriptorIndex := 501, attributes := #[] }, { accessFlags := 26, nameIndex := 504, descriptorIndex := 501, attributes := #[] }, { accessFlags := 26, nameIndex := 506, descriptorIndex := 501, attributes := #[] }, { accessFlags := 26, nameIndex := 508, descriptorIndex := 501, attributes := #[] }, { accessFlags := 26, nameIndex := 510, descriptorIndex := 501, attributes := #[] }, { accessFlags := 26, nameIndex := 512, descriptorIndex := 501, attributes := #[] }, { accessFlags := 26, nameIndex := 514, descriptorIndex := 501, attributes := #[] }, { accessFlags := 26, nameIndex := 516, descriptorIndex := 501, attributes := #[] }, { accessFlags := 10, nameIndex := 84, descriptorIndex := 85, attributes := #[] }, { accessFlags := 25, nameIndex := 362, descriptorIndex := 363, attributes := #[] }, { accessFlags := 25, nameIndex := 370, descriptorIndex := 371, attributes := #[] }, { accessFlags := 25, nameIndex := 374, descriptorIndex := 375, attributes := #[] }])
  fields := #[{ name := "BINARYSEARCH_THRESHOLD", type := .int, accessFlags := 26, slot := 0, constantValue := 0 }, { name := "REVERSE_THRESHOLD", type := .int, accessFlags := 26, slot := 1, constantValue := 0 }, { name := "SHUFFLE_THRESHOLD", type := .int, accessFlags := 26, slot := 2, constantValue := 0 }, { name := "FILL_THRESHOLD", type := .int, accessFlags := 26, slot := 3, constantValue := 0 }, { name := "ROTATE_THRESHOLD", type := .int, accessFlags := 26, slot := 4, constantValue := 0 }, { name := "COPY_THRESHOLD", type := .int, accessFlags := 26, slot := 5, constantValue := 0 }, { name := "REPLACEALL_THRESHOLD", type := .int, accessFlags := 26, slot := 6, constantValue := 0 }, { name := "INDEXOFSUBLIST_THRESHOLD", type := .int, accessFlags := 26, slot := 7, constantValue := 0 }, { name := "r", type := (.object "java/util/Random"), accessFlags := 10, slot := 8, constantValue := 0 }, { name := "EMPTY_SET", type := (.object "java/util/Set"), accessFlags := 25, slot := 9, constantValue := 0 }, { name := "EMPTY_LIST", type := (.object "java/util/List"), accessFlags := 25, slot := 10, constantValue := 0 }, { name := "EMPTY_MAP", type := (.object "java/util/Map"), accessFlags := 25, slot := 11, constantValue := 0 }]
  methods := #[k24m0]
  instanceTypes := #[]
  staticTypes := #[.int, .int, .int, .int, .int, .int, .int, .int, (.object "java/util/Random"), (.object "java/util/Set"), (.object "java/util/List"), (.object "java/util/Map")]
  resolved := Array.replicate 933 none
  statics := some 4 }

def pool25 : Array CpInfo := pool [(8, .class_ 10), (1, u "java/lang/Iterable"), (24, .class_ 36), (0, u "java/lang/Object")] 25

/-- java/lang/Iterable -/
def k25 : Class := { plain "java/lang/Iterable" (some 0) with
  accessFlags := 1537
  interfaces := #[]
  cf := some (fileOf pool25 8 #[] #[] 1537 35 #[] #[])
  fields := #[]
  methods := #[]
  instanceTypes := #[]
  staticTypes := #[]
  resolved := Array.replicate 62 none
  statics := none }

def pool26 : Array CpInfo := pool [(10, .class_ 12), (1, u "java/util/Collection"), (47, .class_ 61), (0, u "java/lang/Object"), (0, .class_ 63), (0, u "java/lang/Iterable")] 51

/-- java/util/Collection -/
def k26 : Class := { plain "java/util/Collection" (some 0) with
  accessFlags := 1537
  interfaces := #[25]
  cf := some (fileOf pool26 10 #[] #[] 1537 60 #[62] #[])
  fields := #[]
  methods := #[]
  instanceTypes := #[]
  staticTypes := #[]
  resolved := Array.replicate 115 none
  statics := none }

def pool27 : Array CpInfo := pool [(2, .class_ 4), (1, u "java/lang/Object"), (0, u "<init>"), (0, u "()V"), (1, .class_ 10), (1, u "java/util/AbstractCollection"), (66, .class_ 78), (0, u "java/util/Collection")] 81

def k27m0 : Method := { name := "<init>", desc := "()V", sig := { parameters := [], returnType := none }, accessFlags := 4, code := none }
/-- java/util/AbstractCollection -/
def k27 : Class := { plain "java/util/AbstractCollection" (some 0) with
  accessFlags := 1057
  interfaces := #[26]
  cf := some (fileOf pool27 8 #[] #[{ accessFlags := 4, nameIndex := 5, descriptorIndex := 6, attributes := #[] }] 1057 2 #[77] #[])
  fields := #[]
  methods := #[k27m0]
  instanceTypes := #[]
  staticTypes := #[]
  resolved := Array.replicate 160 none
  statics := none }

def pool28 : Array CpInfo := pool [(8, .class_ 10), (1, u "java/util/SequencedCollection"), (15, .class_ 27), (0, u "java/lang/Object"), (0, .class_ 29), (0, u "java/util/Collection")] 27

/-- java/util/SequencedCollection -/
def k28 : Class := { plain "java/util/SequencedCollection" (some 0) with
  accessFlags := 1537
  interfaces := #[26]
  cf := some (fileOf pool28 8 #[] #[] 1537 26 #[28] #[])
  fields := #[]
  methods := #[]
  instanceTypes := #[]
  staticTypes := #[]
  resolved := Array.replicate 57 none
  statics := none }

def pool29 : Array CpInfo := pool [(8, .class_ 10), (1, u "java/util/List"), (92, .class_ 104), (0, u "java/lang/Object"), (15, .class_ 121), (0, u "java/util/SequencedCollection")] 129

/-- java/util/List -/
def k29 : Class := { plain "java/util/List" (some 0) with
  accessFlags := 1537
  interfaces := #[28]
  cf := some (fileOf pool29 8 #[] #[] 1537 103 #[120] #[])
  fields := #[]
  methods := #[]
  instanceTypes := #[]
  staticTypes := #[]
  resolved := Array.replicate 251 none
  statics := none }

def pool30 : Array CpInfo := pool [(2, .class_ 4), (1, u "java/util/AbstractCollection"), (0, u "<init>"), (0, u "()V"), (1, .class_ 10), (1, u "java/util/AbstractList"), (0, u "modCount"), (0, u "I"), (64, .class_ 78), (0, u "java/util/AbstractList$Itr"), (3, .class_ 83), (0, u "java/util/AbstractList$ListItr"), (9, .class_ 94), (0, u "java/util/AbstractList$RandomAccessSubList"), (3, .class_ 99), (0, u "java/util/AbstractList$SubList"), (33, .class_ 134), (0, u "java/util/List"), (73, .class_ 209), (0, u "java/util/AbstractList$SubList$1"), (0, .class_ 211), (0, u "java/util/AbstractList$RandomAccessSpliterator")] 6

def k30m0 : Method := { name := "<init>", desc := "()V", sig := { parameters := [], returnType := none }, accessFlags := 4, code := none }
/-- java/util/AbstractList -/
def k30 : Class := { plain "java/util/AbstractList" (some 27) with
  accessFlags := 1057
  interfaces := #[29]
  cf := some (fileOf pool30 8 #[.nestMembers #[93, 98, 208, 210, 82, 77]] #[{ accessFlags := 4, nameIndex := 5, descriptorIndex := 6, attributes := #[] }] 1057 2 #[133] #[{ accessFlags := 132, nameIndex := 11, descriptorIndex := 12, attributes := #[] }])
  fields := #[{ name := "modCount", type := .int, accessFlags := 132, slot := 0, constantValue := 0 }]
  methods := #[k30m0]
  instanceTypes := #[.int]
  staticTypes := #[]
  resolved := Array.replicate 218 none
  statics := none }

def pool31 : Array CpInfo := pool [(1, .class_ 2), (0, u "java/util/RandomAccess"), (0, .class_ 4), (0, u "java/lang/Object")] 2

/-- java/util/RandomAccess -/
def k31 : Class := { plain "java/util/RandomAccess" (some 0) with
  accessFlags := 1537
  interfaces := #[]
  cf := some (fileOf pool31 1 #[] #[] 1537 3 #[] #[])
  fields := #[]
  methods := #[]
  instanceTypes := #[]
  staticTypes := #[]
  resolved := Array.replicate 7 none
  statics := none }

def pool32 : Array CpInfo := pool [(2, .class_ 4), (1, u "java/util/AbstractList"), (0, u "<init>"), (0, u "()V"), (1, .class_ 10), (1, u "java/util/Collections"), (54, .class_ 66), (0, u "java/util/Collections$EmptyList"), (0, .class_ 68), (0, u "java/util/RandomAccess"), (0, .class_ 70), (0, u "java/io/Serializable"), (0, u "serialVersionUID"), (0, u "J")] 77

def k32m0 : Method := { name := "<init>", desc := "()V", sig := { parameters := [], returnType := none }, accessFlags := 2, code := none }
/-- java/util/Collections$EmptyList -/
def k32 : Class := { plain "java/util/Collections$EmptyList" (some 30) with
  accessFlags := 32
  interfaces := #[31, 2]
  cf := some (fileOf pool32 65 #[.nestHost 8] #[{ accessFlags := 2, nameIndex := 5, descriptorIndex := 6, attributes := #[] }] 32 2 #[67, 69] #[{ accessFlags := 26, nameIndex := 71, descriptorIndex := 72, attributes := #[] }])
  fields := #[{ name := "serialVersionUID", type := .long, accessFlags := 26, slot := 0, constantValue := 0 }]
  methods := #[k32m0]
  instanceTypes := #[.int]
  staticTypes := #[.long]
  resolved := Array.replicate 150 none
  statics := none }

def pool33 : Array CpInfo := pool [(2, .class_ 4), (1, u "java/lang/StackTraceElement"), (0, u "<init>"), (2, .class_ 10), (1, u "java/lang/Object"), (0, u "()V"), (2, u "format"), (0, u "B"), (2, u "classLoaderName"), (0, u "Ljava/lang/String;"), (2, u "moduleName"), (2, u "moduleVersion"), (12, u "declaringClass"), (4, u "methodName"), (2, u "fileName"), (2, u "lineNumber"), (0, u "I"), (65, u "declaringClassObject"), (0, u "Ljava/lang/Class;"), (33, .class_ 153), (1, u "java/lang/StackTraceElement$HashedModules"), (17, .class_ 172), (0, u "java/io/Serializable"), (0, u "NATIVE_METHOD"), (1, u "UNKNOWN_SOURCE"), (2, u "BUILTIN_CLASS_LOADER"), (1, u "JDK_NON_UPGRADEABLE_MODULE"), (1, u "serialVersionUID"), (0, u "J")] 51

def k33m0 : Method := { name := "<init>", desc := "()V", sig := { parameters := [], returnType := none }, accessFlags := 2, code := none }
/-- java/lang/StackTraceElement -/
def k33 : Class := { plain "java/lang/StackTraceElement" (some 0) with
  accessFlags := 49
  interfaces := #[2]
  cf := some (fileOf pool33 2 #[.nestMembers #[151]] #[{ accessFlags := 2, nameIndex := 5, descriptorIndex := 11, attributes := #[] }] 49 8 #[171] #[{ accessFlags := 26, nameIndex := 173, descriptorIndex := 19, attributes := #[] }, { accessFlags := 26, nameIndex := 175, descriptorIndex := 19, attributes := #[] }, { accessFlags := 130, nameIndex := 116, descriptorIndex := 117, attributes := #[] }, { accessFlags := 2, nameIndex := 18, descriptorIndex := 19, attributes := #[] }, { accessFlags := 2, nameIndex := 22, descriptorIndex := 19, attributes := #[] }, { accessFlags := 2, nameIndex := 25, descriptorIndex := 19, attributes := #[] }, { accessFlags := 2, nameIndex := 38, descriptorIndex := 19, attributes := #[] }, { accessFlags := 2, nameIndex := 43, descriptorIndex := 19, attributes := #[] }, { accessFlags := 2, nameIndex := 46, descriptorIndex := 19, attributes := #[] }, { accessFlags := 2, nameIndex := 49, descriptorIndex := 50, attributes := #[] }, { accessFlags := 2, nameIndex := 14, descriptorIndex := 15, attributes := #[] }, { accessFlags := 26, nameIndex := 178, descriptorIndex := 15, attributes := #[] }, { accessFlags := 26, nameIndex := 180, descriptorIndex := 15, attributes := #[] }, { accessFlags := 26, nameIndex := 182, descriptorIndex := 183, attributes := #[] }])
  fields := #[{ name := "NATIVE_METHOD", type := (.object "java/lang/String"), accessFlags := 26, slot := 0, constantValue := 0 }, { name := "UNKNOWN_SOURCE", type := (.object "java/lang/String"), accessFlags := 26, slot := 1, constantValue := 0 }, { name := "declaringClassObject", type := (.object "java/lang/Class"), accessFlags := 130, slot := 0, constantValue := 0 }, { name := "classLoaderName", type := (.object "java/lang/String"), accessFlags := 2, slot := 1, constantValue := 0 }, { name := "moduleName", type := (.object "java/lang/String"), accessFlags := 2, slot := 2, constantValue := 0 }, { name := "moduleVersion", type := (.object "java/lang/String"), accessFlags := 2, slot := 3, constantValue := 0 }, { name := "declaringClass", type := (.object "java/lang/String"), accessFlags := 2, slot := 4, constantValue := 0 }, { name := "methodName", type := (.object "java/lang/String"), accessFlags := 2, slot := 5, constantValue := 0 }, { name := "fileName", type := (.object "java/lang/String"), accessFlags := 2, slot := 6, constantValue := 0 }, { name := "lineNumber", type := .int, accessFlags := 2, slot := 7, constantValue := 0 }, { name := "format", type := .byte, accessFlags := 2, slot := 8, constantValue := 0 }, { name := "BUILTIN_CLASS_LOADER", type := .byte, accessFlags := 26, slot := 2, constantValue := 0 }, { name := "JDK_NON_UPGRADEABLE_MODULE", type := .byte, accessFlags := 26, slot := 3, constantValue := 0 }, { name := "serialVersionUID", type := .long, accessFlags := 26, slot := 4, constantValue := 0 }]
  methods := #[k33m0]
  instanceTypes := #[(.object "java/lang/Class"), (.object "java/lang/String"), (.object "java/lang/String"), (.object "java/lang/String"), (.object "java/lang/String"), (.object "java/lang/String"), (.object "java/lang/String"), .int, .byte]
  staticTypes := #[(.object "java/lang/String"), (.object "java/lang/String"), .byte, .byte, .long]
  resolved := Array.replicate 235 none
  statics := none }

/-- the primitive byte -/
def k34 : Class := { plain "byte" none with kind := .primitive 'B', accessFlags := 0x411 }
/-- [B -/
def k35 : Class := { plain "[B" (some 0) with kind := .array 34 .byte, interfaces := #[20, 2], accessFlags := 1041 }

/-- the primitive char -/
def k36 : Class := { plain "char" none with kind := .primitive 'C', accessFlags := 0x411 }
/-- [C -/
def k37 : Class := { plain "[C" (some 0) with kind := .array 36 .char, interfaces := #[20, 2], accessFlags := 1041 }

/-- the primitive int -/
def k38 : Class := { plain "int" none with kind := .primitive 'I', accessFlags := 0x411 }
/-- [I -/
def k39 : Class := { plain "[I" (some 0) with kind := .array 38 .int, interfaces := #[20, 2], accessFlags := 1041 }

/-- [Ljava/lang/Object; -/
def k40 : Class := { plain "[Ljava/lang/Object;" (some 0) with kind := .array 0 (.object "java/lang/Object"), interfaces := #[20, 2], accessFlags := 1041 }

/-- [Ljava/lang/StackTraceElement; -/
def k41 : Class := { plain "[Ljava/lang/StackTraceElement;" (some 0) with kind := .array 33 (.object "java/lang/StackTraceElement"), interfaces := #[20, 2], accessFlags := 1041 }

/-- [Ljava/lang/Throwable; -/
def k42 : Class := { plain "[Ljava/lang/Throwable;" (some 0) with kind := .array 8 (.object "java/lang/Throwable"), interfaces := #[20, 2], accessFlags := 1041 }

def heap : Heap := #[{ cls := 7, slots := #[.long 0, .int 1, .null, .int 0, .null, .int 0, .int 0], vm := .statics 7 },
  { cls := 8, slots := #[.long 0, .ref 5, .ref 6, .null, .null, .null, .null, .ref 7, .int 1], vm := .statics 8 },
  { cls := 22, slots := #[.null, .null, .null], vm := .statics 22 },
  { cls := 23, slots := #[.int 0, .int 8, .int 0, .int 1], vm := .statics 23 },
  { cls := 24, slots := #[.int 0, .int 0, .int 0, .int 0, .int 0, .int 0, .int 0, .int 0, .null, .null, .ref 6, .null], vm := .statics 24 },
  { cls := 41, slots := #[], vm := .none },
  { cls := 32, slots := #[.int 0], vm := .none },
  { cls := 42, slots := #[], vm := .none }]
def classes : Array Class := #[k0, k1, k2, k3, k4, k5, k6, k7, k8, k9, k10, k11, k12, k13, k14, k15, k16, k17, k18, k19, k20, k21, k22, k23, k24, k25, k26, k27, k28, k29, k30, k31, k32, k33, k34, k35, k36, k37, k38, k39, k40, k41, k42]
def interned : List (Array UInt16 × Addr) := []
def slotsUsed : Nat := 36
def theMethod : MethodId := ⟨1, 2⟩
def args0 : Array Value := #[.int 5, .int 97, .int 98, .int 99, .int 100]
def aboutOver (below : List Frame) : State where
  vm := { classes := classes, interned := interned.toArray }
  heap := heap
  slotsUsed := slotsUsed
  threads := #[{ frames := .invoking theMethod args0 :: below }]
def below0 : List Frame := [.native { method := ⟨0, 0⟩, args := #[] }]
def about1 : State := aboutOver below0
def p0 : Program := .bare "" "" ""
def e0 : Env := launch0.env 0 0 0
theorem w_frames : about1.frames = Frame.invoking theMethod args0 :: below0 := rfl
set_option maxRecDepth 65536 in
theorem w_args : argsFit about1.vm theMethod args0 = true := by decide +kernel
set_option maxRecDepth 65536 in
theorem w_heap : heapFits about1 = true := by decide +kernel
set_option maxRecDepth 65536 in
theorem w_runnable : about1.curStatus? = some .runnable := by decide +kernel
set_option maxRecDepth 65536 in
theorem w_alone : about1.alone = true := by decide +kernel
set_option maxRecDepth 65536 in
theorem w_named : about1.methodNamed? x = some theMethod := by decide +kernel
set_option maxRecDepth 65536 in
theorem w_hears : about1.hears theMethod below0 = true := by decide +kernel
set_option maxRecDepth 65536 in
theorem w_ripe : about1.ripe theMethod args0 below0 = true := by decide +kernel
theorem w_running : about1.status = .running := rfl
set_option maxRecDepth 65536 in
theorem w_room : about1.hasRoom e0.platform room_1 = true :=
  launch0.hasRoom_least _ room_1 (by decide +kernel) (by decide +kernel) (by decide +kernel) (by decide +kernel) (by decide +kernel) (by decide +kernel)
theorem allAtoms_all (ts : List Jvm.Cond) (a : Array Jvm.Value) (st : Jvm.State) : (allAtoms ts).before a st = ts.all (fun c => c.before a st) := by
  induction ts with
  | nil => rfl
  | cons c t ih =>
    show (Jvm.Cond.and c (allAtoms t)).before a st = _
    rw [Jvm.Cond.before_and, ih, List.all_cons]
def words1 : List Jvm.Cond := Jvm.Cond.code x code maxLocals ret :: tables_1
/-- a 'code' word, met by the world's own term for the bytes: nothing is compared byte by byte -/
theorem code_word {y : MethodName} {bytes : ByteArray} {mx : Nat} {rt : Option FieldType} {a : Array Value} {s : State} {m : MethodId} {meth : Method} {c : Code} (h1 : s.methodNamed? y = some m) (h2 : s.vm.method? m = some meth) (h3 : meth.code = some c) (h4 : c.code = bytes)
    (h5 : (c.maxLocals == mx && c.exceptionTable.isEmpty && decide (c.maxStack ≤ mostOperands) && decide (meth.sig.returnType = rt) && !meth.locks && decide (parseMethodDescriptor y.desc = some meth.sig)) = true) : (Jvm.Cond.code y bytes mx rt).before a s = true := by
  simp only [Bool.and_eq_true, beq_iff_eq, Bool.not_eq_true', decide_eq_true_eq] at h5
  obtain ⟨⟨⟨⟨⟨g1, g2⟩, g3⟩, g4⟩, g5⟩, g6⟩ := h5
  simp [Cond.before, Cond.holds, Cond.value, h1, h2, h3, h4, g1, g2, g3, g4, g5, g6]
def isCode : Jvm.Cond → Bool
  | .code _ _ _ _ => true
  | _ => false
theorem all_split {L : List Jvm.Cond} {P : Jvm.Cond → Bool} (h1 : L.all (fun c => isCode c || P c) = true) (h2 : ∀ c ∈ L.filter isCode, P c = true) : L.all P = true := by
  refine List.all_eq_true.mpr fun c hc => ?_
  have h := List.all_eq_true.mp h1 c hc
  rcases Bool.eq_false_or_eq_true (isCode c) with hi | hi
  · exact h2 c (List.mem_filter.mpr ⟨hc, hi⟩)
  · simpa [hi] using h
set_option maxRecDepth 65536 in
theorem w_c0 : (Jvm.Cond.code x code maxLocals ret).before args0 about1 = true := code_word (m := ⟨1, 2⟩) (meth := k1m2) (c := k1c2) (by decide +kernel) rfl rfl rfl (by decide +kernel)
set_option maxRecDepth 65536 in
theorem w_c1 : (Jvm.Cond.code ({ cls := "com/example/narrow_lease/narrowlease/LeaseLostExceptionRecordLostPinLaw", name := "mk", desc := "(ICC)Ljava/lang/String;" } : Jvm.MethodName) method_2_code (3 : Nat) (Option.some (Jvm.ClassFile.FieldType.object "java/lang/String"))).before args0 about1 = true := code_word (m := ⟨1, 1⟩) (meth := k1m1) (c := k1c1) (by decide +kernel) rfl rfl rfl (by decide +kernel)
set_option maxRecDepth 65536 in
theorem w_c2 : (Jvm.Cond.code ({ cls := "java/lang/String", name := "<init>", desc := "([C)V" } : Jvm.MethodName) jdk_42_method_3_code (2 : Nat) (Option.none : Option Jvm.ClassFile.FieldType)).before args0 about1 = true := code_word (m := ⟨7, 1⟩) (meth := k7m1) (c := k7c1) (by decide +kernel) rfl rfl rfl (by decide +kernel)
set_option maxRecDepth 65536 in
theorem w_c3 : (Jvm.Cond.code ({ cls := "java/lang/String", name := "<init>", desc := "([CIILjava/lang/Void;)V" } : Jvm.MethodName) jdk_42_method_149_code (6 : Nat) (Option.none : Option Jvm.ClassFile.FieldType)).before args0 about1 = true := code_word (m := ⟨7, 7⟩) (meth := k7m7) (c := k7c7) (by decide +kernel) rfl rfl rfl (by decide +kernel)
set_option maxRecDepth 65536 in
theorem w_c4 : (Jvm.Cond.code ({ cls := "java/lang/Object", name := "<init>", desc := "()V" } : Jvm.MethodName) object_method_1_code (1 : Nat) (Option.none : Option Jvm.ClassFile.FieldType)).before args0 about1 = true := code_word (m := ⟨0, 0⟩) (meth := k0m0) (c := k0c0) (by decide +kernel) rfl rfl rfl (by decide +kernel)
set_option maxRecDepth 65536 in
theorem w_c5 : (Jvm.Cond.code ({ cls := "java/lang/String", name := "length", desc := "()I" } : Jvm.MethodName) jdk_42_method_54_code (1 : Nat) (Option.some Jvm.ClassFile.FieldType.int)).before args0 about1 = true := code_word (m := ⟨7, 3⟩) (meth := k7m3) (c := k7c3) (by decide +kernel) rfl rfl rfl (by decide +kernel)
set_option maxRecDepth 65536 in
theorem w_c6 : (Jvm.Cond.code ({ cls := "java/lang/String", name := "coder", desc := "()B" } : Jvm.MethodName) jdk_42_method_152_code (1 : Nat) (Option.some Jvm.ClassFile.FieldType.byte)).before args0 about1 = true := code_word (m := ⟨7, 10⟩) (meth := k7m10) (c := k7c10) (by decide +kernel) rfl rfl rfl (by decide +kernel)
set_option maxRecDepth 65536 in
theorem w_c7 : (Jvm.Cond.code ({ cls := "com/example/narrow_lease/narrowlease/LeaseLostException", name := "recordLost", desc := "(Ljava/lang/String;Ljava/lang/String;)Lcom/example/narrow_lease/narrowlease/LeaseLostException;" } : Jvm.MethodName) prog_9_method_3_code (2 : Nat) (Option.some (Jvm.ClassFile.FieldType.object "com/example/narrow_lease/narrowlease/LeaseLostException"))).before args0 about1 = true := code_word (m := ⟨12, 1⟩) (meth := k12m1) (c := k12c1) (by decide +kernel) rfl rfl rfl (by decide +kernel)
set_option maxRecDepth 65536 in
theorem w_c8 : (Jvm.Cond.code ({ cls := "java/lang/StringBuilder", name := "<init>", desc := "()V" } : Jvm.MethodName) jdk_67_method_1_code (1 : Nat) (Option.none : Option Jvm.ClassFile.FieldType)).before args0 about1 = true := code_word (m := ⟨15, 0⟩) (meth := k15m0) (c := k15c0) (by decide +kernel) rfl rfl rfl (by decide +kernel)
set_option maxRecDepth 65536 in
theorem w_c9 : (Jvm.Cond.code ({ cls := "java/lang/AbstractStringBuilder", name := "<init>", desc := "(I)V" } : Jvm.MethodName) jdk_68_method_2_code (2 : Nat) (Option.none : Option Jvm.ClassFile.FieldType)).before args0 about1 = true := code_word (m := ⟨14, 1⟩) (meth := k14m1) (c := k14c1) (by decide +kernel) rfl rfl rfl (by decide +kernel)
set_option maxRecDepth 65536 in
theorem w_c10 : (Jvm.Cond.code ({ cls := "java/lang/StringBuilder", name := "append", desc := "(Ljava/lang/String;)Ljava/lang/StringBuilder;" } : Jvm.MethodName) jdk_67_method_7_code (2 : Nat) (Option.some (Jvm.ClassFile.FieldType.object "java/lang/StringBuilder"))).before args0 about1 = true := code_word (m := ⟨15, 1⟩) (meth := k15m1) (c := k15c1) (by decide +kernel) rfl rfl rfl (by decide +kernel)
set_option maxRecDepth 65536 in
theorem w_c11 : (Jvm.Cond.code ({ cls := "java/lang/AbstractStringBuilder", name := "append", desc := "(Ljava/lang/String;)Ljava/lang/AbstractStringBuilder;" } : Jvm.MethodName) jdk_68_method_22_code (3 : Nat) (Option.some (Jvm.ClassFile.FieldType.object "java/lang/AbstractStringBuilder"))).before args0 about1 = true := code_word (m := ⟨14, 6⟩) (meth := k14m6) (c := k14c6) (by decide +kernel) rfl rfl rfl (by decide +kernel)
set_option maxRecDepth 65536 in
theorem w_c12 : (Jvm.Cond.code ({ cls := "java/lang/AbstractStringBuilder", name := "ensureCapacityInternal", desc := "(I)V" } : Jvm.MethodName) jdk_68_method_9_code (3 : Nat) (Option.none : Option Jvm.ClassFile.FieldType)).before args0 about1 = true := code_word (m := ⟨14, 3⟩) (meth := k14m3) (c := k14c3) (by decide +kernel) rfl rfl rfl (by decide +kernel)
set_option maxRecDepth 65536 in
theorem w_c13 : (Jvm.Cond.code ({ cls := "java/lang/AbstractStringBuilder", name := "putStringAt", desc := "(ILjava/lang/String;)V" } : Jvm.MethodName) jdk_68_method_73_code (3 : Nat) (Option.none : Option Jvm.ClassFile.FieldType)).before args0 about1 = true := code_word (m := ⟨14, 10⟩) (meth := k14m10) (c := k14c10) (by decide +kernel) rfl rfl rfl (by decide +kernel)
set_option maxRecDepth 65536 in
theorem w_c14 : (Jvm.Cond.code ({ cls := "java/lang/AbstractStringBuilder", name := "inflateIfNeededFor", desc := "(Ljava/lang/String;)V" } : Jvm.MethodName) jdk_68_method_71_code (2 : Nat) (Option.none : Option Jvm.ClassFile.FieldType)).before args0 about1 = true := code_word (m := ⟨14, 9⟩) (meth := k14m9) (c := k14c9) (by decide +kernel) rfl rfl rfl (by decide +kernel)
set_option maxRecDepth 65536 in
theorem w_c15 : (Jvm.Cond.code ({ cls := "java/lang/String", name := "getBytes", desc := "([BIB)V" } : Jvm.MethodName) jdk_42_method_147_code (4 : Nat) (Option.none : Option Jvm.ClassFile.FieldType)).before args0 about1 = true := code_word (m := ⟨7, 6⟩) (meth := k7m6) (c := k7c6) (by decide +kernel) rfl rfl rfl (by decide +kernel)
set_option maxRecDepth 65536 in
theorem w_c16 : (Jvm.Cond.code ({ cls := "java/lang/AbstractStringBuilder", name := "newCapacity", desc := "(I)I" } : Jvm.MethodName) jdk_68_method_10_code (6 : Nat) (Option.some Jvm.ClassFile.FieldType.int)).before args0 about1 = true := code_word (m := ⟨14, 4⟩) (meth := k14m4) (c := k14c4) (by decide +kernel) rfl rfl rfl (by decide +kernel)
set_option maxRecDepth 65536 in
theorem w_c17 : (Jvm.Cond.code ({ cls := "jdk/internal/util/ArraysSupport", name := "newLength", desc := "(III)I" } : Jvm.MethodName) jdk_48_method_27_code (4 : Nat) (Option.some Jvm.ClassFile.FieldType.int)).before args0 about1 = true := code_word (m := ⟨17, 1⟩) (meth := k17m1) (c := k17c1) (by decide +kernel) rfl rfl rfl (by decide +kernel)
set_option maxRecDepth 65536 in
theorem w_c18 : (Jvm.Cond.code ({ cls := "java/lang/Math", name := "max", desc := "(II)I" } : Jvm.MethodName) jdk_29_method_65_code (2 : Nat) (Option.some Jvm.ClassFile.FieldType.int)).before args0 about1 = true := code_word (m := ⟨18, 1⟩) (meth := k18m1) (c := k18c1) (by decide +kernel) rfl rfl rfl (by decide +kernel)
set_option maxRecDepth 65536 in
theorem w_c19 : (Jvm.Cond.code ({ cls := "java/util/Arrays", name := "copyOf", desc := "([BI)[B" } : Jvm.MethodName) jdk_65_method_121_code (3 : Nat) (Option.some (Jvm.ClassFile.FieldType.array Jvm.ClassFile.FieldType.byte))).before args0 about1 = true := code_word (m := ⟨19, 1⟩) (meth := k19m1) (c := k19c1) (by decide +kernel) rfl rfl rfl (by decide +kernel)
set_option maxRecDepth 65536 in
theorem w_c20 : (Jvm.Cond.code ({ cls := "java/lang/Math", name := "min", desc := "(II)I" } : Jvm.MethodName) jdk_29_method_69_code (2 : Nat) (Option.some Jvm.ClassFile.FieldType.int)).before args0 about1 = true := code_word (m := ⟨18, 2⟩) (meth := k18m2) (c := k18c2) (by decide +kernel) rfl rfl rfl (by decide +kernel)
set_option maxRecDepth 65536 in
theorem w_c21 : (Jvm.Cond.code ({ cls := "java/lang/StringBuilder", name := "toString", desc := "()Ljava/lang/String;" } : Jvm.MethodName) jdk_67_method_42_code (1 : Nat) (Option.some (Jvm.ClassFile.FieldType.object "java/lang/String"))).before args0 about1 = true := code_word (m := ⟨15, 2⟩) (meth := k15m2) (c := k15c2) (by decide +kernel) rfl rfl rfl (by decide +kernel)
set_option maxRecDepth 65536 in
theorem w_c22 : (Jvm.Cond.code ({ cls := "java/lang/String", name := "<init>", desc := "(Ljava/lang/StringBuilder;)V" } : Jvm.MethodName) jdk_42_method_53_code (2 : Nat) (Option.none : Option Jvm.ClassFile.FieldType)).before args0 about1 = true := code_word (m := ⟨7, 2⟩) (meth := k7m2) (c := k7c2) (by decide +kernel) rfl rfl rfl (by decide +kernel)
set_option maxRecDepth 65536 in
theorem w_c23 : (Jvm.Cond.code ({ cls := "java/lang/String", name := "<init>", desc := "(Ljava/lang/AbstractStringBuilder;Ljava/lang/Void;)V" } : Jvm.MethodName) jdk_42_method_150_code (5 : Nat) (Option.none : Option Jvm.ClassFile.FieldType)).before args0 about1 = true := code_word (m := ⟨7, 8⟩) (meth := k7m8) (c := k7c8) (by decide +kernel) rfl rfl rfl (by decide +kernel)
set_option maxRecDepth 65536 in
theorem w_c24 : (Jvm.Cond.code ({ cls := "java/lang/AbstractStringBuilder", name := "getValue", desc := "()[B" } : Jvm.MethodName) jdk_68_method_64_code (1 : Nat) (Option.some (Jvm.ClassFile.FieldType.array Jvm.ClassFile.FieldType.byte))).before args0 about1 = true := code_word (m := ⟨14, 7⟩) (meth := k14m7) (c := k14c7) (by decide +kernel) rfl rfl rfl (by decide +kernel)
set_option maxRecDepth 65536 in
theorem w_c25 : (Jvm.Cond.code ({ cls := "java/lang/StringBuilder", name := "length", desc := "()I" } : Jvm.MethodName) jdk_67_method_93_code (1 : Nat) (Option.some Jvm.ClassFile.FieldType.int)).before args0 about1 = true := code_word (m := ⟨15, 3⟩) (meth := k15m3) (c := k15c3) (by decide +kernel) rfl rfl rfl (by decide +kernel)
set_option maxRecDepth 65536 in
theorem w_c26 : (Jvm.Cond.code ({ cls := "java/lang/AbstractStringBuilder", name := "length", desc := "()I" } : Jvm.MethodName) jdk_68_method_6_code (1 : Nat) (Option.some Jvm.ClassFile.FieldType.int)).before args0 about1 = true := code_word (m := ⟨14, 2⟩) (meth := k14m2) (c := k14c2) (by decide +kernel) rfl rfl rfl (by decide +kernel)
set_option maxRecDepth 65536 in
theorem w_c27 : (Jvm.Cond.code ({ cls := "java/lang/AbstractStringBuilder", name := "isLatin1", desc := "()Z" } : Jvm.MethodName) jdk_68_method_68_code (1 : Nat) (Option.some Jvm.ClassFile.FieldType.boolean)).before args0 about1 = true := code_word (m := ⟨14, 8⟩) (meth := k14m8) (c := k14c8) (by decide +kernel) rfl rfl rfl (by decide +kernel)
set_option maxRecDepth 65536 in
theorem w_c28 : (Jvm.Cond.code ({ cls := "java/util/Arrays", name := "copyOfRange", desc := "([BII)[B" } : Jvm.MethodName) jdk_65_method_132_code (3 : Nat) (Option.some (Jvm.ClassFile.FieldType.array Jvm.ClassFile.FieldType.byte))).before args0 about1 = true := code_word (m := ⟨19, 3⟩) (meth := k19m3) (c := k19c3) (by decide +kernel) rfl rfl rfl (by decide +kernel)
set_option maxRecDepth 65536 in
theorem w_c29 : (Jvm.Cond.code ({ cls := "com/example/narrow_lease/narrowlease/LeaseLostException", name := "<init>", desc := "(Ljava/lang/String;)V" } : Jvm.MethodName) prog_9_method_1_code (2 : Nat) (Option.none : Option Jvm.ClassFile.FieldType)).before args0 about1 = true := code_word (m := ⟨12, 0⟩) (meth := k12m0) (c := k12c0) (by decide +kernel) rfl rfl rfl (by decide +kernel)
set_option maxRecDepth 65536 in
theorem w_c30 : (Jvm.Cond.code ({ cls := "java/lang/IllegalMonitorStateException", name := "<init>", desc := "(Ljava/lang/String;)V" } : Jvm.MethodName) jdk_2065_method_2_code (2 : Nat) (Option.none : Option Jvm.ClassFile.FieldType)).before args0 about1 = true := code_word (m := ⟨11, 1⟩) (meth := k11m1) (c := k11c1) (by decide +kernel) rfl rfl rfl (by decide +kernel)
set_option maxRecDepth 65536 in
theorem w_c31 : (Jvm.Cond.code ({ cls := "java/lang/RuntimeException", name := "<init>", desc := "(Ljava/lang/String;)V" } : Jvm.MethodName) jdk_58_method_2_code (2 : Nat) (Option.none : Option Jvm.ClassFile.FieldType)).before args0 about1 = true := code_word (m := ⟨10, 1⟩) (meth := k10m1) (c := k10c1) (by decide +kernel) rfl rfl rfl (by decide +kernel)
set_option maxRecDepth 65536 in
theorem w_c32 : (Jvm.Cond.code ({ cls := "java/lang/Exception", name := "<init>", desc := "(Ljava/lang/String;)V" } : Jvm.MethodName) jdk_59_method_2_code (2 : Nat) (Option.none : Option Jvm.ClassFile.FieldType)).before args0 about1 = true := code_word (m := ⟨9, 1⟩) (meth := k9m1) (c := k9c1) (by decide +kernel) rfl rfl rfl (by decide +kernel)
set_option maxRecDepth 65536 in
theorem w_c33 : (Jvm.Cond.code ({ cls := "java/lang/Throwable", name := "<init>", desc := "(Ljava/lang/String;)V" } : Jvm.MethodName) jdk_78_method_2_code (2 : Nat) (Option.none : Option Jvm.ClassFile.FieldType)).before args0 about1 = true := code_word (m := ⟨8, 1⟩) (meth := k8m1) (c := k8c1) (by decide +kernel) rfl rfl rfl (by decide +kernel)
set_option maxRecDepth 65536 in
theorem w_c34 : (Jvm.Cond.code ({ cls := "java/lang/Throwable", name := "<init>", desc := "()V" } : Jvm.MethodName) jdk_78_method_1_code (1 : Nat) (Option.none : Option Jvm.ClassFile.FieldType)).before args0 about1 = true := code_word (m := ⟨8, 0⟩) (meth := k8m0) (c := k8c0) (by decide +kernel) rfl rfl rfl (by decide +kernel)
set_option maxRecDepth 65536 in
theorem w_c35 : (Jvm.Cond.code ({ cls := "java/lang/Throwable", name := "getMessage", desc := "()Ljava/lang/String;" } : Jvm.MethodName) jdk_78_method_6_code (1 : Nat) (Option.some (Jvm.ClassFile.FieldType.object "java/lang/String"))).before args0 about1 = true := code_word (m := ⟨8, 2⟩) (meth := k8m2) (c := k8c2) (by decide +kernel) rfl rfl rfl (by decide +kernel)
set_option maxRecDepth 65536 in
theorem w_c36 : (Jvm.Cond.code ({ cls := "java/lang/String", name := "charAt", desc := "(I)C" } : Jvm.MethodName) jdk_42_method_56_code (2 : Nat) (Option.some Jvm.ClassFile.FieldType.char)).before args0 about1 = true := code_word (m := ⟨7, 4⟩) (meth := k7m4) (c := k7c4) (by decide +kernel) rfl rfl rfl (by decide +kernel)
set_option maxRecDepth 65536 in
theorem w_c37 : (Jvm.Cond.code ({ cls := "java/lang/String", name := "isLatin1", desc := "()Z" } : Jvm.MethodName) jdk_42_method_154_code (1 : Nat) (Option.some Jvm.ClassFile.FieldType.boolean)).before args0 about1 = true := code_word (m := ⟨7, 11⟩) (meth := k7m11) (c := k7c11) (by decide +kernel) rfl rfl rfl (by decide +kernel)
set_option maxRecDepth 65536 in
theorem w_c38 : (Jvm.Cond.code ({ cls := "java/lang/StringLatin1", name := "charAt", desc := "([BI)C" } : Jvm.MethodName) jdk_43_method_2_code (2 : Nat) (Option.some Jvm.ClassFile.FieldType.char)).before args0 about1 = true := code_word (m := ⟨21, 1⟩) (meth := k21m1) (c := k21c1) (by decide +kernel) rfl rfl rfl (by decide +kernel)
set_option maxRecDepth 65536 in
theorem w_c39 : (Jvm.Cond.code ({ cls := "java/lang/String", name := "checkIndex", desc := "(II)V" } : Jvm.MethodName) jdk_42_method_155_code (2 : Nat) (Option.none : Option Jvm.ClassFile.FieldType)).before args0 about1 = true := code_word (m := ⟨7, 12⟩) (meth := k7m12) (c := k7c12) (by decide +kernel) rfl rfl rfl (by decide +kernel)
set_option maxRecDepth 65536 in
theorem w_c40 : (Jvm.Cond.code ({ cls := "jdk/internal/util/Preconditions", name := "checkIndex", desc := "(IILjava/util/function/BiFunction;)I" } : Jvm.MethodName) jdk_41_method_11_code (3 : Nat) (Option.some Jvm.ClassFile.FieldType.int)).before args0 about1 = true := code_word (m := ⟨22, 1⟩) (meth := k22m1) (c := k22c1) (by decide +kernel) rfl rfl rfl (by decide +kernel)
set_option maxRecDepth 65536 in
theorem w_c41 : (Jvm.Cond.code ({ cls := "java/lang/StringUTF16", name := "compress", desc := "([CII)[B" } : Jvm.MethodName) jdk_52_method_16_code (6 : Nat) (Option.some (Jvm.ClassFile.FieldType.array Jvm.ClassFile.FieldType.byte))).before args0 about1 = true := code_word (m := ⟨23, 8⟩) (meth := k23m8) (c := k23c8) (by decide +kernel) rfl rfl rfl (by decide +kernel)
set_option maxRecDepth 65536 in
theorem w_c42 : (Jvm.Cond.code ({ cls := "java/lang/StringUTF16", name := "compress", desc := "([CI[BII)I" } : Jvm.MethodName) jdk_52_method_21_code (7 : Nat) (Option.some Jvm.ClassFile.FieldType.int)).before args0 about1 = true := code_word (m := ⟨23, 9⟩) (meth := k23m9) (c := k23c9) (by decide +kernel) rfl rfl rfl (by decide +kernel)
set_option maxRecDepth 65536 in
theorem w_c43 : (Jvm.Cond.code ({ cls := "java/lang/StringUTF16", name := "coderFromArrayLen", desc := "([BI)B" } : Jvm.MethodName) jdk_52_method_15_code (2 : Nat) (Option.some Jvm.ClassFile.FieldType.byte)).before args0 about1 = true := code_word (m := ⟨23, 7⟩) (meth := k23m7) (c := k23c7) (by decide +kernel) rfl rfl rfl (by decide +kernel)
set_option maxRecDepth 65536 in
theorem w_c44 : (Jvm.Cond.code ({ cls := "java/util/Arrays", name := "copyOfRangeByte", desc := "([BII)[B" } : Jvm.MethodName) jdk_65_method_133_code (5 : Nat) (Option.some (Jvm.ClassFile.FieldType.array Jvm.ClassFile.FieldType.byte))).before args0 about1 = true := code_word (m := ⟨19, 4⟩) (meth := k19m4) (c := k19c4) (by decide +kernel) rfl rfl rfl (by decide +kernel)
set_option maxRecDepth 65536 in
theorem w_c45 : (Jvm.Cond.code ({ cls := "java/util/Arrays", name := "checkLength", desc := "(II)V" } : Jvm.MethodName) jdk_65_method_131_code (2 : Nat) (Option.none : Option Jvm.ClassFile.FieldType)).before args0 about1 = true := code_word (m := ⟨19, 2⟩) (meth := k19m2) (c := k19c2) (by decide +kernel) rfl rfl rfl (by decide +kernel)
set_option maxRecDepth 65536 in
theorem w_c46 : (Jvm.Cond.code ({ cls := "java/lang/String", name := "valueOf", desc := "(C)Ljava/lang/String;" } : Jvm.MethodName) jdk_42_method_139_code (1 : Nat) (Option.some (Jvm.ClassFile.FieldType.object "java/lang/String"))).before args0 about1 = true := code_word (m := ⟨7, 5⟩) (meth := k7m5) (c := k7c5) (by decide +kernel) rfl rfl rfl (by decide +kernel)
set_option maxRecDepth 65536 in
theorem w_c47 : (Jvm.Cond.code ({ cls := "java/lang/StringLatin1", name := "canEncode", desc := "(C)Z" } : Jvm.MethodName) jdk_43_method_3_code (1 : Nat) (Option.some Jvm.ClassFile.FieldType.boolean)).before args0 about1 = true := code_word (m := ⟨21, 2⟩) (meth := k21m2) (c := k21c2) (by decide +kernel) rfl rfl rfl (by decide +kernel)
set_option maxRecDepth 65536 in
theorem w_c48 : (Jvm.Cond.code ({ cls := "java/lang/StringUTF16", name := "toBytes", desc := "(C)[B" } : Jvm.MethodName) jdk_52_method_24_code (2 : Nat) (Option.some (Jvm.ClassFile.FieldType.array Jvm.ClassFile.FieldType.byte))).before args0 about1 = true := code_word (m := ⟨23, 10⟩) (meth := k23m10) (c := k23c10) (by decide +kernel) rfl rfl rfl (by decide +kernel)
set_option maxRecDepth 65536 in
theorem w_c49 : (Jvm.Cond.code ({ cls := "java/lang/StringUTF16", name := "putChar", desc := "([BII)V" } : Jvm.MethodName) jdk_52_method_4_code (3 : Nat) (Option.none : Option Jvm.ClassFile.FieldType)).before args0 about1 = true := code_word (m := ⟨23, 3⟩) (meth := k23m3) (c := k23c3) (by decide +kernel) rfl rfl rfl (by decide +kernel)
set_option maxRecDepth 65536 in
theorem w_c50 : (Jvm.Cond.code ({ cls := "java/lang/String", name := "<init>", desc := "([BB)V" } : Jvm.MethodName) jdk_42_method_151_code (3 : Nat) (Option.none : Option Jvm.ClassFile.FieldType)).before args0 about1 = true := code_word (m := ⟨7, 9⟩) (meth := k7m9) (c := k7c9) (by decide +kernel) rfl rfl rfl (by decide +kernel)
set_option maxRecDepth 65536 in
theorem w_c51 : (Jvm.Cond.code ({ cls := "java/lang/AbstractStringBuilder", name := "inflate", desc := "()V" } : Jvm.MethodName) jdk_68_method_11_code (2 : Nat) (Option.none : Option Jvm.ClassFile.FieldType)).before args0 about1 = true := code_word (m := ⟨14, 5⟩) (meth := k14m5) (c := k14c5) (by decide +kernel) rfl rfl rfl (by decide +kernel)
set_option maxRecDepth 65536 in
theorem w_c52 : (Jvm.Cond.code ({ cls := "java/lang/StringUTF16", name := "newBytesFor", desc := "(I)[B" } : Jvm.MethodName) jdk_52_method_2_code (1 : Nat) (Option.some (Jvm.ClassFile.FieldType.array Jvm.ClassFile.FieldType.byte))).before args0 about1 = true := code_word (m := ⟨23, 1⟩) (meth := k23m1) (c := k23c1) (by decide +kernel) rfl rfl rfl (by decide +kernel)
set_option maxRecDepth 65536 in
theorem w_c53 : (Jvm.Cond.code ({ cls := "java/lang/StringUTF16", name := "newBytesLength", desc := "(I)I" } : Jvm.MethodName) jdk_52_method_3_code (1 : Nat) (Option.some Jvm.ClassFile.FieldType.int)).before args0 about1 = true := code_word (m := ⟨23, 2⟩) (meth := k23m2) (c := k23c2) (by decide +kernel) rfl rfl rfl (by decide +kernel)
set_option maxRecDepth 65536 in
theorem w_c54 : (Jvm.Cond.code ({ cls := "java/lang/StringLatin1", name := "inflate", desc := "([BI[BII)V" } : Jvm.MethodName) jdk_43_method_50_code (5 : Nat) (Option.none : Option Jvm.ClassFile.FieldType)).before args0 about1 = true := code_word (m := ⟨21, 4⟩) (meth := k21m4) (c := k21c4) (by decide +kernel) rfl rfl rfl (by decide +kernel)
set_option maxRecDepth 65536 in
theorem w_c55 : (Jvm.Cond.code ({ cls := "java/lang/StringUTF16", name := "inflate", desc := "([BI[BII)V" } : Jvm.MethodName) jdk_52_method_86_code (6 : Nat) (Option.none : Option Jvm.ClassFile.FieldType)).before args0 about1 = true := code_word (m := ⟨23, 12⟩) (meth := k23m12) (c := k23c12) (by decide +kernel) rfl rfl rfl (by decide +kernel)
set_option maxRecDepth 65536 in
theorem w_c56 : (Jvm.Cond.code ({ cls := "java/lang/StringUTF16", name := "checkBoundsOffCount", desc := "(II[B)V" } : Jvm.MethodName) jdk_52_method_94_code (3 : Nat) (Option.none : Option Jvm.ClassFile.FieldType)).before args0 about1 = true := code_word (m := ⟨23, 14⟩) (meth := k23m14) (c := k23c14) (by decide +kernel) rfl rfl rfl (by decide +kernel)
set_option maxRecDepth 65536 in
theorem w_c57 : (Jvm.Cond.code ({ cls := "java/lang/StringUTF16", name := "length", desc := "([B)I" } : Jvm.MethodName) jdk_52_method_6_code (1 : Nat) (Option.some Jvm.ClassFile.FieldType.int)).before args0 about1 = true := code_word (m := ⟨23, 5⟩) (meth := k23m5) (c := k23c5) (by decide +kernel) rfl rfl rfl (by decide +kernel)
set_option maxRecDepth 65536 in
theorem w_c58 : (Jvm.Cond.code ({ cls := "java/lang/String", name := "checkBoundsOffCount", desc := "(III)I" } : Jvm.MethodName) jdk_42_method_157_code (3 : Nat) (Option.some Jvm.ClassFile.FieldType.int)).before args0 about1 = true := code_word (m := ⟨7, 13⟩) (meth := k7m13) (c := k7c13) (by decide +kernel) rfl rfl rfl (by decide +kernel)
set_option maxRecDepth 65536 in
theorem w_c59 : (Jvm.Cond.code ({ cls := "jdk/internal/util/Preconditions", name := "checkFromIndexSize", desc := "(IIILjava/util/function/BiFunction;)I" } : Jvm.MethodName) jdk_41_method_13_code (4 : Nat) (Option.some Jvm.ClassFile.FieldType.int)).before args0 about1 = true := code_word (m := ⟨22, 2⟩) (meth := k22m2) (c := k22c2) (by decide +kernel) rfl rfl rfl (by decide +kernel)
set_option maxRecDepth 65536 in
theorem w_c60 : (Jvm.Cond.code ({ cls := "java/lang/StringUTF16", name := "charAt", desc := "([BI)C" } : Jvm.MethodName) jdk_52_method_83_code (2 : Nat) (Option.some Jvm.ClassFile.FieldType.char)).before args0 about1 = true := code_word (m := ⟨23, 11⟩) (meth := k23m11) (c := k23c11) (by decide +kernel) rfl rfl rfl (by decide +kernel)
set_option maxRecDepth 65536 in
theorem w_c61 : (Jvm.Cond.code ({ cls := "java/lang/StringUTF16", name := "checkIndex", desc := "(I[B)V" } : Jvm.MethodName) jdk_52_method_91_code (2 : Nat) (Option.none : Option Jvm.ClassFile.FieldType)).before args0 about1 = true := code_word (m := ⟨23, 13⟩) (meth := k23m13) (c := k23c13) (by decide +kernel) rfl rfl rfl (by decide +kernel)
set_option maxRecDepth 65536 in
theorem w_c62 : (Jvm.Cond.code ({ cls := "java/lang/StringUTF16", name := "getChar", desc := "([BI)C" } : Jvm.MethodName) jdk_52_method_5_code (2 : Nat) (Option.some Jvm.ClassFile.FieldType.char)).before args0 about1 = true := code_word (m := ⟨23, 4⟩) (meth := k23m4) (c := k23c4) (by decide +kernel) rfl rfl rfl (by decide +kernel)
set_option maxRecDepth 65536 in
theorem w_c63 : (Jvm.Cond.code ({ cls := "java/lang/StringUTF16", name := "toBytes", desc := "([CII)[B" } : Jvm.MethodName) jdk_52_method_14_code (5 : Nat) (Option.some (Jvm.ClassFile.FieldType.array Jvm.ClassFile.FieldType.byte))).before args0 about1 = true := code_word (m := ⟨23, 6⟩) (meth := k23m6) (c := k23c6) (by decide +kernel) rfl rfl rfl (by decide +kernel)
set_option maxRecDepth 65536 in
theorem w_c64 : (Jvm.Cond.code ({ cls := "java/lang/StringLatin1", name := "toBytes", desc := "(C)[B" } : Jvm.MethodName) jdk_43_method_46_code (1 : Nat) (Option.some (Jvm.ClassFile.FieldType.array Jvm.ClassFile.FieldType.byte))).before args0 about1 = true := code_word (m := ⟨21, 3⟩) (meth := k21m3) (c := k21c3) (by decide +kernel) rfl rfl rfl (by decide +kernel)
def codes1 : List Jvm.Cond := [Jvm.Cond.code x code maxLocals ret, Jvm.Cond.code ({ cls := "com/example/narrow_lease/narrowlease/LeaseLostExceptionRecordLostPinLaw", name := "mk", desc := "(ICC)Ljava/lang/String;" } : Jvm.MethodName) method_2_code (3 : Nat) (Option.some (Jvm.ClassFile.FieldType.object "java/lang/String")), Jvm.Cond.code ({ cls := "java/lang/String", name := "<init>", desc := "([C)V" } : Jvm.MethodName) jdk_42_method_3_code (2 : Nat) (Option.none : Option Jvm.ClassFile.FieldType), Jvm.Cond.code ({ cls := "java/lang/String", name := "<init>", desc := "([CIILjava/lang/Void;)V" } : Jvm.MethodName) jdk_42_method_149_code (6 : Nat) (Option.none : Option Jvm.ClassFile.FieldType), Jvm.Cond.code ({ cls := "java/lang/Object", name := "<init>", desc := "()V" } : Jvm.MethodName) object_method_1_code (1 : Nat) (Option.none : Option Jvm.ClassFile.FieldType), Jvm.Cond.code ({ cls := "java/lang/String", name := "length", desc := "()I" } : Jvm.MethodName) jdk_42_method_54_code (1 : Nat) (Option.some Jvm.ClassFile.FieldType.int), Jvm.Cond.code ({ cls := "java/lang/String", name := "coder", desc := "()B" } : Jvm.MethodName) jdk_42_method_152_code (1 : Nat) (Option.some Jvm.ClassFile.FieldType.byte), Jvm.Cond.code ({ cls := "com/example/narrow_lease/narrowlease/LeaseLostException", name := "recordLost", desc := "(Ljava/lang/String;Ljava/lang/String;)Lcom/example/narrow_lease/narrowlease/LeaseLostException;" } : Jvm.MethodName) prog_9_method_3_code (2 : Nat) (Option.some (Jvm.ClassFile.FieldType.object "com/example/narrow_lease/narrowlease/LeaseLostException")), Jvm.Cond.code ({ cls := "java/lang/StringBuilder", name := "<init>", desc := "()V" } : Jvm.MethodName) jdk_67_method_1_code (1 : Nat) (Option.none : Option Jvm.ClassFile.FieldType), Jvm.Cond.code ({ cls := "java/lang/AbstractStringBuilder", name := "<init>", desc := "(I)V" } : Jvm.MethodName) jdk_68_method_2_code (2 : Nat) (Option.none : Option Jvm.ClassFile.FieldType), Jvm.Cond.code ({ cls := "java/lang/StringBuilder", name := "append", desc := "(Ljava/lang/String;)Ljava/lang/StringBuilder;" } : Jvm.MethodName) jdk_67_method_7_code (2 : Nat) (Option.some (Jvm.ClassFile.FieldType.object "java/lang/StringBuilder")), Jvm.Cond.code ({ cls := "java/lang/AbstractStringBuilder", name := "append", desc := "(Ljava/lang/String;)Ljava/lang/AbstractStringBuilder;" } : Jvm.MethodName) jdk_68_method_22_code (3 : Nat) (Option.some (Jvm.ClassFile.FieldType.object "java/lang/AbstractStringBuilder")), Jvm.Cond.code ({ cls := "java/lang/AbstractStringBuilder", name := "ensureCapacityInternal", desc := "(I)V" } : Jvm.MethodName) jdk_68_method_9_code (3 : Nat) (Option.none : Option Jvm.ClassFile.FieldType), Jvm.Cond.code ({ cls := "java/lang/AbstractStringBuilder", name := "putStringAt", desc := "(ILjava/lang/String;)V" } : Jvm.MethodName) jdk_68_method_73_code (3 : Nat) (Option.none : Option Jvm.ClassFile.FieldType), Jvm.Cond.code ({ cls := "java/lang/AbstractStringBuilder", name := "inflateIfNeededFor", desc := "(Ljava/lang/String;)V" } : Jvm.MethodName) jdk_68_method_71_code (2 : Nat) (Option.none : Option Jvm.ClassFile.FieldType), Jvm.Cond.code ({ cls := "java/lang/String", name := "getBytes", desc := "([BIB)V" } : Jvm.MethodName) jdk_42_method_147_code (4 : Nat) (Option.none : Option Jvm.ClassFile.FieldType), Jvm.Cond.code ({ cls := "java/lang/AbstractStringBuilder", name := "newCapacity", desc := "(I)I" } : Jvm.MethodName) jdk_68_method_10_code (6 : Nat) (Option.some Jvm.ClassFile.FieldType.int), Jvm.Cond.code ({ cls := "jdk/internal/util/ArraysSupport", name := "newLength", desc := "(III)I" } : Jvm.MethodName) jdk_48_method_27_code (4 : Nat) (Option.some Jvm.ClassFile.FieldType.int), Jvm.Cond.code ({ cls := "java/lang/Math", name := "max", desc := "(II)I" } : Jvm.MethodName) jdk_29_method_65_code (2 : Nat) (Option.some Jvm.ClassFile.FieldType.int), Jvm.Cond.code ({ cls := "java/util/Arrays", name := "copyOf", desc := "([BI)[B" } : Jvm.MethodName) jdk_65_method_121_code (3 : Nat) (Option.some (Jvm.ClassFile.FieldType.array Jvm.ClassFile.FieldType.byte)), Jvm.Cond.code ({ cls := "java/lang/Math", name := "min", desc := "(II)I" } : Jvm.MethodName) jdk_29_method_69_code (2 : Nat) (Option.some Jvm.ClassFile.FieldType.int), Jvm.Cond.code ({ cls := "java/lang/StringBuilder", name := "toString", desc := "()Ljava/lang/String;" } : Jvm.MethodName) jdk_67_method_42_code (1 : Nat) (Option.some (Jvm.ClassFile.FieldType.object "java/lang/String")), Jvm.Cond.code ({ cls := "java/lang/String", name := "<init>", desc := "(Ljava/lang/StringBuilder;)V" } : Jvm.MethodName) jdk_42_method_53_code (2 : Nat) (Option.none : Option Jvm.ClassFile.FieldType), Jvm.Cond.code ({ cls := "java/lang/String", name := "<init>", desc := "(Ljava/lang/AbstractStringBuilder;Ljava/lang/Void;)V" } : Jvm.MethodName) jdk_42_method_150_code (5 : Nat) (Option.none : Option Jvm.ClassFile.FieldType), Jvm.Cond.code ({ cls := "java/lang/AbstractStringBuilder", name := "getValue", desc := "()[B" } : Jvm.MethodName) jdk_68_method_64_code (1 : Nat) (Option.some (Jvm.ClassFile.FieldType.array Jvm.ClassFile.FieldType.byte)), Jvm.Cond.code ({ cls := "java/lang/StringBuilder", name := "length", desc := "()I" } : Jvm.MethodName) jdk_67_method_93_code (1 : Nat) (Option.some Jvm.ClassFile.FieldType.int), Jvm.Cond.code ({ cls := "java/lang/AbstractStringBuilder", name := "length", desc := "()I" } : Jvm.MethodName) jdk_68_method_6_code (1 : Nat) (Option.some Jvm.ClassFile.FieldType.int), Jvm.Cond.code ({ cls := "java/lang/AbstractStringBuilder", name := "isLatin1", desc := "()Z" } : Jvm.MethodName) jdk_68_method_68_code (1 : Nat) (Option.some Jvm.ClassFile.FieldType.boolean), Jvm.Cond.code ({ cls := "java/util/Arrays", name := "copyOfRange", desc := "([BII)[B" } : Jvm.MethodName) jdk_65_method_132_code (3 : Nat) (Option.some (Jvm.ClassFile.FieldType.array Jvm.ClassFile.FieldType.byte)), Jvm.Cond.code ({ cls := "com/example/narrow_lease/narrowlease/LeaseLostException", name := "<init>", desc := "(Ljava/lang/String;)V" } : Jvm.MethodName) prog_9_method_1_code (2 : Nat) (Option.none : Option Jvm.ClassFile.FieldType), Jvm.Cond.code ({ cls := "java/lang/IllegalMonitorStateException", name := "<init>", desc := "(Ljava/lang/String;)V" } : Jvm.MethodName) jdk_2065_method_2_code (2 : Nat) (Option.none : Option Jvm.ClassFile.FieldType), Jvm.Cond.code ({ cls := "java/lang/RuntimeException", name := "<init>", desc := "(Ljava/lang/String;)V" } : Jvm.MethodName) jdk_58_method_2_code (2 : Nat) (Option.none : Option Jvm.ClassFile.FieldType), Jvm.Cond.code ({ cls := "java/lang/Exception", name := "<init>", desc := "(Ljava/lang/String;)V" } : Jvm.MethodName) jdk_59_method_2_code (2 : Nat) (Option.none : Option Jvm.ClassFile.FieldType), Jvm.Cond.code ({ cls := "java/lang/Throwable", name := "<init>", desc := "(Ljava/lang/String;)V" } : Jvm.MethodName) jdk_78_method_2_code (2 : Nat) (Option.none : Option Jvm.ClassFile.FieldType), Jvm.Cond.code ({ cls := "java/lang/Throwable", name := "<init>", desc := "()V" } : Jvm.MethodName) jdk_78_method_1_code (1 : Nat) (Option.none : Option Jvm.ClassFile.FieldType), Jvm.Cond.code ({ cls := "java/lang/Throwable", name := "getMessage", desc := "()Ljava/lang/String;" } : Jvm.MethodName) jdk_78_method_6_code (1 : Nat) (Option.some (Jvm.ClassFile.FieldType.object "java/lang/String")), Jvm.Cond.code ({ cls := "java/lang/String", name := "charAt", desc := "(I)C" } : Jvm.MethodName) jdk_42_method_56_code (2 : Nat) (Option.some Jvm.ClassFile.FieldType.char), Jvm.Cond.code ({ cls := "java/lang/String", name := "isLatin1", desc := "()Z" } : Jvm.MethodName) jdk_42_method_154_code (1 : Nat) (Option.some Jvm.ClassFile.FieldType.boolean), Jvm.Cond.code ({ cls := "java/lang/StringLatin1", name := "charAt", desc := "([BI)C" } : Jvm.MethodName) jdk_43_method_2_code (2 : Nat) (Option.some Jvm.ClassFile.FieldType.char), Jvm.Cond.code ({ cls := "java/lang/String", name := "checkIndex", desc := "(II)V" } : Jvm.MethodName) jdk_42_method_155_code (2 : Nat) (Option.none : Option Jvm.ClassFile.FieldType), Jvm.Cond.code ({ cls := "jdk/internal/util/Preconditions", name := "checkIndex", desc := "(IILjava/util/function/BiFunction;)I" } : Jvm.MethodName) jdk_41_method_11_code (3 : Nat) (Option.some Jvm.ClassFile.FieldType.int), Jvm.Cond.code ({ cls := "java/lang/StringUTF16", name := "compress", desc := "([CII)[B" } : Jvm.MethodName) jdk_52_method_16_code (6 : Nat) (Option.some (Jvm.ClassFile.FieldType.array Jvm.ClassFile.FieldType.byte)), Jvm.Cond.code ({ cls := "java/lang/StringUTF16", name := "compress", desc := "([CI[BII)I" } : Jvm.MethodName) jdk_52_method_21_code (7 : Nat) (Option.some Jvm.ClassFile.FieldType.int), Jvm.Cond.code ({ cls := "java/lang/StringUTF16", name := "coderFromArrayLen", desc := "([BI)B" } : Jvm.MethodName) jdk_52_method_15_code (2 : Nat) (Option.some Jvm.ClassFile.FieldType.byte), Jvm.Cond.code ({ cls := "java/util/Arrays", name := "copyOfRangeByte", desc := "([BII)[B" } : Jvm.MethodName) jdk_65_method_133_code (5 : Nat) (Option.some (Jvm.ClassFile.FieldType.array Jvm.ClassFile.FieldType.byte)), Jvm.Cond.code ({ cls := "java/util/Arrays", name := "checkLength", desc := "(II)V" } : Jvm.MethodName) jdk_65_method_131_code (2 : Nat) (Option.none : Option Jvm.ClassFile.FieldType), Jvm.Cond.code ({ cls := "java/lang/String", name := "valueOf", desc := "(C)Ljava/lang/String;" } : Jvm.MethodName) jdk_42_method_139_code (1 : Nat) (Option.some (Jvm.ClassFile.FieldType.object "java/lang/String")), Jvm.Cond.code ({ cls := "java/lang/StringLatin1", name := "canEncode", desc := "(C)Z" } : Jvm.MethodName) jdk_43_method_3_code (1 : Nat) (Option.some Jvm.ClassFile.FieldType.boolean), Jvm.Cond.code ({ cls := "java/lang/StringUTF16", name := "toBytes", desc := "(C)[B" } : Jvm.MethodName) jdk_52_method_24_code (2 : Nat) (Option.some (Jvm.ClassFile.FieldType.array Jvm.ClassFile.FieldType.byte)), Jvm.Cond.code ({ cls := "java/lang/StringUTF16", name := "putChar", desc := "([BII)V" } : Jvm.MethodName) jdk_52_method_4_code (3 : Nat) (Option.none : Option Jvm.ClassFile.FieldType), Jvm.Cond.code ({ cls := "java/lang/String", name := "<init>", desc := "([BB)V" } : Jvm.MethodName) jdk_42_method_151_code (3 : Nat) (Option.none : Option Jvm.ClassFile.FieldType), Jvm.Cond.code ({ cls := "java/lang/AbstractStringBuilder", name := "inflate", desc := "()V" } : Jvm.MethodName) jdk_68_method_11_code (2 : Nat) (Option.none : Option Jvm.ClassFile.FieldType), Jvm.Cond.code ({ cls := "java/lang/StringUTF16", name := "newBytesFor", desc := "(I)[B" } : Jvm.MethodName) jdk_52_method_2_code (1 : Nat) (Option.some (Jvm.ClassFile.FieldType.array Jvm.ClassFile.FieldType.byte)), Jvm.Cond.code ({ cls := "java/lang/StringUTF16", name := "newBytesLength", desc := "(I)I" } : Jvm.MethodName) jdk_52_method_3_code (1 : Nat) (Option.some Jvm.ClassFile.FieldType.int), Jvm.Cond.code ({ cls := "java/lang/StringLatin1", name := "inflate", desc := "([BI[BII)V" } : Jvm.MethodName) jdk_43_method_50_code (5 : Nat) (Option.none : Option Jvm.ClassFile.FieldType), Jvm.Cond.code ({ cls := "java/lang/StringUTF16", name := "inflate", desc := "([BI[BII)V" } : Jvm.MethodName) jdk_52_method_86_code (6 : Nat) (Option.none : Option Jvm.ClassFile.FieldType), Jvm.Cond.code ({ cls := "java/lang/StringUTF16", name := "checkBoundsOffCount", desc := "(II[B)V" } : Jvm.MethodName) jdk_52_method_94_code (3 : Nat) (Option.none : Option Jvm.ClassFile.FieldType), Jvm.Cond.code ({ cls := "java/lang/StringUTF16", name := "length", desc := "([B)I" } : Jvm.MethodName) jdk_52_method_6_code (1 : Nat) (Option.some Jvm.ClassFile.FieldType.int), Jvm.Cond.code ({ cls := "java/lang/String", name := "checkBoundsOffCount", desc := "(III)I" } : Jvm.MethodName) jdk_42_method_157_code (3 : Nat) (Option.some Jvm.ClassFile.FieldType.int), Jvm.Cond.code ({ cls := "jdk/internal/util/Preconditions", name := "checkFromIndexSize", desc := "(IIILjava/util/function/BiFunction;)I" } : Jvm.MethodName) jdk_41_method_13_code (4 : Nat) (Option.some Jvm.ClassFile.FieldType.int), Jvm.Cond.code ({ cls := "java/lang/StringUTF16", name := "charAt", desc := "([BI)C" } : Jvm.MethodName) jdk_52_method_83_code (2 : Nat) (Option.some Jvm.ClassFile.FieldType.char), Jvm.Cond.code ({ cls := "java/lang/StringUTF16", name := "checkIndex", desc := "(I[B)V" } : Jvm.MethodName) jdk_52_method_91_code (2 : Nat) (Option.none : Option Jvm.ClassFile.FieldType), Jvm.Cond.code ({ cls := "java/lang/StringUTF16", name := "getChar", desc := "([BI)C" } : Jvm.MethodName) jdk_52_method_5_code (2 : Nat) (Option.some Jvm.ClassFile.FieldType.char), Jvm.Cond.code ({ cls := "java/lang/StringUTF16", name := "toBytes", desc := "([CII)[B" } : Jvm.MethodName) jdk_52_method_14_code (5 : Nat) (Option.some (Jvm.ClassFile.FieldType.array Jvm.ClassFile.FieldType.byte)), Jvm.Cond.code ({ cls := "java/lang/StringLatin1", name := "toBytes", desc := "(C)[B" } : Jvm.MethodName) jdk_43_method_46_code (1 : Nat) (Option.some (Jvm.ClassFile.FieldType.array Jvm.ClassFile.FieldType.byte))]
set_option maxRecDepth 65536 in
theorem codes_eq : words1.filter isCode = codes1 := rfl
theorem w_codes : ∀ c ∈ words1.filter isCode, c.before args0 about1 = true := by
  rw [codes_eq]
  intro c hc
  simp only [codes1, List.mem_cons, List.not_mem_nil, or_false] at hc
  rcases hc with rfl | rfl | rfl | rfl | rfl | rfl | rfl | rfl | rfl | rfl | rfl | rfl | rfl | rfl | rfl | rfl | rfl | rfl | rfl | rfl | rfl | rfl | rfl | rfl | rfl | rfl | rfl | rfl | rfl | rfl | rfl | rfl | rfl | rfl | rfl | rfl | rfl | rfl | rfl | rfl | rfl | rfl | rfl | rfl | rfl | rfl | rfl | rfl | rfl | rfl | rfl | rfl | rfl | rfl | rfl | rfl | rfl | rfl | rfl | rfl | rfl | rfl | rfl | rfl | rfl
  · exact w_c0
  · exact w_c1
  · exact w_c2
  · exact w_c3
  · exact w_c4
  · exact w_c5
  · exact w_c6
  · exact w_c7
  · exact w_c8
  · exact w_c9
  · exact w_c10
  · exact w_c11
  · exact w_c12
  · exact w_c13
  · exact w_c14
  · exact w_c15
  · exact w_c16
  · exact w_c17
  · exact w_c18
  · exact w_c19
  · exact w_c20
  · exact w_c21
  · exact w_c22
  · exact w_c23
  · exact w_c24
  · exact w_c25
  · exact w_c26
  · exact w_c27
  · exact w_c28
  · exact w_c29
  · exact w_c30
  · exact w_c31
  · exact w_c32
  · exact w_c33
  · exact w_c34
  · exact w_c35
  · exact w_c36
  · exact w_c37
  · exact w_c38
  · exact w_c39
  · exact w_c40
  · exact w_c41
  · exact w_c42
  · exact w_c43
  · exact w_c44
  · exact w_c45
  · exact w_c46
  · exact w_c47
  · exact w_c48
  · exact w_c49
  · exact w_c50
  · exact w_c51
  · exact w_c52
  · exact w_c53
  · exact w_c54
  · exact w_c55
  · exact w_c56
  · exact w_c57
  · exact w_c58
  · exact w_c59
  · exact w_c60
  · exact w_c61
  · exact w_c62
  · exact w_c63
  · exact w_c64
set_option maxRecDepth 65536 in
theorem w_t1 : (words1.take 24).all (fun c => isCode c || c.before args0 about1) = true := by decide +kernel
set_option maxRecDepth 65536 in
theorem w_t2 : ((words1.drop 24).take 24).all (fun c => isCode c || c.before args0 about1) = true := by decide +kernel
set_option maxRecDepth 65536 in
theorem w_t3 : (((words1.drop 24).drop 24).take 24).all (fun c => isCode c || c.before args0 about1) = true := by decide +kernel
set_option maxRecDepth 65536 in
theorem w_t4 : ((((words1.drop 24).drop 24).drop 24).take 24).all (fun c => isCode c || c.before args0 about1) = true := by decide +kernel
set_option maxRecDepth 65536 in
theorem w_t5 : (((((words1.drop 24).drop 24).drop 24).drop 24).take 24).all (fun c => isCode c || c.before args0 about1) = true := by decide +kernel
set_option maxRecDepth 65536 in
theorem w_t6 : ((((((words1.drop 24).drop 24).drop 24).drop 24).drop 24).take 24).all (fun c => isCode c || c.before args0 about1) = true := by decide +kernel
set_option maxRecDepth 65536 in
theorem w_t7 : (((((((words1.drop 24).drop 24).drop 24).drop 24).drop 24).drop 24).take 24).all (fun c => isCode c || c.before args0 about1) = true := by decide +kernel
set_option maxRecDepth 65536 in
theorem w_t8 : ((((((((words1.drop 24).drop 24).drop 24).drop 24).drop 24).drop 24).drop 24).take 24).all (fun c => isCode c || c.before args0 about1) = true := by decide +kernel
set_option maxRecDepth 65536 in
theorem w_t9 : (((((((((words1.drop 24).drop 24).drop 24).drop 24).drop 24).drop 24).drop 24).drop 24).take 24).all (fun c => isCode c || c.before args0 about1) = true := by decide +kernel
set_option maxRecDepth 65536 in
theorem w_t10 : ((((((((((words1.drop 24).drop 24).drop 24).drop 24).drop 24).drop 24).drop 24).drop 24).drop 24).take 24).all (fun c => isCode c || c.before args0 about1) = true := by decide +kernel
set_option maxRecDepth 65536 in
theorem w_t11 : (((((((((((words1.drop 24).drop 24).drop 24).drop 24).drop 24).drop 24).drop 24).drop 24).drop 24).drop 24).take 24).all (fun c => isCode c || c.before args0 about1) = true := by decide +kernel
set_option maxRecDepth 65536 in
theorem w_t12 : ((((((((((((words1.drop 24).drop 24).drop 24).drop 24).drop 24).drop 24).drop 24).drop 24).drop 24).drop 24).drop 24).take 24).all (fun c => isCode c || c.before args0 about1) = true := by decide +kernel
set_option maxRecDepth 65536 in
theorem w_t13 : (((((((((((((words1.drop 24).drop 24).drop 24).drop 24).drop 24).drop 24).drop 24).drop 24).drop 24).drop 24).drop 24).drop 24).take 24).all (fun c => isCode c || c.before args0 about1) = true := by decide +kernel
set_option maxRecDepth 65536 in
theorem w_t14 : ((((((((((((((words1.drop 24).drop 24).drop 24).drop 24).drop 24).drop 24).drop 24).drop 24).drop 24).drop 24).drop 24).drop 24).drop 24).take 24).all (fun c => isCode c || c.before args0 about1) = true := by decide +kernel
set_option maxRecDepth 65536 in
theorem w_t15 : ((((((((((((((words1.drop 24).drop 24).drop 24).drop 24).drop 24).drop 24).drop 24).drop 24).drop 24).drop 24).drop 24).drop 24).drop 24).drop 24).all (fun c => isCode c || c.before args0 about1) = true := by decide +kernel
theorem w_tables : (allAtoms (Jvm.Cond.code x code maxLocals ret :: tables_1)).before args0 about1 = true := by
  rw [allAtoms_all]
  show words1.all (fun c => c.before args0 about1) = true
  refine all_split ?_ w_codes
  rw [← List.take_append_drop 24 words1, List.all_append, w_t1, ← List.take_append_drop 24 (words1.drop 24), List.all_append, w_t2, ← List.take_append_drop 24 ((words1.drop 24).drop 24), List.all_append, w_t3, ← List.take_append_drop 24 (((words1.drop 24).drop 24).drop 24), List.all_append, w_t4, ← List.take_append_drop 24 ((((words1.drop 24).drop 24).drop 24).drop 24), List.all_append, w_t5, ← List.take_append_drop 24 (((((words1.drop 24).drop 24).drop 24).drop 24).drop 24), List.all_append, w_t6, ← List.take_append_drop 24 ((((((words1.drop 24).drop 24).drop 24).drop 24).drop 24).drop 24), List.all_append, w_t7, ← List.take_append_drop 24 (((((((words1.drop 24).drop 24).drop 24).drop 24).drop 24).drop 24).drop 24), List.all_append, w_t8, ← List.take_append_drop 24 ((((((((words1.drop 24).drop 24).drop 24).drop 24).drop 24).drop 24).drop 24).drop 24), List.all_append, w_t9, ← List.take_append_drop 24 (((((((((words1.drop 24).drop 24).drop 24).drop 24).drop 24).drop 24).drop 24).drop 24).drop 24), List.all_append, w_t10, ← List.take_append_drop 24 ((((((((((words1.drop 24).drop 24).drop 24).drop 24).drop 24).drop 24).drop 24).drop 24).drop 24).drop 24), List.all_append, w_t11, ← List.take_append_drop 24 (((((((((((words1.drop 24).drop 24).drop 24).drop 24).drop 24).drop 24).drop 24).drop 24).drop 24).drop 24).drop 24), List.all_append, w_t12, ← List.take_append_drop 24 ((((((((((((words1.drop 24).drop 24).drop 24).drop 24).drop 24).drop 24).drop 24).drop 24).drop 24).drop 24).drop 24).drop 24), List.all_append, w_t13, ← List.take_append_drop 24 (((((((((((((words1.drop 24).drop 24).drop 24).drop 24).drop 24).drop 24).drop 24).drop 24).drop 24).drop 24).drop 24).drop 24).drop 24), List.all_append, w_t14, w_t15]
  rfl
set_option maxRecDepth 65536 in
theorem w_rest : rest_1_c.before args0 about1 = true := by decide +kernel
set_option maxRecDepth 65536 in
theorem w_case : (Jvm.Cond.and given_1 narrow_1).before args0 about1 = true := by decide +kernel
set_option maxRecDepth 65536 in
theorem w_consts : constsHeld consts_1 about1 := Jvm.Lit.constsHeldB_iff.mp (by decide +kernel)
theorem w_applies : (headSpec (Jvm.Cond.code x code maxLocals ret :: tables_1) room_1).applies x e0.platform about1 = true :=
  (Spec.applies_iff w_frames).mpr ⟨w_running, w_runnable, w_alone, w_named, w_hears, w_ripe, w_room, w_tables⟩
theorem atStart : AtStart classFile x code maxLocals ret World_1 tables_1 room_1 Calls_1 rest_1 Pre_1 launch0 p0 e0 about1 theMethod args0 below0 :=
  ⟨lists_1, trivial, launch0.admits_env _ _ _, launch0.least_env, fairChoices_fair.cas, fairChoices_fair.clock, w_frames, w_args, w_heap, w_applies, ⟨(by decide +kernel : framesKnown about1 = true), ⟨(by decide +kernel : tablesKnown about1 = true), ⟨w_consts, trivial⟩⟩⟩, w_rest, w_case⟩
end start1
theorem witness_1 : WitnessClaimed_1 := ⟨start1.p0, start1.e0, start1.about1, start1.theMethod, start1.args0, start1.below0, start1.atStart⟩
end Jvm.Pilot.@@N@@
