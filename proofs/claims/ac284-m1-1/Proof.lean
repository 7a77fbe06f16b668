import JvmDerived
import JvmDerived.Pilot.@@N@@Statement
import JvmDerived.Pilot.@@N@@Code
set_option linter.unusedVariables false
set_option linter.unusedSimpArgs false
namespace Jvm.RoadKit
open Sem ClassFile Op Lib Jvm.Stand Jvm.Free Jvm.LawKit
section New
variable {p : Program} {l : Launch} {e : Env} {R : Room} {s : State} {m : MethodId} {args : Array Value} {below : List Frame} {meth : Method} {c : Code} {T : State} {locs : List Loc} {cells slots : Nat}
theorem retI (X : Stand p l e R s m args below meth c T locs cells slots) (hx : p.tables.exec = Jvm.exec) {pc : Nat} {Ls : Array Slot} {z : Int32} {rest : List Value} (hret : meth.sig.returnType = some .int) (hd : decode c.code pc = .ok (.ireturn, 1)) {fs : List Frame}
    (hl : ∀ (f : JFrame) (acts : List Action), f.method = m → f.locked = none → f.entered = [] → (doReturn e (T.setTop f) acts (some (.int z))).1 = T.setFrames fs) : Steps p.tables e below (T.setTop (mkF m pc Ls (.int z :: rest))) (T.setFrames fs) := by
  have hm' : T.vm.method? m = some meth := X.method'
  have hn : narrow .int (.int z) = .int z := rfl
  show Steps p.tables e below (T.setTop { method := m, pc := pc, locals := Ls, stack := _ :: rest, locked := none }) _
  jvm_step X.here [X.here.top, hx, hd, hm', hret, hn]
  first | (intro acts; rw [hl _ acts rfl rfl rfl]) | rw [hl _ _ rfl rfl rfl]
  exact Steps.refl _
end New
end Jvm.RoadKit
namespace Jvm.Pilot.@@N@@
open Jvm Jvm.ClassFile Sem Op Lib Jvm.Free Jvm.Stand Jvm.LawKit Jvm.RoadKit Bundle Jvm.Pilot.@@N@@.Jvm.D

def hF (k : Nat) (p : Int32) : Int32 := match k with
  | 0 => if p < 0 then 0 else 1
  | 1 => if 0 < p then 1 else 0
  | 2 => if p < 0 then 1 else 0
  | _ => if 0 < p then 0 else 1
def bitF (t k : Int32) : Int32 := if (t >>> (k &&& 31)) &&& 1 = 0 then 0 else 1
theorem own_n {p : Int32} (h : p < 0) : ¬ 0 < p := by rw [Int32.lt_iff_toInt_lt] at *; omega
theorem own_p {p : Int32} (h : ¬ p < 0) (g : ¬ p = 0) : 0 < p := by
  rw [Int32.lt_iff_toInt_lt] at *
  rw [← Int32.toInt_inj] at g
  have : (0 : Int32).toInt = 0 := by decide
  omega
def Qo (k : Int32) (h0 : Heap) (n0 : Nat) (v : Option Value) (h : Heap) (L : List Loc) : Prop := v = some (.int k) ∧ Fr n0 L ∧ h = h0
def Q0 (n0 : Nat) (v : Option Value) (h : Heap) (L : List Loc) : Prop := v = some (.int 1) ∧ Fr n0 L

theorem pn0 : plainName "java/lang/Enum" = true := by first | (simp [plainName, overriddenIn]; done) | decide +kernel
theorem d2_0 : decode jdk_37_method_2_code 0 = .ok (.aload_n 0, 1) := by decide +kernel
theorem d2_1 : decode jdk_37_method_2_code 1 = .ok (.getfield 7, 3) := by decide +kernel
theorem d2_4 : decode jdk_37_method_2_code 4 = .ok (.ireturn, 1) := by decide +kernel
theorem ef_rmo (m : MethodId) (x0 : Addr) : entryFrame m #[(.ref x0)] 1 = mkF m 0 #[.val (.ref x0)] [] := by first | (simp [entryFrame, mkF, argsToLocals, Value.category]; done) | rfl
set_option maxRecDepth 65536 in
set_option maxHeartbeats 40000000 in
theorem rmo (l : Launch) (Z : State) (a0 : Array Value) (hw : ∀ d ∈ tables_1, d.before a0 Z = true) (ws : List Jvm.Cond) (a1 : Addr) (k : Int32) (h0 : Heap) (n0 : Nat) (O0 : Old Z n0 h0) (F_ord : Fld Z Z.heap a1 "java/lang/Enum" "ordinal" "I" (.int k)) :
    MetFree l (⟨"java/lang/Enum", "ordinal", "()I"⟩ : MethodName) (head1 (Jvm.Cond.code (⟨"java/lang/Enum", "ordinal", "()I"⟩ : MethodName) jdk_37_method_2_code 1 (some .int) :: ws) ({ frames := 0, cells := 0, slots := 0, locals := 0 } : Room)) (fun a U => a = #[(.ref a1)] ∧ Z.Warmed39 U.vm ∧ U.heap = h0) (fun _ _ _ _ _ => True) (fun _ U o U' => ∃ v L, o = .returned v ∧ Qo k h0 n0 v U'.heap L ∧ FrameEnd U o U' L ({ frames := 0, cells := 0, slots := 0, locals := 0 } : Room).cells ({ frames := 0, cells := 0, slots := 0, locals := 0 } : Room).slots) := by
  refine MetFree.of_bodySF (plainFor_of_name pn0) hisR ?_
  intro p e s m args below meth c s₁ Bd hml0 hP hK
  obtain ⟨rfl, hZ, hh⟩ := hP
  have hx := Bd.exec
  have hby := Bd.bytes
  have hml : c.maxLocals = 1 := hml0
  have hown : s.vm.findClass "java/lang/Enum" = some m.cls := findClass_of_methodNamed Bd.named
  have hnm := (name_of_methodNamed Bd.named Bd.method).1
  have X0 : Stand p l e ({ frames := 0, cells := 0, slots := 0, locals := 0 } : Room) s m #[(.ref a1)] below meth c s₁ [] 0 0 := Stand.of_body Bd
  have e0 : s₁.heap = h0 := by rw [← hh, Bd.state]; rfl
  have N0 := Fr.nil n0
  have pre0 : ∀ t, Steps p.tables e below (s₁.setTop (mkF m 0 #[.val (.ref a1)] [])) t → Steps p.tables e below (s₁.setTop (entryFrame m #[(.ref a1)] 1)) t := fun t k => castTop (ef_rmo m a1) k
  obtain ⟨T1, X1, e1, st1⟩ := getF X0 hx hZ hown (host := "") (Or.inl (hw _ (List.mem_of_getElem? (i := 15) rfl))) Via.refl e0 (F_ord.ext O0.2) (g := (mkF m 1 #[.val (.ref a1)] [(.ref a1)])) rfl rfl (hb hby d2_1)
  obtain ⟨fs, hr, hrun, hended, hW, hsame⟩ := X1.leave (v := some (.int k)) (fun h => by rw [Bd.returns] at h; cases h)
  refine ⟨_, _, pre0 _ ?_, hrun, hended, _, _, rfl, ?_, ⟨_, rfl⟩, hW, hsame.mono (by decide) (by decide)⟩
  · show Steps p.tables e below (s₁.setTop (mkF m 0 #[.val (.ref a1)] [])) _
    refine XS.aloadN X0.here hx rfl (hb hby d2_0) rfl rfl ?_
    show Steps p.tables e below (s₁.setTop (mkF m 1 #[.val (.ref a1)] [(.ref a1)])) _
    refine st1 _ ?_
    show Steps p.tables e below (T1.setTop (mkF m 4 #[.val (.ref a1)] [(.int k)])) _
    exact retI X1 hx Bd.returns (hb hby d2_4) hr
  · show Qo k h0 n0 _ T1.heap _
    rw [e1]
    exact ⟨rfl, N0, rfl⟩
theorem pn1 : plainName "com/example/downtally/downtally/contract/ComparisonHoldsPinLaw" = true := by first | (simp [plainName, overriddenIn]; done) | decide +kernel
theorem d3_0 : decode method_3_code 0 = .ok (.iload_n 0, 1) := by decide +kernel
theorem d3_1 : decode method_3_code 1 = .ok (.iload_n 1, 1) := by decide +kernel
theorem d3_2 : decode method_3_code 2 = .ok (.ishr, 1) := by decide +kernel
theorem d3_3 : decode method_3_code 3 = .ok (.iconst 1, 1) := by decide +kernel
theorem d3_4 : decode method_3_code 4 = .ok (.iand, 1) := by decide +kernel
theorem d3_5 : decode method_3_code 5 = .ok (.ifCond .eq 7, 3) := by decide +kernel
theorem d3_12 : decode method_3_code 12 = .ok (.iconst 0, 1) := by decide +kernel
theorem d3_13 : decode method_3_code 13 = .ok (.ireturn, 1) := by decide +kernel
theorem d3_8 : decode method_3_code 8 = .ok (.iconst 1, 1) := by decide +kernel
theorem d3_9 : decode method_3_code 9 = .ok (.goto 4, 3) := by decide +kernel
theorem ef_rmb (m : MethodId) (x0 : Int32) (x1 : Int32) : entryFrame m #[(.int x0), (.int x1)] 2 = mkF m 0 #[.val (.int x0), .val (.int x1)] [] := by first | (simp [entryFrame, mkF, argsToLocals, Value.category]; done) | rfl
set_option maxRecDepth 65536 in
set_option maxHeartbeats 40000000 in
theorem rmb (l : Launch) (Z : State) (a0 : Array Value) (hw : ∀ d ∈ tables_1, d.before a0 Z = true) (ws : List Jvm.Cond) (p1 : Int32) (p2 : Int32) (h0 : Heap) (n0 : Nat) (O0 : Old Z n0 h0)  :
    MetFree l (⟨"com/example/downtally/downtally/contract/ComparisonHoldsPinLaw", "bit", "(II)Z"⟩ : MethodName) (head1 (Jvm.Cond.code (⟨"com/example/downtally/downtally/contract/ComparisonHoldsPinLaw", "bit", "(II)Z"⟩ : MethodName) method_3_code 2 (some .boolean) :: ws) ({ frames := 0, cells := 0, slots := 0, locals := 0 } : Room)) (fun a U => a = #[(.int p1), (.int p2)] ∧ Z.Warmed39 U.vm ∧ U.heap = h0) (fun _ _ _ _ _ => True) (fun _ U o U' => ∃ v L, o = .returned v ∧ Qo (bitF p1 p2) h0 n0 v U'.heap L ∧ FrameEnd U o U' L ({ frames := 0, cells := 0, slots := 0, locals := 0 } : Room).cells ({ frames := 0, cells := 0, slots := 0, locals := 0 } : Room).slots) := by
  refine MetFree.of_bodySF (plainFor_of_name pn1) hisR ?_
  intro p e s m args below meth c s₁ Bd hml0 hP hK
  obtain ⟨rfl, hZ, hh⟩ := hP
  have hx := Bd.exec
  have hby := Bd.bytes
  have hml : c.maxLocals = 2 := hml0
  have hown : s.vm.findClass "com/example/downtally/downtally/contract/ComparisonHoldsPinLaw" = some m.cls := findClass_of_methodNamed Bd.named
  have hnm := (name_of_methodNamed Bd.named Bd.method).1
  have X0 : Stand p l e ({ frames := 0, cells := 0, slots := 0, locals := 0 } : Room) s m #[(.int p1), (.int p2)] below meth c s₁ [] 0 0 := Stand.of_body Bd
  have e0 : s₁.heap = h0 := by rw [← hh, Bd.state]; rfl
  have N0 := Fr.nil n0
  have pre0 : ∀ t, Steps p.tables e below (s₁.setTop (mkF m 0 #[.val (.int p1), .val (.int p2)] [])) t → Steps p.tables e below (s₁.setTop (entryFrame m #[(.int p1), (.int p2)] 2)) t := fun t k => castTop (ef_rmb m p1 p2) k
  by_cases hc5 : ((p1 >>> (p2 &&& 31)) &&& (1 : Int32)) = (0 : Int32)
  · obtain ⟨fs, hr, hrun, hended, hW, hsame⟩ := X0.leave (v := some (.int (0 : Int32))) (fun h => by rw [Bd.returns] at h; cases h)
    refine ⟨_, _, pre0 _ ?_, hrun, hended, _, _, rfl, ?_, ⟨_, rfl⟩, hW, hsame.mono (by decide) (by decide)⟩
    · show Steps p.tables e below (s₁.setTop (mkF m 0 #[.val (.int p1), .val (.int p2)] [])) _
      refine XS.iloadN X0.here hx rfl (hb hby d3_0) rfl ?_
      show Steps p.tables e below (s₁.setTop (mkF m 1 #[.val (.int p1), .val (.int p2)] [(.int p1)])) _
      refine XS.iloadN X0.here hx rfl (hb hby d3_1) rfl ?_
      show Steps p.tables e below (s₁.setTop (mkF m 2 #[.val (.int p1), .val (.int p2)] [(.int p2), (.int p1)])) _
      refine XS.ishr X0.here hx rfl (hb hby d3_2) rfl ?_
      show Steps p.tables e below (s₁.setTop (mkF m 3 #[.val (.int p1), .val (.int p2)] [(.int (p1 >>> (p2 &&& 31)))])) _
      refine XS.iconst X0.here hx rfl (hb hby d3_3) ?_
      show Steps p.tables e below (s₁.setTop (mkF m 4 #[.val (.int p1), .val (.int p2)] [(.int (1 : Int32)), (.int (p1 >>> (p2 &&& 31)))])) _
      refine XS.iand X0.here hx rfl (hb hby d3_4) rfl ?_
      show Steps p.tables e below (s₁.setTop (mkF m 5 #[.val (.int p1), .val (.int p2)] [(.int ((p1 >>> (p2 &&& 31)) &&& (1 : Int32)))])) _
      refine XS.ifYes X0.here hx rfl (pc0 := 5) (pc' := 12) rfl (hb hby d3_5) rfl ((if0 _ _).trans (teq hc5).1) (by decide) (by decide) ?_
      show Steps p.tables e below (s₁.setTop (mkF m 12 #[.val (.int p1), .val (.int p2)] [])) _
      refine XS.iconst X0.here hx rfl (hb hby d3_12) ?_
      show Steps p.tables e below (s₁.setTop (mkF m 13 #[.val (.int p1), .val (.int p2)] [(.int (0 : Int32))])) _
      exact retN X0 hx (t := .boolean) Bd.returns (by simp) (hb hby d3_13) hr
    · show Qo (bitF p1 p2) h0 n0 _ s₁.heap _
      rw [e0]
      exact ⟨by rw [bitF, if_pos hc5], N0, rfl⟩
  · obtain ⟨fs, hr, hrun, hended, hW, hsame⟩ := X0.leave (v := some (.int (1 : Int32))) (fun h => by rw [Bd.returns] at h; cases h)
    refine ⟨_, _, pre0 _ ?_, hrun, hended, _, _, rfl, ?_, ⟨_, rfl⟩, hW, hsame.mono (by decide) (by decide)⟩
    · show Steps p.tables e below (s₁.setTop (mkF m 0 #[.val (.int p1), .val (.int p2)] [])) _
      refine XS.iloadN X0.here hx rfl (hb hby d3_0) rfl ?_
      show Steps p.tables e below (s₁.setTop (mkF m 1 #[.val (.int p1), .val (.int p2)] [(.int p1)])) _
      refine XS.iloadN X0.here hx rfl (hb hby d3_1) rfl ?_
      show Steps p.tables e below (s₁.setTop (mkF m 2 #[.val (.int p1), .val (.int p2)] [(.int p2), (.int p1)])) _
      refine XS.ishr X0.here hx rfl (hb hby d3_2) rfl ?_
      show Steps p.tables e below (s₁.setTop (mkF m 3 #[.val (.int p1), .val (.int p2)] [(.int (p1 >>> (p2 &&& 31)))])) _
      refine XS.iconst X0.here hx rfl (hb hby d3_3) ?_
      show Steps p.tables e below (s₁.setTop (mkF m 4 #[.val (.int p1), .val (.int p2)] [(.int (1 : Int32)), (.int (p1 >>> (p2 &&& 31)))])) _
      refine XS.iand X0.here hx rfl (hb hby d3_4) rfl ?_
      show Steps p.tables e below (s₁.setTop (mkF m 5 #[.val (.int p1), .val (.int p2)] [(.int ((p1 >>> (p2 &&& 31)) &&& (1 : Int32)))])) _
      refine XS.ifNo X0.here hx rfl (hb hby d3_5) rfl ((if0 _ _).trans (feq hc5).1) ?_
      show Steps p.tables e below (s₁.setTop (mkF m 8 #[.val (.int p1), .val (.int p2)] [])) _
      refine XS.iconst X0.here hx rfl (hb hby d3_8) ?_
      show Steps p.tables e below (s₁.setTop (mkF m 9 #[.val (.int p1), .val (.int p2)] [(.int (1 : Int32))])) _
      refine XS.goto X0.here hx rfl (pc0 := 9) (pc' := 13) rfl (hb hby d3_9) (by decide) (by decide) ?_
      show Steps p.tables e below (s₁.setTop (mkF m 13 #[.val (.int p1), .val (.int p2)] [(.int (1 : Int32))])) _
      exact retN X0 hx (t := .boolean) Bd.returns (by simp) (hb hby d3_13) hr
    · show Qo (bitF p1 p2) h0 n0 _ s₁.heap _
      rw [e0]
      exact ⟨by rw [bitF, if_neg hc5], N0, rfl⟩
theorem pn2 : plainName "com/example/downtally/downtally/contract/Threshold$Comparison" = true := by first | (simp [plainName, overriddenIn]; done) | decide +kernel
theorem d1_0 : decode prog_43_method_4_code 0 = .ok (.aload_n 0, 1) := by decide +kernel
theorem d1_1 : decode prog_43_method_4_code 1 = .ok (.invokevirtual 35, 3) := by decide +kernel
theorem pd0 : parseMethodDescriptor "()I" = some ⟨[], some .int⟩ := by decide +kernel
theorem d1_4 : decode prog_43_method_4_code 4 = .ok (.tableswitch 32 0 3 #[42, 54, 66, 78], 32) := by decide +kernel
theorem d1_46 : decode prog_43_method_4_code 46 = .ok (.iload_n 1, 1) := by decide +kernel
theorem d1_47 : decode prog_43_method_4_code 47 = .ok (.ifCond .lt 7, 3) := by decide +kernel
theorem d1_54 : decode prog_43_method_4_code 54 = .ok (.iconst 0, 1) := by decide +kernel
theorem d1_55 : decode prog_43_method_4_code 55 = .ok (.goto 36, 3) := by decide +kernel
theorem d1_91 : decode prog_43_method_4_code 91 = .ok (.ireturn, 1) := by decide +kernel
theorem d1_50 : decode prog_43_method_4_code 50 = .ok (.iconst 1, 1) := by decide +kernel
theorem d1_51 : decode prog_43_method_4_code 51 = .ok (.goto 40, 3) := by decide +kernel
theorem ef_rmh0 (m : MethodId) (x0 : Addr) (x1 : Int32) : entryFrame m #[(.ref x0), (.int x1)] 2 = mkF m 0 #[.val (.ref x0), .val (.int x1)] [] := by first | (simp [entryFrame, mkF, argsToLocals, Value.category]; done) | rfl
set_option maxRecDepth 65536 in
set_option maxHeartbeats 40000000 in
theorem rmh0 (l : Launch) (Z : State) (a0 : Array Value) (hw : ∀ d ∈ tables_1, d.before a0 Z = true) (ws : List Jvm.Cond) (a1 : Addr) (p1 : Int32) (h0 : Heap) (n0 : Nat) (O0 : Old Z n0 h0) (E_a : Exa Z Z.heap a1 "com/example/downtally/downtally/contract/Threshold$Comparison") (F_ord : Fld Z Z.heap a1 "java/lang/Enum" "ordinal" "I" (.int (0 : Int32))) :
    MetFree l (⟨"com/example/downtally/downtally/contract/Threshold$Comparison", "holds", "(I)Z"⟩ : MethodName) (head1 (Jvm.Cond.code (⟨"com/example/downtally/downtally/contract/Threshold$Comparison", "holds", "(I)Z"⟩ : MethodName) prog_43_method_4_code 2 (some .boolean) :: ws) ({ frames := 1, cells := 0, slots := 0, locals := 12 } : Room)) (fun a U => a = #[(.ref a1), (.int p1)] ∧ Z.Warmed39 U.vm ∧ U.heap = h0) (fun _ _ _ _ _ => True) (fun _ U o U' => ∃ v L, o = .returned v ∧ Qo (hF 0 p1) h0 n0 v U'.heap L ∧ FrameEnd U o U' L ({ frames := 1, cells := 0, slots := 0, locals := 12 } : Room).cells ({ frames := 1, cells := 0, slots := 0, locals := 12 } : Room).slots) := by
  refine MetFree.of_bodySF (plainFor_of_name pn2) hisR ?_
  intro p e s m args below meth c s₁ Bd hml0 hP hK
  obtain ⟨rfl, hZ, hh⟩ := hP
  have hx := Bd.exec
  have hby := Bd.bytes
  have hml : c.maxLocals = 2 := hml0
  have hown : s.vm.findClass "com/example/downtally/downtally/contract/Threshold$Comparison" = some m.cls := findClass_of_methodNamed Bd.named
  have hnm := (name_of_methodNamed Bd.named Bd.method).1
  have X0 : Stand p l e ({ frames := 1, cells := 0, slots := 0, locals := 12 } : Room) s m #[(.ref a1), (.int p1)] below meth c s₁ [] 0 0 := Stand.of_body Bd
  have e0 : s₁.heap = h0 := by rw [← hh, Bd.state]; rfl
  have N0 := Fr.nil n0
  have pre0 : ∀ t, Steps p.tables e below (s₁.setTop (mkF m 0 #[.val (.ref a1), .val (.int p1)] [])) t → Steps p.tables e below (s₁.setTop (entryFrame m #[(.ref a1), (.int p1)] 2)) t := fun t k => castTop (ef_rmh0 m a1 p1) k
  obtain ⟨cq1, kq1, qa1, qb1, qc1⟩ := isOf hZ e0 (E_a.ext O0.2)
  obtain ⟨_, _, ⟨T1, L1, k1, n1⟩, -, X1, ⟨Lc1, hQ1, l1, y1, z1⟩, st1⟩ := X0.virtualBackUp hx (x := (⟨"com/example/downtally/downtally/contract/Threshold$Comparison", "ordinal", "()I"⟩ : MethodName)) (y := (⟨"java/lang/Enum", "ordinal", "()I"⟩ : MethodName)) (owner := "java/lang/Enum") hown (mvT hZ (hw _ (List.mem_of_getElem? (i := 8) rfl))) (mvT hZ (hw _ (List.mem_of_getElem? (i := 9) rfl))) (mvT hZ (hw _ (List.mem_of_getElem? (i := 10) rfl))) (by decide) (mvT hZ (hw _ (List.mem_of_getElem? (i := 12) rfl))) (mvT hZ (hw _ (List.mem_of_getElem? (i := 11) rfl))) (backOf (W := 0) (rmo l Z a0 hw [] a1 (0 : Int32) h0 n0 O0 F_ord) hZ (hw _ (List.mem_of_getElem? (i := 14) rfl)) (hw _ (List.mem_of_getElem? (i := 13) rfl)) (by decide) (by decide)) qa1 qc1 (g := (mkF m 1 #[.val (.ref a1), .val (.int p1)] [(.ref a1)])) rfl (by rw [hml]; rfl) (Steps.refl _) (argsL := []) (rest := []) (lenOf pd0 rfl) rfl (by show 2 * 0 + _ ≤ _; exact Nat.le_of_eq rfl) (hb hby d1_1) (fun _ _ => ⟨rfl, e0, (by decide : 0 + 0 ≤ _), (by decide : 0 + 0 ≤ _)⟩)
  dsimp only [Pt.U, Pt.locs, Pt.cells, Pt.slots] at X1 l1 y1 z1 st1 hQ1
  subst l1 y1 z1
  obtain ⟨rfl, Nq1, e1⟩ := hQ1
  have N1 := Fr.app N0 Nq1
  by_cases hc47 : p1 < (0 : Int32)
  · obtain ⟨fs, hr, hrun, hended, hW, hsame⟩ := X1.leave (v := some (.int (0 : Int32))) (fun h => by rw [Bd.returns] at h; cases h)
    refine ⟨_, _, pre0 _ ?_, hrun, hended, _, _, rfl, ?_, ⟨_, rfl⟩, hW, hsame.mono (by decide) (by decide)⟩
    · show Steps p.tables e below (s₁.setTop (mkF m 0 #[.val (.ref a1), .val (.int p1)] [])) _
      refine XS.aloadN X0.here hx rfl (hb hby d1_0) rfl rfl ?_
      show Steps p.tables e below (s₁.setTop (mkF m 1 #[.val (.ref a1), .val (.int p1)] [(.ref a1)])) _
      refine st1.trans ?_
      show Steps p.tables e below (T1.setTop (mkF m 4 #[.val (.ref a1), .val (.int p1)] [(.int (0 : Int32))])) _
      refine XS.tswIn X1.here hx rfl (pc0 := 4) (pc' := 46) (o := 42) rfl (hb hby d1_4) rfl (by decide) (by decide) (by decide) (by decide) ?_
      show Steps p.tables e below (T1.setTop (mkF m 46 #[.val (.ref a1), .val (.int p1)] [])) _
      refine XS.iloadN X1.here hx rfl (hb hby d1_46) rfl ?_
      show Steps p.tables e below (T1.setTop (mkF m 47 #[.val (.ref a1), .val (.int p1)] [(.int p1)])) _
      refine XS.ifYes X1.here hx rfl (pc0 := 47) (pc' := 54) rfl (hb hby d1_47) rfl ((if0 _ _).trans (tlt hc47).1) (by decide) (by decide) ?_
      show Steps p.tables e below (T1.setTop (mkF m 54 #[.val (.ref a1), .val (.int p1)] [])) _
      refine XS.iconst X1.here hx rfl (hb hby d1_54) ?_
      show Steps p.tables e below (T1.setTop (mkF m 55 #[.val (.ref a1), .val (.int p1)] [(.int (0 : Int32))])) _
      refine XS.goto X1.here hx rfl (pc0 := 55) (pc' := 91) rfl (hb hby d1_55) (by decide) (by decide) ?_
      show Steps p.tables e below (T1.setTop (mkF m 91 #[.val (.ref a1), .val (.int p1)] [(.int (0 : Int32))])) _
      exact retN X1 hx (t := .boolean) Bd.returns (by simp) (hb hby d1_91) hr
    · show Qo (hF 0 p1) h0 n0 _ T1.heap _
      rw [e1]
      exact ⟨by simp only [hF]; rw [if_pos hc47], N1, rfl⟩
  · obtain ⟨fs, hr, hrun, hended, hW, hsame⟩ := X1.leave (v := some (.int (1 : Int32))) (fun h => by rw [Bd.returns] at h; cases h)
    refine ⟨_, _, pre0 _ ?_, hrun, hended, _, _, rfl, ?_, ⟨_, rfl⟩, hW, hsame.mono (by decide) (by decide)⟩
    · show Steps p.tables e below (s₁.setTop (mkF m 0 #[.val (.ref a1), .val (.int p1)] [])) _
      refine XS.aloadN X0.here hx rfl (hb hby d1_0) rfl rfl ?_
      show Steps p.tables e below (s₁.setTop (mkF m 1 #[.val (.ref a1), .val (.int p1)] [(.ref a1)])) _
      refine st1.trans ?_
      show Steps p.tables e below (T1.setTop (mkF m 4 #[.val (.ref a1), .val (.int p1)] [(.int (0 : Int32))])) _
      refine XS.tswIn X1.here hx rfl (pc0 := 4) (pc' := 46) (o := 42) rfl (hb hby d1_4) rfl (by decide) (by decide) (by decide) (by decide) ?_
      show Steps p.tables e below (T1.setTop (mkF m 46 #[.val (.ref a1), .val (.int p1)] [])) _
      refine XS.iloadN X1.here hx rfl (hb hby d1_46) rfl ?_
      show Steps p.tables e below (T1.setTop (mkF m 47 #[.val (.ref a1), .val (.int p1)] [(.int p1)])) _
      refine XS.ifNo X1.here hx rfl (hb hby d1_47) rfl ((if0 _ _).trans (flt hc47).1) ?_
      show Steps p.tables e below (T1.setTop (mkF m 50 #[.val (.ref a1), .val (.int p1)] [])) _
      refine XS.iconst X1.here hx rfl (hb hby d1_50) ?_
      show Steps p.tables e below (T1.setTop (mkF m 51 #[.val (.ref a1), .val (.int p1)] [(.int (1 : Int32))])) _
      refine XS.goto X1.here hx rfl (pc0 := 51) (pc' := 91) rfl (hb hby d1_51) (by decide) (by decide) ?_
      show Steps p.tables e below (T1.setTop (mkF m 91 #[.val (.ref a1), .val (.int p1)] [(.int (1 : Int32))])) _
      exact retN X1 hx (t := .boolean) Bd.returns (by simp) (hb hby d1_91) hr
    · show Qo (hF 0 p1) h0 n0 _ T1.heap _
      rw [e1]
      exact ⟨by simp only [hF]; rw [if_neg hc47], N1, rfl⟩
theorem d1_58 : decode prog_43_method_4_code 58 = .ok (.iload_n 1, 1) := by decide +kernel
theorem d1_59 : decode prog_43_method_4_code 59 = .ok (.ifCond .le 7, 3) := by decide +kernel
theorem d1_62 : decode prog_43_method_4_code 62 = .ok (.iconst 1, 1) := by decide +kernel
theorem d1_63 : decode prog_43_method_4_code 63 = .ok (.goto 28, 3) := by decide +kernel
theorem d1_66 : decode prog_43_method_4_code 66 = .ok (.iconst 0, 1) := by decide +kernel
theorem d1_67 : decode prog_43_method_4_code 67 = .ok (.goto 24, 3) := by decide +kernel
theorem ef_rmh1 (m : MethodId) (x0 : Addr) (x1 : Int32) : entryFrame m #[(.ref x0), (.int x1)] 2 = mkF m 0 #[.val (.ref x0), .val (.int x1)] [] := by first | (simp [entryFrame, mkF, argsToLocals, Value.category]; done) | rfl
set_option maxRecDepth 65536 in
set_option maxHeartbeats 40000000 in
theorem rmh1 (l : Launch) (Z : State) (a0 : Array Value) (hw : ∀ d ∈ tables_1, d.before a0 Z = true) (ws : List Jvm.Cond) (a1 : Addr) (p1 : Int32) (h0 : Heap) (n0 : Nat) (O0 : Old Z n0 h0) (E_a : Exa Z Z.heap a1 "com/example/downtally/downtally/contract/Threshold$Comparison") (F_ord : Fld Z Z.heap a1 "java/lang/Enum" "ordinal" "I" (.int (1 : Int32))) :
    MetFree l (⟨"com/example/downtally/downtally/contract/Threshold$Comparison", "holds", "(I)Z"⟩ : MethodName) (head1 (Jvm.Cond.code (⟨"com/example/downtally/downtally/contract/Threshold$Comparison", "holds", "(I)Z"⟩ : MethodName) prog_43_method_4_code 2 (some .boolean) :: ws) ({ frames := 1, cells := 0, slots := 0, locals := 12 } : Room)) (fun a U => a = #[(.ref a1), (.int p1)] ∧ Z.Warmed39 U.vm ∧ U.heap = h0) (fun _ _ _ _ _ => True) (fun _ U o U' => ∃ v L, o = .returned v ∧ Qo (hF 1 p1) h0 n0 v U'.heap L ∧ FrameEnd U o U' L ({ frames := 1, cells := 0, slots := 0, locals := 12 } : Room).cells ({ frames := 1, cells := 0, slots := 0, locals := 12 } : Room).slots) := by
  refine MetFree.of_bodySF (plainFor_of_name pn2) hisR ?_
  intro p e s m args below meth c s₁ Bd hml0 hP hK
  obtain ⟨rfl, hZ, hh⟩ := hP
  have hx := Bd.exec
  have hby := Bd.bytes
  have hml : c.maxLocals = 2 := hml0
  have hown : s.vm.findClass "com/example/downtally/downtally/contract/Threshold$Comparison" = some m.cls := findClass_of_methodNamed Bd.named
  have hnm := (name_of_methodNamed Bd.named Bd.method).1
  have X0 : Stand p l e ({ frames := 1, cells := 0, slots := 0, locals := 12 } : Room) s m #[(.ref a1), (.int p1)] below meth c s₁ [] 0 0 := Stand.of_body Bd
  have e0 : s₁.heap = h0 := by rw [← hh, Bd.state]; rfl
  have N0 := Fr.nil n0
  have pre0 : ∀ t, Steps p.tables e below (s₁.setTop (mkF m 0 #[.val (.ref a1), .val (.int p1)] [])) t → Steps p.tables e below (s₁.setTop (entryFrame m #[(.ref a1), (.int p1)] 2)) t := fun t k => castTop (ef_rmh1 m a1 p1) k
  obtain ⟨cq1, kq1, qa1, qb1, qc1⟩ := isOf hZ e0 (E_a.ext O0.2)
  obtain ⟨_, _, ⟨T1, L1, k1, n1⟩, -, X1, ⟨Lc1, hQ1, l1, y1, z1⟩, st1⟩ := X0.virtualBackUp hx (x := (⟨"com/example/downtally/downtally/contract/Threshold$Comparison", "ordinal", "()I"⟩ : MethodName)) (y := (⟨"java/lang/Enum", "ordinal", "()I"⟩ : MethodName)) (owner := "java/lang/Enum") hown (mvT hZ (hw _ (List.mem_of_getElem? (i := 8) rfl))) (mvT hZ (hw _ (List.mem_of_getElem? (i := 9) rfl))) (mvT hZ (hw _ (List.mem_of_getElem? (i := 10) rfl))) (by decide) (mvT hZ (hw _ (List.mem_of_getElem? (i := 12) rfl))) (mvT hZ (hw _ (List.mem_of_getElem? (i := 11) rfl))) (backOf (W := 0) (rmo l Z a0 hw [] a1 (1 : Int32) h0 n0 O0 F_ord) hZ (hw _ (List.mem_of_getElem? (i := 14) rfl)) (hw _ (List.mem_of_getElem? (i := 13) rfl)) (by decide) (by decide)) qa1 qc1 (g := (mkF m 1 #[.val (.ref a1), .val (.int p1)] [(.ref a1)])) rfl (by rw [hml]; rfl) (Steps.refl _) (argsL := []) (rest := []) (lenOf pd0 rfl) rfl (by show 2 * 0 + _ ≤ _; exact Nat.le_of_eq rfl) (hb hby d1_1) (fun _ _ => ⟨rfl, e0, (by decide : 0 + 0 ≤ _), (by decide : 0 + 0 ≤ _)⟩)
  dsimp only [Pt.U, Pt.locs, Pt.cells, Pt.slots] at X1 l1 y1 z1 st1 hQ1
  subst l1 y1 z1
  obtain ⟨rfl, Nq1, e1⟩ := hQ1
  have N1 := Fr.app N0 Nq1
  by_cases hc59 : (0 : Int32) < p1
  · obtain ⟨fs, hr, hrun, hended, hW, hsame⟩ := X1.leave (v := some (.int (1 : Int32))) (fun h => by rw [Bd.returns] at h; cases h)
    refine ⟨_, _, pre0 _ ?_, hrun, hended, _, _, rfl, ?_, ⟨_, rfl⟩, hW, hsame.mono (by decide) (by decide)⟩
    · show Steps p.tables e below (s₁.setTop (mkF m 0 #[.val (.ref a1), .val (.int p1)] [])) _
      refine XS.aloadN X0.here hx rfl (hb hby d1_0) rfl rfl ?_
      show Steps p.tables e below (s₁.setTop (mkF m 1 #[.val (.ref a1), .val (.int p1)] [(.ref a1)])) _
      refine st1.trans ?_
      show Steps p.tables e below (T1.setTop (mkF m 4 #[.val (.ref a1), .val (.int p1)] [(.int (1 : Int32))])) _
      refine XS.tswIn X1.here hx rfl (pc0 := 4) (pc' := 58) (o := 54) rfl (hb hby d1_4) rfl (by decide) (by decide) (by decide) (by decide) ?_
      show Steps p.tables e below (T1.setTop (mkF m 58 #[.val (.ref a1), .val (.int p1)] [])) _
      refine XS.iloadN X1.here hx rfl (hb hby d1_58) rfl ?_
      show Steps p.tables e below (T1.setTop (mkF m 59 #[.val (.ref a1), .val (.int p1)] [(.int p1)])) _
      refine XS.ifNo X1.here hx rfl (hb hby d1_59) rfl ((if0 _ _).trans (tlt hc59).2.2.2) ?_
      show Steps p.tables e below (T1.setTop (mkF m 62 #[.val (.ref a1), .val (.int p1)] [])) _
      refine XS.iconst X1.here hx rfl (hb hby d1_62) ?_
      show Steps p.tables e below (T1.setTop (mkF m 63 #[.val (.ref a1), .val (.int p1)] [(.int (1 : Int32))])) _
      refine XS.goto X1.here hx rfl (pc0 := 63) (pc' := 91) rfl (hb hby d1_63) (by decide) (by decide) ?_
      show Steps p.tables e below (T1.setTop (mkF m 91 #[.val (.ref a1), .val (.int p1)] [(.int (1 : Int32))])) _
      exact retN X1 hx (t := .boolean) Bd.returns (by simp) (hb hby d1_91) hr
    · show Qo (hF 1 p1) h0 n0 _ T1.heap _
      rw [e1]
      exact ⟨by simp only [hF]; rw [if_pos hc59], N1, rfl⟩
  · obtain ⟨fs, hr, hrun, hended, hW, hsame⟩ := X1.leave (v := some (.int (0 : Int32))) (fun h => by rw [Bd.returns] at h; cases h)
    refine ⟨_, _, pre0 _ ?_, hrun, hended, _, _, rfl, ?_, ⟨_, rfl⟩, hW, hsame.mono (by decide) (by decide)⟩
    · show Steps p.tables e below (s₁.setTop (mkF m 0 #[.val (.ref a1), .val (.int p1)] [])) _
      refine XS.aloadN X0.here hx rfl (hb hby d1_0) rfl rfl ?_
      show Steps p.tables e below (s₁.setTop (mkF m 1 #[.val (.ref a1), .val (.int p1)] [(.ref a1)])) _
      refine st1.trans ?_
      show Steps p.tables e below (T1.setTop (mkF m 4 #[.val (.ref a1), .val (.int p1)] [(.int (1 : Int32))])) _
      refine XS.tswIn X1.here hx rfl (pc0 := 4) (pc' := 58) (o := 54) rfl (hb hby d1_4) rfl (by decide) (by decide) (by decide) (by decide) ?_
      show Steps p.tables e below (T1.setTop (mkF m 58 #[.val (.ref a1), .val (.int p1)] [])) _
      refine XS.iloadN X1.here hx rfl (hb hby d1_58) rfl ?_
      show Steps p.tables e below (T1.setTop (mkF m 59 #[.val (.ref a1), .val (.int p1)] [(.int p1)])) _
      refine XS.ifYes X1.here hx rfl (pc0 := 59) (pc' := 66) rfl (hb hby d1_59) rfl ((if0 _ _).trans (flt hc59).2.2.2) (by decide) (by decide) ?_
      show Steps p.tables e below (T1.setTop (mkF m 66 #[.val (.ref a1), .val (.int p1)] [])) _
      refine XS.iconst X1.here hx rfl (hb hby d1_66) ?_
      show Steps p.tables e below (T1.setTop (mkF m 67 #[.val (.ref a1), .val (.int p1)] [(.int (0 : Int32))])) _
      refine XS.goto X1.here hx rfl (pc0 := 67) (pc' := 91) rfl (hb hby d1_67) (by decide) (by decide) ?_
      show Steps p.tables e below (T1.setTop (mkF m 91 #[.val (.ref a1), .val (.int p1)] [(.int (0 : Int32))])) _
      exact retN X1 hx (t := .boolean) Bd.returns (by simp) (hb hby d1_91) hr
    · show Qo (hF 1 p1) h0 n0 _ T1.heap _
      rw [e1]
      exact ⟨by simp only [hF]; rw [if_neg hc59], N1, rfl⟩
theorem d1_70 : decode prog_43_method_4_code 70 = .ok (.iload_n 1, 1) := by decide +kernel
theorem d1_71 : decode prog_43_method_4_code 71 = .ok (.ifCond .ge 7, 3) := by decide +kernel
theorem d1_74 : decode prog_43_method_4_code 74 = .ok (.iconst 1, 1) := by decide +kernel
theorem d1_75 : decode prog_43_method_4_code 75 = .ok (.goto 16, 3) := by decide +kernel
theorem d1_78 : decode prog_43_method_4_code 78 = .ok (.iconst 0, 1) := by decide +kernel
theorem d1_79 : decode prog_43_method_4_code 79 = .ok (.goto 12, 3) := by decide +kernel
theorem ef_rmh2 (m : MethodId) (x0 : Addr) (x1 : Int32) : entryFrame m #[(.ref x0), (.int x1)] 2 = mkF m 0 #[.val (.ref x0), .val (.int x1)] [] := by first | (simp [entryFrame, mkF, argsToLocals, Value.category]; done) | rfl
set_option maxRecDepth 65536 in
set_option maxHeartbeats 40000000 in
theorem rmh2 (l : Launch) (Z : State) (a0 : Array Value) (hw : ∀ d ∈ tables_1, d.before a0 Z = true) (ws : List Jvm.Cond) (a1 : Addr) (p1 : Int32) (h0 : Heap) (n0 : Nat) (O0 : Old Z n0 h0) (E_a : Exa Z Z.heap a1 "com/example/downtally/downtally/contract/Threshold$Comparison") (F_ord : Fld Z Z.heap a1 "java/lang/Enum" "ordinal" "I" (.int (2 : Int32))) :
    MetFree l (⟨"com/example/downtally/downtally/contract/Threshold$Comparison", "holds", "(I)Z"⟩ : MethodName) (head1 (Jvm.Cond.code (⟨"com/example/downtally/downtally/contract/Threshold$Comparison", "holds", "(I)Z"⟩ : MethodName) prog_43_method_4_code 2 (some .boolean) :: ws) ({ frames := 1, cells := 0, slots := 0, locals := 12 } : Room)) (fun a U => a = #[(.ref a1), (.int p1)] ∧ Z.Warmed39 U.vm ∧ U.heap = h0) (fun _ _ _ _ _ => True) (fun _ U o U' => ∃ v L, o = .returned v ∧ Qo (hF 2 p1) h0 n0 v U'.heap L ∧ FrameEnd U o U' L ({ frames := 1, cells := 0, slots := 0, locals := 12 } : Room).cells ({ frames := 1, cells := 0, slots := 0, locals := 12 } : Room).slots) := by
  refine MetFree.of_bodySF (plainFor_of_name pn2) hisR ?_
  intro p e s m args below meth c s₁ Bd hml0 hP hK
  obtain ⟨rfl, hZ, hh⟩ := hP
  have hx := Bd.exec
  have hby := Bd.bytes
  have hml : c.maxLocals = 2 := hml0
  have hown : s.vm.findClass "com/example/downtally/downtally/contract/Threshold$Comparison" = some m.cls := findClass_of_methodNamed Bd.named
  have hnm := (name_of_methodNamed Bd.named Bd.method).1
  have X0 : Stand p l e ({ frames := 1, cells := 0, slots := 0, locals := 12 } : Room) s m #[(.ref a1), (.int p1)] below meth c s₁ [] 0 0 := Stand.of_body Bd
  have e0 : s₁.heap = h0 := by rw [← hh, Bd.state]; rfl
  have N0 := Fr.nil n0
  have pre0 : ∀ t, Steps p.tables e below (s₁.setTop (mkF m 0 #[.val (.ref a1), .val (.int p1)] [])) t → Steps p.tables e below (s₁.setTop (entryFrame m #[(.ref a1), (.int p1)] 2)) t := fun t k => castTop (ef_rmh2 m a1 p1) k
  obtain ⟨cq1, kq1, qa1, qb1, qc1⟩ := isOf hZ e0 (E_a.ext O0.2)
  obtain ⟨_, _, ⟨T1, L1, k1, n1⟩, -, X1, ⟨Lc1, hQ1, l1, y1, z1⟩, st1⟩ := X0.virtualBackUp hx (x := (⟨"com/example/downtally/downtally/contract/Threshold$Comparison", "ordinal", "()I"⟩ : MethodName)) (y := (⟨"java/lang/Enum", "ordinal", "()I"⟩ : MethodName)) (owner := "java/lang/Enum") hown (mvT hZ (hw _ (List.mem_of_getElem? (i := 8) rfl))) (mvT hZ (hw _ (List.mem_of_getElem? (i := 9) rfl))) (mvT hZ (hw _ (List.mem_of_getElem? (i := 10) rfl))) (by decide) (mvT hZ (hw _ (List.mem_of_getElem? (i := 12) rfl))) (mvT hZ (hw _ (List.mem_of_getElem? (i := 11) rfl))) (backOf (W := 0) (rmo l Z a0 hw [] a1 (2 : Int32) h0 n0 O0 F_ord) hZ (hw _ (List.mem_of_getElem? (i := 14) rfl)) (hw _ (List.mem_of_getElem? (i := 13) rfl)) (by decide) (by decide)) qa1 qc1 (g := (mkF m 1 #[.val (.ref a1), .val (.int p1)] [(.ref a1)])) rfl (by rw [hml]; rfl) (Steps.refl _) (argsL := []) (rest := []) (lenOf pd0 rfl) rfl (by show 2 * 0 + _ ≤ _; exact Nat.le_of_eq rfl) (hb hby d1_1) (fun _ _ => ⟨rfl, e0, (by decide : 0 + 0 ≤ _), (by decide : 0 + 0 ≤ _)⟩)
  dsimp only [Pt.U, Pt.locs, Pt.cells, Pt.slots] at X1 l1 y1 z1 st1 hQ1
  subst l1 y1 z1
  obtain ⟨rfl, Nq1, e1⟩ := hQ1
  have N1 := Fr.app N0 Nq1
  by_cases hc71 : p1 < (0 : Int32)
  · obtain ⟨fs, hr, hrun, hended, hW, hsame⟩ := X1.leave (v := some (.int (1 : Int32))) (fun h => by rw [Bd.returns] at h; cases h)
    refine ⟨_, _, pre0 _ ?_, hrun, hended, _, _, rfl, ?_, ⟨_, rfl⟩, hW, hsame.mono (by decide) (by decide)⟩
    · show Steps p.tables e below (s₁.setTop (mkF m 0 #[.val (.ref a1), .val (.int p1)] [])) _
      refine XS.aloadN X0.here hx rfl (hb hby d1_0) rfl rfl ?_
      show Steps p.tables e below (s₁.setTop (mkF m 1 #[.val (.ref a1), .val (.int p1)] [(.ref a1)])) _
      refine st1.trans ?_
      show Steps p.tables e below (T1.setTop (mkF m 4 #[.val (.ref a1), .val (.int p1)] [(.int (2 : Int32))])) _
      refine XS.tswIn X1.here hx rfl (pc0 := 4) (pc' := 70) (o := 66) rfl (hb hby d1_4) rfl (by decide) (by decide) (by decide) (by decide) ?_
      show Steps p.tables e below (T1.setTop (mkF m 70 #[.val (.ref a1), .val (.int p1)] [])) _
      refine XS.iloadN X1.here hx rfl (hb hby d1_70) rfl ?_
      show Steps p.tables e below (T1.setTop (mkF m 71 #[.val (.ref a1), .val (.int p1)] [(.int p1)])) _
      refine XS.ifNo X1.here hx rfl (hb hby d1_71) rfl ((if0 _ _).trans (tlt hc71).2.1) ?_
      show Steps p.tables e below (T1.setTop (mkF m 74 #[.val (.ref a1), .val (.int p1)] [])) _
      refine XS.iconst X1.here hx rfl (hb hby d1_74) ?_
      show Steps p.tables e below (T1.setTop (mkF m 75 #[.val (.ref a1), .val (.int p1)] [(.int (1 : Int32))])) _
      refine XS.goto X1.here hx rfl (pc0 := 75) (pc' := 91) rfl (hb hby d1_75) (by decide) (by decide) ?_
      show Steps p.tables e below (T1.setTop (mkF m 91 #[.val (.ref a1), .val (.int p1)] [(.int (1 : Int32))])) _
      exact retN X1 hx (t := .boolean) Bd.returns (by simp) (hb hby d1_91) hr
    · show Qo (hF 2 p1) h0 n0 _ T1.heap _
      rw [e1]
      exact ⟨by simp only [hF]; rw [if_pos hc71], N1, rfl⟩
  · obtain ⟨fs, hr, hrun, hended, hW, hsame⟩ := X1.leave (v := some (.int (0 : Int32))) (fun h => by rw [Bd.returns] at h; cases h)
    refine ⟨_, _, pre0 _ ?_, hrun, hended, _, _, rfl, ?_, ⟨_, rfl⟩, hW, hsame.mono (by decide) (by decide)⟩
    · show Steps p.tables e below (s₁.setTop (mkF m 0 #[.val (.ref a1), .val (.int p1)] [])) _
      refine XS.aloadN X0.here hx rfl (hb hby d1_0) rfl rfl ?_
      show Steps p.tables e below (s₁.setTop (mkF m 1 #[.val (.ref a1), .val (.int p1)] [(.ref a1)])) _
      refine st1.trans ?_
      show Steps p.tables e below (T1.setTop (mkF m 4 #[.val (.ref a1), .val (.int p1)] [(.int (2 : Int32))])) _
      refine XS.tswIn X1.here hx rfl (pc0 := 4) (pc' := 70) (o := 66) rfl (hb hby d1_4) rfl (by decide) (by decide) (by decide) (by decide) ?_
      show Steps p.tables e below (T1.setTop (mkF m 70 #[.val (.ref a1), .val (.int p1)] [])) _
      refine XS.iloadN X1.here hx rfl (hb hby d1_70) rfl ?_
      show Steps p.tables e below (T1.setTop (mkF m 71 #[.val (.ref a1), .val (.int p1)] [(.int p1)])) _
      refine XS.ifYes X1.here hx rfl (pc0 := 71) (pc' := 78) rfl (hb hby d1_71) rfl ((if0 _ _).trans (flt hc71).2.1) (by decide) (by decide) ?_
      show Steps p.tables e below (T1.setTop (mkF m 78 #[.val (.ref a1), .val (.int p1)] [])) _
      refine XS.iconst X1.here hx rfl (hb hby d1_78) ?_
      show Steps p.tables e below (T1.setTop (mkF m 79 #[.val (.ref a1), .val (.int p1)] [(.int (0 : Int32))])) _
      refine XS.goto X1.here hx rfl (pc0 := 79) (pc' := 91) rfl (hb hby d1_79) (by decide) (by decide) ?_
      show Steps p.tables e below (T1.setTop (mkF m 91 #[.val (.ref a1), .val (.int p1)] [(.int (0 : Int32))])) _
      exact retN X1 hx (t := .boolean) Bd.returns (by simp) (hb hby d1_91) hr
    · show Qo (hF 2 p1) h0 n0 _ T1.heap _
      rw [e1]
      exact ⟨by simp only [hF]; rw [if_neg hc71], N1, rfl⟩
theorem d1_82 : decode prog_43_method_4_code 82 = .ok (.iload_n 1, 1) := by decide +kernel
theorem d1_83 : decode prog_43_method_4_code 83 = .ok (.ifCond .gt 7, 3) := by decide +kernel
theorem d1_90 : decode prog_43_method_4_code 90 = .ok (.iconst 0, 1) := by decide +kernel
theorem d1_86 : decode prog_43_method_4_code 86 = .ok (.iconst 1, 1) := by decide +kernel
theorem d1_87 : decode prog_43_method_4_code 87 = .ok (.goto 4, 3) := by decide +kernel
theorem ef_rmh3 (m : MethodId) (x0 : Addr) (x1 : Int32) : entryFrame m #[(.ref x0), (.int x1)] 2 = mkF m 0 #[.val (.ref x0), .val (.int x1)] [] := by first | (simp [entryFrame, mkF, argsToLocals, Value.category]; done) | rfl
set_option maxRecDepth 65536 in
set_option maxHeartbeats 40000000 in
theorem rmh3 (l : Launch) (Z : State) (a0 : Array Value) (hw : ∀ d ∈ tables_1, d.before a0 Z = true) (ws : List Jvm.Cond) (a1 : Addr) (p1 : Int32) (h0 : Heap) (n0 : Nat) (O0 : Old Z n0 h0) (E_a : Exa Z Z.heap a1 "com/example/downtally/downtally/contract/Threshold$Comparison") (F_ord : Fld Z Z.heap a1 "java/lang/Enum" "ordinal" "I" (.int (3 : Int32))) :
    MetFree l (⟨"com/example/downtally/downtally/contract/Threshold$Comparison", "holds", "(I)Z"⟩ : MethodName) (head1 (Jvm.Cond.code (⟨"com/example/downtally/downtally/contract/Threshold$Comparison", "holds", "(I)Z"⟩ : MethodName) prog_43_method_4_code 2 (some .boolean) :: ws) ({ frames := 1, cells := 0, slots := 0, locals := 12 } : Room)) (fun a U => a = #[(.ref a1), (.int p1)] ∧ Z.Warmed39 U.vm ∧ U.heap = h0) (fun _ _ _ _ _ => True) (fun _ U o U' => ∃ v L, o = .returned v ∧ Qo (hF 3 p1) h0 n0 v U'.heap L ∧ FrameEnd U o U' L ({ frames := 1, cells := 0, slots := 0, locals := 12 } : Room).cells ({ frames := 1, cells := 0, slots := 0, locals := 12 } : Room).slots) := by
  refine MetFree.of_bodySF (plainFor_of_name pn2) hisR ?_
  intro p e s m args below meth c s₁ Bd hml0 hP hK
  obtain ⟨rfl, hZ, hh⟩ := hP
  have hx := Bd.exec
  have hby := Bd.bytes
  have hml : c.maxLocals = 2 := hml0
  have hown : s.vm.findClass "com/example/downtally/downtally/contract/Threshold$Comparison" = some m.cls := findClass_of_methodNamed Bd.named
  have hnm := (name_of_methodNamed Bd.named Bd.method).1
  have X0 : Stand p l e ({ frames := 1, cells := 0, slots := 0, locals := 12 } : Room) s m #[(.ref a1), (.int p1)] below meth c s₁ [] 0 0 := Stand.of_body Bd
  have e0 : s₁.heap = h0 := by rw [← hh, Bd.state]; rfl
  have N0 := Fr.nil n0
  have pre0 : ∀ t, Steps p.tables e below (s₁.setTop (mkF m 0 #[.val (.ref a1), .val (.int p1)] [])) t → Steps p.tables e below (s₁.setTop (entryFrame m #[(.ref a1), (.int p1)] 2)) t := fun t k => castTop (ef_rmh3 m a1 p1) k
  obtain ⟨cq1, kq1, qa1, qb1, qc1⟩ := isOf hZ e0 (E_a.ext O0.2)
  obtain ⟨_, _, ⟨T1, L1, k1, n1⟩, -, X1, ⟨Lc1, hQ1, l1, y1, z1⟩, st1⟩ := X0.virtualBackUp hx (x := (⟨"com/example/downtally/downtally/contract/Threshold$Comparison", "ordinal", "()I"⟩ : MethodName)) (y := (⟨"java/lang/Enum", "ordinal", "()I"⟩ : MethodName)) (owner := "java/lang/Enum") hown (mvT hZ (hw _ (List.mem_of_getElem? (i := 8) rfl))) (mvT hZ (hw _ (List.mem_of_getElem? (i := 9) rfl))) (mvT hZ (hw _ (List.mem_of_getElem? (i := 10) rfl))) (by decide) (mvT hZ (hw _ (List.mem_of_getElem? (i := 12) rfl))) (mvT hZ (hw _ (List.mem_of_getElem? (i := 11) rfl))) (backOf (W := 0) (rmo l Z a0 hw [] a1 (3 : Int32) h0 n0 O0 F_ord) hZ (hw _ (List.mem_of_getElem? (i := 14) rfl)) (hw _ (List.mem_of_getElem? (i := 13) rfl)) (by decide) (by decide)) qa1 qc1 (g := (mkF m 1 #[.val (.ref a1), .val (.int p1)] [(.ref a1)])) rfl (by rw [hml]; rfl) (Steps.refl _) (argsL := []) (rest := []) (lenOf pd0 rfl) rfl (by show 2 * 0 + _ ≤ _; exact Nat.le_of_eq rfl) (hb hby d1_1) (fun _ _ => ⟨rfl, e0, (by decide : 0 + 0 ≤ _), (by decide : 0 + 0 ≤ _)⟩)
  dsimp only [Pt.U, Pt.locs, Pt.cells, Pt.slots] at X1 l1 y1 z1 st1 hQ1
  subst l1 y1 z1
  obtain ⟨rfl, Nq1, e1⟩ := hQ1
  have N1 := Fr.app N0 Nq1
  by_cases hc83 : (0 : Int32) < p1
  · obtain ⟨fs, hr, hrun, hended, hW, hsame⟩ := X1.leave (v := some (.int (0 : Int32))) (fun h => by rw [Bd.returns] at h; cases h)
    refine ⟨_, _, pre0 _ ?_, hrun, hended, _, _, rfl, ?_, ⟨_, rfl⟩, hW, hsame.mono (by decide) (by decide)⟩
    · show Steps p.tables e below (s₁.setTop (mkF m 0 #[.val (.ref a1), .val (.int p1)] [])) _
      refine XS.aloadN X0.here hx rfl (hb hby d1_0) rfl rfl ?_
      show Steps p.tables e below (s₁.setTop (mkF m 1 #[.val (.ref a1), .val (.int p1)] [(.ref a1)])) _
      refine st1.trans ?_
      show Steps p.tables e below (T1.setTop (mkF m 4 #[.val (.ref a1), .val (.int p1)] [(.int (3 : Int32))])) _
      refine XS.tswIn X1.here hx rfl (pc0 := 4) (pc' := 82) (o := 78) rfl (hb hby d1_4) rfl (by decide) (by decide) (by decide) (by decide) ?_
      show Steps p.tables e below (T1.setTop (mkF m 82 #[.val (.ref a1), .val (.int p1)] [])) _
      refine XS.iloadN X1.here hx rfl (hb hby d1_82) rfl ?_
      show Steps p.tables e below (T1.setTop (mkF m 83 #[.val (.ref a1), .val (.int p1)] [(.int p1)])) _
      refine XS.ifYes X1.here hx rfl (pc0 := 83) (pc' := 90) rfl (hb hby d1_83) rfl ((if0 _ _).trans (tlt hc83).2.2.1) (by decide) (by decide) ?_
      show Steps p.tables e below (T1.setTop (mkF m 90 #[.val (.ref a1), .val (.int p1)] [])) _
      refine XS.iconst X1.here hx rfl (hb hby d1_90) ?_
      show Steps p.tables e below (T1.setTop (mkF m 91 #[.val (.ref a1), .val (.int p1)] [(.int (0 : Int32))])) _
      exact retN X1 hx (t := .boolean) Bd.returns (by simp) (hb hby d1_91) hr
    · show Qo (hF 3 p1) h0 n0 _ T1.heap _
      rw [e1]
      exact ⟨by simp only [hF]; rw [if_pos hc83], N1, rfl⟩
  · obtain ⟨fs, hr, hrun, hended, hW, hsame⟩ := X1.leave (v := some (.int (1 : Int32))) (fun h => by rw [Bd.returns] at h; cases h)
    refine ⟨_, _, pre0 _ ?_, hrun, hended, _, _, rfl, ?_, ⟨_, rfl⟩, hW, hsame.mono (by decide) (by decide)⟩
    · show Steps p.tables e below (s₁.setTop (mkF m 0 #[.val (.ref a1), .val (.int p1)] [])) _
      refine XS.aloadN X0.here hx rfl (hb hby d1_0) rfl rfl ?_
      show Steps p.tables e below (s₁.setTop (mkF m 1 #[.val (.ref a1), .val (.int p1)] [(.ref a1)])) _
      refine st1.trans ?_
      show Steps p.tables e below (T1.setTop (mkF m 4 #[.val (.ref a1), .val (.int p1)] [(.int (3 : Int32))])) _
      refine XS.tswIn X1.here hx rfl (pc0 := 4) (pc' := 82) (o := 78) rfl (hb hby d1_4) rfl (by decide) (by decide) (by decide) (by decide) ?_
      show Steps p.tables e below (T1.setTop (mkF m 82 #[.val (.ref a1), .val (.int p1)] [])) _
      refine XS.iloadN X1.here hx rfl (hb hby d1_82) rfl ?_
      show Steps p.tables e below (T1.setTop (mkF m 83 #[.val (.ref a1), .val (.int p1)] [(.int p1)])) _
      refine XS.ifNo X1.here hx rfl (hb hby d1_83) rfl ((if0 _ _).trans (flt hc83).2.2.1) ?_
      show Steps p.tables e below (T1.setTop (mkF m 86 #[.val (.ref a1), .val (.int p1)] [])) _
      refine XS.iconst X1.here hx rfl (hb hby d1_86) ?_
      show Steps p.tables e below (T1.setTop (mkF m 87 #[.val (.ref a1), .val (.int p1)] [(.int (1 : Int32))])) _
      refine XS.goto X1.here hx rfl (pc0 := 87) (pc' := 91) rfl (hb hby d1_87) (by decide) (by decide) ?_
      show Steps p.tables e below (T1.setTop (mkF m 91 #[.val (.ref a1), .val (.int p1)] [(.int (1 : Int32))])) _
      exact retN X1 hx (t := .boolean) Bd.returns (by simp) (hb hby d1_91) hr
    · show Qo (hF 3 p1) h0 n0 _ T1.heap _
      rw [e1]
      exact ⟨by simp only [hF]; rw [if_neg hc83], N1, rfl⟩
theorem pd1 : parseMethodDescriptor "(I)Z" = some ⟨[.int], some .boolean⟩ := by decide +kernel
theorem pd2 : parseMethodDescriptor "(II)Z" = some ⟨[.int, .int], some .boolean⟩ := by decide +kernel
theorem ef_rm0 (m : MethodId) (x0 : Int32) : entryFrame m #[(.int x0)] maxLocals = mkF m 0 #[.val (.int x0), .unset, .unset, .unset, .unset, .unset] [] := by first | (simp [entryFrame, mkF, argsToLocals, Value.category, maxLocals]; done) | rfl
set_option maxRecDepth 65536 in
set_option maxHeartbeats 40000000 in
theorem rm0 (l : Launch) (Z : State) (a0 : Array Value) (hw : ∀ d ∈ tables_1, d.before a0 Z = true) (ws : List Jvm.Cond) (p1 : Int32) (w0 : Addr) (w1 : Addr) (w2 : Addr) (w3 : Addr) (h0 : Heap) (n0 : Nat) (O0 : Old Z n0 h0) (S_AT_LEAST : Sta Z Z.heap "com/example/downtally/downtally/contract/Threshold$Comparison" "AT_LEAST" "Lcom/example/downtally/downtally/contract/Threshold$Comparison;" (.ref w0)) (S_ABOVE : Sta Z Z.heap "com/example/downtally/downtally/contract/Threshold$Comparison" "ABOVE" "Lcom/example/downtally/downtally/contract/Threshold$Comparison;" (.ref w1)) (S_BELOW : Sta Z Z.heap "com/example/downtally/downtally/contract/Threshold$Comparison" "BELOW" "Lcom/example/downtally/downtally/contract/Threshold$Comparison;" (.ref w2)) (S_AT_MOST : Sta Z Z.heap "com/example/downtally/downtally/contract/Threshold$Comparison" "AT_MOST" "Lcom/example/downtally/downtally/contract/Threshold$Comparison;" (.ref w3)) (E0 : Exa Z Z.heap w0 "com/example/downtally/downtally/contract/Threshold$Comparison") (E1 : Exa Z Z.heap w1 "com/example/downtally/downtally/contract/Threshold$Comparison") (E2 : Exa Z Z.heap w2 "com/example/downtally/downtally/contract/Threshold$Comparison") (E3 : Exa Z Z.heap w3 "com/example/downtally/downtally/contract/Threshold$Comparison") (F0 : Fld Z Z.heap w0 "java/lang/Enum" "ordinal" "I" (.int (0 : Int32))) (F1 : Fld Z Z.heap w1 "java/lang/Enum" "ordinal" "I" (.int (1 : Int32))) (F2 : Fld Z Z.heap w2 "java/lang/Enum" "ordinal" "I" (.int (2 : Int32))) (F3 : Fld Z Z.heap w3 "java/lang/Enum" "ordinal" "I" (.int (3 : Int32))) :
    MetFree l x (head1 (Jvm.Cond.code x code maxLocals ret :: ws) room_1) (fun a U => a = #[(.int p1)] ∧ Z.Warmed39 U.vm ∧ U.heap = h0) (fun _ _ _ _ _ => True) (fun _ U o U' => ∃ v L, o = .returned v ∧ Q0 n0 v U'.heap L ∧ FrameEnd U o U' L 0 0) := by
  refine MetFree.of_bodySF (plainFor_of_name pn1) hisR ?_
  intro p e s m args below meth c s₁ Bd hml0 hP hK
  obtain ⟨rfl, hZ, hh⟩ := hP
  have hx := Bd.exec
  have hby := Bd.bytes
  have hml : c.maxLocals = 6 := hml0
  have hown : s.vm.findClass "com/example/downtally/downtally/contract/ComparisonHoldsPinLaw" = some m.cls := findClass_of_methodNamed Bd.named
  have hnm := (name_of_methodNamed Bd.named Bd.method).1
  have X0 : Stand p l e room_1 s m #[(.int p1)] below meth c s₁ [] 0 0 := Stand.of_body Bd
  have e0 : s₁.heap = h0 := by rw [← hh, Bd.state]; rfl
  have N0 := Fr.nil n0
  have pre0 : ∀ t, Steps p.tables e below (s₁.setTop (mkF m 0 #[.val (.int p1), .unset, .unset, .unset, .unset, .unset] [])) t → Steps p.tables e below (s₁.setTop (entryFrame m #[(.int p1)] maxLocals)) t := fun t k => castTop (ef_rm0 m p1) k
  by_cases hc1 : p1 < (0 : Int32)
  · obtain ⟨T1, X1, e1, st1⟩ := getS2 X0 hx hZ hown (host := "") (Or.inl (hw _ (List.mem_of_getElem? (i := 0) rfl))) Via.refl e0 (S_AT_LEAST.ext O0.2) (g := (mkF m 18 #[.val (.int p1), .val (.int (0 : Int32)), .unset, .unset, .unset, .unset] [])) rfl (hb hby at_18)
    obtain ⟨cq2, kq2, qa2, qb2, qc2⟩ := isOf hZ e1 (E0.ext O0.2)
    obtain ⟨_, _, ⟨T2, L2, k2, n2⟩, -, X2, ⟨Lc2, hQ2, l2, y2, z2⟩, st2⟩ := X1.virtualBack hx (y := (⟨"com/example/downtally/downtally/contract/Threshold$Comparison", "holds", "(I)Z"⟩ : MethodName)) (z := (⟨"com/example/downtally/downtally/contract/Threshold$Comparison", "holds", "(I)Z"⟩ : MethodName)) hown (mvT hZ (hw _ (List.mem_of_getElem? (i := 3) rfl))) (mvT hZ (hw _ (List.mem_of_getElem? (i := 4) rfl))) (notFace_of_selects (args := #[]) (mvT hZ (hw _ (List.mem_of_getElem? (i := 6) rfl)))) (mvT hZ (hw _ (List.mem_of_getElem? (i := 6) rfl))) (mvT hZ (hw _ (List.mem_of_getElem? (i := 5) rfl))) (by decide) (backOf (W := 0) (rmh0 l Z a0 hw [] w0 p1 h0 n0 O0 E0 F0) hZ (hw _ (List.mem_of_getElem? (i := 7) rfl)) (hw _ (List.mem_of_getElem? (i := 1) rfl)) (by decide) (by decide)) qa2 qc2 (g := (mkF m 22 #[.val (.int p1), .val (.int (0 : Int32)), .unset, .unset, .unset, .unset] [(.int p1), (.ref w0)])) rfl (by rw [hml]; rfl) (Steps.refl _) (argsL := [(.int p1)]) (rest := []) (lenOf pd1 rfl) rfl (by show 2 * 0 + _ ≤ _; exact Nat.le_of_eq rfl) (hb hby at_22) (fun _ _ => ⟨rfl, e1, (by decide : 0 + 0 ≤ _), (by decide : 0 + 0 ≤ _)⟩)
    dsimp only [Pt.U, Pt.locs, Pt.cells, Pt.slots] at X2 l2 y2 z2 st2 hQ2
    subst l2 y2 z2
    obtain ⟨rfl, Nq2, e2⟩ := hQ2
    have N2 := Fr.app N0 Nq2
    obtain ⟨T3, X3, e3, st3⟩ := getS2 X2 hx hZ hown (host := "") (Or.inl (hw _ (List.mem_of_getElem? (i := 17) rfl))) Via.refl e2 (S_ABOVE.ext O0.2) (g := (mkF m 26 #[.val (.int p1), .val (.int (0 : Int32)), .val (.int (hF 0 p1)), .unset, .unset, .unset] [])) rfl (hb hby at_26)
    obtain ⟨cq4, kq4, qa4, qb4, qc4⟩ := isOf hZ e3 (E1.ext O0.2)
    obtain ⟨_, _, ⟨T4, L4, k4, n4⟩, -, X4, ⟨Lc4, hQ4, l4, y4, z4⟩, st4⟩ := X3.virtualBack hx (y := (⟨"com/example/downtally/downtally/contract/Threshold$Comparison", "holds", "(I)Z"⟩ : MethodName)) (z := (⟨"com/example/downtally/downtally/contract/Threshold$Comparison", "holds", "(I)Z"⟩ : MethodName)) hown (mvT hZ (hw _ (List.mem_of_getElem? (i := 3) rfl))) (mvT hZ (hw _ (List.mem_of_getElem? (i := 4) rfl))) (notFace_of_selects (args := #[]) (mvT hZ (hw _ (List.mem_of_getElem? (i := 6) rfl)))) (mvT hZ (hw _ (List.mem_of_getElem? (i := 6) rfl))) (mvT hZ (hw _ (List.mem_of_getElem? (i := 5) rfl))) (by decide) (backOf (W := 0) (rmh1 l Z a0 hw [] w1 p1 h0 n0 O0 E1 F1) hZ (hw _ (List.mem_of_getElem? (i := 7) rfl)) (hw _ (List.mem_of_getElem? (i := 1) rfl)) (by decide) (by decide)) qa4 qc4 (g := (mkF m 30 #[.val (.int p1), .val (.int (0 : Int32)), .val (.int (hF 0 p1)), .unset, .unset, .unset] [(.int p1), (.ref w1)])) rfl (by rw [hml]; rfl) (Steps.refl _) (argsL := [(.int p1)]) (rest := []) (lenOf pd1 rfl) rfl (by show 2 * 0 + _ ≤ _; exact Nat.le_of_eq rfl) (hb hby at_30) (fun _ _ => ⟨rfl, e3, (by decide : 0 + 0 ≤ _), (by decide : 0 + 0 ≤ _)⟩)
    dsimp only [Pt.U, Pt.locs, Pt.cells, Pt.slots] at X4 l4 y4 z4 st4 hQ4
    subst l4 y4 z4
    obtain ⟨rfl, Nq4, e4⟩ := hQ4
    have N4 := Fr.app N2 Nq4
    obtain ⟨T5, X5, e5, st5⟩ := getS2 X4 hx hZ hown (host := "") (Or.inl (hw _ (List.mem_of_getElem? (i := 19) rfl))) Via.refl e4 (S_BELOW.ext O0.2) (g := (mkF m 34 #[.val (.int p1), .val (.int (0 : Int32)), .val (.int (hF 0 p1)), .val (.int (hF 1 p1)), .unset, .unset] [])) rfl (hb hby at_34)
    obtain ⟨cq6, kq6, qa6, qb6, qc6⟩ := isOf hZ e5 (E2.ext O0.2)
    obtain ⟨_, _, ⟨T6, L6, k6, n6⟩, -, X6, ⟨Lc6, hQ6, l6, y6, z6⟩, st6⟩ := X5.virtualBack hx (y := (⟨"com/example/downtally/downtally/contract/Threshold$Comparison", "holds", "(I)Z"⟩ : MethodName)) (z := (⟨"com/example/downtally/downtally/contract/Threshold$Comparison", "holds", "(I)Z"⟩ : MethodName)) hown (mvT hZ (hw _ (List.mem_of_getElem? (i := 3) rfl))) (mvT hZ (hw _ (List.mem_of_getElem? (i := 4) rfl))) (notFace_of_selects (args := #[]) (mvT hZ (hw _ (List.mem_of_getElem? (i := 6) rfl)))) (mvT hZ (hw _ (List.mem_of_getElem? (i := 6) rfl))) (mvT hZ (hw _ (List.mem_of_getElem? (i := 5) rfl))) (by decide) (backOf (W := 0) (rmh2 l Z a0 hw [] w2 p1 h0 n0 O0 E2 F2) hZ (hw _ (List.mem_of_getElem? (i := 7) rfl)) (hw _ (List.mem_of_getElem? (i := 1) rfl)) (by decide) (by decide)) qa6 qc6 (g := (mkF m 38 #[.val (.int p1), .val (.int (0 : Int32)), .val (.int (hF 0 p1)), .val (.int (hF 1 p1)), .unset, .unset] [(.int p1), (.ref w2)])) rfl (by rw [hml]; rfl) (Steps.refl _) (argsL := [(.int p1)]) (rest := []) (lenOf pd1 rfl) rfl (by show 2 * 0 + _ ≤ _; exact Nat.le_of_eq rfl) (hb hby at_38) (fun _ _ => ⟨rfl, e5, (by decide : 0 + 0 ≤ _), (by decide : 0 + 0 ≤ _)⟩)
    dsimp only [Pt.U, Pt.locs, Pt.cells, Pt.slots] at X6 l6 y6 z6 st6 hQ6
    subst l6 y6 z6
    obtain ⟨rfl, Nq6, e6⟩ := hQ6
    have N6 := Fr.app N4 Nq6
    obtain ⟨T7, X7, e7, st7⟩ := getS2 X6 hx hZ hown (host := "") (Or.inl (hw _ (List.mem_of_getElem? (i := 21) rfl))) Via.refl e6 (S_AT_MOST.ext O0.2) (g := (mkF m 43 #[.val (.int p1), .val (.int (0 : Int32)), .val (.int (hF 0 p1)), .val (.int (hF 1 p1)), .val (.int (hF 2 p1)), .unset] [])) rfl (hb hby at_43)
    obtain ⟨cq8, kq8, qa8, qb8, qc8⟩ := isOf hZ e7 (E3.ext O0.2)
    obtain ⟨_, _, ⟨T8, L8, k8, n8⟩, -, X8, ⟨Lc8, hQ8, l8, y8, z8⟩, st8⟩ := X7.virtualBack hx (y := (⟨"com/example/downtally/downtally/contract/Threshold$Comparison", "holds", "(I)Z"⟩ : MethodName)) (z := (⟨"com/example/downtally/downtally/contract/Threshold$Comparison", "holds", "(I)Z"⟩ : MethodName)) hown (mvT hZ (hw _ (List.mem_of_getElem? (i := 3) rfl))) (mvT hZ (hw _ (List.mem_of_getElem? (i := 4) rfl))) (notFace_of_selects (args := #[]) (mvT hZ (hw _ (List.mem_of_getElem? (i := 6) rfl)))) (mvT hZ (hw _ (List.mem_of_getElem? (i := 6) rfl))) (mvT hZ (hw _ (List.mem_of_getElem? (i := 5) rfl))) (by decide) (backOf (W := 0) (rmh3 l Z a0 hw [] w3 p1 h0 n0 O0 E3 F3) hZ (hw _ (List.mem_of_getElem? (i := 7) rfl)) (hw _ (List.mem_of_getElem? (i := 1) rfl)) (by decide) (by decide)) qa8 qc8 (g := (mkF m 47 #[.val (.int p1), .val (.int (0 : Int32)), .val (.int (hF 0 p1)), .val (.int (hF 1 p1)), .val (.int (hF 2 p1)), .unset] [(.int p1), (.ref w3)])) rfl (by rw [hml]; rfl) (Steps.refl _) (argsL := [(.int p1)]) (rest := []) (lenOf pd1 rfl) rfl (by show 2 * 0 + _ ≤ _; exact Nat.le_of_eq rfl) (hb hby at_47) (fun _ _ => ⟨rfl, e7, (by decide : 0 + 0 ≤ _), (by decide : 0 + 0 ≤ _)⟩)
    dsimp only [Pt.U, Pt.locs, Pt.cells, Pt.slots] at X8 l8 y8 z8 st8 hQ8
    subst l8 y8 z8
    obtain ⟨rfl, Nq8, e8⟩ := hQ8
    have N8 := Fr.app N6 Nq8
    obtain ⟨_, _, ⟨T9, L9, k9, n9⟩, -, X9, ⟨Lc9, hQ9, l9, y9, z9⟩, st9⟩ := Jvm.LawKit.callS X8 hx (y := (⟨"com/example/downtally/downtally/contract/ComparisonHoldsPinLaw", "bit", "(II)Z"⟩ : MethodName)) hown (mvT hZ (hw _ (List.mem_of_getElem? (i := 23) rfl))) (mvT hZ (hw _ (List.mem_of_getElem? (i := 24) rfl))) (mvT hZ (hw _ (List.mem_of_getElem? (i := 25) rfl))) (mvT hZ (hw _ (List.mem_of_getElem? (i := 26) rfl))) (by decide) (backOf (W := 1) (rmb l Z a0 hw [] (6 : Int32) (0 : Int32) h0 n0 O0) hZ (hw _ (List.mem_of_getElem? (i := 26) rfl)) (hw _ (List.mem_of_getElem? (i := 25) rfl)) (by decide) (by decide)) (g := (mkF m 56 #[.val (.int p1), .val (.int (0 : Int32)), .val (.int (hF 0 p1)), .val (.int (hF 1 p1)), .val (.int (hF 2 p1)), .val (.int (hF 3 p1))] [(.int (0 : Int32)), (.int (6 : Int32)), (.int (hF 0 p1))])) rfl (by rw [hml]; rfl) (argsL := [(.int (6 : Int32)), (.int (0 : Int32))]) (rest := [(.int (hF 0 p1))]) (lenOf pd2 rfl) rfl (by show 2 * 0 + _ ≤ _; exact Nat.le_of_eq rfl) (hb hby at_56) (fun _ _ => ⟨rfl, e8, (by decide : 0 + 0 ≤ _), (by decide : 0 + 0 ≤ _)⟩)
    dsimp only [Pt.U, Pt.locs, Pt.cells, Pt.slots] at X9 l9 y9 z9 st9 hQ9
    subst l9 y9 z9
    obtain ⟨rfl, Nq9, e9⟩ := hQ9
    have N9 := Fr.app N8 Nq9
    obtain ⟨_, _, ⟨T10, L10, k10, n10⟩, -, X10, ⟨Lc10, hQ10, l10, y10, z10⟩, st10⟩ := Jvm.LawKit.callS X9 hx (y := (⟨"com/example/downtally/downtally/contract/ComparisonHoldsPinLaw", "bit", "(II)Z"⟩ : MethodName)) hown (mvT hZ (hw _ (List.mem_of_getElem? (i := 23) rfl))) (mvT hZ (hw _ (List.mem_of_getElem? (i := 24) rfl))) (mvT hZ (hw _ (List.mem_of_getElem? (i := 25) rfl))) (mvT hZ (hw _ (List.mem_of_getElem? (i := 26) rfl))) (by decide) (backOf (W := 1) (rmb l Z a0 hw [] (4 : Int32) (0 : Int32) h0 n0 O0) hZ (hw _ (List.mem_of_getElem? (i := 26) rfl)) (hw _ (List.mem_of_getElem? (i := 25) rfl)) (by decide) (by decide)) (g := (mkF m 65 #[.val (.int p1), .val (.int (0 : Int32)), .val (.int (hF 0 p1)), .val (.int (hF 1 p1)), .val (.int (hF 2 p1)), .val (.int (hF 3 p1))] [(.int (0 : Int32)), (.int (4 : Int32)), (.int (hF 1 p1))])) rfl (by rw [hml]; rfl) (argsL := [(.int (4 : Int32)), (.int (0 : Int32))]) (rest := [(.int (hF 1 p1))]) (lenOf pd2 rfl) rfl (by show 2 * 0 + _ ≤ _; exact Nat.le_of_eq rfl) (hb hby at_65) (fun _ _ => ⟨rfl, e9, (by decide : 0 + 0 ≤ _), (by decide : 0 + 0 ≤ _)⟩)
    dsimp only [Pt.U, Pt.locs, Pt.cells, Pt.slots] at X10 l10 y10 z10 st10 hQ10
    subst l10 y10 z10
    obtain ⟨rfl, Nq10, e10⟩ := hQ10
    have N10 := Fr.app N9 Nq10
    obtain ⟨_, _, ⟨T11, L11, k11, n11⟩, -, X11, ⟨Lc11, hQ11, l11, y11, z11⟩, st11⟩ := Jvm.LawKit.callS X10 hx (y := (⟨"com/example/downtally/downtally/contract/ComparisonHoldsPinLaw", "bit", "(II)Z"⟩ : MethodName)) hown (mvT hZ (hw _ (List.mem_of_getElem? (i := 23) rfl))) (mvT hZ (hw _ (List.mem_of_getElem? (i := 24) rfl))) (mvT hZ (hw _ (List.mem_of_getElem? (i := 25) rfl))) (mvT hZ (hw _ (List.mem_of_getElem? (i := 26) rfl))) (by decide) (backOf (W := 1) (rmb l Z a0 hw [] (1 : Int32) (0 : Int32) h0 n0 O0) hZ (hw _ (List.mem_of_getElem? (i := 26) rfl)) (hw _ (List.mem_of_getElem? (i := 25) rfl)) (by decide) (by decide)) (g := (mkF m 75 #[.val (.int p1), .val (.int (0 : Int32)), .val (.int (hF 0 p1)), .val (.int (hF 1 p1)), .val (.int (hF 2 p1)), .val (.int (hF 3 p1))] [(.int (0 : Int32)), (.int (1 : Int32)), (.int (hF 2 p1))])) rfl (by rw [hml]; rfl) (argsL := [(.int (1 : Int32)), (.int (0 : Int32))]) (rest := [(.int (hF 2 p1))]) (lenOf pd2 rfl) rfl (by show 2 * 0 + _ ≤ _; exact Nat.le_of_eq rfl) (hb hby at_75) (fun _ _ => ⟨rfl, e10, (by decide : 0 + 0 ≤ _), (by decide : 0 + 0 ≤ _)⟩)
    dsimp only [Pt.U, Pt.locs, Pt.cells, Pt.slots] at X11 l11 y11 z11 st11 hQ11
    subst l11 y11 z11
    obtain ⟨rfl, Nq11, e11⟩ := hQ11
    have N11 := Fr.app N10 Nq11
    obtain ⟨_, _, ⟨T12, L12, k12, n12⟩, -, X12, ⟨Lc12, hQ12, l12, y12, z12⟩, st12⟩ := Jvm.LawKit.callS X11 hx (y := (⟨"com/example/downtally/downtally/contract/ComparisonHoldsPinLaw", "bit", "(II)Z"⟩ : MethodName)) hown (mvT hZ (hw _ (List.mem_of_getElem? (i := 23) rfl))) (mvT hZ (hw _ (List.mem_of_getElem? (i := 24) rfl))) (mvT hZ (hw _ (List.mem_of_getElem? (i := 25) rfl))) (mvT hZ (hw _ (List.mem_of_getElem? (i := 26) rfl))) (by decide) (backOf (W := 1) (rmb l Z a0 hw [] (3 : Int32) (0 : Int32) h0 n0 O0) hZ (hw _ (List.mem_of_getElem? (i := 26) rfl)) (hw _ (List.mem_of_getElem? (i := 25) rfl)) (by decide) (by decide)) (g := (mkF m 85 #[.val (.int p1), .val (.int (0 : Int32)), .val (.int (hF 0 p1)), .val (.int (hF 1 p1)), .val (.int (hF 2 p1)), .val (.int (hF 3 p1))] [(.int (0 : Int32)), (.int (3 : Int32)), (.int (hF 3 p1))])) rfl (by rw [hml]; rfl) (argsL := [(.int (3 : Int32)), (.int (0 : Int32))]) (rest := [(.int (hF 3 p1))]) (lenOf pd2 rfl) rfl (by show 2 * 0 + _ ≤ _; exact Nat.le_of_eq rfl) (hb hby at_85) (fun _ _ => ⟨rfl, e11, (by decide : 0 + 0 ≤ _), (by decide : 0 + 0 ≤ _)⟩)
    dsimp only [Pt.U, Pt.locs, Pt.cells, Pt.slots] at X12 l12 y12 z12 st12 hQ12
    subst l12 y12 z12
    obtain ⟨rfl, Nq12, e12⟩ := hQ12
    have N12 := Fr.app N11 Nq12
    obtain ⟨fs, hr, hrun, hended, hW, hsame⟩ := X12.leave (v := some (.int (1 : Int32))) (fun h => by rw [Bd.returns] at h; cases h)
    refine ⟨_, _, pre0 _ ?_, hrun, hended, _, _, rfl, ?_, ⟨_, rfl⟩, hW, hsame.mono (by decide) (by decide)⟩
    · show Steps p.tables e below (s₁.setTop (mkF m 0 #[.val (.int p1), .unset, .unset, .unset, .unset, .unset] [])) _
      refine XS.iloadN X0.here hx rfl (hb hby at_0) rfl ?_
      show Steps p.tables e below (s₁.setTop (mkF m 1 #[.val (.int p1), .unset, .unset, .unset, .unset, .unset] [(.int p1)])) _
      refine XS.ifNo X0.here hx rfl (hb hby at_1) rfl ((if0 _ _).trans (tlt hc1).2.1) ?_
      show Steps p.tables e below (s₁.setTop (mkF m 4 #[.val (.int p1), .unset, .unset, .unset, .unset, .unset] [])) _
      refine XS.iconst X0.here hx rfl (hb hby at_4) ?_
      show Steps p.tables e below (s₁.setTop (mkF m 5 #[.val (.int p1), .unset, .unset, .unset, .unset, .unset] [(.int (0 : Int32))])) _
      refine XS.goto X0.here hx rfl (pc0 := 5) (pc' := 17) rfl (hb hby at_5) (by decide) (by decide) ?_
      show Steps p.tables e below (s₁.setTop (mkF m 17 #[.val (.int p1), .unset, .unset, .unset, .unset, .unset] [(.int (0 : Int32))])) _
      refine XS.istoreN X0.here hx rfl (hb hby at_17) rfl (l' := #[.val (.int p1), .val (.int (0 : Int32)), .unset, .unset, .unset, .unset]) rfl ?_
      show Steps p.tables e below (s₁.setTop (mkF m 18 #[.val (.int p1), .val (.int (0 : Int32)), .unset, .unset, .unset, .unset] [])) _
      refine st1 _ ?_
      show Steps p.tables e below (T1.setTop (mkF m 21 #[.val (.int p1), .val (.int (0 : Int32)), .unset, .unset, .unset, .unset] [(.ref w0)])) _
      refine XS.iloadN X1.here hx rfl (hb hby at_21) rfl ?_
      show Steps p.tables e below (T1.setTop (mkF m 22 #[.val (.int p1), .val (.int (0 : Int32)), .unset, .unset, .unset, .unset] [(.int p1), (.ref w0)])) _
      refine st2.trans ?_
      show Steps p.tables e below (T2.setTop (mkF m 25 #[.val (.int p1), .val (.int (0 : Int32)), .unset, .unset, .unset, .unset] [(.int (hF 0 p1))])) _
      refine XS.istoreN X2.here hx rfl (hb hby at_25) rfl (l' := #[.val (.int p1), .val (.int (0 : Int32)), .val (.int (hF 0 p1)), .unset, .unset, .unset]) rfl ?_
      show Steps p.tables e below (T2.setTop (mkF m 26 #[.val (.int p1), .val (.int (0 : Int32)), .val (.int (hF 0 p1)), .unset, .unset, .unset] [])) _
      refine st3 _ ?_
      show Steps p.tables e below (T3.setTop (mkF m 29 #[.val (.int p1), .val (.int (0 : Int32)), .val (.int (hF 0 p1)), .unset, .unset, .unset] [(.ref w1)])) _
      refine XS.iloadN X3.here hx rfl (hb hby at_29) rfl ?_
      show Steps p.tables e below (T3.setTop (mkF m 30 #[.val (.int p1), .val (.int (0 : Int32)), .val (.int (hF 0 p1)), .unset, .unset, .unset] [(.int p1), (.ref w1)])) _
      refine st4.trans ?_
      show Steps p.tables e below (T4.setTop (mkF m 33 #[.val (.int p1), .val (.int (0 : Int32)), .val (.int (hF 0 p1)), .unset, .unset, .unset] [(.int (hF 1 p1))])) _
      refine XS.istoreN X4.here hx rfl (hb hby at_33) rfl (l' := #[.val (.int p1), .val (.int (0 : Int32)), .val (.int (hF 0 p1)), .val (.int (hF 1 p1)), .unset, .unset]) rfl ?_
      show Steps p.tables e below (T4.setTop (mkF m 34 #[.val (.int p1), .val (.int (0 : Int32)), .val (.int (hF 0 p1)), .val (.int (hF 1 p1)), .unset, .unset] [])) _
      refine st5 _ ?_
      show Steps p.tables e below (T5.setTop (mkF m 37 #[.val (.int p1), .val (.int (0 : Int32)), .val (.int (hF 0 p1)), .val (.int (hF 1 p1)), .unset, .unset] [(.ref w2)])) _
      refine XS.iloadN X5.here hx rfl (hb hby at_37) rfl ?_
      show Steps p.tables e below (T5.setTop (mkF m 38 #[.val (.int p1), .val (.int (0 : Int32)), .val (.int (hF 0 p1)), .val (.int (hF 1 p1)), .unset, .unset] [(.int p1), (.ref w2)])) _
      refine st6.trans ?_
      show Steps p.tables e below (T6.setTop (mkF m 41 #[.val (.int p1), .val (.int (0 : Int32)), .val (.int (hF 0 p1)), .val (.int (hF 1 p1)), .unset, .unset] [(.int (hF 2 p1))])) _
      refine XS.istore X6.here hx rfl (hb hby at_41) rfl (l' := #[.val (.int p1), .val (.int (0 : Int32)), .val (.int (hF 0 p1)), .val (.int (hF 1 p1)), .val (.int (hF 2 p1)), .unset]) rfl ?_
      show Steps p.tables e below (T6.setTop (mkF m 43 #[.val (.int p1), .val (.int (0 : Int32)), .val (.int (hF 0 p1)), .val (.int (hF 1 p1)), .val (.int (hF 2 p1)), .unset] [])) _
      refine st7 _ ?_
      show Steps p.tables e below (T7.setTop (mkF m 46 #[.val (.int p1), .val (.int (0 : Int32)), .val (.int (hF 0 p1)), .val (.int (hF 1 p1)), .val (.int (hF 2 p1)), .unset] [(.ref w3)])) _
      refine XS.iloadN X7.here hx rfl (hb hby at_46) rfl ?_
      show Steps p.tables e below (T7.setTop (mkF m 47 #[.val (.int p1), .val (.int (0 : Int32)), .val (.int (hF 0 p1)), .val (.int (hF 1 p1)), .val (.int (hF 2 p1)), .unset] [(.int p1), (.ref w3)])) _
      refine st8.trans ?_
      show Steps p.tables e below (T8.setTop (mkF m 50 #[.val (.int p1), .val (.int (0 : Int32)), .val (.int (hF 0 p1)), .val (.int (hF 1 p1)), .val (.int (hF 2 p1)), .unset] [(.int (hF 3 p1))])) _
      refine XS.istore X8.here hx rfl (hb hby at_50) rfl (l' := #[.val (.int p1), .val (.int (0 : Int32)), .val (.int (hF 0 p1)), .val (.int (hF 1 p1)), .val (.int (hF 2 p1)), .val (.int (hF 3 p1))]) rfl ?_
      show Steps p.tables e below (T8.setTop (mkF m 52 #[.val (.int p1), .val (.int (0 : Int32)), .val (.int (hF 0 p1)), .val (.int (hF 1 p1)), .val (.int (hF 2 p1)), .val (.int (hF 3 p1))] [])) _
      refine XS.iloadN X8.here hx rfl (hb hby at_52) rfl ?_
      show Steps p.tables e below (T8.setTop (mkF m 53 #[.val (.int p1), .val (.int (0 : Int32)), .val (.int (hF 0 p1)), .val (.int (hF 1 p1)), .val (.int (hF 2 p1)), .val (.int (hF 3 p1))] [(.int (hF 0 p1))])) _
      refine XS.bipush X8.here hx rfl (hb hby at_53) ?_
      show Steps p.tables e below (T8.setTop (mkF m 55 #[.val (.int p1), .val (.int (0 : Int32)), .val (.int (hF 0 p1)), .val (.int (hF 1 p1)), .val (.int (hF 2 p1)), .val (.int (hF 3 p1))] [(.int (6 : Int32)), (.int (hF 0 p1))])) _
      refine XS.iloadN X8.here hx rfl (hb hby at_55) rfl ?_
      show Steps p.tables e below (T8.setTop (mkF m 56 #[.val (.int p1), .val (.int (0 : Int32)), .val (.int (hF 0 p1)), .val (.int (hF 1 p1)), .val (.int (hF 2 p1)), .val (.int (hF 3 p1))] [(.int (0 : Int32)), (.int (6 : Int32)), (.int (hF 0 p1))])) _
      refine st9 _ ?_
      show Steps p.tables e below (T9.setTop (mkF m 59 #[.val (.int p1), .val (.int (0 : Int32)), .val (.int (hF 0 p1)), .val (.int (hF 1 p1)), .val (.int (hF 2 p1)), .val (.int (hF 3 p1))] [(.int (bitF (6 : Int32) (0 : Int32))), (.int (hF 0 p1))])) _
      refine XS.icmpNo X9.here hx rfl (hb hby at_59) rfl (teq (by simp only [hF]; simp only [hc1, own_n hc1, if_true, if_false]; decide)).2 ?_
      show Steps p.tables e below (T9.setTop (mkF m 62 #[.val (.int p1), .val (.int (0 : Int32)), .val (.int (hF 0 p1)), .val (.int (hF 1 p1)), .val (.int (hF 2 p1)), .val (.int (hF 3 p1))] [])) _
      refine XS.iloadN X9.here hx rfl (hb hby at_62) rfl ?_
      show Steps p.tables e below (T9.setTop (mkF m 63 #[.val (.int p1), .val (.int (0 : Int32)), .val (.int (hF 0 p1)), .val (.int (hF 1 p1)), .val (.int (hF 2 p1)), .val (.int (hF 3 p1))] [(.int (hF 1 p1))])) _
      refine XS.iconst X9.here hx rfl (hb hby at_63) ?_
      show Steps p.tables e below (T9.setTop (mkF m 64 #[.val (.int p1), .val (.int (0 : Int32)), .val (.int (hF 0 p1)), .val (.int (hF 1 p1)), .val (.int (hF 2 p1)), .val (.int (hF 3 p1))] [(.int (4 : Int32)), (.int (hF 1 p1))])) _
      refine XS.iloadN X9.here hx rfl (hb hby at_64) rfl ?_
      show Steps p.tables e below (T9.setTop (mkF m 65 #[.val (.int p1), .val (.int (0 : Int32)), .val (.int (hF 0 p1)), .val (.int (hF 1 p1)), .val (.int (hF 2 p1)), .val (.int (hF 3 p1))] [(.int (0 : Int32)), (.int (4 : Int32)), (.int (hF 1 p1))])) _
      refine st10 _ ?_
      show Steps p.tables e below (T10.setTop (mkF m 68 #[.val (.int p1), .val (.int (0 : Int32)), .val (.int (hF 0 p1)), .val (.int (hF 1 p1)), .val (.int (hF 2 p1)), .val (.int (hF 3 p1))] [(.int (bitF (4 : Int32) (0 : Int32))), (.int (hF 1 p1))])) _
      refine XS.icmpNo X10.here hx rfl (hb hby at_68) rfl (teq (by simp only [hF]; simp only [hc1, own_n hc1, if_true, if_false]; decide)).2 ?_
      show Steps p.tables e below (T10.setTop (mkF m 71 #[.val (.int p1), .val (.int (0 : Int32)), .val (.int (hF 0 p1)), .val (.int (hF 1 p1)), .val (.int (hF 2 p1)), .val (.int (hF 3 p1))] [])) _
      refine XS.iload X10.here hx rfl (hb hby at_71) rfl ?_
      show Steps p.tables e below (T10.setTop (mkF m 73 #[.val (.int p1), .val (.int (0 : Int32)), .val (.int (hF 0 p1)), .val (.int (hF 1 p1)), .val (.int (hF 2 p1)), .val (.int (hF 3 p1))] [(.int (hF 2 p1))])) _
      refine XS.iconst X10.here hx rfl (hb hby at_73) ?_
      show Steps p.tables e below (T10.setTop (mkF m 74 #[.val (.int p1), .val (.int (0 : Int32)), .val (.int (hF 0 p1)), .val (.int (hF 1 p1)), .val (.int (hF 2 p1)), .val (.int (hF 3 p1))] [(.int (1 : Int32)), (.int (hF 2 p1))])) _
      refine XS.iloadN X10.here hx rfl (hb hby at_74) rfl ?_
      show Steps p.tables e below (T10.setTop (mkF m 75 #[.val (.int p1), .val (.int (0 : Int32)), .val (.int (hF 0 p1)), .val (.int (hF 1 p1)), .val (.int (hF 2 p1)), .val (.int (hF 3 p1))] [(.int (0 : Int32)), (.int (1 : Int32)), (.int (hF 2 p1))])) _
      refine st11 _ ?_
      show Steps p.tables e below (T11.setTop (mkF m 78 #[.val (.int p1), .val (.int (0 : Int32)), .val (.int (hF 0 p1)), .val (.int (hF 1 p1)), .val (.int (hF 2 p1)), .val (.int (hF 3 p1))] [(.int (bitF (1 : Int32) (0 : Int32))), (.int (hF 2 p1))])) _
      refine XS.icmpNo X11.here hx rfl (hb hby at_78) rfl (teq (by simp only [hF]; simp only [hc1, own_n hc1, if_true, if_false]; decide)).2 ?_
      show Steps p.tables e below (T11.setTop (mkF m 81 #[.val (.int p1), .val (.int (0 : Int32)), .val (.int (hF 0 p1)), .val (.int (hF 1 p1)), .val (.int (hF 2 p1)), .val (.int (hF 3 p1))] [])) _
      refine XS.iload X11.here hx rfl (hb hby at_81) rfl ?_
      show Steps p.tables e below (T11.setTop (mkF m 83 #[.val (.int p1), .val (.int (0 : Int32)), .val (.int (hF 0 p1)), .val (.int (hF 1 p1)), .val (.int (hF 2 p1)), .val (.int (hF 3 p1))] [(.int (hF 3 p1))])) _
      refine XS.iconst X11.here hx rfl (hb hby at_83) ?_
      show Steps p.tables e below (T11.setTop (mkF m 84 #[.val (.int p1), .val (.int (0 : Int32)), .val (.int (hF 0 p1)), .val (.int (hF 1 p1)), .val (.int (hF 2 p1)), .val (.int (hF 3 p1))] [(.int (3 : Int32)), (.int (hF 3 p1))])) _
      refine XS.iloadN X11.here hx rfl (hb hby at_84) rfl ?_
      show Steps p.tables e below (T11.setTop (mkF m 85 #[.val (.int p1), .val (.int (0 : Int32)), .val (.int (hF 0 p1)), .val (.int (hF 1 p1)), .val (.int (hF 2 p1)), .val (.int (hF 3 p1))] [(.int (0 : Int32)), (.int (3 : Int32)), (.int (hF 3 p1))])) _
      refine st12 _ ?_
      show Steps p.tables e below (T12.setTop (mkF m 88 #[.val (.int p1), .val (.int (0 : Int32)), .val (.int (hF 0 p1)), .val (.int (hF 1 p1)), .val (.int (hF 2 p1)), .val (.int (hF 3 p1))] [(.int (bitF (3 : Int32) (0 : Int32))), (.int (hF 3 p1))])) _
      refine XS.icmpNo X12.here hx rfl (hb hby at_88) rfl (teq (by simp only [hF]; simp only [hc1, own_n hc1, if_true, if_false]; decide)).2 ?_
      show Steps p.tables e below (T12.setTop (mkF m 91 #[.val (.int p1), .val (.int (0 : Int32)), .val (.int (hF 0 p1)), .val (.int (hF 1 p1)), .val (.int (hF 2 p1)), .val (.int (hF 3 p1))] [])) _
      refine XS.iconst X12.here hx rfl (hb hby at_91) ?_
      show Steps p.tables e below (T12.setTop (mkF m 92 #[.val (.int p1), .val (.int (0 : Int32)), .val (.int (hF 0 p1)), .val (.int (hF 1 p1)), .val (.int (hF 2 p1)), .val (.int (hF 3 p1))] [(.int (1 : Int32))])) _
      refine XS.goto X12.here hx rfl (pc0 := 92) (pc' := 96) rfl (hb hby at_92) (by decide) (by decide) ?_
      show Steps p.tables e below (T12.setTop (mkF m 96 #[.val (.int p1), .val (.int (0 : Int32)), .val (.int (hF 0 p1)), .val (.int (hF 1 p1)), .val (.int (hF 2 p1)), .val (.int (hF 3 p1))] [(.int (1 : Int32))])) _
      exact retN X12 hx (t := .boolean) Bd.returns (by simp) (hb hby at_96) hr
    · show Q0 n0 _ T12.heap _
      rw [e12]
      exact ⟨rfl, N12⟩
  · by_cases hc9 : p1 = (0 : Int32)
    · obtain ⟨T13, X13, e13, st13⟩ := getS2 X0 hx hZ hown (host := "") (Or.inl (hw _ (List.mem_of_getElem? (i := 0) rfl))) Via.refl e0 (S_AT_LEAST.ext O0.2) (g := (mkF m 18 #[.val (.int p1), .val (.int (1 : Int32)), .unset, .unset, .unset, .unset] [])) rfl (hb hby at_18)
      obtain ⟨cq14, kq14, qa14, qb14, qc14⟩ := isOf hZ e13 (E0.ext O0.2)
      obtain ⟨_, _, ⟨T14, L14, k14, n14⟩, -, X14, ⟨Lc14, hQ14, l14, y14, z14⟩, st14⟩ := X13.virtualBack hx (y := (⟨"com/example/downtally/downtally/contract/Threshold$Comparison", "holds", "(I)Z"⟩ : MethodName)) (z := (⟨"com/example/downtally/downtally/contract/Threshold$Comparison", "holds", "(I)Z"⟩ : MethodName)) hown (mvT hZ (hw _ (List.mem_of_getElem? (i := 3) rfl))) (mvT hZ (hw _ (List.mem_of_getElem? (i := 4) rfl))) (notFace_of_selects (args := #[]) (mvT hZ (hw _ (List.mem_of_getElem? (i := 6) rfl)))) (mvT hZ (hw _ (List.mem_of_getElem? (i := 6) rfl))) (mvT hZ (hw _ (List.mem_of_getElem? (i := 5) rfl))) (by decide) (backOf (W := 0) (rmh0 l Z a0 hw [] w0 p1 h0 n0 O0 E0 F0) hZ (hw _ (List.mem_of_getElem? (i := 7) rfl)) (hw _ (List.mem_of_getElem? (i := 1) rfl)) (by decide) (by decide)) qa14 qc14 (g := (mkF m 22 #[.val (.int p1), .val (.int (1 : Int32)), .unset, .unset, .unset, .unset] [(.int p1), (.ref w0)])) rfl (by rw [hml]; rfl) (Steps.refl _) (argsL := [(.int p1)]) (rest := []) (lenOf pd1 rfl) rfl (by show 2 * 0 + _ ≤ _; exact Nat.le_of_eq rfl) (hb hby at_22) (fun _ _ => ⟨rfl, e13, (by decide : 0 + 0 ≤ _), (by decide : 0 + 0 ≤ _)⟩)
      dsimp only [Pt.U, Pt.locs, Pt.cells, Pt.slots] at X14 l14 y14 z14 st14 hQ14
      subst l14 y14 z14
      obtain ⟨rfl, Nq14, e14⟩ := hQ14
      have N14 := Fr.app N0 Nq14
      obtain ⟨T15, X15, e15, st15⟩ := getS2 X14 hx hZ hown (host := "") (Or.inl (hw _ (List.mem_of_getElem? (i := 17) rfl))) Via.refl e14 (S_ABOVE.ext O0.2) (g := (mkF m 26 #[.val (.int p1), .val (.int (1 : Int32)), .val (.int (hF 0 p1)), .unset, .unset, .unset] [])) rfl (hb hby at_26)
      obtain ⟨cq16, kq16, qa16, qb16, qc16⟩ := isOf hZ e15 (E1.ext O0.2)
      obtain ⟨_, _, ⟨T16, L16, k16, n16⟩, -, X16, ⟨Lc16, hQ16, l16, y16, z16⟩, st16⟩ := X15.virtualBack hx (y := (⟨"com/example/downtally/downtally/contract/Threshold$Comparison", "holds", "(I)Z"⟩ : MethodName)) (z := (⟨"com/example/downtally/downtally/contract/Threshold$Comparison", "holds", "(I)Z"⟩ : MethodName)) hown (mvT hZ (hw _ (List.mem_of_getElem? (i := 3) rfl))) (mvT hZ (hw _ (List.mem_of_getElem? (i := 4) rfl))) (notFace_of_selects (args := #[]) (mvT hZ (hw _ (List.mem_of_getElem? (i := 6) rfl)))) (mvT hZ (hw _ (List.mem_of_getElem? (i := 6) rfl))) (mvT hZ (hw _ (List.mem_of_getElem? (i := 5) rfl))) (by decide) (backOf (W := 0) (rmh1 l Z a0 hw [] w1 p1 h0 n0 O0 E1 F1) hZ (hw _ (List.mem_of_getElem? (i := 7) rfl)) (hw _ (List.mem_of_getElem? (i := 1) rfl)) (by decide) (by decide)) qa16 qc16 (g := (mkF m 30 #[.val (.int p1), .val (.int (1 : Int32)), .val (.int (hF 0 p1)), .unset, .unset, .unset] [(.int p1), (.ref w1)])) rfl (by rw [hml]; rfl) (Steps.refl _) (argsL := [(.int p1)]) (rest := []) (lenOf pd1 rfl) rfl (by show 2 * 0 + _ ≤ _; exact Nat.le_of_eq rfl) (hb hby at_30) (fun _ _ => ⟨rfl, e15, (by decide : 0 + 0 ≤ _), (by decide : 0 + 0 ≤ _)⟩)
      dsimp only [Pt.U, Pt.locs, Pt.cells, Pt.slots] at X16 l16 y16 z16 st16 hQ16
      subst l16 y16 z16
      obtain ⟨rfl, Nq16, e16⟩ := hQ16
      have N16 := Fr.app N14 Nq16
      obtain ⟨T17, X17, e17, st17⟩ := getS2 X16 hx hZ hown (host := "") (Or.inl (hw _ (List.mem_of_getElem? (i := 19) rfl))) Via.refl e16 (S_BELOW.ext O0.2) (g := (mkF m 34 #[.val (.int p1), .val (.int (1 : Int32)), .val (.int (hF 0 p1)), .val (.int (hF 1 p1)), .unset, .unset] [])) rfl (hb hby at_34)
      obtain ⟨cq18, kq18, qa18, qb18, qc18⟩ := isOf hZ e17 (E2.ext O0.2)
      obtain ⟨_, _, ⟨T18, L18, k18, n18⟩, -, X18, ⟨Lc18, hQ18, l18, y18, z18⟩, st18⟩ := X17.virtualBack hx (y := (⟨"com/example/downtally/downtally/contract/Threshold$Comparison", "holds", "(I)Z"⟩ : MethodName)) (z := (⟨"com/example/downtally/downtally/contract/Threshold$Comparison", "holds", "(I)Z"⟩ : MethodName)) hown (mvT hZ (hw _ (List.mem_of_getElem? (i := 3) rfl))) (mvT hZ (hw _ (List.mem_of_getElem? (i := 4) rfl))) (notFace_of_selects (args := #[]) (mvT hZ (hw _ (List.mem_of_getElem? (i := 6) rfl)))) (mvT hZ (hw _ (List.mem_of_getElem? (i := 6) rfl))) (mvT hZ (hw _ (List.mem_of_getElem? (i := 5) rfl))) (by decide) (backOf (W := 0) (rmh2 l Z a0 hw [] w2 p1 h0 n0 O0 E2 F2) hZ (hw _ (List.mem_of_getElem? (i := 7) rfl)) (hw _ (List.mem_of_getElem? (i := 1) rfl)) (by decide) (by decide)) qa18 qc18 (g := (mkF m 38 #[.val (.int p1), .val (.int (1 : Int32)), .val (.int (hF 0 p1)), .val (.int (hF 1 p1)), .unset, .unset] [(.int p1), (.ref w2)])) rfl (by rw [hml]; rfl) (Steps.refl _) (argsL := [(.int p1)]) (rest := []) (lenOf pd1 rfl) rfl (by show 2 * 0 + _ ≤ _; exact Nat.le_of_eq rfl) (hb hby at_38) (fun _ _ => ⟨rfl, e17, (by decide : 0 + 0 ≤ _), (by decide : 0 + 0 ≤ _)⟩)
      dsimp only [Pt.U, Pt.locs, Pt.cells, Pt.slots] at X18 l18 y18 z18 st18 hQ18
      subst l18 y18 z18
      obtain ⟨rfl, Nq18, e18⟩ := hQ18
      have N18 := Fr.app N16 Nq18
      obtain ⟨T19, X19, e19, st19⟩ := getS2 X18 hx hZ hown (host := "") (Or.inl (hw _ (List.mem_of_getElem? (i := 21) rfl))) Via.refl e18 (S_AT_MOST.ext O0.2) (g := (mkF m 43 #[.val (.int p1), .val (.int (1 : Int32)), .val (.int (hF 0 p1)), .val (.int (hF 1 p1)), .val (.int (hF 2 p1)), .unset] [])) rfl (hb hby at_43)
      obtain ⟨cq20, kq20, qa20, qb20, qc20⟩ := isOf hZ e19 (E3.ext O0.2)
      obtain ⟨_, _, ⟨T20, L20, k20, n20⟩, -, X20, ⟨Lc20, hQ20, l20, y20, z20⟩, st20⟩ := X19.virtualBack hx (y := (⟨"com/example/downtally/downtally/contract/Threshold$Comparison", "holds", "(I)Z"⟩ : MethodName)) (z := (⟨"com/example/downtally/downtally/contract/Threshold$Comparison", "holds", "(I)Z"⟩ : MethodName)) hown (mvT hZ (hw _ (List.mem_of_getElem? (i := 3) rfl))) (mvT hZ (hw _ (List.mem_of_getElem? (i := 4) rfl))) (notFace_of_selects (args := #[]) (mvT hZ (hw _ (List.mem_of_getElem? (i := 6) rfl)))) (mvT hZ (hw _ (List.mem_of_getElem? (i := 6) rfl))) (mvT hZ (hw _ (List.mem_of_getElem? (i := 5) rfl))) (by decide) (backOf (W := 0) (rmh3 l Z a0 hw [] w3 p1 h0 n0 O0 E3 F3) hZ (hw _ (List.mem_of_getElem? (i := 7) rfl)) (hw _ (List.mem_of_getElem? (i := 1) rfl)) (by decide) (by decide)) qa20 qc20 (g := (mkF m 47 #[.val (.int p1), .val (.int (1 : Int32)), .val (.int (hF 0 p1)), .val (.int (hF 1 p1)), .val (.int (hF 2 p1)), .unset] [(.int p1), (.ref w3)])) rfl (by rw [hml]; rfl) (Steps.refl _) (argsL := [(.int p1)]) (rest := []) (lenOf pd1 rfl) rfl (by show 2 * 0 + _ ≤ _; exact Nat.le_of_eq rfl) (hb hby at_47) (fun _ _ => ⟨rfl, e19, (by decide : 0 + 0 ≤ _), (by decide : 0 + 0 ≤ _)⟩)
      dsimp only [Pt.U, Pt.locs, Pt.cells, Pt.slots] at X20 l20 y20 z20 st20 hQ20
      subst l20 y20 z20
      obtain ⟨rfl, Nq20, e20⟩ := hQ20
      have N20 := Fr.app N18 Nq20
      obtain ⟨_, _, ⟨T21, L21, k21, n21⟩, -, X21, ⟨Lc21, hQ21, l21, y21, z21⟩, st21⟩ := Jvm.LawKit.callS X20 hx (y := (⟨"com/example/downtally/downtally/contract/ComparisonHoldsPinLaw", "bit", "(II)Z"⟩ : MethodName)) hown (mvT hZ (hw _ (List.mem_of_getElem? (i := 23) rfl))) (mvT hZ (hw _ (List.mem_of_getElem? (i := 24) rfl))) (mvT hZ (hw _ (List.mem_of_getElem? (i := 25) rfl))) (mvT hZ (hw _ (List.mem_of_getElem? (i := 26) rfl))) (by decide) (backOf (W := 1) (rmb l Z a0 hw [] (6 : Int32) (1 : Int32) h0 n0 O0) hZ (hw _ (List.mem_of_getElem? (i := 26) rfl)) (hw _ (List.mem_of_getElem? (i := 25) rfl)) (by decide) (by decide)) (g := (mkF m 56 #[.val (.int p1), .val (.int (1 : Int32)), .val (.int (hF 0 p1)), .val (.int (hF 1 p1)), .val (.int (hF 2 p1)), .val (.int (hF 3 p1))] [(.int (1 : Int32)), (.int (6 : Int32)), (.int (hF 0 p1))])) rfl (by rw [hml]; rfl) (argsL := [(.int (6 : Int32)), (.int (1 : Int32))]) (rest := [(.int (hF 0 p1))]) (lenOf pd2 rfl) rfl (by show 2 * 0 + _ ≤ _; exact Nat.le_of_eq rfl) (hb hby at_56) (fun _ _ => ⟨rfl, e20, (by decide : 0 + 0 ≤ _), (by decide : 0 + 0 ≤ _)⟩)
      dsimp only [Pt.U, Pt.locs, Pt.cells, Pt.slots] at X21 l21 y21 z21 st21 hQ21
      subst l21 y21 z21
      obtain ⟨rfl, Nq21, e21⟩ := hQ21
      have N21 := Fr.app N20 Nq21
      obtain ⟨_, _, ⟨T22, L22, k22, n22⟩, -, X22, ⟨Lc22, hQ22, l22, y22, z22⟩, st22⟩ := Jvm.LawKit.callS X21 hx (y := (⟨"com/example/downtally/downtally/contract/ComparisonHoldsPinLaw", "bit", "(II)Z"⟩ : MethodName)) hown (mvT hZ (hw _ (List.mem_of_getElem? (i := 23) rfl))) (mvT hZ (hw _ (List.mem_of_getElem? (i := 24) rfl))) (mvT hZ (hw _ (List.mem_of_getElem? (i := 25) rfl))) (mvT hZ (hw _ (List.mem_of_getElem? (i := 26) rfl))) (by decide) (backOf (W := 1) (rmb l Z a0 hw [] (4 : Int32) (1 : Int32) h0 n0 O0) hZ (hw _ (List.mem_of_getElem? (i := 26) rfl)) (hw _ (List.mem_of_getElem? (i := 25) rfl)) (by decide) (by decide)) (g := (mkF m 65 #[.val (.int p1), .val (.int (1 : Int32)), .val (.int (hF 0 p1)), .val (.int (hF 1 p1)), .val (.int (hF 2 p1)), .val (.int (hF 3 p1))] [(.int (1 : Int32)), (.int (4 : Int32)), (.int (hF 1 p1))])) rfl (by rw [hml]; rfl) (argsL := [(.int (4 : Int32)), (.int (1 : Int32))]) (rest := [(.int (hF 1 p1))]) (lenOf pd2 rfl) rfl (by show 2 * 0 + _ ≤ _; exact Nat.le_of_eq rfl) (hb hby at_65) (fun _ _ => ⟨rfl, e21, (by decide : 0 + 0 ≤ _), (by decide : 0 + 0 ≤ _)⟩)
      dsimp only [Pt.U, Pt.locs, Pt.cells, Pt.slots] at X22 l22 y22 z22 st22 hQ22
      subst l22 y22 z22
      obtain ⟨rfl, Nq22, e22⟩ := hQ22
      have N22 := Fr.app N21 Nq22
      obtain ⟨_, _, ⟨T23, L23, k23, n23⟩, -, X23, ⟨Lc23, hQ23, l23, y23, z23⟩, st23⟩ := Jvm.LawKit.callS X22 hx (y := (⟨"com/example/downtally/downtally/contract/ComparisonHoldsPinLaw", "bit", "(II)Z"⟩ : MethodName)) hown (mvT hZ (hw _ (List.mem_of_getElem? (i := 23) rfl))) (mvT hZ (hw _ (List.mem_of_getElem? (i := 24) rfl))) (mvT hZ (hw _ (List.mem_of_getElem? (i := 25) rfl))) (mvT hZ (hw _ (List.mem_of_getElem? (i := 26) rfl))) (by decide) (backOf (W := 1) (rmb l Z a0 hw [] (1 : Int32) (1 : Int32) h0 n0 O0) hZ (hw _ (List.mem_of_getElem? (i := 26) rfl)) (hw _ (List.mem_of_getElem? (i := 25) rfl)) (by decide) (by decide)) (g := (mkF m 75 #[.val (.int p1), .val (.int (1 : Int32)), .val (.int (hF 0 p1)), .val (.int (hF 1 p1)), .val (.int (hF 2 p1)), .val (.int (hF 3 p1))] [(.int (1 : Int32)), (.int (1 : Int32)), (.int (hF 2 p1))])) rfl (by rw [hml]; rfl) (argsL := [(.int (1 : Int32)), (.int (1 : Int32))]) (rest := [(.int (hF 2 p1))]) (lenOf pd2 rfl) rfl (by show 2 * 0 + _ ≤ _; exact Nat.le_of_eq rfl) (hb hby at_75) (fun _ _ => ⟨rfl, e22, (by decide : 0 + 0 ≤ _), (by decide : 0 + 0 ≤ _)⟩)
      dsimp only [Pt.U, Pt.locs, Pt.cells, Pt.slots] at X23 l23 y23 z23 st23 hQ23
      subst l23 y23 z23
      obtain ⟨rfl, Nq23, e23⟩ := hQ23
      have N23 := Fr.app N22 Nq23
      obtain ⟨_, _, ⟨T24, L24, k24, n24⟩, -, X24, ⟨Lc24, hQ24, l24, y24, z24⟩, st24⟩ := Jvm.LawKit.callS X23 hx (y := (⟨"com/example/downtally/downtally/contract/ComparisonHoldsPinLaw", "bit", "(II)Z"⟩ : MethodName)) hown (mvT hZ (hw _ (List.mem_of_getElem? (i := 23) rfl))) (mvT hZ (hw _ (List.mem_of_getElem? (i := 24) rfl))) (mvT hZ (hw _ (List.mem_of_getElem? (i := 25) rfl))) (mvT hZ (hw _ (List.mem_of_getElem? (i := 26) rfl))) (by decide) (backOf (W := 1) (rmb l Z a0 hw [] (3 : Int32) (1 : Int32) h0 n0 O0) hZ (hw _ (List.mem_of_getElem? (i := 26) rfl)) (hw _ (List.mem_of_getElem? (i := 25) rfl)) (by decide) (by decide)) (g := (mkF m 85 #[.val (.int p1), .val (.int (1 : Int32)), .val (.int (hF 0 p1)), .val (.int (hF 1 p1)), .val (.int (hF 2 p1)), .val (.int (hF 3 p1))] [(.int (1 : Int32)), (.int (3 : Int32)), (.int (hF 3 p1))])) rfl (by rw [hml]; rfl) (argsL := [(.int (3 : Int32)), (.int (1 : Int32))]) (rest := [(.int (hF 3 p1))]) (lenOf pd2 rfl) rfl (by show 2 * 0 + _ ≤ _; exact Nat.le_of_eq rfl) (hb hby at_85) (fun _ _ => ⟨rfl, e23, (by decide : 0 + 0 ≤ _), (by decide : 0 + 0 ≤ _)⟩)
      dsimp only [Pt.U, Pt.locs, Pt.cells, Pt.slots] at X24 l24 y24 z24 st24 hQ24
      subst l24 y24 z24
      obtain ⟨rfl, Nq24, e24⟩ := hQ24
      have N24 := Fr.app N23 Nq24
      obtain ⟨fs, hr, hrun, hended, hW, hsame⟩ := X24.leave (v := some (.int (1 : Int32))) (fun h => by rw [Bd.returns] at h; cases h)
      refine ⟨_, _, pre0 _ ?_, hrun, hended, _, _, rfl, ?_, ⟨_, rfl⟩, hW, hsame.mono (by decide) (by decide)⟩
      · show Steps p.tables e below (s₁.setTop (mkF m 0 #[.val (.int p1), .unset, .unset, .unset, .unset, .unset] [])) _
        refine XS.iloadN X0.here hx rfl (hb hby at_0) rfl ?_
        show Steps p.tables e below (s₁.setTop (mkF m 1 #[.val (.int p1), .unset, .unset, .unset, .unset, .unset] [(.int p1)])) _
        refine XS.ifYes X0.here hx rfl (pc0 := 1) (pc' := 8) rfl (hb hby at_1) rfl ((if0 _ _).trans (flt hc1).2.1) (by decide) (by decide) ?_
        show Steps p.tables e below (s₁.setTop (mkF m 8 #[.val (.int p1), .unset, .unset, .unset, .unset, .unset] [])) _
        refine XS.iloadN X0.here hx rfl (hb hby at_8) rfl ?_
        show Steps p.tables e below (s₁.setTop (mkF m 9 #[.val (.int p1), .unset, .unset, .unset, .unset, .unset] [(.int p1)])) _
        refine XS.ifNo X0.here hx rfl (hb hby at_9) rfl ((if0 _ _).trans (teq hc9).2) ?_
        show Steps p.tables e below (s₁.setTop (mkF m 12 #[.val (.int p1), .unset, .unset, .unset, .unset, .unset] [])) _
        refine XS.iconst X0.here hx rfl (hb hby at_12) ?_
        show Steps p.tables e below (s₁.setTop (mkF m 13 #[.val (.int p1), .unset, .unset, .unset, .unset, .unset] [(.int (1 : Int32))])) _
        refine XS.goto X0.here hx rfl (pc0 := 13) (pc' := 17) rfl (hb hby at_13) (by decide) (by decide) ?_
        show Steps p.tables e below (s₁.setTop (mkF m 17 #[.val (.int p1), .unset, .unset, .unset, .unset, .unset] [(.int (1 : Int32))])) _
        refine XS.istoreN X0.here hx rfl (hb hby at_17) rfl (l' := #[.val (.int p1), .val (.int (1 : Int32)), .unset, .unset, .unset, .unset]) rfl ?_
        show Steps p.tables e below (s₁.setTop (mkF m 18 #[.val (.int p1), .val (.int (1 : Int32)), .unset, .unset, .unset, .unset] [])) _
        refine st13 _ ?_
        show Steps p.tables e below (T13.setTop (mkF m 21 #[.val (.int p1), .val (.int (1 : Int32)), .unset, .unset, .unset, .unset] [(.ref w0)])) _
        refine XS.iloadN X13.here hx rfl (hb hby at_21) rfl ?_
        show Steps p.tables e below (T13.setTop (mkF m 22 #[.val (.int p1), .val (.int (1 : Int32)), .unset, .unset, .unset, .unset] [(.int p1), (.ref w0)])) _
        refine st14.trans ?_
        show Steps p.tables e below (T14.setTop (mkF m 25 #[.val (.int p1), .val (.int (1 : Int32)), .unset, .unset, .unset, .unset] [(.int (hF 0 p1))])) _
        refine XS.istoreN X14.here hx rfl (hb hby at_25) rfl (l' := #[.val (.int p1), .val (.int (1 : Int32)), .val (.int (hF 0 p1)), .unset, .unset, .unset]) rfl ?_
        show Steps p.tables e below (T14.setTop (mkF m 26 #[.val (.int p1), .val (.int (1 : Int32)), .val (.int (hF 0 p1)), .unset, .unset, .unset] [])) _
        refine st15 _ ?_
        show Steps p.tables e below (T15.setTop (mkF m 29 #[.val (.int p1), .val (.int (1 : Int32)), .val (.int (hF 0 p1)), .unset, .unset, .unset] [(.ref w1)])) _
        refine XS.iloadN X15.here hx rfl (hb hby at_29) rfl ?_
        show Steps p.tables e below (T15.setTop (mkF m 30 #[.val (.int p1), .val (.int (1 : Int32)), .val (.int (hF 0 p1)), .unset, .unset, .unset] [(.int p1), (.ref w1)])) _
        refine st16.trans ?_
        show Steps p.tables e below (T16.setTop (mkF m 33 #[.val (.int p1), .val (.int (1 : Int32)), .val (.int (hF 0 p1)), .unset, .unset, .unset] [(.int (hF 1 p1))])) _
        refine XS.istoreN X16.here hx rfl (hb hby at_33) rfl (l' := #[.val (.int p1), .val (.int (1 : Int32)), .val (.int (hF 0 p1)), .val (.int (hF 1 p1)), .unset, .unset]) rfl ?_
        show Steps p.tables e below (T16.setTop (mkF m 34 #[.val (.int p1), .val (.int (1 : Int32)), .val (.int (hF 0 p1)), .val (.int (hF 1 p1)), .unset, .unset] [])) _
        refine st17 _ ?_
        show Steps p.tables e below (T17.setTop (mkF m 37 #[.val (.int p1), .val (.int (1 : Int32)), .val (.int (hF 0 p1)), .val (.int (hF 1 p1)), .unset, .unset] [(.ref w2)])) _
        refine XS.iloadN X17.here hx rfl (hb hby at_37) rfl ?_
        show Steps p.tables e below (T17.setTop (mkF m 38 #[.val (.int p1), .val (.int (1 : Int32)), .val (.int (hF 0 p1)), .val (.int (hF 1 p1)), .unset, .unset] [(.int p1), (.ref w2)])) _
        refine st18.trans ?_
        show Steps p.tables e below (T18.setTop (mkF m 41 #[.val (.int p1), .val (.int (1 : Int32)), .val (.int (hF 0 p1)), .val (.int (hF 1 p1)), .unset, .unset] [(.int (hF 2 p1))])) _
        refine XS.istore X18.here hx rfl (hb hby at_41) rfl (l' := #[.val (.int p1), .val (.int (1 : Int32)), .val (.int (hF 0 p1)), .val (.int (hF 1 p1)), .val (.int (hF 2 p1)), .unset]) rfl ?_
        show Steps p.tables e below (T18.setTop (mkF m 43 #[.val (.int p1), .val (.int (1 : Int32)), .val (.int (hF 0 p1)), .val (.int (hF 1 p1)), .val (.int (hF 2 p1)), .unset] [])) _
        refine st19 _ ?_
        show Steps p.tables e below (T19.setTop (mkF m 46 #[.val (.int p1), .val (.int (1 : Int32)), .val (.int (hF 0 p1)), .val (.int (hF 1 p1)), .val (.int (hF 2 p1)), .unset] [(.ref w3)])) _
        refine XS.iloadN X19.here hx rfl (hb hby at_46) rfl ?_
        show Steps p.tables e below (T19.setTop (mkF m 47 #[.val (.int p1), .val (.int (1 : Int32)), .val (.int (hF 0 p1)), .val (.int (hF 1 p1)), .val (.int (hF 2 p1)), .unset] [(.int p1), (.ref w3)])) _
        refine st20.trans ?_
        show Steps p.tables e below (T20.setTop (mkF m 50 #[.val (.int p1), .val (.int (1 : Int32)), .val (.int (hF 0 p1)), .val (.int (hF 1 p1)), .val (.int (hF 2 p1)), .unset] [(.int (hF 3 p1))])) _
        refine XS.istore X20.here hx rfl (hb hby at_50) rfl (l' := #[.val (.int p1), .val (.int (1 : Int32)), .val (.int (hF 0 p1)), .val (.int (hF 1 p1)), .val (.int (hF 2 p1)), .val (.int (hF 3 p1))]) rfl ?_
        show Steps p.tables e below (T20.setTop (mkF m 52 #[.val (.int p1), .val (.int (1 : Int32)), .val (.int (hF 0 p1)), .val (.int (hF 1 p1)), .val (.int (hF 2 p1)), .val (.int (hF 3 p1))] [])) _
        refine XS.iloadN X20.here hx rfl (hb hby at_52) rfl ?_
        show Steps p.tables e below (T20.setTop (mkF m 53 #[.val (.int p1), .val (.int (1 : Int32)), .val (.int (hF 0 p1)), .val (.int (hF 1 p1)), .val (.int (hF 2 p1)), .val (.int (hF 3 p1))] [(.int (hF 0 p1))])) _
        refine XS.bipush X20.here hx rfl (hb hby at_53) ?_
        show Steps p.tables e below (T20.setTop (mkF m 55 #[.val (.int p1), .val (.int (1 : Int32)), .val (.int (hF 0 p1)), .val (.int (hF 1 p1)), .val (.int (hF 2 p1)), .val (.int (hF 3 p1))] [(.int (6 : Int32)), (.int (hF 0 p1))])) _
        refine XS.iloadN X20.here hx rfl (hb hby at_55) rfl ?_
        show Steps p.tables e below (T20.setTop (mkF m 56 #[.val (.int p1), .val (.int (1 : Int32)), .val (.int (hF 0 p1)), .val (.int (hF 1 p1)), .val (.int (hF 2 p1)), .val (.int (hF 3 p1))] [(.int (1 : Int32)), (.int (6 : Int32)), (.int (hF 0 p1))])) _
        refine st21 _ ?_
        show Steps p.tables e below (T21.setTop (mkF m 59 #[.val (.int p1), .val (.int (1 : Int32)), .val (.int (hF 0 p1)), .val (.int (hF 1 p1)), .val (.int (hF 2 p1)), .val (.int (hF 3 p1))] [(.int (bitF (6 : Int32) (1 : Int32))), (.int (hF 0 p1))])) _
        refine XS.icmpNo X21.here hx rfl (hb hby at_59) rfl (teq (by rw [hc9]; decide)).2 ?_
        show Steps p.tables e below (T21.setTop (mkF m 62 #[.val (.int p1), .val (.int (1 : Int32)), .val (.int (hF 0 p1)), .val (.int (hF 1 p1)), .val (.int (hF 2 p1)), .val (.int (hF 3 p1))] [])) _
        refine XS.iloadN X21.here hx rfl (hb hby at_62) rfl ?_
        show Steps p.tables e below (T21.setTop (mkF m 63 #[.val (.int p1), .val (.int (1 : Int32)), .val (.int (hF 0 p1)), .val (.int (hF 1 p1)), .val (.int (hF 2 p1)), .val (.int (hF 3 p1))] [(.int (hF 1 p1))])) _
        refine XS.iconst X21.here hx rfl (hb hby at_63) ?_
        show Steps p.tables e below (T21.setTop (mkF m 64 #[.val (.int p1), .val (.int (1 : Int32)), .val (.int (hF 0 p1)), .val (.int (hF 1 p1)), .val (.int (hF 2 p1)), .val (.int (hF 3 p1))] [(.int (4 : Int32)), (.int (hF 1 p1))])) _
        refine XS.iloadN X21.here hx rfl (hb hby at_64) rfl ?_
        show Steps p.tables e below (T21.setTop (mkF m 65 #[.val (.int p1), .val (.int (1 : Int32)), .val (.int (hF 0 p1)), .val (.int (hF 1 p1)), .val (.int (hF 2 p1)), .val (.int (hF 3 p1))] [(.int (1 : Int32)), (.int (4 : Int32)), (.int (hF 1 p1))])) _
        refine st22 _ ?_
        show Steps p.tables e below (T22.setTop (mkF m 68 #[.val (.int p1), .val (.int (1 : Int32)), .val (.int (hF 0 p1)), .val (.int (hF 1 p1)), .val (.int (hF 2 p1)), .val (.int (hF 3 p1))] [(.int (bitF (4 : Int32) (1 : Int32))), (.int (hF 1 p1))])) _
        refine XS.icmpNo X22.here hx rfl (hb hby at_68) rfl (teq (by rw [hc9]; decide)).2 ?_
        show Steps p.tables e below (T22.setTop (mkF m 71 #[.val (.int p1), .val (.int (1 : Int32)), .val (.int (hF 0 p1)), .val (.int (hF 1 p1)), .val (.int (hF 2 p1)), .val (.int (hF 3 p1))] [])) _
        refine XS.iload X22.here hx rfl (hb hby at_71) rfl ?_
        show Steps p.tables e below (T22.setTop (mkF m 73 #[.val (.int p1), .val (.int (1 : Int32)), .val (.int (hF 0 p1)), .val (.int (hF 1 p1)), .val (.int (hF 2 p1)), .val (.int (hF 3 p1))] [(.int (hF 2 p1))])) _
        refine XS.iconst X22.here hx rfl (hb hby at_73) ?_
        show Steps p.tables e below (T22.setTop (mkF m 74 #[.val (.int p1), .val (.int (1 : Int32)), .val (.int (hF 0 p1)), .val (.int (hF 1 p1)), .val (.int (hF 2 p1)), .val (.int (hF 3 p1))] [(.int (1 : Int32)), (.int (hF 2 p1))])) _
        refine XS.iloadN X22.here hx rfl (hb hby at_74) rfl ?_
        show Steps p.tables e below (T22.setTop (mkF m 75 #[.val (.int p1), .val (.int (1 : Int32)), .val (.int (hF 0 p1)), .val (.int (hF 1 p1)), .val (.int (hF 2 p1)), .val (.int (hF 3 p1))] [(.int (1 : Int32)), (.int (1 : Int32)), (.int (hF 2 p1))])) _
        refine st23 _ ?_
        show Steps p.tables e below (T23.setTop (mkF m 78 #[.val (.int p1), .val (.int (1 : Int32)), .val (.int (hF 0 p1)), .val (.int (hF 1 p1)), .val (.int (hF 2 p1)), .val (.int (hF 3 p1))] [(.int (bitF (1 : Int32) (1 : Int32))), (.int (hF 2 p1))])) _
        refine XS.icmpNo X23.here hx rfl (hb hby at_78) rfl (teq (by rw [hc9]; decide)).2 ?_
        show Steps p.tables e below (T23.setTop (mkF m 81 #[.val (.int p1), .val (.int (1 : Int32)), .val (.int (hF 0 p1)), .val (.int (hF 1 p1)), .val (.int (hF 2 p1)), .val (.int (hF 3 p1))] [])) _
        refine XS.iload X23.here hx rfl (hb hby at_81) rfl ?_
        show Steps p.tables e below (T23.setTop (mkF m 83 #[.val (.int p1), .val (.int (1 : Int32)), .val (.int (hF 0 p1)), .val (.int (hF 1 p1)), .val (.int (hF 2 p1)), .val (.int (hF 3 p1))] [(.int (hF 3 p1))])) _
        refine XS.iconst X23.here hx rfl (hb hby at_83) ?_
        show Steps p.tables e below (T23.setTop (mkF m 84 #[.val (.int p1), .val (.int (1 : Int32)), .val (.int (hF 0 p1)), .val (.int (hF 1 p1)), .val (.int (hF 2 p1)), .val (.int (hF 3 p1))] [(.int (3 : Int32)), (.int (hF 3 p1))])) _
        refine XS.iloadN X23.here hx rfl (hb hby at_84) rfl ?_
        show Steps p.tables e below (T23.setTop (mkF m 85 #[.val (.int p1), .val (.int (1 : Int32)), .val (.int (hF 0 p1)), .val (.int (hF 1 p1)), .val (.int (hF 2 p1)), .val (.int (hF 3 p1))] [(.int (1 : Int32)), (.int (3 : Int32)), (.int (hF 3 p1))])) _
        refine st24 _ ?_
        show Steps p.tables e below (T24.setTop (mkF m 88 #[.val (.int p1), .val (.int (1 : Int32)), .val (.int (hF 0 p1)), .val (.int (hF 1 p1)), .val (.int (hF 2 p1)), .val (.int (hF 3 p1))] [(.int (bitF (3 : Int32) (1 : Int32))), (.int (hF 3 p1))])) _
        refine XS.icmpNo X24.here hx rfl (hb hby at_88) rfl (teq (by rw [hc9]; decide)).2 ?_
        show Steps p.tables e below (T24.setTop (mkF m 91 #[.val (.int p1), .val (.int (1 : Int32)), .val (.int (hF 0 p1)), .val (.int (hF 1 p1)), .val (.int (hF 2 p1)), .val (.int (hF 3 p1))] [])) _
        refine XS.iconst X24.here hx rfl (hb hby at_91) ?_
        show Steps p.tables e below (T24.setTop (mkF m 92 #[.val (.int p1), .val (.int (1 : Int32)), .val (.int (hF 0 p1)), .val (.int (hF 1 p1)), .val (.int (hF 2 p1)), .val (.int (hF 3 p1))] [(.int (1 : Int32))])) _
        refine XS.goto X24.here hx rfl (pc0 := 92) (pc' := 96) rfl (hb hby at_92) (by decide) (by decide) ?_
        show Steps p.tables e below (T24.setTop (mkF m 96 #[.val (.int p1), .val (.int (1 : Int32)), .val (.int (hF 0 p1)), .val (.int (hF 1 p1)), .val (.int (hF 2 p1)), .val (.int (hF 3 p1))] [(.int (1 : Int32))])) _
        exact retN X24 hx (t := .boolean) Bd.returns (by simp) (hb hby at_96) hr
      · show Q0 n0 _ T24.heap _
        rw [e24]
        exact ⟨rfl, N24⟩
    · obtain ⟨T25, X25, e25, st25⟩ := getS2 X0 hx hZ hown (host := "") (Or.inl (hw _ (List.mem_of_getElem? (i := 0) rfl))) Via.refl e0 (S_AT_LEAST.ext O0.2) (g := (mkF m 18 #[.val (.int p1), .val (.int (2 : Int32)), .unset, .unset, .unset, .unset] [])) rfl (hb hby at_18)
      obtain ⟨cq26, kq26, qa26, qb26, qc26⟩ := isOf hZ e25 (E0.ext O0.2)
      obtain ⟨_, _, ⟨T26, L26, k26, n26⟩, -, X26, ⟨Lc26, hQ26, l26, y26, z26⟩, st26⟩ := X25.virtualBack hx (y := (⟨"com/example/downtally/downtally/contract/Threshold$Comparison", "holds", "(I)Z"⟩ : MethodName)) (z := (⟨"com/example/downtally/downtally/contract/Threshold$Comparison", "holds", "(I)Z"⟩ : MethodName)) hown (mvT hZ (hw _ (List.mem_of_getElem? (i := 3) rfl))) (mvT hZ (hw _ (List.mem_of_getElem? (i := 4) rfl))) (notFace_of_selects (args := #[]) (mvT hZ (hw _ (List.mem_of_getElem? (i := 6) rfl)))) (mvT hZ (hw _ (List.mem_of_getElem? (i := 6) rfl))) (mvT hZ (hw _ (List.mem_of_getElem? (i := 5) rfl))) (by decide) (backOf (W := 0) (rmh0 l Z a0 hw [] w0 p1 h0 n0 O0 E0 F0) hZ (hw _ (List.mem_of_getElem? (i := 7) rfl)) (hw _ (List.mem_of_getElem? (i := 1) rfl)) (by decide) (by decide)) qa26 qc26 (g := (mkF m 22 #[.val (.int p1), .val (.int (2 : Int32)), .unset, .unset, .unset, .unset] [(.int p1), (.ref w0)])) rfl (by rw [hml]; rfl) (Steps.refl _) (argsL := [(.int p1)]) (rest := []) (lenOf pd1 rfl) rfl (by show 2 * 0 + _ ≤ _; exact Nat.le_of_eq rfl) (hb hby at_22) (fun _ _ => ⟨rfl, e25, (by decide : 0 + 0 ≤ _), (by decide : 0 + 0 ≤ _)⟩)
      dsimp only [Pt.U, Pt.locs, Pt.cells, Pt.slots] at X26 l26 y26 z26 st26 hQ26
      subst l26 y26 z26
      obtain ⟨rfl, Nq26, e26⟩ := hQ26
      have N26 := Fr.app N0 Nq26
      obtain ⟨T27, X27, e27, st27⟩ := getS2 X26 hx hZ hown (host := "") (Or.inl (hw _ (List.mem_of_getElem? (i := 17) rfl))) Via.refl e26 (S_ABOVE.ext O0.2) (g := (mkF m 26 #[.val (.int p1), .val (.int (2 : Int32)), .val (.int (hF 0 p1)), .unset, .unset, .unset] [])) rfl (hb hby at_26)
      obtain ⟨cq28, kq28, qa28, qb28, qc28⟩ := isOf hZ e27 (E1.ext O0.2)
      obtain ⟨_, _, ⟨T28, L28, k28, n28⟩, -, X28, ⟨Lc28, hQ28, l28, y28, z28⟩, st28⟩ := X27.virtualBack hx (y := (⟨"com/example/downtally/downtally/contract/Threshold$Comparison", "holds", "(I)Z"⟩ : MethodName)) (z := (⟨"com/example/downtally/downtally/contract/Threshold$Comparison", "holds", "(I)Z"⟩ : MethodName)) hown (mvT hZ (hw _ (List.mem_of_getElem? (i := 3) rfl))) (mvT hZ (hw _ (List.mem_of_getElem? (i := 4) rfl))) (notFace_of_selects (args := #[]) (mvT hZ (hw _ (List.mem_of_getElem? (i := 6) rfl)))) (mvT hZ (hw _ (List.mem_of_getElem? (i := 6) rfl))) (mvT hZ (hw _ (List.mem_of_getElem? (i := 5) rfl))) (by decide) (backOf (W := 0) (rmh1 l Z a0 hw [] w1 p1 h0 n0 O0 E1 F1) hZ (hw _ (List.mem_of_getElem? (i := 7) rfl)) (hw _ (List.mem_of_getElem? (i := 1) rfl)) (by decide) (by decide)) qa28 qc28 (g := (mkF m 30 #[.val (.int p1), .val (.int (2 : Int32)), .val (.int (hF 0 p1)), .unset, .unset, .unset] [(.int p1), (.ref w1)])) rfl (by rw [hml]; rfl) (Steps.refl _) (argsL := [(.int p1)]) (rest := []) (lenOf pd1 rfl) rfl (by show 2 * 0 + _ ≤ _; exact Nat.le_of_eq rfl) (hb hby at_30) (fun _ _ => ⟨rfl, e27, (by decide : 0 + 0 ≤ _), (by decide : 0 + 0 ≤ _)⟩)
      dsimp only [Pt.U, Pt.locs, Pt.cells, Pt.slots] at X28 l28 y28 z28 st28 hQ28
      subst l28 y28 z28
      obtain ⟨rfl, Nq28, e28⟩ := hQ28
      have N28 := Fr.app N26 Nq28
      obtain ⟨T29, X29, e29, st29⟩ := getS2 X28 hx hZ hown (host := "") (Or.inl (hw _ (List.mem_of_getElem? (i := 19) rfl))) Via.refl e28 (S_BELOW.ext O0.2) (g := (mkF m 34 #[.val (.int p1), .val (.int (2 : Int32)), .val (.int (hF 0 p1)), .val (.int (hF 1 p1)), .unset, .unset] [])) rfl (hb hby at_34)
      obtain ⟨cq30, kq30, qa30, qb30, qc30⟩ := isOf hZ e29 (E2.ext O0.2)
      obtain ⟨_, _, ⟨T30, L30, k30, n30⟩, -, X30, ⟨Lc30, hQ30, l30, y30, z30⟩, st30⟩ := X29.virtualBack hx (y := (⟨"com/example/downtally/downtally/contract/Threshold$Comparison", "holds", "(I)Z"⟩ : MethodName)) (z := (⟨"com/example/downtally/downtally/contract/Threshold$Comparison", "holds", "(I)Z"⟩ : MethodName)) hown (mvT hZ (hw _ (List.mem_of_getElem? (i := 3) rfl))) (mvT hZ (hw _ (List.mem_of_getElem? (i := 4) rfl))) (notFace_of_selects (args := #[]) (mvT hZ (hw _ (List.mem_of_getElem? (i := 6) rfl)))) (mvT hZ (hw _ (List.mem_of_getElem? (i := 6) rfl))) (mvT hZ (hw _ (List.mem_of_getElem? (i := 5) rfl))) (by decide) (backOf (W := 0) (rmh2 l Z a0 hw [] w2 p1 h0 n0 O0 E2 F2) hZ (hw _ (List.mem_of_getElem? (i := 7) rfl)) (hw _ (List.mem_of_getElem? (i := 1) rfl)) (by decide) (by decide)) qa30 qc30 (g := (mkF m 38 #[.val (.int p1), .val (.int (2 : Int32)), .val (.int (hF 0 p1)), .val (.int (hF 1 p1)), .unset, .unset] [(.int p1), (.ref w2)])) rfl (by rw [hml]; rfl) (Steps.refl _) (argsL := [(.int p1)]) (rest := []) (lenOf pd1 rfl) rfl (by show 2 * 0 + _ ≤ _; exact Nat.le_of_eq rfl) (hb hby at_38) (fun _ _ => ⟨rfl, e29, (by decide : 0 + 0 ≤ _), (by decide : 0 + 0 ≤ _)⟩)
      dsimp only [Pt.U, Pt.locs, Pt.cells, Pt.slots] at X30 l30 y30 z30 st30 hQ30
      subst l30 y30 z30
      obtain ⟨rfl, Nq30, e30⟩ := hQ30
      have N30 := Fr.app N28 Nq30
      obtain ⟨T31, X31, e31, st31⟩ := getS2 X30 hx hZ hown (host := "") (Or.inl (hw _ (List.mem_of_getElem? (i := 21) rfl))) Via.refl e30 (S_AT_MOST.ext O0.2) (g := (mkF m 43 #[.val (.int p1), .val (.int (2 : Int32)), .val (.int (hF 0 p1)), .val (.int (hF 1 p1)), .val (.int (hF 2 p1)), .unset] [])) rfl (hb hby at_43)
      obtain ⟨cq32, kq32, qa32, qb32, qc32⟩ := isOf hZ e31 (E3.ext O0.2)
      obtain ⟨_, _, ⟨T32, L32, k32, n32⟩, -, X32, ⟨Lc32, hQ32, l32, y32, z32⟩, st32⟩ := X31.virtualBack hx (y := (⟨"com/example/downtally/downtally/contract/Threshold$Comparison", "holds", "(I)Z"⟩ : MethodName)) (z := (⟨"com/example/downtally/downtally/contract/Threshold$Comparison", "holds", "(I)Z"⟩ : MethodName)) hown (mvT hZ (hw _ (List.mem_of_getElem? (i := 3) rfl))) (mvT hZ (hw _ (List.mem_of_getElem? (i := 4) rfl))) (notFace_of_selects (args := #[]) (mvT hZ (hw _ (List.mem_of_getElem? (i := 6) rfl)))) (mvT hZ (hw _ (List.mem_of_getElem? (i := 6) rfl))) (mvT hZ (hw _ (List.mem_of_getElem? (i := 5) rfl))) (by decide) (backOf (W := 0) (rmh3 l Z a0 hw [] w3 p1 h0 n0 O0 E3 F3) hZ (hw _ (List.mem_of_getElem? (i := 7) rfl)) (hw _ (List.mem_of_getElem? (i := 1) rfl)) (by decide) (by decide)) qa32 qc32 (g := (mkF m 47 #[.val (.int p1), .val (.int (2 : Int32)), .val (.int (hF 0 p1)), .val (.int (hF 1 p1)), .val (.int (hF 2 p1)), .unset] [(.int p1), (.ref w3)])) rfl (by rw [hml]; rfl) (Steps.refl _) (argsL := [(.int p1)]) (rest := []) (lenOf pd1 rfl) rfl (by show 2 * 0 + _ ≤ _; exact Nat.le_of_eq rfl) (hb hby at_47) (fun _ _ => ⟨rfl, e31, (by decide : 0 + 0 ≤ _), (by decide : 0 + 0 ≤ _)⟩)
      dsimp only [Pt.U, Pt.locs, Pt.cells, Pt.slots] at X32 l32 y32 z32 st32 hQ32
      subst l32 y32 z32
      obtain ⟨rfl, Nq32, e32⟩ := hQ32
      have N32 := Fr.app N30 Nq32
      obtain ⟨_, _, ⟨T33, L33, k33, n33⟩, -, X33, ⟨Lc33, hQ33, l33, y33, z33⟩, st33⟩ := Jvm.LawKit.callS X32 hx (y := (⟨"com/example/downtally/downtally/contract/ComparisonHoldsPinLaw", "bit", "(II)Z"⟩ : MethodName)) hown (mvT hZ (hw _ (List.mem_of_getElem? (i := 23) rfl))) (mvT hZ (hw _ (List.mem_of_getElem? (i := 24) rfl))) (mvT hZ (hw _ (List.mem_of_getElem? (i := 25) rfl))) (mvT hZ (hw _ (List.mem_of_getElem? (i := 26) rfl))) (by decide) (backOf (W := 1) (rmb l Z a0 hw [] (6 : Int32) (2 : Int32) h0 n0 O0) hZ (hw _ (List.mem_of_getElem? (i := 26) rfl)) (hw _ (List.mem_of_getElem? (i := 25) rfl)) (by decide) (by decide)) (g := (mkF m 56 #[.val (.int p1), .val (.int (2 : Int32)), .val (.int (hF 0 p1)), .val (.int (hF 1 p1)), .val (.int (hF 2 p1)), .val (.int (hF 3 p1))] [(.int (2 : Int32)), (.int (6 : Int32)), (.int (hF 0 p1))])) rfl (by rw [hml]; rfl) (argsL := [(.int (6 : Int32)), (.int (2 : Int32))]) (rest := [(.int (hF 0 p1))]) (lenOf pd2 rfl) rfl (by show 2 * 0 + _ ≤ _; exact Nat.le_of_eq rfl) (hb hby at_56) (fun _ _ => ⟨rfl, e32, (by decide : 0 + 0 ≤ _), (by decide : 0 + 0 ≤ _)⟩)
      dsimp only [Pt.U, Pt.locs, Pt.cells, Pt.slots] at X33 l33 y33 z33 st33 hQ33
      subst l33 y33 z33
      obtain ⟨rfl, Nq33, e33⟩ := hQ33
      have N33 := Fr.app N32 Nq33
      obtain ⟨_, _, ⟨T34, L34, k34, n34⟩, -, X34, ⟨Lc34, hQ34, l34, y34, z34⟩, st34⟩ := Jvm.LawKit.callS X33 hx (y := (⟨"com/example/downtally/downtally/contract/ComparisonHoldsPinLaw", "bit", "(II)Z"⟩ : MethodName)) hown (mvT hZ (hw _ (List.mem_of_getElem? (i := 23) rfl))) (mvT hZ (hw _ (List.mem_of_getElem? (i := 24) rfl))) (mvT hZ (hw _ (List.mem_of_getElem? (i := 25) rfl))) (mvT hZ (hw _ (List.mem_of_getElem? (i := 26) rfl))) (by decide) (backOf (W := 1) (rmb l Z a0 hw [] (4 : Int32) (2 : Int32) h0 n0 O0) hZ (hw _ (List.mem_of_getElem? (i := 26) rfl)) (hw _ (List.mem_of_getElem? (i := 25) rfl)) (by decide) (by decide)) (g := (mkF m 65 #[.val (.int p1), .val (.int (2 : Int32)), .val (.int (hF 0 p1)), .val (.int (hF 1 p1)), .val (.int (hF 2 p1)), .val (.int (hF 3 p1))] [(.int (2 : Int32)), (.int (4 : Int32)), (.int (hF 1 p1))])) rfl (by rw [hml]; rfl) (argsL := [(.int (4 : Int32)), (.int (2 : Int32))]) (rest := [(.int (hF 1 p1))]) (lenOf pd2 rfl) rfl (by show 2 * 0 + _ ≤ _; exact Nat.le_of_eq rfl) (hb hby at_65) (fun _ _ => ⟨rfl, e33, (by decide : 0 + 0 ≤ _), (by decide : 0 + 0 ≤ _)⟩)
      dsimp only [Pt.U, Pt.locs, Pt.cells, Pt.slots] at X34 l34 y34 z34 st34 hQ34
      subst l34 y34 z34
      obtain ⟨rfl, Nq34, e34⟩ := hQ34
      have N34 := Fr.app N33 Nq34
      obtain ⟨_, _, ⟨T35, L35, k35, n35⟩, -, X35, ⟨Lc35, hQ35, l35, y35, z35⟩, st35⟩ := Jvm.LawKit.callS X34 hx (y := (⟨"com/example/downtally/downtally/contract/ComparisonHoldsPinLaw", "bit", "(II)Z"⟩ : MethodName)) hown (mvT hZ (hw _ (List.mem_of_getElem? (i := 23) rfl))) (mvT hZ (hw _ (List.mem_of_getElem? (i := 24) rfl))) (mvT hZ (hw _ (List.mem_of_getElem? (i := 25) rfl))) (mvT hZ (hw _ (List.mem_of_getElem? (i := 26) rfl))) (by decide) (backOf (W := 1) (rmb l Z a0 hw [] (1 : Int32) (2 : Int32) h0 n0 O0) hZ (hw _ (List.mem_of_getElem? (i := 26) rfl)) (hw _ (List.mem_of_getElem? (i := 25) rfl)) (by decide) (by decide)) (g := (mkF m 75 #[.val (.int p1), .val (.int (2 : Int32)), .val (.int (hF 0 p1)), .val (.int (hF 1 p1)), .val (.int (hF 2 p1)), .val (.int (hF 3 p1))] [(.int (2 : Int32)), (.int (1 : Int32)), (.int (hF 2 p1))])) rfl (by rw [hml]; rfl) (argsL := [(.int (1 : Int32)), (.int (2 : Int32))]) (rest := [(.int (hF 2 p1))]) (lenOf pd2 rfl) rfl (by show 2 * 0 + _ ≤ _; exact Nat.le_of_eq rfl) (hb hby at_75) (fun _ _ => ⟨rfl, e34, (by decide : 0 + 0 ≤ _), (by decide : 0 + 0 ≤ _)⟩)
      dsimp only [Pt.U, Pt.locs, Pt.cells, Pt.slots] at X35 l35 y35 z35 st35 hQ35
      subst l35 y35 z35
      obtain ⟨rfl, Nq35, e35⟩ := hQ35
      have N35 := Fr.app N34 Nq35
      obtain ⟨_, _, ⟨T36, L36, k36, n36⟩, -, X36, ⟨Lc36, hQ36, l36, y36, z36⟩, st36⟩ := Jvm.LawKit.callS X35 hx (y := (⟨"com/example/downtally/downtally/contract/ComparisonHoldsPinLaw", "bit", "(II)Z"⟩ : MethodName)) hown (mvT hZ (hw _ (List.mem_of_getElem? (i := 23) rfl))) (mvT hZ (hw _ (List.mem_of_getElem? (i := 24) rfl))) (mvT hZ (hw _ (List.mem_of_getElem? (i := 25) rfl))) (mvT hZ (hw _ (List.mem_of_getElem? (i := 26) rfl))) (by decide) (backOf (W := 1) (rmb l Z a0 hw [] (3 : Int32) (2 : Int32) h0 n0 O0) hZ (hw _ (List.mem_of_getElem? (i := 26) rfl)) (hw _ (List.mem_of_getElem? (i := 25) rfl)) (by decide) (by decide)) (g := (mkF m 85 #[.val (.int p1), .val (.int (2 : Int32)), .val (.int (hF 0 p1)), .val (.int (hF 1 p1)), .val (.int (hF 2 p1)), .val (.int (hF 3 p1))] [(.int (2 : Int32)), (.int (3 : Int32)), (.int (hF 3 p1))])) rfl (by rw [hml]; rfl) (argsL := [(.int (3 : Int32)), (.int (2 : Int32))]) (rest := [(.int (hF 3 p1))]) (lenOf pd2 rfl) rfl (by show 2 * 0 + _ ≤ _; exact Nat.le_of_eq rfl) (hb hby at_85) (fun _ _ => ⟨rfl, e35, (by decide : 0 + 0 ≤ _), (by decide : 0 + 0 ≤ _)⟩)
      dsimp only [Pt.U, Pt.locs, Pt.cells, Pt.slots] at X36 l36 y36 z36 st36 hQ36
      subst l36 y36 z36
      obtain ⟨rfl, Nq36, e36⟩ := hQ36
      have N36 := Fr.app N35 Nq36
      obtain ⟨fs, hr, hrun, hended, hW, hsame⟩ := X36.leave (v := some (.int (1 : Int32))) (fun h => by rw [Bd.returns] at h; cases h)
      refine ⟨_, _, pre0 _ ?_, hrun, hended, _, _, rfl, ?_, ⟨_, rfl⟩, hW, hsame.mono (by decide) (by decide)⟩
      · show Steps p.tables e below (s₁.setTop (mkF m 0 #[.val (.int p1), .unset, .unset, .unset, .unset, .unset] [])) _
        refine XS.iloadN X0.here hx rfl (hb hby at_0) rfl ?_
        show Steps p.tables e below (s₁.setTop (mkF m 1 #[.val (.int p1), .unset, .unset, .unset, .unset, .unset] [(.int p1)])) _
        refine XS.ifYes X0.here hx rfl (pc0 := 1) (pc' := 8) rfl (hb hby at_1) rfl ((if0 _ _).trans (flt hc1).2.1) (by decide) (by decide) ?_
        show Steps p.tables e below (s₁.setTop (mkF m 8 #[.val (.int p1), .unset, .unset, .unset, .unset, .unset] [])) _
        refine XS.iloadN X0.here hx rfl (hb hby at_8) rfl ?_
        show Steps p.tables e below (s₁.setTop (mkF m 9 #[.val (.int p1), .unset, .unset, .unset, .unset, .unset] [(.int p1)])) _
        refine XS.ifYes X0.here hx rfl (pc0 := 9) (pc' := 16) rfl (hb hby at_9) rfl ((if0 _ _).trans (feq hc9).2) (by decide) (by decide) ?_
        show Steps p.tables e below (s₁.setTop (mkF m 16 #[.val (.int p1), .unset, .unset, .unset, .unset, .unset] [])) _
        refine XS.iconst X0.here hx rfl (hb hby at_16) ?_
        show Steps p.tables e below (s₁.setTop (mkF m 17 #[.val (.int p1), .unset, .unset, .unset, .unset, .unset] [(.int (2 : Int32))])) _
        refine XS.istoreN X0.here hx rfl (hb hby at_17) rfl (l' := #[.val (.int p1), .val (.int (2 : Int32)), .unset, .unset, .unset, .unset]) rfl ?_
        show Steps p.tables e below (s₁.setTop (mkF m 18 #[.val (.int p1), .val (.int (2 : Int32)), .unset, .unset, .unset, .unset] [])) _
        refine st25 _ ?_
        show Steps p.tables e below (T25.setTop (mkF m 21 #[.val (.int p1), .val (.int (2 : Int32)), .unset, .unset, .unset, .unset] [(.ref w0)])) _
        refine XS.iloadN X25.here hx rfl (hb hby at_21) rfl ?_
        show Steps p.tables e below (T25.setTop (mkF m 22 #[.val (.int p1), .val (.int (2 : Int32)), .unset, .unset, .unset, .unset] [(.int p1), (.ref w0)])) _
        refine st26.trans ?_
        show Steps p.tables e below (T26.setTop (mkF m 25 #[.val (.int p1), .val (.int (2 : Int32)), .unset, .unset, .unset, .unset] [(.int (hF 0 p1))])) _
        refine XS.istoreN X26.here hx rfl (hb hby at_25) rfl (l' := #[.val (.int p1), .val (.int (2 : Int32)), .val (.int (hF 0 p1)), .unset, .unset, .unset]) rfl ?_
        show Steps p.tables e below (T26.setTop (mkF m 26 #[.val (.int p1), .val (.int (2 : Int32)), .val (.int (hF 0 p1)), .unset, .unset, .unset] [])) _
        refine st27 _ ?_
        show Steps p.tables e below (T27.setTop (mkF m 29 #[.val (.int p1), .val (.int (2 : Int32)), .val (.int (hF 0 p1)), .unset, .unset, .unset] [(.ref w1)])) _
        refine XS.iloadN X27.here hx rfl (hb hby at_29) rfl ?_
        show Steps p.tables e below (T27.setTop (mkF m 30 #[.val (.int p1), .val (.int (2 : Int32)), .val (.int (hF 0 p1)), .unset, .unset, .unset] [(.int p1), (.ref w1)])) _
        refine st28.trans ?_
        show Steps p.tables e below (T28.setTop (mkF m 33 #[.val (.int p1), .val (.int (2 : Int32)), .val (.int (hF 0 p1)), .unset, .unset, .unset] [(.int (hF 1 p1))])) _
        refine XS.istoreN X28.here hx rfl (hb hby at_33) rfl (l' := #[.val (.int p1), .val (.int (2 : Int32)), .val (.int (hF 0 p1)), .val (.int (hF 1 p1)), .unset, .unset]) rfl ?_
        show Steps p.tables e below (T28.setTop (mkF m 34 #[.val (.int p1), .val (.int (2 : Int32)), .val (.int (hF 0 p1)), .val (.int (hF 1 p1)), .unset, .unset] [])) _
        refine st29 _ ?_
        show Steps p.tables e below (T29.setTop (mkF m 37 #[.val (.int p1), .val (.int (2 : Int32)), .val (.int (hF 0 p1)), .val (.int (hF 1 p1)), .unset, .unset] [(.ref w2)])) _
        refine XS.iloadN X29.here hx rfl (hb hby at_37) rfl ?_
        show Steps p.tables e below (T29.setTop (mkF m 38 #[.val (.int p1), .val (.int (2 : Int32)), .val (.int (hF 0 p1)), .val (.int (hF 1 p1)), .unset, .unset] [(.int p1), (.ref w2)])) _
        refine st30.trans ?_
        show Steps p.tables e below (T30.setTop (mkF m 41 #[.val (.int p1), .val (.int (2 : Int32)), .val (.int (hF 0 p1)), .val (.int (hF 1 p1)), .unset, .unset] [(.int (hF 2 p1))])) _
        refine XS.istore X30.here hx rfl (hb hby at_41) rfl (l' := #[.val (.int p1), .val (.int (2 : Int32)), .val (.int (hF 0 p1)), .val (.int (hF 1 p1)), .val (.int (hF 2 p1)), .unset]) rfl ?_
        show Steps p.tables e below (T30.setTop (mkF m 43 #[.val (.int p1), .val (.int (2 : Int32)), .val (.int (hF 0 p1)), .val (.int (hF 1 p1)), .val (.int (hF 2 p1)), .unset] [])) _
        refine st31 _ ?_
        show Steps p.tables e below (T31.setTop (mkF m 46 #[.val (.int p1), .val (.int (2 : Int32)), .val (.int (hF 0 p1)), .val (.int (hF 1 p1)), .val (.int (hF 2 p1)), .unset] [(.ref w3)])) _
        refine XS.iloadN X31.here hx rfl (hb hby at_46) rfl ?_
        show Steps p.tables e below (T31.setTop (mkF m 47 #[.val (.int p1), .val (.int (2 : Int32)), .val (.int (hF 0 p1)), .val (.int (hF 1 p1)), .val (.int (hF 2 p1)), .unset] [(.int p1), (.ref w3)])) _
        refine st32.trans ?_
        show Steps p.tables e below (T32.setTop (mkF m 50 #[.val (.int p1), .val (.int (2 : Int32)), .val (.int (hF 0 p1)), .val (.int (hF 1 p1)), .val (.int (hF 2 p1)), .unset] [(.int (hF 3 p1))])) _
        refine XS.istore X32.here hx rfl (hb hby at_50) rfl (l' := #[.val (.int p1), .val (.int (2 : Int32)), .val (.int (hF 0 p1)), .val (.int (hF 1 p1)), .val (.int (hF 2 p1)), .val (.int (hF 3 p1))]) rfl ?_
        show Steps p.tables e below (T32.setTop (mkF m 52 #[.val (.int p1), .val (.int (2 : Int32)), .val (.int (hF 0 p1)), .val (.int (hF 1 p1)), .val (.int (hF 2 p1)), .val (.int (hF 3 p1))] [])) _
        refine XS.iloadN X32.here hx rfl (hb hby at_52) rfl ?_
        show Steps p.tables e below (T32.setTop (mkF m 53 #[.val (.int p1), .val (.int (2 : Int32)), .val (.int (hF 0 p1)), .val (.int (hF 1 p1)), .val (.int (hF 2 p1)), .val (.int (hF 3 p1))] [(.int (hF 0 p1))])) _
        refine XS.bipush X32.here hx rfl (hb hby at_53) ?_
        show Steps p.tables e below (T32.setTop (mkF m 55 #[.val (.int p1), .val (.int (2 : Int32)), .val (.int (hF 0 p1)), .val (.int (hF 1 p1)), .val (.int (hF 2 p1)), .val (.int (hF 3 p1))] [(.int (6 : Int32)), (.int (hF 0 p1))])) _
        refine XS.iloadN X32.here hx rfl (hb hby at_55) rfl ?_
        show Steps p.tables e below (T32.setTop (mkF m 56 #[.val (.int p1), .val (.int (2 : Int32)), .val (.int (hF 0 p1)), .val (.int (hF 1 p1)), .val (.int (hF 2 p1)), .val (.int (hF 3 p1))] [(.int (2 : Int32)), (.int (6 : Int32)), (.int (hF 0 p1))])) _
        refine st33 _ ?_
        show Steps p.tables e below (T33.setTop (mkF m 59 #[.val (.int p1), .val (.int (2 : Int32)), .val (.int (hF 0 p1)), .val (.int (hF 1 p1)), .val (.int (hF 2 p1)), .val (.int (hF 3 p1))] [(.int (bitF (6 : Int32) (2 : Int32))), (.int (hF 0 p1))])) _
        refine XS.icmpNo X33.here hx rfl (hb hby at_59) rfl (teq (by simp only [hF]; simp only [hc1, own_p hc1 hc9, if_true, if_false]; decide)).2 ?_
        show Steps p.tables e below (T33.setTop (mkF m 62 #[.val (.int p1), .val (.int (2 : Int32)), .val (.int (hF 0 p1)), .val (.int (hF 1 p1)), .val (.int (hF 2 p1)), .val (.int (hF 3 p1))] [])) _
        refine XS.iloadN X33.here hx rfl (hb hby at_62) rfl ?_
        show Steps p.tables e below (T33.setTop (mkF m 63 #[.val (.int p1), .val (.int (2 : Int32)), .val (.int (hF 0 p1)), .val (.int (hF 1 p1)), .val (.int (hF 2 p1)), .val (.int (hF 3 p1))] [(.int (hF 1 p1))])) _
        refine XS.iconst X33.here hx rfl (hb hby at_63) ?_
        show Steps p.tables e below (T33.setTop (mkF m 64 #[.val (.int p1), .val (.int (2 : Int32)), .val (.int (hF 0 p1)), .val (.int (hF 1 p1)), .val (.int (hF 2 p1)), .val (.int (hF 3 p1))] [(.int (4 : Int32)), (.int (hF 1 p1))])) _
        refine XS.iloadN X33.here hx rfl (hb hby at_64) rfl ?_
        show Steps p.tables e below (T33.setTop (mkF m 65 #[.val (.int p1), .val (.int (2 : Int32)), .val (.int (hF 0 p1)), .val (.int (hF 1 p1)), .val (.int (hF 2 p1)), .val (.int (hF 3 p1))] [(.int (2 : Int32)), (.int (4 : Int32)), (.int (hF 1 p1))])) _
        refine st34 _ ?_
        show Steps p.tables e below (T34.setTop (mkF m 68 #[.val (.int p1), .val (.int (2 : Int32)), .val (.int (hF 0 p1)), .val (.int (hF 1 p1)), .val (.int (hF 2 p1)), .val (.int (hF 3 p1))] [(.int (bitF (4 : Int32) (2 : Int32))), (.int (hF 1 p1))])) _
        refine XS.icmpNo X34.here hx rfl (hb hby at_68) rfl (teq (by simp only [hF]; simp only [hc1, own_p hc1 hc9, if_true, if_false]; decide)).2 ?_
        show Steps p.tables e below (T34.setTop (mkF m 71 #[.val (.int p1), .val (.int (2 : Int32)), .val (.int (hF 0 p1)), .val (.int (hF 1 p1)), .val (.int (hF 2 p1)), .val (.int (hF 3 p1))] [])) _
        refine XS.iload X34.here hx rfl (hb hby at_71) rfl ?_
        show Steps p.tables e below (T34.setTop (mkF m 73 #[.val (.int p1), .val (.int (2 : Int32)), .val (.int (hF 0 p1)), .val (.int (hF 1 p1)), .val (.int (hF 2 p1)), .val (.int (hF 3 p1))] [(.int (hF 2 p1))])) _
        refine XS.iconst X34.here hx rfl (hb hby at_73) ?_
        show Steps p.tables e below (T34.setTop (mkF m 74 #[.val (.int p1), .val (.int (2 : Int32)), .val (.int (hF 0 p1)), .val (.int (hF 1 p1)), .val (.int (hF 2 p1)), .val (.int (hF 3 p1))] [(.int (1 : Int32)), (.int (hF 2 p1))])) _
        refine XS.iloadN X34.here hx rfl (hb hby at_74) rfl ?_
        show Steps p.tables e below (T34.setTop (mkF m 75 #[.val (.int p1), .val (.int (2 : Int32)), .val (.int (hF 0 p1)), .val (.int (hF 1 p1)), .val (.int (hF 2 p1)), .val (.int (hF 3 p1))] [(.int (2 : Int32)), (.int (1 : Int32)), (.int (hF 2 p1))])) _
        refine st35 _ ?_
        show Steps p.tables e below (T35.setTop (mkF m 78 #[.val (.int p1), .val (.int (2 : Int32)), .val (.int (hF 0 p1)), .val (.int (hF 1 p1)), .val (.int (hF 2 p1)), .val (.int (hF 3 p1))] [(.int (bitF (1 : Int32) (2 : Int32))), (.int (hF 2 p1))])) _
        refine XS.icmpNo X35.here hx rfl (hb hby at_78) rfl (teq (by simp only [hF]; simp only [hc1, own_p hc1 hc9, if_true, if_false]; decide)).2 ?_
        show Steps p.tables e below (T35.setTop (mkF m 81 #[.val (.int p1), .val (.int (2 : Int32)), .val (.int (hF 0 p1)), .val (.int (hF 1 p1)), .val (.int (hF 2 p1)), .val (.int (hF 3 p1))] [])) _
        refine XS.iload X35.here hx rfl (hb hby at_81) rfl ?_
        show Steps p.tables e below (T35.setTop (mkF m 83 #[.val (.int p1), .val (.int (2 : Int32)), .val (.int (hF 0 p1)), .val (.int (hF 1 p1)), .val (.int (hF 2 p1)), .val (.int (hF 3 p1))] [(.int (hF 3 p1))])) _
        refine XS.iconst X35.here hx rfl (hb hby at_83) ?_
        show Steps p.tables e below (T35.setTop (mkF m 84 #[.val (.int p1), .val (.int (2 : Int32)), .val (.int (hF 0 p1)), .val (.int (hF 1 p1)), .val (.int (hF 2 p1)), .val (.int (hF 3 p1))] [(.int (3 : Int32)), (.int (hF 3 p1))])) _
        refine XS.iloadN X35.here hx rfl (hb hby at_84) rfl ?_
        show Steps p.tables e below (T35.setTop (mkF m 85 #[.val (.int p1), .val (.int (2 : Int32)), .val (.int (hF 0 p1)), .val (.int (hF 1 p1)), .val (.int (hF 2 p1)), .val (.int (hF 3 p1))] [(.int (2 : Int32)), (.int (3 : Int32)), (.int (hF 3 p1))])) _
        refine st36 _ ?_
        show Steps p.tables e below (T36.setTop (mkF m 88 #[.val (.int p1), .val (.int (2 : Int32)), .val (.int (hF 0 p1)), .val (.int (hF 1 p1)), .val (.int (hF 2 p1)), .val (.int (hF 3 p1))] [(.int (bitF (3 : Int32) (2 : Int32))), (.int (hF 3 p1))])) _
        refine XS.icmpNo X36.here hx rfl (hb hby at_88) rfl (teq (by simp only [hF]; simp only [hc1, own_p hc1 hc9, if_true, if_false]; decide)).2 ?_
        show Steps p.tables e below (T36.setTop (mkF m 91 #[.val (.int p1), .val (.int (2 : Int32)), .val (.int (hF 0 p1)), .val (.int (hF 1 p1)), .val (.int (hF 2 p1)), .val (.int (hF 3 p1))] [])) _
        refine XS.iconst X36.here hx rfl (hb hby at_91) ?_
        show Steps p.tables e below (T36.setTop (mkF m 92 #[.val (.int p1), .val (.int (2 : Int32)), .val (.int (hF 0 p1)), .val (.int (hF 1 p1)), .val (.int (hF 2 p1)), .val (.int (hF 3 p1))] [(.int (1 : Int32))])) _
        refine XS.goto X36.here hx rfl (pc0 := 92) (pc' := 96) rfl (hb hby at_92) (by decide) (by decide) ?_
        show Steps p.tables e below (T36.setTop (mkF m 96 #[.val (.int p1), .val (.int (2 : Int32)), .val (.int (hF 0 p1)), .val (.int (hF 1 p1)), .val (.int (hF 2 p1)), .val (.int (hF 3 p1))] [(.int (1 : Int32))])) _
        exact retN X36 hx (t := .boolean) Bd.returns (by simp) (hb hby at_96) hr
      · show Q0 n0 _ T36.heap _
        rw [e36]
        exact ⟨rfl, N36⟩
set_option maxRecDepth 65536 in
set_option maxHeartbeats 40000000 in
theorem comes_1 {Post : Tables → Env → Array Value → State → Outcome → State → Prop} (hpost : ∀ tb e args s v u, (limb_1_1.after args s (.returned v) u = true ∧ limb_1_2.after args s (.returned v) u = true ∧ True) → FrameEnd s (.returned v) u (Jvm.fieldLocs frame_1_writes args s ++ Jvm.arrayLocs frame_1_arrays args s ++ Jvm.staticLocs frame_1_statics s) 0 0 → Post tb e args s (.returned v) u) :
    ArmFor flags0 classFile x code maxLocals ret World_1 tables_1 room_1 Calls_1 rest_1 Pre_1 Post := by
  intro l hfl _ _ p e ha hc hk s m args below hf hA hF happ hP
  obtain ⟨hcalls, hrest, hpre⟩ := hP
  obtain ⟨-, -, -, hnamed, -, -, -, hat⟩ := (Spec.applies_iff hf).mp happ
  obtain ⟨hg, hn⟩ := and_e (Cond.before_iff.mp (show (Jvm.Cond.and given_1 narrow_1).before args s = true from hpre))
  obtain ⟨hcnt, hg⟩ := and_e hg
  obtain ⟨w0, rfl⟩ : ∃ w0 : Value, args = #[w0] := by
    have hs : args.size = 1 := by simpa [Cond.value, given_1] using hcnt
    obtain ⟨L⟩ := args
    match L, hs with
    | [w0], _ => exact ⟨w0, rfl⟩
  have hw := fun d (hd : d ∈ tables_1) => atoms_spec (ws := Jvm.Cond.code x code maxLocals ret :: tables_1) hat d (List.mem_cons_of_mem _ hd)
  have hfit : Fit s := fun {y c} hc i hi => by
    obtain ⟨ha, rfl⟩ := Array.getElem?_eq_some_iff.mp hc
    have q := List.all_eq_true.mp ((Array.all_eq_true_iff_forall_mem.mp hF) _ (Array.getElem_mem ha)) i (List.mem_range.mpr hi)
    simpa [Array.getElem?_eq_getElem hi] using q
  obtain ⟨i0, ei0⟩ := is_v hg
  obtain rfl : w0 = (.int i0) := Option.some.inj ei0
  obtain ⟨hx0, hn⟩ := and_e hn
  obtain ⟨hf0, hn⟩ := and_e hn
  obtain ⟨hx1, hn⟩ := and_e hn
  obtain ⟨hf1, hn⟩ := and_e hn
  obtain ⟨hx2, hn⟩ := and_e hn
  obtain ⟨hf2, hn⟩ := and_e hn
  obtain ⟨hx3, hf3⟩ := and_e hn
  obtain ⟨v0, ev0⟩ := exa_v hx0
  have S0 := Sta.start ev0 (Or.inr ⟨(hw _ (List.mem_of_getElem? (i := 1) rfl)), (hw _ (List.mem_of_getElem? (i := 2) rfl))⟩)
  have F0 := Fld.start ((fld_at ev0).symm.trans (eqv_i (Term.int_eval _) hf0))
  obtain ⟨v1, ev1⟩ := exa_v hx1
  have S1 := Sta.start ev1 (Or.inr ⟨(hw _ (List.mem_of_getElem? (i := 1) rfl)), (hw _ (List.mem_of_getElem? (i := 18) rfl))⟩)
  have F1 := Fld.start ((fld_at ev1).symm.trans (eqv_i (Term.int_eval _) hf1))
  obtain ⟨v2, ev2⟩ := exa_v hx2
  have S2 := Sta.start ev2 (Or.inr ⟨(hw _ (List.mem_of_getElem? (i := 1) rfl)), (hw _ (List.mem_of_getElem? (i := 20) rfl))⟩)
  have F2 := Fld.start ((fld_at ev2).symm.trans (eqv_i (Term.int_eval _) hf2))
  obtain ⟨v3, ev3⟩ := exa_v hx3
  have S3 := Sta.start ev3 (Or.inr ⟨(hw _ (List.mem_of_getElem? (i := 1) rfl)), (hw _ (List.mem_of_getElem? (i := 22) rfl))⟩)
  have F3 := Fld.start ((fld_at ev3).symm.trans (eqv_i (Term.int_eval _) hf3))
  obtain ⟨n, o, h1, h2, h3, _, L, rfl, ⟨rfl, N⟩, hq⟩ := rm0 l s _ hw tables_1 i0 v0 v1 v2 v3 s.heap s.heap.size (Old.start s) S0 S1 S2 S3 (Exa.start ev0 hx0) (Exa.start ev1 hx1) (Exa.start ev2 hx2) (Exa.start ev3 hx3) F0 F1 F2 F3 p e ha hc hk s m _ below hf ((Spec.applies_iff_loose hf).mp happ).1 ⟨rfl, State.Warmed39.refl s, rfl⟩ trivial
  refine ⟨n, _, h1, h2, h3, hpost _ _ _ _ _ _ ⟨Cond.after_iff.mpr rfl, Cond.after_iff.mpr (eq_i res_at (Term.int_eval (1)) rfl), trivial⟩ ⟨hq.1, hq.2.1, (hq.2.2.sift fun y hy => Or.inr (N y hy)).mono (by decide) (by decide)⟩⟩
theorem main_1_1 : Claimed_1_1 := comes_1 fun _ _ _ _ _ _ h hF => ⟨h.1, hF⟩
theorem main_1_2 : Claimed_1_2 := comes_1 fun _ _ _ _ _ _ h hF => ⟨h.2.1, hF⟩
end Jvm.Pilot.@@N@@
namespace Jvm.Pilot.@@N@@
open Jvm Jvm.ClassFile Sem Op Lib Jvm.Free Jvm.Stand Jvm.Pilot.@@N@@.Jvm.D
/-! MADE BY PROGRAM (witnessworld.py) out of the Statement's table words and the real class files: 12 classes; the members and pool entries that the words name. The judged class is class 1, her method 1. -/
namespace start1
open Jvm.ClassFile
def u (s : String) : CpInfo := .utf8 (stringToUtf16 s)
/-- a pool by its gaps: so many unusable entries, then the entry; so many at the end -/
def gap : Nat → List CpInfo → List CpInfo
  | 0, r => r
  | n + 1, r => .unusable :: gap n r
def poolList (es : List (Nat × CpInfo)) (last : Nat) : List CpInfo := es.foldr (fun e r => gap e.1 (e.2 :: r)) (gap last [])
def pool (es : List (Nat × CpInfo)) (last : Nat) : Array CpInfo := ⟨poolList es last⟩
def fileOf (pool : Array CpInfo) (this : Nat) (attrs : Array Attribute := #[]) (ms : Array MethodInfo := #[]) (fl : Nat := 33) (sup : Nat := 0) (ifs : Array Nat := #[]) (fds : Array FieldInfo := #[]) : ClassFile where
  minorVersion := 0
  majorVersion := 65
  constantPool := pool
  accessFlags := fl
  thisClass := this
  superClass := sup
  interfaces := ifs
  fields := fds
  methods := ms
  attributes := attrs
def plain (name : String) (sup : Option ClassId) : Class where
  name := name
  kind := .ordinary
  loader := none
  accessFlags := 33
  super := sup
  interfaces := #[]
  cf := none
  fields := #[]
  methods := #[]
  instanceTypes := #[]
  staticTypes := #[]
  resolved := #[]
  callSites := []
  init := .initialized
  statics := none
  mirror := none

def pool0 : Array CpInfo := pool [(5, u "<init>"), (0, u "()V"), (1, .class_ 10), (1, u "java/lang/Object")] 113

def k0m0 : Method := { name := "<init>", desc := "()V", sig := { parameters := [], returnType := none }, accessFlags := 1, code := none }
/-- java/lang/Object -/
def k0 : Class := { plain "java/lang/Object" none with
  accessFlags := 33
  interfaces := #[]
  cf := some (fileOf pool0 8 #[] #[{ accessFlags := 1, nameIndex := 5, descriptorIndex := 6, attributes := #[] }] 33 0 #[] #[])
  fields := #[]
  methods := #[k0m0]
  instanceTypes := #[]
  staticTypes := #[]
  resolved := Array.replicate 124 none
  statics := none }

def pool1 : Array CpInfo := pool [(2, .class_ 4), (1, u "java/lang/Object"), (0, u "<init>"), (0, u "()V"), (0, .fieldref 8 9), (0, .class_ 10), (0, .nameAndType 11 12), (0, u "com/example/downtally/downtally/contract/Threshold$Comparison"), (0, u "AT_LEAST"), (0, u "Lcom/example/downtally/downtally/contract/Threshold$Comparison;"), (0, .methodref 8 14), (0, .nameAndType 15 16), (0, u "holds"), (0, u "(I)Z"), (0, .fieldref 8 18), (0, .nameAndType 19 12), (0, u "ABOVE"), (0, .fieldref 8 21), (0, .nameAndType 22 12), (0, u "BELOW"), (0, .fieldref 8 24), (0, .nameAndType 25 12), (0, u "AT_MOST"), (0, .methodref 27 28), (0, .class_ 29), (0, .nameAndType 30 31), (0, u "com/example/downtally/downtally/contract/ComparisonHoldsPinLaw"), (0, u "bit"), (0, u "(II)Z"), (2, u "law")] 7

def k1m0 : Method := { name := "<init>", desc := "()V", sig := { parameters := [], returnType := none }, accessFlags := 1, code := none }
def k1c1 : Code := { maxStack := 3, maxLocals := 6, code := code, exceptionTable := #[], attributes := #[] }
def k1m1 : Method := { name := "law", desc := "(I)Z", sig := { parameters := [.int], returnType := some .boolean }, accessFlags := 9, code := some k1c1 }
def k1c2 : Code := { maxStack := 2, maxLocals := 2, code := method_3_code, exceptionTable := #[], attributes := #[] }
def k1m2 : Method := { name := "bit", desc := "(II)Z", sig := { parameters := [.int, .int], returnType := some .boolean }, accessFlags := 10, code := some k1c2 }
/-- com/example/downtally/downtally/contract/ComparisonHoldsPinLaw -/
def k1 : Class := { plain "com/example/downtally/downtally/contract/ComparisonHoldsPinLaw" (some 0) with
  accessFlags := 49
  interfaces := #[]
  cf := some (fileOf pool1 27 #[] #[{ accessFlags := 1, nameIndex := 5, descriptorIndex := 6, attributes := #[] }, { accessFlags := 9, nameIndex := 34, descriptorIndex := 16, attributes := #[] }, { accessFlags := 10, nameIndex := 30, descriptorIndex := 31, attributes := #[] }] 49 2 #[] #[])
  fields := #[]
  methods := #[k1m0, k1m1, k1m2]
  instanceTypes := #[]
  staticTypes := #[]
  resolved := Array.replicate 42 none
  statics := none }

def pool2 : Array CpInfo := pool [(1, .class_ 2), (0, u "java/lang/constant/Constable"), (0, .class_ 4), (0, u "java/lang/Object")] 6

/-- java/lang/constant/Constable -/
def k2 : Class := { plain "java/lang/constant/Constable" (some 0) with
  accessFlags := 1537
  interfaces := #[]
  cf := some (fileOf pool2 1 #[] #[] 1537 3 #[] #[])
  fields := #[]
  methods := #[]
  instanceTypes := #[]
  staticTypes := #[]
  resolved := Array.replicate 11 none
  statics := none }

def pool3 : Array CpInfo := pool [(1, .class_ 2), (0, u "java/lang/Comparable"), (0, .class_ 4), (0, u "java/lang/Object")] 7

/-- java/lang/Comparable -/
def k3 : Class := { plain "java/lang/Comparable" (some 0) with
  accessFlags := 1537
  interfaces := #[]
  cf := some (fileOf pool3 1 #[] #[] 1537 3 #[] #[])
  fields := #[]
  methods := #[]
  instanceTypes := #[]
  staticTypes := #[]
  resolved := Array.replicate 12 none
  statics := none }

def pool4 : Array CpInfo := pool [(1, .class_ 2), (0, u "java/io/Serializable"), (0, .class_ 4), (0, u "java/lang/Object")] 2

/-- java/io/Serializable -/
def k4 : Class := { plain "java/io/Serializable" (some 0) with
  accessFlags := 1537
  interfaces := #[]
  cf := some (fileOf pool4 1 #[] #[] 1537 3 #[] #[])
  fields := #[]
  methods := #[]
  instanceTypes := #[]
  staticTypes := #[]
  resolved := Array.replicate 7 none
  statics := none }

def pool5 : Array CpInfo := pool [(2, .class_ 4), (1, u "java/lang/Enum"), (0, u "name"), (0, u "Ljava/lang/String;"), (0, .fieldref 2 8), (0, .nameAndType 9 10), (0, u "ordinal"), (0, u "I"), (1, .class_ 14), (1, u "java/lang/Object"), (4, u "hash"), (86, .class_ 108), (1, u "java/lang/Enum$EnumDesc"), (2, .class_ 112), (0, u "java/lang/constant/Constable"), (0, .class_ 114), (0, u "java/lang/Comparable"), (0, .class_ 116), (0, u "java/io/Serializable"), (9, u "()I")] 77

def k5c0 : Code := { maxStack := 1, maxLocals := 1, code := jdk_37_method_2_code, exceptionTable := #[], attributes := #[] }
def k5m0 : Method := { name := "ordinal", desc := "()I", sig := { parameters := [], returnType := some .int }, accessFlags := 17, code := some k5c0 }
/-- java/lang/Enum -/
def k5 : Class := { plain "java/lang/Enum" (some 0) with
  accessFlags := 1057
  interfaces := #[2, 3, 4]
  cf := some (fileOf pool5 2 #[.nestMembers #[106]] #[{ accessFlags := 17, nameIndex := 9, descriptorIndex := 126, attributes := #[] }] 1057 12 #[111, 113, 115] #[{ accessFlags := 18, nameIndex := 5, descriptorIndex := 6, attributes := #[] }, { accessFlags := 18, nameIndex := 9, descriptorIndex := 10, attributes := #[] }, { accessFlags := 2, nameIndex := 19, descriptorIndex := 10, attributes := #[] }])
  fields := #[{ name := "name", type := (.object "java/lang/String"), accessFlags := 18, slot := 0, constantValue := 0 }, { name := "ordinal", type := .int, accessFlags := 18, slot := 1, constantValue := 0 }, { name := "hash", type := .int, accessFlags := 2, slot := 2, constantValue := 0 }]
  methods := #[k5m0]
  instanceTypes := #[(.object "java/lang/String"), .int, .int]
  staticTypes := #[]
  resolved := Array.replicate 204 none
  statics := none }

def pool6 : Array CpInfo := pool [(1, .class_ 2), (0, u "com/example/downtally/downtally/contract/Threshold$Comparison"), (2, u "AT_LEAST"), (0, u "Lcom/example/downtally/downtally/contract/Threshold$Comparison;"), (2, u "ABOVE"), (2, u "BELOW"), (2, u "AT_MOST"), (2, u "$VALUES"), (0, u "[Lcom/example/downtally/downtally/contract/Threshold$Comparison;"), (6, .class_ 28), (1, u "java/lang/Enum"), (6, .methodref 1 36), (0, .nameAndType 37 38), (0, u "ordinal"), (0, u "()I"), (21, u "holds"), (0, u "(I)Z"), (6, .class_ 69), (0, u "com/example/downtally/downtally/contract/Threshold")] 2

def k6c0 : Code := { maxStack := 4, maxLocals := 2, code := prog_43_method_4_code, exceptionTable := #[], attributes := #[] }
def k6m0 : Method := { name := "holds", desc := "(I)Z", sig := { parameters := [.int], returnType := some .boolean }, accessFlags := 0, code := some k6c0 }
/-- com/example/downtally/downtally/contract/Threshold$Comparison -/
def k6 : Class := { plain "com/example/downtally/downtally/contract/Threshold$Comparison" (some 5) with
  accessFlags := 16433
  interfaces := #[]
  cf := some (fileOf pool6 1 #[.nestHost 68] #[{ accessFlags := 0, nameIndex := 60, descriptorIndex := 61, attributes := #[] }] 16433 26 #[] #[{ accessFlags := 16409, nameIndex := 5, descriptorIndex := 6, attributes := #[] }, { accessFlags := 16409, nameIndex := 9, descriptorIndex := 6, attributes := #[] }, { accessFlags := 16409, nameIndex := 12, descriptorIndex := 6, attributes := #[] }, { accessFlags := 16409, nameIndex := 15, descriptorIndex := 6, attributes := #[] }, { accessFlags := 4122, nameIndex := 18, descriptorIndex := 19, attributes := #[] }])
  fields := #[{ name := "AT_LEAST", type := (.object "com/example/downtally/downtally/contract/Threshold$Comparison"), accessFlags := 16409, slot := 0, constantValue := 0 }, { name := "ABOVE", type := (.object "com/example/downtally/downtally/contract/Threshold$Comparison"), accessFlags := 16409, slot := 1, constantValue := 0 }, { name := "BELOW", type := (.object "com/example/downtally/downtally/contract/Threshold$Comparison"), accessFlags := 16409, slot := 2, constantValue := 0 }, { name := "AT_MOST", type := (.object "com/example/downtally/downtally/contract/Threshold$Comparison"), accessFlags := 16409, slot := 3, constantValue := 0 }, { name := "$VALUES", type := (.array (.object "com/example/downtally/downtally/contract/Threshold$Comparison")), accessFlags := 4122, slot := 4, constantValue := 0 }]
  methods := #[k6m0]
  instanceTypes := #[(.object "java/lang/String"), .int, .int]
  staticTypes := #[(.object "com/example/downtally/downtally/contract/Threshold$Comparison"), (.object "com/example/downtally/downtally/contract/Threshold$Comparison"), (.object "com/example/downtally/downtally/contract/Threshold$Comparison"), (.object "com/example/downtally/downtally/contract/Threshold$Comparison"), (.array (.object "com/example/downtally/downtally/contract/Threshold$Comparison"))]
  resolved := Array.replicate 72 none
  statics := some 0 }

def pool7 : Array CpInfo := pool [(1, u "java/lang/Cloneable"), (0, .class_ 1), (0, u "java/lang/Object"), (0, .class_ 3)] 3

/-- java/lang/Cloneable -/
def k7 : Class := { plain "java/lang/Cloneable" (some 0) with
  accessFlags := 1537
  interfaces := #[]
  cf := some (fileOf pool7 2 #[] #[] 1537 4 #[] #[])
  fields := #[]
  methods := #[]
  instanceTypes := #[]
  staticTypes := #[]
  resolved := Array.replicate 8 none
  statics := none }

/-- the primitive byte -/
def k8 : Class := { plain "byte" none with kind := .primitive 'B', accessFlags := 0x411 }
/-- [B -/
def k9 : Class := { plain "[B" (some 0) with kind := .array 8 .byte, interfaces := #[7, 4], accessFlags := 1041 }

/-- the primitive int -/
def k10 : Class := { plain "int" none with kind := .primitive 'I', accessFlags := 0x411 }
/-- [I -/
def k11 : Class := { plain "[I" (some 0) with kind := .array 10 .int, interfaces := #[7, 4], accessFlags := 1041 }

def heap : Heap := #[{ cls := 6, slots := #[.ref 1, .ref 2, .ref 3, .ref 4, .null], vm := .statics 6 },
  { cls := 6, slots := #[.null, .int 0, .int 0], vm := .none },
  { cls := 6, slots := #[.null, .int 1, .int 0], vm := .none },
  { cls := 6, slots := #[.null, .int 2, .int 0], vm := .none },
  { cls := 6, slots := #[.null, .int 3, .int 0], vm := .none }]
def classes : Array Class := #[k0, k1, k2, k3, k4, k5, k6, k7, k8, k9, k10, k11]
def interned : List (Array UInt16 × Addr) := []
def slotsUsed : Nat := 17
def theMethod : MethodId := ⟨1, 1⟩
def args0 : Array Value := #[.int 5]
def aboutOver (below : List Frame) : State where
  vm := { classes := classes, interned := interned.toArray }
  heap := heap
  slotsUsed := slotsUsed
  threads := #[{ frames := .invoking theMethod args0 :: below }]
def below0 : List Frame := [.native { method := ⟨0, 0⟩, args := #[] }]
def about1 : State := aboutOver below0
def p0 : Program := .bare "" "" ""
def e0 : Env := launch0.env 0 0 0
theorem w_frames : about1.frames = Frame.invoking theMethod args0 :: below0 := rfl
set_option maxRecDepth 65536 in
theorem w_args : argsFit about1.vm theMethod args0 = true := by decide +kernel
set_option maxRecDepth 65536 in
theorem w_heap : heapFits about1 = true := by decide +kernel
set_option maxRecDepth 65536 in
theorem w_runnable : about1.curStatus? = some .runnable := by decide +kernel
set_option maxRecDepth 65536 in
theorem w_alone : about1.alone = true := by decide +kernel
set_option maxRecDepth 65536 in
theorem w_named : about1.methodNamed? x = some theMethod := by decide +kernel
set_option maxRecDepth 65536 in
theorem w_hears : about1.hears theMethod below0 = true := by decide +kernel
set_option maxRecDepth 65536 in
theorem w_ripe : about1.ripe theMethod args0 below0 = true := by decide +kernel
theorem w_running : about1.status = .running := rfl
set_option maxRecDepth 65536 in
theorem w_room : about1.hasRoom e0.platform room_1 = true :=
  launch0.hasRoom_least _ room_1 (by decide +kernel) (by decide +kernel) (by decide +kernel) (by decide +kernel) (by decide +kernel) (by decide +kernel)
theorem allAtoms_all (ts : List Jvm.Cond) (a : Array Jvm.Value) (st : Jvm.State) : (allAtoms ts).before a st = ts.all (fun c => c.before a st) := by
  induction ts with
  | nil => rfl
  | cons c t ih =>
    show (Jvm.Cond.and c (allAtoms t)).before a st = _
    rw [Jvm.Cond.before_and, ih, List.all_cons]
def words1 : List Jvm.Cond := Jvm.Cond.code x code maxLocals ret :: tables_1
/-- a 'code' word, met by the world's own term for the bytes: nothing is compared byte by byte -/
theorem code_word {y : MethodName} {bytes : ByteArray} {mx : Nat} {rt : Option FieldType} {a : Array Value} {s : State} {m : MethodId} {meth : Method} {c : Code} (h1 : s.methodNamed? y = some m) (h2 : s.vm.method? m = some meth) (h3 : meth.code = some c) (h4 : c.code = bytes)
    (h5 : (c.maxLocals == mx && c.exceptionTable.isEmpty && decide (c.maxStack ≤ mostOperands) && decide (meth.sig.returnType = rt) && !meth.locks && decide (parseMethodDescriptor y.desc = some meth.sig)) = true) : (Jvm.Cond.code y bytes mx rt).before a s = true := by
  simp only [Bool.and_eq_true, beq_iff_eq, Bool.not_eq_true', decide_eq_true_eq] at h5
  obtain ⟨⟨⟨⟨⟨g1, g2⟩, g3⟩, g4⟩, g5⟩, g6⟩ := h5
  simp [Cond.before, Cond.holds, Cond.value, h1, h2, h3, h4, g1, g2, g3, g4, g5, g6]
def isCode : Jvm.Cond → Bool
  | .code _ _ _ _ => true
  | _ => false
theorem all_split {L : List Jvm.Cond} {P : Jvm.Cond → Bool} (h1 : L.all (fun c => isCode c || P c) = true) (h2 : ∀ c ∈ L.filter isCode, P c = true) : L.all P = true := by
  refine List.all_eq_true.mpr fun c hc => ?_
  have h := List.all_eq_true.mp h1 c hc
  rcases Bool.eq_false_or_eq_true (isCode c) with hi | hi
  · exact h2 c (List.mem_filter.mpr ⟨hc, hi⟩)
  · simpa [hi] using h
set_option maxRecDepth 65536 in
theorem w_c0 : (Jvm.Cond.code x code maxLocals ret).before args0 about1 = true := code_word (m := ⟨1, 1⟩) (meth := k1m1) (c := k1c1) (by decide +kernel) rfl rfl rfl (by decide +kernel)
set_option maxRecDepth 65536 in
theorem w_c1 : (Jvm.Cond.code ({ cls := "com/example/downtally/downtally/contract/Threshold$Comparison", name := "holds", desc := "(I)Z" } : Jvm.MethodName) prog_43_method_4_code (2 : Nat) (Option.some Jvm.ClassFile.FieldType.boolean)).before args0 about1 = true := code_word (m := ⟨6, 0⟩) (meth := k6m0) (c := k6c0) (by decide +kernel) rfl rfl rfl (by decide +kernel)
set_option maxRecDepth 65536 in
theorem w_c2 : (Jvm.Cond.code ({ cls := "java/lang/Enum", name := "ordinal", desc := "()I" } : Jvm.MethodName) jdk_37_method_2_code (1 : Nat) (Option.some Jvm.ClassFile.FieldType.int)).before args0 about1 = true := code_word (m := ⟨5, 0⟩) (meth := k5m0) (c := k5c0) (by decide +kernel) rfl rfl rfl (by decide +kernel)
set_option maxRecDepth 65536 in
theorem w_c3 : (Jvm.Cond.code ({ cls := "com/example/downtally/downtally/contract/ComparisonHoldsPinLaw", name := "bit", desc := "(II)Z" } : Jvm.MethodName) method_3_code (2 : Nat) (Option.some Jvm.ClassFile.FieldType.boolean)).before args0 about1 = true := code_word (m := ⟨1, 2⟩) (meth := k1m2) (c := k1c2) (by decide +kernel) rfl rfl rfl (by decide +kernel)
def codes1 : List Jvm.Cond := [Jvm.Cond.code x code maxLocals ret, Jvm.Cond.code ({ cls := "com/example/downtally/downtally/contract/Threshold$Comparison", name := "holds", desc := "(I)Z" } : Jvm.MethodName) prog_43_method_4_code (2 : Nat) (Option.some Jvm.ClassFile.FieldType.boolean), Jvm.Cond.code ({ cls := "java/lang/Enum", name := "ordinal", desc := "()I" } : Jvm.MethodName) jdk_37_method_2_code (1 : Nat) (Option.some Jvm.ClassFile.FieldType.int), Jvm.Cond.code ({ cls := "com/example/downtally/downtally/contract/ComparisonHoldsPinLaw", name := "bit", desc := "(II)Z" } : Jvm.MethodName) method_3_code (2 : Nat) (Option.some Jvm.ClassFile.FieldType.boolean)]
set_option maxRecDepth 65536 in
theorem codes_eq : words1.filter isCode = codes1 := rfl
theorem w_codes : ∀ c ∈ words1.filter isCode, c.before args0 about1 = true := by
  rw [codes_eq]
  intro c hc
  simp only [codes1, List.mem_cons, List.not_mem_nil, or_false] at hc
  rcases hc with rfl | rfl | rfl | rfl
  · exact w_c0
  · exact w_c1
  · exact w_c2
  · exact w_c3
set_option maxRecDepth 65536 in
theorem w_t1 : (words1.take 24).all (fun c => isCode c || c.before args0 about1) = true := by decide +kernel
set_option maxRecDepth 65536 in
theorem w_t2 : (words1.drop 24).all (fun c => isCode c || c.before args0 about1) = true := by decide +kernel
theorem w_tables : (allAtoms (Jvm.Cond.code x code maxLocals ret :: tables_1)).before args0 about1 = true := by
  rw [allAtoms_all]
  show words1.all (fun c => c.before args0 about1) = true
  refine all_split ?_ w_codes
  rw [← List.take_append_drop 24 words1, List.all_append, w_t1, w_t2]
  rfl
set_option maxRecDepth 65536 in
theorem w_case : (Jvm.Cond.and given_1 narrow_1).before args0 about1 = true := by decide +kernel
theorem w_applies : (headSpec (Jvm.Cond.code x code maxLocals ret :: tables_1) room_1).applies x e0.platform about1 = true :=
  (Spec.applies_iff w_frames).mpr ⟨w_running, w_runnable, w_alone, w_named, w_hears, w_ripe, w_room, w_tables⟩
theorem atStart : AtStart classFile x code maxLocals ret World_1 tables_1 room_1 Calls_1 rest_1 Pre_1 launch0 p0 e0 about1 theMethod args0 below0 :=
  ⟨lists_1, trivial, launch0.admits_env _ _ _, launch0.least_env, fairChoices_fair.cas, fairChoices_fair.clock, w_frames, w_args, w_heap, w_applies, trivial, trivial, w_case⟩
end start1
theorem witness_1 : WitnessClaimed_1 := ⟨start1.p0, start1.e0, start1.about1, start1.theMethod, start1.args0, start1.below0, start1.atStart⟩
end Jvm.Pilot.@@N@@
