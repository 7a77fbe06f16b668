import JvmDerived
import JvmDerived.Pilot.@@N@@Statement
import JvmDerived.Pilot.@@N@@Code
set_option linter.unusedVariables false
set_option linter.unusedSimpArgs false
namespace Jvm.RoadKit
open Sem ClassFile Op Lib Jvm.Stand Jvm.Free Jvm.LawKit
section New
variable {p : Program} {l : Launch} {e : Env} {R : Room} {s : State} {m : MethodId} {args : Array Value} {below : List Frame} {meth : Method} {c : Code} {T : State} {locs : List Loc} {cells slots : Nat}
theorem retI (X : Stand p l e R s m args below meth c T locs cells slots) (hx : p.tables.exec = Jvm.exec) {pc : Nat} {Ls : Array Slot} {z : Int32} {rest : List Value} (hret : meth.sig.returnType = some .int) (hd : decode c.code pc = .ok (.ireturn, 1)) {fs : List Frame}
    (hl : ∀ (f : JFrame) (acts : List Action), f.method = m → f.locked = none → f.entered = [] → (doReturn e (T.setTop f) acts (some (.int z))).1 = T.setFrames fs) : Steps p.tables e below (T.setTop (mkF m pc Ls (.int z :: rest))) (T.setFrames fs) := by
  have hm' : T.vm.method? m = some meth := X.method'
  have hn : narrow .int (.int z) = .int z := rfl
  show Steps p.tables e below (T.setTop { method := m, pc := pc, locals := Ls, stack := _ :: rest, locked := none }) _
  jvm_step X.here [X.here.top, hx, hd, hm', hret, hn]
  first | (intro acts; rw [hl _ acts rfl rfl rfl]) | rw [hl _ _ rfl rfl rfl]
  exact Steps.refl _
end New
end Jvm.RoadKit
namespace Jvm.Pilot.@@N@@
open Jvm Jvm.ClassFile Sem Op Lib Jvm.Free Jvm.Stand Jvm.LawKit Jvm.RoadKit Bundle Jvm.Pilot.@@N@@.Jvm.D

theorem own_eqint {args : Array Value} {s : State} {a : Term} {k : Int32} (h : (Jvm.Cond.eq a (.int k)).value args s none s [] = some true) : a.eval args s none [] s = some (.int k) := by
  simp only [Jvm.Cond.value, Term.eval] at h
  cases ha : a.eval args s none [] s with
  | none => simp [ha] at h
  | some v => cases v <;> simp_all
def pickF (x k : Int32) : Int32 := if k &&& 3 = 0 then x else if k &&& 3 = 1 then 392 + (x &&& 15) else if k &&& 3 = 2 then 492 + (x &&& 15) else 400 + ((x &&& 2147483647) % 100)
def fsF (s : Int32) (a b c : Addr) : Addr := if s = 404 then a else if s < 400 then c else if s < 500 then b else c
theorem own_fs1 {s : Int32} {a b c : Addr} (h : s = 404) : fsF s a b c = a := by rw [fsF, if_pos h]
theorem own_div {s : Int32} : s / 100 = 4 ↔ (¬ s < 400 ∧ s < 500) := by
  have q := c_idiv s 100 100 (by decide) (by decide)
  rw [← Int32.toInt_inj, Int32.lt_iff_toInt_lt, Int32.lt_iff_toInt_lt, show (4 : Int32).toInt = 4 from by decide, show (400 : Int32).toInt = 400 from by decide, show (500 : Int32).toInt = 500 from by decide]
  rcases Int.lt_or_le s.toInt 0 with k | k
  · rw [q.2 k]; omega
  · rw [q.1 k]; omega
theorem own_fs2 {s : Int32} {a b c : Addr} (h : ¬ s = 404) (g : s / 100 = 4) : fsF s a b c = b := by rw [fsF, if_neg h, if_neg (own_div.mp g).1, if_pos (own_div.mp g).2]
theorem own_fs3 {s : Int32} {a b c : Addr} (h : ¬ s = 404) (g : ¬ s / 100 = 4) : fsF s a b c = c := by
  rw [fsF, if_neg h]
  by_cases q : s < 400
  · rw [if_pos q]
  · rw [if_neg q, if_neg fun r => g (own_div.mpr ⟨q, r⟩)]
def Q1 (p1 p2 : Int32) (h0 : Heap) (n0 : Nat) (v : Option Value) (h : Heap) (L : List Loc) : Prop := v = some (.int (pickF p1 p2)) ∧ Fr n0 L ∧ h = h0
def Q2 (p1 : Int32) (w1 w2 w3 : Addr) (h0 : Heap) (n0 : Nat) (v : Option Value) (h : Heap) (L : List Loc) : Prop := v = some (.ref (fsF p1 w1 w2 w3)) ∧ Fr n0 L ∧ h = h0
def Q0 (n0 : Nat) (v : Option Value) (h : Heap) (L : List Loc) : Prop := v = some (.int 1) ∧ Fr n0 L

theorem pn0 : plainName "com/example/checkoutd/checkoutd/api/ErrorTypeForStatusPinLaw" = true := by first | (simp [plainName, overriddenIn]; done) | decide +kernel
theorem d1_0 : decode method_2_code 0 = .ok (.iload_n 1, 1) := by decide +kernel
theorem d1_1 : decode method_2_code 1 = .ok (.iconst 3, 1) := by decide +kernel
theorem d1_2 : decode method_2_code 2 = .ok (.iand, 1) := by decide +kernel
theorem d1_3 : decode method_2_code 3 = .ok (.istore_n 2, 1) := by decide +kernel
theorem d1_4 : decode method_2_code 4 = .ok (.iload_n 2, 1) := by decide +kernel
theorem d1_5 : decode method_2_code 5 = .ok (.ifCond .ne 5, 3) := by decide +kernel
theorem d1_8 : decode method_2_code 8 = .ok (.iload_n 0, 1) := by decide +kernel
theorem d1_9 : decode method_2_code 9 = .ok (.ireturn, 1) := by decide +kernel
theorem d1_10 : decode method_2_code 10 = .ok (.iload_n 2, 1) := by decide +kernel
theorem d1_11 : decode method_2_code 11 = .ok (.iconst 1, 1) := by decide +kernel
theorem d1_12 : decode method_2_code 12 = .ok (.if_icmp .ne 12, 3) := by decide +kernel
theorem d1_15 : decode method_2_code 15 = .ok (.sipush 392, 3) := by decide +kernel
theorem d1_18 : decode method_2_code 18 = .ok (.iload_n 0, 1) := by decide +kernel
theorem d1_19 : decode method_2_code 19 = .ok (.bipush 15, 2) := by decide +kernel
theorem d1_21 : decode method_2_code 21 = .ok (.iand, 1) := by decide +kernel
theorem d1_22 : decode method_2_code 22 = .ok (.iadd, 1) := by decide +kernel
theorem d1_23 : decode method_2_code 23 = .ok (.ireturn, 1) := by decide +kernel
theorem d1_24 : decode method_2_code 24 = .ok (.iload_n 2, 1) := by decide +kernel
theorem d1_25 : decode method_2_code 25 = .ok (.iconst 2, 1) := by decide +kernel
theorem d1_26 : decode method_2_code 26 = .ok (.if_icmp .ne 12, 3) := by decide +kernel
theorem d1_29 : decode method_2_code 29 = .ok (.sipush 492, 3) := by decide +kernel
theorem d1_32 : decode method_2_code 32 = .ok (.iload_n 0, 1) := by decide +kernel
theorem d1_33 : decode method_2_code 33 = .ok (.bipush 15, 2) := by decide +kernel
theorem d1_35 : decode method_2_code 35 = .ok (.iand, 1) := by decide +kernel
theorem d1_36 : decode method_2_code 36 = .ok (.iadd, 1) := by decide +kernel
theorem d1_37 : decode method_2_code 37 = .ok (.ireturn, 1) := by decide +kernel
theorem d1_38 : decode method_2_code 38 = .ok (.sipush 400, 3) := by decide +kernel
theorem d1_41 : decode method_2_code 41 = .ok (.iload_n 0, 1) := by decide +kernel
theorem d1_42 : decode method_2_code 42 = .ok (.ldc 7, 2) := by decide +kernel
theorem d1_44 : decode method_2_code 44 = .ok (.iand, 1) := by decide +kernel
theorem d1_45 : decode method_2_code 45 = .ok (.bipush 100, 2) := by decide +kernel
theorem d1_47 : decode method_2_code 47 = .ok (.irem, 1) := by decide +kernel
theorem d1_48 : decode method_2_code 48 = .ok (.iadd, 1) := by decide +kernel
theorem d1_49 : decode method_2_code 49 = .ok (.ireturn, 1) := by decide +kernel
theorem ef_rm1 (m : MethodId) (x0 : Int32) (x1 : Int32) : entryFrame m #[(.int x0), (.int x1)] 3 = mkF m 0 #[.val (.int x0), .val (.int x1), .unset] [] := by first | (simp [entryFrame, mkF, argsToLocals, Value.category]; done) | rfl
set_option maxRecDepth 65536 in
set_option maxHeartbeats 40000000 in
theorem rm1 (l : Launch) (Z : State) (a0 : Array Value) (hw : ∀ d ∈ tables_1, d.before a0 Z = true) (ws : List Jvm.Cond) (p1 : Int32) (p2 : Int32) (h0 : Heap) (n0 : Nat) (O0 : Old Z n0 h0)  :
    MetFree l (⟨"com/example/checkoutd/checkoutd/api/ErrorTypeForStatusPinLaw", "pick", "(II)I"⟩ : MethodName) (head1 (Jvm.Cond.code (⟨"com/example/checkoutd/checkoutd/api/ErrorTypeForStatusPinLaw", "pick", "(II)I"⟩ : MethodName) method_2_code 3 (some .int) :: ws) ({ frames := 0, cells := 0, slots := 0, locals := 0 } : Room)) (fun a U => a = #[(.int p1), (.int p2)] ∧ Z.Warmed39 U.vm ∧ U.heap = h0) (fun _ _ _ _ _ => True) (fun _ U o U' => ∃ v L, o = .returned v ∧ Q1 p1 p2 h0 n0 v U'.heap L ∧ FrameEnd U o U' L ({ frames := 0, cells := 0, slots := 0, locals := 0 } : Room).cells ({ frames := 0, cells := 0, slots := 0, locals := 0 } : Room).slots) := by
  refine MetFree.of_bodySF (plainFor_of_name pn0) hisR ?_
  intro p e s m args below meth c s₁ Bd hml0 hP hK
  obtain ⟨rfl, hZ, hh⟩ := hP
  have hx := Bd.exec
  have hby := Bd.bytes
  have hml : c.maxLocals = 3 := hml0
  have hown : s.vm.findClass "com/example/checkoutd/checkoutd/api/ErrorTypeForStatusPinLaw" = some m.cls := findClass_of_methodNamed Bd.named
  have hnm := (name_of_methodNamed Bd.named Bd.method).1
  have X0 : Stand p l e ({ frames := 0, cells := 0, slots := 0, locals := 0 } : Room) s m #[(.int p1), (.int p2)] below meth c s₁ [] 0 0 := Stand.of_body Bd
  have e0 : s₁.heap = h0 := by rw [← hh, Bd.state]; rfl
  have N0 := Fr.nil n0
  have pre0 : ∀ t, Steps p.tables e below (s₁.setTop (mkF m 0 #[.val (.int p1), .val (.int p2), .unset] [])) t → Steps p.tables e below (s₁.setTop (entryFrame m #[(.int p1), (.int p2)] 3)) t := fun t k => castTop (ef_rm1 m p1 p2) k
  by_cases hc5 : (p2 &&& (3 : Int32)) = (0 : Int32)
  · obtain ⟨fs, hr, hrun, hended, hW, hsame⟩ := X0.leave (v := some (.int p1)) (fun h => by rw [Bd.returns] at h; cases h)
    refine ⟨_, _, pre0 _ ?_, hrun, hended, _, _, rfl, ?_, ⟨_, rfl⟩, hW, hsame.mono (by decide) (by decide)⟩
    · show Steps p.tables e below (s₁.setTop (mkF m 0 #[.val (.int p1), .val (.int p2), .unset] [])) _
      refine XS.iloadN X0.here hx rfl (hb hby d1_0) rfl ?_
      show Steps p.tables e below (s₁.setTop (mkF m 1 #[.val (.int p1), .val (.int p2), .unset] [(.int p2)])) _
      refine XS.iconst X0.here hx rfl (hb hby d1_1) ?_
      show Steps p.tables e below (s₁.setTop (mkF m 2 #[.val (.int p1), .val (.int p2), .unset] [(.int (3 : Int32)), (.int p2)])) _
      refine XS.iand X0.here hx rfl (hb hby d1_2) rfl ?_
      show Steps p.tables e below (s₁.setTop (mkF m 3 #[.val (.int p1), .val (.int p2), .unset] [(.int (p2 &&& (3 : Int32)))])) _
      refine XS.istoreN X0.here hx rfl (hb hby d1_3) rfl (l' := #[.val (.int p1), .val (.int p2), .val (.int (p2 &&& (3 : Int32)))]) rfl ?_
      show Steps p.tables e below (s₁.setTop (mkF m 4 #[.val (.int p1), .val (.int p2), .val (.int (p2 &&& (3 : Int32)))] [])) _
      refine XS.iloadN X0.here hx rfl (hb hby d1_4) rfl ?_
      show Steps p.tables e below (s₁.setTop (mkF m 5 #[.val (.int p1), .val (.int p2), .val (.int (p2 &&& (3 : Int32)))] [(.int (p2 &&& (3 : Int32)))])) _
      refine XS.ifNo X0.here hx rfl (hb hby d1_5) rfl ((if0 _ _).trans (teq hc5).2) ?_
      show Steps p.tables e below (s₁.setTop (mkF m 8 #[.val (.int p1), .val (.int p2), .val (.int (p2 &&& (3 : Int32)))] [])) _
      refine XS.iloadN X0.here hx rfl (hb hby d1_8) rfl ?_
      show Steps p.tables e below (s₁.setTop (mkF m 9 #[.val (.int p1), .val (.int p2), .val (.int (p2 &&& (3 : Int32)))] [(.int p1)])) _
      exact retI X0 hx Bd.returns (hb hby d1_9) hr
    · show Q1 p1 p2 h0 n0 _ s₁.heap _
      rw [e0]
      exact ⟨by rw [pickF, if_pos hc5], N0, rfl⟩
  · by_cases hc12 : (p2 &&& (3 : Int32)) = (1 : Int32)
    · obtain ⟨fs, hr, hrun, hended, hW, hsame⟩ := X0.leave (v := some (.int ((392 : Int32) + (p1 &&& (15 : Int32))))) (fun h => by rw [Bd.returns] at h; cases h)
      refine ⟨_, _, pre0 _ ?_, hrun, hended, _, _, rfl, ?_, ⟨_, rfl⟩, hW, hsame.mono (by decide) (by decide)⟩
      · show Steps p.tables e below (s₁.setTop (mkF m 0 #[.val (.int p1), .val (.int p2), .unset] [])) _
        refine XS.iloadN X0.here hx rfl (hb hby d1_0) rfl ?_
        show Steps p.tables e below (s₁.setTop (mkF m 1 #[.val (.int p1), .val (.int p2), .unset] [(.int p2)])) _
        refine XS.iconst X0.here hx rfl (hb hby d1_1) ?_
        show Steps p.tables e below (s₁.setTop (mkF m 2 #[.val (.int p1), .val (.int p2), .unset] [(.int (3 : Int32)), (.int p2)])) _
        refine XS.iand X0.here hx rfl (hb hby d1_2) rfl ?_
        show Steps p.tables e below (s₁.setTop (mkF m 3 #[.val (.int p1), .val (.int p2), .unset] [(.int (p2 &&& (3 : Int32)))])) _
        refine XS.istoreN X0.here hx rfl (hb hby d1_3) rfl (l' := #[.val (.int p1), .val (.int p2), .val (.int (p2 &&& (3 : Int32)))]) rfl ?_
        show Steps p.tables e below (s₁.setTop (mkF m 4 #[.val (.int p1), .val (.int p2), .val (.int (p2 &&& (3 : Int32)))] [])) _
        refine XS.iloadN X0.here hx rfl (hb hby d1_4) rfl ?_
        show Steps p.tables e below (s₁.setTop (mkF m 5 #[.val (.int p1), .val (.int p2), .val (.int (p2 &&& (3 : Int32)))] [(.int (p2 &&& (3 : Int32)))])) _
        refine XS.ifYes X0.here hx rfl (pc0 := 5) (pc' := 10) rfl (hb hby d1_5) rfl ((if0 _ _).trans (feq hc5).2) (by decide) (by decide) ?_
        show Steps p.tables e below (s₁.setTop (mkF m 10 #[.val (.int p1), .val (.int p2), .val (.int (p2 &&& (3 : Int32)))] [])) _
        refine XS.iloadN X0.here hx rfl (hb hby d1_10) rfl ?_
        show Steps p.tables e below (s₁.setTop (mkF m 11 #[.val (.int p1), .val (.int p2), .val (.int (p2 &&& (3 : Int32)))] [(.int (p2 &&& (3 : Int32)))])) _
        refine XS.iconst X0.here hx rfl (hb hby d1_11) ?_
        show Steps p.tables e below (s₁.setTop (mkF m 12 #[.val (.int p1), .val (.int p2), .val (.int (p2 &&& (3 : Int32)))] [(.int (1 : Int32)), (.int (p2 &&& (3 : Int32)))])) _
        refine XS.icmpNo X0.here hx rfl (hb hby d1_12) rfl (teq hc12).2 ?_
        show Steps p.tables e below (s₁.setTop (mkF m 15 #[.val (.int p1), .val (.int p2), .val (.int (p2 &&& (3 : Int32)))] [])) _
        refine XS.sipush X0.here hx rfl (hb hby d1_15) ?_
        show Steps p.tables e below (s₁.setTop (mkF m 18 #[.val (.int p1), .val (.int p2), .val (.int (p2 &&& (3 : Int32)))] [(.int (392 : Int32))])) _
        refine XS.iloadN X0.here hx rfl (hb hby d1_18) rfl ?_
        show Steps p.tables e below (s₁.setTop (mkF m 19 #[.val (.int p1), .val (.int p2), .val (.int (p2 &&& (3 : Int32)))] [(.int p1), (.int (392 : Int32))])) _
        refine XS.bipush X0.here hx rfl (hb hby d1_19) ?_
        show Steps p.tables e below (s₁.setTop (mkF m 21 #[.val (.int p1), .val (.int p2), .val (.int (p2 &&& (3 : Int32)))] [(.int (15 : Int32)), (.int p1), (.int (392 : Int32))])) _
        refine XS.iand X0.here hx rfl (hb hby d1_21) rfl ?_
        show Steps p.tables e below (s₁.setTop (mkF m 22 #[.val (.int p1), .val (.int p2), .val (.int (p2 &&& (3 : Int32)))] [(.int (p1 &&& (15 : Int32))), (.int (392 : Int32))])) _
        refine XS.iadd X0.here hx rfl (hb hby d1_22) rfl ?_
        show Steps p.tables e below (s₁.setTop (mkF m 23 #[.val (.int p1), .val (.int p2), .val (.int (p2 &&& (3 : Int32)))] [(.int ((392 : Int32) + (p1 &&& (15 : Int32))))])) _
        exact retI X0 hx Bd.returns (hb hby d1_23) hr
      · show Q1 p1 p2 h0 n0 _ s₁.heap _
        rw [e0]
        exact ⟨by rw [pickF, if_neg hc5, if_pos hc12], N0, rfl⟩
    · by_cases hc26 : (p2 &&& (3 : Int32)) = (2 : Int32)
      · obtain ⟨fs, hr, hrun, hended, hW, hsame⟩ := X0.leave (v := some (.int ((492 : Int32) + (p1 &&& (15 : Int32))))) (fun h => by rw [Bd.returns] at h; cases h)
        refine ⟨_, _, pre0 _ ?_, hrun, hended, _, _, rfl, ?_, ⟨_, rfl⟩, hW, hsame.mono (by decide) (by decide)⟩
        · show Steps p.tables e below (s₁.setTop (mkF m 0 #[.val (.int p1), .val (.int p2), .unset] [])) _
          refine XS.iloadN X0.here hx rfl (hb hby d1_0) rfl ?_
          show Steps p.tables e below (s₁.setTop (mkF m 1 #[.val (.int p1), .val (.int p2), .unset] [(.int p2)])) _
          refine XS.iconst X0.here hx rfl (hb hby d1_1) ?_
          show Steps p.tables e below (s₁.setTop (mkF m 2 #[.val (.int p1), .val (.int p2), .unset] [(.int (3 : Int32)), (.int p2)])) _
          refine XS.iand X0.here hx rfl (hb hby d1_2) rfl ?_
          show Steps p.tables e below (s₁.setTop (mkF m 3 #[.val (.int p1), .val (.int p2), .unset] [(.int (p2 &&& (3 : Int32)))])) _
          refine XS.istoreN X0.here hx rfl (hb hby d1_3) rfl (l' := #[.val (.int p1), .val (.int p2), .val (.int (p2 &&& (3 : Int32)))]) rfl ?_
          show Steps p.tables e below (s₁.setTop (mkF m 4 #[.val (.int p1), .val (.int p2), .val (.int (p2 &&& (3 : Int32)))] [])) _
          refine XS.iloadN X0.here hx rfl (hb hby d1_4) rfl ?_
          show Steps p.tables e below (s₁.setTop (mkF m 5 #[.val (.int p1), .val (.int p2), .val (.int (p2 &&& (3 : Int32)))] [(.int (p2 &&& (3 : Int32)))])) _
          refine XS.ifYes X0.here hx rfl (pc0 := 5) (pc' := 10) rfl (hb hby d1_5) rfl ((if0 _ _).trans (feq hc5).2) (by decide) (by decide) ?_
          show Steps p.tables e below (s₁.setTop (mkF m 10 #[.val (.int p1), .val (.int p2), .val (.int (p2 &&& (3 : Int32)))] [])) _
          refine XS.iloadN X0.here hx rfl (hb hby d1_10) rfl ?_
          show Steps p.tables e below (s₁.setTop (mkF m 11 #[.val (.int p1), .val (.int p2), .val (.int (p2 &&& (3 : Int32)))] [(.int (p2 &&& (3 : Int32)))])) _
          refine XS.iconst X0.here hx rfl (hb hby d1_11) ?_
          show Steps p.tables e below (s₁.setTop (mkF m 12 #[.val (.int p1), .val (.int p2), .val (.int (p2 &&& (3 : Int32)))] [(.int (1 : Int32)), (.int (p2 &&& (3 : Int32)))])) _
          refine XS.icmpYes X0.here hx rfl (pc0 := 12) (pc' := 24) rfl (hb hby d1_12) rfl (feq hc12).2 (by decide) (by decide) ?_
          show Steps p.tables e below (s₁.setTop (mkF m 24 #[.val (.int p1), .val (.int p2), .val (.int (p2 &&& (3 : Int32)))] [])) _
          refine XS.iloadN X0.here hx rfl (hb hby d1_24) rfl ?_
          show Steps p.tables e below (s₁.setTop (mkF m 25 #[.val (.int p1), .val (.int p2), .val (.int (p2 &&& (3 : Int32)))] [(.int (p2 &&& (3 : Int32)))])) _
          refine XS.iconst X0.here hx rfl (hb hby d1_25) ?_
          show Steps p.tables e below (s₁.setTop (mkF m 26 #[.val (.int p1), .val (.int p2), .val (.int (p2 &&& (3 : Int32)))] [(.int (2 : Int32)), (.int (p2 &&& (3 : Int32)))])) _
          refine XS.icmpNo X0.here hx rfl (hb hby d1_26) rfl (teq hc26).2 ?_
          show Steps p.tables e below (s₁.setTop (mkF m 29 #[.val (.int p1), .val (.int p2), .val (.int (p2 &&& (3 : Int32)))] [])) _
          refine XS.sipush X0.here hx rfl (hb hby d1_29) ?_
          show Steps p.tables e below (s₁.setTop (mkF m 32 #[.val (.int p1), .val (.int p2), .val (.int (p2 &&& (3 : Int32)))] [(.int (492 : Int32))])) _
          refine XS.iloadN X0.here hx rfl (hb hby d1_32) rfl ?_
          show Steps p.tables e below (s₁.setTop (mkF m 33 #[.val (.int p1), .val (.int p2), .val (.int (p2 &&& (3 : Int32)))] [(.int p1), (.int (492 : Int32))])) _
          refine XS.bipush X0.here hx rfl (hb hby d1_33) ?_
          show Steps p.tables e below (s₁.setTop (mkF m 35 #[.val (.int p1), .val (.int p2), .val (.int (p2 &&& (3 : Int32)))] [(.int (15 : Int32)), (.int p1), (.int (492 : Int32))])) _
          refine XS.iand X0.here hx rfl (hb hby d1_35) rfl ?_
          show Steps p.tables e below (s₁.setTop (mkF m 36 #[.val (.int p1), .val (.int p2), .val (.int (p2 &&& (3 : Int32)))] [(.int (p1 &&& (15 : Int32))), (.int (492 : Int32))])) _
          refine XS.iadd X0.here hx rfl (hb hby d1_36) rfl ?_
          show Steps p.tables e below (s₁.setTop (mkF m 37 #[.val (.int p1), .val (.int p2), .val (.int (p2 &&& (3 : Int32)))] [(.int ((492 : Int32) + (p1 &&& (15 : Int32))))])) _
          exact retI X0 hx Bd.returns (hb hby d1_37) hr
        · show Q1 p1 p2 h0 n0 _ s₁.heap _
          rw [e0]
          exact ⟨by rw [pickF, if_neg hc5, if_neg hc12, if_pos hc26], N0, rfl⟩
      · obtain ⟨fs, hr, hrun, hended, hW, hsame⟩ := X0.leave (v := some (.int ((400 : Int32) + ((p1 &&& (2147483647 : Int32)) % (100 : Int32))))) (fun h => by rw [Bd.returns] at h; cases h)
        refine ⟨_, _, pre0 _ ?_, hrun, hended, _, _, rfl, ?_, ⟨_, rfl⟩, hW, hsame.mono (by decide) (by decide)⟩
        · show Steps p.tables e below (s₁.setTop (mkF m 0 #[.val (.int p1), .val (.int p2), .unset] [])) _
          refine XS.iloadN X0.here hx rfl (hb hby d1_0) rfl ?_
          show Steps p.tables e below (s₁.setTop (mkF m 1 #[.val (.int p1), .val (.int p2), .unset] [(.int p2)])) _
          refine XS.iconst X0.here hx rfl (hb hby d1_1) ?_
          show Steps p.tables e below (s₁.setTop (mkF m 2 #[.val (.int p1), .val (.int p2), .unset] [(.int (3 : Int32)), (.int p2)])) _
          refine XS.iand X0.here hx rfl (hb hby d1_2) rfl ?_
          show Steps p.tables e below (s₁.setTop (mkF m 3 #[.val (.int p1), .val (.int p2), .unset] [(.int (p2 &&& (3 : Int32)))])) _
          refine XS.istoreN X0.here hx rfl (hb hby d1_3) rfl (l' := #[.val (.int p1), .val (.int p2), .val (.int (p2 &&& (3 : Int32)))]) rfl ?_
          show Steps p.tables e below (s₁.setTop (mkF m 4 #[.val (.int p1), .val (.int p2), .val (.int (p2 &&& (3 : Int32)))] [])) _
          refine XS.iloadN X0.here hx rfl (hb hby d1_4) rfl ?_
          show Steps p.tables e below (s₁.setTop (mkF m 5 #[.val (.int p1), .val (.int p2), .val (.int (p2 &&& (3 : Int32)))] [(.int (p2 &&& (3 : Int32)))])) _
          refine XS.ifYes X0.here hx rfl (pc0 := 5) (pc' := 10) rfl (hb hby d1_5) rfl ((if0 _ _).trans (feq hc5).2) (by decide) (by decide) ?_
          show Steps p.tables e below (s₁.setTop (mkF m 10 #[.val (.int p1), .val (.int p2), .val (.int (p2 &&& (3 : Int32)))] [])) _
          refine XS.iloadN X0.here hx rfl (hb hby d1_10) rfl ?_
          show Steps p.tables e below (s₁.setTop (mkF m 11 #[.val (.int p1), .val (.int p2), .val (.int (p2 &&& (3 : Int32)))] [(.int (p2 &&& (3 : Int32)))])) _
          refine XS.iconst X0.here hx rfl (hb hby d1_11) ?_
          show Steps p.tables e below (s₁.setTop (mkF m 12 #[.val (.int p1), .val (.int p2), .val (.int (p2 &&& (3 : Int32)))] [(.int (1 : Int32)), (.int (p2 &&& (3 : Int32)))])) _
          refine XS.icmpYes X0.here hx rfl (pc0 := 12) (pc' := 24) rfl (hb hby d1_12) rfl (feq hc12).2 (by decide) (by decide) ?_
          show Steps p.tables e below (s₁.setTop (mkF m 24 #[.val (.int p1), .val (.int p2), .val (.int (p2 &&& (3 : Int32)))] [])) _
          refine XS.iloadN X0.here hx rfl (hb hby d1_24) rfl ?_
          show Steps p.tables e below (s₁.setTop (mkF m 25 #[.val (.int p1), .val (.int p2), .val (.int (p2 &&& (3 : Int32)))] [(.int (p2 &&& (3 : Int32)))])) _
          refine XS.iconst X0.here hx rfl (hb hby d1_25) ?_
          show Steps p.tables e below (s₁.setTop (mkF m 26 #[.val (.int p1), .val (.int p2), .val (.int (p2 &&& (3 : Int32)))] [(.int (2 : Int32)), (.int (p2 &&& (3 : Int32)))])) _
          refine XS.icmpYes X0.here hx rfl (pc0 := 26) (pc' := 38) rfl (hb hby d1_26) rfl (feq hc26).2 (by decide) (by decide) ?_
          show Steps p.tables e below (s₁.setTop (mkF m 38 #[.val (.int p1), .val (.int p2), .val (.int (p2 &&& (3 : Int32)))] [])) _
          refine XS.sipush X0.here hx rfl (hb hby d1_38) ?_
          show Steps p.tables e below (s₁.setTop (mkF m 41 #[.val (.int p1), .val (.int p2), .val (.int (p2 &&& (3 : Int32)))] [(.int (400 : Int32))])) _
          refine XS.iloadN X0.here hx rfl (hb hby d1_41) rfl ?_
          show Steps p.tables e below (s₁.setTop (mkF m 42 #[.val (.int p1), .val (.int p2), .val (.int (p2 &&& (3 : Int32)))] [(.int p1), (.int (400 : Int32))])) _
          refine X0.ldcInt hx hown (mvT hZ (hw _ (List.mem_of_getElem? (i := 4) rfl))) (g := (mkF m 42 #[.val (.int p1), .val (.int p2), .val (.int (p2 &&& (3 : Int32)))] [(.int p1), (.int (400 : Int32))])) rfl (hb hby d1_42) _ ?_
          show Steps p.tables e below (s₁.setTop (mkF m 44 #[.val (.int p1), .val (.int p2), .val (.int (p2 &&& (3 : Int32)))] [(.int (2147483647 : Int32)), (.int p1), (.int (400 : Int32))])) _
          refine XS.iand X0.here hx rfl (hb hby d1_44) rfl ?_
          show Steps p.tables e below (s₁.setTop (mkF m 45 #[.val (.int p1), .val (.int p2), .val (.int (p2 &&& (3 : Int32)))] [(.int (p1 &&& (2147483647 : Int32))), (.int (400 : Int32))])) _
          refine XS.bipush X0.here hx rfl (hb hby d1_45) ?_
          show Steps p.tables e below (s₁.setTop (mkF m 47 #[.val (.int p1), .val (.int p2), .val (.int (p2 &&& (3 : Int32)))] [(.int (100 : Int32)), (.int (p1 &&& (2147483647 : Int32))), (.int (400 : Int32))])) _
          refine iremM X0 hx rfl (hb hby d1_47) rfl (by decide) ?_
          show Steps p.tables e below (s₁.setTop (mkF m 48 #[.val (.int p1), .val (.int p2), .val (.int (p2 &&& (3 : Int32)))] [(.int ((p1 &&& (2147483647 : Int32)) % (100 : Int32))), (.int (400 : Int32))])) _
          refine XS.iadd X0.here hx rfl (hb hby d1_48) rfl ?_
          show Steps p.tables e below (s₁.setTop (mkF m 49 #[.val (.int p1), .val (.int p2), .val (.int (p2 &&& (3 : Int32)))] [(.int ((400 : Int32) + ((p1 &&& (2147483647 : Int32)) % (100 : Int32))))])) _
          exact retI X0 hx Bd.returns (hb hby d1_49) hr
        · show Q1 p1 p2 h0 n0 _ s₁.heap _
          rw [e0]
          exact ⟨by rw [pickF, if_neg hc5, if_neg hc12, if_neg hc26], N0, rfl⟩
theorem pn1 : plainName "com/example/checkoutd/checkoutd/api/ErrorType" = true := by first | (simp [plainName, overriddenIn]; done) | decide +kernel
theorem d2_0 : decode prog_7_method_6_code 0 = .ok (.iload_n 0, 1) := by decide +kernel
theorem d2_1 : decode prog_7_method_6_code 1 = .ok (.getstatic 10, 3) := by decide +kernel
theorem d2_4 : decode prog_7_method_6_code 4 = .ok (.getfield 51, 3) := by decide +kernel
theorem d2_7 : decode prog_7_method_6_code 7 = .ok (.if_icmp .ne 10, 3) := by decide +kernel
theorem d2_10 : decode prog_7_method_6_code 10 = .ok (.getstatic 10, 3) := by decide +kernel
theorem d2_13 : decode prog_7_method_6_code 13 = .ok (.astore_n 1, 1) := by decide +kernel
theorem d2_14 : decode prog_7_method_6_code 14 = .ok (.goto 28, 3) := by decide +kernel
theorem d2_42 : decode prog_7_method_6_code 42 = .ok (.aload_n 1, 1) := by decide +kernel
theorem d2_43 : decode prog_7_method_6_code 43 = .ok (.areturn, 1) := by decide +kernel
theorem d2_17 : decode prog_7_method_6_code 17 = .ok (.iload_n 0, 1) := by decide +kernel
theorem d2_18 : decode prog_7_method_6_code 18 = .ok (.sipush 400, 3) := by decide +kernel
theorem d2_21 : decode prog_7_method_6_code 21 = .ok (.if_icmp .lt 17, 3) := by decide +kernel
theorem d2_38 : decode prog_7_method_6_code 38 = .ok (.getstatic 25, 3) := by decide +kernel
theorem d2_41 : decode prog_7_method_6_code 41 = .ok (.astore_n 1, 1) := by decide +kernel
theorem d2_24 : decode prog_7_method_6_code 24 = .ok (.iload_n 0, 1) := by decide +kernel
theorem d2_25 : decode prog_7_method_6_code 25 = .ok (.sipush 500, 3) := by decide +kernel
theorem d2_28 : decode prog_7_method_6_code 28 = .ok (.if_icmp .ge 10, 3) := by decide +kernel
theorem d2_31 : decode prog_7_method_6_code 31 = .ok (.getstatic 3, 3) := by decide +kernel
theorem d2_34 : decode prog_7_method_6_code 34 = .ok (.astore_n 1, 1) := by decide +kernel
theorem d2_35 : decode prog_7_method_6_code 35 = .ok (.goto 7, 3) := by decide +kernel
theorem ef_rm2 (m : MethodId) (x0 : Int32) : entryFrame m #[(.int x0)] 2 = mkF m 0 #[.val (.int x0), .unset] [] := by first | (simp [entryFrame, mkF, argsToLocals, Value.category]; done) | rfl
set_option maxRecDepth 65536 in
set_option maxHeartbeats 40000000 in
theorem rm2 (l : Launch) (Z : State) (a0 : Array Value) (hw : ∀ d ∈ tables_1, d.before a0 Z = true) (ws : List Jvm.Cond) (p1 : Int32) (w1 : Addr) (w2 : Addr) (w3 : Addr) (h0 : Heap) (n0 : Nat) (O0 : Old Z n0 h0) (S_NOT_FOUND : Sta Z Z.heap "com/example/checkoutd/checkoutd/api/ErrorType" "NOT_FOUND" "Lcom/example/checkoutd/checkoutd/api/ErrorType;" (.ref w1)) (S_VALIDATION : Sta Z Z.heap "com/example/checkoutd/checkoutd/api/ErrorType" "VALIDATION" "Lcom/example/checkoutd/checkoutd/api/ErrorType;" (.ref w2)) (S_INTERNAL : Sta Z Z.heap "com/example/checkoutd/checkoutd/api/ErrorType" "INTERNAL" "Lcom/example/checkoutd/checkoutd/api/ErrorType;" (.ref w3)) (F_status : Fld Z Z.heap w1 "com/example/checkoutd/checkoutd/api/ErrorType" "status" "I" (.int (404 : Int32))) :
    MetFree l (⟨"com/example/checkoutd/checkoutd/api/ErrorType", "forStatus", "(I)Lcom/example/checkoutd/checkoutd/api/ErrorType;"⟩ : MethodName) (head1 (Jvm.Cond.code (⟨"com/example/checkoutd/checkoutd/api/ErrorType", "forStatus", "(I)Lcom/example/checkoutd/checkoutd/api/ErrorType;"⟩ : MethodName) prog_7_method_6_code 2 (some (.object "com/example/checkoutd/checkoutd/api/ErrorType")) :: ws) ({ frames := 0, cells := 0, slots := 0, locals := 0 } : Room)) (fun a U => a = #[(.int p1)] ∧ Z.Warmed39 U.vm ∧ U.heap = h0) (fun _ _ _ _ _ => True) (fun _ U o U' => ∃ v L, o = .returned v ∧ Q2 p1 w1 w2 w3 h0 n0 v U'.heap L ∧ FrameEnd U o U' L ({ frames := 0, cells := 0, slots := 0, locals := 0 } : Room).cells ({ frames := 0, cells := 0, slots := 0, locals := 0 } : Room).slots) := by
  refine MetFree.of_bodySF (plainFor_of_name pn1) hisR ?_
  intro p e s m args below meth c s₁ Bd hml0 hP hK
  obtain ⟨rfl, hZ, hh⟩ := hP
  have hx := Bd.exec
  have hby := Bd.bytes
  have hml : c.maxLocals = 2 := hml0
  have hown : s.vm.findClass "com/example/checkoutd/checkoutd/api/ErrorType" = some m.cls := findClass_of_methodNamed Bd.named
  have hnm := (name_of_methodNamed Bd.named Bd.method).1
  have X0 : Stand p l e ({ frames := 0, cells := 0, slots := 0, locals := 0 } : Room) s m #[(.int p1)] below meth c s₁ [] 0 0 := Stand.of_body Bd
  have e0 : s₁.heap = h0 := by rw [← hh, Bd.state]; rfl
  have N0 := Fr.nil n0
  have pre0 : ∀ t, Steps p.tables e below (s₁.setTop (mkF m 0 #[.val (.int p1), .unset] [])) t → Steps p.tables e below (s₁.setTop (entryFrame m #[(.int p1)] 2)) t := fun t k => castTop (ef_rm2 m p1) k
  obtain ⟨T1, X1, e1, st1⟩ := getS2 X0 hx hZ hown (host := "") (Or.inl (hw _ (List.mem_of_getElem? (i := 9) rfl))) Via.refl e0 (S_NOT_FOUND.ext O0.2) (g := (mkF m 1 #[.val (.int p1), .unset] [(.int p1)])) rfl (hb hby d2_1)
  obtain ⟨T2, X2, e2, st2⟩ := getF X1 hx hZ hown (host := "") (Or.inl (hw _ (List.mem_of_getElem? (i := 11) rfl))) Via.refl e1 (F_status.ext O0.2) (g := (mkF m 4 #[.val (.int p1), .unset] [(.ref w1), (.int p1)])) rfl rfl (hb hby d2_4)
  by_cases hc7 : p1 = (404 : Int32)
  · obtain ⟨T3, X3, e3, st3⟩ := getS2 X2 hx hZ hown (host := "") (Or.inl (hw _ (List.mem_of_getElem? (i := 9) rfl))) Via.refl e2 (S_NOT_FOUND.ext O0.2) (g := (mkF m 10 #[.val (.int p1), .unset] [])) rfl (hb hby d2_10)
    obtain ⟨fs, hr, hrun, hended, hW, hsame⟩ := X3.leave (v := some (.ref w1)) (fun h => by rw [Bd.returns] at h; cases h)
    refine ⟨_, _, pre0 _ ?_, hrun, hended, _, _, rfl, ?_, ⟨_, rfl⟩, hW, hsame.mono (by decide) (by decide)⟩
    · show Steps p.tables e below (s₁.setTop (mkF m 0 #[.val (.int p1), .unset] [])) _
      refine XS.iloadN X0.here hx rfl (hb hby d2_0) rfl ?_
      show Steps p.tables e below (s₁.setTop (mkF m 1 #[.val (.int p1), .unset] [(.int p1)])) _
      refine st1 _ ?_
      show Steps p.tables e below (T1.setTop (mkF m 4 #[.val (.int p1), .unset] [(.ref w1), (.int p1)])) _
      refine st2 _ ?_
      show Steps p.tables e below (T2.setTop (mkF m 7 #[.val (.int p1), .unset] [(.int (404 : Int32)), (.int p1)])) _
      refine XS.icmpNo X2.here hx rfl (hb hby d2_7) rfl (teq hc7).2 ?_
      show Steps p.tables e below (T2.setTop (mkF m 10 #[.val (.int p1), .unset] [])) _
      refine st3 _ ?_
      show Steps p.tables e below (T3.setTop (mkF m 13 #[.val (.int p1), .unset] [(.ref w1)])) _
      refine XS.astoreN X3.here hx rfl (hb hby d2_13) rfl rfl (l' := #[.val (.int p1), .val (.ref w1)]) rfl ?_
      show Steps p.tables e below (T3.setTop (mkF m 14 #[.val (.int p1), .val (.ref w1)] [])) _
      refine XS.goto X3.here hx rfl (pc0 := 14) (pc' := 42) rfl (hb hby d2_14) (by decide) (by decide) ?_
      show Steps p.tables e below (T3.setTop (mkF m 42 #[.val (.int p1), .val (.ref w1)] [])) _
      refine XS.aloadN X3.here hx rfl (hb hby d2_42) rfl rfl ?_
      show Steps p.tables e below (T3.setTop (mkF m 43 #[.val (.int p1), .val (.ref w1)] [(.ref w1)])) _
      jvm_step X3.here [X3.here.top, hx, (hb hby d2_43), X3.method', Bd.returns, Value.isRef, FieldType.isReference]
      first | (intro acts; rw [hr _ acts rfl rfl rfl]) | rw [hr _ _ rfl rfl rfl]
      exact Steps.refl _
    · show Q2 p1 w1 w2 w3 h0 n0 _ T3.heap _
      rw [e3]
      exact ⟨by rw [fsF, if_pos hc7], N0, rfl⟩
  · by_cases hc21 : p1 < (400 : Int32)
    · obtain ⟨T4, X4, e4, st4⟩ := getS2 X2 hx hZ hown (host := "") (Or.inl (hw _ (List.mem_of_getElem? (i := 16) rfl))) Via.refl e2 (S_INTERNAL.ext O0.2) (g := (mkF m 38 #[.val (.int p1), .unset] [])) rfl (hb hby d2_38)
      obtain ⟨fs, hr, hrun, hended, hW, hsame⟩ := X4.leave (v := some (.ref w3)) (fun h => by rw [Bd.returns] at h; cases h)
      refine ⟨_, _, pre0 _ ?_, hrun, hended, _, _, rfl, ?_, ⟨_, rfl⟩, hW, hsame.mono (by decide) (by decide)⟩
      · show Steps p.tables e below (s₁.setTop (mkF m 0 #[.val (.int p1), .unset] [])) _
        refine XS.iloadN X0.here hx rfl (hb hby d2_0) rfl ?_
        show Steps p.tables e below (s₁.setTop (mkF m 1 #[.val (.int p1), .unset] [(.int p1)])) _
        refine st1 _ ?_
        show Steps p.tables e below (T1.setTop (mkF m 4 #[.val (.int p1), .unset] [(.ref w1), (.int p1)])) _
        refine st2 _ ?_
        show Steps p.tables e below (T2.setTop (mkF m 7 #[.val (.int p1), .unset] [(.int (404 : Int32)), (.int p1)])) _
        refine XS.icmpYes X2.here hx rfl (pc0 := 7) (pc' := 17) rfl (hb hby d2_7) rfl (feq hc7).2 (by decide) (by decide) ?_
        show Steps p.tables e below (T2.setTop (mkF m 17 #[.val (.int p1), .unset] [])) _
        refine XS.iloadN X2.here hx rfl (hb hby d2_17) rfl ?_
        show Steps p.tables e below (T2.setTop (mkF m 18 #[.val (.int p1), .unset] [(.int p1)])) _
        refine XS.sipush X2.here hx rfl (hb hby d2_18) ?_
        show Steps p.tables e below (T2.setTop (mkF m 21 #[.val (.int p1), .unset] [(.int (400 : Int32)), (.int p1)])) _
        refine XS.icmpYes X2.here hx rfl (pc0 := 21) (pc' := 38) rfl (hb hby d2_21) rfl (tlt hc21).1 (by decide) (by decide) ?_
        show Steps p.tables e below (T2.setTop (mkF m 38 #[.val (.int p1), .unset] [])) _
        refine st4 _ ?_
        show Steps p.tables e below (T4.setTop (mkF m 41 #[.val (.int p1), .unset] [(.ref w3)])) _
        refine XS.astoreN X4.here hx rfl (hb hby d2_41) rfl rfl (l' := #[.val (.int p1), .val (.ref w3)]) rfl ?_
        show Steps p.tables e below (T4.setTop (mkF m 42 #[.val (.int p1), .val (.ref w3)] [])) _
        refine XS.aloadN X4.here hx rfl (hb hby d2_42) rfl rfl ?_
        show Steps p.tables e below (T4.setTop (mkF m 43 #[.val (.int p1), .val (.ref w3)] [(.ref w3)])) _
        jvm_step X4.here [X4.here.top, hx, (hb hby d2_43), X4.method', Bd.returns, Value.isRef, FieldType.isReference]
        first | (intro acts; rw [hr _ acts rfl rfl rfl]) | rw [hr _ _ rfl rfl rfl]
        exact Steps.refl _
      · show Q2 p1 w1 w2 w3 h0 n0 _ T4.heap _
        rw [e4]
        exact ⟨by rw [fsF, if_neg hc7, if_pos hc21], N0, rfl⟩
    · by_cases hc28 : p1 < (500 : Int32)
      · obtain ⟨T5, X5, e5, st5⟩ := getS2 X2 hx hZ hown (host := "") (Or.inl (hw _ (List.mem_of_getElem? (i := 13) rfl))) Via.refl e2 (S_VALIDATION.ext O0.2) (g := (mkF m 31 #[.val (.int p1), .unset] [])) rfl (hb hby d2_31)
        obtain ⟨fs, hr, hrun, hended, hW, hsame⟩ := X5.leave (v := some (.ref w2)) (fun h => by rw [Bd.returns] at h; cases h)
        refine ⟨_, _, pre0 _ ?_, hrun, hended, _, _, rfl, ?_, ⟨_, rfl⟩, hW, hsame.mono (by decide) (by decide)⟩
        · show Steps p.tables e below (s₁.setTop (mkF m 0 #[.val (.int p1), .unset] [])) _
          refine XS.iloadN X0.here hx rfl (hb hby d2_0) rfl ?_
          show Steps p.tables e below (s₁.setTop (mkF m 1 #[.val (.int p1), .unset] [(.int p1)])) _
          refine st1 _ ?_
          show Steps p.tables e below (T1.setTop (mkF m 4 #[.val (.int p1), .unset] [(.ref w1), (.int p1)])) _
          refine st2 _ ?_
          show Steps p.tables e below (T2.setTop (mkF m 7 #[.val (.int p1), .unset] [(.int (404 : Int32)), (.int p1)])) _
          refine XS.icmpYes X2.here hx rfl (pc0 := 7) (pc' := 17) rfl (hb hby d2_7) rfl (feq hc7).2 (by decide) (by decide) ?_
          show Steps p.tables e below (T2.setTop (mkF m 17 #[.val (.int p1), .unset] [])) _
          refine XS.iloadN X2.here hx rfl (hb hby d2_17) rfl ?_
          show Steps p.tables e below (T2.setTop (mkF m 18 #[.val (.int p1), .unset] [(.int p1)])) _
          refine XS.sipush X2.here hx rfl (hb hby d2_18) ?_
          show Steps p.tables e below (T2.setTop (mkF m 21 #[.val (.int p1), .unset] [(.int (400 : Int32)), (.int p1)])) _
          refine XS.icmpNo X2.here hx rfl (hb hby d2_21) rfl (flt hc21).1 ?_
          show Steps p.tables e below (T2.setTop (mkF m 24 #[.val (.int p1), .unset] [])) _
          refine XS.iloadN X2.here hx rfl (hb hby d2_24) rfl ?_
          show Steps p.tables e below (T2.setTop (mkF m 25 #[.val (.int p1), .unset] [(.int p1)])) _
          refine XS.sipush X2.here hx rfl (hb hby d2_25) ?_
          show Steps p.tables e below (T2.setTop (mkF m 28 #[.val (.int p1), .unset] [(.int (500 : Int32)), (.int p1)])) _
          refine XS.icmpNo X2.here hx rfl (hb hby d2_28) rfl (tlt hc28).2.1 ?_
          show Steps p.tables e below (T2.setTop (mkF m 31 #[.val (.int p1), .unset] [])) _
          refine st5 _ ?_
          show Steps p.tables e below (T5.setTop (mkF m 34 #[.val (.int p1), .unset] [(.ref w2)])) _
          refine XS.astoreN X5.here hx rfl (hb hby d2_34) rfl rfl (l' := #[.val (.int p1), .val (.ref w2)]) rfl ?_
          show Steps p.tables e below (T5.setTop (mkF m 35 #[.val (.int p1), .val (.ref w2)] [])) _
          refine XS.goto X5.here hx rfl (pc0 := 35) (pc' := 42) rfl (hb hby d2_35) (by decide) (by decide) ?_
          show Steps p.tables e below (T5.setTop (mkF m 42 #[.val (.int p1), .val (.ref w2)] [])) _
          refine XS.aloadN X5.here hx rfl (hb hby d2_42) rfl rfl ?_
          show Steps p.tables e below (T5.setTop (mkF m 43 #[.val (.int p1), .val (.ref w2)] [(.ref w2)])) _
          jvm_step X5.here [X5.here.top, hx, (hb hby d2_43), X5.method', Bd.returns, Value.isRef, FieldType.isReference]
          first | (intro acts; rw [hr _ acts rfl rfl rfl]) | rw [hr _ _ rfl rfl rfl]
          exact Steps.refl _
        · show Q2 p1 w1 w2 w3 h0 n0 _ T5.heap _
          rw [e5]
          exact ⟨by rw [fsF, if_neg hc7, if_neg hc21, if_pos hc28], N0, rfl⟩
      · obtain ⟨T6, X6, e6, st6⟩ := getS2 X2 hx hZ hown (host := "") (Or.inl (hw _ (List.mem_of_getElem? (i := 16) rfl))) Via.refl e2 (S_INTERNAL.ext O0.2) (g := (mkF m 38 #[.val (.int p1), .unset] [])) rfl (hb hby d2_38)
        obtain ⟨fs, hr, hrun, hended, hW, hsame⟩ := X6.leave (v := some (.ref w3)) (fun h => by rw [Bd.returns] at h; cases h)
        refine ⟨_, _, pre0 _ ?_, hrun, hended, _, _, rfl, ?_, ⟨_, rfl⟩, hW, hsame.mono (by decide) (by decide)⟩
        · show Steps p.tables e below (s₁.setTop (mkF m 0 #[.val (.int p1), .unset] [])) _
          refine XS.iloadN X0.here hx rfl (hb hby d2_0) rfl ?_
          show Steps p.tables e below (s₁.setTop (mkF m 1 #[.val (.int p1), .unset] [(.int p1)])) _
          refine st1 _ ?_
          show Steps p.tables e below (T1.setTop (mkF m 4 #[.val (.int p1), .unset] [(.ref w1), (.int p1)])) _
          refine st2 _ ?_
          show Steps p.tables e below (T2.setTop (mkF m 7 #[.val (.int p1), .unset] [(.int (404 : Int32)), (.int p1)])) _
          refine XS.icmpYes X2.here hx rfl (pc0 := 7) (pc' := 17) rfl (hb hby d2_7) rfl (feq hc7).2 (by decide) (by decide) ?_
          show Steps p.tables e below (T2.setTop (mkF m 17 #[.val (.int p1), .unset] [])) _
          refine XS.iloadN X2.here hx rfl (hb hby d2_17) rfl ?_
          show Steps p.tables e below (T2.setTop (mkF m 18 #[.val (.int p1), .unset] [(.int p1)])) _
          refine XS.sipush X2.here hx rfl (hb hby d2_18) ?_
          show Steps p.tables e below (T2.setTop (mkF m 21 #[.val (.int p1), .unset] [(.int (400 : Int32)), (.int p1)])) _
          refine XS.icmpNo X2.here hx rfl (hb hby d2_21) rfl (flt hc21).1 ?_
          show Steps p.tables e below (T2.setTop (mkF m 24 #[.val (.int p1), .unset] [])) _
          refine XS.iloadN X2.here hx rfl (hb hby d2_24) rfl ?_
          show Steps p.tables e below (T2.setTop (mkF m 25 #[.val (.int p1), .unset] [(.int p1)])) _
          refine XS.sipush X2.here hx rfl (hb hby d2_25) ?_
          show Steps p.tables e below (T2.setTop (mkF m 28 #[.val (.int p1), .unset] [(.int (500 : Int32)), (.int p1)])) _
          refine XS.icmpYes X2.here hx rfl (pc0 := 28) (pc' := 38) rfl (hb hby d2_28) rfl (flt hc28).2.1 (by decide) (by decide) ?_
          show Steps p.tables e below (T2.setTop (mkF m 38 #[.val (.int p1), .unset] [])) _
          refine st6 _ ?_
          show Steps p.tables e below (T6.setTop (mkF m 41 #[.val (.int p1), .unset] [(.ref w3)])) _
          refine XS.astoreN X6.here hx rfl (hb hby d2_41) rfl rfl (l' := #[.val (.int p1), .val (.ref w3)]) rfl ?_
          show Steps p.tables e below (T6.setTop (mkF m 42 #[.val (.int p1), .val (.ref w3)] [])) _
          refine XS.aloadN X6.here hx rfl (hb hby d2_42) rfl rfl ?_
          show Steps p.tables e below (T6.setTop (mkF m 43 #[.val (.int p1), .val (.ref w3)] [(.ref w3)])) _
          jvm_step X6.here [X6.here.top, hx, (hb hby d2_43), X6.method', Bd.returns, Value.isRef, FieldType.isReference]
          first | (intro acts; rw [hr _ acts rfl rfl rfl]) | rw [hr _ _ rfl rfl rfl]
          exact Steps.refl _
        · show Q2 p1 w1 w2 w3 h0 n0 _ T6.heap _
          rw [e6]
          exact ⟨by rw [fsF, if_neg hc7, if_neg hc21, if_neg hc28], N0, rfl⟩
theorem pd0 : parseMethodDescriptor "(II)I" = some ⟨[.int, .int], some .int⟩ := by decide +kernel
theorem pd1 : parseMethodDescriptor "(I)Lcom/example/checkoutd/checkoutd/api/ErrorType;" = some ⟨[.int], some (.object "com/example/checkoutd/checkoutd/api/ErrorType")⟩ := by decide +kernel
theorem ef_rm0 (m : MethodId) (x0 : Int32) (x1 : Int32) : entryFrame m #[(.int x0), (.int x1)] maxLocals = mkF m 0 #[.val (.int x0), .val (.int x1), .unset, .unset, .unset, .unset] [] := by first | (simp [entryFrame, mkF, argsToLocals, Value.category, maxLocals]; done) | rfl
set_option maxRecDepth 65536 in
set_option maxHeartbeats 40000000 in
theorem rm0 (l : Launch) (Z : State) (a0 : Array Value) (hw : ∀ d ∈ tables_1, d.before a0 Z = true) (ws : List Jvm.Cond) (p1 : Int32) (p2 : Int32) (w1 : Addr) (w2 : Addr) (w3 : Addr) (h0 : Heap) (n0 : Nat) (O0 : Old Z n0 h0) (S_NOT_FOUND : Sta Z Z.heap "com/example/checkoutd/checkoutd/api/ErrorType" "NOT_FOUND" "Lcom/example/checkoutd/checkoutd/api/ErrorType;" (.ref w1)) (S_VALIDATION : Sta Z Z.heap "com/example/checkoutd/checkoutd/api/ErrorType" "VALIDATION" "Lcom/example/checkoutd/checkoutd/api/ErrorType;" (.ref w2)) (S_INTERNAL : Sta Z Z.heap "com/example/checkoutd/checkoutd/api/ErrorType" "INTERNAL" "Lcom/example/checkoutd/checkoutd/api/ErrorType;" (.ref w3)) (F_status : Fld Z Z.heap w1 "com/example/checkoutd/checkoutd/api/ErrorType" "status" "I" (.int (404 : Int32))) :
    MetFree l x (head1 (Jvm.Cond.code x code maxLocals ret :: ws) room_1) (fun a U => a = #[(.int p1), (.int p2)] ∧ Z.Warmed39 U.vm ∧ U.heap = h0) (fun _ _ _ _ _ => True) (fun _ U o U' => ∃ v L, o = .returned v ∧ Q0 n0 v U'.heap L ∧ FrameEnd U o U' L 0 0) := by
  refine MetFree.of_bodySF (plainFor_of_name pn0) hisR ?_
  intro p e s m args below meth c s₁ Bd hml0 hP hK
  obtain ⟨rfl, hZ, hh⟩ := hP
  have hx := Bd.exec
  have hby := Bd.bytes
  have hml : c.maxLocals = 6 := hml0
  have hown : s.vm.findClass "com/example/checkoutd/checkoutd/api/ErrorTypeForStatusPinLaw" = some m.cls := findClass_of_methodNamed Bd.named
  have hnm := (name_of_methodNamed Bd.named Bd.method).1
  have X0 : Stand p l e room_1 s m #[(.int p1), (.int p2)] below meth c s₁ [] 0 0 := Stand.of_body Bd
  have e0 : s₁.heap = h0 := by rw [← hh, Bd.state]; rfl
  have N0 := Fr.nil n0
  have pre0 : ∀ t, Steps p.tables e below (s₁.setTop (mkF m 0 #[.val (.int p1), .val (.int p2), .unset, .unset, .unset, .unset] [])) t → Steps p.tables e below (s₁.setTop (entryFrame m #[(.int p1), (.int p2)] maxLocals)) t := fun t k => castTop (ef_rm0 m p1 p2) k
  obtain ⟨_, _, ⟨T1, L1, k1, n1⟩, -, X1, ⟨Lc1, hQ1, l1, y1, z1⟩, st1⟩ := Jvm.LawKit.callS X0 hx (y := (⟨"com/example/checkoutd/checkoutd/api/ErrorTypeForStatusPinLaw", "pick", "(II)I"⟩ : MethodName)) hown (mvT hZ (hw _ (List.mem_of_getElem? (i := 0) rfl))) (mvT hZ (hw _ (List.mem_of_getElem? (i := 1) rfl))) (mvT hZ (hw _ (List.mem_of_getElem? (i := 2) rfl))) (mvT hZ (hw _ (List.mem_of_getElem? (i := 3) rfl))) (by decide) (backOf (W := 0) (rm1 l Z a0 hw [] p1 p2 h0 n0 O0) hZ (hw _ (List.mem_of_getElem? (i := 3) rfl)) (hw _ (List.mem_of_getElem? (i := 2) rfl)) (by decide) (by decide)) (g := (mkF m 2 #[.val (.int p1), .val (.int p2), .unset, .unset, .unset, .unset] [(.int p2), (.int p1)])) rfl (by rw [hml]; rfl) (argsL := [(.int p1), (.int p2)]) (rest := []) (lenOf pd0 rfl) rfl (by show 2 * 0 + _ ≤ _; exact Nat.le_of_eq rfl) (hb hby at_2) (fun _ _ => ⟨rfl, e0, (by decide : 0 + 0 ≤ _), (by decide : 0 + 0 ≤ _)⟩)
  dsimp only [Pt.U, Pt.locs, Pt.cells, Pt.slots] at X1 l1 y1 z1 st1 hQ1
  subst l1 y1 z1
  obtain ⟨rfl, Nq1, e1⟩ := hQ1
  have N1 := Fr.app N0 Nq1
  obtain ⟨_, _, ⟨T2, L2, k2, n2⟩, -, X2, ⟨Lc2, hQ2, l2, y2, z2⟩, st2⟩ := Jvm.LawKit.callS X1 hx (y := (⟨"com/example/checkoutd/checkoutd/api/ErrorType", "forStatus", "(I)Lcom/example/checkoutd/checkoutd/api/ErrorType;"⟩ : MethodName)) hown (mvT hZ (hw _ (List.mem_of_getElem? (i := 5) rfl))) (mvT hZ (hw _ (List.mem_of_getElem? (i := 6) rfl))) (mvT hZ (hw _ (List.mem_of_getElem? (i := 7) rfl))) (mvT hZ (hw _ (List.mem_of_getElem? (i := 8) rfl))) (by decide) (backOf (W := 0) (rm2 l Z a0 hw [] (pickF p1 p2) w1 w2 w3 h0 n0 O0 S_NOT_FOUND S_VALIDATION S_INTERNAL F_status) hZ (hw _ (List.mem_of_getElem? (i := 8) rfl)) (hw _ (List.mem_of_getElem? (i := 7) rfl)) (by decide) (by decide)) (g := (mkF m 7 #[.val (.int p1), .val (.int p2), .val (.int (pickF p1 p2)), .unset, .unset, .unset] [(.int (pickF p1 p2))])) rfl (by rw [hml]; rfl) (argsL := [(.int (pickF p1 p2))]) (rest := []) (lenOf pd1 rfl) rfl (by show 2 * 0 + _ ≤ _; exact Nat.le_of_eq rfl) (hb hby at_7) (fun _ _ => ⟨rfl, e1, (by decide : 0 + 0 ≤ _), (by decide : 0 + 0 ≤ _)⟩)
  dsimp only [Pt.U, Pt.locs, Pt.cells, Pt.slots] at X2 l2 y2 z2 st2 hQ2
  subst l2 y2 z2
  obtain ⟨rfl, Nq2, e2⟩ := hQ2
  have N2 := Fr.app N1 Nq2
  by_cases hc16 : ((pickF p1 p2) / (100 : Int32)) = (4 : Int32)
  · by_cases hc30 : (pickF p1 p2) = (404 : Int32)
    · obtain ⟨T3, X3, e3, st3⟩ := getS2 X2 hx hZ hown (host := "") (Or.inl (hw _ (List.mem_of_getElem? (i := 19) rfl))) Via.refl e2 (S_NOT_FOUND.ext O0.2) (g := (mkF m 33 #[.val (.int p1), .val (.int p2), .val (.int (pickF p1 p2)), .val (.ref (fsF (pickF p1 p2) w1 w2 w3)), .val (.int (1 : Int32)), .unset] [])) rfl (hb hby at_33)
      obtain ⟨fs, hr, hrun, hended, hW, hsame⟩ := X3.leave (v := some (.int (1 : Int32))) (fun h => by rw [Bd.returns] at h; cases h)
      refine ⟨_, _, pre0 _ ?_, hrun, hended, _, _, rfl, ?_, ⟨_, rfl⟩, hW, hsame.mono (by decide) (by decide)⟩
      · show Steps p.tables e below (s₁.setTop (mkF m 0 #[.val (.int p1), .val (.int p2), .unset, .unset, .unset, .unset] [])) _
        refine XS.iloadN X0.here hx rfl (hb hby at_0) rfl ?_
        show Steps p.tables e below (s₁.setTop (mkF m 1 #[.val (.int p1), .val (.int p2), .unset, .unset, .unset, .unset] [(.int p1)])) _
        refine XS.iloadN X0.here hx rfl (hb hby at_1) rfl ?_
        show Steps p.tables e below (s₁.setTop (mkF m 2 #[.val (.int p1), .val (.int p2), .unset, .unset, .unset, .unset] [(.int p2), (.int p1)])) _
        refine st1 _ ?_
        show Steps p.tables e below (T1.setTop (mkF m 5 #[.val (.int p1), .val (.int p2), .unset, .unset, .unset, .unset] [(.int (pickF p1 p2))])) _
        refine XS.istoreN X1.here hx rfl (hb hby at_5) rfl (l' := #[.val (.int p1), .val (.int p2), .val (.int (pickF p1 p2)), .unset, .unset, .unset]) rfl ?_
        show Steps p.tables e below (T1.setTop (mkF m 6 #[.val (.int p1), .val (.int p2), .val (.int (pickF p1 p2)), .unset, .unset, .unset] [])) _
        refine XS.iloadN X1.here hx rfl (hb hby at_6) rfl ?_
        show Steps p.tables e below (T1.setTop (mkF m 7 #[.val (.int p1), .val (.int p2), .val (.int (pickF p1 p2)), .unset, .unset, .unset] [(.int (pickF p1 p2))])) _
        refine st2 _ ?_
        show Steps p.tables e below (T2.setTop (mkF m 10 #[.val (.int p1), .val (.int p2), .val (.int (pickF p1 p2)), .unset, .unset, .unset] [(.ref (fsF (pickF p1 p2) w1 w2 w3))])) _
        refine XS.astoreN X2.here hx rfl (hb hby at_10) rfl rfl (l' := #[.val (.int p1), .val (.int p2), .val (.int (pickF p1 p2)), .val (.ref (fsF (pickF p1 p2) w1 w2 w3)), .unset, .unset]) rfl ?_
        show Steps p.tables e below (T2.setTop (mkF m 11 #[.val (.int p1), .val (.int p2), .val (.int (pickF p1 p2)), .val (.ref (fsF (pickF p1 p2) w1 w2 w3)), .unset, .unset] [])) _
        refine XS.iloadN X2.here hx rfl (hb hby at_11) rfl ?_
        show Steps p.tables e below (T2.setTop (mkF m 12 #[.val (.int p1), .val (.int p2), .val (.int (pickF p1 p2)), .val (.ref (fsF (pickF p1 p2) w1 w2 w3)), .unset, .unset] [(.int (pickF p1 p2))])) _
        refine XS.bipush X2.here hx rfl (hb hby at_12) ?_
        show Steps p.tables e below (T2.setTop (mkF m 14 #[.val (.int p1), .val (.int p2), .val (.int (pickF p1 p2)), .val (.ref (fsF (pickF p1 p2) w1 w2 w3)), .unset, .unset] [(.int (100 : Int32)), (.int (pickF p1 p2))])) _
        refine XS.idiv X2.here hx rfl (hb hby at_14) rfl (by decide) ?_
        show Steps p.tables e below (T2.setTop (mkF m 15 #[.val (.int p1), .val (.int p2), .val (.int (pickF p1 p2)), .val (.ref (fsF (pickF p1 p2) w1 w2 w3)), .unset, .unset] [(.int ((pickF p1 p2) / (100 : Int32)))])) _
        refine XS.iconst X2.here hx rfl (hb hby at_15) ?_
        show Steps p.tables e below (T2.setTop (mkF m 16 #[.val (.int p1), .val (.int p2), .val (.int (pickF p1 p2)), .val (.ref (fsF (pickF p1 p2) w1 w2 w3)), .unset, .unset] [(.int (4 : Int32)), (.int ((pickF p1 p2) / (100 : Int32)))])) _
        refine XS.icmpNo X2.here hx rfl (hb hby at_16) rfl (teq hc16).2 ?_
        show Steps p.tables e below (T2.setTop (mkF m 19 #[.val (.int p1), .val (.int p2), .val (.int (pickF p1 p2)), .val (.ref (fsF (pickF p1 p2) w1 w2 w3)), .unset, .unset] [])) _
        refine XS.iconst X2.here hx rfl (hb hby at_19) ?_
        show Steps p.tables e below (T2.setTop (mkF m 20 #[.val (.int p1), .val (.int p2), .val (.int (pickF p1 p2)), .val (.ref (fsF (pickF p1 p2) w1 w2 w3)), .unset, .unset] [(.int (1 : Int32))])) _
        refine XS.goto X2.here hx rfl (pc0 := 20) (pc' := 24) rfl (hb hby at_20) (by decide) (by decide) ?_
        show Steps p.tables e below (T2.setTop (mkF m 24 #[.val (.int p1), .val (.int p2), .val (.int (pickF p1 p2)), .val (.ref (fsF (pickF p1 p2) w1 w2 w3)), .unset, .unset] [(.int (1 : Int32))])) _
        refine XS.istore X2.here hx rfl (hb hby at_24) rfl (l' := #[.val (.int p1), .val (.int p2), .val (.int (pickF p1 p2)), .val (.ref (fsF (pickF p1 p2) w1 w2 w3)), .val (.int (1 : Int32)), .unset]) rfl ?_
        show Steps p.tables e below (T2.setTop (mkF m 26 #[.val (.int p1), .val (.int p2), .val (.int (pickF p1 p2)), .val (.ref (fsF (pickF p1 p2) w1 w2 w3)), .val (.int (1 : Int32)), .unset] [])) _
        refine XS.iloadN X2.here hx rfl (hb hby at_26) rfl ?_
        show Steps p.tables e below (T2.setTop (mkF m 27 #[.val (.int p1), .val (.int p2), .val (.int (pickF p1 p2)), .val (.ref (fsF (pickF p1 p2) w1 w2 w3)), .val (.int (1 : Int32)), .unset] [(.int (pickF p1 p2))])) _
        refine XS.sipush X2.here hx rfl (hb hby at_27) ?_
        show Steps p.tables e below (T2.setTop (mkF m 30 #[.val (.int p1), .val (.int p2), .val (.int (pickF p1 p2)), .val (.ref (fsF (pickF p1 p2) w1 w2 w3)), .val (.int (1 : Int32)), .unset] [(.int (404 : Int32)), (.int (pickF p1 p2))])) _
        refine XS.icmpNo X2.here hx rfl (hb hby at_30) rfl (teq hc30).2 ?_
        show Steps p.tables e below (T2.setTop (mkF m 33 #[.val (.int p1), .val (.int p2), .val (.int (pickF p1 p2)), .val (.ref (fsF (pickF p1 p2) w1 w2 w3)), .val (.int (1 : Int32)), .unset] [])) _
        refine st3 _ ?_
        show Steps p.tables e below (T3.setTop (mkF m 36 #[.val (.int p1), .val (.int p2), .val (.int (pickF p1 p2)), .val (.ref (fsF (pickF p1 p2) w1 w2 w3)), .val (.int (1 : Int32)), .unset] [(.ref w1)])) _
        refine XS.astore X3.here hx rfl (hb hby at_36) rfl rfl (l' := #[.val (.int p1), .val (.int p2), .val (.int (pickF p1 p2)), .val (.ref (fsF (pickF p1 p2) w1 w2 w3)), .val (.int (1 : Int32)), .val (.ref w1)]) rfl ?_
        show Steps p.tables e below (T3.setTop (mkF m 38 #[.val (.int p1), .val (.int p2), .val (.int (pickF p1 p2)), .val (.ref (fsF (pickF p1 p2) w1 w2 w3)), .val (.int (1 : Int32)), .val (.ref w1)] [])) _
        refine XS.goto X3.here hx rfl (pc0 := 38) (pc' := 59) rfl (hb hby at_38) (by decide) (by decide) ?_
        show Steps p.tables e below (T3.setTop (mkF m 59 #[.val (.int p1), .val (.int p2), .val (.int (pickF p1 p2)), .val (.ref (fsF (pickF p1 p2) w1 w2 w3)), .val (.int (1 : Int32)), .val (.ref w1)] [])) _
        refine XS.aloadN X3.here hx rfl (hb hby at_59) rfl rfl ?_
        show Steps p.tables e below (T3.setTop (mkF m 60 #[.val (.int p1), .val (.int p2), .val (.int (pickF p1 p2)), .val (.ref (fsF (pickF p1 p2) w1 w2 w3)), .val (.int (1 : Int32)), .val (.ref w1)] [(.ref (fsF (pickF p1 p2) w1 w2 w3))])) _
        refine XS.aload X3.here hx rfl (hb hby at_60) rfl rfl ?_
        show Steps p.tables e below (T3.setTop (mkF m 62 #[.val (.int p1), .val (.int p2), .val (.int (pickF p1 p2)), .val (.ref (fsF (pickF p1 p2) w1 w2 w3)), .val (.int (1 : Int32)), .val (.ref w1)] [(.ref w1), (.ref (fsF (pickF p1 p2) w1 w2 w3))])) _
        refine Jvm.RoadKit.acmp (g := (mkF m 62 #[.val (.int p1), .val (.int p2), .val (.int (pickF p1 p2)), .val (.ref (fsF (pickF p1 p2) w1 w2 w3)), .val (.int (1 : Int32)), .val (.ref w1)] [(.ref w1), (.ref (fsF (pickF p1 p2) w1 w2 w3))])) X3 hx rfl rfl rfl (pc0 := 62) (pc' := 65) (same := true) rfl (hb hby at_62) rfl (decide_eq_true (congrArg Value.ref (own_fs1 hc30))) (by decide) (by decide) ?_
        show Steps p.tables e below (T3.setTop (mkF m 65 #[.val (.int p1), .val (.int p2), .val (.int (pickF p1 p2)), .val (.ref (fsF (pickF p1 p2) w1 w2 w3)), .val (.int (1 : Int32)), .val (.ref w1)] [])) _
        refine XS.iconst X3.here hx rfl (hb hby at_65) ?_
        show Steps p.tables e below (T3.setTop (mkF m 66 #[.val (.int p1), .val (.int p2), .val (.int (pickF p1 p2)), .val (.ref (fsF (pickF p1 p2) w1 w2 w3)), .val (.int (1 : Int32)), .val (.ref w1)] [(.int (1 : Int32))])) _
        refine XS.goto X3.here hx rfl (pc0 := 66) (pc' := 70) rfl (hb hby at_66) (by decide) (by decide) ?_
        show Steps p.tables e below (T3.setTop (mkF m 70 #[.val (.int p1), .val (.int p2), .val (.int (pickF p1 p2)), .val (.ref (fsF (pickF p1 p2) w1 w2 w3)), .val (.int (1 : Int32)), .val (.ref w1)] [(.int (1 : Int32))])) _
        exact retN X3 hx (t := .boolean) Bd.returns (by simp) (hb hby at_70) hr
      · show Q0 n0 _ T3.heap _
        rw [e3]
        exact ⟨rfl, N2⟩
    · obtain ⟨T4, X4, e4, st4⟩ := getS2 X2 hx hZ hown (host := "") (Or.inl (hw _ (List.mem_of_getElem? (i := 15) rfl))) Via.refl e2 (S_VALIDATION.ext O0.2) (g := (mkF m 46 #[.val (.int p1), .val (.int p2), .val (.int (pickF p1 p2)), .val (.ref (fsF (pickF p1 p2) w1 w2 w3)), .val (.int (1 : Int32)), .unset] [])) rfl (hb hby at_46)
      obtain ⟨fs, hr, hrun, hended, hW, hsame⟩ := X4.leave (v := some (.int (1 : Int32))) (fun h => by rw [Bd.returns] at h; cases h)
      refine ⟨_, _, pre0 _ ?_, hrun, hended, _, _, rfl, ?_, ⟨_, rfl⟩, hW, hsame.mono (by decide) (by decide)⟩
      · show Steps p.tables e below (s₁.setTop (mkF m 0 #[.val (.int p1), .val (.int p2), .unset, .unset, .unset, .unset] [])) _
        refine XS.iloadN X0.here hx rfl (hb hby at_0) rfl ?_
        show Steps p.tables e below (s₁.setTop (mkF m 1 #[.val (.int p1), .val (.int p2), .unset, .unset, .unset, .unset] [(.int p1)])) _
        refine XS.iloadN X0.here hx rfl (hb hby at_1) rfl ?_
        show Steps p.tables e below (s₁.setTop (mkF m 2 #[.val (.int p1), .val (.int p2), .unset, .unset, .unset, .unset] [(.int p2), (.int p1)])) _
        refine st1 _ ?_
        show Steps p.tables e below (T1.setTop (mkF m 5 #[.val (.int p1), .val (.int p2), .unset, .unset, .unset, .unset] [(.int (pickF p1 p2))])) _
        refine XS.istoreN X1.here hx rfl (hb hby at_5) rfl (l' := #[.val (.int p1), .val (.int p2), .val (.int (pickF p1 p2)), .unset, .unset, .unset]) rfl ?_
        show Steps p.tables e below (T1.setTop (mkF m 6 #[.val (.int p1), .val (.int p2), .val (.int (pickF p1 p2)), .unset, .unset, .unset] [])) _
        refine XS.iloadN X1.here hx rfl (hb hby at_6) rfl ?_
        show Steps p.tables e below (T1.setTop (mkF m 7 #[.val (.int p1), .val (.int p2), .val (.int (pickF p1 p2)), .unset, .unset, .unset] [(.int (pickF p1 p2))])) _
        refine st2 _ ?_
        show Steps p.tables e below (T2.setTop (mkF m 10 #[.val (.int p1), .val (.int p2), .val (.int (pickF p1 p2)), .unset, .unset, .unset] [(.ref (fsF (pickF p1 p2) w1 w2 w3))])) _
        refine XS.astoreN X2.here hx rfl (hb hby at_10) rfl rfl (l' := #[.val (.int p1), .val (.int p2), .val (.int (pickF p1 p2)), .val (.ref (fsF (pickF p1 p2) w1 w2 w3)), .unset, .unset]) rfl ?_
        show Steps p.tables e below (T2.setTop (mkF m 11 #[.val (.int p1), .val (.int p2), .val (.int (pickF p1 p2)), .val (.ref (fsF (pickF p1 p2) w1 w2 w3)), .unset, .unset] [])) _
        refine XS.iloadN X2.here hx rfl (hb hby at_11) rfl ?_
        show Steps p.tables e below (T2.setTop (mkF m 12 #[.val (.int p1), .val (.int p2), .val (.int (pickF p1 p2)), .val (.ref (fsF (pickF p1 p2) w1 w2 w3)), .unset, .unset] [(.int (pickF p1 p2))])) _
        refine XS.bipush X2.here hx rfl (hb hby at_12) ?_
        show Steps p.tables e below (T2.setTop (mkF m 14 #[.val (.int p1), .val (.int p2), .val (.int (pickF p1 p2)), .val (.ref (fsF (pickF p1 p2) w1 w2 w3)), .unset, .unset] [(.int (100 : Int32)), (.int (pickF p1 p2))])) _
        refine XS.idiv X2.here hx rfl (hb hby at_14) rfl (by decide) ?_
        show Steps p.tables e below (T2.setTop (mkF m 15 #[.val (.int p1), .val (.int p2), .val (.int (pickF p1 p2)), .val (.ref (fsF (pickF p1 p2) w1 w2 w3)), .unset, .unset] [(.int ((pickF p1 p2) / (100 : Int32)))])) _
        refine XS.iconst X2.here hx rfl (hb hby at_15) ?_
        show Steps p.tables e below (T2.setTop (mkF m 16 #[.val (.int p1), .val (.int p2), .val (.int (pickF p1 p2)), .val (.ref (fsF (pickF p1 p2) w1 w2 w3)), .unset, .unset] [(.int (4 : Int32)), (.int ((pickF p1 p2) / (100 : Int32)))])) _
        refine XS.icmpNo X2.here hx rfl (hb hby at_16) rfl (teq hc16).2 ?_
        show Steps p.tables e below (T2.setTop (mkF m 19 #[.val (.int p1), .val (.int p2), .val (.int (pickF p1 p2)), .val (.ref (fsF (pickF p1 p2) w1 w2 w3)), .unset, .unset] [])) _
        refine XS.iconst X2.here hx rfl (hb hby at_19) ?_
        show Steps p.tables e below (T2.setTop (mkF m 20 #[.val (.int p1), .val (.int p2), .val (.int (pickF p1 p2)), .val (.ref (fsF (pickF p1 p2) w1 w2 w3)), .unset, .unset] [(.int (1 : Int32))])) _
        refine XS.goto X2.here hx rfl (pc0 := 20) (pc' := 24) rfl (hb hby at_20) (by decide) (by decide) ?_
        show Steps p.tables e below (T2.setTop (mkF m 24 #[.val (.int p1), .val (.int p2), .val (.int (pickF p1 p2)), .val (.ref (fsF (pickF p1 p2) w1 w2 w3)), .unset, .unset] [(.int (1 : Int32))])) _
        refine XS.istore X2.here hx rfl (hb hby at_24) rfl (l' := #[.val (.int p1), .val (.int p2), .val (.int (pickF p1 p2)), .val (.ref (fsF (pickF p1 p2) w1 w2 w3)), .val (.int (1 : Int32)), .unset]) rfl ?_
        show Steps p.tables e below (T2.setTop (mkF m 26 #[.val (.int p1), .val (.int p2), .val (.int (pickF p1 p2)), .val (.ref (fsF (pickF p1 p2) w1 w2 w3)), .val (.int (1 : Int32)), .unset] [])) _
        refine XS.iloadN X2.here hx rfl (hb hby at_26) rfl ?_
        show Steps p.tables e below (T2.setTop (mkF m 27 #[.val (.int p1), .val (.int p2), .val (.int (pickF p1 p2)), .val (.ref (fsF (pickF p1 p2) w1 w2 w3)), .val (.int (1 : Int32)), .unset] [(.int (pickF p1 p2))])) _
        refine XS.sipush X2.here hx rfl (hb hby at_27) ?_
        show Steps p.tables e below (T2.setTop (mkF m 30 #[.val (.int p1), .val (.int p2), .val (.int (pickF p1 p2)), .val (.ref (fsF (pickF p1 p2) w1 w2 w3)), .val (.int (1 : Int32)), .unset] [(.int (404 : Int32)), (.int (pickF p1 p2))])) _
        refine XS.icmpYes X2.here hx rfl (pc0 := 30) (pc' := 41) rfl (hb hby at_30) rfl (feq hc30).2 (by decide) (by decide) ?_
        show Steps p.tables e below (T2.setTop (mkF m 41 #[.val (.int p1), .val (.int p2), .val (.int (pickF p1 p2)), .val (.ref (fsF (pickF p1 p2) w1 w2 w3)), .val (.int (1 : Int32)), .unset] [])) _
        refine XS.iload X2.here hx rfl (hb hby at_41) rfl ?_
        show Steps p.tables e below (T2.setTop (mkF m 43 #[.val (.int p1), .val (.int p2), .val (.int (pickF p1 p2)), .val (.ref (fsF (pickF p1 p2) w1 w2 w3)), .val (.int (1 : Int32)), .unset] [(.int (1 : Int32))])) _
        refine XS.ifNo X2.here hx rfl (hb hby at_43) rfl ((if0 _ _).trans (feq (by decide)).1) ?_
        show Steps p.tables e below (T2.setTop (mkF m 46 #[.val (.int p1), .val (.int p2), .val (.int (pickF p1 p2)), .val (.ref (fsF (pickF p1 p2) w1 w2 w3)), .val (.int (1 : Int32)), .unset] [])) _
        refine st4 _ ?_
        show Steps p.tables e below (T4.setTop (mkF m 49 #[.val (.int p1), .val (.int p2), .val (.int (pickF p1 p2)), .val (.ref (fsF (pickF p1 p2) w1 w2 w3)), .val (.int (1 : Int32)), .unset] [(.ref w2)])) _
        refine XS.astore X4.here hx rfl (hb hby at_49) rfl rfl (l' := #[.val (.int p1), .val (.int p2), .val (.int (pickF p1 p2)), .val (.ref (fsF (pickF p1 p2) w1 w2 w3)), .val (.int (1 : Int32)), .val (.ref w2)]) rfl ?_
        show Steps p.tables e below (T4.setTop (mkF m 51 #[.val (.int p1), .val (.int p2), .val (.int (pickF p1 p2)), .val (.ref (fsF (pickF p1 p2) w1 w2 w3)), .val (.int (1 : Int32)), .val (.ref w2)] [])) _
        refine XS.goto X4.here hx rfl (pc0 := 51) (pc' := 59) rfl (hb hby at_51) (by decide) (by decide) ?_
        show Steps p.tables e below (T4.setTop (mkF m 59 #[.val (.int p1), .val (.int p2), .val (.int (pickF p1 p2)), .val (.ref (fsF (pickF p1 p2) w1 w2 w3)), .val (.int (1 : Int32)), .val (.ref w2)] [])) _
        refine XS.aloadN X4.here hx rfl (hb hby at_59) rfl rfl ?_
        show Steps p.tables e below (T4.setTop (mkF m 60 #[.val (.int p1), .val (.int p2), .val (.int (pickF p1 p2)), .val (.ref (fsF (pickF p1 p2) w1 w2 w3)), .val (.int (1 : Int32)), .val (.ref w2)] [(.ref (fsF (pickF p1 p2) w1 w2 w3))])) _
        refine XS.aload X4.here hx rfl (hb hby at_60) rfl rfl ?_
        show Steps p.tables e below (T4.setTop (mkF m 62 #[.val (.int p1), .val (.int p2), .val (.int (pickF p1 p2)), .val (.ref (fsF (pickF p1 p2) w1 w2 w3)), .val (.int (1 : Int32)), .val (.ref w2)] [(.ref w2), (.ref (fsF (pickF p1 p2) w1 w2 w3))])) _
        refine Jvm.RoadKit.acmp (g := (mkF m 62 #[.val (.int p1), .val (.int p2), .val (.int (pickF p1 p2)), .val (.ref (fsF (pickF p1 p2) w1 w2 w3)), .val (.int (1 : Int32)), .val (.ref w2)] [(.ref w2), (.ref (fsF (pickF p1 p2) w1 w2 w3))])) X4 hx rfl rfl rfl (pc0 := 62) (pc' := 65) (same := true) rfl (hb hby at_62) rfl (decide_eq_true (congrArg Value.ref (own_fs2 hc30 hc16))) (by decide) (by decide) ?_
        show Steps p.tables e below (T4.setTop (mkF m 65 #[.val (.int p1), .val (.int p2), .val (.int (pickF p1 p2)), .val (.ref (fsF (pickF p1 p2) w1 w2 w3)), .val (.int (1 : Int32)), .val (.ref w2)] [])) _
        refine XS.iconst X4.here hx rfl (hb hby at_65) ?_
        show Steps p.tables e below (T4.setTop (mkF m 66 #[.val (.int p1), .val (.int p2), .val (.int (pickF p1 p2)), .val (.ref (fsF (pickF p1 p2) w1 w2 w3)), .val (.int (1 : Int32)), .val (.ref w2)] [(.int (1 : Int32))])) _
        refine XS.goto X4.here hx rfl (pc0 := 66) (pc' := 70) rfl (hb hby at_66) (by decide) (by decide) ?_
        show Steps p.tables e below (T4.setTop (mkF m 70 #[.val (.int p1), .val (.int p2), .val (.int (pickF p1 p2)), .val (.ref (fsF (pickF p1 p2) w1 w2 w3)), .val (.int (1 : Int32)), .val (.ref w2)] [(.int (1 : Int32))])) _
        exact retN X4 hx (t := .boolean) Bd.returns (by simp) (hb hby at_70) hr
      · show Q0 n0 _ T4.heap _
        rw [e4]
        exact ⟨rfl, N2⟩
  · by_cases hc30 : (pickF p1 p2) = (404 : Int32)
    · obtain ⟨T5, X5, e5, st5⟩ := getS2 X2 hx hZ hown (host := "") (Or.inl (hw _ (List.mem_of_getElem? (i := 19) rfl))) Via.refl e2 (S_NOT_FOUND.ext O0.2) (g := (mkF m 33 #[.val (.int p1), .val (.int p2), .val (.int (pickF p1 p2)), .val (.ref (fsF (pickF p1 p2) w1 w2 w3)), .val (.int (0 : Int32)), .unset] [])) rfl (hb hby at_33)
      obtain ⟨fs, hr, hrun, hended, hW, hsame⟩ := X5.leave (v := some (.int (1 : Int32))) (fun h => by rw [Bd.returns] at h; cases h)
      refine ⟨_, _, pre0 _ ?_, hrun, hended, _, _, rfl, ?_, ⟨_, rfl⟩, hW, hsame.mono (by decide) (by decide)⟩
      · show Steps p.tables e below (s₁.setTop (mkF m 0 #[.val (.int p1), .val (.int p2), .unset, .unset, .unset, .unset] [])) _
        refine XS.iloadN X0.here hx rfl (hb hby at_0) rfl ?_
        show Steps p.tables e below (s₁.setTop (mkF m 1 #[.val (.int p1), .val (.int p2), .unset, .unset, .unset, .unset] [(.int p1)])) _
        refine XS.iloadN X0.here hx rfl (hb hby at_1) rfl ?_
        show Steps p.tables e below (s₁.setTop (mkF m 2 #[.val (.int p1), .val (.int p2), .unset, .unset, .unset, .unset] [(.int p2), (.int p1)])) _
        refine st1 _ ?_
        show Steps p.tables e below (T1.setTop (mkF m 5 #[.val (.int p1), .val (.int p2), .unset, .unset, .unset, .unset] [(.int (pickF p1 p2))])) _
        refine XS.istoreN X1.here hx rfl (hb hby at_5) rfl (l' := #[.val (.int p1), .val (.int p2), .val (.int (pickF p1 p2)), .unset, .unset, .unset]) rfl ?_
        show Steps p.tables e below (T1.setTop (mkF m 6 #[.val (.int p1), .val (.int p2), .val (.int (pickF p1 p2)), .unset, .unset, .unset] [])) _
        refine XS.iloadN X1.here hx rfl (hb hby at_6) rfl ?_
        show Steps p.tables e below (T1.setTop (mkF m 7 #[.val (.int p1), .val (.int p2), .val (.int (pickF p1 p2)), .unset, .unset, .unset] [(.int (pickF p1 p2))])) _
        refine st2 _ ?_
        show Steps p.tables e below (T2.setTop (mkF m 10 #[.val (.int p1), .val (.int p2), .val (.int (pickF p1 p2)), .unset, .unset, .unset] [(.ref (fsF (pickF p1 p2) w1 w2 w3))])) _
        refine XS.astoreN X2.here hx rfl (hb hby at_10) rfl rfl (l' := #[.val (.int p1), .val (.int p2), .val (.int (pickF p1 p2)), .val (.ref (fsF (pickF p1 p2) w1 w2 w3)), .unset, .unset]) rfl ?_
        show Steps p.tables e below (T2.setTop (mkF m 11 #[.val (.int p1), .val (.int p2), .val (.int (pickF p1 p2)), .val (.ref (fsF (pickF p1 p2) w1 w2 w3)), .unset, .unset] [])) _
        refine XS.iloadN X2.here hx rfl (hb hby at_11) rfl ?_
        show Steps p.tables e below (T2.setTop (mkF m 12 #[.val (.int p1), .val (.int p2), .val (.int (pickF p1 p2)), .val (.ref (fsF (pickF p1 p2) w1 w2 w3)), .unset, .unset] [(.int (pickF p1 p2))])) _
        refine XS.bipush X2.here hx rfl (hb hby at_12) ?_
        show Steps p.tables e below (T2.setTop (mkF m 14 #[.val (.int p1), .val (.int p2), .val (.int (pickF p1 p2)), .val (.ref (fsF (pickF p1 p2) w1 w2 w3)), .unset, .unset] [(.int (100 : Int32)), (.int (pickF p1 p2))])) _
        refine XS.idiv X2.here hx rfl (hb hby at_14) rfl (by decide) ?_
        show Steps p.tables e below (T2.setTop (mkF m 15 #[.val (.int p1), .val (.int p2), .val (.int (pickF p1 p2)), .val (.ref (fsF (pickF p1 p2) w1 w2 w3)), .unset, .unset] [(.int ((pickF p1 p2) / (100 : Int32)))])) _
        refine XS.iconst X2.here hx rfl (hb hby at_15) ?_
        show Steps p.tables e below (T2.setTop (mkF m 16 #[.val (.int p1), .val (.int p2), .val (.int (pickF p1 p2)), .val (.ref (fsF (pickF p1 p2) w1 w2 w3)), .unset, .unset] [(.int (4 : Int32)), (.int ((pickF p1 p2) / (100 : Int32)))])) _
        refine XS.icmpYes X2.here hx rfl (pc0 := 16) (pc' := 23) rfl (hb hby at_16) rfl (feq hc16).2 (by decide) (by decide) ?_
        show Steps p.tables e below (T2.setTop (mkF m 23 #[.val (.int p1), .val (.int p2), .val (.int (pickF p1 p2)), .val (.ref (fsF (pickF p1 p2) w1 w2 w3)), .unset, .unset] [])) _
        refine XS.iconst X2.here hx rfl (hb hby at_23) ?_
        show Steps p.tables e below (T2.setTop (mkF m 24 #[.val (.int p1), .val (.int p2), .val (.int (pickF p1 p2)), .val (.ref (fsF (pickF p1 p2) w1 w2 w3)), .unset, .unset] [(.int (0 : Int32))])) _
        refine XS.istore X2.here hx rfl (hb hby at_24) rfl (l' := #[.val (.int p1), .val (.int p2), .val (.int (pickF p1 p2)), .val (.ref (fsF (pickF p1 p2) w1 w2 w3)), .val (.int (0 : Int32)), .unset]) rfl ?_
        show Steps p.tables e below (T2.setTop (mkF m 26 #[.val (.int p1), .val (.int p2), .val (.int (pickF p1 p2)), .val (.ref (fsF (pickF p1 p2) w1 w2 w3)), .val (.int (0 : Int32)), .unset] [])) _
        refine XS.iloadN X2.here hx rfl (hb hby at_26) rfl ?_
        show Steps p.tables e below (T2.setTop (mkF m 27 #[.val (.int p1), .val (.int p2), .val (.int (pickF p1 p2)), .val (.ref (fsF (pickF p1 p2) w1 w2 w3)), .val (.int (0 : Int32)), .unset] [(.int (pickF p1 p2))])) _
        refine XS.sipush X2.here hx rfl (hb hby at_27) ?_
        show Steps p.tables e below (T2.setTop (mkF m 30 #[.val (.int p1), .val (.int p2), .val (.int (pickF p1 p2)), .val (.ref (fsF (pickF p1 p2) w1 w2 w3)), .val (.int (0 : Int32)), .unset] [(.int (404 : Int32)), (.int (pickF p1 p2))])) _
        refine XS.icmpNo X2.here hx rfl (hb hby at_30) rfl (teq hc30).2 ?_
        show Steps p.tables e below (T2.setTop (mkF m 33 #[.val (.int p1), .val (.int p2), .val (.int (pickF p1 p2)), .val (.ref (fsF (pickF p1 p2) w1 w2 w3)), .val (.int (0 : Int32)), .unset] [])) _
        refine st5 _ ?_
        show Steps p.tables e below (T5.setTop (mkF m 36 #[.val (.int p1), .val (.int p2), .val (.int (pickF p1 p2)), .val (.ref (fsF (pickF p1 p2) w1 w2 w3)), .val (.int (0 : Int32)), .unset] [(.ref w1)])) _
        refine XS.astore X5.here hx rfl (hb hby at_36) rfl rfl (l' := #[.val (.int p1), .val (.int p2), .val (.int (pickF p1 p2)), .val (.ref (fsF (pickF p1 p2) w1 w2 w3)), .val (.int (0 : Int32)), .val (.ref w1)]) rfl ?_
        show Steps p.tables e below (T5.setTop (mkF m 38 #[.val (.int p1), .val (.int p2), .val (.int (pickF p1 p2)), .val (.ref (fsF (pickF p1 p2) w1 w2 w3)), .val (.int (0 : Int32)), .val (.ref w1)] [])) _
        refine XS.goto X5.here hx rfl (pc0 := 38) (pc' := 59) rfl (hb hby at_38) (by decide) (by decide) ?_
        show Steps p.tables e below (T5.setTop (mkF m 59 #[.val (.int p1), .val (.int p2), .val (.int (pickF p1 p2)), .val (.ref (fsF (pickF p1 p2) w1 w2 w3)), .val (.int (0 : Int32)), .val (.ref w1)] [])) _
        refine XS.aloadN X5.here hx rfl (hb hby at_59) rfl rfl ?_
        show Steps p.tables e below (T5.setTop (mkF m 60 #[.val (.int p1), .val (.int p2), .val (.int (pickF p1 p2)), .val (.ref (fsF (pickF p1 p2) w1 w2 w3)), .val (.int (0 : Int32)), .val (.ref w1)] [(.ref (fsF (pickF p1 p2) w1 w2 w3))])) _
        refine XS.aload X5.here hx rfl (hb hby at_60) rfl rfl ?_
        show Steps p.tables e below (T5.setTop (mkF m 62 #[.val (.int p1), .val (.int p2), .val (.int (pickF p1 p2)), .val (.ref (fsF (pickF p1 p2) w1 w2 w3)), .val (.int (0 : Int32)), .val (.ref w1)] [(.ref w1), (.ref (fsF (pickF p1 p2) w1 w2 w3))])) _
        refine Jvm.RoadKit.acmp (g := (mkF m 62 #[.val (.int p1), .val (.int p2), .val (.int (pickF p1 p2)), .val (.ref (fsF (pickF p1 p2) w1 w2 w3)), .val (.int (0 : Int32)), .val (.ref w1)] [(.ref w1), (.ref (fsF (pickF p1 p2) w1 w2 w3))])) X5 hx rfl rfl rfl (pc0 := 62) (pc' := 65) (same := true) rfl (hb hby at_62) rfl (decide_eq_true (congrArg Value.ref (own_fs1 hc30))) (by decide) (by decide) ?_
        show Steps p.tables e below (T5.setTop (mkF m 65 #[.val (.int p1), .val (.int p2), .val (.int (pickF p1 p2)), .val (.ref (fsF (pickF p1 p2) w1 w2 w3)), .val (.int (0 : Int32)), .val (.ref w1)] [])) _
        refine XS.iconst X5.here hx rfl (hb hby at_65) ?_
        show Steps p.tables e below (T5.setTop (mkF m 66 #[.val (.int p1), .val (.int p2), .val (.int (pickF p1 p2)), .val (.ref (fsF (pickF p1 p2) w1 w2 w3)), .val (.int (0 : Int32)), .val (.ref w1)] [(.int (1 : Int32))])) _
        refine XS.goto X5.here hx rfl (pc0 := 66) (pc' := 70) rfl (hb hby at_66) (by decide) (by decide) ?_
        show Steps p.tables e below (T5.setTop (mkF m 70 #[.val (.int p1), .val (.int p2), .val (.int (pickF p1 p2)), .val (.ref (fsF (pickF p1 p2) w1 w2 w3)), .val (.int (0 : Int32)), .val (.ref w1)] [(.int (1 : Int32))])) _
        exact retN X5 hx (t := .boolean) Bd.returns (by simp) (hb hby at_70) hr
      · show Q0 n0 _ T5.heap _
        rw [e5]
        exact ⟨rfl, N2⟩
    · obtain ⟨T6, X6, e6, st6⟩ := getS2 X2 hx hZ hown (host := "") (Or.inl (hw _ (List.mem_of_getElem? (i := 18) rfl))) Via.refl e2 (S_INTERNAL.ext O0.2) (g := (mkF m 54 #[.val (.int p1), .val (.int p2), .val (.int (pickF p1 p2)), .val (.ref (fsF (pickF p1 p2) w1 w2 w3)), .val (.int (0 : Int32)), .unset] [])) rfl (hb hby at_54)
      obtain ⟨fs, hr, hrun, hended, hW, hsame⟩ := X6.leave (v := some (.int (1 : Int32))) (fun h => by rw [Bd.returns] at h; cases h)
      refine ⟨_, _, pre0 _ ?_, hrun, hended, _, _, rfl, ?_, ⟨_, rfl⟩, hW, hsame.mono (by decide) (by decide)⟩
      · show Steps p.tables e below (s₁.setTop (mkF m 0 #[.val (.int p1), .val (.int p2), .unset, .unset, .unset, .unset] [])) _
        refine XS.iloadN X0.here hx rfl (hb hby at_0) rfl ?_
        show Steps p.tables e below (s₁.setTop (mkF m 1 #[.val (.int p1), .val (.int p2), .unset, .unset, .unset, .unset] [(.int p1)])) _
        refine XS.iloadN X0.here hx rfl (hb hby at_1) rfl ?_
        show Steps p.tables e below (s₁.setTop (mkF m 2 #[.val (.int p1), .val (.int p2), .unset, .unset, .unset, .unset] [(.int p2), (.int p1)])) _
        refine st1 _ ?_
        show Steps p.tables e below (T1.setTop (mkF m 5 #[.val (.int p1), .val (.int p2), .unset, .unset, .unset, .unset] [(.int (pickF p1 p2))])) _
        refine XS.istoreN X1.here hx rfl (hb hby at_5) rfl (l' := #[.val (.int p1), .val (.int p2), .val (.int (pickF p1 p2)), .unset, .unset, .unset]) rfl ?_
        show Steps p.tables e below (T1.setTop (mkF m 6 #[.val (.int p1), .val (.int p2), .val (.int (pickF p1 p2)), .unset, .unset, .unset] [])) _
        refine XS.iloadN X1.here hx rfl (hb hby at_6) rfl ?_
        show Steps p.tables e below (T1.setTop (mkF m 7 #[.val (.int p1), .val (.int p2), .val (.int (pickF p1 p2)), .unset, .unset, .unset] [(.int (pickF p1 p2))])) _
        refine st2 _ ?_
        show Steps p.tables e below (T2.setTop (mkF m 10 #[.val (.int p1), .val (.int p2), .val (.int (pickF p1 p2)), .unset, .unset, .unset] [(.ref (fsF (pickF p1 p2) w1 w2 w3))])) _
        refine XS.astoreN X2.here hx rfl (hb hby at_10) rfl rfl (l' := #[.val (.int p1), .val (.int p2), .val (.int (pickF p1 p2)), .val (.ref (fsF (pickF p1 p2) w1 w2 w3)), .unset, .unset]) rfl ?_
        show Steps p.tables e below (T2.setTop (mkF m 11 #[.val (.int p1), .val (.int p2), .val (.int (pickF p1 p2)), .val (.ref (fsF (pickF p1 p2) w1 w2 w3)), .unset, .unset] [])) _
        refine XS.iloadN X2.here hx rfl (hb hby at_11) rfl ?_
        show Steps p.tables e below (T2.setTop (mkF m 12 #[.val (.int p1), .val (.int p2), .val (.int (pickF p1 p2)), .val (.ref (fsF (pickF p1 p2) w1 w2 w3)), .unset, .unset] [(.int (pickF p1 p2))])) _
        refine XS.bipush X2.here hx rfl (hb hby at_12) ?_
        show Steps p.tables e below (T2.setTop (mkF m 14 #[.val (.int p1), .val (.int p2), .val (.int (pickF p1 p2)), .val (.ref (fsF (pickF p1 p2) w1 w2 w3)), .unset, .unset] [(.int (100 : Int32)), (.int (pickF p1 p2))])) _
        refine XS.idiv X2.here hx rfl (hb hby at_14) rfl (by decide) ?_
        show Steps p.tables e below (T2.setTop (mkF m 15 #[.val (.int p1), .val (.int p2), .val (.int (pickF p1 p2)), .val (.ref (fsF (pickF p1 p2) w1 w2 w3)), .unset, .unset] [(.int ((pickF p1 p2) / (100 : Int32)))])) _
        refine XS.iconst X2.here hx rfl (hb hby at_15) ?_
        show Steps p.tables e below (T2.setTop (mkF m 16 #[.val (.int p1), .val (.int p2), .val (.int (pickF p1 p2)), .val (.ref (fsF (pickF p1 p2) w1 w2 w3)), .unset, .unset] [(.int (4 : Int32)), (.int ((pickF p1 p2) / (100 : Int32)))])) _
        refine XS.icmpYes X2.here hx rfl (pc0 := 16) (pc' := 23) rfl (hb hby at_16) rfl (feq hc16).2 (by decide) (by decide) ?_
        show Steps p.tables e below (T2.setTop (mkF m 23 #[.val (.int p1), .val (.int p2), .val (.int (pickF p1 p2)), .val (.ref (fsF (pickF p1 p2) w1 w2 w3)), .unset, .unset] [])) _
        refine XS.iconst X2.here hx rfl (hb hby at_23) ?_
        show Steps p.tables e below (T2.setTop (mkF m 24 #[.val (.int p1), .val (.int p2), .val (.int (pickF p1 p2)), .val (.ref (fsF (pickF p1 p2) w1 w2 w3)), .unset, .unset] [(.int (0 : Int32))])) _
        refine XS.istore X2.here hx rfl (hb hby at_24) rfl (l' := #[.val (.int p1), .val (.int p2), .val (.int (pickF p1 p2)), .val (.ref (fsF (pickF p1 p2) w1 w2 w3)), .val (.int (0 : Int32)), .unset]) rfl ?_
        show Steps p.tables e below (T2.setTop (mkF m 26 #[.val (.int p1), .val (.int p2), .val (.int (pickF p1 p2)), .val (.ref (fsF (pickF p1 p2) w1 w2 w3)), .val (.int (0 : Int32)), .unset] [])) _
        refine XS.iloadN X2.here hx rfl (hb hby at_26) rfl ?_
        show Steps p.tables e below (T2.setTop (mkF m 27 #[.val (.int p1), .val (.int p2), .val (.int (pickF p1 p2)), .val (.ref (fsF (pickF p1 p2) w1 w2 w3)), .val (.int (0 : Int32)), .unset] [(.int (pickF p1 p2))])) _
        refine XS.sipush X2.here hx rfl (hb hby at_27) ?_
        show Steps p.tables e below (T2.setTop (mkF m 30 #[.val (.int p1), .val (.int p2), .val (.int (pickF p1 p2)), .val (.ref (fsF (pickF p1 p2) w1 w2 w3)), .val (.int (0 : Int32)), .unset] [(.int (404 : Int32)), (.int (pickF p1 p2))])) _
        refine XS.icmpYes X2.here hx rfl (pc0 := 30) (pc' := 41) rfl (hb hby at_30) rfl (feq hc30).2 (by decide) (by decide) ?_
        show Steps p.tables e below (T2.setTop (mkF m 41 #[.val (.int p1), .val (.int p2), .val (.int (pickF p1 p2)), .val (.ref (fsF (pickF p1 p2) w1 w2 w3)), .val (.int (0 : Int32)), .unset] [])) _
        refine XS.iload X2.here hx rfl (hb hby at_41) rfl ?_
        show Steps p.tables e below (T2.setTop (mkF m 43 #[.val (.int p1), .val (.int p2), .val (.int (pickF p1 p2)), .val (.ref (fsF (pickF p1 p2) w1 w2 w3)), .val (.int (0 : Int32)), .unset] [(.int (0 : Int32))])) _
        refine XS.ifYes X2.here hx rfl (pc0 := 43) (pc' := 54) rfl (hb hby at_43) rfl ((if0 _ _).trans (teq (by decide)).1) (by decide) (by decide) ?_
        show Steps p.tables e below (T2.setTop (mkF m 54 #[.val (.int p1), .val (.int p2), .val (.int (pickF p1 p2)), .val (.ref (fsF (pickF p1 p2) w1 w2 w3)), .val (.int (0 : Int32)), .unset] [])) _
        refine st6 _ ?_
        show Steps p.tables e below (T6.setTop (mkF m 57 #[.val (.int p1), .val (.int p2), .val (.int (pickF p1 p2)), .val (.ref (fsF (pickF p1 p2) w1 w2 w3)), .val (.int (0 : Int32)), .unset] [(.ref w3)])) _
        refine XS.astore X6.here hx rfl (hb hby at_57) rfl rfl (l' := #[.val (.int p1), .val (.int p2), .val (.int (pickF p1 p2)), .val (.ref (fsF (pickF p1 p2) w1 w2 w3)), .val (.int (0 : Int32)), .val (.ref w3)]) rfl ?_
        show Steps p.tables e below (T6.setTop (mkF m 59 #[.val (.int p1), .val (.int p2), .val (.int (pickF p1 p2)), .val (.ref (fsF (pickF p1 p2) w1 w2 w3)), .val (.int (0 : Int32)), .val (.ref w3)] [])) _
        refine XS.aloadN X6.here hx rfl (hb hby at_59) rfl rfl ?_
        show Steps p.tables e below (T6.setTop (mkF m 60 #[.val (.int p1), .val (.int p2), .val (.int (pickF p1 p2)), .val (.ref (fsF (pickF p1 p2) w1 w2 w3)), .val (.int (0 : Int32)), .val (.ref w3)] [(.ref (fsF (pickF p1 p2) w1 w2 w3))])) _
        refine XS.aload X6.here hx rfl (hb hby at_60) rfl rfl ?_
        show Steps p.tables e below (T6.setTop (mkF m 62 #[.val (.int p1), .val (.int p2), .val (.int (pickF p1 p2)), .val (.ref (fsF (pickF p1 p2) w1 w2 w3)), .val (.int (0 : Int32)), .val (.ref w3)] [(.ref w3), (.ref (fsF (pickF p1 p2) w1 w2 w3))])) _
        refine Jvm.RoadKit.acmp (g := (mkF m 62 #[.val (.int p1), .val (.int p2), .val (.int (pickF p1 p2)), .val (.ref (fsF (pickF p1 p2) w1 w2 w3)), .val (.int (0 : Int32)), .val (.ref w3)] [(.ref w3), (.ref (fsF (pickF p1 p2) w1 w2 w3))])) X6 hx rfl rfl rfl (pc0 := 62) (pc' := 65) (same := true) rfl (hb hby at_62) rfl (decide_eq_true (congrArg Value.ref (own_fs3 hc30 hc16))) (by decide) (by decide) ?_
        show Steps p.tables e below (T6.setTop (mkF m 65 #[.val (.int p1), .val (.int p2), .val (.int (pickF p1 p2)), .val (.ref (fsF (pickF p1 p2) w1 w2 w3)), .val (.int (0 : Int32)), .val (.ref w3)] [])) _
        refine XS.iconst X6.here hx rfl (hb hby at_65) ?_
        show Steps p.tables e below (T6.setTop (mkF m 66 #[.val (.int p1), .val (.int p2), .val (.int (pickF p1 p2)), .val (.ref (fsF (pickF p1 p2) w1 w2 w3)), .val (.int (0 : Int32)), .val (.ref w3)] [(.int (1 : Int32))])) _
        refine XS.goto X6.here hx rfl (pc0 := 66) (pc' := 70) rfl (hb hby at_66) (by decide) (by decide) ?_
        show Steps p.tables e below (T6.setTop (mkF m 70 #[.val (.int p1), .val (.int p2), .val (.int (pickF p1 p2)), .val (.ref (fsF (pickF p1 p2) w1 w2 w3)), .val (.int (0 : Int32)), .val (.ref w3)] [(.int (1 : Int32))])) _
        exact retN X6 hx (t := .boolean) Bd.returns (by simp) (hb hby at_70) hr
      · show Q0 n0 _ T6.heap _
        rw [e6]
        exact ⟨rfl, N2⟩
set_option maxRecDepth 65536 in
set_option maxHeartbeats 40000000 in
theorem comes_1 {Post : Tables → Env → Array Value → State → Outcome → State → Prop} (hpost : ∀ tb e args s v u, (limb_1_1.after args s (.returned v) u = true ∧ limb_1_2.after args s (.returned v) u = true ∧ True) → FrameEnd s (.returned v) u (Jvm.fieldLocs frame_1_writes args s ++ Jvm.arrayLocs frame_1_arrays args s ++ Jvm.staticLocs frame_1_statics s) 0 0 → Post tb e args s (.returned v) u) :
    ArmFor flags0 classFile x code maxLocals ret World_1 tables_1 room_1 Calls_1 rest_1 Pre_1 Post := by
  intro l hfl _ _ p e ha hc hk s m args below hf hA hF happ hP
  obtain ⟨hcalls, hrest, hpre⟩ := hP
  obtain ⟨-, -, -, hnamed, -, -, -, hat⟩ := (Spec.applies_iff hf).mp happ
  obtain ⟨hg, hn⟩ := and_e (Cond.before_iff.mp (show (Jvm.Cond.and given_1 narrow_1).before args s = true from hpre))
  obtain ⟨hcnt, hg⟩ := and_e hg
  obtain ⟨hg0, hg⟩ := and_e hg
  obtain ⟨w0, w1, rfl⟩ : ∃ w0 w1 : Value, args = #[w0, w1] := by
    have hs : args.size = 2 := by simpa [Cond.value, given_1] using hcnt
    obtain ⟨L⟩ := args
    match L, hs with
    | [w0, w1], _ => exact ⟨w0, w1, rfl⟩
  have hw := fun d (hd : d ∈ tables_1) => atoms_spec (ws := Jvm.Cond.code x code maxLocals ret :: tables_1) hat d (List.mem_cons_of_mem _ hd)
  have hfit : Fit s := fun {y c} hc i hi => by
    obtain ⟨ha, rfl⟩ := Array.getElem?_eq_some_iff.mp hc
    have q := List.all_eq_true.mp ((Array.all_eq_true_iff_forall_mem.mp hF) _ (Array.getElem_mem ha)) i (List.mem_range.mpr hi)
    simpa [Array.getElem?_eq_getElem hi] using q
  obtain ⟨i0, ei0⟩ := is_v hg0
  obtain rfl : w0 = (.int i0) := Option.some.inj ei0
  obtain ⟨i1, ei1⟩ := is_v hg
  obtain rfl : w1 = (.int i1) := Option.some.inj ei1
  obtain ⟨hx1, hn⟩ := and_e hn
  obtain ⟨hf1, hn⟩ := and_e hn
  obtain ⟨hx2, hn⟩ := and_e hn
  obtain ⟨hx3, -⟩ := and_e hn
  obtain ⟨w1', ev1⟩ := exa_v hx1
  have S1 := Sta.start ev1 (Or.inr ⟨(hw _ (List.mem_of_getElem? (i := 7) rfl)), (hw _ (List.mem_of_getElem? (i := 10) rfl))⟩)
  obtain ⟨w2', ev2⟩ := exa_v hx2
  have S2 := Sta.start ev2 (Or.inr ⟨(hw _ (List.mem_of_getElem? (i := 7) rfl)), (hw _ (List.mem_of_getElem? (i := 14) rfl))⟩)
  obtain ⟨w3', ev3⟩ := exa_v hx3
  have S3 := Sta.start ev3 (Or.inr ⟨(hw _ (List.mem_of_getElem? (i := 7) rfl)), (hw _ (List.mem_of_getElem? (i := 17) rfl))⟩)
  have F1 := Fld.start ((fld_at ev1).symm.trans (own_eqint hf1))
  obtain ⟨n, o, h1, h2, h3, _, L, rfl, ⟨rfl, N⟩, hq⟩ := rm0 l s _ hw tables_1 i0 i1 w1' w2' w3' s.heap s.heap.size (Old.start s) S1 S2 S3 F1 p e ha hc hk s m _ below hf ((Spec.applies_iff_loose hf).mp happ).1 ⟨rfl, State.Warmed39.refl s, rfl⟩ trivial
  refine ⟨n, _, h1, h2, h3, hpost _ _ _ _ _ _ ⟨Cond.after_iff.mpr rfl, Cond.after_iff.mpr (eq_i res_at (Term.int_eval (1)) rfl), trivial⟩ ⟨hq.1, hq.2.1, (hq.2.2.sift fun y hy => Or.inr (N y hy)).mono (by decide) (by decide)⟩⟩
theorem main_1_1 : Claimed_1_1 := comes_1 fun _ _ _ _ _ _ h hF => ⟨h.1, hF⟩
theorem main_1_2 : Claimed_1_2 := comes_1 fun _ _ _ _ _ _ h hF => ⟨h.2.1, hF⟩
end Jvm.Pilot.@@N@@
namespace Jvm.Pilot.@@N@@
open Jvm Jvm.ClassFile Sem Op Lib Jvm.Free Jvm.Stand Jvm.Pilot.@@N@@.Jvm.D
/-! MADE BY PROGRAM (witnessworld.py) out of the Statement's table words and the real class files: 10 classes; the members and pool entries that the words name. The judged class is class 1, her method 2. -/
namespace start1
open Jvm.ClassFile
def u (s : String) : CpInfo := .utf8 (stringToUtf16 s)
/-- a pool by its gaps: so many unusable entries, then the entry; so many at the end -/
def gap : Nat → List CpInfo → List CpInfo
  | 0, r => r
  | n + 1, r => .unusable :: gap n r
def poolList (es : List (Nat × CpInfo)) (last : Nat) : List CpInfo := es.foldr (fun e r => gap e.1 (e.2 :: r)) (gap last [])
def pool (es : List (Nat × CpInfo)) (last : Nat) : Array CpInfo := ⟨poolList es last⟩
def fileOf (pool : Array CpInfo) (this : Nat) (attrs : Array Attribute := #[]) (ms : Array MethodInfo := #[]) (fl : Nat := 33) (sup : Nat := 0) (ifs : Array Nat := #[]) (fds : Array FieldInfo := #[]) : ClassFile where
  minorVersion := 0
  majorVersion := 65
  constantPool := pool
  accessFlags := fl
  thisClass := this
  superClass := sup
  interfaces := ifs
  fields := fds
  methods := ms
  attributes := attrs
def plain (name : String) (sup : Option ClassId) : Class where
  name := name
  kind := .ordinary
  loader := none
  accessFlags := 33
  super := sup
  interfaces := #[]
  cf := none
  fields := #[]
  methods := #[]
  instanceTypes := #[]
  staticTypes := #[]
  resolved := #[]
  callSites := []
  init := .initialized
  statics := none
  mirror := none

def pool0 : Array CpInfo := pool [(5, u "<init>"), (0, u "()V"), (1, .class_ 10), (1, u "java/lang/Object")] 113

def k0m0 : Method := { name := "<init>", desc := "()V", sig := { parameters := [], returnType := none }, accessFlags := 1, code := none }
/-- java/lang/Object -/
def k0 : Class := { plain "java/lang/Object" none with
  accessFlags := 33
  interfaces := #[]
  cf := some (fileOf pool0 8 #[] #[{ accessFlags := 1, nameIndex := 5, descriptorIndex := 6, attributes := #[] }] 33 0 #[] #[])
  fields := #[]
  methods := #[k0m0]
  instanceTypes := #[]
  staticTypes := #[]
  resolved := Array.replicate 124 none
  statics := none }

def pool1 : Array CpInfo := pool [(2, .class_ 4), (1, u "java/lang/Object"), (0, u "<init>"), (0, u "()V"), (0, .integer 2147483647), (0, .methodref 9 10), (0, .class_ 11), (0, .nameAndType 12 13), (0, u "com/example/checkoutd/checkoutd/api/ErrorTypeForStatusPinLaw"), (0, u "pick"), (0, u "(II)I"), (0, .methodref 15 16), (0, .class_ 17), (0, .nameAndType 18 19), (0, u "com/example/checkoutd/checkoutd/api/ErrorType"), (0, u "forStatus"), (0, u "(I)Lcom/example/checkoutd/checkoutd/api/ErrorType;"), (0, .fieldref 15 21), (0, .nameAndType 22 23), (0, u "NOT_FOUND"), (0, u "Lcom/example/checkoutd/checkoutd/api/ErrorType;"), (0, .fieldref 15 25), (0, .nameAndType 26 23), (0, u "VALIDATION"), (0, .fieldref 15 28), (0, .nameAndType 29 23), (0, u "INTERNAL"), (3, u "law"), (0, u "(II)Z")] 2

def k1m0 : Method := { name := "<init>", desc := "()V", sig := { parameters := [], returnType := none }, accessFlags := 2, code := none }
def k1c1 : Code := { maxStack := 3, maxLocals := 3, code := method_2_code, exceptionTable := #[], attributes := #[] }
def k1m1 : Method := { name := "pick", desc := "(II)I", sig := { parameters := [.int, .int], returnType := some .int }, accessFlags := 10, code := some k1c1 }
def k1c2 : Code := { maxStack := 2, maxLocals := 6, code := code, exceptionTable := #[], attributes := #[] }
def k1m2 : Method := { name := "law", desc := "(II)Z", sig := { parameters := [.int, .int], returnType := some .boolean }, accessFlags := 9, code := some k1c2 }
/-- com/example/checkoutd/checkoutd/api/ErrorTypeForStatusPinLaw -/
def k1 : Class := { plain "com/example/checkoutd/checkoutd/api/ErrorTypeForStatusPinLaw" (some 0) with
  accessFlags := 49
  interfaces := #[]
  cf := some (fileOf pool1 9 #[] #[{ accessFlags := 2, nameIndex := 5, descriptorIndex := 6, attributes := #[] }, { accessFlags := 10, nameIndex := 12, descriptorIndex := 13, attributes := #[] }, { accessFlags := 9, nameIndex := 33, descriptorIndex := 34, attributes := #[] }] 49 2 #[] #[])
  fields := #[]
  methods := #[k1m0, k1m1, k1m2]
  instanceTypes := #[]
  staticTypes := #[]
  resolved := Array.replicate 37 none
  statics := none }

def pool2 : Array CpInfo := pool [(1, .class_ 2), (0, u "java/lang/constant/Constable"), (0, .class_ 4), (0, u "java/lang/Object")] 6

/-- java/lang/constant/Constable -/
def k2 : Class := { plain "java/lang/constant/Constable" (some 0) with
  accessFlags := 1537
  interfaces := #[]
  cf := some (fileOf pool2 1 #[] #[] 1537 3 #[] #[])
  fields := #[]
  methods := #[]
  instanceTypes := #[]
  staticTypes := #[]
  resolved := Array.replicate 11 none
  statics := none }

def pool3 : Array CpInfo := pool [(1, .class_ 2), (0, u "java/lang/Comparable"), (0, .class_ 4), (0, u "java/lang/Object")] 7

/-- java/lang/Comparable -/
def k3 : Class := { plain "java/lang/Comparable" (some 0) with
  accessFlags := 1537
  interfaces := #[]
  cf := some (fileOf pool3 1 #[] #[] 1537 3 #[] #[])
  fields := #[]
  methods := #[]
  instanceTypes := #[]
  staticTypes := #[]
  resolved := Array.replicate 12 none
  statics := none }

def pool4 : Array CpInfo := pool [(1, .class_ 2), (0, u "java/io/Serializable"), (0, .class_ 4), (0, u "java/lang/Object")] 2

/-- java/io/Serializable -/
def k4 : Class := { plain "java/io/Serializable" (some 0) with
  accessFlags := 1537
  interfaces := #[]
  cf := some (fileOf pool4 1 #[] #[] 1537 3 #[] #[])
  fields := #[]
  methods := #[]
  instanceTypes := #[]
  staticTypes := #[]
  resolved := Array.replicate 7 none
  statics := none }

def pool5 : Array CpInfo := pool [(2, .class_ 4), (1, u "java/lang/Enum"), (0, u "name"), (0, u "Ljava/lang/String;"), (2, u "ordinal"), (0, u "I"), (1, .class_ 14), (1, u "java/lang/Object"), (4, u "hash"), (86, .class_ 108), (1, u "java/lang/Enum$EnumDesc"), (2, .class_ 112), (0, u "java/lang/constant/Constable"), (0, .class_ 114), (0, u "java/lang/Comparable"), (0, .class_ 116), (0, u "java/io/Serializable")] 87

/-- java/lang/Enum -/
def k5 : Class := { plain "java/lang/Enum" (some 0) with
  accessFlags := 1057
  interfaces := #[2, 3, 4]
  cf := some (fileOf pool5 2 #[.nestMembers #[106]] #[] 1057 12 #[111, 113, 115] #[{ accessFlags := 18, nameIndex := 5, descriptorIndex := 6, attributes := #[] }, { accessFlags := 18, nameIndex := 9, descriptorIndex := 10, attributes := #[] }, { accessFlags := 2, nameIndex := 19, descriptorIndex := 10, attributes := #[] }])
  fields := #[{ name := "name", type := (.object "java/lang/String"), accessFlags := 18, slot := 0, constantValue := 0 }, { name := "ordinal", type := .int, accessFlags := 18, slot := 1, constantValue := 0 }, { name := "hash", type := .int, accessFlags := 2, slot := 2, constantValue := 0 }]
  methods := #[]
  instanceTypes := #[(.object "java/lang/String"), .int, .int]
  staticTypes := #[]
  resolved := Array.replicate 204 none
  statics := none }

def pool6 : Array CpInfo := pool [(1, .class_ 2), (0, u "com/example/checkoutd/checkoutd/api/ErrorType"), (0, .fieldref 1 4), (0, .nameAndType 5 6), (0, u "VALIDATION"), (0, u "Lcom/example/checkoutd/checkoutd/api/ErrorType;"), (2, u "AUTHENTICATION"), (0, .fieldref 1 11), (0, .nameAndType 12 6), (0, u "NOT_FOUND"), (2, u "CONFLICT"), (2, u "IDEMPOTENCY_IN_PROGRESS"), (2, u "IDEMPOTENCY_MISMATCH"), (2, u "RATE_LIMIT"), (0, .fieldref 1 26), (0, .nameAndType 27 6), (0, u "INTERNAL"), (2, u "$VALUES"), (0, u "[Lcom/example/checkoutd/checkoutd/api/ErrorType;"), (6, .class_ 40), (1, u "java/lang/Enum"), (8, u "wireName"), (0, u "Ljava/lang/String;"), (0, .fieldref 1 52), (0, .nameAndType 53 54), (0, u "status"), (0, u "I"), (37, u "forStatus"), (0, u "(I)Lcom/example/checkoutd/checkoutd/api/ErrorType;")] 6

def k6c0 : Code := { maxStack := 2, maxLocals := 2, code := prog_7_method_6_code, exceptionTable := #[], attributes := #[] }
def k6m0 : Method := { name := "forStatus", desc := "(I)Lcom/example/checkoutd/checkoutd/api/ErrorType;", sig := { parameters := [.int], returnType := some (.object "com/example/checkoutd/checkoutd/api/ErrorType") }, accessFlags := 9, code := some k6c0 }
/-- com/example/checkoutd/checkoutd/api/ErrorType -/
def k6 : Class := { plain "com/example/checkoutd/checkoutd/api/ErrorType" (some 5) with
  accessFlags := 16433
  interfaces := #[]
  cf := some (fileOf pool6 1 #[] #[{ accessFlags := 9, nameIndex := 92, descriptorIndex := 93, attributes := #[] }] 16433 38 #[] #[{ accessFlags := 16409, nameIndex := 5, descriptorIndex := 6, attributes := #[] }, { accessFlags := 16409, nameIndex := 9, descriptorIndex := 6, attributes := #[] }, { accessFlags := 16409, nameIndex := 12, descriptorIndex := 6, attributes := #[] }, { accessFlags := 16409, nameIndex := 15, descriptorIndex := 6, attributes := #[] }, { accessFlags := 16409, nameIndex := 18, descriptorIndex := 6, attributes := #[] }, { accessFlags := 16409, nameIndex := 21, descriptorIndex := 6, attributes := #[] }, { accessFlags := 16409, nameIndex := 24, descriptorIndex := 6, attributes := #[] }, { accessFlags := 16409, nameIndex := 27, descriptorIndex := 6, attributes := #[] }, { accessFlags := 18, nameIndex := 49, descriptorIndex := 50, attributes := #[] }, { accessFlags := 18, nameIndex := 53, descriptorIndex := 54, attributes := #[] }, { accessFlags := 4122, nameIndex := 30, descriptorIndex := 31, attributes := #[] }])
  fields := #[{ name := "VALIDATION", type := (.object "com/example/checkoutd/checkoutd/api/ErrorType"), accessFlags := 16409, slot := 0, constantValue := 0 }, { name := "AUTHENTICATION", type := (.object "com/example/checkoutd/checkoutd/api/ErrorType"), accessFlags := 16409, slot := 1, constantValue := 0 }, { name := "NOT_FOUND", type := (.object "com/example/checkoutd/checkoutd/api/ErrorType"), accessFlags := 16409, slot := 2, constantValue := 0 }, { name := "CONFLICT", type := (.object "com/example/checkoutd/checkoutd/api/ErrorType"), accessFlags := 16409, slot := 3, constantValue := 0 }, { name := "IDEMPOTENCY_IN_PROGRESS", type := (.object "com/example/checkoutd/checkoutd/api/ErrorType"), accessFlags := 16409, slot := 4, constantValue := 0 }, { name := "IDEMPOTENCY_MISMATCH", type := (.object "com/example/checkoutd/checkoutd/api/ErrorType"), accessFlags := 16409, slot := 5, constantValue := 0 }, { name := "RATE_LIMIT", type := (.object "com/example/checkoutd/checkoutd/api/ErrorType"), accessFlags := 16409, slot := 6, constantValue := 0 }, { name := "INTERNAL", type := (.object "com/example/checkoutd/checkoutd/api/ErrorType"), accessFlags := 16409, slot := 7, constantValue := 0 }, { name := "wireName", type := (.object "java/lang/String"), accessFlags := 18, slot := 3, constantValue := 0 }, { name := "status", type := .int, accessFlags := 18, slot := 4, constantValue := 0 }, { name := "$VALUES", type := (.array (.object "com/example/checkoutd/checkoutd/api/ErrorType")), accessFlags := 4122, slot := 8, constantValue := 0 }]
  methods := #[k6m0]
  instanceTypes := #[(.object "java/lang/String"), .int, .int, (.object "java/lang/String"), .int]
  staticTypes := #[(.object "com/example/checkoutd/checkoutd/api/ErrorType"), (.object "com/example/checkoutd/checkoutd/api/ErrorType"), (.object "com/example/checkoutd/checkoutd/api/ErrorType"), (.object "com/example/checkoutd/checkoutd/api/ErrorType"), (.object "com/example/checkoutd/checkoutd/api/ErrorType"), (.object "com/example/checkoutd/checkoutd/api/ErrorType"), (.object "com/example/checkoutd/checkoutd/api/ErrorType"), (.object "com/example/checkoutd/checkoutd/api/ErrorType"), (.array (.object "com/example/checkoutd/checkoutd/api/ErrorType"))]
  resolved := Array.replicate 100 none
  statics := some 0 }

def pool7 : Array CpInfo := pool [(1, u "java/lang/Cloneable"), (0, .class_ 1), (0, u "java/lang/Object"), (0, .class_ 3)] 3

/-- java/lang/Cloneable -/
def k7 : Class := { plain "java/lang/Cloneable" (some 0) with
  accessFlags := 1537
  interfaces := #[]
  cf := some (fileOf pool7 2 #[] #[] 1537 4 #[] #[])
  fields := #[]
  methods := #[]
  instanceTypes := #[]
  staticTypes := #[]
  resolved := Array.replicate 8 none
  statics := none }

/-- the primitive byte -/
def k8 : Class := { plain "byte" none with kind := .primitive 'B', accessFlags := 0x411 }
/-- [B -/
def k9 : Class := { plain "[B" (some 0) with kind := .array 8 .byte, interfaces := #[7, 4], accessFlags := 1041 }

def heap : Heap := #[{ cls := 6, slots := #[.ref 2, .null, .ref 1, .null, .null, .null, .null, .ref 3, .null], vm := .statics 6 },
  { cls := 6, slots := #[.null, .int 2, .int 0, .null, .int 404], vm := .none },
  { cls := 6, slots := #[.null, .int 0, .int 0, .null, .int 400], vm := .none },
  { cls := 6, slots := #[.null, .int 7, .int 0, .null, .int 500], vm := .none }]
def classes : Array Class := #[k0, k1, k2, k3, k4, k5, k6, k7, k8, k9]
def interned : List (Array UInt16 × Addr) := []
def slotsUsed : Nat := 24
def theMethod : MethodId := ⟨1, 2⟩
def args0 : Array Value := #[.int 5, .int 0]
def aboutOver (below : List Frame) : State where
  vm := { classes := classes, interned := interned.toArray }
  heap := heap
  slotsUsed := slotsUsed
  threads := #[{ frames := .invoking theMethod args0 :: below }]
def below0 : List Frame := [.native { method := ⟨0, 0⟩, args := #[] }]
def about1 : State := aboutOver below0
def p0 : Program := .bare "" "" ""
def e0 : Env := launch0.env 0 0 0
theorem w_frames : about1.frames = Frame.invoking theMethod args0 :: below0 := rfl
set_option maxRecDepth 65536 in
theorem w_args : argsFit about1.vm theMethod args0 = true := by decide +kernel
set_option maxRecDepth 65536 in
theorem w_heap : heapFits about1 = true := by decide +kernel
set_option maxRecDepth 65536 in
theorem w_runnable : about1.curStatus? = some .runnable := by decide +kernel
set_option maxRecDepth 65536 in
theorem w_alone : about1.alone = true := by decide +kernel
set_option maxRecDepth 65536 in
theorem w_named : about1.methodNamed? x = some theMethod := by decide +kernel
set_option maxRecDepth 65536 in
theorem w_hears : about1.hears theMethod below0 = true := by decide +kernel
set_option maxRecDepth 65536 in
theorem w_ripe : about1.ripe theMethod args0 below0 = true := by decide +kernel
theorem w_running : about1.status = .running := rfl
set_option maxRecDepth 65536 in
theorem w_room : about1.hasRoom e0.platform room_1 = true :=
  launch0.hasRoom_least _ room_1 (by decide +kernel) (by decide +kernel) (by decide +kernel) (by decide +kernel) (by decide +kernel) (by decide +kernel)
theorem allAtoms_all (ts : List Jvm.Cond) (a : Array Jvm.Value) (st : Jvm.State) : (allAtoms ts).before a st = ts.all (fun c => c.before a st) := by
  induction ts with
  | nil => rfl
  | cons c t ih =>
    show (Jvm.Cond.and c (allAtoms t)).before a st = _
    rw [Jvm.Cond.before_and, ih, List.all_cons]
def words1 : List Jvm.Cond := Jvm.Cond.code x code maxLocals ret :: tables_1
/-- a 'code' word, met by the world's own term for the bytes: nothing is compared byte by byte -/
theorem code_word {y : MethodName} {bytes : ByteArray} {mx : Nat} {rt : Option FieldType} {a : Array Value} {s : State} {m : MethodId} {meth : Method} {c : Code} (h1 : s.methodNamed? y = some m) (h2 : s.vm.method? m = some meth) (h3 : meth.code = some c) (h4 : c.code = bytes)
    (h5 : (c.maxLocals == mx && c.exceptionTable.isEmpty && decide (c.maxStack ≤ mostOperands) && decide (meth.sig.returnType = rt) && !meth.locks && decide (parseMethodDescriptor y.desc = some meth.sig)) = true) : (Jvm.Cond.code y bytes mx rt).before a s = true := by
  simp only [Bool.and_eq_true, beq_iff_eq, Bool.not_eq_true', decide_eq_true_eq] at h5
  obtain ⟨⟨⟨⟨⟨g1, g2⟩, g3⟩, g4⟩, g5⟩, g6⟩ := h5
  simp [Cond.before, Cond.holds, Cond.value, h1, h2, h3, h4, g1, g2, g3, g4, g5, g6]
def isCode : Jvm.Cond → Bool
  | .code _ _ _ _ => true
  | _ => false
theorem all_split {L : List Jvm.Cond} {P : Jvm.Cond → Bool} (h1 : L.all (fun c => isCode c || P c) = true) (h2 : ∀ c ∈ L.filter isCode, P c = true) : L.all P = true := by
  refine List.all_eq_true.mpr fun c hc => ?_
  have h := List.all_eq_true.mp h1 c hc
  rcases Bool.eq_false_or_eq_true (isCode c) with hi | hi
  · exact h2 c (List.mem_filter.mpr ⟨hc, hi⟩)
  · simpa [hi] using h
set_option maxRecDepth 65536 in
theorem w_c0 : (Jvm.Cond.code x code maxLocals ret).before args0 about1 = true := code_word (m := ⟨1, 2⟩) (meth := k1m2) (c := k1c2) (by decide +kernel) rfl rfl rfl (by decide +kernel)
set_option maxRecDepth 65536 in
theorem w_c1 : (Jvm.Cond.code ({ cls := "com/example/checkoutd/checkoutd/api/ErrorTypeForStatusPinLaw", name := "pick", desc := "(II)I" } : Jvm.MethodName) method_2_code (3 : Nat) (Option.some Jvm.ClassFile.FieldType.int)).before args0 about1 = true := code_word (m := ⟨1, 1⟩) (meth := k1m1) (c := k1c1) (by decide +kernel) rfl rfl rfl (by decide +kernel)
set_option maxRecDepth 65536 in
theorem w_c2 : (Jvm.Cond.code ({ cls := "com/example/checkoutd/checkoutd/api/ErrorType", name := "forStatus", desc := "(I)Lcom/example/checkoutd/checkoutd/api/ErrorType;" } : Jvm.MethodName) prog_7_method_6_code (2 : Nat) (Option.some (Jvm.ClassFile.FieldType.object "com/example/checkoutd/checkoutd/api/ErrorType"))).before args0 about1 = true := code_word (m := ⟨6, 0⟩) (meth := k6m0) (c := k6c0) (by decide +kernel) rfl rfl rfl (by decide +kernel)
def codes1 : List Jvm.Cond := [Jvm.Cond.code x code maxLocals ret, Jvm.Cond.code ({ cls := "com/example/checkoutd/checkoutd/api/ErrorTypeForStatusPinLaw", name := "pick", desc := "(II)I" } : Jvm.MethodName) method_2_code (3 : Nat) (Option.some Jvm.ClassFile.FieldType.int), Jvm.Cond.code ({ cls := "com/example/checkoutd/checkoutd/api/ErrorType", name := "forStatus", desc := "(I)Lcom/example/checkoutd/checkoutd/api/ErrorType;" } : Jvm.MethodName) prog_7_method_6_code (2 : Nat) (Option.some (Jvm.ClassFile.FieldType.object "com/example/checkoutd/checkoutd/api/ErrorType"))]
set_option maxRecDepth 65536 in
theorem codes_eq : words1.filter isCode = codes1 := rfl
theorem w_codes : ∀ c ∈ words1.filter isCode, c.before args0 about1 = true := by
  rw [codes_eq]
  intro c hc
  simp only [codes1, List.mem_cons, List.not_mem_nil, or_false] at hc
  rcases hc with rfl | rfl | rfl
  · exact w_c0
  · exact w_c1
  · exact w_c2
set_option maxRecDepth 65536 in
theorem w_t1 : words1.all (fun c => isCode c || c.before args0 about1) = true := by decide +kernel
theorem w_tables : (allAtoms (Jvm.Cond.code x code maxLocals ret :: tables_1)).before args0 about1 = true := by
  rw [allAtoms_all]
  show words1.all (fun c => c.before args0 about1) = true
  refine all_split ?_ w_codes
  rw [w_t1]
set_option maxRecDepth 65536 in
theorem w_case : (Jvm.Cond.and given_1 narrow_1).before args0 about1 = true := by decide +kernel
theorem w_applies : (headSpec (Jvm.Cond.code x code maxLocals ret :: tables_1) room_1).applies x e0.platform about1 = true :=
  (Spec.applies_iff w_frames).mpr ⟨w_running, w_runnable, w_alone, w_named, w_hears, w_ripe, w_room, w_tables⟩
theorem atStart : AtStart classFile x code maxLocals ret World_1 tables_1 room_1 Calls_1 rest_1 Pre_1 launch0 p0 e0 about1 theMethod args0 below0 :=
  ⟨lists_1, trivial, launch0.admits_env _ _ _, launch0.least_env, fairChoices_fair.cas, fairChoices_fair.clock, w_frames, w_args, w_heap, w_applies, trivial, trivial, w_case⟩
end start1
theorem witness_1 : WitnessClaimed_1 := ⟨start1.p0, start1.e0, start1.about1, start1.theMethod, start1.args0, start1.below0, start1.atStart⟩
end Jvm.Pilot.@@N@@
