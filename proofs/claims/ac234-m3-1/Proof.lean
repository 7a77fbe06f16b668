import JvmDerived
import JvmDerived.Pilot.@@N@@Statement
import JvmDerived.Pilot.@@N@@Code
set_option linter.unusedVariables false
set_option linter.unusedSimpArgs false
namespace Jvm.RoadKit
open Sem ClassFile Op Lib Jvm.Stand Jvm.Free Jvm.LawKit
section New
variable {p : Program} {l : Launch} {e : Env} {R : Room} {s : State} {m : MethodId} {args : Array Value} {below : List Frame} {meth : Method} {c : Code} {T : State} {locs : List Loc} {cells slots : Nat}
theorem retI (X : Stand p l e R s m args below meth c T locs cells slots) (hx : p.tables.exec = Jvm.exec) {pc : Nat} {Ls : Array Slot} {z : Int32} {rest : List Value} (hret : meth.sig.returnType = some .int) (hd : decode c.code pc = .ok (.ireturn, 1)) {fs : List Frame}
    (hl : ∀ (f : JFrame) (acts : List Action), f.method = m → f.locked = none → f.entered = [] → (doReturn e (T.setTop f) acts (some (.int z))).1 = T.setFrames fs) : Steps p.tables e below (T.setTop (mkF m pc Ls (.int z :: rest))) (T.setFrames fs) := by
  have hm' : T.vm.method? m = some meth := X.method'
  have hn : narrow .int (.int z) = .int z := rfl
  show Steps p.tables e below (T.setTop { method := m, pc := pc, locals := Ls, stack := _ :: rest, locked := none }) _
  jvm_step X.here [X.here.top, hx, hd, hm', hret, hn]
  first | (intro acts; rw [hl _ acts rfl rfl rfl]) | rw [hl _ _ rfl rfl rfl]
  exact Steps.refl _
end New
end Jvm.RoadKit
namespace Jvm.Pilot.@@N@@
open Jvm Jvm.ClassFile Sem Op Lib Jvm.Free Jvm.Stand Jvm.LawKit Jvm.RoadKit Bundle Jvm.Pilot.@@N@@.Jvm.D

theorem own_sz {Z : State} {n0 : Nat} {h : Heap} (O : Old Z n0 h) : n0 ≤ h.size := O.1 ▸ O.2.1
theorem own_n : ∀ {n : Nat}, n ≤ 8 → (Int32.ofNat n).toNatClampNeg = n := by
  intro n h
  have q : ∀ m : Fin 9, (Int32.ofNat m.1).toNatClampNeg = m.1 := by decide
  exact q ⟨n, by omega⟩
theorem own_nn : ∀ {n : Nat}, n ≤ 8 → ¬ Int32.ofNat n < 0 := by
  intro n h
  have q : ∀ m : Fin 9, ¬ Int32.ofNat m.1 < 0 := by decide
  exact q ⟨n, by omega⟩
theorem own_eq : ∀ {n m : Nat}, n ≤ 8 → m ≤ 8 → (Int32.ofNat n = Int32.ofNat m ↔ n = m) := by
  intro n m h g
  have q : ∀ a b : Fin 9, (Int32.ofNat a.1 = Int32.ofNat b.1 ↔ a.1 = b.1) := by decide
  exact q ⟨n, by omega⟩ ⟨m, by omega⟩
theorem own_lt : ∀ {n m : Nat}, n ≤ 8 → m ≤ 8 → (Int32.ofNat n < Int32.ofNat m ↔ n < m) := by
  intro n m h g
  have q : ∀ a b : Fin 9, (Int32.ofNat a.1 < Int32.ofNat b.1 ↔ a.1 < b.1) := by decide
  exact q ⟨n, by omega⟩ ⟨m, by omega⟩
theorem own_sub1 : ∀ {n : Nat}, 1 ≤ n → n ≤ 8 → Int32.ofNat n - (1 : Int32) = Int32.ofNat (n - 1) := by
  intro n g h
  have q : ∀ m : Fin 9, 1 ≤ m.1 → Int32.ofNat m.1 - (1 : Int32) = Int32.ofNat (m.1 - 1) := by decide
  exact q ⟨n, by omega⟩ g
theorem own_add1 (n : Nat) : Int32.ofNat n + (1 : Int32) = Int32.ofNat (n + 1) := (Int32.ofNat_add n 1).symm
theorem own_mul2 : ∀ {n : Nat}, n ≤ 4 → (2 : Int32) * Int32.ofNat n = Int32.ofNat (2 * n) := by
  intro n h
  have q : ∀ m : Fin 5, (2 : Int32) * Int32.ofNat m.1 = Int32.ofNat (2 * m.1) := by decide
  exact q ⟨n, by omega⟩
theorem own_subn : ∀ {n m : Nat}, m ≤ n → n ≤ 8 → Int32.ofNat n - Int32.ofNat m = Int32.ofNat (n - m) := by
  intro n m g h
  have q : ∀ a b : Fin 9, b.1 ≤ a.1 → Int32.ofNat a.1 - Int32.ofNat b.1 = Int32.ofNat (a.1 - b.1) := by decide
  exact q ⟨n, by omega⟩ ⟨m, by omega⟩ g
theorem own_inb {cl : Cell} {N j : Int32} {i : Nat} {vs : List Int32} (S : cl.slots.size = N.toNatClampNeg) (hN : N.toNatClampNeg = vs.length) (h0 : ¬ j < 0) (hj : j.toNatClampNeg = i) (hi : i < vs.length) : ¬ (j < 0 ∨ cl.slots.size ≤ j.toNatClampNeg) := by
  rintro (q | q)
  · exact h0 q
  · omega
theorem own_at {Z : State} {h : Heap} {a : Addr} {k : ClassId} {N j : Int32} {i : Nat} {vs : List Int32} (F : Arv Z h a k .int N (vs.map Value.int) (.int 0)) (hN : N.toNatClampNeg = vs.length) (h0 : ¬ j < 0) (hj : j.toNatClampNeg = i) (hi : i < vs.length) :
    ∃ cl, Arr Z h a cl .int ∧ ¬ (j < 0 ∨ cl.slots.size ≤ j.toNatClampNeg) ∧ cl.slots[j.toNatClampNeg]? = some (.int (vs.getD i 0)) := by
  obtain ⟨cl, A, -, S, -, H, -⟩ := F
  have hb := own_inb S hN h0 hj hi
  refine ⟨cl, A, hb, Has.at H hb ?_⟩
  rw [hj]
  simp [List.getD_eq_getElem?_getD, hi]
theorem own_selP {Z s : State} {a0 args : Array Value} {y : MethodName} {n : Nat} (hZ : Z.Warmed39 s.vm) (wi : (Jvm.Cond.instantiable y.cls n).before a0 Z = true) (wp : (Jvm.Cond.privateMethod y).before a0 Z = true) (wm : (Jvm.Cond.instanceMethod y).before a0 Z = true)
    (hy : y.cls ≠ "java/lang/invoke/MethodHandle" ∧ y.cls ≠ "java/lang/invoke/VarHandle" := by decide) : (Jvm.Cond.selects y.cls y y).before args s = true := by
  have w1 : (Jvm.Cond.instantiable y.cls n).before args s = true := mvT hZ wi
  obtain ⟨c, k, h1, h2, h3, h4, -⟩ := Cond.instantiable_spec w1
  have hni : k.isInterface = false := by
    cases hq : k.isInterface with
    | false => rfl
    | true => simp_all
  exact selects_self_of_private h1 h2 hni (Cond.privateMethod_at (mvP hZ wp (args := args))) (mvT hZ wm) hy
def bsF (o : Nat) (vs : List Int32) (k : Int32) : Int32 := match o with
  | 1 => if vs.getD 0 0 < k then -2 else if k < vs.getD 0 0 then -1 else 0
  | 2 => if vs.getD 0 0 < k then (if vs.getD 1 0 < k then -3 else if k < vs.getD 1 0 then -2 else 1) else if k < vs.getD 0 0 then -1 else 0
  | _ => if vs.getD 1 0 < k then (if vs.getD 2 0 < k then -4 else if k < vs.getD 2 0 then -3 else 2) else if k < vs.getD 1 0 then (if vs.getD 0 0 < k then -2 else if k < vs.getD 0 0 then -1 else 0) else 1
def growF (vs : List Int32) (c : Nat) : List Int32 := if vs.length = c then vs ++ List.replicate c 0 else vs
def extF (vs : List Int32) (c o : Nat) (p : Int32) : List Int32 × Nat × Nat :=
  if o = c ∧ vs.getD (c - 1) 0 < p then ((growF vs c).set c p, c + 1, c + 1) else if bsF o vs p < 0 then ((growF vs c).set c p, c + 1, o) else (vs, c, o)
theorem own_us {vs : List Int32} {sp nn : Int32} {a n : Nat} (h1 : sp.toNatClampNeg = a) (h2 : nn.toNatClampNeg = n) (h : a + n ≤ vs.length) : ((vs.drop a).take n).map Value.int = (List.range nn.toNatClampNeg).map fun i => (vs.map Value.int).getD (sp.toNatClampNeg + i) (.int 0) := by
  rw [h1, h2]
  apply List.ext_getElem
  · simp; omega
  · intro i q1 q2
    have : i < n := by simpa using q2
    simp [List.getD_eq_getElem?_getD, show a + i < vs.length by omega]
theorem own_atR {Z : State} {h : Heap} {a : Addr} {k : ClassId} {ty : FieldType} {j : Int32} {q : Nat} {ss : List Addr} (F : Arv Z h a k ty (4 : Int32) (ss.map Value.ref) .null) (hs : ss.length = 4) (hj : j = Int32.ofNat q) (hq : q < 4) :
    ∃ cl, Arr Z h a cl ty ∧ ¬ (j < 0 ∨ cl.slots.size ≤ j.toNatClampNeg) ∧ cl.slots[j.toNatClampNeg]? = some (.ref (ss.getD q 0)) := by
  obtain ⟨cl, A, -, S, -, H, -⟩ := F
  subst hj
  have e4 : (4 : Int32).toNatClampNeg = 4 := by decide
  have hb : ¬ (Int32.ofNat q < 0 ∨ cl.slots.size ≤ (Int32.ofNat q).toNatClampNeg) := by
    rintro (z | z)
    · exact own_nn (by omega) z
    · rw [S, e4, own_n (by omega)] at z; omega
  refine ⟨cl, A, hb, Has.at H hb ?_⟩
  rw [own_n (by omega)]
  simp [List.getD_eq_getElem?_getD, hs, hq]
theorem own_anti {x y : Int32} (h : ¬ y < x) (g : ¬ x < y) : x = y := by
  rw [Int32.lt_iff_toInt_lt] at *
  exact Int32.toInt_inj.mp (by omega)
def nth3 (m r : Int32) : Int32 := if m &&& 4 = 0 then 3 else if r = 0 then 2 else 3
def nth2 (m r : Int32) : Int32 := if m &&& 2 = 0 then nth3 m r else if r = 0 then 1 else nth3 m (r - 1)
def nthF (m i : Int32) : Int32 := if m &&& 1 = 0 then nth2 m i else if i = 0 then 0 else nth2 m (i - 1)
def srtF : List Int32 → List Int32
  | [x, y] => if y < x then [y, x] else [x, y]
  | [x, y, z] => if y < x then (if z < x then (if z < y then [z, y, x] else [y, z, x]) else [y, x, z]) else (if z < y then (if z < x then [z, x, y] else [x, z, y]) else [x, y, z])
  | l => l
def chF (vs ys : List Int32) (n i j : Nat) : Nat × Nat × Int32 := if j = ys.length ∨ (i < n ∧ ¬ ys.getD j 0 < vs.getD i 0) then (i + 1, j, vs.getD i 0) else (i, j + 1, ys.getD j 0)
def mgF (ms : List Int32) (k : Nat) (x : Int32) : List Int32 × Nat := if k = 0 ∨ ¬ ms.getD (k - 1) 0 = x then (ms.set k x, k + 1) else (ms, k)
def mrF (vs ys : List Int32) (n : Nat) : Nat → Nat → Nat → Nat → List Int32 → List Int32 × Nat
  | 0, _, _, k, ms => (ms, k)
  | f + 1, i, j, k, ms => if i < n ∨ j < ys.length then mrF vs ys n f (chF vs ys n i j).1 (chF vs ys n i j).2.1 (mgF ms k (chF vs ys n i j).2.2).2 (mgF ms k (chF vs ys n i j).2.2).1 else (ms, k)
theorem own_mglen (ms : List Int32) (k : Nat) (x : Int32) : (mgF ms k x).1.length = ms.length := by unfold mgF; split <;> simp
theorem own_mrlen (vs ys : List Int32) (n : Nat) : ∀ (f i j k : Nat) (ms : List Int32), (mrF vs ys n f i j k ms).1.length = ms.length
  | 0, _, _, _, _ => rfl
  | f + 1, i, j, k, ms => by
    unfold mrF
    split
    · rw [own_mrlen, own_mglen]
    · rfl
theorem own_srtlen : ∀ L : List Int32, (srtF L).length = L.length := by
  intro L
  unfold srtF
  split <;> (repeat' split) <;> rfl
theorem own_ch (vs ys : List Int32) {n i j f : Nat} (hi : i ≤ n) (hj : j ≤ ys.length) (h : i < n ∨ j < ys.length) (hf : (n - i) + (ys.length - j) = f + 1) : (chF vs ys n i j).1 ≤ n ∧ (chF vs ys n i j).2.1 ≤ ys.length ∧ (n - (chF vs ys n i j).1) + (ys.length - (chF vs ys n i j).2.1) = f ∧ (chF vs ys n i j).1 + (chF vs ys n i j).2.1 = i + j + 1 := by
  unfold chF
  split
  · rename_i q
    have : i < n := by rcases q with q | q <;> omega
    exact ⟨by show i + 1 ≤ n; omega, hj, by show (n - (i + 1)) + (ys.length - j) = f; omega, by show i + 1 + j = i + j + 1; omega⟩
  · rename_i q
    have : j < ys.length := by
      rcases Nat.lt_or_ge j ys.length with z | z
      · exact z
      · exact absurd (Or.inl (by omega)) q
    exact ⟨hi, by show j + 1 ≤ _; omega, by show (n - i) + (ys.length - (j + 1)) = f; omega, by show i + (j + 1) = i + j + 1; omega⟩
theorem own_mgk (ms : List Int32) (k : Nat) (x : Int32) : (mgF ms k x).2 ≤ k + 1 := by unfold mgF; split <;> simp
def ordF (vs : List Int32) (c o : Nat) : List Int32 × Nat × Nat :=
  if o = c then (vs, c, o) else ((mrF vs (srtF ((vs.drop o).take (c - o))) o (o + (srtF ((vs.drop o).take (c - o))).length) 0 0 0 (List.replicate c 0)).1, (mrF vs (srtF ((vs.drop o).take (c - o))) o (o + (srtF ((vs.drop o).take (c - o))).length) 0 0 0 (List.replicate c 0)).2, (mrF vs (srtF ((vs.drop o).take (c - o))) o (o + (srtF ((vs.drop o).take (c - o))).length) 0 0 0 (List.replicate c 0)).2)
theorem own_fin4 (x : Int32) : ∃ q : Fin 4, x &&& (3 : Int32) = Int32.ofNat q.1 := by
  have h := c_mask x 3 2 (by decide) (by decide)
  have r : 0 ≤ x.toInt % (2 ^ 2 : Nat) ∧ x.toInt % (2 ^ 2 : Nat) < 4 := by omega
  refine ⟨⟨(x.toInt % (2 ^ 2 : Nat)).toNat, by omega⟩, ?_⟩
  rw [← Int32.toInt_inj, h, Int32.toInt_ofNat_of_lt (by show (x.toInt % (2 ^ 2 : Nat)).toNat < 2147483648; omega)]
  show _ = (((x.toInt % (2 ^ 2 : Nat)).toNat : Nat) : Int)
  omega
theorem own_c255 (x : Int32) : ¬ (255 : Int32) < (x &&& (255 : Int32)).toUInt32.toUInt16.toUInt32.toInt32 := by
  rw [i2c_mask, Int32.lt_iff_toInt_lt]
  have := c_and x 255 (by decide)
  omega
def S1F (a b : Int32) : List Int32 × Nat × Nat := extF [a] 1 1 b
def S2F (a b c : Int32) : List Int32 × Nat × Nat := extF (S1F a b).1 (S1F a b).2.1 (S1F a b).2.2 c
def S3F (a b c d : Int32) : List Int32 × Nat × Nat := extF (S2F a b c).1 (S2F a b c).2.1 (S2F a b c).2.2 d
def RF (a b c d : Int32) : List Int32 × Nat × Nat := ordF (S3F a b c d).1 (S3F a b c d).2.1 (S3F a b c d).2.2
def maskF (a b c d : Int32) : Int32 := ((((1 : Int32) <<< (a &&& 31)) ||| ((1 : Int32) <<< (b &&& 31))) ||| ((1 : Int32) <<< (c &&& 31))) ||| ((1 : Int32) <<< (d &&& 31))
def cntF (m : Int32) : Int32 := (((m &&& (1 : Int32)) + ((m >>> ((1 : Int32) &&& 31)) &&& (1 : Int32))) + ((m >>> ((2 : Int32) &&& 31)) &&& (1 : Int32))) + ((m >>> ((3 : Int32) &&& 31)) &&& (1 : Int32))
def okS (S : List Int32 × Nat × Nat) (n : Nat) : Bool := decide (1 ≤ S.2.2) && decide (S.2.2 ≤ S.2.1) && decide (S.2.1 ≤ n) && decide (S.2.1 ≤ S.1.length) && decide (S.1.length ≤ 4)
def okR (a b c d : Int32) (R : List Int32 × Nat × Nat) (M : Int32) : Bool := okS R 4 && decide (Int32.ofNat R.2.2 = cntF M) && decide ((0 : Int32) < cntF M) &&
  (List.range 4).all fun i => !decide (Int32.ofNat i < cntF M) || (decide (i < R.2.2) && decide (R.1.getD i 0 = Int32.ofNat (nthF M (Int32.ofNat i)).toNatClampNeg) && decide (nthF M (Int32.ofNat i) = Int32.ofNat (nthF M (Int32.ofNat i)).toNatClampNeg) && decide ((nthF M (Int32.ofNat i)).toNatClampNeg < 4))
def okA (a b c d : Int32) : Bool := okS (S1F a b) 3 && okS (S2F a b c) 3 && okS (S3F a b c d) 4 && decide ((S3F a b c d).1.getD 0 0 = a) && okR a b c d (RF a b c d) (maskF a b c d)
set_option maxRecDepth 65536 in
theorem own_okA : ∀ a b c d : Fin 4, okA (Int32.ofNat a.1) (Int32.ofNat b.1) (Int32.ofNat c.1) (Int32.ofNat d.1) = true := by decide +kernel
theorem okS.out {S : List Int32 × Nat × Nat} {n : Nat} (h : okS S n = true) : 1 ≤ S.2.2 ∧ S.2.2 ≤ S.2.1 ∧ S.2.1 ≤ n ∧ S.2.1 ≤ S.1.length ∧ S.1.length ≤ 4 := by
  simp only [okS, Bool.and_eq_true, decide_eq_true_eq] at h
  exact ⟨h.1.1.1.1, h.1.1.1.2, h.1.1.2, h.1.2, h.2⟩
theorem own_out (a b c d : Fin 4) : okS (S1F (Int32.ofNat a.1) (Int32.ofNat b.1)) 3 = true ∧ okS (S2F (Int32.ofNat a.1) (Int32.ofNat b.1) (Int32.ofNat c.1)) 3 = true ∧ okS (S3F (Int32.ofNat a.1) (Int32.ofNat b.1) (Int32.ofNat c.1) (Int32.ofNat d.1)) 4 = true ∧ (S3F (Int32.ofNat a.1) (Int32.ofNat b.1) (Int32.ofNat c.1) (Int32.ofNat d.1)).1.getD 0 0 = Int32.ofNat a.1 ∧ okR (Int32.ofNat a.1) (Int32.ofNat b.1) (Int32.ofNat c.1) (Int32.ofNat d.1) (RF (Int32.ofNat a.1) (Int32.ofNat b.1) (Int32.ofNat c.1) (Int32.ofNat d.1)) (maskF (Int32.ofNat a.1) (Int32.ofNat b.1) (Int32.ofNat c.1) (Int32.ofNat d.1)) = true := by
  have h := own_okA a b c d
  simp only [okA, Bool.and_eq_true, decide_eq_true_eq] at h
  exact ⟨h.1.1.1.1, h.1.1.1.2, h.1.1.2, h.1.2, h.2⟩
theorem okR.out {a b c d : Int32} {R : List Int32 × Nat × Nat} {M : Int32} (h : okR a b c d R M = true) : okS R 4 = true ∧ Int32.ofNat R.2.2 = cntF M ∧ (0 : Int32) < cntF M ∧ ∀ i, i < 4 → Int32.ofNat i < cntF M → i < R.2.2 ∧ R.1.getD i 0 = Int32.ofNat (nthF M (Int32.ofNat i)).toNatClampNeg ∧ nthF M (Int32.ofNat i) = Int32.ofNat (nthF M (Int32.ofNat i)).toNatClampNeg ∧ (nthF M (Int32.ofNat i)).toNatClampNeg < 4 := by
  simp only [okR, Bool.and_eq_true, decide_eq_true_eq, List.all_eq_true, List.mem_range, Bool.or_eq_true, Bool.not_eq_true', decide_eq_false_iff_not] at h
  refine ⟨h.1.1.1, h.1.1.2, h.1.2, fun i hi hl => ?_⟩
  rcases h.2 i hi with q | q
  · exact absurd hl q
  · exact ⟨q.1.1.1, q.1.1.2, q.1.2, q.2⟩
theorem own_up {n : Int32} {i j : Nat} (h : ¬ Int32.ofNat i < n) (hij : i ≤ j) (hj : j ≤ 8) : ¬ Int32.ofNat j < n := by
  intro q
  apply h
  rw [Int32.lt_iff_toInt_lt] at *
  have e1 : (Int32.ofNat i).toInt = i := Int32.toInt_ofNat_of_lt (by omega)
  have e2 : (Int32.ofNat j).toInt = j := Int32.toInt_ofNat_of_lt (by omega)
  omega

def Q0 (n0 : Nat) (v : Option Value) (h : Heap) (L : List Loc) : Prop := v = some (.int 1) ∧ Fr n0 L
def Qpure (r : Option Value) (h0 : Heap) (n0 : Nat) (v : Option Value) (h : Heap) (L : List Loc) : Prop := v = r ∧ Fr n0 L ∧ h = h0
def Qk (a : Addr) (h0 : Heap) (n0 : Nat) (v : Option Value) (h : Heap) (L : List Loc) : Prop := v = none ∧ Fr n0 L ∧ Keep h0 h [a]
def Qnew (h0 : Heap) (n0 : Nat) (v : Option Value) (h : Heap) (L : List Loc) : Prop := ∃ b : Addr, v = some (.ref b) ∧ Fr n0 L ∧ Keep h0 h []
def Qstr (Z : State) (h0 : Heap) (n0 : Nat) (v : Option Value) (h : Heap) (L : List Loc) : Prop := ∃ b : Addr, v = some (.ref b) ∧ Fr n0 L ∧ Keep h0 h [] ∧ Exa Z h b "java/lang/String"
def Tl0 (Z : State) (h : Heap) (a : Addr) : Prop := Exa Z h a "com/example/rivet_context/rivetcontext/factory/TypeListing" ∧ Fld Z h a "com/example/rivet_context/rivetcontext/factory/TypeListing" "registered" "[Ljava/lang/String;" .null ∧ Fld Z h a "com/example/rivet_context/rivetcontext/factory/TypeListing" "places" "[I" .null ∧ Fld Z h a "com/example/rivet_context/rivetcontext/factory/TypeListing" "count" "I" (.int 0) ∧ Fld Z h a "com/example/rivet_context/rivetcontext/factory/TypeListing" "ordered" "I" (.int 0) ∧ Fld Z h a "com/example/rivet_context/rivetcontext/factory/TypeListing" "written" "[I" .null ∧ Fld Z h a "com/example/rivet_context/rivetcontext/factory/TypeListing" "inPlace" "Lcom/example/rivet_context/rivetcontext/factory/TypeListing;" .null
def Tl (Z : State) (h : Heap) (a r P : Addr) (c o : Int32) (W : Addr) : Prop := Exa Z h a "com/example/rivet_context/rivetcontext/factory/TypeListing" ∧ Fld Z h a "com/example/rivet_context/rivetcontext/factory/TypeListing" "registered" "[Ljava/lang/String;" (.ref r) ∧ Fld Z h a "com/example/rivet_context/rivetcontext/factory/TypeListing" "places" "[I" (.ref P) ∧ Fld Z h a "com/example/rivet_context/rivetcontext/factory/TypeListing" "count" "I" (.int c) ∧ Fld Z h a "com/example/rivet_context/rivetcontext/factory/TypeListing" "ordered" "I" (.int o) ∧ Fld Z h a "com/example/rivet_context/rivetcontext/factory/TypeListing" "written" "[I" (.ref W) ∧ Fld Z h a "com/example/rivet_context/rivetcontext/factory/TypeListing" "inPlace" "Lcom/example/rivet_context/rivetcontext/factory/TypeListing;" .null
def Qabl (Z : State) (a : Addr) (h0 : Heap) (n0 : Nat) (v : Option Value) (h : Heap) (L : List Loc) : Prop := v = none ∧ Fr n0 L ∧ Keep h0 h [a] ∧ Tl0 Z h a
def Qi5 (Z : State) (a r P : Addr) (c o : Int32) (W : Addr) (h0 : Heap) (n0 : Nat) (v : Option Value) (h : Heap) (L : List Loc) : Prop := v = none ∧ Fr n0 L ∧ Keep h0 h [a] ∧ Tl Z h a r P c o W
def Lst (Z : State) (h : Heap) (n0 : Nat) (a r : Addr) (vs : List Int32) (c o : Nat) : Prop := n0 ≤ a ∧ ∃ (P : Addr) (kP : ClassId) (W : Addr) (kW : ClassId), Tl Z h a r P (Int32.ofNat c) (Int32.ofNat o) W ∧ Arv Z h P kP .int (Int32.ofNat vs.length) (vs.map Value.int) (.int 0) ∧ Arv Z h W kW .int (1 : Int32) [(.int (Int32.ofNat c))] (.int 0) ∧ n0 ≤ P ∧ n0 ≤ W ∧ P ≠ W ∧ r < P ∧ r < W
def Qi2 (Z : State) (a r : Addr) (p : Int32) (h0 : Heap) (n0 : Nat) (v : Option Value) (h : Heap) (L : List Loc) : Prop := v = none ∧ Fr n0 L ∧ Keep h0 h [a] ∧ Lst Z h n0 a r [p] 1 1

theorem pn0 : plainName "java/lang/StringLatin1" = true := by first | (simp [plainName, overriddenIn]; done) | decide +kernel
theorem d2_0 : decode jdk_43_method_3_code 0 = .ok (.iload_n 0, 1) := by decide +kernel
theorem d2_1 : decode jdk_43_method_3_code 1 = .ok (.sipush 255, 3) := by decide +kernel
theorem d2_4 : decode jdk_43_method_3_code 4 = .ok (.if_icmp .gt 7, 3) := by decide +kernel
theorem d2_7 : decode jdk_43_method_3_code 7 = .ok (.iconst 1, 1) := by decide +kernel
theorem d2_8 : decode jdk_43_method_3_code 8 = .ok (.goto 4, 3) := by decide +kernel
theorem d2_12 : decode jdk_43_method_3_code 12 = .ok (.ireturn, 1) := by decide +kernel
theorem ef_rmce (m : MethodId) (x0 : Int32) : entryFrame m #[(.int x0)] 1 = mkF m 0 #[.val (.int x0)] [] := by first | (simp [entryFrame, mkF, argsToLocals, Value.category]; done) | rfl
set_option maxRecDepth 65536 in
set_option maxHeartbeats 40000000 in
theorem rmce (l : Launch) (Z : State) (a0 : Array Value) (hw : ∀ d ∈ tables_1, d.before a0 Z = true) (ws : List Jvm.Cond) (p1 : Int32) (h0 : Heap) (n0 : Nat) (O0 : Old Z n0 h0) (hp : ¬ (255 : Int32) < p1) :
    MetFree l (⟨"java/lang/StringLatin1", "canEncode", "(C)Z"⟩ : MethodName) (head1 (Jvm.Cond.code (⟨"java/lang/StringLatin1", "canEncode", "(C)Z"⟩ : MethodName) jdk_43_method_3_code 1 (some .boolean) :: ws) ({ frames := 0, cells := 0, slots := 0, locals := 0 } : Room)) (fun a U => a = #[(.int p1)] ∧ Z.Warmed39 U.vm ∧ U.heap = h0) (fun _ _ _ _ _ => True) (fun _ U o U' => ∃ v L, o = .returned v ∧ Qpure (some (.int 1)) h0 n0 v U'.heap L ∧ FrameEnd U o U' L ({ frames := 0, cells := 0, slots := 0, locals := 0 } : Room).cells ({ frames := 0, cells := 0, slots := 0, locals := 0 } : Room).slots) := by
  refine MetFree.of_bodySF (plainFor_of_name pn0) hisR ?_
  intro p e s m args below meth c s₁ Bd hml0 hP hK
  obtain ⟨rfl, hZ, hh⟩ := hP
  have hx := Bd.exec
  have hby := Bd.bytes
  have hml : c.maxLocals = 1 := hml0
  have hown : s.vm.findClass "java/lang/StringLatin1" = some m.cls := findClass_of_methodNamed Bd.named
  have hnm := (name_of_methodNamed Bd.named Bd.method).1
  have X0 : Stand p l e ({ frames := 0, cells := 0, slots := 0, locals := 0 } : Room) s m #[(.int p1)] below meth c s₁ [] 0 0 := Stand.of_body Bd
  have e0 : s₁.heap = h0 := by rw [← hh, Bd.state]; rfl
  have N0 := Fr.nil n0
  have pre0 : ∀ t, Steps p.tables e below (s₁.setTop (mkF m 0 #[.val (.int p1)] [])) t → Steps p.tables e below (s₁.setTop (entryFrame m #[(.int p1)] 1)) t := fun t k => castTop (ef_rmce m p1) k
  obtain ⟨fs, hr, hrun, hended, hW, hsame⟩ := X0.leave (v := some (.int 1)) (fun h => by rw [Bd.returns] at h; cases h)
  refine ⟨_, _, pre0 _ ?_, hrun, hended, _, _, rfl, ?_, ⟨_, rfl⟩, hW, hsame.mono (by decide) (by decide)⟩
  · show Steps p.tables e below (s₁.setTop (mkF m 0 #[.val (.int p1)] [])) _
    refine XS.iloadN X0.here hx rfl (hb hby d2_0) rfl ?_
    refine XS.sipush X0.here hx rfl (hb hby d2_1) ?_
    refine XS.icmpNo X0.here hx rfl (hb hby d2_4) rfl (flt hp).2.2.1 ?_
    refine XS.iconst X0.here hx rfl (hb hby d2_7) ?_
    refine XS.goto X0.here hx rfl (pc0 := 8) (pc' := 12) rfl (hb hby d2_8) (by decide) (by decide) ?_
    show Steps p.tables e below (s₁.setTop (mkF m 12 #[.val (.int p1)] [(.int 1)])) _
    exact retN X0 hx (t := .boolean) Bd.returns (by simp) (hb hby d2_12) hr
  · show Qpure (some (.int 1)) h0 n0 _ s₁.heap _
    rw [e0]
    exact ⟨rfl, N0, rfl⟩
theorem d3_0 : decode jdk_43_method_46_code 0 = .ok (.iconst 1, 1) := by decide +kernel
theorem d3_1 : decode jdk_43_method_46_code 1 = .ok (.newarray .byte, 2) := by decide +kernel
theorem d3_3 : decode jdk_43_method_46_code 3 = .ok (.dup, 1) := by decide +kernel
theorem d3_4 : decode jdk_43_method_46_code 4 = .ok (.iconst 0, 1) := by decide +kernel
theorem d3_5 : decode jdk_43_method_46_code 5 = .ok (.iload_n 0, 1) := by decide +kernel
theorem d3_6 : decode jdk_43_method_46_code 6 = .ok (.i2b, 1) := by decide +kernel
theorem d3_7 : decode jdk_43_method_46_code 7 = .ok (.bastore, 1) := by decide +kernel
theorem d3_8 : decode jdk_43_method_46_code 8 = .ok (.areturn, 1) := by decide +kernel
theorem ef_rmtb (m : MethodId) (x0 : Int32) : entryFrame m #[(.int x0)] 1 = mkF m 0 #[.val (.int x0)] [] := by first | (simp [entryFrame, mkF, argsToLocals, Value.category]; done) | rfl
set_option maxRecDepth 65536 in
set_option maxHeartbeats 40000000 in
theorem rmtb (l : Launch) (Z : State) (a0 : Array Value) (hw : ∀ d ∈ tables_1, d.before a0 Z = true) (ws : List Jvm.Cond) (p1 : Int32) (h0 : Heap) (n0 : Nat) (O0 : Old Z n0 h0)  :
    MetFree l (⟨"java/lang/StringLatin1", "toBytes", "(C)[B"⟩ : MethodName) (head1 (Jvm.Cond.code (⟨"java/lang/StringLatin1", "toBytes", "(C)[B"⟩ : MethodName) jdk_43_method_46_code 1 (some (.array .byte)) :: ws) ({ frames := 0, cells := 1, slots := 1, locals := 0 } : Room)) (fun a U => a = #[(.int p1)] ∧ Z.Warmed39 U.vm ∧ U.heap = h0) (fun _ _ _ _ _ => True) (fun _ U o U' => ∃ v L, o = .returned v ∧ Qnew h0 n0 v U'.heap L ∧ FrameEnd U o U' L ({ frames := 0, cells := 1, slots := 1, locals := 0 } : Room).cells ({ frames := 0, cells := 1, slots := 1, locals := 0 } : Room).slots) := by
  refine MetFree.of_bodySF (plainFor_of_name pn0) hisR ?_
  intro p e s m args below meth c s₁ Bd hml0 hP hK
  obtain ⟨rfl, hZ, hh⟩ := hP
  have hx := Bd.exec
  have hby := Bd.bytes
  have hml : c.maxLocals = 1 := hml0
  have hown : s.vm.findClass "java/lang/StringLatin1" = some m.cls := findClass_of_methodNamed Bd.named
  have hnm := (name_of_methodNamed Bd.named Bd.method).1
  have X0 : Stand p l e ({ frames := 0, cells := 1, slots := 1, locals := 0 } : Room) s m #[(.int p1)] below meth c s₁ [] 0 0 := Stand.of_body Bd
  have e0 : s₁.heap = h0 := by rw [← hh, Bd.state]; rfl
  have N0 := Fr.nil n0
  have pre0 : ∀ t, Steps p.tables e below (s₁.setTop (mkF m 0 #[.val (.int p1)] [])) t → Steps p.tables e below (s₁.setTop (entryFrame m #[(.int p1)] 1)) t := fun t k => castTop (ef_rmtb m p1) k
  obtain ⟨T1, h1, k1, X1, e1, E1, A1, st1⟩ := newP X0 hx hZ (hw _ (List.mem_of_getElem? (i := 16) rfl)) e0 (g := (mkF m 1 #[.val (.int p1)] [(.int 1)])) rfl (hb hby d3_1) rfl (by decide) (cap := 1) (by decide) (by decide) (by decide) (by decide)
  obtain ⟨b1, g1⟩ : ∃ z, z = h0.size := ⟨_, rfl⟩
  rw [← g1] at A1 st1
  have g_b1 : n0 ≤ b1 := by rw [g1]; exact Nat.le_trans (Nat.le_of_eq O0.1.symm) O0.2.1
  have sz_b1 : h0.size ≤ b1 := by rw [g1]; exact (Keep.refl h0 []).1
  have O2 := O0.ext E1
  have kp3 : Keep h0 h1 [] := (Keep.refl h0 []).ext E1
  have V_b1 : Arv Z h1 b1 k1 .byte (1 : Int32) [(.int 0)] (.int 0) := (Arv.new A1 (by decide)).pad (pad_rep [] (.int 0) 1)
  obtain ⟨cl4, Ar4, q4, Sz4, Nn4, Ha4, Gf4⟩ := V_b1
  have hin4 : ¬ ((0 : Int32) < 0 ∨ cl4.slots.size ≤ ((0 : Int32)).toNatClampNeg) := inb_of Sz4 ⟨by decide, by decide⟩
  obtain ⟨T5, h5, X5, e5, W5, st5⟩ := stB X1 hx hZ e1 Ar4 (j := (0 : Int32)) hin4 (g := (mkF m 7 #[.val (.int p1)] [(.int (p1.toInt8.toInt32)), (.int 0), (.ref b1), (.ref b1)])) rfl rfl (hb hby d3_7)
  have Va5 := Arv.set Ar4 q4 Sz4 Nn4 Ha4 Gf4 (fits_nar_byte _) W5 0 rfl (Nat.le_of_ble_eq_true rfl)
  have Vb5 : Arv Z h5 b1 k1 .byte (1 : Int32) [(.int ((p1.toInt8.toInt32).toInt8.toInt32))] (.int 0) := Va5
  have O6 := O2.wr W5 g_b1
  have kp7 : Keep h0 h5 [] := kp3.wr W5 (Or.inr sz_b1)
  have N5 := Fr.snoc X5 N0 g_b1
  obtain ⟨fs, hr, hrun, hended, hW, hsame⟩ := X5.leave (v := some (.ref b1)) (fun h => by rw [Bd.returns] at h; cases h)
  refine ⟨_, _, pre0 _ ?_, hrun, hended, _, _, rfl, ?_, ⟨_, rfl⟩, hW, hsame.mono (by decide) (by decide)⟩
  · show Steps p.tables e below (s₁.setTop (mkF m 0 #[.val (.int p1)] [])) _
    refine XS.iconst X0.here hx rfl (hb hby d3_0) ?_
    show Steps p.tables e below (s₁.setTop (mkF m 1 #[.val (.int p1)] [(.int 1)])) _
    refine st1 _ ?_
    show Steps p.tables e below (T1.setTop (mkF m 3 #[.val (.int p1)] [(.ref b1)])) _
    refine XS.dup X1.here hx rfl (hb hby d3_3) rfl rfl ?_
    refine XS.iconst X1.here hx rfl (hb hby d3_4) ?_
    refine XS.iloadN X1.here hx rfl (hb hby d3_5) rfl ?_
    refine XS.i2b X1.here hx rfl (hb hby d3_6) rfl ?_
    show Steps p.tables e below (T1.setTop (mkF m 7 #[.val (.int p1)] [(.int (p1.toInt8.toInt32)), (.int 0), (.ref b1), (.ref b1)])) _
    refine st5 _ ?_
    show Steps p.tables e below (T5.setTop (mkF m 8 #[.val (.int p1)] [(.ref b1)])) _
    exact retOut X5 hx Bd.returns rfl (Or.inr (Or.inr (Or.inr (Or.inr ⟨rfl, rfl, rfl⟩)))) (hb hby d3_8) hr
  · show Qnew h0 n0 _ T5.heap _
    rw [e5]
    exact ⟨b1, rfl, N5, kp7⟩
theorem pn1 : plainName "java/lang/String" = true := by first | (simp [plainName, overriddenIn]; done) | decide +kernel
theorem d4_0 : decode jdk_42_method_151_code 0 = .ok (.aload_n 0, 1) := by decide +kernel
theorem d4_1 : decode jdk_42_method_151_code 1 = .ok (.invokespecial 1, 3) := by decide +kernel
theorem d4_4 : decode jdk_42_method_151_code 4 = .ok (.aload_n 0, 1) := by decide +kernel
theorem d4_5 : decode jdk_42_method_151_code 5 = .ok (.aload_n 1, 1) := by decide +kernel
theorem d4_6 : decode jdk_42_method_151_code 6 = .ok (.putfield 9, 3) := by decide +kernel
theorem d4_9 : decode jdk_42_method_151_code 9 = .ok (.aload_n 0, 1) := by decide +kernel
theorem d4_10 : decode jdk_42_method_151_code 10 = .ok (.iload_n 2, 1) := by decide +kernel
theorem d4_11 : decode jdk_42_method_151_code 11 = .ok (.putfield 15, 3) := by decide +kernel
theorem d4_14 : decode jdk_42_method_151_code 14 = .ok (.return_, 1) := by decide +kernel
theorem ef_rmsi (m : MethodId) (x0 : Addr) (x1 : Addr) (x2 : Int32) : entryFrame m #[(.ref x0), (.ref x1), (.int x2)] 3 = mkF m 0 #[.val (.ref x0), .val (.ref x1), .val (.int x2)] [] := by first | (simp [entryFrame, mkF, argsToLocals, Value.category]; done) | rfl
set_option maxRecDepth 65536 in
set_option maxHeartbeats 40000000 in
theorem rmsi (l : Launch) (Z : State) (a0 : Array Value) (hw : ∀ d ∈ tables_1, d.before a0 Z = true) (ws : List Jvm.Cond) (a1 : Addr) (a2 : Addr) (h0 : Heap) (n0 : Nat) (O0 : Old Z n0 h0) (E_a : Exa Z h0 a1 "java/lang/String") (F_v : Fld Z h0 a1 "java/lang/String" "value" "[B" .null) (F_c : Fld Z h0 a1 "java/lang/String" "coder" "B" (.int 0)) (g_a1 : n0 ≤ a1) :
    MetFree l (⟨"java/lang/String", "<init>", "([BB)V"⟩ : MethodName) (head1 (Jvm.Cond.code (⟨"java/lang/String", "<init>", "([BB)V"⟩ : MethodName) jdk_42_method_151_code 3 none :: ws) ({ frames := 1, cells := 0, slots := 0, locals := 12 } : Room)) (fun a U => a = #[(.ref a1), (.ref a2), (.int 0)] ∧ Z.Warmed39 U.vm ∧ U.heap = h0) (fun _ _ _ _ _ => True) (fun _ U o U' => ∃ v L, o = .returned v ∧ Qk a1 h0 n0 v U'.heap L ∧ FrameEnd U o U' L ({ frames := 1, cells := 0, slots := 0, locals := 12 } : Room).cells ({ frames := 1, cells := 0, slots := 0, locals := 12 } : Room).slots) := by
  refine MetFree.of_bodySF (plainFor_of_name pn1) hisR ?_
  intro p e s m args below meth c s₁ Bd hml0 hP hK
  obtain ⟨rfl, hZ, hh⟩ := hP
  have hx := Bd.exec
  have hby := Bd.bytes
  have hml : c.maxLocals = 3 := hml0
  have hown : s.vm.findClass "java/lang/String" = some m.cls := findClass_of_methodNamed Bd.named
  have hnm := (name_of_methodNamed Bd.named Bd.method).1
  have X0 : Stand p l e ({ frames := 1, cells := 0, slots := 0, locals := 12 } : Room) s m #[(.ref a1), (.ref a2), (.int 0)] below meth c s₁ [] 0 0 := Stand.of_body Bd
  have e0 : s₁.heap = h0 := by rw [← hh, Bd.state]; rfl
  have N0 := Fr.nil n0
  have pre0 : ∀ t, Steps p.tables e below (s₁.setTop (mkF m 0 #[.val (.ref a1), .val (.ref a2), .val (.int 0)] [])) t → Steps p.tables e below (s₁.setTop (entryFrame m #[(.ref a1), (.ref a2), (.int 0)] 3)) t := fun t k => castTop (ef_rmsi m a1 a2 (0 : Int32)) k
  obtain ⟨T1, X1, e1, st1⟩ := initO X0 hx hZ hown (hw _ (List.mem_of_getElem? (i := 21) rfl)) (hw _ (List.mem_of_getElem? (i := 22) rfl)) (hw _ (List.mem_of_getElem? (i := 23) rfl)) e0 (g := (mkF m 1 #[.val (.ref a1), .val (.ref a2), .val (.int 0)] [(.ref a1)])) rfl (by rw [hml]; rfl) rfl (hb hby d4_1) (by decide) (W := 0) (by show 2 * 0 + _ ≤ _; exact Nat.le_of_eq rfl) (by decide)
  obtain ⟨T2, h2, X2, e2, W2, st2⟩ := putF X1 hx hZ hown (host := "") (Or.inl (hw _ (List.mem_of_getElem? (i := 24) rfl))) Via.refl e1 F_v E_a (Or.inr ⟨(hw _ (List.mem_of_getElem? (i := 25) rfl)), rfl, hnm⟩) (hw _ (List.mem_of_getElem? (i := 12) rfl)) (ty := (.array .byte)) (by decide) rfl rfl (g := (mkF m 6 #[.val (.ref a1), .val (.ref a2), .val (.int 0)] [(.ref a2), (.ref a1)])) rfl rfl (hb hby d4_6)
  have Fw2 := F_v.same W2
  have O3 := O0.wr W2 g_a1
  have kp4 : Keep h0 h2 [a1] := (Keep.refl h0 [a1]).wr W2 (Or.inl (List.mem_of_getElem? (i := 0) rfl))
  have N2 := Fr.snoc X2 N0 g_a1
  obtain ⟨T5, h5, X5, e5, W5, st5⟩ := putFN X2 hx hZ hown (hw _ (List.mem_of_getElem? (i := 26) rfl)) Via.refl e2 (F_c.other W2 (Or.inr (slot_ne (Or.inr (hw _ (List.mem_of_getElem? (i := 27) rfl))) (Or.inr (hw _ (List.mem_of_getElem? (i := 25) rfl))) (by decide) (t := .byte) (t' := (.array .byte)) (by decide) (by decide)))) (E_a.wr W2) (Or.inr ⟨(hw _ (List.mem_of_getElem? (i := 27) rfl)), rfl, hnm⟩) (hw _ (List.mem_of_getElem? (i := 12) rfl)) (ty := .byte) (v' := (.int 0)) (by decide) rfl rfl (g := (mkF m 11 #[.val (.ref a1), .val (.ref a2), .val (.int 0)] [(.int 0), (.ref a1)])) rfl rfl (hb hby d4_11)
  have Fw5 := (F_c.other W2 (Or.inr (slot_ne (Or.inr (hw _ (List.mem_of_getElem? (i := 27) rfl))) (Or.inr (hw _ (List.mem_of_getElem? (i := 25) rfl))) (by decide) (t := .byte) (t' := (.array .byte)) (by decide) (by decide)))).same W5
  have O6 := O3.wr W5 g_a1
  have kp7 : Keep h0 h5 [a1] := kp4.wr W5 (Or.inl (List.mem_of_getElem? (i := 0) rfl))
  have N5 := Fr.snoc X5 N2 g_a1
  obtain ⟨fs, hr, hrun, hended, hW, hsame⟩ := X5.leave (v := none) (fun _ => rfl)
  refine ⟨_, _, pre0 _ ?_, hrun, hended, _, _, rfl, ?_, ⟨_, rfl⟩, hW, hsame.mono (by decide) (by decide)⟩
  · show Steps p.tables e below (s₁.setTop (mkF m 0 #[.val (.ref a1), .val (.ref a2), .val (.int 0)] [])) _
    refine XS.aloadN X0.here hx rfl (hb hby d4_0) rfl rfl ?_
    show Steps p.tables e below (s₁.setTop (mkF m 1 #[.val (.ref a1), .val (.ref a2), .val (.int 0)] [(.ref a1)])) _
    refine st1 _ ?_
    show Steps p.tables e below (T1.setTop (mkF m 4 #[.val (.ref a1), .val (.ref a2), .val (.int 0)] [])) _
    refine XS.aloadN X1.here hx rfl (hb hby d4_4) rfl rfl ?_
    refine XS.aloadN X1.here hx rfl (hb hby d4_5) rfl rfl ?_
    show Steps p.tables e below (T1.setTop (mkF m 6 #[.val (.ref a1), .val (.ref a2), .val (.int 0)] [(.ref a2), (.ref a1)])) _
    refine st2 _ ?_
    show Steps p.tables e below (T2.setTop (mkF m 9 #[.val (.ref a1), .val (.ref a2), .val (.int 0)] [])) _
    refine XS.aloadN X2.here hx rfl (hb hby d4_9) rfl rfl ?_
    refine XS.iloadN X2.here hx rfl (hb hby d4_10) rfl ?_
    show Steps p.tables e below (T2.setTop (mkF m 11 #[.val (.ref a1), .val (.ref a2), .val (.int 0)] [(.int 0), (.ref a1)])) _
    refine st5 _ ?_
    show Steps p.tables e below (T5.setTop (mkF m 14 #[.val (.ref a1), .val (.ref a2), .val (.int 0)] [])) _
    exact X5.returnOut hx Bd.returns (hb hby d4_14) hr
  · show Qk a1 h0 n0 _ T5.heap _
    rw [e5]
    exact ⟨rfl, N5, kp7⟩
theorem d1_0 : decode jdk_42_method_139_code 0 = .ok (.getstatic 38, 3) := by decide +kernel
theorem d1_3 : decode jdk_42_method_139_code 3 = .ok (.ifCond .eq 23, 3) := by decide +kernel
theorem d1_6 : decode jdk_42_method_139_code 6 = .ok (.iload_n 0, 1) := by decide +kernel
theorem d1_7 : decode jdk_42_method_139_code 7 = .ok (.invokestatic 1015, 3) := by decide +kernel
theorem pd0 : parseMethodDescriptor "(C)Z" = some ⟨[.char], some .boolean⟩ := by decide +kernel
theorem d1_10 : decode jdk_42_method_139_code 10 = .ok (.ifCond .eq 16, 3) := by decide +kernel
theorem d1_13 : decode jdk_42_method_139_code 13 = .ok (.new 10, 3) := by decide +kernel
theorem d1_16 : decode jdk_42_method_139_code 16 = .ok (.dup, 1) := by decide +kernel
theorem d1_17 : decode jdk_42_method_139_code 17 = .ok (.iload_n 0, 1) := by decide +kernel
theorem d1_18 : decode jdk_42_method_139_code 18 = .ok (.invokestatic 1018, 3) := by decide +kernel
theorem pd1 : parseMethodDescriptor "(C)[B" = some ⟨[.char], some (.array .byte)⟩ := by decide +kernel
theorem d1_21 : decode jdk_42_method_139_code 21 = .ok (.iconst 0, 1) := by decide +kernel
theorem d1_22 : decode jdk_42_method_139_code 22 = .ok (.invokespecial 209, 3) := by decide +kernel
theorem pd2 : parseMethodDescriptor "([BB)V" = some ⟨[(.array .byte), .byte], none⟩ := by decide +kernel
theorem d1_25 : decode jdk_42_method_139_code 25 = .ok (.areturn, 1) := by decide +kernel
theorem ef_rmvo (m : MethodId) (x0 : Int32) : entryFrame m #[(.int x0)] 1 = mkF m 0 #[.val (.int x0)] [] := by first | (simp [entryFrame, mkF, argsToLocals, Value.category]; done) | rfl
set_option maxRecDepth 65536 in
set_option maxHeartbeats 40000000 in
theorem rmvo (l : Launch) (Z : State) (a0 : Array Value) (hw : ∀ d ∈ tables_1, d.before a0 Z = true) (ws : List Jvm.Cond) (p1 : Int32) (G1 : Int32) (h0 : Heap) (n0 : Nat) (O0 : Old Z n0 h0) (S_cs : Sta Z Z.heap "java/lang/String" "COMPACT_STRINGS" "Z" (.int G1)) (hG : ¬ G1 = 0) (hp : ¬ (255 : Int32) < p1) :
    MetFree l (⟨"java/lang/String", "valueOf", "(C)Ljava/lang/String;"⟩ : MethodName) (head1 (Jvm.Cond.code (⟨"java/lang/String", "valueOf", "(C)Ljava/lang/String;"⟩ : MethodName) jdk_42_method_139_code 1 (some (.object "java/lang/String")) :: ws) ({ frames := 2, cells := 2, slots := 5, locals := 27 } : Room)) (fun a U => a = #[(.int p1)] ∧ Z.Warmed39 U.vm ∧ U.heap = h0) (fun _ _ _ _ _ => True) (fun _ U o U' => ∃ v L, o = .returned v ∧ Qstr Z h0 n0 v U'.heap L ∧ FrameEnd U o U' L ({ frames := 2, cells := 2, slots := 5, locals := 27 } : Room).cells ({ frames := 2, cells := 2, slots := 5, locals := 27 } : Room).slots) := by
  refine MetFree.of_bodySF (plainFor_of_name pn1) hisR ?_
  intro p e s m args below meth c s₁ Bd hml0 hP hK
  obtain ⟨rfl, hZ, hh⟩ := hP
  have hx := Bd.exec
  have hby := Bd.bytes
  have hml : c.maxLocals = 1 := hml0
  have hown : s.vm.findClass "java/lang/String" = some m.cls := findClass_of_methodNamed Bd.named
  have hnm := (name_of_methodNamed Bd.named Bd.method).1
  have X0 : Stand p l e ({ frames := 2, cells := 2, slots := 5, locals := 27 } : Room) s m #[(.int p1)] below meth c s₁ [] 0 0 := Stand.of_body Bd
  have e0 : s₁.heap = h0 := by rw [← hh, Bd.state]; rfl
  have N0 := Fr.nil n0
  have pre0 : ∀ t, Steps p.tables e below (s₁.setTop (mkF m 0 #[.val (.int p1)] [])) t → Steps p.tables e below (s₁.setTop (entryFrame m #[(.int p1)] 1)) t := fun t k => castTop (ef_rmvo m p1) k
  obtain ⟨T1, X1, e1, st1⟩ := getS2 X0 hx hZ hown (host := "") (Or.inl (hw _ (List.mem_of_getElem? (i := 6) rfl))) Via.refl e0 (S_cs.ext O0.2) (g := (mkF m 0 #[.val (.int p1)] [])) rfl (hb hby d1_0)
  obtain ⟨_, _, ⟨T2, L2, k2, n2⟩, -, X2, ⟨Lc2, hQ2, l2, y2, z2⟩, st2⟩ := Jvm.LawKit.callS X1 hx (y := (⟨"java/lang/StringLatin1", "canEncode", "(C)Z"⟩ : MethodName)) hown (mvT hZ (hw _ (List.mem_of_getElem? (i := 7) rfl))) (mvT hZ (hw _ (List.mem_of_getElem? (i := 8) rfl))) (mvT hZ (hw _ (List.mem_of_getElem? (i := 9) rfl))) (mvT hZ (hw _ (List.mem_of_getElem? (i := 10) rfl))) (by decide) (backOf (W := 0) (rmce l Z a0 hw [] p1 h0 n0 O0 hp) hZ (hw _ (List.mem_of_getElem? (i := 10) rfl)) (hw _ (List.mem_of_getElem? (i := 9) rfl)) (by decide) (by decide)) (g := (mkF m 7 #[.val (.int p1)] [(.int p1)])) rfl (by rw [hml]; rfl) (argsL := [(.int p1)]) (rest := []) (lenOf pd0 rfl) rfl (by show 2 * 0 + _ ≤ _; exact Nat.le_of_eq rfl) (hb hby d1_7) (fun _ _ => ⟨rfl, e1, (by decide : 0 + 0 ≤ _), (by decide : 0 + 0 ≤ _)⟩)
  dsimp only [Pt.U, Pt.locs, Pt.cells, Pt.slots] at X2 l2 y2 z2 st2 hQ2
  subst l2 y2 z2
  obtain ⟨rfl, Nq2, e2⟩ := hQ2
  have N2 := Fr.app N0 Nq2
  obtain ⟨T3, h3, X3, e3, E3, A3, D3, U3, st3⟩ := newO X2 hx hZ hown (hw _ (List.mem_of_getElem? (i := 11) rfl)) (hw _ (List.mem_of_getElem? (i := 12) rfl)) (hw _ (List.mem_of_getElem? (i := 4) rfl)) e2 (g := (mkF m 13 #[.val (.int p1)] [])) rfl (hb hby d1_13) (by decide) (by decide)
  obtain ⟨b3, g3⟩ : ∃ z, z = h0.size := ⟨_, rfl⟩
  rw [← g3] at A3 D3 U3 st3
  have g_b3 : n0 ≤ b3 := by rw [g3]; exact Nat.le_trans (Nat.le_of_eq O0.1.symm) O0.2.1
  have sz_b3 : h0.size ≤ b3 := by rw [g3]; exact (Keep.refl h0 []).1
  have O4 := O0.ext E3
  have kp5 : Keep h0 h3 [] := (Keep.refl h0 []).ext E3
  have F_value_b3 : Fld Z h3 b3 "java/lang/String" "value" "[B" .null := D3 (Or.inr (hw _ (List.mem_of_getElem? (i := 25) rfl))) (ty := (.array .byte)) (by decide)
  have F_coder_b3 : Fld Z h3 b3 "java/lang/String" "coder" "B" (.int 0) := D3 (Or.inr (hw _ (List.mem_of_getElem? (i := 27) rfl))) (ty := .byte) (by decide)
  obtain ⟨_, _, ⟨T6, L6, k6, n6⟩, -, X6, ⟨Lc6, hQ6, l6, y6, z6⟩, st6⟩ := Jvm.LawKit.callS X3 hx (y := (⟨"java/lang/StringLatin1", "toBytes", "(C)[B"⟩ : MethodName)) hown (mvT hZ (hw _ (List.mem_of_getElem? (i := 13) rfl))) (mvT hZ (hw _ (List.mem_of_getElem? (i := 14) rfl))) (mvT hZ (hw _ (List.mem_of_getElem? (i := 9) rfl))) (mvT hZ (hw _ (List.mem_of_getElem? (i := 15) rfl))) (by decide) (backOf (W := 2) (rmtb l Z a0 hw [] p1 h3 n0 O4) hZ (hw _ (List.mem_of_getElem? (i := 15) rfl)) (hw _ (List.mem_of_getElem? (i := 9) rfl)) (by decide) (by decide)) (g := (mkF m 18 #[.val (.int p1)] [(.int p1), (.ref b3), (.ref b3)])) rfl (by rw [hml]; rfl) (argsL := [(.int p1)]) (rest := [(.ref b3), (.ref b3)]) (lenOf pd1 rfl) rfl (by show 2 * 0 + _ ≤ _; exact Nat.le_of_eq rfl) (hb hby d1_18) (fun _ _ => ⟨rfl, e3, (by decide : 1 + 1 ≤ _), (by decide : 4 + 1 ≤ _)⟩)
  dsimp only [Pt.U, Pt.locs, Pt.cells, Pt.slots] at X6 l6 y6 z6 st6 hQ6
  subst l6 y6 z6
  obtain ⟨h6, e6⟩ : ∃ z, T6.heap = z := ⟨_, rfl⟩
  rw [e6] at hQ6
  obtain ⟨t6, rfl, Nq6, K6⟩ := hQ6
  have N6 := Fr.app N2 Nq6
  have O7 := O4.keep K6 all0
  have kp8 : Keep h0 h6 [] := kp5.trans K6 all0
  obtain ⟨_, _, ⟨T9, L9, k9, n9⟩, -, X9, ⟨Lc9, hQ9, l9, y9, z9⟩, st9⟩ := X6.specialBack hx (y := (⟨"java/lang/String", "<init>", "([BB)V"⟩ : MethodName)) rfl hown (mvT hZ (hw _ (List.mem_of_getElem? (i := 17) rfl))) (mvT hZ (hw _ (List.mem_of_getElem? (i := 18) rfl))) (mvT hZ (hw _ (List.mem_of_getElem? (i := 20) rfl))) (by decide) (backOf (W := 1) (rmsi l Z a0 hw [] b3 t6 h6 n0 O7 (A3.keep K6) (F_value_b3.keep K6 nin0) (F_coder_b3.keep K6 nin0) g_b3) hZ (hw _ (List.mem_of_getElem? (i := 20) rfl)) (hw _ (List.mem_of_getElem? (i := 4) rfl)) (by decide) (by decide)) (g := (mkF m 22 #[.val (.int p1)] [(.int 0), (.ref t6), (.ref b3), (.ref b3)])) rfl (by rw [hml]; rfl) (Steps.refl _) (a := b3) (argsL := [(.ref t6), (.int 0)]) (rest := [(.ref b3)]) (lenOf pd2 rfl) rfl (by show 2 * 0 + _ ≤ _; exact Nat.le_of_eq rfl) (hb hby d1_22) (fun _ _ => ⟨rfl, e6, (by decide : 2 + 0 ≤ _), (by decide : 5 + 0 ≤ _)⟩)
  dsimp only [Pt.U, Pt.locs, Pt.cells, Pt.slots] at X9 l9 y9 z9 st9 hQ9
  subst l9 y9 z9
  obtain ⟨h9, e9⟩ : ∃ z, T9.heap = z := ⟨_, rfl⟩
  rw [e9] at hQ9
  obtain ⟨rfl, Nq9, K9⟩ := hQ9
  have N9 := Fr.app N6 Nq9
  have O10 := O7.keep K9 (allS g_b3 all0)
  have kp11 : Keep h0 h9 [] := kp8.trans K9 (allS (Or.inr sz_b3) all0)
  obtain ⟨fs, hr, hrun, hended, hW, hsame⟩ := X9.leave (v := some (.ref b3)) (fun h => by rw [Bd.returns] at h; cases h)
  refine ⟨_, _, pre0 _ ?_, hrun, hended, _, _, rfl, ?_, ⟨_, rfl⟩, hW, hsame.mono (by decide) (by decide)⟩
  · show Steps p.tables e below (s₁.setTop (mkF m 0 #[.val (.int p1)] [])) _
    refine st1 _ ?_
    show Steps p.tables e below (T1.setTop (mkF m 3 #[.val (.int p1)] [(.int G1)])) _
    refine XS.ifNo X1.here hx rfl (hb hby d1_3) rfl ((if0 _ _).trans (feq hG).1) ?_
    refine XS.iloadN X1.here hx rfl (hb hby d1_6) rfl ?_
    show Steps p.tables e below (T1.setTop (mkF m 7 #[.val (.int p1)] [(.int p1)])) _
    refine st2 _ ?_
    show Steps p.tables e below (T2.setTop (mkF m 10 #[.val (.int p1)] [(.int 1)])) _
    refine XS.ifNo X2.here hx rfl (hb hby d1_10) rfl ((if0 _ _).trans (feq (by decide)).1) ?_
    show Steps p.tables e below (T2.setTop (mkF m 13 #[.val (.int p1)] [])) _
    refine st3 _ ?_
    show Steps p.tables e below (T3.setTop (mkF m 16 #[.val (.int p1)] [(.ref b3)])) _
    refine XS.dup X3.here hx rfl (hb hby d1_16) rfl rfl ?_
    refine XS.iloadN X3.here hx rfl (hb hby d1_17) rfl ?_
    show Steps p.tables e below (T3.setTop (mkF m 18 #[.val (.int p1)] [(.int p1), (.ref b3), (.ref b3)])) _
    refine st6 _ ?_
    show Steps p.tables e below (T6.setTop (mkF m 21 #[.val (.int p1)] [(.ref t6), (.ref b3), (.ref b3)])) _
    refine XS.iconst X6.here hx rfl (hb hby d1_21) ?_
    show Steps p.tables e below (T6.setTop (mkF m 22 #[.val (.int p1)] [(.int 0), (.ref t6), (.ref b3), (.ref b3)])) _
    refine st9.trans ?_
    show Steps p.tables e below (T9.setTop (mkF m 25 #[.val (.int p1)] [(.ref b3)])) _
    exact retOut X9 hx Bd.returns rfl (Or.inr (Or.inr (Or.inr (Or.inr ⟨rfl, rfl, rfl⟩)))) (hb hby d1_25) hr
  · show Qstr Z h0 n0 _ T9.heap _
    rw [e9]
    exact ⟨b3, rfl, N9, kp11, ((A3.keep K6).keep K9)⟩
theorem pn2 : plainName "java/util/AbstractCollection" = true := by first | (simp [plainName, overriddenIn]; done) | decide +kernel
theorem d9_0 : decode jdk_22_method_1_code 0 = .ok (.aload_n 0, 1) := by decide +kernel
theorem d9_1 : decode jdk_22_method_1_code 1 = .ok (.invokespecial 1, 3) := by decide +kernel
theorem d9_4 : decode jdk_22_method_1_code 4 = .ok (.return_, 1) := by decide +kernel
theorem ef_rmac (m : MethodId) (x0 : Addr) : entryFrame m #[(.ref x0)] 1 = mkF m 0 #[.val (.ref x0)] [] := by first | (simp [entryFrame, mkF, argsToLocals, Value.category]; done) | rfl
set_option maxRecDepth 65536 in
set_option maxHeartbeats 40000000 in
theorem rmac (l : Launch) (Z : State) (a0 : Array Value) (hw : ∀ d ∈ tables_1, d.before a0 Z = true) (ws : List Jvm.Cond) (a1 : Addr) (h0 : Heap) (n0 : Nat) (O0 : Old Z n0 h0)  :
    MetFree l (⟨"java/util/AbstractCollection", "<init>", "()V"⟩ : MethodName) (head1 (Jvm.Cond.code (⟨"java/util/AbstractCollection", "<init>", "()V"⟩ : MethodName) jdk_22_method_1_code 1 none :: ws) ({ frames := 1, cells := 0, slots := 0, locals := 12 } : Room)) (fun a U => a = #[(.ref a1)] ∧ Z.Warmed39 U.vm ∧ U.heap = h0) (fun _ _ _ _ _ => True) (fun _ U o U' => ∃ v L, o = .returned v ∧ Qpure none h0 n0 v U'.heap L ∧ FrameEnd U o U' L ({ frames := 1, cells := 0, slots := 0, locals := 12 } : Room).cells ({ frames := 1, cells := 0, slots := 0, locals := 12 } : Room).slots) := by
  refine MetFree.of_bodySF (plainFor_of_name pn2) hisR ?_
  intro p e s m args below meth c s₁ Bd hml0 hP hK
  obtain ⟨rfl, hZ, hh⟩ := hP
  have hx := Bd.exec
  have hby := Bd.bytes
  have hml : c.maxLocals = 1 := hml0
  have hown : s.vm.findClass "java/util/AbstractCollection" = some m.cls := findClass_of_methodNamed Bd.named
  have hnm := (name_of_methodNamed Bd.named Bd.method).1
  have X0 : Stand p l e ({ frames := 1, cells := 0, slots := 0, locals := 12 } : Room) s m #[(.ref a1)] below meth c s₁ [] 0 0 := Stand.of_body Bd
  have e0 : s₁.heap = h0 := by rw [← hh, Bd.state]; rfl
  have N0 := Fr.nil n0
  have pre0 : ∀ t, Steps p.tables e below (s₁.setTop (mkF m 0 #[.val (.ref a1)] [])) t → Steps p.tables e below (s₁.setTop (entryFrame m #[(.ref a1)] 1)) t := fun t k => castTop (ef_rmac m a1) k
  obtain ⟨T1, X1, e1, st1⟩ := initO X0 hx hZ hown (hw _ (List.mem_of_getElem? (i := 49) rfl)) (hw _ (List.mem_of_getElem? (i := 22) rfl)) (hw _ (List.mem_of_getElem? (i := 23) rfl)) e0 (g := (mkF m 1 #[.val (.ref a1)] [(.ref a1)])) rfl (by rw [hml]; rfl) rfl (hb hby d9_1) (by decide) (W := 0) (by show 2 * 0 + _ ≤ _; exact Nat.le_of_eq rfl) (by decide)
  obtain ⟨fs, hr, hrun, hended, hW, hsame⟩ := X1.leave (v := none) (fun _ => rfl)
  refine ⟨_, _, pre0 _ ?_, hrun, hended, _, _, rfl, ?_, ⟨_, rfl⟩, hW, hsame.mono (by decide) (by decide)⟩
  · show Steps p.tables e below (s₁.setTop (mkF m 0 #[.val (.ref a1)] [])) _
    refine XS.aloadN X0.here hx rfl (hb hby d9_0) rfl rfl ?_
    show Steps p.tables e below (s₁.setTop (mkF m 1 #[.val (.ref a1)] [(.ref a1)])) _
    refine st1 _ ?_
    show Steps p.tables e below (T1.setTop (mkF m 4 #[.val (.ref a1)] [])) _
    exact X1.returnOut hx Bd.returns (hb hby d9_4) hr
  · show Qpure none h0 n0 _ T1.heap _
    rw [e1]
    exact ⟨rfl, N0, rfl⟩
theorem pn3 : plainName "java/util/AbstractList" = true := by first | (simp [plainName, overriddenIn]; done) | decide +kernel
theorem d8_0 : decode jdk_39_method_1_code 0 = .ok (.aload_n 0, 1) := by decide +kernel
theorem d8_1 : decode jdk_39_method_1_code 1 = .ok (.invokespecial 1, 3) := by decide +kernel
theorem pd3 : parseMethodDescriptor "()V" = some ⟨[], none⟩ := by decide +kernel
theorem d8_4 : decode jdk_39_method_1_code 4 = .ok (.aload_n 0, 1) := by decide +kernel
theorem d8_5 : decode jdk_39_method_1_code 5 = .ok (.iconst 0, 1) := by decide +kernel
theorem d8_6 : decode jdk_39_method_1_code 6 = .ok (.putfield 7, 3) := by decide +kernel
theorem d8_9 : decode jdk_39_method_1_code 9 = .ok (.return_, 1) := by decide +kernel
theorem ef_rmabl (m : MethodId) (x0 : Addr) : entryFrame m #[(.ref x0)] 1 = mkF m 0 #[.val (.ref x0)] [] := by first | (simp [entryFrame, mkF, argsToLocals, Value.category]; done) | rfl
set_option maxRecDepth 65536 in
set_option maxHeartbeats 40000000 in
theorem rmabl (l : Launch) (Z : State) (a0 : Array Value) (hw : ∀ d ∈ tables_1, d.before a0 Z = true) (ws : List Jvm.Cond) (a1 : Addr) (h0 : Heap) (n0 : Nat) (O0 : Old Z n0 h0) (HT : Tl0 Z h0 a1) (F_mod : Fld Z h0 a1 "java/util/AbstractList" "modCount" "I" (.int 0)) (g_a1 : n0 ≤ a1) :
    MetFree l (⟨"java/util/AbstractList", "<init>", "()V"⟩ : MethodName) (head1 (Jvm.Cond.code (⟨"java/util/AbstractList", "<init>", "()V"⟩ : MethodName) jdk_39_method_1_code 1 none :: ws) ({ frames := 2, cells := 0, slots := 0, locals := 24 } : Room)) (fun a U => a = #[(.ref a1)] ∧ Z.Warmed39 U.vm ∧ U.heap = h0) (fun _ _ _ _ _ => True) (fun _ U o U' => ∃ v L, o = .returned v ∧ Qabl Z a1 h0 n0 v U'.heap L ∧ FrameEnd U o U' L ({ frames := 2, cells := 0, slots := 0, locals := 24 } : Room).cells ({ frames := 2, cells := 0, slots := 0, locals := 24 } : Room).slots) := by
  refine MetFree.of_bodySF (plainFor_of_name pn3) hisR ?_
  intro p e s m args below meth c s₁ Bd hml0 hP hK
  obtain ⟨rfl, hZ, hh⟩ := hP
  have hx := Bd.exec
  have hby := Bd.bytes
  have hml : c.maxLocals = 1 := hml0
  have hown : s.vm.findClass "java/util/AbstractList" = some m.cls := findClass_of_methodNamed Bd.named
  have hnm := (name_of_methodNamed Bd.named Bd.method).1
  have X0 : Stand p l e ({ frames := 2, cells := 0, slots := 0, locals := 24 } : Room) s m #[(.ref a1)] below meth c s₁ [] 0 0 := Stand.of_body Bd
  have e0 : s₁.heap = h0 := by rw [← hh, Bd.state]; rfl
  have N0 := Fr.nil n0
  have pre0 : ∀ t, Steps p.tables e below (s₁.setTop (mkF m 0 #[.val (.ref a1)] [])) t → Steps p.tables e below (s₁.setTop (entryFrame m #[(.ref a1)] 1)) t := fun t k => castTop (ef_rmabl m a1) k
  obtain ⟨E_a, F_r, F_p, F_c, F_o, F_w, F_i⟩ := HT
  have lt_a1 := E_a.lt
  obtain ⟨_, _, ⟨T1, L1, k1, n1⟩, -, X1, ⟨Lc1, hQ1, l1, y1, z1⟩, st1⟩ := X0.specialBack hx (y := (⟨"java/util/AbstractCollection", "<init>", "()V"⟩ : MethodName)) rfl hown (mvT hZ (hw _ (List.mem_of_getElem? (i := 43) rfl))) (mvT hZ (hw _ (List.mem_of_getElem? (i := 44) rfl))) (mvT hZ (hw _ (List.mem_of_getElem? (i := 48) rfl))) (by decide) (backOf (W := 0) (rmac l Z a0 hw [] a1 h0 n0 O0) hZ (hw _ (List.mem_of_getElem? (i := 48) rfl)) (hw _ (List.mem_of_getElem? (i := 47) rfl)) (by decide) (by decide)) (g := (mkF m 1 #[.val (.ref a1)] [(.ref a1)])) rfl (by rw [hml]; rfl) (Steps.refl _) (a := a1) (argsL := []) (rest := []) (lenOf pd3 rfl) rfl (by show 2 * 0 + _ ≤ _; exact Nat.le_of_eq rfl) (hb hby d8_1) (fun _ _ => ⟨rfl, e0, (by decide : 0 + 0 ≤ _), (by decide : 0 + 0 ≤ _)⟩)
  dsimp only [Pt.U, Pt.locs, Pt.cells, Pt.slots] at X1 l1 y1 z1 st1 hQ1
  subst l1 y1 z1
  obtain ⟨rfl, Nq1, e1⟩ := hQ1
  have N1 := Fr.app N0 Nq1
  obtain ⟨T2, h2, X2, e2, W2, st2⟩ := putF X1 hx hZ hown (host := "") (Or.inl (hw _ (List.mem_of_getElem? (i := 50) rfl))) Via.refl e1 F_mod E_a (Or.inl (hw _ (List.mem_of_getElem? (i := 51) rfl))) (hw _ (List.mem_of_getElem? (i := 29) rfl)) (ty := .int) (by decide) rfl rfl (g := (mkF m 6 #[.val (.ref a1)] [(.int 0), (.ref a1)])) rfl rfl (hb hby d8_6)
  have Fw2 := F_mod.same W2
  have O3 := O0.wr W2 g_a1
  have kp4 : Keep h0 h2 [a1] := (Keep.refl h0 [a1]).wr W2 (Or.inl (List.mem_of_getElem? (i := 0) rfl))
  have N2 := Fr.snoc X2 N1 g_a1
  obtain ⟨fs, hr, hrun, hended, hW, hsame⟩ := X2.leave (v := none) (fun _ => rfl)
  refine ⟨_, _, pre0 _ ?_, hrun, hended, _, _, rfl, ?_, ⟨_, rfl⟩, hW, hsame.mono (by decide) (by decide)⟩
  · show Steps p.tables e below (s₁.setTop (mkF m 0 #[.val (.ref a1)] [])) _
    refine XS.aloadN X0.here hx rfl (hb hby d8_0) rfl rfl ?_
    show Steps p.tables e below (s₁.setTop (mkF m 1 #[.val (.ref a1)] [(.ref a1)])) _
    refine st1.trans ?_
    show Steps p.tables e below (T1.setTop (mkF m 4 #[.val (.ref a1)] [])) _
    refine XS.aloadN X1.here hx rfl (hb hby d8_4) rfl rfl ?_
    refine XS.iconst X1.here hx rfl (hb hby d8_5) ?_
    show Steps p.tables e below (T1.setTop (mkF m 6 #[.val (.ref a1)] [(.int 0), (.ref a1)])) _
    refine st2 _ ?_
    show Steps p.tables e below (T2.setTop (mkF m 9 #[.val (.ref a1)] [])) _
    exact X2.returnOut hx Bd.returns (hb hby d8_9) hr
  · show Qabl Z a1 h0 n0 _ T2.heap _
    rw [e2]
    exact ⟨rfl, N2, kp4, ⟨(E_a.wr W2), (F_r.other W2 (Or.inr (slot_ne (Or.inr (hw _ (List.mem_of_getElem? (i := 53) rfl))) (Or.inl (hw _ (List.mem_of_getElem? (i := 51) rfl))) (by decide) (t := (.array (.object "java/lang/String"))) (t' := .int) (by decide) (by decide)))), (F_p.other W2 (Or.inr (slot_ne (Or.inr (hw _ (List.mem_of_getElem? (i := 55) rfl))) (Or.inl (hw _ (List.mem_of_getElem? (i := 51) rfl))) (by decide) (t := (.array .int)) (t' := .int) (by decide) (by decide)))), (F_c.other W2 (Or.inr (slot_ne (Or.inr (hw _ (List.mem_of_getElem? (i := 57) rfl))) (Or.inl (hw _ (List.mem_of_getElem? (i := 51) rfl))) (by decide) (t := .int) (t' := .int) (by decide) (by decide)))), (F_o.other W2 (Or.inr (slot_ne (Or.inr (hw _ (List.mem_of_getElem? (i := 59) rfl))) (Or.inl (hw _ (List.mem_of_getElem? (i := 51) rfl))) (by decide) (t := .int) (t' := .int) (by decide) (by decide)))), (F_w.other W2 (Or.inr (slot_ne (Or.inr (hw _ (List.mem_of_getElem? (i := 61) rfl))) (Or.inl (hw _ (List.mem_of_getElem? (i := 51) rfl))) (by decide) (t := (.array .int)) (t' := .int) (by decide) (by decide)))), (F_i.other W2 (Or.inr (slot_ne (Or.inl (hw _ (List.mem_of_getElem? (i := 68) rfl))) (Or.inl (hw _ (List.mem_of_getElem? (i := 51) rfl))) (by decide) (t := (.object "com/example/rivet_context/rivetcontext/factory/TypeListing")) (t' := .int) (by decide) (by decide))))⟩⟩
theorem pn4 : plainName "com/example/rivet_context/rivetcontext/factory/TypeListing" = true := by first | (simp [plainName, overriddenIn]; done) | decide +kernel
theorem d7_0 : decode prog_105_method_2_code 0 = .ok (.aload_n 0, 1) := by decide +kernel
theorem d7_1 : decode prog_105_method_2_code 1 = .ok (.invokespecial 7, 3) := by decide +kernel
theorem d7_4 : decode prog_105_method_2_code 4 = .ok (.aload_n 0, 1) := by decide +kernel
theorem d7_5 : decode prog_105_method_2_code 5 = .ok (.aload_n 1, 1) := by decide +kernel
theorem d7_6 : decode prog_105_method_2_code 6 = .ok (.putfield 12, 3) := by decide +kernel
theorem d7_9 : decode prog_105_method_2_code 9 = .ok (.aload_n 0, 1) := by decide +kernel
theorem d7_10 : decode prog_105_method_2_code 10 = .ok (.aload_n 2, 1) := by decide +kernel
theorem d7_11 : decode prog_105_method_2_code 11 = .ok (.putfield 16, 3) := by decide +kernel
theorem d7_14 : decode prog_105_method_2_code 14 = .ok (.aload_n 0, 1) := by decide +kernel
theorem d7_15 : decode prog_105_method_2_code 15 = .ok (.iload_n 3, 1) := by decide +kernel
theorem d7_16 : decode prog_105_method_2_code 16 = .ok (.putfield 20, 3) := by decide +kernel
theorem d7_19 : decode prog_105_method_2_code 19 = .ok (.aload_n 0, 1) := by decide +kernel
theorem d7_20 : decode prog_105_method_2_code 20 = .ok (.iload 4, 2) := by decide +kernel
theorem d7_22 : decode prog_105_method_2_code 22 = .ok (.putfield 24, 3) := by decide +kernel
theorem d7_25 : decode prog_105_method_2_code 25 = .ok (.aload_n 0, 1) := by decide +kernel
theorem d7_26 : decode prog_105_method_2_code 26 = .ok (.aload 5, 2) := by decide +kernel
theorem d7_28 : decode prog_105_method_2_code 28 = .ok (.putfield 27, 3) := by decide +kernel
theorem d7_31 : decode prog_105_method_2_code 31 = .ok (.return_, 1) := by decide +kernel
theorem ef_rmi5 (m : MethodId) (x0 : Addr) (x1 : Addr) (x2 : Addr) (x3 : Int32) (x4 : Int32) (x5 : Addr) : entryFrame m #[(.ref x0), (.ref x1), (.ref x2), (.int x3), (.int x4), (.ref x5)] 6 = mkF m 0 #[.val (.ref x0), .val (.ref x1), .val (.ref x2), .val (.int x3), .val (.int x4), .val (.ref x5)] [] := by first | (simp [entryFrame, mkF, argsToLocals, Value.category]; done) | rfl
set_option maxRecDepth 65536 in
set_option maxHeartbeats 40000000 in
theorem rmi5 (l : Launch) (Z : State) (a0 : Array Value) (hw : ∀ d ∈ tables_1, d.before a0 Z = true) (ws : List Jvm.Cond) (a1 : Addr) (r : Addr) (P : Addr) (p1 : Int32) (p2 : Int32) (Wa : Addr) (h0 : Heap) (n0 : Nat) (O0 : Old Z n0 h0) (HT : Tl0 Z h0 a1) (F_mod : Fld Z h0 a1 "java/util/AbstractList" "modCount" "I" (.int 0)) (g_a1 : n0 ≤ a1) :
    MetFree l (⟨"com/example/rivet_context/rivetcontext/factory/TypeListing", "<init>", "([Ljava/lang/String;[III[I)V"⟩ : MethodName) (head1 (Jvm.Cond.code (⟨"com/example/rivet_context/rivetcontext/factory/TypeListing", "<init>", "([Ljava/lang/String;[III[I)V"⟩ : MethodName) prog_105_method_2_code 6 none :: ws) ({ frames := 3, cells := 0, slots := 0, locals := 36 } : Room)) (fun a U => a = #[(.ref a1), (.ref r), (.ref P), (.int p1), (.int p2), (.ref Wa)] ∧ Z.Warmed39 U.vm ∧ U.heap = h0) (fun _ _ _ _ _ => True) (fun _ U o U' => ∃ v L, o = .returned v ∧ Qi5 Z a1 r P p1 p2 Wa h0 n0 v U'.heap L ∧ FrameEnd U o U' L ({ frames := 3, cells := 0, slots := 0, locals := 36 } : Room).cells ({ frames := 3, cells := 0, slots := 0, locals := 36 } : Room).slots) := by
  refine MetFree.of_bodySF (plainFor_of_name pn4) hisR ?_
  intro p e s m args below meth c s₁ Bd hml0 hP hK
  obtain ⟨rfl, hZ, hh⟩ := hP
  have hx := Bd.exec
  have hby := Bd.bytes
  have hml : c.maxLocals = 6 := hml0
  have hown : s.vm.findClass "com/example/rivet_context/rivetcontext/factory/TypeListing" = some m.cls := findClass_of_methodNamed Bd.named
  have hnm := (name_of_methodNamed Bd.named Bd.method).1
  have X0 : Stand p l e ({ frames := 3, cells := 0, slots := 0, locals := 36 } : Room) s m #[(.ref a1), (.ref r), (.ref P), (.int p1), (.int p2), (.ref Wa)] below meth c s₁ [] 0 0 := Stand.of_body Bd
  have e0 : s₁.heap = h0 := by rw [← hh, Bd.state]; rfl
  have N0 := Fr.nil n0
  have pre0 : ∀ t, Steps p.tables e below (s₁.setTop (mkF m 0 #[.val (.ref a1), .val (.ref r), .val (.ref P), .val (.int p1), .val (.int p2), .val (.ref Wa)] [])) t → Steps p.tables e below (s₁.setTop (entryFrame m #[(.ref a1), (.ref r), (.ref P), (.int p1), (.int p2), (.ref Wa)] 6)) t := fun t k => castTop (ef_rmi5 m a1 r P p1 p2 Wa) k
  have HT' := HT
  obtain ⟨E_a, F_r, F_p, F_c, F_o, F_w, F_i⟩ := HT
  have lt_a1 := E_a.lt
  have HT := HT'
  obtain ⟨_, _, ⟨T1, L1, k1, n1⟩, -, X1, ⟨Lc1, hQ1, l1, y1, z1⟩, st1⟩ := X0.specialBack hx (y := (⟨"java/util/AbstractList", "<init>", "()V"⟩ : MethodName)) rfl hown (mvT hZ (hw _ (List.mem_of_getElem? (i := 38) rfl))) (mvT hZ (hw _ (List.mem_of_getElem? (i := 39) rfl))) (mvT hZ (hw _ (List.mem_of_getElem? (i := 42) rfl))) (by decide) (backOf (W := 0) (rmabl l Z a0 hw [] a1 h0 n0 O0 HT F_mod g_a1) hZ (hw _ (List.mem_of_getElem? (i := 42) rfl)) (hw _ (List.mem_of_getElem? (i := 41) rfl)) (by decide) (by decide)) (g := (mkF m 1 #[.val (.ref a1), .val (.ref r), .val (.ref P), .val (.int p1), .val (.int p2), .val (.ref Wa)] [(.ref a1)])) rfl (by rw [hml]; rfl) (Steps.refl _) (a := a1) (argsL := []) (rest := []) (lenOf pd3 rfl) rfl (by show 2 * 0 + _ ≤ _; exact Nat.le_of_eq rfl) (hb hby d7_1) (fun _ _ => ⟨rfl, e0, (by decide : 0 + 0 ≤ _), (by decide : 0 + 0 ≤ _)⟩)
  dsimp only [Pt.U, Pt.locs, Pt.cells, Pt.slots] at X1 l1 y1 z1 st1 hQ1
  subst l1 y1 z1
  obtain ⟨h1, e1⟩ : ∃ z, T1.heap = z := ⟨_, rfl⟩
  rw [e1] at hQ1
  obtain ⟨rfl, Nq1, K1, HT1⟩ := hQ1
  have N1 := Fr.app N0 Nq1
  have O2 := O0.keep K1 (allS g_a1 all0)
  have kp3 : Keep h0 h1 [a1] := (Keep.refl h0 [a1]).trans K1 (allS (Or.inl (List.mem_of_getElem? (i := 0) rfl)) all0)
  obtain ⟨Ea1, Fr1, Fp1, Fc1, Fo1, Fw1, Fi1⟩ := HT1
  obtain ⟨T4, h4, X4, e4, W4, st4⟩ := putF X1 hx hZ hown (host := "") (Or.inl (hw _ (List.mem_of_getElem? (i := 52) rfl))) Via.refl e1 Fr1 Ea1 (Or.inr ⟨(hw _ (List.mem_of_getElem? (i := 53) rfl)), rfl, hnm⟩) (hw _ (List.mem_of_getElem? (i := 29) rfl)) (ty := (.array (.object "java/lang/String"))) (by decide) rfl rfl (g := (mkF m 6 #[.val (.ref a1), .val (.ref r), .val (.ref P), .val (.int p1), .val (.int p2), .val (.ref Wa)] [(.ref r), (.ref a1)])) rfl rfl (hb hby d7_6)
  have Fw4 := Fr1.same W4
  have O5 := O2.wr W4 g_a1
  have kp6 : Keep h0 h4 [a1] := kp3.wr W4 (Or.inl (List.mem_of_getElem? (i := 0) rfl))
  have N4 := Fr.snoc X4 N1 g_a1
  obtain ⟨T7, h7, X7, e7, W7, st7⟩ := putF X4 hx hZ hown (host := "") (Or.inl (hw _ (List.mem_of_getElem? (i := 54) rfl))) Via.refl e4 (Fp1.other W4 (Or.inr (slot_ne (Or.inr (hw _ (List.mem_of_getElem? (i := 55) rfl))) (Or.inr (hw _ (List.mem_of_getElem? (i := 53) rfl))) (by decide) (t := (.array .int)) (t' := (.array (.object "java/lang/String"))) (by decide) (by decide)))) (Ea1.wr W4) (Or.inr ⟨(hw _ (List.mem_of_getElem? (i := 55) rfl)), rfl, hnm⟩) (hw _ (List.mem_of_getElem? (i := 29) rfl)) (ty := (.array .int)) (by decide) rfl rfl (g := (mkF m 11 #[.val (.ref a1), .val (.ref r), .val (.ref P), .val (.int p1), .val (.int p2), .val (.ref Wa)] [(.ref P), (.ref a1)])) rfl rfl (hb hby d7_11)
  have Fw7 := (Fp1.other W4 (Or.inr (slot_ne (Or.inr (hw _ (List.mem_of_getElem? (i := 55) rfl))) (Or.inr (hw _ (List.mem_of_getElem? (i := 53) rfl))) (by decide) (t := (.array .int)) (t' := (.array (.object "java/lang/String"))) (by decide) (by decide)))).same W7
  have O8 := O5.wr W7 g_a1
  have kp9 : Keep h0 h7 [a1] := kp6.wr W7 (Or.inl (List.mem_of_getElem? (i := 0) rfl))
  have N7 := Fr.snoc X7 N4 g_a1
  obtain ⟨T10, h10, X10, e10, W10, st10⟩ := putF X7 hx hZ hown (host := "") (Or.inl (hw _ (List.mem_of_getElem? (i := 56) rfl))) Via.refl e7 ((Fc1.other W4 (Or.inr (slot_ne (Or.inr (hw _ (List.mem_of_getElem? (i := 57) rfl))) (Or.inr (hw _ (List.mem_of_getElem? (i := 53) rfl))) (by decide) (t := .int) (t' := (.array (.object "java/lang/String"))) (by decide) (by decide)))).other W7 (Or.inr (slot_ne (Or.inr (hw _ (List.mem_of_getElem? (i := 57) rfl))) (Or.inr (hw _ (List.mem_of_getElem? (i := 55) rfl))) (by decide) (t := .int) (t' := (.array .int)) (by decide) (by decide)))) ((Ea1.wr W4).wr W7) (Or.inr ⟨(hw _ (List.mem_of_getElem? (i := 57) rfl)), rfl, hnm⟩) (hw _ (List.mem_of_getElem? (i := 29) rfl)) (ty := .int) (by decide) rfl rfl (g := (mkF m 16 #[.val (.ref a1), .val (.ref r), .val (.ref P), .val (.int p1), .val (.int p2), .val (.ref Wa)] [(.int p1), (.ref a1)])) rfl rfl (hb hby d7_16)
  have Fw10 := ((Fc1.other W4 (Or.inr (slot_ne (Or.inr (hw _ (List.mem_of_getElem? (i := 57) rfl))) (Or.inr (hw _ (List.mem_of_getElem? (i := 53) rfl))) (by decide) (t := .int) (t' := (.array (.object "java/lang/String"))) (by decide) (by decide)))).other W7 (Or.inr (slot_ne (Or.inr (hw _ (List.mem_of_getElem? (i := 57) rfl))) (Or.inr (hw _ (List.mem_of_getElem? (i := 55) rfl))) (by decide) (t := .int) (t' := (.array .int)) (by decide) (by decide)))).same W10
  have O11 := O8.wr W10 g_a1
  have kp12 : Keep h0 h10 [a1] := kp9.wr W10 (Or.inl (List.mem_of_getElem? (i := 0) rfl))
  have N10 := Fr.snoc X10 N7 g_a1
  obtain ⟨T13, h13, X13, e13, W13, st13⟩ := putF X10 hx hZ hown (host := "") (Or.inl (hw _ (List.mem_of_getElem? (i := 58) rfl))) Via.refl e10 (((Fo1.other W4 (Or.inr (slot_ne (Or.inr (hw _ (List.mem_of_getElem? (i := 59) rfl))) (Or.inr (hw _ (List.mem_of_getElem? (i := 53) rfl))) (by decide) (t := .int) (t' := (.array (.object "java/lang/String"))) (by decide) (by decide)))).other W7 (Or.inr (slot_ne (Or.inr (hw _ (List.mem_of_getElem? (i := 59) rfl))) (Or.inr (hw _ (List.mem_of_getElem? (i := 55) rfl))) (by decide) (t := .int) (t' := (.array .int)) (by decide) (by decide)))).other W10 (Or.inr (slot_ne (Or.inr (hw _ (List.mem_of_getElem? (i := 59) rfl))) (Or.inr (hw _ (List.mem_of_getElem? (i := 57) rfl))) (by decide) (t := .int) (t' := .int) (by decide) (by decide)))) (((Ea1.wr W4).wr W7).wr W10) (Or.inr ⟨(hw _ (List.mem_of_getElem? (i := 59) rfl)), rfl, hnm⟩) (hw _ (List.mem_of_getElem? (i := 29) rfl)) (ty := .int) (by decide) rfl rfl (g := (mkF m 22 #[.val (.ref a1), .val (.ref r), .val (.ref P), .val (.int p1), .val (.int p2), .val (.ref Wa)] [(.int p2), (.ref a1)])) rfl rfl (hb hby d7_22)
  have Fw13 := (((Fo1.other W4 (Or.inr (slot_ne (Or.inr (hw _ (List.mem_of_getElem? (i := 59) rfl))) (Or.inr (hw _ (List.mem_of_getElem? (i := 53) rfl))) (by decide) (t := .int) (t' := (.array (.object "java/lang/String"))) (by decide) (by decide)))).other W7 (Or.inr (slot_ne (Or.inr (hw _ (List.mem_of_getElem? (i := 59) rfl))) (Or.inr (hw _ (List.mem_of_getElem? (i := 55) rfl))) (by decide) (t := .int) (t' := (.array .int)) (by decide) (by decide)))).other W10 (Or.inr (slot_ne (Or.inr (hw _ (List.mem_of_getElem? (i := 59) rfl))) (Or.inr (hw _ (List.mem_of_getElem? (i := 57) rfl))) (by decide) (t := .int) (t' := .int) (by decide) (by decide)))).same W13
  have O14 := O11.wr W13 g_a1
  have kp15 : Keep h0 h13 [a1] := kp12.wr W13 (Or.inl (List.mem_of_getElem? (i := 0) rfl))
  have N13 := Fr.snoc X13 N10 g_a1
  obtain ⟨T16, h16, X16, e16, W16, st16⟩ := putF X13 hx hZ hown (host := "") (Or.inl (hw _ (List.mem_of_getElem? (i := 60) rfl))) Via.refl e13 ((((Fw1.other W4 (Or.inr (slot_ne (Or.inr (hw _ (List.mem_of_getElem? (i := 61) rfl))) (Or.inr (hw _ (List.mem_of_getElem? (i := 53) rfl))) (by decide) (t := (.array .int)) (t' := (.array (.object "java/lang/String"))) (by decide) (by decide)))).other W7 (Or.inr (slot_ne (Or.inr (hw _ (List.mem_of_getElem? (i := 61) rfl))) (Or.inr (hw _ (List.mem_of_getElem? (i := 55) rfl))) (by decide) (t := (.array .int)) (t' := (.array .int)) (by decide) (by decide)))).other W10 (Or.inr (slot_ne (Or.inr (hw _ (List.mem_of_getElem? (i := 61) rfl))) (Or.inr (hw _ (List.mem_of_getElem? (i := 57) rfl))) (by decide) (t := (.array .int)) (t' := .int) (by decide) (by decide)))).other W13 (Or.inr (slot_ne (Or.inr (hw _ (List.mem_of_getElem? (i := 61) rfl))) (Or.inr (hw _ (List.mem_of_getElem? (i := 59) rfl))) (by decide) (t := (.array .int)) (t' := .int) (by decide) (by decide)))) ((((Ea1.wr W4).wr W7).wr W10).wr W13) (Or.inr ⟨(hw _ (List.mem_of_getElem? (i := 61) rfl)), rfl, hnm⟩) (hw _ (List.mem_of_getElem? (i := 29) rfl)) (ty := (.array .int)) (by decide) rfl rfl (g := (mkF m 28 #[.val (.ref a1), .val (.ref r), .val (.ref P), .val (.int p1), .val (.int p2), .val (.ref Wa)] [(.ref Wa), (.ref a1)])) rfl rfl (hb hby d7_28)
  have Fw16 := ((((Fw1.other W4 (Or.inr (slot_ne (Or.inr (hw _ (List.mem_of_getElem? (i := 61) rfl))) (Or.inr (hw _ (List.mem_of_getElem? (i := 53) rfl))) (by decide) (t := (.array .int)) (t' := (.array (.object "java/lang/String"))) (by decide) (by decide)))).other W7 (Or.inr (slot_ne (Or.inr (hw _ (List.mem_of_getElem? (i := 61) rfl))) (Or.inr (hw _ (List.mem_of_getElem? (i := 55) rfl))) (by decide) (t := (.array .int)) (t' := (.array .int)) (by decide) (by decide)))).other W10 (Or.inr (slot_ne (Or.inr (hw _ (List.mem_of_getElem? (i := 61) rfl))) (Or.inr (hw _ (List.mem_of_getElem? (i := 57) rfl))) (by decide) (t := (.array .int)) (t' := .int) (by decide) (by decide)))).other W13 (Or.inr (slot_ne (Or.inr (hw _ (List.mem_of_getElem? (i := 61) rfl))) (Or.inr (hw _ (List.mem_of_getElem? (i := 59) rfl))) (by decide) (t := (.array .int)) (t' := .int) (by decide) (by decide)))).same W16
  have O17 := O14.wr W16 g_a1
  have kp18 : Keep h0 h16 [a1] := kp15.wr W16 (Or.inl (List.mem_of_getElem? (i := 0) rfl))
  have N16 := Fr.snoc X16 N13 g_a1
  obtain ⟨fs, hr, hrun, hended, hW, hsame⟩ := X16.leave (v := none) (fun _ => rfl)
  refine ⟨_, _, pre0 _ ?_, hrun, hended, _, _, rfl, ?_, ⟨_, rfl⟩, hW, hsame.mono (by decide) (by decide)⟩
  · show Steps p.tables e below (s₁.setTop (mkF m 0 #[.val (.ref a1), .val (.ref r), .val (.ref P), .val (.int p1), .val (.int p2), .val (.ref Wa)] [])) _
    refine XS.aloadN X0.here hx rfl (hb hby d7_0) rfl rfl ?_
    show Steps p.tables e below (s₁.setTop (mkF m 1 #[.val (.ref a1), .val (.ref r), .val (.ref P), .val (.int p1), .val (.int p2), .val (.ref Wa)] [(.ref a1)])) _
    refine st1.trans ?_
    show Steps p.tables e below (T1.setTop (mkF m 4 #[.val (.ref a1), .val (.ref r), .val (.ref P), .val (.int p1), .val (.int p2), .val (.ref Wa)] [])) _
    refine XS.aloadN X1.here hx rfl (hb hby d7_4) rfl rfl ?_
    refine XS.aloadN X1.here hx rfl (hb hby d7_5) rfl rfl ?_
    show Steps p.tables e below (T1.setTop (mkF m 6 #[.val (.ref a1), .val (.ref r), .val (.ref P), .val (.int p1), .val (.int p2), .val (.ref Wa)] [(.ref r), (.ref a1)])) _
    refine st4 _ ?_
    show Steps p.tables e below (T4.setTop (mkF m 9 #[.val (.ref a1), .val (.ref r), .val (.ref P), .val (.int p1), .val (.int p2), .val (.ref Wa)] [])) _
    refine XS.aloadN X4.here hx rfl (hb hby d7_9) rfl rfl ?_
    refine XS.aloadN X4.here hx rfl (hb hby d7_10) rfl rfl ?_
    show Steps p.tables e below (T4.setTop (mkF m 11 #[.val (.ref a1), .val (.ref r), .val (.ref P), .val (.int p1), .val (.int p2), .val (.ref Wa)] [(.ref P), (.ref a1)])) _
    refine st7 _ ?_
    show Steps p.tables e below (T7.setTop (mkF m 14 #[.val (.ref a1), .val (.ref r), .val (.ref P), .val (.int p1), .val (.int p2), .val (.ref Wa)] [])) _
    refine XS.aloadN X7.here hx rfl (hb hby d7_14) rfl rfl ?_
    refine XS.iloadN X7.here hx rfl (hb hby d7_15) rfl ?_
    show Steps p.tables e below (T7.setTop (mkF m 16 #[.val (.ref a1), .val (.ref r), .val (.ref P), .val (.int p1), .val (.int p2), .val (.ref Wa)] [(.int p1), (.ref a1)])) _
    refine st10 _ ?_
    show Steps p.tables e below (T10.setTop (mkF m 19 #[.val (.ref a1), .val (.ref r), .val (.ref P), .val (.int p1), .val (.int p2), .val (.ref Wa)] [])) _
    refine XS.aloadN X10.here hx rfl (hb hby d7_19) rfl rfl ?_
    refine XS.iload X10.here hx rfl (hb hby d7_20) rfl ?_
    show Steps p.tables e below (T10.setTop (mkF m 22 #[.val (.ref a1), .val (.ref r), .val (.ref P), .val (.int p1), .val (.int p2), .val (.ref Wa)] [(.int p2), (.ref a1)])) _
    refine st13 _ ?_
    show Steps p.tables e below (T13.setTop (mkF m 25 #[.val (.ref a1), .val (.ref r), .val (.ref P), .val (.int p1), .val (.int p2), .val (.ref Wa)] [])) _
    refine XS.aloadN X13.here hx rfl (hb hby d7_25) rfl rfl ?_
    refine XS.aload X13.here hx rfl (hb hby d7_26) rfl rfl ?_
    show Steps p.tables e below (T13.setTop (mkF m 28 #[.val (.ref a1), .val (.ref r), .val (.ref P), .val (.int p1), .val (.int p2), .val (.ref Wa)] [(.ref Wa), (.ref a1)])) _
    refine st16 _ ?_
    show Steps p.tables e below (T16.setTop (mkF m 31 #[.val (.ref a1), .val (.ref r), .val (.ref P), .val (.int p1), .val (.int p2), .val (.ref Wa)] [])) _
    exact X16.returnOut hx Bd.returns (hb hby d7_31) hr
  · show Qi5 Z a1 r P p1 p2 Wa h0 n0 _ T16.heap _
    rw [e16]
    exact ⟨rfl, N16, kp18, ⟨(((((Ea1.wr W4).wr W7).wr W10).wr W13).wr W16), ((((Fw4.other W7 (Or.inr (slot_ne (Or.inr (hw _ (List.mem_of_getElem? (i := 53) rfl))) (Or.inr (hw _ (List.mem_of_getElem? (i := 55) rfl))) (by decide) (t := (.array (.object "java/lang/String"))) (t' := (.array .int)) (by decide) (by decide)))).other W10 (Or.inr (slot_ne (Or.inr (hw _ (List.mem_of_getElem? (i := 53) rfl))) (Or.inr (hw _ (List.mem_of_getElem? (i := 57) rfl))) (by decide) (t := (.array (.object "java/lang/String"))) (t' := .int) (by decide) (by decide)))).other W13 (Or.inr (slot_ne (Or.inr (hw _ (List.mem_of_getElem? (i := 53) rfl))) (Or.inr (hw _ (List.mem_of_getElem? (i := 59) rfl))) (by decide) (t := (.array (.object "java/lang/String"))) (t' := .int) (by decide) (by decide)))).other W16 (Or.inr (slot_ne (Or.inr (hw _ (List.mem_of_getElem? (i := 53) rfl))) (Or.inr (hw _ (List.mem_of_getElem? (i := 61) rfl))) (by decide) (t := (.array (.object "java/lang/String"))) (t' := (.array .int)) (by decide) (by decide)))), (((Fw7.other W10 (Or.inr (slot_ne (Or.inr (hw _ (List.mem_of_getElem? (i := 55) rfl))) (Or.inr (hw _ (List.mem_of_getElem? (i := 57) rfl))) (by decide) (t := (.array .int)) (t' := .int) (by decide) (by decide)))).other W13 (Or.inr (slot_ne (Or.inr (hw _ (List.mem_of_getElem? (i := 55) rfl))) (Or.inr (hw _ (List.mem_of_getElem? (i := 59) rfl))) (by decide) (t := (.array .int)) (t' := .int) (by decide) (by decide)))).other W16 (Or.inr (slot_ne (Or.inr (hw _ (List.mem_of_getElem? (i := 55) rfl))) (Or.inr (hw _ (List.mem_of_getElem? (i := 61) rfl))) (by decide) (t := (.array .int)) (t' := (.array .int)) (by decide) (by decide)))), ((Fw10.other W13 (Or.inr (slot_ne (Or.inr (hw _ (List.mem_of_getElem? (i := 57) rfl))) (Or.inr (hw _ (List.mem_of_getElem? (i := 59) rfl))) (by decide) (t := .int) (t' := .int) (by decide) (by decide)))).other W16 (Or.inr (slot_ne (Or.inr (hw _ (List.mem_of_getElem? (i := 57) rfl))) (Or.inr (hw _ (List.mem_of_getElem? (i := 61) rfl))) (by decide) (t := .int) (t' := (.array .int)) (by decide) (by decide)))), (Fw13.other W16 (Or.inr (slot_ne (Or.inr (hw _ (List.mem_of_getElem? (i := 59) rfl))) (Or.inr (hw _ (List.mem_of_getElem? (i := 61) rfl))) (by decide) (t := .int) (t' := (.array .int)) (by decide) (by decide)))), Fw16, (((((Fi1.other W4 (Or.inr (slot_ne (Or.inl (hw _ (List.mem_of_getElem? (i := 68) rfl))) (Or.inr (hw _ (List.mem_of_getElem? (i := 53) rfl))) (by decide) (t := (.object "com/example/rivet_context/rivetcontext/factory/TypeListing")) (t' := (.array (.object "java/lang/String"))) (by decide) (by decide)))).other W7 (Or.inr (slot_ne (Or.inl (hw _ (List.mem_of_getElem? (i := 68) rfl))) (Or.inr (hw _ (List.mem_of_getElem? (i := 55) rfl))) (by decide) (t := (.object "com/example/rivet_context/rivetcontext/factory/TypeListing")) (t' := (.array .int)) (by decide) (by decide)))).other W10 (Or.inr (slot_ne (Or.inl (hw _ (List.mem_of_getElem? (i := 68) rfl))) (Or.inr (hw _ (List.mem_of_getElem? (i := 57) rfl))) (by decide) (t := (.object "com/example/rivet_context/rivetcontext/factory/TypeListing")) (t' := .int) (by decide) (by decide)))).other W13 (Or.inr (slot_ne (Or.inl (hw _ (List.mem_of_getElem? (i := 68) rfl))) (Or.inr (hw _ (List.mem_of_getElem? (i := 59) rfl))) (by decide) (t := (.object "com/example/rivet_context/rivetcontext/factory/TypeListing")) (t' := .int) (by decide) (by decide)))).other W16 (Or.inr (slot_ne (Or.inl (hw _ (List.mem_of_getElem? (i := 68) rfl))) (Or.inr (hw _ (List.mem_of_getElem? (i := 61) rfl))) (by decide) (t := (.object "com/example/rivet_context/rivetcontext/factory/TypeListing")) (t' := (.array .int)) (by decide) (by decide))))⟩⟩
theorem d6_0 : decode prog_105_method_1_code 0 = .ok (.aload_n 0, 1) := by decide +kernel
theorem d6_1 : decode prog_105_method_1_code 1 = .ok (.aload_n 1, 1) := by decide +kernel
theorem d6_2 : decode prog_105_method_1_code 2 = .ok (.iconst 1, 1) := by decide +kernel
theorem d6_3 : decode prog_105_method_1_code 3 = .ok (.newarray .int, 2) := by decide +kernel
theorem d6_5 : decode prog_105_method_1_code 5 = .ok (.dup, 1) := by decide +kernel
theorem d6_6 : decode prog_105_method_1_code 6 = .ok (.iconst 0, 1) := by decide +kernel
theorem d6_7 : decode prog_105_method_1_code 7 = .ok (.iload_n 2, 1) := by decide +kernel
theorem d6_8 : decode prog_105_method_1_code 8 = .ok (.iastore, 1) := by decide +kernel
theorem d6_9 : decode prog_105_method_1_code 9 = .ok (.iconst 1, 1) := by decide +kernel
theorem d6_10 : decode prog_105_method_1_code 10 = .ok (.iconst 1, 1) := by decide +kernel
theorem d6_11 : decode prog_105_method_1_code 11 = .ok (.iconst 1, 1) := by decide +kernel
theorem d6_12 : decode prog_105_method_1_code 12 = .ok (.newarray .int, 2) := by decide +kernel
theorem d6_14 : decode prog_105_method_1_code 14 = .ok (.dup, 1) := by decide +kernel
theorem d6_15 : decode prog_105_method_1_code 15 = .ok (.iconst 0, 1) := by decide +kernel
theorem d6_16 : decode prog_105_method_1_code 16 = .ok (.iconst 1, 1) := by decide +kernel
theorem d6_17 : decode prog_105_method_1_code 17 = .ok (.iastore, 1) := by decide +kernel
theorem d6_18 : decode prog_105_method_1_code 18 = .ok (.invokespecial 1, 3) := by decide +kernel
theorem pd4 : parseMethodDescriptor "([Ljava/lang/String;[III[I)V" = some ⟨[(.array (.object "java/lang/String")), (.array .int), .int, .int, (.array .int)], none⟩ := by decide +kernel
theorem d6_21 : decode prog_105_method_1_code 21 = .ok (.return_, 1) := by decide +kernel
theorem ef_rmi2 (m : MethodId) (x0 : Addr) (x1 : Addr) (x2 : Int32) : entryFrame m #[(.ref x0), (.ref x1), (.int x2)] 3 = mkF m 0 #[.val (.ref x0), .val (.ref x1), .val (.int x2)] [] := by first | (simp [entryFrame, mkF, argsToLocals, Value.category]; done) | rfl
set_option maxRecDepth 65536 in
set_option maxHeartbeats 40000000 in
theorem rmi2 (l : Launch) (Z : State) (a0 : Array Value) (hw : ∀ d ∈ tables_1, d.before a0 Z = true) (ws : List Jvm.Cond) (a1 : Addr) (r : Addr) (p1 : Int32) (h0 : Heap) (n0 : Nat) (O0 : Old Z n0 h0) (HT : Tl0 Z h0 a1) (F_mod : Fld Z h0 a1 "java/util/AbstractList" "modCount" "I" (.int 0)) (g_a1 : n0 ≤ a1) (lt_r : r < h0.size) :
    MetFree l (⟨"com/example/rivet_context/rivetcontext/factory/TypeListing", "<init>", "([Ljava/lang/String;I)V"⟩ : MethodName) (head1 (Jvm.Cond.code (⟨"com/example/rivet_context/rivetcontext/factory/TypeListing", "<init>", "([Ljava/lang/String;I)V"⟩ : MethodName) prog_105_method_1_code 3 none :: ws) ({ frames := 4, cells := 2, slots := 2, locals := 53 } : Room)) (fun a U => a = #[(.ref a1), (.ref r), (.int p1)] ∧ Z.Warmed39 U.vm ∧ U.heap = h0) (fun _ _ _ _ _ => True) (fun _ U o U' => ∃ v L, o = .returned v ∧ Qi2 Z a1 r p1 h0 n0 v U'.heap L ∧ FrameEnd U o U' L ({ frames := 4, cells := 2, slots := 2, locals := 53 } : Room).cells ({ frames := 4, cells := 2, slots := 2, locals := 53 } : Room).slots) := by
  refine MetFree.of_bodySF (plainFor_of_name pn4) hisR ?_
  intro p e s m args below meth c s₁ Bd hml0 hP hK
  obtain ⟨rfl, hZ, hh⟩ := hP
  have hx := Bd.exec
  have hby := Bd.bytes
  have hml : c.maxLocals = 3 := hml0
  have hown : s.vm.findClass "com/example/rivet_context/rivetcontext/factory/TypeListing" = some m.cls := findClass_of_methodNamed Bd.named
  have hnm := (name_of_methodNamed Bd.named Bd.method).1
  have X0 : Stand p l e ({ frames := 4, cells := 2, slots := 2, locals := 53 } : Room) s m #[(.ref a1), (.ref r), (.int p1)] below meth c s₁ [] 0 0 := Stand.of_body Bd
  have e0 : s₁.heap = h0 := by rw [← hh, Bd.state]; rfl
  have N0 := Fr.nil n0
  have pre0 : ∀ t, Steps p.tables e below (s₁.setTop (mkF m 0 #[.val (.ref a1), .val (.ref r), .val (.int p1)] [])) t → Steps p.tables e below (s₁.setTop (entryFrame m #[(.ref a1), (.ref r), (.int p1)] 3)) t := fun t k => castTop (ef_rmi2 m a1 r p1) k
  obtain ⟨E_a, F_r, F_p, F_c, F_o, F_w, F_i⟩ := HT
  have lt_a1 := E_a.lt
  obtain ⟨T1, h1, k1, X1, e1, E1, A1, st1⟩ := newP X0 hx hZ (hw _ (List.mem_of_getElem? (i := 34) rfl)) e0 (g := (mkF m 3 #[.val (.ref a1), .val (.ref r), .val (.int p1)] [(.int 1), (.ref r), (.ref a1)])) rfl (hb hby d6_3) rfl (by decide) (cap := 1) (by decide) (by decide) (by decide) (by decide)
  obtain ⟨b1, g1⟩ : ∃ z, z = h0.size := ⟨_, rfl⟩
  rw [← g1] at A1 st1
  have g_b1 : n0 ≤ b1 := by rw [g1]; exact Nat.le_trans (Nat.le_of_eq O0.1.symm) O0.2.1
  have sz_b1 : h0.size ≤ b1 := by rw [g1]; exact (Keep.refl h0 [a1]).1
  have lt_a1_b1 : a1 < b1 := Nat.lt_of_lt_of_le lt_a1 sz_b1
  have lt_r_b1 : r < b1 := Nat.lt_of_lt_of_le lt_r sz_b1
  have O2 := O0.ext E1
  have kp3 : Keep h0 h1 [a1] := (Keep.refl h0 [a1]).ext E1
  have V_b1 : Arv Z h1 b1 k1 .int (1 : Int32) [(.int 0)] (.int 0) := (Arv.new A1 (by decide)).pad (pad_rep [] (.int 0) 1)
  obtain ⟨cl4, Ar4, q4, Sz4, Nn4, Ha4, Gf4⟩ := V_b1
  have hin4 : ¬ ((0 : Int32) < 0 ∨ cl4.slots.size ≤ ((0 : Int32)).toNatClampNeg) := inb_of Sz4 ⟨by decide, by decide⟩
  obtain ⟨T5, h5, X5, e5, W5, st5⟩ := stI X1 hx hZ e1 Ar4 (j := (0 : Int32)) hin4 (g := (mkF m 8 #[.val (.ref a1), .val (.ref r), .val (.int p1)] [(.int p1), (.int 0), (.ref b1), (.ref b1), (.ref r), (.ref a1)])) rfl rfl (hb hby d6_8)
  have Va5 := Arv.set Ar4 q4 Sz4 Nn4 Ha4 Gf4 rfl W5 0 rfl (Nat.le_of_ble_eq_true rfl)
  have Vb5 : Arv Z h5 b1 k1 .int (1 : Int32) [(.int p1)] (.int 0) := Va5
  have O6 := O2.wr W5 g_b1
  have kp7 : Keep h0 h5 [a1] := kp3.wr W5 (Or.inr sz_b1)
  have N5 := Fr.snoc X5 N0 g_b1
  obtain ⟨T8, h8, k8, X8, e8, E8, A8, st8⟩ := newP X5 hx hZ (hw _ (List.mem_of_getElem? (i := 34) rfl)) e5 (g := (mkF m 12 #[.val (.ref a1), .val (.ref r), .val (.int p1)] [(.int 1), (.int 1), (.int 1), (.ref b1), (.ref r), (.ref a1)])) rfl (hb hby d6_12) rfl (by decide) (cap := 1) (by decide) (by decide) (by decide) (by decide)
  obtain ⟨b8, g8⟩ : ∃ z, z = h5.size := ⟨_, rfl⟩
  rw [← g8] at A8 st8
  have g_b8 : n0 ≤ b8 := by rw [g8]; exact Nat.le_trans (Nat.le_of_eq O6.1.symm) O6.2.1
  have sz_b8 : h0.size ≤ b8 := by rw [g8]; exact kp7.1
  have lt_b1_b8 : b1 < b8 := by rw [g8]; exact Vb5.lt
  have lt_a1_b8 : a1 < b8 := Nat.lt_of_lt_of_le lt_a1 sz_b8
  have lt_r_b8 : r < b8 := Nat.lt_of_lt_of_le lt_r sz_b8
  have O9 := O6.ext E8
  have kp10 : Keep h0 h8 [a1] := kp7.ext E8
  have V_b8 : Arv Z h8 b8 k8 .int (1 : Int32) [(.int 0)] (.int 0) := (Arv.new A8 (by decide)).pad (pad_rep [] (.int 0) 1)
  obtain ⟨cl11, Ar11, q11, Sz11, Nn11, Ha11, Gf11⟩ := V_b8
  have hin11 : ¬ ((0 : Int32) < 0 ∨ cl11.slots.size ≤ ((0 : Int32)).toNatClampNeg) := inb_of Sz11 ⟨by decide, by decide⟩
  obtain ⟨T12, h12, X12, e12, W12, st12⟩ := stI X8 hx hZ e8 Ar11 (j := (0 : Int32)) hin11 (g := (mkF m 17 #[.val (.ref a1), .val (.ref r), .val (.int p1)] [(.int 1), (.int 0), (.ref b8), (.ref b8), (.int 1), (.int 1), (.ref b1), (.ref r), (.ref a1)])) rfl rfl (hb hby d6_17)
  have Va12 := Arv.set Ar11 q11 Sz11 Nn11 Ha11 Gf11 rfl W12 0 rfl (Nat.le_of_ble_eq_true rfl)
  have Vb12 : Arv Z h12 b8 k8 .int (1 : Int32) [(.int 1)] (.int 0) := Va12
  have O13 := O9.wr W12 g_b8
  have kp14 : Keep h0 h12 [a1] := kp10.wr W12 (Or.inr sz_b8)
  have N12 := Fr.snoc X12 N5 g_b8
  obtain ⟨_, _, ⟨T15, L15, k15, n15⟩, -, X15, ⟨Lc15, hQ15, l15, y15, z15⟩, st15⟩ := X12.specialBack hx (y := (⟨"com/example/rivet_context/rivetcontext/factory/TypeListing", "<init>", "([Ljava/lang/String;[III[I)V"⟩ : MethodName)) rfl hown (mvT hZ (hw _ (List.mem_of_getElem? (i := 35) rfl))) (mvT hZ (hw _ (List.mem_of_getElem? (i := 36) rfl))) (mvT hZ (hw _ (List.mem_of_getElem? (i := 37) rfl))) (by decide) (backOf (W := 0) (rmi5 l Z a0 hw [] a1 r b1 (1 : Int32) (1 : Int32) b8 h12 n0 O13 ⟨((((E_a.ext E1).wr W5).ext E8).wr W12), ((((F_r.ext E1).other W5 (Or.inl (Nat.ne_of_lt lt_a1_b1))).ext E8).other W12 (Or.inl (Nat.ne_of_lt lt_a1_b8))), ((((F_p.ext E1).other W5 (Or.inl (Nat.ne_of_lt lt_a1_b1))).ext E8).other W12 (Or.inl (Nat.ne_of_lt lt_a1_b8))), ((((F_c.ext E1).other W5 (Or.inl (Nat.ne_of_lt lt_a1_b1))).ext E8).other W12 (Or.inl (Nat.ne_of_lt lt_a1_b8))), ((((F_o.ext E1).other W5 (Or.inl (Nat.ne_of_lt lt_a1_b1))).ext E8).other W12 (Or.inl (Nat.ne_of_lt lt_a1_b8))), ((((F_w.ext E1).other W5 (Or.inl (Nat.ne_of_lt lt_a1_b1))).ext E8).other W12 (Or.inl (Nat.ne_of_lt lt_a1_b8))), ((((F_i.ext E1).other W5 (Or.inl (Nat.ne_of_lt lt_a1_b1))).ext E8).other W12 (Or.inl (Nat.ne_of_lt lt_a1_b8)))⟩ ((((F_mod.ext E1).other W5 (Or.inl (Nat.ne_of_lt lt_a1_b1))).ext E8).other W12 (Or.inl (Nat.ne_of_lt lt_a1_b8))) g_a1) hZ (hw _ (List.mem_of_getElem? (i := 37) rfl)) (hw _ (List.mem_of_getElem? (i := 30) rfl)) (by decide) (by decide)) (g := (mkF m 18 #[.val (.ref a1), .val (.ref r), .val (.int p1)] [(.ref b8), (.int 1), (.int 1), (.ref b1), (.ref r), (.ref a1)])) rfl (by rw [hml]; rfl) (Steps.refl _) (a := a1) (argsL := [(.ref r), (.ref b1), (.int 1), (.int 1), (.ref b8)]) (rest := []) (lenOf pd4 rfl) rfl (by show 2 * 0 + _ ≤ _; exact Nat.le_of_eq rfl) (hb hby d6_18) (fun _ _ => ⟨rfl, e12, (by decide : 2 + 0 ≤ _), (by decide : 2 + 0 ≤ _)⟩)
  dsimp only [Pt.U, Pt.locs, Pt.cells, Pt.slots] at X15 l15 y15 z15 st15 hQ15
  subst l15 y15 z15
  obtain ⟨h15, e15⟩ : ∃ z, T15.heap = z := ⟨_, rfl⟩
  rw [e15] at hQ15
  obtain ⟨rfl, Nq15, K15, HT15⟩ := hQ15
  have N15 := Fr.app N12 Nq15
  have O16 := O13.keep K15 (allS g_a1 all0)
  have kp17 : Keep h0 h15 [a1] := kp14.trans K15 (allS (Or.inl (List.mem_of_getElem? (i := 0) rfl)) all0)
  obtain ⟨fs, hr, hrun, hended, hW, hsame⟩ := X15.leave (v := none) (fun _ => rfl)
  refine ⟨_, _, pre0 _ ?_, hrun, hended, _, _, rfl, ?_, ⟨_, rfl⟩, hW, hsame.mono (by decide) (by decide)⟩
  · show Steps p.tables e below (s₁.setTop (mkF m 0 #[.val (.ref a1), .val (.ref r), .val (.int p1)] [])) _
    refine XS.aloadN X0.here hx rfl (hb hby d6_0) rfl rfl ?_
    refine XS.aloadN X0.here hx rfl (hb hby d6_1) rfl rfl ?_
    refine XS.iconst X0.here hx rfl (hb hby d6_2) ?_
    show Steps p.tables e below (s₁.setTop (mkF m 3 #[.val (.ref a1), .val (.ref r), .val (.int p1)] [(.int 1), (.ref r), (.ref a1)])) _
    refine st1 _ ?_
    show Steps p.tables e below (T1.setTop (mkF m 5 #[.val (.ref a1), .val (.ref r), .val (.int p1)] [(.ref b1), (.ref r), (.ref a1)])) _
    refine XS.dup X1.here hx rfl (hb hby d6_5) rfl rfl ?_
    refine XS.iconst X1.here hx rfl (hb hby d6_6) ?_
    refine XS.iloadN X1.here hx rfl (hb hby d6_7) rfl ?_
    show Steps p.tables e below (T1.setTop (mkF m 8 #[.val (.ref a1), .val (.ref r), .val (.int p1)] [(.int p1), (.int 0), (.ref b1), (.ref b1), (.ref r), (.ref a1)])) _
    refine st5 _ ?_
    show Steps p.tables e below (T5.setTop (mkF m 9 #[.val (.ref a1), .val (.ref r), .val (.int p1)] [(.ref b1), (.ref r), (.ref a1)])) _
    refine XS.iconst X5.here hx rfl (hb hby d6_9) ?_
    refine XS.iconst X5.here hx rfl (hb hby d6_10) ?_
    refine XS.iconst X5.here hx rfl (hb hby d6_11) ?_
    show Steps p.tables e below (T5.setTop (mkF m 12 #[.val (.ref a1), .val (.ref r), .val (.int p1)] [(.int 1), (.int 1), (.int 1), (.ref b1), (.ref r), (.ref a1)])) _
    refine st8 _ ?_
    show Steps p.tables e below (T8.setTop (mkF m 14 #[.val (.ref a1), .val (.ref r), .val (.int p1)] [(.ref b8), (.int 1), (.int 1), (.ref b1), (.ref r), (.ref a1)])) _
    refine XS.dup X8.here hx rfl (hb hby d6_14) rfl rfl ?_
    refine XS.iconst X8.here hx rfl (hb hby d6_15) ?_
    refine XS.iconst X8.here hx rfl (hb hby d6_16) ?_
    show Steps p.tables e below (T8.setTop (mkF m 17 #[.val (.ref a1), .val (.ref r), .val (.int p1)] [(.int 1), (.int 0), (.ref b8), (.ref b8), (.int 1), (.int 1), (.ref b1), (.ref r), (.ref a1)])) _
    refine st12 _ ?_
    show Steps p.tables e below (T12.setTop (mkF m 18 #[.val (.ref a1), .val (.ref r), .val (.int p1)] [(.ref b8), (.int 1), (.int 1), (.ref b1), (.ref r), (.ref a1)])) _
    refine st15.trans ?_
    show Steps p.tables e below (T15.setTop (mkF m 21 #[.val (.ref a1), .val (.ref r), .val (.int p1)] [])) _
    exact X15.returnOut hx Bd.returns (hb hby d6_21) hr
  · show Qi2 Z a1 r p1 h0 n0 _ T15.heap _
    rw [e15]
    exact ⟨rfl, N15, kp17, g_a1, b1, _, b8, _, HT15, (((Vb5.ext E8).other W12 (Nat.ne_of_lt lt_b1_b8)).keep K15 (ninS (Ne.symm (Nat.ne_of_lt lt_a1_b1)) nin0)), (Vb12.keep K15 (ninS (Ne.symm (Nat.ne_of_lt lt_a1_b8)) nin0)), g_b1, g_b8, (Nat.ne_of_lt lt_b1_b8), lt_r_b1, lt_r_b8⟩
def Qco (Z : State) (vs : List Int32) (c : Nat) (h0 : Heap) (n0 : Nat) (v : Option Value) (h : Heap) (L : List Loc) : Prop := ∃ (b : Addr) (kb : ClassId), v = some (.ref b) ∧ Fr n0 L ∧ Keep h0 h [] ∧ h0.size ≤ b ∧ Arv Z h b kb .int (Int32.ofNat (vs.length + c)) ((vs ++ List.replicate c 0).map Value.int) (.int 0)
def Qext (Z : State) (r : Addr) (kr : ClassId) (ss : List Addr) (S : List Int32 × Nat × Nat) (n0 : Nat) (v : Option Value) (h : Heap) (L : List Loc) : Prop := ∃ a : Addr, v = some (.ref a) ∧ Fr n0 L ∧ Old Z n0 h ∧ Arv Z h r kr (.object "java/lang/String") (4 : Int32) (ss.map Value.ref) .null ∧ Lst Z h n0 a r S.1 S.2.1 S.2.2

theorem pn5 : plainName "java/util/Arrays" = true := by first | (simp [plainName, overriddenIn]; done) | decide +kernel
theorem d13_0 : decode jdk_65_method_30_code 0 = .ok (.iload_n 1, 1) := by decide +kernel
theorem d13_1 : decode jdk_65_method_30_code 1 = .ok (.iload_n 2, 1) := by decide +kernel
theorem d13_2 : decode jdk_65_method_30_code 2 = .ok (.if_icmp .le 44, 3) := by decide +kernel
theorem d13_46 : decode jdk_65_method_30_code 46 = .ok (.iload_n 1, 1) := by decide +kernel
theorem d13_47 : decode jdk_65_method_30_code 47 = .ok (.ifCond .ge 12, 3) := by decide +kernel
theorem d13_59 : decode jdk_65_method_30_code 59 = .ok (.iload_n 2, 1) := by decide +kernel
theorem d13_60 : decode jdk_65_method_30_code 60 = .ok (.iload_n 0, 1) := by decide +kernel
theorem d13_61 : decode jdk_65_method_30_code 61 = .ok (.if_icmp .le 12, 3) := by decide +kernel
theorem d13_73 : decode jdk_65_method_30_code 73 = .ok (.return_, 1) := by decide +kernel
theorem ef_rmrc (m : MethodId) (x0 : Int32) (x1 : Int32) (x2 : Int32) : entryFrame m #[(.int x0), (.int x1), (.int x2)] 3 = mkF m 0 #[.val (.int x0), .val (.int x1), .val (.int x2)] [] := by first | (simp [entryFrame, mkF, argsToLocals, Value.category]; done) | rfl
set_option maxRecDepth 65536 in
set_option maxHeartbeats 40000000 in
theorem rmrc (l : Launch) (Z : State) (a0 : Array Value) (hw : ∀ d ∈ tables_1, d.before a0 Z = true) (ws : List Jvm.Cond) (p1 : Int32) (p2 : Int32) (p3 : Int32) (h0 : Heap) (n0 : Nat) (O0 : Old Z n0 h0) (h1 : ¬ p3 < p2) (h2 : ¬ p2 < 0) (h3 : ¬ p1 < p3) :
    MetFree l (⟨"java/util/Arrays", "rangeCheck", "(III)V"⟩ : MethodName) (head1 (Jvm.Cond.code (⟨"java/util/Arrays", "rangeCheck", "(III)V"⟩ : MethodName) jdk_65_method_30_code 3 none :: ws) ({ frames := 0, cells := 0, slots := 0, locals := 0 } : Room)) (fun a U => a = #[(.int p1), (.int p2), (.int p3)] ∧ Z.Warmed39 U.vm ∧ U.heap = h0) (fun _ _ _ _ _ => True) (fun _ U o U' => ∃ v L, o = .returned v ∧ Qpure none h0 n0 v U'.heap L ∧ FrameEnd U o U' L ({ frames := 0, cells := 0, slots := 0, locals := 0 } : Room).cells ({ frames := 0, cells := 0, slots := 0, locals := 0 } : Room).slots) := by
  refine MetFree.of_bodySF (plainFor_of_name pn5) hisR ?_
  intro p e s m args below meth c s₁ Bd hml0 hP hK
  obtain ⟨rfl, hZ, hh⟩ := hP
  have hx := Bd.exec
  have hby := Bd.bytes
  have hml : c.maxLocals = 3 := hml0
  have hown : s.vm.findClass "java/util/Arrays" = some m.cls := findClass_of_methodNamed Bd.named
  have hnm := (name_of_methodNamed Bd.named Bd.method).1
  have X0 : Stand p l e ({ frames := 0, cells := 0, slots := 0, locals := 0 } : Room) s m #[(.int p1), (.int p2), (.int p3)] below meth c s₁ [] 0 0 := Stand.of_body Bd
  have e0 : s₁.heap = h0 := by rw [← hh, Bd.state]; rfl
  have N0 := Fr.nil n0
  have pre0 : ∀ t, Steps p.tables e below (s₁.setTop (mkF m 0 #[.val (.int p1), .val (.int p2), .val (.int p3)] [])) t → Steps p.tables e below (s₁.setTop (entryFrame m #[(.int p1), (.int p2), (.int p3)] 3)) t := fun t k => castTop (ef_rmrc m p1 p2 p3) k
  have pf1 : ∀ target, Steps p.tables e below (s₁.setTop (mkF m 61 #[.val (.int p1), .val (.int p2), .val (.int p3)] [(.int p1), (.int p3)])) target → Steps p.tables e below (s₁.setTop (mkF m 0 #[.val (.int p1), .val (.int p2), .val (.int p3)] [])) target := by
    intro target k
    show Steps p.tables e below (s₁.setTop (mkF m 0 #[.val (.int p1), .val (.int p2), .val (.int p3)] [])) _
    refine XS.iloadN X0.here hx rfl (hb hby d13_0) rfl ?_
    refine XS.iloadN X0.here hx rfl (hb hby d13_1) rfl ?_
    refine XS.icmpYes X0.here hx rfl (pc0 := 2) (pc' := 46) rfl (hb hby d13_2) rfl (flt h1).2.2.2 (by decide) (by decide) ?_
    refine XS.iloadN X0.here hx rfl (hb hby d13_46) rfl ?_
    refine XS.ifYes X0.here hx rfl (pc0 := 47) (pc' := 59) rfl (hb hby d13_47) rfl ((if0 _ _).trans (flt h2).2.1) (by decide) (by decide) ?_
    refine XS.iloadN X0.here hx rfl (hb hby d13_59) rfl ?_
    refine XS.iloadN X0.here hx rfl (hb hby d13_60) rfl ?_
    exact k
  obtain ⟨fs, hr, hrun, hended, hW, hsame⟩ := X0.leave (v := none) (fun _ => rfl)
  refine ⟨_, _, pre0 _ ?_, hrun, hended, _, _, rfl, ?_, ⟨_, rfl⟩, hW, hsame.mono (by decide) (by decide)⟩
  · refine pf1 _ ?_
    show Steps p.tables e below (s₁.setTop (mkF m 61 #[.val (.int p1), .val (.int p2), .val (.int p3)] [(.int p1), (.int p3)])) _
    refine XS.icmpYes X0.here hx rfl (pc0 := 61) (pc' := 73) rfl (hb hby d13_61) rfl (flt h3).2.2.2 (by decide) (by decide) ?_
    show Steps p.tables e below (s₁.setTop (mkF m 73 #[.val (.int p1), .val (.int p2), .val (.int p3)] [])) _
    exact X0.returnOut hx Bd.returns (hb hby d13_73) hr
  · show Qpure none h0 n0 _ s₁.heap _
    rw [e0]
    exact ⟨rfl, N0, rfl⟩
theorem d14_0 : decode jdk_65_method_59_code 0 = .ok (.iload_n 1, 1) := by decide +kernel
theorem d14_1 : decode jdk_65_method_59_code 1 = .ok (.istore 4, 2) := by decide +kernel
theorem d14_3 : decode jdk_65_method_59_code 3 = .ok (.iload_n 2, 1) := by decide +kernel
theorem d14_4 : decode jdk_65_method_59_code 4 = .ok (.iconst 1, 1) := by decide +kernel
theorem d14_5 : decode jdk_65_method_59_code 5 = .ok (.isub, 1) := by decide +kernel
theorem d14_6 : decode jdk_65_method_59_code 6 = .ok (.istore 5, 2) := by decide +kernel
theorem d14_8 : decode jdk_65_method_59_code 8 = .ok (.iload 4, 2) := by decide +kernel
theorem d14_10 : decode jdk_65_method_59_code 10 = .ok (.iload 5, 2) := by decide +kernel
theorem d14_12 : decode jdk_65_method_59_code 12 = .ok (.if_icmp .gt 54, 3) := by decide +kernel
theorem d14_15 : decode jdk_65_method_59_code 15 = .ok (.iload 4, 2) := by decide +kernel
theorem d14_17 : decode jdk_65_method_59_code 17 = .ok (.iload 5, 2) := by decide +kernel
theorem d14_19 : decode jdk_65_method_59_code 19 = .ok (.iadd, 1) := by decide +kernel
theorem d14_20 : decode jdk_65_method_59_code 20 = .ok (.iconst 1, 1) := by decide +kernel
theorem d14_21 : decode jdk_65_method_59_code 21 = .ok (.iushr, 1) := by decide +kernel
theorem d14_22 : decode jdk_65_method_59_code 22 = .ok (.istore 6, 2) := by decide +kernel
theorem d14_24 : decode jdk_65_method_59_code 24 = .ok (.aload_n 0, 1) := by decide +kernel
theorem d14_25 : decode jdk_65_method_59_code 25 = .ok (.iload 6, 2) := by decide +kernel
theorem d14_27 : decode jdk_65_method_59_code 27 = .ok (.iaload, 1) := by decide +kernel
theorem d14_28 : decode jdk_65_method_59_code 28 = .ok (.istore 7, 2) := by decide +kernel
theorem d14_30 : decode jdk_65_method_59_code 30 = .ok (.iload 7, 2) := by decide +kernel
theorem d14_32 : decode jdk_65_method_59_code 32 = .ok (.iload_n 3, 1) := by decide +kernel
theorem d14_33 : decode jdk_65_method_59_code 33 = .ok (.if_icmp .ge 12, 3) := by decide +kernel
theorem d14_36 : decode jdk_65_method_59_code 36 = .ok (.iload 6, 2) := by decide +kernel
theorem d14_38 : decode jdk_65_method_59_code 38 = .ok (.iconst 1, 1) := by decide +kernel
theorem d14_39 : decode jdk_65_method_59_code 39 = .ok (.iadd, 1) := by decide +kernel
theorem d14_40 : decode jdk_65_method_59_code 40 = .ok (.istore 4, 2) := by decide +kernel
theorem d14_42 : decode jdk_65_method_59_code 42 = .ok (.goto 21, 3) := by decide +kernel
theorem d14_63 : decode jdk_65_method_59_code 63 = .ok (.goto (-55), 3) := by decide +kernel
theorem d14_66 : decode jdk_65_method_59_code 66 = .ok (.iload 4, 2) := by decide +kernel
theorem d14_68 : decode jdk_65_method_59_code 68 = .ok (.iconst 1, 1) := by decide +kernel
theorem d14_69 : decode jdk_65_method_59_code 69 = .ok (.iadd, 1) := by decide +kernel
theorem d14_70 : decode jdk_65_method_59_code 70 = .ok (.ineg, 1) := by decide +kernel
theorem d14_71 : decode jdk_65_method_59_code 71 = .ok (.ireturn, 1) := by decide +kernel
theorem d14_45 : decode jdk_65_method_59_code 45 = .ok (.iload 7, 2) := by decide +kernel
theorem d14_47 : decode jdk_65_method_59_code 47 = .ok (.iload_n 3, 1) := by decide +kernel
theorem d14_48 : decode jdk_65_method_59_code 48 = .ok (.if_icmp .le 12, 3) := by decide +kernel
theorem d14_51 : decode jdk_65_method_59_code 51 = .ok (.iload 6, 2) := by decide +kernel
theorem d14_53 : decode jdk_65_method_59_code 53 = .ok (.iconst 1, 1) := by decide +kernel
theorem d14_54 : decode jdk_65_method_59_code 54 = .ok (.isub, 1) := by decide +kernel
theorem d14_55 : decode jdk_65_method_59_code 55 = .ok (.istore 5, 2) := by decide +kernel
theorem d14_57 : decode jdk_65_method_59_code 57 = .ok (.goto 6, 3) := by decide +kernel
theorem d14_60 : decode jdk_65_method_59_code 60 = .ok (.iload 6, 2) := by decide +kernel
theorem d14_62 : decode jdk_65_method_59_code 62 = .ok (.ireturn, 1) := by decide +kernel
theorem ef_rmb0_1 (m : MethodId) (x0 : Addr) (x1 : Int32) (x2 : Int32) (x3 : Int32) : entryFrame m #[(.ref x0), (.int x1), (.int x2), (.int x3)] 8 = mkF m 0 #[.val (.ref x0), .val (.int x1), .val (.int x2), .val (.int x3), .unset, .unset, .unset, .unset] [] := by first | (simp [entryFrame, mkF, argsToLocals, Value.category]; done) | rfl
set_option maxRecDepth 65536 in
set_option maxHeartbeats 40000000 in
theorem rmb0_1 (l : Launch) (Z : State) (a0 : Array Value) (hw : ∀ d ∈ tables_1, d.before a0 Z = true) (ws : List Jvm.Cond) (a1 : Addr) (ka : ClassId) (vs : List Int32) (p1 : Int32) (h0 : Heap) (n0 : Nat) (O0 : Old Z n0 h0) (VA : Arv Z h0 a1 ka .int (Int32.ofNat vs.length) (vs.map Value.int) (.int 0)) (hv : vs.length ≤ 8) (ho : 1 ≤ vs.length) :
    MetFree l (⟨"java/util/Arrays", "binarySearch0", "([IIII)I"⟩ : MethodName) (head1 (Jvm.Cond.code (⟨"java/util/Arrays", "binarySearch0", "([IIII)I"⟩ : MethodName) jdk_65_method_59_code 8 (some .int) :: ws) ({ frames := 0, cells := 0, slots := 0, locals := 0 } : Room)) (fun a U => a = #[(.ref a1), (.int 0), (.int 1), (.int p1)] ∧ Z.Warmed39 U.vm ∧ U.heap = h0) (fun _ _ _ _ _ => True) (fun _ U o U' => ∃ v L, o = .returned v ∧ Qpure (some (.int (bsF 1 vs p1))) h0 n0 v U'.heap L ∧ FrameEnd U o U' L ({ frames := 0, cells := 0, slots := 0, locals := 0 } : Room).cells ({ frames := 0, cells := 0, slots := 0, locals := 0 } : Room).slots) := by
  refine MetFree.of_bodySF (plainFor_of_name pn5) hisR ?_
  intro p e s m args below meth c s₁ Bd hml0 hP hK
  obtain ⟨rfl, hZ, hh⟩ := hP
  have hx := Bd.exec
  have hby := Bd.bytes
  have hml : c.maxLocals = 8 := hml0
  have hown : s.vm.findClass "java/util/Arrays" = some m.cls := findClass_of_methodNamed Bd.named
  have hnm := (name_of_methodNamed Bd.named Bd.method).1
  have X0 : Stand p l e ({ frames := 0, cells := 0, slots := 0, locals := 0 } : Room) s m #[(.ref a1), (.int 0), (.int 1), (.int p1)] below meth c s₁ [] 0 0 := Stand.of_body Bd
  have e0 : s₁.heap = h0 := by rw [← hh, Bd.state]; rfl
  have N0 := Fr.nil n0
  have pre0 : ∀ t, Steps p.tables e below (s₁.setTop (mkF m 0 #[.val (.ref a1), .val (.int 0), .val (.int 1), .val (.int p1), .unset, .unset, .unset, .unset] [])) t → Steps p.tables e below (s₁.setTop (entryFrame m #[(.ref a1), (.int 0), (.int 1), (.int p1)] 8)) t := fun t k => castTop (ef_rmb0_1 m a1 (0 : Int32) (1 : Int32) p1) k
  have hNA : (Int32.ofNat vs.length).toNatClampNeg = vs.length := own_n hv
  have pf1 : ∀ target, Steps p.tables e below (s₁.setTop (mkF m 12 #[.val (.ref a1), .val (.int 0), .val (.int 1), .val (.int p1), .val (.int 0), .val (.int 0), .unset, .unset] [(.int 0), (.int 0)])) target → Steps p.tables e below (s₁.setTop (mkF m 0 #[.val (.ref a1), .val (.int 0), .val (.int 1), .val (.int p1), .unset, .unset, .unset, .unset] [])) target := by
    intro target k
    show Steps p.tables e below (s₁.setTop (mkF m 0 #[.val (.ref a1), .val (.int 0), .val (.int 1), .val (.int p1), .unset, .unset, .unset, .unset] [])) _
    refine XS.iloadN X0.here hx rfl (hb hby d14_0) rfl ?_
    refine XS.istore X0.here hx rfl (hb hby d14_1) rfl (l' := #[.val (.ref a1), .val (.int 0), .val (.int 1), .val (.int p1), .val (.int 0), .unset, .unset, .unset]) rfl ?_
    refine XS.iloadN X0.here hx rfl (hb hby d14_3) rfl ?_
    refine XS.iconst X0.here hx rfl (hb hby d14_4) ?_
    refine XS.isub X0.here hx rfl (hb hby d14_5) rfl ?_
    show Steps p.tables e below (s₁.setTop (mkF m 6 #[.val (.ref a1), .val (.int 0), .val (.int 1), .val (.int p1), .val (.int 0), .unset, .unset, .unset] [(.int 0)])) _
    refine XS.istore X0.here hx rfl (hb hby d14_6) rfl (l' := #[.val (.ref a1), .val (.int 0), .val (.int 1), .val (.int p1), .val (.int 0), .val (.int 0), .unset, .unset]) rfl ?_
    refine XS.iload X0.here hx rfl (hb hby d14_8) rfl ?_
    refine XS.iload X0.here hx rfl (hb hby d14_10) rfl ?_
    exact k
  obtain ⟨cl2, Ar2, hin2, hat2⟩ := own_at (j := (0 : Int32)) (i := 0) VA hNA (by decide) (by decide) (by omega)
  have pf3 : ∀ target, Steps p.tables e below (s₁.setTop (mkF m 33 #[.val (.ref a1), .val (.int 0), .val (.int 1), .val (.int p1), .val (.int 0), .val (.int 0), .val (.int 0), .val (.int (vs.getD 0 0))] [(.int p1), (.int (vs.getD 0 0))])) target → Steps p.tables e below (s₁.setTop (mkF m 12 #[.val (.ref a1), .val (.int 0), .val (.int 1), .val (.int p1), .val (.int 0), .val (.int 0), .unset, .unset] [(.int 0), (.int 0)])) target := by
    intro target k
    show Steps p.tables e below (s₁.setTop (mkF m 12 #[.val (.ref a1), .val (.int 0), .val (.int 1), .val (.int p1), .val (.int 0), .val (.int 0), .unset, .unset] [(.int 0), (.int 0)])) _
    refine XS.icmpNo X0.here hx rfl (hb hby d14_12) rfl (flt (by decide)).2.2.1 ?_
    refine XS.iload X0.here hx rfl (hb hby d14_15) rfl ?_
    refine XS.iload X0.here hx rfl (hb hby d14_17) rfl ?_
    refine XS.iadd X0.here hx rfl (hb hby d14_19) rfl ?_
    show Steps p.tables e below (s₁.setTop (mkF m 20 #[.val (.ref a1), .val (.int 0), .val (.int 1), .val (.int p1), .val (.int 0), .val (.int 0), .unset, .unset] [(.int 0)])) _
    refine XS.iconst X0.here hx rfl (hb hby d14_20) ?_
    refine XS.iushr X0.here hx rfl (hb hby d14_21) rfl ?_
    show Steps p.tables e below (s₁.setTop (mkF m 22 #[.val (.ref a1), .val (.int 0), .val (.int 1), .val (.int p1), .val (.int 0), .val (.int 0), .unset, .unset] [(.int 0)])) _
    refine XS.istore X0.here hx rfl (hb hby d14_22) rfl (l' := #[.val (.ref a1), .val (.int 0), .val (.int 1), .val (.int p1), .val (.int 0), .val (.int 0), .val (.int 0), .unset]) rfl ?_
    refine XS.aloadN X0.here hx rfl (hb hby d14_24) rfl rfl ?_
    refine XS.iload X0.here hx rfl (hb hby d14_25) rfl ?_
    show Steps p.tables e below (s₁.setTop (mkF m 27 #[.val (.ref a1), .val (.int 0), .val (.int 1), .val (.int p1), .val (.int 0), .val (.int 0), .val (.int 0), .unset] [(.int 0), (.ref a1)])) _
    refine X0.iaload hx (j := (0 : Int32)) (v := (.int (vs.getD 0 0))) (by rw [e0]; exact Ar2.1) (State.isArrayOf_alike hZ.alike Ar2.2.1) Ar2.2.2 hin2 hat2 (g := (mkF m 27 #[.val (.ref a1), .val (.int 0), .val (.int 1), .val (.int p1), .val (.int 0), .val (.int 0), .val (.int 0), .unset] [(.int 0), (.ref a1)])) rfl rfl (hb hby d14_27) _ ?_
    show Steps p.tables e below (s₁.setTop (mkF m 28 #[.val (.ref a1), .val (.int 0), .val (.int 1), .val (.int p1), .val (.int 0), .val (.int 0), .val (.int 0), .unset] [(.int (vs.getD 0 0))])) _
    refine XS.istore X0.here hx rfl (hb hby d14_28) rfl (l' := #[.val (.ref a1), .val (.int 0), .val (.int 1), .val (.int p1), .val (.int 0), .val (.int 0), .val (.int 0), .val (.int (vs.getD 0 0))]) rfl ?_
    refine XS.iload X0.here hx rfl (hb hby d14_30) rfl ?_
    refine XS.iloadN X0.here hx rfl (hb hby d14_32) rfl ?_
    exact k
  by_cases hc33 : (vs.getD 0 0) < p1
  · have pf4 : ∀ target, Steps p.tables e below (s₁.setTop (mkF m 12 #[.val (.ref a1), .val (.int 0), .val (.int 1), .val (.int p1), .val (.int 1), .val (.int 0), .val (.int 0), .val (.int (vs.getD 0 0))] [(.int 0), (.int 1)])) target → Steps p.tables e below (s₁.setTop (mkF m 33 #[.val (.ref a1), .val (.int 0), .val (.int 1), .val (.int p1), .val (.int 0), .val (.int 0), .val (.int 0), .val (.int (vs.getD 0 0))] [(.int p1), (.int (vs.getD 0 0))])) target := by
      intro target k
      show Steps p.tables e below (s₁.setTop (mkF m 33 #[.val (.ref a1), .val (.int 0), .val (.int 1), .val (.int p1), .val (.int 0), .val (.int 0), .val (.int 0), .val (.int (vs.getD 0 0))] [(.int p1), (.int (vs.getD 0 0))])) _
      refine XS.icmpNo X0.here hx rfl (hb hby d14_33) rfl (tlt hc33).2.1 ?_
      refine XS.iload X0.here hx rfl (hb hby d14_36) rfl ?_
      refine XS.iconst X0.here hx rfl (hb hby d14_38) ?_
      refine XS.iadd X0.here hx rfl (hb hby d14_39) rfl ?_
      show Steps p.tables e below (s₁.setTop (mkF m 40 #[.val (.ref a1), .val (.int 0), .val (.int 1), .val (.int p1), .val (.int 0), .val (.int 0), .val (.int 0), .val (.int (vs.getD 0 0))] [(.int 1)])) _
      refine XS.istore X0.here hx rfl (hb hby d14_40) rfl (l' := #[.val (.ref a1), .val (.int 0), .val (.int 1), .val (.int p1), .val (.int 1), .val (.int 0), .val (.int 0), .val (.int (vs.getD 0 0))]) rfl ?_
      refine XS.goto X0.here hx rfl (pc0 := 42) (pc' := 63) rfl (hb hby d14_42) (by decide) (by decide) ?_
      refine XS.goto X0.here hx rfl (pc0 := 63) (pc' := 8) rfl (hb hby d14_63) (by decide) (by decide) ?_
      refine XS.iload X0.here hx rfl (hb hby d14_8) rfl ?_
      refine XS.iload X0.here hx rfl (hb hby d14_10) rfl ?_
      exact k
    obtain ⟨fs, hr, hrun, hended, hW, hsame⟩ := X0.leave (v := some (.int (-2 : Int32))) (fun h => by rw [Bd.returns] at h; cases h)
    refine ⟨_, _, pre0 _ ?_, hrun, hended, _, _, rfl, ?_, ⟨_, rfl⟩, hW, hsame.mono (by decide) (by decide)⟩
    · refine pf1 _ ?_
      refine pf3 _ ?_
      refine pf4 _ ?_
      show Steps p.tables e below (s₁.setTop (mkF m 12 #[.val (.ref a1), .val (.int 0), .val (.int 1), .val (.int p1), .val (.int 1), .val (.int 0), .val (.int 0), .val (.int (vs.getD 0 0))] [(.int 0), (.int 1)])) _
      refine XS.icmpYes X0.here hx rfl (pc0 := 12) (pc' := 66) rfl (hb hby d14_12) rfl (tlt (by decide)).2.2.1 (by decide) (by decide) ?_
      refine XS.iload X0.here hx rfl (hb hby d14_66) rfl ?_
      refine XS.iconst X0.here hx rfl (hb hby d14_68) ?_
      refine XS.iadd X0.here hx rfl (hb hby d14_69) rfl ?_
      show Steps p.tables e below (s₁.setTop (mkF m 70 #[.val (.ref a1), .val (.int 0), .val (.int 1), .val (.int p1), .val (.int 1), .val (.int 0), .val (.int 0), .val (.int (vs.getD 0 0))] [(.int 2)])) _
      refine XS.ineg X0.here hx rfl (hb hby d14_70) rfl ?_
      show Steps p.tables e below (s₁.setTop (mkF m 71 #[.val (.ref a1), .val (.int 0), .val (.int 1), .val (.int p1), .val (.int 1), .val (.int 0), .val (.int 0), .val (.int (vs.getD 0 0))] [(.int (-2 : Int32))])) _
      exact retI X0 hx Bd.returns (hb hby d14_71) hr
    · show Qpure (some (.int (bsF 1 vs p1))) h0 n0 _ s₁.heap _
      rw [e0]
      exact ⟨by simp only [bsF]; rw [if_pos hc33], N0, rfl⟩
  · by_cases hc48 : p1 < (vs.getD 0 0)
    · have pf5 : ∀ target, Steps p.tables e below (s₁.setTop (mkF m 12 #[.val (.ref a1), .val (.int 0), .val (.int 1), .val (.int p1), .val (.int 0), .val (.int (-1 : Int32)), .val (.int 0), .val (.int (vs.getD 0 0))] [(.int (-1 : Int32)), (.int 0)])) target → Steps p.tables e below (s₁.setTop (mkF m 33 #[.val (.ref a1), .val (.int 0), .val (.int 1), .val (.int p1), .val (.int 0), .val (.int 0), .val (.int 0), .val (.int (vs.getD 0 0))] [(.int p1), (.int (vs.getD 0 0))])) target := by
        intro target k
        show Steps p.tables e below (s₁.setTop (mkF m 33 #[.val (.ref a1), .val (.int 0), .val (.int 1), .val (.int p1), .val (.int 0), .val (.int 0), .val (.int 0), .val (.int (vs.getD 0 0))] [(.int p1), (.int (vs.getD 0 0))])) _
        refine XS.icmpYes X0.here hx rfl (pc0 := 33) (pc' := 45) rfl (hb hby d14_33) rfl (flt hc33).2.1 (by decide) (by decide) ?_
        refine XS.iload X0.here hx rfl (hb hby d14_45) rfl ?_
        refine XS.iloadN X0.here hx rfl (hb hby d14_47) rfl ?_
        refine XS.icmpNo X0.here hx rfl (hb hby d14_48) rfl (tlt hc48).2.2.2 ?_
        refine XS.iload X0.here hx rfl (hb hby d14_51) rfl ?_
        refine XS.iconst X0.here hx rfl (hb hby d14_53) ?_
        refine XS.isub X0.here hx rfl (hb hby d14_54) rfl ?_
        show Steps p.tables e below (s₁.setTop (mkF m 55 #[.val (.ref a1), .val (.int 0), .val (.int 1), .val (.int p1), .val (.int 0), .val (.int 0), .val (.int 0), .val (.int (vs.getD 0 0))] [(.int (-1 : Int32))])) _
        refine XS.istore X0.here hx rfl (hb hby d14_55) rfl (l' := #[.val (.ref a1), .val (.int 0), .val (.int 1), .val (.int p1), .val (.int 0), .val (.int (-1 : Int32)), .val (.int 0), .val (.int (vs.getD 0 0))]) rfl ?_
        refine XS.goto X0.here hx rfl (pc0 := 57) (pc' := 63) rfl (hb hby d14_57) (by decide) (by decide) ?_
        refine XS.goto X0.here hx rfl (pc0 := 63) (pc' := 8) rfl (hb hby d14_63) (by decide) (by decide) ?_
        refine XS.iload X0.here hx rfl (hb hby d14_8) rfl ?_
        refine XS.iload X0.here hx rfl (hb hby d14_10) rfl ?_
        exact k
      obtain ⟨fs, hr, hrun, hended, hW, hsame⟩ := X0.leave (v := some (.int (-1 : Int32))) (fun h => by rw [Bd.returns] at h; cases h)
      refine ⟨_, _, pre0 _ ?_, hrun, hended, _, _, rfl, ?_, ⟨_, rfl⟩, hW, hsame.mono (by decide) (by decide)⟩
      · refine pf1 _ ?_
        refine pf3 _ ?_
        refine pf5 _ ?_
        show Steps p.tables e below (s₁.setTop (mkF m 12 #[.val (.ref a1), .val (.int 0), .val (.int 1), .val (.int p1), .val (.int 0), .val (.int (-1 : Int32)), .val (.int 0), .val (.int (vs.getD 0 0))] [(.int (-1 : Int32)), (.int 0)])) _
        refine XS.icmpYes X0.here hx rfl (pc0 := 12) (pc' := 66) rfl (hb hby d14_12) rfl (tlt (by decide)).2.2.1 (by decide) (by decide) ?_
        refine XS.iload X0.here hx rfl (hb hby d14_66) rfl ?_
        refine XS.iconst X0.here hx rfl (hb hby d14_68) ?_
        refine XS.iadd X0.here hx rfl (hb hby d14_69) rfl ?_
        show Steps p.tables e below (s₁.setTop (mkF m 70 #[.val (.ref a1), .val (.int 0), .val (.int 1), .val (.int p1), .val (.int 0), .val (.int (-1 : Int32)), .val (.int 0), .val (.int (vs.getD 0 0))] [(.int 1)])) _
        refine XS.ineg X0.here hx rfl (hb hby d14_70) rfl ?_
        show Steps p.tables e below (s₁.setTop (mkF m 71 #[.val (.ref a1), .val (.int 0), .val (.int 1), .val (.int p1), .val (.int 0), .val (.int (-1 : Int32)), .val (.int 0), .val (.int (vs.getD 0 0))] [(.int (-1 : Int32))])) _
        exact retI X0 hx Bd.returns (hb hby d14_71) hr
      · show Qpure (some (.int (bsF 1 vs p1))) h0 n0 _ s₁.heap _
        rw [e0]
        exact ⟨by simp only [bsF]; rw [if_neg hc33, if_pos hc48], N0, rfl⟩
    · obtain ⟨fs, hr, hrun, hended, hW, hsame⟩ := X0.leave (v := some (.int 0)) (fun h => by rw [Bd.returns] at h; cases h)
      refine ⟨_, _, pre0 _ ?_, hrun, hended, _, _, rfl, ?_, ⟨_, rfl⟩, hW, hsame.mono (by decide) (by decide)⟩
      · refine pf1 _ ?_
        refine pf3 _ ?_
        show Steps p.tables e below (s₁.setTop (mkF m 33 #[.val (.ref a1), .val (.int 0), .val (.int 1), .val (.int p1), .val (.int 0), .val (.int 0), .val (.int 0), .val (.int (vs.getD 0 0))] [(.int p1), (.int (vs.getD 0 0))])) _
        refine XS.icmpYes X0.here hx rfl (pc0 := 33) (pc' := 45) rfl (hb hby d14_33) rfl (flt hc33).2.1 (by decide) (by decide) ?_
        refine XS.iload X0.here hx rfl (hb hby d14_45) rfl ?_
        refine XS.iloadN X0.here hx rfl (hb hby d14_47) rfl ?_
        refine XS.icmpYes X0.here hx rfl (pc0 := 48) (pc' := 60) rfl (hb hby d14_48) rfl (flt hc48).2.2.2 (by decide) (by decide) ?_
        refine XS.iload X0.here hx rfl (hb hby d14_60) rfl ?_
        show Steps p.tables e below (s₁.setTop (mkF m 62 #[.val (.ref a1), .val (.int 0), .val (.int 1), .val (.int p1), .val (.int 0), .val (.int 0), .val (.int 0), .val (.int (vs.getD 0 0))] [(.int 0)])) _
        exact retI X0 hx Bd.returns (hb hby d14_62) hr
      · show Qpure (some (.int (bsF 1 vs p1))) h0 n0 _ s₁.heap _
        rw [e0]
        exact ⟨by simp only [bsF]; rw [if_neg hc33, if_neg hc48], N0, rfl⟩
theorem d12_0 : decode jdk_65_method_58_code 0 = .ok (.aload_n 0, 1) := by decide +kernel
theorem d12_1 : decode jdk_65_method_58_code 1 = .ok (.arraylength, 1) := by decide +kernel
theorem d12_2 : decode jdk_65_method_58_code 2 = .ok (.iload_n 1, 1) := by decide +kernel
theorem d12_3 : decode jdk_65_method_58_code 3 = .ok (.iload_n 2, 1) := by decide +kernel
theorem d12_4 : decode jdk_65_method_58_code 4 = .ok (.invokestatic 13, 3) := by decide +kernel
theorem pd5 : parseMethodDescriptor "(III)V" = some ⟨[.int, .int, .int], none⟩ := by decide +kernel
theorem d12_7 : decode jdk_65_method_58_code 7 = .ok (.aload_n 0, 1) := by decide +kernel
theorem d12_8 : decode jdk_65_method_58_code 8 = .ok (.iload_n 1, 1) := by decide +kernel
theorem d12_9 : decode jdk_65_method_58_code 9 = .ok (.iload_n 2, 1) := by decide +kernel
theorem d12_10 : decode jdk_65_method_58_code 10 = .ok (.iload_n 3, 1) := by decide +kernel
theorem d12_11 : decode jdk_65_method_58_code 11 = .ok (.invokestatic 209, 3) := by decide +kernel
theorem pd6 : parseMethodDescriptor "([IIII)I" = some ⟨[(.array .int), .int, .int, .int], some .int⟩ := by decide +kernel
theorem d12_14 : decode jdk_65_method_58_code 14 = .ok (.ireturn, 1) := by decide +kernel
theorem ef_rmb_1 (m : MethodId) (x0 : Addr) (x1 : Int32) (x2 : Int32) (x3 : Int32) : entryFrame m #[(.ref x0), (.int x1), (.int x2), (.int x3)] 4 = mkF m 0 #[.val (.ref x0), .val (.int x1), .val (.int x2), .val (.int x3)] [] := by first | (simp [entryFrame, mkF, argsToLocals, Value.category]; done) | rfl
set_option maxRecDepth 65536 in
set_option maxHeartbeats 40000000 in
theorem rmb_1 (l : Launch) (Z : State) (a0 : Array Value) (hw : ∀ d ∈ tables_1, d.before a0 Z = true) (ws : List Jvm.Cond) (a1 : Addr) (ka : ClassId) (vs : List Int32) (p1 : Int32) (h0 : Heap) (n0 : Nat) (O0 : Old Z n0 h0) (VA : Arv Z h0 a1 ka .int (Int32.ofNat vs.length) (vs.map Value.int) (.int 0)) (hv : vs.length ≤ 8) (ho : 1 ≤ vs.length) :
    MetFree l (⟨"java/util/Arrays", "binarySearch", "([IIII)I"⟩ : MethodName) (head1 (Jvm.Cond.code (⟨"java/util/Arrays", "binarySearch", "([IIII)I"⟩ : MethodName) jdk_65_method_58_code 4 (some .int) :: ws) ({ frames := 1, cells := 0, slots := 0, locals := 19 } : Room)) (fun a U => a = #[(.ref a1), (.int 0), (.int 1), (.int p1)] ∧ Z.Warmed39 U.vm ∧ U.heap = h0) (fun _ _ _ _ _ => True) (fun _ U o U' => ∃ v L, o = .returned v ∧ Qpure (some (.int (bsF 1 vs p1))) h0 n0 v U'.heap L ∧ FrameEnd U o U' L ({ frames := 1, cells := 0, slots := 0, locals := 19 } : Room).cells ({ frames := 1, cells := 0, slots := 0, locals := 19 } : Room).slots) := by
  refine MetFree.of_bodySF (plainFor_of_name pn5) hisR ?_
  intro p e s m args below meth c s₁ Bd hml0 hP hK
  obtain ⟨rfl, hZ, hh⟩ := hP
  have hx := Bd.exec
  have hby := Bd.bytes
  have hml : c.maxLocals = 4 := hml0
  have hown : s.vm.findClass "java/util/Arrays" = some m.cls := findClass_of_methodNamed Bd.named
  have hnm := (name_of_methodNamed Bd.named Bd.method).1
  have X0 : Stand p l e ({ frames := 1, cells := 0, slots := 0, locals := 19 } : Room) s m #[(.ref a1), (.int 0), (.int 1), (.int p1)] below meth c s₁ [] 0 0 := Stand.of_body Bd
  have e0 : s₁.heap = h0 := by rw [← hh, Bd.state]; rfl
  have N0 := Fr.nil n0
  have pre0 : ∀ t, Steps p.tables e below (s₁.setTop (mkF m 0 #[.val (.ref a1), .val (.int 0), .val (.int 1), .val (.int p1)] [])) t → Steps p.tables e below (s₁.setTop (entryFrame m #[(.ref a1), (.int 0), (.int 1), (.int p1)] 4)) t := fun t k => castTop (ef_rmb_1 m a1 (0 : Int32) (1 : Int32) p1) k
  have hNA : (Int32.ofNat vs.length).toNatClampNeg = vs.length := own_n hv
  obtain ⟨cl1, Ar1, q1, Sz1, Nn1, Ha1, Gf1⟩ := id VA
  obtain ⟨_, _, ⟨T2, L2, k2, n2⟩, -, X2, ⟨Lc2, hQ2, l2, y2, z2⟩, st2⟩ := Jvm.LawKit.callS X0 hx (y := (⟨"java/util/Arrays", "rangeCheck", "(III)V"⟩ : MethodName)) hown (mvT hZ (hw _ (List.mem_of_getElem? (i := 77) rfl))) (mvT hZ (hw _ (List.mem_of_getElem? (i := 78) rfl))) (mvT hZ (hw _ (List.mem_of_getElem? (i := 75) rfl))) (mvT hZ (hw _ (List.mem_of_getElem? (i := 79) rfl))) (by decide) (backOf (W := 0) (rmrc l Z a0 hw [] (Int32.ofNat vs.length) (0 : Int32) (1 : Int32) h0 n0 O0 (by decide) (by decide) (fun q => absurd ((own_lt hv (by decide : 1 ≤ 8)).mp q) (by omega))) hZ (hw _ (List.mem_of_getElem? (i := 79) rfl)) (hw _ (List.mem_of_getElem? (i := 75) rfl)) (by decide) (by decide)) (g := (mkF m 4 #[.val (.ref a1), .val (.int 0), .val (.int 1), .val (.int p1)] [(.int 1), (.int 0), (.int (Int32.ofNat vs.length))])) rfl (by rw [hml]; rfl) (argsL := [(.int (Int32.ofNat vs.length)), (.int 0), (.int 1)]) (rest := []) (lenOf pd5 rfl) rfl (by show 2 * 0 + _ ≤ _; exact Nat.le_of_eq rfl) (hb hby d12_4) (fun _ _ => ⟨rfl, e0, (by decide : 0 + 0 ≤ _), (by decide : 0 + 0 ≤ _)⟩)
  dsimp only [Pt.U, Pt.locs, Pt.cells, Pt.slots] at X2 l2 y2 z2 st2 hQ2
  subst l2 y2 z2
  obtain ⟨rfl, Nq2, e2⟩ := hQ2
  have N2 := Fr.app N0 Nq2
  obtain ⟨_, _, ⟨T3, L3, k3, n3⟩, -, X3, ⟨Lc3, hQ3, l3, y3, z3⟩, st3⟩ := Jvm.LawKit.callS X2 hx (y := (⟨"java/util/Arrays", "binarySearch0", "([IIII)I"⟩ : MethodName)) hown (mvT hZ (hw _ (List.mem_of_getElem? (i := 80) rfl))) (mvT hZ (hw _ (List.mem_of_getElem? (i := 81) rfl))) (mvT hZ (hw _ (List.mem_of_getElem? (i := 75) rfl))) (mvT hZ (hw _ (List.mem_of_getElem? (i := 82) rfl))) (by decide) (backOf (W := 0) (rmb0_1 l Z a0 hw [] a1 ka vs p1 h0 n0 O0 VA hv ho) hZ (hw _ (List.mem_of_getElem? (i := 82) rfl)) (hw _ (List.mem_of_getElem? (i := 75) rfl)) (by decide) (by decide)) (g := (mkF m 11 #[.val (.ref a1), .val (.int 0), .val (.int 1), .val (.int p1)] [(.int p1), (.int 1), (.int 0), (.ref a1)])) rfl (by rw [hml]; rfl) (argsL := [(.ref a1), (.int 0), (.int 1), (.int p1)]) (rest := []) (lenOf pd6 rfl) rfl (by show 2 * 0 + _ ≤ _; exact Nat.le_of_eq rfl) (hb hby d12_11) (fun _ _ => ⟨rfl, e2, (by decide : 0 + 0 ≤ _), (by decide : 0 + 0 ≤ _)⟩)
  dsimp only [Pt.U, Pt.locs, Pt.cells, Pt.slots] at X3 l3 y3 z3 st3 hQ3
  subst l3 y3 z3
  obtain ⟨rfl, Nq3, e3⟩ := hQ3
  have N3 := Fr.app N2 Nq3
  obtain ⟨fs, hr, hrun, hended, hW, hsame⟩ := X3.leave (v := some (.int (bsF 1 vs p1))) (fun h => by rw [Bd.returns] at h; cases h)
  refine ⟨_, _, pre0 _ ?_, hrun, hended, _, _, rfl, ?_, ⟨_, rfl⟩, hW, hsame.mono (by decide) (by decide)⟩
  · show Steps p.tables e below (s₁.setTop (mkF m 0 #[.val (.ref a1), .val (.int 0), .val (.int 1), .val (.int p1)] [])) _
    refine XS.aloadN X0.here hx rfl (hb hby d12_0) rfl rfl ?_
    show Steps p.tables e below (s₁.setTop (mkF m 1 #[.val (.ref a1), .val (.int 0), .val (.int 1), .val (.int p1)] [(.ref a1)])) _
    refine X0.arraylength hx (by rw [e0]; exact Ar1.1) (State.isArrayOf_alike hZ.alike Ar1.2.1) (g := (mkF m 1 #[.val (.ref a1), .val (.int 0), .val (.int 1), .val (.int p1)] [(.ref a1)])) rfl rfl (hb hby d12_1) _ ?_
    rw [len_of Sz1 Nn1]
    show Steps p.tables e below (s₁.setTop (mkF m 2 #[.val (.ref a1), .val (.int 0), .val (.int 1), .val (.int p1)] [(.int (Int32.ofNat vs.length))])) _
    refine XS.iloadN X0.here hx rfl (hb hby d12_2) rfl ?_
    refine XS.iloadN X0.here hx rfl (hb hby d12_3) rfl ?_
    show Steps p.tables e below (s₁.setTop (mkF m 4 #[.val (.ref a1), .val (.int 0), .val (.int 1), .val (.int p1)] [(.int 1), (.int 0), (.int (Int32.ofNat vs.length))])) _
    refine st2 _ ?_
    show Steps p.tables e below (T2.setTop (mkF m 7 #[.val (.ref a1), .val (.int 0), .val (.int 1), .val (.int p1)] [])) _
    refine XS.aloadN X2.here hx rfl (hb hby d12_7) rfl rfl ?_
    refine XS.iloadN X2.here hx rfl (hb hby d12_8) rfl ?_
    refine XS.iloadN X2.here hx rfl (hb hby d12_9) rfl ?_
    refine XS.iloadN X2.here hx rfl (hb hby d12_10) rfl ?_
    show Steps p.tables e below (T2.setTop (mkF m 11 #[.val (.ref a1), .val (.int 0), .val (.int 1), .val (.int p1)] [(.int p1), (.int 1), (.int 0), (.ref a1)])) _
    refine st3 _ ?_
    show Steps p.tables e below (T3.setTop (mkF m 14 #[.val (.ref a1), .val (.int 0), .val (.int 1), .val (.int p1)] [(.int (bsF 1 vs p1))])) _
    exact retI X3 hx Bd.returns (hb hby d12_14) hr
  · show Qpure (some (.int (bsF 1 vs p1))) h0 n0 _ T3.heap _
    rw [e3]
    exact ⟨rfl, N3, rfl⟩
theorem ef_rmb0_2 (m : MethodId) (x0 : Addr) (x1 : Int32) (x2 : Int32) (x3 : Int32) : entryFrame m #[(.ref x0), (.int x1), (.int x2), (.int x3)] 8 = mkF m 0 #[.val (.ref x0), .val (.int x1), .val (.int x2), .val (.int x3), .unset, .unset, .unset, .unset] [] := by first | (simp [entryFrame, mkF, argsToLocals, Value.category]; done) | rfl
set_option maxRecDepth 65536 in
set_option maxHeartbeats 40000000 in
theorem rmb0_2 (l : Launch) (Z : State) (a0 : Array Value) (hw : ∀ d ∈ tables_1, d.before a0 Z = true) (ws : List Jvm.Cond) (a1 : Addr) (ka : ClassId) (vs : List Int32) (p1 : Int32) (h0 : Heap) (n0 : Nat) (O0 : Old Z n0 h0) (VA : Arv Z h0 a1 ka .int (Int32.ofNat vs.length) (vs.map Value.int) (.int 0)) (hv : vs.length ≤ 8) (ho : 2 ≤ vs.length) :
    MetFree l (⟨"java/util/Arrays", "binarySearch0", "([IIII)I"⟩ : MethodName) (head1 (Jvm.Cond.code (⟨"java/util/Arrays", "binarySearch0", "([IIII)I"⟩ : MethodName) jdk_65_method_59_code 8 (some .int) :: ws) ({ frames := 0, cells := 0, slots := 0, locals := 0 } : Room)) (fun a U => a = #[(.ref a1), (.int 0), (.int 2), (.int p1)] ∧ Z.Warmed39 U.vm ∧ U.heap = h0) (fun _ _ _ _ _ => True) (fun _ U o U' => ∃ v L, o = .returned v ∧ Qpure (some (.int (bsF 2 vs p1))) h0 n0 v U'.heap L ∧ FrameEnd U o U' L ({ frames := 0, cells := 0, slots := 0, locals := 0 } : Room).cells ({ frames := 0, cells := 0, slots := 0, locals := 0 } : Room).slots) := by
  refine MetFree.of_bodySF (plainFor_of_name pn5) hisR ?_
  intro p e s m args below meth c s₁ Bd hml0 hP hK
  obtain ⟨rfl, hZ, hh⟩ := hP
  have hx := Bd.exec
  have hby := Bd.bytes
  have hml : c.maxLocals = 8 := hml0
  have hown : s.vm.findClass "java/util/Arrays" = some m.cls := findClass_of_methodNamed Bd.named
  have hnm := (name_of_methodNamed Bd.named Bd.method).1
  have X0 : Stand p l e ({ frames := 0, cells := 0, slots := 0, locals := 0 } : Room) s m #[(.ref a1), (.int 0), (.int 2), (.int p1)] below meth c s₁ [] 0 0 := Stand.of_body Bd
  have e0 : s₁.heap = h0 := by rw [← hh, Bd.state]; rfl
  have N0 := Fr.nil n0
  have pre0 : ∀ t, Steps p.tables e below (s₁.setTop (mkF m 0 #[.val (.ref a1), .val (.int 0), .val (.int 2), .val (.int p1), .unset, .unset, .unset, .unset] [])) t → Steps p.tables e below (s₁.setTop (entryFrame m #[(.ref a1), (.int 0), (.int 2), (.int p1)] 8)) t := fun t k => castTop (ef_rmb0_2 m a1 (0 : Int32) (2 : Int32) p1) k
  have hNA : (Int32.ofNat vs.length).toNatClampNeg = vs.length := own_n hv
  have pf1 : ∀ target, Steps p.tables e below (s₁.setTop (mkF m 12 #[.val (.ref a1), .val (.int 0), .val (.int 2), .val (.int p1), .val (.int 0), .val (.int 1), .unset, .unset] [(.int 1), (.int 0)])) target → Steps p.tables e below (s₁.setTop (mkF m 0 #[.val (.ref a1), .val (.int 0), .val (.int 2), .val (.int p1), .unset, .unset, .unset, .unset] [])) target := by
    intro target k
    show Steps p.tables e below (s₁.setTop (mkF m 0 #[.val (.ref a1), .val (.int 0), .val (.int 2), .val (.int p1), .unset, .unset, .unset, .unset] [])) _
    refine XS.iloadN X0.here hx rfl (hb hby d14_0) rfl ?_
    refine XS.istore X0.here hx rfl (hb hby d14_1) rfl (l' := #[.val (.ref a1), .val (.int 0), .val (.int 2), .val (.int p1), .val (.int 0), .unset, .unset, .unset]) rfl ?_
    refine XS.iloadN X0.here hx rfl (hb hby d14_3) rfl ?_
    refine XS.iconst X0.here hx rfl (hb hby d14_4) ?_
    refine XS.isub X0.here hx rfl (hb hby d14_5) rfl ?_
    show Steps p.tables e below (s₁.setTop (mkF m 6 #[.val (.ref a1), .val (.int 0), .val (.int 2), .val (.int p1), .val (.int 0), .unset, .unset, .unset] [(.int 1)])) _
    refine XS.istore X0.here hx rfl (hb hby d14_6) rfl (l' := #[.val (.ref a1), .val (.int 0), .val (.int 2), .val (.int p1), .val (.int 0), .val (.int 1), .unset, .unset]) rfl ?_
    refine XS.iload X0.here hx rfl (hb hby d14_8) rfl ?_
    refine XS.iload X0.here hx rfl (hb hby d14_10) rfl ?_
    exact k
  obtain ⟨cl2, Ar2, hin2, hat2⟩ := own_at (j := (0 : Int32)) (i := 0) VA hNA (by decide) (by decide) (by omega)
  have pf3 : ∀ target, Steps p.tables e below (s₁.setTop (mkF m 33 #[.val (.ref a1), .val (.int 0), .val (.int 2), .val (.int p1), .val (.int 0), .val (.int 1), .val (.int 0), .val (.int (vs.getD 0 0))] [(.int p1), (.int (vs.getD 0 0))])) target → Steps p.tables e below (s₁.setTop (mkF m 12 #[.val (.ref a1), .val (.int 0), .val (.int 2), .val (.int p1), .val (.int 0), .val (.int 1), .unset, .unset] [(.int 1), (.int 0)])) target := by
    intro target k
    show Steps p.tables e below (s₁.setTop (mkF m 12 #[.val (.ref a1), .val (.int 0), .val (.int 2), .val (.int p1), .val (.int 0), .val (.int 1), .unset, .unset] [(.int 1), (.int 0)])) _
    refine XS.icmpNo X0.here hx rfl (hb hby d14_12) rfl (flt (by decide)).2.2.1 ?_
    refine XS.iload X0.here hx rfl (hb hby d14_15) rfl ?_
    refine XS.iload X0.here hx rfl (hb hby d14_17) rfl ?_
    refine XS.iadd X0.here hx rfl (hb hby d14_19) rfl ?_
    show Steps p.tables e below (s₁.setTop (mkF m 20 #[.val (.ref a1), .val (.int 0), .val (.int 2), .val (.int p1), .val (.int 0), .val (.int 1), .unset, .unset] [(.int 1)])) _
    refine XS.iconst X0.here hx rfl (hb hby d14_20) ?_
    refine XS.iushr X0.here hx rfl (hb hby d14_21) rfl ?_
    show Steps p.tables e below (s₁.setTop (mkF m 22 #[.val (.ref a1), .val (.int 0), .val (.int 2), .val (.int p1), .val (.int 0), .val (.int 1), .unset, .unset] [(.int 0)])) _
    refine XS.istore X0.here hx rfl (hb hby d14_22) rfl (l' := #[.val (.ref a1), .val (.int 0), .val (.int 2), .val (.int p1), .val (.int 0), .val (.int 1), .val (.int 0), .unset]) rfl ?_
    refine XS.aloadN X0.here hx rfl (hb hby d14_24) rfl rfl ?_
    refine XS.iload X0.here hx rfl (hb hby d14_25) rfl ?_
    show Steps p.tables e below (s₁.setTop (mkF m 27 #[.val (.ref a1), .val (.int 0), .val (.int 2), .val (.int p1), .val (.int 0), .val (.int 1), .val (.int 0), .unset] [(.int 0), (.ref a1)])) _
    refine X0.iaload hx (j := (0 : Int32)) (v := (.int (vs.getD 0 0))) (by rw [e0]; exact Ar2.1) (State.isArrayOf_alike hZ.alike Ar2.2.1) Ar2.2.2 hin2 hat2 (g := (mkF m 27 #[.val (.ref a1), .val (.int 0), .val (.int 2), .val (.int p1), .val (.int 0), .val (.int 1), .val (.int 0), .unset] [(.int 0), (.ref a1)])) rfl rfl (hb hby d14_27) _ ?_
    show Steps p.tables e below (s₁.setTop (mkF m 28 #[.val (.ref a1), .val (.int 0), .val (.int 2), .val (.int p1), .val (.int 0), .val (.int 1), .val (.int 0), .unset] [(.int (vs.getD 0 0))])) _
    refine XS.istore X0.here hx rfl (hb hby d14_28) rfl (l' := #[.val (.ref a1), .val (.int 0), .val (.int 2), .val (.int p1), .val (.int 0), .val (.int 1), .val (.int 0), .val (.int (vs.getD 0 0))]) rfl ?_
    refine XS.iload X0.here hx rfl (hb hby d14_30) rfl ?_
    refine XS.iloadN X0.here hx rfl (hb hby d14_32) rfl ?_
    exact k
  by_cases hc33 : (vs.getD 0 0) < p1
  · have pf4 : ∀ target, Steps p.tables e below (s₁.setTop (mkF m 12 #[.val (.ref a1), .val (.int 0), .val (.int 2), .val (.int p1), .val (.int 1), .val (.int 1), .val (.int 0), .val (.int (vs.getD 0 0))] [(.int 1), (.int 1)])) target → Steps p.tables e below (s₁.setTop (mkF m 33 #[.val (.ref a1), .val (.int 0), .val (.int 2), .val (.int p1), .val (.int 0), .val (.int 1), .val (.int 0), .val (.int (vs.getD 0 0))] [(.int p1), (.int (vs.getD 0 0))])) target := by
      intro target k
      show Steps p.tables e below (s₁.setTop (mkF m 33 #[.val (.ref a1), .val (.int 0), .val (.int 2), .val (.int p1), .val (.int 0), .val (.int 1), .val (.int 0), .val (.int (vs.getD 0 0))] [(.int p1), (.int (vs.getD 0 0))])) _
      refine XS.icmpNo X0.here hx rfl (hb hby d14_33) rfl (tlt hc33).2.1 ?_
      refine XS.iload X0.here hx rfl (hb hby d14_36) rfl ?_
      refine XS.iconst X0.here hx rfl (hb hby d14_38) ?_
      refine XS.iadd X0.here hx rfl (hb hby d14_39) rfl ?_
      show Steps p.tables e below (s₁.setTop (mkF m 40 #[.val (.ref a1), .val (.int 0), .val (.int 2), .val (.int p1), .val (.int 0), .val (.int 1), .val (.int 0), .val (.int (vs.getD 0 0))] [(.int 1)])) _
      refine XS.istore X0.here hx rfl (hb hby d14_40) rfl (l' := #[.val (.ref a1), .val (.int 0), .val (.int 2), .val (.int p1), .val (.int 1), .val (.int 1), .val (.int 0), .val (.int (vs.getD 0 0))]) rfl ?_
      refine XS.goto X0.here hx rfl (pc0 := 42) (pc' := 63) rfl (hb hby d14_42) (by decide) (by decide) ?_
      refine XS.goto X0.here hx rfl (pc0 := 63) (pc' := 8) rfl (hb hby d14_63) (by decide) (by decide) ?_
      refine XS.iload X0.here hx rfl (hb hby d14_8) rfl ?_
      refine XS.iload X0.here hx rfl (hb hby d14_10) rfl ?_
      exact k
    obtain ⟨cl5, Ar5, hin5, hat5⟩ := own_at (j := (1 : Int32)) (i := 1) VA hNA (by decide) (by decide) (by omega)
    have pf6 : ∀ target, Steps p.tables e below (s₁.setTop (mkF m 33 #[.val (.ref a1), .val (.int 0), .val (.int 2), .val (.int p1), .val (.int 1), .val (.int 1), .val (.int 1), .val (.int (vs.getD 1 0))] [(.int p1), (.int (vs.getD 1 0))])) target → Steps p.tables e below (s₁.setTop (mkF m 12 #[.val (.ref a1), .val (.int 0), .val (.int 2), .val (.int p1), .val (.int 1), .val (.int 1), .val (.int 0), .val (.int (vs.getD 0 0))] [(.int 1), (.int 1)])) target := by
      intro target k
      show Steps p.tables e below (s₁.setTop (mkF m 12 #[.val (.ref a1), .val (.int 0), .val (.int 2), .val (.int p1), .val (.int 1), .val (.int 1), .val (.int 0), .val (.int (vs.getD 0 0))] [(.int 1), (.int 1)])) _
      refine XS.icmpNo X0.here hx rfl (hb hby d14_12) rfl (flt (by decide)).2.2.1 ?_
      refine XS.iload X0.here hx rfl (hb hby d14_15) rfl ?_
      refine XS.iload X0.here hx rfl (hb hby d14_17) rfl ?_
      refine XS.iadd X0.here hx rfl (hb hby d14_19) rfl ?_
      show Steps p.tables e below (s₁.setTop (mkF m 20 #[.val (.ref a1), .val (.int 0), .val (.int 2), .val (.int p1), .val (.int 1), .val (.int 1), .val (.int 0), .val (.int (vs.getD 0 0))] [(.int 2)])) _
      refine XS.iconst X0.here hx rfl (hb hby d14_20) ?_
      refine XS.iushr X0.here hx rfl (hb hby d14_21) rfl ?_
      show Steps p.tables e below (s₁.setTop (mkF m 22 #[.val (.ref a1), .val (.int 0), .val (.int 2), .val (.int p1), .val (.int 1), .val (.int 1), .val (.int 0), .val (.int (vs.getD 0 0))] [(.int 1)])) _
      refine XS.istore X0.here hx rfl (hb hby d14_22) rfl (l' := #[.val (.ref a1), .val (.int 0), .val (.int 2), .val (.int p1), .val (.int 1), .val (.int 1), .val (.int 1), .val (.int (vs.getD 0 0))]) rfl ?_
      refine XS.aloadN X0.here hx rfl (hb hby d14_24) rfl rfl ?_
      refine XS.iload X0.here hx rfl (hb hby d14_25) rfl ?_
      show Steps p.tables e below (s₁.setTop (mkF m 27 #[.val (.ref a1), .val (.int 0), .val (.int 2), .val (.int p1), .val (.int 1), .val (.int 1), .val (.int 1), .val (.int (vs.getD 0 0))] [(.int 1), (.ref a1)])) _
      refine X0.iaload hx (j := (1 : Int32)) (v := (.int (vs.getD 1 0))) (by rw [e0]; exact Ar5.1) (State.isArrayOf_alike hZ.alike Ar5.2.1) Ar5.2.2 hin5 hat5 (g := (mkF m 27 #[.val (.ref a1), .val (.int 0), .val (.int 2), .val (.int p1), .val (.int 1), .val (.int 1), .val (.int 1), .val (.int (vs.getD 0 0))] [(.int 1), (.ref a1)])) rfl rfl (hb hby d14_27) _ ?_
      show Steps p.tables e below (s₁.setTop (mkF m 28 #[.val (.ref a1), .val (.int 0), .val (.int 2), .val (.int p1), .val (.int 1), .val (.int 1), .val (.int 1), .val (.int (vs.getD 0 0))] [(.int (vs.getD 1 0))])) _
      refine XS.istore X0.here hx rfl (hb hby d14_28) rfl (l' := #[.val (.ref a1), .val (.int 0), .val (.int 2), .val (.int p1), .val (.int 1), .val (.int 1), .val (.int 1), .val (.int (vs.getD 1 0))]) rfl ?_
      refine XS.iload X0.here hx rfl (hb hby d14_30) rfl ?_
      refine XS.iloadN X0.here hx rfl (hb hby d14_32) rfl ?_
      exact k
    by_cases hc33_7 : (vs.getD 1 0) < p1
    · have pf8 : ∀ target, Steps p.tables e below (s₁.setTop (mkF m 12 #[.val (.ref a1), .val (.int 0), .val (.int 2), .val (.int p1), .val (.int 2), .val (.int 1), .val (.int 1), .val (.int (vs.getD 1 0))] [(.int 1), (.int 2)])) target → Steps p.tables e below (s₁.setTop (mkF m 33 #[.val (.ref a1), .val (.int 0), .val (.int 2), .val (.int p1), .val (.int 1), .val (.int 1), .val (.int 1), .val (.int (vs.getD 1 0))] [(.int p1), (.int (vs.getD 1 0))])) target := by
        intro target k
        show Steps p.tables e below (s₁.setTop (mkF m 33 #[.val (.ref a1), .val (.int 0), .val (.int 2), .val (.int p1), .val (.int 1), .val (.int 1), .val (.int 1), .val (.int (vs.getD 1 0))] [(.int p1), (.int (vs.getD 1 0))])) _
        refine XS.icmpNo X0.here hx rfl (hb hby d14_33) rfl (tlt hc33_7).2.1 ?_
        refine XS.iload X0.here hx rfl (hb hby d14_36) rfl ?_
        refine XS.iconst X0.here hx rfl (hb hby d14_38) ?_
        refine XS.iadd X0.here hx rfl (hb hby d14_39) rfl ?_
        show Steps p.tables e below (s₁.setTop (mkF m 40 #[.val (.ref a1), .val (.int 0), .val (.int 2), .val (.int p1), .val (.int 1), .val (.int 1), .val (.int 1), .val (.int (vs.getD 1 0))] [(.int 2)])) _
        refine XS.istore X0.here hx rfl (hb hby d14_40) rfl (l' := #[.val (.ref a1), .val (.int 0), .val (.int 2), .val (.int p1), .val (.int 2), .val (.int 1), .val (.int 1), .val (.int (vs.getD 1 0))]) rfl ?_
        refine XS.goto X0.here hx rfl (pc0 := 42) (pc' := 63) rfl (hb hby d14_42) (by decide) (by decide) ?_
        refine XS.goto X0.here hx rfl (pc0 := 63) (pc' := 8) rfl (hb hby d14_63) (by decide) (by decide) ?_
        refine XS.iload X0.here hx rfl (hb hby d14_8) rfl ?_
        refine XS.iload X0.here hx rfl (hb hby d14_10) rfl ?_
        exact k
      obtain ⟨fs, hr, hrun, hended, hW, hsame⟩ := X0.leave (v := some (.int (-3 : Int32))) (fun h => by rw [Bd.returns] at h; cases h)
      refine ⟨_, _, pre0 _ ?_, hrun, hended, _, _, rfl, ?_, ⟨_, rfl⟩, hW, hsame.mono (by decide) (by decide)⟩
      · refine pf1 _ ?_
        refine pf3 _ ?_
        refine pf4 _ ?_
        refine pf6 _ ?_
        refine pf8 _ ?_
        show Steps p.tables e below (s₁.setTop (mkF m 12 #[.val (.ref a1), .val (.int 0), .val (.int 2), .val (.int p1), .val (.int 2), .val (.int 1), .val (.int 1), .val (.int (vs.getD 1 0))] [(.int 1), (.int 2)])) _
        refine XS.icmpYes X0.here hx rfl (pc0 := 12) (pc' := 66) rfl (hb hby d14_12) rfl (tlt (by decide)).2.2.1 (by decide) (by decide) ?_
        refine XS.iload X0.here hx rfl (hb hby d14_66) rfl ?_
        refine XS.iconst X0.here hx rfl (hb hby d14_68) ?_
        refine XS.iadd X0.here hx rfl (hb hby d14_69) rfl ?_
        show Steps p.tables e below (s₁.setTop (mkF m 70 #[.val (.ref a1), .val (.int 0), .val (.int 2), .val (.int p1), .val (.int 2), .val (.int 1), .val (.int 1), .val (.int (vs.getD 1 0))] [(.int 3)])) _
        refine XS.ineg X0.here hx rfl (hb hby d14_70) rfl ?_
        show Steps p.tables e below (s₁.setTop (mkF m 71 #[.val (.ref a1), .val (.int 0), .val (.int 2), .val (.int p1), .val (.int 2), .val (.int 1), .val (.int 1), .val (.int (vs.getD 1 0))] [(.int (-3 : Int32))])) _
        exact retI X0 hx Bd.returns (hb hby d14_71) hr
      · show Qpure (some (.int (bsF 2 vs p1))) h0 n0 _ s₁.heap _
        rw [e0]
        exact ⟨by simp only [bsF]; rw [if_pos hc33, if_pos hc33_7], N0, rfl⟩
    · by_cases hc48 : p1 < (vs.getD 1 0)
      · have pf9 : ∀ target, Steps p.tables e below (s₁.setTop (mkF m 12 #[.val (.ref a1), .val (.int 0), .val (.int 2), .val (.int p1), .val (.int 1), .val (.int 0), .val (.int 1), .val (.int (vs.getD 1 0))] [(.int 0), (.int 1)])) target → Steps p.tables e below (s₁.setTop (mkF m 33 #[.val (.ref a1), .val (.int 0), .val (.int 2), .val (.int p1), .val (.int 1), .val (.int 1), .val (.int 1), .val (.int (vs.getD 1 0))] [(.int p1), (.int (vs.getD 1 0))])) target := by
          intro target k
          show Steps p.tables e below (s₁.setTop (mkF m 33 #[.val (.ref a1), .val (.int 0), .val (.int 2), .val (.int p1), .val (.int 1), .val (.int 1), .val (.int 1), .val (.int (vs.getD 1 0))] [(.int p1), (.int (vs.getD 1 0))])) _
          refine XS.icmpYes X0.here hx rfl (pc0 := 33) (pc' := 45) rfl (hb hby d14_33) rfl (flt hc33_7).2.1 (by decide) (by decide) ?_
          refine XS.iload X0.here hx rfl (hb hby d14_45) rfl ?_
          refine XS.iloadN X0.here hx rfl (hb hby d14_47) rfl ?_
          refine XS.icmpNo X0.here hx rfl (hb hby d14_48) rfl (tlt hc48).2.2.2 ?_
          refine XS.iload X0.here hx rfl (hb hby d14_51) rfl ?_
          refine XS.iconst X0.here hx rfl (hb hby d14_53) ?_
          refine XS.isub X0.here hx rfl (hb hby d14_54) rfl ?_
          show Steps p.tables e below (s₁.setTop (mkF m 55 #[.val (.ref a1), .val (.int 0), .val (.int 2), .val (.int p1), .val (.int 1), .val (.int 1), .val (.int 1), .val (.int (vs.getD 1 0))] [(.int 0)])) _
          refine XS.istore X0.here hx rfl (hb hby d14_55) rfl (l' := #[.val (.ref a1), .val (.int 0), .val (.int 2), .val (.int p1), .val (.int 1), .val (.int 0), .val (.int 1), .val (.int (vs.getD 1 0))]) rfl ?_
          refine XS.goto X0.here hx rfl (pc0 := 57) (pc' := 63) rfl (hb hby d14_57) (by decide) (by decide) ?_
          refine XS.goto X0.here hx rfl (pc0 := 63) (pc' := 8) rfl (hb hby d14_63) (by decide) (by decide) ?_
          refine XS.iload X0.here hx rfl (hb hby d14_8) rfl ?_
          refine XS.iload X0.here hx rfl (hb hby d14_10) rfl ?_
          exact k
        obtain ⟨fs, hr, hrun, hended, hW, hsame⟩ := X0.leave (v := some (.int (-2 : Int32))) (fun h => by rw [Bd.returns] at h; cases h)
        refine ⟨_, _, pre0 _ ?_, hrun, hended, _, _, rfl, ?_, ⟨_, rfl⟩, hW, hsame.mono (by decide) (by decide)⟩
        · refine pf1 _ ?_
          refine pf3 _ ?_
          refine pf4 _ ?_
          refine pf6 _ ?_
          refine pf9 _ ?_
          show Steps p.tables e below (s₁.setTop (mkF m 12 #[.val (.ref a1), .val (.int 0), .val (.int 2), .val (.int p1), .val (.int 1), .val (.int 0), .val (.int 1), .val (.int (vs.getD 1 0))] [(.int 0), (.int 1)])) _
          refine XS.icmpYes X0.here hx rfl (pc0 := 12) (pc' := 66) rfl (hb hby d14_12) rfl (tlt (by decide)).2.2.1 (by decide) (by decide) ?_
          refine XS.iload X0.here hx rfl (hb hby d14_66) rfl ?_
          refine XS.iconst X0.here hx rfl (hb hby d14_68) ?_
          refine XS.iadd X0.here hx rfl (hb hby d14_69) rfl ?_
          show Steps p.tables e below (s₁.setTop (mkF m 70 #[.val (.ref a1), .val (.int 0), .val (.int 2), .val (.int p1), .val (.int 1), .val (.int 0), .val (.int 1), .val (.int (vs.getD 1 0))] [(.int 2)])) _
          refine XS.ineg X0.here hx rfl (hb hby d14_70) rfl ?_
          show Steps p.tables e below (s₁.setTop (mkF m 71 #[.val (.ref a1), .val (.int 0), .val (.int 2), .val (.int p1), .val (.int 1), .val (.int 0), .val (.int 1), .val (.int (vs.getD 1 0))] [(.int (-2 : Int32))])) _
          exact retI X0 hx Bd.returns (hb hby d14_71) hr
        · show Qpure (some (.int (bsF 2 vs p1))) h0 n0 _ s₁.heap _
          rw [e0]
          exact ⟨by simp only [bsF]; rw [if_pos hc33, if_neg hc33_7, if_pos hc48], N0, rfl⟩
      · obtain ⟨fs, hr, hrun, hended, hW, hsame⟩ := X0.leave (v := some (.int 1)) (fun h => by rw [Bd.returns] at h; cases h)
        refine ⟨_, _, pre0 _ ?_, hrun, hended, _, _, rfl, ?_, ⟨_, rfl⟩, hW, hsame.mono (by decide) (by decide)⟩
        · refine pf1 _ ?_
          refine pf3 _ ?_
          refine pf4 _ ?_
          refine pf6 _ ?_
          show Steps p.tables e below (s₁.setTop (mkF m 33 #[.val (.ref a1), .val (.int 0), .val (.int 2), .val (.int p1), .val (.int 1), .val (.int 1), .val (.int 1), .val (.int (vs.getD 1 0))] [(.int p1), (.int (vs.getD 1 0))])) _
          refine XS.icmpYes X0.here hx rfl (pc0 := 33) (pc' := 45) rfl (hb hby d14_33) rfl (flt hc33_7).2.1 (by decide) (by decide) ?_
          refine XS.iload X0.here hx rfl (hb hby d14_45) rfl ?_
          refine XS.iloadN X0.here hx rfl (hb hby d14_47) rfl ?_
          refine XS.icmpYes X0.here hx rfl (pc0 := 48) (pc' := 60) rfl (hb hby d14_48) rfl (flt hc48).2.2.2 (by decide) (by decide) ?_
          refine XS.iload X0.here hx rfl (hb hby d14_60) rfl ?_
          show Steps p.tables e below (s₁.setTop (mkF m 62 #[.val (.ref a1), .val (.int 0), .val (.int 2), .val (.int p1), .val (.int 1), .val (.int 1), .val (.int 1), .val (.int (vs.getD 1 0))] [(.int 1)])) _
          exact retI X0 hx Bd.returns (hb hby d14_62) hr
        · show Qpure (some (.int (bsF 2 vs p1))) h0 n0 _ s₁.heap _
          rw [e0]
          exact ⟨by simp only [bsF]; rw [if_pos hc33, if_neg hc33_7, if_neg hc48], N0, rfl⟩
  · by_cases hc48 : p1 < (vs.getD 0 0)
    · have pf10 : ∀ target, Steps p.tables e below (s₁.setTop (mkF m 12 #[.val (.ref a1), .val (.int 0), .val (.int 2), .val (.int p1), .val (.int 0), .val (.int (-1 : Int32)), .val (.int 0), .val (.int (vs.getD 0 0))] [(.int (-1 : Int32)), (.int 0)])) target → Steps p.tables e below (s₁.setTop (mkF m 33 #[.val (.ref a1), .val (.int 0), .val (.int 2), .val (.int p1), .val (.int 0), .val (.int 1), .val (.int 0), .val (.int (vs.getD 0 0))] [(.int p1), (.int (vs.getD 0 0))])) target := by
        intro target k
        show Steps p.tables e below (s₁.setTop (mkF m 33 #[.val (.ref a1), .val (.int 0), .val (.int 2), .val (.int p1), .val (.int 0), .val (.int 1), .val (.int 0), .val (.int (vs.getD 0 0))] [(.int p1), (.int (vs.getD 0 0))])) _
        refine XS.icmpYes X0.here hx rfl (pc0 := 33) (pc' := 45) rfl (hb hby d14_33) rfl (flt hc33).2.1 (by decide) (by decide) ?_
        refine XS.iload X0.here hx rfl (hb hby d14_45) rfl ?_
        refine XS.iloadN X0.here hx rfl (hb hby d14_47) rfl ?_
        refine XS.icmpNo X0.here hx rfl (hb hby d14_48) rfl (tlt hc48).2.2.2 ?_
        refine XS.iload X0.here hx rfl (hb hby d14_51) rfl ?_
        refine XS.iconst X0.here hx rfl (hb hby d14_53) ?_
        refine XS.isub X0.here hx rfl (hb hby d14_54) rfl ?_
        show Steps p.tables e below (s₁.setTop (mkF m 55 #[.val (.ref a1), .val (.int 0), .val (.int 2), .val (.int p1), .val (.int 0), .val (.int 1), .val (.int 0), .val (.int (vs.getD 0 0))] [(.int (-1 : Int32))])) _
        refine XS.istore X0.here hx rfl (hb hby d14_55) rfl (l' := #[.val (.ref a1), .val (.int 0), .val (.int 2), .val (.int p1), .val (.int 0), .val (.int (-1 : Int32)), .val (.int 0), .val (.int (vs.getD 0 0))]) rfl ?_
        refine XS.goto X0.here hx rfl (pc0 := 57) (pc' := 63) rfl (hb hby d14_57) (by decide) (by decide) ?_
        refine XS.goto X0.here hx rfl (pc0 := 63) (pc' := 8) rfl (hb hby d14_63) (by decide) (by decide) ?_
        refine XS.iload X0.here hx rfl (hb hby d14_8) rfl ?_
        refine XS.iload X0.here hx rfl (hb hby d14_10) rfl ?_
        exact k
      obtain ⟨fs, hr, hrun, hended, hW, hsame⟩ := X0.leave (v := some (.int (-1 : Int32))) (fun h => by rw [Bd.returns] at h; cases h)
      refine ⟨_, _, pre0 _ ?_, hrun, hended, _, _, rfl, ?_, ⟨_, rfl⟩, hW, hsame.mono (by decide) (by decide)⟩
      · refine pf1 _ ?_
        refine pf3 _ ?_
        refine pf10 _ ?_
        show Steps p.tables e below (s₁.setTop (mkF m 12 #[.val (.ref a1), .val (.int 0), .val (.int 2), .val (.int p1), .val (.int 0), .val (.int (-1 : Int32)), .val (.int 0), .val (.int (vs.getD 0 0))] [(.int (-1 : Int32)), (.int 0)])) _
        refine XS.icmpYes X0.here hx rfl (pc0 := 12) (pc' := 66) rfl (hb hby d14_12) rfl (tlt (by decide)).2.2.1 (by decide) (by decide) ?_
        refine XS.iload X0.here hx rfl (hb hby d14_66) rfl ?_
        refine XS.iconst X0.here hx rfl (hb hby d14_68) ?_
        refine XS.iadd X0.here hx rfl (hb hby d14_69) rfl ?_
        show Steps p.tables e below (s₁.setTop (mkF m 70 #[.val (.ref a1), .val (.int 0), .val (.int 2), .val (.int p1), .val (.int 0), .val (.int (-1 : Int32)), .val (.int 0), .val (.int (vs.getD 0 0))] [(.int 1)])) _
        refine XS.ineg X0.here hx rfl (hb hby d14_70) rfl ?_
        show Steps p.tables e below (s₁.setTop (mkF m 71 #[.val (.ref a1), .val (.int 0), .val (.int 2), .val (.int p1), .val (.int 0), .val (.int (-1 : Int32)), .val (.int 0), .val (.int (vs.getD 0 0))] [(.int (-1 : Int32))])) _
        exact retI X0 hx Bd.returns (hb hby d14_71) hr
      · show Qpure (some (.int (bsF 2 vs p1))) h0 n0 _ s₁.heap _
        rw [e0]
        exact ⟨by simp only [bsF]; rw [if_neg hc33, if_pos hc48], N0, rfl⟩
    · obtain ⟨fs, hr, hrun, hended, hW, hsame⟩ := X0.leave (v := some (.int 0)) (fun h => by rw [Bd.returns] at h; cases h)
      refine ⟨_, _, pre0 _ ?_, hrun, hended, _, _, rfl, ?_, ⟨_, rfl⟩, hW, hsame.mono (by decide) (by decide)⟩
      · refine pf1 _ ?_
        refine pf3 _ ?_
        show Steps p.tables e below (s₁.setTop (mkF m 33 #[.val (.ref a1), .val (.int 0), .val (.int 2), .val (.int p1), .val (.int 0), .val (.int 1), .val (.int 0), .val (.int (vs.getD 0 0))] [(.int p1), (.int (vs.getD 0 0))])) _
        refine XS.icmpYes X0.here hx rfl (pc0 := 33) (pc' := 45) rfl (hb hby d14_33) rfl (flt hc33).2.1 (by decide) (by decide) ?_
        refine XS.iload X0.here hx rfl (hb hby d14_45) rfl ?_
        refine XS.iloadN X0.here hx rfl (hb hby d14_47) rfl ?_
        refine XS.icmpYes X0.here hx rfl (pc0 := 48) (pc' := 60) rfl (hb hby d14_48) rfl (flt hc48).2.2.2 (by decide) (by decide) ?_
        refine XS.iload X0.here hx rfl (hb hby d14_60) rfl ?_
        show Steps p.tables e below (s₁.setTop (mkF m 62 #[.val (.ref a1), .val (.int 0), .val (.int 2), .val (.int p1), .val (.int 0), .val (.int 1), .val (.int 0), .val (.int (vs.getD 0 0))] [(.int 0)])) _
        exact retI X0 hx Bd.returns (hb hby d14_62) hr
      · show Qpure (some (.int (bsF 2 vs p1))) h0 n0 _ s₁.heap _
        rw [e0]
        exact ⟨by simp only [bsF]; rw [if_neg hc33, if_neg hc48], N0, rfl⟩
theorem ef_rmb_2 (m : MethodId) (x0 : Addr) (x1 : Int32) (x2 : Int32) (x3 : Int32) : entryFrame m #[(.ref x0), (.int x1), (.int x2), (.int x3)] 4 = mkF m 0 #[.val (.ref x0), .val (.int x1), .val (.int x2), .val (.int x3)] [] := by first | (simp [entryFrame, mkF, argsToLocals, Value.category]; done) | rfl
set_option maxRecDepth 65536 in
set_option maxHeartbeats 40000000 in
theorem rmb_2 (l : Launch) (Z : State) (a0 : Array Value) (hw : ∀ d ∈ tables_1, d.before a0 Z = true) (ws : List Jvm.Cond) (a1 : Addr) (ka : ClassId) (vs : List Int32) (p1 : Int32) (h0 : Heap) (n0 : Nat) (O0 : Old Z n0 h0) (VA : Arv Z h0 a1 ka .int (Int32.ofNat vs.length) (vs.map Value.int) (.int 0)) (hv : vs.length ≤ 8) (ho : 2 ≤ vs.length) :
    MetFree l (⟨"java/util/Arrays", "binarySearch", "([IIII)I"⟩ : MethodName) (head1 (Jvm.Cond.code (⟨"java/util/Arrays", "binarySearch", "([IIII)I"⟩ : MethodName) jdk_65_method_58_code 4 (some .int) :: ws) ({ frames := 1, cells := 0, slots := 0, locals := 19 } : Room)) (fun a U => a = #[(.ref a1), (.int 0), (.int 2), (.int p1)] ∧ Z.Warmed39 U.vm ∧ U.heap = h0) (fun _ _ _ _ _ => True) (fun _ U o U' => ∃ v L, o = .returned v ∧ Qpure (some (.int (bsF 2 vs p1))) h0 n0 v U'.heap L ∧ FrameEnd U o U' L ({ frames := 1, cells := 0, slots := 0, locals := 19 } : Room).cells ({ frames := 1, cells := 0, slots := 0, locals := 19 } : Room).slots) := by
  refine MetFree.of_bodySF (plainFor_of_name pn5) hisR ?_
  intro p e s m args below meth c s₁ Bd hml0 hP hK
  obtain ⟨rfl, hZ, hh⟩ := hP
  have hx := Bd.exec
  have hby := Bd.bytes
  have hml : c.maxLocals = 4 := hml0
  have hown : s.vm.findClass "java/util/Arrays" = some m.cls := findClass_of_methodNamed Bd.named
  have hnm := (name_of_methodNamed Bd.named Bd.method).1
  have X0 : Stand p l e ({ frames := 1, cells := 0, slots := 0, locals := 19 } : Room) s m #[(.ref a1), (.int 0), (.int 2), (.int p1)] below meth c s₁ [] 0 0 := Stand.of_body Bd
  have e0 : s₁.heap = h0 := by rw [← hh, Bd.state]; rfl
  have N0 := Fr.nil n0
  have pre0 : ∀ t, Steps p.tables e below (s₁.setTop (mkF m 0 #[.val (.ref a1), .val (.int 0), .val (.int 2), .val (.int p1)] [])) t → Steps p.tables e below (s₁.setTop (entryFrame m #[(.ref a1), (.int 0), (.int 2), (.int p1)] 4)) t := fun t k => castTop (ef_rmb_2 m a1 (0 : Int32) (2 : Int32) p1) k
  have hNA : (Int32.ofNat vs.length).toNatClampNeg = vs.length := own_n hv
  obtain ⟨cl1, Ar1, q1, Sz1, Nn1, Ha1, Gf1⟩ := id VA
  obtain ⟨_, _, ⟨T2, L2, k2, n2⟩, -, X2, ⟨Lc2, hQ2, l2, y2, z2⟩, st2⟩ := Jvm.LawKit.callS X0 hx (y := (⟨"java/util/Arrays", "rangeCheck", "(III)V"⟩ : MethodName)) hown (mvT hZ (hw _ (List.mem_of_getElem? (i := 77) rfl))) (mvT hZ (hw _ (List.mem_of_getElem? (i := 78) rfl))) (mvT hZ (hw _ (List.mem_of_getElem? (i := 75) rfl))) (mvT hZ (hw _ (List.mem_of_getElem? (i := 79) rfl))) (by decide) (backOf (W := 0) (rmrc l Z a0 hw [] (Int32.ofNat vs.length) (0 : Int32) (2 : Int32) h0 n0 O0 (by decide) (by decide) (fun q => absurd ((own_lt hv (by decide : 2 ≤ 8)).mp q) (by omega))) hZ (hw _ (List.mem_of_getElem? (i := 79) rfl)) (hw _ (List.mem_of_getElem? (i := 75) rfl)) (by decide) (by decide)) (g := (mkF m 4 #[.val (.ref a1), .val (.int 0), .val (.int 2), .val (.int p1)] [(.int 2), (.int 0), (.int (Int32.ofNat vs.length))])) rfl (by rw [hml]; rfl) (argsL := [(.int (Int32.ofNat vs.length)), (.int 0), (.int 2)]) (rest := []) (lenOf pd5 rfl) rfl (by show 2 * 0 + _ ≤ _; exact Nat.le_of_eq rfl) (hb hby d12_4) (fun _ _ => ⟨rfl, e0, (by decide : 0 + 0 ≤ _), (by decide : 0 + 0 ≤ _)⟩)
  dsimp only [Pt.U, Pt.locs, Pt.cells, Pt.slots] at X2 l2 y2 z2 st2 hQ2
  subst l2 y2 z2
  obtain ⟨rfl, Nq2, e2⟩ := hQ2
  have N2 := Fr.app N0 Nq2
  obtain ⟨_, _, ⟨T3, L3, k3, n3⟩, -, X3, ⟨Lc3, hQ3, l3, y3, z3⟩, st3⟩ := Jvm.LawKit.callS X2 hx (y := (⟨"java/util/Arrays", "binarySearch0", "([IIII)I"⟩ : MethodName)) hown (mvT hZ (hw _ (List.mem_of_getElem? (i := 80) rfl))) (mvT hZ (hw _ (List.mem_of_getElem? (i := 81) rfl))) (mvT hZ (hw _ (List.mem_of_getElem? (i := 75) rfl))) (mvT hZ (hw _ (List.mem_of_getElem? (i := 82) rfl))) (by decide) (backOf (W := 0) (rmb0_2 l Z a0 hw [] a1 ka vs p1 h0 n0 O0 VA hv ho) hZ (hw _ (List.mem_of_getElem? (i := 82) rfl)) (hw _ (List.mem_of_getElem? (i := 75) rfl)) (by decide) (by decide)) (g := (mkF m 11 #[.val (.ref a1), .val (.int 0), .val (.int 2), .val (.int p1)] [(.int p1), (.int 2), (.int 0), (.ref a1)])) rfl (by rw [hml]; rfl) (argsL := [(.ref a1), (.int 0), (.int 2), (.int p1)]) (rest := []) (lenOf pd6 rfl) rfl (by show 2 * 0 + _ ≤ _; exact Nat.le_of_eq rfl) (hb hby d12_11) (fun _ _ => ⟨rfl, e2, (by decide : 0 + 0 ≤ _), (by decide : 0 + 0 ≤ _)⟩)
  dsimp only [Pt.U, Pt.locs, Pt.cells, Pt.slots] at X3 l3 y3 z3 st3 hQ3
  subst l3 y3 z3
  obtain ⟨rfl, Nq3, e3⟩ := hQ3
  have N3 := Fr.app N2 Nq3
  obtain ⟨fs, hr, hrun, hended, hW, hsame⟩ := X3.leave (v := some (.int (bsF 2 vs p1))) (fun h => by rw [Bd.returns] at h; cases h)
  refine ⟨_, _, pre0 _ ?_, hrun, hended, _, _, rfl, ?_, ⟨_, rfl⟩, hW, hsame.mono (by decide) (by decide)⟩
  · show Steps p.tables e below (s₁.setTop (mkF m 0 #[.val (.ref a1), .val (.int 0), .val (.int 2), .val (.int p1)] [])) _
    refine XS.aloadN X0.here hx rfl (hb hby d12_0) rfl rfl ?_
    show Steps p.tables e below (s₁.setTop (mkF m 1 #[.val (.ref a1), .val (.int 0), .val (.int 2), .val (.int p1)] [(.ref a1)])) _
    refine X0.arraylength hx (by rw [e0]; exact Ar1.1) (State.isArrayOf_alike hZ.alike Ar1.2.1) (g := (mkF m 1 #[.val (.ref a1), .val (.int 0), .val (.int 2), .val (.int p1)] [(.ref a1)])) rfl rfl (hb hby d12_1) _ ?_
    rw [len_of Sz1 Nn1]
    show Steps p.tables e below (s₁.setTop (mkF m 2 #[.val (.ref a1), .val (.int 0), .val (.int 2), .val (.int p1)] [(.int (Int32.ofNat vs.length))])) _
    refine XS.iloadN X0.here hx rfl (hb hby d12_2) rfl ?_
    refine XS.iloadN X0.here hx rfl (hb hby d12_3) rfl ?_
    show Steps p.tables e below (s₁.setTop (mkF m 4 #[.val (.ref a1), .val (.int 0), .val (.int 2), .val (.int p1)] [(.int 2), (.int 0), (.int (Int32.ofNat vs.length))])) _
    refine st2 _ ?_
    show Steps p.tables e below (T2.setTop (mkF m 7 #[.val (.ref a1), .val (.int 0), .val (.int 2), .val (.int p1)] [])) _
    refine XS.aloadN X2.here hx rfl (hb hby d12_7) rfl rfl ?_
    refine XS.iloadN X2.here hx rfl (hb hby d12_8) rfl ?_
    refine XS.iloadN X2.here hx rfl (hb hby d12_9) rfl ?_
    refine XS.iloadN X2.here hx rfl (hb hby d12_10) rfl ?_
    show Steps p.tables e below (T2.setTop (mkF m 11 #[.val (.ref a1), .val (.int 0), .val (.int 2), .val (.int p1)] [(.int p1), (.int 2), (.int 0), (.ref a1)])) _
    refine st3 _ ?_
    show Steps p.tables e below (T3.setTop (mkF m 14 #[.val (.ref a1), .val (.int 0), .val (.int 2), .val (.int p1)] [(.int (bsF 2 vs p1))])) _
    exact retI X3 hx Bd.returns (hb hby d12_14) hr
  · show Qpure (some (.int (bsF 2 vs p1))) h0 n0 _ T3.heap _
    rw [e3]
    exact ⟨rfl, N3, rfl⟩
theorem ef_rmb0_3 (m : MethodId) (x0 : Addr) (x1 : Int32) (x2 : Int32) (x3 : Int32) : entryFrame m #[(.ref x0), (.int x1), (.int x2), (.int x3)] 8 = mkF m 0 #[.val (.ref x0), .val (.int x1), .val (.int x2), .val (.int x3), .unset, .unset, .unset, .unset] [] := by first | (simp [entryFrame, mkF, argsToLocals, Value.category]; done) | rfl
set_option maxRecDepth 65536 in
set_option maxHeartbeats 40000000 in
theorem rmb0_3 (l : Launch) (Z : State) (a0 : Array Value) (hw : ∀ d ∈ tables_1, d.before a0 Z = true) (ws : List Jvm.Cond) (a1 : Addr) (ka : ClassId) (vs : List Int32) (p1 : Int32) (h0 : Heap) (n0 : Nat) (O0 : Old Z n0 h0) (VA : Arv Z h0 a1 ka .int (Int32.ofNat vs.length) (vs.map Value.int) (.int 0)) (hv : vs.length ≤ 8) (ho : 3 ≤ vs.length) :
    MetFree l (⟨"java/util/Arrays", "binarySearch0", "([IIII)I"⟩ : MethodName) (head1 (Jvm.Cond.code (⟨"java/util/Arrays", "binarySearch0", "([IIII)I"⟩ : MethodName) jdk_65_method_59_code 8 (some .int) :: ws) ({ frames := 0, cells := 0, slots := 0, locals := 0 } : Room)) (fun a U => a = #[(.ref a1), (.int 0), (.int 3), (.int p1)] ∧ Z.Warmed39 U.vm ∧ U.heap = h0) (fun _ _ _ _ _ => True) (fun _ U o U' => ∃ v L, o = .returned v ∧ Qpure (some (.int (bsF 3 vs p1))) h0 n0 v U'.heap L ∧ FrameEnd U o U' L ({ frames := 0, cells := 0, slots := 0, locals := 0 } : Room).cells ({ frames := 0, cells := 0, slots := 0, locals := 0 } : Room).slots) := by
  refine MetFree.of_bodySF (plainFor_of_name pn5) hisR ?_
  intro p e s m args below meth c s₁ Bd hml0 hP hK
  obtain ⟨rfl, hZ, hh⟩ := hP
  have hx := Bd.exec
  have hby := Bd.bytes
  have hml : c.maxLocals = 8 := hml0
  have hown : s.vm.findClass "java/util/Arrays" = some m.cls := findClass_of_methodNamed Bd.named
  have hnm := (name_of_methodNamed Bd.named Bd.method).1
  have X0 : Stand p l e ({ frames := 0, cells := 0, slots := 0, locals := 0 } : Room) s m #[(.ref a1), (.int 0), (.int 3), (.int p1)] below meth c s₁ [] 0 0 := Stand.of_body Bd
  have e0 : s₁.heap = h0 := by rw [← hh, Bd.state]; rfl
  have N0 := Fr.nil n0
  have pre0 : ∀ t, Steps p.tables e below (s₁.setTop (mkF m 0 #[.val (.ref a1), .val (.int 0), .val (.int 3), .val (.int p1), .unset, .unset, .unset, .unset] [])) t → Steps p.tables e below (s₁.setTop (entryFrame m #[(.ref a1), (.int 0), (.int 3), (.int p1)] 8)) t := fun t k => castTop (ef_rmb0_3 m a1 (0 : Int32) (3 : Int32) p1) k
  have hNA : (Int32.ofNat vs.length).toNatClampNeg = vs.length := own_n hv
  have pf1 : ∀ target, Steps p.tables e below (s₁.setTop (mkF m 12 #[.val (.ref a1), .val (.int 0), .val (.int 3), .val (.int p1), .val (.int 0), .val (.int 2), .unset, .unset] [(.int 2), (.int 0)])) target → Steps p.tables e below (s₁.setTop (mkF m 0 #[.val (.ref a1), .val (.int 0), .val (.int 3), .val (.int p1), .unset, .unset, .unset, .unset] [])) target := by
    intro target k
    show Steps p.tables e below (s₁.setTop (mkF m 0 #[.val (.ref a1), .val (.int 0), .val (.int 3), .val (.int p1), .unset, .unset, .unset, .unset] [])) _
    refine XS.iloadN X0.here hx rfl (hb hby d14_0) rfl ?_
    refine XS.istore X0.here hx rfl (hb hby d14_1) rfl (l' := #[.val (.ref a1), .val (.int 0), .val (.int 3), .val (.int p1), .val (.int 0), .unset, .unset, .unset]) rfl ?_
    refine XS.iloadN X0.here hx rfl (hb hby d14_3) rfl ?_
    refine XS.iconst X0.here hx rfl (hb hby d14_4) ?_
    refine XS.isub X0.here hx rfl (hb hby d14_5) rfl ?_
    show Steps p.tables e below (s₁.setTop (mkF m 6 #[.val (.ref a1), .val (.int 0), .val (.int 3), .val (.int p1), .val (.int 0), .unset, .unset, .unset] [(.int 2)])) _
    refine XS.istore X0.here hx rfl (hb hby d14_6) rfl (l' := #[.val (.ref a1), .val (.int 0), .val (.int 3), .val (.int p1), .val (.int 0), .val (.int 2), .unset, .unset]) rfl ?_
    refine XS.iload X0.here hx rfl (hb hby d14_8) rfl ?_
    refine XS.iload X0.here hx rfl (hb hby d14_10) rfl ?_
    exact k
  obtain ⟨cl2, Ar2, hin2, hat2⟩ := own_at (j := (1 : Int32)) (i := 1) VA hNA (by decide) (by decide) (by omega)
  have pf3 : ∀ target, Steps p.tables e below (s₁.setTop (mkF m 33 #[.val (.ref a1), .val (.int 0), .val (.int 3), .val (.int p1), .val (.int 0), .val (.int 2), .val (.int 1), .val (.int (vs.getD 1 0))] [(.int p1), (.int (vs.getD 1 0))])) target → Steps p.tables e below (s₁.setTop (mkF m 12 #[.val (.ref a1), .val (.int 0), .val (.int 3), .val (.int p1), .val (.int 0), .val (.int 2), .unset, .unset] [(.int 2), (.int 0)])) target := by
    intro target k
    show Steps p.tables e below (s₁.setTop (mkF m 12 #[.val (.ref a1), .val (.int 0), .val (.int 3), .val (.int p1), .val (.int 0), .val (.int 2), .unset, .unset] [(.int 2), (.int 0)])) _
    refine XS.icmpNo X0.here hx rfl (hb hby d14_12) rfl (flt (by decide)).2.2.1 ?_
    refine XS.iload X0.here hx rfl (hb hby d14_15) rfl ?_
    refine XS.iload X0.here hx rfl (hb hby d14_17) rfl ?_
    refine XS.iadd X0.here hx rfl (hb hby d14_19) rfl ?_
    show Steps p.tables e below (s₁.setTop (mkF m 20 #[.val (.ref a1), .val (.int 0), .val (.int 3), .val (.int p1), .val (.int 0), .val (.int 2), .unset, .unset] [(.int 2)])) _
    refine XS.iconst X0.here hx rfl (hb hby d14_20) ?_
    refine XS.iushr X0.here hx rfl (hb hby d14_21) rfl ?_
    show Steps p.tables e below (s₁.setTop (mkF m 22 #[.val (.ref a1), .val (.int 0), .val (.int 3), .val (.int p1), .val (.int 0), .val (.int 2), .unset, .unset] [(.int 1)])) _
    refine XS.istore X0.here hx rfl (hb hby d14_22) rfl (l' := #[.val (.ref a1), .val (.int 0), .val (.int 3), .val (.int p1), .val (.int 0), .val (.int 2), .val (.int 1), .unset]) rfl ?_
    refine XS.aloadN X0.here hx rfl (hb hby d14_24) rfl rfl ?_
    refine XS.iload X0.here hx rfl (hb hby d14_25) rfl ?_
    show Steps p.tables e below (s₁.setTop (mkF m 27 #[.val (.ref a1), .val (.int 0), .val (.int 3), .val (.int p1), .val (.int 0), .val (.int 2), .val (.int 1), .unset] [(.int 1), (.ref a1)])) _
    refine X0.iaload hx (j := (1 : Int32)) (v := (.int (vs.getD 1 0))) (by rw [e0]; exact Ar2.1) (State.isArrayOf_alike hZ.alike Ar2.2.1) Ar2.2.2 hin2 hat2 (g := (mkF m 27 #[.val (.ref a1), .val (.int 0), .val (.int 3), .val (.int p1), .val (.int 0), .val (.int 2), .val (.int 1), .unset] [(.int 1), (.ref a1)])) rfl rfl (hb hby d14_27) _ ?_
    show Steps p.tables e below (s₁.setTop (mkF m 28 #[.val (.ref a1), .val (.int 0), .val (.int 3), .val (.int p1), .val (.int 0), .val (.int 2), .val (.int 1), .unset] [(.int (vs.getD 1 0))])) _
    refine XS.istore X0.here hx rfl (hb hby d14_28) rfl (l' := #[.val (.ref a1), .val (.int 0), .val (.int 3), .val (.int p1), .val (.int 0), .val (.int 2), .val (.int 1), .val (.int (vs.getD 1 0))]) rfl ?_
    refine XS.iload X0.here hx rfl (hb hby d14_30) rfl ?_
    refine XS.iloadN X0.here hx rfl (hb hby d14_32) rfl ?_
    exact k
  by_cases hc33 : (vs.getD 1 0) < p1
  · have pf4 : ∀ target, Steps p.tables e below (s₁.setTop (mkF m 12 #[.val (.ref a1), .val (.int 0), .val (.int 3), .val (.int p1), .val (.int 2), .val (.int 2), .val (.int 1), .val (.int (vs.getD 1 0))] [(.int 2), (.int 2)])) target → Steps p.tables e below (s₁.setTop (mkF m 33 #[.val (.ref a1), .val (.int 0), .val (.int 3), .val (.int p1), .val (.int 0), .val (.int 2), .val (.int 1), .val (.int (vs.getD 1 0))] [(.int p1), (.int (vs.getD 1 0))])) target := by
      intro target k
      show Steps p.tables e below (s₁.setTop (mkF m 33 #[.val (.ref a1), .val (.int 0), .val (.int 3), .val (.int p1), .val (.int 0), .val (.int 2), .val (.int 1), .val (.int (vs.getD 1 0))] [(.int p1), (.int (vs.getD 1 0))])) _
      refine XS.icmpNo X0.here hx rfl (hb hby d14_33) rfl (tlt hc33).2.1 ?_
      refine XS.iload X0.here hx rfl (hb hby d14_36) rfl ?_
      refine XS.iconst X0.here hx rfl (hb hby d14_38) ?_
      refine XS.iadd X0.here hx rfl (hb hby d14_39) rfl ?_
      show Steps p.tables e below (s₁.setTop (mkF m 40 #[.val (.ref a1), .val (.int 0), .val (.int 3), .val (.int p1), .val (.int 0), .val (.int 2), .val (.int 1), .val (.int (vs.getD 1 0))] [(.int 2)])) _
      refine XS.istore X0.here hx rfl (hb hby d14_40) rfl (l' := #[.val (.ref a1), .val (.int 0), .val (.int 3), .val (.int p1), .val (.int 2), .val (.int 2), .val (.int 1), .val (.int (vs.getD 1 0))]) rfl ?_
      refine XS.goto X0.here hx rfl (pc0 := 42) (pc' := 63) rfl (hb hby d14_42) (by decide) (by decide) ?_
      refine XS.goto X0.here hx rfl (pc0 := 63) (pc' := 8) rfl (hb hby d14_63) (by decide) (by decide) ?_
      refine XS.iload X0.here hx rfl (hb hby d14_8) rfl ?_
      refine XS.iload X0.here hx rfl (hb hby d14_10) rfl ?_
      exact k
    obtain ⟨cl5, Ar5, hin5, hat5⟩ := own_at (j := (2 : Int32)) (i := 2) VA hNA (by decide) (by decide) (by omega)
    have pf6 : ∀ target, Steps p.tables e below (s₁.setTop (mkF m 33 #[.val (.ref a1), .val (.int 0), .val (.int 3), .val (.int p1), .val (.int 2), .val (.int 2), .val (.int 2), .val (.int (vs.getD 2 0))] [(.int p1), (.int (vs.getD 2 0))])) target → Steps p.tables e below (s₁.setTop (mkF m 12 #[.val (.ref a1), .val (.int 0), .val (.int 3), .val (.int p1), .val (.int 2), .val (.int 2), .val (.int 1), .val (.int (vs.getD 1 0))] [(.int 2), (.int 2)])) target := by
      intro target k
      show Steps p.tables e below (s₁.setTop (mkF m 12 #[.val (.ref a1), .val (.int 0), .val (.int 3), .val (.int p1), .val (.int 2), .val (.int 2), .val (.int 1), .val (.int (vs.getD 1 0))] [(.int 2), (.int 2)])) _
      refine XS.icmpNo X0.here hx rfl (hb hby d14_12) rfl (flt (by decide)).2.2.1 ?_
      refine XS.iload X0.here hx rfl (hb hby d14_15) rfl ?_
      refine XS.iload X0.here hx rfl (hb hby d14_17) rfl ?_
      refine XS.iadd X0.here hx rfl (hb hby d14_19) rfl ?_
      show Steps p.tables e below (s₁.setTop (mkF m 20 #[.val (.ref a1), .val (.int 0), .val (.int 3), .val (.int p1), .val (.int 2), .val (.int 2), .val (.int 1), .val (.int (vs.getD 1 0))] [(.int 4)])) _
      refine XS.iconst X0.here hx rfl (hb hby d14_20) ?_
      refine XS.iushr X0.here hx rfl (hb hby d14_21) rfl ?_
      show Steps p.tables e below (s₁.setTop (mkF m 22 #[.val (.ref a1), .val (.int 0), .val (.int 3), .val (.int p1), .val (.int 2), .val (.int 2), .val (.int 1), .val (.int (vs.getD 1 0))] [(.int 2)])) _
      refine XS.istore X0.here hx rfl (hb hby d14_22) rfl (l' := #[.val (.ref a1), .val (.int 0), .val (.int 3), .val (.int p1), .val (.int 2), .val (.int 2), .val (.int 2), .val (.int (vs.getD 1 0))]) rfl ?_
      refine XS.aloadN X0.here hx rfl (hb hby d14_24) rfl rfl ?_
      refine XS.iload X0.here hx rfl (hb hby d14_25) rfl ?_
      show Steps p.tables e below (s₁.setTop (mkF m 27 #[.val (.ref a1), .val (.int 0), .val (.int 3), .val (.int p1), .val (.int 2), .val (.int 2), .val (.int 2), .val (.int (vs.getD 1 0))] [(.int 2), (.ref a1)])) _
      refine X0.iaload hx (j := (2 : Int32)) (v := (.int (vs.getD 2 0))) (by rw [e0]; exact Ar5.1) (State.isArrayOf_alike hZ.alike Ar5.2.1) Ar5.2.2 hin5 hat5 (g := (mkF m 27 #[.val (.ref a1), .val (.int 0), .val (.int 3), .val (.int p1), .val (.int 2), .val (.int 2), .val (.int 2), .val (.int (vs.getD 1 0))] [(.int 2), (.ref a1)])) rfl rfl (hb hby d14_27) _ ?_
      show Steps p.tables e below (s₁.setTop (mkF m 28 #[.val (.ref a1), .val (.int 0), .val (.int 3), .val (.int p1), .val (.int 2), .val (.int 2), .val (.int 2), .val (.int (vs.getD 1 0))] [(.int (vs.getD 2 0))])) _
      refine XS.istore X0.here hx rfl (hb hby d14_28) rfl (l' := #[.val (.ref a1), .val (.int 0), .val (.int 3), .val (.int p1), .val (.int 2), .val (.int 2), .val (.int 2), .val (.int (vs.getD 2 0))]) rfl ?_
      refine XS.iload X0.here hx rfl (hb hby d14_30) rfl ?_
      refine XS.iloadN X0.here hx rfl (hb hby d14_32) rfl ?_
      exact k
    by_cases hc33_7 : (vs.getD 2 0) < p1
    · have pf8 : ∀ target, Steps p.tables e below (s₁.setTop (mkF m 12 #[.val (.ref a1), .val (.int 0), .val (.int 3), .val (.int p1), .val (.int 3), .val (.int 2), .val (.int 2), .val (.int (vs.getD 2 0))] [(.int 2), (.int 3)])) target → Steps p.tables e below (s₁.setTop (mkF m 33 #[.val (.ref a1), .val (.int 0), .val (.int 3), .val (.int p1), .val (.int 2), .val (.int 2), .val (.int 2), .val (.int (vs.getD 2 0))] [(.int p1), (.int (vs.getD 2 0))])) target := by
        intro target k
        show Steps p.tables e below (s₁.setTop (mkF m 33 #[.val (.ref a1), .val (.int 0), .val (.int 3), .val (.int p1), .val (.int 2), .val (.int 2), .val (.int 2), .val (.int (vs.getD 2 0))] [(.int p1), (.int (vs.getD 2 0))])) _
        refine XS.icmpNo X0.here hx rfl (hb hby d14_33) rfl (tlt hc33_7).2.1 ?_
        refine XS.iload X0.here hx rfl (hb hby d14_36) rfl ?_
        refine XS.iconst X0.here hx rfl (hb hby d14_38) ?_
        refine XS.iadd X0.here hx rfl (hb hby d14_39) rfl ?_
        show Steps p.tables e below (s₁.setTop (mkF m 40 #[.val (.ref a1), .val (.int 0), .val (.int 3), .val (.int p1), .val (.int 2), .val (.int 2), .val (.int 2), .val (.int (vs.getD 2 0))] [(.int 3)])) _
        refine XS.istore X0.here hx rfl (hb hby d14_40) rfl (l' := #[.val (.ref a1), .val (.int 0), .val (.int 3), .val (.int p1), .val (.int 3), .val (.int 2), .val (.int 2), .val (.int (vs.getD 2 0))]) rfl ?_
        refine XS.goto X0.here hx rfl (pc0 := 42) (pc' := 63) rfl (hb hby d14_42) (by decide) (by decide) ?_
        refine XS.goto X0.here hx rfl (pc0 := 63) (pc' := 8) rfl (hb hby d14_63) (by decide) (by decide) ?_
        refine XS.iload X0.here hx rfl (hb hby d14_8) rfl ?_
        refine XS.iload X0.here hx rfl (hb hby d14_10) rfl ?_
        exact k
      obtain ⟨fs, hr, hrun, hended, hW, hsame⟩ := X0.leave (v := some (.int (-4 : Int32))) (fun h => by rw [Bd.returns] at h; cases h)
      refine ⟨_, _, pre0 _ ?_, hrun, hended, _, _, rfl, ?_, ⟨_, rfl⟩, hW, hsame.mono (by decide) (by decide)⟩
      · refine pf1 _ ?_
        refine pf3 _ ?_
        refine pf4 _ ?_
        refine pf6 _ ?_
        refine pf8 _ ?_
        show Steps p.tables e below (s₁.setTop (mkF m 12 #[.val (.ref a1), .val (.int 0), .val (.int 3), .val (.int p1), .val (.int 3), .val (.int 2), .val (.int 2), .val (.int (vs.getD 2 0))] [(.int 2), (.int 3)])) _
        refine XS.icmpYes X0.here hx rfl (pc0 := 12) (pc' := 66) rfl (hb hby d14_12) rfl (tlt (by decide)).2.2.1 (by decide) (by decide) ?_
        refine XS.iload X0.here hx rfl (hb hby d14_66) rfl ?_
        refine XS.iconst X0.here hx rfl (hb hby d14_68) ?_
        refine XS.iadd X0.here hx rfl (hb hby d14_69) rfl ?_
        show Steps p.tables e below (s₁.setTop (mkF m 70 #[.val (.ref a1), .val (.int 0), .val (.int 3), .val (.int p1), .val (.int 3), .val (.int 2), .val (.int 2), .val (.int (vs.getD 2 0))] [(.int 4)])) _
        refine XS.ineg X0.here hx rfl (hb hby d14_70) rfl ?_
        show Steps p.tables e below (s₁.setTop (mkF m 71 #[.val (.ref a1), .val (.int 0), .val (.int 3), .val (.int p1), .val (.int 3), .val (.int 2), .val (.int 2), .val (.int (vs.getD 2 0))] [(.int (-4 : Int32))])) _
        exact retI X0 hx Bd.returns (hb hby d14_71) hr
      · show Qpure (some (.int (bsF 3 vs p1))) h0 n0 _ s₁.heap _
        rw [e0]
        exact ⟨by simp only [bsF]; rw [if_pos hc33, if_pos hc33_7], N0, rfl⟩
    · by_cases hc48 : p1 < (vs.getD 2 0)
      · have pf9 : ∀ target, Steps p.tables e below (s₁.setTop (mkF m 12 #[.val (.ref a1), .val (.int 0), .val (.int 3), .val (.int p1), .val (.int 2), .val (.int 1), .val (.int 2), .val (.int (vs.getD 2 0))] [(.int 1), (.int 2)])) target → Steps p.tables e below (s₁.setTop (mkF m 33 #[.val (.ref a1), .val (.int 0), .val (.int 3), .val (.int p1), .val (.int 2), .val (.int 2), .val (.int 2), .val (.int (vs.getD 2 0))] [(.int p1), (.int (vs.getD 2 0))])) target := by
          intro target k
          show Steps p.tables e below (s₁.setTop (mkF m 33 #[.val (.ref a1), .val (.int 0), .val (.int 3), .val (.int p1), .val (.int 2), .val (.int 2), .val (.int 2), .val (.int (vs.getD 2 0))] [(.int p1), (.int (vs.getD 2 0))])) _
          refine XS.icmpYes X0.here hx rfl (pc0 := 33) (pc' := 45) rfl (hb hby d14_33) rfl (flt hc33_7).2.1 (by decide) (by decide) ?_
          refine XS.iload X0.here hx rfl (hb hby d14_45) rfl ?_
          refine XS.iloadN X0.here hx rfl (hb hby d14_47) rfl ?_
          refine XS.icmpNo X0.here hx rfl (hb hby d14_48) rfl (tlt hc48).2.2.2 ?_
          refine XS.iload X0.here hx rfl (hb hby d14_51) rfl ?_
          refine XS.iconst X0.here hx rfl (hb hby d14_53) ?_
          refine XS.isub X0.here hx rfl (hb hby d14_54) rfl ?_
          show Steps p.tables e below (s₁.setTop (mkF m 55 #[.val (.ref a1), .val (.int 0), .val (.int 3), .val (.int p1), .val (.int 2), .val (.int 2), .val (.int 2), .val (.int (vs.getD 2 0))] [(.int 1)])) _
          refine XS.istore X0.here hx rfl (hb hby d14_55) rfl (l' := #[.val (.ref a1), .val (.int 0), .val (.int 3), .val (.int p1), .val (.int 2), .val (.int 1), .val (.int 2), .val (.int (vs.getD 2 0))]) rfl ?_
          refine XS.goto X0.here hx rfl (pc0 := 57) (pc' := 63) rfl (hb hby d14_57) (by decide) (by decide) ?_
          refine XS.goto X0.here hx rfl (pc0 := 63) (pc' := 8) rfl (hb hby d14_63) (by decide) (by decide) ?_
          refine XS.iload X0.here hx rfl (hb hby d14_8) rfl ?_
          refine XS.iload X0.here hx rfl (hb hby d14_10) rfl ?_
          exact k
        obtain ⟨fs, hr, hrun, hended, hW, hsame⟩ := X0.leave (v := some (.int (-3 : Int32))) (fun h => by rw [Bd.returns] at h; cases h)
        refine ⟨_, _, pre0 _ ?_, hrun, hended, _, _, rfl, ?_, ⟨_, rfl⟩, hW, hsame.mono (by decide) (by decide)⟩
        · refine pf1 _ ?_
          refine pf3 _ ?_
          refine pf4 _ ?_
          refine pf6 _ ?_
          refine pf9 _ ?_
          show Steps p.tables e below (s₁.setTop (mkF m 12 #[.val (.ref a1), .val (.int 0), .val (.int 3), .val (.int p1), .val (.int 2), .val (.int 1), .val (.int 2), .val (.int (vs.getD 2 0))] [(.int 1), (.int 2)])) _
          refine XS.icmpYes X0.here hx rfl (pc0 := 12) (pc' := 66) rfl (hb hby d14_12) rfl (tlt (by decide)).2.2.1 (by decide) (by decide) ?_
          refine XS.iload X0.here hx rfl (hb hby d14_66) rfl ?_
          refine XS.iconst X0.here hx rfl (hb hby d14_68) ?_
          refine XS.iadd X0.here hx rfl (hb hby d14_69) rfl ?_
          show Steps p.tables e below (s₁.setTop (mkF m 70 #[.val (.ref a1), .val (.int 0), .val (.int 3), .val (.int p1), .val (.int 2), .val (.int 1), .val (.int 2), .val (.int (vs.getD 2 0))] [(.int 3)])) _
          refine XS.ineg X0.here hx rfl (hb hby d14_70) rfl ?_
          show Steps p.tables e below (s₁.setTop (mkF m 71 #[.val (.ref a1), .val (.int 0), .val (.int 3), .val (.int p1), .val (.int 2), .val (.int 1), .val (.int 2), .val (.int (vs.getD 2 0))] [(.int (-3 : Int32))])) _
          exact retI X0 hx Bd.returns (hb hby d14_71) hr
        · show Qpure (some (.int (bsF 3 vs p1))) h0 n0 _ s₁.heap _
          rw [e0]
          exact ⟨by simp only [bsF]; rw [if_pos hc33, if_neg hc33_7, if_pos hc48], N0, rfl⟩
      · obtain ⟨fs, hr, hrun, hended, hW, hsame⟩ := X0.leave (v := some (.int 2)) (fun h => by rw [Bd.returns] at h; cases h)
        refine ⟨_, _, pre0 _ ?_, hrun, hended, _, _, rfl, ?_, ⟨_, rfl⟩, hW, hsame.mono (by decide) (by decide)⟩
        · refine pf1 _ ?_
          refine pf3 _ ?_
          refine pf4 _ ?_
          refine pf6 _ ?_
          show Steps p.tables e below (s₁.setTop (mkF m 33 #[.val (.ref a1), .val (.int 0), .val (.int 3), .val (.int p1), .val (.int 2), .val (.int 2), .val (.int 2), .val (.int (vs.getD 2 0))] [(.int p1), (.int (vs.getD 2 0))])) _
          refine XS.icmpYes X0.here hx rfl (pc0 := 33) (pc' := 45) rfl (hb hby d14_33) rfl (flt hc33_7).2.1 (by decide) (by decide) ?_
          refine XS.iload X0.here hx rfl (hb hby d14_45) rfl ?_
          refine XS.iloadN X0.here hx rfl (hb hby d14_47) rfl ?_
          refine XS.icmpYes X0.here hx rfl (pc0 := 48) (pc' := 60) rfl (hb hby d14_48) rfl (flt hc48).2.2.2 (by decide) (by decide) ?_
          refine XS.iload X0.here hx rfl (hb hby d14_60) rfl ?_
          show Steps p.tables e below (s₁.setTop (mkF m 62 #[.val (.ref a1), .val (.int 0), .val (.int 3), .val (.int p1), .val (.int 2), .val (.int 2), .val (.int 2), .val (.int (vs.getD 2 0))] [(.int 2)])) _
          exact retI X0 hx Bd.returns (hb hby d14_62) hr
        · show Qpure (some (.int (bsF 3 vs p1))) h0 n0 _ s₁.heap _
          rw [e0]
          exact ⟨by simp only [bsF]; rw [if_pos hc33, if_neg hc33_7, if_neg hc48], N0, rfl⟩
  · by_cases hc48 : p1 < (vs.getD 1 0)
    · have pf10 : ∀ target, Steps p.tables e below (s₁.setTop (mkF m 12 #[.val (.ref a1), .val (.int 0), .val (.int 3), .val (.int p1), .val (.int 0), .val (.int 0), .val (.int 1), .val (.int (vs.getD 1 0))] [(.int 0), (.int 0)])) target → Steps p.tables e below (s₁.setTop (mkF m 33 #[.val (.ref a1), .val (.int 0), .val (.int 3), .val (.int p1), .val (.int 0), .val (.int 2), .val (.int 1), .val (.int (vs.getD 1 0))] [(.int p1), (.int (vs.getD 1 0))])) target := by
        intro target k
        show Steps p.tables e below (s₁.setTop (mkF m 33 #[.val (.ref a1), .val (.int 0), .val (.int 3), .val (.int p1), .val (.int 0), .val (.int 2), .val (.int 1), .val (.int (vs.getD 1 0))] [(.int p1), (.int (vs.getD 1 0))])) _
        refine XS.icmpYes X0.here hx rfl (pc0 := 33) (pc' := 45) rfl (hb hby d14_33) rfl (flt hc33).2.1 (by decide) (by decide) ?_
        refine XS.iload X0.here hx rfl (hb hby d14_45) rfl ?_
        refine XS.iloadN X0.here hx rfl (hb hby d14_47) rfl ?_
        refine XS.icmpNo X0.here hx rfl (hb hby d14_48) rfl (tlt hc48).2.2.2 ?_
        refine XS.iload X0.here hx rfl (hb hby d14_51) rfl ?_
        refine XS.iconst X0.here hx rfl (hb hby d14_53) ?_
        refine XS.isub X0.here hx rfl (hb hby d14_54) rfl ?_
        show Steps p.tables e below (s₁.setTop (mkF m 55 #[.val (.ref a1), .val (.int 0), .val (.int 3), .val (.int p1), .val (.int 0), .val (.int 2), .val (.int 1), .val (.int (vs.getD 1 0))] [(.int 0)])) _
        refine XS.istore X0.here hx rfl (hb hby d14_55) rfl (l' := #[.val (.ref a1), .val (.int 0), .val (.int 3), .val (.int p1), .val (.int 0), .val (.int 0), .val (.int 1), .val (.int (vs.getD 1 0))]) rfl ?_
        refine XS.goto X0.here hx rfl (pc0 := 57) (pc' := 63) rfl (hb hby d14_57) (by decide) (by decide) ?_
        refine XS.goto X0.here hx rfl (pc0 := 63) (pc' := 8) rfl (hb hby d14_63) (by decide) (by decide) ?_
        refine XS.iload X0.here hx rfl (hb hby d14_8) rfl ?_
        refine XS.iload X0.here hx rfl (hb hby d14_10) rfl ?_
        exact k
      obtain ⟨cl11, Ar11, hin11, hat11⟩ := own_at (j := (0 : Int32)) (i := 0) VA hNA (by decide) (by decide) (by omega)
      have pf12 : ∀ target, Steps p.tables e below (s₁.setTop (mkF m 33 #[.val (.ref a1), .val (.int 0), .val (.int 3), .val (.int p1), .val (.int 0), .val (.int 0), .val (.int 0), .val (.int (vs.getD 0 0))] [(.int p1), (.int (vs.getD 0 0))])) target → Steps p.tables e below (s₁.setTop (mkF m 12 #[.val (.ref a1), .val (.int 0), .val (.int 3), .val (.int p1), .val (.int 0), .val (.int 0), .val (.int 1), .val (.int (vs.getD 1 0))] [(.int 0), (.int 0)])) target := by
        intro target k
        show Steps p.tables e below (s₁.setTop (mkF m 12 #[.val (.ref a1), .val (.int 0), .val (.int 3), .val (.int p1), .val (.int 0), .val (.int 0), .val (.int 1), .val (.int (vs.getD 1 0))] [(.int 0), (.int 0)])) _
        refine XS.icmpNo X0.here hx rfl (hb hby d14_12) rfl (flt (by decide)).2.2.1 ?_
        refine XS.iload X0.here hx rfl (hb hby d14_15) rfl ?_
        refine XS.iload X0.here hx rfl (hb hby d14_17) rfl ?_
        refine XS.iadd X0.here hx rfl (hb hby d14_19) rfl ?_
        show Steps p.tables e below (s₁.setTop (mkF m 20 #[.val (.ref a1), .val (.int 0), .val (.int 3), .val (.int p1), .val (.int 0), .val (.int 0), .val (.int 1), .val (.int (vs.getD 1 0))] [(.int 0)])) _
        refine XS.iconst X0.here hx rfl (hb hby d14_20) ?_
        refine XS.iushr X0.here hx rfl (hb hby d14_21) rfl ?_
        show Steps p.tables e below (s₁.setTop (mkF m 22 #[.val (.ref a1), .val (.int 0), .val (.int 3), .val (.int p1), .val (.int 0), .val (.int 0), .val (.int 1), .val (.int (vs.getD 1 0))] [(.int 0)])) _
        refine XS.istore X0.here hx rfl (hb hby d14_22) rfl (l' := #[.val (.ref a1), .val (.int 0), .val (.int 3), .val (.int p1), .val (.int 0), .val (.int 0), .val (.int 0), .val (.int (vs.getD 1 0))]) rfl ?_
        refine XS.aloadN X0.here hx rfl (hb hby d14_24) rfl rfl ?_
        refine XS.iload X0.here hx rfl (hb hby d14_25) rfl ?_
        show Steps p.tables e below (s₁.setTop (mkF m 27 #[.val (.ref a1), .val (.int 0), .val (.int 3), .val (.int p1), .val (.int 0), .val (.int 0), .val (.int 0), .val (.int (vs.getD 1 0))] [(.int 0), (.ref a1)])) _
        refine X0.iaload hx (j := (0 : Int32)) (v := (.int (vs.getD 0 0))) (by rw [e0]; exact Ar11.1) (State.isArrayOf_alike hZ.alike Ar11.2.1) Ar11.2.2 hin11 hat11 (g := (mkF m 27 #[.val (.ref a1), .val (.int 0), .val (.int 3), .val (.int p1), .val (.int 0), .val (.int 0), .val (.int 0), .val (.int (vs.getD 1 0))] [(.int 0), (.ref a1)])) rfl rfl (hb hby d14_27) _ ?_
        show Steps p.tables e below (s₁.setTop (mkF m 28 #[.val (.ref a1), .val (.int 0), .val (.int 3), .val (.int p1), .val (.int 0), .val (.int 0), .val (.int 0), .val (.int (vs.getD 1 0))] [(.int (vs.getD 0 0))])) _
        refine XS.istore X0.here hx rfl (hb hby d14_28) rfl (l' := #[.val (.ref a1), .val (.int 0), .val (.int 3), .val (.int p1), .val (.int 0), .val (.int 0), .val (.int 0), .val (.int (vs.getD 0 0))]) rfl ?_
        refine XS.iload X0.here hx rfl (hb hby d14_30) rfl ?_
        refine XS.iloadN X0.here hx rfl (hb hby d14_32) rfl ?_
        exact k
      by_cases hc33_13 : (vs.getD 0 0) < p1
      · have pf14 : ∀ target, Steps p.tables e below (s₁.setTop (mkF m 12 #[.val (.ref a1), .val (.int 0), .val (.int 3), .val (.int p1), .val (.int 1), .val (.int 0), .val (.int 0), .val (.int (vs.getD 0 0))] [(.int 0), (.int 1)])) target → Steps p.tables e below (s₁.setTop (mkF m 33 #[.val (.ref a1), .val (.int 0), .val (.int 3), .val (.int p1), .val (.int 0), .val (.int 0), .val (.int 0), .val (.int (vs.getD 0 0))] [(.int p1), (.int (vs.getD 0 0))])) target := by
          intro target k
          show Steps p.tables e below (s₁.setTop (mkF m 33 #[.val (.ref a1), .val (.int 0), .val (.int 3), .val (.int p1), .val (.int 0), .val (.int 0), .val (.int 0), .val (.int (vs.getD 0 0))] [(.int p1), (.int (vs.getD 0 0))])) _
          refine XS.icmpNo X0.here hx rfl (hb hby d14_33) rfl (tlt hc33_13).2.1 ?_
          refine XS.iload X0.here hx rfl (hb hby d14_36) rfl ?_
          refine XS.iconst X0.here hx rfl (hb hby d14_38) ?_
          refine XS.iadd X0.here hx rfl (hb hby d14_39) rfl ?_
          show Steps p.tables e below (s₁.setTop (mkF m 40 #[.val (.ref a1), .val (.int 0), .val (.int 3), .val (.int p1), .val (.int 0), .val (.int 0), .val (.int 0), .val (.int (vs.getD 0 0))] [(.int 1)])) _
          refine XS.istore X0.here hx rfl (hb hby d14_40) rfl (l' := #[.val (.ref a1), .val (.int 0), .val (.int 3), .val (.int p1), .val (.int 1), .val (.int 0), .val (.int 0), .val (.int (vs.getD 0 0))]) rfl ?_
          refine XS.goto X0.here hx rfl (pc0 := 42) (pc' := 63) rfl (hb hby d14_42) (by decide) (by decide) ?_
          refine XS.goto X0.here hx rfl (pc0 := 63) (pc' := 8) rfl (hb hby d14_63) (by decide) (by decide) ?_
          refine XS.iload X0.here hx rfl (hb hby d14_8) rfl ?_
          refine XS.iload X0.here hx rfl (hb hby d14_10) rfl ?_
          exact k
        obtain ⟨fs, hr, hrun, hended, hW, hsame⟩ := X0.leave (v := some (.int (-2 : Int32))) (fun h => by rw [Bd.returns] at h; cases h)
        refine ⟨_, _, pre0 _ ?_, hrun, hended, _, _, rfl, ?_, ⟨_, rfl⟩, hW, hsame.mono (by decide) (by decide)⟩
        · refine pf1 _ ?_
          refine pf3 _ ?_
          refine pf10 _ ?_
          refine pf12 _ ?_
          refine pf14 _ ?_
          show Steps p.tables e below (s₁.setTop (mkF m 12 #[.val (.ref a1), .val (.int 0), .val (.int 3), .val (.int p1), .val (.int 1), .val (.int 0), .val (.int 0), .val (.int (vs.getD 0 0))] [(.int 0), (.int 1)])) _
          refine XS.icmpYes X0.here hx rfl (pc0 := 12) (pc' := 66) rfl (hb hby d14_12) rfl (tlt (by decide)).2.2.1 (by decide) (by decide) ?_
          refine XS.iload X0.here hx rfl (hb hby d14_66) rfl ?_
          refine XS.iconst X0.here hx rfl (hb hby d14_68) ?_
          refine XS.iadd X0.here hx rfl (hb hby d14_69) rfl ?_
          show Steps p.tables e below (s₁.setTop (mkF m 70 #[.val (.ref a1), .val (.int 0), .val (.int 3), .val (.int p1), .val (.int 1), .val (.int 0), .val (.int 0), .val (.int (vs.getD 0 0))] [(.int 2)])) _
          refine XS.ineg X0.here hx rfl (hb hby d14_70) rfl ?_
          show Steps p.tables e below (s₁.setTop (mkF m 71 #[.val (.ref a1), .val (.int 0), .val (.int 3), .val (.int p1), .val (.int 1), .val (.int 0), .val (.int 0), .val (.int (vs.getD 0 0))] [(.int (-2 : Int32))])) _
          exact retI X0 hx Bd.returns (hb hby d14_71) hr
        · show Qpure (some (.int (bsF 3 vs p1))) h0 n0 _ s₁.heap _
          rw [e0]
          exact ⟨by simp only [bsF]; rw [if_neg hc33, if_pos hc48, if_pos hc33_13], N0, rfl⟩
      · by_cases hc48_15 : p1 < (vs.getD 0 0)
        · have pf16 : ∀ target, Steps p.tables e below (s₁.setTop (mkF m 12 #[.val (.ref a1), .val (.int 0), .val (.int 3), .val (.int p1), .val (.int 0), .val (.int (-1 : Int32)), .val (.int 0), .val (.int (vs.getD 0 0))] [(.int (-1 : Int32)), (.int 0)])) target → Steps p.tables e below (s₁.setTop (mkF m 33 #[.val (.ref a1), .val (.int 0), .val (.int 3), .val (.int p1), .val (.int 0), .val (.int 0), .val (.int 0), .val (.int (vs.getD 0 0))] [(.int p1), (.int (vs.getD 0 0))])) target := by
            intro target k
            show Steps p.tables e below (s₁.setTop (mkF m 33 #[.val (.ref a1), .val (.int 0), .val (.int 3), .val (.int p1), .val (.int 0), .val (.int 0), .val (.int 0), .val (.int (vs.getD 0 0))] [(.int p1), (.int (vs.getD 0 0))])) _
            refine XS.icmpYes X0.here hx rfl (pc0 := 33) (pc' := 45) rfl (hb hby d14_33) rfl (flt hc33_13).2.1 (by decide) (by decide) ?_
            refine XS.iload X0.here hx rfl (hb hby d14_45) rfl ?_
            refine XS.iloadN X0.here hx rfl (hb hby d14_47) rfl ?_
            refine XS.icmpNo X0.here hx rfl (hb hby d14_48) rfl (tlt hc48_15).2.2.2 ?_
            refine XS.iload X0.here hx rfl (hb hby d14_51) rfl ?_
            refine XS.iconst X0.here hx rfl (hb hby d14_53) ?_
            refine XS.isub X0.here hx rfl (hb hby d14_54) rfl ?_
            show Steps p.tables e below (s₁.setTop (mkF m 55 #[.val (.ref a1), .val (.int 0), .val (.int 3), .val (.int p1), .val (.int 0), .val (.int 0), .val (.int 0), .val (.int (vs.getD 0 0))] [(.int (-1 : Int32))])) _
            refine XS.istore X0.here hx rfl (hb hby d14_55) rfl (l' := #[.val (.ref a1), .val (.int 0), .val (.int 3), .val (.int p1), .val (.int 0), .val (.int (-1 : Int32)), .val (.int 0), .val (.int (vs.getD 0 0))]) rfl ?_
            refine XS.goto X0.here hx rfl (pc0 := 57) (pc' := 63) rfl (hb hby d14_57) (by decide) (by decide) ?_
            refine XS.goto X0.here hx rfl (pc0 := 63) (pc' := 8) rfl (hb hby d14_63) (by decide) (by decide) ?_
            refine XS.iload X0.here hx rfl (hb hby d14_8) rfl ?_
            refine XS.iload X0.here hx rfl (hb hby d14_10) rfl ?_
            exact k
          obtain ⟨fs, hr, hrun, hended, hW, hsame⟩ := X0.leave (v := some (.int (-1 : Int32))) (fun h => by rw [Bd.returns] at h; cases h)
          refine ⟨_, _, pre0 _ ?_, hrun, hended, _, _, rfl, ?_, ⟨_, rfl⟩, hW, hsame.mono (by decide) (by decide)⟩
          · refine pf1 _ ?_
            refine pf3 _ ?_
            refine pf10 _ ?_
            refine pf12 _ ?_
            refine pf16 _ ?_
            show Steps p.tables e below (s₁.setTop (mkF m 12 #[.val (.ref a1), .val (.int 0), .val (.int 3), .val (.int p1), .val (.int 0), .val (.int (-1 : Int32)), .val (.int 0), .val (.int (vs.getD 0 0))] [(.int (-1 : Int32)), (.int 0)])) _
            refine XS.icmpYes X0.here hx rfl (pc0 := 12) (pc' := 66) rfl (hb hby d14_12) rfl (tlt (by decide)).2.2.1 (by decide) (by decide) ?_
            refine XS.iload X0.here hx rfl (hb hby d14_66) rfl ?_
            refine XS.iconst X0.here hx rfl (hb hby d14_68) ?_
            refine XS.iadd X0.here hx rfl (hb hby d14_69) rfl ?_
            show Steps p.tables e below (s₁.setTop (mkF m 70 #[.val (.ref a1), .val (.int 0), .val (.int 3), .val (.int p1), .val (.int 0), .val (.int (-1 : Int32)), .val (.int 0), .val (.int (vs.getD 0 0))] [(.int 1)])) _
            refine XS.ineg X0.here hx rfl (hb hby d14_70) rfl ?_
            show Steps p.tables e below (s₁.setTop (mkF m 71 #[.val (.ref a1), .val (.int 0), .val (.int 3), .val (.int p1), .val (.int 0), .val (.int (-1 : Int32)), .val (.int 0), .val (.int (vs.getD 0 0))] [(.int (-1 : Int32))])) _
            exact retI X0 hx Bd.returns (hb hby d14_71) hr
          · show Qpure (some (.int (bsF 3 vs p1))) h0 n0 _ s₁.heap _
            rw [e0]
            exact ⟨by simp only [bsF]; rw [if_neg hc33, if_pos hc48, if_neg hc33_13, if_pos hc48_15], N0, rfl⟩
        · obtain ⟨fs, hr, hrun, hended, hW, hsame⟩ := X0.leave (v := some (.int 0)) (fun h => by rw [Bd.returns] at h; cases h)
          refine ⟨_, _, pre0 _ ?_, hrun, hended, _, _, rfl, ?_, ⟨_, rfl⟩, hW, hsame.mono (by decide) (by decide)⟩
          · refine pf1 _ ?_
            refine pf3 _ ?_
            refine pf10 _ ?_
            refine pf12 _ ?_
            show Steps p.tables e below (s₁.setTop (mkF m 33 #[.val (.ref a1), .val (.int 0), .val (.int 3), .val (.int p1), .val (.int 0), .val (.int 0), .val (.int 0), .val (.int (vs.getD 0 0))] [(.int p1), (.int (vs.getD 0 0))])) _
            refine XS.icmpYes X0.here hx rfl (pc0 := 33) (pc' := 45) rfl (hb hby d14_33) rfl (flt hc33_13).2.1 (by decide) (by decide) ?_
            refine XS.iload X0.here hx rfl (hb hby d14_45) rfl ?_
            refine XS.iloadN X0.here hx rfl (hb hby d14_47) rfl ?_
            refine XS.icmpYes X0.here hx rfl (pc0 := 48) (pc' := 60) rfl (hb hby d14_48) rfl (flt hc48_15).2.2.2 (by decide) (by decide) ?_
            refine XS.iload X0.here hx rfl (hb hby d14_60) rfl ?_
            show Steps p.tables e below (s₁.setTop (mkF m 62 #[.val (.ref a1), .val (.int 0), .val (.int 3), .val (.int p1), .val (.int 0), .val (.int 0), .val (.int 0), .val (.int (vs.getD 0 0))] [(.int 0)])) _
            exact retI X0 hx Bd.returns (hb hby d14_62) hr
          · show Qpure (some (.int (bsF 3 vs p1))) h0 n0 _ s₁.heap _
            rw [e0]
            exact ⟨by simp only [bsF]; rw [if_neg hc33, if_pos hc48, if_neg hc33_13, if_neg hc48_15], N0, rfl⟩
    · obtain ⟨fs, hr, hrun, hended, hW, hsame⟩ := X0.leave (v := some (.int 1)) (fun h => by rw [Bd.returns] at h; cases h)
      refine ⟨_, _, pre0 _ ?_, hrun, hended, _, _, rfl, ?_, ⟨_, rfl⟩, hW, hsame.mono (by decide) (by decide)⟩
      · refine pf1 _ ?_
        refine pf3 _ ?_
        show Steps p.tables e below (s₁.setTop (mkF m 33 #[.val (.ref a1), .val (.int 0), .val (.int 3), .val (.int p1), .val (.int 0), .val (.int 2), .val (.int 1), .val (.int (vs.getD 1 0))] [(.int p1), (.int (vs.getD 1 0))])) _
        refine XS.icmpYes X0.here hx rfl (pc0 := 33) (pc' := 45) rfl (hb hby d14_33) rfl (flt hc33).2.1 (by decide) (by decide) ?_
        refine XS.iload X0.here hx rfl (hb hby d14_45) rfl ?_
        refine XS.iloadN X0.here hx rfl (hb hby d14_47) rfl ?_
        refine XS.icmpYes X0.here hx rfl (pc0 := 48) (pc' := 60) rfl (hb hby d14_48) rfl (flt hc48).2.2.2 (by decide) (by decide) ?_
        refine XS.iload X0.here hx rfl (hb hby d14_60) rfl ?_
        show Steps p.tables e below (s₁.setTop (mkF m 62 #[.val (.ref a1), .val (.int 0), .val (.int 3), .val (.int p1), .val (.int 0), .val (.int 2), .val (.int 1), .val (.int (vs.getD 1 0))] [(.int 1)])) _
        exact retI X0 hx Bd.returns (hb hby d14_62) hr
      · show Qpure (some (.int (bsF 3 vs p1))) h0 n0 _ s₁.heap _
        rw [e0]
        exact ⟨by simp only [bsF]; rw [if_neg hc33, if_neg hc48], N0, rfl⟩
theorem ef_rmb_3 (m : MethodId) (x0 : Addr) (x1 : Int32) (x2 : Int32) (x3 : Int32) : entryFrame m #[(.ref x0), (.int x1), (.int x2), (.int x3)] 4 = mkF m 0 #[.val (.ref x0), .val (.int x1), .val (.int x2), .val (.int x3)] [] := by first | (simp [entryFrame, mkF, argsToLocals, Value.category]; done) | rfl
set_option maxRecDepth 65536 in
set_option maxHeartbeats 40000000 in
theorem rmb_3 (l : Launch) (Z : State) (a0 : Array Value) (hw : ∀ d ∈ tables_1, d.before a0 Z = true) (ws : List Jvm.Cond) (a1 : Addr) (ka : ClassId) (vs : List Int32) (p1 : Int32) (h0 : Heap) (n0 : Nat) (O0 : Old Z n0 h0) (VA : Arv Z h0 a1 ka .int (Int32.ofNat vs.length) (vs.map Value.int) (.int 0)) (hv : vs.length ≤ 8) (ho : 3 ≤ vs.length) :
    MetFree l (⟨"java/util/Arrays", "binarySearch", "([IIII)I"⟩ : MethodName) (head1 (Jvm.Cond.code (⟨"java/util/Arrays", "binarySearch", "([IIII)I"⟩ : MethodName) jdk_65_method_58_code 4 (some .int) :: ws) ({ frames := 1, cells := 0, slots := 0, locals := 19 } : Room)) (fun a U => a = #[(.ref a1), (.int 0), (.int 3), (.int p1)] ∧ Z.Warmed39 U.vm ∧ U.heap = h0) (fun _ _ _ _ _ => True) (fun _ U o U' => ∃ v L, o = .returned v ∧ Qpure (some (.int (bsF 3 vs p1))) h0 n0 v U'.heap L ∧ FrameEnd U o U' L ({ frames := 1, cells := 0, slots := 0, locals := 19 } : Room).cells ({ frames := 1, cells := 0, slots := 0, locals := 19 } : Room).slots) := by
  refine MetFree.of_bodySF (plainFor_of_name pn5) hisR ?_
  intro p e s m args below meth c s₁ Bd hml0 hP hK
  obtain ⟨rfl, hZ, hh⟩ := hP
  have hx := Bd.exec
  have hby := Bd.bytes
  have hml : c.maxLocals = 4 := hml0
  have hown : s.vm.findClass "java/util/Arrays" = some m.cls := findClass_of_methodNamed Bd.named
  have hnm := (name_of_methodNamed Bd.named Bd.method).1
  have X0 : Stand p l e ({ frames := 1, cells := 0, slots := 0, locals := 19 } : Room) s m #[(.ref a1), (.int 0), (.int 3), (.int p1)] below meth c s₁ [] 0 0 := Stand.of_body Bd
  have e0 : s₁.heap = h0 := by rw [← hh, Bd.state]; rfl
  have N0 := Fr.nil n0
  have pre0 : ∀ t, Steps p.tables e below (s₁.setTop (mkF m 0 #[.val (.ref a1), .val (.int 0), .val (.int 3), .val (.int p1)] [])) t → Steps p.tables e below (s₁.setTop (entryFrame m #[(.ref a1), (.int 0), (.int 3), (.int p1)] 4)) t := fun t k => castTop (ef_rmb_3 m a1 (0 : Int32) (3 : Int32) p1) k
  have hNA : (Int32.ofNat vs.length).toNatClampNeg = vs.length := own_n hv
  obtain ⟨cl1, Ar1, q1, Sz1, Nn1, Ha1, Gf1⟩ := id VA
  obtain ⟨_, _, ⟨T2, L2, k2, n2⟩, -, X2, ⟨Lc2, hQ2, l2, y2, z2⟩, st2⟩ := Jvm.LawKit.callS X0 hx (y := (⟨"java/util/Arrays", "rangeCheck", "(III)V"⟩ : MethodName)) hown (mvT hZ (hw _ (List.mem_of_getElem? (i := 77) rfl))) (mvT hZ (hw _ (List.mem_of_getElem? (i := 78) rfl))) (mvT hZ (hw _ (List.mem_of_getElem? (i := 75) rfl))) (mvT hZ (hw _ (List.mem_of_getElem? (i := 79) rfl))) (by decide) (backOf (W := 0) (rmrc l Z a0 hw [] (Int32.ofNat vs.length) (0 : Int32) (3 : Int32) h0 n0 O0 (by decide) (by decide) (fun q => absurd ((own_lt hv (by decide : 3 ≤ 8)).mp q) (by omega))) hZ (hw _ (List.mem_of_getElem? (i := 79) rfl)) (hw _ (List.mem_of_getElem? (i := 75) rfl)) (by decide) (by decide)) (g := (mkF m 4 #[.val (.ref a1), .val (.int 0), .val (.int 3), .val (.int p1)] [(.int 3), (.int 0), (.int (Int32.ofNat vs.length))])) rfl (by rw [hml]; rfl) (argsL := [(.int (Int32.ofNat vs.length)), (.int 0), (.int 3)]) (rest := []) (lenOf pd5 rfl) rfl (by show 2 * 0 + _ ≤ _; exact Nat.le_of_eq rfl) (hb hby d12_4) (fun _ _ => ⟨rfl, e0, (by decide : 0 + 0 ≤ _), (by decide : 0 + 0 ≤ _)⟩)
  dsimp only [Pt.U, Pt.locs, Pt.cells, Pt.slots] at X2 l2 y2 z2 st2 hQ2
  subst l2 y2 z2
  obtain ⟨rfl, Nq2, e2⟩ := hQ2
  have N2 := Fr.app N0 Nq2
  obtain ⟨_, _, ⟨T3, L3, k3, n3⟩, -, X3, ⟨Lc3, hQ3, l3, y3, z3⟩, st3⟩ := Jvm.LawKit.callS X2 hx (y := (⟨"java/util/Arrays", "binarySearch0", "([IIII)I"⟩ : MethodName)) hown (mvT hZ (hw _ (List.mem_of_getElem? (i := 80) rfl))) (mvT hZ (hw _ (List.mem_of_getElem? (i := 81) rfl))) (mvT hZ (hw _ (List.mem_of_getElem? (i := 75) rfl))) (mvT hZ (hw _ (List.mem_of_getElem? (i := 82) rfl))) (by decide) (backOf (W := 0) (rmb0_3 l Z a0 hw [] a1 ka vs p1 h0 n0 O0 VA hv ho) hZ (hw _ (List.mem_of_getElem? (i := 82) rfl)) (hw _ (List.mem_of_getElem? (i := 75) rfl)) (by decide) (by decide)) (g := (mkF m 11 #[.val (.ref a1), .val (.int 0), .val (.int 3), .val (.int p1)] [(.int p1), (.int 3), (.int 0), (.ref a1)])) rfl (by rw [hml]; rfl) (argsL := [(.ref a1), (.int 0), (.int 3), (.int p1)]) (rest := []) (lenOf pd6 rfl) rfl (by show 2 * 0 + _ ≤ _; exact Nat.le_of_eq rfl) (hb hby d12_11) (fun _ _ => ⟨rfl, e2, (by decide : 0 + 0 ≤ _), (by decide : 0 + 0 ≤ _)⟩)
  dsimp only [Pt.U, Pt.locs, Pt.cells, Pt.slots] at X3 l3 y3 z3 st3 hQ3
  subst l3 y3 z3
  obtain ⟨rfl, Nq3, e3⟩ := hQ3
  have N3 := Fr.app N2 Nq3
  obtain ⟨fs, hr, hrun, hended, hW, hsame⟩ := X3.leave (v := some (.int (bsF 3 vs p1))) (fun h => by rw [Bd.returns] at h; cases h)
  refine ⟨_, _, pre0 _ ?_, hrun, hended, _, _, rfl, ?_, ⟨_, rfl⟩, hW, hsame.mono (by decide) (by decide)⟩
  · show Steps p.tables e below (s₁.setTop (mkF m 0 #[.val (.ref a1), .val (.int 0), .val (.int 3), .val (.int p1)] [])) _
    refine XS.aloadN X0.here hx rfl (hb hby d12_0) rfl rfl ?_
    show Steps p.tables e below (s₁.setTop (mkF m 1 #[.val (.ref a1), .val (.int 0), .val (.int 3), .val (.int p1)] [(.ref a1)])) _
    refine X0.arraylength hx (by rw [e0]; exact Ar1.1) (State.isArrayOf_alike hZ.alike Ar1.2.1) (g := (mkF m 1 #[.val (.ref a1), .val (.int 0), .val (.int 3), .val (.int p1)] [(.ref a1)])) rfl rfl (hb hby d12_1) _ ?_
    rw [len_of Sz1 Nn1]
    show Steps p.tables e below (s₁.setTop (mkF m 2 #[.val (.ref a1), .val (.int 0), .val (.int 3), .val (.int p1)] [(.int (Int32.ofNat vs.length))])) _
    refine XS.iloadN X0.here hx rfl (hb hby d12_2) rfl ?_
    refine XS.iloadN X0.here hx rfl (hb hby d12_3) rfl ?_
    show Steps p.tables e below (s₁.setTop (mkF m 4 #[.val (.ref a1), .val (.int 0), .val (.int 3), .val (.int p1)] [(.int 3), (.int 0), (.int (Int32.ofNat vs.length))])) _
    refine st2 _ ?_
    show Steps p.tables e below (T2.setTop (mkF m 7 #[.val (.ref a1), .val (.int 0), .val (.int 3), .val (.int p1)] [])) _
    refine XS.aloadN X2.here hx rfl (hb hby d12_7) rfl rfl ?_
    refine XS.iloadN X2.here hx rfl (hb hby d12_8) rfl ?_
    refine XS.iloadN X2.here hx rfl (hb hby d12_9) rfl ?_
    refine XS.iloadN X2.here hx rfl (hb hby d12_10) rfl ?_
    show Steps p.tables e below (T2.setTop (mkF m 11 #[.val (.ref a1), .val (.int 0), .val (.int 3), .val (.int p1)] [(.int p1), (.int 3), (.int 0), (.ref a1)])) _
    refine st3 _ ?_
    show Steps p.tables e below (T3.setTop (mkF m 14 #[.val (.ref a1), .val (.int 0), .val (.int 3), .val (.int p1)] [(.int (bsF 3 vs p1))])) _
    exact retI X3 hx Bd.returns (hb hby d12_14) hr
  · show Qpure (some (.int (bsF 3 vs p1))) h0 n0 _ T3.heap _
    rw [e3]
    exact ⟨rfl, N3, rfl⟩
theorem rmb (l : Launch) (Z : State) (a0 : Array Value) (hw : ∀ d ∈ tables_1, d.before a0 Z = true) (ws : List Jvm.Cond) (a1 : Addr) (ka : ClassId) (vs : List Int32) (o : Nat) (p1 : Int32) (h0 : Heap) (n0 : Nat) (O0 : Old Z n0 h0) (VA : Arv Z h0 a1 ka .int (Int32.ofNat vs.length) (vs.map Value.int) (.int 0)) (hv : vs.length ≤ 8) (ho1 : 1 ≤ o) (ho3 : o ≤ 3) (ho : o ≤ vs.length) :
    MetFree l (⟨"java/util/Arrays", "binarySearch", "([IIII)I"⟩ : MethodName) (head1 (Jvm.Cond.code (⟨"java/util/Arrays", "binarySearch", "([IIII)I"⟩ : MethodName) jdk_65_method_58_code 4 (some .int) :: ws) ({ frames := 1, cells := 0, slots := 0, locals := 19 } : Room)) (fun a U => a = #[(.ref a1), (.int 0), (.int (Int32.ofNat o)), (.int p1)] ∧ Z.Warmed39 U.vm ∧ U.heap = h0) (fun _ _ _ _ _ => True) (fun _ U o' U' => ∃ v L, o' = .returned v ∧ Qpure (some (.int (bsF o vs p1))) h0 n0 v U'.heap L ∧ FrameEnd U o' U' L ({ frames := 1, cells := 0, slots := 0, locals := 19 } : Room).cells ({ frames := 1, cells := 0, slots := 0, locals := 19 } : Room).slots) := by
  rcases (by omega : o = 1 ∨ o = 2 ∨ o = 3) with rfl | rfl | rfl
  · exact rmb_1 l Z a0 hw ws a1 ka vs p1 h0 n0 O0 VA hv ho
  · exact rmb_2 l Z a0 hw ws a1 ka vs p1 h0 n0 O0 VA hv ho
  · exact rmb_3 l Z a0 hw ws a1 ka vs p1 h0 n0 O0 VA hv ho
theorem d16_0 : decode jdk_29_method_69_code 0 = .ok (.iload_n 0, 1) := by decide +kernel
theorem d16_1 : decode jdk_29_method_69_code 1 = .ok (.iload_n 1, 1) := by decide +kernel
theorem d16_2 : decode jdk_29_method_69_code 2 = .ok (.if_icmp .gt 7, 3) := by decide +kernel
theorem d16_5 : decode jdk_29_method_69_code 5 = .ok (.iload_n 0, 1) := by decide +kernel
theorem d16_6 : decode jdk_29_method_69_code 6 = .ok (.goto 4, 3) := by decide +kernel
theorem d16_10 : decode jdk_29_method_69_code 10 = .ok (.ireturn, 1) := by decide +kernel
theorem ef_rmmin (m : MethodId) (x0 : Int32) (x1 : Int32) : entryFrame m #[(.int x0), (.int x1)] 2 = mkF m 0 #[.val (.int x0), .val (.int x1)] [] := by first | (simp [entryFrame, mkF, argsToLocals, Value.category]; done) | rfl
theorem pf_rmmin : plainFor (⟨"java/lang/Math", "min", "(II)I"⟩ : MethodName) = true := Jvm.Free.JP.mathPlain rfl (by decide +kernel)
set_option maxRecDepth 65536 in
set_option maxHeartbeats 40000000 in
theorem rmmin (l : Launch) (Z : State) (a0 : Array Value) (hw : ∀ d ∈ tables_1, d.before a0 Z = true) (ws : List Jvm.Cond) (p1 : Int32) (p2 : Int32) (h0 : Heap) (n0 : Nat) (O0 : Old Z n0 h0) (hp : ¬ p2 < p1) :
    MetFree l (⟨"java/lang/Math", "min", "(II)I"⟩ : MethodName) (head1 (Jvm.Cond.code (⟨"java/lang/Math", "min", "(II)I"⟩ : MethodName) jdk_29_method_69_code 2 (some .int) :: ws) ({ frames := 0, cells := 0, slots := 0, locals := 0 } : Room)) (fun a U => a = #[(.int p1), (.int p2)] ∧ Z.Warmed39 U.vm ∧ U.heap = h0) (fun _ _ _ _ _ => True) (fun _ U o U' => ∃ v L, o = .returned v ∧ Qpure (some (.int p1)) h0 n0 v U'.heap L ∧ FrameEnd U o U' L ({ frames := 0, cells := 0, slots := 0, locals := 0 } : Room).cells ({ frames := 0, cells := 0, slots := 0, locals := 0 } : Room).slots) := by
  refine MetFree.of_bodySF pf_rmmin hisR ?_
  intro p e s m args below meth c s₁ Bd hml0 hP hK
  obtain ⟨rfl, hZ, hh⟩ := hP
  have hx := Bd.exec
  have hby := Bd.bytes
  have hml : c.maxLocals = 2 := hml0
  have hown : s.vm.findClass "java/lang/Math" = some m.cls := findClass_of_methodNamed Bd.named
  have hnm := (name_of_methodNamed Bd.named Bd.method).1
  have X0 : Stand p l e ({ frames := 0, cells := 0, slots := 0, locals := 0 } : Room) s m #[(.int p1), (.int p2)] below meth c s₁ [] 0 0 := Stand.of_body Bd
  have e0 : s₁.heap = h0 := by rw [← hh, Bd.state]; rfl
  have N0 := Fr.nil n0
  have pre0 : ∀ t, Steps p.tables e below (s₁.setTop (mkF m 0 #[.val (.int p1), .val (.int p2)] [])) t → Steps p.tables e below (s₁.setTop (entryFrame m #[(.int p1), (.int p2)] 2)) t := fun t k => castTop (ef_rmmin m p1 p2) k
  obtain ⟨fs, hr, hrun, hended, hW, hsame⟩ := X0.leave (v := some (.int p1)) (fun h => by rw [Bd.returns] at h; cases h)
  refine ⟨_, _, pre0 _ ?_, hrun, hended, _, _, rfl, ?_, ⟨_, rfl⟩, hW, hsame.mono (by decide) (by decide)⟩
  · show Steps p.tables e below (s₁.setTop (mkF m 0 #[.val (.int p1), .val (.int p2)] [])) _
    refine XS.iloadN X0.here hx rfl (hb hby d16_0) rfl ?_
    refine XS.iloadN X0.here hx rfl (hb hby d16_1) rfl ?_
    refine XS.icmpNo X0.here hx rfl (hb hby d16_2) rfl (flt hp).2.2.1 ?_
    refine XS.iloadN X0.here hx rfl (hb hby d16_5) rfl ?_
    refine XS.goto X0.here hx rfl (pc0 := 6) (pc' := 10) rfl (hb hby d16_6) (by decide) (by decide) ?_
    show Steps p.tables e below (s₁.setTop (mkF m 10 #[.val (.int p1), .val (.int p2)] [(.int p1)])) _
    exact retI X0 hx Bd.returns (hb hby d16_10) hr
  · show Qpure (some (.int p1)) h0 n0 _ s₁.heap _
    rw [e0]
    exact ⟨rfl, N0, rfl⟩
theorem d15_0 : decode jdk_65_method_123_code 0 = .ok (.iload_n 1, 1) := by decide +kernel
theorem d15_1 : decode jdk_65_method_123_code 1 = .ok (.aload_n 0, 1) := by decide +kernel
theorem d15_2 : decode jdk_65_method_123_code 2 = .ok (.arraylength, 1) := by decide +kernel
theorem d15_3 : decode jdk_65_method_123_code 3 = .ok (.if_icmp .ne 11, 3) := by decide +kernel
theorem d15_14 : decode jdk_65_method_123_code 14 = .ok (.iload_n 1, 1) := by decide +kernel
theorem d15_15 : decode jdk_65_method_123_code 15 = .ok (.newarray .int, 2) := by decide +kernel
theorem d15_17 : decode jdk_65_method_123_code 17 = .ok (.astore_n 2, 1) := by decide +kernel
theorem d15_18 : decode jdk_65_method_123_code 18 = .ok (.aload_n 0, 1) := by decide +kernel
theorem d15_19 : decode jdk_65_method_123_code 19 = .ok (.iconst 0, 1) := by decide +kernel
theorem d15_20 : decode jdk_65_method_123_code 20 = .ok (.aload_n 2, 1) := by decide +kernel
theorem d15_21 : decode jdk_65_method_123_code 21 = .ok (.iconst 0, 1) := by decide +kernel
theorem d15_22 : decode jdk_65_method_123_code 22 = .ok (.aload_n 0, 1) := by decide +kernel
theorem d15_23 : decode jdk_65_method_123_code 23 = .ok (.arraylength, 1) := by decide +kernel
theorem d15_24 : decode jdk_65_method_123_code 24 = .ok (.iload_n 1, 1) := by decide +kernel
theorem d15_25 : decode jdk_65_method_123_code 25 = .ok (.invokestatic 304, 3) := by decide +kernel
theorem pd7 : parseMethodDescriptor "(II)I" = some ⟨[.int, .int], some .int⟩ := by decide +kernel
theorem d15_28 : decode jdk_65_method_123_code 28 = .ok (.invokestatic 150, 3) := by decide +kernel
theorem d15_31 : decode jdk_65_method_123_code 31 = .ok (.aload_n 2, 1) := by decide +kernel
theorem d15_32 : decode jdk_65_method_123_code 32 = .ok (.areturn, 1) := by decide +kernel
theorem ef_rmco (m : MethodId) (x0 : Addr) (x1 : Int32) : entryFrame m #[(.ref x0), (.int x1)] 3 = mkF m 0 #[.val (.ref x0), .val (.int x1), .unset] [] := by first | (simp [entryFrame, mkF, argsToLocals, Value.category]; done) | rfl
set_option maxRecDepth 65536 in
set_option maxHeartbeats 40000000 in
theorem rmco (l : Launch) (Z : State) (a0 : Array Value) (hw : ∀ d ∈ tables_1, d.before a0 Z = true) (ws : List Jvm.Cond) (a1 : Addr) (ka : ClassId) (vs : List Int32) (cn : Nat) (p1 : Int32) (h0 : Heap) (n0 : Nat) (O0 : Old Z n0 h0) (VA : Arv Z h0 a1 ka .int (Int32.ofNat vs.length) (vs.map Value.int) (.int 0)) (hv : vs.length ≤ 8) (hc : vs.length = cn) (hc1 : 1 ≤ cn) (hc4 : cn ≤ 4) (hp1 : p1 = Int32.ofNat (2 * cn)) :
    MetFree l (⟨"java/util/Arrays", "copyOf", "([II)[I"⟩ : MethodName) (head1 (Jvm.Cond.code (⟨"java/util/Arrays", "copyOf", "([II)[I"⟩ : MethodName) jdk_65_method_123_code 3 (some (.array .int)) :: ws) ({ frames := 1, cells := 1, slots := 8, locals := 18 } : Room)) (fun a U => a = #[(.ref a1), (.int p1)] ∧ Z.Warmed39 U.vm ∧ U.heap = h0) (fun _ _ _ _ _ => True) (fun _ U o U' => ∃ v L, o = .returned v ∧ Qco Z vs cn h0 n0 v U'.heap L ∧ FrameEnd U o U' L ({ frames := 1, cells := 1, slots := 8, locals := 18 } : Room).cells ({ frames := 1, cells := 1, slots := 8, locals := 18 } : Room).slots) := by
  refine MetFree.of_bodySF (plainFor_of_name pn5) hisR ?_
  intro p e s m args below meth c s₁ Bd hml0 hP hK
  obtain ⟨rfl, hZ, hh⟩ := hP
  have hx := Bd.exec
  have hby := Bd.bytes
  have hml : c.maxLocals = 3 := hml0
  have hown : s.vm.findClass "java/util/Arrays" = some m.cls := findClass_of_methodNamed Bd.named
  have hnm := (name_of_methodNamed Bd.named Bd.method).1
  have X0 : Stand p l e ({ frames := 1, cells := 1, slots := 8, locals := 18 } : Room) s m #[(.ref a1), (.int p1)] below meth c s₁ [] 0 0 := Stand.of_body Bd
  have e0 : s₁.heap = h0 := by rw [← hh, Bd.state]; rfl
  have N0 := Fr.nil n0
  have pre0 : ∀ t, Steps p.tables e below (s₁.setTop (mkF m 0 #[.val (.ref a1), .val (.int p1), .unset] [])) t → Steps p.tables e below (s₁.setTop (entryFrame m #[(.ref a1), (.int p1)] 3)) t := fun t k => castTop (ef_rmco m a1 p1) k
  have hNA : (Int32.ofNat vs.length).toNatClampNeg = vs.length := own_n hv
  have lt_a1 := VA.lt
  obtain ⟨cl1, Ar1, q1, Sz1, Nn1, Ha1, Gf1⟩ := id VA
  obtain ⟨T2, h2, k2, X2, e2, E2, A2, st2⟩ := newP X0 hx hZ (hw _ (List.mem_of_getElem? (i := 34) rfl)) e0 (g := (mkF m 15 #[.val (.ref a1), .val (.int p1), .unset] [(.int p1)])) rfl (hb hby d15_15) rfl (by rw [hp1]; exact own_nn (by omega)) (cap := 8) (by rw [hp1, own_n (by omega)]; omega) (by decide) (by decide) (by decide)
  obtain ⟨b2, g2⟩ : ∃ z, z = h0.size := ⟨_, rfl⟩
  rw [← g2] at A2 st2
  have g_b2 : n0 ≤ b2 := by rw [g2]; exact Nat.le_trans (Nat.le_of_eq O0.1.symm) O0.2.1
  have sz_b2 : h0.size ≤ b2 := by rw [g2]; exact (Keep.refl h0 []).1
  have lt_a1_b2 : a1 < b2 := Nat.lt_of_lt_of_le lt_a1 sz_b2
  have O3 := O0.ext E2
  have kp4 : Keep h0 h2 [] := (Keep.refl h0 []).ext E2
  have V_b2 := (Arv.new A2 (by rw [hp1]; exact own_nn (by omega)))
  have Vz2 : Arv Z h2 b2 k2 .int p1 ((List.replicate (2 * cn) (0 : Int32)).map Value.int) (.int 0) := by rw [List.map_replicate]; exact V_b2.pad (pad_rep [] (.int 0) (2 * cn))
  have hNz2 : p1.toNatClampNeg = (List.replicate (2 * cn) (0 : Int32)).length := by rw [List.length_replicate, hp1]; exact own_n (by omega)
  obtain ⟨cl5, Ar5, q5, Sz5, Nn5, Ha5, Gf5⟩ := id (VA.ext E2)
  obtain ⟨_, _, ⟨T6, L6, k6, n6⟩, -, X6, ⟨Lc6, hQ6, l6, y6, z6⟩, st6⟩ := Jvm.LawKit.callS X2 hx (y := (⟨"java/lang/Math", "min", "(II)I"⟩ : MethodName)) hown (mvT hZ (hw _ (List.mem_of_getElem? (i := 86) rfl))) (mvT hZ (hw _ (List.mem_of_getElem? (i := 87) rfl))) (mvT hZ (hw _ (List.mem_of_getElem? (i := 88) rfl))) (mvT hZ (hw _ (List.mem_of_getElem? (i := 89) rfl))) (by decide) (backOf (W := 4) (rmmin l Z a0 hw [] (Int32.ofNat vs.length) p1 h2 n0 O3 (by rw [hp1]; exact fun q => absurd ((own_lt (by omega) (by omega)).mp q) (by omega))) hZ (hw _ (List.mem_of_getElem? (i := 89) rfl)) (hw _ (List.mem_of_getElem? (i := 88) rfl)) (by decide) (by decide)) (g := (mkF m 25 #[.val (.ref a1), .val (.int p1), .val (.ref b2)] [(.int p1), (.int (Int32.ofNat vs.length)), (.int 0), (.ref b2), (.int 0), (.ref a1)])) rfl (by rw [hml]; rfl) (argsL := [(.int (Int32.ofNat vs.length)), (.int p1)]) (rest := [(.int 0), (.ref b2), (.int 0), (.ref a1)]) (lenOf pd7 rfl) rfl (by show 2 * 0 + _ ≤ _; exact Nat.le_of_eq rfl) (hb hby d15_25) (fun _ _ => ⟨rfl, e2, (by decide : 1 + 0 ≤ _), (by decide : 8 + 0 ≤ _)⟩)
  dsimp only [Pt.U, Pt.locs, Pt.cells, Pt.slots] at X6 l6 y6 z6 st6 hQ6
  subst l6 y6 z6
  obtain ⟨rfl, Nq6, e6⟩ := hQ6
  have N6 := Fr.app N0 Nq6
  obtain ⟨T7, h7, L7, X7, e7, N7, K7, Vr7, st7⟩ := cpA X6 hx hZ hown (hw _ (List.mem_of_getElem? (i := 90) rfl)) (hw _ (List.mem_of_getElem? (i := 93) rfl)) (hw _ (List.mem_of_getElem? (i := 91) rfl)) (hw _ (List.mem_of_getElem? (i := 92) rfl)) e6 (VA.ext E2) Vz2 (Or.inl ⟨rfl, rfl⟩) (sp := (0 : Int32)) (dp := (0 : Int32)) (nn := (Int32.ofNat vs.length)) (us := (((vs.drop 0).take vs.length).map Value.int)) (by decide) (by decide) (own_nn (by omega)) (by rw [own_n (by omega : vs.length ≤ 8)]; exact Nat.le_of_eq (by rw [show (0 : Int32).toNatClampNeg = 0 by decide]; omega)) (by rw [own_n (by omega : vs.length ≤ 8), hp1, own_n (by omega), show (0 : Int32).toNatClampNeg = 0 by decide]; omega) (own_us (by decide) (own_n (by omega)) (by omega)) (by rw [List.length_map, List.length_replicate, own_n (by omega : vs.length ≤ 8), show (0 : Int32).toNatClampNeg = 0 by decide]; omega) N6 g_b2 (g := (mkF m 28 #[.val (.ref a1), .val (.int p1), .val (.ref b2)] [(.int (Int32.ofNat vs.length)), (.int 0), (.ref b2), (.int 0), (.ref a1)])) rfl (by rw [hml]; rfl) rfl (hb hby d15_28) (by decide) (W := 0) (by show 2 * 0 + _ ≤ _; exact Nat.le_of_eq rfl) (by decide)
  have O8 := O3.keep K7 (allS g_b2 all0)
  have kp9 : Keep h0 h7 [] := kp4.trans K7 (allS (Or.inr sz_b2) all0)
  have Vc7 : Arv Z h7 b2 k2 .int (Int32.ofNat (vs.length + cn)) ((vs ++ List.replicate cn 0).map Value.int) (.int 0) := by
    have q := Vr7
    rw [own_n (by omega : vs.length ≤ 8)] at q
    have q2 : Int32.ofNat (vs.length + cn) = p1 := by rw [hp1]; congr 1; omega
    have q3 : List.take (0 : Int32).toNatClampNeg ((List.replicate (2 * cn) (0 : Int32)).map Value.int) ++ ((vs.drop 0).take vs.length).map Value.int ++ List.drop ((0 : Int32).toNatClampNeg + vs.length) ((List.replicate (2 * cn) (0 : Int32)).map Value.int) = (vs ++ List.replicate cn 0).map Value.int := by
      have q4 : (0 : Int32).toNatClampNeg = 0 := by decide
      rw [q4, Nat.zero_add, List.take_zero, List.nil_append, List.drop_zero, List.take_length, List.map_append, List.map_replicate, List.map_replicate, List.drop_replicate, show 2 * cn - vs.length = cn by omega]
    rw [q3] at q; rw [q2]; exact q
  obtain ⟨fs, hr, hrun, hended, hW, hsame⟩ := X7.leave (v := some (.ref b2)) (fun h => by rw [Bd.returns] at h; cases h)
  refine ⟨_, _, pre0 _ ?_, hrun, hended, _, _, rfl, ?_, ⟨_, rfl⟩, hW, hsame.mono (by decide) (by decide)⟩
  · show Steps p.tables e below (s₁.setTop (mkF m 0 #[.val (.ref a1), .val (.int p1), .unset] [])) _
    refine XS.iloadN X0.here hx rfl (hb hby d15_0) rfl ?_
    refine XS.aloadN X0.here hx rfl (hb hby d15_1) rfl rfl ?_
    show Steps p.tables e below (s₁.setTop (mkF m 2 #[.val (.ref a1), .val (.int p1), .unset] [(.ref a1), (.int p1)])) _
    refine X0.arraylength hx (by rw [e0]; exact Ar1.1) (State.isArrayOf_alike hZ.alike Ar1.2.1) (g := (mkF m 2 #[.val (.ref a1), .val (.int p1), .unset] [(.ref a1), (.int p1)])) rfl rfl (hb hby d15_2) _ ?_
    rw [len_of Sz1 Nn1]
    show Steps p.tables e below (s₁.setTop (mkF m 3 #[.val (.ref a1), .val (.int p1), .unset] [(.int (Int32.ofNat vs.length)), (.int p1)])) _
    refine XS.icmpYes X0.here hx rfl (pc0 := 3) (pc' := 14) rfl (hb hby d15_3) rfl (feq (by rw [hp1]; exact fun q => absurd ((own_eq (by omega) (by omega)).mp q) (by omega))).2 (by decide) (by decide) ?_
    refine XS.iloadN X0.here hx rfl (hb hby d15_14) rfl ?_
    show Steps p.tables e below (s₁.setTop (mkF m 15 #[.val (.ref a1), .val (.int p1), .unset] [(.int p1)])) _
    refine st2 _ ?_
    show Steps p.tables e below (T2.setTop (mkF m 17 #[.val (.ref a1), .val (.int p1), .unset] [(.ref b2)])) _
    refine XS.astoreN X2.here hx rfl (hb hby d15_17) rfl rfl (l' := #[.val (.ref a1), .val (.int p1), .val (.ref b2)]) rfl ?_
    refine XS.aloadN X2.here hx rfl (hb hby d15_18) rfl rfl ?_
    refine XS.iconst X2.here hx rfl (hb hby d15_19) ?_
    refine XS.aloadN X2.here hx rfl (hb hby d15_20) rfl rfl ?_
    refine XS.iconst X2.here hx rfl (hb hby d15_21) ?_
    refine XS.aloadN X2.here hx rfl (hb hby d15_22) rfl rfl ?_
    show Steps p.tables e below (T2.setTop (mkF m 23 #[.val (.ref a1), .val (.int p1), .val (.ref b2)] [(.ref a1), (.int 0), (.ref b2), (.int 0), (.ref a1)])) _
    refine X2.arraylength hx (by rw [e2]; exact Ar5.1) (State.isArrayOf_alike hZ.alike Ar5.2.1) (g := (mkF m 23 #[.val (.ref a1), .val (.int p1), .val (.ref b2)] [(.ref a1), (.int 0), (.ref b2), (.int 0), (.ref a1)])) rfl rfl (hb hby d15_23) _ ?_
    rw [len_of Sz5 Nn5]
    show Steps p.tables e below (T2.setTop (mkF m 24 #[.val (.ref a1), .val (.int p1), .val (.ref b2)] [(.int (Int32.ofNat vs.length)), (.int 0), (.ref b2), (.int 0), (.ref a1)])) _
    refine XS.iloadN X2.here hx rfl (hb hby d15_24) rfl ?_
    show Steps p.tables e below (T2.setTop (mkF m 25 #[.val (.ref a1), .val (.int p1), .val (.ref b2)] [(.int p1), (.int (Int32.ofNat vs.length)), (.int 0), (.ref b2), (.int 0), (.ref a1)])) _
    refine st6 _ ?_
    show Steps p.tables e below (T6.setTop (mkF m 28 #[.val (.ref a1), .val (.int p1), .val (.ref b2)] [(.int (Int32.ofNat vs.length)), (.int 0), (.ref b2), (.int 0), (.ref a1)])) _
    refine st7 _ ?_
    show Steps p.tables e below (T7.setTop (mkF m 31 #[.val (.ref a1), .val (.int p1), .val (.ref b2)] [])) _
    refine XS.aloadN X7.here hx rfl (hb hby d15_31) rfl rfl ?_
    show Steps p.tables e below (T7.setTop (mkF m 32 #[.val (.ref a1), .val (.int p1), .val (.ref b2)] [(.ref b2)])) _
    exact retOut X7 hx Bd.returns rfl (Or.inr (Or.inr (Or.inr (Or.inr ⟨rfl, rfl, rfl⟩)))) (hb hby d15_32) hr
  · show Qco Z vs cn h0 n0 _ T7.heap _
    rw [e7]
    exact ⟨b2, _, rfl, N7, kp9, sz_b2, Vc7⟩
theorem d11_0 : decode prog_105_method_4_code 0 = .ok (.aload_n 0, 1) := by decide +kernel
theorem d11_1 : decode prog_105_method_4_code 1 = .ok (.getfield 24, 3) := by decide +kernel
theorem d11_4 : decode prog_105_method_4_code 4 = .ok (.aload_n 0, 1) := by decide +kernel
theorem d11_5 : decode prog_105_method_4_code 5 = .ok (.getfield 20, 3) := by decide +kernel
theorem d11_8 : decode prog_105_method_4_code 8 = .ok (.if_icmp .ne 22, 3) := by decide +kernel
theorem d11_11 : decode prog_105_method_4_code 11 = .ok (.aload_n 0, 1) := by decide +kernel
theorem d11_12 : decode prog_105_method_4_code 12 = .ok (.getfield 16, 3) := by decide +kernel
theorem d11_15 : decode prog_105_method_4_code 15 = .ok (.aload_n 0, 1) := by decide +kernel
theorem d11_16 : decode prog_105_method_4_code 16 = .ok (.getfield 20, 3) := by decide +kernel
theorem d11_19 : decode prog_105_method_4_code 19 = .ok (.iconst 1, 1) := by decide +kernel
theorem d11_20 : decode prog_105_method_4_code 20 = .ok (.isub, 1) := by decide +kernel
theorem d11_21 : decode prog_105_method_4_code 21 = .ok (.iaload, 1) := by decide +kernel
theorem d11_22 : decode prog_105_method_4_code 22 = .ok (.iload_n 1, 1) := by decide +kernel
theorem d11_23 : decode prog_105_method_4_code 23 = .ok (.if_icmp .ge 7, 3) := by decide +kernel
theorem d11_26 : decode prog_105_method_4_code 26 = .ok (.iconst 1, 1) := by decide +kernel
theorem d11_27 : decode prog_105_method_4_code 27 = .ok (.goto 4, 3) := by decide +kernel
theorem d11_31 : decode prog_105_method_4_code 31 = .ok (.istore_n 2, 1) := by decide +kernel
theorem d11_32 : decode prog_105_method_4_code 32 = .ok (.aload_n 0, 1) := by decide +kernel
theorem d11_33 : decode prog_105_method_4_code 33 = .ok (.astore_n 3, 1) := by decide +kernel
theorem d11_34 : decode prog_105_method_4_code 34 = .ok (.iload_n 2, 1) := by decide +kernel
theorem d11_35 : decode prog_105_method_4_code 35 = .ok (.ifCond .ne 20, 3) := by decide +kernel
theorem d11_55 : decode prog_105_method_4_code 55 = .ok (.aload_n 0, 1) := by decide +kernel
theorem d11_56 : decode prog_105_method_4_code 56 = .ok (.getfield 16, 3) := by decide +kernel
theorem d11_59 : decode prog_105_method_4_code 59 = .ok (.astore 4, 2) := by decide +kernel
theorem d11_61 : decode prog_105_method_4_code 61 = .ok (.aload_n 0, 1) := by decide +kernel
theorem d11_62 : decode prog_105_method_4_code 62 = .ok (.getfield 27, 3) := by decide +kernel
theorem d11_65 : decode prog_105_method_4_code 65 = .ok (.astore 5, 2) := by decide +kernel
theorem d11_67 : decode prog_105_method_4_code 67 = .ok (.aload_n 0, 1) := by decide +kernel
theorem d11_68 : decode prog_105_method_4_code 68 = .ok (.getfield 27, 3) := by decide +kernel
theorem d11_71 : decode prog_105_method_4_code 71 = .ok (.iconst 0, 1) := by decide +kernel
theorem d11_72 : decode prog_105_method_4_code 72 = .ok (.iaload, 1) := by decide +kernel
theorem d11_73 : decode prog_105_method_4_code 73 = .ok (.aload_n 0, 1) := by decide +kernel
theorem d11_74 : decode prog_105_method_4_code 74 = .ok (.getfield 20, 3) := by decide +kernel
theorem d11_77 : decode prog_105_method_4_code 77 = .ok (.if_icmp .ne 15, 3) := by decide +kernel
theorem d11_80 : decode prog_105_method_4_code 80 = .ok (.aload_n 0, 1) := by decide +kernel
theorem d11_81 : decode prog_105_method_4_code 81 = .ok (.getfield 16, 3) := by decide +kernel
theorem d11_84 : decode prog_105_method_4_code 84 = .ok (.arraylength, 1) := by decide +kernel
theorem d11_85 : decode prog_105_method_4_code 85 = .ok (.aload_n 0, 1) := by decide +kernel
theorem d11_86 : decode prog_105_method_4_code 86 = .ok (.getfield 20, 3) := by decide +kernel
theorem d11_89 : decode prog_105_method_4_code 89 = .ok (.if_icmp .ne 23, 3) := by decide +kernel
theorem d11_92 : decode prog_105_method_4_code 92 = .ok (.aload_n 0, 1) := by decide +kernel
theorem d11_93 : decode prog_105_method_4_code 93 = .ok (.getfield 16, 3) := by decide +kernel
theorem d11_96 : decode prog_105_method_4_code 96 = .ok (.iconst 2, 1) := by decide +kernel
theorem d11_97 : decode prog_105_method_4_code 97 = .ok (.aload_n 0, 1) := by decide +kernel
theorem d11_98 : decode prog_105_method_4_code 98 = .ok (.getfield 20, 3) := by decide +kernel
theorem d11_101 : decode prog_105_method_4_code 101 = .ok (.imul, 1) := by decide +kernel
theorem d11_102 : decode prog_105_method_4_code 102 = .ok (.invokestatic 44, 3) := by decide +kernel
theorem pd8 : parseMethodDescriptor "([II)[I" = some ⟨[(.array .int), .int], some (.array .int)⟩ := by decide +kernel
theorem d11_105 : decode prog_105_method_4_code 105 = .ok (.astore 4, 2) := by decide +kernel
theorem d11_107 : decode prog_105_method_4_code 107 = .ok (.iconst 1, 1) := by decide +kernel
theorem d11_108 : decode prog_105_method_4_code 108 = .ok (.newarray .int, 2) := by decide +kernel
theorem d11_110 : decode prog_105_method_4_code 110 = .ok (.astore 5, 2) := by decide +kernel
theorem d11_112 : decode prog_105_method_4_code 112 = .ok (.aload 4, 2) := by decide +kernel
theorem d11_114 : decode prog_105_method_4_code 114 = .ok (.aload_n 0, 1) := by decide +kernel
theorem d11_115 : decode prog_105_method_4_code 115 = .ok (.getfield 20, 3) := by decide +kernel
theorem d11_118 : decode prog_105_method_4_code 118 = .ok (.iload_n 1, 1) := by decide +kernel
theorem d11_119 : decode prog_105_method_4_code 119 = .ok (.iastore, 1) := by decide +kernel
theorem d11_120 : decode prog_105_method_4_code 120 = .ok (.aload 5, 2) := by decide +kernel
theorem d11_122 : decode prog_105_method_4_code 122 = .ok (.iconst 0, 1) := by decide +kernel
theorem d11_123 : decode prog_105_method_4_code 123 = .ok (.aload_n 0, 1) := by decide +kernel
theorem d11_124 : decode prog_105_method_4_code 124 = .ok (.getfield 20, 3) := by decide +kernel
theorem d11_127 : decode prog_105_method_4_code 127 = .ok (.iconst 1, 1) := by decide +kernel
theorem d11_128 : decode prog_105_method_4_code 128 = .ok (.iadd, 1) := by decide +kernel
theorem d11_129 : decode prog_105_method_4_code 129 = .ok (.iastore, 1) := by decide +kernel
theorem d11_130 : decode prog_105_method_4_code 130 = .ok (.new 2, 3) := by decide +kernel
theorem d11_133 : decode prog_105_method_4_code 133 = .ok (.dup, 1) := by decide +kernel
theorem d11_134 : decode prog_105_method_4_code 134 = .ok (.aload_n 0, 1) := by decide +kernel
theorem d11_135 : decode prog_105_method_4_code 135 = .ok (.getfield 12, 3) := by decide +kernel
theorem d11_138 : decode prog_105_method_4_code 138 = .ok (.aload 4, 2) := by decide +kernel
theorem d11_140 : decode prog_105_method_4_code 140 = .ok (.aload_n 0, 1) := by decide +kernel
theorem d11_141 : decode prog_105_method_4_code 141 = .ok (.getfield 20, 3) := by decide +kernel
theorem d11_144 : decode prog_105_method_4_code 144 = .ok (.iconst 1, 1) := by decide +kernel
theorem d11_145 : decode prog_105_method_4_code 145 = .ok (.iadd, 1) := by decide +kernel
theorem d11_146 : decode prog_105_method_4_code 146 = .ok (.iload_n 2, 1) := by decide +kernel
theorem d11_147 : decode prog_105_method_4_code 147 = .ok (.ifCond .eq 12, 3) := by decide +kernel
theorem d11_150 : decode prog_105_method_4_code 150 = .ok (.aload_n 0, 1) := by decide +kernel
theorem d11_151 : decode prog_105_method_4_code 151 = .ok (.getfield 20, 3) := by decide +kernel
theorem d11_154 : decode prog_105_method_4_code 154 = .ok (.iconst 1, 1) := by decide +kernel
theorem d11_155 : decode prog_105_method_4_code 155 = .ok (.iadd, 1) := by decide +kernel
theorem d11_156 : decode prog_105_method_4_code 156 = .ok (.goto 7, 3) := by decide +kernel
theorem d11_163 : decode prog_105_method_4_code 163 = .ok (.aload 5, 2) := by decide +kernel
theorem d11_165 : decode prog_105_method_4_code 165 = .ok (.invokespecial 1, 3) := by decide +kernel
theorem d11_168 : decode prog_105_method_4_code 168 = .ok (.astore_n 3, 1) := by decide +kernel
theorem d11_169 : decode prog_105_method_4_code 169 = .ok (.aload_n 3, 1) := by decide +kernel
theorem d11_170 : decode prog_105_method_4_code 170 = .ok (.areturn, 1) := by decide +kernel
theorem d11_30 : decode prog_105_method_4_code 30 = .ok (.iconst 0, 1) := by decide +kernel
theorem d11_38 : decode prog_105_method_4_code 38 = .ok (.iconst 0, 1) := by decide +kernel
theorem d11_39 : decode prog_105_method_4_code 39 = .ok (.aload_n 0, 1) := by decide +kernel
theorem d11_40 : decode prog_105_method_4_code 40 = .ok (.getfield 16, 3) := by decide +kernel
theorem d11_43 : decode prog_105_method_4_code 43 = .ok (.iconst 0, 1) := by decide +kernel
theorem d11_44 : decode prog_105_method_4_code 44 = .ok (.aload_n 0, 1) := by decide +kernel
theorem d11_45 : decode prog_105_method_4_code 45 = .ok (.getfield 24, 3) := by decide +kernel
theorem d11_48 : decode prog_105_method_4_code 48 = .ok (.iload_n 1, 1) := by decide +kernel
theorem d11_49 : decode prog_105_method_4_code 49 = .ok (.invokestatic 38, 3) := by decide +kernel
theorem d11_52 : decode prog_105_method_4_code 52 = .ok (.if_icmp .le 117, 3) := by decide +kernel
theorem d11_159 : decode prog_105_method_4_code 159 = .ok (.aload_n 0, 1) := by decide +kernel
theorem d11_160 : decode prog_105_method_4_code 160 = .ok (.getfield 24, 3) := by decide +kernel
theorem ef_rmext (m : MethodId) (x0 : Addr) (x1 : Int32) : entryFrame m #[(.ref x0), (.int x1)] 6 = mkF m 0 #[.val (.ref x0), .val (.int x1), .unset, .unset, .unset, .unset] [] := by first | (simp [entryFrame, mkF, argsToLocals, Value.category]; done) | rfl
set_option maxRecDepth 65536 in
set_option maxHeartbeats 40000000 in
theorem rmext (l : Launch) (Z : State) (a0 : Array Value) (hw : ∀ d ∈ tables_1, d.before a0 Z = true) (ws : List Jvm.Cond) (a1 : Addr) (r : Addr) (kr : ClassId) (ss : List Addr) (vs : List Int32) (cn : Nat) (on : Nat) (p1 : Int32) (h0 : Heap) (n0 : Nat) (O0 : Old Z n0 h0) (HL : Lst Z h0 n0 a1 r vs cn on) (VR : Arv Z h0 r kr (.object "java/lang/String") (4 : Int32) (ss.map Value.ref) .null) (ho1 : 1 ≤ on) (hoc : on ≤ cn) (hc3 : cn ≤ 3) (hcv : cn ≤ vs.length) (hv : vs.length ≤ 4) :
    MetFree l (⟨"com/example/rivet_context/rivetcontext/factory/TypeListing", "extendedBy", "(I)Lcom/example/rivet_context/rivetcontext/factory/TypeListing;"⟩ : MethodName) (head1 (Jvm.Cond.code (⟨"com/example/rivet_context/rivetcontext/factory/TypeListing", "extendedBy", "(I)Lcom/example/rivet_context/rivetcontext/factory/TypeListing;"⟩ : MethodName) prog_105_method_4_code 6 (some (.object "com/example/rivet_context/rivetcontext/factory/TypeListing")) :: ws) ({ frames := 4, cells := 3, slots := 16, locals := 54 } : Room)) (fun a U => a = #[(.ref a1), (.int p1)] ∧ Z.Warmed39 U.vm ∧ U.heap = h0) (fun _ _ _ _ _ => True) (fun _ U o U' => ∃ v L, o = .returned v ∧ Qext Z r kr ss (extF vs cn on p1) n0 v U'.heap L ∧ FrameEnd U o U' L ({ frames := 4, cells := 3, slots := 16, locals := 54 } : Room).cells ({ frames := 4, cells := 3, slots := 16, locals := 54 } : Room).slots) := by
  refine MetFree.of_bodySF (plainFor_of_name pn4) hisR ?_
  intro p e s m args below meth c s₁ Bd hml0 hP hK
  obtain ⟨rfl, hZ, hh⟩ := hP
  have hx := Bd.exec
  have hby := Bd.bytes
  have hml : c.maxLocals = 6 := hml0
  have hown : s.vm.findClass "com/example/rivet_context/rivetcontext/factory/TypeListing" = some m.cls := findClass_of_methodNamed Bd.named
  have hnm := (name_of_methodNamed Bd.named Bd.method).1
  have X0 : Stand p l e ({ frames := 4, cells := 3, slots := 16, locals := 54 } : Room) s m #[(.ref a1), (.int p1)] below meth c s₁ [] 0 0 := Stand.of_body Bd
  have e0 : s₁.heap = h0 := by rw [← hh, Bd.state]; rfl
  have N0 := Fr.nil n0
  have pre0 : ∀ t, Steps p.tables e below (s₁.setTop (mkF m 0 #[.val (.ref a1), .val (.int p1), .unset, .unset, .unset, .unset] [])) t → Steps p.tables e below (s₁.setTop (entryFrame m #[(.ref a1), (.int p1)] 6)) t := fun t k => castTop (ef_rmext m a1 p1) k
  obtain ⟨g_a1, P, kP, Wa, kW, HT, VP, VW, g_P, g_Wa, nPW, rP, rW⟩ := id HL
  obtain ⟨E_a, F_r, F_p, F_c, F_o, F_w, F_i⟩ := id HT
  have VW : Arv Z h0 Wa kW .int (1 : Int32) ([Int32.ofNat cn].map Value.int) (.int 0) := VW
  have hNP : (Int32.ofNat vs.length).toNatClampNeg = vs.length := own_n (by omega)
  have hNW : (1 : Int32).toNatClampNeg = [Int32.ofNat cn].length := by rw [List.length_singleton]; decide
  have n_a1_P : a1 ≠ P := Exa.neArv E_a VP (hw _ (List.mem_of_getElem? (i := 29) rfl))
  have lt_P := VP.lt
  have n_a1_Wa : a1 ≠ Wa := Exa.neArv E_a VW (hw _ (List.mem_of_getElem? (i := 29) rfl))
  have lt_Wa := VW.lt
  have n_a1_r : a1 ≠ r := Exa.neArv E_a VR (hw _ (List.mem_of_getElem? (i := 29) rfl))
  have lt_r := VR.lt
  have lt_a1 := E_a.lt
  obtain ⟨T1, X1, e1, st1⟩ := getF X0 hx hZ hown (host := "") (Or.inl (hw _ (List.mem_of_getElem? (i := 58) rfl))) Via.refl e0 F_o (g := (mkF m 1 #[.val (.ref a1), .val (.int p1), .unset, .unset, .unset, .unset] [(.ref a1)])) rfl rfl (hb hby d11_1)
  obtain ⟨T2, X2, e2, st2⟩ := getF X1 hx hZ hown (host := "") (Or.inl (hw _ (List.mem_of_getElem? (i := 56) rfl))) Via.refl e1 F_c (g := (mkF m 5 #[.val (.ref a1), .val (.int p1), .unset, .unset, .unset, .unset] [(.ref a1), (.int (Int32.ofNat on))])) rfl rfl (hb hby d11_5)
  by_cases hc8 : (Int32.ofNat on) = (Int32.ofNat cn)
  · obtain ⟨T3, X3, e3, st3⟩ := getF X2 hx hZ hown (host := "") (Or.inl (hw _ (List.mem_of_getElem? (i := 54) rfl))) Via.refl e2 F_p (g := (mkF m 12 #[.val (.ref a1), .val (.int p1), .unset, .unset, .unset, .unset] [(.ref a1)])) rfl rfl (hb hby d11_12)
    obtain ⟨T4, X4, e4, st4⟩ := getF X3 hx hZ hown (host := "") (Or.inl (hw _ (List.mem_of_getElem? (i := 56) rfl))) Via.refl e3 F_c (g := (mkF m 16 #[.val (.ref a1), .val (.int p1), .unset, .unset, .unset, .unset] [(.ref a1), (.ref P)])) rfl rfl (hb hby d11_16)
    obtain ⟨cl5, Ar5, hin5, hat5⟩ := own_at (j := ((Int32.ofNat cn) - (1 : Int32))) (i := (cn - 1)) VP hNP (by rw [own_sub1 (by omega) (by omega)]; exact own_nn (by omega)) (by rw [own_sub1 (by omega) (by omega)]; exact own_n (by omega)) (by omega)
    have pf6 : ∀ target, Steps p.tables e below (T4.setTop (mkF m 23 #[.val (.ref a1), .val (.int p1), .unset, .unset, .unset, .unset] [(.int p1), (.int (vs.getD (cn - 1) 0))])) target → Steps p.tables e below (s₁.setTop (mkF m 0 #[.val (.ref a1), .val (.int p1), .unset, .unset, .unset, .unset] [])) target := by
      intro target k
      show Steps p.tables e below (s₁.setTop (mkF m 0 #[.val (.ref a1), .val (.int p1), .unset, .unset, .unset, .unset] [])) _
      refine XS.aloadN X0.here hx rfl (hb hby d11_0) rfl rfl ?_
      show Steps p.tables e below (s₁.setTop (mkF m 1 #[.val (.ref a1), .val (.int p1), .unset, .unset, .unset, .unset] [(.ref a1)])) _
      refine st1 _ ?_
      show Steps p.tables e below (T1.setTop (mkF m 4 #[.val (.ref a1), .val (.int p1), .unset, .unset, .unset, .unset] [(.int (Int32.ofNat on))])) _
      refine XS.aloadN X1.here hx rfl (hb hby d11_4) rfl rfl ?_
      show Steps p.tables e below (T1.setTop (mkF m 5 #[.val (.ref a1), .val (.int p1), .unset, .unset, .unset, .unset] [(.ref a1), (.int (Int32.ofNat on))])) _
      refine st2 _ ?_
      show Steps p.tables e below (T2.setTop (mkF m 8 #[.val (.ref a1), .val (.int p1), .unset, .unset, .unset, .unset] [(.int (Int32.ofNat cn)), (.int (Int32.ofNat on))])) _
      refine XS.icmpNo X2.here hx rfl (hb hby d11_8) rfl (teq hc8).2 ?_
      refine XS.aloadN X2.here hx rfl (hb hby d11_11) rfl rfl ?_
      show Steps p.tables e below (T2.setTop (mkF m 12 #[.val (.ref a1), .val (.int p1), .unset, .unset, .unset, .unset] [(.ref a1)])) _
      refine st3 _ ?_
      show Steps p.tables e below (T3.setTop (mkF m 15 #[.val (.ref a1), .val (.int p1), .unset, .unset, .unset, .unset] [(.ref P)])) _
      refine XS.aloadN X3.here hx rfl (hb hby d11_15) rfl rfl ?_
      show Steps p.tables e below (T3.setTop (mkF m 16 #[.val (.ref a1), .val (.int p1), .unset, .unset, .unset, .unset] [(.ref a1), (.ref P)])) _
      refine st4 _ ?_
      show Steps p.tables e below (T4.setTop (mkF m 19 #[.val (.ref a1), .val (.int p1), .unset, .unset, .unset, .unset] [(.int (Int32.ofNat cn)), (.ref P)])) _
      refine XS.iconst X4.here hx rfl (hb hby d11_19) ?_
      refine XS.isub X4.here hx rfl (hb hby d11_20) rfl ?_
      show Steps p.tables e below (T4.setTop (mkF m 21 #[.val (.ref a1), .val (.int p1), .unset, .unset, .unset, .unset] [(.int ((Int32.ofNat cn) - (1 : Int32))), (.ref P)])) _
      refine X4.iaload hx (j := ((Int32.ofNat cn) - (1 : Int32))) (v := (.int (vs.getD (cn - 1) 0))) (by rw [e4]; exact Ar5.1) (State.isArrayOf_alike hZ.alike Ar5.2.1) Ar5.2.2 hin5 hat5 (g := (mkF m 21 #[.val (.ref a1), .val (.int p1), .unset, .unset, .unset, .unset] [(.int ((Int32.ofNat cn) - (1 : Int32))), (.ref P)])) rfl rfl (hb hby d11_21) _ ?_
      show Steps p.tables e below (T4.setTop (mkF m 22 #[.val (.ref a1), .val (.int p1), .unset, .unset, .unset, .unset] [(.int (vs.getD (cn - 1) 0))])) _
      refine XS.iloadN X4.here hx rfl (hb hby d11_22) rfl ?_
      exact k
    by_cases hc23 : (vs.getD (cn - 1) 0) < p1
    · have pf7 : ∀ target, Steps p.tables e below (T4.setTop (mkF m 35 #[.val (.ref a1), .val (.int p1), .val (.int 1), .val (.ref a1), .unset, .unset] [(.int 1)])) target → Steps p.tables e below (T4.setTop (mkF m 23 #[.val (.ref a1), .val (.int p1), .unset, .unset, .unset, .unset] [(.int p1), (.int (vs.getD (cn - 1) 0))])) target := by
        intro target k
        show Steps p.tables e below (T4.setTop (mkF m 23 #[.val (.ref a1), .val (.int p1), .unset, .unset, .unset, .unset] [(.int p1), (.int (vs.getD (cn - 1) 0))])) _
        refine XS.icmpNo X4.here hx rfl (hb hby d11_23) rfl (tlt hc23).2.1 ?_
        refine XS.iconst X4.here hx rfl (hb hby d11_26) ?_
        refine XS.goto X4.here hx rfl (pc0 := 27) (pc' := 31) rfl (hb hby d11_27) (by decide) (by decide) ?_
        refine XS.istoreN X4.here hx rfl (hb hby d11_31) rfl (l' := #[.val (.ref a1), .val (.int p1), .val (.int 1), .unset, .unset, .unset]) rfl ?_
        refine XS.aloadN X4.here hx rfl (hb hby d11_32) rfl rfl ?_
        refine XS.astoreN X4.here hx rfl (hb hby d11_33) rfl rfl (l' := #[.val (.ref a1), .val (.int p1), .val (.int 1), .val (.ref a1), .unset, .unset]) rfl ?_
        refine XS.iloadN X4.here hx rfl (hb hby d11_34) rfl ?_
        exact k
      obtain ⟨T8, X8, e8, st8⟩ := getF X4 hx hZ hown (host := "") (Or.inl (hw _ (List.mem_of_getElem? (i := 54) rfl))) Via.refl e4 F_p (g := (mkF m 56 #[.val (.ref a1), .val (.int p1), .val (.int 1), .val (.ref a1), .unset, .unset] [(.ref a1)])) rfl rfl (hb hby d11_56)
      obtain ⟨T9, X9, e9, st9⟩ := getF X8 hx hZ hown (host := "") (Or.inl (hw _ (List.mem_of_getElem? (i := 60) rfl))) Via.refl e8 F_w (g := (mkF m 62 #[.val (.ref a1), .val (.int p1), .val (.int 1), .val (.ref a1), .val (.ref P), .unset] [(.ref a1)])) rfl rfl (hb hby d11_62)
      obtain ⟨T10, X10, e10, st10⟩ := getF X9 hx hZ hown (host := "") (Or.inl (hw _ (List.mem_of_getElem? (i := 60) rfl))) Via.refl e9 F_w (g := (mkF m 68 #[.val (.ref a1), .val (.int p1), .val (.int 1), .val (.ref a1), .val (.ref P), .val (.ref Wa)] [(.ref a1)])) rfl rfl (hb hby d11_68)
      obtain ⟨cl11, Ar11, hin11, hat11⟩ := own_at (j := (0 : Int32)) (i := 0) VW hNW (by decide) (by decide) (by rw [List.length_singleton]; decide)
      obtain ⟨T12, X12, e12, st12⟩ := getF X10 hx hZ hown (host := "") (Or.inl (hw _ (List.mem_of_getElem? (i := 56) rfl))) Via.refl e10 F_c (g := (mkF m 74 #[.val (.ref a1), .val (.int p1), .val (.int 1), .val (.ref a1), .val (.ref P), .val (.ref Wa)] [(.ref a1), (.int ([Int32.ofNat cn].getD 0 0))])) rfl rfl (hb hby d11_74)
      have pf13 : ∀ target, Steps p.tables e below (T12.setTop (mkF m 77 #[.val (.ref a1), .val (.int p1), .val (.int 1), .val (.ref a1), .val (.ref P), .val (.ref Wa)] [(.int (Int32.ofNat cn)), (.int ([Int32.ofNat cn].getD 0 0))])) target → Steps p.tables e below (T4.setTop (mkF m 35 #[.val (.ref a1), .val (.int p1), .val (.int 1), .val (.ref a1), .unset, .unset] [(.int 1)])) target := by
        intro target k
        show Steps p.tables e below (T4.setTop (mkF m 35 #[.val (.ref a1), .val (.int p1), .val (.int 1), .val (.ref a1), .unset, .unset] [(.int 1)])) _
        refine XS.ifYes X4.here hx rfl (pc0 := 35) (pc' := 55) rfl (hb hby d11_35) rfl ((if0 _ _).trans (feq (by decide)).2) (by decide) (by decide) ?_
        refine XS.aloadN X4.here hx rfl (hb hby d11_55) rfl rfl ?_
        show Steps p.tables e below (T4.setTop (mkF m 56 #[.val (.ref a1), .val (.int p1), .val (.int 1), .val (.ref a1), .unset, .unset] [(.ref a1)])) _
        refine st8 _ ?_
        show Steps p.tables e below (T8.setTop (mkF m 59 #[.val (.ref a1), .val (.int p1), .val (.int 1), .val (.ref a1), .unset, .unset] [(.ref P)])) _
        refine XS.astore X8.here hx rfl (hb hby d11_59) rfl rfl (l' := #[.val (.ref a1), .val (.int p1), .val (.int 1), .val (.ref a1), .val (.ref P), .unset]) rfl ?_
        refine XS.aloadN X8.here hx rfl (hb hby d11_61) rfl rfl ?_
        show Steps p.tables e below (T8.setTop (mkF m 62 #[.val (.ref a1), .val (.int p1), .val (.int 1), .val (.ref a1), .val (.ref P), .unset] [(.ref a1)])) _
        refine st9 _ ?_
        show Steps p.tables e below (T9.setTop (mkF m 65 #[.val (.ref a1), .val (.int p1), .val (.int 1), .val (.ref a1), .val (.ref P), .unset] [(.ref Wa)])) _
        refine XS.astore X9.here hx rfl (hb hby d11_65) rfl rfl (l' := #[.val (.ref a1), .val (.int p1), .val (.int 1), .val (.ref a1), .val (.ref P), .val (.ref Wa)]) rfl ?_
        refine XS.aloadN X9.here hx rfl (hb hby d11_67) rfl rfl ?_
        show Steps p.tables e below (T9.setTop (mkF m 68 #[.val (.ref a1), .val (.int p1), .val (.int 1), .val (.ref a1), .val (.ref P), .val (.ref Wa)] [(.ref a1)])) _
        refine st10 _ ?_
        show Steps p.tables e below (T10.setTop (mkF m 71 #[.val (.ref a1), .val (.int p1), .val (.int 1), .val (.ref a1), .val (.ref P), .val (.ref Wa)] [(.ref Wa)])) _
        refine XS.iconst X10.here hx rfl (hb hby d11_71) ?_
        show Steps p.tables e below (T10.setTop (mkF m 72 #[.val (.ref a1), .val (.int p1), .val (.int 1), .val (.ref a1), .val (.ref P), .val (.ref Wa)] [(.int 0), (.ref Wa)])) _
        refine X10.iaload hx (j := (0 : Int32)) (v := (.int ([Int32.ofNat cn].getD 0 0))) (by rw [e10]; exact Ar11.1) (State.isArrayOf_alike hZ.alike Ar11.2.1) Ar11.2.2 hin11 hat11 (g := (mkF m 72 #[.val (.ref a1), .val (.int p1), .val (.int 1), .val (.ref a1), .val (.ref P), .val (.ref Wa)] [(.int 0), (.ref Wa)])) rfl rfl (hb hby d11_72) _ ?_
        show Steps p.tables e below (T10.setTop (mkF m 73 #[.val (.ref a1), .val (.int p1), .val (.int 1), .val (.ref a1), .val (.ref P), .val (.ref Wa)] [(.int ([Int32.ofNat cn].getD 0 0))])) _
        refine XS.aloadN X10.here hx rfl (hb hby d11_73) rfl rfl ?_
        show Steps p.tables e below (T10.setTop (mkF m 74 #[.val (.ref a1), .val (.int p1), .val (.int 1), .val (.ref a1), .val (.ref P), .val (.ref Wa)] [(.ref a1), (.int ([Int32.ofNat cn].getD 0 0))])) _
        refine st12 _ ?_
        exact k
      obtain ⟨T14, X14, e14, st14⟩ := getF X12 hx hZ hown (host := "") (Or.inl (hw _ (List.mem_of_getElem? (i := 54) rfl))) Via.refl e12 F_p (g := (mkF m 81 #[.val (.ref a1), .val (.int p1), .val (.int 1), .val (.ref a1), .val (.ref P), .val (.ref Wa)] [(.ref a1)])) rfl rfl (hb hby d11_81)
      obtain ⟨cl15, Ar15, q15, Sz15, Nn15, Ha15, Gf15⟩ := id VP
      obtain ⟨T16, X16, e16, st16⟩ := getF X14 hx hZ hown (host := "") (Or.inl (hw _ (List.mem_of_getElem? (i := 56) rfl))) Via.refl e14 F_c (g := (mkF m 86 #[.val (.ref a1), .val (.int p1), .val (.int 1), .val (.ref a1), .val (.ref P), .val (.ref Wa)] [(.ref a1), (.int (Int32.ofNat vs.length))])) rfl rfl (hb hby d11_86)
      have pf17 : ∀ target, Steps p.tables e below (T16.setTop (mkF m 89 #[.val (.ref a1), .val (.int p1), .val (.int 1), .val (.ref a1), .val (.ref P), .val (.ref Wa)] [(.int (Int32.ofNat cn)), (.int (Int32.ofNat vs.length))])) target → Steps p.tables e below (T12.setTop (mkF m 77 #[.val (.ref a1), .val (.int p1), .val (.int 1), .val (.ref a1), .val (.ref P), .val (.ref Wa)] [(.int (Int32.ofNat cn)), (.int ([Int32.ofNat cn].getD 0 0))])) target := by
        intro target k
        show Steps p.tables e below (T12.setTop (mkF m 77 #[.val (.ref a1), .val (.int p1), .val (.int 1), .val (.ref a1), .val (.ref P), .val (.ref Wa)] [(.int (Int32.ofNat cn)), (.int ([Int32.ofNat cn].getD 0 0))])) _
        refine XS.icmpNo X12.here hx rfl (hb hby d11_77) rfl (teq rfl).2 ?_
        refine XS.aloadN X12.here hx rfl (hb hby d11_80) rfl rfl ?_
        show Steps p.tables e below (T12.setTop (mkF m 81 #[.val (.ref a1), .val (.int p1), .val (.int 1), .val (.ref a1), .val (.ref P), .val (.ref Wa)] [(.ref a1)])) _
        refine st14 _ ?_
        show Steps p.tables e below (T14.setTop (mkF m 84 #[.val (.ref a1), .val (.int p1), .val (.int 1), .val (.ref a1), .val (.ref P), .val (.ref Wa)] [(.ref P)])) _
        refine X14.arraylength hx (by rw [e14]; exact Ar15.1) (State.isArrayOf_alike hZ.alike Ar15.2.1) (g := (mkF m 84 #[.val (.ref a1), .val (.int p1), .val (.int 1), .val (.ref a1), .val (.ref P), .val (.ref Wa)] [(.ref P)])) rfl rfl (hb hby d11_84) _ ?_
        rw [len_of Sz15 Nn15]
        show Steps p.tables e below (T14.setTop (mkF m 85 #[.val (.ref a1), .val (.int p1), .val (.int 1), .val (.ref a1), .val (.ref P), .val (.ref Wa)] [(.int (Int32.ofNat vs.length))])) _
        refine XS.aloadN X14.here hx rfl (hb hby d11_85) rfl rfl ?_
        show Steps p.tables e below (T14.setTop (mkF m 86 #[.val (.ref a1), .val (.int p1), .val (.int 1), .val (.ref a1), .val (.ref P), .val (.ref Wa)] [(.ref a1), (.int (Int32.ofNat vs.length))])) _
        refine st16 _ ?_
        exact k
      by_cases hc89 : (Int32.ofNat vs.length) = (Int32.ofNat cn)
      · have hel : vs.length = cn := (own_eq (by omega) (by omega)).mp hc89
        obtain ⟨T18, X18, e18, st18⟩ := getF X16 hx hZ hown (host := "") (Or.inl (hw _ (List.mem_of_getElem? (i := 54) rfl))) Via.refl e16 F_p (g := (mkF m 93 #[.val (.ref a1), .val (.int p1), .val (.int 1), .val (.ref a1), .val (.ref P), .val (.ref Wa)] [(.ref a1)])) rfl rfl (hb hby d11_93)
        obtain ⟨T19, X19, e19, st19⟩ := getF X18 hx hZ hown (host := "") (Or.inl (hw _ (List.mem_of_getElem? (i := 56) rfl))) Via.refl e18 F_c (g := (mkF m 98 #[.val (.ref a1), .val (.int p1), .val (.int 1), .val (.ref a1), .val (.ref P), .val (.ref Wa)] [(.ref a1), (.int 2), (.ref P)])) rfl rfl (hb hby d11_98)
        obtain ⟨_, _, ⟨T20, L20, k20, n20⟩, -, X20, ⟨Lc20, hQ20, l20, y20, z20⟩, st20⟩ := Jvm.LawKit.callS X19 hx (y := (⟨"java/util/Arrays", "copyOf", "([II)[I"⟩ : MethodName)) hown (mvT hZ (hw _ (List.mem_of_getElem? (i := 83) rfl))) (mvT hZ (hw _ (List.mem_of_getElem? (i := 84) rfl))) (mvT hZ (hw _ (List.mem_of_getElem? (i := 75) rfl))) (mvT hZ (hw _ (List.mem_of_getElem? (i := 85) rfl))) (by decide) (backOf (W := 0) (rmco l Z a0 hw [] P kP vs cn ((2 : Int32) * (Int32.ofNat cn)) h0 n0 O0 VP (by omega) hel (by omega) (by omega) (own_mul2 (by omega))) hZ (hw _ (List.mem_of_getElem? (i := 85) rfl)) (hw _ (List.mem_of_getElem? (i := 75) rfl)) (by decide) (by decide)) (g := (mkF m 102 #[.val (.ref a1), .val (.int p1), .val (.int 1), .val (.ref a1), .val (.ref P), .val (.ref Wa)] [(.int ((2 : Int32) * (Int32.ofNat cn))), (.ref P)])) rfl (by rw [hml]; rfl) (argsL := [(.ref P), (.int ((2 : Int32) * (Int32.ofNat cn)))]) (rest := []) (lenOf pd8 rfl) rfl (by show 2 * 0 + _ ≤ _; exact Nat.le_of_eq rfl) (hb hby d11_102) (fun _ _ => ⟨rfl, e19, (by decide : 0 + 1 ≤ _), (by decide : 0 + 8 ≤ _)⟩)
        dsimp only [Pt.U, Pt.locs, Pt.cells, Pt.slots] at X20 l20 y20 z20 st20 hQ20
        subst l20 y20 z20
        obtain ⟨h20, e20⟩ : ∃ z, T20.heap = z := ⟨_, rfl⟩
        rw [e20] at hQ20
        obtain ⟨b20, kb20, rfl, Nq20, K20, szb20, Vb20⟩ := hQ20
        have N20 := Fr.app N0 Nq20
        have O21 := O0.keep K20 all0
        have kp22 : Keep h0 h20 [P, Wa] := (Keep.refl h0 [P, Wa]).trans K20 all0
        have g_b20 : n0 ≤ b20 := Nat.le_trans (own_sz O0) szb20
        have sz_b20 : h0.size ≤ b20 := Nat.le_trans (Keep.refl h0 [P, Wa]).1 szb20
        have lt_P_b20 : P < b20 := Nat.lt_of_lt_of_le lt_P sz_b20
        have lt_Wa_b20 : Wa < b20 := Nat.lt_of_lt_of_le lt_Wa sz_b20
        have lt_r_b20 : r < b20 := Nat.lt_of_lt_of_le lt_r sz_b20
        have lt_a1_b20 : a1 < b20 := Nat.lt_of_lt_of_le lt_a1 sz_b20
        have hNb20 : (Int32.ofNat (vs.length + cn)).toNatClampNeg = (vs ++ List.replicate cn 0).length := by rw [own_n (by omega), List.length_append, List.length_replicate]
        obtain ⟨T23, h23, k23, X23, e23, E23, A23, st23⟩ := newP X20 hx hZ (hw _ (List.mem_of_getElem? (i := 34) rfl)) e20 (g := (mkF m 108 #[.val (.ref a1), .val (.int p1), .val (.int 1), .val (.ref a1), .val (.ref b20), .val (.ref Wa)] [(.int 1)])) rfl (hb hby d11_108) rfl (by decide) (cap := 1) (by decide) (by decide) (by decide) (by decide)
        obtain ⟨b23, g23⟩ : ∃ z, z = h20.size := ⟨_, rfl⟩
        rw [← g23] at A23 st23
        have g_b23 : n0 ≤ b23 := by rw [g23]; exact Nat.le_trans (Nat.le_of_eq O21.1.symm) O21.2.1
        have sz_b23 : h0.size ≤ b23 := by rw [g23]; exact kp22.1
        have lt_b20_b23 : b20 < b23 := by rw [g23]; exact Vb20.lt
        have lt_P_b23 : P < b23 := Nat.lt_of_lt_of_le lt_P sz_b23
        have lt_Wa_b23 : Wa < b23 := Nat.lt_of_lt_of_le lt_Wa sz_b23
        have lt_r_b23 : r < b23 := Nat.lt_of_lt_of_le lt_r sz_b23
        have lt_a1_b23 : a1 < b23 := Nat.lt_of_lt_of_le lt_a1 sz_b23
        have O24 := O21.ext E23
        have kp25 : Keep h0 h23 [P, Wa] := kp22.ext E23
        have V_b23 : Arv Z h23 b23 k23 .int (1 : Int32) [(.int 0)] (.int 0) := (Arv.new A23 (by decide)).pad (pad_rep [] (.int 0) 1)
        have hlt : cn < (vs ++ List.replicate cn 0).length := by rw [List.length_append, List.length_replicate]; omega
        have hgr : growF vs cn = vs ++ List.replicate cn 0 := if_pos hel
        obtain ⟨T26, X26, e26, st26⟩ := getF X23 hx hZ hown (host := "") (Or.inl (hw _ (List.mem_of_getElem? (i := 56) rfl))) Via.refl e23 ((F_c.keep K20 nin0).ext E23) (g := (mkF m 115 #[.val (.ref a1), .val (.int p1), .val (.int 1), .val (.ref a1), .val (.ref b20), .val (.ref b23)] [(.ref a1), (.ref b20)])) rfl rfl (hb hby d11_115)
        obtain ⟨cl27, Ar27, q27, Sz27, Nn27, Ha27, Gf27⟩ := id (Vb20.ext E23)
        have hin27 : ¬ ((Int32.ofNat cn) < 0 ∨ cl27.slots.size ≤ ((Int32.ofNat cn)).toNatClampNeg) := own_inb (i := cn) Sz27 hNb20 (own_nn (by omega)) (own_n (by omega)) hlt
        obtain ⟨T28, h28, X28, e28, W28, st28⟩ := stI X26 hx hZ e26 Ar27 (j := (Int32.ofNat cn)) hin27 (g := (mkF m 119 #[.val (.ref a1), .val (.int p1), .val (.int 1), .val (.ref a1), .val (.ref b20), .val (.ref b23)] [(.int p1), (.int (Int32.ofNat cn)), (.ref b20)])) rfl rfl (hb hby d11_119)
        have Va28 := Arv.set Ar27 q27 Sz27 Nn27 Ha27 Gf27 rfl W28 cn (own_n (by omega)) (by rw [List.length_map]; exact hlt)
        have Vb28 : Arv Z h28 b20 kb20 .int (Int32.ofNat (vs.length + cn)) (((vs ++ List.replicate cn 0).set cn p1).map Value.int) (.int 0) := by rw [List.map_set]; exact Va28
        have hN28 : ((Int32.ofNat (vs.length + cn))).toNatClampNeg = ((vs ++ List.replicate cn 0).set cn p1).length := by rw [List.length_set]; exact hNb20
        have O29 := O24.wr W28 g_b20
        have kp30 : Keep h0 h28 [P, Wa] := kp25.wr W28 (Or.inr sz_b20)
        have N28 := Fr.snoc X28 N20 g_b20
        obtain ⟨T31, X31, e31, st31⟩ := getF X28 hx hZ hown (host := "") (Or.inl (hw _ (List.mem_of_getElem? (i := 56) rfl))) Via.refl e28 (((F_c.keep K20 nin0).ext E23).other W28 (Or.inl (Nat.ne_of_lt lt_a1_b20))) (g := (mkF m 124 #[.val (.ref a1), .val (.int p1), .val (.int 1), .val (.ref a1), .val (.ref b20), .val (.ref b23)] [(.ref a1), (.int 0), (.ref b23)])) rfl rfl (hb hby d11_124)
        obtain ⟨cl32, Ar32, q32, Sz32, Nn32, Ha32, Gf32⟩ := (V_b23.other W28 (Ne.symm (Nat.ne_of_lt lt_b20_b23)))
        have hin32 : ¬ ((0 : Int32) < 0 ∨ cl32.slots.size ≤ ((0 : Int32)).toNatClampNeg) := inb_of Sz32 ⟨by decide, by decide⟩
        obtain ⟨T33, h33, X33, e33, W33, st33⟩ := stI X31 hx hZ e31 Ar32 (j := (0 : Int32)) hin32 (g := (mkF m 129 #[.val (.ref a1), .val (.int p1), .val (.int 1), .val (.ref a1), .val (.ref b20), .val (.ref b23)] [(.int ((Int32.ofNat cn) + (1 : Int32))), (.int 0), (.ref b23)])) rfl rfl (hb hby d11_129)
        have Va33 := Arv.set Ar32 q32 Sz32 Nn32 Ha32 Gf32 rfl W33 0 rfl (Nat.le_of_ble_eq_true rfl)
        have Vb33 : Arv Z h33 b23 k23 .int (1 : Int32) [(.int ((Int32.ofNat cn) + (1 : Int32)))] (.int 0) := Va33
        have O34 := O29.wr W33 g_b23
        have kp35 : Keep h0 h33 [P, Wa] := kp30.wr W33 (Or.inr sz_b23)
        have N33 := Fr.snoc X33 N28 g_b23
        obtain ⟨T36, h36, X36, e36, E36, A36, D36, U36, st36⟩ := newO X33 hx hZ hown (hw _ (List.mem_of_getElem? (i := 94) rfl)) (hw _ (List.mem_of_getElem? (i := 29) rfl)) (hw _ (List.mem_of_getElem? (i := 30) rfl)) e33 (g := (mkF m 130 #[.val (.ref a1), .val (.int p1), .val (.int 1), .val (.ref a1), .val (.ref b20), .val (.ref b23)] [])) rfl (hb hby d11_130) (by decide) (by decide)
        obtain ⟨b36, g36⟩ : ∃ z, z = h33.size := ⟨_, rfl⟩
        rw [← g36] at A36 D36 U36 st36
        have g_b36 : n0 ≤ b36 := by rw [g36]; exact Nat.le_trans (Nat.le_of_eq O34.1.symm) O34.2.1
        have sz_b36 : h0.size ≤ b36 := by rw [g36]; exact kp35.1
        have lt_b20_b36 : b20 < b36 := by rw [g36]; exact (Vb28.other W33 (Nat.ne_of_lt lt_b20_b23)).lt
        have lt_b23_b36 : b23 < b36 := by rw [g36]; exact Vb33.lt
        have lt_P_b36 : P < b36 := Nat.lt_of_lt_of_le lt_P sz_b36
        have lt_Wa_b36 : Wa < b36 := Nat.lt_of_lt_of_le lt_Wa sz_b36
        have lt_r_b36 : r < b36 := Nat.lt_of_lt_of_le lt_r sz_b36
        have lt_a1_b36 : a1 < b36 := Nat.lt_of_lt_of_le lt_a1 sz_b36
        have O37 := O34.ext E36
        have kp38 : Keep h0 h36 [P, Wa] := kp35.ext E36
        have F_modCount_b36 : Fld Z h36 b36 "java/util/AbstractList" "modCount" "I" (.int 0) := D36 (Or.inl (hw _ (List.mem_of_getElem? (i := 51) rfl))) (ty := .int) (by decide)
        have F_registered_b36 : Fld Z h36 b36 "com/example/rivet_context/rivetcontext/factory/TypeListing" "registered" "[Ljava/lang/String;" .null := D36 (Or.inr (hw _ (List.mem_of_getElem? (i := 53) rfl))) (ty := (.array (.object "java/lang/String"))) (by decide)
        have F_places_b36 : Fld Z h36 b36 "com/example/rivet_context/rivetcontext/factory/TypeListing" "places" "[I" .null := D36 (Or.inr (hw _ (List.mem_of_getElem? (i := 55) rfl))) (ty := (.array .int)) (by decide)
        have F_count_b36 : Fld Z h36 b36 "com/example/rivet_context/rivetcontext/factory/TypeListing" "count" "I" (.int 0) := D36 (Or.inr (hw _ (List.mem_of_getElem? (i := 57) rfl))) (ty := .int) (by decide)
        have F_ordered_b36 : Fld Z h36 b36 "com/example/rivet_context/rivetcontext/factory/TypeListing" "ordered" "I" (.int 0) := D36 (Or.inr (hw _ (List.mem_of_getElem? (i := 59) rfl))) (ty := .int) (by decide)
        have F_written_b36 : Fld Z h36 b36 "com/example/rivet_context/rivetcontext/factory/TypeListing" "written" "[I" .null := D36 (Or.inr (hw _ (List.mem_of_getElem? (i := 61) rfl))) (ty := (.array .int)) (by decide)
        have F_inPlace_b36 : Fld Z h36 b36 "com/example/rivet_context/rivetcontext/factory/TypeListing" "inPlace" "Lcom/example/rivet_context/rivetcontext/factory/TypeListing;" .null := D36 (Or.inl (hw _ (List.mem_of_getElem? (i := 68) rfl))) (ty := (.object "com/example/rivet_context/rivetcontext/factory/TypeListing")) (by decide)
        obtain ⟨T39, X39, e39, st39⟩ := getF X36 hx hZ hown (host := "") (Or.inl (hw _ (List.mem_of_getElem? (i := 52) rfl))) Via.refl e36 (((((F_r.keep K20 nin0).ext E23).other W28 (Or.inl (Nat.ne_of_lt lt_a1_b20))).other W33 (Or.inl (Nat.ne_of_lt lt_a1_b23))).ext E36) (g := (mkF m 135 #[.val (.ref a1), .val (.int p1), .val (.int 1), .val (.ref a1), .val (.ref b20), .val (.ref b23)] [(.ref a1), (.ref b36), (.ref b36)])) rfl rfl (hb hby d11_135)
        obtain ⟨T40, X40, e40, st40⟩ := getF X39 hx hZ hown (host := "") (Or.inl (hw _ (List.mem_of_getElem? (i := 56) rfl))) Via.refl e39 (((((F_c.keep K20 nin0).ext E23).other W28 (Or.inl (Nat.ne_of_lt lt_a1_b20))).other W33 (Or.inl (Nat.ne_of_lt lt_a1_b23))).ext E36) (g := (mkF m 141 #[.val (.ref a1), .val (.int p1), .val (.int 1), .val (.ref a1), .val (.ref b20), .val (.ref b23)] [(.ref a1), (.ref b20), (.ref r), (.ref b36), (.ref b36)])) rfl rfl (hb hby d11_141)
        have pf41 : ∀ target, Steps p.tables e below (T40.setTop (mkF m 147 #[.val (.ref a1), .val (.int p1), .val (.int 1), .val (.ref a1), .val (.ref b20), .val (.ref b23)] [(.int 1), (.int ((Int32.ofNat cn) + (1 : Int32))), (.ref b20), (.ref r), (.ref b36), (.ref b36)])) target → Steps p.tables e below (T16.setTop (mkF m 89 #[.val (.ref a1), .val (.int p1), .val (.int 1), .val (.ref a1), .val (.ref P), .val (.ref Wa)] [(.int (Int32.ofNat cn)), (.int (Int32.ofNat vs.length))])) target := by
          intro target k
          show Steps p.tables e below (T16.setTop (mkF m 89 #[.val (.ref a1), .val (.int p1), .val (.int 1), .val (.ref a1), .val (.ref P), .val (.ref Wa)] [(.int (Int32.ofNat cn)), (.int (Int32.ofNat vs.length))])) _
          refine XS.icmpNo X16.here hx rfl (hb hby d11_89) rfl (teq hc89).2 ?_
          refine XS.aloadN X16.here hx rfl (hb hby d11_92) rfl rfl ?_
          show Steps p.tables e below (T16.setTop (mkF m 93 #[.val (.ref a1), .val (.int p1), .val (.int 1), .val (.ref a1), .val (.ref P), .val (.ref Wa)] [(.ref a1)])) _
          refine st18 _ ?_
          show Steps p.tables e below (T18.setTop (mkF m 96 #[.val (.ref a1), .val (.int p1), .val (.int 1), .val (.ref a1), .val (.ref P), .val (.ref Wa)] [(.ref P)])) _
          refine XS.iconst X18.here hx rfl (hb hby d11_96) ?_
          refine XS.aloadN X18.here hx rfl (hb hby d11_97) rfl rfl ?_
          show Steps p.tables e below (T18.setTop (mkF m 98 #[.val (.ref a1), .val (.int p1), .val (.int 1), .val (.ref a1), .val (.ref P), .val (.ref Wa)] [(.ref a1), (.int 2), (.ref P)])) _
          refine st19 _ ?_
          show Steps p.tables e below (T19.setTop (mkF m 101 #[.val (.ref a1), .val (.int p1), .val (.int 1), .val (.ref a1), .val (.ref P), .val (.ref Wa)] [(.int (Int32.ofNat cn)), (.int 2), (.ref P)])) _
          refine XS.imul X19.here hx rfl (hb hby d11_101) rfl ?_
          show Steps p.tables e below (T19.setTop (mkF m 102 #[.val (.ref a1), .val (.int p1), .val (.int 1), .val (.ref a1), .val (.ref P), .val (.ref Wa)] [(.int ((2 : Int32) * (Int32.ofNat cn))), (.ref P)])) _
          refine st20 _ ?_
          show Steps p.tables e below (T20.setTop (mkF m 105 #[.val (.ref a1), .val (.int p1), .val (.int 1), .val (.ref a1), .val (.ref P), .val (.ref Wa)] [(.ref b20)])) _
          refine XS.astore X20.here hx rfl (hb hby d11_105) rfl rfl (l' := #[.val (.ref a1), .val (.int p1), .val (.int 1), .val (.ref a1), .val (.ref b20), .val (.ref Wa)]) rfl ?_
          refine XS.iconst X20.here hx rfl (hb hby d11_107) ?_
          show Steps p.tables e below (T20.setTop (mkF m 108 #[.val (.ref a1), .val (.int p1), .val (.int 1), .val (.ref a1), .val (.ref b20), .val (.ref Wa)] [(.int 1)])) _
          refine st23 _ ?_
          show Steps p.tables e below (T23.setTop (mkF m 110 #[.val (.ref a1), .val (.int p1), .val (.int 1), .val (.ref a1), .val (.ref b20), .val (.ref Wa)] [(.ref b23)])) _
          refine XS.astore X23.here hx rfl (hb hby d11_110) rfl rfl (l' := #[.val (.ref a1), .val (.int p1), .val (.int 1), .val (.ref a1), .val (.ref b20), .val (.ref b23)]) rfl ?_
          refine XS.aload X23.here hx rfl (hb hby d11_112) rfl rfl ?_
          refine XS.aloadN X23.here hx rfl (hb hby d11_114) rfl rfl ?_
          show Steps p.tables e below (T23.setTop (mkF m 115 #[.val (.ref a1), .val (.int p1), .val (.int 1), .val (.ref a1), .val (.ref b20), .val (.ref b23)] [(.ref a1), (.ref b20)])) _
          refine st26 _ ?_
          show Steps p.tables e below (T26.setTop (mkF m 118 #[.val (.ref a1), .val (.int p1), .val (.int 1), .val (.ref a1), .val (.ref b20), .val (.ref b23)] [(.int (Int32.ofNat cn)), (.ref b20)])) _
          refine XS.iloadN X26.here hx rfl (hb hby d11_118) rfl ?_
          show Steps p.tables e below (T26.setTop (mkF m 119 #[.val (.ref a1), .val (.int p1), .val (.int 1), .val (.ref a1), .val (.ref b20), .val (.ref b23)] [(.int p1), (.int (Int32.ofNat cn)), (.ref b20)])) _
          refine st28 _ ?_
          show Steps p.tables e below (T28.setTop (mkF m 120 #[.val (.ref a1), .val (.int p1), .val (.int 1), .val (.ref a1), .val (.ref b20), .val (.ref b23)] [])) _
          refine XS.aload X28.here hx rfl (hb hby d11_120) rfl rfl ?_
          refine XS.iconst X28.here hx rfl (hb hby d11_122) ?_
          refine XS.aloadN X28.here hx rfl (hb hby d11_123) rfl rfl ?_
          show Steps p.tables e below (T28.setTop (mkF m 124 #[.val (.ref a1), .val (.int p1), .val (.int 1), .val (.ref a1), .val (.ref b20), .val (.ref b23)] [(.ref a1), (.int 0), (.ref b23)])) _
          refine st31 _ ?_
          show Steps p.tables e below (T31.setTop (mkF m 127 #[.val (.ref a1), .val (.int p1), .val (.int 1), .val (.ref a1), .val (.ref b20), .val (.ref b23)] [(.int (Int32.ofNat cn)), (.int 0), (.ref b23)])) _
          refine XS.iconst X31.here hx rfl (hb hby d11_127) ?_
          refine XS.iadd X31.here hx rfl (hb hby d11_128) rfl ?_
          show Steps p.tables e below (T31.setTop (mkF m 129 #[.val (.ref a1), .val (.int p1), .val (.int 1), .val (.ref a1), .val (.ref b20), .val (.ref b23)] [(.int ((Int32.ofNat cn) + (1 : Int32))), (.int 0), (.ref b23)])) _
          refine st33 _ ?_
          show Steps p.tables e below (T33.setTop (mkF m 130 #[.val (.ref a1), .val (.int p1), .val (.int 1), .val (.ref a1), .val (.ref b20), .val (.ref b23)] [])) _
          refine st36 _ ?_
          show Steps p.tables e below (T36.setTop (mkF m 133 #[.val (.ref a1), .val (.int p1), .val (.int 1), .val (.ref a1), .val (.ref b20), .val (.ref b23)] [(.ref b36)])) _
          refine XS.dup X36.here hx rfl (hb hby d11_133) rfl rfl ?_
          refine XS.aloadN X36.here hx rfl (hb hby d11_134) rfl rfl ?_
          show Steps p.tables e below (T36.setTop (mkF m 135 #[.val (.ref a1), .val (.int p1), .val (.int 1), .val (.ref a1), .val (.ref b20), .val (.ref b23)] [(.ref a1), (.ref b36), (.ref b36)])) _
          refine st39 _ ?_
          show Steps p.tables e below (T39.setTop (mkF m 138 #[.val (.ref a1), .val (.int p1), .val (.int 1), .val (.ref a1), .val (.ref b20), .val (.ref b23)] [(.ref r), (.ref b36), (.ref b36)])) _
          refine XS.aload X39.here hx rfl (hb hby d11_138) rfl rfl ?_
          refine XS.aloadN X39.here hx rfl (hb hby d11_140) rfl rfl ?_
          show Steps p.tables e below (T39.setTop (mkF m 141 #[.val (.ref a1), .val (.int p1), .val (.int 1), .val (.ref a1), .val (.ref b20), .val (.ref b23)] [(.ref a1), (.ref b20), (.ref r), (.ref b36), (.ref b36)])) _
          refine st40 _ ?_
          show Steps p.tables e below (T40.setTop (mkF m 144 #[.val (.ref a1), .val (.int p1), .val (.int 1), .val (.ref a1), .val (.ref b20), .val (.ref b23)] [(.int (Int32.ofNat cn)), (.ref b20), (.ref r), (.ref b36), (.ref b36)])) _
          refine XS.iconst X40.here hx rfl (hb hby d11_144) ?_
          refine XS.iadd X40.here hx rfl (hb hby d11_145) rfl ?_
          refine XS.iloadN X40.here hx rfl (hb hby d11_146) rfl ?_
          exact k
        obtain ⟨T42, X42, e42, st42⟩ := getF X40 hx hZ hown (host := "") (Or.inl (hw _ (List.mem_of_getElem? (i := 56) rfl))) Via.refl e40 (((((F_c.keep K20 nin0).ext E23).other W28 (Or.inl (Nat.ne_of_lt lt_a1_b20))).other W33 (Or.inl (Nat.ne_of_lt lt_a1_b23))).ext E36) (g := (mkF m 151 #[.val (.ref a1), .val (.int p1), .val (.int 1), .val (.ref a1), .val (.ref b20), .val (.ref b23)] [(.ref a1), (.int ((Int32.ofNat cn) + (1 : Int32))), (.ref b20), (.ref r), (.ref b36), (.ref b36)])) rfl rfl (hb hby d11_151)
        obtain ⟨_, _, ⟨T43, L43, k43, n43⟩, -, X43, ⟨Lc43, hQ43, l43, y43, z43⟩, st43⟩ := X42.specialBack hx (y := (⟨"com/example/rivet_context/rivetcontext/factory/TypeListing", "<init>", "([Ljava/lang/String;[III[I)V"⟩ : MethodName)) rfl hown (mvT hZ (hw _ (List.mem_of_getElem? (i := 35) rfl))) (mvT hZ (hw _ (List.mem_of_getElem? (i := 36) rfl))) (mvT hZ (hw _ (List.mem_of_getElem? (i := 37) rfl))) (by decide) (backOf (W := 1) (rmi5 l Z a0 hw [] b36 r b20 ((Int32.ofNat cn) + (1 : Int32)) ((Int32.ofNat cn) + (1 : Int32)) b23 h36 n0 O37 ⟨A36, F_registered_b36, F_places_b36, F_count_b36, F_ordered_b36, F_written_b36, F_inPlace_b36⟩ F_modCount_b36 g_b36) hZ (hw _ (List.mem_of_getElem? (i := 37) rfl)) (hw _ (List.mem_of_getElem? (i := 30) rfl)) (by decide) (by decide)) (g := (mkF m 165 #[.val (.ref a1), .val (.int p1), .val (.int 1), .val (.ref a1), .val (.ref b20), .val (.ref b23)] [(.ref b23), (.int ((Int32.ofNat cn) + (1 : Int32))), (.int ((Int32.ofNat cn) + (1 : Int32))), (.ref b20), (.ref r), (.ref b36), (.ref b36)])) rfl (by rw [hml]; rfl) (Steps.refl _) (a := b36) (argsL := [(.ref r), (.ref b20), (.int ((Int32.ofNat cn) + (1 : Int32))), (.int ((Int32.ofNat cn) + (1 : Int32))), (.ref b23)]) (rest := [(.ref b36)]) (lenOf pd4 rfl) rfl (by show 2 * 0 + _ ≤ _; exact Nat.le_of_eq rfl) (hb hby d11_165) (fun _ _ => ⟨rfl, e42, (by decide : 3 + 0 ≤ _), (by decide : 16 + 0 ≤ _)⟩)
        dsimp only [Pt.U, Pt.locs, Pt.cells, Pt.slots] at X43 l43 y43 z43 st43 hQ43
        subst l43 y43 z43
        obtain ⟨h43, e43⟩ : ∃ z, T43.heap = z := ⟨_, rfl⟩
        rw [e43] at hQ43
        obtain ⟨rfl, Nq43, K43, HT43⟩ := hQ43
        have N43 := Fr.app N33 Nq43
        have O44 := O37.keep K43 (allS g_b36 all0)
        have kp45 : Keep h0 h43 [P, Wa] := kp38.trans K43 (allS (Or.inr sz_b36) all0)
        have hext : extF vs cn on p1 = ((growF vs cn).set cn p1, cn + 1, cn + 1) := if_pos ⟨(own_eq (by omega) (by omega)).mp hc8, hc23⟩
        have LP : Lst Z h43 n0 b36 r ((growF vs cn).set cn p1) (cn + 1) (cn + 1) := by
          refine ⟨g_b36, b20, kb20, b23, k23, ?_, ?_, ?_, g_b20, g_b23, (Nat.ne_of_lt lt_b20_b23), lt_r_b20, lt_r_b23⟩
          · rw [← own_add1]; exact HT43
          · have q := (((Vb28.other W33 (Nat.ne_of_lt lt_b20_b23)).ext E36).keep K43 (ninS (Nat.ne_of_lt lt_b20_b36) nin0))
            rw [hgr, List.length_set, List.length_append, List.length_replicate]; exact q
          · rw [← own_add1]; exact ((Vb33.ext E36).keep K43 (ninS (Nat.ne_of_lt lt_b23_b36) nin0))
        obtain ⟨fs, hr, hrun, hended, hW, hsame⟩ := X43.leave (v := some (.ref b36)) (fun h => by rw [Bd.returns] at h; cases h)
        refine ⟨_, _, pre0 _ ?_, hrun, hended, _, _, rfl, ?_, ⟨_, rfl⟩, hW, hsame.mono (by decide) (by decide)⟩
        · refine pf6 _ ?_
          refine pf7 _ ?_
          refine pf13 _ ?_
          refine pf17 _ ?_
          refine pf41 _ ?_
          show Steps p.tables e below (T40.setTop (mkF m 147 #[.val (.ref a1), .val (.int p1), .val (.int 1), .val (.ref a1), .val (.ref b20), .val (.ref b23)] [(.int 1), (.int ((Int32.ofNat cn) + (1 : Int32))), (.ref b20), (.ref r), (.ref b36), (.ref b36)])) _
          refine XS.ifNo X40.here hx rfl (hb hby d11_147) rfl ((if0 _ _).trans (feq (by decide)).1) ?_
          refine XS.aloadN X40.here hx rfl (hb hby d11_150) rfl rfl ?_
          show Steps p.tables e below (T40.setTop (mkF m 151 #[.val (.ref a1), .val (.int p1), .val (.int 1), .val (.ref a1), .val (.ref b20), .val (.ref b23)] [(.ref a1), (.int ((Int32.ofNat cn) + (1 : Int32))), (.ref b20), (.ref r), (.ref b36), (.ref b36)])) _
          refine st42 _ ?_
          show Steps p.tables e below (T42.setTop (mkF m 154 #[.val (.ref a1), .val (.int p1), .val (.int 1), .val (.ref a1), .val (.ref b20), .val (.ref b23)] [(.int (Int32.ofNat cn)), (.int ((Int32.ofNat cn) + (1 : Int32))), (.ref b20), (.ref r), (.ref b36), (.ref b36)])) _
          refine XS.iconst X42.here hx rfl (hb hby d11_154) ?_
          refine XS.iadd X42.here hx rfl (hb hby d11_155) rfl ?_
          refine XS.goto X42.here hx rfl (pc0 := 156) (pc' := 163) rfl (hb hby d11_156) (by decide) (by decide) ?_
          refine XS.aload X42.here hx rfl (hb hby d11_163) rfl rfl ?_
          show Steps p.tables e below (T42.setTop (mkF m 165 #[.val (.ref a1), .val (.int p1), .val (.int 1), .val (.ref a1), .val (.ref b20), .val (.ref b23)] [(.ref b23), (.int ((Int32.ofNat cn) + (1 : Int32))), (.int ((Int32.ofNat cn) + (1 : Int32))), (.ref b20), (.ref r), (.ref b36), (.ref b36)])) _
          refine st43.trans ?_
          show Steps p.tables e below (T43.setTop (mkF m 168 #[.val (.ref a1), .val (.int p1), .val (.int 1), .val (.ref a1), .val (.ref b20), .val (.ref b23)] [(.ref b36)])) _
          refine XS.astoreN X43.here hx rfl (hb hby d11_168) rfl rfl (l' := #[.val (.ref a1), .val (.int p1), .val (.int 1), .val (.ref b36), .val (.ref b20), .val (.ref b23)]) rfl ?_
          refine XS.aloadN X43.here hx rfl (hb hby d11_169) rfl rfl ?_
          show Steps p.tables e below (T43.setTop (mkF m 170 #[.val (.ref a1), .val (.int p1), .val (.int 1), .val (.ref b36), .val (.ref b20), .val (.ref b23)] [(.ref b36)])) _
          exact retOut X43 hx Bd.returns rfl (Or.inr (Or.inr (Or.inr (Or.inr ⟨rfl, rfl, rfl⟩)))) (hb hby d11_170) hr
        · show Qext Z r kr ss (extF vs cn on p1) n0 _ T43.heap _
          rw [e43]
          exact ⟨b36, rfl, N43, O44, ((((((VR.keep K20 nin0).ext E23).other W28 (Nat.ne_of_lt lt_r_b20)).other W33 (Nat.ne_of_lt lt_r_b23)).ext E36).keep K43 (ninS (Nat.ne_of_lt lt_r_b36) nin0)), by rw [hext]; exact LP⟩
      · have hne : ¬ vs.length = cn := fun q => hc89 (by rw [q])
        have hlt : cn < vs.length := by omega
        have hgr : growF vs cn = vs := if_neg hne
        obtain ⟨T46, X46, e46, st46⟩ := getF X16 hx hZ hown (host := "") (Or.inl (hw _ (List.mem_of_getElem? (i := 56) rfl))) Via.refl e16 F_c (g := (mkF m 115 #[.val (.ref a1), .val (.int p1), .val (.int 1), .val (.ref a1), .val (.ref P), .val (.ref Wa)] [(.ref a1), (.ref P)])) rfl rfl (hb hby d11_115)
        obtain ⟨cl47, Ar47, q47, Sz47, Nn47, Ha47, Gf47⟩ := id VP
        have hin47 : ¬ ((Int32.ofNat cn) < 0 ∨ cl47.slots.size ≤ ((Int32.ofNat cn)).toNatClampNeg) := own_inb (i := cn) Sz47 hNP (own_nn (by omega)) (own_n (by omega)) hlt
        obtain ⟨T48, h48, X48, e48, W48, st48⟩ := stI X46 hx hZ e46 Ar47 (j := (Int32.ofNat cn)) hin47 (g := (mkF m 119 #[.val (.ref a1), .val (.int p1), .val (.int 1), .val (.ref a1), .val (.ref P), .val (.ref Wa)] [(.int p1), (.int (Int32.ofNat cn)), (.ref P)])) rfl rfl (hb hby d11_119)
        have Va48 := Arv.set Ar47 q47 Sz47 Nn47 Ha47 Gf47 rfl W48 cn (own_n (by omega)) (by rw [List.length_map]; exact hlt)
        have Vb48 : Arv Z h48 P kP .int (Int32.ofNat vs.length) ((vs.set cn p1).map Value.int) (.int 0) := by rw [List.map_set]; exact Va48
        have hN48 : ((Int32.ofNat vs.length)).toNatClampNeg = (vs.set cn p1).length := by rw [List.length_set]; exact hNP
        have O49 := O0.wr W48 g_P
        have kp50 : Keep h0 h48 [P, Wa] := (Keep.refl h0 [P, Wa]).wr W48 (Or.inl (List.mem_of_getElem? (i := 0) rfl))
        have N48 := Fr.snoc X48 N0 g_P
        obtain ⟨T51, X51, e51, st51⟩ := getF X48 hx hZ hown (host := "") (Or.inl (hw _ (List.mem_of_getElem? (i := 56) rfl))) Via.refl e48 (F_c.other W48 (Or.inl n_a1_P)) (g := (mkF m 124 #[.val (.ref a1), .val (.int p1), .val (.int 1), .val (.ref a1), .val (.ref P), .val (.ref Wa)] [(.ref a1), (.int 0), (.ref Wa)])) rfl rfl (hb hby d11_124)
        obtain ⟨cl52, Ar52, q52, Sz52, Nn52, Ha52, Gf52⟩ := id (VW.other W48 (Ne.symm nPW))
        have hin52 : ¬ ((0 : Int32) < 0 ∨ cl52.slots.size ≤ ((0 : Int32)).toNatClampNeg) := own_inb (i := 0) Sz52 hNW (by decide) (by decide) (by rw [List.length_singleton]; decide)
        obtain ⟨T53, h53, X53, e53, W53, st53⟩ := stI X51 hx hZ e51 Ar52 (j := (0 : Int32)) hin52 (g := (mkF m 129 #[.val (.ref a1), .val (.int p1), .val (.int 1), .val (.ref a1), .val (.ref P), .val (.ref Wa)] [(.int ((Int32.ofNat cn) + (1 : Int32))), (.int 0), (.ref Wa)])) rfl rfl (hb hby d11_129)
        have Va53 := Arv.set Ar52 q52 Sz52 Nn52 Ha52 Gf52 rfl W53 0 (by decide) (by rw [List.length_map]; exact (by rw [List.length_singleton]; decide))
        have Vb53 : Arv Z h53 Wa kW .int (1 : Int32) (([Int32.ofNat cn].set 0 ((Int32.ofNat cn) + (1 : Int32))).map Value.int) (.int 0) := by rw [List.map_set]; exact Va53
        have hN53 : ((1 : Int32)).toNatClampNeg = ([Int32.ofNat cn].set 0 ((Int32.ofNat cn) + (1 : Int32))).length := by rw [List.length_set]; exact hNW
        have O54 := O49.wr W53 g_Wa
        have kp55 : Keep h0 h53 [P, Wa] := kp50.wr W53 (Or.inl (List.mem_of_getElem? (i := 1) rfl))
        have N53 := Fr.snoc X53 N48 g_Wa
        obtain ⟨T56, h56, X56, e56, E56, A56, D56, U56, st56⟩ := newO X53 hx hZ hown (hw _ (List.mem_of_getElem? (i := 94) rfl)) (hw _ (List.mem_of_getElem? (i := 29) rfl)) (hw _ (List.mem_of_getElem? (i := 30) rfl)) e53 (g := (mkF m 130 #[.val (.ref a1), .val (.int p1), .val (.int 1), .val (.ref a1), .val (.ref P), .val (.ref Wa)] [])) rfl (hb hby d11_130) (by decide) (by decide)
        obtain ⟨b56, g56⟩ : ∃ z, z = h53.size := ⟨_, rfl⟩
        rw [← g56] at A56 D56 U56 st56
        have g_b56 : n0 ≤ b56 := by rw [g56]; exact Nat.le_trans (Nat.le_of_eq O54.1.symm) O54.2.1
        have sz_b56 : h0.size ≤ b56 := by rw [g56]; exact kp55.1
        have lt_P_b56 : P < b56 := Nat.lt_of_lt_of_le lt_P sz_b56
        have lt_Wa_b56 : Wa < b56 := Nat.lt_of_lt_of_le lt_Wa sz_b56
        have lt_r_b56 : r < b56 := Nat.lt_of_lt_of_le lt_r sz_b56
        have lt_a1_b56 : a1 < b56 := Nat.lt_of_lt_of_le lt_a1 sz_b56
        have O57 := O54.ext E56
        have kp58 : Keep h0 h56 [P, Wa] := kp55.ext E56
        have F_modCount_b56 : Fld Z h56 b56 "java/util/AbstractList" "modCount" "I" (.int 0) := D56 (Or.inl (hw _ (List.mem_of_getElem? (i := 51) rfl))) (ty := .int) (by decide)
        have F_registered_b56 : Fld Z h56 b56 "com/example/rivet_context/rivetcontext/factory/TypeListing" "registered" "[Ljava/lang/String;" .null := D56 (Or.inr (hw _ (List.mem_of_getElem? (i := 53) rfl))) (ty := (.array (.object "java/lang/String"))) (by decide)
        have F_places_b56 : Fld Z h56 b56 "com/example/rivet_context/rivetcontext/factory/TypeListing" "places" "[I" .null := D56 (Or.inr (hw _ (List.mem_of_getElem? (i := 55) rfl))) (ty := (.array .int)) (by decide)
        have F_count_b56 : Fld Z h56 b56 "com/example/rivet_context/rivetcontext/factory/TypeListing" "count" "I" (.int 0) := D56 (Or.inr (hw _ (List.mem_of_getElem? (i := 57) rfl))) (ty := .int) (by decide)
        have F_ordered_b56 : Fld Z h56 b56 "com/example/rivet_context/rivetcontext/factory/TypeListing" "ordered" "I" (.int 0) := D56 (Or.inr (hw _ (List.mem_of_getElem? (i := 59) rfl))) (ty := .int) (by decide)
        have F_written_b56 : Fld Z h56 b56 "com/example/rivet_context/rivetcontext/factory/TypeListing" "written" "[I" .null := D56 (Or.inr (hw _ (List.mem_of_getElem? (i := 61) rfl))) (ty := (.array .int)) (by decide)
        have F_inPlace_b56 : Fld Z h56 b56 "com/example/rivet_context/rivetcontext/factory/TypeListing" "inPlace" "Lcom/example/rivet_context/rivetcontext/factory/TypeListing;" .null := D56 (Or.inl (hw _ (List.mem_of_getElem? (i := 68) rfl))) (ty := (.object "com/example/rivet_context/rivetcontext/factory/TypeListing")) (by decide)
        obtain ⟨T59, X59, e59, st59⟩ := getF X56 hx hZ hown (host := "") (Or.inl (hw _ (List.mem_of_getElem? (i := 52) rfl))) Via.refl e56 (((F_r.other W48 (Or.inl n_a1_P)).other W53 (Or.inl n_a1_Wa)).ext E56) (g := (mkF m 135 #[.val (.ref a1), .val (.int p1), .val (.int 1), .val (.ref a1), .val (.ref P), .val (.ref Wa)] [(.ref a1), (.ref b56), (.ref b56)])) rfl rfl (hb hby d11_135)
        obtain ⟨T60, X60, e60, st60⟩ := getF X59 hx hZ hown (host := "") (Or.inl (hw _ (List.mem_of_getElem? (i := 56) rfl))) Via.refl e59 (((F_c.other W48 (Or.inl n_a1_P)).other W53 (Or.inl n_a1_Wa)).ext E56) (g := (mkF m 141 #[.val (.ref a1), .val (.int p1), .val (.int 1), .val (.ref a1), .val (.ref P), .val (.ref Wa)] [(.ref a1), (.ref P), (.ref r), (.ref b56), (.ref b56)])) rfl rfl (hb hby d11_141)
        have pf61 : ∀ target, Steps p.tables e below (T60.setTop (mkF m 147 #[.val (.ref a1), .val (.int p1), .val (.int 1), .val (.ref a1), .val (.ref P), .val (.ref Wa)] [(.int 1), (.int ((Int32.ofNat cn) + (1 : Int32))), (.ref P), (.ref r), (.ref b56), (.ref b56)])) target → Steps p.tables e below (T16.setTop (mkF m 89 #[.val (.ref a1), .val (.int p1), .val (.int 1), .val (.ref a1), .val (.ref P), .val (.ref Wa)] [(.int (Int32.ofNat cn)), (.int (Int32.ofNat vs.length))])) target := by
          intro target k
          show Steps p.tables e below (T16.setTop (mkF m 89 #[.val (.ref a1), .val (.int p1), .val (.int 1), .val (.ref a1), .val (.ref P), .val (.ref Wa)] [(.int (Int32.ofNat cn)), (.int (Int32.ofNat vs.length))])) _
          refine XS.icmpYes X16.here hx rfl (pc0 := 89) (pc' := 112) rfl (hb hby d11_89) rfl (feq hc89).2 (by decide) (by decide) ?_
          refine XS.aload X16.here hx rfl (hb hby d11_112) rfl rfl ?_
          refine XS.aloadN X16.here hx rfl (hb hby d11_114) rfl rfl ?_
          show Steps p.tables e below (T16.setTop (mkF m 115 #[.val (.ref a1), .val (.int p1), .val (.int 1), .val (.ref a1), .val (.ref P), .val (.ref Wa)] [(.ref a1), (.ref P)])) _
          refine st46 _ ?_
          show Steps p.tables e below (T46.setTop (mkF m 118 #[.val (.ref a1), .val (.int p1), .val (.int 1), .val (.ref a1), .val (.ref P), .val (.ref Wa)] [(.int (Int32.ofNat cn)), (.ref P)])) _
          refine XS.iloadN X46.here hx rfl (hb hby d11_118) rfl ?_
          show Steps p.tables e below (T46.setTop (mkF m 119 #[.val (.ref a1), .val (.int p1), .val (.int 1), .val (.ref a1), .val (.ref P), .val (.ref Wa)] [(.int p1), (.int (Int32.ofNat cn)), (.ref P)])) _
          refine st48 _ ?_
          show Steps p.tables e below (T48.setTop (mkF m 120 #[.val (.ref a1), .val (.int p1), .val (.int 1), .val (.ref a1), .val (.ref P), .val (.ref Wa)] [])) _
          refine XS.aload X48.here hx rfl (hb hby d11_120) rfl rfl ?_
          refine XS.iconst X48.here hx rfl (hb hby d11_122) ?_
          refine XS.aloadN X48.here hx rfl (hb hby d11_123) rfl rfl ?_
          show Steps p.tables e below (T48.setTop (mkF m 124 #[.val (.ref a1), .val (.int p1), .val (.int 1), .val (.ref a1), .val (.ref P), .val (.ref Wa)] [(.ref a1), (.int 0), (.ref Wa)])) _
          refine st51 _ ?_
          show Steps p.tables e below (T51.setTop (mkF m 127 #[.val (.ref a1), .val (.int p1), .val (.int 1), .val (.ref a1), .val (.ref P), .val (.ref Wa)] [(.int (Int32.ofNat cn)), (.int 0), (.ref Wa)])) _
          refine XS.iconst X51.here hx rfl (hb hby d11_127) ?_
          refine XS.iadd X51.here hx rfl (hb hby d11_128) rfl ?_
          show Steps p.tables e below (T51.setTop (mkF m 129 #[.val (.ref a1), .val (.int p1), .val (.int 1), .val (.ref a1), .val (.ref P), .val (.ref Wa)] [(.int ((Int32.ofNat cn) + (1 : Int32))), (.int 0), (.ref Wa)])) _
          refine st53 _ ?_
          show Steps p.tables e below (T53.setTop (mkF m 130 #[.val (.ref a1), .val (.int p1), .val (.int 1), .val (.ref a1), .val (.ref P), .val (.ref Wa)] [])) _
          refine st56 _ ?_
          show Steps p.tables e below (T56.setTop (mkF m 133 #[.val (.ref a1), .val (.int p1), .val (.int 1), .val (.ref a1), .val (.ref P), .val (.ref Wa)] [(.ref b56)])) _
          refine XS.dup X56.here hx rfl (hb hby d11_133) rfl rfl ?_
          refine XS.aloadN X56.here hx rfl (hb hby d11_134) rfl rfl ?_
          show Steps p.tables e below (T56.setTop (mkF m 135 #[.val (.ref a1), .val (.int p1), .val (.int 1), .val (.ref a1), .val (.ref P), .val (.ref Wa)] [(.ref a1), (.ref b56), (.ref b56)])) _
          refine st59 _ ?_
          show Steps p.tables e below (T59.setTop (mkF m 138 #[.val (.ref a1), .val (.int p1), .val (.int 1), .val (.ref a1), .val (.ref P), .val (.ref Wa)] [(.ref r), (.ref b56), (.ref b56)])) _
          refine XS.aload X59.here hx rfl (hb hby d11_138) rfl rfl ?_
          refine XS.aloadN X59.here hx rfl (hb hby d11_140) rfl rfl ?_
          show Steps p.tables e below (T59.setTop (mkF m 141 #[.val (.ref a1), .val (.int p1), .val (.int 1), .val (.ref a1), .val (.ref P), .val (.ref Wa)] [(.ref a1), (.ref P), (.ref r), (.ref b56), (.ref b56)])) _
          refine st60 _ ?_
          show Steps p.tables e below (T60.setTop (mkF m 144 #[.val (.ref a1), .val (.int p1), .val (.int 1), .val (.ref a1), .val (.ref P), .val (.ref Wa)] [(.int (Int32.ofNat cn)), (.ref P), (.ref r), (.ref b56), (.ref b56)])) _
          refine XS.iconst X60.here hx rfl (hb hby d11_144) ?_
          refine XS.iadd X60.here hx rfl (hb hby d11_145) rfl ?_
          refine XS.iloadN X60.here hx rfl (hb hby d11_146) rfl ?_
          exact k
        obtain ⟨T62, X62, e62, st62⟩ := getF X60 hx hZ hown (host := "") (Or.inl (hw _ (List.mem_of_getElem? (i := 56) rfl))) Via.refl e60 (((F_c.other W48 (Or.inl n_a1_P)).other W53 (Or.inl n_a1_Wa)).ext E56) (g := (mkF m 151 #[.val (.ref a1), .val (.int p1), .val (.int 1), .val (.ref a1), .val (.ref P), .val (.ref Wa)] [(.ref a1), (.int ((Int32.ofNat cn) + (1 : Int32))), (.ref P), (.ref r), (.ref b56), (.ref b56)])) rfl rfl (hb hby d11_151)
        obtain ⟨_, _, ⟨T63, L63, k63, n63⟩, -, X63, ⟨Lc63, hQ63, l63, y63, z63⟩, st63⟩ := X62.specialBack hx (y := (⟨"com/example/rivet_context/rivetcontext/factory/TypeListing", "<init>", "([Ljava/lang/String;[III[I)V"⟩ : MethodName)) rfl hown (mvT hZ (hw _ (List.mem_of_getElem? (i := 35) rfl))) (mvT hZ (hw _ (List.mem_of_getElem? (i := 36) rfl))) (mvT hZ (hw _ (List.mem_of_getElem? (i := 37) rfl))) (by decide) (backOf (W := 1) (rmi5 l Z a0 hw [] b56 r P ((Int32.ofNat cn) + (1 : Int32)) ((Int32.ofNat cn) + (1 : Int32)) Wa h56 n0 O57 ⟨A56, F_registered_b56, F_places_b56, F_count_b56, F_ordered_b56, F_written_b56, F_inPlace_b56⟩ F_modCount_b56 g_b56) hZ (hw _ (List.mem_of_getElem? (i := 37) rfl)) (hw _ (List.mem_of_getElem? (i := 30) rfl)) (by decide) (by decide)) (g := (mkF m 165 #[.val (.ref a1), .val (.int p1), .val (.int 1), .val (.ref a1), .val (.ref P), .val (.ref Wa)] [(.ref Wa), (.int ((Int32.ofNat cn) + (1 : Int32))), (.int ((Int32.ofNat cn) + (1 : Int32))), (.ref P), (.ref r), (.ref b56), (.ref b56)])) rfl (by rw [hml]; rfl) (Steps.refl _) (a := b56) (argsL := [(.ref r), (.ref P), (.int ((Int32.ofNat cn) + (1 : Int32))), (.int ((Int32.ofNat cn) + (1 : Int32))), (.ref Wa)]) (rest := [(.ref b56)]) (lenOf pd4 rfl) rfl (by show 2 * 0 + _ ≤ _; exact Nat.le_of_eq rfl) (hb hby d11_165) (fun _ _ => ⟨rfl, e62, (by decide : 1 + 0 ≤ _), (by decide : 7 + 0 ≤ _)⟩)
        dsimp only [Pt.U, Pt.locs, Pt.cells, Pt.slots] at X63 l63 y63 z63 st63 hQ63
        subst l63 y63 z63
        obtain ⟨h63, e63⟩ : ∃ z, T63.heap = z := ⟨_, rfl⟩
        rw [e63] at hQ63
        obtain ⟨rfl, Nq63, K63, HT63⟩ := hQ63
        have N63 := Fr.app N53 Nq63
        have O64 := O57.keep K63 (allS g_b56 all0)
        have kp65 : Keep h0 h63 [P, Wa] := kp58.trans K63 (allS (Or.inr sz_b56) all0)
        have hext : extF vs cn on p1 = ((growF vs cn).set cn p1, cn + 1, cn + 1) := if_pos ⟨(own_eq (by omega) (by omega)).mp hc8, hc23⟩
        have LP : Lst Z h63 n0 b56 r ((growF vs cn).set cn p1) (cn + 1) (cn + 1) := by
          refine ⟨g_b56, P, kP, Wa, kW, ?_, ?_, ?_, g_P, g_Wa, nPW, rP, rW⟩
          · rw [← own_add1]; exact HT63
          · have q := (((Vb48.other W53 nPW).ext E56).keep K63 (ninS (Nat.ne_of_lt lt_P_b56) nin0))
            rw [hgr, List.length_set]; exact q
          · rw [← own_add1]; exact ((Vb53.ext E56).keep K63 (ninS (Nat.ne_of_lt lt_Wa_b56) nin0))
        obtain ⟨fs, hr, hrun, hended, hW, hsame⟩ := X63.leave (v := some (.ref b56)) (fun h => by rw [Bd.returns] at h; cases h)
        refine ⟨_, _, pre0 _ ?_, hrun, hended, _, _, rfl, ?_, ⟨_, rfl⟩, hW, hsame.mono (by decide) (by decide)⟩
        · refine pf6 _ ?_
          refine pf7 _ ?_
          refine pf13 _ ?_
          refine pf17 _ ?_
          refine pf61 _ ?_
          show Steps p.tables e below (T60.setTop (mkF m 147 #[.val (.ref a1), .val (.int p1), .val (.int 1), .val (.ref a1), .val (.ref P), .val (.ref Wa)] [(.int 1), (.int ((Int32.ofNat cn) + (1 : Int32))), (.ref P), (.ref r), (.ref b56), (.ref b56)])) _
          refine XS.ifNo X60.here hx rfl (hb hby d11_147) rfl ((if0 _ _).trans (feq (by decide)).1) ?_
          refine XS.aloadN X60.here hx rfl (hb hby d11_150) rfl rfl ?_
          show Steps p.tables e below (T60.setTop (mkF m 151 #[.val (.ref a1), .val (.int p1), .val (.int 1), .val (.ref a1), .val (.ref P), .val (.ref Wa)] [(.ref a1), (.int ((Int32.ofNat cn) + (1 : Int32))), (.ref P), (.ref r), (.ref b56), (.ref b56)])) _
          refine st62 _ ?_
          show Steps p.tables e below (T62.setTop (mkF m 154 #[.val (.ref a1), .val (.int p1), .val (.int 1), .val (.ref a1), .val (.ref P), .val (.ref Wa)] [(.int (Int32.ofNat cn)), (.int ((Int32.ofNat cn) + (1 : Int32))), (.ref P), (.ref r), (.ref b56), (.ref b56)])) _
          refine XS.iconst X62.here hx rfl (hb hby d11_154) ?_
          refine XS.iadd X62.here hx rfl (hb hby d11_155) rfl ?_
          refine XS.goto X62.here hx rfl (pc0 := 156) (pc' := 163) rfl (hb hby d11_156) (by decide) (by decide) ?_
          refine XS.aload X62.here hx rfl (hb hby d11_163) rfl rfl ?_
          show Steps p.tables e below (T62.setTop (mkF m 165 #[.val (.ref a1), .val (.int p1), .val (.int 1), .val (.ref a1), .val (.ref P), .val (.ref Wa)] [(.ref Wa), (.int ((Int32.ofNat cn) + (1 : Int32))), (.int ((Int32.ofNat cn) + (1 : Int32))), (.ref P), (.ref r), (.ref b56), (.ref b56)])) _
          refine st63.trans ?_
          show Steps p.tables e below (T63.setTop (mkF m 168 #[.val (.ref a1), .val (.int p1), .val (.int 1), .val (.ref a1), .val (.ref P), .val (.ref Wa)] [(.ref b56)])) _
          refine XS.astoreN X63.here hx rfl (hb hby d11_168) rfl rfl (l' := #[.val (.ref a1), .val (.int p1), .val (.int 1), .val (.ref b56), .val (.ref P), .val (.ref Wa)]) rfl ?_
          refine XS.aloadN X63.here hx rfl (hb hby d11_169) rfl rfl ?_
          show Steps p.tables e below (T63.setTop (mkF m 170 #[.val (.ref a1), .val (.int p1), .val (.int 1), .val (.ref b56), .val (.ref P), .val (.ref Wa)] [(.ref b56)])) _
          exact retOut X63 hx Bd.returns rfl (Or.inr (Or.inr (Or.inr (Or.inr ⟨rfl, rfl, rfl⟩)))) (hb hby d11_170) hr
        · show Qext Z r kr ss (extF vs cn on p1) n0 _ T63.heap _
          rw [e63]
          exact ⟨b56, rfl, N63, O64, ((((VR.other W48 (Nat.ne_of_lt rP)).other W53 (Nat.ne_of_lt rW)).ext E56).keep K63 (ninS (Nat.ne_of_lt lt_r_b56) nin0)), by rw [hext]; exact LP⟩
    · have pf66 : ∀ target, Steps p.tables e below (T4.setTop (mkF m 35 #[.val (.ref a1), .val (.int p1), .val (.int 0), .val (.ref a1), .unset, .unset] [(.int 0)])) target → Steps p.tables e below (T4.setTop (mkF m 23 #[.val (.ref a1), .val (.int p1), .unset, .unset, .unset, .unset] [(.int p1), (.int (vs.getD (cn - 1) 0))])) target := by
        intro target k
        show Steps p.tables e below (T4.setTop (mkF m 23 #[.val (.ref a1), .val (.int p1), .unset, .unset, .unset, .unset] [(.int p1), (.int (vs.getD (cn - 1) 0))])) _
        refine XS.icmpYes X4.here hx rfl (pc0 := 23) (pc' := 30) rfl (hb hby d11_23) rfl (flt hc23).2.1 (by decide) (by decide) ?_
        refine XS.iconst X4.here hx rfl (hb hby d11_30) ?_
        refine XS.istoreN X4.here hx rfl (hb hby d11_31) rfl (l' := #[.val (.ref a1), .val (.int p1), .val (.int 0), .unset, .unset, .unset]) rfl ?_
        refine XS.aloadN X4.here hx rfl (hb hby d11_32) rfl rfl ?_
        refine XS.astoreN X4.here hx rfl (hb hby d11_33) rfl rfl (l' := #[.val (.ref a1), .val (.int p1), .val (.int 0), .val (.ref a1), .unset, .unset]) rfl ?_
        refine XS.iloadN X4.here hx rfl (hb hby d11_34) rfl ?_
        exact k
      obtain ⟨T67, X67, e67, st67⟩ := getF X4 hx hZ hown (host := "") (Or.inl (hw _ (List.mem_of_getElem? (i := 54) rfl))) Via.refl e4 F_p (g := (mkF m 40 #[.val (.ref a1), .val (.int p1), .val (.int 0), .val (.ref a1), .unset, .unset] [(.ref a1), (.int 0)])) rfl rfl (hb hby d11_40)
      obtain ⟨T68, X68, e68, st68⟩ := getF X67 hx hZ hown (host := "") (Or.inl (hw _ (List.mem_of_getElem? (i := 58) rfl))) Via.refl e67 F_o (g := (mkF m 45 #[.val (.ref a1), .val (.int p1), .val (.int 0), .val (.ref a1), .unset, .unset] [(.ref a1), (.int 0), (.ref P), (.int 0)])) rfl rfl (hb hby d11_45)
      obtain ⟨_, _, ⟨T69, L69, k69, n69⟩, -, X69, ⟨Lc69, hQ69, l69, y69, z69⟩, st69⟩ := Jvm.LawKit.callS X68 hx (y := (⟨"java/util/Arrays", "binarySearch", "([IIII)I"⟩ : MethodName)) hown (mvT hZ (hw _ (List.mem_of_getElem? (i := 73) rfl))) (mvT hZ (hw _ (List.mem_of_getElem? (i := 74) rfl))) (mvT hZ (hw _ (List.mem_of_getElem? (i := 75) rfl))) (mvT hZ (hw _ (List.mem_of_getElem? (i := 76) rfl))) (by decide) (backOf (W := 1) (rmb l Z a0 hw [] P kP vs on p1 h0 n0 O0 VP (by omega) ho1 (by omega) (by omega)) hZ (hw _ (List.mem_of_getElem? (i := 76) rfl)) (hw _ (List.mem_of_getElem? (i := 75) rfl)) (by decide) (by decide)) (g := (mkF m 49 #[.val (.ref a1), .val (.int p1), .val (.int 0), .val (.ref a1), .unset, .unset] [(.int p1), (.int (Int32.ofNat on)), (.int 0), (.ref P), (.int 0)])) rfl (by rw [hml]; rfl) (argsL := [(.ref P), (.int 0), (.int (Int32.ofNat on)), (.int p1)]) (rest := [(.int 0)]) (lenOf pd6 rfl) rfl (by show 2 * 0 + _ ≤ _; exact Nat.le_of_eq rfl) (hb hby d11_49) (fun _ _ => ⟨rfl, e68, (by decide : 0 + 0 ≤ _), (by decide : 0 + 0 ≤ _)⟩)
      dsimp only [Pt.U, Pt.locs, Pt.cells, Pt.slots] at X69 l69 y69 z69 st69 hQ69
      subst l69 y69 z69
      obtain ⟨rfl, Nq69, e69⟩ := hQ69
      have N69 := Fr.app N0 Nq69
      have pf70 : ∀ target, Steps p.tables e below (T69.setTop (mkF m 52 #[.val (.ref a1), .val (.int p1), .val (.int 0), .val (.ref a1), .unset, .unset] [(.int (bsF on vs p1)), (.int 0)])) target → Steps p.tables e below (T4.setTop (mkF m 35 #[.val (.ref a1), .val (.int p1), .val (.int 0), .val (.ref a1), .unset, .unset] [(.int 0)])) target := by
        intro target k
        show Steps p.tables e below (T4.setTop (mkF m 35 #[.val (.ref a1), .val (.int p1), .val (.int 0), .val (.ref a1), .unset, .unset] [(.int 0)])) _
        refine XS.ifNo X4.here hx rfl (hb hby d11_35) rfl ((if0 _ _).trans (teq (by decide)).2) ?_
        refine XS.iconst X4.here hx rfl (hb hby d11_38) ?_
        refine XS.aloadN X4.here hx rfl (hb hby d11_39) rfl rfl ?_
        show Steps p.tables e below (T4.setTop (mkF m 40 #[.val (.ref a1), .val (.int p1), .val (.int 0), .val (.ref a1), .unset, .unset] [(.ref a1), (.int 0)])) _
        refine st67 _ ?_
        show Steps p.tables e below (T67.setTop (mkF m 43 #[.val (.ref a1), .val (.int p1), .val (.int 0), .val (.ref a1), .unset, .unset] [(.ref P), (.int 0)])) _
        refine XS.iconst X67.here hx rfl (hb hby d11_43) ?_
        refine XS.aloadN X67.here hx rfl (hb hby d11_44) rfl rfl ?_
        show Steps p.tables e below (T67.setTop (mkF m 45 #[.val (.ref a1), .val (.int p1), .val (.int 0), .val (.ref a1), .unset, .unset] [(.ref a1), (.int 0), (.ref P), (.int 0)])) _
        refine st68 _ ?_
        show Steps p.tables e below (T68.setTop (mkF m 48 #[.val (.ref a1), .val (.int p1), .val (.int 0), .val (.ref a1), .unset, .unset] [(.int (Int32.ofNat on)), (.int 0), (.ref P), (.int 0)])) _
        refine XS.iloadN X68.here hx rfl (hb hby d11_48) rfl ?_
        show Steps p.tables e below (T68.setTop (mkF m 49 #[.val (.ref a1), .val (.int p1), .val (.int 0), .val (.ref a1), .unset, .unset] [(.int p1), (.int (Int32.ofNat on)), (.int 0), (.ref P), (.int 0)])) _
        refine st69 _ ?_
        exact k
      by_cases hc52 : (bsF on vs p1) < (0 : Int32)
      · obtain ⟨T71, X71, e71, st71⟩ := getF X69 hx hZ hown (host := "") (Or.inl (hw _ (List.mem_of_getElem? (i := 54) rfl))) Via.refl e69 F_p (g := (mkF m 56 #[.val (.ref a1), .val (.int p1), .val (.int 0), .val (.ref a1), .unset, .unset] [(.ref a1)])) rfl rfl (hb hby d11_56)
        obtain ⟨T72, X72, e72, st72⟩ := getF X71 hx hZ hown (host := "") (Or.inl (hw _ (List.mem_of_getElem? (i := 60) rfl))) Via.refl e71 F_w (g := (mkF m 62 #[.val (.ref a1), .val (.int p1), .val (.int 0), .val (.ref a1), .val (.ref P), .unset] [(.ref a1)])) rfl rfl (hb hby d11_62)
        obtain ⟨T73, X73, e73, st73⟩ := getF X72 hx hZ hown (host := "") (Or.inl (hw _ (List.mem_of_getElem? (i := 60) rfl))) Via.refl e72 F_w (g := (mkF m 68 #[.val (.ref a1), .val (.int p1), .val (.int 0), .val (.ref a1), .val (.ref P), .val (.ref Wa)] [(.ref a1)])) rfl rfl (hb hby d11_68)
        obtain ⟨cl74, Ar74, hin74, hat74⟩ := own_at (j := (0 : Int32)) (i := 0) VW hNW (by decide) (by decide) (by rw [List.length_singleton]; decide)
        obtain ⟨T75, X75, e75, st75⟩ := getF X73 hx hZ hown (host := "") (Or.inl (hw _ (List.mem_of_getElem? (i := 56) rfl))) Via.refl e73 F_c (g := (mkF m 74 #[.val (.ref a1), .val (.int p1), .val (.int 0), .val (.ref a1), .val (.ref P), .val (.ref Wa)] [(.ref a1), (.int ([Int32.ofNat cn].getD 0 0))])) rfl rfl (hb hby d11_74)
        have pf76 : ∀ target, Steps p.tables e below (T75.setTop (mkF m 77 #[.val (.ref a1), .val (.int p1), .val (.int 0), .val (.ref a1), .val (.ref P), .val (.ref Wa)] [(.int (Int32.ofNat cn)), (.int ([Int32.ofNat cn].getD 0 0))])) target → Steps p.tables e below (T69.setTop (mkF m 52 #[.val (.ref a1), .val (.int p1), .val (.int 0), .val (.ref a1), .unset, .unset] [(.int (bsF on vs p1)), (.int 0)])) target := by
          intro target k
          show Steps p.tables e below (T69.setTop (mkF m 52 #[.val (.ref a1), .val (.int p1), .val (.int 0), .val (.ref a1), .unset, .unset] [(.int (bsF on vs p1)), (.int 0)])) _
          refine XS.icmpNo X69.here hx rfl (hb hby d11_52) rfl (tlt hc52).2.2.2 ?_
          refine XS.aloadN X69.here hx rfl (hb hby d11_55) rfl rfl ?_
          show Steps p.tables e below (T69.setTop (mkF m 56 #[.val (.ref a1), .val (.int p1), .val (.int 0), .val (.ref a1), .unset, .unset] [(.ref a1)])) _
          refine st71 _ ?_
          show Steps p.tables e below (T71.setTop (mkF m 59 #[.val (.ref a1), .val (.int p1), .val (.int 0), .val (.ref a1), .unset, .unset] [(.ref P)])) _
          refine XS.astore X71.here hx rfl (hb hby d11_59) rfl rfl (l' := #[.val (.ref a1), .val (.int p1), .val (.int 0), .val (.ref a1), .val (.ref P), .unset]) rfl ?_
          refine XS.aloadN X71.here hx rfl (hb hby d11_61) rfl rfl ?_
          show Steps p.tables e below (T71.setTop (mkF m 62 #[.val (.ref a1), .val (.int p1), .val (.int 0), .val (.ref a1), .val (.ref P), .unset] [(.ref a1)])) _
          refine st72 _ ?_
          show Steps p.tables e below (T72.setTop (mkF m 65 #[.val (.ref a1), .val (.int p1), .val (.int 0), .val (.ref a1), .val (.ref P), .unset] [(.ref Wa)])) _
          refine XS.astore X72.here hx rfl (hb hby d11_65) rfl rfl (l' := #[.val (.ref a1), .val (.int p1), .val (.int 0), .val (.ref a1), .val (.ref P), .val (.ref Wa)]) rfl ?_
          refine XS.aloadN X72.here hx rfl (hb hby d11_67) rfl rfl ?_
          show Steps p.tables e below (T72.setTop (mkF m 68 #[.val (.ref a1), .val (.int p1), .val (.int 0), .val (.ref a1), .val (.ref P), .val (.ref Wa)] [(.ref a1)])) _
          refine st73 _ ?_
          show Steps p.tables e below (T73.setTop (mkF m 71 #[.val (.ref a1), .val (.int p1), .val (.int 0), .val (.ref a1), .val (.ref P), .val (.ref Wa)] [(.ref Wa)])) _
          refine XS.iconst X73.here hx rfl (hb hby d11_71) ?_
          show Steps p.tables e below (T73.setTop (mkF m 72 #[.val (.ref a1), .val (.int p1), .val (.int 0), .val (.ref a1), .val (.ref P), .val (.ref Wa)] [(.int 0), (.ref Wa)])) _
          refine X73.iaload hx (j := (0 : Int32)) (v := (.int ([Int32.ofNat cn].getD 0 0))) (by rw [e73]; exact Ar74.1) (State.isArrayOf_alike hZ.alike Ar74.2.1) Ar74.2.2 hin74 hat74 (g := (mkF m 72 #[.val (.ref a1), .val (.int p1), .val (.int 0), .val (.ref a1), .val (.ref P), .val (.ref Wa)] [(.int 0), (.ref Wa)])) rfl rfl (hb hby d11_72) _ ?_
          show Steps p.tables e below (T73.setTop (mkF m 73 #[.val (.ref a1), .val (.int p1), .val (.int 0), .val (.ref a1), .val (.ref P), .val (.ref Wa)] [(.int ([Int32.ofNat cn].getD 0 0))])) _
          refine XS.aloadN X73.here hx rfl (hb hby d11_73) rfl rfl ?_
          show Steps p.tables e below (T73.setTop (mkF m 74 #[.val (.ref a1), .val (.int p1), .val (.int 0), .val (.ref a1), .val (.ref P), .val (.ref Wa)] [(.ref a1), (.int ([Int32.ofNat cn].getD 0 0))])) _
          refine st75 _ ?_
          exact k
        obtain ⟨T77, X77, e77, st77⟩ := getF X75 hx hZ hown (host := "") (Or.inl (hw _ (List.mem_of_getElem? (i := 54) rfl))) Via.refl e75 F_p (g := (mkF m 81 #[.val (.ref a1), .val (.int p1), .val (.int 0), .val (.ref a1), .val (.ref P), .val (.ref Wa)] [(.ref a1)])) rfl rfl (hb hby d11_81)
        obtain ⟨cl78, Ar78, q78, Sz78, Nn78, Ha78, Gf78⟩ := id VP
        obtain ⟨T79, X79, e79, st79⟩ := getF X77 hx hZ hown (host := "") (Or.inl (hw _ (List.mem_of_getElem? (i := 56) rfl))) Via.refl e77 F_c (g := (mkF m 86 #[.val (.ref a1), .val (.int p1), .val (.int 0), .val (.ref a1), .val (.ref P), .val (.ref Wa)] [(.ref a1), (.int (Int32.ofNat vs.length))])) rfl rfl (hb hby d11_86)
        have pf80 : ∀ target, Steps p.tables e below (T79.setTop (mkF m 89 #[.val (.ref a1), .val (.int p1), .val (.int 0), .val (.ref a1), .val (.ref P), .val (.ref Wa)] [(.int (Int32.ofNat cn)), (.int (Int32.ofNat vs.length))])) target → Steps p.tables e below (T75.setTop (mkF m 77 #[.val (.ref a1), .val (.int p1), .val (.int 0), .val (.ref a1), .val (.ref P), .val (.ref Wa)] [(.int (Int32.ofNat cn)), (.int ([Int32.ofNat cn].getD 0 0))])) target := by
          intro target k
          show Steps p.tables e below (T75.setTop (mkF m 77 #[.val (.ref a1), .val (.int p1), .val (.int 0), .val (.ref a1), .val (.ref P), .val (.ref Wa)] [(.int (Int32.ofNat cn)), (.int ([Int32.ofNat cn].getD 0 0))])) _
          refine XS.icmpNo X75.here hx rfl (hb hby d11_77) rfl (teq rfl).2 ?_
          refine XS.aloadN X75.here hx rfl (hb hby d11_80) rfl rfl ?_
          show Steps p.tables e below (T75.setTop (mkF m 81 #[.val (.ref a1), .val (.int p1), .val (.int 0), .val (.ref a1), .val (.ref P), .val (.ref Wa)] [(.ref a1)])) _
          refine st77 _ ?_
          show Steps p.tables e below (T77.setTop (mkF m 84 #[.val (.ref a1), .val (.int p1), .val (.int 0), .val (.ref a1), .val (.ref P), .val (.ref Wa)] [(.ref P)])) _
          refine X77.arraylength hx (by rw [e77]; exact Ar78.1) (State.isArrayOf_alike hZ.alike Ar78.2.1) (g := (mkF m 84 #[.val (.ref a1), .val (.int p1), .val (.int 0), .val (.ref a1), .val (.ref P), .val (.ref Wa)] [(.ref P)])) rfl rfl (hb hby d11_84) _ ?_
          rw [len_of Sz78 Nn78]
          show Steps p.tables e below (T77.setTop (mkF m 85 #[.val (.ref a1), .val (.int p1), .val (.int 0), .val (.ref a1), .val (.ref P), .val (.ref Wa)] [(.int (Int32.ofNat vs.length))])) _
          refine XS.aloadN X77.here hx rfl (hb hby d11_85) rfl rfl ?_
          show Steps p.tables e below (T77.setTop (mkF m 86 #[.val (.ref a1), .val (.int p1), .val (.int 0), .val (.ref a1), .val (.ref P), .val (.ref Wa)] [(.ref a1), (.int (Int32.ofNat vs.length))])) _
          refine st79 _ ?_
          exact k
        by_cases hc89 : (Int32.ofNat vs.length) = (Int32.ofNat cn)
        · have hel : vs.length = cn := (own_eq (by omega) (by omega)).mp hc89
          obtain ⟨T81, X81, e81, st81⟩ := getF X79 hx hZ hown (host := "") (Or.inl (hw _ (List.mem_of_getElem? (i := 54) rfl))) Via.refl e79 F_p (g := (mkF m 93 #[.val (.ref a1), .val (.int p1), .val (.int 0), .val (.ref a1), .val (.ref P), .val (.ref Wa)] [(.ref a1)])) rfl rfl (hb hby d11_93)
          obtain ⟨T82, X82, e82, st82⟩ := getF X81 hx hZ hown (host := "") (Or.inl (hw _ (List.mem_of_getElem? (i := 56) rfl))) Via.refl e81 F_c (g := (mkF m 98 #[.val (.ref a1), .val (.int p1), .val (.int 0), .val (.ref a1), .val (.ref P), .val (.ref Wa)] [(.ref a1), (.int 2), (.ref P)])) rfl rfl (hb hby d11_98)
          obtain ⟨_, _, ⟨T83, L83, k83, n83⟩, -, X83, ⟨Lc83, hQ83, l83, y83, z83⟩, st83⟩ := Jvm.LawKit.callS X82 hx (y := (⟨"java/util/Arrays", "copyOf", "([II)[I"⟩ : MethodName)) hown (mvT hZ (hw _ (List.mem_of_getElem? (i := 83) rfl))) (mvT hZ (hw _ (List.mem_of_getElem? (i := 84) rfl))) (mvT hZ (hw _ (List.mem_of_getElem? (i := 75) rfl))) (mvT hZ (hw _ (List.mem_of_getElem? (i := 85) rfl))) (by decide) (backOf (W := 0) (rmco l Z a0 hw [] P kP vs cn ((2 : Int32) * (Int32.ofNat cn)) h0 n0 O0 VP (by omega) hel (by omega) (by omega) (own_mul2 (by omega))) hZ (hw _ (List.mem_of_getElem? (i := 85) rfl)) (hw _ (List.mem_of_getElem? (i := 75) rfl)) (by decide) (by decide)) (g := (mkF m 102 #[.val (.ref a1), .val (.int p1), .val (.int 0), .val (.ref a1), .val (.ref P), .val (.ref Wa)] [(.int ((2 : Int32) * (Int32.ofNat cn))), (.ref P)])) rfl (by rw [hml]; rfl) (argsL := [(.ref P), (.int ((2 : Int32) * (Int32.ofNat cn)))]) (rest := []) (lenOf pd8 rfl) rfl (by show 2 * 0 + _ ≤ _; exact Nat.le_of_eq rfl) (hb hby d11_102) (fun _ _ => ⟨rfl, e82, (by decide : 0 + 1 ≤ _), (by decide : 0 + 8 ≤ _)⟩)
          dsimp only [Pt.U, Pt.locs, Pt.cells, Pt.slots] at X83 l83 y83 z83 st83 hQ83
          subst l83 y83 z83
          obtain ⟨h83, e83⟩ : ∃ z, T83.heap = z := ⟨_, rfl⟩
          rw [e83] at hQ83
          obtain ⟨b83, kb83, rfl, Nq83, K83, szb83, Vb83⟩ := hQ83
          have N83 := Fr.app N69 Nq83
          have O84 := O0.keep K83 all0
          have kp85 : Keep h0 h83 [P, Wa] := (Keep.refl h0 [P, Wa]).trans K83 all0
          have g_b83 : n0 ≤ b83 := Nat.le_trans (own_sz O0) szb83
          have sz_b83 : h0.size ≤ b83 := Nat.le_trans (Keep.refl h0 [P, Wa]).1 szb83
          have lt_P_b83 : P < b83 := Nat.lt_of_lt_of_le lt_P sz_b83
          have lt_Wa_b83 : Wa < b83 := Nat.lt_of_lt_of_le lt_Wa sz_b83
          have lt_r_b83 : r < b83 := Nat.lt_of_lt_of_le lt_r sz_b83
          have lt_a1_b83 : a1 < b83 := Nat.lt_of_lt_of_le lt_a1 sz_b83
          have hNb83 : (Int32.ofNat (vs.length + cn)).toNatClampNeg = (vs ++ List.replicate cn 0).length := by rw [own_n (by omega), List.length_append, List.length_replicate]
          obtain ⟨T86, h86, k86, X86, e86, E86, A86, st86⟩ := newP X83 hx hZ (hw _ (List.mem_of_getElem? (i := 34) rfl)) e83 (g := (mkF m 108 #[.val (.ref a1), .val (.int p1), .val (.int 0), .val (.ref a1), .val (.ref b83), .val (.ref Wa)] [(.int 1)])) rfl (hb hby d11_108) rfl (by decide) (cap := 1) (by decide) (by decide) (by decide) (by decide)
          obtain ⟨b86, g86⟩ : ∃ z, z = h83.size := ⟨_, rfl⟩
          rw [← g86] at A86 st86
          have g_b86 : n0 ≤ b86 := by rw [g86]; exact Nat.le_trans (Nat.le_of_eq O84.1.symm) O84.2.1
          have sz_b86 : h0.size ≤ b86 := by rw [g86]; exact kp85.1
          have lt_b83_b86 : b83 < b86 := by rw [g86]; exact Vb83.lt
          have lt_P_b86 : P < b86 := Nat.lt_of_lt_of_le lt_P sz_b86
          have lt_Wa_b86 : Wa < b86 := Nat.lt_of_lt_of_le lt_Wa sz_b86
          have lt_r_b86 : r < b86 := Nat.lt_of_lt_of_le lt_r sz_b86
          have lt_a1_b86 : a1 < b86 := Nat.lt_of_lt_of_le lt_a1 sz_b86
          have O87 := O84.ext E86
          have kp88 : Keep h0 h86 [P, Wa] := kp85.ext E86
          have V_b86 : Arv Z h86 b86 k86 .int (1 : Int32) [(.int 0)] (.int 0) := (Arv.new A86 (by decide)).pad (pad_rep [] (.int 0) 1)
          have hlt : cn < (vs ++ List.replicate cn 0).length := by rw [List.length_append, List.length_replicate]; omega
          have hgr : growF vs cn = vs ++ List.replicate cn 0 := if_pos hel
          obtain ⟨T89, X89, e89, st89⟩ := getF X86 hx hZ hown (host := "") (Or.inl (hw _ (List.mem_of_getElem? (i := 56) rfl))) Via.refl e86 ((F_c.keep K83 nin0).ext E86) (g := (mkF m 115 #[.val (.ref a1), .val (.int p1), .val (.int 0), .val (.ref a1), .val (.ref b83), .val (.ref b86)] [(.ref a1), (.ref b83)])) rfl rfl (hb hby d11_115)
          obtain ⟨cl90, Ar90, q90, Sz90, Nn90, Ha90, Gf90⟩ := id (Vb83.ext E86)
          have hin90 : ¬ ((Int32.ofNat cn) < 0 ∨ cl90.slots.size ≤ ((Int32.ofNat cn)).toNatClampNeg) := own_inb (i := cn) Sz90 hNb83 (own_nn (by omega)) (own_n (by omega)) hlt
          obtain ⟨T91, h91, X91, e91, W91, st91⟩ := stI X89 hx hZ e89 Ar90 (j := (Int32.ofNat cn)) hin90 (g := (mkF m 119 #[.val (.ref a1), .val (.int p1), .val (.int 0), .val (.ref a1), .val (.ref b83), .val (.ref b86)] [(.int p1), (.int (Int32.ofNat cn)), (.ref b83)])) rfl rfl (hb hby d11_119)
          have Va91 := Arv.set Ar90 q90 Sz90 Nn90 Ha90 Gf90 rfl W91 cn (own_n (by omega)) (by rw [List.length_map]; exact hlt)
          have Vb91 : Arv Z h91 b83 kb83 .int (Int32.ofNat (vs.length + cn)) (((vs ++ List.replicate cn 0).set cn p1).map Value.int) (.int 0) := by rw [List.map_set]; exact Va91
          have hN91 : ((Int32.ofNat (vs.length + cn))).toNatClampNeg = ((vs ++ List.replicate cn 0).set cn p1).length := by rw [List.length_set]; exact hNb83
          have O92 := O87.wr W91 g_b83
          have kp93 : Keep h0 h91 [P, Wa] := kp88.wr W91 (Or.inr sz_b83)
          have N91 := Fr.snoc X91 N83 g_b83
          obtain ⟨T94, X94, e94, st94⟩ := getF X91 hx hZ hown (host := "") (Or.inl (hw _ (List.mem_of_getElem? (i := 56) rfl))) Via.refl e91 (((F_c.keep K83 nin0).ext E86).other W91 (Or.inl (Nat.ne_of_lt lt_a1_b83))) (g := (mkF m 124 #[.val (.ref a1), .val (.int p1), .val (.int 0), .val (.ref a1), .val (.ref b83), .val (.ref b86)] [(.ref a1), (.int 0), (.ref b86)])) rfl rfl (hb hby d11_124)
          obtain ⟨cl95, Ar95, q95, Sz95, Nn95, Ha95, Gf95⟩ := (V_b86.other W91 (Ne.symm (Nat.ne_of_lt lt_b83_b86)))
          have hin95 : ¬ ((0 : Int32) < 0 ∨ cl95.slots.size ≤ ((0 : Int32)).toNatClampNeg) := inb_of Sz95 ⟨by decide, by decide⟩
          obtain ⟨T96, h96, X96, e96, W96, st96⟩ := stI X94 hx hZ e94 Ar95 (j := (0 : Int32)) hin95 (g := (mkF m 129 #[.val (.ref a1), .val (.int p1), .val (.int 0), .val (.ref a1), .val (.ref b83), .val (.ref b86)] [(.int ((Int32.ofNat cn) + (1 : Int32))), (.int 0), (.ref b86)])) rfl rfl (hb hby d11_129)
          have Va96 := Arv.set Ar95 q95 Sz95 Nn95 Ha95 Gf95 rfl W96 0 rfl (Nat.le_of_ble_eq_true rfl)
          have Vb96 : Arv Z h96 b86 k86 .int (1 : Int32) [(.int ((Int32.ofNat cn) + (1 : Int32)))] (.int 0) := Va96
          have O97 := O92.wr W96 g_b86
          have kp98 : Keep h0 h96 [P, Wa] := kp93.wr W96 (Or.inr sz_b86)
          have N96 := Fr.snoc X96 N91 g_b86
          obtain ⟨T99, h99, X99, e99, E99, A99, D99, U99, st99⟩ := newO X96 hx hZ hown (hw _ (List.mem_of_getElem? (i := 94) rfl)) (hw _ (List.mem_of_getElem? (i := 29) rfl)) (hw _ (List.mem_of_getElem? (i := 30) rfl)) e96 (g := (mkF m 130 #[.val (.ref a1), .val (.int p1), .val (.int 0), .val (.ref a1), .val (.ref b83), .val (.ref b86)] [])) rfl (hb hby d11_130) (by decide) (by decide)
          obtain ⟨b99, g99⟩ : ∃ z, z = h96.size := ⟨_, rfl⟩
          rw [← g99] at A99 D99 U99 st99
          have g_b99 : n0 ≤ b99 := by rw [g99]; exact Nat.le_trans (Nat.le_of_eq O97.1.symm) O97.2.1
          have sz_b99 : h0.size ≤ b99 := by rw [g99]; exact kp98.1
          have lt_b83_b99 : b83 < b99 := by rw [g99]; exact (Vb91.other W96 (Nat.ne_of_lt lt_b83_b86)).lt
          have lt_b86_b99 : b86 < b99 := by rw [g99]; exact Vb96.lt
          have lt_P_b99 : P < b99 := Nat.lt_of_lt_of_le lt_P sz_b99
          have lt_Wa_b99 : Wa < b99 := Nat.lt_of_lt_of_le lt_Wa sz_b99
          have lt_r_b99 : r < b99 := Nat.lt_of_lt_of_le lt_r sz_b99
          have lt_a1_b99 : a1 < b99 := Nat.lt_of_lt_of_le lt_a1 sz_b99
          have O100 := O97.ext E99
          have kp101 : Keep h0 h99 [P, Wa] := kp98.ext E99
          have F_modCount_b99 : Fld Z h99 b99 "java/util/AbstractList" "modCount" "I" (.int 0) := D99 (Or.inl (hw _ (List.mem_of_getElem? (i := 51) rfl))) (ty := .int) (by decide)
          have F_registered_b99 : Fld Z h99 b99 "com/example/rivet_context/rivetcontext/factory/TypeListing" "registered" "[Ljava/lang/String;" .null := D99 (Or.inr (hw _ (List.mem_of_getElem? (i := 53) rfl))) (ty := (.array (.object "java/lang/String"))) (by decide)
          have F_places_b99 : Fld Z h99 b99 "com/example/rivet_context/rivetcontext/factory/TypeListing" "places" "[I" .null := D99 (Or.inr (hw _ (List.mem_of_getElem? (i := 55) rfl))) (ty := (.array .int)) (by decide)
          have F_count_b99 : Fld Z h99 b99 "com/example/rivet_context/rivetcontext/factory/TypeListing" "count" "I" (.int 0) := D99 (Or.inr (hw _ (List.mem_of_getElem? (i := 57) rfl))) (ty := .int) (by decide)
          have F_ordered_b99 : Fld Z h99 b99 "com/example/rivet_context/rivetcontext/factory/TypeListing" "ordered" "I" (.int 0) := D99 (Or.inr (hw _ (List.mem_of_getElem? (i := 59) rfl))) (ty := .int) (by decide)
          have F_written_b99 : Fld Z h99 b99 "com/example/rivet_context/rivetcontext/factory/TypeListing" "written" "[I" .null := D99 (Or.inr (hw _ (List.mem_of_getElem? (i := 61) rfl))) (ty := (.array .int)) (by decide)
          have F_inPlace_b99 : Fld Z h99 b99 "com/example/rivet_context/rivetcontext/factory/TypeListing" "inPlace" "Lcom/example/rivet_context/rivetcontext/factory/TypeListing;" .null := D99 (Or.inl (hw _ (List.mem_of_getElem? (i := 68) rfl))) (ty := (.object "com/example/rivet_context/rivetcontext/factory/TypeListing")) (by decide)
          obtain ⟨T102, X102, e102, st102⟩ := getF X99 hx hZ hown (host := "") (Or.inl (hw _ (List.mem_of_getElem? (i := 52) rfl))) Via.refl e99 (((((F_r.keep K83 nin0).ext E86).other W91 (Or.inl (Nat.ne_of_lt lt_a1_b83))).other W96 (Or.inl (Nat.ne_of_lt lt_a1_b86))).ext E99) (g := (mkF m 135 #[.val (.ref a1), .val (.int p1), .val (.int 0), .val (.ref a1), .val (.ref b83), .val (.ref b86)] [(.ref a1), (.ref b99), (.ref b99)])) rfl rfl (hb hby d11_135)
          obtain ⟨T103, X103, e103, st103⟩ := getF X102 hx hZ hown (host := "") (Or.inl (hw _ (List.mem_of_getElem? (i := 56) rfl))) Via.refl e102 (((((F_c.keep K83 nin0).ext E86).other W91 (Or.inl (Nat.ne_of_lt lt_a1_b83))).other W96 (Or.inl (Nat.ne_of_lt lt_a1_b86))).ext E99) (g := (mkF m 141 #[.val (.ref a1), .val (.int p1), .val (.int 0), .val (.ref a1), .val (.ref b83), .val (.ref b86)] [(.ref a1), (.ref b83), (.ref r), (.ref b99), (.ref b99)])) rfl rfl (hb hby d11_141)
          have pf104 : ∀ target, Steps p.tables e below (T103.setTop (mkF m 147 #[.val (.ref a1), .val (.int p1), .val (.int 0), .val (.ref a1), .val (.ref b83), .val (.ref b86)] [(.int 0), (.int ((Int32.ofNat cn) + (1 : Int32))), (.ref b83), (.ref r), (.ref b99), (.ref b99)])) target → Steps p.tables e below (T79.setTop (mkF m 89 #[.val (.ref a1), .val (.int p1), .val (.int 0), .val (.ref a1), .val (.ref P), .val (.ref Wa)] [(.int (Int32.ofNat cn)), (.int (Int32.ofNat vs.length))])) target := by
            intro target k
            show Steps p.tables e below (T79.setTop (mkF m 89 #[.val (.ref a1), .val (.int p1), .val (.int 0), .val (.ref a1), .val (.ref P), .val (.ref Wa)] [(.int (Int32.ofNat cn)), (.int (Int32.ofNat vs.length))])) _
            refine XS.icmpNo X79.here hx rfl (hb hby d11_89) rfl (teq hc89).2 ?_
            refine XS.aloadN X79.here hx rfl (hb hby d11_92) rfl rfl ?_
            show Steps p.tables e below (T79.setTop (mkF m 93 #[.val (.ref a1), .val (.int p1), .val (.int 0), .val (.ref a1), .val (.ref P), .val (.ref Wa)] [(.ref a1)])) _
            refine st81 _ ?_
            show Steps p.tables e below (T81.setTop (mkF m 96 #[.val (.ref a1), .val (.int p1), .val (.int 0), .val (.ref a1), .val (.ref P), .val (.ref Wa)] [(.ref P)])) _
            refine XS.iconst X81.here hx rfl (hb hby d11_96) ?_
            refine XS.aloadN X81.here hx rfl (hb hby d11_97) rfl rfl ?_
            show Steps p.tables e below (T81.setTop (mkF m 98 #[.val (.ref a1), .val (.int p1), .val (.int 0), .val (.ref a1), .val (.ref P), .val (.ref Wa)] [(.ref a1), (.int 2), (.ref P)])) _
            refine st82 _ ?_
            show Steps p.tables e below (T82.setTop (mkF m 101 #[.val (.ref a1), .val (.int p1), .val (.int 0), .val (.ref a1), .val (.ref P), .val (.ref Wa)] [(.int (Int32.ofNat cn)), (.int 2), (.ref P)])) _
            refine XS.imul X82.here hx rfl (hb hby d11_101) rfl ?_
            show Steps p.tables e below (T82.setTop (mkF m 102 #[.val (.ref a1), .val (.int p1), .val (.int 0), .val (.ref a1), .val (.ref P), .val (.ref Wa)] [(.int ((2 : Int32) * (Int32.ofNat cn))), (.ref P)])) _
            refine st83 _ ?_
            show Steps p.tables e below (T83.setTop (mkF m 105 #[.val (.ref a1), .val (.int p1), .val (.int 0), .val (.ref a1), .val (.ref P), .val (.ref Wa)] [(.ref b83)])) _
            refine XS.astore X83.here hx rfl (hb hby d11_105) rfl rfl (l' := #[.val (.ref a1), .val (.int p1), .val (.int 0), .val (.ref a1), .val (.ref b83), .val (.ref Wa)]) rfl ?_
            refine XS.iconst X83.here hx rfl (hb hby d11_107) ?_
            show Steps p.tables e below (T83.setTop (mkF m 108 #[.val (.ref a1), .val (.int p1), .val (.int 0), .val (.ref a1), .val (.ref b83), .val (.ref Wa)] [(.int 1)])) _
            refine st86 _ ?_
            show Steps p.tables e below (T86.setTop (mkF m 110 #[.val (.ref a1), .val (.int p1), .val (.int 0), .val (.ref a1), .val (.ref b83), .val (.ref Wa)] [(.ref b86)])) _
            refine XS.astore X86.here hx rfl (hb hby d11_110) rfl rfl (l' := #[.val (.ref a1), .val (.int p1), .val (.int 0), .val (.ref a1), .val (.ref b83), .val (.ref b86)]) rfl ?_
            refine XS.aload X86.here hx rfl (hb hby d11_112) rfl rfl ?_
            refine XS.aloadN X86.here hx rfl (hb hby d11_114) rfl rfl ?_
            show Steps p.tables e below (T86.setTop (mkF m 115 #[.val (.ref a1), .val (.int p1), .val (.int 0), .val (.ref a1), .val (.ref b83), .val (.ref b86)] [(.ref a1), (.ref b83)])) _
            refine st89 _ ?_
            show Steps p.tables e below (T89.setTop (mkF m 118 #[.val (.ref a1), .val (.int p1), .val (.int 0), .val (.ref a1), .val (.ref b83), .val (.ref b86)] [(.int (Int32.ofNat cn)), (.ref b83)])) _
            refine XS.iloadN X89.here hx rfl (hb hby d11_118) rfl ?_
            show Steps p.tables e below (T89.setTop (mkF m 119 #[.val (.ref a1), .val (.int p1), .val (.int 0), .val (.ref a1), .val (.ref b83), .val (.ref b86)] [(.int p1), (.int (Int32.ofNat cn)), (.ref b83)])) _
            refine st91 _ ?_
            show Steps p.tables e below (T91.setTop (mkF m 120 #[.val (.ref a1), .val (.int p1), .val (.int 0), .val (.ref a1), .val (.ref b83), .val (.ref b86)] [])) _
            refine XS.aload X91.here hx rfl (hb hby d11_120) rfl rfl ?_
            refine XS.iconst X91.here hx rfl (hb hby d11_122) ?_
            refine XS.aloadN X91.here hx rfl (hb hby d11_123) rfl rfl ?_
            show Steps p.tables e below (T91.setTop (mkF m 124 #[.val (.ref a1), .val (.int p1), .val (.int 0), .val (.ref a1), .val (.ref b83), .val (.ref b86)] [(.ref a1), (.int 0), (.ref b86)])) _
            refine st94 _ ?_
            show Steps p.tables e below (T94.setTop (mkF m 127 #[.val (.ref a1), .val (.int p1), .val (.int 0), .val (.ref a1), .val (.ref b83), .val (.ref b86)] [(.int (Int32.ofNat cn)), (.int 0), (.ref b86)])) _
            refine XS.iconst X94.here hx rfl (hb hby d11_127) ?_
            refine XS.iadd X94.here hx rfl (hb hby d11_128) rfl ?_
            show Steps p.tables e below (T94.setTop (mkF m 129 #[.val (.ref a1), .val (.int p1), .val (.int 0), .val (.ref a1), .val (.ref b83), .val (.ref b86)] [(.int ((Int32.ofNat cn) + (1 : Int32))), (.int 0), (.ref b86)])) _
            refine st96 _ ?_
            show Steps p.tables e below (T96.setTop (mkF m 130 #[.val (.ref a1), .val (.int p1), .val (.int 0), .val (.ref a1), .val (.ref b83), .val (.ref b86)] [])) _
            refine st99 _ ?_
            show Steps p.tables e below (T99.setTop (mkF m 133 #[.val (.ref a1), .val (.int p1), .val (.int 0), .val (.ref a1), .val (.ref b83), .val (.ref b86)] [(.ref b99)])) _
            refine XS.dup X99.here hx rfl (hb hby d11_133) rfl rfl ?_
            refine XS.aloadN X99.here hx rfl (hb hby d11_134) rfl rfl ?_
            show Steps p.tables e below (T99.setTop (mkF m 135 #[.val (.ref a1), .val (.int p1), .val (.int 0), .val (.ref a1), .val (.ref b83), .val (.ref b86)] [(.ref a1), (.ref b99), (.ref b99)])) _
            refine st102 _ ?_
            show Steps p.tables e below (T102.setTop (mkF m 138 #[.val (.ref a1), .val (.int p1), .val (.int 0), .val (.ref a1), .val (.ref b83), .val (.ref b86)] [(.ref r), (.ref b99), (.ref b99)])) _
            refine XS.aload X102.here hx rfl (hb hby d11_138) rfl rfl ?_
            refine XS.aloadN X102.here hx rfl (hb hby d11_140) rfl rfl ?_
            show Steps p.tables e below (T102.setTop (mkF m 141 #[.val (.ref a1), .val (.int p1), .val (.int 0), .val (.ref a1), .val (.ref b83), .val (.ref b86)] [(.ref a1), (.ref b83), (.ref r), (.ref b99), (.ref b99)])) _
            refine st103 _ ?_
            show Steps p.tables e below (T103.setTop (mkF m 144 #[.val (.ref a1), .val (.int p1), .val (.int 0), .val (.ref a1), .val (.ref b83), .val (.ref b86)] [(.int (Int32.ofNat cn)), (.ref b83), (.ref r), (.ref b99), (.ref b99)])) _
            refine XS.iconst X103.here hx rfl (hb hby d11_144) ?_
            refine XS.iadd X103.here hx rfl (hb hby d11_145) rfl ?_
            refine XS.iloadN X103.here hx rfl (hb hby d11_146) rfl ?_
            exact k
          obtain ⟨T105, X105, e105, st105⟩ := getF X103 hx hZ hown (host := "") (Or.inl (hw _ (List.mem_of_getElem? (i := 58) rfl))) Via.refl e103 (((((F_o.keep K83 nin0).ext E86).other W91 (Or.inl (Nat.ne_of_lt lt_a1_b83))).other W96 (Or.inl (Nat.ne_of_lt lt_a1_b86))).ext E99) (g := (mkF m 160 #[.val (.ref a1), .val (.int p1), .val (.int 0), .val (.ref a1), .val (.ref b83), .val (.ref b86)] [(.ref a1), (.int ((Int32.ofNat cn) + (1 : Int32))), (.ref b83), (.ref r), (.ref b99), (.ref b99)])) rfl rfl (hb hby d11_160)
          obtain ⟨_, _, ⟨T106, L106, k106, n106⟩, -, X106, ⟨Lc106, hQ106, l106, y106, z106⟩, st106⟩ := X105.specialBack hx (y := (⟨"com/example/rivet_context/rivetcontext/factory/TypeListing", "<init>", "([Ljava/lang/String;[III[I)V"⟩ : MethodName)) rfl hown (mvT hZ (hw _ (List.mem_of_getElem? (i := 35) rfl))) (mvT hZ (hw _ (List.mem_of_getElem? (i := 36) rfl))) (mvT hZ (hw _ (List.mem_of_getElem? (i := 37) rfl))) (by decide) (backOf (W := 1) (rmi5 l Z a0 hw [] b99 r b83 ((Int32.ofNat cn) + (1 : Int32)) (Int32.ofNat on) b86 h99 n0 O100 ⟨A99, F_registered_b99, F_places_b99, F_count_b99, F_ordered_b99, F_written_b99, F_inPlace_b99⟩ F_modCount_b99 g_b99) hZ (hw _ (List.mem_of_getElem? (i := 37) rfl)) (hw _ (List.mem_of_getElem? (i := 30) rfl)) (by decide) (by decide)) (g := (mkF m 165 #[.val (.ref a1), .val (.int p1), .val (.int 0), .val (.ref a1), .val (.ref b83), .val (.ref b86)] [(.ref b86), (.int (Int32.ofNat on)), (.int ((Int32.ofNat cn) + (1 : Int32))), (.ref b83), (.ref r), (.ref b99), (.ref b99)])) rfl (by rw [hml]; rfl) (Steps.refl _) (a := b99) (argsL := [(.ref r), (.ref b83), (.int ((Int32.ofNat cn) + (1 : Int32))), (.int (Int32.ofNat on)), (.ref b86)]) (rest := [(.ref b99)]) (lenOf pd4 rfl) rfl (by show 2 * 0 + _ ≤ _; exact Nat.le_of_eq rfl) (hb hby d11_165) (fun _ _ => ⟨rfl, e105, (by decide : 3 + 0 ≤ _), (by decide : 16 + 0 ≤ _)⟩)
          dsimp only [Pt.U, Pt.locs, Pt.cells, Pt.slots] at X106 l106 y106 z106 st106 hQ106
          subst l106 y106 z106
          obtain ⟨h106, e106⟩ : ∃ z, T106.heap = z := ⟨_, rfl⟩
          rw [e106] at hQ106
          obtain ⟨rfl, Nq106, K106, HT106⟩ := hQ106
          have N106 := Fr.app N96 Nq106
          have O107 := O100.keep K106 (allS g_b99 all0)
          have kp108 : Keep h0 h106 [P, Wa] := kp101.trans K106 (allS (Or.inr sz_b99) all0)
          have hext : extF vs cn on p1 = ((growF vs cn).set cn p1, cn + 1, on) := (if_neg (fun q => hc23 q.2)).trans (if_pos hc52)
          have LP : Lst Z h106 n0 b99 r ((growF vs cn).set cn p1) (cn + 1) on := by
            refine ⟨g_b99, b83, kb83, b86, k86, ?_, ?_, ?_, g_b83, g_b86, (Nat.ne_of_lt lt_b83_b86), lt_r_b83, lt_r_b86⟩
            · rw [← own_add1]; exact HT106
            · have q := (((Vb91.other W96 (Nat.ne_of_lt lt_b83_b86)).ext E99).keep K106 (ninS (Nat.ne_of_lt lt_b83_b99) nin0))
              rw [hgr, List.length_set, List.length_append, List.length_replicate]; exact q
            · rw [← own_add1]; exact ((Vb96.ext E99).keep K106 (ninS (Nat.ne_of_lt lt_b86_b99) nin0))
          obtain ⟨fs, hr, hrun, hended, hW, hsame⟩ := X106.leave (v := some (.ref b99)) (fun h => by rw [Bd.returns] at h; cases h)
          refine ⟨_, _, pre0 _ ?_, hrun, hended, _, _, rfl, ?_, ⟨_, rfl⟩, hW, hsame.mono (by decide) (by decide)⟩
          · refine pf6 _ ?_
            refine pf66 _ ?_
            refine pf70 _ ?_
            refine pf76 _ ?_
            refine pf80 _ ?_
            refine pf104 _ ?_
            show Steps p.tables e below (T103.setTop (mkF m 147 #[.val (.ref a1), .val (.int p1), .val (.int 0), .val (.ref a1), .val (.ref b83), .val (.ref b86)] [(.int 0), (.int ((Int32.ofNat cn) + (1 : Int32))), (.ref b83), (.ref r), (.ref b99), (.ref b99)])) _
            refine XS.ifYes X103.here hx rfl (pc0 := 147) (pc' := 159) rfl (hb hby d11_147) rfl ((if0 _ _).trans (teq (by decide)).1) (by decide) (by decide) ?_
            refine XS.aloadN X103.here hx rfl (hb hby d11_159) rfl rfl ?_
            show Steps p.tables e below (T103.setTop (mkF m 160 #[.val (.ref a1), .val (.int p1), .val (.int 0), .val (.ref a1), .val (.ref b83), .val (.ref b86)] [(.ref a1), (.int ((Int32.ofNat cn) + (1 : Int32))), (.ref b83), (.ref r), (.ref b99), (.ref b99)])) _
            refine st105 _ ?_
            show Steps p.tables e below (T105.setTop (mkF m 163 #[.val (.ref a1), .val (.int p1), .val (.int 0), .val (.ref a1), .val (.ref b83), .val (.ref b86)] [(.int (Int32.ofNat on)), (.int ((Int32.ofNat cn) + (1 : Int32))), (.ref b83), (.ref r), (.ref b99), (.ref b99)])) _
            refine XS.aload X105.here hx rfl (hb hby d11_163) rfl rfl ?_
            show Steps p.tables e below (T105.setTop (mkF m 165 #[.val (.ref a1), .val (.int p1), .val (.int 0), .val (.ref a1), .val (.ref b83), .val (.ref b86)] [(.ref b86), (.int (Int32.ofNat on)), (.int ((Int32.ofNat cn) + (1 : Int32))), (.ref b83), (.ref r), (.ref b99), (.ref b99)])) _
            refine st106.trans ?_
            show Steps p.tables e below (T106.setTop (mkF m 168 #[.val (.ref a1), .val (.int p1), .val (.int 0), .val (.ref a1), .val (.ref b83), .val (.ref b86)] [(.ref b99)])) _
            refine XS.astoreN X106.here hx rfl (hb hby d11_168) rfl rfl (l' := #[.val (.ref a1), .val (.int p1), .val (.int 0), .val (.ref b99), .val (.ref b83), .val (.ref b86)]) rfl ?_
            refine XS.aloadN X106.here hx rfl (hb hby d11_169) rfl rfl ?_
            show Steps p.tables e below (T106.setTop (mkF m 170 #[.val (.ref a1), .val (.int p1), .val (.int 0), .val (.ref b99), .val (.ref b83), .val (.ref b86)] [(.ref b99)])) _
            exact retOut X106 hx Bd.returns rfl (Or.inr (Or.inr (Or.inr (Or.inr ⟨rfl, rfl, rfl⟩)))) (hb hby d11_170) hr
          · show Qext Z r kr ss (extF vs cn on p1) n0 _ T106.heap _
            rw [e106]
            exact ⟨b99, rfl, N106, O107, ((((((VR.keep K83 nin0).ext E86).other W91 (Nat.ne_of_lt lt_r_b83)).other W96 (Nat.ne_of_lt lt_r_b86)).ext E99).keep K106 (ninS (Nat.ne_of_lt lt_r_b99) nin0)), by rw [hext]; exact LP⟩
        · have hne : ¬ vs.length = cn := fun q => hc89 (by rw [q])
          have hlt : cn < vs.length := by omega
          have hgr : growF vs cn = vs := if_neg hne
          obtain ⟨T109, X109, e109, st109⟩ := getF X79 hx hZ hown (host := "") (Or.inl (hw _ (List.mem_of_getElem? (i := 56) rfl))) Via.refl e79 F_c (g := (mkF m 115 #[.val (.ref a1), .val (.int p1), .val (.int 0), .val (.ref a1), .val (.ref P), .val (.ref Wa)] [(.ref a1), (.ref P)])) rfl rfl (hb hby d11_115)
          obtain ⟨cl110, Ar110, q110, Sz110, Nn110, Ha110, Gf110⟩ := id VP
          have hin110 : ¬ ((Int32.ofNat cn) < 0 ∨ cl110.slots.size ≤ ((Int32.ofNat cn)).toNatClampNeg) := own_inb (i := cn) Sz110 hNP (own_nn (by omega)) (own_n (by omega)) hlt
          obtain ⟨T111, h111, X111, e111, W111, st111⟩ := stI X109 hx hZ e109 Ar110 (j := (Int32.ofNat cn)) hin110 (g := (mkF m 119 #[.val (.ref a1), .val (.int p1), .val (.int 0), .val (.ref a1), .val (.ref P), .val (.ref Wa)] [(.int p1), (.int (Int32.ofNat cn)), (.ref P)])) rfl rfl (hb hby d11_119)
          have Va111 := Arv.set Ar110 q110 Sz110 Nn110 Ha110 Gf110 rfl W111 cn (own_n (by omega)) (by rw [List.length_map]; exact hlt)
          have Vb111 : Arv Z h111 P kP .int (Int32.ofNat vs.length) ((vs.set cn p1).map Value.int) (.int 0) := by rw [List.map_set]; exact Va111
          have hN111 : ((Int32.ofNat vs.length)).toNatClampNeg = (vs.set cn p1).length := by rw [List.length_set]; exact hNP
          have O112 := O0.wr W111 g_P
          have kp113 : Keep h0 h111 [P, Wa] := (Keep.refl h0 [P, Wa]).wr W111 (Or.inl (List.mem_of_getElem? (i := 0) rfl))
          have N111 := Fr.snoc X111 N69 g_P
          obtain ⟨T114, X114, e114, st114⟩ := getF X111 hx hZ hown (host := "") (Or.inl (hw _ (List.mem_of_getElem? (i := 56) rfl))) Via.refl e111 (F_c.other W111 (Or.inl n_a1_P)) (g := (mkF m 124 #[.val (.ref a1), .val (.int p1), .val (.int 0), .val (.ref a1), .val (.ref P), .val (.ref Wa)] [(.ref a1), (.int 0), (.ref Wa)])) rfl rfl (hb hby d11_124)
          obtain ⟨cl115, Ar115, q115, Sz115, Nn115, Ha115, Gf115⟩ := id (VW.other W111 (Ne.symm nPW))
          have hin115 : ¬ ((0 : Int32) < 0 ∨ cl115.slots.size ≤ ((0 : Int32)).toNatClampNeg) := own_inb (i := 0) Sz115 hNW (by decide) (by decide) (by rw [List.length_singleton]; decide)
          obtain ⟨T116, h116, X116, e116, W116, st116⟩ := stI X114 hx hZ e114 Ar115 (j := (0 : Int32)) hin115 (g := (mkF m 129 #[.val (.ref a1), .val (.int p1), .val (.int 0), .val (.ref a1), .val (.ref P), .val (.ref Wa)] [(.int ((Int32.ofNat cn) + (1 : Int32))), (.int 0), (.ref Wa)])) rfl rfl (hb hby d11_129)
          have Va116 := Arv.set Ar115 q115 Sz115 Nn115 Ha115 Gf115 rfl W116 0 (by decide) (by rw [List.length_map]; exact (by rw [List.length_singleton]; decide))
          have Vb116 : Arv Z h116 Wa kW .int (1 : Int32) (([Int32.ofNat cn].set 0 ((Int32.ofNat cn) + (1 : Int32))).map Value.int) (.int 0) := by rw [List.map_set]; exact Va116
          have hN116 : ((1 : Int32)).toNatClampNeg = ([Int32.ofNat cn].set 0 ((Int32.ofNat cn) + (1 : Int32))).length := by rw [List.length_set]; exact hNW
          have O117 := O112.wr W116 g_Wa
          have kp118 : Keep h0 h116 [P, Wa] := kp113.wr W116 (Or.inl (List.mem_of_getElem? (i := 1) rfl))
          have N116 := Fr.snoc X116 N111 g_Wa
          obtain ⟨T119, h119, X119, e119, E119, A119, D119, U119, st119⟩ := newO X116 hx hZ hown (hw _ (List.mem_of_getElem? (i := 94) rfl)) (hw _ (List.mem_of_getElem? (i := 29) rfl)) (hw _ (List.mem_of_getElem? (i := 30) rfl)) e116 (g := (mkF m 130 #[.val (.ref a1), .val (.int p1), .val (.int 0), .val (.ref a1), .val (.ref P), .val (.ref Wa)] [])) rfl (hb hby d11_130) (by decide) (by decide)
          obtain ⟨b119, g119⟩ : ∃ z, z = h116.size := ⟨_, rfl⟩
          rw [← g119] at A119 D119 U119 st119
          have g_b119 : n0 ≤ b119 := by rw [g119]; exact Nat.le_trans (Nat.le_of_eq O117.1.symm) O117.2.1
          have sz_b119 : h0.size ≤ b119 := by rw [g119]; exact kp118.1
          have lt_P_b119 : P < b119 := Nat.lt_of_lt_of_le lt_P sz_b119
          have lt_Wa_b119 : Wa < b119 := Nat.lt_of_lt_of_le lt_Wa sz_b119
          have lt_r_b119 : r < b119 := Nat.lt_of_lt_of_le lt_r sz_b119
          have lt_a1_b119 : a1 < b119 := Nat.lt_of_lt_of_le lt_a1 sz_b119
          have O120 := O117.ext E119
          have kp121 : Keep h0 h119 [P, Wa] := kp118.ext E119
          have F_modCount_b119 : Fld Z h119 b119 "java/util/AbstractList" "modCount" "I" (.int 0) := D119 (Or.inl (hw _ (List.mem_of_getElem? (i := 51) rfl))) (ty := .int) (by decide)
          have F_registered_b119 : Fld Z h119 b119 "com/example/rivet_context/rivetcontext/factory/TypeListing" "registered" "[Ljava/lang/String;" .null := D119 (Or.inr (hw _ (List.mem_of_getElem? (i := 53) rfl))) (ty := (.array (.object "java/lang/String"))) (by decide)
          have F_places_b119 : Fld Z h119 b119 "com/example/rivet_context/rivetcontext/factory/TypeListing" "places" "[I" .null := D119 (Or.inr (hw _ (List.mem_of_getElem? (i := 55) rfl))) (ty := (.array .int)) (by decide)
          have F_count_b119 : Fld Z h119 b119 "com/example/rivet_context/rivetcontext/factory/TypeListing" "count" "I" (.int 0) := D119 (Or.inr (hw _ (List.mem_of_getElem? (i := 57) rfl))) (ty := .int) (by decide)
          have F_ordered_b119 : Fld Z h119 b119 "com/example/rivet_context/rivetcontext/factory/TypeListing" "ordered" "I" (.int 0) := D119 (Or.inr (hw _ (List.mem_of_getElem? (i := 59) rfl))) (ty := .int) (by decide)
          have F_written_b119 : Fld Z h119 b119 "com/example/rivet_context/rivetcontext/factory/TypeListing" "written" "[I" .null := D119 (Or.inr (hw _ (List.mem_of_getElem? (i := 61) rfl))) (ty := (.array .int)) (by decide)
          have F_inPlace_b119 : Fld Z h119 b119 "com/example/rivet_context/rivetcontext/factory/TypeListing" "inPlace" "Lcom/example/rivet_context/rivetcontext/factory/TypeListing;" .null := D119 (Or.inl (hw _ (List.mem_of_getElem? (i := 68) rfl))) (ty := (.object "com/example/rivet_context/rivetcontext/factory/TypeListing")) (by decide)
          obtain ⟨T122, X122, e122, st122⟩ := getF X119 hx hZ hown (host := "") (Or.inl (hw _ (List.mem_of_getElem? (i := 52) rfl))) Via.refl e119 (((F_r.other W111 (Or.inl n_a1_P)).other W116 (Or.inl n_a1_Wa)).ext E119) (g := (mkF m 135 #[.val (.ref a1), .val (.int p1), .val (.int 0), .val (.ref a1), .val (.ref P), .val (.ref Wa)] [(.ref a1), (.ref b119), (.ref b119)])) rfl rfl (hb hby d11_135)
          obtain ⟨T123, X123, e123, st123⟩ := getF X122 hx hZ hown (host := "") (Or.inl (hw _ (List.mem_of_getElem? (i := 56) rfl))) Via.refl e122 (((F_c.other W111 (Or.inl n_a1_P)).other W116 (Or.inl n_a1_Wa)).ext E119) (g := (mkF m 141 #[.val (.ref a1), .val (.int p1), .val (.int 0), .val (.ref a1), .val (.ref P), .val (.ref Wa)] [(.ref a1), (.ref P), (.ref r), (.ref b119), (.ref b119)])) rfl rfl (hb hby d11_141)
          have pf124 : ∀ target, Steps p.tables e below (T123.setTop (mkF m 147 #[.val (.ref a1), .val (.int p1), .val (.int 0), .val (.ref a1), .val (.ref P), .val (.ref Wa)] [(.int 0), (.int ((Int32.ofNat cn) + (1 : Int32))), (.ref P), (.ref r), (.ref b119), (.ref b119)])) target → Steps p.tables e below (T79.setTop (mkF m 89 #[.val (.ref a1), .val (.int p1), .val (.int 0), .val (.ref a1), .val (.ref P), .val (.ref Wa)] [(.int (Int32.ofNat cn)), (.int (Int32.ofNat vs.length))])) target := by
            intro target k
            show Steps p.tables e below (T79.setTop (mkF m 89 #[.val (.ref a1), .val (.int p1), .val (.int 0), .val (.ref a1), .val (.ref P), .val (.ref Wa)] [(.int (Int32.ofNat cn)), (.int (Int32.ofNat vs.length))])) _
            refine XS.icmpYes X79.here hx rfl (pc0 := 89) (pc' := 112) rfl (hb hby d11_89) rfl (feq hc89).2 (by decide) (by decide) ?_
            refine XS.aload X79.here hx rfl (hb hby d11_112) rfl rfl ?_
            refine XS.aloadN X79.here hx rfl (hb hby d11_114) rfl rfl ?_
            show Steps p.tables e below (T79.setTop (mkF m 115 #[.val (.ref a1), .val (.int p1), .val (.int 0), .val (.ref a1), .val (.ref P), .val (.ref Wa)] [(.ref a1), (.ref P)])) _
            refine st109 _ ?_
            show Steps p.tables e below (T109.setTop (mkF m 118 #[.val (.ref a1), .val (.int p1), .val (.int 0), .val (.ref a1), .val (.ref P), .val (.ref Wa)] [(.int (Int32.ofNat cn)), (.ref P)])) _
            refine XS.iloadN X109.here hx rfl (hb hby d11_118) rfl ?_
            show Steps p.tables e below (T109.setTop (mkF m 119 #[.val (.ref a1), .val (.int p1), .val (.int 0), .val (.ref a1), .val (.ref P), .val (.ref Wa)] [(.int p1), (.int (Int32.ofNat cn)), (.ref P)])) _
            refine st111 _ ?_
            show Steps p.tables e below (T111.setTop (mkF m 120 #[.val (.ref a1), .val (.int p1), .val (.int 0), .val (.ref a1), .val (.ref P), .val (.ref Wa)] [])) _
            refine XS.aload X111.here hx rfl (hb hby d11_120) rfl rfl ?_
            refine XS.iconst X111.here hx rfl (hb hby d11_122) ?_
            refine XS.aloadN X111.here hx rfl (hb hby d11_123) rfl rfl ?_
            show Steps p.tables e below (T111.setTop (mkF m 124 #[.val (.ref a1), .val (.int p1), .val (.int 0), .val (.ref a1), .val (.ref P), .val (.ref Wa)] [(.ref a1), (.int 0), (.ref Wa)])) _
            refine st114 _ ?_
            show Steps p.tables e below (T114.setTop (mkF m 127 #[.val (.ref a1), .val (.int p1), .val (.int 0), .val (.ref a1), .val (.ref P), .val (.ref Wa)] [(.int (Int32.ofNat cn)), (.int 0), (.ref Wa)])) _
            refine XS.iconst X114.here hx rfl (hb hby d11_127) ?_
            refine XS.iadd X114.here hx rfl (hb hby d11_128) rfl ?_
            show Steps p.tables e below (T114.setTop (mkF m 129 #[.val (.ref a1), .val (.int p1), .val (.int 0), .val (.ref a1), .val (.ref P), .val (.ref Wa)] [(.int ((Int32.ofNat cn) + (1 : Int32))), (.int 0), (.ref Wa)])) _
            refine st116 _ ?_
            show Steps p.tables e below (T116.setTop (mkF m 130 #[.val (.ref a1), .val (.int p1), .val (.int 0), .val (.ref a1), .val (.ref P), .val (.ref Wa)] [])) _
            refine st119 _ ?_
            show Steps p.tables e below (T119.setTop (mkF m 133 #[.val (.ref a1), .val (.int p1), .val (.int 0), .val (.ref a1), .val (.ref P), .val (.ref Wa)] [(.ref b119)])) _
            refine XS.dup X119.here hx rfl (hb hby d11_133) rfl rfl ?_
            refine XS.aloadN X119.here hx rfl (hb hby d11_134) rfl rfl ?_
            show Steps p.tables e below (T119.setTop (mkF m 135 #[.val (.ref a1), .val (.int p1), .val (.int 0), .val (.ref a1), .val (.ref P), .val (.ref Wa)] [(.ref a1), (.ref b119), (.ref b119)])) _
            refine st122 _ ?_
            show Steps p.tables e below (T122.setTop (mkF m 138 #[.val (.ref a1), .val (.int p1), .val (.int 0), .val (.ref a1), .val (.ref P), .val (.ref Wa)] [(.ref r), (.ref b119), (.ref b119)])) _
            refine XS.aload X122.here hx rfl (hb hby d11_138) rfl rfl ?_
            refine XS.aloadN X122.here hx rfl (hb hby d11_140) rfl rfl ?_
            show Steps p.tables e below (T122.setTop (mkF m 141 #[.val (.ref a1), .val (.int p1), .val (.int 0), .val (.ref a1), .val (.ref P), .val (.ref Wa)] [(.ref a1), (.ref P), (.ref r), (.ref b119), (.ref b119)])) _
            refine st123 _ ?_
            show Steps p.tables e below (T123.setTop (mkF m 144 #[.val (.ref a1), .val (.int p1), .val (.int 0), .val (.ref a1), .val (.ref P), .val (.ref Wa)] [(.int (Int32.ofNat cn)), (.ref P), (.ref r), (.ref b119), (.ref b119)])) _
            refine XS.iconst X123.here hx rfl (hb hby d11_144) ?_
            refine XS.iadd X123.here hx rfl (hb hby d11_145) rfl ?_
            refine XS.iloadN X123.here hx rfl (hb hby d11_146) rfl ?_
            exact k
          obtain ⟨T125, X125, e125, st125⟩ := getF X123 hx hZ hown (host := "") (Or.inl (hw _ (List.mem_of_getElem? (i := 58) rfl))) Via.refl e123 (((F_o.other W111 (Or.inl n_a1_P)).other W116 (Or.inl n_a1_Wa)).ext E119) (g := (mkF m 160 #[.val (.ref a1), .val (.int p1), .val (.int 0), .val (.ref a1), .val (.ref P), .val (.ref Wa)] [(.ref a1), (.int ((Int32.ofNat cn) + (1 : Int32))), (.ref P), (.ref r), (.ref b119), (.ref b119)])) rfl rfl (hb hby d11_160)
          obtain ⟨_, _, ⟨T126, L126, k126, n126⟩, -, X126, ⟨Lc126, hQ126, l126, y126, z126⟩, st126⟩ := X125.specialBack hx (y := (⟨"com/example/rivet_context/rivetcontext/factory/TypeListing", "<init>", "([Ljava/lang/String;[III[I)V"⟩ : MethodName)) rfl hown (mvT hZ (hw _ (List.mem_of_getElem? (i := 35) rfl))) (mvT hZ (hw _ (List.mem_of_getElem? (i := 36) rfl))) (mvT hZ (hw _ (List.mem_of_getElem? (i := 37) rfl))) (by decide) (backOf (W := 1) (rmi5 l Z a0 hw [] b119 r P ((Int32.ofNat cn) + (1 : Int32)) (Int32.ofNat on) Wa h119 n0 O120 ⟨A119, F_registered_b119, F_places_b119, F_count_b119, F_ordered_b119, F_written_b119, F_inPlace_b119⟩ F_modCount_b119 g_b119) hZ (hw _ (List.mem_of_getElem? (i := 37) rfl)) (hw _ (List.mem_of_getElem? (i := 30) rfl)) (by decide) (by decide)) (g := (mkF m 165 #[.val (.ref a1), .val (.int p1), .val (.int 0), .val (.ref a1), .val (.ref P), .val (.ref Wa)] [(.ref Wa), (.int (Int32.ofNat on)), (.int ((Int32.ofNat cn) + (1 : Int32))), (.ref P), (.ref r), (.ref b119), (.ref b119)])) rfl (by rw [hml]; rfl) (Steps.refl _) (a := b119) (argsL := [(.ref r), (.ref P), (.int ((Int32.ofNat cn) + (1 : Int32))), (.int (Int32.ofNat on)), (.ref Wa)]) (rest := [(.ref b119)]) (lenOf pd4 rfl) rfl (by show 2 * 0 + _ ≤ _; exact Nat.le_of_eq rfl) (hb hby d11_165) (fun _ _ => ⟨rfl, e125, (by decide : 1 + 0 ≤ _), (by decide : 7 + 0 ≤ _)⟩)
          dsimp only [Pt.U, Pt.locs, Pt.cells, Pt.slots] at X126 l126 y126 z126 st126 hQ126
          subst l126 y126 z126
          obtain ⟨h126, e126⟩ : ∃ z, T126.heap = z := ⟨_, rfl⟩
          rw [e126] at hQ126
          obtain ⟨rfl, Nq126, K126, HT126⟩ := hQ126
          have N126 := Fr.app N116 Nq126
          have O127 := O120.keep K126 (allS g_b119 all0)
          have kp128 : Keep h0 h126 [P, Wa] := kp121.trans K126 (allS (Or.inr sz_b119) all0)
          have hext : extF vs cn on p1 = ((growF vs cn).set cn p1, cn + 1, on) := (if_neg (fun q => hc23 q.2)).trans (if_pos hc52)
          have LP : Lst Z h126 n0 b119 r ((growF vs cn).set cn p1) (cn + 1) on := by
            refine ⟨g_b119, P, kP, Wa, kW, ?_, ?_, ?_, g_P, g_Wa, nPW, rP, rW⟩
            · rw [← own_add1]; exact HT126
            · have q := (((Vb111.other W116 nPW).ext E119).keep K126 (ninS (Nat.ne_of_lt lt_P_b119) nin0))
              rw [hgr, List.length_set]; exact q
            · rw [← own_add1]; exact ((Vb116.ext E119).keep K126 (ninS (Nat.ne_of_lt lt_Wa_b119) nin0))
          obtain ⟨fs, hr, hrun, hended, hW, hsame⟩ := X126.leave (v := some (.ref b119)) (fun h => by rw [Bd.returns] at h; cases h)
          refine ⟨_, _, pre0 _ ?_, hrun, hended, _, _, rfl, ?_, ⟨_, rfl⟩, hW, hsame.mono (by decide) (by decide)⟩
          · refine pf6 _ ?_
            refine pf66 _ ?_
            refine pf70 _ ?_
            refine pf76 _ ?_
            refine pf80 _ ?_
            refine pf124 _ ?_
            show Steps p.tables e below (T123.setTop (mkF m 147 #[.val (.ref a1), .val (.int p1), .val (.int 0), .val (.ref a1), .val (.ref P), .val (.ref Wa)] [(.int 0), (.int ((Int32.ofNat cn) + (1 : Int32))), (.ref P), (.ref r), (.ref b119), (.ref b119)])) _
            refine XS.ifYes X123.here hx rfl (pc0 := 147) (pc' := 159) rfl (hb hby d11_147) rfl ((if0 _ _).trans (teq (by decide)).1) (by decide) (by decide) ?_
            refine XS.aloadN X123.here hx rfl (hb hby d11_159) rfl rfl ?_
            show Steps p.tables e below (T123.setTop (mkF m 160 #[.val (.ref a1), .val (.int p1), .val (.int 0), .val (.ref a1), .val (.ref P), .val (.ref Wa)] [(.ref a1), (.int ((Int32.ofNat cn) + (1 : Int32))), (.ref P), (.ref r), (.ref b119), (.ref b119)])) _
            refine st125 _ ?_
            show Steps p.tables e below (T125.setTop (mkF m 163 #[.val (.ref a1), .val (.int p1), .val (.int 0), .val (.ref a1), .val (.ref P), .val (.ref Wa)] [(.int (Int32.ofNat on)), (.int ((Int32.ofNat cn) + (1 : Int32))), (.ref P), (.ref r), (.ref b119), (.ref b119)])) _
            refine XS.aload X125.here hx rfl (hb hby d11_163) rfl rfl ?_
            show Steps p.tables e below (T125.setTop (mkF m 165 #[.val (.ref a1), .val (.int p1), .val (.int 0), .val (.ref a1), .val (.ref P), .val (.ref Wa)] [(.ref Wa), (.int (Int32.ofNat on)), (.int ((Int32.ofNat cn) + (1 : Int32))), (.ref P), (.ref r), (.ref b119), (.ref b119)])) _
            refine st126.trans ?_
            show Steps p.tables e below (T126.setTop (mkF m 168 #[.val (.ref a1), .val (.int p1), .val (.int 0), .val (.ref a1), .val (.ref P), .val (.ref Wa)] [(.ref b119)])) _
            refine XS.astoreN X126.here hx rfl (hb hby d11_168) rfl rfl (l' := #[.val (.ref a1), .val (.int p1), .val (.int 0), .val (.ref b119), .val (.ref P), .val (.ref Wa)]) rfl ?_
            refine XS.aloadN X126.here hx rfl (hb hby d11_169) rfl rfl ?_
            show Steps p.tables e below (T126.setTop (mkF m 170 #[.val (.ref a1), .val (.int p1), .val (.int 0), .val (.ref b119), .val (.ref P), .val (.ref Wa)] [(.ref b119)])) _
            exact retOut X126 hx Bd.returns rfl (Or.inr (Or.inr (Or.inr (Or.inr ⟨rfl, rfl, rfl⟩)))) (hb hby d11_170) hr
          · show Qext Z r kr ss (extF vs cn on p1) n0 _ T126.heap _
            rw [e126]
            exact ⟨b119, rfl, N126, O127, ((((VR.other W111 (Nat.ne_of_lt rP)).other W116 (Nat.ne_of_lt rW)).ext E119).keep K126 (ninS (Nat.ne_of_lt lt_r_b119) nin0)), by rw [hext]; exact LP⟩
      · have hext : extF vs cn on p1 = (vs, cn, on) := (if_neg (fun q => hc23 q.2)).trans (if_neg hc52)
        obtain ⟨fs, hr, hrun, hended, hW, hsame⟩ := X69.leave (v := some (.ref a1)) (fun h => by rw [Bd.returns] at h; cases h)
        refine ⟨_, _, pre0 _ ?_, hrun, hended, _, _, rfl, ?_, ⟨_, rfl⟩, hW, hsame.mono (by decide) (by decide)⟩
        · refine pf6 _ ?_
          refine pf66 _ ?_
          refine pf70 _ ?_
          show Steps p.tables e below (T69.setTop (mkF m 52 #[.val (.ref a1), .val (.int p1), .val (.int 0), .val (.ref a1), .unset, .unset] [(.int (bsF on vs p1)), (.int 0)])) _
          refine XS.icmpYes X69.here hx rfl (pc0 := 52) (pc' := 169) rfl (hb hby d11_52) rfl (flt hc52).2.2.2 (by decide) (by decide) ?_
          refine XS.aloadN X69.here hx rfl (hb hby d11_169) rfl rfl ?_
          show Steps p.tables e below (T69.setTop (mkF m 170 #[.val (.ref a1), .val (.int p1), .val (.int 0), .val (.ref a1), .unset, .unset] [(.ref a1)])) _
          exact retOut X69 hx Bd.returns rfl (Or.inr (Or.inr (Or.inr (Or.inr ⟨rfl, rfl, rfl⟩)))) (hb hby d11_170) hr
        · show Qext Z r kr ss (extF vs cn on p1) n0 _ T69.heap _
          rw [e69]
          exact ⟨a1, rfl, N69, O0, VR, by rw [hext]; exact HL⟩
  · have pf129 : ∀ target, Steps p.tables e below (T2.setTop (mkF m 35 #[.val (.ref a1), .val (.int p1), .val (.int 0), .val (.ref a1), .unset, .unset] [(.int 0)])) target → Steps p.tables e below (s₁.setTop (mkF m 0 #[.val (.ref a1), .val (.int p1), .unset, .unset, .unset, .unset] [])) target := by
      intro target k
      show Steps p.tables e below (s₁.setTop (mkF m 0 #[.val (.ref a1), .val (.int p1), .unset, .unset, .unset, .unset] [])) _
      refine XS.aloadN X0.here hx rfl (hb hby d11_0) rfl rfl ?_
      show Steps p.tables e below (s₁.setTop (mkF m 1 #[.val (.ref a1), .val (.int p1), .unset, .unset, .unset, .unset] [(.ref a1)])) _
      refine st1 _ ?_
      show Steps p.tables e below (T1.setTop (mkF m 4 #[.val (.ref a1), .val (.int p1), .unset, .unset, .unset, .unset] [(.int (Int32.ofNat on))])) _
      refine XS.aloadN X1.here hx rfl (hb hby d11_4) rfl rfl ?_
      show Steps p.tables e below (T1.setTop (mkF m 5 #[.val (.ref a1), .val (.int p1), .unset, .unset, .unset, .unset] [(.ref a1), (.int (Int32.ofNat on))])) _
      refine st2 _ ?_
      show Steps p.tables e below (T2.setTop (mkF m 8 #[.val (.ref a1), .val (.int p1), .unset, .unset, .unset, .unset] [(.int (Int32.ofNat cn)), (.int (Int32.ofNat on))])) _
      refine XS.icmpYes X2.here hx rfl (pc0 := 8) (pc' := 30) rfl (hb hby d11_8) rfl (feq hc8).2 (by decide) (by decide) ?_
      refine XS.iconst X2.here hx rfl (hb hby d11_30) ?_
      refine XS.istoreN X2.here hx rfl (hb hby d11_31) rfl (l' := #[.val (.ref a1), .val (.int p1), .val (.int 0), .unset, .unset, .unset]) rfl ?_
      refine XS.aloadN X2.here hx rfl (hb hby d11_32) rfl rfl ?_
      refine XS.astoreN X2.here hx rfl (hb hby d11_33) rfl rfl (l' := #[.val (.ref a1), .val (.int p1), .val (.int 0), .val (.ref a1), .unset, .unset]) rfl ?_
      refine XS.iloadN X2.here hx rfl (hb hby d11_34) rfl ?_
      exact k
    obtain ⟨T130, X130, e130, st130⟩ := getF X2 hx hZ hown (host := "") (Or.inl (hw _ (List.mem_of_getElem? (i := 54) rfl))) Via.refl e2 F_p (g := (mkF m 40 #[.val (.ref a1), .val (.int p1), .val (.int 0), .val (.ref a1), .unset, .unset] [(.ref a1), (.int 0)])) rfl rfl (hb hby d11_40)
    obtain ⟨T131, X131, e131, st131⟩ := getF X130 hx hZ hown (host := "") (Or.inl (hw _ (List.mem_of_getElem? (i := 58) rfl))) Via.refl e130 F_o (g := (mkF m 45 #[.val (.ref a1), .val (.int p1), .val (.int 0), .val (.ref a1), .unset, .unset] [(.ref a1), (.int 0), (.ref P), (.int 0)])) rfl rfl (hb hby d11_45)
    obtain ⟨_, _, ⟨T132, L132, k132, n132⟩, -, X132, ⟨Lc132, hQ132, l132, y132, z132⟩, st132⟩ := Jvm.LawKit.callS X131 hx (y := (⟨"java/util/Arrays", "binarySearch", "([IIII)I"⟩ : MethodName)) hown (mvT hZ (hw _ (List.mem_of_getElem? (i := 73) rfl))) (mvT hZ (hw _ (List.mem_of_getElem? (i := 74) rfl))) (mvT hZ (hw _ (List.mem_of_getElem? (i := 75) rfl))) (mvT hZ (hw _ (List.mem_of_getElem? (i := 76) rfl))) (by decide) (backOf (W := 1) (rmb l Z a0 hw [] P kP vs on p1 h0 n0 O0 VP (by omega) ho1 (by omega) (by omega)) hZ (hw _ (List.mem_of_getElem? (i := 76) rfl)) (hw _ (List.mem_of_getElem? (i := 75) rfl)) (by decide) (by decide)) (g := (mkF m 49 #[.val (.ref a1), .val (.int p1), .val (.int 0), .val (.ref a1), .unset, .unset] [(.int p1), (.int (Int32.ofNat on)), (.int 0), (.ref P), (.int 0)])) rfl (by rw [hml]; rfl) (argsL := [(.ref P), (.int 0), (.int (Int32.ofNat on)), (.int p1)]) (rest := [(.int 0)]) (lenOf pd6 rfl) rfl (by show 2 * 0 + _ ≤ _; exact Nat.le_of_eq rfl) (hb hby d11_49) (fun _ _ => ⟨rfl, e131, (by decide : 0 + 0 ≤ _), (by decide : 0 + 0 ≤ _)⟩)
    dsimp only [Pt.U, Pt.locs, Pt.cells, Pt.slots] at X132 l132 y132 z132 st132 hQ132
    subst l132 y132 z132
    obtain ⟨rfl, Nq132, e132⟩ := hQ132
    have N132 := Fr.app N0 Nq132
    have pf133 : ∀ target, Steps p.tables e below (T132.setTop (mkF m 52 #[.val (.ref a1), .val (.int p1), .val (.int 0), .val (.ref a1), .unset, .unset] [(.int (bsF on vs p1)), (.int 0)])) target → Steps p.tables e below (T2.setTop (mkF m 35 #[.val (.ref a1), .val (.int p1), .val (.int 0), .val (.ref a1), .unset, .unset] [(.int 0)])) target := by
      intro target k
      show Steps p.tables e below (T2.setTop (mkF m 35 #[.val (.ref a1), .val (.int p1), .val (.int 0), .val (.ref a1), .unset, .unset] [(.int 0)])) _
      refine XS.ifNo X2.here hx rfl (hb hby d11_35) rfl ((if0 _ _).trans (teq (by decide)).2) ?_
      refine XS.iconst X2.here hx rfl (hb hby d11_38) ?_
      refine XS.aloadN X2.here hx rfl (hb hby d11_39) rfl rfl ?_
      show Steps p.tables e below (T2.setTop (mkF m 40 #[.val (.ref a1), .val (.int p1), .val (.int 0), .val (.ref a1), .unset, .unset] [(.ref a1), (.int 0)])) _
      refine st130 _ ?_
      show Steps p.tables e below (T130.setTop (mkF m 43 #[.val (.ref a1), .val (.int p1), .val (.int 0), .val (.ref a1), .unset, .unset] [(.ref P), (.int 0)])) _
      refine XS.iconst X130.here hx rfl (hb hby d11_43) ?_
      refine XS.aloadN X130.here hx rfl (hb hby d11_44) rfl rfl ?_
      show Steps p.tables e below (T130.setTop (mkF m 45 #[.val (.ref a1), .val (.int p1), .val (.int 0), .val (.ref a1), .unset, .unset] [(.ref a1), (.int 0), (.ref P), (.int 0)])) _
      refine st131 _ ?_
      show Steps p.tables e below (T131.setTop (mkF m 48 #[.val (.ref a1), .val (.int p1), .val (.int 0), .val (.ref a1), .unset, .unset] [(.int (Int32.ofNat on)), (.int 0), (.ref P), (.int 0)])) _
      refine XS.iloadN X131.here hx rfl (hb hby d11_48) rfl ?_
      show Steps p.tables e below (T131.setTop (mkF m 49 #[.val (.ref a1), .val (.int p1), .val (.int 0), .val (.ref a1), .unset, .unset] [(.int p1), (.int (Int32.ofNat on)), (.int 0), (.ref P), (.int 0)])) _
      refine st132 _ ?_
      exact k
    by_cases hc52 : (bsF on vs p1) < (0 : Int32)
    · obtain ⟨T134, X134, e134, st134⟩ := getF X132 hx hZ hown (host := "") (Or.inl (hw _ (List.mem_of_getElem? (i := 54) rfl))) Via.refl e132 F_p (g := (mkF m 56 #[.val (.ref a1), .val (.int p1), .val (.int 0), .val (.ref a1), .unset, .unset] [(.ref a1)])) rfl rfl (hb hby d11_56)
      obtain ⟨T135, X135, e135, st135⟩ := getF X134 hx hZ hown (host := "") (Or.inl (hw _ (List.mem_of_getElem? (i := 60) rfl))) Via.refl e134 F_w (g := (mkF m 62 #[.val (.ref a1), .val (.int p1), .val (.int 0), .val (.ref a1), .val (.ref P), .unset] [(.ref a1)])) rfl rfl (hb hby d11_62)
      obtain ⟨T136, X136, e136, st136⟩ := getF X135 hx hZ hown (host := "") (Or.inl (hw _ (List.mem_of_getElem? (i := 60) rfl))) Via.refl e135 F_w (g := (mkF m 68 #[.val (.ref a1), .val (.int p1), .val (.int 0), .val (.ref a1), .val (.ref P), .val (.ref Wa)] [(.ref a1)])) rfl rfl (hb hby d11_68)
      obtain ⟨cl137, Ar137, hin137, hat137⟩ := own_at (j := (0 : Int32)) (i := 0) VW hNW (by decide) (by decide) (by rw [List.length_singleton]; decide)
      obtain ⟨T138, X138, e138, st138⟩ := getF X136 hx hZ hown (host := "") (Or.inl (hw _ (List.mem_of_getElem? (i := 56) rfl))) Via.refl e136 F_c (g := (mkF m 74 #[.val (.ref a1), .val (.int p1), .val (.int 0), .val (.ref a1), .val (.ref P), .val (.ref Wa)] [(.ref a1), (.int ([Int32.ofNat cn].getD 0 0))])) rfl rfl (hb hby d11_74)
      have pf139 : ∀ target, Steps p.tables e below (T138.setTop (mkF m 77 #[.val (.ref a1), .val (.int p1), .val (.int 0), .val (.ref a1), .val (.ref P), .val (.ref Wa)] [(.int (Int32.ofNat cn)), (.int ([Int32.ofNat cn].getD 0 0))])) target → Steps p.tables e below (T132.setTop (mkF m 52 #[.val (.ref a1), .val (.int p1), .val (.int 0), .val (.ref a1), .unset, .unset] [(.int (bsF on vs p1)), (.int 0)])) target := by
        intro target k
        show Steps p.tables e below (T132.setTop (mkF m 52 #[.val (.ref a1), .val (.int p1), .val (.int 0), .val (.ref a1), .unset, .unset] [(.int (bsF on vs p1)), (.int 0)])) _
        refine XS.icmpNo X132.here hx rfl (hb hby d11_52) rfl (tlt hc52).2.2.2 ?_
        refine XS.aloadN X132.here hx rfl (hb hby d11_55) rfl rfl ?_
        show Steps p.tables e below (T132.setTop (mkF m 56 #[.val (.ref a1), .val (.int p1), .val (.int 0), .val (.ref a1), .unset, .unset] [(.ref a1)])) _
        refine st134 _ ?_
        show Steps p.tables e below (T134.setTop (mkF m 59 #[.val (.ref a1), .val (.int p1), .val (.int 0), .val (.ref a1), .unset, .unset] [(.ref P)])) _
        refine XS.astore X134.here hx rfl (hb hby d11_59) rfl rfl (l' := #[.val (.ref a1), .val (.int p1), .val (.int 0), .val (.ref a1), .val (.ref P), .unset]) rfl ?_
        refine XS.aloadN X134.here hx rfl (hb hby d11_61) rfl rfl ?_
        show Steps p.tables e below (T134.setTop (mkF m 62 #[.val (.ref a1), .val (.int p1), .val (.int 0), .val (.ref a1), .val (.ref P), .unset] [(.ref a1)])) _
        refine st135 _ ?_
        show Steps p.tables e below (T135.setTop (mkF m 65 #[.val (.ref a1), .val (.int p1), .val (.int 0), .val (.ref a1), .val (.ref P), .unset] [(.ref Wa)])) _
        refine XS.astore X135.here hx rfl (hb hby d11_65) rfl rfl (l' := #[.val (.ref a1), .val (.int p1), .val (.int 0), .val (.ref a1), .val (.ref P), .val (.ref Wa)]) rfl ?_
        refine XS.aloadN X135.here hx rfl (hb hby d11_67) rfl rfl ?_
        show Steps p.tables e below (T135.setTop (mkF m 68 #[.val (.ref a1), .val (.int p1), .val (.int 0), .val (.ref a1), .val (.ref P), .val (.ref Wa)] [(.ref a1)])) _
        refine st136 _ ?_
        show Steps p.tables e below (T136.setTop (mkF m 71 #[.val (.ref a1), .val (.int p1), .val (.int 0), .val (.ref a1), .val (.ref P), .val (.ref Wa)] [(.ref Wa)])) _
        refine XS.iconst X136.here hx rfl (hb hby d11_71) ?_
        show Steps p.tables e below (T136.setTop (mkF m 72 #[.val (.ref a1), .val (.int p1), .val (.int 0), .val (.ref a1), .val (.ref P), .val (.ref Wa)] [(.int 0), (.ref Wa)])) _
        refine X136.iaload hx (j := (0 : Int32)) (v := (.int ([Int32.ofNat cn].getD 0 0))) (by rw [e136]; exact Ar137.1) (State.isArrayOf_alike hZ.alike Ar137.2.1) Ar137.2.2 hin137 hat137 (g := (mkF m 72 #[.val (.ref a1), .val (.int p1), .val (.int 0), .val (.ref a1), .val (.ref P), .val (.ref Wa)] [(.int 0), (.ref Wa)])) rfl rfl (hb hby d11_72) _ ?_
        show Steps p.tables e below (T136.setTop (mkF m 73 #[.val (.ref a1), .val (.int p1), .val (.int 0), .val (.ref a1), .val (.ref P), .val (.ref Wa)] [(.int ([Int32.ofNat cn].getD 0 0))])) _
        refine XS.aloadN X136.here hx rfl (hb hby d11_73) rfl rfl ?_
        show Steps p.tables e below (T136.setTop (mkF m 74 #[.val (.ref a1), .val (.int p1), .val (.int 0), .val (.ref a1), .val (.ref P), .val (.ref Wa)] [(.ref a1), (.int ([Int32.ofNat cn].getD 0 0))])) _
        refine st138 _ ?_
        exact k
      obtain ⟨T140, X140, e140, st140⟩ := getF X138 hx hZ hown (host := "") (Or.inl (hw _ (List.mem_of_getElem? (i := 54) rfl))) Via.refl e138 F_p (g := (mkF m 81 #[.val (.ref a1), .val (.int p1), .val (.int 0), .val (.ref a1), .val (.ref P), .val (.ref Wa)] [(.ref a1)])) rfl rfl (hb hby d11_81)
      obtain ⟨cl141, Ar141, q141, Sz141, Nn141, Ha141, Gf141⟩ := id VP
      obtain ⟨T142, X142, e142, st142⟩ := getF X140 hx hZ hown (host := "") (Or.inl (hw _ (List.mem_of_getElem? (i := 56) rfl))) Via.refl e140 F_c (g := (mkF m 86 #[.val (.ref a1), .val (.int p1), .val (.int 0), .val (.ref a1), .val (.ref P), .val (.ref Wa)] [(.ref a1), (.int (Int32.ofNat vs.length))])) rfl rfl (hb hby d11_86)
      have pf143 : ∀ target, Steps p.tables e below (T142.setTop (mkF m 89 #[.val (.ref a1), .val (.int p1), .val (.int 0), .val (.ref a1), .val (.ref P), .val (.ref Wa)] [(.int (Int32.ofNat cn)), (.int (Int32.ofNat vs.length))])) target → Steps p.tables e below (T138.setTop (mkF m 77 #[.val (.ref a1), .val (.int p1), .val (.int 0), .val (.ref a1), .val (.ref P), .val (.ref Wa)] [(.int (Int32.ofNat cn)), (.int ([Int32.ofNat cn].getD 0 0))])) target := by
        intro target k
        show Steps p.tables e below (T138.setTop (mkF m 77 #[.val (.ref a1), .val (.int p1), .val (.int 0), .val (.ref a1), .val (.ref P), .val (.ref Wa)] [(.int (Int32.ofNat cn)), (.int ([Int32.ofNat cn].getD 0 0))])) _
        refine XS.icmpNo X138.here hx rfl (hb hby d11_77) rfl (teq rfl).2 ?_
        refine XS.aloadN X138.here hx rfl (hb hby d11_80) rfl rfl ?_
        show Steps p.tables e below (T138.setTop (mkF m 81 #[.val (.ref a1), .val (.int p1), .val (.int 0), .val (.ref a1), .val (.ref P), .val (.ref Wa)] [(.ref a1)])) _
        refine st140 _ ?_
        show Steps p.tables e below (T140.setTop (mkF m 84 #[.val (.ref a1), .val (.int p1), .val (.int 0), .val (.ref a1), .val (.ref P), .val (.ref Wa)] [(.ref P)])) _
        refine X140.arraylength hx (by rw [e140]; exact Ar141.1) (State.isArrayOf_alike hZ.alike Ar141.2.1) (g := (mkF m 84 #[.val (.ref a1), .val (.int p1), .val (.int 0), .val (.ref a1), .val (.ref P), .val (.ref Wa)] [(.ref P)])) rfl rfl (hb hby d11_84) _ ?_
        rw [len_of Sz141 Nn141]
        show Steps p.tables e below (T140.setTop (mkF m 85 #[.val (.ref a1), .val (.int p1), .val (.int 0), .val (.ref a1), .val (.ref P), .val (.ref Wa)] [(.int (Int32.ofNat vs.length))])) _
        refine XS.aloadN X140.here hx rfl (hb hby d11_85) rfl rfl ?_
        show Steps p.tables e below (T140.setTop (mkF m 86 #[.val (.ref a1), .val (.int p1), .val (.int 0), .val (.ref a1), .val (.ref P), .val (.ref Wa)] [(.ref a1), (.int (Int32.ofNat vs.length))])) _
        refine st142 _ ?_
        exact k
      by_cases hc89 : (Int32.ofNat vs.length) = (Int32.ofNat cn)
      · have hel : vs.length = cn := (own_eq (by omega) (by omega)).mp hc89
        obtain ⟨T144, X144, e144, st144⟩ := getF X142 hx hZ hown (host := "") (Or.inl (hw _ (List.mem_of_getElem? (i := 54) rfl))) Via.refl e142 F_p (g := (mkF m 93 #[.val (.ref a1), .val (.int p1), .val (.int 0), .val (.ref a1), .val (.ref P), .val (.ref Wa)] [(.ref a1)])) rfl rfl (hb hby d11_93)
        obtain ⟨T145, X145, e145, st145⟩ := getF X144 hx hZ hown (host := "") (Or.inl (hw _ (List.mem_of_getElem? (i := 56) rfl))) Via.refl e144 F_c (g := (mkF m 98 #[.val (.ref a1), .val (.int p1), .val (.int 0), .val (.ref a1), .val (.ref P), .val (.ref Wa)] [(.ref a1), (.int 2), (.ref P)])) rfl rfl (hb hby d11_98)
        obtain ⟨_, _, ⟨T146, L146, k146, n146⟩, -, X146, ⟨Lc146, hQ146, l146, y146, z146⟩, st146⟩ := Jvm.LawKit.callS X145 hx (y := (⟨"java/util/Arrays", "copyOf", "([II)[I"⟩ : MethodName)) hown (mvT hZ (hw _ (List.mem_of_getElem? (i := 83) rfl))) (mvT hZ (hw _ (List.mem_of_getElem? (i := 84) rfl))) (mvT hZ (hw _ (List.mem_of_getElem? (i := 75) rfl))) (mvT hZ (hw _ (List.mem_of_getElem? (i := 85) rfl))) (by decide) (backOf (W := 0) (rmco l Z a0 hw [] P kP vs cn ((2 : Int32) * (Int32.ofNat cn)) h0 n0 O0 VP (by omega) hel (by omega) (by omega) (own_mul2 (by omega))) hZ (hw _ (List.mem_of_getElem? (i := 85) rfl)) (hw _ (List.mem_of_getElem? (i := 75) rfl)) (by decide) (by decide)) (g := (mkF m 102 #[.val (.ref a1), .val (.int p1), .val (.int 0), .val (.ref a1), .val (.ref P), .val (.ref Wa)] [(.int ((2 : Int32) * (Int32.ofNat cn))), (.ref P)])) rfl (by rw [hml]; rfl) (argsL := [(.ref P), (.int ((2 : Int32) * (Int32.ofNat cn)))]) (rest := []) (lenOf pd8 rfl) rfl (by show 2 * 0 + _ ≤ _; exact Nat.le_of_eq rfl) (hb hby d11_102) (fun _ _ => ⟨rfl, e145, (by decide : 0 + 1 ≤ _), (by decide : 0 + 8 ≤ _)⟩)
        dsimp only [Pt.U, Pt.locs, Pt.cells, Pt.slots] at X146 l146 y146 z146 st146 hQ146
        subst l146 y146 z146
        obtain ⟨h146, e146⟩ : ∃ z, T146.heap = z := ⟨_, rfl⟩
        rw [e146] at hQ146
        obtain ⟨b146, kb146, rfl, Nq146, K146, szb146, Vb146⟩ := hQ146
        have N146 := Fr.app N132 Nq146
        have O147 := O0.keep K146 all0
        have kp148 : Keep h0 h146 [P, Wa] := (Keep.refl h0 [P, Wa]).trans K146 all0
        have g_b146 : n0 ≤ b146 := Nat.le_trans (own_sz O0) szb146
        have sz_b146 : h0.size ≤ b146 := Nat.le_trans (Keep.refl h0 [P, Wa]).1 szb146
        have lt_P_b146 : P < b146 := Nat.lt_of_lt_of_le lt_P sz_b146
        have lt_Wa_b146 : Wa < b146 := Nat.lt_of_lt_of_le lt_Wa sz_b146
        have lt_r_b146 : r < b146 := Nat.lt_of_lt_of_le lt_r sz_b146
        have lt_a1_b146 : a1 < b146 := Nat.lt_of_lt_of_le lt_a1 sz_b146
        have hNb146 : (Int32.ofNat (vs.length + cn)).toNatClampNeg = (vs ++ List.replicate cn 0).length := by rw [own_n (by omega), List.length_append, List.length_replicate]
        obtain ⟨T149, h149, k149, X149, e149, E149, A149, st149⟩ := newP X146 hx hZ (hw _ (List.mem_of_getElem? (i := 34) rfl)) e146 (g := (mkF m 108 #[.val (.ref a1), .val (.int p1), .val (.int 0), .val (.ref a1), .val (.ref b146), .val (.ref Wa)] [(.int 1)])) rfl (hb hby d11_108) rfl (by decide) (cap := 1) (by decide) (by decide) (by decide) (by decide)
        obtain ⟨b149, g149⟩ : ∃ z, z = h146.size := ⟨_, rfl⟩
        rw [← g149] at A149 st149
        have g_b149 : n0 ≤ b149 := by rw [g149]; exact Nat.le_trans (Nat.le_of_eq O147.1.symm) O147.2.1
        have sz_b149 : h0.size ≤ b149 := by rw [g149]; exact kp148.1
        have lt_b146_b149 : b146 < b149 := by rw [g149]; exact Vb146.lt
        have lt_P_b149 : P < b149 := Nat.lt_of_lt_of_le lt_P sz_b149
        have lt_Wa_b149 : Wa < b149 := Nat.lt_of_lt_of_le lt_Wa sz_b149
        have lt_r_b149 : r < b149 := Nat.lt_of_lt_of_le lt_r sz_b149
        have lt_a1_b149 : a1 < b149 := Nat.lt_of_lt_of_le lt_a1 sz_b149
        have O150 := O147.ext E149
        have kp151 : Keep h0 h149 [P, Wa] := kp148.ext E149
        have V_b149 : Arv Z h149 b149 k149 .int (1 : Int32) [(.int 0)] (.int 0) := (Arv.new A149 (by decide)).pad (pad_rep [] (.int 0) 1)
        have hlt : cn < (vs ++ List.replicate cn 0).length := by rw [List.length_append, List.length_replicate]; omega
        have hgr : growF vs cn = vs ++ List.replicate cn 0 := if_pos hel
        obtain ⟨T152, X152, e152, st152⟩ := getF X149 hx hZ hown (host := "") (Or.inl (hw _ (List.mem_of_getElem? (i := 56) rfl))) Via.refl e149 ((F_c.keep K146 nin0).ext E149) (g := (mkF m 115 #[.val (.ref a1), .val (.int p1), .val (.int 0), .val (.ref a1), .val (.ref b146), .val (.ref b149)] [(.ref a1), (.ref b146)])) rfl rfl (hb hby d11_115)
        obtain ⟨cl153, Ar153, q153, Sz153, Nn153, Ha153, Gf153⟩ := id (Vb146.ext E149)
        have hin153 : ¬ ((Int32.ofNat cn) < 0 ∨ cl153.slots.size ≤ ((Int32.ofNat cn)).toNatClampNeg) := own_inb (i := cn) Sz153 hNb146 (own_nn (by omega)) (own_n (by omega)) hlt
        obtain ⟨T154, h154, X154, e154, W154, st154⟩ := stI X152 hx hZ e152 Ar153 (j := (Int32.ofNat cn)) hin153 (g := (mkF m 119 #[.val (.ref a1), .val (.int p1), .val (.int 0), .val (.ref a1), .val (.ref b146), .val (.ref b149)] [(.int p1), (.int (Int32.ofNat cn)), (.ref b146)])) rfl rfl (hb hby d11_119)
        have Va154 := Arv.set Ar153 q153 Sz153 Nn153 Ha153 Gf153 rfl W154 cn (own_n (by omega)) (by rw [List.length_map]; exact hlt)
        have Vb154 : Arv Z h154 b146 kb146 .int (Int32.ofNat (vs.length + cn)) (((vs ++ List.replicate cn 0).set cn p1).map Value.int) (.int 0) := by rw [List.map_set]; exact Va154
        have hN154 : ((Int32.ofNat (vs.length + cn))).toNatClampNeg = ((vs ++ List.replicate cn 0).set cn p1).length := by rw [List.length_set]; exact hNb146
        have O155 := O150.wr W154 g_b146
        have kp156 : Keep h0 h154 [P, Wa] := kp151.wr W154 (Or.inr sz_b146)
        have N154 := Fr.snoc X154 N146 g_b146
        obtain ⟨T157, X157, e157, st157⟩ := getF X154 hx hZ hown (host := "") (Or.inl (hw _ (List.mem_of_getElem? (i := 56) rfl))) Via.refl e154 (((F_c.keep K146 nin0).ext E149).other W154 (Or.inl (Nat.ne_of_lt lt_a1_b146))) (g := (mkF m 124 #[.val (.ref a1), .val (.int p1), .val (.int 0), .val (.ref a1), .val (.ref b146), .val (.ref b149)] [(.ref a1), (.int 0), (.ref b149)])) rfl rfl (hb hby d11_124)
        obtain ⟨cl158, Ar158, q158, Sz158, Nn158, Ha158, Gf158⟩ := (V_b149.other W154 (Ne.symm (Nat.ne_of_lt lt_b146_b149)))
        have hin158 : ¬ ((0 : Int32) < 0 ∨ cl158.slots.size ≤ ((0 : Int32)).toNatClampNeg) := inb_of Sz158 ⟨by decide, by decide⟩
        obtain ⟨T159, h159, X159, e159, W159, st159⟩ := stI X157 hx hZ e157 Ar158 (j := (0 : Int32)) hin158 (g := (mkF m 129 #[.val (.ref a1), .val (.int p1), .val (.int 0), .val (.ref a1), .val (.ref b146), .val (.ref b149)] [(.int ((Int32.ofNat cn) + (1 : Int32))), (.int 0), (.ref b149)])) rfl rfl (hb hby d11_129)
        have Va159 := Arv.set Ar158 q158 Sz158 Nn158 Ha158 Gf158 rfl W159 0 rfl (Nat.le_of_ble_eq_true rfl)
        have Vb159 : Arv Z h159 b149 k149 .int (1 : Int32) [(.int ((Int32.ofNat cn) + (1 : Int32)))] (.int 0) := Va159
        have O160 := O155.wr W159 g_b149
        have kp161 : Keep h0 h159 [P, Wa] := kp156.wr W159 (Or.inr sz_b149)
        have N159 := Fr.snoc X159 N154 g_b149
        obtain ⟨T162, h162, X162, e162, E162, A162, D162, U162, st162⟩ := newO X159 hx hZ hown (hw _ (List.mem_of_getElem? (i := 94) rfl)) (hw _ (List.mem_of_getElem? (i := 29) rfl)) (hw _ (List.mem_of_getElem? (i := 30) rfl)) e159 (g := (mkF m 130 #[.val (.ref a1), .val (.int p1), .val (.int 0), .val (.ref a1), .val (.ref b146), .val (.ref b149)] [])) rfl (hb hby d11_130) (by decide) (by decide)
        obtain ⟨b162, g162⟩ : ∃ z, z = h159.size := ⟨_, rfl⟩
        rw [← g162] at A162 D162 U162 st162
        have g_b162 : n0 ≤ b162 := by rw [g162]; exact Nat.le_trans (Nat.le_of_eq O160.1.symm) O160.2.1
        have sz_b162 : h0.size ≤ b162 := by rw [g162]; exact kp161.1
        have lt_b146_b162 : b146 < b162 := by rw [g162]; exact (Vb154.other W159 (Nat.ne_of_lt lt_b146_b149)).lt
        have lt_b149_b162 : b149 < b162 := by rw [g162]; exact Vb159.lt
        have lt_P_b162 : P < b162 := Nat.lt_of_lt_of_le lt_P sz_b162
        have lt_Wa_b162 : Wa < b162 := Nat.lt_of_lt_of_le lt_Wa sz_b162
        have lt_r_b162 : r < b162 := Nat.lt_of_lt_of_le lt_r sz_b162
        have lt_a1_b162 : a1 < b162 := Nat.lt_of_lt_of_le lt_a1 sz_b162
        have O163 := O160.ext E162
        have kp164 : Keep h0 h162 [P, Wa] := kp161.ext E162
        have F_modCount_b162 : Fld Z h162 b162 "java/util/AbstractList" "modCount" "I" (.int 0) := D162 (Or.inl (hw _ (List.mem_of_getElem? (i := 51) rfl))) (ty := .int) (by decide)
        have F_registered_b162 : Fld Z h162 b162 "com/example/rivet_context/rivetcontext/factory/TypeListing" "registered" "[Ljava/lang/String;" .null := D162 (Or.inr (hw _ (List.mem_of_getElem? (i := 53) rfl))) (ty := (.array (.object "java/lang/String"))) (by decide)
        have F_places_b162 : Fld Z h162 b162 "com/example/rivet_context/rivetcontext/factory/TypeListing" "places" "[I" .null := D162 (Or.inr (hw _ (List.mem_of_getElem? (i := 55) rfl))) (ty := (.array .int)) (by decide)
        have F_count_b162 : Fld Z h162 b162 "com/example/rivet_context/rivetcontext/factory/TypeListing" "count" "I" (.int 0) := D162 (Or.inr (hw _ (List.mem_of_getElem? (i := 57) rfl))) (ty := .int) (by decide)
        have F_ordered_b162 : Fld Z h162 b162 "com/example/rivet_context/rivetcontext/factory/TypeListing" "ordered" "I" (.int 0) := D162 (Or.inr (hw _ (List.mem_of_getElem? (i := 59) rfl))) (ty := .int) (by decide)
        have F_written_b162 : Fld Z h162 b162 "com/example/rivet_context/rivetcontext/factory/TypeListing" "written" "[I" .null := D162 (Or.inr (hw _ (List.mem_of_getElem? (i := 61) rfl))) (ty := (.array .int)) (by decide)
        have F_inPlace_b162 : Fld Z h162 b162 "com/example/rivet_context/rivetcontext/factory/TypeListing" "inPlace" "Lcom/example/rivet_context/rivetcontext/factory/TypeListing;" .null := D162 (Or.inl (hw _ (List.mem_of_getElem? (i := 68) rfl))) (ty := (.object "com/example/rivet_context/rivetcontext/factory/TypeListing")) (by decide)
        obtain ⟨T165, X165, e165, st165⟩ := getF X162 hx hZ hown (host := "") (Or.inl (hw _ (List.mem_of_getElem? (i := 52) rfl))) Via.refl e162 (((((F_r.keep K146 nin0).ext E149).other W154 (Or.inl (Nat.ne_of_lt lt_a1_b146))).other W159 (Or.inl (Nat.ne_of_lt lt_a1_b149))).ext E162) (g := (mkF m 135 #[.val (.ref a1), .val (.int p1), .val (.int 0), .val (.ref a1), .val (.ref b146), .val (.ref b149)] [(.ref a1), (.ref b162), (.ref b162)])) rfl rfl (hb hby d11_135)
        obtain ⟨T166, X166, e166, st166⟩ := getF X165 hx hZ hown (host := "") (Or.inl (hw _ (List.mem_of_getElem? (i := 56) rfl))) Via.refl e165 (((((F_c.keep K146 nin0).ext E149).other W154 (Or.inl (Nat.ne_of_lt lt_a1_b146))).other W159 (Or.inl (Nat.ne_of_lt lt_a1_b149))).ext E162) (g := (mkF m 141 #[.val (.ref a1), .val (.int p1), .val (.int 0), .val (.ref a1), .val (.ref b146), .val (.ref b149)] [(.ref a1), (.ref b146), (.ref r), (.ref b162), (.ref b162)])) rfl rfl (hb hby d11_141)
        have pf167 : ∀ target, Steps p.tables e below (T166.setTop (mkF m 147 #[.val (.ref a1), .val (.int p1), .val (.int 0), .val (.ref a1), .val (.ref b146), .val (.ref b149)] [(.int 0), (.int ((Int32.ofNat cn) + (1 : Int32))), (.ref b146), (.ref r), (.ref b162), (.ref b162)])) target → Steps p.tables e below (T142.setTop (mkF m 89 #[.val (.ref a1), .val (.int p1), .val (.int 0), .val (.ref a1), .val (.ref P), .val (.ref Wa)] [(.int (Int32.ofNat cn)), (.int (Int32.ofNat vs.length))])) target := by
          intro target k
          show Steps p.tables e below (T142.setTop (mkF m 89 #[.val (.ref a1), .val (.int p1), .val (.int 0), .val (.ref a1), .val (.ref P), .val (.ref Wa)] [(.int (Int32.ofNat cn)), (.int (Int32.ofNat vs.length))])) _
          refine XS.icmpNo X142.here hx rfl (hb hby d11_89) rfl (teq hc89).2 ?_
          refine XS.aloadN X142.here hx rfl (hb hby d11_92) rfl rfl ?_
          show Steps p.tables e below (T142.setTop (mkF m 93 #[.val (.ref a1), .val (.int p1), .val (.int 0), .val (.ref a1), .val (.ref P), .val (.ref Wa)] [(.ref a1)])) _
          refine st144 _ ?_
          show Steps p.tables e below (T144.setTop (mkF m 96 #[.val (.ref a1), .val (.int p1), .val (.int 0), .val (.ref a1), .val (.ref P), .val (.ref Wa)] [(.ref P)])) _
          refine XS.iconst X144.here hx rfl (hb hby d11_96) ?_
          refine XS.aloadN X144.here hx rfl (hb hby d11_97) rfl rfl ?_
          show Steps p.tables e below (T144.setTop (mkF m 98 #[.val (.ref a1), .val (.int p1), .val (.int 0), .val (.ref a1), .val (.ref P), .val (.ref Wa)] [(.ref a1), (.int 2), (.ref P)])) _
          refine st145 _ ?_
          show Steps p.tables e below (T145.setTop (mkF m 101 #[.val (.ref a1), .val (.int p1), .val (.int 0), .val (.ref a1), .val (.ref P), .val (.ref Wa)] [(.int (Int32.ofNat cn)), (.int 2), (.ref P)])) _
          refine XS.imul X145.here hx rfl (hb hby d11_101) rfl ?_
          show Steps p.tables e below (T145.setTop (mkF m 102 #[.val (.ref a1), .val (.int p1), .val (.int 0), .val (.ref a1), .val (.ref P), .val (.ref Wa)] [(.int ((2 : Int32) * (Int32.ofNat cn))), (.ref P)])) _
          refine st146 _ ?_
          show Steps p.tables e below (T146.setTop (mkF m 105 #[.val (.ref a1), .val (.int p1), .val (.int 0), .val (.ref a1), .val (.ref P), .val (.ref Wa)] [(.ref b146)])) _
          refine XS.astore X146.here hx rfl (hb hby d11_105) rfl rfl (l' := #[.val (.ref a1), .val (.int p1), .val (.int 0), .val (.ref a1), .val (.ref b146), .val (.ref Wa)]) rfl ?_
          refine XS.iconst X146.here hx rfl (hb hby d11_107) ?_
          show Steps p.tables e below (T146.setTop (mkF m 108 #[.val (.ref a1), .val (.int p1), .val (.int 0), .val (.ref a1), .val (.ref b146), .val (.ref Wa)] [(.int 1)])) _
          refine st149 _ ?_
          show Steps p.tables e below (T149.setTop (mkF m 110 #[.val (.ref a1), .val (.int p1), .val (.int 0), .val (.ref a1), .val (.ref b146), .val (.ref Wa)] [(.ref b149)])) _
          refine XS.astore X149.here hx rfl (hb hby d11_110) rfl rfl (l' := #[.val (.ref a1), .val (.int p1), .val (.int 0), .val (.ref a1), .val (.ref b146), .val (.ref b149)]) rfl ?_
          refine XS.aload X149.here hx rfl (hb hby d11_112) rfl rfl ?_
          refine XS.aloadN X149.here hx rfl (hb hby d11_114) rfl rfl ?_
          show Steps p.tables e below (T149.setTop (mkF m 115 #[.val (.ref a1), .val (.int p1), .val (.int 0), .val (.ref a1), .val (.ref b146), .val (.ref b149)] [(.ref a1), (.ref b146)])) _
          refine st152 _ ?_
          show Steps p.tables e below (T152.setTop (mkF m 118 #[.val (.ref a1), .val (.int p1), .val (.int 0), .val (.ref a1), .val (.ref b146), .val (.ref b149)] [(.int (Int32.ofNat cn)), (.ref b146)])) _
          refine XS.iloadN X152.here hx rfl (hb hby d11_118) rfl ?_
          show Steps p.tables e below (T152.setTop (mkF m 119 #[.val (.ref a1), .val (.int p1), .val (.int 0), .val (.ref a1), .val (.ref b146), .val (.ref b149)] [(.int p1), (.int (Int32.ofNat cn)), (.ref b146)])) _
          refine st154 _ ?_
          show Steps p.tables e below (T154.setTop (mkF m 120 #[.val (.ref a1), .val (.int p1), .val (.int 0), .val (.ref a1), .val (.ref b146), .val (.ref b149)] [])) _
          refine XS.aload X154.here hx rfl (hb hby d11_120) rfl rfl ?_
          refine XS.iconst X154.here hx rfl (hb hby d11_122) ?_
          refine XS.aloadN X154.here hx rfl (hb hby d11_123) rfl rfl ?_
          show Steps p.tables e below (T154.setTop (mkF m 124 #[.val (.ref a1), .val (.int p1), .val (.int 0), .val (.ref a1), .val (.ref b146), .val (.ref b149)] [(.ref a1), (.int 0), (.ref b149)])) _
          refine st157 _ ?_
          show Steps p.tables e below (T157.setTop (mkF m 127 #[.val (.ref a1), .val (.int p1), .val (.int 0), .val (.ref a1), .val (.ref b146), .val (.ref b149)] [(.int (Int32.ofNat cn)), (.int 0), (.ref b149)])) _
          refine XS.iconst X157.here hx rfl (hb hby d11_127) ?_
          refine XS.iadd X157.here hx rfl (hb hby d11_128) rfl ?_
          show Steps p.tables e below (T157.setTop (mkF m 129 #[.val (.ref a1), .val (.int p1), .val (.int 0), .val (.ref a1), .val (.ref b146), .val (.ref b149)] [(.int ((Int32.ofNat cn) + (1 : Int32))), (.int 0), (.ref b149)])) _
          refine st159 _ ?_
          show Steps p.tables e below (T159.setTop (mkF m 130 #[.val (.ref a1), .val (.int p1), .val (.int 0), .val (.ref a1), .val (.ref b146), .val (.ref b149)] [])) _
          refine st162 _ ?_
          show Steps p.tables e below (T162.setTop (mkF m 133 #[.val (.ref a1), .val (.int p1), .val (.int 0), .val (.ref a1), .val (.ref b146), .val (.ref b149)] [(.ref b162)])) _
          refine XS.dup X162.here hx rfl (hb hby d11_133) rfl rfl ?_
          refine XS.aloadN X162.here hx rfl (hb hby d11_134) rfl rfl ?_
          show Steps p.tables e below (T162.setTop (mkF m 135 #[.val (.ref a1), .val (.int p1), .val (.int 0), .val (.ref a1), .val (.ref b146), .val (.ref b149)] [(.ref a1), (.ref b162), (.ref b162)])) _
          refine st165 _ ?_
          show Steps p.tables e below (T165.setTop (mkF m 138 #[.val (.ref a1), .val (.int p1), .val (.int 0), .val (.ref a1), .val (.ref b146), .val (.ref b149)] [(.ref r), (.ref b162), (.ref b162)])) _
          refine XS.aload X165.here hx rfl (hb hby d11_138) rfl rfl ?_
          refine XS.aloadN X165.here hx rfl (hb hby d11_140) rfl rfl ?_
          show Steps p.tables e below (T165.setTop (mkF m 141 #[.val (.ref a1), .val (.int p1), .val (.int 0), .val (.ref a1), .val (.ref b146), .val (.ref b149)] [(.ref a1), (.ref b146), (.ref r), (.ref b162), (.ref b162)])) _
          refine st166 _ ?_
          show Steps p.tables e below (T166.setTop (mkF m 144 #[.val (.ref a1), .val (.int p1), .val (.int 0), .val (.ref a1), .val (.ref b146), .val (.ref b149)] [(.int (Int32.ofNat cn)), (.ref b146), (.ref r), (.ref b162), (.ref b162)])) _
          refine XS.iconst X166.here hx rfl (hb hby d11_144) ?_
          refine XS.iadd X166.here hx rfl (hb hby d11_145) rfl ?_
          refine XS.iloadN X166.here hx rfl (hb hby d11_146) rfl ?_
          exact k
        obtain ⟨T168, X168, e168, st168⟩ := getF X166 hx hZ hown (host := "") (Or.inl (hw _ (List.mem_of_getElem? (i := 58) rfl))) Via.refl e166 (((((F_o.keep K146 nin0).ext E149).other W154 (Or.inl (Nat.ne_of_lt lt_a1_b146))).other W159 (Or.inl (Nat.ne_of_lt lt_a1_b149))).ext E162) (g := (mkF m 160 #[.val (.ref a1), .val (.int p1), .val (.int 0), .val (.ref a1), .val (.ref b146), .val (.ref b149)] [(.ref a1), (.int ((Int32.ofNat cn) + (1 : Int32))), (.ref b146), (.ref r), (.ref b162), (.ref b162)])) rfl rfl (hb hby d11_160)
        obtain ⟨_, _, ⟨T169, L169, k169, n169⟩, -, X169, ⟨Lc169, hQ169, l169, y169, z169⟩, st169⟩ := X168.specialBack hx (y := (⟨"com/example/rivet_context/rivetcontext/factory/TypeListing", "<init>", "([Ljava/lang/String;[III[I)V"⟩ : MethodName)) rfl hown (mvT hZ (hw _ (List.mem_of_getElem? (i := 35) rfl))) (mvT hZ (hw _ (List.mem_of_getElem? (i := 36) rfl))) (mvT hZ (hw _ (List.mem_of_getElem? (i := 37) rfl))) (by decide) (backOf (W := 1) (rmi5 l Z a0 hw [] b162 r b146 ((Int32.ofNat cn) + (1 : Int32)) (Int32.ofNat on) b149 h162 n0 O163 ⟨A162, F_registered_b162, F_places_b162, F_count_b162, F_ordered_b162, F_written_b162, F_inPlace_b162⟩ F_modCount_b162 g_b162) hZ (hw _ (List.mem_of_getElem? (i := 37) rfl)) (hw _ (List.mem_of_getElem? (i := 30) rfl)) (by decide) (by decide)) (g := (mkF m 165 #[.val (.ref a1), .val (.int p1), .val (.int 0), .val (.ref a1), .val (.ref b146), .val (.ref b149)] [(.ref b149), (.int (Int32.ofNat on)), (.int ((Int32.ofNat cn) + (1 : Int32))), (.ref b146), (.ref r), (.ref b162), (.ref b162)])) rfl (by rw [hml]; rfl) (Steps.refl _) (a := b162) (argsL := [(.ref r), (.ref b146), (.int ((Int32.ofNat cn) + (1 : Int32))), (.int (Int32.ofNat on)), (.ref b149)]) (rest := [(.ref b162)]) (lenOf pd4 rfl) rfl (by show 2 * 0 + _ ≤ _; exact Nat.le_of_eq rfl) (hb hby d11_165) (fun _ _ => ⟨rfl, e168, (by decide : 3 + 0 ≤ _), (by decide : 16 + 0 ≤ _)⟩)
        dsimp only [Pt.U, Pt.locs, Pt.cells, Pt.slots] at X169 l169 y169 z169 st169 hQ169
        subst l169 y169 z169
        obtain ⟨h169, e169⟩ : ∃ z, T169.heap = z := ⟨_, rfl⟩
        rw [e169] at hQ169
        obtain ⟨rfl, Nq169, K169, HT169⟩ := hQ169
        have N169 := Fr.app N159 Nq169
        have O170 := O163.keep K169 (allS g_b162 all0)
        have kp171 : Keep h0 h169 [P, Wa] := kp164.trans K169 (allS (Or.inr sz_b162) all0)
        have hext : extF vs cn on p1 = ((growF vs cn).set cn p1, cn + 1, on) := (if_neg (fun q => hc8 ((own_eq (by omega) (by omega)).mpr q.1))).trans (if_pos hc52)
        have LP : Lst Z h169 n0 b162 r ((growF vs cn).set cn p1) (cn + 1) on := by
          refine ⟨g_b162, b146, kb146, b149, k149, ?_, ?_, ?_, g_b146, g_b149, (Nat.ne_of_lt lt_b146_b149), lt_r_b146, lt_r_b149⟩
          · rw [← own_add1]; exact HT169
          · have q := (((Vb154.other W159 (Nat.ne_of_lt lt_b146_b149)).ext E162).keep K169 (ninS (Nat.ne_of_lt lt_b146_b162) nin0))
            rw [hgr, List.length_set, List.length_append, List.length_replicate]; exact q
          · rw [← own_add1]; exact ((Vb159.ext E162).keep K169 (ninS (Nat.ne_of_lt lt_b149_b162) nin0))
        obtain ⟨fs, hr, hrun, hended, hW, hsame⟩ := X169.leave (v := some (.ref b162)) (fun h => by rw [Bd.returns] at h; cases h)
        refine ⟨_, _, pre0 _ ?_, hrun, hended, _, _, rfl, ?_, ⟨_, rfl⟩, hW, hsame.mono (by decide) (by decide)⟩
        · refine pf129 _ ?_
          refine pf133 _ ?_
          refine pf139 _ ?_
          refine pf143 _ ?_
          refine pf167 _ ?_
          show Steps p.tables e below (T166.setTop (mkF m 147 #[.val (.ref a1), .val (.int p1), .val (.int 0), .val (.ref a1), .val (.ref b146), .val (.ref b149)] [(.int 0), (.int ((Int32.ofNat cn) + (1 : Int32))), (.ref b146), (.ref r), (.ref b162), (.ref b162)])) _
          refine XS.ifYes X166.here hx rfl (pc0 := 147) (pc' := 159) rfl (hb hby d11_147) rfl ((if0 _ _).trans (teq (by decide)).1) (by decide) (by decide) ?_
          refine XS.aloadN X166.here hx rfl (hb hby d11_159) rfl rfl ?_
          show Steps p.tables e below (T166.setTop (mkF m 160 #[.val (.ref a1), .val (.int p1), .val (.int 0), .val (.ref a1), .val (.ref b146), .val (.ref b149)] [(.ref a1), (.int ((Int32.ofNat cn) + (1 : Int32))), (.ref b146), (.ref r), (.ref b162), (.ref b162)])) _
          refine st168 _ ?_
          show Steps p.tables e below (T168.setTop (mkF m 163 #[.val (.ref a1), .val (.int p1), .val (.int 0), .val (.ref a1), .val (.ref b146), .val (.ref b149)] [(.int (Int32.ofNat on)), (.int ((Int32.ofNat cn) + (1 : Int32))), (.ref b146), (.ref r), (.ref b162), (.ref b162)])) _
          refine XS.aload X168.here hx rfl (hb hby d11_163) rfl rfl ?_
          show Steps p.tables e below (T168.setTop (mkF m 165 #[.val (.ref a1), .val (.int p1), .val (.int 0), .val (.ref a1), .val (.ref b146), .val (.ref b149)] [(.ref b149), (.int (Int32.ofNat on)), (.int ((Int32.ofNat cn) + (1 : Int32))), (.ref b146), (.ref r), (.ref b162), (.ref b162)])) _
          refine st169.trans ?_
          show Steps p.tables e below (T169.setTop (mkF m 168 #[.val (.ref a1), .val (.int p1), .val (.int 0), .val (.ref a1), .val (.ref b146), .val (.ref b149)] [(.ref b162)])) _
          refine XS.astoreN X169.here hx rfl (hb hby d11_168) rfl rfl (l' := #[.val (.ref a1), .val (.int p1), .val (.int 0), .val (.ref b162), .val (.ref b146), .val (.ref b149)]) rfl ?_
          refine XS.aloadN X169.here hx rfl (hb hby d11_169) rfl rfl ?_
          show Steps p.tables e below (T169.setTop (mkF m 170 #[.val (.ref a1), .val (.int p1), .val (.int 0), .val (.ref b162), .val (.ref b146), .val (.ref b149)] [(.ref b162)])) _
          exact retOut X169 hx Bd.returns rfl (Or.inr (Or.inr (Or.inr (Or.inr ⟨rfl, rfl, rfl⟩)))) (hb hby d11_170) hr
        · show Qext Z r kr ss (extF vs cn on p1) n0 _ T169.heap _
          rw [e169]
          exact ⟨b162, rfl, N169, O170, ((((((VR.keep K146 nin0).ext E149).other W154 (Nat.ne_of_lt lt_r_b146)).other W159 (Nat.ne_of_lt lt_r_b149)).ext E162).keep K169 (ninS (Nat.ne_of_lt lt_r_b162) nin0)), by rw [hext]; exact LP⟩
      · have hne : ¬ vs.length = cn := fun q => hc89 (by rw [q])
        have hlt : cn < vs.length := by omega
        have hgr : growF vs cn = vs := if_neg hne
        obtain ⟨T172, X172, e172, st172⟩ := getF X142 hx hZ hown (host := "") (Or.inl (hw _ (List.mem_of_getElem? (i := 56) rfl))) Via.refl e142 F_c (g := (mkF m 115 #[.val (.ref a1), .val (.int p1), .val (.int 0), .val (.ref a1), .val (.ref P), .val (.ref Wa)] [(.ref a1), (.ref P)])) rfl rfl (hb hby d11_115)
        obtain ⟨cl173, Ar173, q173, Sz173, Nn173, Ha173, Gf173⟩ := id VP
        have hin173 : ¬ ((Int32.ofNat cn) < 0 ∨ cl173.slots.size ≤ ((Int32.ofNat cn)).toNatClampNeg) := own_inb (i := cn) Sz173 hNP (own_nn (by omega)) (own_n (by omega)) hlt
        obtain ⟨T174, h174, X174, e174, W174, st174⟩ := stI X172 hx hZ e172 Ar173 (j := (Int32.ofNat cn)) hin173 (g := (mkF m 119 #[.val (.ref a1), .val (.int p1), .val (.int 0), .val (.ref a1), .val (.ref P), .val (.ref Wa)] [(.int p1), (.int (Int32.ofNat cn)), (.ref P)])) rfl rfl (hb hby d11_119)
        have Va174 := Arv.set Ar173 q173 Sz173 Nn173 Ha173 Gf173 rfl W174 cn (own_n (by omega)) (by rw [List.length_map]; exact hlt)
        have Vb174 : Arv Z h174 P kP .int (Int32.ofNat vs.length) ((vs.set cn p1).map Value.int) (.int 0) := by rw [List.map_set]; exact Va174
        have hN174 : ((Int32.ofNat vs.length)).toNatClampNeg = (vs.set cn p1).length := by rw [List.length_set]; exact hNP
        have O175 := O0.wr W174 g_P
        have kp176 : Keep h0 h174 [P, Wa] := (Keep.refl h0 [P, Wa]).wr W174 (Or.inl (List.mem_of_getElem? (i := 0) rfl))
        have N174 := Fr.snoc X174 N132 g_P
        obtain ⟨T177, X177, e177, st177⟩ := getF X174 hx hZ hown (host := "") (Or.inl (hw _ (List.mem_of_getElem? (i := 56) rfl))) Via.refl e174 (F_c.other W174 (Or.inl n_a1_P)) (g := (mkF m 124 #[.val (.ref a1), .val (.int p1), .val (.int 0), .val (.ref a1), .val (.ref P), .val (.ref Wa)] [(.ref a1), (.int 0), (.ref Wa)])) rfl rfl (hb hby d11_124)
        obtain ⟨cl178, Ar178, q178, Sz178, Nn178, Ha178, Gf178⟩ := id (VW.other W174 (Ne.symm nPW))
        have hin178 : ¬ ((0 : Int32) < 0 ∨ cl178.slots.size ≤ ((0 : Int32)).toNatClampNeg) := own_inb (i := 0) Sz178 hNW (by decide) (by decide) (by rw [List.length_singleton]; decide)
        obtain ⟨T179, h179, X179, e179, W179, st179⟩ := stI X177 hx hZ e177 Ar178 (j := (0 : Int32)) hin178 (g := (mkF m 129 #[.val (.ref a1), .val (.int p1), .val (.int 0), .val (.ref a1), .val (.ref P), .val (.ref Wa)] [(.int ((Int32.ofNat cn) + (1 : Int32))), (.int 0), (.ref Wa)])) rfl rfl (hb hby d11_129)
        have Va179 := Arv.set Ar178 q178 Sz178 Nn178 Ha178 Gf178 rfl W179 0 (by decide) (by rw [List.length_map]; exact (by rw [List.length_singleton]; decide))
        have Vb179 : Arv Z h179 Wa kW .int (1 : Int32) (([Int32.ofNat cn].set 0 ((Int32.ofNat cn) + (1 : Int32))).map Value.int) (.int 0) := by rw [List.map_set]; exact Va179
        have hN179 : ((1 : Int32)).toNatClampNeg = ([Int32.ofNat cn].set 0 ((Int32.ofNat cn) + (1 : Int32))).length := by rw [List.length_set]; exact hNW
        have O180 := O175.wr W179 g_Wa
        have kp181 : Keep h0 h179 [P, Wa] := kp176.wr W179 (Or.inl (List.mem_of_getElem? (i := 1) rfl))
        have N179 := Fr.snoc X179 N174 g_Wa
        obtain ⟨T182, h182, X182, e182, E182, A182, D182, U182, st182⟩ := newO X179 hx hZ hown (hw _ (List.mem_of_getElem? (i := 94) rfl)) (hw _ (List.mem_of_getElem? (i := 29) rfl)) (hw _ (List.mem_of_getElem? (i := 30) rfl)) e179 (g := (mkF m 130 #[.val (.ref a1), .val (.int p1), .val (.int 0), .val (.ref a1), .val (.ref P), .val (.ref Wa)] [])) rfl (hb hby d11_130) (by decide) (by decide)
        obtain ⟨b182, g182⟩ : ∃ z, z = h179.size := ⟨_, rfl⟩
        rw [← g182] at A182 D182 U182 st182
        have g_b182 : n0 ≤ b182 := by rw [g182]; exact Nat.le_trans (Nat.le_of_eq O180.1.symm) O180.2.1
        have sz_b182 : h0.size ≤ b182 := by rw [g182]; exact kp181.1
        have lt_P_b182 : P < b182 := Nat.lt_of_lt_of_le lt_P sz_b182
        have lt_Wa_b182 : Wa < b182 := Nat.lt_of_lt_of_le lt_Wa sz_b182
        have lt_r_b182 : r < b182 := Nat.lt_of_lt_of_le lt_r sz_b182
        have lt_a1_b182 : a1 < b182 := Nat.lt_of_lt_of_le lt_a1 sz_b182
        have O183 := O180.ext E182
        have kp184 : Keep h0 h182 [P, Wa] := kp181.ext E182
        have F_modCount_b182 : Fld Z h182 b182 "java/util/AbstractList" "modCount" "I" (.int 0) := D182 (Or.inl (hw _ (List.mem_of_getElem? (i := 51) rfl))) (ty := .int) (by decide)
        have F_registered_b182 : Fld Z h182 b182 "com/example/rivet_context/rivetcontext/factory/TypeListing" "registered" "[Ljava/lang/String;" .null := D182 (Or.inr (hw _ (List.mem_of_getElem? (i := 53) rfl))) (ty := (.array (.object "java/lang/String"))) (by decide)
        have F_places_b182 : Fld Z h182 b182 "com/example/rivet_context/rivetcontext/factory/TypeListing" "places" "[I" .null := D182 (Or.inr (hw _ (List.mem_of_getElem? (i := 55) rfl))) (ty := (.array .int)) (by decide)
        have F_count_b182 : Fld Z h182 b182 "com/example/rivet_context/rivetcontext/factory/TypeListing" "count" "I" (.int 0) := D182 (Or.inr (hw _ (List.mem_of_getElem? (i := 57) rfl))) (ty := .int) (by decide)
        have F_ordered_b182 : Fld Z h182 b182 "com/example/rivet_context/rivetcontext/factory/TypeListing" "ordered" "I" (.int 0) := D182 (Or.inr (hw _ (List.mem_of_getElem? (i := 59) rfl))) (ty := .int) (by decide)
        have F_written_b182 : Fld Z h182 b182 "com/example/rivet_context/rivetcontext/factory/TypeListing" "written" "[I" .null := D182 (Or.inr (hw _ (List.mem_of_getElem? (i := 61) rfl))) (ty := (.array .int)) (by decide)
        have F_inPlace_b182 : Fld Z h182 b182 "com/example/rivet_context/rivetcontext/factory/TypeListing" "inPlace" "Lcom/example/rivet_context/rivetcontext/factory/TypeListing;" .null := D182 (Or.inl (hw _ (List.mem_of_getElem? (i := 68) rfl))) (ty := (.object "com/example/rivet_context/rivetcontext/factory/TypeListing")) (by decide)
        obtain ⟨T185, X185, e185, st185⟩ := getF X182 hx hZ hown (host := "") (Or.inl (hw _ (List.mem_of_getElem? (i := 52) rfl))) Via.refl e182 (((F_r.other W174 (Or.inl n_a1_P)).other W179 (Or.inl n_a1_Wa)).ext E182) (g := (mkF m 135 #[.val (.ref a1), .val (.int p1), .val (.int 0), .val (.ref a1), .val (.ref P), .val (.ref Wa)] [(.ref a1), (.ref b182), (.ref b182)])) rfl rfl (hb hby d11_135)
        obtain ⟨T186, X186, e186, st186⟩ := getF X185 hx hZ hown (host := "") (Or.inl (hw _ (List.mem_of_getElem? (i := 56) rfl))) Via.refl e185 (((F_c.other W174 (Or.inl n_a1_P)).other W179 (Or.inl n_a1_Wa)).ext E182) (g := (mkF m 141 #[.val (.ref a1), .val (.int p1), .val (.int 0), .val (.ref a1), .val (.ref P), .val (.ref Wa)] [(.ref a1), (.ref P), (.ref r), (.ref b182), (.ref b182)])) rfl rfl (hb hby d11_141)
        have pf187 : ∀ target, Steps p.tables e below (T186.setTop (mkF m 147 #[.val (.ref a1), .val (.int p1), .val (.int 0), .val (.ref a1), .val (.ref P), .val (.ref Wa)] [(.int 0), (.int ((Int32.ofNat cn) + (1 : Int32))), (.ref P), (.ref r), (.ref b182), (.ref b182)])) target → Steps p.tables e below (T142.setTop (mkF m 89 #[.val (.ref a1), .val (.int p1), .val (.int 0), .val (.ref a1), .val (.ref P), .val (.ref Wa)] [(.int (Int32.ofNat cn)), (.int (Int32.ofNat vs.length))])) target := by
          intro target k
          show Steps p.tables e below (T142.setTop (mkF m 89 #[.val (.ref a1), .val (.int p1), .val (.int 0), .val (.ref a1), .val (.ref P), .val (.ref Wa)] [(.int (Int32.ofNat cn)), (.int (Int32.ofNat vs.length))])) _
          refine XS.icmpYes X142.here hx rfl (pc0 := 89) (pc' := 112) rfl (hb hby d11_89) rfl (feq hc89).2 (by decide) (by decide) ?_
          refine XS.aload X142.here hx rfl (hb hby d11_112) rfl rfl ?_
          refine XS.aloadN X142.here hx rfl (hb hby d11_114) rfl rfl ?_
          show Steps p.tables e below (T142.setTop (mkF m 115 #[.val (.ref a1), .val (.int p1), .val (.int 0), .val (.ref a1), .val (.ref P), .val (.ref Wa)] [(.ref a1), (.ref P)])) _
          refine st172 _ ?_
          show Steps p.tables e below (T172.setTop (mkF m 118 #[.val (.ref a1), .val (.int p1), .val (.int 0), .val (.ref a1), .val (.ref P), .val (.ref Wa)] [(.int (Int32.ofNat cn)), (.ref P)])) _
          refine XS.iloadN X172.here hx rfl (hb hby d11_118) rfl ?_
          show Steps p.tables e below (T172.setTop (mkF m 119 #[.val (.ref a1), .val (.int p1), .val (.int 0), .val (.ref a1), .val (.ref P), .val (.ref Wa)] [(.int p1), (.int (Int32.ofNat cn)), (.ref P)])) _
          refine st174 _ ?_
          show Steps p.tables e below (T174.setTop (mkF m 120 #[.val (.ref a1), .val (.int p1), .val (.int 0), .val (.ref a1), .val (.ref P), .val (.ref Wa)] [])) _
          refine XS.aload X174.here hx rfl (hb hby d11_120) rfl rfl ?_
          refine XS.iconst X174.here hx rfl (hb hby d11_122) ?_
          refine XS.aloadN X174.here hx rfl (hb hby d11_123) rfl rfl ?_
          show Steps p.tables e below (T174.setTop (mkF m 124 #[.val (.ref a1), .val (.int p1), .val (.int 0), .val (.ref a1), .val (.ref P), .val (.ref Wa)] [(.ref a1), (.int 0), (.ref Wa)])) _
          refine st177 _ ?_
          show Steps p.tables e below (T177.setTop (mkF m 127 #[.val (.ref a1), .val (.int p1), .val (.int 0), .val (.ref a1), .val (.ref P), .val (.ref Wa)] [(.int (Int32.ofNat cn)), (.int 0), (.ref Wa)])) _
          refine XS.iconst X177.here hx rfl (hb hby d11_127) ?_
          refine XS.iadd X177.here hx rfl (hb hby d11_128) rfl ?_
          show Steps p.tables e below (T177.setTop (mkF m 129 #[.val (.ref a1), .val (.int p1), .val (.int 0), .val (.ref a1), .val (.ref P), .val (.ref Wa)] [(.int ((Int32.ofNat cn) + (1 : Int32))), (.int 0), (.ref Wa)])) _
          refine st179 _ ?_
          show Steps p.tables e below (T179.setTop (mkF m 130 #[.val (.ref a1), .val (.int p1), .val (.int 0), .val (.ref a1), .val (.ref P), .val (.ref Wa)] [])) _
          refine st182 _ ?_
          show Steps p.tables e below (T182.setTop (mkF m 133 #[.val (.ref a1), .val (.int p1), .val (.int 0), .val (.ref a1), .val (.ref P), .val (.ref Wa)] [(.ref b182)])) _
          refine XS.dup X182.here hx rfl (hb hby d11_133) rfl rfl ?_
          refine XS.aloadN X182.here hx rfl (hb hby d11_134) rfl rfl ?_
          show Steps p.tables e below (T182.setTop (mkF m 135 #[.val (.ref a1), .val (.int p1), .val (.int 0), .val (.ref a1), .val (.ref P), .val (.ref Wa)] [(.ref a1), (.ref b182), (.ref b182)])) _
          refine st185 _ ?_
          show Steps p.tables e below (T185.setTop (mkF m 138 #[.val (.ref a1), .val (.int p1), .val (.int 0), .val (.ref a1), .val (.ref P), .val (.ref Wa)] [(.ref r), (.ref b182), (.ref b182)])) _
          refine XS.aload X185.here hx rfl (hb hby d11_138) rfl rfl ?_
          refine XS.aloadN X185.here hx rfl (hb hby d11_140) rfl rfl ?_
          show Steps p.tables e below (T185.setTop (mkF m 141 #[.val (.ref a1), .val (.int p1), .val (.int 0), .val (.ref a1), .val (.ref P), .val (.ref Wa)] [(.ref a1), (.ref P), (.ref r), (.ref b182), (.ref b182)])) _
          refine st186 _ ?_
          show Steps p.tables e below (T186.setTop (mkF m 144 #[.val (.ref a1), .val (.int p1), .val (.int 0), .val (.ref a1), .val (.ref P), .val (.ref Wa)] [(.int (Int32.ofNat cn)), (.ref P), (.ref r), (.ref b182), (.ref b182)])) _
          refine XS.iconst X186.here hx rfl (hb hby d11_144) ?_
          refine XS.iadd X186.here hx rfl (hb hby d11_145) rfl ?_
          refine XS.iloadN X186.here hx rfl (hb hby d11_146) rfl ?_
          exact k
        obtain ⟨T188, X188, e188, st188⟩ := getF X186 hx hZ hown (host := "") (Or.inl (hw _ (List.mem_of_getElem? (i := 58) rfl))) Via.refl e186 (((F_o.other W174 (Or.inl n_a1_P)).other W179 (Or.inl n_a1_Wa)).ext E182) (g := (mkF m 160 #[.val (.ref a1), .val (.int p1), .val (.int 0), .val (.ref a1), .val (.ref P), .val (.ref Wa)] [(.ref a1), (.int ((Int32.ofNat cn) + (1 : Int32))), (.ref P), (.ref r), (.ref b182), (.ref b182)])) rfl rfl (hb hby d11_160)
        obtain ⟨_, _, ⟨T189, L189, k189, n189⟩, -, X189, ⟨Lc189, hQ189, l189, y189, z189⟩, st189⟩ := X188.specialBack hx (y := (⟨"com/example/rivet_context/rivetcontext/factory/TypeListing", "<init>", "([Ljava/lang/String;[III[I)V"⟩ : MethodName)) rfl hown (mvT hZ (hw _ (List.mem_of_getElem? (i := 35) rfl))) (mvT hZ (hw _ (List.mem_of_getElem? (i := 36) rfl))) (mvT hZ (hw _ (List.mem_of_getElem? (i := 37) rfl))) (by decide) (backOf (W := 1) (rmi5 l Z a0 hw [] b182 r P ((Int32.ofNat cn) + (1 : Int32)) (Int32.ofNat on) Wa h182 n0 O183 ⟨A182, F_registered_b182, F_places_b182, F_count_b182, F_ordered_b182, F_written_b182, F_inPlace_b182⟩ F_modCount_b182 g_b182) hZ (hw _ (List.mem_of_getElem? (i := 37) rfl)) (hw _ (List.mem_of_getElem? (i := 30) rfl)) (by decide) (by decide)) (g := (mkF m 165 #[.val (.ref a1), .val (.int p1), .val (.int 0), .val (.ref a1), .val (.ref P), .val (.ref Wa)] [(.ref Wa), (.int (Int32.ofNat on)), (.int ((Int32.ofNat cn) + (1 : Int32))), (.ref P), (.ref r), (.ref b182), (.ref b182)])) rfl (by rw [hml]; rfl) (Steps.refl _) (a := b182) (argsL := [(.ref r), (.ref P), (.int ((Int32.ofNat cn) + (1 : Int32))), (.int (Int32.ofNat on)), (.ref Wa)]) (rest := [(.ref b182)]) (lenOf pd4 rfl) rfl (by show 2 * 0 + _ ≤ _; exact Nat.le_of_eq rfl) (hb hby d11_165) (fun _ _ => ⟨rfl, e188, (by decide : 1 + 0 ≤ _), (by decide : 7 + 0 ≤ _)⟩)
        dsimp only [Pt.U, Pt.locs, Pt.cells, Pt.slots] at X189 l189 y189 z189 st189 hQ189
        subst l189 y189 z189
        obtain ⟨h189, e189⟩ : ∃ z, T189.heap = z := ⟨_, rfl⟩
        rw [e189] at hQ189
        obtain ⟨rfl, Nq189, K189, HT189⟩ := hQ189
        have N189 := Fr.app N179 Nq189
        have O190 := O183.keep K189 (allS g_b182 all0)
        have kp191 : Keep h0 h189 [P, Wa] := kp184.trans K189 (allS (Or.inr sz_b182) all0)
        have hext : extF vs cn on p1 = ((growF vs cn).set cn p1, cn + 1, on) := (if_neg (fun q => hc8 ((own_eq (by omega) (by omega)).mpr q.1))).trans (if_pos hc52)
        have LP : Lst Z h189 n0 b182 r ((growF vs cn).set cn p1) (cn + 1) on := by
          refine ⟨g_b182, P, kP, Wa, kW, ?_, ?_, ?_, g_P, g_Wa, nPW, rP, rW⟩
          · rw [← own_add1]; exact HT189
          · have q := (((Vb174.other W179 nPW).ext E182).keep K189 (ninS (Nat.ne_of_lt lt_P_b182) nin0))
            rw [hgr, List.length_set]; exact q
          · rw [← own_add1]; exact ((Vb179.ext E182).keep K189 (ninS (Nat.ne_of_lt lt_Wa_b182) nin0))
        obtain ⟨fs, hr, hrun, hended, hW, hsame⟩ := X189.leave (v := some (.ref b182)) (fun h => by rw [Bd.returns] at h; cases h)
        refine ⟨_, _, pre0 _ ?_, hrun, hended, _, _, rfl, ?_, ⟨_, rfl⟩, hW, hsame.mono (by decide) (by decide)⟩
        · refine pf129 _ ?_
          refine pf133 _ ?_
          refine pf139 _ ?_
          refine pf143 _ ?_
          refine pf187 _ ?_
          show Steps p.tables e below (T186.setTop (mkF m 147 #[.val (.ref a1), .val (.int p1), .val (.int 0), .val (.ref a1), .val (.ref P), .val (.ref Wa)] [(.int 0), (.int ((Int32.ofNat cn) + (1 : Int32))), (.ref P), (.ref r), (.ref b182), (.ref b182)])) _
          refine XS.ifYes X186.here hx rfl (pc0 := 147) (pc' := 159) rfl (hb hby d11_147) rfl ((if0 _ _).trans (teq (by decide)).1) (by decide) (by decide) ?_
          refine XS.aloadN X186.here hx rfl (hb hby d11_159) rfl rfl ?_
          show Steps p.tables e below (T186.setTop (mkF m 160 #[.val (.ref a1), .val (.int p1), .val (.int 0), .val (.ref a1), .val (.ref P), .val (.ref Wa)] [(.ref a1), (.int ((Int32.ofNat cn) + (1 : Int32))), (.ref P), (.ref r), (.ref b182), (.ref b182)])) _
          refine st188 _ ?_
          show Steps p.tables e below (T188.setTop (mkF m 163 #[.val (.ref a1), .val (.int p1), .val (.int 0), .val (.ref a1), .val (.ref P), .val (.ref Wa)] [(.int (Int32.ofNat on)), (.int ((Int32.ofNat cn) + (1 : Int32))), (.ref P), (.ref r), (.ref b182), (.ref b182)])) _
          refine XS.aload X188.here hx rfl (hb hby d11_163) rfl rfl ?_
          show Steps p.tables e below (T188.setTop (mkF m 165 #[.val (.ref a1), .val (.int p1), .val (.int 0), .val (.ref a1), .val (.ref P), .val (.ref Wa)] [(.ref Wa), (.int (Int32.ofNat on)), (.int ((Int32.ofNat cn) + (1 : Int32))), (.ref P), (.ref r), (.ref b182), (.ref b182)])) _
          refine st189.trans ?_
          show Steps p.tables e below (T189.setTop (mkF m 168 #[.val (.ref a1), .val (.int p1), .val (.int 0), .val (.ref a1), .val (.ref P), .val (.ref Wa)] [(.ref b182)])) _
          refine XS.astoreN X189.here hx rfl (hb hby d11_168) rfl rfl (l' := #[.val (.ref a1), .val (.int p1), .val (.int 0), .val (.ref b182), .val (.ref P), .val (.ref Wa)]) rfl ?_
          refine XS.aloadN X189.here hx rfl (hb hby d11_169) rfl rfl ?_
          show Steps p.tables e below (T189.setTop (mkF m 170 #[.val (.ref a1), .val (.int p1), .val (.int 0), .val (.ref b182), .val (.ref P), .val (.ref Wa)] [(.ref b182)])) _
          exact retOut X189 hx Bd.returns rfl (Or.inr (Or.inr (Or.inr (Or.inr ⟨rfl, rfl, rfl⟩)))) (hb hby d11_170) hr
        · show Qext Z r kr ss (extF vs cn on p1) n0 _ T189.heap _
          rw [e189]
          exact ⟨b182, rfl, N189, O190, ((((VR.other W174 (Nat.ne_of_lt rP)).other W179 (Nat.ne_of_lt rW)).ext E182).keep K189 (ninS (Nat.ne_of_lt lt_r_b182) nin0)), by rw [hext]; exact LP⟩
    · have hext : extF vs cn on p1 = (vs, cn, on) := (if_neg (fun q => hc8 ((own_eq (by omega) (by omega)).mpr q.1))).trans (if_neg hc52)
      obtain ⟨fs, hr, hrun, hended, hW, hsame⟩ := X132.leave (v := some (.ref a1)) (fun h => by rw [Bd.returns] at h; cases h)
      refine ⟨_, _, pre0 _ ?_, hrun, hended, _, _, rfl, ?_, ⟨_, rfl⟩, hW, hsame.mono (by decide) (by decide)⟩
      · refine pf129 _ ?_
        refine pf133 _ ?_
        show Steps p.tables e below (T132.setTop (mkF m 52 #[.val (.ref a1), .val (.int p1), .val (.int 0), .val (.ref a1), .unset, .unset] [(.int (bsF on vs p1)), (.int 0)])) _
        refine XS.icmpYes X132.here hx rfl (pc0 := 52) (pc' := 169) rfl (hb hby d11_52) rfl (flt hc52).2.2.2 (by decide) (by decide) ?_
        refine XS.aloadN X132.here hx rfl (hb hby d11_169) rfl rfl ?_
        show Steps p.tables e below (T132.setTop (mkF m 170 #[.val (.ref a1), .val (.int p1), .val (.int 0), .val (.ref a1), .unset, .unset] [(.ref a1)])) _
        exact retOut X132 hx Bd.returns rfl (Or.inr (Or.inr (Or.inr (Or.inr ⟨rfl, rfl, rfl⟩)))) (hb hby d11_170) hr
      · show Qext Z r kr ss (extF vs cn on p1) n0 _ T132.heap _
        rw [e132]
        exact ⟨a1, rfl, N132, O0, VR, by rw [hext]; exact HL⟩
theorem d10_0 : decode prog_105_method_3_code 0 = .ok (.aload_n 0, 1) := by decide +kernel
theorem d10_1 : decode prog_105_method_3_code 1 = .ok (.getfield 30, 3) := by decide +kernel
theorem d10_4 : decode prog_105_method_3_code 4 = .ok (.astore_n 2, 1) := by decide +kernel
theorem d10_5 : decode prog_105_method_3_code 5 = .ok (.aconst_null, 1) := by decide +kernel
theorem d10_6 : decode prog_105_method_3_code 6 = .ok (.aload_n 2, 1) := by decide +kernel
theorem d10_7 : decode prog_105_method_3_code 7 = .ok (.if_acmp .ne 11, 3) := by decide +kernel
theorem d10_10 : decode prog_105_method_3_code 10 = .ok (.aload_n 0, 1) := by decide +kernel
theorem d10_11 : decode prog_105_method_3_code 11 = .ok (.iload_n 1, 1) := by decide +kernel
theorem d10_12 : decode prog_105_method_3_code 12 = .ok (.invokevirtual 34, 3) := by decide +kernel
theorem pd9 : parseMethodDescriptor "(I)Lcom/example/rivet_context/rivetcontext/factory/TypeListing;" = some ⟨[.int], some (.object "com/example/rivet_context/rivetcontext/factory/TypeListing")⟩ := by decide +kernel
theorem d10_15 : decode prog_105_method_3_code 15 = .ok (.goto 8, 3) := by decide +kernel
theorem d10_23 : decode prog_105_method_3_code 23 = .ok (.areturn, 1) := by decide +kernel
theorem ef_rmwi (m : MethodId) (x0 : Addr) (x1 : Int32) : entryFrame m #[(.ref x0), (.int x1)] 3 = mkF m 0 #[.val (.ref x0), .val (.int x1), .unset] [] := by first | (simp [entryFrame, mkF, argsToLocals, Value.category]; done) | rfl
set_option maxRecDepth 65536 in
set_option maxHeartbeats 40000000 in
theorem rmwi (l : Launch) (Z : State) (a0 : Array Value) (hw : ∀ d ∈ tables_1, d.before a0 Z = true) (ws : List Jvm.Cond) (a1 : Addr) (r : Addr) (kr : ClassId) (ss : List Addr) (vs : List Int32) (cn : Nat) (on : Nat) (p1 : Int32) (h0 : Heap) (n0 : Nat) (O0 : Old Z n0 h0) (HL : Lst Z h0 n0 a1 r vs cn on) (VR : Arv Z h0 r kr (.object "java/lang/String") (4 : Int32) (ss.map Value.ref) .null) (ho1 : 1 ≤ on) (hoc : on ≤ cn) (hc3 : cn ≤ 3) (hcv : cn ≤ vs.length) (hv : vs.length ≤ 4) :
    MetFree l (⟨"com/example/rivet_context/rivetcontext/factory/TypeListing", "with", "(I)Lcom/example/rivet_context/rivetcontext/factory/TypeListing;"⟩ : MethodName) (head1 (Jvm.Cond.code (⟨"com/example/rivet_context/rivetcontext/factory/TypeListing", "with", "(I)Lcom/example/rivet_context/rivetcontext/factory/TypeListing;"⟩ : MethodName) prog_105_method_3_code 3 (some (.object "com/example/rivet_context/rivetcontext/factory/TypeListing")) :: ws) ({ frames := 5, cells := 3, slots := 16, locals := 71 } : Room)) (fun a U => a = #[(.ref a1), (.int p1)] ∧ Z.Warmed39 U.vm ∧ U.heap = h0) (fun _ _ _ _ _ => True) (fun _ U o U' => ∃ v L, o = .returned v ∧ Qext Z r kr ss (extF vs cn on p1) n0 v U'.heap L ∧ FrameEnd U o U' L ({ frames := 5, cells := 3, slots := 16, locals := 71 } : Room).cells ({ frames := 5, cells := 3, slots := 16, locals := 71 } : Room).slots) := by
  refine MetFree.of_bodySF (plainFor_of_name pn4) hisR ?_
  intro p e s m args below meth c s₁ Bd hml0 hP hK
  obtain ⟨rfl, hZ, hh⟩ := hP
  have hx := Bd.exec
  have hby := Bd.bytes
  have hml : c.maxLocals = 3 := hml0
  have hown : s.vm.findClass "com/example/rivet_context/rivetcontext/factory/TypeListing" = some m.cls := findClass_of_methodNamed Bd.named
  have hnm := (name_of_methodNamed Bd.named Bd.method).1
  have X0 : Stand p l e ({ frames := 5, cells := 3, slots := 16, locals := 71 } : Room) s m #[(.ref a1), (.int p1)] below meth c s₁ [] 0 0 := Stand.of_body Bd
  have e0 : s₁.heap = h0 := by rw [← hh, Bd.state]; rfl
  have N0 := Fr.nil n0
  have pre0 : ∀ t, Steps p.tables e below (s₁.setTop (mkF m 0 #[.val (.ref a1), .val (.int p1), .unset] [])) t → Steps p.tables e below (s₁.setTop (entryFrame m #[(.ref a1), (.int p1)] 3)) t := fun t k => castTop (ef_rmwi m a1 p1) k
  obtain ⟨g_a1, P, kP, Wa, kW, HT, VP, VW, g_P, g_Wa, nPW, rP, rW⟩ := id HL
  obtain ⟨E_a, F_r, F_p, F_c, F_o, F_w, F_i⟩ := id HT
  have VW : Arv Z h0 Wa kW .int (1 : Int32) ([Int32.ofNat cn].map Value.int) (.int 0) := VW
  have hNP : (Int32.ofNat vs.length).toNatClampNeg = vs.length := own_n (by omega)
  have hNW : (1 : Int32).toNatClampNeg = [Int32.ofNat cn].length := by rw [List.length_singleton]; decide
  have n_a1_P : a1 ≠ P := Exa.neArv E_a VP (hw _ (List.mem_of_getElem? (i := 29) rfl))
  have lt_P := VP.lt
  have n_a1_Wa : a1 ≠ Wa := Exa.neArv E_a VW (hw _ (List.mem_of_getElem? (i := 29) rfl))
  have lt_Wa := VW.lt
  have n_a1_r : a1 ≠ r := Exa.neArv E_a VR (hw _ (List.mem_of_getElem? (i := 29) rfl))
  have lt_r := VR.lt
  have lt_a1 := E_a.lt
  obtain ⟨T1, X1, e1, st1⟩ := getF X0 hx hZ hown (host := "") (Or.inl (hw _ (List.mem_of_getElem? (i := 67) rfl))) Via.refl e0 F_i (g := (mkF m 1 #[.val (.ref a1), .val (.int p1), .unset] [(.ref a1)])) rfl rfl (hb hby d10_1)
  have pf2 : ∀ target, Steps p.tables e below (T1.setTop (mkF m 7 #[.val (.ref a1), .val (.int p1), .val .null] [.null, .null])) target → Steps p.tables e below (s₁.setTop (mkF m 0 #[.val (.ref a1), .val (.int p1), .unset] [])) target := by
    intro target k
    show Steps p.tables e below (s₁.setTop (mkF m 0 #[.val (.ref a1), .val (.int p1), .unset] [])) _
    refine XS.aloadN X0.here hx rfl (hb hby d10_0) rfl rfl ?_
    show Steps p.tables e below (s₁.setTop (mkF m 1 #[.val (.ref a1), .val (.int p1), .unset] [(.ref a1)])) _
    refine st1 _ ?_
    show Steps p.tables e below (T1.setTop (mkF m 4 #[.val (.ref a1), .val (.int p1), .unset] [.null])) _
    refine XS.astoreN X1.here hx rfl (hb hby d10_4) rfl rfl (l' := #[.val (.ref a1), .val (.int p1), .val .null]) rfl ?_
    refine XS.aconstNull X1.here hx rfl (hb hby d10_5) ?_
    refine XS.aloadN X1.here hx rfl (hb hby d10_6) rfl rfl ?_
    exact k
  obtain ⟨cq3, qa3, qb3⟩ := (E_a).cell
  obtain ⟨_, _, ⟨T3, L3, k3, n3⟩, -, X3, ⟨Lc3, hQ3, l3, y3, z3⟩, st3⟩ := X1.privateBack hx (y := (⟨"com/example/rivet_context/rivetcontext/factory/TypeListing", "extendedBy", "(I)Lcom/example/rivet_context/rivetcontext/factory/TypeListing;"⟩ : MethodName)) hown (mvT hZ (hw _ (List.mem_of_getElem? (i := 69) rfl))) (mvT hZ (hw _ (List.mem_of_getElem? (i := 70) rfl))) (own_selP hZ (hw _ (List.mem_of_getElem? (i := 29) rfl)) (hw _ (List.mem_of_getElem? (i := 71) rfl)) (hw _ (List.mem_of_getElem? (i := 70) rfl))) (Cond.privateMethod_at (mvP hZ (hw _ (List.mem_of_getElem? (i := 71) rfl)) (args := #[]))) (mvT hZ (hw _ (List.mem_of_getElem? (i := 72) rfl))) (by decide) (backOf (W := 0) (rmext l Z a0 hw [] a1 r kr ss vs cn on p1 h0 n0 O0 HL VR ho1 hoc hc3 hcv hv) hZ (hw _ (List.mem_of_getElem? (i := 72) rfl)) (hw _ (List.mem_of_getElem? (i := 30) rfl)) (by decide) (by decide)) (g := (mkF m 12 #[.val (.ref a1), .val (.int p1), .val .null] [(.int p1), (.ref a1)])) rfl (by rw [hml]; rfl) (Steps.refl _) (a := a1) (by rw [e1]; exact qa3) qb3 (argsL := [(.int p1)]) (rest := []) (lenOf pd9 rfl) rfl (by show 2 * 0 + _ ≤ _; exact Nat.le_of_eq rfl) (hb hby d10_12) (fun _ _ => ⟨rfl, e1, (by decide : 0 + 3 ≤ _), (by decide : 0 + 16 ≤ _)⟩)
  dsimp only [Pt.U, Pt.locs, Pt.cells, Pt.slots] at X3 l3 y3 z3 st3 hQ3
  subst l3 y3 z3
  obtain ⟨h3, e3⟩ : ∃ z, T3.heap = z := ⟨_, rfl⟩
  rw [e3] at hQ3
  obtain ⟨x3, rfl, Nq3, Oq3, Vr3, Lq3⟩ := hQ3
  have N3 := Fr.app N0 Nq3
  obtain ⟨fs, hr, hrun, hended, hW, hsame⟩ := X3.leave (v := some (.ref x3)) (fun h => by rw [Bd.returns] at h; cases h)
  refine ⟨_, _, pre0 _ ?_, hrun, hended, _, _, rfl, ?_, ⟨_, rfl⟩, hW, hsame.mono (by decide) (by decide)⟩
  · refine pf2 _ ?_
    show Steps p.tables e below (T1.setTop (mkF m 7 #[.val (.ref a1), .val (.int p1), .val .null] [.null, .null])) _
    refine Jvm.RoadKit.acmp (g := (mkF m 7 #[.val (.ref a1), .val (.int p1), .val .null] [.null, .null])) X1 hx rfl rfl rfl (pc0 := 7) (pc' := 10) (same := true) rfl (hb hby d10_7) rfl (decide_eq_true rfl) (by decide) (by decide) ?_
    show Steps p.tables e below (T1.setTop (mkF m 10 #[.val (.ref a1), .val (.int p1), .val .null] [])) _
    refine XS.aloadN X1.here hx rfl (hb hby d10_10) rfl rfl ?_
    refine XS.iloadN X1.here hx rfl (hb hby d10_11) rfl ?_
    show Steps p.tables e below (T1.setTop (mkF m 12 #[.val (.ref a1), .val (.int p1), .val .null] [(.int p1), (.ref a1)])) _
    refine st3.trans ?_
    show Steps p.tables e below (T3.setTop (mkF m 15 #[.val (.ref a1), .val (.int p1), .val .null] [(.ref x3)])) _
    refine XS.goto X3.here hx rfl (pc0 := 15) (pc' := 23) rfl (hb hby d10_15) (by decide) (by decide) ?_
    show Steps p.tables e below (T3.setTop (mkF m 23 #[.val (.ref a1), .val (.int p1), .val .null] [(.ref x3)])) _
    exact retOut X3 hx Bd.returns rfl (Or.inr (Or.inr (Or.inr (Or.inr ⟨rfl, rfl, rfl⟩)))) (hb hby d10_23) hr
  · show Qext Z r kr ss (extF vs cn on p1) n0 _ T3.heap _
    rw [e3]
    exact ⟨_, rfl, N3, Oq3, Vr3, Lq3⟩
theorem pn6 : plainName "jdk/internal/util/Preconditions" = true := by first | (simp [plainName, overriddenIn]; done) | decide +kernel
theorem d19_0 : decode jdk_41_method_11_code 0 = .ok (.iload_n 0, 1) := by decide +kernel
theorem d19_1 : decode jdk_41_method_11_code 1 = .ok (.ifCond .lt 8, 3) := by decide +kernel
theorem d19_4 : decode jdk_41_method_11_code 4 = .ok (.iload_n 0, 1) := by decide +kernel
theorem d19_5 : decode jdk_41_method_11_code 5 = .ok (.iload_n 1, 1) := by decide +kernel
theorem d19_6 : decode jdk_41_method_11_code 6 = .ok (.if_icmp .lt 10, 3) := by decide +kernel
theorem d19_16 : decode jdk_41_method_11_code 16 = .ok (.iload_n 0, 1) := by decide +kernel
theorem d19_17 : decode jdk_41_method_11_code 17 = .ok (.ireturn, 1) := by decide +kernel
theorem ef_rmpc (m : MethodId) (x0 : Int32) (x1 : Int32) : entryFrame m #[(.int x0), (.int x1), .null] 3 = mkF m 0 #[.val (.int x0), .val (.int x1), .val .null] [] := by first | (simp [entryFrame, mkF, argsToLocals, Value.category]; done) | rfl
set_option maxRecDepth 65536 in
set_option maxHeartbeats 40000000 in
theorem rmpc (l : Launch) (Z : State) (a0 : Array Value) (hw : ∀ d ∈ tables_1, d.before a0 Z = true) (ws : List Jvm.Cond) (p1 : Int32) (p2 : Int32) (h0 : Heap) (n0 : Nat) (O0 : Old Z n0 h0) (h1 : ¬ p1 < 0) (h2 : p1 < p2) :
    MetFree l (⟨"jdk/internal/util/Preconditions", "checkIndex", "(IILjava/util/function/BiFunction;)I"⟩ : MethodName) (head1 (Jvm.Cond.code (⟨"jdk/internal/util/Preconditions", "checkIndex", "(IILjava/util/function/BiFunction;)I"⟩ : MethodName) jdk_41_method_11_code 3 (some .int) :: ws) ({ frames := 0, cells := 0, slots := 0, locals := 0 } : Room)) (fun a U => a = #[(.int p1), (.int p2), .null] ∧ Z.Warmed39 U.vm ∧ U.heap = h0) (fun _ _ _ _ _ => True) (fun _ U o U' => ∃ v L, o = .returned v ∧ Qpure (some (.int p1)) h0 n0 v U'.heap L ∧ FrameEnd U o U' L ({ frames := 0, cells := 0, slots := 0, locals := 0 } : Room).cells ({ frames := 0, cells := 0, slots := 0, locals := 0 } : Room).slots) := by
  refine MetFree.of_bodySF (plainFor_of_name pn6) hisR ?_
  intro p e s m args below meth c s₁ Bd hml0 hP hK
  obtain ⟨rfl, hZ, hh⟩ := hP
  have hx := Bd.exec
  have hby := Bd.bytes
  have hml : c.maxLocals = 3 := hml0
  have hown : s.vm.findClass "jdk/internal/util/Preconditions" = some m.cls := findClass_of_methodNamed Bd.named
  have hnm := (name_of_methodNamed Bd.named Bd.method).1
  have X0 : Stand p l e ({ frames := 0, cells := 0, slots := 0, locals := 0 } : Room) s m #[(.int p1), (.int p2), .null] below meth c s₁ [] 0 0 := Stand.of_body Bd
  have e0 : s₁.heap = h0 := by rw [← hh, Bd.state]; rfl
  have N0 := Fr.nil n0
  have pre0 : ∀ t, Steps p.tables e below (s₁.setTop (mkF m 0 #[.val (.int p1), .val (.int p2), .val .null] [])) t → Steps p.tables e below (s₁.setTop (entryFrame m #[(.int p1), (.int p2), .null] 3)) t := fun t k => castTop (ef_rmpc m p1 p2) k
  obtain ⟨fs, hr, hrun, hended, hW, hsame⟩ := X0.leave (v := some (.int p1)) (fun h => by rw [Bd.returns] at h; cases h)
  refine ⟨_, _, pre0 _ ?_, hrun, hended, _, _, rfl, ?_, ⟨_, rfl⟩, hW, hsame.mono (by decide) (by decide)⟩
  · show Steps p.tables e below (s₁.setTop (mkF m 0 #[.val (.int p1), .val (.int p2), .val .null] [])) _
    refine XS.iloadN X0.here hx rfl (hb hby d19_0) rfl ?_
    refine XS.ifNo X0.here hx rfl (hb hby d19_1) rfl ((if0 _ _).trans (flt h1).1) ?_
    refine XS.iloadN X0.here hx rfl (hb hby d19_4) rfl ?_
    refine XS.iloadN X0.here hx rfl (hb hby d19_5) rfl ?_
    refine XS.icmpYes X0.here hx rfl (pc0 := 6) (pc' := 16) rfl (hb hby d19_6) rfl (tlt h2).1 (by decide) (by decide) ?_
    refine XS.iloadN X0.here hx rfl (hb hby d19_16) rfl ?_
    show Steps p.tables e below (s₁.setTop (mkF m 17 #[.val (.int p1), .val (.int p2), .val .null] [(.int p1)])) _
    exact retI X0 hx Bd.returns (hb hby d19_17) hr
  · show Qpure (some (.int p1)) h0 n0 _ s₁.heap _
    rw [e0]
    exact ⟨rfl, N0, rfl⟩
theorem pn7 : plainName "java/util/Objects" = true := by first | (simp [plainName, overriddenIn]; done) | decide +kernel
theorem d18_0 : decode jdk_31_method_17_code 0 = .ok (.iload_n 0, 1) := by decide +kernel
theorem d18_1 : decode jdk_31_method_17_code 1 = .ok (.iload_n 1, 1) := by decide +kernel
theorem d18_2 : decode jdk_31_method_17_code 2 = .ok (.aconst_null, 1) := by decide +kernel
theorem d18_3 : decode jdk_31_method_17_code 3 = .ok (.invokestatic 105, 3) := by decide +kernel
theorem pd10 : parseMethodDescriptor "(IILjava/util/function/BiFunction;)I" = some ⟨[.int, .int, (.object "java/util/function/BiFunction")], some .int⟩ := by decide +kernel
theorem d18_6 : decode jdk_31_method_17_code 6 = .ok (.ireturn, 1) := by decide +kernel
theorem ef_rmoc (m : MethodId) (x0 : Int32) (x1 : Int32) : entryFrame m #[(.int x0), (.int x1)] 2 = mkF m 0 #[.val (.int x0), .val (.int x1)] [] := by first | (simp [entryFrame, mkF, argsToLocals, Value.category]; done) | rfl
set_option maxRecDepth 65536 in
set_option maxHeartbeats 40000000 in
theorem rmoc (l : Launch) (Z : State) (a0 : Array Value) (hw : ∀ d ∈ tables_1, d.before a0 Z = true) (ws : List Jvm.Cond) (p1 : Int32) (p2 : Int32) (h0 : Heap) (n0 : Nat) (O0 : Old Z n0 h0) (h1 : ¬ p1 < 0) (h2 : p1 < p2) :
    MetFree l (⟨"java/util/Objects", "checkIndex", "(II)I"⟩ : MethodName) (head1 (Jvm.Cond.code (⟨"java/util/Objects", "checkIndex", "(II)I"⟩ : MethodName) jdk_31_method_17_code 2 (some .int) :: ws) ({ frames := 1, cells := 0, slots := 0, locals := 14 } : Room)) (fun a U => a = #[(.int p1), (.int p2)] ∧ Z.Warmed39 U.vm ∧ U.heap = h0) (fun _ _ _ _ _ => True) (fun _ U o U' => ∃ v L, o = .returned v ∧ Qpure (some (.int p1)) h0 n0 v U'.heap L ∧ FrameEnd U o U' L ({ frames := 1, cells := 0, slots := 0, locals := 14 } : Room).cells ({ frames := 1, cells := 0, slots := 0, locals := 14 } : Room).slots) := by
  refine MetFree.of_bodySF (plainFor_of_name pn7) hisR ?_
  intro p e s m args below meth c s₁ Bd hml0 hP hK
  obtain ⟨rfl, hZ, hh⟩ := hP
  have hx := Bd.exec
  have hby := Bd.bytes
  have hml : c.maxLocals = 2 := hml0
  have hown : s.vm.findClass "java/util/Objects" = some m.cls := findClass_of_methodNamed Bd.named
  have hnm := (name_of_methodNamed Bd.named Bd.method).1
  have X0 : Stand p l e ({ frames := 1, cells := 0, slots := 0, locals := 14 } : Room) s m #[(.int p1), (.int p2)] below meth c s₁ [] 0 0 := Stand.of_body Bd
  have e0 : s₁.heap = h0 := by rw [← hh, Bd.state]; rfl
  have N0 := Fr.nil n0
  have pre0 : ∀ t, Steps p.tables e below (s₁.setTop (mkF m 0 #[.val (.int p1), .val (.int p2)] [])) t → Steps p.tables e below (s₁.setTop (entryFrame m #[(.int p1), (.int p2)] 2)) t := fun t k => castTop (ef_rmoc m p1 p2) k
  obtain ⟨_, _, ⟨T1, L1, k1, n1⟩, -, X1, ⟨Lc1, hQ1, l1, y1, z1⟩, st1⟩ := Jvm.LawKit.callS X0 hx (y := (⟨"jdk/internal/util/Preconditions", "checkIndex", "(IILjava/util/function/BiFunction;)I"⟩ : MethodName)) hown (mvT hZ (hw _ (List.mem_of_getElem? (i := 104) rfl))) (mvT hZ (hw _ (List.mem_of_getElem? (i := 105) rfl))) (mvT hZ (hw _ (List.mem_of_getElem? (i := 106) rfl))) (mvT hZ (hw _ (List.mem_of_getElem? (i := 107) rfl))) (by decide) (backOf (W := 0) (rmpc l Z a0 hw [] p1 p2 h0 n0 O0 h1 h2) hZ (hw _ (List.mem_of_getElem? (i := 107) rfl)) (hw _ (List.mem_of_getElem? (i := 106) rfl)) (by decide) (by decide)) (g := (mkF m 3 #[.val (.int p1), .val (.int p2)] [.null, (.int p2), (.int p1)])) rfl (by rw [hml]; rfl) (argsL := [(.int p1), (.int p2), .null]) (rest := []) (lenOf pd10 rfl) rfl (by show 2 * 0 + _ ≤ _; exact Nat.le_of_eq rfl) (hb hby d18_3) (fun _ _ => ⟨rfl, e0, (by decide : 0 + 0 ≤ _), (by decide : 0 + 0 ≤ _)⟩)
  dsimp only [Pt.U, Pt.locs, Pt.cells, Pt.slots] at X1 l1 y1 z1 st1 hQ1
  subst l1 y1 z1
  obtain ⟨rfl, Nq1, e1⟩ := hQ1
  have N1 := Fr.app N0 Nq1
  obtain ⟨fs, hr, hrun, hended, hW, hsame⟩ := X1.leave (v := some (.int p1)) (fun h => by rw [Bd.returns] at h; cases h)
  refine ⟨_, _, pre0 _ ?_, hrun, hended, _, _, rfl, ?_, ⟨_, rfl⟩, hW, hsame.mono (by decide) (by decide)⟩
  · show Steps p.tables e below (s₁.setTop (mkF m 0 #[.val (.int p1), .val (.int p2)] [])) _
    refine XS.iloadN X0.here hx rfl (hb hby d18_0) rfl ?_
    refine XS.iloadN X0.here hx rfl (hb hby d18_1) rfl ?_
    refine XS.aconstNull X0.here hx rfl (hb hby d18_2) ?_
    show Steps p.tables e below (s₁.setTop (mkF m 3 #[.val (.int p1), .val (.int p2)] [.null, (.int p2), (.int p1)])) _
    refine st1 _ ?_
    show Steps p.tables e below (T1.setTop (mkF m 6 #[.val (.int p1), .val (.int p2)] [(.int p1)])) _
    exact retI X1 hx Bd.returns (hb hby d18_6) hr
  · show Qpure (some (.int p1)) h0 n0 _ T1.heap _
    rw [e1]
    exact ⟨rfl, N1, rfl⟩
theorem d17_0 : decode prog_105_method_7_code 0 = .ok (.aload_n 0, 1) := by decide +kernel
theorem d17_1 : decode prog_105_method_7_code 1 = .ok (.getfield 12, 3) := by decide +kernel
theorem d17_4 : decode prog_105_method_7_code 4 = .ok (.aload_n 0, 1) := by decide +kernel
theorem d17_5 : decode prog_105_method_7_code 5 = .ok (.getfield 16, 3) := by decide +kernel
theorem d17_8 : decode prog_105_method_7_code 8 = .ok (.iload_n 1, 1) := by decide +kernel
theorem d17_9 : decode prog_105_method_7_code 9 = .ok (.aload_n 0, 1) := by decide +kernel
theorem d17_10 : decode prog_105_method_7_code 10 = .ok (.getfield 24, 3) := by decide +kernel
theorem d17_13 : decode prog_105_method_7_code 13 = .ok (.invokestatic 60, 3) := by decide +kernel
theorem d17_16 : decode prog_105_method_7_code 16 = .ok (.iaload, 1) := by decide +kernel
theorem d17_17 : decode prog_105_method_7_code 17 = .ok (.aaload, 1) := by decide +kernel
theorem d17_18 : decode prog_105_method_7_code 18 = .ok (.areturn, 1) := by decide +kernel
theorem ef_rmget (m : MethodId) (x0 : Addr) (x1 : Int32) : entryFrame m #[(.ref x0), (.int x1)] 2 = mkF m 0 #[.val (.ref x0), .val (.int x1)] [] := by first | (simp [entryFrame, mkF, argsToLocals, Value.category]; done) | rfl
set_option maxRecDepth 65536 in
set_option maxHeartbeats 40000000 in
theorem rmget (l : Launch) (Z : State) (a0 : Array Value) (hw : ∀ d ∈ tables_1, d.before a0 Z = true) (ws : List Jvm.Cond) (a1 : Addr) (r : Addr) (kr : ClassId) (ss : List Addr) (vs : List Int32) (cn : Nat) (on : Nat) (iN : Nat) (qn : Nat) (h0 : Heap) (n0 : Nat) (O0 : Old Z n0 h0) (HL : Lst Z h0 n0 a1 r vs cn on) (VR : Arv Z h0 r kr (.object "java/lang/String") (4 : Int32) (ss.map Value.ref) .null) (hoc : on ≤ cn) (hcv : cn ≤ vs.length) (hv : vs.length ≤ 8) (hi : iN < on) (hss : ss.length = 4) (hq : vs.getD iN 0 = Int32.ofNat qn) (hq4 : qn < 4) :
    MetFree l (⟨"com/example/rivet_context/rivetcontext/factory/TypeListing", "get", "(I)Ljava/lang/String;"⟩ : MethodName) (head1 (Jvm.Cond.code (⟨"com/example/rivet_context/rivetcontext/factory/TypeListing", "get", "(I)Ljava/lang/String;"⟩ : MethodName) prog_105_method_7_code 2 (some (.object "java/lang/String")) :: ws) ({ frames := 2, cells := 0, slots := 0, locals := 29 } : Room)) (fun a U => a = #[(.ref a1), (.int (Int32.ofNat iN))] ∧ Z.Warmed39 U.vm ∧ U.heap = h0) (fun _ _ _ _ _ => True) (fun _ U o U' => ∃ v L, o = .returned v ∧ Qpure (some (.ref (ss.getD qn 0))) h0 n0 v U'.heap L ∧ FrameEnd U o U' L ({ frames := 2, cells := 0, slots := 0, locals := 29 } : Room).cells ({ frames := 2, cells := 0, slots := 0, locals := 29 } : Room).slots) := by
  refine MetFree.of_bodySF (plainFor_of_name pn4) hisR ?_
  intro p e s m args below meth c s₁ Bd hml0 hP hK
  obtain ⟨rfl, hZ, hh⟩ := hP
  have hx := Bd.exec
  have hby := Bd.bytes
  have hml : c.maxLocals = 2 := hml0
  have hown : s.vm.findClass "com/example/rivet_context/rivetcontext/factory/TypeListing" = some m.cls := findClass_of_methodNamed Bd.named
  have hnm := (name_of_methodNamed Bd.named Bd.method).1
  have X0 : Stand p l e ({ frames := 2, cells := 0, slots := 0, locals := 29 } : Room) s m #[(.ref a1), (.int (Int32.ofNat iN))] below meth c s₁ [] 0 0 := Stand.of_body Bd
  have e0 : s₁.heap = h0 := by rw [← hh, Bd.state]; rfl
  have N0 := Fr.nil n0
  have pre0 : ∀ t, Steps p.tables e below (s₁.setTop (mkF m 0 #[.val (.ref a1), .val (.int (Int32.ofNat iN))] [])) t → Steps p.tables e below (s₁.setTop (entryFrame m #[(.ref a1), (.int (Int32.ofNat iN))] 2)) t := fun t k => castTop (ef_rmget m a1 (Int32.ofNat iN)) k
  obtain ⟨g_a1, P, kP, Wa, kW, HT, VP, VW, g_P, g_Wa, nPW, rP, rW⟩ := id HL
  obtain ⟨E_a, F_r, F_p, F_c, F_o, F_w, F_i⟩ := id HT
  have VW : Arv Z h0 Wa kW .int (1 : Int32) ([Int32.ofNat cn].map Value.int) (.int 0) := VW
  have hNP : (Int32.ofNat vs.length).toNatClampNeg = vs.length := own_n (by omega)
  have hNW : (1 : Int32).toNatClampNeg = [Int32.ofNat cn].length := by rw [List.length_singleton]; decide
  have n_a1_P : a1 ≠ P := Exa.neArv E_a VP (hw _ (List.mem_of_getElem? (i := 29) rfl))
  have lt_P := VP.lt
  have n_a1_Wa : a1 ≠ Wa := Exa.neArv E_a VW (hw _ (List.mem_of_getElem? (i := 29) rfl))
  have lt_Wa := VW.lt
  have n_a1_r : a1 ≠ r := Exa.neArv E_a VR (hw _ (List.mem_of_getElem? (i := 29) rfl))
  have lt_r := VR.lt
  have lt_a1 := E_a.lt
  obtain ⟨T1, X1, e1, st1⟩ := getF X0 hx hZ hown (host := "") (Or.inl (hw _ (List.mem_of_getElem? (i := 52) rfl))) Via.refl e0 F_r (g := (mkF m 1 #[.val (.ref a1), .val (.int (Int32.ofNat iN))] [(.ref a1)])) rfl rfl (hb hby d17_1)
  obtain ⟨T2, X2, e2, st2⟩ := getF X1 hx hZ hown (host := "") (Or.inl (hw _ (List.mem_of_getElem? (i := 54) rfl))) Via.refl e1 F_p (g := (mkF m 5 #[.val (.ref a1), .val (.int (Int32.ofNat iN))] [(.ref a1), (.ref r)])) rfl rfl (hb hby d17_5)
  obtain ⟨T3, X3, e3, st3⟩ := getF X2 hx hZ hown (host := "") (Or.inl (hw _ (List.mem_of_getElem? (i := 58) rfl))) Via.refl e2 F_o (g := (mkF m 10 #[.val (.ref a1), .val (.int (Int32.ofNat iN))] [(.ref a1), (.int (Int32.ofNat iN)), (.ref P), (.ref r)])) rfl rfl (hb hby d17_10)
  obtain ⟨_, _, ⟨T4, L4, k4, n4⟩, -, X4, ⟨Lc4, hQ4, l4, y4, z4⟩, st4⟩ := Jvm.LawKit.callS X3 hx (y := (⟨"java/util/Objects", "checkIndex", "(II)I"⟩ : MethodName)) hown (mvT hZ (hw _ (List.mem_of_getElem? (i := 100) rfl))) (mvT hZ (hw _ (List.mem_of_getElem? (i := 101) rfl))) (mvT hZ (hw _ (List.mem_of_getElem? (i := 102) rfl))) (mvT hZ (hw _ (List.mem_of_getElem? (i := 103) rfl))) (by decide) (backOf (W := 2) (rmoc l Z a0 hw [] (Int32.ofNat iN) (Int32.ofNat on) h0 n0 O0 (own_nn (by omega)) ((own_lt (by omega) (by omega)).mpr hi)) hZ (hw _ (List.mem_of_getElem? (i := 103) rfl)) (hw _ (List.mem_of_getElem? (i := 102) rfl)) (by decide) (by decide)) (g := (mkF m 13 #[.val (.ref a1), .val (.int (Int32.ofNat iN))] [(.int (Int32.ofNat on)), (.int (Int32.ofNat iN)), (.ref P), (.ref r)])) rfl (by rw [hml]; rfl) (argsL := [(.int (Int32.ofNat iN)), (.int (Int32.ofNat on))]) (rest := [(.ref P), (.ref r)]) (lenOf pd7 rfl) rfl (by show 2 * 0 + _ ≤ _; exact Nat.le_of_eq rfl) (hb hby d17_13) (fun _ _ => ⟨rfl, e3, (by decide : 0 + 0 ≤ _), (by decide : 0 + 0 ≤ _)⟩)
  dsimp only [Pt.U, Pt.locs, Pt.cells, Pt.slots] at X4 l4 y4 z4 st4 hQ4
  subst l4 y4 z4
  obtain ⟨rfl, Nq4, e4⟩ := hQ4
  have N4 := Fr.app N0 Nq4
  obtain ⟨cl5, Ar5, hin5, hat5⟩ := own_at (j := (Int32.ofNat iN)) (i := iN) VP hNP (own_nn (by omega)) (own_n (by omega)) (by omega)
  obtain ⟨cl6, Ar6, hin6, hat6⟩ := own_atR (j := (vs.getD iN 0)) (q := qn) VR hss hq hq4
  obtain ⟨fs, hr, hrun, hended, hW, hsame⟩ := X4.leave (v := some (.ref (ss.getD qn 0))) (fun h => by rw [Bd.returns] at h; cases h)
  refine ⟨_, _, pre0 _ ?_, hrun, hended, _, _, rfl, ?_, ⟨_, rfl⟩, hW, hsame.mono (by decide) (by decide)⟩
  · show Steps p.tables e below (s₁.setTop (mkF m 0 #[.val (.ref a1), .val (.int (Int32.ofNat iN))] [])) _
    refine XS.aloadN X0.here hx rfl (hb hby d17_0) rfl rfl ?_
    show Steps p.tables e below (s₁.setTop (mkF m 1 #[.val (.ref a1), .val (.int (Int32.ofNat iN))] [(.ref a1)])) _
    refine st1 _ ?_
    show Steps p.tables e below (T1.setTop (mkF m 4 #[.val (.ref a1), .val (.int (Int32.ofNat iN))] [(.ref r)])) _
    refine XS.aloadN X1.here hx rfl (hb hby d17_4) rfl rfl ?_
    show Steps p.tables e below (T1.setTop (mkF m 5 #[.val (.ref a1), .val (.int (Int32.ofNat iN))] [(.ref a1), (.ref r)])) _
    refine st2 _ ?_
    show Steps p.tables e below (T2.setTop (mkF m 8 #[.val (.ref a1), .val (.int (Int32.ofNat iN))] [(.ref P), (.ref r)])) _
    refine XS.iloadN X2.here hx rfl (hb hby d17_8) rfl ?_
    refine XS.aloadN X2.here hx rfl (hb hby d17_9) rfl rfl ?_
    show Steps p.tables e below (T2.setTop (mkF m 10 #[.val (.ref a1), .val (.int (Int32.ofNat iN))] [(.ref a1), (.int (Int32.ofNat iN)), (.ref P), (.ref r)])) _
    refine st3 _ ?_
    show Steps p.tables e below (T3.setTop (mkF m 13 #[.val (.ref a1), .val (.int (Int32.ofNat iN))] [(.int (Int32.ofNat on)), (.int (Int32.ofNat iN)), (.ref P), (.ref r)])) _
    refine st4 _ ?_
    show Steps p.tables e below (T4.setTop (mkF m 16 #[.val (.ref a1), .val (.int (Int32.ofNat iN))] [(.int (Int32.ofNat iN)), (.ref P), (.ref r)])) _
    refine X4.iaload hx (j := (Int32.ofNat iN)) (v := (.int (vs.getD iN 0))) (by rw [e4]; exact Ar5.1) (State.isArrayOf_alike hZ.alike Ar5.2.1) Ar5.2.2 hin5 hat5 (g := (mkF m 16 #[.val (.ref a1), .val (.int (Int32.ofNat iN))] [(.int (Int32.ofNat iN)), (.ref P), (.ref r)])) rfl rfl (hb hby d17_16) _ ?_
    show Steps p.tables e below (T4.setTop (mkF m 17 #[.val (.ref a1), .val (.int (Int32.ofNat iN))] [(.int (vs.getD iN 0)), (.ref r)])) _
    refine X4.aaload hx (j := (vs.getD iN 0)) (v := (.ref (ss.getD qn 0))) (by rw [e4]; exact Ar6.1) (State.isArrayOf_alike hZ.alike Ar6.2.1) rfl Ar6.2.2 hin6 hat6 (g := (mkF m 17 #[.val (.ref a1), .val (.int (Int32.ofNat iN))] [(.int (vs.getD iN 0)), (.ref r)])) rfl rfl (hb hby d17_17) _ ?_
    show Steps p.tables e below (T4.setTop (mkF m 18 #[.val (.ref a1), .val (.int (Int32.ofNat iN))] [(.ref (ss.getD qn 0))])) _
    exact retOut X4 hx Bd.returns rfl (Or.inr (Or.inr (Or.inr (Or.inr ⟨rfl, rfl, rfl⟩)))) (hb hby d17_18) hr
  · show Qpure (some (.ref (ss.getD qn 0))) h0 n0 _ T4.heap _
    rw [e4]
    exact ⟨rfl, N4, rfl⟩
theorem d29_0 : decode prog_105_method_8_code 0 = .ok (.aload_n 0, 1) := by decide +kernel
theorem d29_1 : decode prog_105_method_8_code 1 = .ok (.getfield 24, 3) := by decide +kernel
theorem d29_4 : decode prog_105_method_8_code 4 = .ok (.ireturn, 1) := by decide +kernel
theorem ef_rmsz (m : MethodId) (x0 : Addr) : entryFrame m #[(.ref x0)] 1 = mkF m 0 #[.val (.ref x0)] [] := by first | (simp [entryFrame, mkF, argsToLocals, Value.category]; done) | rfl
set_option maxRecDepth 65536 in
set_option maxHeartbeats 40000000 in
theorem rmsz (l : Launch) (Z : State) (a0 : Array Value) (hw : ∀ d ∈ tables_1, d.before a0 Z = true) (ws : List Jvm.Cond) (a1 : Addr) (r : Addr) (kr : ClassId) (ss : List Addr) (vs : List Int32) (cn : Nat) (on : Nat) (h0 : Heap) (n0 : Nat) (O0 : Old Z n0 h0) (HL : Lst Z h0 n0 a1 r vs cn on) (VR : Arv Z h0 r kr (.object "java/lang/String") (4 : Int32) (ss.map Value.ref) .null) (hoc : on ≤ cn) (hcv : cn ≤ vs.length) (hv : vs.length ≤ 8) :
    MetFree l (⟨"com/example/rivet_context/rivetcontext/factory/TypeListing", "size", "()I"⟩ : MethodName) (head1 (Jvm.Cond.code (⟨"com/example/rivet_context/rivetcontext/factory/TypeListing", "size", "()I"⟩ : MethodName) prog_105_method_8_code 1 (some .int) :: ws) ({ frames := 0, cells := 0, slots := 0, locals := 0 } : Room)) (fun a U => a = #[(.ref a1)] ∧ Z.Warmed39 U.vm ∧ U.heap = h0) (fun _ _ _ _ _ => True) (fun _ U o U' => ∃ v L, o = .returned v ∧ Qpure (some (.int (Int32.ofNat on))) h0 n0 v U'.heap L ∧ FrameEnd U o U' L ({ frames := 0, cells := 0, slots := 0, locals := 0 } : Room).cells ({ frames := 0, cells := 0, slots := 0, locals := 0 } : Room).slots) := by
  refine MetFree.of_bodySF (plainFor_of_name pn4) hisR ?_
  intro p e s m args below meth c s₁ Bd hml0 hP hK
  obtain ⟨rfl, hZ, hh⟩ := hP
  have hx := Bd.exec
  have hby := Bd.bytes
  have hml : c.maxLocals = 1 := hml0
  have hown : s.vm.findClass "com/example/rivet_context/rivetcontext/factory/TypeListing" = some m.cls := findClass_of_methodNamed Bd.named
  have hnm := (name_of_methodNamed Bd.named Bd.method).1
  have X0 : Stand p l e ({ frames := 0, cells := 0, slots := 0, locals := 0 } : Room) s m #[(.ref a1)] below meth c s₁ [] 0 0 := Stand.of_body Bd
  have e0 : s₁.heap = h0 := by rw [← hh, Bd.state]; rfl
  have N0 := Fr.nil n0
  have pre0 : ∀ t, Steps p.tables e below (s₁.setTop (mkF m 0 #[.val (.ref a1)] [])) t → Steps p.tables e below (s₁.setTop (entryFrame m #[(.ref a1)] 1)) t := fun t k => castTop (ef_rmsz m a1) k
  obtain ⟨g_a1, P, kP, Wa, kW, HT, VP, VW, g_P, g_Wa, nPW, rP, rW⟩ := id HL
  obtain ⟨E_a, F_r, F_p, F_c, F_o, F_w, F_i⟩ := id HT
  have VW : Arv Z h0 Wa kW .int (1 : Int32) ([Int32.ofNat cn].map Value.int) (.int 0) := VW
  have hNP : (Int32.ofNat vs.length).toNatClampNeg = vs.length := own_n (by omega)
  have hNW : (1 : Int32).toNatClampNeg = [Int32.ofNat cn].length := by rw [List.length_singleton]; decide
  have n_a1_P : a1 ≠ P := Exa.neArv E_a VP (hw _ (List.mem_of_getElem? (i := 29) rfl))
  have lt_P := VP.lt
  have n_a1_Wa : a1 ≠ Wa := Exa.neArv E_a VW (hw _ (List.mem_of_getElem? (i := 29) rfl))
  have lt_Wa := VW.lt
  have n_a1_r : a1 ≠ r := Exa.neArv E_a VR (hw _ (List.mem_of_getElem? (i := 29) rfl))
  have lt_r := VR.lt
  have lt_a1 := E_a.lt
  obtain ⟨T1, X1, e1, st1⟩ := getF X0 hx hZ hown (host := "") (Or.inl (hw _ (List.mem_of_getElem? (i := 58) rfl))) Via.refl e0 F_o (g := (mkF m 1 #[.val (.ref a1)] [(.ref a1)])) rfl rfl (hb hby d29_1)
  obtain ⟨fs, hr, hrun, hended, hW, hsame⟩ := X1.leave (v := some (.int (Int32.ofNat on))) (fun h => by rw [Bd.returns] at h; cases h)
  refine ⟨_, _, pre0 _ ?_, hrun, hended, _, _, rfl, ?_, ⟨_, rfl⟩, hW, hsame.mono (by decide) (by decide)⟩
  · show Steps p.tables e below (s₁.setTop (mkF m 0 #[.val (.ref a1)] [])) _
    refine XS.aloadN X0.here hx rfl (hb hby d29_0) rfl rfl ?_
    show Steps p.tables e below (s₁.setTop (mkF m 1 #[.val (.ref a1)] [(.ref a1)])) _
    refine st1 _ ?_
    show Steps p.tables e below (T1.setTop (mkF m 4 #[.val (.ref a1)] [(.int (Int32.ofNat on))])) _
    exact retI X1 hx Bd.returns (hb hby d29_4) hr
  · show Qpure (some (.int (Int32.ofNat on))) h0 n0 _ T1.heap _
    rw [e1]
    exact ⟨rfl, N0, rfl⟩
theorem pn8 : plainName "com/example/rivet_context/rivetcontext/factory/TypeListingGetPinLaw" = true := by first | (simp [plainName, overriddenIn]; done) | decide +kernel
theorem d30_0 : decode method_2_code 0 = .ok (.iload_n 1, 1) := by decide +kernel
theorem d30_1 : decode method_2_code 1 = .ok (.istore_n 2, 1) := by decide +kernel
theorem d30_2 : decode method_2_code 2 = .ok (.iload_n 0, 1) := by decide +kernel
theorem d30_3 : decode method_2_code 3 = .ok (.iconst 1, 1) := by decide +kernel
theorem d30_4 : decode method_2_code 4 = .ok (.iand, 1) := by decide +kernel
theorem d30_5 : decode method_2_code 5 = .ok (.ifCond .eq 13, 3) := by decide +kernel
theorem d30_18 : decode method_2_code 18 = .ok (.iload_n 0, 1) := by decide +kernel
theorem d30_19 : decode method_2_code 19 = .ok (.iconst 2, 1) := by decide +kernel
theorem d30_20 : decode method_2_code 20 = .ok (.iand, 1) := by decide +kernel
theorem d30_21 : decode method_2_code 21 = .ok (.ifCond .eq 13, 3) := by decide +kernel
theorem d30_34 : decode method_2_code 34 = .ok (.iload_n 0, 1) := by decide +kernel
theorem d30_35 : decode method_2_code 35 = .ok (.iconst 4, 1) := by decide +kernel
theorem d30_36 : decode method_2_code 36 = .ok (.iand, 1) := by decide +kernel
theorem d30_37 : decode method_2_code 37 = .ok (.ifCond .eq 13, 3) := by decide +kernel
theorem d30_50 : decode method_2_code 50 = .ok (.iconst 3, 1) := by decide +kernel
theorem d30_51 : decode method_2_code 51 = .ok (.ireturn, 1) := by decide +kernel
theorem d30_40 : decode method_2_code 40 = .ok (.iload_n 2, 1) := by decide +kernel
theorem d30_41 : decode method_2_code 41 = .ok (.ifCond .ne 5, 3) := by decide +kernel
theorem d30_44 : decode method_2_code 44 = .ok (.iconst 2, 1) := by decide +kernel
theorem d30_45 : decode method_2_code 45 = .ok (.ireturn, 1) := by decide +kernel
theorem d30_46 : decode method_2_code 46 = .ok (.iload_n 2, 1) := by decide +kernel
theorem d30_47 : decode method_2_code 47 = .ok (.iconst 1, 1) := by decide +kernel
theorem d30_48 : decode method_2_code 48 = .ok (.isub, 1) := by decide +kernel
theorem d30_49 : decode method_2_code 49 = .ok (.istore_n 2, 1) := by decide +kernel
theorem d30_24 : decode method_2_code 24 = .ok (.iload_n 2, 1) := by decide +kernel
theorem d30_25 : decode method_2_code 25 = .ok (.ifCond .ne 5, 3) := by decide +kernel
theorem d30_28 : decode method_2_code 28 = .ok (.iconst 1, 1) := by decide +kernel
theorem d30_29 : decode method_2_code 29 = .ok (.ireturn, 1) := by decide +kernel
theorem d30_30 : decode method_2_code 30 = .ok (.iload_n 2, 1) := by decide +kernel
theorem d30_31 : decode method_2_code 31 = .ok (.iconst 1, 1) := by decide +kernel
theorem d30_32 : decode method_2_code 32 = .ok (.isub, 1) := by decide +kernel
theorem d30_33 : decode method_2_code 33 = .ok (.istore_n 2, 1) := by decide +kernel
theorem d30_8 : decode method_2_code 8 = .ok (.iload_n 2, 1) := by decide +kernel
theorem d30_9 : decode method_2_code 9 = .ok (.ifCond .ne 5, 3) := by decide +kernel
theorem d30_12 : decode method_2_code 12 = .ok (.iconst 0, 1) := by decide +kernel
theorem d30_13 : decode method_2_code 13 = .ok (.ireturn, 1) := by decide +kernel
theorem d30_14 : decode method_2_code 14 = .ok (.iload_n 2, 1) := by decide +kernel
theorem d30_15 : decode method_2_code 15 = .ok (.iconst 1, 1) := by decide +kernel
theorem d30_16 : decode method_2_code 16 = .ok (.isub, 1) := by decide +kernel
theorem d30_17 : decode method_2_code 17 = .ok (.istore_n 2, 1) := by decide +kernel
theorem ef_rmnth (m : MethodId) (x0 : Int32) (x1 : Int32) : entryFrame m #[(.int x0), (.int x1)] 3 = mkF m 0 #[.val (.int x0), .val (.int x1), .unset] [] := by first | (simp [entryFrame, mkF, argsToLocals, Value.category]; done) | rfl
set_option maxRecDepth 65536 in
set_option maxHeartbeats 40000000 in
theorem rmnth (l : Launch) (Z : State) (a0 : Array Value) (hw : ∀ d ∈ tables_1, d.before a0 Z = true) (ws : List Jvm.Cond) (p1 : Int32) (p2 : Int32) (h0 : Heap) (n0 : Nat) (O0 : Old Z n0 h0)  :
    MetFree l (⟨"com/example/rivet_context/rivetcontext/factory/TypeListingGetPinLaw", "nth", "(II)I"⟩ : MethodName) (head1 (Jvm.Cond.code (⟨"com/example/rivet_context/rivetcontext/factory/TypeListingGetPinLaw", "nth", "(II)I"⟩ : MethodName) method_2_code 3 (some .int) :: ws) ({ frames := 0, cells := 0, slots := 0, locals := 0 } : Room)) (fun a U => a = #[(.int p1), (.int p2)] ∧ Z.Warmed39 U.vm ∧ U.heap = h0) (fun _ _ _ _ _ => True) (fun _ U o U' => ∃ v L, o = .returned v ∧ Qpure (some (.int (nthF p1 p2))) h0 n0 v U'.heap L ∧ FrameEnd U o U' L ({ frames := 0, cells := 0, slots := 0, locals := 0 } : Room).cells ({ frames := 0, cells := 0, slots := 0, locals := 0 } : Room).slots) := by
  refine MetFree.of_bodySF (plainFor_of_name pn8) hisR ?_
  intro p e s m args below meth c s₁ Bd hml0 hP hK
  obtain ⟨rfl, hZ, hh⟩ := hP
  have hx := Bd.exec
  have hby := Bd.bytes
  have hml : c.maxLocals = 3 := hml0
  have hown : s.vm.findClass "com/example/rivet_context/rivetcontext/factory/TypeListingGetPinLaw" = some m.cls := findClass_of_methodNamed Bd.named
  have hnm := (name_of_methodNamed Bd.named Bd.method).1
  have X0 : Stand p l e ({ frames := 0, cells := 0, slots := 0, locals := 0 } : Room) s m #[(.int p1), (.int p2)] below meth c s₁ [] 0 0 := Stand.of_body Bd
  have e0 : s₁.heap = h0 := by rw [← hh, Bd.state]; rfl
  have N0 := Fr.nil n0
  have pre0 : ∀ t, Steps p.tables e below (s₁.setTop (mkF m 0 #[.val (.int p1), .val (.int p2), .unset] [])) t → Steps p.tables e below (s₁.setTop (entryFrame m #[(.int p1), (.int p2)] 3)) t := fun t k => castTop (ef_rmnth m p1 p2) k
  have pf1 : ∀ target, Steps p.tables e below (s₁.setTop (mkF m 5 #[.val (.int p1), .val (.int p2), .val (.int p2)] [(.int (p1 &&& (1 : Int32)))])) target → Steps p.tables e below (s₁.setTop (mkF m 0 #[.val (.int p1), .val (.int p2), .unset] [])) target := by
    intro target k
    show Steps p.tables e below (s₁.setTop (mkF m 0 #[.val (.int p1), .val (.int p2), .unset] [])) _
    refine XS.iloadN X0.here hx rfl (hb hby d30_0) rfl ?_
    refine XS.istoreN X0.here hx rfl (hb hby d30_1) rfl (l' := #[.val (.int p1), .val (.int p2), .val (.int p2)]) rfl ?_
    refine XS.iloadN X0.here hx rfl (hb hby d30_2) rfl ?_
    refine XS.iconst X0.here hx rfl (hb hby d30_3) ?_
    refine XS.iand X0.here hx rfl (hb hby d30_4) rfl ?_
    exact k
  by_cases hc5 : (p1 &&& (1 : Int32)) = (0 : Int32)
  · by_cases hc21 : (p1 &&& (2 : Int32)) = (0 : Int32)
    · have pf2 : ∀ target, Steps p.tables e below (s₁.setTop (mkF m 37 #[.val (.int p1), .val (.int p2), .val (.int p2)] [(.int (p1 &&& (4 : Int32)))])) target → Steps p.tables e below (s₁.setTop (mkF m 5 #[.val (.int p1), .val (.int p2), .val (.int p2)] [(.int (p1 &&& (1 : Int32)))])) target := by
        intro target k
        show Steps p.tables e below (s₁.setTop (mkF m 5 #[.val (.int p1), .val (.int p2), .val (.int p2)] [(.int (p1 &&& (1 : Int32)))])) _
        refine XS.ifYes X0.here hx rfl (pc0 := 5) (pc' := 18) rfl (hb hby d30_5) rfl ((if0 _ _).trans (teq hc5).1) (by decide) (by decide) ?_
        refine XS.iloadN X0.here hx rfl (hb hby d30_18) rfl ?_
        refine XS.iconst X0.here hx rfl (hb hby d30_19) ?_
        refine XS.iand X0.here hx rfl (hb hby d30_20) rfl ?_
        refine XS.ifYes X0.here hx rfl (pc0 := 21) (pc' := 34) rfl (hb hby d30_21) rfl ((if0 _ _).trans (teq hc21).1) (by decide) (by decide) ?_
        refine XS.iloadN X0.here hx rfl (hb hby d30_34) rfl ?_
        refine XS.iconst X0.here hx rfl (hb hby d30_35) ?_
        show Steps p.tables e below (s₁.setTop (mkF m 36 #[.val (.int p1), .val (.int p2), .val (.int p2)] [(.int 4), (.int p1)])) _
        refine XS.iand X0.here hx rfl (hb hby d30_36) rfl ?_
        exact k
      by_cases hc37 : (p1 &&& (4 : Int32)) = (0 : Int32)
      · obtain ⟨fs, hr, hrun, hended, hW, hsame⟩ := X0.leave (v := some (.int 3)) (fun h => by rw [Bd.returns] at h; cases h)
        refine ⟨_, _, pre0 _ ?_, hrun, hended, _, _, rfl, ?_, ⟨_, rfl⟩, hW, hsame.mono (by decide) (by decide)⟩
        · refine pf1 _ ?_
          refine pf2 _ ?_
          show Steps p.tables e below (s₁.setTop (mkF m 37 #[.val (.int p1), .val (.int p2), .val (.int p2)] [(.int (p1 &&& (4 : Int32)))])) _
          refine XS.ifYes X0.here hx rfl (pc0 := 37) (pc' := 50) rfl (hb hby d30_37) rfl ((if0 _ _).trans (teq hc37).1) (by decide) (by decide) ?_
          refine XS.iconst X0.here hx rfl (hb hby d30_50) ?_
          show Steps p.tables e below (s₁.setTop (mkF m 51 #[.val (.int p1), .val (.int p2), .val (.int p2)] [(.int 3)])) _
          exact retI X0 hx Bd.returns (hb hby d30_51) hr
        · show Qpure (some (.int (nthF p1 p2))) h0 n0 _ s₁.heap _
          rw [e0]
          exact ⟨by simp only [nthF, nth2, nth3]; rw [if_pos hc5, if_pos hc21, if_pos hc37], N0, rfl⟩
      · by_cases hc41 : p2 = (0 : Int32)
        · obtain ⟨fs, hr, hrun, hended, hW, hsame⟩ := X0.leave (v := some (.int 2)) (fun h => by rw [Bd.returns] at h; cases h)
          refine ⟨_, _, pre0 _ ?_, hrun, hended, _, _, rfl, ?_, ⟨_, rfl⟩, hW, hsame.mono (by decide) (by decide)⟩
          · refine pf1 _ ?_
            refine pf2 _ ?_
            show Steps p.tables e below (s₁.setTop (mkF m 37 #[.val (.int p1), .val (.int p2), .val (.int p2)] [(.int (p1 &&& (4 : Int32)))])) _
            refine XS.ifNo X0.here hx rfl (hb hby d30_37) rfl ((if0 _ _).trans (feq hc37).1) ?_
            refine XS.iloadN X0.here hx rfl (hb hby d30_40) rfl ?_
            refine XS.ifNo X0.here hx rfl (hb hby d30_41) rfl ((if0 _ _).trans (teq hc41).2) ?_
            refine XS.iconst X0.here hx rfl (hb hby d30_44) ?_
            show Steps p.tables e below (s₁.setTop (mkF m 45 #[.val (.int p1), .val (.int p2), .val (.int p2)] [(.int 2)])) _
            exact retI X0 hx Bd.returns (hb hby d30_45) hr
          · show Qpure (some (.int (nthF p1 p2))) h0 n0 _ s₁.heap _
            rw [e0]
            exact ⟨by simp only [nthF, nth2, nth3]; rw [if_pos hc5, if_pos hc21, if_neg hc37, if_pos hc41], N0, rfl⟩
        · obtain ⟨fs, hr, hrun, hended, hW, hsame⟩ := X0.leave (v := some (.int 3)) (fun h => by rw [Bd.returns] at h; cases h)
          refine ⟨_, _, pre0 _ ?_, hrun, hended, _, _, rfl, ?_, ⟨_, rfl⟩, hW, hsame.mono (by decide) (by decide)⟩
          · refine pf1 _ ?_
            refine pf2 _ ?_
            show Steps p.tables e below (s₁.setTop (mkF m 37 #[.val (.int p1), .val (.int p2), .val (.int p2)] [(.int (p1 &&& (4 : Int32)))])) _
            refine XS.ifNo X0.here hx rfl (hb hby d30_37) rfl ((if0 _ _).trans (feq hc37).1) ?_
            refine XS.iloadN X0.here hx rfl (hb hby d30_40) rfl ?_
            refine XS.ifYes X0.here hx rfl (pc0 := 41) (pc' := 46) rfl (hb hby d30_41) rfl ((if0 _ _).trans (feq hc41).2) (by decide) (by decide) ?_
            refine XS.iloadN X0.here hx rfl (hb hby d30_46) rfl ?_
            refine XS.iconst X0.here hx rfl (hb hby d30_47) ?_
            refine XS.isub X0.here hx rfl (hb hby d30_48) rfl ?_
            refine XS.istoreN X0.here hx rfl (hb hby d30_49) rfl (l' := #[.val (.int p1), .val (.int p2), .val (.int (p2 - (1 : Int32)))]) rfl ?_
            show Steps p.tables e below (s₁.setTop (mkF m 50 #[.val (.int p1), .val (.int p2), .val (.int (p2 - (1 : Int32)))] [])) _
            refine XS.iconst X0.here hx rfl (hb hby d30_50) ?_
            show Steps p.tables e below (s₁.setTop (mkF m 51 #[.val (.int p1), .val (.int p2), .val (.int (p2 - (1 : Int32)))] [(.int 3)])) _
            exact retI X0 hx Bd.returns (hb hby d30_51) hr
          · show Qpure (some (.int (nthF p1 p2))) h0 n0 _ s₁.heap _
            rw [e0]
            exact ⟨by simp only [nthF, nth2, nth3]; rw [if_pos hc5, if_pos hc21, if_neg hc37, if_neg hc41], N0, rfl⟩
    · have pf3 : ∀ target, Steps p.tables e below (s₁.setTop (mkF m 25 #[.val (.int p1), .val (.int p2), .val (.int p2)] [(.int p2)])) target → Steps p.tables e below (s₁.setTop (mkF m 5 #[.val (.int p1), .val (.int p2), .val (.int p2)] [(.int (p1 &&& (1 : Int32)))])) target := by
        intro target k
        show Steps p.tables e below (s₁.setTop (mkF m 5 #[.val (.int p1), .val (.int p2), .val (.int p2)] [(.int (p1 &&& (1 : Int32)))])) _
        refine XS.ifYes X0.here hx rfl (pc0 := 5) (pc' := 18) rfl (hb hby d30_5) rfl ((if0 _ _).trans (teq hc5).1) (by decide) (by decide) ?_
        refine XS.iloadN X0.here hx rfl (hb hby d30_18) rfl ?_
        refine XS.iconst X0.here hx rfl (hb hby d30_19) ?_
        refine XS.iand X0.here hx rfl (hb hby d30_20) rfl ?_
        refine XS.ifNo X0.here hx rfl (hb hby d30_21) rfl ((if0 _ _).trans (feq hc21).1) ?_
        refine XS.iloadN X0.here hx rfl (hb hby d30_24) rfl ?_
        exact k
      by_cases hc25 : p2 = (0 : Int32)
      · obtain ⟨fs, hr, hrun, hended, hW, hsame⟩ := X0.leave (v := some (.int 1)) (fun h => by rw [Bd.returns] at h; cases h)
        refine ⟨_, _, pre0 _ ?_, hrun, hended, _, _, rfl, ?_, ⟨_, rfl⟩, hW, hsame.mono (by decide) (by decide)⟩
        · refine pf1 _ ?_
          refine pf3 _ ?_
          show Steps p.tables e below (s₁.setTop (mkF m 25 #[.val (.int p1), .val (.int p2), .val (.int p2)] [(.int p2)])) _
          refine XS.ifNo X0.here hx rfl (hb hby d30_25) rfl ((if0 _ _).trans (teq hc25).2) ?_
          refine XS.iconst X0.here hx rfl (hb hby d30_28) ?_
          show Steps p.tables e below (s₁.setTop (mkF m 29 #[.val (.int p1), .val (.int p2), .val (.int p2)] [(.int 1)])) _
          exact retI X0 hx Bd.returns (hb hby d30_29) hr
        · show Qpure (some (.int (nthF p1 p2))) h0 n0 _ s₁.heap _
          rw [e0]
          exact ⟨by simp only [nthF, nth2, nth3]; rw [if_pos hc5, if_neg hc21, if_pos hc25], N0, rfl⟩
      · have pf4 : ∀ target, Steps p.tables e below (s₁.setTop (mkF m 37 #[.val (.int p1), .val (.int p2), .val (.int (p2 - (1 : Int32)))] [(.int (p1 &&& (4 : Int32)))])) target → Steps p.tables e below (s₁.setTop (mkF m 25 #[.val (.int p1), .val (.int p2), .val (.int p2)] [(.int p2)])) target := by
          intro target k
          show Steps p.tables e below (s₁.setTop (mkF m 25 #[.val (.int p1), .val (.int p2), .val (.int p2)] [(.int p2)])) _
          refine XS.ifYes X0.here hx rfl (pc0 := 25) (pc' := 30) rfl (hb hby d30_25) rfl ((if0 _ _).trans (feq hc25).2) (by decide) (by decide) ?_
          refine XS.iloadN X0.here hx rfl (hb hby d30_30) rfl ?_
          refine XS.iconst X0.here hx rfl (hb hby d30_31) ?_
          refine XS.isub X0.here hx rfl (hb hby d30_32) rfl ?_
          refine XS.istoreN X0.here hx rfl (hb hby d30_33) rfl (l' := #[.val (.int p1), .val (.int p2), .val (.int (p2 - (1 : Int32)))]) rfl ?_
          refine XS.iloadN X0.here hx rfl (hb hby d30_34) rfl ?_
          refine XS.iconst X0.here hx rfl (hb hby d30_35) ?_
          show Steps p.tables e below (s₁.setTop (mkF m 36 #[.val (.int p1), .val (.int p2), .val (.int (p2 - (1 : Int32)))] [(.int 4), (.int p1)])) _
          refine XS.iand X0.here hx rfl (hb hby d30_36) rfl ?_
          exact k
        by_cases hc37 : (p1 &&& (4 : Int32)) = (0 : Int32)
        · obtain ⟨fs, hr, hrun, hended, hW, hsame⟩ := X0.leave (v := some (.int 3)) (fun h => by rw [Bd.returns] at h; cases h)
          refine ⟨_, _, pre0 _ ?_, hrun, hended, _, _, rfl, ?_, ⟨_, rfl⟩, hW, hsame.mono (by decide) (by decide)⟩
          · refine pf1 _ ?_
            refine pf3 _ ?_
            refine pf4 _ ?_
            show Steps p.tables e below (s₁.setTop (mkF m 37 #[.val (.int p1), .val (.int p2), .val (.int (p2 - (1 : Int32)))] [(.int (p1 &&& (4 : Int32)))])) _
            refine XS.ifYes X0.here hx rfl (pc0 := 37) (pc' := 50) rfl (hb hby d30_37) rfl ((if0 _ _).trans (teq hc37).1) (by decide) (by decide) ?_
            refine XS.iconst X0.here hx rfl (hb hby d30_50) ?_
            show Steps p.tables e below (s₁.setTop (mkF m 51 #[.val (.int p1), .val (.int p2), .val (.int (p2 - (1 : Int32)))] [(.int 3)])) _
            exact retI X0 hx Bd.returns (hb hby d30_51) hr
          · show Qpure (some (.int (nthF p1 p2))) h0 n0 _ s₁.heap _
            rw [e0]
            exact ⟨by simp only [nthF, nth2, nth3]; rw [if_pos hc5, if_neg hc21, if_neg hc25, if_pos hc37], N0, rfl⟩
        · by_cases hc41 : (p2 - (1 : Int32)) = (0 : Int32)
          · obtain ⟨fs, hr, hrun, hended, hW, hsame⟩ := X0.leave (v := some (.int 2)) (fun h => by rw [Bd.returns] at h; cases h)
            refine ⟨_, _, pre0 _ ?_, hrun, hended, _, _, rfl, ?_, ⟨_, rfl⟩, hW, hsame.mono (by decide) (by decide)⟩
            · refine pf1 _ ?_
              refine pf3 _ ?_
              refine pf4 _ ?_
              show Steps p.tables e below (s₁.setTop (mkF m 37 #[.val (.int p1), .val (.int p2), .val (.int (p2 - (1 : Int32)))] [(.int (p1 &&& (4 : Int32)))])) _
              refine XS.ifNo X0.here hx rfl (hb hby d30_37) rfl ((if0 _ _).trans (feq hc37).1) ?_
              refine XS.iloadN X0.here hx rfl (hb hby d30_40) rfl ?_
              refine XS.ifNo X0.here hx rfl (hb hby d30_41) rfl ((if0 _ _).trans (teq hc41).2) ?_
              refine XS.iconst X0.here hx rfl (hb hby d30_44) ?_
              show Steps p.tables e below (s₁.setTop (mkF m 45 #[.val (.int p1), .val (.int p2), .val (.int (p2 - (1 : Int32)))] [(.int 2)])) _
              exact retI X0 hx Bd.returns (hb hby d30_45) hr
            · show Qpure (some (.int (nthF p1 p2))) h0 n0 _ s₁.heap _
              rw [e0]
              exact ⟨by simp only [nthF, nth2, nth3]; rw [if_pos hc5, if_neg hc21, if_neg hc25, if_neg hc37, if_pos hc41], N0, rfl⟩
          · obtain ⟨fs, hr, hrun, hended, hW, hsame⟩ := X0.leave (v := some (.int 3)) (fun h => by rw [Bd.returns] at h; cases h)
            refine ⟨_, _, pre0 _ ?_, hrun, hended, _, _, rfl, ?_, ⟨_, rfl⟩, hW, hsame.mono (by decide) (by decide)⟩
            · refine pf1 _ ?_
              refine pf3 _ ?_
              refine pf4 _ ?_
              show Steps p.tables e below (s₁.setTop (mkF m 37 #[.val (.int p1), .val (.int p2), .val (.int (p2 - (1 : Int32)))] [(.int (p1 &&& (4 : Int32)))])) _
              refine XS.ifNo X0.here hx rfl (hb hby d30_37) rfl ((if0 _ _).trans (feq hc37).1) ?_
              refine XS.iloadN X0.here hx rfl (hb hby d30_40) rfl ?_
              refine XS.ifYes X0.here hx rfl (pc0 := 41) (pc' := 46) rfl (hb hby d30_41) rfl ((if0 _ _).trans (feq hc41).2) (by decide) (by decide) ?_
              refine XS.iloadN X0.here hx rfl (hb hby d30_46) rfl ?_
              refine XS.iconst X0.here hx rfl (hb hby d30_47) ?_
              refine XS.isub X0.here hx rfl (hb hby d30_48) rfl ?_
              refine XS.istoreN X0.here hx rfl (hb hby d30_49) rfl (l' := #[.val (.int p1), .val (.int p2), .val (.int ((p2 - (1 : Int32)) - (1 : Int32)))]) rfl ?_
              show Steps p.tables e below (s₁.setTop (mkF m 50 #[.val (.int p1), .val (.int p2), .val (.int ((p2 - (1 : Int32)) - (1 : Int32)))] [])) _
              refine XS.iconst X0.here hx rfl (hb hby d30_50) ?_
              show Steps p.tables e below (s₁.setTop (mkF m 51 #[.val (.int p1), .val (.int p2), .val (.int ((p2 - (1 : Int32)) - (1 : Int32)))] [(.int 3)])) _
              exact retI X0 hx Bd.returns (hb hby d30_51) hr
            · show Qpure (some (.int (nthF p1 p2))) h0 n0 _ s₁.heap _
              rw [e0]
              exact ⟨by simp only [nthF, nth2, nth3]; rw [if_pos hc5, if_neg hc21, if_neg hc25, if_neg hc37, if_neg hc41], N0, rfl⟩
  · by_cases hc9 : p2 = (0 : Int32)
    · obtain ⟨fs, hr, hrun, hended, hW, hsame⟩ := X0.leave (v := some (.int 0)) (fun h => by rw [Bd.returns] at h; cases h)
      refine ⟨_, _, pre0 _ ?_, hrun, hended, _, _, rfl, ?_, ⟨_, rfl⟩, hW, hsame.mono (by decide) (by decide)⟩
      · refine pf1 _ ?_
        show Steps p.tables e below (s₁.setTop (mkF m 5 #[.val (.int p1), .val (.int p2), .val (.int p2)] [(.int (p1 &&& (1 : Int32)))])) _
        refine XS.ifNo X0.here hx rfl (hb hby d30_5) rfl ((if0 _ _).trans (feq hc5).1) ?_
        refine XS.iloadN X0.here hx rfl (hb hby d30_8) rfl ?_
        refine XS.ifNo X0.here hx rfl (hb hby d30_9) rfl ((if0 _ _).trans (teq hc9).2) ?_
        refine XS.iconst X0.here hx rfl (hb hby d30_12) ?_
        show Steps p.tables e below (s₁.setTop (mkF m 13 #[.val (.int p1), .val (.int p2), .val (.int p2)] [(.int 0)])) _
        exact retI X0 hx Bd.returns (hb hby d30_13) hr
      · show Qpure (some (.int (nthF p1 p2))) h0 n0 _ s₁.heap _
        rw [e0]
        exact ⟨by simp only [nthF, nth2, nth3]; rw [if_neg hc5, if_pos hc9], N0, rfl⟩
    · have pf5 : ∀ target, Steps p.tables e below (s₁.setTop (mkF m 21 #[.val (.int p1), .val (.int p2), .val (.int (p2 - (1 : Int32)))] [(.int (p1 &&& (2 : Int32)))])) target → Steps p.tables e below (s₁.setTop (mkF m 5 #[.val (.int p1), .val (.int p2), .val (.int p2)] [(.int (p1 &&& (1 : Int32)))])) target := by
        intro target k
        show Steps p.tables e below (s₁.setTop (mkF m 5 #[.val (.int p1), .val (.int p2), .val (.int p2)] [(.int (p1 &&& (1 : Int32)))])) _
        refine XS.ifNo X0.here hx rfl (hb hby d30_5) rfl ((if0 _ _).trans (feq hc5).1) ?_
        refine XS.iloadN X0.here hx rfl (hb hby d30_8) rfl ?_
        refine XS.ifYes X0.here hx rfl (pc0 := 9) (pc' := 14) rfl (hb hby d30_9) rfl ((if0 _ _).trans (feq hc9).2) (by decide) (by decide) ?_
        refine XS.iloadN X0.here hx rfl (hb hby d30_14) rfl ?_
        refine XS.iconst X0.here hx rfl (hb hby d30_15) ?_
        refine XS.isub X0.here hx rfl (hb hby d30_16) rfl ?_
        refine XS.istoreN X0.here hx rfl (hb hby d30_17) rfl (l' := #[.val (.int p1), .val (.int p2), .val (.int (p2 - (1 : Int32)))]) rfl ?_
        show Steps p.tables e below (s₁.setTop (mkF m 18 #[.val (.int p1), .val (.int p2), .val (.int (p2 - (1 : Int32)))] [])) _
        refine XS.iloadN X0.here hx rfl (hb hby d30_18) rfl ?_
        refine XS.iconst X0.here hx rfl (hb hby d30_19) ?_
        refine XS.iand X0.here hx rfl (hb hby d30_20) rfl ?_
        exact k
      by_cases hc21 : (p1 &&& (2 : Int32)) = (0 : Int32)
      · by_cases hc37 : (p1 &&& (4 : Int32)) = (0 : Int32)
        · obtain ⟨fs, hr, hrun, hended, hW, hsame⟩ := X0.leave (v := some (.int 3)) (fun h => by rw [Bd.returns] at h; cases h)
          refine ⟨_, _, pre0 _ ?_, hrun, hended, _, _, rfl, ?_, ⟨_, rfl⟩, hW, hsame.mono (by decide) (by decide)⟩
          · refine pf1 _ ?_
            refine pf5 _ ?_
            show Steps p.tables e below (s₁.setTop (mkF m 21 #[.val (.int p1), .val (.int p2), .val (.int (p2 - (1 : Int32)))] [(.int (p1 &&& (2 : Int32)))])) _
            refine XS.ifYes X0.here hx rfl (pc0 := 21) (pc' := 34) rfl (hb hby d30_21) rfl ((if0 _ _).trans (teq hc21).1) (by decide) (by decide) ?_
            refine XS.iloadN X0.here hx rfl (hb hby d30_34) rfl ?_
            refine XS.iconst X0.here hx rfl (hb hby d30_35) ?_
            refine XS.iand X0.here hx rfl (hb hby d30_36) rfl ?_
            refine XS.ifYes X0.here hx rfl (pc0 := 37) (pc' := 50) rfl (hb hby d30_37) rfl ((if0 _ _).trans (teq hc37).1) (by decide) (by decide) ?_
            refine XS.iconst X0.here hx rfl (hb hby d30_50) ?_
            show Steps p.tables e below (s₁.setTop (mkF m 51 #[.val (.int p1), .val (.int p2), .val (.int (p2 - (1 : Int32)))] [(.int 3)])) _
            exact retI X0 hx Bd.returns (hb hby d30_51) hr
          · show Qpure (some (.int (nthF p1 p2))) h0 n0 _ s₁.heap _
            rw [e0]
            exact ⟨by simp only [nthF, nth2, nth3]; rw [if_neg hc5, if_neg hc9, if_pos hc21, if_pos hc37], N0, rfl⟩
        · have pf6 : ∀ target, Steps p.tables e below (s₁.setTop (mkF m 41 #[.val (.int p1), .val (.int p2), .val (.int (p2 - (1 : Int32)))] [(.int (p2 - (1 : Int32)))])) target → Steps p.tables e below (s₁.setTop (mkF m 21 #[.val (.int p1), .val (.int p2), .val (.int (p2 - (1 : Int32)))] [(.int (p1 &&& (2 : Int32)))])) target := by
            intro target k
            show Steps p.tables e below (s₁.setTop (mkF m 21 #[.val (.int p1), .val (.int p2), .val (.int (p2 - (1 : Int32)))] [(.int (p1 &&& (2 : Int32)))])) _
            refine XS.ifYes X0.here hx rfl (pc0 := 21) (pc' := 34) rfl (hb hby d30_21) rfl ((if0 _ _).trans (teq hc21).1) (by decide) (by decide) ?_
            refine XS.iloadN X0.here hx rfl (hb hby d30_34) rfl ?_
            refine XS.iconst X0.here hx rfl (hb hby d30_35) ?_
            refine XS.iand X0.here hx rfl (hb hby d30_36) rfl ?_
            refine XS.ifNo X0.here hx rfl (hb hby d30_37) rfl ((if0 _ _).trans (feq hc37).1) ?_
            refine XS.iloadN X0.here hx rfl (hb hby d30_40) rfl ?_
            exact k
          by_cases hc41 : (p2 - (1 : Int32)) = (0 : Int32)
          · obtain ⟨fs, hr, hrun, hended, hW, hsame⟩ := X0.leave (v := some (.int 2)) (fun h => by rw [Bd.returns] at h; cases h)
            refine ⟨_, _, pre0 _ ?_, hrun, hended, _, _, rfl, ?_, ⟨_, rfl⟩, hW, hsame.mono (by decide) (by decide)⟩
            · refine pf1 _ ?_
              refine pf5 _ ?_
              refine pf6 _ ?_
              show Steps p.tables e below (s₁.setTop (mkF m 41 #[.val (.int p1), .val (.int p2), .val (.int (p2 - (1 : Int32)))] [(.int (p2 - (1 : Int32)))])) _
              refine XS.ifNo X0.here hx rfl (hb hby d30_41) rfl ((if0 _ _).trans (teq hc41).2) ?_
              refine XS.iconst X0.here hx rfl (hb hby d30_44) ?_
              show Steps p.tables e below (s₁.setTop (mkF m 45 #[.val (.int p1), .val (.int p2), .val (.int (p2 - (1 : Int32)))] [(.int 2)])) _
              exact retI X0 hx Bd.returns (hb hby d30_45) hr
            · show Qpure (some (.int (nthF p1 p2))) h0 n0 _ s₁.heap _
              rw [e0]
              exact ⟨by simp only [nthF, nth2, nth3]; rw [if_neg hc5, if_neg hc9, if_pos hc21, if_neg hc37, if_pos hc41], N0, rfl⟩
          · obtain ⟨fs, hr, hrun, hended, hW, hsame⟩ := X0.leave (v := some (.int 3)) (fun h => by rw [Bd.returns] at h; cases h)
            refine ⟨_, _, pre0 _ ?_, hrun, hended, _, _, rfl, ?_, ⟨_, rfl⟩, hW, hsame.mono (by decide) (by decide)⟩
            · refine pf1 _ ?_
              refine pf5 _ ?_
              refine pf6 _ ?_
              show Steps p.tables e below (s₁.setTop (mkF m 41 #[.val (.int p1), .val (.int p2), .val (.int (p2 - (1 : Int32)))] [(.int (p2 - (1 : Int32)))])) _
              refine XS.ifYes X0.here hx rfl (pc0 := 41) (pc' := 46) rfl (hb hby d30_41) rfl ((if0 _ _).trans (feq hc41).2) (by decide) (by decide) ?_
              refine XS.iloadN X0.here hx rfl (hb hby d30_46) rfl ?_
              refine XS.iconst X0.here hx rfl (hb hby d30_47) ?_
              refine XS.isub X0.here hx rfl (hb hby d30_48) rfl ?_
              refine XS.istoreN X0.here hx rfl (hb hby d30_49) rfl (l' := #[.val (.int p1), .val (.int p2), .val (.int ((p2 - (1 : Int32)) - (1 : Int32)))]) rfl ?_
              refine XS.iconst X0.here hx rfl (hb hby d30_50) ?_
              show Steps p.tables e below (s₁.setTop (mkF m 51 #[.val (.int p1), .val (.int p2), .val (.int ((p2 - (1 : Int32)) - (1 : Int32)))] [(.int 3)])) _
              exact retI X0 hx Bd.returns (hb hby d30_51) hr
            · show Qpure (some (.int (nthF p1 p2))) h0 n0 _ s₁.heap _
              rw [e0]
              exact ⟨by simp only [nthF, nth2, nth3]; rw [if_neg hc5, if_neg hc9, if_pos hc21, if_neg hc37, if_neg hc41], N0, rfl⟩
      · by_cases hc25 : (p2 - (1 : Int32)) = (0 : Int32)
        · obtain ⟨fs, hr, hrun, hended, hW, hsame⟩ := X0.leave (v := some (.int 1)) (fun h => by rw [Bd.returns] at h; cases h)
          refine ⟨_, _, pre0 _ ?_, hrun, hended, _, _, rfl, ?_, ⟨_, rfl⟩, hW, hsame.mono (by decide) (by decide)⟩
          · refine pf1 _ ?_
            refine pf5 _ ?_
            show Steps p.tables e below (s₁.setTop (mkF m 21 #[.val (.int p1), .val (.int p2), .val (.int (p2 - (1 : Int32)))] [(.int (p1 &&& (2 : Int32)))])) _
            refine XS.ifNo X0.here hx rfl (hb hby d30_21) rfl ((if0 _ _).trans (feq hc21).1) ?_
            refine XS.iloadN X0.here hx rfl (hb hby d30_24) rfl ?_
            refine XS.ifNo X0.here hx rfl (hb hby d30_25) rfl ((if0 _ _).trans (teq hc25).2) ?_
            refine XS.iconst X0.here hx rfl (hb hby d30_28) ?_
            show Steps p.tables e below (s₁.setTop (mkF m 29 #[.val (.int p1), .val (.int p2), .val (.int (p2 - (1 : Int32)))] [(.int 1)])) _
            exact retI X0 hx Bd.returns (hb hby d30_29) hr
          · show Qpure (some (.int (nthF p1 p2))) h0 n0 _ s₁.heap _
            rw [e0]
            exact ⟨by simp only [nthF, nth2, nth3]; rw [if_neg hc5, if_neg hc9, if_neg hc21, if_pos hc25], N0, rfl⟩
        · have pf7 : ∀ target, Steps p.tables e below (s₁.setTop (mkF m 37 #[.val (.int p1), .val (.int p2), .val (.int ((p2 - (1 : Int32)) - (1 : Int32)))] [(.int (p1 &&& (4 : Int32)))])) target → Steps p.tables e below (s₁.setTop (mkF m 21 #[.val (.int p1), .val (.int p2), .val (.int (p2 - (1 : Int32)))] [(.int (p1 &&& (2 : Int32)))])) target := by
            intro target k
            show Steps p.tables e below (s₁.setTop (mkF m 21 #[.val (.int p1), .val (.int p2), .val (.int (p2 - (1 : Int32)))] [(.int (p1 &&& (2 : Int32)))])) _
            refine XS.ifNo X0.here hx rfl (hb hby d30_21) rfl ((if0 _ _).trans (feq hc21).1) ?_
            refine XS.iloadN X0.here hx rfl (hb hby d30_24) rfl ?_
            refine XS.ifYes X0.here hx rfl (pc0 := 25) (pc' := 30) rfl (hb hby d30_25) rfl ((if0 _ _).trans (feq hc25).2) (by decide) (by decide) ?_
            refine XS.iloadN X0.here hx rfl (hb hby d30_30) rfl ?_
            refine XS.iconst X0.here hx rfl (hb hby d30_31) ?_
            refine XS.isub X0.here hx rfl (hb hby d30_32) rfl ?_
            refine XS.istoreN X0.here hx rfl (hb hby d30_33) rfl (l' := #[.val (.int p1), .val (.int p2), .val (.int ((p2 - (1 : Int32)) - (1 : Int32)))]) rfl ?_
            show Steps p.tables e below (s₁.setTop (mkF m 34 #[.val (.int p1), .val (.int p2), .val (.int ((p2 - (1 : Int32)) - (1 : Int32)))] [])) _
            refine XS.iloadN X0.here hx rfl (hb hby d30_34) rfl ?_
            refine XS.iconst X0.here hx rfl (hb hby d30_35) ?_
            refine XS.iand X0.here hx rfl (hb hby d30_36) rfl ?_
            exact k
          by_cases hc37 : (p1 &&& (4 : Int32)) = (0 : Int32)
          · obtain ⟨fs, hr, hrun, hended, hW, hsame⟩ := X0.leave (v := some (.int 3)) (fun h => by rw [Bd.returns] at h; cases h)
            refine ⟨_, _, pre0 _ ?_, hrun, hended, _, _, rfl, ?_, ⟨_, rfl⟩, hW, hsame.mono (by decide) (by decide)⟩
            · refine pf1 _ ?_
              refine pf5 _ ?_
              refine pf7 _ ?_
              show Steps p.tables e below (s₁.setTop (mkF m 37 #[.val (.int p1), .val (.int p2), .val (.int ((p2 - (1 : Int32)) - (1 : Int32)))] [(.int (p1 &&& (4 : Int32)))])) _
              refine XS.ifYes X0.here hx rfl (pc0 := 37) (pc' := 50) rfl (hb hby d30_37) rfl ((if0 _ _).trans (teq hc37).1) (by decide) (by decide) ?_
              refine XS.iconst X0.here hx rfl (hb hby d30_50) ?_
              show Steps p.tables e below (s₁.setTop (mkF m 51 #[.val (.int p1), .val (.int p2), .val (.int ((p2 - (1 : Int32)) - (1 : Int32)))] [(.int 3)])) _
              exact retI X0 hx Bd.returns (hb hby d30_51) hr
            · show Qpure (some (.int (nthF p1 p2))) h0 n0 _ s₁.heap _
              rw [e0]
              exact ⟨by simp only [nthF, nth2, nth3]; rw [if_neg hc5, if_neg hc9, if_neg hc21, if_neg hc25, if_pos hc37], N0, rfl⟩
          · by_cases hc41 : ((p2 - (1 : Int32)) - (1 : Int32)) = (0 : Int32)
            · obtain ⟨fs, hr, hrun, hended, hW, hsame⟩ := X0.leave (v := some (.int 2)) (fun h => by rw [Bd.returns] at h; cases h)
              refine ⟨_, _, pre0 _ ?_, hrun, hended, _, _, rfl, ?_, ⟨_, rfl⟩, hW, hsame.mono (by decide) (by decide)⟩
              · refine pf1 _ ?_
                refine pf5 _ ?_
                refine pf7 _ ?_
                show Steps p.tables e below (s₁.setTop (mkF m 37 #[.val (.int p1), .val (.int p2), .val (.int ((p2 - (1 : Int32)) - (1 : Int32)))] [(.int (p1 &&& (4 : Int32)))])) _
                refine XS.ifNo X0.here hx rfl (hb hby d30_37) rfl ((if0 _ _).trans (feq hc37).1) ?_
                refine XS.iloadN X0.here hx rfl (hb hby d30_40) rfl ?_
                refine XS.ifNo X0.here hx rfl (hb hby d30_41) rfl ((if0 _ _).trans (teq hc41).2) ?_
                refine XS.iconst X0.here hx rfl (hb hby d30_44) ?_
                show Steps p.tables e below (s₁.setTop (mkF m 45 #[.val (.int p1), .val (.int p2), .val (.int ((p2 - (1 : Int32)) - (1 : Int32)))] [(.int 2)])) _
                exact retI X0 hx Bd.returns (hb hby d30_45) hr
              · show Qpure (some (.int (nthF p1 p2))) h0 n0 _ s₁.heap _
                rw [e0]
                exact ⟨by simp only [nthF, nth2, nth3]; rw [if_neg hc5, if_neg hc9, if_neg hc21, if_neg hc25, if_neg hc37, if_pos hc41], N0, rfl⟩
            · obtain ⟨fs, hr, hrun, hended, hW, hsame⟩ := X0.leave (v := some (.int 3)) (fun h => by rw [Bd.returns] at h; cases h)
              refine ⟨_, _, pre0 _ ?_, hrun, hended, _, _, rfl, ?_, ⟨_, rfl⟩, hW, hsame.mono (by decide) (by decide)⟩
              · refine pf1 _ ?_
                refine pf5 _ ?_
                refine pf7 _ ?_
                show Steps p.tables e below (s₁.setTop (mkF m 37 #[.val (.int p1), .val (.int p2), .val (.int ((p2 - (1 : Int32)) - (1 : Int32)))] [(.int (p1 &&& (4 : Int32)))])) _
                refine XS.ifNo X0.here hx rfl (hb hby d30_37) rfl ((if0 _ _).trans (feq hc37).1) ?_
                refine XS.iloadN X0.here hx rfl (hb hby d30_40) rfl ?_
                refine XS.ifYes X0.here hx rfl (pc0 := 41) (pc' := 46) rfl (hb hby d30_41) rfl ((if0 _ _).trans (feq hc41).2) (by decide) (by decide) ?_
                refine XS.iloadN X0.here hx rfl (hb hby d30_46) rfl ?_
                refine XS.iconst X0.here hx rfl (hb hby d30_47) ?_
                refine XS.isub X0.here hx rfl (hb hby d30_48) rfl ?_
                refine XS.istoreN X0.here hx rfl (hb hby d30_49) rfl (l' := #[.val (.int p1), .val (.int p2), .val (.int (((p2 - (1 : Int32)) - (1 : Int32)) - (1 : Int32)))]) rfl ?_
                show Steps p.tables e below (s₁.setTop (mkF m 50 #[.val (.int p1), .val (.int p2), .val (.int (((p2 - (1 : Int32)) - (1 : Int32)) - (1 : Int32)))] [])) _
                refine XS.iconst X0.here hx rfl (hb hby d30_50) ?_
                show Steps p.tables e below (s₁.setTop (mkF m 51 #[.val (.int p1), .val (.int p2), .val (.int (((p2 - (1 : Int32)) - (1 : Int32)) - (1 : Int32)))] [(.int 3)])) _
                exact retI X0 hx Bd.returns (hb hby d30_51) hr
              · show Qpure (some (.int (nthF p1 p2))) h0 n0 _ s₁.heap _
                rw [e0]
                exact ⟨by simp only [nthF, nth2, nth3]; rw [if_neg hc5, if_neg hc9, if_neg hc21, if_neg hc25, if_neg hc37, if_neg hc41], N0, rfl⟩
def Qcr (Z : State) (vs : List Int32) (on cn : Nat) (h0 : Heap) (n0 : Nat) (v : Option Value) (h : Heap) (L : List Loc) : Prop := ∃ (b : Addr) (kb : ClassId), v = some (.ref b) ∧ Fr n0 L ∧ Keep h0 h [] ∧ h0.size ≤ b ∧ Arv Z h b kb .int (Int32.ofNat (cn - on)) (((vs.drop on).take (cn - on)).map Value.int) (.int 0)
def Qsrt (Z : State) (a : Addr) (k : ClassId) (xs : List Int32) (h0 : Heap) (n0 : Nat) (v : Option Value) (h : Heap) (L : List Loc) : Prop := v = none ∧ Fr n0 L ∧ Keep h0 h [a] ∧ Arv Z h a k .int (Int32.ofNat xs.length) ((srtF xs).map Value.int) (.int 0)

theorem d24_0 : decode jdk_65_method_131_code 0 = .ok (.iload_n 1, 1) := by decide +kernel
theorem d24_1 : decode jdk_65_method_131_code 1 = .ok (.iload_n 0, 1) := by decide +kernel
theorem d24_2 : decode jdk_65_method_131_code 2 = .ok (.if_icmp .ge 35, 3) := by decide +kernel
theorem d24_37 : decode jdk_65_method_131_code 37 = .ok (.return_, 1) := by decide +kernel
theorem ef_rmcl (m : MethodId) (x0 : Int32) (x1 : Int32) : entryFrame m #[(.int x0), (.int x1)] 2 = mkF m 0 #[.val (.int x0), .val (.int x1)] [] := by first | (simp [entryFrame, mkF, argsToLocals, Value.category]; done) | rfl
set_option maxRecDepth 65536 in
set_option maxHeartbeats 40000000 in
theorem rmcl (l : Launch) (Z : State) (a0 : Array Value) (hw : ∀ d ∈ tables_1, d.before a0 Z = true) (ws : List Jvm.Cond) (p1 : Int32) (p2 : Int32) (h0 : Heap) (n0 : Nat) (O0 : Old Z n0 h0) (h1 : ¬ p2 < p1) :
    MetFree l (⟨"java/util/Arrays", "checkLength", "(II)V"⟩ : MethodName) (head1 (Jvm.Cond.code (⟨"java/util/Arrays", "checkLength", "(II)V"⟩ : MethodName) jdk_65_method_131_code 2 none :: ws) ({ frames := 0, cells := 0, slots := 0, locals := 0 } : Room)) (fun a U => a = #[(.int p1), (.int p2)] ∧ Z.Warmed39 U.vm ∧ U.heap = h0) (fun _ _ _ _ _ => True) (fun _ U o U' => ∃ v L, o = .returned v ∧ Qpure none h0 n0 v U'.heap L ∧ FrameEnd U o U' L ({ frames := 0, cells := 0, slots := 0, locals := 0 } : Room).cells ({ frames := 0, cells := 0, slots := 0, locals := 0 } : Room).slots) := by
  refine MetFree.of_bodySF (plainFor_of_name pn5) hisR ?_
  intro p e s m args below meth c s₁ Bd hml0 hP hK
  obtain ⟨rfl, hZ, hh⟩ := hP
  have hx := Bd.exec
  have hby := Bd.bytes
  have hml : c.maxLocals = 2 := hml0
  have hown : s.vm.findClass "java/util/Arrays" = some m.cls := findClass_of_methodNamed Bd.named
  have hnm := (name_of_methodNamed Bd.named Bd.method).1
  have X0 : Stand p l e ({ frames := 0, cells := 0, slots := 0, locals := 0 } : Room) s m #[(.int p1), (.int p2)] below meth c s₁ [] 0 0 := Stand.of_body Bd
  have e0 : s₁.heap = h0 := by rw [← hh, Bd.state]; rfl
  have N0 := Fr.nil n0
  have pre0 : ∀ t, Steps p.tables e below (s₁.setTop (mkF m 0 #[.val (.int p1), .val (.int p2)] [])) t → Steps p.tables e below (s₁.setTop (entryFrame m #[(.int p1), (.int p2)] 2)) t := fun t k => castTop (ef_rmcl m p1 p2) k
  obtain ⟨fs, hr, hrun, hended, hW, hsame⟩ := X0.leave (v := none) (fun _ => rfl)
  refine ⟨_, _, pre0 _ ?_, hrun, hended, _, _, rfl, ?_, ⟨_, rfl⟩, hW, hsame.mono (by decide) (by decide)⟩
  · show Steps p.tables e below (s₁.setTop (mkF m 0 #[.val (.int p1), .val (.int p2)] [])) _
    refine XS.iloadN X0.here hx rfl (hb hby d24_0) rfl ?_
    refine XS.iloadN X0.here hx rfl (hb hby d24_1) rfl ?_
    refine XS.icmpYes X0.here hx rfl (pc0 := 2) (pc' := 37) rfl (hb hby d24_2) rfl (flt h1).2.1 (by decide) (by decide) ?_
    show Steps p.tables e below (s₁.setTop (mkF m 37 #[.val (.int p1), .val (.int p2)] [])) _
    exact X0.returnOut hx Bd.returns (hb hby d24_37) hr
  · show Qpure none h0 n0 _ s₁.heap _
    rw [e0]
    exact ⟨rfl, N0, rfl⟩
theorem d16_9 : decode jdk_29_method_69_code 9 = .ok (.iload_n 1, 1) := by decide +kernel
theorem ef_rmmin2 (m : MethodId) (x0 : Int32) (x1 : Int32) : entryFrame m #[(.int x0), (.int x1)] 2 = mkF m 0 #[.val (.int x0), .val (.int x1)] [] := by first | (simp [entryFrame, mkF, argsToLocals, Value.category]; done) | rfl
theorem pf_rmmin2 : plainFor (⟨"java/lang/Math", "min", "(II)I"⟩ : MethodName) = true := Jvm.Free.JP.mathPlain rfl (by decide +kernel)
set_option maxRecDepth 65536 in
set_option maxHeartbeats 40000000 in
theorem rmmin2 (l : Launch) (Z : State) (a0 : Array Value) (hw : ∀ d ∈ tables_1, d.before a0 Z = true) (ws : List Jvm.Cond) (p1 : Int32) (p2 : Int32) (h0 : Heap) (n0 : Nat) (O0 : Old Z n0 h0) (hp : ¬ p1 < p2) :
    MetFree l (⟨"java/lang/Math", "min", "(II)I"⟩ : MethodName) (head1 (Jvm.Cond.code (⟨"java/lang/Math", "min", "(II)I"⟩ : MethodName) jdk_29_method_69_code 2 (some .int) :: ws) ({ frames := 0, cells := 0, slots := 0, locals := 0 } : Room)) (fun a U => a = #[(.int p1), (.int p2)] ∧ Z.Warmed39 U.vm ∧ U.heap = h0) (fun _ _ _ _ _ => True) (fun _ U o U' => ∃ v L, o = .returned v ∧ Qpure (some (.int p2)) h0 n0 v U'.heap L ∧ FrameEnd U o U' L ({ frames := 0, cells := 0, slots := 0, locals := 0 } : Room).cells ({ frames := 0, cells := 0, slots := 0, locals := 0 } : Room).slots) := by
  refine MetFree.of_bodySF pf_rmmin2 hisR ?_
  intro p e s m args below meth c s₁ Bd hml0 hP hK
  obtain ⟨rfl, hZ, hh⟩ := hP
  have hx := Bd.exec
  have hby := Bd.bytes
  have hml : c.maxLocals = 2 := hml0
  have hown : s.vm.findClass "java/lang/Math" = some m.cls := findClass_of_methodNamed Bd.named
  have hnm := (name_of_methodNamed Bd.named Bd.method).1
  have X0 : Stand p l e ({ frames := 0, cells := 0, slots := 0, locals := 0 } : Room) s m #[(.int p1), (.int p2)] below meth c s₁ [] 0 0 := Stand.of_body Bd
  have e0 : s₁.heap = h0 := by rw [← hh, Bd.state]; rfl
  have N0 := Fr.nil n0
  have pre0 : ∀ t, Steps p.tables e below (s₁.setTop (mkF m 0 #[.val (.int p1), .val (.int p2)] [])) t → Steps p.tables e below (s₁.setTop (entryFrame m #[(.int p1), (.int p2)] 2)) t := fun t k => castTop (ef_rmmin2 m p1 p2) k
  by_cases hc2 : p2 < p1
  · obtain ⟨fs, hr, hrun, hended, hW, hsame⟩ := X0.leave (v := some (.int p2)) (fun h => by rw [Bd.returns] at h; cases h)
    refine ⟨_, _, pre0 _ ?_, hrun, hended, _, _, rfl, ?_, ⟨_, rfl⟩, hW, hsame.mono (by decide) (by decide)⟩
    · show Steps p.tables e below (s₁.setTop (mkF m 0 #[.val (.int p1), .val (.int p2)] [])) _
      refine XS.iloadN X0.here hx rfl (hb hby d16_0) rfl ?_
      refine XS.iloadN X0.here hx rfl (hb hby d16_1) rfl ?_
      refine XS.icmpYes X0.here hx rfl (pc0 := 2) (pc' := 9) rfl (hb hby d16_2) rfl (tlt hc2).2.2.1 (by decide) (by decide) ?_
      refine XS.iloadN X0.here hx rfl (hb hby d16_9) rfl ?_
      show Steps p.tables e below (s₁.setTop (mkF m 10 #[.val (.int p1), .val (.int p2)] [(.int p2)])) _
      exact retI X0 hx Bd.returns (hb hby d16_10) hr
    · show Qpure (some (.int p2)) h0 n0 _ s₁.heap _
      rw [e0]
      exact ⟨rfl, N0, rfl⟩
  · obtain ⟨fs, hr, hrun, hended, hW, hsame⟩ := X0.leave (v := some (.int p1)) (fun h => by rw [Bd.returns] at h; cases h)
    refine ⟨_, _, pre0 _ ?_, hrun, hended, _, _, rfl, ?_, ⟨_, rfl⟩, hW, hsame.mono (by decide) (by decide)⟩
    · show Steps p.tables e below (s₁.setTop (mkF m 0 #[.val (.int p1), .val (.int p2)] [])) _
      refine XS.iloadN X0.here hx rfl (hb hby d16_0) rfl ?_
      refine XS.iloadN X0.here hx rfl (hb hby d16_1) rfl ?_
      refine XS.icmpNo X0.here hx rfl (hb hby d16_2) rfl (flt hc2).2.2.1 ?_
      refine XS.iloadN X0.here hx rfl (hb hby d16_5) rfl ?_
      refine XS.goto X0.here hx rfl (pc0 := 6) (pc' := 10) rfl (hb hby d16_6) (by decide) (by decide) ?_
      show Steps p.tables e below (s₁.setTop (mkF m 10 #[.val (.int p1), .val (.int p2)] [(.int p1)])) _
      exact retI X0 hx Bd.returns (hb hby d16_10) hr
    · show Qpure (some (.int p2)) h0 n0 _ s₁.heap _
      rw [e0]
      exact ⟨by rw [own_anti hc2 hp], N0, rfl⟩
theorem d23_0 : decode jdk_65_method_137_code 0 = .ok (.iload_n 1, 1) := by decide +kernel
theorem d23_1 : decode jdk_65_method_137_code 1 = .ok (.iload_n 2, 1) := by decide +kernel
theorem d23_2 : decode jdk_65_method_137_code 2 = .ok (.invokestatic 343, 3) := by decide +kernel
theorem pd11 : parseMethodDescriptor "(II)V" = some ⟨[.int, .int], none⟩ := by decide +kernel
theorem d23_5 : decode jdk_65_method_137_code 5 = .ok (.iload_n 2, 1) := by decide +kernel
theorem d23_6 : decode jdk_65_method_137_code 6 = .ok (.iload_n 1, 1) := by decide +kernel
theorem d23_7 : decode jdk_65_method_137_code 7 = .ok (.isub, 1) := by decide +kernel
theorem d23_8 : decode jdk_65_method_137_code 8 = .ok (.istore_n 3, 1) := by decide +kernel
theorem d23_9 : decode jdk_65_method_137_code 9 = .ok (.iload_n 3, 1) := by decide +kernel
theorem d23_10 : decode jdk_65_method_137_code 10 = .ok (.newarray .int, 2) := by decide +kernel
theorem d23_12 : decode jdk_65_method_137_code 12 = .ok (.astore 4, 2) := by decide +kernel
theorem d23_14 : decode jdk_65_method_137_code 14 = .ok (.aload_n 0, 1) := by decide +kernel
theorem d23_15 : decode jdk_65_method_137_code 15 = .ok (.iload_n 1, 1) := by decide +kernel
theorem d23_16 : decode jdk_65_method_137_code 16 = .ok (.aload 4, 2) := by decide +kernel
theorem d23_18 : decode jdk_65_method_137_code 18 = .ok (.iconst 0, 1) := by decide +kernel
theorem d23_19 : decode jdk_65_method_137_code 19 = .ok (.aload_n 0, 1) := by decide +kernel
theorem d23_20 : decode jdk_65_method_137_code 20 = .ok (.arraylength, 1) := by decide +kernel
theorem d23_21 : decode jdk_65_method_137_code 21 = .ok (.iload_n 1, 1) := by decide +kernel
theorem d23_22 : decode jdk_65_method_137_code 22 = .ok (.isub, 1) := by decide +kernel
theorem d23_23 : decode jdk_65_method_137_code 23 = .ok (.iload_n 3, 1) := by decide +kernel
theorem d23_24 : decode jdk_65_method_137_code 24 = .ok (.invokestatic 304, 3) := by decide +kernel
theorem d23_27 : decode jdk_65_method_137_code 27 = .ok (.invokestatic 150, 3) := by decide +kernel
theorem d23_30 : decode jdk_65_method_137_code 30 = .ok (.aload 4, 2) := by decide +kernel
theorem d23_32 : decode jdk_65_method_137_code 32 = .ok (.areturn, 1) := by decide +kernel
theorem ef_rmcri (m : MethodId) (x0 : Addr) (x1 : Int32) (x2 : Int32) : entryFrame m #[(.ref x0), (.int x1), (.int x2)] 5 = mkF m 0 #[.val (.ref x0), .val (.int x1), .val (.int x2), .unset, .unset] [] := by first | (simp [entryFrame, mkF, argsToLocals, Value.category]; done) | rfl
set_option maxRecDepth 65536 in
set_option maxHeartbeats 40000000 in
theorem rmcri (l : Launch) (Z : State) (a0 : Array Value) (hw : ∀ d ∈ tables_1, d.before a0 Z = true) (ws : List Jvm.Cond) (a1 : Addr) (ka : ClassId) (vs : List Int32) (on : Nat) (cn : Nat) (h0 : Heap) (n0 : Nat) (O0 : Old Z n0 h0) (VA : Arv Z h0 a1 ka .int (Int32.ofNat vs.length) (vs.map Value.int) (.int 0)) (hv : vs.length ≤ 8) (hon : on ≤ cn) (hcv : cn ≤ vs.length) (hc4 : cn ≤ 4) :
    MetFree l (⟨"java/util/Arrays", "copyOfRangeInt", "([III)[I"⟩ : MethodName) (head1 (Jvm.Cond.code (⟨"java/util/Arrays", "copyOfRangeInt", "([III)[I"⟩ : MethodName) jdk_65_method_137_code 5 (some (.array .int)) :: ws) ({ frames := 1, cells := 1, slots := 4, locals := 18 } : Room)) (fun a U => a = #[(.ref a1), (.int (Int32.ofNat on)), (.int (Int32.ofNat cn))] ∧ Z.Warmed39 U.vm ∧ U.heap = h0) (fun _ _ _ _ _ => True) (fun _ U o U' => ∃ v L, o = .returned v ∧ Qcr Z vs on cn h0 n0 v U'.heap L ∧ FrameEnd U o U' L ({ frames := 1, cells := 1, slots := 4, locals := 18 } : Room).cells ({ frames := 1, cells := 1, slots := 4, locals := 18 } : Room).slots) := by
  refine MetFree.of_bodySF (plainFor_of_name pn5) hisR ?_
  intro p e s m args below meth c s₁ Bd hml0 hP hK
  obtain ⟨rfl, hZ, hh⟩ := hP
  have hx := Bd.exec
  have hby := Bd.bytes
  have hml : c.maxLocals = 5 := hml0
  have hown : s.vm.findClass "java/util/Arrays" = some m.cls := findClass_of_methodNamed Bd.named
  have hnm := (name_of_methodNamed Bd.named Bd.method).1
  have X0 : Stand p l e ({ frames := 1, cells := 1, slots := 4, locals := 18 } : Room) s m #[(.ref a1), (.int (Int32.ofNat on)), (.int (Int32.ofNat cn))] below meth c s₁ [] 0 0 := Stand.of_body Bd
  have e0 : s₁.heap = h0 := by rw [← hh, Bd.state]; rfl
  have N0 := Fr.nil n0
  have pre0 : ∀ t, Steps p.tables e below (s₁.setTop (mkF m 0 #[.val (.ref a1), .val (.int (Int32.ofNat on)), .val (.int (Int32.ofNat cn)), .unset, .unset] [])) t → Steps p.tables e below (s₁.setTop (entryFrame m #[(.ref a1), (.int (Int32.ofNat on)), (.int (Int32.ofNat cn))] 5)) t := fun t k => castTop (ef_rmcri m a1 (Int32.ofNat on) (Int32.ofNat cn)) k
  have hNA : (Int32.ofNat vs.length).toNatClampNeg = vs.length := own_n hv
  have lt_a1 := VA.lt
  have hln : Int32.ofNat cn - Int32.ofNat on = Int32.ofNat (cn - on) := own_subn hon (by omega)
  obtain ⟨_, _, ⟨T1, L1, k1, n1⟩, -, X1, ⟨Lc1, hQ1, l1, y1, z1⟩, st1⟩ := Jvm.LawKit.callS X0 hx (y := (⟨"java/util/Arrays", "checkLength", "(II)V"⟩ : MethodName)) hown (mvT hZ (hw _ (List.mem_of_getElem? (i := 123) rfl))) (mvT hZ (hw _ (List.mem_of_getElem? (i := 124) rfl))) (mvT hZ (hw _ (List.mem_of_getElem? (i := 75) rfl))) (mvT hZ (hw _ (List.mem_of_getElem? (i := 125) rfl))) (by decide) (backOf (W := 0) (rmcl l Z a0 hw [] (Int32.ofNat on) (Int32.ofNat cn) h0 n0 O0 (fun q => absurd ((own_lt (by omega) (by omega)).mp q) (by omega))) hZ (hw _ (List.mem_of_getElem? (i := 125) rfl)) (hw _ (List.mem_of_getElem? (i := 75) rfl)) (by decide) (by decide)) (g := (mkF m 2 #[.val (.ref a1), .val (.int (Int32.ofNat on)), .val (.int (Int32.ofNat cn)), .unset, .unset] [(.int (Int32.ofNat cn)), (.int (Int32.ofNat on))])) rfl (by rw [hml]; rfl) (argsL := [(.int (Int32.ofNat on)), (.int (Int32.ofNat cn))]) (rest := []) (lenOf pd11 rfl) rfl (by show 2 * 0 + _ ≤ _; exact Nat.le_of_eq rfl) (hb hby d23_2) (fun _ _ => ⟨rfl, e0, (by decide : 0 + 0 ≤ _), (by decide : 0 + 0 ≤ _)⟩)
  dsimp only [Pt.U, Pt.locs, Pt.cells, Pt.slots] at X1 l1 y1 z1 st1 hQ1
  subst l1 y1 z1
  obtain ⟨rfl, Nq1, e1⟩ := hQ1
  have N1 := Fr.app N0 Nq1
  obtain ⟨T2, h2, k2, X2, e2, E2, A2, st2⟩ := newP X1 hx hZ (hw _ (List.mem_of_getElem? (i := 34) rfl)) e1 (g := (mkF m 10 #[.val (.ref a1), .val (.int (Int32.ofNat on)), .val (.int (Int32.ofNat cn)), .val (.int ((Int32.ofNat cn) - (Int32.ofNat on))), .unset] [(.int ((Int32.ofNat cn) - (Int32.ofNat on)))])) rfl (hb hby d23_10) rfl (by rw [hln]; exact own_nn (by omega)) (cap := 4) (by rw [hln, own_n (by omega)]; omega) (by decide) (by decide) (by decide)
  obtain ⟨b2, g2⟩ : ∃ z, z = h0.size := ⟨_, rfl⟩
  rw [← g2] at A2 st2
  have g_b2 : n0 ≤ b2 := by rw [g2]; exact Nat.le_trans (Nat.le_of_eq O0.1.symm) O0.2.1
  have sz_b2 : h0.size ≤ b2 := by rw [g2]; exact (Keep.refl h0 []).1
  have lt_a1_b2 : a1 < b2 := Nat.lt_of_lt_of_le lt_a1 sz_b2
  have O3 := O0.ext E2
  have kp4 : Keep h0 h2 [] := (Keep.refl h0 []).ext E2
  have V_b2 := (Arv.new A2 (by rw [hln]; exact own_nn (by omega)))
  have Vz2 : Arv Z h2 b2 k2 .int ((Int32.ofNat cn) - (Int32.ofNat on)) ((List.replicate (cn - on) (0 : Int32)).map Value.int) (.int 0) := by rw [List.map_replicate]; exact V_b2.pad (pad_rep [] (.int 0) (cn - on))
  obtain ⟨cl5, Ar5, q5, Sz5, Nn5, Ha5, Gf5⟩ := id (VA.ext E2)
  obtain ⟨_, _, ⟨T6, L6, k6, n6⟩, -, X6, ⟨Lc6, hQ6, l6, y6, z6⟩, st6⟩ := Jvm.LawKit.callS X2 hx (y := (⟨"java/lang/Math", "min", "(II)I"⟩ : MethodName)) hown (mvT hZ (hw _ (List.mem_of_getElem? (i := 86) rfl))) (mvT hZ (hw _ (List.mem_of_getElem? (i := 87) rfl))) (mvT hZ (hw _ (List.mem_of_getElem? (i := 88) rfl))) (mvT hZ (hw _ (List.mem_of_getElem? (i := 89) rfl))) (by decide) (backOf (W := 4) (rmmin2 l Z a0 hw [] ((Int32.ofNat vs.length) - (Int32.ofNat on)) ((Int32.ofNat cn) - (Int32.ofNat on)) h2 n0 O3 (by rw [hln, own_subn (by omega) (by omega)]; exact fun q => absurd ((own_lt (by omega) (by omega)).mp q) (by omega))) hZ (hw _ (List.mem_of_getElem? (i := 89) rfl)) (hw _ (List.mem_of_getElem? (i := 88) rfl)) (by decide) (by decide)) (g := (mkF m 24 #[.val (.ref a1), .val (.int (Int32.ofNat on)), .val (.int (Int32.ofNat cn)), .val (.int ((Int32.ofNat cn) - (Int32.ofNat on))), .val (.ref b2)] [(.int ((Int32.ofNat cn) - (Int32.ofNat on))), (.int ((Int32.ofNat vs.length) - (Int32.ofNat on))), (.int 0), (.ref b2), (.int (Int32.ofNat on)), (.ref a1)])) rfl (by rw [hml]; rfl) (argsL := [(.int ((Int32.ofNat vs.length) - (Int32.ofNat on))), (.int ((Int32.ofNat cn) - (Int32.ofNat on)))]) (rest := [(.int 0), (.ref b2), (.int (Int32.ofNat on)), (.ref a1)]) (lenOf pd7 rfl) rfl (by show 2 * 0 + _ ≤ _; exact Nat.le_of_eq rfl) (hb hby d23_24) (fun _ _ => ⟨rfl, e2, (by decide : 1 + 0 ≤ _), (by decide : 4 + 0 ≤ _)⟩)
  dsimp only [Pt.U, Pt.locs, Pt.cells, Pt.slots] at X6 l6 y6 z6 st6 hQ6
  subst l6 y6 z6
  obtain ⟨rfl, Nq6, e6⟩ := hQ6
  have N6 := Fr.app N1 Nq6
  obtain ⟨T7, h7, L7, X7, e7, N7, K7, Vr7, st7⟩ := cpA X6 hx hZ hown (hw _ (List.mem_of_getElem? (i := 90) rfl)) (hw _ (List.mem_of_getElem? (i := 93) rfl)) (hw _ (List.mem_of_getElem? (i := 91) rfl)) (hw _ (List.mem_of_getElem? (i := 92) rfl)) e6 (VA.ext E2) Vz2 (Or.inl ⟨rfl, rfl⟩) (sp := (Int32.ofNat on)) (dp := (0 : Int32)) (nn := ((Int32.ofNat cn) - (Int32.ofNat on))) (us := (((vs.drop on).take (cn - on)).map Value.int)) (own_nn (by omega)) (by decide) (by rw [hln]; exact own_nn (by omega)) (by rw [hln, own_n (by omega : on ≤ 8), own_n (by omega : cn - on ≤ 8), own_n (by omega : vs.length ≤ 8)]; omega) (by rw [hln, own_n (by omega : cn - on ≤ 8), show (0 : Int32).toNatClampNeg = 0 by decide]; omega) (own_us (own_n (by omega)) (by rw [hln]; exact own_n (by omega)) (by omega)) (by rw [List.length_map, List.length_replicate, hln, own_n (by omega : cn - on ≤ 8), show (0 : Int32).toNatClampNeg = 0 by decide]; omega) N6 g_b2 (g := (mkF m 27 #[.val (.ref a1), .val (.int (Int32.ofNat on)), .val (.int (Int32.ofNat cn)), .val (.int ((Int32.ofNat cn) - (Int32.ofNat on))), .val (.ref b2)] [(.int ((Int32.ofNat cn) - (Int32.ofNat on))), (.int 0), (.ref b2), (.int (Int32.ofNat on)), (.ref a1)])) rfl (by rw [hml]; rfl) rfl (hb hby d23_27) (by decide) (W := 0) (by show 2 * 0 + _ ≤ _; exact Nat.le_of_eq rfl) (by decide)
  have O8 := O3.keep K7 (allS g_b2 all0)
  have kp9 : Keep h0 h7 [] := kp4.trans K7 (allS (Or.inr sz_b2) all0)
  have Vc7 : Arv Z h7 b2 k2 .int (Int32.ofNat (cn - on)) (((vs.drop on).take (cn - on)).map Value.int) (.int 0) := by
    have q := Vr7
    rw [hln, own_n (by omega : cn - on ≤ 8), show (0 : Int32).toNatClampNeg = 0 by decide, Nat.zero_add, List.take_zero, List.nil_append, List.map_replicate, List.drop_replicate, Nat.sub_self, List.replicate_zero, List.append_nil] at q
    exact q
  obtain ⟨fs, hr, hrun, hended, hW, hsame⟩ := X7.leave (v := some (.ref b2)) (fun h => by rw [Bd.returns] at h; cases h)
  refine ⟨_, _, pre0 _ ?_, hrun, hended, _, _, rfl, ?_, ⟨_, rfl⟩, hW, hsame.mono (by decide) (by decide)⟩
  · show Steps p.tables e below (s₁.setTop (mkF m 0 #[.val (.ref a1), .val (.int (Int32.ofNat on)), .val (.int (Int32.ofNat cn)), .unset, .unset] [])) _
    refine XS.iloadN X0.here hx rfl (hb hby d23_0) rfl ?_
    refine XS.iloadN X0.here hx rfl (hb hby d23_1) rfl ?_
    show Steps p.tables e below (s₁.setTop (mkF m 2 #[.val (.ref a1), .val (.int (Int32.ofNat on)), .val (.int (Int32.ofNat cn)), .unset, .unset] [(.int (Int32.ofNat cn)), (.int (Int32.ofNat on))])) _
    refine st1 _ ?_
    show Steps p.tables e below (T1.setTop (mkF m 5 #[.val (.ref a1), .val (.int (Int32.ofNat on)), .val (.int (Int32.ofNat cn)), .unset, .unset] [])) _
    refine XS.iloadN X1.here hx rfl (hb hby d23_5) rfl ?_
    refine XS.iloadN X1.here hx rfl (hb hby d23_6) rfl ?_
    refine XS.isub X1.here hx rfl (hb hby d23_7) rfl ?_
    refine XS.istoreN X1.here hx rfl (hb hby d23_8) rfl (l' := #[.val (.ref a1), .val (.int (Int32.ofNat on)), .val (.int (Int32.ofNat cn)), .val (.int ((Int32.ofNat cn) - (Int32.ofNat on))), .unset]) rfl ?_
    refine XS.iloadN X1.here hx rfl (hb hby d23_9) rfl ?_
    show Steps p.tables e below (T1.setTop (mkF m 10 #[.val (.ref a1), .val (.int (Int32.ofNat on)), .val (.int (Int32.ofNat cn)), .val (.int ((Int32.ofNat cn) - (Int32.ofNat on))), .unset] [(.int ((Int32.ofNat cn) - (Int32.ofNat on)))])) _
    refine st2 _ ?_
    show Steps p.tables e below (T2.setTop (mkF m 12 #[.val (.ref a1), .val (.int (Int32.ofNat on)), .val (.int (Int32.ofNat cn)), .val (.int ((Int32.ofNat cn) - (Int32.ofNat on))), .unset] [(.ref b2)])) _
    refine XS.astore X2.here hx rfl (hb hby d23_12) rfl rfl (l' := #[.val (.ref a1), .val (.int (Int32.ofNat on)), .val (.int (Int32.ofNat cn)), .val (.int ((Int32.ofNat cn) - (Int32.ofNat on))), .val (.ref b2)]) rfl ?_
    refine XS.aloadN X2.here hx rfl (hb hby d23_14) rfl rfl ?_
    refine XS.iloadN X2.here hx rfl (hb hby d23_15) rfl ?_
    refine XS.aload X2.here hx rfl (hb hby d23_16) rfl rfl ?_
    refine XS.iconst X2.here hx rfl (hb hby d23_18) ?_
    refine XS.aloadN X2.here hx rfl (hb hby d23_19) rfl rfl ?_
    show Steps p.tables e below (T2.setTop (mkF m 20 #[.val (.ref a1), .val (.int (Int32.ofNat on)), .val (.int (Int32.ofNat cn)), .val (.int ((Int32.ofNat cn) - (Int32.ofNat on))), .val (.ref b2)] [(.ref a1), (.int 0), (.ref b2), (.int (Int32.ofNat on)), (.ref a1)])) _
    refine X2.arraylength hx (by rw [e2]; exact Ar5.1) (State.isArrayOf_alike hZ.alike Ar5.2.1) (g := (mkF m 20 #[.val (.ref a1), .val (.int (Int32.ofNat on)), .val (.int (Int32.ofNat cn)), .val (.int ((Int32.ofNat cn) - (Int32.ofNat on))), .val (.ref b2)] [(.ref a1), (.int 0), (.ref b2), (.int (Int32.ofNat on)), (.ref a1)])) rfl rfl (hb hby d23_20) _ ?_
    rw [len_of Sz5 Nn5]
    show Steps p.tables e below (T2.setTop (mkF m 21 #[.val (.ref a1), .val (.int (Int32.ofNat on)), .val (.int (Int32.ofNat cn)), .val (.int ((Int32.ofNat cn) - (Int32.ofNat on))), .val (.ref b2)] [(.int (Int32.ofNat vs.length)), (.int 0), (.ref b2), (.int (Int32.ofNat on)), (.ref a1)])) _
    refine XS.iloadN X2.here hx rfl (hb hby d23_21) rfl ?_
    refine XS.isub X2.here hx rfl (hb hby d23_22) rfl ?_
    refine XS.iloadN X2.here hx rfl (hb hby d23_23) rfl ?_
    show Steps p.tables e below (T2.setTop (mkF m 24 #[.val (.ref a1), .val (.int (Int32.ofNat on)), .val (.int (Int32.ofNat cn)), .val (.int ((Int32.ofNat cn) - (Int32.ofNat on))), .val (.ref b2)] [(.int ((Int32.ofNat cn) - (Int32.ofNat on))), (.int ((Int32.ofNat vs.length) - (Int32.ofNat on))), (.int 0), (.ref b2), (.int (Int32.ofNat on)), (.ref a1)])) _
    refine st6 _ ?_
    show Steps p.tables e below (T6.setTop (mkF m 27 #[.val (.ref a1), .val (.int (Int32.ofNat on)), .val (.int (Int32.ofNat cn)), .val (.int ((Int32.ofNat cn) - (Int32.ofNat on))), .val (.ref b2)] [(.int ((Int32.ofNat cn) - (Int32.ofNat on))), (.int 0), (.ref b2), (.int (Int32.ofNat on)), (.ref a1)])) _
    refine st7 _ ?_
    show Steps p.tables e below (T7.setTop (mkF m 30 #[.val (.ref a1), .val (.int (Int32.ofNat on)), .val (.int (Int32.ofNat cn)), .val (.int ((Int32.ofNat cn) - (Int32.ofNat on))), .val (.ref b2)] [])) _
    refine XS.aload X7.here hx rfl (hb hby d23_30) rfl rfl ?_
    show Steps p.tables e below (T7.setTop (mkF m 32 #[.val (.ref a1), .val (.int (Int32.ofNat on)), .val (.int (Int32.ofNat cn)), .val (.int ((Int32.ofNat cn) - (Int32.ofNat on))), .val (.ref b2)] [(.ref b2)])) _
    exact retOut X7 hx Bd.returns rfl (Or.inr (Or.inr (Or.inr (Or.inr ⟨rfl, rfl, rfl⟩)))) (hb hby d23_32) hr
  · show Qcr Z vs on cn h0 n0 _ T7.heap _
    rw [e7]
    exact ⟨b2, _, rfl, N7, kp9, sz_b2, Vc7⟩
theorem d22_0 : decode jdk_65_method_136_code 0 = .ok (.iload_n 1, 1) := by decide +kernel
theorem d22_1 : decode jdk_65_method_136_code 1 = .ok (.ifCond .ne 9, 3) := by decide +kernel
theorem d22_10 : decode jdk_65_method_136_code 10 = .ok (.aload_n 0, 1) := by decide +kernel
theorem d22_11 : decode jdk_65_method_136_code 11 = .ok (.iload_n 1, 1) := by decide +kernel
theorem d22_12 : decode jdk_65_method_136_code 12 = .ok (.iload_n 2, 1) := by decide +kernel
theorem d22_13 : decode jdk_65_method_136_code 13 = .ok (.invokestatic 351, 3) := by decide +kernel
theorem pd12 : parseMethodDescriptor "([III)[I" = some ⟨[(.array .int), .int, .int], some (.array .int)⟩ := by decide +kernel
theorem d22_16 : decode jdk_65_method_136_code 16 = .ok (.areturn, 1) := by decide +kernel
theorem ef_rmcrr (m : MethodId) (x0 : Addr) (x1 : Int32) (x2 : Int32) : entryFrame m #[(.ref x0), (.int x1), (.int x2)] 3 = mkF m 0 #[.val (.ref x0), .val (.int x1), .val (.int x2)] [] := by first | (simp [entryFrame, mkF, argsToLocals, Value.category]; done) | rfl
set_option maxRecDepth 65536 in
set_option maxHeartbeats 40000000 in
theorem rmcrr (l : Launch) (Z : State) (a0 : Array Value) (hw : ∀ d ∈ tables_1, d.before a0 Z = true) (ws : List Jvm.Cond) (a1 : Addr) (ka : ClassId) (vs : List Int32) (on : Nat) (cn : Nat) (h0 : Heap) (n0 : Nat) (O0 : Old Z n0 h0) (VA : Arv Z h0 a1 ka .int (Int32.ofNat vs.length) (vs.map Value.int) (.int 0)) (hv : vs.length ≤ 8) (hon : on ≤ cn) (hcv : cn ≤ vs.length) (hc4 : cn ≤ 4) (ho1 : 1 ≤ on) :
    MetFree l (⟨"java/util/Arrays", "copyOfRange", "([III)[I"⟩ : MethodName) (head1 (Jvm.Cond.code (⟨"java/util/Arrays", "copyOfRange", "([III)[I"⟩ : MethodName) jdk_65_method_136_code 3 (some (.array .int)) :: ws) ({ frames := 2, cells := 1, slots := 4, locals := 34 } : Room)) (fun a U => a = #[(.ref a1), (.int (Int32.ofNat on)), (.int (Int32.ofNat cn))] ∧ Z.Warmed39 U.vm ∧ U.heap = h0) (fun _ _ _ _ _ => True) (fun _ U o U' => ∃ v L, o = .returned v ∧ Qcr Z vs on cn h0 n0 v U'.heap L ∧ FrameEnd U o U' L ({ frames := 2, cells := 1, slots := 4, locals := 34 } : Room).cells ({ frames := 2, cells := 1, slots := 4, locals := 34 } : Room).slots) := by
  refine MetFree.of_bodySF (plainFor_of_name pn5) hisR ?_
  intro p e s m args below meth c s₁ Bd hml0 hP hK
  obtain ⟨rfl, hZ, hh⟩ := hP
  have hx := Bd.exec
  have hby := Bd.bytes
  have hml : c.maxLocals = 3 := hml0
  have hown : s.vm.findClass "java/util/Arrays" = some m.cls := findClass_of_methodNamed Bd.named
  have hnm := (name_of_methodNamed Bd.named Bd.method).1
  have X0 : Stand p l e ({ frames := 2, cells := 1, slots := 4, locals := 34 } : Room) s m #[(.ref a1), (.int (Int32.ofNat on)), (.int (Int32.ofNat cn))] below meth c s₁ [] 0 0 := Stand.of_body Bd
  have e0 : s₁.heap = h0 := by rw [← hh, Bd.state]; rfl
  have N0 := Fr.nil n0
  have pre0 : ∀ t, Steps p.tables e below (s₁.setTop (mkF m 0 #[.val (.ref a1), .val (.int (Int32.ofNat on)), .val (.int (Int32.ofNat cn))] [])) t → Steps p.tables e below (s₁.setTop (entryFrame m #[(.ref a1), (.int (Int32.ofNat on)), (.int (Int32.ofNat cn))] 3)) t := fun t k => castTop (ef_rmcrr m a1 (Int32.ofNat on) (Int32.ofNat cn)) k
  have hNA : (Int32.ofNat vs.length).toNatClampNeg = vs.length := own_n hv
  have lt_a1 := VA.lt
  have hln : Int32.ofNat cn - Int32.ofNat on = Int32.ofNat (cn - on) := own_subn hon (by omega)
  obtain ⟨_, _, ⟨T1, L1, k1, n1⟩, -, X1, ⟨Lc1, hQ1, l1, y1, z1⟩, st1⟩ := Jvm.LawKit.callS X0 hx (y := (⟨"java/util/Arrays", "copyOfRangeInt", "([III)[I"⟩ : MethodName)) hown (mvT hZ (hw _ (List.mem_of_getElem? (i := 120) rfl))) (mvT hZ (hw _ (List.mem_of_getElem? (i := 121) rfl))) (mvT hZ (hw _ (List.mem_of_getElem? (i := 75) rfl))) (mvT hZ (hw _ (List.mem_of_getElem? (i := 122) rfl))) (by decide) (backOf (W := 0) (rmcri l Z a0 hw [] a1 ka vs on cn h0 n0 O0 VA hv hon hcv hc4) hZ (hw _ (List.mem_of_getElem? (i := 122) rfl)) (hw _ (List.mem_of_getElem? (i := 75) rfl)) (by decide) (by decide)) (g := (mkF m 13 #[.val (.ref a1), .val (.int (Int32.ofNat on)), .val (.int (Int32.ofNat cn))] [(.int (Int32.ofNat cn)), (.int (Int32.ofNat on)), (.ref a1)])) rfl (by rw [hml]; rfl) (argsL := [(.ref a1), (.int (Int32.ofNat on)), (.int (Int32.ofNat cn))]) (rest := []) (lenOf pd12 rfl) rfl (by show 2 * 0 + _ ≤ _; exact Nat.le_of_eq rfl) (hb hby d22_13) (fun _ _ => ⟨rfl, e0, (by decide : 0 + 1 ≤ _), (by decide : 0 + 4 ≤ _)⟩)
  dsimp only [Pt.U, Pt.locs, Pt.cells, Pt.slots] at X1 l1 y1 z1 st1 hQ1
  subst l1 y1 z1
  obtain ⟨h1, e1⟩ : ∃ z, T1.heap = z := ⟨_, rfl⟩
  rw [e1] at hQ1
  obtain ⟨b1, kb1, rfl, Nq1, K1, szb1, Vb1⟩ := hQ1
  have N1 := Fr.app N0 Nq1
  have O2 := O0.keep K1 all0
  have kp3 : Keep h0 h1 [] := (Keep.refl h0 []).trans K1 all0
  obtain ⟨fs, hr, hrun, hended, hW, hsame⟩ := X1.leave (v := some (.ref b1)) (fun h => by rw [Bd.returns] at h; cases h)
  refine ⟨_, _, pre0 _ ?_, hrun, hended, _, _, rfl, ?_, ⟨_, rfl⟩, hW, hsame.mono (by decide) (by decide)⟩
  · show Steps p.tables e below (s₁.setTop (mkF m 0 #[.val (.ref a1), .val (.int (Int32.ofNat on)), .val (.int (Int32.ofNat cn))] [])) _
    refine XS.iloadN X0.here hx rfl (hb hby d22_0) rfl ?_
    refine XS.ifYes X0.here hx rfl (pc0 := 1) (pc' := 10) rfl (hb hby d22_1) rfl ((if0 _ _).trans (feq (fun q => absurd ((own_eq (by omega) (by omega : 0 ≤ 8)).mp q) (by omega))).2) (by decide) (by decide) ?_
    refine XS.aloadN X0.here hx rfl (hb hby d22_10) rfl rfl ?_
    refine XS.iloadN X0.here hx rfl (hb hby d22_11) rfl ?_
    refine XS.iloadN X0.here hx rfl (hb hby d22_12) rfl ?_
    show Steps p.tables e below (s₁.setTop (mkF m 13 #[.val (.ref a1), .val (.int (Int32.ofNat on)), .val (.int (Int32.ofNat cn))] [(.int (Int32.ofNat cn)), (.int (Int32.ofNat on)), (.ref a1)])) _
    refine st1 _ ?_
    show Steps p.tables e below (T1.setTop (mkF m 16 #[.val (.ref a1), .val (.int (Int32.ofNat on)), .val (.int (Int32.ofNat cn))] [(.ref b1)])) _
    exact retOut X1 hx Bd.returns rfl (Or.inr (Or.inr (Or.inr (Or.inr ⟨rfl, rfl, rfl⟩)))) (hb hby d22_16) hr
  · show Qcr Z vs on cn h0 n0 _ T1.heap _
    rw [e1]
    exact ⟨b1, _, rfl, N1, kp3, szb1, Vb1⟩
theorem pn9 : plainName "java/util/DualPivotQuicksort" = true := by first | (simp [plainName, overriddenIn]; done) | decide +kernel
theorem d28_0 : decode jdk_2529_method_6_code 0 = .ok (.iload_n 1, 1) := by decide +kernel
theorem d28_1 : decode jdk_2529_method_6_code 1 = .ok (.istore 4, 2) := by decide +kernel
theorem d28_3 : decode jdk_2529_method_6_code 3 = .ok (.iinc 4 1, 3) := by decide +kernel
theorem d28_6 : decode jdk_2529_method_6_code 6 = .ok (.iload 4, 2) := by decide +kernel
theorem d28_8 : decode jdk_2529_method_6_code 8 = .ok (.iload_n 2, 1) := by decide +kernel
theorem d28_9 : decode jdk_2529_method_6_code 9 = .ok (.if_icmp .ge 58, 3) := by decide +kernel
theorem d28_67 : decode jdk_2529_method_6_code 67 = .ok (.return_, 1) := by decide +kernel
theorem ef_rmis1 (m : MethodId) (x0 : Addr) (x1 : Int32) (x2 : Int32) : entryFrame m #[(.ref x0), (.int x1), (.int x2)] 6 = mkF m 0 #[.val (.ref x0), .val (.int x1), .val (.int x2), .unset, .unset, .unset] [] := by first | (simp [entryFrame, mkF, argsToLocals, Value.category]; done) | rfl
set_option maxRecDepth 65536 in
set_option maxHeartbeats 40000000 in
theorem rmis1 (l : Launch) (Z : State) (a0 : Array Value) (hw : ∀ d ∈ tables_1, d.before a0 Z = true) (ws : List Jvm.Cond) (a1 : Addr) (ka : ClassId) (x0 : Int32) (h0 : Heap) (n0 : Nat) (O0 : Old Z n0 h0) (VA : Arv Z h0 a1 ka .int (1 : Int32) [(.int x0)] (.int 0)) (g_a1 : n0 ≤ a1) :
    MetFree l (⟨"java/util/DualPivotQuicksort", "insertionSort", "([III)V"⟩ : MethodName) (head1 (Jvm.Cond.code (⟨"java/util/DualPivotQuicksort", "insertionSort", "([III)V"⟩ : MethodName) jdk_2529_method_6_code 6 none :: ws) ({ frames := 0, cells := 0, slots := 0, locals := 0 } : Room)) (fun a U => a = #[(.ref a1), (.int 0), (.int 1)] ∧ Z.Warmed39 U.vm ∧ U.heap = h0) (fun _ _ _ _ _ => True) (fun _ U o U' => ∃ v L, o = .returned v ∧ Qsrt Z a1 ka [x0] h0 n0 v U'.heap L ∧ FrameEnd U o U' L ({ frames := 0, cells := 0, slots := 0, locals := 0 } : Room).cells ({ frames := 0, cells := 0, slots := 0, locals := 0 } : Room).slots) := by
  refine MetFree.of_bodySF (plainFor_of_name pn9) hisR ?_
  intro p e s m args below meth c s₁ Bd hml0 hP hK
  obtain ⟨rfl, hZ, hh⟩ := hP
  have hx := Bd.exec
  have hby := Bd.bytes
  have hml : c.maxLocals = 6 := hml0
  have hown : s.vm.findClass "java/util/DualPivotQuicksort" = some m.cls := findClass_of_methodNamed Bd.named
  have hnm := (name_of_methodNamed Bd.named Bd.method).1
  have X0 : Stand p l e ({ frames := 0, cells := 0, slots := 0, locals := 0 } : Room) s m #[(.ref a1), (.int 0), (.int 1)] below meth c s₁ [] 0 0 := Stand.of_body Bd
  have e0 : s₁.heap = h0 := by rw [← hh, Bd.state]; rfl
  have N0 := Fr.nil n0
  have pre0 : ∀ t, Steps p.tables e below (s₁.setTop (mkF m 0 #[.val (.ref a1), .val (.int 0), .val (.int 1), .unset, .unset, .unset] [])) t → Steps p.tables e below (s₁.setTop (entryFrame m #[(.ref a1), (.int 0), (.int 1)] 6)) t := fun t k => castTop (ef_rmis1 m a1 (0 : Int32) (1 : Int32)) k
  have pf1 : ∀ target, Steps p.tables e below (s₁.setTop (mkF m 9 #[.val (.ref a1), .val (.int 0), .val (.int 1), .unset, .val (.int 1), .unset] [(.int 1), (.int 1)])) target → Steps p.tables e below (s₁.setTop (mkF m 0 #[.val (.ref a1), .val (.int 0), .val (.int 1), .unset, .unset, .unset] [])) target := by
    intro target k
    show Steps p.tables e below (s₁.setTop (mkF m 0 #[.val (.ref a1), .val (.int 0), .val (.int 1), .unset, .unset, .unset] [])) _
    refine XS.iloadN X0.here hx rfl (hb hby d28_0) rfl ?_
    refine XS.istore X0.here hx rfl (hb hby d28_1) rfl (l' := #[.val (.ref a1), .val (.int 0), .val (.int 1), .unset, .val (.int 0), .unset]) rfl ?_
    refine XS.iinc X0.here hx rfl (hb hby d28_3) rfl (l' := #[.val (.ref a1), .val (.int 0), .val (.int 1), .unset, .val (.int 1), .unset]) rfl ?_
    show Steps p.tables e below (s₁.setTop (mkF m 6 #[.val (.ref a1), .val (.int 0), .val (.int 1), .unset, .val (.int 1), .unset] [])) _
    refine XS.iload X0.here hx rfl (hb hby d28_6) rfl ?_
    refine XS.iloadN X0.here hx rfl (hb hby d28_8) rfl ?_
    exact k
  obtain ⟨fs, hr, hrun, hended, hW, hsame⟩ := X0.leave (v := none) (fun _ => rfl)
  refine ⟨_, _, pre0 _ ?_, hrun, hended, _, _, rfl, ?_, ⟨_, rfl⟩, hW, hsame.mono (by decide) (by decide)⟩
  · refine pf1 _ ?_
    show Steps p.tables e below (s₁.setTop (mkF m 9 #[.val (.ref a1), .val (.int 0), .val (.int 1), .unset, .val (.int 1), .unset] [(.int 1), (.int 1)])) _
    refine XS.icmpYes X0.here hx rfl (pc0 := 9) (pc' := 67) rfl (hb hby d28_9) rfl (flt (by decide)).2.1 (by decide) (by decide) ?_
    show Steps p.tables e below (s₁.setTop (mkF m 67 #[.val (.ref a1), .val (.int 0), .val (.int 1), .unset, .val (.int 1), .unset] [])) _
    exact X0.returnOut hx Bd.returns (hb hby d28_67) hr
  · show Qsrt Z a1 ka [x0] h0 n0 _ s₁.heap _
    rw [e0]
    exact ⟨rfl, N0, (Keep.refl h0 [a1]), by simp only [srtF]; exact VA⟩
theorem d27_0 : decode jdk_2529_method_4_code 0 = .ok (.iload 4, 2) := by decide +kernel
theorem d27_2 : decode jdk_2529_method_4_code 2 = .ok (.iconst 1, 1) := by decide +kernel
theorem d27_3 : decode jdk_2529_method_4_code 3 = .ok (.isub, 1) := by decide +kernel
theorem d27_4 : decode jdk_2529_method_4_code 4 = .ok (.istore 5, 2) := by decide +kernel
theorem d27_6 : decode jdk_2529_method_4_code 6 = .ok (.iload 4, 2) := by decide +kernel
theorem d27_8 : decode jdk_2529_method_4_code 8 = .ok (.iload_n 3, 1) := by decide +kernel
theorem d27_9 : decode jdk_2529_method_4_code 9 = .ok (.isub, 1) := by decide +kernel
theorem d27_10 : decode jdk_2529_method_4_code 10 = .ok (.istore 6, 2) := by decide +kernel
theorem d27_12 : decode jdk_2529_method_4_code 12 = .ok (.iload 6, 2) := by decide +kernel
theorem d27_14 : decode jdk_2529_method_4_code 14 = .ok (.bipush 65, 2) := by decide +kernel
theorem d27_16 : decode jdk_2529_method_4_code 16 = .ok (.iload_n 2, 1) := by decide +kernel
theorem d27_17 : decode jdk_2529_method_4_code 17 = .ok (.iadd, 1) := by decide +kernel
theorem d27_18 : decode jdk_2529_method_4_code 18 = .ok (.if_icmp .ge 28, 3) := by decide +kernel
theorem d27_21 : decode jdk_2529_method_4_code 21 = .ok (.iload_n 2, 1) := by decide +kernel
theorem d27_22 : decode jdk_2529_method_4_code 22 = .ok (.iconst 1, 1) := by decide +kernel
theorem d27_23 : decode jdk_2529_method_4_code 23 = .ok (.iand, 1) := by decide +kernel
theorem d27_24 : decode jdk_2529_method_4_code 24 = .ok (.ifCond .le 22, 3) := by decide +kernel
theorem d27_46 : decode jdk_2529_method_4_code 46 = .ok (.iload 6, 2) := by decide +kernel
theorem d27_48 : decode jdk_2529_method_4_code 48 = .ok (.bipush 44, 2) := by decide +kernel
theorem d27_50 : decode jdk_2529_method_4_code 50 = .ok (.if_icmp .ge 11, 3) := by decide +kernel
theorem d27_53 : decode jdk_2529_method_4_code 53 = .ok (.aload_n 1, 1) := by decide +kernel
theorem d27_54 : decode jdk_2529_method_4_code 54 = .ok (.iload_n 3, 1) := by decide +kernel
theorem d27_55 : decode jdk_2529_method_4_code 55 = .ok (.iload 4, 2) := by decide +kernel
theorem d27_57 : decode jdk_2529_method_4_code 57 = .ok (.invokestatic 34, 3) := by decide +kernel
theorem pd13 : parseMethodDescriptor "([III)V" = some ⟨[(.array .int), .int, .int], none⟩ := by decide +kernel
theorem d27_60 : decode jdk_2529_method_4_code 60 = .ok (.return_, 1) := by decide +kernel
theorem ef_rms5_1 (m : MethodId) (x1 : Addr) (x2 : Int32) (x3 : Int32) (x4 : Int32) : entryFrame m #[.null, (.ref x1), (.int x2), (.int x3), (.int x4)] 21 = mkF m 0 #[.val .null, .val (.ref x1), .val (.int x2), .val (.int x3), .val (.int x4), .unset, .unset, .unset, .unset, .unset, .unset, .unset, .unset, .unset, .unset, .unset, .unset, .unset, .unset, .unset, .unset] [] := by first | (simp [entryFrame, mkF, argsToLocals, Value.category]; done) | rfl
set_option maxRecDepth 65536 in
set_option maxHeartbeats 40000000 in
theorem rms5_1 (l : Launch) (Z : State) (a0 : Array Value) (hw : ∀ d ∈ tables_1, d.before a0 Z = true) (ws : List Jvm.Cond) (a1 : Addr) (ka : ClassId) (x0 : Int32) (h0 : Heap) (n0 : Nat) (O0 : Old Z n0 h0) (VA : Arv Z h0 a1 ka .int (1 : Int32) [(.int x0)] (.int 0)) (g_a1 : n0 ≤ a1) :
    MetFree l (⟨"java/util/DualPivotQuicksort", "sort", "(Ljava/util/DualPivotQuicksort$Sorter;[IIII)V"⟩ : MethodName) (head1 (Jvm.Cond.code (⟨"java/util/DualPivotQuicksort", "sort", "(Ljava/util/DualPivotQuicksort$Sorter;[IIII)V"⟩ : MethodName) jdk_2529_method_4_code 21 none :: ws) ({ frames := 1, cells := 0, slots := 0, locals := 17 } : Room)) (fun a U => a = #[.null, (.ref a1), (.int 0), (.int 0), (.int 1)] ∧ Z.Warmed39 U.vm ∧ U.heap = h0) (fun _ _ _ _ _ => True) (fun _ U o U' => ∃ v L, o = .returned v ∧ Qsrt Z a1 ka [x0] h0 n0 v U'.heap L ∧ FrameEnd U o U' L ({ frames := 1, cells := 0, slots := 0, locals := 17 } : Room).cells ({ frames := 1, cells := 0, slots := 0, locals := 17 } : Room).slots) := by
  refine MetFree.of_bodySF (plainFor_of_name pn9) hisR ?_
  intro p e s m args below meth c s₁ Bd hml0 hP hK
  obtain ⟨rfl, hZ, hh⟩ := hP
  have hx := Bd.exec
  have hby := Bd.bytes
  have hml : c.maxLocals = 21 := hml0
  have hown : s.vm.findClass "java/util/DualPivotQuicksort" = some m.cls := findClass_of_methodNamed Bd.named
  have hnm := (name_of_methodNamed Bd.named Bd.method).1
  have X0 : Stand p l e ({ frames := 1, cells := 0, slots := 0, locals := 17 } : Room) s m #[.null, (.ref a1), (.int 0), (.int 0), (.int 1)] below meth c s₁ [] 0 0 := Stand.of_body Bd
  have e0 : s₁.heap = h0 := by rw [← hh, Bd.state]; rfl
  have N0 := Fr.nil n0
  have pre0 : ∀ t, Steps p.tables e below (s₁.setTop (mkF m 0 #[.val .null, .val (.ref a1), .val (.int 0), .val (.int 0), .val (.int 1), .unset, .unset, .unset, .unset, .unset, .unset, .unset, .unset, .unset, .unset, .unset, .unset, .unset, .unset, .unset, .unset] [])) t → Steps p.tables e below (s₁.setTop (entryFrame m #[.null, (.ref a1), (.int 0), (.int 0), (.int 1)] 21)) t := fun t k => castTop (ef_rms5_1 m a1 (0 : Int32) (0 : Int32) (1 : Int32)) k
  have pf1 : ∀ target, Steps p.tables e below (s₁.setTop (mkF m 18 #[.val .null, .val (.ref a1), .val (.int 0), .val (.int 0), .val (.int 1), .val (.int 0), .val (.int 1), .unset, .unset, .unset, .unset, .unset, .unset, .unset, .unset, .unset, .unset, .unset, .unset, .unset, .unset] [(.int 65), (.int 1)])) target → Steps p.tables e below (s₁.setTop (mkF m 0 #[.val .null, .val (.ref a1), .val (.int 0), .val (.int 0), .val (.int 1), .unset, .unset, .unset, .unset, .unset, .unset, .unset, .unset, .unset, .unset, .unset, .unset, .unset, .unset, .unset, .unset] [])) target := by
    intro target k
    show Steps p.tables e below (s₁.setTop (mkF m 0 #[.val .null, .val (.ref a1), .val (.int 0), .val (.int 0), .val (.int 1), .unset, .unset, .unset, .unset, .unset, .unset, .unset, .unset, .unset, .unset, .unset, .unset, .unset, .unset, .unset, .unset] [])) _
    refine XS.iload X0.here hx rfl (hb hby d27_0) rfl ?_
    refine XS.iconst X0.here hx rfl (hb hby d27_2) ?_
    refine XS.isub X0.here hx rfl (hb hby d27_3) rfl ?_
    show Steps p.tables e below (s₁.setTop (mkF m 4 #[.val .null, .val (.ref a1), .val (.int 0), .val (.int 0), .val (.int 1), .unset, .unset, .unset, .unset, .unset, .unset, .unset, .unset, .unset, .unset, .unset, .unset, .unset, .unset, .unset, .unset] [(.int 0)])) _
    refine XS.istore X0.here hx rfl (hb hby d27_4) rfl (l' := #[.val .null, .val (.ref a1), .val (.int 0), .val (.int 0), .val (.int 1), .val (.int 0), .unset, .unset, .unset, .unset, .unset, .unset, .unset, .unset, .unset, .unset, .unset, .unset, .unset, .unset, .unset]) rfl ?_
    refine XS.iload X0.here hx rfl (hb hby d27_6) rfl ?_
    refine XS.iloadN X0.here hx rfl (hb hby d27_8) rfl ?_
    refine XS.isub X0.here hx rfl (hb hby d27_9) rfl ?_
    show Steps p.tables e below (s₁.setTop (mkF m 10 #[.val .null, .val (.ref a1), .val (.int 0), .val (.int 0), .val (.int 1), .val (.int 0), .unset, .unset, .unset, .unset, .unset, .unset, .unset, .unset, .unset, .unset, .unset, .unset, .unset, .unset, .unset] [(.int 1)])) _
    refine XS.istore X0.here hx rfl (hb hby d27_10) rfl (l' := #[.val .null, .val (.ref a1), .val (.int 0), .val (.int 0), .val (.int 1), .val (.int 0), .val (.int 1), .unset, .unset, .unset, .unset, .unset, .unset, .unset, .unset, .unset, .unset, .unset, .unset, .unset, .unset]) rfl ?_
    refine XS.iload X0.here hx rfl (hb hby d27_12) rfl ?_
    refine XS.bipush X0.here hx rfl (hb hby d27_14) ?_
    refine XS.iloadN X0.here hx rfl (hb hby d27_16) rfl ?_
    refine XS.iadd X0.here hx rfl (hb hby d27_17) rfl ?_
    exact k
  have pf2 : ∀ target, Steps p.tables e below (s₁.setTop (mkF m 50 #[.val .null, .val (.ref a1), .val (.int 0), .val (.int 0), .val (.int 1), .val (.int 0), .val (.int 1), .unset, .unset, .unset, .unset, .unset, .unset, .unset, .unset, .unset, .unset, .unset, .unset, .unset, .unset] [(.int 44), (.int 1)])) target → Steps p.tables e below (s₁.setTop (mkF m 18 #[.val .null, .val (.ref a1), .val (.int 0), .val (.int 0), .val (.int 1), .val (.int 0), .val (.int 1), .unset, .unset, .unset, .unset, .unset, .unset, .unset, .unset, .unset, .unset, .unset, .unset, .unset, .unset] [(.int 65), (.int 1)])) target := by
    intro target k
    show Steps p.tables e below (s₁.setTop (mkF m 18 #[.val .null, .val (.ref a1), .val (.int 0), .val (.int 0), .val (.int 1), .val (.int 0), .val (.int 1), .unset, .unset, .unset, .unset, .unset, .unset, .unset, .unset, .unset, .unset, .unset, .unset, .unset, .unset] [(.int 65), (.int 1)])) _
    refine XS.icmpNo X0.here hx rfl (hb hby d27_18) rfl (tlt (by decide)).2.1 ?_
    refine XS.iloadN X0.here hx rfl (hb hby d27_21) rfl ?_
    refine XS.iconst X0.here hx rfl (hb hby d27_22) ?_
    refine XS.iand X0.here hx rfl (hb hby d27_23) rfl ?_
    show Steps p.tables e below (s₁.setTop (mkF m 24 #[.val .null, .val (.ref a1), .val (.int 0), .val (.int 0), .val (.int 1), .val (.int 0), .val (.int 1), .unset, .unset, .unset, .unset, .unset, .unset, .unset, .unset, .unset, .unset, .unset, .unset, .unset, .unset] [(.int 0)])) _
    refine XS.ifYes X0.here hx rfl (pc0 := 24) (pc' := 46) rfl (hb hby d27_24) rfl ((if0 _ _).trans (flt (by decide)).2.2.2) (by decide) (by decide) ?_
    refine XS.iload X0.here hx rfl (hb hby d27_46) rfl ?_
    refine XS.bipush X0.here hx rfl (hb hby d27_48) ?_
    exact k
  obtain ⟨_, _, ⟨T3, L3, k3, n3⟩, -, X3, ⟨Lc3, hQ3, l3, y3, z3⟩, st3⟩ := Jvm.LawKit.callS X0 hx (y := (⟨"java/util/DualPivotQuicksort", "insertionSort", "([III)V"⟩ : MethodName)) hown (mvT hZ (hw _ (List.mem_of_getElem? (i := 136) rfl))) (mvT hZ (hw _ (List.mem_of_getElem? (i := 137) rfl))) (mvT hZ (hw _ (List.mem_of_getElem? (i := 131) rfl))) (mvT hZ (hw _ (List.mem_of_getElem? (i := 138) rfl))) (by decide) (backOf (W := 0) (rmis1 l Z a0 hw [] a1 ka x0 h0 n0 O0 VA g_a1) hZ (hw _ (List.mem_of_getElem? (i := 138) rfl)) (hw _ (List.mem_of_getElem? (i := 131) rfl)) (by decide) (by decide)) (g := (mkF m 57 #[.val .null, .val (.ref a1), .val (.int 0), .val (.int 0), .val (.int 1), .val (.int 0), .val (.int 1), .unset, .unset, .unset, .unset, .unset, .unset, .unset, .unset, .unset, .unset, .unset, .unset, .unset, .unset] [(.int 1), (.int 0), (.ref a1)])) rfl (by rw [hml]; rfl) (argsL := [(.ref a1), (.int 0), (.int 1)]) (rest := []) (lenOf pd13 rfl) rfl (by show 2 * 0 + _ ≤ _; exact Nat.le_of_eq rfl) (hb hby d27_57) (fun _ _ => ⟨rfl, e0, (by decide : 0 + 0 ≤ _), (by decide : 0 + 0 ≤ _)⟩)
  dsimp only [Pt.U, Pt.locs, Pt.cells, Pt.slots] at X3 l3 y3 z3 st3 hQ3
  subst l3 y3 z3
  obtain ⟨h3, e3⟩ : ∃ z, T3.heap = z := ⟨_, rfl⟩
  rw [e3] at hQ3
  obtain ⟨rfl, Nq3, K3, V3q⟩ := hQ3
  have N3 := Fr.app N0 Nq3
  have O4 := O0.keep K3 (allS g_a1 all0)
  have kp5 : Keep h0 h3 [a1] := (Keep.refl h0 [a1]).trans K3 (allS (Or.inl (List.mem_of_getElem? (i := 0) rfl)) all0)
  obtain ⟨fs, hr, hrun, hended, hW, hsame⟩ := X3.leave (v := none) (fun _ => rfl)
  refine ⟨_, _, pre0 _ ?_, hrun, hended, _, _, rfl, ?_, ⟨_, rfl⟩, hW, hsame.mono (by decide) (by decide)⟩
  · refine pf1 _ ?_
    refine pf2 _ ?_
    show Steps p.tables e below (s₁.setTop (mkF m 50 #[.val .null, .val (.ref a1), .val (.int 0), .val (.int 0), .val (.int 1), .val (.int 0), .val (.int 1), .unset, .unset, .unset, .unset, .unset, .unset, .unset, .unset, .unset, .unset, .unset, .unset, .unset, .unset] [(.int 44), (.int 1)])) _
    refine XS.icmpNo X0.here hx rfl (hb hby d27_50) rfl (tlt (by decide)).2.1 ?_
    refine XS.aloadN X0.here hx rfl (hb hby d27_53) rfl rfl ?_
    refine XS.iloadN X0.here hx rfl (hb hby d27_54) rfl ?_
    refine XS.iload X0.here hx rfl (hb hby d27_55) rfl ?_
    show Steps p.tables e below (s₁.setTop (mkF m 57 #[.val .null, .val (.ref a1), .val (.int 0), .val (.int 0), .val (.int 1), .val (.int 0), .val (.int 1), .unset, .unset, .unset, .unset, .unset, .unset, .unset, .unset, .unset, .unset, .unset, .unset, .unset, .unset] [(.int 1), (.int 0), (.ref a1)])) _
    refine st3 _ ?_
    show Steps p.tables e below (T3.setTop (mkF m 60 #[.val .null, .val (.ref a1), .val (.int 0), .val (.int 0), .val (.int 1), .val (.int 0), .val (.int 1), .unset, .unset, .unset, .unset, .unset, .unset, .unset, .unset, .unset, .unset, .unset, .unset, .unset, .unset] [])) _
    exact X3.returnOut hx Bd.returns (hb hby d27_60) hr
  · show Qsrt Z a1 ka [x0] h0 n0 _ T3.heap _
    rw [e3]
    exact ⟨rfl, N3, kp5, V3q⟩
theorem d26_0 : decode jdk_2529_method_3_code 0 = .ok (.iload_n 3, 1) := by decide +kernel
theorem d26_1 : decode jdk_2529_method_3_code 1 = .ok (.iload_n 2, 1) := by decide +kernel
theorem d26_2 : decode jdk_2529_method_3_code 2 = .ok (.isub, 1) := by decide +kernel
theorem d26_3 : decode jdk_2529_method_3_code 3 = .ok (.istore 4, 2) := by decide +kernel
theorem d26_5 : decode jdk_2529_method_3_code 5 = .ok (.iload_n 1, 1) := by decide +kernel
theorem d26_6 : decode jdk_2529_method_3_code 6 = .ok (.iconst 1, 1) := by decide +kernel
theorem d26_7 : decode jdk_2529_method_3_code 7 = .ok (.if_icmp .le 61, 3) := by decide +kernel
theorem d26_68 : decode jdk_2529_method_3_code 68 = .ok (.aconst_null, 1) := by decide +kernel
theorem d26_69 : decode jdk_2529_method_3_code 69 = .ok (.aload_n 0, 1) := by decide +kernel
theorem d26_70 : decode jdk_2529_method_3_code 70 = .ok (.iconst 0, 1) := by decide +kernel
theorem d26_71 : decode jdk_2529_method_3_code 71 = .ok (.iload_n 2, 1) := by decide +kernel
theorem d26_72 : decode jdk_2529_method_3_code 72 = .ok (.iload_n 3, 1) := by decide +kernel
theorem d26_73 : decode jdk_2529_method_3_code 73 = .ok (.invokestatic 26, 3) := by decide +kernel
theorem pd14 : parseMethodDescriptor "(Ljava/util/DualPivotQuicksort$Sorter;[IIII)V" = some ⟨[(.object "java/util/DualPivotQuicksort$Sorter"), (.array .int), .int, .int, .int], none⟩ := by decide +kernel
theorem d26_76 : decode jdk_2529_method_3_code 76 = .ok (.return_, 1) := by decide +kernel
theorem ef_rms4_1 (m : MethodId) (x0 : Addr) (x1 : Int32) (x2 : Int32) (x3 : Int32) : entryFrame m #[(.ref x0), (.int x1), (.int x2), (.int x3)] 7 = mkF m 0 #[.val (.ref x0), .val (.int x1), .val (.int x2), .val (.int x3), .unset, .unset, .unset] [] := by first | (simp [entryFrame, mkF, argsToLocals, Value.category]; done) | rfl
set_option maxRecDepth 65536 in
set_option maxHeartbeats 40000000 in
theorem rms4_1 (l : Launch) (Z : State) (a0 : Array Value) (hw : ∀ d ∈ tables_1, d.before a0 Z = true) (ws : List Jvm.Cond) (a1 : Addr) (ka : ClassId) (x0 : Int32) (h0 : Heap) (n0 : Nat) (O0 : Old Z n0 h0) (VA : Arv Z h0 a1 ka .int (1 : Int32) [(.int x0)] (.int 0)) (g_a1 : n0 ≤ a1) :
    MetFree l (⟨"java/util/DualPivotQuicksort", "sort", "([IIII)V"⟩ : MethodName) (head1 (Jvm.Cond.code (⟨"java/util/DualPivotQuicksort", "sort", "([IIII)V"⟩ : MethodName) jdk_2529_method_3_code 7 none :: ws) ({ frames := 2, cells := 0, slots := 0, locals := 49 } : Room)) (fun a U => a = #[(.ref a1), (.int 0), (.int 0), (.int 1)] ∧ Z.Warmed39 U.vm ∧ U.heap = h0) (fun _ _ _ _ _ => True) (fun _ U o U' => ∃ v L, o = .returned v ∧ Qsrt Z a1 ka [x0] h0 n0 v U'.heap L ∧ FrameEnd U o U' L ({ frames := 2, cells := 0, slots := 0, locals := 49 } : Room).cells ({ frames := 2, cells := 0, slots := 0, locals := 49 } : Room).slots) := by
  refine MetFree.of_bodySF (plainFor_of_name pn9) hisR ?_
  intro p e s m args below meth c s₁ Bd hml0 hP hK
  obtain ⟨rfl, hZ, hh⟩ := hP
  have hx := Bd.exec
  have hby := Bd.bytes
  have hml : c.maxLocals = 7 := hml0
  have hown : s.vm.findClass "java/util/DualPivotQuicksort" = some m.cls := findClass_of_methodNamed Bd.named
  have hnm := (name_of_methodNamed Bd.named Bd.method).1
  have X0 : Stand p l e ({ frames := 2, cells := 0, slots := 0, locals := 49 } : Room) s m #[(.ref a1), (.int 0), (.int 0), (.int 1)] below meth c s₁ [] 0 0 := Stand.of_body Bd
  have e0 : s₁.heap = h0 := by rw [← hh, Bd.state]; rfl
  have N0 := Fr.nil n0
  have pre0 : ∀ t, Steps p.tables e below (s₁.setTop (mkF m 0 #[.val (.ref a1), .val (.int 0), .val (.int 0), .val (.int 1), .unset, .unset, .unset] [])) t → Steps p.tables e below (s₁.setTop (entryFrame m #[(.ref a1), (.int 0), (.int 0), (.int 1)] 7)) t := fun t k => castTop (ef_rms4_1 m a1 (0 : Int32) (0 : Int32) (1 : Int32)) k
  have pf1 : ∀ target, Steps p.tables e below (s₁.setTop (mkF m 7 #[.val (.ref a1), .val (.int 0), .val (.int 0), .val (.int 1), .val (.int 1), .unset, .unset] [(.int 1), (.int 0)])) target → Steps p.tables e below (s₁.setTop (mkF m 0 #[.val (.ref a1), .val (.int 0), .val (.int 0), .val (.int 1), .unset, .unset, .unset] [])) target := by
    intro target k
    show Steps p.tables e below (s₁.setTop (mkF m 0 #[.val (.ref a1), .val (.int 0), .val (.int 0), .val (.int 1), .unset, .unset, .unset] [])) _
    refine XS.iloadN X0.here hx rfl (hb hby d26_0) rfl ?_
    refine XS.iloadN X0.here hx rfl (hb hby d26_1) rfl ?_
    refine XS.isub X0.here hx rfl (hb hby d26_2) rfl ?_
    show Steps p.tables e below (s₁.setTop (mkF m 3 #[.val (.ref a1), .val (.int 0), .val (.int 0), .val (.int 1), .unset, .unset, .unset] [(.int 1)])) _
    refine XS.istore X0.here hx rfl (hb hby d26_3) rfl (l' := #[.val (.ref a1), .val (.int 0), .val (.int 0), .val (.int 1), .val (.int 1), .unset, .unset]) rfl ?_
    refine XS.iloadN X0.here hx rfl (hb hby d26_5) rfl ?_
    refine XS.iconst X0.here hx rfl (hb hby d26_6) ?_
    exact k
  obtain ⟨_, _, ⟨T2, L2, k2, n2⟩, -, X2, ⟨Lc2, hQ2, l2, y2, z2⟩, st2⟩ := Jvm.LawKit.callS X0 hx (y := (⟨"java/util/DualPivotQuicksort", "sort", "(Ljava/util/DualPivotQuicksort$Sorter;[IIII)V"⟩ : MethodName)) hown (mvT hZ (hw _ (List.mem_of_getElem? (i := 133) rfl))) (mvT hZ (hw _ (List.mem_of_getElem? (i := 134) rfl))) (mvT hZ (hw _ (List.mem_of_getElem? (i := 131) rfl))) (mvT hZ (hw _ (List.mem_of_getElem? (i := 135) rfl))) (by decide) (backOf (W := 0) (rms5_1 l Z a0 hw [] a1 ka x0 h0 n0 O0 VA g_a1) hZ (hw _ (List.mem_of_getElem? (i := 135) rfl)) (hw _ (List.mem_of_getElem? (i := 131) rfl)) (by decide) (by decide)) (g := (mkF m 73 #[.val (.ref a1), .val (.int 0), .val (.int 0), .val (.int 1), .val (.int 1), .unset, .unset] [(.int 1), (.int 0), (.int 0), (.ref a1), .null])) rfl (by rw [hml]; rfl) (argsL := [.null, (.ref a1), (.int 0), (.int 0), (.int 1)]) (rest := []) (lenOf pd14 rfl) rfl (by show 2 * 0 + _ ≤ _; exact Nat.le_of_eq rfl) (hb hby d26_73) (fun _ _ => ⟨rfl, e0, (by decide : 0 + 0 ≤ _), (by decide : 0 + 0 ≤ _)⟩)
  dsimp only [Pt.U, Pt.locs, Pt.cells, Pt.slots] at X2 l2 y2 z2 st2 hQ2
  subst l2 y2 z2
  obtain ⟨h2, e2⟩ : ∃ z, T2.heap = z := ⟨_, rfl⟩
  rw [e2] at hQ2
  obtain ⟨rfl, Nq2, K2, V2q⟩ := hQ2
  have N2 := Fr.app N0 Nq2
  have O3 := O0.keep K2 (allS g_a1 all0)
  have kp4 : Keep h0 h2 [a1] := (Keep.refl h0 [a1]).trans K2 (allS (Or.inl (List.mem_of_getElem? (i := 0) rfl)) all0)
  obtain ⟨fs, hr, hrun, hended, hW, hsame⟩ := X2.leave (v := none) (fun _ => rfl)
  refine ⟨_, _, pre0 _ ?_, hrun, hended, _, _, rfl, ?_, ⟨_, rfl⟩, hW, hsame.mono (by decide) (by decide)⟩
  · refine pf1 _ ?_
    show Steps p.tables e below (s₁.setTop (mkF m 7 #[.val (.ref a1), .val (.int 0), .val (.int 0), .val (.int 1), .val (.int 1), .unset, .unset] [(.int 1), (.int 0)])) _
    refine XS.icmpYes X0.here hx rfl (pc0 := 7) (pc' := 68) rfl (hb hby d26_7) rfl (flt (by decide)).2.2.2 (by decide) (by decide) ?_
    refine XS.aconstNull X0.here hx rfl (hb hby d26_68) ?_
    refine XS.aloadN X0.here hx rfl (hb hby d26_69) rfl rfl ?_
    refine XS.iconst X0.here hx rfl (hb hby d26_70) ?_
    refine XS.iloadN X0.here hx rfl (hb hby d26_71) rfl ?_
    refine XS.iloadN X0.here hx rfl (hb hby d26_72) rfl ?_
    show Steps p.tables e below (s₁.setTop (mkF m 73 #[.val (.ref a1), .val (.int 0), .val (.int 0), .val (.int 1), .val (.int 1), .unset, .unset] [(.int 1), (.int 0), (.int 0), (.ref a1), .null])) _
    refine st2 _ ?_
    show Steps p.tables e below (T2.setTop (mkF m 76 #[.val (.ref a1), .val (.int 0), .val (.int 0), .val (.int 1), .val (.int 1), .unset, .unset] [])) _
    exact X2.returnOut hx Bd.returns (hb hby d26_76) hr
  · show Qsrt Z a1 ka [x0] h0 n0 _ T2.heap _
    rw [e2]
    exact ⟨rfl, N2, kp4, V2q⟩
theorem d25_0 : decode jdk_65_method_2_code 0 = .ok (.aload_n 0, 1) := by decide +kernel
theorem d25_1 : decode jdk_65_method_2_code 1 = .ok (.iconst 0, 1) := by decide +kernel
theorem d25_2 : decode jdk_65_method_2_code 2 = .ok (.iconst 0, 1) := by decide +kernel
theorem d25_3 : decode jdk_65_method_2_code 3 = .ok (.aload_n 0, 1) := by decide +kernel
theorem d25_4 : decode jdk_65_method_2_code 4 = .ok (.arraylength, 1) := by decide +kernel
theorem d25_5 : decode jdk_65_method_2_code 5 = .ok (.invokestatic 7, 3) := by decide +kernel
theorem pd15 : parseMethodDescriptor "([IIII)V" = some ⟨[(.array .int), .int, .int, .int], none⟩ := by decide +kernel
theorem d25_8 : decode jdk_65_method_2_code 8 = .ok (.return_, 1) := by decide +kernel
theorem ef_rmsr1 (m : MethodId) (x0 : Addr) : entryFrame m #[(.ref x0)] 1 = mkF m 0 #[.val (.ref x0)] [] := by first | (simp [entryFrame, mkF, argsToLocals, Value.category]; done) | rfl
set_option maxRecDepth 65536 in
set_option maxHeartbeats 40000000 in
theorem rmsr1 (l : Launch) (Z : State) (a0 : Array Value) (hw : ∀ d ∈ tables_1, d.before a0 Z = true) (ws : List Jvm.Cond) (a1 : Addr) (ka : ClassId) (x0 : Int32) (h0 : Heap) (n0 : Nat) (O0 : Old Z n0 h0) (VA : Arv Z h0 a1 ka .int (1 : Int32) [(.int x0)] (.int 0)) (g_a1 : n0 ≤ a1) :
    MetFree l (⟨"java/util/Arrays", "sort", "([I)V"⟩ : MethodName) (head1 (Jvm.Cond.code (⟨"java/util/Arrays", "sort", "([I)V"⟩ : MethodName) jdk_65_method_2_code 1 none :: ws) ({ frames := 3, cells := 0, slots := 0, locals := 67 } : Room)) (fun a U => a = #[(.ref a1)] ∧ Z.Warmed39 U.vm ∧ U.heap = h0) (fun _ _ _ _ _ => True) (fun _ U o U' => ∃ v L, o = .returned v ∧ Qsrt Z a1 ka [x0] h0 n0 v U'.heap L ∧ FrameEnd U o U' L ({ frames := 3, cells := 0, slots := 0, locals := 67 } : Room).cells ({ frames := 3, cells := 0, slots := 0, locals := 67 } : Room).slots) := by
  refine MetFree.of_bodySF (plainFor_of_name pn5) hisR ?_
  intro p e s m args below meth c s₁ Bd hml0 hP hK
  obtain ⟨rfl, hZ, hh⟩ := hP
  have hx := Bd.exec
  have hby := Bd.bytes
  have hml : c.maxLocals = 1 := hml0
  have hown : s.vm.findClass "java/util/Arrays" = some m.cls := findClass_of_methodNamed Bd.named
  have hnm := (name_of_methodNamed Bd.named Bd.method).1
  have X0 : Stand p l e ({ frames := 3, cells := 0, slots := 0, locals := 67 } : Room) s m #[(.ref a1)] below meth c s₁ [] 0 0 := Stand.of_body Bd
  have e0 : s₁.heap = h0 := by rw [← hh, Bd.state]; rfl
  have N0 := Fr.nil n0
  have pre0 : ∀ t, Steps p.tables e below (s₁.setTop (mkF m 0 #[.val (.ref a1)] [])) t → Steps p.tables e below (s₁.setTop (entryFrame m #[(.ref a1)] 1)) t := fun t k => castTop (ef_rmsr1 m a1) k
  obtain ⟨cl1, Ar1, q1, Sz1, Nn1, Ha1, Gf1⟩ := id VA
  obtain ⟨_, _, ⟨T2, L2, k2, n2⟩, -, X2, ⟨Lc2, hQ2, l2, y2, z2⟩, st2⟩ := Jvm.LawKit.callS X0 hx (y := (⟨"java/util/DualPivotQuicksort", "sort", "([IIII)V"⟩ : MethodName)) hown (mvT hZ (hw _ (List.mem_of_getElem? (i := 129) rfl))) (mvT hZ (hw _ (List.mem_of_getElem? (i := 130) rfl))) (mvT hZ (hw _ (List.mem_of_getElem? (i := 131) rfl))) (mvT hZ (hw _ (List.mem_of_getElem? (i := 132) rfl))) (by decide) (backOf (W := 0) (rms4_1 l Z a0 hw [] a1 ka x0 h0 n0 O0 VA g_a1) hZ (hw _ (List.mem_of_getElem? (i := 132) rfl)) (hw _ (List.mem_of_getElem? (i := 131) rfl)) (by decide) (by decide)) (g := (mkF m 5 #[.val (.ref a1)] [(.int 1), (.int 0), (.int 0), (.ref a1)])) rfl (by rw [hml]; rfl) (argsL := [(.ref a1), (.int 0), (.int 0), (.int 1)]) (rest := []) (lenOf pd15 rfl) rfl (by show 2 * 0 + _ ≤ _; exact Nat.le_of_eq rfl) (hb hby d25_5) (fun _ _ => ⟨rfl, e0, (by decide : 0 + 0 ≤ _), (by decide : 0 + 0 ≤ _)⟩)
  dsimp only [Pt.U, Pt.locs, Pt.cells, Pt.slots] at X2 l2 y2 z2 st2 hQ2
  subst l2 y2 z2
  obtain ⟨h2, e2⟩ : ∃ z, T2.heap = z := ⟨_, rfl⟩
  rw [e2] at hQ2
  obtain ⟨rfl, Nq2, K2, V2q⟩ := hQ2
  have N2 := Fr.app N0 Nq2
  have O3 := O0.keep K2 (allS g_a1 all0)
  have kp4 : Keep h0 h2 [a1] := (Keep.refl h0 [a1]).trans K2 (allS (Or.inl (List.mem_of_getElem? (i := 0) rfl)) all0)
  obtain ⟨fs, hr, hrun, hended, hW, hsame⟩ := X2.leave (v := none) (fun _ => rfl)
  refine ⟨_, _, pre0 _ ?_, hrun, hended, _, _, rfl, ?_, ⟨_, rfl⟩, hW, hsame.mono (by decide) (by decide)⟩
  · show Steps p.tables e below (s₁.setTop (mkF m 0 #[.val (.ref a1)] [])) _
    refine XS.aloadN X0.here hx rfl (hb hby d25_0) rfl rfl ?_
    refine XS.iconst X0.here hx rfl (hb hby d25_1) ?_
    refine XS.iconst X0.here hx rfl (hb hby d25_2) ?_
    refine XS.aloadN X0.here hx rfl (hb hby d25_3) rfl rfl ?_
    show Steps p.tables e below (s₁.setTop (mkF m 4 #[.val (.ref a1)] [(.ref a1), (.int 0), (.int 0), (.ref a1)])) _
    refine X0.arraylength hx (by rw [e0]; exact Ar1.1) (State.isArrayOf_alike hZ.alike Ar1.2.1) (g := (mkF m 4 #[.val (.ref a1)] [(.ref a1), (.int 0), (.int 0), (.ref a1)])) rfl rfl (hb hby d25_4) _ ?_
    rw [len_of Sz1 Nn1]
    show Steps p.tables e below (s₁.setTop (mkF m 5 #[.val (.ref a1)] [(.int 1), (.int 0), (.int 0), (.ref a1)])) _
    refine st2 _ ?_
    show Steps p.tables e below (T2.setTop (mkF m 8 #[.val (.ref a1)] [])) _
    exact X2.returnOut hx Bd.returns (hb hby d25_8) hr
  · show Qsrt Z a1 ka [x0] h0 n0 _ T2.heap _
    rw [e2]
    exact ⟨rfl, N2, kp4, V2q⟩
theorem d28_12 : decode jdk_2529_method_6_code 12 = .ok (.aload_n 0, 1) := by decide +kernel
theorem d28_13 : decode jdk_2529_method_6_code 13 = .ok (.iload 4, 2) := by decide +kernel
theorem d28_15 : decode jdk_2529_method_6_code 15 = .ok (.dup, 1) := by decide +kernel
theorem d28_16 : decode jdk_2529_method_6_code 16 = .ok (.istore_n 3, 1) := by decide +kernel
theorem d28_17 : decode jdk_2529_method_6_code 17 = .ok (.iaload, 1) := by decide +kernel
theorem d28_18 : decode jdk_2529_method_6_code 18 = .ok (.istore 5, 2) := by decide +kernel
theorem d28_20 : decode jdk_2529_method_6_code 20 = .ok (.iload 5, 2) := by decide +kernel
theorem d28_22 : decode jdk_2529_method_6_code 22 = .ok (.aload_n 0, 1) := by decide +kernel
theorem d28_23 : decode jdk_2529_method_6_code 23 = .ok (.iload_n 3, 1) := by decide +kernel
theorem d28_24 : decode jdk_2529_method_6_code 24 = .ok (.iconst 1, 1) := by decide +kernel
theorem d28_25 : decode jdk_2529_method_6_code 25 = .ok (.isub, 1) := by decide +kernel
theorem d28_26 : decode jdk_2529_method_6_code 26 = .ok (.iaload, 1) := by decide +kernel
theorem d28_27 : decode jdk_2529_method_6_code 27 = .ok (.if_icmp .ge 37, 3) := by decide +kernel
theorem d28_30 : decode jdk_2529_method_6_code 30 = .ok (.iinc 3 (-1), 3) := by decide +kernel
theorem d28_33 : decode jdk_2529_method_6_code 33 = .ok (.iload_n 3, 1) := by decide +kernel
theorem d28_34 : decode jdk_2529_method_6_code 34 = .ok (.iload_n 1, 1) := by decide +kernel
theorem d28_35 : decode jdk_2529_method_6_code 35 = .ok (.if_icmp .lt 22, 3) := by decide +kernel
theorem d28_38 : decode jdk_2529_method_6_code 38 = .ok (.iload 5, 2) := by decide +kernel
theorem d28_40 : decode jdk_2529_method_6_code 40 = .ok (.aload_n 0, 1) := by decide +kernel
theorem d28_41 : decode jdk_2529_method_6_code 41 = .ok (.iload_n 3, 1) := by decide +kernel
theorem d28_42 : decode jdk_2529_method_6_code 42 = .ok (.iaload, 1) := by decide +kernel
theorem d28_43 : decode jdk_2529_method_6_code 43 = .ok (.if_icmp .ge 14, 3) := by decide +kernel
theorem d28_46 : decode jdk_2529_method_6_code 46 = .ok (.aload_n 0, 1) := by decide +kernel
theorem d28_47 : decode jdk_2529_method_6_code 47 = .ok (.iload_n 3, 1) := by decide +kernel
theorem d28_48 : decode jdk_2529_method_6_code 48 = .ok (.iconst 1, 1) := by decide +kernel
theorem d28_49 : decode jdk_2529_method_6_code 49 = .ok (.iadd, 1) := by decide +kernel
theorem d28_50 : decode jdk_2529_method_6_code 50 = .ok (.aload_n 0, 1) := by decide +kernel
theorem d28_51 : decode jdk_2529_method_6_code 51 = .ok (.iload_n 3, 1) := by decide +kernel
theorem d28_52 : decode jdk_2529_method_6_code 52 = .ok (.iaload, 1) := by decide +kernel
theorem d28_53 : decode jdk_2529_method_6_code 53 = .ok (.iastore, 1) := by decide +kernel
theorem d28_54 : decode jdk_2529_method_6_code 54 = .ok (.goto (-24), 3) := by decide +kernel
theorem d28_57 : decode jdk_2529_method_6_code 57 = .ok (.aload_n 0, 1) := by decide +kernel
theorem d28_58 : decode jdk_2529_method_6_code 58 = .ok (.iload_n 3, 1) := by decide +kernel
theorem d28_59 : decode jdk_2529_method_6_code 59 = .ok (.iconst 1, 1) := by decide +kernel
theorem d28_60 : decode jdk_2529_method_6_code 60 = .ok (.iadd, 1) := by decide +kernel
theorem d28_61 : decode jdk_2529_method_6_code 61 = .ok (.iload 5, 2) := by decide +kernel
theorem d28_63 : decode jdk_2529_method_6_code 63 = .ok (.iastore, 1) := by decide +kernel
theorem d28_64 : decode jdk_2529_method_6_code 64 = .ok (.goto (-61), 3) := by decide +kernel
theorem ef_rmis2 (m : MethodId) (x0 : Addr) (x1 : Int32) (x2 : Int32) : entryFrame m #[(.ref x0), (.int x1), (.int x2)] 6 = mkF m 0 #[.val (.ref x0), .val (.int x1), .val (.int x2), .unset, .unset, .unset] [] := by first | (simp [entryFrame, mkF, argsToLocals, Value.category]; done) | rfl
set_option maxRecDepth 65536 in
set_option maxHeartbeats 40000000 in
theorem rmis2 (l : Launch) (Z : State) (a0 : Array Value) (hw : ∀ d ∈ tables_1, d.before a0 Z = true) (ws : List Jvm.Cond) (a1 : Addr) (ka : ClassId) (x0 : Int32) (x1 : Int32) (h0 : Heap) (n0 : Nat) (O0 : Old Z n0 h0) (VA : Arv Z h0 a1 ka .int (2 : Int32) [(.int x0), (.int x1)] (.int 0)) (g_a1 : n0 ≤ a1) :
    MetFree l (⟨"java/util/DualPivotQuicksort", "insertionSort", "([III)V"⟩ : MethodName) (head1 (Jvm.Cond.code (⟨"java/util/DualPivotQuicksort", "insertionSort", "([III)V"⟩ : MethodName) jdk_2529_method_6_code 6 none :: ws) ({ frames := 0, cells := 0, slots := 0, locals := 0 } : Room)) (fun a U => a = #[(.ref a1), (.int 0), (.int 2)] ∧ Z.Warmed39 U.vm ∧ U.heap = h0) (fun _ _ _ _ _ => True) (fun _ U o U' => ∃ v L, o = .returned v ∧ Qsrt Z a1 ka [x0, x1] h0 n0 v U'.heap L ∧ FrameEnd U o U' L ({ frames := 0, cells := 0, slots := 0, locals := 0 } : Room).cells ({ frames := 0, cells := 0, slots := 0, locals := 0 } : Room).slots) := by
  refine MetFree.of_bodySF (plainFor_of_name pn9) hisR ?_
  intro p e s m args below meth c s₁ Bd hml0 hP hK
  obtain ⟨rfl, hZ, hh⟩ := hP
  have hx := Bd.exec
  have hby := Bd.bytes
  have hml : c.maxLocals = 6 := hml0
  have hown : s.vm.findClass "java/util/DualPivotQuicksort" = some m.cls := findClass_of_methodNamed Bd.named
  have hnm := (name_of_methodNamed Bd.named Bd.method).1
  have X0 : Stand p l e ({ frames := 0, cells := 0, slots := 0, locals := 0 } : Room) s m #[(.ref a1), (.int 0), (.int 2)] below meth c s₁ [] 0 0 := Stand.of_body Bd
  have e0 : s₁.heap = h0 := by rw [← hh, Bd.state]; rfl
  have N0 := Fr.nil n0
  have pre0 : ∀ t, Steps p.tables e below (s₁.setTop (mkF m 0 #[.val (.ref a1), .val (.int 0), .val (.int 2), .unset, .unset, .unset] [])) t → Steps p.tables e below (s₁.setTop (entryFrame m #[(.ref a1), (.int 0), (.int 2)] 6)) t := fun t k => castTop (ef_rmis2 m a1 (0 : Int32) (2 : Int32)) k
  have pf1 : ∀ target, Steps p.tables e below (s₁.setTop (mkF m 9 #[.val (.ref a1), .val (.int 0), .val (.int 2), .unset, .val (.int 1), .unset] [(.int 2), (.int 1)])) target → Steps p.tables e below (s₁.setTop (mkF m 0 #[.val (.ref a1), .val (.int 0), .val (.int 2), .unset, .unset, .unset] [])) target := by
    intro target k
    show Steps p.tables e below (s₁.setTop (mkF m 0 #[.val (.ref a1), .val (.int 0), .val (.int 2), .unset, .unset, .unset] [])) _
    refine XS.iloadN X0.here hx rfl (hb hby d28_0) rfl ?_
    refine XS.istore X0.here hx rfl (hb hby d28_1) rfl (l' := #[.val (.ref a1), .val (.int 0), .val (.int 2), .unset, .val (.int 0), .unset]) rfl ?_
    refine XS.iinc X0.here hx rfl (hb hby d28_3) rfl (l' := #[.val (.ref a1), .val (.int 0), .val (.int 2), .unset, .val (.int 1), .unset]) rfl ?_
    show Steps p.tables e below (s₁.setTop (mkF m 6 #[.val (.ref a1), .val (.int 0), .val (.int 2), .unset, .val (.int 1), .unset] [])) _
    refine XS.iload X0.here hx rfl (hb hby d28_6) rfl ?_
    refine XS.iloadN X0.here hx rfl (hb hby d28_8) rfl ?_
    exact k
  obtain ⟨cl2, Ar2, q2, Sz2, Nn2, Ha2, Gf2⟩ := id VA
  have hin2 : ¬ ((1 : Int32) < 0 ∨ cl2.slots.size ≤ ((1 : Int32)).toNatClampNeg) := inb_of Sz2 ⟨by decide, by decide⟩
  have hat2 : cl2.slots[((1 : Int32)).toNatClampNeg]? = some (.int x1) := Has.at Ha2 hin2 rfl
  obtain ⟨cl3, Ar3, q3, Sz3, Nn3, Ha3, Gf3⟩ := id VA
  have hin3 : ¬ ((0 : Int32) < 0 ∨ cl3.slots.size ≤ ((0 : Int32)).toNatClampNeg) := inb_of Sz3 ⟨by decide, by decide⟩
  have hat3 : cl3.slots[((0 : Int32)).toNatClampNeg]? = some (.int x0) := Has.at Ha3 hin3 rfl
  have pf4 : ∀ target, Steps p.tables e below (s₁.setTop (mkF m 27 #[.val (.ref a1), .val (.int 0), .val (.int 2), .val (.int 1), .val (.int 1), .val (.int x1)] [(.int x0), (.int x1)])) target → Steps p.tables e below (s₁.setTop (mkF m 9 #[.val (.ref a1), .val (.int 0), .val (.int 2), .unset, .val (.int 1), .unset] [(.int 2), (.int 1)])) target := by
    intro target k
    show Steps p.tables e below (s₁.setTop (mkF m 9 #[.val (.ref a1), .val (.int 0), .val (.int 2), .unset, .val (.int 1), .unset] [(.int 2), (.int 1)])) _
    refine XS.icmpNo X0.here hx rfl (hb hby d28_9) rfl (tlt (by decide)).2.1 ?_
    refine XS.aloadN X0.here hx rfl (hb hby d28_12) rfl rfl ?_
    refine XS.iload X0.here hx rfl (hb hby d28_13) rfl ?_
    refine XS.dup X0.here hx rfl (hb hby d28_15) rfl rfl ?_
    refine XS.istoreN X0.here hx rfl (hb hby d28_16) rfl (l' := #[.val (.ref a1), .val (.int 0), .val (.int 2), .val (.int 1), .val (.int 1), .unset]) rfl ?_
    show Steps p.tables e below (s₁.setTop (mkF m 17 #[.val (.ref a1), .val (.int 0), .val (.int 2), .val (.int 1), .val (.int 1), .unset] [(.int 1), (.ref a1)])) _
    refine X0.iaload hx (j := (1 : Int32)) (v := (.int x1)) (by rw [e0]; exact Ar2.1) (State.isArrayOf_alike hZ.alike Ar2.2.1) Ar2.2.2 hin2 hat2 (g := (mkF m 17 #[.val (.ref a1), .val (.int 0), .val (.int 2), .val (.int 1), .val (.int 1), .unset] [(.int 1), (.ref a1)])) rfl rfl (hb hby d28_17) _ ?_
    show Steps p.tables e below (s₁.setTop (mkF m 18 #[.val (.ref a1), .val (.int 0), .val (.int 2), .val (.int 1), .val (.int 1), .unset] [(.int x1)])) _
    refine XS.istore X0.here hx rfl (hb hby d28_18) rfl (l' := #[.val (.ref a1), .val (.int 0), .val (.int 2), .val (.int 1), .val (.int 1), .val (.int x1)]) rfl ?_
    refine XS.iload X0.here hx rfl (hb hby d28_20) rfl ?_
    refine XS.aloadN X0.here hx rfl (hb hby d28_22) rfl rfl ?_
    refine XS.iloadN X0.here hx rfl (hb hby d28_23) rfl ?_
    refine XS.iconst X0.here hx rfl (hb hby d28_24) ?_
    refine XS.isub X0.here hx rfl (hb hby d28_25) rfl ?_
    show Steps p.tables e below (s₁.setTop (mkF m 26 #[.val (.ref a1), .val (.int 0), .val (.int 2), .val (.int 1), .val (.int 1), .val (.int x1)] [(.int 0), (.ref a1), (.int x1)])) _
    refine X0.iaload hx (j := (0 : Int32)) (v := (.int x0)) (by rw [e0]; exact Ar3.1) (State.isArrayOf_alike hZ.alike Ar3.2.1) Ar3.2.2 hin3 hat3 (g := (mkF m 26 #[.val (.ref a1), .val (.int 0), .val (.int 2), .val (.int 1), .val (.int 1), .val (.int x1)] [(.int 0), (.ref a1), (.int x1)])) rfl rfl (hb hby d28_26) _ ?_
    exact k
  by_cases hc27 : x1 < x0
  · obtain ⟨cl5, Ar5, q5, Sz5, Nn5, Ha5, Gf5⟩ := id VA
    have hin5 : ¬ ((0 : Int32) < 0 ∨ cl5.slots.size ≤ ((0 : Int32)).toNatClampNeg) := inb_of Sz5 ⟨by decide, by decide⟩
    have hat5 : cl5.slots[((0 : Int32)).toNatClampNeg]? = some (.int x0) := Has.at Ha5 hin5 rfl
    have pf6 : ∀ target, Steps p.tables e below (s₁.setTop (mkF m 43 #[.val (.ref a1), .val (.int 0), .val (.int 2), .val (.int 0), .val (.int 1), .val (.int x1)] [(.int x0), (.int x1)])) target → Steps p.tables e below (s₁.setTop (mkF m 27 #[.val (.ref a1), .val (.int 0), .val (.int 2), .val (.int 1), .val (.int 1), .val (.int x1)] [(.int x0), (.int x1)])) target := by
      intro target k
      show Steps p.tables e below (s₁.setTop (mkF m 27 #[.val (.ref a1), .val (.int 0), .val (.int 2), .val (.int 1), .val (.int 1), .val (.int x1)] [(.int x0), (.int x1)])) _
      refine XS.icmpNo X0.here hx rfl (hb hby d28_27) rfl (tlt hc27).2.1 ?_
      refine XS.iinc X0.here hx rfl (hb hby d28_30) rfl (l' := #[.val (.ref a1), .val (.int 0), .val (.int 2), .val (.int 0), .val (.int 1), .val (.int x1)]) rfl ?_
      show Steps p.tables e below (s₁.setTop (mkF m 33 #[.val (.ref a1), .val (.int 0), .val (.int 2), .val (.int 0), .val (.int 1), .val (.int x1)] [])) _
      refine XS.iloadN X0.here hx rfl (hb hby d28_33) rfl ?_
      refine XS.iloadN X0.here hx rfl (hb hby d28_34) rfl ?_
      refine XS.icmpNo X0.here hx rfl (hb hby d28_35) rfl (flt (by decide)).1 ?_
      refine XS.iload X0.here hx rfl (hb hby d28_38) rfl ?_
      refine XS.aloadN X0.here hx rfl (hb hby d28_40) rfl rfl ?_
      refine XS.iloadN X0.here hx rfl (hb hby d28_41) rfl ?_
      show Steps p.tables e below (s₁.setTop (mkF m 42 #[.val (.ref a1), .val (.int 0), .val (.int 2), .val (.int 0), .val (.int 1), .val (.int x1)] [(.int 0), (.ref a1), (.int x1)])) _
      refine X0.iaload hx (j := (0 : Int32)) (v := (.int x0)) (by rw [e0]; exact Ar5.1) (State.isArrayOf_alike hZ.alike Ar5.2.1) Ar5.2.2 hin5 hat5 (g := (mkF m 42 #[.val (.ref a1), .val (.int 0), .val (.int 2), .val (.int 0), .val (.int 1), .val (.int x1)] [(.int 0), (.ref a1), (.int x1)])) rfl rfl (hb hby d28_42) _ ?_
      exact k
    obtain ⟨cl7, Ar7, q7, Sz7, Nn7, Ha7, Gf7⟩ := id VA
    have hin7 : ¬ ((0 : Int32) < 0 ∨ cl7.slots.size ≤ ((0 : Int32)).toNatClampNeg) := inb_of Sz7 ⟨by decide, by decide⟩
    have hat7 : cl7.slots[((0 : Int32)).toNatClampNeg]? = some (.int x0) := Has.at Ha7 hin7 rfl
    obtain ⟨cl8, Ar8, q8, Sz8, Nn8, Ha8, Gf8⟩ := VA
    have hin8 : ¬ ((1 : Int32) < 0 ∨ cl8.slots.size ≤ ((1 : Int32)).toNatClampNeg) := inb_of Sz8 ⟨by decide, by decide⟩
    obtain ⟨T9, h9, X9, e9, W9, st9⟩ := stI X0 hx hZ e0 Ar8 (j := (1 : Int32)) hin8 (g := (mkF m 53 #[.val (.ref a1), .val (.int 0), .val (.int 2), .val (.int 0), .val (.int 1), .val (.int x1)] [(.int x0), (.int 1), (.ref a1)])) rfl rfl (hb hby d28_53)
    have Va9 := Arv.set Ar8 q8 Sz8 Nn8 Ha8 Gf8 rfl W9 1 rfl (Nat.le_of_ble_eq_true rfl)
    have Vb9 : Arv Z h9 a1 ka .int (2 : Int32) [(.int x0), (.int x0)] (.int 0) := Va9
    have O10 := O0.wr W9 g_a1
    have kp11 : Keep h0 h9 [a1] := (Keep.refl h0 [a1]).wr W9 (Or.inl (List.mem_of_getElem? (i := 0) rfl))
    have N9 := Fr.snoc X9 N0 g_a1
    have pf12 : ∀ target, Steps p.tables e below (T9.setTop (mkF m 35 #[.val (.ref a1), .val (.int 0), .val (.int 2), .val (.int (-1 : Int32)), .val (.int 1), .val (.int x1)] [(.int 0), (.int (-1 : Int32))])) target → Steps p.tables e below (s₁.setTop (mkF m 43 #[.val (.ref a1), .val (.int 0), .val (.int 2), .val (.int 0), .val (.int 1), .val (.int x1)] [(.int x0), (.int x1)])) target := by
      intro target k
      show Steps p.tables e below (s₁.setTop (mkF m 43 #[.val (.ref a1), .val (.int 0), .val (.int 2), .val (.int 0), .val (.int 1), .val (.int x1)] [(.int x0), (.int x1)])) _
      refine XS.icmpNo X0.here hx rfl (hb hby d28_43) rfl (tlt hc27).2.1 ?_
      refine XS.aloadN X0.here hx rfl (hb hby d28_46) rfl rfl ?_
      refine XS.iloadN X0.here hx rfl (hb hby d28_47) rfl ?_
      refine XS.iconst X0.here hx rfl (hb hby d28_48) ?_
      refine XS.iadd X0.here hx rfl (hb hby d28_49) rfl ?_
      show Steps p.tables e below (s₁.setTop (mkF m 50 #[.val (.ref a1), .val (.int 0), .val (.int 2), .val (.int 0), .val (.int 1), .val (.int x1)] [(.int 1), (.ref a1)])) _
      refine XS.aloadN X0.here hx rfl (hb hby d28_50) rfl rfl ?_
      refine XS.iloadN X0.here hx rfl (hb hby d28_51) rfl ?_
      show Steps p.tables e below (s₁.setTop (mkF m 52 #[.val (.ref a1), .val (.int 0), .val (.int 2), .val (.int 0), .val (.int 1), .val (.int x1)] [(.int 0), (.ref a1), (.int 1), (.ref a1)])) _
      refine X0.iaload hx (j := (0 : Int32)) (v := (.int x0)) (by rw [e0]; exact Ar7.1) (State.isArrayOf_alike hZ.alike Ar7.2.1) Ar7.2.2 hin7 hat7 (g := (mkF m 52 #[.val (.ref a1), .val (.int 0), .val (.int 2), .val (.int 0), .val (.int 1), .val (.int x1)] [(.int 0), (.ref a1), (.int 1), (.ref a1)])) rfl rfl (hb hby d28_52) _ ?_
      show Steps p.tables e below (s₁.setTop (mkF m 53 #[.val (.ref a1), .val (.int 0), .val (.int 2), .val (.int 0), .val (.int 1), .val (.int x1)] [(.int x0), (.int 1), (.ref a1)])) _
      refine st9 _ ?_
      show Steps p.tables e below (T9.setTop (mkF m 54 #[.val (.ref a1), .val (.int 0), .val (.int 2), .val (.int 0), .val (.int 1), .val (.int x1)] [])) _
      refine XS.goto X9.here hx rfl (pc0 := 54) (pc' := 30) rfl (hb hby d28_54) (by decide) (by decide) ?_
      refine XS.iinc X9.here hx rfl (hb hby d28_30) rfl (l' := #[.val (.ref a1), .val (.int 0), .val (.int 2), .val (.int (-1 : Int32)), .val (.int 1), .val (.int x1)]) rfl ?_
      show Steps p.tables e below (T9.setTop (mkF m 33 #[.val (.ref a1), .val (.int 0), .val (.int 2), .val (.int (-1 : Int32)), .val (.int 1), .val (.int x1)] [])) _
      refine XS.iloadN X9.here hx rfl (hb hby d28_33) rfl ?_
      refine XS.iloadN X9.here hx rfl (hb hby d28_34) rfl ?_
      exact k
    obtain ⟨cl13, Ar13, q13, Sz13, Nn13, Ha13, Gf13⟩ := Vb9
    have hin13 : ¬ ((0 : Int32) < 0 ∨ cl13.slots.size ≤ ((0 : Int32)).toNatClampNeg) := inb_of Sz13 ⟨by decide, by decide⟩
    obtain ⟨T14, h14, X14, e14, W14, st14⟩ := stI X9 hx hZ e9 Ar13 (j := (0 : Int32)) hin13 (g := (mkF m 63 #[.val (.ref a1), .val (.int 0), .val (.int 2), .val (.int (-1 : Int32)), .val (.int 1), .val (.int x1)] [(.int x1), (.int 0), (.ref a1)])) rfl rfl (hb hby d28_63)
    have Va14 := Arv.set Ar13 q13 Sz13 Nn13 Ha13 Gf13 rfl W14 0 rfl (Nat.le_of_ble_eq_true rfl)
    have Vb14 : Arv Z h14 a1 ka .int (2 : Int32) [(.int x1), (.int x0)] (.int 0) := Va14
    have O15 := O10.wr W14 g_a1
    have kp16 : Keep h0 h14 [a1] := kp11.wr W14 (Or.inl (List.mem_of_getElem? (i := 0) rfl))
    have N14 := Fr.snoc X14 N9 g_a1
    have pf17 : ∀ target, Steps p.tables e below (T14.setTop (mkF m 9 #[.val (.ref a1), .val (.int 0), .val (.int 2), .val (.int (-1 : Int32)), .val (.int 2), .val (.int x1)] [(.int 2), (.int 2)])) target → Steps p.tables e below (T9.setTop (mkF m 35 #[.val (.ref a1), .val (.int 0), .val (.int 2), .val (.int (-1 : Int32)), .val (.int 1), .val (.int x1)] [(.int 0), (.int (-1 : Int32))])) target := by
      intro target k
      show Steps p.tables e below (T9.setTop (mkF m 35 #[.val (.ref a1), .val (.int 0), .val (.int 2), .val (.int (-1 : Int32)), .val (.int 1), .val (.int x1)] [(.int 0), (.int (-1 : Int32))])) _
      refine XS.icmpYes X9.here hx rfl (pc0 := 35) (pc' := 57) rfl (hb hby d28_35) rfl (tlt (by decide)).1 (by decide) (by decide) ?_
      refine XS.aloadN X9.here hx rfl (hb hby d28_57) rfl rfl ?_
      refine XS.iloadN X9.here hx rfl (hb hby d28_58) rfl ?_
      refine XS.iconst X9.here hx rfl (hb hby d28_59) ?_
      refine XS.iadd X9.here hx rfl (hb hby d28_60) rfl ?_
      show Steps p.tables e below (T9.setTop (mkF m 61 #[.val (.ref a1), .val (.int 0), .val (.int 2), .val (.int (-1 : Int32)), .val (.int 1), .val (.int x1)] [(.int 0), (.ref a1)])) _
      refine XS.iload X9.here hx rfl (hb hby d28_61) rfl ?_
      show Steps p.tables e below (T9.setTop (mkF m 63 #[.val (.ref a1), .val (.int 0), .val (.int 2), .val (.int (-1 : Int32)), .val (.int 1), .val (.int x1)] [(.int x1), (.int 0), (.ref a1)])) _
      refine st14 _ ?_
      show Steps p.tables e below (T14.setTop (mkF m 64 #[.val (.ref a1), .val (.int 0), .val (.int 2), .val (.int (-1 : Int32)), .val (.int 1), .val (.int x1)] [])) _
      refine XS.goto X14.here hx rfl (pc0 := 64) (pc' := 3) rfl (hb hby d28_64) (by decide) (by decide) ?_
      refine XS.iinc X14.here hx rfl (hb hby d28_3) rfl (l' := #[.val (.ref a1), .val (.int 0), .val (.int 2), .val (.int (-1 : Int32)), .val (.int 2), .val (.int x1)]) rfl ?_
      show Steps p.tables e below (T14.setTop (mkF m 6 #[.val (.ref a1), .val (.int 0), .val (.int 2), .val (.int (-1 : Int32)), .val (.int 2), .val (.int x1)] [])) _
      refine XS.iload X14.here hx rfl (hb hby d28_6) rfl ?_
      refine XS.iloadN X14.here hx rfl (hb hby d28_8) rfl ?_
      exact k
    obtain ⟨fs, hr, hrun, hended, hW, hsame⟩ := X14.leave (v := none) (fun _ => rfl)
    refine ⟨_, _, pre0 _ ?_, hrun, hended, _, _, rfl, ?_, ⟨_, rfl⟩, hW, hsame.mono (by decide) (by decide)⟩
    · refine pf1 _ ?_
      refine pf4 _ ?_
      refine pf6 _ ?_
      refine pf12 _ ?_
      refine pf17 _ ?_
      show Steps p.tables e below (T14.setTop (mkF m 9 #[.val (.ref a1), .val (.int 0), .val (.int 2), .val (.int (-1 : Int32)), .val (.int 2), .val (.int x1)] [(.int 2), (.int 2)])) _
      refine XS.icmpYes X14.here hx rfl (pc0 := 9) (pc' := 67) rfl (hb hby d28_9) rfl (flt (by decide)).2.1 (by decide) (by decide) ?_
      show Steps p.tables e below (T14.setTop (mkF m 67 #[.val (.ref a1), .val (.int 0), .val (.int 2), .val (.int (-1 : Int32)), .val (.int 2), .val (.int x1)] [])) _
      exact X14.returnOut hx Bd.returns (hb hby d28_67) hr
    · show Qsrt Z a1 ka [x0, x1] h0 n0 _ T14.heap _
      rw [e14]
      exact ⟨rfl, N14, kp16, by simp only [srtF]; rw [if_pos hc27]; exact Vb14⟩
  · have pf18 : ∀ target, Steps p.tables e below (s₁.setTop (mkF m 9 #[.val (.ref a1), .val (.int 0), .val (.int 2), .val (.int 1), .val (.int 2), .val (.int x1)] [(.int 2), (.int 2)])) target → Steps p.tables e below (s₁.setTop (mkF m 27 #[.val (.ref a1), .val (.int 0), .val (.int 2), .val (.int 1), .val (.int 1), .val (.int x1)] [(.int x0), (.int x1)])) target := by
      intro target k
      show Steps p.tables e below (s₁.setTop (mkF m 27 #[.val (.ref a1), .val (.int 0), .val (.int 2), .val (.int 1), .val (.int 1), .val (.int x1)] [(.int x0), (.int x1)])) _
      refine XS.icmpYes X0.here hx rfl (pc0 := 27) (pc' := 64) rfl (hb hby d28_27) rfl (flt hc27).2.1 (by decide) (by decide) ?_
      refine XS.goto X0.here hx rfl (pc0 := 64) (pc' := 3) rfl (hb hby d28_64) (by decide) (by decide) ?_
      refine XS.iinc X0.here hx rfl (hb hby d28_3) rfl (l' := #[.val (.ref a1), .val (.int 0), .val (.int 2), .val (.int 1), .val (.int 2), .val (.int x1)]) rfl ?_
      show Steps p.tables e below (s₁.setTop (mkF m 6 #[.val (.ref a1), .val (.int 0), .val (.int 2), .val (.int 1), .val (.int 2), .val (.int x1)] [])) _
      refine XS.iload X0.here hx rfl (hb hby d28_6) rfl ?_
      refine XS.iloadN X0.here hx rfl (hb hby d28_8) rfl ?_
      exact k
    obtain ⟨fs, hr, hrun, hended, hW, hsame⟩ := X0.leave (v := none) (fun _ => rfl)
    refine ⟨_, _, pre0 _ ?_, hrun, hended, _, _, rfl, ?_, ⟨_, rfl⟩, hW, hsame.mono (by decide) (by decide)⟩
    · refine pf1 _ ?_
      refine pf4 _ ?_
      refine pf18 _ ?_
      show Steps p.tables e below (s₁.setTop (mkF m 9 #[.val (.ref a1), .val (.int 0), .val (.int 2), .val (.int 1), .val (.int 2), .val (.int x1)] [(.int 2), (.int 2)])) _
      refine XS.icmpYes X0.here hx rfl (pc0 := 9) (pc' := 67) rfl (hb hby d28_9) rfl (flt (by decide)).2.1 (by decide) (by decide) ?_
      show Steps p.tables e below (s₁.setTop (mkF m 67 #[.val (.ref a1), .val (.int 0), .val (.int 2), .val (.int 1), .val (.int 2), .val (.int x1)] [])) _
      exact X0.returnOut hx Bd.returns (hb hby d28_67) hr
    · show Qsrt Z a1 ka [x0, x1] h0 n0 _ s₁.heap _
      rw [e0]
      exact ⟨rfl, N0, (Keep.refl h0 [a1]), by simp only [srtF]; rw [if_neg hc27]; exact VA⟩
theorem ef_rms5_2 (m : MethodId) (x1 : Addr) (x2 : Int32) (x3 : Int32) (x4 : Int32) : entryFrame m #[.null, (.ref x1), (.int x2), (.int x3), (.int x4)] 21 = mkF m 0 #[.val .null, .val (.ref x1), .val (.int x2), .val (.int x3), .val (.int x4), .unset, .unset, .unset, .unset, .unset, .unset, .unset, .unset, .unset, .unset, .unset, .unset, .unset, .unset, .unset, .unset] [] := by first | (simp [entryFrame, mkF, argsToLocals, Value.category]; done) | rfl
set_option maxRecDepth 65536 in
set_option maxHeartbeats 40000000 in
theorem rms5_2 (l : Launch) (Z : State) (a0 : Array Value) (hw : ∀ d ∈ tables_1, d.before a0 Z = true) (ws : List Jvm.Cond) (a1 : Addr) (ka : ClassId) (x0 : Int32) (x1 : Int32) (h0 : Heap) (n0 : Nat) (O0 : Old Z n0 h0) (VA : Arv Z h0 a1 ka .int (2 : Int32) [(.int x0), (.int x1)] (.int 0)) (g_a1 : n0 ≤ a1) :
    MetFree l (⟨"java/util/DualPivotQuicksort", "sort", "(Ljava/util/DualPivotQuicksort$Sorter;[IIII)V"⟩ : MethodName) (head1 (Jvm.Cond.code (⟨"java/util/DualPivotQuicksort", "sort", "(Ljava/util/DualPivotQuicksort$Sorter;[IIII)V"⟩ : MethodName) jdk_2529_method_4_code 21 none :: ws) ({ frames := 1, cells := 0, slots := 0, locals := 17 } : Room)) (fun a U => a = #[.null, (.ref a1), (.int 0), (.int 0), (.int 2)] ∧ Z.Warmed39 U.vm ∧ U.heap = h0) (fun _ _ _ _ _ => True) (fun _ U o U' => ∃ v L, o = .returned v ∧ Qsrt Z a1 ka [x0, x1] h0 n0 v U'.heap L ∧ FrameEnd U o U' L ({ frames := 1, cells := 0, slots := 0, locals := 17 } : Room).cells ({ frames := 1, cells := 0, slots := 0, locals := 17 } : Room).slots) := by
  refine MetFree.of_bodySF (plainFor_of_name pn9) hisR ?_
  intro p e s m args below meth c s₁ Bd hml0 hP hK
  obtain ⟨rfl, hZ, hh⟩ := hP
  have hx := Bd.exec
  have hby := Bd.bytes
  have hml : c.maxLocals = 21 := hml0
  have hown : s.vm.findClass "java/util/DualPivotQuicksort" = some m.cls := findClass_of_methodNamed Bd.named
  have hnm := (name_of_methodNamed Bd.named Bd.method).1
  have X0 : Stand p l e ({ frames := 1, cells := 0, slots := 0, locals := 17 } : Room) s m #[.null, (.ref a1), (.int 0), (.int 0), (.int 2)] below meth c s₁ [] 0 0 := Stand.of_body Bd
  have e0 : s₁.heap = h0 := by rw [← hh, Bd.state]; rfl
  have N0 := Fr.nil n0
  have pre0 : ∀ t, Steps p.tables e below (s₁.setTop (mkF m 0 #[.val .null, .val (.ref a1), .val (.int 0), .val (.int 0), .val (.int 2), .unset, .unset, .unset, .unset, .unset, .unset, .unset, .unset, .unset, .unset, .unset, .unset, .unset, .unset, .unset, .unset] [])) t → Steps p.tables e below (s₁.setTop (entryFrame m #[.null, (.ref a1), (.int 0), (.int 0), (.int 2)] 21)) t := fun t k => castTop (ef_rms5_2 m a1 (0 : Int32) (0 : Int32) (2 : Int32)) k
  have pf1 : ∀ target, Steps p.tables e below (s₁.setTop (mkF m 18 #[.val .null, .val (.ref a1), .val (.int 0), .val (.int 0), .val (.int 2), .val (.int 1), .val (.int 2), .unset, .unset, .unset, .unset, .unset, .unset, .unset, .unset, .unset, .unset, .unset, .unset, .unset, .unset] [(.int 65), (.int 2)])) target → Steps p.tables e below (s₁.setTop (mkF m 0 #[.val .null, .val (.ref a1), .val (.int 0), .val (.int 0), .val (.int 2), .unset, .unset, .unset, .unset, .unset, .unset, .unset, .unset, .unset, .unset, .unset, .unset, .unset, .unset, .unset, .unset] [])) target := by
    intro target k
    show Steps p.tables e below (s₁.setTop (mkF m 0 #[.val .null, .val (.ref a1), .val (.int 0), .val (.int 0), .val (.int 2), .unset, .unset, .unset, .unset, .unset, .unset, .unset, .unset, .unset, .unset, .unset, .unset, .unset, .unset, .unset, .unset] [])) _
    refine XS.iload X0.here hx rfl (hb hby d27_0) rfl ?_
    refine XS.iconst X0.here hx rfl (hb hby d27_2) ?_
    refine XS.isub X0.here hx rfl (hb hby d27_3) rfl ?_
    show Steps p.tables e below (s₁.setTop (mkF m 4 #[.val .null, .val (.ref a1), .val (.int 0), .val (.int 0), .val (.int 2), .unset, .unset, .unset, .unset, .unset, .unset, .unset, .unset, .unset, .unset, .unset, .unset, .unset, .unset, .unset, .unset] [(.int 1)])) _
    refine XS.istore X0.here hx rfl (hb hby d27_4) rfl (l' := #[.val .null, .val (.ref a1), .val (.int 0), .val (.int 0), .val (.int 2), .val (.int 1), .unset, .unset, .unset, .unset, .unset, .unset, .unset, .unset, .unset, .unset, .unset, .unset, .unset, .unset, .unset]) rfl ?_
    refine XS.iload X0.here hx rfl (hb hby d27_6) rfl ?_
    refine XS.iloadN X0.here hx rfl (hb hby d27_8) rfl ?_
    refine XS.isub X0.here hx rfl (hb hby d27_9) rfl ?_
    show Steps p.tables e below (s₁.setTop (mkF m 10 #[.val .null, .val (.ref a1), .val (.int 0), .val (.int 0), .val (.int 2), .val (.int 1), .unset, .unset, .unset, .unset, .unset, .unset, .unset, .unset, .unset, .unset, .unset, .unset, .unset, .unset, .unset] [(.int 2)])) _
    refine XS.istore X0.here hx rfl (hb hby d27_10) rfl (l' := #[.val .null, .val (.ref a1), .val (.int 0), .val (.int 0), .val (.int 2), .val (.int 1), .val (.int 2), .unset, .unset, .unset, .unset, .unset, .unset, .unset, .unset, .unset, .unset, .unset, .unset, .unset, .unset]) rfl ?_
    refine XS.iload X0.here hx rfl (hb hby d27_12) rfl ?_
    refine XS.bipush X0.here hx rfl (hb hby d27_14) ?_
    refine XS.iloadN X0.here hx rfl (hb hby d27_16) rfl ?_
    refine XS.iadd X0.here hx rfl (hb hby d27_17) rfl ?_
    exact k
  have pf2 : ∀ target, Steps p.tables e below (s₁.setTop (mkF m 50 #[.val .null, .val (.ref a1), .val (.int 0), .val (.int 0), .val (.int 2), .val (.int 1), .val (.int 2), .unset, .unset, .unset, .unset, .unset, .unset, .unset, .unset, .unset, .unset, .unset, .unset, .unset, .unset] [(.int 44), (.int 2)])) target → Steps p.tables e below (s₁.setTop (mkF m 18 #[.val .null, .val (.ref a1), .val (.int 0), .val (.int 0), .val (.int 2), .val (.int 1), .val (.int 2), .unset, .unset, .unset, .unset, .unset, .unset, .unset, .unset, .unset, .unset, .unset, .unset, .unset, .unset] [(.int 65), (.int 2)])) target := by
    intro target k
    show Steps p.tables e below (s₁.setTop (mkF m 18 #[.val .null, .val (.ref a1), .val (.int 0), .val (.int 0), .val (.int 2), .val (.int 1), .val (.int 2), .unset, .unset, .unset, .unset, .unset, .unset, .unset, .unset, .unset, .unset, .unset, .unset, .unset, .unset] [(.int 65), (.int 2)])) _
    refine XS.icmpNo X0.here hx rfl (hb hby d27_18) rfl (tlt (by decide)).2.1 ?_
    refine XS.iloadN X0.here hx rfl (hb hby d27_21) rfl ?_
    refine XS.iconst X0.here hx rfl (hb hby d27_22) ?_
    refine XS.iand X0.here hx rfl (hb hby d27_23) rfl ?_
    show Steps p.tables e below (s₁.setTop (mkF m 24 #[.val .null, .val (.ref a1), .val (.int 0), .val (.int 0), .val (.int 2), .val (.int 1), .val (.int 2), .unset, .unset, .unset, .unset, .unset, .unset, .unset, .unset, .unset, .unset, .unset, .unset, .unset, .unset] [(.int 0)])) _
    refine XS.ifYes X0.here hx rfl (pc0 := 24) (pc' := 46) rfl (hb hby d27_24) rfl ((if0 _ _).trans (flt (by decide)).2.2.2) (by decide) (by decide) ?_
    refine XS.iload X0.here hx rfl (hb hby d27_46) rfl ?_
    refine XS.bipush X0.here hx rfl (hb hby d27_48) ?_
    exact k
  obtain ⟨_, _, ⟨T3, L3, k3, n3⟩, -, X3, ⟨Lc3, hQ3, l3, y3, z3⟩, st3⟩ := Jvm.LawKit.callS X0 hx (y := (⟨"java/util/DualPivotQuicksort", "insertionSort", "([III)V"⟩ : MethodName)) hown (mvT hZ (hw _ (List.mem_of_getElem? (i := 136) rfl))) (mvT hZ (hw _ (List.mem_of_getElem? (i := 137) rfl))) (mvT hZ (hw _ (List.mem_of_getElem? (i := 131) rfl))) (mvT hZ (hw _ (List.mem_of_getElem? (i := 138) rfl))) (by decide) (backOf (W := 0) (rmis2 l Z a0 hw [] a1 ka x0 x1 h0 n0 O0 VA g_a1) hZ (hw _ (List.mem_of_getElem? (i := 138) rfl)) (hw _ (List.mem_of_getElem? (i := 131) rfl)) (by decide) (by decide)) (g := (mkF m 57 #[.val .null, .val (.ref a1), .val (.int 0), .val (.int 0), .val (.int 2), .val (.int 1), .val (.int 2), .unset, .unset, .unset, .unset, .unset, .unset, .unset, .unset, .unset, .unset, .unset, .unset, .unset, .unset] [(.int 2), (.int 0), (.ref a1)])) rfl (by rw [hml]; rfl) (argsL := [(.ref a1), (.int 0), (.int 2)]) (rest := []) (lenOf pd13 rfl) rfl (by show 2 * 0 + _ ≤ _; exact Nat.le_of_eq rfl) (hb hby d27_57) (fun _ _ => ⟨rfl, e0, (by decide : 0 + 0 ≤ _), (by decide : 0 + 0 ≤ _)⟩)
  dsimp only [Pt.U, Pt.locs, Pt.cells, Pt.slots] at X3 l3 y3 z3 st3 hQ3
  subst l3 y3 z3
  obtain ⟨h3, e3⟩ : ∃ z, T3.heap = z := ⟨_, rfl⟩
  rw [e3] at hQ3
  obtain ⟨rfl, Nq3, K3, V3q⟩ := hQ3
  have N3 := Fr.app N0 Nq3
  have O4 := O0.keep K3 (allS g_a1 all0)
  have kp5 : Keep h0 h3 [a1] := (Keep.refl h0 [a1]).trans K3 (allS (Or.inl (List.mem_of_getElem? (i := 0) rfl)) all0)
  obtain ⟨fs, hr, hrun, hended, hW, hsame⟩ := X3.leave (v := none) (fun _ => rfl)
  refine ⟨_, _, pre0 _ ?_, hrun, hended, _, _, rfl, ?_, ⟨_, rfl⟩, hW, hsame.mono (by decide) (by decide)⟩
  · refine pf1 _ ?_
    refine pf2 _ ?_
    show Steps p.tables e below (s₁.setTop (mkF m 50 #[.val .null, .val (.ref a1), .val (.int 0), .val (.int 0), .val (.int 2), .val (.int 1), .val (.int 2), .unset, .unset, .unset, .unset, .unset, .unset, .unset, .unset, .unset, .unset, .unset, .unset, .unset, .unset] [(.int 44), (.int 2)])) _
    refine XS.icmpNo X0.here hx rfl (hb hby d27_50) rfl (tlt (by decide)).2.1 ?_
    refine XS.aloadN X0.here hx rfl (hb hby d27_53) rfl rfl ?_
    refine XS.iloadN X0.here hx rfl (hb hby d27_54) rfl ?_
    refine XS.iload X0.here hx rfl (hb hby d27_55) rfl ?_
    show Steps p.tables e below (s₁.setTop (mkF m 57 #[.val .null, .val (.ref a1), .val (.int 0), .val (.int 0), .val (.int 2), .val (.int 1), .val (.int 2), .unset, .unset, .unset, .unset, .unset, .unset, .unset, .unset, .unset, .unset, .unset, .unset, .unset, .unset] [(.int 2), (.int 0), (.ref a1)])) _
    refine st3 _ ?_
    show Steps p.tables e below (T3.setTop (mkF m 60 #[.val .null, .val (.ref a1), .val (.int 0), .val (.int 0), .val (.int 2), .val (.int 1), .val (.int 2), .unset, .unset, .unset, .unset, .unset, .unset, .unset, .unset, .unset, .unset, .unset, .unset, .unset, .unset] [])) _
    exact X3.returnOut hx Bd.returns (hb hby d27_60) hr
  · show Qsrt Z a1 ka [x0, x1] h0 n0 _ T3.heap _
    rw [e3]
    exact ⟨rfl, N3, kp5, V3q⟩
theorem ef_rms4_2 (m : MethodId) (x0 : Addr) (x1 : Int32) (x2 : Int32) (x3 : Int32) : entryFrame m #[(.ref x0), (.int x1), (.int x2), (.int x3)] 7 = mkF m 0 #[.val (.ref x0), .val (.int x1), .val (.int x2), .val (.int x3), .unset, .unset, .unset] [] := by first | (simp [entryFrame, mkF, argsToLocals, Value.category]; done) | rfl
set_option maxRecDepth 65536 in
set_option maxHeartbeats 40000000 in
theorem rms4_2 (l : Launch) (Z : State) (a0 : Array Value) (hw : ∀ d ∈ tables_1, d.before a0 Z = true) (ws : List Jvm.Cond) (a1 : Addr) (ka : ClassId) (x0 : Int32) (x1 : Int32) (h0 : Heap) (n0 : Nat) (O0 : Old Z n0 h0) (VA : Arv Z h0 a1 ka .int (2 : Int32) [(.int x0), (.int x1)] (.int 0)) (g_a1 : n0 ≤ a1) :
    MetFree l (⟨"java/util/DualPivotQuicksort", "sort", "([IIII)V"⟩ : MethodName) (head1 (Jvm.Cond.code (⟨"java/util/DualPivotQuicksort", "sort", "([IIII)V"⟩ : MethodName) jdk_2529_method_3_code 7 none :: ws) ({ frames := 2, cells := 0, slots := 0, locals := 49 } : Room)) (fun a U => a = #[(.ref a1), (.int 0), (.int 0), (.int 2)] ∧ Z.Warmed39 U.vm ∧ U.heap = h0) (fun _ _ _ _ _ => True) (fun _ U o U' => ∃ v L, o = .returned v ∧ Qsrt Z a1 ka [x0, x1] h0 n0 v U'.heap L ∧ FrameEnd U o U' L ({ frames := 2, cells := 0, slots := 0, locals := 49 } : Room).cells ({ frames := 2, cells := 0, slots := 0, locals := 49 } : Room).slots) := by
  refine MetFree.of_bodySF (plainFor_of_name pn9) hisR ?_
  intro p e s m args below meth c s₁ Bd hml0 hP hK
  obtain ⟨rfl, hZ, hh⟩ := hP
  have hx := Bd.exec
  have hby := Bd.bytes
  have hml : c.maxLocals = 7 := hml0
  have hown : s.vm.findClass "java/util/DualPivotQuicksort" = some m.cls := findClass_of_methodNamed Bd.named
  have hnm := (name_of_methodNamed Bd.named Bd.method).1
  have X0 : Stand p l e ({ frames := 2, cells := 0, slots := 0, locals := 49 } : Room) s m #[(.ref a1), (.int 0), (.int 0), (.int 2)] below meth c s₁ [] 0 0 := Stand.of_body Bd
  have e0 : s₁.heap = h0 := by rw [← hh, Bd.state]; rfl
  have N0 := Fr.nil n0
  have pre0 : ∀ t, Steps p.tables e below (s₁.setTop (mkF m 0 #[.val (.ref a1), .val (.int 0), .val (.int 0), .val (.int 2), .unset, .unset, .unset] [])) t → Steps p.tables e below (s₁.setTop (entryFrame m #[(.ref a1), (.int 0), (.int 0), (.int 2)] 7)) t := fun t k => castTop (ef_rms4_2 m a1 (0 : Int32) (0 : Int32) (2 : Int32)) k
  have pf1 : ∀ target, Steps p.tables e below (s₁.setTop (mkF m 7 #[.val (.ref a1), .val (.int 0), .val (.int 0), .val (.int 2), .val (.int 2), .unset, .unset] [(.int 1), (.int 0)])) target → Steps p.tables e below (s₁.setTop (mkF m 0 #[.val (.ref a1), .val (.int 0), .val (.int 0), .val (.int 2), .unset, .unset, .unset] [])) target := by
    intro target k
    show Steps p.tables e below (s₁.setTop (mkF m 0 #[.val (.ref a1), .val (.int 0), .val (.int 0), .val (.int 2), .unset, .unset, .unset] [])) _
    refine XS.iloadN X0.here hx rfl (hb hby d26_0) rfl ?_
    refine XS.iloadN X0.here hx rfl (hb hby d26_1) rfl ?_
    refine XS.isub X0.here hx rfl (hb hby d26_2) rfl ?_
    show Steps p.tables e below (s₁.setTop (mkF m 3 #[.val (.ref a1), .val (.int 0), .val (.int 0), .val (.int 2), .unset, .unset, .unset] [(.int 2)])) _
    refine XS.istore X0.here hx rfl (hb hby d26_3) rfl (l' := #[.val (.ref a1), .val (.int 0), .val (.int 0), .val (.int 2), .val (.int 2), .unset, .unset]) rfl ?_
    refine XS.iloadN X0.here hx rfl (hb hby d26_5) rfl ?_
    refine XS.iconst X0.here hx rfl (hb hby d26_6) ?_
    exact k
  obtain ⟨_, _, ⟨T2, L2, k2, n2⟩, -, X2, ⟨Lc2, hQ2, l2, y2, z2⟩, st2⟩ := Jvm.LawKit.callS X0 hx (y := (⟨"java/util/DualPivotQuicksort", "sort", "(Ljava/util/DualPivotQuicksort$Sorter;[IIII)V"⟩ : MethodName)) hown (mvT hZ (hw _ (List.mem_of_getElem? (i := 133) rfl))) (mvT hZ (hw _ (List.mem_of_getElem? (i := 134) rfl))) (mvT hZ (hw _ (List.mem_of_getElem? (i := 131) rfl))) (mvT hZ (hw _ (List.mem_of_getElem? (i := 135) rfl))) (by decide) (backOf (W := 0) (rms5_2 l Z a0 hw [] a1 ka x0 x1 h0 n0 O0 VA g_a1) hZ (hw _ (List.mem_of_getElem? (i := 135) rfl)) (hw _ (List.mem_of_getElem? (i := 131) rfl)) (by decide) (by decide)) (g := (mkF m 73 #[.val (.ref a1), .val (.int 0), .val (.int 0), .val (.int 2), .val (.int 2), .unset, .unset] [(.int 2), (.int 0), (.int 0), (.ref a1), .null])) rfl (by rw [hml]; rfl) (argsL := [.null, (.ref a1), (.int 0), (.int 0), (.int 2)]) (rest := []) (lenOf pd14 rfl) rfl (by show 2 * 0 + _ ≤ _; exact Nat.le_of_eq rfl) (hb hby d26_73) (fun _ _ => ⟨rfl, e0, (by decide : 0 + 0 ≤ _), (by decide : 0 + 0 ≤ _)⟩)
  dsimp only [Pt.U, Pt.locs, Pt.cells, Pt.slots] at X2 l2 y2 z2 st2 hQ2
  subst l2 y2 z2
  obtain ⟨h2, e2⟩ : ∃ z, T2.heap = z := ⟨_, rfl⟩
  rw [e2] at hQ2
  obtain ⟨rfl, Nq2, K2, V2q⟩ := hQ2
  have N2 := Fr.app N0 Nq2
  have O3 := O0.keep K2 (allS g_a1 all0)
  have kp4 : Keep h0 h2 [a1] := (Keep.refl h0 [a1]).trans K2 (allS (Or.inl (List.mem_of_getElem? (i := 0) rfl)) all0)
  obtain ⟨fs, hr, hrun, hended, hW, hsame⟩ := X2.leave (v := none) (fun _ => rfl)
  refine ⟨_, _, pre0 _ ?_, hrun, hended, _, _, rfl, ?_, ⟨_, rfl⟩, hW, hsame.mono (by decide) (by decide)⟩
  · refine pf1 _ ?_
    show Steps p.tables e below (s₁.setTop (mkF m 7 #[.val (.ref a1), .val (.int 0), .val (.int 0), .val (.int 2), .val (.int 2), .unset, .unset] [(.int 1), (.int 0)])) _
    refine XS.icmpYes X0.here hx rfl (pc0 := 7) (pc' := 68) rfl (hb hby d26_7) rfl (flt (by decide)).2.2.2 (by decide) (by decide) ?_
    refine XS.aconstNull X0.here hx rfl (hb hby d26_68) ?_
    refine XS.aloadN X0.here hx rfl (hb hby d26_69) rfl rfl ?_
    refine XS.iconst X0.here hx rfl (hb hby d26_70) ?_
    refine XS.iloadN X0.here hx rfl (hb hby d26_71) rfl ?_
    refine XS.iloadN X0.here hx rfl (hb hby d26_72) rfl ?_
    show Steps p.tables e below (s₁.setTop (mkF m 73 #[.val (.ref a1), .val (.int 0), .val (.int 0), .val (.int 2), .val (.int 2), .unset, .unset] [(.int 2), (.int 0), (.int 0), (.ref a1), .null])) _
    refine st2 _ ?_
    show Steps p.tables e below (T2.setTop (mkF m 76 #[.val (.ref a1), .val (.int 0), .val (.int 0), .val (.int 2), .val (.int 2), .unset, .unset] [])) _
    exact X2.returnOut hx Bd.returns (hb hby d26_76) hr
  · show Qsrt Z a1 ka [x0, x1] h0 n0 _ T2.heap _
    rw [e2]
    exact ⟨rfl, N2, kp4, V2q⟩
theorem ef_rmsr2 (m : MethodId) (x0 : Addr) : entryFrame m #[(.ref x0)] 1 = mkF m 0 #[.val (.ref x0)] [] := by first | (simp [entryFrame, mkF, argsToLocals, Value.category]; done) | rfl
set_option maxRecDepth 65536 in
set_option maxHeartbeats 40000000 in
theorem rmsr2 (l : Launch) (Z : State) (a0 : Array Value) (hw : ∀ d ∈ tables_1, d.before a0 Z = true) (ws : List Jvm.Cond) (a1 : Addr) (ka : ClassId) (x0 : Int32) (x1 : Int32) (h0 : Heap) (n0 : Nat) (O0 : Old Z n0 h0) (VA : Arv Z h0 a1 ka .int (2 : Int32) [(.int x0), (.int x1)] (.int 0)) (g_a1 : n0 ≤ a1) :
    MetFree l (⟨"java/util/Arrays", "sort", "([I)V"⟩ : MethodName) (head1 (Jvm.Cond.code (⟨"java/util/Arrays", "sort", "([I)V"⟩ : MethodName) jdk_65_method_2_code 1 none :: ws) ({ frames := 3, cells := 0, slots := 0, locals := 67 } : Room)) (fun a U => a = #[(.ref a1)] ∧ Z.Warmed39 U.vm ∧ U.heap = h0) (fun _ _ _ _ _ => True) (fun _ U o U' => ∃ v L, o = .returned v ∧ Qsrt Z a1 ka [x0, x1] h0 n0 v U'.heap L ∧ FrameEnd U o U' L ({ frames := 3, cells := 0, slots := 0, locals := 67 } : Room).cells ({ frames := 3, cells := 0, slots := 0, locals := 67 } : Room).slots) := by
  refine MetFree.of_bodySF (plainFor_of_name pn5) hisR ?_
  intro p e s m args below meth c s₁ Bd hml0 hP hK
  obtain ⟨rfl, hZ, hh⟩ := hP
  have hx := Bd.exec
  have hby := Bd.bytes
  have hml : c.maxLocals = 1 := hml0
  have hown : s.vm.findClass "java/util/Arrays" = some m.cls := findClass_of_methodNamed Bd.named
  have hnm := (name_of_methodNamed Bd.named Bd.method).1
  have X0 : Stand p l e ({ frames := 3, cells := 0, slots := 0, locals := 67 } : Room) s m #[(.ref a1)] below meth c s₁ [] 0 0 := Stand.of_body Bd
  have e0 : s₁.heap = h0 := by rw [← hh, Bd.state]; rfl
  have N0 := Fr.nil n0
  have pre0 : ∀ t, Steps p.tables e below (s₁.setTop (mkF m 0 #[.val (.ref a1)] [])) t → Steps p.tables e below (s₁.setTop (entryFrame m #[(.ref a1)] 1)) t := fun t k => castTop (ef_rmsr2 m a1) k
  obtain ⟨cl1, Ar1, q1, Sz1, Nn1, Ha1, Gf1⟩ := id VA
  obtain ⟨_, _, ⟨T2, L2, k2, n2⟩, -, X2, ⟨Lc2, hQ2, l2, y2, z2⟩, st2⟩ := Jvm.LawKit.callS X0 hx (y := (⟨"java/util/DualPivotQuicksort", "sort", "([IIII)V"⟩ : MethodName)) hown (mvT hZ (hw _ (List.mem_of_getElem? (i := 129) rfl))) (mvT hZ (hw _ (List.mem_of_getElem? (i := 130) rfl))) (mvT hZ (hw _ (List.mem_of_getElem? (i := 131) rfl))) (mvT hZ (hw _ (List.mem_of_getElem? (i := 132) rfl))) (by decide) (backOf (W := 0) (rms4_2 l Z a0 hw [] a1 ka x0 x1 h0 n0 O0 VA g_a1) hZ (hw _ (List.mem_of_getElem? (i := 132) rfl)) (hw _ (List.mem_of_getElem? (i := 131) rfl)) (by decide) (by decide)) (g := (mkF m 5 #[.val (.ref a1)] [(.int 2), (.int 0), (.int 0), (.ref a1)])) rfl (by rw [hml]; rfl) (argsL := [(.ref a1), (.int 0), (.int 0), (.int 2)]) (rest := []) (lenOf pd15 rfl) rfl (by show 2 * 0 + _ ≤ _; exact Nat.le_of_eq rfl) (hb hby d25_5) (fun _ _ => ⟨rfl, e0, (by decide : 0 + 0 ≤ _), (by decide : 0 + 0 ≤ _)⟩)
  dsimp only [Pt.U, Pt.locs, Pt.cells, Pt.slots] at X2 l2 y2 z2 st2 hQ2
  subst l2 y2 z2
  obtain ⟨h2, e2⟩ : ∃ z, T2.heap = z := ⟨_, rfl⟩
  rw [e2] at hQ2
  obtain ⟨rfl, Nq2, K2, V2q⟩ := hQ2
  have N2 := Fr.app N0 Nq2
  have O3 := O0.keep K2 (allS g_a1 all0)
  have kp4 : Keep h0 h2 [a1] := (Keep.refl h0 [a1]).trans K2 (allS (Or.inl (List.mem_of_getElem? (i := 0) rfl)) all0)
  obtain ⟨fs, hr, hrun, hended, hW, hsame⟩ := X2.leave (v := none) (fun _ => rfl)
  refine ⟨_, _, pre0 _ ?_, hrun, hended, _, _, rfl, ?_, ⟨_, rfl⟩, hW, hsame.mono (by decide) (by decide)⟩
  · show Steps p.tables e below (s₁.setTop (mkF m 0 #[.val (.ref a1)] [])) _
    refine XS.aloadN X0.here hx rfl (hb hby d25_0) rfl rfl ?_
    refine XS.iconst X0.here hx rfl (hb hby d25_1) ?_
    refine XS.iconst X0.here hx rfl (hb hby d25_2) ?_
    refine XS.aloadN X0.here hx rfl (hb hby d25_3) rfl rfl ?_
    show Steps p.tables e below (s₁.setTop (mkF m 4 #[.val (.ref a1)] [(.ref a1), (.int 0), (.int 0), (.ref a1)])) _
    refine X0.arraylength hx (by rw [e0]; exact Ar1.1) (State.isArrayOf_alike hZ.alike Ar1.2.1) (g := (mkF m 4 #[.val (.ref a1)] [(.ref a1), (.int 0), (.int 0), (.ref a1)])) rfl rfl (hb hby d25_4) _ ?_
    rw [len_of Sz1 Nn1]
    show Steps p.tables e below (s₁.setTop (mkF m 5 #[.val (.ref a1)] [(.int 2), (.int 0), (.int 0), (.ref a1)])) _
    refine st2 _ ?_
    show Steps p.tables e below (T2.setTop (mkF m 8 #[.val (.ref a1)] [])) _
    exact X2.returnOut hx Bd.returns (hb hby d25_8) hr
  · show Qsrt Z a1 ka [x0, x1] h0 n0 _ T2.heap _
    rw [e2]
    exact ⟨rfl, N2, kp4, V2q⟩
theorem ef_rmis3 (m : MethodId) (x0 : Addr) (x1 : Int32) (x2 : Int32) : entryFrame m #[(.ref x0), (.int x1), (.int x2)] 6 = mkF m 0 #[.val (.ref x0), .val (.int x1), .val (.int x2), .unset, .unset, .unset] [] := by first | (simp [entryFrame, mkF, argsToLocals, Value.category]; done) | rfl
set_option maxRecDepth 65536 in
set_option maxHeartbeats 40000000 in
theorem rmis3 (l : Launch) (Z : State) (a0 : Array Value) (hw : ∀ d ∈ tables_1, d.before a0 Z = true) (ws : List Jvm.Cond) (a1 : Addr) (ka : ClassId) (x0 : Int32) (x1 : Int32) (x2 : Int32) (h0 : Heap) (n0 : Nat) (O0 : Old Z n0 h0) (VA : Arv Z h0 a1 ka .int (3 : Int32) [(.int x0), (.int x1), (.int x2)] (.int 0)) (g_a1 : n0 ≤ a1) :
    MetFree l (⟨"java/util/DualPivotQuicksort", "insertionSort", "([III)V"⟩ : MethodName) (head1 (Jvm.Cond.code (⟨"java/util/DualPivotQuicksort", "insertionSort", "([III)V"⟩ : MethodName) jdk_2529_method_6_code 6 none :: ws) ({ frames := 0, cells := 0, slots := 0, locals := 0 } : Room)) (fun a U => a = #[(.ref a1), (.int 0), (.int 3)] ∧ Z.Warmed39 U.vm ∧ U.heap = h0) (fun _ _ _ _ _ => True) (fun _ U o U' => ∃ v L, o = .returned v ∧ Qsrt Z a1 ka [x0, x1, x2] h0 n0 v U'.heap L ∧ FrameEnd U o U' L ({ frames := 0, cells := 0, slots := 0, locals := 0 } : Room).cells ({ frames := 0, cells := 0, slots := 0, locals := 0 } : Room).slots) := by
  refine MetFree.of_bodySF (plainFor_of_name pn9) hisR ?_
  intro p e s m args below meth c s₁ Bd hml0 hP hK
  obtain ⟨rfl, hZ, hh⟩ := hP
  have hx := Bd.exec
  have hby := Bd.bytes
  have hml : c.maxLocals = 6 := hml0
  have hown : s.vm.findClass "java/util/DualPivotQuicksort" = some m.cls := findClass_of_methodNamed Bd.named
  have hnm := (name_of_methodNamed Bd.named Bd.method).1
  have X0 : Stand p l e ({ frames := 0, cells := 0, slots := 0, locals := 0 } : Room) s m #[(.ref a1), (.int 0), (.int 3)] below meth c s₁ [] 0 0 := Stand.of_body Bd
  have e0 : s₁.heap = h0 := by rw [← hh, Bd.state]; rfl
  have N0 := Fr.nil n0
  have pre0 : ∀ t, Steps p.tables e below (s₁.setTop (mkF m 0 #[.val (.ref a1), .val (.int 0), .val (.int 3), .unset, .unset, .unset] [])) t → Steps p.tables e below (s₁.setTop (entryFrame m #[(.ref a1), (.int 0), (.int 3)] 6)) t := fun t k => castTop (ef_rmis3 m a1 (0 : Int32) (3 : Int32)) k
  have pf1 : ∀ target, Steps p.tables e below (s₁.setTop (mkF m 9 #[.val (.ref a1), .val (.int 0), .val (.int 3), .unset, .val (.int 1), .unset] [(.int 3), (.int 1)])) target → Steps p.tables e below (s₁.setTop (mkF m 0 #[.val (.ref a1), .val (.int 0), .val (.int 3), .unset, .unset, .unset] [])) target := by
    intro target k
    show Steps p.tables e below (s₁.setTop (mkF m 0 #[.val (.ref a1), .val (.int 0), .val (.int 3), .unset, .unset, .unset] [])) _
    refine XS.iloadN X0.here hx rfl (hb hby d28_0) rfl ?_
    refine XS.istore X0.here hx rfl (hb hby d28_1) rfl (l' := #[.val (.ref a1), .val (.int 0), .val (.int 3), .unset, .val (.int 0), .unset]) rfl ?_
    refine XS.iinc X0.here hx rfl (hb hby d28_3) rfl (l' := #[.val (.ref a1), .val (.int 0), .val (.int 3), .unset, .val (.int 1), .unset]) rfl ?_
    show Steps p.tables e below (s₁.setTop (mkF m 6 #[.val (.ref a1), .val (.int 0), .val (.int 3), .unset, .val (.int 1), .unset] [])) _
    refine XS.iload X0.here hx rfl (hb hby d28_6) rfl ?_
    refine XS.iloadN X0.here hx rfl (hb hby d28_8) rfl ?_
    exact k
  obtain ⟨cl2, Ar2, q2, Sz2, Nn2, Ha2, Gf2⟩ := id VA
  have hin2 : ¬ ((1 : Int32) < 0 ∨ cl2.slots.size ≤ ((1 : Int32)).toNatClampNeg) := inb_of Sz2 ⟨by decide, by decide⟩
  have hat2 : cl2.slots[((1 : Int32)).toNatClampNeg]? = some (.int x1) := Has.at Ha2 hin2 rfl
  obtain ⟨cl3, Ar3, q3, Sz3, Nn3, Ha3, Gf3⟩ := id VA
  have hin3 : ¬ ((0 : Int32) < 0 ∨ cl3.slots.size ≤ ((0 : Int32)).toNatClampNeg) := inb_of Sz3 ⟨by decide, by decide⟩
  have hat3 : cl3.slots[((0 : Int32)).toNatClampNeg]? = some (.int x0) := Has.at Ha3 hin3 rfl
  have pf4 : ∀ target, Steps p.tables e below (s₁.setTop (mkF m 27 #[.val (.ref a1), .val (.int 0), .val (.int 3), .val (.int 1), .val (.int 1), .val (.int x1)] [(.int x0), (.int x1)])) target → Steps p.tables e below (s₁.setTop (mkF m 9 #[.val (.ref a1), .val (.int 0), .val (.int 3), .unset, .val (.int 1), .unset] [(.int 3), (.int 1)])) target := by
    intro target k
    show Steps p.tables e below (s₁.setTop (mkF m 9 #[.val (.ref a1), .val (.int 0), .val (.int 3), .unset, .val (.int 1), .unset] [(.int 3), (.int 1)])) _
    refine XS.icmpNo X0.here hx rfl (hb hby d28_9) rfl (tlt (by decide)).2.1 ?_
    refine XS.aloadN X0.here hx rfl (hb hby d28_12) rfl rfl ?_
    refine XS.iload X0.here hx rfl (hb hby d28_13) rfl ?_
    refine XS.dup X0.here hx rfl (hb hby d28_15) rfl rfl ?_
    refine XS.istoreN X0.here hx rfl (hb hby d28_16) rfl (l' := #[.val (.ref a1), .val (.int 0), .val (.int 3), .val (.int 1), .val (.int 1), .unset]) rfl ?_
    show Steps p.tables e below (s₁.setTop (mkF m 17 #[.val (.ref a1), .val (.int 0), .val (.int 3), .val (.int 1), .val (.int 1), .unset] [(.int 1), (.ref a1)])) _
    refine X0.iaload hx (j := (1 : Int32)) (v := (.int x1)) (by rw [e0]; exact Ar2.1) (State.isArrayOf_alike hZ.alike Ar2.2.1) Ar2.2.2 hin2 hat2 (g := (mkF m 17 #[.val (.ref a1), .val (.int 0), .val (.int 3), .val (.int 1), .val (.int 1), .unset] [(.int 1), (.ref a1)])) rfl rfl (hb hby d28_17) _ ?_
    show Steps p.tables e below (s₁.setTop (mkF m 18 #[.val (.ref a1), .val (.int 0), .val (.int 3), .val (.int 1), .val (.int 1), .unset] [(.int x1)])) _
    refine XS.istore X0.here hx rfl (hb hby d28_18) rfl (l' := #[.val (.ref a1), .val (.int 0), .val (.int 3), .val (.int 1), .val (.int 1), .val (.int x1)]) rfl ?_
    refine XS.iload X0.here hx rfl (hb hby d28_20) rfl ?_
    refine XS.aloadN X0.here hx rfl (hb hby d28_22) rfl rfl ?_
    refine XS.iloadN X0.here hx rfl (hb hby d28_23) rfl ?_
    refine XS.iconst X0.here hx rfl (hb hby d28_24) ?_
    refine XS.isub X0.here hx rfl (hb hby d28_25) rfl ?_
    show Steps p.tables e below (s₁.setTop (mkF m 26 #[.val (.ref a1), .val (.int 0), .val (.int 3), .val (.int 1), .val (.int 1), .val (.int x1)] [(.int 0), (.ref a1), (.int x1)])) _
    refine X0.iaload hx (j := (0 : Int32)) (v := (.int x0)) (by rw [e0]; exact Ar3.1) (State.isArrayOf_alike hZ.alike Ar3.2.1) Ar3.2.2 hin3 hat3 (g := (mkF m 26 #[.val (.ref a1), .val (.int 0), .val (.int 3), .val (.int 1), .val (.int 1), .val (.int x1)] [(.int 0), (.ref a1), (.int x1)])) rfl rfl (hb hby d28_26) _ ?_
    exact k
  by_cases hc27 : x1 < x0
  · obtain ⟨cl5, Ar5, q5, Sz5, Nn5, Ha5, Gf5⟩ := id VA
    have hin5 : ¬ ((0 : Int32) < 0 ∨ cl5.slots.size ≤ ((0 : Int32)).toNatClampNeg) := inb_of Sz5 ⟨by decide, by decide⟩
    have hat5 : cl5.slots[((0 : Int32)).toNatClampNeg]? = some (.int x0) := Has.at Ha5 hin5 rfl
    have pf6 : ∀ target, Steps p.tables e below (s₁.setTop (mkF m 43 #[.val (.ref a1), .val (.int 0), .val (.int 3), .val (.int 0), .val (.int 1), .val (.int x1)] [(.int x0), (.int x1)])) target → Steps p.tables e below (s₁.setTop (mkF m 27 #[.val (.ref a1), .val (.int 0), .val (.int 3), .val (.int 1), .val (.int 1), .val (.int x1)] [(.int x0), (.int x1)])) target := by
      intro target k
      show Steps p.tables e below (s₁.setTop (mkF m 27 #[.val (.ref a1), .val (.int 0), .val (.int 3), .val (.int 1), .val (.int 1), .val (.int x1)] [(.int x0), (.int x1)])) _
      refine XS.icmpNo X0.here hx rfl (hb hby d28_27) rfl (tlt hc27).2.1 ?_
      refine XS.iinc X0.here hx rfl (hb hby d28_30) rfl (l' := #[.val (.ref a1), .val (.int 0), .val (.int 3), .val (.int 0), .val (.int 1), .val (.int x1)]) rfl ?_
      show Steps p.tables e below (s₁.setTop (mkF m 33 #[.val (.ref a1), .val (.int 0), .val (.int 3), .val (.int 0), .val (.int 1), .val (.int x1)] [])) _
      refine XS.iloadN X0.here hx rfl (hb hby d28_33) rfl ?_
      refine XS.iloadN X0.here hx rfl (hb hby d28_34) rfl ?_
      refine XS.icmpNo X0.here hx rfl (hb hby d28_35) rfl (flt (by decide)).1 ?_
      refine XS.iload X0.here hx rfl (hb hby d28_38) rfl ?_
      refine XS.aloadN X0.here hx rfl (hb hby d28_40) rfl rfl ?_
      refine XS.iloadN X0.here hx rfl (hb hby d28_41) rfl ?_
      show Steps p.tables e below (s₁.setTop (mkF m 42 #[.val (.ref a1), .val (.int 0), .val (.int 3), .val (.int 0), .val (.int 1), .val (.int x1)] [(.int 0), (.ref a1), (.int x1)])) _
      refine X0.iaload hx (j := (0 : Int32)) (v := (.int x0)) (by rw [e0]; exact Ar5.1) (State.isArrayOf_alike hZ.alike Ar5.2.1) Ar5.2.2 hin5 hat5 (g := (mkF m 42 #[.val (.ref a1), .val (.int 0), .val (.int 3), .val (.int 0), .val (.int 1), .val (.int x1)] [(.int 0), (.ref a1), (.int x1)])) rfl rfl (hb hby d28_42) _ ?_
      exact k
    obtain ⟨cl7, Ar7, q7, Sz7, Nn7, Ha7, Gf7⟩ := id VA
    have hin7 : ¬ ((0 : Int32) < 0 ∨ cl7.slots.size ≤ ((0 : Int32)).toNatClampNeg) := inb_of Sz7 ⟨by decide, by decide⟩
    have hat7 : cl7.slots[((0 : Int32)).toNatClampNeg]? = some (.int x0) := Has.at Ha7 hin7 rfl
    obtain ⟨cl8, Ar8, q8, Sz8, Nn8, Ha8, Gf8⟩ := VA
    have hin8 : ¬ ((1 : Int32) < 0 ∨ cl8.slots.size ≤ ((1 : Int32)).toNatClampNeg) := inb_of Sz8 ⟨by decide, by decide⟩
    obtain ⟨T9, h9, X9, e9, W9, st9⟩ := stI X0 hx hZ e0 Ar8 (j := (1 : Int32)) hin8 (g := (mkF m 53 #[.val (.ref a1), .val (.int 0), .val (.int 3), .val (.int 0), .val (.int 1), .val (.int x1)] [(.int x0), (.int 1), (.ref a1)])) rfl rfl (hb hby d28_53)
    have Va9 := Arv.set Ar8 q8 Sz8 Nn8 Ha8 Gf8 rfl W9 1 rfl (Nat.le_of_ble_eq_true rfl)
    have Vb9 : Arv Z h9 a1 ka .int (3 : Int32) [(.int x0), (.int x0), (.int x2)] (.int 0) := Va9
    have O10 := O0.wr W9 g_a1
    have kp11 : Keep h0 h9 [a1] := (Keep.refl h0 [a1]).wr W9 (Or.inl (List.mem_of_getElem? (i := 0) rfl))
    have N9 := Fr.snoc X9 N0 g_a1
    have pf12 : ∀ target, Steps p.tables e below (T9.setTop (mkF m 35 #[.val (.ref a1), .val (.int 0), .val (.int 3), .val (.int (-1 : Int32)), .val (.int 1), .val (.int x1)] [(.int 0), (.int (-1 : Int32))])) target → Steps p.tables e below (s₁.setTop (mkF m 43 #[.val (.ref a1), .val (.int 0), .val (.int 3), .val (.int 0), .val (.int 1), .val (.int x1)] [(.int x0), (.int x1)])) target := by
      intro target k
      show Steps p.tables e below (s₁.setTop (mkF m 43 #[.val (.ref a1), .val (.int 0), .val (.int 3), .val (.int 0), .val (.int 1), .val (.int x1)] [(.int x0), (.int x1)])) _
      refine XS.icmpNo X0.here hx rfl (hb hby d28_43) rfl (tlt hc27).2.1 ?_
      refine XS.aloadN X0.here hx rfl (hb hby d28_46) rfl rfl ?_
      refine XS.iloadN X0.here hx rfl (hb hby d28_47) rfl ?_
      refine XS.iconst X0.here hx rfl (hb hby d28_48) ?_
      refine XS.iadd X0.here hx rfl (hb hby d28_49) rfl ?_
      show Steps p.tables e below (s₁.setTop (mkF m 50 #[.val (.ref a1), .val (.int 0), .val (.int 3), .val (.int 0), .val (.int 1), .val (.int x1)] [(.int 1), (.ref a1)])) _
      refine XS.aloadN X0.here hx rfl (hb hby d28_50) rfl rfl ?_
      refine XS.iloadN X0.here hx rfl (hb hby d28_51) rfl ?_
      show Steps p.tables e below (s₁.setTop (mkF m 52 #[.val (.ref a1), .val (.int 0), .val (.int 3), .val (.int 0), .val (.int 1), .val (.int x1)] [(.int 0), (.ref a1), (.int 1), (.ref a1)])) _
      refine X0.iaload hx (j := (0 : Int32)) (v := (.int x0)) (by rw [e0]; exact Ar7.1) (State.isArrayOf_alike hZ.alike Ar7.2.1) Ar7.2.2 hin7 hat7 (g := (mkF m 52 #[.val (.ref a1), .val (.int 0), .val (.int 3), .val (.int 0), .val (.int 1), .val (.int x1)] [(.int 0), (.ref a1), (.int 1), (.ref a1)])) rfl rfl (hb hby d28_52) _ ?_
      show Steps p.tables e below (s₁.setTop (mkF m 53 #[.val (.ref a1), .val (.int 0), .val (.int 3), .val (.int 0), .val (.int 1), .val (.int x1)] [(.int x0), (.int 1), (.ref a1)])) _
      refine st9 _ ?_
      show Steps p.tables e below (T9.setTop (mkF m 54 #[.val (.ref a1), .val (.int 0), .val (.int 3), .val (.int 0), .val (.int 1), .val (.int x1)] [])) _
      refine XS.goto X9.here hx rfl (pc0 := 54) (pc' := 30) rfl (hb hby d28_54) (by decide) (by decide) ?_
      refine XS.iinc X9.here hx rfl (hb hby d28_30) rfl (l' := #[.val (.ref a1), .val (.int 0), .val (.int 3), .val (.int (-1 : Int32)), .val (.int 1), .val (.int x1)]) rfl ?_
      show Steps p.tables e below (T9.setTop (mkF m 33 #[.val (.ref a1), .val (.int 0), .val (.int 3), .val (.int (-1 : Int32)), .val (.int 1), .val (.int x1)] [])) _
      refine XS.iloadN X9.here hx rfl (hb hby d28_33) rfl ?_
      refine XS.iloadN X9.here hx rfl (hb hby d28_34) rfl ?_
      exact k
    obtain ⟨cl13, Ar13, q13, Sz13, Nn13, Ha13, Gf13⟩ := Vb9
    have hin13 : ¬ ((0 : Int32) < 0 ∨ cl13.slots.size ≤ ((0 : Int32)).toNatClampNeg) := inb_of Sz13 ⟨by decide, by decide⟩
    obtain ⟨T14, h14, X14, e14, W14, st14⟩ := stI X9 hx hZ e9 Ar13 (j := (0 : Int32)) hin13 (g := (mkF m 63 #[.val (.ref a1), .val (.int 0), .val (.int 3), .val (.int (-1 : Int32)), .val (.int 1), .val (.int x1)] [(.int x1), (.int 0), (.ref a1)])) rfl rfl (hb hby d28_63)
    have Va14 := Arv.set Ar13 q13 Sz13 Nn13 Ha13 Gf13 rfl W14 0 rfl (Nat.le_of_ble_eq_true rfl)
    have Vb14 : Arv Z h14 a1 ka .int (3 : Int32) [(.int x1), (.int x0), (.int x2)] (.int 0) := Va14
    have O15 := O10.wr W14 g_a1
    have kp16 : Keep h0 h14 [a1] := kp11.wr W14 (Or.inl (List.mem_of_getElem? (i := 0) rfl))
    have N14 := Fr.snoc X14 N9 g_a1
    have pf17 : ∀ target, Steps p.tables e below (T14.setTop (mkF m 9 #[.val (.ref a1), .val (.int 0), .val (.int 3), .val (.int (-1 : Int32)), .val (.int 2), .val (.int x1)] [(.int 3), (.int 2)])) target → Steps p.tables e below (T9.setTop (mkF m 35 #[.val (.ref a1), .val (.int 0), .val (.int 3), .val (.int (-1 : Int32)), .val (.int 1), .val (.int x1)] [(.int 0), (.int (-1 : Int32))])) target := by
      intro target k
      show Steps p.tables e below (T9.setTop (mkF m 35 #[.val (.ref a1), .val (.int 0), .val (.int 3), .val (.int (-1 : Int32)), .val (.int 1), .val (.int x1)] [(.int 0), (.int (-1 : Int32))])) _
      refine XS.icmpYes X9.here hx rfl (pc0 := 35) (pc' := 57) rfl (hb hby d28_35) rfl (tlt (by decide)).1 (by decide) (by decide) ?_
      refine XS.aloadN X9.here hx rfl (hb hby d28_57) rfl rfl ?_
      refine XS.iloadN X9.here hx rfl (hb hby d28_58) rfl ?_
      refine XS.iconst X9.here hx rfl (hb hby d28_59) ?_
      refine XS.iadd X9.here hx rfl (hb hby d28_60) rfl ?_
      show Steps p.tables e below (T9.setTop (mkF m 61 #[.val (.ref a1), .val (.int 0), .val (.int 3), .val (.int (-1 : Int32)), .val (.int 1), .val (.int x1)] [(.int 0), (.ref a1)])) _
      refine XS.iload X9.here hx rfl (hb hby d28_61) rfl ?_
      show Steps p.tables e below (T9.setTop (mkF m 63 #[.val (.ref a1), .val (.int 0), .val (.int 3), .val (.int (-1 : Int32)), .val (.int 1), .val (.int x1)] [(.int x1), (.int 0), (.ref a1)])) _
      refine st14 _ ?_
      show Steps p.tables e below (T14.setTop (mkF m 64 #[.val (.ref a1), .val (.int 0), .val (.int 3), .val (.int (-1 : Int32)), .val (.int 1), .val (.int x1)] [])) _
      refine XS.goto X14.here hx rfl (pc0 := 64) (pc' := 3) rfl (hb hby d28_64) (by decide) (by decide) ?_
      refine XS.iinc X14.here hx rfl (hb hby d28_3) rfl (l' := #[.val (.ref a1), .val (.int 0), .val (.int 3), .val (.int (-1 : Int32)), .val (.int 2), .val (.int x1)]) rfl ?_
      show Steps p.tables e below (T14.setTop (mkF m 6 #[.val (.ref a1), .val (.int 0), .val (.int 3), .val (.int (-1 : Int32)), .val (.int 2), .val (.int x1)] [])) _
      refine XS.iload X14.here hx rfl (hb hby d28_6) rfl ?_
      refine XS.iloadN X14.here hx rfl (hb hby d28_8) rfl ?_
      exact k
    obtain ⟨cl18, Ar18, q18, Sz18, Nn18, Ha18, Gf18⟩ := id Vb14
    have hin18 : ¬ ((2 : Int32) < 0 ∨ cl18.slots.size ≤ ((2 : Int32)).toNatClampNeg) := inb_of Sz18 ⟨by decide, by decide⟩
    have hat18 : cl18.slots[((2 : Int32)).toNatClampNeg]? = some (.int x2) := Has.at Ha18 hin18 rfl
    obtain ⟨cl19, Ar19, q19, Sz19, Nn19, Ha19, Gf19⟩ := id Vb14
    have hin19 : ¬ ((1 : Int32) < 0 ∨ cl19.slots.size ≤ ((1 : Int32)).toNatClampNeg) := inb_of Sz19 ⟨by decide, by decide⟩
    have hat19 : cl19.slots[((1 : Int32)).toNatClampNeg]? = some (.int x0) := Has.at Ha19 hin19 rfl
    have pf20 : ∀ target, Steps p.tables e below (T14.setTop (mkF m 27 #[.val (.ref a1), .val (.int 0), .val (.int 3), .val (.int 2), .val (.int 2), .val (.int x2)] [(.int x0), (.int x2)])) target → Steps p.tables e below (T14.setTop (mkF m 9 #[.val (.ref a1), .val (.int 0), .val (.int 3), .val (.int (-1 : Int32)), .val (.int 2), .val (.int x1)] [(.int 3), (.int 2)])) target := by
      intro target k
      show Steps p.tables e below (T14.setTop (mkF m 9 #[.val (.ref a1), .val (.int 0), .val (.int 3), .val (.int (-1 : Int32)), .val (.int 2), .val (.int x1)] [(.int 3), (.int 2)])) _
      refine XS.icmpNo X14.here hx rfl (hb hby d28_9) rfl (tlt (by decide)).2.1 ?_
      refine XS.aloadN X14.here hx rfl (hb hby d28_12) rfl rfl ?_
      refine XS.iload X14.here hx rfl (hb hby d28_13) rfl ?_
      refine XS.dup X14.here hx rfl (hb hby d28_15) rfl rfl ?_
      refine XS.istoreN X14.here hx rfl (hb hby d28_16) rfl (l' := #[.val (.ref a1), .val (.int 0), .val (.int 3), .val (.int 2), .val (.int 2), .val (.int x1)]) rfl ?_
      show Steps p.tables e below (T14.setTop (mkF m 17 #[.val (.ref a1), .val (.int 0), .val (.int 3), .val (.int 2), .val (.int 2), .val (.int x1)] [(.int 2), (.ref a1)])) _
      refine X14.iaload hx (j := (2 : Int32)) (v := (.int x2)) (by rw [e14]; exact Ar18.1) (State.isArrayOf_alike hZ.alike Ar18.2.1) Ar18.2.2 hin18 hat18 (g := (mkF m 17 #[.val (.ref a1), .val (.int 0), .val (.int 3), .val (.int 2), .val (.int 2), .val (.int x1)] [(.int 2), (.ref a1)])) rfl rfl (hb hby d28_17) _ ?_
      show Steps p.tables e below (T14.setTop (mkF m 18 #[.val (.ref a1), .val (.int 0), .val (.int 3), .val (.int 2), .val (.int 2), .val (.int x1)] [(.int x2)])) _
      refine XS.istore X14.here hx rfl (hb hby d28_18) rfl (l' := #[.val (.ref a1), .val (.int 0), .val (.int 3), .val (.int 2), .val (.int 2), .val (.int x2)]) rfl ?_
      refine XS.iload X14.here hx rfl (hb hby d28_20) rfl ?_
      refine XS.aloadN X14.here hx rfl (hb hby d28_22) rfl rfl ?_
      refine XS.iloadN X14.here hx rfl (hb hby d28_23) rfl ?_
      refine XS.iconst X14.here hx rfl (hb hby d28_24) ?_
      refine XS.isub X14.here hx rfl (hb hby d28_25) rfl ?_
      show Steps p.tables e below (T14.setTop (mkF m 26 #[.val (.ref a1), .val (.int 0), .val (.int 3), .val (.int 2), .val (.int 2), .val (.int x2)] [(.int 1), (.ref a1), (.int x2)])) _
      refine X14.iaload hx (j := (1 : Int32)) (v := (.int x0)) (by rw [e14]; exact Ar19.1) (State.isArrayOf_alike hZ.alike Ar19.2.1) Ar19.2.2 hin19 hat19 (g := (mkF m 26 #[.val (.ref a1), .val (.int 0), .val (.int 3), .val (.int 2), .val (.int 2), .val (.int x2)] [(.int 1), (.ref a1), (.int x2)])) rfl rfl (hb hby d28_26) _ ?_
      exact k
    by_cases hc27_21 : x2 < x0
    · obtain ⟨cl22, Ar22, q22, Sz22, Nn22, Ha22, Gf22⟩ := id Vb14
      have hin22 : ¬ ((1 : Int32) < 0 ∨ cl22.slots.size ≤ ((1 : Int32)).toNatClampNeg) := inb_of Sz22 ⟨by decide, by decide⟩
      have hat22 : cl22.slots[((1 : Int32)).toNatClampNeg]? = some (.int x0) := Has.at Ha22 hin22 rfl
      have pf23 : ∀ target, Steps p.tables e below (T14.setTop (mkF m 43 #[.val (.ref a1), .val (.int 0), .val (.int 3), .val (.int 1), .val (.int 2), .val (.int x2)] [(.int x0), (.int x2)])) target → Steps p.tables e below (T14.setTop (mkF m 27 #[.val (.ref a1), .val (.int 0), .val (.int 3), .val (.int 2), .val (.int 2), .val (.int x2)] [(.int x0), (.int x2)])) target := by
        intro target k
        show Steps p.tables e below (T14.setTop (mkF m 27 #[.val (.ref a1), .val (.int 0), .val (.int 3), .val (.int 2), .val (.int 2), .val (.int x2)] [(.int x0), (.int x2)])) _
        refine XS.icmpNo X14.here hx rfl (hb hby d28_27) rfl (tlt hc27_21).2.1 ?_
        refine XS.iinc X14.here hx rfl (hb hby d28_30) rfl (l' := #[.val (.ref a1), .val (.int 0), .val (.int 3), .val (.int 1), .val (.int 2), .val (.int x2)]) rfl ?_
        show Steps p.tables e below (T14.setTop (mkF m 33 #[.val (.ref a1), .val (.int 0), .val (.int 3), .val (.int 1), .val (.int 2), .val (.int x2)] [])) _
        refine XS.iloadN X14.here hx rfl (hb hby d28_33) rfl ?_
        refine XS.iloadN X14.here hx rfl (hb hby d28_34) rfl ?_
        refine XS.icmpNo X14.here hx rfl (hb hby d28_35) rfl (flt (by decide)).1 ?_
        refine XS.iload X14.here hx rfl (hb hby d28_38) rfl ?_
        refine XS.aloadN X14.here hx rfl (hb hby d28_40) rfl rfl ?_
        refine XS.iloadN X14.here hx rfl (hb hby d28_41) rfl ?_
        show Steps p.tables e below (T14.setTop (mkF m 42 #[.val (.ref a1), .val (.int 0), .val (.int 3), .val (.int 1), .val (.int 2), .val (.int x2)] [(.int 1), (.ref a1), (.int x2)])) _
        refine X14.iaload hx (j := (1 : Int32)) (v := (.int x0)) (by rw [e14]; exact Ar22.1) (State.isArrayOf_alike hZ.alike Ar22.2.1) Ar22.2.2 hin22 hat22 (g := (mkF m 42 #[.val (.ref a1), .val (.int 0), .val (.int 3), .val (.int 1), .val (.int 2), .val (.int x2)] [(.int 1), (.ref a1), (.int x2)])) rfl rfl (hb hby d28_42) _ ?_
        exact k
      obtain ⟨cl24, Ar24, q24, Sz24, Nn24, Ha24, Gf24⟩ := id Vb14
      have hin24 : ¬ ((1 : Int32) < 0 ∨ cl24.slots.size ≤ ((1 : Int32)).toNatClampNeg) := inb_of Sz24 ⟨by decide, by decide⟩
      have hat24 : cl24.slots[((1 : Int32)).toNatClampNeg]? = some (.int x0) := Has.at Ha24 hin24 rfl
      obtain ⟨cl25, Ar25, q25, Sz25, Nn25, Ha25, Gf25⟩ := Vb14
      have hin25 : ¬ ((2 : Int32) < 0 ∨ cl25.slots.size ≤ ((2 : Int32)).toNatClampNeg) := inb_of Sz25 ⟨by decide, by decide⟩
      obtain ⟨T26, h26, X26, e26, W26, st26⟩ := stI X14 hx hZ e14 Ar25 (j := (2 : Int32)) hin25 (g := (mkF m 53 #[.val (.ref a1), .val (.int 0), .val (.int 3), .val (.int 1), .val (.int 2), .val (.int x2)] [(.int x0), (.int 2), (.ref a1)])) rfl rfl (hb hby d28_53)
      have Va26 := Arv.set Ar25 q25 Sz25 Nn25 Ha25 Gf25 rfl W26 2 rfl (Nat.le_of_ble_eq_true rfl)
      have Vb26 : Arv Z h26 a1 ka .int (3 : Int32) [(.int x1), (.int x0), (.int x0)] (.int 0) := Va26
      have O27 := O15.wr W26 g_a1
      have kp28 : Keep h0 h26 [a1] := kp16.wr W26 (Or.inl (List.mem_of_getElem? (i := 0) rfl))
      have N26 := Fr.snoc X26 N14 g_a1
      have pf29 : ∀ target, Steps p.tables e below (T26.setTop (mkF m 35 #[.val (.ref a1), .val (.int 0), .val (.int 3), .val (.int 0), .val (.int 2), .val (.int x2)] [(.int 0), (.int 0)])) target → Steps p.tables e below (T14.setTop (mkF m 43 #[.val (.ref a1), .val (.int 0), .val (.int 3), .val (.int 1), .val (.int 2), .val (.int x2)] [(.int x0), (.int x2)])) target := by
        intro target k
        show Steps p.tables e below (T14.setTop (mkF m 43 #[.val (.ref a1), .val (.int 0), .val (.int 3), .val (.int 1), .val (.int 2), .val (.int x2)] [(.int x0), (.int x2)])) _
        refine XS.icmpNo X14.here hx rfl (hb hby d28_43) rfl (tlt hc27_21).2.1 ?_
        refine XS.aloadN X14.here hx rfl (hb hby d28_46) rfl rfl ?_
        refine XS.iloadN X14.here hx rfl (hb hby d28_47) rfl ?_
        refine XS.iconst X14.here hx rfl (hb hby d28_48) ?_
        refine XS.iadd X14.here hx rfl (hb hby d28_49) rfl ?_
        show Steps p.tables e below (T14.setTop (mkF m 50 #[.val (.ref a1), .val (.int 0), .val (.int 3), .val (.int 1), .val (.int 2), .val (.int x2)] [(.int 2), (.ref a1)])) _
        refine XS.aloadN X14.here hx rfl (hb hby d28_50) rfl rfl ?_
        refine XS.iloadN X14.here hx rfl (hb hby d28_51) rfl ?_
        show Steps p.tables e below (T14.setTop (mkF m 52 #[.val (.ref a1), .val (.int 0), .val (.int 3), .val (.int 1), .val (.int 2), .val (.int x2)] [(.int 1), (.ref a1), (.int 2), (.ref a1)])) _
        refine X14.iaload hx (j := (1 : Int32)) (v := (.int x0)) (by rw [e14]; exact Ar24.1) (State.isArrayOf_alike hZ.alike Ar24.2.1) Ar24.2.2 hin24 hat24 (g := (mkF m 52 #[.val (.ref a1), .val (.int 0), .val (.int 3), .val (.int 1), .val (.int 2), .val (.int x2)] [(.int 1), (.ref a1), (.int 2), (.ref a1)])) rfl rfl (hb hby d28_52) _ ?_
        show Steps p.tables e below (T14.setTop (mkF m 53 #[.val (.ref a1), .val (.int 0), .val (.int 3), .val (.int 1), .val (.int 2), .val (.int x2)] [(.int x0), (.int 2), (.ref a1)])) _
        refine st26 _ ?_
        show Steps p.tables e below (T26.setTop (mkF m 54 #[.val (.ref a1), .val (.int 0), .val (.int 3), .val (.int 1), .val (.int 2), .val (.int x2)] [])) _
        refine XS.goto X26.here hx rfl (pc0 := 54) (pc' := 30) rfl (hb hby d28_54) (by decide) (by decide) ?_
        refine XS.iinc X26.here hx rfl (hb hby d28_30) rfl (l' := #[.val (.ref a1), .val (.int 0), .val (.int 3), .val (.int 0), .val (.int 2), .val (.int x2)]) rfl ?_
        show Steps p.tables e below (T26.setTop (mkF m 33 #[.val (.ref a1), .val (.int 0), .val (.int 3), .val (.int 0), .val (.int 2), .val (.int x2)] [])) _
        refine XS.iloadN X26.here hx rfl (hb hby d28_33) rfl ?_
        refine XS.iloadN X26.here hx rfl (hb hby d28_34) rfl ?_
        exact k
      obtain ⟨cl30, Ar30, q30, Sz30, Nn30, Ha30, Gf30⟩ := id Vb26
      have hin30 : ¬ ((0 : Int32) < 0 ∨ cl30.slots.size ≤ ((0 : Int32)).toNatClampNeg) := inb_of Sz30 ⟨by decide, by decide⟩
      have hat30 : cl30.slots[((0 : Int32)).toNatClampNeg]? = some (.int x1) := Has.at Ha30 hin30 rfl
      have pf31 : ∀ target, Steps p.tables e below (T26.setTop (mkF m 43 #[.val (.ref a1), .val (.int 0), .val (.int 3), .val (.int 0), .val (.int 2), .val (.int x2)] [(.int x1), (.int x2)])) target → Steps p.tables e below (T26.setTop (mkF m 35 #[.val (.ref a1), .val (.int 0), .val (.int 3), .val (.int 0), .val (.int 2), .val (.int x2)] [(.int 0), (.int 0)])) target := by
        intro target k
        show Steps p.tables e below (T26.setTop (mkF m 35 #[.val (.ref a1), .val (.int 0), .val (.int 3), .val (.int 0), .val (.int 2), .val (.int x2)] [(.int 0), (.int 0)])) _
        refine XS.icmpNo X26.here hx rfl (hb hby d28_35) rfl (flt (by decide)).1 ?_
        refine XS.iload X26.here hx rfl (hb hby d28_38) rfl ?_
        refine XS.aloadN X26.here hx rfl (hb hby d28_40) rfl rfl ?_
        refine XS.iloadN X26.here hx rfl (hb hby d28_41) rfl ?_
        show Steps p.tables e below (T26.setTop (mkF m 42 #[.val (.ref a1), .val (.int 0), .val (.int 3), .val (.int 0), .val (.int 2), .val (.int x2)] [(.int 0), (.ref a1), (.int x2)])) _
        refine X26.iaload hx (j := (0 : Int32)) (v := (.int x1)) (by rw [e26]; exact Ar30.1) (State.isArrayOf_alike hZ.alike Ar30.2.1) Ar30.2.2 hin30 hat30 (g := (mkF m 42 #[.val (.ref a1), .val (.int 0), .val (.int 3), .val (.int 0), .val (.int 2), .val (.int x2)] [(.int 0), (.ref a1), (.int x2)])) rfl rfl (hb hby d28_42) _ ?_
        exact k
      by_cases hc43 : x2 < x1
      · obtain ⟨cl32, Ar32, q32, Sz32, Nn32, Ha32, Gf32⟩ := id Vb26
        have hin32 : ¬ ((0 : Int32) < 0 ∨ cl32.slots.size ≤ ((0 : Int32)).toNatClampNeg) := inb_of Sz32 ⟨by decide, by decide⟩
        have hat32 : cl32.slots[((0 : Int32)).toNatClampNeg]? = some (.int x1) := Has.at Ha32 hin32 rfl
        obtain ⟨cl33, Ar33, q33, Sz33, Nn33, Ha33, Gf33⟩ := Vb26
        have hin33 : ¬ ((1 : Int32) < 0 ∨ cl33.slots.size ≤ ((1 : Int32)).toNatClampNeg) := inb_of Sz33 ⟨by decide, by decide⟩
        obtain ⟨T34, h34, X34, e34, W34, st34⟩ := stI X26 hx hZ e26 Ar33 (j := (1 : Int32)) hin33 (g := (mkF m 53 #[.val (.ref a1), .val (.int 0), .val (.int 3), .val (.int 0), .val (.int 2), .val (.int x2)] [(.int x1), (.int 1), (.ref a1)])) rfl rfl (hb hby d28_53)
        have Va34 := Arv.set Ar33 q33 Sz33 Nn33 Ha33 Gf33 rfl W34 1 rfl (Nat.le_of_ble_eq_true rfl)
        have Vb34 : Arv Z h34 a1 ka .int (3 : Int32) [(.int x1), (.int x1), (.int x0)] (.int 0) := Va34
        have O35 := O27.wr W34 g_a1
        have kp36 : Keep h0 h34 [a1] := kp28.wr W34 (Or.inl (List.mem_of_getElem? (i := 0) rfl))
        have N34 := Fr.snoc X34 N26 g_a1
        have pf37 : ∀ target, Steps p.tables e below (T34.setTop (mkF m 35 #[.val (.ref a1), .val (.int 0), .val (.int 3), .val (.int (-1 : Int32)), .val (.int 2), .val (.int x2)] [(.int 0), (.int (-1 : Int32))])) target → Steps p.tables e below (T26.setTop (mkF m 43 #[.val (.ref a1), .val (.int 0), .val (.int 3), .val (.int 0), .val (.int 2), .val (.int x2)] [(.int x1), (.int x2)])) target := by
          intro target k
          show Steps p.tables e below (T26.setTop (mkF m 43 #[.val (.ref a1), .val (.int 0), .val (.int 3), .val (.int 0), .val (.int 2), .val (.int x2)] [(.int x1), (.int x2)])) _
          refine XS.icmpNo X26.here hx rfl (hb hby d28_43) rfl (tlt hc43).2.1 ?_
          refine XS.aloadN X26.here hx rfl (hb hby d28_46) rfl rfl ?_
          refine XS.iloadN X26.here hx rfl (hb hby d28_47) rfl ?_
          refine XS.iconst X26.here hx rfl (hb hby d28_48) ?_
          refine XS.iadd X26.here hx rfl (hb hby d28_49) rfl ?_
          show Steps p.tables e below (T26.setTop (mkF m 50 #[.val (.ref a1), .val (.int 0), .val (.int 3), .val (.int 0), .val (.int 2), .val (.int x2)] [(.int 1), (.ref a1)])) _
          refine XS.aloadN X26.here hx rfl (hb hby d28_50) rfl rfl ?_
          refine XS.iloadN X26.here hx rfl (hb hby d28_51) rfl ?_
          show Steps p.tables e below (T26.setTop (mkF m 52 #[.val (.ref a1), .val (.int 0), .val (.int 3), .val (.int 0), .val (.int 2), .val (.int x2)] [(.int 0), (.ref a1), (.int 1), (.ref a1)])) _
          refine X26.iaload hx (j := (0 : Int32)) (v := (.int x1)) (by rw [e26]; exact Ar32.1) (State.isArrayOf_alike hZ.alike Ar32.2.1) Ar32.2.2 hin32 hat32 (g := (mkF m 52 #[.val (.ref a1), .val (.int 0), .val (.int 3), .val (.int 0), .val (.int 2), .val (.int x2)] [(.int 0), (.ref a1), (.int 1), (.ref a1)])) rfl rfl (hb hby d28_52) _ ?_
          show Steps p.tables e below (T26.setTop (mkF m 53 #[.val (.ref a1), .val (.int 0), .val (.int 3), .val (.int 0), .val (.int 2), .val (.int x2)] [(.int x1), (.int 1), (.ref a1)])) _
          refine st34 _ ?_
          show Steps p.tables e below (T34.setTop (mkF m 54 #[.val (.ref a1), .val (.int 0), .val (.int 3), .val (.int 0), .val (.int 2), .val (.int x2)] [])) _
          refine XS.goto X34.here hx rfl (pc0 := 54) (pc' := 30) rfl (hb hby d28_54) (by decide) (by decide) ?_
          refine XS.iinc X34.here hx rfl (hb hby d28_30) rfl (l' := #[.val (.ref a1), .val (.int 0), .val (.int 3), .val (.int (-1 : Int32)), .val (.int 2), .val (.int x2)]) rfl ?_
          show Steps p.tables e below (T34.setTop (mkF m 33 #[.val (.ref a1), .val (.int 0), .val (.int 3), .val (.int (-1 : Int32)), .val (.int 2), .val (.int x2)] [])) _
          refine XS.iloadN X34.here hx rfl (hb hby d28_33) rfl ?_
          refine XS.iloadN X34.here hx rfl (hb hby d28_34) rfl ?_
          exact k
        obtain ⟨cl38, Ar38, q38, Sz38, Nn38, Ha38, Gf38⟩ := Vb34
        have hin38 : ¬ ((0 : Int32) < 0 ∨ cl38.slots.size ≤ ((0 : Int32)).toNatClampNeg) := inb_of Sz38 ⟨by decide, by decide⟩
        obtain ⟨T39, h39, X39, e39, W39, st39⟩ := stI X34 hx hZ e34 Ar38 (j := (0 : Int32)) hin38 (g := (mkF m 63 #[.val (.ref a1), .val (.int 0), .val (.int 3), .val (.int (-1 : Int32)), .val (.int 2), .val (.int x2)] [(.int x2), (.int 0), (.ref a1)])) rfl rfl (hb hby d28_63)
        have Va39 := Arv.set Ar38 q38 Sz38 Nn38 Ha38 Gf38 rfl W39 0 rfl (Nat.le_of_ble_eq_true rfl)
        have Vb39 : Arv Z h39 a1 ka .int (3 : Int32) [(.int x2), (.int x1), (.int x0)] (.int 0) := Va39
        have O40 := O35.wr W39 g_a1
        have kp41 : Keep h0 h39 [a1] := kp36.wr W39 (Or.inl (List.mem_of_getElem? (i := 0) rfl))
        have N39 := Fr.snoc X39 N34 g_a1
        have pf42 : ∀ target, Steps p.tables e below (T39.setTop (mkF m 9 #[.val (.ref a1), .val (.int 0), .val (.int 3), .val (.int (-1 : Int32)), .val (.int 3), .val (.int x2)] [(.int 3), (.int 3)])) target → Steps p.tables e below (T34.setTop (mkF m 35 #[.val (.ref a1), .val (.int 0), .val (.int 3), .val (.int (-1 : Int32)), .val (.int 2), .val (.int x2)] [(.int 0), (.int (-1 : Int32))])) target := by
          intro target k
          show Steps p.tables e below (T34.setTop (mkF m 35 #[.val (.ref a1), .val (.int 0), .val (.int 3), .val (.int (-1 : Int32)), .val (.int 2), .val (.int x2)] [(.int 0), (.int (-1 : Int32))])) _
          refine XS.icmpYes X34.here hx rfl (pc0 := 35) (pc' := 57) rfl (hb hby d28_35) rfl (tlt (by decide)).1 (by decide) (by decide) ?_
          refine XS.aloadN X34.here hx rfl (hb hby d28_57) rfl rfl ?_
          refine XS.iloadN X34.here hx rfl (hb hby d28_58) rfl ?_
          refine XS.iconst X34.here hx rfl (hb hby d28_59) ?_
          refine XS.iadd X34.here hx rfl (hb hby d28_60) rfl ?_
          show Steps p.tables e below (T34.setTop (mkF m 61 #[.val (.ref a1), .val (.int 0), .val (.int 3), .val (.int (-1 : Int32)), .val (.int 2), .val (.int x2)] [(.int 0), (.ref a1)])) _
          refine XS.iload X34.here hx rfl (hb hby d28_61) rfl ?_
          show Steps p.tables e below (T34.setTop (mkF m 63 #[.val (.ref a1), .val (.int 0), .val (.int 3), .val (.int (-1 : Int32)), .val (.int 2), .val (.int x2)] [(.int x2), (.int 0), (.ref a1)])) _
          refine st39 _ ?_
          show Steps p.tables e below (T39.setTop (mkF m 64 #[.val (.ref a1), .val (.int 0), .val (.int 3), .val (.int (-1 : Int32)), .val (.int 2), .val (.int x2)] [])) _
          refine XS.goto X39.here hx rfl (pc0 := 64) (pc' := 3) rfl (hb hby d28_64) (by decide) (by decide) ?_
          refine XS.iinc X39.here hx rfl (hb hby d28_3) rfl (l' := #[.val (.ref a1), .val (.int 0), .val (.int 3), .val (.int (-1 : Int32)), .val (.int 3), .val (.int x2)]) rfl ?_
          show Steps p.tables e below (T39.setTop (mkF m 6 #[.val (.ref a1), .val (.int 0), .val (.int 3), .val (.int (-1 : Int32)), .val (.int 3), .val (.int x2)] [])) _
          refine XS.iload X39.here hx rfl (hb hby d28_6) rfl ?_
          refine XS.iloadN X39.here hx rfl (hb hby d28_8) rfl ?_
          exact k
        obtain ⟨fs, hr, hrun, hended, hW, hsame⟩ := X39.leave (v := none) (fun _ => rfl)
        refine ⟨_, _, pre0 _ ?_, hrun, hended, _, _, rfl, ?_, ⟨_, rfl⟩, hW, hsame.mono (by decide) (by decide)⟩
        · refine pf1 _ ?_
          refine pf4 _ ?_
          refine pf6 _ ?_
          refine pf12 _ ?_
          refine pf17 _ ?_
          refine pf20 _ ?_
          refine pf23 _ ?_
          refine pf29 _ ?_
          refine pf31 _ ?_
          refine pf37 _ ?_
          refine pf42 _ ?_
          show Steps p.tables e below (T39.setTop (mkF m 9 #[.val (.ref a1), .val (.int 0), .val (.int 3), .val (.int (-1 : Int32)), .val (.int 3), .val (.int x2)] [(.int 3), (.int 3)])) _
          refine XS.icmpYes X39.here hx rfl (pc0 := 9) (pc' := 67) rfl (hb hby d28_9) rfl (flt (by decide)).2.1 (by decide) (by decide) ?_
          show Steps p.tables e below (T39.setTop (mkF m 67 #[.val (.ref a1), .val (.int 0), .val (.int 3), .val (.int (-1 : Int32)), .val (.int 3), .val (.int x2)] [])) _
          exact X39.returnOut hx Bd.returns (hb hby d28_67) hr
        · show Qsrt Z a1 ka [x0, x1, x2] h0 n0 _ T39.heap _
          rw [e39]
          exact ⟨rfl, N39, kp41, by simp only [srtF]; rw [if_pos hc27, if_pos hc27_21, if_pos hc43]; exact Vb39⟩
      · obtain ⟨cl43, Ar43, q43, Sz43, Nn43, Ha43, Gf43⟩ := Vb26
        have hin43 : ¬ ((1 : Int32) < 0 ∨ cl43.slots.size ≤ ((1 : Int32)).toNatClampNeg) := inb_of Sz43 ⟨by decide, by decide⟩
        obtain ⟨T44, h44, X44, e44, W44, st44⟩ := stI X26 hx hZ e26 Ar43 (j := (1 : Int32)) hin43 (g := (mkF m 63 #[.val (.ref a1), .val (.int 0), .val (.int 3), .val (.int 0), .val (.int 2), .val (.int x2)] [(.int x2), (.int 1), (.ref a1)])) rfl rfl (hb hby d28_63)
        have Va44 := Arv.set Ar43 q43 Sz43 Nn43 Ha43 Gf43 rfl W44 1 rfl (Nat.le_of_ble_eq_true rfl)
        have Vb44 : Arv Z h44 a1 ka .int (3 : Int32) [(.int x1), (.int x2), (.int x0)] (.int 0) := Va44
        have O45 := O27.wr W44 g_a1
        have kp46 : Keep h0 h44 [a1] := kp28.wr W44 (Or.inl (List.mem_of_getElem? (i := 0) rfl))
        have N44 := Fr.snoc X44 N26 g_a1
        have pf47 : ∀ target, Steps p.tables e below (T44.setTop (mkF m 9 #[.val (.ref a1), .val (.int 0), .val (.int 3), .val (.int 0), .val (.int 3), .val (.int x2)] [(.int 3), (.int 3)])) target → Steps p.tables e below (T26.setTop (mkF m 43 #[.val (.ref a1), .val (.int 0), .val (.int 3), .val (.int 0), .val (.int 2), .val (.int x2)] [(.int x1), (.int x2)])) target := by
          intro target k
          show Steps p.tables e below (T26.setTop (mkF m 43 #[.val (.ref a1), .val (.int 0), .val (.int 3), .val (.int 0), .val (.int 2), .val (.int x2)] [(.int x1), (.int x2)])) _
          refine XS.icmpYes X26.here hx rfl (pc0 := 43) (pc' := 57) rfl (hb hby d28_43) rfl (flt hc43).2.1 (by decide) (by decide) ?_
          refine XS.aloadN X26.here hx rfl (hb hby d28_57) rfl rfl ?_
          refine XS.iloadN X26.here hx rfl (hb hby d28_58) rfl ?_
          refine XS.iconst X26.here hx rfl (hb hby d28_59) ?_
          refine XS.iadd X26.here hx rfl (hb hby d28_60) rfl ?_
          show Steps p.tables e below (T26.setTop (mkF m 61 #[.val (.ref a1), .val (.int 0), .val (.int 3), .val (.int 0), .val (.int 2), .val (.int x2)] [(.int 1), (.ref a1)])) _
          refine XS.iload X26.here hx rfl (hb hby d28_61) rfl ?_
          show Steps p.tables e below (T26.setTop (mkF m 63 #[.val (.ref a1), .val (.int 0), .val (.int 3), .val (.int 0), .val (.int 2), .val (.int x2)] [(.int x2), (.int 1), (.ref a1)])) _
          refine st44 _ ?_
          show Steps p.tables e below (T44.setTop (mkF m 64 #[.val (.ref a1), .val (.int 0), .val (.int 3), .val (.int 0), .val (.int 2), .val (.int x2)] [])) _
          refine XS.goto X44.here hx rfl (pc0 := 64) (pc' := 3) rfl (hb hby d28_64) (by decide) (by decide) ?_
          refine XS.iinc X44.here hx rfl (hb hby d28_3) rfl (l' := #[.val (.ref a1), .val (.int 0), .val (.int 3), .val (.int 0), .val (.int 3), .val (.int x2)]) rfl ?_
          show Steps p.tables e below (T44.setTop (mkF m 6 #[.val (.ref a1), .val (.int 0), .val (.int 3), .val (.int 0), .val (.int 3), .val (.int x2)] [])) _
          refine XS.iload X44.here hx rfl (hb hby d28_6) rfl ?_
          refine XS.iloadN X44.here hx rfl (hb hby d28_8) rfl ?_
          exact k
        obtain ⟨fs, hr, hrun, hended, hW, hsame⟩ := X44.leave (v := none) (fun _ => rfl)
        refine ⟨_, _, pre0 _ ?_, hrun, hended, _, _, rfl, ?_, ⟨_, rfl⟩, hW, hsame.mono (by decide) (by decide)⟩
        · refine pf1 _ ?_
          refine pf4 _ ?_
          refine pf6 _ ?_
          refine pf12 _ ?_
          refine pf17 _ ?_
          refine pf20 _ ?_
          refine pf23 _ ?_
          refine pf29 _ ?_
          refine pf31 _ ?_
          refine pf47 _ ?_
          show Steps p.tables e below (T44.setTop (mkF m 9 #[.val (.ref a1), .val (.int 0), .val (.int 3), .val (.int 0), .val (.int 3), .val (.int x2)] [(.int 3), (.int 3)])) _
          refine XS.icmpYes X44.here hx rfl (pc0 := 9) (pc' := 67) rfl (hb hby d28_9) rfl (flt (by decide)).2.1 (by decide) (by decide) ?_
          show Steps p.tables e below (T44.setTop (mkF m 67 #[.val (.ref a1), .val (.int 0), .val (.int 3), .val (.int 0), .val (.int 3), .val (.int x2)] [])) _
          exact X44.returnOut hx Bd.returns (hb hby d28_67) hr
        · show Qsrt Z a1 ka [x0, x1, x2] h0 n0 _ T44.heap _
          rw [e44]
          exact ⟨rfl, N44, kp46, by simp only [srtF]; rw [if_pos hc27, if_pos hc27_21, if_neg hc43]; exact Vb44⟩
    · have pf48 : ∀ target, Steps p.tables e below (T14.setTop (mkF m 9 #[.val (.ref a1), .val (.int 0), .val (.int 3), .val (.int 2), .val (.int 3), .val (.int x2)] [(.int 3), (.int 3)])) target → Steps p.tables e below (T14.setTop (mkF m 27 #[.val (.ref a1), .val (.int 0), .val (.int 3), .val (.int 2), .val (.int 2), .val (.int x2)] [(.int x0), (.int x2)])) target := by
        intro target k
        show Steps p.tables e below (T14.setTop (mkF m 27 #[.val (.ref a1), .val (.int 0), .val (.int 3), .val (.int 2), .val (.int 2), .val (.int x2)] [(.int x0), (.int x2)])) _
        refine XS.icmpYes X14.here hx rfl (pc0 := 27) (pc' := 64) rfl (hb hby d28_27) rfl (flt hc27_21).2.1 (by decide) (by decide) ?_
        refine XS.goto X14.here hx rfl (pc0 := 64) (pc' := 3) rfl (hb hby d28_64) (by decide) (by decide) ?_
        refine XS.iinc X14.here hx rfl (hb hby d28_3) rfl (l' := #[.val (.ref a1), .val (.int 0), .val (.int 3), .val (.int 2), .val (.int 3), .val (.int x2)]) rfl ?_
        show Steps p.tables e below (T14.setTop (mkF m 6 #[.val (.ref a1), .val (.int 0), .val (.int 3), .val (.int 2), .val (.int 3), .val (.int x2)] [])) _
        refine XS.iload X14.here hx rfl (hb hby d28_6) rfl ?_
        refine XS.iloadN X14.here hx rfl (hb hby d28_8) rfl ?_
        exact k
      obtain ⟨fs, hr, hrun, hended, hW, hsame⟩ := X14.leave (v := none) (fun _ => rfl)
      refine ⟨_, _, pre0 _ ?_, hrun, hended, _, _, rfl, ?_, ⟨_, rfl⟩, hW, hsame.mono (by decide) (by decide)⟩
      · refine pf1 _ ?_
        refine pf4 _ ?_
        refine pf6 _ ?_
        refine pf12 _ ?_
        refine pf17 _ ?_
        refine pf20 _ ?_
        refine pf48 _ ?_
        show Steps p.tables e below (T14.setTop (mkF m 9 #[.val (.ref a1), .val (.int 0), .val (.int 3), .val (.int 2), .val (.int 3), .val (.int x2)] [(.int 3), (.int 3)])) _
        refine XS.icmpYes X14.here hx rfl (pc0 := 9) (pc' := 67) rfl (hb hby d28_9) rfl (flt (by decide)).2.1 (by decide) (by decide) ?_
        show Steps p.tables e below (T14.setTop (mkF m 67 #[.val (.ref a1), .val (.int 0), .val (.int 3), .val (.int 2), .val (.int 3), .val (.int x2)] [])) _
        exact X14.returnOut hx Bd.returns (hb hby d28_67) hr
      · show Qsrt Z a1 ka [x0, x1, x2] h0 n0 _ T14.heap _
        rw [e14]
        exact ⟨rfl, N14, kp16, by simp only [srtF]; rw [if_pos hc27, if_neg hc27_21]; exact Vb14⟩
  · have pf49 : ∀ target, Steps p.tables e below (s₁.setTop (mkF m 9 #[.val (.ref a1), .val (.int 0), .val (.int 3), .val (.int 1), .val (.int 2), .val (.int x1)] [(.int 3), (.int 2)])) target → Steps p.tables e below (s₁.setTop (mkF m 27 #[.val (.ref a1), .val (.int 0), .val (.int 3), .val (.int 1), .val (.int 1), .val (.int x1)] [(.int x0), (.int x1)])) target := by
      intro target k
      show Steps p.tables e below (s₁.setTop (mkF m 27 #[.val (.ref a1), .val (.int 0), .val (.int 3), .val (.int 1), .val (.int 1), .val (.int x1)] [(.int x0), (.int x1)])) _
      refine XS.icmpYes X0.here hx rfl (pc0 := 27) (pc' := 64) rfl (hb hby d28_27) rfl (flt hc27).2.1 (by decide) (by decide) ?_
      refine XS.goto X0.here hx rfl (pc0 := 64) (pc' := 3) rfl (hb hby d28_64) (by decide) (by decide) ?_
      refine XS.iinc X0.here hx rfl (hb hby d28_3) rfl (l' := #[.val (.ref a1), .val (.int 0), .val (.int 3), .val (.int 1), .val (.int 2), .val (.int x1)]) rfl ?_
      show Steps p.tables e below (s₁.setTop (mkF m 6 #[.val (.ref a1), .val (.int 0), .val (.int 3), .val (.int 1), .val (.int 2), .val (.int x1)] [])) _
      refine XS.iload X0.here hx rfl (hb hby d28_6) rfl ?_
      refine XS.iloadN X0.here hx rfl (hb hby d28_8) rfl ?_
      exact k
    obtain ⟨cl50, Ar50, q50, Sz50, Nn50, Ha50, Gf50⟩ := id VA
    have hin50 : ¬ ((2 : Int32) < 0 ∨ cl50.slots.size ≤ ((2 : Int32)).toNatClampNeg) := inb_of Sz50 ⟨by decide, by decide⟩
    have hat50 : cl50.slots[((2 : Int32)).toNatClampNeg]? = some (.int x2) := Has.at Ha50 hin50 rfl
    obtain ⟨cl51, Ar51, q51, Sz51, Nn51, Ha51, Gf51⟩ := id VA
    have hin51 : ¬ ((1 : Int32) < 0 ∨ cl51.slots.size ≤ ((1 : Int32)).toNatClampNeg) := inb_of Sz51 ⟨by decide, by decide⟩
    have hat51 : cl51.slots[((1 : Int32)).toNatClampNeg]? = some (.int x1) := Has.at Ha51 hin51 rfl
    have pf52 : ∀ target, Steps p.tables e below (s₁.setTop (mkF m 27 #[.val (.ref a1), .val (.int 0), .val (.int 3), .val (.int 2), .val (.int 2), .val (.int x2)] [(.int x1), (.int x2)])) target → Steps p.tables e below (s₁.setTop (mkF m 9 #[.val (.ref a1), .val (.int 0), .val (.int 3), .val (.int 1), .val (.int 2), .val (.int x1)] [(.int 3), (.int 2)])) target := by
      intro target k
      show Steps p.tables e below (s₁.setTop (mkF m 9 #[.val (.ref a1), .val (.int 0), .val (.int 3), .val (.int 1), .val (.int 2), .val (.int x1)] [(.int 3), (.int 2)])) _
      refine XS.icmpNo X0.here hx rfl (hb hby d28_9) rfl (tlt (by decide)).2.1 ?_
      refine XS.aloadN X0.here hx rfl (hb hby d28_12) rfl rfl ?_
      refine XS.iload X0.here hx rfl (hb hby d28_13) rfl ?_
      refine XS.dup X0.here hx rfl (hb hby d28_15) rfl rfl ?_
      refine XS.istoreN X0.here hx rfl (hb hby d28_16) rfl (l' := #[.val (.ref a1), .val (.int 0), .val (.int 3), .val (.int 2), .val (.int 2), .val (.int x1)]) rfl ?_
      show Steps p.tables e below (s₁.setTop (mkF m 17 #[.val (.ref a1), .val (.int 0), .val (.int 3), .val (.int 2), .val (.int 2), .val (.int x1)] [(.int 2), (.ref a1)])) _
      refine X0.iaload hx (j := (2 : Int32)) (v := (.int x2)) (by rw [e0]; exact Ar50.1) (State.isArrayOf_alike hZ.alike Ar50.2.1) Ar50.2.2 hin50 hat50 (g := (mkF m 17 #[.val (.ref a1), .val (.int 0), .val (.int 3), .val (.int 2), .val (.int 2), .val (.int x1)] [(.int 2), (.ref a1)])) rfl rfl (hb hby d28_17) _ ?_
      show Steps p.tables e below (s₁.setTop (mkF m 18 #[.val (.ref a1), .val (.int 0), .val (.int 3), .val (.int 2), .val (.int 2), .val (.int x1)] [(.int x2)])) _
      refine XS.istore X0.here hx rfl (hb hby d28_18) rfl (l' := #[.val (.ref a1), .val (.int 0), .val (.int 3), .val (.int 2), .val (.int 2), .val (.int x2)]) rfl ?_
      refine XS.iload X0.here hx rfl (hb hby d28_20) rfl ?_
      refine XS.aloadN X0.here hx rfl (hb hby d28_22) rfl rfl ?_
      refine XS.iloadN X0.here hx rfl (hb hby d28_23) rfl ?_
      refine XS.iconst X0.here hx rfl (hb hby d28_24) ?_
      refine XS.isub X0.here hx rfl (hb hby d28_25) rfl ?_
      show Steps p.tables e below (s₁.setTop (mkF m 26 #[.val (.ref a1), .val (.int 0), .val (.int 3), .val (.int 2), .val (.int 2), .val (.int x2)] [(.int 1), (.ref a1), (.int x2)])) _
      refine X0.iaload hx (j := (1 : Int32)) (v := (.int x1)) (by rw [e0]; exact Ar51.1) (State.isArrayOf_alike hZ.alike Ar51.2.1) Ar51.2.2 hin51 hat51 (g := (mkF m 26 #[.val (.ref a1), .val (.int 0), .val (.int 3), .val (.int 2), .val (.int 2), .val (.int x2)] [(.int 1), (.ref a1), (.int x2)])) rfl rfl (hb hby d28_26) _ ?_
      exact k
    by_cases hc27_53 : x2 < x1
    · obtain ⟨cl54, Ar54, q54, Sz54, Nn54, Ha54, Gf54⟩ := id VA
      have hin54 : ¬ ((1 : Int32) < 0 ∨ cl54.slots.size ≤ ((1 : Int32)).toNatClampNeg) := inb_of Sz54 ⟨by decide, by decide⟩
      have hat54 : cl54.slots[((1 : Int32)).toNatClampNeg]? = some (.int x1) := Has.at Ha54 hin54 rfl
      have pf55 : ∀ target, Steps p.tables e below (s₁.setTop (mkF m 43 #[.val (.ref a1), .val (.int 0), .val (.int 3), .val (.int 1), .val (.int 2), .val (.int x2)] [(.int x1), (.int x2)])) target → Steps p.tables e below (s₁.setTop (mkF m 27 #[.val (.ref a1), .val (.int 0), .val (.int 3), .val (.int 2), .val (.int 2), .val (.int x2)] [(.int x1), (.int x2)])) target := by
        intro target k
        show Steps p.tables e below (s₁.setTop (mkF m 27 #[.val (.ref a1), .val (.int 0), .val (.int 3), .val (.int 2), .val (.int 2), .val (.int x2)] [(.int x1), (.int x2)])) _
        refine XS.icmpNo X0.here hx rfl (hb hby d28_27) rfl (tlt hc27_53).2.1 ?_
        refine XS.iinc X0.here hx rfl (hb hby d28_30) rfl (l' := #[.val (.ref a1), .val (.int 0), .val (.int 3), .val (.int 1), .val (.int 2), .val (.int x2)]) rfl ?_
        show Steps p.tables e below (s₁.setTop (mkF m 33 #[.val (.ref a1), .val (.int 0), .val (.int 3), .val (.int 1), .val (.int 2), .val (.int x2)] [])) _
        refine XS.iloadN X0.here hx rfl (hb hby d28_33) rfl ?_
        refine XS.iloadN X0.here hx rfl (hb hby d28_34) rfl ?_
        refine XS.icmpNo X0.here hx rfl (hb hby d28_35) rfl (flt (by decide)).1 ?_
        refine XS.iload X0.here hx rfl (hb hby d28_38) rfl ?_
        refine XS.aloadN X0.here hx rfl (hb hby d28_40) rfl rfl ?_
        refine XS.iloadN X0.here hx rfl (hb hby d28_41) rfl ?_
        show Steps p.tables e below (s₁.setTop (mkF m 42 #[.val (.ref a1), .val (.int 0), .val (.int 3), .val (.int 1), .val (.int 2), .val (.int x2)] [(.int 1), (.ref a1), (.int x2)])) _
        refine X0.iaload hx (j := (1 : Int32)) (v := (.int x1)) (by rw [e0]; exact Ar54.1) (State.isArrayOf_alike hZ.alike Ar54.2.1) Ar54.2.2 hin54 hat54 (g := (mkF m 42 #[.val (.ref a1), .val (.int 0), .val (.int 3), .val (.int 1), .val (.int 2), .val (.int x2)] [(.int 1), (.ref a1), (.int x2)])) rfl rfl (hb hby d28_42) _ ?_
        exact k
      obtain ⟨cl56, Ar56, q56, Sz56, Nn56, Ha56, Gf56⟩ := id VA
      have hin56 : ¬ ((1 : Int32) < 0 ∨ cl56.slots.size ≤ ((1 : Int32)).toNatClampNeg) := inb_of Sz56 ⟨by decide, by decide⟩
      have hat56 : cl56.slots[((1 : Int32)).toNatClampNeg]? = some (.int x1) := Has.at Ha56 hin56 rfl
      obtain ⟨cl57, Ar57, q57, Sz57, Nn57, Ha57, Gf57⟩ := VA
      have hin57 : ¬ ((2 : Int32) < 0 ∨ cl57.slots.size ≤ ((2 : Int32)).toNatClampNeg) := inb_of Sz57 ⟨by decide, by decide⟩
      obtain ⟨T58, h58, X58, e58, W58, st58⟩ := stI X0 hx hZ e0 Ar57 (j := (2 : Int32)) hin57 (g := (mkF m 53 #[.val (.ref a1), .val (.int 0), .val (.int 3), .val (.int 1), .val (.int 2), .val (.int x2)] [(.int x1), (.int 2), (.ref a1)])) rfl rfl (hb hby d28_53)
      have Va58 := Arv.set Ar57 q57 Sz57 Nn57 Ha57 Gf57 rfl W58 2 rfl (Nat.le_of_ble_eq_true rfl)
      have Vb58 : Arv Z h58 a1 ka .int (3 : Int32) [(.int x0), (.int x1), (.int x1)] (.int 0) := Va58
      have O59 := O0.wr W58 g_a1
      have kp60 : Keep h0 h58 [a1] := (Keep.refl h0 [a1]).wr W58 (Or.inl (List.mem_of_getElem? (i := 0) rfl))
      have N58 := Fr.snoc X58 N0 g_a1
      have pf61 : ∀ target, Steps p.tables e below (T58.setTop (mkF m 35 #[.val (.ref a1), .val (.int 0), .val (.int 3), .val (.int 0), .val (.int 2), .val (.int x2)] [(.int 0), (.int 0)])) target → Steps p.tables e below (s₁.setTop (mkF m 43 #[.val (.ref a1), .val (.int 0), .val (.int 3), .val (.int 1), .val (.int 2), .val (.int x2)] [(.int x1), (.int x2)])) target := by
        intro target k
        show Steps p.tables e below (s₁.setTop (mkF m 43 #[.val (.ref a1), .val (.int 0), .val (.int 3), .val (.int 1), .val (.int 2), .val (.int x2)] [(.int x1), (.int x2)])) _
        refine XS.icmpNo X0.here hx rfl (hb hby d28_43) rfl (tlt hc27_53).2.1 ?_
        refine XS.aloadN X0.here hx rfl (hb hby d28_46) rfl rfl ?_
        refine XS.iloadN X0.here hx rfl (hb hby d28_47) rfl ?_
        refine XS.iconst X0.here hx rfl (hb hby d28_48) ?_
        refine XS.iadd X0.here hx rfl (hb hby d28_49) rfl ?_
        show Steps p.tables e below (s₁.setTop (mkF m 50 #[.val (.ref a1), .val (.int 0), .val (.int 3), .val (.int 1), .val (.int 2), .val (.int x2)] [(.int 2), (.ref a1)])) _
        refine XS.aloadN X0.here hx rfl (hb hby d28_50) rfl rfl ?_
        refine XS.iloadN X0.here hx rfl (hb hby d28_51) rfl ?_
        show Steps p.tables e below (s₁.setTop (mkF m 52 #[.val (.ref a1), .val (.int 0), .val (.int 3), .val (.int 1), .val (.int 2), .val (.int x2)] [(.int 1), (.ref a1), (.int 2), (.ref a1)])) _
        refine X0.iaload hx (j := (1 : Int32)) (v := (.int x1)) (by rw [e0]; exact Ar56.1) (State.isArrayOf_alike hZ.alike Ar56.2.1) Ar56.2.2 hin56 hat56 (g := (mkF m 52 #[.val (.ref a1), .val (.int 0), .val (.int 3), .val (.int 1), .val (.int 2), .val (.int x2)] [(.int 1), (.ref a1), (.int 2), (.ref a1)])) rfl rfl (hb hby d28_52) _ ?_
        show Steps p.tables e below (s₁.setTop (mkF m 53 #[.val (.ref a1), .val (.int 0), .val (.int 3), .val (.int 1), .val (.int 2), .val (.int x2)] [(.int x1), (.int 2), (.ref a1)])) _
        refine st58 _ ?_
        show Steps p.tables e below (T58.setTop (mkF m 54 #[.val (.ref a1), .val (.int 0), .val (.int 3), .val (.int 1), .val (.int 2), .val (.int x2)] [])) _
        refine XS.goto X58.here hx rfl (pc0 := 54) (pc' := 30) rfl (hb hby d28_54) (by decide) (by decide) ?_
        refine XS.iinc X58.here hx rfl (hb hby d28_30) rfl (l' := #[.val (.ref a1), .val (.int 0), .val (.int 3), .val (.int 0), .val (.int 2), .val (.int x2)]) rfl ?_
        show Steps p.tables e below (T58.setTop (mkF m 33 #[.val (.ref a1), .val (.int 0), .val (.int 3), .val (.int 0), .val (.int 2), .val (.int x2)] [])) _
        refine XS.iloadN X58.here hx rfl (hb hby d28_33) rfl ?_
        refine XS.iloadN X58.here hx rfl (hb hby d28_34) rfl ?_
        exact k
      obtain ⟨cl62, Ar62, q62, Sz62, Nn62, Ha62, Gf62⟩ := id Vb58
      have hin62 : ¬ ((0 : Int32) < 0 ∨ cl62.slots.size ≤ ((0 : Int32)).toNatClampNeg) := inb_of Sz62 ⟨by decide, by decide⟩
      have hat62 : cl62.slots[((0 : Int32)).toNatClampNeg]? = some (.int x0) := Has.at Ha62 hin62 rfl
      have pf63 : ∀ target, Steps p.tables e below (T58.setTop (mkF m 43 #[.val (.ref a1), .val (.int 0), .val (.int 3), .val (.int 0), .val (.int 2), .val (.int x2)] [(.int x0), (.int x2)])) target → Steps p.tables e below (T58.setTop (mkF m 35 #[.val (.ref a1), .val (.int 0), .val (.int 3), .val (.int 0), .val (.int 2), .val (.int x2)] [(.int 0), (.int 0)])) target := by
        intro target k
        show Steps p.tables e below (T58.setTop (mkF m 35 #[.val (.ref a1), .val (.int 0), .val (.int 3), .val (.int 0), .val (.int 2), .val (.int x2)] [(.int 0), (.int 0)])) _
        refine XS.icmpNo X58.here hx rfl (hb hby d28_35) rfl (flt (by decide)).1 ?_
        refine XS.iload X58.here hx rfl (hb hby d28_38) rfl ?_
        refine XS.aloadN X58.here hx rfl (hb hby d28_40) rfl rfl ?_
        refine XS.iloadN X58.here hx rfl (hb hby d28_41) rfl ?_
        show Steps p.tables e below (T58.setTop (mkF m 42 #[.val (.ref a1), .val (.int 0), .val (.int 3), .val (.int 0), .val (.int 2), .val (.int x2)] [(.int 0), (.ref a1), (.int x2)])) _
        refine X58.iaload hx (j := (0 : Int32)) (v := (.int x0)) (by rw [e58]; exact Ar62.1) (State.isArrayOf_alike hZ.alike Ar62.2.1) Ar62.2.2 hin62 hat62 (g := (mkF m 42 #[.val (.ref a1), .val (.int 0), .val (.int 3), .val (.int 0), .val (.int 2), .val (.int x2)] [(.int 0), (.ref a1), (.int x2)])) rfl rfl (hb hby d28_42) _ ?_
        exact k
      by_cases hc43 : x2 < x0
      · obtain ⟨cl64, Ar64, q64, Sz64, Nn64, Ha64, Gf64⟩ := id Vb58
        have hin64 : ¬ ((0 : Int32) < 0 ∨ cl64.slots.size ≤ ((0 : Int32)).toNatClampNeg) := inb_of Sz64 ⟨by decide, by decide⟩
        have hat64 : cl64.slots[((0 : Int32)).toNatClampNeg]? = some (.int x0) := Has.at Ha64 hin64 rfl
        obtain ⟨cl65, Ar65, q65, Sz65, Nn65, Ha65, Gf65⟩ := Vb58
        have hin65 : ¬ ((1 : Int32) < 0 ∨ cl65.slots.size ≤ ((1 : Int32)).toNatClampNeg) := inb_of Sz65 ⟨by decide, by decide⟩
        obtain ⟨T66, h66, X66, e66, W66, st66⟩ := stI X58 hx hZ e58 Ar65 (j := (1 : Int32)) hin65 (g := (mkF m 53 #[.val (.ref a1), .val (.int 0), .val (.int 3), .val (.int 0), .val (.int 2), .val (.int x2)] [(.int x0), (.int 1), (.ref a1)])) rfl rfl (hb hby d28_53)
        have Va66 := Arv.set Ar65 q65 Sz65 Nn65 Ha65 Gf65 rfl W66 1 rfl (Nat.le_of_ble_eq_true rfl)
        have Vb66 : Arv Z h66 a1 ka .int (3 : Int32) [(.int x0), (.int x0), (.int x1)] (.int 0) := Va66
        have O67 := O59.wr W66 g_a1
        have kp68 : Keep h0 h66 [a1] := kp60.wr W66 (Or.inl (List.mem_of_getElem? (i := 0) rfl))
        have N66 := Fr.snoc X66 N58 g_a1
        have pf69 : ∀ target, Steps p.tables e below (T66.setTop (mkF m 35 #[.val (.ref a1), .val (.int 0), .val (.int 3), .val (.int (-1 : Int32)), .val (.int 2), .val (.int x2)] [(.int 0), (.int (-1 : Int32))])) target → Steps p.tables e below (T58.setTop (mkF m 43 #[.val (.ref a1), .val (.int 0), .val (.int 3), .val (.int 0), .val (.int 2), .val (.int x2)] [(.int x0), (.int x2)])) target := by
          intro target k
          show Steps p.tables e below (T58.setTop (mkF m 43 #[.val (.ref a1), .val (.int 0), .val (.int 3), .val (.int 0), .val (.int 2), .val (.int x2)] [(.int x0), (.int x2)])) _
          refine XS.icmpNo X58.here hx rfl (hb hby d28_43) rfl (tlt hc43).2.1 ?_
          refine XS.aloadN X58.here hx rfl (hb hby d28_46) rfl rfl ?_
          refine XS.iloadN X58.here hx rfl (hb hby d28_47) rfl ?_
          refine XS.iconst X58.here hx rfl (hb hby d28_48) ?_
          refine XS.iadd X58.here hx rfl (hb hby d28_49) rfl ?_
          show Steps p.tables e below (T58.setTop (mkF m 50 #[.val (.ref a1), .val (.int 0), .val (.int 3), .val (.int 0), .val (.int 2), .val (.int x2)] [(.int 1), (.ref a1)])) _
          refine XS.aloadN X58.here hx rfl (hb hby d28_50) rfl rfl ?_
          refine XS.iloadN X58.here hx rfl (hb hby d28_51) rfl ?_
          show Steps p.tables e below (T58.setTop (mkF m 52 #[.val (.ref a1), .val (.int 0), .val (.int 3), .val (.int 0), .val (.int 2), .val (.int x2)] [(.int 0), (.ref a1), (.int 1), (.ref a1)])) _
          refine X58.iaload hx (j := (0 : Int32)) (v := (.int x0)) (by rw [e58]; exact Ar64.1) (State.isArrayOf_alike hZ.alike Ar64.2.1) Ar64.2.2 hin64 hat64 (g := (mkF m 52 #[.val (.ref a1), .val (.int 0), .val (.int 3), .val (.int 0), .val (.int 2), .val (.int x2)] [(.int 0), (.ref a1), (.int 1), (.ref a1)])) rfl rfl (hb hby d28_52) _ ?_
          show Steps p.tables e below (T58.setTop (mkF m 53 #[.val (.ref a1), .val (.int 0), .val (.int 3), .val (.int 0), .val (.int 2), .val (.int x2)] [(.int x0), (.int 1), (.ref a1)])) _
          refine st66 _ ?_
          show Steps p.tables e below (T66.setTop (mkF m 54 #[.val (.ref a1), .val (.int 0), .val (.int 3), .val (.int 0), .val (.int 2), .val (.int x2)] [])) _
          refine XS.goto X66.here hx rfl (pc0 := 54) (pc' := 30) rfl (hb hby d28_54) (by decide) (by decide) ?_
          refine XS.iinc X66.here hx rfl (hb hby d28_30) rfl (l' := #[.val (.ref a1), .val (.int 0), .val (.int 3), .val (.int (-1 : Int32)), .val (.int 2), .val (.int x2)]) rfl ?_
          show Steps p.tables e below (T66.setTop (mkF m 33 #[.val (.ref a1), .val (.int 0), .val (.int 3), .val (.int (-1 : Int32)), .val (.int 2), .val (.int x2)] [])) _
          refine XS.iloadN X66.here hx rfl (hb hby d28_33) rfl ?_
          refine XS.iloadN X66.here hx rfl (hb hby d28_34) rfl ?_
          exact k
        obtain ⟨cl70, Ar70, q70, Sz70, Nn70, Ha70, Gf70⟩ := Vb66
        have hin70 : ¬ ((0 : Int32) < 0 ∨ cl70.slots.size ≤ ((0 : Int32)).toNatClampNeg) := inb_of Sz70 ⟨by decide, by decide⟩
        obtain ⟨T71, h71, X71, e71, W71, st71⟩ := stI X66 hx hZ e66 Ar70 (j := (0 : Int32)) hin70 (g := (mkF m 63 #[.val (.ref a1), .val (.int 0), .val (.int 3), .val (.int (-1 : Int32)), .val (.int 2), .val (.int x2)] [(.int x2), (.int 0), (.ref a1)])) rfl rfl (hb hby d28_63)
        have Va71 := Arv.set Ar70 q70 Sz70 Nn70 Ha70 Gf70 rfl W71 0 rfl (Nat.le_of_ble_eq_true rfl)
        have Vb71 : Arv Z h71 a1 ka .int (3 : Int32) [(.int x2), (.int x0), (.int x1)] (.int 0) := Va71
        have O72 := O67.wr W71 g_a1
        have kp73 : Keep h0 h71 [a1] := kp68.wr W71 (Or.inl (List.mem_of_getElem? (i := 0) rfl))
        have N71 := Fr.snoc X71 N66 g_a1
        have pf74 : ∀ target, Steps p.tables e below (T71.setTop (mkF m 9 #[.val (.ref a1), .val (.int 0), .val (.int 3), .val (.int (-1 : Int32)), .val (.int 3), .val (.int x2)] [(.int 3), (.int 3)])) target → Steps p.tables e below (T66.setTop (mkF m 35 #[.val (.ref a1), .val (.int 0), .val (.int 3), .val (.int (-1 : Int32)), .val (.int 2), .val (.int x2)] [(.int 0), (.int (-1 : Int32))])) target := by
          intro target k
          show Steps p.tables e below (T66.setTop (mkF m 35 #[.val (.ref a1), .val (.int 0), .val (.int 3), .val (.int (-1 : Int32)), .val (.int 2), .val (.int x2)] [(.int 0), (.int (-1 : Int32))])) _
          refine XS.icmpYes X66.here hx rfl (pc0 := 35) (pc' := 57) rfl (hb hby d28_35) rfl (tlt (by decide)).1 (by decide) (by decide) ?_
          refine XS.aloadN X66.here hx rfl (hb hby d28_57) rfl rfl ?_
          refine XS.iloadN X66.here hx rfl (hb hby d28_58) rfl ?_
          refine XS.iconst X66.here hx rfl (hb hby d28_59) ?_
          refine XS.iadd X66.here hx rfl (hb hby d28_60) rfl ?_
          show Steps p.tables e below (T66.setTop (mkF m 61 #[.val (.ref a1), .val (.int 0), .val (.int 3), .val (.int (-1 : Int32)), .val (.int 2), .val (.int x2)] [(.int 0), (.ref a1)])) _
          refine XS.iload X66.here hx rfl (hb hby d28_61) rfl ?_
          show Steps p.tables e below (T66.setTop (mkF m 63 #[.val (.ref a1), .val (.int 0), .val (.int 3), .val (.int (-1 : Int32)), .val (.int 2), .val (.int x2)] [(.int x2), (.int 0), (.ref a1)])) _
          refine st71 _ ?_
          show Steps p.tables e below (T71.setTop (mkF m 64 #[.val (.ref a1), .val (.int 0), .val (.int 3), .val (.int (-1 : Int32)), .val (.int 2), .val (.int x2)] [])) _
          refine XS.goto X71.here hx rfl (pc0 := 64) (pc' := 3) rfl (hb hby d28_64) (by decide) (by decide) ?_
          refine XS.iinc X71.here hx rfl (hb hby d28_3) rfl (l' := #[.val (.ref a1), .val (.int 0), .val (.int 3), .val (.int (-1 : Int32)), .val (.int 3), .val (.int x2)]) rfl ?_
          show Steps p.tables e below (T71.setTop (mkF m 6 #[.val (.ref a1), .val (.int 0), .val (.int 3), .val (.int (-1 : Int32)), .val (.int 3), .val (.int x2)] [])) _
          refine XS.iload X71.here hx rfl (hb hby d28_6) rfl ?_
          refine XS.iloadN X71.here hx rfl (hb hby d28_8) rfl ?_
          exact k
        obtain ⟨fs, hr, hrun, hended, hW, hsame⟩ := X71.leave (v := none) (fun _ => rfl)
        refine ⟨_, _, pre0 _ ?_, hrun, hended, _, _, rfl, ?_, ⟨_, rfl⟩, hW, hsame.mono (by decide) (by decide)⟩
        · refine pf1 _ ?_
          refine pf4 _ ?_
          refine pf49 _ ?_
          refine pf52 _ ?_
          refine pf55 _ ?_
          refine pf61 _ ?_
          refine pf63 _ ?_
          refine pf69 _ ?_
          refine pf74 _ ?_
          show Steps p.tables e below (T71.setTop (mkF m 9 #[.val (.ref a1), .val (.int 0), .val (.int 3), .val (.int (-1 : Int32)), .val (.int 3), .val (.int x2)] [(.int 3), (.int 3)])) _
          refine XS.icmpYes X71.here hx rfl (pc0 := 9) (pc' := 67) rfl (hb hby d28_9) rfl (flt (by decide)).2.1 (by decide) (by decide) ?_
          show Steps p.tables e below (T71.setTop (mkF m 67 #[.val (.ref a1), .val (.int 0), .val (.int 3), .val (.int (-1 : Int32)), .val (.int 3), .val (.int x2)] [])) _
          exact X71.returnOut hx Bd.returns (hb hby d28_67) hr
        · show Qsrt Z a1 ka [x0, x1, x2] h0 n0 _ T71.heap _
          rw [e71]
          exact ⟨rfl, N71, kp73, by simp only [srtF]; rw [if_neg hc27, if_pos hc27_53, if_pos hc43]; exact Vb71⟩
      · obtain ⟨cl75, Ar75, q75, Sz75, Nn75, Ha75, Gf75⟩ := Vb58
        have hin75 : ¬ ((1 : Int32) < 0 ∨ cl75.slots.size ≤ ((1 : Int32)).toNatClampNeg) := inb_of Sz75 ⟨by decide, by decide⟩
        obtain ⟨T76, h76, X76, e76, W76, st76⟩ := stI X58 hx hZ e58 Ar75 (j := (1 : Int32)) hin75 (g := (mkF m 63 #[.val (.ref a1), .val (.int 0), .val (.int 3), .val (.int 0), .val (.int 2), .val (.int x2)] [(.int x2), (.int 1), (.ref a1)])) rfl rfl (hb hby d28_63)
        have Va76 := Arv.set Ar75 q75 Sz75 Nn75 Ha75 Gf75 rfl W76 1 rfl (Nat.le_of_ble_eq_true rfl)
        have Vb76 : Arv Z h76 a1 ka .int (3 : Int32) [(.int x0), (.int x2), (.int x1)] (.int 0) := Va76
        have O77 := O59.wr W76 g_a1
        have kp78 : Keep h0 h76 [a1] := kp60.wr W76 (Or.inl (List.mem_of_getElem? (i := 0) rfl))
        have N76 := Fr.snoc X76 N58 g_a1
        have pf79 : ∀ target, Steps p.tables e below (T76.setTop (mkF m 9 #[.val (.ref a1), .val (.int 0), .val (.int 3), .val (.int 0), .val (.int 3), .val (.int x2)] [(.int 3), (.int 3)])) target → Steps p.tables e below (T58.setTop (mkF m 43 #[.val (.ref a1), .val (.int 0), .val (.int 3), .val (.int 0), .val (.int 2), .val (.int x2)] [(.int x0), (.int x2)])) target := by
          intro target k
          show Steps p.tables e below (T58.setTop (mkF m 43 #[.val (.ref a1), .val (.int 0), .val (.int 3), .val (.int 0), .val (.int 2), .val (.int x2)] [(.int x0), (.int x2)])) _
          refine XS.icmpYes X58.here hx rfl (pc0 := 43) (pc' := 57) rfl (hb hby d28_43) rfl (flt hc43).2.1 (by decide) (by decide) ?_
          refine XS.aloadN X58.here hx rfl (hb hby d28_57) rfl rfl ?_
          refine XS.iloadN X58.here hx rfl (hb hby d28_58) rfl ?_
          refine XS.iconst X58.here hx rfl (hb hby d28_59) ?_
          refine XS.iadd X58.here hx rfl (hb hby d28_60) rfl ?_
          show Steps p.tables e below (T58.setTop (mkF m 61 #[.val (.ref a1), .val (.int 0), .val (.int 3), .val (.int 0), .val (.int 2), .val (.int x2)] [(.int 1), (.ref a1)])) _
          refine XS.iload X58.here hx rfl (hb hby d28_61) rfl ?_
          show Steps p.tables e below (T58.setTop (mkF m 63 #[.val (.ref a1), .val (.int 0), .val (.int 3), .val (.int 0), .val (.int 2), .val (.int x2)] [(.int x2), (.int 1), (.ref a1)])) _
          refine st76 _ ?_
          show Steps p.tables e below (T76.setTop (mkF m 64 #[.val (.ref a1), .val (.int 0), .val (.int 3), .val (.int 0), .val (.int 2), .val (.int x2)] [])) _
          refine XS.goto X76.here hx rfl (pc0 := 64) (pc' := 3) rfl (hb hby d28_64) (by decide) (by decide) ?_
          refine XS.iinc X76.here hx rfl (hb hby d28_3) rfl (l' := #[.val (.ref a1), .val (.int 0), .val (.int 3), .val (.int 0), .val (.int 3), .val (.int x2)]) rfl ?_
          show Steps p.tables e below (T76.setTop (mkF m 6 #[.val (.ref a1), .val (.int 0), .val (.int 3), .val (.int 0), .val (.int 3), .val (.int x2)] [])) _
          refine XS.iload X76.here hx rfl (hb hby d28_6) rfl ?_
          refine XS.iloadN X76.here hx rfl (hb hby d28_8) rfl ?_
          exact k
        obtain ⟨fs, hr, hrun, hended, hW, hsame⟩ := X76.leave (v := none) (fun _ => rfl)
        refine ⟨_, _, pre0 _ ?_, hrun, hended, _, _, rfl, ?_, ⟨_, rfl⟩, hW, hsame.mono (by decide) (by decide)⟩
        · refine pf1 _ ?_
          refine pf4 _ ?_
          refine pf49 _ ?_
          refine pf52 _ ?_
          refine pf55 _ ?_
          refine pf61 _ ?_
          refine pf63 _ ?_
          refine pf79 _ ?_
          show Steps p.tables e below (T76.setTop (mkF m 9 #[.val (.ref a1), .val (.int 0), .val (.int 3), .val (.int 0), .val (.int 3), .val (.int x2)] [(.int 3), (.int 3)])) _
          refine XS.icmpYes X76.here hx rfl (pc0 := 9) (pc' := 67) rfl (hb hby d28_9) rfl (flt (by decide)).2.1 (by decide) (by decide) ?_
          show Steps p.tables e below (T76.setTop (mkF m 67 #[.val (.ref a1), .val (.int 0), .val (.int 3), .val (.int 0), .val (.int 3), .val (.int x2)] [])) _
          exact X76.returnOut hx Bd.returns (hb hby d28_67) hr
        · show Qsrt Z a1 ka [x0, x1, x2] h0 n0 _ T76.heap _
          rw [e76]
          exact ⟨rfl, N76, kp78, by simp only [srtF]; rw [if_neg hc27, if_pos hc27_53, if_neg hc43]; exact Vb76⟩
    · have pf80 : ∀ target, Steps p.tables e below (s₁.setTop (mkF m 9 #[.val (.ref a1), .val (.int 0), .val (.int 3), .val (.int 2), .val (.int 3), .val (.int x2)] [(.int 3), (.int 3)])) target → Steps p.tables e below (s₁.setTop (mkF m 27 #[.val (.ref a1), .val (.int 0), .val (.int 3), .val (.int 2), .val (.int 2), .val (.int x2)] [(.int x1), (.int x2)])) target := by
        intro target k
        show Steps p.tables e below (s₁.setTop (mkF m 27 #[.val (.ref a1), .val (.int 0), .val (.int 3), .val (.int 2), .val (.int 2), .val (.int x2)] [(.int x1), (.int x2)])) _
        refine XS.icmpYes X0.here hx rfl (pc0 := 27) (pc' := 64) rfl (hb hby d28_27) rfl (flt hc27_53).2.1 (by decide) (by decide) ?_
        refine XS.goto X0.here hx rfl (pc0 := 64) (pc' := 3) rfl (hb hby d28_64) (by decide) (by decide) ?_
        refine XS.iinc X0.here hx rfl (hb hby d28_3) rfl (l' := #[.val (.ref a1), .val (.int 0), .val (.int 3), .val (.int 2), .val (.int 3), .val (.int x2)]) rfl ?_
        show Steps p.tables e below (s₁.setTop (mkF m 6 #[.val (.ref a1), .val (.int 0), .val (.int 3), .val (.int 2), .val (.int 3), .val (.int x2)] [])) _
        refine XS.iload X0.here hx rfl (hb hby d28_6) rfl ?_
        refine XS.iloadN X0.here hx rfl (hb hby d28_8) rfl ?_
        exact k
      obtain ⟨fs, hr, hrun, hended, hW, hsame⟩ := X0.leave (v := none) (fun _ => rfl)
      refine ⟨_, _, pre0 _ ?_, hrun, hended, _, _, rfl, ?_, ⟨_, rfl⟩, hW, hsame.mono (by decide) (by decide)⟩
      · refine pf1 _ ?_
        refine pf4 _ ?_
        refine pf49 _ ?_
        refine pf52 _ ?_
        refine pf80 _ ?_
        show Steps p.tables e below (s₁.setTop (mkF m 9 #[.val (.ref a1), .val (.int 0), .val (.int 3), .val (.int 2), .val (.int 3), .val (.int x2)] [(.int 3), (.int 3)])) _
        refine XS.icmpYes X0.here hx rfl (pc0 := 9) (pc' := 67) rfl (hb hby d28_9) rfl (flt (by decide)).2.1 (by decide) (by decide) ?_
        show Steps p.tables e below (s₁.setTop (mkF m 67 #[.val (.ref a1), .val (.int 0), .val (.int 3), .val (.int 2), .val (.int 3), .val (.int x2)] [])) _
        exact X0.returnOut hx Bd.returns (hb hby d28_67) hr
      · show Qsrt Z a1 ka [x0, x1, x2] h0 n0 _ s₁.heap _
        rw [e0]
        exact ⟨rfl, N0, (Keep.refl h0 [a1]), by simp only [srtF]; rw [if_neg hc27, if_neg hc27_53]; exact VA⟩
theorem ef_rms5_3 (m : MethodId) (x1 : Addr) (x2 : Int32) (x3 : Int32) (x4 : Int32) : entryFrame m #[.null, (.ref x1), (.int x2), (.int x3), (.int x4)] 21 = mkF m 0 #[.val .null, .val (.ref x1), .val (.int x2), .val (.int x3), .val (.int x4), .unset, .unset, .unset, .unset, .unset, .unset, .unset, .unset, .unset, .unset, .unset, .unset, .unset, .unset, .unset, .unset] [] := by first | (simp [entryFrame, mkF, argsToLocals, Value.category]; done) | rfl
set_option maxRecDepth 65536 in
set_option maxHeartbeats 40000000 in
theorem rms5_3 (l : Launch) (Z : State) (a0 : Array Value) (hw : ∀ d ∈ tables_1, d.before a0 Z = true) (ws : List Jvm.Cond) (a1 : Addr) (ka : ClassId) (x0 : Int32) (x1 : Int32) (x2 : Int32) (h0 : Heap) (n0 : Nat) (O0 : Old Z n0 h0) (VA : Arv Z h0 a1 ka .int (3 : Int32) [(.int x0), (.int x1), (.int x2)] (.int 0)) (g_a1 : n0 ≤ a1) :
    MetFree l (⟨"java/util/DualPivotQuicksort", "sort", "(Ljava/util/DualPivotQuicksort$Sorter;[IIII)V"⟩ : MethodName) (head1 (Jvm.Cond.code (⟨"java/util/DualPivotQuicksort", "sort", "(Ljava/util/DualPivotQuicksort$Sorter;[IIII)V"⟩ : MethodName) jdk_2529_method_4_code 21 none :: ws) ({ frames := 1, cells := 0, slots := 0, locals := 17 } : Room)) (fun a U => a = #[.null, (.ref a1), (.int 0), (.int 0), (.int 3)] ∧ Z.Warmed39 U.vm ∧ U.heap = h0) (fun _ _ _ _ _ => True) (fun _ U o U' => ∃ v L, o = .returned v ∧ Qsrt Z a1 ka [x0, x1, x2] h0 n0 v U'.heap L ∧ FrameEnd U o U' L ({ frames := 1, cells := 0, slots := 0, locals := 17 } : Room).cells ({ frames := 1, cells := 0, slots := 0, locals := 17 } : Room).slots) := by
  refine MetFree.of_bodySF (plainFor_of_name pn9) hisR ?_
  intro p e s m args below meth c s₁ Bd hml0 hP hK
  obtain ⟨rfl, hZ, hh⟩ := hP
  have hx := Bd.exec
  have hby := Bd.bytes
  have hml : c.maxLocals = 21 := hml0
  have hown : s.vm.findClass "java/util/DualPivotQuicksort" = some m.cls := findClass_of_methodNamed Bd.named
  have hnm := (name_of_methodNamed Bd.named Bd.method).1
  have X0 : Stand p l e ({ frames := 1, cells := 0, slots := 0, locals := 17 } : Room) s m #[.null, (.ref a1), (.int 0), (.int 0), (.int 3)] below meth c s₁ [] 0 0 := Stand.of_body Bd
  have e0 : s₁.heap = h0 := by rw [← hh, Bd.state]; rfl
  have N0 := Fr.nil n0
  have pre0 : ∀ t, Steps p.tables e below (s₁.setTop (mkF m 0 #[.val .null, .val (.ref a1), .val (.int 0), .val (.int 0), .val (.int 3), .unset, .unset, .unset, .unset, .unset, .unset, .unset, .unset, .unset, .unset, .unset, .unset, .unset, .unset, .unset, .unset] [])) t → Steps p.tables e below (s₁.setTop (entryFrame m #[.null, (.ref a1), (.int 0), (.int 0), (.int 3)] 21)) t := fun t k => castTop (ef_rms5_3 m a1 (0 : Int32) (0 : Int32) (3 : Int32)) k
  have pf1 : ∀ target, Steps p.tables e below (s₁.setTop (mkF m 18 #[.val .null, .val (.ref a1), .val (.int 0), .val (.int 0), .val (.int 3), .val (.int 2), .val (.int 3), .unset, .unset, .unset, .unset, .unset, .unset, .unset, .unset, .unset, .unset, .unset, .unset, .unset, .unset] [(.int 65), (.int 3)])) target → Steps p.tables e below (s₁.setTop (mkF m 0 #[.val .null, .val (.ref a1), .val (.int 0), .val (.int 0), .val (.int 3), .unset, .unset, .unset, .unset, .unset, .unset, .unset, .unset, .unset, .unset, .unset, .unset, .unset, .unset, .unset, .unset] [])) target := by
    intro target k
    show Steps p.tables e below (s₁.setTop (mkF m 0 #[.val .null, .val (.ref a1), .val (.int 0), .val (.int 0), .val (.int 3), .unset, .unset, .unset, .unset, .unset, .unset, .unset, .unset, .unset, .unset, .unset, .unset, .unset, .unset, .unset, .unset] [])) _
    refine XS.iload X0.here hx rfl (hb hby d27_0) rfl ?_
    refine XS.iconst X0.here hx rfl (hb hby d27_2) ?_
    refine XS.isub X0.here hx rfl (hb hby d27_3) rfl ?_
    show Steps p.tables e below (s₁.setTop (mkF m 4 #[.val .null, .val (.ref a1), .val (.int 0), .val (.int 0), .val (.int 3), .unset, .unset, .unset, .unset, .unset, .unset, .unset, .unset, .unset, .unset, .unset, .unset, .unset, .unset, .unset, .unset] [(.int 2)])) _
    refine XS.istore X0.here hx rfl (hb hby d27_4) rfl (l' := #[.val .null, .val (.ref a1), .val (.int 0), .val (.int 0), .val (.int 3), .val (.int 2), .unset, .unset, .unset, .unset, .unset, .unset, .unset, .unset, .unset, .unset, .unset, .unset, .unset, .unset, .unset]) rfl ?_
    refine XS.iload X0.here hx rfl (hb hby d27_6) rfl ?_
    refine XS.iloadN X0.here hx rfl (hb hby d27_8) rfl ?_
    refine XS.isub X0.here hx rfl (hb hby d27_9) rfl ?_
    show Steps p.tables e below (s₁.setTop (mkF m 10 #[.val .null, .val (.ref a1), .val (.int 0), .val (.int 0), .val (.int 3), .val (.int 2), .unset, .unset, .unset, .unset, .unset, .unset, .unset, .unset, .unset, .unset, .unset, .unset, .unset, .unset, .unset] [(.int 3)])) _
    refine XS.istore X0.here hx rfl (hb hby d27_10) rfl (l' := #[.val .null, .val (.ref a1), .val (.int 0), .val (.int 0), .val (.int 3), .val (.int 2), .val (.int 3), .unset, .unset, .unset, .unset, .unset, .unset, .unset, .unset, .unset, .unset, .unset, .unset, .unset, .unset]) rfl ?_
    refine XS.iload X0.here hx rfl (hb hby d27_12) rfl ?_
    refine XS.bipush X0.here hx rfl (hb hby d27_14) ?_
    refine XS.iloadN X0.here hx rfl (hb hby d27_16) rfl ?_
    refine XS.iadd X0.here hx rfl (hb hby d27_17) rfl ?_
    exact k
  have pf2 : ∀ target, Steps p.tables e below (s₁.setTop (mkF m 50 #[.val .null, .val (.ref a1), .val (.int 0), .val (.int 0), .val (.int 3), .val (.int 2), .val (.int 3), .unset, .unset, .unset, .unset, .unset, .unset, .unset, .unset, .unset, .unset, .unset, .unset, .unset, .unset] [(.int 44), (.int 3)])) target → Steps p.tables e below (s₁.setTop (mkF m 18 #[.val .null, .val (.ref a1), .val (.int 0), .val (.int 0), .val (.int 3), .val (.int 2), .val (.int 3), .unset, .unset, .unset, .unset, .unset, .unset, .unset, .unset, .unset, .unset, .unset, .unset, .unset, .unset] [(.int 65), (.int 3)])) target := by
    intro target k
    show Steps p.tables e below (s₁.setTop (mkF m 18 #[.val .null, .val (.ref a1), .val (.int 0), .val (.int 0), .val (.int 3), .val (.int 2), .val (.int 3), .unset, .unset, .unset, .unset, .unset, .unset, .unset, .unset, .unset, .unset, .unset, .unset, .unset, .unset] [(.int 65), (.int 3)])) _
    refine XS.icmpNo X0.here hx rfl (hb hby d27_18) rfl (tlt (by decide)).2.1 ?_
    refine XS.iloadN X0.here hx rfl (hb hby d27_21) rfl ?_
    refine XS.iconst X0.here hx rfl (hb hby d27_22) ?_
    refine XS.iand X0.here hx rfl (hb hby d27_23) rfl ?_
    show Steps p.tables e below (s₁.setTop (mkF m 24 #[.val .null, .val (.ref a1), .val (.int 0), .val (.int 0), .val (.int 3), .val (.int 2), .val (.int 3), .unset, .unset, .unset, .unset, .unset, .unset, .unset, .unset, .unset, .unset, .unset, .unset, .unset, .unset] [(.int 0)])) _
    refine XS.ifYes X0.here hx rfl (pc0 := 24) (pc' := 46) rfl (hb hby d27_24) rfl ((if0 _ _).trans (flt (by decide)).2.2.2) (by decide) (by decide) ?_
    refine XS.iload X0.here hx rfl (hb hby d27_46) rfl ?_
    refine XS.bipush X0.here hx rfl (hb hby d27_48) ?_
    exact k
  obtain ⟨_, _, ⟨T3, L3, k3, n3⟩, -, X3, ⟨Lc3, hQ3, l3, y3, z3⟩, st3⟩ := Jvm.LawKit.callS X0 hx (y := (⟨"java/util/DualPivotQuicksort", "insertionSort", "([III)V"⟩ : MethodName)) hown (mvT hZ (hw _ (List.mem_of_getElem? (i := 136) rfl))) (mvT hZ (hw _ (List.mem_of_getElem? (i := 137) rfl))) (mvT hZ (hw _ (List.mem_of_getElem? (i := 131) rfl))) (mvT hZ (hw _ (List.mem_of_getElem? (i := 138) rfl))) (by decide) (backOf (W := 0) (rmis3 l Z a0 hw [] a1 ka x0 x1 x2 h0 n0 O0 VA g_a1) hZ (hw _ (List.mem_of_getElem? (i := 138) rfl)) (hw _ (List.mem_of_getElem? (i := 131) rfl)) (by decide) (by decide)) (g := (mkF m 57 #[.val .null, .val (.ref a1), .val (.int 0), .val (.int 0), .val (.int 3), .val (.int 2), .val (.int 3), .unset, .unset, .unset, .unset, .unset, .unset, .unset, .unset, .unset, .unset, .unset, .unset, .unset, .unset] [(.int 3), (.int 0), (.ref a1)])) rfl (by rw [hml]; rfl) (argsL := [(.ref a1), (.int 0), (.int 3)]) (rest := []) (lenOf pd13 rfl) rfl (by show 2 * 0 + _ ≤ _; exact Nat.le_of_eq rfl) (hb hby d27_57) (fun _ _ => ⟨rfl, e0, (by decide : 0 + 0 ≤ _), (by decide : 0 + 0 ≤ _)⟩)
  dsimp only [Pt.U, Pt.locs, Pt.cells, Pt.slots] at X3 l3 y3 z3 st3 hQ3
  subst l3 y3 z3
  obtain ⟨h3, e3⟩ : ∃ z, T3.heap = z := ⟨_, rfl⟩
  rw [e3] at hQ3
  obtain ⟨rfl, Nq3, K3, V3q⟩ := hQ3
  have N3 := Fr.app N0 Nq3
  have O4 := O0.keep K3 (allS g_a1 all0)
  have kp5 : Keep h0 h3 [a1] := (Keep.refl h0 [a1]).trans K3 (allS (Or.inl (List.mem_of_getElem? (i := 0) rfl)) all0)
  obtain ⟨fs, hr, hrun, hended, hW, hsame⟩ := X3.leave (v := none) (fun _ => rfl)
  refine ⟨_, _, pre0 _ ?_, hrun, hended, _, _, rfl, ?_, ⟨_, rfl⟩, hW, hsame.mono (by decide) (by decide)⟩
  · refine pf1 _ ?_
    refine pf2 _ ?_
    show Steps p.tables e below (s₁.setTop (mkF m 50 #[.val .null, .val (.ref a1), .val (.int 0), .val (.int 0), .val (.int 3), .val (.int 2), .val (.int 3), .unset, .unset, .unset, .unset, .unset, .unset, .unset, .unset, .unset, .unset, .unset, .unset, .unset, .unset] [(.int 44), (.int 3)])) _
    refine XS.icmpNo X0.here hx rfl (hb hby d27_50) rfl (tlt (by decide)).2.1 ?_
    refine XS.aloadN X0.here hx rfl (hb hby d27_53) rfl rfl ?_
    refine XS.iloadN X0.here hx rfl (hb hby d27_54) rfl ?_
    refine XS.iload X0.here hx rfl (hb hby d27_55) rfl ?_
    show Steps p.tables e below (s₁.setTop (mkF m 57 #[.val .null, .val (.ref a1), .val (.int 0), .val (.int 0), .val (.int 3), .val (.int 2), .val (.int 3), .unset, .unset, .unset, .unset, .unset, .unset, .unset, .unset, .unset, .unset, .unset, .unset, .unset, .unset] [(.int 3), (.int 0), (.ref a1)])) _
    refine st3 _ ?_
    show Steps p.tables e below (T3.setTop (mkF m 60 #[.val .null, .val (.ref a1), .val (.int 0), .val (.int 0), .val (.int 3), .val (.int 2), .val (.int 3), .unset, .unset, .unset, .unset, .unset, .unset, .unset, .unset, .unset, .unset, .unset, .unset, .unset, .unset] [])) _
    exact X3.returnOut hx Bd.returns (hb hby d27_60) hr
  · show Qsrt Z a1 ka [x0, x1, x2] h0 n0 _ T3.heap _
    rw [e3]
    exact ⟨rfl, N3, kp5, V3q⟩
theorem ef_rms4_3 (m : MethodId) (x0 : Addr) (x1 : Int32) (x2 : Int32) (x3 : Int32) : entryFrame m #[(.ref x0), (.int x1), (.int x2), (.int x3)] 7 = mkF m 0 #[.val (.ref x0), .val (.int x1), .val (.int x2), .val (.int x3), .unset, .unset, .unset] [] := by first | (simp [entryFrame, mkF, argsToLocals, Value.category]; done) | rfl
set_option maxRecDepth 65536 in
set_option maxHeartbeats 40000000 in
theorem rms4_3 (l : Launch) (Z : State) (a0 : Array Value) (hw : ∀ d ∈ tables_1, d.before a0 Z = true) (ws : List Jvm.Cond) (a1 : Addr) (ka : ClassId) (x0 : Int32) (x1 : Int32) (x2 : Int32) (h0 : Heap) (n0 : Nat) (O0 : Old Z n0 h0) (VA : Arv Z h0 a1 ka .int (3 : Int32) [(.int x0), (.int x1), (.int x2)] (.int 0)) (g_a1 : n0 ≤ a1) :
    MetFree l (⟨"java/util/DualPivotQuicksort", "sort", "([IIII)V"⟩ : MethodName) (head1 (Jvm.Cond.code (⟨"java/util/DualPivotQuicksort", "sort", "([IIII)V"⟩ : MethodName) jdk_2529_method_3_code 7 none :: ws) ({ frames := 2, cells := 0, slots := 0, locals := 49 } : Room)) (fun a U => a = #[(.ref a1), (.int 0), (.int 0), (.int 3)] ∧ Z.Warmed39 U.vm ∧ U.heap = h0) (fun _ _ _ _ _ => True) (fun _ U o U' => ∃ v L, o = .returned v ∧ Qsrt Z a1 ka [x0, x1, x2] h0 n0 v U'.heap L ∧ FrameEnd U o U' L ({ frames := 2, cells := 0, slots := 0, locals := 49 } : Room).cells ({ frames := 2, cells := 0, slots := 0, locals := 49 } : Room).slots) := by
  refine MetFree.of_bodySF (plainFor_of_name pn9) hisR ?_
  intro p e s m args below meth c s₁ Bd hml0 hP hK
  obtain ⟨rfl, hZ, hh⟩ := hP
  have hx := Bd.exec
  have hby := Bd.bytes
  have hml : c.maxLocals = 7 := hml0
  have hown : s.vm.findClass "java/util/DualPivotQuicksort" = some m.cls := findClass_of_methodNamed Bd.named
  have hnm := (name_of_methodNamed Bd.named Bd.method).1
  have X0 : Stand p l e ({ frames := 2, cells := 0, slots := 0, locals := 49 } : Room) s m #[(.ref a1), (.int 0), (.int 0), (.int 3)] below meth c s₁ [] 0 0 := Stand.of_body Bd
  have e0 : s₁.heap = h0 := by rw [← hh, Bd.state]; rfl
  have N0 := Fr.nil n0
  have pre0 : ∀ t, Steps p.tables e below (s₁.setTop (mkF m 0 #[.val (.ref a1), .val (.int 0), .val (.int 0), .val (.int 3), .unset, .unset, .unset] [])) t → Steps p.tables e below (s₁.setTop (entryFrame m #[(.ref a1), (.int 0), (.int 0), (.int 3)] 7)) t := fun t k => castTop (ef_rms4_3 m a1 (0 : Int32) (0 : Int32) (3 : Int32)) k
  have pf1 : ∀ target, Steps p.tables e below (s₁.setTop (mkF m 7 #[.val (.ref a1), .val (.int 0), .val (.int 0), .val (.int 3), .val (.int 3), .unset, .unset] [(.int 1), (.int 0)])) target → Steps p.tables e below (s₁.setTop (mkF m 0 #[.val (.ref a1), .val (.int 0), .val (.int 0), .val (.int 3), .unset, .unset, .unset] [])) target := by
    intro target k
    show Steps p.tables e below (s₁.setTop (mkF m 0 #[.val (.ref a1), .val (.int 0), .val (.int 0), .val (.int 3), .unset, .unset, .unset] [])) _
    refine XS.iloadN X0.here hx rfl (hb hby d26_0) rfl ?_
    refine XS.iloadN X0.here hx rfl (hb hby d26_1) rfl ?_
    refine XS.isub X0.here hx rfl (hb hby d26_2) rfl ?_
    show Steps p.tables e below (s₁.setTop (mkF m 3 #[.val (.ref a1), .val (.int 0), .val (.int 0), .val (.int 3), .unset, .unset, .unset] [(.int 3)])) _
    refine XS.istore X0.here hx rfl (hb hby d26_3) rfl (l' := #[.val (.ref a1), .val (.int 0), .val (.int 0), .val (.int 3), .val (.int 3), .unset, .unset]) rfl ?_
    refine XS.iloadN X0.here hx rfl (hb hby d26_5) rfl ?_
    refine XS.iconst X0.here hx rfl (hb hby d26_6) ?_
    exact k
  obtain ⟨_, _, ⟨T2, L2, k2, n2⟩, -, X2, ⟨Lc2, hQ2, l2, y2, z2⟩, st2⟩ := Jvm.LawKit.callS X0 hx (y := (⟨"java/util/DualPivotQuicksort", "sort", "(Ljava/util/DualPivotQuicksort$Sorter;[IIII)V"⟩ : MethodName)) hown (mvT hZ (hw _ (List.mem_of_getElem? (i := 133) rfl))) (mvT hZ (hw _ (List.mem_of_getElem? (i := 134) rfl))) (mvT hZ (hw _ (List.mem_of_getElem? (i := 131) rfl))) (mvT hZ (hw _ (List.mem_of_getElem? (i := 135) rfl))) (by decide) (backOf (W := 0) (rms5_3 l Z a0 hw [] a1 ka x0 x1 x2 h0 n0 O0 VA g_a1) hZ (hw _ (List.mem_of_getElem? (i := 135) rfl)) (hw _ (List.mem_of_getElem? (i := 131) rfl)) (by decide) (by decide)) (g := (mkF m 73 #[.val (.ref a1), .val (.int 0), .val (.int 0), .val (.int 3), .val (.int 3), .unset, .unset] [(.int 3), (.int 0), (.int 0), (.ref a1), .null])) rfl (by rw [hml]; rfl) (argsL := [.null, (.ref a1), (.int 0), (.int 0), (.int 3)]) (rest := []) (lenOf pd14 rfl) rfl (by show 2 * 0 + _ ≤ _; exact Nat.le_of_eq rfl) (hb hby d26_73) (fun _ _ => ⟨rfl, e0, (by decide : 0 + 0 ≤ _), (by decide : 0 + 0 ≤ _)⟩)
  dsimp only [Pt.U, Pt.locs, Pt.cells, Pt.slots] at X2 l2 y2 z2 st2 hQ2
  subst l2 y2 z2
  obtain ⟨h2, e2⟩ : ∃ z, T2.heap = z := ⟨_, rfl⟩
  rw [e2] at hQ2
  obtain ⟨rfl, Nq2, K2, V2q⟩ := hQ2
  have N2 := Fr.app N0 Nq2
  have O3 := O0.keep K2 (allS g_a1 all0)
  have kp4 : Keep h0 h2 [a1] := (Keep.refl h0 [a1]).trans K2 (allS (Or.inl (List.mem_of_getElem? (i := 0) rfl)) all0)
  obtain ⟨fs, hr, hrun, hended, hW, hsame⟩ := X2.leave (v := none) (fun _ => rfl)
  refine ⟨_, _, pre0 _ ?_, hrun, hended, _, _, rfl, ?_, ⟨_, rfl⟩, hW, hsame.mono (by decide) (by decide)⟩
  · refine pf1 _ ?_
    show Steps p.tables e below (s₁.setTop (mkF m 7 #[.val (.ref a1), .val (.int 0), .val (.int 0), .val (.int 3), .val (.int 3), .unset, .unset] [(.int 1), (.int 0)])) _
    refine XS.icmpYes X0.here hx rfl (pc0 := 7) (pc' := 68) rfl (hb hby d26_7) rfl (flt (by decide)).2.2.2 (by decide) (by decide) ?_
    refine XS.aconstNull X0.here hx rfl (hb hby d26_68) ?_
    refine XS.aloadN X0.here hx rfl (hb hby d26_69) rfl rfl ?_
    refine XS.iconst X0.here hx rfl (hb hby d26_70) ?_
    refine XS.iloadN X0.here hx rfl (hb hby d26_71) rfl ?_
    refine XS.iloadN X0.here hx rfl (hb hby d26_72) rfl ?_
    show Steps p.tables e below (s₁.setTop (mkF m 73 #[.val (.ref a1), .val (.int 0), .val (.int 0), .val (.int 3), .val (.int 3), .unset, .unset] [(.int 3), (.int 0), (.int 0), (.ref a1), .null])) _
    refine st2 _ ?_
    show Steps p.tables e below (T2.setTop (mkF m 76 #[.val (.ref a1), .val (.int 0), .val (.int 0), .val (.int 3), .val (.int 3), .unset, .unset] [])) _
    exact X2.returnOut hx Bd.returns (hb hby d26_76) hr
  · show Qsrt Z a1 ka [x0, x1, x2] h0 n0 _ T2.heap _
    rw [e2]
    exact ⟨rfl, N2, kp4, V2q⟩
theorem ef_rmsr3 (m : MethodId) (x0 : Addr) : entryFrame m #[(.ref x0)] 1 = mkF m 0 #[.val (.ref x0)] [] := by first | (simp [entryFrame, mkF, argsToLocals, Value.category]; done) | rfl
set_option maxRecDepth 65536 in
set_option maxHeartbeats 40000000 in
theorem rmsr3 (l : Launch) (Z : State) (a0 : Array Value) (hw : ∀ d ∈ tables_1, d.before a0 Z = true) (ws : List Jvm.Cond) (a1 : Addr) (ka : ClassId) (x0 : Int32) (x1 : Int32) (x2 : Int32) (h0 : Heap) (n0 : Nat) (O0 : Old Z n0 h0) (VA : Arv Z h0 a1 ka .int (3 : Int32) [(.int x0), (.int x1), (.int x2)] (.int 0)) (g_a1 : n0 ≤ a1) :
    MetFree l (⟨"java/util/Arrays", "sort", "([I)V"⟩ : MethodName) (head1 (Jvm.Cond.code (⟨"java/util/Arrays", "sort", "([I)V"⟩ : MethodName) jdk_65_method_2_code 1 none :: ws) ({ frames := 3, cells := 0, slots := 0, locals := 67 } : Room)) (fun a U => a = #[(.ref a1)] ∧ Z.Warmed39 U.vm ∧ U.heap = h0) (fun _ _ _ _ _ => True) (fun _ U o U' => ∃ v L, o = .returned v ∧ Qsrt Z a1 ka [x0, x1, x2] h0 n0 v U'.heap L ∧ FrameEnd U o U' L ({ frames := 3, cells := 0, slots := 0, locals := 67 } : Room).cells ({ frames := 3, cells := 0, slots := 0, locals := 67 } : Room).slots) := by
  refine MetFree.of_bodySF (plainFor_of_name pn5) hisR ?_
  intro p e s m args below meth c s₁ Bd hml0 hP hK
  obtain ⟨rfl, hZ, hh⟩ := hP
  have hx := Bd.exec
  have hby := Bd.bytes
  have hml : c.maxLocals = 1 := hml0
  have hown : s.vm.findClass "java/util/Arrays" = some m.cls := findClass_of_methodNamed Bd.named
  have hnm := (name_of_methodNamed Bd.named Bd.method).1
  have X0 : Stand p l e ({ frames := 3, cells := 0, slots := 0, locals := 67 } : Room) s m #[(.ref a1)] below meth c s₁ [] 0 0 := Stand.of_body Bd
  have e0 : s₁.heap = h0 := by rw [← hh, Bd.state]; rfl
  have N0 := Fr.nil n0
  have pre0 : ∀ t, Steps p.tables e below (s₁.setTop (mkF m 0 #[.val (.ref a1)] [])) t → Steps p.tables e below (s₁.setTop (entryFrame m #[(.ref a1)] 1)) t := fun t k => castTop (ef_rmsr3 m a1) k
  obtain ⟨cl1, Ar1, q1, Sz1, Nn1, Ha1, Gf1⟩ := id VA
  obtain ⟨_, _, ⟨T2, L2, k2, n2⟩, -, X2, ⟨Lc2, hQ2, l2, y2, z2⟩, st2⟩ := Jvm.LawKit.callS X0 hx (y := (⟨"java/util/DualPivotQuicksort", "sort", "([IIII)V"⟩ : MethodName)) hown (mvT hZ (hw _ (List.mem_of_getElem? (i := 129) rfl))) (mvT hZ (hw _ (List.mem_of_getElem? (i := 130) rfl))) (mvT hZ (hw _ (List.mem_of_getElem? (i := 131) rfl))) (mvT hZ (hw _ (List.mem_of_getElem? (i := 132) rfl))) (by decide) (backOf (W := 0) (rms4_3 l Z a0 hw [] a1 ka x0 x1 x2 h0 n0 O0 VA g_a1) hZ (hw _ (List.mem_of_getElem? (i := 132) rfl)) (hw _ (List.mem_of_getElem? (i := 131) rfl)) (by decide) (by decide)) (g := (mkF m 5 #[.val (.ref a1)] [(.int 3), (.int 0), (.int 0), (.ref a1)])) rfl (by rw [hml]; rfl) (argsL := [(.ref a1), (.int 0), (.int 0), (.int 3)]) (rest := []) (lenOf pd15 rfl) rfl (by show 2 * 0 + _ ≤ _; exact Nat.le_of_eq rfl) (hb hby d25_5) (fun _ _ => ⟨rfl, e0, (by decide : 0 + 0 ≤ _), (by decide : 0 + 0 ≤ _)⟩)
  dsimp only [Pt.U, Pt.locs, Pt.cells, Pt.slots] at X2 l2 y2 z2 st2 hQ2
  subst l2 y2 z2
  obtain ⟨h2, e2⟩ : ∃ z, T2.heap = z := ⟨_, rfl⟩
  rw [e2] at hQ2
  obtain ⟨rfl, Nq2, K2, V2q⟩ := hQ2
  have N2 := Fr.app N0 Nq2
  have O3 := O0.keep K2 (allS g_a1 all0)
  have kp4 : Keep h0 h2 [a1] := (Keep.refl h0 [a1]).trans K2 (allS (Or.inl (List.mem_of_getElem? (i := 0) rfl)) all0)
  obtain ⟨fs, hr, hrun, hended, hW, hsame⟩ := X2.leave (v := none) (fun _ => rfl)
  refine ⟨_, _, pre0 _ ?_, hrun, hended, _, _, rfl, ?_, ⟨_, rfl⟩, hW, hsame.mono (by decide) (by decide)⟩
  · show Steps p.tables e below (s₁.setTop (mkF m 0 #[.val (.ref a1)] [])) _
    refine XS.aloadN X0.here hx rfl (hb hby d25_0) rfl rfl ?_
    refine XS.iconst X0.here hx rfl (hb hby d25_1) ?_
    refine XS.iconst X0.here hx rfl (hb hby d25_2) ?_
    refine XS.aloadN X0.here hx rfl (hb hby d25_3) rfl rfl ?_
    show Steps p.tables e below (s₁.setTop (mkF m 4 #[.val (.ref a1)] [(.ref a1), (.int 0), (.int 0), (.ref a1)])) _
    refine X0.arraylength hx (by rw [e0]; exact Ar1.1) (State.isArrayOf_alike hZ.alike Ar1.2.1) (g := (mkF m 4 #[.val (.ref a1)] [(.ref a1), (.int 0), (.int 0), (.ref a1)])) rfl rfl (hb hby d25_4) _ ?_
    rw [len_of Sz1 Nn1]
    show Steps p.tables e below (s₁.setTop (mkF m 5 #[.val (.ref a1)] [(.int 3), (.int 0), (.int 0), (.ref a1)])) _
    refine st2 _ ?_
    show Steps p.tables e below (T2.setTop (mkF m 8 #[.val (.ref a1)] [])) _
    exact X2.returnOut hx Bd.returns (hb hby d25_8) hr
  · show Qsrt Z a1 ka [x0, x1, x2] h0 n0 _ T2.heap _
    rw [e2]
    exact ⟨rfl, N2, kp4, V2q⟩
set_option maxHeartbeats 40000000 in
theorem rmsr (l : Launch) (Z : State) (a0 : Array Value) (hw : ∀ d ∈ tables_1, d.before a0 Z = true) (ws : List Jvm.Cond) (a1 : Addr) (ka : ClassId) (xs : List Int32) (h0 : Heap) (n0 : Nat) (O0 : Old Z n0 h0) (VA : Arv Z h0 a1 ka .int (Int32.ofNat xs.length) (xs.map Value.int) (.int 0)) (g_a1 : n0 ≤ a1) (h1 : 1 ≤ xs.length) (h3 : xs.length ≤ 3) :
    MetFree l (⟨"java/util/Arrays", "sort", "([I)V"⟩ : MethodName) (head1 (Jvm.Cond.code (⟨"java/util/Arrays", "sort", "([I)V"⟩ : MethodName) jdk_65_method_2_code 1 none :: ws) ({ frames := 3, cells := 0, slots := 0, locals := 67 } : Room)) (fun a U => a = #[(.ref a1)] ∧ Z.Warmed39 U.vm ∧ U.heap = h0) (fun _ _ _ _ _ => True) (fun _ U o U' => ∃ v L, o = .returned v ∧ Qsrt Z a1 ka xs h0 n0 v U'.heap L ∧ FrameEnd U o U' L ({ frames := 3, cells := 0, slots := 0, locals := 67 } : Room).cells ({ frames := 3, cells := 0, slots := 0, locals := 67 } : Room).slots) := by
  rcases xs with _ | ⟨x, _ | ⟨y, _ | ⟨z, _ | ⟨w, t⟩⟩⟩⟩
  · exact absurd h1 (by decide)
  · exact rmsr1 l Z a0 hw ws a1 ka x h0 n0 O0 VA g_a1
  · exact rmsr2 l Z a0 hw ws a1 ka x y h0 n0 O0 VA g_a1
  · exact rmsr3 l Z a0 hw ws a1 ka x y z h0 n0 O0 VA g_a1
  · exact absurd h3 (by simp only [List.length_cons]; omega)
theorem d21_35 : decode prog_105_method_6_code 35 = .ok (.iload 4, 2) := by decide +kernel
theorem d21_37 : decode prog_105_method_6_code 37 = .ok (.aload_n 0, 1) := by decide +kernel
theorem d21_38 : decode prog_105_method_6_code 38 = .ok (.getfield 24, 3) := by decide +kernel
theorem d21_41 : decode prog_105_method_6_code 41 = .ok (.if_icmp .lt 10, 3) := by decide +kernel
theorem d21_51 : decode prog_105_method_6_code 51 = .ok (.iload 5, 2) := by decide +kernel
theorem d21_53 : decode prog_105_method_6_code 53 = .ok (.aload_n 1, 1) := by decide +kernel
theorem d21_54 : decode prog_105_method_6_code 54 = .ok (.arraylength, 1) := by decide +kernel
theorem d21_55 : decode prog_105_method_6_code 55 = .ok (.if_icmp .eq 26, 3) := by decide +kernel
theorem d21_81 : decode prog_105_method_6_code 81 = .ok (.aload_n 0, 1) := by decide +kernel
theorem d21_82 : decode prog_105_method_6_code 82 = .ok (.getfield 16, 3) := by decide +kernel
theorem d21_85 : decode prog_105_method_6_code 85 = .ok (.iload 4, 2) := by decide +kernel
theorem d21_87 : decode prog_105_method_6_code 87 = .ok (.iinc 4 1, 3) := by decide +kernel
theorem d21_90 : decode prog_105_method_6_code 90 = .ok (.iaload, 1) := by decide +kernel
theorem d21_91 : decode prog_105_method_6_code 91 = .ok (.istore 6, 2) := by decide +kernel
theorem d21_93 : decode prog_105_method_6_code 93 = .ok (.goto 12, 3) := by decide +kernel
theorem d21_58 : decode prog_105_method_6_code 58 = .ok (.iload 4, 2) := by decide +kernel
theorem d21_60 : decode prog_105_method_6_code 60 = .ok (.aload_n 0, 1) := by decide +kernel
theorem d21_61 : decode prog_105_method_6_code 61 = .ok (.getfield 24, 3) := by decide +kernel
theorem d21_64 : decode prog_105_method_6_code 64 = .ok (.if_icmp .ge 32, 3) := by decide +kernel
theorem d21_67 : decode prog_105_method_6_code 67 = .ok (.aload_n 0, 1) := by decide +kernel
theorem d21_68 : decode prog_105_method_6_code 68 = .ok (.getfield 16, 3) := by decide +kernel
theorem d21_71 : decode prog_105_method_6_code 71 = .ok (.iload 4, 2) := by decide +kernel
theorem d21_73 : decode prog_105_method_6_code 73 = .ok (.iaload, 1) := by decide +kernel
theorem d21_74 : decode prog_105_method_6_code 74 = .ok (.aload_n 1, 1) := by decide +kernel
theorem d21_75 : decode prog_105_method_6_code 75 = .ok (.iload 5, 2) := by decide +kernel
theorem d21_77 : decode prog_105_method_6_code 77 = .ok (.iaload, 1) := by decide +kernel
theorem d21_78 : decode prog_105_method_6_code 78 = .ok (.if_icmp .gt 18, 3) := by decide +kernel
theorem d21_96 : decode prog_105_method_6_code 96 = .ok (.aload_n 1, 1) := by decide +kernel
theorem d21_97 : decode prog_105_method_6_code 97 = .ok (.iload 5, 2) := by decide +kernel
theorem d21_99 : decode prog_105_method_6_code 99 = .ok (.iinc 5 1, 3) := by decide +kernel
theorem d21_102 : decode prog_105_method_6_code 102 = .ok (.iaload, 1) := by decide +kernel
theorem d21_103 : decode prog_105_method_6_code 103 = .ok (.istore 6, 2) := by decide +kernel
theorem d21_44 : decode prog_105_method_6_code 44 = .ok (.iload 5, 2) := by decide +kernel
theorem d21_46 : decode prog_105_method_6_code 46 = .ok (.aload_n 1, 1) := by decide +kernel
theorem d21_47 : decode prog_105_method_6_code 47 = .ok (.arraylength, 1) := by decide +kernel
theorem d21_48 : decode prog_105_method_6_code 48 = .ok (.if_icmp .ge 83, 3) := by decide +kernel
set_option maxRecDepth 65536 in
set_option maxHeartbeats 40000000 in
theorem pcA {p : Program} {l : Launch} {e : Env} {R : Room} {s : State} {m : MethodId} {args : Array Value} {below : List Frame} {meth : Method} {c : Code} {T0 : State} {locs : List Loc} {cells slots : Nat} {Z : State} {a0 : Array Value} {n0 : Nat} {h0 : Heap} (hw : ∀ d ∈ tables_1, d.before a0 Z = true) (X0 : Stand p l e R s m args below meth c T0 locs cells slots) (hx : p.tables.exec = Jvm.exec) (hby : c.code = prog_105_method_6_code) (hZ : Z.Warmed39 s.vm) (hown : s.vm.findClass "com/example/rivet_context/rivetcontext/factory/TypeListing" = some m.cls) (e0 : T0.heap = h0) (N0 : Fr n0 locs) (O0 : Old Z n0 h0) (a1 : Addr) (ya : Addr) (da : Addr) (P : Addr) (kP : ClassId) (ky : ClassId) (vs : List Int32) (ys : List Int32) (on : Nat) (iN : Nat) (jN : Nat) (kN : Nat) (s6 : Slot) (F_o : Fld Z h0 a1 "com/example/rivet_context/rivetcontext/factory/TypeListing" "ordered" "I" (.int (Int32.ofNat on))) (F_p : Fld Z h0 a1 "com/example/rivet_context/rivetcontext/factory/TypeListing" "places" "[I" (.ref P)) (VP : Arv Z h0 P kP .int (Int32.ofNat vs.length) (vs.map Value.int) (.int 0)) (VY : Arv Z h0 ya ky .int (Int32.ofNat ys.length) (ys.map Value.int) (.int 0)) (hv : vs.length ≤ 8) (hy : ys.length ≤ 8) (hon : on ≤ vs.length) (hi : iN ≤ on) (hj : jN ≤ ys.length) (hs6 : One s6) (hij : iN < on ∨ jN < ys.length) :
    ∃ T', Stand p l e R s m args below meth c T' locs cells slots ∧ T'.heap = h0 ∧ ∀ target, Steps p.tables e below (T'.setTop (mkF m 105 #[.val (.ref a1), .val (.ref ya), .val (.ref da), .val (.int (Int32.ofNat kN)), .val (.int (Int32.ofNat (chF vs ys on iN jN).1)), .val (.int (Int32.ofNat (chF vs ys on iN jN).2.1)), .val (.int (chF vs ys on iN jN).2.2)] [])) target → Steps p.tables e below (T0.setTop (mkF m 35 #[.val (.ref a1), .val (.ref ya), .val (.ref da), .val (.int (Int32.ofNat kN)), .val (.int (Int32.ofNat iN)), .val (.int (Int32.ofNat jN)), s6] [])) target := by
  have hNP : (Int32.ofNat vs.length).toNatClampNeg = vs.length := own_n hv
  have hNY : (Int32.ofNat ys.length).toNatClampNeg = ys.length := own_n hy
  obtain ⟨T1, X1, e1, st1⟩ := getF X0 hx hZ hown (host := "") (Or.inl (hw _ (List.mem_of_getElem? (i := 58) rfl))) Via.refl e0 F_o (g := (mkF m 38 #[.val (.ref a1), .val (.ref ya), .val (.ref da), .val (.int (Int32.ofNat kN)), .val (.int (Int32.ofNat iN)), .val (.int (Int32.ofNat jN)), s6] [(.ref a1), (.int (Int32.ofNat iN))])) rfl rfl (hb hby d21_38)
  by_cases hc41 : (Int32.ofNat iN) < (Int32.ofNat on)
  · have ni : iN < on := (own_lt (by omega) (by omega)).mp hc41
    obtain ⟨cl2, Ar2, q2, Sz2, Nn2, Ha2, Gf2⟩ := id VY
    have pf3 : ∀ target, Steps p.tables e below (T1.setTop (mkF m 55 #[.val (.ref a1), .val (.ref ya), .val (.ref da), .val (.int (Int32.ofNat kN)), .val (.int (Int32.ofNat iN)), .val (.int (Int32.ofNat jN)), s6] [(.int (Int32.ofNat ys.length)), (.int (Int32.ofNat jN))])) target → Steps p.tables e below (T0.setTop (mkF m 35 #[.val (.ref a1), .val (.ref ya), .val (.ref da), .val (.int (Int32.ofNat kN)), .val (.int (Int32.ofNat iN)), .val (.int (Int32.ofNat jN)), s6] [])) target := by
      intro target k
      show Steps p.tables e below (T0.setTop (mkF m 35 #[.val (.ref a1), .val (.ref ya), .val (.ref da), .val (.int (Int32.ofNat kN)), .val (.int (Int32.ofNat iN)), .val (.int (Int32.ofNat jN)), s6] [])) _
      refine XS.iload X0.here hx rfl (hb hby d21_35) rfl ?_
      refine XS.aloadN X0.here hx rfl (hb hby d21_37) rfl rfl ?_
      show Steps p.tables e below (T0.setTop (mkF m 38 #[.val (.ref a1), .val (.ref ya), .val (.ref da), .val (.int (Int32.ofNat kN)), .val (.int (Int32.ofNat iN)), .val (.int (Int32.ofNat jN)), s6] [(.ref a1), (.int (Int32.ofNat iN))])) _
      refine st1 _ ?_
      show Steps p.tables e below (T1.setTop (mkF m 41 #[.val (.ref a1), .val (.ref ya), .val (.ref da), .val (.int (Int32.ofNat kN)), .val (.int (Int32.ofNat iN)), .val (.int (Int32.ofNat jN)), s6] [(.int (Int32.ofNat on)), (.int (Int32.ofNat iN))])) _
      refine XS.icmpYes X1.here hx rfl (pc0 := 41) (pc' := 51) rfl (hb hby d21_41) rfl (tlt hc41).1 (by decide) (by decide) ?_
      refine XS.iload X1.here hx rfl (hb hby d21_51) rfl ?_
      refine XS.aloadN X1.here hx rfl (hb hby d21_53) rfl rfl ?_
      show Steps p.tables e below (T1.setTop (mkF m 54 #[.val (.ref a1), .val (.ref ya), .val (.ref da), .val (.int (Int32.ofNat kN)), .val (.int (Int32.ofNat iN)), .val (.int (Int32.ofNat jN)), s6] [(.ref ya), (.int (Int32.ofNat jN))])) _
      refine X1.arraylength hx (by rw [e1]; exact Ar2.1) (State.isArrayOf_alike hZ.alike Ar2.2.1) (g := (mkF m 54 #[.val (.ref a1), .val (.ref ya), .val (.ref da), .val (.int (Int32.ofNat kN)), .val (.int (Int32.ofNat iN)), .val (.int (Int32.ofNat jN)), s6] [(.ref ya), (.int (Int32.ofNat jN))])) rfl rfl (hb hby d21_54) _ ?_
      rw [len_of Sz2 Nn2]
      exact k
    by_cases hc55 : (Int32.ofNat jN) = (Int32.ofNat ys.length)
    · obtain ⟨T4, X4, e4, st4⟩ := getF X1 hx hZ hown (host := "") (Or.inl (hw _ (List.mem_of_getElem? (i := 54) rfl))) Via.refl e1 F_p (g := (mkF m 82 #[.val (.ref a1), .val (.ref ya), .val (.ref da), .val (.int (Int32.ofNat kN)), .val (.int (Int32.ofNat iN)), .val (.int (Int32.ofNat jN)), s6] [(.ref a1)])) rfl rfl (hb hby d21_82)
      obtain ⟨cl5, Ar5, hin5, hat5⟩ := own_at (j := (Int32.ofNat iN)) (i := iN) VP hNP (own_nn (by omega)) (own_n (by omega)) (by omega)
      have hch : chF vs ys on iN jN = (iN + 1, jN, vs.getD iN 0) := if_pos (Or.inl ((own_eq (by omega) (by omega)).mp hc55))
      rw [hch]
      refine ⟨T4, X4, e4, ?_⟩
      intro target k
      refine pf3 _ ?_
      show Steps p.tables e below (T1.setTop (mkF m 55 #[.val (.ref a1), .val (.ref ya), .val (.ref da), .val (.int (Int32.ofNat kN)), .val (.int (Int32.ofNat iN)), .val (.int (Int32.ofNat jN)), s6] [(.int (Int32.ofNat ys.length)), (.int (Int32.ofNat jN))])) _
      refine XS.icmpYes X1.here hx rfl (pc0 := 55) (pc' := 81) rfl (hb hby d21_55) rfl (teq hc55).1 (by decide) (by decide) ?_
      refine XS.aloadN X1.here hx rfl (hb hby d21_81) rfl rfl ?_
      show Steps p.tables e below (T1.setTop (mkF m 82 #[.val (.ref a1), .val (.ref ya), .val (.ref da), .val (.int (Int32.ofNat kN)), .val (.int (Int32.ofNat iN)), .val (.int (Int32.ofNat jN)), s6] [(.ref a1)])) _
      refine st4 _ ?_
      show Steps p.tables e below (T4.setTop (mkF m 85 #[.val (.ref a1), .val (.ref ya), .val (.ref da), .val (.int (Int32.ofNat kN)), .val (.int (Int32.ofNat iN)), .val (.int (Int32.ofNat jN)), s6] [(.ref P)])) _
      refine XS.iload X4.here hx rfl (hb hby d21_85) rfl ?_
      refine XS.iinc X4.here hx rfl (hb hby d21_87) rfl (l' := #[.val (.ref a1), .val (.ref ya), .val (.ref da), .val (.int (Int32.ofNat kN)), .val (.int ((Int32.ofNat iN) + (1 : Int32))), .val (.int (Int32.ofNat jN)), s6]) rfl ?_
      show Steps p.tables e below (T4.setTop (mkF m 90 #[.val (.ref a1), .val (.ref ya), .val (.ref da), .val (.int (Int32.ofNat kN)), .val (.int ((Int32.ofNat iN) + (1 : Int32))), .val (.int (Int32.ofNat jN)), s6] [(.int (Int32.ofNat iN)), (.ref P)])) _
      refine X4.iaload hx (j := (Int32.ofNat iN)) (v := (.int (vs.getD iN 0))) (by rw [e4]; exact Ar5.1) (State.isArrayOf_alike hZ.alike Ar5.2.1) Ar5.2.2 hin5 hat5 (g := (mkF m 90 #[.val (.ref a1), .val (.ref ya), .val (.ref da), .val (.int (Int32.ofNat kN)), .val (.int ((Int32.ofNat iN) + (1 : Int32))), .val (.int (Int32.ofNat jN)), s6] [(.int (Int32.ofNat iN)), (.ref P)])) rfl rfl (hb hby d21_90) _ ?_
      show Steps p.tables e below (T4.setTop (mkF m 91 #[.val (.ref a1), .val (.ref ya), .val (.ref da), .val (.int (Int32.ofNat kN)), .val (.int ((Int32.ofNat iN) + (1 : Int32))), .val (.int (Int32.ofNat jN)), s6] [(.int (vs.getD iN 0))])) _
      refine XS.istoreS X4.here hx rfl (hb hby d21_91) rfl rfl hs6 ?_
      show Steps p.tables e below (T4.setTop (mkF m 93 #[.val (.ref a1), .val (.ref ya), .val (.ref da), .val (.int (Int32.ofNat kN)), .val (.int ((Int32.ofNat iN) + (1 : Int32))), .val (.int (Int32.ofNat jN)), .val (.int (vs.getD iN 0))] [])) _
      refine XS.goto X4.here hx rfl (pc0 := 93) (pc' := 105) rfl (hb hby d21_93) (by decide) (by decide) ?_
      show Steps p.tables e below (T4.setTop (mkF m 105 #[.val (.ref a1), .val (.ref ya), .val (.ref da), .val (.int (Int32.ofNat kN)), .val (.int ((Int32.ofNat iN) + (1 : Int32))), .val (.int (Int32.ofNat jN)), .val (.int (vs.getD iN 0))] [])) _
      rw [own_add1]
      exact k
    · have nj : jN < ys.length := by have q : ¬ jN = ys.length := fun q => hc55 (by rw [q]); omega
      obtain ⟨T6, X6, e6, st6⟩ := getF X1 hx hZ hown (host := "") (Or.inl (hw _ (List.mem_of_getElem? (i := 58) rfl))) Via.refl e1 F_o (g := (mkF m 61 #[.val (.ref a1), .val (.ref ya), .val (.ref da), .val (.int (Int32.ofNat kN)), .val (.int (Int32.ofNat iN)), .val (.int (Int32.ofNat jN)), s6] [(.ref a1), (.int (Int32.ofNat iN))])) rfl rfl (hb hby d21_61)
      obtain ⟨T7, X7, e7, st7⟩ := getF X6 hx hZ hown (host := "") (Or.inl (hw _ (List.mem_of_getElem? (i := 54) rfl))) Via.refl e6 F_p (g := (mkF m 68 #[.val (.ref a1), .val (.ref ya), .val (.ref da), .val (.int (Int32.ofNat kN)), .val (.int (Int32.ofNat iN)), .val (.int (Int32.ofNat jN)), s6] [(.ref a1)])) rfl rfl (hb hby d21_68)
      obtain ⟨cl8, Ar8, hin8, hat8⟩ := own_at (j := (Int32.ofNat iN)) (i := iN) VP hNP (own_nn (by omega)) (own_n (by omega)) (by omega)
      obtain ⟨cl9, Ar9, hin9, hat9⟩ := own_at (j := (Int32.ofNat jN)) (i := jN) VY hNY (own_nn (by omega)) (own_n (by omega)) nj
      have pf10 : ∀ target, Steps p.tables e below (T7.setTop (mkF m 78 #[.val (.ref a1), .val (.ref ya), .val (.ref da), .val (.int (Int32.ofNat kN)), .val (.int (Int32.ofNat iN)), .val (.int (Int32.ofNat jN)), s6] [(.int (ys.getD jN 0)), (.int (vs.getD iN 0))])) target → Steps p.tables e below (T1.setTop (mkF m 55 #[.val (.ref a1), .val (.ref ya), .val (.ref da), .val (.int (Int32.ofNat kN)), .val (.int (Int32.ofNat iN)), .val (.int (Int32.ofNat jN)), s6] [(.int (Int32.ofNat ys.length)), (.int (Int32.ofNat jN))])) target := by
        intro target k
        show Steps p.tables e below (T1.setTop (mkF m 55 #[.val (.ref a1), .val (.ref ya), .val (.ref da), .val (.int (Int32.ofNat kN)), .val (.int (Int32.ofNat iN)), .val (.int (Int32.ofNat jN)), s6] [(.int (Int32.ofNat ys.length)), (.int (Int32.ofNat jN))])) _
        refine XS.icmpNo X1.here hx rfl (hb hby d21_55) rfl (feq hc55).1 ?_
        refine XS.iload X1.here hx rfl (hb hby d21_58) rfl ?_
        refine XS.aloadN X1.here hx rfl (hb hby d21_60) rfl rfl ?_
        show Steps p.tables e below (T1.setTop (mkF m 61 #[.val (.ref a1), .val (.ref ya), .val (.ref da), .val (.int (Int32.ofNat kN)), .val (.int (Int32.ofNat iN)), .val (.int (Int32.ofNat jN)), s6] [(.ref a1), (.int (Int32.ofNat iN))])) _
        refine st6 _ ?_
        show Steps p.tables e below (T6.setTop (mkF m 64 #[.val (.ref a1), .val (.ref ya), .val (.ref da), .val (.int (Int32.ofNat kN)), .val (.int (Int32.ofNat iN)), .val (.int (Int32.ofNat jN)), s6] [(.int (Int32.ofNat on)), (.int (Int32.ofNat iN))])) _
        refine XS.icmpNo X6.here hx rfl (hb hby d21_64) rfl (tlt hc41).2.1 ?_
        refine XS.aloadN X6.here hx rfl (hb hby d21_67) rfl rfl ?_
        show Steps p.tables e below (T6.setTop (mkF m 68 #[.val (.ref a1), .val (.ref ya), .val (.ref da), .val (.int (Int32.ofNat kN)), .val (.int (Int32.ofNat iN)), .val (.int (Int32.ofNat jN)), s6] [(.ref a1)])) _
        refine st7 _ ?_
        show Steps p.tables e below (T7.setTop (mkF m 71 #[.val (.ref a1), .val (.ref ya), .val (.ref da), .val (.int (Int32.ofNat kN)), .val (.int (Int32.ofNat iN)), .val (.int (Int32.ofNat jN)), s6] [(.ref P)])) _
        refine XS.iload X7.here hx rfl (hb hby d21_71) rfl ?_
        show Steps p.tables e below (T7.setTop (mkF m 73 #[.val (.ref a1), .val (.ref ya), .val (.ref da), .val (.int (Int32.ofNat kN)), .val (.int (Int32.ofNat iN)), .val (.int (Int32.ofNat jN)), s6] [(.int (Int32.ofNat iN)), (.ref P)])) _
        refine X7.iaload hx (j := (Int32.ofNat iN)) (v := (.int (vs.getD iN 0))) (by rw [e7]; exact Ar8.1) (State.isArrayOf_alike hZ.alike Ar8.2.1) Ar8.2.2 hin8 hat8 (g := (mkF m 73 #[.val (.ref a1), .val (.ref ya), .val (.ref da), .val (.int (Int32.ofNat kN)), .val (.int (Int32.ofNat iN)), .val (.int (Int32.ofNat jN)), s6] [(.int (Int32.ofNat iN)), (.ref P)])) rfl rfl (hb hby d21_73) _ ?_
        show Steps p.tables e below (T7.setTop (mkF m 74 #[.val (.ref a1), .val (.ref ya), .val (.ref da), .val (.int (Int32.ofNat kN)), .val (.int (Int32.ofNat iN)), .val (.int (Int32.ofNat jN)), s6] [(.int (vs.getD iN 0))])) _
        refine XS.aloadN X7.here hx rfl (hb hby d21_74) rfl rfl ?_
        refine XS.iload X7.here hx rfl (hb hby d21_75) rfl ?_
        show Steps p.tables e below (T7.setTop (mkF m 77 #[.val (.ref a1), .val (.ref ya), .val (.ref da), .val (.int (Int32.ofNat kN)), .val (.int (Int32.ofNat iN)), .val (.int (Int32.ofNat jN)), s6] [(.int (Int32.ofNat jN)), (.ref ya), (.int (vs.getD iN 0))])) _
        refine X7.iaload hx (j := (Int32.ofNat jN)) (v := (.int (ys.getD jN 0))) (by rw [e7]; exact Ar9.1) (State.isArrayOf_alike hZ.alike Ar9.2.1) Ar9.2.2 hin9 hat9 (g := (mkF m 77 #[.val (.ref a1), .val (.ref ya), .val (.ref da), .val (.int (Int32.ofNat kN)), .val (.int (Int32.ofNat iN)), .val (.int (Int32.ofNat jN)), s6] [(.int (Int32.ofNat jN)), (.ref ya), (.int (vs.getD iN 0))])) rfl rfl (hb hby d21_77) _ ?_
        exact k
      by_cases hc78 : (ys.getD jN 0) < (vs.getD iN 0)
      · obtain ⟨cl11, Ar11, hin11, hat11⟩ := own_at (j := (Int32.ofNat jN)) (i := jN) VY hNY (own_nn (by omega)) (own_n (by omega)) nj
        have hch : chF vs ys on iN jN = (iN, jN + 1, ys.getD jN 0) := if_neg (by rintro (q | q); omega; exact q.2 hc78)
        rw [hch]
        refine ⟨T7, X7, e7, ?_⟩
        intro target k
        refine pf3 _ ?_
        refine pf10 _ ?_
        show Steps p.tables e below (T7.setTop (mkF m 78 #[.val (.ref a1), .val (.ref ya), .val (.ref da), .val (.int (Int32.ofNat kN)), .val (.int (Int32.ofNat iN)), .val (.int (Int32.ofNat jN)), s6] [(.int (ys.getD jN 0)), (.int (vs.getD iN 0))])) _
        refine XS.icmpYes X7.here hx rfl (pc0 := 78) (pc' := 96) rfl (hb hby d21_78) rfl (tlt hc78).2.2.1 (by decide) (by decide) ?_
        refine XS.aloadN X7.here hx rfl (hb hby d21_96) rfl rfl ?_
        refine XS.iload X7.here hx rfl (hb hby d21_97) rfl ?_
        refine XS.iinc X7.here hx rfl (hb hby d21_99) rfl (l' := #[.val (.ref a1), .val (.ref ya), .val (.ref da), .val (.int (Int32.ofNat kN)), .val (.int (Int32.ofNat iN)), .val (.int ((Int32.ofNat jN) + (1 : Int32))), s6]) rfl ?_
        show Steps p.tables e below (T7.setTop (mkF m 102 #[.val (.ref a1), .val (.ref ya), .val (.ref da), .val (.int (Int32.ofNat kN)), .val (.int (Int32.ofNat iN)), .val (.int ((Int32.ofNat jN) + (1 : Int32))), s6] [(.int (Int32.ofNat jN)), (.ref ya)])) _
        refine X7.iaload hx (j := (Int32.ofNat jN)) (v := (.int (ys.getD jN 0))) (by rw [e7]; exact Ar11.1) (State.isArrayOf_alike hZ.alike Ar11.2.1) Ar11.2.2 hin11 hat11 (g := (mkF m 102 #[.val (.ref a1), .val (.ref ya), .val (.ref da), .val (.int (Int32.ofNat kN)), .val (.int (Int32.ofNat iN)), .val (.int ((Int32.ofNat jN) + (1 : Int32))), s6] [(.int (Int32.ofNat jN)), (.ref ya)])) rfl rfl (hb hby d21_102) _ ?_
        show Steps p.tables e below (T7.setTop (mkF m 103 #[.val (.ref a1), .val (.ref ya), .val (.ref da), .val (.int (Int32.ofNat kN)), .val (.int (Int32.ofNat iN)), .val (.int ((Int32.ofNat jN) + (1 : Int32))), s6] [(.int (ys.getD jN 0))])) _
        refine XS.istoreS X7.here hx rfl (hb hby d21_103) rfl rfl hs6 ?_
        show Steps p.tables e below (T7.setTop (mkF m 105 #[.val (.ref a1), .val (.ref ya), .val (.ref da), .val (.int (Int32.ofNat kN)), .val (.int (Int32.ofNat iN)), .val (.int ((Int32.ofNat jN) + (1 : Int32))), .val (.int (ys.getD jN 0))] [])) _
        rw [own_add1]
        exact k
      · obtain ⟨T12, X12, e12, st12⟩ := getF X7 hx hZ hown (host := "") (Or.inl (hw _ (List.mem_of_getElem? (i := 54) rfl))) Via.refl e7 F_p (g := (mkF m 82 #[.val (.ref a1), .val (.ref ya), .val (.ref da), .val (.int (Int32.ofNat kN)), .val (.int (Int32.ofNat iN)), .val (.int (Int32.ofNat jN)), s6] [(.ref a1)])) rfl rfl (hb hby d21_82)
        obtain ⟨cl13, Ar13, hin13, hat13⟩ := own_at (j := (Int32.ofNat iN)) (i := iN) VP hNP (own_nn (by omega)) (own_n (by omega)) (by omega)
        have hch : chF vs ys on iN jN = (iN + 1, jN, vs.getD iN 0) := if_pos (Or.inr ⟨ni, hc78⟩)
        rw [hch]
        refine ⟨T12, X12, e12, ?_⟩
        intro target k
        refine pf3 _ ?_
        refine pf10 _ ?_
        show Steps p.tables e below (T7.setTop (mkF m 78 #[.val (.ref a1), .val (.ref ya), .val (.ref da), .val (.int (Int32.ofNat kN)), .val (.int (Int32.ofNat iN)), .val (.int (Int32.ofNat jN)), s6] [(.int (ys.getD jN 0)), (.int (vs.getD iN 0))])) _
        refine XS.icmpNo X7.here hx rfl (hb hby d21_78) rfl (flt hc78).2.2.1 ?_
        refine XS.aloadN X7.here hx rfl (hb hby d21_81) rfl rfl ?_
        show Steps p.tables e below (T7.setTop (mkF m 82 #[.val (.ref a1), .val (.ref ya), .val (.ref da), .val (.int (Int32.ofNat kN)), .val (.int (Int32.ofNat iN)), .val (.int (Int32.ofNat jN)), s6] [(.ref a1)])) _
        refine st12 _ ?_
        show Steps p.tables e below (T12.setTop (mkF m 85 #[.val (.ref a1), .val (.ref ya), .val (.ref da), .val (.int (Int32.ofNat kN)), .val (.int (Int32.ofNat iN)), .val (.int (Int32.ofNat jN)), s6] [(.ref P)])) _
        refine XS.iload X12.here hx rfl (hb hby d21_85) rfl ?_
        refine XS.iinc X12.here hx rfl (hb hby d21_87) rfl (l' := #[.val (.ref a1), .val (.ref ya), .val (.ref da), .val (.int (Int32.ofNat kN)), .val (.int ((Int32.ofNat iN) + (1 : Int32))), .val (.int (Int32.ofNat jN)), s6]) rfl ?_
        show Steps p.tables e below (T12.setTop (mkF m 90 #[.val (.ref a1), .val (.ref ya), .val (.ref da), .val (.int (Int32.ofNat kN)), .val (.int ((Int32.ofNat iN) + (1 : Int32))), .val (.int (Int32.ofNat jN)), s6] [(.int (Int32.ofNat iN)), (.ref P)])) _
        refine X12.iaload hx (j := (Int32.ofNat iN)) (v := (.int (vs.getD iN 0))) (by rw [e12]; exact Ar13.1) (State.isArrayOf_alike hZ.alike Ar13.2.1) Ar13.2.2 hin13 hat13 (g := (mkF m 90 #[.val (.ref a1), .val (.ref ya), .val (.ref da), .val (.int (Int32.ofNat kN)), .val (.int ((Int32.ofNat iN) + (1 : Int32))), .val (.int (Int32.ofNat jN)), s6] [(.int (Int32.ofNat iN)), (.ref P)])) rfl rfl (hb hby d21_90) _ ?_
        show Steps p.tables e below (T12.setTop (mkF m 91 #[.val (.ref a1), .val (.ref ya), .val (.ref da), .val (.int (Int32.ofNat kN)), .val (.int ((Int32.ofNat iN) + (1 : Int32))), .val (.int (Int32.ofNat jN)), s6] [(.int (vs.getD iN 0))])) _
        refine XS.istoreS X12.here hx rfl (hb hby d21_91) rfl rfl hs6 ?_
        show Steps p.tables e below (T12.setTop (mkF m 93 #[.val (.ref a1), .val (.ref ya), .val (.ref da), .val (.int (Int32.ofNat kN)), .val (.int ((Int32.ofNat iN) + (1 : Int32))), .val (.int (Int32.ofNat jN)), .val (.int (vs.getD iN 0))] [])) _
        refine XS.goto X12.here hx rfl (pc0 := 93) (pc' := 105) rfl (hb hby d21_93) (by decide) (by decide) ?_
        show Steps p.tables e below (T12.setTop (mkF m 105 #[.val (.ref a1), .val (.ref ya), .val (.ref da), .val (.int (Int32.ofNat kN)), .val (.int ((Int32.ofNat iN) + (1 : Int32))), .val (.int (Int32.ofNat jN)), .val (.int (vs.getD iN 0))] [])) _
        rw [own_add1]
        exact k
  · obtain ⟨cl14, Ar14, q14, Sz14, Nn14, Ha14, Gf14⟩ := id VY
    have pf15 : ∀ target, Steps p.tables e below (T1.setTop (mkF m 48 #[.val (.ref a1), .val (.ref ya), .val (.ref da), .val (.int (Int32.ofNat kN)), .val (.int (Int32.ofNat iN)), .val (.int (Int32.ofNat jN)), s6] [(.int (Int32.ofNat ys.length)), (.int (Int32.ofNat jN))])) target → Steps p.tables e below (T0.setTop (mkF m 35 #[.val (.ref a1), .val (.ref ya), .val (.ref da), .val (.int (Int32.ofNat kN)), .val (.int (Int32.ofNat iN)), .val (.int (Int32.ofNat jN)), s6] [])) target := by
      intro target k
      show Steps p.tables e below (T0.setTop (mkF m 35 #[.val (.ref a1), .val (.ref ya), .val (.ref da), .val (.int (Int32.ofNat kN)), .val (.int (Int32.ofNat iN)), .val (.int (Int32.ofNat jN)), s6] [])) _
      refine XS.iload X0.here hx rfl (hb hby d21_35) rfl ?_
      refine XS.aloadN X0.here hx rfl (hb hby d21_37) rfl rfl ?_
      show Steps p.tables e below (T0.setTop (mkF m 38 #[.val (.ref a1), .val (.ref ya), .val (.ref da), .val (.int (Int32.ofNat kN)), .val (.int (Int32.ofNat iN)), .val (.int (Int32.ofNat jN)), s6] [(.ref a1), (.int (Int32.ofNat iN))])) _
      refine st1 _ ?_
      show Steps p.tables e below (T1.setTop (mkF m 41 #[.val (.ref a1), .val (.ref ya), .val (.ref da), .val (.int (Int32.ofNat kN)), .val (.int (Int32.ofNat iN)), .val (.int (Int32.ofNat jN)), s6] [(.int (Int32.ofNat on)), (.int (Int32.ofNat iN))])) _
      refine XS.icmpNo X1.here hx rfl (hb hby d21_41) rfl (flt hc41).1 ?_
      refine XS.iload X1.here hx rfl (hb hby d21_44) rfl ?_
      refine XS.aloadN X1.here hx rfl (hb hby d21_46) rfl rfl ?_
      show Steps p.tables e below (T1.setTop (mkF m 47 #[.val (.ref a1), .val (.ref ya), .val (.ref da), .val (.int (Int32.ofNat kN)), .val (.int (Int32.ofNat iN)), .val (.int (Int32.ofNat jN)), s6] [(.ref ya), (.int (Int32.ofNat jN))])) _
      refine X1.arraylength hx (by rw [e1]; exact Ar14.1) (State.isArrayOf_alike hZ.alike Ar14.2.1) (g := (mkF m 47 #[.val (.ref a1), .val (.ref ya), .val (.ref da), .val (.int (Int32.ofNat kN)), .val (.int (Int32.ofNat iN)), .val (.int (Int32.ofNat jN)), s6] [(.ref ya), (.int (Int32.ofNat jN))])) rfl rfl (hb hby d21_47) _ ?_
      rw [len_of Sz14 Nn14]
      exact k
    have ni : ¬ iN < on := fun q => hc41 ((own_lt (by omega) (by omega)).mpr q)
    have nj : jN < ys.length := hij.resolve_left ni
    obtain ⟨cl16, Ar16, q16, Sz16, Nn16, Ha16, Gf16⟩ := id VY
    have pf17 : ∀ target, Steps p.tables e below (T1.setTop (mkF m 55 #[.val (.ref a1), .val (.ref ya), .val (.ref da), .val (.int (Int32.ofNat kN)), .val (.int (Int32.ofNat iN)), .val (.int (Int32.ofNat jN)), s6] [(.int (Int32.ofNat ys.length)), (.int (Int32.ofNat jN))])) target → Steps p.tables e below (T1.setTop (mkF m 48 #[.val (.ref a1), .val (.ref ya), .val (.ref da), .val (.int (Int32.ofNat kN)), .val (.int (Int32.ofNat iN)), .val (.int (Int32.ofNat jN)), s6] [(.int (Int32.ofNat ys.length)), (.int (Int32.ofNat jN))])) target := by
      intro target k
      show Steps p.tables e below (T1.setTop (mkF m 48 #[.val (.ref a1), .val (.ref ya), .val (.ref da), .val (.int (Int32.ofNat kN)), .val (.int (Int32.ofNat iN)), .val (.int (Int32.ofNat jN)), s6] [(.int (Int32.ofNat ys.length)), (.int (Int32.ofNat jN))])) _
      refine XS.icmpNo X1.here hx rfl (hb hby d21_48) rfl (tlt ((own_lt (by omega) (by omega)).mpr (hij.resolve_left fun q => hc41 ((own_lt (by omega) (by omega)).mpr q)))).2.1 ?_
      refine XS.iload X1.here hx rfl (hb hby d21_51) rfl ?_
      refine XS.aloadN X1.here hx rfl (hb hby d21_53) rfl rfl ?_
      show Steps p.tables e below (T1.setTop (mkF m 54 #[.val (.ref a1), .val (.ref ya), .val (.ref da), .val (.int (Int32.ofNat kN)), .val (.int (Int32.ofNat iN)), .val (.int (Int32.ofNat jN)), s6] [(.ref ya), (.int (Int32.ofNat jN))])) _
      refine X1.arraylength hx (by rw [e1]; exact Ar16.1) (State.isArrayOf_alike hZ.alike Ar16.2.1) (g := (mkF m 54 #[.val (.ref a1), .val (.ref ya), .val (.ref da), .val (.int (Int32.ofNat kN)), .val (.int (Int32.ofNat iN)), .val (.int (Int32.ofNat jN)), s6] [(.ref ya), (.int (Int32.ofNat jN))])) rfl rfl (hb hby d21_54) _ ?_
      rw [len_of Sz16 Nn16]
      exact k
    obtain ⟨T18, X18, e18, st18⟩ := getF X1 hx hZ hown (host := "") (Or.inl (hw _ (List.mem_of_getElem? (i := 58) rfl))) Via.refl e1 F_o (g := (mkF m 61 #[.val (.ref a1), .val (.ref ya), .val (.ref da), .val (.int (Int32.ofNat kN)), .val (.int (Int32.ofNat iN)), .val (.int (Int32.ofNat jN)), s6] [(.ref a1), (.int (Int32.ofNat iN))])) rfl rfl (hb hby d21_61)
    obtain ⟨cl19, Ar19, hin19, hat19⟩ := own_at (j := (Int32.ofNat jN)) (i := jN) VY hNY (own_nn (by omega)) (own_n (by omega)) nj
    have hch : chF vs ys on iN jN = (iN, jN + 1, ys.getD jN 0) := if_neg (by rintro (q | q); omega; exact ni q.1)
    rw [hch]
    refine ⟨T18, X18, e18, ?_⟩
    intro target k
    refine pf15 _ ?_
    refine pf17 _ ?_
    show Steps p.tables e below (T1.setTop (mkF m 55 #[.val (.ref a1), .val (.ref ya), .val (.ref da), .val (.int (Int32.ofNat kN)), .val (.int (Int32.ofNat iN)), .val (.int (Int32.ofNat jN)), s6] [(.int (Int32.ofNat ys.length)), (.int (Int32.ofNat jN))])) _
    refine XS.icmpNo X1.here hx rfl (hb hby d21_55) rfl (feq (fun q => absurd ((own_eq (by omega) (by omega)).mp q) (by omega))).1 ?_
    refine XS.iload X1.here hx rfl (hb hby d21_58) rfl ?_
    refine XS.aloadN X1.here hx rfl (hb hby d21_60) rfl rfl ?_
    show Steps p.tables e below (T1.setTop (mkF m 61 #[.val (.ref a1), .val (.ref ya), .val (.ref da), .val (.int (Int32.ofNat kN)), .val (.int (Int32.ofNat iN)), .val (.int (Int32.ofNat jN)), s6] [(.ref a1), (.int (Int32.ofNat iN))])) _
    refine st18 _ ?_
    show Steps p.tables e below (T18.setTop (mkF m 64 #[.val (.ref a1), .val (.ref ya), .val (.ref da), .val (.int (Int32.ofNat kN)), .val (.int (Int32.ofNat iN)), .val (.int (Int32.ofNat jN)), s6] [(.int (Int32.ofNat on)), (.int (Int32.ofNat iN))])) _
    refine XS.icmpYes X18.here hx rfl (pc0 := 64) (pc' := 96) rfl (hb hby d21_64) rfl (flt hc41).2.1 (by decide) (by decide) ?_
    refine XS.aloadN X18.here hx rfl (hb hby d21_96) rfl rfl ?_
    refine XS.iload X18.here hx rfl (hb hby d21_97) rfl ?_
    refine XS.iinc X18.here hx rfl (hb hby d21_99) rfl (l' := #[.val (.ref a1), .val (.ref ya), .val (.ref da), .val (.int (Int32.ofNat kN)), .val (.int (Int32.ofNat iN)), .val (.int ((Int32.ofNat jN) + (1 : Int32))), s6]) rfl ?_
    show Steps p.tables e below (T18.setTop (mkF m 102 #[.val (.ref a1), .val (.ref ya), .val (.ref da), .val (.int (Int32.ofNat kN)), .val (.int (Int32.ofNat iN)), .val (.int ((Int32.ofNat jN) + (1 : Int32))), s6] [(.int (Int32.ofNat jN)), (.ref ya)])) _
    refine X18.iaload hx (j := (Int32.ofNat jN)) (v := (.int (ys.getD jN 0))) (by rw [e18]; exact Ar19.1) (State.isArrayOf_alike hZ.alike Ar19.2.1) Ar19.2.2 hin19 hat19 (g := (mkF m 102 #[.val (.ref a1), .val (.ref ya), .val (.ref da), .val (.int (Int32.ofNat kN)), .val (.int (Int32.ofNat iN)), .val (.int ((Int32.ofNat jN) + (1 : Int32))), s6] [(.int (Int32.ofNat jN)), (.ref ya)])) rfl rfl (hb hby d21_102) _ ?_
    show Steps p.tables e below (T18.setTop (mkF m 103 #[.val (.ref a1), .val (.ref ya), .val (.ref da), .val (.int (Int32.ofNat kN)), .val (.int (Int32.ofNat iN)), .val (.int ((Int32.ofNat jN) + (1 : Int32))), s6] [(.int (ys.getD jN 0))])) _
    refine XS.istoreS X18.here hx rfl (hb hby d21_103) rfl rfl hs6 ?_
    show Steps p.tables e below (T18.setTop (mkF m 105 #[.val (.ref a1), .val (.ref ya), .val (.ref da), .val (.int (Int32.ofNat kN)), .val (.int (Int32.ofNat iN)), .val (.int ((Int32.ofNat jN) + (1 : Int32))), .val (.int (ys.getD jN 0))] [])) _
    rw [own_add1]
    exact k
set_option maxRecDepth 65536 in
set_option maxHeartbeats 40000000 in
theorem pcE {p : Program} {l : Launch} {e : Env} {R : Room} {s : State} {m : MethodId} {args : Array Value} {below : List Frame} {meth : Method} {c : Code} {T0 : State} {locs : List Loc} {cells slots : Nat} {Z : State} {a0 : Array Value} {n0 : Nat} {h0 : Heap} (hw : ∀ d ∈ tables_1, d.before a0 Z = true) (X0 : Stand p l e R s m args below meth c T0 locs cells slots) (hx : p.tables.exec = Jvm.exec) (hby : c.code = prog_105_method_6_code) (hZ : Z.Warmed39 s.vm) (hown : s.vm.findClass "com/example/rivet_context/rivetcontext/factory/TypeListing" = some m.cls) (e0 : T0.heap = h0) (N0 : Fr n0 locs) (O0 : Old Z n0 h0) (a1 : Addr) (ya : Addr) (da : Addr) (P : Addr) (kP : ClassId) (ky : ClassId) (vs : List Int32) (ys : List Int32) (on : Nat) (iN : Nat) (jN : Nat) (kN : Nat) (s6 : Slot) (F_o : Fld Z h0 a1 "com/example/rivet_context/rivetcontext/factory/TypeListing" "ordered" "I" (.int (Int32.ofNat on))) (F_p : Fld Z h0 a1 "com/example/rivet_context/rivetcontext/factory/TypeListing" "places" "[I" (.ref P)) (VP : Arv Z h0 P kP .int (Int32.ofNat vs.length) (vs.map Value.int) (.int 0)) (VY : Arv Z h0 ya ky .int (Int32.ofNat ys.length) (ys.map Value.int) (.int 0)) (hv : vs.length ≤ 8) (hy : ys.length ≤ 8) (hon : on ≤ vs.length) (hi : iN ≤ on) (hj : jN ≤ ys.length) (hni : ¬ iN < on) (hnj : ¬ jN < ys.length) :
    ∃ T', Stand p l e R s m args below meth c T' locs cells slots ∧ T'.heap = h0 ∧ ∀ target, Steps p.tables e below (T'.setTop (mkF m 131 #[.val (.ref a1), .val (.ref ya), .val (.ref da), .val (.int (Int32.ofNat kN)), .val (.int (Int32.ofNat iN)), .val (.int (Int32.ofNat jN)), s6] [])) target → Steps p.tables e below (T0.setTop (mkF m 35 #[.val (.ref a1), .val (.ref ya), .val (.ref da), .val (.int (Int32.ofNat kN)), .val (.int (Int32.ofNat iN)), .val (.int (Int32.ofNat jN)), s6] [])) target := by
  have hNP : (Int32.ofNat vs.length).toNatClampNeg = vs.length := own_n hv
  have hNY : (Int32.ofNat ys.length).toNatClampNeg = ys.length := own_n hy
  obtain ⟨T1, X1, e1, st1⟩ := getF X0 hx hZ hown (host := "") (Or.inl (hw _ (List.mem_of_getElem? (i := 58) rfl))) Via.refl e0 F_o (g := (mkF m 38 #[.val (.ref a1), .val (.ref ya), .val (.ref da), .val (.int (Int32.ofNat kN)), .val (.int (Int32.ofNat iN)), .val (.int (Int32.ofNat jN)), s6] [(.ref a1), (.int (Int32.ofNat iN))])) rfl rfl (hb hby d21_38)
  obtain ⟨cl2, Ar2, q2, Sz2, Nn2, Ha2, Gf2⟩ := id VY
  have pf3 : ∀ target, Steps p.tables e below (T1.setTop (mkF m 48 #[.val (.ref a1), .val (.ref ya), .val (.ref da), .val (.int (Int32.ofNat kN)), .val (.int (Int32.ofNat iN)), .val (.int (Int32.ofNat jN)), s6] [(.int (Int32.ofNat ys.length)), (.int (Int32.ofNat jN))])) target → Steps p.tables e below (T0.setTop (mkF m 35 #[.val (.ref a1), .val (.ref ya), .val (.ref da), .val (.int (Int32.ofNat kN)), .val (.int (Int32.ofNat iN)), .val (.int (Int32.ofNat jN)), s6] [])) target := by
    intro target k
    show Steps p.tables e below (T0.setTop (mkF m 35 #[.val (.ref a1), .val (.ref ya), .val (.ref da), .val (.int (Int32.ofNat kN)), .val (.int (Int32.ofNat iN)), .val (.int (Int32.ofNat jN)), s6] [])) _
    refine XS.iload X0.here hx rfl (hb hby d21_35) rfl ?_
    refine XS.aloadN X0.here hx rfl (hb hby d21_37) rfl rfl ?_
    show Steps p.tables e below (T0.setTop (mkF m 38 #[.val (.ref a1), .val (.ref ya), .val (.ref da), .val (.int (Int32.ofNat kN)), .val (.int (Int32.ofNat iN)), .val (.int (Int32.ofNat jN)), s6] [(.ref a1), (.int (Int32.ofNat iN))])) _
    refine st1 _ ?_
    show Steps p.tables e below (T1.setTop (mkF m 41 #[.val (.ref a1), .val (.ref ya), .val (.ref da), .val (.int (Int32.ofNat kN)), .val (.int (Int32.ofNat iN)), .val (.int (Int32.ofNat jN)), s6] [(.int (Int32.ofNat on)), (.int (Int32.ofNat iN))])) _
    refine XS.icmpNo X1.here hx rfl (hb hby d21_41) rfl (flt (fun q => hni ((own_lt (by omega) (by omega)).mp q))).1 ?_
    refine XS.iload X1.here hx rfl (hb hby d21_44) rfl ?_
    refine XS.aloadN X1.here hx rfl (hb hby d21_46) rfl rfl ?_
    show Steps p.tables e below (T1.setTop (mkF m 47 #[.val (.ref a1), .val (.ref ya), .val (.ref da), .val (.int (Int32.ofNat kN)), .val (.int (Int32.ofNat iN)), .val (.int (Int32.ofNat jN)), s6] [(.ref ya), (.int (Int32.ofNat jN))])) _
    refine X1.arraylength hx (by rw [e1]; exact Ar2.1) (State.isArrayOf_alike hZ.alike Ar2.2.1) (g := (mkF m 47 #[.val (.ref a1), .val (.ref ya), .val (.ref da), .val (.int (Int32.ofNat kN)), .val (.int (Int32.ofNat iN)), .val (.int (Int32.ofNat jN)), s6] [(.ref ya), (.int (Int32.ofNat jN))])) rfl rfl (hb hby d21_47) _ ?_
    rw [len_of Sz2 Nn2]
    exact k
  refine ⟨T1, X1, e1, ?_⟩
  intro target k
  refine pf3 _ ?_
  show Steps p.tables e below (T1.setTop (mkF m 48 #[.val (.ref a1), .val (.ref ya), .val (.ref da), .val (.int (Int32.ofNat kN)), .val (.int (Int32.ofNat iN)), .val (.int (Int32.ofNat jN)), s6] [(.int (Int32.ofNat ys.length)), (.int (Int32.ofNat jN))])) _
  refine XS.icmpYes X1.here hx rfl (pc0 := 48) (pc' := 131) rfl (hb hby d21_48) rfl (flt (fun q => hnj ((own_lt (by omega) (by omega)).mp q))).2.1 (by decide) (by decide) ?_
  show Steps p.tables e below (T1.setTop (mkF m 131 #[.val (.ref a1), .val (.ref ya), .val (.ref da), .val (.int (Int32.ofNat kN)), .val (.int (Int32.ofNat iN)), .val (.int (Int32.ofNat jN)), s6] [])) _
  exact k
theorem d21_105 : decode prog_105_method_6_code 105 = .ok (.iconst 0, 1) := by decide +kernel
theorem d21_106 : decode prog_105_method_6_code 106 = .ok (.iload_n 3, 1) := by decide +kernel
theorem d21_107 : decode prog_105_method_6_code 107 = .ok (.if_icmp .eq 13, 3) := by decide +kernel
theorem d21_120 : decode prog_105_method_6_code 120 = .ok (.aload_n 2, 1) := by decide +kernel
theorem d21_121 : decode prog_105_method_6_code 121 = .ok (.iload_n 3, 1) := by decide +kernel
theorem d21_122 : decode prog_105_method_6_code 122 = .ok (.iinc 3 1, 3) := by decide +kernel
theorem d21_125 : decode prog_105_method_6_code 125 = .ok (.iload 6, 2) := by decide +kernel
theorem d21_127 : decode prog_105_method_6_code 127 = .ok (.iastore, 1) := by decide +kernel
theorem d21_128 : decode prog_105_method_6_code 128 = .ok (.goto (-93), 3) := by decide +kernel
theorem d21_110 : decode prog_105_method_6_code 110 = .ok (.aload_n 2, 1) := by decide +kernel
theorem d21_111 : decode prog_105_method_6_code 111 = .ok (.iload_n 3, 1) := by decide +kernel
theorem d21_112 : decode prog_105_method_6_code 112 = .ok (.iconst 1, 1) := by decide +kernel
theorem d21_113 : decode prog_105_method_6_code 113 = .ok (.isub, 1) := by decide +kernel
theorem d21_114 : decode prog_105_method_6_code 114 = .ok (.iaload, 1) := by decide +kernel
theorem d21_115 : decode prog_105_method_6_code 115 = .ok (.iload 6, 2) := by decide +kernel
theorem d21_117 : decode prog_105_method_6_code 117 = .ok (.if_icmp .eq 11, 3) := by decide +kernel
set_option maxRecDepth 65536 in
set_option maxHeartbeats 40000000 in
theorem pcB {p : Program} {l : Launch} {e : Env} {R : Room} {s : State} {m : MethodId} {args : Array Value} {below : List Frame} {meth : Method} {c : Code} {T0 : State} {locs : List Loc} {cells slots : Nat} {Z : State} {a0 : Array Value} {n0 : Nat} {h0 : Heap} (hw : ∀ d ∈ tables_1, d.before a0 Z = true) (X0 : Stand p l e R s m args below meth c T0 locs cells slots) (hx : p.tables.exec = Jvm.exec) (hby : c.code = prog_105_method_6_code) (hZ : Z.Warmed39 s.vm) (hown : s.vm.findClass "com/example/rivet_context/rivetcontext/factory/TypeListing" = some m.cls) (e0 : T0.heap = h0) (N0 : Fr n0 locs) (O0 : Old Z n0 h0) (a1 : Addr) (ya : Addr) (da : Addr) (kd : ClassId) (ms : List Int32) (kN : Nat) (i4 : Int32) (j5 : Int32) (x6 : Int32) (VM : Arv Z h0 da kd .int (Int32.ofNat ms.length) (ms.map Value.int) (.int 0)) (g_da : n0 ≤ da) (hm : ms.length ≤ 8) (hk : kN < ms.length) :
    ∃ T' h' L', Stand p l e R s m args below meth c T' L' cells slots ∧ T'.heap = h' ∧ Fr n0 L' ∧ Old Z n0 h' ∧ Keep h0 h' [da] ∧ Arv Z h' da kd .int (Int32.ofNat ms.length) ((mgF ms kN x6).1.map Value.int) (.int 0) ∧ ∀ target, Steps p.tables e below (T'.setTop (mkF m 35 #[.val (.ref a1), .val (.ref ya), .val (.ref da), .val (.int (Int32.ofNat (mgF ms kN x6).2)), .val (.int i4), .val (.int j5), .val (.int x6)] [])) target → Steps p.tables e below (T0.setTop (mkF m 105 #[.val (.ref a1), .val (.ref ya), .val (.ref da), .val (.int (Int32.ofNat kN)), .val (.int i4), .val (.int j5), .val (.int x6)] [])) target := by
  have hNM : (Int32.ofNat ms.length).toNatClampNeg = ms.length := own_n hm
  have lt_da := VM.lt
  by_cases hc107 : (0 : Int32) = (Int32.ofNat kN)
  · obtain ⟨cl1, Ar1, q1, Sz1, Nn1, Ha1, Gf1⟩ := id VM
    have hin1 : ¬ ((Int32.ofNat kN) < 0 ∨ cl1.slots.size ≤ ((Int32.ofNat kN)).toNatClampNeg) := own_inb (i := kN) Sz1 hNM (own_nn (by omega)) (own_n (by omega)) hk
    obtain ⟨T2, h2, X2, e2, W2, st2⟩ := stI X0 hx hZ e0 Ar1 (j := (Int32.ofNat kN)) hin1 (g := (mkF m 127 #[.val (.ref a1), .val (.ref ya), .val (.ref da), .val (.int ((Int32.ofNat kN) + (1 : Int32))), .val (.int i4), .val (.int j5), .val (.int x6)] [(.int x6), (.int (Int32.ofNat kN)), (.ref da)])) rfl rfl (hb hby d21_127)
    have Va2 := Arv.set Ar1 q1 Sz1 Nn1 Ha1 Gf1 rfl W2 kN (own_n (by omega)) (by rw [List.length_map]; exact hk)
    have Vb2 : Arv Z h2 da kd .int (Int32.ofNat ms.length) ((ms.set kN x6).map Value.int) (.int 0) := by rw [List.map_set]; exact Va2
    have hN2 : ((Int32.ofNat ms.length)).toNatClampNeg = (ms.set kN x6).length := by rw [List.length_set]; exact hNM
    have O3 := O0.wr W2 g_da
    have kp4 : Keep h0 h2 [da] := (Keep.refl h0 [da]).wr W2 (Or.inl (List.mem_of_getElem? (i := 0) rfl))
    have N2 := Fr.snoc X2 N0 g_da
    have hmg : mgF ms kN x6 = (ms.set kN x6, kN + 1) := if_pos (Or.inl ((own_eq (by omega : 0 ≤ 8) (by omega)).mp hc107).symm)
    rw [hmg]
    refine ⟨T2, h2, _, X2, e2, N2, O3, kp4, Vb2, ?_⟩
    intro target k
    show Steps p.tables e below (T0.setTop (mkF m 105 #[.val (.ref a1), .val (.ref ya), .val (.ref da), .val (.int (Int32.ofNat kN)), .val (.int i4), .val (.int j5), .val (.int x6)] [])) _
    refine XS.iconst X0.here hx rfl (hb hby d21_105) ?_
    refine XS.iloadN X0.here hx rfl (hb hby d21_106) rfl ?_
    refine XS.icmpYes X0.here hx rfl (pc0 := 107) (pc' := 120) rfl (hb hby d21_107) rfl (teq hc107).1 (by decide) (by decide) ?_
    refine XS.aloadN X0.here hx rfl (hb hby d21_120) rfl rfl ?_
    refine XS.iloadN X0.here hx rfl (hb hby d21_121) rfl ?_
    refine XS.iinc X0.here hx rfl (hb hby d21_122) rfl (l' := #[.val (.ref a1), .val (.ref ya), .val (.ref da), .val (.int ((Int32.ofNat kN) + (1 : Int32))), .val (.int i4), .val (.int j5), .val (.int x6)]) rfl ?_
    refine XS.iload X0.here hx rfl (hb hby d21_125) rfl ?_
    show Steps p.tables e below (T0.setTop (mkF m 127 #[.val (.ref a1), .val (.ref ya), .val (.ref da), .val (.int ((Int32.ofNat kN) + (1 : Int32))), .val (.int i4), .val (.int j5), .val (.int x6)] [(.int x6), (.int (Int32.ofNat kN)), (.ref da)])) _
    refine st2 _ ?_
    show Steps p.tables e below (T2.setTop (mkF m 128 #[.val (.ref a1), .val (.ref ya), .val (.ref da), .val (.int ((Int32.ofNat kN) + (1 : Int32))), .val (.int i4), .val (.int j5), .val (.int x6)] [])) _
    refine XS.goto X2.here hx rfl (pc0 := 128) (pc' := 35) rfl (hb hby d21_128) (by decide) (by decide) ?_
    show Steps p.tables e below (T2.setTop (mkF m 35 #[.val (.ref a1), .val (.ref ya), .val (.ref da), .val (.int ((Int32.ofNat kN) + (1 : Int32))), .val (.int i4), .val (.int j5), .val (.int x6)] [])) _
    rw [own_add1]
    exact k
  · have nk : ¬ kN = 0 := fun q => hc107 (by rw [q]; rfl)
    obtain ⟨cl5, Ar5, hin5, hat5⟩ := own_at (j := ((Int32.ofNat kN) - (1 : Int32))) (i := (kN - 1)) VM hNM (by rw [own_sub1 (by omega) (by omega)]; exact own_nn (by omega)) (by rw [own_sub1 (by omega) (by omega)]; exact own_n (by omega)) (by omega)
    have pf6 : ∀ target, Steps p.tables e below (T0.setTop (mkF m 117 #[.val (.ref a1), .val (.ref ya), .val (.ref da), .val (.int (Int32.ofNat kN)), .val (.int i4), .val (.int j5), .val (.int x6)] [(.int x6), (.int (ms.getD (kN - 1) 0))])) target → Steps p.tables e below (T0.setTop (mkF m 105 #[.val (.ref a1), .val (.ref ya), .val (.ref da), .val (.int (Int32.ofNat kN)), .val (.int i4), .val (.int j5), .val (.int x6)] [])) target := by
      intro target k
      show Steps p.tables e below (T0.setTop (mkF m 105 #[.val (.ref a1), .val (.ref ya), .val (.ref da), .val (.int (Int32.ofNat kN)), .val (.int i4), .val (.int j5), .val (.int x6)] [])) _
      refine XS.iconst X0.here hx rfl (hb hby d21_105) ?_
      refine XS.iloadN X0.here hx rfl (hb hby d21_106) rfl ?_
      refine XS.icmpNo X0.here hx rfl (hb hby d21_107) rfl (feq hc107).1 ?_
      refine XS.aloadN X0.here hx rfl (hb hby d21_110) rfl rfl ?_
      refine XS.iloadN X0.here hx rfl (hb hby d21_111) rfl ?_
      refine XS.iconst X0.here hx rfl (hb hby d21_112) ?_
      refine XS.isub X0.here hx rfl (hb hby d21_113) rfl ?_
      show Steps p.tables e below (T0.setTop (mkF m 114 #[.val (.ref a1), .val (.ref ya), .val (.ref da), .val (.int (Int32.ofNat kN)), .val (.int i4), .val (.int j5), .val (.int x6)] [(.int ((Int32.ofNat kN) - (1 : Int32))), (.ref da)])) _
      refine X0.iaload hx (j := ((Int32.ofNat kN) - (1 : Int32))) (v := (.int (ms.getD (kN - 1) 0))) (by rw [e0]; exact Ar5.1) (State.isArrayOf_alike hZ.alike Ar5.2.1) Ar5.2.2 hin5 hat5 (g := (mkF m 114 #[.val (.ref a1), .val (.ref ya), .val (.ref da), .val (.int (Int32.ofNat kN)), .val (.int i4), .val (.int j5), .val (.int x6)] [(.int ((Int32.ofNat kN) - (1 : Int32))), (.ref da)])) rfl rfl (hb hby d21_114) _ ?_
      show Steps p.tables e below (T0.setTop (mkF m 115 #[.val (.ref a1), .val (.ref ya), .val (.ref da), .val (.int (Int32.ofNat kN)), .val (.int i4), .val (.int j5), .val (.int x6)] [(.int (ms.getD (kN - 1) 0))])) _
      refine XS.iload X0.here hx rfl (hb hby d21_115) rfl ?_
      exact k
    by_cases hc117 : (ms.getD (kN - 1) 0) = x6
    · have hmg : mgF ms kN x6 = (ms, kN) := if_neg (by rintro (q | q); exact nk q; exact q hc117)
      rw [hmg]
      refine ⟨T0, h0, _, X0, e0, N0, O0, (Keep.refl h0 [da]), VM, ?_⟩
      intro target k
      refine pf6 _ ?_
      show Steps p.tables e below (T0.setTop (mkF m 117 #[.val (.ref a1), .val (.ref ya), .val (.ref da), .val (.int (Int32.ofNat kN)), .val (.int i4), .val (.int j5), .val (.int x6)] [(.int x6), (.int (ms.getD (kN - 1) 0))])) _
      refine XS.icmpYes X0.here hx rfl (pc0 := 117) (pc' := 128) rfl (hb hby d21_117) rfl (teq hc117).1 (by decide) (by decide) ?_
      refine XS.goto X0.here hx rfl (pc0 := 128) (pc' := 35) rfl (hb hby d21_128) (by decide) (by decide) ?_
      show Steps p.tables e below (T0.setTop (mkF m 35 #[.val (.ref a1), .val (.ref ya), .val (.ref da), .val (.int (Int32.ofNat kN)), .val (.int i4), .val (.int j5), .val (.int x6)] [])) _
      exact k
    · obtain ⟨cl7, Ar7, q7, Sz7, Nn7, Ha7, Gf7⟩ := id VM
      have hin7 : ¬ ((Int32.ofNat kN) < 0 ∨ cl7.slots.size ≤ ((Int32.ofNat kN)).toNatClampNeg) := own_inb (i := kN) Sz7 hNM (own_nn (by omega)) (own_n (by omega)) hk
      obtain ⟨T8, h8, X8, e8, W8, st8⟩ := stI X0 hx hZ e0 Ar7 (j := (Int32.ofNat kN)) hin7 (g := (mkF m 127 #[.val (.ref a1), .val (.ref ya), .val (.ref da), .val (.int ((Int32.ofNat kN) + (1 : Int32))), .val (.int i4), .val (.int j5), .val (.int x6)] [(.int x6), (.int (Int32.ofNat kN)), (.ref da)])) rfl rfl (hb hby d21_127)
      have Va8 := Arv.set Ar7 q7 Sz7 Nn7 Ha7 Gf7 rfl W8 kN (own_n (by omega)) (by rw [List.length_map]; exact hk)
      have Vb8 : Arv Z h8 da kd .int (Int32.ofNat ms.length) ((ms.set kN x6).map Value.int) (.int 0) := by rw [List.map_set]; exact Va8
      have hN8 : ((Int32.ofNat ms.length)).toNatClampNeg = (ms.set kN x6).length := by rw [List.length_set]; exact hNM
      have O9 := O0.wr W8 g_da
      have kp10 : Keep h0 h8 [da] := (Keep.refl h0 [da]).wr W8 (Or.inl (List.mem_of_getElem? (i := 0) rfl))
      have N8 := Fr.snoc X8 N0 g_da
      have hmg : mgF ms kN x6 = (ms.set kN x6, kN + 1) := if_pos (Or.inr hc117)
      rw [hmg]
      refine ⟨T8, h8, _, X8, e8, N8, O9, kp10, Vb8, ?_⟩
      intro target k
      refine pf6 _ ?_
      show Steps p.tables e below (T0.setTop (mkF m 117 #[.val (.ref a1), .val (.ref ya), .val (.ref da), .val (.int (Int32.ofNat kN)), .val (.int i4), .val (.int j5), .val (.int x6)] [(.int x6), (.int (ms.getD (kN - 1) 0))])) _
      refine XS.icmpNo X0.here hx rfl (hb hby d21_117) rfl (feq hc117).1 ?_
      refine XS.aloadN X0.here hx rfl (hb hby d21_120) rfl rfl ?_
      refine XS.iloadN X0.here hx rfl (hb hby d21_121) rfl ?_
      refine XS.iinc X0.here hx rfl (hb hby d21_122) rfl (l' := #[.val (.ref a1), .val (.ref ya), .val (.ref da), .val (.int ((Int32.ofNat kN) + (1 : Int32))), .val (.int i4), .val (.int j5), .val (.int x6)]) rfl ?_
      refine XS.iload X0.here hx rfl (hb hby d21_125) rfl ?_
      show Steps p.tables e below (T0.setTop (mkF m 127 #[.val (.ref a1), .val (.ref ya), .val (.ref da), .val (.int ((Int32.ofNat kN) + (1 : Int32))), .val (.int i4), .val (.int j5), .val (.int x6)] [(.int x6), (.int (Int32.ofNat kN)), (.ref da)])) _
      refine st8 _ ?_
      show Steps p.tables e below (T8.setTop (mkF m 128 #[.val (.ref a1), .val (.ref ya), .val (.ref da), .val (.int ((Int32.ofNat kN) + (1 : Int32))), .val (.int i4), .val (.int j5), .val (.int x6)] [])) _
      refine XS.goto X8.here hx rfl (pc0 := 128) (pc' := 35) rfl (hb hby d21_128) (by decide) (by decide) ?_
      show Steps p.tables e below (T8.setTop (mkF m 35 #[.val (.ref a1), .val (.ref ya), .val (.ref da), .val (.int ((Int32.ofNat kN) + (1 : Int32))), .val (.int i4), .val (.int j5), .val (.int x6)] [])) _
      rw [own_add1]
      exact k
set_option maxHeartbeats 40000000 in
theorem own_loop {p : Program} {l : Launch} {e : Env} {R : Room} {s : State} {m : MethodId} {args : Array Value} {below : List Frame} {meth : Method} {c : Code} {Z : State} {a0 : Array Value} {n0 : Nat} (hw : ∀ d ∈ tables_1, d.before a0 Z = true) (hx : p.tables.exec = Jvm.exec) (hby : c.code = prog_105_method_6_code) (hZ : Z.Warmed39 s.vm) (hown : s.vm.findClass "com/example/rivet_context/rivetcontext/factory/TypeListing" = some m.cls)
    {a1 ya da P : Addr} {kP ky kd : ClassId} {vs ys : List Int32} {on : Nat} (hv : vs.length ≤ 8) (hon : on ≤ vs.length) (h8 : on + ys.length ≤ 8) (g_da : n0 ≤ da) (n1 : a1 ≠ da) (n2 : P ≠ da) (n3 : ya ≠ da) :
    ∀ (f iN jN kN : Nat) (ms : List Int32) (s6 : Slot) (T0 : State) (h0 : Heap) (locs : List Loc) (cells slots : Nat) (X0 : Stand p l e R s m args below meth c T0 locs cells slots) (e0 : T0.heap = h0) (N0 : Fr n0 locs) (O0 : Old Z n0 h0) (F_o : Fld Z h0 a1 "com/example/rivet_context/rivetcontext/factory/TypeListing" "ordered" "I" (.int (Int32.ofNat on))) (F_p : Fld Z h0 a1 "com/example/rivet_context/rivetcontext/factory/TypeListing" "places" "[I" (.ref P)) (VP : Arv Z h0 P kP .int (Int32.ofNat vs.length) (vs.map Value.int) (.int 0)) (VY : Arv Z h0 ya ky .int (Int32.ofNat ys.length) (ys.map Value.int) (.int 0))
      (VM : Arv Z h0 da kd .int (Int32.ofNat ms.length) (ms.map Value.int) (.int 0)) (hs6 : One s6) (hf : (on - iN) + (ys.length - jN) = f) (hi : iN ≤ on) (hj : jN ≤ ys.length) (hk : kN ≤ iN + jN) (hms : ms.length = on + ys.length),
      ∃ (T' : State) (h' : Heap) (L' : List Loc) (s6' : Slot), Stand p l e R s m args below meth c T' L' cells slots ∧ T'.heap = h' ∧ Fr n0 L' ∧ Old Z n0 h' ∧ Keep h0 h' [da] ∧ Arv Z h' da kd .int (Int32.ofNat ms.length) ((mrF vs ys on f iN jN kN ms).1.map Value.int) (.int 0) ∧
        ∀ target, Steps p.tables e below (T'.setTop (mkF m 131 #[.val (.ref a1), .val (.ref ya), .val (.ref da), .val (.int (Int32.ofNat (mrF vs ys on f iN jN kN ms).2)), .val (.int (Int32.ofNat on)), .val (.int (Int32.ofNat ys.length)), s6'] [])) target → Steps p.tables e below (T0.setTop (mkF m 35 #[.val (.ref a1), .val (.ref ya), .val (.ref da), .val (.int (Int32.ofNat kN)), .val (.int (Int32.ofNat iN)), .val (.int (Int32.ofNat jN)), s6] [])) target := by
  intro f
  induction f with
  | zero =>
    intro iN jN kN ms s6 T0 h0 locs cells slots X0 e0 N0 O0 F_o F_p VP VY VM hs6 hf hi hj hk hms
    obtain ⟨T', X', e', st⟩ := pcE hw X0 hx hby hZ hown e0 N0 O0 a1 ya da P kP ky vs ys on iN jN kN s6 F_o F_p VP VY hv (by omega) hon hi hj (by omega) (by omega)
    have q1 : iN = on := by omega
    have q2 : jN = ys.length := by omega
    subst q1; subst q2
    exact ⟨T', h0, locs, s6, X', e', N0, O0, Keep.refl _ _, VM, st⟩
  | succ f ih =>
    intro iN jN kN ms s6 T0 h0 locs cells slots X0 e0 N0 O0 F_o F_p VP VY VM hs6 hf hi hj hk hms
    have hij : iN < on ∨ jN < ys.length := by omega
    obtain ⟨T1, X1, e1, st1⟩ := pcA hw X0 hx hby hZ hown e0 N0 O0 a1 ya da P kP ky vs ys on iN jN kN s6 F_o F_p VP VY hv (by omega) hon hi hj hs6 hij
    obtain ⟨T2, h2, L2, X2, e2, N2, O2, K2, V2, st2⟩ := pcB hw X1 hx hby hZ hown e1 N0 O0 a1 ya da kd ms kN (Int32.ofNat (chF vs ys on iN jN).1) (Int32.ofNat (chF vs ys on iN jN).2.1) (chF vs ys on iN jN).2.2 VM g_da (by omega) (by omega)
    obtain ⟨c1, c2, c3, c4⟩ := own_ch vs ys hi hj hij hf
    have lm := own_mglen ms kN (chF vs ys on iN jN).2.2
    have lk := own_mgk ms kN (chF vs ys on iN jN).2.2
    have V2' : Arv Z h2 da kd .int (Int32.ofNat (mgF ms kN (chF vs ys on iN jN).2.2).1.length) ((mgF ms kN (chF vs ys on iN jN).2.2).1.map Value.int) (.int 0) := by rw [lm]; exact V2
    obtain ⟨T3, h3, L3, s3, X3, e3, N3, O3, K3, V3, st3⟩ := ih (chF vs ys on iN jN).1 (chF vs ys on iN jN).2.1 (mgF ms kN (chF vs ys on iN jN).2.2).2 (mgF ms kN (chF vs ys on iN jN).2.2).1 (.val (.int (chF vs ys on iN jN).2.2)) T2 h2 L2 cells slots X2 e2 N2 O2 (F_o.keep K2 (ninS n1 nin0)) (F_p.keep K2 (ninS n1 nin0)) (VP.keep K2 (ninS n2 nin0)) (VY.keep K2 (ninS n3 nin0)) V2' (One.val rfl) c3 c1 c2 (by omega) (by rw [lm]; exact hms)
    have hm : mrF vs ys on (f + 1) iN jN kN ms = mrF vs ys on f (chF vs ys on iN jN).1 (chF vs ys on iN jN).2.1 (mgF ms kN (chF vs ys on iN jN).2.2).2 (mgF ms kN (chF vs ys on iN jN).2.2).1 := by rw [mrF, if_pos hij]
    rw [hm]
    rw [lm] at V3
    exact ⟨T3, h3, L3, s3, X3, e3, N3, O3, K2.trans K3 (allS (Or.inl (List.mem_of_getElem? (i := 0) rfl)) all0), V3, fun target k => st1 target (st2 target (st3 target k))⟩

def Qpip (Z : State) (a r : Addr) (kr : ClassId) (ss : List Addr) (S : List Int32 × Nat × Nat) (n0 : Nat) (v : Option Value) (h : Heap) (L : List Loc) : Prop := ∃ x : Addr, v = some (.ref x) ∧ Fr n0 L ∧ Old Z n0 h ∧ Arv Z h r kr (.object "java/lang/String") (4 : Int32) (ss.map Value.ref) .null ∧ Lst Z h n0 x r S.1 S.2.1 S.2.2 ∧ Exa Z h a "com/example/rivet_context/rivetcontext/factory/TypeListing" ∧ Fld Z h a "com/example/rivet_context/rivetcontext/factory/TypeListing" "inPlace" "Lcom/example/rivet_context/rivetcontext/factory/TypeListing;" .null ∧ a < x

theorem d21_0 : decode prog_105_method_6_code 0 = .ok (.aload_n 0, 1) := by decide +kernel
theorem d21_1 : decode prog_105_method_6_code 1 = .ok (.getfield 16, 3) := by decide +kernel
theorem d21_4 : decode prog_105_method_6_code 4 = .ok (.aload_n 0, 1) := by decide +kernel
theorem d21_5 : decode prog_105_method_6_code 5 = .ok (.getfield 24, 3) := by decide +kernel
theorem d21_8 : decode prog_105_method_6_code 8 = .ok (.aload_n 0, 1) := by decide +kernel
theorem d21_9 : decode prog_105_method_6_code 9 = .ok (.getfield 20, 3) := by decide +kernel
theorem d21_12 : decode prog_105_method_6_code 12 = .ok (.invokestatic 52, 3) := by decide +kernel
theorem d21_15 : decode prog_105_method_6_code 15 = .ok (.astore_n 1, 1) := by decide +kernel
theorem d21_16 : decode prog_105_method_6_code 16 = .ok (.aload_n 1, 1) := by decide +kernel
theorem d21_17 : decode prog_105_method_6_code 17 = .ok (.invokestatic 56, 3) := by decide +kernel
theorem pd16 : parseMethodDescriptor "([I)V" = some ⟨[(.array .int)], none⟩ := by decide +kernel
theorem d21_20 : decode prog_105_method_6_code 20 = .ok (.aload_n 0, 1) := by decide +kernel
theorem d21_21 : decode prog_105_method_6_code 21 = .ok (.getfield 20, 3) := by decide +kernel
theorem d21_24 : decode prog_105_method_6_code 24 = .ok (.newarray .int, 2) := by decide +kernel
theorem d21_26 : decode prog_105_method_6_code 26 = .ok (.astore_n 2, 1) := by decide +kernel
theorem d21_27 : decode prog_105_method_6_code 27 = .ok (.iconst 0, 1) := by decide +kernel
theorem d21_28 : decode prog_105_method_6_code 28 = .ok (.istore_n 3, 1) := by decide +kernel
theorem d21_29 : decode prog_105_method_6_code 29 = .ok (.iconst 0, 1) := by decide +kernel
theorem d21_30 : decode prog_105_method_6_code 30 = .ok (.istore 4, 2) := by decide +kernel
theorem d21_32 : decode prog_105_method_6_code 32 = .ok (.iconst 0, 1) := by decide +kernel
theorem d21_33 : decode prog_105_method_6_code 33 = .ok (.istore 5, 2) := by decide +kernel
theorem d21_131 : decode prog_105_method_6_code 131 = .ok (.new 2, 3) := by decide +kernel
theorem d21_134 : decode prog_105_method_6_code 134 = .ok (.dup, 1) := by decide +kernel
theorem d21_135 : decode prog_105_method_6_code 135 = .ok (.aload_n 0, 1) := by decide +kernel
theorem d21_136 : decode prog_105_method_6_code 136 = .ok (.getfield 12, 3) := by decide +kernel
theorem d21_139 : decode prog_105_method_6_code 139 = .ok (.aload_n 2, 1) := by decide +kernel
theorem d21_140 : decode prog_105_method_6_code 140 = .ok (.iload_n 3, 1) := by decide +kernel
theorem d21_141 : decode prog_105_method_6_code 141 = .ok (.iload_n 3, 1) := by decide +kernel
theorem d21_142 : decode prog_105_method_6_code 142 = .ok (.iconst 1, 1) := by decide +kernel
theorem d21_143 : decode prog_105_method_6_code 143 = .ok (.newarray .int, 2) := by decide +kernel
theorem d21_145 : decode prog_105_method_6_code 145 = .ok (.dup, 1) := by decide +kernel
theorem d21_146 : decode prog_105_method_6_code 146 = .ok (.iconst 0, 1) := by decide +kernel
theorem d21_147 : decode prog_105_method_6_code 147 = .ok (.iload_n 3, 1) := by decide +kernel
theorem d21_148 : decode prog_105_method_6_code 148 = .ok (.iastore, 1) := by decide +kernel
theorem d21_149 : decode prog_105_method_6_code 149 = .ok (.invokespecial 1, 3) := by decide +kernel
theorem d21_152 : decode prog_105_method_6_code 152 = .ok (.areturn, 1) := by decide +kernel
theorem ef_rmpip (m : MethodId) (x0 : Addr) : entryFrame m #[(.ref x0)] 7 = mkF m 0 #[.val (.ref x0), .unset, .unset, .unset, .unset, .unset, .unset] [] := by first | (simp [entryFrame, mkF, argsToLocals, Value.category]; done) | rfl
set_option maxRecDepth 65536 in
set_option maxHeartbeats 40000000 in
theorem rmpip (l : Launch) (Z : State) (a0 : Array Value) (hw : ∀ d ∈ tables_1, d.before a0 Z = true) (ws : List Jvm.Cond) (a1 : Addr) (r : Addr) (kr : ClassId) (ss : List Addr) (vs : List Int32) (cn : Nat) (on : Nat) (h0 : Heap) (n0 : Nat) (O0 : Old Z n0 h0) (HL : Lst Z h0 n0 a1 r vs cn on) (VR : Arv Z h0 r kr (.object "java/lang/String") (4 : Int32) (ss.map Value.ref) .null) (ho1 : 1 ≤ on) (hlt : on < cn) (hc4 : cn ≤ 4) (hcv : cn ≤ vs.length) (hv : vs.length ≤ 8) :
    MetFree l (⟨"com/example/rivet_context/rivetcontext/factory/TypeListing", "putInPlace", "()Lcom/example/rivet_context/rivetcontext/factory/TypeListing;"⟩ : MethodName) (head1 (Jvm.Cond.code (⟨"com/example/rivet_context/rivetcontext/factory/TypeListing", "putInPlace", "()Lcom/example/rivet_context/rivetcontext/factory/TypeListing;"⟩ : MethodName) prog_105_method_6_code 7 (some (.object "com/example/rivet_context/rivetcontext/factory/TypeListing")) :: ws) ({ frames := 4, cells := 4, slots := 16, locals := 79 } : Room)) (fun a U => a = #[(.ref a1)] ∧ Z.Warmed39 U.vm ∧ U.heap = h0) (fun _ _ _ _ _ => True) (fun _ U o U' => ∃ v L, o = .returned v ∧ Qpip Z a1 r kr ss (ordF vs cn on) n0 v U'.heap L ∧ FrameEnd U o U' L ({ frames := 4, cells := 4, slots := 16, locals := 79 } : Room).cells ({ frames := 4, cells := 4, slots := 16, locals := 79 } : Room).slots) := by
  refine MetFree.of_bodySF (plainFor_of_name pn4) hisR ?_
  intro p e s m args below meth c s₁ Bd hml0 hP hK
  obtain ⟨rfl, hZ, hh⟩ := hP
  have hx := Bd.exec
  have hby := Bd.bytes
  have hml : c.maxLocals = 7 := hml0
  have hown : s.vm.findClass "com/example/rivet_context/rivetcontext/factory/TypeListing" = some m.cls := findClass_of_methodNamed Bd.named
  have hnm := (name_of_methodNamed Bd.named Bd.method).1
  have X0 : Stand p l e ({ frames := 4, cells := 4, slots := 16, locals := 79 } : Room) s m #[(.ref a1)] below meth c s₁ [] 0 0 := Stand.of_body Bd
  have e0 : s₁.heap = h0 := by rw [← hh, Bd.state]; rfl
  have N0 := Fr.nil n0
  have pre0 : ∀ t, Steps p.tables e below (s₁.setTop (mkF m 0 #[.val (.ref a1), .unset, .unset, .unset, .unset, .unset, .unset] [])) t → Steps p.tables e below (s₁.setTop (entryFrame m #[(.ref a1)] 7)) t := fun t k => castTop (ef_rmpip m a1) k
  obtain ⟨g_a1, P, kP, Wa, kW, HT, VP, VW, g_P, g_Wa, nPW, rP, rW⟩ := id HL
  obtain ⟨E_a, F_r, F_p, F_c, F_o, F_w, F_i⟩ := id HT
  have VW : Arv Z h0 Wa kW .int (1 : Int32) ([Int32.ofNat cn].map Value.int) (.int 0) := VW
  have hNP : (Int32.ofNat vs.length).toNatClampNeg = vs.length := own_n (by omega)
  have hNW : (1 : Int32).toNatClampNeg = [Int32.ofNat cn].length := by rw [List.length_singleton]; decide
  have n_a1_P : a1 ≠ P := Exa.neArv E_a VP (hw _ (List.mem_of_getElem? (i := 29) rfl))
  have lt_P := VP.lt
  have n_a1_Wa : a1 ≠ Wa := Exa.neArv E_a VW (hw _ (List.mem_of_getElem? (i := 29) rfl))
  have lt_Wa := VW.lt
  have n_a1_r : a1 ≠ r := Exa.neArv E_a VR (hw _ (List.mem_of_getElem? (i := 29) rfl))
  have lt_r := VR.lt
  have lt_a1 := E_a.lt
  obtain ⟨T1, X1, e1, st1⟩ := getF X0 hx hZ hown (host := "") (Or.inl (hw _ (List.mem_of_getElem? (i := 54) rfl))) Via.refl e0 F_p (g := (mkF m 1 #[.val (.ref a1), .unset, .unset, .unset, .unset, .unset, .unset] [(.ref a1)])) rfl rfl (hb hby d21_1)
  obtain ⟨T2, X2, e2, st2⟩ := getF X1 hx hZ hown (host := "") (Or.inl (hw _ (List.mem_of_getElem? (i := 58) rfl))) Via.refl e1 F_o (g := (mkF m 5 #[.val (.ref a1), .unset, .unset, .unset, .unset, .unset, .unset] [(.ref a1), (.ref P)])) rfl rfl (hb hby d21_5)
  obtain ⟨T3, X3, e3, st3⟩ := getF X2 hx hZ hown (host := "") (Or.inl (hw _ (List.mem_of_getElem? (i := 56) rfl))) Via.refl e2 F_c (g := (mkF m 9 #[.val (.ref a1), .unset, .unset, .unset, .unset, .unset, .unset] [(.ref a1), (.int (Int32.ofNat on)), (.ref P)])) rfl rfl (hb hby d21_9)
  obtain ⟨_, _, ⟨T4, L4, k4, n4⟩, -, X4, ⟨Lc4, hQ4, l4, y4, z4⟩, st4⟩ := Jvm.LawKit.callS X3 hx (y := (⟨"java/util/Arrays", "copyOfRange", "([III)[I"⟩ : MethodName)) hown (mvT hZ (hw _ (List.mem_of_getElem? (i := 117) rfl))) (mvT hZ (hw _ (List.mem_of_getElem? (i := 118) rfl))) (mvT hZ (hw _ (List.mem_of_getElem? (i := 75) rfl))) (mvT hZ (hw _ (List.mem_of_getElem? (i := 119) rfl))) (by decide) (backOf (W := 0) (rmcrr l Z a0 hw [] P kP vs on cn h0 n0 O0 VP (by omega) (by omega) (by omega) (by omega) ho1) hZ (hw _ (List.mem_of_getElem? (i := 119) rfl)) (hw _ (List.mem_of_getElem? (i := 75) rfl)) (by decide) (by decide)) (g := (mkF m 12 #[.val (.ref a1), .unset, .unset, .unset, .unset, .unset, .unset] [(.int (Int32.ofNat cn)), (.int (Int32.ofNat on)), (.ref P)])) rfl (by rw [hml]; rfl) (argsL := [(.ref P), (.int (Int32.ofNat on)), (.int (Int32.ofNat cn))]) (rest := []) (lenOf pd12 rfl) rfl (by show 2 * 0 + _ ≤ _; exact Nat.le_of_eq rfl) (hb hby d21_12) (fun _ _ => ⟨rfl, e3, (by decide : 0 + 1 ≤ _), (by decide : 0 + 4 ≤ _)⟩)
  dsimp only [Pt.U, Pt.locs, Pt.cells, Pt.slots] at X4 l4 y4 z4 st4 hQ4
  subst l4 y4 z4
  obtain ⟨h4, e4⟩ : ∃ z, T4.heap = z := ⟨_, rfl⟩
  rw [e4] at hQ4
  obtain ⟨b4, kb4, rfl, Nq4, K4, szb4, Vb4⟩ := hQ4
  have N4 := Fr.app N0 Nq4
  have O5 := O0.keep K4 all0
  have kp6 : Keep h0 h4 [] := (Keep.refl h0 []).trans K4 all0
  have g_b4 : n0 ≤ b4 := Nat.le_trans (own_sz O0) szb4
  have sz_b4 : h0.size ≤ b4 := Nat.le_trans (Keep.refl h0 []).1 szb4
  have lt_P_b4 : P < b4 := Nat.lt_of_lt_of_le lt_P sz_b4
  have lt_Wa_b4 : Wa < b4 := Nat.lt_of_lt_of_le lt_Wa sz_b4
  have lt_r_b4 : r < b4 := Nat.lt_of_lt_of_le lt_r sz_b4
  have lt_a1_b4 : a1 < b4 := Nat.lt_of_lt_of_le lt_a1 sz_b4
  have hxl : ((vs.drop on).take (cn - on)).length = cn - on := by rw [List.length_take, List.length_drop]; omega
  have Vx4 : Arv Z h4 b4 kb4 .int (Int32.ofNat ((vs.drop on).take (cn - on)).length) (((vs.drop on).take (cn - on)).map Value.int) (.int 0) := by rw [hxl]; exact Vb4
  obtain ⟨_, _, ⟨T7, L7, k7, n7⟩, -, X7, ⟨Lc7, hQ7, l7, y7, z7⟩, st7⟩ := Jvm.LawKit.callS X4 hx (y := (⟨"java/util/Arrays", "sort", "([I)V"⟩ : MethodName)) hown (mvT hZ (hw _ (List.mem_of_getElem? (i := 126) rfl))) (mvT hZ (hw _ (List.mem_of_getElem? (i := 127) rfl))) (mvT hZ (hw _ (List.mem_of_getElem? (i := 75) rfl))) (mvT hZ (hw _ (List.mem_of_getElem? (i := 128) rfl))) (by decide) (backOf (W := 0) (rmsr l Z a0 hw [] b4 kb4 ((vs.drop on).take (cn - on)) h4 n0 O5 Vx4 g_b4 (by rw [hxl]; omega) (by rw [hxl]; omega)) hZ (hw _ (List.mem_of_getElem? (i := 128) rfl)) (hw _ (List.mem_of_getElem? (i := 75) rfl)) (by decide) (by decide)) (g := (mkF m 17 #[.val (.ref a1), .val (.ref b4), .unset, .unset, .unset, .unset, .unset] [(.ref b4)])) rfl (by rw [hml]; rfl) (argsL := [(.ref b4)]) (rest := []) (lenOf pd16 rfl) rfl (by show 2 * 0 + _ ≤ _; exact Nat.le_of_eq rfl) (hb hby d21_17) (fun _ _ => ⟨rfl, e4, (by decide : 1 + 0 ≤ _), (by decide : 4 + 0 ≤ _)⟩)
  dsimp only [Pt.U, Pt.locs, Pt.cells, Pt.slots] at X7 l7 y7 z7 st7 hQ7
  subst l7 y7 z7
  obtain ⟨h7, e7⟩ : ∃ z, T7.heap = z := ⟨_, rfl⟩
  rw [e7] at hQ7
  obtain ⟨rfl, Nq7, K7, Vs7⟩ := hQ7
  have N7 := Fr.app N4 Nq7
  have O8 := O5.keep K7 (allS g_b4 all0)
  have kp9 : Keep h0 h7 [] := kp6.trans K7 (allS (Or.inr sz_b4) all0)
  have Vy7 : Arv Z h7 b4 kb4 .int (Int32.ofNat (srtF ((vs.drop on).take (cn - on))).length) ((srtF ((vs.drop on).take (cn - on))).map Value.int) (.int 0) := by rw [own_srtlen]; exact Vs7
  have hyl : (srtF ((vs.drop on).take (cn - on))).length = cn - on := by rw [own_srtlen]; exact hxl
  obtain ⟨T10, X10, e10, st10⟩ := getF X7 hx hZ hown (host := "") (Or.inl (hw _ (List.mem_of_getElem? (i := 56) rfl))) Via.refl e7 ((F_c.keep K4 nin0).keep K7 (ninS (Nat.ne_of_lt lt_a1_b4) nin0)) (g := (mkF m 21 #[.val (.ref a1), .val (.ref b4), .unset, .unset, .unset, .unset, .unset] [(.ref a1)])) rfl rfl (hb hby d21_21)
  obtain ⟨T11, h11, k11, X11, e11, E11, A11, st11⟩ := newP X10 hx hZ (hw _ (List.mem_of_getElem? (i := 34) rfl)) e10 (g := (mkF m 24 #[.val (.ref a1), .val (.ref b4), .unset, .unset, .unset, .unset, .unset] [(.int (Int32.ofNat cn))])) rfl (hb hby d21_24) rfl (own_nn (by omega)) (cap := 4) (by rw [own_n (by omega)]; omega) (by decide) (by decide) (by decide)
  obtain ⟨b11, g11⟩ : ∃ z, z = h7.size := ⟨_, rfl⟩
  rw [← g11] at A11 st11
  have g_b11 : n0 ≤ b11 := by rw [g11]; exact Nat.le_trans (Nat.le_of_eq O8.1.symm) O8.2.1
  have sz_b11 : h0.size ≤ b11 := by rw [g11]; exact kp9.1
  have lt_b4_b11 : b4 < b11 := by rw [g11]; exact Vy7.lt
  have lt_P_b11 : P < b11 := Nat.lt_of_lt_of_le lt_P sz_b11
  have lt_Wa_b11 : Wa < b11 := Nat.lt_of_lt_of_le lt_Wa sz_b11
  have lt_r_b11 : r < b11 := Nat.lt_of_lt_of_le lt_r sz_b11
  have lt_a1_b11 : a1 < b11 := Nat.lt_of_lt_of_le lt_a1 sz_b11
  have O12 := O8.ext E11
  have kp13 : Keep h0 h11 [] := kp9.ext E11
  have V_b11 := (Arv.new A11 (own_nn (by omega)))
  have Vz11 : Arv Z h11 b11 k11 .int (Int32.ofNat (List.replicate cn (0 : Int32)).length) ((List.replicate cn (0 : Int32)).map Value.int) (.int 0) := by rw [List.map_replicate, List.length_replicate]; exact V_b11.pad (pad_rep [] (.int 0) cn)
  obtain ⟨T14, h14, L14, s6_14, X14, e14, N14, Om14, K14, Vm14, st14⟩ := own_loop (a1 := a1) (ya := b4) (da := b11) (P := P) (kP := kP) (ky := kb4) (kd := k11) (vs := vs) (ys := (srtF ((vs.drop on).take (cn - on)))) (on := on) hw hx hby hZ hown (by omega) (by omega) (by rw [hyl]; omega) g_b11 (Nat.ne_of_lt lt_a1_b11) (Nat.ne_of_lt lt_P_b11) (Nat.ne_of_lt lt_b4_b11) (on + (srtF ((vs.drop on).take (cn - on))).length) 0 0 0 (List.replicate cn 0) .unset T11 h11 _ _ _ X11 e11 N7 O12 (((F_o.keep K4 nin0).keep K7 (ninS (Nat.ne_of_lt lt_a1_b4) nin0)).ext E11) (((F_p.keep K4 nin0).keep K7 (ninS (Nat.ne_of_lt lt_a1_b4) nin0)).ext E11) (((VP.keep K4 nin0).keep K7 (ninS (Nat.ne_of_lt lt_P_b4) nin0)).ext E11) (Vy7.ext E11) Vz11 One.u (by omega) (by omega) (by omega) (by omega) (by rw [hyl, List.length_replicate]; omega)
  have O15 := O12.keep K14 (allS g_b11 all0)
  have kp16 : Keep h0 h14 [] := kp13.trans K14 (allS (Or.inr sz_b11) all0)
  obtain ⟨T17, h17, X17, e17, E17, A17, D17, U17, st17⟩ := newO X14 hx hZ hown (hw _ (List.mem_of_getElem? (i := 94) rfl)) (hw _ (List.mem_of_getElem? (i := 29) rfl)) (hw _ (List.mem_of_getElem? (i := 30) rfl)) e14 (g := (mkF m 131 #[.val (.ref a1), .val (.ref b4), .val (.ref b11), .val (.int (Int32.ofNat (mrF vs (srtF ((vs.drop on).take (cn - on))) on (on + (srtF ((vs.drop on).take (cn - on))).length) 0 0 0 (List.replicate cn 0)).2)), .val (.int (Int32.ofNat on)), .val (.int (Int32.ofNat (srtF ((vs.drop on).take (cn - on))).length)), s6_14] [])) rfl (hb hby d21_131) (by decide) (by decide)
  obtain ⟨b17, g17⟩ : ∃ z, z = h14.size := ⟨_, rfl⟩
  rw [← g17] at A17 D17 U17 st17
  have g_b17 : n0 ≤ b17 := by rw [g17]; exact Nat.le_trans (Nat.le_of_eq O15.1.symm) O15.2.1
  have sz_b17 : h0.size ≤ b17 := by rw [g17]; exact kp16.1
  have lt_b4_b17 : b4 < b17 := by rw [g17]; exact ((Vy7.ext E11).keep K14 (ninS (Nat.ne_of_lt lt_b4_b11) nin0)).lt
  have lt_b11_b17 : b11 < b17 := by rw [g17]; exact Vm14.lt
  have lt_P_b17 : P < b17 := Nat.lt_of_lt_of_le lt_P sz_b17
  have lt_Wa_b17 : Wa < b17 := Nat.lt_of_lt_of_le lt_Wa sz_b17
  have lt_r_b17 : r < b17 := Nat.lt_of_lt_of_le lt_r sz_b17
  have lt_a1_b17 : a1 < b17 := Nat.lt_of_lt_of_le lt_a1 sz_b17
  have O18 := O15.ext E17
  have kp19 : Keep h0 h17 [] := kp16.ext E17
  have F_modCount_b17 : Fld Z h17 b17 "java/util/AbstractList" "modCount" "I" (.int 0) := D17 (Or.inl (hw _ (List.mem_of_getElem? (i := 51) rfl))) (ty := .int) (by decide)
  have F_registered_b17 : Fld Z h17 b17 "com/example/rivet_context/rivetcontext/factory/TypeListing" "registered" "[Ljava/lang/String;" .null := D17 (Or.inr (hw _ (List.mem_of_getElem? (i := 53) rfl))) (ty := (.array (.object "java/lang/String"))) (by decide)
  have F_places_b17 : Fld Z h17 b17 "com/example/rivet_context/rivetcontext/factory/TypeListing" "places" "[I" .null := D17 (Or.inr (hw _ (List.mem_of_getElem? (i := 55) rfl))) (ty := (.array .int)) (by decide)
  have F_count_b17 : Fld Z h17 b17 "com/example/rivet_context/rivetcontext/factory/TypeListing" "count" "I" (.int 0) := D17 (Or.inr (hw _ (List.mem_of_getElem? (i := 57) rfl))) (ty := .int) (by decide)
  have F_ordered_b17 : Fld Z h17 b17 "com/example/rivet_context/rivetcontext/factory/TypeListing" "ordered" "I" (.int 0) := D17 (Or.inr (hw _ (List.mem_of_getElem? (i := 59) rfl))) (ty := .int) (by decide)
  have F_written_b17 : Fld Z h17 b17 "com/example/rivet_context/rivetcontext/factory/TypeListing" "written" "[I" .null := D17 (Or.inr (hw _ (List.mem_of_getElem? (i := 61) rfl))) (ty := (.array .int)) (by decide)
  have F_inPlace_b17 : Fld Z h17 b17 "com/example/rivet_context/rivetcontext/factory/TypeListing" "inPlace" "Lcom/example/rivet_context/rivetcontext/factory/TypeListing;" .null := D17 (Or.inl (hw _ (List.mem_of_getElem? (i := 68) rfl))) (ty := (.object "com/example/rivet_context/rivetcontext/factory/TypeListing")) (by decide)
  obtain ⟨T20, X20, e20, st20⟩ := getF X17 hx hZ hown (host := "") (Or.inl (hw _ (List.mem_of_getElem? (i := 52) rfl))) Via.refl e17 (((((F_r.keep K4 nin0).keep K7 (ninS (Nat.ne_of_lt lt_a1_b4) nin0)).ext E11).keep K14 (ninS (Nat.ne_of_lt lt_a1_b11) nin0)).ext E17) (g := (mkF m 136 #[.val (.ref a1), .val (.ref b4), .val (.ref b11), .val (.int (Int32.ofNat (mrF vs (srtF ((vs.drop on).take (cn - on))) on (on + (srtF ((vs.drop on).take (cn - on))).length) 0 0 0 (List.replicate cn 0)).2)), .val (.int (Int32.ofNat on)), .val (.int (Int32.ofNat (srtF ((vs.drop on).take (cn - on))).length)), s6_14] [(.ref a1), (.ref b17), (.ref b17)])) rfl rfl (hb hby d21_136)
  obtain ⟨T21, h21, k21, X21, e21, E21, A21, st21⟩ := newP X20 hx hZ (hw _ (List.mem_of_getElem? (i := 34) rfl)) e20 (g := (mkF m 143 #[.val (.ref a1), .val (.ref b4), .val (.ref b11), .val (.int (Int32.ofNat (mrF vs (srtF ((vs.drop on).take (cn - on))) on (on + (srtF ((vs.drop on).take (cn - on))).length) 0 0 0 (List.replicate cn 0)).2)), .val (.int (Int32.ofNat on)), .val (.int (Int32.ofNat (srtF ((vs.drop on).take (cn - on))).length)), s6_14] [(.int 1), (.int (Int32.ofNat (mrF vs (srtF ((vs.drop on).take (cn - on))) on (on + (srtF ((vs.drop on).take (cn - on))).length) 0 0 0 (List.replicate cn 0)).2)), (.int (Int32.ofNat (mrF vs (srtF ((vs.drop on).take (cn - on))) on (on + (srtF ((vs.drop on).take (cn - on))).length) 0 0 0 (List.replicate cn 0)).2)), (.ref b11), (.ref r), (.ref b17), (.ref b17)])) rfl (hb hby d21_143) rfl (by decide) (cap := 1) (by decide) (by decide) (by decide) (by decide)
  obtain ⟨b21, g21⟩ : ∃ z, z = h17.size := ⟨_, rfl⟩
  rw [← g21] at A21 st21
  have g_b21 : n0 ≤ b21 := by rw [g21]; exact Nat.le_trans (Nat.le_of_eq O18.1.symm) O18.2.1
  have sz_b21 : h0.size ≤ b21 := by rw [g21]; exact kp19.1
  have lt_b4_b21 : b4 < b21 := by rw [g21]; exact (((Vy7.ext E11).keep K14 (ninS (Nat.ne_of_lt lt_b4_b11) nin0)).ext E17).lt
  have lt_b11_b21 : b11 < b21 := by rw [g21]; exact (Vm14.ext E17).lt
  have lt_b17_b21 : b17 < b21 := by rw [g21]; exact A17.lt
  have lt_P_b21 : P < b21 := Nat.lt_of_lt_of_le lt_P sz_b21
  have lt_Wa_b21 : Wa < b21 := Nat.lt_of_lt_of_le lt_Wa sz_b21
  have lt_r_b21 : r < b21 := Nat.lt_of_lt_of_le lt_r sz_b21
  have lt_a1_b21 : a1 < b21 := Nat.lt_of_lt_of_le lt_a1 sz_b21
  have O22 := O18.ext E21
  have kp23 : Keep h0 h21 [] := kp19.ext E21
  have V_b21 : Arv Z h21 b21 k21 .int (1 : Int32) [(.int 0)] (.int 0) := (Arv.new A21 (by decide)).pad (pad_rep [] (.int 0) 1)
  obtain ⟨cl24, Ar24, q24, Sz24, Nn24, Ha24, Gf24⟩ := V_b21
  have hin24 : ¬ ((0 : Int32) < 0 ∨ cl24.slots.size ≤ ((0 : Int32)).toNatClampNeg) := inb_of Sz24 ⟨by decide, by decide⟩
  obtain ⟨T25, h25, X25, e25, W25, st25⟩ := stI X21 hx hZ e21 Ar24 (j := (0 : Int32)) hin24 (g := (mkF m 148 #[.val (.ref a1), .val (.ref b4), .val (.ref b11), .val (.int (Int32.ofNat (mrF vs (srtF ((vs.drop on).take (cn - on))) on (on + (srtF ((vs.drop on).take (cn - on))).length) 0 0 0 (List.replicate cn 0)).2)), .val (.int (Int32.ofNat on)), .val (.int (Int32.ofNat (srtF ((vs.drop on).take (cn - on))).length)), s6_14] [(.int (Int32.ofNat (mrF vs (srtF ((vs.drop on).take (cn - on))) on (on + (srtF ((vs.drop on).take (cn - on))).length) 0 0 0 (List.replicate cn 0)).2)), (.int 0), (.ref b21), (.ref b21), (.int (Int32.ofNat (mrF vs (srtF ((vs.drop on).take (cn - on))) on (on + (srtF ((vs.drop on).take (cn - on))).length) 0 0 0 (List.replicate cn 0)).2)), (.int (Int32.ofNat (mrF vs (srtF ((vs.drop on).take (cn - on))) on (on + (srtF ((vs.drop on).take (cn - on))).length) 0 0 0 (List.replicate cn 0)).2)), (.ref b11), (.ref r), (.ref b17), (.ref b17)])) rfl rfl (hb hby d21_148)
  have Va25 := Arv.set Ar24 q24 Sz24 Nn24 Ha24 Gf24 rfl W25 0 rfl (Nat.le_of_ble_eq_true rfl)
  have Vb25 : Arv Z h25 b21 k21 .int (1 : Int32) [(.int (Int32.ofNat (mrF vs (srtF ((vs.drop on).take (cn - on))) on (on + (srtF ((vs.drop on).take (cn - on))).length) 0 0 0 (List.replicate cn 0)).2))] (.int 0) := Va25
  have O26 := O22.wr W25 g_b21
  have kp27 : Keep h0 h25 [] := kp23.wr W25 (Or.inr sz_b21)
  have N25 := Fr.snoc X25 N14 g_b21
  obtain ⟨_, _, ⟨T28, L28, k28, n28⟩, -, X28, ⟨Lc28, hQ28, l28, y28, z28⟩, st28⟩ := X25.specialBack hx (y := (⟨"com/example/rivet_context/rivetcontext/factory/TypeListing", "<init>", "([Ljava/lang/String;[III[I)V"⟩ : MethodName)) rfl hown (mvT hZ (hw _ (List.mem_of_getElem? (i := 35) rfl))) (mvT hZ (hw _ (List.mem_of_getElem? (i := 36) rfl))) (mvT hZ (hw _ (List.mem_of_getElem? (i := 37) rfl))) (by decide) (backOf (W := 1) (rmi5 l Z a0 hw [] b17 r b11 (Int32.ofNat (mrF vs (srtF ((vs.drop on).take (cn - on))) on (on + (srtF ((vs.drop on).take (cn - on))).length) 0 0 0 (List.replicate cn 0)).2) (Int32.ofNat (mrF vs (srtF ((vs.drop on).take (cn - on))) on (on + (srtF ((vs.drop on).take (cn - on))).length) 0 0 0 (List.replicate cn 0)).2) b21 h25 n0 O26 ⟨((A17.ext E21).wr W25), ((F_registered_b17.ext E21).other W25 (Or.inl (Nat.ne_of_lt lt_b17_b21))), ((F_places_b17.ext E21).other W25 (Or.inl (Nat.ne_of_lt lt_b17_b21))), ((F_count_b17.ext E21).other W25 (Or.inl (Nat.ne_of_lt lt_b17_b21))), ((F_ordered_b17.ext E21).other W25 (Or.inl (Nat.ne_of_lt lt_b17_b21))), ((F_written_b17.ext E21).other W25 (Or.inl (Nat.ne_of_lt lt_b17_b21))), ((F_inPlace_b17.ext E21).other W25 (Or.inl (Nat.ne_of_lt lt_b17_b21)))⟩ ((F_modCount_b17.ext E21).other W25 (Or.inl (Nat.ne_of_lt lt_b17_b21))) g_b17) hZ (hw _ (List.mem_of_getElem? (i := 37) rfl)) (hw _ (List.mem_of_getElem? (i := 30) rfl)) (by decide) (by decide)) (g := (mkF m 149 #[.val (.ref a1), .val (.ref b4), .val (.ref b11), .val (.int (Int32.ofNat (mrF vs (srtF ((vs.drop on).take (cn - on))) on (on + (srtF ((vs.drop on).take (cn - on))).length) 0 0 0 (List.replicate cn 0)).2)), .val (.int (Int32.ofNat on)), .val (.int (Int32.ofNat (srtF ((vs.drop on).take (cn - on))).length)), s6_14] [(.ref b21), (.int (Int32.ofNat (mrF vs (srtF ((vs.drop on).take (cn - on))) on (on + (srtF ((vs.drop on).take (cn - on))).length) 0 0 0 (List.replicate cn 0)).2)), (.int (Int32.ofNat (mrF vs (srtF ((vs.drop on).take (cn - on))) on (on + (srtF ((vs.drop on).take (cn - on))).length) 0 0 0 (List.replicate cn 0)).2)), (.ref b11), (.ref r), (.ref b17), (.ref b17)])) rfl (by rw [hml]; rfl) (Steps.refl _) (a := b17) (argsL := [(.ref r), (.ref b11), (.int (Int32.ofNat (mrF vs (srtF ((vs.drop on).take (cn - on))) on (on + (srtF ((vs.drop on).take (cn - on))).length) 0 0 0 (List.replicate cn 0)).2)), (.int (Int32.ofNat (mrF vs (srtF ((vs.drop on).take (cn - on))) on (on + (srtF ((vs.drop on).take (cn - on))).length) 0 0 0 (List.replicate cn 0)).2)), (.ref b21)]) (rest := [(.ref b17)]) (lenOf pd4 rfl) rfl (by show 2 * 0 + _ ≤ _; exact Nat.le_of_eq rfl) (hb hby d21_149) (fun _ _ => ⟨rfl, e25, (by decide : 4 + 0 ≤ _), (by decide : 16 + 0 ≤ _)⟩)
  dsimp only [Pt.U, Pt.locs, Pt.cells, Pt.slots] at X28 l28 y28 z28 st28 hQ28
  subst l28 y28 z28
  obtain ⟨h28, e28⟩ : ∃ z, T28.heap = z := ⟨_, rfl⟩
  rw [e28] at hQ28
  obtain ⟨rfl, Nq28, K28, HT28⟩ := hQ28
  have N28 := Fr.app N25 Nq28
  have O29 := O26.keep K28 (allS g_b17 all0)
  have kp30 : Keep h0 h28 [] := kp27.trans K28 (allS (Or.inr sz_b17) all0)
  have LP : Lst Z h28 n0 b17 r (mrF vs (srtF ((vs.drop on).take (cn - on))) on (on + (srtF ((vs.drop on).take (cn - on))).length) 0 0 0 (List.replicate cn 0)).1 (mrF vs (srtF ((vs.drop on).take (cn - on))) on (on + (srtF ((vs.drop on).take (cn - on))).length) 0 0 0 (List.replicate cn 0)).2 (mrF vs (srtF ((vs.drop on).take (cn - on))) on (on + (srtF ((vs.drop on).take (cn - on))).length) 0 0 0 (List.replicate cn 0)).2 := by
    refine ⟨g_b17, b11, k11, b21, k21, HT28, ?_, (Vb25.keep K28 (ninS (Ne.symm (Nat.ne_of_lt lt_b17_b21)) nin0)), g_b11, g_b21, (Nat.ne_of_lt lt_b11_b21), lt_r_b11, lt_r_b21⟩
    rw [own_mrlen]; exact ((((Vm14.ext E17).ext E21).other W25 (Nat.ne_of_lt lt_b11_b21)).keep K28 (ninS (Nat.ne_of_lt lt_b11_b17) nin0))
  have hord : ordF vs cn on = ((mrF vs (srtF ((vs.drop on).take (cn - on))) on (on + (srtF ((vs.drop on).take (cn - on))).length) 0 0 0 (List.replicate cn 0)).1, (mrF vs (srtF ((vs.drop on).take (cn - on))) on (on + (srtF ((vs.drop on).take (cn - on))).length) 0 0 0 (List.replicate cn 0)).2, (mrF vs (srtF ((vs.drop on).take (cn - on))) on (on + (srtF ((vs.drop on).take (cn - on))).length) 0 0 0 (List.replicate cn 0)).2) := if_neg (by omega)
  obtain ⟨fs, hr, hrun, hended, hW, hsame⟩ := X28.leave (v := some (.ref b17)) (fun h => by rw [Bd.returns] at h; cases h)
  refine ⟨_, _, pre0 _ ?_, hrun, hended, _, _, rfl, ?_, ⟨_, rfl⟩, hW, hsame.mono (by decide) (by decide)⟩
  · show Steps p.tables e below (s₁.setTop (mkF m 0 #[.val (.ref a1), .unset, .unset, .unset, .unset, .unset, .unset] [])) _
    refine XS.aloadN X0.here hx rfl (hb hby d21_0) rfl rfl ?_
    show Steps p.tables e below (s₁.setTop (mkF m 1 #[.val (.ref a1), .unset, .unset, .unset, .unset, .unset, .unset] [(.ref a1)])) _
    refine st1 _ ?_
    show Steps p.tables e below (T1.setTop (mkF m 4 #[.val (.ref a1), .unset, .unset, .unset, .unset, .unset, .unset] [(.ref P)])) _
    refine XS.aloadN X1.here hx rfl (hb hby d21_4) rfl rfl ?_
    show Steps p.tables e below (T1.setTop (mkF m 5 #[.val (.ref a1), .unset, .unset, .unset, .unset, .unset, .unset] [(.ref a1), (.ref P)])) _
    refine st2 _ ?_
    show Steps p.tables e below (T2.setTop (mkF m 8 #[.val (.ref a1), .unset, .unset, .unset, .unset, .unset, .unset] [(.int (Int32.ofNat on)), (.ref P)])) _
    refine XS.aloadN X2.here hx rfl (hb hby d21_8) rfl rfl ?_
    show Steps p.tables e below (T2.setTop (mkF m 9 #[.val (.ref a1), .unset, .unset, .unset, .unset, .unset, .unset] [(.ref a1), (.int (Int32.ofNat on)), (.ref P)])) _
    refine st3 _ ?_
    show Steps p.tables e below (T3.setTop (mkF m 12 #[.val (.ref a1), .unset, .unset, .unset, .unset, .unset, .unset] [(.int (Int32.ofNat cn)), (.int (Int32.ofNat on)), (.ref P)])) _
    refine st4 _ ?_
    show Steps p.tables e below (T4.setTop (mkF m 15 #[.val (.ref a1), .unset, .unset, .unset, .unset, .unset, .unset] [(.ref b4)])) _
    refine XS.astoreN X4.here hx rfl (hb hby d21_15) rfl rfl (l' := #[.val (.ref a1), .val (.ref b4), .unset, .unset, .unset, .unset, .unset]) rfl ?_
    refine XS.aloadN X4.here hx rfl (hb hby d21_16) rfl rfl ?_
    show Steps p.tables e below (T4.setTop (mkF m 17 #[.val (.ref a1), .val (.ref b4), .unset, .unset, .unset, .unset, .unset] [(.ref b4)])) _
    refine st7 _ ?_
    show Steps p.tables e below (T7.setTop (mkF m 20 #[.val (.ref a1), .val (.ref b4), .unset, .unset, .unset, .unset, .unset] [])) _
    refine XS.aloadN X7.here hx rfl (hb hby d21_20) rfl rfl ?_
    show Steps p.tables e below (T7.setTop (mkF m 21 #[.val (.ref a1), .val (.ref b4), .unset, .unset, .unset, .unset, .unset] [(.ref a1)])) _
    refine st10 _ ?_
    show Steps p.tables e below (T10.setTop (mkF m 24 #[.val (.ref a1), .val (.ref b4), .unset, .unset, .unset, .unset, .unset] [(.int (Int32.ofNat cn))])) _
    refine st11 _ ?_
    show Steps p.tables e below (T11.setTop (mkF m 26 #[.val (.ref a1), .val (.ref b4), .unset, .unset, .unset, .unset, .unset] [(.ref b11)])) _
    refine XS.astoreN X11.here hx rfl (hb hby d21_26) rfl rfl (l' := #[.val (.ref a1), .val (.ref b4), .val (.ref b11), .unset, .unset, .unset, .unset]) rfl ?_
    refine XS.iconst X11.here hx rfl (hb hby d21_27) ?_
    refine XS.istoreN X11.here hx rfl (hb hby d21_28) rfl (l' := #[.val (.ref a1), .val (.ref b4), .val (.ref b11), .val (.int 0), .unset, .unset, .unset]) rfl ?_
    refine XS.iconst X11.here hx rfl (hb hby d21_29) ?_
    refine XS.istore X11.here hx rfl (hb hby d21_30) rfl (l' := #[.val (.ref a1), .val (.ref b4), .val (.ref b11), .val (.int 0), .val (.int 0), .unset, .unset]) rfl ?_
    refine XS.iconst X11.here hx rfl (hb hby d21_32) ?_
    refine XS.istore X11.here hx rfl (hb hby d21_33) rfl (l' := #[.val (.ref a1), .val (.ref b4), .val (.ref b11), .val (.int 0), .val (.int 0), .val (.int 0), .unset]) rfl ?_
    show Steps p.tables e below (T11.setTop (mkF m 35 #[.val (.ref a1), .val (.ref b4), .val (.ref b11), .val (.int 0), .val (.int 0), .val (.int 0), .unset] [])) _
    refine st14 _ ?_
    show Steps p.tables e below (T14.setTop (mkF m 131 #[.val (.ref a1), .val (.ref b4), .val (.ref b11), .val (.int (Int32.ofNat (mrF vs (srtF ((vs.drop on).take (cn - on))) on (on + (srtF ((vs.drop on).take (cn - on))).length) 0 0 0 (List.replicate cn 0)).2)), .val (.int (Int32.ofNat on)), .val (.int (Int32.ofNat (srtF ((vs.drop on).take (cn - on))).length)), s6_14] [])) _
    refine st17 _ ?_
    show Steps p.tables e below (T17.setTop (mkF m 134 #[.val (.ref a1), .val (.ref b4), .val (.ref b11), .val (.int (Int32.ofNat (mrF vs (srtF ((vs.drop on).take (cn - on))) on (on + (srtF ((vs.drop on).take (cn - on))).length) 0 0 0 (List.replicate cn 0)).2)), .val (.int (Int32.ofNat on)), .val (.int (Int32.ofNat (srtF ((vs.drop on).take (cn - on))).length)), s6_14] [(.ref b17)])) _
    refine XS.dup X17.here hx rfl (hb hby d21_134) rfl rfl ?_
    refine XS.aloadN X17.here hx rfl (hb hby d21_135) rfl rfl ?_
    show Steps p.tables e below (T17.setTop (mkF m 136 #[.val (.ref a1), .val (.ref b4), .val (.ref b11), .val (.int (Int32.ofNat (mrF vs (srtF ((vs.drop on).take (cn - on))) on (on + (srtF ((vs.drop on).take (cn - on))).length) 0 0 0 (List.replicate cn 0)).2)), .val (.int (Int32.ofNat on)), .val (.int (Int32.ofNat (srtF ((vs.drop on).take (cn - on))).length)), s6_14] [(.ref a1), (.ref b17), (.ref b17)])) _
    refine st20 _ ?_
    show Steps p.tables e below (T20.setTop (mkF m 139 #[.val (.ref a1), .val (.ref b4), .val (.ref b11), .val (.int (Int32.ofNat (mrF vs (srtF ((vs.drop on).take (cn - on))) on (on + (srtF ((vs.drop on).take (cn - on))).length) 0 0 0 (List.replicate cn 0)).2)), .val (.int (Int32.ofNat on)), .val (.int (Int32.ofNat (srtF ((vs.drop on).take (cn - on))).length)), s6_14] [(.ref r), (.ref b17), (.ref b17)])) _
    refine XS.aloadN X20.here hx rfl (hb hby d21_139) rfl rfl ?_
    refine XS.iloadN X20.here hx rfl (hb hby d21_140) rfl ?_
    refine XS.iloadN X20.here hx rfl (hb hby d21_141) rfl ?_
    refine XS.iconst X20.here hx rfl (hb hby d21_142) ?_
    show Steps p.tables e below (T20.setTop (mkF m 143 #[.val (.ref a1), .val (.ref b4), .val (.ref b11), .val (.int (Int32.ofNat (mrF vs (srtF ((vs.drop on).take (cn - on))) on (on + (srtF ((vs.drop on).take (cn - on))).length) 0 0 0 (List.replicate cn 0)).2)), .val (.int (Int32.ofNat on)), .val (.int (Int32.ofNat (srtF ((vs.drop on).take (cn - on))).length)), s6_14] [(.int 1), (.int (Int32.ofNat (mrF vs (srtF ((vs.drop on).take (cn - on))) on (on + (srtF ((vs.drop on).take (cn - on))).length) 0 0 0 (List.replicate cn 0)).2)), (.int (Int32.ofNat (mrF vs (srtF ((vs.drop on).take (cn - on))) on (on + (srtF ((vs.drop on).take (cn - on))).length) 0 0 0 (List.replicate cn 0)).2)), (.ref b11), (.ref r), (.ref b17), (.ref b17)])) _
    refine st21 _ ?_
    show Steps p.tables e below (T21.setTop (mkF m 145 #[.val (.ref a1), .val (.ref b4), .val (.ref b11), .val (.int (Int32.ofNat (mrF vs (srtF ((vs.drop on).take (cn - on))) on (on + (srtF ((vs.drop on).take (cn - on))).length) 0 0 0 (List.replicate cn 0)).2)), .val (.int (Int32.ofNat on)), .val (.int (Int32.ofNat (srtF ((vs.drop on).take (cn - on))).length)), s6_14] [(.ref b21), (.int (Int32.ofNat (mrF vs (srtF ((vs.drop on).take (cn - on))) on (on + (srtF ((vs.drop on).take (cn - on))).length) 0 0 0 (List.replicate cn 0)).2)), (.int (Int32.ofNat (mrF vs (srtF ((vs.drop on).take (cn - on))) on (on + (srtF ((vs.drop on).take (cn - on))).length) 0 0 0 (List.replicate cn 0)).2)), (.ref b11), (.ref r), (.ref b17), (.ref b17)])) _
    refine XS.dup X21.here hx rfl (hb hby d21_145) rfl rfl ?_
    refine XS.iconst X21.here hx rfl (hb hby d21_146) ?_
    refine XS.iloadN X21.here hx rfl (hb hby d21_147) rfl ?_
    show Steps p.tables e below (T21.setTop (mkF m 148 #[.val (.ref a1), .val (.ref b4), .val (.ref b11), .val (.int (Int32.ofNat (mrF vs (srtF ((vs.drop on).take (cn - on))) on (on + (srtF ((vs.drop on).take (cn - on))).length) 0 0 0 (List.replicate cn 0)).2)), .val (.int (Int32.ofNat on)), .val (.int (Int32.ofNat (srtF ((vs.drop on).take (cn - on))).length)), s6_14] [(.int (Int32.ofNat (mrF vs (srtF ((vs.drop on).take (cn - on))) on (on + (srtF ((vs.drop on).take (cn - on))).length) 0 0 0 (List.replicate cn 0)).2)), (.int 0), (.ref b21), (.ref b21), (.int (Int32.ofNat (mrF vs (srtF ((vs.drop on).take (cn - on))) on (on + (srtF ((vs.drop on).take (cn - on))).length) 0 0 0 (List.replicate cn 0)).2)), (.int (Int32.ofNat (mrF vs (srtF ((vs.drop on).take (cn - on))) on (on + (srtF ((vs.drop on).take (cn - on))).length) 0 0 0 (List.replicate cn 0)).2)), (.ref b11), (.ref r), (.ref b17), (.ref b17)])) _
    refine st25 _ ?_
    show Steps p.tables e below (T25.setTop (mkF m 149 #[.val (.ref a1), .val (.ref b4), .val (.ref b11), .val (.int (Int32.ofNat (mrF vs (srtF ((vs.drop on).take (cn - on))) on (on + (srtF ((vs.drop on).take (cn - on))).length) 0 0 0 (List.replicate cn 0)).2)), .val (.int (Int32.ofNat on)), .val (.int (Int32.ofNat (srtF ((vs.drop on).take (cn - on))).length)), s6_14] [(.ref b21), (.int (Int32.ofNat (mrF vs (srtF ((vs.drop on).take (cn - on))) on (on + (srtF ((vs.drop on).take (cn - on))).length) 0 0 0 (List.replicate cn 0)).2)), (.int (Int32.ofNat (mrF vs (srtF ((vs.drop on).take (cn - on))) on (on + (srtF ((vs.drop on).take (cn - on))).length) 0 0 0 (List.replicate cn 0)).2)), (.ref b11), (.ref r), (.ref b17), (.ref b17)])) _
    refine st28.trans ?_
    show Steps p.tables e below (T28.setTop (mkF m 152 #[.val (.ref a1), .val (.ref b4), .val (.ref b11), .val (.int (Int32.ofNat (mrF vs (srtF ((vs.drop on).take (cn - on))) on (on + (srtF ((vs.drop on).take (cn - on))).length) 0 0 0 (List.replicate cn 0)).2)), .val (.int (Int32.ofNat on)), .val (.int (Int32.ofNat (srtF ((vs.drop on).take (cn - on))).length)), s6_14] [(.ref b17)])) _
    exact retOut X28 hx Bd.returns rfl (Or.inr (Or.inr (Or.inr (Or.inr ⟨rfl, rfl, rfl⟩)))) (hb hby d21_152) hr
  · show Qpip Z a1 r kr ss (ordF vs cn on) n0 _ T28.heap _
    rw [e28]
    exact ⟨b17, rfl, N28, O29, ((((((((VR.keep K4 nin0).keep K7 (ninS (Nat.ne_of_lt lt_r_b4) nin0)).ext E11).keep K14 (ninS (Nat.ne_of_lt lt_r_b11) nin0)).ext E17).ext E21).other W25 (Nat.ne_of_lt lt_r_b21)).keep K28 (ninS (Nat.ne_of_lt lt_r_b17) nin0)), by rw [hord]; exact LP, ((((((((E_a.keep K4).keep K7).ext E11).keep K14).ext E17).ext E21).wr W25).keep K28), ((((((((F_i.keep K4 nin0).keep K7 (ninS (Nat.ne_of_lt lt_a1_b4) nin0)).ext E11).keep K14 (ninS (Nat.ne_of_lt lt_a1_b11) nin0)).ext E17).ext E21).other W25 (Or.inl (Nat.ne_of_lt lt_a1_b21))).keep K28 (ninS (Nat.ne_of_lt lt_a1_b17) nin0)), lt_a1_b17⟩
theorem d20_0 : decode prog_105_method_5_code 0 = .ok (.aload_n 0, 1) := by decide +kernel
theorem d20_1 : decode prog_105_method_5_code 1 = .ok (.astore_n 1, 1) := by decide +kernel
theorem d20_2 : decode prog_105_method_5_code 2 = .ok (.aload_n 0, 1) := by decide +kernel
theorem d20_3 : decode prog_105_method_5_code 3 = .ok (.getfield 24, 3) := by decide +kernel
theorem d20_6 : decode prog_105_method_5_code 6 = .ok (.aload_n 0, 1) := by decide +kernel
theorem d20_7 : decode prog_105_method_5_code 7 = .ok (.getfield 20, 3) := by decide +kernel
theorem d20_10 : decode prog_105_method_5_code 10 = .ok (.if_icmp .eq 23, 3) := by decide +kernel
theorem d20_33 : decode prog_105_method_5_code 33 = .ok (.aload_n 1, 1) := by decide +kernel
theorem d20_34 : decode prog_105_method_5_code 34 = .ok (.areturn, 1) := by decide +kernel
theorem d20_13 : decode prog_105_method_5_code 13 = .ok (.aload_n 0, 1) := by decide +kernel
theorem d20_14 : decode prog_105_method_5_code 14 = .ok (.getfield 30, 3) := by decide +kernel
theorem d20_17 : decode prog_105_method_5_code 17 = .ok (.astore_n 1, 1) := by decide +kernel
theorem d20_18 : decode prog_105_method_5_code 18 = .ok (.aconst_null, 1) := by decide +kernel
theorem d20_19 : decode prog_105_method_5_code 19 = .ok (.aload_n 1, 1) := by decide +kernel
theorem d20_20 : decode prog_105_method_5_code 20 = .ok (.if_acmp .ne 13, 3) := by decide +kernel
theorem d20_23 : decode prog_105_method_5_code 23 = .ok (.aload_n 0, 1) := by decide +kernel
theorem d20_24 : decode prog_105_method_5_code 24 = .ok (.invokevirtual 48, 3) := by decide +kernel
theorem pd17 : parseMethodDescriptor "()Lcom/example/rivet_context/rivetcontext/factory/TypeListing;" = some ⟨[], some (.object "com/example/rivet_context/rivetcontext/factory/TypeListing")⟩ := by decide +kernel
theorem d20_27 : decode prog_105_method_5_code 27 = .ok (.astore_n 1, 1) := by decide +kernel
theorem d20_28 : decode prog_105_method_5_code 28 = .ok (.aload_n 0, 1) := by decide +kernel
theorem d20_29 : decode prog_105_method_5_code 29 = .ok (.aload_n 1, 1) := by decide +kernel
theorem d20_30 : decode prog_105_method_5_code 30 = .ok (.putfield 30, 3) := by decide +kernel
theorem ef_rmord (m : MethodId) (x0 : Addr) : entryFrame m #[(.ref x0)] 2 = mkF m 0 #[.val (.ref x0), .unset] [] := by first | (simp [entryFrame, mkF, argsToLocals, Value.category]; done) | rfl
set_option maxRecDepth 65536 in
set_option maxHeartbeats 40000000 in
theorem rmord (l : Launch) (Z : State) (a0 : Array Value) (hw : ∀ d ∈ tables_1, d.before a0 Z = true) (ws : List Jvm.Cond) (a1 : Addr) (r : Addr) (kr : ClassId) (ss : List Addr) (vs : List Int32) (cn : Nat) (on : Nat) (h0 : Heap) (n0 : Nat) (O0 : Old Z n0 h0) (HL : Lst Z h0 n0 a1 r vs cn on) (VR : Arv Z h0 r kr (.object "java/lang/String") (4 : Int32) (ss.map Value.ref) .null) (ho1 : 1 ≤ on) (hoc : on ≤ cn) (hc4 : cn ≤ 4) (hcv : cn ≤ vs.length) (hv : vs.length ≤ 8) :
    MetFree l (⟨"com/example/rivet_context/rivetcontext/factory/TypeListing", "ordered", "()Lcom/example/rivet_context/rivetcontext/factory/TypeListing;"⟩ : MethodName) (head1 (Jvm.Cond.code (⟨"com/example/rivet_context/rivetcontext/factory/TypeListing", "ordered", "()Lcom/example/rivet_context/rivetcontext/factory/TypeListing;"⟩ : MethodName) prog_105_method_5_code 2 (some (.object "com/example/rivet_context/rivetcontext/factory/TypeListing")) :: ws) ({ frames := 5, cells := 4, slots := 16, locals := 97 } : Room)) (fun a U => a = #[(.ref a1)] ∧ Z.Warmed39 U.vm ∧ U.heap = h0) (fun _ _ _ _ _ => True) (fun _ U o U' => ∃ v L, o = .returned v ∧ Qext Z r kr ss (ordF vs cn on) n0 v U'.heap L ∧ FrameEnd U o U' L ({ frames := 5, cells := 4, slots := 16, locals := 97 } : Room).cells ({ frames := 5, cells := 4, slots := 16, locals := 97 } : Room).slots) := by
  refine MetFree.of_bodySF (plainFor_of_name pn4) hisR ?_
  intro p e s m args below meth c s₁ Bd hml0 hP hK
  obtain ⟨rfl, hZ, hh⟩ := hP
  have hx := Bd.exec
  have hby := Bd.bytes
  have hml : c.maxLocals = 2 := hml0
  have hown : s.vm.findClass "com/example/rivet_context/rivetcontext/factory/TypeListing" = some m.cls := findClass_of_methodNamed Bd.named
  have hnm := (name_of_methodNamed Bd.named Bd.method).1
  have X0 : Stand p l e ({ frames := 5, cells := 4, slots := 16, locals := 97 } : Room) s m #[(.ref a1)] below meth c s₁ [] 0 0 := Stand.of_body Bd
  have e0 : s₁.heap = h0 := by rw [← hh, Bd.state]; rfl
  have N0 := Fr.nil n0
  have pre0 : ∀ t, Steps p.tables e below (s₁.setTop (mkF m 0 #[.val (.ref a1), .unset] [])) t → Steps p.tables e below (s₁.setTop (entryFrame m #[(.ref a1)] 2)) t := fun t k => castTop (ef_rmord m a1) k
  obtain ⟨g_a1, P, kP, Wa, kW, HT, VP, VW, g_P, g_Wa, nPW, rP, rW⟩ := id HL
  obtain ⟨E_a, F_r, F_p, F_c, F_o, F_w, F_i⟩ := id HT
  have VW : Arv Z h0 Wa kW .int (1 : Int32) ([Int32.ofNat cn].map Value.int) (.int 0) := VW
  have hNP : (Int32.ofNat vs.length).toNatClampNeg = vs.length := own_n (by omega)
  have hNW : (1 : Int32).toNatClampNeg = [Int32.ofNat cn].length := by rw [List.length_singleton]; decide
  have n_a1_P : a1 ≠ P := Exa.neArv E_a VP (hw _ (List.mem_of_getElem? (i := 29) rfl))
  have lt_P := VP.lt
  have n_a1_Wa : a1 ≠ Wa := Exa.neArv E_a VW (hw _ (List.mem_of_getElem? (i := 29) rfl))
  have lt_Wa := VW.lt
  have n_a1_r : a1 ≠ r := Exa.neArv E_a VR (hw _ (List.mem_of_getElem? (i := 29) rfl))
  have lt_r := VR.lt
  have lt_a1 := E_a.lt
  obtain ⟨T1, X1, e1, st1⟩ := getF X0 hx hZ hown (host := "") (Or.inl (hw _ (List.mem_of_getElem? (i := 58) rfl))) Via.refl e0 F_o (g := (mkF m 3 #[.val (.ref a1), .val (.ref a1)] [(.ref a1)])) rfl rfl (hb hby d20_3)
  obtain ⟨T2, X2, e2, st2⟩ := getF X1 hx hZ hown (host := "") (Or.inl (hw _ (List.mem_of_getElem? (i := 56) rfl))) Via.refl e1 F_c (g := (mkF m 7 #[.val (.ref a1), .val (.ref a1)] [(.ref a1), (.int (Int32.ofNat on))])) rfl rfl (hb hby d20_7)
  have pf3 : ∀ target, Steps p.tables e below (T2.setTop (mkF m 10 #[.val (.ref a1), .val (.ref a1)] [(.int (Int32.ofNat cn)), (.int (Int32.ofNat on))])) target → Steps p.tables e below (s₁.setTop (mkF m 0 #[.val (.ref a1), .unset] [])) target := by
    intro target k
    show Steps p.tables e below (s₁.setTop (mkF m 0 #[.val (.ref a1), .unset] [])) _
    refine XS.aloadN X0.here hx rfl (hb hby d20_0) rfl rfl ?_
    refine XS.astoreN X0.here hx rfl (hb hby d20_1) rfl rfl (l' := #[.val (.ref a1), .val (.ref a1)]) rfl ?_
    refine XS.aloadN X0.here hx rfl (hb hby d20_2) rfl rfl ?_
    show Steps p.tables e below (s₁.setTop (mkF m 3 #[.val (.ref a1), .val (.ref a1)] [(.ref a1)])) _
    refine st1 _ ?_
    show Steps p.tables e below (T1.setTop (mkF m 6 #[.val (.ref a1), .val (.ref a1)] [(.int (Int32.ofNat on))])) _
    refine XS.aloadN X1.here hx rfl (hb hby d20_6) rfl rfl ?_
    show Steps p.tables e below (T1.setTop (mkF m 7 #[.val (.ref a1), .val (.ref a1)] [(.ref a1), (.int (Int32.ofNat on))])) _
    refine st2 _ ?_
    exact k
  by_cases hc10 : (Int32.ofNat on) = (Int32.ofNat cn)
  · obtain ⟨fs, hr, hrun, hended, hW, hsame⟩ := X2.leave (v := some (.ref a1)) (fun h => by rw [Bd.returns] at h; cases h)
    refine ⟨_, _, pre0 _ ?_, hrun, hended, _, _, rfl, ?_, ⟨_, rfl⟩, hW, hsame.mono (by decide) (by decide)⟩
    · refine pf3 _ ?_
      show Steps p.tables e below (T2.setTop (mkF m 10 #[.val (.ref a1), .val (.ref a1)] [(.int (Int32.ofNat cn)), (.int (Int32.ofNat on))])) _
      refine XS.icmpYes X2.here hx rfl (pc0 := 10) (pc' := 33) rfl (hb hby d20_10) rfl (teq hc10).1 (by decide) (by decide) ?_
      refine XS.aloadN X2.here hx rfl (hb hby d20_33) rfl rfl ?_
      show Steps p.tables e below (T2.setTop (mkF m 34 #[.val (.ref a1), .val (.ref a1)] [(.ref a1)])) _
      exact retOut X2 hx Bd.returns rfl (Or.inr (Or.inr (Or.inr (Or.inr ⟨rfl, rfl, rfl⟩)))) (hb hby d20_34) hr
    · show Qext Z r kr ss (ordF vs cn on) n0 _ T2.heap _
      rw [e2]
      exact ⟨a1, rfl, N0, O0, VR, by rw [show ordF vs cn on = (vs, cn, on) from if_pos ((own_eq (by omega) (by omega)).mp hc10)]; exact HL⟩
  · obtain ⟨T4, X4, e4, st4⟩ := getF X2 hx hZ hown (host := "") (Or.inl (hw _ (List.mem_of_getElem? (i := 67) rfl))) Via.refl e2 F_i (g := (mkF m 14 #[.val (.ref a1), .val (.ref a1)] [(.ref a1)])) rfl rfl (hb hby d20_14)
    have pf5 : ∀ target, Steps p.tables e below (T4.setTop (mkF m 20 #[.val (.ref a1), .val .null] [.null, .null])) target → Steps p.tables e below (T2.setTop (mkF m 10 #[.val (.ref a1), .val (.ref a1)] [(.int (Int32.ofNat cn)), (.int (Int32.ofNat on))])) target := by
      intro target k
      show Steps p.tables e below (T2.setTop (mkF m 10 #[.val (.ref a1), .val (.ref a1)] [(.int (Int32.ofNat cn)), (.int (Int32.ofNat on))])) _
      refine XS.icmpNo X2.here hx rfl (hb hby d20_10) rfl (feq hc10).1 ?_
      refine XS.aloadN X2.here hx rfl (hb hby d20_13) rfl rfl ?_
      show Steps p.tables e below (T2.setTop (mkF m 14 #[.val (.ref a1), .val (.ref a1)] [(.ref a1)])) _
      refine st4 _ ?_
      show Steps p.tables e below (T4.setTop (mkF m 17 #[.val (.ref a1), .val (.ref a1)] [.null])) _
      refine XS.astoreN X4.here hx rfl (hb hby d20_17) rfl rfl (l' := #[.val (.ref a1), .val .null]) rfl ?_
      refine XS.aconstNull X4.here hx rfl (hb hby d20_18) ?_
      refine XS.aloadN X4.here hx rfl (hb hby d20_19) rfl rfl ?_
      exact k
    have hnc : ¬ on = cn := fun q => hc10 (by rw [q])
    obtain ⟨cq6, qa6, qb6⟩ := (E_a).cell
    obtain ⟨_, _, ⟨T6, L6, k6, n6⟩, -, X6, ⟨Lc6, hQ6, l6, y6, z6⟩, st6⟩ := X4.privateBack hx (y := (⟨"com/example/rivet_context/rivetcontext/factory/TypeListing", "putInPlace", "()Lcom/example/rivet_context/rivetcontext/factory/TypeListing;"⟩ : MethodName)) hown (mvT hZ (hw _ (List.mem_of_getElem? (i := 113) rfl))) (mvT hZ (hw _ (List.mem_of_getElem? (i := 114) rfl))) (own_selP hZ (hw _ (List.mem_of_getElem? (i := 29) rfl)) (hw _ (List.mem_of_getElem? (i := 115) rfl)) (hw _ (List.mem_of_getElem? (i := 114) rfl))) (Cond.privateMethod_at (mvP hZ (hw _ (List.mem_of_getElem? (i := 115) rfl)) (args := #[]))) (mvT hZ (hw _ (List.mem_of_getElem? (i := 116) rfl))) (by decide) (backOf (W := 0) (rmpip l Z a0 hw [] a1 r kr ss vs cn on h0 n0 O0 HL VR ho1 (by omega) hc4 hcv hv) hZ (hw _ (List.mem_of_getElem? (i := 116) rfl)) (hw _ (List.mem_of_getElem? (i := 30) rfl)) (by decide) (by decide)) (g := (mkF m 24 #[.val (.ref a1), .val .null] [(.ref a1)])) rfl (by rw [hml]; rfl) (Steps.refl _) (a := a1) (by rw [e4]; exact qa6) qb6 (argsL := []) (rest := []) (lenOf pd17 rfl) rfl (by show 2 * 0 + _ ≤ _; exact Nat.le_of_eq rfl) (hb hby d20_24) (fun _ _ => ⟨rfl, e4, (by decide : 0 + 4 ≤ _), (by decide : 0 + 16 ≤ _)⟩)
    dsimp only [Pt.U, Pt.locs, Pt.cells, Pt.slots] at X6 l6 y6 z6 st6 hQ6
    subst l6 y6 z6
    obtain ⟨h6, e6⟩ : ∃ z, T6.heap = z := ⟨_, rfl⟩
    rw [e6] at hQ6
    obtain ⟨x6, rfl, Nq6, Oq6, Vr6, Lq6, Ea6, Fi6, ax6⟩ := hQ6
    have N6 := Fr.app N0 Nq6
    obtain ⟨gx6, P6, kP6, W6, kW6, HT6, VP6, VW6, gP6, gW6, nPW6, rP6, rW6⟩ := Lq6
    obtain ⟨Ex6, Fr6, Fp6, Fc6, Fo6, Fw6, Fz6⟩ := HT6
    obtain ⟨T7, h7, X7, e7, W7, st7⟩ := putF X6 hx hZ hown (host := "") (Or.inl (hw _ (List.mem_of_getElem? (i := 67) rfl))) Via.refl e6 Fi6 Ea6 (Or.inl (hw _ (List.mem_of_getElem? (i := 68) rfl))) (hw _ (List.mem_of_getElem? (i := 29) rfl)) (ty := (.object "com/example/rivet_context/rivetcontext/factory/TypeListing")) (by decide) rfl rfl (g := (mkF m 30 #[.val (.ref a1), .val (.ref x6)] [(.ref x6), (.ref a1)])) rfl rfl (hb hby d20_30)
    have Fw7 := Fi6.same W7
    have O8 := Oq6.wr W7 g_a1
    have N7 := Fr.snoc X7 N6 g_a1
    obtain ⟨fs, hr, hrun, hended, hW, hsame⟩ := X7.leave (v := some (.ref x6)) (fun h => by rw [Bd.returns] at h; cases h)
    refine ⟨_, _, pre0 _ ?_, hrun, hended, _, _, rfl, ?_, ⟨_, rfl⟩, hW, hsame.mono (by decide) (by decide)⟩
    · refine pf3 _ ?_
      refine pf5 _ ?_
      show Steps p.tables e below (T4.setTop (mkF m 20 #[.val (.ref a1), .val .null] [.null, .null])) _
      refine Jvm.RoadKit.acmp (g := (mkF m 20 #[.val (.ref a1), .val .null] [.null, .null])) X4 hx rfl rfl rfl (pc0 := 20) (pc' := 23) (same := true) rfl (hb hby d20_20) rfl (decide_eq_true rfl) (by decide) (by decide) ?_
      show Steps p.tables e below (T4.setTop (mkF m 23 #[.val (.ref a1), .val .null] [])) _
      refine XS.aloadN X4.here hx rfl (hb hby d20_23) rfl rfl ?_
      show Steps p.tables e below (T4.setTop (mkF m 24 #[.val (.ref a1), .val .null] [(.ref a1)])) _
      refine st6.trans ?_
      show Steps p.tables e below (T6.setTop (mkF m 27 #[.val (.ref a1), .val .null] [(.ref x6)])) _
      refine XS.astoreN X6.here hx rfl (hb hby d20_27) rfl rfl (l' := #[.val (.ref a1), .val (.ref x6)]) rfl ?_
      refine XS.aloadN X6.here hx rfl (hb hby d20_28) rfl rfl ?_
      refine XS.aloadN X6.here hx rfl (hb hby d20_29) rfl rfl ?_
      show Steps p.tables e below (T6.setTop (mkF m 30 #[.val (.ref a1), .val (.ref x6)] [(.ref x6), (.ref a1)])) _
      refine st7 _ ?_
      show Steps p.tables e below (T7.setTop (mkF m 33 #[.val (.ref a1), .val (.ref x6)] [])) _
      refine XS.aloadN X7.here hx rfl (hb hby d20_33) rfl rfl ?_
      show Steps p.tables e below (T7.setTop (mkF m 34 #[.val (.ref a1), .val (.ref x6)] [(.ref x6)])) _
      exact retOut X7 hx Bd.returns rfl (Or.inr (Or.inr (Or.inr (Or.inr ⟨rfl, rfl, rfl⟩)))) (hb hby d20_34) hr
    · show Qext Z r kr ss (ordF vs cn on) n0 _ T7.heap _
      rw [e7]
      exact ⟨x6, rfl, N7, O8, (Vr6.other W7 (Ne.symm n_a1_r)), gx6, P6, kP6, W6, kW6, ⟨(Ex6.wr W7), (Fr6.other W7 (Or.inl (Ne.symm (Nat.ne_of_lt ax6)))), (Fp6.other W7 (Or.inl (Ne.symm (Nat.ne_of_lt ax6)))), (Fc6.other W7 (Or.inl (Ne.symm (Nat.ne_of_lt ax6)))), (Fo6.other W7 (Or.inl (Ne.symm (Nat.ne_of_lt ax6)))), (Fw6.other W7 (Or.inl (Ne.symm (Nat.ne_of_lt ax6)))), (Fz6.other W7 (Or.inl (Ne.symm (Nat.ne_of_lt ax6))))⟩, (VP6.other W7 (Ne.symm (Exa.neArv Ea6 VP6 (hw _ (List.mem_of_getElem? (i := 29) rfl))))), (VW6.other W7 (Ne.symm (Exa.neArv Ea6 VW6 (hw _ (List.mem_of_getElem? (i := 29) rfl))))), gP6, gW6, nPW6, rP6, rW6⟩
theorem own_lstE {Z : State} {h : Heap} {n0 : Nat} {a r : Addr} {vs : List Int32} {c o : Nat} (L : Lst Z h n0 a r vs c o) : Exa Z h a "com/example/rivet_context/rivetcontext/factory/TypeListing" ∧ True := by
  obtain ⟨-, P, kP, W, kW, HT, -⟩ := L
  exact ⟨HT.1, trivial⟩

theorem pd18 : parseMethodDescriptor "(C)Ljava/lang/String;" = some ⟨[.char], some (.object "java/lang/String")⟩ := by decide +kernel
theorem pd19 : parseMethodDescriptor "([Ljava/lang/String;I)V" = some ⟨[(.array (.object "java/lang/String")), .int], none⟩ := by decide +kernel
theorem pd20 : parseMethodDescriptor "(I)Ljava/lang/String;" = some ⟨[.int], some (.object "java/lang/String")⟩ := by decide +kernel
theorem pd21 : parseMethodDescriptor "()I" = some ⟨[], some .int⟩ := by decide +kernel
theorem ef_rm0 (m : MethodId) (x0 : Int32) (x1 : Int32) : entryFrame m #[(.int x0), (.int x1)] maxLocals = mkF m 0 #[.val (.int x0), .val (.int x1), .unset, .unset, .unset, .unset, .unset, .unset, .unset, .unset, .unset, .unset] [] := by first | (simp [entryFrame, mkF, argsToLocals, Value.category, maxLocals]; done) | rfl
set_option maxRecDepth 65536 in
set_option maxHeartbeats 40000000 in
theorem rm0 (l : Launch) (Z : State) (a0 : Array Value) (hw : ∀ d ∈ tables_1, d.before a0 Z = true) (ws : List Jvm.Cond) (p1 : Int32) (p2 : Int32) (G1 : Int32) (h0 : Heap) (n0 : Nat) (O0 : Old Z n0 h0) (S_cs : Sta Z Z.heap "java/lang/String" "COMPACT_STRINGS" "Z" (.int G1)) (hG : ¬ G1 = 0) :
    MetFree l x (head1 (Jvm.Cond.code x code maxLocals ret :: ws) room_1) (fun a U => a = #[(.int p1), (.int p2)] ∧ Z.Warmed39 U.vm ∧ U.heap = h0) (fun _ _ _ _ _ => True) (fun _ U o U' => ∃ v L, o = .returned v ∧ Q0 n0 v U'.heap L ∧ FrameEnd U o U' L 56 256) := by
  refine MetFree.of_bodySF (plainFor_of_name pn8) hisR ?_
  intro p e s m args below meth c s₁ Bd hml0 hP hK
  obtain ⟨rfl, hZ, hh⟩ := hP
  have hx := Bd.exec
  have hby := Bd.bytes
  have hml : c.maxLocals = 12 := hml0
  have hown : s.vm.findClass "com/example/rivet_context/rivetcontext/factory/TypeListingGetPinLaw" = some m.cls := findClass_of_methodNamed Bd.named
  have hnm := (name_of_methodNamed Bd.named Bd.method).1
  have X0 : Stand p l e room_1 s m #[(.int p1), (.int p2)] below meth c s₁ [] 0 0 := Stand.of_body Bd
  have e0 : s₁.heap = h0 := by rw [← hh, Bd.state]; rfl
  have N0 := Fr.nil n0
  have pre0 : ∀ t, Steps p.tables e below (s₁.setTop (mkF m 0 #[.val (.int p1), .val (.int p2), .unset, .unset, .unset, .unset, .unset, .unset, .unset, .unset, .unset, .unset] [])) t → Steps p.tables e below (s₁.setTop (entryFrame m #[(.int p1), (.int p2)] maxLocals)) t := fun t k => castTop (ef_rm0 m p1 p2) k
  obtain ⟨T1, h1, k1, X1, e1, E1, A1, Ov1, st1⟩ := newR X0 hx hZ hown (hw _ (List.mem_of_getElem? (i := 0) rfl)) (hw _ (List.mem_of_getElem? (i := 1) rfl)) e0 (g := (mkF m 1 #[.val (.int p1), .val (.int p2), .unset, .unset, .unset, .unset, .unset, .unset, .unset, .unset, .unset, .unset] [(.int 4)])) rfl (hb hby at_1) rfl (by decide) (cap := 4) (by decide) (by decide) (by decide) (by decide)
  obtain ⟨b1, g1⟩ : ∃ z, z = h0.size := ⟨_, rfl⟩
  rw [← g1] at A1 st1
  have g_b1 : n0 ≤ b1 := by rw [g1]; exact Nat.le_trans (Nat.le_of_eq O0.1.symm) O0.2.1
  have sz_b1 : h0.size ≤ b1 := by rw [g1]; exact (Keep.refl h0 []).1
  have O2 := O0.ext E1
  have kp3 : Keep h0 h1 [] := (Keep.refl h0 []).ext E1
  have V_b1 : Arv Z h1 b1 k1 (.object "java/lang/String") (4 : Int32) [.null, .null, .null, .null] .null := (Arv.new A1 (by decide)).pad (pad_rep [] .null 4)
  obtain ⟨_, _, ⟨T4, L4, k4, n4⟩, -, X4, ⟨Lc4, hQ4, l4, y4, z4⟩, st4⟩ := Jvm.LawKit.callS X1 hx (y := (⟨"java/lang/String", "valueOf", "(C)Ljava/lang/String;"⟩ : MethodName)) hown (mvT hZ (hw _ (List.mem_of_getElem? (i := 2) rfl))) (mvT hZ (hw _ (List.mem_of_getElem? (i := 3) rfl))) (mvT hZ (hw _ (List.mem_of_getElem? (i := 4) rfl))) (mvT hZ (hw _ (List.mem_of_getElem? (i := 5) rfl))) (by decide) (backOf (W := 2) (rmvo l Z a0 hw [] ((p1 &&& (255 : Int32)).toUInt32.toUInt16.toUInt32.toInt32) G1 h1 n0 O2 S_cs hG (own_c255 _)) hZ (hw _ (List.mem_of_getElem? (i := 5) rfl)) (hw _ (List.mem_of_getElem? (i := 4) rfl)) (by decide) (by decide)) (g := (mkF m 13 #[.val (.int p1), .val (.int p2), .val (.ref b1), .unset, .unset, .unset, .unset, .unset, .unset, .unset, .unset, .unset] [(.int ((p1 &&& (255 : Int32)).toUInt32.toUInt16.toUInt32.toInt32)), (.int 0), (.ref b1)])) rfl (by rw [hml]; rfl) (argsL := [(.int ((p1 &&& (255 : Int32)).toUInt32.toUInt16.toUInt32.toInt32))]) (rest := [(.int 0), (.ref b1)]) (lenOf pd18 rfl) rfl (by show 2 * 0 + _ ≤ _; exact Nat.le_of_eq rfl) (hb hby at_13) (fun _ _ => ⟨rfl, e1, (by decide : 1 + 2 ≤ _), (by decide : 4 + 5 ≤ _)⟩)
  dsimp only [Pt.U, Pt.locs, Pt.cells, Pt.slots] at X4 l4 y4 z4 st4 hQ4
  subst l4 y4 z4
  obtain ⟨h4, e4⟩ : ∃ z, T4.heap = z := ⟨_, rfl⟩
  rw [e4] at hQ4
  obtain ⟨t4, rfl, Nq4, K4, Et4⟩ := hQ4
  have N4 := Fr.app N0 Nq4
  have O5 := O2.keep K4 all0
  have kp6 : Keep h0 h4 [] := kp3.trans K4 all0
  obtain ⟨cl7, Ar7, q7, Sz7, Nn7, Ha7, Gf7⟩ := (V_b1.keep K4 nin0)
  have hin7 : ¬ ((0 : Int32) < 0 ∨ cl7.slots.size ≤ ((0 : Int32)).toNatClampNeg) := inb_of Sz7 ⟨by decide, by decide⟩
  obtain ⟨T8, h8, X8, e8, W8, st8⟩ := stR X4 hx hZ e4 Ar7 (j := (0 : Int32)) hin7 rfl (Sto.ofV Ar7 q7 Ov1 (Ins.self Et4)) (g := (mkF m 16 #[.val (.int p1), .val (.int p2), .val (.ref b1), .unset, .unset, .unset, .unset, .unset, .unset, .unset, .unset, .unset] [(.ref t4), (.int 0), (.ref b1)])) rfl rfl (hb hby at_16)
  have Va8 := Arv.set Ar7 q7 Sz7 Nn7 Ha7 Gf7 rfl W8 0 rfl (Nat.le_of_ble_eq_true rfl)
  have Vb8 : Arv Z h8 b1 k1 (.object "java/lang/String") (4 : Int32) [(.ref t4), .null, .null, .null] .null := Va8
  have O9 := O5.wr W8 g_b1
  have kp10 : Keep h0 h8 [] := kp6.wr W8 (Or.inr sz_b1)
  have N8 := Fr.snoc X8 N4 g_b1
  obtain ⟨_, _, ⟨T11, L11, k11, n11⟩, -, X11, ⟨Lc11, hQ11, l11, y11, z11⟩, st11⟩ := Jvm.LawKit.callS X8 hx (y := (⟨"java/lang/String", "valueOf", "(C)Ljava/lang/String;"⟩ : MethodName)) hown (mvT hZ (hw _ (List.mem_of_getElem? (i := 2) rfl))) (mvT hZ (hw _ (List.mem_of_getElem? (i := 3) rfl))) (mvT hZ (hw _ (List.mem_of_getElem? (i := 4) rfl))) (mvT hZ (hw _ (List.mem_of_getElem? (i := 5) rfl))) (by decide) (backOf (W := 2) (rmvo l Z a0 hw [] ((((p1.toUInt32 >>> ((8 : Int32) &&& 31).toUInt32).toInt32) &&& (255 : Int32)).toUInt32.toUInt16.toUInt32.toInt32) G1 h8 n0 O9 S_cs hG (own_c255 _)) hZ (hw _ (List.mem_of_getElem? (i := 5) rfl)) (hw _ (List.mem_of_getElem? (i := 4) rfl)) (by decide) (by decide)) (g := (mkF m 28 #[.val (.int p1), .val (.int p2), .val (.ref b1), .unset, .unset, .unset, .unset, .unset, .unset, .unset, .unset, .unset] [(.int ((((p1.toUInt32 >>> ((8 : Int32) &&& 31).toUInt32).toInt32) &&& (255 : Int32)).toUInt32.toUInt16.toUInt32.toInt32)), (.int 1), (.ref b1)])) rfl (by rw [hml]; rfl) (argsL := [(.int ((((p1.toUInt32 >>> ((8 : Int32) &&& 31).toUInt32).toInt32) &&& (255 : Int32)).toUInt32.toUInt16.toUInt32.toInt32))]) (rest := [(.int 1), (.ref b1)]) (lenOf pd18 rfl) rfl (by show 2 * 0 + _ ≤ _; exact Nat.le_of_eq rfl) (hb hby at_28) (fun _ _ => ⟨rfl, e8, (by decide : 3 + 2 ≤ _), (by decide : 9 + 5 ≤ _)⟩)
  dsimp only [Pt.U, Pt.locs, Pt.cells, Pt.slots] at X11 l11 y11 z11 st11 hQ11
  subst l11 y11 z11
  obtain ⟨h11, e11⟩ : ∃ z, T11.heap = z := ⟨_, rfl⟩
  rw [e11] at hQ11
  obtain ⟨t11, rfl, Nq11, K11, Et11⟩ := hQ11
  have N11 := Fr.app N8 Nq11
  have O12 := O9.keep K11 all0
  have kp13 : Keep h0 h11 [] := kp10.trans K11 all0
  obtain ⟨cl14, Ar14, q14, Sz14, Nn14, Ha14, Gf14⟩ := (Vb8.keep K11 nin0)
  have hin14 : ¬ ((1 : Int32) < 0 ∨ cl14.slots.size ≤ ((1 : Int32)).toNatClampNeg) := inb_of Sz14 ⟨by decide, by decide⟩
  obtain ⟨T15, h15, X15, e15, W15, st15⟩ := stR X11 hx hZ e11 Ar14 (j := (1 : Int32)) hin14 rfl (Sto.ofV Ar14 q14 Ov1 (Ins.self Et11)) (g := (mkF m 31 #[.val (.int p1), .val (.int p2), .val (.ref b1), .unset, .unset, .unset, .unset, .unset, .unset, .unset, .unset, .unset] [(.ref t11), (.int 1), (.ref b1)])) rfl rfl (hb hby at_31)
  have Va15 := Arv.set Ar14 q14 Sz14 Nn14 Ha14 Gf14 rfl W15 1 rfl (Nat.le_of_ble_eq_true rfl)
  have Vb15 : Arv Z h15 b1 k1 (.object "java/lang/String") (4 : Int32) [(.ref t4), (.ref t11), .null, .null] .null := Va15
  have O16 := O12.wr W15 g_b1
  have kp17 : Keep h0 h15 [] := kp13.wr W15 (Or.inr sz_b1)
  have N15 := Fr.snoc X15 N11 g_b1
  obtain ⟨_, _, ⟨T18, L18, k18, n18⟩, -, X18, ⟨Lc18, hQ18, l18, y18, z18⟩, st18⟩ := Jvm.LawKit.callS X15 hx (y := (⟨"java/lang/String", "valueOf", "(C)Ljava/lang/String;"⟩ : MethodName)) hown (mvT hZ (hw _ (List.mem_of_getElem? (i := 2) rfl))) (mvT hZ (hw _ (List.mem_of_getElem? (i := 3) rfl))) (mvT hZ (hw _ (List.mem_of_getElem? (i := 4) rfl))) (mvT hZ (hw _ (List.mem_of_getElem? (i := 5) rfl))) (by decide) (backOf (W := 2) (rmvo l Z a0 hw [] ((((p1.toUInt32 >>> ((16 : Int32) &&& 31).toUInt32).toInt32) &&& (255 : Int32)).toUInt32.toUInt16.toUInt32.toInt32) G1 h15 n0 O16 S_cs hG (own_c255 _)) hZ (hw _ (List.mem_of_getElem? (i := 5) rfl)) (hw _ (List.mem_of_getElem? (i := 4) rfl)) (by decide) (by decide)) (g := (mkF m 43 #[.val (.int p1), .val (.int p2), .val (.ref b1), .unset, .unset, .unset, .unset, .unset, .unset, .unset, .unset, .unset] [(.int ((((p1.toUInt32 >>> ((16 : Int32) &&& 31).toUInt32).toInt32) &&& (255 : Int32)).toUInt32.toUInt16.toUInt32.toInt32)), (.int 2), (.ref b1)])) rfl (by rw [hml]; rfl) (argsL := [(.int ((((p1.toUInt32 >>> ((16 : Int32) &&& 31).toUInt32).toInt32) &&& (255 : Int32)).toUInt32.toUInt16.toUInt32.toInt32))]) (rest := [(.int 2), (.ref b1)]) (lenOf pd18 rfl) rfl (by show 2 * 0 + _ ≤ _; exact Nat.le_of_eq rfl) (hb hby at_43) (fun _ _ => ⟨rfl, e15, (by decide : 5 + 2 ≤ _), (by decide : 14 + 5 ≤ _)⟩)
  dsimp only [Pt.U, Pt.locs, Pt.cells, Pt.slots] at X18 l18 y18 z18 st18 hQ18
  subst l18 y18 z18
  obtain ⟨h18, e18⟩ : ∃ z, T18.heap = z := ⟨_, rfl⟩
  rw [e18] at hQ18
  obtain ⟨t18, rfl, Nq18, K18, Et18⟩ := hQ18
  have N18 := Fr.app N15 Nq18
  have O19 := O16.keep K18 all0
  have kp20 : Keep h0 h18 [] := kp17.trans K18 all0
  obtain ⟨cl21, Ar21, q21, Sz21, Nn21, Ha21, Gf21⟩ := (Vb15.keep K18 nin0)
  have hin21 : ¬ ((2 : Int32) < 0 ∨ cl21.slots.size ≤ ((2 : Int32)).toNatClampNeg) := inb_of Sz21 ⟨by decide, by decide⟩
  obtain ⟨T22, h22, X22, e22, W22, st22⟩ := stR X18 hx hZ e18 Ar21 (j := (2 : Int32)) hin21 rfl (Sto.ofV Ar21 q21 Ov1 (Ins.self Et18)) (g := (mkF m 46 #[.val (.int p1), .val (.int p2), .val (.ref b1), .unset, .unset, .unset, .unset, .unset, .unset, .unset, .unset, .unset] [(.ref t18), (.int 2), (.ref b1)])) rfl rfl (hb hby at_46)
  have Va22 := Arv.set Ar21 q21 Sz21 Nn21 Ha21 Gf21 rfl W22 2 rfl (Nat.le_of_ble_eq_true rfl)
  have Vb22 : Arv Z h22 b1 k1 (.object "java/lang/String") (4 : Int32) [(.ref t4), (.ref t11), (.ref t18), .null] .null := Va22
  have O23 := O19.wr W22 g_b1
  have kp24 : Keep h0 h22 [] := kp20.wr W22 (Or.inr sz_b1)
  have N22 := Fr.snoc X22 N18 g_b1
  obtain ⟨_, _, ⟨T25, L25, k25, n25⟩, -, X25, ⟨Lc25, hQ25, l25, y25, z25⟩, st25⟩ := Jvm.LawKit.callS X22 hx (y := (⟨"java/lang/String", "valueOf", "(C)Ljava/lang/String;"⟩ : MethodName)) hown (mvT hZ (hw _ (List.mem_of_getElem? (i := 2) rfl))) (mvT hZ (hw _ (List.mem_of_getElem? (i := 3) rfl))) (mvT hZ (hw _ (List.mem_of_getElem? (i := 4) rfl))) (mvT hZ (hw _ (List.mem_of_getElem? (i := 5) rfl))) (by decide) (backOf (W := 2) (rmvo l Z a0 hw [] ((((p1.toUInt32 >>> ((24 : Int32) &&& 31).toUInt32).toInt32) &&& (255 : Int32)).toUInt32.toUInt16.toUInt32.toInt32) G1 h22 n0 O23 S_cs hG (own_c255 _)) hZ (hw _ (List.mem_of_getElem? (i := 5) rfl)) (hw _ (List.mem_of_getElem? (i := 4) rfl)) (by decide) (by decide)) (g := (mkF m 58 #[.val (.int p1), .val (.int p2), .val (.ref b1), .unset, .unset, .unset, .unset, .unset, .unset, .unset, .unset, .unset] [(.int ((((p1.toUInt32 >>> ((24 : Int32) &&& 31).toUInt32).toInt32) &&& (255 : Int32)).toUInt32.toUInt16.toUInt32.toInt32)), (.int 3), (.ref b1)])) rfl (by rw [hml]; rfl) (argsL := [(.int ((((p1.toUInt32 >>> ((24 : Int32) &&& 31).toUInt32).toInt32) &&& (255 : Int32)).toUInt32.toUInt16.toUInt32.toInt32))]) (rest := [(.int 3), (.ref b1)]) (lenOf pd18 rfl) rfl (by show 2 * 0 + _ ≤ _; exact Nat.le_of_eq rfl) (hb hby at_58) (fun _ _ => ⟨rfl, e22, (by decide : 7 + 2 ≤ _), (by decide : 19 + 5 ≤ _)⟩)
  dsimp only [Pt.U, Pt.locs, Pt.cells, Pt.slots] at X25 l25 y25 z25 st25 hQ25
  subst l25 y25 z25
  obtain ⟨h25, e25⟩ : ∃ z, T25.heap = z := ⟨_, rfl⟩
  rw [e25] at hQ25
  obtain ⟨t25, rfl, Nq25, K25, Et25⟩ := hQ25
  have N25 := Fr.app N22 Nq25
  have O26 := O23.keep K25 all0
  have kp27 : Keep h0 h25 [] := kp24.trans K25 all0
  obtain ⟨cl28, Ar28, q28, Sz28, Nn28, Ha28, Gf28⟩ := (Vb22.keep K25 nin0)
  have hin28 : ¬ ((3 : Int32) < 0 ∨ cl28.slots.size ≤ ((3 : Int32)).toNatClampNeg) := inb_of Sz28 ⟨by decide, by decide⟩
  obtain ⟨T29, h29, X29, e29, W29, st29⟩ := stR X25 hx hZ e25 Ar28 (j := (3 : Int32)) hin28 rfl (Sto.ofV Ar28 q28 Ov1 (Ins.self Et25)) (g := (mkF m 61 #[.val (.int p1), .val (.int p2), .val (.ref b1), .unset, .unset, .unset, .unset, .unset, .unset, .unset, .unset, .unset] [(.ref t25), (.int 3), (.ref b1)])) rfl rfl (hb hby at_61)
  have Va29 := Arv.set Ar28 q28 Sz28 Nn28 Ha28 Gf28 rfl W29 3 rfl (Nat.le_of_ble_eq_true rfl)
  have Vb29 : Arv Z h29 b1 k1 (.object "java/lang/String") (4 : Int32) [(.ref t4), (.ref t11), (.ref t18), (.ref t25)] .null := Va29
  have O30 := O26.wr W29 g_b1
  have kp31 : Keep h0 h29 [] := kp27.wr W29 (Or.inr sz_b1)
  have N29 := Fr.snoc X29 N25 g_b1
  obtain ⟨q0, hq0⟩ : ∃ q : Fin 4, (p2 &&& (3 : Int32)) = Int32.ofNat q.1 := own_fin4 _
  obtain ⟨q1, hq1⟩ : ∃ q : Fin 4, (((p2.toUInt32 >>> ((2 : Int32) &&& 31).toUInt32).toInt32) &&& (3 : Int32)) = Int32.ofNat q.1 := own_fin4 _
  obtain ⟨q2, hq2⟩ : ∃ q : Fin 4, (((p2.toUInt32 >>> ((4 : Int32) &&& 31).toUInt32).toInt32) &&& (3 : Int32)) = Int32.ofNat q.1 := own_fin4 _
  obtain ⟨q3, hq3⟩ : ∃ q : Fin 4, (((p2.toUInt32 >>> ((6 : Int32) &&& 31).toUInt32).toInt32) &&& (3 : Int32)) = Int32.ofNat q.1 := own_fin4 _
  obtain ⟨T32, h32, X32, e32, E32, A32, D32, U32, st32⟩ := newO X29 hx hZ hown (hw _ (List.mem_of_getElem? (i := 28) rfl)) (hw _ (List.mem_of_getElem? (i := 29) rfl)) (hw _ (List.mem_of_getElem? (i := 30) rfl)) e29 (g := (mkF m 88 #[.val (.int p1), .val (.int p2), .val (.ref b1), .val (.int (Int32.ofNat q0.1)), .val (.int (Int32.ofNat q1.1)), .val (.int (Int32.ofNat q2.1)), .val (.int (Int32.ofNat q3.1)), .unset, .unset, .unset, .unset, .unset] [])) rfl (hb hby at_88) (by decide) (by decide)
  obtain ⟨b32, g32⟩ : ∃ z, z = h29.size := ⟨_, rfl⟩
  rw [← g32] at A32 D32 U32 st32
  have g_b32 : n0 ≤ b32 := by rw [g32]; exact Nat.le_trans (Nat.le_of_eq O30.1.symm) O30.2.1
  have sz_b32 : h0.size ≤ b32 := by rw [g32]; exact kp31.1
  have lt_b1_b32 : b1 < b32 := by rw [g32]; exact Vb29.lt
  have O33 := O30.ext E32
  have kp34 : Keep h0 h32 [] := kp31.ext E32
  have F_modCount_b32 : Fld Z h32 b32 "java/util/AbstractList" "modCount" "I" (.int 0) := D32 (Or.inl (hw _ (List.mem_of_getElem? (i := 51) rfl))) (ty := .int) (by decide)
  have F_registered_b32 : Fld Z h32 b32 "com/example/rivet_context/rivetcontext/factory/TypeListing" "registered" "[Ljava/lang/String;" .null := D32 (Or.inr (hw _ (List.mem_of_getElem? (i := 53) rfl))) (ty := (.array (.object "java/lang/String"))) (by decide)
  have F_places_b32 : Fld Z h32 b32 "com/example/rivet_context/rivetcontext/factory/TypeListing" "places" "[I" .null := D32 (Or.inr (hw _ (List.mem_of_getElem? (i := 55) rfl))) (ty := (.array .int)) (by decide)
  have F_count_b32 : Fld Z h32 b32 "com/example/rivet_context/rivetcontext/factory/TypeListing" "count" "I" (.int 0) := D32 (Or.inr (hw _ (List.mem_of_getElem? (i := 57) rfl))) (ty := .int) (by decide)
  have F_ordered_b32 : Fld Z h32 b32 "com/example/rivet_context/rivetcontext/factory/TypeListing" "ordered" "I" (.int 0) := D32 (Or.inr (hw _ (List.mem_of_getElem? (i := 59) rfl))) (ty := .int) (by decide)
  have F_written_b32 : Fld Z h32 b32 "com/example/rivet_context/rivetcontext/factory/TypeListing" "written" "[I" .null := D32 (Or.inr (hw _ (List.mem_of_getElem? (i := 61) rfl))) (ty := (.array .int)) (by decide)
  have F_inPlace_b32 : Fld Z h32 b32 "com/example/rivet_context/rivetcontext/factory/TypeListing" "inPlace" "Lcom/example/rivet_context/rivetcontext/factory/TypeListing;" .null := D32 (Or.inl (hw _ (List.mem_of_getElem? (i := 68) rfl))) (ty := (.object "com/example/rivet_context/rivetcontext/factory/TypeListing")) (by decide)
  have lt_r := ((Vb29.ext E32)).lt
  obtain ⟨_, _, ⟨T35, L35, k35, n35⟩, -, X35, ⟨Lc35, hQ35, l35, y35, z35⟩, st35⟩ := X32.specialBack hx (y := (⟨"com/example/rivet_context/rivetcontext/factory/TypeListing", "<init>", "([Ljava/lang/String;I)V"⟩ : MethodName)) rfl hown (mvT hZ (hw _ (List.mem_of_getElem? (i := 31) rfl))) (mvT hZ (hw _ (List.mem_of_getElem? (i := 32) rfl))) (mvT hZ (hw _ (List.mem_of_getElem? (i := 33) rfl))) (by decide) (backOf (W := 1) (rmi2 l Z a0 hw [] b32 b1 (Int32.ofNat q0.1) h32 n0 O33 ⟨A32, F_registered_b32, F_places_b32, F_count_b32, F_ordered_b32, F_written_b32, F_inPlace_b32⟩ F_modCount_b32 g_b32 lt_r) hZ (hw _ (List.mem_of_getElem? (i := 33) rfl)) (hw _ (List.mem_of_getElem? (i := 30) rfl)) (by decide) (by decide)) (g := (mkF m 94 #[.val (.int p1), .val (.int p2), .val (.ref b1), .val (.int (Int32.ofNat q0.1)), .val (.int (Int32.ofNat q1.1)), .val (.int (Int32.ofNat q2.1)), .val (.int (Int32.ofNat q3.1)), .unset, .unset, .unset, .unset, .unset] [(.int (Int32.ofNat q0.1)), (.ref b1), (.ref b32), (.ref b32)])) rfl (by rw [hml]; rfl) (Steps.refl _) (a := b32) (argsL := [(.ref b1), (.int (Int32.ofNat q0.1))]) (rest := [(.ref b32)]) (lenOf pd19 rfl) rfl (by show 2 * 0 + _ ≤ _; exact Nat.le_of_eq rfl) (hb hby at_94) (fun _ _ => ⟨rfl, e32, (by decide : 10 + 2 ≤ _), (by decide : 31 + 2 ≤ _)⟩)
  dsimp only [Pt.U, Pt.locs, Pt.cells, Pt.slots] at X35 l35 y35 z35 st35 hQ35
  subst l35 y35 z35
  obtain ⟨h35, e35⟩ : ∃ z, T35.heap = z := ⟨_, rfl⟩
  rw [e35] at hQ35
  obtain ⟨rfl, Nq35, K35, Lq35⟩ := hQ35
  have N35 := Fr.app N29 Nq35
  have O36 := O33.keep K35 (allS g_b32 all0)
  have kp37 : Keep h0 h35 [] := kp34.trans K35 (allS (Or.inr sz_b32) all0)
  obtain ⟨ok1, ok2, ok3, ok4, okr⟩ := own_out q0 q1 q2 q3
  obtain ⟨bf1, bf2, bf3, bf4, bf5⟩ := okS.out ok1
  obtain ⟨bg1, bg2, bg3, bg4, bg5⟩ := okS.out ok2
  obtain ⟨bk1, bk2, bk3, bk4, bk5⟩ := okS.out ok3
  obtain ⟨cq38, kq38, qa38, qb38, qc38⟩ := isOf hZ e35 (own_lstE Lq35).1
  obtain ⟨_, _, ⟨T38, L38, k38, n38⟩, -, X38, ⟨Lc38, hQ38, l38, y38, z38⟩, st38⟩ := X35.virtualBack hx (y := (⟨"com/example/rivet_context/rivetcontext/factory/TypeListing", "with", "(I)Lcom/example/rivet_context/rivetcontext/factory/TypeListing;"⟩ : MethodName)) (z := (⟨"com/example/rivet_context/rivetcontext/factory/TypeListing", "with", "(I)Lcom/example/rivet_context/rivetcontext/factory/TypeListing;"⟩ : MethodName)) hown (mvT hZ (hw _ (List.mem_of_getElem? (i := 62) rfl))) (mvT hZ (hw _ (List.mem_of_getElem? (i := 63) rfl))) (notFace_of_selects (args := #[]) (mvT hZ (hw _ (List.mem_of_getElem? (i := 65) rfl)))) (mvT hZ (hw _ (List.mem_of_getElem? (i := 65) rfl))) (mvT hZ (hw _ (List.mem_of_getElem? (i := 64) rfl))) (by decide) (backOf (W := 0) (rmwi l Z a0 hw [] b32 b1 k1 [t4, t11, t18, t25] [(Int32.ofNat q0.1)] 1 1 (Int32.ofNat q1.1) h35 n0 O36 Lq35 ((Vb29.ext E32).keep K35 (ninS (Nat.ne_of_lt lt_b1_b32) nin0)) (Nat.le_refl 1) (Nat.le_refl 1) (by decide) (Nat.le_refl 1) (by rw [List.length_singleton]; decide)) hZ (hw _ (List.mem_of_getElem? (i := 66) rfl)) (hw _ (List.mem_of_getElem? (i := 30) rfl)) (by decide) (by decide)) qa38 qc38 (g := (mkF m 99 #[.val (.int p1), .val (.int p2), .val (.ref b1), .val (.int (Int32.ofNat q0.1)), .val (.int (Int32.ofNat q1.1)), .val (.int (Int32.ofNat q2.1)), .val (.int (Int32.ofNat q3.1)), .unset, .unset, .unset, .unset, .unset] [(.int (Int32.ofNat q1.1)), (.ref b32)])) rfl (by rw [hml]; rfl) (Steps.refl _) (argsL := [(.int (Int32.ofNat q1.1))]) (rest := []) (lenOf pd9 rfl) rfl (by show 2 * 0 + _ ≤ _; exact Nat.le_of_eq rfl) (hb hby at_99) (fun _ _ => ⟨rfl, e35, (by decide : 12 + 3 ≤ _), (by decide : 33 + 16 ≤ _)⟩)
  dsimp only [Pt.U, Pt.locs, Pt.cells, Pt.slots] at X38 l38 y38 z38 st38 hQ38
  subst l38 y38 z38
  obtain ⟨h38, e38⟩ : ∃ z, T38.heap = z := ⟨_, rfl⟩
  rw [e38] at hQ38
  obtain ⟨x38, rfl, Nq38, Oq38, Vr38, Lq38⟩ := hQ38
  have N38 := Fr.app N35 Nq38
  obtain ⟨Ex38, -⟩ := own_lstE Lq38
  obtain ⟨cq39, kq39, qa39, qb39, qc39⟩ := isOf hZ e38 Ex38
  obtain ⟨_, _, ⟨T39, L39, k39, n39⟩, -, X39, ⟨Lc39, hQ39, l39, y39, z39⟩, st39⟩ := X38.virtualBack hx (y := (⟨"com/example/rivet_context/rivetcontext/factory/TypeListing", "with", "(I)Lcom/example/rivet_context/rivetcontext/factory/TypeListing;"⟩ : MethodName)) (z := (⟨"com/example/rivet_context/rivetcontext/factory/TypeListing", "with", "(I)Lcom/example/rivet_context/rivetcontext/factory/TypeListing;"⟩ : MethodName)) hown (mvT hZ (hw _ (List.mem_of_getElem? (i := 62) rfl))) (mvT hZ (hw _ (List.mem_of_getElem? (i := 63) rfl))) (notFace_of_selects (args := #[]) (mvT hZ (hw _ (List.mem_of_getElem? (i := 65) rfl)))) (mvT hZ (hw _ (List.mem_of_getElem? (i := 65) rfl))) (mvT hZ (hw _ (List.mem_of_getElem? (i := 64) rfl))) (by decide) (backOf (W := 0) (rmwi l Z a0 hw [] x38 b1 k1 [t4, t11, t18, t25] (S1F (Int32.ofNat q0.1) (Int32.ofNat q1.1)).1 (S1F (Int32.ofNat q0.1) (Int32.ofNat q1.1)).2.1 (S1F (Int32.ofNat q0.1) (Int32.ofNat q1.1)).2.2 (Int32.ofNat q2.1) h38 n0 Oq38 Lq38 Vr38 bf1 bf2 bf3 bf4 bf5) hZ (hw _ (List.mem_of_getElem? (i := 66) rfl)) (hw _ (List.mem_of_getElem? (i := 30) rfl)) (by decide) (by decide)) qa39 qc39 (g := (mkF m 104 #[.val (.int p1), .val (.int p2), .val (.ref b1), .val (.int (Int32.ofNat q0.1)), .val (.int (Int32.ofNat q1.1)), .val (.int (Int32.ofNat q2.1)), .val (.int (Int32.ofNat q3.1)), .unset, .unset, .unset, .unset, .unset] [(.int (Int32.ofNat q2.1)), (.ref x38)])) rfl (by rw [hml]; rfl) (Steps.refl _) (argsL := [(.int (Int32.ofNat q2.1))]) (rest := []) (lenOf pd9 rfl) rfl (by show 2 * 0 + _ ≤ _; exact Nat.le_of_eq rfl) (hb hby at_104) (fun _ _ => ⟨rfl, e38, (by decide : 15 + 3 ≤ _), (by decide : 49 + 16 ≤ _)⟩)
  dsimp only [Pt.U, Pt.locs, Pt.cells, Pt.slots] at X39 l39 y39 z39 st39 hQ39
  subst l39 y39 z39
  obtain ⟨h39, e39⟩ : ∃ z, T39.heap = z := ⟨_, rfl⟩
  rw [e39] at hQ39
  obtain ⟨x39, rfl, Nq39, Oq39, Vr39, Lq39⟩ := hQ39
  have N39 := Fr.app N38 Nq39
  obtain ⟨Ex39, -⟩ := own_lstE Lq39
  obtain ⟨cq40, kq40, qa40, qb40, qc40⟩ := isOf hZ e39 Ex39
  obtain ⟨_, _, ⟨T40, L40, k40, n40⟩, -, X40, ⟨Lc40, hQ40, l40, y40, z40⟩, st40⟩ := X39.virtualBack hx (y := (⟨"com/example/rivet_context/rivetcontext/factory/TypeListing", "with", "(I)Lcom/example/rivet_context/rivetcontext/factory/TypeListing;"⟩ : MethodName)) (z := (⟨"com/example/rivet_context/rivetcontext/factory/TypeListing", "with", "(I)Lcom/example/rivet_context/rivetcontext/factory/TypeListing;"⟩ : MethodName)) hown (mvT hZ (hw _ (List.mem_of_getElem? (i := 62) rfl))) (mvT hZ (hw _ (List.mem_of_getElem? (i := 63) rfl))) (notFace_of_selects (args := #[]) (mvT hZ (hw _ (List.mem_of_getElem? (i := 65) rfl)))) (mvT hZ (hw _ (List.mem_of_getElem? (i := 65) rfl))) (mvT hZ (hw _ (List.mem_of_getElem? (i := 64) rfl))) (by decide) (backOf (W := 0) (rmwi l Z a0 hw [] x39 b1 k1 [t4, t11, t18, t25] (S2F (Int32.ofNat q0.1) (Int32.ofNat q1.1) (Int32.ofNat q2.1)).1 (S2F (Int32.ofNat q0.1) (Int32.ofNat q1.1) (Int32.ofNat q2.1)).2.1 (S2F (Int32.ofNat q0.1) (Int32.ofNat q1.1) (Int32.ofNat q2.1)).2.2 (Int32.ofNat q3.1) h39 n0 Oq39 Lq39 Vr39 bg1 bg2 bg3 bg4 bg5) hZ (hw _ (List.mem_of_getElem? (i := 66) rfl)) (hw _ (List.mem_of_getElem? (i := 30) rfl)) (by decide) (by decide)) qa40 qc40 (g := (mkF m 109 #[.val (.int p1), .val (.int p2), .val (.ref b1), .val (.int (Int32.ofNat q0.1)), .val (.int (Int32.ofNat q1.1)), .val (.int (Int32.ofNat q2.1)), .val (.int (Int32.ofNat q3.1)), .unset, .unset, .unset, .unset, .unset] [(.int (Int32.ofNat q3.1)), (.ref x39)])) rfl (by rw [hml]; rfl) (Steps.refl _) (argsL := [(.int (Int32.ofNat q3.1))]) (rest := []) (lenOf pd9 rfl) rfl (by show 2 * 0 + _ ≤ _; exact Nat.le_of_eq rfl) (hb hby at_109) (fun _ _ => ⟨rfl, e39, (by decide : 18 + 3 ≤ _), (by decide : 65 + 16 ≤ _)⟩)
  dsimp only [Pt.U, Pt.locs, Pt.cells, Pt.slots] at X40 l40 y40 z40 st40 hQ40
  subst l40 y40 z40
  obtain ⟨h40, e40⟩ : ∃ z, T40.heap = z := ⟨_, rfl⟩
  rw [e40] at hQ40
  obtain ⟨x40, rfl, Nq40, Oq40, Vr40, Lq40⟩ := hQ40
  have N40 := Fr.app N39 Nq40
  obtain ⟨Ex40, -⟩ := own_lstE Lq40
  obtain ⟨cq41, kq41, qa41, qb41, qc41⟩ := isOf hZ e40 Ex40
  obtain ⟨_, _, ⟨T41, L41, k41, n41⟩, -, X41, ⟨Lc41, hQ41, l41, y41, z41⟩, st41⟩ := X40.virtualBack hx (y := (⟨"com/example/rivet_context/rivetcontext/factory/TypeListing", "get", "(I)Ljava/lang/String;"⟩ : MethodName)) (z := (⟨"com/example/rivet_context/rivetcontext/factory/TypeListing", "get", "(I)Ljava/lang/String;"⟩ : MethodName)) hown (mvT hZ (hw _ (List.mem_of_getElem? (i := 95) rfl))) (mvT hZ (hw _ (List.mem_of_getElem? (i := 96) rfl))) (notFace_of_selects (args := #[]) (mvT hZ (hw _ (List.mem_of_getElem? (i := 98) rfl)))) (mvT hZ (hw _ (List.mem_of_getElem? (i := 98) rfl))) (mvT hZ (hw _ (List.mem_of_getElem? (i := 97) rfl))) (by decide) (backOf (W := 0) (rmget l Z a0 hw [] x40 b1 k1 [t4, t11, t18, t25] (S3F (Int32.ofNat q0.1) (Int32.ofNat q1.1) (Int32.ofNat q2.1) (Int32.ofNat q3.1)).1 (S3F (Int32.ofNat q0.1) (Int32.ofNat q1.1) (Int32.ofNat q2.1) (Int32.ofNat q3.1)).2.1 (S3F (Int32.ofNat q0.1) (Int32.ofNat q1.1) (Int32.ofNat q2.1) (Int32.ofNat q3.1)).2.2 0 q0.1 h40 n0 Oq40 Lq40 Vr40 bk2 bk4 (by omega) (by omega) rfl ok4 q0.2) hZ (hw _ (List.mem_of_getElem? (i := 99) rfl)) (hw _ (List.mem_of_getElem? (i := 30) rfl)) (by decide) (by decide)) qa41 qc41 (g := (mkF m 117 #[.val (.int p1), .val (.int p2), .val (.ref b1), .val (.int (Int32.ofNat q0.1)), .val (.int (Int32.ofNat q1.1)), .val (.int (Int32.ofNat q2.1)), .val (.int (Int32.ofNat q3.1)), .val (.ref x40), .unset, .unset, .unset, .unset] [(.int 0), (.ref x40)])) rfl (by rw [hml]; rfl) (Steps.refl _) (argsL := [(.int 0)]) (rest := []) (lenOf pd20 rfl) rfl (by show 2 * 0 + _ ≤ _; exact Nat.le_of_eq rfl) (hb hby at_117) (fun _ _ => ⟨rfl, e40, (by decide : 21 + 0 ≤ _), (by decide : 81 + 0 ≤ _)⟩)
  dsimp only [Pt.U, Pt.locs, Pt.cells, Pt.slots] at X41 l41 y41 z41 st41 hQ41
  subst l41 y41 z41
  obtain ⟨rfl, Nq41, e41⟩ := hQ41
  have N41 := Fr.app N40 Nq41
  obtain ⟨cl42, Ar42, hin42, hat42⟩ := own_atR (j := (Int32.ofNat q0.1)) (q := q0.1) (ss := [t4, t11, t18, t25]) Vr40 rfl rfl q0.2
  have pf43 : ∀ target, Steps p.tables e below (T41.setTop (mkF m 123 #[.val (.int p1), .val (.int p2), .val (.ref b1), .val (.int (Int32.ofNat q0.1)), .val (.int (Int32.ofNat q1.1)), .val (.int (Int32.ofNat q2.1)), .val (.int (Int32.ofNat q3.1)), .val (.ref x40), .unset, .unset, .unset, .unset] [(.ref ([t4, t11, t18, t25].getD q0.1 0)), (.ref ([t4, t11, t18, t25].getD q0.1 0))])) target → Steps p.tables e below (s₁.setTop (mkF m 0 #[.val (.int p1), .val (.int p2), .unset, .unset, .unset, .unset, .unset, .unset, .unset, .unset, .unset, .unset] [])) target := by
    intro target k
    show Steps p.tables e below (s₁.setTop (mkF m 0 #[.val (.int p1), .val (.int p2), .unset, .unset, .unset, .unset, .unset, .unset, .unset, .unset, .unset, .unset] [])) _
    refine XS.iconst X0.here hx rfl (hb hby at_0) ?_
    show Steps p.tables e below (s₁.setTop (mkF m 1 #[.val (.int p1), .val (.int p2), .unset, .unset, .unset, .unset, .unset, .unset, .unset, .unset, .unset, .unset] [(.int 4)])) _
    refine st1 _ ?_
    show Steps p.tables e below (T1.setTop (mkF m 4 #[.val (.int p1), .val (.int p2), .unset, .unset, .unset, .unset, .unset, .unset, .unset, .unset, .unset, .unset] [(.ref b1)])) _
    refine XS.astoreN X1.here hx rfl (hb hby at_4) rfl rfl (l' := #[.val (.int p1), .val (.int p2), .val (.ref b1), .unset, .unset, .unset, .unset, .unset, .unset, .unset, .unset, .unset]) rfl ?_
    refine XS.aloadN X1.here hx rfl (hb hby at_5) rfl rfl ?_
    refine XS.iconst X1.here hx rfl (hb hby at_6) ?_
    refine XS.iloadN X1.here hx rfl (hb hby at_7) rfl ?_
    refine XS.sipush X1.here hx rfl (hb hby at_8) ?_
    refine XS.iand X1.here hx rfl (hb hby at_11) rfl ?_
    refine XS.i2c X1.here hx rfl (hb hby at_12) rfl ?_
    show Steps p.tables e below (T1.setTop (mkF m 13 #[.val (.int p1), .val (.int p2), .val (.ref b1), .unset, .unset, .unset, .unset, .unset, .unset, .unset, .unset, .unset] [(.int ((p1 &&& (255 : Int32)).toUInt32.toUInt16.toUInt32.toInt32)), (.int 0), (.ref b1)])) _
    refine st4 _ ?_
    show Steps p.tables e below (T4.setTop (mkF m 16 #[.val (.int p1), .val (.int p2), .val (.ref b1), .unset, .unset, .unset, .unset, .unset, .unset, .unset, .unset, .unset] [(.ref t4), (.int 0), (.ref b1)])) _
    refine st8 _ ?_
    show Steps p.tables e below (T8.setTop (mkF m 17 #[.val (.int p1), .val (.int p2), .val (.ref b1), .unset, .unset, .unset, .unset, .unset, .unset, .unset, .unset, .unset] [])) _
    refine XS.aloadN X8.here hx rfl (hb hby at_17) rfl rfl ?_
    refine XS.iconst X8.here hx rfl (hb hby at_18) ?_
    refine XS.iloadN X8.here hx rfl (hb hby at_19) rfl ?_
    refine XS.bipush X8.here hx rfl (hb hby at_20) ?_
    refine XS.iushr X8.here hx rfl (hb hby at_22) rfl ?_
    refine XS.sipush X8.here hx rfl (hb hby at_23) ?_
    refine XS.iand X8.here hx rfl (hb hby at_26) rfl ?_
    show Steps p.tables e below (T8.setTop (mkF m 27 #[.val (.int p1), .val (.int p2), .val (.ref b1), .unset, .unset, .unset, .unset, .unset, .unset, .unset, .unset, .unset] [(.int (((p1.toUInt32 >>> ((8 : Int32) &&& 31).toUInt32).toInt32) &&& (255 : Int32))), (.int 1), (.ref b1)])) _
    refine XS.i2c X8.here hx rfl (hb hby at_27) rfl ?_
    show Steps p.tables e below (T8.setTop (mkF m 28 #[.val (.int p1), .val (.int p2), .val (.ref b1), .unset, .unset, .unset, .unset, .unset, .unset, .unset, .unset, .unset] [(.int ((((p1.toUInt32 >>> ((8 : Int32) &&& 31).toUInt32).toInt32) &&& (255 : Int32)).toUInt32.toUInt16.toUInt32.toInt32)), (.int 1), (.ref b1)])) _
    refine st11 _ ?_
    show Steps p.tables e below (T11.setTop (mkF m 31 #[.val (.int p1), .val (.int p2), .val (.ref b1), .unset, .unset, .unset, .unset, .unset, .unset, .unset, .unset, .unset] [(.ref t11), (.int 1), (.ref b1)])) _
    refine st15 _ ?_
    show Steps p.tables e below (T15.setTop (mkF m 32 #[.val (.int p1), .val (.int p2), .val (.ref b1), .unset, .unset, .unset, .unset, .unset, .unset, .unset, .unset, .unset] [])) _
    refine XS.aloadN X15.here hx rfl (hb hby at_32) rfl rfl ?_
    refine XS.iconst X15.here hx rfl (hb hby at_33) ?_
    refine XS.iloadN X15.here hx rfl (hb hby at_34) rfl ?_
    refine XS.bipush X15.here hx rfl (hb hby at_35) ?_
    refine XS.iushr X15.here hx rfl (hb hby at_37) rfl ?_
    refine XS.sipush X15.here hx rfl (hb hby at_38) ?_
    refine XS.iand X15.here hx rfl (hb hby at_41) rfl ?_
    show Steps p.tables e below (T15.setTop (mkF m 42 #[.val (.int p1), .val (.int p2), .val (.ref b1), .unset, .unset, .unset, .unset, .unset, .unset, .unset, .unset, .unset] [(.int (((p1.toUInt32 >>> ((16 : Int32) &&& 31).toUInt32).toInt32) &&& (255 : Int32))), (.int 2), (.ref b1)])) _
    refine XS.i2c X15.here hx rfl (hb hby at_42) rfl ?_
    show Steps p.tables e below (T15.setTop (mkF m 43 #[.val (.int p1), .val (.int p2), .val (.ref b1), .unset, .unset, .unset, .unset, .unset, .unset, .unset, .unset, .unset] [(.int ((((p1.toUInt32 >>> ((16 : Int32) &&& 31).toUInt32).toInt32) &&& (255 : Int32)).toUInt32.toUInt16.toUInt32.toInt32)), (.int 2), (.ref b1)])) _
    refine st18 _ ?_
    show Steps p.tables e below (T18.setTop (mkF m 46 #[.val (.int p1), .val (.int p2), .val (.ref b1), .unset, .unset, .unset, .unset, .unset, .unset, .unset, .unset, .unset] [(.ref t18), (.int 2), (.ref b1)])) _
    refine st22 _ ?_
    show Steps p.tables e below (T22.setTop (mkF m 47 #[.val (.int p1), .val (.int p2), .val (.ref b1), .unset, .unset, .unset, .unset, .unset, .unset, .unset, .unset, .unset] [])) _
    refine XS.aloadN X22.here hx rfl (hb hby at_47) rfl rfl ?_
    refine XS.iconst X22.here hx rfl (hb hby at_48) ?_
    refine XS.iloadN X22.here hx rfl (hb hby at_49) rfl ?_
    refine XS.bipush X22.here hx rfl (hb hby at_50) ?_
    refine XS.iushr X22.here hx rfl (hb hby at_52) rfl ?_
    refine XS.sipush X22.here hx rfl (hb hby at_53) ?_
    refine XS.iand X22.here hx rfl (hb hby at_56) rfl ?_
    show Steps p.tables e below (T22.setTop (mkF m 57 #[.val (.int p1), .val (.int p2), .val (.ref b1), .unset, .unset, .unset, .unset, .unset, .unset, .unset, .unset, .unset] [(.int (((p1.toUInt32 >>> ((24 : Int32) &&& 31).toUInt32).toInt32) &&& (255 : Int32))), (.int 3), (.ref b1)])) _
    refine XS.i2c X22.here hx rfl (hb hby at_57) rfl ?_
    show Steps p.tables e below (T22.setTop (mkF m 58 #[.val (.int p1), .val (.int p2), .val (.ref b1), .unset, .unset, .unset, .unset, .unset, .unset, .unset, .unset, .unset] [(.int ((((p1.toUInt32 >>> ((24 : Int32) &&& 31).toUInt32).toInt32) &&& (255 : Int32)).toUInt32.toUInt16.toUInt32.toInt32)), (.int 3), (.ref b1)])) _
    refine st25 _ ?_
    show Steps p.tables e below (T25.setTop (mkF m 61 #[.val (.int p1), .val (.int p2), .val (.ref b1), .unset, .unset, .unset, .unset, .unset, .unset, .unset, .unset, .unset] [(.ref t25), (.int 3), (.ref b1)])) _
    refine st29 _ ?_
    show Steps p.tables e below (T29.setTop (mkF m 62 #[.val (.int p1), .val (.int p2), .val (.ref b1), .unset, .unset, .unset, .unset, .unset, .unset, .unset, .unset, .unset] [])) _
    refine XS.iloadN X29.here hx rfl (hb hby at_62) rfl ?_
    refine XS.iconst X29.here hx rfl (hb hby at_63) ?_
    refine XS.iand X29.here hx rfl (hb hby at_64) rfl ?_
    show Steps p.tables e below (T29.setTop (mkF m 65 #[.val (.int p1), .val (.int p2), .val (.ref b1), .unset, .unset, .unset, .unset, .unset, .unset, .unset, .unset, .unset] [(.int (p2 &&& (3 : Int32)))])) _
    rw [hq0]
    show Steps p.tables e below (T29.setTop (mkF m 65 #[.val (.int p1), .val (.int p2), .val (.ref b1), .unset, .unset, .unset, .unset, .unset, .unset, .unset, .unset, .unset] [(.int (Int32.ofNat q0.1))])) _
    refine XS.istoreN X29.here hx rfl (hb hby at_65) rfl (l' := #[.val (.int p1), .val (.int p2), .val (.ref b1), .val (.int (Int32.ofNat q0.1)), .unset, .unset, .unset, .unset, .unset, .unset, .unset, .unset]) rfl ?_
    refine XS.iloadN X29.here hx rfl (hb hby at_66) rfl ?_
    refine XS.iconst X29.here hx rfl (hb hby at_67) ?_
    refine XS.iushr X29.here hx rfl (hb hby at_68) rfl ?_
    show Steps p.tables e below (T29.setTop (mkF m 69 #[.val (.int p1), .val (.int p2), .val (.ref b1), .val (.int (Int32.ofNat q0.1)), .unset, .unset, .unset, .unset, .unset, .unset, .unset, .unset] [(.int ((p2.toUInt32 >>> ((2 : Int32) &&& 31).toUInt32).toInt32))])) _
    refine XS.iconst X29.here hx rfl (hb hby at_69) ?_
    refine XS.iand X29.here hx rfl (hb hby at_70) rfl ?_
    show Steps p.tables e below (T29.setTop (mkF m 71 #[.val (.int p1), .val (.int p2), .val (.ref b1), .val (.int (Int32.ofNat q0.1)), .unset, .unset, .unset, .unset, .unset, .unset, .unset, .unset] [(.int (((p2.toUInt32 >>> ((2 : Int32) &&& 31).toUInt32).toInt32) &&& (3 : Int32)))])) _
    rw [hq1]
    show Steps p.tables e below (T29.setTop (mkF m 71 #[.val (.int p1), .val (.int p2), .val (.ref b1), .val (.int (Int32.ofNat q0.1)), .unset, .unset, .unset, .unset, .unset, .unset, .unset, .unset] [(.int (Int32.ofNat q1.1))])) _
    refine XS.istore X29.here hx rfl (hb hby at_71) rfl (l' := #[.val (.int p1), .val (.int p2), .val (.ref b1), .val (.int (Int32.ofNat q0.1)), .val (.int (Int32.ofNat q1.1)), .unset, .unset, .unset, .unset, .unset, .unset, .unset]) rfl ?_
    refine XS.iloadN X29.here hx rfl (hb hby at_73) rfl ?_
    refine XS.iconst X29.here hx rfl (hb hby at_74) ?_
    refine XS.iushr X29.here hx rfl (hb hby at_75) rfl ?_
    refine XS.iconst X29.here hx rfl (hb hby at_76) ?_
    show Steps p.tables e below (T29.setTop (mkF m 77 #[.val (.int p1), .val (.int p2), .val (.ref b1), .val (.int (Int32.ofNat q0.1)), .val (.int (Int32.ofNat q1.1)), .unset, .unset, .unset, .unset, .unset, .unset, .unset] [(.int 3), (.int ((p2.toUInt32 >>> ((4 : Int32) &&& 31).toUInt32).toInt32))])) _
    refine XS.iand X29.here hx rfl (hb hby at_77) rfl ?_
    show Steps p.tables e below (T29.setTop (mkF m 78 #[.val (.int p1), .val (.int p2), .val (.ref b1), .val (.int (Int32.ofNat q0.1)), .val (.int (Int32.ofNat q1.1)), .unset, .unset, .unset, .unset, .unset, .unset, .unset] [(.int (((p2.toUInt32 >>> ((4 : Int32) &&& 31).toUInt32).toInt32) &&& (3 : Int32)))])) _
    rw [hq2]
    show Steps p.tables e below (T29.setTop (mkF m 78 #[.val (.int p1), .val (.int p2), .val (.ref b1), .val (.int (Int32.ofNat q0.1)), .val (.int (Int32.ofNat q1.1)), .unset, .unset, .unset, .unset, .unset, .unset, .unset] [(.int (Int32.ofNat q2.1))])) _
    refine XS.istore X29.here hx rfl (hb hby at_78) rfl (l' := #[.val (.int p1), .val (.int p2), .val (.ref b1), .val (.int (Int32.ofNat q0.1)), .val (.int (Int32.ofNat q1.1)), .val (.int (Int32.ofNat q2.1)), .unset, .unset, .unset, .unset, .unset, .unset]) rfl ?_
    refine XS.iloadN X29.here hx rfl (hb hby at_80) rfl ?_
    refine XS.bipush X29.here hx rfl (hb hby at_81) ?_
    refine XS.iushr X29.here hx rfl (hb hby at_83) rfl ?_
    refine XS.iconst X29.here hx rfl (hb hby at_84) ?_
    refine XS.iand X29.here hx rfl (hb hby at_85) rfl ?_
    show Steps p.tables e below (T29.setTop (mkF m 86 #[.val (.int p1), .val (.int p2), .val (.ref b1), .val (.int (Int32.ofNat q0.1)), .val (.int (Int32.ofNat q1.1)), .val (.int (Int32.ofNat q2.1)), .unset, .unset, .unset, .unset, .unset, .unset] [(.int (((p2.toUInt32 >>> ((6 : Int32) &&& 31).toUInt32).toInt32) &&& (3 : Int32)))])) _
    show Steps p.tables e below (T29.setTop (mkF m 86 #[.val (.int p1), .val (.int p2), .val (.ref b1), .val (.int (Int32.ofNat q0.1)), .val (.int (Int32.ofNat q1.1)), .val (.int (Int32.ofNat q2.1)), .unset, .unset, .unset, .unset, .unset, .unset] [(.int (((p2.toUInt32 >>> ((6 : Int32) &&& 31).toUInt32).toInt32) &&& (3 : Int32)))])) _
    rw [hq3]
    show Steps p.tables e below (T29.setTop (mkF m 86 #[.val (.int p1), .val (.int p2), .val (.ref b1), .val (.int (Int32.ofNat q0.1)), .val (.int (Int32.ofNat q1.1)), .val (.int (Int32.ofNat q2.1)), .unset, .unset, .unset, .unset, .unset, .unset] [(.int (Int32.ofNat q3.1))])) _
    refine XS.istore X29.here hx rfl (hb hby at_86) rfl (l' := #[.val (.int p1), .val (.int p2), .val (.ref b1), .val (.int (Int32.ofNat q0.1)), .val (.int (Int32.ofNat q1.1)), .val (.int (Int32.ofNat q2.1)), .val (.int (Int32.ofNat q3.1)), .unset, .unset, .unset, .unset, .unset]) rfl ?_
    show Steps p.tables e below (T29.setTop (mkF m 88 #[.val (.int p1), .val (.int p2), .val (.ref b1), .val (.int (Int32.ofNat q0.1)), .val (.int (Int32.ofNat q1.1)), .val (.int (Int32.ofNat q2.1)), .val (.int (Int32.ofNat q3.1)), .unset, .unset, .unset, .unset, .unset] [])) _
    refine st32 _ ?_
    show Steps p.tables e below (T32.setTop (mkF m 91 #[.val (.int p1), .val (.int p2), .val (.ref b1), .val (.int (Int32.ofNat q0.1)), .val (.int (Int32.ofNat q1.1)), .val (.int (Int32.ofNat q2.1)), .val (.int (Int32.ofNat q3.1)), .unset, .unset, .unset, .unset, .unset] [(.ref b32)])) _
    refine XS.dup X32.here hx rfl (hb hby at_91) rfl rfl ?_
    refine XS.aloadN X32.here hx rfl (hb hby at_92) rfl rfl ?_
    refine XS.iloadN X32.here hx rfl (hb hby at_93) rfl ?_
    show Steps p.tables e below (T32.setTop (mkF m 94 #[.val (.int p1), .val (.int p2), .val (.ref b1), .val (.int (Int32.ofNat q0.1)), .val (.int (Int32.ofNat q1.1)), .val (.int (Int32.ofNat q2.1)), .val (.int (Int32.ofNat q3.1)), .unset, .unset, .unset, .unset, .unset] [(.int (Int32.ofNat q0.1)), (.ref b1), (.ref b32), (.ref b32)])) _
    refine st35.trans ?_
    show Steps p.tables e below (T35.setTop (mkF m 97 #[.val (.int p1), .val (.int p2), .val (.ref b1), .val (.int (Int32.ofNat q0.1)), .val (.int (Int32.ofNat q1.1)), .val (.int (Int32.ofNat q2.1)), .val (.int (Int32.ofNat q3.1)), .unset, .unset, .unset, .unset, .unset] [(.ref b32)])) _
    refine XS.iload X35.here hx rfl (hb hby at_97) rfl ?_
    show Steps p.tables e below (T35.setTop (mkF m 99 #[.val (.int p1), .val (.int p2), .val (.ref b1), .val (.int (Int32.ofNat q0.1)), .val (.int (Int32.ofNat q1.1)), .val (.int (Int32.ofNat q2.1)), .val (.int (Int32.ofNat q3.1)), .unset, .unset, .unset, .unset, .unset] [(.int (Int32.ofNat q1.1)), (.ref b32)])) _
    refine st38.trans ?_
    show Steps p.tables e below (T38.setTop (mkF m 102 #[.val (.int p1), .val (.int p2), .val (.ref b1), .val (.int (Int32.ofNat q0.1)), .val (.int (Int32.ofNat q1.1)), .val (.int (Int32.ofNat q2.1)), .val (.int (Int32.ofNat q3.1)), .unset, .unset, .unset, .unset, .unset] [(.ref x38)])) _
    refine XS.iload X38.here hx rfl (hb hby at_102) rfl ?_
    show Steps p.tables e below (T38.setTop (mkF m 104 #[.val (.int p1), .val (.int p2), .val (.ref b1), .val (.int (Int32.ofNat q0.1)), .val (.int (Int32.ofNat q1.1)), .val (.int (Int32.ofNat q2.1)), .val (.int (Int32.ofNat q3.1)), .unset, .unset, .unset, .unset, .unset] [(.int (Int32.ofNat q2.1)), (.ref x38)])) _
    refine st39.trans ?_
    show Steps p.tables e below (T39.setTop (mkF m 107 #[.val (.int p1), .val (.int p2), .val (.ref b1), .val (.int (Int32.ofNat q0.1)), .val (.int (Int32.ofNat q1.1)), .val (.int (Int32.ofNat q2.1)), .val (.int (Int32.ofNat q3.1)), .unset, .unset, .unset, .unset, .unset] [(.ref x39)])) _
    refine XS.iload X39.here hx rfl (hb hby at_107) rfl ?_
    show Steps p.tables e below (T39.setTop (mkF m 109 #[.val (.int p1), .val (.int p2), .val (.ref b1), .val (.int (Int32.ofNat q0.1)), .val (.int (Int32.ofNat q1.1)), .val (.int (Int32.ofNat q2.1)), .val (.int (Int32.ofNat q3.1)), .unset, .unset, .unset, .unset, .unset] [(.int (Int32.ofNat q3.1)), (.ref x39)])) _
    refine st40.trans ?_
    show Steps p.tables e below (T40.setTop (mkF m 112 #[.val (.int p1), .val (.int p2), .val (.ref b1), .val (.int (Int32.ofNat q0.1)), .val (.int (Int32.ofNat q1.1)), .val (.int (Int32.ofNat q2.1)), .val (.int (Int32.ofNat q3.1)), .unset, .unset, .unset, .unset, .unset] [(.ref x40)])) _
    refine XS.astore X40.here hx rfl (hb hby at_112) rfl rfl (l' := #[.val (.int p1), .val (.int p2), .val (.ref b1), .val (.int (Int32.ofNat q0.1)), .val (.int (Int32.ofNat q1.1)), .val (.int (Int32.ofNat q2.1)), .val (.int (Int32.ofNat q3.1)), .val (.ref x40), .unset, .unset, .unset, .unset]) rfl ?_
    refine XS.aload X40.here hx rfl (hb hby at_114) rfl rfl ?_
    refine XS.iconst X40.here hx rfl (hb hby at_116) ?_
    show Steps p.tables e below (T40.setTop (mkF m 117 #[.val (.int p1), .val (.int p2), .val (.ref b1), .val (.int (Int32.ofNat q0.1)), .val (.int (Int32.ofNat q1.1)), .val (.int (Int32.ofNat q2.1)), .val (.int (Int32.ofNat q3.1)), .val (.ref x40), .unset, .unset, .unset, .unset] [(.int 0), (.ref x40)])) _
    refine st41.trans ?_
    show Steps p.tables e below (T41.setTop (mkF m 120 #[.val (.int p1), .val (.int p2), .val (.ref b1), .val (.int (Int32.ofNat q0.1)), .val (.int (Int32.ofNat q1.1)), .val (.int (Int32.ofNat q2.1)), .val (.int (Int32.ofNat q3.1)), .val (.ref x40), .unset, .unset, .unset, .unset] [(.ref ([t4, t11, t18, t25].getD q0.1 0))])) _
    refine XS.aloadN X41.here hx rfl (hb hby at_120) rfl rfl ?_
    refine XS.iloadN X41.here hx rfl (hb hby at_121) rfl ?_
    show Steps p.tables e below (T41.setTop (mkF m 122 #[.val (.int p1), .val (.int p2), .val (.ref b1), .val (.int (Int32.ofNat q0.1)), .val (.int (Int32.ofNat q1.1)), .val (.int (Int32.ofNat q2.1)), .val (.int (Int32.ofNat q3.1)), .val (.ref x40), .unset, .unset, .unset, .unset] [(.int (Int32.ofNat q0.1)), (.ref b1), (.ref ([t4, t11, t18, t25].getD q0.1 0))])) _
    refine X41.aaload hx (j := (Int32.ofNat q0.1)) (v := (.ref ([t4, t11, t18, t25].getD q0.1 0))) (by rw [e41]; exact Ar42.1) (State.isArrayOf_alike hZ.alike Ar42.2.1) rfl Ar42.2.2 hin42 hat42 (g := (mkF m 122 #[.val (.int p1), .val (.int p2), .val (.ref b1), .val (.int (Int32.ofNat q0.1)), .val (.int (Int32.ofNat q1.1)), .val (.int (Int32.ofNat q2.1)), .val (.int (Int32.ofNat q3.1)), .val (.ref x40), .unset, .unset, .unset, .unset] [(.int (Int32.ofNat q0.1)), (.ref b1), (.ref ([t4, t11, t18, t25].getD q0.1 0))])) rfl rfl (hb hby at_122) _ ?_
    exact k
  obtain ⟨cq44, kq44, qa44, qb44, qc44⟩ := isOf hZ e41 Ex40
  obtain ⟨_, _, ⟨T44, L44, k44, n44⟩, -, X44, ⟨Lc44, hQ44, l44, y44, z44⟩, st44⟩ := X41.virtualBack hx (y := (⟨"com/example/rivet_context/rivetcontext/factory/TypeListing", "ordered", "()Lcom/example/rivet_context/rivetcontext/factory/TypeListing;"⟩ : MethodName)) (z := (⟨"com/example/rivet_context/rivetcontext/factory/TypeListing", "ordered", "()Lcom/example/rivet_context/rivetcontext/factory/TypeListing;"⟩ : MethodName)) hown (mvT hZ (hw _ (List.mem_of_getElem? (i := 108) rfl))) (mvT hZ (hw _ (List.mem_of_getElem? (i := 109) rfl))) (notFace_of_selects (args := #[]) (mvT hZ (hw _ (List.mem_of_getElem? (i := 111) rfl)))) (mvT hZ (hw _ (List.mem_of_getElem? (i := 111) rfl))) (mvT hZ (hw _ (List.mem_of_getElem? (i := 110) rfl))) (by decide) (backOf (W := 0) (rmord l Z a0 hw [] x40 b1 k1 [t4, t11, t18, t25] (S3F (Int32.ofNat q0.1) (Int32.ofNat q1.1) (Int32.ofNat q2.1) (Int32.ofNat q3.1)).1 (S3F (Int32.ofNat q0.1) (Int32.ofNat q1.1) (Int32.ofNat q2.1) (Int32.ofNat q3.1)).2.1 (S3F (Int32.ofNat q0.1) (Int32.ofNat q1.1) (Int32.ofNat q2.1) (Int32.ofNat q3.1)).2.2 h40 n0 Oq40 Lq40 Vr40 bk1 bk2 bk3 bk4 (by omega)) hZ (hw _ (List.mem_of_getElem? (i := 112) rfl)) (hw _ (List.mem_of_getElem? (i := 30) rfl)) (by decide) (by decide)) qa44 qc44 (g := (mkF m 130 #[.val (.int p1), .val (.int p2), .val (.ref b1), .val (.int (Int32.ofNat q0.1)), .val (.int (Int32.ofNat q1.1)), .val (.int (Int32.ofNat q2.1)), .val (.int (Int32.ofNat q3.1)), .val (.ref x40), .unset, .unset, .unset, .unset] [(.ref x40)])) rfl (by rw [hml]; rfl) (Steps.refl _) (argsL := []) (rest := []) (lenOf pd17 rfl) rfl (by show 2 * 0 + _ ≤ _; exact Nat.le_of_eq rfl) (hb hby at_130) (fun _ _ => ⟨rfl, e41, (by decide : 21 + 4 ≤ _), (by decide : 81 + 16 ≤ _)⟩)
  dsimp only [Pt.U, Pt.locs, Pt.cells, Pt.slots] at X44 l44 y44 z44 st44 hQ44
  subst l44 y44 z44
  obtain ⟨h44, e44⟩ : ∃ z, T44.heap = z := ⟨_, rfl⟩
  rw [e44] at hQ44
  obtain ⟨x44, rfl, Nq44, Oq44, Vr44, Lq44⟩ := hQ44
  have N44 := Fr.app N41 Nq44
  obtain ⟨Ex44, -⟩ := own_lstE Lq44
  obtain ⟨mk, hmk⟩ : ∃ z, z = maskF (Int32.ofNat q0.1) (Int32.ofNat q1.1) (Int32.ofNat q2.1) (Int32.ofNat q3.1) := ⟨_, rfl⟩
  obtain ⟨nn, hnn⟩ : ∃ z, z = cntF mk := ⟨_, rfl⟩
  obtain ⟨okr0, okr1, okr2, okr3⟩ := okR.out okr
  rw [← hmk] at okr1 okr2 okr3
  rw [← hnn] at okr1 okr2 okr3
  obtain ⟨br1, br2, br3, br4, br5⟩ := okS.out okr0
  obtain ⟨cq45, kq45, qa45, qb45, qc45⟩ := isOf hZ e44 Ex44
  obtain ⟨_, _, ⟨T45, L45, k45, n45⟩, -, X45, ⟨Lc45, hQ45, l45, y45, z45⟩, st45⟩ := X44.virtualBack hx (y := (⟨"com/example/rivet_context/rivetcontext/factory/TypeListing", "size", "()I"⟩ : MethodName)) (z := (⟨"com/example/rivet_context/rivetcontext/factory/TypeListing", "size", "()I"⟩ : MethodName)) hown (mvT hZ (hw _ (List.mem_of_getElem? (i := 139) rfl))) (mvT hZ (hw _ (List.mem_of_getElem? (i := 140) rfl))) (notFace_of_selects (args := #[]) (mvT hZ (hw _ (List.mem_of_getElem? (i := 142) rfl)))) (mvT hZ (hw _ (List.mem_of_getElem? (i := 142) rfl))) (mvT hZ (hw _ (List.mem_of_getElem? (i := 141) rfl))) (by decide) (backOf (W := 0) (rmsz l Z a0 hw [] x44 b1 k1 [t4, t11, t18, t25] (RF (Int32.ofNat q0.1) (Int32.ofNat q1.1) (Int32.ofNat q2.1) (Int32.ofNat q3.1)).1 (RF (Int32.ofNat q0.1) (Int32.ofNat q1.1) (Int32.ofNat q2.1) (Int32.ofNat q3.1)).2.1 (RF (Int32.ofNat q0.1) (Int32.ofNat q1.1) (Int32.ofNat q2.1) (Int32.ofNat q3.1)).2.2 h44 n0 Oq44 Lq44 Vr44 br2 br4 (by omega)) hZ (hw _ (List.mem_of_getElem? (i := 143) rfl)) (hw _ (List.mem_of_getElem? (i := 30) rfl)) (by decide) (by decide)) qa45 qc45 (g := (mkF m 184 #[.val (.int p1), .val (.int p2), .val (.ref b1), .val (.int (Int32.ofNat q0.1)), .val (.int (Int32.ofNat q1.1)), .val (.int (Int32.ofNat q2.1)), .val (.int (Int32.ofNat q3.1)), .val (.ref x40), .val (.ref x44), .val (.int mk), .val (.int nn), .unset] [(.ref x44)])) rfl (by rw [hml]; rfl) (Steps.refl _) (argsL := []) (rest := []) (lenOf pd21 rfl) rfl (by show 2 * 0 + _ ≤ _; exact Nat.le_of_eq rfl) (hb hby at_184) (fun _ _ => ⟨rfl, e44, (by decide : 25 + 0 ≤ _), (by decide : 97 + 0 ≤ _)⟩)
  dsimp only [Pt.U, Pt.locs, Pt.cells, Pt.slots] at X45 l45 y45 z45 st45 hQ45
  subst l45 y45 z45
  obtain ⟨rfl, Nq45, e45⟩ := hQ45
  have N45 := Fr.app N44 Nq45
  have pf46 : ∀ target, Steps p.tables e below (T45.setTop (mkF m 189 #[.val (.int p1), .val (.int p2), .val (.ref b1), .val (.int (Int32.ofNat q0.1)), .val (.int (Int32.ofNat q1.1)), .val (.int (Int32.ofNat q2.1)), .val (.int (Int32.ofNat q3.1)), .val (.ref x40), .val (.ref x44), .val (.int mk), .val (.int nn), .unset] [(.int nn), (.int (Int32.ofNat (RF (Int32.ofNat q0.1) (Int32.ofNat q1.1) (Int32.ofNat q2.1) (Int32.ofNat q3.1)).2.2))])) target → Steps p.tables e below (T41.setTop (mkF m 123 #[.val (.int p1), .val (.int p2), .val (.ref b1), .val (.int (Int32.ofNat q0.1)), .val (.int (Int32.ofNat q1.1)), .val (.int (Int32.ofNat q2.1)), .val (.int (Int32.ofNat q3.1)), .val (.ref x40), .unset, .unset, .unset, .unset] [(.ref ([t4, t11, t18, t25].getD q0.1 0)), (.ref ([t4, t11, t18, t25].getD q0.1 0))])) target := by
    intro target k
    show Steps p.tables e below (T41.setTop (mkF m 123 #[.val (.int p1), .val (.int p2), .val (.ref b1), .val (.int (Int32.ofNat q0.1)), .val (.int (Int32.ofNat q1.1)), .val (.int (Int32.ofNat q2.1)), .val (.int (Int32.ofNat q3.1)), .val (.ref x40), .unset, .unset, .unset, .unset] [(.ref ([t4, t11, t18, t25].getD q0.1 0)), (.ref ([t4, t11, t18, t25].getD q0.1 0))])) _
    refine Jvm.RoadKit.acmp (g := (mkF m 123 #[.val (.int p1), .val (.int p2), .val (.ref b1), .val (.int (Int32.ofNat q0.1)), .val (.int (Int32.ofNat q1.1)), .val (.int (Int32.ofNat q2.1)), .val (.int (Int32.ofNat q3.1)), .val (.ref x40), .unset, .unset, .unset, .unset] [(.ref ([t4, t11, t18, t25].getD q0.1 0)), (.ref ([t4, t11, t18, t25].getD q0.1 0))])) X41 hx rfl rfl rfl (pc0 := 123) (pc' := 128) (same := true) rfl (hb hby at_123) rfl (decide_eq_true rfl) (by decide) (by decide) ?_
    show Steps p.tables e below (T41.setTop (mkF m 128 #[.val (.int p1), .val (.int p2), .val (.ref b1), .val (.int (Int32.ofNat q0.1)), .val (.int (Int32.ofNat q1.1)), .val (.int (Int32.ofNat q2.1)), .val (.int (Int32.ofNat q3.1)), .val (.ref x40), .unset, .unset, .unset, .unset] [])) _
    refine XS.aload X41.here hx rfl (hb hby at_128) rfl rfl ?_
    show Steps p.tables e below (T41.setTop (mkF m 130 #[.val (.int p1), .val (.int p2), .val (.ref b1), .val (.int (Int32.ofNat q0.1)), .val (.int (Int32.ofNat q1.1)), .val (.int (Int32.ofNat q2.1)), .val (.int (Int32.ofNat q3.1)), .val (.ref x40), .unset, .unset, .unset, .unset] [(.ref x40)])) _
    refine st44.trans ?_
    show Steps p.tables e below (T44.setTop (mkF m 133 #[.val (.int p1), .val (.int p2), .val (.ref b1), .val (.int (Int32.ofNat q0.1)), .val (.int (Int32.ofNat q1.1)), .val (.int (Int32.ofNat q2.1)), .val (.int (Int32.ofNat q3.1)), .val (.ref x40), .unset, .unset, .unset, .unset] [(.ref x44)])) _
    refine XS.astore X44.here hx rfl (hb hby at_133) rfl rfl (l' := #[.val (.int p1), .val (.int p2), .val (.ref b1), .val (.int (Int32.ofNat q0.1)), .val (.int (Int32.ofNat q1.1)), .val (.int (Int32.ofNat q2.1)), .val (.int (Int32.ofNat q3.1)), .val (.ref x40), .val (.ref x44), .unset, .unset, .unset]) rfl ?_
    refine XS.iconst X44.here hx rfl (hb hby at_135) ?_
    refine XS.iloadN X44.here hx rfl (hb hby at_136) rfl ?_
    refine XS.ishl X44.here hx rfl (hb hby at_137) rfl ?_
    refine XS.iconst X44.here hx rfl (hb hby at_138) ?_
    refine XS.iload X44.here hx rfl (hb hby at_139) rfl ?_
    refine XS.ishl X44.here hx rfl (hb hby at_141) rfl ?_
    show Steps p.tables e below (T44.setTop (mkF m 142 #[.val (.int p1), .val (.int p2), .val (.ref b1), .val (.int (Int32.ofNat q0.1)), .val (.int (Int32.ofNat q1.1)), .val (.int (Int32.ofNat q2.1)), .val (.int (Int32.ofNat q3.1)), .val (.ref x40), .val (.ref x44), .unset, .unset, .unset] [(.int ((1 : Int32) <<< ((Int32.ofNat q1.1) &&& 31))), (.int ((1 : Int32) <<< ((Int32.ofNat q0.1) &&& 31)))])) _
    refine XS.ior X44.here hx rfl (hb hby at_142) rfl ?_
    refine XS.iconst X44.here hx rfl (hb hby at_143) ?_
    refine XS.iload X44.here hx rfl (hb hby at_144) rfl ?_
    refine XS.ishl X44.here hx rfl (hb hby at_146) rfl ?_
    refine XS.ior X44.here hx rfl (hb hby at_147) rfl ?_
    refine XS.iconst X44.here hx rfl (hb hby at_148) ?_
    refine XS.iload X44.here hx rfl (hb hby at_149) rfl ?_
    show Steps p.tables e below (T44.setTop (mkF m 151 #[.val (.int p1), .val (.int p2), .val (.ref b1), .val (.int (Int32.ofNat q0.1)), .val (.int (Int32.ofNat q1.1)), .val (.int (Int32.ofNat q2.1)), .val (.int (Int32.ofNat q3.1)), .val (.ref x40), .val (.ref x44), .unset, .unset, .unset] [(.int (Int32.ofNat q3.1)), (.int 1), (.int ((((1 : Int32) <<< ((Int32.ofNat q0.1) &&& 31)) ||| ((1 : Int32) <<< ((Int32.ofNat q1.1) &&& 31))) ||| ((1 : Int32) <<< ((Int32.ofNat q2.1) &&& 31))))])) _
    refine XS.ishl X44.here hx rfl (hb hby at_151) rfl ?_
    refine XS.ior X44.here hx rfl (hb hby at_152) rfl ?_
    show Steps p.tables e below (T44.setTop (mkF m 153 #[.val (.int p1), .val (.int p2), .val (.ref b1), .val (.int (Int32.ofNat q0.1)), .val (.int (Int32.ofNat q1.1)), .val (.int (Int32.ofNat q2.1)), .val (.int (Int32.ofNat q3.1)), .val (.ref x40), .val (.ref x44), .unset, .unset, .unset] [(.int (((((1 : Int32) <<< ((Int32.ofNat q0.1) &&& 31)) ||| ((1 : Int32) <<< ((Int32.ofNat q1.1) &&& 31))) ||| ((1 : Int32) <<< ((Int32.ofNat q2.1) &&& 31))) ||| ((1 : Int32) <<< ((Int32.ofNat q3.1) &&& 31))))])) _
    rw [show (((((1 : Int32) <<< ((Int32.ofNat q0.1) &&& 31)) ||| ((1 : Int32) <<< ((Int32.ofNat q1.1) &&& 31))) ||| ((1 : Int32) <<< ((Int32.ofNat q2.1) &&& 31))) ||| ((1 : Int32) <<< ((Int32.ofNat q3.1) &&& 31))) = mk from hmk.symm]
    show Steps p.tables e below (T44.setTop (mkF m 153 #[.val (.int p1), .val (.int p2), .val (.ref b1), .val (.int (Int32.ofNat q0.1)), .val (.int (Int32.ofNat q1.1)), .val (.int (Int32.ofNat q2.1)), .val (.int (Int32.ofNat q3.1)), .val (.ref x40), .val (.ref x44), .unset, .unset, .unset] [(.int mk)])) _
    refine XS.istore X44.here hx rfl (hb hby at_153) rfl (l' := #[.val (.int p1), .val (.int p2), .val (.ref b1), .val (.int (Int32.ofNat q0.1)), .val (.int (Int32.ofNat q1.1)), .val (.int (Int32.ofNat q2.1)), .val (.int (Int32.ofNat q3.1)), .val (.ref x40), .val (.ref x44), .val (.int mk), .unset, .unset]) rfl ?_
    refine XS.iload X44.here hx rfl (hb hby at_155) rfl ?_
    refine XS.iconst X44.here hx rfl (hb hby at_157) ?_
    refine XS.iand X44.here hx rfl (hb hby at_158) rfl ?_
    refine XS.iload X44.here hx rfl (hb hby at_159) rfl ?_
    show Steps p.tables e below (T44.setTop (mkF m 161 #[.val (.int p1), .val (.int p2), .val (.ref b1), .val (.int (Int32.ofNat q0.1)), .val (.int (Int32.ofNat q1.1)), .val (.int (Int32.ofNat q2.1)), .val (.int (Int32.ofNat q3.1)), .val (.ref x40), .val (.ref x44), .val (.int mk), .unset, .unset] [(.int mk), (.int (mk &&& (1 : Int32)))])) _
    refine XS.iconst X44.here hx rfl (hb hby at_161) ?_
    refine XS.ishr X44.here hx rfl (hb hby at_162) rfl ?_
    refine XS.iconst X44.here hx rfl (hb hby at_163) ?_
    refine XS.iand X44.here hx rfl (hb hby at_164) rfl ?_
    refine XS.iadd X44.here hx rfl (hb hby at_165) rfl ?_
    refine XS.iload X44.here hx rfl (hb hby at_166) rfl ?_
    refine XS.iconst X44.here hx rfl (hb hby at_168) ?_
    show Steps p.tables e below (T44.setTop (mkF m 169 #[.val (.int p1), .val (.int p2), .val (.ref b1), .val (.int (Int32.ofNat q0.1)), .val (.int (Int32.ofNat q1.1)), .val (.int (Int32.ofNat q2.1)), .val (.int (Int32.ofNat q3.1)), .val (.ref x40), .val (.ref x44), .val (.int mk), .unset, .unset] [(.int 2), (.int mk), (.int ((mk &&& (1 : Int32)) + ((mk >>> ((1 : Int32) &&& 31)) &&& (1 : Int32))))])) _
    refine XS.ishr X44.here hx rfl (hb hby at_169) rfl ?_
    refine XS.iconst X44.here hx rfl (hb hby at_170) ?_
    refine XS.iand X44.here hx rfl (hb hby at_171) rfl ?_
    refine XS.iadd X44.here hx rfl (hb hby at_172) rfl ?_
    refine XS.iload X44.here hx rfl (hb hby at_173) rfl ?_
    refine XS.iconst X44.here hx rfl (hb hby at_175) ?_
    refine XS.ishr X44.here hx rfl (hb hby at_176) rfl ?_
    show Steps p.tables e below (T44.setTop (mkF m 177 #[.val (.int p1), .val (.int p2), .val (.ref b1), .val (.int (Int32.ofNat q0.1)), .val (.int (Int32.ofNat q1.1)), .val (.int (Int32.ofNat q2.1)), .val (.int (Int32.ofNat q3.1)), .val (.ref x40), .val (.ref x44), .val (.int mk), .unset, .unset] [(.int (mk >>> ((3 : Int32) &&& 31))), (.int (((mk &&& (1 : Int32)) + ((mk >>> ((1 : Int32) &&& 31)) &&& (1 : Int32))) + ((mk >>> ((2 : Int32) &&& 31)) &&& (1 : Int32))))])) _
    refine XS.iconst X44.here hx rfl (hb hby at_177) ?_
    refine XS.iand X44.here hx rfl (hb hby at_178) rfl ?_
    refine XS.iadd X44.here hx rfl (hb hby at_179) rfl ?_
    show Steps p.tables e below (T44.setTop (mkF m 180 #[.val (.int p1), .val (.int p2), .val (.ref b1), .val (.int (Int32.ofNat q0.1)), .val (.int (Int32.ofNat q1.1)), .val (.int (Int32.ofNat q2.1)), .val (.int (Int32.ofNat q3.1)), .val (.ref x40), .val (.ref x44), .val (.int mk), .unset, .unset] [(.int ((((mk &&& (1 : Int32)) + ((mk >>> ((1 : Int32) &&& 31)) &&& (1 : Int32))) + ((mk >>> ((2 : Int32) &&& 31)) &&& (1 : Int32))) + ((mk >>> ((3 : Int32) &&& 31)) &&& (1 : Int32))))])) _
    rw [show ((((mk &&& (1 : Int32)) + ((mk >>> ((1 : Int32) &&& 31)) &&& (1 : Int32))) + ((mk >>> ((2 : Int32) &&& 31)) &&& (1 : Int32))) + ((mk >>> ((3 : Int32) &&& 31)) &&& (1 : Int32))) = nn from hnn.symm]
    show Steps p.tables e below (T44.setTop (mkF m 180 #[.val (.int p1), .val (.int p2), .val (.ref b1), .val (.int (Int32.ofNat q0.1)), .val (.int (Int32.ofNat q1.1)), .val (.int (Int32.ofNat q2.1)), .val (.int (Int32.ofNat q3.1)), .val (.ref x40), .val (.ref x44), .val (.int mk), .unset, .unset] [(.int nn)])) _
    refine XS.istore X44.here hx rfl (hb hby at_180) rfl (l' := #[.val (.int p1), .val (.int p2), .val (.ref b1), .val (.int (Int32.ofNat q0.1)), .val (.int (Int32.ofNat q1.1)), .val (.int (Int32.ofNat q2.1)), .val (.int (Int32.ofNat q3.1)), .val (.ref x40), .val (.ref x44), .val (.int mk), .val (.int nn), .unset]) rfl ?_
    refine XS.aload X44.here hx rfl (hb hby at_182) rfl rfl ?_
    show Steps p.tables e below (T44.setTop (mkF m 184 #[.val (.int p1), .val (.int p2), .val (.ref b1), .val (.int (Int32.ofNat q0.1)), .val (.int (Int32.ofNat q1.1)), .val (.int (Int32.ofNat q2.1)), .val (.int (Int32.ofNat q3.1)), .val (.ref x40), .val (.ref x44), .val (.int mk), .val (.int nn), .unset] [(.ref x44)])) _
    refine st45.trans ?_
    show Steps p.tables e below (T45.setTop (mkF m 187 #[.val (.int p1), .val (.int p2), .val (.ref b1), .val (.int (Int32.ofNat q0.1)), .val (.int (Int32.ofNat q1.1)), .val (.int (Int32.ofNat q2.1)), .val (.int (Int32.ofNat q3.1)), .val (.ref x40), .val (.ref x44), .val (.int mk), .val (.int nn), .unset] [(.int (Int32.ofNat (RF (Int32.ofNat q0.1) (Int32.ofNat q1.1) (Int32.ofNat q2.1) (Int32.ofNat q3.1)).2.2))])) _
    refine XS.iload X45.here hx rfl (hb hby at_187) rfl ?_
    exact k
  have pf47 : ∀ target, Steps p.tables e below (T45.setTop (mkF m 200 #[.val (.int p1), .val (.int p2), .val (.ref b1), .val (.int (Int32.ofNat q0.1)), .val (.int (Int32.ofNat q1.1)), .val (.int (Int32.ofNat q2.1)), .val (.int (Int32.ofNat q3.1)), .val (.ref x40), .val (.ref x44), .val (.int mk), .val (.int nn), .val (.int 1)] [(.int nn), (.int 0)])) target → Steps p.tables e below (T45.setTop (mkF m 189 #[.val (.int p1), .val (.int p2), .val (.ref b1), .val (.int (Int32.ofNat q0.1)), .val (.int (Int32.ofNat q1.1)), .val (.int (Int32.ofNat q2.1)), .val (.int (Int32.ofNat q3.1)), .val (.ref x40), .val (.ref x44), .val (.int mk), .val (.int nn), .unset] [(.int nn), (.int (Int32.ofNat (RF (Int32.ofNat q0.1) (Int32.ofNat q1.1) (Int32.ofNat q2.1) (Int32.ofNat q3.1)).2.2))])) target := by
    intro target k
    show Steps p.tables e below (T45.setTop (mkF m 189 #[.val (.int p1), .val (.int p2), .val (.ref b1), .val (.int (Int32.ofNat q0.1)), .val (.int (Int32.ofNat q1.1)), .val (.int (Int32.ofNat q2.1)), .val (.int (Int32.ofNat q3.1)), .val (.ref x40), .val (.ref x44), .val (.int mk), .val (.int nn), .unset] [(.int nn), (.int (Int32.ofNat (RF (Int32.ofNat q0.1) (Int32.ofNat q1.1) (Int32.ofNat q2.1) (Int32.ofNat q3.1)).2.2))])) _
    refine XS.icmpYes X45.here hx rfl (pc0 := 189) (pc' := 194) rfl (hb hby at_189) rfl (teq okr1).1 (by decide) (by decide) ?_
    refine XS.iconst X45.here hx rfl (hb hby at_194) ?_
    refine XS.istore X45.here hx rfl (hb hby at_195) rfl (l' := #[.val (.int p1), .val (.int p2), .val (.ref b1), .val (.int (Int32.ofNat q0.1)), .val (.int (Int32.ofNat q1.1)), .val (.int (Int32.ofNat q2.1)), .val (.int (Int32.ofNat q3.1)), .val (.ref x40), .val (.ref x44), .val (.int mk), .val (.int nn), .val (.int 1)]) rfl ?_
    refine XS.iconst X45.here hx rfl (hb hby at_197) ?_
    refine XS.iload X45.here hx rfl (hb hby at_198) rfl ?_
    exact k
  obtain ⟨m1, m2, m3, m4⟩ := okr3 0 (by decide) okr2
  have m5 : nthF mk (0 : Int32) = Int32.ofNat (nthF mk (0 : Int32)).toNatClampNeg := m3
  obtain ⟨cq48, kq48, qa48, qb48, qc48⟩ := isOf hZ e45 Ex44
  obtain ⟨_, _, ⟨T48, L48, k48, n48⟩, -, X48, ⟨Lc48, hQ48, l48, y48, z48⟩, st48⟩ := X45.virtualBack hx (y := (⟨"com/example/rivet_context/rivetcontext/factory/TypeListing", "get", "(I)Ljava/lang/String;"⟩ : MethodName)) (z := (⟨"com/example/rivet_context/rivetcontext/factory/TypeListing", "get", "(I)Ljava/lang/String;"⟩ : MethodName)) hown (mvT hZ (hw _ (List.mem_of_getElem? (i := 95) rfl))) (mvT hZ (hw _ (List.mem_of_getElem? (i := 96) rfl))) (notFace_of_selects (args := #[]) (mvT hZ (hw _ (List.mem_of_getElem? (i := 98) rfl)))) (mvT hZ (hw _ (List.mem_of_getElem? (i := 98) rfl))) (mvT hZ (hw _ (List.mem_of_getElem? (i := 97) rfl))) (by decide) (backOf (W := 0) (rmget l Z a0 hw [] x44 b1 k1 [t4, t11, t18, t25] (RF (Int32.ofNat q0.1) (Int32.ofNat q1.1) (Int32.ofNat q2.1) (Int32.ofNat q3.1)).1 (RF (Int32.ofNat q0.1) (Int32.ofNat q1.1) (Int32.ofNat q2.1) (Int32.ofNat q3.1)).2.1 (RF (Int32.ofNat q0.1) (Int32.ofNat q1.1) (Int32.ofNat q2.1) (Int32.ofNat q3.1)).2.2 0 (nthF mk (0 : Int32)).toNatClampNeg h44 n0 Oq44 Lq44 Vr44 br2 br4 (by omega) m1 rfl m2 m4) hZ (hw _ (List.mem_of_getElem? (i := 99) rfl)) (hw _ (List.mem_of_getElem? (i := 30) rfl)) (by decide) (by decide)) qa48 qc48 (g := (mkF m 211 #[.val (.int p1), .val (.int p2), .val (.ref b1), .val (.int (Int32.ofNat q0.1)), .val (.int (Int32.ofNat q1.1)), .val (.int (Int32.ofNat q2.1)), .val (.int (Int32.ofNat q3.1)), .val (.ref x40), .val (.ref x44), .val (.int mk), .val (.int nn), .val (.int 1)] [(.int 0), (.ref x44)])) rfl (by rw [hml]; rfl) (Steps.refl _) (argsL := [(.int 0)]) (rest := []) (lenOf pd20 rfl) rfl (by show 2 * 0 + _ ≤ _; exact Nat.le_of_eq rfl) (hb hby at_211) (fun _ _ => ⟨rfl, e45, (by decide : 25 + 0 ≤ _), (by decide : 97 + 0 ≤ _)⟩)
  dsimp only [Pt.U, Pt.locs, Pt.cells, Pt.slots] at X48 l48 y48 z48 st48 hQ48
  subst l48 y48 z48
  obtain ⟨rfl, Nq48, e48⟩ := hQ48
  have N48 := Fr.app N45 Nq48
  obtain ⟨_, _, ⟨T49, L49, k49, n49⟩, -, X49, ⟨Lc49, hQ49, l49, y49, z49⟩, st49⟩ := Jvm.LawKit.callS X48 hx (y := (⟨"com/example/rivet_context/rivetcontext/factory/TypeListingGetPinLaw", "nth", "(II)I"⟩ : MethodName)) hown (mvT hZ (hw _ (List.mem_of_getElem? (i := 144) rfl))) (mvT hZ (hw _ (List.mem_of_getElem? (i := 145) rfl))) (mvT hZ (hw _ (List.mem_of_getElem? (i := 146) rfl))) (mvT hZ (hw _ (List.mem_of_getElem? (i := 147) rfl))) (by decide) (backOf (W := 2) (rmnth l Z a0 hw [] mk (0 : Int32) h44 n0 Oq44) hZ (hw _ (List.mem_of_getElem? (i := 147) rfl)) (hw _ (List.mem_of_getElem? (i := 146) rfl)) (by decide) (by decide)) (g := (mkF m 218 #[.val (.int p1), .val (.int p2), .val (.ref b1), .val (.int (Int32.ofNat q0.1)), .val (.int (Int32.ofNat q1.1)), .val (.int (Int32.ofNat q2.1)), .val (.int (Int32.ofNat q3.1)), .val (.ref x40), .val (.ref x44), .val (.int mk), .val (.int nn), .val (.int 1)] [(.int 0), (.int mk), (.ref b1), (.ref ([t4, t11, t18, t25].getD (nthF mk (0 : Int32)).toNatClampNeg 0))])) rfl (by rw [hml]; rfl) (argsL := [(.int mk), (.int 0)]) (rest := [(.ref b1), (.ref ([t4, t11, t18, t25].getD (nthF mk (0 : Int32)).toNatClampNeg 0))]) (lenOf pd7 rfl) rfl (by show 2 * 0 + _ ≤ _; exact Nat.le_of_eq rfl) (hb hby at_218) (fun _ _ => ⟨rfl, e48, (by decide : 25 + 0 ≤ _), (by decide : 97 + 0 ≤ _)⟩)
  dsimp only [Pt.U, Pt.locs, Pt.cells, Pt.slots] at X49 l49 y49 z49 st49 hQ49
  subst l49 y49 z49
  obtain ⟨rfl, Nq49, e49⟩ := hQ49
  have N49 := Fr.app N48 Nq49
  obtain ⟨cl50, Ar50, hin50, hat50⟩ := own_atR (j := (nthF mk (0 : Int32))) (q := (nthF mk (0 : Int32)).toNatClampNeg) (ss := [t4, t11, t18, t25]) Vr44 rfl m5 m4
  have pf51 : ∀ target, Steps p.tables e below (T49.setTop (mkF m 222 #[.val (.int p1), .val (.int p2), .val (.ref b1), .val (.int (Int32.ofNat q0.1)), .val (.int (Int32.ofNat q1.1)), .val (.int (Int32.ofNat q2.1)), .val (.int (Int32.ofNat q3.1)), .val (.ref x40), .val (.ref x44), .val (.int mk), .val (.int nn), .val (.int 1)] [(.ref ([t4, t11, t18, t25].getD (nthF mk (0 : Int32)).toNatClampNeg 0)), (.ref ([t4, t11, t18, t25].getD (nthF mk (0 : Int32)).toNatClampNeg 0))])) target → Steps p.tables e below (T45.setTop (mkF m 200 #[.val (.int p1), .val (.int p2), .val (.ref b1), .val (.int (Int32.ofNat q0.1)), .val (.int (Int32.ofNat q1.1)), .val (.int (Int32.ofNat q2.1)), .val (.int (Int32.ofNat q3.1)), .val (.ref x40), .val (.ref x44), .val (.int mk), .val (.int nn), .val (.int 1)] [(.int nn), (.int 0)])) target := by
    intro target k
    show Steps p.tables e below (T45.setTop (mkF m 200 #[.val (.int p1), .val (.int p2), .val (.ref b1), .val (.int (Int32.ofNat q0.1)), .val (.int (Int32.ofNat q1.1)), .val (.int (Int32.ofNat q2.1)), .val (.int (Int32.ofNat q3.1)), .val (.ref x40), .val (.ref x44), .val (.int mk), .val (.int nn), .val (.int 1)] [(.int nn), (.int 0)])) _
    refine XS.icmpNo X45.here hx rfl (hb hby at_200) rfl (tlt okr2).2.1 ?_
    refine XS.iload X45.here hx rfl (hb hby at_203) rfl ?_
    refine XS.ifNo X45.here hx rfl (hb hby at_205) rfl ((if0 _ _).trans (feq (by decide)).1) ?_
    refine XS.aload X45.here hx rfl (hb hby at_208) rfl rfl ?_
    refine XS.iconst X45.here hx rfl (hb hby at_210) ?_
    show Steps p.tables e below (T45.setTop (mkF m 211 #[.val (.int p1), .val (.int p2), .val (.ref b1), .val (.int (Int32.ofNat q0.1)), .val (.int (Int32.ofNat q1.1)), .val (.int (Int32.ofNat q2.1)), .val (.int (Int32.ofNat q3.1)), .val (.ref x40), .val (.ref x44), .val (.int mk), .val (.int nn), .val (.int 1)] [(.int 0), (.ref x44)])) _
    refine st48.trans ?_
    show Steps p.tables e below (T48.setTop (mkF m 214 #[.val (.int p1), .val (.int p2), .val (.ref b1), .val (.int (Int32.ofNat q0.1)), .val (.int (Int32.ofNat q1.1)), .val (.int (Int32.ofNat q2.1)), .val (.int (Int32.ofNat q3.1)), .val (.ref x40), .val (.ref x44), .val (.int mk), .val (.int nn), .val (.int 1)] [(.ref ([t4, t11, t18, t25].getD (nthF mk (0 : Int32)).toNatClampNeg 0))])) _
    refine XS.aloadN X48.here hx rfl (hb hby at_214) rfl rfl ?_
    refine XS.iload X48.here hx rfl (hb hby at_215) rfl ?_
    refine XS.iconst X48.here hx rfl (hb hby at_217) ?_
    show Steps p.tables e below (T48.setTop (mkF m 218 #[.val (.int p1), .val (.int p2), .val (.ref b1), .val (.int (Int32.ofNat q0.1)), .val (.int (Int32.ofNat q1.1)), .val (.int (Int32.ofNat q2.1)), .val (.int (Int32.ofNat q3.1)), .val (.ref x40), .val (.ref x44), .val (.int mk), .val (.int nn), .val (.int 1)] [(.int 0), (.int mk), (.ref b1), (.ref ([t4, t11, t18, t25].getD (nthF mk (0 : Int32)).toNatClampNeg 0))])) _
    refine st49 _ ?_
    show Steps p.tables e below (T49.setTop (mkF m 221 #[.val (.int p1), .val (.int p2), .val (.ref b1), .val (.int (Int32.ofNat q0.1)), .val (.int (Int32.ofNat q1.1)), .val (.int (Int32.ofNat q2.1)), .val (.int (Int32.ofNat q3.1)), .val (.ref x40), .val (.ref x44), .val (.int mk), .val (.int nn), .val (.int 1)] [(.int (nthF mk (0 : Int32))), (.ref b1), (.ref ([t4, t11, t18, t25].getD (nthF mk (0 : Int32)).toNatClampNeg 0))])) _
    refine X49.aaload hx (j := (nthF mk (0 : Int32))) (v := (.ref ([t4, t11, t18, t25].getD (nthF mk (0 : Int32)).toNatClampNeg 0))) (by rw [e49]; exact Ar50.1) (State.isArrayOf_alike hZ.alike Ar50.2.1) rfl Ar50.2.2 hin50 hat50 (g := (mkF m 221 #[.val (.int p1), .val (.int p2), .val (.ref b1), .val (.int (Int32.ofNat q0.1)), .val (.int (Int32.ofNat q1.1)), .val (.int (Int32.ofNat q2.1)), .val (.int (Int32.ofNat q3.1)), .val (.ref x40), .val (.ref x44), .val (.int mk), .val (.int nn), .val (.int 1)] [(.int (nthF mk (0 : Int32))), (.ref b1), (.ref ([t4, t11, t18, t25].getD (nthF mk (0 : Int32)).toNatClampNeg 0))])) rfl rfl (hb hby at_221) _ ?_
    exact k
  have pf52 : ∀ target, Steps p.tables e below (T49.setTop (mkF m 235 #[.val (.int p1), .val (.int p2), .val (.ref b1), .val (.int (Int32.ofNat q0.1)), .val (.int (Int32.ofNat q1.1)), .val (.int (Int32.ofNat q2.1)), .val (.int (Int32.ofNat q3.1)), .val (.ref x40), .val (.ref x44), .val (.int mk), .val (.int nn), .val (.int 1)] [(.int nn), (.int 1)])) target → Steps p.tables e below (T49.setTop (mkF m 222 #[.val (.int p1), .val (.int p2), .val (.ref b1), .val (.int (Int32.ofNat q0.1)), .val (.int (Int32.ofNat q1.1)), .val (.int (Int32.ofNat q2.1)), .val (.int (Int32.ofNat q3.1)), .val (.ref x40), .val (.ref x44), .val (.int mk), .val (.int nn), .val (.int 1)] [(.ref ([t4, t11, t18, t25].getD (nthF mk (0 : Int32)).toNatClampNeg 0)), (.ref ([t4, t11, t18, t25].getD (nthF mk (0 : Int32)).toNatClampNeg 0))])) target := by
    intro target k
    show Steps p.tables e below (T49.setTop (mkF m 222 #[.val (.int p1), .val (.int p2), .val (.ref b1), .val (.int (Int32.ofNat q0.1)), .val (.int (Int32.ofNat q1.1)), .val (.int (Int32.ofNat q2.1)), .val (.int (Int32.ofNat q3.1)), .val (.ref x40), .val (.ref x44), .val (.int mk), .val (.int nn), .val (.int 1)] [(.ref ([t4, t11, t18, t25].getD (nthF mk (0 : Int32)).toNatClampNeg 0)), (.ref ([t4, t11, t18, t25].getD (nthF mk (0 : Int32)).toNatClampNeg 0))])) _
    refine Jvm.RoadKit.acmp (g := (mkF m 222 #[.val (.int p1), .val (.int p2), .val (.ref b1), .val (.int (Int32.ofNat q0.1)), .val (.int (Int32.ofNat q1.1)), .val (.int (Int32.ofNat q2.1)), .val (.int (Int32.ofNat q3.1)), .val (.ref x40), .val (.ref x44), .val (.int mk), .val (.int nn), .val (.int 1)] [(.ref ([t4, t11, t18, t25].getD (nthF mk (0 : Int32)).toNatClampNeg 0)), (.ref ([t4, t11, t18, t25].getD (nthF mk (0 : Int32)).toNatClampNeg 0))])) X49 hx rfl rfl rfl (pc0 := 222) (pc' := 225) (same := true) rfl (hb hby at_222) rfl (decide_eq_true rfl) (by decide) (by decide) ?_
    show Steps p.tables e below (T49.setTop (mkF m 225 #[.val (.int p1), .val (.int p2), .val (.ref b1), .val (.int (Int32.ofNat q0.1)), .val (.int (Int32.ofNat q1.1)), .val (.int (Int32.ofNat q2.1)), .val (.int (Int32.ofNat q3.1)), .val (.ref x40), .val (.ref x44), .val (.int mk), .val (.int nn), .val (.int 1)] [])) _
    refine XS.iconst X49.here hx rfl (hb hby at_225) ?_
    refine XS.goto X49.here hx rfl (pc0 := 226) (pc' := 230) rfl (hb hby at_226) (by decide) (by decide) ?_
    refine XS.istore X49.here hx rfl (hb hby at_230) rfl (l' := #[.val (.int p1), .val (.int p2), .val (.ref b1), .val (.int (Int32.ofNat q0.1)), .val (.int (Int32.ofNat q1.1)), .val (.int (Int32.ofNat q2.1)), .val (.int (Int32.ofNat q3.1)), .val (.ref x40), .val (.ref x44), .val (.int mk), .val (.int nn), .val (.int 1)]) rfl ?_
    refine XS.iconst X49.here hx rfl (hb hby at_232) ?_
    refine XS.iload X49.here hx rfl (hb hby at_233) rfl ?_
    exact k
  by_cases hc235 : (1 : Int32) < nn
  · obtain ⟨m1, m2, m3, m4⟩ := okr3 1 (by decide) hc235
    have m5 : nthF mk (1 : Int32) = Int32.ofNat (nthF mk (1 : Int32)).toNatClampNeg := m3
    obtain ⟨cq53, kq53, qa53, qb53, qc53⟩ := isOf hZ e49 Ex44
    obtain ⟨_, _, ⟨T53, L53, k53, n53⟩, -, X53, ⟨Lc53, hQ53, l53, y53, z53⟩, st53⟩ := X49.virtualBack hx (y := (⟨"com/example/rivet_context/rivetcontext/factory/TypeListing", "get", "(I)Ljava/lang/String;"⟩ : MethodName)) (z := (⟨"com/example/rivet_context/rivetcontext/factory/TypeListing", "get", "(I)Ljava/lang/String;"⟩ : MethodName)) hown (mvT hZ (hw _ (List.mem_of_getElem? (i := 95) rfl))) (mvT hZ (hw _ (List.mem_of_getElem? (i := 96) rfl))) (notFace_of_selects (args := #[]) (mvT hZ (hw _ (List.mem_of_getElem? (i := 98) rfl)))) (mvT hZ (hw _ (List.mem_of_getElem? (i := 98) rfl))) (mvT hZ (hw _ (List.mem_of_getElem? (i := 97) rfl))) (by decide) (backOf (W := 0) (rmget l Z a0 hw [] x44 b1 k1 [t4, t11, t18, t25] (RF (Int32.ofNat q0.1) (Int32.ofNat q1.1) (Int32.ofNat q2.1) (Int32.ofNat q3.1)).1 (RF (Int32.ofNat q0.1) (Int32.ofNat q1.1) (Int32.ofNat q2.1) (Int32.ofNat q3.1)).2.1 (RF (Int32.ofNat q0.1) (Int32.ofNat q1.1) (Int32.ofNat q2.1) (Int32.ofNat q3.1)).2.2 1 (nthF mk (1 : Int32)).toNatClampNeg h44 n0 Oq44 Lq44 Vr44 br2 br4 (by omega) m1 rfl m2 m4) hZ (hw _ (List.mem_of_getElem? (i := 99) rfl)) (hw _ (List.mem_of_getElem? (i := 30) rfl)) (by decide) (by decide)) qa53 qc53 (g := (mkF m 246 #[.val (.int p1), .val (.int p2), .val (.ref b1), .val (.int (Int32.ofNat q0.1)), .val (.int (Int32.ofNat q1.1)), .val (.int (Int32.ofNat q2.1)), .val (.int (Int32.ofNat q3.1)), .val (.ref x40), .val (.ref x44), .val (.int mk), .val (.int nn), .val (.int 1)] [(.int 1), (.ref x44)])) rfl (by rw [hml]; rfl) (Steps.refl _) (argsL := [(.int 1)]) (rest := []) (lenOf pd20 rfl) rfl (by show 2 * 0 + _ ≤ _; exact Nat.le_of_eq rfl) (hb hby at_246) (fun _ _ => ⟨rfl, e49, (by decide : 25 + 0 ≤ _), (by decide : 97 + 0 ≤ _)⟩)
    dsimp only [Pt.U, Pt.locs, Pt.cells, Pt.slots] at X53 l53 y53 z53 st53 hQ53
    subst l53 y53 z53
    obtain ⟨rfl, Nq53, e53⟩ := hQ53
    have N53 := Fr.app N49 Nq53
    obtain ⟨_, _, ⟨T54, L54, k54, n54⟩, -, X54, ⟨Lc54, hQ54, l54, y54, z54⟩, st54⟩ := Jvm.LawKit.callS X53 hx (y := (⟨"com/example/rivet_context/rivetcontext/factory/TypeListingGetPinLaw", "nth", "(II)I"⟩ : MethodName)) hown (mvT hZ (hw _ (List.mem_of_getElem? (i := 144) rfl))) (mvT hZ (hw _ (List.mem_of_getElem? (i := 145) rfl))) (mvT hZ (hw _ (List.mem_of_getElem? (i := 146) rfl))) (mvT hZ (hw _ (List.mem_of_getElem? (i := 147) rfl))) (by decide) (backOf (W := 2) (rmnth l Z a0 hw [] mk (1 : Int32) h44 n0 Oq44) hZ (hw _ (List.mem_of_getElem? (i := 147) rfl)) (hw _ (List.mem_of_getElem? (i := 146) rfl)) (by decide) (by decide)) (g := (mkF m 253 #[.val (.int p1), .val (.int p2), .val (.ref b1), .val (.int (Int32.ofNat q0.1)), .val (.int (Int32.ofNat q1.1)), .val (.int (Int32.ofNat q2.1)), .val (.int (Int32.ofNat q3.1)), .val (.ref x40), .val (.ref x44), .val (.int mk), .val (.int nn), .val (.int 1)] [(.int 1), (.int mk), (.ref b1), (.ref ([t4, t11, t18, t25].getD (nthF mk (1 : Int32)).toNatClampNeg 0))])) rfl (by rw [hml]; rfl) (argsL := [(.int mk), (.int 1)]) (rest := [(.ref b1), (.ref ([t4, t11, t18, t25].getD (nthF mk (1 : Int32)).toNatClampNeg 0))]) (lenOf pd7 rfl) rfl (by show 2 * 0 + _ ≤ _; exact Nat.le_of_eq rfl) (hb hby at_253) (fun _ _ => ⟨rfl, e53, (by decide : 25 + 0 ≤ _), (by decide : 97 + 0 ≤ _)⟩)
    dsimp only [Pt.U, Pt.locs, Pt.cells, Pt.slots] at X54 l54 y54 z54 st54 hQ54
    subst l54 y54 z54
    obtain ⟨rfl, Nq54, e54⟩ := hQ54
    have N54 := Fr.app N53 Nq54
    obtain ⟨cl55, Ar55, hin55, hat55⟩ := own_atR (j := (nthF mk (1 : Int32))) (q := (nthF mk (1 : Int32)).toNatClampNeg) (ss := [t4, t11, t18, t25]) Vr44 rfl m5 m4
    have pf56 : ∀ target, Steps p.tables e below (T54.setTop (mkF m 257 #[.val (.int p1), .val (.int p2), .val (.ref b1), .val (.int (Int32.ofNat q0.1)), .val (.int (Int32.ofNat q1.1)), .val (.int (Int32.ofNat q2.1)), .val (.int (Int32.ofNat q3.1)), .val (.ref x40), .val (.ref x44), .val (.int mk), .val (.int nn), .val (.int 1)] [(.ref ([t4, t11, t18, t25].getD (nthF mk (1 : Int32)).toNatClampNeg 0)), (.ref ([t4, t11, t18, t25].getD (nthF mk (1 : Int32)).toNatClampNeg 0))])) target → Steps p.tables e below (T49.setTop (mkF m 235 #[.val (.int p1), .val (.int p2), .val (.ref b1), .val (.int (Int32.ofNat q0.1)), .val (.int (Int32.ofNat q1.1)), .val (.int (Int32.ofNat q2.1)), .val (.int (Int32.ofNat q3.1)), .val (.ref x40), .val (.ref x44), .val (.int mk), .val (.int nn), .val (.int 1)] [(.int nn), (.int 1)])) target := by
      intro target k
      show Steps p.tables e below (T49.setTop (mkF m 235 #[.val (.int p1), .val (.int p2), .val (.ref b1), .val (.int (Int32.ofNat q0.1)), .val (.int (Int32.ofNat q1.1)), .val (.int (Int32.ofNat q2.1)), .val (.int (Int32.ofNat q3.1)), .val (.ref x40), .val (.ref x44), .val (.int mk), .val (.int nn), .val (.int 1)] [(.int nn), (.int 1)])) _
      refine XS.icmpNo X49.here hx rfl (hb hby at_235) rfl (tlt hc235).2.1 ?_
      refine XS.iload X49.here hx rfl (hb hby at_238) rfl ?_
      refine XS.ifNo X49.here hx rfl (hb hby at_240) rfl ((if0 _ _).trans (feq (by decide)).1) ?_
      refine XS.aload X49.here hx rfl (hb hby at_243) rfl rfl ?_
      refine XS.iconst X49.here hx rfl (hb hby at_245) ?_
      show Steps p.tables e below (T49.setTop (mkF m 246 #[.val (.int p1), .val (.int p2), .val (.ref b1), .val (.int (Int32.ofNat q0.1)), .val (.int (Int32.ofNat q1.1)), .val (.int (Int32.ofNat q2.1)), .val (.int (Int32.ofNat q3.1)), .val (.ref x40), .val (.ref x44), .val (.int mk), .val (.int nn), .val (.int 1)] [(.int 1), (.ref x44)])) _
      refine st53.trans ?_
      show Steps p.tables e below (T53.setTop (mkF m 249 #[.val (.int p1), .val (.int p2), .val (.ref b1), .val (.int (Int32.ofNat q0.1)), .val (.int (Int32.ofNat q1.1)), .val (.int (Int32.ofNat q2.1)), .val (.int (Int32.ofNat q3.1)), .val (.ref x40), .val (.ref x44), .val (.int mk), .val (.int nn), .val (.int 1)] [(.ref ([t4, t11, t18, t25].getD (nthF mk (1 : Int32)).toNatClampNeg 0))])) _
      refine XS.aloadN X53.here hx rfl (hb hby at_249) rfl rfl ?_
      refine XS.iload X53.here hx rfl (hb hby at_250) rfl ?_
      refine XS.iconst X53.here hx rfl (hb hby at_252) ?_
      show Steps p.tables e below (T53.setTop (mkF m 253 #[.val (.int p1), .val (.int p2), .val (.ref b1), .val (.int (Int32.ofNat q0.1)), .val (.int (Int32.ofNat q1.1)), .val (.int (Int32.ofNat q2.1)), .val (.int (Int32.ofNat q3.1)), .val (.ref x40), .val (.ref x44), .val (.int mk), .val (.int nn), .val (.int 1)] [(.int 1), (.int mk), (.ref b1), (.ref ([t4, t11, t18, t25].getD (nthF mk (1 : Int32)).toNatClampNeg 0))])) _
      refine st54 _ ?_
      show Steps p.tables e below (T54.setTop (mkF m 256 #[.val (.int p1), .val (.int p2), .val (.ref b1), .val (.int (Int32.ofNat q0.1)), .val (.int (Int32.ofNat q1.1)), .val (.int (Int32.ofNat q2.1)), .val (.int (Int32.ofNat q3.1)), .val (.ref x40), .val (.ref x44), .val (.int mk), .val (.int nn), .val (.int 1)] [(.int (nthF mk (1 : Int32))), (.ref b1), (.ref ([t4, t11, t18, t25].getD (nthF mk (1 : Int32)).toNatClampNeg 0))])) _
      refine X54.aaload hx (j := (nthF mk (1 : Int32))) (v := (.ref ([t4, t11, t18, t25].getD (nthF mk (1 : Int32)).toNatClampNeg 0))) (by rw [e54]; exact Ar55.1) (State.isArrayOf_alike hZ.alike Ar55.2.1) rfl Ar55.2.2 hin55 hat55 (g := (mkF m 256 #[.val (.int p1), .val (.int p2), .val (.ref b1), .val (.int (Int32.ofNat q0.1)), .val (.int (Int32.ofNat q1.1)), .val (.int (Int32.ofNat q2.1)), .val (.int (Int32.ofNat q3.1)), .val (.ref x40), .val (.ref x44), .val (.int mk), .val (.int nn), .val (.int 1)] [(.int (nthF mk (1 : Int32))), (.ref b1), (.ref ([t4, t11, t18, t25].getD (nthF mk (1 : Int32)).toNatClampNeg 0))])) rfl rfl (hb hby at_256) _ ?_
      exact k
    have pf57 : ∀ target, Steps p.tables e below (T54.setTop (mkF m 270 #[.val (.int p1), .val (.int p2), .val (.ref b1), .val (.int (Int32.ofNat q0.1)), .val (.int (Int32.ofNat q1.1)), .val (.int (Int32.ofNat q2.1)), .val (.int (Int32.ofNat q3.1)), .val (.ref x40), .val (.ref x44), .val (.int mk), .val (.int nn), .val (.int 1)] [(.int nn), (.int 2)])) target → Steps p.tables e below (T54.setTop (mkF m 257 #[.val (.int p1), .val (.int p2), .val (.ref b1), .val (.int (Int32.ofNat q0.1)), .val (.int (Int32.ofNat q1.1)), .val (.int (Int32.ofNat q2.1)), .val (.int (Int32.ofNat q3.1)), .val (.ref x40), .val (.ref x44), .val (.int mk), .val (.int nn), .val (.int 1)] [(.ref ([t4, t11, t18, t25].getD (nthF mk (1 : Int32)).toNatClampNeg 0)), (.ref ([t4, t11, t18, t25].getD (nthF mk (1 : Int32)).toNatClampNeg 0))])) target := by
      intro target k
      show Steps p.tables e below (T54.setTop (mkF m 257 #[.val (.int p1), .val (.int p2), .val (.ref b1), .val (.int (Int32.ofNat q0.1)), .val (.int (Int32.ofNat q1.1)), .val (.int (Int32.ofNat q2.1)), .val (.int (Int32.ofNat q3.1)), .val (.ref x40), .val (.ref x44), .val (.int mk), .val (.int nn), .val (.int 1)] [(.ref ([t4, t11, t18, t25].getD (nthF mk (1 : Int32)).toNatClampNeg 0)), (.ref ([t4, t11, t18, t25].getD (nthF mk (1 : Int32)).toNatClampNeg 0))])) _
      refine Jvm.RoadKit.acmp (g := (mkF m 257 #[.val (.int p1), .val (.int p2), .val (.ref b1), .val (.int (Int32.ofNat q0.1)), .val (.int (Int32.ofNat q1.1)), .val (.int (Int32.ofNat q2.1)), .val (.int (Int32.ofNat q3.1)), .val (.ref x40), .val (.ref x44), .val (.int mk), .val (.int nn), .val (.int 1)] [(.ref ([t4, t11, t18, t25].getD (nthF mk (1 : Int32)).toNatClampNeg 0)), (.ref ([t4, t11, t18, t25].getD (nthF mk (1 : Int32)).toNatClampNeg 0))])) X54 hx rfl rfl rfl (pc0 := 257) (pc' := 260) (same := true) rfl (hb hby at_257) rfl (decide_eq_true rfl) (by decide) (by decide) ?_
      show Steps p.tables e below (T54.setTop (mkF m 260 #[.val (.int p1), .val (.int p2), .val (.ref b1), .val (.int (Int32.ofNat q0.1)), .val (.int (Int32.ofNat q1.1)), .val (.int (Int32.ofNat q2.1)), .val (.int (Int32.ofNat q3.1)), .val (.ref x40), .val (.ref x44), .val (.int mk), .val (.int nn), .val (.int 1)] [])) _
      refine XS.iconst X54.here hx rfl (hb hby at_260) ?_
      refine XS.goto X54.here hx rfl (pc0 := 261) (pc' := 265) rfl (hb hby at_261) (by decide) (by decide) ?_
      refine XS.istore X54.here hx rfl (hb hby at_265) rfl (l' := #[.val (.int p1), .val (.int p2), .val (.ref b1), .val (.int (Int32.ofNat q0.1)), .val (.int (Int32.ofNat q1.1)), .val (.int (Int32.ofNat q2.1)), .val (.int (Int32.ofNat q3.1)), .val (.ref x40), .val (.ref x44), .val (.int mk), .val (.int nn), .val (.int 1)]) rfl ?_
      refine XS.iconst X54.here hx rfl (hb hby at_267) ?_
      refine XS.iload X54.here hx rfl (hb hby at_268) rfl ?_
      exact k
    by_cases hc270 : (2 : Int32) < nn
    · obtain ⟨m1, m2, m3, m4⟩ := okr3 2 (by decide) hc270
      have m5 : nthF mk (2 : Int32) = Int32.ofNat (nthF mk (2 : Int32)).toNatClampNeg := m3
      obtain ⟨cq58, kq58, qa58, qb58, qc58⟩ := isOf hZ e54 Ex44
      obtain ⟨_, _, ⟨T58, L58, k58, n58⟩, -, X58, ⟨Lc58, hQ58, l58, y58, z58⟩, st58⟩ := X54.virtualBack hx (y := (⟨"com/example/rivet_context/rivetcontext/factory/TypeListing", "get", "(I)Ljava/lang/String;"⟩ : MethodName)) (z := (⟨"com/example/rivet_context/rivetcontext/factory/TypeListing", "get", "(I)Ljava/lang/String;"⟩ : MethodName)) hown (mvT hZ (hw _ (List.mem_of_getElem? (i := 95) rfl))) (mvT hZ (hw _ (List.mem_of_getElem? (i := 96) rfl))) (notFace_of_selects (args := #[]) (mvT hZ (hw _ (List.mem_of_getElem? (i := 98) rfl)))) (mvT hZ (hw _ (List.mem_of_getElem? (i := 98) rfl))) (mvT hZ (hw _ (List.mem_of_getElem? (i := 97) rfl))) (by decide) (backOf (W := 0) (rmget l Z a0 hw [] x44 b1 k1 [t4, t11, t18, t25] (RF (Int32.ofNat q0.1) (Int32.ofNat q1.1) (Int32.ofNat q2.1) (Int32.ofNat q3.1)).1 (RF (Int32.ofNat q0.1) (Int32.ofNat q1.1) (Int32.ofNat q2.1) (Int32.ofNat q3.1)).2.1 (RF (Int32.ofNat q0.1) (Int32.ofNat q1.1) (Int32.ofNat q2.1) (Int32.ofNat q3.1)).2.2 2 (nthF mk (2 : Int32)).toNatClampNeg h44 n0 Oq44 Lq44 Vr44 br2 br4 (by omega) m1 rfl m2 m4) hZ (hw _ (List.mem_of_getElem? (i := 99) rfl)) (hw _ (List.mem_of_getElem? (i := 30) rfl)) (by decide) (by decide)) qa58 qc58 (g := (mkF m 281 #[.val (.int p1), .val (.int p2), .val (.ref b1), .val (.int (Int32.ofNat q0.1)), .val (.int (Int32.ofNat q1.1)), .val (.int (Int32.ofNat q2.1)), .val (.int (Int32.ofNat q3.1)), .val (.ref x40), .val (.ref x44), .val (.int mk), .val (.int nn), .val (.int 1)] [(.int 2), (.ref x44)])) rfl (by rw [hml]; rfl) (Steps.refl _) (argsL := [(.int 2)]) (rest := []) (lenOf pd20 rfl) rfl (by show 2 * 0 + _ ≤ _; exact Nat.le_of_eq rfl) (hb hby at_281) (fun _ _ => ⟨rfl, e54, (by decide : 25 + 0 ≤ _), (by decide : 97 + 0 ≤ _)⟩)
      dsimp only [Pt.U, Pt.locs, Pt.cells, Pt.slots] at X58 l58 y58 z58 st58 hQ58
      subst l58 y58 z58
      obtain ⟨rfl, Nq58, e58⟩ := hQ58
      have N58 := Fr.app N54 Nq58
      obtain ⟨_, _, ⟨T59, L59, k59, n59⟩, -, X59, ⟨Lc59, hQ59, l59, y59, z59⟩, st59⟩ := Jvm.LawKit.callS X58 hx (y := (⟨"com/example/rivet_context/rivetcontext/factory/TypeListingGetPinLaw", "nth", "(II)I"⟩ : MethodName)) hown (mvT hZ (hw _ (List.mem_of_getElem? (i := 144) rfl))) (mvT hZ (hw _ (List.mem_of_getElem? (i := 145) rfl))) (mvT hZ (hw _ (List.mem_of_getElem? (i := 146) rfl))) (mvT hZ (hw _ (List.mem_of_getElem? (i := 147) rfl))) (by decide) (backOf (W := 2) (rmnth l Z a0 hw [] mk (2 : Int32) h44 n0 Oq44) hZ (hw _ (List.mem_of_getElem? (i := 147) rfl)) (hw _ (List.mem_of_getElem? (i := 146) rfl)) (by decide) (by decide)) (g := (mkF m 288 #[.val (.int p1), .val (.int p2), .val (.ref b1), .val (.int (Int32.ofNat q0.1)), .val (.int (Int32.ofNat q1.1)), .val (.int (Int32.ofNat q2.1)), .val (.int (Int32.ofNat q3.1)), .val (.ref x40), .val (.ref x44), .val (.int mk), .val (.int nn), .val (.int 1)] [(.int 2), (.int mk), (.ref b1), (.ref ([t4, t11, t18, t25].getD (nthF mk (2 : Int32)).toNatClampNeg 0))])) rfl (by rw [hml]; rfl) (argsL := [(.int mk), (.int 2)]) (rest := [(.ref b1), (.ref ([t4, t11, t18, t25].getD (nthF mk (2 : Int32)).toNatClampNeg 0))]) (lenOf pd7 rfl) rfl (by show 2 * 0 + _ ≤ _; exact Nat.le_of_eq rfl) (hb hby at_288) (fun _ _ => ⟨rfl, e58, (by decide : 25 + 0 ≤ _), (by decide : 97 + 0 ≤ _)⟩)
      dsimp only [Pt.U, Pt.locs, Pt.cells, Pt.slots] at X59 l59 y59 z59 st59 hQ59
      subst l59 y59 z59
      obtain ⟨rfl, Nq59, e59⟩ := hQ59
      have N59 := Fr.app N58 Nq59
      obtain ⟨cl60, Ar60, hin60, hat60⟩ := own_atR (j := (nthF mk (2 : Int32))) (q := (nthF mk (2 : Int32)).toNatClampNeg) (ss := [t4, t11, t18, t25]) Vr44 rfl m5 m4
      have pf61 : ∀ target, Steps p.tables e below (T59.setTop (mkF m 292 #[.val (.int p1), .val (.int p2), .val (.ref b1), .val (.int (Int32.ofNat q0.1)), .val (.int (Int32.ofNat q1.1)), .val (.int (Int32.ofNat q2.1)), .val (.int (Int32.ofNat q3.1)), .val (.ref x40), .val (.ref x44), .val (.int mk), .val (.int nn), .val (.int 1)] [(.ref ([t4, t11, t18, t25].getD (nthF mk (2 : Int32)).toNatClampNeg 0)), (.ref ([t4, t11, t18, t25].getD (nthF mk (2 : Int32)).toNatClampNeg 0))])) target → Steps p.tables e below (T54.setTop (mkF m 270 #[.val (.int p1), .val (.int p2), .val (.ref b1), .val (.int (Int32.ofNat q0.1)), .val (.int (Int32.ofNat q1.1)), .val (.int (Int32.ofNat q2.1)), .val (.int (Int32.ofNat q3.1)), .val (.ref x40), .val (.ref x44), .val (.int mk), .val (.int nn), .val (.int 1)] [(.int nn), (.int 2)])) target := by
        intro target k
        show Steps p.tables e below (T54.setTop (mkF m 270 #[.val (.int p1), .val (.int p2), .val (.ref b1), .val (.int (Int32.ofNat q0.1)), .val (.int (Int32.ofNat q1.1)), .val (.int (Int32.ofNat q2.1)), .val (.int (Int32.ofNat q3.1)), .val (.ref x40), .val (.ref x44), .val (.int mk), .val (.int nn), .val (.int 1)] [(.int nn), (.int 2)])) _
        refine XS.icmpNo X54.here hx rfl (hb hby at_270) rfl (tlt hc270).2.1 ?_
        refine XS.iload X54.here hx rfl (hb hby at_273) rfl ?_
        refine XS.ifNo X54.here hx rfl (hb hby at_275) rfl ((if0 _ _).trans (feq (by decide)).1) ?_
        refine XS.aload X54.here hx rfl (hb hby at_278) rfl rfl ?_
        refine XS.iconst X54.here hx rfl (hb hby at_280) ?_
        show Steps p.tables e below (T54.setTop (mkF m 281 #[.val (.int p1), .val (.int p2), .val (.ref b1), .val (.int (Int32.ofNat q0.1)), .val (.int (Int32.ofNat q1.1)), .val (.int (Int32.ofNat q2.1)), .val (.int (Int32.ofNat q3.1)), .val (.ref x40), .val (.ref x44), .val (.int mk), .val (.int nn), .val (.int 1)] [(.int 2), (.ref x44)])) _
        refine st58.trans ?_
        show Steps p.tables e below (T58.setTop (mkF m 284 #[.val (.int p1), .val (.int p2), .val (.ref b1), .val (.int (Int32.ofNat q0.1)), .val (.int (Int32.ofNat q1.1)), .val (.int (Int32.ofNat q2.1)), .val (.int (Int32.ofNat q3.1)), .val (.ref x40), .val (.ref x44), .val (.int mk), .val (.int nn), .val (.int 1)] [(.ref ([t4, t11, t18, t25].getD (nthF mk (2 : Int32)).toNatClampNeg 0))])) _
        refine XS.aloadN X58.here hx rfl (hb hby at_284) rfl rfl ?_
        refine XS.iload X58.here hx rfl (hb hby at_285) rfl ?_
        refine XS.iconst X58.here hx rfl (hb hby at_287) ?_
        show Steps p.tables e below (T58.setTop (mkF m 288 #[.val (.int p1), .val (.int p2), .val (.ref b1), .val (.int (Int32.ofNat q0.1)), .val (.int (Int32.ofNat q1.1)), .val (.int (Int32.ofNat q2.1)), .val (.int (Int32.ofNat q3.1)), .val (.ref x40), .val (.ref x44), .val (.int mk), .val (.int nn), .val (.int 1)] [(.int 2), (.int mk), (.ref b1), (.ref ([t4, t11, t18, t25].getD (nthF mk (2 : Int32)).toNatClampNeg 0))])) _
        refine st59 _ ?_
        show Steps p.tables e below (T59.setTop (mkF m 291 #[.val (.int p1), .val (.int p2), .val (.ref b1), .val (.int (Int32.ofNat q0.1)), .val (.int (Int32.ofNat q1.1)), .val (.int (Int32.ofNat q2.1)), .val (.int (Int32.ofNat q3.1)), .val (.ref x40), .val (.ref x44), .val (.int mk), .val (.int nn), .val (.int 1)] [(.int (nthF mk (2 : Int32))), (.ref b1), (.ref ([t4, t11, t18, t25].getD (nthF mk (2 : Int32)).toNatClampNeg 0))])) _
        refine X59.aaload hx (j := (nthF mk (2 : Int32))) (v := (.ref ([t4, t11, t18, t25].getD (nthF mk (2 : Int32)).toNatClampNeg 0))) (by rw [e59]; exact Ar60.1) (State.isArrayOf_alike hZ.alike Ar60.2.1) rfl Ar60.2.2 hin60 hat60 (g := (mkF m 291 #[.val (.int p1), .val (.int p2), .val (.ref b1), .val (.int (Int32.ofNat q0.1)), .val (.int (Int32.ofNat q1.1)), .val (.int (Int32.ofNat q2.1)), .val (.int (Int32.ofNat q3.1)), .val (.ref x40), .val (.ref x44), .val (.int mk), .val (.int nn), .val (.int 1)] [(.int (nthF mk (2 : Int32))), (.ref b1), (.ref ([t4, t11, t18, t25].getD (nthF mk (2 : Int32)).toNatClampNeg 0))])) rfl rfl (hb hby at_291) _ ?_
        exact k
      have pf62 : ∀ target, Steps p.tables e below (T59.setTop (mkF m 305 #[.val (.int p1), .val (.int p2), .val (.ref b1), .val (.int (Int32.ofNat q0.1)), .val (.int (Int32.ofNat q1.1)), .val (.int (Int32.ofNat q2.1)), .val (.int (Int32.ofNat q3.1)), .val (.ref x40), .val (.ref x44), .val (.int mk), .val (.int nn), .val (.int 1)] [(.int nn), (.int 3)])) target → Steps p.tables e below (T59.setTop (mkF m 292 #[.val (.int p1), .val (.int p2), .val (.ref b1), .val (.int (Int32.ofNat q0.1)), .val (.int (Int32.ofNat q1.1)), .val (.int (Int32.ofNat q2.1)), .val (.int (Int32.ofNat q3.1)), .val (.ref x40), .val (.ref x44), .val (.int mk), .val (.int nn), .val (.int 1)] [(.ref ([t4, t11, t18, t25].getD (nthF mk (2 : Int32)).toNatClampNeg 0)), (.ref ([t4, t11, t18, t25].getD (nthF mk (2 : Int32)).toNatClampNeg 0))])) target := by
        intro target k
        show Steps p.tables e below (T59.setTop (mkF m 292 #[.val (.int p1), .val (.int p2), .val (.ref b1), .val (.int (Int32.ofNat q0.1)), .val (.int (Int32.ofNat q1.1)), .val (.int (Int32.ofNat q2.1)), .val (.int (Int32.ofNat q3.1)), .val (.ref x40), .val (.ref x44), .val (.int mk), .val (.int nn), .val (.int 1)] [(.ref ([t4, t11, t18, t25].getD (nthF mk (2 : Int32)).toNatClampNeg 0)), (.ref ([t4, t11, t18, t25].getD (nthF mk (2 : Int32)).toNatClampNeg 0))])) _
        refine Jvm.RoadKit.acmp (g := (mkF m 292 #[.val (.int p1), .val (.int p2), .val (.ref b1), .val (.int (Int32.ofNat q0.1)), .val (.int (Int32.ofNat q1.1)), .val (.int (Int32.ofNat q2.1)), .val (.int (Int32.ofNat q3.1)), .val (.ref x40), .val (.ref x44), .val (.int mk), .val (.int nn), .val (.int 1)] [(.ref ([t4, t11, t18, t25].getD (nthF mk (2 : Int32)).toNatClampNeg 0)), (.ref ([t4, t11, t18, t25].getD (nthF mk (2 : Int32)).toNatClampNeg 0))])) X59 hx rfl rfl rfl (pc0 := 292) (pc' := 295) (same := true) rfl (hb hby at_292) rfl (decide_eq_true rfl) (by decide) (by decide) ?_
        show Steps p.tables e below (T59.setTop (mkF m 295 #[.val (.int p1), .val (.int p2), .val (.ref b1), .val (.int (Int32.ofNat q0.1)), .val (.int (Int32.ofNat q1.1)), .val (.int (Int32.ofNat q2.1)), .val (.int (Int32.ofNat q3.1)), .val (.ref x40), .val (.ref x44), .val (.int mk), .val (.int nn), .val (.int 1)] [])) _
        refine XS.iconst X59.here hx rfl (hb hby at_295) ?_
        refine XS.goto X59.here hx rfl (pc0 := 296) (pc' := 300) rfl (hb hby at_296) (by decide) (by decide) ?_
        refine XS.istore X59.here hx rfl (hb hby at_300) rfl (l' := #[.val (.int p1), .val (.int p2), .val (.ref b1), .val (.int (Int32.ofNat q0.1)), .val (.int (Int32.ofNat q1.1)), .val (.int (Int32.ofNat q2.1)), .val (.int (Int32.ofNat q3.1)), .val (.ref x40), .val (.ref x44), .val (.int mk), .val (.int nn), .val (.int 1)]) rfl ?_
        refine XS.iconst X59.here hx rfl (hb hby at_302) ?_
        refine XS.iload X59.here hx rfl (hb hby at_303) rfl ?_
        exact k
      by_cases hc305 : (3 : Int32) < nn
      · obtain ⟨m1, m2, m3, m4⟩ := okr3 3 (by decide) hc305
        have m5 : nthF mk (3 : Int32) = Int32.ofNat (nthF mk (3 : Int32)).toNatClampNeg := m3
        obtain ⟨cq63, kq63, qa63, qb63, qc63⟩ := isOf hZ e59 Ex44
        obtain ⟨_, _, ⟨T63, L63, k63, n63⟩, -, X63, ⟨Lc63, hQ63, l63, y63, z63⟩, st63⟩ := X59.virtualBack hx (y := (⟨"com/example/rivet_context/rivetcontext/factory/TypeListing", "get", "(I)Ljava/lang/String;"⟩ : MethodName)) (z := (⟨"com/example/rivet_context/rivetcontext/factory/TypeListing", "get", "(I)Ljava/lang/String;"⟩ : MethodName)) hown (mvT hZ (hw _ (List.mem_of_getElem? (i := 95) rfl))) (mvT hZ (hw _ (List.mem_of_getElem? (i := 96) rfl))) (notFace_of_selects (args := #[]) (mvT hZ (hw _ (List.mem_of_getElem? (i := 98) rfl)))) (mvT hZ (hw _ (List.mem_of_getElem? (i := 98) rfl))) (mvT hZ (hw _ (List.mem_of_getElem? (i := 97) rfl))) (by decide) (backOf (W := 0) (rmget l Z a0 hw [] x44 b1 k1 [t4, t11, t18, t25] (RF (Int32.ofNat q0.1) (Int32.ofNat q1.1) (Int32.ofNat q2.1) (Int32.ofNat q3.1)).1 (RF (Int32.ofNat q0.1) (Int32.ofNat q1.1) (Int32.ofNat q2.1) (Int32.ofNat q3.1)).2.1 (RF (Int32.ofNat q0.1) (Int32.ofNat q1.1) (Int32.ofNat q2.1) (Int32.ofNat q3.1)).2.2 3 (nthF mk (3 : Int32)).toNatClampNeg h44 n0 Oq44 Lq44 Vr44 br2 br4 (by omega) m1 rfl m2 m4) hZ (hw _ (List.mem_of_getElem? (i := 99) rfl)) (hw _ (List.mem_of_getElem? (i := 30) rfl)) (by decide) (by decide)) qa63 qc63 (g := (mkF m 316 #[.val (.int p1), .val (.int p2), .val (.ref b1), .val (.int (Int32.ofNat q0.1)), .val (.int (Int32.ofNat q1.1)), .val (.int (Int32.ofNat q2.1)), .val (.int (Int32.ofNat q3.1)), .val (.ref x40), .val (.ref x44), .val (.int mk), .val (.int nn), .val (.int 1)] [(.int 3), (.ref x44)])) rfl (by rw [hml]; rfl) (Steps.refl _) (argsL := [(.int 3)]) (rest := []) (lenOf pd20 rfl) rfl (by show 2 * 0 + _ ≤ _; exact Nat.le_of_eq rfl) (hb hby at_316) (fun _ _ => ⟨rfl, e59, (by decide : 25 + 0 ≤ _), (by decide : 97 + 0 ≤ _)⟩)
        dsimp only [Pt.U, Pt.locs, Pt.cells, Pt.slots] at X63 l63 y63 z63 st63 hQ63
        subst l63 y63 z63
        obtain ⟨rfl, Nq63, e63⟩ := hQ63
        have N63 := Fr.app N59 Nq63
        obtain ⟨_, _, ⟨T64, L64, k64, n64⟩, -, X64, ⟨Lc64, hQ64, l64, y64, z64⟩, st64⟩ := Jvm.LawKit.callS X63 hx (y := (⟨"com/example/rivet_context/rivetcontext/factory/TypeListingGetPinLaw", "nth", "(II)I"⟩ : MethodName)) hown (mvT hZ (hw _ (List.mem_of_getElem? (i := 144) rfl))) (mvT hZ (hw _ (List.mem_of_getElem? (i := 145) rfl))) (mvT hZ (hw _ (List.mem_of_getElem? (i := 146) rfl))) (mvT hZ (hw _ (List.mem_of_getElem? (i := 147) rfl))) (by decide) (backOf (W := 2) (rmnth l Z a0 hw [] mk (3 : Int32) h44 n0 Oq44) hZ (hw _ (List.mem_of_getElem? (i := 147) rfl)) (hw _ (List.mem_of_getElem? (i := 146) rfl)) (by decide) (by decide)) (g := (mkF m 323 #[.val (.int p1), .val (.int p2), .val (.ref b1), .val (.int (Int32.ofNat q0.1)), .val (.int (Int32.ofNat q1.1)), .val (.int (Int32.ofNat q2.1)), .val (.int (Int32.ofNat q3.1)), .val (.ref x40), .val (.ref x44), .val (.int mk), .val (.int nn), .val (.int 1)] [(.int 3), (.int mk), (.ref b1), (.ref ([t4, t11, t18, t25].getD (nthF mk (3 : Int32)).toNatClampNeg 0))])) rfl (by rw [hml]; rfl) (argsL := [(.int mk), (.int 3)]) (rest := [(.ref b1), (.ref ([t4, t11, t18, t25].getD (nthF mk (3 : Int32)).toNatClampNeg 0))]) (lenOf pd7 rfl) rfl (by show 2 * 0 + _ ≤ _; exact Nat.le_of_eq rfl) (hb hby at_323) (fun _ _ => ⟨rfl, e63, (by decide : 25 + 0 ≤ _), (by decide : 97 + 0 ≤ _)⟩)
        dsimp only [Pt.U, Pt.locs, Pt.cells, Pt.slots] at X64 l64 y64 z64 st64 hQ64
        subst l64 y64 z64
        obtain ⟨rfl, Nq64, e64⟩ := hQ64
        have N64 := Fr.app N63 Nq64
        obtain ⟨cl65, Ar65, hin65, hat65⟩ := own_atR (j := (nthF mk (3 : Int32))) (q := (nthF mk (3 : Int32)).toNatClampNeg) (ss := [t4, t11, t18, t25]) Vr44 rfl m5 m4
        have pf66 : ∀ target, Steps p.tables e below (T64.setTop (mkF m 327 #[.val (.int p1), .val (.int p2), .val (.ref b1), .val (.int (Int32.ofNat q0.1)), .val (.int (Int32.ofNat q1.1)), .val (.int (Int32.ofNat q2.1)), .val (.int (Int32.ofNat q3.1)), .val (.ref x40), .val (.ref x44), .val (.int mk), .val (.int nn), .val (.int 1)] [(.ref ([t4, t11, t18, t25].getD (nthF mk (3 : Int32)).toNatClampNeg 0)), (.ref ([t4, t11, t18, t25].getD (nthF mk (3 : Int32)).toNatClampNeg 0))])) target → Steps p.tables e below (T59.setTop (mkF m 305 #[.val (.int p1), .val (.int p2), .val (.ref b1), .val (.int (Int32.ofNat q0.1)), .val (.int (Int32.ofNat q1.1)), .val (.int (Int32.ofNat q2.1)), .val (.int (Int32.ofNat q3.1)), .val (.ref x40), .val (.ref x44), .val (.int mk), .val (.int nn), .val (.int 1)] [(.int nn), (.int 3)])) target := by
          intro target k
          show Steps p.tables e below (T59.setTop (mkF m 305 #[.val (.int p1), .val (.int p2), .val (.ref b1), .val (.int (Int32.ofNat q0.1)), .val (.int (Int32.ofNat q1.1)), .val (.int (Int32.ofNat q2.1)), .val (.int (Int32.ofNat q3.1)), .val (.ref x40), .val (.ref x44), .val (.int mk), .val (.int nn), .val (.int 1)] [(.int nn), (.int 3)])) _
          refine XS.icmpNo X59.here hx rfl (hb hby at_305) rfl (tlt hc305).2.1 ?_
          refine XS.iload X59.here hx rfl (hb hby at_308) rfl ?_
          refine XS.ifNo X59.here hx rfl (hb hby at_310) rfl ((if0 _ _).trans (feq (by decide)).1) ?_
          refine XS.aload X59.here hx rfl (hb hby at_313) rfl rfl ?_
          refine XS.iconst X59.here hx rfl (hb hby at_315) ?_
          show Steps p.tables e below (T59.setTop (mkF m 316 #[.val (.int p1), .val (.int p2), .val (.ref b1), .val (.int (Int32.ofNat q0.1)), .val (.int (Int32.ofNat q1.1)), .val (.int (Int32.ofNat q2.1)), .val (.int (Int32.ofNat q3.1)), .val (.ref x40), .val (.ref x44), .val (.int mk), .val (.int nn), .val (.int 1)] [(.int 3), (.ref x44)])) _
          refine st63.trans ?_
          show Steps p.tables e below (T63.setTop (mkF m 319 #[.val (.int p1), .val (.int p2), .val (.ref b1), .val (.int (Int32.ofNat q0.1)), .val (.int (Int32.ofNat q1.1)), .val (.int (Int32.ofNat q2.1)), .val (.int (Int32.ofNat q3.1)), .val (.ref x40), .val (.ref x44), .val (.int mk), .val (.int nn), .val (.int 1)] [(.ref ([t4, t11, t18, t25].getD (nthF mk (3 : Int32)).toNatClampNeg 0))])) _
          refine XS.aloadN X63.here hx rfl (hb hby at_319) rfl rfl ?_
          refine XS.iload X63.here hx rfl (hb hby at_320) rfl ?_
          refine XS.iconst X63.here hx rfl (hb hby at_322) ?_
          show Steps p.tables e below (T63.setTop (mkF m 323 #[.val (.int p1), .val (.int p2), .val (.ref b1), .val (.int (Int32.ofNat q0.1)), .val (.int (Int32.ofNat q1.1)), .val (.int (Int32.ofNat q2.1)), .val (.int (Int32.ofNat q3.1)), .val (.ref x40), .val (.ref x44), .val (.int mk), .val (.int nn), .val (.int 1)] [(.int 3), (.int mk), (.ref b1), (.ref ([t4, t11, t18, t25].getD (nthF mk (3 : Int32)).toNatClampNeg 0))])) _
          refine st64 _ ?_
          show Steps p.tables e below (T64.setTop (mkF m 326 #[.val (.int p1), .val (.int p2), .val (.ref b1), .val (.int (Int32.ofNat q0.1)), .val (.int (Int32.ofNat q1.1)), .val (.int (Int32.ofNat q2.1)), .val (.int (Int32.ofNat q3.1)), .val (.ref x40), .val (.ref x44), .val (.int mk), .val (.int nn), .val (.int 1)] [(.int (nthF mk (3 : Int32))), (.ref b1), (.ref ([t4, t11, t18, t25].getD (nthF mk (3 : Int32)).toNatClampNeg 0))])) _
          refine X64.aaload hx (j := (nthF mk (3 : Int32))) (v := (.ref ([t4, t11, t18, t25].getD (nthF mk (3 : Int32)).toNatClampNeg 0))) (by rw [e64]; exact Ar65.1) (State.isArrayOf_alike hZ.alike Ar65.2.1) rfl Ar65.2.2 hin65 hat65 (g := (mkF m 326 #[.val (.int p1), .val (.int p2), .val (.ref b1), .val (.int (Int32.ofNat q0.1)), .val (.int (Int32.ofNat q1.1)), .val (.int (Int32.ofNat q2.1)), .val (.int (Int32.ofNat q3.1)), .val (.ref x40), .val (.ref x44), .val (.int mk), .val (.int nn), .val (.int 1)] [(.int (nthF mk (3 : Int32))), (.ref b1), (.ref ([t4, t11, t18, t25].getD (nthF mk (3 : Int32)).toNatClampNeg 0))])) rfl rfl (hb hby at_326) _ ?_
          exact k
        obtain ⟨fs, hr, hrun, hended, hW, hsame⟩ := X64.leave (v := some (.int 1)) (fun h => by rw [Bd.returns] at h; cases h)
        refine ⟨_, _, pre0 _ ?_, hrun, hended, _, _, rfl, ?_, ⟨_, rfl⟩, hW, hsame.mono (by decide) (by decide)⟩
        · refine pf43 _ ?_
          refine pf46 _ ?_
          refine pf47 _ ?_
          refine pf51 _ ?_
          refine pf52 _ ?_
          refine pf56 _ ?_
          refine pf57 _ ?_
          refine pf61 _ ?_
          refine pf62 _ ?_
          refine pf66 _ ?_
          show Steps p.tables e below (T64.setTop (mkF m 327 #[.val (.int p1), .val (.int p2), .val (.ref b1), .val (.int (Int32.ofNat q0.1)), .val (.int (Int32.ofNat q1.1)), .val (.int (Int32.ofNat q2.1)), .val (.int (Int32.ofNat q3.1)), .val (.ref x40), .val (.ref x44), .val (.int mk), .val (.int nn), .val (.int 1)] [(.ref ([t4, t11, t18, t25].getD (nthF mk (3 : Int32)).toNatClampNeg 0)), (.ref ([t4, t11, t18, t25].getD (nthF mk (3 : Int32)).toNatClampNeg 0))])) _
          refine Jvm.RoadKit.acmp (g := (mkF m 327 #[.val (.int p1), .val (.int p2), .val (.ref b1), .val (.int (Int32.ofNat q0.1)), .val (.int (Int32.ofNat q1.1)), .val (.int (Int32.ofNat q2.1)), .val (.int (Int32.ofNat q3.1)), .val (.ref x40), .val (.ref x44), .val (.int mk), .val (.int nn), .val (.int 1)] [(.ref ([t4, t11, t18, t25].getD (nthF mk (3 : Int32)).toNatClampNeg 0)), (.ref ([t4, t11, t18, t25].getD (nthF mk (3 : Int32)).toNatClampNeg 0))])) X64 hx rfl rfl rfl (pc0 := 327) (pc' := 330) (same := true) rfl (hb hby at_327) rfl (decide_eq_true rfl) (by decide) (by decide) ?_
          show Steps p.tables e below (T64.setTop (mkF m 330 #[.val (.int p1), .val (.int p2), .val (.ref b1), .val (.int (Int32.ofNat q0.1)), .val (.int (Int32.ofNat q1.1)), .val (.int (Int32.ofNat q2.1)), .val (.int (Int32.ofNat q3.1)), .val (.ref x40), .val (.ref x44), .val (.int mk), .val (.int nn), .val (.int 1)] [])) _
          refine XS.iconst X64.here hx rfl (hb hby at_330) ?_
          refine XS.goto X64.here hx rfl (pc0 := 331) (pc' := 335) rfl (hb hby at_331) (by decide) (by decide) ?_
          refine XS.istore X64.here hx rfl (hb hby at_335) rfl (l' := #[.val (.int p1), .val (.int p2), .val (.ref b1), .val (.int (Int32.ofNat q0.1)), .val (.int (Int32.ofNat q1.1)), .val (.int (Int32.ofNat q2.1)), .val (.int (Int32.ofNat q3.1)), .val (.ref x40), .val (.ref x44), .val (.int mk), .val (.int nn), .val (.int 1)]) rfl ?_
          refine XS.iload X64.here hx rfl (hb hby at_337) rfl ?_
          show Steps p.tables e below (T64.setTop (mkF m 339 #[.val (.int p1), .val (.int p2), .val (.ref b1), .val (.int (Int32.ofNat q0.1)), .val (.int (Int32.ofNat q1.1)), .val (.int (Int32.ofNat q2.1)), .val (.int (Int32.ofNat q3.1)), .val (.ref x40), .val (.ref x44), .val (.int mk), .val (.int nn), .val (.int 1)] [(.int 1)])) _
          exact retN X64 hx (t := .boolean) Bd.returns (by simp) (hb hby at_339) hr
        · show Q0 n0 _ T64.heap _
          rw [e64]
          exact ⟨rfl, N64⟩
      · obtain ⟨fs, hr, hrun, hended, hW, hsame⟩ := X59.leave (v := some (.int 1)) (fun h => by rw [Bd.returns] at h; cases h)
        refine ⟨_, _, pre0 _ ?_, hrun, hended, _, _, rfl, ?_, ⟨_, rfl⟩, hW, hsame.mono (by decide) (by decide)⟩
        · refine pf43 _ ?_
          refine pf46 _ ?_
          refine pf47 _ ?_
          refine pf51 _ ?_
          refine pf52 _ ?_
          refine pf56 _ ?_
          refine pf57 _ ?_
          refine pf61 _ ?_
          refine pf62 _ ?_
          show Steps p.tables e below (T59.setTop (mkF m 305 #[.val (.int p1), .val (.int p2), .val (.ref b1), .val (.int (Int32.ofNat q0.1)), .val (.int (Int32.ofNat q1.1)), .val (.int (Int32.ofNat q2.1)), .val (.int (Int32.ofNat q3.1)), .val (.ref x40), .val (.ref x44), .val (.int mk), .val (.int nn), .val (.int 1)] [(.int nn), (.int 3)])) _
          refine XS.icmpYes X59.here hx rfl (pc0 := 305) (pc' := 337) rfl (hb hby at_305) rfl (flt hc305).2.1 (by decide) (by decide) ?_
          refine XS.iload X59.here hx rfl (hb hby at_337) rfl ?_
          show Steps p.tables e below (T59.setTop (mkF m 339 #[.val (.int p1), .val (.int p2), .val (.ref b1), .val (.int (Int32.ofNat q0.1)), .val (.int (Int32.ofNat q1.1)), .val (.int (Int32.ofNat q2.1)), .val (.int (Int32.ofNat q3.1)), .val (.ref x40), .val (.ref x44), .val (.int mk), .val (.int nn), .val (.int 1)] [(.int 1)])) _
          exact retN X59 hx (t := .boolean) Bd.returns (by simp) (hb hby at_339) hr
        · show Q0 n0 _ T59.heap _
          rw [e59]
          exact ⟨rfl, N59⟩
    · obtain ⟨fs, hr, hrun, hended, hW, hsame⟩ := X54.leave (v := some (.int 1)) (fun h => by rw [Bd.returns] at h; cases h)
      refine ⟨_, _, pre0 _ ?_, hrun, hended, _, _, rfl, ?_, ⟨_, rfl⟩, hW, hsame.mono (by decide) (by decide)⟩
      · refine pf43 _ ?_
        refine pf46 _ ?_
        refine pf47 _ ?_
        refine pf51 _ ?_
        refine pf52 _ ?_
        refine pf56 _ ?_
        refine pf57 _ ?_
        show Steps p.tables e below (T54.setTop (mkF m 270 #[.val (.int p1), .val (.int p2), .val (.ref b1), .val (.int (Int32.ofNat q0.1)), .val (.int (Int32.ofNat q1.1)), .val (.int (Int32.ofNat q2.1)), .val (.int (Int32.ofNat q3.1)), .val (.ref x40), .val (.ref x44), .val (.int mk), .val (.int nn), .val (.int 1)] [(.int nn), (.int 2)])) _
        refine XS.icmpYes X54.here hx rfl (pc0 := 270) (pc' := 302) rfl (hb hby at_270) rfl (flt hc270).2.1 (by decide) (by decide) ?_
        refine XS.iconst X54.here hx rfl (hb hby at_302) ?_
        refine XS.iload X54.here hx rfl (hb hby at_303) rfl ?_
        refine XS.icmpYes X54.here hx rfl (pc0 := 305) (pc' := 337) rfl (hb hby at_305) rfl (flt (own_up (i := 2) (j := 3) hc270 (by decide) (by decide))).2.1 (by decide) (by decide) ?_
        refine XS.iload X54.here hx rfl (hb hby at_337) rfl ?_
        show Steps p.tables e below (T54.setTop (mkF m 339 #[.val (.int p1), .val (.int p2), .val (.ref b1), .val (.int (Int32.ofNat q0.1)), .val (.int (Int32.ofNat q1.1)), .val (.int (Int32.ofNat q2.1)), .val (.int (Int32.ofNat q3.1)), .val (.ref x40), .val (.ref x44), .val (.int mk), .val (.int nn), .val (.int 1)] [(.int 1)])) _
        exact retN X54 hx (t := .boolean) Bd.returns (by simp) (hb hby at_339) hr
      · show Q0 n0 _ T54.heap _
        rw [e54]
        exact ⟨rfl, N54⟩
  · have pf67 : ∀ target, Steps p.tables e below (T49.setTop (mkF m 305 #[.val (.int p1), .val (.int p2), .val (.ref b1), .val (.int (Int32.ofNat q0.1)), .val (.int (Int32.ofNat q1.1)), .val (.int (Int32.ofNat q2.1)), .val (.int (Int32.ofNat q3.1)), .val (.ref x40), .val (.ref x44), .val (.int mk), .val (.int nn), .val (.int 1)] [(.int nn), (.int 3)])) target → Steps p.tables e below (T49.setTop (mkF m 235 #[.val (.int p1), .val (.int p2), .val (.ref b1), .val (.int (Int32.ofNat q0.1)), .val (.int (Int32.ofNat q1.1)), .val (.int (Int32.ofNat q2.1)), .val (.int (Int32.ofNat q3.1)), .val (.ref x40), .val (.ref x44), .val (.int mk), .val (.int nn), .val (.int 1)] [(.int nn), (.int 1)])) target := by
      intro target k
      show Steps p.tables e below (T49.setTop (mkF m 235 #[.val (.int p1), .val (.int p2), .val (.ref b1), .val (.int (Int32.ofNat q0.1)), .val (.int (Int32.ofNat q1.1)), .val (.int (Int32.ofNat q2.1)), .val (.int (Int32.ofNat q3.1)), .val (.ref x40), .val (.ref x44), .val (.int mk), .val (.int nn), .val (.int 1)] [(.int nn), (.int 1)])) _
      refine XS.icmpYes X49.here hx rfl (pc0 := 235) (pc' := 267) rfl (hb hby at_235) rfl (flt hc235).2.1 (by decide) (by decide) ?_
      refine XS.iconst X49.here hx rfl (hb hby at_267) ?_
      refine XS.iload X49.here hx rfl (hb hby at_268) rfl ?_
      refine XS.icmpYes X49.here hx rfl (pc0 := 270) (pc' := 302) rfl (hb hby at_270) rfl (flt (own_up (i := 1) (j := 2) hc235 (by decide) (by decide))).2.1 (by decide) (by decide) ?_
      refine XS.iconst X49.here hx rfl (hb hby at_302) ?_
      refine XS.iload X49.here hx rfl (hb hby at_303) rfl ?_
      exact k
    obtain ⟨fs, hr, hrun, hended, hW, hsame⟩ := X49.leave (v := some (.int 1)) (fun h => by rw [Bd.returns] at h; cases h)
    refine ⟨_, _, pre0 _ ?_, hrun, hended, _, _, rfl, ?_, ⟨_, rfl⟩, hW, hsame.mono (by decide) (by decide)⟩
    · refine pf43 _ ?_
      refine pf46 _ ?_
      refine pf47 _ ?_
      refine pf51 _ ?_
      refine pf52 _ ?_
      refine pf67 _ ?_
      show Steps p.tables e below (T49.setTop (mkF m 305 #[.val (.int p1), .val (.int p2), .val (.ref b1), .val (.int (Int32.ofNat q0.1)), .val (.int (Int32.ofNat q1.1)), .val (.int (Int32.ofNat q2.1)), .val (.int (Int32.ofNat q3.1)), .val (.ref x40), .val (.ref x44), .val (.int mk), .val (.int nn), .val (.int 1)] [(.int nn), (.int 3)])) _
      refine XS.icmpYes X49.here hx rfl (pc0 := 305) (pc' := 337) rfl (hb hby at_305) rfl (flt (own_up (i := 1) (j := 3) hc235 (by decide) (by decide))).2.1 (by decide) (by decide) ?_
      refine XS.iload X49.here hx rfl (hb hby at_337) rfl ?_
      show Steps p.tables e below (T49.setTop (mkF m 339 #[.val (.int p1), .val (.int p2), .val (.ref b1), .val (.int (Int32.ofNat q0.1)), .val (.int (Int32.ofNat q1.1)), .val (.int (Int32.ofNat q2.1)), .val (.int (Int32.ofNat q3.1)), .val (.ref x40), .val (.ref x44), .val (.int mk), .val (.int nn), .val (.int 1)] [(.int 1)])) _
      exact retN X49 hx (t := .boolean) Bd.returns (by simp) (hb hby at_339) hr
    · show Q0 n0 _ T49.heap _
      rw [e49]
      exact ⟨rfl, N49⟩
set_option maxRecDepth 65536 in
set_option maxHeartbeats 40000000 in
theorem comes_1 {Post : Tables → Env → Array Value → State → Outcome → State → Prop} (hpost : ∀ tb e args s v u, (limb_1_1.after args s (.returned v) u = true ∧ limb_1_2.after args s (.returned v) u = true ∧ True) → FrameEnd s (.returned v) u (Jvm.fieldLocs frame_1_writes args s ++ Jvm.arrayLocs frame_1_arrays args s ++ Jvm.staticLocs frame_1_statics s) 56 256 → Post tb e args s (.returned v) u) :
    ArmFor flags0 classFile x code maxLocals ret World_1 tables_1 room_1 Calls_1 rest_1 Pre_1 Post := by
  intro l hfl _ _ p e ha hc hk s m args below hf hA hF happ hP
  obtain ⟨hcalls, hrest, hpre⟩ := hP
  obtain ⟨-, -, -, hnamed, -, -, -, hat⟩ := (Spec.applies_iff hf).mp happ
  obtain ⟨hg, hn⟩ := and_e (Cond.before_iff.mp (show (Jvm.Cond.and given_1 narrow_1).before args s = true from hpre))
  obtain ⟨hcnt, hg⟩ := and_e hg
  obtain ⟨hg0, hg⟩ := and_e hg
  obtain ⟨w0, w1, rfl⟩ : ∃ w0 w1 : Value, args = #[w0, w1] := by
    have hs : args.size = 2 := by simpa [Cond.value, given_1] using hcnt
    obtain ⟨L⟩ := args
    match L, hs with
    | [w0, w1], _ => exact ⟨w0, w1, rfl⟩
  have hw := fun d (hd : d ∈ tables_1) => atoms_spec (ws := Jvm.Cond.code x code maxLocals ret :: tables_1) hat d (List.mem_cons_of_mem _ hd)
  have hfit : Fit s := fun {y c} hc i hi => by
    obtain ⟨ha, rfl⟩ := Array.getElem?_eq_some_iff.mp hc
    have q := List.all_eq_true.mp ((Array.all_eq_true_iff_forall_mem.mp hF) _ (Array.getElem_mem ha)) i (List.mem_range.mpr hi)
    simpa [Array.getElem?_eq_getElem hi] using q
  obtain ⟨hsets, hown0⟩ := atoms_of _ (rest_1_c_eq ▸ (show rest_1_c.before _ s = true from hrest))
  obtain ⟨i0, ei0⟩ := is_v hg0
  obtain rfl : w0 = (.int i0) := Option.some.inj ei0
  obtain ⟨i1, ei1⟩ := is_v hg
  obtain rfl : w1 = (.int i1) := Option.some.inj ei1
  obtain ⟨G1, evG⟩ := is_v (Cond.before_iff.mp (hsets _ (List.mem_of_getElem? (i := 1) rfl)))
  have SG := Sta.start evG (Or.inl (hsets _ (List.mem_of_getElem? (i := 0) rfl)))
  have hG : ¬ G1 = 0 := gotF (Cond.eq_ints evG (Term.int_eval _)) (not_v (Cond.before_iff.mp (hsets _ (List.mem_of_getElem? (i := 2) rfl))))
  obtain ⟨n, o, h1, h2, h3, _, L, rfl, ⟨rfl, N⟩, hq⟩ := rm0 l s _ hw tables_1 i0 i1 G1 s.heap s.heap.size (Old.start s) SG hG p e ha hc hk s m _ below hf ((Spec.applies_iff_loose hf).mp happ).1 ⟨rfl, State.Warmed39.refl s, rfl⟩ trivial
  refine ⟨n, _, h1, h2, h3, hpost _ _ _ _ _ _ ⟨Cond.after_iff.mpr rfl, Cond.after_iff.mpr (eq_i res_at (Term.int_eval (1)) rfl), trivial⟩ ⟨hq.1, hq.2.1, (hq.2.2.sift fun y hy => Or.inr (N y hy)).mono (by decide) (by decide)⟩⟩
theorem main_1_1 : Claimed_1_1 := comes_1 fun _ _ _ _ _ _ h hF => ⟨h.1, hF⟩
theorem main_1_2 : Claimed_1_2 := comes_1 fun _ _ _ _ _ _ h hF => ⟨h.2.1, hF⟩
end Jvm.Pilot.@@N@@
namespace Jvm.Pilot.@@N@@
open Jvm Jvm.ClassFile Sem Op Lib Jvm.Free Jvm.Stand Jvm.Pilot.@@N@@.Jvm.D
/-! MADE BY PROGRAM (witnessworld.py) out of the Statement's table words and the real class files: 30 classes; the members and pool entries that the words name. The judged class is class 1, her method 2. -/
namespace start1
open Jvm.ClassFile
def u (s : String) : CpInfo := .utf8 (stringToUtf16 s)
/-- a pool by its gaps: so many unusable entries, then the entry; so many at the end -/
def gap : Nat → List CpInfo → List CpInfo
  | 0, r => r
  | n + 1, r => .unusable :: gap n r
def poolList (es : List (Nat × CpInfo)) (last : Nat) : List CpInfo := es.foldr (fun e r => gap e.1 (e.2 :: r)) (gap last [])
def pool (es : List (Nat × CpInfo)) (last : Nat) : Array CpInfo := ⟨poolList es last⟩
def fileOf (pool : Array CpInfo) (this : Nat) (attrs : Array Attribute := #[]) (ms : Array MethodInfo := #[]) (fl : Nat := 33) (sup : Nat := 0) (ifs : Array Nat := #[]) (fds : Array FieldInfo := #[]) : ClassFile where
  minorVersion := 0
  majorVersion := 65
  constantPool := pool
  accessFlags := fl
  thisClass := this
  superClass := sup
  interfaces := ifs
  fields := fds
  methods := ms
  attributes := attrs
def plain (name : String) (sup : Option ClassId) : Class where
  name := name
  kind := .ordinary
  loader := none
  accessFlags := 33
  super := sup
  interfaces := #[]
  cf := none
  fields := #[]
  methods := #[]
  instanceTypes := #[]
  staticTypes := #[]
  resolved := #[]
  callSites := []
  init := .initialized
  statics := none
  mirror := none

def pool0 : Array CpInfo := pool [(5, u "<init>"), (0, u "()V"), (1, .class_ 10), (1, u "java/lang/Object")] 113

def k0c0 : Code := { maxStack := 0, maxLocals := 1, code := object_method_1_code, exceptionTable := #[], attributes := #[] }
def k0m0 : Method := { name := "<init>", desc := "()V", sig := { parameters := [], returnType := none }, accessFlags := 1, code := some k0c0 }
/-- java/lang/Object -/
def k0 : Class := { plain "java/lang/Object" none with
  accessFlags := 33
  interfaces := #[]
  cf := some (fileOf pool0 8 #[] #[{ accessFlags := 1, nameIndex := 5, descriptorIndex := 6, attributes := #[] }] 33 0 #[] #[])
  fields := #[]
  methods := #[k0m0]
  instanceTypes := #[]
  staticTypes := #[]
  resolved := Array.replicate 124 none
  statics := none }

def pool1 : Array CpInfo := pool [(2, .class_ 4), (1, u "java/lang/Object"), (0, u "<init>"), (0, u "()V"), (0, .class_ 8), (0, u "java/lang/String"), (0, .methodref 7 10), (0, .nameAndType 11 12), (0, u "valueOf"), (0, u "(C)Ljava/lang/String;"), (0, .class_ 14), (0, u "com/example/rivet_context/rivetcontext/factory/TypeListing"), (0, .methodref 13 16), (0, .nameAndType 5 17), (0, u "([Ljava/lang/String;I)V"), (0, .methodref 13 19), (0, .nameAndType 20 21), (0, u "with"), (0, u "(I)Lcom/example/rivet_context/rivetcontext/factory/TypeListing;"), (0, .methodref 13 23), (0, .nameAndType 24 25), (0, u "get"), (0, u "(I)Ljava/lang/String;"), (0, .methodref 13 27), (0, .nameAndType 28 29), (0, u "ordered"), (0, u "()Lcom/example/rivet_context/rivetcontext/factory/TypeListing;"), (0, .methodref 13 31), (0, .nameAndType 32 33), (0, u "size"), (0, u "()I"), (0, .methodref 35 36), (0, .class_ 37), (0, .nameAndType 38 39), (0, u "com/example/rivet_context/rivetcontext/factory/TypeListingGetPinLaw"), (0, u "nth"), (0, u "(II)I"), (3, u "law"), (0, u "(II)Z")] 4

def k1m0 : Method := { name := "<init>", desc := "()V", sig := { parameters := [], returnType := none }, accessFlags := 1, code := none }
def k1c1 : Code := { maxStack := 2, maxLocals := 3, code := method_2_code, exceptionTable := #[], attributes := #[] }
def k1m1 : Method := { name := "nth", desc := "(II)I", sig := { parameters := [.int, .int], returnType := some .int }, accessFlags := 10, code := some k1c1 }
def k1c2 : Code := { maxStack := 4, maxLocals := 12, code := code, exceptionTable := #[], attributes := #[] }
def k1m2 : Method := { name := "law", desc := "(II)Z", sig := { parameters := [.int, .int], returnType := some .boolean }, accessFlags := 9, code := some k1c2 }
/-- com/example/rivet_context/rivetcontext/factory/TypeListingGetPinLaw -/
def k1 : Class := { plain "com/example/rivet_context/rivetcontext/factory/TypeListingGetPinLaw" (some 0) with
  accessFlags := 49
  interfaces := #[]
  cf := some (fileOf pool1 35 #[] #[{ accessFlags := 1, nameIndex := 5, descriptorIndex := 6, attributes := #[] }, { accessFlags := 10, nameIndex := 38, descriptorIndex := 39, attributes := #[] }, { accessFlags := 9, nameIndex := 43, descriptorIndex := 44, attributes := #[] }] 49 2 #[] #[])
  fields := #[]
  methods := #[k1m0, k1m1, k1m2]
  instanceTypes := #[]
  staticTypes := #[]
  resolved := Array.replicate 49 none
  statics := none }

def pool2 : Array CpInfo := pool [(1, .class_ 2), (0, u "java/io/Serializable"), (0, .class_ 4), (0, u "java/lang/Object")] 2

/-- java/io/Serializable -/
def k2 : Class := { plain "java/io/Serializable" (some 0) with
  accessFlags := 1537
  interfaces := #[]
  cf := some (fileOf pool2 1 #[] #[] 1537 3 #[] #[])
  fields := #[]
  methods := #[]
  instanceTypes := #[]
  staticTypes := #[]
  resolved := Array.replicate 7 none
  statics := none }

def pool3 : Array CpInfo := pool [(1, .class_ 2), (0, u "java/lang/Comparable"), (0, .class_ 4), (0, u "java/lang/Object")] 7

/-- java/lang/Comparable -/
def k3 : Class := { plain "java/lang/Comparable" (some 0) with
  accessFlags := 1537
  interfaces := #[]
  cf := some (fileOf pool3 1 #[] #[] 1537 3 #[] #[])
  fields := #[]
  methods := #[]
  instanceTypes := #[]
  staticTypes := #[]
  resolved := Array.replicate 12 none
  statics := none }

def pool4 : Array CpInfo := pool [(2, .class_ 4), (1, u "java/lang/CharSequence"), (42, .class_ 48), (0, u "java/lang/CharSequence$1CodePointIterator"), (10, .class_ 60), (0, u "java/lang/CharSequence$1CharIterator"), (5, .class_ 67), (0, u "java/lang/Object")] 63

/-- java/lang/CharSequence -/
def k4 : Class := { plain "java/lang/CharSequence" (some 0) with
  accessFlags := 1537
  interfaces := #[]
  cf := some (fileOf pool4 2 #[.nestMembers #[47, 59]] #[] 1537 66 #[] #[])
  fields := #[]
  methods := #[]
  instanceTypes := #[]
  staticTypes := #[]
  resolved := Array.replicate 131 none
  statics := none }

def pool5 : Array CpInfo := pool [(1, .class_ 2), (0, u "java/lang/constant/Constable"), (0, .class_ 4), (0, u "java/lang/Object")] 6

/-- java/lang/constant/Constable -/
def k5 : Class := { plain "java/lang/constant/Constable" (some 0) with
  accessFlags := 1537
  interfaces := #[]
  cf := some (fileOf pool5 1 #[] #[] 1537 3 #[] #[])
  fields := #[]
  methods := #[]
  instanceTypes := #[]
  staticTypes := #[]
  resolved := Array.replicate 11 none
  statics := none }

def pool6 : Array CpInfo := pool [(1, .class_ 2), (0, u "java/lang/constant/ConstantDesc"), (0, .class_ 4), (0, u "java/lang/Object")] 32

/-- java/lang/constant/ConstantDesc -/
def k6 : Class := { plain "java/lang/constant/ConstantDesc" (some 0) with
  accessFlags := 1537
  interfaces := #[]
  cf := some (fileOf pool6 1 #[] #[] 1537 3 #[] #[])
  fields := #[]
  methods := #[]
  instanceTypes := #[]
  staticTypes := #[]
  resolved := Array.replicate 37 none
  statics := none }

def pool7 : Array CpInfo := pool [(1, .methodref 2 3), (0, .class_ 4), (0, .nameAndType 5 6), (0, u "java/lang/Object"), (0, u "<init>"), (0, u "()V"), (2, .fieldref 10 11), (0, .class_ 12), (0, .nameAndType 13 14), (0, u "java/lang/String"), (0, u "value"), (0, u "[B"), (0, .fieldref 10 16), (0, .nameAndType 17 18), (0, u "coder"), (0, u "B"), (2, u "hash"), (0, u "I"), (2, u "hashIsZero"), (0, u "Z"), (11, .fieldref 10 39), (0, .nameAndType 40 26), (0, u "COMPACT_STRINGS"), (12, u "toBytes"), (53, .class_ 109), (1, u "java/lang/StringLatin1"), (99, .methodref 10 210), (0, .nameAndType 5 211), (0, u "([BB)V"), (157, u "(C)Z"), (205, .class_ 576), (0, u "java/lang/CharSequence"), (22, u "CASE_INSENSITIVE_ORDER"), (0, u "Ljava/util/Comparator;"), (181, u "valueOf"), (0, u "(C)Ljava/lang/String;"), (231, .methodref 107 1016), (0, .nameAndType 1017 369), (0, u "canEncode"), (0, .methodref 107 1019), (0, .nameAndType 53 1020), (0, u "(C)[B"), (80, u "serialPersistentFields"), (0, u "[Ljava/io/ObjectStreamField;"), (0, .class_ 1104), (0, u "java/lang/String$CaseInsensitiveComparator"), (1, .class_ 1107), (0, u "java/io/Serializable"), (0, .class_ 1109), (0, u "java/lang/Comparable"), (0, .class_ 1111), (0, u "java/lang/constant/Constable"), (0, .class_ 1113), (0, u "java/lang/constant/ConstantDesc"), (2, u "serialVersionUID"), (0, u "J"), (3, u "REPL"), (0, u "C"), (2, u "LATIN1"), (1, u "UTF16")] 323

def k7m0 : Method := { name := "<init>", desc := "()V", sig := { parameters := [], returnType := none }, accessFlags := 1, code := none }
def k7c1 : Code := { maxStack := 4, maxLocals := 1, code := jdk_42_method_139_code, exceptionTable := #[], attributes := #[] }
def k7m1 : Method := { name := "valueOf", desc := "(C)Ljava/lang/String;", sig := { parameters := [.char], returnType := some (.object "java/lang/String") }, accessFlags := 9, code := some k7c1 }
def k7c2 : Code := { maxStack := 2, maxLocals := 3, code := jdk_42_method_151_code, exceptionTable := #[], attributes := #[] }
def k7m2 : Method := { name := "<init>", desc := "([BB)V", sig := { parameters := [(.array .byte), .byte], returnType := none }, accessFlags := 0, code := some k7c2 }
/-- java/lang/String -/
def k7 : Class := { plain "java/lang/String" (some 0) with
  accessFlags := 49
  interfaces := #[2, 3, 4, 5, 6]
  cf := some (fileOf pool7 10 #[.nestMembers #[1103]] #[{ accessFlags := 1, nameIndex := 5, descriptorIndex := 6, attributes := #[] }, { accessFlags := 9, nameIndex := 782, descriptorIndex := 783, attributes := #[] }, { accessFlags := 0, nameIndex := 5, descriptorIndex := 211, attributes := #[] }] 49 2 #[1106, 1108, 575, 1110, 1112] #[{ accessFlags := 18, nameIndex := 13, descriptorIndex := 14, attributes := #[] }, { accessFlags := 18, nameIndex := 17, descriptorIndex := 18, attributes := #[] }, { accessFlags := 2, nameIndex := 21, descriptorIndex := 22, attributes := #[] }, { accessFlags := 2, nameIndex := 25, descriptorIndex := 26, attributes := #[] }, { accessFlags := 26, nameIndex := 1116, descriptorIndex := 1117, attributes := #[] }, { accessFlags := 24, nameIndex := 40, descriptorIndex := 26, attributes := #[] }, { accessFlags := 26, nameIndex := 1101, descriptorIndex := 1102, attributes := #[] }, { accessFlags := 26, nameIndex := 1121, descriptorIndex := 1122, attributes := #[] }, { accessFlags := 25, nameIndex := 599, descriptorIndex := 600, attributes := #[] }, { accessFlags := 24, nameIndex := 1125, descriptorIndex := 18, attributes := #[] }, { accessFlags := 24, nameIndex := 1127, descriptorIndex := 18, attributes := #[] }])
  fields := #[{ name := "value", type := (.array .byte), accessFlags := 18, slot := 0, constantValue := 0 }, { name := "coder", type := .byte, accessFlags := 18, slot := 1, constantValue := 0 }, { name := "hash", type := .int, accessFlags := 2, slot := 2, constantValue := 0 }, { name := "hashIsZero", type := .boolean, accessFlags := 2, slot := 3, constantValue := 0 }, { name := "serialVersionUID", type := .long, accessFlags := 26, slot := 0, constantValue := 0 }, { name := "COMPACT_STRINGS", type := .boolean, accessFlags := 24, slot := 1, constantValue := 0 }, { name := "serialPersistentFields", type := (.array (.object "java/io/ObjectStreamField")), accessFlags := 26, slot := 2, constantValue := 0 }, { name := "REPL", type := .char, accessFlags := 26, slot := 3, constantValue := 0 }, { name := "CASE_INSENSITIVE_ORDER", type := (.object "java/util/Comparator"), accessFlags := 25, slot := 4, constantValue := 0 }, { name := "LATIN1", type := .byte, accessFlags := 24, slot := 5, constantValue := 0 }, { name := "UTF16", type := .byte, accessFlags := 24, slot := 6, constantValue := 0 }]
  methods := #[k7m0, k7m1, k7m2]
  instanceTypes := #[(.array .byte), .byte, .int, .boolean]
  staticTypes := #[.long, .boolean, (.array (.object "java/io/ObjectStreamField")), .char, (.object "java/util/Comparator"), .byte, .byte]
  resolved := Array.replicate 1451 none
  statics := some 0 }

def pool8 : Array CpInfo := pool [(4, .class_ 6), (1, u "java/lang/Object"), (0, u "<init>"), (0, u "()V"), (5, .class_ 16), (1, u "java/lang/StringLatin1"), (73, u "canEncode"), (14, u "(C)Z"), (15, u "$assertionsDisabled"), (0, u "Z"), (98, .class_ 223), (1, u "java/lang/StringLatin1$LinesSpliterator"), (156, u "toBytes"), (1, u "(C)[B"), (7, .class_ 391), (0, u "java/lang/StringLatin1$CharsSpliterator")] 3

def k8m0 : Method := { name := "<init>", desc := "()V", sig := { parameters := [], returnType := none }, accessFlags := 0, code := none }
def k8c1 : Code := { maxStack := 2, maxLocals := 1, code := jdk_43_method_3_code, exceptionTable := #[], attributes := #[] }
def k8m1 : Method := { name := "canEncode", desc := "(C)Z", sig := { parameters := [.char], returnType := some .boolean }, accessFlags := 9, code := some k8c1 }
def k8c2 : Code := { maxStack := 4, maxLocals := 1, code := jdk_43_method_46_code, exceptionTable := #[], attributes := #[] }
def k8m2 : Method := { name := "toBytes", desc := "(C)[B", sig := { parameters := [.char], returnType := some (.array .byte) }, accessFlags := 9, code := some k8c2 }
/-- java/lang/StringLatin1 -/
def k8 : Class := { plain "java/lang/StringLatin1" (some 0) with
  accessFlags := 48
  interfaces := #[]
  cf := some (fileOf pool8 14 #[.nestMembers #[390, 221]] #[{ accessFlags := 0, nameIndex := 7, descriptorIndex := 8, attributes := #[] }, { accessFlags := 9, nameIndex := 90, descriptorIndex := 105, attributes := #[] }, { accessFlags := 9, nameIndex := 380, descriptorIndex := 382, attributes := #[] }] 48 4 #[] #[{ accessFlags := 4120, nameIndex := 121, descriptorIndex := 122, attributes := #[] }])
  fields := #[{ name := "$assertionsDisabled", type := .boolean, accessFlags := 4120, slot := 0, constantValue := 0 }]
  methods := #[k8m0, k8m1, k8m2]
  instanceTypes := #[]
  staticTypes := #[.boolean]
  resolved := Array.replicate 395 none
  statics := none }

def pool9 : Array CpInfo := pool [(8, .class_ 10), (1, u "java/lang/Iterable"), (24, .class_ 36), (0, u "java/lang/Object")] 25

/-- java/lang/Iterable -/
def k9 : Class := { plain "java/lang/Iterable" (some 0) with
  accessFlags := 1537
  interfaces := #[]
  cf := some (fileOf pool9 8 #[] #[] 1537 35 #[] #[])
  fields := #[]
  methods := #[]
  instanceTypes := #[]
  staticTypes := #[]
  resolved := Array.replicate 62 none
  statics := none }

def pool10 : Array CpInfo := pool [(10, .class_ 12), (1, u "java/util/Collection"), (47, .class_ 61), (0, u "java/lang/Object"), (0, .class_ 63), (0, u "java/lang/Iterable")] 51

/-- java/util/Collection -/
def k10 : Class := { plain "java/util/Collection" (some 0) with
  accessFlags := 1537
  interfaces := #[9]
  cf := some (fileOf pool10 10 #[] #[] 1537 60 #[62] #[])
  fields := #[]
  methods := #[]
  instanceTypes := #[]
  staticTypes := #[]
  resolved := Array.replicate 115 none
  statics := none }

def pool11 : Array CpInfo := pool [(1, .methodref 2 3), (0, .class_ 4), (0, .nameAndType 5 6), (0, u "java/lang/Object"), (0, u "<init>"), (0, u "()V"), (1, .class_ 10), (1, u "java/util/AbstractCollection"), (66, .class_ 78), (0, u "java/util/Collection")] 81

def k11c0 : Code := { maxStack := 1, maxLocals := 1, code := jdk_22_method_1_code, exceptionTable := #[], attributes := #[] }
def k11m0 : Method := { name := "<init>", desc := "()V", sig := { parameters := [], returnType := none }, accessFlags := 4, code := some k11c0 }
/-- java/util/AbstractCollection -/
def k11 : Class := { plain "java/util/AbstractCollection" (some 0) with
  accessFlags := 1057
  interfaces := #[10]
  cf := some (fileOf pool11 8 #[] #[{ accessFlags := 4, nameIndex := 5, descriptorIndex := 6, attributes := #[] }] 1057 2 #[77] #[])
  fields := #[]
  methods := #[k11m0]
  instanceTypes := #[]
  staticTypes := #[]
  resolved := Array.replicate 160 none
  statics := none }

def pool12 : Array CpInfo := pool [(8, .class_ 10), (1, u "java/util/SequencedCollection"), (15, .class_ 27), (0, u "java/lang/Object"), (0, .class_ 29), (0, u "java/util/Collection")] 27

/-- java/util/SequencedCollection -/
def k12 : Class := { plain "java/util/SequencedCollection" (some 0) with
  accessFlags := 1537
  interfaces := #[10]
  cf := some (fileOf pool12 8 #[] #[] 1537 26 #[28] #[])
  fields := #[]
  methods := #[]
  instanceTypes := #[]
  staticTypes := #[]
  resolved := Array.replicate 57 none
  statics := none }

def pool13 : Array CpInfo := pool [(8, .class_ 10), (1, u "java/util/List"), (92, .class_ 104), (0, u "java/lang/Object"), (15, .class_ 121), (0, u "java/util/SequencedCollection")] 129

/-- java/util/List -/
def k13 : Class := { plain "java/util/List" (some 0) with
  accessFlags := 1537
  interfaces := #[12]
  cf := some (fileOf pool13 8 #[] #[] 1537 103 #[120] #[])
  fields := #[]
  methods := #[]
  instanceTypes := #[]
  staticTypes := #[]
  resolved := Array.replicate 251 none
  statics := none }

def pool14 : Array CpInfo := pool [(1, .methodref 2 3), (0, .class_ 4), (0, .nameAndType 5 6), (0, u "java/util/AbstractCollection"), (0, u "<init>"), (0, u "()V"), (0, .fieldref 8 9), (0, .class_ 10), (0, .nameAndType 11 12), (0, u "java/util/AbstractList"), (0, u "modCount"), (0, u "I"), (64, .class_ 78), (0, u "java/util/AbstractList$Itr"), (3, .class_ 83), (0, u "java/util/AbstractList$ListItr"), (9, .class_ 94), (0, u "java/util/AbstractList$RandomAccessSubList"), (3, .class_ 99), (0, u "java/util/AbstractList$SubList"), (33, .class_ 134), (0, u "java/util/List"), (73, .class_ 209), (0, u "java/util/AbstractList$SubList$1"), (0, .class_ 211), (0, u "java/util/AbstractList$RandomAccessSpliterator")] 6

def k14c0 : Code := { maxStack := 2, maxLocals := 1, code := jdk_39_method_1_code, exceptionTable := #[], attributes := #[] }
def k14m0 : Method := { name := "<init>", desc := "()V", sig := { parameters := [], returnType := none }, accessFlags := 4, code := some k14c0 }
/-- java/util/AbstractList -/
def k14 : Class := { plain "java/util/AbstractList" (some 11) with
  accessFlags := 1057
  interfaces := #[13]
  cf := some (fileOf pool14 8 #[.nestMembers #[93, 98, 208, 210, 82, 77]] #[{ accessFlags := 4, nameIndex := 5, descriptorIndex := 6, attributes := #[] }] 1057 2 #[133] #[{ accessFlags := 132, nameIndex := 11, descriptorIndex := 12, attributes := #[] }])
  fields := #[{ name := "modCount", type := .int, accessFlags := 132, slot := 0, constantValue := 0 }]
  methods := #[k14m0]
  instanceTypes := #[.int]
  staticTypes := #[]
  resolved := Array.replicate 218 none
  statics := none }

def pool15 : Array CpInfo := pool [(1, .class_ 2), (0, u "java/util/RandomAccess"), (0, .class_ 4), (0, u "java/lang/Object")] 2

/-- java/util/RandomAccess -/
def k15 : Class := { plain "java/util/RandomAccess" (some 0) with
  accessFlags := 1537
  interfaces := #[]
  cf := some (fileOf pool15 1 #[] #[] 1537 3 #[] #[])
  fields := #[]
  methods := #[]
  instanceTypes := #[]
  staticTypes := #[]
  resolved := Array.replicate 7 none
  statics := none }

def pool16 : Array CpInfo := pool [(1, .methodref 2 3), (0, .class_ 4), (0, .nameAndType 5 6), (0, u "com/example/rivet_context/rivetcontext/factory/TypeListing"), (0, u "<init>"), (0, u "([Ljava/lang/String;[III[I)V"), (0, .methodref 8 9), (0, .class_ 10), (0, .nameAndType 5 11), (0, u "java/util/AbstractList"), (0, u "()V"), (0, .fieldref 2 13), (0, .nameAndType 14 15), (0, u "registered"), (0, u "[Ljava/lang/String;"), (0, .fieldref 2 17), (0, .nameAndType 18 19), (0, u "places"), (0, u "[I"), (0, .fieldref 2 21), (0, .nameAndType 22 23), (0, u "count"), (0, u "I"), (0, .fieldref 2 25), (0, .nameAndType 26 23), (0, u "ordered"), (0, .fieldref 2 28), (0, .nameAndType 29 19), (0, u "written"), (0, .fieldref 2 31), (0, .nameAndType 32 33), (0, u "inPlace"), (0, u "Lcom/example/rivet_context/rivetcontext/factory/TypeListing;"), (0, .methodref 2 35), (0, .nameAndType 36 37), (0, u "extendedBy"), (0, u "(I)Lcom/example/rivet_context/rivetcontext/factory/TypeListing;"), (0, .methodref 39 40), (0, .class_ 41), (0, .nameAndType 42 43), (0, u "java/util/Arrays"), (0, u "binarySearch"), (0, u "([IIII)I"), (0, .methodref 39 45), (0, .nameAndType 46 47), (0, u "copyOf"), (0, u "([II)[I"), (0, .methodref 2 49), (0, .nameAndType 50 51), (0, u "putInPlace"), (0, u "()Lcom/example/rivet_context/rivetcontext/factory/TypeListing;"), (0, .methodref 39 53), (0, .nameAndType 54 55), (0, u "copyOfRange"), (0, u "([III)[I"), (0, .methodref 39 57), (0, .nameAndType 58 59), (0, u "sort"), (0, u "([I)V"), (0, .methodref 61 62), (0, .class_ 63), (0, .nameAndType 64 65), (0, u "java/util/Objects"), (0, u "checkIndex"), (0, u "(II)I"), (2, u "get"), (0, u "(I)Ljava/lang/String;"), (0, .class_ 71), (0, u "java/util/RandomAccess"), (0, u "([Ljava/lang/String;I)V"), (2, u "with"), (3, u "size"), (0, u "()I")] 6

def k16c0 : Code := { maxStack := 9, maxLocals := 3, code := prog_105_method_1_code, exceptionTable := #[], attributes := #[] }
def k16m0 : Method := { name := "<init>", desc := "([Ljava/lang/String;I)V", sig := { parameters := [(.array (.object "java/lang/String")), .int], returnType := none }, accessFlags := 0, code := some k16c0 }
def k16c1 : Code := { maxStack := 2, maxLocals := 6, code := prog_105_method_2_code, exceptionTable := #[], attributes := #[] }
def k16m1 : Method := { name := "<init>", desc := "([Ljava/lang/String;[III[I)V", sig := { parameters := [(.array (.object "java/lang/String")), (.array .int), .int, .int, (.array .int)], returnType := none }, accessFlags := 2, code := some k16c1 }
def k16c2 : Code := { maxStack := 2, maxLocals := 3, code := prog_105_method_3_code, exceptionTable := #[], attributes := #[] }
def k16m2 : Method := { name := "with", desc := "(I)Lcom/example/rivet_context/rivetcontext/factory/TypeListing;", sig := { parameters := [.int], returnType := some (.object "com/example/rivet_context/rivetcontext/factory/TypeListing") }, accessFlags := 0, code := some k16c2 }
def k16c3 : Code := { maxStack := 7, maxLocals := 6, code := prog_105_method_4_code, exceptionTable := #[], attributes := #[] }
def k16m3 : Method := { name := "extendedBy", desc := "(I)Lcom/example/rivet_context/rivetcontext/factory/TypeListing;", sig := { parameters := [.int], returnType := some (.object "com/example/rivet_context/rivetcontext/factory/TypeListing") }, accessFlags := 2, code := some k16c3 }
def k16c4 : Code := { maxStack := 2, maxLocals := 2, code := prog_105_method_5_code, exceptionTable := #[], attributes := #[] }
def k16m4 : Method := { name := "ordered", desc := "()Lcom/example/rivet_context/rivetcontext/factory/TypeListing;", sig := { parameters := [], returnType := some (.object "com/example/rivet_context/rivetcontext/factory/TypeListing") }, accessFlags := 0, code := some k16c4 }
def k16c5 : Code := { maxStack := 10, maxLocals := 7, code := prog_105_method_6_code, exceptionTable := #[], attributes := #[] }
def k16m5 : Method := { name := "putInPlace", desc := "()Lcom/example/rivet_context/rivetcontext/factory/TypeListing;", sig := { parameters := [], returnType := some (.object "com/example/rivet_context/rivetcontext/factory/TypeListing") }, accessFlags := 2, code := some k16c5 }
def k16c6 : Code := { maxStack := 4, maxLocals := 2, code := prog_105_method_7_code, exceptionTable := #[], attributes := #[] }
def k16m6 : Method := { name := "get", desc := "(I)Ljava/lang/String;", sig := { parameters := [.int], returnType := some (.object "java/lang/String") }, accessFlags := 1, code := some k16c6 }
def k16c7 : Code := { maxStack := 1, maxLocals := 1, code := prog_105_method_8_code, exceptionTable := #[], attributes := #[] }
def k16m7 : Method := { name := "size", desc := "()I", sig := { parameters := [], returnType := some .int }, accessFlags := 1, code := some k16c7 }
/-- com/example/rivet_context/rivetcontext/factory/TypeListing -/
def k16 : Class := { plain "com/example/rivet_context/rivetcontext/factory/TypeListing" (some 14) with
  accessFlags := 32
  interfaces := #[15]
  cf := some (fileOf pool16 2 #[] #[{ accessFlags := 0, nameIndex := 5, descriptorIndex := 72, attributes := #[] }, { accessFlags := 2, nameIndex := 5, descriptorIndex := 6, attributes := #[] }, { accessFlags := 0, nameIndex := 75, descriptorIndex := 37, attributes := #[] }, { accessFlags := 2, nameIndex := 36, descriptorIndex := 37, attributes := #[] }, { accessFlags := 0, nameIndex := 26, descriptorIndex := 51, attributes := #[] }, { accessFlags := 2, nameIndex := 50, descriptorIndex := 51, attributes := #[] }, { accessFlags := 1, nameIndex := 68, descriptorIndex := 69, attributes := #[] }, { accessFlags := 1, nameIndex := 79, descriptorIndex := 80, attributes := #[] }] 32 8 #[70] #[{ accessFlags := 18, nameIndex := 14, descriptorIndex := 15, attributes := #[] }, { accessFlags := 18, nameIndex := 18, descriptorIndex := 19, attributes := #[] }, { accessFlags := 18, nameIndex := 22, descriptorIndex := 23, attributes := #[] }, { accessFlags := 18, nameIndex := 26, descriptorIndex := 23, attributes := #[] }, { accessFlags := 18, nameIndex := 29, descriptorIndex := 19, attributes := #[] }, { accessFlags := 66, nameIndex := 32, descriptorIndex := 33, attributes := #[] }])
  fields := #[{ name := "registered", type := (.array (.object "java/lang/String")), accessFlags := 18, slot := 1, constantValue := 0 }, { name := "places", type := (.array .int), accessFlags := 18, slot := 2, constantValue := 0 }, { name := "count", type := .int, accessFlags := 18, slot := 3, constantValue := 0 }, { name := "ordered", type := .int, accessFlags := 18, slot := 4, constantValue := 0 }, { name := "written", type := (.array .int), accessFlags := 18, slot := 5, constantValue := 0 }, { name := "inPlace", type := (.object "com/example/rivet_context/rivetcontext/factory/TypeListing"), accessFlags := 66, slot := 6, constantValue := 0 }]
  methods := #[k16m0, k16m1, k16m2, k16m3, k16m4, k16m5, k16m6, k16m7]
  instanceTypes := #[.int, (.array (.object "java/lang/String")), (.array .int), .int, .int, (.array .int), (.object "com/example/rivet_context/rivetcontext/factory/TypeListing")]
  staticTypes := #[]
  resolved := Array.replicate 87 none
  statics := none }

def pool17 : Array CpInfo := pool [(2, .class_ 4), (1, u "java/lang/Object"), (0, u "<init>"), (0, u "()V"), (0, .methodref 8 9), (0, .class_ 10), (0, .nameAndType 11 12), (0, u "java/util/DualPivotQuicksort"), (0, u "sort"), (0, u "([IIII)V"), (0, .methodref 14 15), (0, .class_ 16), (0, .nameAndType 17 18), (0, u "java/util/Arrays"), (0, u "rangeCheck"), (0, u "(III)V"), (55, .class_ 76), (1, u "java/util/Arrays$NaturalOrder"), (36, .class_ 115), (1, u "java/util/Arrays$LegacyMergeSort"), (1, u "Z"), (21, u "copyOfRange"), (10, .methodref 151 152), (0, .class_ 153), (0, .nameAndType 154 155), (0, u "java/lang/System"), (0, u "arraycopy"), (0, u "(Ljava/lang/Object;ILjava/lang/Object;II)V"), (51, u "binarySearch0"), (1, .methodref 14 210), (0, .nameAndType 207 211), (0, u "([IIII)I"), (90, u "copyOf"), (1, .methodref 305 306), (0, .class_ 307), (0, .nameAndType 308 309), (0, u "java/lang/Math"), (0, u "min"), (0, u "(II)I"), (33, .methodref 14 344), (0, .nameAndType 345 346), (0, u "checkLength"), (0, u "(II)V"), (4, .methodref 14 352), (0, .nameAndType 353 354), (0, u "copyOfRangeInt"), (0, u "([III)[I"), (20, .class_ 376), (0, u "java/util/Arrays$ArrayList"), (68, u "$assertionsDisabled"), (269, u "MIN_ARRAY_SORT_GRAN"), (0, u "I"), (2, u "INSERTIONSORT_THRESHOLD"), (6, u "([I)V"), (67, u "binarySearch"), (76, u "([II)[I"), (103, .class_ 976), (0, u "java/util/Arrays$ArrayItr")] 52

def k17m0 : Method := { name := "<init>", desc := "()V", sig := { parameters := [], returnType := none }, accessFlags := 2, code := none }
def k17c1 : Code := { maxStack := 4, maxLocals := 1, code := jdk_65_method_2_code, exceptionTable := #[], attributes := #[] }
def k17m1 : Method := { name := "sort", desc := "([I)V", sig := { parameters := [(.array .int)], returnType := none }, accessFlags := 9, code := some k17c1 }
def k17c2 : Code := { maxStack := 4, maxLocals := 3, code := jdk_65_method_30_code, exceptionTable := #[], attributes := #[] }
def k17m2 : Method := { name := "rangeCheck", desc := "(III)V", sig := { parameters := [.int, .int, .int], returnType := none }, accessFlags := 8, code := some k17c2 }
def k17c3 : Code := { maxStack := 4, maxLocals := 4, code := jdk_65_method_58_code, exceptionTable := #[], attributes := #[] }
def k17m3 : Method := { name := "binarySearch", desc := "([IIII)I", sig := { parameters := [(.array .int), .int, .int, .int], returnType := some .int }, accessFlags := 9, code := some k17c3 }
def k17c4 : Code := { maxStack := 2, maxLocals := 8, code := jdk_65_method_59_code, exceptionTable := #[], attributes := #[] }
def k17m4 : Method := { name := "binarySearch0", desc := "([IIII)I", sig := { parameters := [(.array .int), .int, .int, .int], returnType := some .int }, accessFlags := 10, code := some k17c4 }
def k17c5 : Code := { maxStack := 6, maxLocals := 3, code := jdk_65_method_123_code, exceptionTable := #[], attributes := #[] }
def k17m5 : Method := { name := "copyOf", desc := "([II)[I", sig := { parameters := [(.array .int), .int], returnType := some (.array .int) }, accessFlags := 9, code := some k17c5 }
def k17c6 : Code := { maxStack := 4, maxLocals := 2, code := jdk_65_method_131_code, exceptionTable := #[], attributes := #[] }
def k17m6 : Method := { name := "checkLength", desc := "(II)V", sig := { parameters := [.int, .int], returnType := none }, accessFlags := 10, code := some k17c6 }
def k17c7 : Code := { maxStack := 3, maxLocals := 3, code := jdk_65_method_136_code, exceptionTable := #[], attributes := #[] }
def k17m7 : Method := { name := "copyOfRange", desc := "([III)[I", sig := { parameters := [(.array .int), .int, .int], returnType := some (.array .int) }, accessFlags := 9, code := some k17c7 }
def k17c8 : Code := { maxStack := 6, maxLocals := 5, code := jdk_65_method_137_code, exceptionTable := #[], attributes := #[] }
def k17m8 : Method := { name := "copyOfRangeInt", desc := "([III)[I", sig := { parameters := [(.array .int), .int, .int], returnType := some (.array .int) }, accessFlags := 10, code := some k17c8 }
/-- java/util/Arrays -/
def k17 : Class := { plain "java/util/Arrays" (some 0) with
  accessFlags := 49
  interfaces := #[]
  cf := some (fileOf pool17 14 #[.nestMembers #[975, 375, 113, 74]] #[{ accessFlags := 2, nameIndex := 5, descriptorIndex := 6, attributes := #[] }, { accessFlags := 9, nameIndex := 11, descriptorIndex := 726, attributes := #[] }, { accessFlags := 8, nameIndex := 17, descriptorIndex := 18, attributes := #[] }, { accessFlags := 9, nameIndex := 794, descriptorIndex := 211, attributes := #[] }, { accessFlags := 10, nameIndex := 207, descriptorIndex := 211, attributes := #[] }, { accessFlags := 9, nameIndex := 302, descriptorIndex := 871, attributes := #[] }, { accessFlags := 10, nameIndex := 345, descriptorIndex := 346, attributes := #[] }, { accessFlags := 9, nameIndex := 139, descriptorIndex := 354, attributes := #[] }, { accessFlags := 10, nameIndex := 353, descriptorIndex := 354, attributes := #[] }] 49 2 #[] #[{ accessFlags := 26, nameIndex := 715, descriptorIndex := 716, attributes := #[] }, { accessFlags := 26, nameIndex := 719, descriptorIndex := 716, attributes := #[] }, { accessFlags := 4120, nameIndex := 445, descriptorIndex := 117, attributes := #[] }])
  fields := #[{ name := "MIN_ARRAY_SORT_GRAN", type := .int, accessFlags := 26, slot := 0, constantValue := 0 }, { name := "INSERTIONSORT_THRESHOLD", type := .int, accessFlags := 26, slot := 1, constantValue := 0 }, { name := "$assertionsDisabled", type := .boolean, accessFlags := 4120, slot := 2, constantValue := 0 }]
  methods := #[k17m0, k17m1, k17m2, k17m3, k17m4, k17m5, k17m6, k17m7, k17m8]
  instanceTypes := #[]
  staticTypes := #[.int, .int, .boolean]
  resolved := Array.replicate 1029 none
  statics := none }

def pool18 : Array CpInfo := pool [(1, .class_ 2), (0, u "java/lang/Math"), (1, .class_ 6), (1, u "java/lang/Object"), (0, u "<init>"), (0, u "()V"), (89, .class_ 100), (1, u "java/lang/Math$RandomNumberGeneratorHolder"), (71, u "negativeZeroFloatBits"), (0, u "J"), (2, u "negativeZeroDoubleBits"), (24, u "min"), (43, u "$assertionsDisabled"), (0, u "Z"), (88, u "(II)I"), (2, u "twoToTheDoubleScaleDown"), (0, u "D"), (4, u "twoToTheDoubleScaleUp"), (9, u "E"), (3, u "PI"), (2, u "TAU"), (2, u "DEGREES_TO_RADIANS"), (0, u "RADIANS_TO_DEGREES")] 94

def k18m0 : Method := { name := "<init>", desc := "()V", sig := { parameters := [], returnType := none }, accessFlags := 2, code := none }
def k18c1 : Code := { maxStack := 2, maxLocals := 2, code := jdk_29_method_69_code, exceptionTable := #[], attributes := #[] }
def k18m1 : Method := { name := "min", desc := "(II)I", sig := { parameters := [.int, .int], returnType := some .int }, accessFlags := 9, code := some k18c1 }
/-- java/lang/Math -/
def k18 : Class := { plain "java/lang/Math" (some 0) with
  accessFlags := 49
  interfaces := #[]
  cf := some (fileOf pool18 1 #[.nestMembers #[98]] #[{ accessFlags := 2, nameIndex := 7, descriptorIndex := 8, attributes := #[] }, { accessFlags := 9, nameIndex := 201, descriptorIndex := 335, attributes := #[] }] 49 4 #[] #[{ accessFlags := 25, nameIndex := 354, descriptorIndex := 339, attributes := #[] }, { accessFlags := 25, nameIndex := 358, descriptorIndex := 339, attributes := #[] }, { accessFlags := 25, nameIndex := 361, descriptorIndex := 339, attributes := #[] }, { accessFlags := 26, nameIndex := 364, descriptorIndex := 339, attributes := #[] }, { accessFlags := 26, nameIndex := 365, descriptorIndex := 339, attributes := #[] }, { accessFlags := 26, nameIndex := 172, descriptorIndex := 173, attributes := #[] }, { accessFlags := 26, nameIndex := 176, descriptorIndex := 173, attributes := #[] }, { accessFlags := 8, nameIndex := 344, descriptorIndex := 339, attributes := #[] }, { accessFlags := 8, nameIndex := 338, descriptorIndex := 339, attributes := #[] }, { accessFlags := 4120, nameIndex := 245, descriptorIndex := 246, attributes := #[] }])
  fields := #[{ name := "E", type := .double, accessFlags := 25, slot := 0, constantValue := 0 }, { name := "PI", type := .double, accessFlags := 25, slot := 1, constantValue := 0 }, { name := "TAU", type := .double, accessFlags := 25, slot := 2, constantValue := 0 }, { name := "DEGREES_TO_RADIANS", type := .double, accessFlags := 26, slot := 3, constantValue := 0 }, { name := "RADIANS_TO_DEGREES", type := .double, accessFlags := 26, slot := 4, constantValue := 0 }, { name := "negativeZeroFloatBits", type := .long, accessFlags := 26, slot := 5, constantValue := 0 }, { name := "negativeZeroDoubleBits", type := .long, accessFlags := 26, slot := 6, constantValue := 0 }, { name := "twoToTheDoubleScaleUp", type := .double, accessFlags := 8, slot := 7, constantValue := 0 }, { name := "twoToTheDoubleScaleDown", type := .double, accessFlags := 8, slot := 8, constantValue := 0 }, { name := "$assertionsDisabled", type := .boolean, accessFlags := 4120, slot := 9, constantValue := 0 }]
  methods := #[k18m0, k18m1]
  instanceTypes := #[]
  staticTypes := #[.double, .double, .double, .double, .double, .long, .long, .double, .double, .boolean]
  resolved := Array.replicate 460 none
  statics := none }

def pool19 : Array CpInfo := pool [(2, .class_ 4), (1, u "java/lang/Object"), (0, u "<init>"), (0, u "()V"), (1, .class_ 10), (1, u "java/lang/System"), (0, u "allowSecurityManager"), (0, u "I"), (16, u "cons"), (0, u "Ljava/io/Console;"), (77, .class_ 110), (1, u "java/lang/System$CallersHolder"), (43, u "initialErrStream"), (0, u "Ljava/io/PrintStream;"), (19, u "security"), (0, u "Ljava/lang/SecurityManager;"), (31, .class_ 209), (0, u "java/lang/System$1"), (7, u "props"), (0, u "Ljava/util/Properties;"), (2, u "lineSeparator"), (0, u "Ljava/lang/String;"), (96, .class_ 321), (1, u "java/lang/System$LoggerFinder"), (5, .class_ 328), (0, u "java/lang/System$Logger"), (67, u "err"), (2, u "out"), (91, u "notSupportedJnuEncoding"), (15, u "in"), (17, u "initialIn"), (0, u "Ljava/io/InputStream;"), (35, u "bootLayer"), (0, u "Ljava/lang/ModuleLayer;"), (99, .class_ 664), (0, u "java/lang/System$2"), (9, u "NEVER"), (2, u "MAYBE"), (49, u "arraycopy"), (0, u "(Ljava/lang/Object;ILjava/lang/Object;II)V"), (72, .class_ 802), (0, u "java/lang/System$Logger$Level")] 31

def k19m0 : Method := { name := "<init>", desc := "()V", sig := { parameters := [], returnType := none }, accessFlags := 2, code := none }
def k19m1 : Method := { name := "arraycopy", desc := "(Ljava/lang/Object;ILjava/lang/Object;II)V", sig := { parameters := [(.object "java/lang/Object"), .int, (.object "java/lang/Object"), .int, .int], returnType := none }, accessFlags := 265, code := none }
/-- java/lang/System -/
def k19 : Class := { plain "java/lang/System" (some 0) with
  accessFlags := 49
  interfaces := #[]
  cf := some (fileOf pool19 8 #[.nestMembers #[319, 327, 801, 108, 663, 208]] #[{ accessFlags := 2, nameIndex := 5, descriptorIndex := 6, attributes := #[] }, { accessFlags := 265, nameIndex := 727, descriptorIndex := 728, attributes := #[] }] 49 2 #[] #[{ accessFlags := 25, nameIndex := 507, descriptorIndex := 526, attributes := #[] }, { accessFlags := 25, nameIndex := 399, descriptorIndex := 155, attributes := #[] }, { accessFlags := 25, nameIndex := 396, descriptorIndex := 155, attributes := #[] }, { accessFlags := 10, nameIndex := 525, descriptorIndex := 526, attributes := #[] }, { accessFlags := 26, nameIndex := 674, descriptorIndex := 12, attributes := #[] }, { accessFlags := 26, nameIndex := 677, descriptorIndex := 12, attributes := #[] }, { accessFlags := 10, nameIndex := 11, descriptorIndex := 12, attributes := #[] }, { accessFlags := 74, nameIndex := 175, descriptorIndex := 176, attributes := #[] }, { accessFlags := 10, nameIndex := 491, descriptorIndex := 222, attributes := #[] }, { accessFlags := 74, nameIndex := 29, descriptorIndex := 30, attributes := #[] }, { accessFlags := 74, nameIndex := 154, descriptorIndex := 155, attributes := #[] }, { accessFlags := 10, nameIndex := 217, descriptorIndex := 218, attributes := #[] }, { accessFlags := 10, nameIndex := 221, descriptorIndex := 222, attributes := #[] }, { accessFlags := 8, nameIndex := 562, descriptorIndex := 563, attributes := #[] }])
  fields := #[{ name := "in", type := (.object "java/io/InputStream"), accessFlags := 25, slot := 0, constantValue := 0 }, { name := "out", type := (.object "java/io/PrintStream"), accessFlags := 25, slot := 1, constantValue := 0 }, { name := "err", type := (.object "java/io/PrintStream"), accessFlags := 25, slot := 2, constantValue := 0 }, { name := "initialIn", type := (.object "java/io/InputStream"), accessFlags := 10, slot := 3, constantValue := 0 }, { name := "NEVER", type := .int, accessFlags := 26, slot := 4, constantValue := 0 }, { name := "MAYBE", type := .int, accessFlags := 26, slot := 5, constantValue := 0 }, { name := "allowSecurityManager", type := .int, accessFlags := 10, slot := 6, constantValue := 0 }, { name := "security", type := (.object "java/lang/SecurityManager"), accessFlags := 74, slot := 7, constantValue := 0 }, { name := "notSupportedJnuEncoding", type := (.object "java/lang/String"), accessFlags := 10, slot := 8, constantValue := 0 }, { name := "cons", type := (.object "java/io/Console"), accessFlags := 74, slot := 9, constantValue := 0 }, { name := "initialErrStream", type := (.object "java/io/PrintStream"), accessFlags := 74, slot := 10, constantValue := 0 }, { name := "props", type := (.object "java/util/Properties"), accessFlags := 10, slot := 11, constantValue := 0 }, { name := "lineSeparator", type := (.object "java/lang/String"), accessFlags := 10, slot := 12, constantValue := 0 }, { name := "bootLayer", type := (.object "java/lang/ModuleLayer"), accessFlags := 8, slot := 13, constantValue := 0 }]
  methods := #[k19m0, k19m1]
  instanceTypes := #[]
  staticTypes := #[(.object "java/io/InputStream"), (.object "java/io/PrintStream"), (.object "java/io/PrintStream"), (.object "java/io/InputStream"), .int, .int, .int, (.object "java/lang/SecurityManager"), (.object "java/lang/String"), (.object "java/io/Console"), (.object "java/io/PrintStream"), (.object "java/util/Properties"), (.object "java/lang/String"), (.object "java/lang/ModuleLayer")]
  resolved := Array.replicate 834 none
  statics := none }

def pool20 : Array CpInfo := pool [(2, .class_ 4), (1, u "java/lang/Object"), (0, u "<init>"), (0, u "()V"), (35, .class_ 44), (1, u "java/util/Objects"), (60, .methodref 106 107), (0, .class_ 108), (0, .nameAndType 109 110), (0, u "jdk/internal/util/Preconditions"), (0, u "checkIndex"), (0, u "(IILjava/util/function/BiFunction;)I"), (60, u "(II)I")] 12

def k20m0 : Method := { name := "<init>", desc := "()V", sig := { parameters := [], returnType := none }, accessFlags := 2, code := none }
def k20c1 : Code := { maxStack := 3, maxLocals := 2, code := jdk_31_method_17_code, exceptionTable := #[], attributes := #[] }
def k20m1 : Method := { name := "checkIndex", desc := "(II)I", sig := { parameters := [.int, .int], returnType := some .int }, accessFlags := 9, code := some k20c1 }
/-- java/util/Objects -/
def k20 : Class := { plain "java/util/Objects" (some 0) with
  accessFlags := 49
  interfaces := #[]
  cf := some (fileOf pool20 42 #[] #[{ accessFlags := 2, nameIndex := 5, descriptorIndex := 6, attributes := #[] }, { accessFlags := 9, nameIndex := 109, descriptorIndex := 171, attributes := #[] }] 49 2 #[] #[])
  fields := #[]
  methods := #[k20m0, k20m1]
  instanceTypes := #[]
  staticTypes := #[]
  resolved := Array.replicate 184 none
  statics := none }

def pool21 : Array CpInfo := pool [(2, .class_ 4), (1, u "java/lang/Object"), (0, u "<init>"), (0, u "()V"), (17, .class_ 26), (1, u "jdk/internal/util/Preconditions"), (6, u "checkIndex"), (21, .class_ 56), (0, u "jdk/internal/util/Preconditions$4"), (57, .class_ 115), (0, u "jdk/internal/util/Preconditions$1"), (7, u "SIOOBE_FORMATTER"), (0, u "Ljava/util/function/BiFunction;"), (0, .class_ 126), (0, u "jdk/internal/util/Preconditions$2"), (3, u "AIOOBE_FORMATTER"), (0, .class_ 132), (0, u "jdk/internal/util/Preconditions$3"), (3, u "IOOBE_FORMATTER"), (41, u "(IILjava/util/function/BiFunction;)I")] 15

def k21m0 : Method := { name := "<init>", desc := "()V", sig := { parameters := [], returnType := none }, accessFlags := 1, code := none }
def k21c1 : Code := { maxStack := 3, maxLocals := 3, code := jdk_41_method_11_code, exceptionTable := #[], attributes := #[] }
def k21m1 : Method := { name := "checkIndex", desc := "(IILjava/util/function/BiFunction;)I", sig := { parameters := [.int, .int, (.object "java/util/function/BiFunction")], returnType := some .int }, accessFlags := 9, code := some k21c1 }
/-- jdk/internal/util/Preconditions -/
def k21 : Class := { plain "jdk/internal/util/Preconditions" (some 0) with
  accessFlags := 33
  interfaces := #[]
  cf := some (fileOf pool21 24 #[.nestMembers #[55, 131, 125, 114]] #[{ accessFlags := 1, nameIndex := 5, descriptorIndex := 6, attributes := #[] }, { accessFlags := 9, nameIndex := 33, descriptorIndex := 178, attributes := #[] }] 33 2 #[] #[{ accessFlags := 25, nameIndex := 123, descriptorIndex := 124, attributes := #[] }, { accessFlags := 25, nameIndex := 130, descriptorIndex := 124, attributes := #[] }, { accessFlags := 25, nameIndex := 136, descriptorIndex := 124, attributes := #[] }])
  fields := #[{ name := "SIOOBE_FORMATTER", type := (.object "java/util/function/BiFunction"), accessFlags := 25, slot := 0, constantValue := 0 }, { name := "AIOOBE_FORMATTER", type := (.object "java/util/function/BiFunction"), accessFlags := 25, slot := 1, constantValue := 0 }, { name := "IOOBE_FORMATTER", type := (.object "java/util/function/BiFunction"), accessFlags := 25, slot := 2, constantValue := 0 }]
  methods := #[k21m0, k21m1]
  instanceTypes := #[]
  staticTypes := #[(.object "java/util/function/BiFunction"), (.object "java/util/function/BiFunction"), (.object "java/util/function/BiFunction")]
  resolved := Array.replicate 194 none
  statics := some 1 }

def pool22 : Array CpInfo := pool [(1, .class_ 2), (0, u "java/util/DualPivotQuicksort"), (5, .class_ 10), (1, u "java/lang/Object"), (0, u "<init>"), (0, u "()V"), (4, .class_ 18), (0, u "java/util/DualPivotQuicksort$Sorter"), (7, .methodref 1 27), (0, .nameAndType 28 29), (0, u "sort"), (0, u "(Ljava/util/DualPivotQuicksort$Sorter;[IIII)V"), (3, u "([IIII)V"), (0, .methodref 1 35), (0, .nameAndType 36 37), (0, u "insertionSort"), (0, u "([III)V"), (30, u "I"), (4, .class_ 74), (0, u "java/util/DualPivotQuicksort$RunMerger"), (10, .class_ 86), (0, u "java/util/DualPivotQuicksort$Merger"), (127, u "MAX_MIXED_INSERTION_SORT_SIZE"), (2, u "MAX_INSERTION_SORT_SIZE"), (1, u "MIN_PARALLEL_SORT_SIZE"), (1, u "MIN_TRY_MERGE_SIZE"), (0, u "MIN_FIRST_RUN_SIZE"), (1, u "MIN_FIRST_RUNS_FACTOR"), (1, u "MAX_RUN_CAPACITY"), (1, u "MIN_RUN_COUNT"), (1, u "MIN_PARALLEL_MERGE_PARTS_SIZE"), (0, u "MIN_BYTE_COUNTING_SORT_SIZE"), (1, u "MIN_SHORT_OR_CHAR_COUNTING_SORT_SIZE"), (1, u "DELTA"), (1, u "MAX_RECURSION_DEPTH"), (1, u "NUM_BYTE_VALUES"), (1, u "MAX_BYTE_INDEX"), (0, u "NUM_CHAR_VALUES"), (0, u "NUM_SHORT_VALUES"), (0, u "MAX_SHORT_INDEX")] 86

def k22m0 : Method := { name := "<init>", desc := "()V", sig := { parameters := [], returnType := none }, accessFlags := 2, code := none }
def k22c1 : Code := { maxStack := 9, maxLocals := 7, code := jdk_2529_method_3_code, exceptionTable := #[], attributes := #[] }
def k22m1 : Method := { name := "sort", desc := "([IIII)V", sig := { parameters := [(.array .int), .int, .int, .int], returnType := none }, accessFlags := 8, code := some k22c1 }
def k22c2 : Code := { maxStack := 6, maxLocals := 21, code := jdk_2529_method_4_code, exceptionTable := #[], attributes := #[] }
def k22m2 : Method := { name := "sort", desc := "(Ljava/util/DualPivotQuicksort$Sorter;[IIII)V", sig := { parameters := [(.object "java/util/DualPivotQuicksort$Sorter"), (.array .int), .int, .int, .int], returnType := none }, accessFlags := 8, code := some k22c2 }
def k22c3 : Code := { maxStack := 4, maxLocals := 6, code := jdk_2529_method_6_code, exceptionTable := #[], attributes := #[] }
def k22m3 : Method := { name := "insertionSort", desc := "([III)V", sig := { parameters := [(.array .int), .int, .int], returnType := none }, accessFlags := 10, code := some k22c3 }
/-- java/util/DualPivotQuicksort -/
def k22 : Class := { plain "java/util/DualPivotQuicksort" (some 0) with
  accessFlags := 48
  interfaces := #[]
  cf := some (fileOf pool22 1 #[.nestMembers #[73, 85, 17]] #[{ accessFlags := 2, nameIndex := 11, descriptorIndex := 12, attributes := #[] }, { accessFlags := 8, nameIndex := 28, descriptorIndex := 33, attributes := #[] }, { accessFlags := 8, nameIndex := 28, descriptorIndex := 29, attributes := #[] }, { accessFlags := 10, nameIndex := 36, descriptorIndex := 37, attributes := #[] }] 48 8 #[] #[{ accessFlags := 26, nameIndex := 214, descriptorIndex := 68, attributes := #[] }, { accessFlags := 26, nameIndex := 217, descriptorIndex := 68, attributes := #[] }, { accessFlags := 26, nameIndex := 219, descriptorIndex := 68, attributes := #[] }, { accessFlags := 26, nameIndex := 221, descriptorIndex := 68, attributes := #[] }, { accessFlags := 26, nameIndex := 222, descriptorIndex := 68, attributes := #[] }, { accessFlags := 26, nameIndex := 224, descriptorIndex := 68, attributes := #[] }, { accessFlags := 26, nameIndex := 226, descriptorIndex := 68, attributes := #[] }, { accessFlags := 26, nameIndex := 228, descriptorIndex := 68, attributes := #[] }, { accessFlags := 26, nameIndex := 230, descriptorIndex := 68, attributes := #[] }, { accessFlags := 26, nameIndex := 231, descriptorIndex := 68, attributes := #[] }, { accessFlags := 26, nameIndex := 233, descriptorIndex := 68, attributes := #[] }, { accessFlags := 26, nameIndex := 235, descriptorIndex := 68, attributes := #[] }, { accessFlags := 26, nameIndex := 237, descriptorIndex := 68, attributes := #[] }, { accessFlags := 26, nameIndex := 239, descriptorIndex := 68, attributes := #[] }, { accessFlags := 26, nameIndex := 241, descriptorIndex := 68, attributes := #[] }, { accessFlags := 26, nameIndex := 242, descriptorIndex := 68, attributes := #[] }, { accessFlags := 26, nameIndex := 243, descriptorIndex := 68, attributes := #[] }, { accessFlags := 26, nameIndex := 244, descriptorIndex := 68, attributes := #[] }])
  fields := #[{ name := "MAX_MIXED_INSERTION_SORT_SIZE", type := .int, accessFlags := 26, slot := 0, constantValue := 0 }, { name := "MAX_INSERTION_SORT_SIZE", type := .int, accessFlags := 26, slot := 1, constantValue := 0 }, { name := "MIN_PARALLEL_SORT_SIZE", type := .int, accessFlags := 26, slot := 2, constantValue := 0 }, { name := "MIN_TRY_MERGE_SIZE", type := .int, accessFlags := 26, slot := 3, constantValue := 0 }, { name := "MIN_FIRST_RUN_SIZE", type := .int, accessFlags := 26, slot := 4, constantValue := 0 }, { name := "MIN_FIRST_RUNS_FACTOR", type := .int, accessFlags := 26, slot := 5, constantValue := 0 }, { name := "MAX_RUN_CAPACITY", type := .int, accessFlags := 26, slot := 6, constantValue := 0 }, { name := "MIN_RUN_COUNT", type := .int, accessFlags := 26, slot := 7, constantValue := 0 }, { name := "MIN_PARALLEL_MERGE_PARTS_SIZE", type := .int, accessFlags := 26, slot := 8, constantValue := 0 }, { name := "MIN_BYTE_COUNTING_SORT_SIZE", type := .int, accessFlags := 26, slot := 9, constantValue := 0 }, { name := "MIN_SHORT_OR_CHAR_COUNTING_SORT_SIZE", type := .int, accessFlags := 26, slot := 10, constantValue := 0 }, { name := "DELTA", type := .int, accessFlags := 26, slot := 11, constantValue := 0 }, { name := "MAX_RECURSION_DEPTH", type := .int, accessFlags := 26, slot := 12, constantValue := 0 }, { name := "NUM_BYTE_VALUES", type := .int, accessFlags := 26, slot := 13, constantValue := 0 }, { name := "MAX_BYTE_INDEX", type := .int, accessFlags := 26, slot := 14, constantValue := 0 }, { name := "NUM_CHAR_VALUES", type := .int, accessFlags := 26, slot := 15, constantValue := 0 }, { name := "NUM_SHORT_VALUES", type := .int, accessFlags := 26, slot := 16, constantValue := 0 }, { name := "MAX_SHORT_INDEX", type := .int, accessFlags := 26, slot := 17, constantValue := 0 }]
  methods := #[k22m0, k22m1, k22m2, k22m3]
  instanceTypes := #[]
  staticTypes := #[.int, .int, .int, .int, .int, .int, .int, .int, .int, .int, .int, .int, .int, .int, .int, .int, .int, .int]
  resolved := Array.replicate 331 none
  statics := none }

def pool23 : Array CpInfo := pool [(9, u "<init>"), (6, .class_ 18), (1, u "java/lang/Object"), (0, u "()V"), (1, .class_ 23), (1, u "jdk/internal/util/ArraysSupport"), (0, u "LOG2_ARRAY_LONG_INDEX_SCALE"), (0, u "I"), (2, u "U"), (0, u "Ljdk/internal/misc/Unsafe;"), (8, u "BIG_ENDIAN"), (0, u "Z"), (8, u "LOG2_BYTE_BIT_SIZE"), (4, u "LOG2_ARRAY_INT_INDEX_SCALE"), (54, u "JLA"), (0, u "Ljdk/internal/access/JavaLangAccess;"), (11, u "LOG2_ARRAY_BOOLEAN_INDEX_SCALE"), (9, u "LOG2_ARRAY_BYTE_INDEX_SCALE"), (5, u "LOG2_ARRAY_CHAR_INDEX_SCALE"), (5, u "LOG2_ARRAY_SHORT_INDEX_SCALE"), (18, u "LOG2_ARRAY_FLOAT_INDEX_SCALE"), (24, u "LOG2_ARRAY_DOUBLE_INDEX_SCALE"), (89, u "T_BOOLEAN"), (2, u "T_CHAR"), (1, u "T_FLOAT"), (1, u "T_DOUBLE"), (1, u "T_BYTE"), (1, u "T_SHORT"), (1, u "T_INT"), (1, u "T_LONG"), (1, u "SOFT_MAX_ARRAY_LENGTH")] 83

def k23m0 : Method := { name := "<init>", desc := "()V", sig := { parameters := [], returnType := none }, accessFlags := 2, code := none }
/-- jdk/internal/util/ArraysSupport -/
def k23 : Class := { plain "jdk/internal/util/ArraysSupport" (some 0) with
  accessFlags := 33
  interfaces := #[]
  cf := some (fileOf pool23 21 #[] #[{ accessFlags := 2, nameIndex := 9, descriptorIndex := 19, attributes := #[] }] 33 16 #[] #[{ accessFlags := 24, nameIndex := 28, descriptorIndex := 29, attributes := #[] }, { accessFlags := 26, nameIndex := 38, descriptorIndex := 39, attributes := #[] }, { accessFlags := 25, nameIndex := 121, descriptorIndex := 25, attributes := #[] }, { accessFlags := 25, nameIndex := 131, descriptorIndex := 25, attributes := #[] }, { accessFlags := 25, nameIndex := 137, descriptorIndex := 25, attributes := #[] }, { accessFlags := 25, nameIndex := 143, descriptorIndex := 25, attributes := #[] }, { accessFlags := 25, nameIndex := 53, descriptorIndex := 25, attributes := #[] }, { accessFlags := 25, nameIndex := 24, descriptorIndex := 25, attributes := #[] }, { accessFlags := 25, nameIndex := 162, descriptorIndex := 25, attributes := #[] }, { accessFlags := 25, nameIndex := 187, descriptorIndex := 25, attributes := #[] }, { accessFlags := 26, nameIndex := 48, descriptorIndex := 25, attributes := #[] }, { accessFlags := 25, nameIndex := 277, descriptorIndex := 25, attributes := #[] }, { accessFlags := 25, nameIndex := 280, descriptorIndex := 25, attributes := #[] }, { accessFlags := 25, nameIndex := 282, descriptorIndex := 25, attributes := #[] }, { accessFlags := 25, nameIndex := 284, descriptorIndex := 25, attributes := #[] }, { accessFlags := 25, nameIndex := 286, descriptorIndex := 25, attributes := #[] }, { accessFlags := 25, nameIndex := 288, descriptorIndex := 25, attributes := #[] }, { accessFlags := 25, nameIndex := 290, descriptorIndex := 25, attributes := #[] }, { accessFlags := 25, nameIndex := 292, descriptorIndex := 25, attributes := #[] }, { accessFlags := 26, nameIndex := 108, descriptorIndex := 109, attributes := #[] }, { accessFlags := 25, nameIndex := 294, descriptorIndex := 25, attributes := #[] }])
  fields := #[{ name := "U", type := (.object "jdk/internal/misc/Unsafe"), accessFlags := 24, slot := 0, constantValue := 0 }, { name := "BIG_ENDIAN", type := .boolean, accessFlags := 26, slot := 1, constantValue := 0 }, { name := "LOG2_ARRAY_BOOLEAN_INDEX_SCALE", type := .int, accessFlags := 25, slot := 2, constantValue := 0 }, { name := "LOG2_ARRAY_BYTE_INDEX_SCALE", type := .int, accessFlags := 25, slot := 3, constantValue := 0 }, { name := "LOG2_ARRAY_CHAR_INDEX_SCALE", type := .int, accessFlags := 25, slot := 4, constantValue := 0 }, { name := "LOG2_ARRAY_SHORT_INDEX_SCALE", type := .int, accessFlags := 25, slot := 5, constantValue := 0 }, { name := "LOG2_ARRAY_INT_INDEX_SCALE", type := .int, accessFlags := 25, slot := 6, constantValue := 0 }, { name := "LOG2_ARRAY_LONG_INDEX_SCALE", type := .int, accessFlags := 25, slot := 7, constantValue := 0 }, { name := "LOG2_ARRAY_FLOAT_INDEX_SCALE", type := .int, accessFlags := 25, slot := 8, constantValue := 0 }, { name := "LOG2_ARRAY_DOUBLE_INDEX_SCALE", type := .int, accessFlags := 25, slot := 9, constantValue := 0 }, { name := "LOG2_BYTE_BIT_SIZE", type := .int, accessFlags := 26, slot := 10, constantValue := 0 }, { name := "T_BOOLEAN", type := .int, accessFlags := 25, slot := 11, constantValue := 0 }, { name := "T_CHAR", type := .int, accessFlags := 25, slot := 12, constantValue := 0 }, { name := "T_FLOAT", type := .int, accessFlags := 25, slot := 13, constantValue := 0 }, { name := "T_DOUBLE", type := .int, accessFlags := 25, slot := 14, constantValue := 0 }, { name := "T_BYTE", type := .int, accessFlags := 25, slot := 15, constantValue := 0 }, { name := "T_SHORT", type := .int, accessFlags := 25, slot := 16, constantValue := 0 }, { name := "T_INT", type := .int, accessFlags := 25, slot := 17, constantValue := 0 }, { name := "T_LONG", type := .int, accessFlags := 25, slot := 18, constantValue := 0 }, { name := "JLA", type := (.object "jdk/internal/access/JavaLangAccess"), accessFlags := 26, slot := 19, constantValue := 0 }, { name := "SOFT_MAX_ARRAY_LENGTH", type := .int, accessFlags := 25, slot := 20, constantValue := 0 }]
  methods := #[k23m0]
  instanceTypes := #[]
  staticTypes := #[(.object "jdk/internal/misc/Unsafe"), .boolean, .int, .int, .int, .int, .int, .int, .int, .int, .int, .int, .int, .int, .int, .int, .int, .int, .int, (.object "jdk/internal/access/JavaLangAccess"), .int]
  resolved := Array.replicate 378 none
  statics := none }

def pool24 : Array CpInfo := pool [(1, u "java/lang/Cloneable"), (0, .class_ 1), (0, u "java/lang/Object"), (0, .class_ 3)] 3

/-- java/lang/Cloneable -/
def k24 : Class := { plain "java/lang/Cloneable" (some 0) with
  accessFlags := 1537
  interfaces := #[]
  cf := some (fileOf pool24 2 #[] #[] 1537 4 #[] #[])
  fields := #[]
  methods := #[]
  instanceTypes := #[]
  staticTypes := #[]
  resolved := Array.replicate 8 none
  statics := none }

/-- the primitive byte -/
def k25 : Class := { plain "byte" none with kind := .primitive 'B', accessFlags := 0x411 }
/-- [B -/
def k26 : Class := { plain "[B" (some 0) with kind := .array 25 .byte, interfaces := #[24, 2], accessFlags := 1041 }

/-- the primitive int -/
def k27 : Class := { plain "int" none with kind := .primitive 'I', accessFlags := 0x411 }
/-- [I -/
def k28 : Class := { plain "[I" (some 0) with kind := .array 27 .int, interfaces := #[24, 2], accessFlags := 1041 }

/-- [Ljava/lang/String; -/
def k29 : Class := { plain "[Ljava/lang/String;" (some 0) with kind := .array 7 (.object "java/lang/String"), interfaces := #[24, 2], accessFlags := 1041 }

def heap : Heap := #[{ cls := 7, slots := #[.long 0, .int 1, .null, .int 0, .null, .int 0, .int 0], vm := .statics 7 },
  { cls := 21, slots := #[.null, .null, .null], vm := .statics 21 }]
def classes : Array Class := #[k0, k1, k2, k3, k4, k5, k6, k7, k8, k9, k10, k11, k12, k13, k14, k15, k16, k17, k18, k19, k20, k21, k22, k23, k24, k25, k26, k27, k28, k29]
def interned : List (Array UInt16 × Addr) := []
def slotsUsed : Nat := 10
def theMethod : MethodId := ⟨1, 2⟩
def args0 : Array Value := #[.int 5, .int 27]
def aboutOver (below : List Frame) : State where
  vm := { classes := classes, interned := interned.toArray }
  heap := heap
  slotsUsed := slotsUsed
  threads := #[{ frames := .invoking theMethod args0 :: below }]
def below0 : List Frame := [.native { method := ⟨0, 0⟩, args := #[] }]
def about1 : State := aboutOver below0
def p0 : Program := .bare "" "" ""
def e0 : Env := launch0.env 0 0 0
theorem w_frames : about1.frames = Frame.invoking theMethod args0 :: below0 := rfl
set_option maxRecDepth 65536 in
theorem w_args : argsFit about1.vm theMethod args0 = true := by decide +kernel
set_option maxRecDepth 65536 in
theorem w_heap : heapFits about1 = true := by decide +kernel
set_option maxRecDepth 65536 in
theorem w_runnable : about1.curStatus? = some .runnable := by decide +kernel
set_option maxRecDepth 65536 in
theorem w_alone : about1.alone = true := by decide +kernel
set_option maxRecDepth 65536 in
theorem w_named : about1.methodNamed? x = some theMethod := by decide +kernel
set_option maxRecDepth 65536 in
theorem w_hears : about1.hears theMethod below0 = true := by decide +kernel
set_option maxRecDepth 65536 in
theorem w_ripe : about1.ripe theMethod args0 below0 = true := by decide +kernel
theorem w_running : about1.status = .running := rfl
set_option maxRecDepth 65536 in
theorem w_room : about1.hasRoom e0.platform room_1 = true :=
  launch0.hasRoom_least _ room_1 (by decide +kernel) (by decide +kernel) (by decide +kernel) (by decide +kernel) (by decide +kernel) (by decide +kernel)
theorem allAtoms_all (ts : List Jvm.Cond) (a : Array Jvm.Value) (st : Jvm.State) : (allAtoms ts).before a st = ts.all (fun c => c.before a st) := by
  induction ts with
  | nil => rfl
  | cons c t ih =>
    show (Jvm.Cond.and c (allAtoms t)).before a st = _
    rw [Jvm.Cond.before_and, ih, List.all_cons]
def words1 : List Jvm.Cond := Jvm.Cond.code x code maxLocals ret :: tables_1
/-- a 'code' word, met by the world's own term for the bytes: nothing is compared byte by byte -/
theorem code_word {y : MethodName} {bytes : ByteArray} {mx : Nat} {rt : Option FieldType} {a : Array Value} {s : State} {m : MethodId} {meth : Method} {c : Code} (h1 : s.methodNamed? y = some m) (h2 : s.vm.method? m = some meth) (h3 : meth.code = some c) (h4 : c.code = bytes)
    (h5 : (c.maxLocals == mx && c.exceptionTable.isEmpty && decide (c.maxStack ≤ mostOperands) && decide (meth.sig.returnType = rt) && !meth.locks && decide (parseMethodDescriptor y.desc = some meth.sig)) = true) : (Jvm.Cond.code y bytes mx rt).before a s = true := by
  simp only [Bool.and_eq_true, beq_iff_eq, Bool.not_eq_true', decide_eq_true_eq] at h5
  obtain ⟨⟨⟨⟨⟨g1, g2⟩, g3⟩, g4⟩, g5⟩, g6⟩ := h5
  simp [Cond.before, Cond.holds, Cond.value, h1, h2, h3, h4, g1, g2, g3, g4, g5, g6]
def isCode : Jvm.Cond → Bool
  | .code _ _ _ _ => true
  | _ => false
theorem all_split {L : List Jvm.Cond} {P : Jvm.Cond → Bool} (h1 : L.all (fun c => isCode c || P c) = true) (h2 : ∀ c ∈ L.filter isCode, P c = true) : L.all P = true := by
  refine List.all_eq_true.mpr fun c hc => ?_
  have h := List.all_eq_true.mp h1 c hc
  rcases Bool.eq_false_or_eq_true (isCode c) with hi | hi
  · exact h2 c (List.mem_filter.mpr ⟨hc, hi⟩)
  · simpa [hi] using h
set_option maxRecDepth 65536 in
theorem w_c0 : (Jvm.Cond.code x code maxLocals ret).before args0 about1 = true := code_word (m := ⟨1, 2⟩) (meth := k1m2) (c := k1c2) (by decide +kernel) rfl rfl rfl (by decide +kernel)
set_option maxRecDepth 65536 in
theorem w_c1 : (Jvm.Cond.code ({ cls := "java/lang/String", name := "valueOf", desc := "(C)Ljava/lang/String;" } : Jvm.MethodName) jdk_42_method_139_code (1 : Nat) (Option.some (Jvm.ClassFile.FieldType.object "java/lang/String"))).before args0 about1 = true := code_word (m := ⟨7, 1⟩) (meth := k7m1) (c := k7c1) (by decide +kernel) rfl rfl rfl (by decide +kernel)
set_option maxRecDepth 65536 in
theorem w_c2 : (Jvm.Cond.code ({ cls := "java/lang/StringLatin1", name := "canEncode", desc := "(C)Z" } : Jvm.MethodName) jdk_43_method_3_code (1 : Nat) (Option.some Jvm.ClassFile.FieldType.boolean)).before args0 about1 = true := code_word (m := ⟨8, 1⟩) (meth := k8m1) (c := k8c1) (by decide +kernel) rfl rfl rfl (by decide +kernel)
set_option maxRecDepth 65536 in
theorem w_c3 : (Jvm.Cond.code ({ cls := "java/lang/StringLatin1", name := "toBytes", desc := "(C)[B" } : Jvm.MethodName) jdk_43_method_46_code (1 : Nat) (Option.some (Jvm.ClassFile.FieldType.array Jvm.ClassFile.FieldType.byte))).before args0 about1 = true := code_word (m := ⟨8, 2⟩) (meth := k8m2) (c := k8c2) (by decide +kernel) rfl rfl rfl (by decide +kernel)
set_option maxRecDepth 65536 in
theorem w_c4 : (Jvm.Cond.code ({ cls := "java/lang/String", name := "<init>", desc := "([BB)V" } : Jvm.MethodName) jdk_42_method_151_code (3 : Nat) (Option.none : Option Jvm.ClassFile.FieldType)).before args0 about1 = true := code_word (m := ⟨7, 2⟩) (meth := k7m2) (c := k7c2) (by decide +kernel) rfl rfl rfl (by decide +kernel)
set_option maxRecDepth 65536 in
theorem w_c5 : (Jvm.Cond.code ({ cls := "java/lang/Object", name := "<init>", desc := "()V" } : Jvm.MethodName) object_method_1_code (1 : Nat) (Option.none : Option Jvm.ClassFile.FieldType)).before args0 about1 = true := code_word (m := ⟨0, 0⟩) (meth := k0m0) (c := k0c0) (by decide +kernel) rfl rfl rfl (by decide +kernel)
set_option maxRecDepth 65536 in
theorem w_c6 : (Jvm.Cond.code ({ cls := "com/example/rivet_context/rivetcontext/factory/TypeListing", name := "<init>", desc := "([Ljava/lang/String;I)V" } : Jvm.MethodName) prog_105_method_1_code (3 : Nat) (Option.none : Option Jvm.ClassFile.FieldType)).before args0 about1 = true := code_word (m := ⟨16, 0⟩) (meth := k16m0) (c := k16c0) (by decide +kernel) rfl rfl rfl (by decide +kernel)
set_option maxRecDepth 65536 in
theorem w_c7 : (Jvm.Cond.code ({ cls := "com/example/rivet_context/rivetcontext/factory/TypeListing", name := "<init>", desc := "([Ljava/lang/String;[III[I)V" } : Jvm.MethodName) prog_105_method_2_code (6 : Nat) (Option.none : Option Jvm.ClassFile.FieldType)).before args0 about1 = true := code_word (m := ⟨16, 1⟩) (meth := k16m1) (c := k16c1) (by decide +kernel) rfl rfl rfl (by decide +kernel)
set_option maxRecDepth 65536 in
theorem w_c8 : (Jvm.Cond.code ({ cls := "java/util/AbstractList", name := "<init>", desc := "()V" } : Jvm.MethodName) jdk_39_method_1_code (1 : Nat) (Option.none : Option Jvm.ClassFile.FieldType)).before args0 about1 = true := code_word (m := ⟨14, 0⟩) (meth := k14m0) (c := k14c0) (by decide +kernel) rfl rfl rfl (by decide +kernel)
set_option maxRecDepth 65536 in
theorem w_c9 : (Jvm.Cond.code ({ cls := "java/util/AbstractCollection", name := "<init>", desc := "()V" } : Jvm.MethodName) jdk_22_method_1_code (1 : Nat) (Option.none : Option Jvm.ClassFile.FieldType)).before args0 about1 = true := code_word (m := ⟨11, 0⟩) (meth := k11m0) (c := k11c0) (by decide +kernel) rfl rfl rfl (by decide +kernel)
set_option maxRecDepth 65536 in
theorem w_c10 : (Jvm.Cond.code ({ cls := "com/example/rivet_context/rivetcontext/factory/TypeListing", name := "with", desc := "(I)Lcom/example/rivet_context/rivetcontext/factory/TypeListing;" } : Jvm.MethodName) prog_105_method_3_code (3 : Nat) (Option.some (Jvm.ClassFile.FieldType.object "com/example/rivet_context/rivetcontext/factory/TypeListing"))).before args0 about1 = true := code_word (m := ⟨16, 2⟩) (meth := k16m2) (c := k16c2) (by decide +kernel) rfl rfl rfl (by decide +kernel)
set_option maxRecDepth 65536 in
theorem w_c11 : (Jvm.Cond.code ({ cls := "com/example/rivet_context/rivetcontext/factory/TypeListing", name := "extendedBy", desc := "(I)Lcom/example/rivet_context/rivetcontext/factory/TypeListing;" } : Jvm.MethodName) prog_105_method_4_code (6 : Nat) (Option.some (Jvm.ClassFile.FieldType.object "com/example/rivet_context/rivetcontext/factory/TypeListing"))).before args0 about1 = true := code_word (m := ⟨16, 3⟩) (meth := k16m3) (c := k16c3) (by decide +kernel) rfl rfl rfl (by decide +kernel)
set_option maxRecDepth 65536 in
theorem w_c12 : (Jvm.Cond.code ({ cls := "java/util/Arrays", name := "binarySearch", desc := "([IIII)I" } : Jvm.MethodName) jdk_65_method_58_code (4 : Nat) (Option.some Jvm.ClassFile.FieldType.int)).before args0 about1 = true := code_word (m := ⟨17, 3⟩) (meth := k17m3) (c := k17c3) (by decide +kernel) rfl rfl rfl (by decide +kernel)
set_option maxRecDepth 65536 in
theorem w_c13 : (Jvm.Cond.code ({ cls := "java/util/Arrays", name := "rangeCheck", desc := "(III)V" } : Jvm.MethodName) jdk_65_method_30_code (3 : Nat) (Option.none : Option Jvm.ClassFile.FieldType)).before args0 about1 = true := code_word (m := ⟨17, 2⟩) (meth := k17m2) (c := k17c2) (by decide +kernel) rfl rfl rfl (by decide +kernel)
set_option maxRecDepth 65536 in
theorem w_c14 : (Jvm.Cond.code ({ cls := "java/util/Arrays", name := "binarySearch0", desc := "([IIII)I" } : Jvm.MethodName) jdk_65_method_59_code (8 : Nat) (Option.some Jvm.ClassFile.FieldType.int)).before args0 about1 = true := code_word (m := ⟨17, 4⟩) (meth := k17m4) (c := k17c4) (by decide +kernel) rfl rfl rfl (by decide +kernel)
set_option maxRecDepth 65536 in
theorem w_c15 : (Jvm.Cond.code ({ cls := "java/util/Arrays", name := "copyOf", desc := "([II)[I" } : Jvm.MethodName) jdk_65_method_123_code (3 : Nat) (Option.some (Jvm.ClassFile.FieldType.array Jvm.ClassFile.FieldType.int))).before args0 about1 = true := code_word (m := ⟨17, 5⟩) (meth := k17m5) (c := k17c5) (by decide +kernel) rfl rfl rfl (by decide +kernel)
set_option maxRecDepth 65536 in
theorem w_c16 : (Jvm.Cond.code ({ cls := "java/lang/Math", name := "min", desc := "(II)I" } : Jvm.MethodName) jdk_29_method_69_code (2 : Nat) (Option.some Jvm.ClassFile.FieldType.int)).before args0 about1 = true := code_word (m := ⟨18, 1⟩) (meth := k18m1) (c := k18c1) (by decide +kernel) rfl rfl rfl (by decide +kernel)
set_option maxRecDepth 65536 in
theorem w_c17 : (Jvm.Cond.code ({ cls := "com/example/rivet_context/rivetcontext/factory/TypeListing", name := "get", desc := "(I)Ljava/lang/String;" } : Jvm.MethodName) prog_105_method_7_code (2 : Nat) (Option.some (Jvm.ClassFile.FieldType.object "java/lang/String"))).before args0 about1 = true := code_word (m := ⟨16, 6⟩) (meth := k16m6) (c := k16c6) (by decide +kernel) rfl rfl rfl (by decide +kernel)
set_option maxRecDepth 65536 in
theorem w_c18 : (Jvm.Cond.code ({ cls := "java/util/Objects", name := "checkIndex", desc := "(II)I" } : Jvm.MethodName) jdk_31_method_17_code (2 : Nat) (Option.some Jvm.ClassFile.FieldType.int)).before args0 about1 = true := code_word (m := ⟨20, 1⟩) (meth := k20m1) (c := k20c1) (by decide +kernel) rfl rfl rfl (by decide +kernel)
set_option maxRecDepth 65536 in
theorem w_c19 : (Jvm.Cond.code ({ cls := "jdk/internal/util/Preconditions", name := "checkIndex", desc := "(IILjava/util/function/BiFunction;)I" } : Jvm.MethodName) jdk_41_method_11_code (3 : Nat) (Option.some Jvm.ClassFile.FieldType.int)).before args0 about1 = true := code_word (m := ⟨21, 1⟩) (meth := k21m1) (c := k21c1) (by decide +kernel) rfl rfl rfl (by decide +kernel)
set_option maxRecDepth 65536 in
theorem w_c20 : (Jvm.Cond.code ({ cls := "com/example/rivet_context/rivetcontext/factory/TypeListing", name := "ordered", desc := "()Lcom/example/rivet_context/rivetcontext/factory/TypeListing;" } : Jvm.MethodName) prog_105_method_5_code (2 : Nat) (Option.some (Jvm.ClassFile.FieldType.object "com/example/rivet_context/rivetcontext/factory/TypeListing"))).before args0 about1 = true := code_word (m := ⟨16, 4⟩) (meth := k16m4) (c := k16c4) (by decide +kernel) rfl rfl rfl (by decide +kernel)
set_option maxRecDepth 65536 in
theorem w_c21 : (Jvm.Cond.code ({ cls := "com/example/rivet_context/rivetcontext/factory/TypeListing", name := "putInPlace", desc := "()Lcom/example/rivet_context/rivetcontext/factory/TypeListing;" } : Jvm.MethodName) prog_105_method_6_code (7 : Nat) (Option.some (Jvm.ClassFile.FieldType.object "com/example/rivet_context/rivetcontext/factory/TypeListing"))).before args0 about1 = true := code_word (m := ⟨16, 5⟩) (meth := k16m5) (c := k16c5) (by decide +kernel) rfl rfl rfl (by decide +kernel)
set_option maxRecDepth 65536 in
theorem w_c22 : (Jvm.Cond.code ({ cls := "java/util/Arrays", name := "copyOfRange", desc := "([III)[I" } : Jvm.MethodName) jdk_65_method_136_code (3 : Nat) (Option.some (Jvm.ClassFile.FieldType.array Jvm.ClassFile.FieldType.int))).before args0 about1 = true := code_word (m := ⟨17, 7⟩) (meth := k17m7) (c := k17c7) (by decide +kernel) rfl rfl rfl (by decide +kernel)
set_option maxRecDepth 65536 in
theorem w_c23 : (Jvm.Cond.code ({ cls := "java/util/Arrays", name := "copyOfRangeInt", desc := "([III)[I" } : Jvm.MethodName) jdk_65_method_137_code (5 : Nat) (Option.some (Jvm.ClassFile.FieldType.array Jvm.ClassFile.FieldType.int))).before args0 about1 = true := code_word (m := ⟨17, 8⟩) (meth := k17m8) (c := k17c8) (by decide +kernel) rfl rfl rfl (by decide +kernel)
set_option maxRecDepth 65536 in
theorem w_c24 : (Jvm.Cond.code ({ cls := "java/util/Arrays", name := "checkLength", desc := "(II)V" } : Jvm.MethodName) jdk_65_method_131_code (2 : Nat) (Option.none : Option Jvm.ClassFile.FieldType)).before args0 about1 = true := code_word (m := ⟨17, 6⟩) (meth := k17m6) (c := k17c6) (by decide +kernel) rfl rfl rfl (by decide +kernel)
set_option maxRecDepth 65536 in
theorem w_c25 : (Jvm.Cond.code ({ cls := "java/util/Arrays", name := "sort", desc := "([I)V" } : Jvm.MethodName) jdk_65_method_2_code (1 : Nat) (Option.none : Option Jvm.ClassFile.FieldType)).before args0 about1 = true := code_word (m := ⟨17, 1⟩) (meth := k17m1) (c := k17c1) (by decide +kernel) rfl rfl rfl (by decide +kernel)
set_option maxRecDepth 65536 in
theorem w_c26 : (Jvm.Cond.code ({ cls := "java/util/DualPivotQuicksort", name := "sort", desc := "([IIII)V" } : Jvm.MethodName) jdk_2529_method_3_code (7 : Nat) (Option.none : Option Jvm.ClassFile.FieldType)).before args0 about1 = true := code_word (m := ⟨22, 1⟩) (meth := k22m1) (c := k22c1) (by decide +kernel) rfl rfl rfl (by decide +kernel)
set_option maxRecDepth 65536 in
theorem w_c27 : (Jvm.Cond.code ({ cls := "java/util/DualPivotQuicksort", name := "sort", desc := "(Ljava/util/DualPivotQuicksort$Sorter;[IIII)V" } : Jvm.MethodName) jdk_2529_method_4_code (21 : Nat) (Option.none : Option Jvm.ClassFile.FieldType)).before args0 about1 = true := code_word (m := ⟨22, 2⟩) (meth := k22m2) (c := k22c2) (by decide +kernel) rfl rfl rfl (by decide +kernel)
set_option maxRecDepth 65536 in
theorem w_c28 : (Jvm.Cond.code ({ cls := "java/util/DualPivotQuicksort", name := "insertionSort", desc := "([III)V" } : Jvm.MethodName) jdk_2529_method_6_code (6 : Nat) (Option.none : Option Jvm.ClassFile.FieldType)).before args0 about1 = true := code_word (m := ⟨22, 3⟩) (meth := k22m3) (c := k22c3) (by decide +kernel) rfl rfl rfl (by decide +kernel)
set_option maxRecDepth 65536 in
theorem w_c29 : (Jvm.Cond.code ({ cls := "com/example/rivet_context/rivetcontext/factory/TypeListing", name := "size", desc := "()I" } : Jvm.MethodName) prog_105_method_8_code (1 : Nat) (Option.some Jvm.ClassFile.FieldType.int)).before args0 about1 = true := code_word (m := ⟨16, 7⟩) (meth := k16m7) (c := k16c7) (by decide +kernel) rfl rfl rfl (by decide +kernel)
set_option maxRecDepth 65536 in
theorem w_c30 : (Jvm.Cond.code ({ cls := "com/example/rivet_context/rivetcontext/factory/TypeListingGetPinLaw", name := "nth", desc := "(II)I" } : Jvm.MethodName) method_2_code (3 : Nat) (Option.some Jvm.ClassFile.FieldType.int)).before args0 about1 = true := code_word (m := ⟨1, 1⟩) (meth := k1m1) (c := k1c1) (by decide +kernel) rfl rfl rfl (by decide +kernel)
def codes1 : List Jvm.Cond := [Jvm.Cond.code x code maxLocals ret, Jvm.Cond.code ({ cls := "java/lang/String", name := "valueOf", desc := "(C)Ljava/lang/String;" } : Jvm.MethodName) jdk_42_method_139_code (1 : Nat) (Option.some (Jvm.ClassFile.FieldType.object "java/lang/String")), Jvm.Cond.code ({ cls := "java/lang/StringLatin1", name := "canEncode", desc := "(C)Z" } : Jvm.MethodName) jdk_43_method_3_code (1 : Nat) (Option.some Jvm.ClassFile.FieldType.boolean), Jvm.Cond.code ({ cls := "java/lang/StringLatin1", name := "toBytes", desc := "(C)[B" } : Jvm.MethodName) jdk_43_method_46_code (1 : Nat) (Option.some (Jvm.ClassFile.FieldType.array Jvm.ClassFile.FieldType.byte)), Jvm.Cond.code ({ cls := "java/lang/String", name := "<init>", desc := "([BB)V" } : Jvm.MethodName) jdk_42_method_151_code (3 : Nat) (Option.none : Option Jvm.ClassFile.FieldType), Jvm.Cond.code ({ cls := "java/lang/Object", name := "<init>", desc := "()V" } : Jvm.MethodName) object_method_1_code (1 : Nat) (Option.none : Option Jvm.ClassFile.FieldType), Jvm.Cond.code ({ cls := "com/example/rivet_context/rivetcontext/factory/TypeListing", name := "<init>", desc := "([Ljava/lang/String;I)V" } : Jvm.MethodName) prog_105_method_1_code (3 : Nat) (Option.none : Option Jvm.ClassFile.FieldType), Jvm.Cond.code ({ cls := "com/example/rivet_context/rivetcontext/factory/TypeListing", name := "<init>", desc := "([Ljava/lang/String;[III[I)V" } : Jvm.MethodName) prog_105_method_2_code (6 : Nat) (Option.none : Option Jvm.ClassFile.FieldType), Jvm.Cond.code ({ cls := "java/util/AbstractList", name := "<init>", desc := "()V" } : Jvm.MethodName) jdk_39_method_1_code (1 : Nat) (Option.none : Option Jvm.ClassFile.FieldType), Jvm.Cond.code ({ cls := "java/util/AbstractCollection", name := "<init>", desc := "()V" } : Jvm.MethodName) jdk_22_method_1_code (1 : Nat) (Option.none : Option Jvm.ClassFile.FieldType), Jvm.Cond.code ({ cls := "com/example/rivet_context/rivetcontext/factory/TypeListing", name := "with", desc := "(I)Lcom/example/rivet_context/rivetcontext/factory/TypeListing;" } : Jvm.MethodName) prog_105_method_3_code (3 : Nat) (Option.some (Jvm.ClassFile.FieldType.object "com/example/rivet_context/rivetcontext/factory/TypeListing")), Jvm.Cond.code ({ cls := "com/example/rivet_context/rivetcontext/factory/TypeListing", name := "extendedBy", desc := "(I)Lcom/example/rivet_context/rivetcontext/factory/TypeListing;" } : Jvm.MethodName) prog_105_method_4_code (6 : Nat) (Option.some (Jvm.ClassFile.FieldType.object "com/example/rivet_context/rivetcontext/factory/TypeListing")), Jvm.Cond.code ({ cls := "java/util/Arrays", name := "binarySearch", desc := "([IIII)I" } : Jvm.MethodName) jdk_65_method_58_code (4 : Nat) (Option.some Jvm.ClassFile.FieldType.int), Jvm.Cond.code ({ cls := "java/util/Arrays", name := "rangeCheck", desc := "(III)V" } : Jvm.MethodName) jdk_65_method_30_code (3 : Nat) (Option.none : Option Jvm.ClassFile.FieldType), Jvm.Cond.code ({ cls := "java/util/Arrays", name := "binarySearch0", desc := "([IIII)I" } : Jvm.MethodName) jdk_65_method_59_code (8 : Nat) (Option.some Jvm.ClassFile.FieldType.int), Jvm.Cond.code ({ cls := "java/util/Arrays", name := "copyOf", desc := "([II)[I" } : Jvm.MethodName) jdk_65_method_123_code (3 : Nat) (Option.some (Jvm.ClassFile.FieldType.array Jvm.ClassFile.FieldType.int)), Jvm.Cond.code ({ cls := "java/lang/Math", name := "min", desc := "(II)I" } : Jvm.MethodName) jdk_29_method_69_code (2 : Nat) (Option.some Jvm.ClassFile.FieldType.int), Jvm.Cond.code ({ cls := "com/example/rivet_context/rivetcontext/factory/TypeListing", name := "get", desc := "(I)Ljava/lang/String;" } : Jvm.MethodName) prog_105_method_7_code (2 : Nat) (Option.some (Jvm.ClassFile.FieldType.object "java/lang/String")), Jvm.Cond.code ({ cls := "java/util/Objects", name := "checkIndex", desc := "(II)I" } : Jvm.MethodName) jdk_31_method_17_code (2 : Nat) (Option.some Jvm.ClassFile.FieldType.int), Jvm.Cond.code ({ cls := "jdk/internal/util/Preconditions", name := "checkIndex", desc := "(IILjava/util/function/BiFunction;)I" } : Jvm.MethodName) jdk_41_method_11_code (3 : Nat) (Option.some Jvm.ClassFile.FieldType.int), Jvm.Cond.code ({ cls := "com/example/rivet_context/rivetcontext/factory/TypeListing", name := "ordered", desc := "()Lcom/example/rivet_context/rivetcontext/factory/TypeListing;" } : Jvm.MethodName) prog_105_method_5_code (2 : Nat) (Option.some (Jvm.ClassFile.FieldType.object "com/example/rivet_context/rivetcontext/factory/TypeListing")), Jvm.Cond.code ({ cls := "com/example/rivet_context/rivetcontext/factory/TypeListing", name := "putInPlace", desc := "()Lcom/example/rivet_context/rivetcontext/factory/TypeListing;" } : Jvm.MethodName) prog_105_method_6_code (7 : Nat) (Option.some (Jvm.ClassFile.FieldType.object "com/example/rivet_context/rivetcontext/factory/TypeListing")), Jvm.Cond.code ({ cls := "java/util/Arrays", name := "copyOfRange", desc := "([III)[I" } : Jvm.MethodName) jdk_65_method_136_code (3 : Nat) (Option.some (Jvm.ClassFile.FieldType.array Jvm.ClassFile.FieldType.int)), Jvm.Cond.code ({ cls := "java/util/Arrays", name := "copyOfRangeInt", desc := "([III)[I" } : Jvm.MethodName) jdk_65_method_137_code (5 : Nat) (Option.some (Jvm.ClassFile.FieldType.array Jvm.ClassFile.FieldType.int)), Jvm.Cond.code ({ cls := "java/util/Arrays", name := "checkLength", desc := "(II)V" } : Jvm.MethodName) jdk_65_method_131_code (2 : Nat) (Option.none : Option Jvm.ClassFile.FieldType), Jvm.Cond.code ({ cls := "java/util/Arrays", name := "sort", desc := "([I)V" } : Jvm.MethodName) jdk_65_method_2_code (1 : Nat) (Option.none : Option Jvm.ClassFile.FieldType), Jvm.Cond.code ({ cls := "java/util/DualPivotQuicksort", name := "sort", desc := "([IIII)V" } : Jvm.MethodName) jdk_2529_method_3_code (7 : Nat) (Option.none : Option Jvm.ClassFile.FieldType), Jvm.Cond.code ({ cls := "java/util/DualPivotQuicksort", name := "sort", desc := "(Ljava/util/DualPivotQuicksort$Sorter;[IIII)V" } : Jvm.MethodName) jdk_2529_method_4_code (21 : Nat) (Option.none : Option Jvm.ClassFile.FieldType), Jvm.Cond.code ({ cls := "java/util/DualPivotQuicksort", name := "insertionSort", desc := "([III)V" } : Jvm.MethodName) jdk_2529_method_6_code (6 : Nat) (Option.none : Option Jvm.ClassFile.FieldType), Jvm.Cond.code ({ cls := "com/example/rivet_context/rivetcontext/factory/TypeListing", name := "size", desc := "()I" } : Jvm.MethodName) prog_105_method_8_code (1 : Nat) (Option.some Jvm.ClassFile.FieldType.int), Jvm.Cond.code ({ cls := "com/example/rivet_context/rivetcontext/factory/TypeListingGetPinLaw", name := "nth", desc := "(II)I" } : Jvm.MethodName) method_2_code (3 : Nat) (Option.some Jvm.ClassFile.FieldType.int)]
set_option maxRecDepth 65536 in
theorem codes_eq : words1.filter isCode = codes1 := rfl
theorem w_codes : ∀ c ∈ words1.filter isCode, c.before args0 about1 = true := by
  rw [codes_eq]
  intro c hc
  simp only [codes1, List.mem_cons, List.not_mem_nil, or_false] at hc
  rcases hc with rfl | rfl | rfl | rfl | rfl | rfl | rfl | rfl | rfl | rfl | rfl | rfl | rfl | rfl | rfl | rfl | rfl | rfl | rfl | rfl | rfl | rfl | rfl | rfl | rfl | rfl | rfl | rfl | rfl | rfl | rfl
  · exact w_c0
  · exact w_c1
  · exact w_c2
  · exact w_c3
  · exact w_c4
  · exact w_c5
  · exact w_c6
  · exact w_c7
  · exact w_c8
  · exact w_c9
  · exact w_c10
  · exact w_c11
  · exact w_c12
  · exact w_c13
  · exact w_c14
  · exact w_c15
  · exact w_c16
  · exact w_c17
  · exact w_c18
  · exact w_c19
  · exact w_c20
  · exact w_c21
  · exact w_c22
  · exact w_c23
  · exact w_c24
  · exact w_c25
  · exact w_c26
  · exact w_c27
  · exact w_c28
  · exact w_c29
  · exact w_c30
set_option maxRecDepth 65536 in
theorem w_t1 : (words1.take 24).all (fun c => isCode c || c.before args0 about1) = true := by decide +kernel
set_option maxRecDepth 65536 in
theorem w_t2 : ((words1.drop 24).take 24).all (fun c => isCode c || c.before args0 about1) = true := by decide +kernel
set_option maxRecDepth 65536 in
theorem w_t3 : (((words1.drop 24).drop 24).take 24).all (fun c => isCode c || c.before args0 about1) = true := by decide +kernel
set_option maxRecDepth 65536 in
theorem w_t4 : ((((words1.drop 24).drop 24).drop 24).take 24).all (fun c => isCode c || c.before args0 about1) = true := by decide +kernel
set_option maxRecDepth 65536 in
theorem w_t5 : (((((words1.drop 24).drop 24).drop 24).drop 24).take 24).all (fun c => isCode c || c.before args0 about1) = true := by decide +kernel
set_option maxRecDepth 65536 in
theorem w_t6 : ((((((words1.drop 24).drop 24).drop 24).drop 24).drop 24).take 24).all (fun c => isCode c || c.before args0 about1) = true := by decide +kernel
set_option maxRecDepth 65536 in
theorem w_t7 : ((((((words1.drop 24).drop 24).drop 24).drop 24).drop 24).drop 24).all (fun c => isCode c || c.before args0 about1) = true := by decide +kernel
theorem w_tables : (allAtoms (Jvm.Cond.code x code maxLocals ret :: tables_1)).before args0 about1 = true := by
  rw [allAtoms_all]
  show words1.all (fun c => c.before args0 about1) = true
  refine all_split ?_ w_codes
  rw [← List.take_append_drop 24 words1, List.all_append, w_t1, ← List.take_append_drop 24 (words1.drop 24), List.all_append, w_t2, ← List.take_append_drop 24 ((words1.drop 24).drop 24), List.all_append, w_t3, ← List.take_append_drop 24 (((words1.drop 24).drop 24).drop 24), List.all_append, w_t4, ← List.take_append_drop 24 ((((words1.drop 24).drop 24).drop 24).drop 24), List.all_append, w_t5, ← List.take_append_drop 24 (((((words1.drop 24).drop 24).drop 24).drop 24).drop 24), List.all_append, w_t6, w_t7]
  rfl
set_option maxRecDepth 65536 in
theorem w_rest : rest_1_c.before args0 about1 = true := by decide +kernel
set_option maxRecDepth 65536 in
theorem w_case : (Jvm.Cond.and given_1 narrow_1).before args0 about1 = true := by decide +kernel
theorem w_applies : (headSpec (Jvm.Cond.code x code maxLocals ret :: tables_1) room_1).applies x e0.platform about1 = true :=
  (Spec.applies_iff w_frames).mpr ⟨w_running, w_runnable, w_alone, w_named, w_hears, w_ripe, w_room, w_tables⟩
theorem atStart : AtStart classFile x code maxLocals ret World_1 tables_1 room_1 Calls_1 rest_1 Pre_1 launch0 p0 e0 about1 theMethod args0 below0 :=
  ⟨lists_1, trivial, launch0.admits_env _ _ _, launch0.least_env, fairChoices_fair.cas, fairChoices_fair.clock, w_frames, w_args, w_heap, w_applies, trivial, w_rest, w_case⟩
end start1
theorem witness_1 : WitnessClaimed_1 := ⟨start1.p0, start1.e0, start1.about1, start1.theMethod, start1.args0, start1.below0, start1.atStart⟩
end Jvm.Pilot.@@N@@
