/- Products and comparison of numbers by their digits. -/
import Derived.Test.YtloonhdnheobpaaDoorRtb
set_option linter.unusedVariables false
set_option linter.unusedSimpArgs false
namespace Go.Proofs.YtloonhdnheobpaaDoor
open Go

def lessF (xs ys : List Nat) : Nat → Bool
  | 0 => false
  | k + 1 => if xs.getD k 0 = ys.getD k 0 then lessF xs ys k else decide (xs.getD k 0 < ys.getD k 0)

theorem getD_out {xs : List Nat} {j : Nat} (h : ¬ j < xs.length) : xs.getD j 0 = 0 := by
  rw [List.getD_eq_getElem?_getD, List.getElem?_eq_none (by omega)]; rfl

set_option maxRecDepth 100000 in
theorem lessC (va vb : SV) (xs ys : List Nat) (w : World) (ha : Nums w va xs) (hb : Nums w vb ys) (h0 : 0 < xs.length) (hx : xs.length ≤ 1000) (hy : ys.length ≤ 1000) :
    Calls Tryd.prog 20 #[va.val, vb.val] w fun e w' => e = .returned (SV.bool (lessF xs ys (max xs.length ys.length))).val ∧ w' = w := by
  obtain ⟨a, ca, rfl, hca, haa, hra⟩ := ha
  obtain ⟨b, cb, rfl, hcb, hbb, hrb⟩ := hb
  generalize hm : xs.length = m at *
  generalize hn : ys.length = n at *
  refine calls_E [.sl a m ca, .sl b n cb] Tryd.func20 rfl Tryd.ntmps20 rfl ?_
  have hmx1 : m ≤ max m n := Nat.le_max_left _ _
  have hmx2 : n ≤ max m n := Nat.le_max_right _ _
  have hmx3 : max m n ≤ 1000 := Nat.max_le.2 ⟨hx, hy⟩
  refine EWp.seqR [0, 1] fun K hK => ?_
  simp only [ev, fx, ↓reduceIte, Nat.reduceEqDiff, Nat.reduceLT, Nat.reduceLeDiff, Nat.reduceAdd, Nat.reduceSub, Nat.reduceMul, Int.reduceLT, Int.reduceLE, Int.reduceToNat, BitVec.reduceOfInt, BitVec.reduceToNat, reduceCtorEq, and_self, decide_true, decide_false, Bool.not_true, Bool.not_false, ne_eq, not_true_eq_false, not_false_eq_true, true_and, and_true]
  repeat (refine And.intro (by omega) ?_)
  refine hK _ _ ?_; clear hK K
  refine EWp.cut [] (fun S' w' => lessF xs ys (max m n) = false ∧ w' = w) ?_ ?_
  case refine_2 =>
    rintro S' w' ⟨hlf, hw⟩
    rw [hw]; clear hw w'
    refine EWp.seqR [4] fun K hK => ?_
    simp only [ev, fx, ↓reduceIte, Nat.reduceEqDiff, Nat.reduceLT, Nat.reduceLeDiff, Nat.reduceAdd, Nat.reduceSub, Nat.reduceMul, Int.reduceLT, Int.reduceLE, Int.reduceToNat, BitVec.reduceOfInt, BitVec.reduceToNat, reduceCtorEq, and_self, decide_true, decide_false, Bool.not_true, Bool.not_false, ne_eq, not_true_eq_false, not_false_eq_true, true_and, and_true]
    repeat (refine And.intro (by omega) ?_)
    refine hK _ _ ?_; clear hK K
    exact EWp.ret (BodyE.tmp1 rfl rfl ⟨by rw [hlf], rfl⟩)
  refine EWp.seqR [0, 1, 5] fun K hK => ?_
  simp only [ev, fx, ↓reduceIte, Nat.reduceEqDiff, Nat.reduceLT, Nat.reduceLeDiff, Nat.reduceAdd, Nat.reduceSub, Nat.reduceMul, Int.reduceLT, Int.reduceLE, Int.reduceToNat, BitVec.reduceOfInt, BitVec.reduceToNat, reduceCtorEq, and_self, decide_true, decide_false, Bool.not_true, Bool.not_false, ne_eq, not_true_eq_false, not_false_eq_true, true_and, and_true]
  refine SemE.plain (.nat (max m n)) (Plain.max rfl rfl) rfl ?_
  generalize max m n = mx at *
  simp only [ev, fx, ↓reduceIte, Nat.reduceEqDiff, Nat.reduceLT, Nat.reduceLeDiff, Nat.reduceAdd, Nat.reduceSub, Nat.reduceMul, Int.reduceLT, Int.reduceLE, Int.reduceToNat, BitVec.reduceOfInt, BitVec.reduceToNat, reduceCtorEq, and_self, decide_true, decide_false, Bool.not_true, Bool.not_false, ne_eq, not_true_eq_false, not_false_eq_true, true_and, and_true]
  repeat (refine And.intro (by omega) ?_)
  repeat (refine And.intro (by omega) ?_)
  refine hK _ _ ?_; clear hK K
  refine EWp.recast [(0, .sl a m ca), (1, .sl b n cb), (5, .int ((mx : Int) - 1))] ⟨rfl, rfl, rfl, rfl, rfl, by simp only [SV.val]; congr 1; omega, trivial⟩ ?_
  refine EWp.block ?_
  refine EWp.loop [0, 1, 5] (fun k S' w' => S' = [(0, .sl a m ca), (1, .sl b n cb), (5, .int ((k : Int) - 1))] ∧ lessF xs ys mx = lessF xs ys k ∧ k ≤ mx ∧ w' = w) mx ?_ ?_
  case refine_1 => exact ⟨rfl, rfl, Nat.le_refl _, rfl⟩
  rintro k S' w' ⟨rfl, hlf, hk, hw⟩
  rw [hw]; clear hw w'
  refine EWp.headR [0, 1, 5, 15] fun K hK => ?_
  simp only [ev, fx, ↓reduceIte, Nat.reduceEqDiff, Nat.reduceLT, Nat.reduceLeDiff, Nat.reduceAdd, Nat.reduceSub, Nat.reduceMul, Int.reduceLT, Int.reduceLE, Int.reduceToNat, BitVec.reduceOfInt, BitVec.reduceToNat, reduceCtorEq, and_self, decide_true, decide_false, Bool.not_true, Bool.not_false, ne_eq, not_true_eq_false, not_false_eq_true, true_and, and_true]
  refine hK _ _ (decide ((0 : Int) ≤ (k : Int) - 1)) rfl (fun hlt => ?_) (fun hlt => ?_) <;> clear hK K
  case refine_2 =>
    have hlt := of_decide_eq_false hlt
    obtain rfl : k = 0 := by omega
    simp only [BlockE, ThenE, ↓reduceIte]
    exact ⟨hlf, trivial⟩
  have hlt := of_decide_eq_true hlt
  obtain ⟨j, rfl⟩ : ∃ j, k = j + 1 := ⟨k - 1, by omega⟩
  refine EWp.recast [(0, .sl a m ca), (1, .sl b n cb), (5, .nat j)] ⟨rfl, rfl, rfl, rfl, rfl, by simp only [SV.val]; congr 1; omega, trivial⟩ ?_
  refine EWp.cut [0, 1, 5] (fun S' w' => S' = [(0, .sl a m ca), (1, .sl b n cb), (5, .nat j)] ∧ lessF xs ys mx = lessF xs ys j ∧ w' = w) ?_ ?_
  case refine_2 =>
    rintro S' w' ⟨rfl, hlf, hw⟩
    rw [hw]; clear hw w'
    refine EWp.recast [(0, .sl a m ca), (1, .sl b n cb), (5, .int (j : Int))] ⟨rfl, rfl, rfl, rfl, rfl, rfl, trivial⟩ ?_
    refine EWp.regR [0, 1, 5] fun K hK => ?_
    simp only [ev, fx, ↓reduceIte, Nat.reduceEqDiff, Nat.reduceLT, Nat.reduceLeDiff, Nat.reduceAdd, Nat.reduceSub, Nat.reduceMul, Int.reduceLT, Int.reduceLE, Int.reduceToNat, BitVec.reduceOfInt, BitVec.reduceToNat, reduceCtorEq, and_self, decide_true, decide_false, Bool.not_true, Bool.not_false, ne_eq, not_true_eq_false, not_false_eq_true, true_and, and_true]
    refine ⟨by omega, hK _ _ fun S1 h1 => ⟨j, by omega, h1, hlf, by omega, rfl⟩⟩
  refine EWp.block ?_
  refine EWp.seqR [0, 1, 5, 6, 7] fun K hK => ?_
  simp only [ev, fx, ↓reduceIte, Nat.reduceEqDiff, Nat.reduceLT, Nat.reduceLeDiff, Nat.reduceAdd, Nat.reduceSub, Nat.reduceMul, Int.reduceLT, Int.reduceLE, Int.reduceToNat, BitVec.reduceOfInt, BitVec.reduceToNat, reduceCtorEq, and_self, decide_true, decide_false, Bool.not_true, Bool.not_false, ne_eq, not_true_eq_false, not_false_eq_true, true_and, and_true]
  repeat (refine And.intro (by omega) ?_)
  refine hK _ _ ?_; clear hK K
  refine EWp.cut [0, 1, 5, 6, 7] (fun S' w' => S' = [(0, .sl a m ca), (1, .sl b n cb), (5, .nat j), (6, .nat (xs.getD j 0)), (7, .nat 0)] ∧ w' = w) ?_ ?_
  case refine_1 =>
    refine EWp.brR [0, 1, 5, 6, 7, 21] fun K hK => ?_
    simp only [ev, fx, ↓reduceIte, Nat.reduceEqDiff, Nat.reduceLT, Nat.reduceLeDiff, Nat.reduceAdd, Nat.reduceSub, Nat.reduceMul, Int.reduceLT, Int.reduceLE, Int.reduceToNat, BitVec.reduceOfInt, BitVec.reduceToNat, reduceCtorEq, and_self, decide_true, decide_false, Bool.not_true, Bool.not_false, ne_eq, not_true_eq_false, not_false_eq_true, true_and, and_true]
    refine hK _ _ (decide (j < m)) rfl (fun h => ?_) (fun h => ?_) <;> clear hK K
    · have h := of_decide_eq_true h
      obtain ⟨p, rfl, _, _⟩ := hra j (.nat (xs.getD j 0)) (nat_get (by omega))
      refine EWp.regR [0, 1, 5, 6, 7] fun K hK => ?_
      simp only [ev, fx, ↓reduceIte, Nat.reduceEqDiff, Nat.reduceLT, Nat.reduceLeDiff, Nat.reduceAdd, Nat.reduceSub, Nat.reduceMul, Int.reduceLT, Int.reduceLE, Int.reduceToNat, BitVec.reduceOfInt, BitVec.reduceToNat, reduceCtorEq, and_self, decide_true, decide_false, Bool.not_true, Bool.not_false, ne_eq, not_true_eq_false, not_false_eq_true, true_and, and_true]
      repeat (refine And.intro (by omega) ?_)
      refine SemE.load (.nat (xs.getD j 0)) rfl one_3 rfl (hra.at (nat_get (by omega))) ?_
      simp only [ev, fx, ↓reduceIte, Nat.reduceEqDiff, Nat.reduceLT, Nat.reduceLeDiff, Nat.reduceAdd, Nat.reduceSub, Nat.reduceMul, Int.reduceLT, Int.reduceLE, Int.reduceToNat, BitVec.reduceOfInt, BitVec.reduceToNat, reduceCtorEq, and_self, decide_true, decide_false, Bool.not_true, Bool.not_false, ne_eq, not_true_eq_false, not_false_eq_true, true_and, and_true]
      refine hK _ _ fun S1 h1 => ?_; clear hK K
      simp only [ThenE]
      exact ⟨h1, trivial⟩
    · have h := of_decide_eq_false h
      refine EWp.skip ?_
      simp only [ThenE]
      exact ⟨by rw [getD_out (by omega)]; rfl, trivial⟩
  rintro S' w' ⟨rfl, hw⟩
  rw [hw]; clear hw w'
  refine EWp.cut [0, 1, 5, 6, 7] (fun S' w' => S' = [(0, .sl a m ca), (1, .sl b n cb), (5, .nat j), (6, .nat (xs.getD j 0)), (7, .nat (ys.getD j 0))] ∧ w' = w) ?_ ?_
  case refine_1 =>
    refine EWp.brR [0, 1, 5, 6, 7, 29] fun K hK => ?_
    simp only [ev, fx, ↓reduceIte, Nat.reduceEqDiff, Nat.reduceLT, Nat.reduceLeDiff, Nat.reduceAdd, Nat.reduceSub, Nat.reduceMul, Int.reduceLT, Int.reduceLE, Int.reduceToNat, BitVec.reduceOfInt, BitVec.reduceToNat, reduceCtorEq, and_self, decide_true, decide_false, Bool.not_true, Bool.not_false, ne_eq, not_true_eq_false, not_false_eq_true, true_and, and_true]
    refine hK _ _ (decide (j < n)) rfl (fun h => ?_) (fun h => ?_) <;> clear hK K
    · have h := of_decide_eq_true h
      obtain ⟨p, rfl, _, _⟩ := hrb j (.nat (ys.getD j 0)) (nat_get (by omega))
      refine EWp.regR [0, 1, 5, 6, 7] fun K hK => ?_
      simp only [ev, fx, ↓reduceIte, Nat.reduceEqDiff, Nat.reduceLT, Nat.reduceLeDiff, Nat.reduceAdd, Nat.reduceSub, Nat.reduceMul, Int.reduceLT, Int.reduceLE, Int.reduceToNat, BitVec.reduceOfInt, BitVec.reduceToNat, reduceCtorEq, and_self, decide_true, decide_false, Bool.not_true, Bool.not_false, ne_eq, not_true_eq_false, not_false_eq_true, true_and, and_true]
      repeat (refine And.intro (by omega) ?_)
      refine SemE.load (.nat (ys.getD j 0)) rfl one_3 rfl (hrb.at (nat_get (by omega))) ?_
      simp only [ev, fx, ↓reduceIte, Nat.reduceEqDiff, Nat.reduceLT, Nat.reduceLeDiff, Nat.reduceAdd, Nat.reduceSub, Nat.reduceMul, Int.reduceLT, Int.reduceLE, Int.reduceToNat, BitVec.reduceOfInt, BitVec.reduceToNat, reduceCtorEq, and_self, decide_true, decide_false, Bool.not_true, Bool.not_false, ne_eq, not_true_eq_false, not_false_eq_true, true_and, and_true]
      refine hK _ _ fun S1 h1 => ?_; clear hK K
      simp only [ThenE]
      exact ⟨h1, trivial⟩
    · have h := of_decide_eq_false h
      refine EWp.skip ?_
      simp only [ThenE]
      exact ⟨by rw [getD_out (xs := ys) (by omega)]; rfl, trivial⟩
  rintro S' w' ⟨rfl, hw⟩
  rw [hw]; clear hw w'
  refine EWp.brR [0, 1, 5, 6, 7, 36] fun K hK => ?_
  simp only [ev, fx, ↓reduceIte, Nat.reduceEqDiff, Nat.reduceLT, Nat.reduceLeDiff, Nat.reduceAdd, Nat.reduceSub, Nat.reduceMul, Int.reduceLT, Int.reduceLE, Int.reduceToNat, BitVec.reduceOfInt, BitVec.reduceToNat, reduceCtorEq, and_self, decide_true, decide_false, Bool.not_true, Bool.not_false, ne_eq, not_true_eq_false, not_false_eq_true, true_and, and_true]
  refine hK _ _ (decide (¬ xs.getD j 0 = ys.getD j 0)) rfl (fun h => ?_) (fun h => ?_) <;> clear hK K
  · have h := of_decide_eq_true h
    refine EWp.seqR [4] fun K hK => ?_
    simp only [ev, fx, ↓reduceIte, Nat.reduceEqDiff, Nat.reduceLT, Nat.reduceLeDiff, Nat.reduceAdd, Nat.reduceSub, Nat.reduceMul, Int.reduceLT, Int.reduceLE, Int.reduceToNat, BitVec.reduceOfInt, BitVec.reduceToNat, reduceCtorEq, and_self, decide_true, decide_false, Bool.not_true, Bool.not_false, ne_eq, not_true_eq_false, not_false_eq_true, true_and, and_true]
    repeat (refine And.intro (by omega) ?_)
    refine hK _ _ ?_; clear hK K
    refine EWp.ret ?_
    simp only [BlockE, ThenE]
    exact BodyE.tmp1 rfl rfl ⟨by rw [hlf, lessF, if_neg h], rfl⟩
  · have h : xs.getD j 0 = ys.getD j 0 := by simpa using h
    refine EWp.skip ?_
    simp only [BlockE, ThenE]
    exact ⟨rfl, by rw [hlf, lessF, if_pos h], trivial⟩

def inS (bs : List Nat) (i x : Nat) (o : List Nat) : Nat → List Nat × Nat
  | 0 => (o, 0)
  | k + 1 => ((inS bs i x o k).1.set (i + k) (((inS bs i x o k).2 + ((inS bs i x o k).1.getD (i + k) 0 + x * bs.getD k 0)) % 65536), ((inS bs i x o k).2 + ((inS bs i x o k).1.getD (i + k) 0 + x * bs.getD k 0)) / 65536)
def outS (us bs : List Nat) : Nat → List Nat
  | 0 => List.replicate (us.length + bs.length + 1) 0
  | i + 1 => (inS bs i (us.getD i 0) (outS us bs i) bs.length).1.set (i + bs.length) ((inS bs i (us.getD i 0) (outS us bs i) bs.length).1.getD (i + bs.length) 0 + (inS bs i (us.getD i 0) (outS us bs i) bs.length).2)
def timesF (us bs : List Nat) : List Nat := outS us bs us.length

theorem getD_le {xs : List Nat} {B : Nat} (h : ∀ z ∈ xs, z ≤ B) (j : Nat) : xs.getD j 0 ≤ B := by
  rw [List.getD_eq_getElem?_getD]
  cases hj : xs[j]? with
  | none => exact Nat.zero_le _
  | some z => exact h z (List.mem_of_getElem? hj)
theorem set_le {xs : List Nat} {B v : Nat} (h : ∀ z ∈ xs, z ≤ B) (hv : v ≤ B) (j : Nat) : ∀ z ∈ xs.set j v, z ≤ B := fun z hz => by
  rcases List.mem_or_eq_of_mem_set hz with h1 | rfl
  · exact h z h1
  · exact hv
theorem set_nat (xs : List Nat) (j v : Nat) : (xs.map SV.nat).set j (.nat v) = (xs.set j v).map SV.nat := by rw [List.map_set]

set_option maxRecDepth 100000 in
set_option maxHeartbeats 1000000 in
theorem timesC (va vb : SV) (us bs : List Nat) (w : World) (ha : Nums w va us) (hb : Nums w vb bs) (hla : us.length ≤ 30) (hlb : bs.length ≤ 30) (h1 : ∀ z ∈ us, z ≤ 16777216) (h2 : ∀ z ∈ bs, z ≤ 16777216) :
    Calls Tryd.prog 18 #[va.val, vb.val] w fun e w' => ∃ v', e = .returned v'.val ∧ Nums w' v' (timesF us bs) ∧ Grow w w' := by
  obtain ⟨a, ca, rfl, hca, haa, hra⟩ := ha
  obtain ⟨b, cb, rfl, hcb, hbb, hrb⟩ := hb
  generalize hm : us.length = m at *
  generalize hn : bs.length = n at *
  refine calls_E [.sl a m ca, .sl b n cb] Tryd.func18 rfl Tryd.ntmps18 rfl ?_
  refine EWp.seqR [0, 1] fun K hK => ?_
  simp only [ev, fx, ↓reduceIte, Nat.reduceEqDiff, Nat.reduceLT, Nat.reduceLeDiff, Nat.reduceAdd, Nat.reduceSub, Nat.reduceMul, Int.reduceLT, Int.reduceLE, Int.reduceToNat, BitVec.reduceOfInt, BitVec.reduceToNat, reduceCtorEq, and_self, decide_true, decide_false, Bool.not_true, Bool.not_false, ne_eq, not_true_eq_false, not_false_eq_true, true_and, and_true]
  repeat (refine And.intro (by omega) ?_)
  refine hK _ _ ?_; clear hK K
  refine EWp.seqR [0, 1, 5] fun K hK => ?_
  simp only [ev, fx, ↓reduceIte, Nat.reduceEqDiff, Nat.reduceLT, Nat.reduceLeDiff, Nat.reduceAdd, Nat.reduceSub, Nat.reduceMul, Int.reduceLT, Int.reduceLE, Int.reduceToNat, BitVec.reduceOfInt, BitVec.reduceToNat, reduceCtorEq, and_self, decide_true, decide_false, Bool.not_true, Bool.not_false, ne_eq, not_true_eq_false, not_false_eq_true, true_and, and_true]
  repeat (refine And.intro (by omega) ?_)
  refine SemE.makeInts (HL.start w) 3 intsl rfl rfl (by omega) rfl fun g w1 hl => ?_
  rw [List.nil_append] at hl
  simp only [ev, fx, ↓reduceIte, Nat.reduceEqDiff, Nat.reduceLT, Nat.reduceLeDiff, Nat.reduceAdd, Nat.reduceSub, Nat.reduceMul, Int.reduceLT, Int.reduceLE, Int.reduceToNat, BitVec.reduceOfInt, BitVec.reduceToNat, reduceCtorEq, and_self, decide_true, decide_false, Bool.not_true, Bool.not_false, ne_eq, not_true_eq_false, not_false_eq_true, true_and, and_true]
  repeat (refine And.intro (by omega) ?_)
  refine hK _ _ ?_; clear hK K
  have hlo : ∀ i, (outS us bs i).length = m + n + 1 := by
    have hin : ∀ i x (o : List Nat) k, (inS bs i x o k).1.length = o.length := by
      intro i x o k
      induction k with
      | zero => rfl
      | succ k ih => simp [inS, ih]
    intro i
    induction i with
    | zero => simp [outS, hm, hn]
    | succ i ih => simp [outS, hin, ih]
  have hir : ∀ i x (o : List Nat) k, (inS bs i x o k).1.length = o.length := by
    intro i x o k
    induction k with
    | zero => rfl
    | succ k ih => simp [inS, ih]
  refine EWp.cut [5] (fun S' w' => S' = [(5, .sl (some ⟨g, 0, none⟩) (m + n + 1) (m + n + 1))] ∧ HL w w' [] [(g, 3, (timesF us bs).map SV.nat)]) ?_ ?_
  case refine_2 =>
    clear hl
    rintro S' w' ⟨rfl, hl⟩
    refine EWp.seqR [4] fun K hK => ?_
    simp only [ev, fx, ↓reduceIte, Nat.reduceEqDiff, Nat.reduceLT, Nat.reduceLeDiff, Nat.reduceAdd, Nat.reduceSub, Nat.reduceMul, Int.reduceLT, Int.reduceLE, Int.reduceToNat, BitVec.reduceOfInt, BitVec.reduceToNat, reduceCtorEq, and_self, decide_true, decide_false, Bool.not_true, Bool.not_false, ne_eq, not_true_eq_false, not_false_eq_true, true_and, and_true]
    repeat (refine And.intro (by omega) ?_)
    refine hK _ _ ?_; clear hK K
    have ho : Own 3 1 (.sl (some ⟨g, 0, none⟩) (m + n + 1) (m + n + 1)) (m + n + 1) ((timesF us bs).map SV.nat) [(g, 3, (timesF us bs).map SV.nat)] := Own.full (by rw [List.length_map, timesF, hlo]; omega) (by unfold maxLen; omega)
    exact EWp.ret (BodyE.tmp1 rfl rfl ⟨_, rfl, ho.nums (H := []) (by rw [List.append_nil]; exact hl), hl.toGrow⟩)
  refine EWp.seqR [1, 5, 18, 19, 20] fun K hK => ?_
  simp only [ev, fx, ↓reduceIte, Nat.reduceEqDiff, Nat.reduceLT, Nat.reduceLeDiff, Nat.reduceAdd, Nat.reduceSub, Nat.reduceMul, Int.reduceLT, Int.reduceLE, Int.reduceToNat, BitVec.reduceOfInt, BitVec.reduceToNat, reduceCtorEq, and_self, decide_true, decide_false, Bool.not_true, Bool.not_false, ne_eq, not_true_eq_false, not_false_eq_true, true_and, and_true]
  repeat (refine And.intro (by omega) ?_)
  refine hK _ _ ?_; clear hK K
  refine EWp.block ?_
  refine EWp.loop [1, 5, 18, 19, 20] (fun k S' w' => ∃ i : Nat, i ≤ m ∧ k = m - i ∧ S' = [(1, .sl b n cb), (5, .sl (some ⟨g, 0, none⟩) (m + n + 1) (m + n + 1)), (18, .sl a m ca), (19, .nat m), (20, .nat i)] ∧ (∀ z ∈ outS us bs i, z ≤ 137438953472 * (i + 1)) ∧ HL w w' [] [(g, 3, (outS us bs i).map SV.nat)]) m ?_ ?_
  case refine_1 => exact ⟨0, by omega, rfl, rfl, fun z hz => by have := List.eq_of_mem_replicate (show z ∈ List.replicate (us.length + bs.length + 1) 0 from hz); omega, by simpa [outS, hm, hn] using hl⟩
  clear hl
  rintro k S' w' ⟨i, hi, rfl, rfl, hbd, hl⟩
  refine EWp.seqR [1, 5, 18, 19, 20, 21] fun K hK => ?_
  simp only [ev, fx, ↓reduceIte, Nat.reduceEqDiff, Nat.reduceLT, Nat.reduceLeDiff, Nat.reduceAdd, Nat.reduceSub, Nat.reduceMul, Int.reduceLT, Int.reduceLE, Int.reduceToNat, BitVec.reduceOfInt, BitVec.reduceToNat, reduceCtorEq, and_self, decide_true, decide_false, Bool.not_true, Bool.not_false, ne_eq, not_true_eq_false, not_false_eq_true, true_and, and_true]
  repeat (refine And.intro (by omega) ?_)
  refine hK _ _ ?_; clear hK K
  refine EWp.guard (b := decide (i < m)) rfl (fun hlt => ?_) (fun hlt => ?_)
  case refine_2 =>
    have hlt := of_decide_eq_false hlt
    obtain rfl : i = m := by omega
    simp only [BlockE, ThenE, ↓reduceIte]
    exact ⟨rfl, by rw [timesF, hm]; exact hl⟩
  have hlt := of_decide_eq_true hlt
  refine EWp.cut [1, 5, 18, 19, 20] (fun S' w' => S' = [(1, .sl b n cb), (5, .sl (some ⟨g, 0, none⟩) (m + n + 1) (m + n + 1)), (18, .sl a m ca), (19, .nat m), (20, .nat i)] ∧ (∀ z ∈ outS us bs (i + 1), z ≤ 137438953472 * (i + 1 + 1)) ∧ HL w w' [] [(g, 3, (outS us bs (i + 1)).map SV.nat)]) ?_ ?_
  case refine_2 =>
    clear hl
    rintro S' w' ⟨rfl, hbd, hl⟩
    refine EWp.regR [1, 5, 18, 19, 20] fun K hK => ?_
    simp only [ev, fx, ↓reduceIte, Nat.reduceEqDiff, Nat.reduceLT, Nat.reduceLeDiff, Nat.reduceAdd, Nat.reduceSub, Nat.reduceMul, Int.reduceLT, Int.reduceLE, Int.reduceToNat, BitVec.reduceOfInt, BitVec.reduceToNat, reduceCtorEq, and_self, decide_true, decide_false, Bool.not_true, Bool.not_false, ne_eq, not_true_eq_false, not_false_eq_true, true_and, and_true]
    exact ⟨by omega, hK _ _ fun S1 h1 => ⟨m - i - 1, by omega, i + 1, by omega, by omega, h1, hbd, hl⟩⟩
  refine EWp.block ?_
  obtain ⟨p, rfl, _, _⟩ := hra i (.nat (us.getD i 0)) (nat_get (by omega))
  refine EWp.seqR [1, 5, 6, 7, 18, 19, 20] fun K hK => ?_
  simp only [ev, fx, ↓reduceIte, Nat.reduceEqDiff, Nat.reduceLT, Nat.reduceLeDiff, Nat.reduceAdd, Nat.reduceSub, Nat.reduceMul, Int.reduceLT, Int.reduceLE, Int.reduceToNat, BitVec.reduceOfInt, BitVec.reduceToNat, reduceCtorEq, and_self, decide_true, decide_false, Bool.not_true, Bool.not_false, ne_eq, not_true_eq_false, not_false_eq_true, true_and, and_true]
  refine ⟨by omega, SemE.load (.nat (us.getD i 0)) rfl one_3 rfl ((hra.grow hl.toGrow).at (nat_get (by omega))) ?_⟩
  simp only [ev, fx, ↓reduceIte, Nat.reduceEqDiff, Nat.reduceLT, Nat.reduceLeDiff, Nat.reduceAdd, Nat.reduceSub, Nat.reduceMul, Int.reduceLT, Int.reduceLE, Int.reduceToNat, BitVec.reduceOfInt, BitVec.reduceToNat, reduceCtorEq, and_self, decide_true, decide_false, Bool.not_true, Bool.not_false, ne_eq, not_true_eq_false, not_false_eq_true, true_and, and_true]
  repeat (refine And.intro (by omega) ?_)
  refine hK _ _ ?_; clear hK K
  refine EWp.seqR [1, 5, 6, 7, 8, 18, 19, 20] fun K hK => ?_
  simp only [ev, fx, ↓reduceIte, Nat.reduceEqDiff, Nat.reduceLT, Nat.reduceLeDiff, Nat.reduceAdd, Nat.reduceSub, Nat.reduceMul, Int.reduceLT, Int.reduceLE, Int.reduceToNat, BitVec.reduceOfInt, BitVec.reduceToNat, reduceCtorEq, and_self, decide_true, decide_false, Bool.not_true, Bool.not_false, ne_eq, not_true_eq_false, not_false_eq_true, true_and, and_true]
  repeat (refine And.intro (by omega) ?_)
  refine hK _ _ ?_; clear hK K
  have hx : us.getD i 0 ≤ 16777216 := getD_le h1 i
  have hos : outS us bs (i + 1) = (inS bs i (us.getD i 0) (outS us bs i) n).1.set (i + n) ((inS bs i (us.getD i 0) (outS us bs i) n).1.getD (i + n) 0 + (inS bs i (us.getD i 0) (outS us bs i) n).2) := by rw [outS, hn]
  have hol := hlo i
  rw [hos]
  generalize outS us bs i = o at *
  generalize us.getD i 0 = x at *
  have hil := hir i x o
  refine EWp.cut [1, 5, 6, 7, 8, 18, 19, 20] (fun S' w' => S' = [(1, .sl b n cb), (5, .sl (some ⟨g, 0, none⟩) (m + n + 1) (m + n + 1)), (6, .nat i), (7, .nat x), (8, .nat (inS bs i x o n).2), (18, .sl (some p) m ca), (19, .nat m), (20, .nat i)] ∧ (∀ z ∈ (inS bs i x o n).1, z ≤ 137438953472 * (i + 1)) ∧ (inS bs i x o n).2 ≤ 68719476736 ∧ HL w w' [] [(g, 3, ((inS bs i x o n).1).map SV.nat)]) ?_ ?_
  case refine_2 =>
    clear hl
    rintro S' w' ⟨rfl, hbd, hcb, hl⟩
    have hil := hil n
    generalize inS bs i x o n = q at *
    have hgd := getD_le hbd (i + n)
    refine EWp.regR [1, 5, 18, 19, 20] fun K hK => ?_
    simp only [ev, fx, ↓reduceIte, Nat.reduceEqDiff, Nat.reduceLT, Nat.reduceLeDiff, Nat.reduceAdd, Nat.reduceSub, Nat.reduceMul, Int.reduceLT, Int.reduceLE, Int.reduceToNat, BitVec.reduceOfInt, BitVec.reduceToNat, reduceCtorEq, and_self, decide_true, decide_false, Bool.not_true, Bool.not_false, ne_eq, not_true_eq_false, not_false_eq_true, true_and, and_true]
    repeat (refine And.intro (by omega) ?_)
    refine SemE.loadB hl 0 rfl one_3 rfl rfl (by first | exact nat_get (j := i + n) (by omega) | (rw [Nat.zero_add]; exact nat_get (j := i + n) (by omega))) ?_
    simp only [ev, fx, ↓reduceIte, Nat.reduceEqDiff, Nat.reduceLT, Nat.reduceLeDiff, Nat.reduceAdd, Nat.reduceSub, Nat.reduceMul, Int.reduceLT, Int.reduceLE, Int.reduceToNat, BitVec.reduceOfInt, BitVec.reduceToNat, reduceCtorEq, and_self, decide_true, decide_false, Bool.not_true, Bool.not_false, ne_eq, not_true_eq_false, not_false_eq_true, true_and, and_true]
    repeat (refine And.intro (by omega) ?_)
    refine SemE.storeB (v := .nat (q.1.getD (i + n) 0 + q.2)) hl 0 rfl rfl one_3 rfl rfl (by rw [List.length_map]; omega) fun w2 hl => ?_
    simp only [List.set_cons_zero, Nat.zero_add, set_nat] at hl
    simp only [ev, fx, ↓reduceIte, Nat.reduceEqDiff, Nat.reduceLT, Nat.reduceLeDiff, Nat.reduceAdd, Nat.reduceSub, Nat.reduceMul, Int.reduceLT, Int.reduceLE, Int.reduceToNat, BitVec.reduceOfInt, BitVec.reduceToNat, reduceCtorEq, and_self, decide_true, decide_false, Bool.not_true, Bool.not_false, ne_eq, not_true_eq_false, not_false_eq_true, true_and, and_true]
    refine hK _ _ fun S1 h1 => ?_; clear hK K
    simp only [BlockE, ThenE]
    refine ⟨h1, set_le (B := 137438953472 * (i + 1 + 1)) (fun z hz => ?_) (by omega) _, hl⟩
    have := hbd z hz
    omega
  refine EWp.seqR [1, 5, 6, 7, 8, 18, 19, 20, 25, 26, 27] fun K hK => ?_
  simp only [ev, fx, ↓reduceIte, Nat.reduceEqDiff, Nat.reduceLT, Nat.reduceLeDiff, Nat.reduceAdd, Nat.reduceSub, Nat.reduceMul, Int.reduceLT, Int.reduceLE, Int.reduceToNat, BitVec.reduceOfInt, BitVec.reduceToNat, reduceCtorEq, and_self, decide_true, decide_false, Bool.not_true, Bool.not_false, ne_eq, not_true_eq_false, not_false_eq_true, true_and, and_true]
  repeat (refine And.intro (by omega) ?_)
  refine hK _ _ ?_; clear hK K
  refine EWp.block ?_
  refine EWp.loop [1, 5, 6, 7, 8, 18, 19, 20, 25, 26, 27] (fun r S' w' => ∃ k : Nat, k ≤ n ∧ r = n - k ∧ S' = [(1, .sl b n cb), (5, .sl (some ⟨g, 0, none⟩) (m + n + 1) (m + n + 1)), (6, .nat i), (7, .nat x), (8, .nat (inS bs i x o k).2), (18, .sl (some p) m ca), (19, .nat m), (20, .nat i), (25, .sl b n cb), (26, .nat n), (27, .nat k)] ∧ (∀ z ∈ (inS bs i x o k).1, z ≤ 137438953472 * (i + 1)) ∧ (inS bs i x o k).2 ≤ 68719476736 ∧ HL w w' [] [(g, 3, ((inS bs i x o k).1).map SV.nat)]) n ?_ ?_
  case refine_1 => exact ⟨0, by omega, rfl, rfl, hbd, Nat.zero_le _, hl⟩
  clear hl hbd hos
  rintro r S' w' ⟨k, hk, rfl, rfl, hbd, hcy, hl⟩
  refine EWp.seqR [1, 5, 6, 7, 8, 18, 19, 20, 25, 26, 27, 28] fun K hK => ?_
  simp only [ev, fx, ↓reduceIte, Nat.reduceEqDiff, Nat.reduceLT, Nat.reduceLeDiff, Nat.reduceAdd, Nat.reduceSub, Nat.reduceMul, Int.reduceLT, Int.reduceLE, Int.reduceToNat, BitVec.reduceOfInt, BitVec.reduceToNat, reduceCtorEq, and_self, decide_true, decide_false, Bool.not_true, Bool.not_false, ne_eq, not_true_eq_false, not_false_eq_true, true_and, and_true]
  repeat (refine And.intro (by omega) ?_)
  refine hK _ _ ?_; clear hK K
  refine EWp.guard (b := decide (k < n)) rfl (fun hlt2 => ?_) (fun hlt2 => ?_)
  case refine_2 =>
    have hlt2 := of_decide_eq_false hlt2
    obtain rfl : k = n := by omega
    simp only [BlockE, ThenE, ↓reduceIte]
    exact ⟨rfl, hbd, hcy, hl⟩
  have hlt2 := of_decide_eq_true hlt2
  refine EWp.cut [1, 5, 6, 7, 8, 18, 19, 20, 25, 26, 27] (fun S' w' => S' = [(1, .sl b n cb), (5, .sl (some ⟨g, 0, none⟩) (m + n + 1) (m + n + 1)), (6, .nat i), (7, .nat x), (8, .nat (inS bs i x o (k + 1)).2), (18, .sl (some p) m ca), (19, .nat m), (20, .nat i), (25, .sl b n cb), (26, .nat n), (27, .nat k)] ∧ (∀ z ∈ (inS bs i x o (k + 1)).1, z ≤ 137438953472 * (i + 1)) ∧ (inS bs i x o (k + 1)).2 ≤ 68719476736 ∧ HL w w' [] [(g, 3, ((inS bs i x o (k + 1)).1).map SV.nat)]) ?_ ?_
  case refine_2 =>
    clear hl
    rintro S' w' ⟨rfl, hbd, hcy, hl⟩
    refine EWp.regR [1, 5, 6, 7, 8, 18, 19, 20, 25, 26, 27] fun K hK => ?_
    simp only [ev, fx, ↓reduceIte, Nat.reduceEqDiff, Nat.reduceLT, Nat.reduceLeDiff, Nat.reduceAdd, Nat.reduceSub, Nat.reduceMul, Int.reduceLT, Int.reduceLE, Int.reduceToNat, BitVec.reduceOfInt, BitVec.reduceToNat, reduceCtorEq, and_self, decide_true, decide_false, Bool.not_true, Bool.not_false, ne_eq, not_true_eq_false, not_false_eq_true, true_and, and_true]
    exact ⟨by omega, hK _ _ fun S1 h1 => ⟨n - k - 1, by omega, k + 1, by omega, by omega, h1, hbd, hcy, hl⟩⟩
  refine EWp.block ?_
  obtain ⟨p2, rfl, _, _⟩ := hrb k (.nat (bs.getD k 0)) (nat_get (by omega))
  refine EWp.seqR [1, 5, 6, 7, 8, 9, 10, 18, 19, 20, 25, 26, 27] fun K hK => ?_
  simp only [ev, fx, ↓reduceIte, Nat.reduceEqDiff, Nat.reduceLT, Nat.reduceLeDiff, Nat.reduceAdd, Nat.reduceSub, Nat.reduceMul, Int.reduceLT, Int.reduceLE, Int.reduceToNat, BitVec.reduceOfInt, BitVec.reduceToNat, reduceCtorEq, and_self, decide_true, decide_false, Bool.not_true, Bool.not_false, ne_eq, not_true_eq_false, not_false_eq_true, true_and, and_true]
  refine ⟨by omega, SemE.load (.nat (bs.getD k 0)) rfl one_3 rfl ((hrb.grow hl.toGrow).at (nat_get (by omega))) ?_⟩
  simp only [ev, fx, ↓reduceIte, Nat.reduceEqDiff, Nat.reduceLT, Nat.reduceLeDiff, Nat.reduceAdd, Nat.reduceSub, Nat.reduceMul, Int.reduceLT, Int.reduceLE, Int.reduceToNat, BitVec.reduceOfInt, BitVec.reduceToNat, reduceCtorEq, and_self, decide_true, decide_false, Bool.not_true, Bool.not_false, ne_eq, not_true_eq_false, not_false_eq_true, true_and, and_true]
  repeat (refine And.intro (by omega) ?_)
  refine hK _ _ ?_; clear hK K
  have hy : bs.getD k 0 ≤ 16777216 := getD_le h2 k
  have hgd := getD_le hbd (i + k)
  have hil := hil k
  have hxy : x * bs.getD k 0 ≤ 16777216 * 16777216 := Nat.mul_le_mul hx hy
  simp only [inS]
  generalize bs.getD k 0 = y at *
  generalize inS bs i x o k = q at *
  refine EWp.seqR [1, 5, 6, 7, 8, 9, 10, 18, 19, 20, 25, 26, 27] fun K hK => ?_
  simp only [ev, fx, ↓reduceIte, Nat.reduceEqDiff, Nat.reduceLT, Nat.reduceLeDiff, Nat.reduceAdd, Nat.reduceSub, Nat.reduceMul, Int.reduceLT, Int.reduceLE, Int.reduceToNat, BitVec.reduceOfInt, BitVec.reduceToNat, reduceCtorEq, and_self, decide_true, decide_false, Bool.not_true, Bool.not_false, ne_eq, not_true_eq_false, not_false_eq_true, true_and, and_true]
  repeat (refine And.intro (by omega) ?_)
  refine SemE.loadB hl 0 rfl one_3 rfl rfl (by first | exact nat_get (j := i + k) (by omega) | (rw [Nat.zero_add]; exact nat_get (j := i + k) (by omega))) ?_
  simp only [ev, fx, ↓reduceIte, Nat.reduceEqDiff, Nat.reduceLT, Nat.reduceLeDiff, Nat.reduceAdd, Nat.reduceSub, Nat.reduceMul, Int.reduceLT, Int.reduceLE, Int.reduceToNat, BitVec.reduceOfInt, BitVec.reduceToNat, reduceCtorEq, and_self, decide_true, decide_false, Bool.not_true, Bool.not_false, ne_eq, not_true_eq_false, not_false_eq_true, true_and, and_true]
  repeat (refine And.intro (by omega) ?_)
  repeat (refine And.intro (by omega) ?_)
  refine hK _ _ ?_; clear hK K
  generalize hT : q.2 + (q.1.getD (i + k) 0 + x * y) = T at *
  have hTb : T ≤ 562949953421312 := by omega
  refine EWp.seqR [1, 5, 6, 7, 8, 9, 10, 18, 19, 20, 25, 26, 27] fun K hK => ?_
  simp only [ev, fx, ↓reduceIte, Nat.reduceEqDiff, Nat.reduceLT, Nat.reduceLeDiff, Nat.reduceAdd, Nat.reduceSub, Nat.reduceMul, Int.reduceLT, Int.reduceLE, Int.reduceToNat, BitVec.reduceOfInt, BitVec.reduceToNat, reduceCtorEq, and_self, decide_true, decide_false, Bool.not_true, Bool.not_false, ne_eq, not_true_eq_false, not_false_eq_true, true_and, and_true]
  repeat (refine And.intro (by omega) ?_)
  refine SemE.storeB (v := .nat (T % 65536)) hl 0 rfl rfl one_3 rfl rfl (by rw [List.length_map]; omega) fun w2 hl => ?_
  simp only [List.set_cons_zero, Nat.zero_add, set_nat] at hl
  simp only [ev, fx, ↓reduceIte, Nat.reduceEqDiff, Nat.reduceLT, Nat.reduceLeDiff, Nat.reduceAdd, Nat.reduceSub, Nat.reduceMul, Int.reduceLT, Int.reduceLE, Int.reduceToNat, BitVec.reduceOfInt, BitVec.reduceToNat, reduceCtorEq, and_self, decide_true, decide_false, Bool.not_true, Bool.not_false, ne_eq, not_true_eq_false, not_false_eq_true, true_and, and_true]
  repeat (refine And.intro (by omega) ?_)
  refine hK _ _ ?_; clear hK K
  refine EWp.regR [1, 5, 6, 7, 8, 18, 19, 20, 25, 26, 27] fun K hK => ?_
  simp only [ev, fx, ↓reduceIte, Nat.reduceEqDiff, Nat.reduceLT, Nat.reduceLeDiff, Nat.reduceAdd, Nat.reduceSub, Nat.reduceMul, Int.reduceLT, Int.reduceLE, Int.reduceToNat, BitVec.reduceOfInt, BitVec.reduceToNat, reduceCtorEq, and_self, decide_true, decide_false, Bool.not_true, Bool.not_false, ne_eq, not_true_eq_false, not_false_eq_true, true_and, and_true]
  repeat (refine And.intro (by omega) ?_)
  refine hK _ _ fun S1 h1 => ?_; clear hK K
  simp only [BlockE, ThenE]
  exact ⟨h1, set_le hbd (by omega) _, by omega, hl⟩
end Go.Proofs.YtloonhdnheobpaaDoor
