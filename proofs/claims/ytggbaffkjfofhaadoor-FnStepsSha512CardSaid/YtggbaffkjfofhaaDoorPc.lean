/- Pieces: whether they fit, whether they are few, and how they are joined. -/
import Derived.Test.YtggbaffkjfofhaaDoorFacts
set_option linter.unusedVariables false
set_option linter.unusedSimpArgs false
namespace Go.Proofs.YtggbaffkjfofhaaDoor
open Go

set_option maxRecDepth 100000 in
theorem fitsC (a : Option Addr) (n c : Nat) (tt : List (List (BitVec 8))) (w : World) (hr : RdD w a tt) (hn : tt.length = n) :
    Calls Tryd.prog 17 #[(SV.sl a n c).val] w fun e w' => ∃ b : Bool, e = .returned (SV.bool b).val ∧ w' = w := by
  refine calls_E [.sl a n c] Tryd.func17 rfl Tryd.ntmps17 rfl ?_
  refine EWp.seqR [0] fun K hK => ?_
  simp only [ev, fx, ↓reduceIte, Nat.reduceEqDiff, Nat.reduceLT, Nat.reduceLeDiff, Nat.reduceAdd, Nat.reduceSub, Nat.reduceMul, Int.reduceLT, Int.reduceLE, Int.reduceToNat, BitVec.reduceOfInt, BitVec.reduceToNat, reduceCtorEq, and_self, decide_true, decide_false, Bool.not_true, Bool.not_false, ne_eq, not_true_eq_false, not_false_eq_true, true_and, and_true]
  repeat (refine And.intro (by omega) ?_)
  refine hK _ _ ?_; clear hK K
  refine EWp.ifR [0, 7] fun K hK => ?_
  by_cases h1 : 2147483647 < n
  · simp only [ev, fx, ↓reduceIte, Nat.reduceEqDiff, Nat.reduceLT, Nat.reduceLeDiff, Nat.reduceAdd, Nat.reduceSub, Nat.reduceMul, Int.reduceLT, Int.reduceLE, Int.reduceToNat, BitVec.reduceOfInt, BitVec.reduceToNat, reduceCtorEq, and_self, decide_true, decide_false, Bool.not_true, Bool.not_false, ne_eq, not_true_eq_false, not_false_eq_true, true_and, and_true, h1]
    refine hK _ _ true rfl (fun _ => ?_) (fun h => by cases h); clear hK K
    refine EWp.seqR [2] fun K hK => ?_
    simp only [ev, fx, ↓reduceIte, Nat.reduceEqDiff, Nat.reduceLT, Nat.reduceLeDiff, Nat.reduceAdd, Nat.reduceSub, Nat.reduceMul, Int.reduceLT, Int.reduceLE, Int.reduceToNat, BitVec.reduceOfInt, BitVec.reduceToNat, reduceCtorEq, and_self, decide_true, decide_false, Bool.not_true, Bool.not_false, ne_eq, not_true_eq_false, not_false_eq_true, true_and, and_true]
    repeat (refine And.intro (by omega) ?_)
    refine hK _ _ ?_; clear hK K
    exact EWp.retT (BodyE.tmp1 rfl rfl ⟨_, rfl, rfl⟩)
  simp only [ev, fx, ↓reduceIte, Nat.reduceEqDiff, Nat.reduceLT, Nat.reduceLeDiff, Nat.reduceAdd, Nat.reduceSub, Nat.reduceMul, Int.reduceLT, Int.reduceLE, Int.reduceToNat, BitVec.reduceOfInt, BitVec.reduceToNat, reduceCtorEq, and_self, decide_true, decide_false, Bool.not_true, Bool.not_false, ne_eq, not_true_eq_false, not_false_eq_true, true_and, and_true, h1]
  refine hK _ _ false rfl (fun h => by cases h) (fun _ => ?_); clear hK K
  refine EWp.skipThen ?_
  refine EWp.cut [] (fun S' w' => w' = w) ?_ ?_
  case refine_2 =>
    rintro S' w' rfl
    refine EWp.seqR [2] fun K hK => ?_
    simp only [ev, fx, ↓reduceIte, Nat.reduceEqDiff, Nat.reduceLT, Nat.reduceLeDiff, Nat.reduceAdd, Nat.reduceSub, Nat.reduceMul, Int.reduceLT, Int.reduceLE, Int.reduceToNat, BitVec.reduceOfInt, BitVec.reduceToNat, reduceCtorEq, and_self, decide_true, decide_false, Bool.not_true, Bool.not_false, ne_eq, not_true_eq_false, not_false_eq_true, true_and, and_true]
    repeat (refine And.intro (by omega) ?_)
    refine hK _ _ ?_; clear hK K
    exact EWp.ret (BodyE.tmp1 rfl rfl ⟨_, rfl, rfl⟩)
  refine EWp.seqR [8, 9, 10] fun K hK => ?_
  simp only [ev, fx, ↓reduceIte, Nat.reduceEqDiff, Nat.reduceLT, Nat.reduceLeDiff, Nat.reduceAdd, Nat.reduceSub, Nat.reduceMul, Int.reduceLT, Int.reduceLE, Int.reduceToNat, BitVec.reduceOfInt, BitVec.reduceToNat, reduceCtorEq, and_self, decide_true, decide_false, Bool.not_true, Bool.not_false, ne_eq, not_true_eq_false, not_false_eq_true, true_and, and_true]
  repeat (refine And.intro (by omega) ?_)
  refine hK _ _ ?_; clear hK K
  refine EWp.block ?_
  refine EWp.loop [8, 9, 10] (fun k S' w' => ∃ i, i ≤ n ∧ k = n - i ∧ S' = [(8, .sl a n c), (9, .nat n), (10, .nat i)] ∧ w' = w) n ?_ ?_
  case refine_1 => exact ⟨0, by omega, rfl, rfl, rfl⟩
  rintro k S' w' ⟨i, hi, rfl, rfl, hw⟩
  rw [hw]; clear hw w'
  refine EWp.seqR [8, 9, 10, 11] fun K hK => ?_
  simp only [ev, fx, ↓reduceIte, Nat.reduceEqDiff, Nat.reduceLT, Nat.reduceLeDiff, Nat.reduceAdd, Nat.reduceSub, Nat.reduceMul, Int.reduceLT, Int.reduceLE, Int.reduceToNat, BitVec.reduceOfInt, BitVec.reduceToNat, reduceCtorEq, and_self, decide_true, decide_false, Bool.not_true, Bool.not_false, ne_eq, not_true_eq_false, not_false_eq_true, true_and, and_true]
  repeat (refine And.intro (by omega) ?_)
  refine hK _ _ ?_; clear hK K
  refine EWp.guard (b := decide (i < n)) rfl (fun hlt => ?_) (fun hlt => ?_)
  case refine_2 =>
    simp only [BlockE, ThenE, ↓reduceIte]
  have hlt := of_decide_eq_true hlt
  obtain ⟨p, v, rfl, hcell, a', c', hv, _⟩ := hr.at (i := i) (by omega)
  generalize (tt.getD i []).length = m at hv
  subst hv
  refine EWp.cut [8, 9, 10] (fun S' w' => S' = [(8, .sl (some p) n c), (9, .nat n), (10, .nat i)] ∧ w' = w) ?_ ?_
  case refine_2 =>
    rintro S' w' ⟨rfl, hw⟩
    rw [hw]
    refine EWp.regR [8, 9, 10] fun K hK => ?_
    simp only [ev, fx, ↓reduceIte, Nat.reduceEqDiff, Nat.reduceLT, Nat.reduceLeDiff, Nat.reduceAdd, Nat.reduceSub, Nat.reduceMul, Int.reduceLT, Int.reduceLE, Int.reduceToNat, BitVec.reduceOfInt, BitVec.reduceToNat, reduceCtorEq, and_self, decide_true, decide_false, Bool.not_true, Bool.not_false, ne_eq, not_true_eq_false, not_false_eq_true, true_and, and_true]
    exact ⟨by omega, hK _ _ fun S1 h1 => ⟨n - i - 1, by omega, i + 1, by omega, by omega, h1, rfl⟩⟩
  refine EWp.block ?_
  refine EWp.seqR [4, 8, 9, 10] fun K hK => ?_
  simp only [ev, fx, ↓reduceIte, Nat.reduceEqDiff, Nat.reduceLT, Nat.reduceLeDiff, Nat.reduceAdd, Nat.reduceSub, Nat.reduceMul, Int.reduceLT, Int.reduceLE, Int.reduceToNat, BitVec.reduceOfInt, BitVec.reduceToNat, reduceCtorEq, and_self, decide_true, decide_false, Bool.not_true, Bool.not_false, ne_eq, not_true_eq_false, not_false_eq_true, true_and, and_true]
  refine ⟨by omega, SemE.load (.sl a' m c') rfl one_23 rfl hcell ?_⟩
  simp only [ev, fx, ↓reduceIte, Nat.reduceEqDiff, Nat.reduceLT, Nat.reduceLeDiff, Nat.reduceAdd, Nat.reduceSub, Nat.reduceMul, Int.reduceLT, Int.reduceLE, Int.reduceToNat, BitVec.reduceOfInt, BitVec.reduceToNat, reduceCtorEq, and_self, decide_true, decide_false, Bool.not_true, Bool.not_false, ne_eq, not_true_eq_false, not_false_eq_true, true_and, and_true]
  repeat (refine And.intro (by omega) ?_)
  refine hK _ _ ?_; clear hK K
  refine EWp.brR [8, 9, 10, 16] fun K hK => ?_
  simp only [ev, fx, ↓reduceIte, Nat.reduceEqDiff, Nat.reduceLT, Nat.reduceLeDiff, Nat.reduceAdd, Nat.reduceSub, Nat.reduceMul, Int.reduceLT, Int.reduceLE, Int.reduceToNat, BitVec.reduceOfInt, BitVec.reduceToNat, reduceCtorEq, and_self, decide_true, decide_false, Bool.not_true, Bool.not_false, ne_eq, not_true_eq_false, not_false_eq_true, true_and, and_true]
  refine hK _ _ (decide (2147483647 < m)) rfl (fun _ => ?_) (fun _ => ?_) <;> clear hK K
  · refine EWp.seqR [2] fun K hK => ?_
    simp only [ev, fx, ↓reduceIte, Nat.reduceEqDiff, Nat.reduceLT, Nat.reduceLeDiff, Nat.reduceAdd, Nat.reduceSub, Nat.reduceMul, Int.reduceLT, Int.reduceLE, Int.reduceToNat, BitVec.reduceOfInt, BitVec.reduceToNat, reduceCtorEq, and_self, decide_true, decide_false, Bool.not_true, Bool.not_false, ne_eq, not_true_eq_false, not_false_eq_true, true_and, and_true]
    repeat (refine And.intro (by omega) ?_)
    refine hK _ _ ?_; clear hK K
    refine EWp.ret ?_
    simp only [BlockE, ThenE]
    exact BodyE.tmp1 rfl rfl ⟨_, rfl, rfl⟩
  · refine EWp.skip ?_
    simp only [BlockE, ThenE]
    exact ⟨rfl, trivial⟩

def fewB (tt : List (List (BitVec 8))) : Bool := decide (tt.length ≤ 100 ∧ (cat tt).length ≤ 5000)
theorem cat_le (tt : List (List (BitVec 8))) (i : Nat) : (cat (tt.take i)).length ≤ (cat tt).length := by
  have h2 : cat tt = cat (tt.take i) ++ cat (tt.drop i) := by unfold cat; rw [← List.flatten_append, List.take_append_drop]
  rw [h2, List.length_append]; omega
theorem fewB_no {tt : List (List (BitVec 8))} (h : ¬ (tt.length ≤ 100 ∧ (cat tt).length ≤ 5000)) : fewB tt = false := decide_eq_false h
theorem fewB_yes {tt : List (List (BitVec 8))} (h : tt.length ≤ 100 ∧ (cat tt).length ≤ 5000) : fewB tt = true := decide_eq_true h

set_option maxRecDepth 100000 in
theorem fewC (a : Option Addr) (n c : Nat) (tt : List (List (BitVec 8))) (w : World) (hr : RdD w a tt) (hn : tt.length = n) :
    Calls Tryd.prog 18 #[(SV.sl a n c).val] w fun e w' => e = .returned (SV.bool (fewB tt)).val ∧ w' = w := by
  refine calls_E [.sl a n c] Tryd.func18 rfl Tryd.ntmps18 rfl ?_
  refine EWp.seqR [0] fun K hK => ?_
  simp only [ev, fx, ↓reduceIte, Nat.reduceEqDiff, Nat.reduceLT, Nat.reduceLeDiff, Nat.reduceAdd, Nat.reduceSub, Nat.reduceMul, Int.reduceLT, Int.reduceLE, Int.reduceToNat, BitVec.reduceOfInt, BitVec.reduceToNat, reduceCtorEq, and_self, decide_true, decide_false, Bool.not_true, Bool.not_false, ne_eq, not_true_eq_false, not_false_eq_true, true_and, and_true]
  repeat (refine And.intro (by omega) ?_)
  refine hK _ _ ?_; clear hK K
  refine EWp.ifR [0, 8] fun K hK => ?_
  by_cases h1 : 100 < n
  · simp only [ev, fx, ↓reduceIte, Nat.reduceEqDiff, Nat.reduceLT, Nat.reduceLeDiff, Nat.reduceAdd, Nat.reduceSub, Nat.reduceMul, Int.reduceLT, Int.reduceLE, Int.reduceToNat, BitVec.reduceOfInt, BitVec.reduceToNat, reduceCtorEq, and_self, decide_true, decide_false, Bool.not_true, Bool.not_false, ne_eq, not_true_eq_false, not_false_eq_true, true_and, and_true, h1]
    refine hK _ _ true rfl (fun _ => ?_) (fun h => by cases h); clear hK K
    refine EWp.seqR [2] fun K hK => ?_
    simp only [ev, fx, ↓reduceIte, Nat.reduceEqDiff, Nat.reduceLT, Nat.reduceLeDiff, Nat.reduceAdd, Nat.reduceSub, Nat.reduceMul, Int.reduceLT, Int.reduceLE, Int.reduceToNat, BitVec.reduceOfInt, BitVec.reduceToNat, reduceCtorEq, and_self, decide_true, decide_false, Bool.not_true, Bool.not_false, ne_eq, not_true_eq_false, not_false_eq_true, true_and, and_true]
    repeat (refine And.intro (by omega) ?_)
    refine hK _ _ ?_; clear hK K
    exact EWp.retT (BodyE.tmp1 rfl rfl ⟨by rw [fewB_no (by omega)], rfl⟩)
  simp only [ev, fx, ↓reduceIte, Nat.reduceEqDiff, Nat.reduceLT, Nat.reduceLeDiff, Nat.reduceAdd, Nat.reduceSub, Nat.reduceMul, Int.reduceLT, Int.reduceLE, Int.reduceToNat, BitVec.reduceOfInt, BitVec.reduceToNat, reduceCtorEq, and_self, decide_true, decide_false, Bool.not_true, Bool.not_false, ne_eq, not_true_eq_false, not_false_eq_true, true_and, and_true, h1]
  refine hK _ _ false rfl (fun h => by cases h) (fun _ => ?_); clear hK K
  refine EWp.skipThen ?_
  refine EWp.seqR [0, 3] fun K hK => ?_
  simp only [ev, fx, ↓reduceIte, Nat.reduceEqDiff, Nat.reduceLT, Nat.reduceLeDiff, Nat.reduceAdd, Nat.reduceSub, Nat.reduceMul, Int.reduceLT, Int.reduceLE, Int.reduceToNat, BitVec.reduceOfInt, BitVec.reduceToNat, reduceCtorEq, and_self, decide_true, decide_false, Bool.not_true, Bool.not_false, ne_eq, not_true_eq_false, not_false_eq_true, true_and, and_true]
  repeat (refine And.intro (by omega) ?_)
  refine hK _ _ ?_; clear hK K
  refine EWp.cut [] (fun S' w' => w' = w ∧ (cat tt).length ≤ 5000) ?_ ?_
  case refine_2 =>
    rintro S' w' ⟨hw, hc⟩
    rw [hw]
    refine EWp.seqR [2] fun K hK => ?_
    simp only [ev, fx, ↓reduceIte, Nat.reduceEqDiff, Nat.reduceLT, Nat.reduceLeDiff, Nat.reduceAdd, Nat.reduceSub, Nat.reduceMul, Int.reduceLT, Int.reduceLE, Int.reduceToNat, BitVec.reduceOfInt, BitVec.reduceToNat, reduceCtorEq, and_self, decide_true, decide_false, Bool.not_true, Bool.not_false, ne_eq, not_true_eq_false, not_false_eq_true, true_and, and_true]
    repeat (refine And.intro (by omega) ?_)
    refine hK _ _ ?_; clear hK K
    exact EWp.ret (BodyE.tmp1 rfl rfl ⟨by rw [fewB_yes ⟨by omega, hc⟩], rfl⟩)
  refine EWp.seqR [3, 9, 10, 11] fun K hK => ?_
  simp only [ev, fx, ↓reduceIte, Nat.reduceEqDiff, Nat.reduceLT, Nat.reduceLeDiff, Nat.reduceAdd, Nat.reduceSub, Nat.reduceMul, Int.reduceLT, Int.reduceLE, Int.reduceToNat, BitVec.reduceOfInt, BitVec.reduceToNat, reduceCtorEq, and_self, decide_true, decide_false, Bool.not_true, Bool.not_false, ne_eq, not_true_eq_false, not_false_eq_true, true_and, and_true]
  repeat (refine And.intro (by omega) ?_)
  refine hK _ _ ?_; clear hK K
  refine EWp.block ?_
  refine EWp.loop [3, 9, 10, 11] (fun k S' w' => ∃ i, i ≤ n ∧ k = n - i ∧ (cat (tt.take i)).length ≤ 5000 ∧ S' = [(3, .nat (cat (tt.take i)).length), (9, .sl a n c), (10, .nat n), (11, .nat i)] ∧ w' = w) n ?_ ?_
  case refine_1 => exact ⟨0, by omega, rfl, by simp [cat], rfl, rfl⟩
  rintro k S' w' ⟨i, hi, rfl, hs, rfl, hw⟩
  rw [hw]; clear hw w'
  refine EWp.seqR [3, 9, 10, 11, 12] fun K hK => ?_
  simp only [ev, fx, ↓reduceIte, Nat.reduceEqDiff, Nat.reduceLT, Nat.reduceLeDiff, Nat.reduceAdd, Nat.reduceSub, Nat.reduceMul, Int.reduceLT, Int.reduceLE, Int.reduceToNat, BitVec.reduceOfInt, BitVec.reduceToNat, reduceCtorEq, and_self, decide_true, decide_false, Bool.not_true, Bool.not_false, ne_eq, not_true_eq_false, not_false_eq_true, true_and, and_true]
  repeat (refine And.intro (by omega) ?_)
  refine hK _ _ ?_; clear hK K
  refine EWp.guard (b := decide (i < n)) rfl (fun hlt => ?_) (fun hlt => ?_)
  case refine_2 =>
    have hlt := of_decide_eq_false hlt
    simp only [BlockE, ThenE, ↓reduceIte]
    have : tt.take i = tt := List.take_of_length_le (by omega)
    rw [this] at hs
    exact ⟨trivial, hs⟩
  have hlt := of_decide_eq_true hlt
  have hsucc := congrArg List.length (cat_take_succ tt i (by omega))
  rw [List.length_append] at hsucc
  obtain ⟨p, v, rfl, hcell, a', c', hv, _⟩ := hr.at (i := i) (by omega)
  generalize (tt.getD i []).length = m at hv hsucc
  generalize (cat (tt.take i)).length = s at hs hsucc ⊢
  subst hv
  refine EWp.cut [3, 9, 10, 11] (fun S' w' => s + m ≤ 5000 ∧ S' = [(3, .nat (s + m)), (9, .sl (some p) n c), (10, .nat n), (11, .nat i)] ∧ w' = w) ?_ ?_
  case refine_2 =>
    rintro S' w' ⟨hs2, rfl, hw⟩
    rw [hw]
    refine EWp.regR [3, 9, 10, 11] fun K hK => ?_
    simp only [ev, fx, ↓reduceIte, Nat.reduceEqDiff, Nat.reduceLT, Nat.reduceLeDiff, Nat.reduceAdd, Nat.reduceSub, Nat.reduceMul, Int.reduceLT, Int.reduceLE, Int.reduceToNat, BitVec.reduceOfInt, BitVec.reduceToNat, reduceCtorEq, and_self, decide_true, decide_false, Bool.not_true, Bool.not_false, ne_eq, not_true_eq_false, not_false_eq_true, true_and, and_true]
    exact ⟨by omega, hK _ _ fun S1 h1 => ⟨n - i - 1, by omega, i + 1, by omega, by omega, by omega, by rw [hsucc]; exact h1, rfl⟩⟩
  refine EWp.block ?_
  refine EWp.seqR [3, 5, 9, 10, 11] fun K hK => ?_
  simp only [ev, fx, ↓reduceIte, Nat.reduceEqDiff, Nat.reduceLT, Nat.reduceLeDiff, Nat.reduceAdd, Nat.reduceSub, Nat.reduceMul, Int.reduceLT, Int.reduceLE, Int.reduceToNat, BitVec.reduceOfInt, BitVec.reduceToNat, reduceCtorEq, and_self, decide_true, decide_false, Bool.not_true, Bool.not_false, ne_eq, not_true_eq_false, not_false_eq_true, true_and, and_true]
  refine ⟨by omega, SemE.load (.sl a' m c') rfl one_23 rfl hcell ?_⟩
  simp only [ev, fx, ↓reduceIte, Nat.reduceEqDiff, Nat.reduceLT, Nat.reduceLeDiff, Nat.reduceAdd, Nat.reduceSub, Nat.reduceMul, Int.reduceLT, Int.reduceLE, Int.reduceToNat, BitVec.reduceOfInt, BitVec.reduceToNat, reduceCtorEq, and_self, decide_true, decide_false, Bool.not_true, Bool.not_false, ne_eq, not_true_eq_false, not_false_eq_true, true_and, and_true]
  repeat (refine And.intro (by omega) ?_)
  refine hK _ _ ?_; clear hK K
  refine EWp.ifR [3, 5, 9, 10, 11, 19] fun K hK => ?_
  simp only [ev, fx, ↓reduceIte, Nat.reduceEqDiff, Nat.reduceLT, Nat.reduceLeDiff, Nat.reduceAdd, Nat.reduceSub, Nat.reduceMul, Int.reduceLT, Int.reduceLE, Int.reduceToNat, BitVec.reduceOfInt, BitVec.reduceToNat, reduceCtorEq, and_self, decide_true, decide_false, Bool.not_true, Bool.not_false, ne_eq, not_true_eq_false, not_false_eq_true, true_and, and_true]
  repeat (refine And.intro (by omega) ?_)
  refine hK _ _ (decide (5000 - s < m)) rfl (fun hm => ?_) (fun hm => ?_) <;> clear hK K
  · have hm := of_decide_eq_true hm
    have hle := cat_le tt (i + 1)
    refine EWp.seqR [2] fun K hK => ?_
    simp only [ev, fx, ↓reduceIte, Nat.reduceEqDiff, Nat.reduceLT, Nat.reduceLeDiff, Nat.reduceAdd, Nat.reduceSub, Nat.reduceMul, Int.reduceLT, Int.reduceLE, Int.reduceToNat, BitVec.reduceOfInt, BitVec.reduceToNat, reduceCtorEq, and_self, decide_true, decide_false, Bool.not_true, Bool.not_false, ne_eq, not_true_eq_false, not_false_eq_true, true_and, and_true]
    repeat (refine And.intro (by omega) ?_)
    refine hK _ _ ?_; clear hK K
    refine EWp.ret ?_
    simp only [BlockE, ThenE]
    exact BodyE.tmp1 rfl rfl ⟨by rw [fewB_no (by omega)], rfl⟩
  · have hm := of_decide_eq_false hm
    refine EWp.skipThen ?_
    refine EWp.regR [3, 9, 10, 11] fun K hK => ?_
    simp only [ev, fx, ↓reduceIte, Nat.reduceEqDiff, Nat.reduceLT, Nat.reduceLeDiff, Nat.reduceAdd, Nat.reduceSub, Nat.reduceMul, Int.reduceLT, Int.reduceLE, Int.reduceToNat, BitVec.reduceOfInt, BitVec.reduceToNat, reduceCtorEq, and_self, decide_true, decide_false, Bool.not_true, Bool.not_false, ne_eq, not_true_eq_false, not_false_eq_true, true_and, and_true]
    repeat (refine And.intro (by omega) ?_)
    refine hK _ _ fun S1 h1 => ?_; clear hK K
    simp only [BlockE, ThenE]
    exact ⟨by omega, h1, trivial⟩

set_option maxRecDepth 100000 in
theorem joinedC (a : Option Addr) (n c : Nat) (tt : List (List (BitVec 8))) (w : World) (hr : RdD w a tt) (hn : tt.length = n) (hn1 : n ≤ 100) (hbig : (cat tt).length ≤ 5000) :
    Calls Tryd.prog 19 #[(SV.sl a n c).val] w fun e w' => ∃ v B, e = .returned v.val ∧ Own 5 1 v (cat tt).length ((cat tt).map SV.u8) B ∧ HL w w' [] B := by
  refine calls_E [.sl a n c] Tryd.func19 rfl Tryd.ntmps19 rfl ?_
  refine EWp.seqR [0] fun K hK => ?_
  simp only [ev, fx, ↓reduceIte, Nat.reduceEqDiff, Nat.reduceLT, Nat.reduceLeDiff, Nat.reduceAdd, Nat.reduceSub, Nat.reduceMul, Int.reduceLT, Int.reduceLE, Int.reduceToNat, BitVec.reduceOfInt, BitVec.reduceToNat, reduceCtorEq, and_self, decide_true, decide_false, Bool.not_true, Bool.not_false, ne_eq, not_true_eq_false, not_false_eq_true, true_and, and_true]
  repeat (refine And.intro (by omega) ?_)
  refine hK _ _ ?_; clear hK K
  refine EWp.seqR [0, 3] fun K hK => ?_
  simp only [ev, fx, ↓reduceIte, Nat.reduceEqDiff, Nat.reduceLT, Nat.reduceLeDiff, Nat.reduceAdd, Nat.reduceSub, Nat.reduceMul, Int.reduceLT, Int.reduceLE, Int.reduceToNat, BitVec.reduceOfInt, BitVec.reduceToNat, reduceCtorEq, and_self, decide_true, decide_false, Bool.not_true, Bool.not_false, ne_eq, not_true_eq_false, not_false_eq_true, true_and, and_true]
  refine SemE.buildSlice (vs := []) (HL.start w) 5 slof_23 rfl rfl (by omega) rfl fun b0 w1 hb0 hl => ?_
  have ho : Own 5 1 (.sl (some ⟨b0, 0, none⟩) 0 0) 0 ([] : List SV) [(b0, 5, [])] := Own.full rfl (by unfold maxLen; omega)
  have hl : HL w w1 [] [(b0, 5, [])] := hl
  generalize ([(b0, 5, [])] : List Blk) = B at ho hl
  generalize (SV.sl (some ⟨b0, 0, none⟩) 0 0) = v at ho ⊢
  simp only [ev, fx, ↓reduceIte, Nat.reduceEqDiff, Nat.reduceLT, Nat.reduceLeDiff, Nat.reduceAdd, Nat.reduceSub, Nat.reduceMul, Int.reduceLT, Int.reduceLE, Int.reduceToNat, BitVec.reduceOfInt, BitVec.reduceToNat, reduceCtorEq, and_self, decide_true, decide_false, Bool.not_true, Bool.not_false, ne_eq, not_true_eq_false, not_false_eq_true, true_and, and_true]
  repeat (refine And.intro (by omega) ?_)
  refine hK _ _ ?_; clear hK K
  refine EWp.cut [3] (fun S' w' => ∃ v B, S' = [(3, v)] ∧ Own 5 1 v (cat tt).length ((cat tt).map SV.u8) B ∧ HL w w' [] B) ?_ ?_
  case refine_2 =>
    clear hl ho v B
    rintro S' w' ⟨v, B, rfl, ho, hl⟩
    refine EWp.seqR [2] fun K hK => ?_
    simp only [ev, fx, ↓reduceIte, Nat.reduceEqDiff, Nat.reduceLT, Nat.reduceLeDiff, Nat.reduceAdd, Nat.reduceSub, Nat.reduceMul, Int.reduceLT, Int.reduceLE, Int.reduceToNat, BitVec.reduceOfInt, BitVec.reduceToNat, reduceCtorEq, and_self, decide_true, decide_false, Bool.not_true, Bool.not_false, ne_eq, not_true_eq_false, not_false_eq_true, true_and, and_true]
    repeat (refine And.intro (by omega) ?_)
    refine hK _ _ ?_; clear hK K
    exact EWp.ret (BodyE.tmp1 rfl rfl ⟨v, B, rfl, ho, hl⟩)
  refine EWp.seqR [3, 7, 8, 9] fun K hK => ?_
  simp only [ev, fx, ↓reduceIte, Nat.reduceEqDiff, Nat.reduceLT, Nat.reduceLeDiff, Nat.reduceAdd, Nat.reduceSub, Nat.reduceMul, Int.reduceLT, Int.reduceLE, Int.reduceToNat, BitVec.reduceOfInt, BitVec.reduceToNat, reduceCtorEq, and_self, decide_true, decide_false, Bool.not_true, Bool.not_false, ne_eq, not_true_eq_false, not_false_eq_true, true_and, and_true]
  repeat (refine And.intro (by omega) ?_)
  refine hK _ _ ?_; clear hK K
  refine EWp.block ?_
  refine EWp.loop [3, 7, 8, 9] (fun k S' w' => ∃ i v B, i ≤ n ∧ k = n - i ∧ S' = [(3, v), (7, .sl a n c), (8, .nat n), (9, .nat i)] ∧ Own 5 1 v (cat (tt.take i)).length ((cat (tt.take i)).map SV.u8) B ∧ HL w w' [] B) n ?_ ?_
  case refine_1 => exact ⟨0, v, B, by omega, rfl, rfl, ho, hl⟩
  clear hl ho v B
  rintro k S' w' ⟨i, v, B, hi, rfl, rfl, ho, hl⟩
  refine EWp.seqR [3, 7, 8, 9, 10] fun K hK => ?_
  simp only [ev, fx, ↓reduceIte, Nat.reduceEqDiff, Nat.reduceLT, Nat.reduceLeDiff, Nat.reduceAdd, Nat.reduceSub, Nat.reduceMul, Int.reduceLT, Int.reduceLE, Int.reduceToNat, BitVec.reduceOfInt, BitVec.reduceToNat, reduceCtorEq, and_self, decide_true, decide_false, Bool.not_true, Bool.not_false, ne_eq, not_true_eq_false, not_false_eq_true, true_and, and_true]
  repeat (refine And.intro (by omega) ?_)
  refine hK _ _ ?_; clear hK K
  refine EWp.guard (b := decide (i < n)) rfl (fun hlt => ?_) (fun hlt => ?_)
  case refine_2 =>
    have hlt := of_decide_eq_false hlt
    simp only [BlockE, ThenE, ↓reduceIte]
    have : tt.take i = tt := List.take_of_length_le (by omega)
    rw [this] at ho
    exact ⟨v, B, rfl, ho, hl⟩
  have hlt := of_decide_eq_true hlt
  have hsucc := cat_take_succ tt i (by omega)
  have hle : (cat (tt.take (i + 1))).length ≤ (cat tt).length := by
    have h2 : cat tt = cat (tt.take (i + 1)) ++ cat (tt.drop (i + 1)) := by unfold cat; rw [← List.flatten_append, List.take_append_drop]
    rw [h2, List.length_append]; omega
  have hlen := congrArg List.length hsucc
  rw [List.length_append] at hlen
  obtain ⟨p, v1, rfl, hcell, a', c', rfl, hc', ha', hr'⟩ := (hr.grow hl.toGrow).at (i := i) (by omega)
  refine EWp.cut [3, 7, 8, 9] (fun S' w' => ∃ v B, S' = [(3, v), (7, .sl (some p) n c), (8, .nat n), (9, .nat i)] ∧ Own 5 1 v (cat (tt.take (i + 1))).length ((cat (tt.take (i + 1))).map SV.u8) B ∧ HL w w' [] B) ?_ ?_
  case refine_2 =>
    clear hl ho v B
    rintro S' w' ⟨v, B, rfl, ho, hl⟩
    refine EWp.regR [3, 7, 8, 9] fun K hK => ?_
    simp only [ev, fx, ↓reduceIte, Nat.reduceEqDiff, Nat.reduceLT, Nat.reduceLeDiff, Nat.reduceAdd, Nat.reduceSub, Nat.reduceMul, Int.reduceLT, Int.reduceLE, Int.reduceToNat, BitVec.reduceOfInt, BitVec.reduceToNat, reduceCtorEq, and_self, decide_true, decide_false, Bool.not_true, Bool.not_false, ne_eq, not_true_eq_false, not_false_eq_true, true_and, and_true]
    exact ⟨by omega, hK _ _ fun S1 h1 => ⟨n - i - 1, by omega, i + 1, v, B, by omega, by omega, h1, ho, hl⟩⟩
  refine EWp.block ?_
  refine EWp.seqR [3, 5, 7, 8, 9] fun K hK => ?_
  simp only [ev, fx, ↓reduceIte, Nat.reduceEqDiff, Nat.reduceLT, Nat.reduceLeDiff, Nat.reduceAdd, Nat.reduceSub, Nat.reduceMul, Int.reduceLT, Int.reduceLE, Int.reduceToNat, BitVec.reduceOfInt, BitVec.reduceToNat, reduceCtorEq, and_self, decide_true, decide_false, Bool.not_true, Bool.not_false, ne_eq, not_true_eq_false, not_false_eq_true, true_and, and_true]
  refine ⟨by omega, SemE.load (.sl a' (tt.getD i []).length c') rfl one_23 rfl hcell ?_⟩
  simp only [ev, fx, ↓reduceIte, Nat.reduceEqDiff, Nat.reduceLT, Nat.reduceLeDiff, Nat.reduceAdd, Nat.reduceSub, Nat.reduceMul, Int.reduceLT, Int.reduceLE, Int.reduceToNat, BitVec.reduceOfInt, BitVec.reduceToNat, reduceCtorEq, and_self, decide_true, decide_false, Bool.not_true, Bool.not_false, ne_eq, not_true_eq_false, not_false_eq_true, true_and, and_true]
  repeat (refine And.intro (by omega) ?_)
  refine hK _ _ ?_; clear hK K
  refine EWp.regR [3, 7, 8, 9] fun K hK => ?_
  simp only [ev, fx, ↓reduceIte, Nat.reduceEqDiff, Nat.reduceLT, Nat.reduceLeDiff, Nat.reduceAdd, Nat.reduceSub, Nat.reduceMul, Int.reduceLT, Int.reduceLE, Int.reduceToNat, BitVec.reduceOfInt, BitVec.reduceToNat, reduceCtorEq, and_self, decide_true, decide_false, Bool.not_true, Bool.not_false, ne_eq, not_true_eq_false, not_false_eq_true, true_and, and_true]
  refine SemE.append (H := []) (by rw [List.append_nil]; exact hl) ho slof_23 rfl rfl rfl hr' (by simp) ha' (isOneB _) (by omega) rfl fun v2 B2 w2 ho2 hl2 _ => ?_
  rw [List.append_nil] at hl2
  rw [← List.map_append, ← hsucc, ← hlen] at ho2
  simp only [ev, fx, ↓reduceIte, Nat.reduceEqDiff, Nat.reduceLT, Nat.reduceLeDiff, Nat.reduceAdd, Nat.reduceSub, Nat.reduceMul, Int.reduceLT, Int.reduceLE, Int.reduceToNat, BitVec.reduceOfInt, BitVec.reduceToNat, reduceCtorEq, and_self, decide_true, decide_false, Bool.not_true, Bool.not_false, ne_eq, not_true_eq_false, not_false_eq_true, true_and, and_true]
  refine hK _ _ fun S1 h1 => ?_; clear hK K
  simp only [BlockE, ThenE]
  exact ⟨v2, B2, h1, ho2, hl2⟩
end Go.Proofs.YtggbaffkjfofhaaDoor
