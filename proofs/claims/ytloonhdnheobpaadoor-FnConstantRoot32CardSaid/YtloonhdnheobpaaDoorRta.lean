/- Primes, and the whole part of a third root. -/
import Derived.Test.YtloonhdnheobpaaDoorFacts
set_option linter.unusedVariables false
set_option linter.unusedSimpArgs false
namespace Go.Proofs.YtloonhdnheobpaaDoor
open Go

def sameE : Env → Env → Prop
  | _, [] => True
  | (k, v) :: S, (k', v') :: S' => k = k' ∧ v.val = v'.val ∧ sameE S S'
  | [], _ :: _ => False
theorem sameE_get : ∀ {S S' : Env}, sameE S S' → ∀ t v', S'.get t = some v' → ∃ v, S.get t = some v ∧ v.val = v'.val
  | _, [], _, t, v', h => by simp [Env.get] at h
  | [], _ :: _, h, _, _, _ => h.elim
  | (k, v) :: S, (k', v') :: S', h, t, u, ht => by
    obtain ⟨rfl, hv, hs⟩ := h
    simp only [Env.get] at ht ⊢
    split at ht
    · rename_i hk
      cases ht
      exact ⟨v, by rw [if_pos hk], hv⟩
    · rename_i hk
      rw [if_neg hk]
      exact sameE_get hs t u ht
/-- A slot's value, told otherwise. -/
theorem EWp.recast {P : Program} {n : Nat} {S : Env} {w : World} {Q : Exit → Env → World → Prop} {c : Code} (S' : Env) (h : sameE S S') (hh : EWp P n c S' w Q) : EWp P n c S w Q := fun a ha =>
  hh a ⟨ha.defers, ha.size, fun t v' ht => by obtain ⟨v, h1, h2⟩ := sameE_get h t v' ht; rw [← h2]; exact ha.slots t v h1⟩

def wholeF (p : Nat) : Nat → Nat → Option Nat
  | 0, n => if (n + 1) * (n + 1) * (n + 1) ≤ p then none else some n
  | f + 1, n => if (n + 1) * (n + 1) * (n + 1) ≤ p then wholeF p f (n + 1) else some n

theorem wholeC (p r : Nat) (w : World) (h : wholeF p 20 0 = some r) : Calls Tryd.prog 17 #[(SV.nat p).val] w fun e w' => e = .returned (SV.nat r).val ∧ w' = w := by
  refine calls_E [.nat p] Tryd.func17 rfl Tryd.ntmps17 rfl ?_
  refine EWp.seqR [0] fun K hK => ?_
  simp only [ev, fx, ↓reduceIte, Nat.reduceEqDiff, Nat.reduceLT, Nat.reduceLeDiff, Nat.reduceAdd, Nat.reduceSub, Nat.reduceMul, Int.reduceLT, Int.reduceLE, Int.reduceToNat, BitVec.reduceOfInt, BitVec.reduceToNat, reduceCtorEq, and_self, decide_true, decide_false, Bool.not_true, Bool.not_false, ne_eq, not_true_eq_false, not_false_eq_true, true_and, and_true]
  repeat (refine And.intro (by omega) ?_)
  refine hK _ _ ?_; clear hK K
  refine EWp.seqR [0, 3] fun K hK => ?_
  simp only [ev, fx, ↓reduceIte, Nat.reduceEqDiff, Nat.reduceLT, Nat.reduceLeDiff, Nat.reduceAdd, Nat.reduceSub, Nat.reduceMul, Int.reduceLT, Int.reduceLE, Int.reduceToNat, BitVec.reduceOfInt, BitVec.reduceToNat, reduceCtorEq, and_self, decide_true, decide_false, Bool.not_true, Bool.not_false, ne_eq, not_true_eq_false, not_false_eq_true, true_and, and_true]
  repeat (refine And.intro (by omega) ?_)
  refine hK _ _ ?_; clear hK K
  refine EWp.cut [3] (fun S' w' => S' = [(3, .nat r)] ∧ w' = w) ?_ ?_
  case refine_2 =>
    rintro S' w' ⟨rfl, hw⟩
    rw [hw]; clear hw w'
    refine EWp.seqR [2] fun K hK => ?_
    simp only [ev, fx, ↓reduceIte, Nat.reduceEqDiff, Nat.reduceLT, Nat.reduceLeDiff, Nat.reduceAdd, Nat.reduceSub, Nat.reduceMul, Int.reduceLT, Int.reduceLE, Int.reduceToNat, BitVec.reduceOfInt, BitVec.reduceToNat, reduceCtorEq, and_self, decide_true, decide_false, Bool.not_true, Bool.not_false, ne_eq, not_true_eq_false, not_false_eq_true, true_and, and_true]
    repeat (refine And.intro (by omega) ?_)
    refine hK _ _ ?_; clear hK K
    exact EWp.ret (BodyE.tmp1 rfl rfl ⟨rfl, rfl⟩)
  refine EWp.block ?_
  refine EWp.loop [0, 3] (fun k S' w' => ∃ n, S' = [(0, .nat p), (3, .nat n)] ∧ wholeF p k n = some r ∧ n + k ≤ 20 ∧ w' = w) 20 ?_ ?_
  case refine_1 => exact ⟨0, rfl, h, by omega, rfl⟩
  rintro k S' w' ⟨n, rfl, hf, hb, hw⟩
  have h1 : (n + 1) * (n + 1) ≤ 21 * 21 := Nat.mul_le_mul (by omega) (by omega)
  have h2 : (n + 1) * (n + 1) * (n + 1) ≤ 21 * 21 * 21 := Nat.mul_le_mul h1 (by omega)
  refine EWp.headR [0, 3, 13] fun K hK => ?_
  simp only [ev, fx, ↓reduceIte, Nat.reduceEqDiff, Nat.reduceLT, Nat.reduceLeDiff, Nat.reduceAdd, Nat.reduceSub, Nat.reduceMul, Int.reduceLT, Int.reduceLE, Int.reduceToNat, BitVec.reduceOfInt, BitVec.reduceToNat, reduceCtorEq, and_self, decide_true, decide_false, Bool.not_true, Bool.not_false, ne_eq, not_true_eq_false, not_false_eq_true, true_and, and_true]
  repeat (refine And.intro (by omega) ?_)
  refine hK _ _ (decide ((n + 1) * (n + 1) * (n + 1) ≤ p)) rfl (fun hlt => ?_) (fun hlt => ?_) <;> clear hK K
  case refine_2 =>
    have hlt := of_decide_eq_false hlt
    simp only [BlockE, ThenE, ↓reduceIte]
    refine ⟨?_, hw⟩
    have : n = r := by
      cases k <;> simp only [wholeF, hlt, ↓reduceIte, Option.some.injEq] at hf <;> exact hf
    rw [this]
    rfl
  have hlt := of_decide_eq_true hlt
  cases k with
  | zero => simp only [wholeF, hlt, ↓reduceIte, reduceCtorEq] at hf
  | succ k =>
    simp only [wholeF, hlt, ↓reduceIte] at hf
    refine EWp.block ?_
    refine EWp.regR [0, 3] fun K hK => ?_
    simp only [ev, fx, ↓reduceIte, Nat.reduceEqDiff, Nat.reduceLT, Nat.reduceLeDiff, Nat.reduceAdd, Nat.reduceSub, Nat.reduceMul, Int.reduceLT, Int.reduceLE, Int.reduceToNat, BitVec.reduceOfInt, BitVec.reduceToNat, reduceCtorEq, and_self, decide_true, decide_false, Bool.not_true, Bool.not_false, ne_eq, not_true_eq_false, not_false_eq_true, true_and, and_true]
    repeat (refine And.intro (by omega) ?_)
    refine hK _ _ fun S1 h1 => ?_; clear hK K
    simp only [BlockE, ThenE]
    exact ⟨k, by omega, n + 1, h1, hf, by omega, hw⟩

def innerF (n : Nat) : Nat → Nat → Bool → Option Bool
  | 0, k, is => if k * k ≤ n then none else some is
  | f + 1, k, is => if k * k ≤ n then innerF n f (k + 1) (is && decide (¬ n % k = 0)) else some is

def outerF (i : Nat) : Nat → Nat → Nat → Option Nat
  | 0, n, c => if c < i + 1 then none else some n
  | f + 1, n, c => if c < i + 1 then match innerF (n + 1) 25 2 true with
      | some b => outerF i f (n + 1) (bif b then c + 1 else c)
      | none => none
    else some n

set_option maxRecDepth 100000 in
theorem primeC (i r : Nat) (w : World) (hi : i ≤ 1000) (h : outerF i 500 1 0 = some r) : Calls Tryd.prog 11 #[(SV.nat i).val] w fun e w' => e = .returned (SV.nat r).val ∧ w' = w := by
  refine calls_E [.nat i] Tryd.func11 rfl Tryd.ntmps11 rfl ?_
  refine EWp.seqR [0] fun K hK => ?_
  simp only [ev, fx, ↓reduceIte, Nat.reduceEqDiff, Nat.reduceLT, Nat.reduceLeDiff, Nat.reduceAdd, Nat.reduceSub, Nat.reduceMul, Int.reduceLT, Int.reduceLE, Int.reduceToNat, BitVec.reduceOfInt, BitVec.reduceToNat, reduceCtorEq, and_self, decide_true, decide_false, Bool.not_true, Bool.not_false, ne_eq, not_true_eq_false, not_false_eq_true, true_and, and_true]
  repeat (refine And.intro (by omega) ?_)
  refine hK _ _ ?_; clear hK K
  refine EWp.seqR [0, 3] fun K hK => ?_
  simp only [ev, fx, ↓reduceIte, Nat.reduceEqDiff, Nat.reduceLT, Nat.reduceLeDiff, Nat.reduceAdd, Nat.reduceSub, Nat.reduceMul, Int.reduceLT, Int.reduceLE, Int.reduceToNat, BitVec.reduceOfInt, BitVec.reduceToNat, reduceCtorEq, and_self, decide_true, decide_false, Bool.not_true, Bool.not_false, ne_eq, not_true_eq_false, not_false_eq_true, true_and, and_true]
  repeat (refine And.intro (by omega) ?_)
  refine hK _ _ ?_; clear hK K
  refine EWp.cut [3] (fun S' w' => S' = [(3, .nat r)] ∧ w' = w) ?_ ?_
  case refine_2 =>
    rintro S' w' ⟨rfl, hw⟩
    rw [hw]; clear hw w'
    refine EWp.seqR [2] fun K hK => ?_
    simp only [ev, fx, ↓reduceIte, Nat.reduceEqDiff, Nat.reduceLT, Nat.reduceLeDiff, Nat.reduceAdd, Nat.reduceSub, Nat.reduceMul, Int.reduceLT, Int.reduceLE, Int.reduceToNat, BitVec.reduceOfInt, BitVec.reduceToNat, reduceCtorEq, and_self, decide_true, decide_false, Bool.not_true, Bool.not_false, ne_eq, not_true_eq_false, not_false_eq_true, true_and, and_true]
    repeat (refine And.intro (by omega) ?_)
    refine hK _ _ ?_; clear hK K
    exact EWp.ret (BodyE.tmp1 rfl rfl ⟨rfl, rfl⟩)
  refine EWp.seqR [0, 3, 4] fun K hK => ?_
  simp only [ev, fx, ↓reduceIte, Nat.reduceEqDiff, Nat.reduceLT, Nat.reduceLeDiff, Nat.reduceAdd, Nat.reduceSub, Nat.reduceMul, Int.reduceLT, Int.reduceLE, Int.reduceToNat, BitVec.reduceOfInt, BitVec.reduceToNat, reduceCtorEq, and_self, decide_true, decide_false, Bool.not_true, Bool.not_false, ne_eq, not_true_eq_false, not_false_eq_true, true_and, and_true]
  repeat (refine And.intro (by omega) ?_)
  refine hK _ _ ?_; clear hK K
  refine EWp.block ?_
  refine EWp.loop [0, 3, 4] (fun k S' w' => ∃ n c : Nat, S' = [(0, .nat i), (3, .nat n), (4, .int ((c : Int) - 1))] ∧ outerF i k n c = some r ∧ n + k ≤ 501 ∧ c ≤ n ∧ w' = w) 500 ?_ ?_
  case refine_1 => exact ⟨1, 0, rfl, h, by omega, by omega, rfl⟩
  rintro k S' w' ⟨n, c, rfl, hf, hb, hcn, hw⟩
  refine EWp.headR [0, 3, 4, 9] fun K hK => ?_
  simp only [ev, fx, ↓reduceIte, Nat.reduceEqDiff, Nat.reduceLT, Nat.reduceLeDiff, Nat.reduceAdd, Nat.reduceSub, Nat.reduceMul, Int.reduceLT, Int.reduceLE, Int.reduceToNat, BitVec.reduceOfInt, BitVec.reduceToNat, reduceCtorEq, and_self, decide_true, decide_false, Bool.not_true, Bool.not_false, ne_eq, not_true_eq_false, not_false_eq_true, true_and, and_true]
  refine hK _ _ (decide (((c : Int) - 1) < (i : Int))) rfl (fun hlt => ?_) (fun hlt => ?_) <;> clear hK K
  case refine_2 =>
    have hlt := of_decide_eq_false hlt
    have hc : ¬ c < i + 1 := by omega
    simp only [BlockE, ThenE, ↓reduceIte]
    refine ⟨?_, hw⟩
    have : n = r := by
      cases k <;> simp only [outerF, hc, ↓reduceIte, Option.some.injEq] at hf <;> exact hf
    rw [this]
    rfl
  have hlt := of_decide_eq_true hlt
  have hc : c < i + 1 := by omega
  cases k with
  | zero => simp only [outerF, hc, ↓reduceIte, reduceCtorEq] at hf
  | succ k =>
    simp only [outerF, hc, ↓reduceIte] at hf
    cases hin : innerF (n + 1) 25 2 true with
    | none => rw [hin] at hf; cases hf
    | some b =>
      rw [hin] at hf
      replace hf : outerF i k (n + 1) (bif b then c + 1 else c) = some r := hf
      refine EWp.block ?_
      refine EWp.seqR [0, 3, 4] fun K hK => ?_
      simp only [ev, fx, ↓reduceIte, Nat.reduceEqDiff, Nat.reduceLT, Nat.reduceLeDiff, Nat.reduceAdd, Nat.reduceSub, Nat.reduceMul, Int.reduceLT, Int.reduceLE, Int.reduceToNat, BitVec.reduceOfInt, BitVec.reduceToNat, reduceCtorEq, and_self, decide_true, decide_false, Bool.not_true, Bool.not_false, ne_eq, not_true_eq_false, not_false_eq_true, true_and, and_true]
      refine ⟨by omega, ?_⟩
      repeat (refine And.intro (by omega) ?_)
      refine hK _ _ ?_; clear hK K
      refine EWp.seqR [0, 3, 4, 5] fun K hK => ?_
      simp only [ev, fx, ↓reduceIte, Nat.reduceEqDiff, Nat.reduceLT, Nat.reduceLeDiff, Nat.reduceAdd, Nat.reduceSub, Nat.reduceMul, Int.reduceLT, Int.reduceLE, Int.reduceToNat, BitVec.reduceOfInt, BitVec.reduceToNat, reduceCtorEq, and_self, decide_true, decide_false, Bool.not_true, Bool.not_false, ne_eq, not_true_eq_false, not_false_eq_true, true_and, and_true]
      repeat (refine And.intro (by omega) ?_)
      refine hK _ _ ?_; clear hK K
      refine EWp.cut [0, 3, 4, 5] (fun S' w2 => S' = [(0, .nat i), (3, .nat (n + 1)), (4, .int ((c : Int) - 1)), (5, .bool b)] ∧ w2 = w) ?_ ?_
      case refine_1 =>
        refine EWp.seqR [0, 3, 4, 5, 6] fun K hK => ?_
        simp only [ev, fx, ↓reduceIte, Nat.reduceEqDiff, Nat.reduceLT, Nat.reduceLeDiff, Nat.reduceAdd, Nat.reduceSub, Nat.reduceMul, Int.reduceLT, Int.reduceLE, Int.reduceToNat, BitVec.reduceOfInt, BitVec.reduceToNat, reduceCtorEq, and_self, decide_true, decide_false, Bool.not_true, Bool.not_false, ne_eq, not_true_eq_false, not_false_eq_true, true_and, and_true]
        repeat (refine And.intro (by omega) ?_)
        refine hK _ _ ?_; clear hK K
        refine EWp.block ?_
        refine EWp.loop [0, 3, 4, 5, 6] (fun f S' w2 => ∃ q is, S' = [(0, .nat i), (3, .nat (n + 1)), (4, .int ((c : Int) - 1)), (5, .bool is), (6, .nat q)] ∧ innerF (n + 1) f q is = some b ∧ q + f ≤ 27 ∧ 2 ≤ q ∧ w2 = w) 25 ?_ ?_
        case refine_1 => exact ⟨2, true, rfl, hin, by omega, by omega, hw⟩
        clear hin hf
        rintro f S' w2 ⟨q, is, rfl, hin, hq, hq2, hw2⟩
        have hqq : q * q ≤ 27 * 27 := Nat.mul_le_mul (by omega) (by omega)
        refine EWp.headR [0, 3, 4, 5, 6, 16] fun K hK => ?_
        simp only [ev, fx, ↓reduceIte, Nat.reduceEqDiff, Nat.reduceLT, Nat.reduceLeDiff, Nat.reduceAdd, Nat.reduceSub, Nat.reduceMul, Int.reduceLT, Int.reduceLE, Int.reduceToNat, BitVec.reduceOfInt, BitVec.reduceToNat, reduceCtorEq, and_self, decide_true, decide_false, Bool.not_true, Bool.not_false, ne_eq, not_true_eq_false, not_false_eq_true, true_and, and_true]
        repeat (refine And.intro (by omega) ?_)
        refine hK _ _ (decide (q * q ≤ n + 1)) rfl (fun hlt => ?_) (fun hlt => ?_) <;> clear hK K
        case refine_2 =>
          have hlt := of_decide_eq_false hlt
          simp only [BlockE, ThenE, ↓reduceIte]
          refine ⟨?_, hw2⟩
          have : is = b := by
            cases f <;> simp only [innerF, hlt, ↓reduceIte, Option.some.injEq] at hin <;> exact hin
          rw [this]
          rfl
        have hlt := of_decide_eq_true hlt
        cases f with
        | zero => simp only [innerF, hlt, ↓reduceIte, reduceCtorEq] at hin
        | succ f =>
          simp only [innerF, hlt, ↓reduceIte] at hin
          refine EWp.cut [0, 3, 4, 5, 6] (fun S' w2 => S' = [(0, .nat i), (3, .nat (n + 1)), (4, .int ((c : Int) - 1)), (5, .bool (is && decide (¬ (n + 1) % q = 0))), (6, .nat q)] ∧ w2 = w) ?_ ?_
          case refine_2 =>
            rintro S' w3 ⟨rfl, hw3⟩
            refine EWp.regR [0, 3, 4, 5, 6] fun K hK => ?_
            simp only [ev, fx, ↓reduceIte, Nat.reduceEqDiff, Nat.reduceLT, Nat.reduceLeDiff, Nat.reduceAdd, Nat.reduceSub, Nat.reduceMul, Int.reduceLT, Int.reduceLE, Int.reduceToNat, BitVec.reduceOfInt, BitVec.reduceToNat, reduceCtorEq, and_self, decide_true, decide_false, Bool.not_true, Bool.not_false, ne_eq, not_true_eq_false, not_false_eq_true, true_and, and_true]
            repeat (refine And.intro (by omega) ?_)
            refine hK _ _ fun S1 h1 => ?_; clear hK K
            simp only [ThenE]
            exact ⟨f, by omega, q + 1, _, h1, hin, by omega, by omega, hw3⟩
          refine EWp.block ?_
          refine EWp.regR [0, 3, 4, 5, 6] fun K hK => ?_
          have hq0 : ¬ q = 0 := by omega
          cases is
          · simp only [ev, fx, ↓reduceIte, Nat.reduceEqDiff, Nat.reduceLT, Nat.reduceLeDiff, Nat.reduceAdd, Nat.reduceSub, Nat.reduceMul, Int.reduceLT, Int.reduceLE, Int.reduceToNat, BitVec.reduceOfInt, BitVec.reduceToNat, reduceCtorEq, and_self, decide_true, decide_false, Bool.not_true, Bool.not_false, ne_eq, not_true_eq_false, not_false_eq_true, true_and, and_true]
            refine hK _ _ fun S1 h1 => ?_; clear hK K
            simp only [BlockE, ThenE]
            exact ⟨by rw [h1]; rfl, hw2⟩
          · simp only [ev, fx, ↓reduceIte, Nat.reduceEqDiff, Nat.reduceLT, Nat.reduceLeDiff, Nat.reduceAdd, Nat.reduceSub, Nat.reduceMul, Int.reduceLT, Int.reduceLE, Int.reduceToNat, BitVec.reduceOfInt, BitVec.reduceToNat, reduceCtorEq, and_self, decide_true, decide_false, Bool.not_true, Bool.not_false, ne_eq, not_true_eq_false, not_false_eq_true, true_and, and_true, hq0]
            refine hK _ _ fun S1 h1 => ?_; clear hK K
            simp only [BlockE, ThenE]
            exact ⟨by rw [h1]; simp, hw2⟩
      rintro S' w2 ⟨rfl, hw2⟩
      refine EWp.brR [0, 3, 4, 26] fun K hK => ?_
      simp only [ev, fx, ↓reduceIte, Nat.reduceEqDiff, Nat.reduceLT, Nat.reduceLeDiff, Nat.reduceAdd, Nat.reduceSub, Nat.reduceMul, Int.reduceLT, Int.reduceLE, Int.reduceToNat, BitVec.reduceOfInt, BitVec.reduceToNat, reduceCtorEq, and_self, decide_true, decide_false, Bool.not_true, Bool.not_false, ne_eq, not_true_eq_false, not_false_eq_true, true_and, and_true]
      refine hK _ _ b rfl (fun h => ?_) (fun h => ?_) <;> clear hK K
      · subst h
        refine EWp.regR [0, 3, 4] fun K hK => ?_
        simp only [ev, fx, ↓reduceIte, Nat.reduceEqDiff, Nat.reduceLT, Nat.reduceLeDiff, Nat.reduceAdd, Nat.reduceSub, Nat.reduceMul, Int.reduceLT, Int.reduceLE, Int.reduceToNat, BitVec.reduceOfInt, BitVec.reduceToNat, reduceCtorEq, and_self, decide_true, decide_false, Bool.not_true, Bool.not_false, ne_eq, not_true_eq_false, not_false_eq_true, true_and, and_true]
        repeat (refine And.intro (by omega) ?_)
        refine hK _ _ fun S1 h1 => ?_; clear hK K
        simp only [BlockE, ThenE]
        refine ⟨k, by omega, n + 1, c + 1, ?_, hf, by omega, by omega, hw2⟩
        rw [h1]
        simp only [List.cons.injEq, Prod.mk.injEq, SV.int.injEq, true_and, and_true]
        omega
      · subst h
        refine EWp.skip ?_
        simp only [BlockE, ThenE]
        exact ⟨k, by omega, n + 1, c, rfl, hf, by omega, by omega, hw2⟩
end Go.Proofs.YtloonhdnheobpaaDoor
