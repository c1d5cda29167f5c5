/- The laws on kept states of SHA-256. -/
import Derived.Test.YtkfblgkicopjjaaDoorKi2
import Derived.Test.YtkfblgkicopjjaaDoorFl2
set_option linter.unusedVariables false
set_option linter.unusedSimpArgs false
namespace Go.Proofs.YtkfblgkicopjjaaDoor
open Go

theorem Plain.cast {P : Program} {n : Nat} {S : Env} {o : Oper} {v v' : SV} (h : Plain P n S o v) (e : v = v') : Plain P n S o v' := by subst e; exact h

set_option maxRecDepth 100000 in
theorem lawBehind2 (ki : Bool) (v : SV) (tt : List (List B8)) (vf : SV) (fr : List B8) (w : World) (hko : KO w) (ht : Txs w v tt) (htf : Txt w vf fr) :
    Calls Tryd.prog 6 #[(SV.bool ki).val, v.val, vf.val] w fun e w' => e = .returned (SV.bool true).val ∧ Grow w w' := by
  obtain ⟨af, cf, rfl, hcf, haf, hrf⟩ := htf
  have htf : Txt w (.sl af _ cf) fr := Txt.mk hrf rfl hcf haf
  generalize hn : fr.length = n at *
  refine calls_E [.bool ki, v, .sl af n cf] Tryd.func6 rfl Tryd.ntmps6 rfl ?_
  refine EWp.seqR [0, 1, 2] fun K hK => ?_
  simp only [ev, fx, ↓reduceIte, Nat.reduceEqDiff, Nat.reduceLT, Nat.reduceLeDiff, Nat.reduceAdd, Nat.reduceSub, Nat.reduceMul, Int.reduceLT, Int.reduceLE, Int.reduceToNat, BitVec.reduceOfInt, BitVec.reduceToNat, reduceCtorEq, and_self, decide_true, decide_false, Bool.not_true, Bool.not_false, ne_eq, not_true_eq_false, not_false_eq_true, true_and, and_true]
  repeat (refine And.intro (by omega) ?_)
  refine hK _ _ ?_; clear hK K
  refine EWp.ifR [0, 1, 2, 19] fun K hK => ?_
  simp only [ev, fx, ↓reduceIte, Nat.reduceEqDiff, Nat.reduceLT, Nat.reduceLeDiff, Nat.reduceAdd, Nat.reduceSub, Nat.reduceMul, Int.reduceLT, Int.reduceLE, Int.reduceToNat, BitVec.reduceOfInt, BitVec.reduceToNat, reduceCtorEq, and_self, decide_true, decide_false, Bool.not_true, Bool.not_false, ne_eq, not_true_eq_false, not_false_eq_true, true_and, and_true]
  refine SemE.call fn_17 rfl rfl (fitsT _ tt _ ht) ?_
  rintro _ _ ⟨bf, rfl, hw⟩
  rw [hw]; clear hw
  refine ⟨_, rfl, ?_⟩
  cases bf
  · simp only [ev, fx, ↓reduceIte, Nat.reduceEqDiff, Nat.reduceLT, Nat.reduceLeDiff, Nat.reduceAdd, Nat.reduceSub, Nat.reduceMul, Int.reduceLT, Int.reduceLE, Int.reduceToNat, BitVec.reduceOfInt, BitVec.reduceToNat, reduceCtorEq, and_self, decide_true, decide_false, Bool.not_true, Bool.not_false, ne_eq, not_true_eq_false, not_false_eq_true, true_and, and_true]
    refine hK _ _ true rfl (fun _ => ?_) (fun h => by cases h); clear hK K
    refine EWp.seqR [6] fun K hK => ?_
    simp only [ev, fx, ↓reduceIte, Nat.reduceEqDiff, Nat.reduceLT, Nat.reduceLeDiff, Nat.reduceAdd, Nat.reduceSub, Nat.reduceMul, Int.reduceLT, Int.reduceLE, Int.reduceToNat, BitVec.reduceOfInt, BitVec.reduceToNat, reduceCtorEq, and_self, decide_true, decide_false, Bool.not_true, Bool.not_false, ne_eq, not_true_eq_false, not_false_eq_true, true_and, and_true]
    repeat (refine And.intro (by omega) ?_)
    refine hK _ _ ?_; clear hK K
    exact EWp.retT (BodyE.tmp1 rfl rfl ⟨rfl, Grow.refl _⟩)
  by_cases h1 : 2147483647 < n
  · simp only [ev, fx, ↓reduceIte, Nat.reduceEqDiff, Nat.reduceLT, Nat.reduceLeDiff, Nat.reduceAdd, Nat.reduceSub, Nat.reduceMul, Int.reduceLT, Int.reduceLE, Int.reduceToNat, BitVec.reduceOfInt, BitVec.reduceToNat, reduceCtorEq, and_self, decide_true, decide_false, Bool.not_true, Bool.not_false, ne_eq, not_true_eq_false, not_false_eq_true, true_and, and_true, h1]
    refine hK _ _ true rfl (fun _ => ?_) (fun h => by cases h); clear hK K
    refine EWp.seqR [6] fun K hK => ?_
    simp only [ev, fx, ↓reduceIte, Nat.reduceEqDiff, Nat.reduceLT, Nat.reduceLeDiff, Nat.reduceAdd, Nat.reduceSub, Nat.reduceMul, Int.reduceLT, Int.reduceLE, Int.reduceToNat, BitVec.reduceOfInt, BitVec.reduceToNat, reduceCtorEq, and_self, decide_true, decide_false, Bool.not_true, Bool.not_false, ne_eq, not_true_eq_false, not_false_eq_true, true_and, and_true]
    repeat (refine And.intro (by omega) ?_)
    refine hK _ _ ?_; clear hK K
    exact EWp.retT (BodyE.tmp1 rfl rfl ⟨rfl, Grow.refl _⟩)
  simp only [ev, fx, ↓reduceIte, Nat.reduceEqDiff, Nat.reduceLT, Nat.reduceLeDiff, Nat.reduceAdd, Nat.reduceSub, Nat.reduceMul, Int.reduceLT, Int.reduceLE, Int.reduceToNat, BitVec.reduceOfInt, BitVec.reduceToNat, reduceCtorEq, and_self, decide_true, decide_false, Bool.not_true, Bool.not_false, ne_eq, not_true_eq_false, not_false_eq_true, true_and, and_true, h1]
  refine hK _ _ false rfl (fun h => by cases h) (fun _ => ?_); clear hK K
  refine EWp.skipThen ?_
  clear h1
  refine EWp.ifR [0, 1, 2, 27] fun K hK => ?_
  simp only [ev, fx, ↓reduceIte, Nat.reduceEqDiff, Nat.reduceLT, Nat.reduceLeDiff, Nat.reduceAdd, Nat.reduceSub, Nat.reduceMul, Int.reduceLT, Int.reduceLE, Int.reduceToNat, BitVec.reduceOfInt, BitVec.reduceToNat, reduceCtorEq, and_self, decide_true, decide_false, Bool.not_true, Bool.not_false, ne_eq, not_true_eq_false, not_false_eq_true, true_and, and_true]
  refine SemE.call fn_18 rfl rfl (fewT _ tt _ ht) ?_
  rintro _ _ ⟨rfl, hw⟩
  rw [hw]; clear hw
  refine ⟨_, rfl, ?_⟩
  cases hf : fewB tt
  · simp only [ev, fx, ↓reduceIte, Nat.reduceEqDiff, Nat.reduceLT, Nat.reduceLeDiff, Nat.reduceAdd, Nat.reduceSub, Nat.reduceMul, Int.reduceLT, Int.reduceLE, Int.reduceToNat, BitVec.reduceOfInt, BitVec.reduceToNat, reduceCtorEq, and_self, decide_true, decide_false, Bool.not_true, Bool.not_false, ne_eq, not_true_eq_false, not_false_eq_true, true_and, and_true]
    refine hK _ _ true rfl (fun _ => ?_) (fun h => by cases h); clear hK K
    refine EWp.seqR [6] fun K hK => ?_
    simp only [ev, fx, ↓reduceIte, Nat.reduceEqDiff, Nat.reduceLT, Nat.reduceLeDiff, Nat.reduceAdd, Nat.reduceSub, Nat.reduceMul, Int.reduceLT, Int.reduceLE, Int.reduceToNat, BitVec.reduceOfInt, BitVec.reduceToNat, reduceCtorEq, and_self, decide_true, decide_false, Bool.not_true, Bool.not_false, ne_eq, not_true_eq_false, not_false_eq_true, true_and, and_true]
    repeat (refine And.intro (by omega) ?_)
    refine hK _ _ ?_; clear hK K
    exact EWp.retT (BodyE.tmp1 rfl rfl ⟨rfl, Grow.refl _⟩)
  by_cases h2 : 1000 < n
  · simp only [ev, fx, ↓reduceIte, Nat.reduceEqDiff, Nat.reduceLT, Nat.reduceLeDiff, Nat.reduceAdd, Nat.reduceSub, Nat.reduceMul, Int.reduceLT, Int.reduceLE, Int.reduceToNat, BitVec.reduceOfInt, BitVec.reduceToNat, reduceCtorEq, and_self, decide_true, decide_false, Bool.not_true, Bool.not_false, ne_eq, not_true_eq_false, not_false_eq_true, true_and, and_true, h2]
    refine hK _ _ true rfl (fun _ => ?_) (fun h => by cases h); clear hK K
    refine EWp.seqR [6] fun K hK => ?_
    simp only [ev, fx, ↓reduceIte, Nat.reduceEqDiff, Nat.reduceLT, Nat.reduceLeDiff, Nat.reduceAdd, Nat.reduceSub, Nat.reduceMul, Int.reduceLT, Int.reduceLE, Int.reduceToNat, BitVec.reduceOfInt, BitVec.reduceToNat, reduceCtorEq, and_self, decide_true, decide_false, Bool.not_true, Bool.not_false, ne_eq, not_true_eq_false, not_false_eq_true, true_and, and_true]
    repeat (refine And.intro (by omega) ?_)
    refine hK _ _ ?_; clear hK K
    exact EWp.retT (BodyE.tmp1 rfl rfl ⟨rfl, Grow.refl _⟩)
  simp only [ev, fx, ↓reduceIte, Nat.reduceEqDiff, Nat.reduceLT, Nat.reduceLeDiff, Nat.reduceAdd, Nat.reduceSub, Nat.reduceMul, Int.reduceLT, Int.reduceLE, Int.reduceToNat, BitVec.reduceOfInt, BitVec.reduceToNat, reduceCtorEq, and_self, decide_true, decide_false, Bool.not_true, Bool.not_false, ne_eq, not_true_eq_false, not_false_eq_true, true_and, and_true, h2]
  refine hK _ _ false rfl (fun h => by cases h) (fun _ => ?_); clear hK K
  refine EWp.skipThen ?_
  have hf2 : tt.length ≤ 100 ∧ (cat tt).length ≤ 5000 := of_decide_eq_true hf
  refine EWp.seqR [0, 1, 2, 7] fun K hK => ?_
  simp only [ev, fx, ↓reduceIte, Nat.reduceEqDiff, Nat.reduceLT, Nat.reduceLeDiff, Nat.reduceAdd, Nat.reduceSub, Nat.reduceMul, Int.reduceLT, Int.reduceLE, Int.reduceToNat, BitVec.reduceOfInt, BitVec.reduceToNat, reduceCtorEq, and_self, decide_true, decide_false, Bool.not_true, Bool.not_false, ne_eq, not_true_eq_false, not_false_eq_true, true_and, and_true]
  repeat (refine And.intro (by omega) ?_)
  refine hK _ _ ?_; clear hK K
  refine EWp.cut [1, 2, 7] (fun S' w2 => S' = [(1, v), (2, .sl af n cf), (7, .nat (kd ki))] ∧ w2 = w) ?_ ?_
  case refine_1 =>
    refine EWp.brR [1, 2, 7, 28] fun K hK => ?_
    simp only [ev, fx, ↓reduceIte, Nat.reduceEqDiff, Nat.reduceLT, Nat.reduceLeDiff, Nat.reduceAdd, Nat.reduceSub, Nat.reduceMul, Int.reduceLT, Int.reduceLE, Int.reduceToNat, BitVec.reduceOfInt, BitVec.reduceToNat, reduceCtorEq, and_self, decide_true, decide_false, Bool.not_true, Bool.not_false, ne_eq, not_true_eq_false, not_false_eq_true, true_and, and_true]
    refine hK _ _ ki rfl (fun h => ?_) (fun h => ?_) <;> clear hK K
    · subst h
      refine EWp.regR [1, 2, 7] fun K hK => ?_
      simp only [ev, fx, ↓reduceIte, Nat.reduceEqDiff, Nat.reduceLT, Nat.reduceLeDiff, Nat.reduceAdd, Nat.reduceSub, Nat.reduceMul, Int.reduceLT, Int.reduceLE, Int.reduceToNat, BitVec.reduceOfInt, BitVec.reduceToNat, reduceCtorEq, and_self, decide_true, decide_false, Bool.not_true, Bool.not_false, ne_eq, not_true_eq_false, not_false_eq_true, true_and, and_true]
      refine hK _ _ fun S1 h1 => ?_; clear hK K
      simp only [ThenE]
      exact ⟨h1, trivial⟩
    · subst h
      refine EWp.skip ?_
      simp only [ThenE]
      exact ⟨rfl, trivial⟩
  rintro S' w2 ⟨rfl, hw⟩
  rw [hw]; clear hw w2
  refine EWp.seqR [1, 2, 7, 8, 9] fun K hK => ?_
  simp only [ev, fx, ↓reduceIte, Nat.reduceEqDiff, Nat.reduceLT, Nat.reduceLeDiff, Nat.reduceAdd, Nat.reduceSub, Nat.reduceMul, Int.reduceLT, Int.reduceLE, Int.reduceToNat, BitVec.reduceOfInt, BitVec.reduceToNat, reduceCtorEq, and_self, decide_true, decide_false, Bool.not_true, Bool.not_false, ne_eq, not_true_eq_false, not_false_eq_true, true_and, and_true]
  refine SemE.call fn_22 rfl rfl (marI ki _ tt _ hko ht hf2) ?_
  rintro _ w1 ⟨vb, rfl, hb1, hg⟩
  refine ⟨_, rfl, ?_⟩
  obtain ⟨ab, cb, rfl, hcb, hab, hrb⟩ := hb1
  have hb1 : Txt w1 (.sl ab _ cb) (marB ki (cat tt)) := Txt.mk hrb rfl hcb hab
  rw [marB_len] at hb1 ⊢
  clear hcb hab hrb
  simp only [ev, fx, ↓reduceIte, Nat.reduceEqDiff, Nat.reduceLT, Nat.reduceLeDiff, Nat.reduceAdd, Nat.reduceSub, Nat.reduceMul, Int.reduceLT, Int.reduceLE, Int.reduceToNat, BitVec.reduceOfInt, BitVec.reduceToNat, reduceCtorEq, and_self, decide_true, decide_false, Bool.not_true, Bool.not_false, ne_eq, not_true_eq_false, not_false_eq_true, true_and, and_true]
  repeat (refine And.intro (by omega) ?_)
  refine hK _ _ ?_; clear hK K
  refine EWp.seqR [2, 8, 9, 10, 11] fun K hK => ?_
  simp only [ev, fx, ↓reduceIte, Nat.reduceEqDiff, Nat.reduceLT, Nat.reduceLeDiff, Nat.reduceAdd, Nat.reduceSub, Nat.reduceMul, Int.reduceLT, Int.reduceLE, Int.reduceToNat, BitVec.reduceOfInt, BitVec.reduceToNat, reduceCtorEq, and_self, decide_true, decide_false, Bool.not_true, Bool.not_false, ne_eq, not_true_eq_false, not_false_eq_true, true_and, and_true]
  refine SemE.call fn_23 rfl rfl (appI ki _ tt _ fr _ (hko.grow hg) (ht.grow hg) hf2 (htf.grow hg) (by omega)) ?_
  rintro _ w2 ⟨vg, rfl, hg1, hg2⟩
  refine ⟨_, rfl, ?_⟩
  obtain ⟨ag, cg, rfl, hcg, hag, hrg⟩ := hg1
  have hg1 : Txt w2 (.sl ag _ cg) (fr ++ marB ki (cat tt)) := Txt.mk hrg rfl hcg hag
  clear hcg hag hrg
  have hg := hg.trans hg2
  have hb1 := hb1.grow hg2
  have htf := htf.grow hg
  simp only [ev, fx, ↓reduceIte, Nat.reduceEqDiff, Nat.reduceLT, Nat.reduceLeDiff, Nat.reduceAdd, Nat.reduceSub, Nat.reduceMul, Int.reduceLT, Int.reduceLE, Int.reduceToNat, BitVec.reduceOfInt, BitVec.reduceToNat, reduceCtorEq, and_self, decide_true, decide_false, Bool.not_true, Bool.not_false, ne_eq, not_true_eq_false, not_false_eq_true, true_and, and_true]
  repeat (refine And.intro (by omega) ?_)
  refine hK _ _ ?_; clear hK K
  refine EWp.seqR [6] fun K hK => ?_
  simp only [ev, fx, ↓reduceIte, Nat.reduceEqDiff, Nat.reduceLT, Nat.reduceLeDiff, Nat.reduceAdd, Nat.reduceSub, Nat.reduceMul, Int.reduceLT, Int.reduceLE, Int.reduceToNat, BitVec.reduceOfInt, BitVec.reduceToNat, reduceCtorEq, and_self, decide_true, decide_false, Bool.not_true, Bool.not_false, ne_eq, not_true_eq_false, not_false_eq_true, true_and, and_true]
  refine SemE.toStrT tostr_23_9 rfl hg1 rfl ?_
  simp only [ev, fx, ↓reduceIte, Nat.reduceEqDiff, Nat.reduceLT, Nat.reduceLeDiff, Nat.reduceAdd, Nat.reduceSub, Nat.reduceMul, Int.reduceLT, Int.reduceLE, Int.reduceToNat, BitVec.reduceOfInt, BitVec.reduceToNat, reduceCtorEq, and_self, decide_true, decide_false, Bool.not_true, Bool.not_false, ne_eq, not_true_eq_false, not_false_eq_true, true_and, and_true]
  refine SemE.toStrT tostr_23_9 rfl htf rfl ?_
  simp only [ev, fx, ↓reduceIte, Nat.reduceEqDiff, Nat.reduceLT, Nat.reduceLeDiff, Nat.reduceAdd, Nat.reduceSub, Nat.reduceMul, Int.reduceLT, Int.reduceLE, Int.reduceToNat, BitVec.reduceOfInt, BitVec.reduceToNat, reduceCtorEq, and_self, decide_true, decide_false, Bool.not_true, Bool.not_false, ne_eq, not_true_eq_false, not_false_eq_true, true_and, and_true]
  refine SemE.toStrT tostr_23_9 rfl hb1 rfl ?_
  simp only [ev, fx, ↓reduceIte, Nat.reduceEqDiff, Nat.reduceLT, Nat.reduceLeDiff, Nat.reduceAdd, Nat.reduceSub, Nat.reduceMul, Int.reduceLT, Int.reduceLE, Int.reduceToNat, BitVec.reduceOfInt, BitVec.reduceToNat, reduceCtorEq, and_self, decide_true, decide_false, Bool.not_true, Bool.not_false, ne_eq, not_true_eq_false, not_false_eq_true, true_and, and_true]
  refine SemE.plain _ (Plain.addStr rfl rfl (by rw [marB_len]; omega)) rfl ?_
  simp only [ev, fx, ↓reduceIte, Nat.reduceEqDiff, Nat.reduceLT, Nat.reduceLeDiff, Nat.reduceAdd, Nat.reduceSub, Nat.reduceMul, Int.reduceLT, Int.reduceLE, Int.reduceToNat, BitVec.reduceOfInt, BitVec.reduceToNat, reduceCtorEq, and_self, decide_true, decide_false, Bool.not_true, Bool.not_false, ne_eq, not_true_eq_false, not_false_eq_true, true_and, and_true]
  refine SemE.plain (.bool true) (Plain.cast (Plain.eqlStr (xs := fr ++ marB ki (cat tt)) (ys := fr ++ marB ki (cat tt)) rfl rfl) (by simp)) rfl ?_
  simp only [ev, fx, ↓reduceIte, Nat.reduceEqDiff, Nat.reduceLT, Nat.reduceLeDiff, Nat.reduceAdd, Nat.reduceSub, Nat.reduceMul, Int.reduceLT, Int.reduceLE, Int.reduceToNat, BitVec.reduceOfInt, BitVec.reduceToNat, reduceCtorEq, and_self, decide_true, decide_false, Bool.not_true, Bool.not_false, ne_eq, not_true_eq_false, not_false_eq_true, true_and, and_true]
  repeat (refine And.intro (by omega) ?_)
  refine hK _ _ ?_; clear hK K
  exact EWp.ret (BodyE.tmp1 rfl rfl ⟨rfl, hg⟩)

set_option maxRecDepth 100000 in
theorem lawRoads2 (ki : Bool) (v : SV) (tt : List (List B8)) (vf : SV) (mm : List (List B8)) (w : World) (hko : KO w) (ht : Txs w v tt) (hm : Txs w vf mm) :
    Calls Tryd.prog 13 #[(SV.bool ki).val, v.val, vf.val] w fun e w' => e = .returned (SV.bool true).val ∧ Grow w w' := by
  refine calls_E [.bool ki, v, vf] Tryd.func13 rfl Tryd.ntmps13 rfl ?_
  refine EWp.seqR [0, 1, 2] fun K hK => ?_
  simp only [ev, fx, ↓reduceIte, Nat.reduceEqDiff, Nat.reduceLT, Nat.reduceLeDiff, Nat.reduceAdd, Nat.reduceSub, Nat.reduceMul, Int.reduceLT, Int.reduceLE, Int.reduceToNat, BitVec.reduceOfInt, BitVec.reduceToNat, reduceCtorEq, and_self, decide_true, decide_false, Bool.not_true, Bool.not_false, ne_eq, not_true_eq_false, not_false_eq_true, true_and, and_true]
  repeat (refine And.intro (by omega) ?_)
  refine hK _ _ ?_; clear hK K
  refine EWp.ifR [0, 1, 2, 19] fun K hK => ?_
  simp only [ev, fx, ↓reduceIte, Nat.reduceEqDiff, Nat.reduceLT, Nat.reduceLeDiff, Nat.reduceAdd, Nat.reduceSub, Nat.reduceMul, Int.reduceLT, Int.reduceLE, Int.reduceToNat, BitVec.reduceOfInt, BitVec.reduceToNat, reduceCtorEq, and_self, decide_true, decide_false, Bool.not_true, Bool.not_false, ne_eq, not_true_eq_false, not_false_eq_true, true_and, and_true]
  refine SemE.call fn_17 rfl rfl (fitsT _ tt _ ht) ?_
  rintro _ _ ⟨bf, rfl, hw⟩
  rw [hw]; clear hw
  refine ⟨_, rfl, ?_⟩
  cases bf
  · simp only [ev, fx, ↓reduceIte, Nat.reduceEqDiff, Nat.reduceLT, Nat.reduceLeDiff, Nat.reduceAdd, Nat.reduceSub, Nat.reduceMul, Int.reduceLT, Int.reduceLE, Int.reduceToNat, BitVec.reduceOfInt, BitVec.reduceToNat, reduceCtorEq, and_self, decide_true, decide_false, Bool.not_true, Bool.not_false, ne_eq, not_true_eq_false, not_false_eq_true, true_and, and_true]
    refine hK _ _ true rfl (fun _ => ?_) (fun h => by cases h); clear hK K
    refine EWp.seqR [6] fun K hK => ?_
    simp only [ev, fx, ↓reduceIte, Nat.reduceEqDiff, Nat.reduceLT, Nat.reduceLeDiff, Nat.reduceAdd, Nat.reduceSub, Nat.reduceMul, Int.reduceLT, Int.reduceLE, Int.reduceToNat, BitVec.reduceOfInt, BitVec.reduceToNat, reduceCtorEq, and_self, decide_true, decide_false, Bool.not_true, Bool.not_false, ne_eq, not_true_eq_false, not_false_eq_true, true_and, and_true]
    repeat (refine And.intro (by omega) ?_)
    refine hK _ _ ?_; clear hK K
    exact EWp.retT (BodyE.tmp1 rfl rfl ⟨rfl, Grow.refl _⟩)
  simp only [ev, fx, ↓reduceIte, Nat.reduceEqDiff, Nat.reduceLT, Nat.reduceLeDiff, Nat.reduceAdd, Nat.reduceSub, Nat.reduceMul, Int.reduceLT, Int.reduceLE, Int.reduceToNat, BitVec.reduceOfInt, BitVec.reduceToNat, reduceCtorEq, and_self, decide_true, decide_false, Bool.not_true, Bool.not_false, ne_eq, not_true_eq_false, not_false_eq_true, true_and, and_true]
  refine SemE.call fn_17 rfl rfl (fitsT _ mm _ hm) ?_
  rintro _ _ ⟨bf, rfl, hw⟩
  rw [hw]; clear hw
  refine ⟨_, rfl, ?_⟩
  cases bf
  · simp only [ev, fx, ↓reduceIte, Nat.reduceEqDiff, Nat.reduceLT, Nat.reduceLeDiff, Nat.reduceAdd, Nat.reduceSub, Nat.reduceMul, Int.reduceLT, Int.reduceLE, Int.reduceToNat, BitVec.reduceOfInt, BitVec.reduceToNat, reduceCtorEq, and_self, decide_true, decide_false, Bool.not_true, Bool.not_false, ne_eq, not_true_eq_false, not_false_eq_true, true_and, and_true]
    refine hK _ _ true rfl (fun _ => ?_) (fun h => by cases h); clear hK K
    refine EWp.seqR [6] fun K hK => ?_
    simp only [ev, fx, ↓reduceIte, Nat.reduceEqDiff, Nat.reduceLT, Nat.reduceLeDiff, Nat.reduceAdd, Nat.reduceSub, Nat.reduceMul, Int.reduceLT, Int.reduceLE, Int.reduceToNat, BitVec.reduceOfInt, BitVec.reduceToNat, reduceCtorEq, and_self, decide_true, decide_false, Bool.not_true, Bool.not_false, ne_eq, not_true_eq_false, not_false_eq_true, true_and, and_true]
    repeat (refine And.intro (by omega) ?_)
    refine hK _ _ ?_; clear hK K
    exact EWp.retT (BodyE.tmp1 rfl rfl ⟨rfl, Grow.refl _⟩)
  simp only [ev, fx, ↓reduceIte, Nat.reduceEqDiff, Nat.reduceLT, Nat.reduceLeDiff, Nat.reduceAdd, Nat.reduceSub, Nat.reduceMul, Int.reduceLT, Int.reduceLE, Int.reduceToNat, BitVec.reduceOfInt, BitVec.reduceToNat, reduceCtorEq, and_self, decide_true, decide_false, Bool.not_true, Bool.not_false, ne_eq, not_true_eq_false, not_false_eq_true, true_and, and_true]
  refine hK _ _ false rfl (fun h => by cases h) (fun _ => ?_); clear hK K
  refine EWp.skipThen ?_
  refine EWp.ifR [0, 1, 2, 27] fun K hK => ?_
  simp only [ev, fx, ↓reduceIte, Nat.reduceEqDiff, Nat.reduceLT, Nat.reduceLeDiff, Nat.reduceAdd, Nat.reduceSub, Nat.reduceMul, Int.reduceLT, Int.reduceLE, Int.reduceToNat, BitVec.reduceOfInt, BitVec.reduceToNat, reduceCtorEq, and_self, decide_true, decide_false, Bool.not_true, Bool.not_false, ne_eq, not_true_eq_false, not_false_eq_true, true_and, and_true]
  refine SemE.call fn_18 rfl rfl (fewT _ tt _ ht) ?_
  rintro _ _ ⟨rfl, hw⟩
  rw [hw]; clear hw
  refine ⟨_, rfl, ?_⟩
  cases hf : fewB tt
  · simp only [ev, fx, ↓reduceIte, Nat.reduceEqDiff, Nat.reduceLT, Nat.reduceLeDiff, Nat.reduceAdd, Nat.reduceSub, Nat.reduceMul, Int.reduceLT, Int.reduceLE, Int.reduceToNat, BitVec.reduceOfInt, BitVec.reduceToNat, reduceCtorEq, and_self, decide_true, decide_false, Bool.not_true, Bool.not_false, ne_eq, not_true_eq_false, not_false_eq_true, true_and, and_true]
    refine hK _ _ true rfl (fun _ => ?_) (fun h => by cases h); clear hK K
    refine EWp.seqR [6] fun K hK => ?_
    simp only [ev, fx, ↓reduceIte, Nat.reduceEqDiff, Nat.reduceLT, Nat.reduceLeDiff, Nat.reduceAdd, Nat.reduceSub, Nat.reduceMul, Int.reduceLT, Int.reduceLE, Int.reduceToNat, BitVec.reduceOfInt, BitVec.reduceToNat, reduceCtorEq, and_self, decide_true, decide_false, Bool.not_true, Bool.not_false, ne_eq, not_true_eq_false, not_false_eq_true, true_and, and_true]
    repeat (refine And.intro (by omega) ?_)
    refine hK _ _ ?_; clear hK K
    exact EWp.retT (BodyE.tmp1 rfl rfl ⟨rfl, Grow.refl _⟩)
  simp only [ev, fx, ↓reduceIte, Nat.reduceEqDiff, Nat.reduceLT, Nat.reduceLeDiff, Nat.reduceAdd, Nat.reduceSub, Nat.reduceMul, Int.reduceLT, Int.reduceLE, Int.reduceToNat, BitVec.reduceOfInt, BitVec.reduceToNat, reduceCtorEq, and_self, decide_true, decide_false, Bool.not_true, Bool.not_false, ne_eq, not_true_eq_false, not_false_eq_true, true_and, and_true]
  refine SemE.call fn_18 rfl rfl (fewT _ mm _ hm) ?_
  rintro _ _ ⟨rfl, hw⟩
  rw [hw]; clear hw
  refine ⟨_, rfl, ?_⟩
  cases hfm : fewB mm
  · simp only [ev, fx, ↓reduceIte, Nat.reduceEqDiff, Nat.reduceLT, Nat.reduceLeDiff, Nat.reduceAdd, Nat.reduceSub, Nat.reduceMul, Int.reduceLT, Int.reduceLE, Int.reduceToNat, BitVec.reduceOfInt, BitVec.reduceToNat, reduceCtorEq, and_self, decide_true, decide_false, Bool.not_true, Bool.not_false, ne_eq, not_true_eq_false, not_false_eq_true, true_and, and_true]
    refine hK _ _ true rfl (fun _ => ?_) (fun h => by cases h); clear hK K
    refine EWp.seqR [6] fun K hK => ?_
    simp only [ev, fx, ↓reduceIte, Nat.reduceEqDiff, Nat.reduceLT, Nat.reduceLeDiff, Nat.reduceAdd, Nat.reduceSub, Nat.reduceMul, Int.reduceLT, Int.reduceLE, Int.reduceToNat, BitVec.reduceOfInt, BitVec.reduceToNat, reduceCtorEq, and_self, decide_true, decide_false, Bool.not_true, Bool.not_false, ne_eq, not_true_eq_false, not_false_eq_true, true_and, and_true]
    repeat (refine And.intro (by omega) ?_)
    refine hK _ _ ?_; clear hK K
    exact EWp.retT (BodyE.tmp1 rfl rfl ⟨rfl, Grow.refl _⟩)
  simp only [ev, fx, ↓reduceIte, Nat.reduceEqDiff, Nat.reduceLT, Nat.reduceLeDiff, Nat.reduceAdd, Nat.reduceSub, Nat.reduceMul, Int.reduceLT, Int.reduceLE, Int.reduceToNat, BitVec.reduceOfInt, BitVec.reduceToNat, reduceCtorEq, and_self, decide_true, decide_false, Bool.not_true, Bool.not_false, ne_eq, not_true_eq_false, not_false_eq_true, true_and, and_true]
  refine hK _ _ false rfl (fun h => by cases h) (fun _ => ?_); clear hK K
  refine EWp.skipThen ?_
  have hf2 : tt.length ≤ 100 ∧ (cat tt).length ≤ 5000 := of_decide_eq_true hf
  have hm2 : mm.length ≤ 100 ∧ (cat mm).length ≤ 5000 := of_decide_eq_true hfm
  refine EWp.seqR [0, 1, 2, 7] fun K hK => ?_
  simp only [ev, fx, ↓reduceIte, Nat.reduceEqDiff, Nat.reduceLT, Nat.reduceLeDiff, Nat.reduceAdd, Nat.reduceSub, Nat.reduceMul, Int.reduceLT, Int.reduceLE, Int.reduceToNat, BitVec.reduceOfInt, BitVec.reduceToNat, reduceCtorEq, and_self, decide_true, decide_false, Bool.not_true, Bool.not_false, ne_eq, not_true_eq_false, not_false_eq_true, true_and, and_true]
  repeat (refine And.intro (by omega) ?_)
  refine hK _ _ ?_; clear hK K
  refine EWp.cut [1, 2, 7] (fun S' w2 => S' = [(1, v), (2, vf), (7, .nat (kd ki))] ∧ w2 = w) ?_ ?_
  case refine_1 =>
    refine EWp.brR [1, 2, 7, 28] fun K hK => ?_
    simp only [ev, fx, ↓reduceIte, Nat.reduceEqDiff, Nat.reduceLT, Nat.reduceLeDiff, Nat.reduceAdd, Nat.reduceSub, Nat.reduceMul, Int.reduceLT, Int.reduceLE, Int.reduceToNat, BitVec.reduceOfInt, BitVec.reduceToNat, reduceCtorEq, and_self, decide_true, decide_false, Bool.not_true, Bool.not_false, ne_eq, not_true_eq_false, not_false_eq_true, true_and, and_true]
    refine hK _ _ ki rfl (fun h => ?_) (fun h => ?_) <;> clear hK K
    · subst h
      refine EWp.regR [1, 2, 7] fun K hK => ?_
      simp only [ev, fx, ↓reduceIte, Nat.reduceEqDiff, Nat.reduceLT, Nat.reduceLeDiff, Nat.reduceAdd, Nat.reduceSub, Nat.reduceMul, Int.reduceLT, Int.reduceLE, Int.reduceToNat, BitVec.reduceOfInt, BitVec.reduceToNat, reduceCtorEq, and_self, decide_true, decide_false, Bool.not_true, Bool.not_false, ne_eq, not_true_eq_false, not_false_eq_true, true_and, and_true]
      refine hK _ _ fun S1 h1 => ?_; clear hK K
      simp only [ThenE]
      exact ⟨h1, trivial⟩
    · subst h
      refine EWp.skip ?_
      simp only [ThenE]
      exact ⟨rfl, trivial⟩
  rintro S' w2 ⟨rfl, hw⟩
  rw [hw]; clear hw w2
  refine EWp.seqR [1, 2, 7, 8, 9] fun K hK => ?_
  simp only [ev, fx, ↓reduceIte, Nat.reduceEqDiff, Nat.reduceLT, Nat.reduceLeDiff, Nat.reduceAdd, Nat.reduceSub, Nat.reduceMul, Int.reduceLT, Int.reduceLE, Int.reduceToNat, BitVec.reduceOfInt, BitVec.reduceToNat, reduceCtorEq, and_self, decide_true, decide_false, Bool.not_true, Bool.not_false, ne_eq, not_true_eq_false, not_false_eq_true, true_and, and_true]
  refine SemE.call fn_22 rfl rfl (marI ki _ tt _ hko ht hf2) ?_
  rintro _ w1 ⟨vb, rfl, hb1, hg⟩
  refine ⟨_, rfl, ?_⟩
  obtain ⟨ab, cb, rfl, hcb, hab, hrb⟩ := hb1
  have hb1 : Txt w1 (.sl ab _ cb) (marB ki (cat tt)) := Txt.mk hrb rfl hcb hab
  rw [marB_len] at hb1 ⊢
  clear hcb hab hrb
  simp only [ev, fx, ↓reduceIte, Nat.reduceEqDiff, Nat.reduceLT, Nat.reduceLeDiff, Nat.reduceAdd, Nat.reduceSub, Nat.reduceMul, Int.reduceLT, Int.reduceLE, Int.reduceToNat, BitVec.reduceOfInt, BitVec.reduceToNat, reduceCtorEq, and_self, decide_true, decide_false, Bool.not_true, Bool.not_false, ne_eq, not_true_eq_false, not_false_eq_true, true_and, and_true]
  repeat (refine And.intro (by omega) ?_)
  refine hK _ _ ?_; clear hK K
  refine EWp.seqR [1, 2, 7, 8, 9, 10, 11] fun K hK => ?_
  simp only [ev, fx, ↓reduceIte, Nat.reduceEqDiff, Nat.reduceLT, Nat.reduceLeDiff, Nat.reduceAdd, Nat.reduceSub, Nat.reduceMul, Int.reduceLT, Int.reduceLE, Int.reduceToNat, BitVec.reduceOfInt, BitVec.reduceToNat, reduceCtorEq, and_self, decide_true, decide_false, Bool.not_true, Bool.not_false, ne_eq, not_true_eq_false, not_false_eq_true, true_and, and_true]
  refine SemE.call fn_31 rfl rfl (unI ki _ (cat tt) _ mm _ (hko.grow hg) (by first | exact hb1 | (rw [marB_len]; exact hb1)) (hm.grow hg) hm2 (by omega)) ?_
  rintro _ w2 ⟨vg, rfl, hg1, hg2⟩
  refine ⟨_, rfl, ?_⟩
  obtain ⟨ag, cg, rfl, hcg, hag, hrg⟩ := hg1
  have hg1 : Txt w2 (.sl ag _ cg) (hashB ki (cat tt ++ cat mm)) := Txt.mk hrg rfl hcg hag
  rw [hashB_len] at hg1 ⊢
  clear hcg hag hrg
  have hg := hg.trans hg2
  simp only [ev, fx, ↓reduceIte, Nat.reduceEqDiff, Nat.reduceLT, Nat.reduceLeDiff, Nat.reduceAdd, Nat.reduceSub, Nat.reduceMul, Int.reduceLT, Int.reduceLE, Int.reduceToNat, BitVec.reduceOfInt, BitVec.reduceToNat, reduceCtorEq, and_self, decide_true, decide_false, Bool.not_true, Bool.not_false, ne_eq, not_true_eq_false, not_false_eq_true, true_and, and_true]
  repeat (refine And.intro (by omega) ?_)
  refine hK _ _ ?_; clear hK K
  refine EWp.seqO (fun _ => false) [(0, 0), (1, 0), (2, 0), (3, 0), (4, 0), (5, 0), (6, 0), (7, 1), (8, 0), (9, 0), (10, 0), (11, 1), (12, 0), (13, 0), (15, 0), (14, 2), (16, 2), (17, 2), (18, 2), (19, 1), (20, 1), (21, 0), (22, 0)] [6] mixed (by kernel_rfl) fun K hK => ?_
  have hgd := drewG w2
  have hg := hg.trans hgd
  have hg1 := hg1.grow hgd
  have hpos := hN_pos ki
  simp only [ev, fx, ↓reduceIte, Nat.reduceEqDiff, Nat.reduceLT, Nat.reduceLeDiff, Nat.reduceAdd, Nat.reduceSub, Nat.reduceMul, Int.reduceLT, Int.reduceLE, Int.reduceToNat, BitVec.reduceOfInt, BitVec.reduceToNat, reduceCtorEq, and_self, decide_true, decide_false, Bool.not_true, Bool.not_false, ne_eq, not_true_eq_false, not_false_eq_true, true_and, and_true, hpos]
  refine StopR.mk (SV.str (hashB ki (cat tt ++ cat mm))) (Quiet.toStrT tostr_23_9 rfl (hg1)) rfl ?_
  simp only [ev, fx, ↓reduceIte, Nat.reduceEqDiff, Nat.reduceLT, Nat.reduceLeDiff, Nat.reduceAdd, Nat.reduceSub, Nat.reduceMul, Int.reduceLT, Int.reduceLE, Int.reduceToNat, BitVec.reduceOfInt, BitVec.reduceToNat, reduceCtorEq, and_self, decide_true, decide_false, Bool.not_true, Bool.not_false, ne_eq, not_true_eq_false, not_false_eq_true, true_and, and_true]
  refine SemE.call fn_19 rfl rfl (joinedT _ tt _ (ht.grow hg) hf2) ?_
  rintro _ w3 ⟨v3, rfl, hh3, hg3⟩
  refine ⟨_, rfl, fun _ => hg3, ?_⟩
  have hg := hg.trans hg3
  simp only [ev, fx, ↓reduceIte, Nat.reduceEqDiff, Nat.reduceLT, Nat.reduceLeDiff, Nat.reduceAdd, Nat.reduceSub, Nat.reduceMul, Int.reduceLT, Int.reduceLE, Int.reduceToNat, BitVec.reduceOfInt, BitVec.reduceToNat, reduceCtorEq, and_self, decide_true, decide_false, Bool.not_true, Bool.not_false, ne_eq, not_true_eq_false, not_false_eq_true, true_and, and_true]
  refine SemE.call fn_19 rfl rfl (joinedT _ mm _ (hm.grow hg) hm2) ?_
  rintro _ w4 ⟨v4, rfl, hh4, hg4⟩
  refine ⟨_, rfl, fun _ => hg4, ?_⟩
  have hg := hg.trans hg4
  have hh3 := hh3.grow hg4
  simp only [ev, fx, ↓reduceIte, Nat.reduceEqDiff, Nat.reduceLT, Nat.reduceLeDiff, Nat.reduceAdd, Nat.reduceSub, Nat.reduceMul, Int.reduceLT, Int.reduceLE, Int.reduceToNat, BitVec.reduceOfInt, BitVec.reduceToNat, reduceCtorEq, and_self, decide_true, decide_false, Bool.not_true, Bool.not_false, ne_eq, not_true_eq_false, not_false_eq_true, true_and, and_true]
  refine SemE.buildSlice (vs := [v3, v4]) (HL.start _) 23 slof_28 (by obtain ⟨_, _, rfl, _⟩ := hh3; obtain ⟨_, _, rfl, _⟩ := hh4; rfl) rfl (by omega) rfl fun b w5 hb hl => ⟨fun _ => hl.toGrow, ?_⟩
  have hg := hg.trans hl.toGrow
  have hx : Txs w5 (.sl (some ⟨b, 0, none⟩) 2 2) [cat tt, cat mm] := Txs.mk (RdD.two (Rd.blk hl (k := 0) rfl 0 2) (hh3.grow hl.toGrow) (hh4.grow hl.toGrow)) rfl (Nat.le_refl _) (fun h => by cases h)
  have hc1 : cat [cat tt, cat mm] = cat tt ++ cat mm := by simp [cat]
  clear hh3 hh4 hl
  simp only [ev, fx, ↓reduceIte, Nat.reduceEqDiff, Nat.reduceLT, Nat.reduceLeDiff, Nat.reduceAdd, Nat.reduceSub, Nat.reduceMul, Int.reduceLT, Int.reduceLE, Int.reduceToNat, BitVec.reduceOfInt, BitVec.reduceToNat, reduceCtorEq, and_self, decide_true, decide_false, Bool.not_true, Bool.not_false, ne_eq, not_true_eq_false, not_false_eq_true, true_and, and_true]
  refine SemE.call fn_24 rfl rfl (hash2LT ki _ _ _ (hko.grow hg) hx ⟨by simp, by rw [hc1, List.length_append]; omega⟩) ?_
  rintro _ w6 ⟨v6, rfl, hh6, hg6⟩
  refine ⟨_, rfl, fun _ => hg6, ?_⟩
  have hg := hg.trans hg6
  rw [hc1] at hh6
  simp only [ev, fx, ↓reduceIte, Nat.reduceEqDiff, Nat.reduceLT, Nat.reduceLeDiff, Nat.reduceAdd, Nat.reduceSub, Nat.reduceMul, Int.reduceLT, Int.reduceLE, Int.reduceToNat, BitVec.reduceOfInt, BitVec.reduceToNat, reduceCtorEq, and_self, decide_true, decide_false, Bool.not_true, Bool.not_false, ne_eq, not_true_eq_false, not_false_eq_true, true_and, and_true]
  refine StopR.mk (SV.str (hashB ki (cat tt ++ cat mm))) (Quiet.toStrT tostr_23_9 rfl (hh6)) rfl ?_
  simp only [ev, fx, ↓reduceIte, Nat.reduceEqDiff, Nat.reduceLT, Nat.reduceLeDiff, Nat.reduceAdd, Nat.reduceSub, Nat.reduceMul, Int.reduceLT, Int.reduceLE, Int.reduceToNat, BitVec.reduceOfInt, BitVec.reduceToNat, reduceCtorEq, and_self, decide_true, decide_false, Bool.not_true, Bool.not_false, ne_eq, not_true_eq_false, not_false_eq_true, true_and, and_true]
  refine StopR.mk (.bool true) (Quiet.plain (Plain.cast (Plain.eqlStr (xs := hashB ki (cat tt ++ cat mm)) (ys := hashB ki (cat tt ++ cat mm)) rfl rfl) (by simp))) rfl ?_
  simp only [ev, fx, ↓reduceIte, Nat.reduceEqDiff, Nat.reduceLT, Nat.reduceLeDiff, Nat.reduceAdd, Nat.reduceSub, Nat.reduceMul, Int.reduceLT, Int.reduceLE, Int.reduceToNat, BitVec.reduceOfInt, BitVec.reduceToNat, reduceCtorEq, and_self, decide_true, decide_false, Bool.not_true, Bool.not_false, ne_eq, not_true_eq_false, not_false_eq_true, true_and, and_true]
  repeat (refine And.intro (by omega) ?_)
  refine hK _ _ ?_; clear hK K
  exact EWp.ret (BodyE.tmp1 rfl rfl ⟨rfl, hg⟩)
end Go.Proofs.YtkfblgkicopjjaaDoor
