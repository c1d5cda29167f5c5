/- The sizes of SHA-1. -/
import Derived.Test.YtloonhdnheobpaaNew1
set_option linter.unusedVariables false
set_option linter.unusedSimpArgs false
namespace Go.Proofs.Ytloonhdnheobpaa
open Go

theorem size1 (v : SV) (w : World) : Calls Try.prog 12 #[v.val] w fun e w' => e = .returned (SV.nat 20).val ∧ w' = w := by
  refine calls_E [v] Try.func12 rfl Try.ntmps12 rfl ?_
  refine EWp.seqR [2] fun K hK => ?_
  simp only [ev, fx, ↓reduceIte, Nat.reduceEqDiff, Nat.reduceLT, Nat.reduceLeDiff, Nat.reduceAdd, Nat.reduceSub, Nat.reduceMul, Int.reduceLT, Int.reduceLE, Int.reduceToNat, BitVec.reduceOfInt, BitVec.reduceToNat, reduceCtorEq, and_self, decide_true, decide_false, Bool.not_true, Bool.not_false, ne_eq, not_true_eq_false, not_false_eq_true, true_and, and_true]
  refine hK _ _ ?_; clear hK K
  refine EWp.seqR [2] fun K hK => ?_
  simp only [ev, fx, ↓reduceIte, Nat.reduceEqDiff, Nat.reduceLT, Nat.reduceLeDiff, Nat.reduceAdd, Nat.reduceSub, Nat.reduceMul, Int.reduceLT, Int.reduceLE, Int.reduceToNat, BitVec.reduceOfInt, BitVec.reduceToNat, reduceCtorEq, and_self, decide_true, decide_false, Bool.not_true, Bool.not_false, ne_eq, not_true_eq_false, not_false_eq_true, true_and, and_true]
  refine hK _ _ ?_; clear hK K
  exact EWp.ret (BodyE.tmp1 rfl rfl ⟨rfl, rfl⟩)
theorem blockSize1 (v : SV) (w : World) : Calls Try.prog 13 #[v.val] w fun e w' => e = .returned (SV.nat 64).val ∧ w' = w := by
  refine calls_E [v] Try.func13 rfl Try.ntmps13 rfl ?_
  refine EWp.seqR [2] fun K hK => ?_
  simp only [ev, fx, ↓reduceIte, Nat.reduceEqDiff, Nat.reduceLT, Nat.reduceLeDiff, Nat.reduceAdd, Nat.reduceSub, Nat.reduceMul, Int.reduceLT, Int.reduceLE, Int.reduceToNat, BitVec.reduceOfInt, BitVec.reduceToNat, reduceCtorEq, and_self, decide_true, decide_false, Bool.not_true, Bool.not_false, ne_eq, not_true_eq_false, not_false_eq_true, true_and, and_true]
  refine hK _ _ ?_; clear hK K
  refine EWp.seqR [2] fun K hK => ?_
  simp only [ev, fx, ↓reduceIte, Nat.reduceEqDiff, Nat.reduceLT, Nat.reduceLeDiff, Nat.reduceAdd, Nat.reduceSub, Nat.reduceMul, Int.reduceLT, Int.reduceLE, Int.reduceToNat, BitVec.reduceOfInt, BitVec.reduceToNat, reduceCtorEq, and_self, decide_true, decide_false, Bool.not_true, Bool.not_false, ne_eq, not_true_eq_false, not_false_eq_true, true_and, and_true]
  refine hK _ _ ?_; clear hK K
  exact EWp.ret (BodyE.tmp1 rfl rfl ⟨rfl, rfl⟩)

theorem sizesSha1_6 (w : World) : Calls Try.prog 7 #[(SV.nat 6).val] w fun e w' => e = .returned (SV.tup2 (.nat 20) (.nat 64)).val ∧ Grow w w' := by
  refine calls_E [.nat 6] Try.func7 rfl Try.ntmps7 rfl ?_
  refine EWp.seqR [0] fun K hK => ?_
  simp only [ev, fx, ↓reduceIte, Nat.reduceEqDiff, Nat.reduceLT, Nat.reduceLeDiff, Nat.reduceAdd, Nat.reduceSub, Nat.reduceMul, Int.reduceLT, Int.reduceLE, Int.reduceToNat, BitVec.reduceOfInt, BitVec.reduceToNat, reduceCtorEq, and_self, decide_true, decide_false, Bool.not_true, Bool.not_false, ne_eq, not_true_eq_false, not_false_eq_true, true_and, and_true]
  refine hK _ _ ?_; clear hK K
  refine EWp.seqR [4] fun K hK => ?_
  simp only [ev, fx, ↓reduceIte, Nat.reduceEqDiff, Nat.reduceLT, Nat.reduceLeDiff, Nat.reduceAdd, Nat.reduceSub, Nat.reduceMul, Int.reduceLT, Int.reduceLE, Int.reduceToNat, BitVec.reduceOfInt, BitVec.reduceToNat, reduceCtorEq, and_self, decide_true, decide_false, Bool.not_true, Bool.not_false, ne_eq, not_true_eq_false, not_false_eq_true, true_and, and_true]
  refine SemE.call fn_11 rfl rfl (newSha1_6 _) ?_
  rintro _ w2 ⟨b, hb, rfl, hl⟩
  refine ⟨_, rfl, ?_⟩
  simp only [ev, fx, ↓reduceIte, Nat.reduceEqDiff, Nat.reduceLT, Nat.reduceLeDiff, Nat.reduceAdd, Nat.reduceSub, Nat.reduceMul, Int.reduceLT, Int.reduceLE, Int.reduceToNat, BitVec.reduceOfInt, BitVec.reduceToNat, reduceCtorEq, and_self, decide_true, decide_false, Bool.not_true, Bool.not_false, ne_eq, not_true_eq_false, not_false_eq_true, true_and, and_true]
  refine hK _ _ ?_; clear hK K
  refine EWp.ifR [4, 8] fun K hK => ?_
  simp only [ev, fx, ↓reduceIte, Nat.reduceEqDiff, Nat.reduceLT, Nat.reduceLeDiff, Nat.reduceAdd, Nat.reduceSub, Nat.reduceMul, Int.reduceLT, Int.reduceLE, Int.reduceToNat, BitVec.reduceOfInt, BitVec.reduceToNat, reduceCtorEq, and_self, decide_true, decide_false, Bool.not_true, Bool.not_false, ne_eq, not_true_eq_false, not_false_eq_true, true_and, and_true]
  refine SemE.plain _ (Plain.eqlNil (some ⟨b, 0, none⟩) ptr_29 rfl rfl rfl) rfl ?_
  simp only [ev, fx, ↓reduceIte, Nat.reduceEqDiff, Nat.reduceLT, Nat.reduceLeDiff, Nat.reduceAdd, Nat.reduceSub, Nat.reduceMul, Int.reduceLT, Int.reduceLE, Int.reduceToNat, BitVec.reduceOfInt, BitVec.reduceToNat, reduceCtorEq, and_self, decide_true, decide_false, Bool.not_true, Bool.not_false, ne_eq, not_true_eq_false, not_false_eq_true, true_and, and_true]
  refine hK _ _ false rfl (fun h => by cases h) (fun _ => ?_); clear hK K
  refine EWp.skipThen ?_
  refine EWp.seqR [2, 3] fun K hK => ?_
  simp only [ev, fx, ↓reduceIte, Nat.reduceEqDiff, Nat.reduceLT, Nat.reduceLeDiff, Nat.reduceAdd, Nat.reduceSub, Nat.reduceMul, Int.reduceLT, Int.reduceLE, Int.reduceToNat, BitVec.reduceOfInt, BitVec.reduceToNat, reduceCtorEq, and_self, decide_true, decide_false, Bool.not_true, Bool.not_false, ne_eq, not_true_eq_false, not_false_eq_true, true_and, and_true]
  refine SemE.call fn_12 rfl rfl (size1 _ _) ?_
  rintro _ _ ⟨rfl, rfl⟩
  refine ⟨_, rfl, ?_⟩
  simp only [ev, fx, ↓reduceIte, Nat.reduceEqDiff, Nat.reduceLT, Nat.reduceLeDiff, Nat.reduceAdd, Nat.reduceSub, Nat.reduceMul, Int.reduceLT, Int.reduceLE, Int.reduceToNat, BitVec.reduceOfInt, BitVec.reduceToNat, reduceCtorEq, and_self, decide_true, decide_false, Bool.not_true, Bool.not_false, ne_eq, not_true_eq_false, not_false_eq_true, true_and, and_true]
  refine SemE.call fn_13 rfl rfl (blockSize1 _ _) ?_
  rintro _ _ ⟨rfl, rfl⟩
  refine ⟨_, rfl, ?_⟩
  simp only [ev, fx, ↓reduceIte, Nat.reduceEqDiff, Nat.reduceLT, Nat.reduceLeDiff, Nat.reduceAdd, Nat.reduceSub, Nat.reduceMul, Int.reduceLT, Int.reduceLE, Int.reduceToNat, BitVec.reduceOfInt, BitVec.reduceToNat, reduceCtorEq, and_self, decide_true, decide_false, Bool.not_true, Bool.not_false, ne_eq, not_true_eq_false, not_false_eq_true, true_and, and_true]
  refine hK _ _ ?_; clear hK K
  exact EWp.ret (BodyE.tmp2 rfl rfl rfl ⟨rfl, (hl.sub (List.nil_sublist _)).toGrow⟩)

theorem sizesSha1_no (k : Nat) (hk : k ≠ 6) (w : World) : Calls Try.prog 7 #[(SV.nat k).val] w fun e w' => e = .returned (SV.tup2 (.nat 0) (.nat 0)).val ∧ w' = w := by
  refine calls_E [.nat k] Try.func7 rfl Try.ntmps7 rfl ?_
  refine EWp.seqR [0] fun K hK => ?_
  simp only [ev, fx, ↓reduceIte, Nat.reduceEqDiff, Nat.reduceLT, Nat.reduceLeDiff, Nat.reduceAdd, Nat.reduceSub, Nat.reduceMul, Int.reduceLT, Int.reduceLE, Int.reduceToNat, BitVec.reduceOfInt, BitVec.reduceToNat, reduceCtorEq, and_self, decide_true, decide_false, Bool.not_true, Bool.not_false, ne_eq, not_true_eq_false, not_false_eq_true, true_and, and_true]
  refine hK _ _ ?_; clear hK K
  refine EWp.seqR [4] fun K hK => ?_
  simp only [ev, fx, ↓reduceIte, Nat.reduceEqDiff, Nat.reduceLT, Nat.reduceLeDiff, Nat.reduceAdd, Nat.reduceSub, Nat.reduceMul, Int.reduceLT, Int.reduceLE, Int.reduceToNat, BitVec.reduceOfInt, BitVec.reduceToNat, reduceCtorEq, and_self, decide_true, decide_false, Bool.not_true, Bool.not_false, ne_eq, not_true_eq_false, not_false_eq_true, true_and, and_true]
  refine SemE.call fn_11 rfl rfl (newSha1_no k hk _) ?_
  rintro _ _ ⟨rfl, rfl⟩
  refine ⟨_, rfl, ?_⟩
  simp only [ev, fx, ↓reduceIte, Nat.reduceEqDiff, Nat.reduceLT, Nat.reduceLeDiff, Nat.reduceAdd, Nat.reduceSub, Nat.reduceMul, Int.reduceLT, Int.reduceLE, Int.reduceToNat, BitVec.reduceOfInt, BitVec.reduceToNat, reduceCtorEq, and_self, decide_true, decide_false, Bool.not_true, Bool.not_false, ne_eq, not_true_eq_false, not_false_eq_true, true_and, and_true]
  refine hK _ _ ?_; clear hK K
  refine EWp.ifR [4, 8] fun K hK => ?_
  simp only [ev, fx, ↓reduceIte, Nat.reduceEqDiff, Nat.reduceLT, Nat.reduceLeDiff, Nat.reduceAdd, Nat.reduceSub, Nat.reduceMul, Int.reduceLT, Int.reduceLE, Int.reduceToNat, BitVec.reduceOfInt, BitVec.reduceToNat, reduceCtorEq, and_self, decide_true, decide_false, Bool.not_true, Bool.not_false, ne_eq, not_true_eq_false, not_false_eq_true, true_and, and_true]
  refine SemE.plain _ (Plain.eqlNil none ptr_29 rfl rfl rfl) rfl ?_
  simp only [ev, fx, ↓reduceIte, Nat.reduceEqDiff, Nat.reduceLT, Nat.reduceLeDiff, Nat.reduceAdd, Nat.reduceSub, Nat.reduceMul, Int.reduceLT, Int.reduceLE, Int.reduceToNat, BitVec.reduceOfInt, BitVec.reduceToNat, reduceCtorEq, and_self, decide_true, decide_false, Bool.not_true, Bool.not_false, ne_eq, not_true_eq_false, not_false_eq_true, true_and, and_true]
  refine hK _ _ true rfl (fun _ => ?_) (fun h => by cases h); clear hK K
  refine EWp.seqR [2, 3] fun K hK => ?_
  simp only [ev, fx, ↓reduceIte, Nat.reduceEqDiff, Nat.reduceLT, Nat.reduceLeDiff, Nat.reduceAdd, Nat.reduceSub, Nat.reduceMul, Int.reduceLT, Int.reduceLE, Int.reduceToNat, BitVec.reduceOfInt, BitVec.reduceToNat, reduceCtorEq, and_self, decide_true, decide_false, Bool.not_true, Bool.not_false, ne_eq, not_true_eq_false, not_false_eq_true, true_and, and_true]
  refine hK _ _ ?_; clear hK K
  exact EWp.retT (BodyE.tmp2 rfl rfl rfl ⟨rfl, rfl⟩)

theorem specSizes_6 (w : World) : Calls Try.prog 6 #[(SV.nat 6).val] w fun e w' => e = .returned (SV.tup2 (.nat 20) (.nat 64)).val ∧ Grow w w' := by
  refine calls_E [.nat 6] Try.func6 rfl Try.ntmps6 rfl ?_
  refine EWp.seqR [0] fun K hK => ?_
  simp only [ev, fx, ↓reduceIte, Nat.reduceEqDiff, Nat.reduceLT, Nat.reduceLeDiff, Nat.reduceAdd, Nat.reduceSub, Nat.reduceMul, Int.reduceLT, Int.reduceLE, Int.reduceToNat, BitVec.reduceOfInt, BitVec.reduceToNat, reduceCtorEq, and_self, decide_true, decide_false, Bool.not_true, Bool.not_false, ne_eq, not_true_eq_false, not_false_eq_true, true_and, and_true]
  refine hK _ _ ?_; clear hK K
  refine EWp.seqR [0, 4] fun K hK => ?_
  simp only [ev, fx, ↓reduceIte, Nat.reduceEqDiff, Nat.reduceLT, Nat.reduceLeDiff, Nat.reduceAdd, Nat.reduceSub, Nat.reduceMul, Int.reduceLT, Int.reduceLE, Int.reduceToNat, BitVec.reduceOfInt, BitVec.reduceToNat, reduceCtorEq, and_self, decide_true, decide_false, Bool.not_true, Bool.not_false, ne_eq, not_true_eq_false, not_false_eq_true, true_and, and_true]
  refine hK _ _ ?_; clear hK K
  refine EWp.ifR [0, 4, 10] fun K hK => ?_
  simp only [ev, fx, ↓reduceIte, Nat.reduceEqDiff, Nat.reduceLT, Nat.reduceLeDiff, Nat.reduceAdd, Nat.reduceSub, Nat.reduceMul, Int.reduceLT, Int.reduceLE, Int.reduceToNat, BitVec.reduceOfInt, BitVec.reduceToNat, reduceCtorEq, and_self, decide_true, decide_false, Bool.not_true, Bool.not_false, ne_eq, not_true_eq_false, not_false_eq_true, true_and, and_true]
  refine hK _ _ false rfl (fun h => by cases h) (fun _ => ?_); clear hK K
  refine EWp.skipThen ?_
  refine EWp.seqR [2, 3] fun K hK => ?_
  simp only [ev, fx, ↓reduceIte, Nat.reduceEqDiff, Nat.reduceLT, Nat.reduceLeDiff, Nat.reduceAdd, Nat.reduceSub, Nat.reduceMul, Int.reduceLT, Int.reduceLE, Int.reduceToNat, BitVec.reduceOfInt, BitVec.reduceToNat, reduceCtorEq, and_self, decide_true, decide_false, Bool.not_true, Bool.not_false, ne_eq, not_true_eq_false, not_false_eq_true, true_and, and_true]
  refine SemE.buildSlice (vs := [.nat 28, .nat 32, .nat 48, .nat 64, .nat 28, .nat 32, .nat 20, .nat 16]) (HL.start w) 3 slof_28 rfl rfl (by omega) rfl fun b w1 hb hl => ?_
  simp only [ev, fx, ↓reduceIte, Nat.reduceEqDiff, Nat.reduceLT, Nat.reduceLeDiff, Nat.reduceAdd, Nat.reduceSub, Nat.reduceMul, Int.reduceLT, Int.reduceLE, Int.reduceToNat, BitVec.reduceOfInt, BitVec.reduceToNat, reduceCtorEq, and_self, decide_true, decide_false, Bool.not_true, Bool.not_false, ne_eq, not_true_eq_false, not_false_eq_true, true_and, and_true]
  refine SemE.loadB hl 0 rfl one_3 rfl rfl rfl ?_
  simp only [ev, fx, ↓reduceIte, Nat.reduceEqDiff, Nat.reduceLT, Nat.reduceLeDiff, Nat.reduceAdd, Nat.reduceSub, Nat.reduceMul, Int.reduceLT, Int.reduceLE, Int.reduceToNat, BitVec.reduceOfInt, BitVec.reduceToNat, reduceCtorEq, and_self, decide_true, decide_false, Bool.not_true, Bool.not_false, ne_eq, not_true_eq_false, not_false_eq_true, true_and, and_true]
  refine hK _ _ ?_; clear hK K
  exact EWp.ret (BodyE.tmp2 rfl rfl rfl ⟨rfl, (hl.sub (List.nil_sublist _)).toGrow⟩)

set_option maxRecDepth 100000 in
theorem walkSizes1 (a : Nat) (ha : a < 256) (w : World) : Calls Try.prog 4 #[(SV.u8 (BitVec.ofNat 8 a)).val] w fun e w' => e = .returned (SV.bool true).val ∧ Grow w w' := by
  refine calls_E [.u8 (BitVec.ofNat 8 a)] Try.func4 rfl Try.ntmps4 rfl ?_
  refine EWp.seqR [0] fun K hK => ?_
  simp only [ev, fx, ↓reduceIte, Nat.reduceEqDiff, Nat.reduceLT, Nat.reduceLeDiff, Nat.reduceAdd, Nat.reduceSub, Nat.reduceMul, Int.reduceLT, Int.reduceLE, Int.reduceToNat, BitVec.reduceOfInt, BitVec.reduceToNat, reduceCtorEq, and_self, decide_true, decide_false, Bool.not_true, Bool.not_false, ne_eq, not_true_eq_false, not_false_eq_true, true_and, and_true]
  refine hK _ _ ?_; clear hK K
  refine EWp.seqR [3] fun K hK => ?_
  simp only [ev, fx, ↓reduceIte, Nat.reduceEqDiff, Nat.reduceLT, Nat.reduceLeDiff, Nat.reduceAdd, Nat.reduceSub, Nat.reduceMul, Int.reduceLT, Int.reduceLE, Int.reduceToNat, BitVec.reduceOfInt, BitVec.reduceToNat, reduceCtorEq, and_self, decide_true, decide_false, Bool.not_true, Bool.not_false, ne_eq, not_true_eq_false, not_false_eq_true, true_and, and_true]
  refine hK _ _ ?_; clear hK K
  generalize (BitVec.ofNat 8 a).toNat % 10 = k
  by_cases hk : k = 6
  · subst hk
    refine EWp.seqR [3, 4, 5] fun K hK => ?_
    simp only [ev, fx, ↓reduceIte, Nat.reduceEqDiff, Nat.reduceLT, Nat.reduceLeDiff, Nat.reduceAdd, Nat.reduceSub, Nat.reduceMul, Int.reduceLT, Int.reduceLE, Int.reduceToNat, BitVec.reduceOfInt, BitVec.reduceToNat, reduceCtorEq, and_self, decide_true, decide_false, Bool.not_true, Bool.not_false, ne_eq, not_true_eq_false, not_false_eq_true, true_and, and_true]
    refine SemE.call fn_7 rfl rfl (sizesSha1_6 _) ?_
    rintro _ w1 ⟨rfl, hg⟩
    refine ⟨_, rfl, ?_⟩
    simp only [ev, fx, ↓reduceIte, Nat.reduceEqDiff, Nat.reduceLT, Nat.reduceLeDiff, Nat.reduceAdd, Nat.reduceSub, Nat.reduceMul, Int.reduceLT, Int.reduceLE, Int.reduceToNat, BitVec.reduceOfInt, BitVec.reduceToNat, reduceCtorEq, and_self, decide_true, decide_false, Bool.not_true, Bool.not_false, ne_eq, not_true_eq_false, not_false_eq_true, true_and, and_true]
    refine hK _ _ ?_; clear hK K
    refine EWp.ifR [3, 4, 5, 18] fun K hK => ?_
    simp only [ev, fx, ↓reduceIte, Nat.reduceEqDiff, Nat.reduceLT, Nat.reduceLeDiff, Nat.reduceAdd, Nat.reduceSub, Nat.reduceMul, Int.reduceLT, Int.reduceLE, Int.reduceToNat, BitVec.reduceOfInt, BitVec.reduceToNat, reduceCtorEq, and_self, decide_true, decide_false, Bool.not_true, Bool.not_false, ne_eq, not_true_eq_false, not_false_eq_true, true_and, and_true]
    refine hK _ _ false rfl (fun h => by cases h) (fun _ => ?_); clear hK K
    refine EWp.skipThen ?_
    refine EWp.seqR [4, 5, 6, 7] fun K hK => ?_
    simp only [ev, fx, ↓reduceIte, Nat.reduceEqDiff, Nat.reduceLT, Nat.reduceLeDiff, Nat.reduceAdd, Nat.reduceSub, Nat.reduceMul, Int.reduceLT, Int.reduceLE, Int.reduceToNat, BitVec.reduceOfInt, BitVec.reduceToNat, reduceCtorEq, and_self, decide_true, decide_false, Bool.not_true, Bool.not_false, ne_eq, not_true_eq_false, not_false_eq_true, true_and, and_true]
    refine SemE.call fn_6 rfl rfl (specSizes_6 _) ?_
    rintro _ w2 ⟨rfl, hg2⟩
    refine ⟨_, rfl, ?_⟩
    simp only [ev, fx, ↓reduceIte, Nat.reduceEqDiff, Nat.reduceLT, Nat.reduceLeDiff, Nat.reduceAdd, Nat.reduceSub, Nat.reduceMul, Int.reduceLT, Int.reduceLE, Int.reduceToNat, BitVec.reduceOfInt, BitVec.reduceToNat, reduceCtorEq, and_self, decide_true, decide_false, Bool.not_true, Bool.not_false, ne_eq, not_true_eq_false, not_false_eq_true, true_and, and_true]
    refine hK _ _ ?_; clear hK K
    refine EWp.seqR [2] fun K hK => ?_
    simp only [ev, fx, ↓reduceIte, Nat.reduceEqDiff, Nat.reduceLT, Nat.reduceLeDiff, Nat.reduceAdd, Nat.reduceSub, Nat.reduceMul, Int.reduceLT, Int.reduceLE, Int.reduceToNat, BitVec.reduceOfInt, BitVec.reduceToNat, reduceCtorEq, and_self, decide_true, decide_false, Bool.not_true, Bool.not_false, ne_eq, not_true_eq_false, not_false_eq_true, true_and, and_true]
    refine hK _ _ ?_; clear hK K
    exact EWp.ret (BodyE.tmp1 rfl rfl ⟨rfl, hg.trans hg2⟩)
  · refine EWp.seqR [3, 4, 5] fun K hK => ?_
    simp only [ev, fx, ↓reduceIte, Nat.reduceEqDiff, Nat.reduceLT, Nat.reduceLeDiff, Nat.reduceAdd, Nat.reduceSub, Nat.reduceMul, Int.reduceLT, Int.reduceLE, Int.reduceToNat, BitVec.reduceOfInt, BitVec.reduceToNat, reduceCtorEq, and_self, decide_true, decide_false, Bool.not_true, Bool.not_false, ne_eq, not_true_eq_false, not_false_eq_true, true_and, and_true]
    refine SemE.call fn_7 rfl rfl (sizesSha1_no k hk _) ?_
    rintro _ w1 ⟨rfl, rfl⟩
    refine ⟨_, rfl, ?_⟩
    simp only [ev, fx, ↓reduceIte, Nat.reduceEqDiff, Nat.reduceLT, Nat.reduceLeDiff, Nat.reduceAdd, Nat.reduceSub, Nat.reduceMul, Int.reduceLT, Int.reduceLE, Int.reduceToNat, BitVec.reduceOfInt, BitVec.reduceToNat, reduceCtorEq, and_self, decide_true, decide_false, Bool.not_true, Bool.not_false, ne_eq, not_true_eq_false, not_false_eq_true, true_and, and_true]
    refine hK _ _ ?_; clear hK K
    refine EWp.ifR [3, 4, 5, 18] fun K hK => ?_
    simp only [ev, fx, ↓reduceIte, Nat.reduceEqDiff, Nat.reduceLT, Nat.reduceLeDiff, Nat.reduceAdd, Nat.reduceSub, Nat.reduceMul, Int.reduceLT, Int.reduceLE, Int.reduceToNat, BitVec.reduceOfInt, BitVec.reduceToNat, reduceCtorEq, and_self, decide_true, decide_false, Bool.not_true, Bool.not_false, ne_eq, not_true_eq_false, not_false_eq_true, true_and, and_true]
    refine hK _ _ true (by simp [Env.op, Env.get, hk]) (fun _ => ?_) (fun h => by cases h); clear hK K
    refine EWp.seqR [2] fun K hK => ?_
    simp only [ev, fx, ↓reduceIte, Nat.reduceEqDiff, Nat.reduceLT, Nat.reduceLeDiff, Nat.reduceAdd, Nat.reduceSub, Nat.reduceMul, Int.reduceLT, Int.reduceLE, Int.reduceToNat, BitVec.reduceOfInt, BitVec.reduceToNat, reduceCtorEq, and_self, decide_true, decide_false, Bool.not_true, Bool.not_false, ne_eq, not_true_eq_false, not_false_eq_true, true_and, and_true]
    refine hK _ _ ?_; clear hK K
    exact EWp.retT (BodyE.tmp1 rfl rfl ⟨rfl, Grow.refl _⟩)
end Go.Proofs.Ytloonhdnheobpaa
