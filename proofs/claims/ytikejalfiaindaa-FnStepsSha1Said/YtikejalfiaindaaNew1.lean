/- New digests of SHA-1. -/
import Derived.Test.YtikejalfiaindaaDigM
set_option linter.unusedVariables false
set_option linter.unusedSimpArgs false
namespace Go.Proofs.Ytikejalfiaindaa
open Go

set_option maxRecDepth 100000 in
theorem reset1 (b : Nat) (s : S5) (x : List B8) (nx : Nat) (ln : BitVec 64) (hx : x.length = 64) (w : World) (hb : w.heap[b]? = some (.cells ((digC s x nx ln).map SV.val).toArray 73 (0, 0))) :
    Calls Try.prog 45 #[(SV.ptr ⟨b, 0, none⟩).val] w fun e w' => e = .returned (SV.raw (.tuple #[])).val ∧ HL w w' [b] [(b, 73, digC init1 x 0 0)] := by
  refine calls_E [.ptr ⟨b, 0, none⟩] Try.func45 rfl Try.ntmps45 rfl ?_
  have hl := HL.startB hb
  refine EWp.seqR [0] fun K hK => ?_
  simp only [ev, fx, ↓reduceIte, Nat.reduceEqDiff, Nat.reduceLT, Nat.reduceLeDiff, Nat.reduceAdd, Nat.reduceSub, Nat.reduceMul, Int.reduceLT, Int.reduceLE, Int.reduceToNat, BitVec.reduceOfInt, BitVec.reduceToNat, reduceCtorEq, and_self, decide_true, decide_false, Bool.not_true, Bool.not_false, ne_eq, not_true_eq_false, not_false_eq_true, true_and, and_true]
  refine SemE.storeB (v := .u32 0x67452301#32) hl 0 rfl rfl one_50 rfl rfl (by simp [digC, dig5_length]) fun w' hl => ?_
  simp only [List.set_cons_zero, digC, dig5_set0] at hl
  simp only [ev, fx, ↓reduceIte, Nat.reduceEqDiff, Nat.reduceLT, Nat.reduceLeDiff, Nat.reduceAdd, Nat.reduceSub, Nat.reduceMul, Int.reduceLT, Int.reduceLE, Int.reduceToNat, BitVec.reduceOfInt, BitVec.reduceToNat, reduceCtorEq, and_self, decide_true, decide_false, Bool.not_true, Bool.not_false, ne_eq, not_true_eq_false, not_false_eq_true, true_and, and_true]
  repeat (refine And.intro (by omega) ?_)
  refine hK _ _ ?_; clear hK K
  refine EWp.seqR [0] fun K hK => ?_
  simp only [ev, fx, ↓reduceIte, Nat.reduceEqDiff, Nat.reduceLT, Nat.reduceLeDiff, Nat.reduceAdd, Nat.reduceSub, Nat.reduceMul, Int.reduceLT, Int.reduceLE, Int.reduceToNat, BitVec.reduceOfInt, BitVec.reduceToNat, reduceCtorEq, and_self, decide_true, decide_false, Bool.not_true, Bool.not_false, ne_eq, not_true_eq_false, not_false_eq_true, true_and, and_true]
  refine SemE.storeB (v := .u32 0xefcdab89#32) hl 0 rfl rfl one_50 rfl rfl (by simp [digC, dig5_length]) fun w' hl => ?_
  simp only [List.set_cons_zero, digC, dig5_set1] at hl
  simp only [ev, fx, ↓reduceIte, Nat.reduceEqDiff, Nat.reduceLT, Nat.reduceLeDiff, Nat.reduceAdd, Nat.reduceSub, Nat.reduceMul, Int.reduceLT, Int.reduceLE, Int.reduceToNat, BitVec.reduceOfInt, BitVec.reduceToNat, reduceCtorEq, and_self, decide_true, decide_false, Bool.not_true, Bool.not_false, ne_eq, not_true_eq_false, not_false_eq_true, true_and, and_true]
  repeat (refine And.intro (by omega) ?_)
  refine hK _ _ ?_; clear hK K
  refine EWp.seqR [0] fun K hK => ?_
  simp only [ev, fx, ↓reduceIte, Nat.reduceEqDiff, Nat.reduceLT, Nat.reduceLeDiff, Nat.reduceAdd, Nat.reduceSub, Nat.reduceMul, Int.reduceLT, Int.reduceLE, Int.reduceToNat, BitVec.reduceOfInt, BitVec.reduceToNat, reduceCtorEq, and_self, decide_true, decide_false, Bool.not_true, Bool.not_false, ne_eq, not_true_eq_false, not_false_eq_true, true_and, and_true]
  refine SemE.storeB (v := .u32 0x98badcfe#32) hl 0 rfl rfl one_50 rfl rfl (by simp [digC, dig5_length]) fun w' hl => ?_
  simp only [List.set_cons_zero, digC, dig5_set2] at hl
  simp only [ev, fx, ↓reduceIte, Nat.reduceEqDiff, Nat.reduceLT, Nat.reduceLeDiff, Nat.reduceAdd, Nat.reduceSub, Nat.reduceMul, Int.reduceLT, Int.reduceLE, Int.reduceToNat, BitVec.reduceOfInt, BitVec.reduceToNat, reduceCtorEq, and_self, decide_true, decide_false, Bool.not_true, Bool.not_false, ne_eq, not_true_eq_false, not_false_eq_true, true_and, and_true]
  repeat (refine And.intro (by omega) ?_)
  refine hK _ _ ?_; clear hK K
  refine EWp.seqR [0] fun K hK => ?_
  simp only [ev, fx, ↓reduceIte, Nat.reduceEqDiff, Nat.reduceLT, Nat.reduceLeDiff, Nat.reduceAdd, Nat.reduceSub, Nat.reduceMul, Int.reduceLT, Int.reduceLE, Int.reduceToNat, BitVec.reduceOfInt, BitVec.reduceToNat, reduceCtorEq, and_self, decide_true, decide_false, Bool.not_true, Bool.not_false, ne_eq, not_true_eq_false, not_false_eq_true, true_and, and_true]
  refine SemE.storeB (v := .u32 0x10325476#32) hl 0 rfl rfl one_50 rfl rfl (by simp [digC, dig5_length]) fun w' hl => ?_
  simp only [List.set_cons_zero, digC, dig5_set3] at hl
  simp only [ev, fx, ↓reduceIte, Nat.reduceEqDiff, Nat.reduceLT, Nat.reduceLeDiff, Nat.reduceAdd, Nat.reduceSub, Nat.reduceMul, Int.reduceLT, Int.reduceLE, Int.reduceToNat, BitVec.reduceOfInt, BitVec.reduceToNat, reduceCtorEq, and_self, decide_true, decide_false, Bool.not_true, Bool.not_false, ne_eq, not_true_eq_false, not_false_eq_true, true_and, and_true]
  repeat (refine And.intro (by omega) ?_)
  refine hK _ _ ?_; clear hK K
  refine EWp.seqR [0] fun K hK => ?_
  simp only [ev, fx, ↓reduceIte, Nat.reduceEqDiff, Nat.reduceLT, Nat.reduceLeDiff, Nat.reduceAdd, Nat.reduceSub, Nat.reduceMul, Int.reduceLT, Int.reduceLE, Int.reduceToNat, BitVec.reduceOfInt, BitVec.reduceToNat, reduceCtorEq, and_self, decide_true, decide_false, Bool.not_true, Bool.not_false, ne_eq, not_true_eq_false, not_false_eq_true, true_and, and_true]
  refine SemE.storeB (v := .u32 0xc3d2e1f0#32) hl 0 rfl rfl one_50 rfl rfl (by simp [digC, dig5_length]) fun w' hl => ?_
  simp only [List.set_cons_zero, digC, dig5_set4] at hl
  simp only [ev, fx, ↓reduceIte, Nat.reduceEqDiff, Nat.reduceLT, Nat.reduceLeDiff, Nat.reduceAdd, Nat.reduceSub, Nat.reduceMul, Int.reduceLT, Int.reduceLE, Int.reduceToNat, BitVec.reduceOfInt, BitVec.reduceToNat, reduceCtorEq, and_self, decide_true, decide_false, Bool.not_true, Bool.not_false, ne_eq, not_true_eq_false, not_false_eq_true, true_and, and_true]
  repeat (refine And.intro (by omega) ?_)
  refine hK _ _ ?_; clear hK K
  have hl : HL w _ [b] [(b, 73, digC init1 x nx ln)] := hl
  refine EWp.seqR [0] fun K hK => ?_
  simp only [ev, fx, ↓reduceIte, Nat.reduceEqDiff, Nat.reduceLT, Nat.reduceLeDiff, Nat.reduceAdd, Nat.reduceSub, Nat.reduceMul, Int.reduceLT, Int.reduceLE, Int.reduceToNat, BitVec.reduceOfInt, BitVec.reduceToNat, reduceCtorEq, and_self, decide_true, decide_false, Bool.not_true, Bool.not_false, ne_eq, not_true_eq_false, not_false_eq_true, true_and, and_true]
  refine SemE.storeB (v := .nat 0) hl 0 rfl rfl one_3 rfl rfl (by simp [digC_length, hx]) fun w' hl => ?_
  simp only [List.set_cons_zero, digC_nx _ _ _ _ _ hx] at hl
  simp only [ev, fx, ↓reduceIte, Nat.reduceEqDiff, Nat.reduceLT, Nat.reduceLeDiff, Nat.reduceAdd, Nat.reduceSub, Nat.reduceMul, Int.reduceLT, Int.reduceLE, Int.reduceToNat, BitVec.reduceOfInt, BitVec.reduceToNat, reduceCtorEq, and_self, decide_true, decide_false, Bool.not_true, Bool.not_false, ne_eq, not_true_eq_false, not_false_eq_true, true_and, and_true]
  repeat (refine And.intro (by omega) ?_)
  refine hK _ _ ?_; clear hK K
  refine EWp.regR [0] fun K hK => ?_
  simp only [ev, fx, ↓reduceIte, Nat.reduceEqDiff, Nat.reduceLT, Nat.reduceLeDiff, Nat.reduceAdd, Nat.reduceSub, Nat.reduceMul, Int.reduceLT, Int.reduceLE, Int.reduceToNat, BitVec.reduceOfInt, BitVec.reduceToNat, reduceCtorEq, and_self, decide_true, decide_false, Bool.not_true, Bool.not_false, ne_eq, not_true_eq_false, not_false_eq_true, true_and, and_true]
  refine SemE.storeB (v := .u64 0) hl 0 rfl rfl one_64 rfl rfl (by simp [digC_length, hx]) fun w' hl => ?_
  simp only [List.set_cons_zero, digC_len _ _ _ _ _ hx] at hl
  simp only [ev, fx, ↓reduceIte, Nat.reduceEqDiff, Nat.reduceLT, Nat.reduceLeDiff, Nat.reduceAdd, Nat.reduceSub, Nat.reduceMul, Int.reduceLT, Int.reduceLE, Int.reduceToNat, BitVec.reduceOfInt, BitVec.reduceToNat, reduceCtorEq, and_self, decide_true, decide_false, Bool.not_true, Bool.not_false, ne_eq, not_true_eq_false, not_false_eq_true, true_and, and_true]
  refine hK _ _ fun S1 _ => ?_; clear hK K
  exact BodyE.none' rfl ⟨rfl, hl⟩

/-- A new digest. -/
theorem new1 (w : World) : Calls Try.prog 52 #[] w fun e w' => ∃ b, w.heap.size ≤ b ∧ e = .returned (SV.ptr ⟨b, 0, none⟩).val ∧
    HL w w' [] [(b, 73, digC init1 (List.replicate 64 0) 0 0)] := by
  refine calls_E [] Try.func52 rfl Try.ntmps52 rfl ?_
  refine EWp.seqR [0] fun K hK => ?_
  simp only [ev, fx, ↓reduceIte, Nat.reduceEqDiff, Nat.reduceLT, Nat.reduceLeDiff, Nat.reduceAdd, Nat.reduceSub, Nat.reduceMul, Int.reduceLT, Int.reduceLE, Int.reduceToNat, BitVec.reduceOfInt, BitVec.reduceToNat, reduceCtorEq, and_self, decide_true, decide_false, Bool.not_true, Bool.not_false, ne_eq, not_true_eq_false, not_false_eq_true, true_and, and_true]
  repeat (refine And.intro (by omega) ?_)
  refine hK _ _ ?_; clear hK K
  refine EWp.seqR [0, 1] fun K hK => ?_
  simp only [ev, fx, ↓reduceIte, Nat.reduceEqDiff, Nat.reduceLT, Nat.reduceLeDiff, Nat.reduceAdd, Nat.reduceSub, Nat.reduceMul, Int.reduceLT, Int.reduceLE, Int.reduceToNat, BitVec.reduceOfInt, BitVec.reduceToNat, reduceCtorEq, and_self, decide_true, decide_false, Bool.not_true, Bool.not_false, ne_eq, not_true_eq_false, not_false_eq_true, true_and, and_true]
  refine SemE.alloc (HL.start w) zero_73 rfl fun b w1 hb hl => ?_
  rw [digC_zero, List.nil_append] at hl
  simp only [ev, fx, ↓reduceIte, Nat.reduceEqDiff, Nat.reduceLT, Nat.reduceLeDiff, Nat.reduceAdd, Nat.reduceSub, Nat.reduceMul, Int.reduceLT, Int.reduceLE, Int.reduceToNat, BitVec.reduceOfInt, BitVec.reduceToNat, reduceCtorEq, and_self, decide_true, decide_false, Bool.not_true, Bool.not_false, ne_eq, not_true_eq_false, not_false_eq_true, true_and, and_true]
  repeat (refine And.intro (by omega) ?_)
  refine hK _ _ ?_; clear hK K
  refine EWp.seqR [0, 1] fun K hK => ?_
  simp only [ev, fx, ↓reduceIte, Nat.reduceEqDiff, Nat.reduceLT, Nat.reduceLeDiff, Nat.reduceAdd, Nat.reduceSub, Nat.reduceMul, Int.reduceLT, Int.reduceLE, Int.reduceToNat, BitVec.reduceOfInt, BitVec.reduceToNat, reduceCtorEq, and_self, decide_true, decide_false, Bool.not_true, Bool.not_false, ne_eq, not_true_eq_false, not_false_eq_true, true_and, and_true]
  refine SemE.call fn_45 rfl rfl (reset1 b _ _ _ _ (by simp) _ (hl.at (k := 0) rfl)) ?_
  rintro _ w2 ⟨rfl, hl2⟩
  have hl := hl.call (k := 0) rfl hl2
  simp only [List.set_cons_zero, List.append_nil] at hl
  refine ⟨_, rfl, ?_⟩
  simp only [ev, fx, ↓reduceIte, Nat.reduceEqDiff, Nat.reduceLT, Nat.reduceLeDiff, Nat.reduceAdd, Nat.reduceSub, Nat.reduceMul, Int.reduceLT, Int.reduceLE, Int.reduceToNat, BitVec.reduceOfInt, BitVec.reduceToNat, reduceCtorEq, and_self, decide_true, decide_false, Bool.not_true, Bool.not_false, ne_eq, not_true_eq_false, not_false_eq_true, true_and, and_true]
  repeat (refine And.intro (by omega) ?_)
  refine hK _ _ ?_; clear hK K
  refine EWp.seqR [0] fun K hK => ?_
  simp only [ev, fx, ↓reduceIte, Nat.reduceEqDiff, Nat.reduceLT, Nat.reduceLeDiff, Nat.reduceAdd, Nat.reduceSub, Nat.reduceMul, Int.reduceLT, Int.reduceLE, Int.reduceToNat, BitVec.reduceOfInt, BitVec.reduceToNat, reduceCtorEq, and_self, decide_true, decide_false, Bool.not_true, Bool.not_false, ne_eq, not_true_eq_false, not_false_eq_true, true_and, and_true]
  repeat (refine And.intro (by omega) ?_)
  refine hK _ _ ?_; clear hK K
  exact EWp.ret (BodyE.tmp1 rfl rfl ⟨b, hb, rfl, hl⟩)

/-- A new digest of kind 6; of another one, nil. -/
theorem newSha1_6 (w : World) : Calls Try.prog 43 #[(SV.nat 6).val] w fun e w' => ∃ b, w.heap.size ≤ b ∧ e = .returned (SV.ptr ⟨b, 0, none⟩).val ∧
    HL w w' [] [(b, 73, digC init1 (List.replicate 64 0) 0 0)] := by
  refine calls_E [.nat 6] Try.func43 rfl Try.ntmps43 rfl ?_
  refine EWp.seqR [0] fun K hK => ?_
  simp only [ev, fx, ↓reduceIte, Nat.reduceEqDiff, Nat.reduceLT, Nat.reduceLeDiff, Nat.reduceAdd, Nat.reduceSub, Nat.reduceMul, Int.reduceLT, Int.reduceLE, Int.reduceToNat, BitVec.reduceOfInt, BitVec.reduceToNat, reduceCtorEq, and_self, decide_true, decide_false, Bool.not_true, Bool.not_false, ne_eq, not_true_eq_false, not_false_eq_true, true_and, and_true]
  repeat (refine And.intro (by omega) ?_)
  refine hK _ _ ?_; clear hK K
  refine EWp.ifR [0, 4] fun K hK => ?_
  simp only [ev, fx, ↓reduceIte, Nat.reduceEqDiff, Nat.reduceLT, Nat.reduceLeDiff, Nat.reduceAdd, Nat.reduceSub, Nat.reduceMul, Int.reduceLT, Int.reduceLE, Int.reduceToNat, BitVec.reduceOfInt, BitVec.reduceToNat, reduceCtorEq, and_self, decide_true, decide_false, Bool.not_true, Bool.not_false, ne_eq, not_true_eq_false, not_false_eq_true, true_and, and_true]
  refine hK _ _ true rfl (fun _ => ?_) (fun h => by cases h); clear hK K
  refine EWp.seqR [2] fun K hK => ?_
  simp only [ev, fx, ↓reduceIte, Nat.reduceEqDiff, Nat.reduceLT, Nat.reduceLeDiff, Nat.reduceAdd, Nat.reduceSub, Nat.reduceMul, Int.reduceLT, Int.reduceLE, Int.reduceToNat, BitVec.reduceOfInt, BitVec.reduceToNat, reduceCtorEq, and_self, decide_true, decide_false, Bool.not_true, Bool.not_false, ne_eq, not_true_eq_false, not_false_eq_true, true_and, and_true]
  refine SemE.call fn_52 rfl rfl (new1 _) ?_
  rintro _ w2 ⟨b, hb, rfl, hl⟩
  refine ⟨_, rfl, ?_⟩
  simp only [ev, fx, ↓reduceIte, Nat.reduceEqDiff, Nat.reduceLT, Nat.reduceLeDiff, Nat.reduceAdd, Nat.reduceSub, Nat.reduceMul, Int.reduceLT, Int.reduceLE, Int.reduceToNat, BitVec.reduceOfInt, BitVec.reduceToNat, reduceCtorEq, and_self, decide_true, decide_false, Bool.not_true, Bool.not_false, ne_eq, not_true_eq_false, not_false_eq_true, true_and, and_true]
  repeat (refine And.intro (by omega) ?_)
  refine hK _ _ ?_; clear hK K
  exact EWp.retT (BodyE.tmp1 rfl rfl ⟨b, hb, rfl, hl⟩)

theorem newSha1_no (k : Nat) (hk : k ≠ 6) (w : World) : Calls Try.prog 43 #[(SV.nat k).val] w fun e w' => e = .returned (SV.raw (.pointer none)).val ∧ w' = w := by
  refine calls_E [.nat k] Try.func43 rfl Try.ntmps43 rfl ?_
  refine EWp.seqR [0] fun K hK => ?_
  simp only [ev, fx, ↓reduceIte, Nat.reduceEqDiff, Nat.reduceLT, Nat.reduceLeDiff, Nat.reduceAdd, Nat.reduceSub, Nat.reduceMul, Int.reduceLT, Int.reduceLE, Int.reduceToNat, BitVec.reduceOfInt, BitVec.reduceToNat, reduceCtorEq, and_self, decide_true, decide_false, Bool.not_true, Bool.not_false, ne_eq, not_true_eq_false, not_false_eq_true, true_and, and_true]
  repeat (refine And.intro (by omega) ?_)
  refine hK _ _ ?_; clear hK K
  refine EWp.ifR [0, 4] fun K hK => ?_
  simp only [ev, fx, ↓reduceIte, Nat.reduceEqDiff, Nat.reduceLT, Nat.reduceLeDiff, Nat.reduceAdd, Nat.reduceSub, Nat.reduceMul, Int.reduceLT, Int.reduceLE, Int.reduceToNat, BitVec.reduceOfInt, BitVec.reduceToNat, reduceCtorEq, and_self, decide_true, decide_false, Bool.not_true, Bool.not_false, ne_eq, not_true_eq_false, not_false_eq_true, true_and, and_true]
  refine hK _ _ (decide (k = 6)) rfl (fun h => absurd (of_decide_eq_true h) hk) (fun _ => ?_); clear hK K
  refine EWp.skipThen ?_
  refine EWp.seqR [2] fun K hK => ?_
  simp only [ev, fx, ↓reduceIte, Nat.reduceEqDiff, Nat.reduceLT, Nat.reduceLeDiff, Nat.reduceAdd, Nat.reduceSub, Nat.reduceMul, Int.reduceLT, Int.reduceLE, Int.reduceToNat, BitVec.reduceOfInt, BitVec.reduceToNat, reduceCtorEq, and_self, decide_true, decide_false, Bool.not_true, Bool.not_false, ne_eq, not_true_eq_false, not_false_eq_true, true_and, and_true]
  repeat (refine And.intro (by omega) ?_)
  refine hK _ _ ?_; clear hK K
  exact EWp.ret (BodyE.tmp1 rfl rfl ⟨rfl, rfl⟩)
end Go.Proofs.Ytikejalfiaindaa
