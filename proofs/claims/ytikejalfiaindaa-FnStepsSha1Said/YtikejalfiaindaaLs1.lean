/- The laws on hashes of SHA-1. -/
import Derived.Test.YtikejalfiaindaaSp1
set_option linter.unusedVariables false
set_option linter.unusedSimpArgs false
namespace Go.Proofs.Ytikejalfiaindaa
open Go

theorem fitsT (v : SV) (tt : List (List B8)) (w : World) (h : Txs w v tt) : Calls Try.prog 21 #[v.val] w fun e w' => ∃ b : Bool, e = .returned (SV.bool b).val ∧ w' = w := by
  obtain ⟨a, c, rfl, hc, ha, hr⟩ := h
  exact fitsC a _ c tt w hr rfl
theorem fewT (v : SV) (tt : List (List B8)) (w : World) (h : Txs w v tt) : Calls Try.prog 22 #[v.val] w fun e w' => e = .returned (SV.bool (fewB tt)).val ∧ w' = w := by
  obtain ⟨a, c, rfl, hc, ha, hr⟩ := h
  exact fewC a _ c tt w hr rfl
theorem joinedT (v : SV) (tt : List (List B8)) (w : World) (h : Txs w v tt) (hf : tt.length ≤ 100 ∧ (cat tt).length ≤ 5000) : Calls Try.prog 26 #[v.val] w fun e w' => ∃ v', e = .returned v'.val ∧ Txt w' v' (cat tt) ∧ Grow w w' := by
  obtain ⟨a, c, rfl, hc, ha, hr⟩ := h
  refine (joinedC a _ c tt w hr rfl hf.1 hf.2).mono ?_
  rintro e w' ⟨v, B, rfl, ho, hl⟩
  exact ⟨v, rfl, ho.txt (H := []) (by rw [List.append_nil]; exact hl), hl.toGrow⟩
theorem hash1T (v : SV) (tt : List (List B8)) (w : World) (h : Txs w v tt) (hf : tt.length ≤ 100 ∧ (cat tt).length ≤ 5000) : Calls Try.prog 25 #[(SV.nat 6).val, v.val] w fun e w' => ∃ v', e = .returned v'.val ∧ Txt w' v' (sha1B (cat tt)) ∧ Grow w w' := by
  obtain ⟨a, c, rfl, hc, ha, hr⟩ := h
  refine (hash1 a _ c tt w hr rfl hf.1 hf.2).mono ?_
  rintro e w' ⟨v, B, rfl, ho, hl⟩
  exact ⟨v, rfl, ho.txt (H := []) (by rw [List.append_nil]; exact hl), hl.toGrow⟩
theorem specSha1T (v : SV) (T : List B8) (w : World) (h : Txt w v T) (hbig : T.length ≤ 100000) : Calls Try.prog 20 #[v.val] w fun e w' => ∃ v', e = .returned v'.val ∧ Txt w' v' (sha1B T) ∧ Grow w w' := by
  obtain ⟨a, c, rfl, hc, ha, hr⟩ := h
  refine (specSha1 a _ c T w hr rfl ha hbig).mono ?_
  rintro e w' ⟨v, B, rfl, ho, hl⟩
  exact ⟨v, rfl, ho.txt (H := []) (by rw [List.append_nil]; exact hl), hl.toGrow⟩
theorem sha1B_len (T : List B8) : (sha1B T).length = 20 := sumB_len _
theorem drewG (w : World) : Grow w w.drew := ⟨rfl, rfl, rfl, Nat.le_refl _, fun _ _ => rfl⟩

set_option maxRecDepth 100000 in
theorem lawSha1 (v : SV) (tt : List (List B8)) (w : World) (ht : Txs w v tt) :
    Calls Try.prog 8 #[v.val] w fun e w' => e = .returned (SV.bool true).val ∧ Grow w w' := by
  refine calls_E [v] Try.func8 rfl Try.ntmps8 rfl ?_
  refine EWp.seqR [0] fun K hK => ?_
  simp only [ev, fx, ↓reduceIte, Nat.reduceEqDiff, Nat.reduceLT, Nat.reduceLeDiff, Nat.reduceAdd, Nat.reduceSub, Nat.reduceMul, Int.reduceLT, Int.reduceLE, Int.reduceToNat, BitVec.reduceOfInt, BitVec.reduceToNat, reduceCtorEq, and_self, decide_true, decide_false, Bool.not_true, Bool.not_false, ne_eq, not_true_eq_false, not_false_eq_true, true_and, and_true]
  repeat (refine And.intro (by omega) ?_)
  refine hK _ _ ?_; clear hK K
  refine EWp.ifR [0, 6] fun K hK => ?_
  simp only [ev, fx, ↓reduceIte, Nat.reduceEqDiff, Nat.reduceLT, Nat.reduceLeDiff, Nat.reduceAdd, Nat.reduceSub, Nat.reduceMul, Int.reduceLT, Int.reduceLE, Int.reduceToNat, BitVec.reduceOfInt, BitVec.reduceToNat, reduceCtorEq, and_self, decide_true, decide_false, Bool.not_true, Bool.not_false, ne_eq, not_true_eq_false, not_false_eq_true, true_and, and_true]
  refine SemE.call fn_21 rfl rfl (fitsT _ tt _ ht) ?_
  rintro _ _ ⟨bf, rfl, hw⟩
  rw [hw]; clear hw
  refine ⟨_, rfl, ?_⟩
  simp only [ev, fx, ↓reduceIte, Nat.reduceEqDiff, Nat.reduceLT, Nat.reduceLeDiff, Nat.reduceAdd, Nat.reduceSub, Nat.reduceMul, Int.reduceLT, Int.reduceLE, Int.reduceToNat, BitVec.reduceOfInt, BitVec.reduceToNat, reduceCtorEq, and_self, decide_true, decide_false, Bool.not_true, Bool.not_false, ne_eq, not_true_eq_false, not_false_eq_true, true_and, and_true]
  refine hK _ _ (!bf) rfl (fun _ => ?_) (fun _ => ?_) <;> clear hK K
  · refine EWp.seqR [2] fun K hK => ?_
    simp only [ev, fx, ↓reduceIte, Nat.reduceEqDiff, Nat.reduceLT, Nat.reduceLeDiff, Nat.reduceAdd, Nat.reduceSub, Nat.reduceMul, Int.reduceLT, Int.reduceLE, Int.reduceToNat, BitVec.reduceOfInt, BitVec.reduceToNat, reduceCtorEq, and_self, decide_true, decide_false, Bool.not_true, Bool.not_false, ne_eq, not_true_eq_false, not_false_eq_true, true_and, and_true]
    repeat (refine And.intro (by omega) ?_)
    refine hK _ _ ?_; clear hK K
    exact EWp.retT (BodyE.tmp1 rfl rfl ⟨rfl, Grow.refl _⟩)
  refine EWp.skipThen ?_
  refine EWp.seqR [0, 3] fun K hK => ?_
  simp only [ev, fx, ↓reduceIte, Nat.reduceEqDiff, Nat.reduceLT, Nat.reduceLeDiff, Nat.reduceAdd, Nat.reduceSub, Nat.reduceMul, Int.reduceLT, Int.reduceLE, Int.reduceToNat, BitVec.reduceOfInt, BitVec.reduceToNat, reduceCtorEq, and_self, decide_true, decide_false, Bool.not_true, Bool.not_false, ne_eq, not_true_eq_false, not_false_eq_true, true_and, and_true]
  repeat (refine And.intro (by omega) ?_)
  refine hK _ _ ?_; clear hK K
  refine EWp.seqO (fun _ => false) [(0, 0), (1, 2), (2, 0), (3, 0), (4, 0), (5, 0), (8, 0), (6, 2), (7, 1), (9, 2), (10, 2), (11, 1), (12, 1), (13, 0), (14, 0)] [2] mixed (by kernel_rfl) fun K hK => ?_
  have hg := drewG w
  simp only [ev, fx, ↓reduceIte, Nat.reduceEqDiff, Nat.reduceLT, Nat.reduceLeDiff, Nat.reduceAdd, Nat.reduceSub, Nat.reduceMul, Int.reduceLT, Int.reduceLE, Int.reduceToNat, BitVec.reduceOfInt, BitVec.reduceToNat, reduceCtorEq, and_self, decide_true, decide_false, Bool.not_true, Bool.not_false, ne_eq, not_true_eq_false, not_false_eq_true, true_and, and_true]
  refine SemE.call fn_22 rfl rfl (fewT _ tt _ (ht.grow hg)) ?_
  rintro _ _ ⟨rfl, rfl⟩
  refine ⟨_, rfl, fun _ => Grow.refl _, ?_⟩
  cases hf : fewB tt
  case false =>
    simp only [ev, fx, ↓reduceIte, Nat.reduceEqDiff, Nat.reduceLT, Nat.reduceLeDiff, Nat.reduceAdd, Nat.reduceSub, Nat.reduceMul, Int.reduceLT, Int.reduceLE, Int.reduceToNat, BitVec.reduceOfInt, BitVec.reduceToNat, reduceCtorEq, and_self, decide_true, decide_false, Bool.not_true, Bool.not_false, ne_eq, not_true_eq_false, not_false_eq_true, true_and, and_true]
    repeat (refine And.intro (by omega) ?_)
    refine hK _ _ ?_; clear hK K
    exact EWp.ret (BodyE.tmp1 rfl rfl ⟨rfl, hg⟩)
  have hf2 := of_decide_eq_true hf
  simp only [ev, fx, ↓reduceIte, Nat.reduceEqDiff, Nat.reduceLT, Nat.reduceLeDiff, Nat.reduceAdd, Nat.reduceSub, Nat.reduceMul, Int.reduceLT, Int.reduceLE, Int.reduceToNat, BitVec.reduceOfInt, BitVec.reduceToNat, reduceCtorEq, and_self, decide_true, decide_false, Bool.not_true, Bool.not_false, ne_eq, not_true_eq_false, not_false_eq_true, true_and, and_true]
  refine SemE.call fn_25 rfl rfl (hash1T _ _ _ (ht.grow hg) hf2) ?_
  rintro _ w2 ⟨v2, rfl, hh2, hg2⟩
  refine ⟨_, rfl, fun _ => hg2, ?_⟩
  have hg := hg.trans hg2
  simp only [ev, fx, ↓reduceIte, Nat.reduceEqDiff, Nat.reduceLT, Nat.reduceLeDiff, Nat.reduceAdd, Nat.reduceSub, Nat.reduceMul, Int.reduceLT, Int.reduceLE, Int.reduceToNat, BitVec.reduceOfInt, BitVec.reduceToNat, reduceCtorEq, and_self, decide_true, decide_false, Bool.not_true, Bool.not_false, ne_eq, not_true_eq_false, not_false_eq_true, true_and, and_true]
  refine StopR.mk (SV.str (sha1B (cat tt))) (Quiet.toStrT tostr_23_9 rfl (hh2)) rfl ?_
  simp only [ev, fx, ↓reduceIte, Nat.reduceEqDiff, Nat.reduceLT, Nat.reduceLeDiff, Nat.reduceAdd, Nat.reduceSub, Nat.reduceMul, Int.reduceLT, Int.reduceLE, Int.reduceToNat, BitVec.reduceOfInt, BitVec.reduceToNat, reduceCtorEq, and_self, decide_true, decide_false, Bool.not_true, Bool.not_false, ne_eq, not_true_eq_false, not_false_eq_true, true_and, and_true]
  refine SemE.call fn_26 rfl rfl (joinedT _ tt _ (ht.grow hg) hf2) ?_
  rintro _ w3 ⟨v3, rfl, hh3, hg3⟩
  refine ⟨_, rfl, fun _ => hg3, ?_⟩
  have hg := hg.trans hg3
  simp only [ev, fx, ↓reduceIte, Nat.reduceEqDiff, Nat.reduceLT, Nat.reduceLeDiff, Nat.reduceAdd, Nat.reduceSub, Nat.reduceMul, Int.reduceLT, Int.reduceLE, Int.reduceToNat, BitVec.reduceOfInt, BitVec.reduceToNat, reduceCtorEq, and_self, decide_true, decide_false, Bool.not_true, Bool.not_false, ne_eq, not_true_eq_false, not_false_eq_true, true_and, and_true]
  refine SemE.call fn_20 rfl rfl (specSha1T _ _ _ (hh3) (by omega)) ?_
  rintro _ w4 ⟨v4, rfl, hh4, hg4⟩
  refine ⟨_, rfl, fun _ => hg4, ?_⟩
  have hg := hg.trans hg4
  simp only [ev, fx, ↓reduceIte, Nat.reduceEqDiff, Nat.reduceLT, Nat.reduceLeDiff, Nat.reduceAdd, Nat.reduceSub, Nat.reduceMul, Int.reduceLT, Int.reduceLE, Int.reduceToNat, BitVec.reduceOfInt, BitVec.reduceToNat, reduceCtorEq, and_self, decide_true, decide_false, Bool.not_true, Bool.not_false, ne_eq, not_true_eq_false, not_false_eq_true, true_and, and_true]
  refine StopR.mk (SV.str (sha1B (cat tt))) (Quiet.toStrT tostr_23_9 rfl (hh4)) rfl ?_
  simp only [ev, fx, ↓reduceIte, Nat.reduceEqDiff, Nat.reduceLT, Nat.reduceLeDiff, Nat.reduceAdd, Nat.reduceSub, Nat.reduceMul, Int.reduceLT, Int.reduceLE, Int.reduceToNat, BitVec.reduceOfInt, BitVec.reduceToNat, reduceCtorEq, and_self, decide_true, decide_false, Bool.not_true, Bool.not_false, ne_eq, not_true_eq_false, not_false_eq_true, true_and, and_true]
  refine StopR.mk _ (Quiet.plain (Plain.eqlStr rfl rfl)) rfl ?_
  simp only [ev, fx, ↓reduceIte, Nat.reduceEqDiff, Nat.reduceLT, Nat.reduceLeDiff, Nat.reduceAdd, Nat.reduceSub, Nat.reduceMul, Int.reduceLT, Int.reduceLE, Int.reduceToNat, BitVec.reduceOfInt, BitVec.reduceToNat, reduceCtorEq, and_self, decide_true, decide_false, Bool.not_true, Bool.not_false, ne_eq, not_true_eq_false, not_false_eq_true, true_and, and_true]
  repeat (refine And.intro (by omega) ?_)
  refine hK _ _ ?_; clear hK K
  exact EWp.ret (BodyE.tmp1 rfl rfl ⟨rfl, hg⟩)

set_option maxRecDepth 100000 in
theorem lawPieces1 (v : SV) (tt : List (List B8)) (w : World) (ht : Txs w v tt) :
    Calls Try.prog 7 #[v.val] w fun e w' => e = .returned (SV.bool true).val ∧ Grow w w' := by
  refine calls_E [v] Try.func7 rfl Try.ntmps7 rfl ?_
  refine EWp.seqR [0] fun K hK => ?_
  simp only [ev, fx, ↓reduceIte, Nat.reduceEqDiff, Nat.reduceLT, Nat.reduceLeDiff, Nat.reduceAdd, Nat.reduceSub, Nat.reduceMul, Int.reduceLT, Int.reduceLE, Int.reduceToNat, BitVec.reduceOfInt, BitVec.reduceToNat, reduceCtorEq, and_self, decide_true, decide_false, Bool.not_true, Bool.not_false, ne_eq, not_true_eq_false, not_false_eq_true, true_and, and_true]
  repeat (refine And.intro (by omega) ?_)
  refine hK _ _ ?_; clear hK K
  refine EWp.ifR [0, 7] fun K hK => ?_
  simp only [ev, fx, ↓reduceIte, Nat.reduceEqDiff, Nat.reduceLT, Nat.reduceLeDiff, Nat.reduceAdd, Nat.reduceSub, Nat.reduceMul, Int.reduceLT, Int.reduceLE, Int.reduceToNat, BitVec.reduceOfInt, BitVec.reduceToNat, reduceCtorEq, and_self, decide_true, decide_false, Bool.not_true, Bool.not_false, ne_eq, not_true_eq_false, not_false_eq_true, true_and, and_true]
  refine SemE.call fn_21 rfl rfl (fitsT _ tt _ ht) ?_
  rintro _ _ ⟨bf, rfl, hw⟩
  rw [hw]; clear hw
  refine ⟨_, rfl, ?_⟩
  simp only [ev, fx, ↓reduceIte, Nat.reduceEqDiff, Nat.reduceLT, Nat.reduceLeDiff, Nat.reduceAdd, Nat.reduceSub, Nat.reduceMul, Int.reduceLT, Int.reduceLE, Int.reduceToNat, BitVec.reduceOfInt, BitVec.reduceToNat, reduceCtorEq, and_self, decide_true, decide_false, Bool.not_true, Bool.not_false, ne_eq, not_true_eq_false, not_false_eq_true, true_and, and_true]
  refine hK _ _ (!bf) rfl (fun _ => ?_) (fun _ => ?_) <;> clear hK K
  · refine EWp.seqR [2] fun K hK => ?_
    simp only [ev, fx, ↓reduceIte, Nat.reduceEqDiff, Nat.reduceLT, Nat.reduceLeDiff, Nat.reduceAdd, Nat.reduceSub, Nat.reduceMul, Int.reduceLT, Int.reduceLE, Int.reduceToNat, BitVec.reduceOfInt, BitVec.reduceToNat, reduceCtorEq, and_self, decide_true, decide_false, Bool.not_true, Bool.not_false, ne_eq, not_true_eq_false, not_false_eq_true, true_and, and_true]
    repeat (refine And.intro (by omega) ?_)
    refine hK _ _ ?_; clear hK K
    exact EWp.retT (BodyE.tmp1 rfl rfl ⟨rfl, Grow.refl _⟩)
  refine EWp.skipThen ?_
  refine EWp.ifR [0, 10] fun K hK => ?_
  simp only [ev, fx, ↓reduceIte, Nat.reduceEqDiff, Nat.reduceLT, Nat.reduceLeDiff, Nat.reduceAdd, Nat.reduceSub, Nat.reduceMul, Int.reduceLT, Int.reduceLE, Int.reduceToNat, BitVec.reduceOfInt, BitVec.reduceToNat, reduceCtorEq, and_self, decide_true, decide_false, Bool.not_true, Bool.not_false, ne_eq, not_true_eq_false, not_false_eq_true, true_and, and_true]
  refine SemE.call fn_22 rfl rfl (fewT _ tt _ ht) ?_
  rintro _ _ ⟨rfl, hw⟩
  rw [hw]; clear hw
  refine ⟨_, rfl, ?_⟩
  simp only [ev, fx, ↓reduceIte, Nat.reduceEqDiff, Nat.reduceLT, Nat.reduceLeDiff, Nat.reduceAdd, Nat.reduceSub, Nat.reduceMul, Int.reduceLT, Int.reduceLE, Int.reduceToNat, BitVec.reduceOfInt, BitVec.reduceToNat, reduceCtorEq, and_self, decide_true, decide_false, Bool.not_true, Bool.not_false, ne_eq, not_true_eq_false, not_false_eq_true, true_and, and_true]
  refine hK _ _ (!fewB tt) rfl (fun hf => ?_) (fun hf => ?_) <;> clear hK K
  · refine EWp.seqR [2] fun K hK => ?_
    simp only [ev, fx, ↓reduceIte, Nat.reduceEqDiff, Nat.reduceLT, Nat.reduceLeDiff, Nat.reduceAdd, Nat.reduceSub, Nat.reduceMul, Int.reduceLT, Int.reduceLE, Int.reduceToNat, BitVec.reduceOfInt, BitVec.reduceToNat, reduceCtorEq, and_self, decide_true, decide_false, Bool.not_true, Bool.not_false, ne_eq, not_true_eq_false, not_false_eq_true, true_and, and_true]
    repeat (refine And.intro (by omega) ?_)
    refine hK _ _ ?_; clear hK K
    exact EWp.retT (BodyE.tmp1 rfl rfl ⟨rfl, Grow.refl _⟩)
  refine EWp.skipThen ?_
  have hf2 : tt.length ≤ 100 ∧ (cat tt).length ≤ 5000 := of_decide_eq_true (show fewB tt = true by simpa using hf)
  refine EWp.seqR [0, 3] fun K hK => ?_
  simp only [ev, fx, ↓reduceIte, Nat.reduceEqDiff, Nat.reduceLT, Nat.reduceLeDiff, Nat.reduceAdd, Nat.reduceSub, Nat.reduceMul, Int.reduceLT, Int.reduceLE, Int.reduceToNat, BitVec.reduceOfInt, BitVec.reduceToNat, reduceCtorEq, and_self, decide_true, decide_false, Bool.not_true, Bool.not_false, ne_eq, not_true_eq_false, not_false_eq_true, true_and, and_true]
  repeat (refine And.intro (by omega) ?_)
  refine hK _ _ ?_; clear hK K
  refine EWp.seqR [0, 3, 4] fun K hK => ?_
  simp only [ev, fx, ↓reduceIte, Nat.reduceEqDiff, Nat.reduceLT, Nat.reduceLeDiff, Nat.reduceAdd, Nat.reduceSub, Nat.reduceMul, Int.reduceLT, Int.reduceLE, Int.reduceToNat, BitVec.reduceOfInt, BitVec.reduceToNat, reduceCtorEq, and_self, decide_true, decide_false, Bool.not_true, Bool.not_false, ne_eq, not_true_eq_false, not_false_eq_true, true_and, and_true]
  refine SemE.call fn_25 rfl rfl (hash1T _ _ _ ht hf2) ?_
  rintro _ w2 ⟨v2, rfl, hh2, hg⟩
  refine ⟨_, rfl, ?_⟩
  simp only [ev, fx, ↓reduceIte, Nat.reduceEqDiff, Nat.reduceLT, Nat.reduceLeDiff, Nat.reduceAdd, Nat.reduceSub, Nat.reduceMul, Int.reduceLT, Int.reduceLE, Int.reduceToNat, BitVec.reduceOfInt, BitVec.reduceToNat, reduceCtorEq, and_self, decide_true, decide_false, Bool.not_true, Bool.not_false, ne_eq, not_true_eq_false, not_false_eq_true, true_and, and_true]
  repeat (refine And.intro (by omega) ?_)
  refine hK _ _ ?_; clear hK K
  refine EWp.seqO (fun _ => false) [(0, 0), (1, 0), (2, 0), (3, 0), (4, 0), (5, 1), (6, 0), (7, 0), (8, 2), (9, 2), (10, 2), (11, 1), (12, 1), (13, 0), (14, 0)] [2] mixed (by kernel_rfl) fun K hK => ?_
  have hgd := drewG w2
  have hg := hg.trans hgd
  have hh2 := hh2.grow hgd
  have h20 := hh2
  obtain ⟨a2, c2, rfl, _⟩ := h20
  rw [sha1B_len] at hh2 ⊢
  simp only [ev, fx, ↓reduceIte, Nat.reduceEqDiff, Nat.reduceLT, Nat.reduceLeDiff, Nat.reduceAdd, Nat.reduceSub, Nat.reduceMul, Int.reduceLT, Int.reduceLE, Int.reduceToNat, BitVec.reduceOfInt, BitVec.reduceToNat, reduceCtorEq, and_self, decide_true, decide_false, Bool.not_true, Bool.not_false, ne_eq, not_true_eq_false, not_false_eq_true, true_and, and_true]
  refine StopR.mk (SV.str (sha1B (cat tt))) (Quiet.toStrT tostr_23_9 rfl (hh2)) rfl ?_
  simp only [ev, fx, ↓reduceIte, Nat.reduceEqDiff, Nat.reduceLT, Nat.reduceLeDiff, Nat.reduceAdd, Nat.reduceSub, Nat.reduceMul, Int.reduceLT, Int.reduceLE, Int.reduceToNat, BitVec.reduceOfInt, BitVec.reduceToNat, reduceCtorEq, and_self, decide_true, decide_false, Bool.not_true, Bool.not_false, ne_eq, not_true_eq_false, not_false_eq_true, true_and, and_true]
  refine SemE.call fn_26 rfl rfl (joinedT _ tt _ (ht.grow hg) hf2) ?_
  rintro _ w3 ⟨v3, rfl, hh3, hg3⟩
  refine ⟨_, rfl, fun _ => hg3, ?_⟩
  have hg := hg.trans hg3
  simp only [ev, fx, ↓reduceIte, Nat.reduceEqDiff, Nat.reduceLT, Nat.reduceLeDiff, Nat.reduceAdd, Nat.reduceSub, Nat.reduceMul, Int.reduceLT, Int.reduceLE, Int.reduceToNat, BitVec.reduceOfInt, BitVec.reduceToNat, reduceCtorEq, and_self, decide_true, decide_false, Bool.not_true, Bool.not_false, ne_eq, not_true_eq_false, not_false_eq_true, true_and, and_true]
  refine SemE.buildSlice (vs := [v3]) (HL.start _) 23 slof_30 (by obtain ⟨_, _, rfl, _⟩ := hh3; rfl) rfl (by omega) rfl fun b w4 hb hl => ⟨fun _ => hl.toGrow, ?_⟩
  have hg := hg.trans hl.toGrow
  have hx : Txs w4 (.sl (some ⟨b, 0, none⟩) 1 1) [cat tt] := Txs.mk (RdD.one (Rd.blk hl (k := 0) rfl 0 1) (hh3.grow hl.toGrow)) rfl (Nat.le_refl _) (fun h => by cases h)
  have hc1 : cat [cat tt] = cat tt := by simp [cat]
  have hh2 := (hh2.grow hg3).grow hl.toGrow
  clear hh3
  simp only [ev, fx, ↓reduceIte, Nat.reduceEqDiff, Nat.reduceLT, Nat.reduceLeDiff, Nat.reduceAdd, Nat.reduceSub, Nat.reduceMul, Int.reduceLT, Int.reduceLE, Int.reduceToNat, BitVec.reduceOfInt, BitVec.reduceToNat, reduceCtorEq, and_self, decide_true, decide_false, Bool.not_true, Bool.not_false, ne_eq, not_true_eq_false, not_false_eq_true, true_and, and_true]
  refine SemE.call fn_25 rfl rfl (hash1T _ _ _ (hx) ⟨by simp, by rw [hc1]; exact hf2.2⟩) ?_
  rintro _ w2 ⟨v2, rfl, hh2, hg2⟩
  refine ⟨_, rfl, fun _ => hg2, ?_⟩
  have hg := hg.trans hg2
  rw [hc1] at hh2
  rename_i hh1
  simp only [ev, fx, ↓reduceIte, Nat.reduceEqDiff, Nat.reduceLT, Nat.reduceLeDiff, Nat.reduceAdd, Nat.reduceSub, Nat.reduceMul, Int.reduceLT, Int.reduceLE, Int.reduceToNat, BitVec.reduceOfInt, BitVec.reduceToNat, reduceCtorEq, and_self, decide_true, decide_false, Bool.not_true, Bool.not_false, ne_eq, not_true_eq_false, not_false_eq_true, true_and, and_true]
  refine StopR.mk (SV.str (sha1B (cat tt))) (Quiet.toStrT tostr_23_9 rfl (hh2)) rfl ?_
  simp only [ev, fx, ↓reduceIte, Nat.reduceEqDiff, Nat.reduceLT, Nat.reduceLeDiff, Nat.reduceAdd, Nat.reduceSub, Nat.reduceMul, Int.reduceLT, Int.reduceLE, Int.reduceToNat, BitVec.reduceOfInt, BitVec.reduceToNat, reduceCtorEq, and_self, decide_true, decide_false, Bool.not_true, Bool.not_false, ne_eq, not_true_eq_false, not_false_eq_true, true_and, and_true]
  refine StopR.mk _ (Quiet.plain (Plain.eqlStr rfl rfl)) rfl ?_
  simp only [ev, fx, ↓reduceIte, Nat.reduceEqDiff, Nat.reduceLT, Nat.reduceLeDiff, Nat.reduceAdd, Nat.reduceSub, Nat.reduceMul, Int.reduceLT, Int.reduceLE, Int.reduceToNat, BitVec.reduceOfInt, BitVec.reduceToNat, reduceCtorEq, and_self, decide_true, decide_false, Bool.not_true, Bool.not_false, ne_eq, not_true_eq_false, not_false_eq_true, true_and, and_true]
  repeat (refine And.intro (by omega) ?_)
  refine hK _ _ ?_; clear hK K
  exact EWp.ret (BodyE.tmp1 rfl rfl ⟨rfl, hg⟩)

theorem bool_true {x : Bool} (h : x = true) : some (SV.bool x) = some (.bool true) := by rw [h]

theorem Own.low {e : TypeId} {sz n : Nat} {v : SV} {xs : List SV} {B H : List Blk} {w0 w : World} {X : List Nat} (ho : Own e sz v n xs B) (h : HL w0 w X (B ++ H)) : ∀ a n c, v = .sl a n c → ∀ p, a = some p → p.block < w.heap.size := by
  intro a m c hv p hp
  obtain ⟨_, ⟨rfl, _, _⟩ | ⟨b, c', rest, rfl, _, _, _, rfl⟩⟩ := ho
  · cases hv; cases hp
  · cases hv; cases hp; exact h.lt (k := 0) rfl

/-- The sum at once. -/
theorem sumAll (v : SV) (T : List B8) (w : World) (h : Txt w v T) (hlow : ∀ a n c, v = .sl a n c → ∀ p, a = some p → p.block < w.heap.size) (hbig : T.length ≤ 100000) : Calls Try.prog 37 #[v.val] w fun e w' => e = .returned (SV.agg ((sha1B T).map SV.u8)).val ∧ Grow w w' := by
  obtain ⟨a, c, rfl, hc, ha, hr⟩ := h
  generalize hn : T.length = n at *
  refine calls_E [.sl a n c] Try.func37 rfl Try.ntmps37 rfl ?_
  refine EWp.seqR [0, 2] fun K hK => ?_
  simp only [ev, fx, ↓reduceIte, Nat.reduceEqDiff, Nat.reduceLT, Nat.reduceLeDiff, Nat.reduceAdd, Nat.reduceSub, Nat.reduceMul, Int.reduceLT, Int.reduceLE, Int.reduceToNat, BitVec.reduceOfInt, BitVec.reduceToNat, reduceCtorEq, and_self, decide_true, decide_false, Bool.not_true, Bool.not_false, ne_eq, not_true_eq_false, not_false_eq_true, true_and, and_true]
  refine SemE.alloc (HL.start w) zero_55 rfl fun g2 w1 hg2 hl => ?_
  simp only [ev, fx, ↓reduceIte, Nat.reduceEqDiff, Nat.reduceLT, Nat.reduceLeDiff, Nat.reduceAdd, Nat.reduceSub, Nat.reduceMul, Int.reduceLT, Int.reduceLE, Int.reduceToNat, BitVec.reduceOfInt, BitVec.reduceToNat, reduceCtorEq, and_self, decide_true, decide_false, Bool.not_true, Bool.not_false, ne_eq, not_true_eq_false, not_false_eq_true, true_and, and_true]
  repeat (refine And.intro (by omega) ?_)
  refine hK _ _ ?_; clear hK K
  refine EWp.seqR [0, 2, 3] fun K hK => ?_
  simp only [ev, fx, ↓reduceIte, Nat.reduceEqDiff, Nat.reduceLT, Nat.reduceLeDiff, Nat.reduceAdd, Nat.reduceSub, Nat.reduceMul, Int.reduceLT, Int.reduceLE, Int.reduceToNat, BitVec.reduceOfInt, BitVec.reduceToNat, reduceCtorEq, and_self, decide_true, decide_false, Bool.not_true, Bool.not_false, ne_eq, not_true_eq_false, not_false_eq_true, true_and, and_true]
  refine SemE.alloc hl zero_73 rfl fun b w2 hb hl => ?_
  rw [digC_zero] at hl
  simp only [List.nil_append, List.cons_append] at hl
  simp only [ev, fx, ↓reduceIte, Nat.reduceEqDiff, Nat.reduceLT, Nat.reduceLeDiff, Nat.reduceAdd, Nat.reduceSub, Nat.reduceMul, Int.reduceLT, Int.reduceLE, Int.reduceToNat, BitVec.reduceOfInt, BitVec.reduceToNat, reduceCtorEq, and_self, decide_true, decide_false, Bool.not_true, Bool.not_false, ne_eq, not_true_eq_false, not_false_eq_true, true_and, and_true]
  repeat (refine And.intro (by omega) ?_)
  refine hK _ _ ?_; clear hK K
  refine EWp.seqR [0, 2, 3] fun K hK => ?_
  simp only [ev, fx, ↓reduceIte, Nat.reduceEqDiff, Nat.reduceLT, Nat.reduceLeDiff, Nat.reduceAdd, Nat.reduceSub, Nat.reduceMul, Int.reduceLT, Int.reduceLE, Int.reduceToNat, BitVec.reduceOfInt, BitVec.reduceToNat, reduceCtorEq, and_self, decide_true, decide_false, Bool.not_true, Bool.not_false, ne_eq, not_true_eq_false, not_false_eq_true, true_and, and_true]
  refine SemE.call fn_45 rfl rfl (reset1 b _ _ _ _ (by simp) _ (hl.at (k := 1) rfl)) ?_
  rintro _ w3 ⟨rfl, hl3⟩
  have hl := hl.call (k := 1) rfl hl3
  simp only [List.set_cons_zero, List.set_cons_succ, List.append_nil] at hl
  refine ⟨_, rfl, ?_⟩
  simp only [ev, fx, ↓reduceIte, Nat.reduceEqDiff, Nat.reduceLT, Nat.reduceLeDiff, Nat.reduceAdd, Nat.reduceSub, Nat.reduceMul, Int.reduceLT, Int.reduceLE, Int.reduceToNat, BitVec.reduceOfInt, BitVec.reduceToNat, reduceCtorEq, and_self, decide_true, decide_false, Bool.not_true, Bool.not_false, ne_eq, not_true_eq_false, not_false_eq_true, true_and, and_true]
  repeat (refine And.intro (by omega) ?_)
  refine hK _ _ ?_; clear hK K
  have hd : Dig [] (digC init1 (List.replicate 64 0) 0 0) := Dig.new
  generalize digC init1 (List.replicate 64 0) 0 0 = cs at hl hd
  refine EWp.seqR [2, 3] fun K hK => ?_
  simp only [ev, fx, ↓reduceIte, Nat.reduceEqDiff, Nat.reduceLT, Nat.reduceLeDiff, Nat.reduceAdd, Nat.reduceSub, Nat.reduceMul, Int.reduceLT, Int.reduceLE, Int.reduceToNat, BitVec.reduceOfInt, BitVec.reduceToNat, reduceCtorEq, and_self, decide_true, decide_false, Bool.not_true, Bool.not_false, ne_eq, not_true_eq_false, not_false_eq_true, true_and, and_true]
  refine SemE.call fn_44 rfl rfl (writeD b [] cs hd a n c T _ (hl.at (k := 1) rfl) (hr.grow (hl.sub (List.nil_sublist _)).toGrow) hn hc ha (fun p hp => by
    have := hlow _ _ _ rfl p hp
    simp; omega) (by omega)) ?_
  rintro _ w4 ⟨rfl, cs4, hd4, hl4⟩
  have hl := hl.call (k := 1) rfl hl4
  simp only [List.set_cons_zero, List.set_cons_succ, List.append_nil] at hl
  refine ⟨_, rfl, ?_⟩
  simp only [ev, fx, ↓reduceIte, Nat.reduceEqDiff, Nat.reduceLT, Nat.reduceLeDiff, Nat.reduceAdd, Nat.reduceSub, Nat.reduceMul, Int.reduceLT, Int.reduceLE, Int.reduceToNat, BitVec.reduceOfInt, BitVec.reduceToNat, reduceCtorEq, and_self, decide_true, decide_false, Bool.not_true, Bool.not_false, ne_eq, not_true_eq_false, not_false_eq_true, true_and, and_true]
  repeat (refine And.intro (by omega) ?_)
  refine hK _ _ ?_; clear hK K
  rw [List.nil_append] at hd4
  obtain ⟨x, hx, htk, rfl⟩ := hd4
  refine EWp.seqR [2] fun K hK => ?_
  simp only [ev, fx, ↓reduceIte, Nat.reduceEqDiff, Nat.reduceLT, Nat.reduceLeDiff, Nat.reduceAdd, Nat.reduceSub, Nat.reduceMul, Int.reduceLT, Int.reduceLE, Int.reduceToNat, BitVec.reduceOfInt, BitVec.reduceToNat, reduceCtorEq, and_self, decide_true, decide_false, Bool.not_true, Bool.not_false, ne_eq, not_true_eq_false, not_false_eq_true, true_and, and_true]
  refine SemE.call fn_48 rfl rfl (checkSum1 b _ x T.length _ (hl.at (k := 1) rfl) hx (by omega)) ?_
  rintro _ w5 ⟨rfl, cs5, hl5⟩
  have hl := hl.call (k := 1) rfl hl5
  simp only [List.set_cons_zero, List.set_cons_succ, List.append_nil] at hl
  refine ⟨_, rfl, ?_⟩
  have hsum : blocks (blocks init1 T) (x.take (T.length % 64) ++ padB T.length) = blocks init1 (T ++ padB T.length) := by rw [htk, blocks_more]
  rw [hsum, ← sha1B]
  simp only [ev, fx, ↓reduceIte, Nat.reduceEqDiff, Nat.reduceLT, Nat.reduceLeDiff, Nat.reduceAdd, Nat.reduceSub, Nat.reduceMul, Int.reduceLT, Int.reduceLE, Int.reduceToNat, BitVec.reduceOfInt, BitVec.reduceToNat, reduceCtorEq, and_self, decide_true, decide_false, Bool.not_true, Bool.not_false, ne_eq, not_true_eq_false, not_false_eq_true, true_and, and_true]
  refine SemE.storeA (vs := (sha1B T).map SV.u8) hl 0 rfl rfl agg_55 (isOneB _) rfl (by rw [List.length_map, sha1B_len, List.length_replicate]; omega) fun w6 hl => ?_
  rw [List.set_cons_zero, List.take_zero, List.nil_append, List.drop_of_length_le (by rw [List.length_map, sha1B_len, List.length_replicate]; omega), List.append_nil] at hl
  simp only [ev, fx, ↓reduceIte, Nat.reduceEqDiff, Nat.reduceLT, Nat.reduceLeDiff, Nat.reduceAdd, Nat.reduceSub, Nat.reduceMul, Int.reduceLT, Int.reduceLE, Int.reduceToNat, BitVec.reduceOfInt, BitVec.reduceToNat, reduceCtorEq, and_self, decide_true, decide_false, Bool.not_true, Bool.not_false, ne_eq, not_true_eq_false, not_false_eq_true, true_and, and_true]
  repeat (refine And.intro (by omega) ?_)
  refine hK _ _ ?_; clear hK K
  exact EWp.ret (bodyCellA (.inl rfl) rfl (t := 2) (b := g2) (cs := (sha1B T).map SV.u8) rfl (by rw [List.length_map, sha1B_len]; exact agg_55) (hl.at (k := 0) rfl) ⟨rfl, (hl.sub (List.nil_sublist _)).toGrow⟩)

theorem one1T (v : SV) (T : List B8) (w : World) (h : Txt w v T) (hbig : T.length ≤ 100000) : Calls Try.prog 19 #[v.val] w fun e w' => ∃ v', e = .returned v'.val ∧ Txt w' v' (sha1B T) ∧ Grow w w' := by
  obtain ⟨a, c, rfl, hc, ha, hr⟩ := h
  refine calls_E [.sl a T.length c] Try.func19 rfl Try.ntmps19 rfl ?_
  refine EWp.seqR [0] fun K hK => ?_
  simp only [ev, fx, ↓reduceIte, Nat.reduceEqDiff, Nat.reduceLT, Nat.reduceLeDiff, Nat.reduceAdd, Nat.reduceSub, Nat.reduceMul, Int.reduceLT, Int.reduceLE, Int.reduceToNat, BitVec.reduceOfInt, BitVec.reduceToNat, reduceCtorEq, and_self, decide_true, decide_false, Bool.not_true, Bool.not_false, ne_eq, not_true_eq_false, not_false_eq_true, true_and, and_true]
  repeat (refine And.intro (by omega) ?_)
  refine hK _ _ ?_; clear hK K
  refine EWp.seqR [3] fun K hK => ?_
  simp only [ev, fx, ↓reduceIte, Nat.reduceEqDiff, Nat.reduceLT, Nat.reduceLeDiff, Nat.reduceAdd, Nat.reduceSub, Nat.reduceMul, Int.reduceLT, Int.reduceLE, Int.reduceToNat, BitVec.reduceOfInt, BitVec.reduceToNat, reduceCtorEq, and_self, decide_true, decide_false, Bool.not_true, Bool.not_false, ne_eq, not_true_eq_false, not_false_eq_true, true_and, and_true]
  refine SemE.call fn_35 rfl rfl (copiedC a T.length c (T.map SV.u8) _ hr (by simp) ha (isOneB T) (by omega)) ?_
  rintro _ w2 ⟨v2, B, rfl, ho, hl2⟩
  refine ⟨_, rfl, ?_⟩
  have hl2' : HL w w2 [] (B ++ []) := by rw [List.append_nil]; exact hl2
  simp only [ev, fx, ↓reduceIte, Nat.reduceEqDiff, Nat.reduceLT, Nat.reduceLeDiff, Nat.reduceAdd, Nat.reduceSub, Nat.reduceMul, Int.reduceLT, Int.reduceLE, Int.reduceToNat, BitVec.reduceOfInt, BitVec.reduceToNat, reduceCtorEq, and_self, decide_true, decide_false, Bool.not_true, Bool.not_false, ne_eq, not_true_eq_false, not_false_eq_true, true_and, and_true]
  refine SemE.call fn_37 rfl rfl (sumAll v2 T _ (ho.txt hl2') (ho.low hl2') hbig) ?_
  rintro _ w3 ⟨rfl, hg3⟩
  refine ⟨_, rfl, ?_⟩
  have hl : HL w w3 [] [] := (HL.start w).grow (hl2.toGrow.trans hg3)
  simp only [ev, fx, ↓reduceIte, Nat.reduceEqDiff, Nat.reduceLT, Nat.reduceLeDiff, Nat.reduceAdd, Nat.reduceSub, Nat.reduceMul, Int.reduceLT, Int.reduceLE, Int.reduceToNat, BitVec.reduceOfInt, BitVec.reduceToNat, reduceCtorEq, and_self, decide_true, decide_false, Bool.not_true, Bool.not_false, ne_eq, not_true_eq_false, not_false_eq_true, true_and, and_true]
  refine SemE.alloc hl zero_55 rfl fun b w4 hb hl => ?_
  simp only [ev, fx, ↓reduceIte, Nat.reduceEqDiff, Nat.reduceLT, Nat.reduceLeDiff, Nat.reduceAdd, Nat.reduceSub, Nat.reduceMul, Int.reduceLT, Int.reduceLE, Int.reduceToNat, BitVec.reduceOfInt, BitVec.reduceToNat, reduceCtorEq, and_self, decide_true, decide_false, Bool.not_true, Bool.not_false, ne_eq, not_true_eq_false, not_false_eq_true, true_and, and_true]
  refine SemE.storeA (vs := (sha1B T).map SV.u8) hl 0 rfl rfl (by rw [List.length_map, sha1B_len]; exact agg_55) (isOneB _) rfl (by rw [List.length_map, sha1B_len]; simp) fun w6 hl => ?_
  simp only [List.nil_append, List.set_cons_zero, List.take_zero] at hl
  rw [List.drop_of_length_le (by rw [List.length_map, sha1B_len, List.length_replicate]; omega), List.append_nil] at hl
  simp only [ev, fx, ↓reduceIte, Nat.reduceEqDiff, Nat.reduceLT, Nat.reduceLeDiff, Nat.reduceAdd, Nat.reduceSub, Nat.reduceMul, Int.reduceLT, Int.reduceLE, Int.reduceToNat, BitVec.reduceOfInt, BitVec.reduceToNat, reduceCtorEq, and_self, decide_true, decide_false, Bool.not_true, Bool.not_false, ne_eq, not_true_eq_false, not_false_eq_true, true_and, and_true]
  repeat (refine And.intro (by omega) ?_)
  refine hK _ _ ?_; clear hK K
  refine EWp.seqR [2] fun K hK => ?_
  simp only [ev, fx, ↓reduceIte, Nat.reduceEqDiff, Nat.reduceLT, Nat.reduceLeDiff, Nat.reduceAdd, Nat.reduceSub, Nat.reduceMul, Int.reduceLT, Int.reduceLE, Int.reduceToNat, BitVec.reduceOfInt, BitVec.reduceToNat, reduceCtorEq, and_self, decide_true, decide_false, Bool.not_true, Bool.not_false, ne_eq, not_true_eq_false, not_false_eq_true, true_and, and_true]
  repeat (refine And.intro (by omega) ?_)
  refine hK _ _ ?_; clear hK K
  refine EWp.ret (BodyE.tmp1 rfl rfl ⟨_, rfl, ?_, hl.toGrow⟩)
  have := Rd.blk hl (k := 0) rfl 0 20
  rw [List.drop_zero, List.take_of_length_le (by rw [List.length_map, sha1B_len]; omega)] at this
  exact Txt.mk (by simpa [Addr.add_zero'] using this) (sha1B_len T) (by omega) (fun h => by cases h)

set_option maxRecDepth 100000 in
theorem lawOne1 (v : SV) (T : List B8) (w : World) (ht : Txt w v T) :
    Calls Try.prog 5 #[v.val] w fun e w' => e = .returned (SV.bool true).val ∧ Grow w w' := by
  have htx := ht
  obtain ⟨a, c, rfl, hc, ha, hr⟩ := ht
  generalize hn : T.length = n at *
  refine calls_E [.sl a n c] Try.func5 rfl Try.ntmps5 rfl ?_
  refine EWp.seqR [0] fun K hK => ?_
  simp only [ev, fx, ↓reduceIte, Nat.reduceEqDiff, Nat.reduceLT, Nat.reduceLeDiff, Nat.reduceAdd, Nat.reduceSub, Nat.reduceMul, Int.reduceLT, Int.reduceLE, Int.reduceToNat, BitVec.reduceOfInt, BitVec.reduceToNat, reduceCtorEq, and_self, decide_true, decide_false, Bool.not_true, Bool.not_false, ne_eq, not_true_eq_false, not_false_eq_true, true_and, and_true]
  repeat (refine And.intro (by omega) ?_)
  refine hK _ _ ?_; clear hK K
  refine EWp.ifR [0, 5] fun K hK => ?_
  by_cases h1 : 2147483647 < n
  · simp only [ev, fx, ↓reduceIte, Nat.reduceEqDiff, Nat.reduceLT, Nat.reduceLeDiff, Nat.reduceAdd, Nat.reduceSub, Nat.reduceMul, Int.reduceLT, Int.reduceLE, Int.reduceToNat, BitVec.reduceOfInt, BitVec.reduceToNat, reduceCtorEq, and_self, decide_true, decide_false, Bool.not_true, Bool.not_false, ne_eq, not_true_eq_false, not_false_eq_true, true_and, and_true, h1]
    refine hK _ _ true rfl (fun _ => ?_) (fun h => by cases h); clear hK K
    refine EWp.seqR [2] fun K hK => ?_
    simp only [ev, fx, ↓reduceIte, Nat.reduceEqDiff, Nat.reduceLT, Nat.reduceLeDiff, Nat.reduceAdd, Nat.reduceSub, Nat.reduceMul, Int.reduceLT, Int.reduceLE, Int.reduceToNat, BitVec.reduceOfInt, BitVec.reduceToNat, reduceCtorEq, and_self, decide_true, decide_false, Bool.not_true, Bool.not_false, ne_eq, not_true_eq_false, not_false_eq_true, true_and, and_true]
    repeat (refine And.intro (by omega) ?_)
    refine hK _ _ ?_; clear hK K
    exact EWp.retT (BodyE.tmp1 rfl rfl ⟨rfl, Grow.refl _⟩)
  simp only [ev, fx, ↓reduceIte, Nat.reduceEqDiff, Nat.reduceLT, Nat.reduceLeDiff, Nat.reduceAdd, Nat.reduceSub, Nat.reduceMul, Int.reduceLT, Int.reduceLE, Int.reduceToNat, BitVec.reduceOfInt, BitVec.reduceToNat, reduceCtorEq, and_self, decide_true, decide_false, Bool.not_true, Bool.not_false, ne_eq, not_true_eq_false, not_false_eq_true, true_and, and_true, h1]
  refine hK _ _ false rfl (fun h => by cases h) (fun _ => ?_); clear hK K
  refine EWp.skipThen ?_
  refine EWp.seqO (fun _ => false) [(0, 0), (1, 0), (2, 1), (3, 0), (4, 0), (7, 0), (5, 2), (6, 1), (8, 2), (9, 1), (10, 1), (11, 0), (12, 0)] [2] mixed (by kernel_rfl) fun K hK => ?_
  have hg := drewG w
  by_cases h5 : 5000 < n
  · simp only [ev, fx, ↓reduceIte, Nat.reduceEqDiff, Nat.reduceLT, Nat.reduceLeDiff, Nat.reduceAdd, Nat.reduceSub, Nat.reduceMul, Int.reduceLT, Int.reduceLE, Int.reduceToNat, BitVec.reduceOfInt, BitVec.reduceToNat, reduceCtorEq, and_self, decide_true, decide_false, Bool.not_true, Bool.not_false, ne_eq, not_true_eq_false, not_false_eq_true, true_and, and_true, h5]
    repeat (refine And.intro (by omega) ?_)
    refine hK _ _ ?_; clear hK K
    exact EWp.ret (BodyE.tmp1 rfl rfl ⟨rfl, hg⟩)
  simp only [ev, fx, ↓reduceIte, Nat.reduceEqDiff, Nat.reduceLT, Nat.reduceLeDiff, Nat.reduceAdd, Nat.reduceSub, Nat.reduceMul, Int.reduceLT, Int.reduceLE, Int.reduceToNat, BitVec.reduceOfInt, BitVec.reduceToNat, reduceCtorEq, and_self, decide_true, decide_false, Bool.not_true, Bool.not_false, ne_eq, not_true_eq_false, not_false_eq_true, true_and, and_true, h5]
  refine SemE.call fn_19 rfl rfl (one1T _ T _ (htx.grow hg) (by omega)) ?_
  rintro _ w2 ⟨v2, rfl, hh2, hg2⟩
  refine ⟨_, rfl, fun _ => hg2, ?_⟩
  have hg := hg.trans hg2
  simp only [ev, fx, ↓reduceIte, Nat.reduceEqDiff, Nat.reduceLT, Nat.reduceLeDiff, Nat.reduceAdd, Nat.reduceSub, Nat.reduceMul, Int.reduceLT, Int.reduceLE, Int.reduceToNat, BitVec.reduceOfInt, BitVec.reduceToNat, reduceCtorEq, and_self, decide_true, decide_false, Bool.not_true, Bool.not_false, ne_eq, not_true_eq_false, not_false_eq_true, true_and, and_true]
  refine StopR.mk (SV.str (sha1B T)) (Quiet.toStrT tostr_23_9 rfl (hh2)) rfl ?_
  simp only [ev, fx, ↓reduceIte, Nat.reduceEqDiff, Nat.reduceLT, Nat.reduceLeDiff, Nat.reduceAdd, Nat.reduceSub, Nat.reduceMul, Int.reduceLT, Int.reduceLE, Int.reduceToNat, BitVec.reduceOfInt, BitVec.reduceToNat, reduceCtorEq, and_self, decide_true, decide_false, Bool.not_true, Bool.not_false, ne_eq, not_true_eq_false, not_false_eq_true, true_and, and_true]
  refine SemE.call fn_20 rfl rfl (specSha1T _ _ _ (htx.grow hg) (by omega)) ?_
  rintro _ w4 ⟨v4, rfl, hh4, hg4⟩
  refine ⟨_, rfl, fun _ => hg4, ?_⟩
  have hg := hg.trans hg4
  simp only [ev, fx, ↓reduceIte, Nat.reduceEqDiff, Nat.reduceLT, Nat.reduceLeDiff, Nat.reduceAdd, Nat.reduceSub, Nat.reduceMul, Int.reduceLT, Int.reduceLE, Int.reduceToNat, BitVec.reduceOfInt, BitVec.reduceToNat, reduceCtorEq, and_self, decide_true, decide_false, Bool.not_true, Bool.not_false, ne_eq, not_true_eq_false, not_false_eq_true, true_and, and_true]
  refine StopR.mk (SV.str (sha1B T)) (Quiet.toStrT tostr_23_9 rfl (hh4)) rfl ?_
  simp only [ev, fx, ↓reduceIte, Nat.reduceEqDiff, Nat.reduceLT, Nat.reduceLeDiff, Nat.reduceAdd, Nat.reduceSub, Nat.reduceMul, Int.reduceLT, Int.reduceLE, Int.reduceToNat, BitVec.reduceOfInt, BitVec.reduceToNat, reduceCtorEq, and_self, decide_true, decide_false, Bool.not_true, Bool.not_false, ne_eq, not_true_eq_false, not_false_eq_true, true_and, and_true]
  refine StopR.mk _ (Quiet.plain (Plain.eqlStr rfl rfl)) rfl ?_
  simp only [ev, fx, ↓reduceIte, Nat.reduceEqDiff, Nat.reduceLT, Nat.reduceLeDiff, Nat.reduceAdd, Nat.reduceSub, Nat.reduceMul, Int.reduceLT, Int.reduceLE, Int.reduceToNat, BitVec.reduceOfInt, BitVec.reduceToNat, reduceCtorEq, and_self, decide_true, decide_false, Bool.not_true, Bool.not_false, ne_eq, not_true_eq_false, not_false_eq_true, true_and, and_true]
  repeat (refine And.intro (by omega) ?_)
  refine hK _ _ ?_; clear hK K
  exact EWp.ret (BodyE.tmp1 rfl rfl ⟨rfl, hg⟩)
end Go.Proofs.Ytikejalfiaindaa
