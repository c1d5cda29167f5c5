/- The laws that take the other road to a hash of SHA-1. -/
import Derived.Test.YtikejalfiaindaaLs1
import Derived.Test.YtikejalfiaindaaMem6
set_option linter.unusedVariables false
set_option linter.unusedSimpArgs false
namespace Go.Proofs.Ytikejalfiaindaa
open Go

set_option maxRecDepth 100000 in
theorem lawOneRoads1 (v : SV) (T : List B8) (w : World) (ht : Txt w v T) :
    Calls Try.prog 10 #[v.val] w fun e w' => e = .returned (SV.bool true).val ∧ Grow w w' := by
  have htx := ht
  obtain ⟨a, c, rfl, hc, ha, hr⟩ := ht
  generalize hn : T.length = n at *
  refine calls_E [.sl a n c] Try.func10 rfl Try.ntmps10 rfl ?_
  refine EWp.seqR [0] fun K hK => ?_
  simp only [ev, fx, ↓reduceIte, Nat.reduceEqDiff, Nat.reduceLT, Nat.reduceLeDiff, Nat.reduceAdd, Nat.reduceSub, Nat.reduceMul, Int.reduceLT, Int.reduceLE, Int.reduceToNat, BitVec.reduceOfInt, BitVec.reduceToNat, reduceCtorEq, and_self, decide_true, decide_false, Bool.not_true, Bool.not_false, ne_eq, not_true_eq_false, not_false_eq_true, true_and, and_true]
  repeat (refine And.intro (by omega) ?_)
  refine hK _ _ ?_; clear hK K
  refine EWp.ifR [0, 6] fun K hK => ?_
  by_cases h1 : 2147483647 < n
  · simp only [ev, fx, ↓reduceIte, Nat.reduceEqDiff, Nat.reduceLT, Nat.reduceLeDiff, Nat.reduceAdd, Nat.reduceSub, Nat.reduceMul, Int.reduceLT, Int.reduceLE, Int.reduceToNat, BitVec.reduceOfInt, BitVec.reduceToNat, reduceCtorEq, and_self, decide_true, decide_false, Bool.not_true, Bool.not_false, ne_eq, not_true_eq_false, not_false_eq_true, true_and, and_true, h1]
    refine hK _ _ true rfl (fun _ => ?_) (fun h => by cases h); clear hK K
    refine EWp.seqR [2] fun K hK => ?_
    simp only [ev, fx, ↓reduceIte, Nat.reduceEqDiff, Nat.reduceLT, Nat.reduceLeDiff, Nat.reduceAdd, Nat.reduceSub, Nat.reduceMul, Int.reduceLT, Int.reduceLE, Int.reduceToNat, BitVec.reduceOfInt, BitVec.reduceToNat, reduceCtorEq, and_self, decide_true, decide_false, Bool.not_true, Bool.not_false, ne_eq, not_true_eq_false, not_false_eq_true, true_and, and_true]
    repeat (refine And.intro (by omega) ?_)
    refine hK _ _ ?_; clear hK K
    exact EWp.retT (BodyE.tmp1 rfl rfl ⟨rfl, Grow.refl _⟩)
  simp only [ev, fx, ↓reduceIte, Nat.reduceEqDiff, Nat.reduceLT, Nat.reduceLeDiff, Nat.reduceAdd, Nat.reduceSub, Nat.reduceMul, Int.reduceLT, Int.reduceLE, Int.reduceToNat, BitVec.reduceOfInt, BitVec.reduceToNat, reduceCtorEq, and_self, decide_true, decide_false, Bool.not_true, Bool.not_false, ne_eq, not_true_eq_false, not_false_eq_true, true_and, and_true, h1]
  refine hK _ _ false rfl (fun h => by cases h) (fun _ => ?_); clear hK K
  refine EWp.skipThen ?_
  refine EWp.seqR [0, 3] fun K hK => ?_
  simp only [ev, fx, ↓reduceIte, Nat.reduceEqDiff, Nat.reduceLT, Nat.reduceLeDiff, Nat.reduceAdd, Nat.reduceSub, Nat.reduceMul, Int.reduceLT, Int.reduceLE, Int.reduceToNat, BitVec.reduceOfInt, BitVec.reduceToNat, reduceCtorEq, and_self, decide_true, decide_false, Bool.not_true, Bool.not_false, ne_eq, not_true_eq_false, not_false_eq_true, true_and, and_true, sl0]
  refine SemE.plain _ (Plain.min rfl rfl) rfl ?_
  have hm : min n 5000 ≤ n := Nat.min_le_left _ _
  simp only [ev, fx, ↓reduceIte, Nat.reduceEqDiff, Nat.reduceLT, Nat.reduceLeDiff, Nat.reduceAdd, Nat.reduceSub, Nat.reduceMul, Int.reduceLT, Int.reduceLE, Int.reduceToNat, BitVec.reduceOfInt, BitVec.reduceToNat, reduceCtorEq, and_self, decide_true, decide_false, Bool.not_true, Bool.not_false, ne_eq, not_true_eq_false, not_false_eq_true, true_and, and_true, sl0]
  repeat (refine And.intro (by omega) ?_)
  refine SemE.call fn_19 rfl rfl (one1T _ (T.take (min n 5000)) _ (htx.take _ hm) (by simp; omega)) ?_
  rintro _ w1 ⟨v1, rfl, hh1, hg⟩
  refine ⟨_, rfl, ?_⟩
  simp only [ev, fx, ↓reduceIte, Nat.reduceEqDiff, Nat.reduceLT, Nat.reduceLeDiff, Nat.reduceAdd, Nat.reduceSub, Nat.reduceMul, Int.reduceLT, Int.reduceLE, Int.reduceToNat, BitVec.reduceOfInt, BitVec.reduceToNat, reduceCtorEq, and_self, decide_true, decide_false, Bool.not_true, Bool.not_false, ne_eq, not_true_eq_false, not_false_eq_true, true_and, and_true]
  repeat (refine And.intro (by omega) ?_)
  refine hK _ _ ?_; clear hK K
  refine EWp.seqO (fun _ => false) [(0, 0), (1, 0), (2, 1), (3, 0), (4, 0), (5, 0), (6, 1), (7, 0), (8, 0), (9, 1), (10, 0), (11, 2), (12, 2), (13, 1), (14, 1), (15, 0), (16, 0), (17, 0)] [2] mixed (by kernel_rfl) fun K hK => ?_
  have hgd := drewG w1
  have hg := hg.trans hgd
  have hh1 := hh1.grow hgd
  obtain ⟨a1, c1, rfl, hc1, ha1, hr1⟩ := hh1
  have hh1 : Txt w1.drew (.sl a1 20 c1) _ := Txt.mk hr1 (sha1B_len _) (by rw [sha1B_len] at hc1; exact hc1) (fun h => by have := ha1 h; rw [sha1B_len] at this; omega)
  rw [sha1B_len]
  clear hc1 ha1 hr1
  by_cases h5 : 5000 < n
  · simp only [ev, fx, ↓reduceIte, Nat.reduceEqDiff, Nat.reduceLT, Nat.reduceLeDiff, Nat.reduceAdd, Nat.reduceSub, Nat.reduceMul, Int.reduceLT, Int.reduceLE, Int.reduceToNat, BitVec.reduceOfInt, BitVec.reduceToNat, reduceCtorEq, and_self, decide_true, decide_false, Bool.not_true, Bool.not_false, ne_eq, not_true_eq_false, not_false_eq_true, true_and, and_true, h5]
    repeat (refine And.intro (by omega) ?_)
    refine hK _ _ ?_; clear hK K
    exact EWp.ret (BodyE.tmp1 rfl rfl ⟨rfl, hg⟩)
  rw [Nat.min_eq_left (by omega), ← hn, List.take_length] at hh1
  simp only [ev, fx, ↓reduceIte, Nat.reduceEqDiff, Nat.reduceLT, Nat.reduceLeDiff, Nat.reduceAdd, Nat.reduceSub, Nat.reduceMul, Int.reduceLT, Int.reduceLE, Int.reduceToNat, BitVec.reduceOfInt, BitVec.reduceToNat, reduceCtorEq, and_self, decide_true, decide_false, Bool.not_true, Bool.not_false, ne_eq, not_true_eq_false, not_false_eq_true, true_and, and_true, h5]
  refine StopR.mk (SV.str (sha1B T)) (Quiet.toStrT tostr_23_9 rfl (hh1)) rfl ?_
  simp only [ev, fx, ↓reduceIte, Nat.reduceEqDiff, Nat.reduceLT, Nat.reduceLeDiff, Nat.reduceAdd, Nat.reduceSub, Nat.reduceMul, Int.reduceLT, Int.reduceLE, Int.reduceToNat, BitVec.reduceOfInt, BitVec.reduceToNat, reduceCtorEq, and_self, decide_true, decide_false, Bool.not_true, Bool.not_false, ne_eq, not_true_eq_false, not_false_eq_true, true_and, and_true]
  refine SemE.buildSlice (vs := [.sl a n c]) (HL.start _) 23 slof_30 rfl rfl (by omega) rfl fun b w4 hb hl => ⟨fun _ => hl.toGrow, ?_⟩
  have hg4 := hl.toGrow
  have hg := hg.trans hg4
  have hx : Txs w4 (.sl (some ⟨b, 0, none⟩) 1 1) [T] := Txs.mk (RdD.one (Rd.blk hl (k := 0) rfl 0 1) (htx.grow hg)) rfl (Nat.le_refl _) (fun h => by cases h)
  have hc1 : cat [T] = T := by simp [cat]
  clear hl
  simp only [ev, fx, ↓reduceIte, Nat.reduceEqDiff, Nat.reduceLT, Nat.reduceLeDiff, Nat.reduceAdd, Nat.reduceSub, Nat.reduceMul, Int.reduceLT, Int.reduceLE, Int.reduceToNat, BitVec.reduceOfInt, BitVec.reduceToNat, reduceCtorEq, and_self, decide_true, decide_false, Bool.not_true, Bool.not_false, ne_eq, not_true_eq_false, not_false_eq_true, true_and, and_true]
  refine SemE.call fn_25 rfl rfl (hash1T _ _ _ (hx) ⟨by simp, by rw [hc1]; omega⟩) ?_
  rintro _ w2 ⟨v2, rfl, hh2, hg2⟩
  refine ⟨_, rfl, fun _ => hg2, ?_⟩
  have hg := hg.trans hg2
  rw [hc1] at hh2
  simp only [ev, fx, ↓reduceIte, Nat.reduceEqDiff, Nat.reduceLT, Nat.reduceLeDiff, Nat.reduceAdd, Nat.reduceSub, Nat.reduceMul, Int.reduceLT, Int.reduceLE, Int.reduceToNat, BitVec.reduceOfInt, BitVec.reduceToNat, reduceCtorEq, and_self, decide_true, decide_false, Bool.not_true, Bool.not_false, ne_eq, not_true_eq_false, not_false_eq_true, true_and, and_true]
  refine StopR.mk (SV.str (sha1B T)) (Quiet.toStrT tostr_23_9 rfl (hh2)) rfl ?_
  simp only [ev, fx, ↓reduceIte, Nat.reduceEqDiff, Nat.reduceLT, Nat.reduceLeDiff, Nat.reduceAdd, Nat.reduceSub, Nat.reduceMul, Int.reduceLT, Int.reduceLE, Int.reduceToNat, BitVec.reduceOfInt, BitVec.reduceToNat, reduceCtorEq, and_self, decide_true, decide_false, Bool.not_true, Bool.not_false, ne_eq, not_true_eq_false, not_false_eq_true, true_and, and_true]
  refine StopR.mk _ (Quiet.plain (Plain.eqlStr rfl rfl)) rfl ?_
  simp only [ev, fx, ↓reduceIte, Nat.reduceEqDiff, Nat.reduceLT, Nat.reduceLeDiff, Nat.reduceAdd, Nat.reduceSub, Nat.reduceMul, Int.reduceLT, Int.reduceLE, Int.reduceToNat, BitVec.reduceOfInt, BitVec.reduceToNat, reduceCtorEq, and_self, decide_true, decide_false, Bool.not_true, Bool.not_false, ne_eq, not_true_eq_false, not_false_eq_true, true_and, and_true]
  repeat (refine And.intro (by omega) ?_)
  refine hK _ _ ?_; clear hK K
  exact EWp.ret (BodyE.tmp1 rfl rfl ⟨rfl, hg⟩)

set_option maxRecDepth 100000 in
theorem lawRoad1 (v : SV) (T : List B8) (w : World) (ht : Txt w v T) :
    Calls Try.prog 11 #[v.val] w fun e w' => e = .returned (SV.bool true).val ∧ Grow w w' := by
  have htx := ht
  obtain ⟨a, c, rfl, hc, ha, hr⟩ := ht
  generalize hn : T.length = n at *
  refine calls_E [.sl a n c] Try.func11 rfl Try.ntmps11 rfl ?_
  refine EWp.seqR [0] fun K hK => ?_
  simp only [ev, fx, ↓reduceIte, Nat.reduceEqDiff, Nat.reduceLT, Nat.reduceLeDiff, Nat.reduceAdd, Nat.reduceSub, Nat.reduceMul, Int.reduceLT, Int.reduceLE, Int.reduceToNat, BitVec.reduceOfInt, BitVec.reduceToNat, reduceCtorEq, and_self, decide_true, decide_false, Bool.not_true, Bool.not_false, ne_eq, not_true_eq_false, not_false_eq_true, true_and, and_true]
  repeat (refine And.intro (by omega) ?_)
  refine hK _ _ ?_; clear hK K
  refine EWp.ifR [0, 6] fun K hK => ?_
  by_cases h1 : 2147483647 < n
  · simp only [ev, fx, ↓reduceIte, Nat.reduceEqDiff, Nat.reduceLT, Nat.reduceLeDiff, Nat.reduceAdd, Nat.reduceSub, Nat.reduceMul, Int.reduceLT, Int.reduceLE, Int.reduceToNat, BitVec.reduceOfInt, BitVec.reduceToNat, reduceCtorEq, and_self, decide_true, decide_false, Bool.not_true, Bool.not_false, ne_eq, not_true_eq_false, not_false_eq_true, true_and, and_true, h1]
    refine hK _ _ true rfl (fun _ => ?_) (fun h => by cases h); clear hK K
    refine EWp.seqR [2] fun K hK => ?_
    simp only [ev, fx, ↓reduceIte, Nat.reduceEqDiff, Nat.reduceLT, Nat.reduceLeDiff, Nat.reduceAdd, Nat.reduceSub, Nat.reduceMul, Int.reduceLT, Int.reduceLE, Int.reduceToNat, BitVec.reduceOfInt, BitVec.reduceToNat, reduceCtorEq, and_self, decide_true, decide_false, Bool.not_true, Bool.not_false, ne_eq, not_true_eq_false, not_false_eq_true, true_and, and_true]
    repeat (refine And.intro (by omega) ?_)
    refine hK _ _ ?_; clear hK K
    exact EWp.retT (BodyE.tmp1 rfl rfl ⟨rfl, Grow.refl _⟩)
  simp only [ev, fx, ↓reduceIte, Nat.reduceEqDiff, Nat.reduceLT, Nat.reduceLeDiff, Nat.reduceAdd, Nat.reduceSub, Nat.reduceMul, Int.reduceLT, Int.reduceLE, Int.reduceToNat, BitVec.reduceOfInt, BitVec.reduceToNat, reduceCtorEq, and_self, decide_true, decide_false, Bool.not_true, Bool.not_false, ne_eq, not_true_eq_false, not_false_eq_true, true_and, and_true, h1]
  refine hK _ _ false rfl (fun h => by cases h) (fun _ => ?_); clear hK K
  refine EWp.skipThen ?_
  have hm : min n 5000 ≤ n := Nat.min_le_left _ _
  generalize hT1 : T.take (min n 5000) = T1 at *
  have hT1l : T1.length = min n 5000 := by rw [← hT1]; simp; omega
  refine EWp.seqO (fun _ => false) [(1, 0), (2, 0), (3, 0), (4, 1), (5, 0), (0, 2), (6, 2), (7, 2), (8, 0)] [0, 3] mixed (by kernel_rfl) fun K hK => ?_
  have hg := drewG w
  simp only [ev, fx, ↓reduceIte, Nat.reduceEqDiff, Nat.reduceLT, Nat.reduceLeDiff, Nat.reduceAdd, Nat.reduceSub, Nat.reduceMul, Int.reduceLT, Int.reduceLE, Int.reduceToNat, BitVec.reduceOfInt, BitVec.reduceToNat, reduceCtorEq, and_self, decide_true, decide_false, Bool.not_true, Bool.not_false, ne_eq, not_true_eq_false, not_false_eq_true, true_and, and_true, sl0]
  refine StopR.mk _ (Quiet.plain (Plain.min rfl rfl)) rfl ?_
  simp only [ev, fx, ↓reduceIte, Nat.reduceEqDiff, Nat.reduceLT, Nat.reduceLeDiff, Nat.reduceAdd, Nat.reduceSub, Nat.reduceMul, Int.reduceLT, Int.reduceLE, Int.reduceToNat, BitVec.reduceOfInt, BitVec.reduceToNat, reduceCtorEq, and_self, decide_true, decide_false, Bool.not_true, Bool.not_false, ne_eq, not_true_eq_false, not_false_eq_true, true_and, and_true, sl0]
  refine ⟨by omega, ?_⟩
  refine SemE.call fn_28 rfl rfl (beginOld _) ?_
  rintro _ w1 ⟨b1, rfl, hl1⟩
  refine ⟨_, rfl, fun _ => hl1.toGrow, ?_⟩
  have hini : Rd w1 (some ⟨b1, 0, none⟩) (five init1) := Rd.blk hl1 (k := 0) rfl 0 5
  have hg := hg.trans hl1.toGrow
  simp only [ev, fx, ↓reduceIte, Nat.reduceEqDiff, Nat.reduceLT, Nat.reduceLeDiff, Nat.reduceAdd, Nat.reduceSub, Nat.reduceMul, Int.reduceLT, Int.reduceLE, Int.reduceToNat, BitVec.reduceOfInt, BitVec.reduceToNat, reduceCtorEq, and_self, decide_true, decide_false, Bool.not_true, Bool.not_false, ne_eq, not_true_eq_false, not_false_eq_true, true_and, and_true, sl0]
  have ht1 : Txt w1 (.sl a (min n 5000) c) T1 := by rw [← hT1]; exact (htx.take _ hm).grow hg
  obtain ⟨a', c', he, hc', ha', hr'⟩ := ht1
  simp only [SV.sl.injEq] at he
  obtain ⟨rfl, _, rfl⟩ := he
  refine SemE.call fn_29 rfl rfl (padded64 a (min n 5000) c T1 _ hr' hT1l (by rw [← hT1l]; exact ha') (by omega)) ?_
  rintro _ w2 ⟨v2, B2, rfl, ho2, hl2⟩
  refine ⟨_, rfl, fun _ => hl2.toGrow, ?_⟩
  rw [padS_padB] at ho2
  have ht2 := ho2.txt (H := []) (by rw [List.append_nil]; exact hl2)
  have hini := hini.grow hl2.toGrow
  have hg := hg.trans hl2.toGrow
  clear ho2 hl2 hl1 ha' hc' hr'
  obtain ⟨a2, c2, rfl, hc2, ha2, hr2⟩ := ht2
  have hpl : (T1 ++ padB T1.length).length = min n 5000 + (padT (min n 5000) + 8) := by rw [List.length_append, padB_length, hT1l]
  have hpt := padT_pos (min n 5000)
  generalize hL : (T1 ++ padB T1.length).length = L at *
  simp only [ev, fx, ↓reduceIte, Nat.reduceEqDiff, Nat.reduceLT, Nat.reduceLeDiff, Nat.reduceAdd, Nat.reduceSub, Nat.reduceMul, Int.reduceLT, Int.reduceLE, Int.reduceToNat, BitVec.reduceOfInt, BitVec.reduceToNat, reduceCtorEq, and_self, decide_true, decide_false, Bool.not_true, Bool.not_false, ne_eq, not_true_eq_false, not_false_eq_true, true_and, and_true, sl0]
  refine SemE.call fn_16 rfl rfl (implBlock1 init1 (some ⟨b1, 0, none⟩) 5 hini a2 L c2 (T1 ++ padB T1.length) hr2 hL ha2 (by omega)) ?_
  rintro _ w3 ⟨b3, rfl, hl3⟩
  refine ⟨_, rfl, fun _ => hl3.toGrow, ?_⟩
  have hst : Rd w3 (some ⟨b3, 0, none⟩) (five (blocks init1 (T1 ++ padB T1.length))) := Rd.blk hl3 (k := 0) rfl 0 5
  have hg := hg.trans hl3.toGrow
  clear hl3 hr2 hini
  simp only [ev, fx, ↓reduceIte, Nat.reduceEqDiff, Nat.reduceLT, Nat.reduceLeDiff, Nat.reduceAdd, Nat.reduceSub, Nat.reduceMul, Int.reduceLT, Int.reduceLE, Int.reduceToNat, BitVec.reduceOfInt, BitVec.reduceToNat, reduceCtorEq, and_self, decide_true, decide_false, Bool.not_true, Bool.not_false, ne_eq, not_true_eq_false, not_false_eq_true, true_and, and_true, sl0]
  repeat (refine And.intro (by omega) ?_)
  refine hK _ _ ?_; clear hK K
  refine EWp.seqO (fun _ => false) [(0, 0), (1, 0), (2, 1), (3, 0), (4, 0), (5, 0), (6, 1), (7, 0), (8, 0), (12, 0), (9, 2), (10, 2), (11, 1), (13, 2), (14, 1), (15, 1), (16, 0), (17, 0), (18, 0)] [2] mixed (by kernel_rfl) fun K hK => ?_
  have hgd := drewG w3
  have hg := hg.trans hgd
  have hst := hst.grow hgd
  by_cases h5 : 5000 < n
  · simp only [ev, fx, ↓reduceIte, Nat.reduceEqDiff, Nat.reduceLT, Nat.reduceLeDiff, Nat.reduceAdd, Nat.reduceSub, Nat.reduceMul, Int.reduceLT, Int.reduceLE, Int.reduceToNat, BitVec.reduceOfInt, BitVec.reduceToNat, reduceCtorEq, and_self, decide_true, decide_false, Bool.not_true, Bool.not_false, ne_eq, not_true_eq_false, not_false_eq_true, true_and, and_true, h5]
    repeat (refine And.intro (by omega) ?_)
    refine hK _ _ ?_; clear hK K
    exact EWp.ret (BodyE.tmp1 rfl rfl ⟨rfl, hg⟩)
  rw [Nat.min_eq_left (by omega), ← hn, List.take_length] at hT1
  subst hT1
  have hsum : sha1B T = sumB (blocks init1 (T ++ padB T.length)) := rfl
  generalize blocks init1 (T ++ padB T.length) = s at hst hsum
  simp only [ev, fx, ↓reduceIte, Nat.reduceEqDiff, Nat.reduceLT, Nat.reduceLeDiff, Nat.reduceAdd, Nat.reduceSub, Nat.reduceMul, Int.reduceLT, Int.reduceLE, Int.reduceToNat, BitVec.reduceOfInt, BitVec.reduceToNat, reduceCtorEq, and_self, decide_true, decide_false, Bool.not_true, Bool.not_false, ne_eq, not_true_eq_false, not_false_eq_true, true_and, and_true, h5]
  refine SemE.buildSlice (vs := [.sl a n c]) (HL.start _) 23 slof_30 rfl rfl (by omega) rfl fun b w4 hb hl => ⟨fun _ => hl.toGrow, ?_⟩
  have hg4 := hl.toGrow
  have hg := hg.trans hg4
  have hx : Txs w4 (.sl (some ⟨b, 0, none⟩) 1 1) [T] := Txs.mk (RdD.one (Rd.blk hl (k := 0) rfl 0 1) (htx.grow hg)) rfl (Nat.le_refl _) (fun h => by cases h)
  have hc1 : cat [T] = T := by simp [cat]
  clear hl
  simp only [ev, fx, ↓reduceIte, Nat.reduceEqDiff, Nat.reduceLT, Nat.reduceLeDiff, Nat.reduceAdd, Nat.reduceSub, Nat.reduceMul, Int.reduceLT, Int.reduceLE, Int.reduceToNat, BitVec.reduceOfInt, BitVec.reduceToNat, reduceCtorEq, and_self, decide_true, decide_false, Bool.not_true, Bool.not_false, ne_eq, not_true_eq_false, not_false_eq_true, true_and, and_true]
  refine SemE.call fn_25 rfl rfl (hash1T _ _ _ (hx) ⟨by simp, by rw [hc1]; omega⟩) ?_
  rintro _ w2 ⟨v2, rfl, hh2, hg2⟩
  refine ⟨_, rfl, fun _ => hg2, ?_⟩
  have hg := hg.trans hg2
  rw [hc1, hsum] at hh2
  simp only [ev, fx, ↓reduceIte, Nat.reduceEqDiff, Nat.reduceLT, Nat.reduceLeDiff, Nat.reduceAdd, Nat.reduceSub, Nat.reduceMul, Int.reduceLT, Int.reduceLE, Int.reduceToNat, BitVec.reduceOfInt, BitVec.reduceToNat, reduceCtorEq, and_self, decide_true, decide_false, Bool.not_true, Bool.not_false, ne_eq, not_true_eq_false, not_false_eq_true, true_and, and_true]
  refine StopR.mk (SV.str (sumB s)) (Quiet.toStrT tostr_23_9 rfl (hh2)) rfl ?_
  simp only [ev, fx, ↓reduceIte, Nat.reduceEqDiff, Nat.reduceLT, Nat.reduceLeDiff, Nat.reduceAdd, Nat.reduceSub, Nat.reduceMul, Int.reduceLT, Int.reduceLE, Int.reduceToNat, BitVec.reduceOfInt, BitVec.reduceToNat, reduceCtorEq, and_self, decide_true, decide_false, Bool.not_true, Bool.not_false, ne_eq, not_true_eq_false, not_false_eq_true, true_and, and_true]
  refine SemE.call fn_30 rfl rfl (words32C ⟨b3, 0, none⟩ 5 5 [s.a, s.b, s.c, s.d, s.e] _ ((hst.grow hg4).grow hg2) rfl (by omega)) ?_
  rintro _ w5 ⟨v5, B5, rfl, ho5, hl5⟩
  refine ⟨_, rfl, fun _ => hl5.toGrow, ?_⟩
  have hg := hg.trans hl5.toGrow
  rw [wordsB_five, sumB_len] at ho5
  have hh5 := ho5.txt (H := []) (by rw [List.append_nil]; exact hl5)
  simp only [ev, fx, ↓reduceIte, Nat.reduceEqDiff, Nat.reduceLT, Nat.reduceLeDiff, Nat.reduceAdd, Nat.reduceSub, Nat.reduceMul, Int.reduceLT, Int.reduceLE, Int.reduceToNat, BitVec.reduceOfInt, BitVec.reduceToNat, reduceCtorEq, and_self, decide_true, decide_false, Bool.not_true, Bool.not_false, ne_eq, not_true_eq_false, not_false_eq_true, true_and, and_true]
  refine StopR.mk (SV.str (sumB s)) (Quiet.toStrT tostr_23_9 rfl (hh5)) rfl ?_
  simp only [ev, fx, ↓reduceIte, Nat.reduceEqDiff, Nat.reduceLT, Nat.reduceLeDiff, Nat.reduceAdd, Nat.reduceSub, Nat.reduceMul, Int.reduceLT, Int.reduceLE, Int.reduceToNat, BitVec.reduceOfInt, BitVec.reduceToNat, reduceCtorEq, and_self, decide_true, decide_false, Bool.not_true, Bool.not_false, ne_eq, not_true_eq_false, not_false_eq_true, true_and, and_true]
  refine StopR.mk _ (Quiet.plain (Plain.eqlStr rfl rfl)) rfl ?_
  simp only [ev, fx, ↓reduceIte, Nat.reduceEqDiff, Nat.reduceLT, Nat.reduceLeDiff, Nat.reduceAdd, Nat.reduceSub, Nat.reduceMul, Int.reduceLT, Int.reduceLE, Int.reduceToNat, BitVec.reduceOfInt, BitVec.reduceToNat, reduceCtorEq, and_self, decide_true, decide_false, Bool.not_true, Bool.not_false, ne_eq, not_true_eq_false, not_false_eq_true, true_and, and_true]
  repeat (refine And.intro (by omega) ?_)
  refine hK _ _ ?_; clear hK K
  exact EWp.ret (BodyE.tmp1 rfl rfl ⟨rfl, hg⟩)
end Go.Proofs.Ytikejalfiaindaa
