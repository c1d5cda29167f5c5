/- The law on a state of SHA-256 that is kept and goes on. -/
import Derived.Test.YtkfblgkicopjjaaDoorKl2
set_option linter.unusedVariables false
set_option linter.unusedSimpArgs false
namespace Go.Proofs.YtkfblgkicopjjaaDoor
open Go

theorem joinedO (v : SV) (tt : List (List B8)) (w : World) (h : Txs w v tt) (hf : tt.length ≤ 100 ∧ (cat tt).length ≤ 5000) : Calls Tryd.prog 19 #[v.val] w fun e w' => ∃ v' B, e = .returned v'.val ∧ Own 5 1 v' (cat tt).length ((cat tt).map SV.u8) B ∧ HL w w' [] B := by
  obtain ⟨a, c, rfl, hc, ha, hr⟩ := h
  exact joinedC a _ c tt w hr rfl hf.1 hf.2

set_option maxRecDepth 100000 in
theorem lawKept2 (ki : Bool) (v : SV) (tt : List (List B8)) (vf : SV) (mm : List (List B8)) (w : World) (hko : KO w) (ht : Txs w v tt) (hm : Txs w vf mm) :
    Calls Tryd.prog 12 #[(SV.bool ki).val, v.val, vf.val] w fun e w' => e = .returned (SV.bool true).val ∧ Grow w w' := by
  refine calls_E [.bool ki, v, vf] Tryd.func12 rfl Tryd.ntmps12 rfl ?_
  refine EWp.seqR [0, 1, 2] fun K hK => ?_
  simp only [ev, fx, ↓reduceIte, Nat.reduceEqDiff, Nat.reduceLT, Nat.reduceLeDiff, Nat.reduceAdd, Nat.reduceSub, Nat.reduceMul, Int.reduceLT, Int.reduceLE, Int.reduceToNat, BitVec.reduceOfInt, BitVec.reduceToNat, reduceCtorEq, and_self, decide_true, decide_false, Bool.not_true, Bool.not_false, ne_eq, not_true_eq_false, not_false_eq_true, true_and, and_true]
  repeat (refine And.intro (by omega) ?_)
  refine hK _ _ ?_; clear hK K
  refine EWp.ifR [0, 1, 2, 19] fun K hK => ?_
  simp only [ev, fx, ↓reduceIte, Nat.reduceEqDiff, Nat.reduceLT, Nat.reduceLeDiff, Nat.reduceAdd, Nat.reduceSub, Nat.reduceMul, Int.reduceLT, Int.reduceLE, Int.reduceToNat, BitVec.reduceOfInt, BitVec.reduceToNat, reduceCtorEq, and_self, decide_true, decide_false, Bool.not_true, Bool.not_false, ne_eq, not_true_eq_false, not_false_eq_true, true_and, and_true]
  refine SemE.call fn_17 rfl rfl (fitsT _ tt _ ht) ?_
  rintro _ _ ⟨bf, rfl, hw⟩
  rw [hw]; clear hw
  refine ⟨_, rfl, ?_⟩
  cases bf
  · simp only [ev, fx, ↓reduceIte, Nat.reduceEqDiff, Nat.reduceLT, Nat.reduceLeDiff, Nat.reduceAdd, Nat.reduceSub, Nat.reduceMul, Int.reduceLT, Int.reduceLE, Int.reduceToNat, BitVec.reduceOfInt, BitVec.reduceToNat, reduceCtorEq, and_self, decide_true, decide_false, Bool.not_true, Bool.not_false, ne_eq, not_true_eq_false, not_false_eq_true, true_and, and_true]
    refine hK _ _ true rfl (fun _ => ?_) (fun h => by cases h); clear hK K
    refine EWp.seqR [6] fun K hK => ?_
    simp only [ev, fx, ↓reduceIte, Nat.reduceEqDiff, Nat.reduceLT, Nat.reduceLeDiff, Nat.reduceAdd, Nat.reduceSub, Nat.reduceMul, Int.reduceLT, Int.reduceLE, Int.reduceToNat, BitVec.reduceOfInt, BitVec.reduceToNat, reduceCtorEq, and_self, decide_true, decide_false, Bool.not_true, Bool.not_false, ne_eq, not_true_eq_false, not_false_eq_true, true_and, and_true]
    repeat (refine And.intro (by omega) ?_)
    refine hK _ _ ?_; clear hK K
    exact EWp.retT (BodyE.tmp1 rfl rfl ⟨rfl, Grow.refl _⟩)
  simp only [ev, fx, ↓reduceIte, Nat.reduceEqDiff, Nat.reduceLT, Nat.reduceLeDiff, Nat.reduceAdd, Nat.reduceSub, Nat.reduceMul, Int.reduceLT, Int.reduceLE, Int.reduceToNat, BitVec.reduceOfInt, BitVec.reduceToNat, reduceCtorEq, and_self, decide_true, decide_false, Bool.not_true, Bool.not_false, ne_eq, not_true_eq_false, not_false_eq_true, true_and, and_true]
  refine SemE.call fn_17 rfl rfl (fitsT _ mm _ hm) ?_
  rintro _ _ ⟨bf, rfl, hw⟩
  rw [hw]; clear hw
  refine ⟨_, rfl, ?_⟩
  cases bf
  · simp only [ev, fx, ↓reduceIte, Nat.reduceEqDiff, Nat.reduceLT, Nat.reduceLeDiff, Nat.reduceAdd, Nat.reduceSub, Nat.reduceMul, Int.reduceLT, Int.reduceLE, Int.reduceToNat, BitVec.reduceOfInt, BitVec.reduceToNat, reduceCtorEq, and_self, decide_true, decide_false, Bool.not_true, Bool.not_false, ne_eq, not_true_eq_false, not_false_eq_true, true_and, and_true]
    refine hK _ _ true rfl (fun _ => ?_) (fun h => by cases h); clear hK K
    refine EWp.seqR [6] fun K hK => ?_
    simp only [ev, fx, ↓reduceIte, Nat.reduceEqDiff, Nat.reduceLT, Nat.reduceLeDiff, Nat.reduceAdd, Nat.reduceSub, Nat.reduceMul, Int.reduceLT, Int.reduceLE, Int.reduceToNat, BitVec.reduceOfInt, BitVec.reduceToNat, reduceCtorEq, and_self, decide_true, decide_false, Bool.not_true, Bool.not_false, ne_eq, not_true_eq_false, not_false_eq_true, true_and, and_true]
    repeat (refine And.intro (by omega) ?_)
    refine hK _ _ ?_; clear hK K
    exact EWp.retT (BodyE.tmp1 rfl rfl ⟨rfl, Grow.refl _⟩)
  simp only [ev, fx, ↓reduceIte, Nat.reduceEqDiff, Nat.reduceLT, Nat.reduceLeDiff, Nat.reduceAdd, Nat.reduceSub, Nat.reduceMul, Int.reduceLT, Int.reduceLE, Int.reduceToNat, BitVec.reduceOfInt, BitVec.reduceToNat, reduceCtorEq, and_self, decide_true, decide_false, Bool.not_true, Bool.not_false, ne_eq, not_true_eq_false, not_false_eq_true, true_and, and_true]
  refine hK _ _ false rfl (fun h => by cases h) (fun _ => ?_); clear hK K
  refine EWp.skipThen ?_
  refine EWp.ifR [0, 1, 2, 27] fun K hK => ?_
  simp only [ev, fx, ↓reduceIte, Nat.reduceEqDiff, Nat.reduceLT, Nat.reduceLeDiff, Nat.reduceAdd, Nat.reduceSub, Nat.reduceMul, Int.reduceLT, Int.reduceLE, Int.reduceToNat, BitVec.reduceOfInt, BitVec.reduceToNat, reduceCtorEq, and_self, decide_true, decide_false, Bool.not_true, Bool.not_false, ne_eq, not_true_eq_false, not_false_eq_true, true_and, and_true]
  refine SemE.call fn_18 rfl rfl (fewT _ tt _ ht) ?_
  rintro _ _ ⟨rfl, hw⟩
  rw [hw]; clear hw
  refine ⟨_, rfl, ?_⟩
  cases hf : fewB tt
  · simp only [ev, fx, ↓reduceIte, Nat.reduceEqDiff, Nat.reduceLT, Nat.reduceLeDiff, Nat.reduceAdd, Nat.reduceSub, Nat.reduceMul, Int.reduceLT, Int.reduceLE, Int.reduceToNat, BitVec.reduceOfInt, BitVec.reduceToNat, reduceCtorEq, and_self, decide_true, decide_false, Bool.not_true, Bool.not_false, ne_eq, not_true_eq_false, not_false_eq_true, true_and, and_true]
    refine hK _ _ true rfl (fun _ => ?_) (fun h => by cases h); clear hK K
    refine EWp.seqR [6] fun K hK => ?_
    simp only [ev, fx, ↓reduceIte, Nat.reduceEqDiff, Nat.reduceLT, Nat.reduceLeDiff, Nat.reduceAdd, Nat.reduceSub, Nat.reduceMul, Int.reduceLT, Int.reduceLE, Int.reduceToNat, BitVec.reduceOfInt, BitVec.reduceToNat, reduceCtorEq, and_self, decide_true, decide_false, Bool.not_true, Bool.not_false, ne_eq, not_true_eq_false, not_false_eq_true, true_and, and_true]
    repeat (refine And.intro (by omega) ?_)
    refine hK _ _ ?_; clear hK K
    exact EWp.retT (BodyE.tmp1 rfl rfl ⟨rfl, Grow.refl _⟩)
  simp only [ev, fx, ↓reduceIte, Nat.reduceEqDiff, Nat.reduceLT, Nat.reduceLeDiff, Nat.reduceAdd, Nat.reduceSub, Nat.reduceMul, Int.reduceLT, Int.reduceLE, Int.reduceToNat, BitVec.reduceOfInt, BitVec.reduceToNat, reduceCtorEq, and_self, decide_true, decide_false, Bool.not_true, Bool.not_false, ne_eq, not_true_eq_false, not_false_eq_true, true_and, and_true]
  refine SemE.call fn_18 rfl rfl (fewT _ mm _ hm) ?_
  rintro _ _ ⟨rfl, hw⟩
  rw [hw]; clear hw
  refine ⟨_, rfl, ?_⟩
  cases hfm : fewB mm
  · simp only [ev, fx, ↓reduceIte, Nat.reduceEqDiff, Nat.reduceLT, Nat.reduceLeDiff, Nat.reduceAdd, Nat.reduceSub, Nat.reduceMul, Int.reduceLT, Int.reduceLE, Int.reduceToNat, BitVec.reduceOfInt, BitVec.reduceToNat, reduceCtorEq, and_self, decide_true, decide_false, Bool.not_true, Bool.not_false, ne_eq, not_true_eq_false, not_false_eq_true, true_and, and_true]
    refine hK _ _ true rfl (fun _ => ?_) (fun h => by cases h); clear hK K
    refine EWp.seqR [6] fun K hK => ?_
    simp only [ev, fx, ↓reduceIte, Nat.reduceEqDiff, Nat.reduceLT, Nat.reduceLeDiff, Nat.reduceAdd, Nat.reduceSub, Nat.reduceMul, Int.reduceLT, Int.reduceLE, Int.reduceToNat, BitVec.reduceOfInt, BitVec.reduceToNat, reduceCtorEq, and_self, decide_true, decide_false, Bool.not_true, Bool.not_false, ne_eq, not_true_eq_false, not_false_eq_true, true_and, and_true]
    repeat (refine And.intro (by omega) ?_)
    refine hK _ _ ?_; clear hK K
    exact EWp.retT (BodyE.tmp1 rfl rfl ⟨rfl, Grow.refl _⟩)
  simp only [ev, fx, ↓reduceIte, Nat.reduceEqDiff, Nat.reduceLT, Nat.reduceLeDiff, Nat.reduceAdd, Nat.reduceSub, Nat.reduceMul, Int.reduceLT, Int.reduceLE, Int.reduceToNat, BitVec.reduceOfInt, BitVec.reduceToNat, reduceCtorEq, and_self, decide_true, decide_false, Bool.not_true, Bool.not_false, ne_eq, not_true_eq_false, not_false_eq_true, true_and, and_true]
  refine hK _ _ false rfl (fun h => by cases h) (fun _ => ?_); clear hK K
  refine EWp.skipThen ?_
  have hf2 : tt.length ≤ 100 ∧ (cat tt).length ≤ 5000 := of_decide_eq_true hf
  have hm2 : mm.length ≤ 100 ∧ (cat mm).length ≤ 5000 := of_decide_eq_true hfm
  refine EWp.seqR [0, 1, 2, 7] fun K hK => ?_
  simp only [ev, fx, ↓reduceIte, Nat.reduceEqDiff, Nat.reduceLT, Nat.reduceLeDiff, Nat.reduceAdd, Nat.reduceSub, Nat.reduceMul, Int.reduceLT, Int.reduceLE, Int.reduceToNat, BitVec.reduceOfInt, BitVec.reduceToNat, reduceCtorEq, and_self, decide_true, decide_false, Bool.not_true, Bool.not_false, ne_eq, not_true_eq_false, not_false_eq_true, true_and, and_true]
  repeat (refine And.intro (by omega) ?_)
  refine hK _ _ ?_; clear hK K
  refine EWp.cut [1, 2, 7] (fun S' w2 => S' = [(1, v), (2, vf), (7, .nat (kd ki))] ∧ w2 = w) ?_ ?_
  case refine_1 =>
    refine EWp.brR [1, 2, 7, 28] fun K hK => ?_
    simp only [ev, fx, ↓reduceIte, Nat.reduceEqDiff, Nat.reduceLT, Nat.reduceLeDiff, Nat.reduceAdd, Nat.reduceSub, Nat.reduceMul, Int.reduceLT, Int.reduceLE, Int.reduceToNat, BitVec.reduceOfInt, BitVec.reduceToNat, reduceCtorEq, and_self, decide_true, decide_false, Bool.not_true, Bool.not_false, ne_eq, not_true_eq_false, not_false_eq_true, true_and, and_true]
    refine hK _ _ ki rfl (fun h => ?_) (fun h => ?_) <;> clear hK K
    · subst h
      refine EWp.regR [1, 2, 7] fun K hK => ?_
      simp only [ev, fx, ↓reduceIte, Nat.reduceEqDiff, Nat.reduceLT, Nat.reduceLeDiff, Nat.reduceAdd, Nat.reduceSub, Nat.reduceMul, Int.reduceLT, Int.reduceLE, Int.reduceToNat, BitVec.reduceOfInt, BitVec.reduceToNat, reduceCtorEq, and_self, decide_true, decide_false, Bool.not_true, Bool.not_false, ne_eq, not_true_eq_false, not_false_eq_true, true_and, and_true]
      refine hK _ _ fun S1 h1 => ?_; clear hK K
      simp only [ThenE]
      exact ⟨h1, trivial⟩
    · subst h
      refine EWp.skip ?_
      simp only [ThenE]
      exact ⟨rfl, trivial⟩
  rintro S' w2 ⟨rfl, hw⟩
  rw [hw]; clear hw w2
  refine EWp.seqR [1, 2, 7, 8, 9] fun K hK => ?_
  simp only [ev, fx, ↓reduceIte, Nat.reduceEqDiff, Nat.reduceLT, Nat.reduceLeDiff, Nat.reduceAdd, Nat.reduceSub, Nat.reduceMul, Int.reduceLT, Int.reduceLE, Int.reduceToNat, BitVec.reduceOfInt, BitVec.reduceToNat, reduceCtorEq, and_self, decide_true, decide_false, Bool.not_true, Bool.not_false, ne_eq, not_true_eq_false, not_false_eq_true, true_and, and_true]
  refine SemE.call fn_22 rfl rfl (marI ki _ tt _ hko ht hf2) ?_
  rintro _ w1 ⟨vb, rfl, hb1, hg⟩
  refine ⟨_, rfl, ?_⟩
  obtain ⟨ab, cb, rfl, hcb, hab, hrb⟩ := hb1
  have hb1 : Txt w1 (.sl ab _ cb) (marB ki (cat tt)) := Txt.mk hrb rfl hcb hab
  rw [marB_len] at hb1 ⊢
  clear hcb hab hrb
  simp only [ev, fx, ↓reduceIte, Nat.reduceEqDiff, Nat.reduceLT, Nat.reduceLeDiff, Nat.reduceAdd, Nat.reduceSub, Nat.reduceMul, Int.reduceLT, Int.reduceLE, Int.reduceToNat, BitVec.reduceOfInt, BitVec.reduceToNat, reduceCtorEq, and_self, decide_true, decide_false, Bool.not_true, Bool.not_false, ne_eq, not_true_eq_false, not_false_eq_true, true_and, and_true]
  repeat (refine And.intro (by omega) ?_)
  refine hK _ _ ?_; clear hK K
  refine EWp.seqR [1, 2, 7, 8, 9, 10, 11] fun K hK => ?_
  simp only [ev, fx, ↓reduceIte, Nat.reduceEqDiff, Nat.reduceLT, Nat.reduceLeDiff, Nat.reduceAdd, Nat.reduceSub, Nat.reduceMul, Int.reduceLT, Int.reduceLE, Int.reduceToNat, BitVec.reduceOfInt, BitVec.reduceToNat, reduceCtorEq, and_self, decide_true, decide_false, Bool.not_true, Bool.not_false, ne_eq, not_true_eq_false, not_false_eq_true, true_and, and_true]
  refine SemE.call fn_31 rfl rfl (unI ki _ (cat tt) _ mm _ (hko.grow hg) (by first | exact hb1 | (rw [marB_len]; exact hb1)) (hm.grow hg) hm2 (by omega)) ?_
  rintro _ w2 ⟨vg, rfl, hg1, hg2⟩
  refine ⟨_, rfl, ?_⟩
  obtain ⟨ag, cg, rfl, hcg, hag, hrg⟩ := hg1
  have hg1 : Txt w2 (.sl ag _ cg) (hashB ki (cat tt ++ cat mm)) := Txt.mk hrg rfl hcg hag
  rw [hashB_len] at hg1 ⊢
  clear hcg hag hrg
  have hg := hg.trans hg2
  simp only [ev, fx, ↓reduceIte, Nat.reduceEqDiff, Nat.reduceLT, Nat.reduceLeDiff, Nat.reduceAdd, Nat.reduceSub, Nat.reduceMul, Int.reduceLT, Int.reduceLE, Int.reduceToNat, BitVec.reduceOfInt, BitVec.reduceToNat, reduceCtorEq, and_self, decide_true, decide_false, Bool.not_true, Bool.not_false, ne_eq, not_true_eq_false, not_false_eq_true, true_and, and_true]
  repeat (refine And.intro (by omega) ?_)
  refine hK _ _ ?_; clear hK K
  refine EWp.seqT (fun i => Nat.beq i 12) (.cat [(0, 0), (1, 0), (2, 0), (3, 0), (4, 0), (5, 0), (7, 0), (8, 0), (10, 0)] (.two 6 (.cat [(9, 2), (11, 2), (12, 2), (13, 2), (14, 1), (15, 1), (16, 0), (17, 0)] .done) 9 (.two 6 (.cat [(11, 2), (12, 2), (13, 2), (14, 1), (15, 1), (16, 0), (17, 0)] .done) 11 (.two 6 (.cat [(12, 2), (13, 2), (14, 1), (15, 1), (16, 0), (17, 0)] .done) 12 (.two 6 (.cat [(13, 2), (14, 1), (15, 1), (16, 0), (17, 0)] .done) 13 (.cat [(6, 1), (14, 1), (15, 1), (16, 0), (17, 0)] .done)))))) (fun S' w' => S'.get 6 = some (.bool true) ∧ Grow w w') mixed (by kernel_rfl) ?_ ?_
  case refine_2 =>
    rintro S' w' ⟨h1, h2⟩
    exact EWp.ret (BodyE.tmp1 rfl h1 ⟨rfl, h2⟩)
  have hgd := drewG w2
  have hg := hg.trans hgd
  have hg1 := hg1.grow hgd
  simp only [ev, fx, ↓reduceIte, Nat.reduceEqDiff, Nat.reduceLT, Nat.reduceLeDiff, Nat.reduceAdd, Nat.reduceSub, Nat.reduceMul, Int.reduceLT, Int.reduceLE, Int.reduceToNat, BitVec.reduceOfInt, BitVec.reduceToNat, reduceCtorEq, and_self, decide_true, decide_false, Bool.not_true, Bool.not_false, ne_eq, not_true_eq_false, not_false_eq_true, true_and, and_true, evT]
  have hgb := hg
  have hg1b := hg1
  refine ⟨?_, ?_⟩
  · refine SemE.toStrT tostr_23_9 rfl hg1 rfl ⟨fun _ => Grow.refl _, ?_⟩
    simp only [ev, fx, ↓reduceIte, Nat.reduceEqDiff, Nat.reduceLT, Nat.reduceLeDiff, Nat.reduceAdd, Nat.reduceSub, Nat.reduceMul, Int.reduceLT, Int.reduceLE, Int.reduceToNat, BitVec.reduceOfInt, BitVec.reduceToNat, reduceCtorEq, and_self, decide_true, decide_false, Bool.not_true, Bool.not_false, ne_eq, not_true_eq_false, not_false_eq_true, true_and, and_true, evT]
    refine SemE.call fn_19 rfl rfl (joinedO _ tt _ (ht.grow hg) hf2) ?_
    rintro _ w3 ⟨v3, B3, rfl, ho3, hl3⟩
    refine ⟨_, rfl, fun _ => hl3.toGrow, ?_⟩
    have hg := hg.trans hl3.toGrow
    have hg1 := hg1.grow hl3.toGrow
    simp only [ev, fx, ↓reduceIte, Nat.reduceEqDiff, Nat.reduceLT, Nat.reduceLeDiff, Nat.reduceAdd, Nat.reduceSub, Nat.reduceMul, Int.reduceLT, Int.reduceLE, Int.reduceToNat, BitVec.reduceOfInt, BitVec.reduceToNat, reduceCtorEq, and_self, decide_true, decide_false, Bool.not_true, Bool.not_false, ne_eq, not_true_eq_false, not_false_eq_true, true_and, and_true, evT]
    refine SemE.call fn_19 rfl rfl (joinedT _ mm _ (hm.grow hg) hm2) ?_
    rintro _ w4 ⟨v4, rfl, hh4, hg4⟩
    refine ⟨_, rfl, fun _ => hg4, ?_⟩
    have hg := hg.trans hg4
    have hg1 := hg1.grow hg4
    have hl3 := hl3.grow hg4
    obtain ⟨a4, c4, rfl, hc4, ha4, hr4⟩ := hh4
    simp only [ev, fx, ↓reduceIte, Nat.reduceEqDiff, Nat.reduceLT, Nat.reduceLeDiff, Nat.reduceAdd, Nat.reduceSub, Nat.reduceMul, Int.reduceLT, Int.reduceLE, Int.reduceToNat, BitVec.reduceOfInt, BitVec.reduceToNat, reduceCtorEq, and_self, decide_true, decide_false, Bool.not_true, Bool.not_false, ne_eq, not_true_eq_false, not_false_eq_true, true_and, and_true, evT]
    refine SemE.append (B := B3) (H := []) (by rw [List.append_nil]; exact hl3) ho3 slof_23 rfl rfl rfl hr4 (by simp) ha4 (isOneB _) (by omega) rfl fun v5 B5 w5 ho5 hl5 _ => ⟨fun h => absurd h (by decide), ?_⟩
    rw [← List.map_append, ← List.length_append] at ho5
    have hh5 := ho5.txt hl5
    rw [List.append_nil] at hl5
    have hg5 := hgb.trans hl5.toGrow
    have hg1 := hg1b.grow hl5.toGrow
    have hg := hg5
    simp only [ev, fx, ↓reduceIte, Nat.reduceEqDiff, Nat.reduceLT, Nat.reduceLeDiff, Nat.reduceAdd, Nat.reduceSub, Nat.reduceMul, Int.reduceLT, Int.reduceLE, Int.reduceToNat, BitVec.reduceOfInt, BitVec.reduceToNat, reduceCtorEq, and_self, decide_true, decide_false, Bool.not_true, Bool.not_false, ne_eq, not_true_eq_false, not_false_eq_true, true_and, and_true, evT]
    refine SemE.call fn_25 rfl rfl (specHash2 ki _ (cat tt ++ cat mm) _ hh5 (by rw [List.length_append]; omega)) ?_
    rintro _ w6 ⟨v6, rfl, hh6, hg6⟩
    refine ⟨_, rfl, fun _ => hg6, ?_⟩
    have hg := hg.trans hg6
    have hg1 := hg1.grow hg6
    simp only [ev, fx, ↓reduceIte, Nat.reduceEqDiff, Nat.reduceLT, Nat.reduceLeDiff, Nat.reduceAdd, Nat.reduceSub, Nat.reduceMul, Int.reduceLT, Int.reduceLE, Int.reduceToNat, BitVec.reduceOfInt, BitVec.reduceToNat, reduceCtorEq, and_self, decide_true, decide_false, Bool.not_true, Bool.not_false, ne_eq, not_true_eq_false, not_false_eq_true, true_and, and_true, evT]
    refine StopR.mk (SV.str (hashB ki (cat tt ++ cat mm))) (Quiet.toStrT tostr_23_9 rfl hh6) rfl ?_
    simp only [ev, fx, ↓reduceIte, Nat.reduceEqDiff, Nat.reduceLT, Nat.reduceLeDiff, Nat.reduceAdd, Nat.reduceSub, Nat.reduceMul, Int.reduceLT, Int.reduceLE, Int.reduceToNat, BitVec.reduceOfInt, BitVec.reduceToNat, reduceCtorEq, and_self, decide_true, decide_false, Bool.not_true, Bool.not_false, ne_eq, not_true_eq_false, not_false_eq_true, true_and, and_true, evT]
    refine StopR.mk (.bool true) (Quiet.plain (Plain.cast (Plain.eqlStr (xs := hashB ki (cat tt ++ cat mm)) (ys := hashB ki (cat tt ++ cat mm)) rfl rfl) (by simp))) rfl ?_
    simp only [ev, fx, ↓reduceIte, Nat.reduceEqDiff, Nat.reduceLT, Nat.reduceLeDiff, Nat.reduceAdd, Nat.reduceSub, Nat.reduceMul, Int.reduceLT, Int.reduceLE, Int.reduceToNat, BitVec.reduceOfInt, BitVec.reduceToNat, reduceCtorEq, and_self, decide_true, decide_false, Bool.not_true, Bool.not_false, ne_eq, not_true_eq_false, not_false_eq_true, true_and, and_true, evT]
    exact hg
  refine SemE.call fn_19 rfl rfl (joinedO _ tt _ (ht.grow hg) hf2) ?_
  rintro _ w3 ⟨v3, B3, rfl, ho3, hl3⟩
  refine ⟨_, rfl, fun _ => hl3.toGrow, ?_⟩
  have hg := hg.trans hl3.toGrow
  have hg1 := hg1.grow hl3.toGrow
  simp only [ev, fx, ↓reduceIte, Nat.reduceEqDiff, Nat.reduceLT, Nat.reduceLeDiff, Nat.reduceAdd, Nat.reduceSub, Nat.reduceMul, Int.reduceLT, Int.reduceLE, Int.reduceToNat, BitVec.reduceOfInt, BitVec.reduceToNat, reduceCtorEq, and_self, decide_true, decide_false, Bool.not_true, Bool.not_false, ne_eq, not_true_eq_false, not_false_eq_true, true_and, and_true, evT]
  refine ⟨?_, ?_⟩
  · refine SemE.toStrT tostr_23_9 rfl hg1 rfl ⟨fun _ => Grow.refl _, ?_⟩
    simp only [ev, fx, ↓reduceIte, Nat.reduceEqDiff, Nat.reduceLT, Nat.reduceLeDiff, Nat.reduceAdd, Nat.reduceSub, Nat.reduceMul, Int.reduceLT, Int.reduceLE, Int.reduceToNat, BitVec.reduceOfInt, BitVec.reduceToNat, reduceCtorEq, and_self, decide_true, decide_false, Bool.not_true, Bool.not_false, ne_eq, not_true_eq_false, not_false_eq_true, true_and, and_true, evT]
    refine SemE.call fn_19 rfl rfl (joinedT _ mm _ (hm.grow hg) hm2) ?_
    rintro _ w4 ⟨v4, rfl, hh4, hg4⟩
    refine ⟨_, rfl, fun _ => hg4, ?_⟩
    have hg := hg.trans hg4
    have hg1 := hg1.grow hg4
    have hl3 := hl3.grow hg4
    obtain ⟨a4, c4, rfl, hc4, ha4, hr4⟩ := hh4
    simp only [ev, fx, ↓reduceIte, Nat.reduceEqDiff, Nat.reduceLT, Nat.reduceLeDiff, Nat.reduceAdd, Nat.reduceSub, Nat.reduceMul, Int.reduceLT, Int.reduceLE, Int.reduceToNat, BitVec.reduceOfInt, BitVec.reduceToNat, reduceCtorEq, and_self, decide_true, decide_false, Bool.not_true, Bool.not_false, ne_eq, not_true_eq_false, not_false_eq_true, true_and, and_true, evT]
    refine SemE.append (B := B3) (H := []) (by rw [List.append_nil]; exact hl3) ho3 slof_23 rfl rfl rfl hr4 (by simp) ha4 (isOneB _) (by omega) rfl fun v5 B5 w5 ho5 hl5 _ => ⟨fun h => absurd h (by decide), ?_⟩
    rw [← List.map_append, ← List.length_append] at ho5
    have hh5 := ho5.txt hl5
    rw [List.append_nil] at hl5
    have hg5 := hgb.trans hl5.toGrow
    have hg1 := hg1b.grow hl5.toGrow
    have hg := hg5
    simp only [ev, fx, ↓reduceIte, Nat.reduceEqDiff, Nat.reduceLT, Nat.reduceLeDiff, Nat.reduceAdd, Nat.reduceSub, Nat.reduceMul, Int.reduceLT, Int.reduceLE, Int.reduceToNat, BitVec.reduceOfInt, BitVec.reduceToNat, reduceCtorEq, and_self, decide_true, decide_false, Bool.not_true, Bool.not_false, ne_eq, not_true_eq_false, not_false_eq_true, true_and, and_true, evT]
    refine SemE.call fn_25 rfl rfl (specHash2 ki _ (cat tt ++ cat mm) _ hh5 (by rw [List.length_append]; omega)) ?_
    rintro _ w6 ⟨v6, rfl, hh6, hg6⟩
    refine ⟨_, rfl, fun _ => hg6, ?_⟩
    have hg := hg.trans hg6
    have hg1 := hg1.grow hg6
    simp only [ev, fx, ↓reduceIte, Nat.reduceEqDiff, Nat.reduceLT, Nat.reduceLeDiff, Nat.reduceAdd, Nat.reduceSub, Nat.reduceMul, Int.reduceLT, Int.reduceLE, Int.reduceToNat, BitVec.reduceOfInt, BitVec.reduceToNat, reduceCtorEq, and_self, decide_true, decide_false, Bool.not_true, Bool.not_false, ne_eq, not_true_eq_false, not_false_eq_true, true_and, and_true, evT]
    refine StopR.mk (SV.str (hashB ki (cat tt ++ cat mm))) (Quiet.toStrT tostr_23_9 rfl hh6) rfl ?_
    simp only [ev, fx, ↓reduceIte, Nat.reduceEqDiff, Nat.reduceLT, Nat.reduceLeDiff, Nat.reduceAdd, Nat.reduceSub, Nat.reduceMul, Int.reduceLT, Int.reduceLE, Int.reduceToNat, BitVec.reduceOfInt, BitVec.reduceToNat, reduceCtorEq, and_self, decide_true, decide_false, Bool.not_true, Bool.not_false, ne_eq, not_true_eq_false, not_false_eq_true, true_and, and_true, evT]
    refine StopR.mk (.bool true) (Quiet.plain (Plain.cast (Plain.eqlStr (xs := hashB ki (cat tt ++ cat mm)) (ys := hashB ki (cat tt ++ cat mm)) rfl rfl) (by simp))) rfl ?_
    simp only [ev, fx, ↓reduceIte, Nat.reduceEqDiff, Nat.reduceLT, Nat.reduceLeDiff, Nat.reduceAdd, Nat.reduceSub, Nat.reduceMul, Int.reduceLT, Int.reduceLE, Int.reduceToNat, BitVec.reduceOfInt, BitVec.reduceToNat, reduceCtorEq, and_self, decide_true, decide_false, Bool.not_true, Bool.not_false, ne_eq, not_true_eq_false, not_false_eq_true, true_and, and_true, evT]
    exact hg
  refine SemE.call fn_19 rfl rfl (joinedT _ mm _ (hm.grow hg) hm2) ?_
  rintro _ w4 ⟨v4, rfl, hh4, hg4⟩
  refine ⟨_, rfl, fun _ => hg4, ?_⟩
  have hg := hg.trans hg4
  have hg1 := hg1.grow hg4
  have hl3 := hl3.grow hg4
  obtain ⟨a4, c4, rfl, hc4, ha4, hr4⟩ := hh4
  simp only [ev, fx, ↓reduceIte, Nat.reduceEqDiff, Nat.reduceLT, Nat.reduceLeDiff, Nat.reduceAdd, Nat.reduceSub, Nat.reduceMul, Int.reduceLT, Int.reduceLE, Int.reduceToNat, BitVec.reduceOfInt, BitVec.reduceToNat, reduceCtorEq, and_self, decide_true, decide_false, Bool.not_true, Bool.not_false, ne_eq, not_true_eq_false, not_false_eq_true, true_and, and_true, evT]
  refine ⟨?_, ?_⟩
  · refine SemE.toStrT tostr_23_9 rfl hg1 rfl ⟨fun _ => Grow.refl _, ?_⟩
    simp only [ev, fx, ↓reduceIte, Nat.reduceEqDiff, Nat.reduceLT, Nat.reduceLeDiff, Nat.reduceAdd, Nat.reduceSub, Nat.reduceMul, Int.reduceLT, Int.reduceLE, Int.reduceToNat, BitVec.reduceOfInt, BitVec.reduceToNat, reduceCtorEq, and_self, decide_true, decide_false, Bool.not_true, Bool.not_false, ne_eq, not_true_eq_false, not_false_eq_true, true_and, and_true, evT]
    refine SemE.append (B := B3) (H := []) (by rw [List.append_nil]; exact hl3) ho3 slof_23 rfl rfl rfl hr4 (by simp) ha4 (isOneB _) (by omega) rfl fun v5 B5 w5 ho5 hl5 _ => ⟨fun h => absurd h (by decide), ?_⟩
    rw [← List.map_append, ← List.length_append] at ho5
    have hh5 := ho5.txt hl5
    rw [List.append_nil] at hl5
    have hg5 := hgb.trans hl5.toGrow
    have hg1 := hg1b.grow hl5.toGrow
    have hg := hg5
    simp only [ev, fx, ↓reduceIte, Nat.reduceEqDiff, Nat.reduceLT, Nat.reduceLeDiff, Nat.reduceAdd, Nat.reduceSub, Nat.reduceMul, Int.reduceLT, Int.reduceLE, Int.reduceToNat, BitVec.reduceOfInt, BitVec.reduceToNat, reduceCtorEq, and_self, decide_true, decide_false, Bool.not_true, Bool.not_false, ne_eq, not_true_eq_false, not_false_eq_true, true_and, and_true, evT]
    refine SemE.call fn_25 rfl rfl (specHash2 ki _ (cat tt ++ cat mm) _ hh5 (by rw [List.length_append]; omega)) ?_
    rintro _ w6 ⟨v6, rfl, hh6, hg6⟩
    refine ⟨_, rfl, fun _ => hg6, ?_⟩
    have hg := hg.trans hg6
    have hg1 := hg1.grow hg6
    simp only [ev, fx, ↓reduceIte, Nat.reduceEqDiff, Nat.reduceLT, Nat.reduceLeDiff, Nat.reduceAdd, Nat.reduceSub, Nat.reduceMul, Int.reduceLT, Int.reduceLE, Int.reduceToNat, BitVec.reduceOfInt, BitVec.reduceToNat, reduceCtorEq, and_self, decide_true, decide_false, Bool.not_true, Bool.not_false, ne_eq, not_true_eq_false, not_false_eq_true, true_and, and_true, evT]
    refine StopR.mk (SV.str (hashB ki (cat tt ++ cat mm))) (Quiet.toStrT tostr_23_9 rfl hh6) rfl ?_
    simp only [ev, fx, ↓reduceIte, Nat.reduceEqDiff, Nat.reduceLT, Nat.reduceLeDiff, Nat.reduceAdd, Nat.reduceSub, Nat.reduceMul, Int.reduceLT, Int.reduceLE, Int.reduceToNat, BitVec.reduceOfInt, BitVec.reduceToNat, reduceCtorEq, and_self, decide_true, decide_false, Bool.not_true, Bool.not_false, ne_eq, not_true_eq_false, not_false_eq_true, true_and, and_true, evT]
    refine StopR.mk (.bool true) (Quiet.plain (Plain.cast (Plain.eqlStr (xs := hashB ki (cat tt ++ cat mm)) (ys := hashB ki (cat tt ++ cat mm)) rfl rfl) (by simp))) rfl ?_
    simp only [ev, fx, ↓reduceIte, Nat.reduceEqDiff, Nat.reduceLT, Nat.reduceLeDiff, Nat.reduceAdd, Nat.reduceSub, Nat.reduceMul, Int.reduceLT, Int.reduceLE, Int.reduceToNat, BitVec.reduceOfInt, BitVec.reduceToNat, reduceCtorEq, and_self, decide_true, decide_false, Bool.not_true, Bool.not_false, ne_eq, not_true_eq_false, not_false_eq_true, true_and, and_true, evT]
    exact hg
  refine SemE.append (B := B3) (H := []) (by rw [List.append_nil]; exact hl3) ho3 slof_23 rfl rfl rfl hr4 (by simp) ha4 (isOneB _) (by omega) rfl fun v5 B5 w5 ho5 hl5 _ => ⟨fun h => absurd h (by decide), ?_⟩
  rw [← List.map_append, ← List.length_append] at ho5
  have hh5 := ho5.txt hl5
  rw [List.append_nil] at hl5
  have hg5 := hgb.trans hl5.toGrow
  have hg1 := hg1b.grow hl5.toGrow
  have hg := hg5
  simp only [ev, fx, ↓reduceIte, Nat.reduceEqDiff, Nat.reduceLT, Nat.reduceLeDiff, Nat.reduceAdd, Nat.reduceSub, Nat.reduceMul, Int.reduceLT, Int.reduceLE, Int.reduceToNat, BitVec.reduceOfInt, BitVec.reduceToNat, reduceCtorEq, and_self, decide_true, decide_false, Bool.not_true, Bool.not_false, ne_eq, not_true_eq_false, not_false_eq_true, true_and, and_true, evT]
  refine ⟨?_, ?_⟩
  · refine SemE.toStrT tostr_23_9 rfl hg1 rfl ⟨fun _ => Grow.refl _, ?_⟩
    simp only [ev, fx, ↓reduceIte, Nat.reduceEqDiff, Nat.reduceLT, Nat.reduceLeDiff, Nat.reduceAdd, Nat.reduceSub, Nat.reduceMul, Int.reduceLT, Int.reduceLE, Int.reduceToNat, BitVec.reduceOfInt, BitVec.reduceToNat, reduceCtorEq, and_self, decide_true, decide_false, Bool.not_true, Bool.not_false, ne_eq, not_true_eq_false, not_false_eq_true, true_and, and_true, evT]
    refine SemE.call fn_25 rfl rfl (specHash2 ki _ (cat tt ++ cat mm) _ hh5 (by rw [List.length_append]; omega)) ?_
    rintro _ w6 ⟨v6, rfl, hh6, hg6⟩
    refine ⟨_, rfl, fun _ => hg6, ?_⟩
    have hg := hg.trans hg6
    have hg1 := hg1.grow hg6
    simp only [ev, fx, ↓reduceIte, Nat.reduceEqDiff, Nat.reduceLT, Nat.reduceLeDiff, Nat.reduceAdd, Nat.reduceSub, Nat.reduceMul, Int.reduceLT, Int.reduceLE, Int.reduceToNat, BitVec.reduceOfInt, BitVec.reduceToNat, reduceCtorEq, and_self, decide_true, decide_false, Bool.not_true, Bool.not_false, ne_eq, not_true_eq_false, not_false_eq_true, true_and, and_true, evT]
    refine StopR.mk (SV.str (hashB ki (cat tt ++ cat mm))) (Quiet.toStrT tostr_23_9 rfl hh6) rfl ?_
    simp only [ev, fx, ↓reduceIte, Nat.reduceEqDiff, Nat.reduceLT, Nat.reduceLeDiff, Nat.reduceAdd, Nat.reduceSub, Nat.reduceMul, Int.reduceLT, Int.reduceLE, Int.reduceToNat, BitVec.reduceOfInt, BitVec.reduceToNat, reduceCtorEq, and_self, decide_true, decide_false, Bool.not_true, Bool.not_false, ne_eq, not_true_eq_false, not_false_eq_true, true_and, and_true, evT]
    refine StopR.mk (.bool true) (Quiet.plain (Plain.cast (Plain.eqlStr (xs := hashB ki (cat tt ++ cat mm)) (ys := hashB ki (cat tt ++ cat mm)) rfl rfl) (by simp))) rfl ?_
    simp only [ev, fx, ↓reduceIte, Nat.reduceEqDiff, Nat.reduceLT, Nat.reduceLeDiff, Nat.reduceAdd, Nat.reduceSub, Nat.reduceMul, Int.reduceLT, Int.reduceLE, Int.reduceToNat, BitVec.reduceOfInt, BitVec.reduceToNat, reduceCtorEq, and_self, decide_true, decide_false, Bool.not_true, Bool.not_false, ne_eq, not_true_eq_false, not_false_eq_true, true_and, and_true, evT]
    exact hg
  refine SemE.call fn_25 rfl rfl (specHash2 ki _ (cat tt ++ cat mm) _ hh5 (by rw [List.length_append]; omega)) ?_
  rintro _ w6 ⟨v6, rfl, hh6, hg6⟩
  refine ⟨_, rfl, fun _ => hg6, ?_⟩
  have hg := hg.trans hg6
  have hg1 := hg1.grow hg6
  simp only [ev, fx, ↓reduceIte, Nat.reduceEqDiff, Nat.reduceLT, Nat.reduceLeDiff, Nat.reduceAdd, Nat.reduceSub, Nat.reduceMul, Int.reduceLT, Int.reduceLE, Int.reduceToNat, BitVec.reduceOfInt, BitVec.reduceToNat, reduceCtorEq, and_self, decide_true, decide_false, Bool.not_true, Bool.not_false, ne_eq, not_true_eq_false, not_false_eq_true, true_and, and_true, evT]
  refine StopR.mk (SV.str (hashB ki (cat tt ++ cat mm))) (Quiet.toStrT tostr_23_9 rfl hg1) rfl ?_
  simp only [ev, fx, ↓reduceIte, Nat.reduceEqDiff, Nat.reduceLT, Nat.reduceLeDiff, Nat.reduceAdd, Nat.reduceSub, Nat.reduceMul, Int.reduceLT, Int.reduceLE, Int.reduceToNat, BitVec.reduceOfInt, BitVec.reduceToNat, reduceCtorEq, and_self, decide_true, decide_false, Bool.not_true, Bool.not_false, ne_eq, not_true_eq_false, not_false_eq_true, true_and, and_true, evT]
  refine StopR.mk (SV.str (hashB ki (cat tt ++ cat mm))) (Quiet.toStrT tostr_23_9 rfl hh6) rfl ?_
  simp only [ev, fx, ↓reduceIte, Nat.reduceEqDiff, Nat.reduceLT, Nat.reduceLeDiff, Nat.reduceAdd, Nat.reduceSub, Nat.reduceMul, Int.reduceLT, Int.reduceLE, Int.reduceToNat, BitVec.reduceOfInt, BitVec.reduceToNat, reduceCtorEq, and_self, decide_true, decide_false, Bool.not_true, Bool.not_false, ne_eq, not_true_eq_false, not_false_eq_true, true_and, and_true, evT]
  refine StopR.mk (.bool true) (Quiet.plain (Plain.cast (Plain.eqlStr (xs := hashB ki (cat tt ++ cat mm)) (ys := hashB ki (cat tt ++ cat mm)) rfl rfl) (by simp))) rfl ?_
  simp only [ev, fx, ↓reduceIte, Nat.reduceEqDiff, Nat.reduceLT, Nat.reduceLeDiff, Nat.reduceAdd, Nat.reduceSub, Nat.reduceMul, Int.reduceLT, Int.reduceLE, Int.reduceToNat, BitVec.reduceOfInt, BitVec.reduceToNat, reduceCtorEq, and_self, decide_true, decide_false, Bool.not_true, Bool.not_false, ne_eq, not_true_eq_false, not_false_eq_true, true_and, and_true, evT]
  exact hg
end Go.Proofs.YtkfblgkicopjjaaDoor
