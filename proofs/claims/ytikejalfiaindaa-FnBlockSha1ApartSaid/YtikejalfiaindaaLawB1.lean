/- The laws on SHA-1's blocks, walked. -/
import Derived.Test.YtikejalfiaindaaSpecB1
import Derived.Test.YtikejalfiaindaaSha1L
set_option linter.unusedVariables false
set_option linter.unusedSimpArgs false
namespace Go.Proofs.Ytikejalfiaindaa
open Go

theorem same32C (pa pb : Addr) (n ca cb : Nat) (xs : List W32) (w : World) (ha : Rd w (some pa) (xs.map SV.u32)) (hb : Rd w (some pb) (xs.map SV.u32)) (hn : xs.length = n) (hbig : n ≤ 68719476736) :
    Calls Try.prog 18 #[(SV.sl (some pa) n ca).val, (SV.sl (some pb) n cb).val] w fun e w' => e = .returned (SV.bool true).val ∧ Grow w w' := by
  refine calls_E [.sl (some pa) n ca, .sl (some pb) n cb] Try.func18 rfl Try.ntmps18 rfl ?_
  refine EWp.seqR [0, 1] fun K hK => ?_
  simp only [ev, fx, ↓reduceIte, Nat.reduceEqDiff, Nat.reduceLT, Nat.reduceLeDiff, Nat.reduceAdd, Nat.reduceSub, Nat.reduceMul, Int.reduceLT, Int.reduceLE, Int.reduceToNat, BitVec.reduceOfInt, BitVec.reduceToNat, reduceCtorEq, and_self, decide_true, decide_false, Bool.not_true, Bool.not_false, ne_eq, not_true_eq_false, not_false_eq_true, true_and, and_true]
  repeat (refine And.intro (by omega) ?_)
  refine hK _ _ ?_; clear hK K
  refine EWp.ifR [0, 1, 10] fun K hK => ?_
  simp only [ev, fx, ↓reduceIte, Nat.reduceEqDiff, Nat.reduceLT, Nat.reduceLeDiff, Nat.reduceAdd, Nat.reduceSub, Nat.reduceMul, Int.reduceLT, Int.reduceLE, Int.reduceToNat, BitVec.reduceOfInt, BitVec.reduceToNat, reduceCtorEq, and_self, decide_true, decide_false, Bool.not_true, Bool.not_false, ne_eq, not_true_eq_false, not_false_eq_true, true_and, and_true]
  refine hK _ _ false (by simp [Env.op, Env.get]) (fun h => by cases h) (fun _ => ?_); clear hK K
  refine EWp.skipThen ?_
  refine EWp.cut [] (fun S' w' => Grow w w') ?_ ?_
  case refine_2 =>
    rintro S' w' hg
    refine EWp.seqR [4] fun K hK => ?_
    simp only [ev, fx, ↓reduceIte, Nat.reduceEqDiff, Nat.reduceLT, Nat.reduceLeDiff, Nat.reduceAdd, Nat.reduceSub, Nat.reduceMul, Int.reduceLT, Int.reduceLE, Int.reduceToNat, BitVec.reduceOfInt, BitVec.reduceToNat, reduceCtorEq, and_self, decide_true, decide_false, Bool.not_true, Bool.not_false, ne_eq, not_true_eq_false, not_false_eq_true, true_and, and_true]
    repeat (refine And.intro (by omega) ?_)
    refine hK _ _ ?_; clear hK K
    exact EWp.ret (BodyE.tmp1 rfl rfl ⟨rfl, hg⟩)
  refine EWp.seqR [0, 1, 12, 13] fun K hK => ?_
  simp only [ev, fx, ↓reduceIte, Nat.reduceEqDiff, Nat.reduceLT, Nat.reduceLeDiff, Nat.reduceAdd, Nat.reduceSub, Nat.reduceMul, Int.reduceLT, Int.reduceLE, Int.reduceToNat, BitVec.reduceOfInt, BitVec.reduceToNat, reduceCtorEq, and_self, decide_true, decide_false, Bool.not_true, Bool.not_false, ne_eq, not_true_eq_false, not_false_eq_true, true_and, and_true]
  repeat (refine And.intro (by omega) ?_)
  refine hK _ _ ?_; clear hK K
  refine EWp.block ?_
  refine EWp.loop [0, 1, 12, 13] (fun k S' w' => ∃ i, i ≤ n ∧ k = n - i ∧ S' = [(0, .sl (some pa) n ca), (1, .sl (some pb) n cb), (12, .nat n), (13, .nat i)] ∧ Grow w w') n ?_ ?_
  case refine_1 => exact ⟨0, by omega, rfl, rfl, Grow.refl w⟩
  rintro k S' w' ⟨i, hi, rfl, rfl, hg⟩
  refine EWp.seqR [0, 1, 12, 13, 14] fun K hK => ?_
  simp only [ev, fx, ↓reduceIte, Nat.reduceEqDiff, Nat.reduceLT, Nat.reduceLeDiff, Nat.reduceAdd, Nat.reduceSub, Nat.reduceMul, Int.reduceLT, Int.reduceLE, Int.reduceToNat, BitVec.reduceOfInt, BitVec.reduceToNat, reduceCtorEq, and_self, decide_true, decide_false, Bool.not_true, Bool.not_false, ne_eq, not_true_eq_false, not_false_eq_true, true_and, and_true]
  repeat (refine And.intro (by omega) ?_)
  refine hK _ _ ?_; clear hK K
  refine EWp.guard (b := decide (i < n)) rfl (fun hlt => ?_) (fun hlt => ?_)
  case refine_2 =>
    simp only [BlockE, ThenE, ↓reduceIte]
    exact hg
  have hlt := of_decide_eq_true hlt
  refine EWp.cut [0, 1, 12, 13] (fun S' w' => S' = [(0, .sl (some pa) n ca), (1, .sl (some pb) n cb), (12, .nat n), (13, .nat i)] ∧ Grow w w') ?_ ?_
  case refine_2 =>
    rintro S' w' ⟨rfl, hg⟩
    refine EWp.regR [0, 1, 12, 13] fun K hK => ?_
    simp only [ev, fx, ↓reduceIte, Nat.reduceEqDiff, Nat.reduceLT, Nat.reduceLeDiff, Nat.reduceAdd, Nat.reduceSub, Nat.reduceMul, Int.reduceLT, Int.reduceLE, Int.reduceToNat, BitVec.reduceOfInt, BitVec.reduceToNat, reduceCtorEq, and_self, decide_true, decide_false, Bool.not_true, Bool.not_false, ne_eq, not_true_eq_false, not_false_eq_true, true_and, and_true]
    exact ⟨by omega, hK _ _ fun S1 h1 => ⟨n - i - 1, by omega, i + 1, by omega, by omega, h1, hg⟩⟩
  refine EWp.block ?_
  refine EWp.seqR [0, 1, 5, 12, 13] fun K hK => ?_
  simp only [ev, fx, ↓reduceIte, Nat.reduceEqDiff, Nat.reduceLT, Nat.reduceLeDiff, Nat.reduceAdd, Nat.reduceSub, Nat.reduceMul, Int.reduceLT, Int.reduceLE, Int.reduceToNat, BitVec.reduceOfInt, BitVec.reduceToNat, reduceCtorEq, and_self, decide_true, decide_false, Bool.not_true, Bool.not_false, ne_eq, not_true_eq_false, not_false_eq_true, true_and, and_true]
  repeat (refine And.intro (by omega) ?_)
  refine hK _ _ ?_; clear hK K
  refine EWp.seqO (fun _ => false) [(0, 0), (1, 0), (2, 0), (3, 1), (4, 0), (5, 0), (6, 0), (7, 1), (8, 0)] [0, 1, 12, 13, 24] mixed (by kernel_rfl) fun K hK => ?_
  have hg : Grow w w'.drew := hg.trans ⟨rfl, rfl, rfl, Nat.le_refl _, fun _ _ => rfl⟩
  have hx : (xs.map SV.u32)[i]? = some (.u32 (xs.getD i 0)) := by simp [show i < xs.length by omega]
  simp only [ev, fx, ↓reduceIte, Nat.reduceEqDiff, Nat.reduceLT, Nat.reduceLeDiff, Nat.reduceAdd, Nat.reduceSub, Nat.reduceMul, Int.reduceLT, Int.reduceLE, Int.reduceToNat, BitVec.reduceOfInt, BitVec.reduceToNat, reduceCtorEq, and_self, decide_true, decide_false, Bool.not_true, Bool.not_false, ne_eq, not_true_eq_false, not_false_eq_true, true_and, and_true]
  repeat (refine And.intro (by omega) ?_)
  refine StopR.load (.u32 (xs.getD i 0)) rfl one_50 rfl ((ha.grow hg).at hx) ?_
  simp only [ev, fx, ↓reduceIte, Nat.reduceEqDiff, Nat.reduceLT, Nat.reduceLeDiff, Nat.reduceAdd, Nat.reduceSub, Nat.reduceMul, Int.reduceLT, Int.reduceLE, Int.reduceToNat, BitVec.reduceOfInt, BitVec.reduceToNat, reduceCtorEq, and_self, decide_true, decide_false, Bool.not_true, Bool.not_false, ne_eq, not_true_eq_false, not_false_eq_true, true_and, and_true]
  repeat (refine And.intro (by omega) ?_)
  refine StopR.load (.u32 (xs.getD i 0)) rfl one_50 rfl ((hb.grow hg).at hx) ?_
  simp only [ev, fx, ↓reduceIte, Nat.reduceEqDiff, Nat.reduceLT, Nat.reduceLeDiff, Nat.reduceAdd, Nat.reduceSub, Nat.reduceMul, Int.reduceLT, Int.reduceLE, Int.reduceToNat, BitVec.reduceOfInt, BitVec.reduceToNat, reduceCtorEq, and_self, decide_true, decide_false, Bool.not_true, Bool.not_false, ne_eq, not_true_eq_false, not_false_eq_true, true_and, and_true]
  repeat (refine And.intro (by omega) ?_)
  refine hK _ _ ?_; clear hK K
  refine EWp.cond (b := false) (by simp [Env.op, Env.get]) (fun h => by cases h) (fun _ => ?_)
  refine EWp.skip ?_
  simp only [BlockE, ThenE]
  exact ⟨rfl, hg⟩

theorem slice0 (a : Option Addr) (c : Nat) : (if c = 0 then a else a.map fun x => x.add 0) = a := by
  split
  · rfl
  · cases a with
    | none => rfl
    | some p => simp [Addr.add_zero']

set_option maxRecDepth 100000 in
theorem lawBlock1 (ah : Option Addr) (nh ch : Nat) (hs : List W32) (ap : Option Addr) (n c : Nat) (bs : List B8) (w : World) (hh : Rd w ah (hs.map SV.u32)) (hr : Rd w ap (bs.map SV.u8)) (hnh : hs.length = nh) (hn : bs.length = n)
    (hnc : n ≤ c) (hap : ap = none → n = 0) :
    Calls Try.prog 3 #[(SV.sl ah nh ch).val, (SV.sl ap n c).val] w fun e w' => e = .returned (SV.bool true).val ∧ Grow w w' := by
  refine calls_E [.sl ah nh ch, .sl ap n c] Try.func3 rfl Try.ntmps3 rfl ?_
  refine EWp.seqR [0, 1] fun K hK => ?_
  simp only [ev, fx, ↓reduceIte, Nat.reduceEqDiff, Nat.reduceLT, Nat.reduceLeDiff, Nat.reduceAdd, Nat.reduceSub, Nat.reduceMul, Int.reduceLT, Int.reduceLE, Int.reduceToNat, BitVec.reduceOfInt, BitVec.reduceToNat, reduceCtorEq, and_self, decide_true, decide_false, Bool.not_true, Bool.not_false, ne_eq, not_true_eq_false, not_false_eq_true, true_and, and_true]
  repeat (refine And.intro (by omega) ?_)
  refine hK _ _ ?_; clear hK K
  refine EWp.ifR [0, 1, 13] fun K hK => ?_
  by_cases h1 : 2147483647 < nh
  · simp only [ev, fx, ↓reduceIte, Nat.reduceEqDiff, Nat.reduceLT, Nat.reduceLeDiff, Nat.reduceAdd, Nat.reduceSub, Nat.reduceMul, Int.reduceLT, Int.reduceLE, Int.reduceToNat, BitVec.reduceOfInt, BitVec.reduceToNat, reduceCtorEq, and_self, decide_true, decide_false, Bool.not_true, Bool.not_false, ne_eq, not_true_eq_false, not_false_eq_true, true_and, and_true, h1]
    refine hK _ _ true rfl (fun _ => ?_) (fun h => by cases h); clear hK K
    refine EWp.seqR [4] fun K hK => ?_
    simp only [ev, fx, ↓reduceIte, Nat.reduceEqDiff, Nat.reduceLT, Nat.reduceLeDiff, Nat.reduceAdd, Nat.reduceSub, Nat.reduceMul, Int.reduceLT, Int.reduceLE, Int.reduceToNat, BitVec.reduceOfInt, BitVec.reduceToNat, reduceCtorEq, and_self, decide_true, decide_false, Bool.not_true, Bool.not_false, ne_eq, not_true_eq_false, not_false_eq_true, true_and, and_true]
    repeat (refine And.intro (by omega) ?_)
    refine hK _ _ ?_; clear hK K
    exact EWp.retT (BodyE.tmp1 rfl rfl ⟨rfl, Grow.refl _⟩)
  by_cases h2 : 2147483647 < n
  · simp only [ev, fx, ↓reduceIte, Nat.reduceEqDiff, Nat.reduceLT, Nat.reduceLeDiff, Nat.reduceAdd, Nat.reduceSub, Nat.reduceMul, Int.reduceLT, Int.reduceLE, Int.reduceToNat, BitVec.reduceOfInt, BitVec.reduceToNat, reduceCtorEq, and_self, decide_true, decide_false, Bool.not_true, Bool.not_false, ne_eq, not_true_eq_false, not_false_eq_true, true_and, and_true, h1, h2]
    refine hK _ _ true rfl (fun _ => ?_) (fun h => by cases h); clear hK K
    refine EWp.seqR [4] fun K hK => ?_
    simp only [ev, fx, ↓reduceIte, Nat.reduceEqDiff, Nat.reduceLT, Nat.reduceLeDiff, Nat.reduceAdd, Nat.reduceSub, Nat.reduceMul, Int.reduceLT, Int.reduceLE, Int.reduceToNat, BitVec.reduceOfInt, BitVec.reduceToNat, reduceCtorEq, and_self, decide_true, decide_false, Bool.not_true, Bool.not_false, ne_eq, not_true_eq_false, not_false_eq_true, true_and, and_true]
    repeat (refine And.intro (by omega) ?_)
    refine hK _ _ ?_; clear hK K
    exact EWp.retT (BodyE.tmp1 rfl rfl ⟨rfl, Grow.refl _⟩)
  simp only [ev, fx, ↓reduceIte, Nat.reduceEqDiff, Nat.reduceLT, Nat.reduceLeDiff, Nat.reduceAdd, Nat.reduceSub, Nat.reduceMul, Int.reduceLT, Int.reduceLE, Int.reduceToNat, BitVec.reduceOfInt, BitVec.reduceToNat, reduceCtorEq, and_self, decide_true, decide_false, Bool.not_true, Bool.not_false, ne_eq, not_true_eq_false, not_false_eq_true, true_and, and_true, h1, h2]
  refine hK _ _ false rfl (fun h => by cases h) (fun _ => ?_); clear hK K
  refine EWp.skipThen ?_
  refine EWp.ifR [0, 1, 27] fun K hK => ?_
  by_cases h3 : nh = 5
  case neg =>
    simp only [ev, fx, ↓reduceIte, Nat.reduceEqDiff, Nat.reduceLT, Nat.reduceLeDiff, Nat.reduceAdd, Nat.reduceSub, Nat.reduceMul, Int.reduceLT, Int.reduceLE, Int.reduceToNat, BitVec.reduceOfInt, BitVec.reduceToNat, reduceCtorEq, and_self, decide_true, decide_false, Bool.not_true, Bool.not_false, ne_eq, not_true_eq_false, not_false_eq_true, true_and, and_true, h3]
    refine hK _ _ true rfl (fun _ => ?_) (fun h => by cases h); clear hK K
    refine EWp.seqR [4] fun K hK => ?_
    simp only [ev, fx, ↓reduceIte, Nat.reduceEqDiff, Nat.reduceLT, Nat.reduceLeDiff, Nat.reduceAdd, Nat.reduceSub, Nat.reduceMul, Int.reduceLT, Int.reduceLE, Int.reduceToNat, BitVec.reduceOfInt, BitVec.reduceToNat, reduceCtorEq, and_self, decide_true, decide_false, Bool.not_true, Bool.not_false, ne_eq, not_true_eq_false, not_false_eq_true, true_and, and_true]
    repeat (refine And.intro (by omega) ?_)
    refine hK _ _ ?_; clear hK K
    exact EWp.retT (BodyE.tmp1 rfl rfl ⟨rfl, Grow.refl _⟩)
  by_cases h4 : n % 64 = 0
  case neg =>
    simp only [ev, fx, ↓reduceIte, Nat.reduceEqDiff, Nat.reduceLT, Nat.reduceLeDiff, Nat.reduceAdd, Nat.reduceSub, Nat.reduceMul, Int.reduceLT, Int.reduceLE, Int.reduceToNat, BitVec.reduceOfInt, BitVec.reduceToNat, reduceCtorEq, and_self, decide_true, decide_false, Bool.not_true, Bool.not_false, ne_eq, not_true_eq_false, not_false_eq_true, true_and, and_true, h3, h4]
    refine hK _ _ true rfl (fun _ => ?_) (fun h => by cases h); clear hK K
    refine EWp.seqR [4] fun K hK => ?_
    simp only [ev, fx, ↓reduceIte, Nat.reduceEqDiff, Nat.reduceLT, Nat.reduceLeDiff, Nat.reduceAdd, Nat.reduceSub, Nat.reduceMul, Int.reduceLT, Int.reduceLE, Int.reduceToNat, BitVec.reduceOfInt, BitVec.reduceToNat, reduceCtorEq, and_self, decide_true, decide_false, Bool.not_true, Bool.not_false, ne_eq, not_true_eq_false, not_false_eq_true, true_and, and_true]
    repeat (refine And.intro (by omega) ?_)
    refine hK _ _ ?_; clear hK K
    exact EWp.retT (BodyE.tmp1 rfl rfl ⟨rfl, Grow.refl _⟩)
  by_cases h5 : 640 < n
  · simp only [ev, fx, ↓reduceIte, Nat.reduceEqDiff, Nat.reduceLT, Nat.reduceLeDiff, Nat.reduceAdd, Nat.reduceSub, Nat.reduceMul, Int.reduceLT, Int.reduceLE, Int.reduceToNat, BitVec.reduceOfInt, BitVec.reduceToNat, reduceCtorEq, and_self, decide_true, decide_false, Bool.not_true, Bool.not_false, ne_eq, not_true_eq_false, not_false_eq_true, true_and, and_true, h3, h4, h5]
    refine hK _ _ true rfl (fun _ => ?_) (fun h => by cases h); clear hK K
    refine EWp.seqR [4] fun K hK => ?_
    simp only [ev, fx, ↓reduceIte, Nat.reduceEqDiff, Nat.reduceLT, Nat.reduceLeDiff, Nat.reduceAdd, Nat.reduceSub, Nat.reduceMul, Int.reduceLT, Int.reduceLE, Int.reduceToNat, BitVec.reduceOfInt, BitVec.reduceToNat, reduceCtorEq, and_self, decide_true, decide_false, Bool.not_true, Bool.not_false, ne_eq, not_true_eq_false, not_false_eq_true, true_and, and_true]
    repeat (refine And.intro (by omega) ?_)
    refine hK _ _ ?_; clear hK K
    exact EWp.retT (BodyE.tmp1 rfl rfl ⟨rfl, Grow.refl _⟩)
  simp only [ev, fx, ↓reduceIte, Nat.reduceEqDiff, Nat.reduceLT, Nat.reduceLeDiff, Nat.reduceAdd, Nat.reduceSub, Nat.reduceMul, Int.reduceLT, Int.reduceLE, Int.reduceToNat, BitVec.reduceOfInt, BitVec.reduceToNat, reduceCtorEq, and_self, decide_true, decide_false, Bool.not_true, Bool.not_false, ne_eq, not_true_eq_false, not_false_eq_true, true_and, and_true, h3, h4, h5]
  refine hK _ _ false rfl (fun h => by cases h) (fun _ => ?_); clear hK K
  refine EWp.skipThen ?_
  subst h3
  obtain ⟨s, hs5⟩ : ∃ s : S5, hs.map SV.u32 = five s := by
    match hs, hnh with
    | [x0, x1, x2, x3, x4], _ => exact ⟨⟨x0, x1, x2, x3, x4⟩, rfl⟩
  rw [hs5] at hh
  obtain ⟨ph, rfl, _, _⟩ := hh 0 (.u32 s.a) rfl
  refine EWp.seqR [0, 1, 5] fun K hK => ?_
  simp only [ev, fx, ↓reduceIte, Nat.reduceEqDiff, Nat.reduceLT, Nat.reduceLeDiff, Nat.reduceAdd, Nat.reduceSub, Nat.reduceMul, Int.reduceLT, Int.reduceLE, Int.reduceToNat, BitVec.reduceOfInt, BitVec.reduceToNat, reduceCtorEq, and_self, decide_true, decide_false, Bool.not_true, Bool.not_false, ne_eq, not_true_eq_false, not_false_eq_true, true_and, and_true]
  refine SemE.call fn_16 rfl rfl (implBlock1 s (some ph) ch hh ap n c bs hr hn hap (by omega)) ?_
  rintro _ w1 ⟨bo, rfl, hl⟩
  refine ⟨_, rfl, ?_⟩
  simp only [ev, fx, ↓reduceIte, Nat.reduceEqDiff, Nat.reduceLT, Nat.reduceLeDiff, Nat.reduceAdd, Nat.reduceSub, Nat.reduceMul, Int.reduceLT, Int.reduceLE, Int.reduceToNat, BitVec.reduceOfInt, BitVec.reduceToNat, reduceCtorEq, and_self, decide_true, decide_false, Bool.not_true, Bool.not_false, ne_eq, not_true_eq_false, not_false_eq_true, true_and, and_true]
  repeat (refine And.intro (by omega) ?_)
  refine hK _ _ ?_; clear hK K
  refine EWp.cut [0, 5] (fun S' w' => ∃ pa cp, S' = [(0, .sl (some pa) 5 cp), (5, .sl (some ⟨bo, 0, none⟩) 5 5)] ∧ Rd w' (some pa) (five (blocks s bs)) ∧ HL w w' [] [(bo, 51, five (blocks s bs))]) ?_ ?_
  case refine_2 =>
    clear hl
    rintro S' w' ⟨pa, cp, rfl, hpa, hl⟩
    refine EWp.seqR [4] fun K hK => ?_
    simp only [ev, fx, ↓reduceIte, Nat.reduceEqDiff, Nat.reduceLT, Nat.reduceLeDiff, Nat.reduceAdd, Nat.reduceSub, Nat.reduceMul, Int.reduceLT, Int.reduceLE, Int.reduceToNat, BitVec.reduceOfInt, BitVec.reduceToNat, reduceCtorEq, and_self, decide_true, decide_false, Bool.not_true, Bool.not_false, ne_eq, not_true_eq_false, not_false_eq_true, true_and, and_true]
    refine SemE.call fn_18 rfl rfl (same32C ⟨bo, 0, none⟩ pa 5 5 cp [(blocks s bs).a, (blocks s bs).b, (blocks s bs).c, (blocks s bs).d, (blocks s bs).e] w' (Rd.blk hl (k := 0) rfl 0 5) hpa rfl (by omega)) ?_
    rintro _ w2 ⟨rfl, hg⟩
    refine ⟨_, rfl, ?_⟩
    simp only [ev, fx, ↓reduceIte, Nat.reduceEqDiff, Nat.reduceLT, Nat.reduceLeDiff, Nat.reduceAdd, Nat.reduceSub, Nat.reduceMul, Int.reduceLT, Int.reduceLE, Int.reduceToNat, BitVec.reduceOfInt, BitVec.reduceToNat, reduceCtorEq, and_self, decide_true, decide_false, Bool.not_true, Bool.not_false, ne_eq, not_true_eq_false, not_false_eq_true, true_and, and_true]
    repeat (refine And.intro (by omega) ?_)
    refine hK _ _ ?_; clear hK K
    exact EWp.ret (BodyE.tmp1 rfl rfl ⟨rfl, hl.toGrow.trans hg⟩)
  refine EWp.block ?_
  refine EWp.loop [0, 1, 5] (fun k S' w' => ∃ (st : S5) (bs' : List B8) (pa : Addr) (cp : Nat) (pp : Option Addr) (cq : Nat), k = bs'.length ∧ blocks st bs' = blocks s bs ∧ bs'.length % 64 = 0 ∧ bs'.length ≤ cq ∧ bs'.length ≤ n ∧
    S' = [(0, .sl (some pa) 5 cp), (1, .sl pp bs'.length cq), (5, .sl (some ⟨bo, 0, none⟩) 5 5)] ∧ Rd w' (some pa) (five st) ∧ Rd w' pp (bs'.map SV.u8) ∧ HL w w' [] [(bo, 51, five (blocks s bs))]) n ?_ ?_
  case refine_1 => exact ⟨s, bs, ph, ch, ap, c, hn.symm, rfl, by rw [hn]; exact h4, by omega, by omega, by rw [hn]; rfl, hh.grow hl.toGrow, hr.grow hl.toGrow, hl⟩
  clear hl
  rintro k S' w' ⟨st, bs', pa, cp, pp, cq, rfl, hblk, h64, hcq, hn', rfl, hpa, hpp, hl⟩
  refine EWp.headR [0, 1, 5, 33] fun K hK => ?_
  simp only [ev, fx, ↓reduceIte, Nat.reduceEqDiff, Nat.reduceLT, Nat.reduceLeDiff, Nat.reduceAdd, Nat.reduceSub, Nat.reduceMul, Int.reduceLT, Int.reduceLE, Int.reduceToNat, BitVec.reduceOfInt, BitVec.reduceToNat, reduceCtorEq, and_self, decide_true, decide_false, Bool.not_true, Bool.not_false, ne_eq, not_true_eq_false, not_false_eq_true, true_and, and_true]
  refine hK _ _ (decide (0 < bs'.length)) rfl (fun hlt => ?_) (fun hlt => ?_) <;> clear hK K
  case refine_2 =>
    have hlt := of_decide_eq_false hlt
    have hnil : bs' = [] := List.eq_nil_of_length_eq_zero (by omega)
    subst hnil
    rw [blocks_lo st (by simp)] at hblk
    subst hblk
    simp only [BlockE, ThenE, ↓reduceIte]
    exact ⟨pa, cp, rfl, hpa, hl⟩
  have hlt := of_decide_eq_true hlt
  have hge : 64 ≤ bs'.length := by omega
  obtain ⟨qp, rfl, _, _⟩ := hpp 0 (.u8 (bs'.getD 0 0)) (by simp [hlt])
  refine EWp.cut [0, 1, 5] (fun S' w' => ∃ pa cp, S' = [(0, .sl (some pa) 5 cp), (1, .sl (some qp) bs'.length cq), (5, .sl (some ⟨bo, 0, none⟩) 5 5)] ∧ Rd w' (some pa) (five (blk st bs')) ∧ Rd w' (some qp) (bs'.map SV.u8) ∧ HL w w' [] [(bo, 51, five (blocks s bs))]) ?_ ?_
  case refine_2 =>
    clear hl hpa hpp
    rintro S' w' ⟨pa, cp, rfl, hpa, hpp, hl⟩
    refine EWp.regR [0, 1, 5] fun K hK => ?_
    simp only [ev, fx, ↓reduceIte, Nat.reduceEqDiff, Nat.reduceLT, Nat.reduceLeDiff, Nat.reduceAdd, Nat.reduceSub, Nat.reduceMul, Int.reduceLT, Int.reduceLE, Int.reduceToNat, BitVec.reduceOfInt, BitVec.reduceToNat, reduceCtorEq, and_self, decide_true, decide_false, Bool.not_true, Bool.not_false, ne_eq, not_true_eq_false, not_false_eq_true, true_and, and_true]
    repeat (refine And.intro (by omega) ?_)
    refine hK _ _ fun S1 h1 => ?_; clear hK K
    simp only [ThenE]
    refine ⟨bs'.length - 64, by omega, blk st bs', bs'.drop 64, pa, cp, _, cq - 64, by simp, by rw [← blocks_hi st hge, hblk], by simp; omega, by simp; omega, by simp; omega, ?_, hpa, by rw [List.map_drop]; exact hpp.drop 64 cq (by simpa using hcq), hl⟩
    rw [h1]
    simp
  refine EWp.block ?_
  refine EWp.regR [0, 1, 5] fun K hK => ?_
  simp only [ev, fx, ↓reduceIte, Nat.reduceEqDiff, Nat.reduceLT, Nat.reduceLeDiff, Nat.reduceAdd, Nat.reduceSub, Nat.reduceMul, Int.reduceLT, Int.reduceLE, Int.reduceToNat, BitVec.reduceOfInt, BitVec.reduceToNat, reduceCtorEq, and_self, decide_true, decide_false, Bool.not_true, Bool.not_false, ne_eq, not_true_eq_false, not_false_eq_true, true_and, and_true, slice0]
  repeat (refine And.intro (by omega) ?_)
  refine SemE.call fn_17 rfl rfl (specBlock1 st pa cp qp 64 cq (bs'.take 64) w' hpa (by rw [List.map_take]; exact hpp.take 64) (by simp; omega) (by omega) (by omega)) ?_
  rintro _ w2 ⟨b2, rfl, hl2⟩
  refine ⟨_, rfl, ?_⟩
  simp only [ev, fx, ↓reduceIte, Nat.reduceEqDiff, Nat.reduceLT, Nat.reduceLeDiff, Nat.reduceAdd, Nat.reduceSub, Nat.reduceMul, Int.reduceLT, Int.reduceLE, Int.reduceToNat, BitVec.reduceOfInt, BitVec.reduceToNat, reduceCtorEq, and_self, decide_true, decide_false, Bool.not_true, Bool.not_false, ne_eq, not_true_eq_false, not_false_eq_true, true_and, and_true]
  refine hK _ _ fun S1 h1 => ?_; clear hK K
  simp only [BlockE, ThenE]
  have hg := hl2.toGrow
  refine ⟨⟨b2, 0, none⟩, 5, h1, ?_, hpp.grow hg, hl.grow hg⟩
  rw [← blk_take]
  exact Rd.blk hl2 (k := 0) rfl 0 5
end Go.Proofs.Ytikejalfiaindaa
