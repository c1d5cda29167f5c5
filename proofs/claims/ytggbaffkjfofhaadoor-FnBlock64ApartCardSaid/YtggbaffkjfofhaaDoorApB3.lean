/- The law on SHA-512's blocks one behind the other, walked. -/
import Derived.Test.YtggbaffkjfofhaaDoorLawB3
set_option linter.unusedVariables false
set_option linter.unusedSimpArgs false
namespace Go.Proofs.YtggbaffkjfofhaaDoor
open Go


set_option maxRecDepth 100000 in
theorem lawApart3 (ah : Option Addr) (nh ch : Nat) (hs : List Wd) (ap : Option Addr) (n c : Nat) (bs : List B8) (aq : Option Addr) (m cq : Nat) (qs : List B8) (w : World) (hko : KO w) (hh : Rd w ah (hs.map SV.u64)) (hr : Rd w ap (bs.map SV.u8))
    (hrq : Rd w aq (qs.map SV.u8)) (hnh : hs.length = nh) (hn : bs.length = n) (hm : qs.length = m) (hap : ap = none → n = 0) (haq : aq = none → m = 0) :
    Calls Tryd.prog 4 #[(SV.sl ah nh ch).val, (SV.sl ap n c).val, (SV.sl aq m cq).val] w fun e w' => e = .returned (SV.bool true).val ∧ Grow w w' := by
  refine calls_E [.sl ah nh ch, .sl ap n c, .sl aq m cq] Tryd.func4 rfl Tryd.ntmps4 rfl ?_
  refine EWp.seqR [0, 1, 2] fun K hK => ?_
  simp only [ev, fx, ↓reduceIte, Nat.reduceEqDiff, Nat.reduceLT, Nat.reduceLeDiff, Nat.reduceAdd, Nat.reduceSub, Nat.reduceMul, Int.reduceLT, Int.reduceLE, Int.reduceToNat, BitVec.reduceOfInt, BitVec.reduceToNat, reduceCtorEq, and_self, decide_true, decide_false, Bool.not_true, Bool.not_false, ne_eq, not_true_eq_false, not_false_eq_true, true_and, and_true]
  repeat (refine And.intro (by omega) ?_)
  refine hK _ _ ?_; clear hK K
  refine EWp.ifR [0, 1, 2, 20] fun K hK => ?_
  by_cases h1 : 2147483647 < nh
  · simp only [ev, fx, ↓reduceIte, Nat.reduceEqDiff, Nat.reduceLT, Nat.reduceLeDiff, Nat.reduceAdd, Nat.reduceSub, Nat.reduceMul, Int.reduceLT, Int.reduceLE, Int.reduceToNat, BitVec.reduceOfInt, BitVec.reduceToNat, reduceCtorEq, and_self, decide_true, decide_false, Bool.not_true, Bool.not_false, ne_eq, not_true_eq_false, not_false_eq_true, true_and, and_true, h1]
    refine hK _ _ true rfl (fun _ => ?_) (fun h => by cases h); clear hK K
    refine EWp.seqR [6] fun K hK => ?_
    simp only [ev, fx, ↓reduceIte, Nat.reduceEqDiff, Nat.reduceLT, Nat.reduceLeDiff, Nat.reduceAdd, Nat.reduceSub, Nat.reduceMul, Int.reduceLT, Int.reduceLE, Int.reduceToNat, BitVec.reduceOfInt, BitVec.reduceToNat, reduceCtorEq, and_self, decide_true, decide_false, Bool.not_true, Bool.not_false, ne_eq, not_true_eq_false, not_false_eq_true, true_and, and_true]
    repeat (refine And.intro (by omega) ?_)
    refine hK _ _ ?_; clear hK K
    exact EWp.retT (BodyE.tmp1 rfl rfl ⟨rfl, Grow.refl _⟩)
  by_cases h2 : 2147483647 < n
  · simp only [ev, fx, ↓reduceIte, Nat.reduceEqDiff, Nat.reduceLT, Nat.reduceLeDiff, Nat.reduceAdd, Nat.reduceSub, Nat.reduceMul, Int.reduceLT, Int.reduceLE, Int.reduceToNat, BitVec.reduceOfInt, BitVec.reduceToNat, reduceCtorEq, and_self, decide_true, decide_false, Bool.not_true, Bool.not_false, ne_eq, not_true_eq_false, not_false_eq_true, true_and, and_true, h1, h2]
    refine hK _ _ true rfl (fun _ => ?_) (fun h => by cases h); clear hK K
    refine EWp.seqR [6] fun K hK => ?_
    simp only [ev, fx, ↓reduceIte, Nat.reduceEqDiff, Nat.reduceLT, Nat.reduceLeDiff, Nat.reduceAdd, Nat.reduceSub, Nat.reduceMul, Int.reduceLT, Int.reduceLE, Int.reduceToNat, BitVec.reduceOfInt, BitVec.reduceToNat, reduceCtorEq, and_self, decide_true, decide_false, Bool.not_true, Bool.not_false, ne_eq, not_true_eq_false, not_false_eq_true, true_and, and_true]
    repeat (refine And.intro (by omega) ?_)
    refine hK _ _ ?_; clear hK K
    exact EWp.retT (BodyE.tmp1 rfl rfl ⟨rfl, Grow.refl _⟩)
  by_cases h2' : 2147483647 < m
  · simp only [ev, fx, ↓reduceIte, Nat.reduceEqDiff, Nat.reduceLT, Nat.reduceLeDiff, Nat.reduceAdd, Nat.reduceSub, Nat.reduceMul, Int.reduceLT, Int.reduceLE, Int.reduceToNat, BitVec.reduceOfInt, BitVec.reduceToNat, reduceCtorEq, and_self, decide_true, decide_false, Bool.not_true, Bool.not_false, ne_eq, not_true_eq_false, not_false_eq_true, true_and, and_true, h1, h2, h2']
    refine hK _ _ true rfl (fun _ => ?_) (fun h => by cases h); clear hK K
    refine EWp.seqR [6] fun K hK => ?_
    simp only [ev, fx, ↓reduceIte, Nat.reduceEqDiff, Nat.reduceLT, Nat.reduceLeDiff, Nat.reduceAdd, Nat.reduceSub, Nat.reduceMul, Int.reduceLT, Int.reduceLE, Int.reduceToNat, BitVec.reduceOfInt, BitVec.reduceToNat, reduceCtorEq, and_self, decide_true, decide_false, Bool.not_true, Bool.not_false, ne_eq, not_true_eq_false, not_false_eq_true, true_and, and_true]
    repeat (refine And.intro (by omega) ?_)
    refine hK _ _ ?_; clear hK K
    exact EWp.retT (BodyE.tmp1 rfl rfl ⟨rfl, Grow.refl _⟩)
  simp only [ev, fx, ↓reduceIte, Nat.reduceEqDiff, Nat.reduceLT, Nat.reduceLeDiff, Nat.reduceAdd, Nat.reduceSub, Nat.reduceMul, Int.reduceLT, Int.reduceLE, Int.reduceToNat, BitVec.reduceOfInt, BitVec.reduceToNat, reduceCtorEq, and_self, decide_true, decide_false, Bool.not_true, Bool.not_false, ne_eq, not_true_eq_false, not_false_eq_true, true_and, and_true, h1, h2, h2']
  refine hK _ _ false rfl (fun h => by cases h) (fun _ => ?_); clear hK K
  refine EWp.skipThen ?_
  refine EWp.ifR [0, 1, 2, 43] fun K hK => ?_
  by_cases h3 : nh = 8
  case neg =>
    simp only [ev, fx, ↓reduceIte, Nat.reduceEqDiff, Nat.reduceLT, Nat.reduceLeDiff, Nat.reduceAdd, Nat.reduceSub, Nat.reduceMul, Int.reduceLT, Int.reduceLE, Int.reduceToNat, BitVec.reduceOfInt, BitVec.reduceToNat, reduceCtorEq, and_self, decide_true, decide_false, Bool.not_true, Bool.not_false, ne_eq, not_true_eq_false, not_false_eq_true, true_and, and_true, h3]
    refine hK _ _ true rfl (fun _ => ?_) (fun h => by cases h); clear hK K
    refine EWp.seqR [6] fun K hK => ?_
    simp only [ev, fx, ↓reduceIte, Nat.reduceEqDiff, Nat.reduceLT, Nat.reduceLeDiff, Nat.reduceAdd, Nat.reduceSub, Nat.reduceMul, Int.reduceLT, Int.reduceLE, Int.reduceToNat, BitVec.reduceOfInt, BitVec.reduceToNat, reduceCtorEq, and_self, decide_true, decide_false, Bool.not_true, Bool.not_false, ne_eq, not_true_eq_false, not_false_eq_true, true_and, and_true]
    repeat (refine And.intro (by omega) ?_)
    refine hK _ _ ?_; clear hK K
    exact EWp.retT (BodyE.tmp1 rfl rfl ⟨rfl, Grow.refl _⟩)
  by_cases h4 : n % 128 = 0
  case neg =>
    simp only [ev, fx, ↓reduceIte, Nat.reduceEqDiff, Nat.reduceLT, Nat.reduceLeDiff, Nat.reduceAdd, Nat.reduceSub, Nat.reduceMul, Int.reduceLT, Int.reduceLE, Int.reduceToNat, BitVec.reduceOfInt, BitVec.reduceToNat, reduceCtorEq, and_self, decide_true, decide_false, Bool.not_true, Bool.not_false, ne_eq, not_true_eq_false, not_false_eq_true, true_and, and_true, h3, h4]
    refine hK _ _ true rfl (fun _ => ?_) (fun h => by cases h); clear hK K
    refine EWp.seqR [6] fun K hK => ?_
    simp only [ev, fx, ↓reduceIte, Nat.reduceEqDiff, Nat.reduceLT, Nat.reduceLeDiff, Nat.reduceAdd, Nat.reduceSub, Nat.reduceMul, Int.reduceLT, Int.reduceLE, Int.reduceToNat, BitVec.reduceOfInt, BitVec.reduceToNat, reduceCtorEq, and_self, decide_true, decide_false, Bool.not_true, Bool.not_false, ne_eq, not_true_eq_false, not_false_eq_true, true_and, and_true]
    repeat (refine And.intro (by omega) ?_)
    refine hK _ _ ?_; clear hK K
    exact EWp.retT (BodyE.tmp1 rfl rfl ⟨rfl, Grow.refl _⟩)
  by_cases h4' : m % 128 = 0
  case neg =>
    simp only [ev, fx, ↓reduceIte, Nat.reduceEqDiff, Nat.reduceLT, Nat.reduceLeDiff, Nat.reduceAdd, Nat.reduceSub, Nat.reduceMul, Int.reduceLT, Int.reduceLE, Int.reduceToNat, BitVec.reduceOfInt, BitVec.reduceToNat, reduceCtorEq, and_self, decide_true, decide_false, Bool.not_true, Bool.not_false, ne_eq, not_true_eq_false, not_false_eq_true, true_and, and_true, h3, h4, h4']
    refine hK _ _ true rfl (fun _ => ?_) (fun h => by cases h); clear hK K
    refine EWp.seqR [6] fun K hK => ?_
    simp only [ev, fx, ↓reduceIte, Nat.reduceEqDiff, Nat.reduceLT, Nat.reduceLeDiff, Nat.reduceAdd, Nat.reduceSub, Nat.reduceMul, Int.reduceLT, Int.reduceLE, Int.reduceToNat, BitVec.reduceOfInt, BitVec.reduceToNat, reduceCtorEq, and_self, decide_true, decide_false, Bool.not_true, Bool.not_false, ne_eq, not_true_eq_false, not_false_eq_true, true_and, and_true]
    repeat (refine And.intro (by omega) ?_)
    refine hK _ _ ?_; clear hK K
    exact EWp.retT (BodyE.tmp1 rfl rfl ⟨rfl, Grow.refl _⟩)
  by_cases h5 : 1280 < n + m
  · simp only [ev, fx, ↓reduceIte, Nat.reduceEqDiff, Nat.reduceLT, Nat.reduceLeDiff, Nat.reduceAdd, Nat.reduceSub, Nat.reduceMul, Int.reduceLT, Int.reduceLE, Int.reduceToNat, BitVec.reduceOfInt, BitVec.reduceToNat, reduceCtorEq, and_self, decide_true, decide_false, Bool.not_true, Bool.not_false, ne_eq, not_true_eq_false, not_false_eq_true, true_and, and_true, h3, h4, h4', h5]
    refine ⟨by omega, ?_⟩
    refine hK _ _ true rfl (fun _ => ?_) (fun h => by cases h); clear hK K
    refine EWp.seqR [6] fun K hK => ?_
    simp only [ev, fx, ↓reduceIte, Nat.reduceEqDiff, Nat.reduceLT, Nat.reduceLeDiff, Nat.reduceAdd, Nat.reduceSub, Nat.reduceMul, Int.reduceLT, Int.reduceLE, Int.reduceToNat, BitVec.reduceOfInt, BitVec.reduceToNat, reduceCtorEq, and_self, decide_true, decide_false, Bool.not_true, Bool.not_false, ne_eq, not_true_eq_false, not_false_eq_true, true_and, and_true]
    repeat (refine And.intro (by omega) ?_)
    refine hK _ _ ?_; clear hK K
    exact EWp.retT (BodyE.tmp1 rfl rfl ⟨rfl, Grow.refl _⟩)
  simp only [ev, fx, ↓reduceIte, Nat.reduceEqDiff, Nat.reduceLT, Nat.reduceLeDiff, Nat.reduceAdd, Nat.reduceSub, Nat.reduceMul, Int.reduceLT, Int.reduceLE, Int.reduceToNat, BitVec.reduceOfInt, BitVec.reduceToNat, reduceCtorEq, and_self, decide_true, decide_false, Bool.not_true, Bool.not_false, ne_eq, not_true_eq_false, not_false_eq_true, true_and, and_true, h3, h4, h4', h5]
  refine ⟨by omega, ?_⟩
  refine hK _ _ false rfl (fun h => by cases h) (fun _ => ?_); clear hK K
  refine EWp.skipThen ?_
  subst h3
  obtain ⟨s, hs5⟩ : ∃ s : S8, hs.map SV.u64 = eight s := by
    match hs, hnh with
    | [x0, x1, x2, x3, x4, x5, x6, x7], _ => exact ⟨⟨x0, x1, x2, x3, x4, x5, x6, x7⟩, rfl⟩
  rw [hs5] at hh
  obtain ⟨ph, rfl, _, _⟩ := hh 0 (.u64 s.a) rfl
  refine EWp.seqR [0, 1, 2, 7] fun K hK => ?_
  simp only [ev, fx, ↓reduceIte, Nat.reduceEqDiff, Nat.reduceLT, Nat.reduceLeDiff, Nat.reduceAdd, Nat.reduceSub, Nat.reduceMul, Int.reduceLT, Int.reduceLE, Int.reduceToNat, BitVec.reduceOfInt, BitVec.reduceToNat, reduceCtorEq, and_self, decide_true, decide_false, Bool.not_true, Bool.not_false, ne_eq, not_true_eq_false, not_false_eq_true, true_and, and_true]
  refine SemE.buildSlice (vs := []) (HL.start w) 5 slof_23 rfl rfl (by omega) rfl fun b0 w1 hb0 hl => ?_
  have ho : Own 5 1 (.sl (some ⟨b0, 0, none⟩) 0 0) 0 [] [(b0, 5, [])] := Own.full (by simp) (by unfold maxLen; omega)
  simp only [ev, fx, ↓reduceIte, Nat.reduceEqDiff, Nat.reduceLT, Nat.reduceLeDiff, Nat.reduceAdd, Nat.reduceSub, Nat.reduceMul, Int.reduceLT, Int.reduceLE, Int.reduceToNat, BitVec.reduceOfInt, BitVec.reduceToNat, reduceCtorEq, and_self, decide_true, decide_false, Bool.not_true, Bool.not_false, ne_eq, not_true_eq_false, not_false_eq_true, true_and, and_true]
  refine SemE.append (B := [(b0, 5, [])]) (H := []) hl ho slof_23 rfl rfl rfl (hr.grow hl.toGrow) (by simp [hn]) hap (isOne_u8 bs) (by omega) rfl fun v1 B1 w2 ho hl _ => ?_
  rw [Nat.zero_add, List.nil_append] at ho
  simp only [ev, fx, ↓reduceIte, Nat.reduceEqDiff, Nat.reduceLT, Nat.reduceLeDiff, Nat.reduceAdd, Nat.reduceSub, Nat.reduceMul, Int.reduceLT, Int.reduceLE, Int.reduceToNat, BitVec.reduceOfInt, BitVec.reduceToNat, reduceCtorEq, and_self, decide_true, decide_false, Bool.not_true, Bool.not_false, ne_eq, not_true_eq_false, not_false_eq_true, true_and, and_true]
  refine SemE.append (H := []) hl ho slof_23 rfl rfl rfl (hrq.grow hl.toGrow) (by simp [hm]) haq (isOne_u8 qs) (by omega) rfl fun v2 B2 w3 ho hl _ => ?_
  obtain ⟨a2, c2, rfl, hc2, ha2⟩ := ho.shape
  have hr2 : Rd w3 a2 ((bs ++ qs).map SV.u8) := by
    have := ho.rd (H := []) hl rfl
    rwa [← List.map_append] at this
  simp only [ev, fx, ↓reduceIte, Nat.reduceEqDiff, Nat.reduceLT, Nat.reduceLeDiff, Nat.reduceAdd, Nat.reduceSub, Nat.reduceMul, Int.reduceLT, Int.reduceLE, Int.reduceToNat, BitVec.reduceOfInt, BitVec.reduceToNat, reduceCtorEq, and_self, decide_true, decide_false, Bool.not_true, Bool.not_false, ne_eq, not_true_eq_false, not_false_eq_true, true_and, and_true]
  refine SemE.call fn_15 rfl rfl (implBlock3 s (some ph) ch (hko.grow hl.toGrow) (hh.grow hl.toGrow) a2 (n + m) c2 (bs ++ qs) hr2 (by simp [hn, hm]) ha2 (by omega)) ?_
  rintro _ w4 ⟨bo, rfl, hl4⟩
  refine ⟨_, rfl, ?_⟩
  have hg4 : Grow w w4 := hl.toGrow.trans hl4.toGrow
  simp only [ev, fx, ↓reduceIte, Nat.reduceEqDiff, Nat.reduceLT, Nat.reduceLeDiff, Nat.reduceAdd, Nat.reduceSub, Nat.reduceMul, Int.reduceLT, Int.reduceLE, Int.reduceToNat, BitVec.reduceOfInt, BitVec.reduceToNat, reduceCtorEq, and_self, decide_true, decide_false, Bool.not_true, Bool.not_false, ne_eq, not_true_eq_false, not_false_eq_true, true_and, and_true]
  repeat (refine And.intro (by omega) ?_)
  refine hK _ _ ?_; clear hK K
  refine EWp.seqR [6] fun K hK => ?_
  simp only [ev, fx, ↓reduceIte, Nat.reduceEqDiff, Nat.reduceLT, Nat.reduceLeDiff, Nat.reduceAdd, Nat.reduceSub, Nat.reduceMul, Int.reduceLT, Int.reduceLE, Int.reduceToNat, BitVec.reduceOfInt, BitVec.reduceToNat, reduceCtorEq, and_self, decide_true, decide_false, Bool.not_true, Bool.not_false, ne_eq, not_true_eq_false, not_false_eq_true, true_and, and_true]
  refine SemE.call fn_15 rfl rfl (implBlock3 s (some ph) ch (hko.grow hg4) (hh.grow hg4) ap n c bs (hr.grow hg4) hn hap (by omega)) ?_
  rintro _ w5 ⟨b5, rfl, hl5⟩
  refine ⟨_, rfl, ?_⟩
  have hg5 : Grow w w5 := hg4.trans hl5.toGrow
  simp only [ev, fx, ↓reduceIte, Nat.reduceEqDiff, Nat.reduceLT, Nat.reduceLeDiff, Nat.reduceAdd, Nat.reduceSub, Nat.reduceMul, Int.reduceLT, Int.reduceLE, Int.reduceToNat, BitVec.reduceOfInt, BitVec.reduceToNat, reduceCtorEq, and_self, decide_true, decide_false, Bool.not_true, Bool.not_false, ne_eq, not_true_eq_false, not_false_eq_true, true_and, and_true]
  refine SemE.call fn_15 rfl rfl (implBlock3 (blocks s bs) (some ⟨b5, 0, none⟩) 8 (hko.grow hg5) (Rd.blk hl5 (k := 0) rfl 0 8) aq m cq qs (hrq.grow hg5) hm haq (by omega)) ?_
  rintro _ w6 ⟨b6, rfl, hl6⟩
  refine ⟨_, rfl, ?_⟩
  have hg6 : Grow w w6 := hg5.trans hl6.toGrow
  have e : blocks (blocks s bs) qs = blocks s (bs ++ qs) := (blocks_append qs n s bs hn h4).symm
  rw [e] at hl6
  have hout : Rd w6 (some ⟨bo, 0, none⟩) (eight (blocks s (bs ++ qs))) := (Rd.blk hl4 (k := 0) rfl 0 8).grow (hl5.toGrow.trans hl6.toGrow)
  generalize blocks s (bs ++ qs) = t at hl6 hout
  simp only [ev, fx, ↓reduceIte, Nat.reduceEqDiff, Nat.reduceLT, Nat.reduceLeDiff, Nat.reduceAdd, Nat.reduceSub, Nat.reduceMul, Int.reduceLT, Int.reduceLE, Int.reduceToNat, BitVec.reduceOfInt, BitVec.reduceToNat, reduceCtorEq, and_self, decide_true, decide_false, Bool.not_true, Bool.not_false, ne_eq, not_true_eq_false, not_false_eq_true, true_and, and_true]
  refine SemE.call fn_14 rfl rfl (same64C ⟨bo, 0, none⟩ ⟨b6, 0, none⟩ 8 8 8 [t.a, t.b, t.c, t.d, t.e, t.f, t.g, t.h] w6 hout (Rd.blk hl6 (k := 0) rfl 0 8) rfl (by omega)) ?_
  rintro _ w7 ⟨rfl, hg7⟩
  refine ⟨_, rfl, ?_⟩
  simp only [ev, fx, ↓reduceIte, Nat.reduceEqDiff, Nat.reduceLT, Nat.reduceLeDiff, Nat.reduceAdd, Nat.reduceSub, Nat.reduceMul, Int.reduceLT, Int.reduceLE, Int.reduceToNat, BitVec.reduceOfInt, BitVec.reduceToNat, reduceCtorEq, and_self, decide_true, decide_false, Bool.not_true, Bool.not_false, ne_eq, not_true_eq_false, not_false_eq_true, true_and, and_true]
  repeat (refine And.intro (by omega) ?_)
  refine hK _ _ ?_; clear hK K
  exact EWp.ret (BodyE.tmp1 rfl rfl ⟨rfl, hg6.trans hg7⟩)
end Go.Proofs.YtggbaffkjfofhaaDoor
