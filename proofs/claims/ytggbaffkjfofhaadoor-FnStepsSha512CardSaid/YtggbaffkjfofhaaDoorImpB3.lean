/- The thin package's blocks of SHA-512. -/
import Derived.Test.YtggbaffkjfofhaaDoorZZ3
set_option linter.unusedVariables false
set_option linter.unusedSimpArgs false
namespace Go.Proofs.YtggbaffkjfofhaaDoor
open Go

theorem isOne_u8 (bs : List B8) : ∀ v ∈ bs.map SV.u8, v.isOne = true := by
  intro v hv
  obtain ⟨b, _, rfl⟩ := List.mem_map.1 hv
  rfl

set_option maxRecDepth 100000 in
theorem implBlock3 {w : World} (s : S8) (ah : Option Addr) (ch : Nat) (hko : KO w) (hh : Rd w ah (eight s)) (a : Option Addr) (n c : Nat) (bs : List B8) (hr : Rd w a (bs.map SV.u8)) (hn : bs.length = n) (ha : a = none → n = 0) (hbig : n ≤ 68719476736) :
    Calls Tryd.prog 15 #[(SV.sl ah 8 ch).val, (SV.sl a n c).val] w fun e w' => ∃ b, e = .returned (SV.sl (some ⟨b, 0, none⟩) 8 8).val ∧ HL w w' [] [(b, 55, eight (blocks s bs))] := by
  obtain ⟨ph, rfl, _, _⟩ := hh 0 (.u64 s.a) rfl
  refine calls_E [.sl (some ph) 8 ch, .sl a n c] Tryd.func15 rfl Tryd.ntmps15 rfl ?_
  refine EWp.seqR [0, 1] fun K hK => ?_
  simp only [ev, fx, ↓reduceIte, Nat.reduceEqDiff, Nat.reduceLT, Nat.reduceLeDiff, Nat.reduceAdd, Nat.reduceSub, Nat.reduceMul, Int.reduceLT, Int.reduceLE, Int.reduceToNat, BitVec.reduceOfInt, BitVec.reduceToNat, reduceCtorEq, and_self, decide_true, decide_false, Bool.not_true, Bool.not_false, ne_eq, not_true_eq_false, not_false_eq_true, true_and, and_true]
  repeat (refine And.intro (by omega) ?_)
  refine hK _ _ ?_; clear hK K
  refine EWp.ifR [0, 1, 8] fun K hK => ?_
  simp only [ev, fx, ↓reduceIte, Nat.reduceEqDiff, Nat.reduceLT, Nat.reduceLeDiff, Nat.reduceAdd, Nat.reduceSub, Nat.reduceMul, Int.reduceLT, Int.reduceLE, Int.reduceToNat, BitVec.reduceOfInt, BitVec.reduceToNat, reduceCtorEq, and_self, decide_true, decide_false, Bool.not_true, Bool.not_false, ne_eq, not_true_eq_false, not_false_eq_true, true_and, and_true]
  refine hK _ _ false rfl (fun h => by cases h) (fun _ => ?_); clear hK K
  refine EWp.skipThen ?_
  refine EWp.seqT (fun i => Nat.beq i 7) (.cat [(0, 0), (1, 1), (2, 1), (3, 0)] (.two 4 (.two 5 (.cat [(6, 2), (7, 2)] .done) 6 (.cat [(5, 2), (7, 2)] .done)) 6 (.cat [(4, 2), (5, 2), (7, 2)] .done)))
    (fun S' w' => ∃ b, S'.get 5 = some (.ptr ⟨b, 0, none⟩) ∧ HL w w' [] [(b, 55, eight (blocks s bs))]) mixed (by kernel_rfl) ?_ ?_
  case refine_2 =>
    rintro S' w' ⟨b, h5, hl⟩
    refine EWp.keep [5] ?_
    have hS : S'.keep [5] = [(5, .ptr ⟨b, 0, none⟩)] := by simp only [Env.keep, h5]
    rw [hS]
    refine EWp.seqR [4] fun K hK => ?_
    simp only [ev, fx, ↓reduceIte, Nat.reduceEqDiff, Nat.reduceLT, Nat.reduceLeDiff, Nat.reduceAdd, Nat.reduceSub, Nat.reduceMul, Int.reduceLT, Int.reduceLE, Int.reduceToNat, BitVec.reduceOfInt, BitVec.reduceToNat, reduceCtorEq, and_self, decide_true, decide_false, Bool.not_true, Bool.not_false, ne_eq, not_true_eq_false, not_false_eq_true, true_and, and_true]
    repeat (refine And.intro (by omega) ?_)
    refine hK _ _ ?_; clear hK K
    exact EWp.ret (BodyE.tmp1 rfl rfl ⟨b, rfl, hl⟩)
  have hg : Grow w w.drew := ⟨rfl, rfl, rfl, Nat.le_refl _, fun _ _ => rfl⟩
  have hl := (HL.start w).drew
  simp only [ev, fx, ↓reduceIte, Nat.reduceEqDiff, Nat.reduceLT, Nat.reduceLeDiff, Nat.reduceAdd, Nat.reduceSub, Nat.reduceMul, Int.reduceLT, Int.reduceLE, Int.reduceToNat, BitVec.reduceOfInt, BitVec.reduceToNat, reduceCtorEq, and_self, decide_true, decide_false, Bool.not_true, Bool.not_false, ne_eq, not_true_eq_false, not_false_eq_true, true_and, and_true, evT]
  refine StopR.mk (.ptr ph) (Quiet.plain (Plain.toArray arrn_55 rfl (Nat.le_refl 8))) rfl ?_
  simp only [ev, fx, ↓reduceIte, Nat.reduceEqDiff, Nat.reduceLT, Nat.reduceLeDiff, Nat.reduceAdd, Nat.reduceSub, Nat.reduceMul, Int.reduceLT, Int.reduceLE, Int.reduceToNat, BitVec.reduceOfInt, BitVec.reduceToNat, reduceCtorEq, and_self, decide_true, decide_false, Bool.not_true, Bool.not_false, ne_eq, not_true_eq_false, not_false_eq_true, true_and, and_true, evT]
  refine StopR.mk (SV.agg (eight s)) (Quiet.loadA rfl agg_55 (hh.grow hg)) rfl ?_
  simp only [ev, fx, ↓reduceIte, Nat.reduceEqDiff, Nat.reduceLT, Nat.reduceLeDiff, Nat.reduceAdd, Nat.reduceSub, Nat.reduceMul, Int.reduceLT, Int.reduceLE, Int.reduceToNat, BitVec.reduceOfInt, BitVec.reduceToNat, reduceCtorEq, and_self, decide_true, decide_false, Bool.not_true, Bool.not_false, ne_eq, not_true_eq_false, not_false_eq_true, true_and, and_true, evT]
  refine ⟨?_, ?_⟩
  · refine SemE.call fn_33 rfl rfl (copiedC a n c _ _ (hr.grow hl.toGrow) (by simp [hn]) ha (isOne_u8 bs) hbig) ?_
    rintro _ w2 ⟨v, B, rfl, ho, hl2⟩
    refine ⟨_, rfl, fun _ => hl2.toGrow, ?_⟩
    have hl := hl.more hl2
    obtain ⟨a', c', rfl, hnc, ha'⟩ := ho.shape
    have hr2 := ho.rd (H := []) (by simpa using hl2) rfl
    clear hl2
    refine ⟨?_, ?_⟩
    · refine SemE.call fn_32 rfl rfl (zzBlock3 s a' n c' bs _ (hko.grow (hl.sub (List.nil_sublist _)).toGrow) hr2 hn hnc (by omega)) ?_
      rintro _ w3 ⟨rfl, hg3⟩
      refine ⟨_, rfl, fun _ => hg3, ?_⟩
      have hl := hl.grow hg3
      refine SemE.alloc (HL.start _) zero_55 rfl fun b w4 hb4 hl4 => ⟨fun _ => hl4.toGrow, ?_⟩
      have hl := hl.more hl4
      have hl : HL w _ [] [(b, 55, List.replicate 8 (.u64 0))] := hl.sub (by simp)
      simp only [ev, fx, ↓reduceIte, Nat.reduceEqDiff, Nat.reduceLT, Nat.reduceLeDiff, Nat.reduceAdd, Nat.reduceSub, Nat.reduceMul, Int.reduceLT, Int.reduceLE, Int.reduceToNat, BitVec.reduceOfInt, BitVec.reduceToNat, reduceCtorEq, and_self, decide_true, decide_false, Bool.not_true, Bool.not_false, ne_eq, not_true_eq_false, not_false_eq_true, true_and, and_true, evT]
      refine SemE.storeA (vs := eight (blocks s bs)) hl 0 rfl rfl agg_55 (by simp [eight, SV.isOne]) rfl (by simp [eight]) fun w5 hl => ⟨fun h => absurd h (by decide), ?_⟩
      simp only [ev, fx, ↓reduceIte, Nat.reduceEqDiff, Nat.reduceLT, Nat.reduceLeDiff, Nat.reduceAdd, Nat.reduceSub, Nat.reduceMul, Int.reduceLT, Int.reduceLE, Int.reduceToNat, BitVec.reduceOfInt, BitVec.reduceToNat, reduceCtorEq, and_self, decide_true, decide_false, Bool.not_true, Bool.not_false, ne_eq, not_true_eq_false, not_false_eq_true, true_and, and_true, evT]
      exact ⟨b, rfl, hl.sub (by simp [eight])⟩
    · refine SemE.alloc (HL.start _) zero_55 rfl fun b w4 hb4 hl4 => ⟨fun _ => hl4.toGrow, ?_⟩
      have hl := hl.more hl4
      have hr2 := hr2.grow hl4.toGrow
      simp only [ev, fx, ↓reduceIte, Nat.reduceEqDiff, Nat.reduceLT, Nat.reduceLeDiff, Nat.reduceAdd, Nat.reduceSub, Nat.reduceMul, Int.reduceLT, Int.reduceLE, Int.reduceToNat, BitVec.reduceOfInt, BitVec.reduceToNat, reduceCtorEq, and_self, decide_true, decide_false, Bool.not_true, Bool.not_false, ne_eq, not_true_eq_false, not_false_eq_true, true_and, and_true, evT]
      refine SemE.call fn_32 rfl rfl (zzBlock3 s a' n c' bs _ (hko.grow (hl.sub (List.nil_sublist _)).toGrow) hr2 hn hnc (by omega)) ?_
      rintro _ w3 ⟨rfl, hg3⟩
      refine ⟨_, rfl, fun _ => hg3, ?_⟩
      have hl := hl.grow hg3
      have hl : HL w _ [] [(b, 55, List.replicate 8 (.u64 0))] := hl.sub (by simp)
      simp only [ev, fx, ↓reduceIte, Nat.reduceEqDiff, Nat.reduceLT, Nat.reduceLeDiff, Nat.reduceAdd, Nat.reduceSub, Nat.reduceMul, Int.reduceLT, Int.reduceLE, Int.reduceToNat, BitVec.reduceOfInt, BitVec.reduceToNat, reduceCtorEq, and_self, decide_true, decide_false, Bool.not_true, Bool.not_false, ne_eq, not_true_eq_false, not_false_eq_true, true_and, and_true, evT]
      refine SemE.storeA (vs := eight (blocks s bs)) hl 0 rfl rfl agg_55 (by simp [eight, SV.isOne]) rfl (by simp [eight]) fun w5 hl => ⟨fun h => absurd h (by decide), ?_⟩
      simp only [ev, fx, ↓reduceIte, Nat.reduceEqDiff, Nat.reduceLT, Nat.reduceLeDiff, Nat.reduceAdd, Nat.reduceSub, Nat.reduceMul, Int.reduceLT, Int.reduceLE, Int.reduceToNat, BitVec.reduceOfInt, BitVec.reduceToNat, reduceCtorEq, and_self, decide_true, decide_false, Bool.not_true, Bool.not_false, ne_eq, not_true_eq_false, not_false_eq_true, true_and, and_true, evT]
      exact ⟨b, rfl, hl.sub (by simp [eight])⟩
  · refine SemE.alloc (HL.start _) zero_55 rfl fun b w4 hb4 hl4 => ⟨fun _ => hl4.toGrow, ?_⟩
    have hl := hl.more hl4
    simp only [ev, fx, ↓reduceIte, Nat.reduceEqDiff, Nat.reduceLT, Nat.reduceLeDiff, Nat.reduceAdd, Nat.reduceSub, Nat.reduceMul, Int.reduceLT, Int.reduceLE, Int.reduceToNat, BitVec.reduceOfInt, BitVec.reduceToNat, reduceCtorEq, and_self, decide_true, decide_false, Bool.not_true, Bool.not_false, ne_eq, not_true_eq_false, not_false_eq_true, true_and, and_true, evT]
    refine SemE.call fn_33 rfl rfl (copiedC a n c _ _ (hr.grow hl.toGrow) (by simp [hn]) ha (isOne_u8 bs) hbig) ?_
    rintro _ w2 ⟨v, B, rfl, ho, hl2⟩
    refine ⟨_, rfl, fun _ => hl2.toGrow, ?_⟩
    have hl := hl.more hl2
    obtain ⟨a', c', rfl, hnc, ha'⟩ := ho.shape
    have hr2 := ho.rd (H := []) (by simpa using hl2) rfl
    clear hl2
    simp only [ev, fx, ↓reduceIte, Nat.reduceEqDiff, Nat.reduceLT, Nat.reduceLeDiff, Nat.reduceAdd, Nat.reduceSub, Nat.reduceMul, Int.reduceLT, Int.reduceLE, Int.reduceToNat, BitVec.reduceOfInt, BitVec.reduceToNat, reduceCtorEq, and_self, decide_true, decide_false, Bool.not_true, Bool.not_false, ne_eq, not_true_eq_false, not_false_eq_true, true_and, and_true, evT]
    refine SemE.call fn_32 rfl rfl (zzBlock3 s a' n c' bs _ (hko.grow (hl.sub (List.nil_sublist _)).toGrow) hr2 hn hnc (by omega)) ?_
    rintro _ w3 ⟨rfl, hg3⟩
    refine ⟨_, rfl, fun _ => hg3, ?_⟩
    have hl := hl.grow hg3
    have hl : HL w _ [] [(b, 55, List.replicate 8 (.u64 0))] := hl.sub (by simp)
    simp only [ev, fx, ↓reduceIte, Nat.reduceEqDiff, Nat.reduceLT, Nat.reduceLeDiff, Nat.reduceAdd, Nat.reduceSub, Nat.reduceMul, Int.reduceLT, Int.reduceLE, Int.reduceToNat, BitVec.reduceOfInt, BitVec.reduceToNat, reduceCtorEq, and_self, decide_true, decide_false, Bool.not_true, Bool.not_false, ne_eq, not_true_eq_false, not_false_eq_true, true_and, and_true, evT]
    refine SemE.storeA (vs := eight (blocks s bs)) hl 0 rfl rfl agg_55 (by simp [eight, SV.isOne]) rfl (by simp [eight]) fun w5 hl => ⟨fun h => absurd h (by decide), ?_⟩
    simp only [ev, fx, ↓reduceIte, Nat.reduceEqDiff, Nat.reduceLT, Nat.reduceLeDiff, Nat.reduceAdd, Nat.reduceSub, Nat.reduceMul, Int.reduceLT, Int.reduceLE, Int.reduceToNat, BitVec.reduceOfInt, BitVec.reduceToNat, reduceCtorEq, and_self, decide_true, decide_false, Bool.not_true, Bool.not_false, ne_eq, not_true_eq_false, not_false_eq_true, true_and, and_true, evT]
    exact ⟨b, rfl, hl.sub (by simp [eight])⟩
end Go.Proofs.YtggbaffkjfofhaaDoor
