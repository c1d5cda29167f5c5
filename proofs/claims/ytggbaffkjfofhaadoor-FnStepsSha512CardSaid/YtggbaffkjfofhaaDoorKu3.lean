/- A digest of SHA-512, made again out of kept bytes. -/
import Derived.Test.YtggbaffkjfofhaaDoorKp3
set_option linter.unusedVariables false
set_option linter.unusedSimpArgs false
namespace Go.Proofs.YtggbaffkjfofhaaDoor
open Go

/-- The word that 8 bytes name. -/
def dec8 (b0 b1 b2 b3 b4 b5 b6 b7 : B8) : BitVec 64 := (((((((b7.setWidth 64 ||| b6.setWidth 64 <<< 8) ||| b5.setWidth 64 <<< 16) ||| b4.setWidth 64 <<< 24) ||| b3.setWidth 64 <<< 32) ||| b2.setWidth 64 <<< 40) ||| b1.setWidth 64 <<< 48) ||| b0.setWidth 64 <<< 56)

set_option maxRecDepth 100000 in
theorem beGet64 (p : Addr) (m c : Nat) (b0 b1 b2 b3 b4 b5 b6 b7 : B8) (q : List B8) (w : World) (hr : Rd w (some p) ((b0 :: b1 :: b2 :: b3 :: b4 :: b5 :: b6 :: b7 :: q).map SV.u8)) (hm : 8 ≤ m) :
    Calls Tryd.prog 58 #[(SV.sl (some p) m c).val] w fun e w' => e = .returned (SV.u64 (dec8 b0 b1 b2 b3 b4 b5 b6 b7)).val ∧ Grow w w' := by
  refine calls_E [.sl (some p) m c] Tryd.func58 rfl Tryd.ntmps58 rfl ?_
  refine EWp.seqR [0] fun K hK => ?_
  simp only [ev, fx, ↓reduceIte, Nat.reduceEqDiff, Nat.reduceLT, Nat.reduceLeDiff, Nat.reduceAdd, Nat.reduceSub, Nat.reduceMul, Int.reduceLT, Int.reduceLE, Int.reduceToNat, BitVec.reduceOfInt, BitVec.reduceToNat, reduceCtorEq, and_self, decide_true, decide_false, Bool.not_true, Bool.not_false, ne_eq, not_true_eq_false, not_false_eq_true, true_and, and_true]
  repeat (refine And.intro (by omega) ?_)
  refine hK _ _ ?_; clear hK K
  refine EWp.seqR [0] fun K hK => ?_
  simp only [ev, fx, ↓reduceIte, Nat.reduceEqDiff, Nat.reduceLT, Nat.reduceLeDiff, Nat.reduceAdd, Nat.reduceSub, Nat.reduceMul, Int.reduceLT, Int.reduceLE, Int.reduceToNat, BitVec.reduceOfInt, BitVec.reduceToNat, reduceCtorEq, and_self, decide_true, decide_false, Bool.not_true, Bool.not_false, ne_eq, not_true_eq_false, not_false_eq_true, true_and, and_true]
  repeat (refine And.intro (by omega) ?_)
  refine SemE.load (.u8 b7) rfl one_5 rfl (hr.at (j := 7) rfl) ?_
  simp only [ev, fx, ↓reduceIte, Nat.reduceEqDiff, Nat.reduceLT, Nat.reduceLeDiff, Nat.reduceAdd, Nat.reduceSub, Nat.reduceMul, Int.reduceLT, Int.reduceLE, Int.reduceToNat, BitVec.reduceOfInt, BitVec.reduceToNat, reduceCtorEq, and_self, decide_true, decide_false, Bool.not_true, Bool.not_false, ne_eq, not_true_eq_false, not_false_eq_true, true_and, and_true]
  repeat (refine And.intro (by omega) ?_)
  refine hK _ _ ?_; clear hK K
  refine EWp.seqO (fun _ => false) [(0, 0), (1, 0), (2, 1), (3, 0), (4, 0), (5, 0), (6, 1), (7, 0), (8, 0), (9, 0), (10, 0), (11, 0), (12, 1), (13, 0), (14, 0), (15, 0), (16, 0), (17, 0), (18, 1), (19, 0), (20, 0), (21, 0), (22, 0), (23, 0), (24, 1), (25, 0), (26, 0), (27, 0), (28, 0), (29, 0), (30, 1), (31, 0), (32, 0), (33, 0), (34, 0), (35, 0), (36, 1), (37, 0), (38, 0), (39, 0), (40, 0), (41, 0), (42, 1), (43, 0), (44, 0), (45, 0), (46, 0)] [2] mixed (by kernel_rfl) fun K hK => ?_
  have hg : Grow w w.drew := ⟨rfl, rfl, rfl, Nat.le_refl _, fun _ _ => rfl⟩
  have hr := hr.grow hg
  simp only [ev, fx, ↓reduceIte, Nat.reduceEqDiff, Nat.reduceLT, Nat.reduceLeDiff, Nat.reduceAdd, Nat.reduceSub, Nat.reduceMul, Int.reduceLT, Int.reduceLE, Int.reduceToNat, BitVec.reduceOfInt, BitVec.reduceToNat, reduceCtorEq, and_self, decide_true, decide_false, Bool.not_true, Bool.not_false, ne_eq, not_true_eq_false, not_false_eq_true, true_and, and_true]
  repeat (refine And.intro (by omega) ?_)
  refine StopR.load (.u8 b7) rfl one_5 rfl (hr.at (j := 7) rfl) ?_
  simp only [ev, fx, ↓reduceIte, Nat.reduceEqDiff, Nat.reduceLT, Nat.reduceLeDiff, Nat.reduceAdd, Nat.reduceSub, Nat.reduceMul, Int.reduceLT, Int.reduceLE, Int.reduceToNat, BitVec.reduceOfInt, BitVec.reduceToNat, reduceCtorEq, and_self, decide_true, decide_false, Bool.not_true, Bool.not_false, ne_eq, not_true_eq_false, not_false_eq_true, true_and, and_true]
  repeat (refine And.intro (by omega) ?_)
  refine StopR.load (.u8 b6) rfl one_5 rfl (hr.at (j := 6) rfl) ?_
  simp only [ev, fx, ↓reduceIte, Nat.reduceEqDiff, Nat.reduceLT, Nat.reduceLeDiff, Nat.reduceAdd, Nat.reduceSub, Nat.reduceMul, Int.reduceLT, Int.reduceLE, Int.reduceToNat, BitVec.reduceOfInt, BitVec.reduceToNat, reduceCtorEq, and_self, decide_true, decide_false, Bool.not_true, Bool.not_false, ne_eq, not_true_eq_false, not_false_eq_true, true_and, and_true]
  repeat (refine And.intro (by omega) ?_)
  refine StopR.load (.u8 b5) rfl one_5 rfl (hr.at (j := 5) rfl) ?_
  simp only [ev, fx, ↓reduceIte, Nat.reduceEqDiff, Nat.reduceLT, Nat.reduceLeDiff, Nat.reduceAdd, Nat.reduceSub, Nat.reduceMul, Int.reduceLT, Int.reduceLE, Int.reduceToNat, BitVec.reduceOfInt, BitVec.reduceToNat, reduceCtorEq, and_self, decide_true, decide_false, Bool.not_true, Bool.not_false, ne_eq, not_true_eq_false, not_false_eq_true, true_and, and_true]
  repeat (refine And.intro (by omega) ?_)
  refine StopR.load (.u8 b4) rfl one_5 rfl (hr.at (j := 4) rfl) ?_
  simp only [ev, fx, ↓reduceIte, Nat.reduceEqDiff, Nat.reduceLT, Nat.reduceLeDiff, Nat.reduceAdd, Nat.reduceSub, Nat.reduceMul, Int.reduceLT, Int.reduceLE, Int.reduceToNat, BitVec.reduceOfInt, BitVec.reduceToNat, reduceCtorEq, and_self, decide_true, decide_false, Bool.not_true, Bool.not_false, ne_eq, not_true_eq_false, not_false_eq_true, true_and, and_true]
  repeat (refine And.intro (by omega) ?_)
  refine StopR.load (.u8 b3) rfl one_5 rfl (hr.at (j := 3) rfl) ?_
  simp only [ev, fx, ↓reduceIte, Nat.reduceEqDiff, Nat.reduceLT, Nat.reduceLeDiff, Nat.reduceAdd, Nat.reduceSub, Nat.reduceMul, Int.reduceLT, Int.reduceLE, Int.reduceToNat, BitVec.reduceOfInt, BitVec.reduceToNat, reduceCtorEq, and_self, decide_true, decide_false, Bool.not_true, Bool.not_false, ne_eq, not_true_eq_false, not_false_eq_true, true_and, and_true]
  repeat (refine And.intro (by omega) ?_)
  refine StopR.load (.u8 b2) rfl one_5 rfl (hr.at (j := 2) rfl) ?_
  simp only [ev, fx, ↓reduceIte, Nat.reduceEqDiff, Nat.reduceLT, Nat.reduceLeDiff, Nat.reduceAdd, Nat.reduceSub, Nat.reduceMul, Int.reduceLT, Int.reduceLE, Int.reduceToNat, BitVec.reduceOfInt, BitVec.reduceToNat, reduceCtorEq, and_self, decide_true, decide_false, Bool.not_true, Bool.not_false, ne_eq, not_true_eq_false, not_false_eq_true, true_and, and_true]
  repeat (refine And.intro (by omega) ?_)
  refine StopR.load (.u8 b1) rfl one_5 rfl (hr.at (j := 1) rfl) ?_
  simp only [ev, fx, ↓reduceIte, Nat.reduceEqDiff, Nat.reduceLT, Nat.reduceLeDiff, Nat.reduceAdd, Nat.reduceSub, Nat.reduceMul, Int.reduceLT, Int.reduceLE, Int.reduceToNat, BitVec.reduceOfInt, BitVec.reduceToNat, reduceCtorEq, and_self, decide_true, decide_false, Bool.not_true, Bool.not_false, ne_eq, not_true_eq_false, not_false_eq_true, true_and, and_true]
  repeat (refine And.intro (by omega) ?_)
  refine StopR.load (.u8 b0) rfl one_5 rfl (hr.at (j := 0) rfl) ?_
  simp only [ev, fx, ↓reduceIte, Nat.reduceEqDiff, Nat.reduceLT, Nat.reduceLeDiff, Nat.reduceAdd, Nat.reduceSub, Nat.reduceMul, Int.reduceLT, Int.reduceLE, Int.reduceToNat, BitVec.reduceOfInt, BitVec.reduceToNat, reduceCtorEq, and_self, decide_true, decide_false, Bool.not_true, Bool.not_false, ne_eq, not_true_eq_false, not_false_eq_true, true_and, and_true]
  repeat (refine And.intro (by omega) ?_)
  refine hK _ _ ?_; clear hK K
  exact EWp.ret (BodyE.tmp1 rfl rfl ⟨rfl, hg⟩)

theorem dec8_be (v : BitVec 64) : dec8 (be8 v 0) (be8 v 1) (be8 v 2) (be8 v 3) (be8 v 4) (be8 v 5) (be8 v 6) (be8 v 7) = v := by
  apply BitVec.eq_of_getLsbD_eq
  intro i hi
  simp only [dec8, be8, BitVec.getLsbD_or, BitVec.getLsbD_shiftLeft, BitVec.getLsbD_setWidth, BitVec.getLsbD_ushiftRight]
  rcases (by omega : (0 ≤ i ∧ i < 8) ∨ (8 ≤ i ∧ i < 16) ∨ (16 ≤ i ∧ i < 24) ∨ (24 ≤ i ∧ i < 32) ∨ (32 ≤ i ∧ i < 40) ∨ (40 ≤ i ∧ i < 48) ∨ (48 ≤ i ∧ i < 56) ∨ (56 ≤ i ∧ i < 64)) with ⟨h1, h2⟩ | ⟨h1, h2⟩ | ⟨h1, h2⟩ | ⟨h1, h2⟩ | ⟨h1, h2⟩ | ⟨h1, h2⟩ | ⟨h1, h2⟩ | ⟨h1, h2⟩
  · have f1 : i < 8 := by omega
    have f2 : i < 16 := by omega
    have f3 : i < 24 := by omega
    have f4 : i < 32 := by omega
    have f5 : i < 40 := by omega
    have f6 : i < 48 := by omega
    have f7 : i < 56 := by omega
    have g0 : i < 64 := hi
    have g1 : i < 8 := h2
    simp [f1, f2, f3, f4, f5, f6, f7, g1, g0]
  · obtain ⟨j, rfl⟩ : ∃ j, i = 8 + j := ⟨i - 8, by omega⟩
    have f0 : ¬ (8 + j < 8) := by omega
    have f2 : 8 + j < 16 := by omega
    have f3 : 8 + j < 24 := by omega
    have f4 : 8 + j < 32 := by omega
    have f5 : 8 + j < 40 := by omega
    have f6 : 8 + j < 48 := by omega
    have f7 : 8 + j < 56 := by omega
    have g0 : 8 + j < 64 := hi
    have g1 : j < 8 := by omega
    have g2 : j < 64 := by omega
    simp [f0, f2, f3, f4, f5, f6, f7, g1, g2, g0]
  · obtain ⟨j, rfl⟩ : ∃ j, i = 16 + j := ⟨i - 16, by omega⟩
    have f0 : ¬ (16 + j < 8) := by omega
    have f1 : ¬ (16 + j - 8 < 8) := by omega
    have f3 : 16 + j < 24 := by omega
    have f4 : 16 + j < 32 := by omega
    have f5 : 16 + j < 40 := by omega
    have f6 : 16 + j < 48 := by omega
    have f7 : 16 + j < 56 := by omega
    have g0 : 16 + j < 64 := hi
    have g1 : j < 8 := by omega
    have g2 : j < 64 := by omega
    simp [f0, f1, f3, f4, f5, f6, f7, g1, g2, g0]
  · obtain ⟨j, rfl⟩ : ∃ j, i = 24 + j := ⟨i - 24, by omega⟩
    have f0 : ¬ (24 + j < 8) := by omega
    have f1 : ¬ (24 + j - 8 < 8) := by omega
    have f2 : ¬ (24 + j - 16 < 8) := by omega
    have f4 : 24 + j < 32 := by omega
    have f5 : 24 + j < 40 := by omega
    have f6 : 24 + j < 48 := by omega
    have f7 : 24 + j < 56 := by omega
    have g0 : 24 + j < 64 := hi
    have g1 : j < 8 := by omega
    have g2 : j < 64 := by omega
    simp [f0, f1, f2, f4, f5, f6, f7, g1, g2, g0]
  · obtain ⟨j, rfl⟩ : ∃ j, i = 32 + j := ⟨i - 32, by omega⟩
    have f0 : ¬ (32 + j < 8) := by omega
    have f1 : ¬ (32 + j - 8 < 8) := by omega
    have f2 : ¬ (32 + j - 16 < 8) := by omega
    have f3 : ¬ (32 + j - 24 < 8) := by omega
    have f5 : 32 + j < 40 := by omega
    have f6 : 32 + j < 48 := by omega
    have f7 : 32 + j < 56 := by omega
    have g0 : 32 + j < 64 := hi
    have g1 : j < 8 := by omega
    have g2 : j < 64 := by omega
    simp [f0, f1, f2, f3, f5, f6, f7, g1, g2, g0]
  · obtain ⟨j, rfl⟩ : ∃ j, i = 40 + j := ⟨i - 40, by omega⟩
    have f0 : ¬ (40 + j < 8) := by omega
    have f1 : ¬ (40 + j - 8 < 8) := by omega
    have f2 : ¬ (40 + j - 16 < 8) := by omega
    have f3 : ¬ (40 + j - 24 < 8) := by omega
    have f4 : ¬ (40 + j - 32 < 8) := by omega
    have f6 : 40 + j < 48 := by omega
    have f7 : 40 + j < 56 := by omega
    have g0 : 40 + j < 64 := hi
    have g1 : j < 8 := by omega
    have g2 : j < 64 := by omega
    simp [f0, f1, f2, f3, f4, f6, f7, g1, g2, g0]
  · obtain ⟨j, rfl⟩ : ∃ j, i = 48 + j := ⟨i - 48, by omega⟩
    have f0 : ¬ (48 + j < 8) := by omega
    have f1 : ¬ (48 + j - 8 < 8) := by omega
    have f2 : ¬ (48 + j - 16 < 8) := by omega
    have f3 : ¬ (48 + j - 24 < 8) := by omega
    have f4 : ¬ (48 + j - 32 < 8) := by omega
    have f5 : ¬ (48 + j - 40 < 8) := by omega
    have f7 : 48 + j < 56 := by omega
    have g0 : 48 + j < 64 := hi
    have g1 : j < 8 := by omega
    have g2 : j < 64 := by omega
    simp [f0, f1, f2, f3, f4, f5, f7, g1, g2, g0]
  · obtain ⟨j, rfl⟩ : ∃ j, i = 56 + j := ⟨i - 56, by omega⟩
    have f0 : ¬ (56 + j < 8) := by omega
    have f1 : ¬ (56 + j - 8 < 8) := by omega
    have f2 : ¬ (56 + j - 16 < 8) := by omega
    have f3 : ¬ (56 + j - 24 < 8) := by omega
    have f4 : ¬ (56 + j - 32 < 8) := by omega
    have f5 : ¬ (56 + j - 40 < 8) := by omega
    have f6 : ¬ (56 + j - 48 < 8) := by omega
    have g0 : 56 + j < 64 := hi
    have g1 : j < 8 := by omega
    have g2 : j < 64 := by omega
    simp [f0, f1, f2, f3, f4, f5, f6, g1, g2, g0]

theorem bytes8_len (v : BitVec 64) : (bytes8 v).length = 8 := rfl

set_option maxRecDepth 100000 in
/-- A word is taken off the front. -/
theorem cons64 (a : Option Addr) (v : BitVec 64) (q : List B8) (m c : Nat) (w : World) (hr : Rd w a ((bytes8 v ++ q).map SV.u8)) (hm : m = 8 + q.length) (hc : m ≤ c) :
    Calls Tryd.prog 55 #[(SV.sl a m c).val] w fun e w' => ∃ a', e = .returned (SV.tup2 (.sl a' (m - 8) (c - 8)) (.u64 v)).val ∧ (∀ X, Off a X → Off a' X) ∧ (a' = none → m - 8 = 0) ∧ Rd w' a' (q.map SV.u8) ∧ Grow w w' := by
  refine calls_E [.sl a m c] Tryd.func55 rfl Tryd.ntmps55 rfl ?_
  obtain ⟨p, hp, _, _⟩ := hr 0 (.u8 (be8 v 0)) rfl
  have ha : a = none → m = 0 := fun h => by rw [h] at hp; cases hp
  refine EWp.seqR [0] fun K hK => ?_
  simp only [ev, fx, ↓reduceIte, Nat.reduceEqDiff, Nat.reduceLT, Nat.reduceLeDiff, Nat.reduceAdd, Nat.reduceSub, Nat.reduceMul, Int.reduceLT, Int.reduceLE, Int.reduceToNat, BitVec.reduceOfInt, BitVec.reduceToNat, reduceCtorEq, and_self, decide_true, decide_false, Bool.not_true, Bool.not_false, ne_eq, not_true_eq_false, not_false_eq_true, true_and, and_true]
  repeat (refine And.intro (by omega) ?_)
  refine hK _ _ ?_; clear hK K
  refine EWp.seqO (fun _ => false) [(0, 0), (1, 0), (2, 0), (3, 2), (4, 0), (5, 0)] [2, 3] mixed (by kernel_rfl) fun K hK => ?_
  have hgd : Grow w w.drew := ⟨rfl, rfl, rfl, Nat.le_refl _, fun _ _ => rfl⟩
  have hr := hr.grow hgd
  simp only [ev, fx, ↓reduceIte, Nat.reduceEqDiff, Nat.reduceLT, Nat.reduceLeDiff, Nat.reduceAdd, Nat.reduceSub, Nat.reduceMul, Int.reduceLT, Int.reduceLE, Int.reduceToNat, BitVec.reduceOfInt, BitVec.reduceToNat, reduceCtorEq, and_self, decide_true, decide_false, Bool.not_true, Bool.not_false, ne_eq, not_true_eq_false, not_false_eq_true, true_and, and_true]
  repeat (refine And.intro (by omega) ?_)
  have hr0 := hr
  rw [hp] at hr0
  refine SemE.call fn_58 rfl rfl (by rw [hp]; exact beGet64 p m c (be8 v 0) (be8 v 1) (be8 v 2) (be8 v 3) (be8 v 4) (be8 v 5) (be8 v 6) (be8 v 7) q _ hr0 (by omega)) ?_
  rintro _ w1 ⟨rfl, hg1⟩
  refine ⟨_, rfl, fun _ => hg1, ?_⟩
  rw [dec8_be]
  simp only [ev, fx, ↓reduceIte, Nat.reduceEqDiff, Nat.reduceLT, Nat.reduceLeDiff, Nat.reduceAdd, Nat.reduceSub, Nat.reduceMul, Int.reduceLT, Int.reduceLE, Int.reduceToNat, BitVec.reduceOfInt, BitVec.reduceToNat, reduceCtorEq, and_self, decide_true, decide_false, Bool.not_true, Bool.not_false, ne_eq, not_true_eq_false, not_false_eq_true, true_and, and_true]
  refine hK _ _ ?_; clear hK K
  refine EWp.ret (BodyE.tmp2 rfl rfl rfl ⟨_, rfl, fun X hX => hX.slice 8 c, fun h => ?_, ?_, hgd.trans hg1⟩)
  · have := slNone ha h
    omega
  · have hd := (hr.grow hg1).drop 8 c (by simp [bytes8_len]; omega)
    rwa [← List.map_drop, List.drop_left' (bytes8_len v)] at hd

theorem marT_shape (ki : Kd) (T : List B8) : marT ki T = bytes8 (blocks (initOf ki) T).a ++ (bytes8 (blocks (initOf ki) T).b ++ (bytes8 (blocks (initOf ki) T).c ++ (bytes8 (blocks (initOf ki) T).d ++ (bytes8 (blocks (initOf ki) T).e ++ (bytes8 (blocks (initOf ki) T).f ++ (bytes8 (blocks (initOf ki) T).g ++ (bytes8 (blocks (initOf ki) T).h ++ (T.drop (128 * (T.length / 128)) ++ (List.replicate (128 - T.length % 128) 0#8 ++ bytes8 (BitVec.ofNat 64 T.length)))))))))) := by
  simp [marT, sumB, List.append_assoc]

set_option maxRecDepth 100000 in
set_option maxHeartbeats 1000000 in
/-- Kept bytes are taken up. -/
theorem unD (b : Nat) (s0 : S8) (x0 : List B8) (nx0 : Nat) (ln0 : BitVec 64) (ki : Kd) (hx0 : x0.length = 128) (T : List B8) (a : Option Addr) (c : Nat) (w : World) (hb : w.heap[b]? = some (.cells ((digC s0 x0 nx0 ln0 ki).map SV.val).toArray 76 (0, 0)))
    (hr : Rd w a ((marB ki T).map SV.u8)) (hnc : 204 ≤ c) (hoff : Off a [b]) (hT : T.length < 1152921504606846976) :
    Calls Tryd.prog 43 #[(SV.ptr ⟨b, 0, none⟩).val, (SV.sl a 204 c).val] w fun e w' => e = .returned (SV.raw .nilIface).val ∧ ∃ cs', Dig ki T cs' ∧ HL w w' [b] [(b, 76, cs')] := by
  refine calls_E [.ptr ⟨b, 0, none⟩, .sl a 204 c] Tryd.func43 rfl Tryd.ntmps43 rfl ?_
  have hl := HL.startB hb
  have ha : a = none → 204 = 0 := fun h => by
    obtain ⟨p, hp, _, _⟩ := hr 0 (.u8 115#8) rfl
    rw [h] at hp; cases hp
  have htx : Txt w (.sl a 204 c) (marB ki T) := Txt.mk hr (marB_len ki T) hnc ha
  have htk4 : (marB ki T).take 4 = magicB ki := List.take_left' (magicB_len ki)
  refine EWp.seqR [0, 1] fun K hK => ?_
  simp only [ev, fx, ↓reduceIte, Nat.reduceEqDiff, Nat.reduceLT, Nat.reduceLeDiff, Nat.reduceAdd, Nat.reduceSub, Nat.reduceMul, Int.reduceLT, Int.reduceLE, Int.reduceToNat, BitVec.reduceOfInt, BitVec.reduceToNat, reduceCtorEq, and_self, decide_true, decide_false, Bool.not_true, Bool.not_false, ne_eq, not_true_eq_false, not_false_eq_true, true_and, and_true]
  repeat (refine And.intro (by omega) ?_)
  refine hK _ _ ?_; clear hK K
  refine EWp.ifR [0, 1, 7] fun K hK => ?_
  simp only [ev, fx, ↓reduceIte, Nat.reduceEqDiff, Nat.reduceLT, Nat.reduceLeDiff, Nat.reduceAdd, Nat.reduceSub, Nat.reduceMul, Int.reduceLT, Int.reduceLE, Int.reduceToNat, BitVec.reduceOfInt, BitVec.reduceToNat, reduceCtorEq, and_self, decide_true, decide_false, Bool.not_true, Bool.not_false, ne_eq, not_true_eq_false, not_false_eq_true, true_and, and_true]
  refine hK _ _ false rfl (fun h => by cases h) (fun _ => ?_); clear hK K
  refine EWp.skipThen ?_
  refine EWp.cut [0, 1] (fun S' w' => S' = [(0, .ptr ⟨b, 0, none⟩), (1, .sl a 204 c)] ∧ w' = w) ?_ ?_
  case refine_1 =>
    have h4 := htx.take 4 (by omega)
    rw [htk4] at h4
    refine EWp.block ?_
    cases ki
    · refine EWp.brR [0, 1, 10] fun K hK => ?_
      simp only [ev, fx, ↓reduceIte, Nat.reduceEqDiff, Nat.reduceLT, Nat.reduceLeDiff, Nat.reduceAdd, Nat.reduceSub, Nat.reduceMul, Int.reduceLT, Int.reduceLE, Int.reduceToNat, BitVec.reduceOfInt, BitVec.reduceToNat, reduceCtorEq, and_self, decide_true, decide_false, Bool.not_true, Bool.not_false, ne_eq, not_true_eq_false, not_false_eq_true, true_and, and_true, szOf, sl0]
      refine SemE.loadB hl 0 rfl one_3 rfl rfl (digC_sz_get _ _ _ _ _ hx0) ?_
      simp only [ev, fx, ↓reduceIte, Nat.reduceEqDiff, Nat.reduceLT, Nat.reduceLeDiff, Nat.reduceAdd, Nat.reduceSub, Nat.reduceMul, Int.reduceLT, Int.reduceLE, Int.reduceToNat, BitVec.reduceOfInt, BitVec.reduceToNat, reduceCtorEq, and_self, decide_true, decide_false, Bool.not_true, Bool.not_false, ne_eq, not_true_eq_false, not_false_eq_true, true_and, and_true, szOf, sl0]
      repeat (refine And.intro (by omega) ?_)
      refine SemE.toStrT tostr_23_9 rfl h4 rfl ?_
      simp only [ev, fx, ↓reduceIte, Nat.reduceEqDiff, Nat.reduceLT, Nat.reduceLeDiff, Nat.reduceAdd, Nat.reduceSub, Nat.reduceMul, Int.reduceLT, Int.reduceLE, Int.reduceToNat, BitVec.reduceOfInt, BitVec.reduceToNat, reduceCtorEq, and_self, decide_true, decide_false, Bool.not_true, Bool.not_false, ne_eq, not_true_eq_false, not_false_eq_true, true_and, and_true]
      refine SemE.plain _ (Plain.eqlStr (ys := magicB .k384) rfl rfl) rfl ?_
      simp only [ev, fx, ↓reduceIte, Nat.reduceEqDiff, Nat.reduceLT, Nat.reduceLeDiff, Nat.reduceAdd, Nat.reduceSub, Nat.reduceMul, Int.reduceLT, Int.reduceLE, Int.reduceToNat, BitVec.reduceOfInt, BitVec.reduceToNat, reduceCtorEq, and_self, decide_true, decide_false, Bool.not_true, Bool.not_false, ne_eq, not_true_eq_false, not_false_eq_true, true_and, and_true]
      refine hK _ _ true (by simp [Env.op, Env.get]) (fun _ => ?_) (fun h => by cases h); clear hK K
      refine EWp.skip ?_
      simp only [BlockE, ThenE]
      exact ⟨rfl, trivial⟩
    · refine EWp.brR [0, 1, 10] fun K hK => ?_
      simp only [ev, fx, ↓reduceIte, Nat.reduceEqDiff, Nat.reduceLT, Nat.reduceLeDiff, Nat.reduceAdd, Nat.reduceSub, Nat.reduceMul, Int.reduceLT, Int.reduceLE, Int.reduceToNat, BitVec.reduceOfInt, BitVec.reduceToNat, reduceCtorEq, and_self, decide_true, decide_false, Bool.not_true, Bool.not_false, ne_eq, not_true_eq_false, not_false_eq_true, true_and, and_true, szOf, sl0]
      refine SemE.loadB hl 0 rfl one_3 rfl rfl (digC_sz_get _ _ _ _ _ hx0) ?_
      simp only [ev, fx, ↓reduceIte, Nat.reduceEqDiff, Nat.reduceLT, Nat.reduceLeDiff, Nat.reduceAdd, Nat.reduceSub, Nat.reduceMul, Int.reduceLT, Int.reduceLE, Int.reduceToNat, BitVec.reduceOfInt, BitVec.reduceToNat, reduceCtorEq, and_self, decide_true, decide_false, Bool.not_true, Bool.not_false, ne_eq, not_true_eq_false, not_false_eq_true, true_and, and_true, szOf, sl0]
      refine hK _ _ false rfl (fun h => by cases h) (fun _ => ?_); clear hK K
      refine EWp.brR [0, 1, 22] fun K hK => ?_
      simp only [ev, fx, ↓reduceIte, Nat.reduceEqDiff, Nat.reduceLT, Nat.reduceLeDiff, Nat.reduceAdd, Nat.reduceSub, Nat.reduceMul, Int.reduceLT, Int.reduceLE, Int.reduceToNat, BitVec.reduceOfInt, BitVec.reduceToNat, reduceCtorEq, and_self, decide_true, decide_false, Bool.not_true, Bool.not_false, ne_eq, not_true_eq_false, not_false_eq_true, true_and, and_true, szOf, sl0]
      refine SemE.loadB hl 0 rfl one_3 rfl rfl (digC_sz_get _ _ _ _ _ hx0) ?_
      simp only [ev, fx, ↓reduceIte, Nat.reduceEqDiff, Nat.reduceLT, Nat.reduceLeDiff, Nat.reduceAdd, Nat.reduceSub, Nat.reduceMul, Int.reduceLT, Int.reduceLE, Int.reduceToNat, BitVec.reduceOfInt, BitVec.reduceToNat, reduceCtorEq, and_self, decide_true, decide_false, Bool.not_true, Bool.not_false, ne_eq, not_true_eq_false, not_false_eq_true, true_and, and_true, szOf, sl0]
      refine hK _ _ false rfl (fun h => by cases h) (fun _ => ?_); clear hK K
      refine EWp.brR [0, 1, 34] fun K hK => ?_
      simp only [ev, fx, ↓reduceIte, Nat.reduceEqDiff, Nat.reduceLT, Nat.reduceLeDiff, Nat.reduceAdd, Nat.reduceSub, Nat.reduceMul, Int.reduceLT, Int.reduceLE, Int.reduceToNat, BitVec.reduceOfInt, BitVec.reduceToNat, reduceCtorEq, and_self, decide_true, decide_false, Bool.not_true, Bool.not_false, ne_eq, not_true_eq_false, not_false_eq_true, true_and, and_true, szOf, sl0]
      refine SemE.loadB hl 0 rfl one_3 rfl rfl (digC_sz_get _ _ _ _ _ hx0) ?_
      simp only [ev, fx, ↓reduceIte, Nat.reduceEqDiff, Nat.reduceLT, Nat.reduceLeDiff, Nat.reduceAdd, Nat.reduceSub, Nat.reduceMul, Int.reduceLT, Int.reduceLE, Int.reduceToNat, BitVec.reduceOfInt, BitVec.reduceToNat, reduceCtorEq, and_self, decide_true, decide_false, Bool.not_true, Bool.not_false, ne_eq, not_true_eq_false, not_false_eq_true, true_and, and_true, szOf, sl0]
      refine hK _ _ false rfl (fun h => by cases h) (fun _ => ?_); clear hK K
      refine EWp.brR [0, 1, 46] fun K hK => ?_
      simp only [ev, fx, ↓reduceIte, Nat.reduceEqDiff, Nat.reduceLT, Nat.reduceLeDiff, Nat.reduceAdd, Nat.reduceSub, Nat.reduceMul, Int.reduceLT, Int.reduceLE, Int.reduceToNat, BitVec.reduceOfInt, BitVec.reduceToNat, reduceCtorEq, and_self, decide_true, decide_false, Bool.not_true, Bool.not_false, ne_eq, not_true_eq_false, not_false_eq_true, true_and, and_true, szOf, sl0]
      refine SemE.loadB hl 0 rfl one_3 rfl rfl (digC_sz_get _ _ _ _ _ hx0) ?_
      simp only [ev, fx, ↓reduceIte, Nat.reduceEqDiff, Nat.reduceLT, Nat.reduceLeDiff, Nat.reduceAdd, Nat.reduceSub, Nat.reduceMul, Int.reduceLT, Int.reduceLE, Int.reduceToNat, BitVec.reduceOfInt, BitVec.reduceToNat, reduceCtorEq, and_self, decide_true, decide_false, Bool.not_true, Bool.not_false, ne_eq, not_true_eq_false, not_false_eq_true, true_and, and_true, szOf, sl0]
      repeat (refine And.intro (by omega) ?_)
      refine SemE.toStrT tostr_23_9 rfl h4 rfl ?_
      simp only [ev, fx, ↓reduceIte, Nat.reduceEqDiff, Nat.reduceLT, Nat.reduceLeDiff, Nat.reduceAdd, Nat.reduceSub, Nat.reduceMul, Int.reduceLT, Int.reduceLE, Int.reduceToNat, BitVec.reduceOfInt, BitVec.reduceToNat, reduceCtorEq, and_self, decide_true, decide_false, Bool.not_true, Bool.not_false, ne_eq, not_true_eq_false, not_false_eq_true, true_and, and_true]
      refine SemE.plain _ (Plain.eqlStr (ys := magicB .k512) rfl rfl) rfl ?_
      simp only [ev, fx, ↓reduceIte, Nat.reduceEqDiff, Nat.reduceLT, Nat.reduceLeDiff, Nat.reduceAdd, Nat.reduceSub, Nat.reduceMul, Int.reduceLT, Int.reduceLE, Int.reduceToNat, BitVec.reduceOfInt, BitVec.reduceToNat, reduceCtorEq, and_self, decide_true, decide_false, Bool.not_true, Bool.not_false, ne_eq, not_true_eq_false, not_false_eq_true, true_and, and_true]
      refine hK _ _ true (by simp [Env.op, Env.get]) (fun _ => ?_) (fun h => by cases h); clear hK K
      refine EWp.skip ?_
      simp only [BlockE, ThenE]
      exact ⟨rfl, trivial⟩
    · refine EWp.brR [0, 1, 10] fun K hK => ?_
      simp only [ev, fx, ↓reduceIte, Nat.reduceEqDiff, Nat.reduceLT, Nat.reduceLeDiff, Nat.reduceAdd, Nat.reduceSub, Nat.reduceMul, Int.reduceLT, Int.reduceLE, Int.reduceToNat, BitVec.reduceOfInt, BitVec.reduceToNat, reduceCtorEq, and_self, decide_true, decide_false, Bool.not_true, Bool.not_false, ne_eq, not_true_eq_false, not_false_eq_true, true_and, and_true, szOf, sl0]
      refine SemE.loadB hl 0 rfl one_3 rfl rfl (digC_sz_get _ _ _ _ _ hx0) ?_
      simp only [ev, fx, ↓reduceIte, Nat.reduceEqDiff, Nat.reduceLT, Nat.reduceLeDiff, Nat.reduceAdd, Nat.reduceSub, Nat.reduceMul, Int.reduceLT, Int.reduceLE, Int.reduceToNat, BitVec.reduceOfInt, BitVec.reduceToNat, reduceCtorEq, and_self, decide_true, decide_false, Bool.not_true, Bool.not_false, ne_eq, not_true_eq_false, not_false_eq_true, true_and, and_true, szOf, sl0]
      refine hK _ _ false rfl (fun h => by cases h) (fun _ => ?_); clear hK K
      refine EWp.brR [0, 1, 22] fun K hK => ?_
      simp only [ev, fx, ↓reduceIte, Nat.reduceEqDiff, Nat.reduceLT, Nat.reduceLeDiff, Nat.reduceAdd, Nat.reduceSub, Nat.reduceMul, Int.reduceLT, Int.reduceLE, Int.reduceToNat, BitVec.reduceOfInt, BitVec.reduceToNat, reduceCtorEq, and_self, decide_true, decide_false, Bool.not_true, Bool.not_false, ne_eq, not_true_eq_false, not_false_eq_true, true_and, and_true, szOf, sl0]
      refine SemE.loadB hl 0 rfl one_3 rfl rfl (digC_sz_get _ _ _ _ _ hx0) ?_
      simp only [ev, fx, ↓reduceIte, Nat.reduceEqDiff, Nat.reduceLT, Nat.reduceLeDiff, Nat.reduceAdd, Nat.reduceSub, Nat.reduceMul, Int.reduceLT, Int.reduceLE, Int.reduceToNat, BitVec.reduceOfInt, BitVec.reduceToNat, reduceCtorEq, and_self, decide_true, decide_false, Bool.not_true, Bool.not_false, ne_eq, not_true_eq_false, not_false_eq_true, true_and, and_true, szOf, sl0]
      repeat (refine And.intro (by omega) ?_)
      refine SemE.toStrT tostr_23_9 rfl h4 rfl ?_
      simp only [ev, fx, ↓reduceIte, Nat.reduceEqDiff, Nat.reduceLT, Nat.reduceLeDiff, Nat.reduceAdd, Nat.reduceSub, Nat.reduceMul, Int.reduceLT, Int.reduceLE, Int.reduceToNat, BitVec.reduceOfInt, BitVec.reduceToNat, reduceCtorEq, and_self, decide_true, decide_false, Bool.not_true, Bool.not_false, ne_eq, not_true_eq_false, not_false_eq_true, true_and, and_true]
      refine SemE.plain _ (Plain.eqlStr (ys := magicB .k224) rfl rfl) rfl ?_
      simp only [ev, fx, ↓reduceIte, Nat.reduceEqDiff, Nat.reduceLT, Nat.reduceLeDiff, Nat.reduceAdd, Nat.reduceSub, Nat.reduceMul, Int.reduceLT, Int.reduceLE, Int.reduceToNat, BitVec.reduceOfInt, BitVec.reduceToNat, reduceCtorEq, and_self, decide_true, decide_false, Bool.not_true, Bool.not_false, ne_eq, not_true_eq_false, not_false_eq_true, true_and, and_true]
      refine hK _ _ true (by simp [Env.op, Env.get]) (fun _ => ?_) (fun h => by cases h); clear hK K
      refine EWp.skip ?_
      simp only [BlockE, ThenE]
      exact ⟨rfl, trivial⟩
    · refine EWp.brR [0, 1, 10] fun K hK => ?_
      simp only [ev, fx, ↓reduceIte, Nat.reduceEqDiff, Nat.reduceLT, Nat.reduceLeDiff, Nat.reduceAdd, Nat.reduceSub, Nat.reduceMul, Int.reduceLT, Int.reduceLE, Int.reduceToNat, BitVec.reduceOfInt, BitVec.reduceToNat, reduceCtorEq, and_self, decide_true, decide_false, Bool.not_true, Bool.not_false, ne_eq, not_true_eq_false, not_false_eq_true, true_and, and_true, szOf, sl0]
      refine SemE.loadB hl 0 rfl one_3 rfl rfl (digC_sz_get _ _ _ _ _ hx0) ?_
      simp only [ev, fx, ↓reduceIte, Nat.reduceEqDiff, Nat.reduceLT, Nat.reduceLeDiff, Nat.reduceAdd, Nat.reduceSub, Nat.reduceMul, Int.reduceLT, Int.reduceLE, Int.reduceToNat, BitVec.reduceOfInt, BitVec.reduceToNat, reduceCtorEq, and_self, decide_true, decide_false, Bool.not_true, Bool.not_false, ne_eq, not_true_eq_false, not_false_eq_true, true_and, and_true, szOf, sl0]
      refine hK _ _ false rfl (fun h => by cases h) (fun _ => ?_); clear hK K
      refine EWp.brR [0, 1, 22] fun K hK => ?_
      simp only [ev, fx, ↓reduceIte, Nat.reduceEqDiff, Nat.reduceLT, Nat.reduceLeDiff, Nat.reduceAdd, Nat.reduceSub, Nat.reduceMul, Int.reduceLT, Int.reduceLE, Int.reduceToNat, BitVec.reduceOfInt, BitVec.reduceToNat, reduceCtorEq, and_self, decide_true, decide_false, Bool.not_true, Bool.not_false, ne_eq, not_true_eq_false, not_false_eq_true, true_and, and_true, szOf, sl0]
      refine SemE.loadB hl 0 rfl one_3 rfl rfl (digC_sz_get _ _ _ _ _ hx0) ?_
      simp only [ev, fx, ↓reduceIte, Nat.reduceEqDiff, Nat.reduceLT, Nat.reduceLeDiff, Nat.reduceAdd, Nat.reduceSub, Nat.reduceMul, Int.reduceLT, Int.reduceLE, Int.reduceToNat, BitVec.reduceOfInt, BitVec.reduceToNat, reduceCtorEq, and_self, decide_true, decide_false, Bool.not_true, Bool.not_false, ne_eq, not_true_eq_false, not_false_eq_true, true_and, and_true, szOf, sl0]
      refine hK _ _ false rfl (fun h => by cases h) (fun _ => ?_); clear hK K
      refine EWp.brR [0, 1, 34] fun K hK => ?_
      simp only [ev, fx, ↓reduceIte, Nat.reduceEqDiff, Nat.reduceLT, Nat.reduceLeDiff, Nat.reduceAdd, Nat.reduceSub, Nat.reduceMul, Int.reduceLT, Int.reduceLE, Int.reduceToNat, BitVec.reduceOfInt, BitVec.reduceToNat, reduceCtorEq, and_self, decide_true, decide_false, Bool.not_true, Bool.not_false, ne_eq, not_true_eq_false, not_false_eq_true, true_and, and_true, szOf, sl0]
      refine SemE.loadB hl 0 rfl one_3 rfl rfl (digC_sz_get _ _ _ _ _ hx0) ?_
      simp only [ev, fx, ↓reduceIte, Nat.reduceEqDiff, Nat.reduceLT, Nat.reduceLeDiff, Nat.reduceAdd, Nat.reduceSub, Nat.reduceMul, Int.reduceLT, Int.reduceLE, Int.reduceToNat, BitVec.reduceOfInt, BitVec.reduceToNat, reduceCtorEq, and_self, decide_true, decide_false, Bool.not_true, Bool.not_false, ne_eq, not_true_eq_false, not_false_eq_true, true_and, and_true, szOf, sl0]
      repeat (refine And.intro (by omega) ?_)
      refine SemE.toStrT tostr_23_9 rfl h4 rfl ?_
      simp only [ev, fx, ↓reduceIte, Nat.reduceEqDiff, Nat.reduceLT, Nat.reduceLeDiff, Nat.reduceAdd, Nat.reduceSub, Nat.reduceMul, Int.reduceLT, Int.reduceLE, Int.reduceToNat, BitVec.reduceOfInt, BitVec.reduceToNat, reduceCtorEq, and_self, decide_true, decide_false, Bool.not_true, Bool.not_false, ne_eq, not_true_eq_false, not_false_eq_true, true_and, and_true]
      refine SemE.plain _ (Plain.eqlStr (ys := magicB .k256) rfl rfl) rfl ?_
      simp only [ev, fx, ↓reduceIte, Nat.reduceEqDiff, Nat.reduceLT, Nat.reduceLeDiff, Nat.reduceAdd, Nat.reduceSub, Nat.reduceMul, Int.reduceLT, Int.reduceLE, Int.reduceToNat, BitVec.reduceOfInt, BitVec.reduceToNat, reduceCtorEq, and_self, decide_true, decide_false, Bool.not_true, Bool.not_false, ne_eq, not_true_eq_false, not_false_eq_true, true_and, and_true]
      refine hK _ _ true (by simp [Env.op, Env.get]) (fun _ => ?_) (fun h => by cases h); clear hK K
      refine EWp.skip ?_
      simp only [BlockE, ThenE]
      exact ⟨rfl, trivial⟩
  rintro S' w' ⟨rfl, hw⟩
  rw [hw]; clear hw w'
  refine EWp.ifR [0, 1, 60] fun K hK => ?_
  simp only [ev, fx, ↓reduceIte, Nat.reduceEqDiff, Nat.reduceLT, Nat.reduceLeDiff, Nat.reduceAdd, Nat.reduceSub, Nat.reduceMul, Int.reduceLT, Int.reduceLE, Int.reduceToNat, BitVec.reduceOfInt, BitVec.reduceToNat, reduceCtorEq, and_self, decide_true, decide_false, Bool.not_true, Bool.not_false, ne_eq, not_true_eq_false, not_false_eq_true, true_and, and_true]
  refine hK _ _ false rfl (fun h => by cases h) (fun _ => ?_); clear hK K
  refine EWp.skipThen ?_
  refine EWp.seqR [0, 1] fun K hK => ?_
  simp only [ev, fx, ↓reduceIte, Nat.reduceEqDiff, Nat.reduceLT, Nat.reduceLeDiff, Nat.reduceAdd, Nat.reduceSub, Nat.reduceMul, Int.reduceLT, Int.reduceLE, Int.reduceToNat, BitVec.reduceOfInt, BitVec.reduceToNat, reduceCtorEq, and_self, decide_true, decide_false, Bool.not_true, Bool.not_false, ne_eq, not_true_eq_false, not_false_eq_true, true_and, and_true]
  repeat (refine And.intro (by omega) ?_)
  refine hK _ _ ?_; clear hK K
  have hr4 := hr.drop 4 c (by rw [List.length_map, marB_len]; exact hnc)
  rw [← List.map_drop, show (marB ki T).drop 4 = marT ki T from List.drop_left' (magicB_len ki), marT_shape] at hr4
  have hoff := hoff.slice 4 c
  clear htx hr
  have hr := hr4
  clear hr4
  have htl : (T.drop (128 * (T.length / 128))).length = T.length % 128 := by simp; omega
  have hm : T.length % 128 < 128 := Nat.mod_lt _ (by omega)
  have hDig : ∀ x : List B8, x.length = 128 → x.take (T.length % 128) = T.drop (128 * (T.length / 128)) → Dig ki T (digC (blocks (initOf ki) T) x (T.length % 128) (BitVec.ofNat 64 T.length) ki) := fun x h1 h2 => ⟨x, h1, h2, rfl⟩
  have hrm := rem128 T.length hT
  generalize hL : BitVec.ofNat 64 T.length = ln at *
  generalize T.length % 128 = m at *
  generalize T.drop (128 * (T.length / 128)) = tl at *
  generalize blocks (initOf ki) T = s at *
  have hl : HL w w [b] [(b, 76, dig8 s0 (x0.map SV.u8 ++ [.nat nx0, .u64 ln0, .nat (szOf ki)]))] := hl
  have hfull : ∀ (s : S8) (x : List B8) (nx : Nat) (ln : BitVec 64), dig8 s (x.map SV.u8 ++ [.nat nx, .u64 ln, .nat (szOf ki)]) = digC s x nx ln ki := fun _ _ _ _ => rfl
  refine EWp.seqO (fun i => [10].contains i) [(0, 0), (1, 0), (7, 0), (8, 0), (2, 2), (3, 0), (4, 0), (5, 0), (6, 0), (9, 0), (10, 2)] [0, 1] mixed (by kernel_rfl) fun K hK => ?_
  have hl := hl.drew
  have hr := hr.grow (w' := _root_.Go.World.drew _) ⟨rfl, rfl, rfl, Nat.le_refl _, fun _ _ => rfl⟩
  simp only [ev, fx, ↓reduceIte, Nat.reduceEqDiff, Nat.reduceLT, Nat.reduceLeDiff, Nat.reduceAdd, Nat.reduceSub, Nat.reduceMul, Int.reduceLT, Int.reduceLE, Int.reduceToNat, BitVec.reduceOfInt, BitVec.reduceToNat, reduceCtorEq, and_self, decide_true, decide_false, Bool.not_true, Bool.not_false, ne_eq, not_true_eq_false, not_false_eq_true, true_and, and_true]
  refine SemE.call fn_55 rfl rfl (cons64 _ s.a _ _ _ _ hr (by simp only [List.length_append, bytes8_len, bytes8_len, List.length_replicate, htl]; omega) (by omega)) ?_
  rintro _ w1 ⟨a1, rfl, hoff1, ha1, hr1, hg1⟩
  refine ⟨_, rfl, fun _ => hg1, ?_⟩
  have hl := hl.grow hg1
  have hoff := hoff1 _ hoff
  simp only [ev, fx, ↓reduceIte, Nat.reduceEqDiff, Nat.reduceLT, Nat.reduceLeDiff, Nat.reduceAdd, Nat.reduceSub, Nat.reduceMul, Int.reduceLT, Int.reduceLE, Int.reduceToNat, BitVec.reduceOfInt, BitVec.reduceToNat, reduceCtorEq, and_self, decide_true, decide_false, Bool.not_true, Bool.not_false, ne_eq, not_true_eq_false, not_false_eq_true, true_and, and_true, Option.map_some]
  refine SemE.storeB (v := .u64 s.a) (HL.startB (hl.at (k := 0) rfl)) 0 rfl rfl one_31 rfl rfl (by simp [dig8]) fun w2 hs => ⟨fun h => absurd h (by decide), ?_⟩
  simp only [List.set_cons_zero, dig8_set0] at hs
  have hr := hr1.keep hs hoff
  have hl := hl.call (k := 0) rfl hs
  simp only [List.set_cons_zero, List.append_nil] at hl
  clear hs hr1
  simp only [ev, fx, ↓reduceIte, Nat.reduceEqDiff, Nat.reduceLT, Nat.reduceLeDiff, Nat.reduceAdd, Nat.reduceSub, Nat.reduceMul, Int.reduceLT, Int.reduceLE, Int.reduceToNat, BitVec.reduceOfInt, BitVec.reduceToNat, reduceCtorEq, and_self, decide_true, decide_false, Bool.not_true, Bool.not_false, ne_eq, not_true_eq_false, not_false_eq_true, true_and, and_true]
  refine hK _ _ ?_; clear hK K
  refine EWp.seqO (fun i => [10].contains i) [(0, 0), (1, 0), (7, 0), (8, 0), (2, 2), (3, 0), (4, 0), (5, 0), (6, 0), (9, 0), (10, 2)] [0, 1] mixed (by kernel_rfl) fun K hK => ?_
  have hl := hl.drew
  have hr := hr.grow (w' := _root_.Go.World.drew _) ⟨rfl, rfl, rfl, Nat.le_refl _, fun _ _ => rfl⟩
  simp only [ev, fx, ↓reduceIte, Nat.reduceEqDiff, Nat.reduceLT, Nat.reduceLeDiff, Nat.reduceAdd, Nat.reduceSub, Nat.reduceMul, Int.reduceLT, Int.reduceLE, Int.reduceToNat, BitVec.reduceOfInt, BitVec.reduceToNat, reduceCtorEq, and_self, decide_true, decide_false, Bool.not_true, Bool.not_false, ne_eq, not_true_eq_false, not_false_eq_true, true_and, and_true]
  refine SemE.call fn_55 rfl rfl (cons64 _ s.b _ _ _ _ hr (by simp only [List.length_append, bytes8_len, bytes8_len, List.length_replicate, htl]; omega) (by omega)) ?_
  rintro _ w1 ⟨a1, rfl, hoff1, ha1, hr1, hg1⟩
  refine ⟨_, rfl, fun _ => hg1, ?_⟩
  have hl := hl.grow hg1
  have hoff := hoff1 _ hoff
  simp only [ev, fx, ↓reduceIte, Nat.reduceEqDiff, Nat.reduceLT, Nat.reduceLeDiff, Nat.reduceAdd, Nat.reduceSub, Nat.reduceMul, Int.reduceLT, Int.reduceLE, Int.reduceToNat, BitVec.reduceOfInt, BitVec.reduceToNat, reduceCtorEq, and_self, decide_true, decide_false, Bool.not_true, Bool.not_false, ne_eq, not_true_eq_false, not_false_eq_true, true_and, and_true, Option.map_some]
  refine SemE.storeB (v := .u64 s.b) (HL.startB (hl.at (k := 0) rfl)) 0 rfl rfl one_31 rfl rfl (by simp [dig8]) fun w2 hs => ⟨fun h => absurd h (by decide), ?_⟩
  simp only [List.set_cons_zero, dig8_set1] at hs
  have hr := hr1.keep hs hoff
  have hl := hl.call (k := 0) rfl hs
  simp only [List.set_cons_zero, List.append_nil] at hl
  clear hs hr1
  simp only [ev, fx, ↓reduceIte, Nat.reduceEqDiff, Nat.reduceLT, Nat.reduceLeDiff, Nat.reduceAdd, Nat.reduceSub, Nat.reduceMul, Int.reduceLT, Int.reduceLE, Int.reduceToNat, BitVec.reduceOfInt, BitVec.reduceToNat, reduceCtorEq, and_self, decide_true, decide_false, Bool.not_true, Bool.not_false, ne_eq, not_true_eq_false, not_false_eq_true, true_and, and_true]
  refine hK _ _ ?_; clear hK K
  refine EWp.seqO (fun i => [10].contains i) [(0, 0), (1, 0), (7, 0), (8, 0), (2, 2), (3, 0), (4, 0), (5, 0), (6, 0), (9, 0), (10, 2)] [0, 1] mixed (by kernel_rfl) fun K hK => ?_
  have hl := hl.drew
  have hr := hr.grow (w' := _root_.Go.World.drew _) ⟨rfl, rfl, rfl, Nat.le_refl _, fun _ _ => rfl⟩
  simp only [ev, fx, ↓reduceIte, Nat.reduceEqDiff, Nat.reduceLT, Nat.reduceLeDiff, Nat.reduceAdd, Nat.reduceSub, Nat.reduceMul, Int.reduceLT, Int.reduceLE, Int.reduceToNat, BitVec.reduceOfInt, BitVec.reduceToNat, reduceCtorEq, and_self, decide_true, decide_false, Bool.not_true, Bool.not_false, ne_eq, not_true_eq_false, not_false_eq_true, true_and, and_true]
  refine SemE.call fn_55 rfl rfl (cons64 _ s.c _ _ _ _ hr (by simp only [List.length_append, bytes8_len, bytes8_len, List.length_replicate, htl]; omega) (by omega)) ?_
  rintro _ w1 ⟨a1, rfl, hoff1, ha1, hr1, hg1⟩
  refine ⟨_, rfl, fun _ => hg1, ?_⟩
  have hl := hl.grow hg1
  have hoff := hoff1 _ hoff
  simp only [ev, fx, ↓reduceIte, Nat.reduceEqDiff, Nat.reduceLT, Nat.reduceLeDiff, Nat.reduceAdd, Nat.reduceSub, Nat.reduceMul, Int.reduceLT, Int.reduceLE, Int.reduceToNat, BitVec.reduceOfInt, BitVec.reduceToNat, reduceCtorEq, and_self, decide_true, decide_false, Bool.not_true, Bool.not_false, ne_eq, not_true_eq_false, not_false_eq_true, true_and, and_true, Option.map_some]
  refine SemE.storeB (v := .u64 s.c) (HL.startB (hl.at (k := 0) rfl)) 0 rfl rfl one_31 rfl rfl (by simp [dig8]) fun w2 hs => ⟨fun h => absurd h (by decide), ?_⟩
  simp only [List.set_cons_zero, dig8_set2] at hs
  have hr := hr1.keep hs hoff
  have hl := hl.call (k := 0) rfl hs
  simp only [List.set_cons_zero, List.append_nil] at hl
  clear hs hr1
  simp only [ev, fx, ↓reduceIte, Nat.reduceEqDiff, Nat.reduceLT, Nat.reduceLeDiff, Nat.reduceAdd, Nat.reduceSub, Nat.reduceMul, Int.reduceLT, Int.reduceLE, Int.reduceToNat, BitVec.reduceOfInt, BitVec.reduceToNat, reduceCtorEq, and_self, decide_true, decide_false, Bool.not_true, Bool.not_false, ne_eq, not_true_eq_false, not_false_eq_true, true_and, and_true]
  refine hK _ _ ?_; clear hK K
  refine EWp.seqO (fun i => [10].contains i) [(0, 0), (1, 0), (7, 0), (8, 0), (2, 2), (3, 0), (4, 0), (5, 0), (6, 0), (9, 0), (10, 2)] [0, 1] mixed (by kernel_rfl) fun K hK => ?_
  have hl := hl.drew
  have hr := hr.grow (w' := _root_.Go.World.drew _) ⟨rfl, rfl, rfl, Nat.le_refl _, fun _ _ => rfl⟩
  simp only [ev, fx, ↓reduceIte, Nat.reduceEqDiff, Nat.reduceLT, Nat.reduceLeDiff, Nat.reduceAdd, Nat.reduceSub, Nat.reduceMul, Int.reduceLT, Int.reduceLE, Int.reduceToNat, BitVec.reduceOfInt, BitVec.reduceToNat, reduceCtorEq, and_self, decide_true, decide_false, Bool.not_true, Bool.not_false, ne_eq, not_true_eq_false, not_false_eq_true, true_and, and_true]
  refine SemE.call fn_55 rfl rfl (cons64 _ s.d _ _ _ _ hr (by simp only [List.length_append, bytes8_len, bytes8_len, List.length_replicate, htl]; omega) (by omega)) ?_
  rintro _ w1 ⟨a1, rfl, hoff1, ha1, hr1, hg1⟩
  refine ⟨_, rfl, fun _ => hg1, ?_⟩
  have hl := hl.grow hg1
  have hoff := hoff1 _ hoff
  simp only [ev, fx, ↓reduceIte, Nat.reduceEqDiff, Nat.reduceLT, Nat.reduceLeDiff, Nat.reduceAdd, Nat.reduceSub, Nat.reduceMul, Int.reduceLT, Int.reduceLE, Int.reduceToNat, BitVec.reduceOfInt, BitVec.reduceToNat, reduceCtorEq, and_self, decide_true, decide_false, Bool.not_true, Bool.not_false, ne_eq, not_true_eq_false, not_false_eq_true, true_and, and_true, Option.map_some]
  refine SemE.storeB (v := .u64 s.d) (HL.startB (hl.at (k := 0) rfl)) 0 rfl rfl one_31 rfl rfl (by simp [dig8]) fun w2 hs => ⟨fun h => absurd h (by decide), ?_⟩
  simp only [List.set_cons_zero, dig8_set3] at hs
  have hr := hr1.keep hs hoff
  have hl := hl.call (k := 0) rfl hs
  simp only [List.set_cons_zero, List.append_nil] at hl
  clear hs hr1
  simp only [ev, fx, ↓reduceIte, Nat.reduceEqDiff, Nat.reduceLT, Nat.reduceLeDiff, Nat.reduceAdd, Nat.reduceSub, Nat.reduceMul, Int.reduceLT, Int.reduceLE, Int.reduceToNat, BitVec.reduceOfInt, BitVec.reduceToNat, reduceCtorEq, and_self, decide_true, decide_false, Bool.not_true, Bool.not_false, ne_eq, not_true_eq_false, not_false_eq_true, true_and, and_true]
  refine hK _ _ ?_; clear hK K
  refine EWp.seqO (fun i => [10].contains i) [(0, 0), (1, 0), (7, 0), (8, 0), (2, 2), (3, 0), (4, 0), (5, 0), (6, 0), (9, 0), (10, 2)] [0, 1] mixed (by kernel_rfl) fun K hK => ?_
  have hl := hl.drew
  have hr := hr.grow (w' := _root_.Go.World.drew _) ⟨rfl, rfl, rfl, Nat.le_refl _, fun _ _ => rfl⟩
  simp only [ev, fx, ↓reduceIte, Nat.reduceEqDiff, Nat.reduceLT, Nat.reduceLeDiff, Nat.reduceAdd, Nat.reduceSub, Nat.reduceMul, Int.reduceLT, Int.reduceLE, Int.reduceToNat, BitVec.reduceOfInt, BitVec.reduceToNat, reduceCtorEq, and_self, decide_true, decide_false, Bool.not_true, Bool.not_false, ne_eq, not_true_eq_false, not_false_eq_true, true_and, and_true]
  refine SemE.call fn_55 rfl rfl (cons64 _ s.e _ _ _ _ hr (by simp only [List.length_append, bytes8_len, bytes8_len, List.length_replicate, htl]; omega) (by omega)) ?_
  rintro _ w1 ⟨a1, rfl, hoff1, ha1, hr1, hg1⟩
  refine ⟨_, rfl, fun _ => hg1, ?_⟩
  have hl := hl.grow hg1
  have hoff := hoff1 _ hoff
  simp only [ev, fx, ↓reduceIte, Nat.reduceEqDiff, Nat.reduceLT, Nat.reduceLeDiff, Nat.reduceAdd, Nat.reduceSub, Nat.reduceMul, Int.reduceLT, Int.reduceLE, Int.reduceToNat, BitVec.reduceOfInt, BitVec.reduceToNat, reduceCtorEq, and_self, decide_true, decide_false, Bool.not_true, Bool.not_false, ne_eq, not_true_eq_false, not_false_eq_true, true_and, and_true, Option.map_some]
  refine SemE.storeB (v := .u64 s.e) (HL.startB (hl.at (k := 0) rfl)) 0 rfl rfl one_31 rfl rfl (by simp [dig8]) fun w2 hs => ⟨fun h => absurd h (by decide), ?_⟩
  simp only [List.set_cons_zero, dig8_set4] at hs
  have hr := hr1.keep hs hoff
  have hl := hl.call (k := 0) rfl hs
  simp only [List.set_cons_zero, List.append_nil] at hl
  clear hs hr1
  simp only [ev, fx, ↓reduceIte, Nat.reduceEqDiff, Nat.reduceLT, Nat.reduceLeDiff, Nat.reduceAdd, Nat.reduceSub, Nat.reduceMul, Int.reduceLT, Int.reduceLE, Int.reduceToNat, BitVec.reduceOfInt, BitVec.reduceToNat, reduceCtorEq, and_self, decide_true, decide_false, Bool.not_true, Bool.not_false, ne_eq, not_true_eq_false, not_false_eq_true, true_and, and_true]
  refine hK _ _ ?_; clear hK K
  refine EWp.seqO (fun i => [10].contains i) [(0, 0), (1, 0), (7, 0), (8, 0), (2, 2), (3, 0), (4, 0), (5, 0), (6, 0), (9, 0), (10, 2)] [0, 1] mixed (by kernel_rfl) fun K hK => ?_
  have hl := hl.drew
  have hr := hr.grow (w' := _root_.Go.World.drew _) ⟨rfl, rfl, rfl, Nat.le_refl _, fun _ _ => rfl⟩
  simp only [ev, fx, ↓reduceIte, Nat.reduceEqDiff, Nat.reduceLT, Nat.reduceLeDiff, Nat.reduceAdd, Nat.reduceSub, Nat.reduceMul, Int.reduceLT, Int.reduceLE, Int.reduceToNat, BitVec.reduceOfInt, BitVec.reduceToNat, reduceCtorEq, and_self, decide_true, decide_false, Bool.not_true, Bool.not_false, ne_eq, not_true_eq_false, not_false_eq_true, true_and, and_true]
  refine SemE.call fn_55 rfl rfl (cons64 _ s.f _ _ _ _ hr (by simp only [List.length_append, bytes8_len, bytes8_len, List.length_replicate, htl]; omega) (by omega)) ?_
  rintro _ w1 ⟨a1, rfl, hoff1, ha1, hr1, hg1⟩
  refine ⟨_, rfl, fun _ => hg1, ?_⟩
  have hl := hl.grow hg1
  have hoff := hoff1 _ hoff
  simp only [ev, fx, ↓reduceIte, Nat.reduceEqDiff, Nat.reduceLT, Nat.reduceLeDiff, Nat.reduceAdd, Nat.reduceSub, Nat.reduceMul, Int.reduceLT, Int.reduceLE, Int.reduceToNat, BitVec.reduceOfInt, BitVec.reduceToNat, reduceCtorEq, and_self, decide_true, decide_false, Bool.not_true, Bool.not_false, ne_eq, not_true_eq_false, not_false_eq_true, true_and, and_true, Option.map_some]
  refine SemE.storeB (v := .u64 s.f) (HL.startB (hl.at (k := 0) rfl)) 0 rfl rfl one_31 rfl rfl (by simp [dig8]) fun w2 hs => ⟨fun h => absurd h (by decide), ?_⟩
  simp only [List.set_cons_zero, dig8_set5] at hs
  have hr := hr1.keep hs hoff
  have hl := hl.call (k := 0) rfl hs
  simp only [List.set_cons_zero, List.append_nil] at hl
  clear hs hr1
  simp only [ev, fx, ↓reduceIte, Nat.reduceEqDiff, Nat.reduceLT, Nat.reduceLeDiff, Nat.reduceAdd, Nat.reduceSub, Nat.reduceMul, Int.reduceLT, Int.reduceLE, Int.reduceToNat, BitVec.reduceOfInt, BitVec.reduceToNat, reduceCtorEq, and_self, decide_true, decide_false, Bool.not_true, Bool.not_false, ne_eq, not_true_eq_false, not_false_eq_true, true_and, and_true]
  refine hK _ _ ?_; clear hK K
  refine EWp.seqO (fun i => [10].contains i) [(0, 0), (1, 0), (7, 0), (8, 0), (2, 2), (3, 0), (4, 0), (5, 0), (6, 0), (9, 0), (10, 2)] [0, 1] mixed (by kernel_rfl) fun K hK => ?_
  have hl := hl.drew
  have hr := hr.grow (w' := _root_.Go.World.drew _) ⟨rfl, rfl, rfl, Nat.le_refl _, fun _ _ => rfl⟩
  simp only [ev, fx, ↓reduceIte, Nat.reduceEqDiff, Nat.reduceLT, Nat.reduceLeDiff, Nat.reduceAdd, Nat.reduceSub, Nat.reduceMul, Int.reduceLT, Int.reduceLE, Int.reduceToNat, BitVec.reduceOfInt, BitVec.reduceToNat, reduceCtorEq, and_self, decide_true, decide_false, Bool.not_true, Bool.not_false, ne_eq, not_true_eq_false, not_false_eq_true, true_and, and_true]
  refine SemE.call fn_55 rfl rfl (cons64 _ s.g _ _ _ _ hr (by simp only [List.length_append, bytes8_len, bytes8_len, List.length_replicate, htl]; omega) (by omega)) ?_
  rintro _ w1 ⟨a1, rfl, hoff1, ha1, hr1, hg1⟩
  refine ⟨_, rfl, fun _ => hg1, ?_⟩
  have hl := hl.grow hg1
  have hoff := hoff1 _ hoff
  simp only [ev, fx, ↓reduceIte, Nat.reduceEqDiff, Nat.reduceLT, Nat.reduceLeDiff, Nat.reduceAdd, Nat.reduceSub, Nat.reduceMul, Int.reduceLT, Int.reduceLE, Int.reduceToNat, BitVec.reduceOfInt, BitVec.reduceToNat, reduceCtorEq, and_self, decide_true, decide_false, Bool.not_true, Bool.not_false, ne_eq, not_true_eq_false, not_false_eq_true, true_and, and_true, Option.map_some]
  refine SemE.storeB (v := .u64 s.g) (HL.startB (hl.at (k := 0) rfl)) 0 rfl rfl one_31 rfl rfl (by simp [dig8]) fun w2 hs => ⟨fun h => absurd h (by decide), ?_⟩
  simp only [List.set_cons_zero, dig8_set6] at hs
  have hr := hr1.keep hs hoff
  have hl := hl.call (k := 0) rfl hs
  simp only [List.set_cons_zero, List.append_nil] at hl
  clear hs hr1
  simp only [ev, fx, ↓reduceIte, Nat.reduceEqDiff, Nat.reduceLT, Nat.reduceLeDiff, Nat.reduceAdd, Nat.reduceSub, Nat.reduceMul, Int.reduceLT, Int.reduceLE, Int.reduceToNat, BitVec.reduceOfInt, BitVec.reduceToNat, reduceCtorEq, and_self, decide_true, decide_false, Bool.not_true, Bool.not_false, ne_eq, not_true_eq_false, not_false_eq_true, true_and, and_true]
  refine hK _ _ ?_; clear hK K
  refine EWp.seqO (fun i => [10].contains i) [(0, 0), (1, 0), (7, 0), (8, 0), (2, 2), (3, 0), (4, 0), (5, 0), (6, 0), (9, 0), (10, 2)] [0, 1] mixed (by kernel_rfl) fun K hK => ?_
  have hl := hl.drew
  have hr := hr.grow (w' := _root_.Go.World.drew _) ⟨rfl, rfl, rfl, Nat.le_refl _, fun _ _ => rfl⟩
  simp only [ev, fx, ↓reduceIte, Nat.reduceEqDiff, Nat.reduceLT, Nat.reduceLeDiff, Nat.reduceAdd, Nat.reduceSub, Nat.reduceMul, Int.reduceLT, Int.reduceLE, Int.reduceToNat, BitVec.reduceOfInt, BitVec.reduceToNat, reduceCtorEq, and_self, decide_true, decide_false, Bool.not_true, Bool.not_false, ne_eq, not_true_eq_false, not_false_eq_true, true_and, and_true]
  refine SemE.call fn_55 rfl rfl (cons64 _ s.h _ _ _ _ hr (by simp only [List.length_append, bytes8_len, bytes8_len, List.length_replicate, htl]; omega) (by omega)) ?_
  rintro _ w1 ⟨a1, rfl, hoff1, ha1, hr1, hg1⟩
  refine ⟨_, rfl, fun _ => hg1, ?_⟩
  have hl := hl.grow hg1
  have hoff := hoff1 _ hoff
  simp only [ev, fx, ↓reduceIte, Nat.reduceEqDiff, Nat.reduceLT, Nat.reduceLeDiff, Nat.reduceAdd, Nat.reduceSub, Nat.reduceMul, Int.reduceLT, Int.reduceLE, Int.reduceToNat, BitVec.reduceOfInt, BitVec.reduceToNat, reduceCtorEq, and_self, decide_true, decide_false, Bool.not_true, Bool.not_false, ne_eq, not_true_eq_false, not_false_eq_true, true_and, and_true, Option.map_some]
  refine SemE.storeB (v := .u64 s.h) (HL.startB (hl.at (k := 0) rfl)) 0 rfl rfl one_31 rfl rfl (by simp [dig8]) fun w2 hs => ⟨fun h => absurd h (by decide), ?_⟩
  simp only [List.set_cons_zero, dig8_set7] at hs
  have hr := hr1.keep hs hoff
  have hl := hl.call (k := 0) rfl hs
  simp only [List.set_cons_zero, List.append_nil] at hl
  clear hs hr1
  simp only [ev, fx, ↓reduceIte, Nat.reduceEqDiff, Nat.reduceLT, Nat.reduceLeDiff, Nat.reduceAdd, Nat.reduceSub, Nat.reduceMul, Int.reduceLT, Int.reduceLE, Int.reduceToNat, BitVec.reduceOfInt, BitVec.reduceToNat, reduceCtorEq, and_self, decide_true, decide_false, Bool.not_true, Bool.not_false, ne_eq, not_true_eq_false, not_false_eq_true, true_and, and_true]
  refine hK _ _ ?_; clear hK K
  have hl : HL w _ [b] [(b, 76, digC s x0 nx0 ln0 ki)] := hl
  have hql : (tl ++ (List.replicate (128 - m) 0#8 ++ bytes8 ln)).length = 136 := by simp only [List.length_append, bytes8_len, List.length_replicate, htl]; omega
  have emin : min 136 128 = 128 := rfl
  refine EWp.seqR [0, 1] fun K hK => ?_
  simp only [ev, fx, ↓reduceIte, Nat.reduceEqDiff, Nat.reduceLT, Nat.reduceLeDiff, Nat.reduceAdd, Nat.reduceSub, Nat.reduceMul, Int.reduceLT, Int.reduceLE, Int.reduceToNat, BitVec.reduceOfInt, BitVec.reduceToNat, reduceCtorEq, and_self, decide_true, decide_false, Bool.not_true, Bool.not_false, ne_eq, not_true_eq_false, not_false_eq_true, true_and, and_true, sl0, Option.map_some]
  repeat (refine And.intro (by omega) ?_)
  refine SemE.copy (HL.startB (hl.at (k := 0) rfl)) 0 slof_23 rfl rfl hr (by rw [List.length_map, hql]) (fun h => by have := ha1 h; omega) (isOneB _) rfl (by rw [digC_length _ _ _ _ _ hx0, emin]; omega) rfl fun w3 hs => ?_
  have hsp := digC_splice s x0 (tl ++ (List.replicate (128 - m) 0#8 ++ bytes8 ln)) nx0 0 128 ln0 ki hx0 (by omega) (by rw [hql]; omega)
  simp only [Nat.add_zero] at hsp
  simp only [emin] at hs ⊢
  rw [List.set_cons_zero, hsp] at hs
  have hr := hr.keep hs hoff
  have hl := hl.call (k := 0) rfl hs
  simp only [List.set_cons_zero, List.append_nil] at hl
  clear hs hsp
  have hx1 : x0.take 0 ++ (tl ++ (List.replicate (128 - m) 0#8 ++ bytes8 ln)).take 128 ++ x0.drop (0 + 128) = tl ++ List.replicate (128 - m) 0#8 := by
    rw [List.take_zero, List.nil_append, ← List.append_assoc, List.take_left' (by rw [List.length_append, List.length_replicate, htl]; omega), List.drop_of_length_le (by omega), List.append_nil]
  rw [hx1] at hl
  have hx1l : (tl ++ List.replicate (128 - m) 0#8).length = 128 := by rw [List.length_append, List.length_replicate, htl]; omega
  have hx1m : (tl ++ List.replicate (128 - m) 0#8).take m = tl := List.take_left' htl
  have hDig := hDig _ hx1l hx1m
  have hrd := hr.drop 128 (c - 68) (by rw [List.length_map, hql]; omega)
  rw [← List.map_drop, ← List.append_assoc, List.drop_left' hx1l] at hrd
  generalize tl ++ List.replicate (128 - m) 0#8 = x1 at *
  have hoff := hoff.slice 128 (c - 68)
  clear hr
  simp only [ev, fx, ↓reduceIte, Nat.reduceEqDiff, Nat.reduceLT, Nat.reduceLeDiff, Nat.reduceAdd, Nat.reduceSub, Nat.reduceMul, Int.reduceLT, Int.reduceLE, Int.reduceToNat, BitVec.reduceOfInt, BitVec.reduceToNat, reduceCtorEq, and_self, decide_true, decide_false, Bool.not_true, Bool.not_false, ne_eq, not_true_eq_false, not_false_eq_true, true_and, and_true]
  repeat (refine And.intro (by omega) ?_)
  refine hK _ _ ?_; clear hK K
  refine EWp.seqR [0, 1] fun K hK => ?_
  simp only [ev, fx, ↓reduceIte, Nat.reduceEqDiff, Nat.reduceLT, Nat.reduceLeDiff, Nat.reduceAdd, Nat.reduceSub, Nat.reduceMul, Int.reduceLT, Int.reduceLE, Int.reduceToNat, BitVec.reduceOfInt, BitVec.reduceToNat, reduceCtorEq, and_self, decide_true, decide_false, Bool.not_true, Bool.not_false, ne_eq, not_true_eq_false, not_false_eq_true, true_and, and_true]
  refine SemE.call fn_55 rfl rfl (cons64 _ ln [] _ _ _ (by rw [List.append_nil]; exact hrd) (by simp) (by omega)) ?_
  rintro _ w4 ⟨a4, rfl, hoff4, ha4, hr4, hg4⟩
  refine ⟨_, rfl, ?_⟩
  have hl := hl.grow hg4
  simp only [ev, fx, ↓reduceIte, Nat.reduceEqDiff, Nat.reduceLT, Nat.reduceLeDiff, Nat.reduceAdd, Nat.reduceSub, Nat.reduceMul, Int.reduceLT, Int.reduceLE, Int.reduceToNat, BitVec.reduceOfInt, BitVec.reduceToNat, reduceCtorEq, and_self, decide_true, decide_false, Bool.not_true, Bool.not_false, ne_eq, not_true_eq_false, not_false_eq_true, true_and, and_true]
  refine SemE.storeB (v := .u64 ln) hl 0 rfl rfl one_31 rfl rfl (by rw [digC_length _ _ _ _ _ hx1l]; omega) fun w5 hl => ?_
  rw [List.set_cons_zero, digC_len _ _ _ _ _ _ hx1l] at hl
  simp only [ev, fx, ↓reduceIte, Nat.reduceEqDiff, Nat.reduceLT, Nat.reduceLeDiff, Nat.reduceAdd, Nat.reduceSub, Nat.reduceMul, Int.reduceLT, Int.reduceLE, Int.reduceToNat, BitVec.reduceOfInt, BitVec.reduceToNat, reduceCtorEq, and_self, decide_true, decide_false, Bool.not_true, Bool.not_false, ne_eq, not_true_eq_false, not_false_eq_true, true_and, and_true]
  refine hK _ _ ?_; clear hK K
  refine EWp.seqR [0, 1] fun K hK => ?_
  simp only [ev, fx, ↓reduceIte, Nat.reduceEqDiff, Nat.reduceLT, Nat.reduceLeDiff, Nat.reduceAdd, Nat.reduceSub, Nat.reduceMul, Int.reduceLT, Int.reduceLE, Int.reduceToNat, BitVec.reduceOfInt, BitVec.reduceToNat, reduceCtorEq, and_self, decide_true, decide_false, Bool.not_true, Bool.not_false, ne_eq, not_true_eq_false, not_false_eq_true, true_and, and_true]
  refine SemE.loadB hl 0 rfl one_31 rfl rfl (digC_len_get _ _ _ _ _ hx1l) ?_
  have hmn : (BitVec.ofNat 64 m).toNat = m := by rw [BitVec.toNat_ofNat]; omega
  simp only [ev, fx, ↓reduceIte, Nat.reduceEqDiff, Nat.reduceLT, Nat.reduceLeDiff, Nat.reduceAdd, Nat.reduceSub, Nat.reduceMul, Int.reduceLT, Int.reduceLE, Int.reduceToNat, BitVec.reduceOfInt, BitVec.reduceToNat, reduceCtorEq, and_self, decide_true, decide_false, Bool.not_true, Bool.not_false, ne_eq, not_true_eq_false, not_false_eq_true, true_and, and_true, hrm, hmn]
  repeat (refine And.intro (by omega) ?_)
  refine SemE.storeB (v := .nat m) hl 0 rfl rfl one_3 rfl rfl (by rw [digC_length _ _ _ _ _ hx1l]; omega) fun w6 hl => ?_
  rw [List.set_cons_zero, digC_nx _ _ _ _ _ _ hx1l] at hl
  simp only [ev, fx, ↓reduceIte, Nat.reduceEqDiff, Nat.reduceLT, Nat.reduceLeDiff, Nat.reduceAdd, Nat.reduceSub, Nat.reduceMul, Int.reduceLT, Int.reduceLE, Int.reduceToNat, BitVec.reduceOfInt, BitVec.reduceToNat, reduceCtorEq, and_self, decide_true, decide_false, Bool.not_true, Bool.not_false, ne_eq, not_true_eq_false, not_false_eq_true, true_and, and_true]
  refine hK _ _ ?_; clear hK K
  refine EWp.seqR [4] fun K hK => ?_
  simp only [ev, fx, ↓reduceIte, Nat.reduceEqDiff, Nat.reduceLT, Nat.reduceLeDiff, Nat.reduceAdd, Nat.reduceSub, Nat.reduceMul, Int.reduceLT, Int.reduceLE, Int.reduceToNat, BitVec.reduceOfInt, BitVec.reduceToNat, reduceCtorEq, and_self, decide_true, decide_false, Bool.not_true, Bool.not_false, ne_eq, not_true_eq_false, not_false_eq_true, true_and, and_true]
  repeat (refine And.intro (by omega) ?_)
  refine hK _ _ ?_; clear hK K
  exact EWp.ret (BodyE.tmp1 rfl rfl ⟨rfl, _, hDig, hl⟩)

set_option maxRecDepth 100000 in
/-- Bytes that are no kept state are refused. -/
theorem unF (b : Nat) (s0 : S8) (x0 : List B8) (nx0 : Nat) (ln0 : BitVec 64) (ki : Kd) (hx0 : x0.length = 128) (bs : List B8) (a : Option Addr) (n c : Nat) (w : World) (hb : w.heap[b]? = some (.cells ((digC s0 x0 nx0 ln0 ki).map SV.val).toArray 76 (0, 0)))
    (htx : Txt w (.sl a n c) bs) (hbad : bs.length ≠ 204 ∨ bs.take 4 ≠ magicB ki) :
    Calls Tryd.prog 43 #[(SV.ptr ⟨b, 0, none⟩).val, (SV.sl a n c).val] w fun e w' => ∃ v, e = .returned v.val ∧ ErrV false v ∧ Grow w w' := by
  refine calls_E [.ptr ⟨b, 0, none⟩, .sl a n c] Tryd.func43 rfl Tryd.ntmps43 rfl ?_
  have hl := HL.startB hb
  have hln : bs.length = n ∧ n ≤ c := by
    obtain ⟨a', c', he, hc', _, _⟩ := htx
    simp only [SV.sl.injEq] at he
    obtain ⟨_, rfl, rfl⟩ := he
    exact ⟨rfl, hc'⟩
  obtain ⟨hln, hnc⟩ := hln
  refine EWp.seqR [0, 1] fun K hK => ?_
  simp only [ev, fx, ↓reduceIte, Nat.reduceEqDiff, Nat.reduceLT, Nat.reduceLeDiff, Nat.reduceAdd, Nat.reduceSub, Nat.reduceMul, Int.reduceLT, Int.reduceLE, Int.reduceToNat, BitVec.reduceOfInt, BitVec.reduceToNat, reduceCtorEq, and_self, decide_true, decide_false, Bool.not_true, Bool.not_false, ne_eq, not_true_eq_false, not_false_eq_true, true_and, and_true]
  repeat (refine And.intro (by omega) ?_)
  refine hK _ _ ?_; clear hK K
  refine EWp.ifR [0, 1, 7] fun K hK => ?_
  by_cases h4 : n < 4
  · simp only [ev, fx, ↓reduceIte, Nat.reduceEqDiff, Nat.reduceLT, Nat.reduceLeDiff, Nat.reduceAdd, Nat.reduceSub, Nat.reduceMul, Int.reduceLT, Int.reduceLE, Int.reduceToNat, BitVec.reduceOfInt, BitVec.reduceToNat, reduceCtorEq, and_self, decide_true, decide_false, Bool.not_true, Bool.not_false, ne_eq, not_true_eq_false, not_false_eq_true, true_and, and_true, h4]
    refine hK _ _ true rfl (fun _ => ?_) (fun h => by cases h); clear hK K
    refine EWp.seqR [4] fun K hK => ?_
    simp only [ev, fx, ↓reduceIte, Nat.reduceEqDiff, Nat.reduceLT, Nat.reduceLeDiff, Nat.reduceAdd, Nat.reduceSub, Nat.reduceMul, Int.reduceLT, Int.reduceLE, Int.reduceToNat, BitVec.reduceOfInt, BitVec.reduceToNat, reduceCtorEq, and_self, decide_true, decide_false, Bool.not_true, Bool.not_false, ne_eq, not_true_eq_false, not_false_eq_true, true_and, and_true]
    refine SemE.call fn_54 rfl rfl (errorsNew _ _) ?_
    rintro _ we ⟨ve, rfl, hev, hge⟩
    refine ⟨_, rfl, ?_⟩
    simp only [ev, fx, ↓reduceIte, Nat.reduceEqDiff, Nat.reduceLT, Nat.reduceLeDiff, Nat.reduceAdd, Nat.reduceSub, Nat.reduceMul, Int.reduceLT, Int.reduceLE, Int.reduceToNat, BitVec.reduceOfInt, BitVec.reduceToNat, reduceCtorEq, and_self, decide_true, decide_false, Bool.not_true, Bool.not_false, ne_eq, not_true_eq_false, not_false_eq_true, true_and, and_true]
    repeat (refine And.intro (by omega) ?_)
    refine hK _ _ ?_; clear hK K
    exact EWp.retT (BodyE.tmp1 rfl rfl ⟨ve, rfl, hev, hge⟩)
  simp only [ev, fx, ↓reduceIte, Nat.reduceEqDiff, Nat.reduceLT, Nat.reduceLeDiff, Nat.reduceAdd, Nat.reduceSub, Nat.reduceMul, Int.reduceLT, Int.reduceLE, Int.reduceToNat, BitVec.reduceOfInt, BitVec.reduceToNat, reduceCtorEq, and_self, decide_true, decide_false, Bool.not_true, Bool.not_false, ne_eq, not_true_eq_false, not_false_eq_true, true_and, and_true, h4]
  refine hK _ _ false rfl (fun h => by cases h) (fun _ => ?_); clear hK K
  refine EWp.skipThen ?_
  refine EWp.cut [0, 1] (fun S' w' => S' = [(0, .ptr ⟨b, 0, none⟩), (1, .sl a n c)] ∧ w' = w ∧ bs.take 4 = magicB ki) ?_ ?_
  case refine_1 =>
    have hk4 := htx.take 4 (by omega)
    refine EWp.block ?_
    cases ki
    · refine EWp.brR [0, 1, 10] fun K hK => ?_
      simp only [ev, fx, ↓reduceIte, Nat.reduceEqDiff, Nat.reduceLT, Nat.reduceLeDiff, Nat.reduceAdd, Nat.reduceSub, Nat.reduceMul, Int.reduceLT, Int.reduceLE, Int.reduceToNat, BitVec.reduceOfInt, BitVec.reduceToNat, reduceCtorEq, and_self, decide_true, decide_false, Bool.not_true, Bool.not_false, ne_eq, not_true_eq_false, not_false_eq_true, true_and, and_true, szOf, sl0]
      refine SemE.loadB hl 0 rfl one_3 rfl rfl (digC_sz_get _ _ _ _ _ hx0) ?_
      simp only [ev, fx, ↓reduceIte, Nat.reduceEqDiff, Nat.reduceLT, Nat.reduceLeDiff, Nat.reduceAdd, Nat.reduceSub, Nat.reduceMul, Int.reduceLT, Int.reduceLE, Int.reduceToNat, BitVec.reduceOfInt, BitVec.reduceToNat, reduceCtorEq, and_self, decide_true, decide_false, Bool.not_true, Bool.not_false, ne_eq, not_true_eq_false, not_false_eq_true, true_and, and_true, szOf, sl0]
      repeat (refine And.intro (by omega) ?_)
      refine SemE.toStrT tostr_23_9 rfl hk4 rfl ?_
      simp only [ev, fx, ↓reduceIte, Nat.reduceEqDiff, Nat.reduceLT, Nat.reduceLeDiff, Nat.reduceAdd, Nat.reduceSub, Nat.reduceMul, Int.reduceLT, Int.reduceLE, Int.reduceToNat, BitVec.reduceOfInt, BitVec.reduceToNat, reduceCtorEq, and_self, decide_true, decide_false, Bool.not_true, Bool.not_false, ne_eq, not_true_eq_false, not_false_eq_true, true_and, and_true]
      refine SemE.plain _ (Plain.eqlStr (ys := magicB .k384) rfl rfl) rfl ?_
      simp only [ev, fx, ↓reduceIte, Nat.reduceEqDiff, Nat.reduceLT, Nat.reduceLeDiff, Nat.reduceAdd, Nat.reduceSub, Nat.reduceMul, Int.reduceLT, Int.reduceLE, Int.reduceToNat, BitVec.reduceOfInt, BitVec.reduceToNat, reduceCtorEq, and_self, decide_true, decide_false, Bool.not_true, Bool.not_false, ne_eq, not_true_eq_false, not_false_eq_true, true_and, and_true]
      by_cases hmg : bs.take 4 = magicB .k384
      · refine hK _ _ true (by simp [Env.op, Env.get, hmg]) (fun _ => ?_) (fun h => by cases h); clear hK K
        refine EWp.skip ?_
        simp only [BlockE, ThenE]
        exact ⟨rfl, trivial, hmg⟩
      refine hK _ _ false (by simp [Env.op, Env.get, hmg]) (fun h => by cases h) (fun _ => ?_); clear hK K
      refine EWp.brR [0, 1, 22] fun K hK => ?_
      simp only [ev, fx, ↓reduceIte, Nat.reduceEqDiff, Nat.reduceLT, Nat.reduceLeDiff, Nat.reduceAdd, Nat.reduceSub, Nat.reduceMul, Int.reduceLT, Int.reduceLE, Int.reduceToNat, BitVec.reduceOfInt, BitVec.reduceToNat, reduceCtorEq, and_self, decide_true, decide_false, Bool.not_true, Bool.not_false, ne_eq, not_true_eq_false, not_false_eq_true, true_and, and_true, szOf, sl0]
      refine SemE.loadB hl 0 rfl one_3 rfl rfl (digC_sz_get _ _ _ _ _ hx0) ?_
      simp only [ev, fx, ↓reduceIte, Nat.reduceEqDiff, Nat.reduceLT, Nat.reduceLeDiff, Nat.reduceAdd, Nat.reduceSub, Nat.reduceMul, Int.reduceLT, Int.reduceLE, Int.reduceToNat, BitVec.reduceOfInt, BitVec.reduceToNat, reduceCtorEq, and_self, decide_true, decide_false, Bool.not_true, Bool.not_false, ne_eq, not_true_eq_false, not_false_eq_true, true_and, and_true, szOf, sl0]
      refine hK _ _ false rfl (fun h => by cases h) (fun _ => ?_); clear hK K
      refine EWp.brR [0, 1, 34] fun K hK => ?_
      simp only [ev, fx, ↓reduceIte, Nat.reduceEqDiff, Nat.reduceLT, Nat.reduceLeDiff, Nat.reduceAdd, Nat.reduceSub, Nat.reduceMul, Int.reduceLT, Int.reduceLE, Int.reduceToNat, BitVec.reduceOfInt, BitVec.reduceToNat, reduceCtorEq, and_self, decide_true, decide_false, Bool.not_true, Bool.not_false, ne_eq, not_true_eq_false, not_false_eq_true, true_and, and_true, szOf, sl0]
      refine SemE.loadB hl 0 rfl one_3 rfl rfl (digC_sz_get _ _ _ _ _ hx0) ?_
      simp only [ev, fx, ↓reduceIte, Nat.reduceEqDiff, Nat.reduceLT, Nat.reduceLeDiff, Nat.reduceAdd, Nat.reduceSub, Nat.reduceMul, Int.reduceLT, Int.reduceLE, Int.reduceToNat, BitVec.reduceOfInt, BitVec.reduceToNat, reduceCtorEq, and_self, decide_true, decide_false, Bool.not_true, Bool.not_false, ne_eq, not_true_eq_false, not_false_eq_true, true_and, and_true, szOf, sl0]
      refine hK _ _ false rfl (fun h => by cases h) (fun _ => ?_); clear hK K
      refine EWp.brR [0, 1, 46] fun K hK => ?_
      simp only [ev, fx, ↓reduceIte, Nat.reduceEqDiff, Nat.reduceLT, Nat.reduceLeDiff, Nat.reduceAdd, Nat.reduceSub, Nat.reduceMul, Int.reduceLT, Int.reduceLE, Int.reduceToNat, BitVec.reduceOfInt, BitVec.reduceToNat, reduceCtorEq, and_self, decide_true, decide_false, Bool.not_true, Bool.not_false, ne_eq, not_true_eq_false, not_false_eq_true, true_and, and_true, szOf, sl0]
      refine SemE.loadB hl 0 rfl one_3 rfl rfl (digC_sz_get _ _ _ _ _ hx0) ?_
      simp only [ev, fx, ↓reduceIte, Nat.reduceEqDiff, Nat.reduceLT, Nat.reduceLeDiff, Nat.reduceAdd, Nat.reduceSub, Nat.reduceMul, Int.reduceLT, Int.reduceLE, Int.reduceToNat, BitVec.reduceOfInt, BitVec.reduceToNat, reduceCtorEq, and_self, decide_true, decide_false, Bool.not_true, Bool.not_false, ne_eq, not_true_eq_false, not_false_eq_true, true_and, and_true, szOf, sl0]
      refine hK _ _ false rfl (fun h => by cases h) (fun _ => ?_); clear hK K
      refine EWp.seqR [4] fun K hK => ?_
      simp only [ev, fx, ↓reduceIte, Nat.reduceEqDiff, Nat.reduceLT, Nat.reduceLeDiff, Nat.reduceAdd, Nat.reduceSub, Nat.reduceMul, Int.reduceLT, Int.reduceLE, Int.reduceToNat, BitVec.reduceOfInt, BitVec.reduceToNat, reduceCtorEq, and_self, decide_true, decide_false, Bool.not_true, Bool.not_false, ne_eq, not_true_eq_false, not_false_eq_true, true_and, and_true]
      refine SemE.call fn_54 rfl rfl (errorsNew _ _) ?_
      rintro _ we ⟨ve, rfl, hev, hge⟩
      refine ⟨_, rfl, ?_⟩
      simp only [ev, fx, ↓reduceIte, Nat.reduceEqDiff, Nat.reduceLT, Nat.reduceLeDiff, Nat.reduceAdd, Nat.reduceSub, Nat.reduceMul, Int.reduceLT, Int.reduceLE, Int.reduceToNat, BitVec.reduceOfInt, BitVec.reduceToNat, reduceCtorEq, and_self, decide_true, decide_false, Bool.not_true, Bool.not_false, ne_eq, not_true_eq_false, not_false_eq_true, true_and, and_true]
      repeat (refine And.intro (by omega) ?_)
      refine hK _ _ ?_; clear hK K
      refine EWp.ret ?_
      simp only [BlockE, ThenE]
      exact BodyE.tmp1 rfl rfl ⟨ve, rfl, hev, hge⟩
    · refine EWp.brR [0, 1, 10] fun K hK => ?_
      simp only [ev, fx, ↓reduceIte, Nat.reduceEqDiff, Nat.reduceLT, Nat.reduceLeDiff, Nat.reduceAdd, Nat.reduceSub, Nat.reduceMul, Int.reduceLT, Int.reduceLE, Int.reduceToNat, BitVec.reduceOfInt, BitVec.reduceToNat, reduceCtorEq, and_self, decide_true, decide_false, Bool.not_true, Bool.not_false, ne_eq, not_true_eq_false, not_false_eq_true, true_and, and_true, szOf, sl0]
      refine SemE.loadB hl 0 rfl one_3 rfl rfl (digC_sz_get _ _ _ _ _ hx0) ?_
      simp only [ev, fx, ↓reduceIte, Nat.reduceEqDiff, Nat.reduceLT, Nat.reduceLeDiff, Nat.reduceAdd, Nat.reduceSub, Nat.reduceMul, Int.reduceLT, Int.reduceLE, Int.reduceToNat, BitVec.reduceOfInt, BitVec.reduceToNat, reduceCtorEq, and_self, decide_true, decide_false, Bool.not_true, Bool.not_false, ne_eq, not_true_eq_false, not_false_eq_true, true_and, and_true, szOf, sl0]
      refine hK _ _ false rfl (fun h => by cases h) (fun _ => ?_); clear hK K
      refine EWp.brR [0, 1, 22] fun K hK => ?_
      simp only [ev, fx, ↓reduceIte, Nat.reduceEqDiff, Nat.reduceLT, Nat.reduceLeDiff, Nat.reduceAdd, Nat.reduceSub, Nat.reduceMul, Int.reduceLT, Int.reduceLE, Int.reduceToNat, BitVec.reduceOfInt, BitVec.reduceToNat, reduceCtorEq, and_self, decide_true, decide_false, Bool.not_true, Bool.not_false, ne_eq, not_true_eq_false, not_false_eq_true, true_and, and_true, szOf, sl0]
      refine SemE.loadB hl 0 rfl one_3 rfl rfl (digC_sz_get _ _ _ _ _ hx0) ?_
      simp only [ev, fx, ↓reduceIte, Nat.reduceEqDiff, Nat.reduceLT, Nat.reduceLeDiff, Nat.reduceAdd, Nat.reduceSub, Nat.reduceMul, Int.reduceLT, Int.reduceLE, Int.reduceToNat, BitVec.reduceOfInt, BitVec.reduceToNat, reduceCtorEq, and_self, decide_true, decide_false, Bool.not_true, Bool.not_false, ne_eq, not_true_eq_false, not_false_eq_true, true_and, and_true, szOf, sl0]
      refine hK _ _ false rfl (fun h => by cases h) (fun _ => ?_); clear hK K
      refine EWp.brR [0, 1, 34] fun K hK => ?_
      simp only [ev, fx, ↓reduceIte, Nat.reduceEqDiff, Nat.reduceLT, Nat.reduceLeDiff, Nat.reduceAdd, Nat.reduceSub, Nat.reduceMul, Int.reduceLT, Int.reduceLE, Int.reduceToNat, BitVec.reduceOfInt, BitVec.reduceToNat, reduceCtorEq, and_self, decide_true, decide_false, Bool.not_true, Bool.not_false, ne_eq, not_true_eq_false, not_false_eq_true, true_and, and_true, szOf, sl0]
      refine SemE.loadB hl 0 rfl one_3 rfl rfl (digC_sz_get _ _ _ _ _ hx0) ?_
      simp only [ev, fx, ↓reduceIte, Nat.reduceEqDiff, Nat.reduceLT, Nat.reduceLeDiff, Nat.reduceAdd, Nat.reduceSub, Nat.reduceMul, Int.reduceLT, Int.reduceLE, Int.reduceToNat, BitVec.reduceOfInt, BitVec.reduceToNat, reduceCtorEq, and_self, decide_true, decide_false, Bool.not_true, Bool.not_false, ne_eq, not_true_eq_false, not_false_eq_true, true_and, and_true, szOf, sl0]
      refine hK _ _ false rfl (fun h => by cases h) (fun _ => ?_); clear hK K
      refine EWp.brR [0, 1, 46] fun K hK => ?_
      simp only [ev, fx, ↓reduceIte, Nat.reduceEqDiff, Nat.reduceLT, Nat.reduceLeDiff, Nat.reduceAdd, Nat.reduceSub, Nat.reduceMul, Int.reduceLT, Int.reduceLE, Int.reduceToNat, BitVec.reduceOfInt, BitVec.reduceToNat, reduceCtorEq, and_self, decide_true, decide_false, Bool.not_true, Bool.not_false, ne_eq, not_true_eq_false, not_false_eq_true, true_and, and_true, szOf, sl0]
      refine SemE.loadB hl 0 rfl one_3 rfl rfl (digC_sz_get _ _ _ _ _ hx0) ?_
      simp only [ev, fx, ↓reduceIte, Nat.reduceEqDiff, Nat.reduceLT, Nat.reduceLeDiff, Nat.reduceAdd, Nat.reduceSub, Nat.reduceMul, Int.reduceLT, Int.reduceLE, Int.reduceToNat, BitVec.reduceOfInt, BitVec.reduceToNat, reduceCtorEq, and_self, decide_true, decide_false, Bool.not_true, Bool.not_false, ne_eq, not_true_eq_false, not_false_eq_true, true_and, and_true, szOf, sl0]
      repeat (refine And.intro (by omega) ?_)
      refine SemE.toStrT tostr_23_9 rfl hk4 rfl ?_
      simp only [ev, fx, ↓reduceIte, Nat.reduceEqDiff, Nat.reduceLT, Nat.reduceLeDiff, Nat.reduceAdd, Nat.reduceSub, Nat.reduceMul, Int.reduceLT, Int.reduceLE, Int.reduceToNat, BitVec.reduceOfInt, BitVec.reduceToNat, reduceCtorEq, and_self, decide_true, decide_false, Bool.not_true, Bool.not_false, ne_eq, not_true_eq_false, not_false_eq_true, true_and, and_true]
      refine SemE.plain _ (Plain.eqlStr (ys := magicB .k512) rfl rfl) rfl ?_
      simp only [ev, fx, ↓reduceIte, Nat.reduceEqDiff, Nat.reduceLT, Nat.reduceLeDiff, Nat.reduceAdd, Nat.reduceSub, Nat.reduceMul, Int.reduceLT, Int.reduceLE, Int.reduceToNat, BitVec.reduceOfInt, BitVec.reduceToNat, reduceCtorEq, and_self, decide_true, decide_false, Bool.not_true, Bool.not_false, ne_eq, not_true_eq_false, not_false_eq_true, true_and, and_true]
      by_cases hmg : bs.take 4 = magicB .k512
      · refine hK _ _ true (by simp [Env.op, Env.get, hmg]) (fun _ => ?_) (fun h => by cases h); clear hK K
        refine EWp.skip ?_
        simp only [BlockE, ThenE]
        exact ⟨rfl, trivial, hmg⟩
      refine hK _ _ false (by simp [Env.op, Env.get, hmg]) (fun h => by cases h) (fun _ => ?_); clear hK K
      refine EWp.seqR [4] fun K hK => ?_
      simp only [ev, fx, ↓reduceIte, Nat.reduceEqDiff, Nat.reduceLT, Nat.reduceLeDiff, Nat.reduceAdd, Nat.reduceSub, Nat.reduceMul, Int.reduceLT, Int.reduceLE, Int.reduceToNat, BitVec.reduceOfInt, BitVec.reduceToNat, reduceCtorEq, and_self, decide_true, decide_false, Bool.not_true, Bool.not_false, ne_eq, not_true_eq_false, not_false_eq_true, true_and, and_true]
      refine SemE.call fn_54 rfl rfl (errorsNew _ _) ?_
      rintro _ we ⟨ve, rfl, hev, hge⟩
      refine ⟨_, rfl, ?_⟩
      simp only [ev, fx, ↓reduceIte, Nat.reduceEqDiff, Nat.reduceLT, Nat.reduceLeDiff, Nat.reduceAdd, Nat.reduceSub, Nat.reduceMul, Int.reduceLT, Int.reduceLE, Int.reduceToNat, BitVec.reduceOfInt, BitVec.reduceToNat, reduceCtorEq, and_self, decide_true, decide_false, Bool.not_true, Bool.not_false, ne_eq, not_true_eq_false, not_false_eq_true, true_and, and_true]
      repeat (refine And.intro (by omega) ?_)
      refine hK _ _ ?_; clear hK K
      refine EWp.ret ?_
      simp only [BlockE, ThenE]
      exact BodyE.tmp1 rfl rfl ⟨ve, rfl, hev, hge⟩
    · refine EWp.brR [0, 1, 10] fun K hK => ?_
      simp only [ev, fx, ↓reduceIte, Nat.reduceEqDiff, Nat.reduceLT, Nat.reduceLeDiff, Nat.reduceAdd, Nat.reduceSub, Nat.reduceMul, Int.reduceLT, Int.reduceLE, Int.reduceToNat, BitVec.reduceOfInt, BitVec.reduceToNat, reduceCtorEq, and_self, decide_true, decide_false, Bool.not_true, Bool.not_false, ne_eq, not_true_eq_false, not_false_eq_true, true_and, and_true, szOf, sl0]
      refine SemE.loadB hl 0 rfl one_3 rfl rfl (digC_sz_get _ _ _ _ _ hx0) ?_
      simp only [ev, fx, ↓reduceIte, Nat.reduceEqDiff, Nat.reduceLT, Nat.reduceLeDiff, Nat.reduceAdd, Nat.reduceSub, Nat.reduceMul, Int.reduceLT, Int.reduceLE, Int.reduceToNat, BitVec.reduceOfInt, BitVec.reduceToNat, reduceCtorEq, and_self, decide_true, decide_false, Bool.not_true, Bool.not_false, ne_eq, not_true_eq_false, not_false_eq_true, true_and, and_true, szOf, sl0]
      refine hK _ _ false rfl (fun h => by cases h) (fun _ => ?_); clear hK K
      refine EWp.brR [0, 1, 22] fun K hK => ?_
      simp only [ev, fx, ↓reduceIte, Nat.reduceEqDiff, Nat.reduceLT, Nat.reduceLeDiff, Nat.reduceAdd, Nat.reduceSub, Nat.reduceMul, Int.reduceLT, Int.reduceLE, Int.reduceToNat, BitVec.reduceOfInt, BitVec.reduceToNat, reduceCtorEq, and_self, decide_true, decide_false, Bool.not_true, Bool.not_false, ne_eq, not_true_eq_false, not_false_eq_true, true_and, and_true, szOf, sl0]
      refine SemE.loadB hl 0 rfl one_3 rfl rfl (digC_sz_get _ _ _ _ _ hx0) ?_
      simp only [ev, fx, ↓reduceIte, Nat.reduceEqDiff, Nat.reduceLT, Nat.reduceLeDiff, Nat.reduceAdd, Nat.reduceSub, Nat.reduceMul, Int.reduceLT, Int.reduceLE, Int.reduceToNat, BitVec.reduceOfInt, BitVec.reduceToNat, reduceCtorEq, and_self, decide_true, decide_false, Bool.not_true, Bool.not_false, ne_eq, not_true_eq_false, not_false_eq_true, true_and, and_true, szOf, sl0]
      repeat (refine And.intro (by omega) ?_)
      refine SemE.toStrT tostr_23_9 rfl hk4 rfl ?_
      simp only [ev, fx, ↓reduceIte, Nat.reduceEqDiff, Nat.reduceLT, Nat.reduceLeDiff, Nat.reduceAdd, Nat.reduceSub, Nat.reduceMul, Int.reduceLT, Int.reduceLE, Int.reduceToNat, BitVec.reduceOfInt, BitVec.reduceToNat, reduceCtorEq, and_self, decide_true, decide_false, Bool.not_true, Bool.not_false, ne_eq, not_true_eq_false, not_false_eq_true, true_and, and_true]
      refine SemE.plain _ (Plain.eqlStr (ys := magicB .k224) rfl rfl) rfl ?_
      simp only [ev, fx, ↓reduceIte, Nat.reduceEqDiff, Nat.reduceLT, Nat.reduceLeDiff, Nat.reduceAdd, Nat.reduceSub, Nat.reduceMul, Int.reduceLT, Int.reduceLE, Int.reduceToNat, BitVec.reduceOfInt, BitVec.reduceToNat, reduceCtorEq, and_self, decide_true, decide_false, Bool.not_true, Bool.not_false, ne_eq, not_true_eq_false, not_false_eq_true, true_and, and_true]
      by_cases hmg : bs.take 4 = magicB .k224
      · refine hK _ _ true (by simp [Env.op, Env.get, hmg]) (fun _ => ?_) (fun h => by cases h); clear hK K
        refine EWp.skip ?_
        simp only [BlockE, ThenE]
        exact ⟨rfl, trivial, hmg⟩
      refine hK _ _ false (by simp [Env.op, Env.get, hmg]) (fun h => by cases h) (fun _ => ?_); clear hK K
      refine EWp.brR [0, 1, 34] fun K hK => ?_
      simp only [ev, fx, ↓reduceIte, Nat.reduceEqDiff, Nat.reduceLT, Nat.reduceLeDiff, Nat.reduceAdd, Nat.reduceSub, Nat.reduceMul, Int.reduceLT, Int.reduceLE, Int.reduceToNat, BitVec.reduceOfInt, BitVec.reduceToNat, reduceCtorEq, and_self, decide_true, decide_false, Bool.not_true, Bool.not_false, ne_eq, not_true_eq_false, not_false_eq_true, true_and, and_true, szOf, sl0]
      refine SemE.loadB hl 0 rfl one_3 rfl rfl (digC_sz_get _ _ _ _ _ hx0) ?_
      simp only [ev, fx, ↓reduceIte, Nat.reduceEqDiff, Nat.reduceLT, Nat.reduceLeDiff, Nat.reduceAdd, Nat.reduceSub, Nat.reduceMul, Int.reduceLT, Int.reduceLE, Int.reduceToNat, BitVec.reduceOfInt, BitVec.reduceToNat, reduceCtorEq, and_self, decide_true, decide_false, Bool.not_true, Bool.not_false, ne_eq, not_true_eq_false, not_false_eq_true, true_and, and_true, szOf, sl0]
      refine hK _ _ false rfl (fun h => by cases h) (fun _ => ?_); clear hK K
      refine EWp.brR [0, 1, 46] fun K hK => ?_
      simp only [ev, fx, ↓reduceIte, Nat.reduceEqDiff, Nat.reduceLT, Nat.reduceLeDiff, Nat.reduceAdd, Nat.reduceSub, Nat.reduceMul, Int.reduceLT, Int.reduceLE, Int.reduceToNat, BitVec.reduceOfInt, BitVec.reduceToNat, reduceCtorEq, and_self, decide_true, decide_false, Bool.not_true, Bool.not_false, ne_eq, not_true_eq_false, not_false_eq_true, true_and, and_true, szOf, sl0]
      refine SemE.loadB hl 0 rfl one_3 rfl rfl (digC_sz_get _ _ _ _ _ hx0) ?_
      simp only [ev, fx, ↓reduceIte, Nat.reduceEqDiff, Nat.reduceLT, Nat.reduceLeDiff, Nat.reduceAdd, Nat.reduceSub, Nat.reduceMul, Int.reduceLT, Int.reduceLE, Int.reduceToNat, BitVec.reduceOfInt, BitVec.reduceToNat, reduceCtorEq, and_self, decide_true, decide_false, Bool.not_true, Bool.not_false, ne_eq, not_true_eq_false, not_false_eq_true, true_and, and_true, szOf, sl0]
      refine hK _ _ false rfl (fun h => by cases h) (fun _ => ?_); clear hK K
      refine EWp.seqR [4] fun K hK => ?_
      simp only [ev, fx, ↓reduceIte, Nat.reduceEqDiff, Nat.reduceLT, Nat.reduceLeDiff, Nat.reduceAdd, Nat.reduceSub, Nat.reduceMul, Int.reduceLT, Int.reduceLE, Int.reduceToNat, BitVec.reduceOfInt, BitVec.reduceToNat, reduceCtorEq, and_self, decide_true, decide_false, Bool.not_true, Bool.not_false, ne_eq, not_true_eq_false, not_false_eq_true, true_and, and_true]
      refine SemE.call fn_54 rfl rfl (errorsNew _ _) ?_
      rintro _ we ⟨ve, rfl, hev, hge⟩
      refine ⟨_, rfl, ?_⟩
      simp only [ev, fx, ↓reduceIte, Nat.reduceEqDiff, Nat.reduceLT, Nat.reduceLeDiff, Nat.reduceAdd, Nat.reduceSub, Nat.reduceMul, Int.reduceLT, Int.reduceLE, Int.reduceToNat, BitVec.reduceOfInt, BitVec.reduceToNat, reduceCtorEq, and_self, decide_true, decide_false, Bool.not_true, Bool.not_false, ne_eq, not_true_eq_false, not_false_eq_true, true_and, and_true]
      repeat (refine And.intro (by omega) ?_)
      refine hK _ _ ?_; clear hK K
      refine EWp.ret ?_
      simp only [BlockE, ThenE]
      exact BodyE.tmp1 rfl rfl ⟨ve, rfl, hev, hge⟩
    · refine EWp.brR [0, 1, 10] fun K hK => ?_
      simp only [ev, fx, ↓reduceIte, Nat.reduceEqDiff, Nat.reduceLT, Nat.reduceLeDiff, Nat.reduceAdd, Nat.reduceSub, Nat.reduceMul, Int.reduceLT, Int.reduceLE, Int.reduceToNat, BitVec.reduceOfInt, BitVec.reduceToNat, reduceCtorEq, and_self, decide_true, decide_false, Bool.not_true, Bool.not_false, ne_eq, not_true_eq_false, not_false_eq_true, true_and, and_true, szOf, sl0]
      refine SemE.loadB hl 0 rfl one_3 rfl rfl (digC_sz_get _ _ _ _ _ hx0) ?_
      simp only [ev, fx, ↓reduceIte, Nat.reduceEqDiff, Nat.reduceLT, Nat.reduceLeDiff, Nat.reduceAdd, Nat.reduceSub, Nat.reduceMul, Int.reduceLT, Int.reduceLE, Int.reduceToNat, BitVec.reduceOfInt, BitVec.reduceToNat, reduceCtorEq, and_self, decide_true, decide_false, Bool.not_true, Bool.not_false, ne_eq, not_true_eq_false, not_false_eq_true, true_and, and_true, szOf, sl0]
      refine hK _ _ false rfl (fun h => by cases h) (fun _ => ?_); clear hK K
      refine EWp.brR [0, 1, 22] fun K hK => ?_
      simp only [ev, fx, ↓reduceIte, Nat.reduceEqDiff, Nat.reduceLT, Nat.reduceLeDiff, Nat.reduceAdd, Nat.reduceSub, Nat.reduceMul, Int.reduceLT, Int.reduceLE, Int.reduceToNat, BitVec.reduceOfInt, BitVec.reduceToNat, reduceCtorEq, and_self, decide_true, decide_false, Bool.not_true, Bool.not_false, ne_eq, not_true_eq_false, not_false_eq_true, true_and, and_true, szOf, sl0]
      refine SemE.loadB hl 0 rfl one_3 rfl rfl (digC_sz_get _ _ _ _ _ hx0) ?_
      simp only [ev, fx, ↓reduceIte, Nat.reduceEqDiff, Nat.reduceLT, Nat.reduceLeDiff, Nat.reduceAdd, Nat.reduceSub, Nat.reduceMul, Int.reduceLT, Int.reduceLE, Int.reduceToNat, BitVec.reduceOfInt, BitVec.reduceToNat, reduceCtorEq, and_self, decide_true, decide_false, Bool.not_true, Bool.not_false, ne_eq, not_true_eq_false, not_false_eq_true, true_and, and_true, szOf, sl0]
      refine hK _ _ false rfl (fun h => by cases h) (fun _ => ?_); clear hK K
      refine EWp.brR [0, 1, 34] fun K hK => ?_
      simp only [ev, fx, ↓reduceIte, Nat.reduceEqDiff, Nat.reduceLT, Nat.reduceLeDiff, Nat.reduceAdd, Nat.reduceSub, Nat.reduceMul, Int.reduceLT, Int.reduceLE, Int.reduceToNat, BitVec.reduceOfInt, BitVec.reduceToNat, reduceCtorEq, and_self, decide_true, decide_false, Bool.not_true, Bool.not_false, ne_eq, not_true_eq_false, not_false_eq_true, true_and, and_true, szOf, sl0]
      refine SemE.loadB hl 0 rfl one_3 rfl rfl (digC_sz_get _ _ _ _ _ hx0) ?_
      simp only [ev, fx, ↓reduceIte, Nat.reduceEqDiff, Nat.reduceLT, Nat.reduceLeDiff, Nat.reduceAdd, Nat.reduceSub, Nat.reduceMul, Int.reduceLT, Int.reduceLE, Int.reduceToNat, BitVec.reduceOfInt, BitVec.reduceToNat, reduceCtorEq, and_self, decide_true, decide_false, Bool.not_true, Bool.not_false, ne_eq, not_true_eq_false, not_false_eq_true, true_and, and_true, szOf, sl0]
      repeat (refine And.intro (by omega) ?_)
      refine SemE.toStrT tostr_23_9 rfl hk4 rfl ?_
      simp only [ev, fx, ↓reduceIte, Nat.reduceEqDiff, Nat.reduceLT, Nat.reduceLeDiff, Nat.reduceAdd, Nat.reduceSub, Nat.reduceMul, Int.reduceLT, Int.reduceLE, Int.reduceToNat, BitVec.reduceOfInt, BitVec.reduceToNat, reduceCtorEq, and_self, decide_true, decide_false, Bool.not_true, Bool.not_false, ne_eq, not_true_eq_false, not_false_eq_true, true_and, and_true]
      refine SemE.plain _ (Plain.eqlStr (ys := magicB .k256) rfl rfl) rfl ?_
      simp only [ev, fx, ↓reduceIte, Nat.reduceEqDiff, Nat.reduceLT, Nat.reduceLeDiff, Nat.reduceAdd, Nat.reduceSub, Nat.reduceMul, Int.reduceLT, Int.reduceLE, Int.reduceToNat, BitVec.reduceOfInt, BitVec.reduceToNat, reduceCtorEq, and_self, decide_true, decide_false, Bool.not_true, Bool.not_false, ne_eq, not_true_eq_false, not_false_eq_true, true_and, and_true]
      by_cases hmg : bs.take 4 = magicB .k256
      · refine hK _ _ true (by simp [Env.op, Env.get, hmg]) (fun _ => ?_) (fun h => by cases h); clear hK K
        refine EWp.skip ?_
        simp only [BlockE, ThenE]
        exact ⟨rfl, trivial, hmg⟩
      refine hK _ _ false (by simp [Env.op, Env.get, hmg]) (fun h => by cases h) (fun _ => ?_); clear hK K
      refine EWp.brR [0, 1, 46] fun K hK => ?_
      simp only [ev, fx, ↓reduceIte, Nat.reduceEqDiff, Nat.reduceLT, Nat.reduceLeDiff, Nat.reduceAdd, Nat.reduceSub, Nat.reduceMul, Int.reduceLT, Int.reduceLE, Int.reduceToNat, BitVec.reduceOfInt, BitVec.reduceToNat, reduceCtorEq, and_self, decide_true, decide_false, Bool.not_true, Bool.not_false, ne_eq, not_true_eq_false, not_false_eq_true, true_and, and_true, szOf, sl0]
      refine SemE.loadB hl 0 rfl one_3 rfl rfl (digC_sz_get _ _ _ _ _ hx0) ?_
      simp only [ev, fx, ↓reduceIte, Nat.reduceEqDiff, Nat.reduceLT, Nat.reduceLeDiff, Nat.reduceAdd, Nat.reduceSub, Nat.reduceMul, Int.reduceLT, Int.reduceLE, Int.reduceToNat, BitVec.reduceOfInt, BitVec.reduceToNat, reduceCtorEq, and_self, decide_true, decide_false, Bool.not_true, Bool.not_false, ne_eq, not_true_eq_false, not_false_eq_true, true_and, and_true, szOf, sl0]
      refine hK _ _ false rfl (fun h => by cases h) (fun _ => ?_); clear hK K
      refine EWp.seqR [4] fun K hK => ?_
      simp only [ev, fx, ↓reduceIte, Nat.reduceEqDiff, Nat.reduceLT, Nat.reduceLeDiff, Nat.reduceAdd, Nat.reduceSub, Nat.reduceMul, Int.reduceLT, Int.reduceLE, Int.reduceToNat, BitVec.reduceOfInt, BitVec.reduceToNat, reduceCtorEq, and_self, decide_true, decide_false, Bool.not_true, Bool.not_false, ne_eq, not_true_eq_false, not_false_eq_true, true_and, and_true]
      refine SemE.call fn_54 rfl rfl (errorsNew _ _) ?_
      rintro _ we ⟨ve, rfl, hev, hge⟩
      refine ⟨_, rfl, ?_⟩
      simp only [ev, fx, ↓reduceIte, Nat.reduceEqDiff, Nat.reduceLT, Nat.reduceLeDiff, Nat.reduceAdd, Nat.reduceSub, Nat.reduceMul, Int.reduceLT, Int.reduceLE, Int.reduceToNat, BitVec.reduceOfInt, BitVec.reduceToNat, reduceCtorEq, and_self, decide_true, decide_false, Bool.not_true, Bool.not_false, ne_eq, not_true_eq_false, not_false_eq_true, true_and, and_true]
      repeat (refine And.intro (by omega) ?_)
      refine hK _ _ ?_; clear hK K
      refine EWp.ret ?_
      simp only [BlockE, ThenE]
      exact BodyE.tmp1 rfl rfl ⟨ve, rfl, hev, hge⟩
  rintro S' w' ⟨rfl, hw, hmg⟩
  rw [hw]; clear hw w'
  refine EWp.ifR [0, 1, 60] fun K hK => ?_
  have hne : ¬ n = 204 := fun h => hbad.elim (fun h' => h' (hln.trans h)) (fun h' => h' hmg)
  simp only [ev, fx, ↓reduceIte, Nat.reduceEqDiff, Nat.reduceLT, Nat.reduceLeDiff, Nat.reduceAdd, Nat.reduceSub, Nat.reduceMul, Int.reduceLT, Int.reduceLE, Int.reduceToNat, BitVec.reduceOfInt, BitVec.reduceToNat, reduceCtorEq, and_self, decide_true, decide_false, Bool.not_true, Bool.not_false, ne_eq, not_true_eq_false, not_false_eq_true, true_and, and_true, hne]
  refine hK _ _ true rfl (fun _ => ?_) (fun h => by cases h); clear hK K
  refine EWp.seqR [4] fun K hK => ?_
  simp only [ev, fx, ↓reduceIte, Nat.reduceEqDiff, Nat.reduceLT, Nat.reduceLeDiff, Nat.reduceAdd, Nat.reduceSub, Nat.reduceMul, Int.reduceLT, Int.reduceLE, Int.reduceToNat, BitVec.reduceOfInt, BitVec.reduceToNat, reduceCtorEq, and_self, decide_true, decide_false, Bool.not_true, Bool.not_false, ne_eq, not_true_eq_false, not_false_eq_true, true_and, and_true]
  refine SemE.call fn_54 rfl rfl (errorsNew _ _) ?_
  rintro _ we ⟨ve, rfl, hev, hge⟩
  refine ⟨_, rfl, ?_⟩
  simp only [ev, fx, ↓reduceIte, Nat.reduceEqDiff, Nat.reduceLT, Nat.reduceLeDiff, Nat.reduceAdd, Nat.reduceSub, Nat.reduceMul, Int.reduceLT, Int.reduceLE, Int.reduceToNat, BitVec.reduceOfInt, BitVec.reduceToNat, reduceCtorEq, and_self, decide_true, decide_false, Bool.not_true, Bool.not_false, ne_eq, not_true_eq_false, not_false_eq_true, true_and, and_true]
  repeat (refine And.intro (by omega) ?_)
  refine hK _ _ ?_; clear hK K
  exact EWp.retT (BodyE.tmp1 rfl rfl ⟨ve, rfl, hev, hge⟩)
end Go.Proofs.YtggbaffkjfofhaaDoor
