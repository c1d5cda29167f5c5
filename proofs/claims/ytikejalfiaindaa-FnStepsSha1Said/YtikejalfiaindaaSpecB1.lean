/- The reference's block of SHA-1, and the comparison of words. -/
import Derived.Test.YtikejalfiaindaaImpB1
set_option linter.unusedVariables false
set_option linter.unusedSimpArgs false
namespace Go.Proofs.Ytikejalfiaindaa
open Go

theorem left32C (x : W32) (k : Nat) (hk : k ≤ 32) (w : World) : Calls Try.prog 36 #[(SV.u32 x).val, (SV.nat k).val] w fun e w' => e = .returned (SV.u32 (rotl x k)).val ∧ Grow w w' := by
  refine calls_E [.u32 x, .nat k] Try.func36 rfl Try.ntmps36 rfl ?_
  refine EWp.seqR [0, 1] fun K hK => ?_
  simp only [ev, fx, ↓reduceIte, Nat.reduceEqDiff, Nat.reduceLT, Nat.reduceLeDiff, Nat.reduceAdd, Nat.reduceSub, Nat.reduceMul, Int.reduceLT, Int.reduceLE, Int.reduceToNat, BitVec.reduceOfInt, BitVec.reduceToNat, reduceCtorEq, and_self, decide_true, decide_false, Bool.not_true, Bool.not_false, ne_eq, not_true_eq_false, not_false_eq_true, true_and, and_true]
  repeat (refine And.intro (by omega) ?_)
  refine hK _ _ ?_; clear hK K
  refine EWp.seqO (fun _ => false) [(0, 0), (1, 0), (2, 0), (3, 0), (4, 0), (5, 0), (6, 0), (7, 0), (8, 0)] [4] mixed (by kernel_rfl) fun K hK => ?_
  simp only [ev, fx, ↓reduceIte, Nat.reduceEqDiff, Nat.reduceLT, Nat.reduceLeDiff, Nat.reduceAdd, Nat.reduceSub, Nat.reduceMul, Int.reduceLT, Int.reduceLE, Int.reduceToNat, BitVec.reduceOfInt, BitVec.reduceToNat, reduceCtorEq, and_self, decide_true, decide_false, Bool.not_true, Bool.not_false, ne_eq, not_true_eq_false, not_false_eq_true, true_and, and_true]
  refine ⟨by omega, ?_⟩
  repeat (refine And.intro (by omega) ?_)
  refine hK _ _ ?_; clear hK K
  exact EWp.ret (BodyE.tmp1 rfl rfl ⟨rfl, ⟨rfl, rfl, rfl, Nat.le_refl _, fun _ _ => rfl⟩⟩)

def wl (m : Nat → W32) (i : Nat) : List SV := (List.range i).map fun j => .u32 (sched m j)
theorem wl_succ (m : Nat → W32) (i : Nat) : wl m (i + 1) = wl m i ++ [.u32 (sched m i)] := by simp [wl, List.range_succ]
theorem wl_get (m : Nat → W32) {i j : Nat} (h : j < i) : (wl m i)[j]? = some (.u32 (sched m j)) := by simp [wl, h]
theorem wl_len (m : Nat → W32) (i : Nat) : (wl m i).length = i := by simp [wl]

theorem Rd.atB {w : World} {b : Nat} {vs : List SV} {j : Nat} {v : SV} (hr : Rd w (some ⟨b, 0, none⟩) vs) (h : vs[j]? = some v) : w.cell? ⟨b, j, none⟩ = some v.val := by
  have := hr.at h
  rwa [Addr.add_lit, Nat.zero_add] at this

def sQ (ph : Addr) (ch : Nat) (r : S5) : Env := [(0, .sl (some ph) 5 ch), (7, .u32 r.a), (8, .u32 r.b), (9, .u32 r.c), (10, .u32 r.d), (11, .u32 r.e)]
def sT (ph : Addr) (ch bv cv : Nat) (r : S5) (i : Nat) : Env := [(0, .sl (some ph) 5 ch), (5, .sl (some ⟨bv, 0, none⟩) 80 cv), (7, .u32 r.a), (8, .u32 r.b), (9, .u32 r.c), (10, .u32 r.d), (11, .u32 r.e), (100, .nat i)]

theorem add_swap (x k v : W32) : x + k + v = x + v + k := by rw [BitVec.add_assoc, BitVec.add_comm k v, ← BitVec.add_assoc]

def sU (ph : Addr) (ch bv cv : Nat) (r : S5) (i : Nat) : Env := [(0, .sl (some ph) 5 ch), (5, .sl (some ⟨bv, 0, none⟩) 80 cv), (7, .u32 r.a), (8, .u32 r.b), (9, .u32 r.c), (10, .u32 r.d), (11, .u32 r.e),
  (12, .nat i), (13, .u32 (fOf i r.b r.c r.d)), (14, .u32 (kOf i)), (100, .nat i)]

set_option maxRecDepth 100000 in
theorem specBlock1 (s : S5) (ph : Addr) (ch : Nat) (pp : Addr) (n c : Nat) (bs : List B8) (w : World) (hh : Rd w (some ph) (five s)) (hr : Rd w (some pp) (bs.map SV.u8)) (hn : bs.length = n) (hn64 : 64 ≤ n) (hbig : n ≤ 68719476736) :
    Calls Try.prog 17 #[(SV.sl (some ph) 5 ch).val, (SV.sl (some pp) n c).val] w fun e w' => ∃ b, e = .returned (SV.sl (some ⟨b, 0, none⟩) 5 5).val ∧ HL w w' [] [(b, 50, five (blk s bs))] := by
  refine calls_E [.sl (some ph) 5 ch, .sl (some pp) n c] Try.func17 rfl Try.ntmps17 rfl ?_
  refine EWp.seqR [0, 1] fun K hK => ?_
  simp only [ev, fx, ↓reduceIte, Nat.reduceEqDiff, Nat.reduceLT, Nat.reduceLeDiff, Nat.reduceAdd, Nat.reduceSub, Nat.reduceMul, Int.reduceLT, Int.reduceLE, Int.reduceToNat, BitVec.reduceOfInt, BitVec.reduceToNat, reduceCtorEq, and_self, decide_true, decide_false, Bool.not_true, Bool.not_false, ne_eq, not_true_eq_false, not_false_eq_true, true_and, and_true]
  repeat (refine And.intro (by omega) ?_)
  refine hK _ _ ?_; clear hK K
  refine EWp.seqR [0, 1, 5] fun K hK => ?_
  simp only [ev, fx, ↓reduceIte, Nat.reduceEqDiff, Nat.reduceLT, Nat.reduceLeDiff, Nat.reduceAdd, Nat.reduceSub, Nat.reduceMul, Int.reduceLT, Int.reduceLE, Int.reduceToNat, BitVec.reduceOfInt, BitVec.reduceToNat, reduceCtorEq, and_self, decide_true, decide_false, Bool.not_true, Bool.not_false, ne_eq, not_true_eq_false, not_false_eq_true, true_and, and_true]
  refine SemE.buildSlice (vs := []) (HL.start w) 50 slof_22 rfl rfl (by omega) rfl fun b0 w1 hb0 hl => ?_
  have ho : Own 50 1 (.sl (some ⟨b0, 0, none⟩) 0 0) 0 (wl (wordAt bs) 0) [(b0, 50, wl (wordAt bs) 0)] := Own.full (by simp [wl]) (by unfold maxLen; omega)
  have hl : HL w w1 [] [(b0, 50, wl (wordAt bs) 0)] := hl
  generalize ([(b0, 50, wl (wordAt bs) 0)] : List Blk) = B at ho hl
  generalize (SV.sl (some ⟨b0, 0, none⟩) 0 0) = v at ho ⊢
  simp only [ev, fx, ↓reduceIte, Nat.reduceEqDiff, Nat.reduceLT, Nat.reduceLeDiff, Nat.reduceAdd, Nat.reduceSub, Nat.reduceMul, Int.reduceLT, Int.reduceLE, Int.reduceToNat, BitVec.reduceOfInt, BitVec.reduceToNat, reduceCtorEq, and_self, decide_true, decide_false, Bool.not_true, Bool.not_false, ne_eq, not_true_eq_false, not_false_eq_true, true_and, and_true]
  repeat (refine And.intro (by omega) ?_)
  refine hK _ _ ?_; clear hK K
  refine EWp.cut [0, 5] (fun S' w' => ∃ v B, S' = [(0, .sl (some ph) 5 ch), (5, v)] ∧ Own 50 1 v 80 (wl (wordAt bs) 80) B ∧ HL w w' [] B) ?_ ?_
  case refine_1 =>
    refine EWp.seqR [0, 1, 5, 16] fun K hK => ?_
    simp only [ev, fx, ↓reduceIte, Nat.reduceEqDiff, Nat.reduceLT, Nat.reduceLeDiff, Nat.reduceAdd, Nat.reduceSub, Nat.reduceMul, Int.reduceLT, Int.reduceLE, Int.reduceToNat, BitVec.reduceOfInt, BitVec.reduceToNat, reduceCtorEq, and_self, decide_true, decide_false, Bool.not_true, Bool.not_false, ne_eq, not_true_eq_false, not_false_eq_true, true_and, and_true]
    repeat (refine And.intro (by omega) ?_)
    refine hK _ _ ?_; clear hK K
    refine EWp.block ?_
    refine EWp.loop [0, 1, 5, 16] (fun k S' w' => ∃ i v B, i ≤ 80 ∧ k = 80 - i ∧ S' = [(0, .sl (some ph) 5 ch), (1, .sl (some pp) n c), (5, v), (16, .nat i)] ∧ Own 50 1 v i (wl (wordAt bs) i) B ∧ HL w w' [] B) 80 ?_ ?_
    case refine_1 => exact ⟨0, v, B, by omega, rfl, rfl, ho, hl⟩
    clear hl ho v B
    rintro k S' w' ⟨i, v, B, hi, rfl, rfl, ho, hl⟩
    refine EWp.seqR [0, 1, 5, 16, 17] fun K hK => ?_
    simp only [ev, fx, ↓reduceIte, Nat.reduceEqDiff, Nat.reduceLT, Nat.reduceLeDiff, Nat.reduceAdd, Nat.reduceSub, Nat.reduceMul, Int.reduceLT, Int.reduceLE, Int.reduceToNat, BitVec.reduceOfInt, BitVec.reduceToNat, reduceCtorEq, and_self, decide_true, decide_false, Bool.not_true, Bool.not_false, ne_eq, not_true_eq_false, not_false_eq_true, true_and, and_true]
    repeat (refine And.intro (by omega) ?_)
    refine hK _ _ ?_; clear hK K
    refine EWp.guard (b := decide (i < 80)) rfl (fun hlt => ?_) (fun hlt => ?_)
    case refine_2 =>
      have hlt := of_decide_eq_false hlt
      obtain rfl : i = 80 := by omega
      simp only [BlockE, ThenE, ↓reduceIte]
      exact ⟨v, B, rfl, ho, hl⟩
    have hlt := of_decide_eq_true hlt
    refine EWp.cut [0, 1, 5, 16] (fun S' w' => ∃ v B, S' = [(0, .sl (some ph) 5 ch), (1, .sl (some pp) n c), (5, v), (16, .nat i)] ∧ Own 50 1 v (i + 1) (wl (wordAt bs) (i + 1)) B ∧ HL w w' [] B) ?_ ?_
    case refine_2 =>
      clear hl ho v B
      rintro S' w' ⟨v, B, rfl, ho, hl⟩
      refine EWp.regR [0, 1, 5, 16] fun K hK => ?_
      simp only [ev, fx, ↓reduceIte, Nat.reduceEqDiff, Nat.reduceLT, Nat.reduceLeDiff, Nat.reduceAdd, Nat.reduceSub, Nat.reduceMul, Int.reduceLT, Int.reduceLE, Int.reduceToNat, BitVec.reduceOfInt, BitVec.reduceToNat, reduceCtorEq, and_self, decide_true, decide_false, Bool.not_true, Bool.not_false, ne_eq, not_true_eq_false, not_false_eq_true, true_and, and_true]
      exact ⟨by omega, hK _ _ fun S1 h1 => ⟨79 - i, by omega, i + 1, v, B, by omega, by omega, h1, ho, hl⟩⟩
    refine EWp.block ?_
    refine EWp.seqR [0, 1, 5, 6, 16] fun K hK => ?_
    simp only [ev, fx, ↓reduceIte, Nat.reduceEqDiff, Nat.reduceLT, Nat.reduceLeDiff, Nat.reduceAdd, Nat.reduceSub, Nat.reduceMul, Int.reduceLT, Int.reduceLE, Int.reduceToNat, BitVec.reduceOfInt, BitVec.reduceToNat, reduceCtorEq, and_self, decide_true, decide_false, Bool.not_true, Bool.not_false, ne_eq, not_true_eq_false, not_false_eq_true, true_and, and_true]
    repeat (refine And.intro (by omega) ?_)
    refine hK _ _ ?_; clear hK K
    have hr' := hr.grow hl.drew.toGrow
    refine EWp.ifR [0, 1, 5, 6, 16, 20] fun K hK => ?_
    simp only [ev, fx, ↓reduceIte, Nat.reduceEqDiff, Nat.reduceLT, Nat.reduceLeDiff, Nat.reduceAdd, Nat.reduceSub, Nat.reduceMul, Int.reduceLT, Int.reduceLE, Int.reduceToNat, BitVec.reduceOfInt, BitVec.reduceToNat, reduceCtorEq, and_self, decide_true, decide_false, Bool.not_true, Bool.not_false, ne_eq, not_true_eq_false, not_false_eq_true, true_and, and_true]
    refine hK _ _ (decide (i < 16)) rfl (fun h16 => ?_) (fun h16 => ?_) <;> clear hK K
    · have h16 := of_decide_eq_true h16
      have hb := fun j hj => byte_at (j := j) hr' hj
      refine EWp.seqO (fun i => [34, 35].contains i) [(0, 0), (1, 0), (2, 0), (3, 0), (4, 0), (5, 1), (6, 0), (7, 0), (8, 0), (9, 0), (10, 0), (11, 0), (12, 0), (13, 1), (14, 0), (15, 0), (16, 0), (17, 0), (18, 0), (19, 0), (20, 0), (21, 0), (22, 1), (23, 0), (24, 0), (25, 0), (26, 0), (27, 0), (28, 0), (29, 0), (30, 0), (31, 1), (32, 0), (33, 0), (34, 2), (35, 2), (36, 0)] [0, 1, 5, 16] mixed (by kernel_rfl) fun K hK => ?_
      have hl := hl.drew
      simp only [ev, fx, ↓reduceIte, Nat.reduceEqDiff, Nat.reduceLT, Nat.reduceLeDiff, Nat.reduceAdd, Nat.reduceSub, Nat.reduceMul, Int.reduceLT, Int.reduceLE, Int.reduceToNat, BitVec.reduceOfInt, BitVec.reduceToNat, reduceCtorEq, and_self, decide_true, decide_false, Bool.not_true, Bool.not_false, ne_eq, not_true_eq_false, not_false_eq_true, true_and, and_true]
      repeat (refine And.intro (by omega) ?_)
      refine StopR.load _ rfl one_5 rfl (hb (4 * i) (by omega)) ?_
      simp only [ev, fx, ↓reduceIte, Nat.reduceEqDiff, Nat.reduceLT, Nat.reduceLeDiff, Nat.reduceAdd, Nat.reduceSub, Nat.reduceMul, Int.reduceLT, Int.reduceLE, Int.reduceToNat, BitVec.reduceOfInt, BitVec.reduceToNat, reduceCtorEq, and_self, decide_true, decide_false, Bool.not_true, Bool.not_false, ne_eq, not_true_eq_false, not_false_eq_true, true_and, and_true]
      repeat (refine And.intro (by omega) ?_)
      refine StopR.load _ rfl one_5 rfl (hb (4 * i + 1) (by omega)) ?_
      simp only [ev, fx, ↓reduceIte, Nat.reduceEqDiff, Nat.reduceLT, Nat.reduceLeDiff, Nat.reduceAdd, Nat.reduceSub, Nat.reduceMul, Int.reduceLT, Int.reduceLE, Int.reduceToNat, BitVec.reduceOfInt, BitVec.reduceToNat, reduceCtorEq, and_self, decide_true, decide_false, Bool.not_true, Bool.not_false, ne_eq, not_true_eq_false, not_false_eq_true, true_and, and_true]
      repeat (refine And.intro (by omega) ?_)
      refine StopR.load _ rfl one_5 rfl (hb (4 * i + 2) (by omega)) ?_
      simp only [ev, fx, ↓reduceIte, Nat.reduceEqDiff, Nat.reduceLT, Nat.reduceLeDiff, Nat.reduceAdd, Nat.reduceSub, Nat.reduceMul, Int.reduceLT, Int.reduceLE, Int.reduceToNat, BitVec.reduceOfInt, BitVec.reduceToNat, reduceCtorEq, and_self, decide_true, decide_false, Bool.not_true, Bool.not_false, ne_eq, not_true_eq_false, not_false_eq_true, true_and, and_true]
      repeat (refine And.intro (by omega) ?_)
      refine StopR.load _ rfl one_5 rfl (hb (4 * i + 3) (by omega)) ?_
      simp only [ev, fx, ↓reduceIte, Nat.reduceEqDiff, Nat.reduceLT, Nat.reduceLeDiff, Nat.reduceAdd, Nat.reduceSub, Nat.reduceMul, Int.reduceLT, Int.reduceLE, Int.reduceToNat, BitVec.reduceOfInt, BitVec.reduceToNat, reduceCtorEq, and_self, decide_true, decide_false, Bool.not_true, Bool.not_false, ne_eq, not_true_eq_false, not_false_eq_true, true_and, and_true]
      repeat (refine And.intro (by omega) ?_)
      refine SemE.buildSlice (vs := [.u32 (be32 (bs.getD (4 * i) 0) (bs.getD (4 * i + 1) 0) (bs.getD (4 * i + 2) 0) (bs.getD (4 * i + 3) 0))]) (H := B) hl 50 slof_22 rfl rfl (by omega) rfl fun b1 w2 hb1 hl => ⟨fun h => absurd h (by decide), ?_⟩
      simp only [ev, fx, ↓reduceIte, Nat.reduceEqDiff, Nat.reduceLT, Nat.reduceLeDiff, Nat.reduceAdd, Nat.reduceSub, Nat.reduceMul, Int.reduceLT, Int.reduceLE, Int.reduceToNat, BitVec.reduceOfInt, BitVec.reduceToNat, reduceCtorEq, and_self, decide_true, decide_false, Bool.not_true, Bool.not_false, ne_eq, not_true_eq_false, not_false_eq_true, true_and, and_true]
      have hr1 : Rd w2 (some ⟨b1, 0, none⟩) [.u32 (be32 (bs.getD (4 * i) 0) (bs.getD (4 * i + 1) 0) (bs.getD (4 * i + 2) 0) (bs.getD (4 * i + 3) 0))] := Rd.blk (hl.sub (List.sublist_append_right B [(b1, 50, [.u32 (be32 (bs.getD (4 * i) 0) (bs.getD (4 * i + 1) 0) (bs.getD (4 * i + 2) 0) (bs.getD (4 * i + 3) 0))])])) (k := 0) rfl 0 1
      refine SemE.append hl ho slof_22 rfl rfl rfl hr1 rfl (fun h => by cases h) (by simp [SV.isOne]) (by omega) rfl fun v' B' w3 ho hl _ => ⟨fun h => absurd h (by decide), ?_⟩
      have hl := hl.sub (List.sublist_append_left B' _)
      simp only [ev, fx, ↓reduceIte, Nat.reduceEqDiff, Nat.reduceLT, Nat.reduceLeDiff, Nat.reduceAdd, Nat.reduceSub, Nat.reduceMul, Int.reduceLT, Int.reduceLE, Int.reduceToNat, BitVec.reduceOfInt, BitVec.reduceToNat, reduceCtorEq, and_self, decide_true, decide_false, Bool.not_true, Bool.not_false, ne_eq, not_true_eq_false, not_false_eq_true, true_and, and_true]
      repeat (refine And.intro (by omega) ?_)
      refine hK _ _ ?_; clear hK K
      refine EWp.exit ?_
      simp only [BlockE, ThenE, ↓reduceIte]
      refine ⟨v', B', rfl, ?_, hl⟩
      rw [wl_succ, sched_lo _ h16]
      exact ho
    · have h16 := of_decide_eq_false h16
      refine EWp.skipThen ?_
      obtain ⟨bv, cv, rfl, hcv⟩ := ho.pos (by omega)
      have hrv := (ho.rd (H := []) (by rw [List.append_nil]; exact hl) (w := w') rfl).grow (w' := w'.drew) ⟨rfl, rfl, rfl, Nat.le_refl _, fun _ _ => rfl⟩
      refine EWp.regO (fun i => [24, 25, 26].contains i) [(0, 0), (1, 0), (2, 0), (3, 0), (4, 0), (5, 1), (6, 0), (7, 0), (8, 0), (9, 0), (10, 1), (11, 0), (12, 0), (13, 0), (14, 0), (15, 0), (16, 1), (17, 0), (18, 0), (19, 0), (20, 0), (21, 0), (22, 1), (23, 0), (24, 2), (25, 2), (26, 2), (27, 0)] [0, 1, 5, 16] mixed (by kernel_rfl) fun K hK => ?_
      have hl := hl.drew
      simp only [ev, fx, ↓reduceIte, Nat.reduceEqDiff, Nat.reduceLT, Nat.reduceLeDiff, Nat.reduceAdd, Nat.reduceSub, Nat.reduceMul, Int.reduceLT, Int.reduceLE, Int.reduceToNat, BitVec.reduceOfInt, BitVec.reduceToNat, reduceCtorEq, and_self, decide_true, decide_false, Bool.not_true, Bool.not_false, ne_eq, not_true_eq_false, not_false_eq_true, true_and, and_true]
      repeat (refine And.intro (by omega) ?_)
      refine StopR.load (.u32 (sched (wordAt bs) (i - 3))) rfl one_50 rfl (hrv.atB (wl_get _ (by omega))) ?_
      simp only [ev, fx, ↓reduceIte, Nat.reduceEqDiff, Nat.reduceLT, Nat.reduceLeDiff, Nat.reduceAdd, Nat.reduceSub, Nat.reduceMul, Int.reduceLT, Int.reduceLE, Int.reduceToNat, BitVec.reduceOfInt, BitVec.reduceToNat, reduceCtorEq, and_self, decide_true, decide_false, Bool.not_true, Bool.not_false, ne_eq, not_true_eq_false, not_false_eq_true, true_and, and_true]
      repeat (refine And.intro (by omega) ?_)
      refine StopR.load (.u32 (sched (wordAt bs) (i - 8))) rfl one_50 rfl (hrv.atB (wl_get _ (by omega))) ?_
      simp only [ev, fx, ↓reduceIte, Nat.reduceEqDiff, Nat.reduceLT, Nat.reduceLeDiff, Nat.reduceAdd, Nat.reduceSub, Nat.reduceMul, Int.reduceLT, Int.reduceLE, Int.reduceToNat, BitVec.reduceOfInt, BitVec.reduceToNat, reduceCtorEq, and_self, decide_true, decide_false, Bool.not_true, Bool.not_false, ne_eq, not_true_eq_false, not_false_eq_true, true_and, and_true]
      repeat (refine And.intro (by omega) ?_)
      refine StopR.load (.u32 (sched (wordAt bs) (i - 14))) rfl one_50 rfl (hrv.atB (wl_get _ (by omega))) ?_
      simp only [ev, fx, ↓reduceIte, Nat.reduceEqDiff, Nat.reduceLT, Nat.reduceLeDiff, Nat.reduceAdd, Nat.reduceSub, Nat.reduceMul, Int.reduceLT, Int.reduceLE, Int.reduceToNat, BitVec.reduceOfInt, BitVec.reduceToNat, reduceCtorEq, and_self, decide_true, decide_false, Bool.not_true, Bool.not_false, ne_eq, not_true_eq_false, not_false_eq_true, true_and, and_true]
      repeat (refine And.intro (by omega) ?_)
      refine StopR.load (.u32 (sched (wordAt bs) (i - 16))) rfl one_50 rfl (hrv.atB (wl_get _ (by omega))) ?_
      simp only [ev, fx, ↓reduceIte, Nat.reduceEqDiff, Nat.reduceLT, Nat.reduceLeDiff, Nat.reduceAdd, Nat.reduceSub, Nat.reduceMul, Int.reduceLT, Int.reduceLE, Int.reduceToNat, BitVec.reduceOfInt, BitVec.reduceToNat, reduceCtorEq, and_self, decide_true, decide_false, Bool.not_true, Bool.not_false, ne_eq, not_true_eq_false, not_false_eq_true, true_and, and_true]
      repeat (refine And.intro (by omega) ?_)
      refine SemE.call fn_36 rfl rfl (left32C _ 1 (by decide) _) ?_
      rintro _ w4 ⟨rfl, hg4⟩
      refine ⟨_, rfl, fun _ => hg4, ?_⟩
      have hl := hl.grow hg4
      simp only [ev, fx, ↓reduceIte, Nat.reduceEqDiff, Nat.reduceLT, Nat.reduceLeDiff, Nat.reduceAdd, Nat.reduceSub, Nat.reduceMul, Int.reduceLT, Int.reduceLE, Int.reduceToNat, BitVec.reduceOfInt, BitVec.reduceToNat, reduceCtorEq, and_self, decide_true, decide_false, Bool.not_true, Bool.not_false, ne_eq, not_true_eq_false, not_false_eq_true, true_and, and_true]
      rw [← sched_hi _ (by omega)]
      refine SemE.buildSlice (vs := [.u32 (sched (wordAt bs) i)]) (H := B) hl 50 slof_22 rfl rfl (by omega) rfl fun b1 w2 hb1 hl => ⟨fun h => absurd h (by decide), ?_⟩
      simp only [ev, fx, ↓reduceIte, Nat.reduceEqDiff, Nat.reduceLT, Nat.reduceLeDiff, Nat.reduceAdd, Nat.reduceSub, Nat.reduceMul, Int.reduceLT, Int.reduceLE, Int.reduceToNat, BitVec.reduceOfInt, BitVec.reduceToNat, reduceCtorEq, and_self, decide_true, decide_false, Bool.not_true, Bool.not_false, ne_eq, not_true_eq_false, not_false_eq_true, true_and, and_true]
      have hr1 : Rd w2 (some ⟨b1, 0, none⟩) [.u32 (sched (wordAt bs) i)] := Rd.blk (hl.sub (List.sublist_append_right B [(b1, 50, [.u32 (sched (wordAt bs) i)])])) (k := 0) rfl 0 1
      refine SemE.append hl ho slof_22 rfl rfl rfl hr1 rfl (fun h => by cases h) (by simp [SV.isOne]) (by omega) rfl fun v' B' w3 ho hl _ => ⟨fun h => absurd h (by decide), ?_⟩
      have hl := hl.sub (List.sublist_append_left B' _)
      simp only [ev, fx, ↓reduceIte, Nat.reduceEqDiff, Nat.reduceLT, Nat.reduceLeDiff, Nat.reduceAdd, Nat.reduceSub, Nat.reduceMul, Int.reduceLT, Int.reduceLE, Int.reduceToNat, BitVec.reduceOfInt, BitVec.reduceToNat, reduceCtorEq, and_self, decide_true, decide_false, Bool.not_true, Bool.not_false, ne_eq, not_true_eq_false, not_false_eq_true, true_and, and_true]
      refine hK _ _ fun S1 h1 => ?_; clear hK K
      simp only [BlockE, ThenE]
      refine ⟨v', B', h1, ?_, hl⟩
      rw [wl_succ]
      exact ho
  clear hl ho v B
  rintro S' w' ⟨v, B, rfl, ho, hl⟩
  obtain ⟨bv, cv, rfl, hcv⟩ := ho.pos (by omega)
  have hrv := ho.rd (H := []) (by rw [List.append_nil]; exact hl) (w := w') rfl
  have hg0 := hl.toGrow
  clear hl ho B
  refine EWp.seqO (fun _ => false) [(0, 0), (1, 0), (2, 1), (3, 0), (4, 0), (5, 1), (6, 0), (7, 0), (8, 1), (9, 0), (10, 0), (11, 1), (12, 0), (13, 0), (14, 1), (15, 0), (16, 0), (17, 0), (18, 0), (19, 0)] [0, 5, 7, 8, 9, 10, 11] mixed (by kernel_rfl) fun K hK => ?_
  have hh' := hh.grow (hg0.trans (w'' := w'.drew) ⟨rfl, rfl, rfl, Nat.le_refl _, fun _ _ => rfl⟩)
  simp only [ev, fx, ↓reduceIte, Nat.reduceEqDiff, Nat.reduceLT, Nat.reduceLeDiff, Nat.reduceAdd, Nat.reduceSub, Nat.reduceMul, Int.reduceLT, Int.reduceLE, Int.reduceToNat, BitVec.reduceOfInt, BitVec.reduceToNat, reduceCtorEq, and_self, decide_true, decide_false, Bool.not_true, Bool.not_false, ne_eq, not_true_eq_false, not_false_eq_true, true_and, and_true]
  repeat (refine And.intro (by omega) ?_)
  refine StopR.load (.u32 s.a) rfl one_50 rfl (hh'.at (j := 0) rfl) ?_
  simp only [ev, fx, ↓reduceIte, Nat.reduceEqDiff, Nat.reduceLT, Nat.reduceLeDiff, Nat.reduceAdd, Nat.reduceSub, Nat.reduceMul, Int.reduceLT, Int.reduceLE, Int.reduceToNat, BitVec.reduceOfInt, BitVec.reduceToNat, reduceCtorEq, and_self, decide_true, decide_false, Bool.not_true, Bool.not_false, ne_eq, not_true_eq_false, not_false_eq_true, true_and, and_true]
  repeat (refine And.intro (by omega) ?_)
  refine StopR.load (.u32 s.b) rfl one_50 rfl (hh'.at (j := 1) rfl) ?_
  simp only [ev, fx, ↓reduceIte, Nat.reduceEqDiff, Nat.reduceLT, Nat.reduceLeDiff, Nat.reduceAdd, Nat.reduceSub, Nat.reduceMul, Int.reduceLT, Int.reduceLE, Int.reduceToNat, BitVec.reduceOfInt, BitVec.reduceToNat, reduceCtorEq, and_self, decide_true, decide_false, Bool.not_true, Bool.not_false, ne_eq, not_true_eq_false, not_false_eq_true, true_and, and_true]
  repeat (refine And.intro (by omega) ?_)
  refine StopR.load (.u32 s.c) rfl one_50 rfl (hh'.at (j := 2) rfl) ?_
  simp only [ev, fx, ↓reduceIte, Nat.reduceEqDiff, Nat.reduceLT, Nat.reduceLeDiff, Nat.reduceAdd, Nat.reduceSub, Nat.reduceMul, Int.reduceLT, Int.reduceLE, Int.reduceToNat, BitVec.reduceOfInt, BitVec.reduceToNat, reduceCtorEq, and_self, decide_true, decide_false, Bool.not_true, Bool.not_false, ne_eq, not_true_eq_false, not_false_eq_true, true_and, and_true]
  repeat (refine And.intro (by omega) ?_)
  refine StopR.load (.u32 s.d) rfl one_50 rfl (hh'.at (j := 3) rfl) ?_
  simp only [ev, fx, ↓reduceIte, Nat.reduceEqDiff, Nat.reduceLT, Nat.reduceLeDiff, Nat.reduceAdd, Nat.reduceSub, Nat.reduceMul, Int.reduceLT, Int.reduceLE, Int.reduceToNat, BitVec.reduceOfInt, BitVec.reduceToNat, reduceCtorEq, and_self, decide_true, decide_false, Bool.not_true, Bool.not_false, ne_eq, not_true_eq_false, not_false_eq_true, true_and, and_true]
  repeat (refine And.intro (by omega) ?_)
  refine StopR.load (.u32 s.e) rfl one_50 rfl (hh'.at (j := 4) rfl) ?_
  simp only [ev, fx, ↓reduceIte, Nat.reduceEqDiff, Nat.reduceLT, Nat.reduceLeDiff, Nat.reduceAdd, Nat.reduceSub, Nat.reduceMul, Int.reduceLT, Int.reduceLE, Int.reduceToNat, BitVec.reduceOfInt, BitVec.reduceToNat, reduceCtorEq, and_self, decide_true, decide_false, Bool.not_true, Bool.not_false, ne_eq, not_true_eq_false, not_false_eq_true, true_and, and_true]
  repeat (refine And.intro (by omega) ?_)
  repeat (refine And.intro (by omega) ?_)
  refine hK _ _ ?_; clear hK K
  have hrv := hrv.grow (w' := w'.drew) ⟨rfl, rfl, rfl, Nat.le_refl _, fun _ _ => rfl⟩
  have hg0 : Grow w w'.drew := hg0.trans ⟨rfl, rfl, rfl, Nat.le_refl _, fun _ _ => rfl⟩
  generalize w'.drew = w2 at hrv hg0 ⊢
  clear hh'
  refine EWp.cut [0, 7, 8, 9, 10, 11] (fun S' w' => S' = sQ ph ch (roundsOf (sched (wordAt bs)) s 80) ∧ Grow w w') ?_ ?_
  case refine_1 =>
    refine EWp.seqR [0, 5, 7, 8, 9, 10, 11, 100] fun K hK => ?_
    simp only [ev, fx, ↓reduceIte, Nat.reduceEqDiff, Nat.reduceLT, Nat.reduceLeDiff, Nat.reduceAdd, Nat.reduceSub, Nat.reduceMul, Int.reduceLT, Int.reduceLE, Int.reduceToNat, BitVec.reduceOfInt, BitVec.reduceToNat, reduceCtorEq, and_self, decide_true, decide_false, Bool.not_true, Bool.not_false, ne_eq, not_true_eq_false, not_false_eq_true, true_and, and_true]
    repeat (refine And.intro (by omega) ?_)
    refine hK _ _ ?_; clear hK K
    refine EWp.block ?_
    refine EWp.loop [0, 5, 7, 8, 9, 10, 11, 100] (fun k S' w' => ∃ i, i ≤ 80 ∧ k = 80 - i ∧ S' = sT ph ch bv cv (roundsOf (sched (wordAt bs)) s i) i ∧ Rd w' (some ⟨bv, 0, none⟩) (wl (wordAt bs) 80) ∧ Grow w w') 80 ?_ ?_
    case refine_1 => exact ⟨0, by omega, rfl, rfl, hrv, hg0⟩
    clear hrv hg0
    rintro k S' w' ⟨i, hi, rfl, rfl, hrv, hg0⟩
    refine EWp.seqR [0, 5, 7, 8, 9, 10, 11, 100, 101] fun K hK => ?_
    simp only [ev, fx, ↓reduceIte, Nat.reduceEqDiff, Nat.reduceLT, Nat.reduceLeDiff, Nat.reduceAdd, Nat.reduceSub, Nat.reduceMul, Int.reduceLT, Int.reduceLE, Int.reduceToNat, BitVec.reduceOfInt, BitVec.reduceToNat, reduceCtorEq, and_self, decide_true, decide_false, Bool.not_true, Bool.not_false, ne_eq, not_true_eq_false, not_false_eq_true, true_and, and_true]
    simp only [ev, fx, ↓reduceIte, Nat.reduceEqDiff, Nat.reduceLT, Nat.reduceLeDiff, Nat.reduceAdd, Nat.reduceSub, Nat.reduceMul, Int.reduceLT, Int.reduceLE, Int.reduceToNat, BitVec.reduceOfInt, BitVec.reduceToNat, reduceCtorEq, and_self, decide_true, decide_false, Bool.not_true, Bool.not_false, ne_eq, not_true_eq_false, not_false_eq_true, true_and, and_true, sT]
    repeat (refine And.intro (by omega) ?_)
    refine hK _ _ ?_; clear hK K
    refine EWp.guard (b := decide (i < 80)) rfl (fun hlt => ?_) (fun hlt => ?_)
    case refine_2 =>
      have hlt := of_decide_eq_false hlt
      obtain rfl : i = 80 := by omega
      simp only [BlockE, ThenE, ↓reduceIte]
      exact ⟨rfl, hg0⟩
    have hlt := of_decide_eq_true hlt
    refine EWp.cut [0, 5, 7, 8, 9, 10, 11, 100] (fun S' w' => S' = sT ph ch bv cv (roundsOf (sched (wordAt bs)) s (i + 1)) i ∧ Rd w' (some ⟨bv, 0, none⟩) (wl (wordAt bs) 80) ∧ Grow w w') ?_ ?_
    case refine_2 =>
      clear hrv hg0
      rintro S' w' ⟨rfl, hrv, hg0⟩
      refine EWp.regR [0, 5, 7, 8, 9, 10, 11, 100] fun K hK => ?_
      simp only [ev, fx, ↓reduceIte, Nat.reduceEqDiff, Nat.reduceLT, Nat.reduceLeDiff, Nat.reduceAdd, Nat.reduceSub, Nat.reduceMul, Int.reduceLT, Int.reduceLE, Int.reduceToNat, BitVec.reduceOfInt, BitVec.reduceToNat, reduceCtorEq, and_self, decide_true, decide_false, Bool.not_true, Bool.not_false, ne_eq, not_true_eq_false, not_false_eq_true, true_and, and_true, sT]
      exact ⟨by omega, hK _ _ fun S1 h1 => ⟨79 - i, by omega, i + 1, by omega, by omega, h1, hrv, hg0⟩⟩
    refine EWp.block ?_
    refine EWp.seqR [0, 5, 7, 8, 9, 10, 11, 12, 100] fun K hK => ?_
    simp only [ev, fx, ↓reduceIte, Nat.reduceEqDiff, Nat.reduceLT, Nat.reduceLeDiff, Nat.reduceAdd, Nat.reduceSub, Nat.reduceMul, Int.reduceLT, Int.reduceLE, Int.reduceToNat, BitVec.reduceOfInt, BitVec.reduceToNat, reduceCtorEq, and_self, decide_true, decide_false, Bool.not_true, Bool.not_false, ne_eq, not_true_eq_false, not_false_eq_true, true_and, and_true]
    repeat (refine And.intro (by omega) ?_)
    refine hK _ _ ?_; clear hK K
    refine EWp.seqR [0, 5, 7, 8, 9, 10, 11, 12, 13, 14, 100] fun K hK => ?_
    simp only [ev, fx, ↓reduceIte, Nat.reduceEqDiff, Nat.reduceLT, Nat.reduceLeDiff, Nat.reduceAdd, Nat.reduceSub, Nat.reduceMul, Int.reduceLT, Int.reduceLE, Int.reduceToNat, BitVec.reduceOfInt, BitVec.reduceToNat, reduceCtorEq, and_self, decide_true, decide_false, Bool.not_true, Bool.not_false, ne_eq, not_true_eq_false, not_false_eq_true, true_and, and_true]
    repeat (refine And.intro (by omega) ?_)
    refine hK _ _ ?_; clear hK K
    refine EWp.cut [0, 5, 7, 8, 9, 10, 11, 12, 13, 14, 100] (fun S' w' => S' = sU ph ch bv cv (roundsOf (sched (wordAt bs)) s i) i ∧ Rd w' (some ⟨bv, 0, none⟩) (wl (wordAt bs) 80) ∧ Grow w w') ?_ ?_
    case refine_1 =>
      generalize roundsOf (sched (wordAt bs)) s i = r
      refine EWp.seqR [0, 5, 7, 8, 9, 10, 11, 12, 13, 14, 100, 112] fun K hK => ?_
      simp only [ev, fx, ↓reduceIte, Nat.reduceEqDiff, Nat.reduceLT, Nat.reduceLeDiff, Nat.reduceAdd, Nat.reduceSub, Nat.reduceMul, Int.reduceLT, Int.reduceLE, Int.reduceToNat, BitVec.reduceOfInt, BitVec.reduceToNat, reduceCtorEq, and_self, decide_true, decide_false, Bool.not_true, Bool.not_false, ne_eq, not_true_eq_false, not_false_eq_true, true_and, and_true]
      repeat (refine And.intro (by omega) ?_)
      refine hK _ _ ?_; clear hK K
      refine EWp.block ?_
      refine EWp.brR [0, 5, 7, 8, 9, 10, 11, 12, 13, 14, 100, 112, 113] fun K hK => ?_
      simp only [ev, fx, ↓reduceIte, Nat.reduceEqDiff, Nat.reduceLT, Nat.reduceLeDiff, Nat.reduceAdd, Nat.reduceSub, Nat.reduceMul, Int.reduceLT, Int.reduceLE, Int.reduceToNat, BitVec.reduceOfInt, BitVec.reduceToNat, reduceCtorEq, and_self, decide_true, decide_false, Bool.not_true, Bool.not_false, ne_eq, not_true_eq_false, not_false_eq_true, true_and, and_true]
      refine hK _ _ (decide (i / 20 = 1)) rfl (fun hq => ?_) (fun hq => ?_) <;> clear hK K
      · have hq := of_decide_eq_true hq
        refine EWp.regR [0, 5, 7, 8, 9, 10, 11, 12, 13, 14, 100] fun K hK => ?_
        simp only [ev, fx, ↓reduceIte, Nat.reduceEqDiff, Nat.reduceLT, Nat.reduceLeDiff, Nat.reduceAdd, Nat.reduceSub, Nat.reduceMul, Int.reduceLT, Int.reduceLE, Int.reduceToNat, BitVec.reduceOfInt, BitVec.reduceToNat, reduceCtorEq, and_self, decide_true, decide_false, Bool.not_true, Bool.not_false, ne_eq, not_true_eq_false, not_false_eq_true, true_and, and_true]
        refine hK _ _ fun S1 h1 => ?_; clear hK K
        simp only [BlockE, ThenE, h1, sU, fOf_20 _ _ _ (show 20 ≤ i by omega) (by omega), kOf_20 (show 20 ≤ i by omega) (by omega)]
        exact ⟨trivial, hrv, hg0⟩
      refine EWp.brR [0, 5, 7, 8, 9, 10, 11, 12, 13, 14, 100, 112, 120] fun K hK => ?_
      simp only [ev, fx, ↓reduceIte, Nat.reduceEqDiff, Nat.reduceLT, Nat.reduceLeDiff, Nat.reduceAdd, Nat.reduceSub, Nat.reduceMul, Int.reduceLT, Int.reduceLE, Int.reduceToNat, BitVec.reduceOfInt, BitVec.reduceToNat, reduceCtorEq, and_self, decide_true, decide_false, Bool.not_true, Bool.not_false, ne_eq, not_true_eq_false, not_false_eq_true, true_and, and_true]
      refine hK _ _ (decide (i / 20 = 2)) rfl (fun hq => ?_) (fun hq => ?_) <;> clear hK K
      · have hq := of_decide_eq_true hq
        refine EWp.regR [0, 5, 7, 8, 9, 10, 11, 12, 13, 14, 100] fun K hK => ?_
        simp only [ev, fx, ↓reduceIte, Nat.reduceEqDiff, Nat.reduceLT, Nat.reduceLeDiff, Nat.reduceAdd, Nat.reduceSub, Nat.reduceMul, Int.reduceLT, Int.reduceLE, Int.reduceToNat, BitVec.reduceOfInt, BitVec.reduceToNat, reduceCtorEq, and_self, decide_true, decide_false, Bool.not_true, Bool.not_false, ne_eq, not_true_eq_false, not_false_eq_true, true_and, and_true]
        refine hK _ _ fun S1 h1 => ?_; clear hK K
        simp only [BlockE, ThenE, h1, sU, fOf_40 _ _ _ (show 40 ≤ i by omega) (by omega), kOf_40 (show 40 ≤ i by omega) (by omega)]
        exact ⟨trivial, hrv, hg0⟩
      refine EWp.brR [0, 5, 7, 8, 9, 10, 11, 12, 13, 14, 100, 112, 133] fun K hK => ?_
      simp only [ev, fx, ↓reduceIte, Nat.reduceEqDiff, Nat.reduceLT, Nat.reduceLeDiff, Nat.reduceAdd, Nat.reduceSub, Nat.reduceMul, Int.reduceLT, Int.reduceLE, Int.reduceToNat, BitVec.reduceOfInt, BitVec.reduceToNat, reduceCtorEq, and_self, decide_true, decide_false, Bool.not_true, Bool.not_false, ne_eq, not_true_eq_false, not_false_eq_true, true_and, and_true]
      refine hK _ _ (decide (i / 20 = 3)) rfl (fun hq => ?_) (fun hq => ?_) <;> clear hK K
      · have hq := of_decide_eq_true hq
        refine EWp.regR [0, 5, 7, 8, 9, 10, 11, 12, 13, 14, 100] fun K hK => ?_
        simp only [ev, fx, ↓reduceIte, Nat.reduceEqDiff, Nat.reduceLT, Nat.reduceLeDiff, Nat.reduceAdd, Nat.reduceSub, Nat.reduceMul, Int.reduceLT, Int.reduceLE, Int.reduceToNat, BitVec.reduceOfInt, BitVec.reduceToNat, reduceCtorEq, and_self, decide_true, decide_false, Bool.not_true, Bool.not_false, ne_eq, not_true_eq_false, not_false_eq_true, true_and, and_true]
        refine hK _ _ fun S1 h1 => ?_; clear hK K
        simp only [BlockE, ThenE, h1, sU, fOf_60 _ _ _ (show 60 ≤ i by omega) (by omega), kOf_60 (show 60 ≤ i by omega) (by omega)]
        exact ⟨trivial, hrv, hg0⟩
      refine EWp.skip ?_
      simp only [BlockE, ThenE]
      rename_i hq1 hq2
      have hq := of_decide_eq_false hq
      have hq1 := of_decide_eq_false hq1
      have hq2 := of_decide_eq_false hq2
      refine ⟨?_, hrv, hg0⟩
      have h20 : i < 20 := by omega
      simp [Env.keep, Env.get, sU, fOf, kOf, h20]
    clear hrv hg0
    rintro S' w' ⟨rfl, hrv, hg0⟩
    refine EWp.regO (fun _ => false) [(0, 0), (2, 0), (4, 0), (6, 0), (8, 0), (9, 0), (10, 0), (11, 1), (13, 0), (14, 0), (16, 0), (17, 0), (1, 2), (3, 0), (5, 0), (7, 0), (12, 0), (15, 2), (18, 0), (19, 0), (20, 0), (21, 0), (22, 0)] [0, 5, 7, 8, 9, 10, 11, 100] mixed (by kernel_rfl) fun K hK => ?_
    have hrv := hrv.grow (w' := w'.drew) ⟨rfl, rfl, rfl, Nat.le_refl _, fun _ _ => rfl⟩
    have hg0 : Grow w w'.drew := hg0.trans ⟨rfl, rfl, rfl, Nat.le_refl _, fun _ _ => rfl⟩
    simp only [ev, fx, ↓reduceIte, Nat.reduceEqDiff, Nat.reduceLT, Nat.reduceLeDiff, Nat.reduceAdd, Nat.reduceSub, Nat.reduceMul, Int.reduceLT, Int.reduceLE, Int.reduceToNat, BitVec.reduceOfInt, BitVec.reduceToNat, reduceCtorEq, and_self, decide_true, decide_false, Bool.not_true, Bool.not_false, ne_eq, not_true_eq_false, not_false_eq_true, true_and, and_true, sU]
    repeat (refine And.intro (by omega) ?_)
    refine StopR.load (.u32 (sched (wordAt bs) i)) rfl one_50 rfl (hrv.atB (wl_get _ hlt)) ?_
    simp only [ev, fx, ↓reduceIte, Nat.reduceEqDiff, Nat.reduceLT, Nat.reduceLeDiff, Nat.reduceAdd, Nat.reduceSub, Nat.reduceMul, Int.reduceLT, Int.reduceLE, Int.reduceToNat, BitVec.reduceOfInt, BitVec.reduceToNat, reduceCtorEq, and_self, decide_true, decide_false, Bool.not_true, Bool.not_false, ne_eq, not_true_eq_false, not_false_eq_true, true_and, and_true]
    repeat (refine And.intro (by omega) ?_)
    refine SemE.call fn_36 rfl rfl (left32C _ 5 (by decide) _) ?_
    rintro _ w4 ⟨rfl, hg4⟩
    refine ⟨_, rfl, fun _ => hg4, ?_⟩
    have hrv := hrv.grow hg4
    have hg0 := hg0.trans hg4
    clear hg4
    simp only [ev, fx, ↓reduceIte, Nat.reduceEqDiff, Nat.reduceLT, Nat.reduceLeDiff, Nat.reduceAdd, Nat.reduceSub, Nat.reduceMul, Int.reduceLT, Int.reduceLE, Int.reduceToNat, BitVec.reduceOfInt, BitVec.reduceToNat, reduceCtorEq, and_self, decide_true, decide_false, Bool.not_true, Bool.not_false, ne_eq, not_true_eq_false, not_false_eq_true, true_and, and_true]
    repeat (refine And.intro (by omega) ?_)
    refine SemE.call fn_36 rfl rfl (left32C _ 30 (by decide) _) ?_
    rintro _ w4 ⟨rfl, hg4⟩
    refine ⟨_, rfl, fun _ => hg4, ?_⟩
    have hrv := hrv.grow hg4
    have hg0 := hg0.trans hg4
    clear hg4
    simp only [ev, fx, ↓reduceIte, Nat.reduceEqDiff, Nat.reduceLT, Nat.reduceLeDiff, Nat.reduceAdd, Nat.reduceSub, Nat.reduceMul, Int.reduceLT, Int.reduceLE, Int.reduceToNat, BitVec.reduceOfInt, BitVec.reduceToNat, reduceCtorEq, and_self, decide_true, decide_false, Bool.not_true, Bool.not_false, ne_eq, not_true_eq_false, not_false_eq_true, true_and, and_true]
    repeat (refine And.intro (by omega) ?_)
    refine hK _ _ fun S1 h1 => ?_; clear hK K
    simp only [BlockE, ThenE]
    refine ⟨?_, hrv, hg0⟩
    rw [h1]
    simp only [sT, roundsOf, stepOf, add_swap _ (kOf i)]
  clear hrv hg0
  rintro S' w' ⟨rfl, hg0⟩
  refine EWp.seqO (fun i => [25].contains i) [(0, 0), (1, 0), (2, 1), (3, 0), (4, 0), (5, 0), (6, 0), (7, 1), (8, 0), (9, 0), (10, 0), (11, 0), (12, 1), (13, 0), (14, 0), (15, 0), (16, 0), (17, 1), (18, 0), (19, 0), (20, 0), (21, 0), (22, 1), (23, 0), (24, 0), (25, 2), (26, 0)] [4] mixed (by kernel_rfl) fun K hK => ?_
  have hg0 : Grow w w'.drew := hg0.trans ⟨rfl, rfl, rfl, Nat.le_refl _, fun _ _ => rfl⟩
  have hh' := hh.grow hg0
  have hl : HL w w'.drew [] [] := (HL.start w).grow hg0
  generalize hq : roundsOf (sched (wordAt bs)) s 80 = q
  simp only [ev, fx, ↓reduceIte, Nat.reduceEqDiff, Nat.reduceLT, Nat.reduceLeDiff, Nat.reduceAdd, Nat.reduceSub, Nat.reduceMul, Int.reduceLT, Int.reduceLE, Int.reduceToNat, BitVec.reduceOfInt, BitVec.reduceToNat, reduceCtorEq, and_self, decide_true, decide_false, Bool.not_true, Bool.not_false, ne_eq, not_true_eq_false, not_false_eq_true, true_and, and_true, sQ]
  repeat (refine And.intro (by omega) ?_)
  refine StopR.load (.u32 s.a) rfl one_50 rfl (hh'.at (j := 0) rfl) ?_
  simp only [ev, fx, ↓reduceIte, Nat.reduceEqDiff, Nat.reduceLT, Nat.reduceLeDiff, Nat.reduceAdd, Nat.reduceSub, Nat.reduceMul, Int.reduceLT, Int.reduceLE, Int.reduceToNat, BitVec.reduceOfInt, BitVec.reduceToNat, reduceCtorEq, and_self, decide_true, decide_false, Bool.not_true, Bool.not_false, ne_eq, not_true_eq_false, not_false_eq_true, true_and, and_true]
  repeat (refine And.intro (by omega) ?_)
  refine StopR.load (.u32 s.b) rfl one_50 rfl (hh'.at (j := 1) rfl) ?_
  simp only [ev, fx, ↓reduceIte, Nat.reduceEqDiff, Nat.reduceLT, Nat.reduceLeDiff, Nat.reduceAdd, Nat.reduceSub, Nat.reduceMul, Int.reduceLT, Int.reduceLE, Int.reduceToNat, BitVec.reduceOfInt, BitVec.reduceToNat, reduceCtorEq, and_self, decide_true, decide_false, Bool.not_true, Bool.not_false, ne_eq, not_true_eq_false, not_false_eq_true, true_and, and_true]
  repeat (refine And.intro (by omega) ?_)
  refine StopR.load (.u32 s.c) rfl one_50 rfl (hh'.at (j := 2) rfl) ?_
  simp only [ev, fx, ↓reduceIte, Nat.reduceEqDiff, Nat.reduceLT, Nat.reduceLeDiff, Nat.reduceAdd, Nat.reduceSub, Nat.reduceMul, Int.reduceLT, Int.reduceLE, Int.reduceToNat, BitVec.reduceOfInt, BitVec.reduceToNat, reduceCtorEq, and_self, decide_true, decide_false, Bool.not_true, Bool.not_false, ne_eq, not_true_eq_false, not_false_eq_true, true_and, and_true]
  repeat (refine And.intro (by omega) ?_)
  refine StopR.load (.u32 s.d) rfl one_50 rfl (hh'.at (j := 3) rfl) ?_
  simp only [ev, fx, ↓reduceIte, Nat.reduceEqDiff, Nat.reduceLT, Nat.reduceLeDiff, Nat.reduceAdd, Nat.reduceSub, Nat.reduceMul, Int.reduceLT, Int.reduceLE, Int.reduceToNat, BitVec.reduceOfInt, BitVec.reduceToNat, reduceCtorEq, and_self, decide_true, decide_false, Bool.not_true, Bool.not_false, ne_eq, not_true_eq_false, not_false_eq_true, true_and, and_true]
  repeat (refine And.intro (by omega) ?_)
  refine StopR.load (.u32 s.e) rfl one_50 rfl (hh'.at (j := 4) rfl) ?_
  simp only [ev, fx, ↓reduceIte, Nat.reduceEqDiff, Nat.reduceLT, Nat.reduceLeDiff, Nat.reduceAdd, Nat.reduceSub, Nat.reduceMul, Int.reduceLT, Int.reduceLE, Int.reduceToNat, BitVec.reduceOfInt, BitVec.reduceToNat, reduceCtorEq, and_self, decide_true, decide_false, Bool.not_true, Bool.not_false, ne_eq, not_true_eq_false, not_false_eq_true, true_and, and_true]
  repeat (refine And.intro (by omega) ?_)
  refine SemE.buildSlice (vs := five (addS s q)) hl 50 slof_22 rfl rfl (by omega) rfl fun b w5 hb hl => ⟨fun h => absurd h (by decide), ?_⟩
  simp only [ev, fx, ↓reduceIte, Nat.reduceEqDiff, Nat.reduceLT, Nat.reduceLeDiff, Nat.reduceAdd, Nat.reduceSub, Nat.reduceMul, Int.reduceLT, Int.reduceLE, Int.reduceToNat, BitVec.reduceOfInt, BitVec.reduceToNat, reduceCtorEq, and_self, decide_true, decide_false, Bool.not_true, Bool.not_false, ne_eq, not_true_eq_false, not_false_eq_true, true_and, and_true]
  repeat (refine And.intro (by omega) ?_)
  refine hK _ _ ?_; clear hK K
  refine EWp.ret (BodyE.tmp1 rfl rfl ⟨b, rfl, ?_⟩)
  rw [blk, hq]
  exact hl
end Go.Proofs.Ytikejalfiaindaa
