/- The reference's block of SHA-512. -/
import Derived.Test.YtggbaffkjfofhaaDoorImpB3
set_option linter.unusedVariables false
set_option linter.unusedSimpArgs false
namespace Go.Proofs.YtggbaffkjfofhaaDoor
open Go

/-- A word that is read byte by byte. -/
def part (bs : List B8) (t : Nat) : Nat → Wd
  | 0 => 0#64
  | j + 1 => part bs t j <<< 8 ||| (bs.getD (8 * t + j) 0).setWidth 64
theorem part_8 (bs : List B8) (t : Nat) : part bs t 8 = wordAt bs t := by
  simp only [part, wordAt, be64, BitVec.shiftLeft_or_distrib, ← BitVec.shiftLeft_add, BitVec.zero_shiftLeft, BitVec.zero_or, Nat.reduceAdd, Nat.add_zero]

set_option maxRecDepth 100000 in
theorem constants (w : World) : Calls Tryd.prog 46 #[] w fun e w' => ∃ b, e = .returned (SV.sl (some ⟨b, 0, none⟩) 80 80).val ∧ HL w w' [] [(b, 31, Kc64.map SV.u64)] := by
  refine calls_E [] Tryd.func46 rfl Tryd.ntmps46 rfl ?_
  refine EWp.seqR [0] fun K hK => ?_
  simp only [ev, fx, ↓reduceIte, Nat.reduceEqDiff, Nat.reduceLT, Nat.reduceLeDiff, Nat.reduceAdd, Nat.reduceSub, Nat.reduceMul, Int.reduceLT, Int.reduceLE, Int.reduceToNat, BitVec.reduceOfInt, BitVec.reduceToNat, reduceCtorEq, and_self, decide_true, decide_false, Bool.not_true, Bool.not_false, ne_eq, not_true_eq_false, not_false_eq_true, true_and, and_true]
  repeat (refine And.intro (by omega) ?_)
  refine hK _ _ ?_; clear hK K
  refine EWp.seqR [0] fun K hK => ?_
  simp only [ev]
  refine SemE.buildSlice (vs := Kc64.map SV.u64) (HL.start w) 31 slof_22 (by kernel_rfl) rfl (by omega) rfl fun b w1 hb hl => ?_
  simp only [ev, fx, ↓reduceIte, Nat.reduceEqDiff, Nat.reduceLT, Nat.reduceLeDiff, Nat.reduceAdd, Nat.reduceSub, Nat.reduceMul, Int.reduceLT, Int.reduceLE, Int.reduceToNat, BitVec.reduceOfInt, BitVec.reduceToNat, reduceCtorEq, and_self, decide_true, decide_false, Bool.not_true, Bool.not_false, ne_eq, not_true_eq_false, not_false_eq_true, true_and, and_true]
  repeat (refine And.intro (by omega) ?_)
  refine hK _ _ ?_; clear hK K
  exact EWp.ret (BodyE.tmp1 rfl rfl ⟨b, rfl, hl⟩)

def wl (m : Nat → Wd) (i : Nat) : List SV := (List.range i).map fun j => .u64 (sched m j)
theorem wl_succ (m : Nat → Wd) (i : Nat) : wl m (i + 1) = wl m i ++ [.u64 (sched m i)] := by simp [wl, List.range_succ]
theorem wl_get (m : Nat → Wd) {i j : Nat} (h : j < i) : (wl m i)[j]? = some (.u64 (sched m j)) := by simp [wl, h]
theorem wl_len (m : Nat → Wd) (i : Nat) : (wl m i).length = i := by simp [wl]

theorem Rd.atB {w : World} {b : Nat} {vs : List SV} {j : Nat} {v : SV} (hr : Rd w (some ⟨b, 0, none⟩) vs) (h : vs[j]? = some v) : w.cell? ⟨b, j, none⟩ = some v.val := by
  have := hr.at h
  rwa [Addr.add_lit, Nat.zero_add] at this
theorem Kc_get {t : Nat} (h : t < 80) : (Kc64.map SV.u64)[t]? = some (.u64 (Kc64.getD t 0)) := by
  have : t < Kc64.length := by rw [Kc64_len]; exact h
  simp [this]

def sH (ph : Addr) (ch : Nat) (bw cw bk ck bv cv : Nat) : Env := [(0, .sl (some ph) 8 ch), (5, .sl (some ⟨bw, 0, none⟩) 80 cw), (12, .sl (some ⟨bk, 0, none⟩) 80 ck), (13, .sl (some ⟨bv, 0, none⟩) 8 cv)]

def g8 (s : S8) : Nat → Wd
  | 0 => s.a | 1 => s.b | 2 => s.c | 3 => s.d | 4 => s.e | 5 => s.f | 6 => s.g | _ => s.h
theorem eight_get (s : S8) {j : Nat} (h : j < 8) : (eight s)[j]? = some (.u64 (g8 s j)) := by
  match j, h with
  | 0, _ | 1, _ | 2, _ | 3, _ | 4, _ | 5, _ | 6, _ | 7, _ => rfl
/-- The words of r, the first i of them with those of s added. -/
def mid (r s : S8) (i : Nat) : List SV := (List.range 8).map fun j => .u64 (if j < i then g8 r j + g8 s j else g8 r j)
theorem mid_get (r s : S8) (i : Nat) {j : Nat} (h : j < 8) : (mid r s i)[j]? = some (.u64 (if j < i then g8 r j + g8 s j else g8 r j)) := by simp [mid, h]
theorem mid_len (r s : S8) (i : Nat) : (mid r s i).length = 8 := by simp [mid]
theorem mid_0 (r s : S8) : mid r s 0 = eight r := rfl
theorem mid_8 (r s : S8) : mid r s 8 = eight (addS s r) := by simp [mid, eight, addS, g8, List.range_succ, BitVec.add_comm]
theorem mid_set (r s : S8) (rest : List SV) {i : Nat} (h : i < 8) : (mid r s i ++ rest).set i (.u64 (g8 r i + g8 s i)) = mid r s (i + 1) ++ rest := by
  rw [List.set_append_left _ _ (by rw [mid_len]; exact h)]
  congr 1
  apply List.ext_getElem?
  intro j
  rw [List.getElem?_set, mid_len]
  by_cases hj : j < 8
  · rw [mid_get _ _ _ hj, mid_get _ _ _ hj]
    by_cases he : i = j
    · subst he; simp [hj]
    · rw [if_neg he]
      by_cases h1 : j < i
      · rw [if_pos h1, if_pos (by omega)]
      · rw [if_neg h1, if_neg (by omega)]
  · rw [if_neg (by omega), List.getElem?_eq_none (by rw [mid_len]; omega), List.getElem?_eq_none (by rw [mid_len]; omega)]

set_option maxRecDepth 100000 in
set_option maxHeartbeats 1000000 in
theorem specBlock3 (s : S8) (ph : Addr) (ch : Nat) (pp : Addr) (n c : Nat) (bs : List B8) (w : World) (hh : Rd w (some ph) (eight s)) (hr : Rd w (some pp) (bs.map SV.u8)) (hn : bs.length = n) (hn128 : 128 ≤ n) (hnc : n ≤ c) (hbig : n ≤ 68719476736) :
    Calls Tryd.prog 34 #[(SV.sl (some ph) 8 ch).val, (SV.sl (some pp) n c).val] w fun e w' => ∃ p c', e = .returned (SV.sl (some p) 8 c').val ∧ Rd w' (some p) (eight (blk s bs)) ∧ Grow w w' := by
  refine calls_E [.sl (some ph) 8 ch, .sl (some pp) n c] Tryd.func34 rfl Tryd.ntmps34 rfl ?_
  refine EWp.seqR [0, 1] fun K hK => ?_
  simp only [ev, fx, ↓reduceIte, Nat.reduceEqDiff, Nat.reduceLT, Nat.reduceLeDiff, Nat.reduceAdd, Nat.reduceSub, Nat.reduceMul, Int.reduceLT, Int.reduceLE, Int.reduceToNat, BitVec.reduceOfInt, BitVec.reduceToNat, reduceCtorEq, and_self, decide_true, decide_false, Bool.not_true, Bool.not_false, ne_eq, not_true_eq_false, not_false_eq_true, true_and, and_true]
  repeat (refine And.intro (by omega) ?_)
  refine hK _ _ ?_; clear hK K
  refine EWp.seqR [0, 1, 5] fun K hK => ?_
  simp only [ev, fx, ↓reduceIte, Nat.reduceEqDiff, Nat.reduceLT, Nat.reduceLeDiff, Nat.reduceAdd, Nat.reduceSub, Nat.reduceMul, Int.reduceLT, Int.reduceLE, Int.reduceToNat, BitVec.reduceOfInt, BitVec.reduceToNat, reduceCtorEq, and_self, decide_true, decide_false, Bool.not_true, Bool.not_false, ne_eq, not_true_eq_false, not_false_eq_true, true_and, and_true]
  refine SemE.buildSlice (vs := []) (HL.start w) 31 slof_22 rfl rfl (by omega) rfl fun b0 w1 hb0 hl => ?_
  have ho : Own 31 1 (.sl (some ⟨b0, 0, none⟩) 0 0) 0 (wl (wordAt bs) 0) [(b0, 31, wl (wordAt bs) 0)] := Own.full (by simp [wl]) (by unfold maxLen; omega)
  have hl : HL w w1 [] [(b0, 31, wl (wordAt bs) 0)] := hl
  generalize ([(b0, 31, wl (wordAt bs) 0)] : List Blk) = B at ho hl
  generalize (SV.sl (some ⟨b0, 0, none⟩) 0 0) = v at ho ⊢
  simp only [ev, fx, ↓reduceIte, Nat.reduceEqDiff, Nat.reduceLT, Nat.reduceLeDiff, Nat.reduceAdd, Nat.reduceSub, Nat.reduceMul, Int.reduceLT, Int.reduceLE, Int.reduceToNat, BitVec.reduceOfInt, BitVec.reduceToNat, reduceCtorEq, and_self, decide_true, decide_false, Bool.not_true, Bool.not_false, ne_eq, not_true_eq_false, not_false_eq_true, true_and, and_true]
  repeat (refine And.intro (by omega) ?_)
  refine hK _ _ ?_; clear hK K
  refine EWp.cut [0, 5] (fun S' w' => ∃ v B, S' = [(0, .sl (some ph) 8 ch), (5, v)] ∧ Own 31 1 v 80 (wl (wordAt bs) 80) B ∧ HL w w' [] B) ?_ ?_
  case refine_1 =>
    refine EWp.seqR [0, 1, 5, 21] fun K hK => ?_
    simp only [ev, fx, ↓reduceIte, Nat.reduceEqDiff, Nat.reduceLT, Nat.reduceLeDiff, Nat.reduceAdd, Nat.reduceSub, Nat.reduceMul, Int.reduceLT, Int.reduceLE, Int.reduceToNat, BitVec.reduceOfInt, BitVec.reduceToNat, reduceCtorEq, and_self, decide_true, decide_false, Bool.not_true, Bool.not_false, ne_eq, not_true_eq_false, not_false_eq_true, true_and, and_true]
    repeat (refine And.intro (by omega) ?_)
    refine hK _ _ ?_; clear hK K
    refine EWp.block ?_
    refine EWp.loop [0, 1, 5, 21] (fun k S' w' => ∃ i v B, i ≤ 80 ∧ k = 80 - i ∧ S' = [(0, .sl (some ph) 8 ch), (1, .sl (some pp) n c), (5, v), (21, .nat i)] ∧ Own 31 1 v i (wl (wordAt bs) i) B ∧ HL w w' [] B) 80 ?_ ?_
    case refine_1 => exact ⟨0, v, B, by omega, rfl, rfl, ho, hl⟩
    clear hl ho v B
    rintro k S' w' ⟨i, v, B, hi, rfl, rfl, ho, hl⟩
    refine EWp.seqR [0, 1, 5, 21, 22] fun K hK => ?_
    simp only [ev, fx, ↓reduceIte, Nat.reduceEqDiff, Nat.reduceLT, Nat.reduceLeDiff, Nat.reduceAdd, Nat.reduceSub, Nat.reduceMul, Int.reduceLT, Int.reduceLE, Int.reduceToNat, BitVec.reduceOfInt, BitVec.reduceToNat, reduceCtorEq, and_self, decide_true, decide_false, Bool.not_true, Bool.not_false, ne_eq, not_true_eq_false, not_false_eq_true, true_and, and_true]
    repeat (refine And.intro (by omega) ?_)
    refine hK _ _ ?_; clear hK K
    refine EWp.guard (b := decide (i < 80)) rfl (fun hlt => ?_) (fun hlt => ?_)
    case refine_2 =>
      have hlt := of_decide_eq_false hlt
      obtain rfl : i = 80 := by omega
      simp only [BlockE, ThenE, ↓reduceIte]
      exact ⟨v, B, rfl, ho, hl⟩
    have hlt := of_decide_eq_true hlt
    refine EWp.cut [0, 1, 5, 21] (fun S' w' => ∃ v B, S' = [(0, .sl (some ph) 8 ch), (1, .sl (some pp) n c), (5, v), (21, .nat i)] ∧ Own 31 1 v (i + 1) (wl (wordAt bs) (i + 1)) B ∧ HL w w' [] B) ?_ ?_
    case refine_2 =>
      clear hl ho v B
      rintro S' w' ⟨v, B, rfl, ho, hl⟩
      refine EWp.regR [0, 1, 5, 21] fun K hK => ?_
      simp only [ev, fx, ↓reduceIte, Nat.reduceEqDiff, Nat.reduceLT, Nat.reduceLeDiff, Nat.reduceAdd, Nat.reduceSub, Nat.reduceMul, Int.reduceLT, Int.reduceLE, Int.reduceToNat, BitVec.reduceOfInt, BitVec.reduceToNat, reduceCtorEq, and_self, decide_true, decide_false, Bool.not_true, Bool.not_false, ne_eq, not_true_eq_false, not_false_eq_true, true_and, and_true]
      exact ⟨by omega, hK _ _ fun S1 h1 => ⟨80 - i - 1, by omega, i + 1, v, B, by omega, by omega, h1, ho, hl⟩⟩
    refine EWp.block ?_
    refine EWp.seqR [0, 1, 5, 6, 21] fun K hK => ?_
    simp only [ev, fx, ↓reduceIte, Nat.reduceEqDiff, Nat.reduceLT, Nat.reduceLeDiff, Nat.reduceAdd, Nat.reduceSub, Nat.reduceMul, Int.reduceLT, Int.reduceLE, Int.reduceToNat, BitVec.reduceOfInt, BitVec.reduceToNat, reduceCtorEq, and_self, decide_true, decide_false, Bool.not_true, Bool.not_false, ne_eq, not_true_eq_false, not_false_eq_true, true_and, and_true]
    repeat (refine And.intro (by omega) ?_)
    refine hK _ _ ?_; clear hK K
    have hr' := hr.grow hl.drew.toGrow
    refine EWp.ifR [0, 1, 5, 6, 21, 25] fun K hK => ?_
    simp only [ev, fx, ↓reduceIte, Nat.reduceEqDiff, Nat.reduceLT, Nat.reduceLeDiff, Nat.reduceAdd, Nat.reduceSub, Nat.reduceMul, Int.reduceLT, Int.reduceLE, Int.reduceToNat, BitVec.reduceOfInt, BitVec.reduceToNat, reduceCtorEq, and_self, decide_true, decide_false, Bool.not_true, Bool.not_false, ne_eq, not_true_eq_false, not_false_eq_true, true_and, and_true]
    refine hK _ _ (decide (i < 16)) rfl (fun h16 => ?_) (fun h16 => ?_) <;> clear hK K
    · have h16 := of_decide_eq_true h16
      clear hr'
      refine EWp.seqR [0, 1, 5, 6, 7, 21] fun K hK => ?_
      simp only [ev, fx, ↓reduceIte, Nat.reduceEqDiff, Nat.reduceLT, Nat.reduceLeDiff, Nat.reduceAdd, Nat.reduceSub, Nat.reduceMul, Int.reduceLT, Int.reduceLE, Int.reduceToNat, BitVec.reduceOfInt, BitVec.reduceToNat, reduceCtorEq, and_self, decide_true, decide_false, Bool.not_true, Bool.not_false, ne_eq, not_true_eq_false, not_false_eq_true, true_and, and_true]
      repeat (refine And.intro (by omega) ?_)
      refine hK _ _ ?_; clear hK K
      have hne : ¬ c = 8 * i := by omega
      have hlen8 : 8 * i + 8 - 8 * i = 8 := by omega
      refine EWp.cut [0, 1, 5, 7, 21] (fun S' w2 => S' = [(0, .sl (some ph) 8 ch), (1, .sl (some pp) n c), (5, v), (7, .u64 (part bs i 8)), (21, .nat i)] ∧ w2 = w') ?_ ?_
      case refine_1 =>
        refine EWp.seqR [0, 1, 5, 7, 21, 32, 33, 34] fun K hK => ?_
        simp only [ev, fx, ↓reduceIte, Nat.reduceEqDiff, Nat.reduceLT, Nat.reduceLeDiff, Nat.reduceAdd, Nat.reduceSub, Nat.reduceMul, Int.reduceLT, Int.reduceLE, Int.reduceToNat, BitVec.reduceOfInt, BitVec.reduceToNat, reduceCtorEq, and_self, decide_true, decide_false, Bool.not_true, Bool.not_false, ne_eq, not_true_eq_false, not_false_eq_true, true_and, and_true, hne, hlen8, Option.map_some]
        repeat (refine And.intro (by omega) ?_)
        refine hK _ _ ?_; clear hK K
        refine EWp.block ?_
        refine EWp.loop [0, 1, 5, 7, 21, 32, 33, 34] (fun k S' w2 => ∃ j, j ≤ 8 ∧ k = 8 - j ∧ S' = [(0, .sl (some ph) 8 ch), (1, .sl (some pp) n c), (5, v), (7, .u64 (part bs i j)), (21, .nat i), (32, .sl (some (pp.add (8 * i))) 8 (c - 8 * i)), (33, .nat 8), (34, .nat j)] ∧ w2 = w') 8 ?_ ?_
        case refine_1 => exact ⟨0, by omega, rfl, rfl, rfl⟩
        rintro k S' w2 ⟨j, hj, rfl, rfl, hw⟩
        rw [hw]; clear hw w2
        refine EWp.seqR [0, 1, 5, 7, 21, 32, 33, 34, 35] fun K hK => ?_
        simp only [ev, fx, ↓reduceIte, Nat.reduceEqDiff, Nat.reduceLT, Nat.reduceLeDiff, Nat.reduceAdd, Nat.reduceSub, Nat.reduceMul, Int.reduceLT, Int.reduceLE, Int.reduceToNat, BitVec.reduceOfInt, BitVec.reduceToNat, reduceCtorEq, and_self, decide_true, decide_false, Bool.not_true, Bool.not_false, ne_eq, not_true_eq_false, not_false_eq_true, true_and, and_true]
        repeat (refine And.intro (by omega) ?_)
        refine hK _ _ ?_; clear hK K
        refine EWp.guard (b := decide (j < 8)) rfl (fun hlt8 => ?_) (fun hlt8 => ?_)
        case refine_2 =>
          have hlt8 := of_decide_eq_false hlt8
          obtain rfl : j = 8 := by omega
          simp only [BlockE, ThenE, ↓reduceIte]
          exact ⟨rfl, trivial⟩
        have hlt8 := of_decide_eq_true hlt8
        refine EWp.cut [0, 1, 5, 7, 21, 32, 33, 34] (fun S' w2 => S' = [(0, .sl (some ph) 8 ch), (1, .sl (some pp) n c), (5, v), (7, .u64 (part bs i (j + 1))), (21, .nat i), (32, .sl (some (pp.add (8 * i))) 8 (c - 8 * i)), (33, .nat 8), (34, .nat j)] ∧ w2 = w') ?_ ?_
        case refine_2 =>
          rintro S' w2 ⟨rfl, hw⟩
          rw [hw]; clear hw w2
          refine EWp.regR [0, 1, 5, 7, 21, 32, 33, 34] fun K hK => ?_
          simp only [ev, fx, ↓reduceIte, Nat.reduceEqDiff, Nat.reduceLT, Nat.reduceLeDiff, Nat.reduceAdd, Nat.reduceSub, Nat.reduceMul, Int.reduceLT, Int.reduceLE, Int.reduceToNat, BitVec.reduceOfInt, BitVec.reduceToNat, reduceCtorEq, and_self, decide_true, decide_false, Bool.not_true, Bool.not_false, ne_eq, not_true_eq_false, not_false_eq_true, true_and, and_true]
          exact ⟨by omega, hK _ _ fun S1 h1 => ⟨8 - j - 1, by omega, j + 1, by omega, by omega, h1, rfl⟩⟩
        refine EWp.block ?_
        refine EWp.seqR [0, 1, 5, 7, 9, 21, 32, 33, 34] fun K hK => ?_
        simp only [ev, fx, ↓reduceIte, Nat.reduceEqDiff, Nat.reduceLT, Nat.reduceLeDiff, Nat.reduceAdd, Nat.reduceSub, Nat.reduceMul, Int.reduceLT, Int.reduceLE, Int.reduceToNat, BitVec.reduceOfInt, BitVec.reduceToNat, reduceCtorEq, and_self, decide_true, decide_false, Bool.not_true, Bool.not_false, ne_eq, not_true_eq_false, not_false_eq_true, true_and, and_true]
        have hdr := (hr.grow hl.toGrow).drop (8 * i) c (by simp [hn]; exact hnc)
        rw [if_neg hne, Option.map_some] at hdr
        have hbj : ((bs.map SV.u8).drop (8 * i))[j]? = some (.u8 (bs.getD (8 * i + j) 0)) := by
          have : 8 * i + j < bs.length := by omega
          simp [this]
        refine ⟨by omega, SemE.load (.u8 (bs.getD (8 * i + j) 0)) rfl one_5 rfl (hdr.at hbj) ?_⟩
        simp only [ev, fx, ↓reduceIte, Nat.reduceEqDiff, Nat.reduceLT, Nat.reduceLeDiff, Nat.reduceAdd, Nat.reduceSub, Nat.reduceMul, Int.reduceLT, Int.reduceLE, Int.reduceToNat, BitVec.reduceOfInt, BitVec.reduceToNat, reduceCtorEq, and_self, decide_true, decide_false, Bool.not_true, Bool.not_false, ne_eq, not_true_eq_false, not_false_eq_true, true_and, and_true]
        repeat (refine And.intro (by omega) ?_)
        refine hK _ _ ?_; clear hK K
        refine EWp.regR [0, 1, 5, 7, 21, 32, 33, 34] fun K hK => ?_
        simp only [ev, fx, ↓reduceIte, Nat.reduceEqDiff, Nat.reduceLT, Nat.reduceLeDiff, Nat.reduceAdd, Nat.reduceSub, Nat.reduceMul, Int.reduceLT, Int.reduceLE, Int.reduceToNat, BitVec.reduceOfInt, BitVec.reduceToNat, reduceCtorEq, and_self, decide_true, decide_false, Bool.not_true, Bool.not_false, ne_eq, not_true_eq_false, not_false_eq_true, true_and, and_true]
        refine hK _ _ fun S1 h1 => ?_; clear hK K
        simp only [BlockE, ThenE]
        exact ⟨h1, trivial⟩
      rintro S' w2 ⟨rfl, hw⟩
      rw [hw, part_8]; clear hw w2
      refine EWp.seqR [0, 1, 5, 21] fun K hK => ?_
      simp only [ev, fx, ↓reduceIte, Nat.reduceEqDiff, Nat.reduceLT, Nat.reduceLeDiff, Nat.reduceAdd, Nat.reduceSub, Nat.reduceMul, Int.reduceLT, Int.reduceLE, Int.reduceToNat, BitVec.reduceOfInt, BitVec.reduceToNat, reduceCtorEq, and_self, decide_true, decide_false, Bool.not_true, Bool.not_false, ne_eq, not_true_eq_false, not_false_eq_true, true_and, and_true]
      refine SemE.buildSlice (vs := [.u64 (wordAt bs i)]) (H := B) hl 31 slof_22 rfl rfl (by omega) rfl fun b1 w2 hb1 hl => ?_
      simp only [ev, fx, ↓reduceIte, Nat.reduceEqDiff, Nat.reduceLT, Nat.reduceLeDiff, Nat.reduceAdd, Nat.reduceSub, Nat.reduceMul, Int.reduceLT, Int.reduceLE, Int.reduceToNat, BitVec.reduceOfInt, BitVec.reduceToNat, reduceCtorEq, and_self, decide_true, decide_false, Bool.not_true, Bool.not_false, ne_eq, not_true_eq_false, not_false_eq_true, true_and, and_true]
      have hr1 : Rd w2 (some ⟨b1, 0, none⟩) [.u64 (wordAt bs i)] := Rd.blk (hl.sub (List.sublist_append_right B [(b1, 31, [.u64 (wordAt bs i)])])) (k := 0) rfl 0 1
      refine SemE.append hl ho slof_22 rfl rfl rfl hr1 rfl (fun h => by cases h) (by simp [SV.isOne]) (by omega) rfl fun v' B' w3 ho hl _ => ?_
      have hl := hl.sub (List.sublist_append_left B' _)
      simp only [ev, fx, ↓reduceIte, Nat.reduceEqDiff, Nat.reduceLT, Nat.reduceLeDiff, Nat.reduceAdd, Nat.reduceSub, Nat.reduceMul, Int.reduceLT, Int.reduceLE, Int.reduceToNat, BitVec.reduceOfInt, BitVec.reduceToNat, reduceCtorEq, and_self, decide_true, decide_false, Bool.not_true, Bool.not_false, ne_eq, not_true_eq_false, not_false_eq_true, true_and, and_true]
      repeat (refine And.intro (by omega) ?_)
      refine hK _ _ ?_; clear hK K
      refine EWp.exit ?_
      simp only [BlockE, ThenE, ↓reduceIte]
      refine ⟨v', B', rfl, ?_, hl⟩
      rw [wl_succ, sched_lo _ h16]
      exact ho
    · have h16 := of_decide_eq_false h16
      refine EWp.skipThen ?_
      obtain ⟨bv, cv, rfl, hcv⟩ := ho.pos (by omega)
      refine EWp.seqO (fun _ => false) [(0, 0), (1, 0), (2, 1), (3, 0), (4, 1), (5, 0), (6, 0), (7, 1), (8, 0), (9, 1), (10, 0), (11, 0)] [0, 1, 5, 6, 10, 11, 21] mixed (by kernel_rfl) fun K hK => ?_
      have hl := hl.drew
      have hrv := ho.rd (H := []) (by rw [List.append_nil]; exact hl) rfl
      simp only [ev, fx, ↓reduceIte, Nat.reduceEqDiff, Nat.reduceLT, Nat.reduceLeDiff, Nat.reduceAdd, Nat.reduceSub, Nat.reduceMul, Int.reduceLT, Int.reduceLE, Int.reduceToNat, BitVec.reduceOfInt, BitVec.reduceToNat, reduceCtorEq, and_self, decide_true, decide_false, Bool.not_true, Bool.not_false, ne_eq, not_true_eq_false, not_false_eq_true, true_and, and_true]
      repeat (refine And.intro (by omega) ?_)
      refine StopR.load (.u64 (sched (wordAt bs) (i - 2))) rfl one_31 rfl (hrv.atB (wl_get _ (by omega))) ?_
      simp only [ev, fx, ↓reduceIte, Nat.reduceEqDiff, Nat.reduceLT, Nat.reduceLeDiff, Nat.reduceAdd, Nat.reduceSub, Nat.reduceMul, Int.reduceLT, Int.reduceLE, Int.reduceToNat, BitVec.reduceOfInt, BitVec.reduceToNat, reduceCtorEq, and_self, decide_true, decide_false, Bool.not_true, Bool.not_false, ne_eq, not_true_eq_false, not_false_eq_true, true_and, and_true]
      repeat (refine And.intro (by omega) ?_)
      refine StopR.load (.u64 (sched (wordAt bs) (i - 15))) rfl one_31 rfl (hrv.atB (wl_get _ (by omega))) ?_
      simp only [ev, fx, ↓reduceIte, Nat.reduceEqDiff, Nat.reduceLT, Nat.reduceLeDiff, Nat.reduceAdd, Nat.reduceSub, Nat.reduceMul, Int.reduceLT, Int.reduceLE, Int.reduceToNat, BitVec.reduceOfInt, BitVec.reduceToNat, reduceCtorEq, and_self, decide_true, decide_false, Bool.not_true, Bool.not_false, ne_eq, not_true_eq_false, not_false_eq_true, true_and, and_true]
      repeat (refine And.intro (by omega) ?_)
      repeat (refine And.intro (by omega) ?_)
      refine hK _ _ ?_; clear hK K
      refine EWp.regO (fun i => [30, 31].contains i) [(0, 0), (1, 0), (3, 0), (6, 0), (7, 1), (9, 0), (10, 0), (11, 1), (12, 0), (13, 1), (15, 0), (17, 0), (20, 0), (21, 1), (24, 0), (25, 0), (26, 1), (27, 0), (28, 1), (2, 2), (4, 2), (5, 1), (8, 1), (14, 1), (16, 2), (18, 2), (19, 1), (22, 1), (23, 1), (29, 1), (30, 2), (31, 2), (32, 0)] [0, 1, 5, 21] mixed (by kernel_rfl) fun K hK => ?_
      have hl := hl.drew
      have hrv := ho.rd (H := []) (by rw [List.append_nil]; exact hl) rfl
      simp only [ev, fx, ↓reduceIte, Nat.reduceEqDiff, Nat.reduceLT, Nat.reduceLeDiff, Nat.reduceAdd, Nat.reduceSub, Nat.reduceMul, Int.reduceLT, Int.reduceLE, Int.reduceToNat, BitVec.reduceOfInt, BitVec.reduceToNat, reduceCtorEq, and_self, decide_true, decide_false, Bool.not_true, Bool.not_false, ne_eq, not_true_eq_false, not_false_eq_true, true_and, and_true]
      repeat (refine And.intro (by omega) ?_)
      refine StopR.load (.u64 (sched (wordAt bs) (i - 7))) rfl one_31 rfl (hrv.atB (wl_get _ (by omega))) ?_
      simp only [ev, fx, ↓reduceIte, Nat.reduceEqDiff, Nat.reduceLT, Nat.reduceLeDiff, Nat.reduceAdd, Nat.reduceSub, Nat.reduceMul, Int.reduceLT, Int.reduceLE, Int.reduceToNat, BitVec.reduceOfInt, BitVec.reduceToNat, reduceCtorEq, and_self, decide_true, decide_false, Bool.not_true, Bool.not_false, ne_eq, not_true_eq_false, not_false_eq_true, true_and, and_true]
      repeat (refine And.intro (by omega) ?_)
      refine StopR.load (.u64 (sched (wordAt bs) (i - 16))) rfl one_31 rfl (hrv.atB (wl_get _ (by omega))) ?_
      simp only [ev, fx, ↓reduceIte, Nat.reduceEqDiff, Nat.reduceLT, Nat.reduceLeDiff, Nat.reduceAdd, Nat.reduceSub, Nat.reduceMul, Int.reduceLT, Int.reduceLE, Int.reduceToNat, BitVec.reduceOfInt, BitVec.reduceToNat, reduceCtorEq, and_self, decide_true, decide_false, Bool.not_true, Bool.not_false, ne_eq, not_true_eq_false, not_false_eq_true, true_and, and_true]
      repeat (refine And.intro (by omega) ?_)
      refine SemE.call fn_45 rfl rfl (right3 _ 19 (by decide) _) ?_
      rintro _ w4 ⟨rfl, hg4⟩
      refine ⟨_, rfl, fun _ => hg4, ?_⟩
      have hrv := hrv.grow hg4
      have hl := hl.grow hg4
      clear hg4
      simp only [ev, fx, ↓reduceIte, Nat.reduceEqDiff, Nat.reduceLT, Nat.reduceLeDiff, Nat.reduceAdd, Nat.reduceSub, Nat.reduceMul, Int.reduceLT, Int.reduceLE, Int.reduceToNat, BitVec.reduceOfInt, BitVec.reduceToNat, reduceCtorEq, and_self, decide_true, decide_false, Bool.not_true, Bool.not_false, ne_eq, not_true_eq_false, not_false_eq_true, true_and, and_true]
      repeat (refine And.intro (by omega) ?_)
      refine SemE.call fn_45 rfl rfl (right3 _ 61 (by decide) _) ?_
      rintro _ w4 ⟨rfl, hg4⟩
      refine ⟨_, rfl, fun _ => hg4, ?_⟩
      have hrv := hrv.grow hg4
      have hl := hl.grow hg4
      clear hg4
      simp only [ev, fx, ↓reduceIte, Nat.reduceEqDiff, Nat.reduceLT, Nat.reduceLeDiff, Nat.reduceAdd, Nat.reduceSub, Nat.reduceMul, Int.reduceLT, Int.reduceLE, Int.reduceToNat, BitVec.reduceOfInt, BitVec.reduceToNat, reduceCtorEq, and_self, decide_true, decide_false, Bool.not_true, Bool.not_false, ne_eq, not_true_eq_false, not_false_eq_true, true_and, and_true]
      repeat (refine And.intro (by omega) ?_)
      refine SemE.call fn_45 rfl rfl (right3 _ 1 (by decide) _) ?_
      rintro _ w4 ⟨rfl, hg4⟩
      refine ⟨_, rfl, fun _ => hg4, ?_⟩
      have hrv := hrv.grow hg4
      have hl := hl.grow hg4
      clear hg4
      simp only [ev, fx, ↓reduceIte, Nat.reduceEqDiff, Nat.reduceLT, Nat.reduceLeDiff, Nat.reduceAdd, Nat.reduceSub, Nat.reduceMul, Int.reduceLT, Int.reduceLE, Int.reduceToNat, BitVec.reduceOfInt, BitVec.reduceToNat, reduceCtorEq, and_self, decide_true, decide_false, Bool.not_true, Bool.not_false, ne_eq, not_true_eq_false, not_false_eq_true, true_and, and_true]
      repeat (refine And.intro (by omega) ?_)
      refine SemE.call fn_45 rfl rfl (right3 _ 8 (by decide) _) ?_
      rintro _ w4 ⟨rfl, hg4⟩
      refine ⟨_, rfl, fun _ => hg4, ?_⟩
      have hrv := hrv.grow hg4
      have hl := hl.grow hg4
      clear hg4
      simp only [ev, fx, ↓reduceIte, Nat.reduceEqDiff, Nat.reduceLT, Nat.reduceLeDiff, Nat.reduceAdd, Nat.reduceSub, Nat.reduceMul, Int.reduceLT, Int.reduceLE, Int.reduceToNat, BitVec.reduceOfInt, BitVec.reduceToNat, reduceCtorEq, and_self, decide_true, decide_false, Bool.not_true, Bool.not_false, ne_eq, not_true_eq_false, not_false_eq_true, true_and, and_true]
      repeat (refine And.intro (by omega) ?_)
      have hwd : ss1 (sched (wordAt bs) (i - 2)) + sched (wordAt bs) (i - 7) + ss0 (sched (wordAt bs) (i - 15)) + sched (wordAt bs) (i - 16) = sched (wordAt bs) i := (sched_hi _ (by omega)).symm
      refine SemE.buildSlice (vs := [.u64 (ss1 (sched (wordAt bs) (i - 2)) + sched (wordAt bs) (i - 7) + ss0 (sched (wordAt bs) (i - 15)) + sched (wordAt bs) (i - 16))]) (H := B) hl 31 slof_22 rfl rfl (by omega) rfl fun b1 w2 hb1 hl => ⟨fun h => absurd h (by decide), ?_⟩
      simp only [ev, fx, ↓reduceIte, Nat.reduceEqDiff, Nat.reduceLT, Nat.reduceLeDiff, Nat.reduceAdd, Nat.reduceSub, Nat.reduceMul, Int.reduceLT, Int.reduceLE, Int.reduceToNat, BitVec.reduceOfInt, BitVec.reduceToNat, reduceCtorEq, and_self, decide_true, decide_false, Bool.not_true, Bool.not_false, ne_eq, not_true_eq_false, not_false_eq_true, true_and, and_true]
      have hr1 : Rd w2 (some ⟨b1, 0, none⟩) [.u64 (ss1 (sched (wordAt bs) (i - 2)) + sched (wordAt bs) (i - 7) + ss0 (sched (wordAt bs) (i - 15)) + sched (wordAt bs) (i - 16))] := Rd.blk (hl.sub (List.sublist_append_right B [(b1, 31, [.u64 (ss1 (sched (wordAt bs) (i - 2)) + sched (wordAt bs) (i - 7) + ss0 (sched (wordAt bs) (i - 15)) + sched (wordAt bs) (i - 16))])])) (k := 0) rfl 0 1
      refine SemE.append hl ho slof_22 rfl rfl rfl hr1 rfl (fun h => by cases h) (by simp [SV.isOne]) (by omega) rfl fun v' B' w3 ho hl _ => ⟨fun h => absurd h (by decide), ?_⟩
      have hl := hl.sub (List.sublist_append_left B' _)
      simp only [ev, fx, ↓reduceIte, Nat.reduceEqDiff, Nat.reduceLT, Nat.reduceLeDiff, Nat.reduceAdd, Nat.reduceSub, Nat.reduceMul, Int.reduceLT, Int.reduceLE, Int.reduceToNat, BitVec.reduceOfInt, BitVec.reduceToNat, reduceCtorEq, and_self, decide_true, decide_false, Bool.not_true, Bool.not_false, ne_eq, not_true_eq_false, not_false_eq_true, true_and, and_true]
      refine hK _ _ fun S1 h1 => ?_; clear hK K
      simp only [BlockE, ThenE]
      refine ⟨v', B', h1, ?_, hl⟩
      rw [wl_succ, ← hwd]
      exact ho
  clear hl ho v B
  rintro S' w' ⟨v, B, rfl, ho, hl⟩
  obtain ⟨bw, cw, rfl, hcw⟩ := ho.pos (by omega)
  have hrv := ho.rd (H := []) (by rw [List.append_nil]; exact hl) (w := w') rfl
  have hg0 := hl.toGrow
  clear hl ho B
  refine EWp.seqR [0, 5, 12] fun K hK => ?_
  simp only [ev, fx, ↓reduceIte, Nat.reduceEqDiff, Nat.reduceLT, Nat.reduceLeDiff, Nat.reduceAdd, Nat.reduceSub, Nat.reduceMul, Int.reduceLT, Int.reduceLE, Int.reduceToNat, BitVec.reduceOfInt, BitVec.reduceToNat, reduceCtorEq, and_self, decide_true, decide_false, Bool.not_true, Bool.not_false, ne_eq, not_true_eq_false, not_false_eq_true, true_and, and_true]
  refine SemE.call fn_46 rfl rfl (constants _) ?_
  rintro _ w2 ⟨bk, rfl, hlk⟩
  refine ⟨_, rfl, ?_⟩
  have hrk := Rd.blk hlk (k := 0) rfl 0 80
  rw [List.drop_zero, List.take_of_length_le (by rw [List.length_map, Kc64_len]; omega)] at hrk
  have hrv := hrv.grow hlk.toGrow
  have hg0 := hg0.trans hlk.toGrow
  clear hlk
  simp only [ev, fx, ↓reduceIte, Nat.reduceEqDiff, Nat.reduceLT, Nat.reduceLeDiff, Nat.reduceAdd, Nat.reduceSub, Nat.reduceMul, Int.reduceLT, Int.reduceLE, Int.reduceToNat, BitVec.reduceOfInt, BitVec.reduceToNat, reduceCtorEq, and_self, decide_true, decide_false, Bool.not_true, Bool.not_false, ne_eq, not_true_eq_false, not_false_eq_true, true_and, and_true]
  repeat (refine And.intro (by omega) ?_)
  refine hK _ _ ?_; clear hK K
  refine EWp.seqR [0, 5, 12, 13] fun K hK => ?_
  simp only [ev, fx, ↓reduceIte, Nat.reduceEqDiff, Nat.reduceLT, Nat.reduceLeDiff, Nat.reduceAdd, Nat.reduceSub, Nat.reduceMul, Int.reduceLT, Int.reduceLE, Int.reduceToNat, BitVec.reduceOfInt, BitVec.reduceToNat, reduceCtorEq, and_self, decide_true, decide_false, Bool.not_true, Bool.not_false, ne_eq, not_true_eq_false, not_false_eq_true, true_and, and_true]
  refine SemE.buildSlice (vs := []) (HL.start w2) 31 slof_22 rfl rfl (by omega) rfl fun b0 w3 hb0 hl => ?_
  simp only [ev, fx, ↓reduceIte, Nat.reduceEqDiff, Nat.reduceLT, Nat.reduceLeDiff, Nat.reduceAdd, Nat.reduceSub, Nat.reduceMul, Int.reduceLT, Int.reduceLE, Int.reduceToNat, BitVec.reduceOfInt, BitVec.reduceToNat, reduceCtorEq, and_self, decide_true, decide_false, Bool.not_true, Bool.not_false, ne_eq, not_true_eq_false, not_false_eq_true, true_and, and_true]
  refine SemE.append (B := [(b0, 31, ([] : List SV))]) (H := []) hl (Own.full (xs := []) rfl (by unfold maxLen; omega)) slof_22 rfl rfl rfl (hh.grow (hg0.trans hl.toGrow)) (by simp [eight]) (fun h => by cases h) (by simp [eight, SV.isOne]) (by omega) rfl fun v B w4 ho hl _ => ?_
  rw [List.append_nil] at hl
  rw [Nat.zero_add, List.nil_append] at ho
  obtain ⟨_, ⟨_, h0, _⟩ | ⟨bv, cv, rest, rfl, hcv, _, _, rfl⟩⟩ := ho
  · omega
  have hrv := hrv.grow hl.toGrow
  have hrk := hrk.grow hl.toGrow
  have hl := ((HL.start w).grow hg0).more hl
  rw [List.nil_append] at hl
  clear hg0
  simp only [ev, fx, ↓reduceIte, Nat.reduceEqDiff, Nat.reduceLT, Nat.reduceLeDiff, Nat.reduceAdd, Nat.reduceSub, Nat.reduceMul, Int.reduceLT, Int.reduceLE, Int.reduceToNat, BitVec.reduceOfInt, BitVec.reduceToNat, reduceCtorEq, and_self, decide_true, decide_false, Bool.not_true, Bool.not_false, ne_eq, not_true_eq_false, not_false_eq_true, true_and, and_true]
  repeat (refine And.intro (by omega) ?_)
  refine hK _ _ ?_; clear hK K
  refine EWp.cut [0, 13] (fun S' w' => ∃ bv cv rest, S' = [(0, .sl (some ph) 8 ch), (13, .sl (some ⟨bv, 0, none⟩) 8 cv)] ∧ HL w w' [] [(bv, 31, eight (roundsOf (sched (wordAt bs)) s 80) ++ rest)]) ?_ ?_
  case refine_1 =>
    refine EWp.seqR [0, 5, 12, 13, 95] fun K hK => ?_
    simp only [ev, fx, ↓reduceIte, Nat.reduceEqDiff, Nat.reduceLT, Nat.reduceLeDiff, Nat.reduceAdd, Nat.reduceSub, Nat.reduceMul, Int.reduceLT, Int.reduceLE, Int.reduceToNat, BitVec.reduceOfInt, BitVec.reduceToNat, reduceCtorEq, and_self, decide_true, decide_false, Bool.not_true, Bool.not_false, ne_eq, not_true_eq_false, not_false_eq_true, true_and, and_true]
    repeat (refine And.intro (by omega) ?_)
    refine hK _ _ ?_; clear hK K
    refine EWp.block ?_
    refine EWp.loop [0, 5, 12, 13, 95] (fun k S' w' => ∃ i bv cv rest, i ≤ 80 ∧ k = 80 - i ∧ S' = sH ph ch bw cw bk 80 bv cv ++ [(95, .nat i)] ∧ Rd w' (some ⟨bw, 0, none⟩) (wl (wordAt bs) 80) ∧ Rd w' (some ⟨bk, 0, none⟩) (Kc64.map SV.u64) ∧ HL w w' [] [(bv, 31, eight (roundsOf (sched (wordAt bs)) s i) ++ rest)]) 80 ?_ ?_
    case refine_1 => exact ⟨0, bv, cv, rest, by omega, rfl, rfl, hrv, hrk, hl⟩
    clear hrv hrk hl
    rintro k S' w' ⟨i, bv, cv, rest, hi, rfl, rfl, hrv, hrk, hl⟩
    refine EWp.seqR [0, 5, 12, 13, 95, 96] fun K hK => ?_
    simp only [sH, List.cons_append, List.nil_append]
    simp only [ev, fx, ↓reduceIte, Nat.reduceEqDiff, Nat.reduceLT, Nat.reduceLeDiff, Nat.reduceAdd, Nat.reduceSub, Nat.reduceMul, Int.reduceLT, Int.reduceLE, Int.reduceToNat, BitVec.reduceOfInt, BitVec.reduceToNat, reduceCtorEq, and_self, decide_true, decide_false, Bool.not_true, Bool.not_false, ne_eq, not_true_eq_false, not_false_eq_true, true_and, and_true]
    repeat (refine And.intro (by omega) ?_)
    refine hK _ _ ?_; clear hK K
    refine EWp.guard (b := decide (i < 80)) rfl (fun hlt => ?_) (fun hlt => ?_)
    case refine_2 =>
      have hlt := of_decide_eq_false hlt
      obtain rfl : i = 80 := by omega
      simp only [BlockE, ThenE, ↓reduceIte]
      exact ⟨bv, cv, rest, rfl, hl⟩
    have hlt := of_decide_eq_true hlt
    refine EWp.cut [0, 5, 12, 13, 95] (fun S' w' => ∃ bv cv rest, S' = sH ph ch bw cw bk 80 bv cv ++ [(95, .nat i)] ∧ Rd w' (some ⟨bw, 0, none⟩) (wl (wordAt bs) 80) ∧ Rd w' (some ⟨bk, 0, none⟩) (Kc64.map SV.u64) ∧ HL w w' [] [(bv, 31, eight (roundsOf (sched (wordAt bs)) s (i + 1)) ++ rest)]) ?_ ?_
    case refine_2 =>
      clear hrv hrk hl
      rintro S' w' ⟨bv, cv, rest, rfl, hrv, hrk, hl⟩
      refine EWp.regR [0, 5, 12, 13, 95] fun K hK => ?_
      simp only [sH, List.cons_append, List.nil_append]
      simp only [ev, fx, ↓reduceIte, Nat.reduceEqDiff, Nat.reduceLT, Nat.reduceLeDiff, Nat.reduceAdd, Nat.reduceSub, Nat.reduceMul, Int.reduceLT, Int.reduceLE, Int.reduceToNat, BitVec.reduceOfInt, BitVec.reduceToNat, reduceCtorEq, and_self, decide_true, decide_false, Bool.not_true, Bool.not_false, ne_eq, not_true_eq_false, not_false_eq_true, true_and, and_true]
      exact ⟨by omega, hK _ _ fun S1 h1 => ⟨80 - i - 1, by omega, i + 1, bv, cv, rest, by omega, by omega, h1, hrv, hrk, hl⟩⟩
    refine EWp.block ?_
    generalize hrr : roundsOf (sched (wordAt bs)) s i = r at hl
    refine EWp.seqR [0, 5, 12, 13, 14, 95] fun K hK => ?_
    simp only [ev, fx, ↓reduceIte, Nat.reduceEqDiff, Nat.reduceLT, Nat.reduceLeDiff, Nat.reduceAdd, Nat.reduceSub, Nat.reduceMul, Int.reduceLT, Int.reduceLE, Int.reduceToNat, BitVec.reduceOfInt, BitVec.reduceToNat, reduceCtorEq, and_self, decide_true, decide_false, Bool.not_true, Bool.not_false, ne_eq, not_true_eq_false, not_false_eq_true, true_and, and_true]
    repeat (refine And.intro (by omega) ?_)
    refine hK _ _ ?_; clear hK K
    refine EWp.seqO (fun _ => false) [(0, 0), (1, 0), (2, 1), (3, 0), (4, 0), (5, 1), (6, 0), (7, 0)] [0, 5, 12, 13, 14, 15, 16, 95] mixed (by kernel_rfl) fun K hK => ?_
    have hl := hl.drew
    have hrv := hrv.grow (drewG w')
    have hrk := hrk.grow (drewG w')
    simp only [ev, fx, ↓reduceIte, Nat.reduceEqDiff, Nat.reduceLT, Nat.reduceLeDiff, Nat.reduceAdd, Nat.reduceSub, Nat.reduceMul, Int.reduceLT, Int.reduceLE, Int.reduceToNat, BitVec.reduceOfInt, BitVec.reduceToNat, reduceCtorEq, and_self, decide_true, decide_false, Bool.not_true, Bool.not_false, ne_eq, not_true_eq_false, not_false_eq_true, true_and, and_true]
    repeat (refine And.intro (by omega) ?_)
    refine StopR.loadB hl 0 rfl one_31 rfl rfl (show (eight r ++ rest)[0]? = some (.u64 r.a) from rfl) ?_
    simp only [ev, fx, ↓reduceIte, Nat.reduceEqDiff, Nat.reduceLT, Nat.reduceLeDiff, Nat.reduceAdd, Nat.reduceSub, Nat.reduceMul, Int.reduceLT, Int.reduceLE, Int.reduceToNat, BitVec.reduceOfInt, BitVec.reduceToNat, reduceCtorEq, and_self, decide_true, decide_false, Bool.not_true, Bool.not_false, ne_eq, not_true_eq_false, not_false_eq_true, true_and, and_true]
    repeat (refine And.intro (by omega) ?_)
    refine StopR.loadB hl 0 rfl one_31 rfl rfl (show (eight r ++ rest)[4]? = some (.u64 r.e) from rfl) ?_
    simp only [ev, fx, ↓reduceIte, Nat.reduceEqDiff, Nat.reduceLT, Nat.reduceLeDiff, Nat.reduceAdd, Nat.reduceSub, Nat.reduceMul, Int.reduceLT, Int.reduceLE, Int.reduceToNat, BitVec.reduceOfInt, BitVec.reduceToNat, reduceCtorEq, and_self, decide_true, decide_false, Bool.not_true, Bool.not_false, ne_eq, not_true_eq_false, not_false_eq_true, true_and, and_true]
    repeat (refine And.intro (by omega) ?_)
    repeat (refine And.intro (by omega) ?_)
    refine hK _ _ ?_; clear hK K
    refine EWp.seqO (fun _ => false) [(0, 0), (1, 0), (2, 1), (3, 0), (5, 0), (8, 0), (12, 0), (13, 0), (14, 0), (15, 1), (16, 1), (17, 0), (18, 0), (19, 0), (20, 0), (21, 1), (22, 1), (23, 1), (25, 0), (26, 0), (27, 0), (28, 1), (30, 0), (31, 0), (32, 0), (33, 1), (4, 2), (6, 2), (7, 1), (9, 2), (10, 1), (11, 1), (24, 1), (29, 1), (34, 1), (35, 0)] [0, 5, 12, 13, 14, 15, 16, 17, 95] mixed (by kernel_rfl) fun K hK => ?_
    have hl := hl.drew
    have hrv := hrv.grow (drewG _)
    have hrk := hrk.grow (drewG _)
    simp only [ev, fx, ↓reduceIte, Nat.reduceEqDiff, Nat.reduceLT, Nat.reduceLeDiff, Nat.reduceAdd, Nat.reduceSub, Nat.reduceMul, Int.reduceLT, Int.reduceLE, Int.reduceToNat, BitVec.reduceOfInt, BitVec.reduceToNat, reduceCtorEq, and_self, decide_true, decide_false, Bool.not_true, Bool.not_false, ne_eq, not_true_eq_false, not_false_eq_true, true_and, and_true]
    repeat (refine And.intro (by omega) ?_)
    refine StopR.loadB hl 0 rfl one_31 rfl rfl (show (eight r ++ rest)[7]? = some (.u64 r.h) from rfl) ?_
    simp only [ev, fx, ↓reduceIte, Nat.reduceEqDiff, Nat.reduceLT, Nat.reduceLeDiff, Nat.reduceAdd, Nat.reduceSub, Nat.reduceMul, Int.reduceLT, Int.reduceLE, Int.reduceToNat, BitVec.reduceOfInt, BitVec.reduceToNat, reduceCtorEq, and_self, decide_true, decide_false, Bool.not_true, Bool.not_false, ne_eq, not_true_eq_false, not_false_eq_true, true_and, and_true]
    repeat (refine And.intro (by omega) ?_)
    refine StopR.loadB hl 0 rfl one_31 rfl rfl (show (eight r ++ rest)[5]? = some (.u64 r.f) from rfl) ?_
    simp only [ev, fx, ↓reduceIte, Nat.reduceEqDiff, Nat.reduceLT, Nat.reduceLeDiff, Nat.reduceAdd, Nat.reduceSub, Nat.reduceMul, Int.reduceLT, Int.reduceLE, Int.reduceToNat, BitVec.reduceOfInt, BitVec.reduceToNat, reduceCtorEq, and_self, decide_true, decide_false, Bool.not_true, Bool.not_false, ne_eq, not_true_eq_false, not_false_eq_true, true_and, and_true]
    repeat (refine And.intro (by omega) ?_)
    refine StopR.loadB hl 0 rfl one_31 rfl rfl (show (eight r ++ rest)[6]? = some (.u64 r.g) from rfl) ?_
    simp only [ev, fx, ↓reduceIte, Nat.reduceEqDiff, Nat.reduceLT, Nat.reduceLeDiff, Nat.reduceAdd, Nat.reduceSub, Nat.reduceMul, Int.reduceLT, Int.reduceLE, Int.reduceToNat, BitVec.reduceOfInt, BitVec.reduceToNat, reduceCtorEq, and_self, decide_true, decide_false, Bool.not_true, Bool.not_false, ne_eq, not_true_eq_false, not_false_eq_true, true_and, and_true]
    repeat (refine And.intro (by omega) ?_)
    refine StopR.load (.u64 (Kc64.getD i 0)) rfl one_31 rfl (hrk.atB (Kc_get (by omega))) ?_
    simp only [ev, fx, ↓reduceIte, Nat.reduceEqDiff, Nat.reduceLT, Nat.reduceLeDiff, Nat.reduceAdd, Nat.reduceSub, Nat.reduceMul, Int.reduceLT, Int.reduceLE, Int.reduceToNat, BitVec.reduceOfInt, BitVec.reduceToNat, reduceCtorEq, and_self, decide_true, decide_false, Bool.not_true, Bool.not_false, ne_eq, not_true_eq_false, not_false_eq_true, true_and, and_true]
    repeat (refine And.intro (by omega) ?_)
    refine StopR.load (.u64 (sched (wordAt bs) i)) rfl one_31 rfl (hrv.atB (wl_get _ (by omega))) ?_
    simp only [ev, fx, ↓reduceIte, Nat.reduceEqDiff, Nat.reduceLT, Nat.reduceLeDiff, Nat.reduceAdd, Nat.reduceSub, Nat.reduceMul, Int.reduceLT, Int.reduceLE, Int.reduceToNat, BitVec.reduceOfInt, BitVec.reduceToNat, reduceCtorEq, and_self, decide_true, decide_false, Bool.not_true, Bool.not_false, ne_eq, not_true_eq_false, not_false_eq_true, true_and, and_true]
    repeat (refine And.intro (by omega) ?_)
    refine SemE.call fn_45 rfl rfl (right3 _ 14 (by decide) _) ?_
    rintro _ w4 ⟨rfl, hg4⟩
    refine ⟨_, rfl, fun _ => hg4, ?_⟩
    have hl := hl.grow hg4
    have hrv := hrv.grow hg4
    have hrk := hrk.grow hg4
    clear hg4
    simp only [ev, fx, ↓reduceIte, Nat.reduceEqDiff, Nat.reduceLT, Nat.reduceLeDiff, Nat.reduceAdd, Nat.reduceSub, Nat.reduceMul, Int.reduceLT, Int.reduceLE, Int.reduceToNat, BitVec.reduceOfInt, BitVec.reduceToNat, reduceCtorEq, and_self, decide_true, decide_false, Bool.not_true, Bool.not_false, ne_eq, not_true_eq_false, not_false_eq_true, true_and, and_true]
    repeat (refine And.intro (by omega) ?_)
    refine SemE.call fn_45 rfl rfl (right3 _ 18 (by decide) _) ?_
    rintro _ w4 ⟨rfl, hg4⟩
    refine ⟨_, rfl, fun _ => hg4, ?_⟩
    have hl := hl.grow hg4
    have hrv := hrv.grow hg4
    have hrk := hrk.grow hg4
    clear hg4
    simp only [ev, fx, ↓reduceIte, Nat.reduceEqDiff, Nat.reduceLT, Nat.reduceLeDiff, Nat.reduceAdd, Nat.reduceSub, Nat.reduceMul, Int.reduceLT, Int.reduceLE, Int.reduceToNat, BitVec.reduceOfInt, BitVec.reduceToNat, reduceCtorEq, and_self, decide_true, decide_false, Bool.not_true, Bool.not_false, ne_eq, not_true_eq_false, not_false_eq_true, true_and, and_true]
    repeat (refine And.intro (by omega) ?_)
    refine SemE.call fn_45 rfl rfl (right3 _ 41 (by decide) _) ?_
    rintro _ w4 ⟨rfl, hg4⟩
    refine ⟨_, rfl, fun _ => hg4, ?_⟩
    have hl := hl.grow hg4
    have hrv := hrv.grow hg4
    have hrk := hrk.grow hg4
    clear hg4
    simp only [ev, fx, ↓reduceIte, Nat.reduceEqDiff, Nat.reduceLT, Nat.reduceLeDiff, Nat.reduceAdd, Nat.reduceSub, Nat.reduceMul, Int.reduceLT, Int.reduceLE, Int.reduceToNat, BitVec.reduceOfInt, BitVec.reduceToNat, reduceCtorEq, and_self, decide_true, decide_false, Bool.not_true, Bool.not_false, ne_eq, not_true_eq_false, not_false_eq_true, true_and, and_true]
    repeat (refine And.intro (by omega) ?_)
    refine hK _ _ ?_; clear hK K
    refine EWp.seqO (fun _ => false) [(0, 0), (2, 0), (5, 0), (8, 0), (9, 0), (10, 0), (11, 1), (12, 1), (13, 0), (14, 0), (15, 0), (16, 1), (17, 1), (18, 1), (19, 0), (20, 0), (21, 1), (22, 0), (23, 0), (24, 1), (25, 1), (26, 1), (1, 2), (3, 2), (4, 1), (6, 2), (7, 1), (27, 1), (28, 0)] [0, 5, 12, 13, 17, 18, 95] mixed (by kernel_rfl) fun K hK => ?_
    have hl := hl.drew
    have hrv := hrv.grow (drewG _)
    have hrk := hrk.grow (drewG _)
    simp only [ev, fx, ↓reduceIte, Nat.reduceEqDiff, Nat.reduceLT, Nat.reduceLeDiff, Nat.reduceAdd, Nat.reduceSub, Nat.reduceMul, Int.reduceLT, Int.reduceLE, Int.reduceToNat, BitVec.reduceOfInt, BitVec.reduceToNat, reduceCtorEq, and_self, decide_true, decide_false, Bool.not_true, Bool.not_false, ne_eq, not_true_eq_false, not_false_eq_true, true_and, and_true]
    repeat (refine And.intro (by omega) ?_)
    refine StopR.loadB hl 0 rfl one_31 rfl rfl (show (eight r ++ rest)[1]? = some (.u64 r.b) from rfl) ?_
    simp only [ev, fx, ↓reduceIte, Nat.reduceEqDiff, Nat.reduceLT, Nat.reduceLeDiff, Nat.reduceAdd, Nat.reduceSub, Nat.reduceMul, Int.reduceLT, Int.reduceLE, Int.reduceToNat, BitVec.reduceOfInt, BitVec.reduceToNat, reduceCtorEq, and_self, decide_true, decide_false, Bool.not_true, Bool.not_false, ne_eq, not_true_eq_false, not_false_eq_true, true_and, and_true]
    repeat (refine And.intro (by omega) ?_)
    refine StopR.loadB hl 0 rfl one_31 rfl rfl (show (eight r ++ rest)[2]? = some (.u64 r.c) from rfl) ?_
    simp only [ev, fx, ↓reduceIte, Nat.reduceEqDiff, Nat.reduceLT, Nat.reduceLeDiff, Nat.reduceAdd, Nat.reduceSub, Nat.reduceMul, Int.reduceLT, Int.reduceLE, Int.reduceToNat, BitVec.reduceOfInt, BitVec.reduceToNat, reduceCtorEq, and_self, decide_true, decide_false, Bool.not_true, Bool.not_false, ne_eq, not_true_eq_false, not_false_eq_true, true_and, and_true]
    repeat (refine And.intro (by omega) ?_)
    refine StopR.loadB hl 0 rfl one_31 rfl rfl (show (eight r ++ rest)[1]? = some (.u64 r.b) from rfl) ?_
    simp only [ev, fx, ↓reduceIte, Nat.reduceEqDiff, Nat.reduceLT, Nat.reduceLeDiff, Nat.reduceAdd, Nat.reduceSub, Nat.reduceMul, Int.reduceLT, Int.reduceLE, Int.reduceToNat, BitVec.reduceOfInt, BitVec.reduceToNat, reduceCtorEq, and_self, decide_true, decide_false, Bool.not_true, Bool.not_false, ne_eq, not_true_eq_false, not_false_eq_true, true_and, and_true]
    repeat (refine And.intro (by omega) ?_)
    refine StopR.loadB hl 0 rfl one_31 rfl rfl (show (eight r ++ rest)[2]? = some (.u64 r.c) from rfl) ?_
    simp only [ev, fx, ↓reduceIte, Nat.reduceEqDiff, Nat.reduceLT, Nat.reduceLeDiff, Nat.reduceAdd, Nat.reduceSub, Nat.reduceMul, Int.reduceLT, Int.reduceLE, Int.reduceToNat, BitVec.reduceOfInt, BitVec.reduceToNat, reduceCtorEq, and_self, decide_true, decide_false, Bool.not_true, Bool.not_false, ne_eq, not_true_eq_false, not_false_eq_true, true_and, and_true]
    repeat (refine And.intro (by omega) ?_)
    refine SemE.call fn_45 rfl rfl (right3 _ 28 (by decide) _) ?_
    rintro _ w4 ⟨rfl, hg4⟩
    refine ⟨_, rfl, fun _ => hg4, ?_⟩
    have hl := hl.grow hg4
    have hrv := hrv.grow hg4
    have hrk := hrk.grow hg4
    clear hg4
    simp only [ev, fx, ↓reduceIte, Nat.reduceEqDiff, Nat.reduceLT, Nat.reduceLeDiff, Nat.reduceAdd, Nat.reduceSub, Nat.reduceMul, Int.reduceLT, Int.reduceLE, Int.reduceToNat, BitVec.reduceOfInt, BitVec.reduceToNat, reduceCtorEq, and_self, decide_true, decide_false, Bool.not_true, Bool.not_false, ne_eq, not_true_eq_false, not_false_eq_true, true_and, and_true]
    repeat (refine And.intro (by omega) ?_)
    refine SemE.call fn_45 rfl rfl (right3 _ 34 (by decide) _) ?_
    rintro _ w4 ⟨rfl, hg4⟩
    refine ⟨_, rfl, fun _ => hg4, ?_⟩
    have hl := hl.grow hg4
    have hrv := hrv.grow hg4
    have hrk := hrk.grow hg4
    clear hg4
    simp only [ev, fx, ↓reduceIte, Nat.reduceEqDiff, Nat.reduceLT, Nat.reduceLeDiff, Nat.reduceAdd, Nat.reduceSub, Nat.reduceMul, Int.reduceLT, Int.reduceLE, Int.reduceToNat, BitVec.reduceOfInt, BitVec.reduceToNat, reduceCtorEq, and_self, decide_true, decide_false, Bool.not_true, Bool.not_false, ne_eq, not_true_eq_false, not_false_eq_true, true_and, and_true]
    repeat (refine And.intro (by omega) ?_)
    refine SemE.call fn_45 rfl rfl (right3 _ 39 (by decide) _) ?_
    rintro _ w4 ⟨rfl, hg4⟩
    refine ⟨_, rfl, fun _ => hg4, ?_⟩
    have hl := hl.grow hg4
    have hrv := hrv.grow hg4
    have hrk := hrk.grow hg4
    clear hg4
    simp only [ev, fx, ↓reduceIte, Nat.reduceEqDiff, Nat.reduceLT, Nat.reduceLeDiff, Nat.reduceAdd, Nat.reduceSub, Nat.reduceMul, Int.reduceLT, Int.reduceLE, Int.reduceToNat, BitVec.reduceOfInt, BitVec.reduceToNat, reduceCtorEq, and_self, decide_true, decide_false, Bool.not_true, Bool.not_false, ne_eq, not_true_eq_false, not_false_eq_true, true_and, and_true]
    repeat (refine And.intro (by omega) ?_)
    refine hK _ _ ?_; clear hK K
    refine EWp.regO (fun i => [26].contains i) [(0, 0), (1, 0), (2, 1), (3, 0), (4, 0), (5, 1), (6, 0), (7, 0), (8, 1), (9, 0), (10, 0), (11, 1), (12, 0), (13, 0), (14, 1), (15, 0), (16, 1), (17, 0), (18, 0), (19, 1), (20, 0), (21, 0), (22, 1), (23, 0), (24, 0), (25, 1), (26, 2), (27, 0)] [0, 5, 12, 13, 95] mixed (by kernel_rfl) fun K hK => ?_
    have hl := hl.drew
    have hrv := hrv.grow (drewG _)
    have hrk := hrk.grow (drewG _)
    simp only [ev, fx, ↓reduceIte, Nat.reduceEqDiff, Nat.reduceLT, Nat.reduceLeDiff, Nat.reduceAdd, Nat.reduceSub, Nat.reduceMul, Int.reduceLT, Int.reduceLE, Int.reduceToNat, BitVec.reduceOfInt, BitVec.reduceToNat, reduceCtorEq, and_self, decide_true, decide_false, Bool.not_true, Bool.not_false, ne_eq, not_true_eq_false, not_false_eq_true, true_and, and_true]
    repeat (refine And.intro (by omega) ?_)
    refine StopR.loadB hl 0 rfl one_31 rfl rfl (show (eight r ++ rest)[0]? = some (.u64 r.a) from rfl) ?_
    simp only [ev, fx, ↓reduceIte, Nat.reduceEqDiff, Nat.reduceLT, Nat.reduceLeDiff, Nat.reduceAdd, Nat.reduceSub, Nat.reduceMul, Int.reduceLT, Int.reduceLE, Int.reduceToNat, BitVec.reduceOfInt, BitVec.reduceToNat, reduceCtorEq, and_self, decide_true, decide_false, Bool.not_true, Bool.not_false, ne_eq, not_true_eq_false, not_false_eq_true, true_and, and_true]
    repeat (refine And.intro (by omega) ?_)
    refine StopR.loadB hl 0 rfl one_31 rfl rfl (show (eight r ++ rest)[1]? = some (.u64 r.b) from rfl) ?_
    simp only [ev, fx, ↓reduceIte, Nat.reduceEqDiff, Nat.reduceLT, Nat.reduceLeDiff, Nat.reduceAdd, Nat.reduceSub, Nat.reduceMul, Int.reduceLT, Int.reduceLE, Int.reduceToNat, BitVec.reduceOfInt, BitVec.reduceToNat, reduceCtorEq, and_self, decide_true, decide_false, Bool.not_true, Bool.not_false, ne_eq, not_true_eq_false, not_false_eq_true, true_and, and_true]
    repeat (refine And.intro (by omega) ?_)
    refine StopR.loadB hl 0 rfl one_31 rfl rfl (show (eight r ++ rest)[2]? = some (.u64 r.c) from rfl) ?_
    simp only [ev, fx, ↓reduceIte, Nat.reduceEqDiff, Nat.reduceLT, Nat.reduceLeDiff, Nat.reduceAdd, Nat.reduceSub, Nat.reduceMul, Int.reduceLT, Int.reduceLE, Int.reduceToNat, BitVec.reduceOfInt, BitVec.reduceToNat, reduceCtorEq, and_self, decide_true, decide_false, Bool.not_true, Bool.not_false, ne_eq, not_true_eq_false, not_false_eq_true, true_and, and_true]
    repeat (refine And.intro (by omega) ?_)
    refine StopR.loadB hl 0 rfl one_31 rfl rfl (show (eight r ++ rest)[3]? = some (.u64 r.d) from rfl) ?_
    simp only [ev, fx, ↓reduceIte, Nat.reduceEqDiff, Nat.reduceLT, Nat.reduceLeDiff, Nat.reduceAdd, Nat.reduceSub, Nat.reduceMul, Int.reduceLT, Int.reduceLE, Int.reduceToNat, BitVec.reduceOfInt, BitVec.reduceToNat, reduceCtorEq, and_self, decide_true, decide_false, Bool.not_true, Bool.not_false, ne_eq, not_true_eq_false, not_false_eq_true, true_and, and_true]
    repeat (refine And.intro (by omega) ?_)
    refine StopR.loadB hl 0 rfl one_31 rfl rfl (show (eight r ++ rest)[4]? = some (.u64 r.e) from rfl) ?_
    simp only [ev, fx, ↓reduceIte, Nat.reduceEqDiff, Nat.reduceLT, Nat.reduceLeDiff, Nat.reduceAdd, Nat.reduceSub, Nat.reduceMul, Int.reduceLT, Int.reduceLE, Int.reduceToNat, BitVec.reduceOfInt, BitVec.reduceToNat, reduceCtorEq, and_self, decide_true, decide_false, Bool.not_true, Bool.not_false, ne_eq, not_true_eq_false, not_false_eq_true, true_and, and_true]
    repeat (refine And.intro (by omega) ?_)
    refine StopR.loadB hl 0 rfl one_31 rfl rfl (show (eight r ++ rest)[5]? = some (.u64 r.f) from rfl) ?_
    simp only [ev, fx, ↓reduceIte, Nat.reduceEqDiff, Nat.reduceLT, Nat.reduceLeDiff, Nat.reduceAdd, Nat.reduceSub, Nat.reduceMul, Int.reduceLT, Int.reduceLE, Int.reduceToNat, BitVec.reduceOfInt, BitVec.reduceToNat, reduceCtorEq, and_self, decide_true, decide_false, Bool.not_true, Bool.not_false, ne_eq, not_true_eq_false, not_false_eq_true, true_and, and_true]
    repeat (refine And.intro (by omega) ?_)
    refine StopR.loadB hl 0 rfl one_31 rfl rfl (show (eight r ++ rest)[6]? = some (.u64 r.g) from rfl) ?_
    simp only [ev, fx, ↓reduceIte, Nat.reduceEqDiff, Nat.reduceLT, Nat.reduceLeDiff, Nat.reduceAdd, Nat.reduceSub, Nat.reduceMul, Int.reduceLT, Int.reduceLE, Int.reduceToNat, BitVec.reduceOfInt, BitVec.reduceToNat, reduceCtorEq, and_self, decide_true, decide_false, Bool.not_true, Bool.not_false, ne_eq, not_true_eq_false, not_false_eq_true, true_and, and_true]
    repeat (refine And.intro (by omega) ?_)
    have hst : roundsOf (sched (wordAt bs)) s (i + 1) = stepOf (sched (wordAt bs)) i r := by rw [roundsOf, hrr]
    refine SemE.buildSlice (vs := eight (stepOf (sched (wordAt bs)) i r)) (HL.start _) 31 slof_22 rfl rfl (by omega) rfl fun b1 w5 hb1 hl5 => ⟨fun h => absurd h (by decide), ?_⟩
    rw [List.nil_append] at hl5
    have hg5 := hl5.toGrow
    have hl := (hl.more hl5).sub (List.sublist_append_right _ _)
    have hrv := hrv.grow hg5
    have hrk := hrk.grow hg5
    simp only [ev, fx, ↓reduceIte, Nat.reduceEqDiff, Nat.reduceLT, Nat.reduceLeDiff, Nat.reduceAdd, Nat.reduceSub, Nat.reduceMul, Int.reduceLT, Int.reduceLE, Int.reduceToNat, BitVec.reduceOfInt, BitVec.reduceToNat, reduceCtorEq, and_self, decide_true, decide_false, Bool.not_true, Bool.not_false, ne_eq, not_true_eq_false, not_false_eq_true, true_and, and_true]
    refine hK _ _ fun S1 h1 => ?_; clear hK K
    simp only [BlockE, ThenE]
    exact ⟨b1, 8, [], h1, hrv, hrk, by rw [hst, List.append_nil]; exact hl⟩
  clear hrv hrk hl
  rintro S' w' ⟨bv, cv, rest, rfl, hl⟩
  generalize hrr : roundsOf (sched (wordAt bs)) s 80 = r at hl
  refine EWp.cut [13] (fun S' w' => S' = [(13, .sl (some ⟨bv, 0, none⟩) 8 cv)] ∧ HL w w' [] [(bv, 31, mid r s 8 ++ rest)]) ?_ ?_
  case refine_2 =>
    clear hl
    rintro S' w' ⟨rfl, hl⟩
    refine EWp.seqR [4] fun K hK => ?_
    simp only [ev, fx, ↓reduceIte, Nat.reduceEqDiff, Nat.reduceLT, Nat.reduceLeDiff, Nat.reduceAdd, Nat.reduceSub, Nat.reduceMul, Int.reduceLT, Int.reduceLE, Int.reduceToNat, BitVec.reduceOfInt, BitVec.reduceToNat, reduceCtorEq, and_self, decide_true, decide_false, Bool.not_true, Bool.not_false, ne_eq, not_true_eq_false, not_false_eq_true, true_and, and_true]
    repeat (refine And.intro (by omega) ?_)
    refine hK _ _ ?_; clear hK K
    refine EWp.ret (BodyE.tmp1 rfl rfl ⟨⟨bv, 0, none⟩, cv, rfl, ?_, hl.toGrow⟩)
    have hrd := Rd.blk hl (k := 0) rfl 0 8
    rw [List.drop_zero, List.take_append_of_le_length (by rw [mid_len]; omega), List.take_of_length_le (by rw [mid_len]; omega), mid_8] at hrd
    rw [blk, hrr]
    exact hrd
  refine EWp.seqR [0, 13, 196, 197] fun K hK => ?_
  simp only [ev, fx, ↓reduceIte, Nat.reduceEqDiff, Nat.reduceLT, Nat.reduceLeDiff, Nat.reduceAdd, Nat.reduceSub, Nat.reduceMul, Int.reduceLT, Int.reduceLE, Int.reduceToNat, BitVec.reduceOfInt, BitVec.reduceToNat, reduceCtorEq, and_self, decide_true, decide_false, Bool.not_true, Bool.not_false, ne_eq, not_true_eq_false, not_false_eq_true, true_and, and_true]
  repeat (refine And.intro (by omega) ?_)
  refine hK _ _ ?_; clear hK K
  refine EWp.block ?_
  refine EWp.loop [0, 13, 196, 197] (fun k S' w' => ∃ i, i ≤ 8 ∧ k = 8 - i ∧ S' = [(0, .sl (some ph) 8 ch), (13, .sl (some ⟨bv, 0, none⟩) 8 cv), (196, .nat 8), (197, .nat i)] ∧ HL w w' [] [(bv, 31, mid r s i ++ rest)]) 8 ?_ ?_
  case refine_1 => exact ⟨0, by omega, rfl, rfl, by rw [mid_0]; exact hl⟩
  clear hl
  rintro k S' w' ⟨i, hi, rfl, rfl, hl⟩
  refine EWp.seqR [0, 13, 196, 197, 198] fun K hK => ?_
  simp only [ev, fx, ↓reduceIte, Nat.reduceEqDiff, Nat.reduceLT, Nat.reduceLeDiff, Nat.reduceAdd, Nat.reduceSub, Nat.reduceMul, Int.reduceLT, Int.reduceLE, Int.reduceToNat, BitVec.reduceOfInt, BitVec.reduceToNat, reduceCtorEq, and_self, decide_true, decide_false, Bool.not_true, Bool.not_false, ne_eq, not_true_eq_false, not_false_eq_true, true_and, and_true]
  repeat (refine And.intro (by omega) ?_)
  refine hK _ _ ?_; clear hK K
  refine EWp.guard (b := decide (i < 8)) rfl (fun hlt => ?_) (fun hlt => ?_)
  case refine_2 =>
    have hlt := of_decide_eq_false hlt
    obtain rfl : i = 8 := by omega
    simp only [BlockE, ThenE, ↓reduceIte]
    exact ⟨rfl, hl⟩
  have hlt := of_decide_eq_true hlt
  refine EWp.cut [0, 13, 196, 197] (fun S' w' => S' = [(0, .sl (some ph) 8 ch), (13, .sl (some ⟨bv, 0, none⟩) 8 cv), (196, .nat 8), (197, .nat i)] ∧ HL w w' [] [(bv, 31, mid r s (i + 1) ++ rest)]) ?_ ?_
  case refine_2 =>
    clear hl
    rintro S' w' ⟨rfl, hl⟩
    refine EWp.regR [0, 13, 196, 197] fun K hK => ?_
    simp only [ev, fx, ↓reduceIte, Nat.reduceEqDiff, Nat.reduceLT, Nat.reduceLeDiff, Nat.reduceAdd, Nat.reduceSub, Nat.reduceMul, Int.reduceLT, Int.reduceLE, Int.reduceToNat, BitVec.reduceOfInt, BitVec.reduceToNat, reduceCtorEq, and_self, decide_true, decide_false, Bool.not_true, Bool.not_false, ne_eq, not_true_eq_false, not_false_eq_true, true_and, and_true]
    exact ⟨by omega, hK _ _ fun S1 h1 => ⟨8 - i - 1, by omega, i + 1, by omega, by omega, h1, hl⟩⟩
  refine EWp.block ?_
  refine EWp.seqR [0, 13, 19, 196, 197] fun K hK => ?_
  simp only [ev, fx, ↓reduceIte, Nat.reduceEqDiff, Nat.reduceLT, Nat.reduceLeDiff, Nat.reduceAdd, Nat.reduceSub, Nat.reduceMul, Int.reduceLT, Int.reduceLE, Int.reduceToNat, BitVec.reduceOfInt, BitVec.reduceToNat, reduceCtorEq, and_self, decide_true, decide_false, Bool.not_true, Bool.not_false, ne_eq, not_true_eq_false, not_false_eq_true, true_and, and_true]
  repeat (refine And.intro (by omega) ?_)
  refine hK _ _ ?_; clear hK K
  refine EWp.regO (fun i => [10].contains i) [(0, 0), (1, 0), (2, 0), (3, 1), (4, 0), (5, 0), (6, 0), (7, 1), (8, 1), (9, 0), (10, 2)] [0, 13, 196, 197] mixed (by kernel_rfl) fun K hK => ?_
  have hl := hl.drew
  have hhc := (hh.grow hl.toGrow).at (eight_get s hlt)
  simp only [ev, fx, ↓reduceIte, Nat.reduceEqDiff, Nat.reduceLT, Nat.reduceLeDiff, Nat.reduceAdd, Nat.reduceSub, Nat.reduceMul, Int.reduceLT, Int.reduceLE, Int.reduceToNat, BitVec.reduceOfInt, BitVec.reduceToNat, reduceCtorEq, and_self, decide_true, decide_false, Bool.not_true, Bool.not_false, ne_eq, not_true_eq_false, not_false_eq_true, true_and, and_true]
  repeat (refine And.intro (by omega) ?_)
  refine StopR.loadB hl 0 rfl one_31 rfl rfl (show (mid r s i ++ rest)[i]? = some (.u64 (g8 r i)) by rw [List.getElem?_append_left (by rw [mid_len]; exact hlt), mid_get _ _ _ hlt, if_neg (Nat.lt_irrefl i)]) ?_
  simp only [ev, fx, ↓reduceIte, Nat.reduceEqDiff, Nat.reduceLT, Nat.reduceLeDiff, Nat.reduceAdd, Nat.reduceSub, Nat.reduceMul, Int.reduceLT, Int.reduceLE, Int.reduceToNat, BitVec.reduceOfInt, BitVec.reduceToNat, reduceCtorEq, and_self, decide_true, decide_false, Bool.not_true, Bool.not_false, ne_eq, not_true_eq_false, not_false_eq_true, true_and, and_true]
  repeat (refine And.intro (by omega) ?_)
  refine StopR.load (.u64 (g8 s i)) rfl one_31 rfl hhc ?_
  simp only [ev, fx, ↓reduceIte, Nat.reduceEqDiff, Nat.reduceLT, Nat.reduceLeDiff, Nat.reduceAdd, Nat.reduceSub, Nat.reduceMul, Int.reduceLT, Int.reduceLE, Int.reduceToNat, BitVec.reduceOfInt, BitVec.reduceToNat, reduceCtorEq, and_self, decide_true, decide_false, Bool.not_true, Bool.not_false, ne_eq, not_true_eq_false, not_false_eq_true, true_and, and_true]
  repeat (refine And.intro (by omega) ?_)
  refine SemE.storeB (v := .u64 (g8 r i + g8 s i)) hl 0 rfl rfl one_31 rfl rfl (by rw [List.length_append, mid_len]; omega) fun w' hl => ⟨fun h => absurd h (by decide), ?_⟩
  rw [List.set_cons_zero, mid_set r s rest hlt] at hl
  simp only [ev, fx, ↓reduceIte, Nat.reduceEqDiff, Nat.reduceLT, Nat.reduceLeDiff, Nat.reduceAdd, Nat.reduceSub, Nat.reduceMul, Int.reduceLT, Int.reduceLE, Int.reduceToNat, BitVec.reduceOfInt, BitVec.reduceToNat, reduceCtorEq, and_self, decide_true, decide_false, Bool.not_true, Bool.not_false, ne_eq, not_true_eq_false, not_false_eq_true, true_and, and_true]
  refine hK _ _ fun S1 h1 => ?_; clear hK K
  simp only [BlockE, ThenE]
  exact ⟨h1, hl⟩
end Go.Proofs.YtggbaffkjfofhaaDoor
