/- The reference's SHA-1. -/
import Derived.Test.YtikejalfiaindaaSpecB1
import Derived.Test.YtikejalfiaindaaFd1
import Derived.Test.YtikejalfiaindaaPad
set_option linter.unusedVariables false
set_option linter.unusedSimpArgs false
namespace Go.Proofs.Ytikejalfiaindaa
open Go

theorem beginOld (w : World) : Calls Try.prog 28 #[(SV.nat 5).val] w fun e w' => ∃ b, e = .returned (SV.sl (some ⟨b, 0, none⟩) 5 5).val ∧ HL w w' [] [(b, 50, five init1)] := by
  refine calls_E [.nat 5] Try.func28 rfl Try.ntmps28 rfl ?_
  refine EWp.seqR [0] fun K hK => ?_
  simp only [ev, fx, ↓reduceIte, Nat.reduceEqDiff, Nat.reduceLT, Nat.reduceLeDiff, Nat.reduceAdd, Nat.reduceSub, Nat.reduceMul, Int.reduceLT, Int.reduceLE, Int.reduceToNat, BitVec.reduceOfInt, BitVec.reduceToNat, reduceCtorEq, and_self, decide_true, decide_false, Bool.not_true, Bool.not_false, ne_eq, not_true_eq_false, not_false_eq_true, true_and, and_true]
  repeat (refine And.intro (by omega) ?_)
  refine hK _ _ ?_; clear hK K
  refine EWp.seqR [2] fun K hK => ?_
  simp only [ev, fx, ↓reduceIte, Nat.reduceEqDiff, Nat.reduceLT, Nat.reduceLeDiff, Nat.reduceAdd, Nat.reduceSub, Nat.reduceMul, Int.reduceLT, Int.reduceLE, Int.reduceToNat, BitVec.reduceOfInt, BitVec.reduceToNat, reduceCtorEq, and_self, decide_true, decide_false, Bool.not_true, Bool.not_false, ne_eq, not_true_eq_false, not_false_eq_true, true_and, and_true]
  refine SemE.buildSlice (vs := five init1) (HL.start w) 50 slof_22 rfl rfl (by omega) rfl fun b w1 hb hl => ?_
  simp only [ev, fx, ↓reduceIte, Nat.reduceEqDiff, Nat.reduceLT, Nat.reduceLeDiff, Nat.reduceAdd, Nat.reduceSub, Nat.reduceMul, Int.reduceLT, Int.reduceLE, Int.reduceToNat, BitVec.reduceOfInt, BitVec.reduceToNat, reduceCtorEq, and_self, decide_true, decide_false, Bool.not_true, Bool.not_false, ne_eq, not_true_eq_false, not_false_eq_true, true_and, and_true, sl0]
  repeat (refine And.intro (by omega) ?_)
  refine hK _ _ ?_; clear hK K
  exact EWp.ret (BodyE.tmp1 rfl rfl ⟨b, rfl, hl⟩)

def wordsB (xs : List W32) : List B8 := (xs.map bytes4).flatten
theorem wordsB_take_succ (xs : List W32) (i : Nat) (hi : i < xs.length) : wordsB (xs.take (i + 1)) = wordsB (xs.take i) ++ bytes4 (xs.getD i 0) := by
  unfold wordsB
  rw [List.take_succ_eq_append_getElem hi, List.map_append, List.flatten_append]
  simp [List.getD_eq_getElem?_getD, hi]
theorem wordsB_len (xs : List W32) : (wordsB xs).length = 4 * xs.length := by
  induction xs with
  | nil => rfl
  | cons x xs ih => simp [wordsB] at ih ⊢; simp [bytes4, ih]; omega
theorem wordsB_five (s : S5) : wordsB [s.a, s.b, s.c, s.d, s.e] = sumB s := by simp [wordsB, sumB]

theorem words32C (p : Addr) (n c : Nat) (xs : List W32) (w : World) (hr : Rd w (some p) (xs.map SV.u32)) (hn : xs.length = n) (hbig : n ≤ 1000) :
    Calls Try.prog 30 #[(SV.sl (some p) n c).val] w fun e w' => ∃ v B, e = .returned v.val ∧ Own 5 1 v (wordsB xs).length ((wordsB xs).map SV.u8) B ∧ HL w w' [] B := by
  refine calls_E [.sl (some p) n c] Try.func30 rfl Try.ntmps30 rfl ?_
  refine EWp.seqR [0] fun K hK => ?_
  simp only [ev, fx, ↓reduceIte, Nat.reduceEqDiff, Nat.reduceLT, Nat.reduceLeDiff, Nat.reduceAdd, Nat.reduceSub, Nat.reduceMul, Int.reduceLT, Int.reduceLE, Int.reduceToNat, BitVec.reduceOfInt, BitVec.reduceToNat, reduceCtorEq, and_self, decide_true, decide_false, Bool.not_true, Bool.not_false, ne_eq, not_true_eq_false, not_false_eq_true, true_and, and_true]
  repeat (refine And.intro (by omega) ?_)
  refine hK _ _ ?_; clear hK K
  refine EWp.seqR [0, 3] fun K hK => ?_
  simp only [ev, fx, ↓reduceIte, Nat.reduceEqDiff, Nat.reduceLT, Nat.reduceLeDiff, Nat.reduceAdd, Nat.reduceSub, Nat.reduceMul, Int.reduceLT, Int.reduceLE, Int.reduceToNat, BitVec.reduceOfInt, BitVec.reduceToNat, reduceCtorEq, and_self, decide_true, decide_false, Bool.not_true, Bool.not_false, ne_eq, not_true_eq_false, not_false_eq_true, true_and, and_true]
  refine SemE.buildSlice (vs := []) (HL.start w) 5 slof_23 rfl rfl (by omega) rfl fun b0 w1 hb0 hl => ?_
  have ho : Own 5 1 (.sl (some ⟨b0, 0, none⟩) 0 0) 0 ([] : List SV) [(b0, 5, [])] := Own.full rfl (by unfold maxLen; omega)
  have hl : HL w w1 [] [(b0, 5, [])] := hl
  generalize ([(b0, 5, [])] : List Blk) = B at ho hl
  generalize (SV.sl (some ⟨b0, 0, none⟩) 0 0) = v at ho ⊢
  simp only [ev, fx, ↓reduceIte, Nat.reduceEqDiff, Nat.reduceLT, Nat.reduceLeDiff, Nat.reduceAdd, Nat.reduceSub, Nat.reduceMul, Int.reduceLT, Int.reduceLE, Int.reduceToNat, BitVec.reduceOfInt, BitVec.reduceToNat, reduceCtorEq, and_self, decide_true, decide_false, Bool.not_true, Bool.not_false, ne_eq, not_true_eq_false, not_false_eq_true, true_and, and_true]
  repeat (refine And.intro (by omega) ?_)
  refine hK _ _ ?_; clear hK K
  refine EWp.cut [3] (fun S' w' => ∃ v B, S' = [(3, v)] ∧ Own 5 1 v (wordsB xs).length ((wordsB xs).map SV.u8) B ∧ HL w w' [] B) ?_ ?_
  case refine_2 =>
    clear hl ho
    rintro S' w' ⟨v, B, rfl, ho, hl⟩
    refine EWp.seqR [2] fun K hK => ?_
    simp only [ev, fx, ↓reduceIte, Nat.reduceEqDiff, Nat.reduceLT, Nat.reduceLeDiff, Nat.reduceAdd, Nat.reduceSub, Nat.reduceMul, Int.reduceLT, Int.reduceLE, Int.reduceToNat, BitVec.reduceOfInt, BitVec.reduceToNat, reduceCtorEq, and_self, decide_true, decide_false, Bool.not_true, Bool.not_false, ne_eq, not_true_eq_false, not_false_eq_true, true_and, and_true]
    repeat (refine And.intro (by omega) ?_)
    refine hK _ _ ?_; clear hK K
    exact EWp.ret (BodyE.tmp1 rfl rfl ⟨v, B, rfl, ho, hl⟩)
  refine EWp.seqR [3, 7, 8, 9] fun K hK => ?_
  simp only [ev, fx, ↓reduceIte, Nat.reduceEqDiff, Nat.reduceLT, Nat.reduceLeDiff, Nat.reduceAdd, Nat.reduceSub, Nat.reduceMul, Int.reduceLT, Int.reduceLE, Int.reduceToNat, BitVec.reduceOfInt, BitVec.reduceToNat, reduceCtorEq, and_self, decide_true, decide_false, Bool.not_true, Bool.not_false, ne_eq, not_true_eq_false, not_false_eq_true, true_and, and_true]
  repeat (refine And.intro (by omega) ?_)
  refine hK _ _ ?_; clear hK K
  refine EWp.block ?_
  refine EWp.loop [3, 7, 8, 9] (fun k S' w' => ∃ i v B, i ≤ n ∧ k = n - i ∧ S' = [(3, v), (7, .sl (some p) n c), (8, .nat n), (9, .nat i)] ∧ Own 5 1 v (4 * i) ((wordsB (xs.take i)).map SV.u8) B ∧ HL w w' [] B) n ?_ ?_
  case refine_1 => exact ⟨0, v, B, by omega, rfl, rfl, ho, hl⟩
  clear hl ho
  rintro k S' w' ⟨i, v, B, hi, rfl, rfl, ho, hl⟩
  refine EWp.seqR [3, 7, 8, 9, 10] fun K hK => ?_
  simp only [ev, fx, ↓reduceIte, Nat.reduceEqDiff, Nat.reduceLT, Nat.reduceLeDiff, Nat.reduceAdd, Nat.reduceSub, Nat.reduceMul, Int.reduceLT, Int.reduceLE, Int.reduceToNat, BitVec.reduceOfInt, BitVec.reduceToNat, reduceCtorEq, and_self, decide_true, decide_false, Bool.not_true, Bool.not_false, ne_eq, not_true_eq_false, not_false_eq_true, true_and, and_true]
  repeat (refine And.intro (by omega) ?_)
  refine hK _ _ ?_; clear hK K
  refine EWp.guard (b := decide (i < n)) rfl (fun hlt => ?_) (fun hlt => ?_)
  case refine_2 =>
    have hlt := of_decide_eq_false hlt
    simp only [BlockE, ThenE, ↓reduceIte]
    have : xs.take i = xs := List.take_of_length_le (by omega)
    rw [this] at ho
    refine ⟨v, B, rfl, ?_, hl⟩
    rw [wordsB_len, hn, show n = i by omega]
    exact ho
  have hlt := of_decide_eq_true hlt
  have hsucc := wordsB_take_succ xs i (by omega)
  have hx : (xs.map SV.u32)[i]? = some (.u32 (xs.getD i 0)) := by simp [show i < xs.length by omega]
  have hcell := (hr.grow hl.toGrow).at hx
  generalize xs.getD i 0 = x at hsucc hcell
  refine EWp.cut [3, 7, 8, 9] (fun S' w' => ∃ v B, S' = [(3, v), (7, .sl (some p) n c), (8, .nat n), (9, .nat i)] ∧ Own 5 1 v (4 * (i + 1)) ((wordsB (xs.take (i + 1))).map SV.u8) B ∧ HL w w' [] B) ?_ ?_
  case refine_2 =>
    clear hl ho
    rintro S' w' ⟨v, B, rfl, ho, hl⟩
    refine EWp.regR [3, 7, 8, 9] fun K hK => ?_
    simp only [ev, fx, ↓reduceIte, Nat.reduceEqDiff, Nat.reduceLT, Nat.reduceLeDiff, Nat.reduceAdd, Nat.reduceSub, Nat.reduceMul, Int.reduceLT, Int.reduceLE, Int.reduceToNat, BitVec.reduceOfInt, BitVec.reduceToNat, reduceCtorEq, and_self, decide_true, decide_false, Bool.not_true, Bool.not_false, ne_eq, not_true_eq_false, not_false_eq_true, true_and, and_true]
    exact ⟨by omega, hK _ _ fun S1 h1 => ⟨n - i - 1, by omega, i + 1, v, B, by omega, by omega, h1, ho, hl⟩⟩
  refine EWp.block ?_
  refine EWp.seqR [3, 5, 7, 8, 9] fun K hK => ?_
  simp only [ev, fx, ↓reduceIte, Nat.reduceEqDiff, Nat.reduceLT, Nat.reduceLeDiff, Nat.reduceAdd, Nat.reduceSub, Nat.reduceMul, Int.reduceLT, Int.reduceLE, Int.reduceToNat, BitVec.reduceOfInt, BitVec.reduceToNat, reduceCtorEq, and_self, decide_true, decide_false, Bool.not_true, Bool.not_false, ne_eq, not_true_eq_false, not_false_eq_true, true_and, and_true]
  refine ⟨by omega, SemE.load (.u32 x) rfl one_50 rfl hcell ?_⟩
  simp only [ev, fx, ↓reduceIte, Nat.reduceEqDiff, Nat.reduceLT, Nat.reduceLeDiff, Nat.reduceAdd, Nat.reduceSub, Nat.reduceMul, Int.reduceLT, Int.reduceLE, Int.reduceToNat, BitVec.reduceOfInt, BitVec.reduceToNat, reduceCtorEq, and_self, decide_true, decide_false, Bool.not_true, Bool.not_false, ne_eq, not_true_eq_false, not_false_eq_true, true_and, and_true]
  repeat (refine And.intro (by omega) ?_)
  refine hK _ _ ?_; clear hK K
  refine EWp.regR [3, 7, 8, 9] fun K hK => ?_
  simp only [ev, fx, ↓reduceIte, Nat.reduceEqDiff, Nat.reduceLT, Nat.reduceLeDiff, Nat.reduceAdd, Nat.reduceSub, Nat.reduceMul, Int.reduceLT, Int.reduceLE, Int.reduceToNat, BitVec.reduceOfInt, BitVec.reduceToNat, reduceCtorEq, and_self, decide_true, decide_false, Bool.not_true, Bool.not_false, ne_eq, not_true_eq_false, not_false_eq_true, true_and, and_true]
  refine SemE.buildSlice (vs := (bytes4 x).map SV.u8) hl 5 slof_23 (by simp [bytes4, be4, List.range_succ, partsSV, Env.op, Env.get, SV.isOne]) rfl (by omega) rfl fun b1 w2 hb1 hl => ?_
  simp only [ev, fx, ↓reduceIte, Nat.reduceEqDiff, Nat.reduceLT, Nat.reduceLeDiff, Nat.reduceAdd, Nat.reduceSub, Nat.reduceMul, Int.reduceLT, Int.reduceLE, Int.reduceToNat, BitVec.reduceOfInt, BitVec.reduceToNat, reduceCtorEq, and_self, decide_true, decide_false, Bool.not_true, Bool.not_false, ne_eq, not_true_eq_false, not_false_eq_true, true_and, and_true]
  have hr1 : Rd w2 (some ⟨b1, 0, none⟩) ((bytes4 x).map SV.u8) := Rd.blk (hl.sub (List.sublist_append_right _ [(b1, 5, (bytes4 x).map SV.u8)])) (k := 0) rfl 0 4
  refine SemE.append hl ho slof_23 rfl rfl rfl hr1 rfl (fun h => by cases h) (isOneB _) (by omega) rfl fun v2 B2 w3 ho hl _ => ?_
  have hl := hl.sub (List.sublist_append_left B2 _)
  rw [← List.map_append, ← hsucc] at ho
  simp only [ev, fx, ↓reduceIte, Nat.reduceEqDiff, Nat.reduceLT, Nat.reduceLeDiff, Nat.reduceAdd, Nat.reduceSub, Nat.reduceMul, Int.reduceLT, Int.reduceLE, Int.reduceToNat, BitVec.reduceOfInt, BitVec.reduceToNat, reduceCtorEq, and_self, decide_true, decide_false, Bool.not_true, Bool.not_false, ne_eq, not_true_eq_false, not_false_eq_true, true_and, and_true]
  refine hK _ _ fun S1 h1 => ?_; clear hK K
  simp only [BlockE, ThenE]
  exact ⟨v2, B2, h1, ho, hl⟩

theorem tail_be (L i : Nat) (hi : i < 8) : tailB 8 L i = be8 (BitVec.ofNat 64 L <<< 3) i := by
  unfold tailB be8
  rw [if_pos (by omega)]
  have e1 : 8#64 * BitVec.ofNat 64 L = BitVec.ofNat 64 L <<< 3 := by
    apply BitVec.eq_of_toNat_eq
    simp only [BitVec.toNat_mul, BitVec.toNat_shiftLeft, Nat.shiftLeft_eq]
    show (8 * _) % _ = (_ * 8) % _
    rw [Nat.mul_comm]
  rw [e1, show 8 * (8 - 1 - i) = 56 - 8 * i by omega]
theorem padS_padB (T : List B8) : padS 64 8 56 T = T ++ padB T.length := by
  unfold padS padB
  have h1 : tailL 8 T.length 8 = (List.range 8).map (be8 (BitVec.ofNat 64 T.length <<< 3)) := by
    unfold tailL
    exact List.map_congr_left fun i hi => tail_be _ _ (List.mem_range.1 hi)
  have h2 : zN 64 56 T.length = padT T.length - 1 := by unfold zN padT; split <;> omega
  rw [h1, h2]
  simp
theorem pad64 (L : Nat) : (L + (padT L + 8)) % 64 = 0 := by unfold padT; split <;> omega

set_option maxRecDepth 100000 in
theorem specSha1 (a : Option Addr) (n c : Nat) (T : List B8) (w : World) (hr : Rd w a (T.map SV.u8)) (hn : T.length = n) (ha : a = none → n = 0) (hbig : n ≤ 100000) :
    Calls Try.prog 20 #[(SV.sl a n c).val] w fun e w' => ∃ v B, e = .returned v.val ∧ Own 5 1 v 20 ((sha1B T).map SV.u8) B ∧ HL w w' [] B := by
  refine calls_E [.sl a n c] Try.func20 rfl Try.ntmps20 rfl ?_
  refine EWp.seqR [0] fun K hK => ?_
  simp only [ev, fx, ↓reduceIte, Nat.reduceEqDiff, Nat.reduceLT, Nat.reduceLeDiff, Nat.reduceAdd, Nat.reduceSub, Nat.reduceMul, Int.reduceLT, Int.reduceLE, Int.reduceToNat, BitVec.reduceOfInt, BitVec.reduceToNat, reduceCtorEq, and_self, decide_true, decide_false, Bool.not_true, Bool.not_false, ne_eq, not_true_eq_false, not_false_eq_true, true_and, and_true]
  repeat (refine And.intro (by omega) ?_)
  refine hK _ _ ?_; clear hK K
  refine EWp.seqR [0, 3] fun K hK => ?_
  simp only [ev, fx, ↓reduceIte, Nat.reduceEqDiff, Nat.reduceLT, Nat.reduceLeDiff, Nat.reduceAdd, Nat.reduceSub, Nat.reduceMul, Int.reduceLT, Int.reduceLE, Int.reduceToNat, BitVec.reduceOfInt, BitVec.reduceToNat, reduceCtorEq, and_self, decide_true, decide_false, Bool.not_true, Bool.not_false, ne_eq, not_true_eq_false, not_false_eq_true, true_and, and_true]
  refine SemE.call fn_28 rfl rfl (beginOld _) ?_
  rintro _ w1 ⟨b0, rfl, hl⟩
  refine ⟨_, rfl, ?_⟩
  simp only [ev, fx, ↓reduceIte, Nat.reduceEqDiff, Nat.reduceLT, Nat.reduceLeDiff, Nat.reduceAdd, Nat.reduceSub, Nat.reduceMul, Int.reduceLT, Int.reduceLE, Int.reduceToNat, BitVec.reduceOfInt, BitVec.reduceToNat, reduceCtorEq, and_self, decide_true, decide_false, Bool.not_true, Bool.not_false, ne_eq, not_true_eq_false, not_false_eq_true, true_and, and_true]
  repeat (refine And.intro (by omega) ?_)
  refine hK _ _ ?_; clear hK K
  have hpl : (T ++ padB T.length).length = n + (padT n + 8) := by rw [List.length_append, padB_length, hn]
  have hp64 := pad64 n
  have hpt := padT_pos n
  refine EWp.cut [3] (fun S' w' => ∃ pa cp, S' = [(3, .sl (some pa) 5 cp)] ∧ Rd w' (some pa) (five (blocks init1 (T ++ padB T.length))) ∧ Grow w w') ?_ ?_
  case refine_2 =>
    clear hl
    rintro S' w' ⟨pa, cp, rfl, hpa, hg⟩
    have hs : sha1B T = sumB (blocks init1 (T ++ padB T.length)) := rfl
    rw [hs]
    generalize blocks init1 (T ++ padB T.length) = s at hpa
    refine EWp.seqR [2] fun K hK => ?_
    simp only [ev, fx, ↓reduceIte, Nat.reduceEqDiff, Nat.reduceLT, Nat.reduceLeDiff, Nat.reduceAdd, Nat.reduceSub, Nat.reduceMul, Int.reduceLT, Int.reduceLE, Int.reduceToNat, BitVec.reduceOfInt, BitVec.reduceToNat, reduceCtorEq, and_self, decide_true, decide_false, Bool.not_true, Bool.not_false, ne_eq, not_true_eq_false, not_false_eq_true, true_and, and_true]
    refine SemE.call fn_30 rfl rfl (words32C pa 5 cp [s.a, s.b, s.c, s.d, s.e] _ hpa rfl (by omega)) ?_
    rintro _ w2 ⟨v, B, rfl, ho, hl⟩
    refine ⟨_, rfl, ?_⟩
    simp only [ev, fx, ↓reduceIte, Nat.reduceEqDiff, Nat.reduceLT, Nat.reduceLeDiff, Nat.reduceAdd, Nat.reduceSub, Nat.reduceMul, Int.reduceLT, Int.reduceLE, Int.reduceToNat, BitVec.reduceOfInt, BitVec.reduceToNat, reduceCtorEq, and_self, decide_true, decide_false, Bool.not_true, Bool.not_false, ne_eq, not_true_eq_false, not_false_eq_true, true_and, and_true]
    repeat (refine And.intro (by omega) ?_)
    refine hK _ _ ?_; clear hK K
    rw [wordsB_five, sumB_len] at ho
    exact EWp.ret (BodyE.tmp1 rfl rfl ⟨v, B, rfl, ho, ((HL.start w).grow hg).more hl⟩)
  refine EWp.seqR [3, 4] fun K hK => ?_
  simp only [ev, fx, ↓reduceIte, Nat.reduceEqDiff, Nat.reduceLT, Nat.reduceLeDiff, Nat.reduceAdd, Nat.reduceSub, Nat.reduceMul, Int.reduceLT, Int.reduceLE, Int.reduceToNat, BitVec.reduceOfInt, BitVec.reduceToNat, reduceCtorEq, and_self, decide_true, decide_false, Bool.not_true, Bool.not_false, ne_eq, not_true_eq_false, not_false_eq_true, true_and, and_true]
  refine SemE.call fn_29 rfl rfl (padded64 a n c T _ (hr.grow hl.toGrow) hn ha (by omega)) ?_
  rintro _ w2 ⟨v, B, rfl, ho, hl2⟩
  refine ⟨_, rfl, ?_⟩
  rw [padS_padB] at ho
  obtain ⟨ap, cp, rfl, hcp, hap⟩ := ho.shape
  have hrp := ho.rd (H := []) (by rw [List.append_nil]; exact hl2) rfl
  have hh := (Rd.blk hl (k := 0) rfl 0 5).grow hl2.toGrow
  have hg := hl.toGrow.trans hl2.toGrow
  clear hl hl2 ho
  simp only [ev, fx, ↓reduceIte, Nat.reduceEqDiff, Nat.reduceLT, Nat.reduceLeDiff, Nat.reduceAdd, Nat.reduceSub, Nat.reduceMul, Int.reduceLT, Int.reduceLE, Int.reduceToNat, BitVec.reduceOfInt, BitVec.reduceToNat, reduceCtorEq, and_self, decide_true, decide_false, Bool.not_true, Bool.not_false, ne_eq, not_true_eq_false, not_false_eq_true, true_and, and_true]
  repeat (refine And.intro (by omega) ?_)
  refine hK _ _ ?_; clear hK K
  refine EWp.block ?_
  refine EWp.loop [3, 4] (fun k S' w' => ∃ (st : S5) (bs' : List B8) (pa : Addr) (cp : Nat) (pp : Option Addr) (cq : Nat), k = bs'.length ∧ blocks st bs' = blocks init1 (T ++ padB T.length) ∧ bs'.length % 64 = 0 ∧ bs'.length ≤ cq ∧ bs'.length ≤ 1000000 ∧
    S' = [(3, .sl (some pa) 5 cp), (4, .sl pp bs'.length cq)] ∧ Rd w' (some pa) (five st) ∧ Rd w' pp (bs'.map SV.u8) ∧ Grow w w') (T ++ padB T.length).length ?_ ?_
  case refine_1 => exact ⟨init1, T ++ padB T.length, _, 5, ap, cp, rfl, rfl, by rw [hpl]; exact hp64, hcp, by omega, rfl, hh, hrp, hg⟩
  clear hh hrp hg
  rintro k S' w' ⟨st, bs', pa, cp, pp, cq, rfl, hblk, h64, hcq, hn', rfl, hpa, hpp, hg⟩
  refine EWp.headR [3, 4, 10] fun K hK => ?_
  simp only [ev, fx, ↓reduceIte, Nat.reduceEqDiff, Nat.reduceLT, Nat.reduceLeDiff, Nat.reduceAdd, Nat.reduceSub, Nat.reduceMul, Int.reduceLT, Int.reduceLE, Int.reduceToNat, BitVec.reduceOfInt, BitVec.reduceToNat, reduceCtorEq, and_self, decide_true, decide_false, Bool.not_true, Bool.not_false, ne_eq, not_true_eq_false, not_false_eq_true, true_and, and_true]
  refine hK _ _ (decide (0 < bs'.length)) rfl (fun hlt => ?_) (fun hlt => ?_) <;> clear hK K
  case refine_2 =>
    have hlt := of_decide_eq_false hlt
    have hnil : bs' = [] := List.eq_nil_of_length_eq_zero (by omega)
    subst hnil
    rw [blocks_lo st (by simp)] at hblk
    subst hblk
    simp only [BlockE, ThenE, ↓reduceIte]
    exact ⟨pa, cp, rfl, hpa, hg⟩
  have hlt := of_decide_eq_true hlt
  have hge : 64 ≤ bs'.length := by omega
  obtain ⟨qp, rfl, _, _⟩ := hpp 0 (.u8 (bs'.getD 0 0)) (by simp [hlt])
  refine EWp.cut [3, 4] (fun S' w' => ∃ pa cp, S' = [(3, .sl (some pa) 5 cp), (4, .sl (some qp) bs'.length cq)] ∧ Rd w' (some pa) (five (blk st bs')) ∧ Rd w' (some qp) (bs'.map SV.u8) ∧ Grow w w') ?_ ?_
  case refine_2 =>
    clear hg hpa hpp
    rintro S' w' ⟨pa, cp, rfl, hpa, hpp, hg⟩
    refine EWp.regR [3, 4] fun K hK => ?_
    simp only [ev, fx, ↓reduceIte, Nat.reduceEqDiff, Nat.reduceLT, Nat.reduceLeDiff, Nat.reduceAdd, Nat.reduceSub, Nat.reduceMul, Int.reduceLT, Int.reduceLE, Int.reduceToNat, BitVec.reduceOfInt, BitVec.reduceToNat, reduceCtorEq, and_self, decide_true, decide_false, Bool.not_true, Bool.not_false, ne_eq, not_true_eq_false, not_false_eq_true, true_and, and_true]
    repeat (refine And.intro (by omega) ?_)
    refine hK _ _ fun S1 h1 => ?_; clear hK K
    simp only [ThenE]
    refine ⟨bs'.length - 64, by omega, blk st bs', bs'.drop 64, pa, cp, _, cq - 64, by simp, by rw [← blocks_hi st hge, hblk], by simp; omega, by simp; omega, by simp; omega, ?_, hpa, by rw [List.map_drop]; exact hpp.drop 64 cq (by simpa using hcq), hg⟩
    rw [h1]
    simp
  refine EWp.block ?_
  refine EWp.regR [3, 4] fun K hK => ?_
  simp only [ev, fx, ↓reduceIte, Nat.reduceEqDiff, Nat.reduceLT, Nat.reduceLeDiff, Nat.reduceAdd, Nat.reduceSub, Nat.reduceMul, Int.reduceLT, Int.reduceLE, Int.reduceToNat, BitVec.reduceOfInt, BitVec.reduceToNat, reduceCtorEq, and_self, decide_true, decide_false, Bool.not_true, Bool.not_false, ne_eq, not_true_eq_false, not_false_eq_true, true_and, and_true, sl0]
  repeat (refine And.intro (by omega) ?_)
  refine SemE.call fn_17 rfl rfl (specBlock1 st pa cp qp 64 cq (bs'.take 64) w' hpa (by rw [List.map_take]; exact hpp.take 64) (by simp; omega) (by omega) (by omega)) ?_
  rintro _ w2 ⟨b2, rfl, hl2⟩
  refine ⟨_, rfl, ?_⟩
  simp only [ev, fx, ↓reduceIte, Nat.reduceEqDiff, Nat.reduceLT, Nat.reduceLeDiff, Nat.reduceAdd, Nat.reduceSub, Nat.reduceMul, Int.reduceLT, Int.reduceLE, Int.reduceToNat, BitVec.reduceOfInt, BitVec.reduceToNat, reduceCtorEq, and_self, decide_true, decide_false, Bool.not_true, Bool.not_false, ne_eq, not_true_eq_false, not_false_eq_true, true_and, and_true]
  refine hK _ _ fun S1 h1 => ?_; clear hK K
  simp only [BlockE, ThenE]
  have hg2 := hl2.toGrow
  refine ⟨⟨b2, 0, none⟩, 5, h1, ?_, hpp.grow hg2, hg.trans hg2⟩
  rw [← blk_take]
  exact Rd.blk hl2 (k := 0) rfl 0 5
end Go.Proofs.Ytikejalfiaindaa
