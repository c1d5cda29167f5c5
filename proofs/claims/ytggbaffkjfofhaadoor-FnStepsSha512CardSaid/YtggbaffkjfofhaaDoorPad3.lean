/- A text that is filled up. -/
import Derived.Test.YtggbaffkjfofhaaDoorFacts
set_option linter.unusedVariables false
set_option linter.unusedSimpArgs false
namespace Go.Proofs.YtggbaffkjfofhaaDoor
open Go

def sameE : Env → Env → Prop
  | _, [] => True
  | (k, v) :: S, (k', v') :: S' => k = k' ∧ v.val = v'.val ∧ sameE S S'
  | [], _ :: _ => False
theorem sameE_get : ∀ {S S' : Env}, sameE S S' → ∀ t v', S'.get t = some v' → ∃ v, S.get t = some v ∧ v.val = v'.val
  | _, [], _, t, v', h => by simp [Env.get] at h
  | [], _ :: _, h, _, _, _ => h.elim
  | (k, v) :: S, (k', v') :: S', h, t, u, ht => by
    obtain ⟨rfl, hv, hs⟩ := h
    simp only [Env.get] at ht ⊢
    split at ht
    · rename_i hk
      cases ht
      exact ⟨v, by rw [if_pos hk], hv⟩
    · rename_i hk
      rw [if_neg hk]
      exact sameE_get hs t u ht
/-- A slot's value, told otherwise. -/
theorem EWp.recast {P : Program} {n : Nat} {S : Env} {w : World} {Q : Exit → Env → World → Prop} {c : Code} (S' : Env) (h : sameE S S') (hh : EWp P n c S' w Q) : EWp P n c S w Q := fun a ha =>
  hh a ⟨ha.defers, ha.size, fun t v' ht => by obtain ⟨v, h1, h2⟩ := sameE_get h t v' ht; rw [← h2]; exact ha.slots t v h1⟩

def tailB (m L i : Nat) : BitVec 8 := if m - 1 - i < 8 then ((8#64 * BitVec.ofNat 64 L) >>> (8 * (m - 1 - i))).setWidth 8 else 0
def tailL (m L k : Nat) : List (BitVec 8) := (List.range k).map (tailB m L)
theorem tailL_succ (m L k : Nat) : tailL m L (k + 1) = tailL m L k ++ [tailB m L k] := by simp [tailL, List.range_succ]
theorem tailL_len (m L k : Nat) : (tailL m L k).length = k := by simp [tailL]
def zN (n s L : Nat) : Nat := (n + s - 1 - L % n) % n
def padS (n m s : Nat) (data : List (BitVec 8)) : List (BitVec 8) := data ++ [128#8] ++ List.replicate (zN n s data.length) 0#8 ++ tailL m data.length m
theorem padS_len (n m s : Nat) (data : List (BitVec 8)) : (padS n m s data).length = data.length + 1 + zN n s data.length + m := by simp [padS, tailL_len]; omega

set_option maxRecDepth 100000 in
theorem padded128 (a : Option Addr) (l c : Nat) (data : List (BitVec 8)) (w : World) (hr : Rd w a (data.map SV.u8)) (hn : data.length = l) (ha : a = none → l = 0) (hbig : l ≤ 1000000) :
    Calls Tryd.prog 27 #[(SV.sl a l c).val, (SV.nat 128).val] w fun e w' => ∃ v B, e = .returned v.val ∧ Own 5 1 v (padS 128 16 112 data).length ((padS 128 16 112 data).map SV.u8) B ∧ HL w w' [] B := by
  refine calls_E [.sl a l c, .nat 128] Tryd.func27 rfl Tryd.ntmps27 rfl ?_
  refine EWp.seqR [0, 1] fun K hK => ?_
  simp only [ev, fx, ↓reduceIte, Nat.reduceEqDiff, Nat.reduceLT, Nat.reduceLeDiff, Nat.reduceAdd, Nat.reduceSub, Nat.reduceMul, Int.reduceLT, Int.reduceLE, Int.reduceToNat, BitVec.reduceOfInt, BitVec.reduceToNat, reduceCtorEq, and_self, decide_true, decide_false, Bool.not_true, Bool.not_false, ne_eq, not_true_eq_false, not_false_eq_true, true_and, and_true]
  repeat (refine And.intro (by omega) ?_)
  refine hK _ _ ?_; clear hK K
  refine EWp.seqR [0, 1, 5] fun K hK => ?_
  simp only [ev, fx, ↓reduceIte, Nat.reduceEqDiff, Nat.reduceLT, Nat.reduceLeDiff, Nat.reduceAdd, Nat.reduceSub, Nat.reduceMul, Int.reduceLT, Int.reduceLE, Int.reduceToNat, BitVec.reduceOfInt, BitVec.reduceToNat, reduceCtorEq, and_self, decide_true, decide_false, Bool.not_true, Bool.not_false, ne_eq, not_true_eq_false, not_false_eq_true, true_and, and_true]
  refine SemE.buildSlice (vs := []) (HL.start w) 5 slof_23 rfl rfl (by omega) rfl fun b0 w1 hb0 hl => ?_
  have ho : Own 5 1 (.sl (some ⟨b0, 0, none⟩) 0 0) 0 ([] : List SV) [(b0, 5, [])] := Own.full rfl (by unfold maxLen; omega)
  have hl : HL w w1 [] [(b0, 5, [])] := hl
  generalize ([(b0, 5, [])] : List Blk) = B at ho hl
  generalize (SV.sl (some ⟨b0, 0, none⟩) 0 0) = v at ho ⊢
  simp only [ev, fx, ↓reduceIte, Nat.reduceEqDiff, Nat.reduceLT, Nat.reduceLeDiff, Nat.reduceAdd, Nat.reduceSub, Nat.reduceMul, Int.reduceLT, Int.reduceLE, Int.reduceToNat, BitVec.reduceOfInt, BitVec.reduceToNat, reduceCtorEq, and_self, decide_true, decide_false, Bool.not_true, Bool.not_false, ne_eq, not_true_eq_false, not_false_eq_true, true_and, and_true]
  have hr1 := hr.grow hl.toGrow
  refine SemE.append (H := []) (by rw [List.append_nil]; exact hl) ho slof_23 rfl rfl rfl hr1 (by simp [hn]) ha (isOneB _) (by omega) rfl fun v B w1 ho hl _ => ?_
  rw [List.append_nil] at hl
  rw [Nat.zero_add, List.nil_append] at ho
  simp only [ev, fx, ↓reduceIte, Nat.reduceEqDiff, Nat.reduceLT, Nat.reduceLeDiff, Nat.reduceAdd, Nat.reduceSub, Nat.reduceMul, Int.reduceLT, Int.reduceLE, Int.reduceToNat, BitVec.reduceOfInt, BitVec.reduceToNat, reduceCtorEq, and_self, decide_true, decide_false, Bool.not_true, Bool.not_false, ne_eq, not_true_eq_false, not_false_eq_true, true_and, and_true]
  refine SemE.buildSlice (vs := [SV.u8 128#8]) hl 5 slof_23 rfl rfl (by omega) rfl fun b1 w2 hb1 hl => ?_
  simp only [ev, fx, ↓reduceIte, Nat.reduceEqDiff, Nat.reduceLT, Nat.reduceLeDiff, Nat.reduceAdd, Nat.reduceSub, Nat.reduceMul, Int.reduceLT, Int.reduceLE, Int.reduceToNat, BitVec.reduceOfInt, BitVec.reduceToNat, reduceCtorEq, and_self, decide_true, decide_false, Bool.not_true, Bool.not_false, ne_eq, not_true_eq_false, not_false_eq_true, true_and, and_true]
  have hr1 : Rd w2 (some ⟨b1, 0, none⟩) [SV.u8 128#8] := Rd.blk (hl.sub (List.sublist_append_right _ [(b1, 5, [SV.u8 128#8])])) (k := 0) rfl 0 1
  refine SemE.append hl ho slof_23 rfl rfl rfl hr1 rfl (fun h => by cases h) (by simp [SV.isOne]) (by omega) rfl fun v2 B2 w3 ho hl _ => ?_
  have hl := hl.sub (List.sublist_append_left B2 _)
  simp only [ev, fx, ↓reduceIte, Nat.reduceEqDiff, Nat.reduceLT, Nat.reduceLeDiff, Nat.reduceAdd, Nat.reduceSub, Nat.reduceMul, Int.reduceLT, Int.reduceLE, Int.reduceToNat, BitVec.reduceOfInt, BitVec.reduceToNat, reduceCtorEq, and_self, decide_true, decide_false, Bool.not_true, Bool.not_false, ne_eq, not_true_eq_false, not_false_eq_true, true_and, and_true]
  repeat (refine And.intro (by omega) ?_)
  refine hK _ _ ?_; clear hK K
  have ho : Own 5 1 v2 (l + 1 + 0) ((data ++ [128#8] ++ List.replicate 0 0#8).map SV.u8) B2 := by simpa using ho
  have hzn : zN 128 112 l < 128 := Nat.mod_lt _ (by omega)
  refine EWp.cut [0, 1, 5] (fun S' w' => ∃ v B, S' = [(0, .sl a l c), (1, .nat 128), (5, v)] ∧ Own 5 1 v (l + 1 + zN 128 112 l) ((data ++ [128#8] ++ List.replicate (zN 128 112 l) 0#8).map SV.u8) B ∧ HL w w' [] B) ?_ ?_
  case refine_1 =>
    refine EWp.block ?_
    refine EWp.loop [0, 1, 5] (fun k S' w' => ∃ i v B, i ≤ zN 128 112 l ∧ k = zN 128 112 l - i ∧ S' = [(0, .sl a l c), (1, .nat 128), (5, v)] ∧ Own 5 1 v (l + 1 + i) ((data ++ [128#8] ++ List.replicate i 0#8).map SV.u8) B ∧ HL w w' [] B) (zN 128 112 l) ?_ ?_
    case refine_1 => exact ⟨0, v2, B2, by omega, rfl, rfl, ho, hl⟩
    clear hl ho hr1
    rintro k S' w' ⟨i, v, B, hi, rfl, rfl, ho, hl⟩
    obtain ⟨a5, c5, rfl, hc5, ha5⟩ := ho.shape
    refine EWp.headR [0, 1, 5, 20] fun K hK => ?_
    simp only [ev, fx, ↓reduceIte, Nat.reduceEqDiff, Nat.reduceLT, Nat.reduceLeDiff, Nat.reduceAdd, Nat.reduceSub, Nat.reduceMul, Int.reduceLT, Int.reduceLE, Int.reduceToNat, BitVec.reduceOfInt, BitVec.reduceToNat, reduceCtorEq, and_self, decide_true, decide_false, Bool.not_true, Bool.not_false, ne_eq, not_true_eq_false, not_false_eq_true, true_and, and_true, Nat.reduceDiv]
    repeat (refine And.intro (by omega) ?_)
    refine hK _ _ (decide (¬ (l + 1 + i) % 128 = 112)) rfl (fun h => ?_) (fun h => ?_) <;> clear hK K
    case refine_2 =>
      have h : (l + 1 + i) % 128 = 112 := by simpa using h
      simp only [BlockE, ThenE, ↓reduceIte]
      have hiz : i = zN 128 112 l := by unfold zN at hi ⊢; omega
      subst hiz
      exact ⟨_, B, rfl, ho, hl⟩
    have h : ¬ (l + 1 + i) % 128 = 112 := of_decide_eq_true h
    have hiz : i < zN 128 112 l := by
      rcases Nat.lt_or_ge i (zN 128 112 l) with h1 | h1
      · exact h1
      · have : i = zN 128 112 l := by omega
        subst this
        exact absurd (by unfold zN; omega) h
    refine EWp.block ?_
    refine EWp.regR [0, 1, 5] fun K hK => ?_
    simp only [ev, fx, ↓reduceIte, Nat.reduceEqDiff, Nat.reduceLT, Nat.reduceLeDiff, Nat.reduceAdd, Nat.reduceSub, Nat.reduceMul, Int.reduceLT, Int.reduceLE, Int.reduceToNat, BitVec.reduceOfInt, BitVec.reduceToNat, reduceCtorEq, and_self, decide_true, decide_false, Bool.not_true, Bool.not_false, ne_eq, not_true_eq_false, not_false_eq_true, true_and, and_true]
    refine SemE.buildSlice (vs := [SV.u8 0#8]) hl 5 slof_23 rfl rfl (by omega) rfl fun b1 w2 hb1 hl => ?_
    simp only [ev, fx, ↓reduceIte, Nat.reduceEqDiff, Nat.reduceLT, Nat.reduceLeDiff, Nat.reduceAdd, Nat.reduceSub, Nat.reduceMul, Int.reduceLT, Int.reduceLE, Int.reduceToNat, BitVec.reduceOfInt, BitVec.reduceToNat, reduceCtorEq, and_self, decide_true, decide_false, Bool.not_true, Bool.not_false, ne_eq, not_true_eq_false, not_false_eq_true, true_and, and_true]
    have hr1 : Rd w2 (some ⟨b1, 0, none⟩) [SV.u8 0#8] := Rd.blk (hl.sub (List.sublist_append_right _ [(b1, 5, [SV.u8 0#8])])) (k := 0) rfl 0 1
    refine SemE.append hl ho slof_23 rfl rfl rfl hr1 rfl (fun h => by cases h) (by simp [SV.isOne]) (by omega) rfl fun v2 B2 w3 ho hl _ => ?_
    have hl := hl.sub (List.sublist_append_left B2 _)
    simp only [ev, fx, ↓reduceIte, Nat.reduceEqDiff, Nat.reduceLT, Nat.reduceLeDiff, Nat.reduceAdd, Nat.reduceSub, Nat.reduceMul, Int.reduceLT, Int.reduceLE, Int.reduceToNat, BitVec.reduceOfInt, BitVec.reduceToNat, reduceCtorEq, and_self, decide_true, decide_false, Bool.not_true, Bool.not_false, ne_eq, not_true_eq_false, not_false_eq_true, true_and, and_true]
    refine hK _ _ fun S1 h1 => ?_; clear hK K
    simp only [BlockE, ThenE]
    refine ⟨zN 128 112 l - i - 1, by omega, i + 1, v2, B2, by omega, by omega, h1, ?_, hl⟩
    rw [List.replicate_succ', ← List.append_assoc, List.map_append]
    exact ho
  clear hl ho hr1
  rintro S' w' ⟨v, B, rfl, ho, hl⟩
  refine EWp.cut [5] (fun S' w' => ∃ v B, S' = [(5, v)] ∧ Own 5 1 v (l + 1 + zN 128 112 l + 16) ((padS 128 16 112 data).map SV.u8) B ∧ HL w w' [] B) ?_ ?_
  case refine_2 =>
    clear hl ho v B
    rintro S' w' ⟨v, B, rfl, ho, hl⟩
    refine EWp.seqR [4] fun K hK => ?_
    simp only [ev, fx, ↓reduceIte, Nat.reduceEqDiff, Nat.reduceLT, Nat.reduceLeDiff, Nat.reduceAdd, Nat.reduceSub, Nat.reduceMul, Int.reduceLT, Int.reduceLE, Int.reduceToNat, BitVec.reduceOfInt, BitVec.reduceToNat, reduceCtorEq, and_self, decide_true, decide_false, Bool.not_true, Bool.not_false, ne_eq, not_true_eq_false, not_false_eq_true, true_and, and_true]
    repeat (refine And.intro (by omega) ?_)
    refine hK _ _ ?_; clear hK K
    refine EWp.ret (BodyE.tmp1 rfl rfl ⟨v, B, rfl, ?_, hl⟩)
    rw [padS_len, hn]
    exact ho
  refine EWp.seqR [0, 5, 6] fun K hK => ?_
  simp only [ev, fx, ↓reduceIte, Nat.reduceEqDiff, Nat.reduceLT, Nat.reduceLeDiff, Nat.reduceAdd, Nat.reduceSub, Nat.reduceMul, Int.reduceLT, Int.reduceLE, Int.reduceToNat, BitVec.reduceOfInt, BitVec.reduceToNat, reduceCtorEq, and_self, decide_true, decide_false, Bool.not_true, Bool.not_false, ne_eq, not_true_eq_false, not_false_eq_true, true_and, and_true, Nat.reduceDiv]
  repeat (refine And.intro (by omega) ?_)
  refine hK _ _ ?_; clear hK K
  refine EWp.recast [(0, .sl a l c), (5, v), (6, .int ((16 : Nat) - 1 : Int))] ⟨rfl, rfl, rfl, rfl, rfl, rfl, trivial⟩ ?_
  refine EWp.block ?_
  refine EWp.loop [0, 5, 6] (fun k S' w' => ∃ (z : Int) (v : SV) (B : List Blk), k ≤ 16 ∧ z + 1 = k ∧ S' = [(0, .sl a l c), (5, v), (6, .int z)] ∧ Own 5 1 v (l + 1 + zN 128 112 l + (16 - k)) ((data ++ [128#8] ++ List.replicate (zN 128 112 l) 0#8 ++ tailL 16 l (16 - k)).map SV.u8) B ∧ HL w w' [] B) 16 ?_ ?_
  case refine_1 => exact ⟨_, v, B, by omega, by omega, rfl, by simpa [tailL] using ho, hl⟩
  clear hl ho v B
  rintro j S' w' ⟨z, v, B, hj, hz, rfl, ho, hl⟩
  refine EWp.headR [0, 5, 6, 28] fun K hK => ?_
  simp only [ev, fx, ↓reduceIte, Nat.reduceEqDiff, Nat.reduceLT, Nat.reduceLeDiff, Nat.reduceAdd, Nat.reduceSub, Nat.reduceMul, Int.reduceLT, Int.reduceLE, Int.reduceToNat, BitVec.reduceOfInt, BitVec.reduceToNat, reduceCtorEq, and_self, decide_true, decide_false, Bool.not_true, Bool.not_false, ne_eq, not_true_eq_false, not_false_eq_true, true_and, and_true]
  refine hK _ _ (decide (((0 : Nat) : Int) ≤ z)) rfl (fun hlt => ?_) (fun hlt => ?_) <;> clear hK K
  case refine_2 =>
    have hlt := of_decide_eq_false hlt
    obtain rfl : j = 0 := by omega
    simp only [BlockE, ThenE, ↓reduceIte]
    refine ⟨v, B, rfl, ?_, hl⟩
    unfold padS
    rw [hn]
    exact ho
  have hlt := of_decide_eq_true hlt
  obtain ⟨k, rfl⟩ : ∃ k, j = k + 1 := ⟨j - 1, by omega⟩
  obtain rfl : z = (k : Int) := by omega
  refine EWp.recast [(0, .sl a l c), (5, v), (6, .nat k)] ⟨rfl, rfl, rfl, rfl, rfl, rfl, trivial⟩ ?_
  refine EWp.cut [0, 5, 6] (fun S' w' => ∃ v B, S' = [(0, .sl a l c), (5, v), (6, .nat k)] ∧ Own 5 1 v (l + 1 + zN 128 112 l + (16 - k)) ((data ++ [128#8] ++ List.replicate (zN 128 112 l) 0#8 ++ tailL 16 l (16 - k)).map SV.u8) B ∧ HL w w' [] B) ?_ ?_
  case refine_2 =>
    clear hl ho v B
    rintro S' w' ⟨v, B, rfl, ho, hl⟩
    refine EWp.recast [(0, .sl a l c), (5, v), (6, .int (k : Int))] ⟨rfl, rfl, rfl, rfl, rfl, rfl, trivial⟩ ?_
    refine EWp.regR [0, 5, 6] fun K hK => ?_
    simp only [ev, fx, ↓reduceIte, Nat.reduceEqDiff, Nat.reduceLT, Nat.reduceLeDiff, Nat.reduceAdd, Nat.reduceSub, Nat.reduceMul, Int.reduceLT, Int.reduceLE, Int.reduceToNat, BitVec.reduceOfInt, BitVec.reduceToNat, reduceCtorEq, and_self, decide_true, decide_false, Bool.not_true, Bool.not_false, ne_eq, not_true_eq_false, not_false_eq_true, true_and, and_true]
    repeat (refine And.intro (by omega) ?_)
    exact hK _ _ fun S1 h1 => ⟨k, by omega, (k : Int) - ((1 : Nat) : Int), v, B, by omega, by omega, h1, ho, hl⟩
  have hmk : 16 - k = 16 - (k + 1) + 1 := by omega
  have hsucc := tailL_succ 16 l (16 - (k + 1))
  rw [← hmk] at hsucc
  have hk1 : 16 - 1 - (16 - (k + 1)) = k := by omega
  have hlen : l + 1 + zN 128 112 l + (16 - (k + 1)) + 1 = l + 1 + zN 128 112 l + (16 - k) := by omega
  refine EWp.block ?_
  refine EWp.brR [0, 5, 6, 32] fun K hK => ?_
  simp only [ev, fx, ↓reduceIte, Nat.reduceEqDiff, Nat.reduceLT, Nat.reduceLeDiff, Nat.reduceAdd, Nat.reduceSub, Nat.reduceMul, Int.reduceLT, Int.reduceLE, Int.reduceToNat, BitVec.reduceOfInt, BitVec.reduceToNat, reduceCtorEq, and_self, decide_true, decide_false, Bool.not_true, Bool.not_false, ne_eq, not_true_eq_false, not_false_eq_true, true_and, and_true]
  refine hK _ _ (decide (k < 8)) rfl (fun h8 => ?_) (fun h8 => ?_) <;> clear hK K
  · have h8 := of_decide_eq_true h8
    refine EWp.regR [0, 5, 6] fun K hK => ?_
    simp only [ev, fx, ↓reduceIte, Nat.reduceEqDiff, Nat.reduceLT, Nat.reduceLeDiff, Nat.reduceAdd, Nat.reduceSub, Nat.reduceMul, Int.reduceLT, Int.reduceLE, Int.reduceToNat, BitVec.reduceOfInt, BitVec.reduceToNat, reduceCtorEq, and_self, decide_true, decide_false, Bool.not_true, Bool.not_false, ne_eq, not_true_eq_false, not_false_eq_true, true_and, and_true]
    repeat (refine And.intro (by omega) ?_)
    refine SemE.buildSlice (vs := [SV.u8 (((8#64 * BitVec.ofNat 64 l) >>> (8 * k)).setWidth 8)]) hl 5 slof_23 rfl rfl (by omega) rfl fun b1 w2 hb1 hl => ?_
    simp only [ev, fx, ↓reduceIte, Nat.reduceEqDiff, Nat.reduceLT, Nat.reduceLeDiff, Nat.reduceAdd, Nat.reduceSub, Nat.reduceMul, Int.reduceLT, Int.reduceLE, Int.reduceToNat, BitVec.reduceOfInt, BitVec.reduceToNat, reduceCtorEq, and_self, decide_true, decide_false, Bool.not_true, Bool.not_false, ne_eq, not_true_eq_false, not_false_eq_true, true_and, and_true]
    have hr1 : Rd w2 (some ⟨b1, 0, none⟩) [SV.u8 (((8#64 * BitVec.ofNat 64 l) >>> (8 * k)).setWidth 8)] := Rd.blk (hl.sub (List.sublist_append_right _ [(b1, 5, [SV.u8 (((8#64 * BitVec.ofNat 64 l) >>> (8 * k)).setWidth 8)])])) (k := 0) rfl 0 1
    refine SemE.append hl ho slof_23 rfl rfl rfl hr1 rfl (fun h => by cases h) (by simp [SV.isOne]) (by omega) rfl fun v2 B2 w3 ho hl _ => ?_
    have hl := hl.sub (List.sublist_append_left B2 _)
    simp only [ev, fx, ↓reduceIte, Nat.reduceEqDiff, Nat.reduceLT, Nat.reduceLeDiff, Nat.reduceAdd, Nat.reduceSub, Nat.reduceMul, Int.reduceLT, Int.reduceLE, Int.reduceToNat, BitVec.reduceOfInt, BitVec.reduceToNat, reduceCtorEq, and_self, decide_true, decide_false, Bool.not_true, Bool.not_false, ne_eq, not_true_eq_false, not_false_eq_true, true_and, and_true]
    refine hK _ _ fun S1 h1 => ?_; clear hK K
    simp only [BlockE, ThenE]
    refine ⟨v2, B2, h1, ?_, hl⟩
    have ht : tailB 16 l (16 - (k + 1)) = ((8#64 * BitVec.ofNat 64 l) >>> (8 * k)).setWidth 8 := by unfold tailB; rw [hk1, if_pos h8]
    rw [hsucc, ht, ← List.append_assoc, List.map_append, ← hlen]
    exact ho
  · have h8 := of_decide_eq_false h8
    refine EWp.regR [0, 5, 6] fun K hK => ?_
    simp only [ev, fx, ↓reduceIte, Nat.reduceEqDiff, Nat.reduceLT, Nat.reduceLeDiff, Nat.reduceAdd, Nat.reduceSub, Nat.reduceMul, Int.reduceLT, Int.reduceLE, Int.reduceToNat, BitVec.reduceOfInt, BitVec.reduceToNat, reduceCtorEq, and_self, decide_true, decide_false, Bool.not_true, Bool.not_false, ne_eq, not_true_eq_false, not_false_eq_true, true_and, and_true]
    repeat (refine And.intro (by omega) ?_)
    refine SemE.buildSlice (vs := [SV.u8 0#8]) hl 5 slof_23 rfl rfl (by omega) rfl fun b1 w2 hb1 hl => ?_
    simp only [ev, fx, ↓reduceIte, Nat.reduceEqDiff, Nat.reduceLT, Nat.reduceLeDiff, Nat.reduceAdd, Nat.reduceSub, Nat.reduceMul, Int.reduceLT, Int.reduceLE, Int.reduceToNat, BitVec.reduceOfInt, BitVec.reduceToNat, reduceCtorEq, and_self, decide_true, decide_false, Bool.not_true, Bool.not_false, ne_eq, not_true_eq_false, not_false_eq_true, true_and, and_true]
    have hr1 : Rd w2 (some ⟨b1, 0, none⟩) [SV.u8 0#8] := Rd.blk (hl.sub (List.sublist_append_right _ [(b1, 5, [SV.u8 0#8])])) (k := 0) rfl 0 1
    refine SemE.append hl ho slof_23 rfl rfl rfl hr1 rfl (fun h => by cases h) (by simp [SV.isOne]) (by omega) rfl fun v2 B2 w3 ho hl _ => ?_
    have hl := hl.sub (List.sublist_append_left B2 _)
    simp only [ev, fx, ↓reduceIte, Nat.reduceEqDiff, Nat.reduceLT, Nat.reduceLeDiff, Nat.reduceAdd, Nat.reduceSub, Nat.reduceMul, Int.reduceLT, Int.reduceLE, Int.reduceToNat, BitVec.reduceOfInt, BitVec.reduceToNat, reduceCtorEq, and_self, decide_true, decide_false, Bool.not_true, Bool.not_false, ne_eq, not_true_eq_false, not_false_eq_true, true_and, and_true]
    refine hK _ _ fun S1 h1 => ?_; clear hK K
    simp only [BlockE, ThenE]
    refine ⟨v2, B2, h1, ?_, hl⟩
    have ht : tailB 16 l (16 - (k + 1)) = 0#8 := by unfold tailB; rw [hk1, if_neg h8]; rfl
    rw [hsucc, ht, ← List.append_assoc, List.map_append, ← hlen]
    exact ho
end Go.Proofs.YtggbaffkjfofhaaDoor
