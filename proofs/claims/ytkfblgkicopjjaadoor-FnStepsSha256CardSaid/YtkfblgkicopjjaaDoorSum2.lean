/- checkSum of SHA-256. -/
import Derived.Test.YtkfblgkicopjjaaDoorWr2
import Derived.Test.YtkfblgkicopjjaaDoorBe2
set_option linter.unusedVariables false
set_option linter.unusedSimpArgs false
namespace Go.Proofs.YtkfblgkicopjjaaDoor
open Go

def padT (L : Nat) : Nat := if L % 64 < 56 then 56 - L % 64 else 120 - L % 64
def padB (L : Nat) : List B8 := (0x80#8 :: List.replicate (padT L - 1) 0#8) ++ (List.range 8).map (be8 (BitVec.ofNat 64 L <<< 3))
theorem padT_pos (L : Nat) : 1 ≤ padT L ∧ padT L ≤ 64 := by unfold padT; split <;> omega
theorem padB_length (L : Nat) : (padB L).length = padT L + 8 := by have := padT_pos L; simp [padB]; omega
def bytes4 (v : W32) : List B8 := (List.range 4).map (be4 v)
def sumB (s : S8) : List B8 := bytes4 s.a ++ bytes4 s.b ++ bytes4 s.c ++ bytes4 s.d ++ bytes4 s.e ++ bytes4 s.f ++ bytes4 s.g ++ bytes4 s.h

theorem rem64 (L : Nat) (hL : L < 1152921504606846976) : BitVec.ofNat 64 L % 64#64 = BitVec.ofNat 64 (L % 64) := by
  apply BitVec.eq_of_toNat_eq
  simp only [BitVec.toNat_umod, BitVec.toNat_ofNat, Nat.reducePow, Nat.reduceMod]
  omega

theorem padCells (L : Nat) : ((putAt ((List.replicate 72 (SV.u8 0)).set 0 (.u8 128#8)) (padT L) (be64L (BitVec.ofNat 64 L <<< 3) 8)).drop 0).take (padT L + 8) = (padB L).map SV.u8 := by
  obtain ⟨h1, h2⟩ := padT_pos L
  have e : (List.replicate 72 (SV.u8 0)).set 0 (.u8 128#8) = SV.u8 128#8 :: List.replicate 71 (SV.u8 0) := rfl
  rw [e, List.drop_zero]
  unfold putAt padB
  obtain ⟨t, ht⟩ : ∃ t, padT L = t + 1 := ⟨padT L - 1, by omega⟩
  rw [ht, List.take_succ_cons, List.take_append_of_le_length (by simp [be64L_len]; omega), List.take_of_length_le (by simp [be64L_len]; omega)]
  rw [List.take_replicate, show min t 71 = t by omega, List.map_append, List.map_cons, List.map_replicate, List.map_map]
  rfl

def outL (r : S8) (k : Nat) : List SV := ((sumB r).take (4 * k)).map SV.u8 ++ List.replicate (32 - 4 * k) (SV.u8 0)
theorem sumB_len (r : S8) : (sumB r).length = 32 := rfl
theorem outL_len (r : S8) (k : Nat) : (outL r k).length = max 32 (min (4 * k) 32 + (32 - 4 * k)) := by simp [outL, sumB_len]; omega
theorem outL_one (r : S8) (k : Nat) : ∀ v ∈ outL r k, v.isOne = true := by
  intro v hv
  unfold outL at hv
  rcases List.mem_append.1 hv with h | h
  · exact isOneB _ v h
  · rw [List.eq_of_mem_replicate h]; rfl
theorem outL_get (r : S8) (k : Nat) (h : k < 8) : (outL r k)[4 * k + 3]? = some (.u8 0) := by
  unfold outL
  rw [List.getElem?_append_right (by simp [sumB_len]; omega), List.getElem?_replicate, if_pos (by simp [sumB_len]; omega)]
theorem outL_get0 (r : S8) : (outL r 0)[0 + 3]? = some (.u8 0) := outL_get r 0 (by omega)
theorem outL_get1 (r : S8) : (outL r 1)[4 + 3]? = some (.u8 0) := outL_get r 1 (by omega)
theorem outL_get2 (r : S8) : (outL r 2)[8 + 3]? = some (.u8 0) := outL_get r 2 (by omega)
theorem outL_get3 (r : S8) : (outL r 3)[12 + 3]? = some (.u8 0) := outL_get r 3 (by omega)
theorem outL_get4 (r : S8) : (outL r 4)[16 + 3]? = some (.u8 0) := outL_get r 4 (by omega)
theorem outL_get5 (r : S8) : (outL r 5)[20 + 3]? = some (.u8 0) := outL_get r 5 (by omega)
theorem outL_get6 (r : S8) : (outL r 6)[24 + 3]? = some (.u8 0) := outL_get r 6 (by omega)
theorem outL_get7 (r : S8) : (outL r 7)[28 + 3]? = some (.u8 0) := outL_get r 7 (by omega)
theorem outL_0 (r : S8) : putAt (outL r 0) 0 (be32L r.a 4) = outL r 1 := rfl
theorem outL_1 (r : S8) : putAt (outL r 1) 4 (be32L r.b 4) = outL r 2 := rfl
theorem outL_2 (r : S8) : putAt (outL r 2) 8 (be32L r.c 4) = outL r 3 := rfl
theorem outL_3 (r : S8) : putAt (outL r 3) 12 (be32L r.d 4) = outL r 4 := rfl
theorem outL_4 (r : S8) : putAt (outL r 4) 16 (be32L r.e 4) = outL r 5 := rfl
theorem outL_5 (r : S8) : putAt (outL r 5) 20 (be32L r.f 4) = outL r 6 := rfl
theorem outL_6 (r : S8) : putAt (outL r 6) 24 (be32L r.g 4) = outL r 7 := rfl
theorem outL_7 (r : S8) : putAt (outL r 7) 28 (be32L r.h 4) = outL r 8 := rfl
def outN (sh : Bool) : Nat := bif sh then 7 else 8

set_option maxRecDepth 100000 in
set_option maxHeartbeats 1000000 in
theorem checkSum2 (b : Nat) (s : S8) (x : List B8) (L : Nat) (sh : Bool) (w : World) (hb : w.heap[b]? = some (.cells ((digC s x (L % 64) (BitVec.ofNat 64 L) sh).map SV.val).toArray 80 (0, 0)))
    (hx : x.length = 64) (hko : KO w) (hkb : 0 ≠ b) (hL : L < 1152921504606846976) :
    Calls Tryd.prog 51 #[(SV.ptr ⟨b, 0, none⟩).val] w fun e w' => e = .returned (SV.agg (outL (blocks s (x.take (L % 64) ++ padB L)) (outN sh))).val ∧
      ∃ x' ln', x'.length = 64 ∧ HL w w' [b] [(b, 80, digC (blocks s (x.take (L % 64) ++ padB L)) x' 0 ln' sh)] := by
  refine calls_E [.ptr ⟨b, 0, none⟩] Tryd.func51 rfl Tryd.ntmps51 rfl ?_
  have hl := HL.startB hb
  refine EWp.seqR [0, 2] fun K hK => ?_
  simp only [ev, fx, ↓reduceIte, Nat.reduceEqDiff, Nat.reduceLT, Nat.reduceLeDiff, Nat.reduceAdd, Nat.reduceSub, Nat.reduceMul, Int.reduceLT, Int.reduceLE, Int.reduceToNat, BitVec.reduceOfInt, BitVec.reduceToNat, reduceCtorEq, and_self, decide_true, decide_false, Bool.not_true, Bool.not_false, ne_eq, not_true_eq_false, not_false_eq_true, true_and, and_true]
  refine SemE.alloc hl zero_87 rfl fun g2 w1 hg2 hl => ?_
  simp only [ev, fx, ↓reduceIte, Nat.reduceEqDiff, Nat.reduceLT, Nat.reduceLeDiff, Nat.reduceAdd, Nat.reduceSub, Nat.reduceMul, Int.reduceLT, Int.reduceLE, Int.reduceToNat, BitVec.reduceOfInt, BitVec.reduceToNat, reduceCtorEq, and_self, decide_true, decide_false, Bool.not_true, Bool.not_false, ne_eq, not_true_eq_false, not_false_eq_true, true_and, and_true]
  repeat (refine And.intro (by omega) ?_)
  refine hK _ _ ?_; clear hK K
  refine EWp.seqR [0, 2, 3] fun K hK => ?_
  simp only [ev, fx, ↓reduceIte, Nat.reduceEqDiff, Nat.reduceLT, Nat.reduceLeDiff, Nat.reduceAdd, Nat.reduceSub, Nat.reduceMul, Int.reduceLT, Int.reduceLE, Int.reduceToNat, BitVec.reduceOfInt, BitVec.reduceToNat, reduceCtorEq, and_self, decide_true, decide_false, Bool.not_true, Bool.not_false, ne_eq, not_true_eq_false, not_false_eq_true, true_and, and_true]
  refine SemE.loadB hl 0 rfl one_31 rfl rfl (digC_len_get _ _ _ _ _ hx) ?_
  simp only [ev, fx, ↓reduceIte, Nat.reduceEqDiff, Nat.reduceLT, Nat.reduceLeDiff, Nat.reduceAdd, Nat.reduceSub, Nat.reduceMul, Int.reduceLT, Int.reduceLE, Int.reduceToNat, BitVec.reduceOfInt, BitVec.reduceToNat, reduceCtorEq, and_self, decide_true, decide_false, Bool.not_true, Bool.not_false, ne_eq, not_true_eq_false, not_false_eq_true, true_and, and_true]
  repeat (refine And.intro (by omega) ?_)
  refine hK _ _ ?_; clear hK K
  refine EWp.seqR [0, 2, 3, 4] fun K hK => ?_
  simp only [ev, fx, ↓reduceIte, Nat.reduceEqDiff, Nat.reduceLT, Nat.reduceLeDiff, Nat.reduceAdd, Nat.reduceSub, Nat.reduceMul, Int.reduceLT, Int.reduceLE, Int.reduceToNat, BitVec.reduceOfInt, BitVec.reduceToNat, reduceCtorEq, and_self, decide_true, decide_false, Bool.not_true, Bool.not_false, ne_eq, not_true_eq_false, not_false_eq_true, true_and, and_true]
  refine SemE.alloc hl zero_97 rfl fun g4 w2 hg4 hl => ?_
  simp only [List.cons_append, List.nil_append] at hl
  simp only [ev, fx, ↓reduceIte, Nat.reduceEqDiff, Nat.reduceLT, Nat.reduceLeDiff, Nat.reduceAdd, Nat.reduceSub, Nat.reduceMul, Int.reduceLT, Int.reduceLE, Int.reduceToNat, BitVec.reduceOfInt, BitVec.reduceToNat, reduceCtorEq, and_self, decide_true, decide_false, Bool.not_true, Bool.not_false, ne_eq, not_true_eq_false, not_false_eq_true, true_and, and_true]
  repeat (refine And.intro (by omega) ?_)
  refine hK _ _ ?_; clear hK K
  refine EWp.seqR [0, 2, 3, 4] fun K hK => ?_
  simp only [ev, fx, ↓reduceIte, Nat.reduceEqDiff, Nat.reduceLT, Nat.reduceLeDiff, Nat.reduceAdd, Nat.reduceSub, Nat.reduceMul, Int.reduceLT, Int.reduceLE, Int.reduceToNat, BitVec.reduceOfInt, BitVec.reduceToNat, reduceCtorEq, and_self, decide_true, decide_false, Bool.not_true, Bool.not_false, ne_eq, not_true_eq_false, not_false_eq_true, true_and, and_true]
  refine SemE.storeB (v := .u8 128#8) hl 2 rfl rfl one_5 rfl rfl (by simp) fun w3 hl => ?_
  simp only [List.set_cons_zero, List.set_cons_succ] at hl
  simp only [ev, fx, ↓reduceIte, Nat.reduceEqDiff, Nat.reduceLT, Nat.reduceLeDiff, Nat.reduceAdd, Nat.reduceSub, Nat.reduceMul, Int.reduceLT, Int.reduceLE, Int.reduceToNat, BitVec.reduceOfInt, BitVec.reduceToNat, reduceCtorEq, and_self, decide_true, decide_false, Bool.not_true, Bool.not_false, ne_eq, not_true_eq_false, not_false_eq_true, true_and, and_true]
  repeat (refine And.intro (by omega) ?_)
  refine hK _ _ ?_; clear hK K
  refine EWp.seqR [0, 2, 3, 4, 5] fun K hK => ?_
  simp only [ev, fx, ↓reduceIte, Nat.reduceEqDiff, Nat.reduceLT, Nat.reduceLeDiff, Nat.reduceAdd, Nat.reduceSub, Nat.reduceMul, Int.reduceLT, Int.reduceLE, Int.reduceToNat, BitVec.reduceOfInt, BitVec.reduceToNat, reduceCtorEq, and_self, decide_true, decide_false, Bool.not_true, Bool.not_false, ne_eq, not_true_eq_false, not_false_eq_true, true_and, and_true]
  repeat (refine And.intro (by omega) ?_)
  refine hK _ _ ?_; clear hK K
  obtain ⟨hp1, hp64⟩ := padT_pos L
  refine EWp.cut [0, 2, 3, 4, 5] (fun S' w' => S' = [(0, .ptr ⟨b, 0, none⟩), (2, .ptr ⟨g2, 0, none⟩), (3, .u64 (BitVec.ofNat 64 L)), (4, .ptr ⟨g4, 0, none⟩), (5, .u64 (BitVec.ofNat 64 (padT L)))] ∧ w' = w3) ?_ ?_
  case refine_1 =>
    refine EWp.brR [0, 2, 3, 4, 5, 15] fun K hK => ?_
    have hm : (BitVec.ofNat 64 (L % 64)).toNat = L % 64 := by rw [BitVec.toNat_ofNat]; omega
    simp only [ev, fx, ↓reduceIte, Nat.reduceEqDiff, Nat.reduceLT, Nat.reduceLeDiff, Nat.reduceAdd, Nat.reduceSub, Nat.reduceMul, Int.reduceLT, Int.reduceLE, Int.reduceToNat, BitVec.reduceOfInt, BitVec.reduceToNat, reduceCtorEq, and_self, decide_true, decide_false, Bool.not_true, Bool.not_false, ne_eq, not_true_eq_false, not_false_eq_true, true_and, and_true, rem64 L hL, hm]
    refine hK _ _ (decide (L % 64 < 56)) rfl (fun h => ?_) (fun h => ?_) <;> clear hK K
    · have h := of_decide_eq_true h
      refine EWp.regR [0, 2, 3, 4, 5] fun K hK => ?_
      simp only [ev, fx, ↓reduceIte, Nat.reduceEqDiff, Nat.reduceLT, Nat.reduceLeDiff, Nat.reduceAdd, Nat.reduceSub, Nat.reduceMul, Int.reduceLT, Int.reduceLE, Int.reduceToNat, BitVec.reduceOfInt, BitVec.reduceToNat, reduceCtorEq, and_self, decide_true, decide_false, Bool.not_true, Bool.not_false, ne_eq, not_true_eq_false, not_false_eq_true, true_and, and_true, rem64 L hL]
      refine hK _ _ fun S1 h1 => ?_; clear hK K
      simp only [ThenE]
      refine ⟨?_, trivial⟩
      have e : 56#64 - BitVec.ofNat 64 (L % 64) = BitVec.ofNat 64 (padT L) := by
        apply BitVec.eq_of_toNat_eq
        simp only [BitVec.toNat_sub, hm, BitVec.toNat_ofNat, Nat.reducePow, Nat.reduceMod]
        simp only [padT, h, if_true]
        omega
      rw [h1, e]
    · have h := of_decide_eq_false h
      refine EWp.regR [0, 2, 3, 4, 5] fun K hK => ?_
      simp only [ev, fx, ↓reduceIte, Nat.reduceEqDiff, Nat.reduceLT, Nat.reduceLeDiff, Nat.reduceAdd, Nat.reduceSub, Nat.reduceMul, Int.reduceLT, Int.reduceLE, Int.reduceToNat, BitVec.reduceOfInt, BitVec.reduceToNat, reduceCtorEq, and_self, decide_true, decide_false, Bool.not_true, Bool.not_false, ne_eq, not_true_eq_false, not_false_eq_true, true_and, and_true, rem64 L hL]
      refine hK _ _ fun S1 h1 => ?_; clear hK K
      simp only [ThenE]
      refine ⟨?_, trivial⟩
      have e : 120#64 - BitVec.ofNat 64 (L % 64) = BitVec.ofNat 64 (padT L) := by
        apply BitVec.eq_of_toNat_eq
        simp only [BitVec.toNat_sub, hm, BitVec.toNat_ofNat, Nat.reducePow, Nat.reduceMod]
        simp only [padT, h, if_false]
        omega
      rw [h1, e]
  rintro S' w' ⟨rfl, rfl⟩
  refine EWp.seqR [0, 2, 3, 4, 5] fun K hK => ?_
  simp only [ev, fx, ↓reduceIte, Nat.reduceEqDiff, Nat.reduceLT, Nat.reduceLeDiff, Nat.reduceAdd, Nat.reduceSub, Nat.reduceMul, Int.reduceLT, Int.reduceLE, Int.reduceToNat, BitVec.reduceOfInt, BitVec.reduceToNat, reduceCtorEq, and_self, decide_true, decide_false, Bool.not_true, Bool.not_false, ne_eq, not_true_eq_false, not_false_eq_true, true_and, and_true]
  repeat (refine And.intro (by omega) ?_)
  refine hK _ _ ?_; clear hK K
  generalize hv : BitVec.ofNat 64 L <<< 3 = v
  have ht8 : (BitVec.ofNat 64 (padT L) + 8#64).toNat = padT L + 8 := by simp only [BitVec.toNat_add, BitVec.toNat_ofNat, Nat.reducePow, Nat.reduceMod]; omega
  have htn : (BitVec.ofNat 64 (padT L)).toNat = padT L := by rw [BitVec.toNat_ofNat]; omega
  refine EWp.seqR [0, 2, 3, 4, 5, 6] fun K hK => ?_
  simp only [ev, fx, ↓reduceIte, Nat.reduceEqDiff, Nat.reduceLT, Nat.reduceLeDiff, Nat.reduceAdd, Nat.reduceSub, Nat.reduceMul, Int.reduceLT, Int.reduceLE, Int.reduceToNat, BitVec.reduceOfInt, BitVec.reduceToNat, reduceCtorEq, and_self, decide_true, decide_false, Bool.not_true, Bool.not_false, ne_eq, not_true_eq_false, not_false_eq_true, true_and, and_true, ht8, Option.map_some]
  repeat (refine And.intro (by omega) ?_)
  refine hK _ _ ?_; clear hK K
  refine EWp.seqR [0, 2, 3, 4, 5, 6] fun K hK => ?_
  have hne : ¬ 72 = padT L := by omega
  simp only [ev, fx, ↓reduceIte, Nat.reduceEqDiff, Nat.reduceLT, Nat.reduceLeDiff, Nat.reduceAdd, Nat.reduceSub, Nat.reduceMul, Int.reduceLT, Int.reduceLE, Int.reduceToNat, BitVec.reduceOfInt, BitVec.reduceToNat, reduceCtorEq, and_self, decide_true, decide_false, Bool.not_true, Bool.not_false, ne_eq, not_true_eq_false, not_false_eq_true, true_and, and_true, BitVec.add_zero, htn, hne, Option.map_some]
  repeat (refine And.intro (by omega) ?_)
  refine SemE.call fn_60 rfl rfl (put64 g4 (padT L) (padT L + 8 - padT L) (72 - padT L) _ _ 0 v _ (hl.at (k := 2) rfl) (by omega) (by simp; omega) (by
    rw [show (List.replicate 72 (SV.u8 0)).set 0 (.u8 128#8) = SV.u8 128#8 :: List.replicate 71 (SV.u8 0) from rfl, List.getElem?_cons, if_neg (by omega), List.getElem?_replicate, if_pos (by omega)])) ?_
  rintro _ w5 ⟨rfl, hl5⟩
  refine ⟨_, rfl, ?_⟩
  have hl := hl.call (k := 2) rfl hl5
  simp only [List.set_cons_zero, List.set_cons_succ, List.append_nil] at hl
  simp only [ev, fx, ↓reduceIte, Nat.reduceEqDiff, Nat.reduceLT, Nat.reduceLeDiff, Nat.reduceAdd, Nat.reduceSub, Nat.reduceMul, Int.reduceLT, Int.reduceLE, Int.reduceToNat, BitVec.reduceOfInt, BitVec.reduceToNat, reduceCtorEq, and_self, decide_true, decide_false, Bool.not_true, Bool.not_false, ne_eq, not_true_eq_false, not_false_eq_true, true_and, and_true]
  repeat (refine And.intro (by omega) ?_)
  refine hK _ _ ?_; clear hK K
  refine EWp.seqR [0, 2] fun K hK => ?_
  simp only [ev, fx, ↓reduceIte, Nat.reduceEqDiff, Nat.reduceLT, Nat.reduceLeDiff, Nat.reduceAdd, Nat.reduceSub, Nat.reduceMul, Int.reduceLT, Int.reduceLE, Int.reduceToNat, BitVec.reduceOfInt, BitVec.reduceToNat, reduceCtorEq, and_self, decide_true, decide_false, Bool.not_true, Bool.not_false, ne_eq, not_true_eq_false, not_false_eq_true, true_and, and_true]
  have hpad : Rd w5 (some ⟨g4, 0, none⟩) ((padB L).map SV.u8) := by
    have := Rd.blk hl (k := 2) rfl 0 (padT L + 8)
    rw [← hv] at this
    rwa [padCells] at this
  have hgb : g4 ≠ b := by
    have hnd := hl.nd
    simp at hnd
    omega
  refine SemE.call fn_42 rfl rfl (write1 b s x (L % 64) (BitVec.ofNat 64 L) sh (some ⟨g4, 0, none⟩) (padT L + 8) 72 (padB L) w5 (hl.at (k := 0) rfl) hx (by omega) (hko.keep hl (by simpa using hkb)) hkb hpad (padB_length L) (by omega) (fun h => by cases h) (fun p hp => by cases hp; simpa using hgb) (by omega)) ?_
  rintro _ w6 ⟨rfl, x', hx', _, hl6⟩
  refine ⟨_, rfl, ?_⟩
  have hl := hl.call (k := 0) rfl hl6
  simp only [List.set_cons_zero, List.append_nil] at hl
  have hz : (L % 64 + (padT L + 8)) % 64 = 0 := by unfold padT; split <;> omega
  rw [hz] at hl
  generalize BitVec.ofNat 64 L + BitVec.ofNat 64 (padT L + 8) = ln' at hl
  generalize hrr : blocks s (x.take (L % 64) ++ padB L) = r at hl
  have hl : HL w w6 [b] [(b, 80, digC r x' 0 ln' sh), (g2, 87, List.replicate 32 (SV.u8 0))] := hl.sub (by simp)
  clear hl5 hl6 hpad
  simp only [ev, fx, ↓reduceIte, Nat.reduceEqDiff, Nat.reduceLT, Nat.reduceLeDiff, Nat.reduceAdd, Nat.reduceSub, Nat.reduceMul, Int.reduceLT, Int.reduceLE, Int.reduceToNat, BitVec.reduceOfInt, BitVec.reduceToNat, reduceCtorEq, and_self, decide_true, decide_false, Bool.not_true, Bool.not_false, ne_eq, not_true_eq_false, not_false_eq_true, true_and, and_true]
  repeat (refine And.intro (by omega) ?_)
  refine hK _ _ ?_; clear hK K
  refine EWp.ifR [0, 2, 40] fun K hK => ?_
  simp only [ev, fx, ↓reduceIte, Nat.reduceEqDiff, Nat.reduceLT, Nat.reduceLeDiff, Nat.reduceAdd, Nat.reduceSub, Nat.reduceMul, Int.reduceLT, Int.reduceLE, Int.reduceToNat, BitVec.reduceOfInt, BitVec.reduceToNat, reduceCtorEq, and_self, decide_true, decide_false, Bool.not_true, Bool.not_false, ne_eq, not_true_eq_false, not_false_eq_true, true_and, and_true]
  refine SemE.loadB hl 0 rfl one_3 rfl rfl (digC_nx_get _ _ _ _ _ hx') ?_
  simp only [ev, fx, ↓reduceIte, Nat.reduceEqDiff, Nat.reduceLT, Nat.reduceLeDiff, Nat.reduceAdd, Nat.reduceSub, Nat.reduceMul, Int.reduceLT, Int.reduceLE, Int.reduceToNat, BitVec.reduceOfInt, BitVec.reduceToNat, reduceCtorEq, and_self, decide_true, decide_false, Bool.not_true, Bool.not_false, ne_eq, not_true_eq_false, not_false_eq_true, true_and, and_true]
  refine hK _ _ false rfl (fun h => by cases h) (fun _ => ?_); clear hK K
  refine EWp.skipThen ?_
  refine EWp.seqR [0, 2, 7] fun K hK => ?_
  simp only [ev, fx, ↓reduceIte, Nat.reduceEqDiff, Nat.reduceLT, Nat.reduceLeDiff, Nat.reduceAdd, Nat.reduceSub, Nat.reduceMul, Int.reduceLT, Int.reduceLE, Int.reduceToNat, BitVec.reduceOfInt, BitVec.reduceToNat, reduceCtorEq, and_self, decide_true, decide_false, Bool.not_true, Bool.not_false, ne_eq, not_true_eq_false, not_false_eq_true, true_and, and_true]
  refine SemE.alloc hl zero_87 rfl fun g7 w7 hg7 hl => ?_
  simp only [List.cons_append, List.nil_append] at hl
  simp only [ev, fx, ↓reduceIte, Nat.reduceEqDiff, Nat.reduceLT, Nat.reduceLeDiff, Nat.reduceAdd, Nat.reduceSub, Nat.reduceMul, Int.reduceLT, Int.reduceLE, Int.reduceToNat, BitVec.reduceOfInt, BitVec.reduceToNat, reduceCtorEq, and_self, decide_true, decide_false, Bool.not_true, Bool.not_false, ne_eq, not_true_eq_false, not_false_eq_true, true_and, and_true]
  repeat (refine And.intro (by omega) ?_)
  refine hK _ _ ?_; clear hK K
  have hl : HL w w7 [b] [(b, 80, digC r x' 0 ln' sh), (g2, 87, List.replicate 32 (SV.u8 0)), (g7, 87, outL r 0)] := hl
  refine EWp.seqO (fun i => [6].contains i) [(0, 0), (1, 0), (2, 0), (3, 0), (4, 0), (5, 1), (6, 2)] [0, 2, 7] mixed (by kernel_rfl) fun K hK => ?_
  have hl := hl.drew
  simp only [ev, fx, ↓reduceIte, Nat.reduceEqDiff, Nat.reduceLT, Nat.reduceLeDiff, Nat.reduceAdd, Nat.reduceSub, Nat.reduceMul, Int.reduceLT, Int.reduceLE, Int.reduceToNat, BitVec.reduceOfInt, BitVec.reduceToNat, reduceCtorEq, and_self, decide_true, decide_false, Bool.not_true, Bool.not_false, ne_eq, not_true_eq_false, not_false_eq_true, true_and, and_true, Option.map_some, sl0]
  repeat (refine And.intro (by omega) ?_)
  refine StopR.loadB hl 0 rfl one_55 rfl rfl (show (digC r x' 0 ln' sh)[0]? = some (.u32 r.a) from rfl) ?_
  simp only [ev, fx, ↓reduceIte, Nat.reduceEqDiff, Nat.reduceLT, Nat.reduceLeDiff, Nat.reduceAdd, Nat.reduceSub, Nat.reduceMul, Int.reduceLT, Int.reduceLE, Int.reduceToNat, BitVec.reduceOfInt, BitVec.reduceToNat, reduceCtorEq, and_self, decide_true, decide_false, Bool.not_true, Bool.not_false, ne_eq, not_true_eq_false, not_false_eq_true, true_and, and_true, Option.map_some, sl0]
  refine SemE.call fn_61 rfl rfl (put32 g7 0 32 32 _ (outL r 0) 0 r.a _ (hl.at (k := 2) rfl) (by omega) (by rw [outL_len]; omega) (outL_get0 r)) ?_
  rintro _ w8 ⟨rfl, hl8⟩
  refine ⟨_, rfl, fun h => absurd h (by decide), ?_⟩
  have hl := hl.call (k := 2) rfl hl8
  simp only [List.set_cons_zero, List.set_cons_succ, List.append_nil, outL_0] at hl
  clear hl8
  simp only [ev, fx, ↓reduceIte, Nat.reduceEqDiff, Nat.reduceLT, Nat.reduceLeDiff, Nat.reduceAdd, Nat.reduceSub, Nat.reduceMul, Int.reduceLT, Int.reduceLE, Int.reduceToNat, BitVec.reduceOfInt, BitVec.reduceToNat, reduceCtorEq, and_self, decide_true, decide_false, Bool.not_true, Bool.not_false, ne_eq, not_true_eq_false, not_false_eq_true, true_and, and_true]
  repeat (refine And.intro (by omega) ?_)
  refine hK _ _ ?_; clear hK K
  refine EWp.seqO (fun i => [6].contains i) [(0, 0), (1, 0), (2, 0), (3, 0), (4, 0), (5, 1), (6, 2)] [0, 2, 7] mixed (by kernel_rfl) fun K hK => ?_
  have hl := hl.drew
  simp only [ev, fx, ↓reduceIte, Nat.reduceEqDiff, Nat.reduceLT, Nat.reduceLeDiff, Nat.reduceAdd, Nat.reduceSub, Nat.reduceMul, Int.reduceLT, Int.reduceLE, Int.reduceToNat, BitVec.reduceOfInt, BitVec.reduceToNat, reduceCtorEq, and_self, decide_true, decide_false, Bool.not_true, Bool.not_false, ne_eq, not_true_eq_false, not_false_eq_true, true_and, and_true, Option.map_some, sl0]
  repeat (refine And.intro (by omega) ?_)
  refine StopR.loadB hl 0 rfl one_55 rfl rfl (show (digC r x' 0 ln' sh)[1]? = some (.u32 r.b) from rfl) ?_
  simp only [ev, fx, ↓reduceIte, Nat.reduceEqDiff, Nat.reduceLT, Nat.reduceLeDiff, Nat.reduceAdd, Nat.reduceSub, Nat.reduceMul, Int.reduceLT, Int.reduceLE, Int.reduceToNat, BitVec.reduceOfInt, BitVec.reduceToNat, reduceCtorEq, and_self, decide_true, decide_false, Bool.not_true, Bool.not_false, ne_eq, not_true_eq_false, not_false_eq_true, true_and, and_true, Option.map_some, sl0]
  refine SemE.call fn_61 rfl rfl (put32 g7 4 28 28 _ (outL r 1) 0 r.b _ (hl.at (k := 2) rfl) (by omega) (by rw [outL_len]; omega) (outL_get1 r)) ?_
  rintro _ w8 ⟨rfl, hl8⟩
  refine ⟨_, rfl, fun h => absurd h (by decide), ?_⟩
  have hl := hl.call (k := 2) rfl hl8
  simp only [List.set_cons_zero, List.set_cons_succ, List.append_nil, outL_1] at hl
  clear hl8
  simp only [ev, fx, ↓reduceIte, Nat.reduceEqDiff, Nat.reduceLT, Nat.reduceLeDiff, Nat.reduceAdd, Nat.reduceSub, Nat.reduceMul, Int.reduceLT, Int.reduceLE, Int.reduceToNat, BitVec.reduceOfInt, BitVec.reduceToNat, reduceCtorEq, and_self, decide_true, decide_false, Bool.not_true, Bool.not_false, ne_eq, not_true_eq_false, not_false_eq_true, true_and, and_true]
  repeat (refine And.intro (by omega) ?_)
  refine hK _ _ ?_; clear hK K
  refine EWp.seqO (fun i => [6].contains i) [(0, 0), (1, 0), (2, 0), (3, 0), (4, 0), (5, 1), (6, 2)] [0, 2, 7] mixed (by kernel_rfl) fun K hK => ?_
  have hl := hl.drew
  simp only [ev, fx, ↓reduceIte, Nat.reduceEqDiff, Nat.reduceLT, Nat.reduceLeDiff, Nat.reduceAdd, Nat.reduceSub, Nat.reduceMul, Int.reduceLT, Int.reduceLE, Int.reduceToNat, BitVec.reduceOfInt, BitVec.reduceToNat, reduceCtorEq, and_self, decide_true, decide_false, Bool.not_true, Bool.not_false, ne_eq, not_true_eq_false, not_false_eq_true, true_and, and_true, Option.map_some, sl0]
  repeat (refine And.intro (by omega) ?_)
  refine StopR.loadB hl 0 rfl one_55 rfl rfl (show (digC r x' 0 ln' sh)[2]? = some (.u32 r.c) from rfl) ?_
  simp only [ev, fx, ↓reduceIte, Nat.reduceEqDiff, Nat.reduceLT, Nat.reduceLeDiff, Nat.reduceAdd, Nat.reduceSub, Nat.reduceMul, Int.reduceLT, Int.reduceLE, Int.reduceToNat, BitVec.reduceOfInt, BitVec.reduceToNat, reduceCtorEq, and_self, decide_true, decide_false, Bool.not_true, Bool.not_false, ne_eq, not_true_eq_false, not_false_eq_true, true_and, and_true, Option.map_some, sl0]
  refine SemE.call fn_61 rfl rfl (put32 g7 8 24 24 _ (outL r 2) 0 r.c _ (hl.at (k := 2) rfl) (by omega) (by rw [outL_len]; omega) (outL_get2 r)) ?_
  rintro _ w8 ⟨rfl, hl8⟩
  refine ⟨_, rfl, fun h => absurd h (by decide), ?_⟩
  have hl := hl.call (k := 2) rfl hl8
  simp only [List.set_cons_zero, List.set_cons_succ, List.append_nil, outL_2] at hl
  clear hl8
  simp only [ev, fx, ↓reduceIte, Nat.reduceEqDiff, Nat.reduceLT, Nat.reduceLeDiff, Nat.reduceAdd, Nat.reduceSub, Nat.reduceMul, Int.reduceLT, Int.reduceLE, Int.reduceToNat, BitVec.reduceOfInt, BitVec.reduceToNat, reduceCtorEq, and_self, decide_true, decide_false, Bool.not_true, Bool.not_false, ne_eq, not_true_eq_false, not_false_eq_true, true_and, and_true]
  repeat (refine And.intro (by omega) ?_)
  refine hK _ _ ?_; clear hK K
  refine EWp.seqO (fun i => [6].contains i) [(0, 0), (1, 0), (2, 0), (3, 0), (4, 0), (5, 1), (6, 2)] [0, 2, 7] mixed (by kernel_rfl) fun K hK => ?_
  have hl := hl.drew
  simp only [ev, fx, ↓reduceIte, Nat.reduceEqDiff, Nat.reduceLT, Nat.reduceLeDiff, Nat.reduceAdd, Nat.reduceSub, Nat.reduceMul, Int.reduceLT, Int.reduceLE, Int.reduceToNat, BitVec.reduceOfInt, BitVec.reduceToNat, reduceCtorEq, and_self, decide_true, decide_false, Bool.not_true, Bool.not_false, ne_eq, not_true_eq_false, not_false_eq_true, true_and, and_true, Option.map_some, sl0]
  repeat (refine And.intro (by omega) ?_)
  refine StopR.loadB hl 0 rfl one_55 rfl rfl (show (digC r x' 0 ln' sh)[3]? = some (.u32 r.d) from rfl) ?_
  simp only [ev, fx, ↓reduceIte, Nat.reduceEqDiff, Nat.reduceLT, Nat.reduceLeDiff, Nat.reduceAdd, Nat.reduceSub, Nat.reduceMul, Int.reduceLT, Int.reduceLE, Int.reduceToNat, BitVec.reduceOfInt, BitVec.reduceToNat, reduceCtorEq, and_self, decide_true, decide_false, Bool.not_true, Bool.not_false, ne_eq, not_true_eq_false, not_false_eq_true, true_and, and_true, Option.map_some, sl0]
  refine SemE.call fn_61 rfl rfl (put32 g7 12 20 20 _ (outL r 3) 0 r.d _ (hl.at (k := 2) rfl) (by omega) (by rw [outL_len]; omega) (outL_get3 r)) ?_
  rintro _ w8 ⟨rfl, hl8⟩
  refine ⟨_, rfl, fun h => absurd h (by decide), ?_⟩
  have hl := hl.call (k := 2) rfl hl8
  simp only [List.set_cons_zero, List.set_cons_succ, List.append_nil, outL_3] at hl
  clear hl8
  simp only [ev, fx, ↓reduceIte, Nat.reduceEqDiff, Nat.reduceLT, Nat.reduceLeDiff, Nat.reduceAdd, Nat.reduceSub, Nat.reduceMul, Int.reduceLT, Int.reduceLE, Int.reduceToNat, BitVec.reduceOfInt, BitVec.reduceToNat, reduceCtorEq, and_self, decide_true, decide_false, Bool.not_true, Bool.not_false, ne_eq, not_true_eq_false, not_false_eq_true, true_and, and_true]
  repeat (refine And.intro (by omega) ?_)
  refine hK _ _ ?_; clear hK K
  refine EWp.seqO (fun i => [6].contains i) [(0, 0), (1, 0), (2, 0), (3, 0), (4, 0), (5, 1), (6, 2)] [0, 2, 7] mixed (by kernel_rfl) fun K hK => ?_
  have hl := hl.drew
  simp only [ev, fx, ↓reduceIte, Nat.reduceEqDiff, Nat.reduceLT, Nat.reduceLeDiff, Nat.reduceAdd, Nat.reduceSub, Nat.reduceMul, Int.reduceLT, Int.reduceLE, Int.reduceToNat, BitVec.reduceOfInt, BitVec.reduceToNat, reduceCtorEq, and_self, decide_true, decide_false, Bool.not_true, Bool.not_false, ne_eq, not_true_eq_false, not_false_eq_true, true_and, and_true, Option.map_some, sl0]
  repeat (refine And.intro (by omega) ?_)
  refine StopR.loadB hl 0 rfl one_55 rfl rfl (show (digC r x' 0 ln' sh)[4]? = some (.u32 r.e) from rfl) ?_
  simp only [ev, fx, ↓reduceIte, Nat.reduceEqDiff, Nat.reduceLT, Nat.reduceLeDiff, Nat.reduceAdd, Nat.reduceSub, Nat.reduceMul, Int.reduceLT, Int.reduceLE, Int.reduceToNat, BitVec.reduceOfInt, BitVec.reduceToNat, reduceCtorEq, and_self, decide_true, decide_false, Bool.not_true, Bool.not_false, ne_eq, not_true_eq_false, not_false_eq_true, true_and, and_true, Option.map_some, sl0]
  refine SemE.call fn_61 rfl rfl (put32 g7 16 16 16 _ (outL r 4) 0 r.e _ (hl.at (k := 2) rfl) (by omega) (by rw [outL_len]; omega) (outL_get4 r)) ?_
  rintro _ w8 ⟨rfl, hl8⟩
  refine ⟨_, rfl, fun h => absurd h (by decide), ?_⟩
  have hl := hl.call (k := 2) rfl hl8
  simp only [List.set_cons_zero, List.set_cons_succ, List.append_nil, outL_4] at hl
  clear hl8
  simp only [ev, fx, ↓reduceIte, Nat.reduceEqDiff, Nat.reduceLT, Nat.reduceLeDiff, Nat.reduceAdd, Nat.reduceSub, Nat.reduceMul, Int.reduceLT, Int.reduceLE, Int.reduceToNat, BitVec.reduceOfInt, BitVec.reduceToNat, reduceCtorEq, and_self, decide_true, decide_false, Bool.not_true, Bool.not_false, ne_eq, not_true_eq_false, not_false_eq_true, true_and, and_true]
  repeat (refine And.intro (by omega) ?_)
  refine hK _ _ ?_; clear hK K
  refine EWp.seqO (fun i => [6].contains i) [(0, 0), (1, 0), (2, 0), (3, 0), (4, 0), (5, 1), (6, 2)] [0, 2, 7] mixed (by kernel_rfl) fun K hK => ?_
  have hl := hl.drew
  simp only [ev, fx, ↓reduceIte, Nat.reduceEqDiff, Nat.reduceLT, Nat.reduceLeDiff, Nat.reduceAdd, Nat.reduceSub, Nat.reduceMul, Int.reduceLT, Int.reduceLE, Int.reduceToNat, BitVec.reduceOfInt, BitVec.reduceToNat, reduceCtorEq, and_self, decide_true, decide_false, Bool.not_true, Bool.not_false, ne_eq, not_true_eq_false, not_false_eq_true, true_and, and_true, Option.map_some, sl0]
  repeat (refine And.intro (by omega) ?_)
  refine StopR.loadB hl 0 rfl one_55 rfl rfl (show (digC r x' 0 ln' sh)[5]? = some (.u32 r.f) from rfl) ?_
  simp only [ev, fx, ↓reduceIte, Nat.reduceEqDiff, Nat.reduceLT, Nat.reduceLeDiff, Nat.reduceAdd, Nat.reduceSub, Nat.reduceMul, Int.reduceLT, Int.reduceLE, Int.reduceToNat, BitVec.reduceOfInt, BitVec.reduceToNat, reduceCtorEq, and_self, decide_true, decide_false, Bool.not_true, Bool.not_false, ne_eq, not_true_eq_false, not_false_eq_true, true_and, and_true, Option.map_some, sl0]
  refine SemE.call fn_61 rfl rfl (put32 g7 20 12 12 _ (outL r 5) 0 r.f _ (hl.at (k := 2) rfl) (by omega) (by rw [outL_len]; omega) (outL_get5 r)) ?_
  rintro _ w8 ⟨rfl, hl8⟩
  refine ⟨_, rfl, fun h => absurd h (by decide), ?_⟩
  have hl := hl.call (k := 2) rfl hl8
  simp only [List.set_cons_zero, List.set_cons_succ, List.append_nil, outL_5] at hl
  clear hl8
  simp only [ev, fx, ↓reduceIte, Nat.reduceEqDiff, Nat.reduceLT, Nat.reduceLeDiff, Nat.reduceAdd, Nat.reduceSub, Nat.reduceMul, Int.reduceLT, Int.reduceLE, Int.reduceToNat, BitVec.reduceOfInt, BitVec.reduceToNat, reduceCtorEq, and_self, decide_true, decide_false, Bool.not_true, Bool.not_false, ne_eq, not_true_eq_false, not_false_eq_true, true_and, and_true]
  repeat (refine And.intro (by omega) ?_)
  refine hK _ _ ?_; clear hK K
  refine EWp.seqO (fun i => [6].contains i) [(0, 0), (1, 0), (2, 0), (3, 0), (4, 0), (5, 1), (6, 2)] [0, 2, 7] mixed (by kernel_rfl) fun K hK => ?_
  have hl := hl.drew
  simp only [ev, fx, ↓reduceIte, Nat.reduceEqDiff, Nat.reduceLT, Nat.reduceLeDiff, Nat.reduceAdd, Nat.reduceSub, Nat.reduceMul, Int.reduceLT, Int.reduceLE, Int.reduceToNat, BitVec.reduceOfInt, BitVec.reduceToNat, reduceCtorEq, and_self, decide_true, decide_false, Bool.not_true, Bool.not_false, ne_eq, not_true_eq_false, not_false_eq_true, true_and, and_true, Option.map_some, sl0]
  repeat (refine And.intro (by omega) ?_)
  refine StopR.loadB hl 0 rfl one_55 rfl rfl (show (digC r x' 0 ln' sh)[6]? = some (.u32 r.g) from rfl) ?_
  simp only [ev, fx, ↓reduceIte, Nat.reduceEqDiff, Nat.reduceLT, Nat.reduceLeDiff, Nat.reduceAdd, Nat.reduceSub, Nat.reduceMul, Int.reduceLT, Int.reduceLE, Int.reduceToNat, BitVec.reduceOfInt, BitVec.reduceToNat, reduceCtorEq, and_self, decide_true, decide_false, Bool.not_true, Bool.not_false, ne_eq, not_true_eq_false, not_false_eq_true, true_and, and_true, Option.map_some, sl0]
  refine SemE.call fn_61 rfl rfl (put32 g7 24 8 8 _ (outL r 6) 0 r.g _ (hl.at (k := 2) rfl) (by omega) (by rw [outL_len]; omega) (outL_get6 r)) ?_
  rintro _ w8 ⟨rfl, hl8⟩
  refine ⟨_, rfl, fun h => absurd h (by decide), ?_⟩
  have hl := hl.call (k := 2) rfl hl8
  simp only [List.set_cons_zero, List.set_cons_succ, List.append_nil, outL_6] at hl
  clear hl8
  simp only [ev, fx, ↓reduceIte, Nat.reduceEqDiff, Nat.reduceLT, Nat.reduceLeDiff, Nat.reduceAdd, Nat.reduceSub, Nat.reduceMul, Int.reduceLT, Int.reduceLE, Int.reduceToNat, BitVec.reduceOfInt, BitVec.reduceToNat, reduceCtorEq, and_self, decide_true, decide_false, Bool.not_true, Bool.not_false, ne_eq, not_true_eq_false, not_false_eq_true, true_and, and_true]
  repeat (refine And.intro (by omega) ?_)
  refine hK _ _ ?_; clear hK K
  refine EWp.cut [0, 2, 7] (fun S' w' => S' = [(0, .ptr ⟨b, 0, none⟩), (2, .ptr ⟨g2, 0, none⟩), (7, .ptr ⟨g7, 0, none⟩)] ∧ HL w w' [b] [(b, 80, digC r x' 0 ln' sh), (g2, 87, List.replicate 32 (SV.u8 0)), (g7, 87, outL r (outN sh))]) ?_ ?_
  case refine_1 =>
    refine EWp.brR [0, 2, 7, 95] fun K hK => ?_
    simp only [ev, fx, ↓reduceIte, Nat.reduceEqDiff, Nat.reduceLT, Nat.reduceLeDiff, Nat.reduceAdd, Nat.reduceSub, Nat.reduceMul, Int.reduceLT, Int.reduceLE, Int.reduceToNat, BitVec.reduceOfInt, BitVec.reduceToNat, reduceCtorEq, and_self, decide_true, decide_false, Bool.not_true, Bool.not_false, ne_eq, not_true_eq_false, not_false_eq_true, true_and, and_true]
    refine SemE.loadB hl 0 rfl one_4 rfl rfl (digC_sh_get _ _ _ _ _ hx') ?_
    simp only [ev, fx, ↓reduceIte, Nat.reduceEqDiff, Nat.reduceLT, Nat.reduceLeDiff, Nat.reduceAdd, Nat.reduceSub, Nat.reduceMul, Int.reduceLT, Int.reduceLE, Int.reduceToNat, BitVec.reduceOfInt, BitVec.reduceToNat, reduceCtorEq, and_self, decide_true, decide_false, Bool.not_true, Bool.not_false, ne_eq, not_true_eq_false, not_false_eq_true, true_and, and_true]
    refine hK _ _ (!sh) rfl (fun h => ?_) (fun h => ?_) <;> clear hK K
    · obtain rfl : sh = false := by simpa using h
      refine EWp.regO (fun i => [6].contains i) [(0, 0), (1, 0), (2, 0), (3, 0), (4, 0), (5, 1), (6, 2)] [0, 2, 7] mixed (by kernel_rfl) fun K hK => ?_
      have hl := hl.drew
      simp only [ev, fx, ↓reduceIte, Nat.reduceEqDiff, Nat.reduceLT, Nat.reduceLeDiff, Nat.reduceAdd, Nat.reduceSub, Nat.reduceMul, Int.reduceLT, Int.reduceLE, Int.reduceToNat, BitVec.reduceOfInt, BitVec.reduceToNat, reduceCtorEq, and_self, decide_true, decide_false, Bool.not_true, Bool.not_false, ne_eq, not_true_eq_false, not_false_eq_true, true_and, and_true, Option.map_some, sl0]
      repeat (refine And.intro (by omega) ?_)
      refine StopR.loadB hl 0 rfl one_55 rfl rfl (show (digC r x' 0 ln' false)[7]? = some (.u32 r.h) from rfl) ?_
      simp only [ev, fx, ↓reduceIte, Nat.reduceEqDiff, Nat.reduceLT, Nat.reduceLeDiff, Nat.reduceAdd, Nat.reduceSub, Nat.reduceMul, Int.reduceLT, Int.reduceLE, Int.reduceToNat, BitVec.reduceOfInt, BitVec.reduceToNat, reduceCtorEq, and_self, decide_true, decide_false, Bool.not_true, Bool.not_false, ne_eq, not_true_eq_false, not_false_eq_true, true_and, and_true, Option.map_some, sl0]
      refine SemE.call fn_61 rfl rfl (put32 g7 28 4 4 _ (outL r 7) 0 r.h _ (hl.at (k := 2) rfl) (by omega) (by rw [outL_len]; omega) (outL_get7 r)) ?_
      rintro _ w8 ⟨rfl, hl8⟩
      refine ⟨_, rfl, fun h => absurd h (by decide), ?_⟩
      have hl := hl.call (k := 2) rfl hl8
      simp only [List.set_cons_zero, List.set_cons_succ, List.append_nil, outL_7] at hl
      simp only [ev, fx, ↓reduceIte, Nat.reduceEqDiff, Nat.reduceLT, Nat.reduceLeDiff, Nat.reduceAdd, Nat.reduceSub, Nat.reduceMul, Int.reduceLT, Int.reduceLE, Int.reduceToNat, BitVec.reduceOfInt, BitVec.reduceToNat, reduceCtorEq, and_self, decide_true, decide_false, Bool.not_true, Bool.not_false, ne_eq, not_true_eq_false, not_false_eq_true, true_and, and_true]
      refine hK _ _ fun S1 h1 => ?_; clear hK K
      simp only [ThenE]
      exact ⟨h1, hl⟩
    · obtain rfl : sh = true := by simpa using h
      refine EWp.skip ?_
      simp only [ThenE]
      exact ⟨rfl, hl⟩
  clear hl
  rintro S' w' ⟨rfl, hl⟩
  have hol : (outL r (outN sh)).length = 32 := by rw [outL_len]; unfold outN; cases sh <;> simp
  refine EWp.seqR [2] fun K hK => ?_
  simp only [ev, fx, ↓reduceIte, Nat.reduceEqDiff, Nat.reduceLT, Nat.reduceLeDiff, Nat.reduceAdd, Nat.reduceSub, Nat.reduceMul, Int.reduceLT, Int.reduceLE, Int.reduceToNat, BitVec.reduceOfInt, BitVec.reduceToNat, reduceCtorEq, and_self, decide_true, decide_false, Bool.not_true, Bool.not_false, ne_eq, not_true_eq_false, not_false_eq_true, true_and, and_true]
  refine SemE.loadA (vs := outL r (outN sh)) rfl (by rw [hol]; exact agg_87) rfl (by
    have := Rd.blk hl (k := 2) rfl 0 32
    rwa [List.drop_zero, List.take_of_length_le (by rw [hol]; omega)] at this) ?_
  simp only [ev, fx, ↓reduceIte, Nat.reduceEqDiff, Nat.reduceLT, Nat.reduceLeDiff, Nat.reduceAdd, Nat.reduceSub, Nat.reduceMul, Int.reduceLT, Int.reduceLE, Int.reduceToNat, BitVec.reduceOfInt, BitVec.reduceToNat, reduceCtorEq, and_self, decide_true, decide_false, Bool.not_true, Bool.not_false, ne_eq, not_true_eq_false, not_false_eq_true, true_and, and_true]
  refine SemE.storeA (vs := outL r (outN sh)) hl 1 rfl rfl (by rw [hol]; exact agg_87) (outL_one _ _) rfl (by rw [hol, List.length_replicate]; omega) fun w9 hl => ?_
  have hsp : (List.replicate 32 (SV.u8 0)).take 0 ++ outL r (outN sh) ++ (List.replicate 32 (SV.u8 0)).drop (0 + (outL r (outN sh)).length) = outL r (outN sh) := by
    rw [List.take_zero, List.nil_append, hol, List.drop_of_length_le (by simp), List.append_nil]
  simp only [List.set_cons_zero, List.set_cons_succ, hsp] at hl
  simp only [ev, fx, ↓reduceIte, Nat.reduceEqDiff, Nat.reduceLT, Nat.reduceLeDiff, Nat.reduceAdd, Nat.reduceSub, Nat.reduceMul, Int.reduceLT, Int.reduceLE, Int.reduceToNat, BitVec.reduceOfInt, BitVec.reduceToNat, reduceCtorEq, and_self, decide_true, decide_false, Bool.not_true, Bool.not_false, ne_eq, not_true_eq_false, not_false_eq_true, true_and, and_true]
  repeat (refine And.intro (by omega) ?_)
  refine hK _ _ ?_; clear hK K
  refine EWp.ret (bodyCellA (.inl rfl) rfl (t := 2) (b := g2) (cs := outL r (outN sh)) rfl (by rw [hol]; exact agg_87) (hl.at (k := 1) rfl) ⟨by rw [hrr], x', ln', hx', by rw [hrr]; exact hl.sub (by simp)⟩)
end Go.Proofs.YtkfblgkicopjjaaDoor
