/- checkSum of SHA-512. -/
import Derived.Test.YtggbaffkjfofhaaDoorWr3
import Derived.Test.YtggbaffkjfofhaaDoorBe3
set_option linter.unusedVariables false
set_option linter.unusedSimpArgs false
namespace Go.Proofs.YtggbaffkjfofhaaDoor
open Go

def padT (L : Nat) : Nat := if L % 128 < 112 then 112 - L % 128 else 240 - L % 128
def padB (L : Nat) : List B8 := (0x80#8 :: List.replicate (padT L + 7) 0#8) ++ (List.range 8).map (be8 (BitVec.ofNat 64 L <<< 3))
theorem padT_pos (L : Nat) : 1 ≤ padT L ∧ padT L ≤ 128 := by unfold padT; split <;> omega
theorem padB_length (L : Nat) : (padB L).length = padT L + 16 := by have := padT_pos L; simp [padB]
def bytes8 (v : Wd) : List B8 := (List.range 8).map (be8 v)
def sumB (s : S8) : List B8 := bytes8 s.a ++ bytes8 s.b ++ bytes8 s.c ++ bytes8 s.d ++ bytes8 s.e ++ bytes8 s.f ++ bytes8 s.g ++ bytes8 s.h

theorem rem128 (L : Nat) (hL : L < 1152921504606846976) : BitVec.ofNat 64 L % 128#64 = BitVec.ofNat 64 (L % 128) := by
  apply BitVec.eq_of_toNat_eq
  simp only [BitVec.toNat_umod, BitVec.toNat_ofNat, Nat.reducePow, Nat.reduceMod]
  omega

theorem padCells (L : Nat) : ((putAt ((List.replicate 144 (SV.u8 0)).set 0 (.u8 128#8)) (padT L + 8) (be64L (BitVec.ofNat 64 L <<< 3) 8)).drop 0).take (padT L + 16) = (padB L).map SV.u8 := by
  obtain ⟨h1, h2⟩ := padT_pos L
  have e : (List.replicate 144 (SV.u8 0)).set 0 (.u8 128#8) = SV.u8 128#8 :: List.replicate 143 (SV.u8 0) := by rw [List.replicate_succ, List.set_cons_zero]
  rw [e, List.drop_zero]
  unfold putAt padB
  rw [List.take_succ_cons, List.take_append_of_le_length (by simp [be64L_len]; omega), List.take_of_length_le (by simp [be64L_len]; omega)]
  rw [List.take_replicate, show min (padT L + 7) 143 = padT L + 7 by omega, List.map_append, List.map_cons, List.map_replicate, List.map_map]
  rfl

def outL (r : S8) (k : Nat) : List SV := ((sumB r).take (8 * k)).map SV.u8 ++ List.replicate (64 - 8 * k) (SV.u8 0)
theorem sumB_len (r : S8) : (sumB r).length = 64 := rfl
theorem outL_len (r : S8) (k : Nat) : (outL r k).length = max 64 (min (8 * k) 64 + (64 - 8 * k)) := by simp [outL, sumB_len]; omega
theorem outL_one (r : S8) (k : Nat) : ∀ v ∈ outL r k, v.isOne = true := by
  intro v hv
  unfold outL at hv
  rcases List.mem_append.1 hv with h | h
  · exact isOneB _ v h
  · rw [List.eq_of_mem_replicate h]; rfl
theorem outL_get (r : S8) (k : Nat) (h : k < 8) : (outL r k)[8 * k + 7]? = some (.u8 0) := by
  unfold outL
  rw [List.getElem?_append_right (by simp [sumB_len]; omega), List.getElem?_replicate, if_pos (by simp [sumB_len]; omega)]
theorem outL_get0 (r : S8) : (outL r 0)[0 + 7]? = some (.u8 0) := outL_get r 0 (by omega)
theorem outL_get1 (r : S8) : (outL r 1)[8 + 7]? = some (.u8 0) := outL_get r 1 (by omega)
theorem outL_get2 (r : S8) : (outL r 2)[16 + 7]? = some (.u8 0) := outL_get r 2 (by omega)
theorem outL_get3 (r : S8) : (outL r 3)[24 + 7]? = some (.u8 0) := outL_get r 3 (by omega)
theorem outL_get4 (r : S8) : (outL r 4)[32 + 7]? = some (.u8 0) := outL_get r 4 (by omega)
theorem outL_get5 (r : S8) : (outL r 5)[40 + 7]? = some (.u8 0) := outL_get r 5 (by omega)
theorem outL_get6 (r : S8) : (outL r 6)[48 + 7]? = some (.u8 0) := outL_get r 6 (by omega)
theorem outL_get7 (r : S8) : (outL r 7)[56 + 7]? = some (.u8 0) := outL_get r 7 (by omega)
set_option maxRecDepth 100000 in
theorem outL_0 (r : S8) : putAt (outL r 0) 0 (be64L r.a 8) = outL r 1 := rfl
set_option maxRecDepth 100000 in
theorem outL_1 (r : S8) : putAt (outL r 1) 8 (be64L r.b 8) = outL r 2 := rfl
set_option maxRecDepth 100000 in
theorem outL_2 (r : S8) : putAt (outL r 2) 16 (be64L r.c 8) = outL r 3 := rfl
set_option maxRecDepth 100000 in
theorem outL_3 (r : S8) : putAt (outL r 3) 24 (be64L r.d 8) = outL r 4 := rfl
set_option maxRecDepth 100000 in
theorem outL_4 (r : S8) : putAt (outL r 4) 32 (be64L r.e 8) = outL r 5 := rfl
set_option maxRecDepth 100000 in
theorem outL_5 (r : S8) : putAt (outL r 5) 40 (be64L r.f 8) = outL r 6 := rfl
set_option maxRecDepth 100000 in
theorem outL_6 (r : S8) : putAt (outL r 6) 48 (be64L r.g 8) = outL r 7 := rfl
set_option maxRecDepth 100000 in
theorem outL_7 (r : S8) : putAt (outL r 7) 56 (be64L r.h 8) = outL r 8 := rfl
def outN : Kd → Nat
  | .k384 => 6 | _ => 8

set_option maxRecDepth 100000 in
set_option maxHeartbeats 1000000 in
theorem checkSum3 (b : Nat) (s : S8) (x : List B8) (L : Nat) (ki : Kd) (w : World) (hb : w.heap[b]? = some (.cells ((digC s x (L % 128) (BitVec.ofNat 64 L) ki).map SV.val).toArray 76 (0, 0)))
    (hx : x.length = 128) (hko : KO w) (hkb : 0 ≠ b) (hL : L < 1152921504606846976) :
    Calls Tryd.prog 48 #[(SV.ptr ⟨b, 0, none⟩).val] w fun e w' => e = .returned (SV.agg (outL (blocks s (x.take (L % 128) ++ padB L)) (outN ki))).val ∧
      ∃ x' ln', x'.length = 128 ∧ HL w w' [b] [(b, 76, digC (blocks s (x.take (L % 128) ++ padB L)) x' 0 ln' ki)] := by
  refine calls_E [.ptr ⟨b, 0, none⟩] Tryd.func48 rfl Tryd.ntmps48 rfl ?_
  have hl := HL.startB hb
  refine EWp.seqR [0, 2] fun K hK => ?_
  simp only [ev, fx, ↓reduceIte, Nat.reduceEqDiff, Nat.reduceLT, Nat.reduceLeDiff, Nat.reduceAdd, Nat.reduceSub, Nat.reduceMul, Int.reduceLT, Int.reduceLE, Int.reduceToNat, BitVec.reduceOfInt, BitVec.reduceToNat, reduceCtorEq, and_self, decide_true, decide_false, Bool.not_true, Bool.not_false, ne_eq, not_true_eq_false, not_false_eq_true, true_and, and_true]
  refine SemE.alloc hl zero_82 rfl fun g2 w1 hg2 hl => ?_
  simp only [ev, fx, ↓reduceIte, Nat.reduceEqDiff, Nat.reduceLT, Nat.reduceLeDiff, Nat.reduceAdd, Nat.reduceSub, Nat.reduceMul, Int.reduceLT, Int.reduceLE, Int.reduceToNat, BitVec.reduceOfInt, BitVec.reduceToNat, reduceCtorEq, and_self, decide_true, decide_false, Bool.not_true, Bool.not_false, ne_eq, not_true_eq_false, not_false_eq_true, true_and, and_true]
  repeat (refine And.intro (by omega) ?_)
  refine hK _ _ ?_; clear hK K
  refine EWp.seqR [0, 2, 3] fun K hK => ?_
  simp only [ev, fx, ↓reduceIte, Nat.reduceEqDiff, Nat.reduceLT, Nat.reduceLeDiff, Nat.reduceAdd, Nat.reduceSub, Nat.reduceMul, Int.reduceLT, Int.reduceLE, Int.reduceToNat, BitVec.reduceOfInt, BitVec.reduceToNat, reduceCtorEq, and_self, decide_true, decide_false, Bool.not_true, Bool.not_false, ne_eq, not_true_eq_false, not_false_eq_true, true_and, and_true]
  refine SemE.loadB hl 0 rfl one_31 rfl rfl (digC_len_get _ _ _ _ _ hx) ?_
  simp only [ev, fx, ↓reduceIte, Nat.reduceEqDiff, Nat.reduceLT, Nat.reduceLeDiff, Nat.reduceAdd, Nat.reduceSub, Nat.reduceMul, Int.reduceLT, Int.reduceLE, Int.reduceToNat, BitVec.reduceOfInt, BitVec.reduceToNat, reduceCtorEq, and_self, decide_true, decide_false, Bool.not_true, Bool.not_false, ne_eq, not_true_eq_false, not_false_eq_true, true_and, and_true]
  repeat (refine And.intro (by omega) ?_)
  refine hK _ _ ?_; clear hK K
  refine EWp.seqR [0, 2, 3, 4] fun K hK => ?_
  simp only [ev, fx, ↓reduceIte, Nat.reduceEqDiff, Nat.reduceLT, Nat.reduceLeDiff, Nat.reduceAdd, Nat.reduceSub, Nat.reduceMul, Int.reduceLT, Int.reduceLE, Int.reduceToNat, BitVec.reduceOfInt, BitVec.reduceToNat, reduceCtorEq, and_self, decide_true, decide_false, Bool.not_true, Bool.not_false, ne_eq, not_true_eq_false, not_false_eq_true, true_and, and_true]
  refine SemE.alloc hl zero_89 rfl fun g4 w2 hg4 hl => ?_
  simp only [List.cons_append, List.nil_append] at hl
  simp only [ev, fx, ↓reduceIte, Nat.reduceEqDiff, Nat.reduceLT, Nat.reduceLeDiff, Nat.reduceAdd, Nat.reduceSub, Nat.reduceMul, Int.reduceLT, Int.reduceLE, Int.reduceToNat, BitVec.reduceOfInt, BitVec.reduceToNat, reduceCtorEq, and_self, decide_true, decide_false, Bool.not_true, Bool.not_false, ne_eq, not_true_eq_false, not_false_eq_true, true_and, and_true]
  repeat (refine And.intro (by omega) ?_)
  refine hK _ _ ?_; clear hK K
  refine EWp.seqR [0, 2, 3, 4] fun K hK => ?_
  simp only [ev, fx, ↓reduceIte, Nat.reduceEqDiff, Nat.reduceLT, Nat.reduceLeDiff, Nat.reduceAdd, Nat.reduceSub, Nat.reduceMul, Int.reduceLT, Int.reduceLE, Int.reduceToNat, BitVec.reduceOfInt, BitVec.reduceToNat, reduceCtorEq, and_self, decide_true, decide_false, Bool.not_true, Bool.not_false, ne_eq, not_true_eq_false, not_false_eq_true, true_and, and_true]
  refine SemE.storeB (v := .u8 128#8) hl 2 rfl rfl one_5 rfl rfl (by simp) fun w3 hl => ?_
  simp only [List.set_cons_zero, List.set_cons_succ] at hl
  simp only [ev, fx, ↓reduceIte, Nat.reduceEqDiff, Nat.reduceLT, Nat.reduceLeDiff, Nat.reduceAdd, Nat.reduceSub, Nat.reduceMul, Int.reduceLT, Int.reduceLE, Int.reduceToNat, BitVec.reduceOfInt, BitVec.reduceToNat, reduceCtorEq, and_self, decide_true, decide_false, Bool.not_true, Bool.not_false, ne_eq, not_true_eq_false, not_false_eq_true, true_and, and_true]
  repeat (refine And.intro (by omega) ?_)
  refine hK _ _ ?_; clear hK K
  refine EWp.seqR [0, 2, 3, 4, 5] fun K hK => ?_
  simp only [ev, fx, ↓reduceIte, Nat.reduceEqDiff, Nat.reduceLT, Nat.reduceLeDiff, Nat.reduceAdd, Nat.reduceSub, Nat.reduceMul, Int.reduceLT, Int.reduceLE, Int.reduceToNat, BitVec.reduceOfInt, BitVec.reduceToNat, reduceCtorEq, and_self, decide_true, decide_false, Bool.not_true, Bool.not_false, ne_eq, not_true_eq_false, not_false_eq_true, true_and, and_true]
  repeat (refine And.intro (by omega) ?_)
  refine hK _ _ ?_; clear hK K
  obtain ⟨hp1, hp64⟩ := padT_pos L
  refine EWp.cut [0, 2, 3, 4, 5] (fun S' w' => S' = [(0, .ptr ⟨b, 0, none⟩), (2, .ptr ⟨g2, 0, none⟩), (3, .u64 (BitVec.ofNat 64 L)), (4, .ptr ⟨g4, 0, none⟩), (5, .u64 (BitVec.ofNat 64 (padT L)))] ∧ w' = w3) ?_ ?_
  case refine_1 =>
    refine EWp.brR [0, 2, 3, 4, 5, 15] fun K hK => ?_
    have hm : (BitVec.ofNat 64 (L % 128)).toNat = L % 128 := by rw [BitVec.toNat_ofNat]; omega
    simp only [ev, fx, ↓reduceIte, Nat.reduceEqDiff, Nat.reduceLT, Nat.reduceLeDiff, Nat.reduceAdd, Nat.reduceSub, Nat.reduceMul, Int.reduceLT, Int.reduceLE, Int.reduceToNat, BitVec.reduceOfInt, BitVec.reduceToNat, reduceCtorEq, and_self, decide_true, decide_false, Bool.not_true, Bool.not_false, ne_eq, not_true_eq_false, not_false_eq_true, true_and, and_true, rem128 L hL, hm]
    refine hK _ _ (decide (L % 128 < 112)) rfl (fun h => ?_) (fun h => ?_) <;> clear hK K
    · have h := of_decide_eq_true h
      refine EWp.regR [0, 2, 3, 4, 5] fun K hK => ?_
      simp only [ev, fx, ↓reduceIte, Nat.reduceEqDiff, Nat.reduceLT, Nat.reduceLeDiff, Nat.reduceAdd, Nat.reduceSub, Nat.reduceMul, Int.reduceLT, Int.reduceLE, Int.reduceToNat, BitVec.reduceOfInt, BitVec.reduceToNat, reduceCtorEq, and_self, decide_true, decide_false, Bool.not_true, Bool.not_false, ne_eq, not_true_eq_false, not_false_eq_true, true_and, and_true, rem128 L hL]
      refine hK _ _ fun S1 h1 => ?_; clear hK K
      simp only [ThenE]
      refine ⟨?_, trivial⟩
      have e : 112#64 - BitVec.ofNat 64 (L % 128) = BitVec.ofNat 64 (padT L) := by
        apply BitVec.eq_of_toNat_eq
        simp only [BitVec.toNat_sub, hm, BitVec.toNat_ofNat, Nat.reducePow, Nat.reduceMod]
        simp only [padT, h, if_true]
        omega
      rw [h1, e]
    · have h := of_decide_eq_false h
      refine EWp.regR [0, 2, 3, 4, 5] fun K hK => ?_
      simp only [ev, fx, ↓reduceIte, Nat.reduceEqDiff, Nat.reduceLT, Nat.reduceLeDiff, Nat.reduceAdd, Nat.reduceSub, Nat.reduceMul, Int.reduceLT, Int.reduceLE, Int.reduceToNat, BitVec.reduceOfInt, BitVec.reduceToNat, reduceCtorEq, and_self, decide_true, decide_false, Bool.not_true, Bool.not_false, ne_eq, not_true_eq_false, not_false_eq_true, true_and, and_true, rem128 L hL]
      refine hK _ _ fun S1 h1 => ?_; clear hK K
      simp only [ThenE]
      refine ⟨?_, trivial⟩
      have e : 240#64 - BitVec.ofNat 64 (L % 128) = BitVec.ofNat 64 (padT L) := by
        apply BitVec.eq_of_toNat_eq
        simp only [BitVec.toNat_sub, hm, BitVec.toNat_ofNat, Nat.reducePow, Nat.reduceMod]
        simp only [padT, h, if_false]
        omega
      rw [h1, e]
  rintro S' w' ⟨rfl, rfl⟩
  refine EWp.seqR [0, 2, 3, 4, 5] fun K hK => ?_
  simp only [ev, fx, ↓reduceIte, Nat.reduceEqDiff, Nat.reduceLT, Nat.reduceLeDiff, Nat.reduceAdd, Nat.reduceSub, Nat.reduceMul, Int.reduceLT, Int.reduceLE, Int.reduceToNat, BitVec.reduceOfInt, BitVec.reduceToNat, reduceCtorEq, and_self, decide_true, decide_false, Bool.not_true, Bool.not_false, ne_eq, not_true_eq_false, not_false_eq_true, true_and, and_true]
  repeat (refine And.intro (by omega) ?_)
  refine hK _ _ ?_; clear hK K
  generalize hv : BitVec.ofNat 64 L <<< 3 = v
  have ht8 : (BitVec.ofNat 64 (padT L) + 16#64).toNat = padT L + 16 := by simp only [BitVec.toNat_add, BitVec.toNat_ofNat, Nat.reducePow, Nat.reduceMod]; omega
  have htn : (BitVec.ofNat 64 (padT L) + 8#64).toNat = padT L + 8 := by simp only [BitVec.toNat_add, BitVec.toNat_ofNat, Nat.reducePow, Nat.reduceMod]; omega
  refine EWp.seqR [0, 2, 3, 4, 5, 6] fun K hK => ?_
  simp only [ev, fx, ↓reduceIte, Nat.reduceEqDiff, Nat.reduceLT, Nat.reduceLeDiff, Nat.reduceAdd, Nat.reduceSub, Nat.reduceMul, Int.reduceLT, Int.reduceLE, Int.reduceToNat, BitVec.reduceOfInt, BitVec.reduceToNat, reduceCtorEq, and_self, decide_true, decide_false, Bool.not_true, Bool.not_false, ne_eq, not_true_eq_false, not_false_eq_true, true_and, and_true, ht8, Option.map_some]
  repeat (refine And.intro (by omega) ?_)
  refine hK _ _ ?_; clear hK K
  refine EWp.seqR [0, 2, 3, 4, 5, 6] fun K hK => ?_
  have hne : ¬ 144 = padT L + 8 := by omega
  simp only [ev, fx, ↓reduceIte, Nat.reduceEqDiff, Nat.reduceLT, Nat.reduceLeDiff, Nat.reduceAdd, Nat.reduceSub, Nat.reduceMul, Int.reduceLT, Int.reduceLE, Int.reduceToNat, BitVec.reduceOfInt, BitVec.reduceToNat, reduceCtorEq, and_self, decide_true, decide_false, Bool.not_true, Bool.not_false, ne_eq, not_true_eq_false, not_false_eq_true, true_and, and_true, htn, hne, Option.map_some]
  repeat (refine And.intro (by omega) ?_)
  refine SemE.call fn_57 rfl rfl (put64 g4 (padT L + 8) (padT L + 16 - (padT L + 8)) (144 - (padT L + 8)) _ _ 0 v _ (hl.at (k := 2) rfl) (by omega) (by simp; omega) (by
    rw [show (List.replicate 144 (SV.u8 0)).set 0 (.u8 128#8) = SV.u8 128#8 :: List.replicate 143 (SV.u8 0) by rw [List.replicate_succ, List.set_cons_zero], List.getElem?_cons, if_neg (by omega), List.getElem?_replicate, if_pos (by omega)])) ?_
  rintro _ w5 ⟨rfl, hl5⟩
  refine ⟨_, rfl, ?_⟩
  have hl := hl.call (k := 2) rfl hl5
  simp only [List.set_cons_zero, List.set_cons_succ, List.append_nil] at hl
  simp only [ev, fx, ↓reduceIte, Nat.reduceEqDiff, Nat.reduceLT, Nat.reduceLeDiff, Nat.reduceAdd, Nat.reduceSub, Nat.reduceMul, Int.reduceLT, Int.reduceLE, Int.reduceToNat, BitVec.reduceOfInt, BitVec.reduceToNat, reduceCtorEq, and_self, decide_true, decide_false, Bool.not_true, Bool.not_false, ne_eq, not_true_eq_false, not_false_eq_true, true_and, and_true]
  repeat (refine And.intro (by omega) ?_)
  refine hK _ _ ?_; clear hK K
  refine EWp.seqR [0, 2] fun K hK => ?_
  simp only [ev, fx, ↓reduceIte, Nat.reduceEqDiff, Nat.reduceLT, Nat.reduceLeDiff, Nat.reduceAdd, Nat.reduceSub, Nat.reduceMul, Int.reduceLT, Int.reduceLE, Int.reduceToNat, BitVec.reduceOfInt, BitVec.reduceToNat, reduceCtorEq, and_self, decide_true, decide_false, Bool.not_true, Bool.not_false, ne_eq, not_true_eq_false, not_false_eq_true, true_and, and_true]
  have hpad : Rd w5 (some ⟨g4, 0, none⟩) ((padB L).map SV.u8) := by
    have := Rd.blk hl (k := 2) rfl 0 (padT L + 16)
    rw [← hv] at this
    rwa [padCells] at this
  have hgb : g4 ≠ b := by
    have hnd := hl.nd
    simp at hnd
    omega
  refine SemE.call fn_41 rfl rfl (write1 b s x (L % 128) (BitVec.ofNat 64 L) ki (some ⟨g4, 0, none⟩) (padT L + 16) 144 (padB L) w5 (hl.at (k := 0) rfl) hx (by omega) (hko.keep hl (by simpa using hkb)) hkb hpad (padB_length L) (by omega) (fun h => by cases h) (fun p hp => by cases hp; simpa using hgb) (by omega)) ?_
  rintro _ w6 ⟨rfl, x', hx', _, hl6⟩
  refine ⟨_, rfl, ?_⟩
  have hl := hl.call (k := 0) rfl hl6
  simp only [List.set_cons_zero, List.append_nil] at hl
  have hz : (L % 128 + (padT L + 16)) % 128 = 0 := by unfold padT; split <;> omega
  rw [hz] at hl
  generalize BitVec.ofNat 64 L + BitVec.ofNat 64 (padT L + 16) = ln' at hl
  generalize hrr : blocks s (x.take (L % 128) ++ padB L) = r at hl
  have hl : HL w w6 [b] [(b, 76, digC r x' 0 ln' ki), (g2, 82, List.replicate 64 (SV.u8 0))] := hl.sub (by simp)
  clear hl5 hl6 hpad
  simp only [ev, fx, ↓reduceIte, Nat.reduceEqDiff, Nat.reduceLT, Nat.reduceLeDiff, Nat.reduceAdd, Nat.reduceSub, Nat.reduceMul, Int.reduceLT, Int.reduceLE, Int.reduceToNat, BitVec.reduceOfInt, BitVec.reduceToNat, reduceCtorEq, and_self, decide_true, decide_false, Bool.not_true, Bool.not_false, ne_eq, not_true_eq_false, not_false_eq_true, true_and, and_true]
  repeat (refine And.intro (by omega) ?_)
  refine hK _ _ ?_; clear hK K
  refine EWp.ifR [0, 2, 40] fun K hK => ?_
  simp only [ev, fx, ↓reduceIte, Nat.reduceEqDiff, Nat.reduceLT, Nat.reduceLeDiff, Nat.reduceAdd, Nat.reduceSub, Nat.reduceMul, Int.reduceLT, Int.reduceLE, Int.reduceToNat, BitVec.reduceOfInt, BitVec.reduceToNat, reduceCtorEq, and_self, decide_true, decide_false, Bool.not_true, Bool.not_false, ne_eq, not_true_eq_false, not_false_eq_true, true_and, and_true]
  refine SemE.loadB hl 0 rfl one_3 rfl rfl (digC_nx_get _ _ _ _ _ hx') ?_
  simp only [ev, fx, ↓reduceIte, Nat.reduceEqDiff, Nat.reduceLT, Nat.reduceLeDiff, Nat.reduceAdd, Nat.reduceSub, Nat.reduceMul, Int.reduceLT, Int.reduceLE, Int.reduceToNat, BitVec.reduceOfInt, BitVec.reduceToNat, reduceCtorEq, and_self, decide_true, decide_false, Bool.not_true, Bool.not_false, ne_eq, not_true_eq_false, not_false_eq_true, true_and, and_true]
  refine hK _ _ false rfl (fun h => by cases h) (fun _ => ?_); clear hK K
  refine EWp.skipThen ?_
  refine EWp.seqR [0, 2, 7] fun K hK => ?_
  simp only [ev, fx, ↓reduceIte, Nat.reduceEqDiff, Nat.reduceLT, Nat.reduceLeDiff, Nat.reduceAdd, Nat.reduceSub, Nat.reduceMul, Int.reduceLT, Int.reduceLE, Int.reduceToNat, BitVec.reduceOfInt, BitVec.reduceToNat, reduceCtorEq, and_self, decide_true, decide_false, Bool.not_true, Bool.not_false, ne_eq, not_true_eq_false, not_false_eq_true, true_and, and_true]
  refine SemE.alloc hl zero_82 rfl fun g7 w7 hg7 hl => ?_
  simp only [List.cons_append, List.nil_append] at hl
  simp only [ev, fx, ↓reduceIte, Nat.reduceEqDiff, Nat.reduceLT, Nat.reduceLeDiff, Nat.reduceAdd, Nat.reduceSub, Nat.reduceMul, Int.reduceLT, Int.reduceLE, Int.reduceToNat, BitVec.reduceOfInt, BitVec.reduceToNat, reduceCtorEq, and_self, decide_true, decide_false, Bool.not_true, Bool.not_false, ne_eq, not_true_eq_false, not_false_eq_true, true_and, and_true]
  repeat (refine And.intro (by omega) ?_)
  refine hK _ _ ?_; clear hK K
  have hl : HL w w7 [b] [(b, 76, digC r x' 0 ln' ki), (g2, 82, List.replicate 64 (SV.u8 0)), (g7, 82, outL r 0)] := hl
  refine EWp.seqO (fun i => [6].contains i) [(0, 0), (1, 0), (2, 0), (3, 0), (4, 0), (5, 1), (6, 2)] [0, 2, 7] mixed (by kernel_rfl) fun K hK => ?_
  have hl := hl.drew
  simp only [ev, fx, ↓reduceIte, Nat.reduceEqDiff, Nat.reduceLT, Nat.reduceLeDiff, Nat.reduceAdd, Nat.reduceSub, Nat.reduceMul, Int.reduceLT, Int.reduceLE, Int.reduceToNat, BitVec.reduceOfInt, BitVec.reduceToNat, reduceCtorEq, and_self, decide_true, decide_false, Bool.not_true, Bool.not_false, ne_eq, not_true_eq_false, not_false_eq_true, true_and, and_true, Option.map_some, sl0]
  repeat (refine And.intro (by omega) ?_)
  refine StopR.loadB hl 0 rfl one_31 rfl rfl (show (digC r x' 0 ln' ki)[0]? = some (.u64 r.a) from rfl) ?_
  simp only [ev, fx, ↓reduceIte, Nat.reduceEqDiff, Nat.reduceLT, Nat.reduceLeDiff, Nat.reduceAdd, Nat.reduceSub, Nat.reduceMul, Int.reduceLT, Int.reduceLE, Int.reduceToNat, BitVec.reduceOfInt, BitVec.reduceToNat, reduceCtorEq, and_self, decide_true, decide_false, Bool.not_true, Bool.not_false, ne_eq, not_true_eq_false, not_false_eq_true, true_and, and_true, Option.map_some, sl0]
  refine SemE.call fn_57 rfl rfl (put64 g7 0 64 64 _ (outL r 0) 0 r.a _ (hl.at (k := 2) rfl) (by omega) (by rw [outL_len]; omega) (outL_get0 r)) ?_
  rintro _ w8 ⟨rfl, hl8⟩
  refine ⟨_, rfl, fun h => absurd h (by decide), ?_⟩
  have hl := hl.call (k := 2) rfl hl8
  simp only [List.set_cons_zero, List.set_cons_succ, List.append_nil, outL_0] at hl
  clear hl8
  simp only [ev, fx, ↓reduceIte, Nat.reduceEqDiff, Nat.reduceLT, Nat.reduceLeDiff, Nat.reduceAdd, Nat.reduceSub, Nat.reduceMul, Int.reduceLT, Int.reduceLE, Int.reduceToNat, BitVec.reduceOfInt, BitVec.reduceToNat, reduceCtorEq, and_self, decide_true, decide_false, Bool.not_true, Bool.not_false, ne_eq, not_true_eq_false, not_false_eq_true, true_and, and_true]
  repeat (refine And.intro (by omega) ?_)
  refine hK _ _ ?_; clear hK K
  refine EWp.seqO (fun i => [6].contains i) [(0, 0), (1, 0), (2, 0), (3, 0), (4, 0), (5, 1), (6, 2)] [0, 2, 7] mixed (by kernel_rfl) fun K hK => ?_
  have hl := hl.drew
  simp only [ev, fx, ↓reduceIte, Nat.reduceEqDiff, Nat.reduceLT, Nat.reduceLeDiff, Nat.reduceAdd, Nat.reduceSub, Nat.reduceMul, Int.reduceLT, Int.reduceLE, Int.reduceToNat, BitVec.reduceOfInt, BitVec.reduceToNat, reduceCtorEq, and_self, decide_true, decide_false, Bool.not_true, Bool.not_false, ne_eq, not_true_eq_false, not_false_eq_true, true_and, and_true, Option.map_some, sl0]
  repeat (refine And.intro (by omega) ?_)
  refine StopR.loadB hl 0 rfl one_31 rfl rfl (show (digC r x' 0 ln' ki)[1]? = some (.u64 r.b) from rfl) ?_
  simp only [ev, fx, ↓reduceIte, Nat.reduceEqDiff, Nat.reduceLT, Nat.reduceLeDiff, Nat.reduceAdd, Nat.reduceSub, Nat.reduceMul, Int.reduceLT, Int.reduceLE, Int.reduceToNat, BitVec.reduceOfInt, BitVec.reduceToNat, reduceCtorEq, and_self, decide_true, decide_false, Bool.not_true, Bool.not_false, ne_eq, not_true_eq_false, not_false_eq_true, true_and, and_true, Option.map_some, sl0]
  refine SemE.call fn_57 rfl rfl (put64 g7 8 56 56 _ (outL r 1) 0 r.b _ (hl.at (k := 2) rfl) (by omega) (by rw [outL_len]; omega) (outL_get1 r)) ?_
  rintro _ w8 ⟨rfl, hl8⟩
  refine ⟨_, rfl, fun h => absurd h (by decide), ?_⟩
  have hl := hl.call (k := 2) rfl hl8
  simp only [List.set_cons_zero, List.set_cons_succ, List.append_nil, outL_1] at hl
  clear hl8
  simp only [ev, fx, ↓reduceIte, Nat.reduceEqDiff, Nat.reduceLT, Nat.reduceLeDiff, Nat.reduceAdd, Nat.reduceSub, Nat.reduceMul, Int.reduceLT, Int.reduceLE, Int.reduceToNat, BitVec.reduceOfInt, BitVec.reduceToNat, reduceCtorEq, and_self, decide_true, decide_false, Bool.not_true, Bool.not_false, ne_eq, not_true_eq_false, not_false_eq_true, true_and, and_true]
  repeat (refine And.intro (by omega) ?_)
  refine hK _ _ ?_; clear hK K
  refine EWp.seqO (fun i => [6].contains i) [(0, 0), (1, 0), (2, 0), (3, 0), (4, 0), (5, 1), (6, 2)] [0, 2, 7] mixed (by kernel_rfl) fun K hK => ?_
  have hl := hl.drew
  simp only [ev, fx, ↓reduceIte, Nat.reduceEqDiff, Nat.reduceLT, Nat.reduceLeDiff, Nat.reduceAdd, Nat.reduceSub, Nat.reduceMul, Int.reduceLT, Int.reduceLE, Int.reduceToNat, BitVec.reduceOfInt, BitVec.reduceToNat, reduceCtorEq, and_self, decide_true, decide_false, Bool.not_true, Bool.not_false, ne_eq, not_true_eq_false, not_false_eq_true, true_and, and_true, Option.map_some, sl0]
  repeat (refine And.intro (by omega) ?_)
  refine StopR.loadB hl 0 rfl one_31 rfl rfl (show (digC r x' 0 ln' ki)[2]? = some (.u64 r.c) from rfl) ?_
  simp only [ev, fx, ↓reduceIte, Nat.reduceEqDiff, Nat.reduceLT, Nat.reduceLeDiff, Nat.reduceAdd, Nat.reduceSub, Nat.reduceMul, Int.reduceLT, Int.reduceLE, Int.reduceToNat, BitVec.reduceOfInt, BitVec.reduceToNat, reduceCtorEq, and_self, decide_true, decide_false, Bool.not_true, Bool.not_false, ne_eq, not_true_eq_false, not_false_eq_true, true_and, and_true, Option.map_some, sl0]
  refine SemE.call fn_57 rfl rfl (put64 g7 16 48 48 _ (outL r 2) 0 r.c _ (hl.at (k := 2) rfl) (by omega) (by rw [outL_len]; omega) (outL_get2 r)) ?_
  rintro _ w8 ⟨rfl, hl8⟩
  refine ⟨_, rfl, fun h => absurd h (by decide), ?_⟩
  have hl := hl.call (k := 2) rfl hl8
  simp only [List.set_cons_zero, List.set_cons_succ, List.append_nil, outL_2] at hl
  clear hl8
  simp only [ev, fx, ↓reduceIte, Nat.reduceEqDiff, Nat.reduceLT, Nat.reduceLeDiff, Nat.reduceAdd, Nat.reduceSub, Nat.reduceMul, Int.reduceLT, Int.reduceLE, Int.reduceToNat, BitVec.reduceOfInt, BitVec.reduceToNat, reduceCtorEq, and_self, decide_true, decide_false, Bool.not_true, Bool.not_false, ne_eq, not_true_eq_false, not_false_eq_true, true_and, and_true]
  repeat (refine And.intro (by omega) ?_)
  refine hK _ _ ?_; clear hK K
  refine EWp.seqO (fun i => [6].contains i) [(0, 0), (1, 0), (2, 0), (3, 0), (4, 0), (5, 1), (6, 2)] [0, 2, 7] mixed (by kernel_rfl) fun K hK => ?_
  have hl := hl.drew
  simp only [ev, fx, ↓reduceIte, Nat.reduceEqDiff, Nat.reduceLT, Nat.reduceLeDiff, Nat.reduceAdd, Nat.reduceSub, Nat.reduceMul, Int.reduceLT, Int.reduceLE, Int.reduceToNat, BitVec.reduceOfInt, BitVec.reduceToNat, reduceCtorEq, and_self, decide_true, decide_false, Bool.not_true, Bool.not_false, ne_eq, not_true_eq_false, not_false_eq_true, true_and, and_true, Option.map_some, sl0]
  repeat (refine And.intro (by omega) ?_)
  refine StopR.loadB hl 0 rfl one_31 rfl rfl (show (digC r x' 0 ln' ki)[3]? = some (.u64 r.d) from rfl) ?_
  simp only [ev, fx, ↓reduceIte, Nat.reduceEqDiff, Nat.reduceLT, Nat.reduceLeDiff, Nat.reduceAdd, Nat.reduceSub, Nat.reduceMul, Int.reduceLT, Int.reduceLE, Int.reduceToNat, BitVec.reduceOfInt, BitVec.reduceToNat, reduceCtorEq, and_self, decide_true, decide_false, Bool.not_true, Bool.not_false, ne_eq, not_true_eq_false, not_false_eq_true, true_and, and_true, Option.map_some, sl0]
  refine SemE.call fn_57 rfl rfl (put64 g7 24 40 40 _ (outL r 3) 0 r.d _ (hl.at (k := 2) rfl) (by omega) (by rw [outL_len]; omega) (outL_get3 r)) ?_
  rintro _ w8 ⟨rfl, hl8⟩
  refine ⟨_, rfl, fun h => absurd h (by decide), ?_⟩
  have hl := hl.call (k := 2) rfl hl8
  simp only [List.set_cons_zero, List.set_cons_succ, List.append_nil, outL_3] at hl
  clear hl8
  simp only [ev, fx, ↓reduceIte, Nat.reduceEqDiff, Nat.reduceLT, Nat.reduceLeDiff, Nat.reduceAdd, Nat.reduceSub, Nat.reduceMul, Int.reduceLT, Int.reduceLE, Int.reduceToNat, BitVec.reduceOfInt, BitVec.reduceToNat, reduceCtorEq, and_self, decide_true, decide_false, Bool.not_true, Bool.not_false, ne_eq, not_true_eq_false, not_false_eq_true, true_and, and_true]
  repeat (refine And.intro (by omega) ?_)
  refine hK _ _ ?_; clear hK K
  refine EWp.seqO (fun i => [6].contains i) [(0, 0), (1, 0), (2, 0), (3, 0), (4, 0), (5, 1), (6, 2)] [0, 2, 7] mixed (by kernel_rfl) fun K hK => ?_
  have hl := hl.drew
  simp only [ev, fx, ↓reduceIte, Nat.reduceEqDiff, Nat.reduceLT, Nat.reduceLeDiff, Nat.reduceAdd, Nat.reduceSub, Nat.reduceMul, Int.reduceLT, Int.reduceLE, Int.reduceToNat, BitVec.reduceOfInt, BitVec.reduceToNat, reduceCtorEq, and_self, decide_true, decide_false, Bool.not_true, Bool.not_false, ne_eq, not_true_eq_false, not_false_eq_true, true_and, and_true, Option.map_some, sl0]
  repeat (refine And.intro (by omega) ?_)
  refine StopR.loadB hl 0 rfl one_31 rfl rfl (show (digC r x' 0 ln' ki)[4]? = some (.u64 r.e) from rfl) ?_
  simp only [ev, fx, ↓reduceIte, Nat.reduceEqDiff, Nat.reduceLT, Nat.reduceLeDiff, Nat.reduceAdd, Nat.reduceSub, Nat.reduceMul, Int.reduceLT, Int.reduceLE, Int.reduceToNat, BitVec.reduceOfInt, BitVec.reduceToNat, reduceCtorEq, and_self, decide_true, decide_false, Bool.not_true, Bool.not_false, ne_eq, not_true_eq_false, not_false_eq_true, true_and, and_true, Option.map_some, sl0]
  refine SemE.call fn_57 rfl rfl (put64 g7 32 32 32 _ (outL r 4) 0 r.e _ (hl.at (k := 2) rfl) (by omega) (by rw [outL_len]; omega) (outL_get4 r)) ?_
  rintro _ w8 ⟨rfl, hl8⟩
  refine ⟨_, rfl, fun h => absurd h (by decide), ?_⟩
  have hl := hl.call (k := 2) rfl hl8
  simp only [List.set_cons_zero, List.set_cons_succ, List.append_nil, outL_4] at hl
  clear hl8
  simp only [ev, fx, ↓reduceIte, Nat.reduceEqDiff, Nat.reduceLT, Nat.reduceLeDiff, Nat.reduceAdd, Nat.reduceSub, Nat.reduceMul, Int.reduceLT, Int.reduceLE, Int.reduceToNat, BitVec.reduceOfInt, BitVec.reduceToNat, reduceCtorEq, and_self, decide_true, decide_false, Bool.not_true, Bool.not_false, ne_eq, not_true_eq_false, not_false_eq_true, true_and, and_true]
  repeat (refine And.intro (by omega) ?_)
  refine hK _ _ ?_; clear hK K
  refine EWp.seqO (fun i => [6].contains i) [(0, 0), (1, 0), (2, 0), (3, 0), (4, 0), (5, 1), (6, 2)] [0, 2, 7] mixed (by kernel_rfl) fun K hK => ?_
  have hl := hl.drew
  simp only [ev, fx, ↓reduceIte, Nat.reduceEqDiff, Nat.reduceLT, Nat.reduceLeDiff, Nat.reduceAdd, Nat.reduceSub, Nat.reduceMul, Int.reduceLT, Int.reduceLE, Int.reduceToNat, BitVec.reduceOfInt, BitVec.reduceToNat, reduceCtorEq, and_self, decide_true, decide_false, Bool.not_true, Bool.not_false, ne_eq, not_true_eq_false, not_false_eq_true, true_and, and_true, Option.map_some, sl0]
  repeat (refine And.intro (by omega) ?_)
  refine StopR.loadB hl 0 rfl one_31 rfl rfl (show (digC r x' 0 ln' ki)[5]? = some (.u64 r.f) from rfl) ?_
  simp only [ev, fx, ↓reduceIte, Nat.reduceEqDiff, Nat.reduceLT, Nat.reduceLeDiff, Nat.reduceAdd, Nat.reduceSub, Nat.reduceMul, Int.reduceLT, Int.reduceLE, Int.reduceToNat, BitVec.reduceOfInt, BitVec.reduceToNat, reduceCtorEq, and_self, decide_true, decide_false, Bool.not_true, Bool.not_false, ne_eq, not_true_eq_false, not_false_eq_true, true_and, and_true, Option.map_some, sl0]
  refine SemE.call fn_57 rfl rfl (put64 g7 40 24 24 _ (outL r 5) 0 r.f _ (hl.at (k := 2) rfl) (by omega) (by rw [outL_len]; omega) (outL_get5 r)) ?_
  rintro _ w8 ⟨rfl, hl8⟩
  refine ⟨_, rfl, fun h => absurd h (by decide), ?_⟩
  have hl := hl.call (k := 2) rfl hl8
  simp only [List.set_cons_zero, List.set_cons_succ, List.append_nil, outL_5] at hl
  clear hl8
  simp only [ev, fx, ↓reduceIte, Nat.reduceEqDiff, Nat.reduceLT, Nat.reduceLeDiff, Nat.reduceAdd, Nat.reduceSub, Nat.reduceMul, Int.reduceLT, Int.reduceLE, Int.reduceToNat, BitVec.reduceOfInt, BitVec.reduceToNat, reduceCtorEq, and_self, decide_true, decide_false, Bool.not_true, Bool.not_false, ne_eq, not_true_eq_false, not_false_eq_true, true_and, and_true]
  repeat (refine And.intro (by omega) ?_)
  refine hK _ _ ?_; clear hK K
  refine EWp.cut [0, 2, 7] (fun S' w' => S' = [(0, .ptr ⟨b, 0, none⟩), (2, .ptr ⟨g2, 0, none⟩), (7, .ptr ⟨g7, 0, none⟩)] ∧ HL w w' [b] [(b, 76, digC r x' 0 ln' ki), (g2, 82, List.replicate 64 (SV.u8 0)), (g7, 82, outL r (outN ki))]) ?_ ?_
  case refine_1 =>
    refine EWp.brR [0, 2, 7, 88] fun K hK => ?_
    simp only [ev, fx, ↓reduceIte, Nat.reduceEqDiff, Nat.reduceLT, Nat.reduceLeDiff, Nat.reduceAdd, Nat.reduceSub, Nat.reduceMul, Int.reduceLT, Int.reduceLE, Int.reduceToNat, BitVec.reduceOfInt, BitVec.reduceToNat, reduceCtorEq, and_self, decide_true, decide_false, Bool.not_true, Bool.not_false, ne_eq, not_true_eq_false, not_false_eq_true, true_and, and_true]
    refine SemE.loadB hl 0 rfl one_3 rfl rfl (digC_sz_get _ _ _ _ _ hx') ?_
    simp only [ev, fx, ↓reduceIte, Nat.reduceEqDiff, Nat.reduceLT, Nat.reduceLeDiff, Nat.reduceAdd, Nat.reduceSub, Nat.reduceMul, Int.reduceLT, Int.reduceLE, Int.reduceToNat, BitVec.reduceOfInt, BitVec.reduceToNat, reduceCtorEq, and_self, decide_true, decide_false, Bool.not_true, Bool.not_false, ne_eq, not_true_eq_false, not_false_eq_true, true_and, and_true]
    refine hK _ _ (decide (¬ szOf ki = 48)) rfl (fun h => ?_) (fun h => ?_) <;> clear hK K
    · have hon : outN ki = 8 := by cases ki <;> first | rfl | (simp [szOf] at h)
      rw [hon]
      refine EWp.seqO (fun i => [6].contains i) [(0, 0), (1, 0), (2, 0), (3, 0), (4, 0), (5, 1), (6, 2)] [0, 2, 7] mixed (by kernel_rfl) fun K hK => ?_
      have hl := hl.drew
      simp only [ev, fx, ↓reduceIte, Nat.reduceEqDiff, Nat.reduceLT, Nat.reduceLeDiff, Nat.reduceAdd, Nat.reduceSub, Nat.reduceMul, Int.reduceLT, Int.reduceLE, Int.reduceToNat, BitVec.reduceOfInt, BitVec.reduceToNat, reduceCtorEq, and_self, decide_true, decide_false, Bool.not_true, Bool.not_false, ne_eq, not_true_eq_false, not_false_eq_true, true_and, and_true, Option.map_some, sl0]
      repeat (refine And.intro (by omega) ?_)
      refine StopR.loadB hl 0 rfl one_31 rfl rfl (show (digC r x' 0 ln' ki)[6]? = some (.u64 r.g) from rfl) ?_
      simp only [ev, fx, ↓reduceIte, Nat.reduceEqDiff, Nat.reduceLT, Nat.reduceLeDiff, Nat.reduceAdd, Nat.reduceSub, Nat.reduceMul, Int.reduceLT, Int.reduceLE, Int.reduceToNat, BitVec.reduceOfInt, BitVec.reduceToNat, reduceCtorEq, and_self, decide_true, decide_false, Bool.not_true, Bool.not_false, ne_eq, not_true_eq_false, not_false_eq_true, true_and, and_true, Option.map_some, sl0]
      refine SemE.call fn_57 rfl rfl (put64 g7 48 16 16 _ (outL r 6) 0 r.g _ (hl.at (k := 2) rfl) (by omega) (by rw [outL_len]; omega) (outL_get6 r)) ?_
      rintro _ w8 ⟨rfl, hl8⟩
      refine ⟨_, rfl, fun h => absurd h (by decide), ?_⟩
      have hl := hl.call (k := 2) rfl hl8
      simp only [List.set_cons_zero, List.set_cons_succ, List.append_nil, outL_6] at hl
      clear hl8
      simp only [ev, fx, ↓reduceIte, Nat.reduceEqDiff, Nat.reduceLT, Nat.reduceLeDiff, Nat.reduceAdd, Nat.reduceSub, Nat.reduceMul, Int.reduceLT, Int.reduceLE, Int.reduceToNat, BitVec.reduceOfInt, BitVec.reduceToNat, reduceCtorEq, and_self, decide_true, decide_false, Bool.not_true, Bool.not_false, ne_eq, not_true_eq_false, not_false_eq_true, true_and, and_true]
      repeat (refine And.intro (by omega) ?_)
      refine hK _ _ ?_; clear hK K
      refine EWp.regO (fun i => [6].contains i) [(0, 0), (1, 0), (2, 0), (3, 0), (4, 0), (5, 1), (6, 2)] [0, 2, 7] mixed (by kernel_rfl) fun K hK => ?_
      have hl := hl.drew
      simp only [ev, fx, ↓reduceIte, Nat.reduceEqDiff, Nat.reduceLT, Nat.reduceLeDiff, Nat.reduceAdd, Nat.reduceSub, Nat.reduceMul, Int.reduceLT, Int.reduceLE, Int.reduceToNat, BitVec.reduceOfInt, BitVec.reduceToNat, reduceCtorEq, and_self, decide_true, decide_false, Bool.not_true, Bool.not_false, ne_eq, not_true_eq_false, not_false_eq_true, true_and, and_true, Option.map_some, sl0]
      repeat (refine And.intro (by omega) ?_)
      refine StopR.loadB hl 0 rfl one_31 rfl rfl (show (digC r x' 0 ln' ki)[7]? = some (.u64 r.h) from rfl) ?_
      simp only [ev, fx, ↓reduceIte, Nat.reduceEqDiff, Nat.reduceLT, Nat.reduceLeDiff, Nat.reduceAdd, Nat.reduceSub, Nat.reduceMul, Int.reduceLT, Int.reduceLE, Int.reduceToNat, BitVec.reduceOfInt, BitVec.reduceToNat, reduceCtorEq, and_self, decide_true, decide_false, Bool.not_true, Bool.not_false, ne_eq, not_true_eq_false, not_false_eq_true, true_and, and_true, Option.map_some, sl0]
      refine SemE.call fn_57 rfl rfl (put64 g7 56 8 8 _ (outL r 7) 0 r.h _ (hl.at (k := 2) rfl) (by omega) (by rw [outL_len]; omega) (outL_get7 r)) ?_
      rintro _ w8 ⟨rfl, hl8⟩
      refine ⟨_, rfl, fun h => absurd h (by decide), ?_⟩
      have hl := hl.call (k := 2) rfl hl8
      simp only [List.set_cons_zero, List.set_cons_succ, List.append_nil, outL_7] at hl
      clear hl8
      simp only [ev, fx, ↓reduceIte, Nat.reduceEqDiff, Nat.reduceLT, Nat.reduceLeDiff, Nat.reduceAdd, Nat.reduceSub, Nat.reduceMul, Int.reduceLT, Int.reduceLE, Int.reduceToNat, BitVec.reduceOfInt, BitVec.reduceToNat, reduceCtorEq, and_self, decide_true, decide_false, Bool.not_true, Bool.not_false, ne_eq, not_true_eq_false, not_false_eq_true, true_and, and_true]
      refine hK _ _ fun S1 h1 => ?_; clear hK K
      simp only [ThenE]
      exact ⟨h1, hl⟩
    · have hon : outN ki = 6 := by cases ki <;> first | rfl | (simp [szOf] at h)
      rw [hon]
      refine EWp.skip ?_
      simp only [ThenE]
      exact ⟨rfl, hl⟩
  clear hl
  rintro S' w' ⟨rfl, hl⟩
  have hol : (outL r (outN ki)).length = 64 := by rw [outL_len]; cases ki <;> rfl
  refine EWp.seqR [2] fun K hK => ?_
  simp only [ev, fx, ↓reduceIte, Nat.reduceEqDiff, Nat.reduceLT, Nat.reduceLeDiff, Nat.reduceAdd, Nat.reduceSub, Nat.reduceMul, Int.reduceLT, Int.reduceLE, Int.reduceToNat, BitVec.reduceOfInt, BitVec.reduceToNat, reduceCtorEq, and_self, decide_true, decide_false, Bool.not_true, Bool.not_false, ne_eq, not_true_eq_false, not_false_eq_true, true_and, and_true]
  refine SemE.loadA (vs := outL r (outN ki)) rfl (by rw [hol]; exact agg_82) rfl (by
    have := Rd.blk hl (k := 2) rfl 0 64
    rwa [List.drop_zero, List.take_of_length_le (by rw [hol]; omega)] at this) ?_
  simp only [ev, fx, ↓reduceIte, Nat.reduceEqDiff, Nat.reduceLT, Nat.reduceLeDiff, Nat.reduceAdd, Nat.reduceSub, Nat.reduceMul, Int.reduceLT, Int.reduceLE, Int.reduceToNat, BitVec.reduceOfInt, BitVec.reduceToNat, reduceCtorEq, and_self, decide_true, decide_false, Bool.not_true, Bool.not_false, ne_eq, not_true_eq_false, not_false_eq_true, true_and, and_true]
  refine SemE.storeA (vs := outL r (outN ki)) hl 1 rfl rfl (by rw [hol]; exact agg_82) (outL_one _ _) rfl (by rw [hol, List.length_replicate]; omega) fun w9 hl => ?_
  have hsp : (List.replicate 64 (SV.u8 0)).take 0 ++ outL r (outN ki) ++ (List.replicate 64 (SV.u8 0)).drop (0 + (outL r (outN ki)).length) = outL r (outN ki) := by
    rw [List.take_zero, List.nil_append, hol, List.drop_of_length_le (by simp), List.append_nil]
  simp only [List.set_cons_zero, List.set_cons_succ, hsp] at hl
  simp only [ev, fx, ↓reduceIte, Nat.reduceEqDiff, Nat.reduceLT, Nat.reduceLeDiff, Nat.reduceAdd, Nat.reduceSub, Nat.reduceMul, Int.reduceLT, Int.reduceLE, Int.reduceToNat, BitVec.reduceOfInt, BitVec.reduceToNat, reduceCtorEq, and_self, decide_true, decide_false, Bool.not_true, Bool.not_false, ne_eq, not_true_eq_false, not_false_eq_true, true_and, and_true]
  repeat (refine And.intro (by omega) ?_)
  refine hK _ _ ?_; clear hK K
  refine EWp.ret (bodyCellA (.inl rfl) rfl (t := 2) (b := g2) (cs := outL r (outN ki)) rfl (by rw [hol]; exact agg_82) (hl.at (k := 1) rfl) ⟨by rw [hrr], x', ln', hx', by rw [hrr]; exact hl.sub (by simp)⟩)
end Go.Proofs.YtggbaffkjfofhaaDoor
