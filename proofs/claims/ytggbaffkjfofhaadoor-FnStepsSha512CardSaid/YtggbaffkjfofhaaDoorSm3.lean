/- Sum of SHA-512. -/
import Derived.Test.YtggbaffkjfofhaaDoorDg3
import Derived.Test.YtggbaffkjfofhaaDoorNew3
set_option linter.unusedVariables false
set_option linter.unusedSimpArgs false
namespace Go.Proofs.YtggbaffkjfofhaaDoor
open Go

/-- SHA-512 of a text, as bytes. -/
def hashB (ki : Kd) (T : List B8) : List B8 := (sumB (blocks (initOf ki) (T ++ padB T.length))).take (szOf ki)
theorem hashB_len (ki : Kd) (T : List B8) : (hashB ki T).length = szOf ki := by unfold hashB; cases ki <;> simp [sumB_len, szOf]

theorem digC_one (s : S8) (x : List B8) (nx : Nat) (ln : BitVec 64) (ki : Kd) : ∀ v ∈ digC s x nx ln ki, v.isOne = true := by
  intro v hv
  simp only [digC, dig8, List.mem_cons, List.mem_append, List.mem_map] at hv
  rcases hv with rfl | rfl | rfl | rfl | rfl | rfl | rfl | rfl | ⟨_, _, rfl⟩ | rfl | rfl | rfl | h
  all_goals first | rfl | cases h

set_option maxRecDepth 100000 in
set_option maxHeartbeats 1000000 in
theorem sumD (b : Nat) (T : List B8) (cs : List SV) (ki : Kd) (hd : Dig ki T cs) (v : SV) (k : Nat) (xs : List SV) (B : List Blk) (w : World) (hb : w.heap[b]? = some (.cells (cs.map SV.val).toArray 76 (0, 0)))
    (hko : KO w) (ho : Own 5 1 v k xs B) (hB : HL w w (B.map (·.1)) B) (hbB : b ∉ B.map (·.1)) (hkB : 0 ∉ B.map (·.1)) (hk : k ≤ 34359738368) (hT : T.length < 1152921504606846976) :
    Calls Tryd.prog 39 #[(SV.ptr ⟨b, 0, none⟩).val, v.val] w fun e w' => ∃ v' B', e = .returned v'.val ∧ Own 5 1 v' (k + szOf ki) (xs ++ (hashB ki T).map SV.u8) B' ∧ HL w w' (B.map (·.1)) B' := by
  obtain ⟨x, hx, htk, rfl⟩ := hd
  refine calls_E [.ptr ⟨b, 0, none⟩, v] Tryd.func39 rfl Tryd.ntmps39 rfl ?_
  refine EWp.seqR [0, 1] fun K hK => ?_
  simp only [ev, fx, ↓reduceIte, Nat.reduceEqDiff, Nat.reduceLT, Nat.reduceLeDiff, Nat.reduceAdd, Nat.reduceSub, Nat.reduceMul, Int.reduceLT, Int.reduceLE, Int.reduceToNat, BitVec.reduceOfInt, BitVec.reduceToNat, reduceCtorEq, and_self, decide_true, decide_false, Bool.not_true, Bool.not_false, ne_eq, not_true_eq_false, not_false_eq_true, true_and, and_true]
  repeat (refine And.intro (by omega) ?_)
  refine hK _ _ ?_; clear hK K
  refine EWp.seqR [0, 1, 5] fun K hK => ?_
  simp only [ev, fx, ↓reduceIte, Nat.reduceEqDiff, Nat.reduceLT, Nat.reduceLeDiff, Nat.reduceAdd, Nat.reduceSub, Nat.reduceMul, Int.reduceLT, Int.reduceLE, Int.reduceToNat, BitVec.reduceOfInt, BitVec.reduceToNat, reduceCtorEq, and_self, decide_true, decide_false, Bool.not_true, Bool.not_false, ne_eq, not_true_eq_false, not_false_eq_true, true_and, and_true]
  refine SemE.alloc hB zero_76 rfl fun g w1 hg hl => ?_
  have hl := hl.perm (List.perm_append_singleton _ _)
  simp only [ev, fx, ↓reduceIte, Nat.reduceEqDiff, Nat.reduceLT, Nat.reduceLeDiff, Nat.reduceAdd, Nat.reduceSub, Nat.reduceMul, Int.reduceLT, Int.reduceLE, Int.reduceToNat, BitVec.reduceOfInt, BitVec.reduceToNat, reduceCtorEq, and_self, decide_true, decide_false, Bool.not_true, Bool.not_false, ne_eq, not_true_eq_false, not_false_eq_true, true_and, and_true]
  repeat (refine And.intro (by omega) ?_)
  refine hK _ _ ?_; clear hK K
  have hgb : b < w.heap.size := (Array.getElem?_eq_some_iff.1 hb).1
  have hlb0 : w1.heap[b]? = some (.cells ((digC (blocks (initOf ki) T) x (T.length % 128) (BitVec.ofNat 64 T.length) ki).map SV.val).toArray 76 (0, 0)) := (hl.old b hgb hbB).trans hb
  have hlb := HL.startB hlb0
  refine EWp.seqR [0, 1, 5] fun K hK => ?_
  simp only [ev, fx, ↓reduceIte, Nat.reduceEqDiff, Nat.reduceLT, Nat.reduceLeDiff, Nat.reduceAdd, Nat.reduceSub, Nat.reduceMul, Int.reduceLT, Int.reduceLE, Int.reduceToNat, BitVec.reduceOfInt, BitVec.reduceToNat, reduceCtorEq, and_self, decide_true, decide_false, Bool.not_true, Bool.not_false, ne_eq, not_true_eq_false, not_false_eq_true, true_and, and_true]
  refine SemE.loadA (vs := digC (blocks (initOf ki) T) x (T.length % 128) (BitVec.ofNat 64 T.length) ki) rfl (by rw [digC_length _ _ _ _ _ hx]; exact agg_76) rfl (by
    have := Rd.blk hlb (k := 0) rfl 0 139
    rwa [List.drop_zero, List.take_of_length_le (by rw [digC_length _ _ _ _ _ hx]; exact Nat.le_refl _)] at this) ?_
  simp only [ev, fx, ↓reduceIte, Nat.reduceEqDiff, Nat.reduceLT, Nat.reduceLeDiff, Nat.reduceAdd, Nat.reduceSub, Nat.reduceMul, Int.reduceLT, Int.reduceLE, Int.reduceToNat, BitVec.reduceOfInt, BitVec.reduceToNat, reduceCtorEq, and_self, decide_true, decide_false, Bool.not_true, Bool.not_false, ne_eq, not_true_eq_false, not_false_eq_true, true_and, and_true]
  refine SemE.storeA (vs := digC (blocks (initOf ki) T) x (T.length % 128) (BitVec.ofNat 64 T.length) ki) hl 0 rfl rfl (by rw [digC_length _ _ _ _ _ hx]; exact agg_76) (digC_one _ _ _ _ _) rfl (by rw [digC_length _ _ _ _ _ hx]; simp) fun w2 hl => ?_
  rw [List.set_cons_zero, List.take_zero, List.nil_append, List.drop_of_length_le (by rw [digC_length _ _ _ _ _ hx]; simp), List.append_nil] at hl
  simp only [ev, fx, ↓reduceIte, Nat.reduceEqDiff, Nat.reduceLT, Nat.reduceLeDiff, Nat.reduceAdd, Nat.reduceSub, Nat.reduceMul, Int.reduceLT, Int.reduceLE, Int.reduceToNat, BitVec.reduceOfInt, BitVec.reduceToNat, reduceCtorEq, and_self, decide_true, decide_false, Bool.not_true, Bool.not_false, ne_eq, not_true_eq_false, not_false_eq_true, true_and, and_true]
  repeat (refine And.intro (by omega) ?_)
  refine hK _ _ ?_; clear hK K
  refine EWp.seqR [0, 1, 5, 6] fun K hK => ?_
  simp only [ev, fx, ↓reduceIte, Nat.reduceEqDiff, Nat.reduceLT, Nat.reduceLeDiff, Nat.reduceAdd, Nat.reduceSub, Nat.reduceMul, Int.reduceLT, Int.reduceLE, Int.reduceToNat, BitVec.reduceOfInt, BitVec.reduceToNat, reduceCtorEq, and_self, decide_true, decide_false, Bool.not_true, Bool.not_false, ne_eq, not_true_eq_false, not_false_eq_true, true_and, and_true]
  have hgk : 0 ≠ g := by have := hko.lt; omega
  refine SemE.call fn_48 rfl rfl (checkSum3 g _ x T.length ki _ (hl.at (k := 0) rfl) hx (hko.keep (hl.sub (List.nil_sublist _)) (fun hm => hkB hm)) hgk hT) ?_
  rintro _ w3 ⟨rfl, x3, ln3, hx3, hl3⟩
  refine ⟨_, rfl, ?_⟩
  have hl := hl.call (k := 0) rfl hl3
  rw [List.set_cons_zero, List.append_nil] at hl
  have hsum : blocks (blocks (initOf ki) T) (x.take (T.length % 128) ++ padB T.length) = blocks (initOf ki) (T ++ padB T.length) := by rw [htk, blocks_more]
  rw [hsum] at hl ⊢
  have hhb : hashB ki T = (sumB (blocks (initOf ki) (T ++ padB T.length))).take (szOf ki) := rfl
  generalize blocks (initOf ki) (T ++ padB T.length) = r at hl hhb ⊢
  have hol : (outL r (outN ki)).length = 64 := by rw [outL_len]; cases ki <;> rfl
  simp only [ev, fx, ↓reduceIte, Nat.reduceEqDiff, Nat.reduceLT, Nat.reduceLeDiff, Nat.reduceAdd, Nat.reduceSub, Nat.reduceMul, Int.reduceLT, Int.reduceLE, Int.reduceToNat, BitVec.reduceOfInt, BitVec.reduceToNat, reduceCtorEq, and_self, decide_true, decide_false, Bool.not_true, Bool.not_false, ne_eq, not_true_eq_false, not_false_eq_true, true_and, and_true]
  refine SemE.alloc hl zero_82 rfl fun g2 w4 hg2 hl => ?_
  have hl := hl.perm (List.perm_append_singleton _ _)
  simp only [ev, fx, ↓reduceIte, Nat.reduceEqDiff, Nat.reduceLT, Nat.reduceLeDiff, Nat.reduceAdd, Nat.reduceSub, Nat.reduceMul, Int.reduceLT, Int.reduceLE, Int.reduceToNat, BitVec.reduceOfInt, BitVec.reduceToNat, reduceCtorEq, and_self, decide_true, decide_false, Bool.not_true, Bool.not_false, ne_eq, not_true_eq_false, not_false_eq_true, true_and, and_true]
  refine SemE.storeA (vs := outL r (outN ki)) hl 0 rfl rfl (by rw [hol]; exact agg_82) (outL_one _ _) rfl (by rw [hol, List.length_replicate]; omega) fun w5 hl => ?_
  rw [List.set_cons_zero, List.take_zero, List.nil_append, hol, List.drop_of_length_le (by simp), List.append_nil] at hl
  simp only [ev, fx, ↓reduceIte, Nat.reduceEqDiff, Nat.reduceLT, Nat.reduceLeDiff, Nat.reduceAdd, Nat.reduceSub, Nat.reduceMul, Int.reduceLT, Int.reduceLE, Int.reduceToNat, BitVec.reduceOfInt, BitVec.reduceToNat, reduceCtorEq, and_self, decide_true, decide_false, Bool.not_true, Bool.not_false, ne_eq, not_true_eq_false, not_false_eq_true, true_and, and_true]
  repeat (refine And.intro (by omega) ?_)
  refine hK _ _ ?_; clear hK K
  have hrd := Rd.blk hl (k := 0) rfl 0 64
  rw [List.drop_zero, List.take_of_length_le (by rw [hol]; omega)] at hrd
  have hlb5 : w5.heap[b]? = some (.cells ((digC (blocks (initOf ki) T) x (T.length % 128) (BitVec.ofNat 64 T.length) ki).map SV.val).toArray 76 (0, 0)) := (hl.old b hgb hbB).trans hb
  have hl := (hl.sub (H' := (g2, 82, outL r (outN ki)) :: B) (by simp)).perm (List.perm_append_singleton _ _).symm
  have hs64 : szOf ki ≤ 64 := by cases ki <;> simp [szOf]
  have hv : (outL r (outN ki)).take (szOf ki) = ((sumB r).take (szOf ki)).map SV.u8 := by cases ki <;> rfl
  refine EWp.seqR [4] fun K hK => ?_
  simp only [ev, fx, ↓reduceIte, Nat.reduceEqDiff, Nat.reduceLT, Nat.reduceLeDiff, Nat.reduceAdd, Nat.reduceSub, Nat.reduceMul, Int.reduceLT, Int.reduceLE, Int.reduceToNat, BitVec.reduceOfInt, BitVec.reduceToNat, reduceCtorEq, and_self, decide_true, decide_false, Bool.not_true, Bool.not_false, ne_eq, not_true_eq_false, not_false_eq_true, true_and, and_true]
  refine SemE.loadB (HL.startB hlb5) 0 rfl one_3 rfl rfl (digC_sz_get _ _ _ _ _ hx) ?_
  simp only [ev, fx, ↓reduceIte, Nat.reduceEqDiff, Nat.reduceLT, Nat.reduceLeDiff, Nat.reduceAdd, Nat.reduceSub, Nat.reduceMul, Int.reduceLT, Int.reduceLE, Int.reduceToNat, BitVec.reduceOfInt, BitVec.reduceToNat, reduceCtorEq, and_self, decide_true, decide_false, Bool.not_true, Bool.not_false, ne_eq, not_true_eq_false, not_false_eq_true, true_and, and_true, sl0]
  repeat (refine And.intro (by omega) ?_)
  refine SemE.append hl ho (a := some ⟨g2, 0, none⟩) (m := szOf ki) (c := 64) (vs := ((sumB r).take (szOf ki)).map SV.u8) slof_23 rfl rfl rfl (by rw [← hv]; exact hrd.take _) (by simp [sumB_len]; omega) (fun h => by cases h) (isOneB _) (by omega) rfl fun v' B' w6 ho' hl' _ => ?_
  simp only [ev, fx, ↓reduceIte, Nat.reduceEqDiff, Nat.reduceLT, Nat.reduceLeDiff, Nat.reduceAdd, Nat.reduceSub, Nat.reduceMul, Int.reduceLT, Int.reduceLE, Int.reduceToNat, BitVec.reduceOfInt, BitVec.reduceToNat, reduceCtorEq, and_self, decide_true, decide_false, Bool.not_true, Bool.not_false, ne_eq, not_true_eq_false, not_false_eq_true, true_and, and_true]
  repeat (refine And.intro (by omega) ?_)
  refine hK _ _ ?_; clear hK K
  exact EWp.ret (BodyE.tmp1 rfl rfl ⟨v', B', rfl, by rw [hhb]; exact ho', hl'.sub (List.sublist_append_left _ _)⟩)
end Go.Proofs.YtggbaffkjfofhaaDoor
