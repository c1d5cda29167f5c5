/- Sum of SHA-1. -/
import Derived.Test.YtikejalfiaindaaDg1
set_option linter.unusedVariables false
set_option linter.unusedSimpArgs false
namespace Go.Proofs.Ytikejalfiaindaa
open Go

/-- SHA-1 of a text, as bytes. -/
def sha1B (T : List B8) : List B8 := sumB (blocks init1 (T ++ padB T.length))

theorem digC_one (s : S5) (x : List B8) (nx : Nat) (ln : BitVec 64) : ∀ v ∈ digC s x nx ln, v.isOne = true := by
  intro v hv
  simp only [digC, dig5, List.mem_cons, List.mem_append, List.mem_map] at hv
  rcases hv with rfl | rfl | rfl | rfl | rfl | ⟨_, _, rfl⟩ | rfl | rfl | h
  all_goals first | rfl | cases h

set_option maxRecDepth 100000 in
theorem sumD (b : Nat) (T : List B8) (cs : List SV) (hd : Dig T cs) (v : SV) (k : Nat) (xs : List SV) (B : List Blk) (w : World) (hb : w.heap[b]? = some (.cells (cs.map SV.val).toArray 73 (0, 0)))
    (ho : Own 5 1 v k xs B) (hB : HL w w (B.map (·.1)) B) (hbB : b ∉ B.map (·.1)) (hk : k ≤ 34359738368) (hT : T.length < 1152921504606846976) :
    Calls Try.prog 41 #[(SV.ptr ⟨b, 0, none⟩).val, v.val] w fun e w' => ∃ v' B', e = .returned v'.val ∧ Own 5 1 v' (k + 20) (xs ++ (sha1B T).map SV.u8) B' ∧ HL w w' (B.map (·.1)) B' := by
  obtain ⟨x, hx, htk, rfl⟩ := hd
  refine calls_E [.ptr ⟨b, 0, none⟩, v] Try.func41 rfl Try.ntmps41 rfl ?_
  refine EWp.seqR [0, 1] fun K hK => ?_
  simp only [ev, fx, ↓reduceIte, Nat.reduceEqDiff, Nat.reduceLT, Nat.reduceLeDiff, Nat.reduceAdd, Nat.reduceSub, Nat.reduceMul, Int.reduceLT, Int.reduceLE, Int.reduceToNat, BitVec.reduceOfInt, BitVec.reduceToNat, reduceCtorEq, and_self, decide_true, decide_false, Bool.not_true, Bool.not_false, ne_eq, not_true_eq_false, not_false_eq_true, true_and, and_true]
  repeat (refine And.intro (by omega) ?_)
  refine hK _ _ ?_; clear hK K
  refine EWp.seqR [0, 1, 5] fun K hK => ?_
  simp only [ev, fx, ↓reduceIte, Nat.reduceEqDiff, Nat.reduceLT, Nat.reduceLeDiff, Nat.reduceAdd, Nat.reduceSub, Nat.reduceMul, Int.reduceLT, Int.reduceLE, Int.reduceToNat, BitVec.reduceOfInt, BitVec.reduceToNat, reduceCtorEq, and_self, decide_true, decide_false, Bool.not_true, Bool.not_false, ne_eq, not_true_eq_false, not_false_eq_true, true_and, and_true]
  have hlb := HL.startB hb
  refine SemE.loadA (vs := digC (blocks init1 T) x (T.length % 64) (BitVec.ofNat 64 T.length)) rfl (by rw [digC_length _ _ _ _ hx]; exact agg_73) rfl (by
    have := Rd.blk hlb (k := 0) rfl 0 71
    rwa [List.drop_zero, List.take_of_length_le (by rw [digC_length _ _ _ _ hx]; exact Nat.le_refl _)] at this) ?_
  simp only [ev, fx, ↓reduceIte, Nat.reduceEqDiff, Nat.reduceLT, Nat.reduceLeDiff, Nat.reduceAdd, Nat.reduceSub, Nat.reduceMul, Int.reduceLT, Int.reduceLE, Int.reduceToNat, BitVec.reduceOfInt, BitVec.reduceToNat, reduceCtorEq, and_self, decide_true, decide_false, Bool.not_true, Bool.not_false, ne_eq, not_true_eq_false, not_false_eq_true, true_and, and_true]
  refine SemE.alloc hB zero_73 rfl fun g w1 hg hl => ?_
  have hl := hl.perm (List.perm_append_singleton _ _)
  simp only [ev, fx, ↓reduceIte, Nat.reduceEqDiff, Nat.reduceLT, Nat.reduceLeDiff, Nat.reduceAdd, Nat.reduceSub, Nat.reduceMul, Int.reduceLT, Int.reduceLE, Int.reduceToNat, BitVec.reduceOfInt, BitVec.reduceToNat, reduceCtorEq, and_self, decide_true, decide_false, Bool.not_true, Bool.not_false, ne_eq, not_true_eq_false, not_false_eq_true, true_and, and_true]
  refine SemE.storeA (vs := digC (blocks init1 T) x (T.length % 64) (BitVec.ofNat 64 T.length)) hl 0 rfl rfl (by rw [digC_length _ _ _ _ hx]; exact agg_73) (digC_one _ _ _ _) rfl (by rw [digC_length _ _ _ _ hx]; simp) fun w2 hl => ?_
  have hspl : ((List.replicate 5 (SV.u32 0) ++ (List.replicate 64 (.u8 0) ++ ([.nat 0] ++ ([.u64 0])))) : List SV).take 0 ++ digC (blocks init1 T) x (T.length % 64) (BitVec.ofNat 64 T.length) ++ ((List.replicate 5 (SV.u32 0) ++ (List.replicate 64 (.u8 0) ++ ([.nat 0] ++ ([.u64 0])))) : List SV).drop (0 + (digC (blocks init1 T) x (T.length % 64) (BitVec.ofNat 64 T.length)).length) = digC (blocks init1 T) x (T.length % 64) (BitVec.ofNat 64 T.length) := by
    rw [List.take_zero, List.nil_append, List.drop_of_length_le (by rw [digC_length _ _ _ _ hx]; simp), List.append_nil]
  rw [hspl, List.set_cons_zero] at hl
  simp only [ev, fx, ↓reduceIte, Nat.reduceEqDiff, Nat.reduceLT, Nat.reduceLeDiff, Nat.reduceAdd, Nat.reduceSub, Nat.reduceMul, Int.reduceLT, Int.reduceLE, Int.reduceToNat, BitVec.reduceOfInt, BitVec.reduceToNat, reduceCtorEq, and_self, decide_true, decide_false, Bool.not_true, Bool.not_false, ne_eq, not_true_eq_false, not_false_eq_true, true_and, and_true]
  repeat (refine And.intro (by omega) ?_)
  refine hK _ _ ?_; clear hK K
  refine EWp.seqR [1, 5, 6] fun K hK => ?_
  simp only [ev, fx, ↓reduceIte, Nat.reduceEqDiff, Nat.reduceLT, Nat.reduceLeDiff, Nat.reduceAdd, Nat.reduceSub, Nat.reduceMul, Int.reduceLT, Int.reduceLE, Int.reduceToNat, BitVec.reduceOfInt, BitVec.reduceToNat, reduceCtorEq, and_self, decide_true, decide_false, Bool.not_true, Bool.not_false, ne_eq, not_true_eq_false, not_false_eq_true, true_and, and_true]
  refine SemE.call fn_48 rfl rfl (checkSum1 g _ x T.length _ (hl.at (k := 0) rfl) hx hT) ?_
  rintro _ w3 ⟨rfl, cs, hl3⟩
  refine ⟨_, rfl, ?_⟩
  have hl := hl.call (k := 0) rfl hl3
  rw [List.set_cons_zero, List.append_nil] at hl
  have hl := hl.tail
  have hsum : blocks (blocks init1 T) (x.take (T.length % 64) ++ padB T.length) = blocks init1 (T ++ padB T.length) := by rw [htk, blocks_more]
  rw [hsum, ← sha1B]
  simp only [ev, fx, ↓reduceIte, Nat.reduceEqDiff, Nat.reduceLT, Nat.reduceLeDiff, Nat.reduceAdd, Nat.reduceSub, Nat.reduceMul, Int.reduceLT, Int.reduceLE, Int.reduceToNat, BitVec.reduceOfInt, BitVec.reduceToNat, reduceCtorEq, and_self, decide_true, decide_false, Bool.not_true, Bool.not_false, ne_eq, not_true_eq_false, not_false_eq_true, true_and, and_true]
  refine SemE.alloc hl zero_55 rfl fun g2 w4 hg2 hl => ?_
  have hl := hl.perm (List.perm_append_singleton _ _)
  simp only [ev, fx, ↓reduceIte, Nat.reduceEqDiff, Nat.reduceLT, Nat.reduceLeDiff, Nat.reduceAdd, Nat.reduceSub, Nat.reduceMul, Int.reduceLT, Int.reduceLE, Int.reduceToNat, BitVec.reduceOfInt, BitVec.reduceToNat, reduceCtorEq, and_self, decide_true, decide_false, Bool.not_true, Bool.not_false, ne_eq, not_true_eq_false, not_false_eq_true, true_and, and_true]
  refine SemE.storeA (vs := (sha1B T).map SV.u8) hl 0 rfl rfl agg_55 (isOneB _) rfl (by rw [List.length_map, sha1B, sumB_len, List.length_replicate]; omega) fun w5 hl => ?_
  rw [List.set_cons_zero, List.take_zero, List.nil_append, List.drop_of_length_le (by rw [List.length_map, sha1B, sumB_len, List.length_replicate]; omega), List.append_nil] at hl
  simp only [ev, fx, ↓reduceIte, Nat.reduceEqDiff, Nat.reduceLT, Nat.reduceLeDiff, Nat.reduceAdd, Nat.reduceSub, Nat.reduceMul, Int.reduceLT, Int.reduceLE, Int.reduceToNat, BitVec.reduceOfInt, BitVec.reduceToNat, reduceCtorEq, and_self, decide_true, decide_false, Bool.not_true, Bool.not_false, ne_eq, not_true_eq_false, not_false_eq_true, true_and, and_true]
  repeat (refine And.intro (by omega) ?_)
  refine hK _ _ ?_; clear hK K
  refine EWp.seqR [4] fun K hK => ?_
  simp only [ev, fx, ↓reduceIte, Nat.reduceEqDiff, Nat.reduceLT, Nat.reduceLeDiff, Nat.reduceAdd, Nat.reduceSub, Nat.reduceMul, Int.reduceLT, Int.reduceLE, Int.reduceToNat, BitVec.reduceOfInt, BitVec.reduceToNat, reduceCtorEq, and_self, decide_true, decide_false, Bool.not_true, Bool.not_false, ne_eq, not_true_eq_false, not_false_eq_true, true_and, and_true]
  have hsl : (sha1B T).length = 20 := by rw [sha1B, sumB_len]
  refine SemE.append (hl.perm (List.perm_append_singleton _ _).symm) ho (a := some ⟨g2, 0, none⟩) (m := 20) (c := 20) (vs := (sha1B T).map SV.u8) slof_23 rfl rfl (by simp [Env.op, Env.get, Addr.add_zero']) (by
    have := Rd.blk hl (k := 0) rfl 0 20
    rwa [List.drop_zero, List.take_of_length_le (by rw [List.length_map, hsl]; omega)] at this) (by rw [List.length_map, hsl]) (fun h => by cases h) (isOneB _) (by omega) rfl fun v' B' w6 ho' hl' _ => ?_
  simp only [ev, fx, ↓reduceIte, Nat.reduceEqDiff, Nat.reduceLT, Nat.reduceLeDiff, Nat.reduceAdd, Nat.reduceSub, Nat.reduceMul, Int.reduceLT, Int.reduceLE, Int.reduceToNat, BitVec.reduceOfInt, BitVec.reduceToNat, reduceCtorEq, and_self, decide_true, decide_false, Bool.not_true, Bool.not_false, ne_eq, not_true_eq_false, not_false_eq_true, true_and, and_true]
  repeat (refine And.intro (by omega) ?_)
  refine hK _ _ ?_; clear hK K
  exact EWp.ret (BodyE.tmp1 rfl rfl ⟨v', B', rfl, ho', hl'.sub (List.sublist_append_left _ _)⟩)
end Go.Proofs.Ytikejalfiaindaa
