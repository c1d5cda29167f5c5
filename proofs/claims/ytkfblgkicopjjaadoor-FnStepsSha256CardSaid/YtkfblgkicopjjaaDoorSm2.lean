/- Sum of SHA-256. -/
import Derived.Test.YtkfblgkicopjjaaDoorDg2
import Derived.Test.YtkfblgkicopjjaaDoorNew2
set_option linter.unusedVariables false
set_option linter.unusedSimpArgs false
namespace Go.Proofs.YtkfblgkicopjjaaDoor
open Go

/-- SHA-256 of a text, as bytes. -/
def hN (sh : Bool) : Nat := bif sh then 28 else 32
def hashB (sh : Bool) (T : List B8) : List B8 := (sumB (blocks (initOf sh) (T ++ padB T.length))).take (hN sh)
theorem hashB_len (sh : Bool) (T : List B8) : (hashB sh T).length = hN sh := by unfold hashB hN; cases sh <;> simp [sumB_len]

theorem digC_one (s : S8) (x : List B8) (nx : Nat) (ln : BitVec 64) (sh : Bool) : ∀ v ∈ digC s x nx ln sh, v.isOne = true := by
  intro v hv
  simp only [digC, dig8, List.mem_cons, List.mem_append, List.mem_map] at hv
  rcases hv with rfl | rfl | rfl | rfl | rfl | rfl | rfl | rfl | ⟨_, _, rfl⟩ | rfl | rfl | rfl | h
  all_goals first | rfl | cases h

set_option maxRecDepth 100000 in
theorem sumD (b : Nat) (T : List B8) (cs : List SV) (sh : Bool) (hd : Dig sh T cs) (v : SV) (k : Nat) (xs : List SV) (B : List Blk) (w : World) (hb : w.heap[b]? = some (.cells (cs.map SV.val).toArray 80 (0, 0)))
    (hko : KO w) (ho : Own 5 1 v k xs B) (hB : HL w w (B.map (·.1)) B) (hbB : b ∉ B.map (·.1)) (hkB : 0 ∉ B.map (·.1)) (hk : k ≤ 34359738368) (hT : T.length < 1152921504606846976) :
    Calls Tryd.prog 40 #[(SV.ptr ⟨b, 0, none⟩).val, v.val] w fun e w' => ∃ v' B', e = .returned v'.val ∧ Own 5 1 v' (k + hN sh) (xs ++ (hashB sh T).map SV.u8) B' ∧ HL w w' (B.map (·.1)) B' := by
  obtain ⟨x, hx, htk, rfl⟩ := hd
  refine calls_E [.ptr ⟨b, 0, none⟩, v] Tryd.func40 rfl Tryd.ntmps40 rfl ?_
  refine EWp.seqR [0, 1] fun K hK => ?_
  simp only [ev, fx, ↓reduceIte, Nat.reduceEqDiff, Nat.reduceLT, Nat.reduceLeDiff, Nat.reduceAdd, Nat.reduceSub, Nat.reduceMul, Int.reduceLT, Int.reduceLE, Int.reduceToNat, BitVec.reduceOfInt, BitVec.reduceToNat, reduceCtorEq, and_self, decide_true, decide_false, Bool.not_true, Bool.not_false, ne_eq, not_true_eq_false, not_false_eq_true, true_and, and_true]
  repeat (refine And.intro (by omega) ?_)
  refine hK _ _ ?_; clear hK K
  refine EWp.seqR [0, 1, 5] fun K hK => ?_
  simp only [ev, fx, ↓reduceIte, Nat.reduceEqDiff, Nat.reduceLT, Nat.reduceLeDiff, Nat.reduceAdd, Nat.reduceSub, Nat.reduceMul, Int.reduceLT, Int.reduceLE, Int.reduceToNat, BitVec.reduceOfInt, BitVec.reduceToNat, reduceCtorEq, and_self, decide_true, decide_false, Bool.not_true, Bool.not_false, ne_eq, not_true_eq_false, not_false_eq_true, true_and, and_true]
  have hlb := HL.startB hb
  refine SemE.loadA (vs := digC (blocks (initOf sh) T) x (T.length % 64) (BitVec.ofNat 64 T.length) sh) rfl (by rw [digC_length _ _ _ _ _ hx]; exact agg_80) rfl (by
    have := Rd.blk hlb (k := 0) rfl 0 75
    rwa [List.drop_zero, List.take_of_length_le (by rw [digC_length _ _ _ _ _ hx]; exact Nat.le_refl _)] at this) ?_
  simp only [ev, fx, ↓reduceIte, Nat.reduceEqDiff, Nat.reduceLT, Nat.reduceLeDiff, Nat.reduceAdd, Nat.reduceSub, Nat.reduceMul, Int.reduceLT, Int.reduceLE, Int.reduceToNat, BitVec.reduceOfInt, BitVec.reduceToNat, reduceCtorEq, and_self, decide_true, decide_false, Bool.not_true, Bool.not_false, ne_eq, not_true_eq_false, not_false_eq_true, true_and, and_true]
  refine SemE.alloc hB zero_80 rfl fun g w1 hg hl => ?_
  have hl := hl.perm (List.perm_append_singleton _ _)
  simp only [ev, fx, ↓reduceIte, Nat.reduceEqDiff, Nat.reduceLT, Nat.reduceLeDiff, Nat.reduceAdd, Nat.reduceSub, Nat.reduceMul, Int.reduceLT, Int.reduceLE, Int.reduceToNat, BitVec.reduceOfInt, BitVec.reduceToNat, reduceCtorEq, and_self, decide_true, decide_false, Bool.not_true, Bool.not_false, ne_eq, not_true_eq_false, not_false_eq_true, true_and, and_true]
  refine SemE.storeA (vs := digC (blocks (initOf sh) T) x (T.length % 64) (BitVec.ofNat 64 T.length) sh) hl 0 rfl rfl (by rw [digC_length _ _ _ _ _ hx]; exact agg_80) (digC_one _ _ _ _ _) rfl (by rw [digC_length _ _ _ _ _ hx]; simp) fun w2 hl => ?_
  have hspl : ((List.replicate 8 (SV.u32 0) ++ (List.replicate 64 (.u8 0) ++ ([.nat 0] ++ ([.u64 0] ++ ([.bool false]))))) : List SV).take 0 ++ digC (blocks (initOf sh) T) x (T.length % 64) (BitVec.ofNat 64 T.length) sh ++ ((List.replicate 8 (SV.u32 0) ++ (List.replicate 64 (.u8 0) ++ ([.nat 0] ++ ([.u64 0] ++ ([.bool false]))))) : List SV).drop (0 + (digC (blocks (initOf sh) T) x (T.length % 64) (BitVec.ofNat 64 T.length) sh).length) = digC (blocks (initOf sh) T) x (T.length % 64) (BitVec.ofNat 64 T.length) sh := by
    rw [List.take_zero, List.nil_append, List.drop_of_length_le (by rw [digC_length _ _ _ _ _ hx]; simp), List.append_nil]
  rw [hspl, List.set_cons_zero] at hl
  simp only [ev, fx, ↓reduceIte, Nat.reduceEqDiff, Nat.reduceLT, Nat.reduceLeDiff, Nat.reduceAdd, Nat.reduceSub, Nat.reduceMul, Int.reduceLT, Int.reduceLE, Int.reduceToNat, BitVec.reduceOfInt, BitVec.reduceToNat, reduceCtorEq, and_self, decide_true, decide_false, Bool.not_true, Bool.not_false, ne_eq, not_true_eq_false, not_false_eq_true, true_and, and_true]
  repeat (refine And.intro (by omega) ?_)
  refine hK _ _ ?_; clear hK K
  refine EWp.seqR [1, 5, 6] fun K hK => ?_
  simp only [ev, fx, ↓reduceIte, Nat.reduceEqDiff, Nat.reduceLT, Nat.reduceLeDiff, Nat.reduceAdd, Nat.reduceSub, Nat.reduceMul, Int.reduceLT, Int.reduceLE, Int.reduceToNat, BitVec.reduceOfInt, BitVec.reduceToNat, reduceCtorEq, and_self, decide_true, decide_false, Bool.not_true, Bool.not_false, ne_eq, not_true_eq_false, not_false_eq_true, true_and, and_true]
  have hgk : 0 ≠ g := by have := hko.lt; omega
  refine SemE.call fn_51 rfl rfl (checkSum2 g _ x T.length sh _ (hl.at (k := 0) rfl) hx (hko.keep (hl.sub (List.nil_sublist _)) (fun hm => hkB hm)) hgk hT) ?_
  rintro _ w3 ⟨rfl, x3, ln3, hx3, hl3⟩
  refine ⟨_, rfl, ?_⟩
  have hl := hl.call (k := 0) rfl hl3
  rw [List.set_cons_zero, List.append_nil] at hl
  have hsum : blocks (blocks (initOf sh) T) (x.take (T.length % 64) ++ padB T.length) = blocks (initOf sh) (T ++ padB T.length) := by rw [htk, blocks_more]
  rw [hsum] at hl ⊢
  have hhb : hashB sh T = (sumB (blocks (initOf sh) (T ++ padB T.length))).take (hN sh) := rfl
  generalize blocks (initOf sh) (T ++ padB T.length) = r at hl hhb ⊢
  have hol : (outL r (outN sh)).length = 32 := by rw [outL_len]; unfold outN; cases sh <;> simp
  simp only [ev, fx, ↓reduceIte, Nat.reduceEqDiff, Nat.reduceLT, Nat.reduceLeDiff, Nat.reduceAdd, Nat.reduceSub, Nat.reduceMul, Int.reduceLT, Int.reduceLE, Int.reduceToNat, BitVec.reduceOfInt, BitVec.reduceToNat, reduceCtorEq, and_self, decide_true, decide_false, Bool.not_true, Bool.not_false, ne_eq, not_true_eq_false, not_false_eq_true, true_and, and_true]
  refine SemE.alloc hl zero_87 rfl fun g2 w4 hg2 hl => ?_
  have hl := hl.perm (List.perm_append_singleton _ _)
  simp only [ev, fx, ↓reduceIte, Nat.reduceEqDiff, Nat.reduceLT, Nat.reduceLeDiff, Nat.reduceAdd, Nat.reduceSub, Nat.reduceMul, Int.reduceLT, Int.reduceLE, Int.reduceToNat, BitVec.reduceOfInt, BitVec.reduceToNat, reduceCtorEq, and_self, decide_true, decide_false, Bool.not_true, Bool.not_false, ne_eq, not_true_eq_false, not_false_eq_true, true_and, and_true]
  refine SemE.storeA (vs := outL r (outN sh)) hl 0 rfl rfl (by rw [hol]; exact agg_87) (outL_one _ _) rfl (by rw [hol, List.length_replicate]; omega) fun w5 hl => ?_
  rw [List.set_cons_zero, List.take_zero, List.nil_append, hol, List.drop_of_length_le (by simp), List.append_nil] at hl
  simp only [ev, fx, ↓reduceIte, Nat.reduceEqDiff, Nat.reduceLT, Nat.reduceLeDiff, Nat.reduceAdd, Nat.reduceSub, Nat.reduceMul, Int.reduceLT, Int.reduceLE, Int.reduceToNat, BitVec.reduceOfInt, BitVec.reduceToNat, reduceCtorEq, and_self, decide_true, decide_false, Bool.not_true, Bool.not_false, ne_eq, not_true_eq_false, not_false_eq_true, true_and, and_true]
  repeat (refine And.intro (by omega) ?_)
  refine hK _ _ ?_; clear hK K
  refine EWp.ifR [1, 6, 12] fun K hK => ?_
  simp only [ev, fx, ↓reduceIte, Nat.reduceEqDiff, Nat.reduceLT, Nat.reduceLeDiff, Nat.reduceAdd, Nat.reduceSub, Nat.reduceMul, Int.reduceLT, Int.reduceLE, Int.reduceToNat, BitVec.reduceOfInt, BitVec.reduceToNat, reduceCtorEq, and_self, decide_true, decide_false, Bool.not_true, Bool.not_false, ne_eq, not_true_eq_false, not_false_eq_true, true_and, and_true]
  refine SemE.loadB hl 1 rfl one_4 rfl rfl (digC_sh_get _ _ _ _ _ hx3) ?_
  simp only [ev, fx, ↓reduceIte, Nat.reduceEqDiff, Nat.reduceLT, Nat.reduceLeDiff, Nat.reduceAdd, Nat.reduceSub, Nat.reduceMul, Int.reduceLT, Int.reduceLE, Int.reduceToNat, BitVec.reduceOfInt, BitVec.reduceToNat, reduceCtorEq, and_self, decide_true, decide_false, Bool.not_true, Bool.not_false, ne_eq, not_true_eq_false, not_false_eq_true, true_and, and_true]
  have hrd := Rd.blk hl (k := 0) rfl 0 32
  rw [List.drop_zero, List.take_of_length_le (by rw [hol]; omega)] at hrd
  have hl := (hl.sub (H' := (g2, 87, outL r (outN sh)) :: B) (by simp)).perm (List.perm_append_singleton _ _).symm
  refine hK _ _ sh rfl (fun h => ?_) (fun h => ?_) <;> clear hK K
  · subst h
    refine EWp.seqR [4] fun K hK => ?_
    simp only [ev, fx, ↓reduceIte, Nat.reduceEqDiff, Nat.reduceLT, Nat.reduceLeDiff, Nat.reduceAdd, Nat.reduceSub, Nat.reduceMul, Int.reduceLT, Int.reduceLE, Int.reduceToNat, BitVec.reduceOfInt, BitVec.reduceToNat, reduceCtorEq, and_self, decide_true, decide_false, Bool.not_true, Bool.not_false, ne_eq, not_true_eq_false, not_false_eq_true, true_and, and_true]
    have hv : (outL r 7).take 28 = ((sumB r).take 28).map SV.u8 := by
      unfold outL
      rw [List.take_append_of_le_length (by simp [sumB_len]), List.take_of_length_le (by simp [sumB_len])]
    refine SemE.append hl ho (a := some ⟨g2, 0, none⟩) (m := 28) (c := 32) (vs := ((sumB r).take 28).map SV.u8) slof_23 rfl rfl (by simp [Env.op, Env.get, Addr.add_zero']) (by rw [← hv]; exact hrd.take 28) (by simp [sumB_len]) (fun h => by cases h) (isOneB _) (by omega) rfl fun v' B' w6 ho' hl' _ => ?_
    simp only [ev, fx, ↓reduceIte, Nat.reduceEqDiff, Nat.reduceLT, Nat.reduceLeDiff, Nat.reduceAdd, Nat.reduceSub, Nat.reduceMul, Int.reduceLT, Int.reduceLE, Int.reduceToNat, BitVec.reduceOfInt, BitVec.reduceToNat, reduceCtorEq, and_self, decide_true, decide_false, Bool.not_true, Bool.not_false, ne_eq, not_true_eq_false, not_false_eq_true, true_and, and_true]
    repeat (refine And.intro (by omega) ?_)
    refine hK _ _ ?_; clear hK K
    exact EWp.retT (BodyE.tmp1 rfl rfl ⟨v', B', rfl, by rw [hhb]; exact ho', hl'.sub (List.sublist_append_left _ _)⟩)
  · subst h
    refine EWp.skipThen ?_
    refine EWp.seqR [4] fun K hK => ?_
    simp only [ev, fx, ↓reduceIte, Nat.reduceEqDiff, Nat.reduceLT, Nat.reduceLeDiff, Nat.reduceAdd, Nat.reduceSub, Nat.reduceMul, Int.reduceLT, Int.reduceLE, Int.reduceToNat, BitVec.reduceOfInt, BitVec.reduceToNat, reduceCtorEq, and_self, decide_true, decide_false, Bool.not_true, Bool.not_false, ne_eq, not_true_eq_false, not_false_eq_true, true_and, and_true]
    have hv : outL r 8 = (sumB r).map SV.u8 := rfl
    refine SemE.append hl ho (a := some ⟨g2, 0, none⟩) (m := 32) (c := 32) (vs := ((sumB r).take 32).map SV.u8) slof_23 rfl rfl (by simp [Env.op, Env.get, Addr.add_zero']) (by rw [List.take_of_length_le (by simp [sumB_len])]; exact hrd) (by simp [sumB_len]) (fun h => by cases h) (isOneB _) (by omega) rfl fun v' B' w6 ho' hl' _ => ?_
    simp only [ev, fx, ↓reduceIte, Nat.reduceEqDiff, Nat.reduceLT, Nat.reduceLeDiff, Nat.reduceAdd, Nat.reduceSub, Nat.reduceMul, Int.reduceLT, Int.reduceLE, Int.reduceToNat, BitVec.reduceOfInt, BitVec.reduceToNat, reduceCtorEq, and_self, decide_true, decide_false, Bool.not_true, Bool.not_false, ne_eq, not_true_eq_false, not_false_eq_true, true_and, and_true]
    repeat (refine And.intro (by omega) ?_)
    refine hK _ _ ?_; clear hK K
    exact EWp.ret (BodyE.tmp1 rfl rfl ⟨v', B', rfl, by rw [hhb]; exact ho', hl'.sub (List.sublist_append_left _ _)⟩)
end Go.Proofs.YtkfblgkicopjjaaDoor
