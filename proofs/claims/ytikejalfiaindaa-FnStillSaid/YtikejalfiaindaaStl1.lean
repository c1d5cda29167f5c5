/- The sum of SHA-1 that is made in the same time. -/
import Derived.Test.YtikejalfiaindaaCt1
import Derived.Test.YtikejalfiaindaaLs1
set_option linter.unusedVariables false
set_option linter.unusedSimpArgs false
namespace Go.Proofs.Ytikejalfiaindaa
open Go

set_option maxRecDepth 100000 in
theorem ctSumD (b : Nat) (T : List B8) (cs : List SV) (hd : Dig T cs) (v : SV) (k : Nat) (xs : List SV) (B : List Blk) (w : World) (hb : w.heap[b]? = some (.cells (cs.map SV.val).toArray 73 (0, 0)))
    (ho : Own 5 1 v k xs B) (hB : HL w w (B.map (·.1)) B) (hbB : b ∉ B.map (·.1)) (hk : k ≤ 34359738368) (hT : T.length < 1152921504606846976) :
    Calls Try.prog 42 #[(SV.ptr ⟨b, 0, none⟩).val, v.val] w fun e w' => ∃ v' B', e = .returned v'.val ∧ Own 5 1 v' (k + 20) (xs ++ (sha1B T).map SV.u8) B' ∧ HL w w' (B.map (·.1)) B' := by
  obtain ⟨x, hx, htk, rfl⟩ := hd
  refine calls_E [.ptr ⟨b, 0, none⟩, v] Try.func42 rfl Try.ntmps42 rfl ?_
  refine EWp.seqR [0, 1] fun K hK => ?_
  simp only [ev, fx, ↓reduceIte, Nat.reduceEqDiff, Nat.reduceLT, Nat.reduceLeDiff, Nat.reduceAdd, Nat.reduceSub, Nat.reduceMul, Int.reduceLT, Int.reduceLE, Int.reduceToNat, BitVec.reduceOfInt, BitVec.reduceToNat, reduceCtorEq, and_self, decide_true, decide_false, Bool.not_true, Bool.not_false, ne_eq, not_true_eq_false, not_false_eq_true, true_and, and_true]
  repeat (refine And.intro (by omega) ?_)
  refine hK _ _ ?_; clear hK K
  refine EWp.seqR [0, 1, 5] fun K hK => ?_
  simp only [ev, fx, ↓reduceIte, Nat.reduceEqDiff, Nat.reduceLT, Nat.reduceLeDiff, Nat.reduceAdd, Nat.reduceSub, Nat.reduceMul, Int.reduceLT, Int.reduceLE, Int.reduceToNat, BitVec.reduceOfInt, BitVec.reduceToNat, reduceCtorEq, and_self, decide_true, decide_false, Bool.not_true, Bool.not_false, ne_eq, not_true_eq_false, not_false_eq_true, true_and, and_true]
  have hlb := HL.startB hb
  refine SemE.loadA (vs := digC (blocks init1 T) x (T.length % 64) (BitVec.ofNat 64 T.length)) rfl (by rw [digC_length _ _ _ _ hx]; exact agg_73) rfl (by
    have := Rd.blk hlb (k := 0) rfl 0 71
    rwa [List.drop_zero, List.take_of_length_le (by rw [digC_length _ _ _ _ hx]; exact Nat.le_refl _)] at this) ?_
  simp only [ev, fx, ↓reduceIte, Nat.reduceEqDiff, Nat.reduceLT, Nat.reduceLeDiff, Nat.reduceAdd, Nat.reduceSub, Nat.reduceMul, Int.reduceLT, Int.reduceLE, Int.reduceToNat, BitVec.reduceOfInt, BitVec.reduceToNat, reduceCtorEq, and_self, decide_true, decide_false, Bool.not_true, Bool.not_false, ne_eq, not_true_eq_false, not_false_eq_true, true_and, and_true]
  refine SemE.alloc hB zero_73 rfl fun g w1 hg hl => ?_
  have hl := hl.perm (List.perm_append_singleton _ _)
  simp only [ev, fx, ↓reduceIte, Nat.reduceEqDiff, Nat.reduceLT, Nat.reduceLeDiff, Nat.reduceAdd, Nat.reduceSub, Nat.reduceMul, Int.reduceLT, Int.reduceLE, Int.reduceToNat, BitVec.reduceOfInt, BitVec.reduceToNat, reduceCtorEq, and_self, decide_true, decide_false, Bool.not_true, Bool.not_false, ne_eq, not_true_eq_false, not_false_eq_true, true_and, and_true]
  refine SemE.storeA (vs := digC (blocks init1 T) x (T.length % 64) (BitVec.ofNat 64 T.length)) hl 0 rfl rfl (by rw [digC_length _ _ _ _ hx]; exact agg_73) (digC_one _ _ _ _) rfl (by rw [digC_length _ _ _ _ hx]; simp) fun w2 hl => ?_
  have hspl : ((List.replicate 5 (SV.u32 0) ++ (List.replicate 64 (.u8 0) ++ ([.nat 0] ++ ([.u64 0])))) : List SV).take 0 ++ digC (blocks init1 T) x (T.length % 64) (BitVec.ofNat 64 T.length) ++ ((List.replicate 5 (SV.u32 0) ++ (List.replicate 64 (.u8 0) ++ ([.nat 0] ++ ([.u64 0])))) : List SV).drop (0 + (digC (blocks init1 T) x (T.length % 64) (BitVec.ofNat 64 T.length)).length) = digC (blocks init1 T) x (T.length % 64) (BitVec.ofNat 64 T.length) := by
    rw [List.take_zero, List.nil_append, List.drop_of_length_le (by rw [digC_length _ _ _ _ hx]; simp), List.append_nil]
  rw [hspl, List.set_cons_zero] at hl
  simp only [ev, fx, ↓reduceIte, Nat.reduceEqDiff, Nat.reduceLT, Nat.reduceLeDiff, Nat.reduceAdd, Nat.reduceSub, Nat.reduceMul, Int.reduceLT, Int.reduceLE, Int.reduceToNat, BitVec.reduceOfInt, BitVec.reduceToNat, reduceCtorEq, and_self, decide_true, decide_false, Bool.not_true, Bool.not_false, ne_eq, not_true_eq_false, not_false_eq_true, true_and, and_true]
  repeat (refine And.intro (by omega) ?_)
  refine hK _ _ ?_; clear hK K
  refine EWp.seqR [1, 5, 6] fun K hK => ?_
  simp only [ev, fx, ↓reduceIte, Nat.reduceEqDiff, Nat.reduceLT, Nat.reduceLeDiff, Nat.reduceAdd, Nat.reduceSub, Nat.reduceMul, Int.reduceLT, Int.reduceLE, Int.reduceToNat, BitVec.reduceOfInt, BitVec.reduceToNat, reduceCtorEq, and_self, decide_true, decide_false, Bool.not_true, Bool.not_false, ne_eq, not_true_eq_false, not_false_eq_true, true_and, and_true]
  refine SemE.call fn_51 rfl rfl (constSum1 g _ x T.length _ (hl.at (k := 0) rfl) hx hT) ?_
  rintro _ w3 ⟨rfl, cs, hl3⟩
  refine ⟨_, rfl, ?_⟩
  have hl := hl.call (k := 0) rfl hl3
  rw [List.set_cons_zero, List.append_nil] at hl
  have hl := hl.tail
  have hsum : blocks (blocks init1 T) (x.take (T.length % 64) ++ padB T.length) = blocks init1 (T ++ padB T.length) := by rw [htk, blocks_more]
  rw [hsum, ← sha1B]
  simp only [ev, fx, ↓reduceIte, Nat.reduceEqDiff, Nat.reduceLT, Nat.reduceLeDiff, Nat.reduceAdd, Nat.reduceSub, Nat.reduceMul, Int.reduceLT, Int.reduceLE, Int.reduceToNat, BitVec.reduceOfInt, BitVec.reduceToNat, reduceCtorEq, and_self, decide_true, decide_false, Bool.not_true, Bool.not_false, ne_eq, not_true_eq_false, not_false_eq_true, true_and, and_true]
  refine SemE.alloc hl zero_55 rfl fun g2 w4 hg2 hl => ?_
  have hl := hl.perm (List.perm_append_singleton _ _)
  simp only [ev, fx, ↓reduceIte, Nat.reduceEqDiff, Nat.reduceLT, Nat.reduceLeDiff, Nat.reduceAdd, Nat.reduceSub, Nat.reduceMul, Int.reduceLT, Int.reduceLE, Int.reduceToNat, BitVec.reduceOfInt, BitVec.reduceToNat, reduceCtorEq, and_self, decide_true, decide_false, Bool.not_true, Bool.not_false, ne_eq, not_true_eq_false, not_false_eq_true, true_and, and_true]
  refine SemE.storeA (vs := (sha1B T).map SV.u8) hl 0 rfl rfl agg_55 (isOneB _) rfl (by rw [List.length_map, sha1B, sumB_len, List.length_replicate]; omega) fun w5 hl => ?_
  rw [List.set_cons_zero, List.take_zero, List.nil_append, List.drop_of_length_le (by rw [List.length_map, sha1B, sumB_len, List.length_replicate]; omega), List.append_nil] at hl
  simp only [ev, fx, ↓reduceIte, Nat.reduceEqDiff, Nat.reduceLT, Nat.reduceLeDiff, Nat.reduceAdd, Nat.reduceSub, Nat.reduceMul, Int.reduceLT, Int.reduceLE, Int.reduceToNat, BitVec.reduceOfInt, BitVec.reduceToNat, reduceCtorEq, and_self, decide_true, decide_false, Bool.not_true, Bool.not_false, ne_eq, not_true_eq_false, not_false_eq_true, true_and, and_true]
  repeat (refine And.intro (by omega) ?_)
  refine hK _ _ ?_; clear hK K
  refine EWp.seqR [4] fun K hK => ?_
  simp only [ev, fx, ↓reduceIte, Nat.reduceEqDiff, Nat.reduceLT, Nat.reduceLeDiff, Nat.reduceAdd, Nat.reduceSub, Nat.reduceMul, Int.reduceLT, Int.reduceLE, Int.reduceToNat, BitVec.reduceOfInt, BitVec.reduceToNat, reduceCtorEq, and_self, decide_true, decide_false, Bool.not_true, Bool.not_false, ne_eq, not_true_eq_false, not_false_eq_true, true_and, and_true]
  have hsl : (sha1B T).length = 20 := by rw [sha1B, sumB_len]
  refine SemE.append (hl.perm (List.perm_append_singleton _ _).symm) ho (a := some ⟨g2, 0, none⟩) (m := 20) (c := 20) (vs := (sha1B T).map SV.u8) slof_23 rfl rfl (by simp [Env.op, Env.get, Addr.add_zero']) (by
    have := Rd.blk hl (k := 0) rfl 0 20
    rwa [List.drop_zero, List.take_of_length_le (by rw [List.length_map, hsl]; omega)] at this) (by rw [List.length_map, hsl]) (fun h => by cases h) (isOneB _) (by omega) rfl fun v' B' w6 ho' hl' _ => ?_
  simp only [ev, fx, ↓reduceIte, Nat.reduceEqDiff, Nat.reduceLT, Nat.reduceLeDiff, Nat.reduceAdd, Nat.reduceSub, Nat.reduceMul, Int.reduceLT, Int.reduceLE, Int.reduceToNat, BitVec.reduceOfInt, BitVec.reduceToNat, reduceCtorEq, and_self, decide_true, decide_false, Bool.not_true, Bool.not_false, ne_eq, not_true_eq_false, not_false_eq_true, true_and, and_true]
  repeat (refine And.intro (by omega) ?_)
  refine hK _ _ ?_; clear hK K
  exact EWp.ret (BodyE.tmp1 rfl rfl ⟨v', B', rfl, ho', hl'.sub (List.sublist_append_left _ _)⟩)

set_option maxRecDepth 100000 in
theorem stillC (v : SV) (tt : List (List B8)) (vf : SV) (fr : List B8) (w : World) (ht : Txs w v tt) (hf : tt.length ≤ 100 ∧ (cat tt).length ≤ 5000) (htf : Txt w vf fr) (hfr : fr.length ≤ 1000) :
    Calls Try.prog 27 #[v.val, vf.val] w fun e w' => ∃ v', e = .returned v'.val ∧ Txt w' v' (fr ++ sha1B (cat tt)) ∧ Grow w w' := by
  obtain ⟨a, c, rfl, hc, ha, hr⟩ := ht
  generalize hn : tt.length = n at *
  obtain ⟨af, cf, rfl, hcf, haf, hrf⟩ := htf
  refine calls_E [.sl a n c, .sl af fr.length cf] Try.func27 rfl Try.ntmps27 rfl ?_
  refine EWp.seqR [0, 1] fun K hK => ?_
  simp only [ev, fx, ↓reduceIte, Nat.reduceEqDiff, Nat.reduceLT, Nat.reduceLeDiff, Nat.reduceAdd, Nat.reduceSub, Nat.reduceMul, Int.reduceLT, Int.reduceLE, Int.reduceToNat, BitVec.reduceOfInt, BitVec.reduceToNat, reduceCtorEq, and_self, decide_true, decide_false, Bool.not_true, Bool.not_false, ne_eq, not_true_eq_false, not_false_eq_true, true_and, and_true]
  repeat (refine And.intro (by omega) ?_)
  refine hK _ _ ?_; clear hK K
  refine EWp.seqR [4] fun K hK => ?_
  simp only [ev, fx, ↓reduceIte, Nat.reduceEqDiff, Nat.reduceLT, Nat.reduceLeDiff, Nat.reduceAdd, Nat.reduceSub, Nat.reduceMul, Int.reduceLT, Int.reduceLE, Int.reduceToNat, BitVec.reduceOfInt, BitVec.reduceToNat, reduceCtorEq, and_self, decide_true, decide_false, Bool.not_true, Bool.not_false, ne_eq, not_true_eq_false, not_false_eq_true, true_and, and_true]
  refine SemE.call fn_38 rfl rfl (fed1 a n c tt _ hr hn hf.1 hf.2) ?_
  rintro _ w1 ⟨b, cs, hb, rfl, hd, hl⟩
  refine ⟨_, rfl, ?_⟩
  simp only [ev, fx, ↓reduceIte, Nat.reduceEqDiff, Nat.reduceLT, Nat.reduceLeDiff, Nat.reduceAdd, Nat.reduceSub, Nat.reduceMul, Int.reduceLT, Int.reduceLE, Int.reduceToNat, BitVec.reduceOfInt, BitVec.reduceToNat, reduceCtorEq, and_self, decide_true, decide_false, Bool.not_true, Bool.not_false, ne_eq, not_true_eq_false, not_false_eq_true, true_and, and_true]
  refine SemE.call fn_35 rfl rfl (copiedC af fr.length cf (fr.map SV.u8) _ (hrf.grow hl.toGrow) (by simp) haf (isOneB fr) (by omega)) ?_
  rintro _ w2 ⟨v2, B2, rfl, ho2, hl2⟩
  refine ⟨_, rfl, ?_⟩
  have hlm := hl.more hl2
  have hnd := hlm.nd
  rw [List.map_append, List.nodup_append] at hnd
  have hbB : b ∉ B2.map (·.1) := fun hm => hnd.2.2 b (by simp) b hm rfl
  simp only [ev, fx, ↓reduceIte, Nat.reduceEqDiff, Nat.reduceLT, Nat.reduceLeDiff, Nat.reduceAdd, Nat.reduceSub, Nat.reduceMul, Int.reduceLT, Int.reduceLE, Int.reduceToNat, BitVec.reduceOfInt, BitVec.reduceToNat, reduceCtorEq, and_self, decide_true, decide_false, Bool.not_true, Bool.not_false, ne_eq, not_true_eq_false, not_false_eq_true, true_and, and_true]
  refine SemE.call fn_42 rfl rfl (ctSumD b (cat tt) cs hd v2 fr.length _ B2 _ (hlm.at (k := 0) rfl) ho2 (HL.own (H := []) (by rw [List.append_nil]; exact hl2)) hbB (by omega) (by omega)) ?_
  rintro _ w3 ⟨v3, B3, rfl, ho3, hl3⟩
  refine ⟨_, rfl, ?_⟩
  rw [← List.map_append] at ho3
  have hl3' := HL.callB (H := []) (by rw [List.append_nil]; exact hl2) hl3
  have hlen : fr.length + 20 = (fr ++ sha1B (cat tt)).length := by rw [List.length_append, sha1B_len]
  rw [hlen] at ho3
  have ht3 := ho3.txt hl3'
  have hg := hl.toGrow.trans (HL.toGrow (H := B3) (by rw [List.append_nil] at hl3'; exact hl3'))
  simp only [ev, fx, ↓reduceIte, Nat.reduceEqDiff, Nat.reduceLT, Nat.reduceLeDiff, Nat.reduceAdd, Nat.reduceSub, Nat.reduceMul, Int.reduceLT, Int.reduceLE, Int.reduceToNat, BitVec.reduceOfInt, BitVec.reduceToNat, reduceCtorEq, and_self, decide_true, decide_false, Bool.not_true, Bool.not_false, ne_eq, not_true_eq_false, not_false_eq_true, true_and, and_true]
  repeat (refine And.intro (by omega) ?_)
  refine hK _ _ ?_; clear hK K
  exact EWp.ret (BodyE.tmp1 rfl rfl ⟨v3, rfl, ht3, hg⟩)

set_option maxRecDepth 100000 in
theorem lawStill1 (v : SV) (tt : List (List B8)) (vf : SV) (fr : List B8) (w : World) (ht : Txs w v tt) (htf : Txt w vf fr) :
    Calls Try.prog 9 #[v.val, vf.val] w fun e w' => e = .returned (SV.bool true).val ∧ Grow w w' := by
  obtain ⟨af, cf, rfl, hcf, haf, hrf⟩ := htf
  have htf : Txt w (.sl af _ cf) fr := Txt.mk hrf rfl hcf haf
  generalize hn : fr.length = n at *
  refine calls_E [v, .sl af n cf] Try.func9 rfl Try.ntmps9 rfl ?_
  refine EWp.seqR [0, 1] fun K hK => ?_
  simp only [ev, fx, ↓reduceIte, Nat.reduceEqDiff, Nat.reduceLT, Nat.reduceLeDiff, Nat.reduceAdd, Nat.reduceSub, Nat.reduceMul, Int.reduceLT, Int.reduceLE, Int.reduceToNat, BitVec.reduceOfInt, BitVec.reduceToNat, reduceCtorEq, and_self, decide_true, decide_false, Bool.not_true, Bool.not_false, ne_eq, not_true_eq_false, not_false_eq_true, true_and, and_true]
  repeat (refine And.intro (by omega) ?_)
  refine hK _ _ ?_; clear hK K
  refine EWp.ifR [0, 1, 12] fun K hK => ?_
  simp only [ev, fx, ↓reduceIte, Nat.reduceEqDiff, Nat.reduceLT, Nat.reduceLeDiff, Nat.reduceAdd, Nat.reduceSub, Nat.reduceMul, Int.reduceLT, Int.reduceLE, Int.reduceToNat, BitVec.reduceOfInt, BitVec.reduceToNat, reduceCtorEq, and_self, decide_true, decide_false, Bool.not_true, Bool.not_false, ne_eq, not_true_eq_false, not_false_eq_true, true_and, and_true]
  refine SemE.call fn_21 rfl rfl (fitsT _ tt _ ht) ?_
  rintro _ _ ⟨bf, rfl, hw⟩
  rw [hw]; clear hw
  refine ⟨_, rfl, ?_⟩
  cases bf
  · simp only [ev, fx, ↓reduceIte, Nat.reduceEqDiff, Nat.reduceLT, Nat.reduceLeDiff, Nat.reduceAdd, Nat.reduceSub, Nat.reduceMul, Int.reduceLT, Int.reduceLE, Int.reduceToNat, BitVec.reduceOfInt, BitVec.reduceToNat, reduceCtorEq, and_self, decide_true, decide_false, Bool.not_true, Bool.not_false, ne_eq, not_true_eq_false, not_false_eq_true, true_and, and_true]
    refine hK _ _ true rfl (fun _ => ?_) (fun h => by cases h); clear hK K
    refine EWp.seqR [4] fun K hK => ?_
    simp only [ev, fx, ↓reduceIte, Nat.reduceEqDiff, Nat.reduceLT, Nat.reduceLeDiff, Nat.reduceAdd, Nat.reduceSub, Nat.reduceMul, Int.reduceLT, Int.reduceLE, Int.reduceToNat, BitVec.reduceOfInt, BitVec.reduceToNat, reduceCtorEq, and_self, decide_true, decide_false, Bool.not_true, Bool.not_false, ne_eq, not_true_eq_false, not_false_eq_true, true_and, and_true]
    repeat (refine And.intro (by omega) ?_)
    refine hK _ _ ?_; clear hK K
    exact EWp.retT (BodyE.tmp1 rfl rfl ⟨rfl, Grow.refl _⟩)
  by_cases h1 : 2147483647 < n
  · simp only [ev, fx, ↓reduceIte, Nat.reduceEqDiff, Nat.reduceLT, Nat.reduceLeDiff, Nat.reduceAdd, Nat.reduceSub, Nat.reduceMul, Int.reduceLT, Int.reduceLE, Int.reduceToNat, BitVec.reduceOfInt, BitVec.reduceToNat, reduceCtorEq, and_self, decide_true, decide_false, Bool.not_true, Bool.not_false, ne_eq, not_true_eq_false, not_false_eq_true, true_and, and_true, h1]
    refine hK _ _ true rfl (fun _ => ?_) (fun h => by cases h); clear hK K
    refine EWp.seqR [4] fun K hK => ?_
    simp only [ev, fx, ↓reduceIte, Nat.reduceEqDiff, Nat.reduceLT, Nat.reduceLeDiff, Nat.reduceAdd, Nat.reduceSub, Nat.reduceMul, Int.reduceLT, Int.reduceLE, Int.reduceToNat, BitVec.reduceOfInt, BitVec.reduceToNat, reduceCtorEq, and_self, decide_true, decide_false, Bool.not_true, Bool.not_false, ne_eq, not_true_eq_false, not_false_eq_true, true_and, and_true]
    repeat (refine And.intro (by omega) ?_)
    refine hK _ _ ?_; clear hK K
    exact EWp.retT (BodyE.tmp1 rfl rfl ⟨rfl, Grow.refl _⟩)
  simp only [ev, fx, ↓reduceIte, Nat.reduceEqDiff, Nat.reduceLT, Nat.reduceLeDiff, Nat.reduceAdd, Nat.reduceSub, Nat.reduceMul, Int.reduceLT, Int.reduceLE, Int.reduceToNat, BitVec.reduceOfInt, BitVec.reduceToNat, reduceCtorEq, and_self, decide_true, decide_false, Bool.not_true, Bool.not_false, ne_eq, not_true_eq_false, not_false_eq_true, true_and, and_true, h1]
  refine hK _ _ false rfl (fun h => by cases h) (fun _ => ?_); clear hK K
  refine EWp.skipThen ?_
  clear h1
  refine EWp.seqO (fun _ => false) [(0, 0), (1, 2), (2, 0), (3, 0), (4, 0), (5, 0), (6, 1), (7, 0), (8, 0), (9, 0), (10, 0), (13, 0), (14, 1), (15, 0), (11, 2), (12, 1), (16, 2), (17, 2), (18, 1), (19, 1), (20, 1), (21, 0), (22, 0)] [4] mixed (by kernel_rfl) fun K hK => ?_
  have hg := drewG w
  simp only [ev, fx, ↓reduceIte, Nat.reduceEqDiff, Nat.reduceLT, Nat.reduceLeDiff, Nat.reduceAdd, Nat.reduceSub, Nat.reduceMul, Int.reduceLT, Int.reduceLE, Int.reduceToNat, BitVec.reduceOfInt, BitVec.reduceToNat, reduceCtorEq, and_self, decide_true, decide_false, Bool.not_true, Bool.not_false, ne_eq, not_true_eq_false, not_false_eq_true, true_and, and_true]
  refine SemE.call fn_22 rfl rfl (fewT _ tt _ (ht.grow hg)) ?_
  rintro _ _ ⟨rfl, rfl⟩
  refine ⟨_, rfl, fun _ => Grow.refl _, ?_⟩
  cases hf : fewB tt
  case false =>
    simp only [ev, fx, ↓reduceIte, Nat.reduceEqDiff, Nat.reduceLT, Nat.reduceLeDiff, Nat.reduceAdd, Nat.reduceSub, Nat.reduceMul, Int.reduceLT, Int.reduceLE, Int.reduceToNat, BitVec.reduceOfInt, BitVec.reduceToNat, reduceCtorEq, and_self, decide_true, decide_false, Bool.not_true, Bool.not_false, ne_eq, not_true_eq_false, not_false_eq_true, true_and, and_true]
    repeat (refine And.intro (by omega) ?_)
    refine hK _ _ ?_; clear hK K
    exact EWp.ret (BodyE.tmp1 rfl rfl ⟨rfl, hg⟩)
  have hf2 := of_decide_eq_true hf
  by_cases h2 : 1000 < n
  · simp only [ev, fx, ↓reduceIte, Nat.reduceEqDiff, Nat.reduceLT, Nat.reduceLeDiff, Nat.reduceAdd, Nat.reduceSub, Nat.reduceMul, Int.reduceLT, Int.reduceLE, Int.reduceToNat, BitVec.reduceOfInt, BitVec.reduceToNat, reduceCtorEq, and_self, decide_true, decide_false, Bool.not_true, Bool.not_false, ne_eq, not_true_eq_false, not_false_eq_true, true_and, and_true, h2]
    repeat (refine And.intro (by omega) ?_)
    refine hK _ _ ?_; clear hK K
    exact EWp.ret (BodyE.tmp1 rfl rfl ⟨rfl, hg⟩)
  simp only [ev, fx, ↓reduceIte, Nat.reduceEqDiff, Nat.reduceLT, Nat.reduceLeDiff, Nat.reduceAdd, Nat.reduceSub, Nat.reduceMul, Int.reduceLT, Int.reduceLE, Int.reduceToNat, BitVec.reduceOfInt, BitVec.reduceToNat, reduceCtorEq, and_self, decide_true, decide_false, Bool.not_true, Bool.not_false, ne_eq, not_true_eq_false, not_false_eq_true, true_and, and_true, h2]
  refine StopR.mk (SV.str (fr)) (Quiet.toStrT tostr_23_9 rfl (htf.grow hg)) rfl ?_
  simp only [ev, fx, ↓reduceIte, Nat.reduceEqDiff, Nat.reduceLT, Nat.reduceLeDiff, Nat.reduceAdd, Nat.reduceSub, Nat.reduceMul, Int.reduceLT, Int.reduceLE, Int.reduceToNat, BitVec.reduceOfInt, BitVec.reduceToNat, reduceCtorEq, and_self, decide_true, decide_false, Bool.not_true, Bool.not_false, ne_eq, not_true_eq_false, not_false_eq_true, true_and, and_true]
  refine SemE.call fn_27 rfl rfl (stillC v tt (.sl af n cf) fr _ (ht.grow hg) hf2 (htf.grow hg) (by omega)) ?_
  rintro _ w2 ⟨v2, rfl, hh2, hg2⟩
  refine ⟨_, rfl, fun _ => hg2, ?_⟩
  have hg := hg.trans hg2
  obtain ⟨a2, c2, rfl, hc2, ha2, hr2⟩ := hh2
  have hh2 : Txt w2 (.sl a2 _ c2) (fr ++ sha1B (cat tt)) := Txt.mk hr2 rfl hc2 ha2
  simp only [ev, fx, ↓reduceIte, Nat.reduceEqDiff, Nat.reduceLT, Nat.reduceLeDiff, Nat.reduceAdd, Nat.reduceSub, Nat.reduceMul, Int.reduceLT, Int.reduceLE, Int.reduceToNat, BitVec.reduceOfInt, BitVec.reduceToNat, reduceCtorEq, and_self, decide_true, decide_false, Bool.not_true, Bool.not_false, ne_eq, not_true_eq_false, not_false_eq_true, true_and, and_true]
  refine StopR.mk (SV.str (fr ++ sha1B (cat tt))) (Quiet.toStrT tostr_23_9 rfl (hh2)) rfl ?_
  simp only [ev, fx, ↓reduceIte, Nat.reduceEqDiff, Nat.reduceLT, Nat.reduceLeDiff, Nat.reduceAdd, Nat.reduceSub, Nat.reduceMul, Int.reduceLT, Int.reduceLE, Int.reduceToNat, BitVec.reduceOfInt, BitVec.reduceToNat, reduceCtorEq, and_self, decide_true, decide_false, Bool.not_true, Bool.not_false, ne_eq, not_true_eq_false, not_false_eq_true, true_and, and_true]
  refine SemE.call fn_26 rfl rfl (joinedT _ tt _ (ht.grow hg) hf2) ?_
  rintro _ w3 ⟨v3, rfl, hh3, hg3⟩
  refine ⟨_, rfl, fun _ => hg3, ?_⟩
  have hg := hg.trans hg3
  simp only [ev, fx, ↓reduceIte, Nat.reduceEqDiff, Nat.reduceLT, Nat.reduceLeDiff, Nat.reduceAdd, Nat.reduceSub, Nat.reduceMul, Int.reduceLT, Int.reduceLE, Int.reduceToNat, BitVec.reduceOfInt, BitVec.reduceToNat, reduceCtorEq, and_self, decide_true, decide_false, Bool.not_true, Bool.not_false, ne_eq, not_true_eq_false, not_false_eq_true, true_and, and_true]
  refine SemE.call fn_20 rfl rfl (specSha1T _ _ _ hh3 (by omega)) ?_
  rintro _ w4 ⟨v4, rfl, hh4, hg4⟩
  refine ⟨_, rfl, fun _ => hg4, ?_⟩
  have hg := hg.trans hg4
  simp only [ev, fx, ↓reduceIte, Nat.reduceEqDiff, Nat.reduceLT, Nat.reduceLeDiff, Nat.reduceAdd, Nat.reduceSub, Nat.reduceMul, Int.reduceLT, Int.reduceLE, Int.reduceToNat, BitVec.reduceOfInt, BitVec.reduceToNat, reduceCtorEq, and_self, decide_true, decide_false, Bool.not_true, Bool.not_false, ne_eq, not_true_eq_false, not_false_eq_true, true_and, and_true]
  refine StopR.mk (SV.str (sha1B (cat tt))) (Quiet.toStrT tostr_23_9 rfl (hh4)) rfl ?_
  simp only [ev, fx, ↓reduceIte, Nat.reduceEqDiff, Nat.reduceLT, Nat.reduceLeDiff, Nat.reduceAdd, Nat.reduceSub, Nat.reduceMul, Int.reduceLT, Int.reduceLE, Int.reduceToNat, BitVec.reduceOfInt, BitVec.reduceToNat, reduceCtorEq, and_self, decide_true, decide_false, Bool.not_true, Bool.not_false, ne_eq, not_true_eq_false, not_false_eq_true, true_and, and_true]
  refine StopR.mk _ (Quiet.plain (Plain.addStr (xs := fr) (ys := sha1B (cat tt)) rfl rfl (by rw [sha1B_len]; omega))) rfl ?_
  simp only [ev, fx, ↓reduceIte, Nat.reduceEqDiff, Nat.reduceLT, Nat.reduceLeDiff, Nat.reduceAdd, Nat.reduceSub, Nat.reduceMul, Int.reduceLT, Int.reduceLE, Int.reduceToNat, BitVec.reduceOfInt, BitVec.reduceToNat, reduceCtorEq, and_self, decide_true, decide_false, Bool.not_true, Bool.not_false, ne_eq, not_true_eq_false, not_false_eq_true, true_and, and_true]
  refine StopR.mk (.bool (decide (fr ++ sha1B (cat tt) = fr ++ sha1B (cat tt)))) (Quiet.plain (Plain.eqlStr rfl rfl)) rfl ?_
  have e1 : decide (fr ++ sha1B (cat tt) = fr ++ sha1B (cat tt)) = true := by simp
  simp only [ev, fx, ↓reduceIte, Nat.reduceEqDiff, Nat.reduceLT, Nat.reduceLeDiff, Nat.reduceAdd, Nat.reduceSub, Nat.reduceMul, Int.reduceLT, Int.reduceLE, Int.reduceToNat, BitVec.reduceOfInt, BitVec.reduceToNat, reduceCtorEq, and_self, decide_true, decide_false, Bool.not_true, Bool.not_false, ne_eq, not_true_eq_false, not_false_eq_true, true_and, and_true, e1]
  repeat (refine And.intro (by omega) ?_)
  refine hK _ _ ?_; clear hK K
  exact EWp.ret (BodyE.tmp1 rfl rfl ⟨rfl, hg⟩)
end Go.Proofs.Ytikejalfiaindaa
