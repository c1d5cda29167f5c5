/- The law on the state of SHA-512 behind pieces. -/
import Derived.Test.YtggbaffkjfofhaaDoorLawB3
import Derived.Test.YtggbaffkjfofhaaDoorLs3
import Derived.Test.YtggbaffkjfofhaaDoorMem6
import Derived.Test.YtggbaffkjfofhaaDoorMem7
set_option linter.unusedVariables false
set_option linter.unusedSimpArgs false
namespace Go.Proofs.YtggbaffkjfofhaaDoor
open Go

theorem digC_st_take (s : S8) (x : List B8) (nx : Nat) (ln : BitVec 64) (ki : Kd) : (digC s x nx ln ki).take 8 = eight s := by simp [digC, dig8, eight]

set_option maxRecDepth 100000 in
/-- What a digest tells of its state. -/
theorem zzState (b : Nat) (T : List B8) (cs : List SV) (ki : Kd) (hd : Dig ki T cs) (w : World) (hb : w.heap[b]? = some (.cells (cs.map SV.val).toArray 76 (0, 0))) (hT : T.length < 1000000) :
    Calls Tryd.prog 36 #[(SV.ptr ⟨b, 0, none⟩).val] w fun e w' => ∃ v B, e = .returned (SV.tup3 (SV.agg (eight (blocks (initOf ki) T))) v (.u64 (BitVec.ofNat 64 T.length))).val ∧
      Own 5 1 v (T.length % 128) ((T.drop (128 * (T.length / 128))).map SV.u8) B ∧ HL w w' [] B := by
  obtain ⟨x, hx, htk, rfl⟩ := hd
  refine calls_E [.ptr ⟨b, 0, none⟩] Tryd.func36 rfl Tryd.ntmps36 rfl ?_
  refine EWp.seqR [0, 2] fun K hK => ?_
  simp only [ev, fx, ↓reduceIte, Nat.reduceEqDiff, Nat.reduceLT, Nat.reduceLeDiff, Nat.reduceAdd, Nat.reduceSub, Nat.reduceMul, Int.reduceLT, Int.reduceLE, Int.reduceToNat, BitVec.reduceOfInt, BitVec.reduceToNat, reduceCtorEq, and_self, decide_true, decide_false, Bool.not_true, Bool.not_false, ne_eq, not_true_eq_false, not_false_eq_true, true_and, and_true]
  refine SemE.alloc (HL.start w) zero_55 rfl fun g w1 hg hl => ?_
  simp only [ev, fx, ↓reduceIte, Nat.reduceEqDiff, Nat.reduceLT, Nat.reduceLeDiff, Nat.reduceAdd, Nat.reduceSub, Nat.reduceMul, Int.reduceLT, Int.reduceLE, Int.reduceToNat, BitVec.reduceOfInt, BitVec.reduceToNat, reduceCtorEq, and_self, decide_true, decide_false, Bool.not_true, Bool.not_false, ne_eq, not_true_eq_false, not_false_eq_true, true_and, and_true]
  repeat (refine And.intro (by omega) ?_)
  refine hK _ _ ?_; clear hK K
  have hlt : T.length % 128 < 128 := Nat.mod_lt _ (by omega)
  generalize hm : T.length % 128 = m at *
  have hxl : (digC (blocks (initOf ki) T) x m (BitVec.ofNat 64 T.length) ki).length = 139 := digC_length _ _ _ _ _ hx
  have hbg : ∀ {w' : World}, Grow w w' → w'.heap[b]? = some (.cells ((digC (blocks (initOf ki) T) x m (BitVec.ofNat 64 T.length) ki).map SV.val).toArray 76 (0, 0)) := fun hg => (hg.block b (Array.getElem?_eq_some_iff.1 hb).1).trans hb
  refine EWp.seqT (fun i => Nat.beq i 17) (.cat [(0, 0), (1, 0), (2, 0), (3, 1), (4, 0), (5, 0), (6, 0), (7, 0), (8, 0), (9, 0), (10, 1), (11, 0), (13, 0), (14, 0), (15, 0)]
      (.two 12 (.two 16 (.cat [(17, 2), (18, 0), (19, 0)] .done) 17 (.cat [(18, 0), (16, 2), (19, 0)] .done)) 16 (.cat [(12, 2), (17, 2), (18, 0), (19, 0)] .done)))
    (fun S' w' => ∃ v B, S'.get 2 = some (.ptr ⟨g, 0, none⟩) ∧ S'.get 3 = some v ∧ S'.get 4 = some (.u64 (BitVec.ofNat 64 T.length)) ∧ Own 5 1 v m ((T.drop (128 * (T.length / 128))).map SV.u8) B ∧ HL w w' [] ((g, 55, eight (blocks (initOf ki) T)) :: B)) mixed (by kernel_rfl) ?_ ?_
  case refine_2 =>
    rintro S' w' ⟨v, B, h2, h3, h4, ho, hl⟩
    exact EWp.ret (bodyCellA2 rfl h2 h3 h4 (cs := eight (blocks (initOf ki) T)) agg_55 (hl.at (k := 0) rfl) ⟨v, B, rfl, ho, hl.tail⟩)
  have hl := hl.drew
  have hb1 := hbg hl.toGrow
  simp only [ev, fx, ↓reduceIte, Nat.reduceEqDiff, Nat.reduceLT, Nat.reduceLeDiff, Nat.reduceAdd, Nat.reduceSub, Nat.reduceMul, Int.reduceLT, Int.reduceLE, Int.reduceToNat, BitVec.reduceOfInt, BitVec.reduceToNat, reduceCtorEq, and_self, decide_true, decide_false, Bool.not_true, Bool.not_false, ne_eq, not_true_eq_false, not_false_eq_true, true_and, and_true, evT, sl0, Option.map_some]
  refine StopR.mk (SV.agg (eight (blocks (initOf ki) T))) (Quiet.loadA rfl agg_55 (by
    have := Rd.blk (HL.startB hb1) (k := 0) rfl 0 8
    rwa [List.drop_zero, digC_st_take] at this)) rfl ?_
  simp only [ev, fx, ↓reduceIte, Nat.reduceEqDiff, Nat.reduceLT, Nat.reduceLeDiff, Nat.reduceAdd, Nat.reduceSub, Nat.reduceMul, Int.reduceLT, Int.reduceLE, Int.reduceToNat, BitVec.reduceOfInt, BitVec.reduceToNat, reduceCtorEq, and_self, decide_true, decide_false, Bool.not_true, Bool.not_false, ne_eq, not_true_eq_false, not_false_eq_true, true_and, and_true, evT, sl0, Option.map_some]
  refine StopR.loadB (HL.startB hb1) 0 rfl one_3 rfl rfl (digC_nx_get _ _ _ _ _ hx) ?_
  simp only [ev, fx, ↓reduceIte, Nat.reduceEqDiff, Nat.reduceLT, Nat.reduceLeDiff, Nat.reduceAdd, Nat.reduceSub, Nat.reduceMul, Int.reduceLT, Int.reduceLE, Int.reduceToNat, BitVec.reduceOfInt, BitVec.reduceToNat, reduceCtorEq, and_self, decide_true, decide_false, Bool.not_true, Bool.not_false, ne_eq, not_true_eq_false, not_false_eq_true, true_and, and_true, evT, sl0, Option.map_some]
  repeat (refine And.intro (by omega) ?_)
  have htl : (T.drop (128 * (T.length / 128))).length = m := by simp; omega
  refine ⟨?_, ?_⟩
  · have hsrc : Rd w1.drew (some ⟨b, 8, none⟩) ((T.drop (128 * (T.length / 128))).map SV.u8) := by
      have := (Rd.blk (HL.startB hb1) (k := 0) rfl 8 128).take m
      rwa [digC_x _ _ _ _ _ hx, ← List.map_take, htk] at this
    refine SemE.append (B := []) (H := []) (HL.start _) (Own.nil 5 1) slof_23 rfl rfl rfl hsrc (by rw [List.length_map, htl, Nat.mul_one]) (fun h => by cases h) (isOneB _) (by omega) rfl fun v B w2 ho hlA _ => ?_
    rw [List.nil_append, Nat.zero_add] at ho
    rw [List.append_nil] at hlA
    refine ⟨fun _ => hlA.toGrow, ?_⟩
    have hl := hl.more hlA
    simp only [ev, fx, ↓reduceIte, Nat.reduceEqDiff, Nat.reduceLT, Nat.reduceLeDiff, Nat.reduceAdd, Nat.reduceSub, Nat.reduceMul, Int.reduceLT, Int.reduceLE, Int.reduceToNat, BitVec.reduceOfInt, BitVec.reduceToNat, reduceCtorEq, and_self, decide_true, decide_false, Bool.not_true, Bool.not_false, ne_eq, not_true_eq_false, not_false_eq_true, true_and, and_true, evT]
    refine ⟨?_, ?_⟩
    · refine SemE.loadB (HL.startB (hbg hl.toGrow)) 0 rfl one_31 rfl rfl (digC_len_get _ _ _ _ _ hx) ?_
      refine ⟨fun _ => Grow.refl _, ?_⟩
      simp only [ev, fx, ↓reduceIte, Nat.reduceEqDiff, Nat.reduceLT, Nat.reduceLeDiff, Nat.reduceAdd, Nat.reduceSub, Nat.reduceMul, Int.reduceLT, Int.reduceLE, Int.reduceToNat, BitVec.reduceOfInt, BitVec.reduceToNat, reduceCtorEq, and_self, decide_true, decide_false, Bool.not_true, Bool.not_false, ne_eq, not_true_eq_false, not_false_eq_true, true_and, and_true, evT]
      refine SemE.storeA (vs := eight (blocks (initOf ki) T)) hl 0 rfl rfl agg_55 (by simp [eight, SV.isOne]) rfl (by simp [eight]) fun w3 hl => ⟨fun h => absurd h (by decide), ?_⟩
      have hspl : (List.replicate 8 (SV.u64 0)).take 0 ++ eight (blocks (initOf ki) T) ++ (List.replicate 8 (SV.u64 0)).drop (0 + (eight (blocks (initOf ki) T)).length) = eight (blocks (initOf ki) T) := by simp [eight]
      simp only [List.nil_append, List.cons_append, List.set_cons_zero, hspl] at hl
      simp only [ev, fx, ↓reduceIte, Nat.reduceEqDiff, Nat.reduceLT, Nat.reduceLeDiff, Nat.reduceAdd, Nat.reduceSub, Nat.reduceMul, Int.reduceLT, Int.reduceLE, Int.reduceToNat, BitVec.reduceOfInt, BitVec.reduceToNat, reduceCtorEq, and_self, decide_true, decide_false, Bool.not_true, Bool.not_false, ne_eq, not_true_eq_false, not_false_eq_true, true_and, and_true, evT]
      exact ⟨v, B, rfl, ho, hl⟩
    · refine SemE.storeA (vs := eight (blocks (initOf ki) T)) hl 0 rfl rfl agg_55 (by simp [eight, SV.isOne]) rfl (by simp [eight]) fun w3 hl => ⟨fun h => absurd h (by decide), ?_⟩
      have hspl : (List.replicate 8 (SV.u64 0)).take 0 ++ eight (blocks (initOf ki) T) ++ (List.replicate 8 (SV.u64 0)).drop (0 + (eight (blocks (initOf ki) T)).length) = eight (blocks (initOf ki) T) := by simp [eight]
      simp only [List.nil_append, List.cons_append, List.set_cons_zero, hspl] at hl
      simp only [ev, fx, ↓reduceIte, Nat.reduceEqDiff, Nat.reduceLT, Nat.reduceLeDiff, Nat.reduceAdd, Nat.reduceSub, Nat.reduceMul, Int.reduceLT, Int.reduceLE, Int.reduceToNat, BitVec.reduceOfInt, BitVec.reduceToNat, reduceCtorEq, and_self, decide_true, decide_false, Bool.not_true, Bool.not_false, ne_eq, not_true_eq_false, not_false_eq_true, true_and, and_true, evT]
      refine SemE.loadB (HL.startB (hbg hl.toGrow)) 0 rfl one_31 rfl rfl (digC_len_get _ _ _ _ _ hx) ?_
      refine ⟨fun _ => Grow.refl _, ?_⟩
      simp only [ev, fx, ↓reduceIte, Nat.reduceEqDiff, Nat.reduceLT, Nat.reduceLeDiff, Nat.reduceAdd, Nat.reduceSub, Nat.reduceMul, Int.reduceLT, Int.reduceLE, Int.reduceToNat, BitVec.reduceOfInt, BitVec.reduceToNat, reduceCtorEq, and_self, decide_true, decide_false, Bool.not_true, Bool.not_false, ne_eq, not_true_eq_false, not_false_eq_true, true_and, and_true, evT]
      exact ⟨v, B, rfl, ho, hl⟩
  · refine SemE.loadB (HL.startB (hbg hl.toGrow)) 0 rfl one_31 rfl rfl (digC_len_get _ _ _ _ _ hx) ?_
    refine ⟨fun _ => Grow.refl _, ?_⟩
    simp only [ev, fx, ↓reduceIte, Nat.reduceEqDiff, Nat.reduceLT, Nat.reduceLeDiff, Nat.reduceAdd, Nat.reduceSub, Nat.reduceMul, Int.reduceLT, Int.reduceLE, Int.reduceToNat, BitVec.reduceOfInt, BitVec.reduceToNat, reduceCtorEq, and_self, decide_true, decide_false, Bool.not_true, Bool.not_false, ne_eq, not_true_eq_false, not_false_eq_true, true_and, and_true, evT]
    have hsrc : Rd w1.drew (some ⟨b, 8, none⟩) ((T.drop (128 * (T.length / 128))).map SV.u8) := by
      have := (Rd.blk (HL.startB hb1) (k := 0) rfl 8 128).take m
      rwa [digC_x _ _ _ _ _ hx, ← List.map_take, htk] at this
    refine SemE.append (B := []) (H := []) (HL.start _) (Own.nil 5 1) slof_23 rfl rfl rfl hsrc (by rw [List.length_map, htl, Nat.mul_one]) (fun h => by cases h) (isOneB _) (by omega) rfl fun v B w2 ho hlA _ => ?_
    rw [List.nil_append, Nat.zero_add] at ho
    rw [List.append_nil] at hlA
    refine ⟨fun _ => hlA.toGrow, ?_⟩
    have hl := hl.more hlA
    simp only [ev, fx, ↓reduceIte, Nat.reduceEqDiff, Nat.reduceLT, Nat.reduceLeDiff, Nat.reduceAdd, Nat.reduceSub, Nat.reduceMul, Int.reduceLT, Int.reduceLE, Int.reduceToNat, BitVec.reduceOfInt, BitVec.reduceToNat, reduceCtorEq, and_self, decide_true, decide_false, Bool.not_true, Bool.not_false, ne_eq, not_true_eq_false, not_false_eq_true, true_and, and_true, evT]
    refine SemE.storeA (vs := eight (blocks (initOf ki) T)) hl 0 rfl rfl agg_55 (by simp [eight, SV.isOne]) rfl (by simp [eight]) fun w3 hl => ⟨fun h => absurd h (by decide), ?_⟩
    have hspl : (List.replicate 8 (SV.u64 0)).take 0 ++ eight (blocks (initOf ki) T) ++ (List.replicate 8 (SV.u64 0)).drop (0 + (eight (blocks (initOf ki) T)).length) = eight (blocks (initOf ki) T) := by simp [eight]
    simp only [List.nil_append, List.cons_append, List.set_cons_zero, hspl] at hl
    simp only [ev, fx, ↓reduceIte, Nat.reduceEqDiff, Nat.reduceLT, Nat.reduceLeDiff, Nat.reduceAdd, Nat.reduceSub, Nat.reduceMul, Int.reduceLT, Int.reduceLE, Int.reduceToNat, BitVec.reduceOfInt, BitVec.reduceToNat, reduceCtorEq, and_self, decide_true, decide_false, Bool.not_true, Bool.not_false, ne_eq, not_true_eq_false, not_false_eq_true, true_and, and_true, evT]
    exact ⟨v, B, rfl, ho, hl⟩

set_option maxRecDepth 100000 in
/-- The state behind pieces. -/
theorem stateC (ki : Kd) (v : SV) (tt : List (List B8)) (w : World) (hko : KO w) (ht : Txs w v tt) (hf : tt.length ≤ 100 ∧ (cat tt).length ≤ 5000) :
    Calls Tryd.prog 20 #[(SV.nat (kdOf ki)).val, v.val] w fun e w' => ∃ g v', e = .returned (SV.tup3 (.sl (some ⟨g, 0, none⟩) 8 8) v' (.u64 (BitVec.ofNat 64 (cat tt).length))).val ∧
      Rd w' (some ⟨g, 0, none⟩) (eight (blocks (initOf ki) (cat tt))) ∧ Txt w' v' ((cat tt).drop (128 * ((cat tt).length / 128))) ∧ Grow w w' := by
  obtain ⟨a, c, rfl, hc, ha, hr⟩ := ht
  generalize hn : tt.length = n at *
  refine calls_E [.nat (kdOf ki), .sl a n c] Tryd.func20 rfl Tryd.ntmps20 rfl ?_
  refine EWp.seqR [0, 1] fun K hK => ?_
  simp only [ev, fx, ↓reduceIte, Nat.reduceEqDiff, Nat.reduceLT, Nat.reduceLeDiff, Nat.reduceAdd, Nat.reduceSub, Nat.reduceMul, Int.reduceLT, Int.reduceLE, Int.reduceToNat, BitVec.reduceOfInt, BitVec.reduceToNat, reduceCtorEq, and_self, decide_true, decide_false, Bool.not_true, Bool.not_false, ne_eq, not_true_eq_false, not_false_eq_true, true_and, and_true]
  repeat (refine And.intro (by omega) ?_)
  refine hK _ _ ?_; clear hK K
  refine EWp.seqR [7] fun K hK => ?_
  simp only [ev, fx, ↓reduceIte, Nat.reduceEqDiff, Nat.reduceLT, Nat.reduceLeDiff, Nat.reduceAdd, Nat.reduceSub, Nat.reduceMul, Int.reduceLT, Int.reduceLE, Int.reduceToNat, BitVec.reduceOfInt, BitVec.reduceToNat, reduceCtorEq, and_self, decide_true, decide_false, Bool.not_true, Bool.not_false, ne_eq, not_true_eq_false, not_false_eq_true, true_and, and_true]
  refine SemE.call fn_35 rfl rfl (fed3 ki a n c tt _ hko hr hn hf.1 hf.2) ?_
  rintro _ w1 ⟨b, cs, hb, rfl, hd, hl⟩
  refine ⟨_, rfl, ?_⟩
  simp only [ev, fx, ↓reduceIte, Nat.reduceEqDiff, Nat.reduceLT, Nat.reduceLeDiff, Nat.reduceAdd, Nat.reduceSub, Nat.reduceMul, Int.reduceLT, Int.reduceLE, Int.reduceToNat, BitVec.reduceOfInt, BitVec.reduceToNat, reduceCtorEq, and_self, decide_true, decide_false, Bool.not_true, Bool.not_false, ne_eq, not_true_eq_false, not_false_eq_true, true_and, and_true]
  repeat (refine And.intro (by omega) ?_)
  refine hK _ _ ?_; clear hK K
  refine EWp.ifR [7, 15] fun K hK => ?_
  simp only [ev, fx, ↓reduceIte, Nat.reduceEqDiff, Nat.reduceLT, Nat.reduceLeDiff, Nat.reduceAdd, Nat.reduceSub, Nat.reduceMul, Int.reduceLT, Int.reduceLE, Int.reduceToNat, BitVec.reduceOfInt, BitVec.reduceToNat, reduceCtorEq, and_self, decide_true, decide_false, Bool.not_true, Bool.not_false, ne_eq, not_true_eq_false, not_false_eq_true, true_and, and_true]
  refine SemE.plain _ (Plain.eqlNil (some ⟨b, 0, none⟩) ptr_58 rfl rfl rfl) rfl ?_
  simp only [ev, fx, ↓reduceIte, Nat.reduceEqDiff, Nat.reduceLT, Nat.reduceLeDiff, Nat.reduceAdd, Nat.reduceSub, Nat.reduceMul, Int.reduceLT, Int.reduceLE, Int.reduceToNat, BitVec.reduceOfInt, BitVec.reduceToNat, reduceCtorEq, and_self, decide_true, decide_false, Bool.not_true, Bool.not_false, ne_eq, not_true_eq_false, not_false_eq_true, true_and, and_true]
  refine hK _ _ false rfl (fun h => by cases h) (fun _ => ?_); clear hK K
  refine EWp.skipThen ?_
  refine EWp.seqR [8, 9, 10] fun K hK => ?_
  simp only [ev, fx, ↓reduceIte, Nat.reduceEqDiff, Nat.reduceLT, Nat.reduceLeDiff, Nat.reduceAdd, Nat.reduceSub, Nat.reduceMul, Int.reduceLT, Int.reduceLE, Int.reduceToNat, BitVec.reduceOfInt, BitVec.reduceToNat, reduceCtorEq, and_self, decide_true, decide_false, Bool.not_true, Bool.not_false, ne_eq, not_true_eq_false, not_false_eq_true, true_and, and_true]
  refine SemE.call fn_36 rfl rfl (zzState b (cat tt) cs ki hd _ (hl.at (k := 0) rfl) (by omega)) ?_
  rintro _ w2 ⟨v2, B2, rfl, ho2, hl2⟩
  refine ⟨_, rfl, ?_⟩
  have hg := hl.toGrow.trans hl2.toGrow
  have hdl : ((cat tt).drop (128 * ((cat tt).length / 128))).length = (cat tt).length % 128 := by simp; omega
  rw [← hdl] at ho2
  have ht2 := ho2.txt (H := []) (by rw [List.append_nil]; exact hl2)
  clear hl hl2 ho2 hd
  simp only [ev, fx, ↓reduceIte, Nat.reduceEqDiff, Nat.reduceLT, Nat.reduceLeDiff, Nat.reduceAdd, Nat.reduceSub, Nat.reduceMul, Int.reduceLT, Int.reduceLE, Int.reduceToNat, BitVec.reduceOfInt, BitVec.reduceToNat, reduceCtorEq, and_self, decide_true, decide_false, Bool.not_true, Bool.not_false, ne_eq, not_true_eq_false, not_false_eq_true, true_and, and_true]
  refine SemE.alloc (HL.start w2) zero_55 rfl fun g w3 hg3 hl => ?_
  simp only [ev, fx, ↓reduceIte, Nat.reduceEqDiff, Nat.reduceLT, Nat.reduceLeDiff, Nat.reduceAdd, Nat.reduceSub, Nat.reduceMul, Int.reduceLT, Int.reduceLE, Int.reduceToNat, BitVec.reduceOfInt, BitVec.reduceToNat, reduceCtorEq, and_self, decide_true, decide_false, Bool.not_true, Bool.not_false, ne_eq, not_true_eq_false, not_false_eq_true, true_and, and_true]
  refine SemE.storeA (vs := eight (blocks (initOf ki) (cat tt))) hl 0 rfl rfl agg_55 (by simp [eight, SV.isOne]) rfl (by simp [eight]) fun w3 hl => ?_
  have hspl : (List.replicate 8 (SV.u64 0)).take 0 ++ eight (blocks (initOf ki) (cat tt)) ++ (List.replicate 8 (SV.u64 0)).drop (0 + (eight (blocks (initOf ki) (cat tt))).length) = eight (blocks (initOf ki) (cat tt)) := by simp [eight]
  simp only [List.nil_append, List.cons_append, List.set_cons_zero, hspl] at hl
  have ht2 := ht2.grow hl.toGrow
  have hst : Rd w3 (some ⟨g, 0, none⟩) (eight (blocks (initOf ki) (cat tt))) := Rd.blk hl (k := 0) rfl 0 8
  have hg := hg.trans hl.toGrow
  clear hl
  simp only [ev, fx, ↓reduceIte, Nat.reduceEqDiff, Nat.reduceLT, Nat.reduceLeDiff, Nat.reduceAdd, Nat.reduceSub, Nat.reduceMul, Int.reduceLT, Int.reduceLE, Int.reduceToNat, BitVec.reduceOfInt, BitVec.reduceToNat, reduceCtorEq, and_self, decide_true, decide_false, Bool.not_true, Bool.not_false, ne_eq, not_true_eq_false, not_false_eq_true, true_and, and_true]
  repeat (refine And.intro (by omega) ?_)
  refine hK _ _ ?_; clear hK K
  obtain ⟨a2, c2, rfl, hc2, ha2, hr2⟩ := ht2
  refine EWp.seqO (fun _ => false) [(0, 0), (1, 0), (3, 0), (2, 2), (4, 0), (5, 0), (6, 0)] [4, 5, 6] mixed (by kernel_rfl) fun K hK => ?_
  have hgd := drewG w3
  have hg := hg.trans hgd
  have hst := hst.grow hgd
  have hr2 := hr2.grow hgd
  generalize hq : (cat tt).drop (128 * ((cat tt).length / 128)) = q at *
  simp only [ev, fx, ↓reduceIte, Nat.reduceEqDiff, Nat.reduceLT, Nat.reduceLeDiff, Nat.reduceAdd, Nat.reduceSub, Nat.reduceMul, Int.reduceLT, Int.reduceLE, Int.reduceToNat, BitVec.reduceOfInt, BitVec.reduceToNat, reduceCtorEq, and_self, decide_true, decide_false, Bool.not_true, Bool.not_false, ne_eq, not_true_eq_false, not_false_eq_true, true_and, and_true]
  refine SemE.call fn_33 rfl rfl (copiedC a2 q.length c2 (q.map SV.u8) _ hr2 (by simp) ha2 (isOneB q) (by omega)) ?_
  rintro _ w4 ⟨v4, B4, rfl, ho4, hl4⟩
  refine ⟨_, rfl, fun _ => hl4.toGrow, ?_⟩
  have ht4 := ho4.txt (H := []) (by rw [List.append_nil]; exact hl4)
  simp only [ev, fx, ↓reduceIte, Nat.reduceEqDiff, Nat.reduceLT, Nat.reduceLeDiff, Nat.reduceAdd, Nat.reduceSub, Nat.reduceMul, Int.reduceLT, Int.reduceLE, Int.reduceToNat, BitVec.reduceOfInt, BitVec.reduceToNat, reduceCtorEq, and_self, decide_true, decide_false, Bool.not_true, Bool.not_false, ne_eq, not_true_eq_false, not_false_eq_true, true_and, and_true]
  repeat (refine And.intro (by omega) ?_)
  refine hK _ _ ?_; clear hK K
  exact EWp.ret (BodyE.tmp3 rfl rfl rfl rfl ⟨g, v4, rfl, hst.grow hl4.toGrow, ht4, hg.trans hl4.toGrow⟩)

theorem blocks_whole (s0 : S8) (T : List B8) : blocks s0 (T.take (T.length / 128 * 128)) = blocks s0 T := by
  have e : T.length / 128 * 128 = 128 * (T.length / 128) := by omega
  rw [e]
  have h := blocks_append (T.drop (128 * (T.length / 128))) _ s0 (T.take (128 * (T.length / 128))) rfl (by simp; omega)
  rw [List.take_append_drop] at h
  rw [h]
  exact (blocks_lo _ (by simp; omega)).symm

set_option maxRecDepth 100000 in
theorem lawState3 (x : B8) (v : SV) (tt : List (List B8)) (w : World) (hko : KO w) (ht : Txs w v tt) :
    Calls Tryd.prog 5 #[(SV.u8 x).val, v.val] w fun e w' => e = .returned (SV.bool true).val ∧ Grow w w' := by
  refine calls_E [.u8 x, v] Tryd.func5 rfl Tryd.ntmps5 rfl ?_
  refine EWp.seqR [0, 1] fun K hK => ?_
  simp only [ev, fx, ↓reduceIte, Nat.reduceEqDiff, Nat.reduceLT, Nat.reduceLeDiff, Nat.reduceAdd, Nat.reduceSub, Nat.reduceMul, Int.reduceLT, Int.reduceLE, Int.reduceToNat, BitVec.reduceOfInt, BitVec.reduceToNat, reduceCtorEq, and_self, decide_true, decide_false, Bool.not_true, Bool.not_false, ne_eq, not_true_eq_false, not_false_eq_true, true_and, and_true]
  repeat (refine And.intro (by omega) ?_)
  refine hK _ _ ?_; clear hK K
  refine EWp.ifR [0, 1, 13] fun K hK => ?_
  simp only [ev, fx, ↓reduceIte, Nat.reduceEqDiff, Nat.reduceLT, Nat.reduceLeDiff, Nat.reduceAdd, Nat.reduceSub, Nat.reduceMul, Int.reduceLT, Int.reduceLE, Int.reduceToNat, BitVec.reduceOfInt, BitVec.reduceToNat, reduceCtorEq, and_self, decide_true, decide_false, Bool.not_true, Bool.not_false, ne_eq, not_true_eq_false, not_false_eq_true, true_and, and_true]
  refine SemE.call fn_17 rfl rfl (fitsT _ tt _ ht) ?_
  rintro _ _ ⟨bf, rfl, hw⟩
  rw [hw]; clear hw
  refine ⟨_, rfl, ?_⟩
  simp only [ev, fx, ↓reduceIte, Nat.reduceEqDiff, Nat.reduceLT, Nat.reduceLeDiff, Nat.reduceAdd, Nat.reduceSub, Nat.reduceMul, Int.reduceLT, Int.reduceLE, Int.reduceToNat, BitVec.reduceOfInt, BitVec.reduceToNat, reduceCtorEq, and_self, decide_true, decide_false, Bool.not_true, Bool.not_false, ne_eq, not_true_eq_false, not_false_eq_true, true_and, and_true]
  refine hK _ _ (!bf) rfl (fun _ => ?_) (fun _ => ?_) <;> clear hK K
  · refine EWp.seqR [4] fun K hK => ?_
    simp only [ev, fx, ↓reduceIte, Nat.reduceEqDiff, Nat.reduceLT, Nat.reduceLeDiff, Nat.reduceAdd, Nat.reduceSub, Nat.reduceMul, Int.reduceLT, Int.reduceLE, Int.reduceToNat, BitVec.reduceOfInt, BitVec.reduceToNat, reduceCtorEq, and_self, decide_true, decide_false, Bool.not_true, Bool.not_false, ne_eq, not_true_eq_false, not_false_eq_true, true_and, and_true]
    repeat (refine And.intro (by omega) ?_)
    refine hK _ _ ?_; clear hK K
    exact EWp.retT (BodyE.tmp1 rfl rfl ⟨rfl, Grow.refl _⟩)
  refine EWp.skipThen ?_
  refine EWp.ifR [0, 1, 16] fun K hK => ?_
  simp only [ev, fx, ↓reduceIte, Nat.reduceEqDiff, Nat.reduceLT, Nat.reduceLeDiff, Nat.reduceAdd, Nat.reduceSub, Nat.reduceMul, Int.reduceLT, Int.reduceLE, Int.reduceToNat, BitVec.reduceOfInt, BitVec.reduceToNat, reduceCtorEq, and_self, decide_true, decide_false, Bool.not_true, Bool.not_false, ne_eq, not_true_eq_false, not_false_eq_true, true_and, and_true]
  refine SemE.call fn_18 rfl rfl (fewT _ tt _ ht) ?_
  rintro _ _ ⟨rfl, hw⟩
  rw [hw]; clear hw
  refine ⟨_, rfl, ?_⟩
  simp only [ev, fx, ↓reduceIte, Nat.reduceEqDiff, Nat.reduceLT, Nat.reduceLeDiff, Nat.reduceAdd, Nat.reduceSub, Nat.reduceMul, Int.reduceLT, Int.reduceLE, Int.reduceToNat, BitVec.reduceOfInt, BitVec.reduceToNat, reduceCtorEq, and_self, decide_true, decide_false, Bool.not_true, Bool.not_false, ne_eq, not_true_eq_false, not_false_eq_true, true_and, and_true]
  refine hK _ _ (!fewB tt) rfl (fun hf => ?_) (fun hf => ?_) <;> clear hK K
  · refine EWp.seqR [4] fun K hK => ?_
    simp only [ev, fx, ↓reduceIte, Nat.reduceEqDiff, Nat.reduceLT, Nat.reduceLeDiff, Nat.reduceAdd, Nat.reduceSub, Nat.reduceMul, Int.reduceLT, Int.reduceLE, Int.reduceToNat, BitVec.reduceOfInt, BitVec.reduceToNat, reduceCtorEq, and_self, decide_true, decide_false, Bool.not_true, Bool.not_false, ne_eq, not_true_eq_false, not_false_eq_true, true_and, and_true]
    repeat (refine And.intro (by omega) ?_)
    refine hK _ _ ?_; clear hK K
    exact EWp.retT (BodyE.tmp1 rfl rfl ⟨rfl, Grow.refl _⟩)
  refine EWp.skipThen ?_
  have hf2 : tt.length ≤ 100 ∧ (cat tt).length ≤ 5000 := of_decide_eq_true (show fewB tt = true by simpa using hf)
  refine EWp.seqR [1, 5] fun K hK => ?_
  simp only [ev, fx, ↓reduceIte, Nat.reduceEqDiff, Nat.reduceLT, Nat.reduceLeDiff, Nat.reduceAdd, Nat.reduceSub, Nat.reduceMul, Int.reduceLT, Int.reduceLE, Int.reduceToNat, BitVec.reduceOfInt, BitVec.reduceToNat, reduceCtorEq, and_self, decide_true, decide_false, Bool.not_true, Bool.not_false, ne_eq, not_true_eq_false, not_false_eq_true, true_and, and_true]
  repeat (refine And.intro (by omega) ?_)
  refine hK _ _ ?_; clear hK K
  rw [kOf_nat]
  generalize kOf x = ki
  refine EWp.seqR [1, 5, 6] fun K hK => ?_
  simp only [ev, fx, ↓reduceIte, Nat.reduceEqDiff, Nat.reduceLT, Nat.reduceLeDiff, Nat.reduceAdd, Nat.reduceSub, Nat.reduceMul, Int.reduceLT, Int.reduceLE, Int.reduceToNat, BitVec.reduceOfInt, BitVec.reduceToNat, reduceCtorEq, and_self, decide_true, decide_false, Bool.not_true, Bool.not_false, ne_eq, not_true_eq_false, not_false_eq_true, true_and, and_true]
  refine SemE.call fn_19 rfl rfl (joinedT _ tt _ ht hf2) ?_
  rintro _ w1 ⟨v1, rfl, hh1, hg⟩
  refine ⟨_, rfl, ?_⟩
  simp only [ev, fx, ↓reduceIte, Nat.reduceEqDiff, Nat.reduceLT, Nat.reduceLeDiff, Nat.reduceAdd, Nat.reduceSub, Nat.reduceMul, Int.reduceLT, Int.reduceLE, Int.reduceToNat, BitVec.reduceOfInt, BitVec.reduceToNat, reduceCtorEq, and_self, decide_true, decide_false, Bool.not_true, Bool.not_false, ne_eq, not_true_eq_false, not_false_eq_true, true_and, and_true]
  repeat (refine And.intro (by omega) ?_)
  refine hK _ _ ?_; clear hK K
  obtain ⟨a1, c1, rfl, hc1, ha1, hr1⟩ := hh1
  have hl := hf2.2
  have htx : Txt w1 (.sl a1 (cat tt).length c1) (cat tt) := Txt.mk hr1 rfl hc1 ha1
  refine EWp.seqR [1, 5, 6, 7] fun K hK => ?_
  simp only [ev, fx, ↓reduceIte, Nat.reduceEqDiff, Nat.reduceLT, Nat.reduceLeDiff, Nat.reduceAdd, Nat.reduceSub, Nat.reduceMul, Int.reduceLT, Int.reduceLE, Int.reduceToNat, BitVec.reduceOfInt, BitVec.reduceToNat, reduceCtorEq, and_self, decide_true, decide_false, Bool.not_true, Bool.not_false, ne_eq, not_true_eq_false, not_false_eq_true, true_and, and_true]
  repeat (refine And.intro (by omega) ?_)
  refine hK _ _ ?_; clear hK K
  refine EWp.seqR [5, 6, 7, 8, 9, 10] fun K hK => ?_
  simp only [ev, fx, ↓reduceIte, Nat.reduceEqDiff, Nat.reduceLT, Nat.reduceLeDiff, Nat.reduceAdd, Nat.reduceSub, Nat.reduceMul, Int.reduceLT, Int.reduceLE, Int.reduceToNat, BitVec.reduceOfInt, BitVec.reduceToNat, reduceCtorEq, and_self, decide_true, decide_false, Bool.not_true, Bool.not_false, ne_eq, not_true_eq_false, not_false_eq_true, true_and, and_true]
  refine SemE.call fn_20 rfl rfl (stateC ki _ tt _ (hko.grow hg) (ht.grow hg) hf2) ?_
  rintro _ w2 ⟨g2, v2, rfl, hst, hh2, hg2⟩
  refine ⟨_, rfl, ?_⟩
  have hg := hg.trans hg2
  have htx := htx.grow hg2
  simp only [ev, fx, ↓reduceIte, Nat.reduceEqDiff, Nat.reduceLT, Nat.reduceLeDiff, Nat.reduceAdd, Nat.reduceSub, Nat.reduceMul, Int.reduceLT, Int.reduceLE, Int.reduceToNat, BitVec.reduceOfInt, BitVec.reduceToNat, reduceCtorEq, and_self, decide_true, decide_false, Bool.not_true, Bool.not_false, ne_eq, not_true_eq_false, not_false_eq_true, true_and, and_true]
  repeat (refine And.intro (by omega) ?_)
  refine hK _ _ ?_; clear hK K
  have hbw := blocks_whole (initOf ki) (cat tt)
  have hm : (cat tt).length / 128 * 128 ≤ (cat tt).length := Nat.div_mul_le_self _ _
  have hmm : 128 * ((cat tt).length / 128) = (cat tt).length / 128 * 128 := Nat.mul_comm _ _
  rw [hmm] at hh2
  obtain ⟨a2, c2, rfl, hc2, ha2, hr2⟩ := hh2
  have hh2 : Txt w2 (.sl a2 _ c2) _ := Txt.mk hr2 rfl hc2 ha2
  clear hc2 ha2 hr2
  refine EWp.seqO (fun _ => false) [(0, 0), (1, 0), (3, 0), (4, 0), (5, 0), (2, 2), (6, 2), (7, 2), (8, 0), (9, 0), (10, 1), (11, 0), (12, 0), (13, 0), (14, 1), (15, 1), (16, 0), (17, 0), (18, 0), (19, 0), (20, 0), (21, 1), (22, 1), (23, 0), (24, 0)] [4] mixed (by kernel_rfl) fun K hK => ?_
  have hgd := drewG w2
  have hg := hg.trans hgd
  have hst := hst.grow hgd
  have hh2 := hh2.grow hgd
  have htx := htx.grow hgd
  generalize hT : cat tt = T at *
  generalize hms : T.length / 128 * 128 = m at *
  simp only [ev, fx, ↓reduceIte, Nat.reduceEqDiff, Nat.reduceLT, Nat.reduceLeDiff, Nat.reduceAdd, Nat.reduceSub, Nat.reduceMul, Int.reduceLT, Int.reduceLE, Int.reduceToNat, BitVec.reduceOfInt, BitVec.reduceToNat, reduceCtorEq, and_self, decide_true, decide_false, Bool.not_true, Bool.not_false, ne_eq, not_true_eq_false, not_false_eq_true, true_and, and_true, sl0]
  refine ⟨⟨hc1, Nat.le_trans hm hc1, Nat.zero_le _⟩, ?_⟩
  refine SemE.call fn_21 rfl rfl (begin64 ki _) ?_
  rintro _ w3 ⟨p3, c3, rfl, hp3, hg3⟩
  refine ⟨_, rfl, fun _ => hg3, ?_⟩
  have hg := hg.trans hg3
  have hst := hst.grow hg3
  have hh2 := hh2.grow hg3
  have htx := htx.grow hg3
  simp only [ev, fx, ↓reduceIte, Nat.reduceEqDiff, Nat.reduceLT, Nat.reduceLeDiff, Nat.reduceAdd, Nat.reduceSub, Nat.reduceMul, Int.reduceLT, Int.reduceLE, Int.reduceToNat, BitVec.reduceOfInt, BitVec.reduceToNat, reduceCtorEq, and_self, decide_true, decide_false, Bool.not_true, Bool.not_false, ne_eq, not_true_eq_false, not_false_eq_true, true_and, and_true, sl0]
  refine SemE.call fn_16 rfl rfl (blocks64C (initOf ki) p3 c3 _ (T.take m) _ hp3 (htx.take m hm) (by simp; omega)) ?_
  rintro _ w4 ⟨p4, c4, rfl, hp4, hg4⟩
  refine ⟨_, rfl, fun _ => hg4, ?_⟩
  have hg := hg.trans hg4
  have hst := hst.grow hg4
  have hh2 := hh2.grow hg4
  have htx := htx.grow hg4
  rw [hbw] at hp4
  generalize blocks (initOf ki) T = r at *
  simp only [ev, fx, ↓reduceIte, Nat.reduceEqDiff, Nat.reduceLT, Nat.reduceLeDiff, Nat.reduceAdd, Nat.reduceSub, Nat.reduceMul, Int.reduceLT, Int.reduceLE, Int.reduceToNat, BitVec.reduceOfInt, BitVec.reduceToNat, reduceCtorEq, and_self, decide_true, decide_false, Bool.not_true, Bool.not_false, ne_eq, not_true_eq_false, not_false_eq_true, true_and, and_true, sl0]
  refine SemE.call fn_14 rfl rfl (same64C ⟨g2, 0, none⟩ p4 8 8 c4 [r.a, r.b, r.c, r.d, r.e, r.f, r.g, r.h] _ hst hp4 rfl (by omega)) ?_
  rintro _ w5 ⟨rfl, hg5⟩
  refine ⟨_, rfl, fun _ => hg5, ?_⟩
  have hg := hg.trans hg5
  have hh2 := hh2.grow hg5
  have htx := htx.grow hg5
  simp only [ev, fx, ↓reduceIte, Nat.reduceEqDiff, Nat.reduceLT, Nat.reduceLeDiff, Nat.reduceAdd, Nat.reduceSub, Nat.reduceMul, Int.reduceLT, Int.reduceLE, Int.reduceToNat, BitVec.reduceOfInt, BitVec.reduceToNat, reduceCtorEq, and_self, decide_true, decide_false, Bool.not_true, Bool.not_false, ne_eq, not_true_eq_false, not_false_eq_true, true_and, and_true, sl0]
  refine StopR.mk (SV.str (T.drop m)) (Quiet.toStrT tostr_23_9 rfl (hh2)) rfl ?_
  simp only [ev, fx, ↓reduceIte, Nat.reduceEqDiff, Nat.reduceLT, Nat.reduceLeDiff, Nat.reduceAdd, Nat.reduceSub, Nat.reduceMul, Int.reduceLT, Int.reduceLE, Int.reduceToNat, BitVec.reduceOfInt, BitVec.reduceToNat, reduceCtorEq, and_self, decide_true, decide_false, Bool.not_true, Bool.not_false, ne_eq, not_true_eq_false, not_false_eq_true, true_and, and_true, sl0]
  repeat (refine And.intro (by omega) ?_)
  refine StopR.mk (SV.str (T.drop m)) (Quiet.toStrT tostr_23_9 rfl (htx.drop m hm)) rfl ?_
  simp only [ev, fx, ↓reduceIte, Nat.reduceEqDiff, Nat.reduceLT, Nat.reduceLeDiff, Nat.reduceAdd, Nat.reduceSub, Nat.reduceMul, Int.reduceLT, Int.reduceLE, Int.reduceToNat, BitVec.reduceOfInt, BitVec.reduceToNat, reduceCtorEq, and_self, decide_true, decide_false, Bool.not_true, Bool.not_false, ne_eq, not_true_eq_false, not_false_eq_true, true_and, and_true, sl0]
  refine StopR.mk _ (Quiet.plain (Plain.eqlStr rfl rfl)) rfl ?_
  simp only [ev, fx, ↓reduceIte, Nat.reduceEqDiff, Nat.reduceLT, Nat.reduceLeDiff, Nat.reduceAdd, Nat.reduceSub, Nat.reduceMul, Int.reduceLT, Int.reduceLE, Int.reduceToNat, BitVec.reduceOfInt, BitVec.reduceToNat, reduceCtorEq, and_self, decide_true, decide_false, Bool.not_true, Bool.not_false, ne_eq, not_true_eq_false, not_false_eq_true, true_and, and_true]
  repeat (refine And.intro (by omega) ?_)
  refine hK _ _ ?_; clear hK K
  exact EWp.ret (BodyE.tmp1 rfl rfl ⟨by simp, hg⟩)
end Go.Proofs.YtggbaffkjfofhaaDoor
