/- impl's functions that keep the state of SHA-256 as bytes. -/
import Derived.Test.YtkfblgkicopjjaaDoorKu2
import Derived.Test.YtkfblgkicopjjaaDoorLs2
set_option linter.unusedVariables false
set_option linter.unusedSimpArgs false
namespace Go.Proofs.YtkfblgkicopjjaaDoor
open Go

set_option maxRecDepth 100000 in
/-- The state behind pieces, as bytes. -/
theorem marI (ki : Bool) (v : SV) (tt : List (List B8)) (w : World) (hko : KO w) (ht : Txs w v tt) (hf : tt.length ≤ 100 ∧ (cat tt).length ≤ 5000) :
    Calls Tryd.prog 22 #[(SV.nat (kd ki)).val, v.val] w fun e w' => ∃ v', e = .returned (SV.tup2 v' (.bool true)).val ∧ Txt w' v' (marB ki (cat tt)) ∧ Grow w w' := by
  obtain ⟨a, c, rfl, hc, ha, hr⟩ := ht
  generalize hn : tt.length = n at *
  refine calls_E [.nat (kd ki), .sl a n c] Tryd.func22 rfl Tryd.ntmps22 rfl ?_
  refine EWp.seqR [0, 1] fun K hK => ?_
  simp only [ev, fx, ↓reduceIte, Nat.reduceEqDiff, Nat.reduceLT, Nat.reduceLeDiff, Nat.reduceAdd, Nat.reduceSub, Nat.reduceMul, Int.reduceLT, Int.reduceLE, Int.reduceToNat, BitVec.reduceOfInt, BitVec.reduceToNat, reduceCtorEq, and_self, decide_true, decide_false, Bool.not_true, Bool.not_false, ne_eq, not_true_eq_false, not_false_eq_true, true_and, and_true]
  repeat (refine And.intro (by omega) ?_)
  refine hK _ _ ?_; clear hK K
  refine EWp.seqR [6] fun K hK => ?_
  simp only [ev, fx, ↓reduceIte, Nat.reduceEqDiff, Nat.reduceLT, Nat.reduceLeDiff, Nat.reduceAdd, Nat.reduceSub, Nat.reduceMul, Int.reduceLT, Int.reduceLE, Int.reduceToNat, BitVec.reduceOfInt, BitVec.reduceToNat, reduceCtorEq, and_self, decide_true, decide_false, Bool.not_true, Bool.not_false, ne_eq, not_true_eq_false, not_false_eq_true, true_and, and_true]
  refine SemE.call fn_35 rfl rfl (fed2 ki a n c tt _ hko hr hn hf.1 hf.2) ?_
  rintro _ w1 ⟨b, cs, hb, rfl, hd, hl⟩
  refine ⟨_, rfl, ?_⟩
  simp only [ev, fx, ↓reduceIte, Nat.reduceEqDiff, Nat.reduceLT, Nat.reduceLeDiff, Nat.reduceAdd, Nat.reduceSub, Nat.reduceMul, Int.reduceLT, Int.reduceLE, Int.reduceToNat, BitVec.reduceOfInt, BitVec.reduceToNat, reduceCtorEq, and_self, decide_true, decide_false, Bool.not_true, Bool.not_false, ne_eq, not_true_eq_false, not_false_eq_true, true_and, and_true]
  repeat (refine And.intro (by omega) ?_)
  refine hK _ _ ?_; clear hK K
  refine EWp.ifR [6, 13] fun K hK => ?_
  simp only [ev, fx, ↓reduceIte, Nat.reduceEqDiff, Nat.reduceLT, Nat.reduceLeDiff, Nat.reduceAdd, Nat.reduceSub, Nat.reduceMul, Int.reduceLT, Int.reduceLE, Int.reduceToNat, BitVec.reduceOfInt, BitVec.reduceToNat, reduceCtorEq, and_self, decide_true, decide_false, Bool.not_true, Bool.not_false, ne_eq, not_true_eq_false, not_false_eq_true, true_and, and_true]
  refine SemE.plain (.bool false) (Plain.eqlNil (some ⟨b, 0, none⟩) ptr_59 rfl rfl rfl) rfl ?_
  simp only [ev, fx, ↓reduceIte, Nat.reduceEqDiff, Nat.reduceLT, Nat.reduceLeDiff, Nat.reduceAdd, Nat.reduceSub, Nat.reduceMul, Int.reduceLT, Int.reduceLE, Int.reduceToNat, BitVec.reduceOfInt, BitVec.reduceToNat, reduceCtorEq, and_self, decide_true, decide_false, Bool.not_true, Bool.not_false, ne_eq, not_true_eq_false, not_false_eq_true, true_and, and_true]
  refine hK _ _ false rfl (fun h => by cases h) (fun _ => ?_); clear hK K
  refine EWp.skipThen ?_
  refine EWp.seqR [7, 8] fun K hK => ?_
  simp only [ev, fx, ↓reduceIte, Nat.reduceEqDiff, Nat.reduceLT, Nat.reduceLeDiff, Nat.reduceAdd, Nat.reduceSub, Nat.reduceMul, Int.reduceLT, Int.reduceLE, Int.reduceToNat, BitVec.reduceOfInt, BitVec.reduceToNat, reduceCtorEq, and_self, decide_true, decide_false, Bool.not_true, Bool.not_false, ne_eq, not_true_eq_false, not_false_eq_true, true_and, and_true]
  refine SemE.call fn_38 rfl rfl (marD b (cat tt) cs ki hd _ (hl.at (k := 0) rfl)) ?_
  rintro _ w2 ⟨v2, B2, rfl, ho2, hl2⟩
  refine ⟨_, rfl, ?_⟩
  rw [← marB_len ki (cat tt)] at ho2
  have ht2 := ho2.txt (H := []) (by rw [List.append_nil]; exact hl2)
  have hg := hl.toGrow.trans hl2.toGrow
  simp only [ev, fx, ↓reduceIte, Nat.reduceEqDiff, Nat.reduceLT, Nat.reduceLeDiff, Nat.reduceAdd, Nat.reduceSub, Nat.reduceMul, Int.reduceLT, Int.reduceLE, Int.reduceToNat, BitVec.reduceOfInt, BitVec.reduceToNat, reduceCtorEq, and_self, decide_true, decide_false, Bool.not_true, Bool.not_false, ne_eq, not_true_eq_false, not_false_eq_true, true_and, and_true]
  repeat (refine And.intro (by omega) ?_)
  refine hK _ _ ?_; clear hK K
  refine EWp.seqO (fun _ => false) [(0, 0), (1, 0), (2, 1), (3, 0), (4, 0)] [4, 5] mixed (by kernel_rfl) fun K hK => ?_
  have hgd := drewG w2
  simp only [ev, fx, ↓reduceIte, Nat.reduceEqDiff, Nat.reduceLT, Nat.reduceLeDiff, Nat.reduceAdd, Nat.reduceSub, Nat.reduceMul, Int.reduceLT, Int.reduceLE, Int.reduceToNat, BitVec.reduceOfInt, BitVec.reduceToNat, reduceCtorEq, and_self, decide_true, decide_false, Bool.not_true, Bool.not_false, ne_eq, not_true_eq_false, not_false_eq_true, true_and, and_true]
  refine StopR.mk _ (Quiet.plain (Plain.eqlErr iface_error rfl ErrV.nil)) rfl ?_
  simp only [ev, fx, ↓reduceIte, Nat.reduceEqDiff, Nat.reduceLT, Nat.reduceLeDiff, Nat.reduceAdd, Nat.reduceSub, Nat.reduceMul, Int.reduceLT, Int.reduceLE, Int.reduceToNat, BitVec.reduceOfInt, BitVec.reduceToNat, reduceCtorEq, and_self, decide_true, decide_false, Bool.not_true, Bool.not_false, ne_eq, not_true_eq_false, not_false_eq_true, true_and, and_true]
  repeat (refine And.intro (by omega) ?_)
  refine hK _ _ ?_; clear hK K
  exact EWp.ret (BodyE.tmp2 rfl rfl rfl ⟨v2, rfl, ht2.grow hgd, hg.trans hgd⟩)

set_option maxRecDepth 100000 in
/-- The state behind pieces, behind other bytes. -/
theorem appI (ki : Bool) (v : SV) (tt : List (List B8)) (vf : SV) (fr : List B8) (w : World) (hko : KO w) (ht : Txs w v tt) (hf : tt.length ≤ 100 ∧ (cat tt).length ≤ 5000) (htf : Txt w vf fr) (hfr : fr.length ≤ 1000) :
    Calls Tryd.prog 23 #[(SV.nat (kd ki)).val, v.val, vf.val] w fun e w' => ∃ v', e = .returned (SV.tup2 v' (.bool true)).val ∧ Txt w' v' (fr ++ marB ki (cat tt)) ∧ Grow w w' := by
  obtain ⟨a, c, rfl, hc, ha, hr⟩ := ht
  generalize hn : tt.length = n at *
  obtain ⟨af, cf, rfl, hcf, haf, hrf⟩ := htf
  refine calls_E [.nat (kd ki), .sl a n c, .sl af fr.length cf] Tryd.func23 rfl Tryd.ntmps23 rfl ?_
  refine EWp.seqR [0, 1, 2] fun K hK => ?_
  simp only [ev, fx, ↓reduceIte, Nat.reduceEqDiff, Nat.reduceLT, Nat.reduceLeDiff, Nat.reduceAdd, Nat.reduceSub, Nat.reduceMul, Int.reduceLT, Int.reduceLE, Int.reduceToNat, BitVec.reduceOfInt, BitVec.reduceToNat, reduceCtorEq, and_self, decide_true, decide_false, Bool.not_true, Bool.not_false, ne_eq, not_true_eq_false, not_false_eq_true, true_and, and_true]
  repeat (refine And.intro (by omega) ?_)
  refine hK _ _ ?_; clear hK K
  refine EWp.seqR [2, 8] fun K hK => ?_
  simp only [ev, fx, ↓reduceIte, Nat.reduceEqDiff, Nat.reduceLT, Nat.reduceLeDiff, Nat.reduceAdd, Nat.reduceSub, Nat.reduceMul, Int.reduceLT, Int.reduceLE, Int.reduceToNat, BitVec.reduceOfInt, BitVec.reduceToNat, reduceCtorEq, and_self, decide_true, decide_false, Bool.not_true, Bool.not_false, ne_eq, not_true_eq_false, not_false_eq_true, true_and, and_true]
  refine SemE.call fn_35 rfl rfl (fed2 ki a n c tt _ hko hr hn hf.1 hf.2) ?_
  rintro _ w1 ⟨b, cs, hb, rfl, hd, hl⟩
  refine ⟨_, rfl, ?_⟩
  simp only [ev, fx, ↓reduceIte, Nat.reduceEqDiff, Nat.reduceLT, Nat.reduceLeDiff, Nat.reduceAdd, Nat.reduceSub, Nat.reduceMul, Int.reduceLT, Int.reduceLE, Int.reduceToNat, BitVec.reduceOfInt, BitVec.reduceToNat, reduceCtorEq, and_self, decide_true, decide_false, Bool.not_true, Bool.not_false, ne_eq, not_true_eq_false, not_false_eq_true, true_and, and_true]
  repeat (refine And.intro (by omega) ?_)
  refine hK _ _ ?_; clear hK K
  refine EWp.ifR [2, 8, 15] fun K hK => ?_
  simp only [ev, fx, ↓reduceIte, Nat.reduceEqDiff, Nat.reduceLT, Nat.reduceLeDiff, Nat.reduceAdd, Nat.reduceSub, Nat.reduceMul, Int.reduceLT, Int.reduceLE, Int.reduceToNat, BitVec.reduceOfInt, BitVec.reduceToNat, reduceCtorEq, and_self, decide_true, decide_false, Bool.not_true, Bool.not_false, ne_eq, not_true_eq_false, not_false_eq_true, true_and, and_true]
  refine SemE.plain (.bool false) (Plain.eqlNil (some ⟨b, 0, none⟩) ptr_59 rfl rfl rfl) rfl ?_
  simp only [ev, fx, ↓reduceIte, Nat.reduceEqDiff, Nat.reduceLT, Nat.reduceLeDiff, Nat.reduceAdd, Nat.reduceSub, Nat.reduceMul, Int.reduceLT, Int.reduceLE, Int.reduceToNat, BitVec.reduceOfInt, BitVec.reduceToNat, reduceCtorEq, and_self, decide_true, decide_false, Bool.not_true, Bool.not_false, ne_eq, not_true_eq_false, not_false_eq_true, true_and, and_true]
  refine hK _ _ false rfl (fun h => by cases h) (fun _ => ?_); clear hK K
  refine EWp.skipThen ?_
  refine EWp.seqR [9, 10] fun K hK => ?_
  simp only [ev, fx, ↓reduceIte, Nat.reduceEqDiff, Nat.reduceLT, Nat.reduceLeDiff, Nat.reduceAdd, Nat.reduceSub, Nat.reduceMul, Int.reduceLT, Int.reduceLE, Int.reduceToNat, BitVec.reduceOfInt, BitVec.reduceToNat, reduceCtorEq, and_self, decide_true, decide_false, Bool.not_true, Bool.not_false, ne_eq, not_true_eq_false, not_false_eq_true, true_and, and_true]
  refine SemE.call fn_33 rfl rfl (copiedC af fr.length cf (fr.map SV.u8) _ (hrf.grow hl.toGrow) (by simp) haf (isOneB fr) (by omega)) ?_
  rintro _ w2 ⟨v2, B2, rfl, ho2, hl2⟩
  refine ⟨_, rfl, ?_⟩
  have hlm := hl.more hl2
  have hnd := hlm.nd
  rw [List.map_append, List.nodup_append] at hnd
  have hbB : b ∉ B2.map (·.1) := fun hm => hnd.2.2 b (by simp) b hm rfl
  simp only [ev, fx, ↓reduceIte, Nat.reduceEqDiff, Nat.reduceLT, Nat.reduceLeDiff, Nat.reduceAdd, Nat.reduceSub, Nat.reduceMul, Int.reduceLT, Int.reduceLE, Int.reduceToNat, BitVec.reduceOfInt, BitVec.reduceToNat, reduceCtorEq, and_self, decide_true, decide_false, Bool.not_true, Bool.not_false, ne_eq, not_true_eq_false, not_false_eq_true, true_and, and_true]
  refine SemE.call fn_39 rfl rfl (appD b (cat tt) cs ki hd v2 fr.length _ B2 _ (hlm.at (k := 0) rfl) ho2 (HL.own (H := []) (by rw [List.append_nil]; exact hl2)) hbB (by omega)) ?_
  rintro _ w3 ⟨v3, B3, rfl, ho3, hl3⟩
  refine ⟨_, rfl, ?_⟩
  rw [← List.map_append] at ho3
  have hl3' := HL.callB (H := []) (by rw [List.append_nil]; exact hl2) hl3
  have hlen : fr.length + 108 = (fr ++ marB ki (cat tt)).length := by rw [List.length_append, marB_len]
  rw [hlen] at ho3
  have ht3 := ho3.txt hl3'
  have hg := hl.toGrow.trans (HL.toGrow (H := B3) (by rw [List.append_nil] at hl3'; exact hl3'))
  simp only [ev, fx, ↓reduceIte, Nat.reduceEqDiff, Nat.reduceLT, Nat.reduceLeDiff, Nat.reduceAdd, Nat.reduceSub, Nat.reduceMul, Int.reduceLT, Int.reduceLE, Int.reduceToNat, BitVec.reduceOfInt, BitVec.reduceToNat, reduceCtorEq, and_self, decide_true, decide_false, Bool.not_true, Bool.not_false, ne_eq, not_true_eq_false, not_false_eq_true, true_and, and_true]
  repeat (refine And.intro (by omega) ?_)
  refine hK _ _ ?_; clear hK K
  refine EWp.seqO (fun _ => false) [(0, 0), (1, 0), (2, 1), (3, 0), (4, 0)] [6, 7] mixed (by kernel_rfl) fun K hK => ?_
  have hgd := drewG w3
  simp only [ev, fx, ↓reduceIte, Nat.reduceEqDiff, Nat.reduceLT, Nat.reduceLeDiff, Nat.reduceAdd, Nat.reduceSub, Nat.reduceMul, Int.reduceLT, Int.reduceLE, Int.reduceToNat, BitVec.reduceOfInt, BitVec.reduceToNat, reduceCtorEq, and_self, decide_true, decide_false, Bool.not_true, Bool.not_false, ne_eq, not_true_eq_false, not_false_eq_true, true_and, and_true]
  refine StopR.mk _ (Quiet.plain (Plain.eqlErr iface_error rfl ErrV.nil)) rfl ?_
  simp only [ev, fx, ↓reduceIte, Nat.reduceEqDiff, Nat.reduceLT, Nat.reduceLeDiff, Nat.reduceAdd, Nat.reduceSub, Nat.reduceMul, Int.reduceLT, Int.reduceLE, Int.reduceToNat, BitVec.reduceOfInt, BitVec.reduceToNat, reduceCtorEq, and_self, decide_true, decide_false, Bool.not_true, Bool.not_false, ne_eq, not_true_eq_false, not_false_eq_true, true_and, and_true]
  repeat (refine And.intro (by omega) ?_)
  refine hK _ _ ?_; clear hK K
  exact EWp.ret (BodyE.tmp2 rfl rfl rfl ⟨v3, rfl, ht3.grow hgd, hg.trans hgd⟩)

set_option maxRecDepth 100000 in
/-- A kept state is taken up and goes on. -/
theorem unI (ki : Bool) (vs : SV) (T : List B8) (v : SV) (tt : List (List B8)) (w : World) (hko : KO w) (hts : Txt w vs (marB ki T)) (ht : Txs w v tt) (hf : tt.length ≤ 100 ∧ (cat tt).length ≤ 5000) (hT : T.length ≤ 100000) :
    Calls Tryd.prog 31 #[(SV.nat (kd ki)).val, vs.val, v.val] w fun e w' => ∃ v', e = .returned (SV.tup2 v' (.bool true)).val ∧ Txt w' v' (hashB ki (T ++ cat tt)) ∧ Grow w w' := by
  obtain ⟨a, c, rfl, hc, ha, hr⟩ := ht
  generalize hn : tt.length = n at *
  obtain ⟨av, cs', rfl, hcs, has, hrs⟩ := hts
  rw [marB_len] at hcs has
  have hml := marB_len ki T
  rw [show (SV.sl av (marB ki T).length cs') = SV.sl av 108 cs' by rw [hml]]
  refine calls_E [.nat (kd ki), .sl av 108 cs', .sl a n c] Tryd.func31 rfl Tryd.ntmps31 rfl ?_
  refine EWp.seqR [0, 1, 2] fun K hK => ?_
  simp only [ev, fx, ↓reduceIte, Nat.reduceEqDiff, Nat.reduceLT, Nat.reduceLeDiff, Nat.reduceAdd, Nat.reduceSub, Nat.reduceMul, Int.reduceLT, Int.reduceLE, Int.reduceToNat, BitVec.reduceOfInt, BitVec.reduceToNat, reduceCtorEq, and_self, decide_true, decide_false, Bool.not_true, Bool.not_false, ne_eq, not_true_eq_false, not_false_eq_true, true_and, and_true]
  repeat (refine And.intro (by omega) ?_)
  refine hK _ _ ?_; clear hK K
  refine EWp.seqR [1, 2, 8] fun K hK => ?_
  simp only [ev, fx, ↓reduceIte, Nat.reduceEqDiff, Nat.reduceLT, Nat.reduceLeDiff, Nat.reduceAdd, Nat.reduceSub, Nat.reduceMul, Int.reduceLT, Int.reduceLE, Int.reduceToNat, BitVec.reduceOfInt, BitVec.reduceToNat, reduceCtorEq, and_self, decide_true, decide_false, Bool.not_true, Bool.not_false, ne_eq, not_true_eq_false, not_false_eq_true, true_and, and_true]
  refine SemE.call fn_41 rfl rfl (new32_k ki _) ?_
  rintro _ w1 ⟨b, hb, rfl, hl⟩
  refine ⟨_, rfl, ?_⟩
  simp only [ev, fx, ↓reduceIte, Nat.reduceEqDiff, Nat.reduceLT, Nat.reduceLeDiff, Nat.reduceAdd, Nat.reduceSub, Nat.reduceMul, Int.reduceLT, Int.reduceLE, Int.reduceToNat, BitVec.reduceOfInt, BitVec.reduceToNat, reduceCtorEq, and_self, decide_true, decide_false, Bool.not_true, Bool.not_false, ne_eq, not_true_eq_false, not_false_eq_true, true_and, and_true]
  repeat (refine And.intro (by omega) ?_)
  refine hK _ _ ?_; clear hK K
  refine EWp.ifR [2, 8, 21] fun K hK => ?_
  simp only [ev, fx, ↓reduceIte, Nat.reduceEqDiff, Nat.reduceLT, Nat.reduceLeDiff, Nat.reduceAdd, Nat.reduceSub, Nat.reduceMul, Int.reduceLT, Int.reduceLE, Int.reduceToNat, BitVec.reduceOfInt, BitVec.reduceToNat, reduceCtorEq, and_self, decide_true, decide_false, Bool.not_true, Bool.not_false, ne_eq, not_true_eq_false, not_false_eq_true, true_and, and_true]
  refine SemE.plain (.bool false) (Plain.eqlNil (some ⟨b, 0, none⟩) ptr_59 rfl rfl rfl) rfl ?_
  simp only [ev, fx, ↓reduceIte, Nat.reduceEqDiff, Nat.reduceLT, Nat.reduceLeDiff, Nat.reduceAdd, Nat.reduceSub, Nat.reduceMul, Int.reduceLT, Int.reduceLE, Int.reduceToNat, BitVec.reduceOfInt, BitVec.reduceToNat, reduceCtorEq, and_self, decide_true, decide_false, Bool.not_true, Bool.not_false, ne_eq, not_true_eq_false, not_false_eq_true, true_and, and_true]
  refine SemE.call fn_33 rfl rfl (copiedC av 108 cs' ((marB ki T).map SV.u8) _ (hrs.grow hl.toGrow) (by rw [List.length_map, hml]) has (isOneB _) (by omega)) ?_
  rintro _ w2 ⟨v2, B2, rfl, ho2, hl2⟩
  refine ⟨_, rfl, ?_⟩
  have hlm := hl.more hl2
  have hnd := hlm.nd
  rw [List.map_append, List.nodup_append] at hnd
  have hbB : b ∉ B2.map (·.1) := fun hm => hnd.2.2 b (by simp) b hm rfl
  obtain ⟨a2, c2, rfl, hc2, ha2⟩ := ho2.shape
  have hrd := ho2.rd (H := []) (by rw [List.append_nil]; exact hl2) rfl
  have hoff := ho2.off (H := []) (by rw [List.append_nil]; exact hl2) (Y := [b]) rfl (by simpa using hbB)
  simp only [ev, fx, ↓reduceIte, Nat.reduceEqDiff, Nat.reduceLT, Nat.reduceLeDiff, Nat.reduceAdd, Nat.reduceSub, Nat.reduceMul, Int.reduceLT, Int.reduceLE, Int.reduceToNat, BitVec.reduceOfInt, BitVec.reduceToNat, reduceCtorEq, and_self, decide_true, decide_false, Bool.not_true, Bool.not_false, ne_eq, not_true_eq_false, not_false_eq_true, true_and, and_true]
  refine SemE.call fn_44 rfl rfl (unD b _ _ _ _ ki (by simp) T a2 c2 w2 (hlm.at (k := 0) rfl) hrd hc2 hoff (by omega)) ?_
  rintro _ w3 ⟨rfl, cs3, hd, hl3⟩
  refine ⟨_, rfl, ?_⟩
  have hl := (hlm.sub (List.sublist_append_left _ B2)).call (k := 0) rfl hl3
  simp only [List.set_cons_zero, List.append_nil] at hl
  clear hlm hl2 hl3 hrd hoff ho2
  simp only [ev, fx, ↓reduceIte, Nat.reduceEqDiff, Nat.reduceLT, Nat.reduceLeDiff, Nat.reduceAdd, Nat.reduceSub, Nat.reduceMul, Int.reduceLT, Int.reduceLE, Int.reduceToNat, BitVec.reduceOfInt, BitVec.reduceToNat, reduceCtorEq, and_self, decide_true, decide_false, Bool.not_true, Bool.not_false, ne_eq, not_true_eq_false, not_false_eq_true, true_and, and_true]
  refine SemE.plain (.bool false) (Plain.neqErr iface_error rfl ErrV.nil) rfl ?_
  simp only [ev, fx, ↓reduceIte, Nat.reduceEqDiff, Nat.reduceLT, Nat.reduceLeDiff, Nat.reduceAdd, Nat.reduceSub, Nat.reduceMul, Int.reduceLT, Int.reduceLE, Int.reduceToNat, BitVec.reduceOfInt, BitVec.reduceToNat, reduceCtorEq, and_self, decide_true, decide_false, Bool.not_true, Bool.not_false, ne_eq, not_true_eq_false, not_false_eq_true, true_and, and_true]
  refine hK _ _ false rfl (fun h => by cases h) (fun _ => ?_); clear hK K
  refine EWp.skipThen ?_
  refine EWp.cut [8] (fun S' w' => ∃ cs, S' = [(8, .ptr ⟨b, 0, none⟩)] ∧ Dig ki (T ++ cat tt) cs ∧ HL w w' [] [(b, 80, cs)]) ?_ ?_
  case refine_2 =>
    clear hl hd
    rintro S' w' ⟨cs, rfl, hd, hl⟩
    refine EWp.seqR [6, 7] fun K hK => ?_
    simp only [ev, fx, ↓reduceIte, Nat.reduceEqDiff, Nat.reduceLT, Nat.reduceLeDiff, Nat.reduceAdd, Nat.reduceSub, Nat.reduceMul, Int.reduceLT, Int.reduceLE, Int.reduceToNat, BitVec.reduceOfInt, BitVec.reduceToNat, reduceCtorEq, and_self, decide_true, decide_false, Bool.not_true, Bool.not_false, ne_eq, not_true_eq_false, not_false_eq_true, true_and, and_true]
    refine SemE.call fn_40 rfl rfl (sumD b (T ++ cat tt) cs ki hd (.sl none 0 0) 0 [] [] _ (hl.at (k := 0) rfl) (hko.keep hl (by simp)) (Own.nil _ _) (HL.start _) (by simp) (by simp) (by omega) (by rw [List.length_append]; omega)) ?_
    rintro _ w2 ⟨v, B, rfl, ho, hl2⟩
    refine ⟨_, rfl, ?_⟩
    have ht := (ho.cast (n' := (hashB ki (T ++ cat tt)).length) (by simp [hashB_len]) (List.nil_append _)).txt (H := []) (by rw [List.append_nil]; exact hl2)
    simp only [ev, fx, ↓reduceIte, Nat.reduceEqDiff, Nat.reduceLT, Nat.reduceLeDiff, Nat.reduceAdd, Nat.reduceSub, Nat.reduceMul, Int.reduceLT, Int.reduceLE, Int.reduceToNat, BitVec.reduceOfInt, BitVec.reduceToNat, reduceCtorEq, and_self, decide_true, decide_false, Bool.not_true, Bool.not_false, ne_eq, not_true_eq_false, not_false_eq_true, true_and, and_true]
    repeat (refine And.intro (by omega) ?_)
    refine hK _ _ ?_; clear hK K
    exact EWp.ret (BodyE.tmp2 rfl rfl rfl ⟨v, rfl, ht, hl.toGrow.trans hl2.toGrow⟩)
  refine EWp.seqR [8, 22, 23, 24] fun K hK => ?_
  simp only [ev, fx, ↓reduceIte, Nat.reduceEqDiff, Nat.reduceLT, Nat.reduceLeDiff, Nat.reduceAdd, Nat.reduceSub, Nat.reduceMul, Int.reduceLT, Int.reduceLE, Int.reduceToNat, BitVec.reduceOfInt, BitVec.reduceToNat, reduceCtorEq, and_self, decide_true, decide_false, Bool.not_true, Bool.not_false, ne_eq, not_true_eq_false, not_false_eq_true, true_and, and_true]
  repeat (refine And.intro (by omega) ?_)
  refine hK _ _ ?_; clear hK K
  refine EWp.block ?_
  refine EWp.loop [8, 22, 23, 24] (fun k S' w' => ∃ i cs, i ≤ n ∧ k = n - i ∧ S' = [(8, .ptr ⟨b, 0, none⟩), (22, .sl a n c), (23, .nat n), (24, .nat i)] ∧ Dig ki (T ++ cat (tt.take i)) cs ∧ HL w w' [] [(b, 80, cs)]) n ?_ ?_
  case refine_1 => exact ⟨0, cs3, by omega, rfl, rfl, by simpa [cat] using hd, hl⟩
  clear hl hd
  rintro k S' w' ⟨i, cs, hi, rfl, rfl, hd, hl⟩
  refine EWp.seqR [8, 22, 23, 24, 25] fun K hK => ?_
  simp only [ev, fx, ↓reduceIte, Nat.reduceEqDiff, Nat.reduceLT, Nat.reduceLeDiff, Nat.reduceAdd, Nat.reduceSub, Nat.reduceMul, Int.reduceLT, Int.reduceLE, Int.reduceToNat, BitVec.reduceOfInt, BitVec.reduceToNat, reduceCtorEq, and_self, decide_true, decide_false, Bool.not_true, Bool.not_false, ne_eq, not_true_eq_false, not_false_eq_true, true_and, and_true]
  repeat (refine And.intro (by omega) ?_)
  refine hK _ _ ?_; clear hK K
  refine EWp.guard (b := decide (i < n)) rfl (fun hlt => ?_) (fun hlt => ?_)
  case refine_2 =>
    have hlt := of_decide_eq_false hlt
    simp only [BlockE, ThenE, ↓reduceIte]
    have : tt.take i = tt := List.take_of_length_le (by omega)
    rw [this] at hd
    exact ⟨cs, rfl, hd, hl⟩
  have hlt := of_decide_eq_true hlt
  have hsucc := cat_take_succ tt i (by omega)
  have hle : (cat (tt.take (i + 1))).length ≤ (cat tt).length := by
    have h2 : cat tt = cat (tt.take (i + 1)) ++ cat (tt.drop (i + 1)) := by unfold cat; rw [← List.flatten_append, List.take_append_drop]
    rw [h2, List.length_append]; omega
  have hlen := congrArg List.length hsucc
  rw [List.length_append] at hlen
  obtain ⟨p, v1, rfl, hcell, a', c', rfl, hc', ha', hr'⟩ := (hr.grow hl.toGrow).at (i := i) (by omega)
  generalize hq : tt.getD i [] = q at *
  refine EWp.cut [8, 22, 23, 24] (fun S' w' => ∃ cs, S' = [(8, .ptr ⟨b, 0, none⟩), (22, .sl (some p) n c), (23, .nat n), (24, .nat i)] ∧ Dig ki (T ++ cat (tt.take (i + 1))) cs ∧ HL w w' [] [(b, 80, cs)]) ?_ ?_
  case refine_2 =>
    clear hl hd cs
    rintro S' w' ⟨cs, rfl, hd, hl⟩
    refine EWp.regR [8, 22, 23, 24] fun K hK => ?_
    simp only [ev, fx, ↓reduceIte, Nat.reduceEqDiff, Nat.reduceLT, Nat.reduceLeDiff, Nat.reduceAdd, Nat.reduceSub, Nat.reduceMul, Int.reduceLT, Int.reduceLE, Int.reduceToNat, BitVec.reduceOfInt, BitVec.reduceToNat, reduceCtorEq, and_self, decide_true, decide_false, Bool.not_true, Bool.not_false, ne_eq, not_true_eq_false, not_false_eq_true, true_and, and_true]
    exact ⟨by omega, hK _ _ fun S1 h1 => ⟨n - i - 1, by omega, i + 1, cs, by omega, by omega, h1, hd, hl⟩⟩
  refine EWp.block ?_
  refine EWp.seqR [8, 10, 22, 23, 24] fun K hK => ?_
  simp only [ev, fx, ↓reduceIte, Nat.reduceEqDiff, Nat.reduceLT, Nat.reduceLeDiff, Nat.reduceAdd, Nat.reduceSub, Nat.reduceMul, Int.reduceLT, Int.reduceLE, Int.reduceToNat, BitVec.reduceOfInt, BitVec.reduceToNat, reduceCtorEq, and_self, decide_true, decide_false, Bool.not_true, Bool.not_false, ne_eq, not_true_eq_false, not_false_eq_true, true_and, and_true]
  refine ⟨by omega, SemE.load (.sl a' q.length c') rfl one_23 rfl hcell ?_⟩
  simp only [ev, fx, ↓reduceIte, Nat.reduceEqDiff, Nat.reduceLT, Nat.reduceLeDiff, Nat.reduceAdd, Nat.reduceSub, Nat.reduceMul, Int.reduceLT, Int.reduceLE, Int.reduceToNat, BitVec.reduceOfInt, BitVec.reduceToNat, reduceCtorEq, and_self, decide_true, decide_false, Bool.not_true, Bool.not_false, ne_eq, not_true_eq_false, not_false_eq_true, true_and, and_true]
  repeat (refine And.intro (by omega) ?_)
  refine hK _ _ ?_; clear hK K
  refine EWp.regR [8, 22, 23, 24] fun K hK => ?_
  simp only [ev, fx, ↓reduceIte, Nat.reduceEqDiff, Nat.reduceLT, Nat.reduceLeDiff, Nat.reduceAdd, Nat.reduceSub, Nat.reduceMul, Int.reduceLT, Int.reduceLE, Int.reduceToNat, BitVec.reduceOfInt, BitVec.reduceToNat, reduceCtorEq, and_self, decide_true, decide_false, Bool.not_true, Bool.not_false, ne_eq, not_true_eq_false, not_false_eq_true, true_and, and_true]
  refine SemE.call fn_33 rfl rfl (copiedC a' q.length c' (q.map SV.u8) _ hr' (by simp) ha' (isOneB q) (by omega)) ?_
  rintro _ w2 ⟨v2, B, rfl, ho, hl2⟩
  refine ⟨_, rfl, ?_⟩
  simp only [ev, fx, ↓reduceIte, Nat.reduceEqDiff, Nat.reduceLT, Nat.reduceLeDiff, Nat.reduceAdd, Nat.reduceSub, Nat.reduceMul, Int.reduceLT, Int.reduceLE, Int.reduceToNat, BitVec.reduceOfInt, BitVec.reduceToNat, reduceCtorEq, and_self, decide_true, decide_false, Bool.not_true, Bool.not_false, ne_eq, not_true_eq_false, not_false_eq_true, true_and, and_true]
  refine SemE.call fn_42 rfl rfl (writeCopy b (T ++ cat (tt.take i)) q cs ki hd w _ hko hb hl v2 B w2 ho hl2 (by omega)) ?_
  rintro _ w3 ⟨rfl, cs', hd', hl3⟩
  refine ⟨_, rfl, ?_⟩
  simp only [ev, fx, ↓reduceIte, Nat.reduceEqDiff, Nat.reduceLT, Nat.reduceLeDiff, Nat.reduceAdd, Nat.reduceSub, Nat.reduceMul, Int.reduceLT, Int.reduceLE, Int.reduceToNat, BitVec.reduceOfInt, BitVec.reduceToNat, reduceCtorEq, and_self, decide_true, decide_false, Bool.not_true, Bool.not_false, ne_eq, not_true_eq_false, not_false_eq_true, true_and, and_true]
  refine hK _ _ fun S1 h1 => ?_; clear hK K
  simp only [BlockE, ThenE]
  exact ⟨cs', h1, by rw [hsucc, ← List.append_assoc]; exact hd', hl3⟩

set_option maxRecDepth 100000 in
/-- Bytes that are no kept state are refused. -/
theorem unIF (ki : Bool) (vs : SV) (bs : List B8) (v : SV) (tt : List (List B8)) (w : World) (hts : Txt w vs bs) (hbig : bs.length ≤ 100000) (hbad : bs.length ≠ 108 ∨ bs.take 4 ≠ magicB ki) :
    Calls Tryd.prog 31 #[(SV.nat (kd ki)).val, vs.val, v.val] w fun e w' => e = .returned (SV.tup2 (.sl none 0 0) (.bool false)).val ∧ Grow w w' := by
  obtain ⟨av, cs', rfl, hcs, has, hrs⟩ := hts
  generalize hm : bs.length = m at *
  refine calls_E [.nat (kd ki), .sl av m cs', v] Tryd.func31 rfl Tryd.ntmps31 rfl ?_
  refine EWp.seqR [0, 1, 2] fun K hK => ?_
  simp only [ev, fx, ↓reduceIte, Nat.reduceEqDiff, Nat.reduceLT, Nat.reduceLeDiff, Nat.reduceAdd, Nat.reduceSub, Nat.reduceMul, Int.reduceLT, Int.reduceLE, Int.reduceToNat, BitVec.reduceOfInt, BitVec.reduceToNat, reduceCtorEq, and_self, decide_true, decide_false, Bool.not_true, Bool.not_false, ne_eq, not_true_eq_false, not_false_eq_true, true_and, and_true]
  repeat (refine And.intro (by omega) ?_)
  refine hK _ _ ?_; clear hK K
  refine EWp.seqR [1, 2, 8] fun K hK => ?_
  simp only [ev, fx, ↓reduceIte, Nat.reduceEqDiff, Nat.reduceLT, Nat.reduceLeDiff, Nat.reduceAdd, Nat.reduceSub, Nat.reduceMul, Int.reduceLT, Int.reduceLE, Int.reduceToNat, BitVec.reduceOfInt, BitVec.reduceToNat, reduceCtorEq, and_self, decide_true, decide_false, Bool.not_true, Bool.not_false, ne_eq, not_true_eq_false, not_false_eq_true, true_and, and_true]
  refine SemE.call fn_41 rfl rfl (new32_k ki _) ?_
  rintro _ w1 ⟨b, hb, rfl, hl⟩
  refine ⟨_, rfl, ?_⟩
  simp only [ev, fx, ↓reduceIte, Nat.reduceEqDiff, Nat.reduceLT, Nat.reduceLeDiff, Nat.reduceAdd, Nat.reduceSub, Nat.reduceMul, Int.reduceLT, Int.reduceLE, Int.reduceToNat, BitVec.reduceOfInt, BitVec.reduceToNat, reduceCtorEq, and_self, decide_true, decide_false, Bool.not_true, Bool.not_false, ne_eq, not_true_eq_false, not_false_eq_true, true_and, and_true]
  repeat (refine And.intro (by omega) ?_)
  refine hK _ _ ?_; clear hK K
  refine EWp.ifR [2, 8, 21] fun K hK => ?_
  simp only [ev, fx, ↓reduceIte, Nat.reduceEqDiff, Nat.reduceLT, Nat.reduceLeDiff, Nat.reduceAdd, Nat.reduceSub, Nat.reduceMul, Int.reduceLT, Int.reduceLE, Int.reduceToNat, BitVec.reduceOfInt, BitVec.reduceToNat, reduceCtorEq, and_self, decide_true, decide_false, Bool.not_true, Bool.not_false, ne_eq, not_true_eq_false, not_false_eq_true, true_and, and_true]
  refine SemE.plain (.bool false) (Plain.eqlNil (some ⟨b, 0, none⟩) ptr_59 rfl rfl rfl) rfl ?_
  simp only [ev, fx, ↓reduceIte, Nat.reduceEqDiff, Nat.reduceLT, Nat.reduceLeDiff, Nat.reduceAdd, Nat.reduceSub, Nat.reduceMul, Int.reduceLT, Int.reduceLE, Int.reduceToNat, BitVec.reduceOfInt, BitVec.reduceToNat, reduceCtorEq, and_self, decide_true, decide_false, Bool.not_true, Bool.not_false, ne_eq, not_true_eq_false, not_false_eq_true, true_and, and_true]
  refine SemE.call fn_33 rfl rfl (copiedC av m cs' (bs.map SV.u8) _ (hrs.grow hl.toGrow) (by rw [List.length_map, hm]) has (isOneB _) (by omega)) ?_
  rintro _ w2 ⟨v2, B2, rfl, ho2, hl2⟩
  refine ⟨_, rfl, ?_⟩
  have hlm := hl.more hl2
  rw [← hm] at ho2
  have ht2 := ho2.txt (H := []) (by rw [List.append_nil]; exact hl2)
  rw [← hm] at hbad
  obtain ⟨a2, c2, rfl, hc2, ha2, hr2⟩ := ht2
  simp only [ev, fx, ↓reduceIte, Nat.reduceEqDiff, Nat.reduceLT, Nat.reduceLeDiff, Nat.reduceAdd, Nat.reduceSub, Nat.reduceMul, Int.reduceLT, Int.reduceLE, Int.reduceToNat, BitVec.reduceOfInt, BitVec.reduceToNat, reduceCtorEq, and_self, decide_true, decide_false, Bool.not_true, Bool.not_false, ne_eq, not_true_eq_false, not_false_eq_true, true_and, and_true]
  refine SemE.call fn_44 rfl rfl (unF b _ _ _ _ ki (by simp) bs a2 bs.length c2 w2 (hlm.at (k := 0) rfl) (Txt.mk hr2 rfl hc2 ha2) hbad) ?_
  rintro _ w3 ⟨v3, rfl, he3, hg3⟩
  rcases he3 with ⟨h, _⟩ | ⟨_, u3, x3, rfl⟩
  · cases h
  refine ⟨_, rfl, ?_⟩
  have hg := (hl.toGrow.trans hl2.toGrow).trans hg3
  simp only [ev, fx, ↓reduceIte, Nat.reduceEqDiff, Nat.reduceLT, Nat.reduceLeDiff, Nat.reduceAdd, Nat.reduceSub, Nat.reduceMul, Int.reduceLT, Int.reduceLE, Int.reduceToNat, BitVec.reduceOfInt, BitVec.reduceToNat, reduceCtorEq, and_self, decide_true, decide_false, Bool.not_true, Bool.not_false, ne_eq, not_true_eq_false, not_false_eq_true, true_and, and_true]
  refine SemE.plain (.bool true) (Plain.neqErr iface_error rfl (ErrV.held u3 x3)) rfl ?_
  simp only [ev, fx, ↓reduceIte, Nat.reduceEqDiff, Nat.reduceLT, Nat.reduceLeDiff, Nat.reduceAdd, Nat.reduceSub, Nat.reduceMul, Int.reduceLT, Int.reduceLE, Int.reduceToNat, BitVec.reduceOfInt, BitVec.reduceToNat, reduceCtorEq, and_self, decide_true, decide_false, Bool.not_true, Bool.not_false, ne_eq, not_true_eq_false, not_false_eq_true, true_and, and_true]
  refine hK _ _ true rfl (fun _ => ?_) (fun h => by cases h); clear hK K
  refine EWp.seqR [6, 7] fun K hK => ?_
  simp only [ev, fx, ↓reduceIte, Nat.reduceEqDiff, Nat.reduceLT, Nat.reduceLeDiff, Nat.reduceAdd, Nat.reduceSub, Nat.reduceMul, Int.reduceLT, Int.reduceLE, Int.reduceToNat, BitVec.reduceOfInt, BitVec.reduceToNat, reduceCtorEq, and_self, decide_true, decide_false, Bool.not_true, Bool.not_false, ne_eq, not_true_eq_false, not_false_eq_true, true_and, and_true]
  repeat (refine And.intro (by omega) ?_)
  refine hK _ _ ?_; clear hK K
  exact EWp.retT (BodyE.tmp2 rfl rfl rfl ⟨rfl, hg⟩)
end Go.Proofs.YtkfblgkicopjjaaDoor
