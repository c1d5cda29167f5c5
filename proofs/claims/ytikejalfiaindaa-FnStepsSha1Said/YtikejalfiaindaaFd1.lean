/- A digest of SHA-1 behind pieces; its sum. -/
import Derived.Test.YtikejalfiaindaaSm1
import Derived.Test.YtikejalfiaindaaPc
import Derived.Test.YtikejalfiaindaaImpB1
set_option linter.unusedVariables false
set_option linter.unusedSimpArgs false
namespace Go.Proofs.Ytikejalfiaindaa
open Go

/-- One piece more: a copy of it is written. -/
theorem writeCopy (b : Nat) (T q : List B8) (cs : List SV) (hd : Dig T cs) (w0 w : World) (hl : HL w0 w [] [(b, 73, cs)]) (v : SV) (B : List Blk) (w1 : World) (ho : Own 5 1 v q.length (q.map SV.u8) B) (hl1 : HL w w1 [] B) (hbig : q.length ≤ 68719476736) :
    Calls Try.prog 44 #[(SV.ptr ⟨b, 0, none⟩).val, v.val] w1 fun e w' => e = .returned (SV.tup2 (.nat q.length) (.raw .nilIface)).val ∧ ∃ cs', Dig (T ++ q) cs' ∧ HL w0 w' [] [(b, 73, cs')] := by
  have hlm := hl.more hl1
  have hnd := hlm.nd
  rw [List.map_append, List.nodup_append] at hnd
  have hbB : b ∉ B.map (·.1) := fun hm => hnd.2.2 b (by simp) b hm rfl
  obtain ⟨a, c, rfl, hc, ha⟩ := ho.shape
  have hrd := ho.rd (H := []) (by rw [List.append_nil]; exact hl1) rfl
  have hoff := ho.off (H := []) (by rw [List.append_nil]; exact hl1) (Y := [b]) rfl (by simpa using hbB)
  refine (writeD b T cs hd a q.length c q w1 (hlm.at (k := 0) rfl) hrd rfl hc ha hoff hbig).mono ?_
  rintro e w' ⟨he, cs', hd', hl'⟩
  refine ⟨he, cs', hd', ?_⟩
  have := (hlm.sub (List.sublist_append_left _ B)).call (k := 0) rfl hl'
  simpa using this

theorem fed1 (a : Option Addr) (n c : Nat) (tt : List (List B8)) (w : World) (hr : RdD w a tt) (hn : tt.length = n) (hn1 : n ≤ 100) (hbig : (cat tt).length ≤ 5000) :
    Calls Try.prog 38 #[(SV.nat 6).val, (SV.sl a n c).val] w fun e w' => ∃ b cs, w.heap.size ≤ b ∧ e = .returned (SV.ptr ⟨b, 0, none⟩).val ∧ Dig (cat tt) cs ∧
      HL w w' [] [(b, 73, cs)] := by
  refine calls_E [.nat 6, .sl a n c] Try.func38 rfl Try.ntmps38 rfl ?_
  refine EWp.seqR [0, 1] fun K hK => ?_
  simp only [ev, fx, ↓reduceIte, Nat.reduceEqDiff, Nat.reduceLT, Nat.reduceLeDiff, Nat.reduceAdd, Nat.reduceSub, Nat.reduceMul, Int.reduceLT, Int.reduceLE, Int.reduceToNat, BitVec.reduceOfInt, BitVec.reduceToNat, reduceCtorEq, and_self, decide_true, decide_false, Bool.not_true, Bool.not_false, ne_eq, not_true_eq_false, not_false_eq_true, true_and, and_true]
  repeat (refine And.intro (by omega) ?_)
  refine hK _ _ ?_; clear hK K
  refine EWp.seqR [1, 5] fun K hK => ?_
  simp only [ev, fx, ↓reduceIte, Nat.reduceEqDiff, Nat.reduceLT, Nat.reduceLeDiff, Nat.reduceAdd, Nat.reduceSub, Nat.reduceMul, Int.reduceLT, Int.reduceLE, Int.reduceToNat, BitVec.reduceOfInt, BitVec.reduceToNat, reduceCtorEq, and_self, decide_true, decide_false, Bool.not_true, Bool.not_false, ne_eq, not_true_eq_false, not_false_eq_true, true_and, and_true]
  refine SemE.call fn_43 rfl rfl (newSha1_6 _) ?_
  rintro _ w1 ⟨b, hb, rfl, hl⟩
  refine ⟨_, rfl, ?_⟩
  simp only [ev, fx, ↓reduceIte, Nat.reduceEqDiff, Nat.reduceLT, Nat.reduceLeDiff, Nat.reduceAdd, Nat.reduceSub, Nat.reduceMul, Int.reduceLT, Int.reduceLE, Int.reduceToNat, BitVec.reduceOfInt, BitVec.reduceToNat, reduceCtorEq, and_self, decide_true, decide_false, Bool.not_true, Bool.not_false, ne_eq, not_true_eq_false, not_false_eq_true, true_and, and_true]
  repeat (refine And.intro (by omega) ?_)
  refine hK _ _ ?_; clear hK K
  refine EWp.ifR [1, 5, 11] fun K hK => ?_
  simp only [ev, fx, ↓reduceIte, Nat.reduceEqDiff, Nat.reduceLT, Nat.reduceLeDiff, Nat.reduceAdd, Nat.reduceSub, Nat.reduceMul, Int.reduceLT, Int.reduceLE, Int.reduceToNat, BitVec.reduceOfInt, BitVec.reduceToNat, reduceCtorEq, and_self, decide_true, decide_false, Bool.not_true, Bool.not_false, ne_eq, not_true_eq_false, not_false_eq_true, true_and, and_true]
  refine SemE.plain _ (Plain.eqlNil (some ⟨b, 0, none⟩) ptr_57 rfl rfl rfl) rfl ?_
  simp only [ev, fx, ↓reduceIte, Nat.reduceEqDiff, Nat.reduceLT, Nat.reduceLeDiff, Nat.reduceAdd, Nat.reduceSub, Nat.reduceMul, Int.reduceLT, Int.reduceLE, Int.reduceToNat, BitVec.reduceOfInt, BitVec.reduceToNat, reduceCtorEq, and_self, decide_true, decide_false, Bool.not_true, Bool.not_false, ne_eq, not_true_eq_false, not_false_eq_true, true_and, and_true]
  refine hK _ _ false rfl (fun h => by cases h) (fun _ => ?_); clear hK K
  refine EWp.skipThen ?_
  have hd : Dig [] (digC init1 (List.replicate 64 0) 0 0) := Dig.new
  generalize digC init1 (List.replicate 64 0) 0 0 = cs at hl hd
  refine EWp.cut [5] (fun S' w' => ∃ cs, S' = [(5, .ptr ⟨b, 0, none⟩)] ∧ Dig (cat tt) cs ∧ HL w w' [] [(b, 73, cs)]) ?_ ?_
  case refine_2 =>
    clear hl hd cs
    rintro S' w' ⟨cs, rfl, hd, hl⟩
    refine EWp.seqR [4] fun K hK => ?_
    simp only [ev, fx, ↓reduceIte, Nat.reduceEqDiff, Nat.reduceLT, Nat.reduceLeDiff, Nat.reduceAdd, Nat.reduceSub, Nat.reduceMul, Int.reduceLT, Int.reduceLE, Int.reduceToNat, BitVec.reduceOfInt, BitVec.reduceToNat, reduceCtorEq, and_self, decide_true, decide_false, Bool.not_true, Bool.not_false, ne_eq, not_true_eq_false, not_false_eq_true, true_and, and_true]
    repeat (refine And.intro (by omega) ?_)
    refine hK _ _ ?_; clear hK K
    exact EWp.ret (BodyE.tmp1 rfl rfl ⟨b, cs, hb, rfl, hd, hl⟩)
  refine EWp.seqR [5, 12, 13, 14] fun K hK => ?_
  simp only [ev, fx, ↓reduceIte, Nat.reduceEqDiff, Nat.reduceLT, Nat.reduceLeDiff, Nat.reduceAdd, Nat.reduceSub, Nat.reduceMul, Int.reduceLT, Int.reduceLE, Int.reduceToNat, BitVec.reduceOfInt, BitVec.reduceToNat, reduceCtorEq, and_self, decide_true, decide_false, Bool.not_true, Bool.not_false, ne_eq, not_true_eq_false, not_false_eq_true, true_and, and_true]
  repeat (refine And.intro (by omega) ?_)
  refine hK _ _ ?_; clear hK K
  refine EWp.block ?_
  refine EWp.loop [5, 12, 13, 14] (fun k S' w' => ∃ i cs, i ≤ n ∧ k = n - i ∧ S' = [(5, .ptr ⟨b, 0, none⟩), (12, .sl a n c), (13, .nat n), (14, .nat i)] ∧ Dig (cat (tt.take i)) cs ∧ HL w w' [] [(b, 73, cs)]) n ?_ ?_
  case refine_1 => exact ⟨0, cs, by omega, rfl, rfl, hd, hl⟩
  clear hl hd cs
  rintro k S' w' ⟨i, cs, hi, rfl, rfl, hd, hl⟩
  refine EWp.seqR [5, 12, 13, 14, 15] fun K hK => ?_
  simp only [ev, fx, ↓reduceIte, Nat.reduceEqDiff, Nat.reduceLT, Nat.reduceLeDiff, Nat.reduceAdd, Nat.reduceSub, Nat.reduceMul, Int.reduceLT, Int.reduceLE, Int.reduceToNat, BitVec.reduceOfInt, BitVec.reduceToNat, reduceCtorEq, and_self, decide_true, decide_false, Bool.not_true, Bool.not_false, ne_eq, not_true_eq_false, not_false_eq_true, true_and, and_true]
  repeat (refine And.intro (by omega) ?_)
  refine hK _ _ ?_; clear hK K
  refine EWp.guard (b := decide (i < n)) rfl (fun hlt => ?_) (fun hlt => ?_)
  case refine_2 =>
    have hlt := of_decide_eq_false hlt
    simp only [BlockE, ThenE, ↓reduceIte]
    have : tt.take i = tt := List.take_of_length_le (by omega)
    rw [this] at hd
    exact ⟨cs, rfl, hd, hl⟩
  have hlt := of_decide_eq_true hlt
  have hsucc := cat_take_succ tt i (by omega)
  have hle : (cat (tt.take (i + 1))).length ≤ (cat tt).length := by
    have h2 : cat tt = cat (tt.take (i + 1)) ++ cat (tt.drop (i + 1)) := by unfold cat; rw [← List.flatten_append, List.take_append_drop]
    rw [h2, List.length_append]; omega
  have hlen := congrArg List.length hsucc
  rw [List.length_append] at hlen
  obtain ⟨p, v1, rfl, hcell, a', c', rfl, hc', ha', hr'⟩ := (hr.grow hl.toGrow).at (i := i) (by omega)
  generalize hq : tt.getD i [] = q at *
  refine EWp.cut [5, 12, 13, 14] (fun S' w' => ∃ cs, S' = [(5, .ptr ⟨b, 0, none⟩), (12, .sl (some p) n c), (13, .nat n), (14, .nat i)] ∧ Dig (cat (tt.take (i + 1))) cs ∧ HL w w' [] [(b, 73, cs)]) ?_ ?_
  case refine_2 =>
    clear hl hd cs
    rintro S' w' ⟨cs, rfl, hd, hl⟩
    refine EWp.regR [5, 12, 13, 14] fun K hK => ?_
    simp only [ev, fx, ↓reduceIte, Nat.reduceEqDiff, Nat.reduceLT, Nat.reduceLeDiff, Nat.reduceAdd, Nat.reduceSub, Nat.reduceMul, Int.reduceLT, Int.reduceLE, Int.reduceToNat, BitVec.reduceOfInt, BitVec.reduceToNat, reduceCtorEq, and_self, decide_true, decide_false, Bool.not_true, Bool.not_false, ne_eq, not_true_eq_false, not_false_eq_true, true_and, and_true]
    exact ⟨by omega, hK _ _ fun S1 h1 => ⟨n - i - 1, by omega, i + 1, cs, by omega, by omega, h1, hd, hl⟩⟩
  refine EWp.block ?_
  refine EWp.seqR [5, 7, 12, 13, 14] fun K hK => ?_
  simp only [ev, fx, ↓reduceIte, Nat.reduceEqDiff, Nat.reduceLT, Nat.reduceLeDiff, Nat.reduceAdd, Nat.reduceSub, Nat.reduceMul, Int.reduceLT, Int.reduceLE, Int.reduceToNat, BitVec.reduceOfInt, BitVec.reduceToNat, reduceCtorEq, and_self, decide_true, decide_false, Bool.not_true, Bool.not_false, ne_eq, not_true_eq_false, not_false_eq_true, true_and, and_true]
  refine ⟨by omega, SemE.load (.sl a' q.length c') rfl one_23 rfl hcell ?_⟩
  simp only [ev, fx, ↓reduceIte, Nat.reduceEqDiff, Nat.reduceLT, Nat.reduceLeDiff, Nat.reduceAdd, Nat.reduceSub, Nat.reduceMul, Int.reduceLT, Int.reduceLE, Int.reduceToNat, BitVec.reduceOfInt, BitVec.reduceToNat, reduceCtorEq, and_self, decide_true, decide_false, Bool.not_true, Bool.not_false, ne_eq, not_true_eq_false, not_false_eq_true, true_and, and_true]
  repeat (refine And.intro (by omega) ?_)
  refine hK _ _ ?_; clear hK K
  refine EWp.regR [5, 12, 13, 14] fun K hK => ?_
  simp only [ev, fx, ↓reduceIte, Nat.reduceEqDiff, Nat.reduceLT, Nat.reduceLeDiff, Nat.reduceAdd, Nat.reduceSub, Nat.reduceMul, Int.reduceLT, Int.reduceLE, Int.reduceToNat, BitVec.reduceOfInt, BitVec.reduceToNat, reduceCtorEq, and_self, decide_true, decide_false, Bool.not_true, Bool.not_false, ne_eq, not_true_eq_false, not_false_eq_true, true_and, and_true]
  refine SemE.call fn_35 rfl rfl (copiedC a' q.length c' (q.map SV.u8) _ hr' (by simp) ha' (isOneB q) (by omega)) ?_
  rintro _ w2 ⟨v2, B, rfl, ho, hl2⟩
  refine ⟨_, rfl, ?_⟩
  simp only [ev, fx, ↓reduceIte, Nat.reduceEqDiff, Nat.reduceLT, Nat.reduceLeDiff, Nat.reduceAdd, Nat.reduceSub, Nat.reduceMul, Int.reduceLT, Int.reduceLE, Int.reduceToNat, BitVec.reduceOfInt, BitVec.reduceToNat, reduceCtorEq, and_self, decide_true, decide_false, Bool.not_true, Bool.not_false, ne_eq, not_true_eq_false, not_false_eq_true, true_and, and_true]
  refine SemE.call fn_44 rfl rfl (writeCopy b (cat (tt.take i)) q cs hd w _ hl v2 B w2 ho hl2 (by omega)) ?_
  rintro _ w3 ⟨rfl, cs', hd', hl3⟩
  refine ⟨_, rfl, ?_⟩
  simp only [ev, fx, ↓reduceIte, Nat.reduceEqDiff, Nat.reduceLT, Nat.reduceLeDiff, Nat.reduceAdd, Nat.reduceSub, Nat.reduceMul, Int.reduceLT, Int.reduceLE, Int.reduceToNat, BitVec.reduceOfInt, BitVec.reduceToNat, reduceCtorEq, and_self, decide_true, decide_false, Bool.not_true, Bool.not_false, ne_eq, not_true_eq_false, not_false_eq_true, true_and, and_true]
  refine hK _ _ fun S1 h1 => ?_; clear hK K
  simp only [BlockE, ThenE]
  exact ⟨cs', h1, by rw [hsucc]; exact hd', hl3⟩

/-- The hash of pieces. -/
theorem hash1 (a : Option Addr) (n c : Nat) (tt : List (List B8)) (w : World) (hr : RdD w a tt) (hn : tt.length = n) (hn1 : n ≤ 100) (hbig : (cat tt).length ≤ 5000) :
    Calls Try.prog 25 #[(SV.nat 6).val, (SV.sl a n c).val] w fun e w' => ∃ v B, e = .returned v.val ∧ Own 5 1 v 20 ((sha1B (cat tt)).map SV.u8) B ∧ HL w w' [] B := by
  refine calls_E [.nat 6, .sl a n c] Try.func25 rfl Try.ntmps25 rfl ?_
  refine EWp.seqR [0, 1] fun K hK => ?_
  simp only [ev, fx, ↓reduceIte, Nat.reduceEqDiff, Nat.reduceLT, Nat.reduceLeDiff, Nat.reduceAdd, Nat.reduceSub, Nat.reduceMul, Int.reduceLT, Int.reduceLE, Int.reduceToNat, BitVec.reduceOfInt, BitVec.reduceToNat, reduceCtorEq, and_self, decide_true, decide_false, Bool.not_true, Bool.not_false, ne_eq, not_true_eq_false, not_false_eq_true, true_and, and_true]
  repeat (refine And.intro (by omega) ?_)
  refine hK _ _ ?_; clear hK K
  refine EWp.seqR [5] fun K hK => ?_
  simp only [ev, fx, ↓reduceIte, Nat.reduceEqDiff, Nat.reduceLT, Nat.reduceLeDiff, Nat.reduceAdd, Nat.reduceSub, Nat.reduceMul, Int.reduceLT, Int.reduceLE, Int.reduceToNat, BitVec.reduceOfInt, BitVec.reduceToNat, reduceCtorEq, and_self, decide_true, decide_false, Bool.not_true, Bool.not_false, ne_eq, not_true_eq_false, not_false_eq_true, true_and, and_true]
  refine SemE.call fn_38 rfl rfl (fed1 a n c tt _ hr hn hn1 hbig) ?_
  rintro _ w1 ⟨b, cs, hb, rfl, hd, hl⟩
  refine ⟨_, rfl, ?_⟩
  simp only [ev, fx, ↓reduceIte, Nat.reduceEqDiff, Nat.reduceLT, Nat.reduceLeDiff, Nat.reduceAdd, Nat.reduceSub, Nat.reduceMul, Int.reduceLT, Int.reduceLE, Int.reduceToNat, BitVec.reduceOfInt, BitVec.reduceToNat, reduceCtorEq, and_self, decide_true, decide_false, Bool.not_true, Bool.not_false, ne_eq, not_true_eq_false, not_false_eq_true, true_and, and_true]
  repeat (refine And.intro (by omega) ?_)
  refine hK _ _ ?_; clear hK K
  refine EWp.ifR [5, 10] fun K hK => ?_
  simp only [ev, fx, ↓reduceIte, Nat.reduceEqDiff, Nat.reduceLT, Nat.reduceLeDiff, Nat.reduceAdd, Nat.reduceSub, Nat.reduceMul, Int.reduceLT, Int.reduceLE, Int.reduceToNat, BitVec.reduceOfInt, BitVec.reduceToNat, reduceCtorEq, and_self, decide_true, decide_false, Bool.not_true, Bool.not_false, ne_eq, not_true_eq_false, not_false_eq_true, true_and, and_true]
  refine SemE.plain _ (Plain.eqlNil (some ⟨b, 0, none⟩) ptr_57 rfl rfl rfl) rfl ?_
  simp only [ev, fx, ↓reduceIte, Nat.reduceEqDiff, Nat.reduceLT, Nat.reduceLeDiff, Nat.reduceAdd, Nat.reduceSub, Nat.reduceMul, Int.reduceLT, Int.reduceLE, Int.reduceToNat, BitVec.reduceOfInt, BitVec.reduceToNat, reduceCtorEq, and_self, decide_true, decide_false, Bool.not_true, Bool.not_false, ne_eq, not_true_eq_false, not_false_eq_true, true_and, and_true]
  refine hK _ _ false rfl (fun h => by cases h) (fun _ => ?_); clear hK K
  refine EWp.skipThen ?_
  refine EWp.seqR [4] fun K hK => ?_
  simp only [ev, fx, ↓reduceIte, Nat.reduceEqDiff, Nat.reduceLT, Nat.reduceLeDiff, Nat.reduceAdd, Nat.reduceSub, Nat.reduceMul, Int.reduceLT, Int.reduceLE, Int.reduceToNat, BitVec.reduceOfInt, BitVec.reduceToNat, reduceCtorEq, and_self, decide_true, decide_false, Bool.not_true, Bool.not_false, ne_eq, not_true_eq_false, not_false_eq_true, true_and, and_true]
  refine SemE.call fn_41 rfl rfl (sumD b (cat tt) cs hd (.sl none 0 0) 0 [] [] _ (hl.at (k := 0) rfl) (Own.nil _ _) (HL.start _) (by simp) (by omega) (by omega)) ?_
  rintro _ w2 ⟨v, B, rfl, ho, hl2⟩
  refine ⟨_, rfl, ?_⟩
  simp only [ev, fx, ↓reduceIte, Nat.reduceEqDiff, Nat.reduceLT, Nat.reduceLeDiff, Nat.reduceAdd, Nat.reduceSub, Nat.reduceMul, Int.reduceLT, Int.reduceLE, Int.reduceToNat, BitVec.reduceOfInt, BitVec.reduceToNat, reduceCtorEq, and_self, decide_true, decide_false, Bool.not_true, Bool.not_false, ne_eq, not_true_eq_false, not_false_eq_true, true_and, and_true]
  repeat (refine And.intro (by omega) ?_)
  refine hK _ _ ?_; clear hK K
  exact EWp.ret (BodyE.tmp1 rfl rfl ⟨v, B, rfl, by simpa using ho, by
    have := hl.more hl2
    exact this.sub (List.sublist_append_right _ _)⟩)
end Go.Proofs.Ytikejalfiaindaa
