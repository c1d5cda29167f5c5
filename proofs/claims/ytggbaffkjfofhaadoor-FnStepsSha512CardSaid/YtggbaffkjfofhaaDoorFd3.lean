/- A digest of SHA-512 behind pieces; its sum. -/
import Derived.Test.YtggbaffkjfofhaaDoorSm3
import Derived.Test.YtggbaffkjfofhaaDoorPc
import Derived.Test.YtggbaffkjfofhaaDoorImpB3
set_option linter.unusedVariables false
set_option linter.unusedSimpArgs false
namespace Go.Proofs.YtggbaffkjfofhaaDoor
open Go

/-- One piece more: a copy of it is written. -/
theorem writeCopy (b : Nat) (T q : List B8) (cs : List SV) (ki : Kd) (hd : Dig ki T cs) (w0 w : World) (hko : KO w0) (hb0 : w0.heap.size ≤ b) (hl : HL w0 w [] [(b, 76, cs)]) (v : SV) (B : List Blk) (w1 : World) (ho : Own 5 1 v q.length (q.map SV.u8) B) (hl1 : HL w w1 [] B) (hbig : q.length ≤ 60000) :
    Calls Tryd.prog 41 #[(SV.ptr ⟨b, 0, none⟩).val, v.val] w1 fun e w' => e = .returned (SV.tup2 (.nat q.length) (.raw .nilIface)).val ∧ ∃ cs', Dig ki (T ++ q) cs' ∧ HL w0 w' [] [(b, 76, cs')] := by
  have hlm := hl.more hl1
  have hnd := hlm.nd
  rw [List.map_append, List.nodup_append] at hnd
  have hbB : b ∉ B.map (·.1) := fun hm => hnd.2.2 b (by simp) b hm rfl
  obtain ⟨a, c, rfl, hc, ha⟩ := ho.shape
  have hrd := ho.rd (H := []) (by rw [List.append_nil]; exact hl1) rfl
  have hoff := ho.off (H := []) (by rw [List.append_nil]; exact hl1) (Y := [b]) rfl (by simpa using hbB)
  refine (writeD b T cs ki hd a q.length c q w1 (hlm.at (k := 0) rfl) (hko.keep hlm (by simp)) (by have := hko.lt; omega) hrd rfl hc ha hoff hbig).mono ?_
  rintro e w' ⟨he, cs', hd', hl'⟩
  refine ⟨he, cs', hd', ?_⟩
  have := (hlm.sub (List.sublist_append_left _ B)).call (k := 0) rfl hl'
  simpa using this

set_option maxRecDepth 100000 in
theorem fed3 (ki : Kd) (a : Option Addr) (n c : Nat) (tt : List (List B8)) (w : World) (hko : KO w) (hr : RdD w a tt) (hn : tt.length = n) (hn1 : n ≤ 100) (hbig : (cat tt).length ≤ 5000) :
    Calls Tryd.prog 35 #[(SV.nat (kdOf ki)).val, (SV.sl a n c).val] w fun e w' => ∃ b cs, w.heap.size ≤ b ∧ e = .returned (SV.ptr ⟨b, 0, none⟩).val ∧ Dig ki (cat tt) cs ∧
      HL w w' [] [(b, 76, cs)] := by
  refine calls_E [.nat (kdOf ki), .sl a n c] Tryd.func35 rfl Tryd.ntmps35 rfl ?_
  refine EWp.seqR [0, 1] fun K hK => ?_
  simp only [ev, fx, ↓reduceIte, Nat.reduceEqDiff, Nat.reduceLT, Nat.reduceLeDiff, Nat.reduceAdd, Nat.reduceSub, Nat.reduceMul, Int.reduceLT, Int.reduceLE, Int.reduceToNat, BitVec.reduceOfInt, BitVec.reduceToNat, reduceCtorEq, and_self, decide_true, decide_false, Bool.not_true, Bool.not_false, ne_eq, not_true_eq_false, not_false_eq_true, true_and, and_true]
  repeat (refine And.intro (by omega) ?_)
  refine hK _ _ ?_; clear hK K
  refine EWp.seqR [1, 5] fun K hK => ?_
  simp only [ev, fx, ↓reduceIte, Nat.reduceEqDiff, Nat.reduceLT, Nat.reduceLeDiff, Nat.reduceAdd, Nat.reduceSub, Nat.reduceMul, Int.reduceLT, Int.reduceLE, Int.reduceToNat, BitVec.reduceOfInt, BitVec.reduceToNat, reduceCtorEq, and_self, decide_true, decide_false, Bool.not_true, Bool.not_false, ne_eq, not_true_eq_false, not_false_eq_true, true_and, and_true]
  refine SemE.call fn_40 rfl rfl (new64_k ki _) ?_
  rintro _ w1 ⟨b, hb, rfl, hl⟩
  refine ⟨_, rfl, ?_⟩
  simp only [ev, fx, ↓reduceIte, Nat.reduceEqDiff, Nat.reduceLT, Nat.reduceLeDiff, Nat.reduceAdd, Nat.reduceSub, Nat.reduceMul, Int.reduceLT, Int.reduceLE, Int.reduceToNat, BitVec.reduceOfInt, BitVec.reduceToNat, reduceCtorEq, and_self, decide_true, decide_false, Bool.not_true, Bool.not_false, ne_eq, not_true_eq_false, not_false_eq_true, true_and, and_true]
  repeat (refine And.intro (by omega) ?_)
  refine hK _ _ ?_; clear hK K
  refine EWp.ifR [1, 5, 11] fun K hK => ?_
  simp only [ev, fx, ↓reduceIte, Nat.reduceEqDiff, Nat.reduceLT, Nat.reduceLeDiff, Nat.reduceAdd, Nat.reduceSub, Nat.reduceMul, Int.reduceLT, Int.reduceLE, Int.reduceToNat, BitVec.reduceOfInt, BitVec.reduceToNat, reduceCtorEq, and_self, decide_true, decide_false, Bool.not_true, Bool.not_false, ne_eq, not_true_eq_false, not_false_eq_true, true_and, and_true]
  refine SemE.plain _ (Plain.eqlNil (some ⟨b, 0, none⟩) ptr_58 rfl rfl rfl) rfl ?_
  simp only [ev, fx, ↓reduceIte, Nat.reduceEqDiff, Nat.reduceLT, Nat.reduceLeDiff, Nat.reduceAdd, Nat.reduceSub, Nat.reduceMul, Int.reduceLT, Int.reduceLE, Int.reduceToNat, BitVec.reduceOfInt, BitVec.reduceToNat, reduceCtorEq, and_self, decide_true, decide_false, Bool.not_true, Bool.not_false, ne_eq, not_true_eq_false, not_false_eq_true, true_and, and_true]
  refine hK _ _ false rfl (fun h => by cases h) (fun _ => ?_); clear hK K
  refine EWp.skipThen ?_
  have hd : Dig ki [] (digC (initOf ki) (List.replicate 128 0) 0 0 ki) := Dig.new ki _ (by simp)
  generalize digC (initOf ki) (List.replicate 128 0) 0 0 ki = cs at hl hd
  refine EWp.cut [5] (fun S' w' => ∃ cs, S' = [(5, .ptr ⟨b, 0, none⟩)] ∧ Dig ki (cat tt) cs ∧ HL w w' [] [(b, 76, cs)]) ?_ ?_
  case refine_2 =>
    clear hl hd cs
    rintro S' w' ⟨cs, rfl, hd, hl⟩
    refine EWp.seqR [4] fun K hK => ?_
    simp only [ev, fx, ↓reduceIte, Nat.reduceEqDiff, Nat.reduceLT, Nat.reduceLeDiff, Nat.reduceAdd, Nat.reduceSub, Nat.reduceMul, Int.reduceLT, Int.reduceLE, Int.reduceToNat, BitVec.reduceOfInt, BitVec.reduceToNat, reduceCtorEq, and_self, decide_true, decide_false, Bool.not_true, Bool.not_false, ne_eq, not_true_eq_false, not_false_eq_true, true_and, and_true]
    repeat (refine And.intro (by omega) ?_)
    refine hK _ _ ?_; clear hK K
    exact EWp.ret (BodyE.tmp1 rfl rfl ⟨b, cs, hb, rfl, hd, hl⟩)
  refine EWp.seqR [5, 12, 13, 14] fun K hK => ?_
  simp only [ev, fx, ↓reduceIte, Nat.reduceEqDiff, Nat.reduceLT, Nat.reduceLeDiff, Nat.reduceAdd, Nat.reduceSub, Nat.reduceMul, Int.reduceLT, Int.reduceLE, Int.reduceToNat, BitVec.reduceOfInt, BitVec.reduceToNat, reduceCtorEq, and_self, decide_true, decide_false, Bool.not_true, Bool.not_false, ne_eq, not_true_eq_false, not_false_eq_true, true_and, and_true]
  repeat (refine And.intro (by omega) ?_)
  refine hK _ _ ?_; clear hK K
  refine EWp.block ?_
  refine EWp.loop [5, 12, 13, 14] (fun k S' w' => ∃ i cs, i ≤ n ∧ k = n - i ∧ S' = [(5, .ptr ⟨b, 0, none⟩), (12, .sl a n c), (13, .nat n), (14, .nat i)] ∧ Dig ki (cat (tt.take i)) cs ∧ HL w w' [] [(b, 76, cs)]) n ?_ ?_
  case refine_1 => exact ⟨0, cs, by omega, rfl, rfl, hd, hl⟩
  clear hl hd cs
  rintro k S' w' ⟨i, cs, hi, rfl, rfl, hd, hl⟩
  refine EWp.seqR [5, 12, 13, 14, 15] fun K hK => ?_
  simp only [ev, fx, ↓reduceIte, Nat.reduceEqDiff, Nat.reduceLT, Nat.reduceLeDiff, Nat.reduceAdd, Nat.reduceSub, Nat.reduceMul, Int.reduceLT, Int.reduceLE, Int.reduceToNat, BitVec.reduceOfInt, BitVec.reduceToNat, reduceCtorEq, and_self, decide_true, decide_false, Bool.not_true, Bool.not_false, ne_eq, not_true_eq_false, not_false_eq_true, true_and, and_true]
  repeat (refine And.intro (by omega) ?_)
  refine hK _ _ ?_; clear hK K
  refine EWp.guard (b := decide (i < n)) rfl (fun hlt => ?_) (fun hlt => ?_)
  case refine_2 =>
    have hlt := of_decide_eq_false hlt
    simp only [BlockE, ThenE, ↓reduceIte]
    have : tt.take i = tt := List.take_of_length_le (by omega)
    rw [this] at hd
    exact ⟨cs, rfl, hd, hl⟩
  have hlt := of_decide_eq_true hlt
  have hsucc := cat_take_succ tt i (by omega)
  have hle : (cat (tt.take (i + 1))).length ≤ (cat tt).length := by
    have h2 : cat tt = cat (tt.take (i + 1)) ++ cat (tt.drop (i + 1)) := by unfold cat; rw [← List.flatten_append, List.take_append_drop]
    rw [h2, List.length_append]; omega
  have hlen := congrArg List.length hsucc
  rw [List.length_append] at hlen
  obtain ⟨p, v1, rfl, hcell, a', c', rfl, hc', ha', hr'⟩ := (hr.grow hl.toGrow).at (i := i) (by omega)
  generalize hq : tt.getD i [] = q at *
  refine EWp.cut [5, 12, 13, 14] (fun S' w' => ∃ cs, S' = [(5, .ptr ⟨b, 0, none⟩), (12, .sl (some p) n c), (13, .nat n), (14, .nat i)] ∧ Dig ki (cat (tt.take (i + 1))) cs ∧ HL w w' [] [(b, 76, cs)]) ?_ ?_
  case refine_2 =>
    clear hl hd cs
    rintro S' w' ⟨cs, rfl, hd, hl⟩
    refine EWp.regR [5, 12, 13, 14] fun K hK => ?_
    simp only [ev, fx, ↓reduceIte, Nat.reduceEqDiff, Nat.reduceLT, Nat.reduceLeDiff, Nat.reduceAdd, Nat.reduceSub, Nat.reduceMul, Int.reduceLT, Int.reduceLE, Int.reduceToNat, BitVec.reduceOfInt, BitVec.reduceToNat, reduceCtorEq, and_self, decide_true, decide_false, Bool.not_true, Bool.not_false, ne_eq, not_true_eq_false, not_false_eq_true, true_and, and_true]
    exact ⟨by omega, hK _ _ fun S1 h1 => ⟨n - i - 1, by omega, i + 1, cs, by omega, by omega, h1, hd, hl⟩⟩
  refine EWp.block ?_
  refine EWp.seqR [5, 7, 12, 13, 14] fun K hK => ?_
  simp only [ev, fx, ↓reduceIte, Nat.reduceEqDiff, Nat.reduceLT, Nat.reduceLeDiff, Nat.reduceAdd, Nat.reduceSub, Nat.reduceMul, Int.reduceLT, Int.reduceLE, Int.reduceToNat, BitVec.reduceOfInt, BitVec.reduceToNat, reduceCtorEq, and_self, decide_true, decide_false, Bool.not_true, Bool.not_false, ne_eq, not_true_eq_false, not_false_eq_true, true_and, and_true]
  refine ⟨by omega, SemE.load (.sl a' q.length c') rfl one_23 rfl hcell ?_⟩
  simp only [ev, fx, ↓reduceIte, Nat.reduceEqDiff, Nat.reduceLT, Nat.reduceLeDiff, Nat.reduceAdd, Nat.reduceSub, Nat.reduceMul, Int.reduceLT, Int.reduceLE, Int.reduceToNat, BitVec.reduceOfInt, BitVec.reduceToNat, reduceCtorEq, and_self, decide_true, decide_false, Bool.not_true, Bool.not_false, ne_eq, not_true_eq_false, not_false_eq_true, true_and, and_true]
  repeat (refine And.intro (by omega) ?_)
  refine hK _ _ ?_; clear hK K
  refine EWp.regR [5, 12, 13, 14] fun K hK => ?_
  simp only [ev, fx, ↓reduceIte, Nat.reduceEqDiff, Nat.reduceLT, Nat.reduceLeDiff, Nat.reduceAdd, Nat.reduceSub, Nat.reduceMul, Int.reduceLT, Int.reduceLE, Int.reduceToNat, BitVec.reduceOfInt, BitVec.reduceToNat, reduceCtorEq, and_self, decide_true, decide_false, Bool.not_true, Bool.not_false, ne_eq, not_true_eq_false, not_false_eq_true, true_and, and_true]
  refine SemE.call fn_33 rfl rfl (copiedC a' q.length c' (q.map SV.u8) _ hr' (by simp) ha' (isOneB q) (by omega)) ?_
  rintro _ w2 ⟨v2, B, rfl, ho, hl2⟩
  refine ⟨_, rfl, ?_⟩
  simp only [ev, fx, ↓reduceIte, Nat.reduceEqDiff, Nat.reduceLT, Nat.reduceLeDiff, Nat.reduceAdd, Nat.reduceSub, Nat.reduceMul, Int.reduceLT, Int.reduceLE, Int.reduceToNat, BitVec.reduceOfInt, BitVec.reduceToNat, reduceCtorEq, and_self, decide_true, decide_false, Bool.not_true, Bool.not_false, ne_eq, not_true_eq_false, not_false_eq_true, true_and, and_true]
  refine SemE.call fn_41 rfl rfl (writeCopy b (cat (tt.take i)) q cs ki hd w _ hko hb hl v2 B w2 ho hl2 (by omega)) ?_
  rintro _ w3 ⟨rfl, cs', hd', hl3⟩
  refine ⟨_, rfl, ?_⟩
  simp only [ev, fx, ↓reduceIte, Nat.reduceEqDiff, Nat.reduceLT, Nat.reduceLeDiff, Nat.reduceAdd, Nat.reduceSub, Nat.reduceMul, Int.reduceLT, Int.reduceLE, Int.reduceToNat, BitVec.reduceOfInt, BitVec.reduceToNat, reduceCtorEq, and_self, decide_true, decide_false, Bool.not_true, Bool.not_false, ne_eq, not_true_eq_false, not_false_eq_true, true_and, and_true]
  refine hK _ _ fun S1 h1 => ?_; clear hK K
  simp only [BlockE, ThenE]
  exact ⟨cs', h1, by rw [hsucc]; exact hd', hl3⟩

set_option maxRecDepth 100000 in
/-- The hash of pieces. -/
theorem hash3 (ki : Kd) (a : Option Addr) (n c : Nat) (tt : List (List B8)) (w : World) (hko : KO w) (hr : RdD w a tt) (hn : tt.length = n) (hn1 : n ≤ 100) (hbig : (cat tt).length ≤ 5000) :
    Calls Tryd.prog 24 #[(SV.nat (kdOf ki)).val, (SV.sl a n c).val] w fun e w' => ∃ v B, e = .returned v.val ∧ Own 5 1 v (szOf ki) ((hashB ki (cat tt)).map SV.u8) B ∧ HL w w' [] B := by
  refine calls_E [.nat (kdOf ki), .sl a n c] Tryd.func24 rfl Tryd.ntmps24 rfl ?_
  refine EWp.seqR [0, 1] fun K hK => ?_
  simp only [ev, fx, ↓reduceIte, Nat.reduceEqDiff, Nat.reduceLT, Nat.reduceLeDiff, Nat.reduceAdd, Nat.reduceSub, Nat.reduceMul, Int.reduceLT, Int.reduceLE, Int.reduceToNat, BitVec.reduceOfInt, BitVec.reduceToNat, reduceCtorEq, and_self, decide_true, decide_false, Bool.not_true, Bool.not_false, ne_eq, not_true_eq_false, not_false_eq_true, true_and, and_true]
  repeat (refine And.intro (by omega) ?_)
  refine hK _ _ ?_; clear hK K
  refine EWp.seqR [5] fun K hK => ?_
  simp only [ev, fx, ↓reduceIte, Nat.reduceEqDiff, Nat.reduceLT, Nat.reduceLeDiff, Nat.reduceAdd, Nat.reduceSub, Nat.reduceMul, Int.reduceLT, Int.reduceLE, Int.reduceToNat, BitVec.reduceOfInt, BitVec.reduceToNat, reduceCtorEq, and_self, decide_true, decide_false, Bool.not_true, Bool.not_false, ne_eq, not_true_eq_false, not_false_eq_true, true_and, and_true]
  refine SemE.call fn_35 rfl rfl (fed3 ki a n c tt _ hko hr hn hn1 hbig) ?_
  rintro _ w1 ⟨b, cs, hb, rfl, hd, hl⟩
  refine ⟨_, rfl, ?_⟩
  simp only [ev, fx, ↓reduceIte, Nat.reduceEqDiff, Nat.reduceLT, Nat.reduceLeDiff, Nat.reduceAdd, Nat.reduceSub, Nat.reduceMul, Int.reduceLT, Int.reduceLE, Int.reduceToNat, BitVec.reduceOfInt, BitVec.reduceToNat, reduceCtorEq, and_self, decide_true, decide_false, Bool.not_true, Bool.not_false, ne_eq, not_true_eq_false, not_false_eq_true, true_and, and_true]
  repeat (refine And.intro (by omega) ?_)
  refine hK _ _ ?_; clear hK K
  refine EWp.ifR [5, 10] fun K hK => ?_
  simp only [ev, fx, ↓reduceIte, Nat.reduceEqDiff, Nat.reduceLT, Nat.reduceLeDiff, Nat.reduceAdd, Nat.reduceSub, Nat.reduceMul, Int.reduceLT, Int.reduceLE, Int.reduceToNat, BitVec.reduceOfInt, BitVec.reduceToNat, reduceCtorEq, and_self, decide_true, decide_false, Bool.not_true, Bool.not_false, ne_eq, not_true_eq_false, not_false_eq_true, true_and, and_true]
  refine SemE.plain _ (Plain.eqlNil (some ⟨b, 0, none⟩) ptr_58 rfl rfl rfl) rfl ?_
  simp only [ev, fx, ↓reduceIte, Nat.reduceEqDiff, Nat.reduceLT, Nat.reduceLeDiff, Nat.reduceAdd, Nat.reduceSub, Nat.reduceMul, Int.reduceLT, Int.reduceLE, Int.reduceToNat, BitVec.reduceOfInt, BitVec.reduceToNat, reduceCtorEq, and_self, decide_true, decide_false, Bool.not_true, Bool.not_false, ne_eq, not_true_eq_false, not_false_eq_true, true_and, and_true]
  refine hK _ _ false rfl (fun h => by cases h) (fun _ => ?_); clear hK K
  refine EWp.skipThen ?_
  refine EWp.seqR [4] fun K hK => ?_
  simp only [ev, fx, ↓reduceIte, Nat.reduceEqDiff, Nat.reduceLT, Nat.reduceLeDiff, Nat.reduceAdd, Nat.reduceSub, Nat.reduceMul, Int.reduceLT, Int.reduceLE, Int.reduceToNat, BitVec.reduceOfInt, BitVec.reduceToNat, reduceCtorEq, and_self, decide_true, decide_false, Bool.not_true, Bool.not_false, ne_eq, not_true_eq_false, not_false_eq_true, true_and, and_true]
  refine SemE.call fn_39 rfl rfl (sumD b (cat tt) cs ki hd (.sl none 0 0) 0 [] [] _ (hl.at (k := 0) rfl) (hko.keep hl (by simp)) (Own.nil _ _) (HL.start _) (by simp) (by simp) (by omega) (by omega)) ?_
  rintro _ w2 ⟨v, B, rfl, ho, hl2⟩
  refine ⟨_, rfl, ?_⟩
  simp only [ev, fx, ↓reduceIte, Nat.reduceEqDiff, Nat.reduceLT, Nat.reduceLeDiff, Nat.reduceAdd, Nat.reduceSub, Nat.reduceMul, Int.reduceLT, Int.reduceLE, Int.reduceToNat, BitVec.reduceOfInt, BitVec.reduceToNat, reduceCtorEq, and_self, decide_true, decide_false, Bool.not_true, Bool.not_false, ne_eq, not_true_eq_false, not_false_eq_true, true_and, and_true]
  repeat (refine And.intro (by omega) ?_)
  refine hK _ _ ?_; clear hK K
  exact EWp.ret (BodyE.tmp1 rfl rfl ⟨v, B, rfl, by simpa using ho, by
    have := hl.more hl2
    exact this.sub (List.sublist_append_right _ _)⟩)
end Go.Proofs.YtggbaffkjfofhaaDoor
