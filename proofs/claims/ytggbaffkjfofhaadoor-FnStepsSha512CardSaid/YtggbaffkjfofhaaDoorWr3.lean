/- Write of SHA-512. -/
import Derived.Test.YtggbaffkjfofhaaDoorBlock3
import Derived.Test.YtggbaffkjfofhaaDoorSha3L
import Derived.Test.YtggbaffkjfofhaaDoorMem4
set_option linter.unusedVariables false
set_option linter.unusedSimpArgs false
namespace Go.Proofs.YtggbaffkjfofhaaDoor
open Go

theorem block1 (b : Nat) (s : S8) (rest : List SV) (a : Option Addr) (n c : Nat) (bs : List B8) (w : World) (hb : w.heap[b]? = some (.cells ((dig8 s rest).map SV.val).toArray 76 (0, 0)))
    (hk : KO w) (hr : Rd w a (bs.map SV.u8)) (hn : bs.length = n) (hnc : n ≤ c) (hbig : n < 4611686018427387904) :
    Calls Tryd.prog 53 #[(SV.ptr ⟨b, 0, none⟩).val, (SV.sl a n c).val] w fun e w' => e = .returned (SV.raw (.tuple #[])).val ∧ HL w w' [b] [(b, 76, dig8 (blocks s bs) rest)] := by
  refine calls_E [.ptr ⟨b, 0, none⟩, .sl a n c] Tryd.func53 rfl Tryd.ntmps53 rfl ?_
  refine EWp.regR [] fun K hK => ?_
  simp only [ev, fx, ↓reduceIte, Nat.reduceEqDiff, Nat.reduceLT, Nat.reduceLeDiff, Nat.reduceAdd, Nat.reduceSub, Nat.reduceMul, Int.reduceLT, Int.reduceLE, Int.reduceToNat, BitVec.reduceOfInt, BitVec.reduceToNat, reduceCtorEq, and_self, decide_true, decide_false, Bool.not_true, Bool.not_false, ne_eq, not_true_eq_false, not_false_eq_true, true_and, and_true]
  refine SemE.call fn_44 rfl rfl (blockGen b s rest a n c bs w hb hk hr hn hnc hbig) ?_
  rintro _ w2 ⟨rfl, hl⟩
  refine ⟨_, rfl, ?_⟩
  simp only [ev, fx, ↓reduceIte, Nat.reduceEqDiff, Nat.reduceLT, Nat.reduceLeDiff, Nat.reduceAdd, Nat.reduceSub, Nat.reduceMul, Int.reduceLT, Int.reduceLE, Int.reduceToNat, BitVec.reduceOfInt, BitVec.reduceToNat, reduceCtorEq, and_self, decide_true, decide_false, Bool.not_true, Bool.not_false, ne_eq, not_true_eq_false, not_false_eq_true, true_and, and_true]
  refine hK _ _ fun S1 h1 => ?_; clear hK K
  exact BodyE.none' rfl ⟨rfl, hl⟩

set_option maxRecDepth 100000 in
theorem digC_splice (s : S8) (x q : List B8) (nx o k : Nat) (ln : BitVec 64) (ki : Kd) (hx : x.length = 128) (ho : o + k ≤ 128) (hk : k ≤ q.length) :
    (digC s x nx ln ki).take (8 + o) ++ (q.map SV.u8).take k ++ (digC s x nx ln ki).drop (8 + o + k) = digC s (x.take o ++ q.take k ++ x.drop (o + k)) nx ln ki := by
  have e1 : 8 + o = o + 8 := by omega
  have e2 : 8 + o + k = (o + k) + 8 := by omega
  rw [e2, e1]
  unfold digC dig8
  simp only [List.take_succ_cons, List.drop_succ_cons, List.cons_append]
  have h1 : (x.map SV.u8 ++ [SV.nat nx, SV.u64 ln, SV.nat (szOf ki)]).take o = (x.take o).map SV.u8 := by
    rw [List.take_append_of_le_length (by simp; omega), List.map_take]
  have h2 : (x.map SV.u8 ++ [SV.nat nx, SV.u64 ln, SV.nat (szOf ki)]).drop (o + k) = (x.drop (o + k)).map SV.u8 ++ [SV.nat nx, SV.u64 ln, SV.nat (szOf ki)] := by
    rw [List.drop_append_of_le_length (by simp; omega), List.map_drop]
  have h1' : List.take o (x.map SV.u8 ++ [SV.nat nx, SV.u64 ln, SV.nat (szOf ki)]) = (x.take o).map SV.u8 := h1
  simp [h1', h2, List.map_take]

theorem digC_x (s : S8) (x : List B8) (nx : Nat) (ln : BitVec 64) (ki : Kd) (hx : x.length = 128) : ((digC s x nx ln ki).drop 8).take 128 = x.map SV.u8 := by
  unfold digC dig8
  simp [hx]

theorem write1 (b : Nat) (s : S8) (x : List B8) (nx : Nat) (ln : BitVec 64) (ki : Kd) (a : Option Addr) (n c : Nat) (q : List B8) (w : World) (hb : w.heap[b]? = some (.cells ((digC s x nx ln ki).map SV.val).toArray 76 (0, 0)))
    (hx : x.length = 128) (hnx : nx < 128) (hko : KO w) (hkb : 0 ≠ b) (hr : Rd w a (q.map SV.u8)) (hn : q.length = n) (hnc : n ≤ c) (ha : a = none → n = 0) (hoff : Off a [b]) (hbig : n ≤ 60000) :
    Calls Tryd.prog 41 #[(SV.ptr ⟨b, 0, none⟩).val, (SV.sl a n c).val] w fun e w' => e = .returned (SV.tup2 (.nat n) (.raw .nilIface)).val ∧
      ∃ x', x'.length = 128 ∧ x'.take ((nx + n) % 128) = (x.take nx ++ q).drop (128 * ((nx + n) / 128)) ∧
        HL w w' [b] [(b, 76, digC (blocks s (x.take nx ++ q)) x' ((nx + n) % 128) (ln + BitVec.ofNat 64 n) ki)] := by
  refine calls_E [.ptr ⟨b, 0, none⟩, .sl a n c] Tryd.func41 rfl Tryd.ntmps41 rfl ?_
  have hl := HL.startB hb
  refine EWp.seqR [0, 1, 4, 5] fun K hK => ?_
  simp only [ev, fx, ↓reduceIte, Nat.reduceEqDiff, Nat.reduceLT, Nat.reduceLeDiff, Nat.reduceAdd, Nat.reduceSub, Nat.reduceMul, Int.reduceLT, Int.reduceLE, Int.reduceToNat, BitVec.reduceOfInt, BitVec.reduceToNat, reduceCtorEq, and_self, decide_true, decide_false, Bool.not_true, Bool.not_false, ne_eq, not_true_eq_false, not_false_eq_true, true_and, and_true]
  repeat (refine And.intro (by omega) ?_)
  refine hK _ _ ?_; clear hK K
  refine EWp.seqR [0, 1, 4, 5] fun K hK => ?_
  simp only [ev, fx, ↓reduceIte, Nat.reduceEqDiff, Nat.reduceLT, Nat.reduceLeDiff, Nat.reduceAdd, Nat.reduceSub, Nat.reduceMul, Int.reduceLT, Int.reduceLE, Int.reduceToNat, BitVec.reduceOfInt, BitVec.reduceToNat, reduceCtorEq, and_self, decide_true, decide_false, Bool.not_true, Bool.not_false, ne_eq, not_true_eq_false, not_false_eq_true, true_and, and_true]
  repeat (refine And.intro (by omega) ?_)
  refine hK _ _ ?_; clear hK K
  refine EWp.seqR [0, 1, 4, 5] fun K hK => ?_
  simp only [ev, fx, ↓reduceIte, Nat.reduceEqDiff, Nat.reduceLT, Nat.reduceLeDiff, Nat.reduceAdd, Nat.reduceSub, Nat.reduceMul, Int.reduceLT, Int.reduceLE, Int.reduceToNat, BitVec.reduceOfInt, BitVec.reduceToNat, reduceCtorEq, and_self, decide_true, decide_false, Bool.not_true, Bool.not_false, ne_eq, not_true_eq_false, not_false_eq_true, true_and, and_true]
  refine SemE.loadB hl 0 rfl one_31 rfl rfl (digC_len_get _ _ _ _ _ hx) ?_
  simp only [ev, fx, ↓reduceIte, Nat.reduceEqDiff, Nat.reduceLT, Nat.reduceLeDiff, Nat.reduceAdd, Nat.reduceSub, Nat.reduceMul, Int.reduceLT, Int.reduceLE, Int.reduceToNat, BitVec.reduceOfInt, BitVec.reduceToNat, reduceCtorEq, and_self, decide_true, decide_false, Bool.not_true, Bool.not_false, ne_eq, not_true_eq_false, not_false_eq_true, true_and, and_true]
  refine SemE.storeB hl 0 rfl rfl one_31 rfl rfl (by rw [digC_length _ _ _ _ _ hx]; omega) fun w' hl => ?_
  simp only [List.set_cons_zero, digC_len _ _ _ _ _ _ hx] at hl
  simp only [ev, fx, ↓reduceIte, Nat.reduceEqDiff, Nat.reduceLT, Nat.reduceLeDiff, Nat.reduceAdd, Nat.reduceSub, Nat.reduceMul, Int.reduceLT, Int.reduceLE, Int.reduceToNat, BitVec.reduceOfInt, BitVec.reduceToNat, reduceCtorEq, and_self, decide_true, decide_false, Bool.not_true, Bool.not_false, ne_eq, not_true_eq_false, not_false_eq_true, true_and, and_true]
  repeat (refine And.intro (by omega) ?_)
  refine hK _ _ ?_; clear hK K
  generalize ln + BitVec.ofNat 64 n = ln' at hl ⊢
  have hr0 := hr
  have ht : (x.take nx ++ q).length = nx + n := by simp [hx, hn]; omega
  refine EWp.cut [0, 1, 4, 5] (fun S' w' => ∃ (s1 : S8) (x1 : List B8) (nx1 : Nat) (q1 : List B8) (a1 : Option Addr) (c1 : Nat), S' = [(0, .ptr ⟨b, 0, none⟩), (1, .sl a1 q1.length c1), (4, .nat n), (5, .raw .nilIface)] ∧ x1.length = 128 ∧ nx1 < 128 ∧ (nx1 ≠ 0 → q1 = []) ∧
    Rest s (x.take nx ++ q) s1 (x1.take nx1 ++ q1) ∧ q1.length ≤ n ∧ q1.length ≤ c1 ∧ (a1 = none → q1.length = 0) ∧ Off a1 [b] ∧ Rd w' a1 (q1.map SV.u8) ∧ HL w w' [b] [(b, 76, digC s1 x1 nx1 ln' ki)]) ?_ ?_
  case refine_1 =>
    have hr := hr.keep hl hoff
    refine EWp.brR [0, 1, 4, 5, 23] fun K hK => ?_
    simp only [ev, fx, ↓reduceIte, Nat.reduceEqDiff, Nat.reduceLT, Nat.reduceLeDiff, Nat.reduceAdd, Nat.reduceSub, Nat.reduceMul, Int.reduceLT, Int.reduceLE, Int.reduceToNat, BitVec.reduceOfInt, BitVec.reduceToNat, reduceCtorEq, and_self, decide_true, decide_false, Bool.not_true, Bool.not_false, ne_eq, not_true_eq_false, not_false_eq_true, true_and, and_true]
    refine SemE.loadB hl 0 rfl one_3 rfl rfl (digC_nx_get _ _ _ _ _ hx) ?_
    simp only [ev, fx, ↓reduceIte, Nat.reduceEqDiff, Nat.reduceLT, Nat.reduceLeDiff, Nat.reduceAdd, Nat.reduceSub, Nat.reduceMul, Int.reduceLT, Int.reduceLE, Int.reduceToNat, BitVec.reduceOfInt, BitVec.reduceToNat, reduceCtorEq, and_self, decide_true, decide_false, Bool.not_true, Bool.not_false, ne_eq, not_true_eq_false, not_false_eq_true, true_and, and_true]
    refine hK _ _ (decide (0 < nx)) rfl (fun hp => ?_) (fun hp => ?_) <;> clear hK K
    case refine_2 =>
      have hp := of_decide_eq_false hp
      obtain rfl : nx = 0 := by omega
      refine EWp.skip ?_
      simp only [ThenE]
      exact ⟨s, x, 0, q, a, c, by rw [hn]; rfl, hx, by omega, fun h => absurd rfl h, Rest.refl _ _, by omega, by omega, by rw [hn]; exact ha, hoff, hr, hl⟩
    have hp := of_decide_eq_true hp
    refine EWp.seqO (fun i => [9].contains i) [(0, 0), (1, 0), (2, 0), (3, 0), (4, 0), (5, 0), (6, 1), (7, 0), (8, 0), (9, 2), (10, 0)] [0, 1, 4, 5, 6] mixed (by kernel_rfl) fun K hK => ?_
    have hr := hr.grow (w' := w'.drew) ⟨rfl, rfl, rfl, Nat.le_refl _, fun _ _ => rfl⟩
    have hl := hl.drew
    simp only [ev, fx, ↓reduceIte, Nat.reduceEqDiff, Nat.reduceLT, Nat.reduceLeDiff, Nat.reduceAdd, Nat.reduceSub, Nat.reduceMul, Int.reduceLT, Int.reduceLE, Int.reduceToNat, BitVec.reduceOfInt, BitVec.reduceToNat, reduceCtorEq, and_self, decide_true, decide_false, Bool.not_true, Bool.not_false, ne_eq, not_true_eq_false, not_false_eq_true, true_and, and_true]
    refine StopR.loadB hl 0 rfl one_3 rfl rfl (digC_nx_get _ _ _ _ _ hx) ?_
    have hne : ¬ 128 = nx := by omega
    simp only [ev, fx, ↓reduceIte, Nat.reduceEqDiff, Nat.reduceLT, Nat.reduceLeDiff, Nat.reduceAdd, Nat.reduceSub, Nat.reduceMul, Int.reduceLT, Int.reduceLE, Int.reduceToNat, BitVec.reduceOfInt, BitVec.reduceToNat, reduceCtorEq, and_self, decide_true, decide_false, Bool.not_true, Bool.not_false, ne_eq, not_true_eq_false, not_false_eq_true, true_and, and_true, hne, Option.map_some]
    repeat (refine And.intro (by omega) ?_)
    refine SemE.copy hl 0 slof_23 rfl rfl hr (by simp [hn]) ha (isOneB q) rfl (by rw [digC_length _ _ _ _ _ hx]; omega) rfl fun w2 hl => ⟨fun h => absurd h (by decide), ?_⟩
    rw [List.set_cons_zero, digC_splice s x q nx nx (min n (128 - nx)) ln' ki hx (by omega) (by omega)] at hl
    generalize hk : min n (128 - nx) = k at hl ⊢
    generalize hx1 : x.take nx ++ q.take k ++ x.drop (nx + k) = x1 at hl
    have hx1l : x1.length = 128 := by rw [← hx1]; simp [hx, hn]; omega
    simp only [ev, fx, ↓reduceIte, Nat.reduceEqDiff, Nat.reduceLT, Nat.reduceLeDiff, Nat.reduceAdd, Nat.reduceSub, Nat.reduceMul, Int.reduceLT, Int.reduceLE, Int.reduceToNat, BitVec.reduceOfInt, BitVec.reduceToNat, reduceCtorEq, and_self, decide_true, decide_false, Bool.not_true, Bool.not_false, ne_eq, not_true_eq_false, not_false_eq_true, true_and, and_true]
    repeat (refine And.intro (by omega) ?_)
    refine hK _ _ ?_; clear hK K
    have hx1n : x1.take nx = x.take nx := by
      rw [← hx1, List.append_assoc, List.take_append_of_le_length (by simp [hx]; omega), List.take_of_length_le (by simp; omega)]
    have hx1k : x1.take (nx + k) = x.take nx ++ q.take k := by
      rw [← hx1, List.take_append_of_le_length (by simp [hx, hn]; omega), List.take_of_length_le (by simp [hx, hn]; omega)]
    have hr : Rd w2 a (q.map SV.u8) := by
      have := hl
      exact (hr0.keep hl hoff)
    refine EWp.seqR [0, 1, 4, 5, 6] fun K hK => ?_
    simp only [ev, fx, ↓reduceIte, Nat.reduceEqDiff, Nat.reduceLT, Nat.reduceLeDiff, Nat.reduceAdd, Nat.reduceSub, Nat.reduceMul, Int.reduceLT, Int.reduceLE, Int.reduceToNat, BitVec.reduceOfInt, BitVec.reduceToNat, reduceCtorEq, and_self, decide_true, decide_false, Bool.not_true, Bool.not_false, ne_eq, not_true_eq_false, not_false_eq_true, true_and, and_true]
    refine SemE.loadB hl 0 rfl one_3 rfl rfl (digC_nx_get _ _ _ _ _ hx1l) ?_
    simp only [ev, fx, ↓reduceIte, Nat.reduceEqDiff, Nat.reduceLT, Nat.reduceLeDiff, Nat.reduceAdd, Nat.reduceSub, Nat.reduceMul, Int.reduceLT, Int.reduceLE, Int.reduceToNat, BitVec.reduceOfInt, BitVec.reduceToNat, reduceCtorEq, and_self, decide_true, decide_false, Bool.not_true, Bool.not_false, ne_eq, not_true_eq_false, not_false_eq_true, true_and, and_true]
    repeat (refine And.intro (by omega) ?_)
    refine SemE.storeB hl 0 rfl rfl one_3 rfl rfl (by rw [digC_length _ _ _ _ _ hx1l]; omega) fun w3 hl => ?_
    rw [List.set_cons_zero, digC_nx _ _ _ _ _ _ hx1l] at hl
    simp only [ev, fx, ↓reduceIte, Nat.reduceEqDiff, Nat.reduceLT, Nat.reduceLeDiff, Nat.reduceAdd, Nat.reduceSub, Nat.reduceMul, Int.reduceLT, Int.reduceLE, Int.reduceToNat, BitVec.reduceOfInt, BitVec.reduceToNat, reduceCtorEq, and_self, decide_true, decide_false, Bool.not_true, Bool.not_false, ne_eq, not_true_eq_false, not_false_eq_true, true_and, and_true]
    repeat (refine And.intro (by omega) ?_)
    refine hK _ _ ?_; clear hK K
    refine EWp.cut [0, 1, 4, 5, 6] (fun S' w' => ∃ (s1 : S8) (x1 : List B8) (nx1 : Nat), S' = [(0, .ptr ⟨b, 0, none⟩), (1, .sl a n c), (4, .nat n), (5, .raw .nilIface), (6, .nat k)] ∧ x1.length = 128 ∧ nx1 < 128 ∧ (nx1 ≠ 0 → k = n) ∧
      Rest s (x.take nx ++ q) s1 (x1.take nx1 ++ q.drop k) ∧ HL w w' [b] [(b, 76, digC s1 x1 nx1 ln' ki)]) ?_ ?_
    case refine_2 =>
      clear hl hr
      rintro S' w' ⟨s1, x2, nx1, rfl, hx2, hnx1, hkn, hrest, hl⟩
      refine EWp.regR [0, 1, 4, 5] fun K hK => ?_
      simp only [ev, fx, ↓reduceIte, Nat.reduceEqDiff, Nat.reduceLT, Nat.reduceLeDiff, Nat.reduceAdd, Nat.reduceSub, Nat.reduceMul, Int.reduceLT, Int.reduceLE, Int.reduceToNat, BitVec.reduceOfInt, BitVec.reduceToNat, reduceCtorEq, and_self, decide_true, decide_false, Bool.not_true, Bool.not_false, ne_eq, not_true_eq_false, not_false_eq_true, true_and, and_true]
      repeat (refine And.intro (by omega) ?_)
      refine hK _ _ fun S1 h1 => ?_; clear hK K
      simp only [ThenE]
      have hql : (q.drop k).length = n - k := by simp [hn]
      refine ⟨s1, x2, nx1, q.drop k, _, c - k, by rw [h1, hql], hx2, hnx1, fun h => ?_, hrest, by omega, by omega, ?_, hoff.slice k c, ?_, hl⟩
      · exact List.eq_nil_of_length_eq_zero (by rw [hql, hkn h]; omega)
      · intro h0
        have := slNone ha h0
        omega
      · rw [List.map_drop]
        exact (hr0.keep hl hoff).drop k c (by simpa [hn] using hnc)
    refine EWp.brR [0, 1, 4, 5, 6, 46] fun K hK => ?_
    simp only [ev, fx, ↓reduceIte, Nat.reduceEqDiff, Nat.reduceLT, Nat.reduceLeDiff, Nat.reduceAdd, Nat.reduceSub, Nat.reduceMul, Int.reduceLT, Int.reduceLE, Int.reduceToNat, BitVec.reduceOfInt, BitVec.reduceToNat, reduceCtorEq, and_self, decide_true, decide_false, Bool.not_true, Bool.not_false, ne_eq, not_true_eq_false, not_false_eq_true, true_and, and_true]
    refine SemE.loadB hl 0 rfl one_3 rfl rfl (digC_nx_get _ _ _ _ _ hx1l) ?_
    simp only [ev, fx, ↓reduceIte, Nat.reduceEqDiff, Nat.reduceLT, Nat.reduceLeDiff, Nat.reduceAdd, Nat.reduceSub, Nat.reduceMul, Int.reduceLT, Int.reduceLE, Int.reduceToNat, BitVec.reduceOfInt, BitVec.reduceToNat, reduceCtorEq, and_self, decide_true, decide_false, Bool.not_true, Bool.not_false, ne_eq, not_true_eq_false, not_false_eq_true, true_and, and_true]
    refine hK _ _ (decide (nx + k = 128)) rfl (fun hf => ?_) (fun hf => ?_) <;> clear hK K
    case refine_2 =>
      have hf := of_decide_eq_false hf
      refine EWp.skip ?_
      simp only [ThenE]
      refine ⟨s, x1, nx + k, rfl, hx1l, by omega, fun _ => by omega, ?_, hl⟩
      rw [hx1k, List.append_assoc, List.take_append_drop]
      exact Rest.refl _ _
    have hf := of_decide_eq_true hf
    refine EWp.seqR [0, 1, 4, 5, 6] fun K hK => ?_
    simp only [ev, fx, ↓reduceIte, Nat.reduceEqDiff, Nat.reduceLT, Nat.reduceLeDiff, Nat.reduceAdd, Nat.reduceSub, Nat.reduceMul, Int.reduceLT, Int.reduceLE, Int.reduceToNat, BitVec.reduceOfInt, BitVec.reduceToNat, reduceCtorEq, and_self, decide_true, decide_false, Bool.not_true, Bool.not_false, ne_eq, not_true_eq_false, not_false_eq_true, true_and, and_true, sl0, Option.map_some]
    refine SemE.call fn_53 rfl rfl (block1 b s (x1.map SV.u8 ++ [.nat (nx + k), .u64 ln', .nat (szOf ki)]) (some ⟨b, 8, none⟩) 128 128 x1 w3 (hl.at (k := 0) rfl) (hko.keep hl (by simpa using hkb)) (by
      have := Rd.blk hl (k := 0) rfl 8 128
      rwa [digC_x _ _ _ _ _ hx1l] at this) hx1l (by omega) (by omega)) ?_
    rintro _ w4 ⟨rfl, hl4⟩
    refine ⟨_, rfl, ?_⟩
    have hl := hl.call (k := 0) rfl hl4
    rw [List.set_cons_zero, List.append_nil] at hl
    have hl : HL w w4 [b] [(b, 76, digC (blocks s x1) x1 (nx + k) ln' ki)] := hl
    simp only [ev, fx, ↓reduceIte, Nat.reduceEqDiff, Nat.reduceLT, Nat.reduceLeDiff, Nat.reduceAdd, Nat.reduceSub, Nat.reduceMul, Int.reduceLT, Int.reduceLE, Int.reduceToNat, BitVec.reduceOfInt, BitVec.reduceToNat, reduceCtorEq, and_self, decide_true, decide_false, Bool.not_true, Bool.not_false, ne_eq, not_true_eq_false, not_false_eq_true, true_and, and_true]
    repeat (refine And.intro (by omega) ?_)
    refine hK _ _ ?_; clear hK K
    refine EWp.regR [0, 1, 4, 5, 6] fun K hK => ?_
    simp only [ev, fx, ↓reduceIte, Nat.reduceEqDiff, Nat.reduceLT, Nat.reduceLeDiff, Nat.reduceAdd, Nat.reduceSub, Nat.reduceMul, Int.reduceLT, Int.reduceLE, Int.reduceToNat, BitVec.reduceOfInt, BitVec.reduceToNat, reduceCtorEq, and_self, decide_true, decide_false, Bool.not_true, Bool.not_false, ne_eq, not_true_eq_false, not_false_eq_true, true_and, and_true]
    refine SemE.storeB (v := .nat 0) hl 0 rfl rfl one_3 rfl rfl (by rw [digC_length _ _ _ _ _ hx1l]; omega) fun w5 hl => ?_
    rw [List.set_cons_zero, digC_nx _ _ _ _ _ _ hx1l] at hl
    simp only [ev, fx, ↓reduceIte, Nat.reduceEqDiff, Nat.reduceLT, Nat.reduceLeDiff, Nat.reduceAdd, Nat.reduceSub, Nat.reduceMul, Int.reduceLT, Int.reduceLE, Int.reduceToNat, BitVec.reduceOfInt, BitVec.reduceToNat, reduceCtorEq, and_self, decide_true, decide_false, Bool.not_true, Bool.not_false, ne_eq, not_true_eq_false, not_false_eq_true, true_and, and_true]
    refine hK _ _ fun S1 h1 => ?_; clear hK K
    simp only [ThenE]
    refine ⟨blocks s x1, x1, 0, h1, hx1l, by omega, fun h => absurd rfl h, ?_, hl⟩
    rw [List.take_zero, List.nil_append]
    refine Rest.step (r0 := x1) ?_ (by rw [hx1l])
    have hfull : x1 = x.take nx ++ q.take k := by rw [← hx1k, hf, List.take_of_length_le (by omega)]
    have e : x1 ++ q.drop k = x.take nx ++ q := by rw [hfull, List.append_assoc, List.take_append_drop]
    rw [e]
    exact Rest.refl _ _
  clear hl hr
  rintro S' w' ⟨s1, x1, nx1, q1, a1, c1, rfl, hx1, hnx1, hz1, hrest, hq1, hc1, ha1, hoff1, hr1, hl⟩
  refine EWp.cut [0, 1, 4, 5] (fun S' w' => ∃ (s1 : S8) (x1 : List B8) (nx1 : Nat) (q1 : List B8) (a1 : Option Addr) (c1 : Nat), S' = [(0, .ptr ⟨b, 0, none⟩), (1, .sl a1 q1.length c1), (4, .nat n), (5, .raw .nilIface)] ∧ x1.length = 128 ∧ nx1 < 128 ∧ (nx1 ≠ 0 → q1 = []) ∧
    Rest s (x.take nx ++ q) s1 (x1.take nx1 ++ q1) ∧ q1.length < 128 ∧ q1.length ≤ c1 ∧ (a1 = none → q1.length = 0) ∧ Off a1 [b] ∧ Rd w' a1 (q1.map SV.u8) ∧ HL w w' [b] [(b, 76, digC s1 x1 nx1 ln' ki)]) ?_ ?_
  case refine_1 =>
    refine EWp.brR [0, 1, 4, 5, 61] fun K hK => ?_
    simp only [ev, fx, ↓reduceIte, Nat.reduceEqDiff, Nat.reduceLT, Nat.reduceLeDiff, Nat.reduceAdd, Nat.reduceSub, Nat.reduceMul, Int.reduceLT, Int.reduceLE, Int.reduceToNat, BitVec.reduceOfInt, BitVec.reduceToNat, reduceCtorEq, and_self, decide_true, decide_false, Bool.not_true, Bool.not_false, ne_eq, not_true_eq_false, not_false_eq_true, true_and, and_true]
    refine hK _ _ (decide (128 ≤ q1.length)) rfl (fun hp => ?_) (fun hp => ?_) <;> clear hK K
    case refine_2 =>
      have hp := of_decide_eq_false hp
      refine EWp.skip ?_
      simp only [ThenE]
      exact ⟨s1, x1, nx1, q1, a1, c1, rfl, hx1, hnx1, hz1, hrest, by omega, hc1, ha1, hoff1, hr1, hl⟩
    have hp := of_decide_eq_true hp
    have hnx0 : nx1 = 0 := by
      by_cases h : nx1 = 0
      · exact h
      · have := hz1 h; rw [this] at hp; simp at hp
    subst hnx0
    rw [List.take_zero, List.nil_append] at hrest
    refine EWp.seqR [0, 1, 4, 5, 7] fun K hK => ?_
    simp only [ev, fx, ↓reduceIte, Nat.reduceEqDiff, Nat.reduceLT, Nat.reduceLeDiff, Nat.reduceAdd, Nat.reduceSub, Nat.reduceMul, Int.reduceLT, Int.reduceLE, Int.reduceToNat, BitVec.reduceOfInt, BitVec.reduceToNat, reduceCtorEq, and_self, decide_true, decide_false, Bool.not_true, Bool.not_false, ne_eq, not_true_eq_false, not_false_eq_true, true_and, and_true]
    refine SemE.plain _ (Plain.andNot 7 rfl (by omega) (by omega) rfl) rfl ?_
    have hm64 : q1.length - q1.length % 2 ^ 7 = q1.length / 128 * 128 := by omega
    simp only [hm64]
    simp only [ev, fx, ↓reduceIte, Nat.reduceEqDiff, Nat.reduceLT, Nat.reduceLeDiff, Nat.reduceAdd, Nat.reduceSub, Nat.reduceMul, Int.reduceLT, Int.reduceLE, Int.reduceToNat, BitVec.reduceOfInt, BitVec.reduceToNat, reduceCtorEq, and_self, decide_true, decide_false, Bool.not_true, Bool.not_false, ne_eq, not_true_eq_false, not_false_eq_true, true_and, and_true]
    repeat (refine And.intro (by omega) ?_)
    refine hK _ _ ?_; clear hK K
    generalize hm : q1.length / 128 * 128 = m
    have hmle : m ≤ q1.length := by omega
    have hmmod : m % 128 = 0 := by omega
    have hmlt : q1.length - m < 128 := by omega
    refine EWp.seqR [0, 1, 4, 5, 7] fun K hK => ?_
    simp only [ev, fx, ↓reduceIte, Nat.reduceEqDiff, Nat.reduceLT, Nat.reduceLeDiff, Nat.reduceAdd, Nat.reduceSub, Nat.reduceMul, Int.reduceLT, Int.reduceLE, Int.reduceToNat, BitVec.reduceOfInt, BitVec.reduceToNat, reduceCtorEq, and_self, decide_true, decide_false, Bool.not_true, Bool.not_false, ne_eq, not_true_eq_false, not_false_eq_true, true_and, and_true, sl0]
    repeat (refine And.intro (by omega) ?_)
    refine SemE.call fn_53 rfl rfl (block1 b s1 (x1.map SV.u8 ++ [.nat 0, .u64 ln', .nat (szOf ki)]) a1 m c1 (q1.take m) w' (hl.at (k := 0) rfl) (hko.keep hl (by simpa using hkb)) (by rw [List.map_take]; exact hr1.take m) (by simp; omega) (by omega) (by omega)) ?_
    rintro _ w4 ⟨rfl, hl4⟩
    refine ⟨_, rfl, ?_⟩
    have hr1 := hr1.keep hl4 hoff1
    have hl := hl.call (k := 0) rfl hl4
    rw [List.set_cons_zero, List.append_nil] at hl
    have hl : HL w w4 [b] [(b, 76, digC (blocks s1 (q1.take m)) x1 0 ln' ki)] := hl
    simp only [ev, fx, ↓reduceIte, Nat.reduceEqDiff, Nat.reduceLT, Nat.reduceLeDiff, Nat.reduceAdd, Nat.reduceSub, Nat.reduceMul, Int.reduceLT, Int.reduceLE, Int.reduceToNat, BitVec.reduceOfInt, BitVec.reduceToNat, reduceCtorEq, and_self, decide_true, decide_false, Bool.not_true, Bool.not_false, ne_eq, not_true_eq_false, not_false_eq_true, true_and, and_true]
    repeat (refine And.intro (by omega) ?_)
    refine hK _ _ ?_; clear hK K
    refine EWp.regR [0, 1, 4, 5] fun K hK => ?_
    simp only [ev, fx, ↓reduceIte, Nat.reduceEqDiff, Nat.reduceLT, Nat.reduceLeDiff, Nat.reduceAdd, Nat.reduceSub, Nat.reduceMul, Int.reduceLT, Int.reduceLE, Int.reduceToNat, BitVec.reduceOfInt, BitVec.reduceToNat, reduceCtorEq, and_self, decide_true, decide_false, Bool.not_true, Bool.not_false, ne_eq, not_true_eq_false, not_false_eq_true, true_and, and_true]
    repeat (refine And.intro (by omega) ?_)
    refine hK _ _ fun S1 h1 => ?_; clear hK K
    simp only [ThenE]
    have hql : (q1.drop m).length = q1.length - m := by simp
    refine ⟨blocks s1 (q1.take m), x1, 0, q1.drop m, _, c1 - m, by rw [h1, hql], hx1, by omega, fun h => absurd rfl h, ?_, by omega, by omega, ?_, hoff1.slice m c1, ?_, hl⟩
    · rw [List.take_zero, List.nil_append]
      refine Rest.step (r0 := q1.take m) ?_ (by simp; omega)
      rw [List.take_append_drop]
      exact hrest
    · intro h0
      have := slNone ha1 h0
      omega
    · rw [List.map_drop]
      exact hr1.drop m c1 (by simpa using hc1)
  clear hl hr1 hoff1 ha1 hc1 hq1 hrest hz1
  rintro S' w' ⟨s1, x1, nx1, q1, a1, c1, rfl, hx1, hnx1, hz1, hrest, hq1, hc1, ha1, hoff1, hr1, hl⟩
  refine EWp.cut [4, 5] (fun S' w' => ∃ (s1 : S8) (x1 : List B8) (nx1 : Nat), S' = [(4, .nat n), (5, .raw .nilIface)] ∧ x1.length = 128 ∧ nx1 < 128 ∧
    Rest s (x.take nx ++ q) s1 (x1.take nx1) ∧ HL w w' [b] [(b, 76, digC s1 x1 nx1 ln' ki)]) ?_ ?_
  case refine_2 =>
    clear hl hr1
    rintro S' w' ⟨s3, x3, nx3, rfl, hx3, hnx3, hrest, hl⟩
    obtain ⟨h1, h2, h3⟩ := hrest.done (by simp [hx3]; omega)
    have hl3 : (x3.take nx3).length = nx3 := by simp [hx3]; omega
    rw [hl3, ht] at h2
    rw [ht] at h3
    subst h1; subst h2
    exact EWp.ret (BodyE.tmp2 rfl rfl rfl ⟨rfl, x3, hx3, h3, hl⟩)
  refine EWp.brR [0, 1, 4, 5, 75] fun K hK => ?_
  simp only [ev, fx, ↓reduceIte, Nat.reduceEqDiff, Nat.reduceLT, Nat.reduceLeDiff, Nat.reduceAdd, Nat.reduceSub, Nat.reduceMul, Int.reduceLT, Int.reduceLE, Int.reduceToNat, BitVec.reduceOfInt, BitVec.reduceToNat, reduceCtorEq, and_self, decide_true, decide_false, Bool.not_true, Bool.not_false, ne_eq, not_true_eq_false, not_false_eq_true, true_and, and_true]
  refine hK _ _ (decide (0 < q1.length)) rfl (fun hp => ?_) (fun hp => ?_) <;> clear hK K
  case refine_2 =>
    have hp := of_decide_eq_false hp
    have hnil : q1 = [] := List.eq_nil_of_length_eq_zero (by omega)
    subst hnil
    rw [List.append_nil] at hrest
    refine EWp.skip ?_
    simp only [ThenE]
    exact ⟨s1, x1, nx1, rfl, hx1, hnx1, hrest, hl⟩
  have hp := of_decide_eq_true hp
  have hnx0 : nx1 = 0 := by
    by_cases h : nx1 = 0
    · exact h
    · have := hz1 h; rw [this] at hp; simp at hp
  subst hnx0
  rw [List.take_zero, List.nil_append] at hrest
  refine EWp.regR [4, 5] fun K hK => ?_
  simp only [ev, fx, ↓reduceIte, Nat.reduceEqDiff, Nat.reduceLT, Nat.reduceLeDiff, Nat.reduceAdd, Nat.reduceSub, Nat.reduceMul, Int.reduceLT, Int.reduceLE, Int.reduceToNat, BitVec.reduceOfInt, BitVec.reduceToNat, reduceCtorEq, and_self, decide_true, decide_false, Bool.not_true, Bool.not_false, ne_eq, not_true_eq_false, not_false_eq_true, true_and, and_true, sl0, Option.map_some]
  refine SemE.copy hl 0 slof_23 rfl rfl hr1 (by simp) ha1 (isOneB q1) rfl (by rw [digC_length _ _ _ _ _ hx1]; omega) rfl fun w2 hl => ?_
  have hmin : min q1.length 128 = q1.length := by omega
  rw [hmin] at hl ⊢
  have hsp := digC_splice s1 x1 q1 0 0 q1.length ln' ki hx1 (by omega) (by omega)
  rw [Nat.add_zero, Nat.zero_add, List.take_zero, List.nil_append, List.take_length] at hsp
  rw [List.set_cons_zero, hsp] at hl
  have hx2l : (q1 ++ x1.drop q1.length).length = 128 := by simp [hx1]; omega
  simp only [ev, fx, ↓reduceIte, Nat.reduceEqDiff, Nat.reduceLT, Nat.reduceLeDiff, Nat.reduceAdd, Nat.reduceSub, Nat.reduceMul, Int.reduceLT, Int.reduceLE, Int.reduceToNat, BitVec.reduceOfInt, BitVec.reduceToNat, reduceCtorEq, and_self, decide_true, decide_false, Bool.not_true, Bool.not_false, ne_eq, not_true_eq_false, not_false_eq_true, true_and, and_true]
  refine SemE.storeB hl 0 rfl rfl one_3 rfl rfl (by rw [digC_length _ _ _ _ _ hx2l]; omega) fun w3 hl => ?_
  rw [List.set_cons_zero, digC_nx _ _ _ _ _ _ hx2l] at hl
  simp only [ev, fx, ↓reduceIte, Nat.reduceEqDiff, Nat.reduceLT, Nat.reduceLeDiff, Nat.reduceAdd, Nat.reduceSub, Nat.reduceMul, Int.reduceLT, Int.reduceLE, Int.reduceToNat, BitVec.reduceOfInt, BitVec.reduceToNat, reduceCtorEq, and_self, decide_true, decide_false, Bool.not_true, Bool.not_false, ne_eq, not_true_eq_false, not_false_eq_true, true_and, and_true]
  refine hK _ _ fun S1 h1 => ?_; clear hK K
  simp only [ThenE]
  exact ⟨s1, q1 ++ x1.drop q1.length, q1.length, h1, hx2l, hq1, by rw [List.take_left]; exact hrest, hl⟩
end Go.Proofs.YtggbaffkjfofhaaDoor
