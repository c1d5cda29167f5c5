/- Words laid as bytes. -/
import Derived.Test.YtggbaffkjfofhaaDoorMem4
import Derived.Test.YtggbaffkjfofhaaDoorFacts
import Derived.Test.YtggbaffkjfofhaaDoorSha3M
set_option linter.unusedVariables false
set_option linter.unusedSimpArgs false
namespace Go.Proofs.YtggbaffkjfofhaaDoor
open Go

def putAt (cs : List SV) (o : Nat) (bs : List SV) : List SV := cs.take o ++ bs ++ cs.drop (o + bs.length)
theorem putAt_nil (cs : List SV) (o : Nat) : putAt cs o [] = cs := by simp [putAt]
theorem putAt_snoc (cs : List SV) (o : Nat) (bs : List SV) (v : SV) (h : o + bs.length < cs.length) : (putAt cs o bs).set (o + bs.length) v = putAt cs o (bs ++ [v]) := by
  unfold putAt
  have h1 : (cs.take o ++ bs).length = o + bs.length := by simp; omega
  rw [List.set_append_right _ _ (by omega), h1, Nat.sub_self]
  have h2 : cs.drop (o + bs.length) = cs[o + bs.length] :: cs.drop (o + bs.length + 1) := List.drop_eq_getElem_cons h
  rw [h2]
  simp [Nat.add_assoc]
theorem putAt_length (cs : List SV) (o : Nat) (bs : List SV) (h : o + bs.length ≤ cs.length) : (putAt cs o bs).length = cs.length := by
  unfold putAt; simp; omega

def be8 (v : BitVec 64) (i : Nat) : B8 := (v >>> (56 - 8 * i)).setWidth 8
def be64L (v : BitVec 64) (k : Nat) : List SV := (List.range k).map fun i => .u8 (be8 v i)
theorem be64L_succ (v : BitVec 64) (k : Nat) : be64L v (k + 1) = be64L v k ++ [.u8 (be8 v k)] := by simp [be64L, List.range_succ]
theorem be64L_len (v : BitVec 64) (k : Nat) : (be64L v k).length = k := by simp [be64L]

theorem put64 (g o n c : Nat) (T : TypeId) (cs : List SV) (y : B8) (v : BitVec 64) (w : World) (hg : w.heap[g]? = some (.cells (cs.map SV.val).toArray T (0, 0))) (hn : 8 ≤ n) (ho : o + 8 ≤ cs.length) (hy : cs[o + 7]? = some (.u8 y)) :
    Calls Tryd.prog 57 #[(SV.sl (some ⟨g, o, none⟩) n c).val, (SV.u64 v).val] w fun e w' => e = .returned (SV.raw (.tuple #[])).val ∧ HL w w' [g] [(g, T, putAt cs o (be64L v 8))] := by
  refine calls_E [.sl (some ⟨g, o, none⟩) n c, .u64 v] Tryd.func57 rfl Tryd.ntmps57 rfl ?_
  have hl := HL.startB hg
  refine EWp.seqR [0, 1] fun K hK => ?_
  simp only [ev, fx, ↓reduceIte, Nat.reduceEqDiff, Nat.reduceLT, Nat.reduceLeDiff, Nat.reduceAdd, Nat.reduceSub, Nat.reduceMul, Int.reduceLT, Int.reduceLE, Int.reduceToNat, BitVec.reduceOfInt, BitVec.reduceToNat, reduceCtorEq, and_self, decide_true, decide_false, Bool.not_true, Bool.not_false, ne_eq, not_true_eq_false, not_false_eq_true, true_and, and_true]
  repeat (refine And.intro (by omega) ?_)
  refine SemE.loadB hl 0 rfl one_5 rfl rfl hy ?_
  simp only [ev, fx, ↓reduceIte, Nat.reduceEqDiff, Nat.reduceLT, Nat.reduceLeDiff, Nat.reduceAdd, Nat.reduceSub, Nat.reduceMul, Int.reduceLT, Int.reduceLE, Int.reduceToNat, BitVec.reduceOfInt, BitVec.reduceToNat, reduceCtorEq, and_self, decide_true, decide_false, Bool.not_true, Bool.not_false, ne_eq, not_true_eq_false, not_false_eq_true, true_and, and_true]
  repeat (refine And.intro (by omega) ?_)
  refine hK _ _ ?_; clear hK K
  refine EWp.seqR [0, 1, 4] fun K hK => ?_
  simp only [ev, fx, ↓reduceIte, Nat.reduceEqDiff, Nat.reduceLT, Nat.reduceLeDiff, Nat.reduceAdd, Nat.reduceSub, Nat.reduceMul, Int.reduceLT, Int.reduceLE, Int.reduceToNat, BitVec.reduceOfInt, BitVec.reduceToNat, reduceCtorEq, and_self, decide_true, decide_false, Bool.not_true, Bool.not_false, ne_eq, not_true_eq_false, not_false_eq_true, true_and, and_true]
  repeat (refine And.intro (by omega) ?_)
  refine hK _ _ ?_; clear hK K
  refine EWp.block ?_
  refine EWp.loop [0, 1, 4] (fun k S' w' => ∃ i, i ≤ 8 ∧ k = 8 - i ∧ S' = [(0, .sl (some ⟨g, o, none⟩) n c), (1, .u64 v), (4, .nat i)] ∧ HL w w' [g] [(g, T, putAt cs o (be64L v i))]) 8 ?_ ?_
  case refine_1 => exact ⟨0, by omega, rfl, rfl, by rw [show be64L v 0 = [] from rfl, putAt_nil]; exact hl⟩
  clear hl
  rintro k S' w' ⟨i, hi, rfl, rfl, hl⟩
  refine EWp.headR [0, 1, 4, 9] fun K hK => ?_
  simp only [ev, fx, ↓reduceIte, Nat.reduceEqDiff, Nat.reduceLT, Nat.reduceLeDiff, Nat.reduceAdd, Nat.reduceSub, Nat.reduceMul, Int.reduceLT, Int.reduceLE, Int.reduceToNat, BitVec.reduceOfInt, BitVec.reduceToNat, reduceCtorEq, and_self, decide_true, decide_false, Bool.not_true, Bool.not_false, ne_eq, not_true_eq_false, not_false_eq_true, true_and, and_true]
  refine hK _ _ (decide (i < 8)) rfl (fun hlt => ?_) (fun hlt => ?_) <;> clear hK K
  case refine_2 =>
    have hlt := of_decide_eq_false hlt
    obtain rfl : i = 8 := by omega
    simp only [ThenE, BlockE, ↓reduceIte]
    exact BodyE.none' rfl ⟨rfl, hl⟩
  have hlt := of_decide_eq_true hlt
  refine EWp.cut [0, 1, 4] (fun S' w' => S' = [(0, .sl (some ⟨g, o, none⟩) n c), (1, .u64 v), (4, .nat i)] ∧ HL w w' [g] [(g, T, putAt cs o (be64L v (i + 1)))]) ?_ ?_
  case refine_2 =>
    clear hl
    rintro S' w' ⟨rfl, hl⟩
    refine EWp.regR [0, 1, 4] fun K hK => ?_
    simp only [ev, fx, ↓reduceIte, Nat.reduceEqDiff, Nat.reduceLT, Nat.reduceLeDiff, Nat.reduceAdd, Nat.reduceSub, Nat.reduceMul, Int.reduceLT, Int.reduceLE, Int.reduceToNat, BitVec.reduceOfInt, BitVec.reduceToNat, reduceCtorEq, and_self, decide_true, decide_false, Bool.not_true, Bool.not_false, ne_eq, not_true_eq_false, not_false_eq_true, true_and, and_true]
    repeat (refine And.intro (by omega) ?_)
    exact hK _ _ fun S1 h1 => ⟨7 - i, by omega, i + 1, by omega, by omega, h1, hl⟩
  refine EWp.block ?_
  refine EWp.regR [0, 1, 4] fun K hK => ?_
  simp only [ev, fx, ↓reduceIte, Nat.reduceEqDiff, Nat.reduceLT, Nat.reduceLeDiff, Nat.reduceAdd, Nat.reduceSub, Nat.reduceMul, Int.reduceLT, Int.reduceLE, Int.reduceToNat, BitVec.reduceOfInt, BitVec.reduceToNat, reduceCtorEq, and_self, decide_true, decide_false, Bool.not_true, Bool.not_false, ne_eq, not_true_eq_false, not_false_eq_true, true_and, and_true]
  repeat (refine And.intro (by omega) ?_)
  have hlen : (be64L v i).length = i := be64L_len v i
  refine SemE.storeB (v := .u8 (be8 v i)) hl 0 rfl rfl one_5 rfl rfl (by rw [putAt_length _ _ _ (by omega)]; omega) fun w2 hl => ?_
  have hs := putAt_snoc cs o (be64L v i) (.u8 (be8 v i)) (by omega)
  rw [hlen] at hs
  rw [List.set_cons_zero, hs, ← be64L_succ] at hl
  simp only [ev, fx, ↓reduceIte, Nat.reduceEqDiff, Nat.reduceLT, Nat.reduceLeDiff, Nat.reduceAdd, Nat.reduceSub, Nat.reduceMul, Int.reduceLT, Int.reduceLE, Int.reduceToNat, BitVec.reduceOfInt, BitVec.reduceToNat, reduceCtorEq, and_self, decide_true, decide_false, Bool.not_true, Bool.not_false, ne_eq, not_true_eq_false, not_false_eq_true, true_and, and_true]
  refine hK _ _ fun S1 h1 => ?_; clear hK K
  simp only [BlockE, ThenE]
  exact ⟨h1, hl⟩

end Go.Proofs.YtggbaffkjfofhaaDoor
