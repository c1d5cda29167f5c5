/- The state of a digest of SHA-512, kept as bytes. -/
import Derived.Test.YtggbaffkjfofhaaDoorFd3
import Derived.Test.YtggbaffkjfofhaaDoorMem6
import Derived.Test.YtggbaffkjfofhaaDoorMem7
import Derived.Test.YtggbaffkjfofhaaDoorMem8
set_option linter.unusedVariables false
set_option linter.unusedSimpArgs false
namespace Go.Proofs.YtggbaffkjfofhaaDoor
open Go
theorem Own.cast {e : TypeId} {z n n' : Nat} {v : SV} {xs xs' : List SV} {B : List Blk} (ho : Own e z v n xs B) (hn : n = n') (hx : xs = xs') : Own e z v n' xs' B := by subst hn; subst hx; exact ho

set_option maxRecDepth 100000 in
theorem beApp64 (v : SV) (k : Nat) (xs : List SV) (B : List Blk) (x : BitVec 64) (w : World) (ho : Own 5 1 v k xs B) (hB : HL w w (B.map (·.1)) B) (hk : k ≤ 1000000) :
    Calls Tryd.prog 47 #[v.val, (SV.u64 x).val] w fun e w' => ∃ v' B', e = .returned v'.val ∧ Own 5 1 v' (k + 8) (xs ++ (bytes8 x).map SV.u8) B' ∧ HL w w' (B.map (·.1)) B' := by
  refine calls_E [v, .u64 x] Tryd.func47 rfl Tryd.ntmps47 rfl ?_
  refine EWp.seqR [0, 1] fun K hK => ?_
  simp only [ev, fx, ↓reduceIte, Nat.reduceEqDiff, Nat.reduceLT, Nat.reduceLeDiff, Nat.reduceAdd, Nat.reduceSub, Nat.reduceMul, Int.reduceLT, Int.reduceLE, Int.reduceToNat, BitVec.reduceOfInt, BitVec.reduceToNat, reduceCtorEq, and_self, decide_true, decide_false, Bool.not_true, Bool.not_false, ne_eq, not_true_eq_false, not_false_eq_true, true_and, and_true]
  repeat (refine And.intro (by omega) ?_)
  refine hK _ _ ?_; clear hK K
  have hvs : (bytes8 x).map SV.u8 = [SV.u8 (be8 x 0), SV.u8 (be8 x 1), SV.u8 (be8 x 2), SV.u8 (be8 x 3), SV.u8 (be8 x 4), SV.u8 (be8 x 5), SV.u8 (be8 x 6), SV.u8 (x.setWidth 8)] := by simp [bytes8, be8, List.range_succ]
  rw [hvs]
  refine EWp.seqR [4] fun K hK => ?_
  simp only [ev, fx, ↓reduceIte, Nat.reduceEqDiff, Nat.reduceLT, Nat.reduceLeDiff, Nat.reduceAdd, Nat.reduceSub, Nat.reduceMul, Int.reduceLT, Int.reduceLE, Int.reduceToNat, BitVec.reduceOfInt, BitVec.reduceToNat, reduceCtorEq, and_self, decide_true, decide_false, Bool.not_true, Bool.not_false, ne_eq, not_true_eq_false, not_false_eq_true, true_and, and_true]
  refine SemE.buildSlice (vs := [SV.u8 (be8 x 0), SV.u8 (be8 x 1), SV.u8 (be8 x 2), SV.u8 (be8 x 3), SV.u8 (be8 x 4), SV.u8 (be8 x 5), SV.u8 (be8 x 6), SV.u8 (x.setWidth 8)]) hB 5 slof_23 rfl rfl (by omega) rfl fun b1 w2 hb1 hl => ?_
  simp only [ev, fx, ↓reduceIte, Nat.reduceEqDiff, Nat.reduceLT, Nat.reduceLeDiff, Nat.reduceAdd, Nat.reduceSub, Nat.reduceMul, Int.reduceLT, Int.reduceLE, Int.reduceToNat, BitVec.reduceOfInt, BitVec.reduceToNat, reduceCtorEq, and_self, decide_true, decide_false, Bool.not_true, Bool.not_false, ne_eq, not_true_eq_false, not_false_eq_true, true_and, and_true]
  have hr1 : Rd w2 (some ⟨b1, 0, none⟩) [SV.u8 (be8 x 0), SV.u8 (be8 x 1), SV.u8 (be8 x 2), SV.u8 (be8 x 3), SV.u8 (be8 x 4), SV.u8 (be8 x 5), SV.u8 (be8 x 6), SV.u8 (x.setWidth 8)] := Rd.blk (hl.sub (List.sublist_append_right _ [(b1, 5, [SV.u8 (be8 x 0), SV.u8 (be8 x 1), SV.u8 (be8 x 2), SV.u8 (be8 x 3), SV.u8 (be8 x 4), SV.u8 (be8 x 5), SV.u8 (be8 x 6), SV.u8 (x.setWidth 8)])])) (k := 0) rfl 0 8
  refine SemE.append hl ho slof_23 rfl rfl rfl hr1 rfl (fun h => by cases h) (by simp [SV.isOne]) (by omega) rfl fun v2 B2 w3 ho hl _ => ?_
  have hl := hl.sub (List.sublist_append_left B2 _)
  simp only [ev, fx, ↓reduceIte, Nat.reduceEqDiff, Nat.reduceLT, Nat.reduceLeDiff, Nat.reduceAdd, Nat.reduceSub, Nat.reduceMul, Int.reduceLT, Int.reduceLE, Int.reduceToNat, BitVec.reduceOfInt, BitVec.reduceToNat, reduceCtorEq, and_self, decide_true, decide_false, Bool.not_true, Bool.not_false, ne_eq, not_true_eq_false, not_false_eq_true, true_and, and_true]
  repeat (refine And.intro (by omega) ?_)
  refine hK _ _ ?_; clear hK K
  exact EWp.ret (BodyE.tmp1 rfl rfl ⟨v2, B2, rfl, ho, hl⟩)

def magicB (ki : Kd) : List B8 := [115#8, 104#8, 97#8, match ki with | .k384 => 4#8 | .k224 => 5#8 | .k256 => 6#8 | .k512 => 7#8]
theorem magicB_len (ki : Kd) : (magicB ki).length = 4 := rfl

/-- The state behind the text T, as bytes. -/
def marT (ki : Kd) (T : List B8) : List B8 := sumB (blocks (initOf ki) T) ++ T.drop (128 * (T.length / 128)) ++ List.replicate (128 - T.length % 128) 0#8 ++ bytes8 (BitVec.ofNat 64 T.length)
def marB (ki : Kd) (T : List B8) : List B8 := magicB ki ++ marT ki T
theorem marB_len (ki : Kd) (T : List B8) : (marB ki T).length = 204 := by
  have h1 : (T.drop (128 * (T.length / 128))).length = T.length % 128 := by simp; omega
  have h2 : (bytes8 (BitVec.ofNat 64 T.length)).length = 8 := rfl
  unfold marB marT
  simp only [List.length_append, h1, h2, List.length_replicate, sumB_len, magicB_len]
  omega

set_option maxRecDepth 100000 in
theorem appD (b : Nat) (T : List B8) (cs : List SV) (ki : Kd) (hd : Dig ki T cs) (v : SV) (k : Nat) (xs : List SV) (B : List Blk) (w : World) (hb : w.heap[b]? = some (.cells (cs.map SV.val).toArray 76 (0, 0)))
    (ho : Own 5 1 v k xs B) (hB : HL w w (B.map (·.1)) B) (hbB : b ∉ B.map (·.1)) (hk : k ≤ 100000) :
    Calls Tryd.prog 38 #[(SV.ptr ⟨b, 0, none⟩).val, v.val] w fun e w' => ∃ v' B', e = .returned (SV.tup2 v' (.raw .nilIface)).val ∧ Own 5 1 v' (k + 204) (xs ++ (marB ki T).map SV.u8) B' ∧ HL w w' (B.map (·.1)) B' := by
  obtain ⟨x, hx, htk, rfl⟩ := hd
  refine calls_E [.ptr ⟨b, 0, none⟩, v] Tryd.func38 rfl Tryd.ntmps38 rfl ?_
  have hmt : marT ki T = sumB (blocks (initOf ki) T) ++ T.drop (128 * (T.length / 128)) ++ List.replicate (128 - T.length % 128) 0#8 ++ bytes8 (BitVec.ofNat 64 T.length) := rfl
  have htl : (T.drop (128 * (T.length / 128))).length = T.length % 128 := by simp; omega
  have hm : T.length % 128 < 128 := Nat.mod_lt _ (by omega)
  generalize T.length % 128 = m at *
  generalize T.drop (128 * (T.length / 128)) = tl at *
  generalize blocks (initOf ki) T = s at *
  have hbk : ∀ {w' : World} {H : List Blk}, HL w w' (B.map (·.1)) H → w'.heap[b]? = some (.cells ((digC s x m (BitVec.ofNat 64 T.length) ki).map SV.val).toArray 76 (0, 0)) := fun h => (h.old b (Array.getElem?_eq_some_iff.1 hb).1 hbB).trans hb
  have hl : HL w w (B.map (·.1)) (B ++ []) := by rw [List.append_nil]; exact hB
  refine EWp.seqR [0, 1] fun K hK => ?_
  simp only [ev, fx, ↓reduceIte, Nat.reduceEqDiff, Nat.reduceLT, Nat.reduceLeDiff, Nat.reduceAdd, Nat.reduceSub, Nat.reduceMul, Int.reduceLT, Int.reduceLE, Int.reduceToNat, BitVec.reduceOfInt, BitVec.reduceToNat, reduceCtorEq, and_self, decide_true, decide_false, Bool.not_true, Bool.not_false, ne_eq, not_true_eq_false, not_false_eq_true, true_and, and_true]
  repeat (refine And.intro (by omega) ?_)
  refine hK _ _ ?_; clear hK K
  refine EWp.cut [0, 1] (fun S' w1 => ∃ v1 B1, S' = [(0, .ptr ⟨b, 0, none⟩), (1, v1)] ∧ Own 5 1 v1 (k + ((magicB ki).map SV.u8).length) (xs ++ (magicB ki).map SV.u8) B1 ∧ HL w w1 (B.map (·.1)) (B1 ++ [])) ?_ ?_
  case refine_1 =>
    refine EWp.seqR [0, 1, 9] fun K hK => ?_
    simp only [ev, fx, ↓reduceIte, Nat.reduceEqDiff, Nat.reduceLT, Nat.reduceLeDiff, Nat.reduceAdd, Nat.reduceSub, Nat.reduceMul, Int.reduceLT, Int.reduceLE, Int.reduceToNat, BitVec.reduceOfInt, BitVec.reduceToNat, reduceCtorEq, and_self, decide_true, decide_false, Bool.not_true, Bool.not_false, ne_eq, not_true_eq_false, not_false_eq_true, true_and, and_true]
    refine SemE.loadB (HL.startB (hbk hl)) 0 rfl one_3 rfl rfl (digC_sz_get _ _ _ _ _ hx) ?_
    simp only [ev, fx, ↓reduceIte, Nat.reduceEqDiff, Nat.reduceLT, Nat.reduceLeDiff, Nat.reduceAdd, Nat.reduceSub, Nat.reduceMul, Int.reduceLT, Int.reduceLE, Int.reduceToNat, BitVec.reduceOfInt, BitVec.reduceToNat, reduceCtorEq, and_self, decide_true, decide_false, Bool.not_true, Bool.not_false, ne_eq, not_true_eq_false, not_false_eq_true, true_and, and_true]
    repeat (refine And.intro (by omega) ?_)
    refine hK _ _ ?_; clear hK K
    refine EWp.block ?_
    cases ki
    · refine EWp.brR [0, 1, 9, 11] fun K hK => ?_
      simp only [ev, fx, ↓reduceIte, Nat.reduceEqDiff, Nat.reduceLT, Nat.reduceLeDiff, Nat.reduceAdd, Nat.reduceSub, Nat.reduceMul, Int.reduceLT, Int.reduceLE, Int.reduceToNat, BitVec.reduceOfInt, BitVec.reduceToNat, reduceCtorEq, and_self, decide_true, decide_false, Bool.not_true, Bool.not_false, ne_eq, not_true_eq_false, not_false_eq_true, true_and, and_true, szOf]
      refine hK _ _ true rfl (fun _ => ?_) (fun h => by cases h); clear hK K
      refine EWp.regR [0, 1] fun K hK => ?_
      simp only [ev, fx, ↓reduceIte, Nat.reduceEqDiff, Nat.reduceLT, Nat.reduceLeDiff, Nat.reduceAdd, Nat.reduceSub, Nat.reduceMul, Int.reduceLT, Int.reduceLE, Int.reduceToNat, BitVec.reduceOfInt, BitVec.reduceToNat, reduceCtorEq, and_self, decide_true, decide_false, Bool.not_true, Bool.not_false, ne_eq, not_true_eq_false, not_false_eq_true, true_and, and_true]
      refine SemE.appendArms (vs := (magicB .k384).map SV.u8) (B := B) (H := []) hl ho (arms_str bsl_23 strt_9 (magicB .k384) (by decide)) (by simp [magicB]) rfl rfl (by simp [magicB]; omega) rfl fun v1 B1 w1 ho1 hl1 _ => ?_
      simp only [ev, fx, ↓reduceIte, Nat.reduceEqDiff, Nat.reduceLT, Nat.reduceLeDiff, Nat.reduceAdd, Nat.reduceSub, Nat.reduceMul, Int.reduceLT, Int.reduceLE, Int.reduceToNat, BitVec.reduceOfInt, BitVec.reduceToNat, reduceCtorEq, and_self, decide_true, decide_false, Bool.not_true, Bool.not_false, ne_eq, not_true_eq_false, not_false_eq_true, true_and, and_true]
      refine hK _ _ fun S1 h1 => ?_; clear hK K
      simp only [BlockE, ThenE]
      exact ⟨v1, B1, h1, ho1, hl1⟩
    · refine EWp.brR [0, 1, 9, 11] fun K hK => ?_
      simp only [ev, fx, ↓reduceIte, Nat.reduceEqDiff, Nat.reduceLT, Nat.reduceLeDiff, Nat.reduceAdd, Nat.reduceSub, Nat.reduceMul, Int.reduceLT, Int.reduceLE, Int.reduceToNat, BitVec.reduceOfInt, BitVec.reduceToNat, reduceCtorEq, and_self, decide_true, decide_false, Bool.not_true, Bool.not_false, ne_eq, not_true_eq_false, not_false_eq_true, true_and, and_true, szOf]
      refine hK _ _ false rfl (fun h => by cases h) (fun _ => ?_); clear hK K
      refine EWp.brR [0, 1, 9, 15] fun K hK => ?_
      simp only [ev, fx, ↓reduceIte, Nat.reduceEqDiff, Nat.reduceLT, Nat.reduceLeDiff, Nat.reduceAdd, Nat.reduceSub, Nat.reduceMul, Int.reduceLT, Int.reduceLE, Int.reduceToNat, BitVec.reduceOfInt, BitVec.reduceToNat, reduceCtorEq, and_self, decide_true, decide_false, Bool.not_true, Bool.not_false, ne_eq, not_true_eq_false, not_false_eq_true, true_and, and_true, szOf]
      refine hK _ _ false rfl (fun h => by cases h) (fun _ => ?_); clear hK K
      refine EWp.brR [0, 1, 9, 19] fun K hK => ?_
      simp only [ev, fx, ↓reduceIte, Nat.reduceEqDiff, Nat.reduceLT, Nat.reduceLeDiff, Nat.reduceAdd, Nat.reduceSub, Nat.reduceMul, Int.reduceLT, Int.reduceLE, Int.reduceToNat, BitVec.reduceOfInt, BitVec.reduceToNat, reduceCtorEq, and_self, decide_true, decide_false, Bool.not_true, Bool.not_false, ne_eq, not_true_eq_false, not_false_eq_true, true_and, and_true, szOf]
      refine hK _ _ false rfl (fun h => by cases h) (fun _ => ?_); clear hK K
      refine EWp.brR [0, 1, 9, 23] fun K hK => ?_
      simp only [ev, fx, ↓reduceIte, Nat.reduceEqDiff, Nat.reduceLT, Nat.reduceLeDiff, Nat.reduceAdd, Nat.reduceSub, Nat.reduceMul, Int.reduceLT, Int.reduceLE, Int.reduceToNat, BitVec.reduceOfInt, BitVec.reduceToNat, reduceCtorEq, and_self, decide_true, decide_false, Bool.not_true, Bool.not_false, ne_eq, not_true_eq_false, not_false_eq_true, true_and, and_true, szOf]
      refine hK _ _ true rfl (fun _ => ?_) (fun h => by cases h); clear hK K
      refine EWp.regR [0, 1] fun K hK => ?_
      simp only [ev, fx, ↓reduceIte, Nat.reduceEqDiff, Nat.reduceLT, Nat.reduceLeDiff, Nat.reduceAdd, Nat.reduceSub, Nat.reduceMul, Int.reduceLT, Int.reduceLE, Int.reduceToNat, BitVec.reduceOfInt, BitVec.reduceToNat, reduceCtorEq, and_self, decide_true, decide_false, Bool.not_true, Bool.not_false, ne_eq, not_true_eq_false, not_false_eq_true, true_and, and_true]
      refine SemE.appendArms (vs := (magicB .k512).map SV.u8) (B := B) (H := []) hl ho (arms_str bsl_23 strt_9 (magicB .k512) (by decide)) (by simp [magicB]) rfl rfl (by simp [magicB]; omega) rfl fun v1 B1 w1 ho1 hl1 _ => ?_
      simp only [ev, fx, ↓reduceIte, Nat.reduceEqDiff, Nat.reduceLT, Nat.reduceLeDiff, Nat.reduceAdd, Nat.reduceSub, Nat.reduceMul, Int.reduceLT, Int.reduceLE, Int.reduceToNat, BitVec.reduceOfInt, BitVec.reduceToNat, reduceCtorEq, and_self, decide_true, decide_false, Bool.not_true, Bool.not_false, ne_eq, not_true_eq_false, not_false_eq_true, true_and, and_true]
      refine hK _ _ fun S1 h1 => ?_; clear hK K
      simp only [BlockE, ThenE]
      exact ⟨v1, B1, h1, ho1, hl1⟩
    · refine EWp.brR [0, 1, 9, 11] fun K hK => ?_
      simp only [ev, fx, ↓reduceIte, Nat.reduceEqDiff, Nat.reduceLT, Nat.reduceLeDiff, Nat.reduceAdd, Nat.reduceSub, Nat.reduceMul, Int.reduceLT, Int.reduceLE, Int.reduceToNat, BitVec.reduceOfInt, BitVec.reduceToNat, reduceCtorEq, and_self, decide_true, decide_false, Bool.not_true, Bool.not_false, ne_eq, not_true_eq_false, not_false_eq_true, true_and, and_true, szOf]
      refine hK _ _ false rfl (fun h => by cases h) (fun _ => ?_); clear hK K
      refine EWp.brR [0, 1, 9, 15] fun K hK => ?_
      simp only [ev, fx, ↓reduceIte, Nat.reduceEqDiff, Nat.reduceLT, Nat.reduceLeDiff, Nat.reduceAdd, Nat.reduceSub, Nat.reduceMul, Int.reduceLT, Int.reduceLE, Int.reduceToNat, BitVec.reduceOfInt, BitVec.reduceToNat, reduceCtorEq, and_self, decide_true, decide_false, Bool.not_true, Bool.not_false, ne_eq, not_true_eq_false, not_false_eq_true, true_and, and_true, szOf]
      refine hK _ _ true rfl (fun _ => ?_) (fun h => by cases h); clear hK K
      refine EWp.regR [0, 1] fun K hK => ?_
      simp only [ev, fx, ↓reduceIte, Nat.reduceEqDiff, Nat.reduceLT, Nat.reduceLeDiff, Nat.reduceAdd, Nat.reduceSub, Nat.reduceMul, Int.reduceLT, Int.reduceLE, Int.reduceToNat, BitVec.reduceOfInt, BitVec.reduceToNat, reduceCtorEq, and_self, decide_true, decide_false, Bool.not_true, Bool.not_false, ne_eq, not_true_eq_false, not_false_eq_true, true_and, and_true]
      refine SemE.appendArms (vs := (magicB .k224).map SV.u8) (B := B) (H := []) hl ho (arms_str bsl_23 strt_9 (magicB .k224) (by decide)) (by simp [magicB]) rfl rfl (by simp [magicB]; omega) rfl fun v1 B1 w1 ho1 hl1 _ => ?_
      simp only [ev, fx, ↓reduceIte, Nat.reduceEqDiff, Nat.reduceLT, Nat.reduceLeDiff, Nat.reduceAdd, Nat.reduceSub, Nat.reduceMul, Int.reduceLT, Int.reduceLE, Int.reduceToNat, BitVec.reduceOfInt, BitVec.reduceToNat, reduceCtorEq, and_self, decide_true, decide_false, Bool.not_true, Bool.not_false, ne_eq, not_true_eq_false, not_false_eq_true, true_and, and_true]
      refine hK _ _ fun S1 h1 => ?_; clear hK K
      simp only [BlockE, ThenE]
      exact ⟨v1, B1, h1, ho1, hl1⟩
    · refine EWp.brR [0, 1, 9, 11] fun K hK => ?_
      simp only [ev, fx, ↓reduceIte, Nat.reduceEqDiff, Nat.reduceLT, Nat.reduceLeDiff, Nat.reduceAdd, Nat.reduceSub, Nat.reduceMul, Int.reduceLT, Int.reduceLE, Int.reduceToNat, BitVec.reduceOfInt, BitVec.reduceToNat, reduceCtorEq, and_self, decide_true, decide_false, Bool.not_true, Bool.not_false, ne_eq, not_true_eq_false, not_false_eq_true, true_and, and_true, szOf]
      refine hK _ _ false rfl (fun h => by cases h) (fun _ => ?_); clear hK K
      refine EWp.brR [0, 1, 9, 15] fun K hK => ?_
      simp only [ev, fx, ↓reduceIte, Nat.reduceEqDiff, Nat.reduceLT, Nat.reduceLeDiff, Nat.reduceAdd, Nat.reduceSub, Nat.reduceMul, Int.reduceLT, Int.reduceLE, Int.reduceToNat, BitVec.reduceOfInt, BitVec.reduceToNat, reduceCtorEq, and_self, decide_true, decide_false, Bool.not_true, Bool.not_false, ne_eq, not_true_eq_false, not_false_eq_true, true_and, and_true, szOf]
      refine hK _ _ false rfl (fun h => by cases h) (fun _ => ?_); clear hK K
      refine EWp.brR [0, 1, 9, 19] fun K hK => ?_
      simp only [ev, fx, ↓reduceIte, Nat.reduceEqDiff, Nat.reduceLT, Nat.reduceLeDiff, Nat.reduceAdd, Nat.reduceSub, Nat.reduceMul, Int.reduceLT, Int.reduceLE, Int.reduceToNat, BitVec.reduceOfInt, BitVec.reduceToNat, reduceCtorEq, and_self, decide_true, decide_false, Bool.not_true, Bool.not_false, ne_eq, not_true_eq_false, not_false_eq_true, true_and, and_true, szOf]
      refine hK _ _ true rfl (fun _ => ?_) (fun h => by cases h); clear hK K
      refine EWp.regR [0, 1] fun K hK => ?_
      simp only [ev, fx, ↓reduceIte, Nat.reduceEqDiff, Nat.reduceLT, Nat.reduceLeDiff, Nat.reduceAdd, Nat.reduceSub, Nat.reduceMul, Int.reduceLT, Int.reduceLE, Int.reduceToNat, BitVec.reduceOfInt, BitVec.reduceToNat, reduceCtorEq, and_self, decide_true, decide_false, Bool.not_true, Bool.not_false, ne_eq, not_true_eq_false, not_false_eq_true, true_and, and_true]
      refine SemE.appendArms (vs := (magicB .k256).map SV.u8) (B := B) (H := []) hl ho (arms_str bsl_23 strt_9 (magicB .k256) (by decide)) (by simp [magicB]) rfl rfl (by simp [magicB]; omega) rfl fun v1 B1 w1 ho1 hl1 _ => ?_
      simp only [ev, fx, ↓reduceIte, Nat.reduceEqDiff, Nat.reduceLT, Nat.reduceLeDiff, Nat.reduceAdd, Nat.reduceSub, Nat.reduceMul, Int.reduceLT, Int.reduceLE, Int.reduceToNat, BitVec.reduceOfInt, BitVec.reduceToNat, reduceCtorEq, and_self, decide_true, decide_false, Bool.not_true, Bool.not_false, ne_eq, not_true_eq_false, not_false_eq_true, true_and, and_true]
      refine hK _ _ fun S1 h1 => ?_; clear hK K
      simp only [BlockE, ThenE]
      exact ⟨v1, B1, h1, ho1, hl1⟩
  rintro S' w1 ⟨v1, B1, rfl, ho1, hl1⟩
  have ho := ho1
  have hl := hl1
  clear ho1 hl1
  have hml : ((magicB ki).map SV.u8).length = 4 := by simp [magicB_len]
  rw [hml] at ho
  refine EWp.seqR [0, 1] fun K hK => ?_
  simp only [ev, fx, ↓reduceIte, Nat.reduceEqDiff, Nat.reduceLT, Nat.reduceLeDiff, Nat.reduceAdd, Nat.reduceSub, Nat.reduceMul, Int.reduceLT, Int.reduceLE, Int.reduceToNat, BitVec.reduceOfInt, BitVec.reduceToNat, reduceCtorEq, and_self, decide_true, decide_false, Bool.not_true, Bool.not_false, ne_eq, not_true_eq_false, not_false_eq_true, true_and, and_true]
  refine SemE.loadB (HL.startB (hbk hl)) 0 rfl one_31 rfl rfl (show (digC s x m (BitVec.ofNat 64 T.length) ki)[0]? = some (.u64 s.a) from rfl) ?_
  simp only [ev, fx, ↓reduceIte, Nat.reduceEqDiff, Nat.reduceLT, Nat.reduceLeDiff, Nat.reduceAdd, Nat.reduceSub, Nat.reduceMul, Int.reduceLT, Int.reduceLE, Int.reduceToNat, BitVec.reduceOfInt, BitVec.reduceToNat, reduceCtorEq, and_self, decide_true, decide_false, Bool.not_true, Bool.not_false, ne_eq, not_true_eq_false, not_false_eq_true, true_and, and_true]
  refine SemE.call fn_47 rfl rfl (beApp64 _ _ _ _ s.a _ ho hl.own (by omega)) ?_
  rintro _ w1 ⟨v, B1, rfl, ho1, hl1⟩
  refine ⟨_, rfl, ?_⟩
  have hl := hl.callB hl1
  have ho := ho1
  clear ho1 hl1
  simp only [ev, fx, ↓reduceIte, Nat.reduceEqDiff, Nat.reduceLT, Nat.reduceLeDiff, Nat.reduceAdd, Nat.reduceSub, Nat.reduceMul, Int.reduceLT, Int.reduceLE, Int.reduceToNat, BitVec.reduceOfInt, BitVec.reduceToNat, reduceCtorEq, and_self, decide_true, decide_false, Bool.not_true, Bool.not_false, ne_eq, not_true_eq_false, not_false_eq_true, true_and, and_true]
  repeat (refine And.intro (by omega) ?_)
  refine hK _ _ ?_; clear hK K
  refine EWp.seqR [0, 1] fun K hK => ?_
  simp only [ev, fx, ↓reduceIte, Nat.reduceEqDiff, Nat.reduceLT, Nat.reduceLeDiff, Nat.reduceAdd, Nat.reduceSub, Nat.reduceMul, Int.reduceLT, Int.reduceLE, Int.reduceToNat, BitVec.reduceOfInt, BitVec.reduceToNat, reduceCtorEq, and_self, decide_true, decide_false, Bool.not_true, Bool.not_false, ne_eq, not_true_eq_false, not_false_eq_true, true_and, and_true]
  refine SemE.loadB (HL.startB (hbk hl)) 0 rfl one_31 rfl rfl (show (digC s x m (BitVec.ofNat 64 T.length) ki)[1]? = some (.u64 s.b) from rfl) ?_
  simp only [ev, fx, ↓reduceIte, Nat.reduceEqDiff, Nat.reduceLT, Nat.reduceLeDiff, Nat.reduceAdd, Nat.reduceSub, Nat.reduceMul, Int.reduceLT, Int.reduceLE, Int.reduceToNat, BitVec.reduceOfInt, BitVec.reduceToNat, reduceCtorEq, and_self, decide_true, decide_false, Bool.not_true, Bool.not_false, ne_eq, not_true_eq_false, not_false_eq_true, true_and, and_true]
  refine SemE.call fn_47 rfl rfl (beApp64 _ _ _ _ s.b _ ho hl.own (by omega)) ?_
  rintro _ w1 ⟨v, B1, rfl, ho1, hl1⟩
  refine ⟨_, rfl, ?_⟩
  have hl := hl.callB hl1
  have ho := ho1
  clear ho1 hl1
  simp only [ev, fx, ↓reduceIte, Nat.reduceEqDiff, Nat.reduceLT, Nat.reduceLeDiff, Nat.reduceAdd, Nat.reduceSub, Nat.reduceMul, Int.reduceLT, Int.reduceLE, Int.reduceToNat, BitVec.reduceOfInt, BitVec.reduceToNat, reduceCtorEq, and_self, decide_true, decide_false, Bool.not_true, Bool.not_false, ne_eq, not_true_eq_false, not_false_eq_true, true_and, and_true]
  repeat (refine And.intro (by omega) ?_)
  refine hK _ _ ?_; clear hK K
  refine EWp.seqR [0, 1] fun K hK => ?_
  simp only [ev, fx, ↓reduceIte, Nat.reduceEqDiff, Nat.reduceLT, Nat.reduceLeDiff, Nat.reduceAdd, Nat.reduceSub, Nat.reduceMul, Int.reduceLT, Int.reduceLE, Int.reduceToNat, BitVec.reduceOfInt, BitVec.reduceToNat, reduceCtorEq, and_self, decide_true, decide_false, Bool.not_true, Bool.not_false, ne_eq, not_true_eq_false, not_false_eq_true, true_and, and_true]
  refine SemE.loadB (HL.startB (hbk hl)) 0 rfl one_31 rfl rfl (show (digC s x m (BitVec.ofNat 64 T.length) ki)[2]? = some (.u64 s.c) from rfl) ?_
  simp only [ev, fx, ↓reduceIte, Nat.reduceEqDiff, Nat.reduceLT, Nat.reduceLeDiff, Nat.reduceAdd, Nat.reduceSub, Nat.reduceMul, Int.reduceLT, Int.reduceLE, Int.reduceToNat, BitVec.reduceOfInt, BitVec.reduceToNat, reduceCtorEq, and_self, decide_true, decide_false, Bool.not_true, Bool.not_false, ne_eq, not_true_eq_false, not_false_eq_true, true_and, and_true]
  refine SemE.call fn_47 rfl rfl (beApp64 _ _ _ _ s.c _ ho hl.own (by omega)) ?_
  rintro _ w1 ⟨v, B1, rfl, ho1, hl1⟩
  refine ⟨_, rfl, ?_⟩
  have hl := hl.callB hl1
  have ho := ho1
  clear ho1 hl1
  simp only [ev, fx, ↓reduceIte, Nat.reduceEqDiff, Nat.reduceLT, Nat.reduceLeDiff, Nat.reduceAdd, Nat.reduceSub, Nat.reduceMul, Int.reduceLT, Int.reduceLE, Int.reduceToNat, BitVec.reduceOfInt, BitVec.reduceToNat, reduceCtorEq, and_self, decide_true, decide_false, Bool.not_true, Bool.not_false, ne_eq, not_true_eq_false, not_false_eq_true, true_and, and_true]
  repeat (refine And.intro (by omega) ?_)
  refine hK _ _ ?_; clear hK K
  refine EWp.seqR [0, 1] fun K hK => ?_
  simp only [ev, fx, ↓reduceIte, Nat.reduceEqDiff, Nat.reduceLT, Nat.reduceLeDiff, Nat.reduceAdd, Nat.reduceSub, Nat.reduceMul, Int.reduceLT, Int.reduceLE, Int.reduceToNat, BitVec.reduceOfInt, BitVec.reduceToNat, reduceCtorEq, and_self, decide_true, decide_false, Bool.not_true, Bool.not_false, ne_eq, not_true_eq_false, not_false_eq_true, true_and, and_true]
  refine SemE.loadB (HL.startB (hbk hl)) 0 rfl one_31 rfl rfl (show (digC s x m (BitVec.ofNat 64 T.length) ki)[3]? = some (.u64 s.d) from rfl) ?_
  simp only [ev, fx, ↓reduceIte, Nat.reduceEqDiff, Nat.reduceLT, Nat.reduceLeDiff, Nat.reduceAdd, Nat.reduceSub, Nat.reduceMul, Int.reduceLT, Int.reduceLE, Int.reduceToNat, BitVec.reduceOfInt, BitVec.reduceToNat, reduceCtorEq, and_self, decide_true, decide_false, Bool.not_true, Bool.not_false, ne_eq, not_true_eq_false, not_false_eq_true, true_and, and_true]
  refine SemE.call fn_47 rfl rfl (beApp64 _ _ _ _ s.d _ ho hl.own (by omega)) ?_
  rintro _ w1 ⟨v, B1, rfl, ho1, hl1⟩
  refine ⟨_, rfl, ?_⟩
  have hl := hl.callB hl1
  have ho := ho1
  clear ho1 hl1
  simp only [ev, fx, ↓reduceIte, Nat.reduceEqDiff, Nat.reduceLT, Nat.reduceLeDiff, Nat.reduceAdd, Nat.reduceSub, Nat.reduceMul, Int.reduceLT, Int.reduceLE, Int.reduceToNat, BitVec.reduceOfInt, BitVec.reduceToNat, reduceCtorEq, and_self, decide_true, decide_false, Bool.not_true, Bool.not_false, ne_eq, not_true_eq_false, not_false_eq_true, true_and, and_true]
  repeat (refine And.intro (by omega) ?_)
  refine hK _ _ ?_; clear hK K
  refine EWp.seqR [0, 1] fun K hK => ?_
  simp only [ev, fx, ↓reduceIte, Nat.reduceEqDiff, Nat.reduceLT, Nat.reduceLeDiff, Nat.reduceAdd, Nat.reduceSub, Nat.reduceMul, Int.reduceLT, Int.reduceLE, Int.reduceToNat, BitVec.reduceOfInt, BitVec.reduceToNat, reduceCtorEq, and_self, decide_true, decide_false, Bool.not_true, Bool.not_false, ne_eq, not_true_eq_false, not_false_eq_true, true_and, and_true]
  refine SemE.loadB (HL.startB (hbk hl)) 0 rfl one_31 rfl rfl (show (digC s x m (BitVec.ofNat 64 T.length) ki)[4]? = some (.u64 s.e) from rfl) ?_
  simp only [ev, fx, ↓reduceIte, Nat.reduceEqDiff, Nat.reduceLT, Nat.reduceLeDiff, Nat.reduceAdd, Nat.reduceSub, Nat.reduceMul, Int.reduceLT, Int.reduceLE, Int.reduceToNat, BitVec.reduceOfInt, BitVec.reduceToNat, reduceCtorEq, and_self, decide_true, decide_false, Bool.not_true, Bool.not_false, ne_eq, not_true_eq_false, not_false_eq_true, true_and, and_true]
  refine SemE.call fn_47 rfl rfl (beApp64 _ _ _ _ s.e _ ho hl.own (by omega)) ?_
  rintro _ w1 ⟨v, B1, rfl, ho1, hl1⟩
  refine ⟨_, rfl, ?_⟩
  have hl := hl.callB hl1
  have ho := ho1
  clear ho1 hl1
  simp only [ev, fx, ↓reduceIte, Nat.reduceEqDiff, Nat.reduceLT, Nat.reduceLeDiff, Nat.reduceAdd, Nat.reduceSub, Nat.reduceMul, Int.reduceLT, Int.reduceLE, Int.reduceToNat, BitVec.reduceOfInt, BitVec.reduceToNat, reduceCtorEq, and_self, decide_true, decide_false, Bool.not_true, Bool.not_false, ne_eq, not_true_eq_false, not_false_eq_true, true_and, and_true]
  repeat (refine And.intro (by omega) ?_)
  refine hK _ _ ?_; clear hK K
  refine EWp.seqR [0, 1] fun K hK => ?_
  simp only [ev, fx, ↓reduceIte, Nat.reduceEqDiff, Nat.reduceLT, Nat.reduceLeDiff, Nat.reduceAdd, Nat.reduceSub, Nat.reduceMul, Int.reduceLT, Int.reduceLE, Int.reduceToNat, BitVec.reduceOfInt, BitVec.reduceToNat, reduceCtorEq, and_self, decide_true, decide_false, Bool.not_true, Bool.not_false, ne_eq, not_true_eq_false, not_false_eq_true, true_and, and_true]
  refine SemE.loadB (HL.startB (hbk hl)) 0 rfl one_31 rfl rfl (show (digC s x m (BitVec.ofNat 64 T.length) ki)[5]? = some (.u64 s.f) from rfl) ?_
  simp only [ev, fx, ↓reduceIte, Nat.reduceEqDiff, Nat.reduceLT, Nat.reduceLeDiff, Nat.reduceAdd, Nat.reduceSub, Nat.reduceMul, Int.reduceLT, Int.reduceLE, Int.reduceToNat, BitVec.reduceOfInt, BitVec.reduceToNat, reduceCtorEq, and_self, decide_true, decide_false, Bool.not_true, Bool.not_false, ne_eq, not_true_eq_false, not_false_eq_true, true_and, and_true]
  refine SemE.call fn_47 rfl rfl (beApp64 _ _ _ _ s.f _ ho hl.own (by omega)) ?_
  rintro _ w1 ⟨v, B1, rfl, ho1, hl1⟩
  refine ⟨_, rfl, ?_⟩
  have hl := hl.callB hl1
  have ho := ho1
  clear ho1 hl1
  simp only [ev, fx, ↓reduceIte, Nat.reduceEqDiff, Nat.reduceLT, Nat.reduceLeDiff, Nat.reduceAdd, Nat.reduceSub, Nat.reduceMul, Int.reduceLT, Int.reduceLE, Int.reduceToNat, BitVec.reduceOfInt, BitVec.reduceToNat, reduceCtorEq, and_self, decide_true, decide_false, Bool.not_true, Bool.not_false, ne_eq, not_true_eq_false, not_false_eq_true, true_and, and_true]
  repeat (refine And.intro (by omega) ?_)
  refine hK _ _ ?_; clear hK K
  refine EWp.seqR [0, 1] fun K hK => ?_
  simp only [ev, fx, ↓reduceIte, Nat.reduceEqDiff, Nat.reduceLT, Nat.reduceLeDiff, Nat.reduceAdd, Nat.reduceSub, Nat.reduceMul, Int.reduceLT, Int.reduceLE, Int.reduceToNat, BitVec.reduceOfInt, BitVec.reduceToNat, reduceCtorEq, and_self, decide_true, decide_false, Bool.not_true, Bool.not_false, ne_eq, not_true_eq_false, not_false_eq_true, true_and, and_true]
  refine SemE.loadB (HL.startB (hbk hl)) 0 rfl one_31 rfl rfl (show (digC s x m (BitVec.ofNat 64 T.length) ki)[6]? = some (.u64 s.g) from rfl) ?_
  simp only [ev, fx, ↓reduceIte, Nat.reduceEqDiff, Nat.reduceLT, Nat.reduceLeDiff, Nat.reduceAdd, Nat.reduceSub, Nat.reduceMul, Int.reduceLT, Int.reduceLE, Int.reduceToNat, BitVec.reduceOfInt, BitVec.reduceToNat, reduceCtorEq, and_self, decide_true, decide_false, Bool.not_true, Bool.not_false, ne_eq, not_true_eq_false, not_false_eq_true, true_and, and_true]
  refine SemE.call fn_47 rfl rfl (beApp64 _ _ _ _ s.g _ ho hl.own (by omega)) ?_
  rintro _ w1 ⟨v, B1, rfl, ho1, hl1⟩
  refine ⟨_, rfl, ?_⟩
  have hl := hl.callB hl1
  have ho := ho1
  clear ho1 hl1
  simp only [ev, fx, ↓reduceIte, Nat.reduceEqDiff, Nat.reduceLT, Nat.reduceLeDiff, Nat.reduceAdd, Nat.reduceSub, Nat.reduceMul, Int.reduceLT, Int.reduceLE, Int.reduceToNat, BitVec.reduceOfInt, BitVec.reduceToNat, reduceCtorEq, and_self, decide_true, decide_false, Bool.not_true, Bool.not_false, ne_eq, not_true_eq_false, not_false_eq_true, true_and, and_true]
  repeat (refine And.intro (by omega) ?_)
  refine hK _ _ ?_; clear hK K
  refine EWp.seqR [0, 1] fun K hK => ?_
  simp only [ev, fx, ↓reduceIte, Nat.reduceEqDiff, Nat.reduceLT, Nat.reduceLeDiff, Nat.reduceAdd, Nat.reduceSub, Nat.reduceMul, Int.reduceLT, Int.reduceLE, Int.reduceToNat, BitVec.reduceOfInt, BitVec.reduceToNat, reduceCtorEq, and_self, decide_true, decide_false, Bool.not_true, Bool.not_false, ne_eq, not_true_eq_false, not_false_eq_true, true_and, and_true]
  refine SemE.loadB (HL.startB (hbk hl)) 0 rfl one_31 rfl rfl (show (digC s x m (BitVec.ofNat 64 T.length) ki)[7]? = some (.u64 s.h) from rfl) ?_
  simp only [ev, fx, ↓reduceIte, Nat.reduceEqDiff, Nat.reduceLT, Nat.reduceLeDiff, Nat.reduceAdd, Nat.reduceSub, Nat.reduceMul, Int.reduceLT, Int.reduceLE, Int.reduceToNat, BitVec.reduceOfInt, BitVec.reduceToNat, reduceCtorEq, and_self, decide_true, decide_false, Bool.not_true, Bool.not_false, ne_eq, not_true_eq_false, not_false_eq_true, true_and, and_true]
  refine SemE.call fn_47 rfl rfl (beApp64 _ _ _ _ s.h _ ho hl.own (by omega)) ?_
  rintro _ w1 ⟨v, B1, rfl, ho1, hl1⟩
  refine ⟨_, rfl, ?_⟩
  have hl := hl.callB hl1
  have ho := ho1
  clear ho1 hl1
  simp only [ev, fx, ↓reduceIte, Nat.reduceEqDiff, Nat.reduceLT, Nat.reduceLeDiff, Nat.reduceAdd, Nat.reduceSub, Nat.reduceMul, Int.reduceLT, Int.reduceLE, Int.reduceToNat, BitVec.reduceOfInt, BitVec.reduceToNat, reduceCtorEq, and_self, decide_true, decide_false, Bool.not_true, Bool.not_false, ne_eq, not_true_eq_false, not_false_eq_true, true_and, and_true]
  repeat (refine And.intro (by omega) ?_)
  refine hK _ _ ?_; clear hK K
  refine EWp.seqO (fun i => [9].contains i) [(0, 0), (1, 0), (2, 0), (3, 0), (4, 0), (5, 0), (6, 0), (7, 1), (8, 0), (9, 2), (10, 0)] [0, 1] mixed (by kernel_rfl) fun K hK => ?_
  have hl := hl.drew
  simp only [ev, fx, ↓reduceIte, Nat.reduceEqDiff, Nat.reduceLT, Nat.reduceLeDiff, Nat.reduceAdd, Nat.reduceSub, Nat.reduceMul, Int.reduceLT, Int.reduceLE, Int.reduceToNat, BitVec.reduceOfInt, BitVec.reduceToNat, reduceCtorEq, and_self, decide_true, decide_false, Bool.not_true, Bool.not_false, ne_eq, not_true_eq_false, not_false_eq_true, true_and, and_true, sl0, Option.map_some]
  refine StopR.loadB (HL.startB (hbk hl)) 0 rfl one_3 rfl rfl (digC_nx_get _ _ _ _ _ hx) ?_
  simp only [ev, fx, ↓reduceIte, Nat.reduceEqDiff, Nat.reduceLT, Nat.reduceLeDiff, Nat.reduceAdd, Nat.reduceSub, Nat.reduceMul, Int.reduceLT, Int.reduceLE, Int.reduceToNat, BitVec.reduceOfInt, BitVec.reduceToNat, reduceCtorEq, and_self, decide_true, decide_false, Bool.not_true, Bool.not_false, ne_eq, not_true_eq_false, not_false_eq_true, true_and, and_true, sl0, Option.map_some]
  repeat (refine And.intro (by omega) ?_)
  have hsrc := (Rd.blk (HL.startB (hbk hl)) (k := 0) rfl 8 128).take m
  rw [digC_x _ _ _ _ _ hx, ← List.map_take, htk] at hsrc
  refine SemE.append hl ho slof_23 rfl rfl rfl hsrc (by rw [List.length_map, htl, Nat.mul_one]) (fun h => by cases h) (isOneB _) (by omega) rfl fun v2 B2 w2 ho hl _ => ⟨fun h => absurd h (by decide), ?_⟩
  simp only [ev, fx, ↓reduceIte, Nat.reduceEqDiff, Nat.reduceLT, Nat.reduceLeDiff, Nat.reduceAdd, Nat.reduceSub, Nat.reduceMul, Int.reduceLT, Int.reduceLE, Int.reduceToNat, BitVec.reduceOfInt, BitVec.reduceToNat, reduceCtorEq, and_self, decide_true, decide_false, Bool.not_true, Bool.not_false, ne_eq, not_true_eq_false, not_false_eq_true, true_and, and_true]
  repeat (refine And.intro (by omega) ?_)
  refine hK _ _ ?_; clear hK K
  refine EWp.seqR [0, 1] fun K hK => ?_
  simp only [ev, fx, ↓reduceIte, Nat.reduceEqDiff, Nat.reduceLT, Nat.reduceLeDiff, Nat.reduceAdd, Nat.reduceSub, Nat.reduceMul, Int.reduceLT, Int.reduceLE, Int.reduceToNat, BitVec.reduceOfInt, BitVec.reduceToNat, reduceCtorEq, and_self, decide_true, decide_false, Bool.not_true, Bool.not_false, ne_eq, not_true_eq_false, not_false_eq_true, true_and, and_true]
  refine SemE.loadB (HL.startB (hbk hl)) 0 rfl one_3 rfl rfl (digC_nx_get _ _ _ _ _ hx) ?_
  simp only [ev, fx, ↓reduceIte, Nat.reduceEqDiff, Nat.reduceLT, Nat.reduceLeDiff, Nat.reduceAdd, Nat.reduceSub, Nat.reduceMul, Int.reduceLT, Int.reduceLE, Int.reduceToNat, BitVec.reduceOfInt, BitVec.reduceToNat, reduceCtorEq, and_self, decide_true, decide_false, Bool.not_true, Bool.not_false, ne_eq, not_true_eq_false, not_false_eq_true, true_and, and_true]
  repeat (refine And.intro (by omega) ?_)
  refine SemE.appendArms (vs := List.replicate (128 - m) (SV.u8 0)) hl ho (arms_zero bsl_23 intt_3 (128 - m) (by omega) (by omega)) (by simp; omega) rfl rfl (by simp; omega) rfl fun v3 B3 w3 ho hl _ => ?_
  rw [List.length_replicate] at ho
  simp only [ev, fx, ↓reduceIte, Nat.reduceEqDiff, Nat.reduceLT, Nat.reduceLeDiff, Nat.reduceAdd, Nat.reduceSub, Nat.reduceMul, Int.reduceLT, Int.reduceLE, Int.reduceToNat, BitVec.reduceOfInt, BitVec.reduceToNat, reduceCtorEq, and_self, decide_true, decide_false, Bool.not_true, Bool.not_false, ne_eq, not_true_eq_false, not_false_eq_true, true_and, and_true]
  repeat (refine And.intro (by omega) ?_)
  refine hK _ _ ?_; clear hK K
  refine EWp.seqR [0, 1] fun K hK => ?_
  simp only [ev, fx, ↓reduceIte, Nat.reduceEqDiff, Nat.reduceLT, Nat.reduceLeDiff, Nat.reduceAdd, Nat.reduceSub, Nat.reduceMul, Int.reduceLT, Int.reduceLE, Int.reduceToNat, BitVec.reduceOfInt, BitVec.reduceToNat, reduceCtorEq, and_self, decide_true, decide_false, Bool.not_true, Bool.not_false, ne_eq, not_true_eq_false, not_false_eq_true, true_and, and_true]
  refine SemE.loadB (HL.startB (hbk hl)) 0 rfl one_31 rfl rfl (digC_len_get _ _ _ _ _ hx) ?_
  simp only [ev, fx, ↓reduceIte, Nat.reduceEqDiff, Nat.reduceLT, Nat.reduceLeDiff, Nat.reduceAdd, Nat.reduceSub, Nat.reduceMul, Int.reduceLT, Int.reduceLE, Int.reduceToNat, BitVec.reduceOfInt, BitVec.reduceToNat, reduceCtorEq, and_self, decide_true, decide_false, Bool.not_true, Bool.not_false, ne_eq, not_true_eq_false, not_false_eq_true, true_and, and_true]
  refine SemE.call fn_47 rfl rfl (beApp64 _ _ _ _ (BitVec.ofNat 64 T.length) _ ho hl.own (by omega)) ?_
  rintro _ w4 ⟨v4, B4, rfl, ho4, hl4⟩
  refine ⟨_, rfl, ?_⟩
  have hl := hl.callB hl4
  simp only [ev, fx, ↓reduceIte, Nat.reduceEqDiff, Nat.reduceLT, Nat.reduceLeDiff, Nat.reduceAdd, Nat.reduceSub, Nat.reduceMul, Int.reduceLT, Int.reduceLE, Int.reduceToNat, BitVec.reduceOfInt, BitVec.reduceToNat, reduceCtorEq, and_self, decide_true, decide_false, Bool.not_true, Bool.not_false, ne_eq, not_true_eq_false, not_false_eq_true, true_and, and_true]
  repeat (refine And.intro (by omega) ?_)
  refine hK _ _ ?_; clear hK K
  refine EWp.seqR [4, 5] fun K hK => ?_
  simp only [ev, fx, ↓reduceIte, Nat.reduceEqDiff, Nat.reduceLT, Nat.reduceLeDiff, Nat.reduceAdd, Nat.reduceSub, Nat.reduceMul, Int.reduceLT, Int.reduceLE, Int.reduceToNat, BitVec.reduceOfInt, BitVec.reduceToNat, reduceCtorEq, and_self, decide_true, decide_false, Bool.not_true, Bool.not_false, ne_eq, not_true_eq_false, not_false_eq_true, true_and, and_true]
  repeat (refine And.intro (by omega) ?_)
  refine hK _ _ ?_; clear hK K
  rw [List.append_nil] at hl
  exact EWp.ret (BodyE.tmp2 rfl rfl rfl ⟨v4, B4, rfl, ho4.cast (by omega) (by unfold marB; rw [hmt]; simp [sumB, List.append_assoc]), hl⟩)

set_option maxRecDepth 100000 in
/-- The state as bytes. -/
theorem marD (b : Nat) (T : List B8) (cs : List SV) (ki : Kd) (hd : Dig ki T cs) (w : World) (hb : w.heap[b]? = some (.cells (cs.map SV.val).toArray 76 (0, 0))) :
    Calls Tryd.prog 37 #[(SV.ptr ⟨b, 0, none⟩).val] w fun e w' => ∃ v' B', e = .returned (SV.tup2 v' (.raw .nilIface)).val ∧ Own 5 1 v' 204 ((marB ki T).map SV.u8) B' ∧ HL w w' [] B' := by
  refine calls_E [.ptr ⟨b, 0, none⟩] Tryd.func37 rfl Tryd.ntmps37 rfl ?_
  refine EWp.seqR [0] fun K hK => ?_
  simp only [ev, fx, ↓reduceIte, Nat.reduceEqDiff, Nat.reduceLT, Nat.reduceLeDiff, Nat.reduceAdd, Nat.reduceSub, Nat.reduceMul, Int.reduceLT, Int.reduceLE, Int.reduceToNat, BitVec.reduceOfInt, BitVec.reduceToNat, reduceCtorEq, and_self, decide_true, decide_false, Bool.not_true, Bool.not_false, ne_eq, not_true_eq_false, not_false_eq_true, true_and, and_true]
  repeat (refine And.intro (by omega) ?_)
  refine hK _ _ ?_; clear hK K
  refine EWp.seqR [2, 3] fun K hK => ?_
  simp only [ev, fx, ↓reduceIte, Nat.reduceEqDiff, Nat.reduceLT, Nat.reduceLeDiff, Nat.reduceAdd, Nat.reduceSub, Nat.reduceMul, Int.reduceLT, Int.reduceLE, Int.reduceToNat, BitVec.reduceOfInt, BitVec.reduceToNat, reduceCtorEq, and_self, decide_true, decide_false, Bool.not_true, Bool.not_false, ne_eq, not_true_eq_false, not_false_eq_true, true_and, and_true]
  refine SemE.makeSlice (HL.start w) 5 bsl_23 rfl rfl (by omega) rfl fun v B w1 ho hl => ?_
  rw [List.append_nil] at hl
  have hb1 : w1.heap[b]? = _ := (hl.toGrow.block b (Array.getElem?_eq_some_iff.1 hb).1).trans hb
  have hbB : b ∉ B.map (·.1) := fun hm => by
    obtain ⟨y, hy, rfl⟩ := List.mem_map.1 hm
    have := hl.inx y hy
    have hlt := (Array.getElem?_eq_some_iff.1 hb).1
    simp at this
    omega
  simp only [ev, fx, ↓reduceIte, Nat.reduceEqDiff, Nat.reduceLT, Nat.reduceLeDiff, Nat.reduceAdd, Nat.reduceSub, Nat.reduceMul, Int.reduceLT, Int.reduceLE, Int.reduceToNat, BitVec.reduceOfInt, BitVec.reduceToNat, reduceCtorEq, and_self, decide_true, decide_false, Bool.not_true, Bool.not_false, ne_eq, not_true_eq_false, not_false_eq_true, true_and, and_true]
  refine SemE.call fn_38 rfl rfl (appD b T cs ki hd v 0 [] B _ hb1 ho (HL.own (H := []) (by rw [List.append_nil]; exact hl)) hbB (by omega)) ?_
  rintro _ w2 ⟨v2, B2, rfl, ho2, hl2⟩
  refine ⟨_, rfl, ?_⟩
  have hl := HL.callB (H := []) (by rw [List.append_nil]; exact hl) hl2
  rw [List.append_nil] at hl
  simp only [ev, fx, ↓reduceIte, Nat.reduceEqDiff, Nat.reduceLT, Nat.reduceLeDiff, Nat.reduceAdd, Nat.reduceSub, Nat.reduceMul, Int.reduceLT, Int.reduceLE, Int.reduceToNat, BitVec.reduceOfInt, BitVec.reduceToNat, reduceCtorEq, and_self, decide_true, decide_false, Bool.not_true, Bool.not_false, ne_eq, not_true_eq_false, not_false_eq_true, true_and, and_true]
  repeat (refine And.intro (by omega) ?_)
  refine hK _ _ ?_; clear hK K
  exact EWp.ret (BodyE.tmp2 rfl rfl rfl ⟨v2, B2, rfl, ho2.cast (by omega) (by simp), hl⟩)
end Go.Proofs.YtggbaffkjfofhaaDoor
