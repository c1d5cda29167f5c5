/- The reference's SHA-224 and SHA-256. -/
import Derived.Test.YtkfblgkicopjjaaDoorSpecB2
import Derived.Test.YtkfblgkicopjjaaDoorFd2
import Derived.Test.YtkfblgkicopjjaaDoorPad
set_option linter.unusedVariables false
set_option linter.unusedSimpArgs false
namespace Go.Proofs.YtkfblgkicopjjaaDoor
open Go

def b512 : List (BitVec 64) := [0x6a09e667f3bcc908#64, 0xbb67ae8584caa73b#64, 0x3c6ef372fe94f82b#64, 0xa54ff53a5f1d36f1#64, 0x510e527fade682d1#64, 0x9b05688c2b3e6c1f#64, 0x1f83d9abfb41bd6b#64, 0x5be0cd19137e2179#64]
def b384 : List (BitVec 64) := [0xcbbb9d5dc1059ed8#64, 0x629a292a367cd507#64, 0x9159015a3070dd17#64, 0x152fecd8f70e5939#64, 0x67332667ffc00b31#64, 0x8eb44a8768581511#64, 0xdb0c2e0d64f98fa7#64, 0x47b5481dbefa4fa4#64]
def b64 (sh : Bool) : List (BitVec 64) := bif sh then b384 else b512
def bw (sh : Bool) (i : Nat) : Wd := bif sh then ((b64 sh).getD i 0).setWidth 32 else (((b64 sh).getD i 0) >>> 32).setWidth 32
def bl (sh : Bool) (i : Nat) : List SV := (List.range i).map fun j => .u32 (bw sh j)
theorem bl_succ (sh : Bool) (i : Nat) : bl sh (i + 1) = bl sh i ++ [.u32 (bw sh i)] := by simp [bl, List.range_succ]
theorem bl_8 (sh : Bool) : bl sh 8 = eight (initOf sh) := by cases sh <;> rfl
theorem b64_get (sh : Bool) {i : Nat} (h : i < 8) : ((b64 sh).map SV.u64)[i]? = some (.u64 ((b64 sh).getD i 0)) := by
  have : i < (b64 sh).length := by cases sh <;> exact h
  simp [this]

set_option maxRecDepth 100000 in
/-- The state at first of kind 3. -/
theorem begin64_3 (w : World) : Calls Tryd.prog 37 #[(SV.nat 3).val] w fun e w' => ∃ b, e = .returned (SV.sl (some ⟨b, 0, none⟩) 8 8).val ∧ HL w w' [] [(b, 31, b512.map SV.u64)] := by
  refine calls_E [.nat 3] Tryd.func37 rfl Tryd.ntmps37 rfl ?_
  refine EWp.seqR [0] fun K hK => ?_
  simp only [ev, fx, ↓reduceIte, Nat.reduceEqDiff, Nat.reduceLT, Nat.reduceLeDiff, Nat.reduceAdd, Nat.reduceSub, Nat.reduceMul, Int.reduceLT, Int.reduceLE, Int.reduceToNat, BitVec.reduceOfInt, BitVec.reduceToNat, reduceCtorEq, and_self, decide_true, decide_false, Bool.not_true, Bool.not_false, ne_eq, not_true_eq_false, not_false_eq_true, true_and, and_true]
  repeat (refine And.intro (by omega) ?_)
  refine hK _ _ ?_; clear hK K
  refine EWp.seqR [0, 3] fun K hK => ?_
  simp only [ev, fx, ↓reduceIte, Nat.reduceEqDiff, Nat.reduceLT, Nat.reduceLeDiff, Nat.reduceAdd, Nat.reduceSub, Nat.reduceMul, Int.reduceLT, Int.reduceLE, Int.reduceToNat, BitVec.reduceOfInt, BitVec.reduceToNat, reduceCtorEq, and_self, decide_true, decide_false, Bool.not_true, Bool.not_false, ne_eq, not_true_eq_false, not_false_eq_true, true_and, and_true]
  refine SemE.buildSlice (vs := b512.map SV.u64) (HL.start w) 31 slof_63 rfl rfl (by omega) rfl fun b0 w1 hb0 hl => ?_
  rw [List.nil_append] at hl
  simp only [ev, fx, ↓reduceIte, Nat.reduceEqDiff, Nat.reduceLT, Nat.reduceLeDiff, Nat.reduceAdd, Nat.reduceSub, Nat.reduceMul, Int.reduceLT, Int.reduceLE, Int.reduceToNat, BitVec.reduceOfInt, BitVec.reduceToNat, reduceCtorEq, and_self, decide_true, decide_false, Bool.not_true, Bool.not_false, ne_eq, not_true_eq_false, not_false_eq_true, true_and, and_true]
  repeat (refine And.intro (by omega) ?_)
  refine hK _ _ ?_; clear hK K
  refine EWp.cut [] (fun _ _ => False) ?_ (fun _ _ h => h.elim)
  refine EWp.seqR [3, 7] fun K hK => ?_
  simp only [ev, fx, ↓reduceIte, Nat.reduceEqDiff, Nat.reduceLT, Nat.reduceLeDiff, Nat.reduceAdd, Nat.reduceSub, Nat.reduceMul, Int.reduceLT, Int.reduceLE, Int.reduceToNat, BitVec.reduceOfInt, BitVec.reduceToNat, reduceCtorEq, and_self, decide_true, decide_false, Bool.not_true, Bool.not_false, ne_eq, not_true_eq_false, not_false_eq_true, true_and, and_true]
  repeat (refine And.intro (by omega) ?_)
  refine hK _ _ ?_; clear hK K
  refine EWp.block ?_
  refine EWp.brR [3, 7, 8] fun K hK => ?_
  simp only [ev, fx, ↓reduceIte, Nat.reduceEqDiff, Nat.reduceLT, Nat.reduceLeDiff, Nat.reduceAdd, Nat.reduceSub, Nat.reduceMul, Int.reduceLT, Int.reduceLE, Int.reduceToNat, BitVec.reduceOfInt, BitVec.reduceToNat, reduceCtorEq, and_self, decide_true, decide_false, Bool.not_true, Bool.not_false, ne_eq, not_true_eq_false, not_false_eq_true, true_and, and_true]
  refine hK _ _ false rfl (fun h => by cases h) (fun _ => ?_); clear hK K
  refine EWp.brR [3, 11] fun K hK => ?_
  simp only [ev, fx, ↓reduceIte, Nat.reduceEqDiff, Nat.reduceLT, Nat.reduceLeDiff, Nat.reduceAdd, Nat.reduceSub, Nat.reduceMul, Int.reduceLT, Int.reduceLE, Int.reduceToNat, BitVec.reduceOfInt, BitVec.reduceToNat, reduceCtorEq, and_self, decide_true, decide_false, Bool.not_true, Bool.not_false, ne_eq, not_true_eq_false, not_false_eq_true, true_and, and_true]
  refine hK _ _ true rfl (fun _ => ?_) (fun h => by cases h); clear hK K
  refine EWp.seqR [2] fun K hK => ?_
  simp only [ev, fx, ↓reduceIte, Nat.reduceEqDiff, Nat.reduceLT, Nat.reduceLeDiff, Nat.reduceAdd, Nat.reduceSub, Nat.reduceMul, Int.reduceLT, Int.reduceLE, Int.reduceToNat, BitVec.reduceOfInt, BitVec.reduceToNat, reduceCtorEq, and_self, decide_true, decide_false, Bool.not_true, Bool.not_false, ne_eq, not_true_eq_false, not_false_eq_true, true_and, and_true]
  repeat (refine And.intro (by omega) ?_)
  refine hK _ _ ?_; clear hK K
  refine EWp.ret ?_
  simp only [BlockE, ThenE]
  exact BodyE.tmp1 rfl rfl ⟨b0, rfl, hl⟩

set_option maxRecDepth 100000 in
/-- The state at first of kind 2. -/
theorem begin64_2 (w : World) : Calls Tryd.prog 37 #[(SV.nat 2).val] w fun e w' => ∃ b, e = .returned (SV.sl (some ⟨b, 0, none⟩) 8 8).val ∧ HL w w' [] [(b, 31, b384.map SV.u64)] := by
  refine calls_E [.nat 2] Tryd.func37 rfl Tryd.ntmps37 rfl ?_
  refine EWp.seqR [0] fun K hK => ?_
  simp only [ev, fx, ↓reduceIte, Nat.reduceEqDiff, Nat.reduceLT, Nat.reduceLeDiff, Nat.reduceAdd, Nat.reduceSub, Nat.reduceMul, Int.reduceLT, Int.reduceLE, Int.reduceToNat, BitVec.reduceOfInt, BitVec.reduceToNat, reduceCtorEq, and_self, decide_true, decide_false, Bool.not_true, Bool.not_false, ne_eq, not_true_eq_false, not_false_eq_true, true_and, and_true]
  repeat (refine And.intro (by omega) ?_)
  refine hK _ _ ?_; clear hK K
  refine EWp.seqR [0, 3] fun K hK => ?_
  simp only [ev, fx, ↓reduceIte, Nat.reduceEqDiff, Nat.reduceLT, Nat.reduceLeDiff, Nat.reduceAdd, Nat.reduceSub, Nat.reduceMul, Int.reduceLT, Int.reduceLE, Int.reduceToNat, BitVec.reduceOfInt, BitVec.reduceToNat, reduceCtorEq, and_self, decide_true, decide_false, Bool.not_true, Bool.not_false, ne_eq, not_true_eq_false, not_false_eq_true, true_and, and_true]
  refine SemE.buildSlice (vs := b512.map SV.u64) (HL.start w) 31 slof_63 rfl rfl (by omega) rfl fun b0 w1 hb0 hl => ?_
  rw [List.nil_append] at hl
  simp only [ev, fx, ↓reduceIte, Nat.reduceEqDiff, Nat.reduceLT, Nat.reduceLeDiff, Nat.reduceAdd, Nat.reduceSub, Nat.reduceMul, Int.reduceLT, Int.reduceLE, Int.reduceToNat, BitVec.reduceOfInt, BitVec.reduceToNat, reduceCtorEq, and_self, decide_true, decide_false, Bool.not_true, Bool.not_false, ne_eq, not_true_eq_false, not_false_eq_true, true_and, and_true]
  repeat (refine And.intro (by omega) ?_)
  refine hK _ _ ?_; clear hK K
  refine EWp.cut [] (fun _ _ => False) ?_ (fun _ _ h => h.elim)
  refine EWp.seqR [3, 7] fun K hK => ?_
  simp only [ev, fx, ↓reduceIte, Nat.reduceEqDiff, Nat.reduceLT, Nat.reduceLeDiff, Nat.reduceAdd, Nat.reduceSub, Nat.reduceMul, Int.reduceLT, Int.reduceLE, Int.reduceToNat, BitVec.reduceOfInt, BitVec.reduceToNat, reduceCtorEq, and_self, decide_true, decide_false, Bool.not_true, Bool.not_false, ne_eq, not_true_eq_false, not_false_eq_true, true_and, and_true]
  repeat (refine And.intro (by omega) ?_)
  refine hK _ _ ?_; clear hK K
  refine EWp.block ?_
  refine EWp.brR [3, 7, 8] fun K hK => ?_
  simp only [ev, fx, ↓reduceIte, Nat.reduceEqDiff, Nat.reduceLT, Nat.reduceLeDiff, Nat.reduceAdd, Nat.reduceSub, Nat.reduceMul, Int.reduceLT, Int.reduceLE, Int.reduceToNat, BitVec.reduceOfInt, BitVec.reduceToNat, reduceCtorEq, and_self, decide_true, decide_false, Bool.not_true, Bool.not_false, ne_eq, not_true_eq_false, not_false_eq_true, true_and, and_true]
  refine hK _ _ true rfl (fun _ => ?_) (fun h => by cases h); clear hK K
  refine EWp.seqR [2] fun K hK => ?_
  simp only [ev, fx, ↓reduceIte, Nat.reduceEqDiff, Nat.reduceLT, Nat.reduceLeDiff, Nat.reduceAdd, Nat.reduceSub, Nat.reduceMul, Int.reduceLT, Int.reduceLE, Int.reduceToNat, BitVec.reduceOfInt, BitVec.reduceToNat, reduceCtorEq, and_self, decide_true, decide_false, Bool.not_true, Bool.not_false, ne_eq, not_true_eq_false, not_false_eq_true, true_and, and_true]
  refine SemE.buildSlice (vs := b384.map SV.u64) hl 31 slof_63 rfl rfl (by omega) rfl fun b w2 hb hl => ?_
  simp only [ev, fx, ↓reduceIte, Nat.reduceEqDiff, Nat.reduceLT, Nat.reduceLeDiff, Nat.reduceAdd, Nat.reduceSub, Nat.reduceMul, Int.reduceLT, Int.reduceLE, Int.reduceToNat, BitVec.reduceOfInt, BitVec.reduceToNat, reduceCtorEq, and_self, decide_true, decide_false, Bool.not_true, Bool.not_false, ne_eq, not_true_eq_false, not_false_eq_true, true_and, and_true]
  repeat (refine And.intro (by omega) ?_)
  refine hK _ _ ?_; clear hK K
  refine EWp.ret ?_
  simp only [BlockE, ThenE]
  exact BodyE.tmp1 rfl rfl ⟨b, rfl, hl.sub (List.sublist_append_right _ _)⟩

set_option maxRecDepth 100000 in
theorem begin32 (sh : Bool) (w : World) : Calls Tryd.prog 21 #[(SV.nat (kd sh)).val] w fun e w' => ∃ p c, e = .returned (SV.sl (some p) 8 c).val ∧ Rd w' (some p) (eight (initOf sh)) ∧ Grow w w' := by
  refine calls_E [.nat (kd sh)] Tryd.func21 rfl Tryd.ntmps21 rfl ?_
  refine EWp.seqR [0] fun K hK => ?_
  simp only [ev, fx, ↓reduceIte, Nat.reduceEqDiff, Nat.reduceLT, Nat.reduceLeDiff, Nat.reduceAdd, Nat.reduceSub, Nat.reduceMul, Int.reduceLT, Int.reduceLE, Int.reduceToNat, BitVec.reduceOfInt, BitVec.reduceToNat, reduceCtorEq, and_self, decide_true, decide_false, Bool.not_true, Bool.not_false, ne_eq, not_true_eq_false, not_false_eq_true, true_and, and_true]
  repeat (refine And.intro (by omega) ?_)
  refine hK _ _ ?_; clear hK K
  refine EWp.seqR [0, 3] fun K hK => ?_
  simp only [ev, fx, ↓reduceIte, Nat.reduceEqDiff, Nat.reduceLT, Nat.reduceLeDiff, Nat.reduceAdd, Nat.reduceSub, Nat.reduceMul, Int.reduceLT, Int.reduceLE, Int.reduceToNat, BitVec.reduceOfInt, BitVec.reduceToNat, reduceCtorEq, and_self, decide_true, decide_false, Bool.not_true, Bool.not_false, ne_eq, not_true_eq_false, not_false_eq_true, true_and, and_true]
  refine SemE.buildSlice (vs := []) (HL.start w) 55 slof_22 rfl rfl (by omega) rfl fun b0 w1 hb0 hl => ?_
  have ho : Own 55 1 (.sl (some ⟨b0, 0, none⟩) 0 0) 0 (bl sh 0) [(b0, 55, bl sh 0)] := Own.full rfl (by unfold maxLen; omega)
  have hl : HL w w1 [] [(b0, 55, bl sh 0)] := hl
  generalize ([(b0, 55, bl sh 0)] : List Blk) = B at ho hl
  generalize (SV.sl (some ⟨b0, 0, none⟩) 0 0) = v at ho ⊢
  simp only [ev, fx, ↓reduceIte, Nat.reduceEqDiff, Nat.reduceLT, Nat.reduceLeDiff, Nat.reduceAdd, Nat.reduceSub, Nat.reduceMul, Int.reduceLT, Int.reduceLE, Int.reduceToNat, BitVec.reduceOfInt, BitVec.reduceToNat, reduceCtorEq, and_self, decide_true, decide_false, Bool.not_true, Bool.not_false, ne_eq, not_true_eq_false, not_false_eq_true, true_and, and_true]
  repeat (refine And.intro (by omega) ?_)
  refine hK _ _ ?_; clear hK K
  refine EWp.cut [3] (fun S' w' => ∃ v B, S' = [(3, v)] ∧ Own 55 1 v 8 (bl sh 8) B ∧ HL w w' [] B) ?_ ?_
  case refine_2 =>
    clear hl ho
    rintro S' w' ⟨v, B, rfl, ho, hl⟩
    refine EWp.seqR [2] fun K hK => ?_
    simp only [ev, fx, ↓reduceIte, Nat.reduceEqDiff, Nat.reduceLT, Nat.reduceLeDiff, Nat.reduceAdd, Nat.reduceSub, Nat.reduceMul, Int.reduceLT, Int.reduceLE, Int.reduceToNat, BitVec.reduceOfInt, BitVec.reduceToNat, reduceCtorEq, and_self, decide_true, decide_false, Bool.not_true, Bool.not_false, ne_eq, not_true_eq_false, not_false_eq_true, true_and, and_true]
    repeat (refine And.intro (by omega) ?_)
    refine hK _ _ ?_; clear hK K
    obtain ⟨bv, cv, rfl, hcv⟩ := ho.pos (by omega)
    have hrd := ho.rd (H := []) (by rw [List.append_nil]; exact hl) rfl
    exact EWp.ret (BodyE.tmp1 rfl rfl ⟨_, cv, rfl, by rw [← bl_8]; exact hrd, hl.toGrow⟩)
  refine EWp.seqR [0, 3, 6] fun K hK => ?_
  simp only [ev, fx, ↓reduceIte, Nat.reduceEqDiff, Nat.reduceLT, Nat.reduceLeDiff, Nat.reduceAdd, Nat.reduceSub, Nat.reduceMul, Int.reduceLT, Int.reduceLE, Int.reduceToNat, BitVec.reduceOfInt, BitVec.reduceToNat, reduceCtorEq, and_self, decide_true, decide_false, Bool.not_true, Bool.not_false, ne_eq, not_true_eq_false, not_false_eq_true, true_and, and_true]
  repeat (refine And.intro (by omega) ?_)
  refine hK _ _ ?_; clear hK K
  refine EWp.block ?_
  refine EWp.loop [0, 3, 6] (fun k S' w' => ∃ i v B, i ≤ 8 ∧ k = 8 - i ∧ S' = [(0, .nat (kd sh)), (3, v), (6, .nat i)] ∧ Own 55 1 v i (bl sh i) B ∧ HL w w' [] B) 8 ?_ ?_
  case refine_1 => exact ⟨0, v, B, by omega, rfl, rfl, ho, hl⟩
  clear hl ho
  rintro k S' w' ⟨i, v, B, hi, rfl, rfl, ho, hl⟩
  refine EWp.seqR [0, 3, 6, 7] fun K hK => ?_
  simp only [ev, fx, ↓reduceIte, Nat.reduceEqDiff, Nat.reduceLT, Nat.reduceLeDiff, Nat.reduceAdd, Nat.reduceSub, Nat.reduceMul, Int.reduceLT, Int.reduceLE, Int.reduceToNat, BitVec.reduceOfInt, BitVec.reduceToNat, reduceCtorEq, and_self, decide_true, decide_false, Bool.not_true, Bool.not_false, ne_eq, not_true_eq_false, not_false_eq_true, true_and, and_true]
  repeat (refine And.intro (by omega) ?_)
  refine hK _ _ ?_; clear hK K
  refine EWp.guard (b := decide (i < 8)) rfl (fun hlt => ?_) (fun hlt => ?_)
  case refine_2 =>
    have hlt := of_decide_eq_false hlt
    obtain rfl : i = 8 := by omega
    simp only [BlockE, ThenE, ↓reduceIte]
    exact ⟨v, B, rfl, ho, hl⟩
  have hlt := of_decide_eq_true hlt
  refine EWp.cut [0, 3, 6] (fun S' w' => ∃ v B, S' = [(0, .nat (kd sh)), (3, v), (6, .nat i)] ∧ Own 55 1 v (i + 1) (bl sh (i + 1)) B ∧ HL w w' [] B) ?_ ?_
  case refine_2 =>
    clear hl ho
    rintro S' w' ⟨v, B, rfl, ho, hl⟩
    refine EWp.regR [0, 3, 6] fun K hK => ?_
    simp only [ev, fx, ↓reduceIte, Nat.reduceEqDiff, Nat.reduceLT, Nat.reduceLeDiff, Nat.reduceAdd, Nat.reduceSub, Nat.reduceMul, Int.reduceLT, Int.reduceLE, Int.reduceToNat, BitVec.reduceOfInt, BitVec.reduceToNat, reduceCtorEq, and_self, decide_true, decide_false, Bool.not_true, Bool.not_false, ne_eq, not_true_eq_false, not_false_eq_true, true_and, and_true]
    exact ⟨by omega, hK _ _ fun S1 h1 => ⟨8 - i - 1, by omega, i + 1, v, B, by omega, by omega, h1, ho, hl⟩⟩
  refine EWp.block ?_
  refine EWp.seqR [0, 3, 4, 6] fun K hK => ?_
  simp only [ev, fx, ↓reduceIte, Nat.reduceEqDiff, Nat.reduceLT, Nat.reduceLeDiff, Nat.reduceAdd, Nat.reduceSub, Nat.reduceMul, Int.reduceLT, Int.reduceLE, Int.reduceToNat, BitVec.reduceOfInt, BitVec.reduceToNat, reduceCtorEq, and_self, decide_true, decide_false, Bool.not_true, Bool.not_false, ne_eq, not_true_eq_false, not_false_eq_true, true_and, and_true]
  repeat (refine And.intro (by omega) ?_)
  refine hK _ _ ?_; clear hK K
  refine EWp.brR [0, 3, 4, 6, 10] fun K hK => ?_
  have hg8 := b64_get sh hlt
  cases sh
  · simp only [ev, fx, ↓reduceIte, Nat.reduceEqDiff, Nat.reduceLT, Nat.reduceLeDiff, Nat.reduceAdd, Nat.reduceSub, Nat.reduceMul, Int.reduceLT, Int.reduceLE, Int.reduceToNat, BitVec.reduceOfInt, BitVec.reduceToNat, reduceCtorEq, and_self, decide_true, decide_false, Bool.not_true, Bool.not_false, ne_eq, not_true_eq_false, not_false_eq_true, true_and, and_true, kd, cond_false]
    refine hK _ _ true rfl (fun _ => ?_) (fun h => by cases h); clear hK K
    refine EWp.regR [0, 3, 6] fun K hK => ?_
    simp only [ev, fx, ↓reduceIte, Nat.reduceEqDiff, Nat.reduceLT, Nat.reduceLeDiff, Nat.reduceAdd, Nat.reduceSub, Nat.reduceMul, Int.reduceLT, Int.reduceLE, Int.reduceToNat, BitVec.reduceOfInt, BitVec.reduceToNat, reduceCtorEq, and_self, decide_true, decide_false, Bool.not_true, Bool.not_false, ne_eq, not_true_eq_false, not_false_eq_true, true_and, and_true]
    refine SemE.call fn_37 rfl rfl (begin64_3 _) ?_
    rintro _ w2 ⟨b2, rfl, hl2⟩
    refine ⟨_, rfl, ?_⟩
    simp only [ev, fx, ↓reduceIte, Nat.reduceEqDiff, Nat.reduceLT, Nat.reduceLeDiff, Nat.reduceAdd, Nat.reduceSub, Nat.reduceMul, Int.reduceLT, Int.reduceLE, Int.reduceToNat, BitVec.reduceOfInt, BitVec.reduceToNat, reduceCtorEq, and_self, decide_true, decide_false, Bool.not_true, Bool.not_false, ne_eq, not_true_eq_false, not_false_eq_true, true_and, and_true]
    refine ⟨by omega, SemE.loadB hl2 0 rfl one_31 rfl rfl hg8 ?_⟩
    have hl := hl.grow hl2.toGrow
    simp only [ev, fx, ↓reduceIte, Nat.reduceEqDiff, Nat.reduceLT, Nat.reduceLeDiff, Nat.reduceAdd, Nat.reduceSub, Nat.reduceMul, Int.reduceLT, Int.reduceLE, Int.reduceToNat, BitVec.reduceOfInt, BitVec.reduceToNat, reduceCtorEq, and_self, decide_true, decide_false, Bool.not_true, Bool.not_false, ne_eq, not_true_eq_false, not_false_eq_true, true_and, and_true]
    refine SemE.buildSlice (vs := [.u32 (bw false i)]) (H := B) hl 55 slof_22 rfl rfl (by omega) rfl fun b1 w3 hb1 hl => ?_
    simp only [ev, fx, ↓reduceIte, Nat.reduceEqDiff, Nat.reduceLT, Nat.reduceLeDiff, Nat.reduceAdd, Nat.reduceSub, Nat.reduceMul, Int.reduceLT, Int.reduceLE, Int.reduceToNat, BitVec.reduceOfInt, BitVec.reduceToNat, reduceCtorEq, and_self, decide_true, decide_false, Bool.not_true, Bool.not_false, ne_eq, not_true_eq_false, not_false_eq_true, true_and, and_true]
    have hr1 : Rd w3 (some ⟨b1, 0, none⟩) [.u32 (bw false i)] := Rd.blk (hl.sub (List.sublist_append_right B [(b1, 55, [.u32 (bw false i)])])) (k := 0) rfl 0 1
    refine SemE.append hl ho slof_22 rfl rfl rfl hr1 rfl (fun h => by cases h) (by simp [SV.isOne]) (by omega) rfl fun v' B' w4 ho hl _ => ?_
    have hl := hl.sub (List.sublist_append_left B' _)
    simp only [ev, fx, ↓reduceIte, Nat.reduceEqDiff, Nat.reduceLT, Nat.reduceLeDiff, Nat.reduceAdd, Nat.reduceSub, Nat.reduceMul, Int.reduceLT, Int.reduceLE, Int.reduceToNat, BitVec.reduceOfInt, BitVec.reduceToNat, reduceCtorEq, and_self, decide_true, decide_false, Bool.not_true, Bool.not_false, ne_eq, not_true_eq_false, not_false_eq_true, true_and, and_true]
    refine hK _ _ fun S1 h1 => ?_; clear hK K
    simp only [BlockE, ThenE]
    exact ⟨v', B', h1, by rw [bl_succ]; exact ho, hl⟩
  · simp only [ev, fx, ↓reduceIte, Nat.reduceEqDiff, Nat.reduceLT, Nat.reduceLeDiff, Nat.reduceAdd, Nat.reduceSub, Nat.reduceMul, Int.reduceLT, Int.reduceLE, Int.reduceToNat, BitVec.reduceOfInt, BitVec.reduceToNat, reduceCtorEq, and_self, decide_true, decide_false, Bool.not_true, Bool.not_false, ne_eq, not_true_eq_false, not_false_eq_true, true_and, and_true, kd, cond_true]
    refine hK _ _ false rfl (fun h => by cases h) (fun _ => ?_); clear hK K
    refine EWp.regR [0, 3, 6] fun K hK => ?_
    simp only [ev, fx, ↓reduceIte, Nat.reduceEqDiff, Nat.reduceLT, Nat.reduceLeDiff, Nat.reduceAdd, Nat.reduceSub, Nat.reduceMul, Int.reduceLT, Int.reduceLE, Int.reduceToNat, BitVec.reduceOfInt, BitVec.reduceToNat, reduceCtorEq, and_self, decide_true, decide_false, Bool.not_true, Bool.not_false, ne_eq, not_true_eq_false, not_false_eq_true, true_and, and_true]
    refine SemE.call fn_37 rfl rfl (begin64_2 _) ?_
    rintro _ w2 ⟨b2, rfl, hl2⟩
    refine ⟨_, rfl, ?_⟩
    simp only [ev, fx, ↓reduceIte, Nat.reduceEqDiff, Nat.reduceLT, Nat.reduceLeDiff, Nat.reduceAdd, Nat.reduceSub, Nat.reduceMul, Int.reduceLT, Int.reduceLE, Int.reduceToNat, BitVec.reduceOfInt, BitVec.reduceToNat, reduceCtorEq, and_self, decide_true, decide_false, Bool.not_true, Bool.not_false, ne_eq, not_true_eq_false, not_false_eq_true, true_and, and_true]
    refine ⟨by omega, SemE.loadB hl2 0 rfl one_31 rfl rfl hg8 ?_⟩
    have hl := hl.grow hl2.toGrow
    simp only [ev, fx, ↓reduceIte, Nat.reduceEqDiff, Nat.reduceLT, Nat.reduceLeDiff, Nat.reduceAdd, Nat.reduceSub, Nat.reduceMul, Int.reduceLT, Int.reduceLE, Int.reduceToNat, BitVec.reduceOfInt, BitVec.reduceToNat, reduceCtorEq, and_self, decide_true, decide_false, Bool.not_true, Bool.not_false, ne_eq, not_true_eq_false, not_false_eq_true, true_and, and_true]
    refine SemE.buildSlice (vs := [.u32 (bw true i)]) (H := B) hl 55 slof_22 rfl rfl (by omega) rfl fun b1 w3 hb1 hl => ?_
    simp only [ev, fx, ↓reduceIte, Nat.reduceEqDiff, Nat.reduceLT, Nat.reduceLeDiff, Nat.reduceAdd, Nat.reduceSub, Nat.reduceMul, Int.reduceLT, Int.reduceLE, Int.reduceToNat, BitVec.reduceOfInt, BitVec.reduceToNat, reduceCtorEq, and_self, decide_true, decide_false, Bool.not_true, Bool.not_false, ne_eq, not_true_eq_false, not_false_eq_true, true_and, and_true]
    have hr1 : Rd w3 (some ⟨b1, 0, none⟩) [.u32 (bw true i)] := Rd.blk (hl.sub (List.sublist_append_right B [(b1, 55, [.u32 (bw true i)])])) (k := 0) rfl 0 1
    refine SemE.append hl ho slof_22 rfl rfl rfl hr1 rfl (fun h => by cases h) (by simp [SV.isOne]) (by omega) rfl fun v' B' w4 ho hl _ => ?_
    have hl := hl.sub (List.sublist_append_left B' _)
    simp only [ev, fx, ↓reduceIte, Nat.reduceEqDiff, Nat.reduceLT, Nat.reduceLeDiff, Nat.reduceAdd, Nat.reduceSub, Nat.reduceMul, Int.reduceLT, Int.reduceLE, Int.reduceToNat, BitVec.reduceOfInt, BitVec.reduceToNat, reduceCtorEq, and_self, decide_true, decide_false, Bool.not_true, Bool.not_false, ne_eq, not_true_eq_false, not_false_eq_true, true_and, and_true]
    refine hK _ _ fun S1 h1 => ?_; clear hK K
    simp only [BlockE, ThenE]
    exact ⟨v', B', h1, by rw [bl_succ]; exact ho, hl⟩

def wordsB (xs : List W32) : List B8 := (xs.map bytes4).flatten
theorem wordsB_take_succ (xs : List W32) (i : Nat) (hi : i < xs.length) : wordsB (xs.take (i + 1)) = wordsB (xs.take i) ++ bytes4 (xs.getD i 0) := by
  unfold wordsB
  rw [List.take_succ_eq_append_getElem hi, List.map_append, List.flatten_append]
  simp [List.getD_eq_getElem?_getD, hi]
theorem wordsB_len (xs : List W32) : (wordsB xs).length = 4 * xs.length := by
  induction xs with
  | nil => rfl
  | cons x xs ih => simp [wordsB] at ih ⊢; simp [bytes4, ih]; omega
theorem wordsB_eight (s : S8) : wordsB [s.a, s.b, s.c, s.d, s.e, s.f, s.g, s.h] = sumB s := by simp [wordsB, sumB]

set_option maxRecDepth 100000 in
theorem words32C (p : Addr) (n c : Nat) (xs : List W32) (w : World) (hr : Rd w (some p) (xs.map SV.u32)) (hn : xs.length = n) (hbig : n ≤ 1000) :
    Calls Tryd.prog 28 #[(SV.sl (some p) n c).val] w fun e w' => ∃ v B, e = .returned v.val ∧ Own 5 1 v (wordsB xs).length ((wordsB xs).map SV.u8) B ∧ HL w w' [] B := by
  refine calls_E [.sl (some p) n c] Tryd.func28 rfl Tryd.ntmps28 rfl ?_
  refine EWp.seqR [0] fun K hK => ?_
  simp only [ev, fx, ↓reduceIte, Nat.reduceEqDiff, Nat.reduceLT, Nat.reduceLeDiff, Nat.reduceAdd, Nat.reduceSub, Nat.reduceMul, Int.reduceLT, Int.reduceLE, Int.reduceToNat, BitVec.reduceOfInt, BitVec.reduceToNat, reduceCtorEq, and_self, decide_true, decide_false, Bool.not_true, Bool.not_false, ne_eq, not_true_eq_false, not_false_eq_true, true_and, and_true]
  repeat (refine And.intro (by omega) ?_)
  refine hK _ _ ?_; clear hK K
  refine EWp.seqR [0, 3] fun K hK => ?_
  simp only [ev, fx, ↓reduceIte, Nat.reduceEqDiff, Nat.reduceLT, Nat.reduceLeDiff, Nat.reduceAdd, Nat.reduceSub, Nat.reduceMul, Int.reduceLT, Int.reduceLE, Int.reduceToNat, BitVec.reduceOfInt, BitVec.reduceToNat, reduceCtorEq, and_self, decide_true, decide_false, Bool.not_true, Bool.not_false, ne_eq, not_true_eq_false, not_false_eq_true, true_and, and_true]
  refine SemE.buildSlice (vs := []) (HL.start w) 5 slof_23 rfl rfl (by omega) rfl fun b0 w1 hb0 hl => ?_
  have ho : Own 5 1 (.sl (some ⟨b0, 0, none⟩) 0 0) 0 ([] : List SV) [(b0, 5, [])] := Own.full rfl (by unfold maxLen; omega)
  have hl : HL w w1 [] [(b0, 5, [])] := hl
  generalize ([(b0, 5, [])] : List Blk) = B at ho hl
  generalize (SV.sl (some ⟨b0, 0, none⟩) 0 0) = v at ho ⊢
  simp only [ev, fx, ↓reduceIte, Nat.reduceEqDiff, Nat.reduceLT, Nat.reduceLeDiff, Nat.reduceAdd, Nat.reduceSub, Nat.reduceMul, Int.reduceLT, Int.reduceLE, Int.reduceToNat, BitVec.reduceOfInt, BitVec.reduceToNat, reduceCtorEq, and_self, decide_true, decide_false, Bool.not_true, Bool.not_false, ne_eq, not_true_eq_false, not_false_eq_true, true_and, and_true]
  repeat (refine And.intro (by omega) ?_)
  refine hK _ _ ?_; clear hK K
  refine EWp.cut [3] (fun S' w' => ∃ v B, S' = [(3, v)] ∧ Own 5 1 v (wordsB xs).length ((wordsB xs).map SV.u8) B ∧ HL w w' [] B) ?_ ?_
  case refine_2 =>
    clear hl ho
    rintro S' w' ⟨v, B, rfl, ho, hl⟩
    refine EWp.seqR [2] fun K hK => ?_
    simp only [ev, fx, ↓reduceIte, Nat.reduceEqDiff, Nat.reduceLT, Nat.reduceLeDiff, Nat.reduceAdd, Nat.reduceSub, Nat.reduceMul, Int.reduceLT, Int.reduceLE, Int.reduceToNat, BitVec.reduceOfInt, BitVec.reduceToNat, reduceCtorEq, and_self, decide_true, decide_false, Bool.not_true, Bool.not_false, ne_eq, not_true_eq_false, not_false_eq_true, true_and, and_true]
    repeat (refine And.intro (by omega) ?_)
    refine hK _ _ ?_; clear hK K
    exact EWp.ret (BodyE.tmp1 rfl rfl ⟨v, B, rfl, ho, hl⟩)
  refine EWp.seqR [3, 7, 8, 9] fun K hK => ?_
  simp only [ev, fx, ↓reduceIte, Nat.reduceEqDiff, Nat.reduceLT, Nat.reduceLeDiff, Nat.reduceAdd, Nat.reduceSub, Nat.reduceMul, Int.reduceLT, Int.reduceLE, Int.reduceToNat, BitVec.reduceOfInt, BitVec.reduceToNat, reduceCtorEq, and_self, decide_true, decide_false, Bool.not_true, Bool.not_false, ne_eq, not_true_eq_false, not_false_eq_true, true_and, and_true]
  repeat (refine And.intro (by omega) ?_)
  refine hK _ _ ?_; clear hK K
  refine EWp.block ?_
  refine EWp.loop [3, 7, 8, 9] (fun k S' w' => ∃ i v B, i ≤ n ∧ k = n - i ∧ S' = [(3, v), (7, .sl (some p) n c), (8, .nat n), (9, .nat i)] ∧ Own 5 1 v (4 * i) ((wordsB (xs.take i)).map SV.u8) B ∧ HL w w' [] B) n ?_ ?_
  case refine_1 => exact ⟨0, v, B, by omega, rfl, rfl, ho, hl⟩
  clear hl ho
  rintro k S' w' ⟨i, v, B, hi, rfl, rfl, ho, hl⟩
  refine EWp.seqR [3, 7, 8, 9, 10] fun K hK => ?_
  simp only [ev, fx, ↓reduceIte, Nat.reduceEqDiff, Nat.reduceLT, Nat.reduceLeDiff, Nat.reduceAdd, Nat.reduceSub, Nat.reduceMul, Int.reduceLT, Int.reduceLE, Int.reduceToNat, BitVec.reduceOfInt, BitVec.reduceToNat, reduceCtorEq, and_self, decide_true, decide_false, Bool.not_true, Bool.not_false, ne_eq, not_true_eq_false, not_false_eq_true, true_and, and_true]
  repeat (refine And.intro (by omega) ?_)
  refine hK _ _ ?_; clear hK K
  refine EWp.guard (b := decide (i < n)) rfl (fun hlt => ?_) (fun hlt => ?_)
  case refine_2 =>
    have hlt := of_decide_eq_false hlt
    simp only [BlockE, ThenE, ↓reduceIte]
    have : xs.take i = xs := List.take_of_length_le (by omega)
    rw [this] at ho
    refine ⟨v, B, rfl, ?_, hl⟩
    rw [wordsB_len, hn, show n = i by omega]
    exact ho
  have hlt := of_decide_eq_true hlt
  have hsucc := wordsB_take_succ xs i (by omega)
  have hx : (xs.map SV.u32)[i]? = some (.u32 (xs.getD i 0)) := by simp [show i < xs.length by omega]
  have hcell := (hr.grow hl.toGrow).at hx
  generalize xs.getD i 0 = x at hsucc hcell
  refine EWp.cut [3, 7, 8, 9] (fun S' w' => ∃ v B, S' = [(3, v), (7, .sl (some p) n c), (8, .nat n), (9, .nat i)] ∧ Own 5 1 v (4 * (i + 1)) ((wordsB (xs.take (i + 1))).map SV.u8) B ∧ HL w w' [] B) ?_ ?_
  case refine_2 =>
    clear hl ho
    rintro S' w' ⟨v, B, rfl, ho, hl⟩
    refine EWp.regR [3, 7, 8, 9] fun K hK => ?_
    simp only [ev, fx, ↓reduceIte, Nat.reduceEqDiff, Nat.reduceLT, Nat.reduceLeDiff, Nat.reduceAdd, Nat.reduceSub, Nat.reduceMul, Int.reduceLT, Int.reduceLE, Int.reduceToNat, BitVec.reduceOfInt, BitVec.reduceToNat, reduceCtorEq, and_self, decide_true, decide_false, Bool.not_true, Bool.not_false, ne_eq, not_true_eq_false, not_false_eq_true, true_and, and_true]
    exact ⟨by omega, hK _ _ fun S1 h1 => ⟨n - i - 1, by omega, i + 1, v, B, by omega, by omega, h1, ho, hl⟩⟩
  refine EWp.block ?_
  refine EWp.seqR [3, 5, 7, 8, 9] fun K hK => ?_
  simp only [ev, fx, ↓reduceIte, Nat.reduceEqDiff, Nat.reduceLT, Nat.reduceLeDiff, Nat.reduceAdd, Nat.reduceSub, Nat.reduceMul, Int.reduceLT, Int.reduceLE, Int.reduceToNat, BitVec.reduceOfInt, BitVec.reduceToNat, reduceCtorEq, and_self, decide_true, decide_false, Bool.not_true, Bool.not_false, ne_eq, not_true_eq_false, not_false_eq_true, true_and, and_true]
  refine ⟨by omega, SemE.load (.u32 x) rfl one_55 rfl hcell ?_⟩
  simp only [ev, fx, ↓reduceIte, Nat.reduceEqDiff, Nat.reduceLT, Nat.reduceLeDiff, Nat.reduceAdd, Nat.reduceSub, Nat.reduceMul, Int.reduceLT, Int.reduceLE, Int.reduceToNat, BitVec.reduceOfInt, BitVec.reduceToNat, reduceCtorEq, and_self, decide_true, decide_false, Bool.not_true, Bool.not_false, ne_eq, not_true_eq_false, not_false_eq_true, true_and, and_true]
  repeat (refine And.intro (by omega) ?_)
  refine hK _ _ ?_; clear hK K
  refine EWp.regR [3, 7, 8, 9] fun K hK => ?_
  simp only [ev, fx, ↓reduceIte, Nat.reduceEqDiff, Nat.reduceLT, Nat.reduceLeDiff, Nat.reduceAdd, Nat.reduceSub, Nat.reduceMul, Int.reduceLT, Int.reduceLE, Int.reduceToNat, BitVec.reduceOfInt, BitVec.reduceToNat, reduceCtorEq, and_self, decide_true, decide_false, Bool.not_true, Bool.not_false, ne_eq, not_true_eq_false, not_false_eq_true, true_and, and_true]
  refine SemE.buildSlice (vs := (bytes4 x).map SV.u8) hl 5 slof_23 (by simp [bytes4, be4, List.range_succ, partsSV, Env.op, Env.get, SV.isOne]) rfl (by omega) rfl fun b1 w2 hb1 hl => ?_
  simp only [ev, fx, ↓reduceIte, Nat.reduceEqDiff, Nat.reduceLT, Nat.reduceLeDiff, Nat.reduceAdd, Nat.reduceSub, Nat.reduceMul, Int.reduceLT, Int.reduceLE, Int.reduceToNat, BitVec.reduceOfInt, BitVec.reduceToNat, reduceCtorEq, and_self, decide_true, decide_false, Bool.not_true, Bool.not_false, ne_eq, not_true_eq_false, not_false_eq_true, true_and, and_true]
  have hr1 : Rd w2 (some ⟨b1, 0, none⟩) ((bytes4 x).map SV.u8) := Rd.blk (hl.sub (List.sublist_append_right _ [(b1, 5, (bytes4 x).map SV.u8)])) (k := 0) rfl 0 4
  refine SemE.append hl ho slof_23 rfl rfl rfl hr1 rfl (fun h => by cases h) (isOneB _) (by omega) rfl fun v2 B2 w3 ho hl _ => ?_
  have hl := hl.sub (List.sublist_append_left B2 _)
  rw [← List.map_append, ← hsucc] at ho
  simp only [ev, fx, ↓reduceIte, Nat.reduceEqDiff, Nat.reduceLT, Nat.reduceLeDiff, Nat.reduceAdd, Nat.reduceSub, Nat.reduceMul, Int.reduceLT, Int.reduceLE, Int.reduceToNat, BitVec.reduceOfInt, BitVec.reduceToNat, reduceCtorEq, and_self, decide_true, decide_false, Bool.not_true, Bool.not_false, ne_eq, not_true_eq_false, not_false_eq_true, true_and, and_true]
  refine hK _ _ fun S1 h1 => ?_; clear hK K
  simp only [BlockE, ThenE]
  exact ⟨v2, B2, h1, ho, hl⟩

theorem tail_be (L i : Nat) (hi : i < 8) : tailB 8 L i = be8 (BitVec.ofNat 64 L <<< 3) i := by
  unfold tailB be8
  rw [if_pos (by omega)]
  have e1 : 8#64 * BitVec.ofNat 64 L = BitVec.ofNat 64 L <<< 3 := by
    apply BitVec.eq_of_toNat_eq
    simp only [BitVec.toNat_mul, BitVec.toNat_shiftLeft, Nat.shiftLeft_eq]
    show (8 * _) % _ = (_ * 8) % _
    rw [Nat.mul_comm]
  rw [e1, show 8 * (8 - 1 - i) = 56 - 8 * i by omega]
theorem padS_padB (T : List B8) : padS 64 8 56 T = T ++ padB T.length := by
  unfold padS padB
  have h1 : tailL 8 T.length 8 = (List.range 8).map (be8 (BitVec.ofNat 64 T.length <<< 3)) := by
    unfold tailL
    exact List.map_congr_left fun i hi => tail_be _ _ (List.mem_range.1 hi)
  have h2 : zN 64 56 T.length = padT T.length - 1 := by unfold zN padT; split <;> omega
  rw [h1, h2]
  simp
theorem pad64 (L : Nat) : (L + (padT L + 8)) % 64 = 0 := by unfold padT; split <;> omega


set_option maxRecDepth 100000 in
/-- The blocks of a text. -/
theorem blocks32C (s : S8) (pa : Addr) (cp : Nat) (v : SV) (bs : List B8) (w : World) (hh : Rd w (some pa) (eight s)) (ht : Txt w v bs) (hbig : bs.length ≤ 1000000) :
    Calls Tryd.prog 16 #[(SV.sl (some pa) 8 cp).val, v.val] w fun e w' => ∃ p c, e = .returned (SV.sl (some p) 8 c).val ∧ Rd w' (some p) (eight (blocks s bs)) ∧ Grow w w' := by
  obtain ⟨ap, c, rfl, hc, ha, hr⟩ := ht
  refine calls_E [.sl (some pa) 8 cp, .sl ap bs.length c] Tryd.func16 rfl Tryd.ntmps16 rfl ?_
  refine EWp.seqR [0, 1] fun K hK => ?_
  simp only [ev, fx, ↓reduceIte, Nat.reduceEqDiff, Nat.reduceLT, Nat.reduceLeDiff, Nat.reduceAdd, Nat.reduceSub, Nat.reduceMul, Int.reduceLT, Int.reduceLE, Int.reduceToNat, BitVec.reduceOfInt, BitVec.reduceToNat, reduceCtorEq, and_self, decide_true, decide_false, Bool.not_true, Bool.not_false, ne_eq, not_true_eq_false, not_false_eq_true, true_and, and_true]
  repeat (refine And.intro (by omega) ?_)
  refine hK _ _ ?_; clear hK K
  refine EWp.cut [0] (fun S' w' => ∃ pa cp, S' = [(0, .sl (some pa) 8 cp)] ∧ Rd w' (some pa) (eight (blocks s bs)) ∧ Grow w w') ?_ ?_
  case refine_2 =>
    rintro S' w' ⟨pa, cp, rfl, hpa, hg⟩
    refine EWp.seqR [4] fun K hK => ?_
    simp only [ev, fx, ↓reduceIte, Nat.reduceEqDiff, Nat.reduceLT, Nat.reduceLeDiff, Nat.reduceAdd, Nat.reduceSub, Nat.reduceMul, Int.reduceLT, Int.reduceLE, Int.reduceToNat, BitVec.reduceOfInt, BitVec.reduceToNat, reduceCtorEq, and_self, decide_true, decide_false, Bool.not_true, Bool.not_false, ne_eq, not_true_eq_false, not_false_eq_true, true_and, and_true]
    repeat (refine And.intro (by omega) ?_)
    refine hK _ _ ?_; clear hK K
    exact EWp.ret (BodyE.tmp1 rfl rfl ⟨pa, cp, rfl, hpa, hg⟩)
  refine EWp.block ?_
  refine EWp.loop [0, 1] (fun k S' w' => ∃ (st : S8) (bs' : List B8) (pa : Addr) (cp : Nat) (pp : Option Addr) (cq : Nat), k = bs'.length ∧ blocks st bs' = blocks s bs ∧ bs'.length ≤ cq ∧ bs'.length ≤ 1000000 ∧
    S' = [(0, .sl (some pa) 8 cp), (1, .sl pp bs'.length cq)] ∧ Rd w' (some pa) (eight st) ∧ Rd w' pp (bs'.map SV.u8) ∧ Grow w w') bs.length ?_ ?_
  case refine_1 => exact ⟨s, bs, pa, cp, ap, c, rfl, rfl, hc, hbig, rfl, hh, hr, Grow.refl w⟩
  clear hh hr
  rintro k S' w' ⟨st, bs', pa, cp, pp, cq, rfl, hblk, hcq, hn', rfl, hpa, hpp, hg⟩
  refine EWp.headR [0, 1, 7] fun K hK => ?_
  simp only [ev, fx, ↓reduceIte, Nat.reduceEqDiff, Nat.reduceLT, Nat.reduceLeDiff, Nat.reduceAdd, Nat.reduceSub, Nat.reduceMul, Int.reduceLT, Int.reduceLE, Int.reduceToNat, BitVec.reduceOfInt, BitVec.reduceToNat, reduceCtorEq, and_self, decide_true, decide_false, Bool.not_true, Bool.not_false, ne_eq, not_true_eq_false, not_false_eq_true, true_and, and_true]
  refine hK _ _ (decide (64 ≤ bs'.length)) rfl (fun hlt => ?_) (fun hlt => ?_) <;> clear hK K
  case refine_2 =>
    have hlt := of_decide_eq_false hlt
    rw [blocks_lo st (by omega)] at hblk
    subst hblk
    simp only [BlockE, ThenE, ↓reduceIte]
    exact ⟨pa, cp, rfl, hpa, hg⟩
  have hge := of_decide_eq_true hlt
  obtain ⟨qp, rfl, _, _⟩ := hpp 0 (.u8 (bs'.getD 0 0)) (by simp [show 0 < bs'.length by omega])
  refine EWp.cut [0, 1] (fun S' w' => ∃ pa cp, S' = [(0, .sl (some pa) 8 cp), (1, .sl (some qp) bs'.length cq)] ∧ Rd w' (some pa) (eight (blk st bs')) ∧ Rd w' (some qp) (bs'.map SV.u8) ∧ Grow w w') ?_ ?_
  case refine_2 =>
    clear hg hpa hpp
    rintro S' w' ⟨pa, cp, rfl, hpa, hpp, hg⟩
    refine EWp.regR [0, 1] fun K hK => ?_
    simp only [ev, fx, ↓reduceIte, Nat.reduceEqDiff, Nat.reduceLT, Nat.reduceLeDiff, Nat.reduceAdd, Nat.reduceSub, Nat.reduceMul, Int.reduceLT, Int.reduceLE, Int.reduceToNat, BitVec.reduceOfInt, BitVec.reduceToNat, reduceCtorEq, and_self, decide_true, decide_false, Bool.not_true, Bool.not_false, ne_eq, not_true_eq_false, not_false_eq_true, true_and, and_true]
    repeat (refine And.intro (by omega) ?_)
    refine hK _ _ fun S1 h1 => ?_; clear hK K
    simp only [ThenE]
    refine ⟨bs'.length - 64, by omega, blk st bs', bs'.drop 64, pa, cp, _, cq - 64, by simp, by rw [← blocks_hi st hge, hblk], by simp; omega, by simp; omega, ?_, hpa, by rw [List.map_drop]; exact hpp.drop 64 cq (by simpa using hcq), hg⟩
    rw [h1]
    simp
  refine EWp.block ?_
  refine EWp.regR [0, 1] fun K hK => ?_
  simp only [ev, fx, ↓reduceIte, Nat.reduceEqDiff, Nat.reduceLT, Nat.reduceLeDiff, Nat.reduceAdd, Nat.reduceSub, Nat.reduceMul, Int.reduceLT, Int.reduceLE, Int.reduceToNat, BitVec.reduceOfInt, BitVec.reduceToNat, reduceCtorEq, and_self, decide_true, decide_false, Bool.not_true, Bool.not_false, ne_eq, not_true_eq_false, not_false_eq_true, true_and, and_true, sl0]
  repeat (refine And.intro (by omega) ?_)
  refine SemE.call fn_34 rfl rfl (specBlock2 st pa cp qp 64 cq (bs'.take 64) w' hpa (by rw [List.map_take]; exact hpp.take 64) (by simp; omega) (by omega) (by omega)) ?_
  rintro _ w2 ⟨p2, c2, rfl, hp2, hg2⟩
  refine ⟨_, rfl, ?_⟩
  simp only [ev, fx, ↓reduceIte, Nat.reduceEqDiff, Nat.reduceLT, Nat.reduceLeDiff, Nat.reduceAdd, Nat.reduceSub, Nat.reduceMul, Int.reduceLT, Int.reduceLE, Int.reduceToNat, BitVec.reduceOfInt, BitVec.reduceToNat, reduceCtorEq, and_self, decide_true, decide_false, Bool.not_true, Bool.not_false, ne_eq, not_true_eq_false, not_false_eq_true, true_and, and_true]
  refine hK _ _ fun S1 h1 => ?_; clear hK K
  simp only [BlockE, ThenE]
  refine ⟨p2, c2, h1, ?_, hpp.grow hg2, hg.trans hg2⟩
  rw [← blk_take]
  exact hp2

set_option maxRecDepth 100000 in
theorem specSizes (sh : Bool) (w : World) : Calls Tryd.prog 26 #[(SV.nat (kd sh)).val] w fun e w' => e = .returned (SV.tup2 (.nat (hN sh)) (.nat 64)).val ∧ Grow w w' := by
  refine calls_E [.nat (kd sh)] Tryd.func26 rfl Tryd.ntmps26 rfl ?_
  refine EWp.seqR [0] fun K hK => ?_
  simp only [ev, fx, ↓reduceIte, Nat.reduceEqDiff, Nat.reduceLT, Nat.reduceLeDiff, Nat.reduceAdd, Nat.reduceSub, Nat.reduceMul, Int.reduceLT, Int.reduceLE, Int.reduceToNat, BitVec.reduceOfInt, BitVec.reduceToNat, reduceCtorEq, and_self, decide_true, decide_false, Bool.not_true, Bool.not_false, ne_eq, not_true_eq_false, not_false_eq_true, true_and, and_true]
  repeat (refine And.intro (by omega) ?_)
  refine hK _ _ ?_; clear hK K
  refine EWp.seqR [0, 4] fun K hK => ?_
  simp only [ev, fx, ↓reduceIte, Nat.reduceEqDiff, Nat.reduceLT, Nat.reduceLeDiff, Nat.reduceAdd, Nat.reduceSub, Nat.reduceMul, Int.reduceLT, Int.reduceLE, Int.reduceToNat, BitVec.reduceOfInt, BitVec.reduceToNat, reduceCtorEq, and_self, decide_true, decide_false, Bool.not_true, Bool.not_false, ne_eq, not_true_eq_false, not_false_eq_true, true_and, and_true]
  repeat (refine And.intro (by omega) ?_)
  refine hK _ _ ?_; clear hK K
  have hk1 : kd sh ≤ 1 := by cases sh <;> simp [kd]
  have hk2 : ¬ 2 ≤ kd sh := by omega
  refine EWp.ifR [0, 4, 10] fun K hK => ?_
  simp only [ev, fx, ↓reduceIte, Nat.reduceEqDiff, Nat.reduceLT, Nat.reduceLeDiff, Nat.reduceAdd, Nat.reduceSub, Nat.reduceMul, Int.reduceLT, Int.reduceLE, Int.reduceToNat, BitVec.reduceOfInt, BitVec.reduceToNat, reduceCtorEq, and_self, decide_true, decide_false, Bool.not_true, Bool.not_false, ne_eq, not_true_eq_false, not_false_eq_true, true_and, and_true, hk2]
  refine hK _ _ false rfl (fun h => by cases h) (fun _ => ?_); clear hK K
  refine EWp.skipThen ?_
  refine EWp.seqR [2, 3] fun K hK => ?_
  simp only [ev, fx, ↓reduceIte, Nat.reduceEqDiff, Nat.reduceLT, Nat.reduceLeDiff, Nat.reduceAdd, Nat.reduceSub, Nat.reduceMul, Int.reduceLT, Int.reduceLE, Int.reduceToNat, BitVec.reduceOfInt, BitVec.reduceToNat, reduceCtorEq, and_self, decide_true, decide_false, Bool.not_true, Bool.not_false, ne_eq, not_true_eq_false, not_false_eq_true, true_and, and_true]
  refine SemE.buildSlice (vs := [.nat 28, .nat 32, .nat 48, .nat 64, .nat 28, .nat 32, .nat 20, .nat 16]) (HL.start w) 3 slof_71 rfl rfl (by omega) rfl fun b w1 hb hl => ?_
  simp only [ev, fx, ↓reduceIte, Nat.reduceEqDiff, Nat.reduceLT, Nat.reduceLeDiff, Nat.reduceAdd, Nat.reduceSub, Nat.reduceMul, Int.reduceLT, Int.reduceLE, Int.reduceToNat, BitVec.reduceOfInt, BitVec.reduceToNat, reduceCtorEq, and_self, decide_true, decide_false, Bool.not_true, Bool.not_false, ne_eq, not_true_eq_false, not_false_eq_true, true_and, and_true]
  repeat (refine And.intro (by omega) ?_)
  refine SemE.loadB (v := .nat (hN sh)) hl 0 rfl one_3 rfl rfl (by cases sh <;> rfl) ?_
  simp only [ev, fx, ↓reduceIte, Nat.reduceEqDiff, Nat.reduceLT, Nat.reduceLeDiff, Nat.reduceAdd, Nat.reduceSub, Nat.reduceMul, Int.reduceLT, Int.reduceLE, Int.reduceToNat, BitVec.reduceOfInt, BitVec.reduceToNat, reduceCtorEq, and_self, decide_true, decide_false, Bool.not_true, Bool.not_false, ne_eq, not_true_eq_false, not_false_eq_true, true_and, and_true]
  repeat (refine And.intro (by omega) ?_)
  refine hK _ _ ?_; clear hK K
  exact EWp.ret (BodyE.tmp2 rfl rfl rfl ⟨rfl, (hl.sub (List.nil_sublist _)).toGrow⟩)

set_option maxRecDepth 100000 in
/-- The reference's hash. -/
theorem specHash2 (sh : Bool) (v : SV) (T : List B8) (w : World) (ht : Txt w v T) (hbig : T.length ≤ 100000) :
    Calls Tryd.prog 25 #[(SV.nat (kd sh)).val, v.val] w fun e w' => ∃ v', e = .returned v'.val ∧ Txt w' v' (hashB sh T) ∧ Grow w w' := by
  refine calls_E [.nat (kd sh), v] Tryd.func25 rfl Tryd.ntmps25 rfl ?_
  refine EWp.seqR [0, 1] fun K hK => ?_
  simp only [ev, fx, ↓reduceIte, Nat.reduceEqDiff, Nat.reduceLT, Nat.reduceLeDiff, Nat.reduceAdd, Nat.reduceSub, Nat.reduceMul, Int.reduceLT, Int.reduceLE, Int.reduceToNat, BitVec.reduceOfInt, BitVec.reduceToNat, reduceCtorEq, and_self, decide_true, decide_false, Bool.not_true, Bool.not_false, ne_eq, not_true_eq_false, not_false_eq_true, true_and, and_true]
  repeat (refine And.intro (by omega) ?_)
  refine hK _ _ ?_; clear hK K
  refine EWp.seqR [0, 1, 5] fun K hK => ?_
  simp only [ev, fx, ↓reduceIte, Nat.reduceEqDiff, Nat.reduceLT, Nat.reduceLeDiff, Nat.reduceAdd, Nat.reduceSub, Nat.reduceMul, Int.reduceLT, Int.reduceLE, Int.reduceToNat, BitVec.reduceOfInt, BitVec.reduceToNat, reduceCtorEq, and_self, decide_true, decide_false, Bool.not_true, Bool.not_false, ne_eq, not_true_eq_false, not_false_eq_true, true_and, and_true]
  refine SemE.call fn_26 rfl rfl (specSizes sh _) ?_
  rintro _ w1 ⟨rfl, hg⟩
  refine ⟨_, rfl, ?_⟩
  simp only [ev, fx, ↓reduceIte, Nat.reduceEqDiff, Nat.reduceLT, Nat.reduceLeDiff, Nat.reduceAdd, Nat.reduceSub, Nat.reduceMul, Int.reduceLT, Int.reduceLE, Int.reduceToNat, BitVec.reduceOfInt, BitVec.reduceToNat, reduceCtorEq, and_self, decide_true, decide_false, Bool.not_true, Bool.not_false, ne_eq, not_true_eq_false, not_false_eq_true, true_and, and_true]
  repeat (refine And.intro (by omega) ?_)
  refine hK _ _ ?_; clear hK K
  refine EWp.seqR [4] fun K hK => ?_
  simp only [ev, fx, ↓reduceIte, Nat.reduceEqDiff, Nat.reduceLT, Nat.reduceLeDiff, Nat.reduceAdd, Nat.reduceSub, Nat.reduceMul, Int.reduceLT, Int.reduceLE, Int.reduceToNat, BitVec.reduceOfInt, BitVec.reduceToNat, reduceCtorEq, and_self, decide_true, decide_false, Bool.not_true, Bool.not_false, ne_eq, not_true_eq_false, not_false_eq_true, true_and, and_true]
  refine SemE.call fn_21 rfl rfl (begin32 sh _) ?_
  rintro _ w2 ⟨p2, c2, rfl, hp2, hg2⟩
  refine ⟨_, rfl, ?_⟩
  have hg := hg.trans hg2
  simp only [ev, fx, ↓reduceIte, Nat.reduceEqDiff, Nat.reduceLT, Nat.reduceLeDiff, Nat.reduceAdd, Nat.reduceSub, Nat.reduceMul, Int.reduceLT, Int.reduceLE, Int.reduceToNat, BitVec.reduceOfInt, BitVec.reduceToNat, reduceCtorEq, and_self, decide_true, decide_false, Bool.not_true, Bool.not_false, ne_eq, not_true_eq_false, not_false_eq_true, true_and, and_true]
  have ht1 := ht.grow hg
  have htv := ht1
  obtain ⟨a, c, rfl, hc, ha, hr⟩ := htv
  refine SemE.call fn_27 rfl rfl (padded64 a T.length c T _ hr rfl ha (by omega)) ?_
  rintro _ w3 ⟨v3, B3, rfl, ho3, hl3⟩
  refine ⟨_, rfl, ?_⟩
  rw [padS_padB] at ho3
  have ht3 := ho3.txt (H := []) (by rw [List.append_nil]; exact hl3)
  have hp2 := hp2.grow hl3.toGrow
  have hg := hg.trans hl3.toGrow
  clear ho3 hl3
  simp only [ev, fx, ↓reduceIte, Nat.reduceEqDiff, Nat.reduceLT, Nat.reduceLeDiff, Nat.reduceAdd, Nat.reduceSub, Nat.reduceMul, Int.reduceLT, Int.reduceLE, Int.reduceToNat, BitVec.reduceOfInt, BitVec.reduceToNat, reduceCtorEq, and_self, decide_true, decide_false, Bool.not_true, Bool.not_false, ne_eq, not_true_eq_false, not_false_eq_true, true_and, and_true]
  have hpt := padT_pos T.length
  refine SemE.call fn_16 rfl rfl (blocks32C (initOf sh) p2 c2 v3 _ _ hp2 ht3 (by rw [List.length_append, padB_length]; omega)) ?_
  rintro _ w4 ⟨p4, c4, rfl, hp4, hg4⟩
  refine ⟨_, rfl, ?_⟩
  have hg := hg.trans hg4
  have hhb : hashB sh T = (sumB (blocks (initOf sh) (T ++ padB T.length))).take (hN sh) := rfl
  generalize blocks (initOf sh) (T ++ padB T.length) = r at hp4 hhb
  simp only [ev, fx, ↓reduceIte, Nat.reduceEqDiff, Nat.reduceLT, Nat.reduceLeDiff, Nat.reduceAdd, Nat.reduceSub, Nat.reduceMul, Int.reduceLT, Int.reduceLE, Int.reduceToNat, BitVec.reduceOfInt, BitVec.reduceToNat, reduceCtorEq, and_self, decide_true, decide_false, Bool.not_true, Bool.not_false, ne_eq, not_true_eq_false, not_false_eq_true, true_and, and_true]
  refine SemE.call fn_28 rfl rfl (words32C p4 8 c4 [r.a, r.b, r.c, r.d, r.e, r.f, r.g, r.h] _ hp4 rfl (by omega)) ?_
  rintro _ w5 ⟨v5, B5, rfl, ho5, hl5⟩
  refine ⟨_, rfl, ?_⟩
  rw [wordsB_eight, sumB_len] at ho5
  obtain ⟨bv, cv, rfl, hcv⟩ := ho5.pos (by omega)
  have hrd := ho5.rd (H := []) (by rw [List.append_nil]; exact hl5) rfl
  have hg := hg.trans hl5.toGrow
  have hn1 : hN sh ≤ 32 := by cases sh <;> simp [hN]
  have hn0 : 0 < hN sh := by cases sh <;> simp [hN]
  simp only [ev, fx, ↓reduceIte, Nat.reduceEqDiff, Nat.reduceLT, Nat.reduceLeDiff, Nat.reduceAdd, Nat.reduceSub, Nat.reduceMul, Int.reduceLT, Int.reduceLE, Int.reduceToNat, BitVec.reduceOfInt, BitVec.reduceToNat, reduceCtorEq, and_self, decide_true, decide_false, Bool.not_true, Bool.not_false, ne_eq, not_true_eq_false, not_false_eq_true, true_and, and_true, sl0]
  repeat (refine And.intro (by omega) ?_)
  refine hK _ _ ?_; clear hK K
  refine EWp.ret (BodyE.tmp1 rfl rfl ⟨_, rfl, ?_, hg⟩)
  rw [hhb]
  refine Txt.mk (by rw [List.map_take]; exact hrd.take _) (by simp [sumB_len]; omega) (by omega) (fun h => by cases h)
end Go.Proofs.YtkfblgkicopjjaaDoor
