/- The law that bytes that are no kept state of SHA-256 are refused. -/
import Derived.Test.YtkfblgkicopjjaaDoorKl2
set_option linter.unusedVariables false
set_option linter.unusedSimpArgs false
namespace Go.Proofs.YtkfblgkicopjjaaDoor
open Go

theorem Plain.eqlBool {P : Program} {n : Nat} {S : Env} {dst : Option Tmp} {t t' : TypeId} {x y : Operand} {ty : TypeId} {pos : String} {after : Array Edge} {g : Option (Nat × Bool)} {a b : Bool} (ht : P.underlying t = some .bool) (hx : S.op x = some (.bool a)) (hy : S.op y = some (.bool b)) :
    Plain P n S ⟨dst, .binOp .eql t x y t', ty, pos, after, g⟩ (.bool (a == b)) := fun av hav w => by
  simp [execOp, hav.eval hx, hav.eval hy, eqGuard, SV.val, run_eql_bool w t a b ht]

theorem txsNil (w : World) : Txs w (.sl none 0 0) [] := Txs.mk (RdD.nil w none) rfl (Nat.le_refl _) (fun _ => rfl)
theorem kd_inj {a b : Bool} (h : kd a = kd b) : a = b := by revert h; cases a <;> cases b <;> simp [kd]
theorem magic_inj {a b : Bool} (h : magicB a = magicB b) : a = b := by revert h; cases a <;> cases b <;> simp [magicB]

set_option maxRecDepth 100000 in
theorem lawFails2 (ki kj : Bool) (v : SV) (tt : List (List B8)) (cut : B8) (vf : SV) (mo : List B8) (w : World) (hko : KO w) (ht : Txs w v tt) (htm : Txt w vf mo) :
    Calls Tryd.prog 11 #[(SV.bool ki).val, (SV.bool kj).val, v.val, (SV.u8 cut).val, vf.val] w fun e w' => e = .returned (SV.bool true).val ∧ Grow w w' := by
  obtain ⟨am, cm, rfl, hcm, ham, hrm⟩ := htm
  generalize hn : mo.length = n at *
  refine calls_E [.bool ki, .bool kj, v, .u8 cut, .sl am n cm] Tryd.func11 rfl Tryd.ntmps11 rfl ?_
  refine EWp.seqR [0, 1, 2, 3, 4] fun K hK => ?_
  simp only [ev, fx, ↓reduceIte, Nat.reduceEqDiff, Nat.reduceLT, Nat.reduceLeDiff, Nat.reduceAdd, Nat.reduceSub, Nat.reduceMul, Int.reduceLT, Int.reduceLE, Int.reduceToNat, BitVec.reduceOfInt, BitVec.reduceToNat, reduceCtorEq, and_self, decide_true, decide_false, Bool.not_true, Bool.not_false, ne_eq, not_true_eq_false, not_false_eq_true, true_and, and_true]
  repeat (refine And.intro (by omega) ?_)
  refine hK _ _ ?_; clear hK K
  refine EWp.ifR [0, 1, 2, 3, 4, 28] fun K hK => ?_
  simp only [ev, fx, ↓reduceIte, Nat.reduceEqDiff, Nat.reduceLT, Nat.reduceLeDiff, Nat.reduceAdd, Nat.reduceSub, Nat.reduceMul, Int.reduceLT, Int.reduceLE, Int.reduceToNat, BitVec.reduceOfInt, BitVec.reduceToNat, reduceCtorEq, and_self, decide_true, decide_false, Bool.not_true, Bool.not_false, ne_eq, not_true_eq_false, not_false_eq_true, true_and, and_true]
  refine SemE.call fn_17 rfl rfl (fitsT _ tt _ ht) ?_
  rintro _ _ ⟨bf, rfl, hw⟩
  rw [hw]; clear hw
  refine ⟨_, rfl, ?_⟩
  cases bf
  · simp only [ev, fx, ↓reduceIte, Nat.reduceEqDiff, Nat.reduceLT, Nat.reduceLeDiff, Nat.reduceAdd, Nat.reduceSub, Nat.reduceMul, Int.reduceLT, Int.reduceLE, Int.reduceToNat, BitVec.reduceOfInt, BitVec.reduceToNat, reduceCtorEq, and_self, decide_true, decide_false, Bool.not_true, Bool.not_false, ne_eq, not_true_eq_false, not_false_eq_true, true_and, and_true]
    refine hK _ _ true rfl (fun _ => ?_) (fun h => by cases h); clear hK K
    refine EWp.seqR [10] fun K hK => ?_
    simp only [ev, fx, ↓reduceIte, Nat.reduceEqDiff, Nat.reduceLT, Nat.reduceLeDiff, Nat.reduceAdd, Nat.reduceSub, Nat.reduceMul, Int.reduceLT, Int.reduceLE, Int.reduceToNat, BitVec.reduceOfInt, BitVec.reduceToNat, reduceCtorEq, and_self, decide_true, decide_false, Bool.not_true, Bool.not_false, ne_eq, not_true_eq_false, not_false_eq_true, true_and, and_true]
    repeat (refine And.intro (by omega) ?_)
    refine hK _ _ ?_; clear hK K
    exact EWp.retT (BodyE.tmp1 rfl rfl ⟨rfl, Grow.refl _⟩)
  by_cases h1 : 2147483647 < n
  · simp only [ev, fx, ↓reduceIte, Nat.reduceEqDiff, Nat.reduceLT, Nat.reduceLeDiff, Nat.reduceAdd, Nat.reduceSub, Nat.reduceMul, Int.reduceLT, Int.reduceLE, Int.reduceToNat, BitVec.reduceOfInt, BitVec.reduceToNat, reduceCtorEq, and_self, decide_true, decide_false, Bool.not_true, Bool.not_false, ne_eq, not_true_eq_false, not_false_eq_true, true_and, and_true, h1]
    refine hK _ _ true rfl (fun _ => ?_) (fun h => by cases h); clear hK K
    refine EWp.seqR [10] fun K hK => ?_
    simp only [ev, fx, ↓reduceIte, Nat.reduceEqDiff, Nat.reduceLT, Nat.reduceLeDiff, Nat.reduceAdd, Nat.reduceSub, Nat.reduceMul, Int.reduceLT, Int.reduceLE, Int.reduceToNat, BitVec.reduceOfInt, BitVec.reduceToNat, reduceCtorEq, and_self, decide_true, decide_false, Bool.not_true, Bool.not_false, ne_eq, not_true_eq_false, not_false_eq_true, true_and, and_true]
    repeat (refine And.intro (by omega) ?_)
    refine hK _ _ ?_; clear hK K
    exact EWp.retT (BodyE.tmp1 rfl rfl ⟨rfl, Grow.refl _⟩)
  simp only [ev, fx, ↓reduceIte, Nat.reduceEqDiff, Nat.reduceLT, Nat.reduceLeDiff, Nat.reduceAdd, Nat.reduceSub, Nat.reduceMul, Int.reduceLT, Int.reduceLE, Int.reduceToNat, BitVec.reduceOfInt, BitVec.reduceToNat, reduceCtorEq, and_self, decide_true, decide_false, Bool.not_true, Bool.not_false, ne_eq, not_true_eq_false, not_false_eq_true, true_and, and_true, h1]
  refine hK _ _ false rfl (fun h => by cases h) (fun _ => ?_); clear hK K
  refine EWp.skipThen ?_
  clear h1
  refine EWp.ifR [0, 1, 2, 3, 4, 36] fun K hK => ?_
  simp only [ev, fx, ↓reduceIte, Nat.reduceEqDiff, Nat.reduceLT, Nat.reduceLeDiff, Nat.reduceAdd, Nat.reduceSub, Nat.reduceMul, Int.reduceLT, Int.reduceLE, Int.reduceToNat, BitVec.reduceOfInt, BitVec.reduceToNat, reduceCtorEq, and_self, decide_true, decide_false, Bool.not_true, Bool.not_false, ne_eq, not_true_eq_false, not_false_eq_true, true_and, and_true]
  refine SemE.call fn_18 rfl rfl (fewT _ tt _ ht) ?_
  rintro _ _ ⟨rfl, hw⟩
  rw [hw]; clear hw
  refine ⟨_, rfl, ?_⟩
  cases hf : fewB tt
  · simp only [ev, fx, ↓reduceIte, Nat.reduceEqDiff, Nat.reduceLT, Nat.reduceLeDiff, Nat.reduceAdd, Nat.reduceSub, Nat.reduceMul, Int.reduceLT, Int.reduceLE, Int.reduceToNat, BitVec.reduceOfInt, BitVec.reduceToNat, reduceCtorEq, and_self, decide_true, decide_false, Bool.not_true, Bool.not_false, ne_eq, not_true_eq_false, not_false_eq_true, true_and, and_true]
    refine hK _ _ true rfl (fun _ => ?_) (fun h => by cases h); clear hK K
    refine EWp.seqR [10] fun K hK => ?_
    simp only [ev, fx, ↓reduceIte, Nat.reduceEqDiff, Nat.reduceLT, Nat.reduceLeDiff, Nat.reduceAdd, Nat.reduceSub, Nat.reduceMul, Int.reduceLT, Int.reduceLE, Int.reduceToNat, BitVec.reduceOfInt, BitVec.reduceToNat, reduceCtorEq, and_self, decide_true, decide_false, Bool.not_true, Bool.not_false, ne_eq, not_true_eq_false, not_false_eq_true, true_and, and_true]
    repeat (refine And.intro (by omega) ?_)
    refine hK _ _ ?_; clear hK K
    exact EWp.retT (BodyE.tmp1 rfl rfl ⟨rfl, Grow.refl _⟩)
  by_cases h2 : 1000 < n
  · simp only [ev, fx, ↓reduceIte, Nat.reduceEqDiff, Nat.reduceLT, Nat.reduceLeDiff, Nat.reduceAdd, Nat.reduceSub, Nat.reduceMul, Int.reduceLT, Int.reduceLE, Int.reduceToNat, BitVec.reduceOfInt, BitVec.reduceToNat, reduceCtorEq, and_self, decide_true, decide_false, Bool.not_true, Bool.not_false, ne_eq, not_true_eq_false, not_false_eq_true, true_and, and_true, h2]
    refine hK _ _ true rfl (fun _ => ?_) (fun h => by cases h); clear hK K
    refine EWp.seqR [10] fun K hK => ?_
    simp only [ev, fx, ↓reduceIte, Nat.reduceEqDiff, Nat.reduceLT, Nat.reduceLeDiff, Nat.reduceAdd, Nat.reduceSub, Nat.reduceMul, Int.reduceLT, Int.reduceLE, Int.reduceToNat, BitVec.reduceOfInt, BitVec.reduceToNat, reduceCtorEq, and_self, decide_true, decide_false, Bool.not_true, Bool.not_false, ne_eq, not_true_eq_false, not_false_eq_true, true_and, and_true]
    repeat (refine And.intro (by omega) ?_)
    refine hK _ _ ?_; clear hK K
    exact EWp.retT (BodyE.tmp1 rfl rfl ⟨rfl, Grow.refl _⟩)
  simp only [ev, fx, ↓reduceIte, Nat.reduceEqDiff, Nat.reduceLT, Nat.reduceLeDiff, Nat.reduceAdd, Nat.reduceSub, Nat.reduceMul, Int.reduceLT, Int.reduceLE, Int.reduceToNat, BitVec.reduceOfInt, BitVec.reduceToNat, reduceCtorEq, and_self, decide_true, decide_false, Bool.not_true, Bool.not_false, ne_eq, not_true_eq_false, not_false_eq_true, true_and, and_true, h2]
  refine hK _ _ false rfl (fun h => by cases h) (fun _ => ?_); clear hK K
  refine EWp.skipThen ?_
  have hf2 : tt.length ≤ 100 ∧ (cat tt).length ≤ 5000 := of_decide_eq_true hf
  refine EWp.seqR [0, 1, 2, 3, 4, 11] fun K hK => ?_
  simp only [ev, fx, ↓reduceIte, Nat.reduceEqDiff, Nat.reduceLT, Nat.reduceLeDiff, Nat.reduceAdd, Nat.reduceSub, Nat.reduceMul, Int.reduceLT, Int.reduceLE, Int.reduceToNat, BitVec.reduceOfInt, BitVec.reduceToNat, reduceCtorEq, and_self, decide_true, decide_false, Bool.not_true, Bool.not_false, ne_eq, not_true_eq_false, not_false_eq_true, true_and, and_true]
  repeat (refine And.intro (by omega) ?_)
  refine hK _ _ ?_; clear hK K
  refine EWp.cut [1, 2, 3, 4, 11] (fun S' w2 => S' = [(1, .bool kj), (2, v), (3, .u8 cut), (4, .sl am n cm), (11, .nat (kd ki))] ∧ w2 = w) ?_ ?_
  case refine_1 =>
    refine EWp.brR [1, 2, 3, 4, 11, 37] fun K hK => ?_
    simp only [ev, fx, ↓reduceIte, Nat.reduceEqDiff, Nat.reduceLT, Nat.reduceLeDiff, Nat.reduceAdd, Nat.reduceSub, Nat.reduceMul, Int.reduceLT, Int.reduceLE, Int.reduceToNat, BitVec.reduceOfInt, BitVec.reduceToNat, reduceCtorEq, and_self, decide_true, decide_false, Bool.not_true, Bool.not_false, ne_eq, not_true_eq_false, not_false_eq_true, true_and, and_true]
    refine hK _ _ ki rfl (fun h => ?_) (fun h => ?_) <;> clear hK K
    · subst h
      refine EWp.regR [1, 2, 3, 4, 11] fun K hK => ?_
      simp only [ev, fx, ↓reduceIte, Nat.reduceEqDiff, Nat.reduceLT, Nat.reduceLeDiff, Nat.reduceAdd, Nat.reduceSub, Nat.reduceMul, Int.reduceLT, Int.reduceLE, Int.reduceToNat, BitVec.reduceOfInt, BitVec.reduceToNat, reduceCtorEq, and_self, decide_true, decide_false, Bool.not_true, Bool.not_false, ne_eq, not_true_eq_false, not_false_eq_true, true_and, and_true]
      refine hK _ _ fun S1 h1 => ?_; clear hK K
      simp only [ThenE]
      exact ⟨h1, trivial⟩
    · subst h
      refine EWp.skip ?_
      simp only [ThenE]
      exact ⟨rfl, trivial⟩
  rintro S' w2' ⟨rfl, hw⟩
  rw [hw]; clear hw w2'
  refine EWp.seqR [1, 2, 3, 4, 11, 12, 13] fun K hK => ?_
  simp only [ev, fx, ↓reduceIte, Nat.reduceEqDiff, Nat.reduceLT, Nat.reduceLeDiff, Nat.reduceAdd, Nat.reduceSub, Nat.reduceMul, Int.reduceLT, Int.reduceLE, Int.reduceToNat, BitVec.reduceOfInt, BitVec.reduceToNat, reduceCtorEq, and_self, decide_true, decide_false, Bool.not_true, Bool.not_false, ne_eq, not_true_eq_false, not_false_eq_true, true_and, and_true]
  refine SemE.call fn_22 rfl rfl (marI ki _ tt _ hko ht hf2) ?_
  rintro _ w1 ⟨vb, rfl, hb1, hg⟩
  refine ⟨_, rfl, ?_⟩
  obtain ⟨ab, cb, rfl, hcb, hab, hrb⟩ := hb1
  have hml := marB_len ki (cat tt)
  rw [show SV.sl ab (marB ki (cat tt)).length cb = SV.sl ab 108 cb by rw [hml]]
  rw [hml] at hcb hab
  have hb1 : Txt w1 (.sl ab 108 cb) (marB ki (cat tt)) := Txt.mk hrb hml hcb hab
  simp only [ev, fx, ↓reduceIte, Nat.reduceEqDiff, Nat.reduceLT, Nat.reduceLeDiff, Nat.reduceAdd, Nat.reduceSub, Nat.reduceMul, Int.reduceLT, Int.reduceLE, Int.reduceToNat, BitVec.reduceOfInt, BitVec.reduceToNat, reduceCtorEq, and_self, decide_true, decide_false, Bool.not_true, Bool.not_false, ne_eq, not_true_eq_false, not_false_eq_true, true_and, and_true]
  repeat (refine And.intro (by omega) ?_)
  refine hK _ _ ?_; clear hK K
  refine EWp.ifR [1, 2, 3, 4, 11, 12, 50] fun K hK => ?_
  simp only [ev, fx, ↓reduceIte, Nat.reduceEqDiff, Nat.reduceLT, Nat.reduceLeDiff, Nat.reduceAdd, Nat.reduceSub, Nat.reduceMul, Int.reduceLT, Int.reduceLE, Int.reduceToNat, BitVec.reduceOfInt, BitVec.reduceToNat, reduceCtorEq, and_self, decide_true, decide_false, Bool.not_true, Bool.not_false, ne_eq, not_true_eq_false, not_false_eq_true, true_and, and_true]
  refine hK _ _ false rfl (fun h => by cases h) (fun _ => ?_); clear hK K
  refine EWp.skipThen ?_
  -- cut
  refine EWp.seqR [1, 4, 11, 12, 15] fun K hK => ?_
  have hlt : cut.toNat % 108 < 108 := Nat.mod_lt _ (by omega)
  generalize hcu : cut.toNat % 108 = cu at hlt
  simp only [ev, fx, ↓reduceIte, Nat.reduceEqDiff, Nat.reduceLT, Nat.reduceLeDiff, Nat.reduceAdd, Nat.reduceSub, Nat.reduceMul, Int.reduceLT, Int.reduceLE, Int.reduceToNat, BitVec.reduceOfInt, BitVec.reduceToNat, reduceCtorEq, and_self, decide_true, decide_false, Bool.not_true, Bool.not_false, ne_eq, not_true_eq_false, not_false_eq_true, true_and, and_true, sl0, hcu]
  repeat (refine And.intro (by omega) ?_)
  refine SemE.call fn_31 rfl rfl (unIF ki _ ((marB ki (cat tt)).take cu) _ [] _ (hb1.take cu (by omega)) (by rw [List.length_take, hml]; omega) (.inl (by rw [List.length_take, hml]; omega))) ?_
  rintro _ w2 ⟨rfl, hg2⟩
  refine ⟨_, rfl, ?_⟩
  have hg := hg.trans hg2
  have hb1 := hb1.grow hg2
  have hrb := hrb.grow hg2
  simp only [ev, fx, ↓reduceIte, Nat.reduceEqDiff, Nat.reduceLT, Nat.reduceLeDiff, Nat.reduceAdd, Nat.reduceSub, Nat.reduceMul, Int.reduceLT, Int.reduceLE, Int.reduceToNat, BitVec.reduceOfInt, BitVec.reduceToNat, reduceCtorEq, and_self, decide_true, decide_false, Bool.not_true, Bool.not_false, ne_eq, not_true_eq_false, not_false_eq_true, true_and, and_true]
  repeat (refine And.intro (by omega) ?_)
  refine hK _ _ ?_; clear hK K
  -- more
  refine EWp.seqR [1, 4, 11, 12, 15, 17] fun K hK => ?_
  simp only [ev, fx, ↓reduceIte, Nat.reduceEqDiff, Nat.reduceLT, Nat.reduceLeDiff, Nat.reduceAdd, Nat.reduceSub, Nat.reduceMul, Int.reduceLT, Int.reduceLE, Int.reduceToNat, BitVec.reduceOfInt, BitVec.reduceToNat, reduceCtorEq, and_self, decide_true, decide_false, Bool.not_true, Bool.not_false, ne_eq, not_true_eq_false, not_false_eq_true, true_and, and_true]
  refine SemE.buildSlice (vs := []) (HL.start w2) 5 slof_23 rfl rfl (by omega) rfl fun b0 w3 hb0 hl => ?_
  have ho : Own 5 1 (.sl (some ⟨b0, 0, none⟩) 0 0) 0 [] [(b0, 5, [])] := Own.full (by simp) (by unfold maxLen; omega)
  simp only [ev, fx, ↓reduceIte, Nat.reduceEqDiff, Nat.reduceLT, Nat.reduceLeDiff, Nat.reduceAdd, Nat.reduceSub, Nat.reduceMul, Int.reduceLT, Int.reduceLE, Int.reduceToNat, BitVec.reduceOfInt, BitVec.reduceToNat, reduceCtorEq, and_self, decide_true, decide_false, Bool.not_true, Bool.not_false, ne_eq, not_true_eq_false, not_false_eq_true, true_and, and_true]
  refine SemE.append (B := [(b0, 5, [])]) (H := []) hl ho slof_23 rfl rfl rfl (hrb.grow hl.toGrow) (by rw [List.length_map, hml, Nat.mul_one]) hab (isOneB _) (by omega) rfl fun v1 B1 w4 ho hl _ => ?_
  rw [Nat.zero_add, List.nil_append] at ho
  have hg4 : Grow w2 w4 := HL.toGrow (H := B1) (by rw [List.append_nil] at hl; exact hl)
  simp only [ev, fx, ↓reduceIte, Nat.reduceEqDiff, Nat.reduceLT, Nat.reduceLeDiff, Nat.reduceAdd, Nat.reduceSub, Nat.reduceMul, Int.reduceLT, Int.reduceLE, Int.reduceToNat, BitVec.reduceOfInt, BitVec.reduceToNat, reduceCtorEq, and_self, decide_true, decide_false, Bool.not_true, Bool.not_false, ne_eq, not_true_eq_false, not_false_eq_true, true_and, and_true]
  refine SemE.append (H := []) hl ho slof_23 rfl rfl rfl (hrm.grow (hg.trans hg4)) (by simp [hn]) ham (isOneB mo) (by omega) rfl fun v2 B2 w5 ho hl _ => ?_
  rw [← List.map_append] at ho
  have ho := ho.cast (n' := (marB ki (cat tt) ++ mo).length) (by rw [List.length_append, hml, hn]) rfl
  have ht5 := ho.txt hl
  rw [List.append_nil] at hl
  have hg5 : Grow w w5 := hg.trans hl.toGrow
  have hb5 := hb1.grow hl.toGrow
  have two : Calls Tryd.prog 31 #[(SV.nat (kd ki)).val, v2.val, (SV.sl none 0 0).val] w5 fun e w' => ∃ v', e = .returned (SV.tup2 v' (.bool (decide (n = 0)))).val ∧ Grow w5 w' := by
    by_cases h0 : n = 0
    · obtain rfl : mo = [] := List.eq_nil_of_length_eq_zero (by omega)
      rw [List.append_nil] at ht5
      refine (unI ki _ (cat tt) _ [] _ (hko.grow hg5) ht5 (txsNil _) ⟨by simp, by simp [cat]⟩ (by omega)).mono ?_
      rintro e w' ⟨v', rfl, _, hg'⟩
      exact ⟨v', by simp [h0], hg'⟩
    · refine (unIF ki _ _ _ [] _ ht5 (by rw [List.length_append, hml]; omega) (.inl (by rw [List.length_append, hml]; omega))).mono ?_
      rintro e w' ⟨rfl, hg'⟩
      exact ⟨.sl none 0 0, by simp [h0], hg'⟩
  clear ho hl ht5
  simp only [ev, fx, ↓reduceIte, Nat.reduceEqDiff, Nat.reduceLT, Nat.reduceLeDiff, Nat.reduceAdd, Nat.reduceSub, Nat.reduceMul, Int.reduceLT, Int.reduceLE, Int.reduceToNat, BitVec.reduceOfInt, BitVec.reduceToNat, reduceCtorEq, and_self, decide_true, decide_false, Bool.not_true, Bool.not_false, ne_eq, not_true_eq_false, not_false_eq_true, true_and, and_true]
  refine SemE.call fn_31 rfl rfl two ?_
  rintro _ w6 ⟨v6, rfl, hg6⟩
  refine ⟨_, rfl, ?_⟩
  have hg := hg5.trans hg6
  have hb1 := hb5.grow hg6
  clear two hg5 hb5
  simp only [ev, fx, ↓reduceIte, Nat.reduceEqDiff, Nat.reduceLT, Nat.reduceLeDiff, Nat.reduceAdd, Nat.reduceSub, Nat.reduceMul, Int.reduceLT, Int.reduceLE, Int.reduceToNat, BitVec.reduceOfInt, BitVec.reduceToNat, reduceCtorEq, and_self, decide_true, decide_false, Bool.not_true, Bool.not_false, ne_eq, not_true_eq_false, not_false_eq_true, true_and, and_true]
  repeat (refine And.intro (by omega) ?_)
  refine hK _ _ ?_; clear hK K
  refine EWp.seqR [1, 4, 11, 12, 15, 17, 18] fun K hK => ?_
  simp only [ev, fx, ↓reduceIte, Nat.reduceEqDiff, Nat.reduceLT, Nat.reduceLeDiff, Nat.reduceAdd, Nat.reduceSub, Nat.reduceMul, Int.reduceLT, Int.reduceLE, Int.reduceToNat, BitVec.reduceOfInt, BitVec.reduceToNat, reduceCtorEq, and_self, decide_true, decide_false, Bool.not_true, Bool.not_false, ne_eq, not_true_eq_false, not_false_eq_true, true_and, and_true]
  repeat (refine And.intro (by omega) ?_)
  refine hK _ _ ?_; clear hK K
  refine EWp.cut [4, 11, 12, 15, 17, 18] (fun S' w2 => S' = [(4, .sl am n cm), (11, .nat (kd ki)), (12, .sl ab 108 cb), (15, .bool false), (17, .bool (decide (n = 0))), (18, .nat (kd kj))] ∧ w2 = w6) ?_ ?_
  case refine_1 =>
    refine EWp.brR [1, 4, 11, 12, 15, 17, 18, 73] fun K hK => ?_
    simp only [ev, fx, ↓reduceIte, Nat.reduceEqDiff, Nat.reduceLT, Nat.reduceLeDiff, Nat.reduceAdd, Nat.reduceSub, Nat.reduceMul, Int.reduceLT, Int.reduceLE, Int.reduceToNat, BitVec.reduceOfInt, BitVec.reduceToNat, reduceCtorEq, and_self, decide_true, decide_false, Bool.not_true, Bool.not_false, ne_eq, not_true_eq_false, not_false_eq_true, true_and, and_true]
    refine hK _ _ kj rfl (fun h => ?_) (fun h => ?_) <;> clear hK K
    · subst h
      refine EWp.regR [4, 11, 12, 15, 17, 18] fun K hK => ?_
      simp only [ev, fx, ↓reduceIte, Nat.reduceEqDiff, Nat.reduceLT, Nat.reduceLeDiff, Nat.reduceAdd, Nat.reduceSub, Nat.reduceMul, Int.reduceLT, Int.reduceLE, Int.reduceToNat, BitVec.reduceOfInt, BitVec.reduceToNat, reduceCtorEq, and_self, decide_true, decide_false, Bool.not_true, Bool.not_false, ne_eq, not_true_eq_false, not_false_eq_true, true_and, and_true]
      refine hK _ _ fun S1 h1 => ?_; clear hK K
      simp only [ThenE]
      exact ⟨h1, trivial⟩
    · subst h
      refine EWp.skip ?_
      simp only [ThenE]
      exact ⟨rfl, trivial⟩
  rintro S' w8' ⟨rfl, hw⟩
  rw [hw]; clear hw w8'
  have three : Calls Tryd.prog 31 #[(SV.nat (kd kj)).val, (SV.sl ab 108 cb).val, (SV.sl none 0 0).val] w6 fun e w' => ∃ v', e = .returned (SV.tup2 v' (.bool (decide (kd kj = kd ki)))).val ∧ Grow w6 w' := by
    by_cases h0 : kd kj = kd ki
    · obtain rfl := kd_inj h0
      refine (unI kj _ (cat tt) _ [] _ (hko.grow hg) hb1 (txsNil _) ⟨by simp, by simp [cat]⟩ (by omega)).mono ?_
      rintro e w' ⟨v', rfl, _, hg'⟩
      exact ⟨v', by simp, hg'⟩
    · refine (unIF kj _ _ _ [] _ hb1 (by rw [hml]; omega) (.inr ?_)).mono ?_
      · rw [show (marB ki (cat tt)).take 4 = magicB ki from List.take_left' (magicB_len ki)]
        exact fun h => h0 (by rw [magic_inj h])
      · rintro e w' ⟨rfl, hg'⟩
        exact ⟨.sl none 0 0, by simp [h0], hg'⟩
  refine EWp.seqR [4, 11, 15, 17, 18, 20] fun K hK => ?_
  simp only [ev, fx, ↓reduceIte, Nat.reduceEqDiff, Nat.reduceLT, Nat.reduceLeDiff, Nat.reduceAdd, Nat.reduceSub, Nat.reduceMul, Int.reduceLT, Int.reduceLE, Int.reduceToNat, BitVec.reduceOfInt, BitVec.reduceToNat, reduceCtorEq, and_self, decide_true, decide_false, Bool.not_true, Bool.not_false, ne_eq, not_true_eq_false, not_false_eq_true, true_and, and_true]
  refine SemE.call fn_31 rfl rfl three ?_
  rintro _ w7 ⟨v7, rfl, hg7⟩
  refine ⟨_, rfl, ?_⟩
  have hg := hg.trans hg7
  clear three
  simp only [ev, fx, ↓reduceIte, Nat.reduceEqDiff, Nat.reduceLT, Nat.reduceLeDiff, Nat.reduceAdd, Nat.reduceSub, Nat.reduceMul, Int.reduceLT, Int.reduceLE, Int.reduceToNat, BitVec.reduceOfInt, BitVec.reduceToNat, reduceCtorEq, and_self, decide_true, decide_false, Bool.not_true, Bool.not_false, ne_eq, not_true_eq_false, not_false_eq_true, true_and, and_true]
  repeat (refine And.intro (by omega) ?_)
  refine hK _ _ ?_; clear hK K
  refine EWp.seqR [10] fun K hK => ?_
  simp only [ev, fx, ↓reduceIte, Nat.reduceEqDiff, Nat.reduceLT, Nat.reduceLeDiff, Nat.reduceAdd, Nat.reduceSub, Nat.reduceMul, Int.reduceLT, Int.reduceLE, Int.reduceToNat, BitVec.reduceOfInt, BitVec.reduceToNat, reduceCtorEq, and_self, decide_true, decide_false, Bool.not_true, Bool.not_false, ne_eq, not_true_eq_false, not_false_eq_true, true_and, and_true]
  refine SemE.plain (.bool true) (Plain.cast (Plain.eqlBool (a := decide (n = 0)) (b := decide (n = 0)) Tryd.underlying4 rfl rfl) (by simp)) rfl ?_
  simp only [ev, fx, ↓reduceIte, Nat.reduceEqDiff, Nat.reduceLT, Nat.reduceLeDiff, Nat.reduceAdd, Nat.reduceSub, Nat.reduceMul, Int.reduceLT, Int.reduceLE, Int.reduceToNat, BitVec.reduceOfInt, BitVec.reduceToNat, reduceCtorEq, and_self, decide_true, decide_false, Bool.not_true, Bool.not_false, ne_eq, not_true_eq_false, not_false_eq_true, true_and, and_true]
  refine SemE.plain (.bool true) (Plain.cast (Plain.eqlBool (a := decide (kd kj = kd ki)) (b := decide (kd kj = kd ki)) Tryd.underlying4 rfl rfl) (by simp)) rfl ?_
  simp only [ev, fx, ↓reduceIte, Nat.reduceEqDiff, Nat.reduceLT, Nat.reduceLeDiff, Nat.reduceAdd, Nat.reduceSub, Nat.reduceMul, Int.reduceLT, Int.reduceLE, Int.reduceToNat, BitVec.reduceOfInt, BitVec.reduceToNat, reduceCtorEq, and_self, decide_true, decide_false, Bool.not_true, Bool.not_false, ne_eq, not_true_eq_false, not_false_eq_true, true_and, and_true]
  repeat (refine And.intro (by omega) ?_)
  refine hK _ _ ?_; clear hK K
  exact EWp.ret (BodyE.tmp1 rfl rfl ⟨rfl, hg⟩)
end Go.Proofs.YtkfblgkicopjjaaDoor
