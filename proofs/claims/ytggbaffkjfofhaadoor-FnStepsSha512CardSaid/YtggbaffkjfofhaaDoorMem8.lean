/- More rules: an error and nil; a struct of one string that is boxed. -/
import Derived.Test.YtggbaffkjfofhaaDoorFacts
import Derived.Stop.IfaceNil
set_option linter.unusedVariables false
set_option linter.unusedSimpArgs false
namespace Go.Proofs.YtggbaffkjfofhaaDoor
open Go

section
variable {P : Program} {n : Nat} {S : Env} {w : World} {K : Env → World → Prop}

/-- An error: nil if b, else held. -/
def ErrV (b : Bool) (v : SV) : Prop := (b = true ∧ v = .raw .nilIface) ∨ (b = false ∧ ∃ u x, v = .raw (.iface u x))
theorem ErrV.nil : ErrV true (.raw .nilIface) := .inl ⟨rfl, rfl⟩
theorem ErrV.held (u : TypeId) (x : Value) : ErrV false (.raw (.iface u x)) := .inr ⟨rfl, u, x, rfl⟩

theorem Plain.eqlErr {dst : Option Tmp} {t t' : TypeId} {x : Operand} {ty : TypeId} {pos : String} {after : Array Edge} {g : Option (Nat × Bool)} {b : Bool} {v : SV} (ht : P.isIface t = true) (hx : S.op x = some v) (hv : ErrV b v) :
    Plain P n S ⟨dst, .binOp .eql t x (.const .nilIface) t', ty, pos, after, g⟩ (.bool b) := fun a ha w => by
  have hy : a.eval (.const .nilIface) = .nilIface := rfl
  rcases hv with ⟨rfl, rfl⟩ | ⟨rfl, u, z, rfl⟩
  · simp [execOp, ha.eval hx, hy, eqGuard, run_eql_nil_nil_at w t ht, SV.val]
  · simp [execOp, ha.eval hx, hy, eqGuard, run_eql_iface_nil w t ht u z, SV.val]

theorem Plain.neqErr {dst : Option Tmp} {t t' : TypeId} {x : Operand} {ty : TypeId} {pos : String} {after : Array Edge} {g : Option (Nat × Bool)} {b : Bool} {v : SV} (ht : P.isIface t = true) (hx : S.op x = some v) (hv : ErrV b v) :
    Plain P n S ⟨dst, .binOp .neq t x (.const .nilIface) t', ty, pos, after, g⟩ (.bool (!b)) := fun a ha w => by
  have hy : a.eval (.const .nilIface) = .nilIface := rfl
  rcases hv with ⟨rfl, rfl⟩ | ⟨rfl, u, z, rfl⟩
  · simp [execOp, ha.eval hx, hy, eqGuard, run_neq_nil_nil_at w t ht, SV.val]
  · simp [execOp, ha.eval hx, hy, eqGuard, run_neq_iface_nil w t ht u z, SV.val]

def concT (P : Program) (t : TypeId) : Bool := match P.underlying t with
  | some (.interface _) => false
  | some _ => true
  | none => false

theorem Plain.makeIface {dst : Option Tmp} {t : TypeId} {x : Operand} {ty : TypeId} {pos : String} {after : Array Edge} {g : Option (Nat × Bool)} {v : SV} (ht : concT P t = true) (hx : S.op x = some v) :
    Plain P n S ⟨dst, .makeInterface t x, ty, pos, after, g⟩ (.raw (.iface t v.val)) := fun a ha w => by
  unfold concT at ht
  cases hu : P.underlying t with
  | none => rw [hu] at ht; cases ht
  | some d =>
    rw [hu] at ht
    have hrun : (Instr.makeInterface t v.val).run P w = .ok (.iface t v.val) w := by
      unfold Instr.makeInterface
      cases d <;> first | (cases ht; done) | simp [run_underlying hu]
    simp [execOp, ha.eval hx, hrun, SV.val]
end

theorem iface_error : Tryd.prog.isIface 63 = true := by kernel_rfl
theorem conc_err : concT Tryd.prog 91 = true := by kernel_rfl

set_option maxRecDepth 100000 in
theorem errorsNew (s : ByteArray) (w : World) : Calls Tryd.prog 54 #[(SV.raw (.string s)).val] w fun e w' => ∃ v, e = .returned v.val ∧ ErrV false v ∧ Grow w w' := by
  refine calls_E [.raw (.string s)] Tryd.func54 rfl Tryd.ntmps54 rfl ?_
  refine EWp.seqR [0] fun K hK => ?_
  simp only [ev, fx, ↓reduceIte, Nat.reduceEqDiff, Nat.reduceLT, Nat.reduceLeDiff, Nat.reduceAdd, Nat.reduceSub, Nat.reduceMul, Int.reduceLT, Int.reduceLE, Int.reduceToNat, BitVec.reduceOfInt, BitVec.reduceToNat, reduceCtorEq, and_self, decide_true, decide_false, Bool.not_true, Bool.not_false, ne_eq, not_true_eq_false, not_false_eq_true, true_and, and_true]
  repeat (refine And.intro (by omega) ?_)
  refine hK _ _ ?_; clear hK K
  refine EWp.seqR [2] fun K hK => ?_
  simp only [ev, fx, ↓reduceIte, Nat.reduceEqDiff, Nat.reduceLT, Nat.reduceLeDiff, Nat.reduceAdd, Nat.reduceSub, Nat.reduceMul, Int.reduceLT, Int.reduceLE, Int.reduceToNat, BitVec.reduceOfInt, BitVec.reduceToNat, reduceCtorEq, and_self, decide_true, decide_false, Bool.not_true, Bool.not_false, ne_eq, not_true_eq_false, not_false_eq_true, true_and, and_true]
  refine SemE.build [.raw (.string s)] rfl (fun av ha => ?_) ?_
  · show Tryd.prog.built _ [(0, av.eval (.tmp 3))] = _
    rw [ha.eval (v := SV.raw (.string s)) rfl]
    kernel_rfl
  simp only [ev, fx, ↓reduceIte, Nat.reduceEqDiff, Nat.reduceLT, Nat.reduceLeDiff, Nat.reduceAdd, Nat.reduceSub, Nat.reduceMul, Int.reduceLT, Int.reduceLE, Int.reduceToNat, BitVec.reduceOfInt, BitVec.reduceToNat, reduceCtorEq, and_self, decide_true, decide_false, Bool.not_true, Bool.not_false, ne_eq, not_true_eq_false, not_false_eq_true, true_and, and_true]
  refine SemE.boxA (HL.start w) rfl rfl fun b w1 hb hl => ?_
  simp only [ev, fx, ↓reduceIte, Nat.reduceEqDiff, Nat.reduceLT, Nat.reduceLeDiff, Nat.reduceAdd, Nat.reduceSub, Nat.reduceMul, Int.reduceLT, Int.reduceLE, Int.reduceToNat, BitVec.reduceOfInt, BitVec.reduceToNat, reduceCtorEq, and_self, decide_true, decide_false, Bool.not_true, Bool.not_false, ne_eq, not_true_eq_false, not_false_eq_true, true_and, and_true]
  refine SemE.plain _ (Plain.makeIface conc_err rfl) rfl ?_
  simp only [ev, fx, ↓reduceIte, Nat.reduceEqDiff, Nat.reduceLT, Nat.reduceLeDiff, Nat.reduceAdd, Nat.reduceSub, Nat.reduceMul, Int.reduceLT, Int.reduceLE, Int.reduceToNat, BitVec.reduceOfInt, BitVec.reduceToNat, reduceCtorEq, and_self, decide_true, decide_false, Bool.not_true, Bool.not_false, ne_eq, not_true_eq_false, not_false_eq_true, true_and, and_true]
  repeat (refine And.intro (by omega) ?_)
  refine hK _ _ ?_; clear hK K
  exact EWp.ret (BodyE.tmp1 rfl rfl ⟨_, rfl, ErrV.held _ _, hl.toGrow⟩)
end Go.Proofs.YtggbaffkjfofhaaDoor
