/- Comparisons and texts. -/
import Derived.Test.YtloonhdnheobpaaMem2
import Derived.Laws.Pointers
import Derived.Laws.Small
import Derived.Laws.BytesString
set_option linter.unusedVariables false
set_option linter.unusedSimpArgs false
namespace Go.Proofs.Ytloonhdnheobpaa
open Go

section
variable {P : Program} {n : Nat} {S : Env} {w : World} {K : Env → World → Prop}

/-- An operation that yields v in every world and changes nothing. -/
def Plain (P : Program) (n : Nat) (S : Env) (o : Oper) (v : SV) : Prop := ∀ a, Holds n S a → ∀ w, (execOp a.eval o).run P w = .ok (.value v.val) w

theorem SemE.plain {o : Oper} (v : SV) (hp : Plain P n S o v) (hd : okB n o.dst = true) (h : K (S.put o.dst v) w) : SemE P n S w o K := SemE.value v hd (fun a ha => hp a ha w) h
theorem Quiet.plain {o : Oper} {v : SV} (hp : Plain P n S o v) : Quiet P n S w o v := fun a ha w' _ => .inl (hp a ha w')

def ptrT (P : Program) (t : TypeId) : Bool := match P.underlying t with
  | some (.pointer e) => Nat.beq e (P.pointee t)
  | _ => false
theorem ptrT_spec {t : TypeId} (h : ptrT P t = true) : P.underlying t = some (.pointer (P.pointee t)) := by
  unfold ptrT at h
  cases hu : P.underlying t with
  | none => rw [hu] at h; cases h
  | some d =>
    rw [hu] at h
    cases d <;> first | (rw [← Nat.eq_of_beq_eq_true h]; done) | cases h

theorem Plain.eqlNil {dst : Option Tmp} {t t' : TypeId} {x y : Operand} {ty : TypeId} {pos : String} {after : Array Edge} {g : Option (Nat × Bool)} {v : SV} (p : Option Addr) (ht : ptrT P t = true) (hx : S.op x = some v) (hv : v.val = .pointer p)
    (hy : S.op y = some (.raw (.pointer none))) : Plain P n S ⟨dst, .binOp .eql t x y t', ty, pos, after, g⟩ (.bool p.isNone) := fun a ha w => by
  simp [execOp, ha.eval hx, ha.eval hy, hv, eqGuard, run_eql_pointer_nil w t p (ptrT_spec ht), SV.val]
theorem Plain.neqNil {dst : Option Tmp} {t t' : TypeId} {x y : Operand} {ty : TypeId} {pos : String} {after : Array Edge} {g : Option (Nat × Bool)} {v : SV} (p : Option Addr) (ht : ptrT P t = true) (hx : S.op x = some v) (hv : v.val = .pointer p)
    (hy : S.op y = some (.raw (.pointer none))) : Plain P n S ⟨dst, .binOp .neq t x y t', ty, pos, after, g⟩ (.bool (!p.isNone)) := fun a ha w => by
  simp [execOp, ha.eval hx, ha.eval hy, hv, eqGuard, run_neq_pointer_nil w t p (ptrT_spec ht), SV.val]
end
end Go.Proofs.Ytloonhdnheobpaa
