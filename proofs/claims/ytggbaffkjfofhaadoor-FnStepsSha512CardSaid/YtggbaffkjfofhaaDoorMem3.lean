/- Comparisons and texts. -/
import Derived.Test.YtggbaffkjfofhaaDoorMem2
import Derived.Laws.Pointers
import Derived.Laws.Small
import Derived.Laws.BytesString
import Derived.Laws.Rows
import Derived.Laws.Cover3
set_option linter.unusedVariables false
set_option linter.unusedSimpArgs false
namespace Go.Proofs.YtggbaffkjfofhaaDoor
open Go

section
variable {P : Program} {n : Nat} {S : Env} {w : World} {K : Env → World → Prop}

/-- An operation that yields v in every world and changes nothing. -/
def Plain (P : Program) (n : Nat) (S : Env) (o : Oper) (v : SV) : Prop := ∀ a, Holds n S a → ∀ w, (execOp a.eval o).run P w = .ok (.value v.val) w

theorem SemE.plain {o : Oper} (v : SV) (hp : Plain P n S o v) (hd : okB n o.dst = true) (h : K (S.put o.dst v) w) : SemE P n S w o K := SemE.value v hd (fun a ha => hp a ha w) h
theorem Quiet.plain {o : Oper} {v : SV} (hp : Plain P n S o v) : Quiet P n S w o v := fun a ha w' _ => .inl (hp a ha w')

def ptrT (P : Program) (t : TypeId) : Bool := match P.underlying t with
  | some (.pointer e) => Nat.beq e (P.pointee t)
  | _ => false
theorem ptrT_spec {t : TypeId} (h : ptrT P t = true) : P.underlying t = some (.pointer (P.pointee t)) := by
  unfold ptrT at h
  cases hu : P.underlying t with
  | none => rw [hu] at h; cases h
  | some d =>
    rw [hu] at h
    cases d <;> first | (rw [← Nat.eq_of_beq_eq_true h]; done) | cases h

theorem Plain.eqlNil {dst : Option Tmp} {t t' : TypeId} {x y : Operand} {ty : TypeId} {pos : String} {after : Array Edge} {g : Option (Nat × Bool)} {v : SV} (p : Option Addr) (ht : ptrT P t = true) (hx : S.op x = some v) (hv : v.val = .pointer p)
    (hy : S.op y = some (.raw (.pointer none))) : Plain P n S ⟨dst, .binOp .eql t x y t', ty, pos, after, g⟩ (.bool p.isNone) := fun a ha w => by
  simp [execOp, ha.eval hx, ha.eval hy, hv, eqGuard, run_eql_pointer_nil w t p (ptrT_spec ht), SV.val]
theorem Plain.neqNil {dst : Option Tmp} {t t' : TypeId} {x y : Operand} {ty : TypeId} {pos : String} {after : Array Edge} {g : Option (Nat × Bool)} {v : SV} (p : Option Addr) (ht : ptrT P t = true) (hx : S.op x = some v) (hv : v.val = .pointer p)
    (hy : S.op y = some (.raw (.pointer none))) : Plain P n S ⟨dst, .binOp .neq t x y t', ty, pos, after, g⟩ (.bool (!p.isNone)) := fun a ha w => by
  simp [execOp, ha.eval hx, ha.eval hy, hv, eqGuard, run_neq_pointer_nil w t p (ptrT_spec ht), SV.val]

/-- A struct that is built out of its parts. -/
theorem SemE.build {dst : Option Tmp} {t : TypeId} {ps : List (Nat × Operand)} {ty : TypeId} {pos : String} {after : Array Edge} {g : Option (Nat × Bool)} (cs : List SV) (hd : okB n dst = true)
    (hb : ∀ a, Holds n S a → P.built t (ps.map fun x => (x.1, a.eval x.2)) = some (cs.map SV.val).toArray) (h : K (S.put dst (SV.agg cs)) w) : SemE P n S w ⟨dst, .build t ps.toArray, ty, pos, after, g⟩ K :=
  SemE.value (SV.agg cs) hd (fun a ha => by
    have := run_build (P := P) w t (ps.map fun x => (x.1, a.eval x.2)).toArray _ (hb a ha)
    simp [execOp] at this ⊢
    rw [this]
    rfl) h

def arrN (P : Program) (t : TypeId) (k : Nat) : Bool := match P.underlying t with
  | some (.array m _) => Nat.beq m k
  | _ => false

theorem Plain.toArray {dst : Option Tmp} {t : TypeId} {x : Operand} {ty : TypeId} {pos : String} {after : Array Edge} {g : Option (Nat × Bool)} {p : Addr} {m c k : Nat} (ht : arrN P t k = true) (hx : S.op x = some (.sl (some p) m c)) (hk : k ≤ m) :
    Plain P n S ⟨dst, .sliceToArrayPointer t x, ty, pos, after, g⟩ (.ptr p) := fun a ha w => by
  unfold arrN at ht
  cases hu : P.underlying t with
  | none => rw [hu] at ht; cases ht
  | some d =>
    rw [hu] at ht
    cases d <;> try cases ht
    rename_i m' e
    have := Nat.eq_of_beq_eq_true ht
    subst this
    simp [execOp, ha.eval hx, SV.val, run_arrayAt w t e m' (some p) m c hu hk]

theorem bodyCellA {fn : Func} {R : Ending → World → Prop} {ex : Exit} {t : Nat} {ty bt : TypeId} {b : Nat} {cs : List SV} (hex : ex = .ret ∨ ex = .normal) (hr : fn.results = #[.cell t ty]) (hv : S.get t = some (.ptr ⟨b, 0, none⟩)) (ht : aggN P ty cs.length = true)
    (hb : w.heap[b]? = some (.cells (cs.map SV.val).toArray bt (0, 0))) (h : R (.returned (SV.agg cs).val) w) : BodyE P n fn R ex S w := by
  have main : ∀ a, Holds n S a → ∃ v, (results fn a.tmps).run P w = .ok v w ∧ R (.returned v) w := fun a ha => by
    have hp : a.tmps.getD t undef = .pointer (some ⟨b, 0, none⟩) := by
      have := ha.slots t _ hv
      simp [this, SV.val]
    unfold aggN at ht
    rw [Bool.and_eq_true] at ht
    cases hu : P.underlying ty with
    | none => rw [hu] at ht; cases ht.1
    | some d =>
      have h1 := ht.1
      rw [hu] at h1
      refine ⟨_, results_cell_row hr a.tmps w b bt _ (0, 0) d hp hb hu (by cases d <;> first | rfl | cases h1) ?_, h⟩
      have h2 := ht.2
      cases hi : P.info? ty with
      | none => rw [hi] at h2; cases h2
      | some i => rw [hi] at h2; simpa using h2
  rcases hex with rfl | rfl <;> exact main
end
end Go.Proofs.YtggbaffkjfofhaaDoor
