/- A rule more: an element of an array that is held as a value. -/
import Derived.Test.YtikejalfiaindaaFacts
set_option linter.unusedVariables false
set_option linter.unusedSimpArgs false
namespace Go.Proofs.Ytikejalfiaindaa
open Go

section
variable {P : Program} {n : Nat} {S : Env} {w : World} {K : Env → World → Prop}
theorem run_part1 {e : TypeId} (he : plain1 P e = true) (cs : Array Value) (i : Nat) (v : Value) (hv : cs[i]? = some v) (w : World) : (part e cs i).run P w = .ok v w := by
  unfold plain1 at he
  rw [Bool.and_eq_true] at he
  cases hu : P.underlying e with
  | none => rw [hu] at he; cases he.1
  | some d =>
    rw [hu] at he
    cases d <;> first | (cases he.1; done) | simp [part, isAgg, run_underlying hu, hv]
theorem Plain.index {dst : Option Tmp} {t e : TypeId} {x y : Operand} {ty : TypeId} {pos : String} {after : Array Edge} {g : Option (Nat × Bool)} {m i : Nat} {cs : List SV} {v : SV} (ht : P.underlying t = some (.array m e)) (he : plain1 P e = true)
    (hx : S.op x = some (SV.agg cs)) (hy : S.op y = some (.nat i)) (hi : i < m) (hv : cs[i]? = some v) : Plain P n S ⟨dst, .index t x y, ty, pos, after, g⟩ v := fun a ha w => by
  have hs : (sizeOf e).run P w = .ok 1 w := by
    unfold plain1 at he
    rw [Bool.and_eq_true] at he
    have h2 := he.2
    cases hinf : P.info? e with
    | none => rw [hinf] at h2; cases h2
    | some inf =>
      rw [hinf] at h2
      simp [sizeOf, typeInfo, hinf]
      simpa using h2
  have hp := run_part1 he (cs.map SV.val).toArray i v.val (by simp [hv]) w
  have h1 : (0 : Int) ≤ (i : Int) ∧ (i : Int) < (m : Int) := by omega
  have hrun : (Instr.index t (SV.agg cs).val (SV.nat i).val).run P w = .ok v.val w := by
    rw [SV.agg_val]
    simp [Instr.index, SV.val, asIntOf, run_underlying ht, h1, hs, hp]
    intro h; omega
  simp [execOp, ha.eval hx, ha.eval hy, hrun]
end
end Go.Proofs.Ytikejalfiaindaa
