/- More rules: the least of two numbers; the head and the rest of a text. -/
import Derived.Test.YtggbaffkjfofhaaDoorFacts
set_option linter.unusedVariables false
set_option linter.unusedSimpArgs false
namespace Go.Proofs.YtggbaffkjfofhaaDoor
open Go

section
variable {P : Program} {n : Nat} {S : Env} {w : World} {K : Env → World → Prop}

theorem Plain.min {dst : Option Tmp} {x y : Operand} {ts : Array TypeId} {ty : TypeId} {pos : String} {after : Array Edge} {g : Option (Nat × Bool)} {a b : Nat} (hx : S.op x = some (.nat a)) (hy : S.op y = some (.nat b)) :
    Plain P n S ⟨dst, .call { callee := .builtin .min, args := #[x, y], argTypes := ts }, ty, pos, after, g⟩ (.nat (Min.min a b)) := fun av hav w => by
  have e : (Builtin.min_ ts ty #[(SV.nat a).val, (SV.nat b).val]).run P w = .ok (SV.nat (Min.min a b)).val w := by
    show Result.ok (Value.int IntKind.i64 (if (b : Int) < (a : Int) then (b : Int) else (a : Int))) w = _
    by_cases h : b < a
    · rw [if_pos (by omega), Nat.min_eq_right (by omega)]; rfl
    · rw [if_neg (by omega), Nat.min_eq_left (by omega)]; rfl
  simp [execOp, resolve, hav.eval hx, hav.eval hy, invoke, builtin, e]

theorem Txt.take {a : Option Addr} {m c : Nat} {T : List (BitVec 8)} (h : Txt w (.sl a m c) T) (k : Nat) (hk : k ≤ m) : Txt w (.sl a k c) (T.take k) := by
  obtain ⟨a', c', he, hc, ha, hr⟩ := h
  cases he
  exact Txt.mk (by rw [List.map_take]; exact hr.take _) (by simp; omega) (by omega) (fun h => by have := ha h; omega)
end
end Go.Proofs.YtggbaffkjfofhaaDoor
