/-
  FnBlockSha1Apart: the blocks of SHA-1 take a state up one behind the other, for every state and two texts; the arguments read as they did. No condition.
-/
import Derived.Test.YtikejalfiaindaaRows
import Derived.Test.YtikejalfiaindaaApB1
import Derived.Test.YtikejalfiaindaaRow
import Derived.ProofKit
import Derived.OpenShut
set_option linter.unusedVariables false
namespace Go.Proofs.Ytikejalfiaindaa.fnBlockSha1Apart
open Go Go.ChangeShapes Go.WideShapes Go.ChangeAt Go.RowKit

theorem own : ownKnob Try.prog.godebug = none := by kernel_rfl
theorem laidOut : laidOutB Try.prog = true := by kernel_rfl
theorem cells_uint32 : Try.prog.cellsOf 50 = 1 := by kernel_rfl
theorem cells_uint8 : Try.prog.cellsOf 5 = 1 := by kernel_rfl

set_option maxRecDepth 100000 in
theorem lifted (os : Os) (started : os.Started) (H : Type) (enc : TypeId × Value → H) :
    ReturnsInHanded {} Try.checked os 4 .any (Rows.fnBlockSha1ApartSpec.pre6 enc Try.prog Try.f4 Rows.fnBlockSha1ApartRow.domain false) (Rows.fnBlockSha1ApartSpec.post enc Try.prog Try.f4 false true false false) := by
  refine returnsInHanded_of_change (C := Try.checked) own started (by kernel_rfl) Try.func4
    (ChangeSpec.witness6 (enc := enc) (C := Try.checked) false ⟨#[], #[.slice none 0 0, .slice none 0 0, .slice none 0 0], []⟩ 8 (by kernel_rfl) (by kernel_rfl) (by kernel_rfl) (by kernel_rfl)) ?_
  intro W base args ds gs before hval0 hW hcnd _
  have hval : ∀ (j : Nat) t v, Try.f4.params[j]? = some t → args[j]? = some v → Value.okWide Try.prog W .any base t v := hval0
  have hW' := hW
  obtain ⟨p, q, hA0, hV, rfl, hfz, hnd⟩ := hW
  have hA : DataW.TrodAll enc Try.prog W 0 (fun _ => true) true Try.f4.params.toList args.toList ds p := hA0
  rw [Try.params4] at hA hval
  obtain ⟨v0, vs0, d0, ds0, p0, q0, hargs, rfl, rfl, h0, r0⟩ := trodAll_cons hA
  obtain ⟨v1, vs1, d1, ds1, p1, q1, rfl, rfl, rfl, h1, r1⟩ := trodAll_cons r0
  obtain ⟨v2, vs2, d2, ds2, p2, q2, rfl, rfl, rfl, h2, r2⟩ := trodAll_cons r1
  obtain ⟨rfl, rfl, rfl⟩ := trodAll_nil r2
  obtain rfl : args = #[v0, v1, v2] := by cases args; simp_all
  obtain ⟨a0, n0, c0, x0, rfl, lc0, lm0, ln0, la0, rd0⟩ := openW Try.underlying22 Try.underlying50 cells_uint32 (hval 0 22 v0 rfl rfl) h0
  obtain ⟨a1, n1, c1, x1, rfl, lc1, lm1, ln1, la1, rd1⟩ := openB Try.underlying23 Try.underlying5 cells_uint8 (hval 1 23 v1 rfl rfl) h1
  obtain ⟨a2, n2, c2, x2, rfl, lc2, lm2, ln2, la2, rd2⟩ := openB Try.underlying23 Try.underlying5 cells_uint8 (hval 2 23 v2 rfl rfl) h2
  clear hA0 hval0
  refine (lawApart1 a0 n0 c0 x0 a1 n1 c1 x1 a2 n2 c2 x2 W rd0 rd1 rd2 ln0 ln1 ln2 la1 la2).mono fun e W' ⟨he, hg⟩ => ?_
  subst he
  exact ⟨_, rfl, lawPost laidOut (by kernel_rfl) rfl Try.underlying4 rfl ⟨rfl, rfl, rfl⟩ hW' hg⟩

theorem over : Rows.fnBlockSha1ApartRow.holds Try.pinned (OpenSpec.ofChange Rows.fnBlockSha1ApartSpec) :=
  OpenClaim.holds_of_wide 4 Try.f4 rfl rfl rfl rfl rfl rfl rfl ⟨rfl, rfl, rfl, rfl, rfl⟩ rfl rfl rfl rfl rfl (by kernel_rfl) Try.func4 (by kernel_rfl)
    (of_decide_eq_true (by kernel_rfl)) (by unfold Func.isWrapper; first | (rw [if_pos (by decide +kernel)]; kernel_rfl) | (rw [if_neg (by decide +kernel)]; exact ⟨rfl, rfl⟩))
    (fun os started H enc _ => lifted os started H enc)

theorem proved : Rows.FnBlockSha1ApartSaid :=
  over
#print axioms proved
end Go.Proofs.Ytikejalfiaindaa.fnBlockSha1Apart
