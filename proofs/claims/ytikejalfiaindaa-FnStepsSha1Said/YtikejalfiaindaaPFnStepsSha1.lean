/-
  FnStepsSha1: what was told does not change what follows: sums come behind what they are put behind, one that begins anew is as at first, one that was kept as bytes goes on; the arguments read as they did.
-/
import Derived.Test.YtikejalfiaindaaRows
import Derived.Test.YtikejalfiaindaaSw1
import Derived.Test.YtikejalfiaindaaRow
import Derived.ProofKit
import Derived.OpenShut
set_option linter.unusedVariables false
namespace Go.Proofs.Ytikejalfiaindaa.fnStepsSha1
open Go Go.ChangeShapes Go.WideShapes Go.ChangeAt Go.RowKit

theorem own : ownKnob Try.prog.godebug = none := by kernel_rfl
theorem laidOut : laidOutB Try.prog = true := by kernel_rfl
theorem cells_uint8 : Try.prog.cellsOf 5 = 1 := by kernel_rfl
theorem cells_row : Try.prog.cellsOf 23 = 1 := by kernel_rfl

set_option maxRecDepth 100000 in
theorem lifted (os : Os) (started : os.Started) (H : Type) (enc : TypeId × Value → H) :
    ReturnsInHanded {} Try.checked os 12 .any (Rows.fnStepsSha1Spec.pre6 enc Try.prog Try.f12 Rows.fnStepsSha1Row.domain false) (Rows.fnStepsSha1Spec.post enc Try.prog Try.f12 false true false false) := by
  refine returnsInHanded_of_change (C := Try.checked) own started (by kernel_rfl) Try.func12
    (ChangeSpec.witness6 (enc := enc) (C := Try.checked) false ⟨#[], #[.slice none 0 0, .slice none 0 0], []⟩ 8 (by kernel_rfl) (by kernel_rfl) (by kernel_rfl) (by kernel_rfl)) ?_
  intro W base args ds gs before hval0 hW hcnd _
  have hval : ∀ (j : Nat) t v, Try.f12.params[j]? = some t → args[j]? = some v → Value.okWide Try.prog W .any base t v := hval0
  have hW' := hW
  obtain ⟨p, q, hA0, hV, rfl, hfz, hnd⟩ := hW
  have hA : DataW.TrodAll enc Try.prog W 0 (fun _ => true) true Try.f12.params.toList args.toList ds p := hA0
  rw [Try.params12] at hA hval
  obtain ⟨v0, vs0, d0, ds0, p0, q0, hargs, rfl, rfl, h0, r0⟩ := trodAll_cons hA
  obtain ⟨v1, vs1, d1, ds1, p1, q1, rfl, rfl, rfl, h1, r1⟩ := trodAll_cons r0
  obtain ⟨rfl, rfl, rfl⟩ := trodAll_nil r1
  obtain rfl : args = #[v0, v1] := by cases args; simp_all
  obtain ⟨a0, n0, c0, x0, rfl, lc0, lm0, ln0, la0, rd0⟩ := openB Try.underlying23 Try.underlying5 cells_uint8 (hval 0 23 v0 rfl rfl) h0
  obtain ⟨a1, n1, c1, x1, rfl, lc1, lm1, ln1, la1, rd1⟩ := openD Try.underlying30 Try.underlying23 Try.underlying5 cells_row cells_uint8 (hval 1 30 v1 rfl rfl) h1
  clear hA0 hval0
  refine (lawSteps1 _ x0 _ x1 W (Txt.mk rd0 ln0 lc0 la0) (Txs.mk rd1 ln1 lc1 la1)).mono fun e W' ⟨he, hg⟩ => ?_
  subst he
  exact ⟨_, rfl, lawPost laidOut (by kernel_rfl) rfl Try.underlying4 rfl ⟨rfl, rfl, rfl⟩ hW' hg⟩

theorem over : Rows.fnStepsSha1Row.holds Try.pinned (OpenSpec.ofChange Rows.fnStepsSha1Spec) :=
  OpenClaim.holds_of_wide 12 Try.f12 rfl rfl rfl rfl rfl rfl rfl ⟨rfl, rfl, rfl, rfl, rfl⟩ rfl rfl rfl rfl rfl (by kernel_rfl) Try.func12 (by kernel_rfl)
    (of_decide_eq_true (by kernel_rfl)) (by unfold Func.isWrapper; first | (rw [if_pos (by decide +kernel)]; kernel_rfl) | (rw [if_neg (by decide +kernel)]; exact ⟨rfl, rfl⟩))
    (fun os started H enc _ => lifted os started H enc)

theorem proved : Rows.FnStepsSha1Said :=
  over
#print axioms proved
end Go.Proofs.Ytikejalfiaindaa.fnStepsSha1
