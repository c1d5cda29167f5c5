/-
  FnConstantRoot32: a constant of 32 bits is the first bits behind the point of the third root of its prime; the argument reads as it did. The package's table of constants holds what the program's text lays.
-/
import Derived.Test.YtloonhdnheobpaaDoorRows
import Derived.Test.YtloonhdnheobpaaDoorCards
import Derived.Test.YtloonhdnheobpaaDoorTie
import Derived.Test.YtloonhdnheobpaaDoorRte2
import Derived.Test.YtloonhdnheobpaaDoorLdc2
import Derived.Test.YtloonhdnheobpaaDoorRow
import Derived.ProofKit
import Derived.OpenShut
import Derived.SevenTiedAt
set_option linter.unusedVariables false
namespace Go.Proofs.YtloonhdnheobpaaDoor.fnConstantRoot32
open Go Go.ChangeShapes Go.WideShapes Go.ChangeAt Go.RowKit

set_option maxRecDepth 100000 in
theorem lifted (os : Os) (started : os.Started) (H : Type) (enc : TypeId × Value → H) :
    ReturnsInHanded {} Tryd.checked os 6 .any (fun w args => (Rows.fnConstantRoot32Spec.pre enc Tryd.prog Tryd.f6 [] false w args ∧ laidMetH Tryd.prog laidK w) ∧ sizedMet enc Tryd.prog Tryd.f6 (OpenSpec.ofChange Rows.fnConstantRoot32Spec) false w args)
      (Rows.fnConstantRoot32Spec.post enc Tryd.prog Tryd.f6 false true false false) := by
  refine returnsInHanded_of_change_and (C := Tryd.checked) (X := fun w _ => laidMetH Tryd.prog laidK w) (fun _ _ _ hh h => h.of_heap hh) own started (by kernel_rfl) Tryd.func6
    (ChangeSpec.witness_shaped (enc := enc) (C := Tryd.checked) (os := os) (X := fun w _ => laidMetH Tryd.prog laidK w) false (World.doorLaid Tryd.prog 400 os) #[.int .u8 0] 8 rfl (World.shaped_of_RefB (by kernel_rfl) (by kernel_rfl)) (by kernel_rfl) (by kernel_rfl) (by kernel_rfl) (door_met os _)) ?_
  intro W base args ds gs before hval0 hW _ _ hL _
  have hval : ∀ (j : Nat) t v, Tryd.f6.params[j]? = some t → args[j]? = some v → Value.okWide Tryd.prog W .any base t v := hval0
  have hko := KO_of_laid hL
  have hW' := hW
  obtain ⟨p, q, hA0, hV, rfl, hfz, hnd⟩ := hW
  have hA : DataW.TrodAll enc Tryd.prog W 0 (fun _ => true) true Tryd.f6.params.toList args.toList ds p := hA0
  obtain ⟨_, _, _, _, gd, _, rfl, _, _, _, _, _⟩ := trodVars_one hV
  rw [Tryd.params6] at hA hval
  obtain ⟨v0, vs0, d0, ds0, p0, q0, hargs, rfl, rfl, h0, r0⟩ := trodAll_cons hA
  obtain ⟨rfl, rfl, rfl⟩ := trodAll_nil r0
  obtain rfl : args = #[v0] := by cases args; simp_all
  obtain ⟨z0, rfl, rfl, rfl, w0⟩ := open_int Tryd.underlying5 (hval 0 5 v0 rfl rfl) h0
  rw [wf_u8 w0] at hW' ⊢
  clear hA0 hval0
  refine (lawRoot32 (BitVec.ofInt 8 z0) W hko).mono fun e W' ⟨he, hg⟩ => ?_
  subst he
  exact ⟨_, rfl, lawPostV laidOut (by kernel_rfl) rfl Tryd.underlying4 (by kernel_rfl) ⟨rfl, rfl, rfl⟩ hW' hg⟩

theorem over : Rows.fnConstantRoot32Row.holds Tryd.pinned (OpenSpec.ofChange Rows.fnConstantRoot32Spec) :=
  OpenClaim.holds_of_wide 6 Tryd.f6 rfl rfl rfl rfl rfl rfl rfl ⟨rfl, rfl, rfl, rfl, rfl⟩ rfl rfl rfl rfl rfl (by kernel_rfl) Tryd.func6 (by kernel_rfl)
    (of_decide_eq_true (by kernel_rfl)) (by unfold Func.isWrapper; first | (rw [if_pos (by decide +kernel)]; kernel_rfl) | (rw [if_neg (by decide +kernel)]; exact ⟨rfl, rfl⟩))
    (fun os started H enc _ => lifted os started H enc)

theorem carded : Rows.FnConstantRoot32CardSaid :=
  Claim7.holds_tied_plain_at .later [] [.data] true (true, "f221f736d1fcfed224649c96c5768a2f3dd76d8b201f86b41d6f60f44b9e8426") false
    over (fun _ h => by cases h) (by kernel_rfl) (fun _ h => by cases h) fnConstantRoot32_row_tie rfl ⟨rfl, rfl⟩ (by kernel_rfl) rfl
    (fun f fn hf hfn => by
      obtain rfl : f = 6 := Option.some.inj ((show Tryd.prog.funcNamed "loop.example/pub-g03426/laws.FnConstantRoot32" = some 6 by kernel_rfl).symm.trans hf) |>.symm
      obtain rfl : fn = Tryd.f6 := (Option.some.inj (Tryd.func6.symm.trans hfn)).symm
      exact ⟨by kernel_rfl, fun j t ht => by
        rw [Tryd.params6] at ht
        have hm : t ∈ [5] := by simpa using Array.mem_of_getElem? ht
        have hall : ([5].all fun u => !Tryd.prog.wantsStandIn u) = true := by kernel_rfl
        exact (show Tryd.prog.wantsStandIn t = false by simpa using List.all_eq_true.1 hall t hm)⟩)
    (by kernel_rfl)
#print axioms carded
end Go.Proofs.YtloonhdnheobpaaDoor.fnConstantRoot32
