/-
  FnKeptFailsSha512: kept bytes of which some are missing, or to which some are added, and those of another kind, are refused; the arguments read as they did. The package's table of constants holds what the program's text lays.
-/
import Derived.Test.YtggbaffkjfofhaaDoorRows
import Derived.Test.YtggbaffkjfofhaaDoorCards
import Derived.Test.YtggbaffkjfofhaaDoorTie
import Derived.Test.YtggbaffkjfofhaaDoorKf3
import Derived.Test.YtggbaffkjfofhaaDoorLaid3
import Derived.Test.YtggbaffkjfofhaaDoorRow
import Derived.ProofKit
import Derived.OpenShut
import Derived.SevenTiedAt
set_option linter.unusedVariables false
namespace Go.Proofs.YtggbaffkjfofhaaDoor.fnKeptFailsSha512
open Go Go.ChangeShapes Go.WideShapes Go.ChangeAt Go.RowKit

set_option maxRecDepth 100000 in
theorem lifted (os : Os) (started : os.Started) (H : Type) (enc : TypeId × Value → H) :
    ReturnsInHanded {} Tryd.checked os 11 .any (fun w args => (Rows.fnKeptFailsSha512Spec.pre enc Tryd.prog Tryd.f11 [] false w args ∧ laidMetH Tryd.prog laidK w) ∧ sizedMet enc Tryd.prog Tryd.f11 (OpenSpec.ofChange Rows.fnKeptFailsSha512Spec) false w args)
      (Rows.fnKeptFailsSha512Spec.post enc Tryd.prog Tryd.f11 false true false false) := by
  refine returnsInHanded_of_change_and (C := Tryd.checked) (X := fun w _ => laidMetH Tryd.prog laidK w) (fun _ _ _ hh h => h.of_heap hh) own started (by kernel_rfl) Tryd.func11
    (ChangeSpec.witness_shaped (enc := enc) (C := Tryd.checked) (os := os) (X := fun w _ => laidMetH Tryd.prog laidK w) false (World.doorLaid Tryd.prog 400 os) #[.int .u8 0, .int .u8 0, .slice none 0 0, .int .u8 0, .slice none 0 0] 8 rfl (World.shaped_of_RefB (by kernel_rfl) (by kernel_rfl)) (by kernel_rfl) (by kernel_rfl) (by kernel_rfl) (door_met os _)) ?_
  intro W base args ds gs before hval0 hW _ _ hL _
  have hval : ∀ (j : Nat) t v, Tryd.f11.params[j]? = some t → args[j]? = some v → Value.okWide Tryd.prog W .any base t v := hval0
  have hko := KO_of_laid hL
  have hW' := hW
  obtain ⟨p, q, hA0, hV, rfl, hfz, hnd⟩ := hW
  have hA : DataW.TrodAll enc Tryd.prog W 0 (fun _ => true) true Tryd.f11.params.toList args.toList ds p := hA0
  obtain ⟨_, _, _, _, gd, _, rfl, _, _, _, _, _⟩ := trodVars_one hV
  rw [Tryd.params11] at hA hval
  obtain ⟨v0, vs0, d0, ds0, p0, q0, hargs, rfl, rfl, h0, r0⟩ := trodAll_cons hA
  obtain ⟨v1, vs1, d1, ds1, p1, q1, rfl, rfl, rfl, h1, r1⟩ := trodAll_cons r0
  obtain ⟨v2, vs2, d2, ds2, p2, q2, rfl, rfl, rfl, h2, r2⟩ := trodAll_cons r1
  obtain ⟨v3, vs3, d3, ds3, p3, q3, rfl, rfl, rfl, h3, r3⟩ := trodAll_cons r2
  obtain ⟨v4, vs4, d4, ds4, p4, q4, rfl, rfl, rfl, h4, r4⟩ := trodAll_cons r3
  obtain ⟨rfl, rfl, rfl⟩ := trodAll_nil r4
  obtain rfl : args = #[v0, v1, v2, v3, v4] := by cases args; simp_all
  obtain ⟨z0, rfl, rfl, rfl, w0⟩ := open_int Tryd.underlying5 (hval 0 5 v0 rfl rfl) h0
  rw [wf_u8 w0] at hW' ⊢
  obtain ⟨z1, rfl, rfl, rfl, w1⟩ := open_int Tryd.underlying5 (hval 1 5 v1 rfl rfl) h1
  rw [wf_u8 w1] at hW' ⊢
  obtain ⟨a2, n2, c2, x2, rfl, lc2, lm2, ln2, la2, rd2⟩ := openD Tryd.underlying28 Tryd.underlying23 Tryd.underlying5 cells_row cells_uint8 (hval 2 28 v2 rfl rfl) h2
  obtain ⟨z3, rfl, rfl, rfl, w3⟩ := open_int Tryd.underlying5 (hval 3 5 v3 rfl rfl) h3
  rw [wf_u8 w3] at hW' ⊢
  obtain ⟨a4, n4, c4, x4, rfl, lc4, lm4, ln4, la4, rd4⟩ := openB Tryd.underlying23 Tryd.underlying5 cells_uint8 (hval 4 23 v4 rfl rfl) h4
  clear hA0 hval0
  refine (lawFails3 (BitVec.ofInt 8 z0) (BitVec.ofInt 8 z1) _ x2 (BitVec.ofInt 8 z3) _ x4 W hko (Txs.mk rd2 ln2 lc2 la2) (Txt.mk rd4 ln4 lc4 la4)).mono fun e W' ⟨he, hg⟩ => ?_
  subst he
  exact ⟨_, rfl, lawPostV laidOut (by kernel_rfl) rfl Tryd.underlying4 (by kernel_rfl) ⟨rfl, rfl, rfl⟩ hW' hg⟩

theorem over : Rows.fnKeptFailsSha512Row.holds Tryd.pinned (OpenSpec.ofChange Rows.fnKeptFailsSha512Spec) :=
  OpenClaim.holds_of_wide 11 Tryd.f11 rfl rfl rfl rfl rfl rfl rfl ⟨rfl, rfl, rfl, rfl, rfl⟩ rfl rfl rfl rfl rfl (by kernel_rfl) Tryd.func11 (by kernel_rfl)
    (of_decide_eq_true (by kernel_rfl)) (by unfold Func.isWrapper; first | (rw [if_pos (by decide +kernel)]; kernel_rfl) | (rw [if_neg (by decide +kernel)]; exact ⟨rfl, rfl⟩))
    (fun os started H enc _ => lifted os started H enc)

theorem carded : Rows.FnKeptFailsSha512CardSaid :=
  Claim7.holds_tied_plain_at .later [] [.data] true (true, "43eae7fb10945e90785457ad37353905a9eb17965529b9c1ca67ceb955a4ecbf") false
    over (fun _ h => by cases h) (by kernel_rfl) (fun _ h => by cases h) fnKeptFailsSha512_row_tie rfl ⟨rfl, rfl⟩ (by kernel_rfl) rfl
    (fun f fn hf hfn => by
      obtain rfl : f = 11 := Option.some.inj ((show Tryd.prog.funcNamed "loop.example/pub-g03426/laws.FnKeptFailsSha512" = some 11 by kernel_rfl).symm.trans hf) |>.symm
      obtain rfl : fn = Tryd.f11 := (Option.some.inj (Tryd.func11.symm.trans hfn)).symm
      exact ⟨by kernel_rfl, fun j t ht => by
        rw [Tryd.params11] at ht
        have hm : t ∈ [5, 5, 28, 5, 23] := by simpa using Array.mem_of_getElem? ht
        have hall : ([5, 5, 28, 5, 23].all fun u => !Tryd.prog.wantsStandIn u) = true := by kernel_rfl
        exact (show Tryd.prog.wantsStandIn t = false by simpa using List.all_eq_true.1 hall t hm)⟩)
    (by kernel_rfl)
#print axioms carded
end Go.Proofs.YtggbaffkjfofhaaDoor.fnKeptFailsSha512
