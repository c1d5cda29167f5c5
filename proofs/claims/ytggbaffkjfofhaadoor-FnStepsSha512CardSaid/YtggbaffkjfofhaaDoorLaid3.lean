/- The table of the package, laid; the end of a row that lists it. -/
import Derived.Test.YtggbaffkjfofhaaDoorRows
import Derived.Test.YtggbaffkjfofhaaDoorRow
import Derived.Test.YtggbaffkjfofhaaDoorLeaf3
import Derived.Lib.LaidTab
import Derived.OpenVars
import Derived.LaidMore
import Derived.OpenShut
import Derived.ProofKit
import Derived.Stop.Joined
set_option linter.unusedVariables false
set_option linter.unusedSimpArgs false
namespace Go.Proofs.YtggbaffkjfofhaaDoor
open Go Go.ChangeShapes Go.WideShapes Go.ChangeAt Go.RowKit

section
variable {P : Program} {H : Type} {enc : TypeId × Value → H}

/-- A law that told true and only made new memory; it names variables. -/
theorem lawPostV {f : Func} {s : ChangeSpec} {tb : TypeId} {W W' : World} {args : Array Value} {ds gs : List (DataW H)} {before : List MemPlace} (hl : laidOutB P = true)
    (hts : f.params.toList.all (fun t => P.readableRec t && decide (t < P.types.size)) = true) (hrt : f.resultTypes = #[tb]) (htb : P.underlying tb = some .bool) (hvars : varsRowed P s.vars = true)
    (hfn : (s.fn H (ds ++ gs)).results = [.lit (.bool true)] ∧ (s.fn H (ds ++ gs)).args = ds ∧ (s.fn H (ds ++ gs)).vars = gs)
    (hW : DataW.Whole enc P f.params.toList s.vars false W args.toList ds gs before) (hg : Grow W W') : s.post enc P f false true false false W args (.bool true) W' := by
  have hlt := hW.lt
  have hW' := hW
  obtain ⟨p, q, hA, hV, rfl, _, _⟩ := hW
  refine ⟨ds, gs, _, [], p, q, hW', ?_, ?_, ?_, World.keptBut_mono (fun x hx => ⟨hx, ?_⟩) (hg.kept (· ∈ p ++ q)), fun h => by cases h⟩
  · rw [hfn.1, hrt]
    exact trodAll_mk1 (shut_bool htb _)
  · rw [hfn.2.1]
    exact trodAll_grow hl hg hts hA (fun x hx => hlt x (List.mem_append_left _ hx))
  · rw [hfn.2.2]
    exact Below.trodVars hl hg.below hvars hV
  · rcases List.mem_append.1 hx with h | h
    · exact .inr (.inl h)
    · exact .inr (.inr h)
end

abbrev laidK : List (String × DataW Unit) := [("loop.example/pub-g03426/pub/sha512._K", Rows.laid_loop_example_pub_g03426_pub_sha512_K)]
def Kz : List Int := (List.range 80).map fun t => ((Kf t).toNat : Int)
theorem own : ownKnob Tryd.prog.godebug = none := by kernel_rfl
theorem laidOut : laidOutB Tryd.prog = true := by kernel_rfl
theorem gK : Tryd.prog.globalNamed "loop.example/pub-g03426/pub/sha512._K" = some 0 := by kernel_rfl
theorem tK : (Tryd.prog.globals[0]?).map (·.type) = some 88 := by kernel_rfl
theorem cells_uint64 : Tryd.prog.cellsOf 31 = 1 := by kernel_rfl
theorem cells_tab : Tryd.prog.cellsOf 88 = 80 := by kernel_rfl
theorem cells_uint8 : Tryd.prog.cellsOf 5 = 1 := by kernel_rfl
theorem cells_row : Tryd.prog.cellsOf 23 = 1 := by kernel_rfl
theorem laidK_eq : (Rows.laid_loop_example_pub_g03426_pub_sha512_K : DataW Unit) = Lib.tabData .u64 Kz := by kernel_rfl

theorem KO_of_laid {W : World} (h : laidMetH Tryd.prog laidK W) : KO W := by
  rw [MakeChecks.laidMetH_plain _ _ _ (by kernel_rfl)] at h
  have h2 : laidMet Tryd.prog [("loop.example/pub-g03426/pub/sha512._K", Lib.tabData .u64 Kz)] W := by
    have h3 : laidMet Tryd.prog [("loop.example/pub-g03426/pub/sha512._K", Rows.laid_loop_example_pub_g03426_pub_sha512_K)] W := h
    rwa [laidK_eq] at h3
  have h1 := Lib.tabIs_of_head gK tK Tryd.underlying88 Tryd.underlying31 cells_uint64 cells_tab h2
  intro j v hv
  have hj : j < 80 := by
    have := (List.getElem?_eq_some_iff.1 hv).1
    simpa [Kl] using this
  rw [Kl_get hj] at hv
  cases hv
  have hc := h1.cell gK j (by simpa [Kz] using hj)
  have hz : Kz.getD j 0 = ((Kf j).toNat : Int) := by simp [Kz, List.getD_eq_getElem?_getD, hj]
  rw [hz] at hc
  refine ⟨_, rfl, ?_, ?_⟩
  · have hcb := cell_block hc
    exact hcb
  · rw [Addr.add_lit, Nat.zero_add]; exact hc

/-- The door's own heap meets the condition. -/
theorem door_met (os : Os) (args : Array Value) : laidMetH Tryd.prog laidK ((World.doorLaid Tryd.prog 400 os).forCall (fun _ _ => 0) ⟨#[], args, []⟩).memory :=
  laidMetH_of_parts3 (fuel := 8) (laidMet_of_run' 8 (by kernel_rfl) (by kernel_rfl)) (by kernel_rfl) (by kernel_rfl)
end Go.Proofs.YtggbaffkjfofhaaDoor
