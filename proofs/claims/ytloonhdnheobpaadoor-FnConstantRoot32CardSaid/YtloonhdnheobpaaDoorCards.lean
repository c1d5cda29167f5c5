/-
  DERIVED. GIVEN WITH THE SEED: THE CARDS: each row of YtloonhdnheobpaaDoorRows.lean that lists a variable, with what it lists TIED to the program's text (the seventh form; the later family's looks); each row that meets fmt, with fmt's text TOLD by the authors' own Lean function (tested against real Go, not proved from fmt's source: count such statements apart). THE CARD IS WHAT COUNTS. Prove the row's statement (the work); the ties are given (YtloonhdnheobpaaDoorTie.lean); close each card by the builder's one call (the guide's Derived/Test/ToyasCard.lean, 'card_holds'). Laid BY PROGRAM, IN A SANDBOX (cutbox-door.mjs). By AI agents, Wed Nov 11 2026. No macro, syntax, notation, axiom, sorry.
-/
import Derived.Test.YtloonhdnheobpaaDoorRows
import GoSem.ClaimSeven
namespace Go.Proofs.YtloonhdnheobpaaDoor
namespace Rows

/-- THE TIED CARD OF 'laws.FnConstant32'. -/
def fnConstant32Card : Claim7 := { stood := { row := fnConstant32Row, standIns := [], harness := (true, "f221f736d1fcfed224649c96c5768a2f3dd76d8b201f86b41d6f60f44b9e8426"), looks := false }, kinds := [], alts := [], laidByText := true, laidKinds := [.data], laidTests := true, laidLooks := .later }
def FnConstant32CardSaid : Prop := Claim7.holds Tryd.pinned (.plain (OpenSpec.ofChange fnConstant32Spec)) fnConstant32Card

/-- THE TIED CARD OF 'laws.FnConstant64'. -/
def fnConstant64Card : Claim7 := { stood := { row := fnConstant64Row, standIns := [], harness := (true, "f221f736d1fcfed224649c96c5768a2f3dd76d8b201f86b41d6f60f44b9e8426"), looks := false }, kinds := [], alts := [], laidByText := true, laidKinds := [.data], laidTests := true, laidLooks := .later }
def FnConstant64CardSaid : Prop := Claim7.holds Tryd.pinned (.plain (OpenSpec.ofChange fnConstant64Spec)) fnConstant64Card

/-- THE TIED CARD OF 'laws.FnConstantRoot'. -/
def fnConstantRootCard : Claim7 := { stood := { row := fnConstantRootRow, standIns := [], harness := (true, "f221f736d1fcfed224649c96c5768a2f3dd76d8b201f86b41d6f60f44b9e8426"), looks := false }, kinds := [], alts := [], laidByText := true, laidKinds := [.data], laidTests := true, laidLooks := .later }
def FnConstantRootCardSaid : Prop := Claim7.holds Tryd.pinned (.plain (OpenSpec.ofChange fnConstantRootSpec)) fnConstantRootCard

/-- THE TIED CARD OF 'laws.FnConstantRoot32'. -/
def fnConstantRoot32Card : Claim7 := { stood := { row := fnConstantRoot32Row, standIns := [], harness := (true, "f221f736d1fcfed224649c96c5768a2f3dd76d8b201f86b41d6f60f44b9e8426"), looks := false }, kinds := [], alts := [], laidByText := true, laidKinds := [.data], laidTests := true, laidLooks := .later }
def FnConstantRoot32CardSaid : Prop := Claim7.holds Tryd.pinned (.plain (OpenSpec.ofChange fnConstantRoot32Spec)) fnConstantRoot32Card

/-- THE SECOND FORM's CARD OF 'laws.FnConstant32'. -/
def fnConstant32UptoCard : Claim7 := { stood := { row := fnConstant32UptoRow, standIns := [], harness := (true, "f221f736d1fcfed224649c96c5768a2f3dd76d8b201f86b41d6f60f44b9e8426"), looks := false }, kinds := [], alts := [], laidByText := true, laidKinds := [.data], laidTests := true, laidLooks := .later }
def FnConstant32UptoCardSaid : Prop := Claim7.holds Tryd.pinned (.plain (OpenSpec.upto fnConstant32Spec)) fnConstant32UptoCard

/-- THE SECOND FORM's CARD OF 'laws.FnConstant64'. -/
def fnConstant64UptoCard : Claim7 := { stood := { row := fnConstant64UptoRow, standIns := [], harness := (true, "f221f736d1fcfed224649c96c5768a2f3dd76d8b201f86b41d6f60f44b9e8426"), looks := false }, kinds := [], alts := [], laidByText := true, laidKinds := [.data], laidTests := true, laidLooks := .later }
def FnConstant64UptoCardSaid : Prop := Claim7.holds Tryd.pinned (.plain (OpenSpec.upto fnConstant64Spec)) fnConstant64UptoCard

/-- THE SECOND FORM's CARD OF 'laws.FnConstantRoot'. -/
def fnConstantRootUptoCard : Claim7 := { stood := { row := fnConstantRootUptoRow, standIns := [], harness := (true, "f221f736d1fcfed224649c96c5768a2f3dd76d8b201f86b41d6f60f44b9e8426"), looks := false }, kinds := [], alts := [], laidByText := true, laidKinds := [.data], laidTests := true, laidLooks := .later }
def FnConstantRootUptoCardSaid : Prop := Claim7.holds Tryd.pinned (.plain (OpenSpec.upto fnConstantRootSpec)) fnConstantRootUptoCard

/-- THE SECOND FORM's CARD OF 'laws.FnConstantRoot32'. -/
def fnConstantRoot32UptoCard : Claim7 := { stood := { row := fnConstantRoot32UptoRow, standIns := [], harness := (true, "f221f736d1fcfed224649c96c5768a2f3dd76d8b201f86b41d6f60f44b9e8426"), looks := false }, kinds := [], alts := [], laidByText := true, laidKinds := [.data], laidTests := true, laidLooks := .later }
def FnConstantRoot32UptoCardSaid : Prop := Claim7.holds Tryd.pinned (.plain (OpenSpec.upto fnConstantRoot32Spec)) fnConstantRoot32UptoCard
end Rows
end Go.Proofs.YtloonhdnheobpaaDoor
