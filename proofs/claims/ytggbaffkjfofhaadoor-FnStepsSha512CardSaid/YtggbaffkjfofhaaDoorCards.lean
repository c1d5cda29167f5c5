/-
  DERIVED. GIVEN WITH THE SEED: THE CARDS: each row of YtggbaffkjfofhaaDoorRows.lean that lists a variable, with what it lists TIED to the program's text (the seventh form; the later family's looks); each row that meets fmt, with fmt's text TOLD by the authors' own Lean function (tested against real Go, not proved from fmt's source: count such statements apart). THE CARD IS WHAT COUNTS. Prove the row's statement (the work); the ties are given (YtggbaffkjfofhaaDoorTie.lean); close each card by the builder's one call (the guide's Derived/Test/ToyasCard.lean, 'card_holds'). Laid BY PROGRAM, IN A SANDBOX (cutbox-door.mjs). By AI agents, Wed Nov 11 2026. No macro, syntax, notation, axiom, sorry.
-/
import Derived.Test.YtggbaffkjfofhaaDoorRows
import GoSem.ClaimSeven
namespace Go.Proofs.YtggbaffkjfofhaaDoor
namespace Rows

/-- THE TIED CARD OF 'laws.FnBlock64'. -/
def fnBlock64Card : Claim7 := { stood := { row := fnBlock64Row, standIns := [], harness := (true, "43eae7fb10945e90785457ad37353905a9eb17965529b9c1ca67ceb955a4ecbf"), looks := false }, kinds := [], alts := [], laidByText := true, laidKinds := [.data], laidTests := true, laidLooks := .later }
def FnBlock64CardSaid : Prop := Claim7.holds Tryd.pinned (.plain (OpenSpec.ofChange fnBlock64Spec)) fnBlock64Card

/-- THE TIED CARD OF 'laws.FnBlock64Apart'. -/
def fnBlock64ApartCard : Claim7 := { stood := { row := fnBlock64ApartRow, standIns := [], harness := (true, "43eae7fb10945e90785457ad37353905a9eb17965529b9c1ca67ceb955a4ecbf"), looks := false }, kinds := [], alts := [], laidByText := true, laidKinds := [.data], laidTests := true, laidLooks := .later }
def FnBlock64ApartCardSaid : Prop := Claim7.holds Tryd.pinned (.plain (OpenSpec.ofChange fnBlock64ApartSpec)) fnBlock64ApartCard

/-- THE TIED CARD OF 'laws.FnState64'. -/
def fnState64Card : Claim7 := { stood := { row := fnState64Row, standIns := [], harness := (true, "43eae7fb10945e90785457ad37353905a9eb17965529b9c1ca67ceb955a4ecbf"), looks := false }, kinds := [], alts := [], laidByText := true, laidKinds := [.data], laidTests := true, laidLooks := .later }
def FnState64CardSaid : Prop := Claim7.holds Tryd.pinned (.plain (OpenSpec.ofChange fnState64Spec)) fnState64Card

/-- THE TIED CARD OF 'laws.FnKeptBehindSha512'. -/
def fnKeptBehindSha512Card : Claim7 := { stood := { row := fnKeptBehindSha512Row, standIns := [], harness := (true, "43eae7fb10945e90785457ad37353905a9eb17965529b9c1ca67ceb955a4ecbf"), looks := false }, kinds := [], alts := [], laidByText := true, laidKinds := [.data], laidTests := true, laidLooks := .later }
def FnKeptBehindSha512CardSaid : Prop := Claim7.holds Tryd.pinned (.plain (OpenSpec.ofChange fnKeptBehindSha512Spec)) fnKeptBehindSha512Card

/-- THE TIED CARD OF 'laws.FnPiecesSha512'. -/
def fnPiecesSha512Card : Claim7 := { stood := { row := fnPiecesSha512Row, standIns := [], harness := (true, "43eae7fb10945e90785457ad37353905a9eb17965529b9c1ca67ceb955a4ecbf"), looks := false }, kinds := [], alts := [], laidByText := true, laidKinds := [.data], laidTests := true, laidLooks := .later }
def FnPiecesSha512CardSaid : Prop := Claim7.holds Tryd.pinned (.plain (OpenSpec.ofChange fnPiecesSha512Spec)) fnPiecesSha512Card

/-- THE TIED CARD OF 'laws.FnSha512'. -/
def fnSha512Card : Claim7 := { stood := { row := fnSha512Row, standIns := [], harness := (true, "43eae7fb10945e90785457ad37353905a9eb17965529b9c1ca67ceb955a4ecbf"), looks := false }, kinds := [], alts := [], laidByText := true, laidKinds := [.data], laidTests := true, laidLooks := .later }
def FnSha512CardSaid : Prop := Claim7.holds Tryd.pinned (.plain (OpenSpec.ofChange fnSha512Spec)) fnSha512Card

/-- THE TIED CARD OF 'laws.FnRoad64'. -/
def fnRoad64Card : Claim7 := { stood := { row := fnRoad64Row, standIns := [], harness := (true, "43eae7fb10945e90785457ad37353905a9eb17965529b9c1ca67ceb955a4ecbf"), looks := false }, kinds := [], alts := [], laidByText := true, laidKinds := [.data], laidTests := true, laidLooks := .later }
def FnRoad64CardSaid : Prop := Claim7.holds Tryd.pinned (.plain (OpenSpec.ofChange fnRoad64Spec)) fnRoad64Card

/-- THE TIED CARD OF 'laws.FnStepsSha512'. -/
def fnStepsSha512Card : Claim7 := { stood := { row := fnStepsSha512Row, standIns := [], harness := (true, "43eae7fb10945e90785457ad37353905a9eb17965529b9c1ca67ceb955a4ecbf"), looks := false }, kinds := [], alts := [], laidByText := true, laidKinds := [.data], laidTests := true, laidLooks := .later }
def FnStepsSha512CardSaid : Prop := Claim7.holds Tryd.pinned (.plain (OpenSpec.ofChange fnStepsSha512Spec)) fnStepsSha512Card

/-- THE TIED CARD OF 'laws.FnKeptFailsSha512'. -/
def fnKeptFailsSha512Card : Claim7 := { stood := { row := fnKeptFailsSha512Row, standIns := [], harness := (true, "43eae7fb10945e90785457ad37353905a9eb17965529b9c1ca67ceb955a4ecbf"), looks := false }, kinds := [], alts := [], laidByText := true, laidKinds := [.data], laidTests := true, laidLooks := .later }
def FnKeptFailsSha512CardSaid : Prop := Claim7.holds Tryd.pinned (.plain (OpenSpec.ofChange fnKeptFailsSha512Spec)) fnKeptFailsSha512Card

/-- THE TIED CARD OF 'laws.FnKeptSha512'. -/
def fnKeptSha512Card : Claim7 := { stood := { row := fnKeptSha512Row, standIns := [], harness := (true, "43eae7fb10945e90785457ad37353905a9eb17965529b9c1ca67ceb955a4ecbf"), looks := false }, kinds := [], alts := [], laidByText := true, laidKinds := [.data], laidTests := true, laidLooks := .later }
def FnKeptSha512CardSaid : Prop := Claim7.holds Tryd.pinned (.plain (OpenSpec.ofChange fnKeptSha512Spec)) fnKeptSha512Card

/-- THE TIED CARD OF 'laws.FnKeptRoadsSha512'. -/
def fnKeptRoadsSha512Card : Claim7 := { stood := { row := fnKeptRoadsSha512Row, standIns := [], harness := (true, "43eae7fb10945e90785457ad37353905a9eb17965529b9c1ca67ceb955a4ecbf"), looks := false }, kinds := [], alts := [], laidByText := true, laidKinds := [.data], laidTests := true, laidLooks := .later }
def FnKeptRoadsSha512CardSaid : Prop := Claim7.holds Tryd.pinned (.plain (OpenSpec.ofChange fnKeptRoadsSha512Spec)) fnKeptRoadsSha512Card

/-- THE SECOND FORM's CARD OF 'laws.FnBlock64'. -/
def fnBlock64UptoCard : Claim7 := { stood := { row := fnBlock64UptoRow, standIns := [], harness := (true, "43eae7fb10945e90785457ad37353905a9eb17965529b9c1ca67ceb955a4ecbf"), looks := false }, kinds := [], alts := [], laidByText := true, laidKinds := [.data], laidTests := true, laidLooks := .later }
def FnBlock64UptoCardSaid : Prop := Claim7.holds Tryd.pinned (.plain (OpenSpec.upto fnBlock64Spec)) fnBlock64UptoCard

/-- THE SECOND FORM's CARD OF 'laws.FnBlock64Apart'. -/
def fnBlock64ApartUptoCard : Claim7 := { stood := { row := fnBlock64ApartUptoRow, standIns := [], harness := (true, "43eae7fb10945e90785457ad37353905a9eb17965529b9c1ca67ceb955a4ecbf"), looks := false }, kinds := [], alts := [], laidByText := true, laidKinds := [.data], laidTests := true, laidLooks := .later }
def FnBlock64ApartUptoCardSaid : Prop := Claim7.holds Tryd.pinned (.plain (OpenSpec.upto fnBlock64ApartSpec)) fnBlock64ApartUptoCard

/-- THE SECOND FORM's CARD OF 'laws.FnState64'. -/
def fnState64UptoCard : Claim7 := { stood := { row := fnState64UptoRow, standIns := [], harness := (true, "43eae7fb10945e90785457ad37353905a9eb17965529b9c1ca67ceb955a4ecbf"), looks := false }, kinds := [], alts := [], laidByText := true, laidKinds := [.data], laidTests := true, laidLooks := .later }
def FnState64UptoCardSaid : Prop := Claim7.holds Tryd.pinned (.plain (OpenSpec.upto fnState64Spec)) fnState64UptoCard

/-- THE SECOND FORM's CARD OF 'laws.FnKeptBehindSha512'. -/
def fnKeptBehindSha512UptoCard : Claim7 := { stood := { row := fnKeptBehindSha512UptoRow, standIns := [], harness := (true, "43eae7fb10945e90785457ad37353905a9eb17965529b9c1ca67ceb955a4ecbf"), looks := false }, kinds := [], alts := [], laidByText := true, laidKinds := [.data], laidTests := true, laidLooks := .later }
def FnKeptBehindSha512UptoCardSaid : Prop := Claim7.holds Tryd.pinned (.plain (OpenSpec.upto fnKeptBehindSha512Spec)) fnKeptBehindSha512UptoCard

/-- THE SECOND FORM's CARD OF 'laws.FnPiecesSha512'. -/
def fnPiecesSha512UptoCard : Claim7 := { stood := { row := fnPiecesSha512UptoRow, standIns := [], harness := (true, "43eae7fb10945e90785457ad37353905a9eb17965529b9c1ca67ceb955a4ecbf"), looks := false }, kinds := [], alts := [], laidByText := true, laidKinds := [.data], laidTests := true, laidLooks := .later }
def FnPiecesSha512UptoCardSaid : Prop := Claim7.holds Tryd.pinned (.plain (OpenSpec.upto fnPiecesSha512Spec)) fnPiecesSha512UptoCard

/-- THE SECOND FORM's CARD OF 'laws.FnSha512'. -/
def fnSha512UptoCard : Claim7 := { stood := { row := fnSha512UptoRow, standIns := [], harness := (true, "43eae7fb10945e90785457ad37353905a9eb17965529b9c1ca67ceb955a4ecbf"), looks := false }, kinds := [], alts := [], laidByText := true, laidKinds := [.data], laidTests := true, laidLooks := .later }
def FnSha512UptoCardSaid : Prop := Claim7.holds Tryd.pinned (.plain (OpenSpec.upto fnSha512Spec)) fnSha512UptoCard

/-- THE SECOND FORM's CARD OF 'laws.FnRoad64'. -/
def fnRoad64UptoCard : Claim7 := { stood := { row := fnRoad64UptoRow, standIns := [], harness := (true, "43eae7fb10945e90785457ad37353905a9eb17965529b9c1ca67ceb955a4ecbf"), looks := false }, kinds := [], alts := [], laidByText := true, laidKinds := [.data], laidTests := true, laidLooks := .later }
def FnRoad64UptoCardSaid : Prop := Claim7.holds Tryd.pinned (.plain (OpenSpec.upto fnRoad64Spec)) fnRoad64UptoCard

/-- THE SECOND FORM's CARD OF 'laws.FnStepsSha512'. -/
def fnStepsSha512UptoCard : Claim7 := { stood := { row := fnStepsSha512UptoRow, standIns := [], harness := (true, "43eae7fb10945e90785457ad37353905a9eb17965529b9c1ca67ceb955a4ecbf"), looks := false }, kinds := [], alts := [], laidByText := true, laidKinds := [.data], laidTests := true, laidLooks := .later }
def FnStepsSha512UptoCardSaid : Prop := Claim7.holds Tryd.pinned (.plain (OpenSpec.upto fnStepsSha512Spec)) fnStepsSha512UptoCard

/-- THE SECOND FORM's CARD OF 'laws.FnKeptFailsSha512'. -/
def fnKeptFailsSha512UptoCard : Claim7 := { stood := { row := fnKeptFailsSha512UptoRow, standIns := [], harness := (true, "43eae7fb10945e90785457ad37353905a9eb17965529b9c1ca67ceb955a4ecbf"), looks := false }, kinds := [], alts := [], laidByText := true, laidKinds := [.data], laidTests := true, laidLooks := .later }
def FnKeptFailsSha512UptoCardSaid : Prop := Claim7.holds Tryd.pinned (.plain (OpenSpec.upto fnKeptFailsSha512Spec)) fnKeptFailsSha512UptoCard

/-- THE SECOND FORM's CARD OF 'laws.FnKeptSha512'. -/
def fnKeptSha512UptoCard : Claim7 := { stood := { row := fnKeptSha512UptoRow, standIns := [], harness := (true, "43eae7fb10945e90785457ad37353905a9eb17965529b9c1ca67ceb955a4ecbf"), looks := false }, kinds := [], alts := [], laidByText := true, laidKinds := [.data], laidTests := true, laidLooks := .later }
def FnKeptSha512UptoCardSaid : Prop := Claim7.holds Tryd.pinned (.plain (OpenSpec.upto fnKeptSha512Spec)) fnKeptSha512UptoCard

/-- THE SECOND FORM's CARD OF 'laws.FnKeptRoadsSha512'. -/
def fnKeptRoadsSha512UptoCard : Claim7 := { stood := { row := fnKeptRoadsSha512UptoRow, standIns := [], harness := (true, "43eae7fb10945e90785457ad37353905a9eb17965529b9c1ca67ceb955a4ecbf"), looks := false }, kinds := [], alts := [], laidByText := true, laidKinds := [.data], laidTests := true, laidLooks := .later }
def FnKeptRoadsSha512UptoCardSaid : Prop := Claim7.holds Tryd.pinned (.plain (OpenSpec.upto fnKeptRoadsSha512Spec)) fnKeptRoadsSha512UptoCard
end Rows
end Go.Proofs.YtggbaffkjfofhaaDoor
