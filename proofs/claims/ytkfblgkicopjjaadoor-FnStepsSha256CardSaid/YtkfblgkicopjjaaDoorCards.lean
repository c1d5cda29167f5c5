/-
  DERIVED. GIVEN WITH THE SEED: THE CARDS: each row of YtkfblgkicopjjaaDoorRows.lean that lists a variable, with what it lists TIED to the program's text (the seventh form; the later family's looks); each row that meets fmt, with fmt's text TOLD by the authors' own Lean function (tested against real Go, not proved from fmt's source: count such statements apart). THE CARD IS WHAT COUNTS. Prove the row's statement (the work); the ties are given (YtkfblgkicopjjaaDoorTie.lean); close each card by the builder's one call (the guide's Derived/Test/ToyasCard.lean, 'card_holds'). Laid BY PROGRAM, IN A SANDBOX (cutbox-door.mjs). By AI agents, Wed Nov 11 2026. No macro, syntax, notation, axiom, sorry.
-/
import Derived.Test.YtkfblgkicopjjaaDoorRows
import GoSem.ClaimSeven
namespace Go.Proofs.YtkfblgkicopjjaaDoor
namespace Rows

/-- THE TIED CARD OF 'laws.FnBlock32'. -/
def fnBlock32Card : Claim7 := { stood := { row := fnBlock32Row, standIns := [], harness := (true, "b04c39168670603cb98521fb4d0bbaf6ee296948a8263415d1102d82a61faca0"), looks := false }, kinds := [], alts := [], laidByText := true, laidKinds := [.data], laidTests := true, laidLooks := .later }
def FnBlock32CardSaid : Prop := Claim7.holds Tryd.pinned (.plain (OpenSpec.ofChange fnBlock32Spec)) fnBlock32Card

/-- THE TIED CARD OF 'laws.FnBlock32Apart'. -/
def fnBlock32ApartCard : Claim7 := { stood := { row := fnBlock32ApartRow, standIns := [], harness := (true, "b04c39168670603cb98521fb4d0bbaf6ee296948a8263415d1102d82a61faca0"), looks := false }, kinds := [], alts := [], laidByText := true, laidKinds := [.data], laidTests := true, laidLooks := .later }
def FnBlock32ApartCardSaid : Prop := Claim7.holds Tryd.pinned (.plain (OpenSpec.ofChange fnBlock32ApartSpec)) fnBlock32ApartCard

/-- THE TIED CARD OF 'laws.FnState32'. -/
def fnState32Card : Claim7 := { stood := { row := fnState32Row, standIns := [], harness := (true, "b04c39168670603cb98521fb4d0bbaf6ee296948a8263415d1102d82a61faca0"), looks := false }, kinds := [], alts := [], laidByText := true, laidKinds := [.data], laidTests := true, laidLooks := .later }
def FnState32CardSaid : Prop := Claim7.holds Tryd.pinned (.plain (OpenSpec.ofChange fnState32Spec)) fnState32Card

/-- THE TIED CARD OF 'laws.FnKeptBehindSha256'. -/
def fnKeptBehindSha256Card : Claim7 := { stood := { row := fnKeptBehindSha256Row, standIns := [], harness := (true, "b04c39168670603cb98521fb4d0bbaf6ee296948a8263415d1102d82a61faca0"), looks := false }, kinds := [], alts := [], laidByText := true, laidKinds := [.data], laidTests := true, laidLooks := .later }
def FnKeptBehindSha256CardSaid : Prop := Claim7.holds Tryd.pinned (.plain (OpenSpec.ofChange fnKeptBehindSha256Spec)) fnKeptBehindSha256Card

/-- THE TIED CARD OF 'laws.FnPiecesSha256'. -/
def fnPiecesSha256Card : Claim7 := { stood := { row := fnPiecesSha256Row, standIns := [], harness := (true, "b04c39168670603cb98521fb4d0bbaf6ee296948a8263415d1102d82a61faca0"), looks := false }, kinds := [], alts := [], laidByText := true, laidKinds := [.data], laidTests := true, laidLooks := .later }
def FnPiecesSha256CardSaid : Prop := Claim7.holds Tryd.pinned (.plain (OpenSpec.ofChange fnPiecesSha256Spec)) fnPiecesSha256Card

/-- THE TIED CARD OF 'laws.FnSha256'. -/
def fnSha256Card : Claim7 := { stood := { row := fnSha256Row, standIns := [], harness := (true, "b04c39168670603cb98521fb4d0bbaf6ee296948a8263415d1102d82a61faca0"), looks := false }, kinds := [], alts := [], laidByText := true, laidKinds := [.data], laidTests := true, laidLooks := .later }
def FnSha256CardSaid : Prop := Claim7.holds Tryd.pinned (.plain (OpenSpec.ofChange fnSha256Spec)) fnSha256Card

/-- THE TIED CARD OF 'laws.FnRoad32'. -/
def fnRoad32Card : Claim7 := { stood := { row := fnRoad32Row, standIns := [], harness := (true, "b04c39168670603cb98521fb4d0bbaf6ee296948a8263415d1102d82a61faca0"), looks := false }, kinds := [], alts := [], laidByText := true, laidKinds := [.data], laidTests := true, laidLooks := .later }
def FnRoad32CardSaid : Prop := Claim7.holds Tryd.pinned (.plain (OpenSpec.ofChange fnRoad32Spec)) fnRoad32Card

/-- THE TIED CARD OF 'laws.FnStepsSha256'. -/
def fnStepsSha256Card : Claim7 := { stood := { row := fnStepsSha256Row, standIns := [], harness := (true, "b04c39168670603cb98521fb4d0bbaf6ee296948a8263415d1102d82a61faca0"), looks := false }, kinds := [], alts := [], laidByText := true, laidKinds := [.data], laidTests := true, laidLooks := .later }
def FnStepsSha256CardSaid : Prop := Claim7.holds Tryd.pinned (.plain (OpenSpec.ofChange fnStepsSha256Spec)) fnStepsSha256Card

/-- THE TIED CARD OF 'laws.FnKeptFailsSha256'. -/
def fnKeptFailsSha256Card : Claim7 := { stood := { row := fnKeptFailsSha256Row, standIns := [], harness := (true, "b04c39168670603cb98521fb4d0bbaf6ee296948a8263415d1102d82a61faca0"), looks := false }, kinds := [], alts := [], laidByText := true, laidKinds := [.data], laidTests := true, laidLooks := .later }
def FnKeptFailsSha256CardSaid : Prop := Claim7.holds Tryd.pinned (.plain (OpenSpec.ofChange fnKeptFailsSha256Spec)) fnKeptFailsSha256Card

/-- THE TIED CARD OF 'laws.FnKeptSha256'. -/
def fnKeptSha256Card : Claim7 := { stood := { row := fnKeptSha256Row, standIns := [], harness := (true, "b04c39168670603cb98521fb4d0bbaf6ee296948a8263415d1102d82a61faca0"), looks := false }, kinds := [], alts := [], laidByText := true, laidKinds := [.data], laidTests := true, laidLooks := .later }
def FnKeptSha256CardSaid : Prop := Claim7.holds Tryd.pinned (.plain (OpenSpec.ofChange fnKeptSha256Spec)) fnKeptSha256Card

/-- THE TIED CARD OF 'laws.FnKeptRoadsSha256'. -/
def fnKeptRoadsSha256Card : Claim7 := { stood := { row := fnKeptRoadsSha256Row, standIns := [], harness := (true, "b04c39168670603cb98521fb4d0bbaf6ee296948a8263415d1102d82a61faca0"), looks := false }, kinds := [], alts := [], laidByText := true, laidKinds := [.data], laidTests := true, laidLooks := .later }
def FnKeptRoadsSha256CardSaid : Prop := Claim7.holds Tryd.pinned (.plain (OpenSpec.ofChange fnKeptRoadsSha256Spec)) fnKeptRoadsSha256Card

/-- THE SECOND FORM's CARD OF 'laws.FnBlock32'. -/
def fnBlock32UptoCard : Claim7 := { stood := { row := fnBlock32UptoRow, standIns := [], harness := (true, "b04c39168670603cb98521fb4d0bbaf6ee296948a8263415d1102d82a61faca0"), looks := false }, kinds := [], alts := [], laidByText := true, laidKinds := [.data], laidTests := true, laidLooks := .later }
def FnBlock32UptoCardSaid : Prop := Claim7.holds Tryd.pinned (.plain (OpenSpec.upto fnBlock32Spec)) fnBlock32UptoCard

/-- THE SECOND FORM's CARD OF 'laws.FnBlock32Apart'. -/
def fnBlock32ApartUptoCard : Claim7 := { stood := { row := fnBlock32ApartUptoRow, standIns := [], harness := (true, "b04c39168670603cb98521fb4d0bbaf6ee296948a8263415d1102d82a61faca0"), looks := false }, kinds := [], alts := [], laidByText := true, laidKinds := [.data], laidTests := true, laidLooks := .later }
def FnBlock32ApartUptoCardSaid : Prop := Claim7.holds Tryd.pinned (.plain (OpenSpec.upto fnBlock32ApartSpec)) fnBlock32ApartUptoCard

/-- THE SECOND FORM's CARD OF 'laws.FnState32'. -/
def fnState32UptoCard : Claim7 := { stood := { row := fnState32UptoRow, standIns := [], harness := (true, "b04c39168670603cb98521fb4d0bbaf6ee296948a8263415d1102d82a61faca0"), looks := false }, kinds := [], alts := [], laidByText := true, laidKinds := [.data], laidTests := true, laidLooks := .later }
def FnState32UptoCardSaid : Prop := Claim7.holds Tryd.pinned (.plain (OpenSpec.upto fnState32Spec)) fnState32UptoCard

/-- THE SECOND FORM's CARD OF 'laws.FnKeptBehindSha256'. -/
def fnKeptBehindSha256UptoCard : Claim7 := { stood := { row := fnKeptBehindSha256UptoRow, standIns := [], harness := (true, "b04c39168670603cb98521fb4d0bbaf6ee296948a8263415d1102d82a61faca0"), looks := false }, kinds := [], alts := [], laidByText := true, laidKinds := [.data], laidTests := true, laidLooks := .later }
def FnKeptBehindSha256UptoCardSaid : Prop := Claim7.holds Tryd.pinned (.plain (OpenSpec.upto fnKeptBehindSha256Spec)) fnKeptBehindSha256UptoCard

/-- THE SECOND FORM's CARD OF 'laws.FnPiecesSha256'. -/
def fnPiecesSha256UptoCard : Claim7 := { stood := { row := fnPiecesSha256UptoRow, standIns := [], harness := (true, "b04c39168670603cb98521fb4d0bbaf6ee296948a8263415d1102d82a61faca0"), looks := false }, kinds := [], alts := [], laidByText := true, laidKinds := [.data], laidTests := true, laidLooks := .later }
def FnPiecesSha256UptoCardSaid : Prop := Claim7.holds Tryd.pinned (.plain (OpenSpec.upto fnPiecesSha256Spec)) fnPiecesSha256UptoCard

/-- THE SECOND FORM's CARD OF 'laws.FnSha256'. -/
def fnSha256UptoCard : Claim7 := { stood := { row := fnSha256UptoRow, standIns := [], harness := (true, "b04c39168670603cb98521fb4d0bbaf6ee296948a8263415d1102d82a61faca0"), looks := false }, kinds := [], alts := [], laidByText := true, laidKinds := [.data], laidTests := true, laidLooks := .later }
def FnSha256UptoCardSaid : Prop := Claim7.holds Tryd.pinned (.plain (OpenSpec.upto fnSha256Spec)) fnSha256UptoCard

/-- THE SECOND FORM's CARD OF 'laws.FnRoad32'. -/
def fnRoad32UptoCard : Claim7 := { stood := { row := fnRoad32UptoRow, standIns := [], harness := (true, "b04c39168670603cb98521fb4d0bbaf6ee296948a8263415d1102d82a61faca0"), looks := false }, kinds := [], alts := [], laidByText := true, laidKinds := [.data], laidTests := true, laidLooks := .later }
def FnRoad32UptoCardSaid : Prop := Claim7.holds Tryd.pinned (.plain (OpenSpec.upto fnRoad32Spec)) fnRoad32UptoCard

/-- THE SECOND FORM's CARD OF 'laws.FnStepsSha256'. -/
def fnStepsSha256UptoCard : Claim7 := { stood := { row := fnStepsSha256UptoRow, standIns := [], harness := (true, "b04c39168670603cb98521fb4d0bbaf6ee296948a8263415d1102d82a61faca0"), looks := false }, kinds := [], alts := [], laidByText := true, laidKinds := [.data], laidTests := true, laidLooks := .later }
def FnStepsSha256UptoCardSaid : Prop := Claim7.holds Tryd.pinned (.plain (OpenSpec.upto fnStepsSha256Spec)) fnStepsSha256UptoCard

/-- THE SECOND FORM's CARD OF 'laws.FnKeptFailsSha256'. -/
def fnKeptFailsSha256UptoCard : Claim7 := { stood := { row := fnKeptFailsSha256UptoRow, standIns := [], harness := (true, "b04c39168670603cb98521fb4d0bbaf6ee296948a8263415d1102d82a61faca0"), looks := false }, kinds := [], alts := [], laidByText := true, laidKinds := [.data], laidTests := true, laidLooks := .later }
def FnKeptFailsSha256UptoCardSaid : Prop := Claim7.holds Tryd.pinned (.plain (OpenSpec.upto fnKeptFailsSha256Spec)) fnKeptFailsSha256UptoCard

/-- THE SECOND FORM's CARD OF 'laws.FnKeptSha256'. -/
def fnKeptSha256UptoCard : Claim7 := { stood := { row := fnKeptSha256UptoRow, standIns := [], harness := (true, "b04c39168670603cb98521fb4d0bbaf6ee296948a8263415d1102d82a61faca0"), looks := false }, kinds := [], alts := [], laidByText := true, laidKinds := [.data], laidTests := true, laidLooks := .later }
def FnKeptSha256UptoCardSaid : Prop := Claim7.holds Tryd.pinned (.plain (OpenSpec.upto fnKeptSha256Spec)) fnKeptSha256UptoCard

/-- THE SECOND FORM's CARD OF 'laws.FnKeptRoadsSha256'. -/
def fnKeptRoadsSha256UptoCard : Claim7 := { stood := { row := fnKeptRoadsSha256UptoRow, standIns := [], harness := (true, "b04c39168670603cb98521fb4d0bbaf6ee296948a8263415d1102d82a61faca0"), looks := false }, kinds := [], alts := [], laidByText := true, laidKinds := [.data], laidTests := true, laidLooks := .later }
def FnKeptRoadsSha256UptoCardSaid : Prop := Claim7.holds Tryd.pinned (.plain (OpenSpec.upto fnKeptRoadsSha256Spec)) fnKeptRoadsSha256UptoCard
end Rows
end Go.Proofs.YtkfblgkicopjjaaDoor
