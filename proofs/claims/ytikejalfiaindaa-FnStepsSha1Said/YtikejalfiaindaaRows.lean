/-
  No cell of these rows narrows 'for every input' (looked for: loops, veiled, ifaces, maps, wideKeys, modest, calm, conditions, laid).
  DERIVED. THE GIVEN ROWS OF THIS SEAT. 13 by the template 'for every input the law returns true; each argument reads behind the call as it read before'; 0 by the template 'total and deterministic' (their statements: YtikejalfiaindaaTotals.lean).
  GIVEN WITH THE SEED: the statements are not yours to turn. If you find one false, say at which input.
  Laid BY PROGRAM, IN A SANDBOX (cutbox-rows.mjs): the forced cells as the released guide's own fill.sh prints them over the translation 7e2c06822bf00e74… (all of the seat's roots in one cut). By AI agents, Wed Nov 11 2026. No macro, syntax, notation, axiom, sorry.
-/
import Derived.Test.YtikejalfiaindaaChecked
import GoSem.Claim
import GoSem.ClaimJoined
import GoSem.ClaimMapViews
import Derived.JoinedTies
import Derived.KernelRfl
namespace Go.Proofs.Ytikejalfiaindaa
/- THE CELL 'sum', in the pinned program and in every row, IS THE sha256 OF THE DUMP (.gsa) THAT YtikejalfiaindaaProg.lean LOADS. Nothing in Lean hashes anything: it is a label: what it is worth is what the hold of that sum in a sandbox is worth. -/
noncomputable def Try.pinned : Pinned := { name := "ytikejalfiaindaa", sum := "7e2c06822bf00e7455d2eb51c409c232ec49bb7cf0ebce3a3a8c331f643bc8d3", checked := Try.checked }
namespace Rows
def none {H : Type} : Left H := { results := [], args := [] }

/-- 'laws.FnBlockSha1': WHATEVER THE INPUT: true; the input reads as it did. -/
def fnBlockSha1Spec : ChangeSpec := { name := "fnBlockSha1", fn := fun _ => fun
  | [d1, d2] => { results := [.lit (.bool true)], args := [d1, d2] }
  | _ => none }
def fnBlockSha1Row : OpenClaim := { program := "ytikejalfiaindaa", sum := "7e2c06822bf00e7455d2eb51c409c232ec49bb7cf0ebce3a3a8c331f643bc8d3", func := "loop.example/pub-g03426/laws.FnBlockSha1", spec := "fnBlockSha1", apart := false }
def FnBlockSha1Said : Prop := fnBlockSha1Row.holds Try.pinned (OpenSpec.ofChange fnBlockSha1Spec)

/-- ITS FALSE NEIGHBOUR: 'it returns false'. Refute it at one input. -/
def fnBlockSha1Wrong : ChangeSpec := { name := "fnBlockSha1", fn := fun _ => fun
  | [d1, d2] => { results := [.lit (.bool false)], args := [d1, d2] }
  | _ => none }
def FnBlockSha1WrongFalsely : Prop := fnBlockSha1Row.holds Try.pinned (OpenSpec.ofChange fnBlockSha1Wrong)

/-- 'laws.FnBlockSha1Apart': WHATEVER THE INPUT: true; the input reads as it did. -/
def fnBlockSha1ApartSpec : ChangeSpec := { name := "fnBlockSha1Apart", fn := fun _ => fun
  | [d1, d2, d3] => { results := [.lit (.bool true)], args := [d1, d2, d3] }
  | _ => none }
def fnBlockSha1ApartRow : OpenClaim := { program := "ytikejalfiaindaa", sum := "7e2c06822bf00e7455d2eb51c409c232ec49bb7cf0ebce3a3a8c331f643bc8d3", func := "loop.example/pub-g03426/laws.FnBlockSha1Apart", spec := "fnBlockSha1Apart", apart := false }
def FnBlockSha1ApartSaid : Prop := fnBlockSha1ApartRow.holds Try.pinned (OpenSpec.ofChange fnBlockSha1ApartSpec)

/-- ITS FALSE NEIGHBOUR: 'it returns false'. Refute it at one input. -/
def fnBlockSha1ApartWrong : ChangeSpec := { name := "fnBlockSha1Apart", fn := fun _ => fun
  | [d1, d2, d3] => { results := [.lit (.bool false)], args := [d1, d2, d3] }
  | _ => none }
def FnBlockSha1ApartWrongFalsely : Prop := fnBlockSha1ApartRow.holds Try.pinned (OpenSpec.ofChange fnBlockSha1ApartWrong)

/-- 'laws.FnOneSha1': WHATEVER THE INPUT: true; the input reads as it did. -/
def fnOneSha1Spec : ChangeSpec := { name := "fnOneSha1", fn := fun _ => fun
  | [d] => { results := [.lit (.bool true)], args := [d] }
  | _ => none }
def fnOneSha1Row : OpenClaim := { program := "ytikejalfiaindaa", sum := "7e2c06822bf00e7455d2eb51c409c232ec49bb7cf0ebce3a3a8c331f643bc8d3", func := "loop.example/pub-g03426/laws.FnOneSha1", spec := "fnOneSha1", apart := false }
def FnOneSha1Said : Prop := fnOneSha1Row.holds Try.pinned (OpenSpec.ofChange fnOneSha1Spec)

/-- ITS FALSE NEIGHBOUR: 'it returns false'. Refute it at one input. -/
def fnOneSha1Wrong : ChangeSpec := { name := "fnOneSha1", fn := fun _ => fun
  | [d] => { results := [.lit (.bool false)], args := [d] }
  | _ => none }
def FnOneSha1WrongFalsely : Prop := fnOneSha1Row.holds Try.pinned (OpenSpec.ofChange fnOneSha1Wrong)

/-- 'laws.FnKeptBehindSha1': WHATEVER THE INPUT: true; the input reads as it did. -/
def fnKeptBehindSha1Spec : ChangeSpec := { name := "fnKeptBehindSha1", fn := fun _ => fun
  | [d1, d2] => { results := [.lit (.bool true)], args := [d1, d2] }
  | _ => none }
def fnKeptBehindSha1Row : OpenClaim := { program := "ytikejalfiaindaa", sum := "7e2c06822bf00e7455d2eb51c409c232ec49bb7cf0ebce3a3a8c331f643bc8d3", func := "loop.example/pub-g03426/laws.FnKeptBehindSha1", spec := "fnKeptBehindSha1", apart := false }
def FnKeptBehindSha1Said : Prop := fnKeptBehindSha1Row.holds Try.pinned (OpenSpec.ofChange fnKeptBehindSha1Spec)

/-- ITS FALSE NEIGHBOUR: 'it returns false'. Refute it at one input. -/
def fnKeptBehindSha1Wrong : ChangeSpec := { name := "fnKeptBehindSha1", fn := fun _ => fun
  | [d1, d2] => { results := [.lit (.bool false)], args := [d1, d2] }
  | _ => none }
def FnKeptBehindSha1WrongFalsely : Prop := fnKeptBehindSha1Row.holds Try.pinned (OpenSpec.ofChange fnKeptBehindSha1Wrong)

/-- 'laws.FnPiecesSha1': WHATEVER THE INPUT: true; the input reads as it did. -/
def fnPiecesSha1Spec : ChangeSpec := { name := "fnPiecesSha1", fn := fun _ => fun
  | [d] => { results := [.lit (.bool true)], args := [d] }
  | _ => none }
def fnPiecesSha1Row : OpenClaim := { program := "ytikejalfiaindaa", sum := "7e2c06822bf00e7455d2eb51c409c232ec49bb7cf0ebce3a3a8c331f643bc8d3", func := "loop.example/pub-g03426/laws.FnPiecesSha1", spec := "fnPiecesSha1", apart := false }
def FnPiecesSha1Said : Prop := fnPiecesSha1Row.holds Try.pinned (OpenSpec.ofChange fnPiecesSha1Spec)

/-- ITS FALSE NEIGHBOUR: 'it returns false'. Refute it at one input. -/
def fnPiecesSha1Wrong : ChangeSpec := { name := "fnPiecesSha1", fn := fun _ => fun
  | [d] => { results := [.lit (.bool false)], args := [d] }
  | _ => none }
def FnPiecesSha1WrongFalsely : Prop := fnPiecesSha1Row.holds Try.pinned (OpenSpec.ofChange fnPiecesSha1Wrong)

/-- 'laws.FnSha1': WHATEVER THE INPUT: true; the input reads as it did. -/
def fnSha1Spec : ChangeSpec := { name := "fnSha1", fn := fun _ => fun
  | [d] => { results := [.lit (.bool true)], args := [d] }
  | _ => none }
def fnSha1Row : OpenClaim := { program := "ytikejalfiaindaa", sum := "7e2c06822bf00e7455d2eb51c409c232ec49bb7cf0ebce3a3a8c331f643bc8d3", func := "loop.example/pub-g03426/laws.FnSha1", spec := "fnSha1", apart := false }
def FnSha1Said : Prop := fnSha1Row.holds Try.pinned (OpenSpec.ofChange fnSha1Spec)

/-- ITS FALSE NEIGHBOUR: 'it returns false'. Refute it at one input. -/
def fnSha1Wrong : ChangeSpec := { name := "fnSha1", fn := fun _ => fun
  | [d] => { results := [.lit (.bool false)], args := [d] }
  | _ => none }
def FnSha1WrongFalsely : Prop := fnSha1Row.holds Try.pinned (OpenSpec.ofChange fnSha1Wrong)

/-- 'laws.FnStill': WHATEVER THE INPUT: true; the input reads as it did. -/
def fnStillSpec : ChangeSpec := { name := "fnStill", fn := fun _ => fun
  | [d1, d2] => { results := [.lit (.bool true)], args := [d1, d2] }
  | _ => none }
def fnStillRow : OpenClaim := { program := "ytikejalfiaindaa", sum := "7e2c06822bf00e7455d2eb51c409c232ec49bb7cf0ebce3a3a8c331f643bc8d3", func := "loop.example/pub-g03426/laws.FnStill", spec := "fnStill", apart := false }
def FnStillSaid : Prop := fnStillRow.holds Try.pinned (OpenSpec.ofChange fnStillSpec)

/-- ITS FALSE NEIGHBOUR: 'it returns false'. Refute it at one input. -/
def fnStillWrong : ChangeSpec := { name := "fnStill", fn := fun _ => fun
  | [d1, d2] => { results := [.lit (.bool false)], args := [d1, d2] }
  | _ => none }
def FnStillWrongFalsely : Prop := fnStillRow.holds Try.pinned (OpenSpec.ofChange fnStillWrong)

/-- 'laws.FnOneRoadsSha1': WHATEVER THE INPUT: true; the input reads as it did. -/
def fnOneRoadsSha1Spec : ChangeSpec := { name := "fnOneRoadsSha1", fn := fun _ => fun
  | [d] => { results := [.lit (.bool true)], args := [d] }
  | _ => none }
def fnOneRoadsSha1Row : OpenClaim := { program := "ytikejalfiaindaa", sum := "7e2c06822bf00e7455d2eb51c409c232ec49bb7cf0ebce3a3a8c331f643bc8d3", func := "loop.example/pub-g03426/laws.FnOneRoadsSha1", spec := "fnOneRoadsSha1", apart := false }
def FnOneRoadsSha1Said : Prop := fnOneRoadsSha1Row.holds Try.pinned (OpenSpec.ofChange fnOneRoadsSha1Spec)

/-- ITS FALSE NEIGHBOUR: 'it returns false'. Refute it at one input. -/
def fnOneRoadsSha1Wrong : ChangeSpec := { name := "fnOneRoadsSha1", fn := fun _ => fun
  | [d] => { results := [.lit (.bool false)], args := [d] }
  | _ => none }
def FnOneRoadsSha1WrongFalsely : Prop := fnOneRoadsSha1Row.holds Try.pinned (OpenSpec.ofChange fnOneRoadsSha1Wrong)

/-- 'laws.FnRoadSha1': WHATEVER THE INPUT: true; the input reads as it did. -/
def fnRoadSha1Spec : ChangeSpec := { name := "fnRoadSha1", fn := fun _ => fun
  | [d] => { results := [.lit (.bool true)], args := [d] }
  | _ => none }
def fnRoadSha1Row : OpenClaim := { program := "ytikejalfiaindaa", sum := "7e2c06822bf00e7455d2eb51c409c232ec49bb7cf0ebce3a3a8c331f643bc8d3", func := "loop.example/pub-g03426/laws.FnRoadSha1", spec := "fnRoadSha1", apart := false }
def FnRoadSha1Said : Prop := fnRoadSha1Row.holds Try.pinned (OpenSpec.ofChange fnRoadSha1Spec)

/-- ITS FALSE NEIGHBOUR: 'it returns false'. Refute it at one input. -/
def fnRoadSha1Wrong : ChangeSpec := { name := "fnRoadSha1", fn := fun _ => fun
  | [d] => { results := [.lit (.bool false)], args := [d] }
  | _ => none }
def FnRoadSha1WrongFalsely : Prop := fnRoadSha1Row.holds Try.pinned (OpenSpec.ofChange fnRoadSha1Wrong)

/-- 'laws.FnStepsSha1': WHATEVER THE INPUT: true; the input reads as it did. -/
def fnStepsSha1Spec : ChangeSpec := { name := "fnStepsSha1", fn := fun _ => fun
  | [d1, d2] => { results := [.lit (.bool true)], args := [d1, d2] }
  | _ => none }
def fnStepsSha1Row : OpenClaim := { program := "ytikejalfiaindaa", sum := "7e2c06822bf00e7455d2eb51c409c232ec49bb7cf0ebce3a3a8c331f643bc8d3", func := "loop.example/pub-g03426/laws.FnStepsSha1", spec := "fnStepsSha1", apart := false }
def FnStepsSha1Said : Prop := fnStepsSha1Row.holds Try.pinned (OpenSpec.ofChange fnStepsSha1Spec)

/-- ITS FALSE NEIGHBOUR: 'it returns false'. Refute it at one input. -/
def fnStepsSha1Wrong : ChangeSpec := { name := "fnStepsSha1", fn := fun _ => fun
  | [d1, d2] => { results := [.lit (.bool false)], args := [d1, d2] }
  | _ => none }
def FnStepsSha1WrongFalsely : Prop := fnStepsSha1Row.holds Try.pinned (OpenSpec.ofChange fnStepsSha1Wrong)

/-- 'laws.FnKeptFailsSha1': WHATEVER THE INPUT: true; the input reads as it did. -/
def fnKeptFailsSha1Spec : ChangeSpec := { name := "fnKeptFailsSha1", fn := fun _ => fun
  | [d1, d2, d3] => { results := [.lit (.bool true)], args := [d1, d2, d3] }
  | _ => none }
def fnKeptFailsSha1Row : OpenClaim := { program := "ytikejalfiaindaa", sum := "7e2c06822bf00e7455d2eb51c409c232ec49bb7cf0ebce3a3a8c331f643bc8d3", func := "loop.example/pub-g03426/laws.FnKeptFailsSha1", spec := "fnKeptFailsSha1", apart := false }
def FnKeptFailsSha1Said : Prop := fnKeptFailsSha1Row.holds Try.pinned (OpenSpec.ofChange fnKeptFailsSha1Spec)

/-- ITS FALSE NEIGHBOUR: 'it returns false'. Refute it at one input. -/
def fnKeptFailsSha1Wrong : ChangeSpec := { name := "fnKeptFailsSha1", fn := fun _ => fun
  | [d1, d2, d3] => { results := [.lit (.bool false)], args := [d1, d2, d3] }
  | _ => none }
def FnKeptFailsSha1WrongFalsely : Prop := fnKeptFailsSha1Row.holds Try.pinned (OpenSpec.ofChange fnKeptFailsSha1Wrong)

/-- 'laws.FnKeptSha1': WHATEVER THE INPUT: true; the input reads as it did. -/
def fnKeptSha1Spec : ChangeSpec := { name := "fnKeptSha1", fn := fun _ => fun
  | [d1, d2] => { results := [.lit (.bool true)], args := [d1, d2] }
  | _ => none }
def fnKeptSha1Row : OpenClaim := { program := "ytikejalfiaindaa", sum := "7e2c06822bf00e7455d2eb51c409c232ec49bb7cf0ebce3a3a8c331f643bc8d3", func := "loop.example/pub-g03426/laws.FnKeptSha1", spec := "fnKeptSha1", apart := false }
def FnKeptSha1Said : Prop := fnKeptSha1Row.holds Try.pinned (OpenSpec.ofChange fnKeptSha1Spec)

/-- ITS FALSE NEIGHBOUR: 'it returns false'. Refute it at one input. -/
def fnKeptSha1Wrong : ChangeSpec := { name := "fnKeptSha1", fn := fun _ => fun
  | [d1, d2] => { results := [.lit (.bool false)], args := [d1, d2] }
  | _ => none }
def FnKeptSha1WrongFalsely : Prop := fnKeptSha1Row.holds Try.pinned (OpenSpec.ofChange fnKeptSha1Wrong)

/-- 'laws.FnKeptRoadsSha1': WHATEVER THE INPUT: true; the input reads as it did. -/
def fnKeptRoadsSha1Spec : ChangeSpec := { name := "fnKeptRoadsSha1", fn := fun _ => fun
  | [d1, d2] => { results := [.lit (.bool true)], args := [d1, d2] }
  | _ => none }
def fnKeptRoadsSha1Row : OpenClaim := { program := "ytikejalfiaindaa", sum := "7e2c06822bf00e7455d2eb51c409c232ec49bb7cf0ebce3a3a8c331f643bc8d3", func := "loop.example/pub-g03426/laws.FnKeptRoadsSha1", spec := "fnKeptRoadsSha1", apart := false }
def FnKeptRoadsSha1Said : Prop := fnKeptRoadsSha1Row.holds Try.pinned (OpenSpec.ofChange fnKeptRoadsSha1Spec)

/-- ITS FALSE NEIGHBOUR: 'it returns false'. Refute it at one input. -/
def fnKeptRoadsSha1Wrong : ChangeSpec := { name := "fnKeptRoadsSha1", fn := fun _ => fun
  | [d1, d2] => { results := [.lit (.bool false)], args := [d1, d2] }
  | _ => none }
def FnKeptRoadsSha1WrongFalsely : Prop := fnKeptRoadsSha1Row.holds Try.pinned (OpenSpec.ofChange fnKeptRoadsSha1Wrong)

/- THE SECOND FORM. 'bulk': how many values and letters a reading holds, each counted each time it is reached (what is shared counts as often as it is met; a slice's spare places count too). A statement '..UptoSaid' is the law's where the arguments, and the package variables that the reading takes, are together of bulk at most 1048576: NARROWER than '..Said'. Prove '..Said' where nothing that the law and all that it calls make is longer than what came in: it says more and counts as full. Else prove '..UptoSaid'. A law counts once. -/
mutual
def uptoBulk {H : Type} : DataW H → Nat
  | .lit (.string bytes) => bytes.length + 1
  | .lit _ => 1
  | .nil => 1
  | .ptr d => uptoBulk d + 1
  | .slice elems spare => uptoBulkAll elems + uptoBulkAll spare + 1
  | .agg parts => uptoBulkAll parts + 1
  | .iface _ d => uptoBulk d + 1
  | .map entries => uptoBulkEntries entries + 1
  | .held _ => 1
def uptoBulkAll {H : Type} : List (DataW H) → Nat
  | [] => 0
  | d :: r => uptoBulk d + uptoBulkAll r
def uptoBulkEntries {H : Type} : List (Lit × DataW H) → Nat
  | [] => 0
  | x :: r => uptoBulkEntry x + uptoBulkEntries r
def uptoBulkEntry {H : Type} : Lit × DataW H → Nat
  | (.string bytes, d) => bytes.length + uptoBulk d + 1
  | (_, d) => uptoBulk d + 1
 end
def uptoSmall : (H : Type) → List (DataW H) → Bool := fun _ ds => decide (uptoBulkAll ds ≤ 1048576)
def OpenSpec.upto (s : _root_.Go.ChangeSpec) : _root_.Go.OpenSpec := { _root_.Go.OpenSpec.ofChange s with cond := some uptoSmall }

/-- 'laws.FnBlockSha1', WHERE WHAT IT READS IS OF BULK AT MOST 1048576: true; the input reads as it did. -/
def fnBlockSha1UptoRow : OpenClaim := { program := "ytikejalfiaindaa", sum := "7e2c06822bf00e7455d2eb51c409c232ec49bb7cf0ebce3a3a8c331f643bc8d3", func := "loop.example/pub-g03426/laws.FnBlockSha1", spec := "fnBlockSha1", apart := false, narrowed := true }
def FnBlockSha1UptoSaid : Prop := fnBlockSha1UptoRow.holds Try.pinned (OpenSpec.upto fnBlockSha1Spec)

/-- 'laws.FnBlockSha1Apart', WHERE WHAT IT READS IS OF BULK AT MOST 1048576: true; the input reads as it did. -/
def fnBlockSha1ApartUptoRow : OpenClaim := { program := "ytikejalfiaindaa", sum := "7e2c06822bf00e7455d2eb51c409c232ec49bb7cf0ebce3a3a8c331f643bc8d3", func := "loop.example/pub-g03426/laws.FnBlockSha1Apart", spec := "fnBlockSha1Apart", apart := false, narrowed := true }
def FnBlockSha1ApartUptoSaid : Prop := fnBlockSha1ApartUptoRow.holds Try.pinned (OpenSpec.upto fnBlockSha1ApartSpec)

/-- 'laws.FnOneSha1', WHERE WHAT IT READS IS OF BULK AT MOST 1048576: true; the input reads as it did. -/
def fnOneSha1UptoRow : OpenClaim := { program := "ytikejalfiaindaa", sum := "7e2c06822bf00e7455d2eb51c409c232ec49bb7cf0ebce3a3a8c331f643bc8d3", func := "loop.example/pub-g03426/laws.FnOneSha1", spec := "fnOneSha1", apart := false, narrowed := true }
def FnOneSha1UptoSaid : Prop := fnOneSha1UptoRow.holds Try.pinned (OpenSpec.upto fnOneSha1Spec)

/-- 'laws.FnKeptBehindSha1', WHERE WHAT IT READS IS OF BULK AT MOST 1048576: true; the input reads as it did. -/
def fnKeptBehindSha1UptoRow : OpenClaim := { program := "ytikejalfiaindaa", sum := "7e2c06822bf00e7455d2eb51c409c232ec49bb7cf0ebce3a3a8c331f643bc8d3", func := "loop.example/pub-g03426/laws.FnKeptBehindSha1", spec := "fnKeptBehindSha1", apart := false, narrowed := true }
def FnKeptBehindSha1UptoSaid : Prop := fnKeptBehindSha1UptoRow.holds Try.pinned (OpenSpec.upto fnKeptBehindSha1Spec)

/-- 'laws.FnPiecesSha1', WHERE WHAT IT READS IS OF BULK AT MOST 1048576: true; the input reads as it did. -/
def fnPiecesSha1UptoRow : OpenClaim := { program := "ytikejalfiaindaa", sum := "7e2c06822bf00e7455d2eb51c409c232ec49bb7cf0ebce3a3a8c331f643bc8d3", func := "loop.example/pub-g03426/laws.FnPiecesSha1", spec := "fnPiecesSha1", apart := false, narrowed := true }
def FnPiecesSha1UptoSaid : Prop := fnPiecesSha1UptoRow.holds Try.pinned (OpenSpec.upto fnPiecesSha1Spec)

/-- 'laws.FnSha1', WHERE WHAT IT READS IS OF BULK AT MOST 1048576: true; the input reads as it did. -/
def fnSha1UptoRow : OpenClaim := { program := "ytikejalfiaindaa", sum := "7e2c06822bf00e7455d2eb51c409c232ec49bb7cf0ebce3a3a8c331f643bc8d3", func := "loop.example/pub-g03426/laws.FnSha1", spec := "fnSha1", apart := false, narrowed := true }
def FnSha1UptoSaid : Prop := fnSha1UptoRow.holds Try.pinned (OpenSpec.upto fnSha1Spec)

/-- 'laws.FnStill', WHERE WHAT IT READS IS OF BULK AT MOST 1048576: true; the input reads as it did. -/
def fnStillUptoRow : OpenClaim := { program := "ytikejalfiaindaa", sum := "7e2c06822bf00e7455d2eb51c409c232ec49bb7cf0ebce3a3a8c331f643bc8d3", func := "loop.example/pub-g03426/laws.FnStill", spec := "fnStill", apart := false, narrowed := true }
def FnStillUptoSaid : Prop := fnStillUptoRow.holds Try.pinned (OpenSpec.upto fnStillSpec)

/-- 'laws.FnOneRoadsSha1', WHERE WHAT IT READS IS OF BULK AT MOST 1048576: true; the input reads as it did. -/
def fnOneRoadsSha1UptoRow : OpenClaim := { program := "ytikejalfiaindaa", sum := "7e2c06822bf00e7455d2eb51c409c232ec49bb7cf0ebce3a3a8c331f643bc8d3", func := "loop.example/pub-g03426/laws.FnOneRoadsSha1", spec := "fnOneRoadsSha1", apart := false, narrowed := true }
def FnOneRoadsSha1UptoSaid : Prop := fnOneRoadsSha1UptoRow.holds Try.pinned (OpenSpec.upto fnOneRoadsSha1Spec)

/-- 'laws.FnRoadSha1', WHERE WHAT IT READS IS OF BULK AT MOST 1048576: true; the input reads as it did. -/
def fnRoadSha1UptoRow : OpenClaim := { program := "ytikejalfiaindaa", sum := "7e2c06822bf00e7455d2eb51c409c232ec49bb7cf0ebce3a3a8c331f643bc8d3", func := "loop.example/pub-g03426/laws.FnRoadSha1", spec := "fnRoadSha1", apart := false, narrowed := true }
def FnRoadSha1UptoSaid : Prop := fnRoadSha1UptoRow.holds Try.pinned (OpenSpec.upto fnRoadSha1Spec)

/-- 'laws.FnStepsSha1', WHERE WHAT IT READS IS OF BULK AT MOST 1048576: true; the input reads as it did. -/
def fnStepsSha1UptoRow : OpenClaim := { program := "ytikejalfiaindaa", sum := "7e2c06822bf00e7455d2eb51c409c232ec49bb7cf0ebce3a3a8c331f643bc8d3", func := "loop.example/pub-g03426/laws.FnStepsSha1", spec := "fnStepsSha1", apart := false, narrowed := true }
def FnStepsSha1UptoSaid : Prop := fnStepsSha1UptoRow.holds Try.pinned (OpenSpec.upto fnStepsSha1Spec)

/-- 'laws.FnKeptFailsSha1', WHERE WHAT IT READS IS OF BULK AT MOST 1048576: true; the input reads as it did. -/
def fnKeptFailsSha1UptoRow : OpenClaim := { program := "ytikejalfiaindaa", sum := "7e2c06822bf00e7455d2eb51c409c232ec49bb7cf0ebce3a3a8c331f643bc8d3", func := "loop.example/pub-g03426/laws.FnKeptFailsSha1", spec := "fnKeptFailsSha1", apart := false, narrowed := true }
def FnKeptFailsSha1UptoSaid : Prop := fnKeptFailsSha1UptoRow.holds Try.pinned (OpenSpec.upto fnKeptFailsSha1Spec)

/-- 'laws.FnKeptSha1', WHERE WHAT IT READS IS OF BULK AT MOST 1048576: true; the input reads as it did. -/
def fnKeptSha1UptoRow : OpenClaim := { program := "ytikejalfiaindaa", sum := "7e2c06822bf00e7455d2eb51c409c232ec49bb7cf0ebce3a3a8c331f643bc8d3", func := "loop.example/pub-g03426/laws.FnKeptSha1", spec := "fnKeptSha1", apart := false, narrowed := true }
def FnKeptSha1UptoSaid : Prop := fnKeptSha1UptoRow.holds Try.pinned (OpenSpec.upto fnKeptSha1Spec)

/-- 'laws.FnKeptRoadsSha1', WHERE WHAT IT READS IS OF BULK AT MOST 1048576: true; the input reads as it did. -/
def fnKeptRoadsSha1UptoRow : OpenClaim := { program := "ytikejalfiaindaa", sum := "7e2c06822bf00e7455d2eb51c409c232ec49bb7cf0ebce3a3a8c331f643bc8d3", func := "loop.example/pub-g03426/laws.FnKeptRoadsSha1", spec := "fnKeptRoadsSha1", apart := false, narrowed := true }
def FnKeptRoadsSha1UptoSaid : Prop := fnKeptRoadsSha1UptoRow.holds Try.pinned (OpenSpec.upto fnKeptRoadsSha1Spec)

end Rows
end Go.Proofs.Ytikejalfiaindaa
