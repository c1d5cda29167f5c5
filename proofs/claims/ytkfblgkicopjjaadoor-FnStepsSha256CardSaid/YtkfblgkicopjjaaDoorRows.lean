/-
  NARROWER THAN 'FOR EVERY INPUT', by the rows' own cells (each row's printed sentence says how): FnBlock32: laid · FnBlock32Apart: laid · FnState32: laid · FnKeptBehindSha256: laid · FnPiecesSha256: laid · FnSha256: laid · FnRoad32: laid · FnStepsSha256: laid · FnKeptFailsSha256: laid · FnKeptSha256: laid · FnKeptRoadsSha256: laid.
  DERIVED. THE GIVEN ROWS OF THIS SEAT. 11 by the template 'for every input the law returns true; each argument reads behind the call as it read before'; 0 by the template 'total and deterministic' (their statements: YtkfblgkicopjjaaDoorTotals.lean).
  GIVEN WITH THE SEED: the statements are not yours to turn. If you find one false, say at which input.
  Laid BY PROGRAM, IN A SANDBOX (cutbox-rows.mjs): the forced cells as the released guide's own fill.sh prints them over the translation 8a1ea6b0973fe758… (all of the seat's roots in one cut). By AI agents, Wed Nov 11 2026. No macro, syntax, notation, axiom, sorry.
-/
import Derived.Test.YtkfblgkicopjjaaDoorChecked
import GoSem.Claim
import GoSem.ClaimJoined
import GoSem.ClaimMapViews
import Derived.JoinedTies
import Derived.KernelRfl
namespace Go.Proofs.YtkfblgkicopjjaaDoor
/- THE CELL 'sum', in the pinned program and in every row, IS THE sha256 OF THE DUMP (.gsa) THAT YtkfblgkicopjjaaDoorProg.lean LOADS. Nothing in Lean hashes anything: it is a label: what it is worth is what the hold of that sum in a sandbox is worth. -/
noncomputable def Tryd.pinned : Pinned := { name := "ytkfblgkicopjjaadoor", sum := "8a1ea6b0973fe7580caea3410ad0811b67b3a54cedf6fed9f4a3fe7e297f2a7f", checked := Tryd.checked }
namespace Rows
def none {H : Type} : Left H := { results := [], args := [] }

/- WHAT THE LISTED PACKAGE-LEVEL VARIABLES READ AS WHEN THE CALL BEGINS. Each datum BY PROGRAM (the guide's laid-datum.mjs) off the statement by which the dump's own 'gosem.cut.vars' lays the variable. In a bare row this is a premise. The card (YtkfblgkicopjjaaDoorCards.lean) ties it to the program's text. -/
def laid_loop_example_pub_g03426_pub_sha256_K {H : Type} : DataW H := .agg [.lit (.int .u32 1116352408), .lit (.int .u32 1899447441), .lit (.int .u32 3049323471), .lit (.int .u32 3921009573), .lit (.int .u32 961987163), .lit (.int .u32 1508970993), .lit (.int .u32 2453635748), .lit (.int .u32 2870763221), .lit (.int .u32 3624381080), .lit (.int .u32 310598401), .lit (.int .u32 607225278), .lit (.int .u32 1426881987), .lit (.int .u32 1925078388), .lit (.int .u32 2162078206), .lit (.int .u32 2614888103), .lit (.int .u32 3248222580), .lit (.int .u32 3835390401), .lit (.int .u32 4022224774), .lit (.int .u32 264347078), .lit (.int .u32 604807628), .lit (.int .u32 770255983), .lit (.int .u32 1249150122), .lit (.int .u32 1555081692), .lit (.int .u32 1996064986), .lit (.int .u32 2554220882), .lit (.int .u32 2821834349), .lit (.int .u32 2952996808), .lit (.int .u32 3210313671), .lit (.int .u32 3336571891), .lit (.int .u32 3584528711), .lit (.int .u32 113926993), .lit (.int .u32 338241895), .lit (.int .u32 666307205), .lit (.int .u32 773529912), .lit (.int .u32 1294757372), .lit (.int .u32 1396182291), .lit (.int .u32 1695183700), .lit (.int .u32 1986661051), .lit (.int .u32 2177026350), .lit (.int .u32 2456956037), .lit (.int .u32 2730485921), .lit (.int .u32 2820302411), .lit (.int .u32 3259730800), .lit (.int .u32 3345764771), .lit (.int .u32 3516065817), .lit (.int .u32 3600352804), .lit (.int .u32 4094571909), .lit (.int .u32 275423344), .lit (.int .u32 430227734), .lit (.int .u32 506948616), .lit (.int .u32 659060556), .lit (.int .u32 883997877), .lit (.int .u32 958139571), .lit (.int .u32 1322822218), .lit (.int .u32 1537002063), .lit (.int .u32 1747873779), .lit (.int .u32 1955562222), .lit (.int .u32 2024104815), .lit (.int .u32 2227730452), .lit (.int .u32 2361852424), .lit (.int .u32 2428436474), .lit (.int .u32 2756734187), .lit (.int .u32 3204031479), .lit (.int .u32 3329325298)]

/-- 'laws.FnBlock32': WHATEVER THE INPUT: true; the input reads as it did. -/
def fnBlock32Spec : ChangeSpec := { name := "fnBlock32", vars := ["loop.example/pub-g03426/pub/sha256._K"], fn := fun _ => fun
  | [d1, d2, g1] => { results := [.lit (.bool true)], args := [d1, d2], vars := [g1] }
  | _ => none }
def fnBlock32Row : OpenClaim := { program := "ytkfblgkicopjjaadoor", sum := "8a1ea6b0973fe7580caea3410ad0811b67b3a54cedf6fed9f4a3fe7e297f2a7f", func := "loop.example/pub-g03426/laws.FnBlock32", spec := "fnBlock32", named := ["loop.example/pub-g03426/pub/sha256._K"], apart := false, laid := [("loop.example/pub-g03426/pub/sha256._K", laid_loop_example_pub_g03426_pub_sha256_K)] }
def FnBlock32Said : Prop := fnBlock32Row.holds Tryd.pinned (OpenSpec.ofChange fnBlock32Spec)

/-- ITS FALSE NEIGHBOUR: 'it returns false'. Refute it at one input. -/
def fnBlock32Wrong : ChangeSpec := { name := "fnBlock32", vars := ["loop.example/pub-g03426/pub/sha256._K"], fn := fun _ => fun
  | [d1, d2, g1] => { results := [.lit (.bool false)], args := [d1, d2], vars := [g1] }
  | _ => none }
def FnBlock32WrongFalsely : Prop := fnBlock32Row.holds Tryd.pinned (OpenSpec.ofChange fnBlock32Wrong)

/-- 'laws.FnBlock32Apart': WHATEVER THE INPUT: true; the input reads as it did. -/
def fnBlock32ApartSpec : ChangeSpec := { name := "fnBlock32Apart", vars := ["loop.example/pub-g03426/pub/sha256._K"], fn := fun _ => fun
  | [d1, d2, d3, g1] => { results := [.lit (.bool true)], args := [d1, d2, d3], vars := [g1] }
  | _ => none }
def fnBlock32ApartRow : OpenClaim := { program := "ytkfblgkicopjjaadoor", sum := "8a1ea6b0973fe7580caea3410ad0811b67b3a54cedf6fed9f4a3fe7e297f2a7f", func := "loop.example/pub-g03426/laws.FnBlock32Apart", spec := "fnBlock32Apart", named := ["loop.example/pub-g03426/pub/sha256._K"], apart := false, laid := [("loop.example/pub-g03426/pub/sha256._K", laid_loop_example_pub_g03426_pub_sha256_K)] }
def FnBlock32ApartSaid : Prop := fnBlock32ApartRow.holds Tryd.pinned (OpenSpec.ofChange fnBlock32ApartSpec)

/-- ITS FALSE NEIGHBOUR: 'it returns false'. Refute it at one input. -/
def fnBlock32ApartWrong : ChangeSpec := { name := "fnBlock32Apart", vars := ["loop.example/pub-g03426/pub/sha256._K"], fn := fun _ => fun
  | [d1, d2, d3, g1] => { results := [.lit (.bool false)], args := [d1, d2, d3], vars := [g1] }
  | _ => none }
def FnBlock32ApartWrongFalsely : Prop := fnBlock32ApartRow.holds Tryd.pinned (OpenSpec.ofChange fnBlock32ApartWrong)

/-- 'laws.FnState32': WHATEVER THE INPUT: true; the input reads as it did. -/
def fnState32Spec : ChangeSpec := { name := "fnState32", vars := ["loop.example/pub-g03426/pub/sha256._K"], fn := fun _ => fun
  | [d1, d2, g1] => { results := [.lit (.bool true)], args := [d1, d2], vars := [g1] }
  | _ => none }
def fnState32Row : OpenClaim := { program := "ytkfblgkicopjjaadoor", sum := "8a1ea6b0973fe7580caea3410ad0811b67b3a54cedf6fed9f4a3fe7e297f2a7f", func := "loop.example/pub-g03426/laws.FnState32", spec := "fnState32", named := ["loop.example/pub-g03426/pub/sha256._K"], apart := false, laid := [("loop.example/pub-g03426/pub/sha256._K", laid_loop_example_pub_g03426_pub_sha256_K)] }
def FnState32Said : Prop := fnState32Row.holds Tryd.pinned (OpenSpec.ofChange fnState32Spec)

/-- ITS FALSE NEIGHBOUR: 'it returns false'. Refute it at one input. -/
def fnState32Wrong : ChangeSpec := { name := "fnState32", vars := ["loop.example/pub-g03426/pub/sha256._K"], fn := fun _ => fun
  | [d1, d2, g1] => { results := [.lit (.bool false)], args := [d1, d2], vars := [g1] }
  | _ => none }
def FnState32WrongFalsely : Prop := fnState32Row.holds Tryd.pinned (OpenSpec.ofChange fnState32Wrong)

/-- 'laws.FnKeptBehindSha256': WHATEVER THE INPUT: true; the input reads as it did. -/
def fnKeptBehindSha256Spec : ChangeSpec := { name := "fnKeptBehindSha256", vars := ["loop.example/pub-g03426/pub/sha256._K"], fn := fun _ => fun
  | [d1, d2, d3, g1] => { results := [.lit (.bool true)], args := [d1, d2, d3], vars := [g1] }
  | _ => none }
def fnKeptBehindSha256Row : OpenClaim := { program := "ytkfblgkicopjjaadoor", sum := "8a1ea6b0973fe7580caea3410ad0811b67b3a54cedf6fed9f4a3fe7e297f2a7f", func := "loop.example/pub-g03426/laws.FnKeptBehindSha256", spec := "fnKeptBehindSha256", named := ["loop.example/pub-g03426/pub/sha256._K"], apart := false, laid := [("loop.example/pub-g03426/pub/sha256._K", laid_loop_example_pub_g03426_pub_sha256_K)] }
def FnKeptBehindSha256Said : Prop := fnKeptBehindSha256Row.holds Tryd.pinned (OpenSpec.ofChange fnKeptBehindSha256Spec)

/-- ITS FALSE NEIGHBOUR: 'it returns false'. Refute it at one input. -/
def fnKeptBehindSha256Wrong : ChangeSpec := { name := "fnKeptBehindSha256", vars := ["loop.example/pub-g03426/pub/sha256._K"], fn := fun _ => fun
  | [d1, d2, d3, g1] => { results := [.lit (.bool false)], args := [d1, d2, d3], vars := [g1] }
  | _ => none }
def FnKeptBehindSha256WrongFalsely : Prop := fnKeptBehindSha256Row.holds Tryd.pinned (OpenSpec.ofChange fnKeptBehindSha256Wrong)

/-- 'laws.FnPiecesSha256': WHATEVER THE INPUT: true; the input reads as it did. -/
def fnPiecesSha256Spec : ChangeSpec := { name := "fnPiecesSha256", vars := ["loop.example/pub-g03426/pub/sha256._K"], fn := fun _ => fun
  | [d1, d2, g1] => { results := [.lit (.bool true)], args := [d1, d2], vars := [g1] }
  | _ => none }
def fnPiecesSha256Row : OpenClaim := { program := "ytkfblgkicopjjaadoor", sum := "8a1ea6b0973fe7580caea3410ad0811b67b3a54cedf6fed9f4a3fe7e297f2a7f", func := "loop.example/pub-g03426/laws.FnPiecesSha256", spec := "fnPiecesSha256", named := ["loop.example/pub-g03426/pub/sha256._K"], apart := false, laid := [("loop.example/pub-g03426/pub/sha256._K", laid_loop_example_pub_g03426_pub_sha256_K)] }
def FnPiecesSha256Said : Prop := fnPiecesSha256Row.holds Tryd.pinned (OpenSpec.ofChange fnPiecesSha256Spec)

/-- ITS FALSE NEIGHBOUR: 'it returns false'. Refute it at one input. -/
def fnPiecesSha256Wrong : ChangeSpec := { name := "fnPiecesSha256", vars := ["loop.example/pub-g03426/pub/sha256._K"], fn := fun _ => fun
  | [d1, d2, g1] => { results := [.lit (.bool false)], args := [d1, d2], vars := [g1] }
  | _ => none }
def FnPiecesSha256WrongFalsely : Prop := fnPiecesSha256Row.holds Tryd.pinned (OpenSpec.ofChange fnPiecesSha256Wrong)

/-- 'laws.FnSha256': WHATEVER THE INPUT: true; the input reads as it did. -/
def fnSha256Spec : ChangeSpec := { name := "fnSha256", vars := ["loop.example/pub-g03426/pub/sha256._K"], fn := fun _ => fun
  | [d1, d2, g1] => { results := [.lit (.bool true)], args := [d1, d2], vars := [g1] }
  | _ => none }
def fnSha256Row : OpenClaim := { program := "ytkfblgkicopjjaadoor", sum := "8a1ea6b0973fe7580caea3410ad0811b67b3a54cedf6fed9f4a3fe7e297f2a7f", func := "loop.example/pub-g03426/laws.FnSha256", spec := "fnSha256", named := ["loop.example/pub-g03426/pub/sha256._K"], apart := false, laid := [("loop.example/pub-g03426/pub/sha256._K", laid_loop_example_pub_g03426_pub_sha256_K)] }
def FnSha256Said : Prop := fnSha256Row.holds Tryd.pinned (OpenSpec.ofChange fnSha256Spec)

/-- ITS FALSE NEIGHBOUR: 'it returns false'. Refute it at one input. -/
def fnSha256Wrong : ChangeSpec := { name := "fnSha256", vars := ["loop.example/pub-g03426/pub/sha256._K"], fn := fun _ => fun
  | [d1, d2, g1] => { results := [.lit (.bool false)], args := [d1, d2], vars := [g1] }
  | _ => none }
def FnSha256WrongFalsely : Prop := fnSha256Row.holds Tryd.pinned (OpenSpec.ofChange fnSha256Wrong)

/-- 'laws.FnRoad32': WHATEVER THE INPUT: true; the input reads as it did. -/
def fnRoad32Spec : ChangeSpec := { name := "fnRoad32", vars := ["loop.example/pub-g03426/pub/sha256._K"], fn := fun _ => fun
  | [d1, d2, g1] => { results := [.lit (.bool true)], args := [d1, d2], vars := [g1] }
  | _ => none }
def fnRoad32Row : OpenClaim := { program := "ytkfblgkicopjjaadoor", sum := "8a1ea6b0973fe7580caea3410ad0811b67b3a54cedf6fed9f4a3fe7e297f2a7f", func := "loop.example/pub-g03426/laws.FnRoad32", spec := "fnRoad32", named := ["loop.example/pub-g03426/pub/sha256._K"], apart := false, laid := [("loop.example/pub-g03426/pub/sha256._K", laid_loop_example_pub_g03426_pub_sha256_K)] }
def FnRoad32Said : Prop := fnRoad32Row.holds Tryd.pinned (OpenSpec.ofChange fnRoad32Spec)

/-- ITS FALSE NEIGHBOUR: 'it returns false'. Refute it at one input. -/
def fnRoad32Wrong : ChangeSpec := { name := "fnRoad32", vars := ["loop.example/pub-g03426/pub/sha256._K"], fn := fun _ => fun
  | [d1, d2, g1] => { results := [.lit (.bool false)], args := [d1, d2], vars := [g1] }
  | _ => none }
def FnRoad32WrongFalsely : Prop := fnRoad32Row.holds Tryd.pinned (OpenSpec.ofChange fnRoad32Wrong)

/-- 'laws.FnStepsSha256': WHATEVER THE INPUT: true; the input reads as it did. -/
def fnStepsSha256Spec : ChangeSpec := { name := "fnStepsSha256", vars := ["loop.example/pub-g03426/pub/sha256._K"], fn := fun _ => fun
  | [d1, d2, d3, g1] => { results := [.lit (.bool true)], args := [d1, d2, d3], vars := [g1] }
  | _ => none }
def fnStepsSha256Row : OpenClaim := { program := "ytkfblgkicopjjaadoor", sum := "8a1ea6b0973fe7580caea3410ad0811b67b3a54cedf6fed9f4a3fe7e297f2a7f", func := "loop.example/pub-g03426/laws.FnStepsSha256", spec := "fnStepsSha256", named := ["loop.example/pub-g03426/pub/sha256._K"], apart := false, laid := [("loop.example/pub-g03426/pub/sha256._K", laid_loop_example_pub_g03426_pub_sha256_K)] }
def FnStepsSha256Said : Prop := fnStepsSha256Row.holds Tryd.pinned (OpenSpec.ofChange fnStepsSha256Spec)

/-- ITS FALSE NEIGHBOUR: 'it returns false'. Refute it at one input. -/
def fnStepsSha256Wrong : ChangeSpec := { name := "fnStepsSha256", vars := ["loop.example/pub-g03426/pub/sha256._K"], fn := fun _ => fun
  | [d1, d2, d3, g1] => { results := [.lit (.bool false)], args := [d1, d2, d3], vars := [g1] }
  | _ => none }
def FnStepsSha256WrongFalsely : Prop := fnStepsSha256Row.holds Tryd.pinned (OpenSpec.ofChange fnStepsSha256Wrong)

/-- 'laws.FnKeptFailsSha256': WHATEVER THE INPUT: true; the input reads as it did. -/
def fnKeptFailsSha256Spec : ChangeSpec := { name := "fnKeptFailsSha256", vars := ["loop.example/pub-g03426/pub/sha256._K"], fn := fun _ => fun
  | [d1, d2, d3, d4, d5, g1] => { results := [.lit (.bool true)], args := [d1, d2, d3, d4, d5], vars := [g1] }
  | _ => none }
def fnKeptFailsSha256Row : OpenClaim := { program := "ytkfblgkicopjjaadoor", sum := "8a1ea6b0973fe7580caea3410ad0811b67b3a54cedf6fed9f4a3fe7e297f2a7f", func := "loop.example/pub-g03426/laws.FnKeptFailsSha256", spec := "fnKeptFailsSha256", named := ["loop.example/pub-g03426/pub/sha256._K"], apart := false, laid := [("loop.example/pub-g03426/pub/sha256._K", laid_loop_example_pub_g03426_pub_sha256_K)] }
def FnKeptFailsSha256Said : Prop := fnKeptFailsSha256Row.holds Tryd.pinned (OpenSpec.ofChange fnKeptFailsSha256Spec)

/-- ITS FALSE NEIGHBOUR: 'it returns false'. Refute it at one input. -/
def fnKeptFailsSha256Wrong : ChangeSpec := { name := "fnKeptFailsSha256", vars := ["loop.example/pub-g03426/pub/sha256._K"], fn := fun _ => fun
  | [d1, d2, d3, d4, d5, g1] => { results := [.lit (.bool false)], args := [d1, d2, d3, d4, d5], vars := [g1] }
  | _ => none }
def FnKeptFailsSha256WrongFalsely : Prop := fnKeptFailsSha256Row.holds Tryd.pinned (OpenSpec.ofChange fnKeptFailsSha256Wrong)

/-- 'laws.FnKeptSha256': WHATEVER THE INPUT: true; the input reads as it did. -/
def fnKeptSha256Spec : ChangeSpec := { name := "fnKeptSha256", vars := ["loop.example/pub-g03426/pub/sha256._K"], fn := fun _ => fun
  | [d1, d2, d3, g1] => { results := [.lit (.bool true)], args := [d1, d2, d3], vars := [g1] }
  | _ => none }
def fnKeptSha256Row : OpenClaim := { program := "ytkfblgkicopjjaadoor", sum := "8a1ea6b0973fe7580caea3410ad0811b67b3a54cedf6fed9f4a3fe7e297f2a7f", func := "loop.example/pub-g03426/laws.FnKeptSha256", spec := "fnKeptSha256", named := ["loop.example/pub-g03426/pub/sha256._K"], apart := false, laid := [("loop.example/pub-g03426/pub/sha256._K", laid_loop_example_pub_g03426_pub_sha256_K)] }
def FnKeptSha256Said : Prop := fnKeptSha256Row.holds Tryd.pinned (OpenSpec.ofChange fnKeptSha256Spec)

/-- ITS FALSE NEIGHBOUR: 'it returns false'. Refute it at one input. -/
def fnKeptSha256Wrong : ChangeSpec := { name := "fnKeptSha256", vars := ["loop.example/pub-g03426/pub/sha256._K"], fn := fun _ => fun
  | [d1, d2, d3, g1] => { results := [.lit (.bool false)], args := [d1, d2, d3], vars := [g1] }
  | _ => none }
def FnKeptSha256WrongFalsely : Prop := fnKeptSha256Row.holds Tryd.pinned (OpenSpec.ofChange fnKeptSha256Wrong)

/-- 'laws.FnKeptRoadsSha256': WHATEVER THE INPUT: true; the input reads as it did. -/
def fnKeptRoadsSha256Spec : ChangeSpec := { name := "fnKeptRoadsSha256", vars := ["loop.example/pub-g03426/pub/sha256._K"], fn := fun _ => fun
  | [d1, d2, d3, g1] => { results := [.lit (.bool true)], args := [d1, d2, d3], vars := [g1] }
  | _ => none }
def fnKeptRoadsSha256Row : OpenClaim := { program := "ytkfblgkicopjjaadoor", sum := "8a1ea6b0973fe7580caea3410ad0811b67b3a54cedf6fed9f4a3fe7e297f2a7f", func := "loop.example/pub-g03426/laws.FnKeptRoadsSha256", spec := "fnKeptRoadsSha256", named := ["loop.example/pub-g03426/pub/sha256._K"], apart := false, laid := [("loop.example/pub-g03426/pub/sha256._K", laid_loop_example_pub_g03426_pub_sha256_K)] }
def FnKeptRoadsSha256Said : Prop := fnKeptRoadsSha256Row.holds Tryd.pinned (OpenSpec.ofChange fnKeptRoadsSha256Spec)

/-- ITS FALSE NEIGHBOUR: 'it returns false'. Refute it at one input. -/
def fnKeptRoadsSha256Wrong : ChangeSpec := { name := "fnKeptRoadsSha256", vars := ["loop.example/pub-g03426/pub/sha256._K"], fn := fun _ => fun
  | [d1, d2, d3, g1] => { results := [.lit (.bool false)], args := [d1, d2, d3], vars := [g1] }
  | _ => none }
def FnKeptRoadsSha256WrongFalsely : Prop := fnKeptRoadsSha256Row.holds Tryd.pinned (OpenSpec.ofChange fnKeptRoadsSha256Wrong)

/- THE SECOND FORM. 'bulk': how many values and letters a reading holds, each counted each time it is reached (what is shared counts as often as it is met; a slice's spare places count too). A statement '..UptoSaid' is the law's where the arguments, and the package variables that the reading takes, are together of bulk at most 1048576: NARROWER than '..Said'. Prove '..Said' where nothing that the law and all that it calls make is longer than what came in: it says more and counts as full. Else prove '..UptoSaid'. A law counts once. -/
mutual
def uptoBulk {H : Type} : DataW H → Nat
  | .lit (.string bytes) => bytes.length + 1
  | .lit _ => 1
  | .nil => 1
  | .ptr d => uptoBulk d + 1
  | .slice elems spare => uptoBulkAll elems + uptoBulkAll spare + 1
  | .agg parts => uptoBulkAll parts + 1
  | .iface _ d => uptoBulk d + 1
  | .map entries => uptoBulkEntries entries + 1
  | .held _ => 1
def uptoBulkAll {H : Type} : List (DataW H) → Nat
  | [] => 0
  | d :: r => uptoBulk d + uptoBulkAll r
def uptoBulkEntries {H : Type} : List (Lit × DataW H) → Nat
  | [] => 0
  | x :: r => uptoBulkEntry x + uptoBulkEntries r
def uptoBulkEntry {H : Type} : Lit × DataW H → Nat
  | (.string bytes, d) => bytes.length + uptoBulk d + 1
  | (_, d) => uptoBulk d + 1
 end
def uptoSmall : (H : Type) → List (DataW H) → Bool := fun _ ds => decide (uptoBulkAll ds ≤ 1048576)
def OpenSpec.upto (s : _root_.Go.ChangeSpec) : _root_.Go.OpenSpec := { _root_.Go.OpenSpec.ofChange s with cond := some uptoSmall }

/-- 'laws.FnBlock32', WHERE WHAT IT READS IS OF BULK AT MOST 1048576: true; the input reads as it did. -/
def fnBlock32UptoRow : OpenClaim := { program := "ytkfblgkicopjjaadoor", sum := "8a1ea6b0973fe7580caea3410ad0811b67b3a54cedf6fed9f4a3fe7e297f2a7f", func := "loop.example/pub-g03426/laws.FnBlock32", spec := "fnBlock32", named := ["loop.example/pub-g03426/pub/sha256._K"], apart := false, laid := [("loop.example/pub-g03426/pub/sha256._K", laid_loop_example_pub_g03426_pub_sha256_K)], narrowed := true }
def FnBlock32UptoSaid : Prop := fnBlock32UptoRow.holds Tryd.pinned (OpenSpec.upto fnBlock32Spec)

/-- 'laws.FnBlock32Apart', WHERE WHAT IT READS IS OF BULK AT MOST 1048576: true; the input reads as it did. -/
def fnBlock32ApartUptoRow : OpenClaim := { program := "ytkfblgkicopjjaadoor", sum := "8a1ea6b0973fe7580caea3410ad0811b67b3a54cedf6fed9f4a3fe7e297f2a7f", func := "loop.example/pub-g03426/laws.FnBlock32Apart", spec := "fnBlock32Apart", named := ["loop.example/pub-g03426/pub/sha256._K"], apart := false, laid := [("loop.example/pub-g03426/pub/sha256._K", laid_loop_example_pub_g03426_pub_sha256_K)], narrowed := true }
def FnBlock32ApartUptoSaid : Prop := fnBlock32ApartUptoRow.holds Tryd.pinned (OpenSpec.upto fnBlock32ApartSpec)

/-- 'laws.FnState32', WHERE WHAT IT READS IS OF BULK AT MOST 1048576: true; the input reads as it did. -/
def fnState32UptoRow : OpenClaim := { program := "ytkfblgkicopjjaadoor", sum := "8a1ea6b0973fe7580caea3410ad0811b67b3a54cedf6fed9f4a3fe7e297f2a7f", func := "loop.example/pub-g03426/laws.FnState32", spec := "fnState32", named := ["loop.example/pub-g03426/pub/sha256._K"], apart := false, laid := [("loop.example/pub-g03426/pub/sha256._K", laid_loop_example_pub_g03426_pub_sha256_K)], narrowed := true }
def FnState32UptoSaid : Prop := fnState32UptoRow.holds Tryd.pinned (OpenSpec.upto fnState32Spec)

/-- 'laws.FnKeptBehindSha256', WHERE WHAT IT READS IS OF BULK AT MOST 1048576: true; the input reads as it did. -/
def fnKeptBehindSha256UptoRow : OpenClaim := { program := "ytkfblgkicopjjaadoor", sum := "8a1ea6b0973fe7580caea3410ad0811b67b3a54cedf6fed9f4a3fe7e297f2a7f", func := "loop.example/pub-g03426/laws.FnKeptBehindSha256", spec := "fnKeptBehindSha256", named := ["loop.example/pub-g03426/pub/sha256._K"], apart := false, laid := [("loop.example/pub-g03426/pub/sha256._K", laid_loop_example_pub_g03426_pub_sha256_K)], narrowed := true }
def FnKeptBehindSha256UptoSaid : Prop := fnKeptBehindSha256UptoRow.holds Tryd.pinned (OpenSpec.upto fnKeptBehindSha256Spec)

/-- 'laws.FnPiecesSha256', WHERE WHAT IT READS IS OF BULK AT MOST 1048576: true; the input reads as it did. -/
def fnPiecesSha256UptoRow : OpenClaim := { program := "ytkfblgkicopjjaadoor", sum := "8a1ea6b0973fe7580caea3410ad0811b67b3a54cedf6fed9f4a3fe7e297f2a7f", func := "loop.example/pub-g03426/laws.FnPiecesSha256", spec := "fnPiecesSha256", named := ["loop.example/pub-g03426/pub/sha256._K"], apart := false, laid := [("loop.example/pub-g03426/pub/sha256._K", laid_loop_example_pub_g03426_pub_sha256_K)], narrowed := true }
def FnPiecesSha256UptoSaid : Prop := fnPiecesSha256UptoRow.holds Tryd.pinned (OpenSpec.upto fnPiecesSha256Spec)

/-- 'laws.FnSha256', WHERE WHAT IT READS IS OF BULK AT MOST 1048576: true; the input reads as it did. -/
def fnSha256UptoRow : OpenClaim := { program := "ytkfblgkicopjjaadoor", sum := "8a1ea6b0973fe7580caea3410ad0811b67b3a54cedf6fed9f4a3fe7e297f2a7f", func := "loop.example/pub-g03426/laws.FnSha256", spec := "fnSha256", named := ["loop.example/pub-g03426/pub/sha256._K"], apart := false, laid := [("loop.example/pub-g03426/pub/sha256._K", laid_loop_example_pub_g03426_pub_sha256_K)], narrowed := true }
def FnSha256UptoSaid : Prop := fnSha256UptoRow.holds Tryd.pinned (OpenSpec.upto fnSha256Spec)

/-- 'laws.FnRoad32', WHERE WHAT IT READS IS OF BULK AT MOST 1048576: true; the input reads as it did. -/
def fnRoad32UptoRow : OpenClaim := { program := "ytkfblgkicopjjaadoor", sum := "8a1ea6b0973fe7580caea3410ad0811b67b3a54cedf6fed9f4a3fe7e297f2a7f", func := "loop.example/pub-g03426/laws.FnRoad32", spec := "fnRoad32", named := ["loop.example/pub-g03426/pub/sha256._K"], apart := false, laid := [("loop.example/pub-g03426/pub/sha256._K", laid_loop_example_pub_g03426_pub_sha256_K)], narrowed := true }
def FnRoad32UptoSaid : Prop := fnRoad32UptoRow.holds Tryd.pinned (OpenSpec.upto fnRoad32Spec)

/-- 'laws.FnStepsSha256', WHERE WHAT IT READS IS OF BULK AT MOST 1048576: true; the input reads as it did. -/
def fnStepsSha256UptoRow : OpenClaim := { program := "ytkfblgkicopjjaadoor", sum := "8a1ea6b0973fe7580caea3410ad0811b67b3a54cedf6fed9f4a3fe7e297f2a7f", func := "loop.example/pub-g03426/laws.FnStepsSha256", spec := "fnStepsSha256", named := ["loop.example/pub-g03426/pub/sha256._K"], apart := false, laid := [("loop.example/pub-g03426/pub/sha256._K", laid_loop_example_pub_g03426_pub_sha256_K)], narrowed := true }
def FnStepsSha256UptoSaid : Prop := fnStepsSha256UptoRow.holds Tryd.pinned (OpenSpec.upto fnStepsSha256Spec)

/-- 'laws.FnKeptFailsSha256', WHERE WHAT IT READS IS OF BULK AT MOST 1048576: true; the input reads as it did. -/
def fnKeptFailsSha256UptoRow : OpenClaim := { program := "ytkfblgkicopjjaadoor", sum := "8a1ea6b0973fe7580caea3410ad0811b67b3a54cedf6fed9f4a3fe7e297f2a7f", func := "loop.example/pub-g03426/laws.FnKeptFailsSha256", spec := "fnKeptFailsSha256", named := ["loop.example/pub-g03426/pub/sha256._K"], apart := false, laid := [("loop.example/pub-g03426/pub/sha256._K", laid_loop_example_pub_g03426_pub_sha256_K)], narrowed := true }
def FnKeptFailsSha256UptoSaid : Prop := fnKeptFailsSha256UptoRow.holds Tryd.pinned (OpenSpec.upto fnKeptFailsSha256Spec)

/-- 'laws.FnKeptSha256', WHERE WHAT IT READS IS OF BULK AT MOST 1048576: true; the input reads as it did. -/
def fnKeptSha256UptoRow : OpenClaim := { program := "ytkfblgkicopjjaadoor", sum := "8a1ea6b0973fe7580caea3410ad0811b67b3a54cedf6fed9f4a3fe7e297f2a7f", func := "loop.example/pub-g03426/laws.FnKeptSha256", spec := "fnKeptSha256", named := ["loop.example/pub-g03426/pub/sha256._K"], apart := false, laid := [("loop.example/pub-g03426/pub/sha256._K", laid_loop_example_pub_g03426_pub_sha256_K)], narrowed := true }
def FnKeptSha256UptoSaid : Prop := fnKeptSha256UptoRow.holds Tryd.pinned (OpenSpec.upto fnKeptSha256Spec)

/-- 'laws.FnKeptRoadsSha256', WHERE WHAT IT READS IS OF BULK AT MOST 1048576: true; the input reads as it did. -/
def fnKeptRoadsSha256UptoRow : OpenClaim := { program := "ytkfblgkicopjjaadoor", sum := "8a1ea6b0973fe7580caea3410ad0811b67b3a54cedf6fed9f4a3fe7e297f2a7f", func := "loop.example/pub-g03426/laws.FnKeptRoadsSha256", spec := "fnKeptRoadsSha256", named := ["loop.example/pub-g03426/pub/sha256._K"], apart := false, laid := [("loop.example/pub-g03426/pub/sha256._K", laid_loop_example_pub_g03426_pub_sha256_K)], narrowed := true }
def FnKeptRoadsSha256UptoSaid : Prop := fnKeptRoadsSha256UptoRow.holds Tryd.pinned (OpenSpec.upto fnKeptRoadsSha256Spec)

end Rows
end Go.Proofs.YtkfblgkicopjjaaDoor
