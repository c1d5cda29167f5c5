/-
  NARROWER THAN 'FOR EVERY INPUT', by the rows' own cells (each row's printed sentence says how): FnBlock64: laid · FnBlock64Apart: laid · FnState64: laid · FnKeptBehindSha512: laid · FnPiecesSha512: laid · FnSha512: laid · FnRoad64: laid · FnStepsSha512: laid · FnKeptFailsSha512: laid · FnKeptSha512: laid · FnKeptRoadsSha512: laid.
  DERIVED. THE GIVEN ROWS OF THIS SEAT. 11 by the template 'for every input the law returns true; each argument reads behind the call as it read before'; 0 by the template 'total and deterministic' (their statements: YtggbaffkjfofhaaDoorTotals.lean).
  GIVEN WITH THE SEED: the statements are not yours to turn. If you find one false, say at which input.
  Laid BY PROGRAM, IN A SANDBOX (cutbox-rows.mjs): the forced cells as the released guide's own fill.sh prints them over the translation 7e37189f0e070582… (all of the seat's roots in one cut). By AI agents, Wed Nov 11 2026. No macro, syntax, notation, axiom, sorry.
-/
import Derived.Test.YtggbaffkjfofhaaDoorChecked
import GoSem.Claim
import GoSem.ClaimJoined
import GoSem.ClaimMapViews
import Derived.JoinedTies
import Derived.KernelRfl
namespace Go.Proofs.YtggbaffkjfofhaaDoor
/- THE CELL 'sum', in the pinned program and in every row, IS THE sha256 OF THE DUMP (.gsa) THAT YtggbaffkjfofhaaDoorProg.lean LOADS. Nothing in Lean hashes anything: it is a label: what it is worth is what the hold of that sum in a sandbox is worth. -/
noncomputable def Tryd.pinned : Pinned := { name := "ytggbaffkjfofhaadoor", sum := "7e37189f0e0705826d7bbd533cc2a26a6236d1f148246bfdcc3844d758e04227", checked := Tryd.checked }
namespace Rows
def none {H : Type} : Left H := { results := [], args := [] }

/- WHAT THE LISTED PACKAGE-LEVEL VARIABLES READ AS WHEN THE CALL BEGINS. Each datum BY PROGRAM (the guide's laid-datum.mjs) off the statement by which the dump's own 'gosem.cut.vars' lays the variable. In a bare row this is a premise. The card (YtggbaffkjfofhaaDoorCards.lean) ties it to the program's text. -/
def laid_loop_example_pub_g03426_pub_sha512_K {H : Type} : DataW H := .agg [.lit (.int .u64 4794697086780616226), .lit (.int .u64 8158064640168781261), .lit (.int .u64 13096744586834688815), .lit (.int .u64 16840607885511220156), .lit (.int .u64 4131703408338449720), .lit (.int .u64 6480981068601479193), .lit (.int .u64 10538285296894168987), .lit (.int .u64 12329834152419229976), .lit (.int .u64 15566598209576043074), .lit (.int .u64 1334009975649890238), .lit (.int .u64 2608012711638119052), .lit (.int .u64 6128411473006802146), .lit (.int .u64 8268148722764581231), .lit (.int .u64 9286055187155687089), .lit (.int .u64 11230858885718282805), .lit (.int .u64 13951009754708518548), .lit (.int .u64 16472876342353939154), .lit (.int .u64 17275323862435702243), .lit (.int .u64 1135362057144423861), .lit (.int .u64 2597628984639134821), .lit (.int .u64 3308224258029322869), .lit (.int .u64 5365058923640841347), .lit (.int .u64 6679025012923562964), .lit (.int .u64 8573033837759648693), .lit (.int .u64 10970295158949994411), .lit (.int .u64 12119686244451234320), .lit (.int .u64 12683024718118986047), .lit (.int .u64 13788192230050041572), .lit (.int .u64 14330467153632333762), .lit (.int .u64 15395433587784984357), .lit (.int .u64 489312712824947311), .lit (.int .u64 1452737877330783856), .lit (.int .u64 2861767655752347644), .lit (.int .u64 3322285676063803686), .lit (.int .u64 5560940570517711597), .lit (.int .u64 5996557281743188959), .lit (.int .u64 7280758554555802590), .lit (.int .u64 8532644243296465576), .lit (.int .u64 9350256976987008742), .lit (.int .u64 10552545826968843579), .lit (.int .u64 11727347734174303076), .lit (.int .u64 12113106623233404929), .lit (.int .u64 14000437183269869457), .lit (.int .u64 14369950271660146224), .lit (.int .u64 15101387698204529176), .lit (.int .u64 15463397548674623760), .lit (.int .u64 17586052441742319658), .lit (.int .u64 1182934255886127544), .lit (.int .u64 1847814050463011016), .lit (.int .u64 2177327727835720531), .lit (.int .u64 2830643537854262169), .lit (.int .u64 3796741975233480872), .lit (.int .u64 4115178125766777443), .lit (.int .u64 5681478168544905931), .lit (.int .u64 6601373596472566643), .lit (.int .u64 7507060721942968483), .lit (.int .u64 8399075790359081724), .lit (.int .u64 8693463985226723168), .lit (.int .u64 9568029438360202098), .lit (.int .u64 10144078919501101548), .lit (.int .u64 10430055236837252648), .lit (.int .u64 11840083180663258601), .lit (.int .u64 13761210420658862357), .lit (.int .u64 14299343276471374635), .lit (.int .u64 14566680578165727644), .lit (.int .u64 15097957966210449927), .lit (.int .u64 16922976911328602910), .lit (.int .u64 17689382322260857208), .lit (.int .u64 500013540394364858), .lit (.int .u64 748580250866718886), .lit (.int .u64 1242879168328830382), .lit (.int .u64 1977374033974150939), .lit (.int .u64 2944078676154940804), .lit (.int .u64 3659926193048069267), .lit (.int .u64 4368137639120453308), .lit (.int .u64 4836135668995329356), .lit (.int .u64 5532061633213252278), .lit (.int .u64 6448918945643986474), .lit (.int .u64 6902733635092675308), .lit (.int .u64 7801388544844847127)]

/-- 'laws.FnBlock64': WHATEVER THE INPUT: true; the input reads as it did. -/
def fnBlock64Spec : ChangeSpec := { name := "fnBlock64", vars := ["loop.example/pub-g03426/pub/sha512._K"], fn := fun _ => fun
  | [d1, d2, g1] => { results := [.lit (.bool true)], args := [d1, d2], vars := [g1] }
  | _ => none }
def fnBlock64Row : OpenClaim := { program := "ytggbaffkjfofhaadoor", sum := "7e37189f0e0705826d7bbd533cc2a26a6236d1f148246bfdcc3844d758e04227", func := "loop.example/pub-g03426/laws.FnBlock64", spec := "fnBlock64", named := ["loop.example/pub-g03426/pub/sha512._K"], apart := false, laid := [("loop.example/pub-g03426/pub/sha512._K", laid_loop_example_pub_g03426_pub_sha512_K)] }
def FnBlock64Said : Prop := fnBlock64Row.holds Tryd.pinned (OpenSpec.ofChange fnBlock64Spec)

/-- ITS FALSE NEIGHBOUR: 'it returns false'. Refute it at one input. -/
def fnBlock64Wrong : ChangeSpec := { name := "fnBlock64", vars := ["loop.example/pub-g03426/pub/sha512._K"], fn := fun _ => fun
  | [d1, d2, g1] => { results := [.lit (.bool false)], args := [d1, d2], vars := [g1] }
  | _ => none }
def FnBlock64WrongFalsely : Prop := fnBlock64Row.holds Tryd.pinned (OpenSpec.ofChange fnBlock64Wrong)

/-- 'laws.FnBlock64Apart': WHATEVER THE INPUT: true; the input reads as it did. -/
def fnBlock64ApartSpec : ChangeSpec := { name := "fnBlock64Apart", vars := ["loop.example/pub-g03426/pub/sha512._K"], fn := fun _ => fun
  | [d1, d2, d3, g1] => { results := [.lit (.bool true)], args := [d1, d2, d3], vars := [g1] }
  | _ => none }
def fnBlock64ApartRow : OpenClaim := { program := "ytggbaffkjfofhaadoor", sum := "7e37189f0e0705826d7bbd533cc2a26a6236d1f148246bfdcc3844d758e04227", func := "loop.example/pub-g03426/laws.FnBlock64Apart", spec := "fnBlock64Apart", named := ["loop.example/pub-g03426/pub/sha512._K"], apart := false, laid := [("loop.example/pub-g03426/pub/sha512._K", laid_loop_example_pub_g03426_pub_sha512_K)] }
def FnBlock64ApartSaid : Prop := fnBlock64ApartRow.holds Tryd.pinned (OpenSpec.ofChange fnBlock64ApartSpec)

/-- ITS FALSE NEIGHBOUR: 'it returns false'. Refute it at one input. -/
def fnBlock64ApartWrong : ChangeSpec := { name := "fnBlock64Apart", vars := ["loop.example/pub-g03426/pub/sha512._K"], fn := fun _ => fun
  | [d1, d2, d3, g1] => { results := [.lit (.bool false)], args := [d1, d2, d3], vars := [g1] }
  | _ => none }
def FnBlock64ApartWrongFalsely : Prop := fnBlock64ApartRow.holds Tryd.pinned (OpenSpec.ofChange fnBlock64ApartWrong)

/-- 'laws.FnState64': WHATEVER THE INPUT: true; the input reads as it did. -/
def fnState64Spec : ChangeSpec := { name := "fnState64", vars := ["loop.example/pub-g03426/pub/sha512._K"], fn := fun _ => fun
  | [d1, d2, g1] => { results := [.lit (.bool true)], args := [d1, d2], vars := [g1] }
  | _ => none }
def fnState64Row : OpenClaim := { program := "ytggbaffkjfofhaadoor", sum := "7e37189f0e0705826d7bbd533cc2a26a6236d1f148246bfdcc3844d758e04227", func := "loop.example/pub-g03426/laws.FnState64", spec := "fnState64", named := ["loop.example/pub-g03426/pub/sha512._K"], apart := false, laid := [("loop.example/pub-g03426/pub/sha512._K", laid_loop_example_pub_g03426_pub_sha512_K)] }
def FnState64Said : Prop := fnState64Row.holds Tryd.pinned (OpenSpec.ofChange fnState64Spec)

/-- ITS FALSE NEIGHBOUR: 'it returns false'. Refute it at one input. -/
def fnState64Wrong : ChangeSpec := { name := "fnState64", vars := ["loop.example/pub-g03426/pub/sha512._K"], fn := fun _ => fun
  | [d1, d2, g1] => { results := [.lit (.bool false)], args := [d1, d2], vars := [g1] }
  | _ => none }
def FnState64WrongFalsely : Prop := fnState64Row.holds Tryd.pinned (OpenSpec.ofChange fnState64Wrong)

/-- 'laws.FnKeptBehindSha512': WHATEVER THE INPUT: true; the input reads as it did. -/
def fnKeptBehindSha512Spec : ChangeSpec := { name := "fnKeptBehindSha512", vars := ["loop.example/pub-g03426/pub/sha512._K"], fn := fun _ => fun
  | [d1, d2, d3, g1] => { results := [.lit (.bool true)], args := [d1, d2, d3], vars := [g1] }
  | _ => none }
def fnKeptBehindSha512Row : OpenClaim := { program := "ytggbaffkjfofhaadoor", sum := "7e37189f0e0705826d7bbd533cc2a26a6236d1f148246bfdcc3844d758e04227", func := "loop.example/pub-g03426/laws.FnKeptBehindSha512", spec := "fnKeptBehindSha512", named := ["loop.example/pub-g03426/pub/sha512._K"], apart := false, laid := [("loop.example/pub-g03426/pub/sha512._K", laid_loop_example_pub_g03426_pub_sha512_K)] }
def FnKeptBehindSha512Said : Prop := fnKeptBehindSha512Row.holds Tryd.pinned (OpenSpec.ofChange fnKeptBehindSha512Spec)

/-- ITS FALSE NEIGHBOUR: 'it returns false'. Refute it at one input. -/
def fnKeptBehindSha512Wrong : ChangeSpec := { name := "fnKeptBehindSha512", vars := ["loop.example/pub-g03426/pub/sha512._K"], fn := fun _ => fun
  | [d1, d2, d3, g1] => { results := [.lit (.bool false)], args := [d1, d2, d3], vars := [g1] }
  | _ => none }
def FnKeptBehindSha512WrongFalsely : Prop := fnKeptBehindSha512Row.holds Tryd.pinned (OpenSpec.ofChange fnKeptBehindSha512Wrong)

/-- 'laws.FnPiecesSha512': WHATEVER THE INPUT: true; the input reads as it did. -/
def fnPiecesSha512Spec : ChangeSpec := { name := "fnPiecesSha512", vars := ["loop.example/pub-g03426/pub/sha512._K"], fn := fun _ => fun
  | [d1, d2, g1] => { results := [.lit (.bool true)], args := [d1, d2], vars := [g1] }
  | _ => none }
def fnPiecesSha512Row : OpenClaim := { program := "ytggbaffkjfofhaadoor", sum := "7e37189f0e0705826d7bbd533cc2a26a6236d1f148246bfdcc3844d758e04227", func := "loop.example/pub-g03426/laws.FnPiecesSha512", spec := "fnPiecesSha512", named := ["loop.example/pub-g03426/pub/sha512._K"], apart := false, laid := [("loop.example/pub-g03426/pub/sha512._K", laid_loop_example_pub_g03426_pub_sha512_K)] }
def FnPiecesSha512Said : Prop := fnPiecesSha512Row.holds Tryd.pinned (OpenSpec.ofChange fnPiecesSha512Spec)

/-- ITS FALSE NEIGHBOUR: 'it returns false'. Refute it at one input. -/
def fnPiecesSha512Wrong : ChangeSpec := { name := "fnPiecesSha512", vars := ["loop.example/pub-g03426/pub/sha512._K"], fn := fun _ => fun
  | [d1, d2, g1] => { results := [.lit (.bool false)], args := [d1, d2], vars := [g1] }
  | _ => none }
def FnPiecesSha512WrongFalsely : Prop := fnPiecesSha512Row.holds Tryd.pinned (OpenSpec.ofChange fnPiecesSha512Wrong)

/-- 'laws.FnSha512': WHATEVER THE INPUT: true; the input reads as it did. -/
def fnSha512Spec : ChangeSpec := { name := "fnSha512", vars := ["loop.example/pub-g03426/pub/sha512._K"], fn := fun _ => fun
  | [d1, d2, g1] => { results := [.lit (.bool true)], args := [d1, d2], vars := [g1] }
  | _ => none }
def fnSha512Row : OpenClaim := { program := "ytggbaffkjfofhaadoor", sum := "7e37189f0e0705826d7bbd533cc2a26a6236d1f148246bfdcc3844d758e04227", func := "loop.example/pub-g03426/laws.FnSha512", spec := "fnSha512", named := ["loop.example/pub-g03426/pub/sha512._K"], apart := false, laid := [("loop.example/pub-g03426/pub/sha512._K", laid_loop_example_pub_g03426_pub_sha512_K)] }
def FnSha512Said : Prop := fnSha512Row.holds Tryd.pinned (OpenSpec.ofChange fnSha512Spec)

/-- ITS FALSE NEIGHBOUR: 'it returns false'. Refute it at one input. -/
def fnSha512Wrong : ChangeSpec := { name := "fnSha512", vars := ["loop.example/pub-g03426/pub/sha512._K"], fn := fun _ => fun
  | [d1, d2, g1] => { results := [.lit (.bool false)], args := [d1, d2], vars := [g1] }
  | _ => none }
def FnSha512WrongFalsely : Prop := fnSha512Row.holds Tryd.pinned (OpenSpec.ofChange fnSha512Wrong)

/-- 'laws.FnRoad64': WHATEVER THE INPUT: true; the input reads as it did. -/
def fnRoad64Spec : ChangeSpec := { name := "fnRoad64", vars := ["loop.example/pub-g03426/pub/sha512._K"], fn := fun _ => fun
  | [d1, d2, g1] => { results := [.lit (.bool true)], args := [d1, d2], vars := [g1] }
  | _ => none }
def fnRoad64Row : OpenClaim := { program := "ytggbaffkjfofhaadoor", sum := "7e37189f0e0705826d7bbd533cc2a26a6236d1f148246bfdcc3844d758e04227", func := "loop.example/pub-g03426/laws.FnRoad64", spec := "fnRoad64", named := ["loop.example/pub-g03426/pub/sha512._K"], apart := false, laid := [("loop.example/pub-g03426/pub/sha512._K", laid_loop_example_pub_g03426_pub_sha512_K)] }
def FnRoad64Said : Prop := fnRoad64Row.holds Tryd.pinned (OpenSpec.ofChange fnRoad64Spec)

/-- ITS FALSE NEIGHBOUR: 'it returns false'. Refute it at one input. -/
def fnRoad64Wrong : ChangeSpec := { name := "fnRoad64", vars := ["loop.example/pub-g03426/pub/sha512._K"], fn := fun _ => fun
  | [d1, d2, g1] => { results := [.lit (.bool false)], args := [d1, d2], vars := [g1] }
  | _ => none }
def FnRoad64WrongFalsely : Prop := fnRoad64Row.holds Tryd.pinned (OpenSpec.ofChange fnRoad64Wrong)

/-- 'laws.FnStepsSha512': WHATEVER THE INPUT: true; the input reads as it did. -/
def fnStepsSha512Spec : ChangeSpec := { name := "fnStepsSha512", vars := ["loop.example/pub-g03426/pub/sha512._K"], fn := fun _ => fun
  | [d1, d2, d3, g1] => { results := [.lit (.bool true)], args := [d1, d2, d3], vars := [g1] }
  | _ => none }
def fnStepsSha512Row : OpenClaim := { program := "ytggbaffkjfofhaadoor", sum := "7e37189f0e0705826d7bbd533cc2a26a6236d1f148246bfdcc3844d758e04227", func := "loop.example/pub-g03426/laws.FnStepsSha512", spec := "fnStepsSha512", named := ["loop.example/pub-g03426/pub/sha512._K"], apart := false, laid := [("loop.example/pub-g03426/pub/sha512._K", laid_loop_example_pub_g03426_pub_sha512_K)] }
def FnStepsSha512Said : Prop := fnStepsSha512Row.holds Tryd.pinned (OpenSpec.ofChange fnStepsSha512Spec)

/-- ITS FALSE NEIGHBOUR: 'it returns false'. Refute it at one input. -/
def fnStepsSha512Wrong : ChangeSpec := { name := "fnStepsSha512", vars := ["loop.example/pub-g03426/pub/sha512._K"], fn := fun _ => fun
  | [d1, d2, d3, g1] => { results := [.lit (.bool false)], args := [d1, d2, d3], vars := [g1] }
  | _ => none }
def FnStepsSha512WrongFalsely : Prop := fnStepsSha512Row.holds Tryd.pinned (OpenSpec.ofChange fnStepsSha512Wrong)

/-- 'laws.FnKeptFailsSha512': WHATEVER THE INPUT: true; the input reads as it did. -/
def fnKeptFailsSha512Spec : ChangeSpec := { name := "fnKeptFailsSha512", vars := ["loop.example/pub-g03426/pub/sha512._K"], fn := fun _ => fun
  | [d1, d2, d3, d4, d5, g1] => { results := [.lit (.bool true)], args := [d1, d2, d3, d4, d5], vars := [g1] }
  | _ => none }
def fnKeptFailsSha512Row : OpenClaim := { program := "ytggbaffkjfofhaadoor", sum := "7e37189f0e0705826d7bbd533cc2a26a6236d1f148246bfdcc3844d758e04227", func := "loop.example/pub-g03426/laws.FnKeptFailsSha512", spec := "fnKeptFailsSha512", named := ["loop.example/pub-g03426/pub/sha512._K"], apart := false, laid := [("loop.example/pub-g03426/pub/sha512._K", laid_loop_example_pub_g03426_pub_sha512_K)] }
def FnKeptFailsSha512Said : Prop := fnKeptFailsSha512Row.holds Tryd.pinned (OpenSpec.ofChange fnKeptFailsSha512Spec)

/-- ITS FALSE NEIGHBOUR: 'it returns false'. Refute it at one input. -/
def fnKeptFailsSha512Wrong : ChangeSpec := { name := "fnKeptFailsSha512", vars := ["loop.example/pub-g03426/pub/sha512._K"], fn := fun _ => fun
  | [d1, d2, d3, d4, d5, g1] => { results := [.lit (.bool false)], args := [d1, d2, d3, d4, d5], vars := [g1] }
  | _ => none }
def FnKeptFailsSha512WrongFalsely : Prop := fnKeptFailsSha512Row.holds Tryd.pinned (OpenSpec.ofChange fnKeptFailsSha512Wrong)

/-- 'laws.FnKeptSha512': WHATEVER THE INPUT: true; the input reads as it did. -/
def fnKeptSha512Spec : ChangeSpec := { name := "fnKeptSha512", vars := ["loop.example/pub-g03426/pub/sha512._K"], fn := fun _ => fun
  | [d1, d2, d3, g1] => { results := [.lit (.bool true)], args := [d1, d2, d3], vars := [g1] }
  | _ => none }
def fnKeptSha512Row : OpenClaim := { program := "ytggbaffkjfofhaadoor", sum := "7e37189f0e0705826d7bbd533cc2a26a6236d1f148246bfdcc3844d758e04227", func := "loop.example/pub-g03426/laws.FnKeptSha512", spec := "fnKeptSha512", named := ["loop.example/pub-g03426/pub/sha512._K"], apart := false, laid := [("loop.example/pub-g03426/pub/sha512._K", laid_loop_example_pub_g03426_pub_sha512_K)] }
def FnKeptSha512Said : Prop := fnKeptSha512Row.holds Tryd.pinned (OpenSpec.ofChange fnKeptSha512Spec)

/-- ITS FALSE NEIGHBOUR: 'it returns false'. Refute it at one input. -/
def fnKeptSha512Wrong : ChangeSpec := { name := "fnKeptSha512", vars := ["loop.example/pub-g03426/pub/sha512._K"], fn := fun _ => fun
  | [d1, d2, d3, g1] => { results := [.lit (.bool false)], args := [d1, d2, d3], vars := [g1] }
  | _ => none }
def FnKeptSha512WrongFalsely : Prop := fnKeptSha512Row.holds Tryd.pinned (OpenSpec.ofChange fnKeptSha512Wrong)

/-- 'laws.FnKeptRoadsSha512': WHATEVER THE INPUT: true; the input reads as it did. -/
def fnKeptRoadsSha512Spec : ChangeSpec := { name := "fnKeptRoadsSha512", vars := ["loop.example/pub-g03426/pub/sha512._K"], fn := fun _ => fun
  | [d1, d2, d3, g1] => { results := [.lit (.bool true)], args := [d1, d2, d3], vars := [g1] }
  | _ => none }
def fnKeptRoadsSha512Row : OpenClaim := { program := "ytggbaffkjfofhaadoor", sum := "7e37189f0e0705826d7bbd533cc2a26a6236d1f148246bfdcc3844d758e04227", func := "loop.example/pub-g03426/laws.FnKeptRoadsSha512", spec := "fnKeptRoadsSha512", named := ["loop.example/pub-g03426/pub/sha512._K"], apart := false, laid := [("loop.example/pub-g03426/pub/sha512._K", laid_loop_example_pub_g03426_pub_sha512_K)] }
def FnKeptRoadsSha512Said : Prop := fnKeptRoadsSha512Row.holds Tryd.pinned (OpenSpec.ofChange fnKeptRoadsSha512Spec)

/-- ITS FALSE NEIGHBOUR: 'it returns false'. Refute it at one input. -/
def fnKeptRoadsSha512Wrong : ChangeSpec := { name := "fnKeptRoadsSha512", vars := ["loop.example/pub-g03426/pub/sha512._K"], fn := fun _ => fun
  | [d1, d2, d3, g1] => { results := [.lit (.bool false)], args := [d1, d2, d3], vars := [g1] }
  | _ => none }
def FnKeptRoadsSha512WrongFalsely : Prop := fnKeptRoadsSha512Row.holds Tryd.pinned (OpenSpec.ofChange fnKeptRoadsSha512Wrong)

/- THE SECOND FORM. 'bulk': how many values and letters a reading holds, each counted each time it is reached (what is shared counts as often as it is met; a slice's spare places count too). A statement '..UptoSaid' is the law's where the arguments, and the package variables that the reading takes, are together of bulk at most 1048576: NARROWER than '..Said'. Prove '..Said' where nothing that the law and all that it calls make is longer than what came in: it says more and counts as full. Else prove '..UptoSaid'. A law counts once. -/
mutual
def uptoBulk {H : Type} : DataW H → Nat
  | .lit (.string bytes) => bytes.length + 1
  | .lit _ => 1
  | .nil => 1
  | .ptr d => uptoBulk d + 1
  | .slice elems spare => uptoBulkAll elems + uptoBulkAll spare + 1
  | .agg parts => uptoBulkAll parts + 1
  | .iface _ d => uptoBulk d + 1
  | .map entries => uptoBulkEntries entries + 1
  | .held _ => 1
def uptoBulkAll {H : Type} : List (DataW H) → Nat
  | [] => 0
  | d :: r => uptoBulk d + uptoBulkAll r
def uptoBulkEntries {H : Type} : List (Lit × DataW H) → Nat
  | [] => 0
  | x :: r => uptoBulkEntry x + uptoBulkEntries r
def uptoBulkEntry {H : Type} : Lit × DataW H → Nat
  | (.string bytes, d) => bytes.length + uptoBulk d + 1
  | (_, d) => uptoBulk d + 1
 end
def uptoSmall : (H : Type) → List (DataW H) → Bool := fun _ ds => decide (uptoBulkAll ds ≤ 1048576)
def OpenSpec.upto (s : _root_.Go.ChangeSpec) : _root_.Go.OpenSpec := { _root_.Go.OpenSpec.ofChange s with cond := some uptoSmall }

/-- 'laws.FnBlock64', WHERE WHAT IT READS IS OF BULK AT MOST 1048576: true; the input reads as it did. -/
def fnBlock64UptoRow : OpenClaim := { program := "ytggbaffkjfofhaadoor", sum := "7e37189f0e0705826d7bbd533cc2a26a6236d1f148246bfdcc3844d758e04227", func := "loop.example/pub-g03426/laws.FnBlock64", spec := "fnBlock64", named := ["loop.example/pub-g03426/pub/sha512._K"], apart := false, laid := [("loop.example/pub-g03426/pub/sha512._K", laid_loop_example_pub_g03426_pub_sha512_K)], narrowed := true }
def FnBlock64UptoSaid : Prop := fnBlock64UptoRow.holds Tryd.pinned (OpenSpec.upto fnBlock64Spec)

/-- 'laws.FnBlock64Apart', WHERE WHAT IT READS IS OF BULK AT MOST 1048576: true; the input reads as it did. -/
def fnBlock64ApartUptoRow : OpenClaim := { program := "ytggbaffkjfofhaadoor", sum := "7e37189f0e0705826d7bbd533cc2a26a6236d1f148246bfdcc3844d758e04227", func := "loop.example/pub-g03426/laws.FnBlock64Apart", spec := "fnBlock64Apart", named := ["loop.example/pub-g03426/pub/sha512._K"], apart := false, laid := [("loop.example/pub-g03426/pub/sha512._K", laid_loop_example_pub_g03426_pub_sha512_K)], narrowed := true }
def FnBlock64ApartUptoSaid : Prop := fnBlock64ApartUptoRow.holds Tryd.pinned (OpenSpec.upto fnBlock64ApartSpec)

/-- 'laws.FnState64', WHERE WHAT IT READS IS OF BULK AT MOST 1048576: true; the input reads as it did. -/
def fnState64UptoRow : OpenClaim := { program := "ytggbaffkjfofhaadoor", sum := "7e37189f0e0705826d7bbd533cc2a26a6236d1f148246bfdcc3844d758e04227", func := "loop.example/pub-g03426/laws.FnState64", spec := "fnState64", named := ["loop.example/pub-g03426/pub/sha512._K"], apart := false, laid := [("loop.example/pub-g03426/pub/sha512._K", laid_loop_example_pub_g03426_pub_sha512_K)], narrowed := true }
def FnState64UptoSaid : Prop := fnState64UptoRow.holds Tryd.pinned (OpenSpec.upto fnState64Spec)

/-- 'laws.FnKeptBehindSha512', WHERE WHAT IT READS IS OF BULK AT MOST 1048576: true; the input reads as it did. -/
def fnKeptBehindSha512UptoRow : OpenClaim := { program := "ytggbaffkjfofhaadoor", sum := "7e37189f0e0705826d7bbd533cc2a26a6236d1f148246bfdcc3844d758e04227", func := "loop.example/pub-g03426/laws.FnKeptBehindSha512", spec := "fnKeptBehindSha512", named := ["loop.example/pub-g03426/pub/sha512._K"], apart := false, laid := [("loop.example/pub-g03426/pub/sha512._K", laid_loop_example_pub_g03426_pub_sha512_K)], narrowed := true }
def FnKeptBehindSha512UptoSaid : Prop := fnKeptBehindSha512UptoRow.holds Tryd.pinned (OpenSpec.upto fnKeptBehindSha512Spec)

/-- 'laws.FnPiecesSha512', WHERE WHAT IT READS IS OF BULK AT MOST 1048576: true; the input reads as it did. -/
def fnPiecesSha512UptoRow : OpenClaim := { program := "ytggbaffkjfofhaadoor", sum := "7e37189f0e0705826d7bbd533cc2a26a6236d1f148246bfdcc3844d758e04227", func := "loop.example/pub-g03426/laws.FnPiecesSha512", spec := "fnPiecesSha512", named := ["loop.example/pub-g03426/pub/sha512._K"], apart := false, laid := [("loop.example/pub-g03426/pub/sha512._K", laid_loop_example_pub_g03426_pub_sha512_K)], narrowed := true }
def FnPiecesSha512UptoSaid : Prop := fnPiecesSha512UptoRow.holds Tryd.pinned (OpenSpec.upto fnPiecesSha512Spec)

/-- 'laws.FnSha512', WHERE WHAT IT READS IS OF BULK AT MOST 1048576: true; the input reads as it did. -/
def fnSha512UptoRow : OpenClaim := { program := "ytggbaffkjfofhaadoor", sum := "7e37189f0e0705826d7bbd533cc2a26a6236d1f148246bfdcc3844d758e04227", func := "loop.example/pub-g03426/laws.FnSha512", spec := "fnSha512", named := ["loop.example/pub-g03426/pub/sha512._K"], apart := false, laid := [("loop.example/pub-g03426/pub/sha512._K", laid_loop_example_pub_g03426_pub_sha512_K)], narrowed := true }
def FnSha512UptoSaid : Prop := fnSha512UptoRow.holds Tryd.pinned (OpenSpec.upto fnSha512Spec)

/-- 'laws.FnRoad64', WHERE WHAT IT READS IS OF BULK AT MOST 1048576: true; the input reads as it did. -/
def fnRoad64UptoRow : OpenClaim := { program := "ytggbaffkjfofhaadoor", sum := "7e37189f0e0705826d7bbd533cc2a26a6236d1f148246bfdcc3844d758e04227", func := "loop.example/pub-g03426/laws.FnRoad64", spec := "fnRoad64", named := ["loop.example/pub-g03426/pub/sha512._K"], apart := false, laid := [("loop.example/pub-g03426/pub/sha512._K", laid_loop_example_pub_g03426_pub_sha512_K)], narrowed := true }
def FnRoad64UptoSaid : Prop := fnRoad64UptoRow.holds Tryd.pinned (OpenSpec.upto fnRoad64Spec)

/-- 'laws.FnStepsSha512', WHERE WHAT IT READS IS OF BULK AT MOST 1048576: true; the input reads as it did. -/
def fnStepsSha512UptoRow : OpenClaim := { program := "ytggbaffkjfofhaadoor", sum := "7e37189f0e0705826d7bbd533cc2a26a6236d1f148246bfdcc3844d758e04227", func := "loop.example/pub-g03426/laws.FnStepsSha512", spec := "fnStepsSha512", named := ["loop.example/pub-g03426/pub/sha512._K"], apart := false, laid := [("loop.example/pub-g03426/pub/sha512._K", laid_loop_example_pub_g03426_pub_sha512_K)], narrowed := true }
def FnStepsSha512UptoSaid : Prop := fnStepsSha512UptoRow.holds Tryd.pinned (OpenSpec.upto fnStepsSha512Spec)

/-- 'laws.FnKeptFailsSha512', WHERE WHAT IT READS IS OF BULK AT MOST 1048576: true; the input reads as it did. -/
def fnKeptFailsSha512UptoRow : OpenClaim := { program := "ytggbaffkjfofhaadoor", sum := "7e37189f0e0705826d7bbd533cc2a26a6236d1f148246bfdcc3844d758e04227", func := "loop.example/pub-g03426/laws.FnKeptFailsSha512", spec := "fnKeptFailsSha512", named := ["loop.example/pub-g03426/pub/sha512._K"], apart := false, laid := [("loop.example/pub-g03426/pub/sha512._K", laid_loop_example_pub_g03426_pub_sha512_K)], narrowed := true }
def FnKeptFailsSha512UptoSaid : Prop := fnKeptFailsSha512UptoRow.holds Tryd.pinned (OpenSpec.upto fnKeptFailsSha512Spec)

/-- 'laws.FnKeptSha512', WHERE WHAT IT READS IS OF BULK AT MOST 1048576: true; the input reads as it did. -/
def fnKeptSha512UptoRow : OpenClaim := { program := "ytggbaffkjfofhaadoor", sum := "7e37189f0e0705826d7bbd533cc2a26a6236d1f148246bfdcc3844d758e04227", func := "loop.example/pub-g03426/laws.FnKeptSha512", spec := "fnKeptSha512", named := ["loop.example/pub-g03426/pub/sha512._K"], apart := false, laid := [("loop.example/pub-g03426/pub/sha512._K", laid_loop_example_pub_g03426_pub_sha512_K)], narrowed := true }
def FnKeptSha512UptoSaid : Prop := fnKeptSha512UptoRow.holds Tryd.pinned (OpenSpec.upto fnKeptSha512Spec)

/-- 'laws.FnKeptRoadsSha512', WHERE WHAT IT READS IS OF BULK AT MOST 1048576: true; the input reads as it did. -/
def fnKeptRoadsSha512UptoRow : OpenClaim := { program := "ytggbaffkjfofhaadoor", sum := "7e37189f0e0705826d7bbd533cc2a26a6236d1f148246bfdcc3844d758e04227", func := "loop.example/pub-g03426/laws.FnKeptRoadsSha512", spec := "fnKeptRoadsSha512", named := ["loop.example/pub-g03426/pub/sha512._K"], apart := false, laid := [("loop.example/pub-g03426/pub/sha512._K", laid_loop_example_pub_g03426_pub_sha512_K)], narrowed := true }
def FnKeptRoadsSha512UptoSaid : Prop := fnKeptRoadsSha512UptoRow.holds Tryd.pinned (OpenSpec.upto fnKeptRoadsSha512Spec)

end Rows
end Go.Proofs.YtggbaffkjfofhaaDoor
