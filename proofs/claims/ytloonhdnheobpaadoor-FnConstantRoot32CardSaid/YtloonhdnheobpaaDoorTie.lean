/-
  DERIVED. GIVEN WITH THE SEED: THE PROGRAM's TIES (one call each: nine closed facts by the kernel) AND EACH ROW's TIE, after the 31st guide's Derived/Test/Toyas{Tie, Card}.lean. No idea stands in it: it is a product of the set-up. Laid BY PROGRAM, IN A SANDBOX (cutbox-door.mjs). By AI agents, Wed Nov 11 2026. No macro, syntax, notation, axiom, sorry.
-/
import Derived.Test.YtloonhdnheobpaaDoorRows
import Derived.LaidByTextLater
import Derived.SevenTiedAt
import Derived.LaidSub
import Derived.LaidOnce
namespace Go.Proofs.YtloonhdnheobpaaDoor
open Go
set_option maxRecDepth 100000
theorem seatTie1 : Tryd.prog.laidByTextLater [("loop.example/pub-g03426/pub/sha256._K", Rows.laid_loop_example_pub_g03426_pub_sha256_K), ("loop.example/pub-g03426/pub/sha512._K", Rows.laid_loop_example_pub_g03426_pub_sha512_K)] [.data, .data] true :=
  Program.laidByTextLater_by_one 19 8 81 (by kernel_rfl) (by kernel_rfl) (by kernel_rfl) (by kernel_rfl) (by kernel_rfl) (by kernel_rfl) (fun _ _ => by kernel_rfl)
theorem noOwnUnsafe : Tryd.pinned.checked.prog.headLifts.contains "ownunsafe" = false := by kernel_rfl
theorem tie : Tryd.prog.laidByTextLater [("loop.example/pub-g03426/pub/sha256._K", Rows.laid_loop_example_pub_g03426_pub_sha256_K)] [.data] true :=
  Program.laidByTextLater.sub seatTie1 ["loop.example/pub-g03426/pub/sha256._K"] (by kernel_rfl) (by kernel_rfl)
theorem fnConstant32_row_tie : Rows.fnConstant32Row.laidByTextAt .later Tryd.pinned [.data] true :=
  OpenClaim.laidByTextAt_later rfl rfl tie noOwnUnsafe
theorem fnConstantRoot32_row_tie : Rows.fnConstantRoot32Row.laidByTextAt .later Tryd.pinned [.data] true :=
  OpenClaim.laidByTextAt_later rfl rfl tie noOwnUnsafe
theorem tie2 : Tryd.prog.laidByTextLater [("loop.example/pub-g03426/pub/sha512._K", Rows.laid_loop_example_pub_g03426_pub_sha512_K)] [.data] true :=
  Program.laidByTextLater.sub seatTie1 ["loop.example/pub-g03426/pub/sha512._K"] (by kernel_rfl) (by kernel_rfl)
theorem fnConstant64_row_tie : Rows.fnConstant64Row.laidByTextAt .later Tryd.pinned [.data] true :=
  OpenClaim.laidByTextAt_later rfl rfl tie2 noOwnUnsafe
theorem fnConstantRoot_row_tie : Rows.fnConstantRootRow.laidByTextAt .later Tryd.pinned [.data] true :=
  OpenClaim.laidByTextAt_later rfl rfl tie2 noOwnUnsafe
theorem fnConstant32Upto_row_tie : Rows.fnConstant32UptoRow.laidByTextAt .later Tryd.pinned [.data] true :=
  OpenClaim.laidByTextAt_later rfl rfl tie noOwnUnsafe
theorem fnConstant64Upto_row_tie : Rows.fnConstant64UptoRow.laidByTextAt .later Tryd.pinned [.data] true :=
  OpenClaim.laidByTextAt_later rfl rfl tie2 noOwnUnsafe
theorem fnConstantRootUpto_row_tie : Rows.fnConstantRootUptoRow.laidByTextAt .later Tryd.pinned [.data] true :=
  OpenClaim.laidByTextAt_later rfl rfl tie2 noOwnUnsafe
theorem fnConstantRoot32Upto_row_tie : Rows.fnConstantRoot32UptoRow.laidByTextAt .later Tryd.pinned [.data] true :=
  OpenClaim.laidByTextAt_later rfl rfl tie noOwnUnsafe
end Go.Proofs.YtloonhdnheobpaaDoor
