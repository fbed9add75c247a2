/-
  DERIVED. GIVEN WITH THE SEED: THE PROGRAM's TIES (one call each: nine closed facts by the kernel) AND EACH ROW's TIE, after the 31st guide's Derived/Test/Toyas{Tie, Card}.lean. No idea stands in it: it is a product of the set-up. Laid BY PROGRAM, IN A SANDBOX (cutbox-door.mjs). By AI agents, Wed Nov 11 2026. No macro, syntax, notation, axiom, sorry.
-/
import Derived.Test.YtfoifemajoebpaaDoorRows
import Derived.LaidByTextLater
import Derived.SevenTiedAt
import Derived.LaidSub
import Derived.LaidOnce
namespace Go.Proofs.YtfoifemajoebpaaDoor
open Go
set_option maxRecDepth 100000
theorem seatTie1 : Tryd.prog.laidByTextLater [("loop.example/pub-g01479/pub/mathutil.popcnt", Rows.laid_loop_example_pub_g01479_pub_mathutil_popcnt), ("loop.example/pub-g01479/pub/mathutil.log2", Rows.laid_loop_example_pub_g01479_pub_mathutil_log2)] [.data, .data] true :=
  Program.laidByTextLater_by_one 19 8 257 (by kernel_rfl) (by kernel_rfl) (by kernel_rfl) (by kernel_rfl) (by kernel_rfl) (by kernel_rfl) (fun _ _ => by kernel_rfl)
theorem noOwnUnsafe : Tryd.pinned.checked.prog.headLifts.contains "ownunsafe" = false := by kernel_rfl
theorem tie : Tryd.prog.laidByTextLater [("loop.example/pub-g01479/pub/mathutil.popcnt", Rows.laid_loop_example_pub_g01479_pub_mathutil_popcnt), ("loop.example/pub-g01479/pub/mathutil.log2", Rows.laid_loop_example_pub_g01479_pub_mathutil_log2)] [.data, .data] true :=
  Program.laidByTextLater.sub seatTie1 ["loop.example/pub-g01479/pub/mathutil.popcnt", "loop.example/pub-g01479/pub/mathutil.log2"] (by kernel_rfl) (by kernel_rfl)
theorem fnBitLen_row_tie : Rows.fnBitLenRow.laidByTextAt .later Tryd.pinned [.data, .data] true :=
  OpenClaim.laidByTextAt_later rfl rfl tie noOwnUnsafe
theorem fnLog2_row_tie : Rows.fnLog2Row.laidByTextAt .later Tryd.pinned [.data, .data] true :=
  OpenClaim.laidByTextAt_later rfl rfl tie noOwnUnsafe
theorem fnPopCount_row_tie : Rows.fnPopCountRow.laidByTextAt .later Tryd.pinned [.data, .data] true :=
  OpenClaim.laidByTextAt_later rfl rfl tie noOwnUnsafe
theorem fnPopJoined_row_tie : Rows.fnPopJoinedRow.laidByTextAt .later Tryd.pinned [.data, .data] true :=
  OpenClaim.laidByTextAt_later rfl rfl tie noOwnUnsafe
theorem fnBitLenUpto_row_tie : Rows.fnBitLenUptoRow.laidByTextAt .later Tryd.pinned [.data, .data] true :=
  OpenClaim.laidByTextAt_later rfl rfl tie noOwnUnsafe
theorem fnLog2Upto_row_tie : Rows.fnLog2UptoRow.laidByTextAt .later Tryd.pinned [.data, .data] true :=
  OpenClaim.laidByTextAt_later rfl rfl tie noOwnUnsafe
theorem fnPopCountUpto_row_tie : Rows.fnPopCountUptoRow.laidByTextAt .later Tryd.pinned [.data, .data] true :=
  OpenClaim.laidByTextAt_later rfl rfl tie noOwnUnsafe
theorem fnPopJoinedUpto_row_tie : Rows.fnPopJoinedUptoRow.laidByTextAt .later Tryd.pinned [.data, .data] true :=
  OpenClaim.laidByTextAt_later rfl rfl tie noOwnUnsafe
end Go.Proofs.YtfoifemajoebpaaDoor
