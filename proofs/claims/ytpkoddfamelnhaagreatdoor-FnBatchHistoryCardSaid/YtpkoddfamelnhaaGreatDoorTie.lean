/-
  DERIVED. GIVEN WITH THE SEED: THE PROGRAM's TIES (one call each: nine closed facts by the kernel) AND EACH ROW's TIE, after the 31st guide's Derived/Test/Toyas{Tie, Card}.lean. No idea stands in it: it is a product of the set-up. Laid BY PROGRAM, IN A SANDBOX (cutbox-door.mjs). By AI agents, Wed Nov 11 2026. No macro, syntax, notation, axiom, sorry.
-/
import Derived.Test.YtpkoddfamelnhaaGreatDoorRows
import Derived.LaidByTextLater
import Derived.SevenTiedAt
import Derived.LaidSub
import Derived.LaidOnce
namespace Go.Proofs.YtpkoddfamelnhaaGreatDoor
open Go
set_option maxRecDepth 100000
theorem seatTie1 : Tryz.prog.laidByTextLater [("pub-tessella/pub/pebble/inner/base.ErrCorruption", Rows.laid_pub_tessella_pub_pebble_inner_base_ErrCorruption), ("pub-tessella/pub/pebble.ErrInvalidBatch", Rows.laid_pub_tessella_pub_pebble_ErrInvalidBatch), ("pub-tessella/pub/pebble.ErrBatchTooLarge", Rows.laid_pub_tessella_pub_pebble_ErrBatchTooLarge)] [.sentinel, .sentinel, .sentinel] true :=
  Program.laidByTextLater_by_one 66 8 2 (by kernel_rfl) (by kernel_rfl) (by kernel_rfl) (by kernel_rfl) (by kernel_rfl) (by kernel_rfl) (fun _ _ => by kernel_rfl)
theorem noOwnUnsafe : Tryz.pinned.checked.prog.headLifts.contains "ownunsafe" = false := by kernel_rfl
theorem tie : Tryz.prog.laidByTextLater [("pub-tessella/pub/pebble/inner/base.ErrCorruption", Rows.laid_pub_tessella_pub_pebble_inner_base_ErrCorruption), ("pub-tessella/pub/pebble.ErrInvalidBatch", Rows.laid_pub_tessella_pub_pebble_ErrInvalidBatch), ("pub-tessella/pub/pebble.ErrBatchTooLarge", Rows.laid_pub_tessella_pub_pebble_ErrBatchTooLarge)] [.sentinel, .sentinel, .sentinel] true :=
  Program.laidByTextLater.sub seatTie1 ["pub-tessella/pub/pebble/inner/base.ErrCorruption", "pub-tessella/pub/pebble.ErrInvalidBatch", "pub-tessella/pub/pebble.ErrBatchTooLarge"] (by kernel_rfl) (by kernel_rfl)
theorem fnBatchSeen_row_tie : Rows.fnBatchSeenRow.laidByTextAt .later Tryz.pinned [.sentinel, .sentinel, .sentinel] true :=
  OpenClaim.laidByTextAt_later rfl rfl tie noOwnUnsafe
theorem fnBatchSeenTwice_row_tie : Rows.fnBatchSeenTwiceRow.laidByTextAt .later Tryz.pinned [.sentinel, .sentinel, .sentinel] true :=
  OpenClaim.laidByTextAt_later rfl rfl tie noOwnUnsafe
theorem fnBatchHistory_row_tie : Rows.fnBatchHistoryRow.laidByTextAt .later Tryz.pinned [.sentinel, .sentinel, .sentinel] true :=
  OpenClaim.laidByTextAt_later rfl rfl tie noOwnUnsafe
theorem fnBatchSeenUpto_row_tie : Rows.fnBatchSeenUptoRow.laidByTextAt .later Tryz.pinned [.sentinel, .sentinel, .sentinel] true :=
  OpenClaim.laidByTextAt_later rfl rfl tie noOwnUnsafe
theorem fnBatchSeenTwiceUpto_row_tie : Rows.fnBatchSeenTwiceUptoRow.laidByTextAt .later Tryz.pinned [.sentinel, .sentinel, .sentinel] true :=
  OpenClaim.laidByTextAt_later rfl rfl tie noOwnUnsafe
theorem fnBatchHistoryUpto_row_tie : Rows.fnBatchHistoryUptoRow.laidByTextAt .later Tryz.pinned [.sentinel, .sentinel, .sentinel] true :=
  OpenClaim.laidByTextAt_later rfl rfl tie noOwnUnsafe
end Go.Proofs.YtpkoddfamelnhaaGreatDoor
