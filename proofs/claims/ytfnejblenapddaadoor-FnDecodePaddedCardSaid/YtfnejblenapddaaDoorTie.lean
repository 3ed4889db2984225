/-
  DERIVED. GIVEN WITH THE SEED: THE PROGRAM's TIES (one call each: nine closed facts by the kernel) AND EACH ROW's TIE, after the 31st guide's Derived/Test/Toyas{Tie, Card}.lean. No idea stands in it: it is a product of the set-up. Laid BY PROGRAM, IN A SANDBOX (cutbox-door.mjs). By AI agents, Wed Nov 11 2026. No macro, syntax, notation, axiom, sorry.
-/
import Derived.Test.YtfnejblenapddaaDoorRows
import Derived.LaidByTextLater
import Derived.SevenTiedAt
import Derived.LaidSub
import Derived.LaidOnce
namespace Go.Proofs.YtfnejblenapddaaDoor
open Go
set_option maxRecDepth 100000
theorem seatTie1 : Tryd.prog.laidByTextLater [("loop.example/pub-g01445/pub/snappy.ErrCorrupt", Rows.laid_loop_example_pub_g01445_pub_snappy_ErrCorrupt), ("loop.example/pub-g01445/pub/snappy.ErrTooLarge", Rows.laid_loop_example_pub_g01445_pub_snappy_ErrTooLarge), ("loop.example/pub-g01445/pub/snappy.ErrUnsupported", Rows.laid_loop_example_pub_g01445_pub_snappy_ErrUnsupported), ("loop.example/pub-g01445/pub/snappy.errUnsupportedLiteralLength", Rows.laid_loop_example_pub_g01445_pub_snappy_errUnsupportedLiteralLength)] [.sentinel, .sentinel, .sentinel, .sentinel] true :=
  Program.laidByTextLater_by_one 85 8 2 (by kernel_rfl) (by kernel_rfl) (by kernel_rfl) (by kernel_rfl) (by kernel_rfl) (by kernel_rfl) (fun _ _ => by kernel_rfl)
theorem noOwnUnsafe : Tryd.pinned.checked.prog.headLifts.contains "ownunsafe" = false := by kernel_rfl
theorem tie : Tryd.prog.laidByTextLater [("loop.example/pub-g01445/pub/snappy.ErrCorrupt", Rows.laid_loop_example_pub_g01445_pub_snappy_ErrCorrupt), ("loop.example/pub-g01445/pub/snappy.ErrTooLarge", Rows.laid_loop_example_pub_g01445_pub_snappy_ErrTooLarge), ("loop.example/pub-g01445/pub/snappy.ErrUnsupported", Rows.laid_loop_example_pub_g01445_pub_snappy_ErrUnsupported), ("loop.example/pub-g01445/pub/snappy.errUnsupportedLiteralLength", Rows.laid_loop_example_pub_g01445_pub_snappy_errUnsupportedLiteralLength)] [.sentinel, .sentinel, .sentinel, .sentinel] true :=
  Program.laidByTextLater.sub seatTie1 ["loop.example/pub-g01445/pub/snappy.ErrCorrupt", "loop.example/pub-g01445/pub/snappy.ErrTooLarge", "loop.example/pub-g01445/pub/snappy.ErrUnsupported", "loop.example/pub-g01445/pub/snappy.errUnsupportedLiteralLength"] (by kernel_rfl) (by kernel_rfl)
theorem fnDecodePadded_row_tie : Rows.fnDecodePaddedRow.laidByTextAt .later Tryd.pinned [.sentinel, .sentinel, .sentinel, .sentinel] true :=
  OpenClaim.laidByTextAt_later rfl rfl tie noOwnUnsafe
theorem fnCut_row_tie : Rows.fnCutRow.laidByTextAt .later Tryd.pinned [.sentinel, .sentinel, .sentinel, .sentinel] true :=
  OpenClaim.laidByTextAt_later rfl rfl tie noOwnUnsafe
theorem fnEncodeDecode_row_tie : Rows.fnEncodeDecodeRow.laidByTextAt .later Tryd.pinned [.sentinel, .sentinel, .sentinel, .sentinel] true :=
  OpenClaim.laidByTextAt_later rfl rfl tie noOwnUnsafe
theorem fnEncodeRoom_row_tie : Rows.fnEncodeRoomRow.laidByTextAt .later Tryd.pinned [.sentinel, .sentinel, .sentinel, .sentinel] true :=
  OpenClaim.laidByTextAt_later rfl rfl tie noOwnUnsafe
theorem fnEncodeTwice_row_tie : Rows.fnEncodeTwiceRow.laidByTextAt .later Tryd.pinned [.sentinel, .sentinel, .sentinel, .sentinel] true :=
  OpenClaim.laidByTextAt_later rfl rfl tie noOwnUnsafe
theorem fnJoin_row_tie : Rows.fnJoinRow.laidByTextAt .later Tryd.pinned [.sentinel, .sentinel, .sentinel, .sentinel] true :=
  OpenClaim.laidByTextAt_later rfl rfl tie noOwnUnsafe
theorem fnLossless_row_tie : Rows.fnLosslessRow.laidByTextAt .later Tryd.pinned [.sentinel, .sentinel, .sentinel, .sentinel] true :=
  OpenClaim.laidByTextAt_later rfl rfl tie noOwnUnsafe
theorem fnDecodePaddedUpto_row_tie : Rows.fnDecodePaddedUptoRow.laidByTextAt .later Tryd.pinned [.sentinel, .sentinel, .sentinel, .sentinel] true :=
  OpenClaim.laidByTextAt_later rfl rfl tie noOwnUnsafe
theorem fnCutUpto_row_tie : Rows.fnCutUptoRow.laidByTextAt .later Tryd.pinned [.sentinel, .sentinel, .sentinel, .sentinel] true :=
  OpenClaim.laidByTextAt_later rfl rfl tie noOwnUnsafe
theorem fnEncodeDecodeUpto_row_tie : Rows.fnEncodeDecodeUptoRow.laidByTextAt .later Tryd.pinned [.sentinel, .sentinel, .sentinel, .sentinel] true :=
  OpenClaim.laidByTextAt_later rfl rfl tie noOwnUnsafe
theorem fnEncodeRoomUpto_row_tie : Rows.fnEncodeRoomUptoRow.laidByTextAt .later Tryd.pinned [.sentinel, .sentinel, .sentinel, .sentinel] true :=
  OpenClaim.laidByTextAt_later rfl rfl tie noOwnUnsafe
theorem fnEncodeTwiceUpto_row_tie : Rows.fnEncodeTwiceUptoRow.laidByTextAt .later Tryd.pinned [.sentinel, .sentinel, .sentinel, .sentinel] true :=
  OpenClaim.laidByTextAt_later rfl rfl tie noOwnUnsafe
theorem fnJoinUpto_row_tie : Rows.fnJoinUptoRow.laidByTextAt .later Tryd.pinned [.sentinel, .sentinel, .sentinel, .sentinel] true :=
  OpenClaim.laidByTextAt_later rfl rfl tie noOwnUnsafe
theorem fnLosslessUpto_row_tie : Rows.fnLosslessUptoRow.laidByTextAt .later Tryd.pinned [.sentinel, .sentinel, .sentinel, .sentinel] true :=
  OpenClaim.laidByTextAt_later rfl rfl tie noOwnUnsafe
end Go.Proofs.YtfnejblenapddaaDoor
