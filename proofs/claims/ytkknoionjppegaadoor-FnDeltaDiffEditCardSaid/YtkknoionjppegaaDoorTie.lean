/-
  DERIVED. GIVEN WITH THE SEED: THE PROGRAM's TIES (one call each: nine closed facts by the kernel) AND EACH ROW's TIE, after the 31st guide's Derived/Test/Toyas{Tie, Card}.lean. No idea stands in it: it is a product of the set-up. Laid BY PROGRAM, IN A SANDBOX (cutbox-door.mjs). By AI agents, Wed Nov 11 2026. No macro, syntax, notation, axiom, sorry.
-/
import Derived.Test.YtkknoionjppegaaDoorRows
import Derived.LaidByTextLater
import Derived.SevenTiedAt
import Derived.LaidSub
import Derived.LaidOnce
namespace Go.Proofs.YtkknoionjppegaaDoor
open Go
set_option maxRecDepth 100000
theorem seatTie1 : Tryd.prog.laidByTextLater [("bytes.ErrTooLarge", Rows.laid_bytes_ErrTooLarge), ("loop.example/pub-g01474/pub/gogit/plumbing/format/packfile.len8tab", Rows.laid_loop_example_pub_g01474_pub_gogit_plumbing_format_packfile_len8tab), ("loop.example/pub-g01474/pub/gogit/plumbing/format/packfile.T", Rows.laid_loop_example_pub_g01474_pub_gogit_plumbing_format_packfile_T), ("loop.example/pub-g01474/pub/gogit/plumbing/format/packfile.ErrInvalidDelta", Rows.laid_loop_example_pub_g01474_pub_gogit_plumbing_format_packfile_ErrInvalidDelta), ("loop.example/pub-g01474/pub/gogit/plumbing/format/packfile.ErrDeltaCmd", Rows.laid_loop_example_pub_g01474_pub_gogit_plumbing_format_packfile_ErrDeltaCmd), ("loop.example/pub-g01474/pub/gogit/plumbing/format/packfile.offsets", Rows.laid_loop_example_pub_g01474_pub_gogit_plumbing_format_packfile_offsets), ("loop.example/pub-g01474/pub/gogit/plumbing/format/packfile.sizes", Rows.laid_loop_example_pub_g01474_pub_gogit_plumbing_format_packfile_sizes), ("loop.example/pub-g01474/pub/gogit/plumbing/format/packfile.ErrLengthOverflow", Rows.laid_loop_example_pub_g01474_pub_gogit_plumbing_format_packfile_ErrLengthOverflow)] [.sentinel, .data, .data, .sentinel, .sentinel, .data, .data, .sentinel] true :=
  Program.laidByTextLater_by_one 112 8 257 (by kernel_rfl) (by kernel_rfl) (by kernel_rfl) (by kernel_rfl) (by kernel_rfl) (by kernel_rfl) (fun _ _ => by kernel_rfl)
theorem noOwnUnsafe : Tryd.pinned.checked.prog.headLifts.contains "ownunsafe" = false := by kernel_rfl
theorem tie : Tryd.prog.laidByTextLater [("bytes.ErrTooLarge", Rows.laid_bytes_ErrTooLarge), ("loop.example/pub-g01474/pub/gogit/plumbing/format/packfile.len8tab", Rows.laid_loop_example_pub_g01474_pub_gogit_plumbing_format_packfile_len8tab), ("loop.example/pub-g01474/pub/gogit/plumbing/format/packfile.T", Rows.laid_loop_example_pub_g01474_pub_gogit_plumbing_format_packfile_T), ("loop.example/pub-g01474/pub/gogit/plumbing/format/packfile.ErrInvalidDelta", Rows.laid_loop_example_pub_g01474_pub_gogit_plumbing_format_packfile_ErrInvalidDelta), ("loop.example/pub-g01474/pub/gogit/plumbing/format/packfile.ErrDeltaCmd", Rows.laid_loop_example_pub_g01474_pub_gogit_plumbing_format_packfile_ErrDeltaCmd), ("loop.example/pub-g01474/pub/gogit/plumbing/format/packfile.offsets", Rows.laid_loop_example_pub_g01474_pub_gogit_plumbing_format_packfile_offsets), ("loop.example/pub-g01474/pub/gogit/plumbing/format/packfile.sizes", Rows.laid_loop_example_pub_g01474_pub_gogit_plumbing_format_packfile_sizes), ("loop.example/pub-g01474/pub/gogit/plumbing/format/packfile.ErrLengthOverflow", Rows.laid_loop_example_pub_g01474_pub_gogit_plumbing_format_packfile_ErrLengthOverflow)] [.sentinel, .data, .data, .sentinel, .sentinel, .data, .data, .sentinel] true :=
  Program.laidByTextLater.sub seatTie1 ["bytes.ErrTooLarge", "loop.example/pub-g01474/pub/gogit/plumbing/format/packfile.len8tab", "loop.example/pub-g01474/pub/gogit/plumbing/format/packfile.T", "loop.example/pub-g01474/pub/gogit/plumbing/format/packfile.ErrInvalidDelta", "loop.example/pub-g01474/pub/gogit/plumbing/format/packfile.ErrDeltaCmd", "loop.example/pub-g01474/pub/gogit/plumbing/format/packfile.offsets", "loop.example/pub-g01474/pub/gogit/plumbing/format/packfile.sizes", "loop.example/pub-g01474/pub/gogit/plumbing/format/packfile.ErrLengthOverflow"] (by kernel_rfl) (by kernel_rfl)
theorem fnDeltaDiffEdit_row_tie : Rows.fnDeltaDiffEditRow.laidByTextAt .later Tryd.pinned [.sentinel, .data, .data, .sentinel, .sentinel, .data, .data, .sentinel] true :=
  OpenClaim.laidByTextAt_later rfl rfl tie noOwnUnsafe
theorem fnDeltaDiffRead_row_tie : Rows.fnDeltaDiffReadRow.laidByTextAt .later Tryd.pinned [.sentinel, .data, .data, .sentinel, .sentinel, .data, .data, .sentinel] true :=
  OpenClaim.laidByTextAt_later rfl rfl tie noOwnUnsafe
theorem fnDeltaDiffEditUpto_row_tie : Rows.fnDeltaDiffEditUptoRow.laidByTextAt .later Tryd.pinned [.sentinel, .data, .data, .sentinel, .sentinel, .data, .data, .sentinel] true :=
  OpenClaim.laidByTextAt_later rfl rfl tie noOwnUnsafe
theorem fnDeltaDiffReadUpto_row_tie : Rows.fnDeltaDiffReadUptoRow.laidByTextAt .later Tryd.pinned [.sentinel, .data, .data, .sentinel, .sentinel, .data, .data, .sentinel] true :=
  OpenClaim.laidByTextAt_later rfl rfl tie noOwnUnsafe
end Go.Proofs.YtkknoionjppegaaDoor
