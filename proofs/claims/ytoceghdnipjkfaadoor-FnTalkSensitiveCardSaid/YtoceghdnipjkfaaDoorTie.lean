/-
  DERIVED. GIVEN WITH THE SEED: THE PROGRAM's TIES (one call each: nine closed facts by the kernel) AND EACH ROW's TIE, after the 31st guide's Derived/Test/Toyas{Tie, Card}.lean. No idea stands in it: it is a product of the set-up. Laid BY PROGRAM, IN A SANDBOX (cutbox-door.mjs). By AI agents, Wed Nov 11 2026. No macro, syntax, notation, axiom, sorry.
-/
import Derived.Test.YtoceghdnipjkfaaDoorRows
import Derived.LaidByTextLater
import Derived.SevenTiedAt
import Derived.LaidSub
import Derived.LaidOnce
namespace Go.Proofs.YtoceghdnipjkfaaDoor
open Go
set_option maxRecDepth 100000
theorem seatTie1 : Tryd.prog.laidByTextLater [("io.ErrShortWrite", Rows.laid_io_ErrShortWrite), ("bytes.ErrTooLarge", Rows.laid_bytes_ErrTooLarge), ("loop.example/pub-g03047/pub/hpack.ErrStringLength", Rows.laid_loop_example_pub_g03047_pub_hpack_ErrStringLength), ("loop.example/pub-g03047/pub/hpack.errNeedMore", Rows.laid_loop_example_pub_g03047_pub_hpack_errNeedMore), ("loop.example/pub-g03047/pub/hpack.ErrInvalidHuffman", Rows.laid_loop_example_pub_g03047_pub_hpack_ErrInvalidHuffman), ("loop.example/pub-g03047/pub/hpack.huffmanCodes", Rows.laid_loop_example_pub_g03047_pub_hpack_huffmanCodes), ("loop.example/pub-g03047/pub/hpack.huffmanCodeLen", Rows.laid_loop_example_pub_g03047_pub_hpack_huffmanCodeLen)] [.sentinel, .sentinel, .sentinel, .sentinel, .sentinel, .data, .data] true :=
  Program.laidByTextLater_by_one 114 8 257 (by kernel_rfl) (by kernel_rfl) (by kernel_rfl) (by kernel_rfl) (by kernel_rfl) (by kernel_rfl) (fun _ _ => by kernel_rfl)
theorem noOwnUnsafe : Tryd.pinned.checked.prog.headLifts.contains "ownunsafe" = false := by kernel_rfl
theorem tie : Tryd.prog.laidByTextLater [("io.ErrShortWrite", Rows.laid_io_ErrShortWrite), ("bytes.ErrTooLarge", Rows.laid_bytes_ErrTooLarge), ("loop.example/pub-g03047/pub/hpack.ErrStringLength", Rows.laid_loop_example_pub_g03047_pub_hpack_ErrStringLength), ("loop.example/pub-g03047/pub/hpack.errNeedMore", Rows.laid_loop_example_pub_g03047_pub_hpack_errNeedMore), ("loop.example/pub-g03047/pub/hpack.ErrInvalidHuffman", Rows.laid_loop_example_pub_g03047_pub_hpack_ErrInvalidHuffman), ("loop.example/pub-g03047/pub/hpack.huffmanCodes", Rows.laid_loop_example_pub_g03047_pub_hpack_huffmanCodes), ("loop.example/pub-g03047/pub/hpack.huffmanCodeLen", Rows.laid_loop_example_pub_g03047_pub_hpack_huffmanCodeLen)] [.sentinel, .sentinel, .sentinel, .sentinel, .sentinel, .data, .data] true :=
  Program.laidByTextLater.sub seatTie1 ["io.ErrShortWrite", "bytes.ErrTooLarge", "loop.example/pub-g03047/pub/hpack.ErrStringLength", "loop.example/pub-g03047/pub/hpack.errNeedMore", "loop.example/pub-g03047/pub/hpack.ErrInvalidHuffman", "loop.example/pub-g03047/pub/hpack.huffmanCodes", "loop.example/pub-g03047/pub/hpack.huffmanCodeLen"] (by kernel_rfl) (by kernel_rfl)
theorem fnTalkAgain_row_tie : Rows.fnTalkAgainRow.laidByTextAt .later Tryd.pinned [.sentinel, .sentinel, .sentinel, .sentinel, .sentinel, .data, .data] true :=
  OpenClaim.laidByTextAt_later rfl rfl tie noOwnUnsafe
theorem fnTalkBound_row_tie : Rows.fnTalkBoundRow.laidByTextAt .later Tryd.pinned [.sentinel, .sentinel, .sentinel, .sentinel, .sentinel, .data, .data] true :=
  OpenClaim.laidByTextAt_later rfl rfl tie noOwnUnsafe
theorem fnTalkReads_row_tie : Rows.fnTalkReadsRow.laidByTextAt .later Tryd.pinned [.sentinel, .sentinel, .sentinel, .sentinel, .sentinel, .data, .data] true :=
  OpenClaim.laidByTextAt_later rfl rfl tie noOwnUnsafe
theorem fnTalkSensitive_row_tie : Rows.fnTalkSensitiveRow.laidByTextAt .later Tryd.pinned [.sentinel, .sentinel, .sentinel, .sentinel, .sentinel, .data, .data] true :=
  OpenClaim.laidByTextAt_later rfl rfl tie noOwnUnsafe
theorem fnTalkTables_row_tie : Rows.fnTalkTablesRow.laidByTextAt .later Tryd.pinned [.sentinel, .sentinel, .sentinel, .sentinel, .sentinel, .data, .data] true :=
  OpenClaim.laidByTextAt_later rfl rfl tie noOwnUnsafe
theorem fnTalkAgainUpto_row_tie : Rows.fnTalkAgainUptoRow.laidByTextAt .later Tryd.pinned [.sentinel, .sentinel, .sentinel, .sentinel, .sentinel, .data, .data] true :=
  OpenClaim.laidByTextAt_later rfl rfl tie noOwnUnsafe
theorem fnTalkBoundUpto_row_tie : Rows.fnTalkBoundUptoRow.laidByTextAt .later Tryd.pinned [.sentinel, .sentinel, .sentinel, .sentinel, .sentinel, .data, .data] true :=
  OpenClaim.laidByTextAt_later rfl rfl tie noOwnUnsafe
theorem fnTalkReadsUpto_row_tie : Rows.fnTalkReadsUptoRow.laidByTextAt .later Tryd.pinned [.sentinel, .sentinel, .sentinel, .sentinel, .sentinel, .data, .data] true :=
  OpenClaim.laidByTextAt_later rfl rfl tie noOwnUnsafe
theorem fnTalkSensitiveUpto_row_tie : Rows.fnTalkSensitiveUptoRow.laidByTextAt .later Tryd.pinned [.sentinel, .sentinel, .sentinel, .sentinel, .sentinel, .data, .data] true :=
  OpenClaim.laidByTextAt_later rfl rfl tie noOwnUnsafe
theorem fnTalkTablesUpto_row_tie : Rows.fnTalkTablesUptoRow.laidByTextAt .later Tryd.pinned [.sentinel, .sentinel, .sentinel, .sentinel, .sentinel, .data, .data] true :=
  OpenClaim.laidByTextAt_later rfl rfl tie noOwnUnsafe
end Go.Proofs.YtoceghdnipjkfaaDoor
