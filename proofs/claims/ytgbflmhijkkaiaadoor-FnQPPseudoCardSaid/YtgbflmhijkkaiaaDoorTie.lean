/-
  DERIVED. GIVEN WITH THE SEED: THE PROGRAM's TIES (one call each: nine closed facts by the kernel) AND EACH ROW's TIE, after the 31st guide's Derived/Test/Toyas{Tie, Card}.lean. No idea stands in it: it is a product of the set-up. Laid BY PROGRAM, IN A SANDBOX (cutbox-door.mjs). By AI agents, Wed Nov 11 2026. No macro, syntax, notation, axiom, sorry.
-/
import Derived.Test.YtgbflmhijkkaiaaDoorRows
import Derived.LaidByTextLater
import Derived.SevenTiedAt
import Derived.LaidSub
import Derived.LaidOnce
namespace Go.Proofs.YtgbflmhijkkaiaaDoor
open Go
set_option maxRecDepth 100000
theorem seatTie1 : Tryd.prog.laidByTextLater [("io.EOF", Rows.laid_io_EOF), ("io.ErrUnexpectedEOF", Rows.laid_io_ErrUnexpectedEOF), ("bytes.ErrTooLarge", Rows.laid_bytes_ErrTooLarge), ("given.example/pub-heliostat/pub/hpack.ErrStringLength", Rows.laid_given_example_pub_heliostat_pub_hpack_ErrStringLength), ("given.example/pub-heliostat/pub/hpack.ErrInvalidHuffman", Rows.laid_given_example_pub_heliostat_pub_hpack_ErrInvalidHuffman), ("given.example/pub-heliostat/pub/hpack.huffmanCodes", Rows.laid_given_example_pub_heliostat_pub_hpack_huffmanCodes), ("given.example/pub-heliostat/pub/hpack.huffmanCodeLen", Rows.laid_given_example_pub_heliostat_pub_hpack_huffmanCodeLen), ("given.example/pub-heliostat/pub/qpack.errNoDynamicTable", Rows.laid_given_example_pub_heliostat_pub_qpack_errNoDynamicTable), ("given.example/pub-heliostat/pub/qpack.errVarintOverflow", Rows.laid_given_example_pub_heliostat_pub_qpack_errVarintOverflow)] [.sentinel, .sentinel, .sentinel, .sentinel, .sentinel, .data, .data, .sentinel, .sentinel] true :=
  Program.laidByTextLater_by_one 152 8 257 (by kernel_rfl) (by kernel_rfl) (by kernel_rfl) (by kernel_rfl) (by kernel_rfl) (by kernel_rfl) (fun _ _ => by kernel_rfl)
theorem noOwnUnsafe : Tryd.pinned.checked.prog.headLifts.contains "ownunsafe" = false := by kernel_rfl
theorem tie : Tryd.prog.laidByTextLater [("io.EOF", Rows.laid_io_EOF), ("io.ErrUnexpectedEOF", Rows.laid_io_ErrUnexpectedEOF), ("bytes.ErrTooLarge", Rows.laid_bytes_ErrTooLarge), ("given.example/pub-heliostat/pub/hpack.ErrStringLength", Rows.laid_given_example_pub_heliostat_pub_hpack_ErrStringLength), ("given.example/pub-heliostat/pub/hpack.ErrInvalidHuffman", Rows.laid_given_example_pub_heliostat_pub_hpack_ErrInvalidHuffman), ("given.example/pub-heliostat/pub/hpack.huffmanCodes", Rows.laid_given_example_pub_heliostat_pub_hpack_huffmanCodes), ("given.example/pub-heliostat/pub/hpack.huffmanCodeLen", Rows.laid_given_example_pub_heliostat_pub_hpack_huffmanCodeLen), ("given.example/pub-heliostat/pub/qpack.errNoDynamicTable", Rows.laid_given_example_pub_heliostat_pub_qpack_errNoDynamicTable), ("given.example/pub-heliostat/pub/qpack.errVarintOverflow", Rows.laid_given_example_pub_heliostat_pub_qpack_errVarintOverflow)] [.sentinel, .sentinel, .sentinel, .sentinel, .sentinel, .data, .data, .sentinel, .sentinel] true :=
  Program.laidByTextLater.sub seatTie1 ["io.EOF", "io.ErrUnexpectedEOF", "bytes.ErrTooLarge", "given.example/pub-heliostat/pub/hpack.ErrStringLength", "given.example/pub-heliostat/pub/hpack.ErrInvalidHuffman", "given.example/pub-heliostat/pub/hpack.huffmanCodes", "given.example/pub-heliostat/pub/hpack.huffmanCodeLen", "given.example/pub-heliostat/pub/qpack.errNoDynamicTable", "given.example/pub-heliostat/pub/qpack.errVarintOverflow"] (by kernel_rfl) (by kernel_rfl)
theorem fnQPPseudo_row_tie : Rows.fnQPPseudoRow.laidByTextAt .later Tryd.pinned [.sentinel, .sentinel, .sentinel, .sentinel, .sentinel, .data, .data, .sentinel, .sentinel] true :=
  OpenClaim.laidByTextAt_later rfl rfl tie noOwnUnsafe
theorem fnQPPseudoUpto_row_tie : Rows.fnQPPseudoUptoRow.laidByTextAt .later Tryd.pinned [.sentinel, .sentinel, .sentinel, .sentinel, .sentinel, .data, .data, .sentinel, .sentinel] true :=
  OpenClaim.laidByTextAt_later rfl rfl tie noOwnUnsafe
end Go.Proofs.YtgbflmhijkkaiaaDoor
