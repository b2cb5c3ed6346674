/-
  DERIVED. GIVEN WITH THE SEED: THE PROGRAM's TIES (one call each: nine closed facts by the kernel) AND EACH ROW's TIE, after the 31st guide's Derived/Test/Toyas{Tie, Card}.lean. No idea stands in it: it is a product of the set-up. Laid BY PROGRAM, IN A SANDBOX (cutbox-door.mjs). By AI agents, Wed Nov 11 2026. No macro, syntax, notation, axiom, sorry.
-/
import Derived.Test.YthnaobmepfkkpaaDoorRows
import Derived.LaidByTextLater
import Derived.SevenTiedAt
import Derived.LaidSub
import Derived.LaidOnce
namespace Go.Proofs.YthnaobmepfkkpaaDoor
open Go
set_option maxRecDepth 100000
theorem seatTie1 : Tryd.prog.laidByTextLater [("semaphorist/pub/hpack.huffmanCodes", Rows.laid_semaphorist_pub_hpack_huffmanCodes), ("semaphorist/pub/hpack.huffmanCodeLen", Rows.laid_semaphorist_pub_hpack_huffmanCodeLen)] [.data, .data] true :=
  Program.laidByTextLater_by_one 133 8 257 (by kernel_rfl) (by kernel_rfl) (by kernel_rfl) (by kernel_rfl) (by kernel_rfl) (by kernel_rfl) (fun _ _ => by kernel_rfl)
theorem seatTie2 : Tryd.prog.laidByTextLater [("io.ErrShortBuffer", Rows.laid_io_ErrShortBuffer), ("io.EOF", Rows.laid_io_EOF), ("io.ErrUnexpectedEOF", Rows.laid_io_ErrUnexpectedEOF), ("bytes.ErrTooLarge", Rows.laid_bytes_ErrTooLarge), ("semaphorist/pub/hpack.ErrStringLength", Rows.laid_semaphorist_pub_hpack_ErrStringLength), ("semaphorist/pub/hpack.ErrInvalidHuffman", Rows.laid_semaphorist_pub_hpack_ErrInvalidHuffman), ("semaphorist/pub/hpack.huffmanCodes", Rows.laid_semaphorist_pub_hpack_huffmanCodes), ("semaphorist/pub/hpack.huffmanCodeLen", Rows.laid_semaphorist_pub_hpack_huffmanCodeLen)] [.sentinel, .sentinel, .sentinel, .sentinel, .sentinel, .sentinel, .data, .data] true :=
  Program.laidByTextLater_by_one 133 8 257 (by kernel_rfl) (by kernel_rfl) (by kernel_rfl) (by kernel_rfl) (by kernel_rfl) (by kernel_rfl) (fun _ _ => by kernel_rfl)
theorem noOwnUnsafe : Tryd.pinned.checked.prog.headLifts.contains "ownunsafe" = false := by kernel_rfl
theorem tie : Tryd.prog.laidByTextLater [("semaphorist/pub/hpack.huffmanCodes", Rows.laid_semaphorist_pub_hpack_huffmanCodes), ("semaphorist/pub/hpack.huffmanCodeLen", Rows.laid_semaphorist_pub_hpack_huffmanCodeLen)] [.data, .data] true :=
  Program.laidByTextLater.sub seatTie1 ["semaphorist/pub/hpack.huffmanCodes", "semaphorist/pub/hpack.huffmanCodeLen"] (by kernel_rfl) (by kernel_rfl)
theorem fnString_row_tie : Rows.fnStringRow.laidByTextAt .later Tryd.pinned [.data, .data] true :=
  OpenClaim.laidByTextAt_later rfl rfl tie noOwnUnsafe
theorem tie2 : Tryd.prog.laidByTextLater [("io.ErrShortBuffer", Rows.laid_io_ErrShortBuffer), ("io.EOF", Rows.laid_io_EOF), ("io.ErrUnexpectedEOF", Rows.laid_io_ErrUnexpectedEOF), ("bytes.ErrTooLarge", Rows.laid_bytes_ErrTooLarge), ("semaphorist/pub/hpack.ErrStringLength", Rows.laid_semaphorist_pub_hpack_ErrStringLength), ("semaphorist/pub/hpack.ErrInvalidHuffman", Rows.laid_semaphorist_pub_hpack_ErrInvalidHuffman), ("semaphorist/pub/hpack.huffmanCodes", Rows.laid_semaphorist_pub_hpack_huffmanCodes), ("semaphorist/pub/hpack.huffmanCodeLen", Rows.laid_semaphorist_pub_hpack_huffmanCodeLen)] [.sentinel, .sentinel, .sentinel, .sentinel, .sentinel, .sentinel, .data, .data] true :=
  Program.laidByTextLater.sub seatTie2 ["io.ErrShortBuffer", "io.EOF", "io.ErrUnexpectedEOF", "bytes.ErrTooLarge", "semaphorist/pub/hpack.ErrStringLength", "semaphorist/pub/hpack.ErrInvalidHuffman", "semaphorist/pub/hpack.huffmanCodes", "semaphorist/pub/hpack.huffmanCodeLen"] (by kernel_rfl) (by kernel_rfl)
theorem fnReadString_row_tie : Rows.fnReadStringRow.laidByTextAt .later Tryd.pinned [.sentinel, .sentinel, .sentinel, .sentinel, .sentinel, .sentinel, .data, .data] true :=
  OpenClaim.laidByTextAt_later rfl rfl tie2 noOwnUnsafe
theorem fnStringUpto_row_tie : Rows.fnStringUptoRow.laidByTextAt .later Tryd.pinned [.data, .data] true :=
  OpenClaim.laidByTextAt_later rfl rfl tie noOwnUnsafe
theorem fnReadStringUpto_row_tie : Rows.fnReadStringUptoRow.laidByTextAt .later Tryd.pinned [.sentinel, .sentinel, .sentinel, .sentinel, .sentinel, .sentinel, .data, .data] true :=
  OpenClaim.laidByTextAt_later rfl rfl tie2 noOwnUnsafe
end Go.Proofs.YthnaobmepfkkpaaDoor
