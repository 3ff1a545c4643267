/-
  DERIVED. GIVEN WITH THE SEED: THE PROGRAM's TIES (one call each: nine closed facts by the kernel) AND EACH ROW's TIE, after the 31st guide's Derived/Test/Toyas{Tie, Card}.lean. No idea stands in it: it is a product of the set-up. Laid BY PROGRAM, IN A SANDBOX (cutbox-door.mjs). By AI agents, Wed Nov 11 2026. No macro, syntax, notation, axiom, sorry.
-/
import Derived.Test.YbulkcdssFmtRows
import Derived.LaidByTextLater
import Derived.SevenTiedAt
import Derived.LaidSub
import Derived.LaidOnce
namespace Go.Proofs.YbulkcdssFmt
open Go
set_option maxRecDepth 100000
theorem seatTie1 : Ybaf.prog.laidByTextLater [("io.ErrShortWrite", Rows.laid_io_ErrShortWrite), ("io.errInvalidWrite", Rows.laid_io_errInvalidWrite), ("io.ErrShortBuffer", Rows.laid_io_ErrShortBuffer), ("io.EOF", Rows.laid_io_EOF), ("io.ErrUnexpectedEOF", Rows.laid_io_ErrUnexpectedEOF), ("io.Discard", Rows.laid_io_Discard), ("encoding/hex.ErrLength", Rows.laid_encoding_hex_ErrLength)] [.sentinel, .sentinel, .sentinel, .sentinel, .sentinel, .wider, .sentinel] true :=
  Program.laidByTextLater_by_one 129 8 2 (by kernel_rfl) (by kernel_rfl) (by kernel_rfl) (by kernel_rfl) (by kernel_rfl) (by kernel_rfl) (fun _ _ => by kernel_rfl)
theorem noOwnUnsafe : Ybaf.pinned.checked.prog.headLifts.contains "ownunsafe" = false := by kernel_rfl
theorem tie : Ybaf.prog.laidByTextLater [("encoding/hex.ErrLength", Rows.laid_encoding_hex_ErrLength)] [.sentinel] true :=
  Program.laidByTextLater.sub seatTie1 ["encoding/hex.ErrLength"] (by kernel_rfl) (by kernel_rfl)
theorem lawS3996AShape_row_tie : Rows.lawS3996AShapeRow.laidByTextAt .later Ybaf.pinned [.sentinel] true :=
  OpenClaim.laidByTextAt_later rfl rfl tie noOwnUnsafe
theorem lawS3996AEncode_row_tie : Rows.lawS3996AEncodeRow.laidByTextAt .later Ybaf.pinned [.sentinel] true :=
  OpenClaim.laidByTextAt_later rfl rfl tie noOwnUnsafe
theorem tie2 : Ybaf.prog.laidByTextLater [("io.ErrShortWrite", Rows.laid_io_ErrShortWrite), ("io.errInvalidWrite", Rows.laid_io_errInvalidWrite), ("io.ErrShortBuffer", Rows.laid_io_ErrShortBuffer), ("io.EOF", Rows.laid_io_EOF), ("io.ErrUnexpectedEOF", Rows.laid_io_ErrUnexpectedEOF), ("io.Discard", Rows.laid_io_Discard)] [.sentinel, .sentinel, .sentinel, .sentinel, .sentinel, .wider] true :=
  Program.laidByTextLater.sub seatTie1 ["io.ErrShortWrite", "io.errInvalidWrite", "io.ErrShortBuffer", "io.EOF", "io.ErrUnexpectedEOF", "io.Discard"] (by kernel_rfl) (by kernel_rfl)
theorem lawS3996CSkipsToTrailer_row_tie : Rows.lawS3996CSkipsToTrailerRow.laidByTextAt .later Ybaf.pinned [.sentinel, .sentinel, .sentinel, .sentinel, .sentinel, .wider] true :=
  OpenClaim.laidByTextAt_later rfl rfl tie2 noOwnUnsafe
theorem lawS3996CRefuses_row_tie : Rows.lawS3996CRefusesRow.laidByTextAt .later Ybaf.pinned [.sentinel, .sentinel, .sentinel, .sentinel, .sentinel, .wider] true :=
  OpenClaim.laidByTextAt_later rfl rfl tie2 noOwnUnsafe
end Go.Proofs.YbulkcdssFmt
