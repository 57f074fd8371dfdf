/-
  DERIVED. GIVEN WITH THE SEED: THE PROGRAM's TIES (one call each: nine closed facts by the kernel) AND EACH ROW's TIE, after the 31st guide's Derived/Test/Toyas{Tie, Card}.lean. No idea stands in it: it is a product of the set-up. Laid BY PROGRAM, IN A SANDBOX (cutbox-door.mjs). By AI agents, Wed Nov 11 2026. No macro, syntax, notation, axiom, sorry.
-/
import Derived.Test.YtiahifohkhdmdaaDoorRows
import Derived.LaidByTextLater
import Derived.SevenTiedAt
import Derived.LaidSub
import Derived.LaidOnce
namespace Go.Proofs.YtiahifohkhdmdaaDoor
open Go
set_option maxRecDepth 100000
theorem seatTie1 : Tryd.prog.laidByTextLater [("io.EOF", Rows.laid_io_EOF), ("io.ErrUnexpectedEOF", Rows.laid_io_ErrUnexpectedEOF), ("tapearchives/pub/gotar.ErrHeader", Rows.laid_tapearchives_pub_gotar_ErrHeader), ("tapearchives/pub/gotar.ErrWriteTooLong", Rows.laid_tapearchives_pub_gotar_ErrWriteTooLong), ("tapearchives/pub/gotar.ErrFieldTooLong", Rows.laid_tapearchives_pub_gotar_ErrFieldTooLong), ("tapearchives/pub/gotar.ErrWriteAfterClose", Rows.laid_tapearchives_pub_gotar_ErrWriteAfterClose), ("tapearchives/pub/gotar.ErrInsecurePath", Rows.laid_tapearchives_pub_gotar_ErrInsecurePath), ("tapearchives/pub/gotar.errMissData", Rows.laid_tapearchives_pub_gotar_errMissData), ("tapearchives/pub/gotar.errUnrefData", Rows.laid_tapearchives_pub_gotar_errUnrefData)] [.sentinel, .sentinel, .sentinel, .sentinel, .sentinel, .sentinel, .sentinel, .sentinel, .sentinel] true :=
  Program.laidByTextLater_by_one 199 8 2 (by kernel_rfl) (by kernel_rfl) (by kernel_rfl) (by kernel_rfl) (by kernel_rfl) (by kernel_rfl) (fun _ _ => by kernel_rfl)
theorem noOwnUnsafe : Tryd.pinned.checked.prog.headLifts.contains "ownunsafe" = false := by kernel_rfl
theorem tie : Tryd.prog.laidByTextLater [("tapearchives/pub/gotar.ErrFieldTooLong", Rows.laid_tapearchives_pub_gotar_ErrFieldTooLong)] [.sentinel] true :=
  Program.laidByTextLater.sub seatTie1 ["tapearchives/pub/gotar.ErrFieldTooLong"] (by kernel_rfl) (by kernel_rfl)
theorem fnPutText_row_tie : Rows.fnPutTextRow.laidByTextAt .later Tryd.pinned [.sentinel] true :=
  OpenClaim.laidByTextAt_later rfl rfl tie noOwnUnsafe
theorem tie2 : Tryd.prog.laidByTextLater [("io.EOF", Rows.laid_io_EOF), ("io.ErrUnexpectedEOF", Rows.laid_io_ErrUnexpectedEOF), ("tapearchives/pub/gotar.ErrHeader", Rows.laid_tapearchives_pub_gotar_ErrHeader), ("tapearchives/pub/gotar.ErrWriteTooLong", Rows.laid_tapearchives_pub_gotar_ErrWriteTooLong), ("tapearchives/pub/gotar.ErrFieldTooLong", Rows.laid_tapearchives_pub_gotar_ErrFieldTooLong), ("tapearchives/pub/gotar.ErrWriteAfterClose", Rows.laid_tapearchives_pub_gotar_ErrWriteAfterClose), ("tapearchives/pub/gotar.ErrInsecurePath", Rows.laid_tapearchives_pub_gotar_ErrInsecurePath)] [.sentinel, .sentinel, .sentinel, .sentinel, .sentinel, .sentinel, .sentinel] true :=
  Program.laidByTextLater.sub seatTie1 ["io.EOF", "io.ErrUnexpectedEOF", "tapearchives/pub/gotar.ErrHeader", "tapearchives/pub/gotar.ErrWriteTooLong", "tapearchives/pub/gotar.ErrFieldTooLong", "tapearchives/pub/gotar.ErrWriteAfterClose", "tapearchives/pub/gotar.ErrInsecurePath"] (by kernel_rfl) (by kernel_rfl)
theorem fnRegWrite_row_tie : Rows.fnRegWriteRow.laidByTextAt .later Tryd.pinned [.sentinel, .sentinel, .sentinel, .sentinel, .sentinel, .sentinel, .sentinel] true :=
  OpenClaim.laidByTextAt_later rfl rfl tie2 noOwnUnsafe
theorem tie3 : Tryd.prog.laidByTextLater [("io.EOF", Rows.laid_io_EOF), ("io.ErrUnexpectedEOF", Rows.laid_io_ErrUnexpectedEOF), ("tapearchives/pub/gotar.ErrHeader", Rows.laid_tapearchives_pub_gotar_ErrHeader), ("tapearchives/pub/gotar.ErrWriteTooLong", Rows.laid_tapearchives_pub_gotar_ErrWriteTooLong), ("tapearchives/pub/gotar.ErrFieldTooLong", Rows.laid_tapearchives_pub_gotar_ErrFieldTooLong), ("tapearchives/pub/gotar.ErrWriteAfterClose", Rows.laid_tapearchives_pub_gotar_ErrWriteAfterClose), ("tapearchives/pub/gotar.ErrInsecurePath", Rows.laid_tapearchives_pub_gotar_ErrInsecurePath), ("tapearchives/pub/gotar.errMissData", Rows.laid_tapearchives_pub_gotar_errMissData), ("tapearchives/pub/gotar.errUnrefData", Rows.laid_tapearchives_pub_gotar_errUnrefData)] [.sentinel, .sentinel, .sentinel, .sentinel, .sentinel, .sentinel, .sentinel, .sentinel, .sentinel] true :=
  Program.laidByTextLater.sub seatTie1 ["io.EOF", "io.ErrUnexpectedEOF", "tapearchives/pub/gotar.ErrHeader", "tapearchives/pub/gotar.ErrWriteTooLong", "tapearchives/pub/gotar.ErrFieldTooLong", "tapearchives/pub/gotar.ErrWriteAfterClose", "tapearchives/pub/gotar.ErrInsecurePath", "tapearchives/pub/gotar.errMissData", "tapearchives/pub/gotar.errUnrefData"] (by kernel_rfl) (by kernel_rfl)
theorem fnSparseRead_row_tie : Rows.fnSparseReadRow.laidByTextAt .later Tryd.pinned [.sentinel, .sentinel, .sentinel, .sentinel, .sentinel, .sentinel, .sentinel, .sentinel, .sentinel] true :=
  OpenClaim.laidByTextAt_later rfl rfl tie3 noOwnUnsafe
theorem fnPutTextUpto_row_tie : Rows.fnPutTextUptoRow.laidByTextAt .later Tryd.pinned [.sentinel] true :=
  OpenClaim.laidByTextAt_later rfl rfl tie noOwnUnsafe
theorem fnRegWriteUpto_row_tie : Rows.fnRegWriteUptoRow.laidByTextAt .later Tryd.pinned [.sentinel, .sentinel, .sentinel, .sentinel, .sentinel, .sentinel, .sentinel] true :=
  OpenClaim.laidByTextAt_later rfl rfl tie2 noOwnUnsafe
theorem fnSparseReadUpto_row_tie : Rows.fnSparseReadUptoRow.laidByTextAt .later Tryd.pinned [.sentinel, .sentinel, .sentinel, .sentinel, .sentinel, .sentinel, .sentinel, .sentinel, .sentinel] true :=
  OpenClaim.laidByTextAt_later rfl rfl tie3 noOwnUnsafe
end Go.Proofs.YtiahifohkhdmdaaDoor
