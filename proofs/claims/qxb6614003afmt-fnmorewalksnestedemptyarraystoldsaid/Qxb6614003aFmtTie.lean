/-
  DERIVED. GIVEN WITH THE SEED: THE PROGRAM's TIES (one call each: nine closed facts by the kernel) AND EACH ROW's TIE, after the 31st guide's Derived/Test/Toyas{Tie, Card}.lean. No idea stands in it: it is a product of the set-up. Laid BY PROGRAM, IN A SANDBOX (cutbox-door.mjs). By AI agents, Wed Nov 11 2026. No macro, syntax, notation, axiom, sorry.
-/
import Derived.Test.Qxb6614003aFmtRows
import Derived.LaidByTextLater
import Derived.SevenTiedAt
import Derived.LaidSub
import Derived.LaidOnce
namespace Go.Proofs.Qxb6614003aFmt
open Go
set_option maxRecDepth 100000
theorem seatTie1 : Tryf.prog.laidByTextLater [("errors.errorType", Rows.laid_errors_errorType), ("io.ErrShortBuffer", Rows.laid_io_ErrShortBuffer), ("io.EOF", Rows.laid_io_EOF), ("io.ErrUnexpectedEOF", Rows.laid_io_ErrUnexpectedEOF)] [.handle, .called, .called, .called] true :=
  Program.laidByTextLater_by_one 73 8 2 (by kernel_rfl) (by kernel_rfl) (by kernel_rfl) (by kernel_rfl) (by kernel_rfl) (by kernel_rfl) (fun _ _ => by kernel_rfl)
theorem noOwnUnsafe : Tryf.pinned.checked.prog.headLifts.contains "ownunsafe" = false := by kernel_rfl
theorem tie : Tryf.prog.laidByTextLater [("io.ErrShortBuffer", Rows.laid_io_ErrShortBuffer), ("io.EOF", Rows.laid_io_EOF), ("io.ErrUnexpectedEOF", Rows.laid_io_ErrUnexpectedEOF)] [.called, .called, .called] true :=
  Program.laidByTextLater.sub seatTie1 ["io.ErrShortBuffer", "io.EOF", "io.ErrUnexpectedEOF"] (by kernel_rfl) (by kernel_rfl)
theorem fnPeekFirstNonSpaceTwice_row_tie : Rows.fnPeekFirstNonSpaceTwiceRow.laidByTextAt .later Tryf.pinned [.called, .called, .called] true :=
  OpenClaim.laidByTextAt_later rfl rfl tie noOwnUnsafe
theorem fnPeekOverJoinedText_row_tie : Rows.fnPeekOverJoinedTextRow.laidByTextAt .later Tryf.pinned [.called, .called, .called] true :=
  OpenClaim.laidByTextAt_later rfl rfl tie noOwnUnsafe
theorem tie2 : Tryf.prog.laidByTextLater [("errors.errorType", Rows.laid_errors_errorType), ("io.ErrShortBuffer", Rows.laid_io_ErrShortBuffer), ("io.EOF", Rows.laid_io_EOF), ("io.ErrUnexpectedEOF", Rows.laid_io_ErrUnexpectedEOF)] [.handle, .called, .called, .called] true :=
  Program.laidByTextLater.sub seatTie1 ["errors.errorType", "io.ErrShortBuffer", "io.EOF", "io.ErrUnexpectedEOF"] (by kernel_rfl) (by kernel_rfl)
theorem fnDelimWalksDelimiters_row_tie : Rows.fnDelimWalksDelimitersRow.laidByTextAt .later Tryf.pinned [.handle, .called, .called, .called] true :=
  OpenClaim.laidByTextAt_later rfl rfl tie2 noOwnUnsafe
theorem fnDelimRefusesAllButTheNextByte_row_tie : Rows.fnDelimRefusesAllButTheNextByteRow.laidByTextAt .later Tryf.pinned [.handle, .called, .called, .called] true :=
  OpenClaim.laidByTextAt_later rfl rfl tie2 noOwnUnsafe
theorem fnMoreWalksNestedEmptyArrays_row_tie : Rows.fnMoreWalksNestedEmptyArraysRow.laidByTextAt .later Tryf.pinned [.handle, .called, .called, .called] true :=
  OpenClaim.laidByTextAt_later rfl rfl tie2 noOwnUnsafe
theorem fnMoreStepsPastOneByteAtMost_row_tie : Rows.fnMoreStepsPastOneByteAtMostRow.laidByTextAt .later Tryf.pinned [.handle, .called, .called, .called] true :=
  OpenClaim.laidByTextAt_later rfl rfl tie2 noOwnUnsafe
end Go.Proofs.Qxb6614003aFmt
