/-
  DERIVED. GIVEN WITH THE SEED: THE PROGRAM's TIES (one call each: nine closed facts by the kernel) AND EACH ROW's TIE, after the 31st guide's Derived/Test/Toyas{Tie, Card}.lean. No idea stands in it: it is a product of the set-up. Laid BY PROGRAM, IN A SANDBOX (cutbox-door.mjs). By AI agents, Wed Nov 11 2026. No macro, syntax, notation, axiom, sorry.
-/
import Derived.Test.Qxb6608589aDoorRows
import Derived.LaidByTextLater
import Derived.SevenTiedAt
import Derived.LaidSub
import Derived.LaidOnce
namespace Go.Proofs.Qxb6608589aDoor
open Go
set_option maxRecDepth 100000
theorem seatTie1 : Tryd.prog.laidByTextLater [("io.EOF", Rows.laid_io_EOF), ("io.ErrNoProgress", Rows.laid_io_ErrNoProgress), ("bufio.ErrBufferFull", Rows.laid_bufio_ErrBufferFull), ("bufio.errNegativeRead", Rows.laid_bufio_errNegativeRead), ("example.com/beforehand/beforehand/internal/runlog.kindNames", Rows.laid_example_com_beforehand_beforehand_internal_runlog_kindNames)] [.called, .called, .called, .called, .widerDeep] true :=
  Program.laidByTextLater_by_one 90 8 8 (by kernel_rfl) (by kernel_rfl) (by kernel_rfl) (by kernel_rfl) (by kernel_rfl) (by kernel_rfl) (fun _ _ => by kernel_rfl)
theorem noOwnUnsafe : Tryd.pinned.checked.prog.headLifts.contains "ownunsafe" = false := by kernel_rfl
theorem tie : Tryd.prog.laidByTextLater [("example.com/beforehand/beforehand/internal/runlog.kindNames", Rows.laid_example_com_beforehand_beforehand_internal_runlog_kindNames)] [.widerDeep] true :=
  Program.laidByTextLater.sub seatTie1 ["example.com/beforehand/beforehand/internal/runlog.kindNames"] (by kernel_rfl) (by kernel_rfl)
theorem fnKindStringNamesEachKindApart_row_tie : Rows.fnKindStringNamesEachKindApartRow.laidByTextAt .later Tryd.pinned [.widerDeep] true :=
  OpenClaim.laidByTextAt_later rfl rfl tie noOwnUnsafe
theorem tie2 : Tryd.prog.laidByTextLater [("io.EOF", Rows.laid_io_EOF), ("io.ErrNoProgress", Rows.laid_io_ErrNoProgress), ("bufio.ErrBufferFull", Rows.laid_bufio_ErrBufferFull), ("bufio.errNegativeRead", Rows.laid_bufio_errNegativeRead)] [.called, .called, .called, .called] true :=
  Program.laidByTextLater.sub seatTie1 ["io.EOF", "io.ErrNoProgress", "bufio.ErrBufferFull", "bufio.errNegativeRead"] (by kernel_rfl) (by kernel_rfl)
theorem fnNextReadsEveryLine_row_tie : Rows.fnNextReadsEveryLineRow.laidByTextAt .later Tryd.pinned [.called, .called, .called, .called] true :=
  OpenClaim.laidByTextAt_later rfl rfl tie2 noOwnUnsafe
theorem fnNextReadsJoinedTextsPieceByPiece_row_tie : Rows.fnNextReadsJoinedTextsPieceByPieceRow.laidByTextAt .later Tryd.pinned [.called, .called, .called, .called] true :=
  OpenClaim.laidByTextAt_later rfl rfl tie2 noOwnUnsafe
end Go.Proofs.Qxb6608589aDoor
