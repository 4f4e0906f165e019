/-
  NARROWER THAN 'FOR EVERY INPUT', by the rows' own cells (each row's printed sentence says how): FnKindStringNamesEachKindApart: laid · FnNextReadsEveryLine: laid · FnNextReadsJoinedTextsPieceByPiece: laid.
  DERIVED. THE GIVEN ROWS OF THIS SEAT. 3 by the template 'for every input the law returns true; each argument reads behind the call as it read before'; 0 by the template 'total and deterministic' (their statements: Qxb6608589aDoorTotals.lean).
  GIVEN WITH THE SEED: the statements are not yours to turn. If you find one false, say at which input.
  Laid BY PROGRAM, IN A SANDBOX (cutbox-rows.mjs): the forced cells as the released guide's own fill.sh prints them over the translation 75027357fd6f78b8… (all of the seat's roots in one cut). By AI agents, Wed Nov 11 2026. No macro, syntax, notation, axiom, sorry.
-/
import Derived.Test.Qxb6608589aDoorChecked
import GoSem.Claim
import GoSem.ClaimJoined
import GoSem.ClaimMapViews
import Derived.JoinedTies
import Derived.KernelRfl
namespace Go.Proofs.Qxb6608589aDoor
/- THE CELL 'sum', in the pinned program and in every row, IS THE sha256 OF THE DUMP (.gsa) THAT Qxb6608589aDoorProg.lean LOADS. Nothing in Lean hashes anything: it is a label: what it is worth is what the hold of that sum in a sandbox is worth. -/
noncomputable def Tryd.pinned : Pinned := { name := "qxb6608589adoor", sum := "75027357fd6f78b8e479f9f0d348193eb0b08c48df5911c1fc90ba5a7b1942c9", checked := Tryd.checked }
namespace Rows
def none {H : Type} : Left H := { results := [], args := [] }

/- WHAT THE LISTED PACKAGE-LEVEL VARIABLES READ AS WHEN THE CALL BEGINS. Each datum BY PROGRAM (the guide's laid-datum.mjs) off the statement by which the dump's own 'gosem.cut.vars' lays the variable. In a bare row this is a premise. The card (Qxb6608589aDoorCards.lean) ties it to the program's text. -/
def laid_example_com_beforehand_beforehand_internal_runlog_kindNames {H : Type} : DataW H := .agg [.lit (.string []), .lit (.string [108, 111, 99, 97, 108]), .lit (.string [115, 101, 110, 100]), .lit (.string [114, 101, 99, 101, 105, 118, 101]), .lit (.string [101, 110, 116, 101, 114]), .lit (.string [101, 120, 105, 116]), .lit (.string [97, 112, 112, 108, 121])]
def laid_io_EOF {H : Type} : DataW H := .iface "*errors.errorString" (.ptr (.agg [.lit (.string [69, 79, 70])]))
def laid_io_ErrNoProgress {H : Type} : DataW H := .iface "*errors.errorString" (.ptr (.agg [.lit (.string [109, 117, 108, 116, 105, 112, 108, 101, 32, 82, 101, 97, 100, 32, 99, 97, 108, 108, 115, 32, 114, 101, 116, 117, 114, 110, 32, 110, 111, 32, 100, 97, 116, 97, 32, 111, 114, 32, 101, 114, 114, 111, 114])]))
def laid_bufio_ErrBufferFull {H : Type} : DataW H := .iface "*errors.errorString" (.ptr (.agg [.lit (.string [98, 117, 102, 105, 111, 58, 32, 98, 117, 102, 102, 101, 114, 32, 102, 117, 108, 108])]))
def laid_bufio_errNegativeRead {H : Type} : DataW H := .iface "*errors.errorString" (.ptr (.agg [.lit (.string [98, 117, 102, 105, 111, 58, 32, 114, 101, 97, 100, 101, 114, 32, 114, 101, 116, 117, 114, 110, 101, 100, 32, 110, 101, 103, 97, 116, 105, 118, 101, 32, 99, 111, 117, 110, 116, 32, 102, 114, 111, 109, 32, 82, 101, 97, 100])]))

/-- 'zzlaws_internal_runlog_b1.FnKindStringNamesEachKindApart': WHATEVER THE INPUT: true; the input reads as it did. -/
def fnKindStringNamesEachKindApartSpec : ChangeSpec := { name := "fnKindStringNamesEachKindApart", vars := ["example.com/beforehand/beforehand/internal/runlog.kindNames"], fn := fun _ => fun
  | [d1, d2, g1] => { results := [.lit (.bool true)], args := [d1, d2], vars := [g1] }
  | _ => none }
def fnKindStringNamesEachKindApartRow : OpenClaim := { program := "qxb6608589adoor", sum := "75027357fd6f78b8e479f9f0d348193eb0b08c48df5911c1fc90ba5a7b1942c9", func := "example.com/beforehand/beforehand/zzlaws_internal_runlog_b1.FnKindStringNamesEachKindApart", spec := "fnKindStringNamesEachKindApart", named := ["example.com/beforehand/beforehand/internal/runlog.kindNames"], apart := false, laid := [("example.com/beforehand/beforehand/internal/runlog.kindNames", laid_example_com_beforehand_beforehand_internal_runlog_kindNames)] }
def FnKindStringNamesEachKindApartSaid : Prop := fnKindStringNamesEachKindApartRow.holds Tryd.pinned (OpenSpec.ofChange fnKindStringNamesEachKindApartSpec)

/-- ITS FALSE NEIGHBOUR: 'it returns false'. Refute it at one input. -/
def fnKindStringNamesEachKindApartWrong : ChangeSpec := { name := "fnKindStringNamesEachKindApart", vars := ["example.com/beforehand/beforehand/internal/runlog.kindNames"], fn := fun _ => fun
  | [d1, d2, g1] => { results := [.lit (.bool false)], args := [d1, d2], vars := [g1] }
  | _ => none }
def FnKindStringNamesEachKindApartWrongFalsely : Prop := fnKindStringNamesEachKindApartRow.holds Tryd.pinned (OpenSpec.ofChange fnKindStringNamesEachKindApartWrong)

/-- 'zzlaws_internal_runlog_b1.FnNextReadsEveryLine': WHATEVER THE INPUT: true; the input reads as it did. -/
def fnNextReadsEveryLineSpec : ChangeSpec := { name := "fnNextReadsEveryLine", fn := fun _ => fun
  | [d1, d2] => { results := [.lit (.bool true)], args := [d1, d2] }
  | _ => none }
def fnNextReadsEveryLineRow : OpenClaim := { program := "qxb6608589adoor", sum := "75027357fd6f78b8e479f9f0d348193eb0b08c48df5911c1fc90ba5a7b1942c9", func := "example.com/beforehand/beforehand/zzlaws_internal_runlog_b1.FnNextReadsEveryLine", spec := "fnNextReadsEveryLine", inPlace := ["internal/bytealg.IndexByte"], unfollowed := true, recurses := true, named := ["bufio.ErrBufferFull", "io.EOF", "bufio.errNegativeRead", "io.ErrNoProgress"], apart := false, laid := [("io.EOF", laid_io_EOF), ("io.ErrNoProgress", laid_io_ErrNoProgress), ("bufio.ErrBufferFull", laid_bufio_ErrBufferFull), ("bufio.errNegativeRead", laid_bufio_errNegativeRead)] }
def FnNextReadsEveryLineSaid : Prop := fnNextReadsEveryLineRow.holds Tryd.pinned (OpenSpec.ofChange fnNextReadsEveryLineSpec)

/-- ITS FALSE NEIGHBOUR: 'it returns false'. Refute it at one input. -/
def fnNextReadsEveryLineWrong : ChangeSpec := { name := "fnNextReadsEveryLine", fn := fun _ => fun
  | [d1, d2] => { results := [.lit (.bool false)], args := [d1, d2] }
  | _ => none }
def FnNextReadsEveryLineWrongFalsely : Prop := fnNextReadsEveryLineRow.holds Tryd.pinned (OpenSpec.ofChange fnNextReadsEveryLineWrong)

/-- 'zzlaws_internal_runlog_b1.FnNextReadsJoinedTextsPieceByPiece': WHATEVER THE INPUT: true; the input reads as it did. -/
def fnNextReadsJoinedTextsPieceByPieceSpec : ChangeSpec := { name := "fnNextReadsJoinedTextsPieceByPiece", fn := fun _ => fun
  | [d1, d2, d3] => { results := [.lit (.bool true)], args := [d1, d2, d3] }
  | _ => none }
def fnNextReadsJoinedTextsPieceByPieceRow : OpenClaim := { program := "qxb6608589adoor", sum := "75027357fd6f78b8e479f9f0d348193eb0b08c48df5911c1fc90ba5a7b1942c9", func := "example.com/beforehand/beforehand/zzlaws_internal_runlog_b1.FnNextReadsJoinedTextsPieceByPiece", spec := "fnNextReadsJoinedTextsPieceByPiece", inPlace := ["internal/bytealg.IndexByte"], unfollowed := true, recurses := true, named := ["bufio.ErrBufferFull", "io.EOF", "bufio.errNegativeRead", "io.ErrNoProgress"], apart := false, laid := [("io.EOF", laid_io_EOF), ("io.ErrNoProgress", laid_io_ErrNoProgress), ("bufio.ErrBufferFull", laid_bufio_ErrBufferFull), ("bufio.errNegativeRead", laid_bufio_errNegativeRead)] }
def FnNextReadsJoinedTextsPieceByPieceSaid : Prop := fnNextReadsJoinedTextsPieceByPieceRow.holds Tryd.pinned (OpenSpec.ofChange fnNextReadsJoinedTextsPieceByPieceSpec)

/-- ITS FALSE NEIGHBOUR: 'it returns false'. Refute it at one input. -/
def fnNextReadsJoinedTextsPieceByPieceWrong : ChangeSpec := { name := "fnNextReadsJoinedTextsPieceByPiece", fn := fun _ => fun
  | [d1, d2, d3] => { results := [.lit (.bool false)], args := [d1, d2, d3] }
  | _ => none }
def FnNextReadsJoinedTextsPieceByPieceWrongFalsely : Prop := fnNextReadsJoinedTextsPieceByPieceRow.holds Tryd.pinned (OpenSpec.ofChange fnNextReadsJoinedTextsPieceByPieceWrong)

end Rows
end Go.Proofs.Qxb6608589aDoor
