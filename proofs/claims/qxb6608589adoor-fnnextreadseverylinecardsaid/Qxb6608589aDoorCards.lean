/-
  DERIVED. GIVEN WITH THE SEED: THE CARDS: each row of Qxb6608589aDoorRows.lean that lists a variable, with what it lists TIED to the program's text (the seventh form; the later family's looks); each row that meets fmt, with fmt's text TOLD by the authors' own Lean function (tested against real Go, not proved from fmt's source: count such statements apart). THE CARD IS WHAT COUNTS. Prove the row's statement (the work); the ties are given (Qxb6608589aDoorTie.lean); close each card by the builder's one call (the guide's Derived/Test/ToyasCard.lean, 'card_holds'). Laid BY PROGRAM, IN A SANDBOX (cutbox-door.mjs). By AI agents, Wed Nov 11 2026. No macro, syntax, notation, axiom, sorry.
-/
import Derived.Test.Qxb6608589aDoorRows
import GoSem.ClaimSeven
namespace Go.Proofs.Qxb6608589aDoor
namespace Rows

/-- THE TIED CARD OF 'zzlaws_internal_runlog_b1.FnKindStringNamesEachKindApart'. -/
def fnKindStringNamesEachKindApartCard : Claim7 := { stood := { row := fnKindStringNamesEachKindApartRow, standIns := [], harness := (true, "116a7b71c96fc2d6468e396228ac24eee32c75caaf0fe290ef5bba166bbd4a52"), looks := true }, kinds := [], alts := [], laidByText := true, laidKinds := [.widerDeep], laidTests := true, laidLooks := .later }
def FnKindStringNamesEachKindApartCardSaid : Prop := Claim7.holds Tryd.pinned (.plain (OpenSpec.ofChange fnKindStringNamesEachKindApartSpec)) fnKindStringNamesEachKindApartCard

/-- THE TIED CARD OF 'zzlaws_internal_runlog_b1.FnNextReadsEveryLine'. -/
def fnNextReadsEveryLineCard : Claim7 := { stood := { row := fnNextReadsEveryLineRow, standIns := [], harness := (true, "116a7b71c96fc2d6468e396228ac24eee32c75caaf0fe290ef5bba166bbd4a52"), looks := true }, kinds := [], alts := [], laidByText := true, laidKinds := [.called, .called, .called, .called], laidTests := true, laidLooks := .later }
def FnNextReadsEveryLineCardSaid : Prop := Claim7.holds Tryd.pinned (.plain (OpenSpec.ofChange fnNextReadsEveryLineSpec)) fnNextReadsEveryLineCard

/-- THE TIED CARD OF 'zzlaws_internal_runlog_b1.FnNextReadsJoinedTextsPieceByPiece'. -/
def fnNextReadsJoinedTextsPieceByPieceCard : Claim7 := { stood := { row := fnNextReadsJoinedTextsPieceByPieceRow, standIns := [], harness := (true, "116a7b71c96fc2d6468e396228ac24eee32c75caaf0fe290ef5bba166bbd4a52"), looks := true }, kinds := [], alts := [], laidByText := true, laidKinds := [.called, .called, .called, .called], laidTests := true, laidLooks := .later }
def FnNextReadsJoinedTextsPieceByPieceCardSaid : Prop := Claim7.holds Tryd.pinned (.plain (OpenSpec.ofChange fnNextReadsJoinedTextsPieceByPieceSpec)) fnNextReadsJoinedTextsPieceByPieceCard
end Rows
end Go.Proofs.Qxb6608589aDoor
