/-
  DERIVED. GIVEN WITH THE SEED: THE CARDS: each row of Qxb6608620aFmtRows.lean that lists a variable, with what it lists TIED to the program's text (the seventh form; the later family's looks); each row that meets fmt, with fmt's text TOLD by the authors' own Lean function (tested against real Go, not proved from fmt's source: count such statements apart). THE CARD IS WHAT COUNTS. Prove the row's statement (the work); the ties are given (Qxb6608620aFmtTie.lean); close each card by the builder's one call (the guide's Derived/Test/ToyasCard.lean, 'card_holds'). Laid BY PROGRAM, IN A SANDBOX (cutbox-door.mjs). By AI agents, Wed Nov 11 2026. No macro, syntax, notation, axiom, sorry.
-/
import Derived.Test.Qxb6608620aFmtRows
import GoSem.ClaimSeven
namespace Go.Proofs.Qxb6608620aFmt
namespace Rows

/-- THE TOLD CARD OF 'zzlaws_root_b1.FnCheckAnswersByTheLineage'. -/
def fnCheckAnswersByTheLineageCard : Claim7 := { stood := { row := fnCheckAnswersByTheLineageRow, standIns := [], harness := (true, "d9a82c56399e7204e3ba6845615506d3dbf650dc68b6ad58d435917f9f2951d6"), looks := false }, told := true, goes := false }
def FnCheckAnswersByTheLineageToldSaid : Prop := Claim7.holds Tryf.pinned (.plain (OpenSpec.ofChange fnCheckAnswersByTheLineageSpec)) fnCheckAnswersByTheLineageCard
/-- ITS FALSE NEIGHBOUR. Refute it at one input. -/
def FnCheckAnswersByTheLineageToldWrongFalsely : Prop := Claim7.holds Tryf.pinned (.plain (OpenSpec.ofChange fnCheckAnswersByTheLineageWrong)) fnCheckAnswersByTheLineageCard

/-- THE TOLD CARD OF 'zzlaws_root_b1.FnCheckChildOfATemplateAgreesWithIt'. -/
def fnCheckChildOfATemplateAgreesWithItCard : Claim7 := { stood := { row := fnCheckChildOfATemplateAgreesWithItRow, standIns := [], harness := (true, "d9a82c56399e7204e3ba6845615506d3dbf650dc68b6ad58d435917f9f2951d6"), looks := false }, told := true, goes := false }
def FnCheckChildOfATemplateAgreesWithItToldSaid : Prop := Claim7.holds Tryf.pinned (.plain (OpenSpec.ofChange fnCheckChildOfATemplateAgreesWithItSpec)) fnCheckChildOfATemplateAgreesWithItCard
/-- ITS FALSE NEIGHBOUR. Refute it at one input. -/
def FnCheckChildOfATemplateAgreesWithItToldWrongFalsely : Prop := Claim7.holds Tryf.pinned (.plain (OpenSpec.ofChange fnCheckChildOfATemplateAgreesWithItWrong)) fnCheckChildOfATemplateAgreesWithItCard
end Rows
end Go.Proofs.Qxb6608620aFmt
