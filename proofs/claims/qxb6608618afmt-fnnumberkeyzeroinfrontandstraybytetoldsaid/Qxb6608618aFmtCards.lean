/-
  DERIVED. GIVEN WITH THE SEED: THE CARDS: each row of Qxb6608618aFmtRows.lean that lists a variable, with what it lists TIED to the program's text (the seventh form; the later family's looks); each row that meets fmt, with fmt's text TOLD by the authors' own Lean function (tested against real Go, not proved from fmt's source: count such statements apart). THE CARD IS WHAT COUNTS. Prove the row's statement (the work); the ties are given (Qxb6608618aFmtTie.lean); close each card by the builder's one call (the guide's Derived/Test/ToyasCard.lean, 'card_holds'). Laid BY PROGRAM, IN A SANDBOX (cutbox-door.mjs). By AI agents, Wed Nov 11 2026. No macro, syntax, notation, axiom, sorry.
-/
import Derived.Test.Qxb6608618aFmtRows
import GoSem.ClaimSeven
namespace Go.Proofs.Qxb6608618aFmt
namespace Rows

/-- THE TOLD AND TIED CARD OF 'zzlaws_pkg_pdp_b1.FnNumberKeyGrowsWithMax'. -/
def fnNumberKeyGrowsWithMaxCard : Claim7 := { stood := { row := fnNumberKeyGrowsWithMaxRow, standIns := [], harness := (true, "849ff0b1fc88d89f20a1046480d92a171cc2045e5c36c8c80bc0aa7ec9b62db0"), looks := true }, told := true, laidByText := true, laidKinds := [.data, .data, .data, .sentinel, .sentinel], laidTests := true, laidLooks := .later, goes := false }
def FnNumberKeyGrowsWithMaxToldSaid : Prop := Claim7.holds Tryf.pinned (.plain (OpenSpec.ofChange fnNumberKeyGrowsWithMaxSpec)) fnNumberKeyGrowsWithMaxCard
/-- ITS FALSE NEIGHBOUR. Refute it at one input. -/
def FnNumberKeyGrowsWithMaxToldWrongFalsely : Prop := Claim7.holds Tryf.pinned (.plain (OpenSpec.ofChange fnNumberKeyGrowsWithMaxWrong)) fnNumberKeyGrowsWithMaxCard

/-- THE TOLD AND TIED CARD OF 'zzlaws_pkg_pdp_b1.FnNumberKeyZeroInFrontAndStrayByte'. -/
def fnNumberKeyZeroInFrontAndStrayByteCard : Claim7 := { stood := { row := fnNumberKeyZeroInFrontAndStrayByteRow, standIns := [], harness := (true, "849ff0b1fc88d89f20a1046480d92a171cc2045e5c36c8c80bc0aa7ec9b62db0"), looks := true }, told := true, laidByText := true, laidKinds := [.data, .data, .data, .sentinel, .sentinel], laidTests := true, laidLooks := .later, goes := false }
def FnNumberKeyZeroInFrontAndStrayByteToldSaid : Prop := Claim7.holds Tryf.pinned (.plain (OpenSpec.ofChange fnNumberKeyZeroInFrontAndStrayByteSpec)) fnNumberKeyZeroInFrontAndStrayByteCard
/-- ITS FALSE NEIGHBOUR. Refute it at one input. -/
def FnNumberKeyZeroInFrontAndStrayByteToldWrongFalsely : Prop := Claim7.holds Tryf.pinned (.plain (OpenSpec.ofChange fnNumberKeyZeroInFrontAndStrayByteWrong)) fnNumberKeyZeroInFrontAndStrayByteCard
end Rows
end Go.Proofs.Qxb6608618aFmt
