/-
  No cell of these rows narrows 'for every input' (looked for: loops, veiled, ifaces, maps, wideKeys, modest, calm, conditions, laid).
  DERIVED. THE GIVEN ROWS OF THIS SEAT. 2 by the template 'for every input the law returns true; each argument reads behind the call as it read before'; 0 by the template 'total and deterministic' (their statements: Qxb6608620aFmtTotals.lean).
  GIVEN WITH THE SEED: the statements are not yours to turn. If you find one false, say at which input.
  Laid BY PROGRAM, IN A SANDBOX (cutbox-rows.mjs): the forced cells as the released guide's own fill.sh prints them over the translation 750754670956f2c4… (all of the seat's roots in one cut). By AI agents, Wed Nov 11 2026. No macro, syntax, notation, axiom, sorry.
-/
import Derived.Test.Qxb6608620aFmtChecked
import GoSem.Claim
import GoSem.ClaimJoined
import GoSem.ClaimMapViews
import Derived.JoinedTies
import Derived.KernelRfl
namespace Go.Proofs.Qxb6608620aFmt
/- THE CELL 'sum', in the pinned program and in every row, IS THE sha256 OF THE DUMP (.gsa) THAT Qxb6608620aFmtProg.lean LOADS. Nothing in Lean hashes anything: it is a label: what it is worth is what the hold of that sum in a sandbox is worth. -/
noncomputable def Tryf.pinned : Pinned := { name := "qxb6608620afmt", sum := "750754670956f2c49aea68e38221a62c797e1263de2356a86d7b63cf468ae35d", checked := Tryf.checked }
namespace Rows
def none {H : Type} : Left H := { results := [], args := [] }

/-- 'zzlaws_root_b1.FnCheckAnswersByTheLineage': WHATEVER THE INPUT: true; the input reads as it did. -/
def fnCheckAnswersByTheLineageSpec : ChangeSpec := { name := "fnCheckAnswersByTheLineage", fn := fun _ => fun
  | [d1, d2, d3, d4, d5] => { results := [.lit (.bool true)], args := [d1, d2, d3, d4, d5] }
  | _ => none }
def fnCheckAnswersByTheLineageRow : OpenClaim := { program := "qxb6608620afmt", sum := "750754670956f2c49aea68e38221a62c797e1263de2356a86d7b63cf468ae35d", func := "example.com/vakt/vakt/zzlaws_root_b1.FnCheckAnswersByTheLineage", spec := "fnCheckAnswersByTheLineage", stops := ["fmt.errorf"], inPlace := ["internal/bytealg.CountString", "internal/bytealg.IndexByteString", "internal/bytealg.IndexString", "fmt.errorf"], unfollowed := true, recurses := true, named := ["internal/bytealg.MaxLen"], apart := false }
/-- NO THEOREM (fmt's text is open here; it may be false): for the released tool's asking of the row's closed facts alone. THE STATEMENT IS 'FnCheckAnswersByTheLineageToldSaid' (Qxb6608620aFmtCards.lean). -/
def FnCheckAnswersByTheLineageFormAsk : Prop := fnCheckAnswersByTheLineageRow.holds Tryf.pinned (OpenSpec.ofChange fnCheckAnswersByTheLineageSpec)

/-- ITS FALSE NEIGHBOUR: 'it returns false'. Refute it at one input. -/
def fnCheckAnswersByTheLineageWrong : ChangeSpec := { name := "fnCheckAnswersByTheLineage", fn := fun _ => fun
  | [d1, d2, d3, d4, d5] => { results := [.lit (.bool false)], args := [d1, d2, d3, d4, d5] }
  | _ => none }
def FnCheckAnswersByTheLineageWrongFormAsk : Prop := fnCheckAnswersByTheLineageRow.holds Tryf.pinned (OpenSpec.ofChange fnCheckAnswersByTheLineageWrong)

/-- 'zzlaws_root_b1.FnCheckChildOfATemplateAgreesWithIt': WHATEVER THE INPUT: true; the input reads as it did. -/
def fnCheckChildOfATemplateAgreesWithItSpec : ChangeSpec := { name := "fnCheckChildOfATemplateAgreesWithIt", fn := fun _ => fun
  | [d1, d2, d3, d4, d5] => { results := [.lit (.bool true)], args := [d1, d2, d3, d4, d5] }
  | _ => none }
def fnCheckChildOfATemplateAgreesWithItRow : OpenClaim := { program := "qxb6608620afmt", sum := "750754670956f2c49aea68e38221a62c797e1263de2356a86d7b63cf468ae35d", func := "example.com/vakt/vakt/zzlaws_root_b1.FnCheckChildOfATemplateAgreesWithIt", spec := "fnCheckChildOfATemplateAgreesWithIt", stops := ["fmt.errorf"], inPlace := ["internal/bytealg.CountString", "internal/bytealg.IndexByteString", "internal/bytealg.IndexString", "fmt.errorf"], unfollowed := true, recurses := true, named := ["internal/bytealg.MaxLen"], apart := false }
/-- NO THEOREM (fmt's text is open here; it may be false): for the released tool's asking of the row's closed facts alone. THE STATEMENT IS 'FnCheckChildOfATemplateAgreesWithItToldSaid' (Qxb6608620aFmtCards.lean). -/
def FnCheckChildOfATemplateAgreesWithItFormAsk : Prop := fnCheckChildOfATemplateAgreesWithItRow.holds Tryf.pinned (OpenSpec.ofChange fnCheckChildOfATemplateAgreesWithItSpec)

/-- ITS FALSE NEIGHBOUR: 'it returns false'. Refute it at one input. -/
def fnCheckChildOfATemplateAgreesWithItWrong : ChangeSpec := { name := "fnCheckChildOfATemplateAgreesWithIt", fn := fun _ => fun
  | [d1, d2, d3, d4, d5] => { results := [.lit (.bool false)], args := [d1, d2, d3, d4, d5] }
  | _ => none }
def FnCheckChildOfATemplateAgreesWithItWrongFormAsk : Prop := fnCheckChildOfATemplateAgreesWithItRow.holds Tryf.pinned (OpenSpec.ofChange fnCheckChildOfATemplateAgreesWithItWrong)

end Rows
end Go.Proofs.Qxb6608620aFmt
