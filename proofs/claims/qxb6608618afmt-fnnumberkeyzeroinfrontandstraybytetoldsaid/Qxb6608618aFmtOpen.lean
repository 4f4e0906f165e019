import Derived.Test.Qxb6608618aFmtSteps
import Derived.Test.Qxb6608618aFmtTie
import Derived.Test.Qxb6608618aFmtCards
import Derived.ProofKit
import Derived.OpenShut
import Derived.ShutString
import Derived.ChangeOld
import Derived.LaidMore
import Derived.LaidLaws
import Derived.Stop.Joined
import Derived.Stop.JoinedAt
import Derived.Stop.JoinedTold
import Derived.Stop.LaidErr
import Derived.SizedLaws
import Derived.Deep.DeepWitnessRef
import Derived.SevenTiedAt
namespace Go.Proofs.Qxb6608618aFmt
open Go.ChangeShapes Go.WideShapes Go.ChangeAt Go.RowKit Go.Kit
open Go.ChangeMaps (open_string shut_string)
open Go.Extern.Stop Go.Stop Go.Extern
set_option linter.unusedVariables false

theorem own : ownKnob Tryf.prog.godebug = none := by kernel_rfl
theorem Tryf.laidOut : laidOutB Tryf.prog = true := by kernel_rfl
theorem Tryf.cells9 : Tryf.prog.cellsOf 9 = 1 := by kernel_rfl
theorem Tryf.cells22 : Tryf.prog.cellsOf 22 = 1 := by kernel_rfl
theorem Tryf.cells3 : Tryf.prog.cellsOf 3 = 1 := by kernel_rfl
theorem Tryf.cells23 : Tryf.prog.cellsOf 23 = 1 := by kernel_rfl
theorem Tryf.cells5 : Tryf.prog.cellsOf 5 = 1 := by kernel_rfl

theorem some_of_len {α : Type} {xs : List α} {n i : Nat} (h : xs.length = n) (hi : i < n) : ∃ y, xs[i]? = some y := ⟨xs[i], List.getElem?_eq_getElem (by omega)⟩

theorem open_req {H : Type} {enc : TypeId × Value → H} {W : World} {base : Nat} {spare : Nat → Bool} {held : Bool} {fuel : Nat} {cs : Array Value} {x : DataW H × List MemPlace}
    (hz : cs.size = Tryf.prog.cellsOf 25) (hf : DataW.trod enc Tryf.prog W base spare held fuel 25 (Value.agg cs).cells.toList = some x) : ∃ p u h s n m f, cs = Q7 p u h s n m f := by
  rw [Tryf.cells25] at hz
  obtain ⟨l⟩ := cs
  match l, hz with
  | [c0, c1, c2, c3, c4, c5, c6], _ =>
    have hf' : DataW.trod enc Tryf.prog W base spare held fuel 25 [c0, c1, c2, c3, c4, c5, c6] = some x := hf
    obtain ⟨xs, n, _, _, _, hlen, hfs⟩ := DataW.trod_struct Tryf.underlying25 hf'
    have g0 := hfs 0 _ rfl
    have g1 := hfs 1 _ rfl
    have g2 := hfs 2 _ rfl
    have g3 := hfs 3 _ rfl
    have g4 := hfs 4 _ rfl
    have g5 := hfs 5 _ rfl
    have g6 := hfs 6 _ rfl
    obtain ⟨y0, e0⟩ := some_of_len (i := 0) hlen (by simp)
    obtain ⟨y1, e1⟩ := some_of_len (i := 1) hlen (by simp)
    obtain ⟨y2, e2⟩ := some_of_len (i := 2) hlen (by simp)
    obtain ⟨y3, e3⟩ := some_of_len (i := 3) hlen (by simp)
    obtain ⟨y4, e4⟩ := some_of_len (i := 4) hlen (by simp)
    obtain ⟨y5, e5⟩ := some_of_len (i := 5) hlen (by simp)
    obtain ⟨y6, e6⟩ := some_of_len (i := 6) hlen (by simp)
    obtain ⟨p, q0, _⟩ := DataW.trod_string Tryf.underlying9 (g0.trans e0)
    obtain ⟨u, q1, _⟩ := DataW.trod_int Tryf.underlying22 (g1.trans e1)
    obtain ⟨h, q2, _⟩ := DataW.trod_int Tryf.underlying3 (g2.trans e2)
    obtain ⟨s, q3, _⟩ := DataW.trod_int Tryf.underlying23 (g3.trans e3)
    obtain ⟨k, q4, _⟩ := DataW.trod_int Tryf.underlying23 (g4.trans e4)
    obtain ⟨m, q5, _⟩ := DataW.trod_string Tryf.underlying9 (g5.trans e5)
    obtain ⟨f, q6, _⟩ := DataW.trod_int Tryf.underlying5 (g6.trans e6)
    replace q0 : List.take (Tryf.prog.cellsOf 9) (List.drop 0 [c0, c1, c2, c3, c4, c5, c6]) = _ := q0
    rw [Tryf.cells9] at q0; simp at q0
    replace q1 : List.take (Tryf.prog.cellsOf 22) (List.drop 1 [c0, c1, c2, c3, c4, c5, c6]) = _ := q1
    rw [Tryf.cells22] at q1; simp at q1
    replace q2 : List.take (Tryf.prog.cellsOf 3) (List.drop 2 [c0, c1, c2, c3, c4, c5, c6]) = _ := q2
    rw [Tryf.cells3] at q2; simp at q2
    replace q3 : List.take (Tryf.prog.cellsOf 23) (List.drop 3 [c0, c1, c2, c3, c4, c5, c6]) = _ := q3
    rw [Tryf.cells23] at q3; simp at q3
    replace q4 : List.take (Tryf.prog.cellsOf 23) (List.drop 4 [c0, c1, c2, c3, c4, c5, c6]) = _ := q4
    rw [Tryf.cells23] at q4; simp at q4
    replace q5 : List.take (Tryf.prog.cellsOf 9) (List.drop 5 [c0, c1, c2, c3, c4, c5, c6]) = _ := q5
    rw [Tryf.cells9] at q5; simp at q5
    replace q6 : List.take (Tryf.prog.cellsOf 5) (List.drop 6 [c0, c1, c2, c3, c4, c5, c6]) = _ := q6
    rw [Tryf.cells5] at q6; simp at q6
    exact ⟨p, u, h, s, k, m, f, by rw [q0, q1, q2, q3, q4, q5, q6]⟩

/-- the dynamic type's name, as the given datum has it -/
def errName : String := match (Rows.laid_strconv_ErrRange : DataW Unit) with | .iface n _ => n | _ => ""
theorem Tryf.row73 (u : TypeId) (h : Tryf.prog.typeName? 3 u = some errName) : u = 73 :=
  typeName_ptr_named (P := Tryf.prog) (nm := "errors.errorString") (by kernel_rfl) (by kernel_rfl) (by decide) u (h.trans (congrArg some (by decide)))

/-- The door's own heap meets the condition. -/
theorem door_met (os : Os) (args : Array Value) : laidMetH Tryf.prog Rows.fnNumberKeyGrowsWithMaxRow.laid ((World.doorLaid Tryf.prog 62 os).forCall (fun _ _ => 0) ⟨#[], args, []⟩).memory :=
  laidMetH_of_parts3 (fuel := 8) (laidMet_of_run' 8 (by kernel_rfl) (by kernel_rfl)) (by kernel_rfl) (by kernel_rfl)

theorem errs_of_laid {W : World} (h : laidMetH Tryf.prog Rows.fnNumberKeyGrowsWithMaxRow.laid W) : Errs W := by
  have hL : laidMet Tryf.prog Rows.fnNumberKeyGrowsWithMaxRow.laid W := h
  have h3 := hL.tail.tail.tail
  have h4 := h3.tail
  obtain ⟨a1, t1, hv1, _⟩ := laid_sentinel (g := 1) h3 (by kernel_rfl) (by kernel_rfl) Tryf.underlying47 Tryf.row73 Tryf.underlying73 Tryf.underlying75 rfl rfl Tryf.underlying9 (by kernel_rfl) (by kernel_rfl)
  obtain ⟨a0, t0, hv0, _⟩ := laid_sentinel (g := 0) h4 (by kernel_rfl) (by kernel_rfl) Tryf.underlying47 Tryf.row73 Tryf.underlying73 Tryf.underlying75 rfl rfl Tryf.underlying9 (by kernel_rfl) (by kernel_rfl)
  exact ⟨⟨_, _, by simpa using World.var?_cell (g := 0) (by kernel_rfl) hv0 0⟩, ⟨_, _, by simpa using World.var?_cell (g := 1) (by kernel_rfl) hv1 0⟩⟩
end Go.Proofs.Qxb6608618aFmt
