import Derived.Test.Qxb6608618aSmall
import Derived.ProofKit
import Derived.OpenShut
import Derived.ShutString
import Derived.ChangeOld
namespace Go.Proofs.Qxb6608618a
open Go.ChangeShapes Go.WideShapes Go.ChangeAt Go.RowKit
open Go.ChangeMaps (open_string shut_string)
set_option linter.unusedVariables false

theorem own : ownKnob Try.prog.godebug = none := by kernel_rfl
theorem Try.laidOut : laidOutB Try.prog = true := by kernel_rfl
theorem Try.cells9 : Try.prog.cellsOf 9 = 1 := by kernel_rfl
theorem Try.cells22 : Try.prog.cellsOf 22 = 1 := by kernel_rfl
theorem Try.cells3 : Try.prog.cellsOf 3 = 1 := by kernel_rfl
theorem Try.cells23 : Try.prog.cellsOf 23 = 1 := by kernel_rfl
theorem Try.cells5 : Try.prog.cellsOf 5 = 1 := by kernel_rfl

theorem some_of_len {α : Type} {xs : List α} {n i : Nat} (h : xs.length = n) (hi : i < n) : ∃ y, xs[i]? = some y := ⟨xs[i], List.getElem?_eq_getElem (by omega)⟩

theorem open_req {H : Type} {enc : TypeId × Value → H} {W : World} {base : Nat} {spare : Nat → Bool} {held : Bool} {fuel : Nat} {cs : Array Value} {x : DataW H × List MemPlace}
    (hz : cs.size = Try.prog.cellsOf 25) (hf : DataW.trod enc Try.prog W base spare held fuel 25 (Value.agg cs).cells.toList = some x) : ∃ p u h s n m f, cs = Q7 p u h s n m f := by
  rw [Try.cells25] at hz
  obtain ⟨l⟩ := cs
  match l, hz with
  | [c0, c1, c2, c3, c4, c5, c6], _ =>
    have hf' : DataW.trod enc Try.prog W base spare held fuel 25 [c0, c1, c2, c3, c4, c5, c6] = some x := hf
    obtain ⟨xs, n, _, _, _, hlen, hfs⟩ := DataW.trod_struct Try.underlying25 hf'
    have g0 := hfs 0 _ rfl
    have g1 := hfs 1 _ rfl
    have g2 := hfs 2 _ rfl
    have g3 := hfs 3 _ rfl
    have g4 := hfs 4 _ rfl
    have g5 := hfs 5 _ rfl
    have g6 := hfs 6 _ rfl
    obtain ⟨y0, e0⟩ := some_of_len (i := 0) hlen (by simp)
    obtain ⟨y1, e1⟩ := some_of_len (i := 1) hlen (by simp)
    obtain ⟨y2, e2⟩ := some_of_len (i := 2) hlen (by simp)
    obtain ⟨y3, e3⟩ := some_of_len (i := 3) hlen (by simp)
    obtain ⟨y4, e4⟩ := some_of_len (i := 4) hlen (by simp)
    obtain ⟨y5, e5⟩ := some_of_len (i := 5) hlen (by simp)
    obtain ⟨y6, e6⟩ := some_of_len (i := 6) hlen (by simp)
    obtain ⟨p, q0, _⟩ := DataW.trod_string Try.underlying9 (g0.trans e0)
    obtain ⟨u, q1, _⟩ := DataW.trod_int Try.underlying22 (g1.trans e1)
    obtain ⟨h, q2, _⟩ := DataW.trod_int Try.underlying3 (g2.trans e2)
    obtain ⟨s, q3, _⟩ := DataW.trod_int Try.underlying23 (g3.trans e3)
    obtain ⟨k, q4, _⟩ := DataW.trod_int Try.underlying23 (g4.trans e4)
    obtain ⟨m, q5, _⟩ := DataW.trod_string Try.underlying9 (g5.trans e5)
    obtain ⟨f, q6, _⟩ := DataW.trod_int Try.underlying5 (g6.trans e6)
    replace q0 : List.take (Try.prog.cellsOf 9) (List.drop 0 [c0, c1, c2, c3, c4, c5, c6]) = _ := q0
    rw [Try.cells9] at q0; simp at q0
    replace q1 : List.take (Try.prog.cellsOf 22) (List.drop 1 [c0, c1, c2, c3, c4, c5, c6]) = _ := q1
    rw [Try.cells22] at q1; simp at q1
    replace q2 : List.take (Try.prog.cellsOf 3) (List.drop 2 [c0, c1, c2, c3, c4, c5, c6]) = _ := q2
    rw [Try.cells3] at q2; simp at q2
    replace q3 : List.take (Try.prog.cellsOf 23) (List.drop 3 [c0, c1, c2, c3, c4, c5, c6]) = _ := q3
    rw [Try.cells23] at q3; simp at q3
    replace q4 : List.take (Try.prog.cellsOf 23) (List.drop 4 [c0, c1, c2, c3, c4, c5, c6]) = _ := q4
    rw [Try.cells23] at q4; simp at q4
    replace q5 : List.take (Try.prog.cellsOf 9) (List.drop 5 [c0, c1, c2, c3, c4, c5, c6]) = _ := q5
    rw [Try.cells9] at q5; simp at q5
    replace q6 : List.take (Try.prog.cellsOf 5) (List.drop 6 [c0, c1, c2, c3, c4, c5, c6]) = _ := q6
    rw [Try.cells5] at q6; simp at q6
    exact ⟨p, u, h, s, k, m, f, by rw [q0, q1, q2, q3, q4, q5, q6]⟩
end Go.Proofs.Qxb6608618a
