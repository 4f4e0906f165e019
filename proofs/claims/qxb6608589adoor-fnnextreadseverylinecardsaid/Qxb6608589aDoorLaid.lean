import Derived.Test.Qxb6608589aDoorRows
import Derived.Test.Qxb6608589aDoorReadAll
import Derived.ProofKit
import Derived.LaidMore
import Derived.LaidLaws
import Derived.Stop.Joined
namespace Go.Proofs.Qxb6608589aDoor
open Go.ChangeShapes Go.WideShapes Go.ChangeAt Go.RowKit

theorem Tryd.own : ownKnob Tryd.prog.godebug = none := by kernel_rfl
theorem Tryd.laidOut : laidOutB Tryd.prog = true := by kernel_rfl
theorem gEOF : Tryd.prog.globalNamed "io.EOF" = some 2 := by kernel_rfl
theorem gNP : Tryd.prog.globalNamed "io.ErrNoProgress" = some 4 := by kernel_rfl
theorem gBF : Tryd.prog.globalNamed "bufio.ErrBufferFull" = some 1 := by kernel_rfl
theorem gNR : Tryd.prog.globalNamed "bufio.errNegativeRead" = some 3 := by kernel_rfl
theorem tEOF : (Tryd.prog.globals[2]?).map (·.type) = some 33 := by kernel_rfl
theorem tNP : (Tryd.prog.globals[4]?).map (·.type) = some 33 := by kernel_rfl
theorem tBF : (Tryd.prog.globals[1]?).map (·.type) = some 33 := by kernel_rfl
theorem tNR : (Tryd.prog.globals[3]?).map (·.type) = some 33 := by kernel_rfl
/-- the dynamic type's name, as the given datum has it -/
def errName : String := match (Rows.laid_io_EOF : DataW Unit) with | .iface n _ => n | _ => ""
theorem Tryd.row66 (u : TypeId) (h : Tryd.prog.typeName? 3 u = some errName) : u = 66 :=
  typeName_ptr_named (P := Tryd.prog) (nm := "errors.errorString") (by kernel_rfl) (by kernel_rfl) (by decide) u (h.trans (congrArg some (by decide)))
theorem var_lt {P : Program} {W : World} {n : String} {g : Nat} {cs : Array Value} (hg : P.globalNamed n = some g) (h : W.var? P n = some cs) : g < W.heap.size := by
  unfold World.var? at h
  simp only [hg, Option.bind_some] at h
  rcases Nat.lt_or_ge g W.heap.size with h' | h'
  · exact h'
  · rw [Array.getElem?_eq_none h'] at h; cases h
theorem Tryd.cells85 : Tryd.prog.cellsOf 85 = 1 := by kernel_rfl
theorem Tryd.cells9 : Tryd.prog.cellsOf 9 = 1 := by kernel_rfl

/-- The door's own heap meets the condition. -/
theorem door_met (os : Os) (args : Array Value) : laidMetH Tryd.prog Rows.fnNextReadsJoinedTextsPieceByPieceRow.laid ((World.doorLaid Tryd.prog 90 os).forCall (fun _ _ => 0) ⟨#[], args, []⟩).memory :=
  laidMetH_of_parts3 (fuel := 8) (laidMet_of_run' 8 (by kernel_rfl) (by kernel_rfl)) (by kernel_rfl) (by kernel_rfl)

theorem sent_of_laid {W : World} (h : laidMetH Tryd.prog Rows.fnNextReadsJoinedTextsPieceByPieceRow.laid W) : ∃ aE aF, Sent W aE aF := by
  rw [MakeChecks.laidMetH_plain _ _ _ (by kernel_rfl)] at h
  obtain ⟨ps, ⟨g0, t0, cs0, f0, p0, q0, hg0, ht0, hv0, hd0, ⟨g1, t1, cs1, f1, p1, q1, hg1, ht1, hv1, hd1, ⟨g2, t2, cs2, f2, p2, q2, hg2, ht2, hv2, hd2, ⟨g3, t3, cs3, f3, p3, q3, hg3, ht3, hv3, hd3, hq3, e3⟩, e2⟩, e1⟩, e0⟩, hnd, hrows⟩ := h
  obtain rfl := Option.some.inj (gEOF.symm.trans hg0)
  obtain rfl := Option.some.inj (gNP.symm.trans hg1)
  obtain rfl := Option.some.inj (gBF.symm.trans hg2)
  obtain rfl := Option.some.inj (gNR.symm.trans hg3)
  obtain rfl := Option.some.inj (tEOF.symm.trans ht0)
  obtain rfl := Option.some.inj (tBF.symm.trans ht2)
  subst e2
  subst e1
  subst e0
  obtain ⟨l0⟩ := cs0
  obtain ⟨l2⟩ := cs2
  have ok0 : ∀ u v, l0 = [.iface u v] → Value.okWide Tryd.prog W .any 0 u v := fun u v e => by
    subst e
    exact (hrows 2 0 (by simp [MemPlace.row])).2 u v (by simpa using World.var?_cell hg0 hv0 0)
  have ok2 : ∀ u v, l2 = [.iface u v] → Value.okWide Tryd.prog W .any 0 u v := fun u v e => by
    subst e
    exact (hrows 1 0 (by simp [MemPlace.row])).2 u v (by simpa using World.var?_cell hg2 hv2 0)
  obtain ⟨a0, s0, rfl, hc0, hs0, hz0, rfl⟩ := errorString_of_trod Tryd.underlying33 Tryd.row66 Tryd.underlying66 Tryd.underlying85 rfl rfl Tryd.underlying9 Tryd.cells85 Tryd.cells9 hd0 ok0
  obtain ⟨a2, s2, rfl, hc2, hs2, hz2, rfl⟩ := errorString_of_trod Tryd.underlying33 Tryd.row66 Tryd.underlying66 Tryd.underlying85 rfl rfl Tryd.underlying9 Tryd.cells85 Tryd.cells9 hd2 ok2
  obtain ⟨c0, t0, hb0⟩ := (hrows a0.block a0.off (by simp [MemPlace.row])).1
  obtain ⟨c2, t2, hb2⟩ := (hrows a2.block a2.off (by simp [MemPlace.row])).1
  refine ⟨a0, a2, by simpa using World.var?_cell hg0 hv0 0, by simpa using World.var?_cell hg2 hv2 0, ?_, ⟨c0, t0, hb0⟩, ⟨c2, t2, hb2⟩, ?_⟩
  · rintro rfl
    simp [MemPlace.row] at hnd
  · have := var_lt hg1 hv1; omega
end Go.Proofs.Qxb6608589aDoor
