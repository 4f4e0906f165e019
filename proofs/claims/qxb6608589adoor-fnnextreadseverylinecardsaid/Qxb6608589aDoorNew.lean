import Derived.Test.Qxb6608589aDoorNext
namespace Go.Proofs.Qxb6608589aDoor
open Go.RowKit Go.Joins
set_option linter.unusedVariables false

theorem assert_no (a : Addr) (w : World) : (Instr.typeAssert (.iface 46 (.pointer (some a))) 52 44 true).run Tryd.prog w = .ok (.tuple #[.pointer none, .bool false]) w := by kernel_rfl

set_option maxHeartbeats 1000000 in
theorem new_any (dp : Option Addr) (n : Nat) (size : Int) (w : World) (hs : size ≤ 65536) (S : Nat) (hS : (S : Int) = max size 16) :
    Calls Tryd.prog 10 #[.slice dp n n, .int .i64 size] w fun e w' => e = .returned (.pointer (some ⟨w.heap.size + 3, 0, none⟩)) ∧
      w' = (((w.alloc (.cells #[.slice dp n n, .int .i64 0, .int .i64 (-1)] 58)).alloc (.cells (rdr (w.heap.size + 2) S w.heap.size 0 0 .nilIface (-1) (-1)) 55)).alloc (.cells (cellsB (List.replicate S 0)) 5)).alloc (.cells (hfl (w.heap.size + 1) 0 (.slice none 0 0)) 49) := by
  have hmk := fun w => run_make5 w S S (Nat.le_refl _) (by omega)
  rw [hS] at hmk
  have hta := assert_no
  have HS := (show Hid _ from hS)
  clear hS
  go_enter Tryd.func10, Tryd.ntmps10
  go_wp2
  go_ret
  exact ⟨rfl, rfl⟩
end Go.Proofs.Qxb6608589aDoor
