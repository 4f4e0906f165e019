import Derived.Test.Qxb6608620aFmtLine
import Derived.Laws.MakeOwn
namespace Go.Proofs.Qxb6608620aFmt
open Go.RowKit Go.Joins Go.Kit
set_option linter.unusedVariables false
set_option linter.unusedSimpArgs false

theorem info9 : (Tryf.prog.info? 9).map (fun i => (i.zero, i.size, i.bytes)) = some (some (.string ⟨#[]⟩), 1, 16) := by kernel_rfl
theorem info3' : (Tryf.prog.info? 3).map (fun i => (i.zero, i.size, i.bytes)) = some (some (.int .i64 0), 1, 8) := by kernel_rfl
theorem info5 : (Tryf.prog.info? 5).map (fun i => (i.zero, i.size, i.bytes)) = some (some (.int .u8 0), 1, 1) := by kernel_rfl
theorem info4 : (Tryf.prog.info? 4).map (fun i => (i.zero, i.size, i.bytes)) = some (some (.bool false), 1, 1) := by kernel_rfl
theorem info22 : (Tryf.prog.info? 22).map (fun i => (i.zero, i.size, i.bytes)) = some (some (.slice none 0 0), 1, 24) := by kernel_rfl
theorem info42 : (Tryf.prog.info? 42).map (fun i => (i.zero, i.size, i.bytes)) = some (some (.slice none 0 0), 1, 24) := by kernel_rfl
theorem info51 : (Tryf.prog.info? 51).map (fun i => (i.zero, i.size, i.bytes)) = some (some (.agg #[.string ⟨#[]⟩, .int .i64 0, .int .i64 0]), 3, 32) := by kernel_rfl

theorem made_one (z : Value) (hz : z.cells = #[z]) (n : Nat) : madeCells z.cells n = Array.replicate n z := by
  rw [hz]
  apply Array.ext
  · simp [madeCells]
  · intro i h1 h2
    simp [madeCells, Nat.mod_one]

theorem mkOf {t e : TypeId} {z : Value} {bts : Nat} (hu : Tryf.prog.underlying t = some (.slice e)) (hz : z.cells = #[z]) (hinfo : (Tryf.prog.info? e).map (fun i => (i.zero, i.size, i.bytes)) = some (some z, 1, bts)) (hby : bts ≤ 32) (n : Nat) (hn : n ≤ 4294967296) (w : World) :
    (Instr.makeSlice t (.int .i64 (n : Int)) (.int .i64 (n : Int))).run Tryf.prog w = .ok (.slice (some ⟨w.heap.size, 0, none⟩) n n) (w.alloc (.cells (Array.replicate n z) e)) := by
  obtain ⟨i0, hi, hz0, hz1, hz2⟩ := info_parts hinfo
  have h := run_make (P := Tryf.prog) w t e i0 z hu hi hz0 .i64 .i64 n n (by omega) (by omega) (by
    rw [hz2]
    have h1 : ((bts : Nat) : Int) * (n : Int) ≤ 32 * (n : Int) := Int.mul_le_mul_of_nonneg_right (by omega) (by omega)
    omega) (by omega)
  rw [h, made_one _ hz, hz1]
  simp
theorem mk42 (n : Nat) (hn : n ≤ 4294967296) (w : World) : (Instr.makeSlice 42 (.int .i64 (n : Int)) (.int .i64 (n : Int))).run Tryf.prog w = .ok (.slice (some ⟨w.heap.size, 0, none⟩) n n) (w.alloc (.cells (Array.replicate n (.int .i64 0)) 3)) := mkOf Tryf.underlying42 rfl info3' (by decide) n hn w
theorem mk22 (n : Nat) (hn : n ≤ 4294967296) (w : World) : (Instr.makeSlice 22 (.int .i64 (n : Int)) (.int .i64 (n : Int))).run Tryf.prog w = .ok (.slice (some ⟨w.heap.size, 0, none⟩) n n) (w.alloc (.cells (Array.replicate n (.string ⟨#[]⟩)) 9)) := mkOf Tryf.underlying22 rfl info9 (by decide) n hn w
theorem mk23 (n : Nat) (hn : n ≤ 4294967296) (w : World) : (Instr.makeSlice 23 (.int .i64 (n : Int)) (.int .i64 (n : Int))).run Tryf.prog w = .ok (.slice (some ⟨w.heap.size, 0, none⟩) n n) (w.alloc (.cells (Array.replicate n (.slice none 0 0)) 42)) := mkOf Tryf.underlying23 rfl info42 (by decide) n hn w
theorem mk24 (n : Nat) (hn : n ≤ 4294967296) (w : World) : (Instr.makeSlice 24 (.int .i64 (n : Int)) (.int .i64 (n : Int))).run Tryf.prog w = .ok (.slice (some ⟨w.heap.size, 0, none⟩) n n) (w.alloc (.cells (Array.replicate n (.slice none 0 0)) 22)) := mkOf Tryf.underlying24 rfl info22 (by decide) n hn w
theorem mk45 (n : Nat) (hn : n ≤ 4294967296) (w : World) : (Instr.makeSlice 45 (.int .i64 (n : Int)) (.int .i64 (n : Int))).run Tryf.prog w = .ok (.slice (some ⟨w.heap.size, 0, none⟩) n n) (w.alloc (.cells (Array.replicate n (.int .u8 0)) 5)) := mkOf Tryf.underlying45 rfl info5 (by decide) n hn w
theorem mk41 (n : Nat) (hn : n ≤ 4294967296) (w : World) : (Instr.makeSlice 41 (.int .i64 (n : Int)) (.int .i64 (n : Int))).run Tryf.prog w = .ok (.slice (some ⟨w.heap.size, 0, none⟩) n n) (w.alloc (.cells (Array.replicate n (.bool false)) 4)) := mkOf Tryf.underlying41 rfl info4 (by decide) n hn w

/-- the zeros of n texts -/
def zTexts (n : Nat) : Array Value := madeCells #[.string ⟨#[]⟩, .int .i64 0, .int .i64 0] (n * 3)
theorem size_zTexts (n : Nat) : (zTexts n).size = n * 3 := size_madeCells _ _
theorem mk48 (n : Nat) (hn : n ≤ 4294967296) (w : World) : (Instr.makeSlice 48 (.int .i64 (n : Int)) (.int .i64 (n : Int))).run Tryf.prog w = .ok (.slice (some ⟨w.heap.size, 0, none⟩) n n) (w.alloc (.cells (zTexts n) 51)) := by
  obtain ⟨i0, hi, hz0, hz1, hz2⟩ := info_parts info51
  have h := run_make (P := Tryf.prog) w 48 51 i0 _ Tryf.underlying48 hi hz0 .i64 .i64 n n (by omega) (by omega) (by rw [hz2]; omega) (by omega)
  rw [h, hz1]
  rfl

theorem new16 (ta pa ga : Option Addr) (tn tc mb pn pc gn gc : Nat) (w : World) :
    Calls Tryf.prog 16 #[.slice ta tn tc, .map (some mb), .slice pa pn pc, .slice ga gn gc, .slice none 0 0] w fun e w' => e = .returned (.pointer (some ⟨w.heap.size + 1, 0, none⟩)) ∧ w' = (w.alloc (.cells #[.slice ta tn tc, .map (some mb), .slice pa pn pc] 71)).alloc (.cells #[.pointer none, .pointer (some ⟨w.heap.size, 0, none⟩), .slice ga gn gc, .slice none 0 0] 62) := by
  go_enter Tryf.func16, Tryf.ntmps16
  go_wp2
  go_ret
  exact ⟨rfl, rfl⟩
end Go.Proofs.Qxb6608620aFmt
