import Derived.Test.Qxb6608618aFmtPlain
import Derived.WalkKit
import Derived.WalkSpells
import Derived.WalkLawsBesides
import Derived.Lib.SmallJoins
import Derived.Deep.QuietTactic
import Derived.BigQuiet
import Derived.Laws.StructEq
import Derived.Deep.RegionHeld3
import Derived.Laws.CopyRow
import Derived.Deep.DeepCutAuto
import Derived.Handy
namespace Go.Proofs.Qxb6608618aFmt
open Go.RowKit Go.Joins
set_option linter.unusedVariables false
set_option linter.unusedSimpArgs false

theorem Tryf.cells25 : Tryf.prog.cellsOf 25 = 7 := by kernel_rfl
theorem Tryf.cells30 : Tryf.prog.cellsOf 30 = 7 := by kernel_rfl
/-- the cells of a request -/
abbrev Q7 (p : ByteArray) (u h s n : Int) (m : ByteArray) (f : Int) : Array Value := #[.string p, .int .u32 u, .int .i64 h, .int .u64 s, .int .u64 n, .string m, .int .u8 f]

theorem hide {p : Prop} (h : p) : Hid p := h
theorem ret_bool {a b : Bool} (h : a = b) : Ending.returned (.bool a) = .returned (.bool b) := by rw [h]
theorem ret_int {k : IntKind} {a b : Int} (h : a = b) : Ending.returned (.int k a) = .returned (.int k b) := by rw [h]
theorem fields30 : Tryf.prog.fieldsOf 30 = #[{ name := "Path", type := 9, offset := 0, embedded := false, tag := "", pkgPath := "", byteOffset := 0 }, { name := "UID", type := 22, offset := 1, embedded := false, tag := "", pkgPath := "", byteOffset := 16 }, { name := "Hour", type := 3, offset := 2, embedded := false, tag := "", pkgPath := "", byteOffset := 24 }, { name := "Subvol", type := 23, offset := 3, embedded := false, tag := "", pkgPath := "", byteOffset := 32 }, { name := "Snapshot", type := 23, offset := 4, embedded := false, tag := "", pkgPath := "", byteOffset := 40 }, { name := "SubvolName", type := 9, offset := 5, embedded := false, tag := "", pkgPath := "", byteOffset := 48 }, { name := "Fields", type := 28, offset := 6, embedded := false, tag := "", pkgPath := "", byteOffset := 64 }] := by
  unfold Program.fieldsOf
  rw [Tryf.underlying30]

theorem eql30 (p : ByteArray) (u h s n : Int) (m : ByteArray) (f : Int) (w : World) :
    (binOp .eql 30 (.agg (Q7 p u h s n m f)) (.agg (Q7 p u h s n m f))).run Tryf.prog w = .ok (.bool true) w := by
  rw [run_eql_struct, run_equalIn_struct w 9999 30 _ _ (by kernel_rfl) (by kernel_rfl), fields30]
  go_simp

theorem rb6 (p : ByteArray) (u h s n : Int) (m : ByteArray) (f : Int) (w : World) (hb : p.size + m.size ≤ 1048576) :
    Calls Tryf.prog 6 #[.agg (Q7 p u h s n m f)] w fun e w' => e = .returned (.int .i64 (p.size + m.size)) ∧ w' = w.alloc (.cells (Q7 p u h s n m f) 25) := by
  go_enter Tryf.func6, Tryf.ntmps6
  go_wp2
  go_ret
  exact ⟨rfl, rfl⟩

theorem req7 (p : ByteArray) (u h s n : Int) (m : ByteArray) (f : Int) (w : World) :
    Calls Tryf.prog 7 #[.agg (Q7 p u h s n m f)] w fun e w' => e = .returned (.pointer (some ⟨w.heap.size + 1, 0, none⟩)) ∧ w' = (w.alloc (.cells (Q7 p u h s n m f) 25)).alloc (.cells (Q7 p u h s n m f) 30) := by
  go_enter Tryf.func7, Tryf.ntmps7
  go_wp2
  go_ret
  exact ⟨rfl, rfl⟩


theorem bytes5 (p : ByteArray) (u h s n : Int) (m : ByteArray) (f : Int) (x y : ByteArray) (x1 x2 : Int) (w : World) (hb : p.size + m.size + x.size + y.size ≤ 1048576) :
    Calls Tryf.prog 5 #[.agg (Q7 p u h s n m f), .string x, .int .u64 x1, .int .u64 x2, .string y] w fun e w' => e = .returned (.bool true) ∧ w' = w.alloc (.cells (Q7 p u h s n m f) 25) := by
  go_enter Tryf.func5, Tryf.ntmps5
  go_wp2
  go_ret
  exact ⟨rfl, rfl⟩

theorem bytes5_no (p : ByteArray) (u h s n : Int) (m : ByteArray) (f : Int) (x y : ByteArray) (x1 x2 : Int) (w : World) (hb : 1048576 < p.size + m.size + x.size + y.size) :
    Calls Tryf.prog 5 #[.agg (Q7 p u h s n m f), .string x, .int .u64 x1, .int .u64 x2, .string y] w fun e w' => e = .returned (.bool false) ∧ w' = w.alloc (.cells (Q7 p u h s n m f) 25) := by
  by_cases h1 : 1048576 < p.size
  · go_enter Tryf.func5, Tryf.ntmps5
    go_wp2
    go_ret
    exact ⟨rfl, rfl⟩
  by_cases h2 : 1048576 < m.size
  · go_enter Tryf.func5, Tryf.ntmps5
    go_wp2
    go_ret
    exact ⟨rfl, rfl⟩
  by_cases h3 : 1048576 < p.size + m.size
  · go_enter Tryf.func5, Tryf.ntmps5
    go_wp2
    go_ret
    exact ⟨rfl, rfl⟩
  by_cases h4 : 1048576 < x.size
  · go_enter Tryf.func5, Tryf.ntmps5
    go_wp2
    go_ret
    exact ⟨rfl, rfl⟩
  by_cases h5 : 1048576 < p.size + m.size + x.size
  · go_enter Tryf.func5, Tryf.ntmps5
    go_wp2
    go_ret
    exact ⟨rfl, rfl⟩
  by_cases h6 : 1048576 < y.size
  · go_enter Tryf.func5, Tryf.ntmps5
    go_wp2
    go_ret
    exact ⟨rfl, rfl⟩
  · go_enter Tryf.func5, Tryf.ntmps5
    go_wp2
    go_ret
    exact ⟨rfl, rfl⟩

theorem bytes10 (p : ByteArray) (u h s n : Int) (m : ByteArray) (f : Int) (x y : ByteArray) (x1 x2 x3 : Int) (w : World) (hb : p.size + m.size + x.size + y.size ≤ 1048576) :
    Calls Tryf.prog 10 #[.agg (Q7 p u h s n m f), .string x, .int .u64 x1, .string y, .int .i64 x2, .int .u8 x3] w fun e w' => e = .returned (.bool true) ∧ w' = w.alloc (.cells (Q7 p u h s n m f) 25) := by
  go_enter Tryf.func10, Tryf.ntmps10
  go_wp2
  go_ret
  exact ⟨rfl, rfl⟩

theorem bytes10_no (p : ByteArray) (u h s n : Int) (m : ByteArray) (f : Int) (x y : ByteArray) (x1 x2 x3 : Int) (w : World) (hb : 1048576 < p.size + m.size + x.size + y.size) :
    Calls Tryf.prog 10 #[.agg (Q7 p u h s n m f), .string x, .int .u64 x1, .string y, .int .i64 x2, .int .u8 x3] w fun e w' => e = .returned (.bool false) ∧ w' = w.alloc (.cells (Q7 p u h s n m f) 25) := by
  by_cases h1 : 1048576 < p.size
  · go_enter Tryf.func10, Tryf.ntmps10
    go_wp2
    go_ret
    exact ⟨rfl, rfl⟩
  by_cases h2 : 1048576 < m.size
  · go_enter Tryf.func10, Tryf.ntmps10
    go_wp2
    go_ret
    exact ⟨rfl, rfl⟩
  by_cases h3 : 1048576 < p.size + m.size
  · go_enter Tryf.func10, Tryf.ntmps10
    go_wp2
    go_ret
    exact ⟨rfl, rfl⟩
  by_cases h4 : 1048576 < x.size
  · go_enter Tryf.func10, Tryf.ntmps10
    go_wp2
    go_ret
    exact ⟨rfl, rfl⟩
  by_cases h5 : 1048576 < p.size + m.size + x.size
  · go_enter Tryf.func10, Tryf.ntmps10
    go_wp2
    go_ret
    exact ⟨rfl, rfl⟩
  by_cases h6 : 1048576 < y.size
  · go_enter Tryf.func10, Tryf.ntmps10
    go_wp2
    go_ret
    exact ⟨rfl, rfl⟩
  · go_enter Tryf.func10, Tryf.ntmps10
    go_wp2
    go_ret
    exact ⟨rfl, rfl⟩

theorem clo22 (r : Nat) (hr : r ≤ 1114111) (w : World) : Calls Tryf.prog 22 #[.int .i32 (r : Int)] w fun e w' => e = .returned (.bool (notD r)) ∧ w' = w := by
  by_cases h1 : r < 48
  · have e : notD r = true := by simp [notD, h1]
    rw [e]; clear e
    go_enter Tryf.func22, Tryf.ntmps22
    go_wp2
    go_ret
    exact ⟨rfl, rfl⟩
  · by_cases h2 : 57 < r
    · have e : notD r = true := by simp [notD, h2]
      rw [e]; clear e
      go_enter Tryf.func22, Tryf.ntmps22
      go_wp2
      go_ret
      exact ⟨ret_bool (by simp; omega), rfl⟩
    · have e : notD r = false := by simp [notD]; omega
      rw [e]; clear e
      go_enter Tryf.func22, Tryf.ntmps22
      go_wp2
      go_ret
      exact ⟨ret_bool (by simp; omega), rfl⟩

theorem pays22 (w : World) : PredGrows Tryf.prog 22 #[] notD w := fun W x hx hb => (clo22 x hx W).mono fun e w' ⟨he, hw⟩ => ⟨he, by rw [hw]; exact Below.refl _ _⟩

theorem contains21 (s : ByteArray) (w : World) : Calls Tryf.prog 21 #[.string s, .func (.func 22) #[] #[]] w fun e w' => e = .returned (.bool (!(s.data.toList.all isD))) ∧ Below w.heap.size w w' := by
  have h := Tryf.strings_ContainsFunc_grows 22 #[] (enters_of Tryf.func22 (by kernel_rfl) rfl) notD s w (pays22 w)
  rw [idx_eq] at h
  exact h
end Go.Proofs.Qxb6608618aFmt
