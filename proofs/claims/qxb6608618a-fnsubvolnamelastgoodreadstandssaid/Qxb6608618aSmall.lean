import Derived.Test.Qxb6608618aRows
import Derived.Test.Qxb6608618aShelf
import Derived.WalkKit
import Derived.WalkSpells
import Derived.WalkLawsBesides
import Derived.Lib.SmallJoins
import Derived.Deep.QuietTactic
import Derived.BigQuiet
import Derived.Lib.IndexLaws
import Derived.Laws.StructEq
import Derived.Deep.RegionHeld3
import Derived.Laws.CopyRow
namespace Go.Proofs.Qxb6608618a
open Go.RowKit Go.Joins
set_option linter.unusedVariables false
set_option linter.unusedSimpArgs false

theorem Try.cells25 : Try.prog.cellsOf 25 = 7 := by kernel_rfl
theorem Try.cells30 : Try.prog.cellsOf 30 = 7 := by kernel_rfl
/-- the cells of a request -/
abbrev Q7 (p : ByteArray) (u h s n : Int) (m : ByteArray) (f : Int) : Array Value := #[.string p, .int .u32 u, .int .i64 h, .int .u64 s, .int .u64 n, .string m, .int .u8 f]

theorem hide {p : Prop} (h : p) : Hid p := h
theorem ret_bool {a b : Bool} (h : a = b) : Ending.returned (.bool a) = .returned (.bool b) := by rw [h]
theorem ret_int {k : IntKind} {a b : Int} (h : a = b) : Ending.returned (.int k a) = .returned (.int k b) := by rw [h]
theorem fields30 : Try.prog.fieldsOf 30 = #[{ name := "Path", type := 9, offset := 0, embedded := false, tag := "", pkgPath := "", byteOffset := 0 }, { name := "UID", type := 22, offset := 1, embedded := false, tag := "", pkgPath := "", byteOffset := 16 }, { name := "Hour", type := 3, offset := 2, embedded := false, tag := "", pkgPath := "", byteOffset := 24 }, { name := "Subvol", type := 23, offset := 3, embedded := false, tag := "", pkgPath := "", byteOffset := 32 }, { name := "Snapshot", type := 23, offset := 4, embedded := false, tag := "", pkgPath := "", byteOffset := 40 }, { name := "SubvolName", type := 9, offset := 5, embedded := false, tag := "", pkgPath := "", byteOffset := 48 }, { name := "Fields", type := 28, offset := 6, embedded := false, tag := "", pkgPath := "", byteOffset := 64 }] := by
  unfold Program.fieldsOf
  rw [Try.underlying30]

theorem eql30 (p : ByteArray) (u h s n : Int) (m : ByteArray) (f : Int) (w : World) :
    (binOp .eql 30 (.agg (Q7 p u h s n m f)) (.agg (Q7 p u h s n m f))).run Try.prog w = .ok (.bool true) w := by
  rw [run_eql_struct, run_equalIn_struct w 9999 30 _ _ (by kernel_rfl) (by kernel_rfl), fields30]
  go_simp

theorem bytes9 (p : ByteArray) (u h s n : Int) (m : ByteArray) (f : Int) (x y : ByteArray) (w : World) (hb : p.size + m.size + x.size + y.size ≤ 1048576) :
    Calls Try.prog 9 #[.agg (Q7 p u h s n m f), .string x, .string y] w fun e w' => e = .returned (.bool true) ∧ w' = w.alloc (.cells (Q7 p u h s n m f) 25) := by
  go_enter Try.func9, Try.ntmps9
  go_wp2
  go_ret
  exact ⟨rfl, rfl⟩

theorem bytes9_no (p : ByteArray) (u h s n : Int) (m : ByteArray) (f : Int) (x y : ByteArray) (w : World) (hb : 1048576 < p.size + m.size + x.size + y.size) :
    Calls Try.prog 9 #[.agg (Q7 p u h s n m f), .string x, .string y] w fun e w' => e = .returned (.bool false) ∧ w' = w.alloc (.cells (Q7 p u h s n m f) 25) := by
  by_cases h1 : 1048576 < p.size
  · go_enter Try.func9, Try.ntmps9
    go_wp2
    go_ret
    exact ⟨rfl, rfl⟩
  by_cases h2 : 1048576 < m.size
  · go_enter Try.func9, Try.ntmps9
    go_wp2
    go_ret
    exact ⟨rfl, rfl⟩
  by_cases h3 : 1048576 < p.size + m.size
  · go_enter Try.func9, Try.ntmps9
    go_wp2
    go_ret
    exact ⟨rfl, rfl⟩
  by_cases h4 : 1048576 < x.size
  · go_enter Try.func9, Try.ntmps9
    go_wp2
    go_ret
    exact ⟨rfl, rfl⟩
  by_cases h5 : 1048576 < p.size + m.size + x.size
  · go_enter Try.func9, Try.ntmps9
    go_wp2
    go_ret
    exact ⟨rfl, rfl⟩
  by_cases h6 : 1048576 < y.size
  · go_enter Try.func9, Try.ntmps9
    go_wp2
    go_ret
    exact ⟨rfl, rfl⟩
  · go_enter Try.func9, Try.ntmps9
    go_wp2
    go_ret
    exact ⟨rfl, rfl⟩

theorem rb10 (p : ByteArray) (u h s n : Int) (m : ByteArray) (f : Int) (w : World) (hb : p.size + m.size ≤ 1048576) :
    Calls Try.prog 10 #[.agg (Q7 p u h s n m f)] w fun e w' => e = .returned (.int .i64 (p.size + m.size)) ∧ w' = w.alloc (.cells (Q7 p u h s n m f) 25) := by
  go_enter Try.func10, Try.ntmps10
  go_wp2
  go_ret
  exact ⟨rfl, rfl⟩

theorem req11 (p : ByteArray) (u h s n : Int) (m : ByteArray) (f : Int) (w : World) :
    Calls Try.prog 11 #[.agg (Q7 p u h s n m f)] w fun e w' => e = .returned (.pointer (some ⟨w.heap.size + 1, 0, none⟩)) ∧ w' = (w.alloc (.cells (Q7 p u h s n m f) 25)).alloc (.cells (Q7 p u h s n m f) 30) := by
  go_enter Try.func11, Try.ntmps11
  go_wp2
  go_ret
  exact ⟨rfl, rfl⟩

/-- the position of the first NUL, or -1 -/
def nul (s : ByteArray) : Int := Lib.indexByte s.data.toList 0

def mE : ByteArray := ⟨#[97, 110, 32, 101, 109, 112, 116, 121, 32, 115, 117, 98, 118, 111, 108, 117, 109, 101, 32, 110, 97, 109, 101]⟩
def mN : ByteArray := ⟨#[97, 32, 78, 85, 76, 32, 98, 121, 116, 101, 44, 32, 119, 104, 105, 99, 104, 32, 110, 111, 32, 115, 117, 98, 118, 111, 108, 117, 109, 101, 32, 110, 97, 109, 101, 32, 104, 111, 108, 100, 115]⟩

theorem ix34 (s : ByteArray) (w : World) : Calls Try.prog 34 #[.string s, .int .u8 0] w fun e w' => e = .returned (.int .i64 (nul s)) ∧ w' = w := Try.strings_IndexByte s 0 w

theorem read31_empty (a : Option Addr) (w : World) :
    Calls Try.prog 31 #[.pointer a, .string ⟨#[]⟩] w fun e w' => e = .returned (.tuple #[.int .i64 0, .string mE]) ∧ w' = w := by
  go_enter Try.func31, Try.ntmps31
  go_wp2
  go_ret2
  exact ⟨rfl, rfl⟩
theorem read31_nul (a : Option Addr) (s : ByteArray) (w : World) (hs : (s.toList == []) = false) (hn : 0 ≤ nul s) :
    Calls Try.prog 31 #[.pointer a, .string s] w fun e w' => e = .returned (.tuple #[.int .i64 (nul s), .string mN]) ∧ w' = w := by
  go_enter Try.func31, Try.ntmps31
  go_wp2_with (go_at_call 34; go_must (refine (ix34 s _).mono ?_; rintro e w' ⟨rfl, hw⟩; rw [hw]; clear hw w'))
  go_ret2
  exact ⟨rfl, rfl⟩
theorem read31_good (b : Nat) (s : ByteArray) (w : World) (v : Value) (hs : (s.toList == []) = false) (hn : nul s < 0) (hc : w.cell? ⟨b, 5, none⟩ = some v) (hz : w.frozen? ⟨b, 5, none⟩ = false) :
    Calls Try.prog 31 #[.pointer (some ⟨b, 0, none⟩), .string s] w fun e w' => e = .returned (.tuple #[.int .i64 0, .string ⟨#[]⟩]) ∧ w' = w.setCell ⟨b, 5, none⟩ (.string s) := by
  go_enter Try.func31, Try.ntmps31
  go_wp2_with (go_at_call 34; go_must (refine (ix34 s _).mono ?_; rintro e w' ⟨rfl, hw⟩; rw [hw]; clear hw w'))
  go_ret2
  exact ⟨rfl, rfl⟩

theorem nul_step (s : ByteArray) (k : Nat) (hk : k < s.size) (hb : ∀ j, j < k → s.data.toList[j]? ≠ some 0) (h0 : s.data.toList[k]? = some 0) : nul s = k := by
  have hg := Lib.indexByte_ge s.data.toList 0
  by_cases hm : nul s = -1
  · exact absurd h0 (Lib.indexByte_none hm k)
  · obtain ⟨o, ho⟩ : ∃ o : Nat, nul s = o := ⟨(nul s).toNat, by unfold nul at *; omega⟩
    obtain ⟨h1, h2⟩ := Lib.indexByte_some ho
    rw [ho]
    by_cases h3 : o < k
    · exact absurd h1 (hb o h3)
    · by_cases h4 : k < o
      · exact absurd h0 (h2 k h4)
      · congr 1; omega
theorem nul_none (s : ByteArray) (hb : ∀ j, j < s.size → s.data.toList[j]? ≠ some 0) : nul s = -1 := by
  have hg := Lib.indexByte_ge s.data.toList 0
  by_cases hm : nul s = -1
  · exact hm
  · obtain ⟨o, ho⟩ : ∃ o : Nat, nul s = o := ⟨(nul s).toNat, by unfold nul at *; omega⟩
    obtain ⟨h1, h2⟩ := Lib.indexByte_some ho
    exact absurd h1 (hb o (by have := (List.getElem?_eq_some_iff.1 h1).1; simpa using this))

theorem byte_at (s : ByteArray) (k : Nat) (h : k < s.size) : s.data.toList[k]? = some s[k] := by
  rw [List.getElem?_eq_getElem (by simpa using h)]
  rfl
theorem first14 (s : ByteArray) (w : World) (hs : s.size ≤ 1048576) :
    Calls Try.prog 14 #[.string s] w fun e w' => e = .returned (.int .i64 (nul s)) ∧ w' = w := by
  go_enter Try.func14, Try.ntmps14
  go_wp2
  go_loop [3] (fun i => ∃ k : Nat, k ≤ s.size ∧ i = .int .i64 k ∧ Hid (∀ j, j < k → s.data.toList[j]? ≠ some 0)) (fun i => s.size - (intOf i).toNat)
  case atStart => exact ⟨0, Nat.zero_le _, rfl, fun j hj => by omega⟩
  case round =>
    obtain ⟨k, hk, rfl, hb⟩ := hrel
    by_cases hlt : k < s.size
    · have HK := hide (byte_at s k hlt)
      by_cases h0 : s[k] = 0
      · have h0' : ((s[k].toNat : Int) == 0) = true := by rw [h0]; rfl
        have H0 := hide h0
        clear h0
        go_wp2
        go_ret
        exact ⟨ret_int (nul_step s k hlt hb.out (by rw [HK.out, H0.out])).symm, rfl⟩
      · have h0' : ((s[k].toNat : Int) == 0) = false := by
          rw [beq_eq_false_iff_ne]
          intro e
          exact h0 (UInt8.toNat_inj.1 (by simpa using e))
        have H0 := hide h0
        clear h0
        go_wp2
        go_round
        case rel => exact ⟨k + 1, by omega, by go_num, fun j hj => by
          by_cases e : j = k
          · subst e; rw [HK.out]; intro h; injection h with h; exact H0.out h
          · exact hb.out j (by omega)⟩
        case measure => simp [intOf]; omega
    · go_wp2
      go_ret
      exact ⟨ret_int (nul_none s fun j hj => hb.out j (by omega)).symm, rfl⟩

/-- is it a good name? -/
def good (s : ByteArray) : Bool := !(s.toList == []) && decide (nul s < 0)
def posOf (s : ByteArray) : Int := if nul s < 0 then 0 else nul s
def msgOf (s : ByteArray) : ByteArray := if s.toList == [] then mE else if nul s < 0 then ⟨#[]⟩ else mN
def nameOf (m s : ByteArray) : ByteArray := if good s then s else m

theorem empty_of {s : ByteArray} (h : (s.toList == []) = true) : s = ⟨#[]⟩ := by
  have h1 : s.toList = [] := by simpa using h
  rw [ByteArray.toList_eq] at h1
  obtain ⟨⟨x⟩⟩ := s
  simp at h1
  subst h1
  rfl
theorem nul_empty : nul ⟨#[]⟩ = -1 := rfl

/-- of the blocks that were there only b may have turned; b holds cs -/
structure Turned (b : Nat) (cs : Array Value) (w w' : World) : Prop where
  os : w'.os = w.os
  tape : w'.tape = w.tape
  output : w'.output = w.output
  size : w'.heap.size = w.heap.size
  row : w'.heap[b]? = some (.cells cs 30 (0, 0))
  block : ∀ k, k ≠ b → w'.heap[k]? = w.heap[k]?

theorem Turned.same {b : Nat} {cs : Array Value} {w : World} (h : w.heap[b]? = some (.cells cs 30 (0, 0))) : Turned b cs w w := ⟨rfl, rfl, rfl, rfl, h, fun _ _ => rfl⟩

theorem read31 (b : Nat) (p : ByteArray) (u h s n : Int) (m : ByteArray) (f : Int) (v : ByteArray) (w : World) (hb : w.heap[b]? = some (.cells (Q7 p u h s n m f) 30 (0, 0))) :
    Calls Try.prog 31 #[.pointer (some ⟨b, 0, none⟩), .string v] w fun e w' => e = .returned (.tuple #[.int .i64 (posOf v), .string (msgOf v)]) ∧ Turned b (Q7 p u h s n (nameOf m v) f) w w' := by
  by_cases h0 : (v.toList == []) = true
  · obtain rfl := empty_of h0
    refine (read31_empty _ w).mono ?_
    rintro e w' ⟨rfl, hw⟩
    rw [hw]
    have t0 : ((⟨#[]⟩ : ByteArray).toList == []) = true := h0
    have e1 : posOf ⟨#[]⟩ = 0 := rfl
    have e2 : msgOf ⟨#[]⟩ = mE := by simp only [msgOf, t0, if_true]
    have e3 : nameOf m ⟨#[]⟩ = m := by simp [nameOf, good, t0]
    rw [e1, e2, e3]
    exact ⟨rfl, Turned.same hb⟩
  · have h1 : (v.toList == []) = false := by simpa using h0
    by_cases h2 : nul v < 0
    · refine (read31_good b v w (.string m) h1 h2 (by rw [cell_of_row w b 5 _ 30 (0, 0) hb]; rfl) (by simp [World.frozen?, hb])).mono ?_
      rintro e w' ⟨rfl, hw⟩
      rw [hw]
      refine ⟨by simp [posOf, msgOf, h1, h2], rfl, rfl, rfl, by simp, ?_, fun k hk => Below.heap_setCell _ _ _ _ hk⟩
      rw [setCell_eq_setRow w b 5 _ 30 (0, 0) _ hb, setRow_heap w b _ _ 30 _ hb]
      simp [nameOf, good, h1, h2]
    · refine (read31_nul _ v w h1 (by omega)).mono ?_
      rintro e w' ⟨rfl, hw⟩
      rw [hw]
      refine ⟨by simp [posOf, msgOf, h1, h2], ?_⟩
      have : nameOf m v = m := by simp [nameOf, good, h2]
      rw [this]
      exact Turned.same hb

theorem read12 (b : Nat) (p : ByteArray) (u h s n : Int) (m : ByteArray) (f : Int) (v : ByteArray) (w : World) (hb : w.heap[b]? = some (.cells (Q7 p u h s n m f) 30 (0, 0))) :
    Calls Try.prog 12 #[.pointer (some ⟨b, 0, none⟩), .string v] w fun e w' => e = .returned (.tuple #[.int .i64 (posOf v), .string (msgOf v)]) ∧ Turned b (Q7 p u h s n (nameOf m v) f) w w' := by
  have HB := hide hb
  clear hb
  go_enter Try.func12, Try.ntmps12
  go_wp2_with (go_at_call 31; go_must (refine (read31 b p u h s n m f v _ HB.out).mono ?_; rintro e w' ⟨rfl, hw⟩))
  go_ret2
  exact ⟨rfl, hw⟩

theorem msg_ne {v : ByteArray} (h : (v.toList == []) = true ∨ ¬ nul v < 0) : ((msgOf v).toList == []) = false := by
  unfold msgOf
  split
  · rw [ByteArray.toList_eq]; rfl
  · split
    · rename_i h1 h2
      rcases h with h | h
      · exact absurd h h1
      · exact absurd h2 h
    · rw [ByteArray.toList_eq]; rfl

theorem sub13 (p : ByteArray) (u h s n : Int) (m : ByteArray) (f : Int) (v : ByteArray) (w : World) (hv : v.size ≤ 1048576) :
    Calls Try.prog 13 #[.agg (Q7 p u h s n m f), .string v, .int .i64 (posOf v), .string (msgOf v), .agg (Q7 p u h s n (nameOf m v) f)] w fun e w' => e = .returned (.bool true) ∧ Below w.heap.size w w' := by
  have he := eql30
  by_cases h0 : (v.toList == []) = true
  · have e1 : posOf v = 0 := by obtain rfl := empty_of h0; rfl
    have e2 : nameOf m v = m := by simp [nameOf, good, h0]
    have e3 := msg_ne (v := v) (.inl h0)
    rw [e1, e2]
    generalize msgOf v = M at *
    clear e1 e2
    go_enter Try.func13, Try.ntmps13
    go_wp2
    go_ret
    exact ⟨rfl, ((Below.refl _ w).alloc (Nat.le_refl _) _).alloc (by simp) _⟩
  · have h1 : (v.toList == []) = false := by simpa using h0
    clear h0
    by_cases h2 : nul v < 0
    · have e1 : posOf v = 0 := by simp [posOf, h2]
      have e2 : nameOf m v = v := by simp [nameOf, good, h1, h2]
      have e3 : msgOf v = ⟨#[]⟩ := by simp [msgOf, h1, h2]
      rw [e1, e2, e3]
      clear e1 e2 e3
      go_enter Try.func13, Try.ntmps13
      go_wp2_with (go_at_call 14; go_must (refine (first14 v _ hv).mono ?_; rintro e w' ⟨rfl, hw⟩; rw [hw]; clear hw w'))
      go_ret
      exact ⟨rfl, (((Below.refl _ w).alloc (Nat.le_refl _) _).alloc (by simp) _).alloc (by simp; omega) _⟩
    · have e1 : posOf v = nul v := by simp [posOf, h2]
      have e2 : nameOf m v = m := by simp [nameOf, good, h2]
      have e3 := msg_ne (v := v) (.inr h2)
      rw [e1, e2]
      generalize msgOf v = M at *
      clear e1 e2
      go_enter Try.func13, Try.ntmps13
      go_wp2_with (go_at_call 14; go_must (refine (first14 v _ hv).mono ?_; rintro e w' ⟨rfl, hw⟩; rw [hw]; clear hw w'))
      go_ret
      exact ⟨rfl, ((Below.refl _ w).alloc (Nat.le_refl _) _).alloc (by simp) _⟩
end Go.Proofs.Qxb6608618a
