import Derived.Test.Qxb6608589aDoorRows
import Derived.Test.Qxb6608589aDoorShelf
import Derived.WalkKit
import Derived.WalkSpells
import Derived.WalkLawsBesides
import Derived.Lib.SmallJoins
import Derived.Deep.QuietTactic
import Derived.BigQuiet
namespace Go.Proofs.Qxb6608589aDoor
open Go.RowKit Go.Joins
set_option linter.unusedVariables false

theorem Tryd.info5 : (Tryd.prog.info? 5).map (fun i => (i.zero, i.size, i.bytes)) = some (some (.int .u8 0), 1, 1) := by kernel_rfl

theorem ret_bool {a b : Bool} (h : a = b) : Ending.returned (.bool a) = .returned (.bool b) := by rw [h]
theorem ret_int {k : IntKind} {a b : Int} (h : a = b) : Ending.returned (.int k a) = .returned (.int k b) := by rw [h]
/-- the cells of a row of bytes -/
def cellsB (xs : List Int) : Array Value := (xs.map (Value.int .u8)).toArray

theorem made_one (z : Value) (hz : z.cells = #[z]) (n : Nat) : madeCells z.cells n = Array.replicate n z := by
  rw [hz]
  apply Array.ext
  · simp [madeCells]
  · intro i h1 h2
    simp [madeCells, Nat.mod_one]

theorem run_make5 (w : World) (n c : Nat) (hn : n ≤ c) (hc : c ≤ 2 ^ 40) :
    (Instr.makeSlice 25 (.int .i64 n) (.int .i64 c)).run Tryd.prog w = .ok (.slice (some ⟨w.heap.size, 0, none⟩) n c) (w.alloc (.cells (cellsB (List.replicate c 0)) 5)) := by
  obtain ⟨i0, hi, hz0, hz1, hz2⟩ := info_parts Tryd.info5
  have h := run_make (P := Tryd.prog) w 25 5 i0 (.int .u8 0) Tryd.underlying25 hi hz0 .i64 .i64 n c (by omega) (by omega) (by rw [hz2]; omega) (by omega)
  rw [h, made_one _ rfl, hz1]
  simp [cellsB]

theorem run_nil25 (w : World) (a : Option Addr) (n c : Nat) : (binOp .eql 25 (.slice a n c) (.slice none 0 0)).run Tryd.prog w = .ok (.bool a.isNone) w :=
  Lib.run_eql_slice_nil (P := Tryd.prog) w 25 5 a n c 0 0 Tryd.underlying25

set_option maxHeartbeats 400000 in
theorem clone_nil (w : World) : Calls Tryd.prog 8 #[.slice none 0 0] w fun e w' => e = .returned (.slice none 0 0) ∧ w' = w := by
  have hnn := run_nil25
  go_enter Tryd.func8, Tryd.ntmps8
  go_wp2
  go_ret
  exact ⟨rfl, rfl⟩

/-- a row that is being filled: k bytes of xs, then zeros -/
def rowAt (xs : List Int) (k : Nat) : Array Value := cellsB (xs.take k ++ List.replicate (xs.length - k) 0)
theorem rowAt_zero (xs : List Int) : rowAt xs 0 = cellsB (List.replicate xs.length 0) := by simp [rowAt]
theorem rowAt_all (xs : List Int) : rowAt xs xs.length = cellsB xs := by simp [rowAt]
theorem rowAt_get (xs : List Int) (k : Nat) (h : k < xs.length) : (rowAt xs k)[k]? = some (.int .u8 0) := by
  have h1 : (xs.take k).length = k := by simp; omega
  simp only [rowAt, cellsB, List.getElem?_toArray, List.getElem?_map]
  rw [List.getElem?_append_right (by omega)]
  simp [h1, List.getElem?_replicate]; omega
theorem rowAt_set (xs : List Int) (k : Nat) (h : k < xs.length) : (rowAt xs k).setIfInBounds k (.int .u8 (xs[k]?.getD 0)) = rowAt xs (k + 1) := by
  have h1 : (xs.take k).length = k := by simp; omega
  have h2 : xs[k]?.getD 0 = xs[k] := by simp [h]
  simp only [rowAt, cellsB, List.setIfInBounds_toArray, ← List.map_set]
  congr 2
  rw [List.set_append_right _ _ (by omega), h1, h2, List.take_succ_eq_append_getElem h, show xs.length - k = (xs.length - (k + 1)) + 1 from by omega, List.replicate_succ, Nat.sub_self, List.set_cons_zero, List.append_assoc]
  rfl

set_option maxHeartbeats 400000 in
theorem clone_some (b o n c : Nat) (xs : List Int) (w : World) (hx : xs.length = n) (hn : n ≤ 1099511627776)
    (hc : ∀ i, i < n → w.cell? ⟨b, o + i, none⟩ = some (.int .u8 (xs.getD i 0))) :
    Calls Tryd.prog 8 #[.slice (some ⟨b, o, none⟩) n c] w fun e w' => e = .returned (.slice (some ⟨w.heap.size, 0, none⟩) n n) ∧ w' = w.alloc (.cells (cellsB xs) 5) := by
  have hnn := run_nil25
  have hmk := fun w => run_make5 w n n (Nat.le_refl _) (by omega)
  have HX : Hid (xs.length = n) := hx
  clear hx
  go_enter Tryd.func8, Tryd.ntmps8
  go_wp2
  clear hmk hnn
  go_loopw [4] (fun i wr => ∃ k : Nat, k ≤ n ∧ i = .int .i64 k ∧ wr = w.alloc (.cells (rowAt xs k) 5)) (fun i _ => n - (intOf i).toNat)
  case atStart => exact ⟨0, Nat.zero_le _, rfl, by rw [rowAt_zero, HX.out]⟩
  case round =>
    obtain ⟨k, hk, rfl, rfl⟩ := hrel
    by_cases hlt : k < n
    · have hck := hc k hlt
      have hbl := World.block_lt_of_cell? w _ hck
      have hg := rowAt_get xs k (by rw [HX.out]; exact hlt)
      have HS : Hid ((rowAt xs k).setIfInBounds k (.int .u8 (xs[k]?.getD 0)) = rowAt xs (k + 1)) := rowAt_set xs k (by rw [HX.out]; exact hlt)
      go_wp2
      go_roundw
      case rel => exact ⟨k + 1, by omega, by go_num, by rw [HS.out]⟩
      case measure => simp [intOf]; omega
    · have : k = n := by omega
      subst this
      go_wp2
      go_ret
      refine ⟨rfl, ?_⟩
      have h := rowAt_all xs
      rw [HX.out] at h
      rw [h]

set_option maxHeartbeats 400000 in
theorem clone_empty (a : Addr) (c : Nat) (w : World) :
    Calls Tryd.prog 8 #[.slice (some a) 0 c] w fun e w' => e = .returned (.slice (some ⟨w.heap.size, 0, none⟩) 0 0) ∧ w' = w.alloc (.cells (cellsB []) 5) := by
  have hnn := run_nil25
  have hmk := fun w => run_make5 w 0 0 (Nat.le_refl _) (by omega)
  simp only [List.replicate_zero, Int.natCast_zero] at hmk
  go_enter Tryd.func8, Tryd.ntmps8
  go_wp2
  refine wp_loop_rounds 1 ?_
  rw [rounds_succ]
  go_wp2
  go_ret
  exact ⟨rfl, rfl⟩

theorem take_one_more (xs ys : List Int) (k : Nat) (hx : k < xs.length) (hy : k < ys.length) (h : xs.take k = ys.take k) (he : xs[k]?.getD 0 = ys[k]?.getD 0) : xs.take (k + 1) = ys.take (k + 1) := by
  rw [List.take_succ_eq_append_getElem hx, List.take_succ_eq_append_getElem hy, h]
  simp [hx, hy] at he
  rw [he]
theorem diff_at (xs ys : List Int) (k : Nat) (he : xs[k]?.getD 0 ≠ ys[k]?.getD 0) : xs ≠ ys := fun h => he (by rw [h])

/-- are the two rows one? -/
def sameB (xs ys : List Int) : Bool := decide (xs = ys)

set_option maxHeartbeats 400000 in
theorem same_any (b1 o1 n c b2 o2 m d : Nat) (xs ys : List Int) (w : World) (hx : xs.length = n) (hy : ys.length = m) (hn : n ≤ 1099511627776) (hm : m ≤ 1099511627776)
    (hc1 : ∀ i, i < n → w.cell? ⟨b1, o1 + i, none⟩ = some (.int .u8 (xs.getD i 0))) (hc2 : ∀ i, i < m → w.cell? ⟨b2, o2 + i, none⟩ = some (.int .u8 (ys.getD i 0))) :
    Calls Tryd.prog 12 #[.slice (some ⟨b1, o1, none⟩) n c, .slice (some ⟨b2, o2, none⟩) m d] w fun e w' => e = .returned (.bool (sameB xs ys)) ∧ ∃ q, w' = w.drewN q := by
  by_cases hnm : n = m
  · subst hnm
    have HX : Hid (xs.length = n) := hx
    have HY : Hid (ys.length = n) := hy
    clear hx hy
    go_enter Tryd.func12, Tryd.ntmps12
    go_wp2
    go_loopw [5] (fun i wr => ∃ k : Nat, k ≤ n ∧ i = .int .i64 k ∧ Hid (xs.take k = ys.take k) ∧ ∃ q, wr = w.drewN q) (fun i _ => n - (intOf i).toNat)
    case atStart => exact ⟨0, Nat.zero_le _, rfl, rfl, 0, rfl⟩
    case round =>
      obtain ⟨k, hk, rfl, HT, q, rfl⟩ := hrel
      by_cases hlt : k < n
      · have h1 := hc1 k hlt
        have h2 := hc2 k hlt
        clear hc1 hc2
        go_wp2
        go_quiet (fail)
        by_cases he : xs[k]?.getD 0 = ys[k]?.getD 0
        · have hb : (xs[k]?.getD 0 != ys[k]?.getD 0) = false := by simp [he]
          have HE : Hid (xs[k]?.getD 0 = ys[k]?.getD 0) := he
          clear he
          go_wp2
          go_roundw
          case rel => exact ⟨k + 1, by omega, by go_num, take_one_more xs ys k (by rw [HX.out]; exact hlt) (by rw [HY.out]; exact hlt) HT.out HE.out, _, rfl⟩
          case measure => simp [intOf]; omega
        · have hb : (xs[k]?.getD 0 != ys[k]?.getD 0) = true := by simp [he]
          have HF : Hid (sameB xs ys = false) := by simp [Hid, sameB, diff_at xs ys k he]
          clear he
          go_wp2
          go_ret
          exact ⟨ret_bool HF.out.symm, q + nq, by rw [World.drewN_drewN]⟩
      · go_wp2
        go_ret
        refine ⟨?_, q, rfl⟩
        have h := HT.out
        rw [List.take_of_length_le (by rw [HX.out]; omega), List.take_of_length_le (by rw [HY.out]; omega)] at h
        simp [sameB, h]
  · have hf : ((n : Int) != (m : Int)) = true := by simp; omega
    have HF : Hid (sameB xs ys = false) := by
      simp only [Hid, sameB, decide_eq_false_iff_not]; intro h; rw [h] at hx; omega
    go_enter Tryd.func12, Tryd.ntmps12
    go_wp2
    go_ret
    exact ⟨ret_bool HF.out.symm, 0, rfl⟩

/-- how many lines zzCountLines counts -/
def countLn (xs : List Int) : Nat := xs.count 10 + (if xs[xs.length - 1]?.getD 10 = 10 then 0 else 1)

theorem count_step (xs : List Int) (k : Nat) (h : k < xs.length) : (xs.take (k + 1)).count 10 = (xs.take k).count 10 + (if xs[k]?.getD 0 = 10 then 1 else 0) := by
  have h2 : xs[k]?.getD 0 = xs[k] := by simp [h]
  rw [List.take_succ_eq_append_getElem h, h2, List.count_append, List.count_singleton]
  simp

set_option maxHeartbeats 400000 in
theorem count_any (b o n c : Nat) (xs : List Int) (w : World) (hx : xs.length = n) (hn : n ≤ 1099511627776)
    (hc : ∀ i, i < n → w.cell? ⟨b, o + i, none⟩ = some (.int .u8 (xs.getD i 0))) :
    Calls Tryd.prog 16 #[.slice (some ⟨b, o, none⟩) n c] w fun e w' => e = .returned (.int .i64 (countLn xs)) ∧ w' = w := by
  have HX : Hid (xs.length = n) := hx
  have hcl : xs.count 10 ≤ n := by rw [← hx]; exact List.count_le_length
  clear hx
  go_enter Tryd.func16, Tryd.ntmps16
  go_wp2
  go_loop [3, 4] (fun t i => ∃ k : Nat, k ≤ n ∧ i = .int .i64 k ∧ t = .int .i64 ((xs.take k).count 10 : Nat)) (fun _ i => n - (intOf i).toNat)
  case atStart => exact ⟨0, Nat.zero_le _, rfl, rfl⟩
  case round =>
    obtain ⟨k, hk, rfl, rfl⟩ := hrel
    have hck : (xs.take k).count 10 ≤ k := Nat.le_trans List.count_le_length (List.length_take_le _ _)
    by_cases hlt : k < n
    · have h1 := hc k hlt
      clear hc
      have HS : Hid ((xs.take (k + 1)).count 10 = (xs.take k).count 10 + (if xs[k]?.getD 0 = 10 then 1 else 0)) := count_step xs k (by rw [HX.out]; exact hlt)
      by_cases he : xs[k]?.getD 0 = 10
      · have hb : (xs[k]?.getD 0 == 10) = true := by simp [he]
        have HE : Hid (xs[k]?.getD 0 = 10) := he
        clear he
        go_wp2
        go_round
        case rel => exact ⟨k + 1, by omega, by go_num, by rw [HS.out, if_pos HE.out]; go_num⟩
        case measure => simp [intOf]; omega
      · have hb : (xs[k]?.getD 0 == 10) = false := by simp [he]
        have HE : Hid (¬ xs[k]?.getD 0 = 10) := he
        clear he
        go_wp2
        go_round
        case rel => exact ⟨k + 1, by omega, by go_num, by rw [HS.out, if_neg HE.out]; go_num⟩
        case measure => simp [intOf]; omega
    · have hkn : k = n := by omega
      subst hkn
      have HT : Hid (xs.take k = xs) := List.take_of_length_le (by rw [HX.out]; omega)
      clear hlt hk
      by_cases h0 : k = 0
      · subst h0
        have HC : Hid (xs = []) := List.eq_nil_of_length_eq_zero HX.out
        go_wp2
        go_ret
        refine ⟨ret_int ?_, rfl⟩
        rw [HC.out]; simp [countLn]
      · have h1 := hc (k - 1) (by omega)
        clear hc
        have hk0 : 0 < k := by omega
        by_cases he : xs[k - 1]?.getD 0 = 10
        · have hb : (xs[k - 1]?.getD 0 != 10) = false := by simp [he]
          have HE : Hid (xs[k - 1]?.getD 0 = 10) := he
          clear he
          go_wp2
          go_ret
          refine ⟨ret_int ?_, rfl⟩
          rw [HT.out]
          have h2 : xs[xs.length - 1]?.getD 10 = 10 := by
            have h3 := HE.out
            rw [HX.out]
            rw [List.getElem?_eq_getElem (by rw [HX.out]; omega)] at h3 ⊢
            exact h3
          simp [countLn, h2]
        · have hb : (xs[k - 1]?.getD 0 != 10) = true := by simp [he]
          have HE : Hid (¬ xs[k - 1]?.getD 0 = 10) := he
          clear he
          go_wp2
          go_ret
          refine ⟨ret_int ?_, rfl⟩
          rw [HT.out]
          have h2 : ¬ xs[xs.length - 1]?.getD 10 = 10 := by
            have h3 := HE.out
            rw [HX.out]
            rw [List.getElem?_eq_getElem (by rw [HX.out]; omega)] at h3 ⊢
            exact h3
          simp [countLn, h2]
end Go.Proofs.Qxb6608589aDoor
