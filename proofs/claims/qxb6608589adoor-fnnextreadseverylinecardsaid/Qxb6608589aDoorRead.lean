import Derived.Test.Qxb6608589aDoorBase
namespace Go.Proofs.Qxb6608589aDoor
open Go.RowKit Go.Joins
set_option linter.unusedVariables false

theorem Tryd.size5 : (Tryd.prog.info? 5).map (·.size) = some 1 := by kernel_rfl

set_option maxHeartbeats 400000 in
/-- (*bytes.Reader).Read at the data's end -/
theorem read_eof (bs n i : Nat) (dp : Option Addr) (b : Value) (te : TypeId) (aE : Addr) (w : World) (hi : n ≤ i)
    (h0 : w.cell? ⟨bs, 0, none⟩ = some (.slice dp n n)) (h1 : w.cell? ⟨bs, 1, none⟩ = some (.int .i64 i)) (hE : w.cell? ⟨2, 0, none⟩ = some (.iface te (.pointer (some aE)))) :
    Calls Tryd.prog 49 #[.pointer (some ⟨bs, 0, none⟩), b] w fun e w' => e = .returned (.tuple #[.int .i64 0, .iface te (.pointer (some aE))]) ∧ ∃ q, w' = w.drewN q := by
  have hi' : (n : Int) ≤ (i : Int) := by omega
  go_enter Tryd.func49, Tryd.ntmps49
  go_wp2
  go_quiet (fail)
  go_wp2
  go_quiet (fail)
  go_wp2
  go_ret2
  exact ⟨rfl, _, World.drewN_drewN _ _ _⟩

theorem ret2_int {k : IntKind} {a b : Int} {v : Value} (h : a = b) : Ending.returned (.tuple #[.int k a, v]) = .returned (.tuple #[.int k b, v]) := by rw [h]
/-- a cell of a row of bytes -/
theorem cellsB_cell {w : World} {g : Nat} {xs : List Int} (h : w.heap[g]? = some (.cells (cellsB xs) 5 (0, 0))) (i : Nat) (hi : i < xs.length) : w.cell? ⟨g, i, none⟩ = some (.int .u8 (xs.getD i 0)) := by
  rw [cell_of_block h]
  simp [cellsB, hi]
theorem cellsB_src {w : World} {g : Nat} {xs : List Int} (h : w.heap[g]? = some (.cells (cellsB xs) 5 (0, 0))) (i n : Nat) :
    ∀ j v, ((((xs.drop i).take n).map (Value.int .u8)))[j]? = some v → w.cell? ((⟨g, i, none⟩ : Addr).add j) = some v := by
  intro j v hj
  rw [Addr.add_lit, cell_of_block h]
  simp only [cellsB, List.getElem?_toArray, List.getElem?_map, List.getElem?_take, List.getElem?_drop] at hj ⊢
  split at hj
  · exact hj
  · simp at hj
theorem oneB (xs : List Int) : ∀ v ∈ xs.map (Value.int .u8), v.oneCell' = true := by
  intro v hv
  obtain ⟨x, _, rfl⟩ := List.mem_map.1 hv
  rfl
theorem splice_map {α β : Type} (f : α → β) (L : List α) (o : Nat) (cs : List α) : splice (L.map f) o (cs.map f) = (splice L o cs).map f := by simp [splice]

set_option maxHeartbeats 400000 in
/-- (*bytes.Reader).Read ahead of the data's end -/
theorem read_some (bs bb bd n i off m c : Nat) (pr : Int) (data : List Int) (buf : List Int) (w : World) (hi : i < n) (hn : n ≤ 1099511627776) (hm : 0 < m)
    (hd : data.length = n) (hbs : w.heap[bs]? = some (.cells #[.slice (some ⟨bd, 0, none⟩) n n, .int .i64 i, .int .i64 pr] 58 (0, 0)))
    (hbb : w.heap[bb]? = some (.cells (cellsB buf) 5 (0, 0))) (hbd : w.heap[bd]? = some (.cells (cellsB data) 5 (0, 0))) (hoff : off + m ≤ buf.length) (hne : bs ≠ bb) (hne2 : bs ≠ bd) :
    Calls Tryd.prog 49 #[.pointer (some ⟨bs, 0, none⟩), .slice (some ⟨bb, off, none⟩) m c] w fun e w' =>
      e = .returned (.tuple #[.int .i64 (min m (n - i) : Nat), .nilIface]) ∧ Touch [bs, bb] w w' ∧
      w'.heap[bs]? = some (.cells #[.slice (some ⟨bd, 0, none⟩) n n, .int .i64 (i + min m (n - i) : Nat), .int .i64 (-1)] 58 (0, 0)) ∧
      w'.heap[bb]? = some (.cells (cellsB (splice buf off ((data.drop i).take (min m (n - i))))) 5 (0, 0)) := by
  have h0 : w.cell? ⟨bs, 0, none⟩ = some (.slice (some ⟨bd, 0, none⟩) n n) := by rw [cell_of_block hbs]; rfl
  have h1 : w.cell? ⟨bs, 1, none⟩ = some (.int .i64 i) := by rw [cell_of_block hbs]; rfl
  have h2 : w.cell? ⟨bs, 2, none⟩ = some (.int .i64 pr) := by rw [cell_of_block hbs]; rfl
  have f1 : w.frozen? ⟨bs, 1, none⟩ = false := unfrozen_of_block hbs 1
  have f2 : w.frozen? ⟨bs, 2, none⟩ = false := unfrozen_of_block hbs 2
  have hi' : ¬ (n : Int) ≤ (i : Int) := by omega
  have HD : Hid (data.length = n) := hd
  have HBS := (show Hid _ from hbs)
  have HBB := (show Hid _ from hbb)
  have HBD := (show Hid _ from hbd)
  clear hd hbs hbb hbd
  go_enter Tryd.func49, Tryd.ntmps49
  go_wp2
  go_quiet (fail)
  go_wp2
  have hT1 : Touch [bs, bb] w ((w.drewN nq).setCell ⟨bs, 2, none⟩ (.int .i64 (-1))) := ((Touch.refl _ w).drewN nq).setCell (by simp) _
  have HBS1 : Hid (((w.drewN nq).setCell ⟨bs, 2, none⟩ (.int .i64 (-1))).heap[bs]? = some (.cells #[.slice (some ⟨bd, 0, none⟩) n n, .int .i64 i, .int .i64 (-1)] 58 (0, 0))) := block_setCell (w := w.drewN nq) HBS.out _
  have HBB1 : Hid (((w.drewN nq).setCell ⟨bs, 2, none⟩ (.int .i64 (-1))).heap[bb]? = some (.cells (buf.map (Value.int .u8)).toArray 5 (0, 0))) := (Below.heap_setCell _ _ _ bb (by simp; omega)).trans HBB.out
  have HBD1 : Hid (((w.drewN nq).setCell ⟨bs, 2, none⟩ (.int .i64 (-1))).heap[bd]? = some (.cells (cellsB data) 5 (0, 0))) := (Below.heap_setCell _ _ _ bd (by simp; omega)).trans HBD.out
  clear HBS HBB HBD h0 h1 h2 f1 f2
  generalize (w.drewN nq).setCell ⟨bs, 2, none⟩ (.int .i64 (-1)) = w1 at *
  have h0 : w1.cell? ⟨bs, 0, none⟩ = some (.slice (some ⟨bd, 0, none⟩) n n) := by rw [cell_of_block HBS1.out]; rfl
  have h1 : w1.cell? ⟨bs, 1, none⟩ = some (.int .i64 i) := by rw [cell_of_block HBS1.out]; rfl
  have f1 : w1.frozen? ⟨bs, 1, none⟩ = false := unfrozen_of_block HBS1.out 1
  have hni : ¬ n = i := by omega
  have hz : (0 : Int) ≤ (i : Int) := by omega
  have hin : (i : Int) ≤ (n : Int) := by omega
  obtain ⟨CS, hCS⟩ : ∃ CS, CS = ((data.drop i).take (min m (n - i))).map (Value.int .u8) := ⟨_, rfl⟩
  have HL : Hid (CS.length = Nat.min (n - i) m) := by
    rw [Hid, hCS]; simp [HD.out]; rw [show Nat.min (n - i) m = min (n - i) m from rfl]; omega
  have HL2 : Hid (CS.length ≤ m) := by rw [Hid, HL.out]; exact Nat.min_le_right _ _
  have HS : Hid (∀ j v, CS[j]? = some v → w1.cell? ((⟨bd, i, none⟩ : Addr).add j) = some v) := by
    rw [Hid, hCS]; exact cellsB_src HBD1.out i _
  have HO : Hid (∀ v ∈ CS, v.oneCell' = true) := by rw [Hid, hCS]; exact oneB _
  have HC := (show Hid _ from hCS)
  clear hCS
  go_region_held3 (fun w' => w'.cell? ⟨bs, 0, none⟩ = some (.slice (some ⟨bd, 0, none⟩) n n) ∧ w'.cell? ⟨bs, 1, none⟩ = some (.int .i64 i)) (first | go_keep | exact ⟨hT2.cell (by simpa using hne) h0, hT2.cell (by simpa using hne) h1⟩)
    ((refine step_copy_touch rfl (.tmp 20) (.tmp 29) 25 25 (by rfl) 5 Tryd.underlying25 Tryd.size5 _ _ m c _ _ (by rfl) (by rfl) bb off (buf.map (Value.int .u8)) 5 (by exact HBB1.out) CS (by exact HL.out) (by exact fun _ => ⟨rfl, _, rfl, HS.out⟩) (by have := HL2.out; simp; omega) (by exact HO.out) ?_; intro w2 HG2 hT2))
  rename_i hH
  obtain ⟨_, g1⟩ := hH
  have HBS2 : Hid (w2.heap[bs]? = some (.cells #[.slice (some ⟨bd, 0, none⟩) n n, .int .i64 i, .int .i64 (-1)] 58 (0, 0))) := hT2.row (by simpa using hne) HBS1.out
  have g2 : w2.frozen? ⟨bs, 1, none⟩ = false := unfrozen_of_block HBS2.out 1
  have hT : Touch [bs, bb] w w2 := (hT1.drew).trans (hT2.mono (by simp))
  have hcl : CS.length ≤ 1099511627776 := by
    have h := HL.out
    rw [show Nat.min (n - i) m = min (n - i) m from rfl] at h
    omega
  clear h0 h1 f1 hT1 hT2
  go_wp2
  go_ret2
  have hlen : CS.length = min m (n - i) := by
    have h := HL.out
    rw [show Nat.min (n - i) m = min (n - i) m from rfl] at h
    omega
  refine ⟨ret2_int (by rw [hlen]), hT.setCell (by simp) _, ?_, ?_⟩
  · rw [block_setCell HBS2.out, ← hlen]
    simp
  · rw [Below.heap_setCell _ _ _ bb (by simp; omega), HG2.out, HC.out, splice_map]
    rfl
end Go.Proofs.Qxb6608589aDoor
