import Derived.Test.Qxb6608589aDoorReadAll
namespace Go.Proofs.Qxb6608589aDoor
open Go.RowKit Go.Joins
set_option linter.unusedVariables false

theorem ret_slice {p : Option Addr} {a b c : Nat} (h : a = b) : Ending.returned (.slice p a c) = .returned (.slice p b c) := by rw [h]

/-- zzDropCR -/
theorem dropCR_any (b o n c : Nat) (xs : List Int) (w : World) (hx : xs.length = n) (hnc : n ≤ c) (hn : n ≤ 1048576) (hc : ∀ i, i < n → w.cell? ⟨b, o + i, none⟩ = some (.int .u8 (xs.getD i 0))) :
    Calls Tryd.prog 17 #[.slice (some ⟨b, o, none⟩) n c] w fun e w' => e = .returned (.slice (some ⟨b, o, none⟩) (tr 13 xs).length c) ∧ w' = w := by
  have HX := hide hx
  clear hx
  by_cases h0 : n ≤ 0
  · have hf : ¬ (0 : Int) < (n : Int) := by omega
    go_enter Tryd.func17, Tryd.ntmps17
    go_wp2
    go_ret
    refine ⟨?_, rfl⟩
    obtain rfl : n = 0 := by omega
    obtain rfl : xs = [] := List.eq_nil_of_length_eq_zero HX.out
    rfl
  · have h1 : 0 < n := by omega
    have hcl := hc (n - 1) (by omega)
    clear hc h0
    have hl : xs.getLast? = some (xs[n - 1]?.getD 0) := by
      rw [List.getLast?_eq_getElem?, HX.out, List.getElem?_eq_getElem (by rw [HX.out]; omega)]
      simp
    have HL := hide hl
    clear hl
    by_cases he : xs[n - 1]?.getD 0 = 13
    · have hb : (xs[n - 1]?.getD 0 == 13) = true := by simp [he]
      have b1 : (0 : Int) ≤ (n : Int) - 1 := by omega
      have b2 : (n : Int) - 1 ≤ (c : Int) := by omega
      have HE := hide he
      clear he
      go_enter Tryd.func17, Tryd.ntmps17
      go_wp2
      go_ret
      refine ⟨?_, rfl⟩
      have e : (tr 13 xs).length = n - 1 := by
        unfold tr
        rw [if_pos (by rw [HL.out, HE.out])]
        rw [List.length_dropLast, HX.out]
      exact ret_slice (by rw [e])
    · have hb : (xs[n - 1]?.getD 0 == 13) = false := by simp [he]
      have HE := hide he
      clear he
      go_enter Tryd.func17, Tryd.ntmps17
      go_wp2
      go_ret
      refine ⟨?_, rfl⟩
      have e : (tr 13 xs).length = n := by
        unfold tr
        rw [if_neg (by rw [HL.out]; intro h; injection h with h; exact HE.out h), HX.out]
      exact ret_slice e.symm

/-- the lines as slices of the text itself -/
def RowsIn (g : Nat) (data : List Int) (vs : List Value) (Ls : List (List Int)) : Prop :=
  vs.length = Ls.length ∧ ∀ (i : Nat) (L : List Int), Ls[i]? = some L → ∃ o c, vs[i]? = some (Value.slice (some ⟨g, o, none⟩) L.length c) ∧ o + L.length ≤ data.length ∧ (data.drop o).take L.length = L

theorem RowsIn.snoc {g : Nat} {data : List Int} {vs : List Value} {Ls : List (List Int)} (h : RowsIn g data vs Ls) {o c : Nat} {L : List Int} (h1 : o + L.length ≤ data.length) (h2 : (data.drop o).take L.length = L) :
    RowsIn g data (vs ++ [Value.slice (some ⟨g, o, none⟩) L.length c]) (Ls ++ [L]) := by
  refine ⟨by simp [h.1], fun i M hM => ?_⟩
  by_cases hi : i < Ls.length
  · rw [List.getElem?_append_left hi] at hM
    obtain ⟨o', c', k1, k2⟩ := h.2 i M hM
    exact ⟨o', c', by rw [List.getElem?_append_left (by rw [h.1]; exact hi)]; exact k1, k2⟩
  · rw [List.getElem?_append_right (by omega)] at hM
    obtain ⟨rfl, rfl⟩ : i = Ls.length ∧ L = M := by
      have hlt := (List.getElem?_eq_some_iff.1 hM).1
      simp at hlt
      have e : i - Ls.length = 0 := by omega
      rw [e] at hM
      exact ⟨by omega, by simpa using hM⟩
    exact ⟨o, c, by rw [List.getElem?_append_right (by rw [h.1]; exact Nat.le_refl _), h.1]; simp, h1, h2⟩

theorem take_tr (data : List Int) (o m : Nat) (x : Int) (h : o + m ≤ data.length) : o + (tr x ((data.drop o).take m)).length ≤ data.length ∧ (data.drop o).take (tr x ((data.drop o).take m)).length = tr x ((data.drop o).take m) := by
  have hl : ((data.drop o).take m).length = m := by simp; omega
  have h1 := tr_length x ((data.drop o).take m)
  have h2 := tr_take x ((data.drop o).take m)
  rw [hl] at h1
  refine ⟨by omega, ?_⟩
  rw [List.take_take, Nat.min_eq_left h1] at h2
  exact h2.symm

theorem trimL_nl (X : List Int) : trimL (X ++ [10]) = tr 13 X := by
  unfold trimL
  have : tr 10 (X ++ [10]) = X := by simp [tr]
  rw [this]
theorem trimL_no (X : List Int) (h : 10 ∉ X) : trimL X = tr 13 X := by
  unfold trimL
  have : tr 10 X = X := by
    unfold tr
    rw [if_neg]
    intro hl
    exact h (List.mem_of_getLast? hl)
  rw [this]

/-- what zzSplitLines' loop holds -/
def LpS (w : World) (g : Nat) (data : List Int) (i : Nat) (lines : Value) (sv : Value) (wx : World) : Prop :=
  ∃ (start : Nat) (vs : List Value) (Ls : List (List Int)), sv = .int .i64 start ∧ start ≤ i ∧ Ls.length ≤ i ∧ 10 ∉ (data.drop start).take (i - start) ∧ wx.ownsRow w.heap.size 25 1 lines Ls.length vs ∧ RowsIn g data vs Ls ∧
    (∀ Ms, IsLines Ms (data.drop start) → IsLines (Ls ++ Ms) data) ∧ Below w.heap.size w wx

def SplitPost (w : World) (g : Nat) (data : List Int) (e : Ending) (w' : World) : Prop :=
  ∃ (lines : Value) (vs : List Value) (Ls : List (List Int)), e = .returned lines ∧ IsLines Ls data ∧ w'.ownsRow w.heap.size 25 1 lines Ls.length vs ∧ RowsIn g data vs Ls ∧ Below w.heap.size w w'

theorem split_piece {data : List Int} {start i : Nat} (h1 : start ≤ i) (h2 : i < data.length) (h3 : 10 ∉ (data.drop start).take (i - start)) (h4 : data[i]?.getD 0 = 10) {Ls : List (List Int)} (h5 : ∀ Ms, IsLines Ms (data.drop start) → IsLines (Ls ++ Ms) data) :
    ∀ Ms, IsLines Ms (data.drop (i + 1)) → IsLines ((Ls ++ [tr 13 ((data.drop start).take (i - start))]) ++ Ms) data := by
  intro Ms hMs
  rw [List.append_assoc]
  refine h5 _ ⟨(data.drop start).take (i - start) ++ [10], data.drop (i + 1), ?_, Or.inl ⟨_, rfl, h3⟩, (trimL_nl _).symm, hMs⟩
  have e1 : data[i] = 10 := by simpa [h2] using h4
  have e2 : data.drop i = 10 :: data.drop (i + 1) := by rw [List.drop_eq_getElem_cons h2, e1]
  have e3 : (data.drop start).drop (i - start) = data.drop i := by rw [List.drop_drop, show start + (i - start) = i from by omega]
  rw [List.append_assoc, List.singleton_append, ← e2, ← e3, List.take_append_drop]

set_option maxHeartbeats 1000000 in
theorem split_any (g n c : Nat) (data : List Int) (w : World) (hx : data.length = n) (hn : n ≤ 1048576) (hnc : n ≤ c) (hg : w.heap[g]? = some (.cells (cellsB data) 5 (0, 0))) :
    Calls Tryd.prog 9 #[.slice (some ⟨g, 0, none⟩) n c] w (SplitPost w g data) := by
  have hgl : g < w.heap.size := (Array.getElem?_eq_some_iff.1 hg).1
  have HX := hide hx
  have HG := hide hg
  clear hx hg
  obtain ⟨i0, hi, hz0, hz1, hz2⟩ := info_parts Tryd.info25
  go_enter Tryd.func9, Tryd.ntmps9
  go_wp2
  go_loopw [3, 4, 5] (fun lines sv iv wx => ∃ i : Nat, i ≤ n ∧ iv = .int .i64 i ∧ LpS w g data i lines sv wx) (fun _ _ iv _ => n - (intOf iv).toNat)
  case atStart => exact ⟨0, Nat.zero_le _, rfl, 0, [], [], rfl, Nat.le_refl _, Nat.zero_le _, by simp, World.ownsRow_nil _ _ _ _, ⟨rfl, fun i L h => by simp at h⟩, fun Ms h => h, Below.refl _ _⟩
  case round =>
    obtain ⟨i, hin, rfl, start, vs, Ls, rfl, hsi, hLi, h10, hown, hrows, hlin, hbel⟩ := hrel
    have H10 := hide h10
    have HOW := hide hown
    have HRO := hide hrows
    have HLI := hide hlin
    have HBE := hide hbel
    have HG2 : Hid (wr.heap[g]? = some (.cells (cellsB data) 5 (0, 0))) := (hbel.block g hgl).trans HG.out
    have hwr : w.heap.size ≤ wr.heap.size := hbel.size
    clear h10 hown hrows hlin hbel
    by_cases hlt : i < n
    · have hcell : wr.cell? ⟨g, i, none⟩ = some (.int .u8 (data.getD i 0)) := cellsB_cell HG2.out i (by rw [HX.out]; exact hlt)
      by_cases he : data[i]?.getD 0 = 10
      · have hb : (data[i]?.getD 0 == 10) = true := by simp [he]
        have HE := hide he
        have b1 : (0 : Int) ≤ (start : Int) := by omega
        have b2 : (start : Int) ≤ (i : Int) := by omega
        have b3 : (i : Int) ≤ (c : Int) := by omega
        have hcs : ¬ c = start := by omega
        have HPL : Hid (((data.drop start).take (i - start)).length = i - start) := by have := HX.out; rw [Hid]; simp; omega
        have HPC : Hid (∀ j, j < i - start → wr.cell? ⟨g, start + j, none⟩ = some (.int .u8 (((data.drop start).take (i - start)).getD j 0))) :=
          fun j hj => part_cells HG2.out start (i - start) j hj (by rw [HX.out]; omega)
        have hbd : (tr 13 ((data.drop start).take (i - start))).length ≤ 1048576 := by
          have h1 := tr_length 13 ((data.drop start).take (i - start))
          rw [HPL.out] at h1
          omega
        clear he
        go_wp2_with (first
          | (go_at_call 17; go_must (refine (dropCR_any g start (i - start) (c - start) ((data.drop start).take (i - start)) _ HPL.out (by omega) (by omega) (by exact HPC.out)).mono ?_; rintro e w' ⟨rfl, hw⟩; rw [hw]; clear hw w'))
          | (at_builtin; go_must (refine wpList_append_own _ rfl _ _ 28 rfl w.heap.size 25 i0 (.slice none 0 0) 1 24 Tryd.underlying28 hi hz0 hz1 hz2 rfl (by decide) u3 Ls.length vs rfl (HOW.out.alloc _) ⟨wr.heap.size, 0, none⟩ 1 1 [Value.slice (some ⟨g, start, none⟩) (tr 13 ((data.drop start).take (i - start))).length (c - start)] rfl rfl (by exact one_new _ _ _ _ rfl) (by intro u hu; simp at hu; subst hu; rfl) (by unfold maxLen; omega) (by omega) (by simp; omega) ?_; intro v6 w6 hown6 hgr6 _; have HO6 := hide hown6; have HB6 : Hid (Below w.heap.size w w6) := (HBE.out.alloc hwr _).grown hgr6 (by simp; omega) (fun k hk => (HOW.out.lt k hk).1); clear hown6 hgr6)))
        go_roundw
        case rel =>
          refine ⟨i + 1, by omega, by go_num, i + 1, vs ++ [Value.slice (some ⟨g, start, none⟩) (tr 13 ((data.drop start).take (i - start))).length (c - start)], Ls ++ [tr 13 ((data.drop start).take (i - start))], by go_num, Nat.le_refl _, by simp; omega, by simp, ?_, ?_, split_piece hsi (by rw [HX.out]; exact hlt) H10.out HE.out HLI.out, HB6.out⟩
          · have := HO6.out; simpa using this
          · have ht := take_tr data start (i - start) 13 (by rw [HX.out]; omega)
            exact HRO.out.snoc ht.1 ht.2
        case measure => simp [intOf]; omega
      · have hb : (data[i]?.getD 0 == 10) = false := by simp [he]
        have HE := hide he
        clear he
        go_wp2
        go_roundw
        case rel =>
          refine ⟨i + 1, by omega, by go_num, start, vs, Ls, rfl, by omega, by omega, ?_, HOW.out, HRO.out, HLI.out, HBE.out⟩
          have hlt2 : i - start < (data.drop start).length := by have := HX.out; simp; omega
          rw [show i + 1 - start = (i - start) + 1 from by omega, List.take_succ_eq_append_getElem hlt2]
          simp only [List.mem_append, not_or]
          refine ⟨H10.out, ?_⟩
          intro hm
          simp at hm
          apply HE.out
          rw [List.getElem?_eq_getElem (by rw [HX.out]; exact hlt)]
          simp
          rw [hm]
          congr 1
          omega
        case measure => simp [intOf]; omega
    · have hie : i = n := by omega
      subst hie
      by_cases hst : start < i
      · have b1 : (0 : Int) ≤ (start : Int) := by omega
        have b2 : (start : Int) ≤ (i : Int) := by omega
        have hcs : ¬ c = start := by omega
        have HPL : Hid (((data.drop start).take (i - start)).length = i - start) := by have := HX.out; rw [Hid]; simp; omega
        have HPC : Hid (∀ j, j < i - start → wr.cell? ⟨g, start + j, none⟩ = some (.int .u8 (((data.drop start).take (i - start)).getD j 0))) :=
          fun j hj => part_cells HG2.out start (i - start) j hj (by rw [HX.out]; omega)
        go_wp2_with (first
          | (go_at_call 17; go_must (refine (dropCR_any g start (i - start) (c - start) ((data.drop start).take (i - start)) _ HPL.out (by omega) (by omega) (by exact HPC.out)).mono ?_; rintro e w' ⟨rfl, hw⟩; rw [hw]; clear hw w'))
          | (at_builtin; go_must (refine wpList_append_own _ rfl _ _ 28 rfl w.heap.size 25 i0 (.slice none 0 0) 1 24 Tryd.underlying28 hi hz0 hz1 hz2 rfl (by decide) u3 Ls.length vs rfl (HOW.out.alloc _) ⟨wr.heap.size, 0, none⟩ 1 1 [Value.slice (some ⟨g, start, none⟩) (tr 13 ((data.drop start).take (i - start))).length (c - start)] rfl rfl (by exact one_new _ _ _ _ rfl) (by intro u hu; simp at hu; subst hu; rfl) (by unfold maxLen; omega) (by omega) (by simp; omega) ?_; intro v6 w6 hown6 hgr6 _; have HO6 := hide hown6; have HB6 : Hid (Below w.heap.size w w6) := (HBE.out.alloc hwr _).grown hgr6 (by simp; omega) (fun k hk => (HOW.out.lt k hk).1); clear hown6 hgr6)))
        go_ret
        refine ⟨v6, vs ++ [Value.slice (some ⟨g, start, none⟩) (tr 13 ((data.drop start).take (i - start))).length (c - start)], Ls ++ [tr 13 ((data.drop start).take (i - start))], rfl, ?_, ?_, ?_, HB6.out⟩
        · refine HLI.out _ ⟨data.drop start, [], by simp, Or.inr ⟨?_, rfl, ?_⟩, ?_, rfl⟩
          · have h := H10.out
            rw [List.take_of_length_le (by have := HX.out; simp; omega)] at h
            exact h
          · intro h
            have h2 := congrArg List.length h
            have := HX.out
            simp at h2
            omega
          · have h := H10.out
            rw [List.take_of_length_le (by have := HX.out; simp; omega)] at h ⊢
            exact (trimL_no _ h).symm
        · have := HO6.out; simpa using this
        · have ht := take_tr data start (i - start) 13 (by rw [HX.out]; omega)
          exact HRO.out.snoc ht.1 ht.2
      · go_wp2
        go_ret
        refine ⟨u3, vs, Ls, rfl, ?_, HOW.out, HRO.out, HBE.out⟩
        have h := HLI.out [] (show data.drop start = [] from List.drop_eq_nil_of_le (by have := HX.out; omega))
        simpa using h
end Go.Proofs.Qxb6608589aDoor
