import Derived.Test.Qxb6608589aDoorSlice
namespace Go.Proofs.Qxb6608589aDoor
open Go.RowKit Go.Joins
set_option linter.unusedVariables false

/-- how ReadSlice answers -/
def Kind (L P' : List Int) (ev : Value) (te : TypeId) (aE aF : Addr) : Prop :=
  (ev = .nilIface ∧ ∃ L0, L = L0 ++ [10] ∧ 10 ∉ L0) ∨ (ev = .iface te (.pointer (some aF)) ∧ 10 ∉ L ∧ 0 < L.length) ∨ (ev = .iface te (.pointer (some aE)) ∧ 10 ∉ L ∧ P' = [])

/-- what ReadSlice leaves -/
def Sliced (w : World) (br bs bb bd S : Nat) (dp : Option Addr) (data P : List Int) (te : TypeId) (aE aF : Addr) (e : Ending) (w' : World) : Prop :=
  Touch [br, bs, bb] w w' ∧ ∃ (L P' : List Int) (p : Option Addr) (o c : Nat) (ev : Value), e = .returned (.tuple #[.slice p L.length c, ev]) ∧ P = L ++ P' ∧ Rd w' br bs bb S dp data P' .nilIface ∧ L.length ≤ c ∧ L.length ≤ S ∧
    (∃ a, p = some a ∧ (0 < L.length → a = ⟨bb, o, none⟩)) ∧ (∀ i, i < L.length → w'.cell? ⟨bb, o + i, none⟩ = some (.int .u8 (L.getD i 0))) ∧ Kind L P' ev te aE aF

theorem index_at (j : Int) (p : Option Addr) (b o n c : Nat) (xs : List Int) (w : World) (hj : idx10 xs = j) (hx : xs.length = n) (hp : ∃ a, p = some a ∧ (0 < n → a = ⟨b, o, none⟩)) (hc : ∀ i, i < n → w.cell? ⟨b, o + i, none⟩ = some (.int .u8 (xs.getD i 0))) :
    Calls Tryd.prog 24 #[.slice p n c, .int .u8 10] w fun e w' => e = .returned (.int .i64 j) ∧ w' = w :=
  (index_any p b o n c xs w hx hp hc).mono fun e w' h => by rw [hj] at h; exact h

theorem part_cells {w : World} {g : Nat} {xs : List Int} (h : w.heap[g]? = some (.cells (cellsB xs) 5 (0, 0))) (o n : Nat) : ∀ i, i < n → o + n ≤ xs.length → w.cell? ⟨g, o + i, none⟩ = some (.int .u8 (((xs.drop o).take n).getD i 0)) := by
  intro i hi hn
  rw [cellsB_cell h (o + i) (by omega)]
  simp [hi]

theorem slice_at (S g o n : Nat) (h : o + n ≤ S) : ∃ a, (if S = o then some (⟨g, 0, none⟩ : Addr) else some ⟨g, o, none⟩) = some a ∧ (0 < n → a = ⟨g, o, none⟩) := by
  by_cases hs : S = o
  · exact ⟨_, if_pos hs, fun hn => by omega⟩
  · exact ⟨_, if_neg hs, fun _ => rfl⟩

theorem quiet_of2 {P : Program} {f : FuncId} {args : Array Value} {w : World} {k n : Nat} {v : Value}
    (h : Calls P f args (w.drewN (k + n)) fun e w' => e = .returned v ∧ ∃ m, w' = (w.drewN (k + n)).drewN m) : Calls P f args (w.drewN (k + n)) fun e w'' => e = .returned v ∧ ∃ m, w'' = w.drewN (k + m) :=
  h.mono fun _ _ ⟨he, m, hm⟩ => ⟨he, n + m, by rw [hm, World.drewN_drewN, Nat.add_assoc]⟩

/-- the loop's relation -/
def Lp (w : World) (br bs bb S : Nat) (dp : Option Addr) (data P : List Int) (te : TypeId) (aE : Addr) (k : Nat) (sv : Value) (wx : World) : Prop :=
  ∃ (r wr i s : Nat) (lb lr pr : Int) (buf : List Int) (err : Value), sv = .int .i64 s ∧ r ≤ wr ∧ wr ≤ S ∧ buf.length = S ∧ i ≤ data.length ∧ (buf.drop r).take (wr - r) ++ data.drop i = P ∧ s ≤ wr - r ∧ 10 ∉ ((buf.drop r).take (wr - r)).take s ∧
    ((err = .nilIface ∧ (data.length - i) + 1 ≤ k) ∨ (err = .iface te (.pointer (some aE)) ∧ data.length ≤ i ∧ wr - r ≤ s)) ∧ Touch [br, bs, bb] w wx ∧
    wx.heap[br]? = some (.cells (rdr bb S bs r wr err lb lr) 55 (0, 0)) ∧
    wx.heap[bs]? = some (.cells #[.slice dp data.length data.length, .int .i64 i, .int .i64 pr] 58 (0, 0)) ∧
    wx.heap[bb]? = some (.cells (cellsB buf) 5 (0, 0))

/-- the end of ReadSlice: the window's first m bytes are handed out -/
theorem close_at {w w' : World} {br bs bb bd S : Nat} {dp : Option Addr} {data P : List Int} {te : TypeId} {aE aF : Addr} {r wx i m c : Nat} {lb lr pr : Int} {buf : List Int} {ev : Value} {p : Option Addr}
    (g1 : r ≤ wx) (g2 : wx ≤ S) (g3 : buf.length = S) (g4 : i ≤ data.length) (g5 : (buf.drop r).take (wx - r) ++ data.drop i = P) (hT : Touch [br, bs, bb] w w')
    (h10 : w'.heap[br]? = some (.cells (rdr bb S bs (r + m) wx .nilIface lb lr) 55 (0, 0)))
    (h11 : w'.heap[bs]? = some (.cells #[.slice dp data.length data.length, .int .i64 i, .int .i64 pr] 58 (0, 0)))
    (h12 : w'.heap[bb]? = some (.cells (cellsB buf) 5 (0, 0))) (hm : m ≤ wx - r) (hc : m ≤ c) (hp : ∃ a, p = some a ∧ (0 < m → a = ⟨bb, r, none⟩))
    (hk : Kind (((buf.drop r).take (wx - r)).take m) (((buf.drop r).take (wx - r)).drop m ++ data.drop i) ev te aE aF) :
    Sliced w br bs bb bd S dp data P te aE aF (.returned (.tuple #[.slice p m c, ev])) w' := by
  have hl : (((buf.drop r).take (wx - r)).take m).length = m := by simp; omega
  refine ⟨hT, ((buf.drop r).take (wx - r)).take m, ((buf.drop r).take (wx - r)).drop m ++ data.drop i, p, r, c, ev, by rw [hl], ?_, ?_, by omega, by omega, ?_, ?_, hk⟩
  · rw [← List.append_assoc, List.take_append_drop, g5]
  · refine ⟨r + m, wx, i, lb, lr, pr, buf, by omega, g2, g3, g4, ?_, h10, h11, h12⟩
    rw [List.drop_take, List.drop_drop, show wx - r - m = wx - (r + m) from by omega]
  · rw [hl]; exact hp
  · rw [hl]
    intro k hk
    rw [cellsB_cell h12 (r + k) (by omega)]
    simp [List.getElem?_take, hk]
    rw [if_pos (by omega)]

theorem kind_nl {win rest : List Int} {te : TypeId} {aE aF : Addr} {s j : Nat} (h1 : 10 ∉ win.take s) (h2 : (win.drop s)[j]? = some 10) (h3 : 10 ∉ (win.drop s).take j) : Kind (win.take (j + s + 1)) (win.drop (j + s + 1) ++ rest) .nilIface te aE aF := by
  refine Or.inl ⟨rfl, win.take (j + s), ?_, ?_⟩
  · rw [List.getElem?_drop, Nat.add_comm] at h2
    have hlt := (List.getElem?_eq_some_iff.1 h2).1
    rw [List.take_succ_eq_append_getElem hlt, (List.getElem?_eq_some_iff.1 h2).2]
  · rw [Nat.add_comm j s, List.take_add]
    simp only [List.mem_append, not_or]
    exact ⟨h1, h3⟩

set_option maxRecDepth 100000 in
set_option maxHeartbeats 2000000 in
theorem readSlice_any (br bs bb bd S : Nat) (dp : Option Addr) (data P : List Int) (te : TypeId) (aE aF : Addr) (w : World)
    (he : Env w br bs bb bd S dp data te aE aF) (hP : Byt P) (hrd : Rd w br bs bb S dp data P .nilIface) :
    Calls Tryd.prog 22 #[.pointer (some ⟨br, 0, none⟩), .int .u8 10] w (Sliced w br bs bb bd S dp data P te aE aF) := by
  have HP := (show Hid _ from hP)
  have HRD := (show Hid _ from hrd)
  clear hP hrd
  go_enter Tryd.func22, Tryd.ntmps22
  go_wp2
  go_loopg [5, 6] (data.length + 1) (fun k ev sv wx => ev = .nilIface ∧ Lp w br bs bb S dp data P te aE k sv wx)
  case atStart =>
    obtain ⟨r, wr, i, lb, lr, pr, buf, h1, h2, h3, h4, h5, h6, h7, h8⟩ := HRD.out
    exact ⟨rfl, r, wr, i, 0, lb, lr, pr, buf, .nilIface, rfl, h1, h2, h3, h4, h5, by omega, by simp, Or.inl ⟨rfl, by omega⟩, Touch.refl _ _, h6, h7, h8⟩
  case round =>
    obtain ⟨rfl, r, wx, i, s, lb, lr, pr, buf, err, rfl, g1, g2, g3, g4, g5, g6, g7, g8, g9, g10, g11, g12⟩ := hrel
    have he' := he.touch g9 (by have := he.h1; have := he.h2; have := he.h3; simp; omega)
    have q1 := he'.hS2
    have q2 := he'.h1
    have q3 := he'.h2
    have q4 := he'.h3
    have q0 := he'.h0
    obtain ⟨xs, hxs⟩ : ∃ xs, xs = (buf.drop (r + s)).take (wx - (r + s)) := ⟨_, rfl⟩
    have hxl : xs.length = wx - (r + s) := by rw [hxs]; simp; omega
    have hxw : ((buf.drop r).take (wx - r)).drop s = xs := by
      rw [hxs, List.drop_take, List.drop_drop, show wx - r - s = wx - (r + s) from by omega]
    have hxb : Byt xs := fun x hx => HP.out x (by rw [← g5]; exact List.mem_append_left _ (by rw [← hxw] at hx; exact List.mem_of_mem_drop hx))
    have hxc : ∀ i, i < wx - (r + s) → wr.cell? ⟨bb, r + s + i, none⟩ = some (.int .u8 (xs.getD i 0)) := by
      rw [hxs]; intro i hi; exact part_cells g12 (r + s) (wx - (r + s)) i hi (by omega)
    have c0 : wr.cell? ⟨br, 0, none⟩ = some (.slice (some ⟨bb, 0, none⟩) S S) := by rw [cell_of_block g10]; rfl
    have c2 : wr.cell? ⟨br, 2, none⟩ = some (.int .i64 r) := by rw [cell_of_block g10]; rfl
    have c3 : wr.cell? ⟨br, 3, none⟩ = some (.int .i64 wx) := by rw [cell_of_block g10]; rfl
    have c4 : wr.cell? ⟨br, 4, none⟩ = some err := by rw [cell_of_block g10]; rfl
    have f2 : wr.frozen? ⟨br, 2, none⟩ = false := unfrozen_of_block g10 2
    have b1 : (0 : Int) ≤ (r : Int) + (s : Int) := by omega
    have b2 : (r : Int) + (s : Int) ≤ (wx : Int) := by omega
    have b3 : (wx : Int) ≤ (S : Int) := by omega
    have HXL := (show Hid _ from hxl)
    have HXC := (show Hid _ from hxc)
    have HXS := (show Hid _ from hxs)
    have HXW := (show Hid _ from hxw)
    have HXB := (show Hid _ from hxb)
    have HE := (show Hid _ from he')
    have G5 := (show Hid _ from g5)
    have G7 := (show Hid _ from g7)
    have G3 := (show Hid _ from g3)
    have G9 := (show Hid _ from g9)
    have G10 := (show Hid _ from g10)
    have G11 := (show Hid _ from g11)
    have G12 := (show Hid _ from g12)
    clear hxl hxc hxs hxw hxb he he' g5 g7 g9 g10 g11 g12 g3
    rcases Int.lt_or_le (idx10 xs) 0 with hneg | hpos
    · have hm1 : idx10 xs = -1 := by have := idx10_ge xs; omega
      have HM := (show Hid _ from hm1)
      have HN : Hid (10 ∉ (buf.drop r).take (wx - r)) := by
        have h := idx10_none xs HXB.out hm1
        rw [← HXW.out] at h
        have h2 := G7.out
        intro hm
        rw [← List.take_append_drop s ((buf.drop r).take (wx - r))] at hm
        rcases List.mem_append.1 hm with hm | hm
        · exact h2 hm
        · exact h hm
      have f4 : wr.frozen? ⟨br, 4, none⟩ = false := unfrozen_of_block G10.out 4
      have f5 : wr.frozen? ⟨br, 5, none⟩ = false := unfrozen_of_block G10.out 5
      have f6 : wr.frozen? ⟨br, 6, none⟩ = false := unfrozen_of_block G10.out 6
      have c5 : wr.cell? ⟨br, 5, none⟩ = some (.int .i64 lb) := by rw [cell_of_block G10.out]; rfl
      have c6 : wr.cell? ⟨br, 6, none⟩ = some (.int .i64 lr) := by rw [cell_of_block G10.out]; rfl
      clear hneg hm1
      rcases g8 with ⟨rfl, hk⟩ | ⟨rfl, hin, hws⟩
      · by_cases hfull : S ≤ wx - r
        · have hr0 : r ≤ 0 := by omega
          obtain ⟨hF1, hE1⟩ := (show _ ∧ _ from ⟨HE.out.hF, HE.out.hE⟩)
          have hS0 := HE.out.hS
          have cx : wr.cell? ⟨bb, S - 1, none⟩ = some (.int .u8 (buf.getD (S - 1) 0)) := cellsB_cell G12.out _ (by rw [G3.out]; omega)
          have hfi : (S : Int) ≤ ((wx - r : Nat) : Int) := by omega
          go_wp2
          go_quiet ((go_at_call 24; exact Calls.quiet_of_same (index_at (-1) _ bb (r + s) _ _ xs _ HM.out (by exact HXL.out) (by exact slice_at S bb (r + s) _ (by omega)) (by exact HXC.out))))
          generalize (if S = r + s then some (⟨bb, 0, none⟩ : Addr) else some ⟨bb, r + s, none⟩) = zz
          go_wp2
          go_quiet ((go_at_call 26; exact quiet_of2 (buffered_any br r wx _ g1 (by omega) (by exact c2) (by exact c3))))
          go_wp2
          go_ret2
          obtain rfl : r = 0 := by omega
          obtain rfl : wx = S := by omega
          exact close_at (m := wx) g1 g2 G3.out g4 G5.out ((((G9.out.drewN _).setCell (by simp) _).setCell (by simp) _).setCell (by simp) _)
            (by rw [Nat.zero_add]; exact block_setCell (i := 6) (block_setCell (i := 5) (block_setCell (w := wr.drewN _) (i := 2) G10.out _) _) _)
            ((Below.heap_setCell _ _ _ bs (by simp; omega)).trans ((Below.heap_setCell _ _ _ bs (by simp; omega)).trans ((Below.heap_setCell _ _ _ bs (by simp; omega)).trans G11.out)))
            ((Below.heap_setCell _ _ _ bb (by simp; omega)).trans ((Below.heap_setCell _ _ _ bb (by simp; omega)).trans ((Below.heap_setCell _ _ _ bb (by simp; omega)).trans G12.out)))
            (by omega) (by omega) ⟨_, rfl, fun _ => rfl⟩
            (Or.inr (Or.inl ⟨rfl, fun hm => HN.out (List.mem_of_mem_take hm), by have := G3.out; simp; omega⟩))
        · have hfi : ¬ (S : Int) ≤ ((wx - r : Nat) : Int) := by omega
          have b6 : (r : Int) ≤ (wx : Int) := by omega
          go_wp2
          go_quiet ((go_at_call 24; exact Calls.quiet_of_same (index_at (-1) _ bb (r + s) _ _ xs _ HM.out (by exact HXL.out) (by exact slice_at S bb (r + s) _ (by omega)) (by exact HXC.out))))
          generalize (if S = r + s then some (⟨bb, 0, none⟩ : Addr) else some ⟨bb, r + s, none⟩) = zz
          go_wp2
          go_quiet ((go_at_call 26; exact quiet_of2 (buffered_any br r wx _ g1 (by omega) (by exact c2) (by exact c3))))
          go_wp2
          go_quiet (fail)
          go_wp2_with (go_at_call 27; refine (fill_rd br bs bb bd S dp data P te aE aF r wx i lb lr pr buf _ (by exact HE.out.touch ((Touch.refl [] wr).drewN _) (by simp)) g1 g2 (by omega) G3.out g4 G5.out (by exact G10.out) (by exact G11.out) (by exact G12.out)).mono ?_; rintro e w' ⟨rfl, hT', hrest⟩)
          have HR := (show Hid _ from hrest)
          have HT' := (show Hid _ from hT')
          clear hrest hT'
          go_roundg (gk - 1)
          case measure => omega
          case rel =>
            obtain ⟨wr', i', lb', lr', pr', buf', err', k1, k2, k3, k4, k5, k6, k7, k8, k9, k10⟩ := HR.out
            refine ⟨rfl, 0, wr', i', wx - r, lb', lr', pr', buf', err', by go_num, by omega, k2, k3, k4, ?_, by omega, ?_, ?_, (G9.out.drewN _).trans HT'.out, k8, k9, k10⟩
            · simpa using k5
            · have h : ((buf'.drop 0).take (wr' - 0)).take (wx - r) = (buf.drop r).take (wx - r) := by
                rw [List.drop_zero, Nat.sub_zero, List.take_take, Nat.min_eq_left k1, k7]
              rw [h]; exact HN.out
            · rcases k6 with ⟨h1, h2⟩ | ⟨h1, h2, h3, h4⟩
              · exact Or.inl ⟨h1, by omega⟩
              · exact Or.inr ⟨h1, h2, by omega⟩
      · have HDN : Hid (data.drop i = []) := List.drop_eq_nil_of_le hin
        have b6 : (r : Int) ≤ (wx : Int) := by omega
        by_cases hemp : wx ≤ r
        · go_wp2
          go_quiet ((go_at_call 24; exact Calls.quiet_of_same (index_at (-1) _ bb (r + s) _ _ xs _ HM.out (by exact HXL.out) (by exact slice_at S bb (r + s) _ (by omega)) (by exact HXC.out))))
          generalize (if S = r + s then some (⟨bb, 0, none⟩ : Addr) else some ⟨bb, r + s, none⟩) = zz
          go_wp2
          go_quiet (fail)
          have hsl := slice_at S bb r (wx - r) (by omega)
          generalize (if S = r then some (⟨bb, 0, none⟩ : Addr) else some ⟨bb, r, none⟩) = zy at *
          have HSL := (show Hid _ from hsl)
          clear hsl
          have d4 : ∀ q v, ((wr.drewN q).setCell ⟨br, 2, none⟩ v).cell? ⟨br, 4, none⟩ = some (.iface te (.pointer (some aE))) := fun q v => by
            rw [World.cell?_setCell_other _ _ _ _ (by intro h; injection h; omega)]; exact c4
          have e4 : ∀ q v, ((wr.drewN q).setCell ⟨br, 2, none⟩ v).frozen? ⟨br, 4, none⟩ = false := fun q v => by
            rw [World.frozen?_setCell]; exact f4
          go_wp2_with (go_at_call 25; refine (readErr_any br te aE _ (by exact d4 _ _) (by exact e4 _ _)).mono ?_; rintro e w' ⟨rfl, rfl⟩)
          go_ret2
          obtain rfl : wx = r := by omega
          exact close_at (m := 0) g1 g2 G3.out g4 G5.out (((G9.out.drewN _).setCell (by simp) _).setCell (by simp) _)
            (block_setCell (i := 4) (block_setCell (w := wr.drewN _) (i := 2) G10.out _) _)
            ((Below.heap_setCell _ _ _ bs (by simp; omega)).trans ((Below.heap_setCell _ _ _ bs (by simp; omega)).trans G11.out))
            ((Below.heap_setCell _ _ _ bb (by simp; omega)).trans ((Below.heap_setCell _ _ _ bb (by simp; omega)).trans G12.out))
            (by omega) (by omega) (by have h := HSL.out; simpa using h)
            (Or.inr (Or.inr ⟨rfl, by simp, by simp [HDN.out]⟩))
        · have hSr : ¬ S = r := by omega
          have cx : wr.cell? ⟨bb, r + (wx - r - 1), none⟩ = some (.int .u8 (buf.getD (r + (wx - r - 1)) 0)) := cellsB_cell G12.out _ (by rw [G3.out]; omega)
          go_wp2
          go_quiet ((go_at_call 24; exact Calls.quiet_of_same (index_at (-1) _ bb (r + s) _ _ xs _ HM.out (by exact HXL.out) (by exact slice_at S bb (r + s) _ (by omega)) (by exact HXC.out))))
          generalize (if S = r + s then some (⟨bb, 0, none⟩ : Addr) else some ⟨bb, r + s, none⟩) = zz
          go_wp2
          go_quiet (fail)
          have d4 : ∀ q v, ((wr.drewN q).setCell ⟨br, 2, none⟩ v).cell? ⟨br, 4, none⟩ = some (.iface te (.pointer (some aE))) := fun q v => by
            rw [World.cell?_setCell_other _ _ _ _ (by intro h; injection h; omega)]; exact c4
          have e4 : ∀ q v, ((wr.drewN q).setCell ⟨br, 2, none⟩ v).frozen? ⟨br, 4, none⟩ = false := fun q v => by
            rw [World.frozen?_setCell]; exact f4
          go_wp2_with (go_at_call 25; refine (readErr_any br te aE _ (by exact d4 _ _) (by exact e4 _ _)).mono ?_; rintro e w' ⟨rfl, rfl⟩)
          go_ret2
          exact close_at (m := wx - r) g1 g2 G3.out g4 G5.out (((((G9.out.drewN _).setCell (by simp) _).setCell (by simp) _).setCell (by simp) _).setCell (by simp) _)
            (by rw [show r + (wx - r) = wx from by omega]; exact block_setCell (i := 6) (block_setCell (i := 5) (block_setCell (i := 4) (block_setCell (w := wr.drewN _) (i := 2) G10.out _) _) _) _)
            ((Below.heap_setCell _ _ _ bs (by simp; omega)).trans ((Below.heap_setCell _ _ _ bs (by simp; omega)).trans ((Below.heap_setCell _ _ _ bs (by simp; omega)).trans ((Below.heap_setCell _ _ _ bs (by simp; omega)).trans G11.out))))
            ((Below.heap_setCell _ _ _ bb (by simp; omega)).trans ((Below.heap_setCell _ _ _ bb (by simp; omega)).trans ((Below.heap_setCell _ _ _ bb (by simp; omega)).trans ((Below.heap_setCell _ _ _ bb (by simp; omega)).trans G12.out))))
            (by omega) (by omega) ⟨_, rfl, fun _ => rfl⟩
            (Or.inr (Or.inr ⟨rfl, fun hm => HN.out (List.mem_of_mem_take hm), by rw [HDN.out, List.append_nil]; exact List.drop_eq_nil_of_le (by simp; omega)⟩))
    · obtain ⟨j, hj⟩ := Int.eq_ofNat_of_zero_le hpos
      have HJ := (show Hid _ from hj)
      have hjl : j < wx - (r + s) := by
        have h := (idx10_some xs HXB.out j hj).1
        have := (List.getElem?_eq_some_iff.1 h).1
        rw [HXL.out] at this; exact this
      have hSne : ¬ S = r + s := by omega
      have hSr : ¬ S = r := by omega
      have b4 : (r : Int) + ((j : Int) + (s : Int)) + 1 ≤ (S : Int) := by omega
      have b5 : (r : Int) ≤ (r : Int) + ((j : Int) + (s : Int)) + 1 := by omega
      have f5 : wr.frozen? ⟨br, 5, none⟩ = false := unfrozen_of_block G10.out 5
      have f6 : wr.frozen? ⟨br, 6, none⟩ = false := unfrozen_of_block G10.out 6
      have c5 : wr.cell? ⟨br, 5, none⟩ = some (.int .i64 lb) := by rw [cell_of_block G10.out]; rfl
      have c6 : wr.cell? ⟨br, 6, none⟩ = some (.int .i64 lr) := by rw [cell_of_block G10.out]; rfl
      have cx : wr.cell? ⟨bb, r + (j + s), none⟩ = some (.int .u8 (buf.getD (r + (j + s)) 0)) := cellsB_cell G12.out _ (by rw [G3.out]; omega)
      have herr : err = .nilIface := by
        rcases g8 with h | h
        · exact h.1
        · omega
      subst herr
      clear hpos hj g8
      go_wp2
      go_quiet ((go_at_call 24; exact Calls.quiet_of_same (index_at j _ bb (r + s) _ _ xs _ HJ.out (by exact HXL.out) (by exact ⟨_, rfl, fun _ => rfl⟩) (by exact HXC.out))))
      go_wp2
      go_quiet (fail)
      rw [show r + (j + s) + 1 - r = j + s + 1 from by omega]
      go_wp2
      go_ret2
      have e1 : (r : Int) + ((j : Int) + (s : Int) + 1) = ((r + (j + s + 1) : Nat) : Int) := by omega
      rw [e1]
      exact close_at (m := j + s + 1) g1 g2 G3.out g4 G5.out ((((G9.out.drewN _).setCell (by simp) _).setCell (by simp) _).setCell (by simp) _)
        (block_setCell (i := 6) (block_setCell (i := 5) (block_setCell (w := wr.drewN _) (i := 2) G10.out _) _) _)
        ((Below.heap_setCell _ _ _ bs (by simp; omega)).trans ((Below.heap_setCell _ _ _ bs (by simp; omega)).trans ((Below.heap_setCell _ _ _ bs (by simp; omega)).trans G11.out)))
        ((Below.heap_setCell _ _ _ bb (by simp; omega)).trans ((Below.heap_setCell _ _ _ bb (by simp; omega)).trans ((Below.heap_setCell _ _ _ bb (by simp; omega)).trans G12.out)))
        (by omega) (by omega) ⟨_, rfl, fun _ => rfl⟩
        (by have h := idx10_some xs HXB.out j HJ.out; rw [← HXW.out] at h; exact kind_nl G7.out h.1 h.2)
end Go.Proofs.Qxb6608589aDoor
