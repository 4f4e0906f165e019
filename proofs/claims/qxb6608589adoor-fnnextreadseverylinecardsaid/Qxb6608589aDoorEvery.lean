import Derived.Test.Qxb6608589aDoorSplit
import Derived.Test.Qxb6608589aDoorJoin
namespace Go.Proofs.Qxb6608589aDoor
open Go.RowKit Go.Joins
set_option linter.unusedVariables false

/-- the reader is made -/
theorem rd_start {w w1 w2 : World} {dp : Option Addr} {data : List Int} {aE aF : Addr} {S : Nat} (hs : Sent w aE aF) (hn : data.length ≤ 1048576) (hS1 : 16 ≤ S) (hS2 : S ≤ 65536)
    (hb : Below w.heap.size w w1) (hz : w1.heap.size ≤ w.heap.size + 1) (hdp : dp ≠ none → dp = some ⟨w.heap.size, 0, none⟩ ∧ w1.heap[w.heap.size]? = some (.cells (cellsB data) 5 (0, 0))) (hd0 : dp = none → data.length = 0)
    (hw2 : w2 = (((w1.alloc (.cells #[.slice dp data.length data.length, .int .i64 0, .int .i64 (-1)] 58)).alloc (.cells (rdr (w1.heap.size + 2) S w1.heap.size 0 0 .nilIface (-1) (-1)) 55)).alloc (.cells (cellsB (List.replicate S 0)) 5)).alloc (.cells (hfl (w1.heap.size + 1) 0 (.slice none 0 0)) 49)) :
    Env w2 (w1.heap.size + 1) w1.heap.size (w1.heap.size + 2) (w1.heap.size - 1) S dp data 66 aE aF ∧ Rd w2 (w1.heap.size + 1) w1.heap.size (w1.heap.size + 2) S dp data data .nilIface ∧
      w2.heap[w1.heap.size + 3]? = some (.cells (hfl (w1.heap.size + 1) 0 (.slice none 0 0)) 49 (0, 0)) ∧ Below w.heap.size w w2 := by
  have hsz := hs.hsz
  have hle := hb.size
  have b12 : Below w1.heap.size w1 w2 := by
    rw [hw2]
    exact ((((Below.refl _ w1).alloc (Nat.le_refl _) _).alloc (by simp) _).alloc (by simp; omega) _).alloc (by simp; omega) _
  have b02 : Below w.heap.size w w2 := hb.trans (b12.mono hle)
  have hs2 := hs.below b02
  obtain ⟨cE, tE, hE⟩ := hs.hEb
  obtain ⟨cF, tF, hF⟩ := hs.hFb
  have lE := (Array.getElem?_eq_some_iff.1 hE).1
  have lF := (Array.getElem?_eq_some_iff.1 hF).1
  have g0 : w2.heap[w1.heap.size]? = some (.cells #[.slice dp data.length data.length, .int .i64 0, .int .i64 (-1)] 58 (0, 0)) := by
    rw [hw2, Below.heap_alloc _ _ _ (by simp <;> omega), Below.heap_alloc _ _ _ (by simp <;> omega), Below.heap_alloc _ _ _ (by simp <;> omega)]
    exact heap_alloc_new w1 _
  have g1 : w2.heap[w1.heap.size + 1]? = some (.cells (rdr (w1.heap.size + 2) S w1.heap.size 0 0 .nilIface (-1) (-1)) 55 (0, 0)) := by
    rw [hw2, Below.heap_alloc _ _ _ (by simp <;> omega), Below.heap_alloc _ _ _ (by simp <;> omega)]
    have h := heap_alloc_new (w1.alloc (.cells #[.slice dp data.length data.length, .int .i64 0, .int .i64 (-1)] 58)) (.cells (rdr (w1.heap.size + 2) S w1.heap.size 0 0 .nilIface (-1) (-1)) 55)
    simpa using h
  have g2 : w2.heap[w1.heap.size + 2]? = some (.cells (cellsB (List.replicate S 0)) 5 (0, 0)) := by
    rw [hw2, Below.heap_alloc _ _ _ (by simp <;> omega)]
    have h := heap_alloc_new ((w1.alloc (.cells #[.slice dp data.length data.length, .int .i64 0, .int .i64 (-1)] 58)).alloc (.cells (rdr (w1.heap.size + 2) S w1.heap.size 0 0 .nilIface (-1) (-1)) 55)) (.cells (cellsB (List.replicate S 0)) 5)
    simpa using h
  have g3 : w2.heap[w1.heap.size + 3]? = some (.cells (hfl (w1.heap.size + 1) 0 (.slice none 0 0)) 49 (0, 0)) := by
    rw [hw2]
    have h := heap_alloc_new (((w1.alloc (.cells #[.slice dp data.length data.length, .int .i64 0, .int .i64 (-1)] 58)).alloc (.cells (rdr (w1.heap.size + 2) S w1.heap.size 0 0 .nilIface (-1) (-1)) 55)).alloc (.cells (cellsB (List.replicate S 0)) 5)) (.cells (hfl (w1.heap.size + 1) 0 (.slice none 0 0)) 49)
    simpa using h
  refine ⟨?_, ?_, g3, b02⟩
  · refine ⟨by omega, by omega, by omega, by omega, by omega, by omega, by omega, ?_, hs2.hE, hs2.hF, hs.hne, ⟨by omega, hs2.hEb⟩, ⟨by omega, hs2.hFb⟩⟩
    intro h0
    have hne : dp ≠ none := fun h => by have := hd0 h; omega
    obtain ⟨h1, h2⟩ := hdp hne
    have hlt := (Array.getElem?_eq_some_iff.1 h2).1
    have e : w1.heap.size - 1 = w.heap.size := by omega
    rw [e]
    exact ⟨h1, (b12.block _ hlt).trans h2⟩
  · refine ⟨0, 0, 0, -1, -1, -1, List.replicate S 0, by omega, by omega, by simp, by omega, by simp, g1, g0, g2⟩

theorem linesRead_any (bl n : Nat) (w : World) (h : w.cell? ⟨bl, 1, none⟩ = some (.int .i64 n)) :
    Calls Tryd.prog 13 #[.pointer (some ⟨bl, 0, none⟩)] w fun e w' => e = .returned (.int .i64 n) ∧ w' = w := by
  go_enter Tryd.func13, Tryd.ntmps13
  go_wp2
  go_ret
  exact ⟨rfl, rfl⟩

theorem same_empty (a1 a2 : Addr) (c d : Nat) (w : World) :
    Calls Tryd.prog 12 #[.slice (some a1) 0 c, .slice (some a2) 0 d] w fun e w' => e = .returned (.bool true) ∧ w' = w := by
  go_enter Tryd.func12, Tryd.ntmps12
  go_wp2
  refine wp_loop_rounds 1 ?_
  rw [rounds_succ]
  go_wp2
  go_ret
  exact ⟨rfl, rfl⟩

theorem same_line (a : Addr) (c b2 o2 d : Nat) (xs : List Int) (w : World) (hn : xs.length ≤ 1048576) (hc1 : Lib.BytesIn w (some a) xs.length xs) (hc2 : ∀ i, i < xs.length → w.cell? ⟨b2, o2 + i, none⟩ = some (.int .u8 (xs.getD i 0))) :
    Calls Tryd.prog 12 #[.slice (some a) xs.length c, .slice (some ⟨b2, o2, none⟩) xs.length d] w fun e w' => e = .returned (.bool true) ∧ ∃ q, w' = w.drewN q := by
  rcases Nat.eq_zero_or_pos xs.length with h0 | h0
  · rw [h0]
    exact (same_empty a ⟨b2, o2, none⟩ c d w).mono fun e w' h => ⟨h.1, 0, h.2⟩
  · obtain ⟨b, o, hp, hc⟩ := hc1.at h0
    injection hp with hp
    subst hp
    exact (same_any b o xs.length c b2 o2 xs.length d xs xs w rfl rfl (by omega) (by omega) hc hc2).mono fun e w' h => ⟨h.1.trans (by simp [sameB]), h.2⟩

/-- what the law's loop holds: what is left of the text has the lines that are left -/
def LpE (w : World) (H S : Nat) (dp : Option Addr) (data : List Int) (aE aF : Addr) (Ws : List (List Int)) (k : Nat) (wx : World) : Prop :=
  ∃ (P : List Int) (lv : Value) (m : Nat) (xs : List Value), Byt P ∧ IsLines (Ws.drop k) P ∧ Env wx (H + 1) H (H + 2) (H - 1) S dp data 66 aE aF ∧ Rd wx (H + 1) H (H + 2) S dp data P .nilIface ∧
    wx.heap[H + 3]? = some (.cells (hfl (H + 1) k lv) 49 (0, 0)) ∧ wx.ownsRow (H + 3 + 1) 5 1 lv m xs ∧ Below w.heap.size w wx

theorem LpE.draws {w : World} {H S : Nat} {dp : Option Addr} {data : List Int} {aE aF : Addr} {Ws : List (List Int)} {k : Nat} {wx : World} (h : LpE w H S dp data aE aF Ws k wx) (q : Nat) : LpE w H S dp data aE aF Ws k (wx.drewN q) := by
  obtain ⟨P, lv, m, xs, h1, h2, h3, h4, h5, h6, h7⟩ := h
  have hT : Touch [] wx (wx.drewN q) := (Touch.refl _ _).drewN q
  exact ⟨P, lv, m, xs, h1, h2, h3.touch hT (by simp), Rd.touch h4 hT (by simp) (by simp) (by simp), h5, own_touch h6 hT (by simp), h7.trans (below_draws _ _ _)⟩

/-- next, at a line -/
theorem every_line {w wx : World} {H S : Nat} {dp : Option Addr} {data : List Int} {aE aF : Addr} {Ws : List (List Int)} {k : Nat} {L : List Int} (hH : w.heap.size ≤ H) (hk : k ≤ 1048576) (h : LpE w H S dp data aE aF Ws k wx) (hL : Ws[k]? = some L) :
    Calls Tryd.prog 11 #[.pointer (some ⟨H + 3, 0, none⟩)] wx fun e w' => ∃ a c, e = .returned (.tuple #[.slice (some a) L.length c, .nilIface]) ∧ Lib.BytesIn w' (some a) L.length L ∧ LpE w H S dp data aE aF Ws (k + 1) w' := by
  obtain ⟨P, lv, m, xs, h1, h2, h3, h4, h5, h6, h7⟩ := h
  have hlt := (List.getElem?_eq_some_iff.1 hL).1
  have hdr : Ws.drop k = L :: Ws.drop (k + 1) := by rw [List.drop_eq_getElem_cons hlt, (List.getElem?_eq_some_iff.1 hL).2]
  rw [hdr] at h2
  obtain ⟨X, P', hP, hpc, hLX, hrest⟩ := h2
  refine (zznext_any (H + 3) (H + 1) H (H + 2) (H - 1) S dp data P aE aF k lv m xs wx h3 (by omega) h1 h4 (by omega) h5 h6).mono ?_
  rintro e w' ⟨lv', m', xs', b1, b2, b3, b4⟩
  have hbd : ∀ g ∈ [H + 3, H + 1, H, H + 2] ++ lv.ownBlock.toList, H ≤ g := by
    intro g hg
    rcases List.mem_append.1 hg with hg | hg
    · simp at hg; omega
    · have := (h6.lt g (by simpa using hg)).1; omega
  rcases b4 with ⟨rfl, _⟩ | ⟨Y, Q', a, c, hQ, hqc, he, b7, b8, b9⟩
  · have := hpc.pos
    have h3 := congrArg List.length hP
    simp at h3; omega
  · obtain ⟨e1, e2⟩ := hpc.unique hqc (hP.symm.trans hQ)
    subst e1; subst e2
    rw [← hLX] at he b9
    refine ⟨a, c, he, b9, P', lv', m', xs', fun x hx => h1 x (by rw [hP]; exact List.mem_append_right _ hx), hrest, ?_, b7, b8, b1, h7.trans (b3.below h7.size (fun g hg => by have := hbd g hg; omega))⟩
    have q := h3.h1
    exact h3.touch b3 (fun g hg => by have := hbd g hg; omega)

/-- next, behind the last line -/
theorem every_end {w wx : World} {H S : Nat} {dp : Option Addr} {data : List Int} {aE aF : Addr} {Ws : List (List Int)} {k : Nat} (hH : w.heap.size ≤ H) (hk : k ≤ 1048576) (h : LpE w H S dp data aE aF Ws k wx) (hL : Ws.length ≤ k) :
    Calls Tryd.prog 11 #[.pointer (some ⟨H + 3, 0, none⟩)] wx fun e w' => e = .returned (.tuple #[.slice none 0 0, .iface 66 (.pointer (some aE))]) ∧ LpE w H S dp data aE aF Ws k w' := by
  obtain ⟨P, lv, m, xs, h1, h2, h3, h4, h5, h6, h7⟩ := h
  rw [List.drop_eq_nil_of_le hL] at h2
  obtain rfl : P = [] := h2
  refine (zznext_any (H + 3) (H + 1) H (H + 2) (H - 1) S dp data [] aE aF k lv m xs wx h3 (by omega) h1 h4 (by omega) h5 h6).mono ?_
  rintro e w' ⟨lv', m', xs', b1, b2, b3, b4⟩
  have hbd : ∀ g ∈ [H + 3, H + 1, H, H + 2] ++ lv.ownBlock.toList, H ≤ g := by
    intro g hg
    rcases List.mem_append.1 hg with hg | hg
    · simp at hg; omega
    · have := (h6.lt g (by simpa using hg)).1; omega
  rcases b4 with ⟨_, he, b5, b6⟩ | ⟨Y, Q', a, c, hQ, hqc, _⟩
  · have q := h3.h1
    exact ⟨he, [], lv', m', xs', h1, by rw [List.drop_eq_nil_of_le hL]; rfl, h3.touch b3 (fun g hg => by have := hbd g hg; omega), b5, b6, b1, h7.trans (b3.below h7.size (fun g hg => by have := hbd g hg; omega))⟩
  · have := hqc.pos
    have h3 := congrArg List.length hQ
    simp at h3; omega

theorem LpE.count {w wx : World} {H S : Nat} {dp : Option Addr} {data : List Int} {aE aF : Addr} {Ws : List (List Int)} {k : Nat} (h : LpE w H S dp data aE aF Ws k wx) : wx.cell? ⟨H + 3, 1, none⟩ = some (.int .i64 k) := by
  obtain ⟨P, lv, m, xs, h1, h2, h3, h4, h5, h6, h7⟩ := h
  rw [cell_of_block h5]; rfl
end Go.Proofs.Qxb6608589aDoor
