import Derived.Test.Qxb6608589aDoorEvery
namespace Go.Proofs.Qxb6608589aDoor
open Go.RowKit Go.Joins
set_option linter.unusedVariables false

theorem bytes7_yes (p : Option Addr) (n c : Nat) (size : Int) (w : World) (h : n ≤ 1048576) :
    Calls Tryd.prog 7 #[.slice p n c, .int .i64 size] w fun e w' => e = .returned (.bool true) ∧ w' = w := by
  go_enter Tryd.func7, Tryd.ntmps7
  go_wp2
  go_ret
  exact ⟨rfl, rfl⟩

theorem every_big (p : Option Addr) (n c : Nat) (size : Int) (w : World) (h1 : n ≤ 9223372036854775807) (h : 1048576 < n) :
    Calls Tryd.prog 4 #[.slice p n c, .int .i64 size] w fun e w' => e = .returned (.bool true) ∧ w' = w := by
  go_enter Tryd.func4, Tryd.ntmps4
  go_wp2
  go_ret
  exact ⟨rfl, rfl⟩

theorem every_size (p : Option Addr) (n c : Nat) (size : Int) (w : World) (h : n ≤ 1048576) (hs : 65536 < size) :
    Calls Tryd.prog 4 #[.slice p n c, .int .i64 size] w fun e w' => e = .returned (.bool true) ∧ w' = w := by
  go_enter Tryd.func4, Tryd.ntmps4
  go_wp2
  go_ret
  exact ⟨rfl, rfl⟩

theorem split_nil (w : World) : Calls Tryd.prog 9 #[.slice none 0 0] w fun e w' => e = .returned (.slice none 0 0) ∧ w' = w := by
  go_enter Tryd.func9, Tryd.ntmps9
  go_wp2
  refine wp_loop_rounds 1 ?_
  rw [rounds_succ]
  go_wp2
  go_ret
  exact ⟨rfl, rfl⟩

theorem split_dp (dp : Option Addr) (g n : Nat) (data : List Int) (w : World) (hx : data.length = n) (hn : n ≤ 1048576) (h0 : dp = none → n = 0) (hd : dp ≠ none → dp = some ⟨g, 0, none⟩ ∧ w.heap[g]? = some (.cells (cellsB data) 5 (0, 0))) :
    Calls Tryd.prog 9 #[.slice dp n n] w (SplitPost w g data) := by
  cases dp with
  | none =>
    have hn0 := h0 rfl
    subst hn0
    obtain rfl : data = [] := List.eq_nil_of_length_eq_zero hx
    refine (split_nil w).mono ?_
    rintro e w' ⟨rfl, rfl⟩
    exact ⟨.slice none 0 0, [], [], rfl, rfl, World.ownsRow_nil _ _ _ _, ⟨rfl, fun i L h => by simp at h⟩, Below.refl _ _⟩
  | some a =>
    obtain ⟨h1, h2⟩ := hd (by simp)
    injection h1 with h1
    subst h1
    exact split_any g n n data w hx hn (Nat.le_refl _) h2

set_option maxRecDepth 100000 in
set_option maxHeartbeats 2000000 in
theorem every_main (p : Option Addr) (n c : Nat) (data : List Int) (size : Int) (aE aF : Addr) (w : World) (hn : n ≤ 1048576) (hs : ¬ 65536 < size)
    (hx : data.length = n) (hp : p = none → n = 0 ∧ c = 0) (hd : Lib.BytesIn w p n data) (hB : Byt data) (hse : Sent w aE aF) :
    Calls Tryd.prog 4 #[.slice p n c, .int .i64 size] w fun e w' => e = .returned (.bool true) ∧ Below w.heap.size w w' := by
  obtain ⟨S, hS⟩ : ∃ S : Nat, (S : Int) = max size 16 := ⟨(max size 16).toNat, by omega⟩
  have hs' : size ≤ 65536 := by omega
  have HS := hide hS
  have HX := hide hx
  have HP := hide hp
  have HD := hide hd
  have HB := hide hB
  have HSE := hide hse
  clear hS hx hp hd hB hse
  go_enter Tryd.func4, Tryd.ntmps4
  go_upto_region 9 with (first
    | (go_at_call 7; go_must (refine (bytes7_yes _ n c size _ hn).mono ?_; rintro e w' ⟨rfl, hw⟩; rw [hw]; clear hw w'))
    | (go_at_call_of 8 p; go_must (refine (clone_any p n c data _ HX.out (by omega) HP.out (by exact HD.out)).mono ?_; rintro e w1 ⟨d1, rfl, k1, k2, k3, k4⟩; have K1 := hide k1; have K2 := hide k2; have K3 := hide k3; have K4 := hide k4; clear k1 k2 k3 k4))
    | (go_at_call 9; go_must (refine (split_dp d1 w.heap.size n data _ HX.out hn (by exact fun h => (HP.out (K1.out.1 h)).1) (by exact K4.out)).mono ?_; rintro e w2 ⟨want, vs, Ws, rfl, k1, k2, k3, k4⟩; obtain ⟨pw, cw, rfl, k5⟩ := own_at k2; have S1 := hide k1; have S2 := hide k2; have S3 := hide k3; have S4 := hide k4; clear k1 k2 k3 k4 k5)))
  have hd0 : d1 = none → n = 0 := fun h => (HP.out (K1.out.1 h)).1
  have BW2 : Hid (Below w.heap.size w w2) := K2.out.trans (S4.out.mono K2.out.size)
  have SW2 : Hid (Sent w2 aE aF) := HSE.out.below BW2.out
  have IN1 : Hid (Lib.BytesIn w2 d1 n data) := by
    have h1 := clone_in K4.out (fun h => by rw [HX.out]; exact hd0 h)
    rw [HX.out] at h1
    exact bytesIn_below h1 S4.out
  have HG2 : Hid (∀ L, L.length ≤ n → ∀ o, o + L.length ≤ data.length → (data.drop o).take L.length = L → 0 < L.length → ∀ wx, Below w2.heap.size w2 wx → ∀ i, i < L.length → wx.cell? ⟨w.heap.size, o + i, none⟩ = some (.int .u8 (L.getD i 0))) := by
    intro L hLn o ho hL h0 wx hb i hi
    have hne : d1 ≠ none := fun h => by have := hd0 h; rw [HX.out] at ho; omega
    obtain ⟨h1, h2⟩ := K4.out hne
    have hlt1 := (Array.getElem?_eq_some_iff.1 h2).1
    have h3 : w2.heap[w.heap.size]? = some (.cells (cellsB data) 5 (0, 0)) := (S4.out.block _ hlt1).trans h2
    have h4 : wx.heap[w.heap.size]? = some (.cells (cellsB data) 5 (0, 0)) := (hb.block _ (Array.getElem?_eq_some_iff.1 h3).1).trans h3
    have h5 := part_cells h4 o L.length i hi ho
    rw [hL] at h5
    exact h5
  have HD0 := hide hd0
  clear K1 K2 K3 K4 S4 hd0 HD
  have hWl := S1.out.len
  rw [HX.out] at hWl
  go_wp2_with (first
    | (go_at_call 8; go_must (refine (clone_any d1 n n data _ HX.out (by omega) (by exact fun h => ⟨HD0.out h, HD0.out h⟩) (by exact IN1.out)).mono ?_; rintro e w3 ⟨d2, rfl, k1, k2, k3, k4⟩; have K1 := hide k1; have K2 := hide k2; have K3 := hide k3; have K4 := hide k4; clear k1 k2 k3 k4))
    | (go_at_call 10; go_must (refine (new_any d2 n size _ hs' S HS.out).mono ?_; rintro e w4 ⟨rfl, hw4⟩; have HW4 := hide hw4; clear hw4)))
  have RS := rd_start (w2 := w4) (dp := d2) (data := data) (S := S) (aE := aE) (aF := aF) SW2.out (by rw [HX.out]; exact hn) (by have := HS.out; omega) (by have := HS.out; omega) K2.out K3.out K4.out (fun h => by rw [HX.out]; exact HD0.out (K1.out.1 h)) (by rw [HX.out]; exact HW4.out)
  have hH : w2.heap.size ≤ w3.heap.size := K2.out.size
  have HLP : Hid (LpE w2 w3.heap.size S d2 data aE aF Ws 0 w4) := ⟨data, .slice none 0 0, 0, [], HB.out, by simpa using S1.out, RS.1, RS.2.1, RS.2.2.1, World.ownsRow_nil _ _ _ _, RS.2.2.2⟩
  clear RS K1 K2 K3 K4 HW4
  generalize w3.heap.size = H at *
  go_loopw [7] (fun kv wx => ∃ k : Nat, k ≤ Ws.length ∧ kv = .int .i64 k ∧ LpE w2 H S d2 data aE aF Ws k wx) (fun kv _ => Ws.length - (intOf kv).toNat)
  case atStart => exact ⟨0, Nat.zero_le _, rfl, HLP.out⟩
  case round =>
    obtain ⟨k, hk, rfl, hlp⟩ := hrel
    have HL := hide hlp
    clear hlp HLP
    by_cases hlt : k < Ws.length
    · obtain ⟨L, hL⟩ : ∃ L, Ws[k]? = some L := ⟨_, List.getElem?_eq_getElem hlt⟩
      have hLl : L.length ≤ n := by have := S1.out.each L (List.mem_of_getElem? hL); rw [HX.out] at this; exact this
      obtain ⟨p', cap', hv, hg⟩ := own_at S2.out
      injection hv with e1 e2 e3
      subst e1
      obtain ⟨G, hG, hc⟩ := hg (by omega)
      obtain ⟨o, cc, g1, g2, g3⟩ := S3.out.2 k L hL
      have hcell := hc k _ g1
      subst hG
      have HCE : Hid (∀ wx, Below w2.heap.size w2 wx → wx.cell? ⟨G, k, none⟩ = some (.slice (some ⟨w.heap.size, o, none⟩) L.length cc)) := fun wx hb => (hb.cell (World.block_lt_of_cell? w2 _ hcell)).trans hcell
      have HRO : Hid (∀ wx, Below w2.heap.size w2 wx → ∀ i, i < L.length → wx.cell? ⟨w.heap.size, o + i, none⟩ = some (.int .u8 (L.getD i 0))) := fun wx hb i hi => HG2.out L hLl o g2 g3 (by omega) wx hb i hi
      have HLL := hide hL
      clear hg hc g1 g2 g3 hcell hL e2 e3
      go_wp2_with (first
        | (go_at_call 11; go_must (refine (every_line hH (by omega) HL.out HLL.out).mono ?_; rintro e w5 ⟨a, c5, rfl, hb5, hl5⟩; have HB5 := hide hb5; have HL5 := hide hl5; have BW5 : Hid (Below w2.heap.size w2 w5) := (by obtain ⟨_, _, _, _, _, _, _, _, _, _, h⟩ := hl5; exact h); have c5 := unhide HCE w5 BW5.out; clear hb5 hl5))
        | (go_at_call 12; go_must (refine (same_line a _ w.heap.size o cc L _ (by omega) (by exact HB5.out) (by exact HRO.out _ BW5.out)).mono ?_; rintro e w6 ⟨rfl, q, hw6⟩; rw [hw6]; clear hw6))
        | (go_at_call 13; go_must (refine (linesRead_any (H + 3) (k + 1) _ (by exact (HL5.out.draws q).count)).mono ?_; rintro e w' ⟨rfl, hw⟩; rw [hw]; clear hw w')))
      go_roundw
      case rel => exact ⟨k + 1, by omega, by go_num, HL5.out.draws q⟩
      case measure => simp [intOf]; omega
    · have hke : Ws.length ≤ k := by omega
      have hkk : k ≤ 1048576 := by omega
      have hnn := run_nil25
      have hnq : ∀ (w : World) (a : Option Addr) (n c : Nat), (binOp .neq 25 (.slice a n c) (.slice none 0 0)).run Tryd.prog w = .ok (.bool a.isSome) w := fun w a n c => by
        have h := Go.run_neq_slice_nil_any (P := Tryd.prog) w 25 5 a n c 0 0 Tryd.underlying25
        rw [h]; cases a <;> rfl
      have hq1 : ((k : Int) != (Ws.length : Int)) = false := by simp; omega
      have hq2 : ((k : Int) == (Ws.length : Int)) = true := by simp; omega
      go_upto_region 19 with (first
        | (go_at_call 11; go_must (refine (every_end hH hkk HL.out hke).mono ?_; rintro e w5 ⟨rfl, hl5⟩; have HL5 := hide hl5; have cn5 := hl5.count; clear hl5))
        | (go_at_call 13; go_must (refine (linesRead_any (H + 3) k _ (by exact cn5)).mono ?_; rintro e w' ⟨rfl, hw⟩; rw [hw]; clear hw w')))
      clear cn5 HL
      go_wp2_with (first
        | (go_at_call 11; go_must (refine (every_end hH hkk HL5.out hke).mono ?_; rintro e w6 ⟨rfl, hl6⟩; have HL6 := hide hl6; have cn6 := hl6.count; clear hl6))
        | (go_at_call 13; go_must (refine (linesRead_any (H + 3) k _ (by exact cn6)).mono ?_; rintro e w' ⟨rfl, hw⟩; rw [hw]; clear hw w')))
      go_ret
      refine ⟨rfl, BW2.out.trans (Below.mono ?_ BW2.out.size)⟩
      obtain ⟨_, _, _, _, _, _, _, _, _, _, h⟩ := HL6.out
      exact h
end Go.Proofs.Qxb6608589aDoor
