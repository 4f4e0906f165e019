import Derived.Test.Qxb6608618aFmtSteps
namespace Go.Proofs.Qxb6608618aFmt
open Go.RowKit Go.Joins Go.Kit Go.Extern.Stop Go.Stop Go.Extern
set_option linter.unusedVariables false
set_option linter.unusedSimpArgs false

theorem grow_big (p : ByteArray) (u h s n : Int) (m : ByteArray) (f : Int) (x y : ByteArray) (x1 x2 : Int) (w : World) (hb : 1048576 < p.size + m.size + x.size + y.size) :
    Calls Tryf.prog 3 #[.agg (Q7 p u h s n m f), .string x, .int .u64 x1, .int .u64 x2, .string y] w fun e w' => e = .returned (.bool true) ∧ Below w.heap.size w w' := by
  go_enter Tryf.func3, Tryf.ntmps3
  go_wp2_with (go_at_call 5; go_must (refine (bytes5_no p u h s n m f x y x1 x2 _ hb).mono ?_; rintro e w' ⟨rfl, hw⟩; rw [hw]; clear hw w'))
  go_ret
  exact ⟨rfl, ((Below.refl _ w).alloc (Nat.le_refl _) _).alloc (by simp) _⟩

theorem grow_gt (p : ByteArray) (u h s n : Int) (m : ByteArray) (f : Int) (x y : ByteArray) (x1 x2 : Int) (w : World) (hb : p.size + m.size + x.size + y.size ≤ 1048576) (hgt : x2 < x1) :
    Calls Tryf.prog 3 #[.agg (Q7 p u h s n m f), .string x, .int .u64 x1, .int .u64 x2, .string y] w fun e w' => e = .returned (.bool true) ∧ Below w.heap.size w w' := by
  go_enter Tryf.func3, Tryf.ntmps3
  go_wp2_with (first
    | (go_at_call 5; go_must (refine (bytes5 p u h s n m f x y x1 x2 _ hb).mono ?_; rintro e w' ⟨rfl, hw⟩; rw [hw]; clear hw w'))
    | (go_at_call 6; go_must (refine (rb6 p u h s n m f _ (by omega)).mono ?_; rintro e w' ⟨rfl, hw⟩; rw [hw]; clear hw w')))
  go_ret
  exact ⟨rfl, (((Below.refl _ w).alloc (Nat.le_refl _) _).alloc (by simp) _).alloc (by simp; omega) _⟩

set_option maxHeartbeats 4000000 in
theorem grow_main (F : Interp) (p : ByteArray) (u h s n : Int) (m : ByteArray) (f : Int) (x v : ByteArray) (x1 x2 : Int) (w : World) (hb : p.size + m.size + x.size + v.size ≤ 1048576) (hle : x1 ≤ x2)
    (hw1 : (Lit.int .u64 x1).wf = true) (hw2 : (Lit.int .u64 x2).wf = true) (hF : F.told.answers w.tape) (hE : Errs w) :
    Calls Tryf.prog 3 #[.agg (Q7 p u h s n m f), .string x, .int .u64 x1, .int .u64 x2, .string v] w fun e w' => e = .returned (.bool true) ∧ Below w.heap.size w w' := by
  have hx : x.size ≤ 2097152 := by omega
  have hv : v.size ≤ 2097152 := by omega
  have HF := hide hF
  have HE := hide hE
  have HW1 := hide hw1
  have HW2 := hide hw2
  clear hF hE hw1 hw2
  go_enter Tryf.func3, Tryf.ntmps3
  go_upto_region 14 with (first
    | (go_at_call 5; go_must (refine (bytes5 p u h s n m f x v x1 x2 _ hb).mono ?_; rintro e w' ⟨rfl, hw⟩; rw [hw]; clear hw w'))
    | (go_at_call 6; go_must (refine (rb6 p u h s n m f _ (by omega)).mono ?_; rintro e w' ⟨rfl, hw⟩; rw [hw]; clear hw w'))
    | (go_at_call 7; go_must (refine (req7 p u h s n m f _).mono ?_; rintro e w' ⟨rfl, hw⟩; rw [hw]; clear hw w'))
    | (go_at_call 8; (have _g := G1; clear _g); go_must (refine (zz8 F (w1.heap.size + 1) p u h s n m f v x x2 _ (by exact new1 _ _ _) (by show F.told.answers w1.tape; rw [G1.out.bel.tape]; exact HF.out) hv hx HW2.out (by exact (HE.out.later G1.out.bel).later (below2 _ _ _))).mono ?_; rintro e w2 ⟨M2, hM2, rfl, ht⟩; have G2 := hide (st2 ht); have HM2 := hide hM2; clear ht hM2; clear a0 a1 a2 a3 a4 a5 a6))
    | (go_at_call 8; go_must (refine (zz8 F (w.heap.size + 1 + 1 + 1 + 1 + 1 + 1 + 1) p u h s n m f v x x1 _ (by have := new1 ((((((w.alloc (.cells (Q7 p u h s n m f) 25)).alloc (.cells (Q7 p u h s n m f) 25)).alloc (.cells (Q7 p u h s n m f) 25)).alloc (.cells (Q7 p u h s n m f) 25)).alloc (.cells (Q7 p u h s n m f) 30)).alloc (.cells (Q7 p u h s n m f) 30)) (.cells (Q7 p u h s n m f) 25) (.cells (Q7 p u h s n m f) 30); simpa using this) (by exact HF.out) hv hx HW1.out (by exact HE.out.later (below8 w _))).mono ?_; rintro e w1 ⟨M1, hM1, rfl, ht⟩; have G1 := hide (st1 ht); have HM1 := hide hM1; clear ht hM1; have hq := G1.out.hq; have a0 : w1.cell? ⟨w.heap.size, 0, none⟩ = some (.string p) := rowc hq 0 rfl; have a1 : w1.cell? ⟨w.heap.size, 1, none⟩ = some (.int .u32 u) := rowc hq 1 rfl; have a2 : w1.cell? ⟨w.heap.size, 2, none⟩ = some (.int .i64 h) := rowc hq 2 rfl; have a3 : w1.cell? ⟨w.heap.size, 3, none⟩ = some (.int .u64 s) := rowc hq 3 rfl; have a4 : w1.cell? ⟨w.heap.size, 4, none⟩ = some (.int .u64 n) := rowc hq 4 rfl; have a5 : w1.cell? ⟨w.heap.size, 5, none⟩ = some (.string m) := rowc hq 5 rfl; have a6 : w1.cell? ⟨w.heap.size, 6, none⟩ = some (.int .u8 f) := rowc hq 6 rfl; clear hq)))
  have s1 := G1.out.sz
  have s2 := G2.out.sz
  have HB2 : Hid (Below w.heap.size w w2) := G2.out.bel _ _ G1.out.bel (by omega)
  have hin : w2.cell? ⟨w.heap.size + 1 + 1 + 1 + 1 + 1, 0, none⟩ = some (.string p) ∧ w2.cell? ⟨w.heap.size + 1 + 1 + 1 + 1 + 1, 1, none⟩ = some (.int .u32 u) ∧ w2.cell? ⟨w.heap.size + 1 + 1 + 1 + 1 + 1, 2, none⟩ = some (.int .i64 h) ∧ w2.cell? ⟨w.heap.size + 1 + 1 + 1 + 1 + 1, 3, none⟩ = some (.int .u64 s) ∧ w2.cell? ⟨w.heap.size + 1 + 1 + 1 + 1 + 1, 4, none⟩ = some (.int .u64 n) ∧ w2.cell? ⟨w.heap.size + 1 + 1 + 1 + 1 + 1, 5, none⟩ = some (.string m) ∧ w2.cell? ⟨w.heap.size + 1 + 1 + 1 + 1 + 1, 6, none⟩ = some (.int .u8 f) ∧ w2.cell? ⟨w.heap.size + 1 + 1 + 1 + 1 + 1 + 1 + 1, 0, none⟩ = some (.string p) ∧ w2.cell? ⟨w.heap.size + 1 + 1 + 1 + 1 + 1 + 1 + 1, 1, none⟩ = some (.int .u32 u) ∧ w2.cell? ⟨w.heap.size + 1 + 1 + 1 + 1 + 1 + 1 + 1, 2, none⟩ = some (.int .i64 h) ∧ w2.cell? ⟨w.heap.size + 1 + 1 + 1 + 1 + 1 + 1 + 1, 3, none⟩ = some (.int .u64 s) ∧ w2.cell? ⟨w.heap.size + 1 + 1 + 1 + 1 + 1 + 1 + 1, 4, none⟩ = some (.int .u64 (((ans v x1).map Int.ofNat).getD n)) ∧ w2.cell? ⟨w.heap.size + 1 + 1 + 1 + 1 + 1 + 1 + 1, 5, none⟩ = some (.string m) ∧ w2.cell? ⟨w.heap.size + 1 + 1 + 1 + 1 + 1 + 1 + 1, 6, none⟩ = some (.int .u8 f) ∧ w2.cell? ⟨w1.heap.size + 1, 0, none⟩ = some (.string p) ∧ w2.cell? ⟨w1.heap.size + 1, 1, none⟩ = some (.int .u32 u) ∧ w2.cell? ⟨w1.heap.size + 1, 2, none⟩ = some (.int .i64 h) ∧ w2.cell? ⟨w1.heap.size + 1, 3, none⟩ = some (.int .u64 s) ∧ w2.cell? ⟨w1.heap.size + 1, 4, none⟩ = some (.int .u64 (((ans v x2).map Int.ofNat).getD n)) ∧ w2.cell? ⟨w1.heap.size + 1, 5, none⟩ = some (.string m) ∧ w2.cell? ⟨w1.heap.size + 1, 6, none⟩ = some (.int .u8 f) := by
    have h0 := G2.out.old _ _ G1.out.ho
    have h1 := G2.out.old _ _ G1.out.hr
    have h2 := G2.out.row
    exact ⟨rowc h0 0 rfl, rowc h0 1 rfl, rowc h0 2 rfl, rowc h0 3 rfl, rowc h0 4 rfl, rowc h0 5 rfl, rowc h0 6 rfl, rowc h1 0 rfl, rowc h1 1 rfl, rowc h1 2 rfl, rowc h1 3 rfl, rowc h1 4 rfl, rowc h1 5 rfl, rowc h1 6 rfl, rowc h2 0 rfl, rowc h2 1 rfl, rowc h2 2 rfl, rowc h2 3 rfl, rowc h2 4 rfl, rowc h2 5 rfl, rowc h2 6 rfl⟩
  clear G1 G2
  generalize w.heap.size + 1 + 1 + 1 + 1 + 1 + 1 + 1 = b1 at *
  generalize w.heap.size + 1 + 1 + 1 + 1 + 1 = b0 at *
  generalize w1.heap.size + 1 = b2 at *
  clear s1 s2
  have KB : Hid (∀ wx wy, Below wx.heap.size wx wy → (wx.cell? ⟨b0, 0, none⟩ = some (.string p) ∧ wx.cell? ⟨b0, 1, none⟩ = some (.int .u32 u) ∧ wx.cell? ⟨b0, 2, none⟩ = some (.int .i64 h) ∧ wx.cell? ⟨b0, 3, none⟩ = some (.int .u64 s) ∧ wx.cell? ⟨b0, 4, none⟩ = some (.int .u64 n) ∧ wx.cell? ⟨b0, 5, none⟩ = some (.string m) ∧ wx.cell? ⟨b0, 6, none⟩ = some (.int .u8 f) ∧ wx.cell? ⟨b1, 0, none⟩ = some (.string p) ∧ wx.cell? ⟨b1, 1, none⟩ = some (.int .u32 u) ∧ wx.cell? ⟨b1, 2, none⟩ = some (.int .i64 h) ∧ wx.cell? ⟨b1, 3, none⟩ = some (.int .u64 s) ∧ wx.cell? ⟨b1, 4, none⟩ = some (.int .u64 (((ans v x1).map Int.ofNat).getD n)) ∧ wx.cell? ⟨b1, 5, none⟩ = some (.string m) ∧ wx.cell? ⟨b1, 6, none⟩ = some (.int .u8 f) ∧ wx.cell? ⟨b2, 0, none⟩ = some (.string p) ∧ wx.cell? ⟨b2, 1, none⟩ = some (.int .u32 u) ∧ wx.cell? ⟨b2, 2, none⟩ = some (.int .i64 h) ∧ wx.cell? ⟨b2, 3, none⟩ = some (.int .u64 s) ∧ wx.cell? ⟨b2, 4, none⟩ = some (.int .u64 (((ans v x2).map Int.ofNat).getD n)) ∧ wx.cell? ⟨b2, 5, none⟩ = some (.string m) ∧ wx.cell? ⟨b2, 6, none⟩ = some (.int .u8 f)) → (wy.cell? ⟨b0, 0, none⟩ = some (.string p) ∧ wy.cell? ⟨b0, 1, none⟩ = some (.int .u32 u) ∧ wy.cell? ⟨b0, 2, none⟩ = some (.int .i64 h) ∧ wy.cell? ⟨b0, 3, none⟩ = some (.int .u64 s) ∧ wy.cell? ⟨b0, 4, none⟩ = some (.int .u64 n) ∧ wy.cell? ⟨b0, 5, none⟩ = some (.string m) ∧ wy.cell? ⟨b0, 6, none⟩ = some (.int .u8 f) ∧ wy.cell? ⟨b1, 0, none⟩ = some (.string p) ∧ wy.cell? ⟨b1, 1, none⟩ = some (.int .u32 u) ∧ wy.cell? ⟨b1, 2, none⟩ = some (.int .i64 h) ∧ wy.cell? ⟨b1, 3, none⟩ = some (.int .u64 s) ∧ wy.cell? ⟨b1, 4, none⟩ = some (.int .u64 (((ans v x1).map Int.ofNat).getD n)) ∧ wy.cell? ⟨b1, 5, none⟩ = some (.string m) ∧ wy.cell? ⟨b1, 6, none⟩ = some (.int .u8 f) ∧ wy.cell? ⟨b2, 0, none⟩ = some (.string p) ∧ wy.cell? ⟨b2, 1, none⟩ = some (.int .u32 u) ∧ wy.cell? ⟨b2, 2, none⟩ = some (.int .i64 h) ∧ wy.cell? ⟨b2, 3, none⟩ = some (.int .u64 s) ∧ wy.cell? ⟨b2, 4, none⟩ = some (.int .u64 (((ans v x2).map Int.ofNat).getD n)) ∧ wy.cell? ⟨b2, 5, none⟩ = some (.string m) ∧ wy.cell? ⟨b2, 6, none⟩ = some (.int .u8 f))) := fun wx wy hb h => ⟨cell_later hb h.1, cell_later hb h.2.1, cell_later hb h.2.2.1, cell_later hb h.2.2.2.1, cell_later hb h.2.2.2.2.1, cell_later hb h.2.2.2.2.2.1, cell_later hb h.2.2.2.2.2.2.1, cell_later hb h.2.2.2.2.2.2.2.1, cell_later hb h.2.2.2.2.2.2.2.2.1, cell_later hb h.2.2.2.2.2.2.2.2.2.1, cell_later hb h.2.2.2.2.2.2.2.2.2.2.1, cell_later hb h.2.2.2.2.2.2.2.2.2.2.2.1, cell_later hb h.2.2.2.2.2.2.2.2.2.2.2.2.1, cell_later hb h.2.2.2.2.2.2.2.2.2.2.2.2.2.1, cell_later hb h.2.2.2.2.2.2.2.2.2.2.2.2.2.2.1, cell_later hb h.2.2.2.2.2.2.2.2.2.2.2.2.2.2.2.1, cell_later hb h.2.2.2.2.2.2.2.2.2.2.2.2.2.2.2.2.1, cell_later hb h.2.2.2.2.2.2.2.2.2.2.2.2.2.2.2.2.2.1, cell_later hb h.2.2.2.2.2.2.2.2.2.2.2.2.2.2.2.2.2.2.1, cell_later hb h.2.2.2.2.2.2.2.2.2.2.2.2.2.2.2.2.2.2.2.1, cell_later hb h.2.2.2.2.2.2.2.2.2.2.2.2.2.2.2.2.2.2.2.2⟩
  go_region_held3 (fun wx => wx.cell? ⟨b0, 0, none⟩ = some (.string p) ∧ wx.cell? ⟨b0, 1, none⟩ = some (.int .u32 u) ∧ wx.cell? ⟨b0, 2, none⟩ = some (.int .i64 h) ∧ wx.cell? ⟨b0, 3, none⟩ = some (.int .u64 s) ∧ wx.cell? ⟨b0, 4, none⟩ = some (.int .u64 n) ∧ wx.cell? ⟨b0, 5, none⟩ = some (.string m) ∧ wx.cell? ⟨b0, 6, none⟩ = some (.int .u8 f) ∧ wx.cell? ⟨b1, 0, none⟩ = some (.string p) ∧ wx.cell? ⟨b1, 1, none⟩ = some (.int .u32 u) ∧ wx.cell? ⟨b1, 2, none⟩ = some (.int .i64 h) ∧ wx.cell? ⟨b1, 3, none⟩ = some (.int .u64 s) ∧ wx.cell? ⟨b1, 4, none⟩ = some (.int .u64 (((ans v x1).map Int.ofNat).getD n)) ∧ wx.cell? ⟨b1, 5, none⟩ = some (.string m) ∧ wx.cell? ⟨b1, 6, none⟩ = some (.int .u8 f) ∧ wx.cell? ⟨b2, 0, none⟩ = some (.string p) ∧ wx.cell? ⟨b2, 1, none⟩ = some (.int .u32 u) ∧ wx.cell? ⟨b2, 2, none⟩ = some (.int .i64 h) ∧ wx.cell? ⟨b2, 3, none⟩ = some (.int .u64 s) ∧ wx.cell? ⟨b2, 4, none⟩ = some (.int .u64 (((ans v x2).map Int.ofNat).getD n)) ∧ wx.cell? ⟨b2, 5, none⟩ = some (.string m) ∧ wx.cell? ⟨b2, 6, none⟩ = some (.int .u8 f)) (first | go_keep | (refine KB.out _ _ hb9 ?_; assumption))
    (first
      | (go_at_call 9; go_must (refine (read9 p u h s n m f v _ _ _ hv (by first | exact HM1.out | exact HM2.out)).mono ?_; rintro e w4 ⟨rfl, hb9⟩)))
  rename_i wa hba hheld
  have HB4 : Hid (Below w.heap.size w w4) := by
    have k2 := HB2.out.size
    have ka := hba.size
    have k2' : w2.drew.heap.size = w2.heap.size := rfl
    exact (HB2.out.drew.trans (hba.mono (by omega))).trans (hb9.mono (by omega))
  have c1 := hheld.2.2.2.2.2.2.2.2.2.2.2.1
  have c2 := hheld.2.2.2.2.2.2.2.2.2.2.2.2.2.2.2.2.2.2.1
  clear hheld hba hb9 HB2 KB wa hin
  cases ha : ans v x1 with
  | none =>
    have hM := HM1.out
    rw [ha] at hM
    have hM' : (M1.toList == []) = false := hM
    clear hM ha
    go_wp2
    go_ret
    exact ⟨rfl, HB4.out⟩
  | some d =>
    have hM := HM1.out
    have hN := HM2.out
    rw [ha] at hM c1
    rw [ans_mono ha hle] at hN c2
    have hM' : (M1.toList == []) = true := hM
    have hN' : (M2.toList == []) = true := hN
    clear hM hN ha
    have c1' : w4.cell? ⟨b1, 4, none⟩ = some (.int .u64 (d : Int)) := c1
    have c2' : w4.cell? ⟨b2, 4, none⟩ = some (.int .u64 (d : Int)) := c2
    clear c1 c2
    go_upto_region 17 with fail
    go_quiet (fail)
    go_wp2
    go_ret
    exact ⟨rfl, by first | exact HB4.out | exact HB4.out.drew | exact HB4.out.trans ⟨rfl, rfl, rfl, Nat.le_refl _, fun _ _ => rfl⟩⟩
end Go.Proofs.Qxb6608618aFmt
