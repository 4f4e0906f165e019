import Derived.Test.Qxb6608618aPlain
import Derived.Deep.DeepCutAuto
import Derived.Handy
namespace Go.Proofs.Qxb6608618a
open Go.RowKit Go.Joins
set_option linter.unusedVariables false
set_option linter.unusedSimpArgs false

theorem cut_big (p : ByteArray) (u h s n : Int) (m : ByteArray) (f : Int) (x y : ByteArray) (w : World) (hb : 1048576 < p.size + m.size + x.size + y.size) :
    Calls Try.prog 3 #[.agg (Q7 p u h s n m f), .string x, .string y] w fun e w' => e = .returned (.bool true) ∧ Below w.heap.size w w' := by
  go_enter Try.func3, Try.ntmps3
  go_wp2_with (go_at_call 9; go_must (refine (bytes9_no p u h s n m f x y _ hb).mono ?_; rintro e w' ⟨rfl, hw⟩; rw [hw]; clear hw w'))
  go_ret
  exact ⟨rfl, ((Below.refl _ w).alloc (Nat.le_refl _) _).alloc (by simp) _⟩

/-- four requests lie in memory -/
def S4 (b0 b1 b2 b3 : Nat) (c0 c1 c2 c3 : Array Value) (wx : World) : Prop :=
  wx.heap[b0]? = some (.cells c0 30 (0, 0)) ∧ wx.heap[b1]? = some (.cells c1 30 (0, 0)) ∧ wx.heap[b2]? = some (.cells c2 30 (0, 0)) ∧ wx.heap[b3]? = some (.cells c3 30 (0, 0))

theorem rowc {wx : World} {b : Nat} {cs : Array Value} {t : TypeId} (h : wx.heap[b]? = some (.cells cs t (0, 0))) (i : Nat) {v : Value} (hv : cs[i]? = some v) : wx.cell? ⟨b, i, none⟩ = some v := by
  rw [cell_of_row wx b i cs t (0, 0) h, hv]

theorem S4.below {b0 b1 b2 b3 : Nat} {c0 c1 c2 c3 : Array Value} {w w' : World} (h : S4 b0 b1 b2 b3 c0 c1 c2 c3 w) (hb : Below w.heap.size w w') : S4 b0 b1 b2 b3 c0 c1 c2 c3 w' := by
  obtain ⟨h0, h1, h2, h3⟩ := h
  exact ⟨(hb.block _ (Array.getElem?_eq_some_iff.1 h0).1).trans h0, (hb.block _ (Array.getElem?_eq_some_iff.1 h1).1).trans h1, (hb.block _ (Array.getElem?_eq_some_iff.1 h2).1).trans h2, (hb.block _ (Array.getElem?_eq_some_iff.1 h3).1).trans h3⟩
theorem S4.drew {b0 b1 b2 b3 : Nat} {c0 c1 c2 c3 : Array Value} {w : World} (h : S4 b0 b1 b2 b3 c0 c1 c2 c3 w) : S4 b0 b1 b2 b3 c0 c1 c2 c3 w.drew := h
theorem Turned.old {b k : Nat} {cs : Array Value} {w w' : World} {o : Obj} (h : Turned b cs w w') (hk : k ≠ b) (hr : w.heap[k]? = some o) : w'.heap[k]? = some o := (h.block k hk).trans hr
theorem Turned.below {b B : Nat} {cs : Array Value} {W w w' : World} (h : Turned b cs w w') (hb : Below B W w) (hB : B ≤ b) : Below B W w' :=
  hb.trans ⟨h.os, h.tape, h.output, by rw [h.size]; exact Nat.le_refl _, fun k hk => h.block k (by omega)⟩

theorem heap_new (w : World) (o : Obj) : (w.alloc o).heap[w.heap.size]? = some o := by
  show (w.heap.push o)[w.heap.size]? = some o
  simp
theorem heap_old {w : World} {k : Nat} {o ob : Obj} (h : w.heap[k]? = some o) : (w.alloc ob).heap[k]? = some o := by
  exact (Below.heap_alloc w ob k (Array.getElem?_eq_some_iff.1 h).1).trans h

structure R1 (w w1 : World) (q cs : Array Value) : Prop where
  hq : w1.heap[w.heap.size]? = some (.cells q 25 (0, 0))
  ho : w1.heap[w.heap.size + 1 + 1 + 1 + 1 + 1]? = some (.cells q 30 (0, 0))
  hr : w1.heap[w.heap.size + 1 + 1 + 1 + 1 + 1 + 1 + 1]? = some (.cells cs 30 (0, 0))
  sz : w1.heap.size = w.heap.size + 8
  bel : Below w.heap.size w w1

theorem st1 {w w1 : World} {q cs : Array Value} (ht : Turned (w.heap.size + 1 + 1 + 1 + 1 + 1 + 1 + 1) cs ((((((((w.alloc (.cells q 25)).alloc (.cells q 25)).alloc (.cells q 25)).alloc (.cells q 25)).alloc (.cells q 30)).alloc (.cells q 30)).alloc (.cells q 25)).alloc (.cells q 30)) w1) : R1 w w1 q cs := by
  have a0 := heap_new w (.cells q 25)
  refine ⟨ht.old (by omega) (heap_old (heap_old (heap_old (heap_old (heap_old (heap_old (heap_old a0))))))), ht.old (by omega) (heap_old (heap_old ?_)), ht.row, by rw [ht.size]; simp, ?_⟩
  · have := heap_new (((((w.alloc (.cells q 25)).alloc (.cells q 25)).alloc (.cells q 25)).alloc (.cells q 25)).alloc (.cells q 30)) (.cells q 30)
    simpa using this
  · refine ht.below ?_ (by omega)
    exact ((((((((Below.refl _ w).alloc (by simp) _).alloc (by simp; try omega) _).alloc (by simp; try omega) _).alloc (by simp; try omega) _).alloc (by simp; try omega) _).alloc (by simp; try omega) _).alloc (by simp; try omega) _).alloc (by simp; try omega) _

structure R2 (w1 w2 : World) (cs : Array Value) : Prop where
  old : ∀ (k : Nat) (o : Obj), w1.heap[k]? = some o → w2.heap[k]? = some o
  row : w2.heap[w1.heap.size + 1]? = some (.cells cs 30 (0, 0))
  sz : w2.heap.size = w1.heap.size + 2
  bel : ∀ (B : Nat) (W : World), Below B W w1 → B ≤ w1.heap.size → Below B W w2

theorem st2 {w1 w2 : World} {o1 o2 : Obj} {cs : Array Value} (ht : Turned (w1.heap.size + 1) cs ((w1.alloc o1).alloc o2) w2) : R2 w1 w2 cs := by
  refine ⟨fun k o h => ht.old ?_ (heap_old (heap_old h)), ht.row, by rw [ht.size]; simp, fun B W hb hB => ht.below ((hb.alloc hB _).alloc (by simp; omega) _) (by omega)⟩
  have := (Array.getElem?_eq_some_iff.1 h).1
  omega
theorem new1 (w : World) (o1 o2 : Obj) : ((w.alloc o1).alloc o2).heap[w.heap.size + 1]? = some o2 := by
  have := heap_new (w.alloc o1) o2
  simpa using this

set_option maxHeartbeats 4000000 in
theorem cut_main (p : ByteArray) (u h s n : Int) (m : ByteArray) (f : Int) (x y : ByteArray) (w : World) (hb : p.size + m.size + x.size + y.size ≤ 1048576) :
    Calls Try.prog 3 #[.agg (Q7 p u h s n m f), .string x, .string y] w fun e w' => e = .returned (.bool true) ∧ Below w.heap.size w w' := by
  have hx : x.size ≤ 1048576 := by omega
  have hy : y.size ≤ 1048576 := by omega
  obtain ⟨v, hv⟩ : ∃ v, v = x ++ y := ⟨_, rfl⟩
  have HV := hide hv
  have hvs : v.size ≤ 1048576 := by rw [hv, ByteArray.size_append]; omega
  clear hv
  go_enter Try.func3, Try.ntmps3
  go_upto_region 15 with (first
    | (go_at_call 9; go_must (refine (bytes9 p u h s n m f x y _ hb).mono ?_; rintro e w' ⟨rfl, hw⟩; rw [hw]; clear hw w'))
    | (go_at_call 10; go_must (refine (rb10 p u h s n m f _ (by omega)).mono ?_; rintro e w' ⟨rfl, hw⟩; rw [hw]; clear hw w'))
    | (go_at_call 11; go_must (refine (req11 p u h s n m f _).mono ?_; rintro e w' ⟨rfl, hw⟩; rw [hw]; clear hw w'))
    | (go_at_call 12; (have _g := G2; clear _g); go_must (refine (read12 (w2.heap.size + 1) p u h s n m f y _ (by exact new1 _ _ _)).mono ?_; rintro e w3 ⟨rfl, ht⟩; have G3 := hide (st2 ht); clear ht; clear a0 a1 a2 a3 a4 a5 a6))
    | (go_at_call 12; (have _g := G1; clear _g); go_must (refine (read12 (w1.heap.size + 1) p u h s n m f x _ (by exact new1 _ _ _)).mono ?_; rintro e w2 ⟨rfl, ht⟩; have G2 := hide (st2 ht); clear ht; have hq := G2.out.old _ _ G1.out.hq; clear a0 a1 a2 a3 a4 a5 a6; have a0 : w2.cell? ⟨w.heap.size, 0, none⟩ = some (.string p) := rowc hq 0 rfl; have a1 : w2.cell? ⟨w.heap.size, 1, none⟩ = some (.int .u32 u) := rowc hq 1 rfl; have a2 : w2.cell? ⟨w.heap.size, 2, none⟩ = some (.int .i64 h) := rowc hq 2 rfl; have a3 : w2.cell? ⟨w.heap.size, 3, none⟩ = some (.int .u64 s) := rowc hq 3 rfl; have a4 : w2.cell? ⟨w.heap.size, 4, none⟩ = some (.int .u64 n) := rowc hq 4 rfl; have a5 : w2.cell? ⟨w.heap.size, 5, none⟩ = some (.string m) := rowc hq 5 rfl; have a6 : w2.cell? ⟨w.heap.size, 6, none⟩ = some (.int .u8 f) := rowc hq 6 rfl; clear hq))
    | (go_at_call 12; go_must (rw [← HV.out]; refine (read12 (w.heap.size + 1 + 1 + 1 + 1 + 1 + 1 + 1) p u h s n m f v _ (by have := new1 ((((((w.alloc (.cells (Q7 p u h s n m f) 25)).alloc (.cells (Q7 p u h s n m f) 25)).alloc (.cells (Q7 p u h s n m f) 25)).alloc (.cells (Q7 p u h s n m f) 25)).alloc (.cells (Q7 p u h s n m f) 30)).alloc (.cells (Q7 p u h s n m f) 30)) (.cells (Q7 p u h s n m f) 25) (.cells (Q7 p u h s n m f) 30); simpa using this)).mono ?_; rintro e w1 ⟨rfl, ht⟩; have G1 := hide (st1 ht); clear ht; have hq := G1.out.hq; have a0 : w1.cell? ⟨w.heap.size, 0, none⟩ = some (.string p) := rowc hq 0 rfl; have a1 : w1.cell? ⟨w.heap.size, 1, none⟩ = some (.int .u32 u) := rowc hq 1 rfl; have a2 : w1.cell? ⟨w.heap.size, 2, none⟩ = some (.int .i64 h) := rowc hq 2 rfl; have a3 : w1.cell? ⟨w.heap.size, 3, none⟩ = some (.int .u64 s) := rowc hq 3 rfl; have a4 : w1.cell? ⟨w.heap.size, 4, none⟩ = some (.int .u64 n) := rowc hq 4 rfl; have a5 : w1.cell? ⟨w.heap.size, 5, none⟩ = some (.string m) := rowc hq 5 rfl; have a6 : w1.cell? ⟨w.heap.size, 6, none⟩ = some (.int .u8 f) := rowc hq 6 rfl; clear hq)))
  have s1 := G1.out.sz
  have s2 := G2.out.sz
  have s3 := G3.out.sz
  have HB3 : Hid (Below w.heap.size w w3) := G3.out.bel _ _ (G2.out.bel _ _ G1.out.bel (by omega)) (by omega)
  have HS : Hid (S4 (w.heap.size + 1 + 1 + 1 + 1 + 1) (w.heap.size + 1 + 1 + 1 + 1 + 1 + 1 + 1) (w1.heap.size + 1) (w2.heap.size + 1) (Q7 p u h s n m f) (Q7 p u h s n (nameOf m v) f) (Q7 p u h s n (nameOf m x) f) (Q7 p u h s n (nameOf m y) f) w3) := ⟨G3.out.old _ _ (G2.out.old _ _ G1.out.ho), G3.out.old _ _ (G2.out.old _ _ G1.out.hr), G3.out.old _ _ G2.out.row, G3.out.row⟩
  clear G1 G2 G3
  generalize w.heap.size + 1 + 1 + 1 + 1 + 1 + 1 + 1 = b1 at *
  generalize w.heap.size + 1 + 1 + 1 + 1 + 1 = b0 at *
  generalize w1.heap.size + 1 = b2 at *
  generalize w2.heap.size + 1 = b3 at *
  clear s1 s2 s3
  have hin : w3.cell? ⟨b0, 0, none⟩ = some (.string p) ∧ w3.cell? ⟨b0, 1, none⟩ = some (.int .u32 u) ∧ w3.cell? ⟨b0, 2, none⟩ = some (.int .i64 h) ∧ w3.cell? ⟨b0, 3, none⟩ = some (.int .u64 s) ∧ w3.cell? ⟨b0, 4, none⟩ = some (.int .u64 n) ∧ w3.cell? ⟨b0, 5, none⟩ = some (.string m) ∧ w3.cell? ⟨b0, 6, none⟩ = some (.int .u8 f) ∧ w3.cell? ⟨b1, 0, none⟩ = some (.string p) ∧ w3.cell? ⟨b1, 1, none⟩ = some (.int .u32 u) ∧ w3.cell? ⟨b1, 2, none⟩ = some (.int .i64 h) ∧ w3.cell? ⟨b1, 3, none⟩ = some (.int .u64 s) ∧ w3.cell? ⟨b1, 4, none⟩ = some (.int .u64 n) ∧ w3.cell? ⟨b1, 5, none⟩ = some (.string (nameOf m v)) ∧ w3.cell? ⟨b1, 6, none⟩ = some (.int .u8 f) ∧ w3.cell? ⟨b2, 0, none⟩ = some (.string p) ∧ w3.cell? ⟨b2, 1, none⟩ = some (.int .u32 u) ∧ w3.cell? ⟨b2, 2, none⟩ = some (.int .i64 h) ∧ w3.cell? ⟨b2, 3, none⟩ = some (.int .u64 s) ∧ w3.cell? ⟨b2, 4, none⟩ = some (.int .u64 n) ∧ w3.cell? ⟨b2, 5, none⟩ = some (.string (nameOf m x)) ∧ w3.cell? ⟨b2, 6, none⟩ = some (.int .u8 f) ∧ w3.cell? ⟨b3, 0, none⟩ = some (.string p) ∧ w3.cell? ⟨b3, 1, none⟩ = some (.int .u32 u) ∧ w3.cell? ⟨b3, 2, none⟩ = some (.int .i64 h) ∧ w3.cell? ⟨b3, 3, none⟩ = some (.int .u64 s) ∧ w3.cell? ⟨b3, 4, none⟩ = some (.int .u64 n) ∧ w3.cell? ⟨b3, 5, none⟩ = some (.string (nameOf m y)) ∧ w3.cell? ⟨b3, 6, none⟩ = some (.int .u8 f) := by
    obtain ⟨h0, h1, h2, h3⟩ := HS.out
    exact ⟨rowc h0 0 rfl, rowc h0 1 rfl, rowc h0 2 rfl, rowc h0 3 rfl, rowc h0 4 rfl, rowc h0 5 rfl, rowc h0 6 rfl, rowc h1 0 rfl, rowc h1 1 rfl, rowc h1 2 rfl, rowc h1 3 rfl, rowc h1 4 rfl, rowc h1 5 rfl, rowc h1 6 rfl, rowc h2 0 rfl, rowc h2 1 rfl, rowc h2 2 rfl, rowc h2 3 rfl, rowc h2 4 rfl, rowc h2 5 rfl, rowc h2 6 rfl, rowc h3 0 rfl, rowc h3 1 rfl, rowc h3 2 rfl, rowc h3 3 rfl, rowc h3 4 rfl, rowc h3 5 rfl, rowc h3 6 rfl⟩
  have KB : Hid (∀ wx wy, Below wx.heap.size wx wy → (wx.cell? ⟨b0, 0, none⟩ = some (.string p) ∧ wx.cell? ⟨b0, 1, none⟩ = some (.int .u32 u) ∧ wx.cell? ⟨b0, 2, none⟩ = some (.int .i64 h) ∧ wx.cell? ⟨b0, 3, none⟩ = some (.int .u64 s) ∧ wx.cell? ⟨b0, 4, none⟩ = some (.int .u64 n) ∧ wx.cell? ⟨b0, 5, none⟩ = some (.string m) ∧ wx.cell? ⟨b0, 6, none⟩ = some (.int .u8 f) ∧ wx.cell? ⟨b1, 0, none⟩ = some (.string p) ∧ wx.cell? ⟨b1, 1, none⟩ = some (.int .u32 u) ∧ wx.cell? ⟨b1, 2, none⟩ = some (.int .i64 h) ∧ wx.cell? ⟨b1, 3, none⟩ = some (.int .u64 s) ∧ wx.cell? ⟨b1, 4, none⟩ = some (.int .u64 n) ∧ wx.cell? ⟨b1, 5, none⟩ = some (.string (nameOf m v)) ∧ wx.cell? ⟨b1, 6, none⟩ = some (.int .u8 f) ∧ wx.cell? ⟨b2, 0, none⟩ = some (.string p) ∧ wx.cell? ⟨b2, 1, none⟩ = some (.int .u32 u) ∧ wx.cell? ⟨b2, 2, none⟩ = some (.int .i64 h) ∧ wx.cell? ⟨b2, 3, none⟩ = some (.int .u64 s) ∧ wx.cell? ⟨b2, 4, none⟩ = some (.int .u64 n) ∧ wx.cell? ⟨b2, 5, none⟩ = some (.string (nameOf m x)) ∧ wx.cell? ⟨b2, 6, none⟩ = some (.int .u8 f) ∧ wx.cell? ⟨b3, 0, none⟩ = some (.string p) ∧ wx.cell? ⟨b3, 1, none⟩ = some (.int .u32 u) ∧ wx.cell? ⟨b3, 2, none⟩ = some (.int .i64 h) ∧ wx.cell? ⟨b3, 3, none⟩ = some (.int .u64 s) ∧ wx.cell? ⟨b3, 4, none⟩ = some (.int .u64 n) ∧ wx.cell? ⟨b3, 5, none⟩ = some (.string (nameOf m y)) ∧ wx.cell? ⟨b3, 6, none⟩ = some (.int .u8 f)) → (wy.cell? ⟨b0, 0, none⟩ = some (.string p) ∧ wy.cell? ⟨b0, 1, none⟩ = some (.int .u32 u) ∧ wy.cell? ⟨b0, 2, none⟩ = some (.int .i64 h) ∧ wy.cell? ⟨b0, 3, none⟩ = some (.int .u64 s) ∧ wy.cell? ⟨b0, 4, none⟩ = some (.int .u64 n) ∧ wy.cell? ⟨b0, 5, none⟩ = some (.string m) ∧ wy.cell? ⟨b0, 6, none⟩ = some (.int .u8 f) ∧ wy.cell? ⟨b1, 0, none⟩ = some (.string p) ∧ wy.cell? ⟨b1, 1, none⟩ = some (.int .u32 u) ∧ wy.cell? ⟨b1, 2, none⟩ = some (.int .i64 h) ∧ wy.cell? ⟨b1, 3, none⟩ = some (.int .u64 s) ∧ wy.cell? ⟨b1, 4, none⟩ = some (.int .u64 n) ∧ wy.cell? ⟨b1, 5, none⟩ = some (.string (nameOf m v)) ∧ wy.cell? ⟨b1, 6, none⟩ = some (.int .u8 f) ∧ wy.cell? ⟨b2, 0, none⟩ = some (.string p) ∧ wy.cell? ⟨b2, 1, none⟩ = some (.int .u32 u) ∧ wy.cell? ⟨b2, 2, none⟩ = some (.int .i64 h) ∧ wy.cell? ⟨b2, 3, none⟩ = some (.int .u64 s) ∧ wy.cell? ⟨b2, 4, none⟩ = some (.int .u64 n) ∧ wy.cell? ⟨b2, 5, none⟩ = some (.string (nameOf m x)) ∧ wy.cell? ⟨b2, 6, none⟩ = some (.int .u8 f) ∧ wy.cell? ⟨b3, 0, none⟩ = some (.string p) ∧ wy.cell? ⟨b3, 1, none⟩ = some (.int .u32 u) ∧ wy.cell? ⟨b3, 2, none⟩ = some (.int .i64 h) ∧ wy.cell? ⟨b3, 3, none⟩ = some (.int .u64 s) ∧ wy.cell? ⟨b3, 4, none⟩ = some (.int .u64 n) ∧ wy.cell? ⟨b3, 5, none⟩ = some (.string (nameOf m y)) ∧ wy.cell? ⟨b3, 6, none⟩ = some (.int .u8 f))) := fun wx wy hb h => ⟨cell_later hb h.1, cell_later hb h.2.1, cell_later hb h.2.2.1, cell_later hb h.2.2.2.1, cell_later hb h.2.2.2.2.1, cell_later hb h.2.2.2.2.2.1, cell_later hb h.2.2.2.2.2.2.1, cell_later hb h.2.2.2.2.2.2.2.1, cell_later hb h.2.2.2.2.2.2.2.2.1, cell_later hb h.2.2.2.2.2.2.2.2.2.1, cell_later hb h.2.2.2.2.2.2.2.2.2.2.1, cell_later hb h.2.2.2.2.2.2.2.2.2.2.2.1, cell_later hb h.2.2.2.2.2.2.2.2.2.2.2.2.1, cell_later hb h.2.2.2.2.2.2.2.2.2.2.2.2.2.1, cell_later hb h.2.2.2.2.2.2.2.2.2.2.2.2.2.2.1, cell_later hb h.2.2.2.2.2.2.2.2.2.2.2.2.2.2.2.1, cell_later hb h.2.2.2.2.2.2.2.2.2.2.2.2.2.2.2.2.1, cell_later hb h.2.2.2.2.2.2.2.2.2.2.2.2.2.2.2.2.2.1, cell_later hb h.2.2.2.2.2.2.2.2.2.2.2.2.2.2.2.2.2.2.1, cell_later hb h.2.2.2.2.2.2.2.2.2.2.2.2.2.2.2.2.2.2.2.1, cell_later hb h.2.2.2.2.2.2.2.2.2.2.2.2.2.2.2.2.2.2.2.2.1, cell_later hb h.2.2.2.2.2.2.2.2.2.2.2.2.2.2.2.2.2.2.2.2.2.1, cell_later hb h.2.2.2.2.2.2.2.2.2.2.2.2.2.2.2.2.2.2.2.2.2.2.1, cell_later hb h.2.2.2.2.2.2.2.2.2.2.2.2.2.2.2.2.2.2.2.2.2.2.2.1, cell_later hb h.2.2.2.2.2.2.2.2.2.2.2.2.2.2.2.2.2.2.2.2.2.2.2.2.1, cell_later hb h.2.2.2.2.2.2.2.2.2.2.2.2.2.2.2.2.2.2.2.2.2.2.2.2.2.1, cell_later hb h.2.2.2.2.2.2.2.2.2.2.2.2.2.2.2.2.2.2.2.2.2.2.2.2.2.2.1, cell_later hb h.2.2.2.2.2.2.2.2.2.2.2.2.2.2.2.2.2.2.2.2.2.2.2.2.2.2.2⟩
  clear HS
  go_region_held3 (fun wx => wx.cell? ⟨b0, 0, none⟩ = some (.string p) ∧ wx.cell? ⟨b0, 1, none⟩ = some (.int .u32 u) ∧ wx.cell? ⟨b0, 2, none⟩ = some (.int .i64 h) ∧ wx.cell? ⟨b0, 3, none⟩ = some (.int .u64 s) ∧ wx.cell? ⟨b0, 4, none⟩ = some (.int .u64 n) ∧ wx.cell? ⟨b0, 5, none⟩ = some (.string m) ∧ wx.cell? ⟨b0, 6, none⟩ = some (.int .u8 f) ∧ wx.cell? ⟨b1, 0, none⟩ = some (.string p) ∧ wx.cell? ⟨b1, 1, none⟩ = some (.int .u32 u) ∧ wx.cell? ⟨b1, 2, none⟩ = some (.int .i64 h) ∧ wx.cell? ⟨b1, 3, none⟩ = some (.int .u64 s) ∧ wx.cell? ⟨b1, 4, none⟩ = some (.int .u64 n) ∧ wx.cell? ⟨b1, 5, none⟩ = some (.string (nameOf m v)) ∧ wx.cell? ⟨b1, 6, none⟩ = some (.int .u8 f) ∧ wx.cell? ⟨b2, 0, none⟩ = some (.string p) ∧ wx.cell? ⟨b2, 1, none⟩ = some (.int .u32 u) ∧ wx.cell? ⟨b2, 2, none⟩ = some (.int .i64 h) ∧ wx.cell? ⟨b2, 3, none⟩ = some (.int .u64 s) ∧ wx.cell? ⟨b2, 4, none⟩ = some (.int .u64 n) ∧ wx.cell? ⟨b2, 5, none⟩ = some (.string (nameOf m x)) ∧ wx.cell? ⟨b2, 6, none⟩ = some (.int .u8 f) ∧ wx.cell? ⟨b3, 0, none⟩ = some (.string p) ∧ wx.cell? ⟨b3, 1, none⟩ = some (.int .u32 u) ∧ wx.cell? ⟨b3, 2, none⟩ = some (.int .i64 h) ∧ wx.cell? ⟨b3, 3, none⟩ = some (.int .u64 s) ∧ wx.cell? ⟨b3, 4, none⟩ = some (.int .u64 n) ∧ wx.cell? ⟨b3, 5, none⟩ = some (.string (nameOf m y)) ∧ wx.cell? ⟨b3, 6, none⟩ = some (.int .u8 f)) (first | go_keep | (refine KB.out _ _ hb13 ?_; assumption))
    (first
      | (go_at_call 13; go_must (refine (sub13 p u h s n m f _ _ (by assumption)).mono ?_; rintro e w4 ⟨rfl, hb13⟩)))
  rename_i wa hba wb hbb hheld
  have HB4 : Hid (Below w.heap.size w w4) := by
    have k3 := HB3.out.size
    have ka := hba.size
    have kb := hbb.size
    have k3' : w3.drew.heap.size = w3.heap.size := rfl
    exact ((HB3.out.drew.trans (hba.mono (by omega))).trans (hbb.mono (by omega))).trans (hb13.mono (by omega))
  clear hheld hba hbb hb13 HB3 KB wa wb
  clear hin
  have p1 := pos_bounds x hx
  have p2 := pos_bounds y hy
  have hnv := nul_append x y
  rw [← HV.out] at hnv
  have htv := nil_append x y
  rw [← HV.out] at htv
  by_cases hnx : 0 ≤ nul x
  · rw [if_pos hnx] at hnv
    have e1 : (posOf v == posOf x) = true := by unfold posOf; rw [hnv]; simp
    have e2 := msg_nul (x := v) (by omega)
    clear hnv htv
    go_wp2_with (first
      | (go_at_call 14; go_must (refine (first14 _ _ (by assumption)).mono ?_; rintro e w' ⟨rfl, hw⟩; rw [hw]; clear hw w')))
    go_ret
    exact ⟨rfl, HB4.out⟩
  rw [if_neg hnx] at hnv
  by_cases hny : 0 ≤ nul y
  · rw [if_pos hny] at hnv
    have e1 : (posOf v == (x.size : Int) + posOf y) = true := by
      unfold posOf; rw [hnv, if_neg (by omega), if_neg (by omega)]; simp
    have e2 := msg_nul (x := v) (by omega)
    clear hnv htv
    go_wp2_with (first
      | (go_at_call 14; go_must (refine (first14 _ _ (by assumption)).mono ?_; rintro e w' ⟨rfl, hw⟩; rw [hw]; clear hw w')))
    go_ret
    exact ⟨rfl, HB4.out⟩
  rw [if_neg hny] at hnv
  have m1 := msg_nil (x := v) (by omega)
  have m2 := msg_nil (x := x) (by omega)
  have m3 := msg_nil (x := y) (by omega)
  rw [htv] at m1
  clear hnv
  cases hex : (x.toList == []) <;> cases hey : (y.toList == [])
  all_goals
    rw [hex, hey] at m1 htv
    rw [hex] at m2
    rw [hey] at m3
    simp only [Bool.and_true, Bool.and_false, Bool.and_self, Bool.not_true, Bool.not_false] at m1 m2 m3 htv
    go_wp2_with (first
      | (go_at_call 14; go_must (refine (first14 _ _ (by assumption)).mono ?_; rintro e w' ⟨rfl, hw⟩; rw [hw]; clear hw w')))
    go_ret
    exact ⟨rfl, HB4.out⟩
end Go.Proofs.Qxb6608618a
