import Derived.Test.Qxb6608618aCut
import Derived.BigQuiet
namespace Go.Proofs.Qxb6608618a
open Go.RowKit Go.Joins
set_option linter.unusedVariables false
set_option linter.unusedSimpArgs false

theorem bytes15 (p : ByteArray) (u h s n : Int) (m : ByteArray) (f : Int) (x y : ByteArray) (w : World) (hb : p.size + m.size + x.size + y.size ≤ 1048576) :
    Calls Try.prog 15 #[.agg (Q7 p u h s n m f), .string x, .string y] w fun e w' => e = .returned (.bool true) ∧ w' = w.alloc (.cells (Q7 p u h s n m f) 25) := by
  go_enter Try.func15, Try.ntmps15
  go_wp2
  go_ret
  exact ⟨rfl, rfl⟩

theorem bytes15_no (p : ByteArray) (u h s n : Int) (m : ByteArray) (f : Int) (x y : ByteArray) (w : World) (hb : 1048576 < p.size + m.size + x.size + y.size) :
    Calls Try.prog 15 #[.agg (Q7 p u h s n m f), .string x, .string y] w fun e w' => e = .returned (.bool false) ∧ w' = w.alloc (.cells (Q7 p u h s n m f) 25) := by
  by_cases h1 : 1048576 < p.size
  · go_enter Try.func15, Try.ntmps15
    go_wp2
    go_ret
    exact ⟨rfl, rfl⟩
  by_cases h2 : 1048576 < m.size
  · go_enter Try.func15, Try.ntmps15
    go_wp2
    go_ret
    exact ⟨rfl, rfl⟩
  by_cases h3 : 1048576 < p.size + m.size
  · go_enter Try.func15, Try.ntmps15
    go_wp2
    go_ret
    exact ⟨rfl, rfl⟩
  by_cases h4 : 1048576 < x.size
  · go_enter Try.func15, Try.ntmps15
    go_wp2
    go_ret
    exact ⟨rfl, rfl⟩
  by_cases h5 : 1048576 < p.size + m.size + x.size
  · go_enter Try.func15, Try.ntmps15
    go_wp2
    go_ret
    exact ⟨rfl, rfl⟩
  by_cases h6 : 1048576 < y.size
  · go_enter Try.func15, Try.ntmps15
    go_wp2
    go_ret
    exact ⟨rfl, rfl⟩
  · go_enter Try.func15, Try.ntmps15
    go_wp2
    go_ret
    exact ⟨rfl, rfl⟩


theorem name16 (v : ByteArray) (w : World) (hv : v.size ≤ 1048576) :
    Calls Try.prog 16 #[.string v] w fun e w' => e = .returned (.bool (good v)) ∧ w' = w := by
  cases h0 : (v.toList == [])
  · by_cases h1 : nul v < 0
    · have e : good v = true := by simp [good, h0, h1]
      rw [e]; clear e
      go_enter Try.func16, Try.ntmps16
      go_wp2_with (first | (go_at_call 14; go_must (refine (first14 _ _ (by assumption)).mono ?_; rintro e w' ⟨rfl, hw⟩; rw [hw]; clear hw w')))
      go_ret
      exact ⟨rfl, rfl⟩
    · have e : good v = false := by simp [good, h0]; omega
      rw [e]; clear e
      go_enter Try.func16, Try.ntmps16
      go_wp2_with (first | (go_at_call 14; go_must (refine (first14 _ _ (by assumption)).mono ?_; rintro e w' ⟨rfl, hw⟩; rw [hw]; clear hw w')))
      go_ret
      exact ⟨ret_bool (by simpa using h1), rfl⟩
  · have e : good v = false := by simp [good, h0]
    rw [e]; clear e
    go_enter Try.func16, Try.ntmps16
    go_wp2
    go_ret
    exact ⟨rfl, rfl⟩

theorem name16_as (v : ByteArray) (b : Bool) (w : World) (hv : v.size ≤ 1048576) (h : good v = b) :
    Calls Try.prog 16 #[.string v] w fun e w' => e = .returned (.bool b) ∧ w' = w := by subst h; exact name16 v w hv
theorem pos17 (v : ByteArray) (w : World) (hv : v.size ≤ 1048576) :
    Calls Try.prog 17 #[.string v] w fun e w' => e = .returned (.int .i64 (posOf v)) ∧ w' = w := by
  by_cases h1 : nul v < 0
  · have e : posOf v = 0 := by simp [posOf, h1]
    rw [e]; clear e
    go_enter Try.func17, Try.ntmps17
    go_wp2_with (first | (go_at_call 14; go_must (refine (first14 _ _ (by assumption)).mono ?_; rintro e w' ⟨rfl, hw⟩; rw [hw]; clear hw w')))
    go_ret
    exact ⟨rfl, rfl⟩
  · have e : posOf v = nul v := by simp [posOf, h1]
    rw [e]; clear e
    go_enter Try.func17, Try.ntmps17
    go_wp2_with (first | (go_at_call 14; go_must (refine (first14 _ _ (by assumption)).mono ?_; rintro e w' ⟨rfl, hw⟩; rw [hw]; clear hw w')))
    go_ret
    exact ⟨rfl, rfl⟩

theorem good_msg (v : ByteArray) : ((msgOf v).toList == []) = good v := by
  by_cases h : nul v < 0
  · rw [msg_nil h]; simp [good, h]
  · rw [msg_nul (by omega)]; simp [good, h]

theorem name_no (m v : ByteArray) (h : good v = false) : nameOf m v = m := by simp [nameOf, h]
theorem name_yes (m v : ByteArray) (h : good v = true) : nameOf m v = v := by simp [nameOf, h]
theorem last_big (p : ByteArray) (u h s n : Int) (m : ByteArray) (f : Int) (x y : ByteArray) (w : World) (hb : 1048576 < p.size + m.size + x.size + y.size) :
    Calls Try.prog 4 #[.agg (Q7 p u h s n m f), .string x, .string y] w fun e w' => e = .returned (.bool true) ∧ Below w.heap.size w w' := by
  go_enter Try.func4, Try.ntmps4
  go_wp2_with (go_at_call 15; go_must (refine (bytes15_no p u h s n m f x y _ hb).mono ?_; rintro e w' ⟨rfl, hw⟩; rw [hw]; clear hw w'))
  go_ret
  exact ⟨rfl, ((Below.refl _ w).alloc (Nat.le_refl _) _).alloc (by simp) _⟩

theorem four {w3 : World} {b1 b2 : Nat} {o1 o2 oX oY : Obj} (h1 : w3.heap[b1]? = some o1) (h2 : w3.heap[b2]? = some o2) :
    ((w3.alloc oX).alloc oY).heap[b1]? = some o1 ∧ ((w3.alloc oX).alloc oY).heap[b2]? = some o2 ∧ ((w3.alloc oX).alloc oY).heap[w3.heap.size]? = some oX ∧ ((w3.alloc oX).alloc oY).heap[w3.heap.size + 1]? = some oY :=
  ⟨heap_old (heap_old h1), heap_old (heap_old h2), heap_old (heap_new w3 oX), new1 w3 oX oY⟩
structure R3 (b : Nat) (w1 w2 : World) (cs qa : Array Value) : Prop where
  old : ∀ (k : Nat) (o : Obj), k ≠ b → w1.heap[k]? = some o → w2.heap[k]? = some o
  row : w2.heap[b]? = some (.cells cs 30 (0, 0))
  aft : w2.heap[w1.heap.size]? = some (.cells qa 30 (0, 0))
  sz : w2.heap.size = w1.heap.size + 1
  bel : ∀ (B : Nat) (W : World), Below B W w1 → B ≤ w1.heap.size → B ≤ b → Below B W w2
theorem st3 {b : Nat} {w1 w2 : World} {cs qa : Array Value} (ht : Turned b cs (w1.alloc (.cells qa 30)) w2) (hb : b < w1.heap.size) : R3 b w1 w2 cs qa :=
  ⟨fun k o hk h => ht.old hk (heap_old h), ht.row, ht.old (by omega) (heap_new w1 _), by rw [ht.size]; simp, fun B W h hB hb => ht.below (h.alloc hB _) hb⟩

set_option maxHeartbeats 4000000 in
theorem last_main (p : ByteArray) (u h s n : Int) (m : ByteArray) (f : Int) (x y : ByteArray) (w : World) (hb : p.size + m.size + x.size + y.size ≤ 1048576) :
    Calls Try.prog 4 #[.agg (Q7 p u h s n m f), .string x, .string y] w fun e w' => e = .returned (.bool true) ∧ Below w.heap.size w w' := by
  have hx : x.size ≤ 1048576 := by omega
  have hy : y.size ≤ 1048576 := by omega
  go_enter Try.func4, Try.ntmps4
  go_upto_region 14 with (first
    | (go_at_call 15; go_must (refine (bytes15 p u h s n m f x y _ hb).mono ?_; rintro e w' ⟨rfl, hw⟩; rw [hw]; clear hw w'))
    | (go_at_call 10; go_must (refine (rb10 p u h s n m f _ (by omega)).mono ?_; rintro e w' ⟨rfl, hw⟩; rw [hw]; clear hw w'))
    | (go_at_call 11; go_must (refine (req11 p u h s n m f _).mono ?_; rintro e w' ⟨rfl, hw⟩; rw [hw]; clear hw w'))
    | (go_at_call 12; (have _g := G2; clear _g); go_must (refine (read12 (w2.heap.size + 1) p u h s n m f y _ (by exact new1 _ _ _)).mono ?_; rintro e w3 ⟨rfl, ht⟩; have G3 := hide (st2 ht); clear ht; clear a0 a1 a2 a3 a4 a5 a6))
    | (go_at_call 12; (have _g := G1; clear _g); go_must (refine (read12 (w.heap.size + 1 + 1 + 1 + 1 + 1 + 1 + 1) p u h s n (nameOf m x) f y _ (by exact heap_old G1.out.hr)).mono ?_; rintro e w2 ⟨rfl, ht⟩; have hsz := G1.out.sz; have G2 := hide (st3 ht (by omega)); clear ht hsz; have hq := G2.out.old _ _ (by omega) G1.out.hq; clear a0 a1 a2 a3 a4 a5 a6; have a0 : w2.cell? ⟨w.heap.size, 0, none⟩ = some (.string p) := rowc hq 0 rfl; have a1 : w2.cell? ⟨w.heap.size, 1, none⟩ = some (.int .u32 u) := rowc hq 1 rfl; have a2 : w2.cell? ⟨w.heap.size, 2, none⟩ = some (.int .i64 h) := rowc hq 2 rfl; have a3 : w2.cell? ⟨w.heap.size, 3, none⟩ = some (.int .u64 s) := rowc hq 3 rfl; have a4 : w2.cell? ⟨w.heap.size, 4, none⟩ = some (.int .u64 n) := rowc hq 4 rfl; have a5 : w2.cell? ⟨w.heap.size, 5, none⟩ = some (.string m) := rowc hq 5 rfl; have a6 : w2.cell? ⟨w.heap.size, 6, none⟩ = some (.int .u8 f) := rowc hq 6 rfl; clear hq))
    | (go_at_call 12; go_must (refine (read12 (w.heap.size + 1 + 1 + 1 + 1 + 1 + 1 + 1) p u h s n m f x _ (by have := new1 ((((((w.alloc (.cells (Q7 p u h s n m f) 25)).alloc (.cells (Q7 p u h s n m f) 25)).alloc (.cells (Q7 p u h s n m f) 25)).alloc (.cells (Q7 p u h s n m f) 25)).alloc (.cells (Q7 p u h s n m f) 30)).alloc (.cells (Q7 p u h s n m f) 30)) (.cells (Q7 p u h s n m f) 25) (.cells (Q7 p u h s n m f) 30); simpa using this)).mono ?_; rintro e w1 ⟨rfl, ht⟩; have G1 := hide (st1 ht); clear ht; have hr := G1.out.hr; have a0 : w1.cell? ⟨w.heap.size + 1 + 1 + 1 + 1 + 1 + 1 + 1, 0, none⟩ = some (.string p) := rowc hr 0 rfl; have a1 : w1.cell? ⟨w.heap.size + 1 + 1 + 1 + 1 + 1 + 1 + 1, 1, none⟩ = some (.int .u32 u) := rowc hr 1 rfl; have a2 : w1.cell? ⟨w.heap.size + 1 + 1 + 1 + 1 + 1 + 1 + 1, 2, none⟩ = some (.int .i64 h) := rowc hr 2 rfl; have a3 : w1.cell? ⟨w.heap.size + 1 + 1 + 1 + 1 + 1 + 1 + 1, 3, none⟩ = some (.int .u64 s) := rowc hr 3 rfl; have a4 : w1.cell? ⟨w.heap.size + 1 + 1 + 1 + 1 + 1 + 1 + 1, 4, none⟩ = some (.int .u64 n) := rowc hr 4 rfl; have a5 : w1.cell? ⟨w.heap.size + 1 + 1 + 1 + 1 + 1 + 1 + 1, 5, none⟩ = some (.string (nameOf m x)) := rowc hr 5 rfl; have a6 : w1.cell? ⟨w.heap.size + 1 + 1 + 1 + 1 + 1 + 1 + 1, 6, none⟩ = some (.int .u8 f) := rowc hr 6 rfl; clear hr)))
  have s1 := G1.out.sz
  have s2 := G2.out.sz
  have s3 := G3.out.sz
  have HB3 : Hid (Below w.heap.size w w3) := G3.out.bel _ _ (G2.out.bel _ _ G1.out.bel (by omega) (by omega)) (by omega)
  have ho := G3.out.old _ _ (G2.out.old _ _ (by omega) G1.out.ho)
  have hr := G3.out.old _ _ G2.out.row
  have ha := G3.out.old _ _ G2.out.aft
  clear G1 G2 G3
  generalize w.heap.size + 1 + 1 + 1 + 1 + 1 + 1 + 1 = b1 at *
  generalize w.heap.size + 1 + 1 + 1 + 1 + 1 = b0 at *
  generalize w1.heap.size = b2 at *
  clear s1 s2 s3
  have c0 : w3.cell? ⟨b0, 0, none⟩ = some (.string p) := rowc ho 0 rfl; have c1 : w3.cell? ⟨b0, 1, none⟩ = some (.int .u32 u) := rowc ho 1 rfl; have c2 : w3.cell? ⟨b0, 2, none⟩ = some (.int .i64 h) := rowc ho 2 rfl; have c3 : w3.cell? ⟨b0, 3, none⟩ = some (.int .u64 s) := rowc ho 3 rfl; have c4 : w3.cell? ⟨b0, 4, none⟩ = some (.int .u64 n) := rowc ho 4 rfl; have c5 : w3.cell? ⟨b0, 5, none⟩ = some (.string m) := rowc ho 5 rfl; have c6 : w3.cell? ⟨b0, 6, none⟩ = some (.int .u8 f) := rowc ho 6 rfl
  have HR := hide hr
  have HA := hide ha
  clear ho hr ha
  have m1 := good_msg x
  have m2 := good_msg y
  have he := eql30
  cases hgx : good x
  · cases hgy : good y
    · rw [hgx] at m1
      rw [hgy] at m2
      go_upto_region 20 with (first
        | (go_at_call 16; go_must (refine (name16 _ _ (by assumption)).mono ?_; rintro e w' ⟨rfl, hw⟩; rw [hw]; clear hw w'; first | rw [hgx] | rw [hgy])))
      have g1 := HR.out
      have g2 := HA.out
      rw [name_no m x hgx] at g1 g2
      rw [name_no m y hgy] at g1
      have F := four (oX := (.cells (Q7 p u h s n m f) 30)) (oY := (.cells (Q7 p u h s n m f) 30)) g1 g2
      have HB4 : Hid (Below w.heap.size w ((w3.alloc (.cells (Q7 p u h s n m f) 30)).alloc (.cells (Q7 p u h s n m f) 30))) := by
        have := HB3.out.size
        exact (HB3.out.alloc this _).alloc (by simp; omega) _
      clear g1 g2 HR HA HB3 c0 c1 c2 c3 c4 c5 c6
      generalize (w3.alloc (.cells (Q7 p u h s n m f) 30)).alloc (.cells (Q7 p u h s n m f) 30) = w4 at *
      generalize w3.heap.size + 1 = b4 at *
      generalize w3.heap.size = b3 at *
      obtain ⟨f1, f2, f3, f4⟩ := F
      have d0 : w4.cell? ⟨b1, 0, none⟩ = some (.string p) := rowc f1 0 rfl; have d1 : w4.cell? ⟨b1, 1, none⟩ = some (.int .u32 u) := rowc f1 1 rfl; have d2 : w4.cell? ⟨b1, 2, none⟩ = some (.int .i64 h) := rowc f1 2 rfl; have d3 : w4.cell? ⟨b1, 3, none⟩ = some (.int .u64 s) := rowc f1 3 rfl; have d4 : w4.cell? ⟨b1, 4, none⟩ = some (.int .u64 n) := rowc f1 4 rfl; have d5 : w4.cell? ⟨b1, 5, none⟩ = some (.string m) := rowc f1 5 rfl; have d6 : w4.cell? ⟨b1, 6, none⟩ = some (.int .u8 f) := rowc f1 6 rfl
      have e0 : w4.cell? ⟨b2, 0, none⟩ = some (.string p) := rowc f2 0 rfl; have e1 : w4.cell? ⟨b2, 1, none⟩ = some (.int .u32 u) := rowc f2 1 rfl; have e2 : w4.cell? ⟨b2, 2, none⟩ = some (.int .i64 h) := rowc f2 2 rfl; have e3 : w4.cell? ⟨b2, 3, none⟩ = some (.int .u64 s) := rowc f2 3 rfl; have e4 : w4.cell? ⟨b2, 4, none⟩ = some (.int .u64 n) := rowc f2 4 rfl; have e5 : w4.cell? ⟨b2, 5, none⟩ = some (.string m) := rowc f2 5 rfl; have e6 : w4.cell? ⟨b2, 6, none⟩ = some (.int .u8 f) := rowc f2 6 rfl
      have k0 : w4.cell? ⟨b3, 0, none⟩ = some (.string p) := rowc f3 0 rfl; have k1 : w4.cell? ⟨b3, 1, none⟩ = some (.int .u32 u) := rowc f3 1 rfl; have k2 : w4.cell? ⟨b3, 2, none⟩ = some (.int .i64 h) := rowc f3 2 rfl; have k3 : w4.cell? ⟨b3, 3, none⟩ = some (.int .u64 s) := rowc f3 3 rfl; have k4 : w4.cell? ⟨b3, 4, none⟩ = some (.int .u64 n) := rowc f3 4 rfl; have k5 : w4.cell? ⟨b3, 5, none⟩ = some (.string m) := rowc f3 5 rfl; have k6 : w4.cell? ⟨b3, 6, none⟩ = some (.int .u8 f) := rowc f3 6 rfl
      have l0 : w4.cell? ⟨b4, 0, none⟩ = some (.string p) := rowc f4 0 rfl; have l1 : w4.cell? ⟨b4, 1, none⟩ = some (.int .u32 u) := rowc f4 1 rfl; have l2 : w4.cell? ⟨b4, 2, none⟩ = some (.int .i64 h) := rowc f4 2 rfl; have l3 : w4.cell? ⟨b4, 3, none⟩ = some (.int .u64 s) := rowc f4 3 rfl; have l4 : w4.cell? ⟨b4, 4, none⟩ = some (.int .u64 n) := rowc f4 4 rfl; have l5 : w4.cell? ⟨b4, 5, none⟩ = some (.string m) := rowc f4 5 rfl; have l6 : w4.cell? ⟨b4, 6, none⟩ = some (.int .u8 f) := rowc f4 6 rfl
      clear f1 f2 f3 f4
      go_quiet ((first
        | (go_at_call 16; exact Calls.quiet_of_same (name16_as _ _ _ (by assumption) (by assumption)))
        | (go_at_call 17; exact Calls.quiet_of_same (pos17 _ _ (by assumption)))))
      go_wp2
      go_ret
      exact ⟨rfl, by first | exact HB4.out | exact HB4.out.drew | exact below_drewN HB4.out _⟩
    · rw [hgx] at m1
      rw [hgy] at m2
      go_upto_region 20 with (first
        | (go_at_call 16; go_must (refine (name16 _ _ (by assumption)).mono ?_; rintro e w' ⟨rfl, hw⟩; rw [hw]; clear hw w'; first | rw [hgx] | rw [hgy])))
      have g1 := HR.out
      have g2 := HA.out
      rw [name_no m x hgx] at g1 g2
      rw [name_yes m y hgy] at g1
      have F := four (oX := (.cells (Q7 p u h s n m f) 30)) (oY := (.cells (Q7 p u h s n y f) 30)) g1 g2
      have HB4 : Hid (Below w.heap.size w ((w3.alloc (.cells (Q7 p u h s n m f) 30)).alloc (.cells (Q7 p u h s n y f) 30))) := by
        have := HB3.out.size
        exact (HB3.out.alloc this _).alloc (by simp; omega) _
      clear g1 g2 HR HA HB3 c0 c1 c2 c3 c4 c5 c6
      generalize (w3.alloc (.cells (Q7 p u h s n m f) 30)).alloc (.cells (Q7 p u h s n y f) 30) = w4 at *
      generalize w3.heap.size + 1 = b4 at *
      generalize w3.heap.size = b3 at *
      obtain ⟨f1, f2, f3, f4⟩ := F
      have d0 : w4.cell? ⟨b1, 0, none⟩ = some (.string p) := rowc f1 0 rfl; have d1 : w4.cell? ⟨b1, 1, none⟩ = some (.int .u32 u) := rowc f1 1 rfl; have d2 : w4.cell? ⟨b1, 2, none⟩ = some (.int .i64 h) := rowc f1 2 rfl; have d3 : w4.cell? ⟨b1, 3, none⟩ = some (.int .u64 s) := rowc f1 3 rfl; have d4 : w4.cell? ⟨b1, 4, none⟩ = some (.int .u64 n) := rowc f1 4 rfl; have d5 : w4.cell? ⟨b1, 5, none⟩ = some (.string y) := rowc f1 5 rfl; have d6 : w4.cell? ⟨b1, 6, none⟩ = some (.int .u8 f) := rowc f1 6 rfl
      have e0 : w4.cell? ⟨b2, 0, none⟩ = some (.string p) := rowc f2 0 rfl; have e1 : w4.cell? ⟨b2, 1, none⟩ = some (.int .u32 u) := rowc f2 1 rfl; have e2 : w4.cell? ⟨b2, 2, none⟩ = some (.int .i64 h) := rowc f2 2 rfl; have e3 : w4.cell? ⟨b2, 3, none⟩ = some (.int .u64 s) := rowc f2 3 rfl; have e4 : w4.cell? ⟨b2, 4, none⟩ = some (.int .u64 n) := rowc f2 4 rfl; have e5 : w4.cell? ⟨b2, 5, none⟩ = some (.string m) := rowc f2 5 rfl; have e6 : w4.cell? ⟨b2, 6, none⟩ = some (.int .u8 f) := rowc f2 6 rfl
      have k0 : w4.cell? ⟨b3, 0, none⟩ = some (.string p) := rowc f3 0 rfl; have k1 : w4.cell? ⟨b3, 1, none⟩ = some (.int .u32 u) := rowc f3 1 rfl; have k2 : w4.cell? ⟨b3, 2, none⟩ = some (.int .i64 h) := rowc f3 2 rfl; have k3 : w4.cell? ⟨b3, 3, none⟩ = some (.int .u64 s) := rowc f3 3 rfl; have k4 : w4.cell? ⟨b3, 4, none⟩ = some (.int .u64 n) := rowc f3 4 rfl; have k5 : w4.cell? ⟨b3, 5, none⟩ = some (.string m) := rowc f3 5 rfl; have k6 : w4.cell? ⟨b3, 6, none⟩ = some (.int .u8 f) := rowc f3 6 rfl
      have l0 : w4.cell? ⟨b4, 0, none⟩ = some (.string p) := rowc f4 0 rfl; have l1 : w4.cell? ⟨b4, 1, none⟩ = some (.int .u32 u) := rowc f4 1 rfl; have l2 : w4.cell? ⟨b4, 2, none⟩ = some (.int .i64 h) := rowc f4 2 rfl; have l3 : w4.cell? ⟨b4, 3, none⟩ = some (.int .u64 s) := rowc f4 3 rfl; have l4 : w4.cell? ⟨b4, 4, none⟩ = some (.int .u64 n) := rowc f4 4 rfl; have l5 : w4.cell? ⟨b4, 5, none⟩ = some (.string y) := rowc f4 5 rfl; have l6 : w4.cell? ⟨b4, 6, none⟩ = some (.int .u8 f) := rowc f4 6 rfl
      clear f1 f2 f3 f4
      go_quiet ((first
        | (go_at_call 16; exact Calls.quiet_of_same (name16_as _ _ _ (by assumption) (by assumption)))
        | (go_at_call 17; exact Calls.quiet_of_same (pos17 _ _ (by assumption)))))
      go_wp2
      go_ret
      exact ⟨rfl, by first | exact HB4.out | exact HB4.out.drew | exact below_drewN HB4.out _⟩
  · cases hgy : good y
    · rw [hgx] at m1
      rw [hgy] at m2
      go_upto_region 20 with (first
        | (go_at_call 16; go_must (refine (name16 _ _ (by assumption)).mono ?_; rintro e w' ⟨rfl, hw⟩; rw [hw]; clear hw w'; first | rw [hgx] | rw [hgy])))
      have g1 := HR.out
      have g2 := HA.out
      rw [name_yes m x hgx] at g1 g2
      rw [name_no x y hgy] at g1
      have F := four (oX := (.cells (Q7 p u h s n x f) 30)) (oY := (.cells (Q7 p u h s n x f) 30)) g1 g2
      have HB4 : Hid (Below w.heap.size w ((w3.alloc (.cells (Q7 p u h s n x f) 30)).alloc (.cells (Q7 p u h s n x f) 30))) := by
        have := HB3.out.size
        exact (HB3.out.alloc this _).alloc (by simp; omega) _
      clear g1 g2 HR HA HB3 c0 c1 c2 c3 c4 c5 c6
      generalize (w3.alloc (.cells (Q7 p u h s n x f) 30)).alloc (.cells (Q7 p u h s n x f) 30) = w4 at *
      generalize w3.heap.size + 1 = b4 at *
      generalize w3.heap.size = b3 at *
      obtain ⟨f1, f2, f3, f4⟩ := F
      have d0 : w4.cell? ⟨b1, 0, none⟩ = some (.string p) := rowc f1 0 rfl; have d1 : w4.cell? ⟨b1, 1, none⟩ = some (.int .u32 u) := rowc f1 1 rfl; have d2 : w4.cell? ⟨b1, 2, none⟩ = some (.int .i64 h) := rowc f1 2 rfl; have d3 : w4.cell? ⟨b1, 3, none⟩ = some (.int .u64 s) := rowc f1 3 rfl; have d4 : w4.cell? ⟨b1, 4, none⟩ = some (.int .u64 n) := rowc f1 4 rfl; have d5 : w4.cell? ⟨b1, 5, none⟩ = some (.string x) := rowc f1 5 rfl; have d6 : w4.cell? ⟨b1, 6, none⟩ = some (.int .u8 f) := rowc f1 6 rfl
      have e0 : w4.cell? ⟨b2, 0, none⟩ = some (.string p) := rowc f2 0 rfl; have e1 : w4.cell? ⟨b2, 1, none⟩ = some (.int .u32 u) := rowc f2 1 rfl; have e2 : w4.cell? ⟨b2, 2, none⟩ = some (.int .i64 h) := rowc f2 2 rfl; have e3 : w4.cell? ⟨b2, 3, none⟩ = some (.int .u64 s) := rowc f2 3 rfl; have e4 : w4.cell? ⟨b2, 4, none⟩ = some (.int .u64 n) := rowc f2 4 rfl; have e5 : w4.cell? ⟨b2, 5, none⟩ = some (.string x) := rowc f2 5 rfl; have e6 : w4.cell? ⟨b2, 6, none⟩ = some (.int .u8 f) := rowc f2 6 rfl
      have k0 : w4.cell? ⟨b3, 0, none⟩ = some (.string p) := rowc f3 0 rfl; have k1 : w4.cell? ⟨b3, 1, none⟩ = some (.int .u32 u) := rowc f3 1 rfl; have k2 : w4.cell? ⟨b3, 2, none⟩ = some (.int .i64 h) := rowc f3 2 rfl; have k3 : w4.cell? ⟨b3, 3, none⟩ = some (.int .u64 s) := rowc f3 3 rfl; have k4 : w4.cell? ⟨b3, 4, none⟩ = some (.int .u64 n) := rowc f3 4 rfl; have k5 : w4.cell? ⟨b3, 5, none⟩ = some (.string x) := rowc f3 5 rfl; have k6 : w4.cell? ⟨b3, 6, none⟩ = some (.int .u8 f) := rowc f3 6 rfl
      have l0 : w4.cell? ⟨b4, 0, none⟩ = some (.string p) := rowc f4 0 rfl; have l1 : w4.cell? ⟨b4, 1, none⟩ = some (.int .u32 u) := rowc f4 1 rfl; have l2 : w4.cell? ⟨b4, 2, none⟩ = some (.int .i64 h) := rowc f4 2 rfl; have l3 : w4.cell? ⟨b4, 3, none⟩ = some (.int .u64 s) := rowc f4 3 rfl; have l4 : w4.cell? ⟨b4, 4, none⟩ = some (.int .u64 n) := rowc f4 4 rfl; have l5 : w4.cell? ⟨b4, 5, none⟩ = some (.string x) := rowc f4 5 rfl; have l6 : w4.cell? ⟨b4, 6, none⟩ = some (.int .u8 f) := rowc f4 6 rfl
      clear f1 f2 f3 f4
      go_quiet ((first
        | (go_at_call 16; exact Calls.quiet_of_same (name16_as _ _ _ (by assumption) (by assumption)))
        | (go_at_call 17; exact Calls.quiet_of_same (pos17 _ _ (by assumption)))))
      go_wp2
      go_ret
      exact ⟨rfl, by first | exact HB4.out | exact HB4.out.drew | exact below_drewN HB4.out _⟩
    · rw [hgx] at m1
      rw [hgy] at m2
      go_upto_region 20 with (first
        | (go_at_call 16; go_must (refine (name16 _ _ (by assumption)).mono ?_; rintro e w' ⟨rfl, hw⟩; rw [hw]; clear hw w'; first | rw [hgx] | rw [hgy])))
      have g1 := HR.out
      have g2 := HA.out
      rw [name_yes m x hgx] at g1 g2
      rw [name_yes x y hgy] at g1
      have F := four (oX := (.cells (Q7 p u h s n x f) 30)) (oY := (.cells (Q7 p u h s n y f) 30)) g1 g2
      have HB4 : Hid (Below w.heap.size w ((w3.alloc (.cells (Q7 p u h s n x f) 30)).alloc (.cells (Q7 p u h s n y f) 30))) := by
        have := HB3.out.size
        exact (HB3.out.alloc this _).alloc (by simp; omega) _
      clear g1 g2 HR HA HB3 c0 c1 c2 c3 c4 c5 c6
      generalize (w3.alloc (.cells (Q7 p u h s n x f) 30)).alloc (.cells (Q7 p u h s n y f) 30) = w4 at *
      generalize w3.heap.size + 1 = b4 at *
      generalize w3.heap.size = b3 at *
      obtain ⟨f1, f2, f3, f4⟩ := F
      have d0 : w4.cell? ⟨b1, 0, none⟩ = some (.string p) := rowc f1 0 rfl; have d1 : w4.cell? ⟨b1, 1, none⟩ = some (.int .u32 u) := rowc f1 1 rfl; have d2 : w4.cell? ⟨b1, 2, none⟩ = some (.int .i64 h) := rowc f1 2 rfl; have d3 : w4.cell? ⟨b1, 3, none⟩ = some (.int .u64 s) := rowc f1 3 rfl; have d4 : w4.cell? ⟨b1, 4, none⟩ = some (.int .u64 n) := rowc f1 4 rfl; have d5 : w4.cell? ⟨b1, 5, none⟩ = some (.string y) := rowc f1 5 rfl; have d6 : w4.cell? ⟨b1, 6, none⟩ = some (.int .u8 f) := rowc f1 6 rfl
      have e0 : w4.cell? ⟨b2, 0, none⟩ = some (.string p) := rowc f2 0 rfl; have e1 : w4.cell? ⟨b2, 1, none⟩ = some (.int .u32 u) := rowc f2 1 rfl; have e2 : w4.cell? ⟨b2, 2, none⟩ = some (.int .i64 h) := rowc f2 2 rfl; have e3 : w4.cell? ⟨b2, 3, none⟩ = some (.int .u64 s) := rowc f2 3 rfl; have e4 : w4.cell? ⟨b2, 4, none⟩ = some (.int .u64 n) := rowc f2 4 rfl; have e5 : w4.cell? ⟨b2, 5, none⟩ = some (.string x) := rowc f2 5 rfl; have e6 : w4.cell? ⟨b2, 6, none⟩ = some (.int .u8 f) := rowc f2 6 rfl
      have k0 : w4.cell? ⟨b3, 0, none⟩ = some (.string p) := rowc f3 0 rfl; have k1 : w4.cell? ⟨b3, 1, none⟩ = some (.int .u32 u) := rowc f3 1 rfl; have k2 : w4.cell? ⟨b3, 2, none⟩ = some (.int .i64 h) := rowc f3 2 rfl; have k3 : w4.cell? ⟨b3, 3, none⟩ = some (.int .u64 s) := rowc f3 3 rfl; have k4 : w4.cell? ⟨b3, 4, none⟩ = some (.int .u64 n) := rowc f3 4 rfl; have k5 : w4.cell? ⟨b3, 5, none⟩ = some (.string x) := rowc f3 5 rfl; have k6 : w4.cell? ⟨b3, 6, none⟩ = some (.int .u8 f) := rowc f3 6 rfl
      have l0 : w4.cell? ⟨b4, 0, none⟩ = some (.string p) := rowc f4 0 rfl; have l1 : w4.cell? ⟨b4, 1, none⟩ = some (.int .u32 u) := rowc f4 1 rfl; have l2 : w4.cell? ⟨b4, 2, none⟩ = some (.int .i64 h) := rowc f4 2 rfl; have l3 : w4.cell? ⟨b4, 3, none⟩ = some (.int .u64 s) := rowc f4 3 rfl; have l4 : w4.cell? ⟨b4, 4, none⟩ = some (.int .u64 n) := rowc f4 4 rfl; have l5 : w4.cell? ⟨b4, 5, none⟩ = some (.string y) := rowc f4 5 rfl; have l6 : w4.cell? ⟨b4, 6, none⟩ = some (.int .u8 f) := rowc f4 6 rfl
      clear f1 f2 f3 f4
      go_quiet ((first
        | (go_at_call 16; exact Calls.quiet_of_same (name16_as _ _ _ (by assumption) (by assumption)))
        | (go_at_call 17; exact Calls.quiet_of_same (pos17 _ _ (by assumption)))))
      go_wp2
      go_ret
      exact ⟨rfl, by first | exact HB4.out | exact HB4.out.drew | exact below_drewN HB4.out _⟩
end Go.Proofs.Qxb6608618a
