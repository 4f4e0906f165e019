import Derived.Test.Qxb6608618aFmtZeroPlain
import Derived.Laws.IdiomStrings
namespace Go.Proofs.Qxb6608618aFmt
open Go.RowKit Go.Joins Go.Kit Go.Extern.Stop Go.Stop Go.Extern
set_option linter.unusedVariables false
set_option linter.unusedSimpArgs false
set_option maxRecDepth 100000

theorem zero_big (p : ByteArray) (u h s n : Int) (m : ByteArray) (f : Int) (x y : ByteArray) (x1 pl c : Int) (w : World) (hb : 1048576 < p.size + m.size + x.size + y.size) :
    Calls Tryf.prog 4 #[.agg (Q7 p u h s n m f), .string x, .int .u64 x1, .string y, .int .i64 pl, .int .u8 c] w fun e w' => e = .returned (.bool true) ∧ Below w.heap.size w w' := by
  go_enter Tryf.func4, Tryf.ntmps4
  go_wp2_with (go_at_call 10; go_must (refine (bytes10_no p u h s n m f x y x1 pl c _ hb).mono ?_; rintro e w' ⟨rfl, hw⟩; rw [hw]; clear hw w'))
  go_ret
  exact ⟨rfl, ((Below.refl _ w).alloc (Nat.le_refl _) _).alloc (by simp) _⟩

theorem zero_out (p : ByteArray) (u h s n : Int) (m : ByteArray) (f : Int) (x y : ByteArray) (x1 pl c : Int) (w : World) (hb : p.size + m.size + x.size + y.size ≤ 1048576) (ho : pl < 0 ∨ (y.size : Int) < pl) :
    Calls Tryf.prog 4 #[.agg (Q7 p u h s n m f), .string x, .int .u64 x1, .string y, .int .i64 pl, .int .u8 c] w fun e w' => e = .returned (.bool true) ∧ Below w.heap.size w w' := by
  rcases ho with ho | ho
  · go_enter Tryf.func4, Tryf.ntmps4
    go_wp2_with (first
      | (go_at_call 10; go_must (refine (bytes10 p u h s n m f x y x1 pl c _ hb).mono ?_; rintro e w' ⟨rfl, hw⟩; rw [hw]; clear hw w'))
      | (go_at_call 6; go_must (refine (rb6 p u h s n m f _ (by omega)).mono ?_; rintro e w' ⟨rfl, hw⟩; rw [hw]; clear hw w')))
    go_ret
    exact ⟨rfl, (((Below.refl _ w).alloc (Nat.le_refl _) _).alloc (by simp) _).alloc (by simp; omega) _⟩
  · have ho' : ¬ pl < 0 := by omega
    go_enter Tryf.func4, Tryf.ntmps4
    go_wp2_with (first
      | (go_at_call 10; go_must (refine (bytes10 p u h s n m f x y x1 pl c _ hb).mono ?_; rintro e w' ⟨rfl, hw⟩; rw [hw]; clear hw w'))
      | (go_at_call 6; go_must (refine (rb6 p u h s n m f _ (by omega)).mono ?_; rintro e w' ⟨rfl, hw⟩; rw [hw]; clear hw w')))
    go_ret
    exact ⟨rfl, (((Below.refl _ w).alloc (Nat.le_refl _) _).alloc (by simp) _).alloc (by simp; omega) _⟩

theorem conv1 (b : UInt8) (W : World) (g : Nat) (hg : W.heap[g]? = some (.cells #[.int .u8 (b.toNat : Int)] 5 (0, 0))) : (convert 37 9 (.slice (some ⟨g, 0, none⟩) 1 1)).run Tryf.prog W = .ok (.string ⟨#[b]⟩) W :=
  run_convert_bytes_back (P := Tryf.prog) W 37 9 5 ⟨g, 0, none⟩ 1 [b] Tryf.underlying37 Tryf.underlying5 Tryf.underlying9 (fun j hj => by
    have : j = 0 := by simp at hj; omega
    subst this
    exact rowc hg 0 rfl)
theorem conv_d (b : UInt8) (W : World) (g : Nat) (hg : g = W.heap.size) : (convert 37 9 (.slice (some ⟨g, 0, none⟩) 1 1)).run Tryf.prog (W.alloc (.cells #[.int .u8 (b.toNat : Int)] 5)).drew = .ok (.string ⟨#[b]⟩) (W.alloc (.cells #[.int .u8 (b.toNat : Int)] 5)).drew :=
  conv1 b _ g (by subst hg; exact heap_new W _)
theorem conv_dd (b : UInt8) (W : World) (g : Nat) (hg : g = W.heap.size) : (convert 37 9 (.slice (some ⟨g, 0, none⟩) 1 1)).run Tryf.prog (W.alloc (.cells #[.int .u8 (b.toNat : Int)] 5)).drew.drew = .ok (.string ⟨#[b]⟩) (W.alloc (.cells #[.int .u8 (b.toNat : Int)] 5)).drew.drew :=
  conv1 b _ g (by subst hg; exact heap_new W _)

theorem below4 (w : World) (o1 o2 o3 o4 : Obj) : Below w.heap.size w ((((w.alloc o1).alloc o2).alloc o3).alloc o4).drew :=
  (((((Below.refl _ w).alloc (by simp) _).alloc (by simp; try omega) _).alloc (by simp; try omega) _).alloc (by simp; try omega) _).drew
theorem below5 (w0 : World) (q : Array Value) : Below w0.heap.size w0 (((((w0.alloc (.cells q 25)).alloc (.cells q 30)).alloc (.cells q 30)).alloc (.cells q 25)).alloc (.cells q 30)) :=
  (((((Below.refl _ w0).alloc (by simp) _).alloc (by simp; try omega) _).alloc (by simp; try omega) _).alloc (by simp; try omega) _).alloc (by simp; try omega) _
theorem row5 (w0 : World) (q : Array Value) : (((((w0.alloc (.cells q 25)).alloc (.cells q 30)).alloc (.cells q 30)).alloc (.cells q 25)).alloc (.cells q 30)).heap[w0.heap.size + 1 + 1 + 1 + 1]? = some (.cells q 30 (0, 0)) := by
  have := new1 (((w0.alloc (.cells q 25)).alloc (.cells q 30)).alloc (.cells q 30)) (.cells q 25) (.cells q 30)
  simpa using this
structure R0 (w0 w1 : World) (q cs : Array Value) : Prop where
  old : ∀ (k : Nat) (o : Obj), w0.heap[k]? = some o → w1.heap[k]? = some o
  ho : w1.heap[w0.heap.size + 1 + 1]? = some (.cells q 30 (0, 0))
  hr : w1.heap[w0.heap.size + 1 + 1 + 1 + 1]? = some (.cells cs 30 (0, 0))
  sz : w0.heap.size + 5 ≤ w1.heap.size
  bel : Below w0.heap.size w0 w1
theorem st0 {w0 w1 : World} {q cs : Array Value} (ht : Upd (w0.heap.size + 1 + 1 + 1 + 1) cs (((((w0.alloc (.cells q 25)).alloc (.cells q 30)).alloc (.cells q 30)).alloc (.cells q 25)).alloc (.cells q 30)) w1) : R0 w0 w1 q cs := by
  have hsz := ht.size
  simp at hsz
  refine ⟨fun k o h => ht.old ?_ (heap_old (heap_old (heap_old (heap_old (heap_old h))))), ht.old (by omega) (heap_old (heap_old (new2 _ _ _ _))), ht.row, by omega, ht.below (below5 w0 q) (by omega) (by simp; omega)⟩
  have := (Array.getElem?_eq_some_iff.1 h).1
  omega

set_option maxHeartbeats 4000000 in
theorem zero_main (F : Interp) (p : ByteArray) (u h s n : Int) (m : ByteArray) (f : Int) (x v : ByteArray) (x1 pl : Int) (b : UInt8) (w : World) (hb : p.size + m.size + x.size + v.size ≤ 1048576) (hp0 : 0 ≤ pl) (hp1 : pl ≤ v.size)
    (hw1 : (Lit.int .u64 x1).wf = true) (hF : F.told.answers w.tape) (hE : Errs w) :
    Calls Tryf.prog 4 #[.agg (Q7 p u h s n m f), .string x, .int .u64 x1, .string v, .int .i64 pl, .int .u8 (b.toNat : Int)] w fun e w' => e = .returned (.bool true) ∧ Below w.heap.size w w' := by
  have hx : x.size ≤ 2097152 := by omega
  have hv : v.size ≤ 2097152 := by omega
  have HF := hide hF
  have HE := hide hE
  have HW1 := hide hw1
  clear hF hE hw1
  have hconv := conv_d b
  have hconv2 := conv_dd b
  go_enter Tryf.func4, Tryf.ntmps4
  go_upto_region 9 with (first
    | (go_at_call 10; go_must (refine (bytes10 p u h s n m f x v x1 pl _ _ hb).mono ?_; rintro e w' ⟨rfl, hw⟩; rw [hw]; clear hw w'))
    | (go_at_call 6; go_must (refine (rb6 p u h s n m f _ (by omega)).mono ?_; rintro e w' ⟨rfl, hw⟩; rw [hw]; clear hw w')))
  go_region_with (fail)
  have HB0 : Hid (Below w.heap.size w (((((w.alloc (.cells (Q7 p u h s n m f) 25)).alloc (.cells (Q7 p u h s n m f) 25)).alloc (.cells (Q7 p u h s n m f) 25)).alloc (.cells #[.int .u8 (b.toNat : Int)] 5)).drew)) := below4 w _ _ _ _
  have hq0 : (((((w.alloc (.cells (Q7 p u h s n m f) 25)).alloc (.cells (Q7 p u h s n m f) 25)).alloc (.cells (Q7 p u h s n m f) 25)).alloc (.cells #[.int .u8 (b.toNat : Int)] 5)).drew).heap[w.heap.size]? = some (.cells (Q7 p u h s n m f) 25 (0, 0)) := heap_old (heap_old (heap_old (heap_new w _)))
  generalize ((((w.alloc (.cells (Q7 p u h s n m f) 25)).alloc (.cells (Q7 p u h s n m f) 25)).alloc (.cells (Q7 p u h s n m f) 25)).alloc (.cells #[.int .u8 (b.toNat : Int)] 5)).drew = w0 at *
  have HQ := hide hq0
  have lt0 : w.heap.size < w0.heap.size := (Array.getElem?_eq_some_iff.1 hq0).1
  have lt1 : w.heap.size < w0.heap.size + 1 := by omega
  have lt2 : w.heap.size < w0.heap.size + 1 + 1 := by omega
  have lt3 : w.heap.size < w0.heap.size + 1 + 1 + 1 := by omega
  have a0 : w0.cell? ⟨w.heap.size, 0, none⟩ = some (.string p) := rowc hq0 0 rfl; have a1 : w0.cell? ⟨w.heap.size, 1, none⟩ = some (.int .u32 u) := rowc hq0 1 rfl; have a2 : w0.cell? ⟨w.heap.size, 2, none⟩ = some (.int .i64 h) := rowc hq0 2 rfl; have a3 : w0.cell? ⟨w.heap.size, 3, none⟩ = some (.int .u64 s) := rowc hq0 3 rfl; have a4 : w0.cell? ⟨w.heap.size, 4, none⟩ = some (.int .u64 n) := rowc hq0 4 rfl; have a5 : w0.cell? ⟨w.heap.size, 5, none⟩ = some (.string m) := rowc hq0 5 rfl; have a6 : w0.cell? ⟨w.heap.size, 6, none⟩ = some (.int .u8 f) := rowc hq0 6 rfl
  clear hq0 hconv hconv2
  obtain ⟨z, hz⟩ : ∃ z, z = (⟨#[48]⟩ ++ v : ByteArray) := ⟨_, rfl⟩
  obtain ⟨g, hg⟩ : ∃ g, g = (v.extract 0 pl.toNat ++ ⟨#[b]⟩ ++ v.extract pl.toNat v.size : ByteArray) := ⟨_, rfl⟩
  have hzs : z.size ≤ 2097152 := by rw [hz, ByteArray.size_append]; have : (⟨#[48]⟩ : ByteArray).size = 1 := rfl; omega
  have hgs : g.size ≤ 2097152 := by
    rw [hg, ByteArray.size_append, ByteArray.size_append, ByteArray.size_extract, ByteArray.size_extract]
    have : (⟨#[b]⟩ : ByteArray).size = 1 := rfl
    omega
  have HZ := hide hz
  have HG := hide hg
  clear hz hg
  go_upto_region 18 with (first
    | (go_at_call 7; go_must (refine (req7 p u h s n m f _).mono ?_; rintro e w' ⟨rfl, hw⟩; rw [hw]; clear hw w'))
    | (go_at_call 8; (have _g := G2; clear _g); go_must (first | rw [← HG.out] | skip; refine (zz8 F (w2.heap.size + 1) p u h s n m f g x x1 _ (by exact new1 _ _ _) (by show F.told.answers w2.tape; rw [T2.out]; exact HF.out) hgs hx HW1.out (by exact E2.out.later (below2 _ _ _))).mono ?_; rintro e w3 ⟨M3, hM3, rfl, ht⟩; have G3 := hide (st2 ht); have HM3 := hide hM3; clear ht hM3; clear a0 a1 a2 a3 a4 a5 a6))
    | (go_at_call 8; (have _g := G1; clear _g); go_must (first | rw [← HZ.out] | skip; refine (zz8 F (w1.heap.size + 1) p u h s n m f z x x1 _ (by exact new1 _ _ _) (by show F.told.answers w1.tape; rw [T1.out]; exact HF.out) hzs hx HW1.out (by exact E1.out.later (below2 _ _ _))).mono ?_; rintro e w2 ⟨M2, hM2, rfl, ht⟩; have G2 := hide (st2 ht); have HM2 := hide hM2; clear ht hM2; have L2 := hide (G2.out.bel _ _ (Below.refl w1.heap.size w1) (Nat.le_refl _)); have E2 := hide (E1.out.later L2.out); have T2 : Hid (w2.tape = w.tape) := L2.out.tape.trans T1.out; have hq := G2.out.old _ _ (G1.out.old _ _ HQ.out); clear a0 a1 a2 a3 a4 a5 a6; have a0 : w2.cell? ⟨w.heap.size, 0, none⟩ = some (.string p) := rowc hq 0 rfl; have a1 : w2.cell? ⟨w.heap.size, 1, none⟩ = some (.int .u32 u) := rowc hq 1 rfl; have a2 : w2.cell? ⟨w.heap.size, 2, none⟩ = some (.int .i64 h) := rowc hq 2 rfl; have a3 : w2.cell? ⟨w.heap.size, 3, none⟩ = some (.int .u64 s) := rowc hq 3 rfl; have a4 : w2.cell? ⟨w.heap.size, 4, none⟩ = some (.int .u64 n) := rowc hq 4 rfl; have a5 : w2.cell? ⟨w.heap.size, 5, none⟩ = some (.string m) := rowc hq 5 rfl; have a6 : w2.cell? ⟨w.heap.size, 6, none⟩ = some (.int .u8 f) := rowc hq 6 rfl; clear hq))
    | (go_at_call 8; go_must (refine (zz8 F (w0.heap.size + 1 + 1 + 1 + 1) p u h s n m f v x x1 _ (by exact row5 _ _) (by show F.told.answers w0.tape; rw [HB0.out.tape]; exact HF.out) hv hx HW1.out (by exact (HE.out.later HB0.out).later (below5 w0 _))).mono ?_; rintro e w1 ⟨M1, hM1, rfl, ht⟩; have G1 := hide (st0 ht); have HM1 := hide hM1; clear ht hM1; have E1 := hide ((HE.out.later HB0.out).later G1.out.bel); have T1 : Hid (w1.tape = w.tape) := G1.out.bel.tape.trans HB0.out.tape; have hq := G1.out.old _ _ HQ.out; clear a0 a1 a2 a3 a4 a5 a6; have a0 : w1.cell? ⟨w.heap.size, 0, none⟩ = some (.string p) := rowc hq 0 rfl; have a1 : w1.cell? ⟨w.heap.size, 1, none⟩ = some (.int .u32 u) := rowc hq 1 rfl; have a2 : w1.cell? ⟨w.heap.size, 2, none⟩ = some (.int .i64 h) := rowc hq 2 rfl; have a3 : w1.cell? ⟨w.heap.size, 3, none⟩ = some (.int .u64 s) := rowc hq 3 rfl; have a4 : w1.cell? ⟨w.heap.size, 4, none⟩ = some (.int .u64 n) := rowc hq 4 rfl; have a5 : w1.cell? ⟨w.heap.size, 5, none⟩ = some (.string m) := rowc hq 5 rfl; have a6 : w1.cell? ⟨w.heap.size, 6, none⟩ = some (.int .u8 f) := rowc hq 6 rfl; clear hq)))
  have s1 := G1.out.sz
  have s2 := G2.out.sz
  have s3 := G3.out.sz
  have HB3 : Hid (Below w.heap.size w w3) := G3.out.bel _ _ (G2.out.bel _ _ (HB0.out.trans (G1.out.bel.mono HB0.out.size)) (by omega)) (by omega)
  have hin : w3.cell? ⟨w0.heap.size + 1 + 1, 0, none⟩ = some (.string p) ∧ w3.cell? ⟨w0.heap.size + 1 + 1, 1, none⟩ = some (.int .u32 u) ∧ w3.cell? ⟨w0.heap.size + 1 + 1, 2, none⟩ = some (.int .i64 h) ∧ w3.cell? ⟨w0.heap.size + 1 + 1, 3, none⟩ = some (.int .u64 s) ∧ w3.cell? ⟨w0.heap.size + 1 + 1, 4, none⟩ = some (.int .u64 n) ∧ w3.cell? ⟨w0.heap.size + 1 + 1, 5, none⟩ = some (.string m) ∧ w3.cell? ⟨w0.heap.size + 1 + 1, 6, none⟩ = some (.int .u8 f) ∧ w3.cell? ⟨w0.heap.size + 1 + 1 + 1 + 1, 0, none⟩ = some (.string p) ∧ w3.cell? ⟨w0.heap.size + 1 + 1 + 1 + 1, 1, none⟩ = some (.int .u32 u) ∧ w3.cell? ⟨w0.heap.size + 1 + 1 + 1 + 1, 2, none⟩ = some (.int .i64 h) ∧ w3.cell? ⟨w0.heap.size + 1 + 1 + 1 + 1, 3, none⟩ = some (.int .u64 s) ∧ w3.cell? ⟨w0.heap.size + 1 + 1 + 1 + 1, 4, none⟩ = some (.int .u64 (((ans v x1).map Int.ofNat).getD n)) ∧ w3.cell? ⟨w0.heap.size + 1 + 1 + 1 + 1, 5, none⟩ = some (.string m) ∧ w3.cell? ⟨w0.heap.size + 1 + 1 + 1 + 1, 6, none⟩ = some (.int .u8 f) ∧ w3.cell? ⟨w1.heap.size + 1, 0, none⟩ = some (.string p) ∧ w3.cell? ⟨w1.heap.size + 1, 1, none⟩ = some (.int .u32 u) ∧ w3.cell? ⟨w1.heap.size + 1, 2, none⟩ = some (.int .i64 h) ∧ w3.cell? ⟨w1.heap.size + 1, 3, none⟩ = some (.int .u64 s) ∧ w3.cell? ⟨w1.heap.size + 1, 4, none⟩ = some (.int .u64 (((ans z x1).map Int.ofNat).getD n)) ∧ w3.cell? ⟨w1.heap.size + 1, 5, none⟩ = some (.string m) ∧ w3.cell? ⟨w1.heap.size + 1, 6, none⟩ = some (.int .u8 f) ∧ w3.cell? ⟨w2.heap.size + 1, 0, none⟩ = some (.string p) ∧ w3.cell? ⟨w2.heap.size + 1, 1, none⟩ = some (.int .u32 u) ∧ w3.cell? ⟨w2.heap.size + 1, 2, none⟩ = some (.int .i64 h) ∧ w3.cell? ⟨w2.heap.size + 1, 3, none⟩ = some (.int .u64 s) ∧ w3.cell? ⟨w2.heap.size + 1, 4, none⟩ = some (.int .u64 (((ans g x1).map Int.ofNat).getD n)) ∧ w3.cell? ⟨w2.heap.size + 1, 5, none⟩ = some (.string m) ∧ w3.cell? ⟨w2.heap.size + 1, 6, none⟩ = some (.int .u8 f) := by
    have h0 := G3.out.old _ _ (G2.out.old _ _ G1.out.ho)
    have h1 := G3.out.old _ _ (G2.out.old _ _ G1.out.hr)
    have h2 := G3.out.old _ _ G2.out.row
    have h3 := G3.out.row
    exact ⟨rowc h0 0 rfl, rowc h0 1 rfl, rowc h0 2 rfl, rowc h0 3 rfl, rowc h0 4 rfl, rowc h0 5 rfl, rowc h0 6 rfl, rowc h1 0 rfl, rowc h1 1 rfl, rowc h1 2 rfl, rowc h1 3 rfl, rowc h1 4 rfl, rowc h1 5 rfl, rowc h1 6 rfl, rowc h2 0 rfl, rowc h2 1 rfl, rowc h2 2 rfl, rowc h2 3 rfl, rowc h2 4 rfl, rowc h2 5 rfl, rowc h2 6 rfl, rowc h3 0 rfl, rowc h3 1 rfl, rowc h3 2 rfl, rowc h3 3 rfl, rowc h3 4 rfl, rowc h3 5 rfl, rowc h3 6 rfl⟩
  clear G1 G2 G3 lt0 lt1 lt2 lt3 s1 s2 s3 HB0 HQ L2 E2 T2 E1 T1
  generalize w0.heap.size + 1 + 1 + 1 + 1 = b1 at *
  generalize w0.heap.size + 1 + 1 = b0 at *
  generalize w1.heap.size + 1 = b2 at *
  generalize w2.heap.size + 1 = b3 at *
  have KB : Hid (∀ wx wy, Below wx.heap.size wx wy → (wx.cell? ⟨b0, 0, none⟩ = some (.string p) ∧ wx.cell? ⟨b0, 1, none⟩ = some (.int .u32 u) ∧ wx.cell? ⟨b0, 2, none⟩ = some (.int .i64 h) ∧ wx.cell? ⟨b0, 3, none⟩ = some (.int .u64 s) ∧ wx.cell? ⟨b0, 4, none⟩ = some (.int .u64 n) ∧ wx.cell? ⟨b0, 5, none⟩ = some (.string m) ∧ wx.cell? ⟨b0, 6, none⟩ = some (.int .u8 f) ∧ wx.cell? ⟨b1, 0, none⟩ = some (.string p) ∧ wx.cell? ⟨b1, 1, none⟩ = some (.int .u32 u) ∧ wx.cell? ⟨b1, 2, none⟩ = some (.int .i64 h) ∧ wx.cell? ⟨b1, 3, none⟩ = some (.int .u64 s) ∧ wx.cell? ⟨b1, 4, none⟩ = some (.int .u64 (((ans v x1).map Int.ofNat).getD n)) ∧ wx.cell? ⟨b1, 5, none⟩ = some (.string m) ∧ wx.cell? ⟨b1, 6, none⟩ = some (.int .u8 f) ∧ wx.cell? ⟨b2, 0, none⟩ = some (.string p) ∧ wx.cell? ⟨b2, 1, none⟩ = some (.int .u32 u) ∧ wx.cell? ⟨b2, 2, none⟩ = some (.int .i64 h) ∧ wx.cell? ⟨b2, 3, none⟩ = some (.int .u64 s) ∧ wx.cell? ⟨b2, 4, none⟩ = some (.int .u64 (((ans z x1).map Int.ofNat).getD n)) ∧ wx.cell? ⟨b2, 5, none⟩ = some (.string m) ∧ wx.cell? ⟨b2, 6, none⟩ = some (.int .u8 f) ∧ wx.cell? ⟨b3, 0, none⟩ = some (.string p) ∧ wx.cell? ⟨b3, 1, none⟩ = some (.int .u32 u) ∧ wx.cell? ⟨b3, 2, none⟩ = some (.int .i64 h) ∧ wx.cell? ⟨b3, 3, none⟩ = some (.int .u64 s) ∧ wx.cell? ⟨b3, 4, none⟩ = some (.int .u64 (((ans g x1).map Int.ofNat).getD n)) ∧ wx.cell? ⟨b3, 5, none⟩ = some (.string m) ∧ wx.cell? ⟨b3, 6, none⟩ = some (.int .u8 f)) → (wy.cell? ⟨b0, 0, none⟩ = some (.string p) ∧ wy.cell? ⟨b0, 1, none⟩ = some (.int .u32 u) ∧ wy.cell? ⟨b0, 2, none⟩ = some (.int .i64 h) ∧ wy.cell? ⟨b0, 3, none⟩ = some (.int .u64 s) ∧ wy.cell? ⟨b0, 4, none⟩ = some (.int .u64 n) ∧ wy.cell? ⟨b0, 5, none⟩ = some (.string m) ∧ wy.cell? ⟨b0, 6, none⟩ = some (.int .u8 f) ∧ wy.cell? ⟨b1, 0, none⟩ = some (.string p) ∧ wy.cell? ⟨b1, 1, none⟩ = some (.int .u32 u) ∧ wy.cell? ⟨b1, 2, none⟩ = some (.int .i64 h) ∧ wy.cell? ⟨b1, 3, none⟩ = some (.int .u64 s) ∧ wy.cell? ⟨b1, 4, none⟩ = some (.int .u64 (((ans v x1).map Int.ofNat).getD n)) ∧ wy.cell? ⟨b1, 5, none⟩ = some (.string m) ∧ wy.cell? ⟨b1, 6, none⟩ = some (.int .u8 f) ∧ wy.cell? ⟨b2, 0, none⟩ = some (.string p) ∧ wy.cell? ⟨b2, 1, none⟩ = some (.int .u32 u) ∧ wy.cell? ⟨b2, 2, none⟩ = some (.int .i64 h) ∧ wy.cell? ⟨b2, 3, none⟩ = some (.int .u64 s) ∧ wy.cell? ⟨b2, 4, none⟩ = some (.int .u64 (((ans z x1).map Int.ofNat).getD n)) ∧ wy.cell? ⟨b2, 5, none⟩ = some (.string m) ∧ wy.cell? ⟨b2, 6, none⟩ = some (.int .u8 f) ∧ wy.cell? ⟨b3, 0, none⟩ = some (.string p) ∧ wy.cell? ⟨b3, 1, none⟩ = some (.int .u32 u) ∧ wy.cell? ⟨b3, 2, none⟩ = some (.int .i64 h) ∧ wy.cell? ⟨b3, 3, none⟩ = some (.int .u64 s) ∧ wy.cell? ⟨b3, 4, none⟩ = some (.int .u64 (((ans g x1).map Int.ofNat).getD n)) ∧ wy.cell? ⟨b3, 5, none⟩ = some (.string m) ∧ wy.cell? ⟨b3, 6, none⟩ = some (.int .u8 f))) := fun wx wy hb h => ⟨cell_later hb h.1, cell_later hb h.2.1, cell_later hb h.2.2.1, cell_later hb h.2.2.2.1, cell_later hb h.2.2.2.2.1, cell_later hb h.2.2.2.2.2.1, cell_later hb h.2.2.2.2.2.2.1, cell_later hb h.2.2.2.2.2.2.2.1, cell_later hb h.2.2.2.2.2.2.2.2.1, cell_later hb h.2.2.2.2.2.2.2.2.2.1, cell_later hb h.2.2.2.2.2.2.2.2.2.2.1, cell_later hb h.2.2.2.2.2.2.2.2.2.2.2.1, cell_later hb h.2.2.2.2.2.2.2.2.2.2.2.2.1, cell_later hb h.2.2.2.2.2.2.2.2.2.2.2.2.2.1, cell_later hb h.2.2.2.2.2.2.2.2.2.2.2.2.2.2.1, cell_later hb h.2.2.2.2.2.2.2.2.2.2.2.2.2.2.2.1, cell_later hb h.2.2.2.2.2.2.2.2.2.2.2.2.2.2.2.2.1, cell_later hb h.2.2.2.2.2.2.2.2.2.2.2.2.2.2.2.2.2.1, cell_later hb h.2.2.2.2.2.2.2.2.2.2.2.2.2.2.2.2.2.2.1, cell_later hb h.2.2.2.2.2.2.2.2.2.2.2.2.2.2.2.2.2.2.2.1, cell_later hb h.2.2.2.2.2.2.2.2.2.2.2.2.2.2.2.2.2.2.2.2.1, cell_later hb h.2.2.2.2.2.2.2.2.2.2.2.2.2.2.2.2.2.2.2.2.2.1, cell_later hb h.2.2.2.2.2.2.2.2.2.2.2.2.2.2.2.2.2.2.2.2.2.2.1, cell_later hb h.2.2.2.2.2.2.2.2.2.2.2.2.2.2.2.2.2.2.2.2.2.2.2.1, cell_later hb h.2.2.2.2.2.2.2.2.2.2.2.2.2.2.2.2.2.2.2.2.2.2.2.2.1, cell_later hb h.2.2.2.2.2.2.2.2.2.2.2.2.2.2.2.2.2.2.2.2.2.2.2.2.2.1, cell_later hb h.2.2.2.2.2.2.2.2.2.2.2.2.2.2.2.2.2.2.2.2.2.2.2.2.2.2.1, cell_later hb h.2.2.2.2.2.2.2.2.2.2.2.2.2.2.2.2.2.2.2.2.2.2.2.2.2.2.2⟩
  go_region_held3 (fun wx => wx.cell? ⟨b0, 0, none⟩ = some (.string p) ∧ wx.cell? ⟨b0, 1, none⟩ = some (.int .u32 u) ∧ wx.cell? ⟨b0, 2, none⟩ = some (.int .i64 h) ∧ wx.cell? ⟨b0, 3, none⟩ = some (.int .u64 s) ∧ wx.cell? ⟨b0, 4, none⟩ = some (.int .u64 n) ∧ wx.cell? ⟨b0, 5, none⟩ = some (.string m) ∧ wx.cell? ⟨b0, 6, none⟩ = some (.int .u8 f) ∧ wx.cell? ⟨b1, 0, none⟩ = some (.string p) ∧ wx.cell? ⟨b1, 1, none⟩ = some (.int .u32 u) ∧ wx.cell? ⟨b1, 2, none⟩ = some (.int .i64 h) ∧ wx.cell? ⟨b1, 3, none⟩ = some (.int .u64 s) ∧ wx.cell? ⟨b1, 4, none⟩ = some (.int .u64 (((ans v x1).map Int.ofNat).getD n)) ∧ wx.cell? ⟨b1, 5, none⟩ = some (.string m) ∧ wx.cell? ⟨b1, 6, none⟩ = some (.int .u8 f) ∧ wx.cell? ⟨b2, 0, none⟩ = some (.string p) ∧ wx.cell? ⟨b2, 1, none⟩ = some (.int .u32 u) ∧ wx.cell? ⟨b2, 2, none⟩ = some (.int .i64 h) ∧ wx.cell? ⟨b2, 3, none⟩ = some (.int .u64 s) ∧ wx.cell? ⟨b2, 4, none⟩ = some (.int .u64 (((ans z x1).map Int.ofNat).getD n)) ∧ wx.cell? ⟨b2, 5, none⟩ = some (.string m) ∧ wx.cell? ⟨b2, 6, none⟩ = some (.int .u8 f) ∧ wx.cell? ⟨b3, 0, none⟩ = some (.string p) ∧ wx.cell? ⟨b3, 1, none⟩ = some (.int .u32 u) ∧ wx.cell? ⟨b3, 2, none⟩ = some (.int .i64 h) ∧ wx.cell? ⟨b3, 3, none⟩ = some (.int .u64 s) ∧ wx.cell? ⟨b3, 4, none⟩ = some (.int .u64 (((ans g x1).map Int.ofNat).getD n)) ∧ wx.cell? ⟨b3, 5, none⟩ = some (.string m) ∧ wx.cell? ⟨b3, 6, none⟩ = some (.int .u8 f)) (first | go_keep | (refine KB.out _ _ hb9 ?_; assumption))
    (first
      | (go_at_call 9; (first | rw [← HZ.out] | rw [← HG.out] | skip); go_must (refine (read9 p u h s n m f _ _ _ _ (by assumption) (by first | exact HM1.out | exact HM2.out | exact HM3.out)).mono ?_; rintro e w4 ⟨rfl, hb9⟩)))
  rename_i wa hba wb hbb hheld
  have HB4 : Hid (Below w.heap.size w w4) := by
    have k3 := HB3.out.size
    have ka := hba.size
    have kb := hbb.size
    have k3' : w3.drew.heap.size = w3.heap.size := rfl
    exact ((HB3.out.drew.trans (hba.mono (by omega))).trans (hbb.mono (by omega))).trans (hb9.mono (by omega))
  obtain ⟨e0, e1, e2, e3, e4, e5, e6, e7, e8, e9, e10, e11, e12, e13, e14, e15, e16, e17, e18, e19, e20, e21, e22, e23, e24, e25, e26, e27⟩ := hheld
  clear hba hbb hb9 HB3 KB wa wb hin
  have hnq := neq30
  have HGm : Hid (b ∈ g.data.toList) := by
    rw [Hid, HG.out]
    simp
  cases hD : isD b with
  | false =>
    have ha := ans_stray x1 b HGm.out hD
    have hM3 := HM3.out
    rw [ha] at hM3 e25
    have hM3' : (M3.toList == []) = false := hM3
    have e25' : w4.cell? ⟨b3, 4, none⟩ = some (.int .u64 n) := e25
    clear hM3 e25 ha
    have hbs : b.toNat < 48 ∨ 57 < b.toNat := by
      rcases Nat.lt_or_ge b.toNat 48 with h | h
      · exact .inl h
      · rcases Nat.lt_or_ge 57 b.toNat with h' | h'
        · exact .inr h'
        · simp [isD, h, h'] at hD
    clear hD
    rcases hbs with hbs | hbs
    · have g1 : decide ((b.toNat : Int) < 48) = true := by simp; omega
      cases hv0 : (v.toList == []) with
      | true =>
        go_upto_region 20 with fail
        go_quiet (fail)
        go_upto_region 22 with fail
        go_quiet (fail)
        go_wp2
        go_ret
        exact ⟨rfl, by first | exact HB4.out | exact HB4.out.trans ⟨rfl, rfl, rfl, Nat.le_refl _, fun _ _ => rfl⟩⟩
      | false =>
        have hM1 := HM1.out
        have hM2 := HM2.out
        rw [HZ.out, ans_zero x1 hv0] at hM2
        have e18' := e18
        rw [HZ.out, ans_zero x1 hv0] at e18'
        clear e18
        cases ha : ans v x1 with
        | none =>
          rw [ha] at hM1 hM2 e11 e18'
          have hM1' : (M1.toList == []) = false := hM1
          have hM2' : (M2.toList == []) = false := hM2
          have e11' : w4.cell? ⟨b1, 4, none⟩ = some (.int .u64 n) := e11
          have e18'' : w4.cell? ⟨b2, 4, none⟩ = some (.int .u64 n) := e18'
          clear hM1 hM2 e11 e18' ha
          go_upto_region 20 with fail
          go_quiet (fail)
          go_upto_region 22 with fail
          go_quiet (fail)
          go_wp2
          go_ret
          exact ⟨rfl, by first | exact HB4.out | exact HB4.out.trans ⟨rfl, rfl, rfl, Nat.le_refl _, fun _ _ => rfl⟩⟩
        | some d =>
          rw [ha] at hM1 hM2 e11 e18'
          have hM1' : (M1.toList == []) = true := hM1
          have hM2' : (M2.toList == []) = true := hM2
          have e11' : w4.cell? ⟨b1, 4, none⟩ = some (.int .u64 (d : Int)) := e11
          have e18'' : w4.cell? ⟨b2, 4, none⟩ = some (.int .u64 (d : Int)) := e18'
          clear hM1 hM2 e11 e18' ha
          go_upto_region 20 with fail
          go_quiet (fail)
          go_upto_region 22 with fail
          go_quiet (fail)
          go_wp2
          go_ret
          exact ⟨rfl, by first | exact HB4.out | exact HB4.out.trans ⟨rfl, rfl, rfl, Nat.le_refl _, fun _ _ => rfl⟩⟩
    · have g1 : decide ((b.toNat : Int) < 48) = false := by simp; omega
      have g2 : decide ((57 : Int) < (b.toNat : Int)) = true := by simp; omega
      cases hv0 : (v.toList == []) with
      | true =>
        go_upto_region 20 with fail
        go_quiet (fail)
        go_upto_region 22 with fail
        go_quiet (fail)
        go_wp2
        go_ret
        exact ⟨rfl, by first | exact HB4.out | exact HB4.out.trans ⟨rfl, rfl, rfl, Nat.le_refl _, fun _ _ => rfl⟩⟩
      | false =>
        have hM1 := HM1.out
        have hM2 := HM2.out
        rw [HZ.out, ans_zero x1 hv0] at hM2
        have e18' := e18
        rw [HZ.out, ans_zero x1 hv0] at e18'
        clear e18
        cases ha : ans v x1 with
        | none =>
          rw [ha] at hM1 hM2 e11 e18'
          have hM1' : (M1.toList == []) = false := hM1
          have hM2' : (M2.toList == []) = false := hM2
          have e11' : w4.cell? ⟨b1, 4, none⟩ = some (.int .u64 n) := e11
          have e18'' : w4.cell? ⟨b2, 4, none⟩ = some (.int .u64 n) := e18'
          clear hM1 hM2 e11 e18' ha
          go_upto_region 20 with fail
          go_quiet (fail)
          go_upto_region 22 with fail
          go_quiet (fail)
          go_wp2
          go_ret
          exact ⟨rfl, by first | exact HB4.out | exact HB4.out.trans ⟨rfl, rfl, rfl, Nat.le_refl _, fun _ _ => rfl⟩⟩
        | some d =>
          rw [ha] at hM1 hM2 e11 e18'
          have hM1' : (M1.toList == []) = true := hM1
          have hM2' : (M2.toList == []) = true := hM2
          have e11' : w4.cell? ⟨b1, 4, none⟩ = some (.int .u64 (d : Int)) := e11
          have e18'' : w4.cell? ⟨b2, 4, none⟩ = some (.int .u64 (d : Int)) := e18'
          clear hM1 hM2 e11 e18' ha
          go_upto_region 20 with fail
          go_quiet (fail)
          go_upto_region 22 with fail
          go_quiet (fail)
          go_wp2
          go_ret
          exact ⟨rfl, by first | exact HB4.out | exact HB4.out.trans ⟨rfl, rfl, rfl, Nat.le_refl _, fun _ _ => rfl⟩⟩
  | true =>
    have hb1 : 48 ≤ b.toNat := by simp [isD] at hD; omega
    have hb2 : b.toNat ≤ 57 := by simp [isD] at hD; omega
    have g1 : decide ((b.toNat : Int) < 48) = false := by simp; omega
    have g2 : decide ((57 : Int) < (b.toNat : Int)) = false := by simp; omega
    clear hD
    cases hv0 : (v.toList == []) with
    | true =>
      go_upto_region 20 with fail
      go_quiet (fail)
      go_upto_region 22 with fail
      go_quiet (fail)
      go_wp2
      go_ret
      exact ⟨rfl, by first | exact HB4.out | exact HB4.out.trans ⟨rfl, rfl, rfl, Nat.le_refl _, fun _ _ => rfl⟩⟩
    | false =>
      have hM1 := HM1.out
      have hM2 := HM2.out
      rw [HZ.out, ans_zero x1 hv0] at hM2
      have e18' := e18
      rw [HZ.out, ans_zero x1 hv0] at e18'
      clear e18
      cases ha : ans v x1 with
      | none =>
        rw [ha] at hM1 hM2 e11 e18'
        have hM1' : (M1.toList == []) = false := hM1
        have hM2' : (M2.toList == []) = false := hM2
        have e11' : w4.cell? ⟨b1, 4, none⟩ = some (.int .u64 n) := e11
        have e18'' : w4.cell? ⟨b2, 4, none⟩ = some (.int .u64 n) := e18'
        clear hM1 hM2 e11 e18' ha
        go_upto_region 20 with fail
        go_quiet (fail)
        go_upto_region 22 with fail
        go_quiet (fail)
        go_wp2
        go_ret
        exact ⟨rfl, by first | exact HB4.out | exact HB4.out.trans ⟨rfl, rfl, rfl, Nat.le_refl _, fun _ _ => rfl⟩⟩
      | some d =>
        rw [ha] at hM1 hM2 e11 e18'
        have hM1' : (M1.toList == []) = true := hM1
        have hM2' : (M2.toList == []) = true := hM2
        have e11' : w4.cell? ⟨b1, 4, none⟩ = some (.int .u64 (d : Int)) := e11
        have e18'' : w4.cell? ⟨b2, 4, none⟩ = some (.int .u64 (d : Int)) := e18'
        clear hM1 hM2 e11 e18' ha
        go_upto_region 20 with fail
        go_quiet (fail)
        go_upto_region 22 with fail
        go_quiet (fail)
        go_wp2
        go_ret
        exact ⟨rfl, by first | exact HB4.out | exact HB4.out.trans ⟨rfl, rfl, rfl, Nat.le_refl _, fun _ _ => rfl⟩⟩
end Go.Proofs.Qxb6608618aFmt
