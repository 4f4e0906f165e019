import Derived.Test.Qxb6608620aFmtLine2
namespace Go.Proofs.Qxb6608620aFmt
open Go.RowKit Go.Joins Go.Kit Go.Extern.Stop Go.Stop Go.Extern
set_option linter.unusedVariables false
set_option linter.unusedSimpArgs false

theorem line19 (F : Interp) (u0 t n bp bw ba p : Nat) (E : Nat → List Nat) (G : Nat → List ByteArray) (r a0 c : ByteArray) (w : World) (hF : F.answers w.tape) (hu : u0 < n) (hfit : Fits n E G) (hE : Env w t n bp bw ba p E G r a0 c) (hb : w.heap[ba]? = some (.cells #[.bool false] 4 (0, 0))) :
    Calls Tryf.prog 19 #[.pointer (some ⟨t, 0, none⟩), .int .i64 (u0 : Int), fn20 bp bw ba] w fun e w' => e = .returned (.tuple #[]) ∧ LineEnd E (fun u => (G u).any (cov1 (r, a0, c))) u0 ba w w' := by
  by_cases h0 : E u0 = []
  · exact line_leaf F u0 t n bp bw ba p E G r a0 c w hF hu hfit hE hb h0
  · exact line_walk F u0 t n bp bw ba p E G r a0 c w hF hu hfit hE hb (List.length_pos_iff.2 h0)

theorem chk_bad (F : Interp) (p n : Nat) (K : Nat → ByteArray) (E : Nat → List Nat) (G : Nat → List ByteArray) (tm perm : ByteArray) (w : World) (hF : F.answers w.tape) (hz : perm.size ≤ 2097152) (hq : permOf perm = none) :
    Calls Tryf.prog 12 #[.pointer (some ⟨p, 0, none⟩), .string tm, .string perm] w fun e w' => (∃ x, e = .returned (.tuple #[.bool false, .iface 83 x])) ∧ Below w.heap.size w w' := by
  have HF := hide hF
  have HQ := hide hq
  clear hF hq
  go_enter Tryf.func12, Tryf.ntmps12
  go_wp2_with (first | (go_at_call 17; go_must (refine (perm_none F perm _ (by exact HF.out) hz HQ.out).mono ?_; rintro e w1 ⟨⟨x, rfl⟩, hb⟩; have HB := hide hb; clear hb)))
  go_ret2
  have h0 : Below w.heap.size w (w.alloc (.cells #[.pointer (some ⟨p, 0, none⟩)] 31)) := (Below.refl _ w).alloc (Nat.le_refl _) _
  exact ⟨⟨x, rfl⟩, ((Below.next h0 HB.out (by simp)).alloc (by have := HB.out.size; simp at this; omega) _)⟩

theorem chk_miss (F : Interp) (p n : Nat) (K : Nat → ByteArray) (E : Nat → List Nat) (G : Nat → List ByteArray) (tm perm r a0 c : ByteArray) (w : World) (hF : F.answers w.tape) (hP : Pol w p n K E G) (hz : perm.size ≤ 2097152) (hz2 : tm.size ≤ 2097152) (hq : permOf perm = some (r, a0, c)) (hs : ∀ i, i < n → tm ≠ K i) :
    Calls Tryf.prog 12 #[.pointer (some ⟨p, 0, none⟩), .string tm, .string perm] w fun e w' => (∃ x, e = .returned (.tuple #[.bool false, .iface 83 x])) ∧ Below w.heap.size w w' := by
  have HF := hide hF
  have HQ := hide hq
  have HP := hide hP
  have HS := hide hs
  clear hF hq hP hs
  have h0 : Hid (Below w.heap.size w (w.alloc (.cells #[.pointer (some ⟨p, 0, none⟩)] 31))) := (Below.refl _ w).alloc (Nat.le_refl _) _
  go_enter Tryf.func12, Tryf.ntmps12
  go_wp2_with (first | (go_at_call 17; go_must (refine (perm_some perm r a0 c _ hz HQ.out).mono ?_; rintro e w1 ⟨rfl, hb⟩; have HB : Hid (Below w.heap.size w w1) := Below.next h0.out hb (by simp); have hw1 : w.heap.size < w1.heap.size := (by have := hb.size; simp at this; omega); have b0 := rowc (blk hb (heap_new _ _) (by simp)) 0 rfl; simp at b0; clear hb)) | (go_at_call 18; go_must (refine (tmpl_none F p n K E G tm _ (by show F.answers w1.tape; rw [HB.out.tape]; exact HF.out) (HP.out.later (HB.out.alloc (by omega) _)) HS.out hz2).mono ?_; rintro e w2 ⟨⟨x, rfl⟩, hb⟩; have HB2 := hide hb; clear hb)))
  go_ret2
  exact ⟨⟨x, rfl⟩, Below.next (HB.out.alloc (by omega) _) HB2.out (by simp; omega)⟩

theorem env_mk {w w1 : World} {t n p gc pc : Nat} {ga pa : Option Addr} {tx gr mp : Value} {E : Nat → List Nat} {G : Nat → List ByteArray} {r a0 c : ByteArray}
    (h1 : w.heap[p]? = some (.cells #[.pointer none, .pointer (some ⟨t, 0, none⟩), .slice ga n gc, gr] 62 (0, 0))) (h2 : w.heap[t]? = some (.cells #[tx, mp, .slice pa n pc] 71 (0, 0))) (h4 : Rws w pa n (fun i => nats (E i))) (h5 : Rws w ga n (fun i => strs (G i)))
    (hb : Below w.heap.size w w1) (h0 : w1.heap[w.heap.size]? = some (.cells #[.pointer (some ⟨p, 0, none⟩)] 31 (0, 0))) :
    Env ((w1.alloc (.cells #[.string r, .string a0, .string c] 54)).alloc (.cells #[.bool false] 4)) t n w.heap.size w1.heap.size (w1.heap.size + 1) p E G r a0 c := by
  have hl := lt_of h0
  have hB : Below w.heap.size w ((w1.alloc (.cells #[.string r, .string a0, .string c] 54)).alloc (.cells #[.bool false] 4)) := (hb.alloc (by omega) _).alloc (by simp; omega) _
  exact ⟨⟨pa, pc, rowc (blk hB h2 (lt_of h2)) 2 rfl, h4.later hB (Nat.le_refl _)⟩, rowc (heap_old (heap_old h0)) 0 rfl, ⟨ga, gc, rowc (blk hB h1 (lt_of h1)) 2 rfl, h5.later hB (Nat.le_refl _)⟩,
    rowc (heap_old (heap_new _ _)) 0 rfl, rowc (heap_old (heap_new _ _)) 1 rfl, rowc (heap_old (heap_new _ _)) 2 rfl⟩

theorem below_upd {B ba : Nat} {o : Obj} {w wr w' : World} (h : Below B w wr) (hu : Upd ba o wr w') (hb : B ≤ ba) (hs : B ≤ wr.heap.size) : Below B w w' :=
  ⟨hu.os.trans h.os, hu.tape.trans h.tape, hu.output.trans h.output, Nat.le_trans h.size hu.size, fun i hi => (hu.block i (by omega) (by omega)).trans (h.block i hi)⟩

set_option maxHeartbeats 4000000 in
theorem chk_ok (F : Interp) (p n : Nat) (K : Nat → ByteArray) (E : Nat → List Nat) (G : Nat → List ByteArray) (i : Nat) (perm r a0 c : ByteArray) (w : World) (hF : F.answers w.tape) (hP : Pol w p n K E G) (hfit : Fits n E G) (hz : perm.size ≤ 2097152) (hi : i < n) (hz2 : (K i).size ≤ 2097152) (hq : permOf perm = some (r, a0, c)) :
    Calls Tryf.prog 12 #[.pointer (some ⟨p, 0, none⟩), .string (K i), .string perm] w fun e w' => (∃ ans : Bool, Hid (ans = true ↔ ∃ u, Reach E i u ∧ (G u).any (cov1 (r, a0, c)) = true) ∧ e = .returned (.tuple #[.bool ans, .nilIface])) ∧ Below w.heap.size w w' := by
  obtain ⟨t, mb, gc, pc, ga, pa, tx, gr, h1, h2, h3, h4, h5⟩ := id hP
  have HF := hide hF
  have HQ := hide hq
  have HP := hide hP
  have H1 := hide h1
  have H2 := hide h2
  have H4 := hide h4
  have H5 := hide h5
  have HT := hide hfit
  have hn := hfit.f1
  have hpl := lt_of h1
  clear hF hq hP h1 h2 h3 h4 h5 hfit
  have h0 : Hid (Below w.heap.size w (w.alloc (.cells #[.pointer (some ⟨p, 0, none⟩)] 31))) := (Below.refl _ w).alloc (Nat.le_refl _) _
  go_enter Tryf.func12, Tryf.ntmps12
  go_wp2_with (first | (go_at_call 17; go_must (refine (perm_some perm r a0 c _ hz HQ.out).mono ?_; rintro e w1 ⟨rfl, hb⟩; have HB : Hid (Below w.heap.size w w1) := Below.next h0.out hb (by simp); have hw1 : w.heap.size < w1.heap.size := (by have := hb.size; simp at this; omega); have hw2 : w.heap.size < w1.heap.size + 1 := (by omega); have HX := hide (blk hb (heap_new _ _) (by simp)); have b0 := rowc HX.out 0 rfl; have b1 := rowc (blk HB.out H1.out hpl) 1 rfl; have p1 : p < w1.heap.size := (by omega); have p2 : p < w1.heap.size + 1 := (by omega); simp at b0 b1; clear hb)) | (go_at_call 18; go_must (refine (tmpl_some p n K E G i _ (HP.out.later (HB.out.alloc (by omega) _)) hi hz2 hn).mono ?_; rintro e w2 ⟨rfl, hw⟩; rw [hw]; clear hw w2)) | (go_at_call 19; go_must (refine (line19 F i t n w.heap.size w1.heap.size (w1.heap.size + 1) p E G r a0 c _ (by show F.answers w1.tape; rw [HB.out.tape]; exact HF.out) hi HT.out (env_mk H1.out H2.out H4.out H5.out HB.out HX.out) (heap_alloc2_new _ _ _)).mono ?_; rintro e w4 ⟨rfl, ans, hans, hU⟩; have HA := hide hans; have HU := hide hU; have y := rowc hU.row 0 rfl; simp at y; clear hans hU)))
  go_ret2
  exact ⟨⟨ans, HA, rfl⟩, below_upd ((HB.out.alloc (by omega) _).alloc (by simp; omega) _) HU.out (by omega) (by simp; omega)⟩
end Go.Proofs.Qxb6608620aFmt
