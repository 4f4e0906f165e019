import Derived.Test.Qxb6608620aFmtCover
import Derived.Test.Qxb6608620aFmtSize
namespace Go.Proofs.Qxb6608620aFmt
open Go.RowKit Go.Joins Go.Kit Go.Extern.Stop Go.Stop Go.Extern
set_option linter.unusedVariables false
set_option linter.unusedSimpArgs false

theorem any_false {xs : List ByteArray} {p : ByteArray → Bool} (h : ∀ i, i < xs.length → p (xs.getD i ⟨#[]⟩) = false) : xs.any p = false := by
  rw [List.any_eq_false]
  intro x hx
  obtain ⟨q, hq, rfl⟩ := List.getElem_of_mem hx
  have := h q hq
  simp [List.getD, hq] at this
  simp [this]
theorem any_true {xs : List ByteArray} {p : ByteArray → Bool} {i : Nat} (hi : i < xs.length) (h : p (xs.getD i ⟨#[]⟩) = true) : xs.any p = true := by
  rw [List.any_eq_true]
  refine ⟨xs[i], List.getElem_mem hi, ?_⟩
  simpa [List.getD, hi] using h

theorem Below.next {B : Nat} {w wr w1 : World} (h : Below B w wr) (h1 : Below wr.heap.size wr w1) (hB : B ≤ wr.heap.size) : Below B w w1 := h.trans (h1.mono hB)

set_option maxHeartbeats 4000000 in
theorem cover21 (F : Interp) (a : Option Addr) (cp : Nat) (xs : List ByteArray) (r a0 c : ByteArray) (w : World) (hF : F.answers w.tape) (hn : xs.length ≤ 1048576) (hx : ∀ x ∈ xs, x.size ≤ 1048576) (hr : Sl w a xs.length (fun i => (strs xs).getD i undef)) :
    Calls Tryf.prog 21 #[.slice a xs.length cp, P3 r a0 c, fn22 r a0 c] w fun e w' => e = .returned (.bool (xs.any (cov1 (r, a0, c)))) ∧ Below w.heap.size w w' := by
  have HF := hide hF
  have HR := hide hr
  have HX := hide hx
  clear hF hr hx
  have HT := hide (fun i => @any_true xs (cov1 (r, a0, c)) i)
  have HN := hide (@any_false xs (cov1 (r, a0, c)))
  obtain ⟨ans, hans⟩ : ∃ ans, ans = xs.any (cov1 (r, a0, c)) := ⟨_, rfl⟩
  rw [← hans]
  have HA := hide hans
  clear hans
  go_enter Tryf.func21, Tryf.ntmps21
  go_wp2
  go_loopw [13] (fun i wr => ∃ k : Nat, k ≤ xs.length ∧ i = .int .i64 k ∧ Hid (∀ i, i < k → cov1 (r, a0, c) (xs.getD i ⟨#[]⟩) = false) ∧ Hid (Below w.heap.size w wr) ∧ Hid (wr.heap[w.heap.size]? = some (.cells #[.string r, .string a0, .string c] 54 (0, 0)))) (fun i _ => xs.length - (intOf i).toNat)
  case atStart => exact ⟨0, Nat.zero_le _, rfl, (fun i hi => absurd hi (Nat.not_lt_zero _)), (Below.refl _ w).alloc (Nat.le_refl _) _, heap_new _ _⟩
  case round =>
    obtain ⟨k, hk, rfl, hall, hbel, hbox⟩ := hrel
    by_cases hlt : k < xs.length
    · obtain ⟨b, o, ha, hc⟩ := HR.out.later hbel.out (Nat.le_refl _) k hlt
      obtain ⟨x, ex⟩ : ∃ x, x = xs.getD k ⟨#[]⟩ := ⟨_, rfl⟩
      replace hc : wr.cell? ⟨b, o + k, none⟩ = some (.string x) := by rw [ex, ← strs_get hlt]; exact hc
      have hz : x.size ≤ 1048576 := by rw [ex]; exact HX.out _ (by simp [List.getD, hlt])
      have EX := hide ex
      clear ex
      subst ha
      cases hg : grantOf x with
      | none =>
        have HS : Hid (∀ i, i < k + 1 → cov1 (r, a0, c) (xs.getD i ⟨#[]⟩) = false) := fun i hi => by
          by_cases e : i = k
          · subst e; rw [← EX.out]; simp [cov1, hg]
          · exact hall.out i (by omega)
        have HG := hide hg
        clear hall hg
        go_wp2_with (first | (go_at_call 13; go_must (refine (grant_none F x _ (by rw [hbel.out.tape]; exact HF.out) (by omega) HG.out).mono ?_; rintro e w1 ⟨⟨y, rfl⟩, hb⟩; have HB := hide hb; clear hb)))
        go_roundw
        case rel =>
          refine ⟨k + 1, by omega, by go_num, HS, ?_, ?_⟩
          · exact ((hbel.out.trans (HB.out.mono hbel.out.size)).alloc (Nat.le_trans hbel.out.size HB.out.size) _)
          · exact heap_old (blk HB.out hbox.out (lt_of hbox.out))
        case measure => simp [intOf]; omega
      | some g =>
        obtain ⟨gr, ga, gc⟩ := g
        have HG := hide hg
        cases hcv : covG (gr, ga, gc) (r, a0, c) with
        | true =>
          have HV : Hid (ans = true) := HA.out.trans (HT.out k hlt (by rw [← EX.out]; simp [cov1, hg, hcv]))
          clear hall hg
          go_wp2_with (first | (go_at_call 13; go_must (refine (grant_some x gr ga gc _ (by omega) HG.out).mono ?_; rintro e w1 ⟨rfl, hb⟩; have HB := hide hb; have b0 := rowc (blk HB.out hbox.out (lt_of hbox.out)) 0 rfl; have b1 := rowc (blk HB.out hbox.out (lt_of hbox.out)) 1 rfl; have b2 := rowc (blk HB.out hbox.out (lt_of hbox.out)) 2 rfl; have bl : w.heap.size < w1.heap.size := (Nat.lt_of_lt_of_le (lt_of hbox.out) HB.out.size); clear hb)) | (go_at_call 26; go_must (refine (covers26 gr ga gc r a0 c _).mono ?_; rintro e w2 ⟨rfl, hb⟩; rw [hcv]; have HB2 := hide hb; clear hb)))
          go_ret
          exact ⟨ret_bool HV.out.symm, Below.next (Below.alloc (Below.next hbel.out HB.out hbel.out.size) (Nat.le_trans hbel.out.size HB.out.size) _) HB2.out (by simp; omega)⟩
        | false =>
          have HS : Hid (∀ i, i < k + 1 → cov1 (r, a0, c) (xs.getD i ⟨#[]⟩) = false) := fun i hi => by
            by_cases e : i = k
            · subst e; rw [← EX.out]; simp [cov1, hg, hcv]
            · exact hall.out i (by omega)
          clear hall hg
          go_wp2_with (first | (go_at_call 13; go_must (refine (grant_some x gr ga gc _ (by omega) HG.out).mono ?_; rintro e w1 ⟨rfl, hb⟩; have HB := hide hb; have b0 := rowc (blk HB.out hbox.out (lt_of hbox.out)) 0 rfl; have b1 := rowc (blk HB.out hbox.out (lt_of hbox.out)) 1 rfl; have b2 := rowc (blk HB.out hbox.out (lt_of hbox.out)) 2 rfl; have bl : w.heap.size < w1.heap.size := (Nat.lt_of_lt_of_le (lt_of hbox.out) HB.out.size); clear hb)) | (go_at_call 26; go_must (refine (covers26 gr ga gc r a0 c _).mono ?_; rintro e w2 ⟨rfl, hb⟩; rw [hcv]; have HB2 := hide hb; clear hb)))
          go_roundw
          case rel =>
            refine ⟨k + 1, by omega, by go_num, HS, ?_, ?_⟩
            · exact Below.next (Below.alloc (Below.next hbel.out HB.out hbel.out.size) (Nat.le_trans hbel.out.size HB.out.size) _) HB2.out (by simp; omega)
            · exact blk HB2.out (heap_old (blk HB.out hbox.out (lt_of hbox.out))) (by simp; omega)
          case measure => simp [intOf]; omega
    · have HV : Hid (ans = false) := HA.out.trans (HN.out (fun i hi => hall.out i (by omega)))
      go_wp2
      go_ret
      exact ⟨ret_bool HV.out.symm, hbel.out⟩

/-- of the blocks that were there only b may have turned; b is o -/
structure Upd (b : Nat) (o : Obj) (w w' : World) : Prop where
  os : w'.os = w.os
  tape : w'.tape = w.tape
  output : w'.output = w.output
  size : w.heap.size ≤ w'.heap.size
  row : w'.heap[b]? = some o
  block : ∀ k, k < w.heap.size → k ≠ b → w'.heap[k]? = w.heap[k]?

theorem Upd.set {b : Nat} {x v : Value} {t : TypeId} {w w1 : World} (hb : Below w.heap.size w w1) (hr : w.heap[b]? = some (.cells #[x] t (0, 0))) :
    Upd b (.cells #[v] t (0, 0)) w (w1.setCell ⟨b, 0, none⟩ v) := by
  have h1 : w1.heap[b]? = some (.cells #[x] t (0, 0)) := blk hb hr (lt_of hr)
  refine ⟨hb.os, hb.tape, hb.output, by simpa using hb.size, ?_, fun k hk hn => (Below.heap_setCell _ _ _ _ hn).trans (hb.block k hk)⟩
  rw [setCell_eq_setRow w1 b 0 _ t (0, 0) _ h1, setRow_heap w1 b _ _ t _ h1]
  rfl
theorem cell_set {w : World} {k i ba : Nat} {u v : Value} (hne : k ≠ ba) (h : w.cell? ⟨k, i, none⟩ = some u) : (w.setCell ⟨ba, 0, none⟩ v).cell? ⟨k, i, none⟩ = some u :=
  (World.cell?_of_block (Below.heap_setCell _ _ _ _ hne)).trans h
theorem upd_drew {b : Nat} {o : Obj} {w w' : World} (h : Upd b o w w') : Upd b o w w'.drew := ⟨h.os, h.tape, h.output, h.size, h.row, h.block⟩

set_option maxHeartbeats 4000000 in
theorem clo20 (F : Interp) (t n gc bp bw ba p : Nat) (ga : Option Addr) (G : Nat → List ByteArray) (r a0 c : ByteArray) (x : Bool) (w : World) (hF : F.answers w.tape) (ht : t < n) (hn : n ≤ 2097152)
    (hG : (G t).length ≤ 1048576 ∧ ∀ x ∈ G t, x.size ≤ 1048576) (h1 : w.cell? ⟨bp, 0, none⟩ = some (.pointer (some ⟨p, 0, none⟩))) (h2 : w.cell? ⟨p, 2, none⟩ = some (.slice ga n gc)) (hr : Rws w ga n (fun i => strs (G i)))
    (h3 : w.cell? ⟨bw, 0, none⟩ = some (.string r)) (h4 : w.cell? ⟨bw, 1, none⟩ = some (.string a0)) (h5 : w.cell? ⟨bw, 2, none⟩ = some (.string c)) (hb : w.heap[ba]? = some (.cells #[.bool x] 4 (0, 0))) :
    Calls Tryf.prog 20 #[.int .i64 (t : Int), .pointer (some ⟨bp, 0, none⟩), .pointer (some ⟨bw, 0, none⟩), .pointer (some ⟨ba, 0, none⟩)] w fun e w' =>
      e = .returned (.bool ((G t).any (cov1 (r, a0, c)))) ∧ Upd ba (.cells #[.bool ((G t).any (cov1 (r, a0, c)))] 4 (0, 0)) w w' := by
  have HF := hide hF
  have HB := hide hb
  have HG := hide hG
  obtain ⟨b, o, v, ha, hc, a', c', rfl, q1, q2, q3⟩ := hr t ht
  have HQ := hide q3
  rw [len_strs] at hc q1
  subst ha
  have hcb := fun i => cell_of_row w ba i _ 4 (0, 0) hb
  have n1 : bp ≠ ba := by
    rintro rfl
    rw [hcb 0] at h1
    simp at h1
  have n2 : p ≠ ba := by
    rintro rfl
    rw [hcb 2] at h2
    simp at h2
  have n3 : bw ≠ ba := by
    rintro rfl
    rw [hcb 0] at h3
    simp at h3
  have n4 : b ≠ ba := by
    rintro rfl
    rw [hcb (o + t)] at hc
    by_cases e : o + t = 0
    · rw [e] at hc
      simp at hc
    · have : (#[Value.bool x] : Array Value)[o + t]? = none := by simp; omega
      rw [this] at hc
      cases hc
  have h6 := fun w' (hh : Below w.heap.size w w') => rowc (blk hh HB.out (lt_of HB.out)) 0 rfl
  have h7 := fun w' (hh : Below w.heap.size w w') => rowf (blk hh HB.out (lt_of HB.out)) 0
  have H6 := hide h6
  have H7 := hide h7
  clear hF hb hG hr q3 h6 h7 hcb
  go_enter Tryf.func20, Tryf.ntmps20
  go_wp2
  go_region_held3 (fun wx => wx.cell? ⟨bp, 0, none⟩ = some (.pointer (some ⟨p, 0, none⟩)) ∧ wx.cell? ⟨p, 2, none⟩ = some (.slice (some ⟨b, o, none⟩) n gc) ∧ wx.cell? ⟨b, o + t, none⟩ = some (.slice a' (G t).length c') ∧ wx.cell? ⟨bw, 0, none⟩ = some (.string r) ∧ wx.cell? ⟨bw, 1, none⟩ = some (.string a0) ∧ wx.cell? ⟨bw, 2, none⟩ = some (.string c)) (first | go_keep | exact ⟨cell_later HB1.out h1, cell_later HB1.out h2, cell_later HB1.out hc, cell_later HB1.out h3, cell_later HB1.out h4, cell_later HB1.out h5⟩ | exact ⟨cell_set n1 (cell_later HB1.out h1), cell_set n2 (cell_later HB1.out h2), cell_set n4 (cell_later HB1.out hc), cell_set n3 (cell_later HB1.out h3), cell_set n3 (cell_later HB1.out h4), cell_set n3 (cell_later HB1.out h5)⟩) (first | (go_at_call 21; go_must (refine (cover21 F a' c' (G t) r a0 c _ (by exact HF.out) HG.out.1 HG.out.2 (by rw [← len_strs]; exact HQ.out)).mono ?_; rintro e w1 ⟨rfl, hb0⟩; have hb1 : Below w.heap.size w w1 := ⟨hb0.os, hb0.tape, hb0.output, hb0.size, hb0.block⟩; clear hb0; have k6 := H6.out w1 hb1; have k7 := H7.out w1 hb1; have HB1 : Hid (Below w.heap.size w w1) := hb1; clear hb1)))
  go_wp2
  go_ret
  exact ⟨rfl, Upd.set HB1.out HB.out⟩
end Go.Proofs.Qxb6608620aFmt
