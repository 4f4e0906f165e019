import Derived.Test.Qxb6608618aFmtNum
namespace Go.Proofs.Qxb6608618aFmt
open Go.RowKit Go.Joins Go.Kit Go.Extern.Stop Go.Stop Go.Extern
set_option linter.unusedVariables false
set_option linter.unusedSimpArgs false

/-- of the blocks that were there only b may have turned; b holds cs -/
structure Upd (b : Nat) (cs : Array Value) (w w' : World) : Prop where
  os : w'.os = w.os
  tape : w'.tape = w.tape
  output : w'.output = w.output
  size : w.heap.size ≤ w'.heap.size
  row : w'.heap[b]? = some (.cells cs 30 (0, 0))
  block : ∀ k, k < w.heap.size → k ≠ b → w'.heap[k]? = w.heap[k]?

theorem Upd.of_below {b : Nat} {cs : Array Value} {w w' : World} (h : Below w.heap.size w w') (hr : w.heap[b]? = some (.cells cs 30 (0, 0))) : Upd b cs w w' :=
  ⟨h.os, h.tape, h.output, h.size, (h.block b (Array.getElem?_eq_some_iff.1 hr).1).trans hr, fun k hk _ => h.block k hk⟩

theorem Upd.set {b : Nat} {p : ByteArray} {u h s n : Int} {m : ByteArray} {f : Int} {w w1 : World} (hb : Below w.heap.size w w1) (hr : w.heap[b]? = some (.cells (Q7 p u h s n m f) 30 (0, 0))) (x : Nat) :
    Upd b (Q7 p u h s (x : Int) m f) w (w1.setCell ⟨b, 4, none⟩ (.int .u64 x)) := by
  have h1 := (Upd.of_below hb hr).row
  refine ⟨hb.os, hb.tape, hb.output, by simpa using hb.size, ?_, fun k hk hn => (Below.heap_setCell _ _ _ _ hn).trans (hb.block k hk)⟩
  rw [setCell_eq_setRow w1 b 4 _ 30 (0, 0) _ h1, setRow_heap w1 b _ _ 30 _ h1]
  rfl
theorem heap_new (w : World) (o : Obj) : (w.alloc o).heap[w.heap.size]? = some o := by
  show (w.heap.push o)[w.heap.size]? = some o
  simp
theorem heap_old {w : World} {k : Nat} {o ob : Obj} (h : w.heap[k]? = some o) : (w.alloc ob).heap[k]? = some o :=
  (Below.heap_alloc w ob k (Array.getElem?_eq_some_iff.1 h).1).trans h
theorem new1 (w : World) (o1 o2 : Obj) : ((w.alloc o1).alloc o2).heap[w.heap.size + 1]? = some o2 := by
  have := heap_new (w.alloc o1) o2
  simpa using this
theorem new2 (w : World) (o1 o2 o3 : Obj) : (((w.alloc o1).alloc o2).alloc o3).heap[w.heap.size + 1 + 1]? = some o3 := by
  have := heap_new ((w.alloc o1).alloc o2) o3
  simpa using this
theorem rowc {wx : World} {b : Nat} {cs : Array Value} {t : TypeId} (h : wx.heap[b]? = some (.cells cs t (0, 0))) (i : Nat) {v : Value} (hv : cs[i]? = some v) : wx.cell? ⟨b, i, none⟩ = some v := by
  rw [cell_of_row wx b i cs t (0, 0) h, hv]
theorem set12 (b : Nat) (u : Int) (w : World) (v : Value) (hc : w.cell? ⟨b, 4, none⟩ = some v) (hz : w.frozen? ⟨b, 4, none⟩ = false) :
    Calls Tryf.prog 12 #[.pointer (some ⟨b, 0, none⟩), .int .u64 u] w fun e w' => e = .returned (.tuple #[]) ∧ w' = w.setCell ⟨b, 4, none⟩ (.int .u64 u) := by
  go_enter Tryf.func12, Tryf.ntmps12
  go_wp2
  go_returns
  exact ⟨rfl, rfl⟩

theorem nk11 (what : ByteArray) (mx : Int) (w : World) :
    Calls Tryf.prog 11 #[.string what, .int .u64 mx, .func (.func 12) #[] #[]] w fun e w' => e = .returned (.func (.func 14) #[] #[.pointer (some ⟨w.heap.size + 1, 0, none⟩), .pointer (some ⟨w.heap.size, 0, none⟩), .pointer (some ⟨w.heap.size + 1 + 1, 0, none⟩)]) ∧ w' = ((w.alloc (.cells #[.string what] 9)).alloc (.cells #[.int .u64 mx] 23)).alloc (.cells #[.func (.func 12) #[] #[]] 40) := by
  go_enter Tryf.func11, Tryf.ntmps11
  go_wp2
  go_ret
  exact ⟨rfl, rfl⟩

theorem clo14 (F : Interp) (b pm pw ps : Nat) (p : ByteArray) (u h s n : Int) (m : ByteArray) (f : Int) (v what : ByteArray) (mx : Int) (w : World) (hb : w.heap[b]? = some (.cells (Q7 p u h s n m f) 30 (0, 0)))
    (cm : w.cell? ⟨pm, 0, none⟩ = some (.int .u64 mx)) (cw : w.cell? ⟨pw, 0, none⟩ = some (.string what)) (cs : w.cell? ⟨ps, 0, none⟩ = some (.func (.func 12) #[] #[]))
    (hF : F.told.answers w.tape) (hv : v.size ≤ 2097152) (hwh : what.size ≤ 2097152) (hw : (Lit.int .u64 mx).wf = true) (hE : Errs w) :
    Calls Tryf.prog 14 #[.pointer (some ⟨b, 0, none⟩), .string v, .pointer (some ⟨pm, 0, none⟩), .pointer (some ⟨pw, 0, none⟩), .pointer (some ⟨ps, 0, none⟩)] w fun e w' =>
      ∃ M : ByteArray, (M.toList == []) = (ans v mx).isSome ∧ e = .returned (.tuple #[.int .i64 0, .string M]) ∧ Upd b (Q7 p u h s (((ans v mx).map Int.ofNat).getD n) m f) w w' := by
  have HB := hide hb
  have HF := hide hF
  have HE := hide hE
  have CM := hide (fun w' (hb : Below w.heap.size w w') => cell_later hb cm)
  have CW := hide (fun w' (hb : Below w.heap.size w w') => cell_later hb cw)
  have CS := hide (fun w' (hb : Below w.heap.size w w') => cell_later hb cs)
  clear hb hF hE
  cases ha : ans v mx with
  | none =>
    go_enter Tryf.func14, Tryf.ntmps14
    go_wp2_with (first
      | (go_at_call 15; go_must (refine (num15 v mx _ hv HE.out).mono ?_; rintro e w1 ⟨rfl, hb1⟩; rw [ha]; have cm1 := CM.out _ hb1; have cw1 := CW.out _ hb1; have HB1 := hide hb1; clear hb1))
      | (go_at_call 16; go_must (refine (no16 F v what mx _ (by rw [HB1.out.tape]; exact HF.out) hv hwh hw).mono ?_; rintro e w2 ⟨⟨M, hM, rfl⟩, hb2⟩)))
    go_ret2
    exact ⟨M, hM, rfl, Upd.of_below (HB1.out.trans (hb2.mono HB1.out.size)) HB.out⟩
  | some x =>
    go_enter Tryf.func14, Tryf.ntmps14
    go_wp2_with (first
      | (go_at_call 15; go_must (refine (num15 v mx _ hv HE.out).mono ?_; rintro e w1 ⟨rfl, hb1⟩; rw [ha]; have cs1 := CS.out _ hb1; have HB1 := hide hb1; clear hb1))
      | (go_at_call 12; go_must (refine (set12 b x _ (.int .u64 n) (by rw [cell_of_row _ b 4 _ 30 (0, 0) ((Upd.of_below HB1.out HB.out).row)]; rfl) (by simp [World.frozen?, (Upd.of_below HB1.out HB.out).row])).mono ?_; rintro e w2 ⟨rfl, hw2⟩)))
    go_ret2
    exact ⟨⟨#[]⟩, by rw [tl_nil]; rfl, rfl, Upd.set HB1.out HB.out x⟩

theorem Upd.first {b : Nat} {cs : Array Value} {w w1 w2 : World} (hb : Below w.heap.size w w1) (h : Upd b cs w1 w2) : Upd b cs w w2 :=
  ⟨h.os.trans hb.os, h.tape.trans hb.tape, h.output.trans hb.output, Nat.le_trans hb.size h.size, h.row, fun k hk hn => (h.block k (Nat.lt_of_lt_of_le hk hb.size) hn).trans (hb.block k hk)⟩

/-- one read through numberKey's reader -/
theorem zz8 (F : Interp) (b : Nat) (p : ByteArray) (u h s n : Int) (m : ByteArray) (f : Int) (v what : ByteArray) (mx : Int) (w : World) (hb : w.heap[b]? = some (.cells (Q7 p u h s n m f) 30 (0, 0)))
    (hF : F.told.answers w.tape) (hv : v.size ≤ 2097152) (hwh : what.size ≤ 2097152) (hw : (Lit.int .u64 mx).wf = true) (hE : Errs w) :
    Calls Tryf.prog 8 #[.string what, .int .u64 mx, .pointer (some ⟨b, 0, none⟩), .string v] w fun e w' =>
      ∃ M : ByteArray, (M.toList == []) = (ans v mx).isSome ∧ e = .returned (.tuple #[.int .i64 0, .string M]) ∧ Upd b (Q7 p u h s (((ans v mx).map Int.ofNat).getD n) m f) w w' := by
  have HB := hide hb
  have HF := hide hF
  have HE := hide hE
  clear hb hF hE
  have B3 : Hid (Below w.heap.size w (((w.alloc (.cells #[.string what] 9)).alloc (.cells #[.int .u64 mx] 23)).alloc (.cells #[.func (.func 12) #[] #[]] 40))) :=
    (((Below.refl _ w).alloc (Nat.le_refl _) _).alloc (by simp) _).alloc (by simp; omega) _
  go_enter Tryf.func8, Tryf.ntmps8
  go_wp2_with (first
    | (go_at_call 11; go_must (refine (nk11 what mx _).mono ?_; rintro e w1 ⟨rfl, hw1⟩; rw [hw1]; clear hw1))
    | (go_at_call 14; go_must (refine (clo14 F b (w.heap.size + 1) w.heap.size (w.heap.size + 1 + 1) p u h s n m f v what mx _ (by exact heap_old (heap_old (heap_old HB.out))) (by exact rowc (heap_old (new1 _ _ _)) 0 rfl) (by exact rowc (heap_old (heap_old (heap_new _ _))) 0 rfl) (by exact rowc (new2 _ _ _ _) 0 rfl) (by exact HF.out) hv hwh hw (by exact HE.out.later B3.out)).mono ?_; rintro e w2 ⟨M, hM, rfl, hU⟩)))
  go_ret2
  exact ⟨M, hM, rfl, Upd.first B3.out hU⟩

/-- zzNumberRead says true of what one read has done -/
theorem read9 (p : ByteArray) (u h s n : Int) (m : ByteArray) (f : Int) (v M : ByteArray) (mx : Int) (w : World) (hv : v.size ≤ 2097152) (hM : (M.toList == []) = (ans v mx).isSome) :
    Calls Tryf.prog 9 #[.agg (Q7 p u h s n m f), .int .u64 mx, .string v, .int .i64 0, .string M, .agg (Q7 p u h s (((ans v mx).map Int.ofNat).getD n) m f)] w fun e w' => e = .returned (.bool true) ∧ Below w.heap.size w w' := by
  have he := eql30
  cases hx : val v with
  | none =>
    have ha : ans v mx = none := by simp only [ans, hx]
    rw [ha] at hM ⊢
    have hM' : (M.toList == []) = false := hM
    clear hM ha
    show Calls Tryf.prog 9 #[.agg (Q7 p u h s n m f), .int .u64 mx, .string v, .int .i64 0, .string M, .agg (Q7 p u h s n m f)] w _
    go_enter Tryf.func9, Tryf.ntmps9
    go_wp2_with (first | (go_at_call 13; go_must (refine (dec13 v _ hv).mono ?_; rintro e w' ⟨rfl, hw⟩; rw [hw, hx]; clear hw w')))
    go_ret
    exact ⟨rfl, ((Below.refl _ w).alloc (Nat.le_refl _) _).alloc (by simp) _⟩
  | some d =>
    by_cases hd : (d : Int) ≤ mx
    · have ha : ans v mx = some d := by simp only [ans, hx]; exact if_pos hd
      rw [ha] at hM ⊢
      have hM' : (M.toList == []) = true := hM
      clear hM ha
      obtain rfl := empty_of hM'
      show Calls Tryf.prog 9 #[.agg (Q7 p u h s n m f), .int .u64 mx, .string v, .int .i64 0, .string ⟨#[]⟩, .agg (Q7 p u h s (d : Int) m f)] w _
      go_enter Tryf.func9, Tryf.ntmps9
      go_wp2_with (first | (go_at_call 13; go_must (refine (dec13 v _ hv).mono ?_; rintro e w' ⟨rfl, hw⟩; rw [hw, hx]; clear hw w')))
      go_ret
      exact ⟨rfl, (((Below.refl _ w).alloc (Nat.le_refl _) _).alloc (by simp) _).alloc (by simp; omega) _⟩
    · have ha : ans v mx = none := by simp only [ans, hx]; exact if_neg hd
      rw [ha] at hM ⊢
      have hM' : (M.toList == []) = false := hM
      clear hM ha
      show Calls Tryf.prog 9 #[.agg (Q7 p u h s n m f), .int .u64 mx, .string v, .int .i64 0, .string M, .agg (Q7 p u h s n m f)] w _
      go_enter Tryf.func9, Tryf.ntmps9
      go_wp2_with (first | (go_at_call 13; go_must (refine (dec13 v _ hv).mono ?_; rintro e w' ⟨rfl, hw⟩; rw [hw, hx]; clear hw w')))
      go_ret
      exact ⟨rfl, ((Below.refl _ w).alloc (Nat.le_refl _) _).alloc (by simp) _⟩
end Go.Proofs.Qxb6608618aFmt
